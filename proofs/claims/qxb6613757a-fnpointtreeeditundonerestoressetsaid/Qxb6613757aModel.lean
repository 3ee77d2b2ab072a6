import Derived.Test.Qxb6613757aSet
import Derived.Test.Qxb6613757aApp
import Derived.Test.Qxb6613757aMrg
/-
  zzb1Model: the law's own reckoning of the edit.
-/
namespace Go.Proofs.Qxb6613757a.T
open Go.RowKit
set_option linter.unusedVariables false
set_option linter.unusedSimpArgs false

/-- the entries kept among the first r -/
def Kept (E D K : List Int) (r : Nat) : Prop := K.length ≤ r ∧ Asc K ∧ (∀ x, x ∈ K → ∀ t, r ≤ t → t < E.length → x < el E t) ∧ ∀ x, x ∈ K ↔ x ∈ E.take r ∧ x ∉ D
theorem Kept.yes {E D K : List Int} {r : Nat} (h : Kept E D K r) (hE : Asc E) (hr : r < E.length) (hn : el E r ∉ D) : Kept E D (K ++ [el E r]) (r + 1) := by
  obtain ⟨h1, h2, h3, h4⟩ := h
  refine ⟨by rw [List.length_append, List.length_singleton]; omega, asc_snoc h2 fun x hx => h3 x hx r (Nat.le_refl _) hr, fun x hx t a b => ?_, fun x => ?_⟩
  · rw [List.mem_append, List.mem_singleton] at hx
    rcases hx with hx | rfl
    · exact h3 x hx t (by omega) b
    · exact hE r t (by omega) b
  · rw [List.mem_append, List.mem_singleton, h4, take_snoc_el hr, List.mem_append, List.mem_singleton]
    constructor
    · rintro (⟨a, b⟩ | rfl)
      · exact ⟨.inl a, b⟩
      · exact ⟨.inr rfl, hn⟩
    · rintro ⟨a | rfl, b⟩
      · exact .inl ⟨a, b⟩
      · exact .inr rfl
theorem Kept.no {E D K : List Int} {r : Nat} (h : Kept E D K r) (hr : r < E.length) (hn : el E r ∈ D) : Kept E D K (r + 1) := by
  obtain ⟨h1, h2, h3, h4⟩ := h
  refine ⟨by omega, h2, fun x hx t a b => h3 x hx t (by omega) b, fun x => ?_⟩
  rw [h4, take_snoc_el hr, List.mem_append, List.mem_singleton]
  constructor
  · rintro ⟨a, b⟩; exact ⟨.inl a, b⟩
  · rintro ⟨a | rfl, b⟩
    · exact ⟨a, b⟩
    · exact absurd hn b

def ModRel (w : World) (E D : List Int) (s7 s8 s19 : Value) (wr : World) : Prop :=
  Below w.heap.size w wr ∧ ∃ (K : List Int) (j r : Nat), j ≤ D.length ∧ r ≤ E.length ∧ s8 = .int .i64 j ∧ s19 = .int .i64 r ∧ OwnU wr w.heap.size s7 K ∧ Kept E D K r ∧ (∀ m t, m < j → r ≤ t → t < E.length → el D m < el E t)

def OutRel (wr : World) (K A : List Int) (s11 s12 s13 : Value) (wl : World) : Prop :=
  Below wr.heap.size wr wl ∧ ∃ (O : List Int) (i k : Nat), s12 = .int .i64 i ∧ s13 = .int .i64 k ∧ OwnU wl wr.heap.size s11 O ∧ MG K A O i k

set_option maxRecDepth 100000 in
set_option maxHeartbeats 2000000 in
theorem model17 (a0 a1 a2 : Option Addr) (n0 c0 n1 c1 n2 c2 : Nat) (E D A : List Int) (w : World) (hE : E.length = n0) (hD : D.length = n1) (hA : A.length = n2) (hb : n0 + n1 + n2 ≤ 1048576)
    (hr0 : Row w a0 E) (hr1 : Row w a1 D) (hr2 : Row w a2 A) (haE : Asc E) (haD : Asc D) (haA : Asc A) (hdis : Dis A E) :
    Calls Try.prog 17 #[.slice a0 n0 c0, .slice a1 n1 c1, .slice a2 n2 c2] w fun e w' => Below w.heap.size w w' ∧ ∃ v R, e = .returned v ∧ OwnU w' w.heap.size v R ∧ Ed E D A R ∧ R.length ≤ n0 + n2 := by
  obtain ⟨i0, hi, hz0, hz1, hz2⟩ := info_parts size23
  go_enter Try.func17, Try.ntmps17
  go_wp2_with (at_make; refine wpList_make_own _ rfl _ _ 37 rfl w.heap.size 23 i0 (.int .u64 0) 1 Try.underlying37 hi hz0 hz1 .i64 .i64 _ n0 rfl rfl rfl ?_ ?_ (Nat.le_refl _) ?_; (rw [hz2]; omega); (unfold maxLen; omega); intro w1 hown hgr)
  have hb1 : Below w.heap.size w w1 := (Below.refl _ _).grown hgr (Nat.le_refl _) (fun k e => by cases e)
  have H0 : Hid (ModRel w E D (.slice (some ⟨w.heap.size, 0, none⟩) 0 n0) (.int .i64 0) (.int .i64 0) w1) :=
    ⟨hb1, [], 0, 0, Nat.zero_le _, Nat.zero_le _, rfl, rfl, hown, ⟨Nat.le_refl _, asc_nil, fun x h => by simp at h, fun x => by simp⟩, fun m t h => by omega⟩
  clear hgr hown hb1
  go_loopw [7, 8, 19] (fun s7 s8 s19 wr => ModRel w E D s7 s8 s19 wr) (fun _ _ s19 _ => n0 - (intOf s19).toNat)
  case atStart => exact H0.out
  case round =>
    obtain ⟨hbel, K, j0, r, hj0, hr, rfl, rfl, hown, hK, hlow⟩ := hrel
    obtain ⟨b7, e7, rfl, hle7⟩ := ownsRow_shape hown
    have HK := hide hK
    have HL := hide hlow
    have HOWN := hide hown
    have HBEL := hide hbel
    have hKl := hK.1
    clear hK hlow hown hbel H0
    by_cases hlt : r < n0
    · obtain ⟨be, oe, rfl, hbe, hce⟩ := (hr0.kept (Kt.below (unhide HBEL))).at (by omega)
      have ke := hce r (by omega)
      have hq1 := hr1.kept (Kt.below (unhide HBEL))
      have HX : Hid (∀ m, m < j0 → el D m < el E r) := fun m hm => unhide HL m r hm (Nat.le_refl _) (by omega)
      generalize hx : el E r = x at *
      have HXE := hide hx
      clear hx hce HL
      go_wp2
      go_loop [8] (fun t => ∃ j : Nat, j ≤ D.length ∧ t = .int .i64 j ∧ (∀ m, m < j → el D m < x)) (fun t => n1 - (intOf t).toNat)
      case atStart => exact ⟨j0, hj0, rfl, unhide HX⟩
      case round =>
        obtain ⟨j, hj, rfl, hlow⟩ := hrel
        have HL := hide hlow
        clear hlow
        by_cases hgo : j < n1 ∧ el D j < x
        · obtain ⟨hjn, hlt2⟩ := hgo
          obtain ⟨bd, od, rfl, hbd, hcd⟩ := hq1.at (by omega)
          have k2 := hcd j (by omega)
          have next : Hid (∀ m, m < j + 1 → el D m < x) := fun m hm => by
            by_cases e : m = j
            · subst e; exact hlt2
            · exact unhide HL m (by omega)
          clear hcd
          generalize el D j = y at *
          go_wp2
          go_round
          case rel => exact ⟨j + 1, by omega, by go_num, next.out⟩
          case measure => simp [intOf]; omega
        · have HS : Hid (x ∈ D ↔ (j < D.length ∧ el D j = x)) := search_out haD x j (unhide HL) (by rw [hD]; exact hgo)
          have nextL : Hid (∀ m t, m < j → r + 1 ≤ t → t < E.length → el D m < el E t) := fun m t hm h1 h2 => by
            have := haE r t (by omega) (by omega)
            rw [unhide HXE] at this
            exact Int.lt_trans (unhide HL m hm) this
          by_cases hfound : j < n1 ∧ el D j = x
          · obtain ⟨hjn, hex⟩ := hfound
            obtain ⟨bd, od, rfl, hbd, hcd⟩ := hq1.at (by omega)
            have k2 := hcd j (by omega)
            rw [hex] at k2
            have NEW : Hid (ModRel w E D (.slice b7 K.length e7) (.int .i64 j) (.int .i64 ((r : Int) + 1)) wr) :=
              ⟨unhide HBEL, K, j, r + 1, hj, by omega, rfl, by go_num, unhide HOWN, (unhide HK).no (by omega) (by rw [unhide HXE]; exact (unhide HS).2 ⟨by omega, hex⟩), unhide nextL⟩
            clear hcd hgo hex
            go_wp2
            go_roundw
            case rel => exact unhide NEW
            case measure => simp [intOf]; omega
          · have hxD : el E r ∉ D := by rw [unhide HXE]; exact fun h => hfound (by have := (unhide HS).1 h; rw [hD] at this; exact this)
            have NEW : Hid (∀ (a' : Option Addr) (cap' : Nat) (w2 : World), OwnU w2 w.heap.size (.slice a' (K.length + 1) cap') (K ++ [x]) → Below w.heap.size w w2 → ModRel w E D (.slice a' (K.length + 1) cap') (.int .i64 j) (.int .i64 ((r : Int) + 1)) w2) :=
              fun a' cap' w2 h1 h2 => ⟨h2, K ++ [x], j, r + 1, hj, by omega, rfl, by go_num, h1, by have := (unhide HK).yes haE (by omega) hxD; rw [unhide HXE] at this; exact this, unhide nextL⟩
            by_cases hjn : j < n1
            case' pos =>
              obtain ⟨bd, od, rfl, hbd, hcd⟩ := hq1.at (by omega)
              have k2 := hcd j (by omega)
              have hne : (el D j == x) = false := by simp; exact fun e => hfound ⟨hjn, e⟩
              have hge : ¬ el D j < x := fun h => hgo ⟨hjn, h⟩
              clear hcd hgo hfound HS hxD
              generalize el D j = y at *
            case' neg =>
              obtain rfl : j = n1 := by omega
              clear hgo hfound HS hxD
            all_goals
              go_wp2_with (at_builtin; refine wpList_appU rfl _ rfl _ _ rfl w.heap.size w ((unhide HBEL).alloc (unhide HBEL).size _) ((unhide HBEL).alloc (unhide HBEL).size _).size b7 K.length e7 K rfl (own_alloc (unhide HOWN) _) _ 1 1 [x] rfl rfl (row_new _ _) (by omega) ?_; intro a' cap' w2 hown2 hbel2)
              go_roundw
              case rel => exact unhide NEW _ _ _ hown2 hbel2
              case measure => simp [intOf]; omega
    · obtain rfl : r = n0 := by omega
      have hKE : Hid (∀ x, x ∈ K ↔ x ∈ E ∧ x ∉ D) := fun x => by have := (unhide HK).2.2.2 x; rw [List.take_of_length_le (by omega)] at this; exact this
      have haK : Asc K := (unhide HK).2.1
      obtain ⟨_, _, hrK⟩ := (unhide HOWN).row
      have hrA := hr2.kept (Kt.below (unhide HBEL))
      go_wp2_with (at_make; refine wpList_make_own _ rfl _ _ 37 rfl wr.heap.size 23 i0 (.int .u64 0) 1 Try.underlying37 hi hz0 hz1 .i64 .i64 _ (K.length + n2) rfl rfl (by simp) ?_ ?_ (Nat.le_refl _) ?_; (rw [hz2]; omega); (unfold maxLen; omega); intro w2 hown2 hgr2)
      have hb2 : Below wr.heap.size wr w2 := (Below.refl _ _).grown hgr2 (Nat.le_refl _) (fun k e => by cases e)
      have H1 : Hid (OutRel wr K A (.slice (some ⟨wr.heap.size, 0, none⟩) 0 (K.length + n2)) (.int .i64 0) (.int .i64 0) w2) := ⟨hb2, [], 0, 0, rfl, rfl, hown2, MG.start K A⟩
      have hfin : Hid (∀ (v : Value) (wl : World) (O : List Int), Below wr.heap.size wr wl → OwnU wl wr.heap.size v O → MG K A O K.length n2 → Below w.heap.size w wl ∧ OwnU wl w.heap.size v O ∧ Ed E D A O ∧ O.length ≤ r + n2) := fun v wl O h1 h2 h3 => by
        refine ⟨(unhide HBEL).trans (h1.mono (unhide HBEL).size), ⟨h2.1, ?_⟩, ⟨h3.2.2.2.1, fun x => ?_⟩, by have := h3.2.2.1; omega⟩
        · rcases h2.2 with h | ⟨g, cap, cur, q1, q2, q3⟩
          · exact .inl h
          · exact .inr ⟨g, cap, cur, q1, Nat.le_trans (unhide HBEL).size q2, q3⟩
        · rw [h3.2.2.2.2.2 x, List.take_of_length_le (Nat.le_refl _), List.take_of_length_le (by omega), unhide hKE x]
      have hdisK : Hid (∀ x, x ∈ K → x ∉ A) := fun x h1 h2 => hdis x h2 ((unhide hKE x).1 h1).1
      obtain ⟨kl, hkl⟩ : ∃ kl, kl = K.length := ⟨_, rfl⟩
      rw [← hkl] at hKl hle7 H1 hfin
      rw [← hkl]
      have HKL := hide hkl
      clear hkl hgr2 hown2 hb2 HK HL HOWN HBEL hKE hr0 hr1 hr2
      obtain ⟨wm, hwm⟩ : ∃ wm, wm = wr := ⟨wr, rfl⟩
      subst hwm
      go_loopw [11, 12, 13] (fun s11 s12 s13 wl => OutRel wm K A s11 s12 s13 wl) (fun _ s12 s13 _ => (kl - (intOf s12).toNat) + (n2 - (intOf s13).toNat))
      case atStart => exact unhide H1
      case round =>
        obtain ⟨hbel, O, i, k, rfl, rfl, hown, hmg⟩ := hrel
        obtain ⟨b11, e11, rfl, hle11⟩ := ownsRow_shape hown
        have hOl := Nat.le_of_eq hmg.2.2.1
        have hik : i ≤ kl := by have := hmg.1; rw [← unhide HKL] at this; exact this
        have hkk : k ≤ n2 := by have := hmg.2.1; rw [hA] at this; exact this
        have qK := hrK.kept (Kt.below hbel)
        have qA := hrA.kept (Kt.below hbel)
        have HOWN := hide hown
        have HBEL := hide hbel
        have HMG := hide hmg
        clear hown hbel hmg H1
        by_cases hend : i = kl ∧ k = n2
        · obtain ⟨rfl, rfl⟩ := hend
          have F : Hid (Below w.heap.size w wr ∧ OwnU wr w.heap.size (.slice b11 O.length e11) O ∧ Ed E D A O ∧ O.length ≤ r + k) := unhide hfin _ _ _ (unhide HBEL) (unhide HOWN) (by have := unhide HMG; rw [unhide HKL] at this ⊢; exact this)
          go_wp2
          go_ret
          exact ⟨(unhide F).1, _, O, rfl, (unhide F).2⟩
        · by_cases hleft : i < kl ∧ (k = n2 ∨ el K i < el A k)
          · obtain ⟨hil, hka⟩ := hleft
            obtain ⟨bk, ok, rfl, hbk, hck⟩ := qK.at (by rw [← unhide HKL]; omega)
            have kk := hck i (by rw [← unhide HKL]; omega)
            have NEW : Hid (∀ (a' : Option Addr) (cap' : Nat) (w2 : World), OwnU w2 wm.heap.size (.slice a' (O.length + 1) cap') (O ++ [el K i]) → Below wm.heap.size wm w2 → OutRel wm K A (.slice a' (O.length + 1) cap') (.int .i64 ((i : Int) + 1)) (.int .i64 k) w2) :=
              fun a' cap' w2 h1 h2 => ⟨h2, _, i + 1, k, by go_num, rfl, h1, (unhide HMG).left haK haA (by rw [← unhide HKL]; exact hil) (by rw [hA]; exact hka)⟩
            have hgl : decide ((i : Int) < (kl : Int)) = true := by simp; omega
            have hil' : (i : Int) < (kl : Int) := by omega
            clear hck
            generalize el K i = x at *
            by_cases hk2 : k = n2
            case' pos =>
              obtain rfl := hk2
              clear hka
              have hgk : ((k : Int) == (k : Int)) = true := by simp
            case' neg =>
              obtain ⟨ba, oa, rfl, hba, hca⟩ := qA.at (by omega)
              have ka := hca k (by omega)
              have hgk : ((k : Int) == (n2 : Int)) = false := by simp; omega
              have hlt2 : x < el A k := by rcases hka with h | h; exact absurd h hk2; exact h
              have hgx : decide (x < el A k) = true := by simpa using hlt2
              have hka' : (k : Int) < (n2 : Int) := by omega
              have hka2 : k < n2 := by omega
              clear hca hka
              generalize el A k = y at *
            all_goals
              go_wp2_with fail
              go_quiet (fail)
              have HOWNq := hide (own_drewN (unhide HOWN) nq)
              have HBELq := hide (below_drewN (unhide HBEL) nq)
              have kkq : (wr.drewN nq).cell? ⟨bk, ok + i, none⟩ = some (.int .u64 x) := kk
              have hbkq : bk < (wr.drewN nq).heap.size := hbk
              clear HOWN HBEL kk hbk qK qA
              generalize wr.drewN nq = wq at *
              go_wp2_with (at_builtin; refine wpList_appU rfl _ rfl _ _ rfl wm.heap.size wm ((unhide HBELq).alloc (unhide HBELq).size _) ((unhide HBELq).alloc (unhide HBELq).size _).size b11 O.length e11 O rfl (own_alloc (unhide HOWNq) _) _ 1 1 [x] rfl rfl (row_new _ _) (by omega) ?_; intro a' cap' w2 hown2 hbel2)
              go_roundw
              case rel => exact unhide NEW _ _ _ hown2 hbel2
              case measure => simp [intOf]; omega
          · have hkn : k < n2 := by
              rcases Nat.lt_or_ge k n2 with h | h
              · exact h
              · exfalso
                by_cases e : i < kl
                · exact hleft ⟨e, .inl (by omega)⟩
                · exact hend ⟨by omega, by omega⟩
            obtain ⟨ba, oa, rfl, hba, hca⟩ := qA.at (by omega)
            have ka := hca k (by omega)
            have hright : i = kl ∨ el A k < el K i := by
              rcases Nat.lt_or_ge i kl with h | h
              · right
                have h1 : ¬ el K i < el A k := fun h2 => hleft ⟨h, .inr h2⟩
                have h2 : el K i ≠ el A k := fun e => unhide hdisK (el K i) (mem_iff.2 ⟨i, by rw [← unhide HKL]; exact h, rfl⟩) (by rw [e]; exact mem_iff.2 ⟨k, by omega, rfl⟩)
                omega
              · exact .inl (by omega)
            have NEW : Hid (∀ (a' : Option Addr) (cap' : Nat) (w2 : World), OwnU w2 wm.heap.size (.slice a' (O.length + 1) cap') (O ++ [el A k]) → Below wm.heap.size wm w2 → OutRel wm K A (.slice a' (O.length + 1) cap') (.int .i64 i) (.int .i64 ((k : Int) + 1)) w2) :=
              fun a' cap' w2 h1 h2 => ⟨h2, _, i, k + 1, rfl, by go_num, h1, ((unhide HMG).swap.left haA haK (by omega) (by rw [← unhide HKL]; exact hright)).swap⟩
            have hgk : ((k : Int) == (n2 : Int)) = false := by simp; omega
            have hka' : (k : Int) < (n2 : Int) := by omega
            clear hca hleft
            generalize el A k = y at *
            by_cases hil : i < kl
            case' pos =>
              obtain ⟨bk, ok, rfl, hbk, hck⟩ := qK.at (by rw [← unhide HKL]; omega)
              have kk := hck i (by rw [← unhide HKL]; omega)
              have hil' : (i : Int) < (kl : Int) := by omega
              have hgx : decide (el K i < y) = false := by simp; rcases hright with h | h; omega; omega
              clear hck hright
              generalize el K i = x at *
            case' neg =>
              obtain rfl : i = kl := by omega
              clear hright
            all_goals
              go_wp2_with fail
              go_quiet (fail)
              have HOWNq := hide (own_drewN (unhide HOWN) nq)
              have HBELq := hide (below_drewN (unhide HBEL) nq)
              have kkq : (wr.drewN nq).cell? ⟨ba, oa + k, none⟩ = some (.int .u64 y) := ka
              have hbkq : ba < (wr.drewN nq).heap.size := hba
              clear HOWN HBEL ka hba qK qA
              generalize wr.drewN nq = wq at *
              go_wp2_with (at_builtin; refine wpList_appU rfl _ rfl _ _ rfl wm.heap.size wm ((unhide HBELq).alloc (unhide HBELq).size _) ((unhide HBELq).alloc (unhide HBELq).size _).size b11 O.length e11 O rfl (own_alloc (unhide HOWNq) _) _ 1 1 [y] rfl rfl (row_new _ _) (by omega) ?_; intro a' cap' w2 hown2 hbel2)
              go_roundw
              case rel => exact unhide NEW _ _ _ hown2 hbel2
              case measure => simp [intOf]; omega

end Go.Proofs.Qxb6613757a.T
