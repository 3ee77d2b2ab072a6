import Derived.Test.Qxb6614817aB
namespace Go.Proofs.Qxb6614817a.A
open Go.RowKit
set_option linter.unusedVariables false

/-- every byte of the list from lo up to hi (hi not counted) is the digit 0 -/
def zer (zs : List Int) (lo hi : Nat) : Prop := ∀ j, lo ≤ j → j < hi → el zs j = 48

/-- what 'parts' hands back: two slices, the first empty just where the whole part is all 0, the second just where the fraction is -/
def PartsPost (zs : List Int) (len : Nat) (e : Ending) : Prop :=
  ∃ a1 l1 c1 a2 l2 c2, e = .returned (.tuple #[.slice a1 l1 c1, .slice a2 l2 c2]) ∧ l1 ≤ len ∧ l2 ≤ len ∧
    ((∃ k : Nat, k < len ∧ el zs k = 46 ∧ (∀ j, j < k → el zs j ≠ 46) ∧ (l1 = 0 ↔ zer zs 0 k) ∧ (l2 = 0 ↔ zer zs (k + 1) len)) ∨
     ((∀ j, j < len → el zs j ≠ 46) ∧ (l1 = 0 ↔ zer zs 0 len) ∧ l2 = 0))

def lenOf : Value → Nat
  | .slice _ n _ => n
  | _ => 0

set_option maxHeartbeats 1000000 in
theorem parts11 (neg : Bool) (hid : Int) (b o len cap : Nat) (zs : List Int) (w : World) (hz : zs.length = len) (hl : len ≤ 1048576) (hcap : len ≤ cap) (hcm : cap ≤ maxLen) (hbw : b < w.heap.size) (hc : Bytes w b o zs) :
    Calls Try.prog 11 #[.agg #[.bool neg, .int .i32 hid, .slice (some ⟨b, o, none⟩) len cap]] w fun e w' => Below w.heap.size w w' ∧
      PartsPost zs len e := by
  have hcm0 := hcm
  unfold maxLen at hcm
  go_enter Try.func11, Try.ntmps11
  go_wp2_with fail
  have hb0 := ((Below.refl w.heap.size w).alloc (Nat.le_refl _) (.cells #[.bool neg, .int .i32 hid, .slice (some ⟨b, o, none⟩) len cap] 27))
  refine (split13 neg hid b o len cap zs _ hz hl hcap hcm0 (by simp; omega) (hc.kept hb0 hbw)).mono ?_
  rintro e w1 ⟨hb1, h⟩
  have HB : Hid (Below w.heap.size w w1) := hb0.trans (hb1.mono (by simp))
  have hc1 : Bytes w1 b o zs := hc.kept HB.out hbw
  clear hb0 hb1 hc
  obtain ⟨k, a2, m, c2, lo, rfl, hk, hmc, hc2, hlo, ha2, hK⟩ : ∃ (k : Nat) (a2 : Option Addr) (m c2 lo : Nat), e = .returned (.tuple #[.slice (some ⟨b, o, none⟩) k cap, .slice a2 m c2]) ∧ k ≤ len ∧ m ≤ c2 ∧ c2 ≤ cap ∧ lo + m ≤ len ∧
      (0 < m → a2 = some ⟨b, o + lo, none⟩) ∧
      ((k < len ∧ el zs k = 46 ∧ (∀ j, j < k → el zs j ≠ 46) ∧ lo = k + 1 ∧ lo + m = len) ∨ (k = len ∧ (∀ j, j < len → el zs j ≠ 46) ∧ m = 0)) := by
    rcases h with ⟨k, hk, h46, hall, o', c', ho, hc', hcc, rfl⟩ | ⟨hall, rfl⟩
    · exact ⟨k, _, _, c', k + 1, rfl, by omega, hc', hcc, by omega, fun h => by rw [ho h], .inl ⟨hk, h46, hall, rfl, by omega⟩⟩
    · exact ⟨len, none, 0, 0, 0, rfl, Nat.le_refl _, Nat.le_refl _, by omega, by omega, fun h => by omega, .inr ⟨rfl, hall, rfl⟩⟩
  have HK := hK
  have HK' : Hid _ := HK
  have HA2 : Hid (0 < m → a2 = some ⟨b, o + lo, none⟩) := ha2
  have HC : Hid (Bytes w1 b o zs) := hc1
  clear hK HK ha2 h hc1
  go_wp2
  go_loop [2] (fun t => ∃ i oo cc : Nat, t = .slice (some ⟨b, oo, none⟩) (k - i) cc ∧ (i < k → oo = o + i) ∧ k - i ≤ cc ∧ cc ≤ cap ∧ i ≤ k ∧ zer zs 0 i) (fun t => lenOf t)
  case atStart => exact ⟨0, o, cap, rfl, fun _ => rfl, by omega, Nat.le_refl _, Nat.zero_le _, fun j h1 h2 => by omega⟩
  case round =>
    obtain ⟨i, oo, cc, rfl, hoo, hcc1, hcc2, hik, hzer⟩ := hrel
    have HZ : Hid (zer zs 0 i) := hzer
    clear hzer
    by_cases hex : i < k ∧ el zs i = 48
    · obtain ⟨hlt, h48⟩ := hex
      obtain rfl := hoo hlt
      obtain ⟨hcell, hb1, hb2⟩ := HC.out i (by omega)
      clear hoo
      have HN : Hid (zer zs 0 (i + 1)) := fun j h1 h2 => by
        by_cases e : j = i
        · subst e; exact h48
        · exact HZ.out j h1 (by omega)
      rw [h48] at hcell
      clear h48 hb1 hb2
      go_wp2
      go_round
      case rel =>
        by_cases hcc : cc = 1
        · exact ⟨i + 1, o + i, cc - 1, by rw [if_pos hcc, Nat.sub_sub], fun h => by omega, by omega, by omega, by omega, HN.out⟩
        · exact ⟨i + 1, o + i + 1, cc - 1, by rw [if_neg hcc, Nat.sub_sub], fun h => by omega, by omega, by omega, by omega, HN.out⟩
      case measure => simp [lenOf]; omega
    · have HL1 : Hid (k - i = 0 ↔ zer zs 0 k) := by
        constructor
        · intro h
          have : i = k := by omega
          subst this; exact HZ.out
        · intro h
          by_cases hlt : i < k
          · exact absurd ⟨hlt, h i (Nat.zero_le _) hlt⟩ hex
          · omega
      have hl1 : k - i ≤ len := by omega
      by_cases hlt : i < k
      case' pos =>
        obtain rfl := hoo hlt
        obtain ⟨hcell, hb1, hb2⟩ := HC.out i (by omega)
        have hne : el zs i ≠ 48 := fun h => hex ⟨hlt, h⟩
        clear hoo hex
        generalize el zs i = c at *
        have hb48 : (c == 48) = false := beq_eq_false_iff_ne.2 hne
        clear hne
      case' neg =>
        have hki : k - i = 0 := by omega
        clear hoo hex
      all_goals
        go_wp2
        go_loop [3] (fun t => ∃ m' : Nat, t = .slice a2 m' c2 ∧ m' ≤ m ∧ zer zs (lo + m') (lo + m)) (fun t => lenOf t)
        case atStart => exact ⟨m, rfl, Nat.le_refl _, fun j h1 h2 => by omega⟩
        case round =>
          obtain ⟨m', rfl, hm', hz2⟩ := hrel
          have HZ2 : Hid (zer zs (lo + m') (lo + m)) := hz2
          clear hz2
          by_cases hex2 : 0 < m' ∧ el zs (lo + m' - 1) = 48
          · obtain ⟨hlt2, h48⟩ := hex2
            obtain rfl := HA2.out (by omega)
            obtain ⟨hcell2, hb3, hb4⟩ := HC.out (lo + m' - 1) (by omega)
            rw [h48, show o + (lo + m' - 1) = o + lo + (m' - 1) from by omega] at hcell2
            have HN : Hid (zer zs (lo + (m' - 1)) (lo + m)) := fun j h1 h2 => by
              by_cases e : j = lo + m' - 1
              · subst e; exact h48
              · exact HZ2.out j (by omega) h2
            clear h48 hb3 hb4
            go_wp2
            go_round
            case rel => exact ⟨m' - 1, rfl, by omega, HN.out⟩
            case measure => simp [lenOf]; omega
          · have HL2 : Hid (m' = 0 ↔ zer zs lo (lo + m)) := by
              constructor
              · intro h; subst h; exact HZ2.out
              · intro h
                by_cases hp : 0 < m'
                · exact absurd ⟨hp, h (lo + m' - 1) (by omega) (by omega)⟩ hex2
                · omega
            have fin : Hid (∀ l1 l2 : Nat, l1 = k - i → l2 = m' → l1 ≤ len ∧ l2 ≤ len ∧
                ((∃ k : Nat, k < len ∧ el zs k = 46 ∧ (∀ j, j < k → el zs j ≠ 46) ∧ (l1 = 0 ↔ zer zs 0 k) ∧ (l2 = 0 ↔ zer zs (k + 1) len)) ∨
                 ((∀ j, j < len → el zs j ≠ 46) ∧ (l1 = 0 ↔ zer zs 0 len) ∧ l2 = 0))) := by
              rintro l1 l2 rfl rfl
              refine ⟨by omega, by omega, ?_⟩
              rcases HK'.out with ⟨q1, q2, q3, q4, q5⟩ | ⟨q1, q2, q3⟩
              · refine .inl ⟨k, q1, q2, q3, HL1.out, ?_⟩
                have := HL2.out
                rw [q5, q4] at this
                exact this
              · refine .inr ⟨q2, ?_, by omega⟩
                have := HL1.out
                rw [q1] at this
                exact q1 ▸ this
            by_cases hp : 0 < m'
            case' pos =>
              obtain rfl := HA2.out (by omega)
              obtain ⟨hcell2, hb3, hb4⟩ := HC.out (lo + m' - 1) (by omega)
              rw [show o + (lo + m' - 1) = o + lo + (m' - 1) from by omega] at hcell2
              have hne : el zs (lo + m' - 1) ≠ 48 := fun h => hex2 ⟨hp, h⟩
              clear hex2
              generalize el zs (lo + m' - 1) = d at *
              have hd48 : (d == 48) = false := beq_eq_false_iff_ne.2 hne
              clear hne
            case' neg =>
              obtain rfl : m' = 0 := by omega
              clear hex2
            all_goals
              go_wp2
              go_ret2
              refine ⟨HB.out, _, _, _, _, _, _, rfl, ?_⟩
              exact fin.out _ _ (by omega) (by omega)
end Go.Proofs.Qxb6614817a.A
