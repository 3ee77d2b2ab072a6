import Derived.Test.Qxb6613757aJn
import Derived.Deep.RegionLaw
import Derived.Deep.LoopGhost
/-
  joinSmall: the walk.
-/
namespace Go.Proofs.Qxb6613757a.T
open Go.RowKit Go.Shelf
set_option linter.unusedVariables false
set_option linter.unusedSimpArgs false

theorem own_some {w : World} {base size n : Nat} {e : TypeId} {v : Value} {xs : List Value} (h : w.ownsRow base e size v n xs) (h1 : 1 ≤ n) : ∃ g cap, v = .slice (some ⟨g, 0, none⟩) n cap := by
  rcases h.2 with ⟨_, h0⟩ | ⟨g, cap, cur, rfl, _⟩
  · omega
  · exact ⟨g, cap, rfl⟩
theorem own_zero {w : World} {base size n : Nat} {e : TypeId} {v : Value} {xs : List Value} (h : w.ownsRow base e size v n xs) : w.ownsRow 0 e size v n xs := by
  refine ⟨h.1, ?_⟩
  rcases h.2 with h0 | ⟨g, cap, cur, h1, h2, h3⟩
  · exact .inl h0
  · exact .inr ⟨g, cap, cur, h1, Nat.zero_le _, h3⟩
theorem rec_cells {w : World} {g u n cap i : Nat} {rs0 rs : List Rec} (h : w.ownsRow 0 81 5 (.slice (some ⟨g, 0, none⟩) (u + n) cap) (u + n) (recCells (rs0 ++ rs))) (hu : rs0.length = u) (hn : rs.length = n) (hi : i < n) :
    w.cell? ⟨g, u * 5 + i * 5, none⟩ = some (.int .u64 (rc rs i).last) ∧ w.cell? ⟨g, u * 5 + i * 5 + 1, none⟩ = some (.int .i64 (rc rs i).count) ∧ w.cell? ⟨g, u * 5 + i * 5 + 2, none⟩ = some (.slice (rc rs i).la (rc rs i).ll (rc rs i).lc) ∧
    w.cell? ⟨g, u * 5 + i * 5 + 3, none⟩ = some (.pointer (rc rs i).node) ∧ w.cell? ⟨g, u * 5 + i * 5 + 4, none⟩ = some (.bool (rc rs i).fresh) := by
  have := recs_own h (by simp [hu, hn]) u n (Nat.le_refl _) i (by simp; omega)
  rw [rc_take hi, rc_drop, rc_app_right (by omega), show u + i - rs0.length = i by omega] at this
  exact this

set_option maxRecDepth 100000 in
set_option maxHeartbeats 2000000 in
theorem joins48 (h : Nat) (HJ : Hid (JoinC h)) (g u n cap lcap : Nat) (rs0 rs : List Rec) (Ls : List (List (List Int))) (w : World) (hu : rs0.length = u) (hn : rs.length = n) (h1 : 1 ≤ n) (hlc : n ≤ lcap) (hcm : lcap ≤ maxLen)
    (hrow : w.ownsRow 0 81 5 (.slice (some ⟨g, 0, none⟩) (u + n) cap) (u + n) (recCells (rs0 ++ rs))) (hkids : Kids w h rs Ls) (hM : (ents Ls).length ≤ 1048576) :
    Calls Try.prog 48 #[.slice (some ⟨g, u * 5, none⟩) n lcap] w fun e w' => JoinS w h g u n cap lcap rs0 (ents Ls) e w' := by
  obtain ⟨bs, hbl, hbs⟩ := kids_smalls hkids
  rw [hn] at hbl hbs
  have hC : n ≤ 1048576 := by have := kids_len hkids; omega
  obtain ⟨E, hE⟩ : ∃ E, ents Ls = E := ⟨_, rfl⟩
  obtain ⟨G, hG⟩ : ∃ G, G = (n + cntT bs) * (n + 2) + n := ⟨_, rfl⟩
  obtain ⟨C, hCn⟩ : ∃ C, C = n := ⟨_, rfl⟩
  have HR : Hid (JR w h g u cap lcap C rs0 E G (.slice (some ⟨g, u * 5, none⟩) n lcap) (.int .i64 0) w) :=
    ⟨n, 0, rs, Ls, bs, rfl, rfl, hn, h1, by omega, Nat.zero_le _, hrow, hkids, hE, hbl, hbs, World.grownBy.refl _ _, by rw [hG, hCn]; exact Nat.le_refl _⟩
  have hME : E.length ≤ 1048576 := by rw [← hE]; exact hM
  rw [hE]
  have HU := hide hu
  have HCN := hide hCn
  have hCb : C ≤ 1048576 := by omega
  have hCl : C ≤ lcap := by omega
  clear hrow hkids hM hbs hbl hn hE hG hu hCn
  go_enter Try.func48, Try.ntmps48
  go_wp2
  go_loopg [0, 3] G (fun gk s0 s3 wr => JR w h g u cap lcap C rs0 E gk s0 s3 wr)
  case atStart => exact HR.out
  case round =>
    obtain ⟨n', i, rs', Ls', bs', rfl, rfl, hn', h1', hnC, hin, hown, hk, hE, hbl, hbs, hg, hgk⟩ := hrel
    have HDONE : Hid (JoinS w h g u n cap lcap rs0 E (.returned (.slice (some ⟨g, u * 5, none⟩) n' lcap)) wr) := ⟨hg, n', rs', Ls', rfl, hn', h1', by have := HCN.out; omega, hown, hk, hE⟩
    have hgl : g < wr.heap.size := by
      obtain ⟨cur, hcu⟩ := own_type hown g rfl
      exact (Array.getElem?_eq_some_iff.1 hcu).1
    clear HR
    by_cases hgo : i < n' ∧ 1 < n'
    · obtain ⟨hi, hn1⟩ := hgo
      obtain ⟨c0, c1, c2, c3, c4⟩ := rec_cells hown HU.out hn' hi
      obtain ⟨b, hb⟩ : ∃ b, bs'.getD i false = b := ⟨_, rfl⟩
      have hsm := hbs i hi
      rw [hb] at hsm
      have HSM := hide hsm
      have HNEXT : Hid (∀ w1, Below wr.heap.size wr w1 → JR w h g u cap lcap C rs0 E ((n' + cntT bs') * (C + 2) + (n' - (i + 1))) (.slice (some ⟨g, u * 5, none⟩) n' lcap) (.int .i64 ((i + 1 : Nat) : Int)) w1) := fun w1 hB => JR.next hn' h1' hnC hi hown hk hE hbl hbs hg hB
      obtain ⟨M, hMM⟩ : ∃ M, (n' + cntT bs') * (C + 2) = M := ⟨_, rfl⟩
      rw [hMM] at HNEXT hgk
      cases b with
      | false =>
        clear hown hk hE hbl hbs hg hb hMM hsm hn'
        generalize rc rs' i = r at *
        obtain ⟨last, count, la, ll, lc, node, fresh⟩ := r
        simp only at c0 c1 c2 c3 c4
        go_wp2_with (go_at_call 53; refine (small53 ⟨last, count, la, ll, lc, node, fresh⟩ false wr HSM.out).mono ?_; rintro e w1 ⟨hB1, rfl⟩; have HB1 := hide hB1; clear hB1)
        go_roundg (M + (n' - (i + 1)))
        case rel => exact HNEXT.out _ HB1.out
        case measure => omega
      | true =>
        obtain ⟨a, ha2, hai, hcase⟩ : ∃ a, a + 2 ≤ n' ∧ (i = a ∨ i = a + 1) ∧ (i = a ∨ ((n' : Int) - 2 = (a : Int) ∧ (a : Int) < (i : Int))) := by
          by_cases hle : i + 2 ≤ n'
          · exact ⟨i, hle, .inl rfl, .inl rfl⟩
          · exact ⟨n' - 2, by omega, by omega, .inr ⟨by omega, by omega⟩⟩
        have hla : a < Ls'.length := by rw [← hk.1, hn']; omega
        have hlb : a + 1 < Ls'.length := by rw [← hk.1, hn']; omega
        have hlen : (lv Ls' a).flatten.length + (lv Ls' (a + 1)).flatten.length ≤ 1048576 := by
          have e1 := congrArg List.length (ents_split hla)
          have e2 := congrArg List.length (ents_drop hlb)
          simp only [List.length_append] at e1 e2
          rw [hE] at e1
          omega
        have HC55 : Hid (∀ w1, Below wr.heap.size wr w1 → Calls Try.prog 55 #[(rc rs' a).val, (rc rs' (a + 1)).val] w1.drew fun e w' => Joined w1.drew h (lv Ls' a) (lv Ls' (a + 1)) e w') := fun w1 hB =>
          HJ.out _ _ _ _ _ (((hk.2 a (by omega)).k2 (K2.below hB)).k2 (K2.drew _)) (((hk.2 (a + 1) (by omega)).k2 (K2.below hB)).k2 (K2.drew _)) hlen
        have HCEL : Hid (∀ w1, Below wr.heap.size wr w1 → ∀ j, w1.cell? ⟨g, j, none⟩ = wr.cell? ⟨g, j, none⟩) := fun w1 hB j => hB.cell (p := ⟨g, j, none⟩) hgl
        have HREP : Hid (∀ (w2 : World) (k gv cv : Nat) (ps : List Rec), Below wr.heap.size wr w2 → ps.length = k → 1 ≤ k → k ≤ 2 → w2.ownsRow 0 81 5 (.slice (some ⟨gv, 0, none⟩) k cv) k (recCells ps) → Calls Try.prog 54 #[.slice (some ⟨g, u * 5, none⟩) n' lcap, .int .i64 (a : Nat), .int .i64 ((a + 2 : Nat) : Int), .slice (some ⟨gv, 0, none⟩) k cv] w2 fun r w' => w2.grownBy w' (some g) ∧ ∃ e, e + 2 = n' + k ∧ r = .returned (.slice (some ⟨g, u * 5, none⟩) e lcap) ∧
            w'.ownsRow 0 81 5 (.slice (some ⟨g, 0, none⟩) (u + e) cap) (u + e) (recCells (rs0 ++ (rs'.take a ++ (ps ++ rs'.drop (a + 2)))))) := fun w2 k gv cv ps hB hk' hk1 hk2 hsrc =>
          rep54 g u n' cap lcap a (a + 2) k gv cv rs0 rs' ps w2 HU.out hn' rfl ha2 hk' hk1 hk2 (by omega) (by omega) hcm (hown.kept (grown_of_below hB none) (.inr (by simp [Value.ownBlock]))) hsrc
        have HJOIN : Hid (∀ (w2 w3 : World) (e : Nat) (ps : List Rec) (Ps : List (List (List Int))), Below wr.heap.size wr w2 → 1 ≤ ps.length → ps.length ≤ 2 → Kids w2 h ps Ps → ents Ps = (lv Ls' a).flatten ++ (lv Ls' (a + 1)).flatten → (ps.length = 2 → ∀ i, i < 2 → SmallIs w2 (rc ps i) false) →
            w2.grownBy w3 (some g) → e + 2 = n' + ps.length → w3.ownsRow 0 81 5 (.slice (some ⟨g, 0, none⟩) (u + e) cap) (u + e) (recCells (rs0 ++ (rs'.take a ++ (ps ++ rs'.drop (a + 2))))) → JR w h g u cap lcap C rs0 E (M - 2) (.slice (some ⟨g, u * 5, none⟩) e lcap) (.int .i64 (a : Nat)) w3) := fun w2 w3 e ps Ps hB p1 p2 p3 p4 p5 p6 p7 p8 => by
          rw [← hMM]
          exact JR.join HU.out hn' hnC hi ha2 hai hown hk hE hbl hbs hg hb hB p1 p2 p3 p4 p5 p6 p7 p8
        have HMP : Hid (M - 2 < gk) := by
          show _ < _
          have : 1 * 2 ≤ (n' + cntT bs') * (C + 2) := Nat.mul_le_mul (by omega) (by omega)
          rw [hMM] at this
          omega
        obtain ⟨a0, a1, a2, a3, a4⟩ := rec_cells hown HU.out hn' (show a < n' by omega)
        obtain ⟨b0, b1, b2, b3, b4⟩ := rec_cells hown HU.out hn' (show a + 1 < n' by omega)
        have HAI := hide hai
        clear hown hk hE hbl hbs hg hb hMM hsm hn' hla hlb hlen hai HNEXT
        generalize rc rs' a = ra at *
        generalize rc rs' (a + 1) = rb at *
        have hw1 : IntKind.i64.wrap ((a : Int) + 1) = (a : Int) + 1 := wrap_small _ (by omega) (by omega)
        have hw2 : IntKind.i64.wrap ((a : Int) + 2) = (a : Int) + 2 := wrap_small _ (by omega) (by omega)
        have htn : ((a : Int) + 1).toNat = a + 1 := by omega
        have han : a < n' := by omega
        have ha1 : (a : Int) + 1 < (n' : Int) := by omega
        have ha0 : 0 ≤ (a : Int) + 1 := by omega
        rcases hcase with rfl | ⟨hsub, hlt⟩
        all_goals
          go_wp2_with (go_at_call 53; refine (small53 (rc rs' _) true wr HSM.out).mono ?_; rintro e w1 ⟨hB1, rfl⟩; have HB1 := hide hB1; clear hB1
                       rw [← HCEL.out w1 HB1.out] at a0 a1 a2 a3 a4 b0 b1 b2 b3 b4)
          go_region_with (first
            | (go_at_call 55; refine (HC55.out w1 HB1.out).mono ?_; rintro e w2 ⟨hB2, v, ps, Ps, rfl, hrow2, hp1, hp2, hpk, hpe, hps⟩
               obtain ⟨gv, cv, rfl⟩ := own_some hrow2 hp1
               obtain ⟨k, hkk⟩ : ∃ k, ps.length = k := ⟨_, rfl⟩
               have HROW2 := hide (own_zero hrow2)
               rw [hkk] at HROW2
               rw [hkk]
               have HB2 : Hid (Below wr.heap.size wr w2) := HB1.out.drew.trans (hB2.mono HB1.out.size)
               have HP1 := hide hp1
               have HP2 := hide hp2
               have HPK := hide hpk
               have HPE := hide hpe
               have HPS := hide hps
               have HKK := hide hkk
               clear hrow2 hp1 hp2 hpk hpe hps hB2 hkk)
            | (go_at_call 54; refine (HREP.out w2 k gv cv ps HB2.out HKK.out (by rw [← HKK.out]; exact HP1.out) (by rw [← HKK.out]; exact HP2.out) HROW2.out).mono ?_; rintro e w3 ⟨hg3, e3, he3, rfl, hown3⟩
               have HFIN := hide (HJOIN.out w2 w3 e3 ps Ps HB2.out HP1.out HP2.out HPK.out HPE.out HPS.out hg3 (by rw [HKK.out]; exact he3) hown3)
               clear hg3 he3 hown3))
          all_goals
            go_wp2
            go_roundg (M - 2)
            case rel => exact HFIN.out
            case measure => exact HMP.out
    · have HNO : Hid (¬ (i < n' ∧ 1 < n')) := hgo
      clear hown hk hE hbl hbs hg hgk hn'
      by_cases hi : i < n'
      · have hn1 : ¬ (1 < n') := fun h => hgo ⟨hi, h⟩
        clear hgo
        go_wp2
        go_ret
        exact HDONE.out
      · clear hgo
        go_wp2
        go_ret
        exact HDONE.out

end Go.Proofs.Qxb6613757a.T
