import Derived.Test.Qxb6613757aChild
/-
  The readers: at.
-/
namespace Go.Proofs.Qxb6613757a.T
open Go.RowKit Go.Shelf
set_option linter.unusedVariables false
set_option linter.unusedSimpArgs false

theorem ents_take_succ {Ls : List (List (List Int))} {c : Nat} (h : c < Ls.length) : ents (Ls.take (c + 1)) = ents (Ls.take c) ++ (lv Ls c).flatten := by
  unfold ents
  rw [List.take_succ_eq_append_getElem h, List.flatten_append, List.flatten_append]
  simp [lv, h]
theorem ents_take_le {Ls : List (List (List Int))} {c : Nat} : (ents (Ls.take c)).length ≤ (ents Ls).length := by
  unfold ents
  conv => rhs; rw [← List.take_append_drop c Ls]
  rw [List.flatten_append, List.flatten_append, List.length_append]
  omega
theorem ents_split {Ls : List (List (List Int))} {c : Nat} (h : c < Ls.length) : ents Ls = ents (Ls.take c) ++ ((lv Ls c).flatten ++ ents (Ls.drop (c + 1))) := by
  have e : Ls = Ls.take c ++ Ls[c] :: Ls.drop (c + 1) := by simp
  unfold ents
  conv => lhs; rw [e]
  rw [List.flatten_append, List.flatten_append, List.flatten_cons, List.flatten_append]
  simp [lv, h]

def A1 (w1 : World) (x : Int) (gk : Nat) (s1 s5 : Value) (wr : World) : Prop := wr = w1 ∧ ∃ (nb h : Nat) (r : Rec) (L : List (List Int)) (j : Nat), s1 = .int .i64 j ∧ s5 = .pointer (some ⟨nb, 0, none⟩) ∧ r.node = some ⟨nb, 0, none⟩ ∧ KidRec wr (h + 1) r L ∧ j < L.flatten.length ∧ L.flatten.length ≤ 1048576 ∧ el L.flatten j = x ∧ h ≤ gk
def A2 (w1 : World) (m j : Nat) (Ls : List (List (List Int))) (gk : Nat) (s1 s6 : Value) (wr : World) : Prop := wr = w1 ∧ ∃ c j' : Nat, s1 = .int .i64 j' ∧ s6 = .int .i64 c ∧ c < m ∧ (ents (Ls.take c)).length + j' = j ∧ m - c ≤ gk

/-- what cells of a node over children of height h say -/
theorem node_cells {w : World} {nb m h : Nat} {rs : List Rec} {Ls : List (List (List Int))} (hr : w.rowIs nb 73 66 (nodeCell m (h == 0) rs m)) (hm : m ≤ 16) (hk : ∀ i, i < m → KidRec w h (rc rs i) (lv Ls i)) :
    w.cell? ⟨nb, 0, none⟩ = some (.int .i64 m) ∧ w.cell? ⟨nb, 1, none⟩ = some (.bool (h == 0)) ∧
    (∀ i, i < m → w.cell? ⟨nb, 2 + i, none⟩ = some (.int .u64 (rc rs i).last)) ∧
    (h ≠ 0 → ∀ i, i < m → w.cell? ⟨nb, 18 + i, none⟩ = some (.int .i32 ((lv Ls i).flatten.length : Nat)) ∧ w.cell? ⟨nb, 50 + i, none⟩ = some (.pointer (rc rs i).node)) ∧
    (h = 0 → ∀ i, i < m → w.cell? ⟨nb, 34 + i, none⟩ = some (.slice (rc rs i).la (rc rs i).ll (rc rs i).lc)) := by
  refine ⟨hr.cell (i := 0) (by omega), hr.cell (i := 1) (by omega), fun i hi => ?_, fun hh i hi => ⟨?_, ?_⟩, fun hh i hi => ?_⟩
  · rw [hr.cell (i := 2 + i) (by omega)]
    unfold nodeCell; rw [if_neg (by omega), if_neg (by omega), if_pos (by omega), if_pos (by omega), show 2 + i - 2 = i by omega]
  · have hl : (h == 0) = false := by simpa using hh
    rw [hr.cell (i := 18 + i) (by omega), ← (hk i hi).some_last.2.2.1]
    unfold nodeCell; rw [if_neg (by omega), if_neg (by omega), if_neg (by omega), if_pos (by omega), if_pos ⟨by omega, hl⟩, show 18 + i - 18 = i by omega]
  · have hl : (h == 0) = false := by simpa using hh
    rw [hr.cell (i := 50 + i) (by omega)]
    unfold nodeCell; rw [if_neg (by omega), if_neg (by omega), if_neg (by omega), if_neg (by omega), if_neg (by omega), if_pos ⟨by omega, hl⟩, show 50 + i - 50 = i by omega]
  · have hl : (h == 0) = true := by simpa using hh
    rw [hr.cell (i := 34 + i) (by omega)]
    unfold nodeCell; rw [if_neg (by omega), if_neg (by omega), if_neg (by omega), if_neg (by omega), if_pos (by omega), if_pos ⟨by omega, hl⟩, show 34 + i - 34 = i by omega]

set_option maxRecDepth 100000 in
set_option maxHeartbeats 2000000 in
theorem at33 (root : Option Addr) (n i : Nat) (L : List (List Int)) (w : World) (ht : TreeIs w root L) (hi : i < L.flatten.length) (hM : L.flatten.length ≤ 1048576) :
    Calls Try.prog 33 #[.agg #[.pointer root, .int .i64 n], .int .i64 i] w fun e w' => Below w.heap.size w w' ∧ e = .returned (.int .u64 (el L.flatten i)) := by
  obtain ⟨W, hW⟩ : ∃ W, w.alloc (.cells #[.pointer root, .int .i64 n] 44) = W := ⟨_, rfl⟩
  have hB : Below w.heap.size w W := hW ▸ (Below.refl _ w).alloc (Nat.le_refl _) _
  have hc0 : W.cell? ⟨w.heap.size, 0, none⟩ = some (.pointer root) := by rw [← hW]; simp [go_sem]
  rcases ht with ⟨rfl, rfl⟩ | ⟨h, r, hk, rfl⟩
  · simp at hi
  have hkW := hk.k2 (K2.below hB)
  obtain ⟨x, hx⟩ : ∃ x, el L.flatten i = x := ⟨_, rfl⟩
  have hkW' := hkW
  obtain ⟨nb, m, _, _, hnode, hrest⟩ := hkW'
  clear hrest
  have hA : Hid (A1 W x h (.int .i64 i) (.pointer (some ⟨nb, 0, none⟩)) W) := ⟨rfl, nb, h, r, L, i, rfl, rfl, hnode, hkW, hi, hM, hx, Nat.le_refl _⟩
  rw [hnode] at hc0 hW ⊢
  rw [hx]
  have HB := hide hB
  clear hB hkW hk hi hM hx
  go_enter Try.func33, Try.ntmps33
  go_wp2
  clear hW
  go_loopg [1, 5] h (fun gk s1 s5 wr => A1 W x gk s1 s5 wr)
  case atStart => exact hA.out
  case round =>
    obtain ⟨hwr, nb', h', r', L', j, rfl, rfl, hn', hk', hj, hM', hx', hgk⟩ := hrel
    obtain ⟨nb2, m', rs', Ls', hnode2, hrow2, hm1, hm2, hm3, hm4, hL2, hkk2, _, _⟩ := hk'
    obtain rfl : nb' = nb2 := by rw [hn'] at hnode2; cases hnode2; rfl
    obtain ⟨q0, q1, q2, q3, q4⟩ := node_cells hrow2 hm4 hkk2
    have HWR := hide hwr
    have HBW : Hid (Below w.heap.size w wr) := by rw [hwr]; exact HB.out
    clear hwr HB
    have HX := hide hx'
    have HL := hide hL2
    have HKK := hide hkk2
    have HM2 := hide hm2
    have HJ := hide hj
    have hjb : j ≤ 1048576 := by omega
    have hA2 : Hid (A2 wr m' j Ls' m' (.int .i64 j) (.int .i64 0) wr) := ⟨rfl, 0, j, rfl, rfl, hm3, by simp [ents], Nat.le_refl _⟩
    clear hx' hL2 hkk2 hm2 hn' hnode2 hm1 hA hnode hj
    obtain ⟨w1, hw1⟩ : ∃ w1, w1 = wr := ⟨_, rfl⟩
    subst hw1
    cases h' with
    | zero =>
      have Q4 := hide (q4 rfl)
      clear q3 q4 q2 hrow2
      go_wp2
      go_loopg [1, 7] m' (fun gk s1 s7 wr => A2 w1 m' j Ls' gk s1 s7 wr)
      case atStart => exact hA2.out
      case round =>
        obtain ⟨rfl, c, j', rfl, rfl, hc, hsum, hgk2⟩ := hrel
        obtain ⟨zs, hLe, z1, z2, hnn, hRow, hll, hlc, hlast, hcnt⟩ := HKK.out c hc
        have qc := Q4.out c hc
        rw [hll] at qc
        obtain ⟨b, o, hla, hbl, hcells⟩ := hRow.at z1
        rw [hla] at qc
        have hcLs : c < Ls'.length := by rw [HM2.out]; exact hc
        have hsp := ents_split hcLs
        have hts := ents_take_succ hcLs
        have hLv : (lv Ls' c).flatten = zs := by rw [hLe]; simp
        rw [hLv] at hsp hts
        have htot : L'.flatten = ents Ls' := by rw [HL.out]; rfl
        have hall : c + 1 = m' → ents Ls' = ents (Ls'.take c) ++ zs := fun h => by
          rw [← hts, List.take_of_length_le (by rw [HM2.out]; omega)]
        have hnext : zs.length ≤ j' → c + 1 < m' := fun h => by
          rcases Nat.lt_or_ge (c + 1) m' with h' | h'
          · exact h'
          · have := HJ.out
            rw [htot, hall (by omega), List.length_append] at this
            omega
        have hval : j' < zs.length → el zs j' = x := fun h => by
          rw [← HX.out, htot, hsp, el_append_right _ _ _ (by omega), el_append_left _ _ _ (by omega)]
          congr 1; omega
        have hzl : zs.length ≤ 64 := z2
        have hj'b : j' ≤ 1048576 := by omega
        have HNX := hide hnext
        have HVAL := hide hval
        have HSUM := hide hsum
        have HTS := hide hts
        generalize (rc rs' c).lc = lcap at *
        generalize hzn : zs.length = zl at *
        have HZN := hide hzn
        have HCE := hide hcells
        clear hnext hval hsum hts hsp htot hall hLe hLv hRow hll hlc hlast hcnt hla hzn hA2 hnn hcells
        by_cases hge : zl ≤ j'
        · have hsub : ((j' : Int) - zl) = ((j' - zl : Nat) : Int) := by omega
          generalize hd : j' - zl = d at *
          have HD := hide hd
          clear hd
          go_wp2
          go_roundg (m' - (c + 1))
          case rel => exact ⟨rfl, c + 1, d, rfl, by simp, HNX.out hge, by rw [HTS.out, List.length_append, HZN.out]; have := HSUM.out; have := HD.out; omega, Nat.le_refl _⟩
          case measure => omega
        · have hcl := HCE.out j' (by omega)
          have hx2 := HVAL.out (by omega)
          rw [hx2] at hcl
          clear hx2
          go_wp2
          go_ret
          exact ⟨HBW.out, rfl⟩
    | succ h2 =>
      have e1 : ((h2 + 1 == 0) : Bool) = false := rfl
      rw [e1] at q1
      have Q3 := hide (q3 (by omega))
      clear q3 q4 q2 hrow2 e1
      go_wp2
      go_loopg [1, 6] m' (fun gk s1 s6 wr => A2 w1 m' j Ls' gk s1 s6 wr)
      case atStart => exact hA2.out
      case round =>
        obtain ⟨rfl, c, j', rfl, rfl, hc, hsum, hgk2⟩ := hrel
        obtain ⟨qc, qp⟩ := Q3.out c hc
        have hkid := HKK.out c hc
        have hkid' := hkid
        obtain ⟨nb3, _, _, _, hnode3, hrest⟩ := hkid'
        clear hrest
        rw [hnode3] at qp
        have hcLs : c < Ls'.length := by rw [HM2.out]; exact hc
        have hsp := ents_split hcLs
        have hts := ents_take_succ hcLs
        have hpart := ents_part hcLs
        have htot : L'.flatten = ents Ls' := by rw [HL.out]; rfl
        rw [← htot] at hpart
        have HLV : Hid (KidRec wr (h2 + 1) (rc rs' c) (lv Ls' c)) := hkid
        generalize hzs : (lv Ls' c).flatten = zs at *
        have hall : c + 1 = m' → ents Ls' = ents (Ls'.take c) ++ zs := fun h => by
          rw [← hts, List.take_of_length_le (by rw [HM2.out]; omega)]
        have hnext : zs.length ≤ j' → c + 1 < m' := fun h => by
          rcases Nat.lt_or_ge (c + 1) m' with h' | h'
          · exact h'
          · have := HJ.out
            rw [htot, hall (by omega), List.length_append] at this
            omega
        have hval : j' < zs.length → el zs j' = x := fun h => by
          rw [← HX.out, htot, hsp, el_append_right _ _ _ (by omega), el_append_left _ _ _ (by omega)]
          congr 1; omega
        have hzl : zs.length ≤ 1048576 := by omega
        have hj'b : j' ≤ 1048576 := by omega
        have HNX := hide hnext
        have HVAL := hide hval
        have HSUM := hide hsum
        have HTS := hide hts
        have HZS := hide hzs
        have HN3 := hide hnode3
        generalize hzn : zs.length = zl at *
        have HZN := hide hzn
        clear hnext hval hsum hts hsp htot hall hzn hA2 hzs hkid hpart hnode3
        by_cases hge : zl ≤ j'
        · have hsub : ((j' : Int) - zl) = ((j' - zl : Nat) : Int) := by omega
          generalize hd : j' - zl = d at *
          have HD := hide hd
          clear hd
          go_wp2
          go_roundg (m' - (c + 1))
          case rel => exact ⟨rfl, c + 1, d, rfl, by simp, HNX.out hge, by rw [HTS.out, List.length_append, HZN.out]; have := HSUM.out; have := HD.out; omega, Nat.le_refl _⟩
          case measure => omega
        · go_wp2
          go_roundg h2
          case rel => exact ⟨HWR.out, nb3, h2, _, lv Ls' c, j', rfl, rfl, HN3.out, HLV.out, by rw [HZS.out, HZN.out]; omega, by rw [HZS.out, HZN.out]; omega, by rw [HZS.out]; exact HVAL.out (by omega), Nat.le_refl _⟩
          case measure => omega

end Go.Proofs.Qxb6613757a.T
