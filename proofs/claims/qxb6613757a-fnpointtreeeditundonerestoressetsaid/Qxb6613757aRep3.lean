import Derived.Test.Qxb6613757aRep2
/-
  slices.Replace in place: the walk where the two are not the last.
-/
namespace Go.Proofs.Qxb6613757a.T
open Go.RowKit Go.Shelf
set_option linter.unusedVariables false
set_option linter.unusedSimpArgs false

theorem own_dn' {w : World} {base size n : Nat} {e : TypeId} {v : Value} {xs : List Value} (h : w.ownsRow base e size v n xs) (q : Nat) : (w.drewN q).ownsRow base e size v n xs := h
theorem grown_dn {w w1 : World} {r : Option Nat} {q : Nat} (h : (w.drewN q).grownBy w1 r) : w.grownBy w1 r := ⟨h.os, h.tape, h.output, h.size, h.block⟩
theorem grown_dr {w w1 : World} {r : Option Nat} (h : w.drew.grownBy w1 r) : w.grownBy w1 r := ⟨h.os, h.tape, h.output, h.size, h.block⟩
theorem own_dr {w : World} {base size n : Nat} {e : TypeId} {v : Value} {xs : List Value} (h : w.ownsRow base e size v n xs) : (w.drew).ownsRow base e size v n xs := h
theorem run_copyE {w : World} {g N cap : Nat} {xs : List Rec} (h : w.ownsRow 0 81 5 (.slice (some ⟨g, 0, none⟩) N cap) N (recCells xs)) (hN : xs.length = N)
    (p off dl dc sl sc : Nat) (ad : Addr) (ys : List Rec) (ty : TypeId) (hoff : off = p * 5) (hk : ys.length = Nat.min sl dl)
    (hnews : ∀ j v, (recCells ys)[j]? = some v → w.cell? (ad.add j) = some v) (hp : p + ys.length ≤ N) :
    ∃ w' : World, (Builtin.copy_ #[63, 63] ty #[.slice (some ⟨g, off, none⟩) dl dc, .slice (some ad) sl sc]).run Try.prog w = .ok (goInt ys.length) w' ∧ w'.ownsRow 0 81 5 (.slice (some ⟨g, 0, none⟩) N cap) N (recCells (xs.take p ++ (ys ++ xs.drop (p + ys.length)))) ∧ w.grownBy w' (some g) := by
  obtain ⟨r1, r2, r3, r4⟩ := setR h hN p ys hp
  exact ⟨_, run_copyR h hN p off dl dc sl sc ad ys ty hoff hk hnews hp, r2, r3⟩
def spl (xs : List Rec) (p : Nat) (ys : List Rec) : List Rec := xs.take p ++ (ys ++ xs.drop (p + ys.length))
theorem spl_len {xs ys : List Rec} {p : Nat} (h : p + ys.length ≤ xs.length) : (spl xs p ys).length = xs.length := by
  unfold spl; simp only [List.length_append, List.length_take, List.length_drop]; omega
theorem spl_take {xs ys : List Rec} {p : Nat} (h : p ≤ xs.length) : (spl xs p ys).take (p + ys.length) = xs.take p ++ ys := by
  unfold spl
  rw [← List.append_assoc, List.take_append, List.take_of_length_le (by simp; omega)]
  have : p + ys.length - (xs.take p ++ ys).length = 0 := by simp; omega
  rw [this, List.take_zero, List.append_nil]
theorem spl_take_le {xs ys : List Rec} {p M : Nat} (h : p ≤ xs.length) (hM : M ≤ p) : (spl xs p ys).take M = xs.take M := by
  unfold spl
  rw [List.take_append, List.take_take, Nat.min_eq_left hM]
  have : M - (xs.take p).length = 0 := by simp; omega
  rw [this, List.take_zero, List.append_nil]
theorem spl_drop {xs ys : List Rec} {p M : Nat} (h : p + ys.length ≤ xs.length) (hM : p + ys.length ≤ M) : (spl xs p ys).drop M = xs.drop M := by
  unfold spl
  rw [← List.append_assoc, List.drop_append, List.drop_of_length_le (by simp; omega), List.nil_append, List.drop_drop]
  congr 1; simp; omega

theorem repB_end {rs0 rs ps : List Rec} {u n i k j q ik t : Nat} (hu : rs0.length = u) (hn : rs.length = n) (hk : ps.length = k) (hj : j = i + 2) (hjn : j < n) (hq : n = j + q) (hik : ik = i + k) (ht : t = ik + q) (hk2 : k ≤ 2) :
    (spl (spl (rs0 ++ rs) (u + i) ps) (u + ik) (rs.drop j)).take (u + t) = rs0 ++ (rs.take i ++ (ps ++ rs.drop j)) ∧ (rs.drop j).length = q ∧
    rs.drop j = ((spl (rs0 ++ rs) (u + i) ps).drop (u + j)).take q ∧ (spl (rs0 ++ rs) (u + i) ps).length = u + n ∧ (spl (spl (rs0 ++ rs) (u + i) ps) (u + ik) (rs.drop j)).length = u + n := by
  have hl : (rs0 ++ rs).length = u + n := by simp [hu, hn]
  have hdl : (rs.drop j).length = q := by rw [List.length_drop]; omega
  have h1 : (spl (rs0 ++ rs) (u + i) ps).length = u + n := by rw [spl_len (by omega), hl]
  have e1 : (rs0 ++ rs).take (u + i) = rs0 ++ rs.take i := by rw [List.take_append, List.take_of_length_le (by omega)]; congr 2; omega
  refine ⟨?_, hdl, ?_, h1, by rw [spl_len (by omega), h1]⟩
  · rw [show u + t = u + ik + (rs.drop j).length by omega, spl_take (by omega), show u + ik = u + i + ps.length by omega, spl_take (by omega), e1]
    simp only [List.append_assoc]
  · have e : (spl (rs0 ++ rs) (u + i) ps).drop (u + j) = rs.drop j := by
      rw [spl_drop (by omega) (by omega), List.drop_append, List.drop_of_length_le (l := rs0) (by omega), List.nil_append]
      congr 1; omega
    rw [e, List.take_of_length_le (by omega)]

set_option maxRecDepth 100000 in
set_option maxHeartbeats 2000000 in
theorem rep54B (g u n cap lcap i j k gv cv : Nat) (rs0 rs ps : List Rec) (w : World) (hu : rs0.length = u) (hn : rs.length = n) (hj : j = i + 2) (hjn : j < n) (hk : ps.length = k) (hk1 : 1 ≤ k) (hk2 : k ≤ 2) (hlc : n ≤ lcap) (hN : n ≤ 1048576) (hcm : lcap ≤ maxLen)
    (hrow : w.ownsRow 0 81 5 (.slice (some ⟨g, 0, none⟩) (u + n) cap) (u + n) (recCells (rs0 ++ rs))) (hsrc : w.ownsRow 0 81 5 (.slice (some ⟨gv, 0, none⟩) k cv) k (recCells ps)) :
    Calls Try.prog 54 #[.slice (some ⟨g, u * 5, none⟩) n lcap, .int .i64 (i : Nat), .int .i64 (j : Nat), .slice (some ⟨gv, 0, none⟩) k cv] w fun r w' => w.grownBy w' (some g) ∧ ∃ e, e + 2 = n + k ∧ r = .returned (.slice (some ⟨g, u * 5, none⟩) e lcap) ∧
      w'.ownsRow 0 81 5 (.slice (some ⟨g, 0, none⟩) (u + e) cap) (u + e) (recCells (rs0 ++ (rs.take i ++ (ps ++ rs.drop j)))) := by
  obtain ⟨q, hq⟩ : ∃ q, n = j + q := ⟨n - j, by omega⟩
  obtain ⟨ik, hik⟩ : ∃ ik, ik = i + k := ⟨_, rfl⟩
  obtain ⟨t, ht⟩ : ∃ t, t = ik + q := ⟨_, rfl⟩
  obtain ⟨b1, b2, b3, b4, b5⟩ := repB_end hu hn hk hj hjn hq hik ht hk2
  have s1 := slice63_lh g (u * 5) n lcap i j (by omega) (by omega)
  have s2 := slice63_h g (u * 5) n lcap i (by omega)
  have s3 := slice63_l g (u * 5) n lcap j (by omega)
  rw [if_neg (by omega), show u * 5 + j * 5 = (u + j) * 5 by omega, show n - j = q by omega] at s3
  have s4 := slice63_h g (u * 5) n lcap t (by omega)
  have s5 := slice63_l g (u * 5) t lcap i (by omega)
  rw [if_neg (by omega), show u * 5 + i * 5 = (u + i) * 5 by omega] at s5
  have s6 := slice63_l g (u * 5) t lcap ik (by omega)
  rw [if_neg (by omega), show u * 5 + ik * 5 = (u + ik) * 5 by omega, show t - ik = q by omega] at s6
  have s7 := slice63_l g (u * 5) n lcap t (by omega)
  have hcells := own_cells hsrc hk 0 k ps (by rw [List.drop_zero, List.take_of_length_le (by omega)])
  rw [Nat.zero_mul] at hcells
  have hij : ((i : Int) == (j : Int)) = false := by simp; omega
  have hjj : ((j : Int) == (n : Int)) = false := by simp; omega
  have hsum1 : ((i : Int) + (k : Int)) = (ik : Int) := by omega
  have hsum2 : ((ik : Int) + (q : Int)) = (t : Int) := by omega
  have hbik : ik ≤ 2097152 := by omega
  have hbt : t ≤ 2097152 := by omega
  have hbq : q ≤ 2097152 := by omega
  have htc : ¬ ((lcap : Int) < (t : Int)) := by omega
  have hikj : (ik : Int) ≤ (j : Int) := by omega
  have HROW := hide hrow
  have HCE := hide hcells
  have HT0 : Hid ((rs0 ++ rs).length = u + n) := by show _ = _; simp [hu, hn]
  have HX1 := hide b4
  have HX2 := hide b5
  have HD := hide b2
  have HSRC2 : Hid (∀ w' : World, w'.ownsRow 0 81 5 (.slice (some ⟨g, 0, none⟩) (u + n) cap) (u + n) (recCells (spl (rs0 ++ rs) (u + i) ps)) → ∀ j1 v, (recCells (rs.drop j))[j1]? = some v → w'.cell? ((⟨g, (u + j) * 5, none⟩ : Addr).add j1) = some v) := fun w' h => own_cells h b4 (u + j) q _ b3
  have HLAST : Hid (∀ w' : World, w'.ownsRow 0 81 5 (.slice (some ⟨g, 0, none⟩) (u + n) cap) (u + n) (recCells (spl (spl (rs0 ++ rs) (u + i) ps) (u + ik) (rs.drop j))) → w'.ownsRow 0 81 5 (.slice (some ⟨g, 0, none⟩) (u + t) cap) (u + t) (recCells (rs0 ++ (rs.take i ++ (ps ++ rs.drop j))))) := fun w' h => by
    rw [← b1]
    exact own_prefix h b5 (by omega)
  have HLAST2 : Hid (k = 1 → ∀ w' : World, w'.ownsRow 0 81 5 (.slice (some ⟨g, 0, none⟩) (u + n) cap) (u + n) (recCells (spl (spl (spl (rs0 ++ rs) (u + i) ps) (u + ik) (rs.drop j)) (u + t) [rec0])) → w'.ownsRow 0 81 5 (.slice (some ⟨g, 0, none⟩) (u + t) cap) (u + t) (recCells (rs0 ++ (rs.take i ++ (ps ++ rs.drop j))))) := fun hk1 w' h => by
    have := own_prefix (M := u + t) h (by rw [spl_len (by rw [b5, List.length_singleton]; omega), b5]) (by omega)
    rw [spl_take_le (by omega) (Nat.le_refl _), b1] at this
    exact this
  have HM1 : Hid (ps.length = Nat.min k (t - i)) := by show _ = _; rw [hk]; exact (Nat.min_eq_left (by omega)).symm
  have HM2 : Hid ((rs.drop j).length = Nat.min q q) := by show _ = _; rw [b2]; exact (Nat.min_self q).symm
  have HF1 : Hid (u + i + ps.length ≤ u + n) := by show _ ≤ _; omega
  have HF2 : Hid (u + ik + (rs.drop j).length ≤ u + n) := by show _ ≤ _; omega
  have HFIN : Hid (t + 2 = n + k) := by show _ = _; omega
  obtain ⟨ys2, hys2⟩ : ∃ ys2, rs.drop j = ys2 := ⟨_, rfl⟩
  rw [hys2] at HSRC2 HLAST HLAST2 HM2 HF2 HX2 HD ⊢
  have hwik : IntKind.i64.wrap (ik : Int) = (ik : Int) := wrap_small _ (by omega) (by omega)
  clear hrow hsrc hcells hk hj hq hu hn b1 b2 b3 b4 b5 hik ht hys2
  have hfin1 : Hid (k = 1 → n - t = 1 ∧ (if lcap = t then u * 5 else u * 5 + t * 5) = (u + t) * 5 ∧ u + t + 1 ≤ u + n) := fun h => by
    have := HFIN.out
    refine ⟨by omega, ?_, by omega⟩
    rw [if_neg (by omega)]; omega
  have hfin2 : Hid (k ≠ 1 → n - t = 0) := fun h => by have := HFIN.out; omega
  go_enter Try.func54, Try.ntmps54
  go_wp2
  go_quiet (fail)
  go_wp2
  obtain ⟨w1, hrun1, hown1, hgr1⟩ := run_copyE (own_dn' HROW.out nq) HT0.out (u + i) ((u + i) * 5) (t - i) (lcap - i) k cv ⟨gv, 0, none⟩ ps 3 rfl HM1.out HCE.out HF1.out
  have HO1 := hide hown1
  have HG1 := hide hgr1
  clear hown1 hgr1
  rw [hrun1]
  clear hrun1
  go_wp2
  obtain ⟨w1d, hw1d⟩ : ∃ w1d, w1d = w1 := ⟨_, rfl⟩
  go_region_held_law (fun _ => True) (trivial)
    (first | (refine step_copyR rfl _ _ rfl (own_dr HO1.out) HX1.out (u + ik) _ _ _ _ _ ⟨g, (u + j) * 5, none⟩ ys2 rfl rfl rfl HM2.out (HSRC2.out _ (own_dr HO1.out)) HF2.out ?_
              intro w2 hown2 hgr2
              have HO2 := hide hown2
              have HG2 := hide hgr2
              clear hown2 hgr2))
  by_cases hke : k = 1
  · obtain ⟨f1, f2, f3⟩ := hfin1.out hke
    rw [f2] at s7
    have F1 := hide f1
    clear f1 f2
    go_wp2
    obtain ⟨w3, hrun3, hown3, hgr3⟩ := run_clear1 HO2.out HX2.out (u + t) ((u + t) * 5) (lcap - t) (n - t) 0 F1.out rfl f3
    have HO3 := hide hown3
    have HG3 := hide hgr3
    clear hown3 hgr3
    rw [hrun3]
    go_wp2
    go_ret
    exact ⟨World.grownBy.trans (World.grownBy.trans (grown_dn HG1.out) (grown_dr HG2.out)) HG3.out, t, HFIN.out, rfl, HLAST2.out hke _ HO3.out⟩
  · have f0 := hfin2.out hke
    rw [f0] at s7
    clear f0
    have hcl := fun W => run_clear0 W 0
    go_wp2
    all_goals
      go_ret
      exact ⟨World.grownBy.trans (grown_dn HG1.out) (grown_dr HG2.out), t, HFIN.out, rfl, HLAST.out _ HO2.out⟩

/-- Replace of two neighbours by one or two records, in place -/
theorem rep54 (g u n cap lcap i j k gv cv : Nat) (rs0 rs ps : List Rec) (w : World) (hu : rs0.length = u) (hn : rs.length = n) (hj : j = i + 2) (hjn : j ≤ n) (hk : ps.length = k) (hk1 : 1 ≤ k) (hk2 : k ≤ 2) (hlc : n ≤ lcap) (hN : n ≤ 1048576) (hcm : lcap ≤ maxLen)
    (hrow : w.ownsRow 0 81 5 (.slice (some ⟨g, 0, none⟩) (u + n) cap) (u + n) (recCells (rs0 ++ rs))) (hsrc : w.ownsRow 0 81 5 (.slice (some ⟨gv, 0, none⟩) k cv) k (recCells ps)) :
    Calls Try.prog 54 #[.slice (some ⟨g, u * 5, none⟩) n lcap, .int .i64 (i : Nat), .int .i64 (j : Nat), .slice (some ⟨gv, 0, none⟩) k cv] w fun r w' => w.grownBy w' (some g) ∧ ∃ e, e + 2 = n + k ∧ r = .returned (.slice (some ⟨g, u * 5, none⟩) e lcap) ∧
      w'.ownsRow 0 81 5 (.slice (some ⟨g, 0, none⟩) (u + e) cap) (u + e) (recCells (rs0 ++ (rs.take i ++ (ps ++ rs.drop j)))) := by
  by_cases h : j = n
  · exact rep54A g u n cap lcap i j k gv cv rs0 rs ps w hu hn hj h hk hk1 hk2 hlc hN hrow hsrc
  · exact rep54B g u n cap lcap i j k gv cv rs0 rs ps w hu hn hj (by omega) hk hk1 hk2 hlc hN hcm hrow hsrc

end Go.Proofs.Qxb6613757a.T
