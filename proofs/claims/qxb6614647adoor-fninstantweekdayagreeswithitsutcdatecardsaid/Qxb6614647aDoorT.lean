import Derived.Test.Qxb6614647aDoorProg
import Derived.Test.Qxb6614647aDoorPlain
import Derived.WalkKit
import Derived.WalkLawsBesides
namespace Go.Proofs.Qxb6614647aDoor.T
open Go.RowKit Plain
set_option linter.unusedVariables false

theorem bcell {W w1 : World} (hb : Below W.heap.size W w1) : (∀ b o, b < W.heap.size → w1.cell? ⟨b, o, none⟩ = W.cell? ⟨b, o, none⟩) ∧ (∀ b o, b < W.heap.size → w1.frozen? ⟨b, o, none⟩ = W.frozen? ⟨b, o, none⟩) :=
  ⟨fun b o h => hb.cell (p := ⟨b, o, none⟩) h, fun b o h => hb.frozen (p := ⟨b, o, none⟩) h⟩

theorem ret_int {k : IntKind} {a b : Int} (h : a = b) : Ending.returned (.int k a) = .returned (.int k b) := by rw [h]

theorem inst (s : Int) (w : World) :
    Calls Tryd.prog 6 #[.int .u32 s] w fun e w' => e = .returned (.agg #[.int .u32 s]) ∧ Below w.heap.size w w' := by
  go_enter Tryd.func6, Tryd.ntmps6
  go_wp2
  exact bodyPost_ret (v := .agg #[.int .u32 s]) (by simp [results, Tryd.results6, go_sem]) rfl ⟨rfl, (Below.refl _ _).alloc (Nat.le_refl _) _⟩

theorem day (s : Int) (w : World) (h0 : 0 ≤ s) (h1 : s ≤ 4294967295) :
    Calls Tryd.prog 11 #[.agg #[.int .u32 s]] w fun e w' => e = .returned (.agg #[.int .i32 (s / 86400)]) ∧ Below w.heap.size w w' := by
  go_enter Tryd.func11, Tryd.ntmps11
  go_wp2
  exact bodyPost_ret (v := .agg #[.int .i32 (s / 86400)]) (by simp [results, Tryd.results11, go_sem]) rfl ⟨rfl, ((Below.refl _ _).alloc (Nat.le_refl _) _).alloc (by simp) _⟩

theorem iday (s : Int) (w : World) (h0 : 0 ≤ s) (h1 : s ≤ 4294967295) :
    Calls Tryd.prog 5 #[.agg #[.int .u32 s]] w fun e w' => e = .returned (.agg #[.int .i32 (s / 86400)]) ∧ Below w.heap.size w w' := by
  go_enter Tryd.func5, Tryd.ntmps5
  go_wp2_with fail
  refine (day s _ h0 h1).mono ?_
  rintro e w1 ⟨rfl, hb⟩
  obtain ⟨hc, hf⟩ := bcell hb
  have hz : w.heap.size + 1 < w1.heap.size := by have := hb.size; simp at this; omega
  go_wp2
  have hs : (w1.setCell ⟨w.heap.size + 1, 0, none⟩ (.int .i32 (s / 86400))).cell? ⟨w.heap.size + 1, 0, none⟩ = some (.int .i32 (s / 86400)) :=
    World.cell?_setCell_same _ _ _ (u := .int .i32 0) (by rw [hc _ _ (by simp)]; simp [go_sem])
  refine bodyPost_ret (v := .agg #[.int .i32 (s / 86400)]) (by simp [results, Tryd.results5, go_sem, hs]) rfl ⟨rfl, ?_⟩
  exact ((((Below.refl _ _).alloc (Nat.le_refl _) _).alloc (by simp) _).trans (hb.mono (by simp; omega))).setCell (by simp) _

theorem leap (y : Nat) (w : World) (h1 : y ≤ 9999) :
    Calls Tryd.prog 15 #[.int .i64 y] w fun e w' => e = .returned (.bool (leapB y)) ∧ w' = w := by
  go_enter Tryd.func15, Tryd.ntmps15
  go_wp2
  all_goals
    go_ret
    refine ⟨congrArg (fun b => Ending.returned (.bool b)) ?_, rfl⟩
    rw [Bool.eq_iff_iff]
    simp only [leapB, Bool.and_eq_true, Bool.or_eq_true, Nat.beq_eq, beq_iff_eq, Bool.not_eq_true', ← Bool.not_eq_true]
    first | omega | (simp; omega)

theorem tab_le (m : Nat) (hm' : m ≤ 13) : tab m ≤ 334 := by
  have : ∀ k : Fin 14, tab k ≤ 334 := by decide
  exact this ⟨m, by omega⟩

theorem fom12 (y m : Nat) (w : World) (h1 : y ≤ 9999) (hm : 1 ≤ m) (hm' : m ≤ 12) (hc : w.cell? ⟨0, m - 1, none⟩ = some (.int .i64 (tab m))) :
    Calls Tryd.prog 12 #[.int .i64 y, .int .i64 m] w fun e w' => e = .returned (.int .i64 (fom y m)) ∧ w' = w := by
  have ht : tab m ≤ 334 := tab_le m (by omega)
  go_enter Tryd.func12, Tryd.ntmps12
  go_wp2_with (go_at_call 15; refine (leap _ _ h1).mono ?_; rintro e w' ⟨rfl, rfl⟩)
  all_goals
    go_ret
    refine ⟨ret_int ?_, rfl⟩
    unfold fom
  · rw [show Nat.ble m 2 = false from by rw [← Bool.not_eq_true, Nat.ble_eq]; omega, ‹leapB y = true›]; simp
  · rw [show Nat.ble m 2 = false from by rw [← Bool.not_eq_true, Nat.ble_eq]; omega, ‹leapB y = false›]; simp
  · rw [Nat.ble_eq_true_of_le (by omega)]; simp


theorem min3_eq (q : Nat) : (if (3 : Int) < (q : Int) then (3 : Int) else (q : Int)) = (min3 q : Int) := by
  unfold min3
  by_cases h : q ≤ 3
  · rw [if_neg (by omega), Nat.ble_eq_true_of_le h, cond_true]
  · rw [if_pos (by omega), show Nat.ble q 3 = false from by rw [← Bool.not_eq_true, Nat.ble_eq]; exact h, cond_false]; rfl
theorem min3_le (q : Nat) : min3 q ≤ 3 := by
  unfold min3
  by_cases h : q ≤ 3
  · rw [Nat.ble_eq_true_of_le h, cond_true]; exact h
  · rw [show Nat.ble q 3 = false from by rw [← Bool.not_eq_true, Nat.ble_eq]; exact h, cond_false]; omega
theorem min3_le' (q : Nat) : min3 q ≤ q := by
  unfold min3
  by_cases h : q ≤ 3
  · rw [Nat.ble_eq_true_of_le h, cond_true]; omega
  · rw [show Nat.ble q 3 = false from by rw [← Bool.not_eq_true, Nat.ble_eq]; exact h, cond_false]; omega
theorem min3_lt (q : Nat) (h : q ≤ 3) : min3 q = q := by
  unfold min3; rw [Nat.ble_eq_true_of_le h, cond_true]

/-- one step 'min(x/k, 3)' and what it leaves -/
theorem min3_step (x q r k : Nat) (hk : 0 < k) (hx : x ≤ 4 * k + 4) (hq : q = min3 (x / k)) (hr : r = x - q * k) :
    (if (3 : Int) < (x : Int) / (k : Int) then 3 else (x : Int) / (k : Int)) = (q : Int) ∧ (x : Int) - (q : Int) * (k : Int) = (r : Int) ∧ q ≤ 3 ∧ r ≤ k + 4 := by
  have a := min3_eq (x / k)
  have b := min3_le (x / k)
  have c := min3_le' (x / k)
  rw [← hq] at a b c
  rw [Int.natCast_ediv] at a
  have d : q * k ≤ x := Nat.le_trans (Nat.mul_le_mul_right k c) (Nat.div_mul_le_self x k)
  refine ⟨a, ?_, b, ?_⟩
  · rw [hr, Int.natCast_sub d, Int.natCast_mul]
  · by_cases h : x / k ≤ 3
    · have e : q = x / k := by rw [hq]; exact min3_lt _ h
      have f := Nat.div_add_mod x k
      have g := Nat.mod_lt x hk
      rw [hr, e, Nat.mul_comm]
      omega
    · have e : q = 3 := by
        rw [hq]; unfold min3
        rw [show Nat.ble (x / k) 3 = false from by rw [← Bool.not_eq_true, Nat.ble_eq]; exact h, cond_false]
      rw [hr, e]; omega

theorem div_step (x q r k : Nat) (hk : 0 < k) (hq : q = x / k) (hr : r = x - q * k) :
    (x : Int) / (k : Int) = (q : Int) ∧ (x : Int) - (q : Int) * (k : Int) = (r : Int) ∧ r < k := by
  have c := Nat.div_mul_le_self x k
  rw [← hq] at c
  refine ⟨by rw [hq, Int.natCast_ediv], by rw [hr, Int.natCast_sub c, Int.natCast_mul], ?_⟩
  have f := Nat.div_add_mod x k
  have g := Nat.mod_lt x hk
  rw [hr, hq, Nat.mul_comm]
  omega

/-- the program's reckoning, step by step, in the integers -/
theorem steps (n : Nat) (h : n ≤ 49710) :
    ((n : Int) + 719162) / 146097 = (cyc n : Int) ∧ (n : Int) + 719162 - (cyc n : Int) * 146097 = (n1 n : Int) ∧
    (if (3 : Int) < (n1 n : Int) / 36524 then 3 else (n1 n : Int) / 36524) = (cen n : Int) ∧ (n1 n : Int) - (cen n : Int) * 36524 = (n2 n : Int) ∧
    (n2 n : Int) / 1461 = (spa n : Int) ∧ (n2 n : Int) - (spa n : Int) * 1461 = (n3 n : Int) ∧
    (if (3 : Int) < (n3 n : Int) / 365 then 3 else (n3 n : Int) / 365) = (yrs n : Int) ∧ (n3 n : Int) - (yrs n : Int) * 365 = (n4 n : Int) ∧
    cyc n ≤ 5 ∧ n1 n ≤ 146096 ∧ cen n ≤ 3 ∧ n2 n ≤ 36528 ∧ spa n ≤ 25 ∧ n3 n ≤ 1460 ∧ yrs n ≤ 3 ∧ n4 n ≤ 369 := by
  obtain ⟨a1, a2, a3⟩ := div_step (n + 719162) (cyc n) (n1 n) 146097 (by omega) (by unfold cyc; rfl) (by unfold n1; rfl)
  obtain ⟨c1, c2, c3, c4⟩ := min3_step (n1 n) (cen n) (n2 n) 36524 (by omega) (by omega) (by unfold cen; rfl) (by unfold n2; rfl)
  obtain ⟨d1, d2, d3⟩ := div_step (n2 n) (spa n) (n3 n) 1461 (by omega) (by unfold spa; rfl) (by unfold n3; rfl)
  obtain ⟨f1, f2, f3, f4⟩ := min3_step (n3 n) (yrs n) (n4 n) 365 (by omega) (by omega) (by unfold yrs; rfl) (by unfold n4; rfl)
  have a1' : ((n : Int) + 719162) / 146097 = (cyc n : Int) := a1
  have a2' : (n : Int) + 719162 - (cyc n : Int) * 146097 = (n1 n : Int) := a2
  have d1' : (n2 n : Int) / 1461 = (spa n : Int) := d1
  refine ⟨a1', a2', c1, c2, d1', d2, f1, f2, ?_, by omega, c3, by omega, ?_, by omega, f3, by omega⟩
  · generalize cyc n = c at *; clear a2 a2' c1 c2 d1 d2 f1 f2 a1; omega
  · generalize n2 n = c at *; generalize spa n = d at *; clear a2 a2' c1 c2 d1 d2 f1 f2 a1 a1'; omega

theorem run_min2 (ts : Array TypeId) (t : TypeId) (x : Int) (w : World) :
    (Builtin.min_ ts t #[.int .i64 x, .int .i64 3]).run Tryd.prog w = .ok (.int .i64 (if (3 : Int) < x then 3 else x)) w := by
  simp [Builtin.min_, Builtin.min2, go_sem]

set_option maxHeartbeats 1000000 in
theorem date7core (n c x1 q x2 p x3 y x4 Y m : Nat) (w : World) (h1 : n ≤ 49710) (hc : ∀ i, i < 12 → w.cell? ⟨0, i, none⟩ = some (.int .i64 (tab (i + 1)))) (hw : 0 < w.heap.size)
    (e1 : ((n : Int) + 719162) / 146097 = (c : Int)) (e2 : (n : Int) + 719162 - (c : Int) * 146097 = (x1 : Int))
    (e3 : (if (3 : Int) < (x1 : Int) / 36524 then 3 else (x1 : Int) / 36524) = (q : Int)) (e4 : (x1 : Int) - (q : Int) * 36524 = (x2 : Int))
    (e5 : (x2 : Int) / 1461 = (p : Int)) (e6 : (x2 : Int) - (p : Int) * 1461 = (x3 : Int))
    (e7 : (if (3 : Int) < (x3 : Int) / 365 then 3 else (x3 : Int) / 365) = (y : Int)) (e8 : (x3 : Int) - (y : Int) * 365 = (x4 : Int))
    (ey : (c : Int) * 400 + (q : Int) * 100 + (p : Int) * 4 + (y : Int) + 1 = (Y : Int)) (em : (x4 : Int) / 31 + 1 = (m : Int))
    (b1 : c ≤ 5) (b2 : x1 ≤ 146096) (b3 : q ≤ 3) (b4 : x2 ≤ 36528) (b5 : p ≤ 25) (b6 : x3 ≤ 1460) (b7 : y ≤ 3) (b8 : x4 ≤ 369) (by1 : Y ≤ 9999) (bm1 : 1 ≤ m) (bm2 : m ≤ 12) (f1 : fom Y (m + 1) ≤ 400) (f2 : fom Y m ≤ 400) :
    Calls Tryd.prog 7 #[.agg #[.int .i32 n]] w fun e w' => Below w.heap.size w w' ∧ ∃ M : Nat, e = .returned (.tuple #[.int .i64 Y, .int .i64 M, .int .i64 ((x4 : Int) - (fom Y M : Int) + 1)]) ∧ ((m < 12 ∧ fom Y (m + 1) ≤ x4 ∧ M = m + 1) ∨ (¬ (m < 12 ∧ fom Y (m + 1) ≤ x4) ∧ M = m)) := by
  have g3 : ∀ w : World, (Builtin.min_ #[3, 3] 3 #[.int .i64 ((x1 : Int) / 36524), .int .i64 3]).run Tryd.prog w = .ok (.int .i64 q) w := fun w => by rw [run_min2, e3]
  have g7 : ∀ w : World, (Builtin.min_ #[3, 3] 3 #[.int .i64 ((x3 : Int) / 365), .int .i64 3]).run Tryd.prog w = .ok (.int .i64 y) w := fun w => by rw [run_min2, e7]
  have HC : Hid (∀ o : Obj, ∀ i, i < 12 → (w.alloc o).cell? ⟨0, i, none⟩ = some (.int .i64 (tab (i + 1)))) := fun o i hi => by
    rw [((Below.refl w.heap.size w).alloc (Nat.le_refl _) o).cell (p := ⟨0, i, none⟩) hw]; exact hc i hi
  have em1 : ((m + 1 : Nat) : Int) = (m : Int) + 1 := by omega
  have et : m - 1 + 1 = m := by omega
  have HT : Hid (m - 1 + 1 = m) := et
  have HE : Hid (((m + 1 : Nat) : Int) = (m : Int) + 1) := em1
  clear hc e3 e7 em1 et
  by_cases hm : m < 12
  · by_cases hl : fom Y (m + 1) ≤ x4
    · go_enter Tryd.func7, Tryd.ntmps7
      go_wp2_with fail
      rw [← HE.out]
      refine (fom12 Y (m + 1) _ by1 (by omega) (by omega) (HC.out _ m hm)).mono ?_
      rintro e w' ⟨rfl, rfl⟩
      go_wp2_with fail
      rw [← HE.out]
      refine (fom12 Y (m + 1) _ by1 (by omega) (by omega) (HC.out _ m hm)).mono ?_
      rintro e w' ⟨rfl, rfl⟩
      go_wp2_with fail
      go_ret3
      exact ⟨(Below.refl _ _).alloc (Nat.le_refl _) _, m + 1, rfl, .inl ⟨hm, hl, rfl⟩⟩
    · go_enter Tryd.func7, Tryd.ntmps7
      go_wp2_with fail
      rw [← HE.out]
      refine (fom12 Y (m + 1) _ by1 (by omega) (by omega) (HC.out _ m hm)).mono ?_
      rintro e w' ⟨rfl, rfl⟩
      go_wp2_with fail
      refine (fom12 Y m _ by1 bm1 bm2 ((HC.out _ (m - 1) (by omega)).trans (by rw [HT.out]))).mono ?_
      rintro e w' ⟨rfl, rfl⟩
      go_wp2_with fail
      go_ret3
      exact ⟨(Below.refl _ _).alloc (Nat.le_refl _) _, m, rfl, .inr ⟨fun h => hl h.2, rfl⟩⟩
  · go_enter Tryd.func7, Tryd.ntmps7
    go_wp2_with fail
    refine (fom12 Y m _ by1 bm1 bm2 ((HC.out _ (m - 1) (by omega)).trans (by rw [HT.out]))).mono ?_
    rintro e w' ⟨rfl, rfl⟩
    go_wp2_with fail
    go_ret3
    exact ⟨(Below.refl _ _).alloc (Nat.le_refl _) _, m, rfl, .inr ⟨fun h => hm h.1, rfl⟩⟩

theorem fom_le (y m : Nat) (h : m ≤ 13) : fom y m ≤ 400 := by
  have := tab_le m h
  unfold fom
  cases Nat.ble m 2 <;> cases leapB y <;> simp <;> omega

/-- the last step of the plain reckoning, in the walk's own form -/
theorem last (n M : Nat) (h : (m0 n < 12 ∧ fom (dY n) (m0 n + 1) ≤ n4 n ∧ M = m0 n + 1) ∨ (¬ (m0 n < 12 ∧ fom (dY n) (m0 n + 1) ≤ n4 n) ∧ M = m0 n)) : M = dM n := by
  unfold dM later
  rcases h with ⟨h1, h2, h3⟩ | ⟨h1, h3⟩
  · rw [Nat.ble_eq_true_of_le (show m0 n ≤ 11 by omega), Nat.ble_eq_true_of_le h2, cond_true, cond_true, h3]
  · by_cases h4 : m0 n < 12
    · rw [Nat.ble_eq_true_of_le (show m0 n ≤ 11 by omega), show Nat.ble (fom (dY n) (m0 n + 1)) (n4 n) = false from by rw [← Bool.not_eq_true, Nat.ble_eq]; exact fun h5 => h1 ⟨h4, h5⟩, cond_true, cond_false, h3]
    · rw [show Nat.ble (m0 n) 11 = false from by rw [← Bool.not_eq_true, Nat.ble_eq]; omega, cond_false, h3]

theorem date7 (n : Nat) (w : World) (h1 : n ≤ 49710) (hc : ∀ i, i < 12 → w.cell? ⟨0, i, none⟩ = some (.int .i64 (tab (i + 1)))) (hw : 0 < w.heap.size) (hf : fom (dY n) (dM n) ≤ n4 n) :
    Calls Tryd.prog 7 #[.agg #[.int .i32 n]] w fun e w' => e = .returned (.tuple #[.int .i64 (dY n), .int .i64 (dM n), .int .i64 (dD n)]) ∧ Below w.heap.size w w' := by
  obtain ⟨e1, e2, e3, e4, e5, e6, e7, e8, b1, b2, b3, b4, b5, b6, b7, b8⟩ := steps n h1
  have ey : (cyc n : Int) * 400 + (cen n : Int) * 100 + (spa n : Int) * 4 + (yrs n : Int) + 1 = (dY n : Int) := by unfold dY; simp
  have em : (n4 n : Int) / 31 + 1 = (m0 n : Int) := by unfold m0; simp
  have by1 : dY n ≤ 9999 := by omega
  have bm1 : 1 ≤ m0 n := by omega
  have bm2 : m0 n ≤ 12 := by omega
  refine (date7core n (cyc n) (n1 n) (cen n) (n2 n) (spa n) (n3 n) (yrs n) (n4 n) (dY n) (m0 n) w h1 hc hw e1 e2 e3 e4 e5 e6 e7 e8 ey em b1 b2 b3 b4 b5 b6 b7 b8 by1 bm1 bm2 (fom_le _ _ (by omega)) (fom_le _ _ (by omega))).mono ?_
  rintro e w' ⟨hb, M, rfl, hM⟩
  obtain rfl := last n M hM
  refine ⟨?_, hb⟩
  have : (n4 n : Int) - (fom (dY n) (dM n) : Int) + 1 = (dD n : Int) := by unfold dD; omega
  rw [this]

end Go.Proofs.Qxb6614647aDoor.T
