import Derived.Test.Qxb6614647aDoorLaws
import Derived.Test.Qxb6614647aDoorWeek
namespace Go.Proofs.Qxb6614647aDoor.Laws
open Go.RowKit Plain T Civ Week
set_option linter.unusedVariables false

theorem bounds (n : Nat) (h : n ≤ 49710) : 1 ≤ dY n ∧ dY n ≤ 9999 ∧ 1 ≤ m0 n ∧ m0 n ≤ 12 := by
  obtain ⟨e1, e2, e3, e4, e5, e6, e7, e8, b1, b2, b3, b4, b5, b6, b7, b8⟩ := steps n h
  have ey : (cyc n : Int) * 400 + (cen n : Int) * 100 + (spa n : Int) * 4 + (yrs n : Int) + 1 = (dY n : Int) := by unfold dY; simp
  have em : (n4 n : Int) / 31 + 1 = (m0 n : Int) := by unfold m0; simp
  exact ⟨by omega, by omega, by omega, by omega⟩

theorem month (n : Nat) (h : n ≤ 49710) : 1 ≤ dM n ∧ dM n ≤ 12 := by
  obtain ⟨_, _, a, b⟩ := bounds n h
  have e : dM n = cond (Nat.ble (m0 n) 11) (cond (later n) (m0 n + 1) (m0 n)) (m0 n) := by unfold dM; rfl
  by_cases hm : m0 n ≤ 11
  · rw [Nat.ble_eq_true_of_le hm, cond_true] at e
    cases hl : later n <;> rw [hl] at e <;> simp at e <;> omega
  · rw [show Nat.ble (m0 n) 11 = false from by rw [← Bool.not_eq_true, Nat.ble_eq]; exact hm, cond_false] at e
    omega

theorem ret_true {b : Bool} (h : b = true) : Ending.returned (.bool b) = .returned (.bool true) := by rw [h]

set_option maxHeartbeats 1000000 in
theorem walk4var (s : Int) (n Y M D : Nat) (w : World) (h0 : 0 ≤ s) (h1 : s ≤ 4294967295) (hn : s / 86400 = (n : Int)) (hb : n ≤ 49710)
    (hc : ∀ i, i < 12 → w.cell? ⟨0, i, none⟩ = some (.int .i64 (tab (i + 1)))) (hw : 0 < w.heap.size)
    (HD : Hid (∀ w : World, (∀ i, i < 12 → w.cell? ⟨0, i, none⟩ = some (.int .i64 (tab (i + 1)))) → 0 < w.heap.size →
      Calls Tryd.prog 7 #[.agg #[.int .i32 n]] w fun e w' => e = .returned (.tuple #[.int .i64 Y, .int .i64 M, .int .i64 D]) ∧ Below w.heap.size w w'))
    (HS : Hid (∀ w : World, Calls Tryd.prog 10 #[.int .i64 Y, .int .i64 M, .int .i64 D] w fun e w' => e = .returned (.int .i64 (((n : Int) + 4) % 7)) ∧ w' = w))
    (k1 : 1 ≤ Y) (k2 : Y ≤ 9999) (k3 : 1 ≤ M) (k4 : M ≤ 12) (k5 : 1 ≤ D) (k6 : D ≤ 31) :
    Calls Tryd.prog 4 #[.int .u32 s] w fun e w' => e = .returned (.bool true) ∧ Below w.heap.size w w' := by
  have HC := hide hc
  clear hc
  go_enter Tryd.func4, Tryd.ntmps4
  go_wp2_with fail
  refine (inst s _).mono ?_
  rintro e w1 ⟨rfl, hb1⟩
  have HC1 := hide (keep hb1 hw (unhide HC)).1
  have hw1 := (keep hb1 hw (unhide HC)).2
  have HB1 := hide hb1
  clear hb1
  go_wp2_with fail
  refine (iday s _ h0 h1).mono ?_
  rintro e w2 ⟨rfl, hb2⟩
  have hb0 := ((Below.refl w1.heap.size w1).alloc (Nat.le_refl _) (.cells #[.int .u32 s] 29))
  have hk := keep hb0 hw1 (unhide HC1)
  have HC2 := hide (keep hb2 hk.2 hk.1).1
  have hw2 := (keep hb2 hk.2 hk.1).2
  have hs2 : w2.cell? ⟨w1.heap.size, 0, none⟩ = some (.int .u32 s) := by
    rw [(bcell hb2).1 _ _ (by simp)]; simp [go_sem]
  have hz2 : w1.heap.size + 1 ≤ w2.heap.size := by have := hb2.size; simpa using this
  have HB2 := hide (hb0.trans (hb2.mono (by simp)))
  clear hb2 hb0 hk
  go_wp2_with fail
  refine (unhide HD _ (unhide HC2) hw2).mono ?_
  rintro e w3 ⟨rfl, hb3⟩
  have hs3 : w3.cell? ⟨w1.heap.size, 0, none⟩ = some (.int .u32 s) := by
    rw [(bcell hb3).1 _ _ (by omega)]; exact hs2
  have HB3 := hide hb3
  clear hb3 hs2
  go_wp2_with fail
  refine (iweek9 s n _ h0 h1 hn hb).mono ?_
  rintro e w4 ⟨rfl, hb4⟩
  have HB4 := hide hb4
  clear hb4
  go_wp2_with fail
  refine (unhide HS _).mono ?_
  rintro e w5 ⟨rfl, rfl⟩
  go_wp2_with fail
  go_ret
  refine ⟨rfl, ?_⟩
  have t2 := (unhide HB1).trans ((unhide HB2).mono (unhide HB1).size)
  have t3 := t2.trans ((unhide HB3).mono t2.size)
  exact t3.trans ((unhide HB4).mono t3.size)

theorem walk4core (s : Int) (n : Nat) (w : World) (h0 : 0 ≤ s) (h1 : s ≤ 4294967295) (hn : s / 86400 = (n : Int)) (hb : n ≤ 49710)
    (hc : ∀ i, i < 12 → w.cell? ⟨0, i, none⟩ = some (.int .i64 (tab (i + 1)))) (hw : 0 < w.heap.size) :
    Calls Tryd.prog 4 #[.int .u32 s] w fun e w' => e = .returned (.bool true) ∧ Below w.heap.size w w' := by
  obtain ⟨f1, f2, f3, f4, f5, f6, f7, f8⟩ := facts n hb
  obtain ⟨k1, k2, -, -⟩ := bounds n hb
  obtain ⟨k3, k4⟩ := month n hb
  have k5 : 1 ≤ dD n := by
    have e : dD n = n4 n + 1 - fom (dY n) (dM n) := by unfold dD; rfl
    omega
  have F8 : (sak (dY n) (dM n) (dD n) : Int) = ((n : Int) + 4) % 7 := by omega
  exact walk4var s n (dY n) (dM n) (dD n) w h0 h1 hn hb hc hw (fun w' hc' hw' => date7 n w' hb hc' hw' f6)
    (fun w' => (sak10 (dY n) (dM n) (dD n) w' k1 k2 k3 k4 f7).mono (by rintro e w'' ⟨rfl, rfl⟩; rw [F8]; exact ⟨rfl, rfl⟩)) k1 k2 k3 k4 k5 f7

end Go.Proofs.Qxb6614647aDoor.Laws
