import Derived.Test.Qxb6614647aDays
import Derived.Test.Qxb6614647aWeek
import Derived.Test.Qxb6614647aCiv
namespace Go.Proofs.Qxb6614647a.Laws
open Go.RowKit Plain T Civ Week
theorem hide {p : Prop} (h : p) : Hid p := h
theorem unhide {p : Prop} (h : Hid p) : p := h.out
set_option linter.unusedVariables false

theorem bounds (n : Nat) (h : n ≤ 49710) (hd : doy n ≤ 365) : 1 ≤ cY n ∧ cY n ≤ 9999 ∧ 1 ≤ cM n ∧ cM n ≤ 12 := by
  have c0 : era n = (n + 719468) / 146097 := by unfold era; rfl
  have c1 : doe n = n + 719468 - era n * 146097 := by unfold doe; rfl
  have c2 : yoe n = (doe n - doe n / 1460 + doe n / 36524 - doe n / 146096) / 365 := by unfold yoe yoeOf; rfl
  have c4 : mp n = (5 * doy n + 2) / 153 := by unfold mp; rfl
  have c6 : cY n = cond (Nat.ble (mp n) 9) (yoe n + era n * 400) (yoe n + era n * 400 + 1) := by unfold cY; rfl
  have c7 : cM n = cond (Nat.ble (mp n) 9) (mp n + 3) (mp n - 9) := by unfold cM; rfl
  generalize cY n = rY at *
  generalize cM n = rM at *
  generalize era n = E at *
  generalize mp n = m at *
  generalize doy n = x at *
  generalize yoe n = y at *
  generalize doe n = D at *
  have b2 : D ≤ 146096 := by clear c2 c4 c6 c7; omega
  have b3 : y ≤ 399 := by clear c1 c4 c6 c7; omega
  have b4 : m ≤ 11 := by clear c1 c2 c6 c7; omega
  have b5 : 4 ≤ E ∧ E ≤ 5 := by clear c1 c2 c4 c6 c7; omega
  clear c0 c1 c2 c4
  by_cases hm : m ≤ 9
  · rw [Nat.ble_eq_true_of_le hm, cond_true] at c6 c7
    omega
  · rw [show Nat.ble m 9 = false from by rw [← Bool.not_eq_true, Nat.ble_eq]; exact hm, cond_false] at c6 c7
    omega

theorem ret_true {b : Bool} (h : b = true) : Ending.returned (.bool b) = .returned (.bool true) := by rw [h]

set_option maxHeartbeats 1000000 in
theorem walk4core (s : Int) (n : Nat) (w : World) (h0 : 0 ≤ s) (h1 : s ≤ 4294967295) (hn : s / 86400 = (n : Int)) (hb : n ≤ 49710) :
    Calls Try.prog 4 #[.int .u32 s] w fun e w' => e = .returned (.bool true) ∧ Below w.heap.size w w' := by
  obtain ⟨f1, f2, f3, f4, f5, f6, f7, f8⟩ := facts n hb
  rw [← f3, ← f4, ← f5] at f8
  rw [← f5] at f7
  obtain ⟨k1, k2, k3, k4⟩ := bounds n hb f2
  have F8 : Hid ((sak (cY n) (cM n) (cD n) : Int) = ((n : Int) + 4) % 7) := by show _ = _; omega
  clear f3 f4 f5 f6 f8
  by_cases hs : s ≤ 4294880895
  · have hn2 : (s + 86400) / 86400 = ((n + 1 : Nat) : Int) := by omega
    have hb2 : n + 1 ≤ 49710 := by omega
    have HN := hide hn2
    clear hn2
    go_enter Try.func4, Try.ntmps4
    go_wp2_with fail
    refine (inst s _).mono ?_
    rintro e w1 ⟨rfl, hb1⟩
    have HB1 := hide hb1
    clear hb1
    go_wp2_with fail
    refine (iweek9 s n _ h0 h1 hn hb).mono ?_
    rintro e w2 ⟨rfl, hb2⟩
    have HB2 := hide hb2
    clear hb2
    go_wp2_with fail
    refine (civ9 n _ hb f1 f2).mono ?_
    rintro e w3 ⟨rfl, rfl⟩
    go_wp2_with fail
    refine (sak10 (cY n) (cM n) (cD n) _ k1 k2 k3 k4 f7).mono ?_
    rintro e w3 ⟨rfl, rfl⟩
    rw [F8.out]
    go_wp2_with fail
    refine (inst (s + 86400) _).mono ?_
    rintro e w4 ⟨rfl, hb4⟩
    have HB4 := hide hb4
    clear hb4
    go_wp2_with fail
    refine (iweek9 (s + 86400) (n + 1) _ (by omega) (by omega) (unhide HN) (by omega)).mono ?_
    rintro e w5 ⟨rfl, hb5⟩
    have HB5 := hide hb5
    clear hb5
    go_wp2_with fail
    go_ret
    refine ⟨ret_true ?_, ?_⟩
    · simp only [beq_iff_eq]; omega
    · have t2 := (unhide HB1).trans ((unhide HB2).mono (unhide HB1).size)
      have t4 := t2.trans ((unhide HB4).mono t2.size)
      exact t4.trans ((unhide HB5).mono t4.size)
  · go_enter Try.func4, Try.ntmps4
    go_wp2_with fail
    refine (inst s _).mono ?_
    rintro e w1 ⟨rfl, hb1⟩
    have HB1 := hide hb1
    clear hb1
    go_wp2_with fail
    refine (iweek9 s n _ h0 h1 hn hb).mono ?_
    rintro e w2 ⟨rfl, hb2⟩
    have HB2 := hide hb2
    clear hb2
    go_wp2_with fail
    refine (civ9 n _ hb f1 f2).mono ?_
    rintro e w3 ⟨rfl, rfl⟩
    go_wp2_with fail
    refine (sak10 (cY n) (cM n) (cD n) _ k1 k2 k3 k4 f7).mono ?_
    rintro e w3 ⟨rfl, rfl⟩
    rw [F8.out]
    go_wp2_with fail
    go_ret
    refine ⟨ret_true ?_, (unhide HB1).trans ((unhide HB2).mono (unhide HB1).size)⟩
    rfl

end Go.Proofs.Qxb6614647a.Laws
