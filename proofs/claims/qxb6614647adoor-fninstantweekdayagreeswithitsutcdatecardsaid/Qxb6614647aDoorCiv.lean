import Derived.Test.Qxb6614647aDoorProg
import Derived.Test.Qxb6614647aDoorPlain
import Derived.WalkKit
import Derived.WalkLawsBesides
namespace Go.Proofs.Qxb6614647aDoor.Civ
open Go.RowKit Plain
set_option linter.unusedVariables false

set_option maxHeartbeats 1000000 in
theorem civcore (z E D y Y x m d : Nat) (w : World) (h1 : z ≤ 49710)
    (e1 : ((z : Int) + 719468) / 146097 = (E : Int)) (e2 : (z : Int) + 719468 - (E : Int) * 146097 = (D : Int))
    (e3 : ((D : Int) - (D : Int) / 1460 + (D : Int) / 36524 - (D : Int) / 146096) / 365 = (y : Int))
    (e4 : (y : Int) + (E : Int) * 400 = (Y : Int))
    (e5 : (D : Int) - (365 * (y : Int) + (y : Int) / 4 - (y : Int) / 100) = (x : Int))
    (e6 : (5 * (x : Int) + 2) / 153 = (m : Int))
    (e7 : (x : Int) - (153 * (m : Int) + 2) / 5 + 1 = (d : Int))
    (b1 : E ≤ 5) (b2 : D ≤ 146096) (b3 : y ≤ 399) (b4 : Y ≤ 9999) (b5 : x ≤ 365) (b6 : m ≤ 11) (b7 : d ≤ 40) :
    Calls Tryd.prog 8 #[.int .i64 z] w fun e w' => w' = w ∧ ((m ≤ 9 ∧ e = .returned (.tuple #[.int .i64 Y, .int .i64 ((m : Int) + 3), .int .i64 d])) ∨ (¬ m ≤ 9 ∧ e = .returned (.tuple #[.int .i64 ((Y : Int) + 1), .int .i64 ((m : Int) - 9), .int .i64 d]))) := by
  by_cases hm : m ≤ 9
  · go_enter Tryd.func8, Tryd.ntmps8
    go_wp2
    go_ret3
    exact ⟨rfl, .inl ⟨hm, rfl⟩⟩
  · go_enter Tryd.func8, Tryd.ntmps8
    go_wp2
    go_ret3
    exact ⟨rfl, .inr ⟨hm, rfl⟩⟩

theorem sub9 (m r : Nat) (h : r = m - 9) (h9 : ¬ m ≤ 9) : (m : Int) - 9 = (r : Int) := by omega

theorem civ8 (n : Nat) (w : World) (h1 : n ≤ 49710) (hy : 365 * yoe n + yoe n / 4 - yoe n / 100 ≤ doe n) (hd : doy n ≤ 365) :
    Calls Tryd.prog 8 #[.int .i64 n] w fun e w' => e = .returned (.tuple #[.int .i64 (cY n), .int .i64 (cM n), .int .i64 (cD n)]) ∧ w' = w := by
  have c0 : era n = (n + 719468) / 146097 := by unfold era; rfl
  have c1 : doe n = n + 719468 - era n * 146097 := by unfold doe; rfl
  have c2 : yoe n = (doe n - doe n / 1460 + doe n / 36524 - doe n / 146096) / 365 := by unfold yoe yoeOf; rfl
  have c3 : doy n = doe n - (365 * yoe n + yoe n / 4 - yoe n / 100) := by unfold doy doyOf; rfl
  have c4 : mp n = (5 * doy n + 2) / 153 := by unfold mp; rfl
  have c5 : cD n = doy n + 1 - (153 * mp n + 2) / 5 := by unfold cD; rfl
  have c6 : cY n = cond (Nat.ble (mp n) 9) (yoe n + era n * 400) (yoe n + era n * 400 + 1) := by unfold cY; rfl
  have c7 : cM n = cond (Nat.ble (mp n) 9) (mp n + 3) (mp n - 9) := by unfold cM; rfl
  generalize cY n = rY at *
  generalize cM n = rM at *
  generalize cD n = rD at *
  generalize era n = E at *
  generalize mp n = m at *
  generalize doy n = x at *
  generalize yoe n = y at *
  generalize doe n = D at *
  have b2 : D ≤ 146096 := by omega
  refine (civcore n E D y (y + E * 400) x m rD w h1 (by omega) (by omega) (by omega) (by omega) (by omega) (by omega) (by omega) (by omega) b2 (by omega) (by omega) hd (by omega) (by omega)).mono ?_
  rintro e w' ⟨rfl, h⟩
  refine ⟨?_, rfl⟩
  rcases h with ⟨hm, rfl⟩ | ⟨hm, rfl⟩
  · rw [Nat.ble_eq_true_of_le hm, cond_true] at c6 c7
    rw [c6, c7]; rfl
  · rw [show Nat.ble m 9 = false from by rw [← Bool.not_eq_true, Nat.ble_eq]; exact hm, cond_false] at c6 c7
    have c8 : ((m : Int) - 9) = (rM : Int) := sub9 m rM c7 hm
    clear c0 c1 c2 c3 c4 c5 c7 hy hd
    rw [c6, c8]; rfl

end Go.Proofs.Qxb6614647aDoor.Civ
