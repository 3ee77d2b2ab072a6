import Derived.Test.Qxb6614647aT
namespace Go.Proofs.Qxb6614647a.Week
open Go.RowKit Plain T
set_option linter.unusedVariables false

theorem offs14 (m : Nat) (w : World) (h1 : 1 ≤ m) (h2 : m ≤ 12) :
    Calls Try.prog 13 #[.int .i64 m] w fun e w' => e = .returned (.int .i64 (offs m)) ∧ w' = w := by
  match m, h1, h2 with
  | 1, _, _ => go_enter Try.func13, Try.ntmps13; go_wp2; go_ret; exact ⟨rfl, rfl⟩
  | 2, _, _ => go_enter Try.func13, Try.ntmps13; go_wp2; go_ret; exact ⟨rfl, rfl⟩
  | 3, _, _ => go_enter Try.func13, Try.ntmps13; go_wp2; go_ret; exact ⟨rfl, rfl⟩
  | 4, _, _ => go_enter Try.func13, Try.ntmps13; go_wp2; go_ret; exact ⟨rfl, rfl⟩
  | 5, _, _ => go_enter Try.func13, Try.ntmps13; go_wp2; go_ret; exact ⟨rfl, rfl⟩
  | 6, _, _ => go_enter Try.func13, Try.ntmps13; go_wp2; go_ret; exact ⟨rfl, rfl⟩
  | 7, _, _ => go_enter Try.func13, Try.ntmps13; go_wp2; go_ret; exact ⟨rfl, rfl⟩
  | 8, _, _ => go_enter Try.func13, Try.ntmps13; go_wp2; go_ret; exact ⟨rfl, rfl⟩
  | 9, _, _ => go_enter Try.func13, Try.ntmps13; go_wp2; go_ret; exact ⟨rfl, rfl⟩
  | 10, _, _ => go_enter Try.func13, Try.ntmps13; go_wp2; go_ret; exact ⟨rfl, rfl⟩
  | 11, _, _ => go_enter Try.func13, Try.ntmps13; go_wp2; go_ret; exact ⟨rfl, rfl⟩
  | 12, _, _ => go_enter Try.func13, Try.ntmps13; go_wp2; go_ret; exact ⟨rfl, rfl⟩

theorem offs_le (m : Nat) (h2 : m ≤ 12) : offs m ≤ 6 := by
  have : ∀ k : Fin 13, offs k ≤ 6 := by decide
  exact this ⟨m, by omega⟩

theorem sum7 (y m d o : Nat) (h : o = offs m) : ((y : Int) + (y : Int) / 4 - (y : Int) / 100 + (y : Int) / 400 + (o : Int) + (d : Int)) % 7 = (sakOf y m d : Int) := by
  unfold sakOf
  rw [← h]
  omega

theorem sak10 (y m d : Nat) (w : World) (hy : 1 ≤ y) (hy' : y ≤ 9999) (h1 : 1 ≤ m) (h2 : m ≤ 12) (hd : d ≤ 31) :
    Calls Try.prog 10 #[.int .i64 y, .int .i64 m, .int .i64 d] w fun e w' => e = .returned (.int .i64 (sak y m d)) ∧ w' = w := by
  have ho := offs_le m h2
  by_cases hm : m < 3
  · obtain ⟨y', hy1⟩ : ∃ y' : Nat, (y : Int) - 1 = (y' : Int) := ⟨y - 1, by omega⟩
    have hb : y' ≤ 9998 := by omega
    have S : Hid (sak y m d = sakOf y' m d) := by
      show sakOf (sakY y m) m d = _
      unfold sakY
      rw [show Nat.ble 3 m = false from by rw [← Bool.not_eq_true, Nat.ble_eq]; omega, cond_false, show y - 1 = y' from by omega]
    go_enter Try.func10, Try.ntmps10
    go_wp2_with (go_at_call 13; refine (offs14 m _ h1 h2).mono ?_; rintro e w' ⟨rfl, rfl⟩)
    go_ret
    exact ⟨ret_int (by rw [S.out]; exact sum7 y' m d _ rfl), rfl⟩
  · have S : Hid (sak y m d = sakOf y m d) := by
      show sakOf (sakY y m) m d = _
      unfold sakY
      rw [Nat.ble_eq_true_of_le (by omega), cond_true]
    go_enter Try.func10, Try.ntmps10
    go_wp2_with (go_at_call 13; refine (offs14 m _ h1 h2).mono ?_; rintro e w' ⟨rfl, rfl⟩)
    go_ret
    exact ⟨ret_int (by rw [S.out]; exact sum7 y m d _ rfl), rfl⟩

theorem floorMod16 (a : Int) (w : World) (h0 : 0 ≤ a) (h1 : a ≤ 100000) :
    Calls Try.prog 14 #[.int .i64 a, .int .i64 7] w fun e w' => e = .returned (.int .i64 (a % 7)) ∧ w' = w := by
  go_enter Try.func14, Try.ntmps14
  go_wp2
  go_ret
  exact ⟨rfl, rfl⟩

theorem dweek13 (n : Nat) (w : World) (h1 : n ≤ 49710) :
    Calls Try.prog 12 #[.agg #[.int .i32 n]] w fun e w' => e = .returned (.int .i64 (((n : Int) + 4) % 7)) ∧ Below w.heap.size w w' := by
  go_enter Try.func12, Try.ntmps12
  go_wp2_with (go_at_call 14; refine (floorMod16 _ _ (by omega) (by omega)).mono ?_; rintro e w' ⟨rfl, rfl⟩)
  go_ret
  exact ⟨rfl, (Below.refl _ _).alloc (Nat.le_refl _) _⟩

theorem iweek9 (s : Int) (n : Nat) (w : World) (h0 : 0 ≤ s) (h1 : s ≤ 4294967295) (hn : s / 86400 = (n : Int)) (hb : n ≤ 49710) :
    Calls Try.prog 8 #[.agg #[.int .u32 s]] w fun e w' => e = .returned (.int .i64 (((n : Int) + 4) % 7)) ∧ Below w.heap.size w w' := by
  go_enter Try.func8, Try.ntmps8
  go_wp2_with fail
  refine (day s _ h0 h1).mono ?_
  rintro e w1 ⟨rfl, hb1⟩
  have HB1 : Hid _ := hb1
  clear hb1
  go_wp2_with fail
  refine (dweek13 n _ hb).mono ?_
  rintro e w2 ⟨rfl, hb2⟩
  have HB2 : Hid _ := hb2
  clear hb2
  go_wp2_with fail
  go_ret
  refine ⟨rfl, ?_⟩
  have e1 := ((Below.refl w.heap.size w).alloc (Nat.le_refl _) (.cells #[.int .u32 s] 28))
  exact (e1.trans (HB1.out.mono e1.size)).trans (HB2.out.mono (Nat.le_trans e1.size HB1.out.size))

end Go.Proofs.Qxb6614647a.Week
