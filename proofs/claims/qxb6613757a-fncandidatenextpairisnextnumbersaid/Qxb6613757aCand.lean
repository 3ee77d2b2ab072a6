import Derived.Test.Qxb6613757aProg
import Derived.WalkKit
import Derived.WalkLawsBesides
import Derived.Laws.BitsAllLaws
namespace Go.Proofs.Qxb6613757a.Cand
open Go.RowKit

theorem ret_int {k : IntKind} {a b : Int} (h : a = b) : Ending.returned (.int k a) = .returned (.int k b) := by rw [h]

theorem or_join (a b : Int) (ha : 0 ≤ a) (ha' : a ≤ 4294967295) (hb : 0 ≤ b) (hb' : b ≤ 4294967295) :
    bits BinOp.or IntKind.u64 (a * 4294967296) b = a * 4294967296 + b := by
  rw [u64_or _ _ (by omega) (by omega) (by omega) (by omega), nat_join 32 _ _ (by simp only [Nat.reducePow]; omega) (by simp only [Nat.reducePow]; omega)]
  omega

theorem cand26 (a b : Int) (w : World) (ha : 0 ≤ a) (ha' : a ≤ 4294967295) (hb : 0 ≤ b) (hb' : b ≤ 4294967295) :
    Calls Try.prog 26 #[.int .u32 a, .int .u32 b] w fun e w' => e = .returned (.int .u64 (a * 4294967296 + b)) ∧ w' = w := by
  have H : Hid (bits BinOp.or IntKind.u64 (a * 4294967296) b = a * 4294967296 + b) := or_join a b ha ha' hb hb'
  go_enter Try.func26, Try.ntmps26
  go_wp2
  go_ret
  exact ⟨ret_int H.out, rfl⟩

theorem cand (a b : Int) (w : World) (ha : 0 ≤ a) (ha' : a ≤ 4294967295) (hb : 0 ≤ b) (hb' : b ≤ 4294967295) :
    Calls Try.prog 8 #[.int .u32 a, .int .u32 b] w fun e w' => e = .returned (.int .u64 (a * 4294967296 + b)) ∧ w' = w := by
  go_enter Try.func8, Try.ntmps8
  go_wp2_with (go_at_call 26; refine (cand26 _ _ _ ha ha' hb hb').mono ?_; rintro e w' ⟨rfl, rfl⟩)
  go_ret
  exact ⟨rfl, rfl⟩
end Go.Proofs.Qxb6613757a.Cand
