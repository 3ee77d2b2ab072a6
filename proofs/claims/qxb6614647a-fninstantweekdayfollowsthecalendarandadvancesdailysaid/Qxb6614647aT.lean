import Derived.Test.Qxb6614647aProg
import Derived.Test.Qxb6614647aPlain
import Derived.WalkKit
import Derived.WalkLawsBesides
namespace Go.Proofs.Qxb6614647a.T
open Go.RowKit Plain
set_option linter.unusedVariables false

theorem bcell {W w1 : World} (hb : Below W.heap.size W w1) : (∀ b o, b < W.heap.size → w1.cell? ⟨b, o, none⟩ = W.cell? ⟨b, o, none⟩) ∧ (∀ b o, b < W.heap.size → w1.frozen? ⟨b, o, none⟩ = W.frozen? ⟨b, o, none⟩) :=
  ⟨fun b o h => hb.cell (p := ⟨b, o, none⟩) h, fun b o h => hb.frozen (p := ⟨b, o, none⟩) h⟩

theorem ret_int {k : IntKind} {a b : Int} (h : a = b) : Ending.returned (.int k a) = .returned (.int k b) := by rw [h]

theorem inst (s : Int) (w : World) :
    Calls Try.prog 7 #[.int .u32 s] w fun e w' => e = .returned (.agg #[.int .u32 s]) ∧ Below w.heap.size w w' := by
  go_enter Try.func7, Try.ntmps7
  go_wp2
  exact bodyPost_ret (v := .agg #[.int .u32 s]) (by simp [results, Try.results7, go_sem]) rfl ⟨rfl, (Below.refl _ _).alloc (Nat.le_refl _) _⟩

theorem day (s : Int) (w : World) (h0 : 0 ≤ s) (h1 : s ≤ 4294967295) :
    Calls Try.prog 11 #[.agg #[.int .u32 s]] w fun e w' => e = .returned (.agg #[.int .i32 (s / 86400)]) ∧ Below w.heap.size w w' := by
  go_enter Try.func11, Try.ntmps11
  go_wp2
  exact bodyPost_ret (v := .agg #[.int .i32 (s / 86400)]) (by simp [results, Try.results11, go_sem]) rfl ⟨rfl, ((Below.refl _ _).alloc (Nat.le_refl _) _).alloc (by simp) _⟩

end Go.Proofs.Qxb6614647a.T
