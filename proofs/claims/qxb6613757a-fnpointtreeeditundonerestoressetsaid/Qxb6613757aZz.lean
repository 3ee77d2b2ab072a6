import Derived.Test.Qxb6613757aRd
/-
  The wrappers.
-/
namespace Go.Proofs.Qxb6613757a.T
open Go.RowKit Go.Shelf
set_option linter.unusedVariables false
set_option linter.unusedSimpArgs false

set_option maxHeartbeats 1000000 in
theorem len31 (root : Option Addr) (n : Nat) (w : World) : Calls Try.prog 31 #[.agg #[.pointer root, .int .i64 n]] w fun e w' => Below w.heap.size w w' ∧ e = .returned (.int .i64 n) := by
  go_enter Try.func31, Try.ntmps31
  go_wp2
  go_ret
  exact ⟨(Below.refl _ w).alloc (Nat.le_refl _) _, rfl⟩

set_option maxHeartbeats 1000000 in
theorem zlen20 (root : Option Addr) (n : Nat) (w : World) : Calls Try.prog 20 #[.agg #[.pointer root, .int .i64 n]] w fun e w' => Below w.heap.size w w' ∧ e = .returned (.int .i64 n) := by
  have hB := (Below.refl w.heap.size w).alloc (Nat.le_refl _) (.cells #[.pointer root, .int .i64 (n : Int)] 44)
  go_enter Try.func20, Try.ntmps20
  go_wp2_with (go_at_call 31; refine (len31 root n _).mono ?_; rintro e w2 ⟨hb2, rfl⟩)
  go_ret
  exact ⟨hB.trans (hb2.mono (by simp)), rfl⟩

set_option maxHeartbeats 1000000 in
theorem zat22 (root : Option Addr) (n i : Nat) (L : List (List Int)) (w : World) (ht : TreeIs w root L) (hi : i < L.flatten.length) (hM : L.flatten.length ≤ 1048576) :
    Calls Try.prog 22 #[.agg #[.pointer root, .int .i64 n], .int .i64 i] w fun e w' => Below w.heap.size w w' ∧ e = .returned (.int .u64 (el L.flatten i)) := by
  have hB := (Below.refl w.heap.size w).alloc (Nat.le_refl _) (.cells #[.pointer root, .int .i64 (n : Int)] 44)
  go_enter Try.func22, Try.ntmps22
  go_wp2_with (go_at_call 33; refine (at33 root n i L _ (ht.k2 (K2.alloc w _)) hi hM).mono ?_; rintro e w2 ⟨hb2, rfl⟩)
  go_ret
  exact ⟨hB.trans (hb2.mono (by simp)), rfl⟩

theorem res44 {w W : World} {b : Nat} {a c : Value} (h : W.rowIs b 44 2 (fun j => if j = 0 then .pointer none else .int .i64 0)) (hb : Below w.heap.size w W) (hle : w.heap.size ≤ b) :
    Below w.heap.size w ((W.setCell ⟨b, 0, none⟩ a).setCell ⟨b, 1, none⟩ c) ∧ K2 W ((W.setCell ⟨b, 0, none⟩ a).setCell ⟨b, 1, none⟩ c) ∧
    ((W.setCell ⟨b, 0, none⟩ a).setCell ⟨b, 1, none⟩ c).cell? ⟨b, 0, none⟩ = some a ∧ ((W.setCell ⟨b, 0, none⟩ a).setCell ⟨b, 1, none⟩ c).cell? ⟨b, 1, none⟩ = some c := by
  have hrow := (h.set 0 a).set 1 c
  refine ⟨(hb.setCell (p := ⟨b, 0, none⟩) hle a).setCell (p := ⟨b, 1, none⟩) hle c, ?_, hrow.cell (i := 0) (by omega), hrow.cell (i := 1) (by omega)⟩
  obtain ⟨cu, hcu, _⟩ := h
  obtain ⟨cu2, hcu2, _⟩ := World.rowIs.set ⟨cu, hcu, by assumption⟩ 0 a
  exact (K2.setCell (p := ⟨b, 0, none⟩) hcu ⟨by decide, by decide⟩ a).trans (K2.setCell (p := ⟨b, 1, none⟩) hcu2 ⟨by decide, by decide⟩ c)

end Go.Proofs.Qxb6613757a.T
