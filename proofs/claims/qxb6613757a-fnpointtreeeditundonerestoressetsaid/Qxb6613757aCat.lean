import Derived.Test.Qxb6613757aApp
import Derived.Lib.AppendZeros
/-
  slices.Clone, slices.Grow, slices.Concat at []uint64.
-/
namespace Go.Proofs.Qxb6613757a.T
open Go.RowKit
set_option linter.unusedVariables false
set_option linter.unusedSimpArgs false

theorem ownU_empty (w : World) (base : Nat) (hb : base ≤ w.heap.size) : OwnU (w.alloc (.cells #[] 23)) base (.slice (some ⟨w.heap.size, 0, none⟩) 0 0) [] :=
  World.ownsRow_made w #[] 0 hb (Nat.zero_le _) rfl

set_option maxRecDepth 100000 in
set_option maxHeartbeats 400000 in
theorem clone42 (b o n cap : Nat) (zs : List Int) (w : World) (hz : zs.length = n) (hn : n ≤ 1048576) (hr : Row w (some ⟨b, o, none⟩) zs) :
    Calls Try.prog 42 #[.slice (some ⟨b, o, none⟩) n cap] w fun e w' => Below w.heap.size w w' ∧ ∃ v, e = .returned v ∧ OwnU w' w.heap.size v zs := by
  have heq := fun W => Lib.run_eql_slice_nil (P := Try.prog) W 37 23 (some ⟨b, o, none⟩) n cap 0 0 Try.underlying37
  have hb0 := (Below.refl w.heap.size w).alloc (Nat.le_refl _) (.cells #[] 23)
  go_enter Try.func42, Try.ntmps42
  go_wp2_with (at_builtin; refine wpList_appU rfl _ rfl _ _ rfl w.heap.size w hb0 hb0.size _ 0 0 [] rfl (ownU_empty w _ (Nat.le_refl _)) _ n cap zs rfl hz (hr.kept (Kt.below hb0)) (by omega) ?_; intro a' cap' w2 hown2 hbel2)
  go_ret
  rw [Nat.zero_add] at hown2
  exact ⟨hbel2, _, rfl, hown2⟩

set_option maxRecDepth 100000 in
set_option maxHeartbeats 400000 in
theorem grow63 (n : Nat) (w : World) (h1 : 1 ≤ n) (hn : n ≤ 1048576) :
    Calls Try.prog 63 #[.slice none 0 0, .int .i64 n] w fun e w' => Below w.heap.size w w' ∧ ∃ a cap, e = .returned (.slice a 0 cap) ∧ OwnU w' w.heap.size (.slice a 0 cap) [] := by
  obtain ⟨i0, hi, hz0, hz1, hz2⟩ := info_parts size23
  have hrun := Lib.run_append_nil_zeros (P := Try.prog) w 37 3 37 23 i0 (.int .u64 0) .i64 .i64 Try.underlying37 Try.underlying3 hi hz0 n (by omega) (by omega) (by omega) (by rw [hz2]; omega)
  have hge := grownCap_ge w n 0 23
  have hcm := grownCap_le_maxLen w n 0 23 (by unfold maxLen; omega)
  have hown : OwnU (w.drew.alloc (.cells (Builtin.zeroCells #[.int .u64 0] n ++ Builtin.zeroCells #[.int .u64 0] (grownCap w n 0 23 - n)) 23)) w.heap.size (.slice (some ⟨w.heap.size, 0, none⟩) 0 (grownCap w n 0 23)) [] :=
    World.ownsRow_made w.drew _ _ (Nat.le_refl _) hcm (by simp [size_zeroCells]; omega)
  have hbel : Below w.heap.size w (w.drew.alloc (.cells (Builtin.zeroCells #[.int .u64 0] n ++ Builtin.zeroCells #[.int .u64 0] (grownCap w n 0 23 - n)) 23)) := (Below.refl _ w).drew.alloc (Nat.le_refl _) _
  have hsl := fun W => slice_h (some ⟨w.heap.size, 0, none⟩) n (grownCap w n 0 23) 0 (Nat.zero_le _) W
  have HR : Hid ((Builtin.append_ #[37, 3] 37 #[.slice none 0 0, .int .i64 n]).run Try.prog w = .ok (.slice (some ⟨w.heap.size, 0, none⟩) n (grownCap w n 0 23)) (w.drew.alloc (.cells (Builtin.zeroCells #[.int .u64 0] n ++ Builtin.zeroCells #[.int .u64 0] (grownCap w n 0 23 - n)) 23))) := hrun
  clear hrun
  generalize w.drew.alloc (.cells (Builtin.zeroCells #[.int .u64 0] n ++ Builtin.zeroCells #[.int .u64 0] (grownCap w n 0 23 - n)) 23) = W at *
  generalize grownCap w n 0 23 = gc at *
  go_enter Try.func63, Try.ntmps63
  go_wp2_with (at_builtin; refine Lib.wpList_append_run _ rfl _ _ _ _ rfl _ _ rfl rfl _ _ HR.out ?_)
  go_ret
  exact ⟨hbel, _, _, rfl, hown⟩

set_option maxRecDepth 100000 in
set_option maxHeartbeats 1000000 in
theorem concat61 (bs os cs : Nat) (a1 a2 : Option Addr) (n1 c1 n2 c2 : Nat) (xs ys : List Int) (w : World) (h1 : xs.length = n1) (h2 : ys.length = n2) (hp : 1 ≤ n1) (hn : n1 + n2 ≤ 1048576) (hr1 : Row w a1 xs) (hr2 : Row w a2 ys)
    (hbs : bs < w.heap.size) (k1 : w.cell? ⟨bs, os, none⟩ = some (.slice a1 n1 c1)) (k2 : w.cell? ⟨bs, os + 1, none⟩ = some (.slice a2 n2 c2)) :
    Calls Try.prog 61 #[.slice (some ⟨bs, os, none⟩) 2 cs] w fun e w' => Below w.heap.size w w' ∧ ∃ v, e = .returned v ∧ OwnU w' w.heap.size v (xs ++ ys) := by
  go_enter Try.func61, Try.ntmps61
  go_wp2
  refine wp_loop_rounds 3 ?_
  rw [rounds_succ]
  go_wp2
  rw [rounds_succ]
  go_wp2
  rw [rounds_succ]
  go_wp2_with fail
  have e12 : (n1 : Int) + (n2 : Int) = ((n1 + n2 : Nat) : Int) := by omega
  rw [e12]
  refine (grow63 (n1 + n2) w (by omega) (by omega)).mono ?_
  rintro e w1 ⟨hb1, a, cap, rfl, hown1⟩
  have q1 := hr1.kept (Kt.below hb1)
  have q2 := hr2.kept (Kt.below hb1)
  have hc1 : w1.cell? ⟨bs, os, none⟩ = some (.slice a1 n1 c1) := by rw [hb1.cell (p := ⟨bs, os, none⟩) hbs]; exact k1
  clear e12
  go_wp2_with fail
  refine wp_loop_rounds 3 ?_
  rw [rounds_succ]
  go_wp2_with (at_builtin; refine wpList_appU rfl _ rfl _ _ rfl w.heap.size w hb1 hb1.size a 0 cap [] rfl hown1 a1 n1 c1 xs rfl h1 q1 (by omega) ?_; intro a' cap' w2 hown2 hbel2)
  have q3 := hr2.kept (Kt.below hbel2)
  have hc2 : w2.cell? ⟨bs, os + 1, none⟩ = some (.slice a2 n2 c2) := by rw [hbel2.cell (p := ⟨bs, os + 1, none⟩) hbs]; exact k2
  rw [Nat.zero_add, List.nil_append] at hown2
  rw [rounds_succ]
  go_wp2_with (at_builtin; refine wpList_appU rfl _ rfl _ _ rfl w.heap.size w hbel2 hbel2.size a' n1 cap' xs rfl hown2 a2 n2 c2 ys rfl h2 q3 (by omega) ?_; intro a'' cap'' w3 hown3 hbel3)
  rw [rounds_succ]
  go_wp2
  go_ret
  exact ⟨hbel3, _, rfl, hown3⟩

end Go.Proofs.Qxb6613757a.T
