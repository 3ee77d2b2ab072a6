import Derived.RangeFuncNested
import Derived.RangeFuncBound
import Derived.RangeFuncCalls
import Derived.RangeFuncLeaves
import Derived.RangeFuncBox
import Derived.RangeFuncWrites
import Derived.Shelf.Abstract
import Derived.Shelf.RegionOpen
import Derived.WalkKit
import Derived.OwnWalkIn
import Derived.TacticsInMore
import Derived.LoopNIn
import Derived.LoopIn
import Derived.Stop.RegionWithIn
import Derived.Test.Qxb6613757aNode
/-
  pieces: the ranges that cut n things.
-/
namespace Go.Proofs.Qxb6613757a.T
open Go.RowKit Go.Shelf
attribute [local go_sem] Oper.semAt_some
set_option linter.unusedVariables false
set_option linter.unusedSimpArgs false

/-- how many pieces -/
def npc (n most : Nat) : Nat := (n + most - 1) / most
/-- where piece j begins -/
def cutAt (n k j : Nat) : Nat := j * n / k
abbrev Ix (k : Nat) := { j : Nat // j < k }
def encP (n k : Nat) (x : Ix k) : Array Value := #[.int .i64 (cutAt n k x.1 : Nat), .int .i64 (cutAt n k (x.1 + 1) : Nat)]
/-- the first i indexes -/
def firsts (k : Nat) : (i : Nat) → i ≤ k → List (Ix k)
  | 0, _ => []
  | i + 1, h => firsts k i (by omega) ++ [⟨i, by omega⟩]
theorem firsts_length (k : Nat) : ∀ i h, (firsts k i h).length = i
  | 0, _ => rfl
  | i + 1, h => by simp [firsts, firsts_length k i]
def Kp2 (Bn Bm : Nat) (W W' : World) : Prop := W'.heap[Bn]? = W.heap[Bn]? ∧ W'.heap[Bm]? = W.heap[Bm]?

def PcRel (c k Bn Bm : Nat) (J : List (Ix k) → World → Prop) (W : World) (s13 : Value) (wr : World) : Prop :=
  ∃ (i : Nat) (hi : i ≤ k), s13 = .int .i64 i ∧ J (firsts k i hi) wr ∧ Kp2 Bn Bm W wr

set_option maxHeartbeats 1000000 in
theorem pieces41 (n : Nat) (c most : Nat) (w : World) :
    CallsIn Fence.wide n Try.prog 41 #[.int .i64 c, .int .i64 most] w fun e w' => e = .returned (.func (.func 49) #[] #[.pointer (some ⟨w.heap.size, 0, none⟩), .pointer (some ⟨w.heap.size + 1, 0, none⟩)]) ∧
      w' = (w.alloc (.cells #[.int .i64 c] 3)).alloc (.cells #[.int .i64 most] 3) := by
  refine callsIn_of_wp Try.func41 rfl trivial ?_ rfl
  simp only [Try.ntmps41, List.size_toArray, List.length_cons, List.length_nil, Nat.reduceAdd, Nat.reduceSub, Array.replicate_succ, Array.replicate_zero, List.push_toArray, List.append_toArray, List.nil_append, List.cons_append]
  gi_wp2
  go_ret
  exact ⟨rfl, rfl⟩

set_option maxRecDepth 100000 in
set_option maxHeartbeats 400000 in
theorem pieces49 (n : Nat) (l Bn Bm c most k : Nat) (hk0 : k = npc c most) (hm : 1 ≤ most) (hm2 : most ≤ 64) (hc : c ≤ 1048576) (J Jx : List (Ix k) → World → Prop) (W : World) (hJa : AbidesFrom W.heap.size J)
    (hY : ∀ pre x W, J pre W → pre.length < k → YieldAt Fence.wide (n - 1) Try.prog l (encP c k x) W fun e W' =>
      (e = .returned (.bool true) ∧ J (pre ++ [x]) W' ∧ Kp2 Bn Bm W W') ∨ (e = .returned (.bool false) ∧ Jx (pre ++ [x]) W'))
    (hBn : W.cell? ⟨Bn, 0, none⟩ = some (.int .i64 c)) (hBm : W.cell? ⟨Bm, 0, none⟩ = some (.int .i64 most)) (h0 : J [] W) :
    CallsIn Fence.wide n Try.prog 49 #[.func (.yield l) #[] #[], .pointer (some ⟨Bn, 0, none⟩), .pointer (some ⟨Bm, 0, none⟩)] W fun e W' => (∃ v, e = .returned v) ∧
      ((∃ ys, ys = firsts k k (Nat.le_refl _) ∧ J ys W') ∨ (∃ pre, True ∧ Jx pre W')) := by
  have hkc : k ≤ c := by
    rw [hk0]; unfold npc
    rcases Nat.eq_zero_or_pos c with h | h
    · subst h; rw [Nat.div_eq_of_lt (by omega)]; exact Nat.le_refl _
    · apply Nat.div_le_of_le_mul
      obtain ⟨d, rfl⟩ : ∃ d, c = d + 1 := ⟨c - 1, by omega⟩
      rw [Nat.mul_add]; have := Nat.le_mul_of_pos_left d hm; omega
  have hdiv : Int.tdiv ((c : Int) + most - 1) most = k := by
    rw [hk0]; unfold npc
    have : ((c : Int) + most - 1) = ((c + most - 1 : Nat) : Int) := by omega
    rw [this, Int.ofNat_tdiv]
  refine callsIn_of_wp Try.func49 rfl trivial ?_ rfl
  simp only [Try.ntmps49, List.size_toArray, List.length_cons, List.length_nil, Nat.reduceAdd, Nat.reduceSub, Array.replicate_succ, Array.replicate_zero, List.push_toArray, List.append_toArray, List.nil_append, List.cons_append]
  have HK := hide hk0
  clear hk0
  gi_wp2
  gi_loopw [13] (fun s13 wr => PcRel c k Bn Bm J W s13 wr) (fun s13 _ => k - (intOf s13).toNat)
  case atStart => exact ⟨0, Nat.zero_le _, rfl, h0, rfl, rfl⟩
  case round =>
    obtain ⟨i, hi, rfl, hJ, hkn, hkm⟩ := hrel
    by_cases hlt : i < k
    · have hBn' : wr.cell? ⟨Bn, 0, none⟩ = some (.int .i64 c) := (World.cell?_of_block (w := W) hkn).trans hBn
      have hJd : J (firsts k i hi) wr.drew := hJa _ _ _ none hJ ⟨rfl, rfl, rfl, Nat.le_refl _, fun _ _ _ => rfl⟩ (fun r e => by cases e)
      obtain ⟨fn, tmps, assign, body, hy, hR0⟩ := hY _ ⟨i, hlt⟩ wr.drew hJd (by rw [firsts_length]; exact hlt)
      have hR := hR0.mono (R' := fun e W' => ∃ b, e = .returned (.bool b) ∧ (b = true ∧ J (firsts k (i + 1) hlt) W' ∧ Kp2 Bn Bm wr W' ∨ b = false ∧ Jx (firsts k (i + 1) hlt) W')) (by
        rintro e W3 (⟨rfl, hJ3, hk3⟩ | ⟨rfl, hJx3⟩)
        · exact ⟨true, rfl, .inl ⟨rfl, hJ3, hk3⟩⟩
        · exact ⟨false, rfl, .inr ⟨rfl, hJx3⟩⟩)
      clear hR0 hJd
      have hk1 : ¬ k = 0 := by omega
      have m1 : i * c ≤ 1048576 * 1048576 := Nat.mul_le_mul (by omega) hc
      have m2 : (i + 1) * c ≤ 1048576 * 1048576 := Nat.mul_le_mul (by omega) hc
      have c1 : cutAt c k i ≤ i * c := Nat.div_le_self _ _
      have c2 : cutAt c k (i + 1) ≤ (i + 1) * c := Nat.div_le_self _ _
      have F3 : Hid (IntKind.i64.wrap ((i : Int) * c) = ((i * c : Nat) : Int)) := by
        show _ = _
        rw [← Int.natCast_mul]; exact IntWalk.i64_in _ (by omega)
      have F5 : Hid (IntKind.i64.wrap (((i * c : Nat) : Int) / k) = ((cutAt c k i : Nat) : Int)) := by
        show _ = _
        rw [← Int.natCast_ediv]
        change IntKind.i64.wrap ((cutAt c k i : Nat) : Int) = _
        exact IntWalk.i64_in _ (by omega)
      have F7 : Hid (IntKind.i64.wrap ((i : Int) + 1) = ((i + 1 : Nat) : Int)) := by
        show _ = _
        rw [show ((i : Int) + 1) = ((i + 1 : Nat) : Int) by omega]; exact IntWalk.i64_in _ (by omega)
      have F9 : Hid (IntKind.i64.wrap (((i + 1 : Nat) : Int) * c) = (((i + 1) * c : Nat) : Int)) := by
        show _ = _
        rw [← Int.natCast_mul]; exact IntWalk.i64_in _ (by omega)
      have F11 : Hid (IntKind.i64.wrap ((((i + 1) * c : Nat) : Int) / k) = ((cutAt c k (i + 1) : Nat) : Int)) := by
        show _ = _
        rw [← Int.natCast_ediv]
        change IntKind.i64.wrap ((cutAt c k (i + 1) : Nat) : Int) = _
        exact IntWalk.i64_in _ (by omega)
      simp only [encP] at hy
      have HRR := hide hR
      clear hR
      generalize cutAt c k i = s1 at *
      generalize cutAt c k (i + 1) = s2 at *
      generalize (i + 1) * c = M at *
      generalize i * c = N at *
      generalize hi1 : (i + 1 : Nat) = i1 at F7 F9
      have HI1 := hide hi1
      clear hi1
      gi_wp2
      have hdep : (Fence.wide.depth.isSome = true → 1 ≤ n) := fun h => by cases h
      refine wpIn_region_any (by kernel_rfl) ?_
      change wpAnyIn _ _ _ _ _ _ _ _ _ (World.drew _)
      refine wpAnyIn_take (i := 0) (v := ?_) rfl rfl (by kernel_rfl) (by kernel_rfl) (by kernel_rfl) (fun _ _ _ h => h) ⟨Or.inl ⟨by rfl, ?_⟩, fun _ => rfl⟩ ?_
      rotate_left
      · intro w; go_simp; with_reducible rfl
      refine wpAnyIn_take (i := 1) (v := ?_) rfl rfl (by kernel_rfl) (by kernel_rfl) (by kernel_rfl) (fun _ _ _ h => h) ⟨Or.inl ⟨by rfl, ?_⟩, fun _ => rfl⟩ ?_
      rotate_left
      · intro w; go_simp; with_reducible rfl
      refine wpAnyIn_take (i := 4) (v := ?_) rfl rfl (by kernel_rfl) (by kernel_rfl) (by kernel_rfl) (fun _ _ _ h => h) ⟨Or.inl ⟨by rfl, ?_⟩, fun _ => rfl⟩ ?_
      rotate_left
      · intro w; go_simp; with_reducible rfl
      refine wpAnyIn_take (i := 6) (v := ?_) rfl rfl (by kernel_rfl) (by kernel_rfl) (by kernel_rfl) (fun _ _ _ h => h) ⟨Or.inl ⟨by rfl, ?_⟩, fun _ => rfl⟩ ?_
      rotate_left
      · intro w; go_simp; with_reducible rfl
      refine wpAnyIn_take (i := 7) (v := .int .i64 (i1 : Nat)) rfl rfl (by kernel_rfl) (by kernel_rfl) (by kernel_rfl) (fun _ _ _ h => h) ⟨Or.inl ⟨by rfl, ?_⟩, fun _ => rfl⟩ ?_
      · intro w; go_simp; rw [F7.out]
      refine wpAnyIn_take (i := 10) (v := ?_) rfl rfl (by kernel_rfl) (by kernel_rfl) (by kernel_rfl) (fun _ _ _ h => h) ⟨Or.inl ⟨by rfl, ?_⟩, fun _ => rfl⟩ ?_
      rotate_left
      · intro w; go_simp; with_reducible rfl
      refine wpAnyIn_ready (rs := [2, 8]) (by kernel_rfl) (by simp) ?_
      refine AllReadyIn.cons rfl (fun K hK => ?_) (AllReadyIn.cons rfl (fun K hK => ?_) AllReadyIn.nil)
      · go_simp
        refine hK _ _ ?_
        clear hK K
        refine wpAnyIn_take (i := 3) (v := .int .i64 (N : Nat)) rfl rfl (by kernel_rfl) (by kernel_rfl) (by kernel_rfl) (fun _ _ _ h => h) ⟨Or.inl ⟨by rfl, ?_⟩, fun _ => rfl⟩ ?_
        · intro w; go_simp; rw [F3.out]
        refine wpAnyIn_take (i := 5) (v := .int .i64 (s1 : Nat)) rfl rfl (by kernel_rfl) (by kernel_rfl) (by kernel_rfl) (fun _ _ _ h => h) ⟨Or.inl ⟨by rfl, ?_⟩, fun _ => rfl⟩ ?_
        · intro w; go_simp; rw [F5.out]
        refine wpAnyIn_ready (rs := [8]) (by kernel_rfl) (by simp) ?_
        refine AllReadyIn.cons rfl (fun K hK => ?_) AllReadyIn.nil
        go_simp
        refine hK _ _ ?_
        clear hK K
        refine wpAnyIn_take (i := 9) (v := .int .i64 (M : Nat)) rfl rfl (by kernel_rfl) (by kernel_rfl) (by kernel_rfl) (fun _ _ _ h => h) ⟨Or.inl ⟨by rfl, ?_⟩, fun _ => rfl⟩ ?_
        · intro w; go_simp; rw [F9.out]
        refine wpAnyIn_take (i := 11) (v := .int .i64 (s2 : Nat)) rfl rfl (by kernel_rfl) (by kernel_rfl) (by kernel_rfl) (fun _ _ _ h => h) ⟨Or.inl ⟨by rfl, ?_⟩, fun _ => rfl⟩ ?_
        · intro w; go_simp; rw [F11.out]
        refine wpAnyIn_ready (rs := [12]) (by kernel_rfl) (by simp) ?_
        refine AllReadyIn.cons rfl (fun K hK => ?_) AllReadyIn.nil
        go_simp
        refine ⟨hdep, ?_⟩
        refine HRR.out.mono ?_
        rintro e W3 ⟨b, rfl, hres⟩
        refine hK _ _ ?_
        clear hK K HRR hy
        refine wpAnyIn_take (i := 13) (v := .bool (!b)) rfl rfl (by kernel_rfl) (by kernel_rfl) (by kernel_rfl) (fun _ _ _ h => h) ⟨Or.inl ⟨by rfl, ?_⟩, fun _ => rfl⟩ ?_
        · intro w; go_simp
        refine wpAnyIn_done (by kernel_rfl) ?_ _
        rcases hres with ⟨rfl, hJ3, hk3, hk4⟩ | ⟨rfl, hJx3⟩
        · gi_wp2
          go_roundw
          case rel => exact ⟨i + 1, hlt, by simp, hJ3, hk3.trans hkn, hk4.trans hkm⟩
          case measure => simp [intOf]; omega
        · gi_wp2
          refine bodyPost_ret (results_none rfl _ _ _) rfl ?_
          exact ⟨⟨_, rfl⟩, .inr ⟨_, trivial, hJx3⟩⟩
      · go_simp
        refine hK _ _ ?_
        clear hK K
        refine wpAnyIn_take (i := 9) (v := .int .i64 (M : Nat)) rfl rfl (by kernel_rfl) (by kernel_rfl) (by kernel_rfl) (fun _ _ _ h => h) ⟨Or.inl ⟨by rfl, ?_⟩, fun _ => rfl⟩ ?_
        · intro w; go_simp; rw [F9.out]
        refine wpAnyIn_take (i := 11) (v := .int .i64 (s2 : Nat)) rfl rfl (by kernel_rfl) (by kernel_rfl) (by kernel_rfl) (fun _ _ _ h => h) ⟨Or.inl ⟨by rfl, ?_⟩, fun _ => rfl⟩ ?_
        · intro w; go_simp; rw [F11.out]
        refine wpAnyIn_ready (rs := [2]) (by kernel_rfl) (by simp) ?_
        refine AllReadyIn.cons rfl (fun K hK => ?_) AllReadyIn.nil
        go_simp
        refine hK _ _ ?_
        clear hK K
        refine wpAnyIn_take (i := 3) (v := .int .i64 (N : Nat)) rfl rfl (by kernel_rfl) (by kernel_rfl) (by kernel_rfl) (fun _ _ _ h => h) ⟨Or.inl ⟨by rfl, ?_⟩, fun _ => rfl⟩ ?_
        · intro w; go_simp; rw [F3.out]
        refine wpAnyIn_take (i := 5) (v := .int .i64 (s1 : Nat)) rfl rfl (by kernel_rfl) (by kernel_rfl) (by kernel_rfl) (fun _ _ _ h => h) ⟨Or.inl ⟨by rfl, ?_⟩, fun _ => rfl⟩ ?_
        · intro w; go_simp; rw [F5.out]
        refine wpAnyIn_ready (rs := [12]) (by kernel_rfl) (by simp) ?_
        refine AllReadyIn.cons rfl (fun K hK => ?_) AllReadyIn.nil
        go_simp
        refine ⟨hdep, ?_⟩
        refine HRR.out.mono ?_
        rintro e W3 ⟨b, rfl, hres⟩
        refine hK _ _ ?_
        clear hK K HRR hy
        refine wpAnyIn_take (i := 13) (v := .bool (!b)) rfl rfl (by kernel_rfl) (by kernel_rfl) (by kernel_rfl) (fun _ _ _ h => h) ⟨Or.inl ⟨by rfl, ?_⟩, fun _ => rfl⟩ ?_
        · intro w; go_simp
        refine wpAnyIn_done (by kernel_rfl) ?_ _
        rcases hres with ⟨rfl, hJ3, hk3, hk4⟩ | ⟨rfl, hJx3⟩
        · gi_wp2
          go_roundw
          case rel => exact ⟨i + 1, hlt, by simp, hJ3, hk3.trans hkn, hk4.trans hkm⟩
          case measure => simp [intOf]; omega
        · gi_wp2
          refine bodyPost_ret (results_none rfl _ _ _) rfl ?_
          exact ⟨⟨_, rfl⟩, .inr ⟨_, trivial, hJx3⟩⟩
    · obtain rfl : i = k := by omega
      gi_wp2
      go_end0
      exact ⟨⟨_, rfl⟩, .inl ⟨_, rfl, hJ⟩⟩

end Go.Proofs.Qxb6613757a.T
