import Derived.Test.Qxb6613757aPcs
import Derived.OrdersHeld
/-
  A REGION THAT DRAWS ITS ORDER, IN A ROUND OF A RANGE OVER A FUNCTION: BY THE PLAIN LAWS (loads taken first under a condition on the world).
-/
namespace Go.Proofs.Qxb6613757a.T
open Go.RowKit Go.Shelf
set_option linter.unusedVariables false
set_option linter.unusedSimpArgs false

def noDefer (ops : Array Oper) : Bool := ops.all fun o => match o.op with | .defer _ => false | _ => true

theorem noDefer_spec {ops : Array Oper} (h : noDefer ops = true) {i : Nat} {o : Oper} (ho : ops[i]? = some o) : ∀ c, o.op ≠ .defer c := by
  intro c hc
  obtain ⟨hlt, rfl⟩ := Array.getElem?_eq_some_iff.1 ho
  have := (Array.all_eq_true.1 h) i hlt
  rw [hc] at this
  simp at this

theorem op_round {l n : Nat} {P : Program} {o : Oper} {a : Act} {w : World} {K K' : Act → World → Prop} {Q : Exit → Act → World → Prop} (hno : ¬ LetsOut Q) (hd : ∀ c, o.op ≠ .defer c) (hk : ∀ a w, K a w → K' a w)
    (h : o.wp P a w K Q) : o.wpIn (Fence.wide.inRound l) n P a w K' Q := by
  refine ⟨fun _ _ => trivial, ?_⟩
  unfold Oper.wp at h
  rw [Oper.semAt_eq _ _ _ hd]
  generalize (execOp a.eval o).run P w = r at *
  cases r with
  | ok x w' =>
    cases x <;> simp only [Oper.upon, Oper.uponIn] at h ⊢
    case value u => exact hk _ _ h
    case skip => exact hk _ _ h
    case defer d => exact hk _ _ h
    case enter f args =>
      refine ⟨fun h => (by cases h), CallsIn.inRound l (callsIn_wide.2 (h.mono fun e w'' he => ?_))⟩
      cases e with
      | returned u => exact hk _ _ he
      | panicked c => exact he
      | outgrown => exact he
    case row row args =>
      refine ⟨fun h => (by cases h), fun c cs _ => ?_⟩
      obtain ⟨v, w'', hr, hs⟩ := h c cs
      exact ⟨v, w'', hk _ _ hr, stepsIn_wide.2 hs⟩
  | halt x w' =>
    cases x <;> simp only [Oper.upon, Oper.uponIn] at h ⊢
    case panic u => exact h

theorem any_round {l n : Nat} {P : Program} {md : Region.Mode} {ops : Array Oper} {Q : Exit → Act → World → Prop} (hno : ¬ LetsOut Q) (hd : noDefer ops = true) :
    ∀ (fuel : Nat) (listed : Array Bool) (a : Act) (w : World), wpAny P md ops Q fuel listed a w → wpAnyIn (Fence.wide.inRound l) n P md ops Q fuel listed a w
  | 0, _, _, _, h => h
  | fuel + 1, listed, a, w, h => ⟨h.1, fun i hi => by
    have h1 := h.2 i hi
    unfold wpOp at h1
    unfold wpOpIn
    cases ho : ops[i]? with
    | none =>
      simp only [ho] at h1 ⊢
      exact any_round hno hd fuel _ _ _ h1
    | some o =>
      simp only [ho] at h1 ⊢
      split
      · rename_i hw
        simp only [hw, if_true] at h1
        rcases h1 with h1 | h1
        · exact op_round hno (noDefer_spec hd ho) (fun a' w' h' => any_round hno hd fuel _ a' w' h') h1
        · exact absurd h1.2 hno
      · rename_i hw
        simp only [hw, Bool.false_eq_true, if_false] at h1
        exact ⟨fun _ _ => trivial, any_round hno hd fuel _ _ _ h1⟩⟩

theorem region_round {l n id : Nat} {P : Program} {ops : Array Oper} {Q : Exit → Act → World → Prop} {a : Act} {w : World} (S : World → Prop) (hm : P.follows .mixedOrders = true) (hno : ¬ LetsOut Q) (hd : noDefer ops = true)
    (h : wpAnyH P .any ops Q S ops.size (Array.replicate ops.size false) a w.drew) : (Code.region id ops true).wpIn (Fence.wide.inRound l) n P Q a w :=
  wpIn_region_any hm (any_round hno hd _ _ _ _ (wpAny_of_held _ _ _ _ h))

theorem pieces_stops (n Bn Bm c most k : Nat) (hk0 : k = npc c most) (hm : 1 ≤ most) (hm2 : most ≤ 64) (hc : c ≤ 1048576) (w : World) (hBn : Bn < w.heap.size) (hBm : Bm < w.heap.size)
    (h1 : w.cell? ⟨Bn, 0, none⟩ = some (.int .i64 c)) (h2 : w.cell? ⟨Bm, 0, none⟩ = some (.int .i64 most)) :
    SeqStopsK Fence.wide n Try.prog 49 #[.pointer (some ⟨Bn, 0, none⟩), .pointer (some ⟨Bm, 0, none⟩)] (encP c k) (Kp2 Bn Bm) (fun ys => ys = firsts k k (Nat.le_refl _)) (fun _ => True) k w :=
  fun l J Jx W hW hJa _ hY h0 => pieces49 n l Bn Bm c most k hk0 hm hm2 hc J Jx W hJa hY ((hW.cell (p := ⟨Bn, 0, none⟩) hBn).trans h1) ((hW.cell (p := ⟨Bm, 0, none⟩) hBm).trans h2) h0

theorem kp2_t {Bn Bm : Nat} {A B C : World} (h : Kp2 Bn Bm A B) (k : Kp2 Bn Bm B C) : Kp2 Bn Bm A C := ⟨k.1.trans h.1, k.2.trans h.2⟩
theorem kp2_b {Bn Bm B : Nat} (h1 : Bn < B) (h2 : Bm < B) (W : World) (l : Nat) (o o' : Obj) (hl : B ≤ l) (_ : W.heap[l]? = some o) (_ : o.isCells = false) (_ : o.isWalk = false) : Kp2 Bn Bm W (W.putObj l o') :=
  ⟨World.putObj_heap_other (by omega), World.putObj_heap_other (by omega)⟩

end Go.Proofs.Qxb6613757a.T
