import Derived.Test.Qxb6613757aParB1
/-
  appendParents onto nil: the walk.
-/
namespace Go.Proofs.Qxb6613757a.T
open Go.RowKit Go.Shelf
attribute [local go_sem] Oper.semAt_some
set_option linter.unusedVariables false
set_option linter.unusedSimpArgs false

theorem RecsAt.part {w : World} {g o : Nat} {rs : List Rec} (h : RecsAt w g o rs) (s m : Nat) : RecsAt w g (o + s * 5) ((rs.drop s).take m) := by
  intro i hi
  have hi' : i < m ∧ s + i < rs.length := by simp at hi; omega
  rw [rc_take hi'.1, rc_drop]
  have := h (s + i) hi'.2
  rw [show o + (s + i) * 5 = o + s * 5 + i * 5 by omega] at this
  exact this

set_option maxRecDepth 100000 in
set_option maxHeartbeats 2000000 in
theorem parentsB (g o c lcap h : Nat) (la : Option Addr) (kids : List Rec) (Ls : List (List (List Int))) (w : World) (hkl : kids.length = c) (hla : 1 ≤ c → la = some ⟨g, o, none⟩) (hgl : 1 ≤ c → g < w.heap.size) (hlc : c ≤ lcap) (hc : c ≤ 1048576)
    (hrecs0 : RecsAt w g o kids) (hkids : Kids w h kids Ls) (hM : (ents Ls).length ≤ 1048576) :
    CallsIn Fence.wide 3 Try.prog 43 #[.slice none 0 0, .slice la c lcap] w fun e w' => Below w.heap.size w w' ∧ ∃ (v : Value) (ps : List Rec), e = .returned v ∧ ps.length = npc c 16 ∧ w'.ownsRow w.heap.size 81 5 v ps.length (recCells ps) ∧
      ∀ i, i < npc c 16 → KidRec w' (h + 1) (rc ps i) (piece Ls (npc c 16) i).flatten ∧ (rc ps i).fresh = true ∧ SizeIs w' (rc ps i) (cutAt c (npc c 16) (i + 1) - cutAt c (npc c 16) i) := by
  refine callsIn_of_wp_marks Try.func43 rfl trivial ?_ rfl
  simp only [Try.ntmps43, List.size_toArray, List.length_cons, List.length_nil, Nat.reduceAdd, Nat.reduceSub, Array.replicate_succ, Array.replicate_zero, List.push_toArray, List.append_toArray, List.nil_append, List.cons_append]
  gi_wp2_with (refine ⟨trivial, ?_⟩; gi_at_call 41; refine (pieces41 _ c 16 _).mono ?_; rintro e w' ⟨rfl, rfl⟩)
  obtain ⟨k, HK⟩ : ∃ k, Hid (k = npc c 16) := ⟨_, rfl⟩
  obtain ⟨w0, hw0⟩ : ∃ w0, (((w.alloc (.cells #[.slice none 0 0] 63)).alloc (.cells #[.slice la c lcap] 63)).alloc (.cells #[.int .i64 c] 3)).alloc (.cells #[.int .i64 16] 3) = w0 := ⟨_, rfl⟩
  have hs0 : w0.heap.size = w.heap.size + 4 := by rw [← hw0]; simp
  have B0 : Boxed w0 w.heap.size 63 (.slice none 0 0) := by
    rw [← hw0]; exact (((Boxed.new w 63 _).alloc _).alloc _).alloc _
  have B1 : Boxed w0 (w.heap.size + 1) 63 (.slice la c lcap) := by
    rw [← hw0]
    have := Boxed.new (w.alloc (.cells #[.slice none 0 0] 63)) 63 (.slice la c lcap)
    rw [World.size_alloc] at this
    exact (this.alloc _).alloc _
  have B2 : Boxed w0 (w.heap.size + 2) 3 (.int .i64 c) := by
    rw [← hw0]
    have := Boxed.new ((w.alloc (.cells #[.slice none 0 0] 63)).alloc (.cells #[.slice la c lcap] 63)) 3 (.int .i64 c)
    rw [World.size_alloc, World.size_alloc] at this
    exact this.alloc _
  have B3 : Boxed w0 (w.heap.size + 3) 3 (.int .i64 16) := by
    rw [← hw0]
    have := Boxed.new (((w.alloc (.cells #[.slice none 0 0] 63)).alloc (.cells #[.slice la c lcap] 63)).alloc (.cells #[.int .i64 c] 3)) 3 (.int .i64 16)
    rw [World.size_alloc, World.size_alloc, World.size_alloc] at this
    exact this
  have hg0 : Below w.heap.size w w0 := by
    rw [← hw0]
    exact ((((Below.refl _ w).alloc (Nat.le_refl _) _).alloc (by simp) _).alloc (by simp; omega) _).alloc (by simp; omega) _
  rw [hw0]
  clear hw0
  refine wpIn_rangeFunc_ownG rfl (by omega) (gf := 49) (lb := #[.pointer (some ⟨w.heap.size + 2, 0, none⟩), .pointer (some ⟨w.heap.size + 3, 0, none⟩)]) rfl trivial (enters_of Try.func49 (by kernel_rfl) rfl)
    (pieces_stops (3 - 1) (w.heap.size + 2) (w.heap.size + 3) c 16 k HK.out (by omega) (by omega) hc w0 (by omega) (by omega) B2.cell B3.cell) kp2_t (kp2_b (by omega) (by omega)) (Below.refl _ _) (fun _ => rfl)
    (fun pre W => PB w c lcap la Ls h k pre W) (fun _ _ _ => False) (PB.own (by omega)) (fun _ _ _ _ _ hs _ _ => hs)
    ⟨hg0, B1, B2, B3, _, [], B0, World.ownsRow_nil _ _ _ _, rfl, fun i hi => by simp at hi⟩
    (fun x => { tmps := #[.slice none 0 0, .slice la c lcap, .pointer (some ⟨w.heap.size, 0, none⟩), .pointer (some ⟨w.heap.size + 1, 0, none⟩), .slice none 0 0,
      .int .i64 (cutAt c k x.1 : Nat), .int .i64 (cutAt c k (x.1 + 1) : Nat), undef, .slice la c lcap, .int .i64 c, .func (.func 49) #[] #[.pointer (some ⟨w.heap.size + 2, 0, none⟩), .pointer (some ⟨w.heap.size + 3, 0, none⟩)], .int .i64 (cutAt c k x.1 : Nat), .int .i64 (cutAt c k (x.1 + 1) : Nat),
      undef, undef, undef, undef, undef, undef, undef, undef, undef, undef], defers := [] }) ?assign ?body ?done ?stop
  case assign =>
    intro l x W K hK
    simp only [encP, List.zip_toArray, List.zip_cons_cons, List.zip_nil_left, List.foldl_toArray', List.foldl_cons, List.foldl_nil]
    gi_wp2
    exact hK
  case body =>
    rintro l pre x W ⟨hg, b1, b2, b3, v, ps, b0, hrw, hlen, hst⟩ hlt
    have hkp : 0 < k := by omega
    have hkn : k ≤ c := by rw [HK.out]; exact npc_le (by omega)
    have hk16 : c ≤ k * 16 := by rw [HK.out]; exact npc_cover (by omega)
    obtain rfl := hla (by omega)
    have hgl' := hgl (by omega)
    have hj : x.1 < k := x.2
    have p1 := cutAt_step hkp hkn x.1
    have p2 := cutAt_most hkp hk16 x.1
    have p3 := cutAt_le (n := c) hkp (show x.1 + 1 ≤ k from hj)
    have hrecs : RecsAt W g (o + cutAt c k x.1 * 5) ((kids.drop (cutAt c k x.1)).take (cutAt c k (x.1 + 1) - cutAt c k x.1)) := (hrecs0.part _ _).kept hg hgl'
    have hglW : g < W.heap.size := Nat.lt_of_lt_of_le hgl' hg.size
    have hnode := fun lc' => node50g g (o + cutAt c k x.1 * 5) (cutAt c k (x.1 + 1) - cutAt c k x.1) lc' _ W (by simp [hkl]; omega) (by omega) (by omega) hglW hrecs
    have hsl := slice63_lh g o c lcap (cutAt c k x.1) (cutAt c k (x.1 + 1)) (by omega) (by omega)
    have hc1 := b1.cell
    have hpsl : ps.length ≤ 1048576 := by omega
    have HST := hide hst
    have HNO := hide hnode
    have HLEN := hide hlen
    clear hst hnode hrecs hlen
    obtain ⟨av, cv, rfl, hcv⟩ := ownsRow_shape hrw
    obtain ⟨recs, hrecsE⟩ : ∃ recs, (kids.drop (cutAt c k x.1)).take (cutAt c k (x.1 + 1) - cutAt c k x.1) = recs := ⟨_, rfl⟩
    obtain ⟨lst, hlst⟩ : ∃ lst, Hid ((rc recs (cutAt c k (x.1 + 1) - cutAt c k x.1 - 1)).last = lst) := ⟨_, rfl⟩
    have HRE := hide hrecsE
    rw [hrecsE] at HNO
    clear hrecsE
    gi_wp2_with (first
      | (refine ⟨trivial, ?_⟩; gi_at_call 50; refine (CallsIn.inRound l (callsIn_wide.2 (HNO.out _))).mono ?_; rintro e w1 ⟨hbel, nb, q, hnb, hnb2, rfl, hnode⟩; simp only [Rec.val]; have hlst0 := hlst.out; rw [hlst0]; clear hlst0
         have HND := hide hnode
         have HBE := hide hbel
         have hcu : ∀ o : Obj, (w1.alloc o).cell? ⟨w.heap.size, 0, none⟩ = some (.slice av ps.length cv) := fun o => (Boxed.alloc (show Boxed w1 _ _ _ from (hbel.block _ b0.lt).trans b0) o).cell
         have hrA : ∀ o1 o2 : Obj, ((w1.alloc o1).alloc o2).ownsRow w.heap.size 81 5 (.slice av ps.length cv) ps.length (recCells ps) := fun o1 o2 => ((hrw.kept (grown_of_below hbel none) (Classical.em _)).alloc o1).alloc o2
         have hsA : Hid (w.heap.size ≤ w1.heap.size) := Nat.le_trans hg.size hbel.size
         have hnw : ∀ (o1 : Obj) (ad : Addr), some (⟨w1.heap.size + 1, 0, none⟩ : Addr) = some ad → ∀ (j : Nat) (y : Value), (Rec.cells ⟨lst, q, none, 0, 0, some ⟨nb, 0, none⟩, true⟩)[j]? = some y → ((w1.alloc o1).alloc (.cells #[.int .u64 lst, .int .i64 q, .slice none 0 0, .pointer (some ⟨nb, 0, none⟩), .bool true] 81)).cell? (ad.add j) = some y := fun o1 => by
           have := new_cells (w1.alloc o1) ⟨lst, q, none, 0, 0, some ⟨nb, 0, none⟩, true⟩
           rw [World.size_alloc] at this
           exact this
         have HNW := hide hnw
         have HRA := hide hrA
         clear hnode hbel hnw hrA)
      | (gi_at_builtin
         refine wpListIn_app rfl _ _ 63 rfl w.heap.size 81 _ 5 56 Try.underlying63 info81 rfl (by omega) _ ps.length (recCells ps) rfl (HRA.out _ _) (some ⟨w1.heap.size + 1, 0, none⟩) 1 1 (Rec.cells ⟨lst, q, none, 0, 0, some ⟨nb, 0, none⟩, true⟩) rfl rfl (fun h => by cases h) (HNW.out _) (rec_one _) (by unfold maxLen; omega) (by omega) (by have := hsA.out; simp; omega) ?_
         intro a' cap' w2 hown2 hgr2 hob2
         obtain ⟨d0, fin⟩ := parb_step (x := x) (B := w.heap.size + 4) (v' := .slice a' (ps.length + 1) cap') (r := ⟨lst, q, none, 0, 0, some ⟨nb, 0, none⟩, true⟩) hkl hkids hM hkn hk16 hg b1 b2 b3 b0 hrw HLEN.out HST.out HBE.out (by rw [HRE.out]; exact HND.out) (by rw [HRE.out, hlst.out]) hgr2
         have FIN := hide fin
         have HOWN2 := hide hown2
         clear fin hown2 hgr2 hob2
         have hc02 := d0.cell
         have hf02 := d0.frozen))
    exact FIN.out HOWN2.out
  case done =>
    rintro D ys W hD rfl ⟨hg, b1, b2, b3, v, ps, b0, hrw, hlen, hst⟩ hK
    have hc := b0.cell
    gi_wp2
    refine ⟨by simp, .inl ⟨_, _, rfl, run_takeDeferred hK, ?_⟩⟩
    have hgp := grownBy_putObj' W D (.deferred none)
    have hrp : ∀ r, some D = some r → ∃ o : Obj, W.heap[r]? = some o ∧ o.isCells = false := fun r e => by cases e; exact ⟨_, hK, rfl⟩
    have k2 := k2_other hgp hrp
    refine ⟨_, results_tmp rfl _ _ _, ?_, v, ps, rfl, ?_, ?_, ?_⟩
    · refine ⟨hgp.os.trans hg.os, hgp.tape.trans hg.tape, hgp.output.trans hg.output, Nat.le_trans hg.size hgp.size, fun j hj => ?_⟩
      rw [hgp.block j (Nat.lt_of_lt_of_le hj hg.size) (fun e => by cases e; omega)]
      exact hg.block j hj
    · rw [hlen, firsts_length, HK.out]
    · exact ownsRow_putObj hrw (.deferred none) hK rfl
    · intro i hi
      rw [← HK.out] at hi ⊢
      obtain ⟨x, hx, z1, z2, z3⟩ := hst i (by rw [firsts_length]; exact hi)
      rw [firsts_get k k (Nat.le_refl _) i hi] at hx
      cases hx
      exact ⟨z1.k2 k2, z2, z3.k2 k2⟩
  case stop =>
    rintro D c pre W _ _ h _
    exact h.elim

end Go.Proofs.Qxb6613757a.T
