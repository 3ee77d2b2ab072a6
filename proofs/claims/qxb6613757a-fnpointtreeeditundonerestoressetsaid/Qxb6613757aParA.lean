import Derived.Test.Qxb6613757aPar3
/-
  appendParents in place: the walk.
-/
namespace Go.Proofs.Qxb6613757a.T
open Go.RowKit Go.Shelf
attribute [local go_sem] Oper.semAt_some
set_option linter.unusedVariables false
set_option linter.unusedSimpArgs false

theorem elem63 : Try.prog.elem 63 = 81 := by kernel_rfl
theorem und63 : Try.prog.underlying 63 = some (.slice (Try.prog.elem 63)) := by rw [elem63]; exact Try.underlying63
theorem run_size81 (w : World) : (sizeOf 81).run Try.prog w = .ok 5 w := by kernel_rfl
theorem slice63_lh (g off n cap lo hi : Nat) (h1 : lo < hi) (h2 : hi ≤ cap) (w : World) :
    (Instr.slice 63 (.slice (some ⟨g, off, none⟩) n cap) (some (.int .i64 (lo : Int))) (some (.int .i64 (hi : Int))) none).run Try.prog w = .ok (.slice (some ⟨g, off + lo * 5, none⟩) (hi - lo) (cap - lo)) w := by
  rw [run_slice_lh w 63 (some ⟨g, off, none⟩) n cap und63 .i64 .i64 lo hi (by omega) (by omega) (by omega), elem63, run_size81]
  have : ¬ (cap = lo) := by omega
  simp [sliced, Result.andThen, this, Addr.add]

set_option maxRecDepth 100000 in
set_option maxHeartbeats 2000000 in
theorem parentsA (g u c cap lcap h : Nat) (la : Option Addr) (rs0 kids : List Rec) (Ls : List (List (List Int))) (w : World) (hu : rs0.length = u) (hkl : kids.length = c) (hla : 1 ≤ c → la = some ⟨g, u * 5, none⟩) (hlc : c ≤ lcap) (hc : c ≤ 1048576)
    (hrow : w.ownsRow 0 81 5 (.slice (some ⟨g, 0, none⟩) (u + c) cap) (u + c) (recCells (rs0 ++ kids))) (hkids : Kids w h kids Ls) (hM : (ents Ls).length ≤ 1048576) :
    CallsIn Fence.wide 3 Try.prog 43 #[.slice (some ⟨g, 0, none⟩) u cap, .slice la c lcap] w fun e w' => w.grownBy w' (some g) ∧ ∃ ps : List Rec, e = .returned (.slice (some ⟨g, 0, none⟩) (u + npc c 16) cap) ∧ ps.length = npc c 16 ∧
      w'.ownsRow 0 81 5 (.slice (some ⟨g, 0, none⟩) (u + npc c 16) cap) (u + npc c 16) (recCells (rs0 ++ ps)) ∧
      ∀ i, i < npc c 16 → KidRec w' (h + 1) (rc ps i) (piece Ls (npc c 16) i).flatten ∧ (rc ps i).fresh = true ∧ SizeIs w' (rc ps i) (cutAt c (npc c 16) (i + 1) - cutAt c (npc c 16) i) := by
  refine callsIn_of_wp_marks Try.func43 rfl trivial ?_ rfl
  simp only [Try.ntmps43, List.size_toArray, List.length_cons, List.length_nil, Nat.reduceAdd, Nat.reduceSub, Array.replicate_succ, Array.replicate_zero, List.push_toArray, List.append_toArray, List.nil_append, List.cons_append]
  gi_wp2_with (refine ⟨trivial, ?_⟩; gi_at_call 41; refine (pieces41 _ c 16 _).mono ?_; rintro e w' ⟨rfl, rfl⟩)
  obtain ⟨k, HK⟩ : ∃ k, Hid (k = npc c 16) := ⟨_, rfl⟩
  obtain ⟨w0, hw0⟩ : ∃ w0, (((w.alloc (.cells #[.slice (some ⟨g, 0, none⟩) u cap] 63)).alloc (.cells #[.slice la c lcap] 63)).alloc (.cells #[.int .i64 c] 3)).alloc (.cells #[.int .i64 16] 3) = w0 := ⟨_, rfl⟩
  have hs0 : w0.heap.size = w.heap.size + 4 := by rw [← hw0]; simp
  have B0 : Boxed w0 w.heap.size 63 (.slice (some ⟨g, 0, none⟩) u cap) := by
    rw [← hw0]; exact (((Boxed.new w 63 _).alloc _).alloc _).alloc _
  have B1 : Boxed w0 (w.heap.size + 1) 63 (.slice la c lcap) := by
    rw [← hw0]
    have := Boxed.new (w.alloc (.cells #[.slice (some ⟨g, 0, none⟩) u cap] 63)) 63 (.slice la c lcap)
    rw [World.size_alloc] at this
    exact (this.alloc _).alloc _
  have B2 : Boxed w0 (w.heap.size + 2) 3 (.int .i64 c) := by
    rw [← hw0]
    have := Boxed.new ((w.alloc (.cells #[.slice (some ⟨g, 0, none⟩) u cap] 63)).alloc (.cells #[.slice la c lcap] 63)) 3 (.int .i64 c)
    rw [World.size_alloc, World.size_alloc] at this
    exact this.alloc _
  have B3 : Boxed w0 (w.heap.size + 3) 3 (.int .i64 16) := by
    rw [← hw0]
    have := Boxed.new (((w.alloc (.cells #[.slice (some ⟨g, 0, none⟩) u cap] 63)).alloc (.cells #[.slice la c lcap] 63)).alloc (.cells #[.int .i64 c] 3)) 3 (.int .i64 16)
    rw [World.size_alloc, World.size_alloc, World.size_alloc] at this
    exact this
  have hg0 : w.grownBy w0 (some g) := by
    rw [← hw0]
    refine ⟨rfl, rfl, rfl, by simp; omega, fun j hj _ => ?_⟩
    rw [Below.heap_alloc _ _ _ (by simp; omega), Below.heap_alloc _ _ _ (by simp; omega), Below.heap_alloc _ _ _ (by simp; omega), Below.heap_alloc _ _ _ (by omega)]
  have hrow0 : w0.ownsRow 0 81 5 (.slice (some ⟨g, 0, none⟩) (u + c) cap) (u + c) (recCells (rs0 ++ kids)) := by
    rw [← hw0]; exact (((hrow.alloc _).alloc _).alloc _).alloc _
  have hgw := own_type hrow g rfl
  have hlm := (own_shape81 hrow).2.1
  have hcapn := (own_shape81 hrow).1
  rw [hw0]
  clear hw0
  refine wpIn_rangeFunc_ownG rfl (by omega) (gf := 49) (lb := #[.pointer (some ⟨w.heap.size + 2, 0, none⟩), .pointer (some ⟨w.heap.size + 3, 0, none⟩)]) rfl trivial (enters_of Try.func49 (by kernel_rfl) rfl)
    (pieces_stops (3 - 1) (w.heap.size + 2) (w.heap.size + 3) c 16 k HK.out (by omega) (by omega) hc w0 (by omega) (by omega) B2.cell B3.cell) kp2_t (kp2_b (by omega) (by omega)) (Below.refl _ _) (fun _ => rfl)
    (fun pre W => PI w g u c cap lcap la rs0 kids Ls h k pre W) (fun _ _ _ => False) (PI.own (by omega)) (fun _ _ _ _ _ hs _ _ => hs)
    ⟨hg0, B1, B2, B3, by simpa using B0, kids, hkl, hrow0, fun _ _ => ⟨fun _ _ _ => rfl, fun i hi => by simp at hi⟩⟩
    (fun x => { tmps := #[.slice (some ⟨g, 0, none⟩) u cap, .slice la c lcap, .pointer (some ⟨w.heap.size, 0, none⟩), .pointer (some ⟨w.heap.size + 1, 0, none⟩), .slice none 0 0,
      .int .i64 (cutAt c k x.1 : Nat), .int .i64 (cutAt c k (x.1 + 1) : Nat), undef, .slice la c lcap, .int .i64 c, .func (.func 49) #[] #[.pointer (some ⟨w.heap.size + 2, 0, none⟩), .pointer (some ⟨w.heap.size + 3, 0, none⟩)], .int .i64 (cutAt c k x.1 : Nat), .int .i64 (cutAt c k (x.1 + 1) : Nat),
      undef, undef, undef, undef, undef, undef, undef, undef, undef, undef], defers := [] }) ?assign ?body ?done ?stop
  case assign =>
    intro l x W K hK
    simp only [encP, List.zip_toArray, List.zip_cons_cons, List.zip_nil_left, List.foldl_toArray', List.foldl_cons, List.foldl_nil]
    gi_wp2
    exact hK
  case body =>
    rintro l pre x W ⟨hg, b1, b2, b3, b0, lev, hlev, hrw, hst⟩ hlt
    have hkp : 0 < k := by omega
    have hkn : k ≤ c := by rw [HK.out]; exact npc_le (by omega)
    have hk16 : c ≤ k * 16 := by rw [HK.out]; exact npc_cover (by omega)
    obtain rfl := hla (by omega)
    have hj : x.1 < k := x.2
    have p1 := cutAt_step hkp hkn x.1
    have p2 := cutAt_most hkp hk16 x.1
    have p3 := cutAt_le (n := c) hkp (show x.1 + 1 ≤ k from hj)
    have hrecs : RecsAt W g (u * 5 + cutAt c k x.1 * 5) ((lev.drop (cutAt c k x.1)).take (cutAt c k (x.1 + 1) - cutAt c k x.1)) := by
      have := recs_own hrw (by simp [hu, hlev]) (u + cutAt c k x.1) (cutAt c k (x.1 + 1) - cutAt c k x.1) (by omega)
      rwa [Nat.add_mul, List.drop_append, hu, Nat.add_sub_cancel_left, List.drop_of_length_le (by omega), List.nil_append] at this
    have hgl : g < W.heap.size := by
      obtain ⟨cur, hc⟩ := own_type hrw g rfl
      exact (Array.getElem?_eq_some_iff.1 hc).1
    have hnode := fun lc' => node50g g (u * 5 + cutAt c k x.1 * 5) (cutAt c k (x.1 + 1) - cutAt c k x.1) lc' _ W (by simp [hlev]; omega) (by omega) (by omega) hgl hrecs
    have hsl := slice63_lh g (u * 5) c lcap (cutAt c k x.1) (cutAt c k (x.1 + 1)) (by omega) (by omega)
    have hc1 := b1.cell
    have HST := hide hst
    have HNO := hide hnode
    have HREC := hide hrecs
    clear hst hnode hrecs
    obtain ⟨recs, hrecsE⟩ : ∃ recs, (lev.drop (cutAt c k x.1)).take (cutAt c k (x.1 + 1) - cutAt c k x.1) = recs := ⟨_, rfl⟩
    obtain ⟨lst, hlst⟩ : ∃ lst, Hid ((rc recs (cutAt c k (x.1 + 1) - cutAt c k x.1 - 1)).last = lst) := ⟨_, rfl⟩
    have HRE := hide hrecsE
    rw [hrecsE] at HNO
    clear hrecsE
    gi_wp2_with (first
      | (refine ⟨trivial, ?_⟩; gi_at_call 50; refine (CallsIn.inRound l (callsIn_wide.2 (HNO.out _))).mono ?_; rintro e w1 ⟨hbel, nb, q, hnb, hnb2, rfl, hnode⟩; simp only [Rec.val]; have hlst0 := hlst.out; rw [hlst0]; clear hlst0
         have HND := hide hnode
         have HBE := hide hbel
         have hcu : ∀ o : Obj, (w1.alloc o).cell? ⟨w.heap.size, 0, none⟩ = some (.slice (some ⟨g, 0, none⟩) (u + pre.length) cap) := fun o => (Boxed.alloc (show Boxed w1 _ _ _ from (hbel.block _ b0.lt).trans b0) o).cell
         have hrA : ∀ o1 o2 : Obj, ((w1.alloc o1).alloc o2).ownsRow 0 81 5 (.slice (some ⟨g, 0, none⟩) (u + c) cap) (u + c) (recCells (rs0 ++ lev)) := fun o1 o2 => ((hrw.kept (grown_of_below hbel none) (Classical.em _)).alloc o1).alloc o2
         have hnw : ∀ (o1 : Obj) (j : Nat) (y : Value), (Rec.cells ⟨lst, q, none, 0, 0, some ⟨nb, 0, none⟩, true⟩)[j]? = some y → ((w1.alloc o1).alloc (.cells #[.int .u64 lst, .int .i64 q, .slice none 0 0, .pointer (some ⟨nb, 0, none⟩), .bool true] 81)).cell? ((⟨w1.heap.size + 1, 0, none⟩ : Addr).add j) = some y := fun o1 => by
           have := new_cells (w1.alloc o1) ⟨lst, q, none, 0, 0, some ⟨nb, 0, none⟩, true⟩ _ rfl
           rw [World.size_alloc] at this
           exact this
         have HNW := hide hnw
         have HRA := hide hrA
         clear hnode hbel hnw hrA)
      | (gi_at_builtin
         refine wpListIn_app_in rfl _ _ rfl (HRA.out _ _) (by simp [hu, hlev]) (u + pre.length) (by omega) ⟨w1.heap.size + 1, 0, none⟩ 1 ⟨lst, q, none, 0, 0, some ⟨nb, 0, none⟩, true⟩ rfl rfl (HNW.out _) ?_
         intro w2 hown2 hgr2
         obtain ⟨d0, fin⟩ := par_step (x := x) (B := w.heap.size + 4) (r := ⟨lst, q, none, 0, 0, some ⟨nb, 0, none⟩, true⟩) hu hkl hkids hM hkn hk16 hgw hg b1 b2 b3 b0 hlev hrw HST.out hlt HBE.out hnb (by rw [HRE.out]; exact HND.out) (by rw [HRE.out, hlst.out]) hgr2
         have FIN := hide fin
         have HOWN2 := hide hown2
         clear fin hown2 hgr2
         have hc02 := d0.cell
         have hf02 := d0.frozen))
    exact FIN.out HOWN2.out
  case done =>
    rintro D ys W hD rfl ⟨hg, b1, b2, b3, b0, lev, hlev, hrw, hst⟩ hK
    have hc := b0.cell
    rw [firsts_length] at hc
    gi_wp2
    refine ⟨by simp, .inl ⟨_, _, rfl, run_takeDeferred hK, ?_⟩⟩
    have hgp := grownBy_putObj' W D (.deferred none)
    have hrp : ∀ r, some D = some r → ∃ o : Obj, W.heap[r]? = some o ∧ o.isCells = false := fun r e => by cases e; exact ⟨_, hK, rfl⟩
    have k2 := k2_other hgp hrp
    have hkn : k ≤ c := by rw [HK.out]; exact npc_le (by omega)
    refine ⟨_, results_tmp rfl _ _ _, ?_, lev.take k, ?_, ?_, ?_, ?_⟩
    · refine ⟨hgp.os.trans hg.os, hgp.tape.trans hg.tape, hgp.output.trans hg.output, Nat.le_trans hg.size hgp.size, fun j hj hjr => ?_⟩
      rw [hgp.block j (Nat.lt_of_lt_of_le hj hg.size) (fun e => by cases e; omega)]
      exact hg.block j hj hjr
    · rw [← HK.out]; rfl
    · rw [List.length_take, hlev, ← HK.out]; omega
    · rw [← HK.out]
      have h1 := ownsRow_putObj hrw (.deferred none) hK rfl
      obtain ⟨q1, q2, cur, q3, q4, q5⟩ := own_shape81 h1
      refine ⟨by rw [recCells_length, List.length_append, List.length_take, hlev, hu]; congr 1; omega, .inr ⟨g, cap, cur, rfl, Nat.zero_le _, q3, by omega, q2, q4, ?_⟩⟩
      have e : rs0 ++ lev.take k = (rs0 ++ lev).take (u + k) := by rw [List.take_append, hu, Nat.add_sub_cancel_left, List.take_of_length_le (l := rs0) (by omega)]
      rw [e, ← recCells_take, ← q5, List.take_take]
      congr 1; omega
    · intro i hi
      rw [← HK.out] at hi ⊢
      obtain ⟨_, h2⟩ := hst (by rw [firsts_length]; exact Nat.le_refl _) (by simp [firsts_length])
      obtain ⟨z1, z2, z3⟩ := h2 i (by rw [firsts_length]; exact hi)
      rw [rc_take hi]
      exact ⟨z1.k2 k2, z2, z3.k2 k2⟩
  case stop =>
    rintro D c pre W _ _ h _
    exact h.elim

end Go.Proofs.Qxb6613757a.T
