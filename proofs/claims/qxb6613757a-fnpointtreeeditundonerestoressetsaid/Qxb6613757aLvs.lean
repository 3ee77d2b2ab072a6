import Derived.Test.Qxb6613757aLvt
/-
  appendLeaves: the walk.
-/
namespace Go.Proofs.Qxb6613757a.T
open Go.RowKit Go.Shelf
attribute [local go_sem] Oper.semAt_some
set_option linter.unusedVariables false
set_option linter.unusedSimpArgs false

set_option maxRecDepth 100000 in
set_option maxHeartbeats 2000000 in
theorem leaves35 (lw : Value) (rs : List Rec) (ea : Option Addr) (n cap : Nat) (zs : List Int) (built : Bool) (w : World) (hz : zs.length = n) (hn : n ≤ 1048576) (hcap : n ≤ cap) (hr : Row w ea zs)
    (hl : w.ownsRow 0 81 5 lw rs.length (recCells rs)) (hlen : rs.length ≤ 1048576) :
    CallsIn Fence.wide 3 Try.prog 35 #[lw, .slice ea n cap, .bool built] w fun e w' => w.grownBy w' lw.ownBlock ∧ ∃ (v : Value) (ns : List Rec), e = .returned v ∧ w'.ownsRow 0 81 5 v (rs ++ ns).length (recCells (rs ++ ns)) ∧
      (v.ownBlock = lw.ownBlock ∨ ∃ g, v.ownBlock = some g ∧ w.heap.size ≤ g) ∧ ns.length = npc n 64 ∧ ∀ j, j < npc n 64 → KidRec w' 0 (rc ns j) [piece zs (npc n 64) j] ∧ (rc ns j).fresh = !built := by
  obtain ⟨la, lc, rfl, hlc⟩ := ownsRow_shape hl
  refine callsIn_of_wp_marks Try.func35 rfl trivial ?_ rfl
  simp only [Try.ntmps35, List.size_toArray, List.length_cons, List.length_nil, Nat.reduceAdd, Nat.reduceSub, Array.replicate_succ, Array.replicate_zero, List.push_toArray, List.append_toArray, List.nil_append, List.cons_append]
  gi_wp2_with (refine ⟨trivial, ?_⟩; gi_at_call 41; refine (pieces41 _ n 64 _).mono ?_; rintro e w' ⟨rfl, rfl⟩)
  obtain ⟨k, HK⟩ : ∃ k, Hid (k = npc n 64) := ⟨_, rfl⟩
  obtain ⟨w0, hw0⟩ : ∃ w0, ((((w.alloc (.cells #[.slice la rs.length lc] 63)).alloc (.cells #[.slice ea n cap] 37)).alloc (.cells #[.bool built] 4)).alloc (.cells #[.int .i64 n] 3)).alloc (.cells #[.int .i64 64] 3) = w0 := ⟨_, rfl⟩
  have hs0 : w0.heap.size = w.heap.size + 5 := by rw [← hw0]; simp
  have B0 : Boxed w0 w.heap.size 63 (.slice la rs.length lc) := by
    rw [← hw0]; exact ((((Boxed.new w 63 _).alloc _).alloc _).alloc _).alloc _
  have B1 : Boxed w0 (w.heap.size + 1) 37 (.slice ea n cap) := by
    rw [← hw0]
    have := Boxed.new (w.alloc (.cells #[.slice la rs.length lc] 63)) 37 (.slice ea n cap)
    rw [World.size_alloc] at this
    exact ((this.alloc _).alloc _).alloc _
  have B2 : Boxed w0 (w.heap.size + 2) 4 (.bool built) := by
    rw [← hw0]
    have := Boxed.new ((w.alloc (.cells #[.slice la rs.length lc] 63)).alloc (.cells #[.slice ea n cap] 37)) 4 (.bool built)
    rw [World.size_alloc, World.size_alloc] at this
    exact (this.alloc _).alloc _
  have B3 : Boxed w0 (w.heap.size + 3) 3 (.int .i64 n) := by
    rw [← hw0]
    have := Boxed.new (((w.alloc (.cells #[.slice la rs.length lc] 63)).alloc (.cells #[.slice ea n cap] 37)).alloc (.cells #[.bool built] 4)) 3 (.int .i64 n)
    rw [World.size_alloc, World.size_alloc, World.size_alloc] at this
    exact this.alloc _
  have B4 : Boxed w0 (w.heap.size + 4) 3 (.int .i64 64) := by
    rw [← hw0]
    have := Boxed.new ((((w.alloc (.cells #[.slice la rs.length lc] 63)).alloc (.cells #[.slice ea n cap] 37)).alloc (.cells #[.bool built] 4)).alloc (.cells #[.int .i64 n] 3)) 3 (.int .i64 64)
    rw [World.size_alloc, World.size_alloc, World.size_alloc, World.size_alloc] at this
    exact this
  have hg0 : w.grownBy w0 (Value.slice la rs.length lc).ownBlock := by
    rw [← hw0]
    refine ⟨rfl, rfl, rfl, by simp; omega, fun j hj _ => ?_⟩
    rw [Below.heap_alloc _ _ _ (by simp; omega), Below.heap_alloc _ _ _ (by simp; omega), Below.heap_alloc _ _ _ (by simp; omega), Below.heap_alloc _ _ _ (by simp; omega), Below.heap_alloc _ _ _ (by omega)]
  have hrow0 : w0.ownsRow 0 81 5 (.slice la rs.length lc) rs.length (recCells rs) := by
    rw [← hw0]; exact ((((hl.alloc _).alloc _).alloc _).alloc _).alloc _
  rw [hw0]
  clear hw0
  refine wpIn_rangeFunc_ownG rfl (by omega) (gf := 49) (lb := #[.pointer (some ⟨w.heap.size + 3, 0, none⟩), .pointer (some ⟨w.heap.size + 4, 0, none⟩)]) rfl trivial (enters_of Try.func49 (by kernel_rfl) rfl)
    (pieces_stops (3 - 1) (w.heap.size + 3) (w.heap.size + 4) n 64 k HK.out (by omega) (by omega) hn w0 (by omega) (by omega) B3.cell B4.cell) kp2_t (kp2_b (by omega) (by omega)) (Below.refl _ _) (fun _ => rfl)
    (fun pre W => LI w (.slice la rs.length lc) rs ea n cap zs built k pre W) (fun _ _ _ => False) (LI.own (by omega)) (fun _ _ _ _ _ hs _ _ => hs)
    ⟨hg0, B1, B2, B3, B4, _, [], B0, by simpa using hrow0, .inl rfl, rfl, fun i hi => by simp at hi⟩
    (fun x => { tmps := #[.slice la rs.length lc, .slice ea n cap, .bool built, .pointer (some ⟨w.heap.size, 0, none⟩), .pointer (some ⟨w.heap.size + 1, 0, none⟩), .pointer (some ⟨w.heap.size + 1 + 1, 0, none⟩), .slice none 0 0,
      .int .i64 (cutAt n k x.1 : Nat), .int .i64 (cutAt n k (x.1 + 1) : Nat), undef, .slice ea n cap, .int .i64 n, .func (.func 49) #[] #[.pointer (some ⟨w.heap.size + 3, 0, none⟩), .pointer (some ⟨w.heap.size + 4, 0, none⟩)], .int .i64 (cutAt n k x.1 : Nat), .int .i64 (cutAt n k (x.1 + 1) : Nat),
      undef, undef, undef, undef, undef, undef, undef, undef, undef, undef, undef, undef, undef, undef, undef, undef, undef, undef, undef, undef, undef, undef, undef, undef], defers := [] }) ?assign ?body ?done ?stop
  case assign =>
    intro l x W K hK
    simp only [encP, List.zip_toArray, List.zip_cons_cons, List.zip_nil_left, List.foldl_toArray', List.foldl_cons, List.foldl_nil]
    gi_wp2
    exact hK
  case body =>
    rintro l pre x W ⟨hg, b1, b2, b3, b4, v, ns, b0, hrow, hv, hlen', hkk⟩ hlt
    have hkp : 0 < k := by omega
    have hn1 : 1 ≤ n := by
      rcases Nat.eq_zero_or_pos n with h | h
      · have := npc_le (n := n) (most := 64) (by omega)
        rw [← HK.out] at this; omega
      · exact h
    have hkn : k ≤ n := by rw [HK.out]; exact npc_le (by omega)
    obtain ⟨b, o, rfl, hbb, hcb⟩ := hr.at (by omega)
    obtain ⟨j, hj⟩ := x
    have p1 := cutAt_step hkp hkn j
    have p2 : cutAt n k (j + 1) ≤ cutAt n k j + 64 := cutAt_most hkp (by rw [HK.out]; exact npc_cover (by omega)) j
    have p3 := cutAt_le (n := n) hkp (show j + 1 ≤ k from hj)
    have hRW : Hid (Row W (some ⟨b, o, none⟩) zs) := hr.k2 (own_k2 hl hg)
    have hpl : Hid ((piece zs k j).length = cutAt n k (j + 1) - cutAt n k j) := by
      show _ = _
      rw [piece_length zs hkp hj, hz]
    have hRp : Hid (Row W (some ⟨b, o + cutAt n k j, none⟩) (piece zs k j)) := by
      have := (hRW.out.drop (cutAt n k j)).take (cutAt n k (j + 1) - cutAt n k j)
      show Row _ _ _
      unfold piece; rw [hz]; exact this
    have hsl := slice37_lhm b o n cap (cutAt n k j) (cutAt n k (j + 1)) (by omega) (by omega)
    have hc1 := b1.cell
    have hc2 := b2.cell
    have hpl1 : 1 ≤ (piece zs k j).length ∧ (piece zs k j).length ≤ 64 := by rw [hpl.out]; omega
    generalize hps : piece zs k j = ps at *
    have HPS := hide hps
    clear hps
    generalize cutAt n k j = s1 at *
    generalize cutAt n k (j + 1) = s2 at *
    generalize hmm : s2 - s1 = m at *
    have hnsl : ns.length ≤ 1048576 := by omega
    have HLEN := hide hlen'
    clear hlen'
    have HKK := hide hkk
    have HG := hide hg
    have HCB := hide hcb
    have HMM := hide hmm
    clear hkk hg hmm hcb
    cases built
    case false =>
      gi_wp2
      have hbel : Hid (Below W.heap.size W W) := Below.refl _ _
      generalize o + s1 = lo at *
      have e0 : Boxed W w.heap.size 63 v := (hbel.out.block _ b0.lt).trans b0
      have e1 : Boxed W (w.heap.size + 1) 37 (.slice (some ⟨b, o, none⟩) n cap) := (hbel.out.block _ b1.lt).trans b1
      have e2 : Boxed W (w.heap.size + 2) 4 (.bool false) := (hbel.out.block _ b2.lt).trans b2
      have e3 : Boxed W (w.heap.size + 3) 3 (.int .i64 n) := (hbel.out.block _ b3.lt).trans b3
      have e4 : Boxed W (w.heap.size + 4) 3 (.int .i64 64) := (hbel.out.block _ b4.lt).trans b4
      have hrow1 : W.ownsRow 0 81 5 v (rs.length + ns.length) (recCells (rs ++ ns)) := hrow.kept (grown_of_below hbel.out none) (Classical.em _)
      have HMM' : Hid (m = ps.length) := hpl.out.symm
      have hm1 : 1 ≤ m ∧ m ≤ 64 := by rw [HMM'.out]; exact hpl1
      obtain ⟨lst, hlst⟩ : ∃ lst, Hid (lst = el ps (m - 1)) := ⟨_, rfl⟩
      have hcl : W.cell? ⟨b, lo + (m - 1), none⟩ = some (.int .u64 lst) := by
        obtain ⟨b', o', hbo, _, hcc⟩ := hRp.out.at (by rw [← HMM'.out]; omega)
        cases hbo
        rw [hlst.out]; exact hcc (m - 1) (by rw [← HMM'.out]; omega)
      obtain ⟨m', hm'⟩ : ∃ m', m - 1 = m' := ⟨_, rfl⟩
      have hm'' : Hid (m' + 1 = m) := by show _ = _; omega
      rw [hm'] at hcl
      have hsub : Hid ((m : Int) - 1 = (m' : Nat)) := by show _ = _; omega
      clear hm'
      refine region_round (fun W' => W'.cell? ⟨w.heap.size + 1 + 1, 0, none⟩ = some (.bool false) ∧ W'.cell? ⟨b, lo + m', none⟩ = some (.int .u64 lst)) (by kernel_rfl) (by rintro ⟨_, _, h⟩; exact h) (by kernel_rfl) ?_
      have HS : Hid ((W.drew).cell? ⟨w.heap.size + 1 + 1, 0, none⟩ = some (.bool false) ∧ (W.drew).cell? ⟨b, lo + m', none⟩ = some (.int .u64 lst)) := ⟨e2.cell, hcl⟩
      refine wpAnyH_take (i := 1) (v := ?_) rfl (by kernel_rfl) (by kernel_rfl) (by kernel_rfl) (fun _ _ _ h => h) (Or.inl ⟨by rfl, ?_⟩) HS.out ?_
      rotate_left
      · rintro w ⟨y5, yl⟩; go_simp; with_reducible rfl
      refine wpAnyH_take (i := 2) (v := ?_) rfl (by kernel_rfl) (by kernel_rfl) (by kernel_rfl) (fun _ _ _ h => h) (Or.inl ⟨by rfl, ?_⟩) HS.out ?_
      rotate_left
      · rintro w ⟨y5, yl⟩; go_simp; with_reducible rfl
      refine wpAnyH_take (i := 3) (v := .int .i64 (m : Nat)) rfl (by kernel_rfl) (by kernel_rfl) (by kernel_rfl) (fun _ _ _ h => h) (Or.inl ⟨by rfl, ?_⟩) HS.out ?_
      · rintro w ⟨y5, yl⟩; go_simp
      have hbd : m' < m := by have := hm''.out; omega
      refine wpAnyH_take (i := 4) (v := .int .i64 (m' : Nat)) rfl (by kernel_rfl) (by kernel_rfl) (by kernel_rfl) (fun _ _ _ h => h) (Or.inl ⟨by rfl, ?_⟩) HS.out ?_
      · rintro w ⟨y5, yl⟩; go_simp; rw [hsub.out]; exact IntWalk.i64_in _ (by omega)
      refine wpAnyH_take (i := 5) (v := .pointer (some ⟨b, lo + m', none⟩)) rfl (by kernel_rfl) (by kernel_rfl) (by kernel_rfl) (fun _ _ _ h => h) (Or.inl ⟨by rfl, ?_⟩) HS.out ?_
      · rintro w ⟨y5, yl⟩; go_simp
      refine wpAnyH_take (i := 6) (v := .int .u64 lst) rfl (by kernel_rfl) (by kernel_rfl) (by kernel_rfl) (fun _ _ _ h => h) (Or.inl ⟨by rfl, ?_⟩) HS.out ?_
      · rintro w ⟨y5, yl⟩; go_simp
      refine wpAnyH_take (i := 7) (v := ?_) rfl (by kernel_rfl) (by kernel_rfl) (by kernel_rfl) (fun _ _ _ h => h) (Or.inl ⟨by rfl, ?_⟩) HS.out ?_
      rotate_left
      · rintro w ⟨y5, yl⟩; go_simp; with_reducible rfl
      refine wpAnyH_take (i := 8) (v := .int .i64 (m : Nat)) rfl (by kernel_rfl) (by kernel_rfl) (by kernel_rfl) (fun _ _ _ h => h) (Or.inl ⟨by rfl, ?_⟩) HS.out ?_
      · rintro w ⟨y5, yl⟩; go_simp
      refine wpAnyH_take (i := 9) (v := ?_) rfl (by kernel_rfl) (by kernel_rfl) (by kernel_rfl) (fun _ _ _ h => h) (Or.inl ⟨by rfl, ?_⟩) HS.out ?_
      rotate_left
      · rintro w ⟨y5, yl⟩; go_simp; with_reducible rfl
      refine wpAnyH_take (i := 10) (v := .bool false) rfl (by kernel_rfl) (by kernel_rfl) (by kernel_rfl) (fun _ _ _ h => h) (Or.inl ⟨by rfl, ?_⟩) HS.out ?_
      · rintro w ⟨y5, yl⟩; go_simp
      refine wpAnyH_take (i := 11) (v := ?_) rfl (by kernel_rfl) (by kernel_rfl) (by kernel_rfl) (fun _ _ _ h => h) (Or.inl ⟨by rfl, ?_⟩) HS.out ?_
      rotate_left
      · rintro w ⟨y5, yl⟩; go_simp; with_reducible rfl
      refine wpAnyH_take (i := 12) (v := ?_) rfl (by kernel_rfl) (by kernel_rfl) (by kernel_rfl) (fun _ _ _ h => h) (Or.inl ⟨by rfl, ?_⟩) HS.out ?_
      rotate_left
      · rintro w ⟨y5, yl⟩; go_simp; with_reducible rfl
      refine wpAnyH_ready (rs := [0, 13]) (by kernel_rfl) (by simp) ?_
      have hc0 := e0.cell
      have hltl : b < W.heap.size := World.block_lt_of_cell? W ⟨b, lo + m', none⟩ hcl
      have HSA : ∀ o : Obj, Hid (((W.alloc o).drew).cell? ⟨w.heap.size + 1 + 1, 0, none⟩ = some (.bool false) ∧ ((W.alloc o).drew).cell? ⟨b, lo + m', none⟩ = some (.int .u64 lst)) := fun o =>
        ⟨(Boxed.alloc (W := W) e2 o).cell, (((Below.refl _ W).alloc (Nat.le_refl _) o).cell (p := ⟨b, lo + m', none⟩) hltl).trans hcl⟩
      have hcA : ∀ o : Obj, (W.alloc o).cell? ⟨w.heap.size, 0, none⟩ = some v := fun o => (Boxed.alloc (W := W) e0 o).cell
      have hrowA : ∀ o : Obj, ((W.alloc o).drew).ownsRow 0 81 5 v (rs.length + ns.length) (recCells (rs ++ ns)) := fun o => hrow1.alloc o
      refine AllReadyH.cons rfl (fun K' hK => ?_) (AllReadyH.cons rfl (fun K' hK => ?_) AllReadyH.nil)
      case' refine_1 =>
        go_simp
        refine hK.out _ _ HS.out (fun _ => ?_)
        clear hK K'
        refine wpAnyH_ready (rs := [13]) (by kernel_rfl) (by simp) ?_
        refine AllReadyH.cons rfl (fun K' hK => ?_) AllReadyH.nil
        go_simp
      case' refine_2 =>
        go_simp
        refine hK.out _ _ (HSA _).out (fun _ => ?_)
        clear hK K'
        refine wpAnyH_ready (rs := [0]) (by kernel_rfl) (by simp) ?_
        refine AllReadyH.cons rfl (fun K' hK => ?_) AllReadyH.nil
        go_simp
      all_goals
        refine hK.out _ _ (HSA _).out (fun _ => ?_)
        clear hK K'
        refine wpAnyH_ready (rs := [14]) (by kernel_rfl) (by simp) ?_
        refine AllReadyH.cons rfl (fun K' hK => ?_) AllReadyH.nil
        refine step_app rfl _ _ 63 rfl 0 81 _ 5 56 Try.underlying63 info81 rfl (by omega) v (rs.length + ns.length) (recCells (rs ++ ns)) rfl (hrowA _) (some ⟨W.heap.size, 0, none⟩) 1 1 (Rec.cells ⟨lst, m, some ⟨b, lo, none⟩, m, m, none, true⟩) rfl rfl (fun h => by cases h) ?_ ?_ (by unfold maxLen; omega) (by omega) (Nat.zero_le _) ?_
        · exact new_cells W ⟨lst, m, some ⟨b, lo, none⟩, m, m, none, true⟩
        · exact rec_one _
        intro a' cap' w2 hown2 hgr2 hob2
        obtain ⟨d0, d2, dR, fin⟩ := leaf_step (x := ⟨j, hj⟩) (lcap := m) (r := ⟨lst, m, some ⟨b, lo, none⟩, m, m, none, true⟩) (v' := .slice a' (rs.length + ns.length + 1) cap') (B := w0.heap.size) HG.out b1 b2 b3 b4 b0 hrow hv HLEN.out HKK.out hbel.out hRp.out HPS.out.symm hpl1.1 hpl1.2 (by rw [← HMM'.out]; exact Nat.le_refl _) (by rw [hlst.out, HMM'.out]; rfl) hgr2
        have hne := row_box dR hpl1.1 d0 (by decide)
        have hcl2 : w2.cell? ⟨b, lo + m', none⟩ = some (.int .u64 lst) := by
          obtain ⟨b', o', hbo, _, hcc⟩ := dR.at hpl1.1
          cases hbo
          have := hcc m' (by rw [← HMM'.out]; omega)
          rw [this, hlst.out]
          have := hm''.out
          congr 2; congr 1; omega
        refine hK.out _ _ ⟨d2.cell, hcl2⟩ (fun _ => ?_)
        clear hK K'
        have hc02 := d0.cell
        have hf02 := d0.frozen
        refine wpAnyH_ready (rs := [15]) (by kernel_rfl) (by simp) ?_
        refine AllReadyH.cons rfl (fun K' hK => ?_) AllReadyH.nil
        go_simp
        refine hK.out _ _ ⟨?_, ?_⟩ (fun _ => ?_)
        · rw [World.cell?_setCell_far _ _ _ _ (by show w.heap.size ≠ w.heap.size + 1 + 1; omega)]; exact d2.cell
        · rw [World.cell?_setCell_far _ _ _ _ (by exact fun h => hne h.symm)]; exact hcl2
        refine wpAnyH_done (by kernel_rfl) ?_ _
        gi_wp2
        exact fin hown2 hob2
    case true =>
      gi_wp2_with (refine ⟨trivial, ?_⟩; gi_at_call 42; refine (CallsIn.inRound l (callsIn_wide.2 (clone42 b (o + s1) m m ps W hpl.out (by have := HMM.out; omega) hRp.out))).mono ?_; rintro e w1 ⟨hbel0, v1, rfl, hown1⟩; obtain ⟨lb, lo, lcap, rfl, hR1, hcapm⟩ := ownU_at hown1 hpl1.1; have hbel := hide hbel0; clear hbel0; rw [hpl.out])
      have e0 : Boxed w1 w.heap.size 63 v := (hbel.out.block _ b0.lt).trans b0
      have e1 : Boxed w1 (w.heap.size + 1) 37 (.slice (some ⟨b, o, none⟩) n cap) := (hbel.out.block _ b1.lt).trans b1
      have e2 : Boxed w1 (w.heap.size + 2) 4 (.bool true) := (hbel.out.block _ b2.lt).trans b2
      have e3 : Boxed w1 (w.heap.size + 3) 3 (.int .i64 n) := (hbel.out.block _ b3.lt).trans b3
      have e4 : Boxed w1 (w.heap.size + 4) 3 (.int .i64 64) := (hbel.out.block _ b4.lt).trans b4
      have hrow1 : w1.ownsRow 0 81 5 v (rs.length + ns.length) (recCells (rs ++ ns)) := hrow.kept (grown_of_below hbel.out none) (Classical.em _)
      have HMM' : Hid (m = ps.length) := hpl.out.symm
      have hm1 : 1 ≤ m ∧ m ≤ 64 := by rw [HMM'.out]; exact hpl1
      obtain ⟨lst, hlst⟩ : ∃ lst, Hid (lst = el ps (m - 1)) := ⟨_, rfl⟩
      have hcl : w1.cell? ⟨lb, lo + (m - 1), none⟩ = some (.int .u64 lst) := by
        obtain ⟨b', o', hbo, _, hcc⟩ := hR1.out.at (by rw [← HMM'.out]; omega)
        cases hbo
        rw [hlst.out]; exact hcc (m - 1) (by rw [← HMM'.out]; omega)
      obtain ⟨m', hm'⟩ : ∃ m', m - 1 = m' := ⟨_, rfl⟩
      have hm'' : Hid (m' + 1 = m) := by show _ = _; omega
      rw [hm'] at hcl
      have hsub : Hid ((m : Int) - 1 = (m' : Nat)) := by show _ = _; omega
      clear hm'
      refine region_round (fun W' => W'.cell? ⟨w.heap.size + 1 + 1, 0, none⟩ = some (.bool true) ∧ W'.cell? ⟨lb, lo + m', none⟩ = some (.int .u64 lst)) (by kernel_rfl) (by rintro ⟨_, _, h⟩; exact h) (by kernel_rfl) ?_
      have HS : Hid ((w1.drew).cell? ⟨w.heap.size + 1 + 1, 0, none⟩ = some (.bool true) ∧ (w1.drew).cell? ⟨lb, lo + m', none⟩ = some (.int .u64 lst)) := ⟨e2.cell, hcl⟩
      refine wpAnyH_take (i := 1) (v := ?_) rfl (by kernel_rfl) (by kernel_rfl) (by kernel_rfl) (fun _ _ _ h => h) (Or.inl ⟨by rfl, ?_⟩) HS.out ?_
      rotate_left
      · rintro w ⟨y5, yl⟩; go_simp; with_reducible rfl
      refine wpAnyH_take (i := 2) (v := ?_) rfl (by kernel_rfl) (by kernel_rfl) (by kernel_rfl) (fun _ _ _ h => h) (Or.inl ⟨by rfl, ?_⟩) HS.out ?_
      rotate_left
      · rintro w ⟨y5, yl⟩; go_simp; with_reducible rfl
      refine wpAnyH_take (i := 3) (v := .int .i64 (m : Nat)) rfl (by kernel_rfl) (by kernel_rfl) (by kernel_rfl) (fun _ _ _ h => h) (Or.inl ⟨by rfl, ?_⟩) HS.out ?_
      · rintro w ⟨y5, yl⟩; go_simp
      have hbd : m' < m := by have := hm''.out; omega
      refine wpAnyH_take (i := 4) (v := .int .i64 (m' : Nat)) rfl (by kernel_rfl) (by kernel_rfl) (by kernel_rfl) (fun _ _ _ h => h) (Or.inl ⟨by rfl, ?_⟩) HS.out ?_
      · rintro w ⟨y5, yl⟩; go_simp; rw [hsub.out]; exact IntWalk.i64_in _ (by omega)
      refine wpAnyH_take (i := 5) (v := .pointer (some ⟨lb, lo + m', none⟩)) rfl (by kernel_rfl) (by kernel_rfl) (by kernel_rfl) (fun _ _ _ h => h) (Or.inl ⟨by rfl, ?_⟩) HS.out ?_
      · rintro w ⟨y5, yl⟩; go_simp
      refine wpAnyH_take (i := 6) (v := .int .u64 lst) rfl (by kernel_rfl) (by kernel_rfl) (by kernel_rfl) (fun _ _ _ h => h) (Or.inl ⟨by rfl, ?_⟩) HS.out ?_
      · rintro w ⟨y5, yl⟩; go_simp
      refine wpAnyH_take (i := 7) (v := ?_) rfl (by kernel_rfl) (by kernel_rfl) (by kernel_rfl) (fun _ _ _ h => h) (Or.inl ⟨by rfl, ?_⟩) HS.out ?_
      rotate_left
      · rintro w ⟨y5, yl⟩; go_simp; with_reducible rfl
      refine wpAnyH_take (i := 8) (v := .int .i64 (m : Nat)) rfl (by kernel_rfl) (by kernel_rfl) (by kernel_rfl) (fun _ _ _ h => h) (Or.inl ⟨by rfl, ?_⟩) HS.out ?_
      · rintro w ⟨y5, yl⟩; go_simp
      refine wpAnyH_take (i := 9) (v := ?_) rfl (by kernel_rfl) (by kernel_rfl) (by kernel_rfl) (fun _ _ _ h => h) (Or.inl ⟨by rfl, ?_⟩) HS.out ?_
      rotate_left
      · rintro w ⟨y5, yl⟩; go_simp; with_reducible rfl
      refine wpAnyH_take (i := 10) (v := .bool true) rfl (by kernel_rfl) (by kernel_rfl) (by kernel_rfl) (fun _ _ _ h => h) (Or.inl ⟨by rfl, ?_⟩) HS.out ?_
      · rintro w ⟨y5, yl⟩; go_simp
      refine wpAnyH_take (i := 11) (v := ?_) rfl (by kernel_rfl) (by kernel_rfl) (by kernel_rfl) (fun _ _ _ h => h) (Or.inl ⟨by rfl, ?_⟩) HS.out ?_
      rotate_left
      · rintro w ⟨y5, yl⟩; go_simp; with_reducible rfl
      refine wpAnyH_take (i := 12) (v := ?_) rfl (by kernel_rfl) (by kernel_rfl) (by kernel_rfl) (fun _ _ _ h => h) (Or.inl ⟨by rfl, ?_⟩) HS.out ?_
      rotate_left
      · rintro w ⟨y5, yl⟩; go_simp; with_reducible rfl
      refine wpAnyH_ready (rs := [0, 13]) (by kernel_rfl) (by simp) ?_
      have hc0 := e0.cell
      have hltl : lb < w1.heap.size := World.block_lt_of_cell? w1 ⟨lb, lo + m', none⟩ hcl
      have HSA : ∀ o : Obj, Hid (((w1.alloc o).drew).cell? ⟨w.heap.size + 1 + 1, 0, none⟩ = some (.bool true) ∧ ((w1.alloc o).drew).cell? ⟨lb, lo + m', none⟩ = some (.int .u64 lst)) := fun o =>
        ⟨(Boxed.alloc (W := w1) e2 o).cell, (((Below.refl _ w1).alloc (Nat.le_refl _) o).cell (p := ⟨lb, lo + m', none⟩) hltl).trans hcl⟩
      have hcA : ∀ o : Obj, (w1.alloc o).cell? ⟨w.heap.size, 0, none⟩ = some v := fun o => (Boxed.alloc (W := w1) e0 o).cell
      have hrowA : ∀ o : Obj, ((w1.alloc o).drew).ownsRow 0 81 5 v (rs.length + ns.length) (recCells (rs ++ ns)) := fun o => hrow1.alloc o
      refine AllReadyH.cons rfl (fun K' hK => ?_) (AllReadyH.cons rfl (fun K' hK => ?_) AllReadyH.nil)
      case' refine_1 =>
        go_simp
        refine hK.out _ _ HS.out (fun _ => ?_)
        clear hK K'
        refine wpAnyH_ready (rs := [13]) (by kernel_rfl) (by simp) ?_
        refine AllReadyH.cons rfl (fun K' hK => ?_) AllReadyH.nil
        go_simp
      case' refine_2 =>
        go_simp
        refine hK.out _ _ (HSA _).out (fun _ => ?_)
        clear hK K'
        refine wpAnyH_ready (rs := [0]) (by kernel_rfl) (by simp) ?_
        refine AllReadyH.cons rfl (fun K' hK => ?_) AllReadyH.nil
        go_simp
      all_goals
        refine hK.out _ _ (HSA _).out (fun _ => ?_)
        clear hK K'
        refine wpAnyH_ready (rs := [14]) (by kernel_rfl) (by simp) ?_
        refine AllReadyH.cons rfl (fun K' hK => ?_) AllReadyH.nil
        refine step_app rfl _ _ 63 rfl 0 81 _ 5 56 Try.underlying63 info81 rfl (by omega) v (rs.length + ns.length) (recCells (rs ++ ns)) rfl (hrowA _) (some ⟨w1.heap.size, 0, none⟩) 1 1 (Rec.cells ⟨lst, m, some ⟨lb, lo, none⟩, m, lcap, none, false⟩) rfl rfl (fun h => by cases h) ?_ ?_ (by unfold maxLen; omega) (by omega) (Nat.zero_le _) ?_
        · exact new_cells w1 ⟨lst, m, some ⟨lb, lo, none⟩, m, lcap, none, false⟩
        · exact rec_one _
        intro a' cap' w2 hown2 hgr2 hob2
        obtain ⟨d0, d2, dR, fin⟩ := leaf_step (x := ⟨j, hj⟩) (lcap := lcap) (r := ⟨lst, m, some ⟨lb, lo, none⟩, m, lcap, none, false⟩) (v' := .slice a' (rs.length + ns.length + 1) cap') (B := w0.heap.size) HG.out b1 b2 b3 b4 b0 hrow hv HLEN.out HKK.out hbel.out hR1.out HPS.out.symm hpl1.1 hpl1.2 hcapm.out (by rw [hlst.out, HMM'.out]; rfl) hgr2
        have hne := row_box dR hpl1.1 d0 (by decide)
        have hcl2 : w2.cell? ⟨lb, lo + m', none⟩ = some (.int .u64 lst) := by
          obtain ⟨b', o', hbo, _, hcc⟩ := dR.at hpl1.1
          cases hbo
          have := hcc m' (by rw [← HMM'.out]; omega)
          rw [this, hlst.out]
          have := hm''.out
          congr 2; congr 1; omega
        refine hK.out _ _ ⟨d2.cell, hcl2⟩ (fun _ => ?_)
        clear hK K'
        have hc02 := d0.cell
        have hf02 := d0.frozen
        refine wpAnyH_ready (rs := [15]) (by kernel_rfl) (by simp) ?_
        refine AllReadyH.cons rfl (fun K' hK => ?_) AllReadyH.nil
        go_simp
        refine hK.out _ _ ⟨?_, ?_⟩ (fun _ => ?_)
        · rw [World.cell?_setCell_far _ _ _ _ (by show w.heap.size ≠ w.heap.size + 1 + 1; omega)]; exact d2.cell
        · rw [World.cell?_setCell_far _ _ _ _ (by exact fun h => hne h.symm)]; exact hcl2
        refine wpAnyH_done (by kernel_rfl) ?_ _
        gi_wp2
        exact fin hown2 hob2
  case done =>
    rintro D ys W hD rfl ⟨hg, b1, b2, b3, b4, v, ns, b0, hrow, hv, hlen', hkk⟩ hK
    have hc := b0.cell
    gi_wp2
    refine ⟨by simp, .inl ⟨_, _, rfl, run_takeDeferred hK, ?_⟩⟩
    have hgp := grownBy_putObj' W D (.deferred none)
    have hrp : ∀ r, some D = some r → ∃ o : Obj, W.heap[r]? = some o ∧ o.isCells = false := fun r e => by cases e; exact ⟨_, hK, rfl⟩
    refine ⟨_, results_tmp rfl _ _ _, ?_, v, ns, rfl, ?_, hv, ?_, ?_⟩
    · refine ⟨hgp.os.trans hg.os, hgp.tape.trans hg.tape, hgp.output.trans hg.output, Nat.le_trans hg.size hgp.size, fun j hj hjr => ?_⟩
      rw [hgp.block j (Nat.lt_of_lt_of_le hj hg.size) (fun e => by cases e; omega)]
      exact hg.block j hj hjr
    · rw [List.length_append]; exact ownsRow_putObj hrow _ hK rfl
    · rw [hlen', firsts_length, HK.out]
    · intro j hj
      rw [← HK.out] at hj ⊢
      obtain ⟨x, hx, hkr, hf⟩ := hkk j (by rw [firsts_length]; exact hj)
      rw [firsts_get k k (Nat.le_refl _) j hj] at hx
      cases hx
      exact ⟨hkr.k2 (k2_other hgp hrp), hf⟩
  case stop =>
    rintro D c pre W _ _ h _
    exact h.elim

end Go.Proofs.Qxb6613757a.T
