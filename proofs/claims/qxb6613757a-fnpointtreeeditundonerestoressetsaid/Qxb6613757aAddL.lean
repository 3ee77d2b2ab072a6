import Derived.Test.Qxb6613757aLeaf
import Derived.Deep.LoopGhost
/-
  addLeaves.
-/
namespace Go.Proofs.Qxb6613757a.T
open Go.RowKit Go.Shelf
set_option linter.unusedVariables false
set_option linter.unusedSimpArgs false

theorem arr70 : Try.prog.underlying 70 = some (.array (Try.prog.arrayLen 70) (Try.prog.elem 70)) := by kernel_rfl
theorem arr71 : Try.prog.underlying 71 = some (.array (Try.prog.arrayLen 71) (Try.prog.elem 71)) := by kernel_rfl
theorem arr68 : Try.prog.underlying 68 = some (.array (Try.prog.arrayLen 68) (Try.prog.elem 68)) := by kernel_rfl
theorem len70 : Try.prog.arrayLen 70 = 16 := by kernel_rfl
theorem len71 : Try.prog.arrayLen 71 = 16 := by kernel_rfl
theorem len68 : Try.prog.arrayLen 68 = 16 := by kernel_rfl
theorem run_size70 (w : World) : (sizeOf (Try.prog.elem 70)).run Try.prog w = .ok 1 w := by kernel_rfl
theorem run_size71 (w : World) : (sizeOf (Try.prog.elem 71)).run Try.prog w = .ok 1 w := by kernel_rfl
theorem run_size68 (w : World) : (sizeOf (Try.prog.elem 68)).run Try.prog w = .ok 1 w := by kernel_rfl
theorem slice70 (b o m : Nat) (hm : m ≤ 16) (w : World) : (Instr.sliceAt 70 (.pointer (some ⟨b, o, none⟩)) none (some (.int .i64 (m : Int))) none).run Try.prog w = .ok (.slice (some ⟨b, o, none⟩) m 16) w := by
  rw [run_sliceAt_array_h w 70 ⟨b, o, none⟩ arr70 .i64 (m : Int) (by omega) (by rw [len70]; omega), run_size70, len70]
  simp [slicedAt, sliced, Result.andThen, Addr.add]
theorem slice71 (b o m : Nat) (hm : m ≤ 16) (w : World) : (Instr.sliceAt 71 (.pointer (some ⟨b, o, none⟩)) none (some (.int .i64 (m : Int))) none).run Try.prog w = .ok (.slice (some ⟨b, o, none⟩) m 16) w := by
  rw [run_sliceAt_array_h w 71 ⟨b, o, none⟩ arr71 .i64 (m : Int) (by omega) (by rw [len71]; omega), run_size71, len71]
  simp [slicedAt, sliced, Result.andThen, Addr.add]
theorem slice68 (b o m : Nat) (hm : m ≤ 16) (w : World) : (Instr.sliceAt 68 (.pointer (some ⟨b, o, none⟩)) none (some (.int .i64 (m : Int))) none).run Try.prog w = .ok (.slice (some ⟨b, o, none⟩) m 16) w := by
  rw [run_sliceAt_array_h w 68 ⟨b, o, none⟩ arr68 .i64 (m : Int) (by omega) (by rw [len68]; omega), run_size68, len68]
  simp [slicedAt, sliced, Result.andThen, Addr.add]

theorem own_k2' {w w' : World} {v : Value} {base size n : Nat} {e : TypeId} {xs : List Value} (he : e ≠ 23 ∧ e ≠ 73) (h : w.ownsRow base e size v n xs) (hg : w.grownBy w' v.ownBlock) : K2 w w' :=
  K2.grown hg fun l hl cur t fr hb => by
    obtain ⟨c, hc⟩ := own_type h l hl
    rw [hc] at hb; cases hb; exact he

/-- what addLeaves hands back -/
def AddL (w : World) (v : Value) (ds : List Value) (L : List (List Int)) (e : Ending) (w' : World) : Prop := w.grownBy w' v.ownBlock ∧ ∃ (v' : Value) (vals : List Value), e = .returned v' ∧ w'.ownsRow 0 37 1 v' (ds ++ vals).length (ds ++ vals) ∧
  (v'.ownBlock = v.ownBlock ∨ ∃ g, v'.ownBlock = some g ∧ w.heap.size ≤ g) ∧ Leafs w' vals L

theorem step_appD {P : Program} {w : World} {ops : Array Oper} {o : Oper} {a : Act} {K : Act → World → Prop} {Q : Exit → Act → World → Prop} {E : Prop} (hgd : o.guard = none) (d : Tmp) (hdst : o.dst = some d) (s x : Operand) (t : TypeId)
    (ho : o.op = .call { callee := .builtin .append, args := #[s, x], argTypes := #[t, t] })
    (base : Nat) (e : TypeId) (z : Value) (size bytes : Nat) (ht : P.underlying t = some (.slice e)) (hinfo : (P.info? e).map (fun i => (i.zero, i.size, i.bytes)) = some (some z, size, bytes))
    (hzs : z.cells.size = size) (hsz : 0 < size) (v : Value) (n : Nat) (xs : List Value) (hs : a.eval s = v) (hown : w.ownsRow base e size v n xs)
    (ao : Option Addr) (m c : Nat) (news : List Value) (hx : a.eval x = .slice ao m c) (hl : news.length = m * size) (hnone : ao = none → m = 0) (hnews : ∀ ad, ao = some ad → ∀ j u, news[j]? = some u → w.cell? (ad.add j) = some u) (h1 : ∀ u ∈ news, u.oneCell' = true)
    (h63 : n + m ≤ maxLen) (hbytes : (n + m) * bytes ≤ 140737488355328) (hbase : base ≤ w.heap.size)
    (h : ∀ a' cap' w', w'.ownsRow base e size (.slice a' (n + m) cap') (n + m) (xs ++ news) → w.grownBy w' v.ownBlock → ((Value.slice a' (n + m) cap').ownBlock = v.ownBlock ∨ (Value.slice a' (n + m) cap').ownBlock = some w.heap.size) → K (a.put (some d) (.slice a' (n + m) cap')) w') :
    if Region.wanted o (yielded ops a.tmps) = true then Oper.wp P o a w K Q else E :=
  step_app hgd s x t ho base e z size bytes ht hinfo hzs hsz v n xs hs hown ao m c news hx hl hnone hnews h1 h63 hbytes hbase (by rw [hdst]; exact h)

set_option maxRecDepth 100000 in
set_option maxHeartbeats 2000000 in
theorem addl38_low (nb : Nat) (r : Rec) (L : List (List Int)) (v : Value) (ds : List Value) (w : World) (hk : KidRec w 1 r L) (hn : r.node = some ⟨nb, 0, none⟩) (hd : ds.length + L.length ≤ 1048576) (hown : w.ownsRow 0 37 1 v ds.length ds) :
    Calls Try.prog 38 #[.pointer (some ⟨nb, 0, none⟩), v] w fun e w' => AddL w v ds L e w' := by
  obtain ⟨nb', m, rs, Ls, hn', hrow, hm1, hm2, hm3, hm4, rfl, hkk, _, _⟩ := hk
  obtain rfl : nb = nb' := by rw [hn] at hn'; cases hn'; rfl
  obtain ⟨q0, q1, q2, q3, q4⟩ := node_cells hrow hm4 hkk
  obtain ⟨a, cap, rfl, hcap⟩ := ownsRow_shape hown
  have hsl := slice70 nb 34 m hm4
  have hlv := kids_leafs hm1 hm2 hkk
  have hll : Ls.flatten.length = m := by rw [← hlv.1]; simp [leafVals, hm1]
  have hnews : ∀ W : World, K2 w W → ∀ ad, some (⟨nb, 34, none⟩ : Addr) = some ad → ∀ j u, (leafVals rs)[j]? = some u → W.cell? (ad.add j) = some u := fun W k ad had j u hu => by
    cases had
    have hj : j < m := by have := (List.getElem?_eq_some_iff.1 hu).1; simpa [leafVals, hm1] using this
    have c := (node_cells (rowIs_k2 hrow k) hm4 (fun i hi => (hkk i hi).k2 k)).2.2.2.2 rfl j hj
    have e : (⟨nb, 34, none⟩ : Addr).add j = ⟨nb, 34 + j, none⟩ := by simp [Addr.add]
    rw [e, c, ← hu]
    simp [leafVals, rc, show j < rs.length by omega]
  have hone : ∀ u ∈ leafVals rs, u.oneCell' = true := fun u hu => by
    obtain ⟨r, _, rfl⟩ := List.mem_map.1 hu; rfl
  have hlen : (leafVals rs).length = m * 1 := by simp [leafVals, hm1]
  have HQ0 : Hid (∀ W : World, K2 w W → W.cell? ⟨nb, 0, none⟩ = some (.int .i64 m)) := fun W k => (node_cells (rowIs_k2 hrow k) hm4 (fun i hi => (hkk i hi).k2 k)).1
  have HN := hide hnews
  have HO := hide hone
  have HL := hide hlen
  have HLV := hide hlv
  have HLL := hide hll
  have HOWN := hide hown
  have HD : Hid (ds.length + m ≤ 1048576) := by rw [← hll]; exact hd
  have HKO : Hid (∀ W' : World, w.grownBy W' (Value.slice a ds.length cap).ownBlock → K2 w W') := fun W' hg => own_k2' ⟨by decide, by decide⟩ hown hg
  clear hnews hone hlen hlv hll hown hd hkk hm1 hm2 hrow q2 q3 q4 hn hn'
  have hdr : ∀ W', w.drew.grownBy W' (Value.slice a ds.length cap).ownBlock → w.grownBy W' (Value.slice a ds.length cap).ownBlock := fun W' hg => ⟨hg.os, hg.tape, hg.output, hg.size, hg.block⟩
  go_enter Try.func38, Try.ntmps38
  go_wp2
  go_region_held_law (fun w' => w'.cell? ⟨nb, 0, none⟩ = some (.int .i64 m)) (first | exact q0 | exact HQ0.out _ hk2)
    (first | (refine step_appD rfl _ rfl _ _ 48 rfl 0 37 _ 1 24 Try.underlying48 info37 rfl (by omega) (.slice a ds.length cap) ds.length ds rfl (w := w.drew) HOWN.out (some ⟨nb, 34, none⟩) m _ (leafVals rs) rfl HL.out (fun h => by cases h) (HN.out _ (K2.drew w)) HO.out (by have := HD.out; unfold maxLen; omega) (by have := HD.out; omega) (Nat.zero_le _) ?_
              intro a' cap' w2 hown2 hgr2 hob2
              have hk2 : K2 w w2 := HKO.out _ (hdr _ hgr2)
              have HOWN2 := hide hown2
              have HGR2 := hide hgr2
              have HOB2 := hide hob2
              clear hown2 hgr2 hob2))
  go_wp2
  go_ret
  refine ⟨hdr _ HGR2.out, .slice a' (ds.length + m) cap', leafVals rs, rfl, ?_, ?_, HLV.out.k2 hk2⟩
  · have e : (ds ++ leafVals rs).length = ds.length + m := by rw [List.length_append, HL.out, Nat.mul_one]
    rw [e]
    exact HOWN2.out
  · rcases HOB2.out with h | h
    · exact .inl h
    · exact .inr ⟨_, h, Nat.le_refl _⟩

theorem own_dn {w : World} {base size n : Nat} {e : TypeId} {v : Value} {xs : List Value} (h : w.ownsRow base e size v n xs) (q : Nat) : (w.drewN q).ownsRow base e size v n xs := h
/-- between two children -/
def AL (w : World) (v0 : Value) (ds : List Value) (Ls : List (List (List Int))) (m : Nat) (gk : Nat) (s1 s30 : Value) (wr : World) : Prop := ∃ (i : Nat) (vals : List Value), s30 = .int .i64 i ∧ i ≤ m ∧ m - i ≤ gk ∧ wr.ownsRow 0 37 1 s1 (ds ++ vals).length (ds ++ vals) ∧ w.grownBy wr v0.ownBlock ∧
  (s1.ownBlock = v0.ownBlock ∨ ∃ g, s1.ownBlock = some g ∧ w.heap.size ≤ g) ∧ Leafs wr vals (Ls.take i).flatten ∧ K2 w wr

theorem grown_trans {a b c : World} {r r' : Option Nat} (h : a.grownBy b r) (k : b.grownBy c r') (hr : r' = r ∨ ∃ g, r' = some g ∧ a.heap.size ≤ g) : a.grownBy c r := by
  refine ⟨k.os.trans h.os, k.tape.trans h.tape, k.output.trans h.output, Nat.le_trans h.size k.size, fun j hj hjr => ?_⟩
  rw [k.block j (Nat.lt_of_lt_of_le hj h.size) ?_]
  · exact h.block j hj hjr
  · rcases hr with rfl | ⟨g, rfl, hg⟩
    · exact hjr
    · intro e; cases e; omega

theorem AL.step {w wr w2 : World} {v0 s1 v2 : Value} {ds vals vals2 : List Value} {Ls : List (List (List Int))} {m i : Nat} (hi : i < m) (hL : Ls.length = m) (hown : wr.ownsRow 0 37 1 s1 (ds ++ vals).length (ds ++ vals)) (hg : w.grownBy wr v0.ownBlock) (hb : s1.ownBlock = v0.ownBlock ∨ ∃ g, s1.ownBlock = some g ∧ w.heap.size ≤ g)
    (hl : Leafs wr vals (Ls.take i).flatten) (hk : K2 w wr) (hg2 : wr.grownBy w2 s1.ownBlock) (hown2 : w2.ownsRow 0 37 1 v2 (ds ++ vals ++ vals2).length (ds ++ vals ++ vals2)) (hb2 : v2.ownBlock = s1.ownBlock ∨ ∃ g, v2.ownBlock = some g ∧ wr.heap.size ≤ g) (hl2 : Leafs w2 vals2 (lv Ls i)) :
    AL w v0 ds Ls m (m - (i + 1)) v2 (.int .i64 ((i + 1 : Nat) : Int)) w2 := by
  have k2 := own_k2' ⟨by decide, by decide⟩ hown hg2
  have e : (Ls.take (i + 1)).flatten = (Ls.take i).flatten ++ lv Ls i := by
    rw [List.take_succ_eq_append_getElem (by omega), List.flatten_append]
    simp [lv, show i < Ls.length by omega]
  refine ⟨i + 1, vals ++ vals2, rfl, hi, Nat.le_refl _, by rw [← List.append_assoc]; exact hown2, grown_trans hg hg2 hb, ?_, by rw [e]; exact (hl.k2 k2).append hl2, hk.trans k2⟩
  rcases hb2 with h | ⟨g, h, hgg⟩
  · rw [h]; exact hb
  · exact .inr ⟨g, h, Nat.le_trans hg.size hgg⟩

set_option maxRecDepth 100000 in
set_option maxHeartbeats 2000000 in
theorem addl38_up (h : Nat) (ih : Hid (∀ (nb : Nat) (r : Rec) (L : List (List Int)) (v : Value) (ds : List Value) (w : World), KidRec w (h + 1) r L → r.node = some ⟨nb, 0, none⟩ → ds.length + L.length ≤ 1048576 → w.ownsRow 0 37 1 v ds.length ds →
      Calls Try.prog 38 #[.pointer (some ⟨nb, 0, none⟩), v] w fun e w' => AddL w v ds L e w'))
    (nb : Nat) (r : Rec) (L : List (List Int)) (v : Value) (ds : List Value) (w : World) (hk : KidRec w (h + 2) r L) (hn : r.node = some ⟨nb, 0, none⟩) (hd : ds.length + L.length ≤ 1048576) (hown : w.ownsRow 0 37 1 v ds.length ds) :
    Calls Try.prog 38 #[.pointer (some ⟨nb, 0, none⟩), v] w fun e w' => AddL w v ds L e w' := by
    obtain ⟨nb', m, rs, Ls, hn', hrow, hm1, hm2, hm3, hm4, rfl, hkk, _, _⟩ := hk
    obtain rfl : nb = nb' := by rw [hn] at hn'; cases hn'; rfl
    obtain ⟨q0, q1, q2, q3, q4⟩ := node_cells hrow hm4 hkk
    have e1 : ((h + 1 == 0) : Bool) = false := rfl
    rw [e1] at q1
    obtain ⟨a, cap, rfl, hcap⟩ := ownsRow_shape hown
    have hsl := slice71 nb 50 m hm4
    have HSTEP : Hid (∀ i, i < m → ∃ nb2, (rc rs i).node = some ⟨nb2, 0, none⟩ ∧ (∀ W : World, K2 w W → W.cell? ⟨nb, 50 + i, none⟩ = some (.pointer (some ⟨nb2, 0, none⟩)) ∧ KidRec W (h + 1) (rc rs i) (lv Ls i))) := fun i hi => by
      have hki := hkk i hi
      obtain ⟨nb2, _, _, _, hnode, _⟩ := hki
      refine ⟨nb2, hnode, fun W k => ⟨?_, (hkk i hi).k2 k⟩⟩
      have := ((node_cells (rowIs_k2 hrow k) hm4 (fun i hi => (hkk i hi).k2 k)).2.2.2.1 (by omega) i hi).2
      rw [hnode] at this
      exact this
    have HLEN : Hid (∀ i, i < m → ((Ls.take i).flatten).length + (lv Ls i).length ≤ Ls.flatten.length) := fun i hi => by
      have e : Ls.flatten = (Ls.take i).flatten ++ (lv Ls i ++ (Ls.drop (i + 1)).flatten) := by
        conv => lhs; rw [← List.take_append_drop i Ls]
        rw [List.flatten_append, List.drop_eq_getElem_cons (by omega), List.flatten_cons]
        simp [lv, show i < Ls.length by omega]
      rw [e, List.length_append, List.length_append]
      omega
    have hA : Hid (∀ q, AL w (.slice a ds.length cap) ds Ls m m (.slice a ds.length cap) (.int .i64 0) (w.drewN q)) := fun q => ⟨0, [], rfl, Nat.zero_le _, Nat.le_refl _, own_dn (by simpa using hown) q, ⟨rfl, rfl, rfl, Nat.le_refl _, fun _ _ _ => rfl⟩, .inl rfl, ⟨rfl, fun i hi => by simp at hi⟩, fun _ _ _ _ _ h => h⟩
    have HALL : Hid (Ls.take m = Ls) := List.take_of_length_le (by omega)
    have HD := hide hd
    have HM2 := hide hm2
    clear hown hd hkk hm1 hrow q2 q3 q4 hn hn' hm2
    go_enter Try.func38, Try.ntmps38
    go_wp2
    go_quiet (fail)
    go_wp2
    go_loopg [1, 30] m (fun gk s1 s30 wr => AL w (.slice a ds.length cap) ds Ls m gk s1 s30 wr)
    case atStart => exact hA.out _
    case round =>
      obtain ⟨i, vals, rfl, him, hgk, hown, hg, hb, hl, hk2⟩ := hrel
      obtain ⟨D, hDD⟩ : ∃ D, D = ds ++ vals := ⟨_, rfl⟩
      have hown' := hown
      rw [← hDD] at hown'
      obtain ⟨a1, cap1, rfl, hc1⟩ := ownsRow_shape hown'
      have hvl : D.length = ds.length + (Ls.take i).flatten.length := by rw [hDD, List.length_append, hl.1]
      have HOWND := hide hown'
      have HDD := hide hDD
      clear hown' hDD
      have HOWN := hide hown
      have HG := hide hg
      have HB := hide hb
      have HL := hide hl
      have HK2 := hide hk2
      have HVL := hide hvl
      clear hown hg hb hl hk2 hvl hA
      by_cases hlt : i < m
      · obtain ⟨nb2, hnode, hrest⟩ := HSTEP.out i hlt
        obtain ⟨hcell, hkid⟩ := hrest wr HK2.out
        have HNODE := hide hnode
        have HKID := hide hkid
        have HLE : Hid (D.length + (lv Ls i).length ≤ 1048576) := by show _ ≤ _; have h1 := HVL.out; have h2 := HLEN.out i hlt; have h3 := HD.out; omega
        clear hrest hnode hkid
        go_wp2_with (first
          | (go_at_call 38
             refine (ih.out nb2 (rc rs i) (lv Ls i) _ D wr HKID.out HNODE.out HLE.out HOWND.out).mono ?_
             rintro e w2 ⟨hg2, v2, vals2, rfl, hown2, hb2, hl2⟩
             rw [HDD.out] at hown2
             have HR := hide (AL.step hlt HM2.out HOWN.out HG.out HB.out HL.out HK2.out hg2 hown2 hb2 hl2)
             clear hg2 hown2 hb2 hl2))
        go_roundg (m - (i + 1))
        case rel => exact HR.out
        case measure => omega
      · obtain rfl : i = m := by omega
        go_wp2
        go_ret
        refine ⟨HG.out, .slice a1 D.length cap1, vals, rfl, HOWN.out, HB.out, ?_⟩
        have := HL.out
        rw [HALL.out] at this
        exact this

theorem addl38 : ∀ (h nb : Nat) (r : Rec) (L : List (List Int)) (v : Value) (ds : List Value) (w : World), KidRec w (h + 1) r L → r.node = some ⟨nb, 0, none⟩ → ds.length + L.length ≤ 1048576 → w.ownsRow 0 37 1 v ds.length ds →
    Calls Try.prog 38 #[.pointer (some ⟨nb, 0, none⟩), v] w fun e w' => AddL w v ds L e w'
  | 0 => addl38_low
  | h + 1 => addl38_up h (addl38 h)

end Go.Proofs.Qxb6613757a.T
