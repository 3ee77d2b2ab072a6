import Derived.Test.Qxb6613757aJd
/-
  joined, two nodes: the walk.
-/
namespace Go.Proofs.Qxb6613757a.T
open Go.RowKit Go.Shelf
set_option linter.unusedVariables false
set_option linter.unusedSimpArgs false

set_option maxRecDepth 100000 in
set_option maxHeartbeats 4000000 in
theorem joined55_node (h : Nat) (HJ : Hid (JoinC h)) : JoinC (h + 1) := by
  intro a b La Lb w ha hb hlen
  obtain ⟨na, ma, rsa, Lsa, hna, hda, hLa⟩ := ha.nd
  obtain ⟨nb, mb, rsb, Lsb, hnb, hdb, hLb⟩ := hb.nd
  clear ha hb
  obtain ⟨alast, acount, ala, all, alc, anode, afresh⟩ := a
  obtain ⟨blast, bcount, bla, bll, blc, bnode, bfresh⟩ := b
  simp only at hna hnb
  subst hna
  subst hnb
  obtain ⟨pb, hpbE⟩ : ∃ pb, w.heap.size + 1 + 1 = pb := ⟨_, rfl⟩
  have hEa : ents Lsa = La.flatten := by rw [hLa]; rfl
  have hEb : ents Lsb = Lb.flatten := by rw [hLb]; rfl
  have HQ : Hid (∀ q, q < 2 → ∃ nq m rsq Lsq, (∀ wr : World, wr.heap[pb]? = some (.cells #[.pointer (some ⟨na, 0, none⟩), .pointer (some ⟨nb, 0, none⟩)] 42 (0, 0)) → wr.cell? ⟨pb, q, none⟩ = some (.pointer (some ⟨nq, 0, none⟩))) ∧ Nd w h nq m rsq Lsq ∧ ents Lsq = (if q = 0 then La.flatten else Lb.flatten) ∧ (ents Lsq).length ≤ 1048576) := fun q hq => by
    match q, hq with
    | 0, _ => exact ⟨na, ma, rsa, Lsa, fun wr hp => cell_of hp rfl, hda, by rw [hEa]; rfl, by rw [hEa]; omega⟩
    | 1, _ => exact ⟨nb, mb, rsb, Lsb, fun wr hp => cell_of hp rfl, hdb, by rw [hEb]; rfl, by rw [hEb]; omega⟩
  obtain ⟨W0, hW0⟩ : ∃ W0, ((w.alloc (.cells #[.int .u64 alast, .int .i64 acount, .slice ala all alc, .pointer (some ⟨na, 0, none⟩), .bool afresh] 81)).alloc (.cells #[.int .u64 blast, .int .i64 bcount, .slice bla bll blc, .pointer (some ⟨nb, 0, none⟩), .bool bfresh] 81)).alloc (.cells #[.pointer (some ⟨na, 0, none⟩), .pointer (some ⟨nb, 0, none⟩)] 42) = W0 := ⟨_, rfl⟩
  have hB0 : Below w.heap.size w W0 := by
    rw [← hW0]
    exact (((Below.refl _ w).alloc (Nat.le_refl _) _).alloc (by simp) _).alloc (by simp; omega) _
  have hp0 : W0.heap[pb]? = some (.cells #[.pointer (some ⟨na, 0, none⟩), .pointer (some ⟨nb, 0, none⟩)] 42 (0, 0)) := by
    have := World.alloc_heap_new ((w.alloc (.cells #[.int .u64 alast, .int .i64 acount, .slice ala all alc, .pointer (some ⟨na, 0, none⟩), .bool afresh] 81)).alloc (.cells #[.int .u64 blast, .int .i64 bcount, .slice bla bll blc, .pointer (some ⟨nb, 0, none⟩), .bool bfresh] 81)) (.cells #[.pointer (some ⟨na, 0, none⟩), .pointer (some ⟨nb, 0, none⟩)] 42)
    rw [hW0, World.size_alloc, World.size_alloc, hpbE] at this
    exact this
  have HO : Hid (JO w h pb na nb La.flatten Lb.flatten 2 (.slice none 0 0) (.int .i64 0) W0) := ⟨0, [], [], rfl, by omega, by omega, World.ownsRow_nil _ _ _ _, Kids.nil _ _, rfl, by simp, by simp, hB0, hp0⟩
  have HLEN := hide hlen
  clear hlen hda hdb hLa hLb hEa hEb hB0 hp0
  unfold Rec.val
  go_enter Try.func55, Try.ntmps55
  go_wp2
  clear hW0 hpbE
  go_loopg [5, 26] 2 (fun gk s5 s26 wr => JO w h pb na nb La.flatten Lb.flatten gk s5 s26 wr)
  case atStart => exact HO.out
  case round =>
    obtain ⟨q, rs0, Ls0, rfl, hq2, hgk, hown, hk0, hE0, hql, hqu, hB, hpb⟩ := hrel
    clear HO
    obtain ⟨av, cv, rfl, hcv⟩ := ownsRow_shape hown
    by_cases hq : q < 2
    · obtain ⟨nq, m, rsq, Lsq, hcell, hnd, hents, hMq⟩ := HQ.out q hq
      have hcq := hcell wr hpb
      have hplt : pb < wr.heap.size := (Array.getElem?_eq_some_iff.1 hpb).1
      have hndr := hnd.k2 (K2.below (hB.mono (Nat.le_refl _)))
      obtain ⟨n1, n2, n3, n4, n5, n6⟩ := hndr
      have hsize := (node_cells n1 n5 n6).1
      have HI : Hid (JI w h pb na nb m rs0 Ls0 Lsq m (.slice av rs0.length cv) (.int .i64 0) wr) := ⟨0, [], rfl, Nat.zero_le _, Nat.le_refl _, rfl, by simpa using hown, hk0, Kids.nil _ _, hB, K2.below (hB.mono (Nat.le_refl _)), hpb⟩
      have HND := hide hnd
      have HE0 := hide hE0
      have HEQ := hide hents
      have HMQ := hide hMq
      have HN3 := hide n3
      clear hown hk0 hE0 hB hpb hcell hnd hents hMq n1 n2 n3 n6
      have hrl : rs0.length ≤ 32 := by omega
      have hqi : (q : Int) < 2 := by omega
      go_wp2
      go_loopg [5, 34] m (fun gk s5 s34 wr => JI w h pb na nb m rs0 Ls0 Lsq gk s5 s34 wr)
      case atStart => exact HI.out
      case round =>
        obtain ⟨i, R, rfl, him, hgi, hR, hown, hk0, hkR, hB, hK2, hpb⟩ := hrel
        obtain ⟨D, hD⟩ : ∃ D, D = rs0 ++ R := ⟨_, rfl⟩
        have hDl : D.length = rs0.length + i := by rw [hD, List.length_append, hR]
        rw [← hD] at hown
        obtain ⟨av1, cv1, rfl, hcv1⟩ := ownsRow_shape hown
        clear HI hsize hcq hplt
        by_cases hi : i < m
        · obtain ⟨c, hcf, hcc⟩ := HND.out.child HMQ.out hi
          have HC : Hid (Calls Try.prog 45 #[.pointer (some ⟨nq, 0, none⟩), .int .i64 (i : Nat)] wr fun e w' => Below wr.heap.size wr w' ∧ e = .returned c.val) := (hcc wr hK2).1
          have HCK : Hid (KidRec wr h { c with fresh := true } (lv Lsq i)) := (hcc wr hK2).2.freshen
          have HOWN := hide hown
          have HK0 := hide hk0
          have HKR := hide hkR
          have HB := hide hB
          have HK2 := hide hK2
          have HPB := hide hpb
          have HD := hide hD
          have HR := hide hR
          have hDb : D.length ≤ 64 := by omega
          have HDL := hide hDl
          clear hown hk0 hkR hB hK2 hpb hD hR hcc hcf hDl
          obtain ⟨clast, ccount, cla, cll, clc, cnode, cfresh⟩ := c
          unfold Rec.val at HC
          simp only at HC HCK
          go_wp2_with (first
            | (go_at_call 45; refine HC.out.mono ?_; rintro e w1 ⟨hB1, rfl⟩
               have HB5 : Hid (∀ o1 o2 : Obj, Below wr.heap.size wr ((w1.alloc o1).alloc o2)) := fun o1 o2 => (hB1.alloc hB1.size o1).alloc (Nat.le_trans hB1.size (by simp)) o2
               have HRA : Hid (∀ o1 o2 : Obj, ((w1.alloc o1).alloc o2).ownsRow w.heap.size 81 5 (.slice av1 D.length cv1) D.length (recCells D)) := fun o1 o2 => ((HOWN.out.kept (grown_of_below hB1 none) (Classical.em _)).alloc o1).alloc o2
               have HSZ : Hid (w.heap.size ≤ w1.heap.size) := Nat.le_trans HB.out.size hB1.size
               have HNW : Hid (∀ (o1 : Obj) (ad : Addr), some (⟨w1.heap.size + 1, 0, none⟩ : Addr) = some ad → ∀ (j : Nat) (y : Value), (Rec.cells ⟨clast, ccount, cla, cll, clc, cnode, true⟩)[j]? = some y → ((w1.alloc o1).alloc (.cells #[.int .u64 clast, .int .i64 ccount, .slice cla cll clc, .pointer cnode, .bool true] 81)).cell? (ad.add j) = some y) := fun o1 => by
                 have := new_cells' (w1.alloc o1) ⟨clast, ccount, cla, cll, clc, cnode, true⟩
                 rw [World.size_alloc] at this
                 exact this
               clear hB1)
            | (at_builtin
               refine wpList_app rfl _ _ 63 rfl w.heap.size 81 _ 5 56 Try.underlying63 info81 rfl (by omega) (.slice av1 D.length cv1) D.length (recCells D) rfl (HRA.out _ _) (some ⟨w1.heap.size + 1, 0, none⟩) 1 1 (Rec.cells ⟨clast, ccount, cla, cll, clc, cnode, true⟩) rfl rfl (fun h => by cases h) (HNW.out _) (rec_one _) (by unfold maxLen; omega) (by omega) (by have := HSZ.out; simp; omega) ?_
               intro a' cap' w2 hown2 hgr2 hob2
               have HFIN : Hid (JI w h pb na nb m rs0 Ls0 Lsq (m - (i + 1)) (.slice a' (D.length + 1) cap') (.int .i64 ((i + 1 : Nat) : Int)) w2) :=
                 JI.step (c := ⟨clast, ccount, cla, cll, clc, cnode, true⟩) hi HN3.out HR.out (by rw [← HD.out]; exact HOWN.out) HK0.out HKR.out HB.out HK2.out HPB.out (HB5.out _ _) hgr2 (by rw [← HD.out]) (by rw [← HD.out]; exact hown2) HCK.out
               clear hown2 hgr2 hob2))
          go_roundg (m - (i + 1))
          case rel => exact HFIN.out
          case measure => omega
        · obtain rfl : i = m := by omega
          have HJO : Hid (JO w h pb na nb La.flatten Lb.flatten (2 - (q + 1)) (.slice av1 D.length cv1) (.int .i64 ((q + 1 : Nat) : Int)) wr) :=
            JI.done n4 n5 HN3.out hR (by rw [← hD]; exact hown) hk0 hkR hB hpb hq hql hqu HE0.out HEQ.out
          clear hown hk0 hkR hB hK2 hpb hD hR hDl
          go_wp2
          go_roundg (2 - (q + 1))
          case rel => exact HJO.out
          case measure => omega
    · obtain rfl : q = 2 := by omega
      obtain ⟨g, cv', hv⟩ := own_some hown (by omega)
      cases hv
      have hE : ents Ls0 = La.flatten ++ Lb.flatten := hE0
      have hM : (ents Ls0).length ≤ 1048576 := by rw [hE, List.length_append]; exact HLEN.out
      have hcapm := (own_shape81 (own_zero hown)).2.1
      have HJS : Hid (Calls Try.prog 48 #[.slice (some ⟨g, 0, none⟩) rs0.length cv] wr fun e w' => JoinS wr h g 0 rs0.length cv cv [] (ents Ls0) e w') := by
        have := joins48 h HJ g 0 rs0.length cv cv [] rs0 Ls0 wr rfl rfl (by omega) hcv hcapm (by simpa using own_zero hown) hk0 hM
        rw [Nat.zero_mul] at this
        exact this
      have hgw : w.heap.size ≤ g := (hown.lt g rfl).1
      have HB := hide hB
      have HE := hide hE
      have HM := hide hM
      have hrl : rs0.length ≤ 32 := by omega
      clear hown hk0 hE0 hE hM hB hpb
      go_wp2_with (first
        | (go_at_call 48; refine HJS.out.mono ?_; rintro e w1 ⟨hg1, n1, rs1, Ls1, rfl, hl1, hn1, hn2, hown1, hk1, hE1⟩
           have hown1' : w1.ownsRow 0 81 5 (.slice (some ⟨g, 0, none⟩) n1 cv) n1 (recCells rs1) := by simpa using hown1
           have HP : Hid (Calls Try.prog 43 #[.slice none 0 0, .slice (some ⟨g, 0, none⟩) n1 cv] w1 fun e w' => Below w1.heap.size w1 w' ∧ ∃ (v : Value) (ps : List Rec), e = .returned v ∧ ps.length = npc n1 16 ∧ w'.ownsRow w1.heap.size 81 5 v ps.length (recCells ps) ∧
               ∀ i, i < npc n1 16 → KidRec w' (h + 1) (rc ps i) (piece Ls1 (npc n1 16) i).flatten ∧ (rc ps i).fresh = true ∧ SizeIs w' (rc ps i) (cutAt n1 (npc n1 16) (i + 1) - cutAt n1 (npc n1 16) i)) :=
             callsIn_wide.1 (parentsB g 0 n1 cv h (some ⟨g, 0, none⟩) rs1 Ls1 w1 hl1 (fun _ => rfl) (fun _ => by
               obtain ⟨cur, hcu⟩ := own_type hown1' g rfl
               exact (Array.getElem?_eq_some_iff.1 hcu).1) (own_shape81 hown1').1 (by omega) (by
               have := recs_own hown1' hl1 0 n1 (by omega)
               rw [List.drop_zero, List.take_of_length_le (by omega), Nat.zero_mul] at this
               exact this) hk1 (by rw [hE1]; exact HM.out))
           have HB1 : Hid (Below w.heap.size w w1) := HB.out.grown hg1 HB.out.size (fun l e => by cases e; exact hgw)
           have HLL : Hid (Ls1.length = n1) := by show _ = _; rw [← hk1.1, hl1]
           have HE1 : Hid (ents Ls1 = La.flatten ++ Lb.flatten) := hE1.trans HE.out
           have hn32 : n1 ≤ 32 := by omega
           clear hg1 hl1 hown1 hk1 hE1 hown1')
        | (go_at_call 43; refine HP.out.mono ?_; rintro e w2 ⟨hB2, v, ps, rfl, hps, hrow2, hk2⟩
           have HFIN : Hid (Joined w (h + 1) La Lb (.returned v) w2) := node_joined HLL.out hn1 hn32 HE1.out (HB1.out.trans (hB2.mono HB1.out.size)) (own_up (own_zero hrow2) (fun g' hg' => Nat.le_trans HB1.out.size (hrow2.lt g' hg').1)) hps hk2
           clear hB2 hps hrow2 hk2))
      go_ret
      exact HFIN.out

theorem joinC : ∀ h, JoinC h
  | 0 => joined55_leaf
  | h + 1 => joined55_node h (joinC h)

end Go.Proofs.Qxb6613757a.T
