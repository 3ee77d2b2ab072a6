import Derived.Test.Qxb6613757aEd2
/-
  treeNode.edited: the walk.
-/
namespace Go.Proofs.Qxb6613757a.T
open Go.RowKit Go.Shelf
set_option linter.unusedVariables false
set_option linter.unusedSimpArgs false

/-- what cells of the node say, in every world behind -/
def NC (w : World) (h nb m : Nat) (Ls : List (List (List Int))) : Prop := ∀ W : World, K2 w W → W.cell? ⟨nb, 0, none⟩ = some (.int .i64 m) ∧ W.cell? ⟨nb, 1, none⟩ = some (.bool (h == 0)) ∧ nb < W.heap.size ∧ ∀ i, i < m → W.cell? ⟨nb, 2 + i, none⟩ = some (.int .u64 (lastOf Ls i))
theorem Nd.nc {w : World} {h nb m : Nat} {rs : List Rec} {Ls : List (List (List Int))} (hn : Nd w h nb m rs Ls) : NC w h nb m Ls := fun W k => by
  obtain ⟨h1, h2, h3, h4, h5, h6⟩ := hn.k2 k
  obtain ⟨c0, c1, c2, _, _⟩ := node_cells h1 h5 h6
  refine ⟨c0, c1, h1.lt, fun i hi => ?_⟩
  rw [c2 i hi, (h6 i hi).some_last.2.1]; rfl

theorem SlU.cut {w : World} {a : Option Addr} {n cap i : Nat} {zs : List Int} (h : SlU w (.slice a n cap) zs) (hi : i ≤ zs.length) : SlU w (.slice a i cap) (zs.take i) ∧ SlU w (.slice (offA a cap i) (n - i) (cap - i)) (zs.drop i) := by
  obtain ⟨a', cap', e, h1, h2⟩ := h
  cases e
  refine ⟨⟨a, cap, by rw [List.length_take, Nat.min_eq_left hi], by rw [List.length_take]; omega, h2.take i⟩, ⟨offA a cap i, cap - i, by rw [List.length_drop], by rw [List.length_drop]; omega, h2.off cap i h1⟩⟩
theorem SlU.nil (w : World) : SlU w (.slice none 0 0) [] := ⟨none, 0, rfl, Nat.le_refl _, .inl rfl⟩
/-- the level and its children stand -/
def PW (w : World) (h : Nat) (v0 : Value) (rs0 : List Rec) (s3 : Value) (rs1 : List Rec) (Ks : List (List (List Int))) (W : World) : Prop := Lev w v0 rs0 s3 rs1 W ∧ Kids W h rs1 Ks
theorem PW.dn {w : World} {h : Nat} {v0 s3 : Value} {rs0 rs1 : List Rec} {Ks : List (List (List Int))} {W : World} (hp : PW w h v0 rs0 s3 rs1 Ks W) (q : Nat) : PW w h v0 rs0 s3 rs1 Ks (W.drewN q) := ⟨hp.1.dn q, hp.2.k2 (fun _ _ _ _ _ h => h)⟩
theorem EI.le {Ls : List (List (List Int))} {ds xs D' A' R : List Int} {k : Nat} (h : EI Ls ds xs k D' A' R) : k ≤ Ls.length := by
  obtain ⟨_, _, _, _, _, h, _⟩ := h
  exact h
theorem ek_len {w wr : World} {h k : Nat} {v0 s3 : Value} {rs0 rs1 : List Rec} {Ls Ks : List (List (List Int))} {ds xs D' A' : List Int} (hks : Kids wr h rs1 Ks) (hei : EI Ls ds xs k D' A' (ents Ks)) (hlen : rs0.length + (ents Ls).length + ds.length + xs.length ≤ 1048576) : (rs0 ++ rs1).length ≤ 1048576 ∧ (ents Ks).length ≤ 1048576 := by
  have h1 := kids_len hks
  have h2 := hei.len
  simp only [List.length_append]
  omega

set_option maxRecDepth 100000 in
set_option maxHeartbeats 4000000 in
theorem ed37 (h : Nat) (HREC : Hid (∀ h', h = h' + 1 → EdC h')) : EdC h := by
  intro nb m rs Ls ds xs sd sx v0 rs0 w hnd hA h1 h2 hS hD hsd hsx hown hob hlen
  have n3 := hnd.2.2.1
  have n4 := hnd.2.2.2.1
  have n5 := hnd.2.2.2.2.1
  have n6 := hnd.2.2.2.2.2
  have HK1 : Hid (∀ i, i < Ls.length → 1 ≤ (lv Ls i).flatten.length) := fun i hi => (n6 i (by omega)).some_last.1
  have HEL : Hid (EL w h v0 rs0 Ls ds xs m sd sx v0 (.int .i64 0) w) := ⟨ds, xs, 0, [], [], hsd, hsx, rfl, by omega, ⟨by simpa using hown, .inl rfl, hob, World.grownBy.refl _ _, K2.refl _⟩, Kids.nil _ _, EI.start ds xs (by omega)⟩
  have HNC := hide hnd.nc
  have HND := hide hnd
  have HA := hide hA
  have H1 := hide h1
  have H2 := hide h2
  have HS := hide hS
  have HD := hide hD
  have HLEN := hide hlen
  have HML := hide n3
  have hEM : (ents Ls).length ≤ 1048576 := by omega
  obtain ⟨da, dcap, rfl, hdc, hdr⟩ := hsd
  obtain ⟨xa, xcap, rfl, hxc, hxr⟩ := hsx
  obtain ⟨a0, cap0, rfl, hcap0⟩ := ownsRow_shape hown
  have hr0 : rs0.length ≤ 1048576 := by omega
  obtain ⟨u, hu⟩ : ∃ u, rs0.length = u := ⟨_, rfl⟩
  rw [hu] at hr0 hcap0 HEL ⊢
  have HU := hide hu
  clear hnd hA h1 h2 hS hD hlen n3 n6 hdr hxr hown hob hu
  go_enter Try.func37, Try.ntmps37
  go_wp2
  go_loopg [1, 2, 3, 10] m (fun gk s1 s2 s3 s10 wr => EL w h (.slice a0 u cap0) rs0 Ls ds xs gk s1 s2 s3 s10 wr)
  case atStart => exact HEL.out
  case round =>
    obtain ⟨D', A', k, rs1, Ks, ⟨da1, dc1, rfl, hdc1, hdr1⟩, ⟨xa1, xc1, rfl, hxc1, hxr1⟩, rfl, hgk, hlev, hks, hei⟩ := hrel
    clear HEL
    obtain ⟨ln, hln⟩ : ∃ ln, (rs0 ++ rs1).length = ln := ⟨_, rfl⟩
    have hlev' := hlev
    rw [Lev, hln] at hlev'
    obtain ⟨a3, cap3, rfl, hcap3⟩ := ownsRow_shape hlev'.1
    clear hlev'
    have hkm : k ≤ m := by rw [← HML.out]; exact hei.le
    by_cases hz : D'.length + A'.length = 0
    · have hD0 : D' = [] := List.eq_nil_of_length_eq_zero (by omega)
      have hA0 : A' = [] := List.eq_nil_of_length_eq_zero (by omega)
      subst hD0
      subst hA0
      have HEK : Hid (EK w h (.slice a0 u cap0) rs0 Ls ds xs [] [] m (m - k) (.slice a3 ln cap3) (.int .i64 (k : Nat)) wr) := ⟨k, rs1, Ks, rfl, hkm, Nat.le_refl _, hlev, hks, hei⟩
      obtain ⟨q0, _, hnbl, _⟩ := HNC.out wr hlev.2.2.2.2
      clear hlev hks hei hln
      go_wp2
      go_loopg [3, 10] (m - k) (fun gk s3 s10 wr => EK w h (.slice a0 u cap0) rs0 Ls ds xs [] [] m gk s3 s10 wr)
      case atStart => exact HEK.out
      case round =>
        obtain ⟨k', rs1', Ks', rfl, hk'm, hgk', hlev, hks, hei⟩ := hrel
        clear HEK q0 hnbl
        obtain ⟨D, hDD⟩ : ∃ D, D = rs0 ++ rs1' := ⟨_, rfl⟩
        have hdl : D.length ≤ 1048576 := by rw [hDD]; exact (ek_len (w := w) (v0 := .slice a0 u cap0) (s3 := .slice a0 u cap0) hks hei HLEN.out).1
        have hown := hlev.1
        rw [← hDD] at hown
        have hgs := hlev.2.2.1
        obtain ⟨a4, cap4, rfl, hcap4⟩ := ownsRow_shape hown
        obtain ⟨q0, _, hnbl, _⟩ := HNC.out wr hlev.2.2.2.2
        by_cases hlt : k' < m
        · obtain ⟨c, hcf, hcc⟩ := HND.out.child hEM hlt
          have HC : Hid (Calls Try.prog 45 #[.pointer (some ⟨nb, 0, none⟩), .int .i64 (k' : Nat)] wr fun e w' => Below wr.heap.size wr w' ∧ e = .returned c.val) := (hcc wr hlev.2.2.2.2).1
          have HCK : Hid (KidRec wr h c (lv Ls k')) := (hcc wr hlev.2.2.2.2).2
          have HLEV := hide hlev
          have HKS := hide hks
          have HEI := hide hei
          have HOWN := hide hown
          have HDD := hide hDD
          clear hlev hks hei hown hDD hcc hcf hgs
          obtain ⟨clast, ccount, cla, cll, clc, cnode, cfresh⟩ := c
          unfold Rec.val at HC
          simp only at HC
          go_wp2_with (first
            | (go_at_call 45; refine HC.out.mono ?_; rintro e w1 ⟨hB1, rfl⟩
               have HB5 : Hid (∀ o1 : Obj, Below wr.heap.size wr (w1.alloc o1)) := fun o1 => hB1.alloc hB1.size o1
               have HRA : Hid (∀ o1 : Obj, (w1.alloc o1).ownsRow 0 81 5 (.slice a4 D.length cap4) D.length (recCells D)) := fun o1 => (HOWN.out.kept (grown_of_below hB1 none) (Classical.em _)).alloc o1
               have HNW := hide (new_cells' w1 ⟨clast, ccount, cla, cll, clc, cnode, cfresh⟩)
               clear hB1)
            | (at_builtin
               refine wpList_app rfl _ _ 63 rfl 0 81 _ 5 56 Try.underlying63 info81 rfl (by omega) (.slice a4 D.length cap4) D.length (recCells D) rfl (HRA.out _) (some ⟨w1.heap.size, 0, none⟩) 1 1 (Rec.cells ⟨clast, ccount, cla, cll, clc, cnode, cfresh⟩) rfl rfl (fun h => by cases h) HNW.out (rec_one _) (by unfold maxLen; omega) (by omega) (Nat.zero_le _) ?_
               intro a' cap' w2 hown2 hgr2 hob2
               have hone := Lev.one (c := ⟨clast, ccount, cla, cll, clc, cnode, cfresh⟩) HLEV.out (HB5.out _) hgr2 (by rw [← HDD.out]) (by rw [← HDD.out]; exact hown2) hob2
               have HFIN : Hid (EK w h (.slice a0 u cap0) rs0 Ls ds xs [] [] m (m - (k' + 1)) (.slice a' (D.length + 1) cap') (.int .i64 ((k' + 1 : Nat) : Int)) w2) :=
                 EK.step (s3 := .slice a0 u cap0) hone.1 hone.2 hlt (by rw [HML.out]; exact hlt) HA.out HKS.out HEI.out HCK.out (fun x _ y hy => by simp at hy) (fun _ => ⟨rfl, rfl⟩)
               clear hown2 hgr2 hob2 hone))
          go_roundg (m - (k' + 1))
          case rel => exact HFIN.out
          case measure => omega
        · obtain rfl : k' = m := by omega
          obtain ⟨g, cap', hv⟩ : ∃ g cap', Value.slice a4 D.length cap4 = .slice (some ⟨g, 0, none⟩) D.length cap' := by
            rcases hown.2 with ⟨e, _⟩ | ⟨g, cc, cur, e, _⟩
            · rw [e] at hgs; exact absurd rfl hgs
            · exact ⟨g, cc, e⟩
          cases hv
          obtain ⟨n, hn⟩ : ∃ n, rs1'.length = n := ⟨_, rfl⟩
          have hDn : D.length = u + n := by rw [hDD, List.length_append, HU.out, hn]
          have hEd := hei.fin HML.out.symm
          have hlev2 : Lev w (.slice a0 u cap0) rs0 (.slice (some ⟨g, 0, none⟩) (u + n) cap4) rs1' wr := by rw [← hDn]; exact hlev
          rw [hDn] at hdl hcap4 ⊢
          have hMK := (ek_len (w := w) (v0 := .slice a0 u cap0) (s3 := .slice a0 u cap0) hks hei HLEN.out).2
          obtain ⟨la, hla⟩ : ∃ la : Addr, la = ⟨g, if cap4 = u then 0 else 0 + u * 5, none⟩ := ⟨_, rfl⟩
          have hla1 : 1 ≤ n → some la = some (⟨g, u * 5, none⟩ : Addr) := fun h => by rw [hla, if_neg (by omega), Nat.zero_add]
          have HEND := hide (ed_end HU.out hn hlev2 hks hEd hMK (some la) hla1)
          have s1 := slice63_l g 0 (u + n) cap4 u (by omega)
          rw [Nat.add_sub_cancel_left, ← hla] at s1
          have s2 := slice63_h g 0 (u + n) cap4 u (by omega)
          clear hlev hks hei hown hDD hgs hEd hlev2 hn hDn hla hla1 hMK
          go_wp2_with (first
            | (go_at_call 48; refine HEND.out.mono ?_; rintro e w1 ⟨n', rfl, hc43⟩; have HC43 := hide hc43; clear hc43)
            | (go_at_call 43; refine HC43.out.mono ?_; rintro e2 w2 ⟨hR, v, rfl⟩; have HR := hide hR; clear hR))
          go_ret
          exact HR.out
    · have hkl : k < m := by
        rcases Nat.lt_or_ge k m with h' | h'
        · exact h'
        · exfalso
          obtain ⟨_, _, _, _, _, _, he, _⟩ := hei
          obtain ⟨rfl, rfl⟩ := he (by rw [HML.out]; omega)
          simp at hz
      obtain ⟨q0, ql, hnbl, qlast⟩ := HNC.out wr hlev.2.2.2.2
      obtain ⟨x, hx⟩ : ∃ x, nextOf D' A' = x := ⟨_, rfl⟩
      obtain ⟨b1, b2⟩ := hei.asc H1.out H2.out
      have HNLE : Hid (∀ y, y ∈ D' ∨ y ∈ A' → x ≤ y) := by rw [← hx]; exact nextOf_le b1 b2
      have hr1 := hdr1.k2 hlev.2.2.2.2
      have hr2 := hxr1.k2 hlev.2.2.2.2
      have HSD : Hid (SlU w (.slice da1 D'.length dc1) D') := ⟨da1, dc1, rfl, hdc1, hdr1⟩
      have HSX : Hid (SlU w (.slice xa1 A'.length xc1) A') := ⟨xa1, xc1, rfl, hxc1, hxr1⟩
      have hlenD := hei.len
      have hD'b : D'.length ≤ 1048576 := by have := HLEN.out; omega
      have hA'b : A'.length ≤ 1048576 := by have := HLEN.out; omega
      obtain ⟨B, hB⟩ : ∃ B : Bool, B = decide (A' = [] ∨ (D' ≠ [] ∧ el D' 0 < el A' 0)) := ⟨_, rfl⟩
      have HLEV := hide hlev
      have HKS := hide hks
      have HEI := hide hei
      have HX := hide hx
      have HR1 := hide hr1
      have HR2 := hide hr2
      have HLN := hide hln
      obtain ⟨n1, hn1⟩ : ∃ n1, D'.length = n1 := ⟨_, rfl⟩
      obtain ⟨n2, hn2⟩ : ∃ n2, A'.length = n2 := ⟨_, rfl⟩
      have hB1 : B = decide (n2 = 0 ∨ (0 < n1 ∧ el D' 0 < el A' 0)) := by
        rw [hB]
        congr 1
        rw [← hn1, ← hn2, List.length_eq_zero_iff, List.length_pos_iff]
      have HB := hide hB1
      have HN1 := hide hn1
      have HN2 := hide hn2
      rw [hn1] at HSD hz hD'b hdc1 ⊢
      rw [hn2] at HSX hz hA'b hxc1 ⊢
      have HXB : Hid (B = true → x = el D' 0 ∧ 0 < n1) := fun h => by
        rw [hB] at h
        have h' := of_decide_eq_true h
        refine ⟨by rw [← hx, nextOf, if_pos h'], ?_⟩
        rcases h' with h' | ⟨h', _⟩
        · rw [h'] at hn2; simp at hn2; omega
        · rw [← hn1]; exact List.length_pos_iff.2 h'
      have HXA : Hid (B = false → x = el A' 0 ∧ 0 < n2) := fun h => by
        rw [hB] at h
        have h' := of_decide_eq_false h
        refine ⟨by rw [← hx, nextOf, if_neg h'], ?_⟩
        rw [← hn2]
        exact List.length_pos_iff.2 fun e => h' (.inl e)
      clear hlev hks hei hx hdr1 hxr1 hr1 hr2 hB hB1 hn1 hn2 hln b1 b2 hlenD
      go_upto_region 4 with fail
      go_cut [42] (fun s42 wx => s42 = .bool B ∧ ∃ q, wx = wr.drewN q)
      case first =>
        by_cases hn2 : n2 = 0
        · have hBt : B = true := by rw [HB.out, hn2]; simp
          subst hn2
          go_quiet (fail)
          go_wp2
          go_meet
          exact ⟨by rw [hBt], nq, rfl⟩
        · obtain ⟨bx, ox, rfl, hbx, hcx⟩ := HR2.out.at (by rw [HN2.out]; omega)
          have kx := hcx 0 (by rw [HN2.out]; omega)
          rw [Nat.add_zero] at kx
          have hg2 : ((n2 : Int) == 0) = false := by simp; omega
          have hp2 : (0 : Int) < (n2 : Int) := by omega
          clear hcx
          by_cases hn1 : n1 = 0
          · have hBf : B = false := by rw [HB.out, hn1]; simp [hn2]
            subst hn1
            clear hn2
            go_quiet (fail)
            go_wp2
            go_meet
            exact ⟨by rw [hBf], nq, rfl⟩
          · obtain ⟨bd, od, rfl, hbd, hcd⟩ := HR1.out.at (by rw [HN1.out]; omega)
            have kd := hcd 0 (by rw [HN1.out]; omega)
            rw [Nat.add_zero] at kd
            have hp1 : (0 : Int) < (n1 : Int) := by omega
            have hg1 : decide ((0 : Int) < (n1 : Int)) = true := by simp; omega
            have hBv : B = decide (el D' 0 < el A' 0) := by
              rw [HB.out]
              congr 1
              apply propext
              constructor
              · rintro (h | h)
                · exact absurd h hn2
                · exact h.2
              · exact fun h => .inr ⟨by omega, h⟩
            have hp1n : 0 < n1 := by omega
            have hp2n : 0 < n2 := by omega
            clear hcd hn1 hn2
            generalize el D' 0 = dv at *
            generalize el A' 0 = xv at *
            by_cases hlt : dv < xv
            · have hg3 : decide (dv < xv) = true := by simpa using hlt
              rw [hg3] at hBv
              go_quiet (fail)
              go_wp2
              go_meet
              exact ⟨by rw [hBv], nq, rfl⟩
            · have hg3 : decide (dv < xv) = false := by simpa using hlt
              rw [hg3] at hBv
              go_quiet (fail)
              go_wp2
              go_meet
              exact ⟨by rw [hBv], nq, rfl⟩
      case rest =>
        obtain ⟨rfl, q, rfl⟩ := hcut
        have HLEVq := hide (HLEV.out.dn q)
        have HKSq : Hid (Kids (wr.drewN q) h rs1 Ks) := HKS.out.k2 (fun _ _ _ _ _ h => h)
        have hr1q : Row (wr.drewN q) da1 D' := HR1.out
        have hr2q : Row (wr.drewN q) xa1 A' := HR2.out
        have q0q : (wr.drewN q).cell? ⟨nb, 0, none⟩ = some (.int .i64 m) := q0
        have qlq : (wr.drewN q).cell? ⟨nb, 1, none⟩ = some (.bool (h == 0)) := ql
        have hnblq : nb < (wr.drewN q).heap.size := hnbl
        have qlastq : ∀ i, i < m → (wr.drewN q).cell? ⟨nb, 2 + i, none⟩ = some (.int .u64 (lastOf Ls i)) := qlast
        clear HLEV HKS HR1 HR2 q0 ql hnbl qlast
        generalize wr.drewN q = wq at *
        have HR1 := hide hr1q
        have HR2 := hide hr2q
        have HQL := hide qlastq
        clear hr1q hr2q qlastq
        go_upto_if 42 with fail
        go_cut [11] (fun s11 wx => wx = wq ∧ ∃ b o nn nc, s11 = .slice (some ⟨b, o, none⟩) nn nc ∧ 0 < nn ∧ b < wx.heap.size ∧ wx.cell? ⟨b, o, none⟩ = some (.int .u64 x))
        case first =>
          cases B with
          | true =>
            obtain ⟨hxe, hn1⟩ := HXB.out rfl
            obtain ⟨bd, od, rfl, hbd, hcd⟩ := HR1.out.at (by rw [HN1.out]; exact hn1)
            have kd := hcd 0 (by rw [HN1.out]; exact hn1)
            rw [Nat.add_zero, ← hxe] at kd
            clear hcd hxe
            go_wp2
            go_meet
            exact ⟨rfl, bd, od, n1, dc1, rfl, hn1, hbd, kd⟩
          | false =>
            obtain ⟨hxe, hn2⟩ := HXA.out rfl
            obtain ⟨bx, ox, rfl, hbx, hcx⟩ := HR2.out.at (by rw [HN2.out]; exact hn2)
            have kx := hcx 0 (by rw [HN2.out]; exact hn2)
            rw [Nat.add_zero, ← hxe] at kx
            clear hcx hxe
            go_wp2
            go_meet
            exact ⟨rfl, bx, ox, n2, xc1, rfl, hn2, hbx, kx⟩
        case rest =>
          obtain ⟨rfl, bn, on, nn, nc, rfl, hnn, hbn, kn⟩ := hcut
          obtain ⟨m1, hm1⟩ : ∃ m1, m = m1 + 1 := ⟨m - 1, by omega⟩
          have hm1i : (m : Int) - 1 = (m1 : Int) := by omega
          have hm116 : m1 ≤ 15 := by omega
          have s68 := slice68 nb 2 m1 (by omega)
          have hnn' : (0 : Int) < (nn : Int) := by omega
          have s68b : ∀ w : World, (Instr.sliceAt 68 (.pointer (some ⟨nb, 2, none⟩)) none (some (.int .i64 ((m : Int) - 1))) none).run Try.prog w = .ok (.slice (some ⟨nb, 2, none⟩) m1 16) w := by rw [hm1i]; exact s68
          obtain ⟨c, hc⟩ : ∃ c, lb (lasts Ls m1) x = c := ⟨_, rfl⟩
          have hasc := lasts_asc (k := m1) HA.out HK1.out (by rw [HML.out]; omega)
          have hcut := cut_lb_of_asc x hasc
          rw [hc] at hcut
          obtain ⟨bb, hbb⟩ : ∃ bb, (decide (c < m1) && (el (lasts Ls m1) c == x)) = bb := ⟨_, rfl⟩
          have H44 : Hid (∀ W : World, (∃ n, W = wc.drewN n) → Calls Try.prog 44 #[.slice (some ⟨nb, 2, none⟩) m1 16, .int .u64 x] W fun e w' => e = .returned (.tuple #[.int .i64 c, .bool bb]) ∧ ∃ n, w' = W.drewN n) := fun W hW => by
            obtain ⟨n, rfl⟩ := hW
            refine (bs44c (some ⟨nb, 2, none⟩) m1 16 (lasts Ls m1) x (wc.drewN n) (lasts_length _ _) (by omega) (fun _ => ⟨nb, 2, rfl, hnblq, fun i hi => by
              rw [lasts_length] at hi
              rw [lasts_el hi]
              exact HQL.out i (by omega)⟩) hasc).mono ?_
            rintro e w' ⟨rfl, i, hi, rfl⟩
            have hic : i = c := by rw [← cut_lb hi, hc]
            subst hic
            exact ⟨by rw [hbb], 0, rfl⟩
          have hcm1 : c ≤ m1 := by have := hcut.1; rw [lasts_length] at this; exact this
          have HCUT := hide hcut
          clear hc hasc hcut hbb
          have HM1 := hide hm1
          clear hm1
          go_wp2_with fail
          go_quiet ((go_at_call 44; refine Calls.quiet_of (H44.out _ ?_); exact ⟨_, rfl⟩))
          have HLEVz := hide (HLEVq.out.dn nq)
          have HKSz : Hid (Kids (wc.drewN nq) h rs1 Ks) := HKSq.out.k2 (fun _ _ _ _ _ h => h)
          have hkc : k ≤ c := by
            refine HEI.out.next (by rw [HN1.out, HN2.out]; omega) HK1.out (by rw [HML.out, HM1.out]; omega) (fun i h1 h2 => ?_)
            have hi : i < m1 := by rw [HML.out, HM1.out] at h2; omega
            have := HCUT.out.2.2 i h1 (by rw [lasts_length]; exact hi)
            rw [lasts_el hi] at this
            rw [HX.out]; exact this
          clear HLEVq HKSq q0q qlq hnblq kn hbn HQL HR1 HR2 H44 s68 s68b
          generalize wc.drewN nq = wz at *
          have HEK : Hid (EK w h (.slice a0 u cap0) rs0 Ls ds xs D' A' c (c - k) (.slice a3 ln cap3) (.int .i64 (k : Nat)) wz) := ⟨k, rs1, Ks, rfl, hkc, Nat.le_refl _, HLEVz.out, HKSz.out, HEI.out⟩
          have HLOW : Hid (∀ k', k' < c → ∀ z, z ∈ (lv Ls k').flatten → ∀ y, y ∈ D' ∨ y ∈ A' → z < y) := fun k' hk' z hz' y hy => by
            have e1 := HCUT.out.2.1 k' hk'
            rw [lasts_el (by omega)] at e1
            have e2 := last_ge (asc_lv (Ls := Ls) (k := k') (by rw [HML.out, HM1.out]; omega) HA.out) hz'
            have e3 := HNLE.out y hy
            have e4 : lastOf Ls k' = el (lv Ls k').flatten ((lv Ls k').flatten.length - 1) := rfl
            omega
          have HKC := hide hkc
          clear HLEVz HKSz HEI hkc
          go_wp2
          go_loopg [3, 10] (c - k) (fun gk s3 s10 wr => EK w h (.slice a0 u cap0) rs0 Ls ds xs D' A' c gk s3 s10 wr)
          case atStart => exact HEK.out
          case round =>
            obtain ⟨k', rs1', Ks', rfl, hk'c, hgk', hlev, hks, hei⟩ := hrel
            clear HEK
            obtain ⟨D, hDD⟩ : ∃ D, D = rs0 ++ rs1' := ⟨_, rfl⟩
            have hdl : D.length ≤ 1048576 := by rw [hDD]; exact (ek_len (w := w) (v0 := .slice a0 u cap0) (s3 := .slice a0 u cap0) hks hei HLEN.out).1
            have hown := hlev.1
            rw [← hDD] at hown
            obtain ⟨a4, cap4, rfl, hcap4⟩ := ownsRow_shape hown
            by_cases hlt : k' < c
            · have hltm : k' < m := by have := HM1.out; omega
              obtain ⟨cr, hcf, hcc⟩ := HND.out.child hEM hltm
              have HC : Hid (Calls Try.prog 45 #[.pointer (some ⟨nb, 0, none⟩), .int .i64 (k' : Nat)] wr fun e w' => Below wr.heap.size wr w' ∧ e = .returned cr.val) := (hcc wr hlev.2.2.2.2).1
              have HCK : Hid (KidRec wr h cr (lv Ls k')) := (hcc wr hlev.2.2.2.2).2
              have HLEV := hide hlev
              have HKS := hide hks
              have HEI := hide hei
              have HOWN := hide hown
              have HDD := hide hDD
              clear hlev hks hei hown hDD hcc hcf
              obtain ⟨clast, ccount, cla, cll, clc, cnode, cfresh⟩ := cr
              unfold Rec.val at HC
              simp only at HC
              go_wp2_with (first
                | (go_at_call 45; refine HC.out.mono ?_; rintro e w1 ⟨hB1, rfl⟩
                   have HB5 : Hid (∀ o1 : Obj, Below wr.heap.size wr (w1.alloc o1)) := fun o1 => hB1.alloc hB1.size o1
                   have HRA : Hid (∀ o1 : Obj, (w1.alloc o1).ownsRow 0 81 5 (.slice a4 D.length cap4) D.length (recCells D)) := fun o1 => (HOWN.out.kept (grown_of_below hB1 none) (Classical.em _)).alloc o1
                   have HNW := hide (new_cells' w1 ⟨clast, ccount, cla, cll, clc, cnode, cfresh⟩)
                   clear hB1)
                | (at_builtin
                   refine wpList_app rfl _ _ 63 rfl 0 81 _ 5 56 Try.underlying63 info81 rfl (by omega) (.slice a4 D.length cap4) D.length (recCells D) rfl (HRA.out _) (some ⟨w1.heap.size, 0, none⟩) 1 1 (Rec.cells ⟨clast, ccount, cla, cll, clc, cnode, cfresh⟩) rfl rfl (fun h => by cases h) HNW.out (rec_one _) (by unfold maxLen; omega) (by omega) (Nat.zero_le _) ?_
                   intro a' cap' w2 hown2 hgr2 hob2
                   have hone := Lev.one (c := ⟨clast, ccount, cla, cll, clc, cnode, cfresh⟩) HLEV.out (HB5.out _) hgr2 (by rw [← HDD.out]) (by rw [← HDD.out]; exact hown2) hob2
                   have HFIN : Hid (EK w h (.slice a0 u cap0) rs0 Ls ds xs D' A' c (c - (k' + 1)) (.slice a' (D.length + 1) cap') (.int .i64 ((k' + 1 : Nat) : Int)) w2) :=
                     EK.step (s3 := .slice a0 u cap0) hone.1 hone.2 hlt (by rw [HML.out]; exact hltm) HA.out HKS.out HEI.out HCK.out (HLOW.out k' hlt) (fun e => by rw [HML.out, HM1.out] at e; omega)
                   clear hown2 hgr2 hob2 hone))
              go_roundg (c - (k' + 1))
              case rel => exact HFIN.out
              case measure => omega
            · obtain rfl : k' = c := by omega
              have HPW : Hid (PW w h (.slice a0 u cap0) rs0 (.slice a4 D.length cap4) rs1' Ks' wr) := ⟨hlev, hks⟩
              have HEI := hide hei
              have HDD := hide hDD
              have HASC := hide (hei.asc H1.out H2.out)
              have hk'm : k' < m := by have := HM1.out; omega
              have HCELL : Hid (∀ W, PW w h (.slice a0 u cap0) rs0 (.slice a4 D.length cap4) rs1' Ks' W → W.cell? ⟨nb, 0, none⟩ = some (.int .i64 m) ∧ W.cell? ⟨nb, 1, none⟩ = some (.bool (h == 0)) ∧ nb < W.heap.size ∧ W.cell? ⟨nb, 2 + k', none⟩ = some (.int .u64 (lastOf Ls k'))) := fun W hW => by
                obtain ⟨e1, e2, e3, e4⟩ := HNC.out W hW.1.2.2.2.2
                exact ⟨e1, e2, e3, e4 k' hk'm⟩
              obtain ⟨q0, q1, hnbl, qlast⟩ := HCELL.out wr HPW.out
              clear hlev hks hei hown hDD HLOW HCUT HNLE
              have HCM := hide hcm1
              go_upto_if 79 with fail
              go_cut [1, 2, 14, 15] (fun s1 s2 s14 s15 wx => PW w h (.slice a0 u cap0) rs0 (.slice a4 D.length cap4) rs1' Ks' wx ∧ ∃ d a D2 A2, SlU w s14 d ∧ SlU w s15 a ∧ SlU w s1 D2 ∧ SlU w s2 A2 ∧ ES Ls ds xs k' (ents Ks') d a D2 A2)
              case first =>
                by_cases hlt' : k' < m1
                · have H46a : Hid (∀ W, PW w h (.slice a0 u cap0) rs0 (.slice a4 D.length cap4) rs1' Ks' W → Calls Try.prog 46 #[.slice da1 n1 dc1, .int .u64 (lastOf Ls k')] W fun e w' => PW w h (.slice a0 u cap0) rs0 (.slice a4 D.length cap4) rs1' Ks' w' ∧ ∃ i, Upto D' (lastOf Ls k') i ∧ e = .returned (.tuple #[.slice da1 i dc1, .slice (offA da1 dc1 i) (n1 - i) (dc1 - i)])) := fun W hW => by
                    obtain ⟨a', cap', e', f1, f2⟩ := HSD.out
                    cases e'
                    refine (cut46 da1 D'.length dc1 D' (lastOf Ls k') W rfl (by omega) f1 (f2.k2 hW.1.2.2.2.2) HASC.out.1).mono ?_
                    rintro e w' ⟨⟨q, rfl⟩, i, hi, rfl⟩
                    exact ⟨hW.dn q, i, hi, rfl⟩
                  have H46b : Hid (∀ W, PW w h (.slice a0 u cap0) rs0 (.slice a4 D.length cap4) rs1' Ks' W → Calls Try.prog 46 #[.slice xa1 n2 xc1, .int .u64 (lastOf Ls k')] W fun e w' => PW w h (.slice a0 u cap0) rs0 (.slice a4 D.length cap4) rs1' Ks' w' ∧ ∃ i, Upto A' (lastOf Ls k') i ∧ e = .returned (.tuple #[.slice xa1 i xc1, .slice (offA xa1 xc1 i) (n2 - i) (xc1 - i)])) := fun W hW => by
                    obtain ⟨a', cap', e', f1, f2⟩ := HSX.out
                    cases e'
                    refine (cut46 xa1 A'.length xc1 A' (lastOf Ls k') W rfl (by omega) f1 (f2.k2 hW.1.2.2.2.2) HASC.out.2).mono ?_
                    rintro e w' ⟨⟨q, rfl⟩, i, hi, rfl⟩
                    exact ⟨hW.dn q, i, hi, rfl⟩
                  go_wp2_with (first
                    | (go_at_call_of 46 (Value.slice da1 n1 dc1); refine (H46a.out _ HPW.out).mono ?_; rintro e w1 ⟨hp1, i, hi, rfl⟩
                       have HP1 := hide hp1
                       have HI := hide hi
                       obtain ⟨r0, r1, r2, r3⟩ := HCELL.out w1 hp1
                       clear hp1 hi)
                    | (go_at_call_of 46 (Value.slice xa1 n2 xc1); refine (H46b.out _ HP1.out).mono ?_; rintro e w2 ⟨hp2, j, hj, rfl⟩
                       have HP2 := hide hp2
                       have HJ := hide hj
                       clear hp2 hj))
                  go_meet
                  obtain ⟨t1, t2⟩ := HSD.out.cut HI.out.1
                  obtain ⟨t3, t4⟩ := HSX.out.cut HJ.out.1
                  exact ⟨HP2.out, D'.take i, A'.take j, D'.drop i, A'.drop j, t1, t3, t2, t4, ES.cut HEI.out (by rw [HML.out, HM1.out]; omega) (HK1.out k' (by rw [HML.out]; exact hk'm)) HA.out H1.out H2.out HS.out HD.out HI.out HJ.out⟩
                · have hlt2 : ¬ ((k' : Int) < (m1 : Int)) := by omega
                  go_wp2
                  go_meet
                  exact ⟨HPW.out, D', A', [], [], HSD.out, HSX.out, SlU.nil w, SlU.nil w, ES.rest HEI.out (by rw [HML.out, HM1.out]; have := HCM.out; omega) HA.out H1.out H2.out HS.out HD.out⟩
              case rest =>
                obtain ⟨hpw, d, a, D2, A2, ⟨ad, cd, rfl, hcd, hrd⟩, ⟨aa, ca, rfl, hca, hra⟩, ⟨ad2, cd2, rfl, hcd2, hrd2⟩, ⟨aa2, ca2, rfl, hca2, hra2⟩, hes⟩ := hcut
                have HPWc := hide hpw
                have HES := hide hes
                have H14 : Hid (SlU w (.slice ad d.length cd) d) := ⟨ad, cd, rfl, hcd, hrd⟩
                have H15 : Hid (SlU w (.slice aa a.length ca) a) := ⟨aa, ca, rfl, hca, hra⟩
                have HD2 : Hid (SlU w (.slice ad2 D2.length cd2) D2) := ⟨ad2, cd2, rfl, hcd2, hrd2⟩
                have HA2 : Hid (SlU w (.slice aa2 A2.length ca2) A2) := ⟨aa2, ca2, rfl, hca2, hra2⟩
                have hndc := HND.out.k2 hpw.1.2.2.2.2
                obtain ⟨o1, o2, o3, o4, o5, o6⟩ := hndc
                obtain ⟨_, cl1, _, cl3, cl4⟩ := node_cells o1 o5 o6
                have hkid := o6 k' hk'm
                have hesl := hes.2.2.2.2.1
                have hbig : (lv Ls k').flatten.length + d.length + a.length + D.length ≤ 1048576 := by
                  have e1 := kids_len hpw.2
                  have e2 := HLEN.out
                  have e3 : D.length = rs0.length + rs1'.length := by rw [HDD.out, List.length_append]
                  omega
                have hownc := hpw.1.1
                rw [← HDD.out] at hownc
                have HOWNc := hide hownc
                have HBIG := hide hbig
                obtain ⟨dn, hdn⟩ : ∃ dn, d.length = dn := ⟨_, rfl⟩
                obtain ⟨an, han⟩ : ∃ an, a.length = an := ⟨_, rfl⟩
                clear q0 q1 hnbl qlast o1 o2 o3 o6 hpw hes hesl hrd hra hrd2 hra2 hownc hbig HPW HEI HCELL HASC
                cases h with
                | zero =>
                  have cl := cl4 rfl k' hk'm
                  obtain ⟨zs, hLe, z1, z2, hnn2, hRow, hll, hlc, _, _⟩ := hkid
                  have hzf : (lv Ls k').flatten = zs := by rw [hLe]; simp
                  have cl1' : wc.cell? ⟨nb, 1, none⟩ = some (.bool true) := cl1
                  rw [hll] at cl
                  have H47 : Hid (Calls Try.prog 47 #[.slice (rc rs k').la zs.length (rc rs k').lc, .slice ad d.length cd, .slice aa a.length ca] wc fun e w' => Below wc.heap.size wc w' ∧ ∃ v, e = .returned v ∧ OwnU w' wc.heap.size v (mrg (d.length + a.length) zs d a)) := by
                    have hb := HBIG.out
                    have hes := HES.out
                    obtain ⟨a', cap', e', f1, f2⟩ := H14.out
                    cases e'
                    obtain ⟨a', cap', e', g1, g2⟩ := H15.out
                    cases e'
                    have kk := HPWc.out.1.2.2.2.2
                    rw [hzf] at hb
                    refine merge47 _ _ _ _ _ _ _ _ _ zs d a wc rfl rfl rfl (by omega) (by rw [← hll]; exact hlc) f1 g1 hRow (f2.k2 kk) (g2.k2 kk) ?_ hes.2.2.1 hes.2.2.2.1
                    rw [← hzf]
                    exact asc_lv (by rw [HML.out]; exact hk'm) HA.out
                  obtain ⟨mg, hmg⟩ : ∃ mg, mrg (d.length + a.length) zs d a = mg := ⟨_, rfl⟩
                  have hEdm : Ed (lv Ls k').flatten d a mg := by
                    have hes := HES.out
                    rw [hzf, ← hmg]
                    refine mrg_ed _ zs d a (Nat.le_refl _) ?_ hes.2.2.1 hes.2.2.2.1 ?_ ?_
                    · rw [← hzf]; exact asc_lv (by rw [HML.out]; exact hk'm) HA.out
                    · rw [← hzf]; exact hes.1
                    · rw [← hzf]; exact hes.2.1
                  rw [hmg] at H47
                  have hmgl : mg.length ≤ 1048576 := by have := hEdm.len; have := HBIG.out; omega
                  have HEDM := hide hEdm
                  have HMGL := hide hmgl
                  obtain ⟨zn, hzn⟩ : ∃ zn, zs.length = zn := ⟨_, rfl⟩
                  rw [hzn] at cl H47
                  rw [hdn, han] at H47 ⊢
                  clear hzf hLe hRow hll hlc hEdm hmgl hmg z1 z2 hzn hdn han cl3 cl4 cl1
                  go_wp2_with (first
                    | (go_at_call 47; refine H47.out.mono ?_; rintro e w1 ⟨hB1, v1, rfl, hown1⟩
                       obtain ⟨va, vc, rfl, hvc⟩ := ownsRow_shape hown1
                       have HB1 := hide hB1
                       have HO1 := hide hown1
                       clear hB1 hown1)
                    | (go_at_call 35; refine (callsIn_wide.1 (leaves35 (.slice a4 D.length cap4) D va mg.length vc mg false w1 rfl HMGL.out hvc HO1.out.row.2.2 (HOWNc.out.kept (grown_of_below HB1.out none) (Classical.em _)) hdl)).mono ?_; rintro e w3 ⟨hg3, v3, ns, rfl, hrow3, hob3, hns, hk3⟩
                       obtain ⟨Ps, hPs, hPe⟩ := leaf_kids rfl hns (fun j hj => (hk3 j hj).1)
                       have hm := Lev.more (ps := ns) (HPWc.out.1.below HB1.out) hg3 (by rw [← HDD.out]) (by rw [← HDD.out]; exact hrow3) hob3
                       have HFIN : Hid (EL w 0 (.slice a0 u cap0) rs0 Ls ds xs (Ls.length - (k' + 1)) (.slice ad2 D2.length cd2) (.slice aa2 A2.length ca2) v3 (.int .i64 ((k' + 1 : Nat) : Int)) w3) :=
                         EL.step hm.1 ((K2.below HB1.out).trans hm.2) HPWc.out.2 hPs HES.out (by rw [hPe]; exact HEDM.out) HD2.out HA2.out
                       clear hg3 hrow3 hob3 hns hk3 hPs hPe hm))
                  go_roundg (Ls.length - (k' + 1))
                  case rel => exact HFIN.out
                  case measure => have e1 := HKC.out; have e2 := HML.out; omega
                | succ h' =>
                  have cl := (cl3 (by omega) k' hk'm).2
                  obtain ⟨nb2, m2, rs2, Ls2, hnode2, hnd2, hL2⟩ := hkid.nd
                  have hE2 : ents Ls2 = (lv Ls k').flatten := by rw [hL2]; rfl
                  rw [hnode2] at cl
                  have cl1' : wc.cell? ⟨nb, 1, none⟩ = some (.bool false) := cl1
                  have HR37 : Hid (Calls Try.prog 37 #[.pointer (some ⟨nb2, 0, none⟩), .slice ad d.length cd, .slice aa a.length ca, .slice a4 D.length cap4] wc fun e w' => EdR wc h' (.slice a4 D.length cap4) D (lv Ls k').flatten d a e w') := by
                    have hes := HES.out
                    have hb := HBIG.out
                    have kk := HPWc.out.1.2.2.2.2
                    rw [← hE2]
                    refine HREC.out h' rfl nb2 m2 rs2 Ls2 d a _ _ _ D wc hnd2 ?_ hes.2.2.1 hes.2.2.2.1 ?_ ?_ (H14.out.k2 kk) (H15.out.k2 kk) HOWNc.out HPWc.out.1.2.2.1 ?_
                    · rw [hE2]; exact asc_lv (by rw [HML.out]; exact hk'm) HA.out
                    · rw [hE2]; exact hes.1
                    · rw [hE2]; exact hes.2.1
                    · rw [hE2]; omega
                  rw [hdn, han] at HR37 ⊢
                  clear hL2 hE2 hnode2 hnd2 hdn han cl3 cl4 cl1 hkid
                  go_wp2_with (first
                    | (go_at_call 37; refine HR37.out.mono ?_; rintro e w3 ⟨hg3, v3, ps, Ps, rfl, hrow3, hob3, hne3, hk3, hEd3⟩
                       have hm := Lev.more (ps := ps) HPWc.out.1 hg3 (by rw [← HDD.out]) (by rw [← HDD.out]; exact hrow3) hob3
                       have HFIN : Hid (EL w (h' + 1) (.slice a0 u cap0) rs0 Ls ds xs (Ls.length - (k' + 1)) (.slice ad2 D2.length cd2) (.slice aa2 A2.length ca2) v3 (.int .i64 ((k' + 1 : Nat) : Int)) w3) :=
                         EL.step hm.1 hm.2 HPWc.out.2 hk3 HES.out hEd3 HD2.out HA2.out
                       clear hg3 hrow3 hob3 hne3 hk3 hEd3 hm))
                  go_roundg (Ls.length - (k' + 1))
                  case rel => exact HFIN.out
                  case measure => have e1 := HKC.out; have e2 := HML.out; omega

theorem edC : ∀ h, EdC h
  | 0 => ed37 0 (fun h' e => by omega)
  | h + 1 => ed37 (h + 1) (fun h' e => by
      obtain rfl : h = h' := by omega
      exact edC h)

end Go.Proofs.Qxb6613757a.T
