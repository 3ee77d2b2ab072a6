import Derived.Test.Qxb6613757aLy
import Derived.Test.Qxb6613757aModel
import Derived.Deep.DeepCutAuto
import Derived.Deep.LoopGhost
/-
  The law's walk: FnPointTreeEditedMatchesSetModel.
-/
namespace Go.Proofs.Qxb6613757a.T
open Go.RowKit Go.Shelf
set_option linter.unusedVariables false
set_option linter.unusedSimpArgs false

theorem RowC.below {w W : World} {a : Option Addr} {zs : List Int} (h : RowC w a zs) (hB : Below w.heap.size w W) : RowC W a zs := fun hp => by
  obtain ⟨b, o, e, hb, hc⟩ := h hp
  exact ⟨b, o, e, Nat.lt_of_lt_of_le hb hB.size, fun i hi => by rw [hB.cell (p := ⟨b, o + i, none⟩) hb]; exact hc i hi⟩

theorem el_flat {L : List (List Int)} {i j : Nat} (hi : i < L.length) (hj : j < (L[i]).length) : el L.flatten ((L.take i).flatten.length + j) = el L[i] j ∧ (L.take i).flatten.length + L[i].length ≤ L.flatten.length ∧ (L.take (i + 1)).flatten.length = (L.take i).flatten.length + L[i].length := by
  have e : L.flatten = (L.take i).flatten ++ (L[i] ++ (L.drop (i + 1)).flatten) := by
    conv => lhs; rw [← List.take_append_drop i L]
    rw [List.flatten_append, List.drop_eq_getElem_cons hi, List.flatten_cons]
  refine ⟨?_, ?_, ?_⟩
  · rw [e, el_append_right _ _ _ (by omega), Nat.add_sub_cancel_left, el_append_left _ _ _ hj]
  · rw [e, List.length_append, List.length_append]; omega
  · rw [List.take_succ_eq_append_getElem hi, List.flatten_append, List.length_append]; simp
def I1 (w1 : World) (T zl gk : Nat) (s13 s121 : Value) (wr : World) : Prop := wr = w1 ∧ ∃ j : Nat, s121 = .int .i64 (j : Nat) ∧ s13 = .int .i64 ((T + j : Nat) : Int) ∧ j ≤ zl ∧ zl - j ≤ gk
def O3 (W : World) (rl gk : Nat) (s18 : Value) (wr : World) : Prop := Below W.heap.size W wr ∧ ∃ i : Nat, s18 = .int .i64 (i : Nat) ∧ i ≤ rl ∧ rl - i ≤ gk

set_option maxRecDepth 100000 in
set_option maxHeartbeats 4000000 in
theorem walk6 (a0 a1 a2 : Option Addr) (n0 c0 n1 c1 n2 c2 : Nat) (E D A : List Int) (w : World) (hE : E.length = n0) (hD : D.length = n1) (hA : A.length = n2) (m0 : n0 ≤ maxLen) (m1 : n1 ≤ maxLen) (m2 : n2 ≤ maxLen)
    (z0 : a0 = none → n0 = 0 ∧ c0 = 0) (z1 : a1 = none → n1 = 0 ∧ c1 = 0) (z2 : a2 = none → n2 = 0 ∧ c2 = 0) (r0 : RowC w a0 E) (r1 : RowC w a1 D) (r2 : RowC w a2 A) :
    Calls Try.prog 6 #[.slice a0 n0 c0, .slice a1 n1 c1, .slice a2 n2 c2] w fun e w' => e = .returned (.bool true) ∧ Below w.heap.size w w' := by
  have HE := hide hE
  have HD := hide hD
  have HA := hide hA
  have HZ0 := hide z0
  have HZ1 := hide z1
  have HZ2 := hide z2
  have HR0 := hide r0
  have HR1 := hide r1
  have HR2 := hide r2
  have H13 := hide (bytes13 a0 a1 a2 n0 c0 n1 c1 n2 c2 w m0 m1 m2)
  clear hE hD hA z0 z1 z2 r0 r1 r2
  unfold maxLen at m0 m1 m2
  go_enter Try.func6, Try.ntmps6
  go_wp2_with fail
  refine H13.out.mono ?_
  rintro e w' ⟨rfl, h⟩
  clear H13
  rcases h with ⟨hle, rfl⟩ | rfl
  case inr =>
    go_wp2
    go_ret
    exact ⟨rfl, Below.refl _ _⟩
  by_cases h0 : 131072 < n0
  · go_wp2
    go_ret
    exact ⟨rfl, Below.refl _ _⟩
  by_cases h1 : 131072 < n1
  · go_wp2
    go_ret
    exact ⟨rfl, Below.refl _ _⟩
  by_cases h2 : 131072 < n2
  · go_wp2
    go_ret
    exact ⟨rfl, Below.refl _ _⟩
  by_cases h8 : 131072 < n0 + n1 + n2
  · have h8' : (1048576 : Int) < 8 * ((n0 : Int) + (n1 : Int) + (n2 : Int)) := by omega
    go_wp2
    go_ret
    exact ⟨rfl, Below.refl _ _⟩
  have h8' : ¬ ((1048576 : Int) < 8 * ((n0 : Int) + (n1 : Int) + (n2 : Int))) := by omega
  have H14 : Hid (∀ (W : World) (a : Option Addr) (n cap : Nat) (zs : List Int), Below w'.heap.size w' W → zs.length = n → n ≤ 1048576 → RowC w' a zs → Calls Try.prog 14 #[.slice a n cap] W fun e w2 => Below w'.heap.size w' w2 ∧ ((Asc zs ∧ e = .returned (.bool true)) ∨ (¬ Asc zs ∧ e = .returned (.bool false)))) := fun W a n cap zs hB hz hn hr => by
    refine (asc14c a n cap zs W hz hn (hr.below hB)).mono ?_
    rintro e w2 ⟨⟨q, rfl⟩, h⟩
    exact ⟨below_drewN hB q, h⟩
  go_wp2_with fail
  refine (H14.out _ a0 n0 c0 E (Below.refl _ _) HE.out (by omega) HR0.out).mono ?_
  rintro e w1 ⟨hB1, h⟩
  rcases h with ⟨aE, rfl⟩ | ⟨_, rfl⟩
  case inr =>
    go_wp2
    go_ret
    exact ⟨rfl, hB1⟩
  have HB1 := hide hB1
  clear hB1
  go_wp2_with fail
  refine (H14.out _ a1 n1 c1 D HB1.out HD.out (by omega) HR1.out).mono ?_
  rintro e w2 ⟨hB2, h⟩
  clear HB1
  rcases h with ⟨aD, rfl⟩ | ⟨_, rfl⟩
  case inr =>
    go_wp2
    go_ret
    exact ⟨rfl, hB2⟩
  have HB2 := hide hB2
  clear hB2
  go_wp2_with fail
  refine (H14.out _ a2 n2 c2 A HB2.out HA.out (by omega) HR2.out).mono ?_
  rintro e w3 ⟨hB3, h⟩
  clear HB2 H14
  rcases h with ⟨aA, rfl⟩ | ⟨_, rfl⟩
  case inr =>
    go_wp2
    go_ret
    exact ⟨rfl, hB3⟩
  have HB3 := hide hB3
  have HaE := hide aE
  have HaD := hide aD
  have HaA := hide aA
  clear hB3 aE aD aA
  go_wp2_with fail
  refine (sub15c a1 a0 n1 c1 n0 c0 D E w3 HD.out HE.out (by omega) (by omega) (HR1.out.below HB3.out) (HR0.out.below HB3.out) HaD.out HaE.out).mono ?_
  rintro e w4 ⟨rfl, h⟩
  rcases h with ⟨hS, rfl⟩ | ⟨_, rfl⟩
  case inr =>
    go_wp2
    go_ret
    exact ⟨rfl, HB3.out⟩
  have HS := hide hS
  clear hS
  go_wp2_with fail
  refine (dis16c a2 a0 n2 c2 n0 c0 A E _ HA.out HE.out (by omega) (by omega) (HR2.out.below HB3.out) (HR0.out.below HB3.out) HaA.out HaE.out).mono ?_
  rintro e w5 ⟨rfl, h⟩
  rcases h with ⟨hX, rfl⟩ | ⟨_, rfl⟩
  case inr =>
    go_wp2
    go_ret
    exact ⟨rfl, HB3.out⟩
  have HX := hide hX
  clear hX
  have hsum : n0 + n1 + n2 ≤ 131072 := by omega
  clear h0 h1 h2 h8 h8' hle m0 m1 m2
  obtain ⟨Z0, hZ0, hmk0⟩ := make37 n0 (by omega)
  go_upto_if 71 with fail
  go_cut [0, 7] (fun s0 s7 wx => Below w5.heap.size w5 wx ∧ SlU wx s0 E)
  case first =>
    cases a0 with
    | none =>
      obtain ⟨rfl, rfl⟩ := HZ0.out rfl
      go_wp2
      go_meet
      exact ⟨Below.refl _ _, by rw [List.eq_nil_of_length_eq_zero HE.out]; exact SlU.nil _⟩
    | some x =>
      obtain ⟨wc1, hrun, hBc, hSl⟩ := copied37 w5 (some x) n0 c0 E HE.out (HR0.out.below HB3.out)
      have HBc := hide hBc
      have HSl := hide hSl
      clear hBc hSl
      go_wp2
      try (rw [hrun]; go_wp2)
      go_meet
      exact ⟨HBc.out, HSl.out⟩
  case rest =>
  obtain ⟨hB6, ⟨b0, e0, rfl, hb0, hrow0⟩⟩ := hcut
  have HB6 : Hid (Below w'.heap.size w' wc) := HB3.out.trans (hB6.mono HB3.out.size)
  have HROW0 := hide hrow0
  rw [HE.out] at hb0 ⊢
  clear hB6 hrow0 HB3 hmk0 hZ0
  obtain ⟨w6, hw6⟩ : ∃ w6, w6 = wc := ⟨_, rfl⟩
  subst hw6
  obtain ⟨Z1, hZ1, hmk1⟩ := make37 n1 (by omega)
  go_upto_if 80 with fail
  go_cut [1, 8] (fun s1 s8 wx => Below w6.heap.size w6 wx ∧ SlU wx s1 D)
  case first =>
    cases a1 with
    | none =>
      obtain ⟨rfl, rfl⟩ := HZ1.out rfl
      go_wp2
      go_meet
      exact ⟨Below.refl _ _, by rw [List.eq_nil_of_length_eq_zero HD.out]; exact SlU.nil _⟩
    | some x =>
      obtain ⟨wc1, hrun, hBc, hSl⟩ := copied37 w6 (some x) n1 c1 D HD.out (HR1.out.below HB6.out)
      have HBc := hide hBc
      have HSl := hide hSl
      clear hBc hSl
      go_wp2
      try (rw [hrun]; go_wp2)
      go_meet
      exact ⟨HBc.out, HSl.out⟩
  case rest =>
  obtain ⟨hB7, ⟨b1, e1, rfl, hb1, hrow1⟩⟩ := hcut
  have HB7 : Hid (Below w'.heap.size w' wc) := HB6.out.trans (hB7.mono HB6.out.size)
  have HROW0b : Hid (Row wc b0 E) := HROW0.out.k2 (K2.below hB7)
  have HROW1 := hide hrow1
  rw [HD.out] at hb1 ⊢
  clear hB7 hrow1 HB6 HROW0 hmk1 hZ1
  obtain ⟨w7, hw7⟩ : ∃ w7, w7 = wc := ⟨_, rfl⟩
  subst hw7
  obtain ⟨Z2, hZ2, hmk2⟩ := make37 n2 (by omega)
  go_upto_if 89 with fail
  go_cut [2, 9] (fun s2 s9 wx => Below w7.heap.size w7 wx ∧ SlU wx s2 A)
  case first =>
    cases a2 with
    | none =>
      obtain ⟨rfl, rfl⟩ := HZ2.out rfl
      go_wp2
      go_meet
      exact ⟨Below.refl _ _, by rw [List.eq_nil_of_length_eq_zero HA.out]; exact SlU.nil _⟩
    | some x =>
      obtain ⟨wc1, hrun, hBc, hSl⟩ := copied37 w7 (some x) n2 c2 A HA.out (HR2.out.below HB7.out)
      have HBc := hide hBc
      have HSl := hide hSl
      clear hBc hSl
      go_wp2
      try (rw [hrun]; go_wp2)
      go_meet
      exact ⟨HBc.out, HSl.out⟩
  case rest =>
  obtain ⟨hB8, ⟨b2, e2, rfl, hb2, hrow2⟩⟩ := hcut
  have HB8 : Hid (Below w'.heap.size w' wc) := HB7.out.trans (hB8.mono HB7.out.size)
  have HROW0 : Hid (Row wc b0 E) := HROW0b.out.k2 (K2.below hB8)
  have HROW1b : Hid (Row wc b1 D) := HROW1.out.k2 (K2.below hB8)
  have HROW2 := hide hrow2
  rw [HA.out] at hb2 ⊢
  clear hB8 hrow2 HB7 HROW0b HROW1 hmk2 hZ2
  obtain ⟨w8, hw8⟩ : ∃ w8, w8 = wc := ⟨_, rfl⟩
  subst hw8
  have HROW1 := HROW1b
  clear HROW1b
  have H17 := hide (model17 b0 b1 b2 n0 e0 n1 e1 n2 e2 E D A w8 HE.out HD.out HA.out (by omega) HROW0.out HROW1.out HROW2.out HaE.out HaD.out HaA.out HX.out)
  clear HR0 HR1 HR2 HZ0 HZ1 HZ2
  go_wp2_with (go_at_call 17; refine H17.out.mono ?_; rintro e w9 ⟨hB9, v9, R, rfl, hown9, hEd9, hRl⟩
               have HB9 := hide hB9
               have HO9 := hide hown9
               have HED9 := hide hEd9
               obtain ⟨va, vc, rfl, hvc⟩ := ownsRow_shape hown9
               obtain ⟨rl, hrl⟩ : ∃ rl, R.length = rl := ⟨_, rfl⟩
               rw [hrl] at HO9 hvc ⊢
               have HRL := hide hrl
               have H18 := hide (zz18 b0 n0 e0 E w9 HE.out (by omega) hb0 (HROW0.out.k2 (K2.below hB9)))
               clear hB9 hown9 hEd9 hrl)
  refine H18.out.mono ?_
  rintro e w10 ⟨hB10, root, L, rfl, ht10, hL10⟩
  obtain ⟨W11, hW11⟩ : ∃ W11, w10.alloc (.cells #[.pointer root, .int .i64 (n0 : Int)] 44) = W11 := ⟨_, rfl⟩
  have hB11 : Below w9.heap.size w9 W11 := by rw [← hW11]; exact hB10.alloc hB10.size _
  have kB9 := K2.below HB9.out
  have k911 := K2.below hB11
  have k1011 : K2 w10 W11 := by rw [← hW11]; exact K2.alloc _ _
  have H19 := hide (zz19 root n0 L D A (.slice b1 n1 e1) (.slice b2 n2 e2) W11 (ht10.k2 k1011) (by rw [hL10]; exact HE.out) (by rw [hL10]; exact HaE.out) HaD.out HaA.out (by rw [hL10]; exact HS.out) (by rw [hL10]; exact HX.out)
    ⟨b1, e1, by rw [HD.out], by rw [HD.out]; exact hb1, (HROW1.out.k2 kB9).k2 k911⟩ ⟨b2, e2, by rw [HA.out], by rw [HA.out]; exact hb2, (HROW2.out.k2 kB9).k2 k911⟩ (by rw [HD.out, HA.out]; omega))
  rw [hL10] at H19
  have HB11 := hide hB11
  clear hB10 ht10 hL10 hB11 kB9 k911 k1011 H17 H18 HROW0 HROW1 HROW2
  have hc0 : W11.cell? ⟨w10.heap.size, 0, none⟩ = some (.pointer root) := by rw [← hW11]; simp [go_sem]
  have hc1 : W11.cell? ⟨w10.heap.size, 1, none⟩ = some (.int .i64 (n0 : Int)) := by rw [← hW11]; simp [go_sem]
  go_wp2_with fail
  refine H19.out.mono ?_
  rintro e w12 ⟨hB12, root2, L2, rfl, ht12, hEd12⟩
  have hL2 : L2.flatten = R := hEd12.unique HED9.out
  rw [hL2, HRL.out]
  clear hc0 hc1 hW11
  obtain ⟨W13, hW13⟩ : ∃ W13, w12.alloc (.cells #[.pointer root2, .int .i64 (rl : Int)] 44) = W13 := ⟨_, rfl⟩
  have hB13 : Below w9.heap.size w9 W13 := by rw [← hW13]; exact ((HB11.out.trans (hB12.mono HB11.out.size)).alloc (Nat.le_trans HB11.out.size hB12.size) _)
  have hbx : W13.rowIs w12.heap.size 44 2 (fun j => if j = 0 then .pointer root2 else .int .i64 (rl : Int)) := by
    rw [← hW13]
    exact World.rowIs_alloc w12 #[.pointer root2, .int .i64 (rl : Int)] 44 _ (fun i hi => by
      have : i < 2 := hi
      match i, this with
      | 0, _ => rfl
      | 1, _ => rfl)
  have ht13 : TreeIs W13 root2 L2 := by rw [← hW13]; exact ht12.k2 (K2.alloc _ _)
  have hrlb : rl ≤ 1048576 := by rw [← HRL.out]; omega
  have HBX : Hid (∀ W, Below W13.heap.size W13 W → W.cell? ⟨w12.heap.size, 0, none⟩ = some (.pointer root2) ∧ W.cell? ⟨w12.heap.size, 1, none⟩ = some (.int .i64 (rl : Int)) ∧ TreeIs W root2 L2 ∧ (0 < rl → ∃ bw ow, va = some ⟨bw, ow, none⟩ ∧ bw < W.heap.size ∧ ∀ k, k < rl → W.cell? ⟨bw, ow + k, none⟩ = some (.int .u64 (el R k))) ∧ Below w'.heap.size w' W) := fun W hB => by
    have hb := hbx.of_block (hB.block _ hbx.lt)
    refine ⟨hb.cell (i := 0) (by omega), hb.cell (i := 1) (by omega), ht13.k2 (K2.below hB), fun hp => ?_, ?_⟩
    · have ho := HO9.out
      have hR := (OwnU.row (w := w9) (zs := R) ho).2.2
      obtain ⟨bw, ow, e, hbw, hcw⟩ := hR.at (by rw [HRL.out]; exact hp)
      have hB9W := hB13.trans (hB.mono hB13.size)
      exact ⟨bw, ow, e, Nat.lt_of_lt_of_le hbw hB9W.size, fun k hk => by rw [hB9W.cell (p := ⟨bw, ow + k, none⟩) hbw]; exact hcw k (by rw [HRL.out]; exact hk)⟩
    · exact (HB8.out.trans (HB9.out.mono HB8.out.size)).trans ((hB13.trans (hB.mono hB13.size)).mono (HB8.out.trans (HB9.out.mono HB8.out.size)).size)
  obtain ⟨bc0, bc1, _⟩ := HBX.out W13 (Below.refl _ _)
  have hLR : L2.flatten.length = rl := by rw [hL2]; exact HRL.out
  have HL2 := hide hL2
  have HLR := hide hLR
  have H20 := hide (zlen20 root2 rl W13)
  have H21 : Hid (∀ W, Below W13.heap.size W13 W → Calls Try.prog 21 #[.agg #[.pointer root2, .int .i64 (rl : Nat)]] W fun e w' => LvR W L2 e w') := fun W hB => zz21 root2 rl L2 W (HBX.out W hB).2.2.1 (by rw [hLR]; omega)
  have HLV := hide (tree_leaves ht13)
  clear hB12 ht12 hEd12 hL2 hB13 hbx ht13 hLR HO9 HED9 H19 HB11 HB9 HB8
  go_wp2_with (first
    | (go_at_call 20; refine H20.out.mono ?_; rintro e w14 ⟨hB14, rfl⟩
       obtain ⟨bd0, bd1, _⟩ := HBX.out w14 hB14
       have HB14 := hide hB14
       clear hB14)
    | (go_at_call 21; refine (H21.out w14 HB14.out).mono ?_; rintro e w15 ⟨hB15, v15, vals, rfl, hown15, hlf15⟩
       have HB15 : Hid (Below W13.heap.size W13 w15) := HB14.out.trans (hB15.mono HB14.out.size)
       obtain ⟨ca, cc, rfl, hcc⟩ := ownsRow_shape hown15
       obtain ⟨N, hN⟩ : ∃ N, vals.length = N := ⟨_, rfl⟩
       have hNL : N = L2.length := by rw [← hN]; exact hlf15.1
       rw [hN] at hown15 hcc ⊢
       have HO15 := hide hown15
       have HLF := hide hlf15
       have HNL := hide hNL
       clear hB15 hown15 hlf15 hN hNL))
  obtain ⟨bd0, bd1, _, hwant, _⟩ := HBX.out w15 HB15.out
  have HW := hide hwant
  have HF : Hid (FR w15 L2 N (.int .i64 0) (.int .i64 0) w15) := ⟨rfl, 0, rfl, by simp, Nat.zero_le _, by rw [HNL.out]; exact Nat.sub_le _ _⟩
  have hNb : N ≤ 1048576 := by
    rw [HNL.out]
    have := flat_len (fun z hz => (HLV.out z hz).1)
    rw [HLR.out] at this
    omega
  clear hwant H20 H21 bc0 bc1
  go_loopg [13, 115] N (fun gk s13 s115 wr => FR w15 L2 gk s13 s115 wr)
  case atStart => exact HF.out
  case round =>
    obtain ⟨rfl, i, rfl, rfl, hi, hgk⟩ := hrel
    clear HF
    by_cases hlt : i < N
    · have hlL : i < L2.length := by rw [← HNL.out]; exact hlt
      obtain ⟨a, cc2, f1, f2⟩ := HLF.out.2 i hlL
      obtain ⟨g, cap', hgc⟩ := own_some HO15.out (by omega)
      cases hgc
      have hc := own_cell HO15.out i hlt
      rw [f1] at hc
      obtain ⟨z1, z2⟩ := HLV.out L2[i] (List.getElem_mem hlL)
      have hef := fun j hj => el_flat (L := L2) (i := i) (j := j) hlL hj
      obtain ⟨_, hT2, hT3⟩ := hef 0 (by omega)
      rw [HLR.out] at hT2
      have HEF : Hid (∀ j, j < L2[i].length → el R ((L2.take i).flatten.length + j) = el L2[i] j) := fun j hj => by rw [← HL2.out]; exact (hef j hj).1
      obtain ⟨bz, oz, hza, hbz, hcz⟩ := f2.at (by omega)
      subst hza
      have HCZ := hide hcz
      clear hef f1 f2 hcz
      obtain ⟨T, hT⟩ : ∃ T, (L2.take i).flatten.length = T := ⟨_, rfl⟩
      obtain ⟨z, hz⟩ : ∃ z, L2[i] = z := ⟨_, rfl⟩
      rw [hT] at hT2 hT3 HEF ⊢
      rw [hz] at hc z1 z2 hT2 hT3 HEF HCZ
      obtain ⟨zl, hzl⟩ : ∃ zl, z.length = zl := ⟨_, rfl⟩
      rw [hzl] at hc z1 z2 hT2 hT3 HEF HCZ
      have hgl := World.block_lt_of_cell? wr ⟨g, i, none⟩ hc
      have HI1 : Hid (I1 wr T zl zl (.int .i64 (T : Nat)) (.int .i64 0) wr) := ⟨rfl, 0, rfl, by simp, Nat.zero_le _, Nat.le_refl _⟩
      have HT3 := hide hT3
      clear hT3 hT hz hzl
      obtain ⟨w16, hw16⟩ : ∃ w16, w16 = wr := ⟨_, rfl⟩
      subst hw16
      go_wp2
      go_loopg [13, 121] zl (fun gk s13 s121 wr => I1 w16 T zl gk s13 s121 wr)
      case atStart => exact HI1.out
      case round =>
        obtain ⟨rfl, j, rfl, rfl, hj, hgj⟩ := hrel
        clear HI1
        by_cases hjl : j < zl
        · have cz := HCZ.out j hjl
          have he := HEF.out j hjl
          obtain ⟨bw, ow, hva, hbw, hcw⟩ := HW.out (by omega)
          subst hva
          have cw := hcw (T + j) (by omega)
          rw [he] at cw
          have hkk : T + j < rl := by omega
          clear he hcw
          generalize el z j = x at *
          have HNX : Hid (I1 wr T zl (zl - (j + 1)) (.int .i64 ((T + (j + 1) : Nat) : Int)) (.int .i64 ((j + 1 : Nat) : Int)) wr) := ⟨rfl, j + 1, rfl, rfl, hjl, Nat.le_refl _⟩
          obtain ⟨K, hK⟩ : ∃ K, T + j = K := ⟨_, rfl⟩
          have hK1 : T + (j + 1) = K + 1 := by omega
          rw [hK1] at HNX
          rw [hK] at cw hkk ⊢
          have HK := hide hK
          clear hK hK1
          go_wp2
          go_roundg (zl - (j + 1))
          case rel => exact HNX.out
          case measure => omega
        · obtain rfl : j = zl := by omega
          have HNX : Hid (FR wr L2 (N - (i + 1)) (.int .i64 ((T + j : Nat) : Int)) (.int .i64 ((i + 1 : Nat) : Int)) wr) := ⟨rfl, i + 1, rfl, by rw [HT3.out], hlL, by rw [HNL.out]; exact Nat.le_refl _⟩
          obtain ⟨K, hK⟩ : ∃ K, T + j = K := ⟨_, rfl⟩
          rw [hK] at HNX ⊢
          clear hK
          go_wp2
          go_roundg (N - (i + 1))
          case rel => exact HNX.out
          case measure => rw [← HNL.out] at hgk; omega
    · obtain rfl : i = N := by rw [← HNL.out] at hi; omega
      have hTe : (L2.take i).flatten.length = rl := by rw [List.take_of_length_le (by rw [← HNL.out]; exact Nat.le_refl _)]; exact HLR.out
      rw [hTe]
      have HO : Hid (O3 W13 rl rl (.int .i64 0) wr) := ⟨HB15.out, 0, rfl, Nat.zero_le _, Nat.le_refl _⟩
      clear hTe
      go_wp2
      go_loopg [18] rl (fun gk s18 wr => O3 W13 rl gk s18 wr)
      case atStart => exact HO.out
      case round =>
        obtain ⟨hB, q, rfl, hq, hgq⟩ := hrel
        obtain ⟨cb0, cb1, ht, hwant, hBel⟩ := HBX.out _ hB
        clear HO
        by_cases hql : q < rl
        · obtain ⟨bw, ow, hva, hbw, hcw⟩ := hwant (by omega)
          subst hva
          have cw := hcw q hql
          have H22 := hide (zat22 root2 rl q L2 wr.drew (ht.k2 (K2.drew _)) (by rw [HLR.out]; exact hql) (by rw [HLR.out]; exact hrlb))
          rw [HL2.out] at H22
          have HN17 : Hid (∀ w17 : World, Below wr.drew.heap.size wr.drew w17 → Below W13.heap.size W13 w17) := fun w17 h => hB.drew.trans (h.mono hB.size)
          have HC17 : Hid (∀ w17 : World, Below wr.drew.heap.size wr.drew w17 → w17.cell? ⟨bw, ow + q, none⟩ = some (.int .u64 (el R q))) := fun w17 h => (h.cell (p := ⟨bw, ow + q, none⟩) hbw).trans cw
          obtain ⟨x, hx⟩ : ∃ x, el R q = x := ⟨_, rfl⟩
          rw [hx] at cw H22 HC17
          clear hx hcw ht hwant hBel hB HW HLF HO15 HLV
          go_wp2
          go_region_held_law (fun w' => w'.cell? ⟨w12.heap.size, 0, none⟩ = some (.pointer root2) ∧ w'.cell? ⟨w12.heap.size, 1, none⟩ = some (.int .i64 (rl : Int)) ∧ w'.cell? ⟨bw, ow + q, none⟩ = some (.int .u64 x))
            (first | exact ⟨cb0, cb1, cw⟩ | exact HS17.out)
            (first
              | (go_at_call 22; refine H22.out.mono ?_; rintro e w17 ⟨hB17, rfl⟩
                 obtain ⟨s0, s1, _⟩ := HBX.out w17 (HN17.out w17 hB17)
                 have HS17 : Hid (w17.cell? ⟨w12.heap.size, 0, none⟩ = some (.pointer root2) ∧ w17.cell? ⟨w12.heap.size, 1, none⟩ = some (.int .i64 (rl : Int)) ∧ w17.cell? ⟨bw, ow + q, none⟩ = some (.int .u64 x)) := ⟨s0, s1, HC17.out w17 hB17⟩
                 have HO17 : Hid (O3 W13 rl (rl - (q + 1)) (.int .i64 ((q + 1 : Nat) : Int)) w17) := ⟨HN17.out w17 hB17, q + 1, rfl, hql, Nat.le_refl _⟩
                 clear hB17 s0 s1))
          go_wp2
          go_roundg (rl - (q + 1))
          case rel => exact HO17.out
          case measure => omega
        · obtain rfl : q = rl := by omega
          have HBel := hide hBel
          clear ht hwant hBel hB
          go_wp2
          go_ret
          exact ⟨rfl, HBel.out⟩

end Go.Proofs.Qxb6613757a.T
