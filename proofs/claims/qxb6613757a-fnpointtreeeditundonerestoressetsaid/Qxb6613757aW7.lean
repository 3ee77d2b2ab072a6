import Derived.Test.Qxb6613757aW6
/-
  The law's walk: FnPointTreeEditUndoneRestoresSet.
-/
namespace Go.Proofs.Qxb6613757a.T
open Go.RowKit Go.Shelf
set_option linter.unusedVariables false
set_option linter.unusedSimpArgs false

/-- an edit undone -/
theorem Ed.undo {E D A R : List Int} (h : Ed E D A R) (hE : Asc E) (hS : Sub D E) (hX : Dis A E) : Ed R A D E ∧ Sub A R ∧ Dis D R := by
  refine ⟨⟨hE, fun x => ⟨fun hx => ?_, fun hx => ?_⟩⟩, fun x hx => (h.2 x).2 (.inr hx), fun x hx hr => ?_⟩
  · by_cases hd : x ∈ D
    · exact .inr hd
    · exact .inl ⟨(h.2 x).2 (.inl ⟨hx, hd⟩), fun ha => hX x ha hx⟩
  · rcases hx with ⟨hr, hna⟩ | hd
    · rcases (h.2 x).1 hr with ⟨he, _⟩ | ha
      · exact he
      · exact absurd ha hna
    · exact hS x hd
  · rcases (h.2 x).1 hr with ⟨_, hd⟩ | ha
    · exact hd hx
    · exact hX x ha (hS x hx)

theorem box44 (w : World) (root : Option Addr) (c : Nat) : (w.alloc (.cells #[.pointer root, .int .i64 (c : Int)] 44)).rowIs w.heap.size 44 2 (fun j => if j = 0 then .pointer root else .int .i64 (c : Int)) :=
  World.rowIs_alloc w #[.pointer root, .int .i64 (c : Int)] 44 _ (fun i hi => by
    have : i < 2 := hi
    match i, this with
    | 0, _ => rfl
    | 1, _ => rfl)

def O7 (W : World) (n gk : Nat) (s : Value) (wr : World) : Prop := (∃ q, wr = W.drewN q) ∧ ∃ i : Nat, s = .int .i64 (i : Nat) ∧ i ≤ n ∧ n - i ≤ gk

set_option maxRecDepth 100000 in
set_option maxHeartbeats 4000000 in
theorem walk7 (a0 a1 a2 : Option Addr) (n0 c0 n1 c1 n2 c2 : Nat) (E D A : List Int) (w : World) (hE : E.length = n0) (hD : D.length = n1) (hA : A.length = n2) (m0 : n0 ≤ maxLen) (m1 : n1 ≤ maxLen) (m2 : n2 ≤ maxLen)
    (z0 : a0 = none → n0 = 0 ∧ c0 = 0) (z1 : a1 = none → n1 = 0 ∧ c1 = 0) (z2 : a2 = none → n2 = 0 ∧ c2 = 0) (r0 : RowC w a0 E) (r1 : RowC w a1 D) (r2 : RowC w a2 A) :
    Calls Try.prog 7 #[.slice a0 n0 c0, .slice a1 n1 c1, .slice a2 n2 c2] w fun e w' => e = .returned (.bool true) ∧ Below w.heap.size w w' := by
  have HE := hide hE
  have HD := hide hD
  have HA := hide hA
  have HZ0 := hide z0
  have HZ1 := hide z1
  have HZ2 := hide z2
  have HR0 := hide r0
  have HR1 := hide r1
  have HR2 := hide r2
  have H23 := hide (bytes23 a0 a1 a2 n0 c0 n1 c1 n2 c2 w m0 m1 m2)
  clear hE hD hA z0 z1 z2 r0 r1 r2
  unfold maxLen at m0 m1 m2
  go_enter Try.func7, Try.ntmps7
  go_wp2_with fail
  refine H23.out.mono ?_
  rintro e w' ⟨rfl, h⟩
  clear H23
  rcases h with ⟨hle, rfl⟩ | rfl
  case inr =>
    go_wp2
    go_ret
    exact ⟨rfl, Below.refl _ _⟩
  by_cases h0 : 131072 < n0
  · go_wp2
    go_ret
    exact ⟨rfl, Below.refl _ _⟩
  by_cases h1 : 131072 < n1
  · go_wp2
    go_ret
    exact ⟨rfl, Below.refl _ _⟩
  by_cases h2 : 131072 < n2
  · go_wp2
    go_ret
    exact ⟨rfl, Below.refl _ _⟩
  by_cases h8 : 131072 < n0 + n1 + n2
  · have h8' : (1048576 : Int) < 8 * ((n0 : Int) + (n1 : Int) + (n2 : Int)) := by omega
    go_wp2
    go_ret
    exact ⟨rfl, Below.refl _ _⟩
  have h8' : ¬ ((1048576 : Int) < 8 * ((n0 : Int) + (n1 : Int) + (n2 : Int))) := by omega
  have H14 : Hid (∀ (W : World) (a : Option Addr) (n cap : Nat) (zs : List Int), Below w'.heap.size w' W → zs.length = n → n ≤ 1048576 → RowC w' a zs → Calls Try.prog 14 #[.slice a n cap] W fun e w2 => Below w'.heap.size w' w2 ∧ ((Asc zs ∧ e = .returned (.bool true)) ∨ (¬ Asc zs ∧ e = .returned (.bool false)))) := fun W a n cap zs hB hz hn hr => by
    refine (asc14c a n cap zs W hz hn (hr.below hB)).mono ?_
    rintro e w2 ⟨⟨q, rfl⟩, h⟩
    exact ⟨below_drewN hB q, h⟩
  go_wp2_with fail
  refine (H14.out _ a0 n0 c0 E (Below.refl _ _) HE.out (by omega) HR0.out).mono ?_
  rintro e w1 ⟨hB1, h⟩
  rcases h with ⟨aE, rfl⟩ | ⟨_, rfl⟩
  case inr =>
    go_wp2
    go_ret
    exact ⟨rfl, hB1⟩
  have HB1 := hide hB1
  clear hB1
  go_wp2_with fail
  refine (H14.out _ a1 n1 c1 D HB1.out HD.out (by omega) HR1.out).mono ?_
  rintro e w2 ⟨hB2, h⟩
  clear HB1
  rcases h with ⟨aD, rfl⟩ | ⟨_, rfl⟩
  case inr =>
    go_wp2
    go_ret
    exact ⟨rfl, hB2⟩
  have HB2 := hide hB2
  clear hB2
  go_wp2_with fail
  refine (H14.out _ a2 n2 c2 A HB2.out HA.out (by omega) HR2.out).mono ?_
  rintro e w3 ⟨hB3, h⟩
  clear HB2 H14
  rcases h with ⟨aA, rfl⟩ | ⟨_, rfl⟩
  case inr =>
    go_wp2
    go_ret
    exact ⟨rfl, hB3⟩
  have HB3 := hide hB3
  have HaE := hide aE
  have HaD := hide aD
  have HaA := hide aA
  clear hB3 aE aD aA
  go_wp2_with fail
  refine (sub15c a1 a0 n1 c1 n0 c0 D E w3 HD.out HE.out (by omega) (by omega) (HR1.out.below HB3.out) (HR0.out.below HB3.out) HaD.out HaE.out).mono ?_
  rintro e w4 ⟨rfl, h⟩
  rcases h with ⟨hS, rfl⟩ | ⟨_, rfl⟩
  case inr =>
    go_wp2
    go_ret
    exact ⟨rfl, HB3.out⟩
  have HS := hide hS
  clear hS
  go_wp2_with fail
  refine (dis16c a2 a0 n2 c2 n0 c0 A E _ HA.out HE.out (by omega) (by omega) (HR2.out.below HB3.out) (HR0.out.below HB3.out) HaA.out HaE.out).mono ?_
  rintro e w5 ⟨rfl, h⟩
  rcases h with ⟨hX, rfl⟩ | ⟨_, rfl⟩
  case inr =>
    go_wp2
    go_ret
    exact ⟨rfl, HB3.out⟩
  have HX := hide hX
  clear hX
  have hsum : n0 + n1 + n2 ≤ 131072 := by omega
  clear h0 h1 h2 h8 h8' hle m0 m1 m2
  obtain ⟨Z0, hZ0, hmk0⟩ := make37 n0 (by omega)
  go_upto_if 69 with fail
  go_cut [0, 7] (fun s0 s7 wx => Below w5.heap.size w5 wx ∧ SlU wx s0 E)
  case first =>
    cases a0 with
    | none =>
      obtain ⟨rfl, rfl⟩ := HZ0.out rfl
      go_wp2
      go_meet
      exact ⟨Below.refl _ _, by rw [List.eq_nil_of_length_eq_zero HE.out]; exact SlU.nil _⟩
    | some x =>
      obtain ⟨wc1, hrun, hBc, hSl⟩ := copied37 w5 (some x) n0 c0 E HE.out (HR0.out.below HB3.out)
      have HBc := hide hBc
      have HSl := hide hSl
      clear hBc hSl
      go_wp2
      try (rw [hrun]; go_wp2)
      go_meet
      exact ⟨HBc.out, HSl.out⟩
  case rest =>
  obtain ⟨hB6, ⟨b0, e0, rfl, hb0, hrow0⟩⟩ := hcut
  have HB6 : Hid (Below w'.heap.size w' wc) := HB3.out.trans (hB6.mono HB3.out.size)
  have HROW0 := hide hrow0
  rw [HE.out] at hb0 ⊢
  clear hB6 hrow0 HB3 hmk0 hZ0
  obtain ⟨w6, hw6⟩ : ∃ w6, w6 = wc := ⟨_, rfl⟩
  subst hw6
  obtain ⟨Z1, hZ1, hmk1⟩ := make37 n1 (by omega)
  go_upto_if 78 with fail
  go_cut [1, 8] (fun s1 s8 wx => Below w6.heap.size w6 wx ∧ SlU wx s1 D)
  case first =>
    cases a1 with
    | none =>
      obtain ⟨rfl, rfl⟩ := HZ1.out rfl
      go_wp2
      go_meet
      exact ⟨Below.refl _ _, by rw [List.eq_nil_of_length_eq_zero HD.out]; exact SlU.nil _⟩
    | some x =>
      obtain ⟨wc1, hrun, hBc, hSl⟩ := copied37 w6 (some x) n1 c1 D HD.out (HR1.out.below HB6.out)
      have HBc := hide hBc
      have HSl := hide hSl
      clear hBc hSl
      go_wp2
      try (rw [hrun]; go_wp2)
      go_meet
      exact ⟨HBc.out, HSl.out⟩
  case rest =>
  obtain ⟨hB7, ⟨b1, e1, rfl, hb1, hrow1⟩⟩ := hcut
  have HB7 : Hid (Below w'.heap.size w' wc) := HB6.out.trans (hB7.mono HB6.out.size)
  have HROW0b : Hid (Row wc b0 E) := HROW0.out.k2 (K2.below hB7)
  have HROW1 := hide hrow1
  rw [HD.out] at hb1 ⊢
  clear hB7 hrow1 HB6 HROW0 hmk1 hZ1
  obtain ⟨w7, hw7⟩ : ∃ w7, w7 = wc := ⟨_, rfl⟩
  subst hw7
  obtain ⟨Z2, hZ2, hmk2⟩ := make37 n2 (by omega)
  go_upto_if 87 with fail
  go_cut [2, 9] (fun s2 s9 wx => Below w7.heap.size w7 wx ∧ SlU wx s2 A)
  case first =>
    cases a2 with
    | none =>
      obtain ⟨rfl, rfl⟩ := HZ2.out rfl
      go_wp2
      go_meet
      exact ⟨Below.refl _ _, by rw [List.eq_nil_of_length_eq_zero HA.out]; exact SlU.nil _⟩
    | some x =>
      obtain ⟨wc1, hrun, hBc, hSl⟩ := copied37 w7 (some x) n2 c2 A HA.out (HR2.out.below HB7.out)
      have HBc := hide hBc
      have HSl := hide hSl
      clear hBc hSl
      go_wp2
      try (rw [hrun]; go_wp2)
      go_meet
      exact ⟨HBc.out, HSl.out⟩
  case rest =>
  obtain ⟨hB8, ⟨b2, e2, rfl, hb2, hrow2⟩⟩ := hcut
  have HB8 : Hid (Below w'.heap.size w' wc) := HB7.out.trans (hB8.mono HB7.out.size)
  have HROW0 : Hid (Row wc b0 E) := HROW0b.out.k2 (K2.below hB8)
  have HROW1b : Hid (Row wc b1 D) := HROW1.out.k2 (K2.below hB8)
  have HROW2 := hide hrow2
  rw [HA.out] at hb2 ⊢
  clear hB8 hrow2 HB7 HROW0b HROW1 hmk2 hZ2
  obtain ⟨w8, hw8⟩ : ∃ w8, w8 = wc := ⟨_, rfl⟩
  subst hw8
  have HROW1 := HROW1b
  clear HROW1b
  have hn10 : n1 ≤ n0 := by
    have := asc_len HaD.out HS.out
    rw [HD.out, HE.out] at this
    exact this
  obtain ⟨nd, hnd⟩ : ∃ nd, n0 = nd + n1 := ⟨n0 - n1, by omega⟩
  obtain ⟨rl, hrl⟩ : ∃ rl, rl = nd + n2 := ⟨_, rfl⟩
  have hs1 : (n0 : Int) - (n1 : Int) = (nd : Int) := by omega
  have hs2 : (nd : Int) + (n2 : Int) = (rl : Int) := by omega
  have hrlb : rl ≤ 131072 := by omega
  have hndb : nd ≤ 131072 := by omega
  have HCNT : Hid (∀ R, Ed E D A R → R.length = rl) := fun R hR => by
    have := hR.count HaE.out HaD.out HaA.out HS.out HX.out
    rw [HE.out, HD.out, HA.out] at this
    omega
  have H18 := hide (zz18 b0 n0 e0 E w8 HE.out (by omega) hb0 HROW0.out)
  have HSUM : Hid (n0 + n1 + n2 ≤ 131072 ∧ rl + n1 = n0 + n2) := ⟨hsum, by omega⟩
  clear HR0 HR1 HR2 HZ0 HZ1 HZ2 hnd hrl hn10
  go_wp2_with fail
  refine H18.out.mono ?_
  rintro e w10 ⟨hB10, root, L, rfl, ht10, hL10⟩
  obtain ⟨W11, hW11⟩ : ∃ W11, w10.alloc (.cells #[.pointer root, .int .i64 (n0 : Int)] 44) = W11 := ⟨_, rfl⟩
  have hB11 : Below w8.heap.size w8 W11 := by rw [← hW11]; exact hB10.alloc hB10.size _
  have k811 := K2.below hB11
  have k1011 : K2 w10 W11 := by rw [← hW11]; exact K2.alloc _ _
  have H19 := hide (zz19 root n0 L D A (.slice b1 n1 e1) (.slice b2 n2 e2) W11 (ht10.k2 k1011) (by rw [hL10]; exact HE.out) (by rw [hL10]; exact HaE.out) HaD.out HaA.out (by rw [hL10]; exact HS.out) (by rw [hL10]; exact HX.out)
    ⟨b1, e1, by rw [HD.out], by rw [HD.out]; exact hb1, HROW1.out.k2 k811⟩ ⟨b2, e2, by rw [HA.out], by rw [HA.out]; exact hb2, HROW2.out.k2 k811⟩ (by rw [HD.out, HA.out]; omega))
  rw [hL10] at H19
  have HB11 := hide hB11
  clear hB10 ht10 hL10 hB11 k811 k1011 H18
  have hc0 : W11.cell? ⟨w10.heap.size, 0, none⟩ = some (.pointer root) := by rw [← hW11]; simp [go_sem]
  have hc1 : W11.cell? ⟨w10.heap.size, 1, none⟩ = some (.int .i64 (n0 : Int)) := by rw [← hW11]; simp [go_sem]
  go_wp2_with fail
  refine H19.out.mono ?_
  rintro e w12 ⟨hB12, root2, L2, rfl, ht12, hEd12⟩
  obtain ⟨R, hR⟩ : ∃ R, L2.flatten = R := ⟨_, rfl⟩
  rw [hR] at hEd12 ⊢
  have hRl := HCNT.out R hEd12
  rw [hRl]
  clear hc0 hc1 hW11
  obtain ⟨W13, hW13⟩ : ∃ W13, w12.alloc (.cells #[.pointer root2, .int .i64 (rl : Int)] 44) = W13 := ⟨_, rfl⟩
  have hB13 : Below w8.heap.size w8 W13 := by rw [← hW13]; exact ((HB11.out.trans (hB12.mono HB11.out.size)).alloc (Nat.le_trans HB11.out.size hB12.size) _)
  have hbx : W13.rowIs w12.heap.size 44 2 (fun j => if j = 0 then .pointer root2 else .int .i64 (rl : Int)) := by rw [← hW13]; exact box44 w12 root2 rl
  have ht13 : TreeIs W13 root2 L2 := by rw [← hW13]; exact ht12.k2 (K2.alloc _ _)
  obtain ⟨hun, hSA, hDD⟩ := hEd12.undo HaE.out HS.out HX.out
  have HBX : Hid (∀ W, Below W13.heap.size W13 W → W.cell? ⟨w12.heap.size, 0, none⟩ = some (.pointer root2) ∧ W.cell? ⟨w12.heap.size, 1, none⟩ = some (.int .i64 (rl : Int)) ∧ TreeIs W root2 L2 ∧ K2 w8 W ∧ Below w'.heap.size w' W) := fun W hB => by
    have hb := hbx.of_block (hB.block _ hbx.lt)
    have h8W := hB13.trans (hB.mono hB13.size)
    exact ⟨hb.cell (i := 0) (by omega), hb.cell (i := 1) (by omega), ht13.k2 (K2.below hB), K2.below h8W, HB8.out.trans (h8W.mono HB8.out.size)⟩
  have hLR : L2.flatten.length = rl := by rw [hR]; exact hRl
  have HAR := hide hEd12.1
  have HUN := hide hun
  have HSA := hide hSA
  have HDD := hide hDD
  have HRR := hide hR
  have HLR := hide hLR
  have HRL := hide hRl
  have H20 := hide (zlen20 root2 rl W13)
  have H24 : Hid (∀ W, Below W13.heap.size W13 W → Calls Try.prog 24 #[.agg #[.pointer root2, .int .i64 (rl : Nat)], .int .i64 (rl : Nat)] W fun e w2 => Below W13.heap.size W13 w2 ∧ e = .returned (.bool true)) := fun W hB => by
    refine (fit24 root2 rl rl L2 W (HBX.out W hB).2.2.1 hLR (by omega)).mono ?_
    rintro e w2 ⟨h, rfl⟩
    exact ⟨hB.trans (h.mono hB.size), rfl⟩
  have H25 : Hid (∀ W, Below W13.heap.size W13 W → Calls Try.prog 25 #[.agg #[.pointer root2, .int .i64 (rl : Nat)], .int .i64 (rl : Nat)] W fun e w2 => Below W13.heap.size W13 w2 ∧ ∃ v, e = .returned v ∧ SlU w2 v R) := fun W hB => by
    refine (read25 root2 rl rl L2 W (HBX.out W hB).2.2.1 hLR (by omega)).mono ?_
    rintro e w2 ⟨h, v, rfl, hs⟩
    exact ⟨hB.trans (h.mono hB.size), v, rfl, hR ▸ hs⟩
  obtain ⟨bc0, bc1, _⟩ := HBX.out W13 (Below.refl _ _)
  clear hB12 ht12 hEd12 hR hRl hB13 hbx ht13 hLR hun hSA hDD H19 HB11 HCNT
  go_wp2_with (first
    | (go_at_call 20; refine H20.out.mono ?_; rintro e w14 ⟨hB14, rfl⟩
       obtain ⟨bd0, bd1, _⟩ := HBX.out w14 hB14
       have HB14 := hide hB14
       clear hB14)
    | (go_at_call 24; refine (H24.out w14 HB14.out).mono ?_; rintro e w15 ⟨hB15, rfl⟩
       obtain ⟨be0, be1, _⟩ := HBX.out w15 hB15
       have HB15 := hide hB15
       clear hB15)
    | (go_at_call 25; refine (H25.out w15 HB15.out).mono ?_; rintro e w16 ⟨hB16, v16, rfl, ⟨ua, uc, rfl, huc, hur⟩⟩
       obtain ⟨bf0, bf1, _⟩ := HBX.out w16 hB16
       rw [HRL.out] at huc ⊢
       have HB16 := hide hB16
       have HUR := hide hur
       clear hB16 hur))
  refine (asc14c ua rl uc R w16 HRL.out (by omega) HUR.out.c).mono ?_
  rintro e w17 ⟨⟨q, hq⟩, h⟩
  rcases h with ⟨_, rfl⟩ | ⟨hno, _⟩
  case inr => exact absurd HAR.out hno
  have hB17 : Below W13.heap.size W13 w17 := by rw [hq]; exact below_drewN HB16.out q
  have hur17 : Row w17 ua R := by rw [hq]; exact HUR.out
  have k17 := (HBX.out w17 hB17).2.2.2.1
  have hrA17 := HROW2.out.k2 k17
  have hrD17 := HROW1.out.k2 k17
  have H15 := hide (sub15c b2 ua n2 e2 rl uc A R w17 HA.out HRL.out (by omega) (by omega) hrA17.c hur17.c HaA.out HAR.out)
  have H16 := hide (dis16c b1 ua n1 e1 rl uc D R w17 HD.out HRL.out (by omega) (by omega) hrD17.c hur17.c HaD.out HAR.out)
  obtain ⟨bg0, bg1, ht17, _, _⟩ := HBX.out w17 hB17
  have H19b := hide (zz19 root2 rl L2 A D (.slice b2 n2 e2) (.slice b1 n1 e1) w17 ht17 HLR.out (by rw [HRR.out]; exact HAR.out) HaA.out HaD.out (by rw [HRR.out]; exact HSA.out) (by rw [HRR.out]; exact HDD.out)
    ⟨b2, e2, by rw [HA.out], by rw [HA.out]; exact hb2, hrA17⟩ ⟨b1, e1, by rw [HD.out], by rw [HD.out]; exact hb1, hrD17⟩ (by rw [HA.out, HD.out]; omega))
  rw [HRR.out] at H19b
  have HB17 := hide hB17
  clear hq hB17 hur17 k17 hrA17 hrD17 ht17 H20 H24 H25 HB16 HUR
  go_wp2_with fail
  refine H15.out.mono ?_
  rintro e w18 ⟨hw18, h⟩
  rcases h with ⟨_, rfl⟩ | ⟨hno, _⟩
  case inr => exact absurd HSA.out hno
  subst hw18
  go_wp2_with fail
  refine H16.out.mono ?_
  rintro e w19 ⟨hw19, h⟩
  rcases h with ⟨_, rfl⟩ | ⟨hno, _⟩
  case inr => exact absurd HDD.out hno
  subst hw19
  clear H15 H16
  go_wp2_with fail
  refine H19b.out.mono ?_
  rintro e w20 ⟨hB20, root3, L3, rfl, ht20, hEd20⟩
  have hL3 : L3.flatten = E := hEd20.unique HUN.out
  rw [hL3, HE.out]
  clear H19b hEd20 bc0 bc1 bd0 bd1 be0 be1 bf0 bf1 bg0 bg1
  obtain ⟨W21, hW21⟩ : ∃ W21, w20.alloc (.cells #[.pointer root3, .int .i64 (n0 : Int)] 44) = W21 := ⟨_, rfl⟩
  have hB21 : Below W13.heap.size W13 W21 := by rw [← hW21]; exact ((HB17.out.trans (hB20.mono HB17.out.size)).alloc (Nat.le_trans HB17.out.size hB20.size) _)
  have hbx : W21.rowIs w20.heap.size 44 2 (fun j => if j = 0 then .pointer root3 else .int .i64 (n0 : Int)) := by rw [← hW21]; exact box44 w20 root3 n0
  have ht21 : TreeIs W21 root3 L3 := by rw [← hW21]; exact ht20.k2 (K2.alloc _ _)
  have HBY : Hid (∀ W, Below W21.heap.size W21 W → W.cell? ⟨w20.heap.size, 0, none⟩ = some (.pointer root3) ∧ W.cell? ⟨w20.heap.size, 1, none⟩ = some (.int .i64 (n0 : Int)) ∧ TreeIs W root3 L3 ∧ Row W b0 E ∧ Below w'.heap.size w' W) := fun W hB => by
    have hb := hbx.of_block (hB.block _ hbx.lt)
    obtain ⟨_, _, _, hk, hbel⟩ := HBX.out W (hB21.trans (hB.mono hB21.size))
    exact ⟨hb.cell (i := 0) (by omega), hb.cell (i := 1) (by omega), ht21.k2 (K2.below hB), HROW0.out.k2 hk, hbel⟩
  have hLR3 : L3.flatten.length = n0 := by rw [hL3]; exact HE.out
  have H20 := hide (zlen20 root3 n0 W21)
  have H24 : Hid (∀ W, Below W21.heap.size W21 W → Calls Try.prog 24 #[.agg #[.pointer root3, .int .i64 (n0 : Nat)], .int .i64 (n0 : Nat)] W fun e w2 => Below W21.heap.size W21 w2 ∧ e = .returned (.bool true)) := fun W hB => by
    refine (fit24 root3 n0 n0 L3 W (HBY.out W hB).2.2.1 hLR3 (by omega)).mono ?_
    rintro e w2 ⟨h, rfl⟩
    exact ⟨hB.trans (h.mono hB.size), rfl⟩
  have H25 : Hid (∀ W, Below W21.heap.size W21 W → Calls Try.prog 25 #[.agg #[.pointer root3, .int .i64 (n0 : Nat)], .int .i64 (n0 : Nat)] W fun e w2 => Below W21.heap.size W21 w2 ∧ ∃ v, e = .returned v ∧ SlU w2 v E) := fun W hB => by
    refine (read25 root3 n0 n0 L3 W (HBY.out W hB).2.2.1 hLR3 (by omega)).mono ?_
    rintro e w2 ⟨h, v, rfl, hs⟩
    exact ⟨hB.trans (h.mono hB.size), v, rfl, hL3 ▸ hs⟩
  obtain ⟨bc0, bc1, _⟩ := HBY.out W21 (Below.refl _ _)
  clear hB20 ht20 hL3 hB21 hbx ht21 hLR3 HBX HROW0 HROW1 HROW2 HB17 HB8
  go_wp2_with (first
    | (go_at_call 20; refine H20.out.mono ?_; rintro e w22 ⟨hB22, rfl⟩
       obtain ⟨bd0, bd1, _⟩ := HBY.out w22 hB22
       have HB22 := hide hB22
       clear hB22)
    | (go_at_call 24; refine (H24.out w22 HB22.out).mono ?_; rintro e w23 ⟨hB23, rfl⟩
       obtain ⟨be0, be1, _⟩ := HBY.out w23 hB23
       have HB23 := hide hB23
       clear hB23)
    | (go_at_call 25; refine (H25.out w23 HB23.out).mono ?_; rintro e w24 ⟨hB24, v24, rfl, ⟨ea, ec, rfl, hec, her⟩⟩
       rw [HE.out] at hec ⊢
       have HB24 := hide hB24
       have HER := hide her
       clear hB24 her))
  have HO : Hid (O7 w24 n0 n0 (.int .i64 0) w24) := ⟨⟨0, rfl⟩, 0, rfl, Nat.zero_le _, Nat.le_refl _⟩
  have HFIN : Hid (Below w'.heap.size w' w24) := (HBY.out w24 HB24.out).2.2.2.2
  have HRE : Hid (Row w24 b0 E) := (HBY.out w24 HB24.out).2.2.2.1
  clear H20 H24 H25 HBY
  go_loopg [16] n0 (fun gk s16 wr => O7 w24 n0 gk s16 wr)
  case atStart => exact HO.out
  case round =>
    obtain ⟨⟨q, rfl⟩, i, rfl, hi, hgi⟩ := hrel
    clear HO
    by_cases hil : i < n0
    · obtain ⟨bw, ow, hwa, hbw, hcw⟩ := HER.out.at (by rw [HE.out]; omega)
      obtain ⟨bv, ov, hva, hbv, hcv⟩ := HRE.out.at (by rw [HE.out]; omega)
      subst hwa
      subst hva
      have cw : (w24.drewN q).cell? ⟨bw, ow + i, none⟩ = some (.int .u64 (el E i)) := hcw i (by rw [HE.out]; exact hil)
      have cv : (w24.drewN q).cell? ⟨bv, ov + i, none⟩ = some (.int .u64 (el E i)) := hcv i (by rw [HE.out]; exact hil)
      generalize el E i = x at *
      clear hcw hcv
      have HN7 : Hid (∀ q', O7 w24 n0 (n0 - (i + 1)) (.int .i64 ((i + 1 : Nat) : Int)) ((w24.drewN q).drewN q')) := fun q' => ⟨⟨q + q', by rw [World.drewN_drewN]⟩, i + 1, rfl, hil, Nat.le_refl _⟩
      generalize w24.drewN q = wq at *
      go_wp2
      go_quiet (fail)
      go_wp2
      go_roundg (n0 - (i + 1))
      case rel => exact HN7.out _
      case measure => omega
    · obtain rfl : i = n0 := by omega
      go_wp2
      go_ret
      exact ⟨rfl, below_drewN HFIN.out q⟩

end Go.Proofs.Qxb6613757a.T
