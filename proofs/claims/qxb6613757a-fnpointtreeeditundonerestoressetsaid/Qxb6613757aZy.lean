import Derived.Test.Qxb6613757aTe
/-
  The wrappers, and the readers of the laws.
-/
namespace Go.Proofs.Qxb6613757a.T
open Go.RowKit Go.Shelf
set_option linter.unusedVariables false
set_option linter.unusedSimpArgs false

theorem row44_new (w : World) : (w.alloc (.cells #[.pointer none, .int .i64 0] 44)).rowIs w.heap.size 44 2 (fun j => if j = 0 then .pointer none else .int .i64 0) :=
  World.rowIs_alloc w #[.pointer none, .int .i64 0] 44 _ (fun i hi => by
    have : i < 2 := hi
    match i, this with
    | 0, _ => rfl
    | 1, _ => rfl)

set_option maxHeartbeats 1000000 in
theorem zz18 (ea : Option Addr) (n cap : Nat) (zs : List Int) (w : World) (hz : zs.length = n) (hn : n ≤ 1048576) (hcap : n ≤ cap) (hr : Row w ea zs) :
    Calls Try.prog 18 #[.slice ea n cap] w fun e w' => Below w.heap.size w w' ∧ ∃ (root : Option Addr) (L : List (List Int)), e = .returned (.agg #[.pointer root, .int .i64 n]) ∧ TreeIs w' root L ∧ L.flatten = zs := by
  have hB := (Below.refl w.heap.size w).alloc (Nat.le_refl _) (.cells #[.pointer none, .int .i64 0] 44)
  have hrow := row44_new w
  have H29 := hide (new29 ea n cap zs (w.alloc (.cells #[.pointer none, .int .i64 0] 44)) hz hn hcap (hr.k2 (K2.below hB)))
  have HB := hide hB
  have HROW := hide hrow
  clear hB hrow hr hz
  go_enter Try.func18, Try.ntmps18
  go_wp2_with (go_at_call 29; refine H29.out.mono ?_; rintro e w2 ⟨hB2, root', L', rfl, ht2, hL2⟩
               have hr2 := HROW.out.of_block (hB2.block _ HROW.out.lt)
               have k0 : w2.cell? ⟨w.heap.size, 0, none⟩ = some (.pointer none) := hr2.cell (i := 0) (by omega)
               have k1 : w2.cell? ⟨w.heap.size, 1, none⟩ = some (.int .i64 0) := hr2.cell (i := 1) (by omega)
               have g0 := hr2.frozen 0
               have g1 := hr2.frozen 1
               have HR2 := hide hr2
               have HB2 : Hid (Below w.heap.size w w2) := HB.out.trans (hB2.mono HB.out.size)
               have HT2 := hide ht2
               have HL2 := hide hL2
               clear hr2 hB2 ht2 hL2)
  obtain ⟨k1', k2', k3', k4'⟩ := res44 (a := .pointer root') (c := .int .i64 (n : Int)) HR2.out HB2.out (Nat.le_refl _)
  exact bodyPost_ret (v := .agg #[.pointer root', .int .i64 n]) (by simp [results, Try.results18, go_sem, k3', k4']) rfl ⟨k1', root', L', rfl, HT2.out.k2 k2', HL2.out⟩

set_option maxHeartbeats 1000000 in
theorem zz19 (root : Option Addr) (n : Nat) (L : List (List Int)) (ds xs : List Int) (sd sx : Value) (w : World) (ht : TreeIs w root L) (hn : L.flatten.length = n) (hA : Asc L.flatten) (h1 : Asc ds) (h2 : Asc xs) (hS : Sub ds L.flatten) (hD : Dis xs L.flatten) (hsd : SlU w sd ds) (hsx : SlU w sx xs) (hlen : n + ds.length + xs.length ≤ 1048576) :
    Calls Try.prog 19 #[.agg #[.pointer root, .int .i64 (n : Nat)], sd, sx] w fun e w' => TEd w L.flatten ds xs e w' := by
  obtain ⟨W, hW⟩ : ∃ W, (w.alloc (.cells #[.pointer root, .int .i64 (n : Int)] 44)).alloc (.cells #[.pointer none, .int .i64 0] 44) = W := ⟨_, rfl⟩
  have hBW : Below w.heap.size w W := by rw [← hW]; exact ((Below.refl _ w).alloc (Nat.le_refl _) _).alloc (by simp) _
  have hres : W.rowIs (w.heap.size + 1) 44 2 (fun j => if j = 0 then .pointer none else .int .i64 0) := by
    have := row44_new (w.alloc (.cells #[.pointer root, .int .i64 (n : Int)] 44))
    rw [hW, World.size_alloc] at this
    exact this
  have hbox : W.rowIs w.heap.size 44 2 (fun j => if j = 0 then .pointer root else .int .i64 (n : Int)) := by
    rw [← hW]
    exact (World.rowIs_alloc w #[.pointer root, .int .i64 (n : Int)] 44 _ (fun i hi => by
      have : i < 2 := hi
      match i, this with
      | 0, _ => rfl
      | 1, _ => rfl)).of_block (Below.heap_alloc _ _ _ (by simp))
  have c0 : W.cell? ⟨w.heap.size, 0, none⟩ = some (.pointer root) := hbox.cell (i := 0) (by omega)
  have c1 : W.cell? ⟨w.heap.size, 1, none⟩ = some (.int .i64 (n : Int)) := hbox.cell (i := 1) (by omega)
  have kW := K2.below hBW
  have H30 := hide (edited30 root n L ds xs sd sx W (ht.k2 kW) hn hA h1 h2 hS hD (hsd.k2 kW) (hsx.k2 kW) hlen)
  have HBW := hide hBW
  have HRES := hide hres
  clear ht hn hA h1 h2 hS hD hsd hsx hlen hBW hres hbox kW
  go_enter Try.func19, Try.ntmps19
  go_wp2_with (go_at_call 30; refine H30.out.mono ?_; rintro e w2 ⟨hB2, root', L', rfl, ht2, hEd2⟩
               have hr2 := HRES.out.of_block (hB2.block _ HRES.out.lt)
               have k0 : w2.cell? ⟨w.heap.size + 1, 0, none⟩ = some (.pointer none) := hr2.cell (i := 0) (by omega)
               have k1 : w2.cell? ⟨w.heap.size + 1, 1, none⟩ = some (.int .i64 0) := hr2.cell (i := 1) (by omega)
               have g0 := hr2.frozen 0
               have g1 := hr2.frozen 1
               obtain ⟨R, hR⟩ : ∃ R, L'.flatten.length = R := ⟨_, rfl⟩
               rw [hR]
               obtain ⟨e0, e1, e2⟩ := te_ret hr2 (HBW.out.trans (hB2.mono HBW.out.size)) ht2 hR hEd2
               have E0 := hide e0
               have E1 := hide e1
               have E2 := hide e2
               clear hr2 hB2 ht2 hEd2 e0 e1 e2 hR)
  have e0 := E0.out
  have e1 := E1.out
  exact bodyPost_ret (v := .agg #[.pointer root', .int .i64 R]) (by simp [results, Try.results19, go_sem, e0, e1]) rfl E2.out

theorem tree_leaves {w : World} {root : Option Addr} {L : List (List Int)} (h : TreeIs w root L) : ∀ z ∈ L, 1 ≤ z.length ∧ z.length ≤ 64 := by
  rcases h with ⟨_, rfl⟩ | ⟨h, r, hk, _⟩
  · intro z hz; simp at hz
  · exact hk.some_last.2.2.2
theorem flat_len : ∀ {L : List (List Int)}, (∀ z ∈ L, 1 ≤ z.length) → L.length ≤ L.flatten.length
  | [], _ => Nat.zero_le _
  | z :: L, h => by
    have h1 := h z (by simp)
    have h2 := flat_len (L := L) fun y hy => h y (by simp [hy])
    rw [List.flatten_cons, List.length_append, List.length_cons]
    omega

/-- the leaves, as they are handed out -/
def LvR (w : World) (L : List (List Int)) (e : Ending) (w' : World) : Prop := Below w.heap.size w w' ∧ ∃ (v : Value) (vals : List Value), e = .returned v ∧ w'.ownsRow 0 37 1 v vals.length vals ∧ Leafs w' vals L

set_option maxHeartbeats 1000000 in
theorem leaves32 (root : Option Addr) (n : Nat) (L : List (List Int)) (w : World) (ht : TreeIs w root L) (hM : L.flatten.length ≤ 1048576) :
    Calls Try.prog 32 #[.agg #[.pointer root, .int .i64 (n : Nat)]] w fun e w' => LvR w L e w' := by
  have hB := (Below.refl w.heap.size w).alloc (Nat.le_refl _) (.cells #[.pointer root, .int .i64 (n : Int)] 44)
  have hlv := flat_len (fun z hz => (tree_leaves ht z hz).1)
  rcases ht with ⟨rfl, rfl⟩ | ⟨h, r, hk, hroot⟩
  · have HB := hide hB
    clear hB hlv hM
    go_enter Try.func32, Try.ntmps32
    go_wp2
    go_ret
    exact ⟨HB.out, .slice none 0 0, [], rfl, World.ownsRow_nil _ _ _ _, rfl, fun i hi => by simp at hi⟩
  · have hk' := hk
    obtain ⟨nb, _, _, _, hnode, hrest⟩ := hk'
    clear hrest
    rw [hnode] at hroot
    subst hroot
    have H38 := hide (addl38 h nb r L (.slice none 0 0) [] (w.alloc (.cells #[.pointer (some ⟨nb, 0, none⟩), .int .i64 (n : Int)] 44)) (hk.k2 (K2.below hB)) hnode (by simp; omega) (World.ownsRow_nil _ _ _ _))
    have HB := hide hB
    clear hB hlv hM hk hnode
    go_enter Try.func32, Try.ntmps32
    go_wp2_with (go_at_call 38; refine H38.out.mono ?_; rintro e w2 ⟨hg2, v2, vals, rfl, hown2, hob2, hl2⟩
                 have HR : Hid (LvR w L (.returned v2) w2) := ⟨HB.out.grown hg2 HB.out.size (fun l e => by cases e), v2, vals, rfl, hown2, hl2⟩
                 clear hg2 hown2 hob2 hl2)
    go_ret
    exact HR.out

set_option maxHeartbeats 1000000 in
theorem zz21 (root : Option Addr) (n : Nat) (L : List (List Int)) (w : World) (ht : TreeIs w root L) (hM : L.flatten.length ≤ 1048576) :
    Calls Try.prog 21 #[.agg #[.pointer root, .int .i64 (n : Nat)]] w fun e w' => LvR w L e w' := by
  have hB := (Below.refl w.heap.size w).alloc (Nat.le_refl _) (.cells #[.pointer root, .int .i64 (n : Int)] 44)
  have H32 := hide (leaves32 root n L (w.alloc (.cells #[.pointer root, .int .i64 (n : Int)] 44)) (ht.k2 (K2.below hB)) hM)
  have HB := hide hB
  clear hB ht hM
  go_enter Try.func21, Try.ntmps21
  go_wp2_with (go_at_call 32; refine H32.out.mono ?_; rintro e w2 ⟨hB2, v2, vals, rfl, hown2, hl2⟩
               have HR : Hid (LvR w L (.returned v2) w2) := ⟨HB.out.trans (hB2.mono HB.out.size), v2, vals, rfl, hown2, hl2⟩
               clear hB2 hown2 hl2)
  go_ret
  exact HR.out

end Go.Proofs.Qxb6613757a.T
