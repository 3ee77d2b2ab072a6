import Derived.Test.Qxb6613757aEd3
/-
  pointTree.edited.
-/
namespace Go.Proofs.Qxb6613757a.T
open Go.RowKit Go.Shelf
set_option linter.unusedVariables false
set_option linter.unusedSimpArgs false

theorem nodup_len : ∀ {R S : List Int}, R.Nodup → (∀ x, x ∈ R → x ∈ S) → R.length ≤ S.length
  | [], S, _, _ => Nat.zero_le _
  | r :: R, S, hR, hs => by
    obtain ⟨h1, h2⟩ := List.nodup_cons.1 hR
    have hr := hs r (by simp)
    have := nodup_len (R := R) (S := S.erase r) h2 fun x hx => by
      have : x ≠ r := fun e => h1 (e ▸ hx)
      exact (List.mem_erase_of_ne this).2 (hs x (by simp [hx]))
    rw [List.length_erase_of_mem hr] at this
    have := List.length_pos_of_mem hr
    simp
    omega
theorem asc_nodup : ∀ {R : List Int}, Asc R → R.Nodup
  | [], _ => List.nodup_nil
  | r :: R, h => by
    obtain ⟨h1, h2⟩ := asc_cons h
    exact List.nodup_cons.2 ⟨fun hr => by have := h2 r hr; omega, asc_nodup h1⟩
/-- how many entries an edit leaves -/
theorem Ed.count {E D A R : List Int} (h : Ed E D A R) (hE : Asc E) (hD : Asc D) (hA : Asc A) (hS : Sub D E) (hX : Dis A E) : R.length + D.length = E.length + A.length := by
  have n1 : (R ++ D).Nodup := by
    refine List.nodup_append.2 ⟨asc_nodup h.1, asc_nodup hD, fun x hx y hy e => ?_⟩
    subst e
    rcases (h.2 x).1 hx with ⟨_, h'⟩ | h'
    · exact h' hy
    · exact hX x h' (hS x hy)
  have n2 : (E ++ A).Nodup := by
    refine List.nodup_append.2 ⟨asc_nodup hE, asc_nodup hA, fun x hx y hy e => ?_⟩
    subst e
    exact hX x hy hx
  have l1 := nodup_len (S := E ++ A) n1 fun x hx => by
    rw [List.mem_append] at hx ⊢
    rcases hx with hx | hx
    · rcases (h.2 x).1 hx with ⟨h', _⟩ | h'
      · exact .inl h'
      · exact .inr h'
    · exact .inl (hS x hx)
  have l2 := nodup_len (S := R ++ D) n2 fun x hx => by
    rw [List.mem_append] at hx ⊢
    rcases hx with hx | hx
    · by_cases hd : x ∈ D
      · exact .inr hd
      · exact .inl ((h.2 x).2 (.inl ⟨hx, hd⟩))
    · exact .inl ((h.2 x).2 (.inr hx))
  simp only [List.length_append] at l1 l2
  omega

/-- what edited of a tree hands back -/
def TEd (w : World) (E ds xs : List Int) (e : Ending) (w' : World) : Prop := Below w.heap.size w w' ∧ ∃ (root : Option Addr) (L : List (List Int)), e = .returned (.agg #[.pointer root, .int .i64 (L.flatten.length : Nat)]) ∧ TreeIs w' root L ∧ Ed E ds xs L.flatten

theorem cell_other (W : World) (p q : Addr) (v : Value) (h : q.block ≠ p.block) : (W.setCell p v).cell? q = W.cell? q := by
  simp only [World.cell?, Below.heap_setCell _ _ _ _ h]
theorem te_ret {w Wx : World} {root : Option Addr} {L : List (List Int)} {E ds xs : List Int} {c : Nat} (hres : Wx.rowIs (w.heap.size + 1) 44 2 (fun j => if j = 0 then .pointer none else .int .i64 0)) (hB : Below w.heap.size w Wx) (ht : TreeIs Wx root L) (hc : L.flatten.length = c) (hEd : Ed E ds xs L.flatten) :
    ((Wx.setCell ⟨w.heap.size + 1, 0, none⟩ (.pointer root)).setCell ⟨w.heap.size + 1, 1, none⟩ (.int .i64 (c : Int))).cell? ⟨w.heap.size + 1, 0, none⟩ = some (.pointer root) ∧ ((Wx.setCell ⟨w.heap.size + 1, 0, none⟩ (.pointer root)).setCell ⟨w.heap.size + 1, 1, none⟩ (.int .i64 (c : Int))).cell? ⟨w.heap.size + 1, 1, none⟩ = some (.int .i64 (c : Int)) ∧
    TEd w E ds xs (.returned (.agg #[.pointer root, .int .i64 (c : Int)])) ((Wx.setCell ⟨w.heap.size + 1, 0, none⟩ (.pointer root)).setCell ⟨w.heap.size + 1, 1, none⟩ (.int .i64 (c : Int))) := by
  obtain ⟨k1, k2, k3, k4⟩ := res44 (a := .pointer root) (c := .int .i64 (c : Int)) hres hB (by omega)
  exact ⟨k3, k4, k1, root, L, by rw [hc], ht.k2 k2, hEd⟩

theorem made81 : ∃ Z : Array Value, ∀ w : World, (Instr.makeSlice 63 (.int .i64 0) (.int .i64 64)).run Try.prog w = .ok (.slice (some ⟨w.heap.size, 0, none⟩) 0 64) (w.alloc (.cells Z 81)) ∧ (w.alloc (.cells Z 81)).ownsRow 0 81 5 (.slice (some ⟨w.heap.size, 0, none⟩) 0 64) 0 [] := by
  obtain ⟨i0, hi0, hz0, hsz0, hby0⟩ := info_parts info81
  refine ⟨madeCells rec0.val.cells (64 * 5), fun w => ⟨?_, ?_⟩⟩
  · have := run_make (P := Try.prog) w 63 81 i0 rec0.val Try.underlying63 hi0 hz0 .i64 .i64 0 64 (by omega) (by omega) (by rw [hby0]; decide) (by decide)
    rw [hsz0] at this
    exact this
  · exact World.ownsRow_made w _ 64 (Nat.zero_le _) (by decide) (size_madeCells _ _)

set_option maxRecDepth 100000 in
set_option maxHeartbeats 4000000 in
theorem edited30 (root : Option Addr) (n : Nat) (L : List (List Int)) (ds xs : List Int) (sd sx : Value) (w : World) (ht : TreeIs w root L) (hn : L.flatten.length = n) (hA : Asc L.flatten) (h1 : Asc ds) (h2 : Asc xs) (hS : Sub ds L.flatten) (hD : Dis xs L.flatten) (hsd : SlU w sd ds) (hsx : SlU w sx xs) (hlen : n + ds.length + xs.length ≤ 1048576) :
    Calls Try.prog 30 #[.agg #[.pointer root, .int .i64 (n : Nat)], sd, sx] w fun e w' => TEd w L.flatten ds xs e w' := by
  obtain ⟨da, dc, rfl, hdc, hdr⟩ := hsd
  obtain ⟨xa, xc, rfl, hxc, hxr⟩ := hsx
  obtain ⟨dn, hdn⟩ : ∃ dn, ds.length = dn := ⟨_, rfl⟩
  obtain ⟨xn, hxn⟩ : ∃ xn, xs.length = xn := ⟨_, rfl⟩
  obtain ⟨W, hW⟩ : ∃ W, (w.alloc (.cells #[.pointer root, .int .i64 (n : Int)] 44)).alloc (.cells #[.pointer none, .int .i64 0] 44) = W := ⟨_, rfl⟩
  have hBW : Below w.heap.size w W := by rw [← hW]; exact ((Below.refl _ w).alloc (Nat.le_refl _) _).alloc (by simp) _
  have hWs : W.heap.size = w.heap.size + 2 := by rw [← hW]; simp
  have hres : W.rowIs (w.heap.size + 1) 44 2 (fun j => if j = 0 then .pointer none else .int .i64 0) := by
    rw [← hW]
    have := World.rowIs_alloc (w.alloc (.cells #[.pointer root, .int .i64 (n : Int)] 44)) #[.pointer none, .int .i64 0] 44 (fun j => if j = 0 then .pointer none else .int .i64 0) (fun i hi => by
      have : i < 2 := hi
      match i, this with
      | 0, _ => rfl
      | 1, _ => rfl)
    rw [World.size_alloc] at this
    exact this
  have hbox : W.rowIs w.heap.size 44 2 (fun j => if j = 0 then .pointer root else .int .i64 (n : Int)) := by
    rw [← hW]
    exact (World.rowIs_alloc w #[.pointer root, .int .i64 (n : Int)] 44 _ (fun i hi => by
      have : i < 2 := hi
      match i, this with
      | 0, _ => rfl
      | 1, _ => rfl)).of_block (Below.heap_alloc _ _ _ (by simp))
  rw [hdn] at hlen hdc ⊢
  rw [hxn] at hlen hxc ⊢
  have c0 : W.cell? ⟨w.heap.size, 0, none⟩ = some (.pointer root) := hbox.cell (i := 0) (by omega)
  have c1 : W.cell? ⟨w.heap.size, 1, none⟩ = some (.int .i64 (n : Int)) := hbox.cell (i := 1) (by omega)
  have r0 : W.cell? ⟨w.heap.size + 1, 0, none⟩ = some (.pointer none) := hres.cell (i := 0) (by omega)
  have r1 : W.cell? ⟨w.heap.size + 1, 1, none⟩ = some (.int .i64 0) := hres.cell (i := 1) (by omega)
  have f0 := hres.frozen 0
  have f1 := hres.frozen 1
  have HBW := hide hBW
  have HRES := hide hres
  have HBOX := hide hbox
  by_cases hz : dn + xn = 0
  · obtain rfl : dn = 0 := by omega
    obtain rfl : xn = 0 := by omega
    have hd0 : ds = [] := List.eq_nil_of_length_eq_zero hdn
    have hx0 : xs = [] := List.eq_nil_of_length_eq_zero hxn
    subst hd0
    subst hx0
    have HT := hide ht
    have HA := hide hA
    have HN := hide hn
    clear ht hA h1 h2 hS hD hdr hxr hdn hxn hBW hres hbox hn
    go_enter Try.func30, Try.ntmps30
    go_wp2
    obtain ⟨e0, e1, e2⟩ := te_ret HRES.out HBW.out (HT.out.k2 (K2.below HBW.out)) HN.out (Ed.keep HA.out)
    exact bodyPost_ret (v := .agg #[.pointer root, .int .i64 n]) (by simp [results, Try.results30, go_sem, e0, e1]) rfl e2
  · have hzi : ((dn : Int) + (xn : Int) == 0) = false := by simp; omega
    rcases ht with ⟨rfl, rfl⟩ | ⟨h, r, hk, hroot⟩
    · have hd0 : ds = [] := by
        match ds, hS with
        | [], _ => rfl
        | d :: ds, hS => exact absurd (hS d (by simp)) (by simp)
      subst hd0
      have H29 := hide (new29 xa xn xc xs W hxn (by omega) hxc (hxr.k2 (K2.below hBW)))
      have H2 := hide h2
      have HXN := hide hxn
      clear hA h1 h2 hS hD hdr hxr hdn hxn hBW hres hbox hn
      go_enter Try.func30, Try.ntmps30
      go_wp2_with (first
        | (go_at_call 29; refine H29.out.mono ?_; rintro e w2 ⟨hB2, root', L', rfl, ht2, hL2⟩
           have hr2 := HRES.out.of_block (hB2.block _ HRES.out.lt)
           have k0 : w2.cell? ⟨w.heap.size + 1, 0, none⟩ = some (.pointer none) := hr2.cell (i := 0) (by omega)
           have k1 : w2.cell? ⟨w.heap.size + 1, 1, none⟩ = some (.int .i64 0) := hr2.cell (i := 1) (by omega)
           have g0 := hr2.frozen 0
           have g1 := hr2.frozen 1
           have HR2 := hide hr2
           have HB2 : Hid (Below w.heap.size w w2) := HBW.out.trans (hB2.mono HBW.out.size)
           have HT2 := hide ht2
           have HL2 := hide hL2
           clear hr2 hB2 ht2 hL2))
      obtain ⟨e0, e1, e2⟩ := te_ret (E := ([] : List (List Int)).flatten) (ds := []) (xs := xs) (c := xn) HR2.out HB2.out HT2.out (by rw [HL2.out]; exact HXN.out) (by rw [HL2.out]; exact ⟨H2.out, fun x => by simp⟩)
      exact bodyPost_ret (v := .agg #[.pointer root', .int .i64 xn]) (by simp [results, Try.results30, go_sem, e0, e1]) rfl e2
    · obtain ⟨nb, m, rs, Ls, hnode, hnd, hL⟩ := hk.nd
      rw [hroot, hnode] at c0 hW HBOX ⊢
      have hE : ents Ls = L.flatten := by rw [hL]; rfl
      obtain ⟨Z, hZ⟩ := made81
      have hmk := fun w => (hZ w).1
      have HMO := hide (fun w => (hZ w).2)
      obtain ⟨g, hg⟩ : ∃ g, W.heap.size = g := ⟨_, rfl⟩
      have H37 : Hid (∀ W5 : World, K2 W W5 → W5.ownsRow 0 81 5 (.slice (some ⟨g, 0, none⟩) 0 64) 0 [] → Calls Try.prog 37 #[.pointer (some ⟨nb, 0, none⟩), .slice da dn dc, .slice xa xn xc, .slice (some ⟨g, 0, none⟩) 0 64] W5 fun e w' => EdR W5 h (.slice (some ⟨g, 0, none⟩) 0 64) [] L.flatten ds xs e w') := fun W5 k ho => by
        have kk := (K2.below hBW).trans k
        rw [← hE]
        refine edC h nb m rs Ls ds xs _ _ _ [] W5 (hnd.k2 kk) (by rw [hE]; exact hA) h1 h2 (by rw [hE]; exact hS) (by rw [hE]; exact hD) ⟨da, dc, by rw [hdn], by rw [hdn]; exact hdc, hdr.k2 kk⟩ ⟨xa, xc, by rw [hxn], by rw [hxn]; exact hxc, hxr.k2 kk⟩ ho (by simp [Value.ownBlock]) ?_
        rw [hE, hn, hdn, hxn]
        simp; omega
      have HM5 : Hid ((W.drew.alloc (.cells Z 81)).ownsRow 0 81 5 (.slice (some ⟨g, 0, none⟩) 0 64) 0 []) := by
        have := (hZ W.drew).2
        rw [← hg]
        exact this
      have hmk' : ∀ w0 : World, w0.heap.size = g → (Instr.makeSlice 63 (.int .i64 0) (.int .i64 64)).run Try.prog w0 = .ok (.slice (some ⟨g, 0, none⟩) 0 64) (w0.alloc (.cells Z 81)) := fun w0 h => by rw [← h]; exact (hZ w0).1
      have HCOUNT : Hid (∀ R, Ed L.flatten ds xs R → R.length + dn = n + xn) := fun R hR => by
        have := hR.count hA h1 h2 hS hD
        rw [hn, hdn, hxn] at this
        exact this
      have hdnn : dn ≤ n := by
        have := asc_len h1 hS
        rw [hn, hdn] at this
        exact this
      have HWS := hide hWs
      have HG := hide hg
      clear hA h1 h2 hS hD hdr hxr hdn hxn hBW hres hbox hn hk hnd hL hE hroot hnode hWs hZ HMO hmk
      have hBA : Below g W (W.drew.alloc (.cells Z 81)) := by
        rw [← HG.out]
        exact ((Below.refl _ W).drew).alloc (Nat.le_refl _) _
      have hwg : w.heap.size + 2 = g := by rw [← HG.out, HWS.out]
      have hcA : (W.drew.alloc (.cells Z 81)).cell? ⟨w.heap.size, 0, none⟩ = some (.pointer (some ⟨nb, 0, none⟩)) := (hBA.cell (p := ⟨w.heap.size, 0, none⟩) (by show w.heap.size < g; omega)).trans c0
      have HKA : Hid (K2 W (W.drew.alloc (.cells Z 81))) := K2.below (by rw [HG.out]; exact hBA)
      have HGR : Hid (∀ w2 : World, (W.drew.alloc (.cells Z 81)).grownBy w2 (some g) → Below g W w2 ∧ K2 W w2) := fun w2 hg2 => by
        have e1 := hBA.grown hg2 (by have := hBA.size; rw [HG.out] at this; exact this) (fun l e => by cases e; exact Nat.le_refl _)
        exact ⟨e1, K2.below (by rw [HG.out]; exact e1)⟩
      have HRESB : Hid (∀ w2 : World, Below g W w2 → w2.cell? ⟨w.heap.size, 0, none⟩ = some (.pointer (some ⟨nb, 0, none⟩)) ∧ w2.cell? ⟨w.heap.size, 1, none⟩ = some (.int .i64 (n : Int)) ∧ w2.rowIs (w.heap.size + 1) 44 2 (fun j => if j = 0 then .pointer none else .int .i64 0)) := fun w2 hb =>
        ⟨(hb.cell (p := ⟨w.heap.size, 0, none⟩) (by show w.heap.size < g; omega)).trans c0, (hb.cell (p := ⟨w.heap.size, 1, none⟩) (by show w.heap.size < g; omega)).trans c1, HRES.out.of_block (hb.block _ (by omega))⟩
      have HWG := hide hwg
      clear hwg hBA
      go_enter Try.func30, Try.ntmps30
      go_wp2
      have hgd : W.drew.heap.size = g := HG.out
      have hmkd := hmk' W.drew hgd
      go_region_held_law (fun w' => w'.cell? ⟨w.heap.size, 0, none⟩ = some (.pointer (some ⟨nb, 0, none⟩)))
        (first | exact c0 | exact hcA | exact hcB)
        (first
          | (go_at_call 37; refine (H37.out _ HKA.out HM5.out).mono ?_; rintro e w2 ⟨hg2, v2, ps, Ps, rfl, hown2, hob2, hne2, hk2, hEd2⟩
             obtain ⟨hB2, hKK2⟩ := HGR.out w2 hg2
             obtain ⟨hcB, hcC, hrB⟩ := HRESB.out w2 hB2
             have hob2' : ∀ l, v2.ownBlock = some l → g ≤ l := fun l e => by
               rcases hob2 with e' | ⟨g', e', hgg⟩
               · rw [e'] at e; cases e; exact Nat.le_refl _
               · rw [e'] at e; cases e; have := HKA.out; have := HGR.out; simp only [World.size_alloc] at hgg; have e3 : W.drew.heap.size = g := HG.out; omega
             have H36 : Hid (Calls Try.prog 36 #[v2] w2.drew fun e w' => w2.drew.grownBy w' v2.ownBlock ∧ ∃ root, e = .returned (.pointer root) ∧ TreeIs w' root Ps.flatten) := by
               have hcnt := HCOUNT.out _ hEd2
               have hle := kids_len hk2
               exact root_any v2 (h + 1) ps Ps w2.drew (by omega) hown2 (hk2.k2 (K2.drew _)) (by omega)
             have HB2 := hide hB2
             have HOB2 := hide hob2'
             have HED2 := hide hEd2
             clear hg2 hown2 hob2 hne2 hk2 hEd2 hB2 hKK2 hob2' hrB))
      have hcCd : w2.drew.cell? ⟨w.heap.size, 1, none⟩ = some (.int .i64 (n : Int)) := hcC
      obtain ⟨R, hR⟩ : ∃ R, Ps.flatten.flatten.length = R := ⟨_, rfl⟩
      have hRc : R + dn = n + xn := by rw [← hR]; exact HCOUNT.out _ HED2.out
      have hs1 : (n : Int) - (dn : Int) = ((n - dn : Nat) : Int) := by omega
      have hs2 : ((n - dn : Nat) : Int) + (xn : Int) = (R : Int) := by omega
      have hw1 : IntKind.i64.wrap (((n - dn : Nat) : Int)) = ((n - dn : Nat) : Int) := wrap_small _ (by omega) (by omega)
      have hw2 : IntKind.i64.wrap (R : Int) = (R : Int) := wrap_small _ (by omega) (by omega)
      obtain ⟨nd, hnd⟩ : ∃ nd, n - dn = nd := ⟨_, rfl⟩
      rw [hnd] at hs1 hs2 hw1
      have HR := hide hR
      clear hR hRc hnd hmkd hmk' c0 c1 r0 r1 f0 f1 hcA hgd HBOX H37 HM5 HKA HGR
      go_wp2
      go_region_held_law (fun w' => w'.cell? ⟨w.heap.size, 1, none⟩ = some (.int .i64 (n : Int)))
        (first | exact hcCd | exact hcC3 | exact hcC4)
        (first
          | (go_at_call 36; refine H36.out.mono ?_; rintro e w3 ⟨hg3, root', rfl, ht3⟩
             have hB3 : Below g W w3 := HB2.out.drew.grown hg3 (by have e1 := HB2.out.size; have e2 := HG.out; show g ≤ w2.heap.size; omega) HOB2.out
             obtain ⟨_, hcC3, hr3⟩ := HRESB.out w3 hB3
             have k0 : w3.cell? ⟨w.heap.size + 1, 0, none⟩ = some (.pointer none) := hr3.cell (i := 0) (by omega)
             have k1 : w3.cell? ⟨w.heap.size + 1, 1, none⟩ = some (.int .i64 0) := hr3.cell (i := 1) (by omega)
             have g0 := hr3.frozen 0
             have g1 := hr3.frozen 1
             obtain ⟨e0, e1, e2⟩ := te_ret hr3 (HBW.out.trans (hB3.mono (by have e1 := HWG.out; omega))) ht3 HR.out HED2.out
             have hcC4 : ((w3.setCell ⟨w.heap.size + 1, 0, none⟩ (.pointer root')).setCell ⟨w.heap.size + 1, 1, none⟩ (.int .i64 (R : Int))).cell? ⟨w.heap.size, 1, none⟩ = some (.int .i64 (n : Int)) := by
               rw [cell_other _ _ _ _ (by show w.heap.size ≠ w.heap.size + 1; omega), cell_other _ _ _ _ (by show w.heap.size ≠ w.heap.size + 1; omega)]; exact hcC3
             have E0 := hide e0
             have E1 := hide e1
             have E2 := hide e2
             clear hg3 ht3 hB3 hr3 e0 e1 e2))
      go_wp2
      have e0 := E0.out
      have e1 := E1.out
      exact bodyPost_ret (v := .agg #[.pointer root', .int .i64 R]) (by simp [results, Try.results30, go_sem, e0, e1]) rfl E2.out

end Go.Proofs.Qxb6613757a.T
