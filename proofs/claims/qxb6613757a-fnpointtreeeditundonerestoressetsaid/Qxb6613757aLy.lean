import Derived.Test.Qxb6613757aV2
import Derived.Laws.CopyRow
import Derived.Laws.CopyOwn
import Derived.Laws.MakeOwn
/-
  make and copy of a slice of uint64s; the laws' readers.
-/
namespace Go.Proofs.Qxb6613757a.T
open Go.RowKit Go.Shelf
set_option linter.unusedVariables false
set_option linter.unusedSimpArgs false

theorem size23' : (Try.prog.info? 23).map (·.size) = some 1 := by kernel_rfl

theorem make37 (n : Nat) (hn : n ≤ 1048576) : ∃ Z : Array Value, Z = madeCells #[.int .u64 0] n ∧ ∀ W : World, (Instr.makeSlice 37 (.int .i64 (n : Int)) (.int .i64 (n : Int))).run Try.prog W = .ok (.slice (some ⟨W.heap.size, 0, none⟩) n n) (W.alloc (.cells Z 23)) := by
  obtain ⟨i0, hi0, hz0, hsz0, hby0⟩ := info_parts size23
  refine ⟨_, rfl, fun W => ?_⟩
  have := run_make (P := Try.prog) W 37 23 i0 (.int .u64 0) Try.underlying37 hi0 hz0 .i64 .i64 (n : Int) (n : Int) (by omega) (by omega) (by rw [hby0]; omega) (by omega)
  rw [hsz0, Nat.mul_one, Int.toNat_natCast] at this
  exact this

theorem copied37 (W : World) (a : Option Addr) (n cap : Nat) (zs : List Int) (hz : zs.length = n) (hr : RowC W a zs) :
    ∃ w2 : World, (Builtin.copy_ #[37, 37] 3 #[.slice (some ⟨W.heap.size, 0, none⟩) n n, .slice a n cap]).run Try.prog (W.alloc (.cells (madeCells #[.int .u64 0] n) 23)) = .ok (goInt n) w2 ∧ Below W.heap.size W w2 ∧ SlU w2 (.slice (some ⟨W.heap.size, 0, none⟩) n n) zs := by
  subst hz
  have hb0 := (Below.refl W.heap.size W).alloc (Nat.le_refl _) (.cells (madeCells #[.int .u64 0] zs.length) 23)
  rcases Nat.eq_zero_or_pos zs.length with h0 | hp
  · have hrun := run_copy_none (P := Try.prog) (W.alloc (.cells (madeCells #[.int .u64 0] zs.length) 23)) 37 37 3 23 (some ⟨W.heap.size, 0, none⟩) a zs.length zs.length zs.length cap Try.underlying37 size23' (by rw [h0]; rfl)
    refine ⟨_, by rw [hrun, h0]; rfl, hb0, ⟨_, _, rfl, Nat.le_refl _, .inl (List.eq_nil_of_length_eq_zero h0)⟩⟩
  · obtain ⟨b, o, rfl, hb, hc⟩ := hr hp
    have hg : (W.alloc (.cells (madeCells #[.int .u64 0] zs.length) 23)).heap[W.heap.size]? = some (.cells (madeCells #[.int .u64 0] zs.length) 23 (0, 0)) := by
      show (W.heap.push _)[W.heap.size]? = _
      simp
    have hlen : (zs.map (Value.int .u64)).length = zs.length := by simp
    have hrun := run_copy_row Try.prog (W.alloc (.cells (madeCells #[.int .u64 0] zs.length) 23)) 37 37 3 23 W.heap.size 0 zs.length zs.length ⟨b, o, none⟩ zs.length cap (madeCells #[.int .u64 0] zs.length) 23 (zs.map (Value.int .u64))
      Try.underlying37 size23' hg (by rw [hlen]; exact (Nat.min_self _).symm) (fun j v hj => by
        rw [Addr.add_lit, hb0.cell (p := ⟨b, o + j, none⟩) hb]
        simp only [List.getElem?_map, Option.map_eq_some_iff] at hj
        obtain ⟨z, hz, rfl⟩ := hj
        have hjl : j < zs.length := (List.getElem?_eq_some_iff.1 hz).1
        rw [hc j hjl, el_eq zs j hjl, (List.getElem?_eq_some_iff.1 hz).2])
      (by rw [hlen, size_madeCells]; omega) (ints_oneCell _ _)
    rw [hlen] at hrun
    refine ⟨_, hrun, below_setRow hb0 (Nat.le_refl _) _, _, _, rfl, Nat.le_refl _, .inr ⟨W.heap.size, 0, _, (0, 0), rfl, setRow_heap _ _ _ _ 23 _ hg, fun i hi => ?_⟩⟩
    simp only [List.take_zero, List.nil_append, List.getElem?_toArray, Nat.zero_add]
    rw [List.getElem?_append_left (by simpa using hi), el_eq zs i hi]
    simp [hi]

theorem own_cell {w : World} {base n cap : Nat} {e : TypeId} {g : Nat} {xs : List Value} (h : w.ownsRow base e 1 (.slice (some ⟨g, 0, none⟩) n cap) n xs) (i : Nat) (hi : i < n) : w.cell? ⟨g, i, none⟩ = xs[i]? := h.cellAt i (by omega)

def FR (w1 : World) (L : List (List Int)) (gk : Nat) (s5 s11 : Value) (wr : World) : Prop := wr = w1 ∧ ∃ i : Nat, s11 = .int .i64 (i : Nat) ∧ s5 = .int .i64 ((L.take i).flatten.length : Nat) ∧ i ≤ L.length ∧ L.length - i ≤ gk

set_option maxRecDepth 100000 in
set_option maxHeartbeats 2000000 in
theorem fit24 (root : Option Addr) (c n : Nat) (L : List (List Int)) (w : World) (ht : TreeIs w root L) (hn : L.flatten.length = n) (hM : n ≤ 1048576) :
    Calls Try.prog 24 #[.agg #[.pointer root, .int .i64 (c : Nat)], .int .i64 (n : Nat)] w fun e w' => Below w.heap.size w w' ∧ e = .returned (.bool true) := by
  have hB := (Below.refl w.heap.size w).alloc (Nat.le_refl _) (.cells #[.pointer root, .int .i64 (c : Int)] 44)
  have hlv := tree_leaves ht
  have H21 := hide (zz21 root c L (w.alloc (.cells #[.pointer root, .int .i64 (c : Int)] 44)) (ht.k2 (K2.below hB)) (by omega))
  have HB := hide hB
  have HLV := hide hlv
  have HN := hide hn
  have HLL : Hid (L.length ≤ 1048576) := by show _ ≤ _; have := flat_len (fun z hz => (hlv z hz).1); omega
  have HTL : Hid (∀ i, i < L.length → (L.take (i + 1)).flatten.length = (L.take i).flatten.length + (L.getD i []).length) := fun i hi => by
    rw [List.take_succ_eq_append_getElem hi, List.flatten_append, List.length_append]
    simp [hi]
  have HTM : Hid (∀ i, i ≤ L.length → (L.take i).flatten.length ≤ n) := fun i hi => by
    rw [← hn]
    conv => rhs; rw [← List.take_append_drop i L]
    rw [List.flatten_append, List.length_append]
    omega
  clear hB ht hlv hn
  go_enter Try.func24, Try.ntmps24
  go_wp2_with (go_at_call 21; refine H21.out.mono ?_; rintro e w2 ⟨hB2, v2, vals, rfl, hown2, hl2⟩
               obtain ⟨va, vc, rfl, hvc⟩ := ownsRow_shape hown2
               have HB2 : Hid (Below w.heap.size w w2) := HB.out.trans (hB2.mono HB.out.size)
               have HO2 := hide hown2
               have HL2 := hide hl2
               clear hB2 hown2 hl2)
  obtain ⟨N, hN⟩ : ∃ N, vals.length = N := ⟨_, rfl⟩
  have hNL : N = L.length := by rw [← hN]; exact HL2.out.1
  rw [hN] at HO2 hvc ⊢
  have hNb : N ≤ 1048576 := by rw [hNL]; exact HLL.out
  have HNL := hide hNL
  clear hN hNL H21
  have HF : Hid (FR w2 L N (.int .i64 0) (.int .i64 0) w2) := ⟨rfl, 0, rfl, by simp, Nat.zero_le _, by rw [HNL.out]; exact Nat.sub_le _ _⟩
  go_loopg [5, 11] N (fun gk s5 s11 wr => FR w2 L gk s5 s11 wr)
  case atStart => exact HF.out
  case round =>
    obtain ⟨rfl, i, rfl, rfl, hi, hgk⟩ := hrel
    clear HF
    obtain ⟨T, hT⟩ : ∃ T, (L.take i).flatten.length = T := ⟨_, rfl⟩
    have hTn : T ≤ n := by rw [← hT]; exact HTM.out i hi
    rw [hT]
    by_cases hlt : i < N
    · have hlL : i < L.length := by rw [← HNL.out]; exact hlt
      obtain ⟨a, cc, e1, e2⟩ := HL2.out.2 i hlL
      rcases HO2.out.2 with ⟨e, h0⟩ | ⟨g, cap', cur, e, _⟩
      · cases e; omega
      · cases e
        have hc := own_cell HO2.out i hlt
        rw [e1] at hc
        obtain ⟨z, hz⟩ : ∃ z, L[i] = z := ⟨_, rfl⟩
        rw [hz] at hc
        obtain ⟨zl, hzl⟩ : ∃ zl, z.length = zl := ⟨_, rfl⟩
        obtain ⟨z1, z2⟩ := HLV.out z (by rw [← hz]; exact List.getElem_mem hlL)
        rw [hzl] at hc z1 z2
        have hgl := World.block_lt_of_cell? wr ⟨g, i, none⟩ hc
        have HNX : Hid (FR wr L (N - (i + 1)) (.int .i64 ((T + zl : Nat) : Int)) (.int .i64 ((i + 1 : Nat) : Int)) wr) := ⟨rfl, i + 1, rfl, by
          rw [HTL.out i hlL, hT]
          have : L.getD i [] = z := by simp [hlL, hz]
          rw [this, hzl], hlL, by rw [HNL.out]; exact Nat.le_refl _⟩
        have hTz : T + zl ≤ 2097152 := by omega
        clear e1 e2 hz hzl hT
        go_wp2
        go_roundg (N - (i + 1))
        case rel => exact HNX.out
        case measure => rw [← HNL.out] at hgk; omega
    · obtain rfl : i = N := by rw [← HNL.out] at hi; omega
      have hTe : T = n := by rw [← hT, List.take_of_length_le (by rw [← HNL.out]; exact Nat.le_refl _)]; exact HN.out
      subst hTe
      clear hT
      go_wp2
      go_ret
      exact ⟨HB2.out, by simp⟩

theorem own_set1 {w : World} {base g n cap : Nat} {e : TypeId} {xs : List Value} (h : w.ownsRow base e 1 (.slice (some ⟨g, 0, none⟩) n cap) n xs) (i : Nat) (hi : i < n) (v : Value) : (w.setCell ⟨g, i, none⟩ v).ownsRow base e 1 (.slice (some ⟨g, 0, none⟩) n cap) n (xs.set i v) := by
  refine ⟨by rw [List.length_set]; exact h.1, ?_⟩
  rcases h.2 with ⟨e', _⟩ | ⟨g', cap', cur, e', hb, hg, h1, h2, h3, h4⟩
  · cases e'
  · cases e'
    refine .inr ⟨g, cap, cur.setIfInBounds i v, rfl, hb, ?_, h1, h2, by simpa using h3, ?_⟩
    · rw [setCell_eq_setRow w g i cur e (0, 0) v hg]
      exact setRow_heap w g cur _ e _ hg
    · rw [← h4, Array.toList_setIfInBounds, List.take_set]

/-- the first i of n read -/
def part (F : List Int) (n i : Nat) : List Int := F.take i ++ List.replicate (n - i) 0
theorem part_len {F : List Int} {n i : Nat} (hF : F.length = n) (hi : i ≤ n) : (part F n i).length = n := by
  simp [part]; omega
theorem part_set {F : List Int} {n i : Nat} (hF : F.length = n) (hi : i < n) : (part F n i).set i (el F i) = part F n (i + 1) := by
  have e1 : n - i = n - (i + 1) + 1 := by omega
  unfold part
  rw [e1, List.replicate_succ, List.set_append_right _ _ (by simp; omega)]
  have e2 : i - (F.take i).length = 0 := by simp; omega
  rw [e2, List.set_cons_zero, take_snoc_el (by omega), List.append_assoc]
  rfl

def RA (w : World) (root : Option Addr) (c g n : Nat) (F : List Int) (gk : Nat) (s6 : Value) (wr : World) : Prop :=
  ∃ i : Nat, s6 = .int .i64 (i : Nat) ∧ i ≤ n ∧ n - i ≤ gk ∧ Below w.heap.size w wr ∧ OwnU wr (w.heap.size + 1) (.slice (some ⟨g, 0, none⟩) n n) (part F n i) ∧ wr.rowIs w.heap.size 44 2 (fun j => if j = 0 then .pointer root else .int .i64 (c : Int))

theorem RA.step {w wr w1 : World} {root : Option Addr} {c g n i : Nat} {F : List Int} (hF : F.length = n) (hi : i < n) (hB : Below w.heap.size w wr) (ho : OwnU wr (w.heap.size + 1) (.slice (some ⟨g, 0, none⟩) n n) (part F n i)) (hrow : wr.rowIs w.heap.size 44 2 (fun j => if j = 0 then .pointer root else .int .i64 (c : Int)))
    (hB1 : Below wr.heap.size wr w1) : (∃ x, w1.cell? ⟨g, i, none⟩ = some x) ∧ w1.frozen? ⟨g, i, none⟩ = false ∧ RA w root c g n F (n - (i + 1)) (.int .i64 ((i + 1 : Nat) : Int)) (w1.setCell ⟨g, i, none⟩ (.int .u64 (el F i))) := by
  have hpl := part_len hF (Nat.le_of_lt hi)
  have o1 : w1.ownsRow (w.heap.size + 1) 23 1 (.slice (some ⟨g, 0, none⟩) n n) n ((part F n i).map (Value.int .u64)) := by
    have := World.ownsRow.kept ho (grown_of_below hB1 none) (Classical.em _)
    rw [hpl] at this
    exact this
  have hgw : w.heap.size + 1 ≤ g := (o1.lt g rfl).1
  refine ⟨⟨_, by rw [own_cell o1 i hi, List.getElem?_eq_getElem (by simp [hpl]; exact hi)]⟩, ?_, i + 1, rfl, hi, Nat.le_refl _, ?_, ?_, ?_⟩
  · obtain ⟨cur, hcu⟩ := own_type o1 g rfl
    simp [World.frozen?, hcu]
  · exact (hB.trans (hB1.mono hB.size)).setCell (p := ⟨g, i, none⟩) (by show w.heap.size ≤ g; omega) _
  · have := own_set1 o1 i hi (.int .u64 (el F i))
    unfold OwnU
    rw [part_len hF hi, ← part_set hF hi, List.map_set]
    exact this
  · exact (hrow.of_block (hB1.block _ hrow.lt)).of_block (Below.heap_setCell _ _ _ _ (by show w.heap.size ≠ g; omega))

set_option maxRecDepth 100000 in
set_option maxHeartbeats 2000000 in
theorem read25 (root : Option Addr) (c n : Nat) (L : List (List Int)) (w : World) (ht : TreeIs w root L) (hn : L.flatten.length = n) (hM : n ≤ 1048576) :
    Calls Try.prog 25 #[.agg #[.pointer root, .int .i64 (c : Nat)], .int .i64 (n : Nat)] w fun e w' => Below w.heap.size w w' ∧ ∃ v, e = .returned v ∧ SlU w' v L.flatten := by
  obtain ⟨Z, hZ, hmk⟩ := make37 n hM
  obtain ⟨W, hW⟩ : ∃ W, w.alloc (.cells #[.pointer root, .int .i64 (c : Int)] 44) = W := ⟨_, rfl⟩
  have hBW : Below w.heap.size w W := by rw [← hW]; exact (Below.refl _ w).alloc (Nat.le_refl _) _
  have hbox : W.rowIs w.heap.size 44 2 (fun j => if j = 0 then .pointer root else .int .i64 (c : Int)) := by
    rw [← hW]
    exact World.rowIs_alloc w #[.pointer root, .int .i64 (c : Int)] 44 _ (fun i hi => by
      have : i < 2 := hi
      match i, this with
      | 0, _ => rfl
      | 1, _ => rfl)
  obtain ⟨g, hg⟩ : ∃ g, W.heap.size = g := ⟨_, rfl⟩
  have hgw : g = w.heap.size + 1 := by rw [← hg, ← hW]; simp
  obtain ⟨F, hF⟩ : ∃ F, L.flatten = F := ⟨_, rfl⟩
  have hFl : F.length = n := by rw [← hF]; exact hn
  have HRA : Hid (RA w root c g n F n (.int .i64 0) (W.alloc (.cells Z 23))) := by
    refine ⟨0, rfl, Nat.zero_le _, Nat.le_refl _, hBW.alloc hBW.size _, ?_, hbox.of_block (Below.heap_alloc _ _ _ hbox.lt)⟩
    unfold OwnU
    rw [part_len hFl (Nat.zero_le _)]
    refine ⟨by simp [part_len hFl (Nat.zero_le _)], .inr ⟨g, n, Z, rfl, by omega, ?_, Nat.le_refl _, by unfold maxLen; omega, by rw [hZ, size_madeCells]; omega, ?_⟩⟩
    · rw [← hg]; exact World.alloc_heap_new W _
    · rw [hZ, Nat.mul_one]
      apply List.ext_getElem?
      intro i
      by_cases hi : i < n
      · simp [madeCells, part, hi, Nat.mod_one]
      · simp [madeCells, part, hi]
  have HTR : Hid (∀ wr : World, Below w.heap.size w wr → TreeIs wr root L) := fun wr hb => ht.k2 (K2.below hb)
  have hmk' : (Instr.makeSlice 37 (.int .i64 (n : Int)) (.int .i64 (n : Int))).run Try.prog W = .ok (.slice (some ⟨g, 0, none⟩) n n) (W.alloc (.cells Z 23)) := by rw [← hg]; exact hmk W
  have HF := hide hF
  have HFL := hide hFl
  have HN := hide hn
  rw [hF]
  clear ht hZ hmk hBW hbox hg hgw hF hFl hn
  go_enter Try.func25, Try.ntmps25
  go_wp2
  clear hW
  go_loopg [6] n (fun gk s6 wr => RA w root c g n F gk s6 wr)
  case atStart => exact HRA.out
  case round =>
    obtain ⟨i, rfl, hi, hgk, hB, ho, hrow⟩ := hrel
    clear HRA hmk'
    by_cases hlt : i < n
    · have H22 := hide (zat22 root c i L wr (HTR.out wr hB) (by rw [HN.out]; exact hlt) (by rw [HN.out]; exact hM))
      rw [HF.out] at H22
      have c0 : wr.cell? ⟨w.heap.size, 0, none⟩ = some (.pointer root) := hrow.cell (i := 0) (by omega)
      have c1 : wr.cell? ⟨w.heap.size, 1, none⟩ = some (.int .i64 (c : Int)) := hrow.cell (i := 1) (by omega)
      have HST : Hid (∀ w1, Below wr.heap.size wr w1 → _) := fun w1 hb => RA.step HFL.out hlt hB ho hrow hb
      clear hB ho hrow
      obtain ⟨x, hx⟩ : ∃ x, el F i = x := ⟨_, rfl⟩
      rw [hx] at H22 HST
      clear hx
      go_wp2_with (go_at_call 22; refine H22.out.mono ?_; rintro e w1 ⟨hB1, rfl⟩
                   obtain ⟨⟨y, hy⟩, hfr, hra⟩ := HST.out w1 hB1
                   have HRA2 := hide hra
                   clear hB1 hra)
      go_roundg (n - (i + 1))
      case rel => exact HRA2.out
      case measure => omega
    · obtain rfl : i = n := by omega
      go_wp2
      go_ret
      refine ⟨hB, .slice (some ⟨g, 0, none⟩) i i, rfl, ?_⟩
      have hp : part F i i = F := by
        unfold part
        rw [Nat.sub_self, List.replicate_zero, List.append_nil, List.take_of_length_le (by rw [HFL.out]; exact Nat.le_refl _)]
      rw [hp] at ho
      obtain ⟨e1, e2, e3⟩ := OwnU.row ho
      exact ⟨some ⟨g, 0, none⟩, i, by rw [← e1], by rw [← e1]; exact e2, e3⟩

end Go.Proofs.Qxb6613757a.T
