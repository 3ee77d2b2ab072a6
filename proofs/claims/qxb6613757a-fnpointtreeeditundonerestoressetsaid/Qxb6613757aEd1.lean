import Derived.Test.Qxb6613757aJw
import Derived.Test.Qxb6613757aAddL
/-
  treeNode.edited: the plain part.
-/
namespace Go.Proofs.Qxb6613757a.T
open Go.RowKit Go.Shelf
set_option linter.unusedVariables false
set_option linter.unusedSimpArgs false

theorem SlU.k2 {w w' : World} {v : Value} {zs : List Int} (h : SlU w v zs) (k : K2 w w') : SlU w' v zs := by
  obtain ⟨a, cap, e, h1, h2⟩ := h
  exact ⟨a, cap, e, h1, h2.k2 k⟩

set_option maxHeartbeats 1000000 in
/-- BinarySearch, of whatever cells -/
theorem bs44c (a : Option Addr) (n cap : Nat) (zs : List Int) (x : Int) (w : World) (hz : zs.length = n) (hn : n ≤ 1048576) (hr : 0 < zs.length → ∃ b o, a = some ⟨b, o, none⟩ ∧ b < w.heap.size ∧ ∀ i, i < zs.length → w.cell? ⟨b, o + i, none⟩ = some (.int .u64 (el zs i))) (ha : Asc zs) :
    Calls Try.prog 44 #[.slice a n cap, .int .u64 x] w fun e w' => w' = w ∧ ∃ i : Nat, Cut zs x i ∧ e = .returned (.tuple #[.int .i64 i, .bool (decide (i < n) && (el zs i == x))]) := by
  go_enter Try.func44, Try.ntmps44
  go_wp2
  go_loop [7, 8] (fun s t => ∃ i j : Nat, i ≤ j ∧ j ≤ n ∧ s = .int .i64 i ∧ t = .int .i64 j ∧ (∀ m, m < i → el zs m < x) ∧ (∀ m, j ≤ m → m < n → x ≤ el zs m)) (fun s t => (intOf t).toNat - (intOf s).toNat)
  case atStart => exact ⟨0, n, Nat.zero_le _, Nat.le_refl _, rfl, rfl, fun m h => by omega, fun m h1 h2 => by omega⟩
  case round =>
    obtain ⟨i, j, hij, hj, rfl, rfl, h1, h2⟩ := hrel
    have H1 := hide h1
    have H2 := hide h2
    clear h1 h2
    by_cases hlt : i < j
    · obtain ⟨b, o, rfl, hb, hc⟩ := hr (by omega)
      have eh : ((i : Int) + (j : Int)) / 2 = (((i + j) / 2 : Nat) : Int) := by omega
      have hm1 : i ≤ (i + j) / 2 := by omega
      have hm2 : (i + j) / 2 < j := by omega
      have c1 := hc ((i + j) / 2) (by omega)
      have lo : Hid (el zs ((i + j) / 2) < x → ∀ m, m < (i + j) / 2 + 1 → el zs m < x) := fun h m hm => Int.lt_of_le_of_lt (ha.le (by omega) (by omega)) h
      have hi : Hid (x ≤ el zs ((i + j) / 2) → ∀ m, (i + j) / 2 ≤ m → m < n → x ≤ el zs m) := fun h m hm1 hm2 => Int.le_trans h (ha.le hm1 (by omega))
      generalize (i + j) / 2 = m at *
      generalize el zs m = y at *
      clear hc hr
      by_cases hxy : y < x
      · go_wp2_with (go_at_call 51; refine (less51 _ _ _).mono ?_; rintro e w' ⟨rfl, rfl⟩)
        go_round
        case rel => exact ⟨m + 1, j, by omega, hj, by go_num, rfl, unhide lo hxy, unhide H2⟩
        case measure => simp [intOf]; omega
      · go_wp2_with (go_at_call 51; refine (less51 _ _ _).mono ?_; rintro e w' ⟨rfl, rfl⟩)
        go_round
        case rel => exact ⟨i, m, hm1, by omega, rfl, rfl, unhide H1, unhide hi (by omega)⟩
        case measure => simp [intOf]; omega
    · obtain rfl : i = j := by omega
      have HC : Hid (Cut zs x i) := ⟨by omega, unhide H1, fun m h1 h2 => unhide H2 m h1 (by omega)⟩
      clear H1 H2
      by_cases hin : i < n
      · obtain ⟨b, o, rfl, hb, hc⟩ := hr (by omega)
        have c1 := hc i (by omega)
        clear hc hr
        by_cases hex : el zs i = x
        · have hb1 : (el zs i == x) = true := by simp [hex]
          rw [hex] at c1
          go_wp2
          go_ret2
          exact ⟨rfl, i, HC.out, by rw [hb1]; simp [hin]⟩
        · have hb1 : (el zs i == x) = false := by simp [hex]
          clear hex
          go_wp2_with (go_at_call 52; refine (isNaN52 _ _).mono ?_; rintro e w' ⟨rfl, rfl⟩)
          go_ret2
          exact ⟨rfl, i, HC.out, by rw [hb1]; simp⟩
      · go_wp2
        go_ret2
        exact ⟨rfl, i, HC.out, by simp [hin]⟩

/-- the largest entries of the first k children -/
def lasts (Ls : List (List (List Int))) (k : Nat) : List Int := (List.range k).map (lastOf Ls)
theorem lasts_length (Ls : List (List (List Int))) (k : Nat) : (lasts Ls k).length = k := by simp [lasts]
theorem lasts_el {Ls : List (List (List Int))} {k i : Nat} (h : i < k) : el (lasts Ls k) i = lastOf Ls i := by simp [el, lasts, h]
theorem lasts_lt {Ls : List (List (List Int))} (hA : Asc (ents Ls)) (hk1 : ∀ i, i < Ls.length → 1 ≤ (lv Ls i).flatten.length) {i j : Nat} (hij : i < j) (hj : j < Ls.length) : lastOf Ls i < lastOf Ls j := by
  have e := ents_cut Ls j
  rw [e] at hA
  refine asc_mid hA (x := lastOf Ls i) (y := lastOf Ls j) ?_ ?_
  · have h1 : ents (Ls.take j) = ents ((Ls.take j).take i) ++ ents ((Ls.take j).drop i) := ents_cut _ _
    rw [h1, ents_drop (by simp; omega), lv_take hij]
    simp only [List.mem_append]
    exact .inr (.inl (el_mem (by have := hk1 i (by omega); omega)))
  · rw [ents_drop hj]
    exact List.mem_append.2 (.inl (el_mem (by have := hk1 j hj; omega)))
theorem lasts_asc {Ls : List (List (List Int))} {k : Nat} (hA : Asc (ents Ls)) (hk1 : ∀ i, i < Ls.length → 1 ≤ (lv Ls i).flatten.length) (hk : k ≤ Ls.length) : Asc (lasts Ls k) := fun i j hij hj => by
  rw [lasts_length] at hj
  rw [lasts_el (by omega), lasts_el hj]
  exact lasts_lt hA hk1 hij (by omega)

/-- the level, while a node is edited: rs0, and behind it the children gathered -/
def Lev (w : World) (v0 : Value) (rs0 : List Rec) (s3 : Value) (rs1 : List Rec) (wr : World) : Prop :=
  wr.ownsRow 0 81 5 s3 (rs0 ++ rs1).length (recCells (rs0 ++ rs1)) ∧ (s3.ownBlock = v0.ownBlock ∨ ∃ g, s3.ownBlock = some g ∧ w.heap.size ≤ g) ∧ s3.ownBlock ≠ none ∧ w.grownBy wr v0.ownBlock ∧ K2 w wr
theorem Lev.dn {w wr : World} {v0 s3 : Value} {rs0 rs1 : List Rec} (h : Lev w v0 rs0 s3 rs1 wr) (q : Nat) : Lev w v0 rs0 s3 rs1 (wr.drewN q) :=
  ⟨h.1, h.2.1, h.2.2.1, ⟨h.2.2.2.1.os, h.2.2.2.1.tape, h.2.2.2.1.output, h.2.2.2.1.size, h.2.2.2.1.block⟩, h.2.2.2.2⟩
theorem Lev.below {w wr w1 : World} {v0 s3 : Value} {rs0 rs1 : List Rec} (h : Lev w v0 rs0 s3 rs1 wr) (hB : Below wr.heap.size wr w1) : Lev w v0 rs0 s3 rs1 w1 :=
  ⟨h.1.kept (grown_of_below hB none) (Classical.em _), h.2.1, h.2.2.1, World.grownBy.trans h.2.2.2.1 (grown_of_below hB _), h.2.2.2.2.trans (K2.below hB)⟩
theorem Lev.more {w wr w6 : World} {v0 s3 v' : Value} {rs0 rs1 ps : List Rec} {N : Nat} (h : Lev w v0 rs0 s3 rs1 wr) (hg : wr.grownBy w6 s3.ownBlock) (hN : N = (rs0 ++ rs1 ++ ps).length) (hown : w6.ownsRow 0 81 5 v' N (recCells (rs0 ++ rs1 ++ ps))) (hob : v'.ownBlock = s3.ownBlock ∨ ∃ g, v'.ownBlock = some g ∧ wr.heap.size ≤ g) :
    Lev w v0 rs0 v' (rs1 ++ ps) w6 ∧ K2 wr w6 := by
  obtain ⟨h1, h2, h3, h4, h5⟩ := h
  have k := own_k2 h1 hg
  refine ⟨⟨by rw [← List.append_assoc, ← hN]; exact hown, ?_, ?_, grown_trans h4 hg h2, h5.trans k⟩, k⟩
  · rcases hob with e | ⟨g, e, hgg⟩
    · rw [e]; exact h2
    · exact .inr ⟨g, e, Nat.le_trans h4.size hgg⟩
  · rcases hob with e | ⟨g, e, _⟩
    · rw [e]; exact h3
    · rw [e]; simp
theorem Lev.one {w wr W5 w6 : World} {v0 s3 v' : Value} {rs0 rs1 : List Rec} {c : Rec} {N : Nat} (h : Lev w v0 rs0 s3 rs1 wr) (hB : Below wr.heap.size wr W5) (hg : W5.grownBy w6 s3.ownBlock) (hN : N = (rs0 ++ rs1).length + 1) (hown : w6.ownsRow 0 81 5 v' N (recCells (rs0 ++ rs1) ++ c.cells)) (hob : v'.ownBlock = s3.ownBlock ∨ v'.ownBlock = some W5.heap.size) :
    Lev w v0 rs0 v' (rs1 ++ [c]) w6 ∧ K2 wr w6 := by
  have h5 := h.below hB
  obtain ⟨a, b⟩ := h5.more (ps := [c]) (N := N) hg (by rw [hN]; simp; omega) (by rw [recCells_append]; simpa [recCells] using hown) (by
    rcases hob with e | e
    · exact .inl e
    · exact .inr ⟨_, e, Nat.le_refl _⟩)
  exact ⟨a, (K2.below hB).trans b⟩

/-- between two kept children: up to child c -/
def EK (w : World) (h : Nat) (v0 : Value) (rs0 : List Rec) (Ls : List (List (List Int))) (ds xs D' A' : List Int) (c gk : Nat) (s3 s10 : Value) (wr : World) : Prop :=
  ∃ (k : Nat) (rs1 : List Rec) (Ks : List (List (List Int))), s10 = .int .i64 (k : Nat) ∧ k ≤ c ∧ c - k ≤ gk ∧ Lev w v0 rs0 s3 rs1 wr ∧ Kids wr h rs1 Ks ∧ EI Ls ds xs k D' A' (ents Ks)
/-- between two edited children -/
def EL (w : World) (h : Nat) (v0 : Value) (rs0 : List Rec) (Ls : List (List (List Int))) (ds xs : List Int) (gk : Nat) (s1 s2 s3 s10 : Value) (wr : World) : Prop :=
  ∃ (D' A' : List Int) (k : Nat) (rs1 : List Rec) (Ks : List (List (List Int))), SlU w s1 D' ∧ SlU w s2 A' ∧ s10 = .int .i64 (k : Nat) ∧ Ls.length - k ≤ gk ∧ Lev w v0 rs0 s3 rs1 wr ∧ Kids wr h rs1 Ks ∧ EI Ls ds xs k D' A' (ents Ks)

/-- what edited hands back -/
def EdR (w : World) (h : Nat) (v0 : Value) (rs0 : List Rec) (E ds xs : List Int) (e : Ending) (w' : World) : Prop :=
  w.grownBy w' v0.ownBlock ∧ ∃ (v' : Value) (ps : List Rec) (Ps : List (List (List Int))), e = .returned v' ∧ w'.ownsRow 0 81 5 v' (rs0 ++ ps).length (recCells (rs0 ++ ps)) ∧ (v'.ownBlock = v0.ownBlock ∨ ∃ g, v'.ownBlock = some g ∧ w.heap.size ≤ g) ∧ v'.ownBlock ≠ none ∧ Kids w' (h + 1) ps Ps ∧ Ed E ds xs (ents Ps)
def EdC (h : Nat) : Prop := ∀ (nb m : Nat) (rs : List Rec) (Ls : List (List (List Int))) (ds xs : List Int) (sd sx v0 : Value) (rs0 : List Rec) (w : World), Nd w h nb m rs Ls → Asc (ents Ls) → Asc ds → Asc xs → Sub ds (ents Ls) → Dis xs (ents Ls) → SlU w sd ds → SlU w sx xs →
  w.ownsRow 0 81 5 v0 rs0.length (recCells rs0) → v0.ownBlock ≠ none → rs0.length + (ents Ls).length + ds.length + xs.length ≤ 1048576 →
  Calls Try.prog 37 #[.pointer (some ⟨nb, 0, none⟩), sd, sx, v0] w fun e w' => EdR w h v0 rs0 (ents Ls) ds xs e w'

theorem ents_one (Ks : List (List (List Int))) (L : List (List Int)) : ents (Ks ++ [L]) = ents Ks ++ L.flatten := by
  unfold ents; rw [List.flatten_append, List.flatten_append]; simp
theorem ents_app (X Y : List (List (List Int))) : ents (X ++ Y) = ents X ++ ents Y := by unfold ents; rw [List.flatten_append, List.flatten_append]

/-- a child is kept -/
theorem EK.step {w wr w6 : World} {h k c : Nat} {v0 s3 v' : Value} {rs0 rs1 : List Rec} {cr : Rec} {Ls Ks : List (List (List Int))} {ds xs D' A' : List Int} (hl : Lev w v0 rs0 v' (rs1 ++ [cr]) w6) (hk2 : K2 wr w6) (hkc : k < c) (hkl : k < Ls.length) (hA : Asc (ents Ls)) (hks : Kids wr h rs1 Ks) (hei : EI Ls ds xs k D' A' (ents Ks)) (hc : KidRec wr h cr (lv Ls k))
    (hs : ∀ x, x ∈ (lv Ls k).flatten → ∀ y, y ∈ D' ∨ y ∈ A' → x < y) (hend : k + 1 = Ls.length → D' = [] ∧ A' = []) : EK w h v0 rs0 Ls ds xs D' A' c (c - (k + 1)) v' (.int .i64 ((k + 1 : Nat) : Int)) w6 := by
  refine ⟨k + 1, rs1 ++ [cr], Ks ++ [lv Ls k], rfl, by omega, Nat.le_refl _, hl, (hks.k2 hk2).append (Kids.one (hc.k2 hk2)), ?_⟩
  rw [ents_one]
  exact hei.keep hkl hA hs hend

/-- child c, and what falls in it -/
def ES (Ls : List (List (List Int))) (ds xs : List Int) (c : Nat) (R d a D2 A2 : List Int) : Prop :=
  Sub d (lv Ls c).flatten ∧ Dis a (lv Ls c).flatten ∧ Asc d ∧ Asc a ∧ d.length + a.length + R.length + (lv Ls c).flatten.length ≤ (ents Ls).length + ds.length + xs.length ∧ ∀ R', Ed (lv Ls c).flatten d a R' → EI Ls ds xs (c + 1) D2 A2 (R ++ R')

theorem ES.cut {Ls : List (List (List Int))} {ds xs D' A' R : List Int} {c i j : Nat} (h : EI Ls ds xs c D' A' R) (hc : c + 1 < Ls.length) (hne : 1 ≤ (lv Ls c).flatten.length) (hA : Asc (ents Ls)) (h1 : Asc ds) (h2 : Asc xs) (hS : Sub ds (ents Ls)) (hD : Dis xs (ents Ls))
    (hi : Upto D' (lastOf Ls c) i) (hj : Upto A' (lastOf Ls c) j) : ES Ls ds xs c R (D'.take i) (A'.take j) (D'.drop i) (A'.drop j) := by
  obtain ⟨a1, a2⟩ := h.cut hc hne hA hS hi hj
  obtain ⟨b1, b2⟩ := h.asc h1 h2
  have hl := h.len
  have hd := congrArg List.length (ents_drop (Ls := Ls) (k := c) (by omega))
  rw [List.length_append] at hd
  refine ⟨a1, fun x hx => h.dis hD (by omega) x (List.mem_of_mem_take hx), b1.take i, b2.take j, ?_, a2⟩
  have e1 : (D'.take i).length ≤ D'.length := by rw [List.length_take]; omega
  have e2 : (A'.take j).length ≤ A'.length := by rw [List.length_take]; omega
  omega
theorem ES.rest {Ls : List (List (List Int))} {ds xs D' A' R : List Int} {c : Nat} (h : EI Ls ds xs c D' A' R) (hc : c + 1 = Ls.length) (hA : Asc (ents Ls)) (h1 : Asc ds) (h2 : Asc xs) (hS : Sub ds (ents Ls)) (hD : Dis xs (ents Ls)) : ES Ls ds xs c R D' A' [] [] := by
  obtain ⟨a1, a2⟩ := h.rest hc hA hS
  obtain ⟨b1, b2⟩ := h.asc h1 h2
  have hl := h.len
  have hd := congrArg List.length (ents_drop (Ls := Ls) (k := c) (by omega))
  rw [List.length_append] at hd
  exact ⟨a1, h.dis hD (by omega), b1, b2, by omega, a2⟩

/-- child c is edited -/
theorem EL.step {w wr w6 : World} {h c : Nat} {v0 v' s1 s2 : Value} {rs0 rs1 ps : List Rec} {Ls Ks Ps : List (List (List Int))} {ds xs d a D2 A2 : List Int} (hl : Lev w v0 rs0 v' (rs1 ++ ps) w6) (hk2 : K2 wr w6) (hks : Kids wr h rs1 Ks) (hps : Kids w6 h ps Ps) (hES : ES Ls ds xs c (ents Ks) d a D2 A2) (hEd : Ed (lv Ls c).flatten d a (ents Ps))
    (h1 : SlU w s1 D2) (h2 : SlU w s2 A2) : EL w h v0 rs0 Ls ds xs (Ls.length - (c + 1)) s1 s2 v' (.int .i64 ((c + 1 : Nat) : Int)) w6 :=
  ⟨D2, A2, c + 1, rs1 ++ ps, Ks ++ Ps, h1, h2, rfl, Nat.le_refl _, hl, (hks.k2 hk2).append hps, by rw [ents_app]; exact hES.2.2.2.2.2 _ hEd⟩

/-- the leaves that hold a list -/
theorem leaf_kids {w : World} {zs : List Int} {n : Nat} {ns : List Rec} (hz : zs.length = n) (hns : ns.length = npc n 64) (hk : ∀ j, j < npc n 64 → KidRec w 0 (rc ns j) [piece zs (npc n 64) j]) : ∃ Ps, Kids w 0 ns Ps ∧ ents Ps = zs := by
  refine ⟨_, kids_leaves hns hk, ?_⟩
  rcases Nat.eq_zero_or_pos (npc n 64) with h | h
  · have : n = 0 := by
      rcases Nat.eq_zero_or_pos n with h' | h'
      · exact h'
      · have := npc_pos (n := n) (most := 64) (by omega) h'; omega
    rw [h]
    subst this
    rw [List.eq_nil_of_length_eq_zero hz]; rfl
  · exact leaves_flat h

end Go.Proofs.Qxb6613757a.T
