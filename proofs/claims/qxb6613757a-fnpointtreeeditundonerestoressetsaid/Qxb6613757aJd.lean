import Derived.Test.Qxb6613757aJl
/-
  joined, two nodes: the plain part.
-/
namespace Go.Proofs.Qxb6613757a.T
open Go.RowKit Go.Shelf
set_option linter.unusedVariables false
set_option linter.unusedSimpArgs false

/-- a node's block, over children of height h -/
def Nd (w : World) (h nb m : Nat) (rs : List Rec) (Ls : List (List (List Int))) : Prop := w.rowIs nb 73 66 (nodeCell m (h == 0) rs m) ∧ rs.length = m ∧ Ls.length = m ∧ 1 ≤ m ∧ m ≤ 16 ∧ ∀ i, i < m → KidRec w h (rc rs i) (lv Ls i)
theorem Nd.k2 {w w' : World} {h nb m : Nat} {rs : List Rec} {Ls : List (List (List Int))} (hn : Nd w h nb m rs Ls) (k : K2 w w') : Nd w' h nb m rs Ls := by
  obtain ⟨h1, h2, h3, h4, h5, h6⟩ := hn
  exact ⟨rowIs_k2 h1 k, h2, h3, h4, h5, fun i hi => (h6 i hi).k2 k⟩
theorem KidRec.nd {w : World} {h : Nat} {r : Rec} {L : List (List Int)} (hk : KidRec w (h + 1) r L) : ∃ nb m rs Ls, r.node = some ⟨nb, 0, none⟩ ∧ Nd w h nb m rs Ls ∧ L = Ls.flatten := by
  obtain ⟨nb, m, rs, Ls, e, hr, h1, h2, h3, h4, h5, h6, _⟩ := hk
  exact ⟨nb, m, rs, Ls, e, ⟨hr, h1, h2, h3, h4, h6⟩, h5⟩
theorem KidRec.freshen {w : World} {b : Bool} : ∀ {h : Nat} {r : Rec} {L : List (List Int)}, KidRec w h r L → KidRec w h { r with fresh := b } L
  | 0, r, L, hk => hk
  | h + 1, r, L, hk => hk
theorem lv_part {Ls : List (List (List Int))} {i : Nat} (h : i < Ls.length) : (lv Ls i).flatten.length ≤ (ents Ls).length := ents_part h

/-- child i of a node, as 'child' hands it out -/
theorem Nd.child {w : World} {h nb m i : Nat} {rs : List Rec} {Ls : List (List (List Int))} (hn : Nd w h nb m rs Ls) (hM : (ents Ls).length ≤ 1048576) (hi : i < m) :
    ∃ c : Rec, c.fresh = false ∧ ∀ W : World, K2 w W → (Calls Try.prog 45 #[.pointer (some ⟨nb, 0, none⟩), .int .i64 (i : Nat)] W fun e w' => Below W.heap.size W w' ∧ e = .returned c.val) ∧ KidRec W h c (lv Ls i) := by
  refine ⟨childRec (h == 0) (rc rs i), by unfold childRec; split <;> rfl, fun W k => ?_⟩
  obtain ⟨h1, h2, h3, h4, h5, h6⟩ := hn.k2 k
  have hc := (h6 i hi).some_last.2.2.1
  have hp := lv_part (Ls := Ls) (i := i) (by omega)
  exact ⟨child45 nb m i (h == 0) rs W h5 hi h1 (by rw [hc]; omega), (h6 i hi).child⟩

theorem new_cells' (w : World) (r : Rec) : ∀ ad, some (⟨w.heap.size, 0, none⟩ : Addr) = some ad → ∀ j u, r.cells[j]? = some u → (w.alloc (.cells #[.int .u64 r.last, .int .i64 r.count, .slice r.la r.ll r.lc, .pointer r.node, .bool r.fresh] 81)).cell? (ad.add j) = some u := new_cells w r

theorem node_joined {w w3 : World} {h n : Nat} {v : Value} {ps : List Rec} {La Lb : List (List Int)} {Ls : List (List (List Int))} (hl : Ls.length = n) (h1 : 1 ≤ n) (h32 : n ≤ 32) (hE : ents Ls = La.flatten ++ Lb.flatten) (hB : Below w.heap.size w w3) (hrow : w3.ownsRow w.heap.size 81 5 v ps.length (recCells ps))
    (hps : ps.length = npc n 16) (hk : ∀ i, i < npc n 16 → KidRec w3 (h + 1) (rc ps i) (piece Ls (npc n 16) i).flatten ∧ (rc ps i).fresh = true ∧ SizeIs w3 (rc ps i) (cutAt n (npc n 16) (i + 1) - cutAt n (npc n 16) i)) : Joined w (h + 1) La Lb (.returned v) w3 := by
  obtain ⟨p1, p2⟩ := npc_two (n := n) (most := 16) h1 (by omega) (by omega)
  refine ⟨hB, v, ps, _, rfl, hrow, by omega, by omega, kids_ups hps (fun j hj => (hk j hj).1), ?_, fun h2 i hi => ?_⟩
  · rw [← hE]; unfold ents; rw [ups_flat (by omega)]
  · obtain ⟨_, hf, hs⟩ := hk i (by omega)
    have h2' : npc n 16 = 2 := by omega
    rw [h2'] at hs
    refine .inr ⟨_, hs, ?_⟩
    have := npc_half (n := n) (most := 16) (by omega) h2' hi
    simp
    intro _
    omega

/-- joined: between two nodes -/
def JO (w : World) (h pb na nb : Nat) (E1 E2 : List Int) (gk : Nat) (s5 s26 : Value) (wr : World) : Prop :=
  ∃ (q : Nat) (rs : List Rec) (Ls : List (List (List Int))), s26 = .int .i64 (q : Nat) ∧ q ≤ 2 ∧ 2 - q ≤ gk ∧ wr.ownsRow w.heap.size 81 5 s5 rs.length (recCells rs) ∧ Kids wr h rs Ls ∧ ents Ls = (if q = 0 then [] else if q = 1 then E1 else E1 ++ E2) ∧ q ≤ rs.length ∧ rs.length ≤ 16 * q ∧ Below w.heap.size w wr ∧
    wr.heap[pb]? = some (.cells #[.pointer (some ⟨na, 0, none⟩), .pointer (some ⟨nb, 0, none⟩)] 42 (0, 0))
/-- joined: between two children of a node -/
def JI (w : World) (h pb na nb m : Nat) (rs0 : List Rec) (Ls0 Lsq : List (List (List Int))) (gk : Nat) (s5 s34 : Value) (wr : World) : Prop :=
  ∃ (i : Nat) (R : List Rec), s34 = .int .i64 (i : Nat) ∧ i ≤ m ∧ m - i ≤ gk ∧ R.length = i ∧ wr.ownsRow w.heap.size 81 5 s5 (rs0 ++ R).length (recCells (rs0 ++ R)) ∧ Kids wr h rs0 Ls0 ∧ Kids wr h R (Lsq.take i) ∧ Below w.heap.size w wr ∧ K2 w wr ∧
    wr.heap[pb]? = some (.cells #[.pointer (some ⟨na, 0, none⟩), .pointer (some ⟨nb, 0, none⟩)] 42 (0, 0))

theorem JI.step {w wr W5 w6 : World} {h pb na nb m i N : Nat} {rs0 R : List Rec} {Ls0 Lsq : List (List (List Int))} {s5 v' : Value} {c : Rec} (hi : i < m) (hLq : Lsq.length = m) (hR : R.length = i) (hown : wr.ownsRow w.heap.size 81 5 s5 (rs0 ++ R).length (recCells (rs0 ++ R))) (hk0 : Kids wr h rs0 Ls0) (hkR : Kids wr h R (Lsq.take i))
    (hB : Below w.heap.size w wr) (hk2 : K2 w wr) (hpb : wr.heap[pb]? = some (.cells #[.pointer (some ⟨na, 0, none⟩), .pointer (some ⟨nb, 0, none⟩)] 42 (0, 0))) (hB5 : Below wr.heap.size wr W5) (hg : W5.grownBy w6 s5.ownBlock) (hN : N = (rs0 ++ R).length + 1)
    (hown6 : w6.ownsRow w.heap.size 81 5 v' N (recCells (rs0 ++ R) ++ c.cells)) (hc : KidRec wr h c (lv Lsq i)) :
    JI w h pb na nb m rs0 Ls0 Lsq (m - (i + 1)) v' (.int .i64 ((i + 1 : Nat) : Int)) w6 := by
  have own5 := hown.kept (grown_of_below hB5 none) (Classical.em _)
  have kA := K2.below hB5
  have kB := own_k2 own5 hg
  have kAB := kA.trans kB
  have hpl : pb < wr.heap.size := (Array.getElem?_eq_some_iff.1 hpb).1
  refine ⟨i + 1, R ++ [c], rfl, hi, Nat.le_refl _, by simp [hR], ?_, hk0.k2 kAB, ?_, ?_, hk2.trans kAB, ?_⟩
  · have e : (rs0 ++ (R ++ [c])).length = N := by rw [hN]; simp; omega
    rw [e, ← List.append_assoc, recCells_append]
    simpa [recCells] using hown6
  · have e : Lsq.take (i + 1) = Lsq.take i ++ [lv Lsq i] := by
      rw [List.take_succ_eq_append_getElem (by omega)]; simp [lv, show i < Lsq.length by omega]
    rw [e]
    exact (hkR.k2 kAB).append (Kids.one (hc.k2 kAB))
  · exact (hB.trans (hB5.mono hB.size)).grown hg (Nat.le_trans hB.size hB5.size) (fun l e => (own5.lt l e).1)
  · rw [hg.block pb (Nat.lt_of_lt_of_le hpl hB5.size) ?_, hB5.block pb hpl]
    · exact hpb
    · intro e
      obtain ⟨cur, hcu⟩ := own_type hown pb e.symm
      rw [hpb] at hcu
      cases hcu

/-- joined: a node is done -/
theorem JI.done {w wr : World} {h pb na nb m q : Nat} {rs0 R : List Rec} {Ls0 Lsq : List (List (List Int))} {s5 : Value} {E1 E2 : List Int} (hm1 : 1 ≤ m) (hm2 : m ≤ 16) (hLq : Lsq.length = m) (hR : R.length = m) (hown : wr.ownsRow w.heap.size 81 5 s5 (rs0 ++ R).length (recCells (rs0 ++ R))) (hk0 : Kids wr h rs0 Ls0) (hkR : Kids wr h R (Lsq.take m))
    (hB : Below w.heap.size w wr) (hpb : wr.heap[pb]? = some (.cells #[.pointer (some ⟨na, 0, none⟩), .pointer (some ⟨nb, 0, none⟩)] 42 (0, 0))) (hq : q < 2) (hq1 : q ≤ rs0.length) (hq2 : rs0.length ≤ 16 * q)
    (hE0 : ents Ls0 = (if q = 0 then [] else if q = 1 then E1 else E1 ++ E2)) (hEq : ents Lsq = if q = 0 then E1 else E2) :
    JO w h pb na nb E1 E2 (2 - (q + 1)) s5 (.int .i64 ((q + 1 : Nat) : Int)) wr := by
  rw [List.take_of_length_le (by omega)] at hkR
  refine ⟨q + 1, rs0 ++ R, Ls0 ++ Lsq, rfl, by omega, Nat.le_refl _, hown, hk0.append hkR, ?_, by simp; omega, by simp; omega, hB, hpb⟩
  have app : ents (Ls0 ++ Lsq) = ents Ls0 ++ ents Lsq := by unfold ents; rw [List.flatten_append, List.flatten_append]
  rw [app, hE0, hEq]
  match q, hq with
  | 0, _ => simp
  | 1, _ => simp

end Go.Proofs.Qxb6613757a.T
