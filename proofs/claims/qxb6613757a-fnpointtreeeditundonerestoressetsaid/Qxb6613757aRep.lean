import Derived.Test.Qxb6613757aParA
import Derived.Deep.RegionHeldLaw
import Derived.BigQuiet
import Derived.ArgAppend
/-
  slices.Replace in place: two records by one or two.
-/
namespace Go.Proofs.Qxb6613757a.T
open Go.RowKit Go.Shelf
set_option linter.unusedVariables false
set_option linter.unusedSimpArgs false

theorem recCells_splice (xs ys : List Rec) (p : Nat) : recCells (xs.take p ++ (ys ++ xs.drop (p + ys.length))) = (recCells xs).take (p * 5) ++ (recCells ys ++ (recCells xs).drop (p * 5 + (recCells ys).length)) := by
  rw [recCells_append, recCells_append, recCells_take, recCells_length, show p * 5 + ys.length * 5 = (p + ys.length) * 5 by omega, recCells_drop]

theorem take_splice {α : Type} (L c : List α) (i n : Nat) (h1 : i + c.length ≤ n) (h2 : n ≤ L.length) : (L.take i ++ c ++ L.drop (i + c.length)).take n = (L.take n).take i ++ (c ++ (L.take n).drop (i + c.length)) := by
  have hA : (L.take i ++ c).length = i + c.length := by rw [List.length_append, List.length_take]; omega
  rw [List.take_append (l₁ := L.take i ++ c), hA, List.take_of_length_le (l := L.take i ++ c) (by omega), List.take_take, List.drop_take, Nat.min_eq_left (by omega), List.append_assoc]

/-- records stored into a level's row -/
theorem setR {w : World} {g N cap : Nat} {xs : List Rec} (h : w.ownsRow 0 81 5 (.slice (some ⟨g, 0, none⟩) N cap) N (recCells xs)) (hN : xs.length = N) (p : Nat) (ys : List Rec) (hp : p + ys.length ≤ N) :
    (storeCells ⟨g, p * 5, none⟩ (recCells ys) 0).run Try.prog w = .ok () (w.setCells g (p * 5) (recCells ys)) ∧
    (w.setCells g (p * 5) (recCells ys)).ownsRow 0 81 5 (.slice (some ⟨g, 0, none⟩) N cap) N (recCells (xs.take p ++ (ys ++ xs.drop (p + ys.length)))) ∧ w.grownBy (w.setCells g (p * 5) (recCells ys)) (some g) ∧
    (∀ j, j < (recCells ys).length → (w.cell? ⟨g, p * 5 + j, none⟩).isSome = true ∧ w.frozen? ⟨g, p * 5 + j, none⟩ = false) := by
  obtain ⟨h1, h2, cur, hg, hs, ht⟩ := own_shape81 h
  have hlc : cur.toList.length = cap * 5 := by rw [Array.length_toList, hs]
  have hyl := recCells_length ys
  have hcells : ∀ j, j < (recCells ys).length → (w.cell? ⟨g, p * 5 + j, none⟩).isSome = true ∧ w.frozen? ⟨g, p * 5 + j, none⟩ = false := fun j hj => by
    have : p * 5 + j < cur.size := by omega
    simp [World.cell?, World.frozen?, hg, this]
  have r1 := run_storeCells_at Try.prog g (p * 5) 81 (recCells ys) 0 cur w hg (by omega) (recCells_one ys)
  have r2 := run_storeCells_cells (P := Try.prog) g (p * 5) (recCells ys) 0 w (fun j hj => (hcells j hj).1) (fun j hj => (hcells j hj).2) (recCells_one ys)
  have e : w.setCells g (p * 5) (recCells ys) = w.setRow g (cur.toList.take (p * 5) ++ recCells ys ++ cur.toList.drop (p * 5 + (recCells ys).length)).toArray := by
    rw [r1] at r2
    simp only [Nat.add_zero] at r2
    injection r2 with _ r3
    exact r3.symm
  refine ⟨by simpa using r2, ?_, ?_, hcells⟩
  · rw [e]
    refine ⟨?_, .inr ⟨g, cap, _, rfl, Nat.zero_le _, setRow_heap w g cur _ 81 _ hg, h1, h2, ?_, ?_⟩⟩
    · rw [recCells_length]
      simp only [List.length_append, List.length_take, List.length_drop]
      omega
    · simp only [List.size_toArray, List.length_append, List.length_take, List.length_drop, Array.length_toList]
      omega
    · rw [recCells_splice, ← ht]
      exact take_splice _ _ _ _ (by omega) (by omega)
  · rw [e]
    exact ⟨rfl, rfl, rfl, by simp, fun k _ hk => setRow_other w g k _ (fun e => hk (by simp [e]))⟩

/-- append in place -/
theorem wpList_appR {w : World} {ops : Array Oper} {rest : List Oper} {o : Oper} {a : Act} {Q : Exit → Act → World → Prop} (hgd : o.guard = none) (s x : Operand)
    (ho : o.op = .call { callee := .builtin .append, args := #[s, x], argTypes := #[63, 63] }) {g N cap : Nat} {xs : List Rec} (h : w.ownsRow 0 81 5 (.slice (some ⟨g, 0, none⟩) N cap) N (recCells xs)) (hN : xs.length = N)
    (u i lcap k e : Nat) (ad : Addr) (cv : Nat) (ys : List Rec) (hs : a.eval s = .slice (some ⟨g, u * 5, none⟩) i lcap) (hx : a.eval x = .slice (some ad) k cv) (hk : ys.length = k) (he : e = i + k)
    (hnews : ∀ j v, (recCells ys)[j]? = some v → w.cell? (ad.add j) = some v) (hroom : i + k ≤ lcap) (hp : u + i + k ≤ N)
    (hK : ∀ w', w'.ownsRow 0 81 5 (.slice (some ⟨g, 0, none⟩) N cap) N (recCells (xs.take (u + i) ++ (ys ++ xs.drop (u + i + ys.length)))) → w.grownBy w' (some g) → wpList Try.prog ops Q rest (a.put o.dst (.slice (some ⟨g, u * 5, none⟩) e lcap)) w') : wpList Try.prog ops Q (o :: rest) a w := by
  obtain ⟨info, hi0, hz, hsize, hby⟩ := info_parts info81
  obtain ⟨r1, r2, r3, r4⟩ := setR h hN (u + i) ys (by omega)
  rw [show (u + i) * 5 = u * 5 + i * 5 by omega] at r1 r2 r3 r4
  have hrun := run_append_room_cells (P := Try.prog) w 63 o.type 81 info Try.underlying63 hi0 g (u * 5) i lcap ad k cv (recCells ys) (by rw [recCells_length, hsize, hk]) hnews (recCells_one ys) hroom (fun j hj => by rw [hsize]; exact (r4 j hj).1) (fun j hj => by rw [hsize]; exact (r4 j hj).2)
  rw [hsize, ← he] at hrun
  refine wpList_plain hgd fun K hK' => ?_
  unfold Oper.wp
  simp [execOp, ho, resolve, invoke, builtin, hs, hx, hrun, Result.andThen]
  exact hK' _ _ (hK _ r2 r3)

theorem run_copyR {w : World} {g N cap : Nat} {xs : List Rec} (h : w.ownsRow 0 81 5 (.slice (some ⟨g, 0, none⟩) N cap) N (recCells xs)) (hN : xs.length = N)
    (p off dl dc sl sc : Nat) (ad : Addr) (ys : List Rec) (ty : TypeId) (hoff : off = p * 5) (hk : ys.length = Nat.min sl dl)
    (hnews : ∀ j v, (recCells ys)[j]? = some v → w.cell? (ad.add j) = some v) (hp : p + ys.length ≤ N) :
    (Builtin.copy_ #[63, 63] ty #[.slice (some ⟨g, off, none⟩) dl dc, .slice (some ad) sl sc]).run Try.prog w = .ok (goInt ys.length) (w.setCells g (p * 5) (recCells ys)) := by
  obtain ⟨r1, r2, r3, r4⟩ := setR h hN p ys hp
  obtain ⟨info, hi0, hz, hsize, hby⟩ := info_parts info81
  subst hoff
  have hl := run_loadCells_list (P := Try.prog) w ad (recCells ys) hnews
  rw [recCells_length] at hl
  simp [Builtin.copy_, run_underlying Try.underlying63, Builtin.lenOf, Builtin.firstCells, sizeOf, typeInfo, hi0, hsize, ← hk, hl, r1]

theorem wpList_copyR {w : World} {ops : Array Oper} {rest : List Oper} {o : Oper} {a : Act} {Q : Exit → Act → World → Prop} (hgd : o.guard = none) (d s : Operand)
    (ho : o.op = .call { callee := .builtin .copy, args := #[d, s], argTypes := #[63, 63] }) {g N cap : Nat} {xs : List Rec} (h : w.ownsRow 0 81 5 (.slice (some ⟨g, 0, none⟩) N cap) N (recCells xs)) (hN : xs.length = N)
    (p off dl dc sl sc : Nat) (ad : Addr) (ys : List Rec) (hd : a.eval d = .slice (some ⟨g, off, none⟩) dl dc) (hs : a.eval s = .slice (some ad) sl sc) (hoff : off = p * 5) (hk : ys.length = Nat.min sl dl)
    (hnews : ∀ j v, (recCells ys)[j]? = some v → w.cell? (ad.add j) = some v) (hp : p + ys.length ≤ N)
    (hK : ∀ w', w'.ownsRow 0 81 5 (.slice (some ⟨g, 0, none⟩) N cap) N (recCells (xs.take p ++ (ys ++ xs.drop (p + ys.length)))) → w.grownBy w' (some g) → wpList Try.prog ops Q rest (a.put o.dst (goInt ys.length)) w') : wpList Try.prog ops Q (o :: rest) a w := by
  obtain ⟨r1, r2, r3, r4⟩ := setR h hN p ys hp
  have hrun := run_copyR h hN p off dl dc sl sc ad ys o.type hoff hk hnews hp
  refine wpList_plain hgd fun K hK' => ?_
  unfold Oper.wp
  simp [execOp, ho, resolve, invoke, builtin, hd, hs, hrun, Result.andThen]
  exact hK' _ _ (hK _ r2 r3)

theorem step_copyR {w : World} {ops : Array Oper} {o : Oper} {a : Act} {K : Act → World → Prop} {Q : Exit → Act → World → Prop} {E : Prop} (hgd : o.guard = none) (d s : Operand)
    (ho : o.op = .call { callee := .builtin .copy, args := #[d, s], argTypes := #[63, 63] }) {g N cap : Nat} {xs : List Rec} (h : w.ownsRow 0 81 5 (.slice (some ⟨g, 0, none⟩) N cap) N (recCells xs)) (hN : xs.length = N)
    (p off dl dc sl sc : Nat) (ad : Addr) (ys : List Rec) (hd : a.eval d = .slice (some ⟨g, off, none⟩) dl dc) (hs : a.eval s = .slice (some ad) sl sc) (hoff : off = p * 5) (hk : ys.length = Nat.min sl dl)
    (hnews : ∀ j v, (recCells ys)[j]? = some v → w.cell? (ad.add j) = some v) (hp : p + ys.length ≤ N)
    (hK : ∀ w', w'.ownsRow 0 81 5 (.slice (some ⟨g, 0, none⟩) N cap) N (recCells (xs.take p ++ (ys ++ xs.drop (p + ys.length)))) → w.grownBy w' (some g) → K (a.put o.dst (goInt ys.length)) w') :
    if Region.wanted o (yielded ops a.tmps) = true then Oper.wp Try.prog o a w K Q else E := by
  obtain ⟨r1, r2, r3, r4⟩ := setR h hN p ys hp
  have hrun := run_copyR h hN p off dl dc sl sc ad ys o.type hoff hk hnews hp
  have hw : Region.wanted o (yielded ops a.tmps) = true := by simp [Region.wanted, hgd]
  rw [if_pos hw]
  unfold Oper.wp
  simp [execOp, ho, resolve, invoke, builtin, hd, hs, hrun, Result.andThen]
  exact hK _ r2 r3

theorem zero81 (w : World) : (zeroValue 81).run Try.prog w = .ok rec0.val w := by kernel_rfl

theorem run_clear0 (w : World) (ty : TypeId) (a : Option Addr) (c : Nat) : (Builtin.clear_ #[63] ty #[.slice a 0 c]).run Try.prog w = .ok (.tuple #[]) w := by
  cases a <;> simp [Builtin.clear_, run_underlying Try.underlying63]

theorem run_clear1 {w : World} {g N cap : Nat} {xs : List Rec} (h : w.ownsRow 0 81 5 (.slice (some ⟨g, 0, none⟩) N cap) N (recCells xs)) (hN : xs.length = N) (p off c n : Nat) (ty : TypeId) (hn : n = 1) (hoff : off = p * 5) (hp : p + 1 ≤ N) :
    ∃ w' : World, (Builtin.clear_ #[63] ty #[.slice (some ⟨g, off, none⟩) n c]).run Try.prog w = .ok (.tuple #[]) w' ∧ w'.ownsRow 0 81 5 (.slice (some ⟨g, 0, none⟩) N cap) N (recCells (xs.take p ++ ([rec0] ++ xs.drop (p + 1)))) ∧ w.grownBy w' (some g) := by
  obtain ⟨r1, r2, r3, r4⟩ := setR h hN p [rec0] (by simpa using hp)
  subst hoff
  subst hn
  have hz : (Builtin.zeroCells rec0.val.cells 1).toList = recCells [rec0] := by kernel_rfl
  have hrun : (Builtin.clear_ #[63] ty #[.slice (some ⟨g, p * 5, none⟩) 1 c]).run Try.prog w = .ok (.tuple #[]) (w.setCells g (p * 5) (recCells [rec0])) := by
    have hz' := hz
    simp only [Rec.val, rec0] at hz'
    simp only [rec0] at r1
    simp [Builtin.clear_, run_underlying Try.underlying63, zero81, Rec.val, rec0, hz', r1]
  exact ⟨_, hrun, r2, r3⟩

theorem own_prefix {w : World} {g N cap M : Nat} {xs : List Rec} (h : w.ownsRow 0 81 5 (.slice (some ⟨g, 0, none⟩) N cap) N (recCells xs)) (hN : xs.length = N) (hM : M ≤ N) : w.ownsRow 0 81 5 (.slice (some ⟨g, 0, none⟩) M cap) M (recCells (xs.take M)) := by
  obtain ⟨h1, h2, cur, hg, hs, ht⟩ := own_shape81 h
  refine ⟨by rw [recCells_length, List.length_take]; congr 1; omega, .inr ⟨g, cap, cur, rfl, Nat.zero_le _, hg, by omega, h2, hs, ?_⟩⟩
  rw [← recCells_take, ← ht, List.take_take, Nat.min_eq_left (by omega)]

theorem own_cells {w : World} {g N cap : Nat} {xs : List Rec} (h : w.ownsRow 0 81 5 (.slice (some ⟨g, 0, none⟩) N cap) N (recCells xs)) (hN : xs.length = N) (p m : Nat) (ys : List Rec) (hy : ys = (xs.drop p).take m) : ∀ j v, (recCells ys)[j]? = some v → w.cell? ((⟨g, p * 5, none⟩ : Addr).add j) = some v := by
  intro j v hv
  have e : (⟨g, p * 5, none⟩ : Addr).add j = ⟨g, p * 5 + j, none⟩ := by simp [Addr.add]
  have hj := (List.getElem?_eq_some_iff.1 hv).1
  rw [recCells_length, hy, List.length_take, List.length_drop] at hj
  rw [e, h.cellAt _ (by omega), ← hv, hy, ← recCells_take, ← recCells_drop, List.getElem?_take, if_pos (by omega), List.getElem?_drop]

theorem slice63_l (g off n cap lo : Nat) (h1 : lo ≤ n) (w : World) :
    (Instr.slice 63 (.slice (some ⟨g, off, none⟩) n cap) (some (.int .i64 (lo : Int))) none none).run Try.prog w = .ok (.slice (some ⟨g, if cap = lo then off else off + lo * 5, none⟩) (n - lo) (cap - lo)) w := by
  rw [run_slice_l w 63 (some ⟨g, off, none⟩) n cap und63 .i64 lo (by omega) (by omega), elem63, run_size81]
  by_cases h : cap = lo
  · simp [sliced, Result.andThen, h]
  · simp [sliced, Result.andThen, h, Addr.add]
theorem slice63_h (g off n cap hi : Nat) (h1 : hi ≤ cap) (w : World) :
    (Instr.slice 63 (.slice (some ⟨g, off, none⟩) n cap) none (some (.int .i64 (hi : Int))) none).run Try.prog w = .ok (.slice (some ⟨g, off, none⟩) hi cap) w := by
  rw [run_slice_h w 63 (some ⟨g, off, none⟩) n cap und63 .i64 hi (by omega) (by omega), elem63, run_size81]
  simp [sliced, Result.andThen, Addr.add]

end Go.Proofs.Qxb6613757a.T
