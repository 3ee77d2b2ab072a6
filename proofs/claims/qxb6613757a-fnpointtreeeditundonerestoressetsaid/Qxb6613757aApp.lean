import Derived.Test.Qxb6613757aU
import Derived.Deep.AppendLies
import Derived.Deep.AppendSrc
import Derived.Deep.Upon
import Derived.OwnWalkIn
/-
  append: ONE LAW FOR WHATEVER IS APPENDED (nil, empty or not), at a run, at a walk, at a step of a region that draws, inside a fence.
-/
namespace Go.Proofs.Qxb6613757a.T
open Go.RowKit
set_option linter.unusedVariables false
set_option linter.unusedSimpArgs false

theorem ownsRow_shape {w : World} {base : Nat} {e : TypeId} {size : Nat} {v : Value} {n : Nat} {xs : List Value} (h : w.ownsRow base e size v n xs) :
    ∃ a cap, v = .slice a n cap ∧ n ≤ cap := by
  rcases h.2 with ⟨rfl, rfl⟩ | ⟨g, cap, cur, rfl, _, _, hle, _⟩
  · exact ⟨none, 0, rfl, Nat.le_refl _⟩
  · exact ⟨_, cap, rfl, hle⟩

theorem run_app {P : Program} (w : World) (base : Nat) (t ty e : TypeId) (z : Value) (size bytes : Nat) (ht : P.underlying t = some (.slice e)) (hinfo : (P.info? e).map (fun i => (i.zero, i.size, i.bytes)) = some (some z, size, bytes))
    (hzs : z.cells.size = size) (hsz : 0 < size) (v : Value) (n : Nat) (xs : List Value) (hown : w.ownsRow base e size v n xs)
    (ao : Option Addr) (m c : Nat) (news : List Value) (hl : news.length = m * size) (hnone : ao = none → m = 0) (hnews : ∀ ad, ao = some ad → ∀ j u, news[j]? = some u → w.cell? (ad.add j) = some u) (h1 : ∀ u ∈ news, u.oneCell' = true)
    (h63 : n + m ≤ maxLen) (hbytes : (n + m) * bytes ≤ 140737488355328) (hbase : base ≤ w.heap.size) :
    ∃ a' cap' w', (Builtin.append_ #[t, t] ty #[v, .slice ao m c]).run P w = .ok (.slice a' (n + m) cap') w' ∧ w'.ownsRow base e size (.slice a' (n + m) cap') (n + m) (xs ++ news) ∧ w.grownBy w' v.ownBlock ∧
      ((Value.slice a' (n + m) cap').ownBlock = v.ownBlock ∨ (Value.slice a' (n + m) cap').ownBlock = some w.heap.size) := by
  obtain ⟨i, hi, hz, hsize, hby⟩ := info_parts hinfo
  cases ao with
  | some ad =>
    obtain ⟨v', w', hr, h2, h3, _, h5⟩ := run_append_own_at (P := P) w base t ty e i z size bytes ht hi hz hsize hby hzs hsz v n xs hown ad m c news hl (hnews ad rfl) h1 h63 hbytes hbase
    obtain ⟨a', cap', rfl, _⟩ := ownsRow_shape h2
    exact ⟨a', cap', w', hr, h2, h3, h5⟩
  | none =>
    obtain rfl := hnone rfl
    obtain rfl : news = [] := List.eq_nil_of_length_eq_zero (by simpa using hl)
    obtain ⟨a, cap, rfl, hle⟩ := ownsRow_shape hown
    refine ⟨a, cap, w, ?_, by simpa using hown, World.grownBy.refl _ _, .inl rfl⟩
    exact run_append_nothing w t t ty e i ht hi a n cap hle (.slice none 0 c) (by subst hsize; exact Src.ofNil w ht c)

theorem wp_app {P : Program} {w : World} {o : Oper} {a : Act} {K : Act → World → Prop} {Q : Exit → Act → World → Prop} (s x : Operand) (t : TypeId)
    (ho : o.op = .call { callee := .builtin .append, args := #[s, x], argTypes := #[t, t] })
    (base : Nat) (e : TypeId) (z : Value) (size bytes : Nat) (ht : P.underlying t = some (.slice e)) (hinfo : (P.info? e).map (fun i => (i.zero, i.size, i.bytes)) = some (some z, size, bytes))
    (hzs : z.cells.size = size) (hsz : 0 < size) (v : Value) (n : Nat) (xs : List Value) (hs : a.eval s = v) (hown : w.ownsRow base e size v n xs)
    (ao : Option Addr) (m c : Nat) (news : List Value) (hx : a.eval x = .slice ao m c) (hl : news.length = m * size) (hnone : ao = none → m = 0) (hnews : ∀ ad, ao = some ad → ∀ j u, news[j]? = some u → w.cell? (ad.add j) = some u) (h1 : ∀ u ∈ news, u.oneCell' = true)
    (h63 : n + m ≤ maxLen) (hbytes : (n + m) * bytes ≤ 140737488355328) (hbase : base ≤ w.heap.size)
    (h : ∀ a' cap' w', w'.ownsRow base e size (.slice a' (n + m) cap') (n + m) (xs ++ news) → w.grownBy w' v.ownBlock → ((Value.slice a' (n + m) cap').ownBlock = v.ownBlock ∨ (Value.slice a' (n + m) cap').ownBlock = some w.heap.size) → K (a.put o.dst (.slice a' (n + m) cap')) w') : o.wp P a w K Q := by
  obtain ⟨a', cap', w', hr, h2, h3, h4⟩ := run_app (P := P) w base t o.type e z size bytes ht hinfo hzs hsz v n xs hown ao m c news hl hnone hnews h1 h63 hbytes hbase
  unfold Oper.wp execOp
  simp only [ho, resolve, invoke, builtin, Sem.run_bind, Sem.run_pure, Result.andThen_ok, List.map_toArray, List.map_cons, List.map_nil, hs, hx, hr]
  exact h a' cap' w' h2 h3 h4

theorem wpList_app {P : Program} {w : World} {ops : Array Oper} {rest : List Oper} {o : Oper} {a : Act} {Q : Exit → Act → World → Prop} (hgd : o.guard = none) (s x : Operand) (t : TypeId)
    (ho : o.op = .call { callee := .builtin .append, args := #[s, x], argTypes := #[t, t] })
    (base : Nat) (e : TypeId) (z : Value) (size bytes : Nat) (ht : P.underlying t = some (.slice e)) (hinfo : (P.info? e).map (fun i => (i.zero, i.size, i.bytes)) = some (some z, size, bytes))
    (hzs : z.cells.size = size) (hsz : 0 < size) (v : Value) (n : Nat) (xs : List Value) (hs : a.eval s = v) (hown : w.ownsRow base e size v n xs)
    (ao : Option Addr) (m c : Nat) (news : List Value) (hx : a.eval x = .slice ao m c) (hl : news.length = m * size) (hnone : ao = none → m = 0) (hnews : ∀ ad, ao = some ad → ∀ j u, news[j]? = some u → w.cell? (ad.add j) = some u) (h1 : ∀ u ∈ news, u.oneCell' = true)
    (h63 : n + m ≤ maxLen) (hbytes : (n + m) * bytes ≤ 140737488355328) (hbase : base ≤ w.heap.size)
    (h : ∀ a' cap' w', w'.ownsRow base e size (.slice a' (n + m) cap') (n + m) (xs ++ news) → w.grownBy w' v.ownBlock → ((Value.slice a' (n + m) cap').ownBlock = v.ownBlock ∨ (Value.slice a' (n + m) cap').ownBlock = some w.heap.size) → wpList P ops Q rest (a.put o.dst (.slice a' (n + m) cap')) w') : wpList P ops Q (o :: rest) a w :=
  wpList_plain hgd fun _ hK => wp_app s x t ho base e z size bytes ht hinfo hzs hsz v n xs hs hown ao m c news hx hl hnone hnews h1 h63 hbytes hbase fun a' c' w' h2 h3 h4 => hK _ _ (h a' c' w' h2 h3 h4)

theorem step_app {P : Program} {w : World} {ops : Array Oper} {o : Oper} {a : Act} {K : Act → World → Prop} {Q : Exit → Act → World → Prop} {E : Prop} (hgd : o.guard = none) (s x : Operand) (t : TypeId)
    (ho : o.op = .call { callee := .builtin .append, args := #[s, x], argTypes := #[t, t] })
    (base : Nat) (e : TypeId) (z : Value) (size bytes : Nat) (ht : P.underlying t = some (.slice e)) (hinfo : (P.info? e).map (fun i => (i.zero, i.size, i.bytes)) = some (some z, size, bytes))
    (hzs : z.cells.size = size) (hsz : 0 < size) (v : Value) (n : Nat) (xs : List Value) (hs : a.eval s = v) (hown : w.ownsRow base e size v n xs)
    (ao : Option Addr) (m c : Nat) (news : List Value) (hx : a.eval x = .slice ao m c) (hl : news.length = m * size) (hnone : ao = none → m = 0) (hnews : ∀ ad, ao = some ad → ∀ j u, news[j]? = some u → w.cell? (ad.add j) = some u) (h1 : ∀ u ∈ news, u.oneCell' = true)
    (h63 : n + m ≤ maxLen) (hbytes : (n + m) * bytes ≤ 140737488355328) (hbase : base ≤ w.heap.size)
    (h : ∀ a' cap' w', w'.ownsRow base e size (.slice a' (n + m) cap') (n + m) (xs ++ news) → w.grownBy w' v.ownBlock → ((Value.slice a' (n + m) cap').ownBlock = v.ownBlock ∨ (Value.slice a' (n + m) cap').ownBlock = some w.heap.size) → K (a.put o.dst (.slice a' (n + m) cap')) w') :
    if Region.wanted o (yielded ops a.tmps) = true then Oper.wp P o a w K Q else E := by
  have hw : Region.wanted o (yielded ops a.tmps) = true := by simp [Region.wanted, hgd]
  rw [if_pos hw]
  exact wp_app s x t ho base e z size bytes ht hinfo hzs hsz v n xs hs hown ao m c news hx hl hnone hnews h1 h63 hbytes hbase h

/-! ### rows of uint64s of the call's own -/
def OwnU (w : World) (base : Nat) (v : Value) (zs : List Int) : Prop := w.ownsRow base 23 1 v zs.length (zs.map (Value.int .u64))

theorem OwnU.kept {w w' : World} {base : Nat} {v : Value} {zs : List Int} {row : Option Nat} (h : OwnU w base v zs) (hg : w.grownBy w' row) (hne : v.ownBlock = none ∨ v.ownBlock ≠ row) : OwnU w' base v zs :=
  World.ownsRow.kept h hg hne

theorem OwnU.row {w : World} {base : Nat} {a : Option Addr} {n cap : Nat} {zs : List Int} (h : OwnU w base (.slice a n cap) zs) : n = zs.length ∧ n ≤ cap ∧ Row w a zs := by
  rcases h.2 with ⟨e, h0⟩ | ⟨g, cap', cur, e, hb, hg, hle, _, hsz, htk⟩
  · cases e
    exact ⟨h0.symm, Nat.le_refl _, .inl (List.eq_nil_of_length_eq_zero h0)⟩
  · cases e
    refine ⟨rfl, hle, .inr ⟨g, 0, cur, (0, 0), rfl, hg, fun i hi => ?_⟩⟩
    have := congrArg (fun l : List Value => l[i]?) htk
    simp only [List.getElem?_take, Nat.mul_one, if_pos hi, List.getElem?_map] at this
    rw [Nat.zero_add, ← Array.getElem?_toList, this, el_eq zs i hi]
    simp [hi]

theorem u_cells {w : World} {a : Option Addr} {zs : List Int} (h : Row w a zs) : ∀ ad, a = some ad → ∀ j u, (zs.map (Value.int .u64))[j]? = some u → w.cell? (ad.add j) = some u := by
  intro ad had j u hu
  rcases h with rfl | ⟨b, o, cur, fr, rfl, hb, hc⟩
  · simp at hu
  · cases had
    have hj : j < zs.length := by have := (List.getElem?_eq_some_iff.1 hu).1; simpa using this
    rw [Addr.add_lit, cell_of hb (hc j hj)]
    rw [← hu, el_eq zs j hj]; simp [hj]
theorem u_none {w : World} {a : Option Addr} {zs : List Int} (h : Row w a zs) (he : a = none) : zs.length = 0 := by
  rcases h with rfl | ⟨b, o, cur, fr, rfl, hb, hc⟩
  · rfl
  · cases he

theorem Row.grown {w w' : World} {a : Option Addr} {zs : List Int} {row : Option Nat} (h : Row w a zs) (hg : w.grownBy w' row) (hne : ∀ b o, a = some ⟨b, o, none⟩ → zs ≠ [] → row ≠ some b) : Row w' a zs := by
  rcases h with rfl | ⟨b, o, cur, fr, rfl, hb, hc⟩
  · exact .inl rfl
  · by_cases e : zs = []
    · exact .inl e
    · refine .inr ⟨b, o, cur, fr, rfl, ?_, hc⟩
      rw [hg.block b (Array.getElem?_eq_some_iff.1 hb).1 (fun e' => hne b o rfl e e'.symm)]; exact hb

theorem OwnU.below {w0 w w' : World} {base : Nat} {v : Value} {zs : List Int} (h : OwnU w base v zs) (hb : Below base w0 w) (hbase : base ≤ w.heap.size) (hg : w.grownBy w' v.ownBlock) : Below base w0 w' :=
  hb.grown hg hbase (fun k e => (World.ownsRow.lt h k e).1)

/-- append of a slice that reads ys, at a walk -/
theorem wpList_appU {w : World} {ops : Array Oper} {rest : List Oper} {o : Oper} {a : Act} {Q : Exit → Act → World → Prop} (hgd : o.guard = none) (d : Tmp) (hdst : o.dst = some d) (s x : Operand)
    (ho : o.op = .call { callee := .builtin .append, args := #[s, x], argTypes := #[37, 37] })
    (base : Nat) (w0 : World) (hb : Below base w0 w) (hbase : base ≤ w.heap.size) (b7 : Option Addr) (m7 e7 : Nat) (M : List Int) (hs : a.eval s = .slice b7 m7 e7) (hown : OwnU w base (.slice b7 m7 e7) M)
    (ao : Option Addr) (m c : Nat) (ys : List Int) (hx : a.eval x = .slice ao m c) (hm : ys.length = m) (hr : Row w ao ys) (hlen : m7 + m ≤ 4194304)
    (h : ∀ a' cap' w', OwnU w' base (.slice a' (m7 + m) cap') (M ++ ys) → Below base w0 w' → wpList Try.prog ops Q rest (a.put (some d) (.slice a' (m7 + m) cap')) w') : wpList Try.prog ops Q (o :: rest) a w := by
  obtain ⟨e1, _, _⟩ := hown.row
  subst e1
  subst hm
  refine wpList_app hgd s x 37 ho base 23 (.int .u64 0) 1 8 Try.underlying37 size23 rfl (by decide) _ M.length (M.map (Value.int .u64)) hs hown ao ys.length c (ys.map (Value.int .u64)) hx (by simp) (fun e => u_none hr e) (u_cells hr) (ints_oneCell _ _) (by unfold maxLen; omega) (by omega) hbase ?_
  intro a' cap' w' h2 h3 h4
  rw [hdst]
  exact h a' cap' w' (by unfold OwnU; rw [List.length_append, List.map_append]; exact h2) (hown.below hb hbase h3)

/-- the same at a step of a region that draws -/
theorem step_appU {w : World} {ops : Array Oper} {o : Oper} {a : Act} {K : Act → World → Prop} {Q : Exit → Act → World → Prop} {E : Prop} (hgd : o.guard = none) (d : Tmp) (hdst : o.dst = some d) (s x : Operand)
    (ho : o.op = .call { callee := .builtin .append, args := #[s, x], argTypes := #[37, 37] })
    (base : Nat) (w0 : World) (hb : Below base w0 w) (hbase : base ≤ w.heap.size) (b7 : Option Addr) (m7 e7 : Nat) (M : List Int) (hs : a.eval s = .slice b7 m7 e7) (hown : OwnU w base (.slice b7 m7 e7) M)
    (ao : Option Addr) (m c : Nat) (ys : List Int) (hx : a.eval x = .slice ao m c) (hm : ys.length = m) (hr : Row w ao ys) (hlen : m7 + m ≤ 4194304)
    (h : ∀ a' cap' w', OwnU w' base (.slice a' (m7 + m) cap') (M ++ ys) → Below base w0 w' → w.grownBy w' (Value.slice b7 m7 e7).ownBlock → K (a.put (some d) (.slice a' (m7 + m) cap')) w') :
    if Region.wanted o (yielded ops a.tmps) = true then Oper.wp Try.prog o a w K Q else E := by
  obtain ⟨e1, _, _⟩ := hown.row
  subst e1
  subst hm
  refine step_app hgd s x 37 ho base 23 (.int .u64 0) 1 8 Try.underlying37 size23 rfl (by decide) _ M.length (M.map (Value.int .u64)) hs hown ao ys.length c (ys.map (Value.int .u64)) hx (by simp) (fun e => u_none hr e) (u_cells hr) (ints_oneCell _ _) (by unfold maxLen; omega) (by omega) hbase ?_
  intro a' cap' w' h2 h3 h4
  rw [hdst]
  exact h a' cap' w' (by unfold OwnU; rw [List.length_append, List.map_append]; exact h2) (hown.below hb hbase h3) h3

end Go.Proofs.Qxb6613757a.T
