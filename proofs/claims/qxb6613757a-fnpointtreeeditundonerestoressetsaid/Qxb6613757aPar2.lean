import Derived.Test.Qxb6613757aPar
/-
  appendParents: the plain laws and the invariant, in place.
-/
namespace Go.Proofs.Qxb6613757a.T
open Go.RowKit Go.Shelf
set_option linter.unusedVariables false
set_option linter.unusedSimpArgs false

theorem wpListIn_app_in {F : Fence} {n : Nat} {ops : Array Oper} {rest : List Oper} {o : Oper} {a : Act} {Q : Exit → Act → World → Prop} {w : World} (hgd : o.guard = none) (s x : Operand)
    (hop : o.op = Op.call { callee := Callee.builtin Builtin.append, args := #[s, x], argTypes := #[63, 63] })
    {g N cap : Nat} {rs : List Rec} (h : w.ownsRow 0 81 5 (.slice (some ⟨g, 0, none⟩) N cap) N (recCells rs)) (hN : rs.length = N) (i : Nat) (hi : i < N) (ad : Addr) (c : Nat) (r : Rec)
    (hs : a.eval s = .slice (some ⟨g, 0, none⟩) i cap) (hx : a.eval x = .slice (some ad) 1 c) (hnews : ∀ j u, r.cells[j]? = some u → w.cell? (ad.add j) = some u)
    (hK : ∀ w', w'.ownsRow 0 81 5 (.slice (some ⟨g, 0, none⟩) N cap) N (recCells (rs.set i r)) → w.grownBy w' (some g) → wpListIn F n Try.prog ops Q rest (a.put o.dst (.slice (some ⟨g, 0, none⟩) (i + 1) cap)) w') :
    wpListIn F n Try.prog ops Q (o :: rest) a w := by
  refine wpListIn_plain hgd fun K hK' => ?_
  obtain ⟨w', hrun, r1, r2⟩ := run_app_in h hN i hi o.type ad c r hnews
  unfold Oper.wpIn
  refine ⟨?_, ?_⟩
  · simp [Oper.about, hop, resolve, Target.leads, Sem.run_pure]
  · rw [Oper.semAt_plain F _ _ (by rw [hop]; intro c hc'; cases hc')]
    simp [execOp, hop, resolve, invoke, builtin, hs, hx, hrun, Result.andThen]
    exact hK' _ _ (hK w' r1 r2)

theorem wpListIn_app {F : Fence} {nn : Nat} {P : Program} {w : World} {ops : Array Oper} {rest : List Oper} {o : Oper} {a : Act} {Q : Exit → Act → World → Prop} (hgd : o.guard = none) (s x : Operand) (t : TypeId)
    (ho : o.op = .call { callee := .builtin .append, args := #[s, x], argTypes := #[t, t] })
    (base : Nat) (e : TypeId) (z : Value) (size bytes : Nat) (ht : P.underlying t = some (.slice e)) (hinfo : (P.info? e).map (fun i => (i.zero, i.size, i.bytes)) = some (some z, size, bytes))
    (hzs : z.cells.size = size) (hsz : 0 < size) (v : Value) (n : Nat) (xs : List Value) (hs : a.eval s = v) (hown : w.ownsRow base e size v n xs)
    (ao : Option Addr) (m c : Nat) (news : List Value) (hx : a.eval x = .slice ao m c) (hl : news.length = m * size) (hnone : ao = none → m = 0) (hnews : ∀ ad, ao = some ad → ∀ j u, news[j]? = some u → w.cell? (ad.add j) = some u) (h1 : ∀ u ∈ news, u.oneCell' = true)
    (h63 : n + m ≤ maxLen) (hbytes : (n + m) * bytes ≤ 140737488355328) (hbase : base ≤ w.heap.size)
    (h : ∀ a' cap' w', w'.ownsRow base e size (.slice a' (n + m) cap') (n + m) (xs ++ news) → w.grownBy w' v.ownBlock → ((Value.slice a' (n + m) cap').ownBlock = v.ownBlock ∨ (Value.slice a' (n + m) cap').ownBlock = some w.heap.size) → wpListIn F nn P ops Q rest (a.put o.dst (.slice a' (n + m) cap')) w') : wpListIn F nn P ops Q (o :: rest) a w := by
  refine wpListIn_plain hgd fun K hK' => ?_
  obtain ⟨a', cap', w', hr, h2, h3, h4⟩ := run_app (P := P) w base t o.type e z size bytes ht hinfo hzs hsz v n xs hown ao m c news hl hnone hnews h1 h63 hbytes hbase
  unfold Oper.wpIn
  refine ⟨?_, ?_⟩
  · simp [Oper.about, ho, resolve, Target.leads, Sem.run_pure]
  · rw [Oper.semAt_plain F _ _ (by rw [ho]; intro c hc'; cases hc')]
    simp [execOp, ho, resolve, invoke, builtin, hs, hx, hr, Result.andThen]
    exact hK' _ _ (h a' cap' w' h2 h3 h4)

theorem KidRec.leafy {w : World} : ∀ {h : Nat} {r : Rec} {L : List (List Int)}, KidRec w h r L → r.node.isNone = (h == 0)
  | 0, r, L, hk => by obtain ⟨zs, _, _, _, hn, _⟩ := hk; rw [hn]; rfl
  | h + 1, r, L, hk => by obtain ⟨nb, m, rs, Ls, e, _⟩ := hk; rw [e]; rfl

theorem kids_sum {w : World} {h : Nat} : ∀ {rs : List Rec} {Ls : List (List (List Int))}, Kids w h rs Ls → sumC rs = ((ents Ls).length : Int)
  | [], [], _ => rfl
  | [], L :: Ls, hk => by have := hk.1; simp at this
  | r :: rs, [], hk => by have := hk.1; simp at this
  | r :: rs, L :: Ls, hk => by
    have h1 := (hk.2 0 (by simp)).some_last.2.2.1
    have h2 := kids_sum (hk.drop 1)
    simp only [List.drop_succ_cons, List.drop_zero] at h2
    have e : sumC (r :: rs) = r.count + sumC rs := by simp [sumC]
    rw [e, h2, show r.count = _ from h1]
    show ((L.flatten.length : Int)) + _ = _
    unfold ents
    rw [List.flatten_cons, List.flatten_append, List.length_append]
    push_cast
    rfl

theorem ents_part {Ls : List (List (List Int))} {i : Nat} (h : i < Ls.length) : (lv Ls i).flatten.length ≤ (ents Ls).length := by
  have e : Ls = Ls.take i ++ Ls[i] :: Ls.drop (i + 1) := by simp
  have : lv Ls i = Ls[i] := by simp [lv, h]
  rw [this]
  unfold ents
  conv => rhs; rw [e]
  rw [List.flatten_append, List.flatten_append, List.flatten_cons, List.flatten_append]
  simp only [List.length_append]
  omega

theorem kids_modest {w : World} {h : Nat} {rs : List Rec} {Ls : List (List (List Int))} (hk : Kids w h rs Ls) (hM : (ents Ls).length ≤ 1048576) : Modest rs := fun i hi => by
  have h1 := (hk.2 i hi).some_last.2.2.1
  have h2 := ents_part (Ls := Ls) (i := i) (by rw [← hk.1]; exact hi)
  rw [h1]; omega

/-- the node over a list of children is a child one level up -/
theorem parent_kid {w : World} {h m nb : Nat} {q : Int} {rs : List Rec} {Ls : List (List (List Int))} (hk : Kids w h rs Ls) (hm : rs.length = m) (h1 : 1 ≤ m) (h16 : m ≤ 16) (hr : w.rowIs nb 73 66 (nodeCell m (rc rs 0).node.isNone rs m)) (hq : q = sumC rs) :
    KidRec w (h + 1) ⟨(rc rs (m - 1)).last, q, none, 0, 0, some ⟨nb, 0, none⟩, true⟩ Ls.flatten := by
  refine ⟨nb, m, rs, Ls, rfl, ?_, hm, by rw [← hk.1, hm], h1, h16, rfl, fun i hi => hk.2 i (by omega), rfl, ?_⟩
  · rw [← (hk.2 0 (by omega)).leafy]; exact hr
  · rw [hq]; exact kids_sum hk

/-- how many children node r has -/
def SizeIs (w : World) (r : Rec) (s : Nat) : Prop := ∃ (nb : Nat) (f : Nat → Value), r.node = some ⟨nb, 0, none⟩ ∧ w.rowIs nb 73 66 f ∧ f 0 = .int .i64 s
theorem SizeIs.k2 {w w' : World} {r : Rec} {s : Nat} (h : SizeIs w r s) (k : K2 w w') : SizeIs w' r s := by
  obtain ⟨nb, f, e, hr, h0⟩ := h
  exact ⟨nb, f, e, rowIs_k2 hr k, h0⟩

/-- appendParents in place, between two rounds -/
def PI (w : World) (g u c cap lcap : Nat) (la : Option Addr) (rs0 kids : List Rec) (Ls : List (List (List Int))) (h k : Nat) (pre : List (Ix k)) (W : World) : Prop :=
  w.grownBy W (some g) ∧ Boxed W (w.heap.size + 1) 63 (.slice la c lcap) ∧ Boxed W (w.heap.size + 2) 3 (.int .i64 c) ∧ Boxed W (w.heap.size + 3) 3 (.int .i64 16) ∧ Boxed W w.heap.size 63 (.slice (some ⟨g, 0, none⟩) (u + pre.length) cap) ∧
  ∃ lev : List Rec, lev.length = c ∧ W.ownsRow 0 81 5 (.slice (some ⟨g, 0, none⟩) (u + c) cap) (u + c) (recCells (rs0 ++ lev)) ∧
    ∀ hp : pre.length ≤ k, pre = firsts k pre.length hp → (∀ j, cutAt c k pre.length ≤ j → j < c → rc lev j = rc kids j) ∧
      ∀ i, i < pre.length → KidRec W (h + 1) (rc lev i) (piece Ls k i).flatten ∧ (rc lev i).fresh = true ∧ SizeIs W (rc lev i) (cutAt c k (i + 1) - cutAt c k i)

theorem PI.own {w : World} {g u c cap lcap : Nat} {la : Option Addr} {rs0 kids : List Rec} {Ls : List (List (List Int))} {h k B : Nat} (hB : w.heap.size ≤ B) : OwnFrom B (fun (pre : List (Ix k)) W => PI w g u c cap lcap la rs0 kids Ls h k pre W) := by
  rintro pre W W' row ⟨hg, b1, b2, b3, b0, lev, hlev, hrow, hst⟩ hgr hr
  have hr' : ∀ r, row = some r → ∃ o : Obj, W.heap[r]? = some o ∧ o.isCells = false := fun r e => (hr r e).2
  have hne : ∀ {B' : Nat} {t : TypeId} {u : Value}, Boxed W B' t u → some B' ≠ row := fun {B' t u} hb e => by
    obtain ⟨o, ho, hc⟩ := hr' _ e.symm
    rw [show W.heap[B']? = _ from hb] at ho; cases ho; simp [Obj.isCells] at hc
  have k2 := k2_other hgr hr'
  refine ⟨?_, b1.kept hgr (hne b1), b2.kept hgr (hne b2), b3.kept hgr (hne b3), b0.kept hgr (hne b0), lev, hlev, hrow.kept hgr ?_, fun hp he => ?_⟩
  · refine ⟨hgr.os.trans hg.os, hgr.tape.trans hg.tape, hgr.output.trans hg.output, Nat.le_trans hg.size hgr.size, fun j hj hjr => ?_⟩
    rw [hgr.block j (Nat.lt_of_lt_of_le hj hg.size) (fun e => by have := (hr j e.symm).1; omega)]
    exact hg.block j hj hjr
  · refine .inr fun e => ?_
    obtain ⟨cur, hc⟩ := own_type hrow g rfl
    obtain ⟨o, ho, hcc⟩ := hr' g e.symm
    rw [hc] at ho; cases ho; simp [Obj.isCells] at hcc
  · obtain ⟨h1, h2⟩ := hst hp he
    exact ⟨h1, fun i hi => ⟨(h2 i hi).1.k2 k2, (h2 i hi).2.1, (h2 i hi).2.2.k2 k2⟩⟩

end Go.Proofs.Qxb6613757a.T
