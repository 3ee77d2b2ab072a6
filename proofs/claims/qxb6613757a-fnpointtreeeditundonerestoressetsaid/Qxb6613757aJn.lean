import Derived.Test.Qxb6613757aRep3
import Derived.Test.Qxb6613757aEdL
/-
  joinSmall and joined: what they promise, and the plain step.
-/
namespace Go.Proofs.Qxb6613757a.T
open Go.RowKit Go.Shelf
set_option linter.unusedVariables false
set_option linter.unusedSimpArgs false

/-- is child r small -/
def SmallIs (w : World) (r : Rec) (b : Bool) : Prop := (r.node = none ∧ b = (r.fresh && decide (r.count < 16))) ∨ ∃ s, SizeIs w r s ∧ b = (r.fresh && decide (s < 4))
theorem SmallIs.k2 {w w' : World} {r : Rec} {b : Bool} (h : SmallIs w r b) (k : K2 w w') : SmallIs w' r b := by
  rcases h with h | ⟨s, h1, h2⟩
  · exact .inl h
  · exact .inr ⟨s, h1.k2 k, h2⟩
theorem KidRec.small {w : World} : ∀ {h : Nat} {r : Rec} {L : List (List Int)}, KidRec w h r L → ∃ b, SmallIs w r b
  | 0, r, L, hk => by
    obtain ⟨zs, _, _, _, hn, _⟩ := hk
    exact ⟨_, .inl ⟨hn, rfl⟩⟩
  | h + 1, r, L, hk => by
    obtain ⟨nb, m, rs, Ls, e, hr, _⟩ := hk
    exact ⟨_, .inr ⟨m, ⟨nb, _, e, hr, rfl⟩, rfl⟩⟩

theorem small53 (r : Rec) (b : Bool) (w : World) (h : SmallIs w r b) : Calls Try.prog 53 #[r.val] w fun e w' => Below w.heap.size w w' ∧ e = .returned (.bool b) := by
  rcases h with ⟨h1, rfl⟩ | ⟨s, ⟨nb, f, e, hr, h0⟩, rfl⟩
  · exact small53_leaf r w h1
  · refine small53_node r nb s w e ?_
    rw [hr.cell (i := 0) (by omega), h0]

theorem kids_len {w : World} {h : Nat} : ∀ {rs : List Rec} {Ls : List (List (List Int))}, Kids w h rs Ls → rs.length ≤ (ents Ls).length
  | [], _, _ => Nat.zero_le _
  | r :: rs, [], hk => by have := hk.1; simp at this
  | r :: rs, L :: Ls, hk => by
    have h1 := (hk.2 0 (by simp)).some_last.1
    have h2 := kids_len (hk.drop 1)
    simp only [List.drop_succ_cons, List.drop_zero] at h2
    have e : ents (L :: Ls) = L.flatten ++ ents Ls := by unfold ents; rw [List.flatten_cons, List.flatten_append]
    rw [e, List.length_append, List.length_cons]
    have : 1 ≤ L.flatten.length := h1
    omega

/-- what joined hands back -/
def Joined (w : World) (h : Nat) (La Lb : List (List Int)) (e : Ending) (w' : World) : Prop :=
  Below w.heap.size w w' ∧ ∃ (v : Value) (ps : List Rec) (Ps : List (List (List Int))), e = .returned v ∧ w'.ownsRow w.heap.size 81 5 v ps.length (recCells ps) ∧ 1 ≤ ps.length ∧ ps.length ≤ 2 ∧ Kids w' h ps Ps ∧ ents Ps = La.flatten ++ Lb.flatten ∧
    (ps.length = 2 → ∀ i, i < 2 → SmallIs w' (rc ps i) false)
def JoinC (h : Nat) : Prop := ∀ (a b : Rec) (La Lb : List (List Int)) (w : World), KidRec w h a La → KidRec w h b Lb → La.flatten.length + Lb.flatten.length ≤ 1048576 → Calls Try.prog 55 #[a.val, b.val] w fun e w' => Joined w h La Lb e w'

/-- what joinSmall hands back, in place -/
def JoinS (w : World) (h g u n cap lcap : Nat) (rs0 : List Rec) (E : List Int) (e : Ending) (w' : World) : Prop :=
  w.grownBy w' (some g) ∧ ∃ (n' : Nat) (rs' : List Rec) (Ls' : List (List (List Int))), e = .returned (.slice (some ⟨g, u * 5, none⟩) n' lcap) ∧ rs'.length = n' ∧ 1 ≤ n' ∧ n' ≤ n ∧
    w'.ownsRow 0 81 5 (.slice (some ⟨g, 0, none⟩) (u + n') cap) (u + n') (recCells (rs0 ++ rs')) ∧ Kids w' h rs' Ls' ∧ ents Ls' = E

def cntT (bs : List Bool) : Nat := bs.count true
/-- joinSmall between two rounds -/
def JR (w : World) (h g u cap lcap C : Nat) (rs0 : List Rec) (E : List Int) (gk : Nat) (s0 s3 : Value) (wr : World) : Prop :=
  ∃ (n i : Nat) (rs : List Rec) (Ls : List (List (List Int))) (bs : List Bool), s0 = .slice (some ⟨g, u * 5, none⟩) n lcap ∧ s3 = .int .i64 (i : Nat) ∧ rs.length = n ∧ 1 ≤ n ∧ n ≤ C ∧ i ≤ n ∧
    wr.ownsRow 0 81 5 (.slice (some ⟨g, 0, none⟩) (u + n) cap) (u + n) (recCells (rs0 ++ rs)) ∧ Kids wr h rs Ls ∧ ents Ls = E ∧ bs.length = n ∧ (∀ k, k < n → SmallIs wr (rc rs k) (bs.getD k false)) ∧ w.grownBy wr (some g) ∧
    (n + cntT bs) * (C + 2) + (n - i) ≤ gk

theorem kids_smalls {w : World} {h : Nat} : ∀ {rs : List Rec} {Ls : List (List (List Int))}, Kids w h rs Ls → ∃ bs : List Bool, bs.length = rs.length ∧ ∀ k, k < rs.length → SmallIs w (rc rs k) (bs.getD k false)
  | [], _, _ => ⟨[], rfl, fun k hk => by simp at hk⟩
  | r :: rs, [], hk => by have := hk.1; simp at this
  | r :: rs, L :: Ls, hk => by
    obtain ⟨b, hb⟩ := (hk.2 0 (by simp)).small
    have h2 := hk.drop 1
    simp only [List.drop_succ_cons, List.drop_zero] at h2
    obtain ⟨bs, h3, h4⟩ := kids_smalls h2
    refine ⟨b :: bs, by simp [h3], fun k hk => ?_⟩
    cases k with
    | zero => exact hb
    | succ k => exact h4 k (by simpa using hk)

theorem cntT_append (xs ys : List Bool) : cntT (xs ++ ys) = cntT xs + cntT ys := by unfold cntT; exact List.count_append
theorem cntT_le (xs : List Bool) : cntT xs ≤ xs.length := List.count_le_length

/-- two neighbours at a, the rest -/
theorem split2 {α : Type} (d : α) (xs : List α) (a : Nat) (h : a + 2 ≤ xs.length) : xs = xs.take a ++ ([xs.getD a d, xs.getD (a + 1) d] ++ xs.drop (a + 2)) := by
  conv => lhs; rw [← List.take_append_drop a xs]
  congr 1
  rw [List.drop_eq_getElem_cons (by omega), List.drop_eq_getElem_cons (by omega)]
  simp [show a < xs.length by omega, show a + 1 < xs.length by omega]

theorem small_kids_append {w : World} {rs ss : List Rec} {bs cs : List Bool} (h1 : bs.length = rs.length) (h2 : cs.length = ss.length) (k1 : ∀ k, k < rs.length → SmallIs w (rc rs k) (bs.getD k false)) (k2 : ∀ k, k < ss.length → SmallIs w (rc ss k) (cs.getD k false)) :
    ∀ k, k < (rs ++ ss).length → SmallIs w (rc (rs ++ ss) k) ((bs ++ cs).getD k false) := by
  intro k hk
  by_cases hl : k < rs.length
  · have := k1 k hl
    rw [rc_app_left hl]
    rw [List.getD_eq_getElem?_getD, List.getElem?_append_left (by omega), ← List.getD_eq_getElem?_getD]
    exact this
  · have := k2 (k - rs.length) (by simp at hk; omega)
    rw [rc_app_right (by omega)]
    rw [List.getD_eq_getElem?_getD, List.getElem?_append_right (by omega), h1, ← List.getD_eq_getElem?_getD]
    exact this
theorem getD_take {bs : List Bool} {a k : Nat} (h : k < a) : (bs.take a).getD k false = bs.getD k false := by simp [List.getD_eq_getElem?_getD, List.getElem?_take, h]
theorem getD_drop {bs : List Bool} {a k : Nat} : (bs.drop a).getD k false = bs.getD (a + k) false := by simp [List.getD_eq_getElem?_getD, List.getElem?_drop]

/-- a joining: two neighbours, one of them small, give way to one, or to two that are not small -/
theorem JR.join {w wr w1 w2 : World} {h g u n e cap lcap C a i : Nat} {rs0 rs ps : List Rec} {Ls Ps : List (List (List Int))} {bs : List Bool} {E : List Int}
    (hu : rs0.length = u) (hn : rs.length = n) (hnC : n ≤ C) (hi : i < n) (ha : a + 2 ≤ n) (hai : i = a ∨ i = a + 1) (hown : wr.ownsRow 0 81 5 (.slice (some ⟨g, 0, none⟩) (u + n) cap) (u + n) (recCells (rs0 ++ rs))) (hk : Kids wr h rs Ls) (hE : ents Ls = E)
    (hbl : bs.length = n) (hbs : ∀ k, k < n → SmallIs wr (rc rs k) (bs.getD k false)) (hg : w.grownBy wr (some g)) (hsm : bs.getD i false = true)
    (hB : Below wr.heap.size wr w1) (h1 : 1 ≤ ps.length) (h2 : ps.length ≤ 2) (hp : Kids w1 h ps Ps) (hpe : ents Ps = (lv Ls a).flatten ++ (lv Ls (a + 1)).flatten) (hps : ps.length = 2 → ∀ i, i < 2 → SmallIs w1 (rc ps i) false)
    (hg2 : w1.grownBy w2 (some g)) (he : e + 2 = n + ps.length) (hown2 : w2.ownsRow 0 81 5 (.slice (some ⟨g, 0, none⟩) (u + e) cap) (u + e) (recCells (rs0 ++ (rs.take a ++ (ps ++ rs.drop (a + 2)))))) :
    JR w h g u cap lcap C rs0 E ((n + cntT bs) * (C + 2) - 2) (.slice (some ⟨g, u * 5, none⟩) e lcap) (.int .i64 (a : Nat)) w2 := by
  have hgl : g < wr.heap.size := by
    obtain ⟨cur, hcu⟩ := own_type hown g rfl
    exact (Array.getElem?_eq_some_iff.1 hcu).1
  have own1 : w1.ownsRow 0 81 5 (.slice (some ⟨g, 0, none⟩) (u + n) cap) (u + n) (recCells (rs0 ++ rs)) := hown.kept (grown_of_below hB none) (.inr (by simp [Value.ownBlock]))
  have kA : K2 wr w1 := K2.below hB
  have kB : K2 w1 w2 := own_k2 own1 hg2
  have kAB := kA.trans kB
  have hLl : Ls.length = n := by rw [← hk.1, hn]
  obtain ⟨cs, hcl, hcs, hcc⟩ : ∃ cs : List Bool, cs.length = ps.length ∧ (∀ k, k < ps.length → SmallIs w1 (rc ps k) (cs.getD k false)) ∧ ps.length + cntT cs ≤ 2 := by
    by_cases hp2 : ps.length = 2
    · refine ⟨[false, false], by simp [hp2], fun k hk => ?_, by rw [hp2]; decide⟩
      have := hps hp2 k (by omega)
      match k, (show k < 2 by omega) with
      | 0, _ => exact this
      | 1, _ => exact this
    · obtain ⟨cs, h3, h4⟩ := kids_smalls hp
      exact ⟨cs, h3, h4, by have := cntT_le cs; omega⟩
  have hb2 := split2 false bs a (by omega)
  have hcnt : cntT bs = cntT (bs.take a) + (cntT [bs.getD a false, bs.getD (a + 1) false] + cntT (bs.drop (a + 2))) := by
    conv => lhs; rw [hb2]
    rw [cntT_append, cntT_append]
  have hone : 1 ≤ cntT [bs.getD a false, bs.getD (a + 1) false] := by
    rcases hai with rfl | rfl
    · rw [hsm]; unfold cntT; simp
    · rw [hsm]; unfold cntT; simp [List.count_cons]
  have hent : ents (Ls.take a ++ (Ps ++ Ls.drop (a + 2))) = E := by
    rw [← hE]
    have e1 := ents_split (Ls := Ls) (c := a) (by omega)
    have e2 := ents_drop (Ls := Ls) (k := a + 1) (by omega)
    have app : ∀ X Y : List (List (List Int)), ents (X ++ Y) = ents X ++ ents Y := fun X Y => by unfold ents; rw [List.flatten_append, List.flatten_append]
    rw [e1, e2, app, app, hpe]
    simp only [List.append_assoc]
  refine ⟨e, a, rs.take a ++ (ps ++ rs.drop (a + 2)), Ls.take a ++ (Ps ++ Ls.drop (a + 2)), bs.take a ++ (cs ++ bs.drop (a + 2)), rfl, rfl, ?_, by omega, by omega, by omega, hown2, ?_, hent, ?_, ?_, ?_, ?_⟩
  · simp only [List.length_append, List.length_take, List.length_drop]; omega
  · exact ((hk.take a).k2 kAB).append ((hp.k2 kB).append ((hk.drop (a + 2)).k2 kAB))
  · simp only [List.length_append, List.length_take, List.length_drop]; omega
  · have hlen : (rs.take a ++ (ps ++ rs.drop (a + 2))).length = e := by simp only [List.length_append, List.length_take, List.length_drop]; omega
    rw [← hlen]
    refine small_kids_append (by simp only [List.length_take]; omega) (by simp only [List.length_append, List.length_drop]; omega) (fun k hk' => ?_) (small_kids_append hcl (by simp only [List.length_drop]; omega) (fun k hk' => (hcs k hk').k2 kB) (fun k hk' => ?_))
    · have hka : k < a := by simp at hk'; omega
      rw [rc_take hka, getD_take hka]
      exact (hbs k (by omega)).k2 kAB
    · rw [rc_drop, getD_drop]
      exact (hbs _ (by simp at hk'; omega)).k2 kAB
  · have g1 : wr.grownBy w1 (some g) := grown_of_below hB _
    exact World.grownBy.trans (World.grownBy.trans hg g1) hg2
  · have hle : e + cntT (bs.take a ++ (cs ++ bs.drop (a + 2))) + 1 ≤ n + cntT bs := by
      rw [cntT_append, cntT_append, hcnt]
      omega
    have hmul := Nat.mul_le_mul_right (C + 2) hle
    rw [Nat.add_mul, Nat.one_mul] at hmul
    have : e - a ≤ C := by omega
    omega

/-- no joining: on to the next -/
theorem JR.next {w wr w1 : World} {h g u n cap lcap C i : Nat} {rs0 rs : List Rec} {Ls : List (List (List Int))} {bs : List Bool} {E : List Int}
    (hn : rs.length = n) (h1 : 1 ≤ n) (hnC : n ≤ C) (hi : i < n) (hown : wr.ownsRow 0 81 5 (.slice (some ⟨g, 0, none⟩) (u + n) cap) (u + n) (recCells (rs0 ++ rs))) (hk : Kids wr h rs Ls) (hE : ents Ls = E)
    (hbl : bs.length = n) (hbs : ∀ k, k < n → SmallIs wr (rc rs k) (bs.getD k false)) (hg : w.grownBy wr (some g)) (hB : Below wr.heap.size wr w1) :
    JR w h g u cap lcap C rs0 E ((n + cntT bs) * (C + 2) + (n - (i + 1))) (.slice (some ⟨g, u * 5, none⟩) n lcap) (.int .i64 ((i + 1 : Nat) : Int)) w1 := by
  have kA : K2 wr w1 := K2.below hB
  refine ⟨n, i + 1, rs, Ls, bs, rfl, rfl, hn, h1, hnC, by omega, hown.kept (grown_of_below hB none) (.inr (by simp [Value.ownBlock])), hk.k2 kA, hE, hbl, fun k hk' => (hbs k hk').k2 kA, World.grownBy.trans hg (grown_of_below hB _), Nat.le_refl _⟩

end Go.Proofs.Qxb6613757a.T
