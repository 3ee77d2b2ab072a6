import Derived.Test.Qxb6613757aSet
import Derived.Test.Qxb6613757aMrg
/-
  THE PLAIN LAW OF 'mrg': it is the edit.
-/
namespace Go.Proofs.Qxb6613757a.T
set_option linter.unusedVariables false
set_option linter.unusedSimpArgs false

theorem el_cons_zero (z : Int) (zs : List Int) : el (z :: zs) 0 = z := rfl
theorem el_cons_succ (z : Int) (zs : List Int) (j : Nat) : el (z :: zs) (j + 1) = el zs j := rfl

theorem cut_lb_of_asc (x : Int) : ∀ {zs : List Int}, Asc zs → Cut zs x (lb zs x)
  | [], _ => ⟨Nat.le_refl _, fun j h => by simp [lb] at h, fun j _ h => by simp at h⟩
  | z :: zs, h => by
    obtain ⟨h1, h2⟩ := asc_cons h
    obtain ⟨c0, c1, c2⟩ := cut_lb_of_asc x h1
    by_cases hz : z < x
    · have e : lb (z :: zs) x = lb zs x + 1 := by simp [lb, hz]
      rw [e]
      refine ⟨by simpa using c0, fun j hj => ?_, fun j hj hl => ?_⟩
      · cases j with
        | zero => exact hz
        | succ j => rw [el_cons_succ]; exact c1 j (by omega)
      · cases j with
        | zero => omega
        | succ j => rw [el_cons_succ]; exact c2 j (by omega) (by simpa using hl)
    · have hall : ∀ j, j < (z :: zs).length → x ≤ el (z :: zs) j := fun j hj => by
        have := h.le (Nat.zero_le j) hj
        rw [el_cons_zero] at this; omega
      have hc : Cut (z :: zs) x 0 := ⟨Nat.zero_le _, fun j h => by omega, fun j _ hl => hall j hl⟩
      rw [cut_lb hc]; exact hc

theorem cut_mem {zs : List Int} {x : Int} {i : Nat} (h : Cut zs x i) : (∀ y, y ∈ zs.take i → y < x) ∧ (∀ y, y ∈ zs.drop i → x ≤ y) := by
  refine ⟨fun y hy => ?_, fun y hy => ?_⟩
  · obtain ⟨j, h1, h2, rfl⟩ := mem_take_el.1 hy
    exact h.2.1 j h1
  · obtain ⟨j, hj, rfl⟩ := mem_iff.1 hy
    rw [List.length_drop] at hj
    rw [el_drop]
    exact h.2.2 (i + j) (by omega) (by omega)

theorem mem_split (zs : List Int) (i : Nat) (x : Int) : x ∈ zs ↔ x ∈ zs.take i ∨ x ∈ zs.drop i := by
  rw [← List.mem_append, List.take_append_drop]

theorem head_split {xs : List Int} (h : xs ≠ []) : xs = el xs 0 :: xs.drop 1 := by
  cases xs with
  | nil => exact absurd rfl h
  | cons x xs => rfl

theorem mrg_ed : ∀ (f : Nat) (zs ds xs : List Int), ds.length + xs.length ≤ f → Asc zs → Asc ds → Asc xs → Sub ds zs → Dis xs zs → Ed zs ds xs (mrg f zs ds xs)
  | 0, zs, ds, xs, hf, hz, hd, hx, hs, hdis => by
    obtain rfl : ds = [] := List.eq_nil_of_length_eq_zero (by omega)
    obtain rfl : xs = [] := List.eq_nil_of_length_eq_zero (by omega)
    exact ⟨hz, fun x => by simp [mrg]⟩
  | f + 1, zs, ds, xs, hf, hz, hd, hx, hs, hdis => by
    by_cases hnil : ds = [] ∧ xs = []
    · obtain ⟨rfl, rfl⟩ := hnil
      rw [mrg_nil]; exact ⟨hz, fun x => by simp⟩
    · by_cases hdel : ds ≠ [] ∧ (xs = [] ∨ el ds 0 < el xs 0)
      · obtain ⟨hdn, hdx⟩ := hdel
        rw [mrg_del f zs ds xs hdn hdx]
        have hds := head_split hdn
        generalize hdv : el ds 0 = d at *
        generalize hdt : ds.drop 1 = dt at *
        rw [hds] at hs hd hf
        obtain ⟨hd1, hd2⟩ := asc_cons hd
        have hc := cut_lb_of_asc d hz
        obtain ⟨m1, m2⟩ := cut_mem hc
        generalize hi : lb zs d = i at *
        have hdz : d ∈ zs := hs d (by simp)
        have hin : i < zs.length ∧ el zs i = d := (search_out hz d i hc.2.1 (fun h => by have := hc.2.2 i (Nat.le_refl _) h.1; omega)).1 hdz
        have hfnd : fnd zs d = 1 := by unfold fnd; rw [hi, if_pos hin]
        rw [hfnd]
        have hdrop : zs.drop i = d :: zs.drop (i + 1) := by
          rw [← hin.2, el_eq zs i hin.1]; exact List.drop_eq_getElem_cons hin.1
        have hgt : ∀ y, y ∈ zs.drop (i + 1) → d < y := by
          have := hz.drop i
          rw [hdrop] at this
          exact (asc_cons this).2
        have hxgt : ∀ y, y ∈ xs → d < y := fun y hy => by
          rcases hdx with e | e
          · rw [e] at hy; simp at hy
          · obtain ⟨j, hj, rfl⟩ := mem_iff.1 hy
            exact Int.lt_of_lt_of_le e (hx.le (Nat.zero_le j) hj)
        have ih := mrg_ed f (zs.drop (i + 1)) dt xs (by simp at hf; omega) (hz.drop _) hd1 hx
          (fun y hy => by
            have h1 := hd2 y hy
            have h2 := hs y (by simp [hy])
            rw [mem_split zs i, hdrop, List.mem_cons] at h2
            rcases h2 with h2 | h2 | h2
            · have := m1 y h2; omega
            · omega
            · exact h2)
          (fun y hy h => hdis y hy (by rw [mem_split zs (i + 1)]; exact .inr h))
        refine ⟨asc_append (hz.take i) ih.1 fun x hxm y hy => ?_, fun x => ?_⟩
        · have h1 := m1 x hxm
          rcases (ih.2 y).1 hy with h2 | h2
          · have := hgt y h2.1; omega
          · have := hxgt y h2; omega
        · rw [List.mem_append, ih.2 x, hds, List.mem_cons, mem_split zs i x, hdrop, List.mem_cons]
          constructor
          · rintro (a | ⟨a, b⟩ | a)
            · refine .inl ⟨.inl a, fun h => ?_⟩
              have := m1 x a
              rcases h with h | h
              · omega
              · have := hd2 x h; omega
            · refine .inl ⟨.inr (.inr a), fun h => ?_⟩
              have := hgt x a
              rcases h with h | h
              · omega
              · exact b h
            · exact .inr a
          · rintro (⟨a | a | a, b⟩ | a)
            · exact .inl a
            · exact absurd (.inl a) b
            · exact .inr (.inl ⟨a, fun h => b (.inr h)⟩)
            · exact .inr (.inr a)
      · have hxn : xs ≠ [] := fun e => by
          by_cases h : ds = []
          · exact hnil ⟨h, e⟩
          · exact hdel ⟨h, .inl e⟩
        have hdx : ds = [] ∨ ¬ el ds 0 < el xs 0 := by
          by_cases h : ds = []
          · exact .inl h
          · exact .inr fun h2 => hdel ⟨h, .inr h2⟩
        rw [mrg_add f zs ds xs hxn hdx]
        have hxs := head_split hxn
        generalize hxv : el xs 0 = v at *
        generalize hxt : xs.drop 1 = xt at *
        rw [hxs] at hdis hx hf
        obtain ⟨hx1, hx2⟩ := asc_cons hx
        have hc := cut_lb_of_asc v hz
        obtain ⟨m1, m2⟩ := cut_mem hc
        generalize hi : lb zs v = i at *
        have hvz : v ∉ zs := hdis v (by simp)
        have hgt : ∀ y, y ∈ zs.drop i → v < y := fun y hy => by
          have h1 := m2 y hy
          have h2 : y ≠ v := fun e => hvz (by rw [← e, mem_split zs i]; exact .inr hy)
          omega
        have hdgt : ∀ y, y ∈ ds → v < y := fun y hy => by
          rcases hdx with e | e
          · rw [e] at hy; simp at hy
          · obtain ⟨j, hj, rfl⟩ := mem_iff.1 hy
            have h1 := hd.le (Nat.zero_le j) hj
            have h2 : el ds 0 ≠ v := fun e2 => hvz (by rw [← e2]; exact hs _ (mem_iff.2 ⟨0, by omega, rfl⟩))
            omega
        have ih := mrg_ed f (zs.drop i) ds xt (by simp at hf; omega) (hz.drop _) hd hx1
          (fun y hy => by
            have h1 := hdgt y hy
            have h2 := hs y hy
            rw [mem_split zs i] at h2
            rcases h2 with h2 | h2
            · have := m1 y h2; omega
            · exact h2)
          (fun y hy h => hdis y (by simp [hy]) (by rw [mem_split zs i]; exact .inr h))
        have hR : ∀ y, y ∈ mrg f (zs.drop i) ds xt → v < y := fun y hy => by
          rcases (ih.2 y).1 hy with h2 | h2
          · exact hgt y h2.1
          · exact hx2 y h2
        refine ⟨asc_append (hz.take i) (asc_append (asc_single v) ih.1 fun x hxm y hy => ?_) fun x hxm y hy => ?_, fun x => ?_⟩
        · rw [List.mem_singleton] at hxm; subst hxm; exact hR y hy
        · have h1 := m1 x hxm
          rw [List.mem_cons] at hy
          rcases hy with rfl | hy
          · exact h1
          · have := hR y hy; omega
        · rw [List.mem_append, List.mem_cons, ih.2 x, hxs, List.mem_cons, mem_split zs i x]
          constructor
          · rintro (a | a | ⟨a, b⟩ | a)
            · refine .inl ⟨.inl a, fun h => ?_⟩
              have := m1 x a; have := hdgt x h; omega
            · exact .inr (.inl a)
            · exact .inl ⟨.inr a, b⟩
            · exact .inr (.inr a)
          · rintro (⟨a | a, b⟩ | a | a)
            · exact .inl a
            · exact .inr (.inr (.inl ⟨a, b⟩))
            · exact .inr (.inl a)
            · exact .inr (.inr (.inr a))

end Go.Proofs.Qxb6613757a.T
