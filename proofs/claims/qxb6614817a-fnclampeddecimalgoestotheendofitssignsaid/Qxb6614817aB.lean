import Derived.Test.Qxb6614817aA
namespace Go.Proofs.Qxb6614817a.A
open Go.RowKit
set_option linter.unusedVariables false

theorem bcell {W w1 : World} (hb : Below W.heap.size W w1) : (∀ b o, b < W.heap.size → w1.cell? ⟨b, o, none⟩ = W.cell? ⟨b, o, none⟩) ∧ (∀ b o, b < W.heap.size → w1.frozen? ⟨b, o, none⟩ = W.frozen? ⟨b, o, none⟩) :=
  ⟨fun b o h => hb.cell (p := ⟨b, o, none⟩) h, fun b o h => hb.frozen (p := ⟨b, o, none⟩) h⟩

theorem Bytes.kept {w w1 : World} {b o : Nat} {zs : List Int} (h : Bytes w b o zs) {B : Nat} (hb : Below B w w1) (hB : b < B) : Bytes w1 b o zs := fun i hi => by
  have := h i hi
  rw [hb.cell (p := ⟨b, o + i, none⟩) hB]
  exact this

set_option maxHeartbeats 400000 in
theorem split13 (neg : Bool) (hid : Int) (b o len cap : Nat) (zs : List Int) (w : World) (hz : zs.length = len) (hl : len ≤ 1048576) (hcap : len ≤ cap) (hcm : cap ≤ maxLen) (hbw : b < w.heap.size) (hc : Bytes w b o zs) :
    Calls Try.prog 13 #[.agg #[.bool neg, .int .i32 hid, .slice (some ⟨b, o, none⟩) len cap]] w fun e w' => Below w.heap.size w w' ∧
      ((∃ k : Nat, k < len ∧ el zs k = 46 ∧ (∀ j, j < k → el zs j ≠ 46) ∧ ∃ o' c' : Nat, (0 < len - (k + 1) → o' = o + (k + 1)) ∧ len - (k + 1) ≤ c' ∧ c' ≤ cap ∧ e = .returned (.tuple #[.slice (some ⟨b, o, none⟩) k cap, .slice (some ⟨b, o', none⟩) (len - (k + 1)) c'])) ∨
       ((∀ j, j < len → el zs j ≠ 46) ∧ e = .returned (.tuple #[.slice (some ⟨b, o, none⟩) len cap, .slice none 0 0]))) := by
  unfold maxLen at hcm
  go_enter Try.func13, Try.ntmps13
  go_wp2_with fail
  have hb0 := ((Below.refl w.heap.size w).alloc (Nat.le_refl _) (.cells #[.bool neg, .int .i32 hid, .slice (some ⟨b, o, none⟩) len cap] 27))
  refine (point14 neg hid b o len cap zs _ hz hl (by simp; omega) (hc.kept hb0 hbw)).mono ?_
  rintro e w1 ⟨hb1, h⟩
  have hs1 : w1.cell? ⟨w.heap.size, 2, none⟩ = some (.slice (some ⟨b, o, none⟩) len cap) := by
    rw [(bcell hb1).1 _ _ (by simp)]; simp [go_sem]
  have HB : Hid (Below w.heap.size w w1) := hb0.trans (hb1.mono (by simp))
  clear hb0 hb1
  rcases h with ⟨k, hk, h46, hall, rfl⟩ | ⟨hall, rfl⟩
  · have HK : Hid (el zs k = 46 ∧ ∀ j, j < k → el zs j ≠ 46) := ⟨h46, hall⟩
    clear h46 hall hc
    go_wp2
    by_cases hck : cap = k + 1
    · subst hck
      go_quiet (fail)
      go_wp2
      go_ret2
      exact ⟨below_drewN HB.out _, .inl ⟨k, hk, HK.out.1, HK.out.2, o, 0, fun h => by omega, by omega, by omega, by rw [show len - (k + 1) = 0 from by omega]; rfl⟩⟩
    · go_quiet (fail)
      go_wp2
      all_goals
        go_ret2
        first
          | exact ⟨below_drewN HB.out _, .inl ⟨k, hk, HK.out.1, HK.out.2, o + (k + 1), cap - (k + 1), fun _ => rfl, by omega, by omega, rfl⟩⟩
          | (exfalso; omega)
  · have HK : Hid (∀ j, j < len → el zs j ≠ 46) := hall
    clear hall hc
    go_wp2
    go_ret2
    exact ⟨HB.out, .inr ⟨HK.out, rfl⟩⟩

theorem psign12 (neg : Bool) (a1 a2 : Option Addr) (l1 c1 l2 c2 : Nat) (w : World) (h1 : l1 ≤ 1048576) (h2 : l2 ≤ 1048576) :
    Calls Try.prog 12 #[.bool neg, .slice a1 l1 c1, .slice a2 l2 c2] w fun e w' => w' = w ∧ e = .returned (.int .i64 (if l1 = 0 ∧ l2 = 0 then 0 else if neg then -1 else 1)) := by
  by_cases e1 : l1 = 0
  · subst e1
    by_cases e2 : l2 = 0
    · subst e2
      go_enter Try.func12, Try.ntmps12
      go_wp2
      go_ret
      exact ⟨rfl, rfl⟩
    · have hb : ((l2 : Int) == 0) = false := beq_eq_false_iff_ne.2 (by omega)
      cases neg
      all_goals
        go_enter Try.func12, Try.ntmps12
        go_wp2
        go_ret
        exact ⟨rfl, by simp⟩
  · have hb : ((l1 : Int) == 0) = false := beq_eq_false_iff_ne.2 (by omega)
    cases neg
    all_goals
      go_enter Try.func12, Try.ntmps12
      go_wp2
      go_ret
      exact ⟨rfl, by simp⟩

end Go.Proofs.Qxb6614817a.A
