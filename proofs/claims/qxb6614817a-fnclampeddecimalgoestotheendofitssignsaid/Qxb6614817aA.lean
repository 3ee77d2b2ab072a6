import Derived.Test.Qxb6614817aProg
import Derived.WalkKit
import Derived.WalkLawsBesides
import Derived.BigQuiet
import Derived.Deep.QuietTactic
namespace Go.Proofs.Qxb6614817a.A
open Go.RowKit
set_option linter.unusedVariables false

/-- element k of a list of numbers (a name that no rule opens) -/
def el (zs : List Int) (k : Nat) : Int := zs.getD k 0
theorem el_eq (zs : List Int) (k : Nat) (h : k < zs.length) : el zs k = zs[k] := by simp [el, h]

/-- the bytes of a slice that begins at cell o of block b -/
def Bytes (w : World) (b o : Nat) (zs : List Int) : Prop :=
  ∀ i, i < zs.length → w.cell? ⟨b, o + i, none⟩ = some (.int .u8 (el zs i)) ∧ 0 ≤ el zs i ∧ el zs i ≤ 255

theorem ret_bool {a b : Bool} (h : a = b) : Ending.returned (.bool a) = .returned (.bool b) := by rw [h]

theorem bytes4 (a0 : Bool) (a1 : Int) (a : Option Addr) (len cap : Nat) (w : World) (hl : len ≤ maxLen) :
    Calls Try.prog 4 #[.bool a0, .int .i32 a1, .slice a len cap] w fun e w' => e = .returned (.bool (decide (len ≤ 1048576))) ∧ w' = w := by
  unfold maxLen at hl
  by_cases h : len ≤ 1048576
  · go_enter Try.func4, Try.ntmps4
    go_wp2
    go_ret
    exact ⟨by simp [h], rfl⟩
  · go_enter Try.func4, Try.ntmps4
    go_wp2
    go_ret
    exact ⟨by simp [h], rfl⟩

def isD (c : Int) : Bool := decide (48 ≤ c) && decide (c ≤ 57)
def wf1 (c : Int) : Bool := isD c || c == 46
def digs (zs : List Int) : Nat := zs.countP isD
def pts (zs : List Int) : Nat := zs.countP (fun c => !isD c && c == 46)
theorem isD_iff (c : Int) : isD c = true ↔ 48 ≤ c ∧ c ≤ 57 := by simp [isD]

theorem take_snoc (zs : List Int) (k : Nat) (h : k < zs.length) : zs.take (k + 1) = zs.take k ++ [el zs k] := by
  rw [List.take_succ_eq_append_getElem h, el_eq zs k h]
theorem digs_snoc (zs : List Int) (c : Int) : digs (zs ++ [c]) = digs zs + if isD c then 1 else 0 := by simp [digs, List.countP_append, List.countP_cons]
theorem pts_snoc (zs : List Int) (c : Int) : pts (zs ++ [c]) = pts zs + if (!isD c && c == 46) then 1 else 0 := by simp [pts, List.countP_append, List.countP_cons]
theorem digs_le (zs : List Int) : digs zs ≤ zs.length := List.countP_le_length
theorem pts_le (zs : List Int) : pts zs ≤ zs.length := List.countP_le_length

theorem step_d (zs : List Int) (k : Nat) (h : k < zs.length) (h1 : 48 ≤ el zs k) (h2 : el zs k ≤ 57) :
    digs (zs.take (k + 1)) = digs (zs.take k) + 1 ∧ pts (zs.take (k + 1)) = pts (zs.take k) ∧ wf1 (el zs k) = true := by
  have e : isD (el zs k) = true := by simp [isD, h1, h2]
  rw [take_snoc zs k h, digs_snoc, pts_snoc, e]; simp [wf1, e]
theorem step_p (zs : List Int) (k : Nat) (h : k < zs.length) (h1 : el zs k = 46) :
    digs (zs.take (k + 1)) = digs (zs.take k) ∧ pts (zs.take (k + 1)) = pts (zs.take k) + 1 ∧ wf1 (el zs k) = true := by
  rw [take_snoc zs k h, digs_snoc, pts_snoc, h1]; simp [wf1, isD]

theorem num_cast (a b : Nat) (h : b = a + 1) : Value.int .i64 ((a : Int) + 1) = .int .i64 (b : Int) := by subst h; rfl

/-- what 'wellFormedDecimal' finds -/
def Well (zs : List Int) : Prop := (∀ j, j < zs.length → wf1 (el zs j) = true) ∧ 1 ≤ digs zs ∧ pts zs ≤ 1

set_option maxHeartbeats 400000 in
theorem well5 (b o len cap : Nat) (zs : List Int) (w : World) (hz : zs.length = len) (hl : len ≤ 1048576) (hc : Bytes w b o zs) :
    Calls Try.prog 5 #[.slice (some ⟨b, o, none⟩) len cap] w fun e w' => w' = w ∧ ((Well zs ∧ e = .returned (.bool true)) ∨ e = .returned (.bool false)) := by
  go_enter Try.func5, Try.ntmps5
  go_wp2
  go_loop [3, 4, 5] (fun p d i => ∃ k : Nat, k ≤ len ∧ i = .int .i64 k ∧ p = .int .i64 (pts (zs.take k)) ∧ d = .int .i64 (digs (zs.take k)) ∧ ∀ j, j < k → wf1 (el zs j) = true) (fun _ _ i => len - (intOf i).toNat)
  case atStart => exact ⟨0, Nat.zero_le _, rfl, rfl, rfl, fun j hj => by omega⟩
  case round =>
    obtain ⟨k, hk, rfl, rfl, rfl, hall⟩ := hrel
    have HA : Hid (∀ j, j < k → wf1 (el zs j) = true) := hall
    clear hall
    have hdl := digs_le (zs.take k)
    have hpl := pts_le (zs.take k)
    have hln : (zs.take k).length ≤ k := List.length_take_le _ _
    by_cases hlt : k < len
    · obtain ⟨hcell, hb1, hb2⟩ := hc k (by omega)
      have SD : Hid (48 ≤ el zs k → el zs k ≤ 57 → _) := step_d zs k (by omega)
      have SP : Hid (el zs k = 46 → _) := step_p zs k (by omega)
      have next : Hid (wf1 (el zs k) = true → ∀ j, j < k + 1 → wf1 (el zs j) = true) := fun h j hj => by
        by_cases e : j = k
        · subst e; exact h
        · exact HA.out j (by omega)
      generalize el zs k = c at *
      go_wp2
      · go_round
        case rel =>
          obtain ⟨s1, s2, s3⟩ := SD.out (by assumption) (by assumption)
          exact ⟨k + 1, by omega, by go_num, by rw [s2], num_cast _ _ s1, next.out s3⟩
        case measure => simp [intOf]; omega
      · go_ret
        exact ⟨rfl, .inr rfl⟩
      · go_round
        case rel =>
          obtain ⟨s1, s2, s3⟩ := SP.out (eq_of_beq (by assumption))
          exact ⟨k + 1, by omega, by go_num, num_cast _ _ s2, by rw [s1], next.out s3⟩
        case measure => simp [intOf]; omega
      · go_ret
        exact ⟨rfl, .inr rfl⟩
    · have ek : zs.take k = zs := List.take_of_length_le (by omega)
      rw [ek] at *
      clear ek
      by_cases hd : 1 ≤ digs zs
      · by_cases hp : pts zs ≤ 1
        · go_wp2
          go_ret
          exact ⟨rfl, .inl ⟨⟨fun j hj => HA.out j (by omega), hd, hp⟩, ret_bool (by simp; omega)⟩⟩
        · go_wp2
          go_ret
          exact ⟨rfl, .inr (ret_bool (by simp; omega))⟩
      · go_wp2
        go_ret
        exact ⟨rfl, .inr rfl⟩

/-- is some byte a digit from 1 to 9? -/
def nz (zs : List Int) : Prop := ∃ j, j < zs.length ∧ 49 ≤ el zs j ∧ el zs j ≤ 57

set_option maxHeartbeats 400000 in
theorem nonzero8 (b o len cap : Nat) (zs : List Int) (w : World) (hz : zs.length = len) (hl : len ≤ 1048576) (hc : Bytes w b o zs) :
    Calls Try.prog 8 #[.slice (some ⟨b, o, none⟩) len cap] w fun e w' => w' = w ∧ ((nz zs ∧ e = .returned (.bool true)) ∨ (¬ nz zs ∧ e = .returned (.bool false))) := by
  go_enter Try.func8, Try.ntmps8
  go_wp2
  go_loop [3] (fun i => ∃ k : Nat, k ≤ len ∧ i = .int .i64 k ∧ ∀ j, j < k → ¬ (49 ≤ el zs j ∧ el zs j ≤ 57)) (fun i => len - (intOf i).toNat)
  case atStart => exact ⟨0, Nat.zero_le _, rfl, fun j hj => by omega⟩
  case round =>
    obtain ⟨k, hk, rfl, hall⟩ := hrel
    have HA : Hid (∀ j, j < k → ¬ (49 ≤ el zs j ∧ el zs j ≤ 57)) := hall
    clear hall
    by_cases hlt : k < len
    · obtain ⟨hcell, hb1, hb2⟩ := hc k (by omega)
      have next : Hid (¬ (49 ≤ el zs k ∧ el zs k ≤ 57) → ∀ j, j < k + 1 → ¬ (49 ≤ el zs j ∧ el zs j ≤ 57)) := fun h j hj => by
        by_cases e : j = k
        · subst e; exact h
        · exact HA.out j (by omega)
      have yes : Hid (49 ≤ el zs k ∧ el zs k ≤ 57 → nz zs) := fun h => ⟨k, by omega, h.1, h.2⟩
      generalize el zs k = c at *
      go_wp2
      all_goals first
        | (go_ret; exact ⟨rfl, .inl ⟨yes.out ⟨by assumption, by assumption⟩, rfl⟩⟩)
        | (go_round
           case rel => exact ⟨k + 1, by omega, by go_num, next.out (by omega)⟩
           case measure => simp [intOf]; omega)
    · go_wp2
      go_ret
      exact ⟨rfl, .inr ⟨fun ⟨j, hj, h1, h2⟩ => HA.out j (by omega) ⟨h1, h2⟩, rfl⟩⟩

set_option maxHeartbeats 400000 in
theorem point14 (neg : Bool) (hid : Int) (b o len cap : Nat) (zs : List Int) (w : World) (hz : zs.length = len) (hl : len ≤ 1048576) (hbw : b < w.heap.size) (hc : Bytes w b o zs) :
    Calls Try.prog 14 #[.agg #[.bool neg, .int .i32 hid, .slice (some ⟨b, o, none⟩) len cap]] w fun e w' => Below w.heap.size w w' ∧
      ((∃ k : Nat, k < len ∧ el zs k = 46 ∧ (∀ j, j < k → el zs j ≠ 46) ∧ e = .returned (.int .i64 k)) ∨ ((∀ j, j < len → el zs j ≠ 46) ∧ e = .returned (.int .i64 (-1)))) := by
  go_enter Try.func14, Try.ntmps14
  go_wp2
  go_loop [8] (fun i => ∃ k : Nat, k ≤ len ∧ i = .int .i64 k ∧ ∀ j, j < k → el zs j ≠ 46) (fun i => len - (intOf i).toNat)
  case atStart => exact ⟨0, Nat.zero_le _, rfl, fun j hj => by omega⟩
  case round =>
    obtain ⟨k, hk, rfl, hall⟩ := hrel
    have HA : Hid (∀ j, j < k → el zs j ≠ 46) := hall
    clear hall
    by_cases hlt : k < len
    · obtain ⟨hcell, hb1, hb2⟩ := hc k (by omega)
      have next : Hid (el zs k ≠ 46 → ∀ j, j < k + 1 → el zs j ≠ 46) := fun h j hj => by
        by_cases e : j = k
        · subst e; exact h
        · exact HA.out j (by omega)
      have ek : Hid (∀ e, el zs k = 46 → e = Ending.returned (.int .i64 k) → ∃ k : Nat, k < len ∧ el zs k = 46 ∧ (∀ j, j < k → el zs j ≠ 46) ∧ e = .returned (.int .i64 k)) := fun e h he => ⟨k, hlt, h, HA.out, he⟩
      generalize el zs k = c at *
      go_wp2
      · go_ret
        exact ⟨(Below.refl _ _).alloc (Nat.le_refl _) _, .inl (ek.out _ (eq_of_beq (by assumption)) rfl)⟩
      · go_round
        case rel => exact ⟨k + 1, by omega, by go_num, next.out (beq_eq_false_iff_ne.1 (by assumption))⟩
        case measure => simp [intOf]; omega
    · go_wp2
      go_ret
      exact ⟨(Below.refl _ _).alloc (Nat.le_refl _) _, .inr ⟨fun j hj => HA.out j (by omega), rfl⟩⟩

end Go.Proofs.Qxb6614817a.A
