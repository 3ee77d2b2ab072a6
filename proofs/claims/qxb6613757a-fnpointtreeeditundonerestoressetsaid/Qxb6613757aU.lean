import Derived.Test.Qxb6613757aProg
import Derived.WalkKit
import Derived.WalkLawsBesides
import Derived.BigQuiet
import Derived.Deep.QuietTactic
import Derived.WalkSpells
import Derived.Below
/-
  SLICES OF uint64 IN MEMORY; THE LAWS' OWN READERS (zzb1Ascending) AND slices.BinarySearch.
-/
namespace Go.Proofs.Qxb6613757a.T
open Go.RowKit
set_option linter.unusedVariables false
set_option linter.unusedSimpArgs false

theorem hide {p : Prop} (h : p) : Hid p := h
theorem unhide {p : Prop} (h : Hid p) : p := h.out

/-- element k of a list of numbers (a name that no rule opens) -/
def el (zs : List Int) (k : Nat) : Int := zs.getD k 0
theorem el_eq (zs : List Int) (k : Nat) (h : k < zs.length) : el zs k = zs[k] := by simp [el, h]
theorem el_take (zs : List Int) (k j : Nat) (h : j < k) : el (zs.take k) j = el zs j := by
  unfold el; simp [List.getD, List.getElem?_take, h]
theorem el_drop (zs : List Int) (k j : Nat) : el (zs.drop k) j = el zs (k + j) := by
  unfold el; simp [List.getD, List.getElem?_drop]
theorem el_append_left (xs ys : List Int) (j : Nat) (h : j < xs.length) : el (xs ++ ys) j = el xs j := by
  unfold el; simp [List.getD, List.getElem?_append, h]
theorem el_append_right (xs ys : List Int) (j : Nat) (h : xs.length ≤ j) : el (xs ++ ys) j = el ys (j - xs.length) := by
  unfold el; simp [List.getD, List.getElem?_append, Nat.not_lt.2 h]
theorem el_ext {xs ys : List Int} (hl : xs.length = ys.length) (h : ∀ j, j < xs.length → el xs j = el ys j) : xs = ys := by
  apply List.ext_getElem hl
  intro i h1 h2
  rw [← el_eq xs i h1, ← el_eq ys i h2]; exact h i h1

/-- the slice's address leads to a row of uint64s that reads zs (the empty list: nothing is asked) -/
def Row (w : World) (a : Option Addr) (zs : List Int) : Prop :=
  zs = [] ∨ ∃ (b o : Nat) (cur : Array Value) (fr : Nat × Nat), a = some ⟨b, o, none⟩ ∧ w.heap[b]? = some (.cells cur 23 fr) ∧ ∀ i, i < zs.length → cur[o + i]? = some (.int .u64 (el zs i))

theorem cell_of {w : World} {b o : Nat} {cur : Array Value} {t : TypeId} {fr : Nat × Nat} {v : Value} (h : w.heap[b]? = some (.cells cur t fr)) (hc : cur[o]? = some v) : w.cell? ⟨b, o, none⟩ = some v := by
  simp [World.cell?, h, hc]

theorem Row.at {w : World} {a : Option Addr} {zs : List Int} (h : Row w a zs) (hp : 0 < zs.length) :
    ∃ b o, a = some ⟨b, o, none⟩ ∧ b < w.heap.size ∧ ∀ i, i < zs.length → w.cell? ⟨b, o + i, none⟩ = some (.int .u64 (el zs i)) := by
  rcases h with rfl | ⟨b, o, cur, fr, rfl, hb, hc⟩
  · simp at hp
  · exact ⟨b, o, rfl, (Array.getElem?_eq_some_iff.1 hb).1, fun i hi => cell_of hb (hc i hi)⟩

/-- every row of cells that is no row of treeChilds (type 81) lies as it lay -/
def Kt (w w' : World) : Prop := ∀ (b : Nat) (cur : Array Value) (t : TypeId) (fr : Nat × Nat), t ≠ 81 → w.heap[b]? = some (.cells cur t fr) → w'.heap[b]? = some (.cells cur t fr)
theorem Kt.refl (w : World) : Kt w w := fun _ _ _ _ _ h => h
theorem Kt.trans {a b c : World} (h : Kt a b) (k : Kt b c) : Kt a c := fun x cur t fr ht hx => k x cur t fr ht (h x cur t fr ht hx)
theorem Kt.below {w w' : World} (h : Below w.heap.size w w') : Kt w w' := fun b cur t fr _ hb => by
  rw [h.block b (Array.getElem?_eq_some_iff.1 hb).1]; exact hb
theorem Kt.grown {w w' : World} {row : Option Nat} (h : w.grownBy w' row) (hl : ∀ l, row = some l → ∃ (cur : Array Value) (fr : Nat × Nat), w.heap[l]? = some (.cells cur 81 fr)) : Kt w w' := fun b cur t fr ht hb => by
  rw [h.block b (Array.getElem?_eq_some_iff.1 hb).1 (fun e => by
    obtain ⟨c', f', hc'⟩ := hl b e.symm
    rw [hb] at hc'
    cases hc'
    exact ht rfl)]
  exact hb
theorem Row.kept {w w' : World} {a : Option Addr} {zs : List Int} (h : Row w a zs) (k : Kt w w') : Row w' a zs := by
  rcases h with rfl | ⟨b, o, cur, fr, rfl, hb, hc⟩
  · exact .inl rfl
  · exact .inr ⟨b, o, cur, fr, rfl, k b cur 23 fr (by decide) hb, hc⟩
theorem Row.take {w : World} {a : Option Addr} {zs : List Int} (h : Row w a zs) (k : Nat) : Row w a (zs.take k) := by
  rcases h with rfl | ⟨b, o, cur, fr, rfl, hb, hc⟩
  · exact .inl (by simp)
  · refine .inr ⟨b, o, cur, fr, rfl, hb, fun i hi => ?_⟩
    simp at hi
    rw [el_take zs k i (by omega)]; exact hc i (by omega)
/-- cutting k elements off the front: the address moves on unless nothing of the capacity is left -/
theorem Row.drop {w : World} {b o : Nat} {zs : List Int} (h : Row w (some ⟨b, o, none⟩) zs) (k : Nat) : Row w (some ⟨b, o + k, none⟩) (zs.drop k) := by
  rcases h with rfl | ⟨b', o', cur, fr, e, hb, hc⟩
  · exact .inl (by simp)
  · cases e
    refine .inr ⟨b, o + k, cur, fr, rfl, hb, fun i hi => ?_⟩
    simp at hi
    rw [el_drop, Nat.add_assoc]; exact hc (k + i) (by omega)

/-- strictly ascending -/
def Asc (zs : List Int) : Prop := ∀ i j, i < j → j < zs.length → el zs i < el zs j
theorem Asc.take {zs : List Int} (h : Asc zs) (k : Nat) : Asc (zs.take k) := fun i j hij hj => by
  simp at hj
  rw [el_take _ _ _ (by omega), el_take _ _ _ (by omega)]; exact h i j hij (by omega)
theorem Asc.drop {zs : List Int} (h : Asc zs) (k : Nat) : Asc (zs.drop k) := fun i j hij hj => by
  simp at hj
  rw [el_drop, el_drop]; exact h _ _ (by omega) (by omega)
theorem Asc.le {zs : List Int} (h : Asc zs) {i j : Nat} (hij : i ≤ j) (hj : j < zs.length) : el zs i ≤ el zs j := by
  rcases Nat.lt_or_eq_of_le hij with e | e
  · exact Int.le_of_lt (h i j e hj)
  · subst e; exact Int.le_refl _
theorem asc_of_step {zs : List Int} (h : ∀ i, i + 1 < zs.length → el zs i < el zs (i + 1)) : Asc zs := fun i j hij => by
  induction j with
  | zero => omega
  | succ j ih =>
    intro hj
    rcases Nat.lt_or_eq_of_le (Nat.le_of_lt_succ hij) with e | e
    · exact Int.lt_trans (ih e (by omega)) (h j hj)
    · subst e; exact h i hj

theorem ret_bool {a b : Bool} (h : a = b) : Ending.returned (.bool a) = .returned (.bool b) := by rw [h]

theorem isNaN52 (x : Int) (w : World) : Calls Try.prog 52 #[.int .u64 x] w fun e w' => e = .returned (.bool false) ∧ w' = w := by
  have h : (x != x) = false := by simp
  go_enter Try.func52, Try.ntmps52
  go_wp2
  go_ret
  exact ⟨by simp, rfl⟩
theorem isNaN56 (x : Int) (w : World) : Calls Try.prog 56 #[.int .u64 x] w fun e w' => e = .returned (.bool false) ∧ w' = w := by
  have h : (x != x) = false := by simp
  go_enter Try.func56, Try.ntmps56
  go_wp2
  go_ret
  exact ⟨by simp, rfl⟩
theorem less51 (x y : Int) (w : World) : Calls Try.prog 51 #[.int .u64 x, .int .u64 y] w fun e w' => e = .returned (.bool (decide (x < y))) ∧ w' = w := by
  go_enter Try.func51, Try.ntmps51
  go_wp2_with (go_at_call 56; refine (isNaN56 _ _).mono ?_; rintro e w' ⟨rfl, rfl⟩)
  go_ret
  exact ⟨rfl, rfl⟩

set_option maxHeartbeats 400000 in
theorem asc14 (a : Option Addr) (n cap : Nat) (zs : List Int) (w : World) (hz : zs.length = n) (hn : n ≤ 1048576) (hr : Row w a zs) :
    Calls Try.prog 14 #[.slice a n cap] w fun e w' => (∃ q, w' = w.drewN q) ∧ ((Asc zs ∧ e = .returned (.bool true)) ∨ e = .returned (.bool false)) := by
  go_enter Try.func14, Try.ntmps14
  go_wp2
  go_loopw [3] (fun i wr => (∃ q, wr = w.drewN q) ∧ ∃ k : Nat, 1 ≤ k ∧ i = .int .i64 k ∧ (∀ j, j + 1 < k → j + 1 < n → el zs j < el zs (j + 1))) (fun i _ => n - (intOf i).toNat)
  case atStart => exact ⟨⟨0, rfl⟩, 1, Nat.le_refl _, rfl, fun j h _ => by omega⟩
  case round =>
    obtain ⟨⟨q, rfl⟩, k, hk, rfl, hall⟩ := hrel
    have HA := hide hall
    clear hall
    by_cases hlt : k < n
    · obtain ⟨b, o, rfl, hb, hc⟩ := hr.at (by omega)
      have c1 := hc k (by omega)
      have c0 := hc (k - 1) (by omega)
      have next : Hid (el zs (k - 1) < el zs k → ∀ j, j + 1 < k + 1 → j + 1 < n → el zs j < el zs (j + 1)) := fun h j h1 h2 => by
        by_cases e : j + 1 = k
        · subst e; simpa using h
        · exact unhide HA j (by omega) h2
      clear hc hr
      generalize el zs k = x at *
      generalize el zs (k - 1) = y at *
      go_wp2
      go_quiet (fail)
      go_wp2
      · go_ret
        exact ⟨⟨q + nq, by simp⟩, .inr rfl⟩
      · go_roundw
        case rel => exact ⟨⟨_, rfl⟩, k + 1, by omega, by go_num, unhide next (by assumption)⟩
        case measure => simp [intOf]; omega
    · go_wp2
      go_ret
      exact ⟨⟨q, rfl⟩, .inl ⟨asc_of_step fun i hi => unhide HA i (by omega) (by omega), rfl⟩⟩

/-- where x stands in an ascending list: i elements lie below it, the rest at or above it -/
def Cut (zs : List Int) (x : Int) (i : Nat) : Prop := i ≤ zs.length ∧ (∀ j, j < i → el zs j < x) ∧ (∀ j, i ≤ j → j < zs.length → x ≤ el zs j)

set_option maxHeartbeats 1000000 in
theorem bs44 (a : Option Addr) (n cap : Nat) (zs : List Int) (x : Int) (w : World) (hz : zs.length = n) (hn : n ≤ 1048576) (hr : Row w a zs) (ha : Asc zs) :
    Calls Try.prog 44 #[.slice a n cap, .int .u64 x] w fun e w' => w' = w ∧ ∃ i : Nat, Cut zs x i ∧ e = .returned (.tuple #[.int .i64 i, .bool (decide (i < n) && (el zs i == x))]) := by
  go_enter Try.func44, Try.ntmps44
  go_wp2
  go_loop [7, 8] (fun s t => ∃ i j : Nat, i ≤ j ∧ j ≤ n ∧ s = .int .i64 i ∧ t = .int .i64 j ∧ (∀ m, m < i → el zs m < x) ∧ (∀ m, j ≤ m → m < n → x ≤ el zs m)) (fun s t => (intOf t).toNat - (intOf s).toNat)
  case atStart => exact ⟨0, n, Nat.zero_le _, Nat.le_refl _, rfl, rfl, fun m h => by omega, fun m h1 h2 => by omega⟩
  case round =>
    obtain ⟨i, j, hij, hj, rfl, rfl, h1, h2⟩ := hrel
    have H1 := hide h1
    have H2 := hide h2
    clear h1 h2
    by_cases hlt : i < j
    · obtain ⟨b, o, rfl, hb, hc⟩ := hr.at (by omega)
      have eh : ((i : Int) + (j : Int)) / 2 = (((i + j) / 2 : Nat) : Int) := by omega
      have hm1 : i ≤ (i + j) / 2 := by omega
      have hm2 : (i + j) / 2 < j := by omega
      have c1 := hc ((i + j) / 2) (by omega)
      have lo : Hid (el zs ((i + j) / 2) < x → ∀ m, m < (i + j) / 2 + 1 → el zs m < x) := fun h m hm => Int.lt_of_le_of_lt (ha.le (by omega) (by omega)) h
      have hi : Hid (x ≤ el zs ((i + j) / 2) → ∀ m, (i + j) / 2 ≤ m → m < n → x ≤ el zs m) := fun h m hm1 hm2 => Int.le_trans h (ha.le hm1 (by omega))
      generalize (i + j) / 2 = m at *
      generalize el zs m = y at *
      clear hc hr
      by_cases hxy : y < x
      · go_wp2_with (go_at_call 51; refine (less51 _ _ _).mono ?_; rintro e w' ⟨rfl, rfl⟩)
        go_round
        case rel => exact ⟨m + 1, j, by omega, hj, by go_num, rfl, unhide lo hxy, unhide H2⟩
        case measure => simp [intOf]; omega
      · go_wp2_with (go_at_call 51; refine (less51 _ _ _).mono ?_; rintro e w' ⟨rfl, rfl⟩)
        go_round
        case rel => exact ⟨i, m, hm1, by omega, rfl, rfl, unhide H1, unhide hi (by omega)⟩
        case measure => simp [intOf]; omega
    · obtain rfl : i = j := by omega
      have HC : Hid (Cut zs x i) := ⟨by omega, unhide H1, fun m h1 h2 => unhide H2 m h1 (by omega)⟩
      clear H1 H2
      by_cases hin : i < n
      · obtain ⟨b, o, rfl, hb, hc⟩ := hr.at (by omega)
        have c1 := hc i (by omega)
        clear hc hr
        by_cases hex : el zs i = x
        · have hb1 : (el zs i == x) = true := by simp [hex]
          rw [hex] at c1
          go_wp2
          go_ret2
          exact ⟨rfl, i, HC.out, by rw [hb1]; simp [hin]⟩
        · have hb1 : (el zs i == x) = false := by simp [hex]
          clear hex
          go_wp2_with (go_at_call 52; refine (isNaN52 _ _).mono ?_; rintro e w' ⟨rfl, rfl⟩)
          go_ret2
          exact ⟨rfl, i, HC.out, by rw [hb1]; simp⟩
      · go_wp2
        go_ret2
        exact ⟨rfl, i, HC.out, by simp [hin]⟩

/-- how many elements of an ascending list are at or below the bound -/
def Upto (zs : List Int) (x : Int) (k : Nat) : Prop := k ≤ zs.length ∧ (∀ j, j < k → el zs j ≤ x) ∧ (∀ j, k ≤ j → j < zs.length → x < el zs j)

/-- the address of 's[k:]' -/
def offA (a : Option Addr) (cap k : Nat) : Option Addr := if cap = k then a else a.map (·.add k)
theorem Row.off {w : World} {a : Option Addr} {zs : List Int} (h : Row w a zs) (cap k : Nat) (hc : zs.length ≤ cap) : Row w (offA a cap k) (zs.drop k) := by
  unfold offA
  by_cases e : cap = k
  · rw [if_pos e]; exact .inl (List.drop_eq_nil_of_le (by omega))
  · rw [if_neg e]
    rcases h with rfl | ⟨b, o, cur, fr, rfl, hb, hcc⟩
    · exact .inl (by simp)
    · have : Row w (some ⟨b, o + k, none⟩) (zs.drop k) := Row.drop (.inr ⟨b, o, cur, fr, rfl, hb, hcc⟩) k
      simpa [Addr.add_lit] using this

theorem add0 (x : Addr) : x.add 0 = x := by
  unfold Addr.add; split <;> simp_all

theorem size23 : (Try.prog.info? 23).map (fun i => (i.zero, i.size, i.bytes)) = some (some (.int .u64 0), 1, 8) := by kernel_rfl
theorem run_size23 (w : World) : (sizeOf 23).run Try.prog w = .ok 1 w := by kernel_rfl
theorem elem37 : Try.prog.elem 37 = 23 := by kernel_rfl
theorem und37 : Try.prog.underlying 37 = some (.slice (Try.prog.elem 37)) := by rw [elem37]; exact Try.underlying37

theorem slice_lh (a : Option Addr) (n cap lo hi : Nat) (h1 : lo ≤ hi) (h2 : hi ≤ cap) (w : World) :
    (Instr.slice 37 (.slice a n cap) (some (.int .i64 (lo : Int))) (some (.int .i64 (hi : Int))) none).run Try.prog w = .ok (.slice (offA a cap lo) (hi - lo) (cap - lo)) w := by
  rw [run_slice_lh w 37 a n cap und37 .i64 .i64 lo hi (by omega) (by omega) (by omega), elem37, run_size23]
  simp [sliced, offA, Result.andThen]
theorem slice_l (a : Option Addr) (n cap lo : Nat) (h1 : lo ≤ n) (w : World) :
    (Instr.slice 37 (.slice a n cap) (some (.int .i64 (lo : Int))) none none).run Try.prog w = .ok (.slice (offA a cap lo) (n - lo) (cap - lo)) w := by
  rw [run_slice_l w 37 a n cap und37 .i64 lo (by omega) (by omega), elem37, run_size23]
  simp [sliced, offA, Result.andThen]
theorem slice_h (a : Option Addr) (n cap hi : Nat) (h2 : hi ≤ cap) (w : World) :
    (Instr.slice 37 (.slice a n cap) none (some (.int .i64 (hi : Int))) none).run Try.prog w = .ok (.slice a hi cap) w := by
  rw [run_slice_h w 37 a n cap und37 .i64 hi (by omega) (by omega), elem37, run_size23]
  have : (fun x : Addr => x.add 0) = id := funext add0
  simp [sliced, Result.andThen, this]

set_option maxHeartbeats 1000000 in
theorem cut46 (a : Option Addr) (n cap : Nat) (zs : List Int) (x : Int) (w : World) (hz : zs.length = n) (hn : n ≤ 1048576) (hcap : n ≤ cap) (hr : Row w a zs) (ha : Asc zs) :
    Calls Try.prog 46 #[.slice a n cap, .int .u64 x] w fun e w' => (∃ q, w' = w.drewN q) ∧ ∃ k, Upto zs x k ∧ e = .returned (.tuple #[.slice a k cap, .slice (offA a cap k) (n - k) (cap - k)]) := by
  go_enter Try.func46, Try.ntmps46
  go_wp2
  go_loop [6] (fun t => ∃ e : Nat, 1 ≤ e ∧ e ≤ 2097152 ∧ t = .int .i64 e ∧ (e = 1 ∨ (e / 2 ≤ n ∧ ∀ j, j < e / 2 → el zs j ≤ x))) (fun t => 4194304 - (intOf t).toNat)
  case atStart => exact ⟨1, Nat.le_refl _, by omega, rfl, .inl rfl⟩
  case round =>
    obtain ⟨e, he1, he2, rfl, hin⟩ := hrel
    have HI := hide hin
    clear hin
    by_cases hgo : e < n ∧ el zs (e - 1) ≤ x
    · obtain ⟨hlt, hle⟩ := hgo
      obtain ⟨b, o, rfl, hb, hc⟩ := hr.at (by omega)
      have c1 := hc (e - 1) (by omega)
      have next : Hid (∀ j, j < e * 2 / 2 → el zs j ≤ x) := fun j hj => Int.le_trans (ha.le (by omega) (by omega)) hle
      clear hc hr
      generalize el zs (e - 1) = y at *
      go_wp2
      go_round
      case rel => exact ⟨e * 2, by omega, by omega, by go_num, .inr ⟨by omega, next.out⟩⟩
      case measure => simp [intOf]; omega
    · obtain ⟨m, h, hm, hmn, hh, hA, hB⟩ : ∃ m h : Nat, (if (n : Int) < (e : Int) then (n : Int) else (e : Int)) = (m : Int) ∧ m ≤ n ∧ h = m / 2 ∧ (∀ j, j < h → el zs j ≤ x) ∧ (∀ j, m ≤ j → j < n → x < el zs j) := by
        refine ⟨min e n, _, ?_, Nat.min_le_right _ _, rfl, fun j hj => ?_, fun j h1 h2 => ?_⟩
        · by_cases hne : n < e
          · rw [if_pos (by omega)]; omega
          · rw [if_neg (by omega)]; omega
        · rcases HI.out with h | ⟨_, h⟩
          · omega
          · exact h j (by omega)
        · have hen : e < n := by omega
          have : ¬ el zs (e - 1) ≤ x := fun h => hgo ⟨hen, h⟩
          exact Int.lt_of_lt_of_le (by omega) (ha.le (show e - 1 ≤ j by omega) (by omega))
      have gmin : ∀ w : World, (Builtin.min_ #[3, 3] 3 #[.int .i64 (e : Int), .int .i64 (n : Int)]).run Try.prog w = .ok (.int .i64 m) w := fun w => by
        rw [← hm]; simp [Builtin.min_, Builtin.min2, go_sem]
      have hhalf : (m : Int) / 2 = (h : Int) := by omega
      have hhm : h ≤ m := by omega
      have hr0 := hr
      have gsl := slice_lh a n cap h m hhm (by omega)
      have GH := hide (fun k (hk : k ≤ cap) => slice_h a n cap k hk)
      have GL := hide (fun k (hk : k ≤ n) => slice_l a n cap k hk)
      have HR : Hid (Row w (offA a cap h) ((zs.take m).drop h)) := ((hr.take m).off cap h (by simp; omega))
      have HAsc : Hid (Asc ((zs.take m).drop h)) := (ha.take m).drop h
      have HL : Hid (((zs.take m).drop h).length = m - h) := by show _ = _; simp; omega
      have HAB := hide (And.intro hA hB)
      have HH := hide hh
      clear HI hm hA hB hh
      by_cases hlt : e < n
      case' pos =>
        obtain ⟨b, o, rfl, hb, hc⟩ := hr.at (by omega)
        have c1 := hc (e - 1) (by omega)
        have hle : ¬ el zs (e - 1) ≤ x := fun h => hgo ⟨hlt, h⟩
        clear hc hgo hr
        generalize el zs (e - 1) = y at *
      case' neg =>
        clear hgo hr
      all_goals
        go_wp2_with fail
        refine (bs44 _ _ _ ((zs.take m).drop h) x _ HL.out (by omega) HR.out HAsc.out).mono ?_
        rintro e' w' ⟨rfl, i, hcut, rfl⟩
        have hi : i ≤ m - h := by have := hcut.1; rw [HL.out] at this; exact this
        obtain ⟨k, hk, hkn, hkU⟩ : ∃ k : Nat, (if (decide (i < m - h) && (el ((zs.take m).drop h) i == x)) = true then (i : Int) + (h : Int) + 1 else (i : Int) + (h : Int)) = (k : Int) ∧ k ≤ n ∧ Upto zs x k := by
          obtain ⟨hA, hB⟩ := unhide HAB
          have hel : ∀ j, j < m - h → el ((zs.take m).drop h) j = el zs (h + j) := fun j hj => by rw [el_drop, el_take _ _ _ (by omega)]
          have hlow : ∀ j, j < h + i → el zs j ≤ x := fun j hj => by
            by_cases e : j < h
            · exact hA j e
            · have := hcut.2.1 (j - h) (by omega)
              rw [hel _ (by omega), show h + (j - h) = j from by omega] at this
              omega
          have hhigh : ∀ j, h + i ≤ j → j < n → x ≤ el zs j := fun j h1 h2 => by
            by_cases e : j < m
            · have := hcut.2.2 (j - h) (by omega) (by rw [HL.out]; omega)
              rw [hel _ (by omega), show h + (j - h) = j from by omega] at this
              exact this
            · exact Int.le_of_lt (hB j (by omega) h2)
          by_cases hf : (decide (i < m - h) && (el ((zs.take m).drop h) i == x)) = true
          · rw [if_pos hf]
            simp only [Bool.and_eq_true, decide_eq_true_eq, beq_iff_eq] at hf
            rw [hel i hf.1] at hf
            refine ⟨h + i + 1, by omega, by omega, by omega, fun j hj => ?_, fun j h1 h2 => ?_⟩
            · by_cases e : j = h + i
              · subst e; omega
              · exact hlow j (by omega)
            · have := ha (h + i) j (by omega) h2; omega
          · rw [if_neg hf]
            refine ⟨h + i, by omega, by omega, by omega, hlow, fun j h1 h2 => ?_⟩
            have h3 := hhigh j h1 (by omega)
            rcases Int.lt_or_eq_of_le h3 with h4 | h4
            · exact h4
            · exfalso
              by_cases e : j < m
              · have hji : j = h + i := by
                  by_cases e2 : j = h + i
                  · exact e2
                  · have := ha (h + i) j (by omega) h2
                    have := hhigh (h + i) (by omega) (by omega)
                    omega
                apply hf
                simp only [Bool.and_eq_true, decide_eq_true_eq, beq_iff_eq]
                rw [hel i (by omega), ← hji]
                exact ⟨by omega, h4.symm⟩
              · have := hB j (by omega) (by omega); omega
        have HU := hide hkU
        have HK := hide hk
        have gh := unhide GH k (by omega)
        have gl := unhide GL k hkn
        clear hkU hk hcut HAB GH GL gsl
        generalize hbb : (decide (i < m - h) && (el ((zs.take m).drop h) i == x)) = bb at *
        clear hbb HL HR HAsc
        cases bb
        · have hk' : (i : Int) + (h : Int) = (k : Int) := by simpa using HK.out
          go_wp2
          go_quiet (fail)
          go_wp2
          go_ret2
          exact ⟨⟨_, rfl⟩, k, HU.out, rfl⟩
        · have hk' : (i : Int) + (h : Int) + 1 = (k : Int) := by simpa using HK.out
          go_wp2
          go_quiet (fail)
          go_wp2
          go_ret2
          exact ⟨⟨_, rfl⟩, k, HU.out, rfl⟩

end Go.Proofs.Qxb6613757a.T
