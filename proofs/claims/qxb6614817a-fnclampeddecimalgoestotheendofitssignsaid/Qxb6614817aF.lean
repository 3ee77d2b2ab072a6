import Derived.Test.Qxb6614817aE
import Derived.Deep.OwnRows
import Derived.Laws.CopyRow
import Derived.Laws.CopyOwn
import Derived.WalkSpells
namespace Go.Proofs.Qxb6614817a.A
open Go.RowKit
set_option linter.unusedVariables false

attribute [local go_sem] run_store_float
/-- the seven cells of such a value -/
abbrev cells7 (neg : Bool) (hid : Int) (sl : Value) : Obj := .cells #[.string ⟨#[100, 101, 99, 105, 109, 97, 108]⟩, .int .i64 0, .bool neg, .int .i32 hid, sl, .slice none 0 0, .float .f64 0] 30

/-- such a value lies in block b -/
def Seven (w : World) (b : Nat) (neg : Bool) (hid : Int) (sl : Value) : Prop :=
  w.cell? ⟨b, 0, none⟩ = some (.string ⟨#[100, 101, 99, 105, 109, 97, 108]⟩) ∧ w.cell? ⟨b, 1, none⟩ = some (.int .i64 0) ∧ w.cell? ⟨b, 2, none⟩ = some (.bool neg) ∧ w.cell? ⟨b, 3, none⟩ = some (.int .i32 hid) ∧
  w.cell? ⟨b, 4, none⟩ = some sl ∧ w.cell? ⟨b, 5, none⟩ = some (.slice none 0 0) ∧ w.cell? ⟨b, 6, none⟩ = some (.float .f64 0)
theorem Seven.new (w : World) (neg : Bool) (hid : Int) (sl : Value) : Seven (w.alloc (cells7 neg hid sl)) w.heap.size neg hid sl := by
  refine ⟨?_, ?_, ?_, ?_, ?_, ?_, ?_⟩ <;> simp [go_sem]
theorem Seven.kept {w w1 : World} {b : Nat} {neg : Bool} {hid : Int} {sl : Value} (h : Seven w b neg hid sl) {B : Nat} (hb : Below B w w1) (hB : b < B) : Seven w1 b neg hid sl := by
  obtain ⟨h0, h1, h2, h3, h4, h5, h6⟩ := h
  refine ⟨?_, ?_, ?_, ?_, ?_, ?_, ?_⟩ <;> (rw [hb.cell hB]; assumption)

theorem info5 : (Try.prog.info? 5).map (fun i => (i.zero, i.size, i.bytes)) = some (some (.int .u8 0), 1, 1) := by kernel_rfl
theorem size5 : (Try.prog.info? 5).map (·.size) = some 1 := by kernel_rfl

theorem well5nil (a : Option Addr) (cap : Nat) (w : World) : Calls Try.prog 5 #[.slice a 0 cap] w fun e w' => w' = w ∧ e = .returned (.bool false) := by
  go_enter Try.func5, Try.ntmps5
  go_wp2
  refine wp_loop_rounds 1 ?_
  rw [rounds_succ]
  go_wp2
  go_ret
  exact ⟨rfl, rfl⟩

/-- 'make' and 'copy': a new row with the same bytes -/
theorem copied (w : World) (b o len cap : Nat) (zs : List Int) (hz : zs.length = len) (hbw : b < w.heap.size) (hc : Bytes w b o zs) :
    ∃ w2, (Builtin.copy_ #[22, 22] 3 #[.slice (some ⟨w.heap.size, 0, none⟩) len len, .slice (some ⟨b, o, none⟩) len cap]).run Try.prog (w.alloc (.cells (madeCells #[.int .u8 0] len) 5)) = .ok (goInt len) w2 ∧
      Below w.heap.size w w2 ∧ Bytes w2 w.heap.size 0 zs ∧ w.heap.size < w2.heap.size := by
  subst hz
  have hb0 := ((Below.refl w.heap.size w).alloc (Nat.le_refl _) (.cells (madeCells #[.int .u8 0] zs.length) 5))
  have hlen : (zs.map fun z => Value.int .u8 z).length = zs.length := by simp
  have hg : (w.alloc (.cells (madeCells #[.int .u8 0] zs.length) 5)).heap[w.heap.size]? = some (.cells (madeCells #[.int .u8 0] zs.length) 5 (0, 0)) := by
    show (w.heap.push _)[w.heap.size]? = _
    simp
  have hrun := run_copy_row Try.prog (w.alloc (.cells (madeCells #[.int .u8 0] zs.length) 5)) 22 22 3 5 w.heap.size 0 zs.length zs.length ⟨b, o, none⟩ zs.length cap (madeCells #[.int .u8 0] zs.length) 5 (zs.map fun z => Value.int .u8 z)
    Try.underlying22 size5 hg (by rw [hlen]; exact (Nat.min_self _).symm) (fun j v hj => by
      rw [Addr.add_lit, hb0.cell (p := ⟨b, o + j, none⟩) hbw]
      simp only [List.getElem?_map, Option.map_eq_some_iff] at hj
      obtain ⟨z, hz, rfl⟩ := hj
      have hjl : j < zs.length := (List.getElem?_eq_some_iff.1 hz).1
      rw [(hc j hjl).1, el_eq zs j hjl, (List.getElem?_eq_some_iff.1 hz).2])
    (by rw [hlen, size_madeCells]; omega) (fun v hv => by obtain ⟨z, _, rfl⟩ := List.mem_map.1 hv; rfl)
  rw [hlen] at hrun
  refine ⟨_, hrun, below_setRow hb0 (Nat.le_refl _) _, fun i hi => ⟨?_, (hc i hi).2⟩, by simp⟩
  rw [cell_setRow_same _ _ _ _ _ _ _ hg, el_eq zs i hi, Nat.zero_add]
  simp only [List.take_zero, List.nil_append, List.getElem?_toArray]
  rw [List.getElem?_append_left (by simpa using hi)]
  simp [hi]

theorem ret_true {b : Bool} (h : b = true) : Ending.returned (.bool b) = .returned (.bool true) := by rw [h]

set_option maxHeartbeats 1000000 in
theorem walk3 (a0 : Bool) (a1 : Int) (b o len cap : Nat) (zs : List Int) (w : World) (hz : zs.length = len) (hcap : len ≤ cap) (hcm : cap ≤ maxLen) (hbw : 0 < len → b < w.heap.size) (hc : Bytes w b o zs) :
    Calls Try.prog 3 #[.bool a0, .int .i32 a1, .slice (some ⟨b, o, none⟩) len cap] w fun e w' => e = .returned (.bool true) ∧ Below w.heap.size w w' := by
  by_cases hl : len ≤ 1048576
  case neg =>
    go_enter Try.func3, Try.ntmps3
    go_wp2_with fail
    refine (bytes4 a0 a1 _ len cap _ (by omega)).mono ?_
    rintro e w1 ⟨rfl, rfl⟩
    rw [show decide (len ≤ 1048576) = false from by simp; omega]
    go_wp2
    go_ret
    exact ⟨rfl, Below.refl _ _⟩
  have hneq := fun W => run_neq_slice_nil_any (P := Try.prog) W 22 5 (some ⟨b, o, none⟩) len cap 0 0 Try.underlying22
  have hmk := fun W => run_make_row' (P := Try.prog) 22 5 (.int .u8 0) 1 Try.underlying22 info5 rfl .i64 .i64 len (by omega) (by omega) W
  go_enter Try.func3, Try.ntmps3
  go_wp2_with fail
  refine (bytes4 a0 a1 _ len cap _ (by omega)).mono ?_
  rintro e w1 ⟨rfl, rfl⟩
  rw [show decide (len ≤ 1048576) = true from by simpa using hl]
  go_wp2_with fail
  refine (well5 b o len cap zs _ hz hl hc).mono ?_
  rintro e w2 ⟨rfl, h⟩
  rcases h with ⟨hw, rfl⟩ | rfl
  case inr =>
    go_wp2
    go_ret
    exact ⟨rfl, Below.refl _ _⟩
  have hpos : 0 < len := by have := digs_le zs; have := hw.2.1; omega
  obtain ⟨w3, hcp, hb3, hc3, hz3⟩ := copied _ b o len cap zs hz (hbw hpos) hc
  go_wp2_with fail
  refine (num6 a0 a1 _ len len _ _).mono ?_
  rintro e w4 ⟨rfl, hb4⟩
  have hc4 := hc3.kept hb4 hz3
  have hz4 := Nat.lt_of_lt_of_le hz3 hb4.size
  have HB4 : Hid (Below w2.heap.size w2 w4) := hb3.trans (hb4.mono hb3.size)
  clear hcp hb3 hc3 hz3 hb4 hmk hneq hc
  go_wp2_with fail
  have hb5 := ((Below.refl w4.heap.size w4).alloc (Nat.le_refl _) (cells7 a0 a1 (.slice (some ⟨w2.heap.size, 0, none⟩) len len)))
  refine (num6 (!a0) a1 _ len len _ _).mono ?_
  rintro e w6 ⟨rfl, hb6⟩
  have hs4 := Seven.new w4 a0 a1 (.slice (some ⟨w2.heap.size, 0, none⟩) len len)
  have hlt4 : w4.heap.size < (w4.alloc (cells7 a0 a1 (.slice (some ⟨w2.heap.size, 0, none⟩) len len))).heap.size := by simp
  have hs6 := hs4.kept hb6 hlt4
  have hz6 := Nat.lt_of_lt_of_le hlt4 hb6.size
  have hb46 : Below w4.heap.size w4 w6 := hb5.trans (hb6.mono (Nat.le_of_lt hlt4))
  have hc6 := hc4.kept hb46 hz4
  have hb7 := ((Below.refl w6.heap.size w6).alloc (Nat.le_refl _) (cells7 (!a0) a1 (.slice (some ⟨w2.heap.size, 0, none⟩) len len)))
  have hs7 := Seven.new w6 (!a0) a1 (.slice (some ⟨w2.heap.size, 0, none⟩) len len)
  have hlt7 : w6.heap.size < (w6.alloc (cells7 (!a0) a1 (.slice (some ⟨w2.heap.size, 0, none⟩) len len))).heap.size := by simp
  obtain ⟨x0, x1, x2, x3, x4, x5, x6⟩ := hs6
  have hm : len ≤ maxLen := by unfold maxLen; omega
  have HC : Hid (Bytes w6 w2.heap.size 0 zs) := hc6
  have HB6 : Hid (Below w4.heap.size w4 w6) := hb46
  clear hb5 hb6 hs4 hlt4 hc4 hc6 hb46
  go_wp2_with fail
  have hc7 := HC.out.kept hb7 (Nat.lt_trans hz4 hz6)
  refine (clamp7 a0 a1 _ 0 len len zs _ hz hl (Nat.le_refl _) hm (Nat.lt_trans (Nat.lt_trans hz4 hz6) hlt7) hc7 hw).mono ?_
  rintro e w8 ⟨hb8, h8⟩
  have hs8 := hs7.kept hb8 hlt7
  obtain ⟨y0, y1, y2, y3, y4, y5, y6⟩ := hs8
  have HB8 : Hid (Below w6.heap.size w6 w8) := hb7.trans (hb8.mono (Nat.le_of_lt hlt7))
  have hz8 := Nat.lt_of_lt_of_le hlt7 hb8.size
  clear hb7 hb8 hs7 hlt7 hc7 x0 x1 x2 x3 x4 x5 x6
  have HC8 : Hid (Bytes w8 w2.heap.size 0 zs) := HC.out.kept HB8.out (Nat.lt_trans hz4 hz6)
  have HW : Hid (Well zs) := hw
  have m1 : (minI == 9223372036854775807) = false := by decide
  have m2 : (minI == -9223372036854775808) = true := by decide
  have m3 : (maxI == 9223372036854775807) = true := by decide
  have m4 : (maxI == -9223372036854775808) = false := by decide
  rcases h8 with ⟨g8, rfl⟩ | ⟨g8, rfl⟩
  all_goals
    have G8 : Hid _ := g8
    clear g8 hw
    go_wp2_with fail
    refine (clamp7 (!a0) a1 _ 0 len len zs _ hz hl (Nat.le_refl _) hm (Nat.lt_trans (Nat.lt_trans hz4 hz6) hz8) HC8.out HW.out).mono ?_
    rintro e w9 ⟨hb9, h9⟩
    have HC9 : Hid (Bytes w9 w2.heap.size 0 zs) := HC8.out.kept hb9 (Nat.lt_trans (Nat.lt_trans hz4 hz6) hz8)
    have HB9 : Hid (Below w8.heap.size w8 w9) := hb9
    clear hb9
    rcases h9 with ⟨g9, rfl⟩ | ⟨g9, rfl⟩
    all_goals
      have G9 : Hid _ := g9
      clear g9
      go_wp2_with fail
      refine (nonzero8 _ 0 len len zs _ hz hl HC9.out).mono ?_
      rintro e w10 ⟨rfl, hn⟩
      have HBB : Hid (Below w2.heap.size w2 w10) := by
        have t6 := HB4.out.trans (HB6.out.mono HB4.out.size)
        have t8 := t6.trans (HB8.out.mono t6.size)
        exact t8.trans (HB9.out.mono t8.size)
      rcases hn with ⟨n1, rfl⟩ | ⟨n1, rfl⟩
      all_goals
        have q1 := G8.out
        have q2 := G9.out
        clear G8 G9 HC9 HC8 HC HB4 HB6 HB8 HB9
        cases a0
        all_goals first
          | (exfalso; simp [n1] at q1 q2; done)
          | (clear q1 q2 n1; go_wp2; go_ret; exact ⟨rfl, HBB.out⟩)

theorem walk3nil (a0 : Bool) (a1 : Int) (a : Option Addr) (cap : Nat) (w : World) :
    Calls Try.prog 3 #[.bool a0, .int .i32 a1, .slice a 0 cap] w fun e w' => e = .returned (.bool true) ∧ Below w.heap.size w w' := by
  go_enter Try.func3, Try.ntmps3
  go_wp2_with fail
  refine (bytes4 a0 a1 a 0 cap _ (Nat.zero_le _)).mono ?_
  rintro e w1 ⟨rfl, rfl⟩
  rw [show decide (0 ≤ 1048576) = true from by decide]
  go_wp2_with fail
  refine (well5nil a cap _).mono ?_
  rintro e w2 ⟨rfl, rfl⟩
  go_wp2
  go_ret
  exact ⟨rfl, Below.refl _ _⟩

end Go.Proofs.Qxb6614817a.A
