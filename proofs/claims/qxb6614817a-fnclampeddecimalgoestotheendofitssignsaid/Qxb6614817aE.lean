import Derived.Test.Qxb6614817aD
namespace Go.Proofs.Qxb6614817a.A
open Go.RowKit
set_option linter.unusedVariables false

theorem run_store_float (P : Program) (w : World) (a : Addr) (k : FloatKind) (x : Nat) (m : Mode) : (store a (.float k x) m).run P w = stored P w a (.float k x) m := run_store P w a _ m rfl
attribute [local go_sem] run_store_float

/-- a value of the package's 'Value' as 'ZZnumberValue' builds it -/
abbrev val (s : ByteArray) (neg : Bool) (hid : Int) (sl : Value) : Value :=
  .agg #[.string s, .int .i64 0, .bool neg, .int .i32 hid, sl, .slice none 0 0, .float .f64 0]

set_option maxHeartbeats 1000000 in
theorem num6 (neg : Bool) (hid : Int) (a : Option Addr) (len cap : Nat) (w : World) (s : ByteArray) :
    Calls Try.prog 6 #[.string s, .int .i64 0, .bool neg, .int .i32 hid, .slice a len cap] w fun e w' => e = .returned (val s neg hid (.slice a len cap)) ∧ Below w.heap.size w w' := by
  go_enter Try.func6, Try.ntmps6
  go_wp2
  exact bodyPost_ret (v := val s neg hid (.slice a len cap)) (by simp [results, Try.results6, go_sem]) rfl ⟨rfl, (Below.refl _ _).alloc (Nat.le_refl _) _⟩

def minI : Int := -9223372036854775808
def maxI : Int := 9223372036854775807
/-- where a decimal goes: to the end of its sign -/
def Goes (zs : List Int) (neg : Bool) (e : Ending) : Prop :=
  ((nz zs ∧ neg = true) ∧ e = .returned (.int .i64 minI)) ∨ (¬ (nz zs ∧ neg = true) ∧ e = .returned (.int .i64 maxI))

set_option maxHeartbeats 1000000 in
theorem clamp9 (neg : Bool) (hid : Int) (b o len cap : Nat) (zs : List Int) (w : World) (hz : zs.length = len) (hl : len ≤ 1048576) (hcap : len ≤ cap) (hcm : cap ≤ maxLen) (hbw : b < w.heap.size) (hc : Bytes w b o zs) (hw : Well zs) :
    Calls Try.prog 9 #[val ⟨#[100, 101, 99, 105, 109, 97, 108]⟩ neg hid (.slice (some ⟨b, o, none⟩) len cap)] w fun e w' => Below w.heap.size w w' ∧ Goes zs neg e := by
  go_enter Try.func9, Try.ntmps9
  go_wp2_with fail
  have hb0 := ((Below.refl w.heap.size w).alloc (Nat.le_refl _) (.cells #[.string ⟨#[100, 101, 99, 105, 109, 97, 108]⟩, .int .i64 0, .bool neg, .int .i32 hid, .slice (some ⟨b, o, none⟩) len cap, .slice none 0 0, .float .f64 0] 30))
  refine (sign10 neg hid b o len cap zs _ hz hl hcap hcm (by simp; omega) (hc.kept hb0 hbw) hw).mono ?_
  rintro e w1 ⟨hb1, h⟩
  have HB : Hid (Below w.heap.size w w1) := hb0.trans (hb1.mono (by simp))
  clear hb0 hb1 hc hw
  rcases h with ⟨hn, rfl⟩ | ⟨hn, rfl⟩
  · have HN : Hid (nz zs) := hn
    clear hn
    cases neg
    · go_wp2
      go_ret
      exact ⟨HB.out, .inr ⟨fun h => (by cases h.2), rfl⟩⟩
    · go_wp2
      go_ret
      exact ⟨HB.out, .inl ⟨⟨HN.out, rfl⟩, rfl⟩⟩
  · have HN : Hid (¬ nz zs) := hn
    clear hn
    go_wp2
    go_ret
    exact ⟨HB.out, .inr ⟨fun h => HN.out h.1, rfl⟩⟩

set_option maxHeartbeats 1000000 in
theorem clamp7 (neg : Bool) (hid : Int) (b o len cap : Nat) (zs : List Int) (w : World) (hz : zs.length = len) (hl : len ≤ 1048576) (hcap : len ≤ cap) (hcm : cap ≤ maxLen) (hbw : b < w.heap.size) (hc : Bytes w b o zs) (hw : Well zs) :
    Calls Try.prog 7 #[val ⟨#[100, 101, 99, 105, 109, 97, 108]⟩ neg hid (.slice (some ⟨b, o, none⟩) len cap)] w fun e w' => Below w.heap.size w w' ∧ Goes zs neg e := by
  go_enter Try.func7, Try.ntmps7
  go_wp2_with fail
  have hb0 := ((Below.refl w.heap.size w).alloc (Nat.le_refl _) (.cells #[.string ⟨#[100, 101, 99, 105, 109, 97, 108]⟩, .int .i64 0, .bool neg, .int .i32 hid, .slice (some ⟨b, o, none⟩) len cap, .slice none 0 0, .float .f64 0] 30))
  refine (clamp9 neg hid b o len cap zs _ hz hl hcap hcm (by simp; omega) (hc.kept hb0 hbw) hw).mono ?_
  rintro e w1 ⟨hb1, h⟩
  have HB : Hid (Below w.heap.size w w1) := hb0.trans (hb1.mono (by simp))
  clear hb0 hb1 hc hw
  rcases h with ⟨hn, rfl⟩ | ⟨hn, rfl⟩
  · have HN : Hid (nz zs ∧ neg = true) := hn
    clear hn
    go_wp2
    go_ret
    exact ⟨HB.out, .inl ⟨HN.out, rfl⟩⟩
  · have HN : Hid (¬ (nz zs ∧ neg = true)) := hn
    clear hn
    go_wp2
    go_ret
    exact ⟨HB.out, .inr ⟨HN.out, rfl⟩⟩
end Go.Proofs.Qxb6614817a.A
