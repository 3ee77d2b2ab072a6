import Derived.Test.Qxb6614647aDoorDays
import Derived.Test.Qxb6614647aDoorT
import Derived.Test.Qxb6614647aDoorCiv
namespace Go.Proofs.Qxb6614647aDoor.Laws
open Go.RowKit Plain T Civ
theorem hide {p : Prop} (h : p) : Hid p := h
theorem unhide {p : Prop} (h : Hid p) : p := h.out
set_option linter.unusedVariables false

theorem keep {W w1 : World} (hb : Below W.heap.size W w1) (hw : 0 < W.heap.size) (hc : ∀ i, i < 12 → W.cell? ⟨0, i, none⟩ = some (.int .i64 (tab (i + 1)))) :
    (∀ i, i < 12 → w1.cell? ⟨0, i, none⟩ = some (.int .i64 (tab (i + 1)))) ∧ 0 < w1.heap.size :=
  ⟨fun i hi => by rw [hb.cell (p := ⟨0, i, none⟩) hw]; exact hc i hi, by have := hb.size; omega⟩

set_option maxHeartbeats 1000000 in
theorem walk3core (s : Int) (n : Nat) (w : World) (h0 : 0 ≤ s) (h1 : s ≤ 4294967295) (hn : s / 86400 = (n : Int)) (hb : n ≤ 49710)
    (hc : ∀ i, i < 12 → w.cell? ⟨0, i, none⟩ = some (.int .i64 (tab (i + 1)))) (hw : 0 < w.heap.size) :
    Calls Tryd.prog 3 #[.int .u32 s] w fun e w' => e = .returned (.bool true) ∧ Below w.heap.size w w' := by
  obtain ⟨f1, f2, f3, f4, f5, f6, f7, f8⟩ := facts n hb
  have HC := hide hc
  clear hc
  go_enter Tryd.func3, Tryd.ntmps3
  go_wp2_with fail
  refine (inst s _).mono ?_
  rintro e w1 ⟨rfl, hb1⟩
  have HC1 := hide (keep hb1 hw (unhide HC)).1
  have hw1 := (keep hb1 hw (unhide HC)).2
  have HB1 := hide hb1
  clear hb1
  go_wp2_with fail
  refine (iday s _ h0 h1).mono ?_
  rintro e w2 ⟨rfl, hb2⟩
  have HC2 := hide (keep hb2 hw1 (unhide HC1)).1
  have hw2 := (keep hb2 hw1 (unhide HC1)).2
  have HB2 := hide hb2
  clear hb2
  go_wp2_with fail
  refine (date7 n _ hb (unhide HC2) hw2 f6).mono ?_
  rintro e w3 ⟨rfl, hb3⟩
  have HB3 := hide hb3
  clear hb3
  go_wp2_with fail
  refine (civ8 n _ hb f1 f2).mono ?_
  rintro e w4 ⟨rfl, rfl⟩
  go_wp2_with fail
  go_ret
  refine ⟨rfl, ?_⟩
  exact ((unhide HB1).trans ((unhide HB2).mono (unhide HB1).size)).trans ((unhide HB3).mono (Nat.le_trans (unhide HB1).size (unhide HB2).size))

end Go.Proofs.Qxb6614647aDoor.Laws
