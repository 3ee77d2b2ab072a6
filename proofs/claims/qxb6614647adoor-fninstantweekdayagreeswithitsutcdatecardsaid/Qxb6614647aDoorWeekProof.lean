import Derived.Test.Qxb6614647aDoorRows
import Derived.Test.Qxb6614647aDoorCards
import Derived.Test.Qxb6614647aDoorTie
import Derived.Test.Qxb6614647aDoorLaws2
import Derived.ProofKit
import Derived.LaidMore
import Derived.Lib.LaidTab
import Derived.OpenShut
import Derived.Stop.Joined
import Derived.SevenTiedAt
namespace Go.Proofs.Qxb6614647aDoor.WeekProof
open Go.ChangeShapes Go.WideShapes Go.ChangeAt Go.RowKit
set_option linter.unusedVariables false

theorem own : ownKnob Tryd.prog.godebug = none := by kernel_rfl
theorem laidOut : laidOutB Tryd.prog = true := by kernel_rfl
/-- the listed variable's name, off the given row -/
abbrev nm : String := Rows.fnInstantWeekdayAgreesWithItsUTCDateRow.named.headD default
theorem gTab : Tryd.prog.globalNamed nm = some 0 := by kernel_rfl
theorem tTab : (Tryd.prog.globals[0]?).map (·.type) = some 41 := by kernel_rfl
theorem cells41 : Tryd.prog.cellsOf 41 = 12 := by kernel_rfl
theorem cells3 : Tryd.prog.cellsOf 3 = 1 := by kernel_rfl

def zs : List Int := [0, 31, 59, 90, 120, 151, 181, 212, 243, 273, 304, 334]
def cells : Array Value := #[.int .i64 0, .int .i64 31, .int .i64 59, .int .i64 90, .int .i64 120, .int .i64 151, .int .i64 181, .int .i64 212, .int .i64 243, .int .i64 273, .int .i64 304, .int .i64 334]
abbrev laid1 : List (String × DataW Unit) := [(nm, Rows.laid_example_com_chronokey_chronokey_daysBeforeMonth)]

theorem door_met (os : Os) (args : Array Value) : laidMetH Tryd.prog laid1 ((World.doorLaid Tryd.prog 400 os).forCall (fun _ _ => 0) ⟨#[], args, []⟩).memory :=
  laidMetH_of_parts3 (fuel := 8) (laidMet_of_run' 8 (by kernel_rfl) (by kernel_rfl)) (by kernel_rfl) (by kernel_rfl)

theorem of_laid {W : World} (h : laidMetH Tryd.prog laid1 W) : W.var? Tryd.prog nm = some cells := by
  rw [MakeChecks.laidMetH_plain _ _ _ (by kernel_rfl)] at h
  exact Lib.tabIs_of_head (zs := zs) (rest := []) gTab tTab Tryd.underlying41 Tryd.underlying3 cells3 cells41 h

theorem tab_cell {W : World} (hv : W.var? Tryd.prog nm = some cells) :
    ∀ i, i < 12 → W.cell? ⟨0, i, none⟩ = some (.int .i64 (Plain.tab (i + 1))) := by
  intro i hi
  have h := World.var?_cell gTab hv i
  rw [h]
  match i, hi with
  | 0, _ | 1, _ | 2, _ | 3, _ | 4, _ | 5, _ | 6, _ | 7, _ | 8, _ | 9, _ | 10, _ | 11, _ => rfl

theorem reads_table {H : Type} (enc : TypeId × Value → H) (W : World) (sp : Nat → Bool) : DataW.trod enc Tryd.prog W 0 sp true 3 41 cells.toList = some (Rows.laid_example_com_chronokey_chronokey_daysBeforeMonth, []) := by kernel_rfl

set_option maxRecDepth 100000 in
theorem lifted (os : Os) (started : os.Started) (H : Type) (enc : TypeId × Value → H) :
    ReturnsInHanded {} Tryd.checked os 4 .any (fun w args => (Rows.fnInstantWeekdayAgreesWithItsUTCDateSpec.pre enc Tryd.prog Tryd.f4 [] false w args ∧ laidMetH Tryd.prog laid1 w) ∧ sizedMet enc Tryd.prog Tryd.f4 (OpenSpec.ofChange Rows.fnInstantWeekdayAgreesWithItsUTCDateSpec) false w args)
      (Rows.fnInstantWeekdayAgreesWithItsUTCDateSpec.post enc Tryd.prog Tryd.f4 false true false false) := by
  refine returnsInHanded_of_change_and (C := Tryd.checked) (X := fun w _ => laidMetH Tryd.prog laid1 w) (fun _ _ _ hh h => h.of_heap hh) own started (by kernel_rfl) Tryd.func4
    (ChangeSpec.witness_shaped (enc := enc) (C := Tryd.checked) (os := os) (X := fun w _ => laidMetH Tryd.prog laid1 w) false (World.doorLaid Tryd.prog 400 os) #[.int .u32 0] 8 rfl (World.shaped_of_RefB (by kernel_rfl) (by kernel_rfl)) (by kernel_rfl) (by kernel_rfl) (by kernel_rfl) (door_met os _)) ?_
  intro W base args ds gs before hval0 hW _ _ hL _
  have hval : ∀ (j : Nat) t v, Tryd.f4.params[j]? = some t → args[j]? = some v → Value.okWide Tryd.prog W .any base t v := hval0
  have hW' := hW
  obtain ⟨p, q, hA0, hV0, rfl, hfz, hnd⟩ := hW
  have hA : DataW.TrodAll enc Tryd.prog W 0 (fun _ => true) true Tryd.f4.params.toList args.toList ds p := hA0
  have hV : DataW.TrodVars enc Tryd.prog W (fun _ => true) [nm] gs q := hV0
  rw [Tryd.params4] at hA hval
  obtain ⟨v0, d0, rfl, rfl, h0⟩ := trodAll_one hA
  obtain ⟨a0, rfl, rfl, rfl, w0⟩ := open_int Tryd.underlying22 (hval 0 22 v0 rfl rfl) h0
  obtain ⟨g, t, cs, fuel, d, p', rfl, hg, ht, hvar, hd, rfl⟩ := trodVars_one hV
  obtain rfl := Option.some.inj (gTab.symm.trans hg)
  obtain rfl := Option.some.inj (tTab.symm.trans ht)
  obtain rfl : cs = cells := Option.some.inj (hvar.symm.trans (of_laid hL))
  obtain ⟨rfl, rfl⟩ := DataW.Trod.unique (v := .agg cells) ⟨fuel, hd⟩ ⟨3, reads_table enc W _⟩
  clear hA0 hV0 hval0
  obtain ⟨l0, u0⟩ := bounds_u32 w0
  have hc := tab_cell hvar
  have hw : 0 < W.heap.size := by
    have := hc 0 (by omega)
    rcases Nat.eq_zero_or_pos W.heap.size with h | h
    · simp [World.cell?, Array.eq_empty_of_size_eq_zero h] at this
    · exact h
  refine (Laws.walk4core a0 (a0 / 86400).toNat W l0 u0 (by omega) (by omega) hc hw).mono fun e W' ⟨he, bel⟩ => ?_
  subst he
  have hvars : ∀ sp : Nat → Bool, DataW.TrodVars enc Tryd.prog W' sp [nm] [Rows.laid_example_com_chronokey_chronokey_daysBeforeMonth] (MemPlace.row ⟨0, 0, none⟩ cells.size ++ [] ++ []) := fun sp =>
    ⟨0, 41, cells, 3, [], [], gTab, tTab, var?_below bel gTab hw hvar, reads_table enc W' sp, rfl, rfl⟩
  exact ⟨_, rfl, _, _, _, [], [], MemPlace.row ⟨0, 0, none⟩ cells.size ++ [] ++ [], hW', trodAll_mk1 (shut_bool Tryd.underlying4 true), trodAll_mk1 (shut_int Tryd.underlying22 w0), hvars _, bel.frame _, fun h => by cases h⟩

theorem over : Rows.FnInstantWeekdayAgreesWithItsUTCDateSaid :=
  OpenClaim.holds_of_wide 4 Tryd.f4 rfl rfl rfl rfl rfl rfl rfl ⟨rfl, rfl, rfl, rfl, rfl⟩ rfl rfl rfl rfl rfl (by kernel_rfl) Tryd.func4 (by kernel_rfl)
    (of_decide_eq_true (by kernel_rfl)) (by unfold Func.isWrapper; first | (rw [if_pos (by decide +kernel)]; kernel_rfl) | (rw [if_neg (by decide +kernel)]; exact ⟨rfl, rfl⟩))
    (fun os started H enc _ => lifted os started H enc)

theorem proved : Rows.FnInstantWeekdayAgreesWithItsUTCDateCardSaid :=
  Claim7.holds_tied_plain_at .later [] [.data] true (true, "1e67b081efef37fa8495c25e821bbc057b3f5513e3f7474046f7a45448fe5f54") false
    over (fun _ h => by cases h) (by kernel_rfl) (fun _ h => by cases h) fnInstantWeekdayAgreesWithItsUTCDate_row_tie rfl ⟨rfl, rfl⟩ (by kernel_rfl) rfl
    (fun f fn hf hfn => by
      obtain rfl : f = 4 := Option.some.inj ((show Tryd.prog.funcNamed Rows.fnInstantWeekdayAgreesWithItsUTCDateRow.func = some 4 by kernel_rfl).symm.trans hf) |>.symm
      obtain rfl : fn = Tryd.f4 := (Option.some.inj (Tryd.func4.symm.trans hfn)).symm
      exact ⟨by kernel_rfl, fun j t ht => by
        rw [Tryd.params4] at ht
        have hm : t ∈ [22] := by simpa using Array.mem_of_getElem? ht
        have hall : ([22].all fun u => !Tryd.prog.wantsStandIn u) = true := by kernel_rfl
        exact (show Tryd.prog.wantsStandIn t = false by simpa using List.all_eq_true.1 hall t hm)⟩)
    (by kernel_rfl)
end Go.Proofs.Qxb6614647aDoor.WeekProof
