import Derived.Test.Qxb6613757aParB
import Derived.Deep.LoopGhost
/-
  rooted.
-/
namespace Go.Proofs.Qxb6613757a.T
open Go.RowKit Go.Shelf
set_option linter.unusedVariables false
set_option linter.unusedSimpArgs false

/-- the tree under a root, with its leaves -/
def TreeIs (w : World) (root : Option Addr) (L : List (List Int)) : Prop := (root = none ∧ L = []) ∨ ∃ (h : Nat) (r : Rec), KidRec w (h + 1) r L ∧ root = r.node
theorem TreeIs.k2 {w w' : World} {root : Option Addr} {L : List (List Int)} (h : TreeIs w root L) (k : K2 w w') : TreeIs w' root L := by
  rcases h with h | ⟨h, r, hk, e⟩
  · exact .inl h
  · exact .inr ⟨h, r, hk.k2 k, e⟩

def ups (Ls : List (List (List Int))) (k : Nat) : List (List (List Int)) := (List.range k).map fun j => (piece Ls k j).flatten
theorem ups_lv {Ls : List (List (List Int))} {k i : Nat} (h : i < k) : lv (ups Ls k) i = (piece Ls k i).flatten := by simp [lv, ups, h]
theorem ups_length {Ls : List (List (List Int))} {k : Nat} : (ups Ls k).length = k := by simp [ups]
theorem ups_flat {Ls : List (List (List Int))} {k : Nat} (hk : 0 < k) : (ups Ls k).flatten = Ls.flatten := by
  have h := pieces_flat Ls hk k (Nat.le_refl _)
  rw [cutAt_end _ _ hk, List.take_of_length_le (Nat.le_refl _)] at h
  have e : ups Ls k = ((List.range k).map (piece Ls k)).map List.flatten := by simp [ups]
  rw [e, ← List.flatten_flatten, h]
theorem kids_ups {w : World} {h k : Nat} {ps : List Rec} {Ls : List (List (List Int))} (hl : ps.length = k) (hk : ∀ i, i < k → KidRec w h (rc ps i) (piece Ls k i).flatten) : Kids w h ps (ups Ls k) :=
  ⟨by rw [hl, ups_length], fun i hi => by rw [ups_lv (by omega)]; exact hk i (by omega)⟩

def R1 (w : World) (g cap : Nat) (L0 : List (List Int)) (gk : Nat) (s0 : Value) (wr : World) : Prop :=
  ∃ (c h : Nat) (rs : List Rec) (Ls : List (List (List Int))), s0 = .slice (some ⟨g, 0, none⟩) c cap ∧ 1 ≤ c ∧ c ≤ 1048576 ∧ rs.length = c ∧ wr.ownsRow 0 81 5 (.slice (some ⟨g, 0, none⟩) c cap) c (recCells rs) ∧ Kids wr h rs Ls ∧ Ls.flatten = L0 ∧ w.grownBy wr (some g) ∧ 2 * c + (if h = 0 then 1 else 0) ≤ gk

def R2 (w1 : World) (L0 : List (List Int)) (gk : Nat) (s3 : Value) (wr : World) : Prop := wr = w1 ∧ ∃ (nb h : Nat) (r : Rec), s3 = .pointer (some ⟨nb, 0, none⟩) ∧ r.node = some ⟨nb, 0, none⟩ ∧ KidRec wr (h + 1) r L0 ∧ h ≤ gk

theorem slice63_0 (g n cap : Nat) (w : World) : (Instr.slice 63 (.slice (some ⟨g, 0, none⟩) n cap) none (some (.int .i64 0)) none).run Try.prog w = .ok (.slice (some ⟨g, 0, none⟩) 0 cap) w := by
  rw [run_slice_h w 63 (some ⟨g, 0, none⟩) n cap und63 .i64 0 (by omega) (by omega), elem63, run_size81]
  simp [sliced, Result.andThen, add0]

set_option maxRecDepth 100000 in
set_option maxHeartbeats 2000000 in
theorem root36 (g c cap h : Nat) (rs : List Rec) (Ls : List (List (List Int))) (w : World) (hl : rs.length = c) (h1 : 1 ≤ c) (hc : c ≤ 1048576) (hrow : w.ownsRow 0 81 5 (.slice (some ⟨g, 0, none⟩) c cap) c (recCells rs)) (hkids : Kids w h rs Ls) (hM : (ents Ls).length ≤ 1048576) :
    Calls Try.prog 36 #[.slice (some ⟨g, 0, none⟩) c cap] w fun e w' => w.grownBy w' (some g) ∧ ∃ root, e = .returned (.pointer root) ∧ TreeIs w' root Ls.flatten := by
  obtain ⟨L0, hL0⟩ : ∃ L0, Ls.flatten = L0 := ⟨_, rfl⟩
  have hM0 : L0.flatten.length ≤ 1048576 := by rw [← hL0]; exact hM
  have hr1 : Hid (R1 w g cap L0 (2 * c + 1) (.slice (some ⟨g, 0, none⟩) c cap) w) := ⟨c, h, rs, Ls, rfl, h1, hc, hl, hrow, hkids, hL0, World.grownBy.refl _ _, by split <;> omega⟩
  have hne : ((c : Int) == 0) = false := by simp; omega
  go_enter Try.func36, Try.ntmps36
  rw [hL0]
  clear hrow hkids hM hL0
  go_wp2
  go_loopg [0] (2 * c + 1) (fun gk s0 wr => R1 w g cap L0 gk s0 wr)
  case atStart => exact hr1.out
  case round =>
    obtain ⟨c', h', rs', Ls', rfl, h1', hc', hl', hrow', hkids', hL', hg', hgk⟩ := hrel
    have cc := recs_own hrow' hl' 0 c' (by omega) 0 (by simp; omega)
    have hcell : wr.cell? ⟨g, 3, none⟩ = some (.pointer (rc rs' 0).node) := by
      have := cc.2.2.2.1
      rw [rc_take (by omega), rc_drop] at this
      simpa using this
    have hleaf := (hkids'.2 0 (by omega)).leafy
    have hM' : (ents Ls').length ≤ 1048576 := by unfold ents; rw [hL']; exact hM0
    have hgl : g < wr.heap.size := by
      obtain ⟨cur, hcu⟩ := own_type hrow' g rfl
      exact (Array.getElem?_eq_some_iff.1 hcu).1
    have hsl := slice63_0 g c' cap
    have hcapc := (own_shape81 hrow').1
    have hpar : Hid (Calls Try.prog 43 #[.slice (some ⟨g, 0, none⟩) 0 cap, .slice (some ⟨g, 0, none⟩) c' cap] wr fun e w' => R1 w g cap L0 (2 * npc c' 16) (match e with | .returned v => v | _ => undef) w' ∧ ∃ v, e = .returned v ∧ ∃ k, v = .slice (some ⟨g, 0, none⟩) k cap) := by
      have := callsIn_wide.1 (parentsA g 0 c' cap cap h' (some ⟨g, 0, none⟩) [] rs' Ls' wr rfl hl' (fun _ => rfl) hcapc hc' (by simpa using hrow') hkids' hM')
      refine this.mono ?_
      rintro e w2 ⟨hg2, ps, rfl, hpl, hrow2, hk2⟩
      have hk0 := npc_pos (n := c') (most := 16) (by omega) h1'
      have hkle := npc_le (n := c') (most := 16) (by omega)
      refine ⟨⟨npc c' 16, h' + 1, ps, ups Ls' (npc c' 16), by simp, hk0, by omega, hpl, by simpa using hrow2, kids_ups hpl (fun i hi => (hk2 i hi).1), by rw [ups_flat hk0, hL'], ?_, by simp⟩, _, rfl, npc c' 16, by simp⟩
      refine ⟨hg2.os.trans hg'.os, hg2.tape.trans hg'.tape, hg2.output.trans hg'.output, Nat.le_trans hg'.size hg2.size, fun j hj hjr => ?_⟩
      rw [hg2.block j (Nat.lt_of_lt_of_le hj hg'.size) hjr]; exact hg'.block j hj hjr
    have hlt : c' > 1 → npc c' 16 < c' := fun h => by unfold npc; omega
    have hone : c' = 1 → npc c' 16 = 1 := fun h => by rw [h]; rfl
    have HK := hide hkids'
    have HR := hide hrow'
    have HG := hide hg'
    have HLT := hide hlt
    have HONE := hide hone
    have HLF := hide hleaf
    have HGK := hide hgk
    have HL' := hide hL'
    clear hkids' hrow' hg' hr1 hlt hone cc hleaf hgk hL'
    by_cases hbig : 1 < c'
    · go_wp2_with (go_at_call 43; refine hpar.out.mono ?_; rintro e w2 ⟨hR, v, rfl, k, rfl⟩; have HR2 := hide hR; clear hR)
      go_roundg (2 * npc c' 16)
      case rel => exact HR2.out
      case measure => have := HLT.out hbig; have := HGK.out; omega
    · obtain rfl : c' = 1 := by omega
      have hN1 := HONE.out rfl
      have HN1 := hide hN1
      clear hN1
      cases h' with
      | zero =>
        have hnode : (rc rs' 0).node = none := by
          have := HLF.out
          simpa using this
        rw [hnode] at hcell
        go_wp2_with (go_at_call 43; refine hpar.out.mono ?_; rintro e w2 ⟨hR, v, rfl, k, rfl⟩; have HR2 := hide hR; clear hR)
        go_roundg (2 * npc 1 16)
        case rel => exact HR2.out
        case measure => have := HGK.out; have := HN1.out; simp at *; omega
      | succ h2 =>
        have hkid := HK.out.2 0 (by omega)
        have hLs : lv Ls' 0 = L0 := by
          have hll : Ls'.length = 1 := by rw [← HK.out.1]; omega
          rw [← HL'.out]
          match Ls', hll with
          | [L], _ => simp [lv]
        rw [hLs] at hkid
        have hkid' := hkid
        obtain ⟨nb, m, _, _, hnode, hrest⟩ := hkid'
        clear hrest
        rw [hnode] at hcell
        have hR2 : Hid (R2 wr L0 h2 (.pointer (some ⟨nb, 0, none⟩)) wr) := ⟨rfl, nb, h2, _, rfl, hnode, hkid, Nat.le_refl _⟩
        clear hkid hnode
        obtain ⟨w1, hw1⟩ : ∃ w1, w1 = wr := ⟨_, rfl⟩
        rw [← hw1] at hR2 HG hcell hgl
        rw [← hw1]
        have hgr1 := HG
        clear hpar HK HR HL' hw1 HG
        go_wp2
        go_loopg [3] h2 (fun gk s3 wr => R2 w1 L0 gk s3 wr)
        case atStart => exact hR2.out
        case round =>
          obtain ⟨hwr, nb', h3, r3, rfl, hn3, hk3, hh3⟩ := hrel
          have hk3' := hk3
          obtain ⟨nb2, m, rs2, Ls2, hnode2, hrow2, hm1, hm2, hm3, hm4, hL2, hkk2, _, _⟩ := hk3'
          obtain rfl : nb' = nb2 := by rw [hn3] at hnode2; cases hnode2; rfl
          have c0 := hrow2.cell (i := 0) (by omega)
          have c1 := hrow2.cell (i := 1) (by omega)
          have c50 := hrow2.cell (i := 50) (by omega)
          rw [show nodeCell m (h3 == 0) rs2 m 0 = .int .i64 m from rfl] at c0
          rw [show nodeCell m (h3 == 0) rs2 m 1 = .bool (h3 == 0) from rfl] at c1
          have e50 : nodeCell m (h3 == 0) rs2 m 50 = .pointer (if 0 < m ∧ (h3 == 0) = false then (rc rs2 0).node else none) := rfl
          rw [e50] at c50
          have hnl := hrow2.lt
          have HT : Hid (w.grownBy wr (some g) ∧ TreeIs wr (some ⟨nb', 0, none⟩) L0) := ⟨by rw [hwr]; exact hgr1.out, .inr ⟨h3, r3, hk3, hn3.symm⟩⟩
          have HKK := hide hkk2
          have HL2 := hide hL2
          have HM2 := hide hm2
          have HWR := hide hwr
          have HRW := hide hrow2
          clear hk3 hn3 hnode2 hkk2 hL2 hm2 hwr hcell hm1 hrow2 e50
          cases h3 with
          | zero =>
            go_wp2
            go_ret
            exact ⟨HT.out.1, _, rfl, HT.out.2⟩
          | succ h4 =>
            have e1 : ((h4 + 1 == 0) : Bool) = false := rfl
            rw [e1] at c1 c50
            by_cases hmm : m = 1
            · subst hmm
              obtain ⟨nb3, m3, _, _, hnode3, hrest⟩ := HKK.out 0 (by omega)
              clear hrest
              have e3 : (if 0 < 1 ∧ false = false then (rc rs2 0).node else none) = some ⟨nb3, 0, none⟩ := by rw [if_pos ⟨by omega, rfl⟩]; exact hnode3
              rw [e3] at c50
              have hkid3 := HKK.out 0 (by omega)
              have hLs3 : lv Ls2 0 = L0 := by
                rw [HL2.out]
                match Ls2, HM2.out with
                | [L], _ => simp [lv]
              rw [hLs3] at hkid3
              have HK3 := hide hkid3
              have HN3 := hide hnode3
              clear hkid3 hnode3 e3
              go_wp2
              go_roundg h4
              case rel => exact ⟨HWR.out, nb3, h4, _, rfl, HN3.out, HK3.out, Nat.le_refl _⟩
              case measure => omega
            · have hmi : ((m : Int) == 1) = false := by simp; omega
              go_wp2
              go_ret
              exact ⟨HT.out.1, _, rfl, HT.out.2⟩

end Go.Proofs.Qxb6613757a.T
