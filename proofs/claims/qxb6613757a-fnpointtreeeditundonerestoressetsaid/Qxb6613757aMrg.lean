import Derived.Test.Qxb6613757aApp
import Derived.Test.Qxb6613757aV
import Derived.Deep.RegionHeldLaw
/-
  mergeEntries: the walk against the plain function 'mrg'.
-/
namespace Go.Proofs.Qxb6613757a.T
open Go.RowKit
set_option linter.unusedVariables false
set_option linter.unusedSimpArgs false

/-- how many elements lie below x -/
def lb (zs : List Int) (x : Int) : Nat := zs.countP fun y => decide (y < x)
theorem el_mem {zs : List Int} {j : Nat} (h : j < zs.length) : el zs j ∈ zs := mem_iff.2 ⟨j, h, rfl⟩
theorem cut_lb {zs : List Int} {x : Int} {i : Nat} (h : Cut zs x i) : lb zs x = i := by
  obtain ⟨h0, h1, h2⟩ := h
  unfold lb
  rw [← List.take_append_drop i zs, List.countP_append]
  have e1 : (zs.take i).countP (fun y => decide (y < x)) = i := by
    rw [List.countP_eq_length.2]
    · simp; omega
    · intro y hy
      obtain ⟨j, hj, rfl⟩ := mem_iff.1 hy
      simp at hj
      rw [el_take _ _ _ (by omega)]
      simpa using h1 j (by omega)
  have e2 : (zs.drop i).countP (fun y => decide (y < x)) = 0 := by
    rw [List.countP_eq_zero]
    intro y hy
    obtain ⟨j, hj, rfl⟩ := mem_iff.1 hy
    simp at hj
    rw [el_drop]
    simpa using h2 (i + j) (by omega) (by omega)
  rw [e1, e2, Nat.add_zero]
/-- 1 where x itself stands there -/
def fnd (zs : List Int) (x : Int) : Nat := if lb zs x < zs.length ∧ el zs (lb zs x) = x then 1 else 0

def mrg : Nat → List Int → List Int → List Int → List Int
  | 0, leaf, _, _ => leaf
  | f + 1, leaf, ds, xs =>
    if ds = [] ∧ xs = [] then leaf
    else if xs = [] ∨ (ds ≠ [] ∧ el ds 0 < el xs 0) then
      leaf.take (lb leaf (el ds 0)) ++ mrg f (leaf.drop (lb leaf (el ds 0) + fnd leaf (el ds 0))) (ds.drop 1) xs
    else leaf.take (lb leaf (el xs 0)) ++ el xs 0 :: mrg f (leaf.drop (lb leaf (el xs 0))) ds (xs.drop 1)

theorem mrg_del (f : Nat) (leaf ds xs : List Int) (h1 : ds ≠ []) (h2 : xs = [] ∨ el ds 0 < el xs 0) :
    mrg (f + 1) leaf ds xs = leaf.take (lb leaf (el ds 0)) ++ mrg f (leaf.drop (lb leaf (el ds 0) + fnd leaf (el ds 0))) (ds.drop 1) xs := by
  rw [mrg, if_neg (by simp [h1]), if_pos (by rcases h2 with h | h <;> simp [h, h1])]
theorem mrg_add (f : Nat) (leaf ds xs : List Int) (h1 : xs ≠ []) (h2 : ds = [] ∨ ¬ el ds 0 < el xs 0) :
    mrg (f + 1) leaf ds xs = leaf.take (lb leaf (el xs 0)) ++ el xs 0 :: mrg f (leaf.drop (lb leaf (el xs 0))) ds (xs.drop 1) := by
  rw [mrg, if_neg (by simp [h1]), if_neg (by rcases h2 with h | h <;> simp [h, h1])]
theorem mrg_nil (f : Nat) (leaf : List Int) : mrg f leaf [] [] = leaf := by cases f <;> simp [mrg]

/-- a slice value in memory that reads zs -/
def SlU (w : World) (v : Value) (zs : List Int) : Prop := ∃ a cap, v = .slice a zs.length cap ∧ zs.length ≤ cap ∧ Row w a zs

theorem slice_lc (a : Option Addr) (n cap : Nat) (h1 : 1 ≤ n) (w : World) :
    (Instr.slice 37 (.slice a n cap) (some (.int .i64 1)) none none).run Try.prog w = .ok (.slice (offA a cap 1) (n - 1) (cap - 1)) w := slice_l a n cap 1 h1 w

def lenOf : Value → Nat
  | .slice _ n _ => n
  | _ => 0

theorem own_drewN {w : World} {base : Nat} {v : Value} {zs : List Int} (h : OwnU w base v zs) (q : Nat) : OwnU (w.drewN q) base v zs := h
theorem row_drewN {w : World} {a : Option Addr} {zs : List Int} (h : Row w a zs) (q : Nat) : Row (w.drewN q) a zs := h

/-- what the loop of mergeEntries holds -/
def MrgRel (w : World) (zs ds xs : List Int) (s0 s1 s2 s7 : Value) (wr : World) : Prop :=
  Below w.heap.size w wr ∧ ∃ M zs' ds' xs' : List Int, SlU w s0 zs' ∧ SlU w s1 ds' ∧ SlU w s2 xs' ∧ OwnU wr w.heap.size s7 M ∧ Asc zs' ∧ Asc ds' ∧ Asc xs' ∧
    M.length + zs'.length + xs'.length ≤ zs.length + xs.length ∧ ds'.length ≤ ds.length ∧ xs'.length ≤ xs.length ∧
    M ++ mrg (ds'.length + xs'.length) zs' ds' xs' = mrg (ds.length + xs.length) zs ds xs

theorem i2_of {zs : List Int} {dv : Int} {i m0 : Nat} (hm : m0 = zs.length) (hcut : Cut zs dv i) :
    ∃ i2 : Nat, lb zs dv + fnd zs dv = i2 ∧ i ≤ i2 ∧ i2 ≤ m0 ∧ (if (decide (i < m0) && (el zs i == dv)) = true then i + 1 = i2 else i = i2) := by
  have hlb : lb zs dv = i := cut_lb hcut
  have hil := hcut.1
  subst hm
  by_cases hf : i < zs.length ∧ el zs i = dv
  · have h1 : fnd zs dv = 1 := by unfold fnd; rw [hlb, if_pos hf]
    exact ⟨i + 1, by rw [hlb, h1], by omega, by omega, by rw [if_pos (by simpa using hf)]⟩
  · have h1 : fnd zs dv = 0 := by unfold fnd; rw [hlb, if_neg hf]
    exact ⟨i, by rw [hlb, h1, Nat.add_zero], by omega, hil, by rw [if_neg (by simpa using hf)]⟩

/-- the loop's relation behind a round that removes -/
theorem mrgrel_del {w : World} {zs ds xs M zs' ds' xs' : List Int} {b0 b1 b2 : Option Addr} {m0 m1 m2 m7 e0 e1 e2 i i2 : Nat} (h0 : m0 = zs'.length) (h1 : m1 = ds'.length) (h2 : m2 = xs'.length) (h7 : m7 = M.length)
    (hle0 : m0 ≤ e0) (hle1 : m1 ≤ e1) (hle2 : m2 ≤ e2) (hr0 : Row w b0 zs') (hr1 : Row w b1 ds') (hr2 : Row w b2 xs') (haz : Asc zs') (had : Asc ds') (hax : Asc xs')
    (hlen : m7 + m0 + m2 ≤ zs.length + xs.length) (hld : m1 ≤ ds.length) (hlx : m2 ≤ xs.length) (heq : M ++ mrg (ds'.length + xs'.length) zs' ds' xs' = mrg (ds.length + xs.length) zs ds xs)
    (hp : 0 < m1) (hdx : m2 = 0 ∨ el ds' 0 < el xs' 0) (hi : lb zs' (el ds' 0) = i) (hi2 : lb zs' (el ds' 0) + fnd zs' (el ds' 0) = i2) (hii : i ≤ i2) (hil : i2 ≤ m0)
    (a' : Option Addr) (cap' : Nat) (w2 : World) (ho : OwnU w2 w.heap.size (.slice a' (m7 + i) cap') (M ++ zs'.take i)) (hb2 : Below w.heap.size w w2) :
    MrgRel w zs ds xs (.slice (offA b0 e0 i2) (m0 - i2) (e0 - i2)) (.slice (offA b1 e1 1) (m1 - 1) (e1 - 1)) (.slice b2 m2 e2) (.slice a' (m7 + i) cap') w2 := by
  have STEP : mrg (ds'.length + xs'.length) zs' ds' xs' = zs'.take i ++ mrg ((ds'.drop 1).length + xs'.length) (zs'.drop i2) (ds'.drop 1) xs' := by
    have e : ds'.length + xs'.length = ((ds'.drop 1).length + xs'.length) + 1 := by simp; omega
    rw [e, mrg_del _ _ _ _ (fun h => by rw [h] at h1; simp at h1; omega) (by
      rcases hdx with h | h
      · exact .inl (List.eq_nil_of_length_eq_zero (by omega))
      · exact .inr h), hi2, hi]
  refine ⟨hb2, M ++ zs'.take i, zs'.drop i2, ds'.drop 1, xs', ⟨_, _, by rw [List.length_drop, ← h0], by rw [List.length_drop]; omega, hr0.off e0 i2 (by omega)⟩,
    ⟨_, _, by rw [List.length_drop, ← h1], by rw [List.length_drop]; omega, hr1.off e1 1 (by omega)⟩, ⟨b2, e2, by rw [← h2], by omega, hr2⟩, ho, haz.drop i2, had.drop 1, hax, ?_, ?_, by omega, ?_⟩
  · simp only [List.length_append, List.length_take, List.length_drop]; omega
  · simp only [List.length_drop]; omega
  · rw [← heq, STEP, List.append_assoc]

/-- the loop's relation behind a round that adds -/
theorem mrgrel_add {w : World} {zs ds xs M zs' ds' xs' : List Int} {b0 b1 b2 : Option Addr} {m0 m1 m2 m7 e0 e1 e2 i : Nat} (h0 : m0 = zs'.length) (h1 : m1 = ds'.length) (h2 : m2 = xs'.length) (h7 : m7 = M.length)
    (hle0 : m0 ≤ e0) (hle1 : m1 ≤ e1) (hle2 : m2 ≤ e2) (hr0 : Row w b0 zs') (hr1 : Row w b1 ds') (hr2 : Row w b2 xs') (haz : Asc zs') (had : Asc ds') (hax : Asc xs')
    (hlen : m7 + m0 + m2 ≤ zs.length + xs.length) (hld : m1 ≤ ds.length) (hlx : m2 ≤ xs.length) (heq : M ++ mrg (ds'.length + xs'.length) zs' ds' xs' = mrg (ds.length + xs.length) zs ds xs)
    (hp : 0 < m2) (hdx : m1 = 0 ∨ ¬ el ds' 0 < el xs' 0) (hi : lb zs' (el xs' 0) = i) (hil : i ≤ m0)
    (a' : Option Addr) (cap' : Nat) (w2 : World) (ho : OwnU w2 w.heap.size (.slice a' (m7 + i + 1) cap') (M ++ zs'.take i ++ [el xs' 0])) (hb2 : Below w.heap.size w w2) :
    MrgRel w zs ds xs (.slice (offA b0 e0 i) (m0 - i) (e0 - i)) (.slice b1 m1 e1) (.slice (offA b2 e2 1) (m2 - 1) (e2 - 1)) (.slice a' (m7 + i + 1) cap') w2 := by
  have STEP : mrg (ds'.length + xs'.length) zs' ds' xs' = zs'.take i ++ el xs' 0 :: mrg (ds'.length + (xs'.drop 1).length) (zs'.drop i) ds' (xs'.drop 1) := by
    have e : ds'.length + xs'.length = (ds'.length + (xs'.drop 1).length) + 1 := by simp; omega
    rw [e, mrg_add _ _ _ _ (fun h => by rw [h] at h2; simp at h2; omega) (by
      rcases hdx with h | h
      · exact .inl (List.eq_nil_of_length_eq_zero (by omega))
      · exact .inr h), hi]
  refine ⟨hb2, M ++ zs'.take i ++ [el xs' 0], zs'.drop i, ds', xs'.drop 1, ⟨_, _, by rw [List.length_drop, ← h0], by rw [List.length_drop]; omega, hr0.off e0 i (by omega)⟩,
    ⟨b1, e1, by rw [← h1], by omega, hr1⟩, ⟨_, _, by rw [List.length_drop, ← h2], by rw [List.length_drop]; omega, hr2.off e2 1 (by omega)⟩, ho, haz.drop i, had, hax.drop 1, ?_, by omega, ?_, ?_⟩
  · simp only [List.length_append, List.length_take, List.length_drop, List.length_cons, List.length_nil]; omega
  · simp only [List.length_drop]; omega
  · rw [← heq, STEP]; simp

theorem own_alloc {w : World} {base : Nat} {v : Value} {zs : List Int} (h : OwnU w base v zs) (o : Obj) : OwnU (w.alloc o) base v zs := World.ownsRow.alloc h o
theorem own_allocD {w : World} {base : Nat} {v : Value} {zs : List Int} (h : OwnU w base v zs) (o : Obj) : OwnU (w.alloc o).drew base v zs := own_alloc h o
theorem own_drew {w : World} {base : Nat} {v : Value} {zs : List Int} (h : OwnU w base v zs) : OwnU w.drew base v zs := h
theorem row_allocD {w : World} {a : Option Addr} {zs : List Int} (h : Row w a zs) (o : Obj) : Row (w.alloc o).drew a zs :=
  Row.grown (w' := w.alloc o) (row := none) h (World.grownBy_alloc _ _ none) (fun _ _ _ _ h => by cases h)
theorem row_drew {w : World} {a : Option Addr} {zs : List Int} (h : Row w a zs) : Row w.drew a zs := h
theorem row_new (w : World) (x : Int) : Row (w.alloc (.cells #[.int .u64 x] 23)) (some ⟨w.heap.size, 0, none⟩) [x] := by
  refine .inr ⟨w.heap.size, 0, #[.int .u64 x], (0, 0), rfl, ?_, fun i hi => ?_⟩
  · show (w.heap.push _)[w.heap.size]? = _
    simp
  · obtain rfl : i = 0 := by simpa using hi
    rfl
theorem row_newBD {w w2 : World} {base : Nat} {v : Value} {M : List Int} {x : Int} (h : OwnU w base v M) (hg : (w.alloc (.cells #[.int .u64 x] 23)).drew.grownBy w2 v.ownBlock) : Row w2 (some ⟨w.heap.size, 0, none⟩) [x] :=
  Row.grown (w := (w.alloc (.cells #[.int .u64 x] 23)).drew) (row_new w x) hg (fun b o e _ hv => by
    cases e
    have := (World.ownsRow.lt h _ hv).2
    omega)
theorem row_newB {w w2 : World} {base : Nat} {v : Value} {M : List Int} {x : Int} (h : OwnU w base v M) (hg : (w.alloc (.cells #[.int .u64 x] 23)).grownBy w2 v.ownBlock) : Row w2 (some ⟨w.heap.size, 0, none⟩) [x] :=
  (row_new w x).grown hg (fun b o e _ hv => by
    cases e
    have := (World.ownsRow.lt h _ hv).2
    omega)

set_option maxRecDepth 100000 in
set_option maxHeartbeats 2000000 in
theorem merge47 (a0 a1 a2 : Option Addr) (n0 c0 n1 c1 n2 c2 : Nat) (zs ds xs : List Int) (w : World) (hz : zs.length = n0) (hd : ds.length = n1) (hx : xs.length = n2) (hb : n0 + n1 + n2 ≤ 1048576)
    (hc0 : n0 ≤ c0) (hc1 : n1 ≤ c1) (hc2 : n2 ≤ c2) (hr0 : Row w a0 zs) (hr1 : Row w a1 ds) (hr2 : Row w a2 xs) (haz : Asc zs) (had : Asc ds) (hax : Asc xs) :
    Calls Try.prog 47 #[.slice a0 n0 c0, .slice a1 n1 c1, .slice a2 n2 c2] w fun e w' => Below w.heap.size w w' ∧ ∃ v, e = .returned v ∧ OwnU w' w.heap.size v (mrg (n1 + n2) zs ds xs) := by
  subst hz; subst hd; subst hx
  obtain ⟨cp, hcp, hcpb⟩ : ∃ cp : Nat, (if (0 : Int) < ((zs.length : Int) + (xs.length : Int) - (ds.length : Int)) then ((zs.length : Int) + (xs.length : Int) - (ds.length : Int)) else 0) = (cp : Int) ∧ cp ≤ 1048576 := by
    by_cases h : (0 : Int) < ((zs.length : Int) + (xs.length : Int) - (ds.length : Int))
    · exact ⟨zs.length + xs.length - ds.length, by rw [if_pos h]; omega, by omega⟩
    · exact ⟨0, by rw [if_neg h]; rfl, by omega⟩
  have gmax : ∀ w : World, (Builtin.max_ #[3, 3] 3 #[.int .i64 0, .int .i64 ((zs.length : Int) + (xs.length : Int) - (ds.length : Int))]).run Try.prog w = .ok (.int .i64 cp) w := fun w => by
    rw [← hcp]; simp [Builtin.max_, Builtin.max2, go_sem]
  obtain ⟨i0, hi, hz0, hz1, hz2⟩ := info_parts size23
  go_enter Try.func47, Try.ntmps47
  go_wp2_with (at_make; refine wpList_make_own _ rfl _ _ 37 rfl w.heap.size 23 i0 (.int .u64 0) 1 Try.underlying37 hi hz0 hz1 .i64 .i64 _ cp rfl rfl rfl ?_ ?_ (Nat.le_refl _) ?_; (rw [hz2]; omega); (unfold maxLen; omega); intro w1 hown hgr)
  have hb1 : Below w.heap.size w w1 := (Below.refl _ _).grown hgr (Nat.le_refl _) (fun k e => by cases e)
  have H0 : Hid (MrgRel w zs ds xs (.slice a0 zs.length c0) (.slice a1 ds.length c1) (.slice a2 xs.length c2) (.slice (some ⟨w.heap.size, 0, none⟩) 0 cp) w1) :=
    ⟨hb1, [], zs, ds, xs, ⟨a0, c0, rfl, hc0, hr0⟩, ⟨a1, c1, rfl, hc1, hr1⟩, ⟨a2, c2, rfl, hc2, hr2⟩, hown, haz, had, hax, by simp, Nat.le_refl _, Nat.le_refl _, rfl⟩
  clear hr0 hr1 hr2 haz had hax gmax hcp hown hgr hb1
  go_loopw [0, 1, 2, 7] (fun s0 s1 s2 s7 wr => MrgRel w zs ds xs s0 s1 s2 s7 wr) (fun _ s1 s2 _ _ => lenOf s1 + lenOf s2)
  case atStart => exact H0.out
  case round =>
    obtain ⟨hbel, M, zs', ds', xs', ⟨b0, e0, rfl, hle0, hr0⟩, ⟨b1, e1, rfl, hle1, hr1⟩, ⟨b2, e2, rfl, hle2, hr2⟩, hown, haz, had, hax, hlen, hld, hlx, heq⟩ := hrel
    obtain ⟨b7, e7, rfl, hle7⟩ := ownsRow_shape hown
    have hq0 : Row wr b0 zs' := hr0.kept (Kt.below hbel)
    have hq1 : Row wr b1 ds' := hr1.kept (Kt.below hbel)
    have hq2 : Row wr b2 xs' := hr2.kept (Kt.below hbel)
    have HEQ := hide heq
    have HOWN := hide hown
    have HBEL := hide hbel
    clear heq hown hbel H0
    obtain ⟨m0, hm0⟩ : ∃ m0, m0 = zs'.length := ⟨_, rfl⟩
    obtain ⟨m1, hm1⟩ : ∃ m1, m1 = ds'.length := ⟨_, rfl⟩
    obtain ⟨m2, hm2⟩ : ∃ m2, m2 = xs'.length := ⟨_, rfl⟩
    obtain ⟨m7, hm7⟩ : ∃ m7, m7 = M.length := ⟨_, rfl⟩
    rw [← hm0] at hle0
    rw [← hm1] at hle1 hld
    rw [← hm2] at hle2 hlx
    rw [← hm7] at hle7
    rw [← hm0, ← hm2, ← hm7] at hlen
    rw [← hm0, ← hm1, ← hm2, ← hm7]
    have HM0 := hide hm0
    have HM1 := hide hm1
    have HM2 := hide hm2
    have HM7 := hide hm7
    clear hm0 hm1 hm2 hm7
    have hbase : w.heap.size ≤ wr.heap.size := (unhide HBEL).size
    by_cases hend : m1 + m2 = 0
    · obtain rfl : m1 = 0 := by omega
      obtain rfl : m2 = 0 := by omega
      have hds : ds' = [] := List.eq_nil_of_length_eq_zero HM1.out.symm
      have hxs : xs' = [] := List.eq_nil_of_length_eq_zero HM2.out.symm
      subst hds; subst hxs
      have HR : Hid (M ++ zs' = mrg (ds.length + xs.length) zs ds xs) := by have := unhide HEQ; rw [mrg_nil] at this; exact this
      go_wp2_with (at_builtin; refine wpList_appU rfl _ rfl _ _ rfl w.heap.size w (unhide HBEL) hbase b7 m7 e7 M rfl (by have := unhide HOWN; rw [← unhide HM7] at this; exact this) b0 m0 e0 zs' rfl (unhide HM0).symm hq0 (by omega) ?_; intro a' cap' w2 hown2 hbel2)
      go_ret
      exact ⟨hbel2, _, rfl, by rw [← HR.out]; exact hown2⟩
    · by_cases hdel : 0 < m1 ∧ (m2 = 0 ∨ el ds' 0 < el xs' 0)
      · obtain ⟨hm1p, hdx⟩ := hdel
        obtain ⟨bd, od, rfl, hbd, hcd⟩ := hq1.at (by rw [← unhide HM1]; exact hm1p)
        have kd := hcd 0 (by rw [← unhide HM1]; exact hm1p)
        rw [Nat.add_zero] at kd
        have hg1 : decide ((0 : Int) < (m1 : Int)) = true := by simp; omega
        have hp1 : (0 : Int) < (m1 : Int) := by omega
        have hsl := slice_lc (some ⟨bd, od, none⟩) m1 e1 (by omega)
        generalize hdv : el ds' 0 = dv at *
        have HDV := hide hdv
        clear hdv hcd
        by_cases hm2 : m2 = 0
        case' pos =>
          subst hm2
          clear hdx
        case' neg =>
          obtain ⟨bx, ox, rfl, hbx, hcx⟩ := hq2.at (by rw [← unhide HM2]; omega)
          have kx := hcx 0 (by rw [← unhide HM2]; omega)
          rw [Nat.add_zero] at kx
          have hg2 : ((m2 : Int) == 0) = false := by simp; omega
          have hp2 : (0 : Int) < (m2 : Int) := by omega
          have hlt : dv < el xs' 0 := by rcases hdx with h | h; exact absurd h hm2; exact h
          have hg3 : decide (dv < el xs' 0) = true := by simpa using hlt
          clear hcx hdx hm2
          generalize hxv : el xs' 0 = xv at *
          have HXV := hide hxv
          clear hxv
        all_goals
          go_wp2_with fail
          go_quiet (fail)
          have HOWNq := hide (own_drewN (unhide HOWN) nq)
          have HBELq := hide (below_drewN (unhide HBEL) nq)
          have hq0q := row_drewN hq0 nq
          have kdq : (wr.drewN nq).cell? ⟨bd, od, none⟩ = some (.int .u64 dv) := kd
          have hbaseq : w.heap.size ≤ (wr.drewN nq).heap.size := hbase
          clear HOWN HBEL hq0 hq1 hq2 kd hbase hbd
          generalize wr.drewN nq = wq at *
          go_wp2_with fail
          refine (bs44 b0 m0 e0 zs' dv _ (unhide HM0).symm (by omega) hq0q haz).mono ?_
          rintro e w' ⟨rfl, i, hcut, rfl⟩
          have hil : i ≤ m0 := by have := hcut.1; rw [← unhide HM0] at this; exact this
          have hlb : lb zs' dv = i := cut_lb hcut
          obtain ⟨i2, hi2, hii2, hi2l, hi2c⟩ := i2_of (unhide HM0) hcut
          have hsh := slice_h b0 m0 e0 i (by omega)
          have hsl2 := slice_l b0 m0 e0 i2 hi2l
          have HI2 := hide hi2c
          have NEW := hide (mrgrel_del (unhide HM0) (unhide HM1) (unhide HM2) (unhide HM7) hle0 hle1 hle2 hr0 hr1 hr2 haz had hax hlen hld hlx (unhide HEQ) hm1p (by rw [unhide HDV]; first | exact .inl rfl | exact .inr (by rw [unhide HXV]; exact hlt)) (by rw [unhide HDV]; exact hlb) (by rw [unhide HDV]; exact hi2) hii2 hi2l)
          have TK : Hid ((zs'.take i).length = i) := by show _ = _; rw [List.length_take, ← unhide HM0]; omega
          clear hcut hlb hi2 hi2c HEQ hr0 hr1 hr2 haz had hax
          generalize (decide (i < m0) && (el zs' i == dv)) = bb at *
          cases bb
          case' false =>
            obtain rfl : i = i2 := by simpa using unhide HI2
          case' true =>
            have hii : (i : Int) + 1 = (i2 : Int) := by have := unhide HI2; simp at this; omega
          all_goals
            go_wp2_with (at_builtin; refine wpList_appU rfl _ rfl _ _ rfl w.heap.size w (unhide HBELq) hbaseq b7 m7 e7 M rfl (by have := unhide HOWNq; rw [← unhide HM7] at this; exact this) b0 i e0 (zs'.take i) rfl (unhide TK) (hq0q.take i) (by omega) ?_; intro a' cap' w2 hown2 hbel2)
            go_quiet (fail)
            go_wp2
            go_roundw
            case rel => exact unhide NEW _ _ _ hown2 (below_drewN hbel2 _)
            case measure => simp [lenOf]; omega
      · have hm2p : 0 < m2 := by
          rcases Nat.eq_zero_or_pos m2 with h | h
          · exact absurd ⟨by omega, .inl h⟩ hdel
          · exact h
        have hdx : m1 = 0 ∨ ¬ el ds' 0 < el xs' 0 := by
          rcases Nat.eq_zero_or_pos m1 with h | h
          · exact .inl h
          · exact .inr fun h2 => hdel ⟨h, .inr h2⟩
        obtain ⟨bx, ox, rfl, hbx, hcx⟩ := hq2.at (by rw [← unhide HM2]; exact hm2p)
        have kx := hcx 0 (by rw [← unhide HM2]; exact hm2p)
        rw [Nat.add_zero] at kx
        have hg2 : ((m2 : Int) == 0) = false := by simp; omega
        have hp2 : (0 : Int) < (m2 : Int) := by omega
        have hsl := slice_lc (some ⟨bx, ox, none⟩) m2 e2 (by omega)
        obtain ⟨hbx0, kx0⟩ : bx < w.heap.size ∧ w.cell? ⟨bx, ox, none⟩ = some (.int .u64 (el xs' 0)) := by
          obtain ⟨b', o', e', h1', h2'⟩ := hr2.at (by rw [← unhide HM2]; exact hm2p)
          cases e'
          exact ⟨h1', h2' 0 (by rw [← unhide HM2]; exact hm2p)⟩
        generalize hxv : el xs' 0 = xv at *
        have HXV := hide hxv
        clear hxv hcx hdel
        by_cases hm1 : m1 = 0
        case' pos =>
          subst hm1
          clear hdx
        case' neg =>
          obtain ⟨bd, od, rfl, hbd, hcd⟩ := hq1.at (by rw [← unhide HM1]; omega)
          have kd := hcd 0 (by rw [← unhide HM1]; omega)
          rw [Nat.add_zero] at kd
          have hm1p : 0 < m1 := by omega
          have hp1 : (0 : Int) < (m1 : Int) := by omega
          have hg1 : decide ((0 : Int) < (m1 : Int)) = true := by simp; omega
          have hnlt : ¬ el ds' 0 < xv := by rcases hdx with h | h; exact absurd h hm1; exact h
          have hg3 : decide (el ds' 0 < xv) = false := by simpa using hnlt
          clear hcd hdx hm1
          generalize hdv : el ds' 0 = dv at *
          have HDV := hide hdv
          clear hdv
        all_goals
          go_wp2_with fail
          go_quiet (fail)
          have HOWNq := hide (own_drewN (unhide HOWN) nq)
          have HBELq := hide (below_drewN (unhide HBEL) nq)
          have hq0q := row_drewN hq0 nq
          have kxq : (wr.drewN nq).cell? ⟨bx, ox, none⟩ = some (.int .u64 xv) := kx
          have hbaseq : w.heap.size ≤ (wr.drewN nq).heap.size := hbase
          have hbxq : bx < (wr.drewN nq).heap.size := hbx
          clear HOWN HBEL hq0 hq1 hq2 kx hbase hbx
          generalize wr.drewN nq = wq at *
          go_wp2_with fail
          refine (bs44 b0 m0 e0 zs' xv _ (unhide HM0).symm (by omega) hq0q haz).mono ?_
          rintro e wq ⟨rfl, i, hcut, rfl⟩
          have hil : i ≤ m0 := by have := hcut.1; rw [← unhide HM0] at this; exact this
          have hlb : lb zs' xv = i := cut_lb hcut
          have hsh := slice_h b0 m0 e0 i (by omega)
          have hsl2 := slice_l b0 m0 e0 i hil
          have NEW := hide (mrgrel_add (unhide HM0) (unhide HM1) (unhide HM2) (unhide HM7) hle0 hle1 hle2 hr0 hr1 hr2 haz had hax hlen hld hlx (unhide HEQ) hm2p (by rw [unhide HXV]; first | exact .inl rfl | exact .inr (by rw [unhide HDV]; omega)) (by rw [unhide HXV]; exact hlb) hil)
          have TK : Hid ((zs'.take i).length = i) := by show _ = _; rw [List.length_take, ← unhide HM0]; omega
          clear hcut hlb HEQ hr0 hr1 hr2 haz had hax
          generalize (decide (i < m0) && (el zs' i == xv)) = bb at *
          have hownq : OwnU wq w.heap.size (.slice b7 m7 e7) M := by have := unhide HOWNq; rw [← unhide HM7] at this; exact this
          have HO := hide hownq
          have HR0 := hide (hq0q.take i)
          have SK : Hid (∀ w', Below w.heap.size w w' → w'.cell? ⟨bx, ox, none⟩ = some (.int .u64 xv) ∧ Below w.heap.size w w') := fun w' hb' => ⟨by rw [hb'.cell (p := ⟨bx, ox, none⟩) hbx0]; exact kx0, hb'⟩
          clear hownq hq0q HOWNq
          go_wp2_with fail
          go_region_held_law (fun w' => w'.cell? ⟨bx, ox, none⟩ = some (.int .u64 xv) ∧ Below w.heap.size w w')
            (first | exact unhide SK _ (unhide HBELq).drew | exact unhide SK _ hbel3 | exact unhide SK _ hbel2 | exact unhide SK _ ((unhide HBELq).drew.alloc hbaseq _) | exact unhide SK _ (hbel2.alloc hbel2.size _))
            (first
              | (refine step_appU rfl _ rfl _ _ rfl w.heap.size w (by first | exact (unhide HBELq).drew | exact ((unhide HBELq).alloc hbaseq _).drew) (by first | exact hbaseq | exact ((unhide HBELq).alloc hbaseq _).drew.size) b7 m7 e7 M rfl (by first | exact own_drew (unhide HO) | exact own_allocD (unhide HO) _) b0 i e0 (zs'.take i) rfl (unhide TK) (by first | exact row_drew (unhide HR0) | exact row_allocD (unhide HR0) _) (by omega) ?_; intro a' cap' w2 hown2 hbel2 hgr2)
              | (refine step_appU rfl _ rfl _ _ rfl w.heap.size w (by first | exact hbel2 | exact hbel2.alloc hbel2.size _) (by first | exact hbel2.size | exact (hbel2.alloc hbel2.size _).size) a' (m7 + i) cap' (M ++ zs'.take i) rfl (by first | exact hown2 | exact own_alloc hown2 _) _ 1 1 [xv] rfl rfl (by first | exact row_new _ _ | exact row_newBD (unhide HO) hgr2 | exact row_newB (unhide HO) hgr2) (by omega) ?_; intro a'' cap'' w3 hown3 hbel3 hgr3))
          all_goals
            go_wp2
            go_quiet (fail)
            go_wp2
            go_roundw
            case rel => exact unhide NEW _ _ _ (by rw [unhide HXV]; exact hown3) (below_drewN hbel3 _)
            case measure => simp [lenOf]; omega

end Go.Proofs.Qxb6613757a.T
