import Derived.Test.Qxb6613757aZy
/-
  The guards, over rows of which the cells alone are known (what came in).
-/
namespace Go.Proofs.Qxb6613757a.T
open Go.RowKit
set_option linter.unusedVariables false
set_option linter.unusedSimpArgs false

/-- cells that read zs -/
def RowC (w : World) (a : Option Addr) (zs : List Int) : Prop := 0 < zs.length → ∃ b o, a = some ⟨b, o, none⟩ ∧ b < w.heap.size ∧ ∀ i, i < zs.length → w.cell? ⟨b, o + i, none⟩ = some (.int .u64 (el zs i))
theorem RowC.at {w : World} {a : Option Addr} {zs : List Int} (h : RowC w a zs) (hp : 0 < zs.length) : ∃ b o, a = some ⟨b, o, none⟩ ∧ b < w.heap.size ∧ ∀ i, i < zs.length → w.cell? ⟨b, o + i, none⟩ = some (.int .u64 (el zs i)) := h hp
theorem Row.c {w : World} {a : Option Addr} {zs : List Int} (h : Row w a zs) : RowC w a zs := fun hp => h.at hp

set_option maxHeartbeats 400000 in
theorem asc14c (a : Option Addr) (n cap : Nat) (zs : List Int) (w : World) (hz : zs.length = n) (hn : n ≤ 1048576) (hr : RowC w a zs) :
    Calls Try.prog 14 #[.slice a n cap] w fun e w' => (∃ q, w' = w.drewN q) ∧ ((Asc zs ∧ e = .returned (.bool true)) ∨ (¬ Asc zs ∧ e = .returned (.bool false))) := by
  go_enter Try.func14, Try.ntmps14
  go_wp2
  go_loopw [3] (fun i wr => (∃ q, wr = w.drewN q) ∧ ∃ k : Nat, 1 ≤ k ∧ i = .int .i64 k ∧ (∀ j, j + 1 < k → j + 1 < n → el zs j < el zs (j + 1))) (fun i _ => n - (intOf i).toNat)
  case atStart => exact ⟨⟨0, rfl⟩, 1, Nat.le_refl _, rfl, fun j h _ => by omega⟩
  case round =>
    obtain ⟨⟨q, rfl⟩, k, hk, rfl, hall⟩ := hrel
    have HA := hide hall
    clear hall
    by_cases hlt : k < n
    · obtain ⟨b, o, rfl, hb, hc⟩ := hr.at (by omega)
      have c1 := hc k (by omega)
      have c0 := hc (k - 1) (by omega)
      have next : Hid (el zs (k - 1) < el zs k → ∀ j, j + 1 < k + 1 → j + 1 < n → el zs j < el zs (j + 1)) := fun h j h1 h2 => by
        by_cases e : j + 1 = k
        · subst e; simpa using h
        · exact unhide HA j (by omega) h2
      have bad : Hid (¬ el zs (k - 1) < el zs k → ¬ Asc zs) := fun h ha => h (ha (k - 1) k (by omega) (by omega))
      clear hc hr
      generalize el zs k = x at *
      generalize el zs (k - 1) = y at *
      go_wp2
      go_quiet (fail)
      go_wp2
      · go_ret
        exact ⟨⟨q + nq, by simp⟩, .inr ⟨bad.out (by omega), rfl⟩⟩
      · go_roundw
        case rel => exact ⟨⟨_, rfl⟩, k + 1, by omega, by go_num, unhide next (by assumption)⟩
        case measure => simp [intOf]; omega
    · go_wp2
      go_ret
      exact ⟨⟨q, rfl⟩, .inl ⟨asc_of_step fun i hi => unhide HA i (by omega) (by omega), rfl⟩⟩

set_option maxHeartbeats 1000000 in
theorem sub15c (a1 a2 : Option Addr) (n1 c1 n2 c2 : Nat) (xs ys : List Int) (w : World) (hz1 : xs.length = n1) (hz2 : ys.length = n2) (hn1 : n1 ≤ 1048576) (hn2 : n2 ≤ 1048576) (hr1 : RowC w a1 xs) (hr2 : RowC w a2 ys) (ha : Asc xs) (hb : Asc ys) :
    Calls Try.prog 15 #[.slice a1 n1 c1, .slice a2 n2 c2] w fun e w' => w' = w ∧ ((Sub xs ys ∧ e = .returned (.bool true)) ∨ (¬ Sub xs ys ∧ e = .returned (.bool false))) := by
  go_enter Try.func15, Try.ntmps15
  go_wp2
  go_loop [5, 10] (fun t s => ∃ j r : Nat, j ≤ n2 ∧ r ≤ n1 ∧ t = .int .i64 j ∧ s = .int .i64 r ∧ (∀ m t, m < j → r ≤ t → t < n1 → el ys m < el xs t) ∧ (∀ t, t < r → el xs t ∈ ys)) (fun _ s => n1 - (intOf s).toNat)
  case atStart => exact ⟨0, 0, Nat.zero_le _, Nat.zero_le _, rfl, rfl, fun m t h => by omega, fun t h => by omega⟩
  case round =>
    obtain ⟨j0, r, hj0, hr, rfl, rfl, hlow, hin⟩ := hrel
    have HI := hide hin
    have HL := hide hlow
    clear hin hlow
    by_cases hlt : r < n1
    · obtain ⟨b1, o1, rfl, hb1, hc1⟩ := hr1.at (by omega)
      have k1 := hc1 r (by omega)
      have HX : Hid (∀ m, m < j0 → el ys m < el xs r) := fun m hm => unhide HL m r hm (Nat.le_refl _) hlt
      generalize hx : el xs r = x at *
      have HXE := hide hx
      clear hx hc1 HL
      go_wp2
      go_loop [5] (fun t => ∃ j : Nat, j ≤ n2 ∧ t = .int .i64 j ∧ (∀ m, m < j → el ys m < x)) (fun t => n2 - (intOf t).toNat)
      case atStart => exact ⟨j0, hj0, rfl, unhide HX⟩
      case round =>
        obtain ⟨j, hj, rfl, hlow⟩ := hrel
        have HL := hide hlow
        clear hlow
        by_cases hgo : j < n2 ∧ el ys j < x
        · obtain ⟨hjn, hlt2⟩ := hgo
          obtain ⟨b2, o2, rfl, hb2, hc2⟩ := hr2.at (by omega)
          have k2 := hc2 j (by omega)
          have next : Hid (∀ m, m < j + 1 → el ys m < x) := fun m hm => by
            by_cases e : m = j
            · subst e; exact hlt2
            · exact unhide HL m (by omega)
          clear hc2
          generalize el ys j = y at *
          go_wp2
          go_round
          case rel => exact ⟨j + 1, by omega, by go_num, next.out⟩
          case measure => simp [intOf]; omega
        · have HS : Hid (x ∈ ys ↔ (j < ys.length ∧ el ys j = x)) := search_out hb x j (unhide HL) (by rw [hz2]; exact hgo)
          by_cases hfound : j < n2 ∧ el ys j = x
          · obtain ⟨hjn, hex⟩ := hfound
            obtain ⟨b2, o2, rfl, hb2, hc2⟩ := hr2.at (by omega)
            have k2 := hc2 j (by omega)
            rw [hex] at k2
            have hbj : ((j : Int) == (n2 : Int)) = false := by simp; omega
            have nextI : Hid (∀ t, t < r + 1 → el xs t ∈ ys) := fun t ht => by
              by_cases e : t = r
              · subst e; rw [HXE.out]; exact HS.out.2 ⟨by omega, hex⟩
              · exact unhide HI t (by omega)
            have nextL : Hid (∀ m t, m < j → r + 1 ≤ t → t < n1 → el ys m < el xs t) := fun m t hm h1 h2 => by
              have := ha r t (by omega) (by omega)
              rw [HXE.out] at this
              exact Int.lt_trans (unhide HL m hm) this
            clear hc2 hgo hex
            go_wp2
            go_round
            case rel => exact ⟨j, r + 1, by omega, by omega, rfl, by go_num, nextL.out, nextI.out⟩
            case measure => simp [intOf]; omega
          · have HN : Hid (¬ Sub xs ys) := fun h => hfound (by
              have := HS.out.1 (h x (by rw [mem_iff]; exact ⟨r, by omega, HXE.out⟩))
              rw [hz2] at this; exact this)
            by_cases hjn : j < n2
            · obtain ⟨b2, o2, rfl, hb2, hc2⟩ := hr2.at (by omega)
              have k2 := hc2 j (by omega)
              have hbj : ((j : Int) == (n2 : Int)) = false := by simp; omega
              have hne : (el ys j != x) = true := by simp; exact fun e => hfound ⟨hjn, e⟩
              have hge : ¬ el ys j < x := fun h => hgo ⟨hjn, h⟩
              clear hc2 hgo hfound HS
              generalize el ys j = y at *
              go_wp2
              go_ret
              exact ⟨rfl, .inr ⟨HN.out, rfl⟩⟩
            · obtain rfl : j = n2 := by omega
              clear hgo hfound HS
              go_wp2
              go_ret
              exact ⟨rfl, .inr ⟨HN.out, rfl⟩⟩
    · have HS : Hid (Sub xs ys) := fun x hx => by
        obtain ⟨i, hi, rfl⟩ := mem_iff.1 hx
        exact unhide HI i (by omega)
      go_wp2
      go_ret
      exact ⟨rfl, .inl ⟨HS.out, rfl⟩⟩

set_option maxHeartbeats 1000000 in
theorem dis16c (a1 a2 : Option Addr) (n1 c1 n2 c2 : Nat) (xs ys : List Int) (w : World) (hz1 : xs.length = n1) (hz2 : ys.length = n2) (hn1 : n1 ≤ 1048576) (hn2 : n2 ≤ 1048576) (hr1 : RowC w a1 xs) (hr2 : RowC w a2 ys) (ha : Asc xs) (hb : Asc ys) :
    Calls Try.prog 16 #[.slice a1 n1 c1, .slice a2 n2 c2] w fun e w' => w' = w ∧ ((Dis xs ys ∧ e = .returned (.bool true)) ∨ (¬ Dis xs ys ∧ e = .returned (.bool false))) := by
  go_enter Try.func16, Try.ntmps16
  go_wp2
  go_loop [5, 10] (fun t s => ∃ j r : Nat, j ≤ n2 ∧ r ≤ n1 ∧ t = .int .i64 j ∧ s = .int .i64 r ∧ (∀ m t, m < j → r ≤ t → t < n1 → el ys m < el xs t) ∧ (∀ t, t < r → el xs t ∉ ys)) (fun _ s => n1 - (intOf s).toNat)
  case atStart => exact ⟨0, 0, Nat.zero_le _, Nat.zero_le _, rfl, rfl, fun m t h => by omega, fun t h => by omega⟩
  case round =>
    obtain ⟨j0, r, hj0, hr, rfl, rfl, hlow, hin⟩ := hrel
    have HI := hide hin
    have HL := hide hlow
    clear hin hlow
    by_cases hlt : r < n1
    · obtain ⟨b1, o1, rfl, hb1, hc1⟩ := hr1.at (by omega)
      have k1 := hc1 r (by omega)
      have HX : Hid (∀ m, m < j0 → el ys m < el xs r) := fun m hm => unhide HL m r hm (Nat.le_refl _) hlt
      generalize hx : el xs r = x at *
      have HXE := hide hx
      clear hx hc1 HL
      go_wp2
      go_loop [5] (fun t => ∃ j : Nat, j ≤ n2 ∧ t = .int .i64 j ∧ (∀ m, m < j → el ys m < x)) (fun t => n2 - (intOf t).toNat)
      case atStart => exact ⟨j0, hj0, rfl, unhide HX⟩
      case round =>
        obtain ⟨j, hj, rfl, hlow⟩ := hrel
        have HL := hide hlow
        clear hlow
        by_cases hgo : j < n2 ∧ el ys j < x
        · obtain ⟨hjn, hlt2⟩ := hgo
          obtain ⟨b2, o2, rfl, hb2, hc2⟩ := hr2.at (by omega)
          have k2 := hc2 j (by omega)
          have next : Hid (∀ m, m < j + 1 → el ys m < x) := fun m hm => by
            by_cases e : m = j
            · subst e; exact hlt2
            · exact unhide HL m (by omega)
          clear hc2
          generalize el ys j = y at *
          go_wp2
          go_round
          case rel => exact ⟨j + 1, by omega, by go_num, next.out⟩
          case measure => simp [intOf]; omega
        · have HS : Hid (x ∈ ys ↔ (j < ys.length ∧ el ys j = x)) := search_out hb x j (unhide HL) (by rw [hz2]; exact hgo)
          by_cases hfound : j < n2 ∧ el ys j = x
          · obtain ⟨hjn, hex⟩ := hfound
            obtain ⟨b2, o2, rfl, hb2, hc2⟩ := hr2.at (by omega)
            have k2 := hc2 j (by omega)
            rw [hex] at k2
            have HN : Hid (¬ Dis xs ys) := fun h => h x (by rw [mem_iff]; exact ⟨r, by omega, HXE.out⟩) (HS.out.2 ⟨by omega, hex⟩)
            clear hc2 hgo hex
            go_wp2
            go_ret
            exact ⟨rfl, .inr ⟨HN.out, rfl⟩⟩
          · have nextI : Hid (∀ t, t < r + 1 → el xs t ∉ ys) := fun t ht => by
              by_cases e : t = r
              · subst e; rw [HXE.out]; exact fun h => hfound (by have := HS.out.1 h; rw [hz2] at this; exact this)
              · exact unhide HI t (by omega)
            have nextL : Hid (∀ m t, m < j → r + 1 ≤ t → t < n1 → el ys m < el xs t) := fun m t hm h1 h2 => by
              have := ha r t (by omega) (by omega)
              rw [HXE.out] at this
              exact Int.lt_trans (unhide HL m hm) this
            by_cases hjn : j < n2
            · obtain ⟨b2, o2, rfl, hb2, hc2⟩ := hr2.at (by omega)
              have k2 := hc2 j (by omega)
              have hne : (el ys j == x) = false := by simp; exact fun e => hfound ⟨hjn, e⟩
              have hge : ¬ el ys j < x := fun h => hgo ⟨hjn, h⟩
              clear hc2 hgo hfound HS
              generalize el ys j = y at *
              go_wp2
              go_round
              case rel => exact ⟨j, r + 1, by omega, by omega, rfl, by go_num, nextL.out, nextI.out⟩
              case measure => simp [intOf]; omega
            · obtain rfl : j = n2 := by omega
              clear hgo hfound HS
              go_wp2
              go_round
              case rel => exact ⟨j, r + 1, by omega, by omega, rfl, by go_num, nextL.out, nextI.out⟩
              case measure => simp [intOf]; omega
    · have HS : Hid (Dis xs ys) := fun x hx => by
        obtain ⟨i, hi, rfl⟩ := mem_iff.1 hx
        exact unhide HI i (by omega)
      go_wp2
      go_ret
      exact ⟨rfl, .inl ⟨HS.out, rfl⟩⟩



end Go.Proofs.Qxb6613757a.T
