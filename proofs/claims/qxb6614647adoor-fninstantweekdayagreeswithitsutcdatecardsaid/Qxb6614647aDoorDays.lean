import Derived.Test.Qxb6614647aDoorPlain
/-
  THE DAYS 0 TO 49710, EACH CHECKED BY THE KERNEL (in thirteen parts of 4096 days).
-/
namespace Go.Proofs.Qxb6614647aDoor.Plain

def all (p : Nat → Bool) : Nat → Nat → Bool
  | 0, lo => p lo
  | k + 1, lo => all p k lo && all p k (lo + 2 ^ k)
theorem all_of (p : Nat → Bool) : ∀ (k lo : Nat), all p k lo = true → ∀ n, lo ≤ n → n < lo + 2 ^ k → p n = true
  | 0, lo, h, n, h1, h2 => by
    have : n = lo := by simp at h2; omega
    subst this; exact h
  | k + 1, lo, h, n, h1, h2 => by
    rw [all, Bool.and_eq_true] at h
    by_cases hn : n < lo + 2 ^ k
    · exact all_of p k lo h.1 n h1 hn
    · exact all_of p k _ h.2 n (by omega) (by rw [Nat.pow_succ] at h2; omega)

theorem ok_0 : all ok 12 0 = true := by decide +kernel
theorem ok_1 : all ok 12 4096 = true := by decide +kernel
theorem ok_2 : all ok 12 8192 = true := by decide +kernel
theorem ok_3 : all ok 12 12288 = true := by decide +kernel
theorem ok_4 : all ok 12 16384 = true := by decide +kernel
theorem ok_5 : all ok 12 20480 = true := by decide +kernel
theorem ok_6 : all ok 12 24576 = true := by decide +kernel
theorem ok_7 : all ok 12 28672 = true := by decide +kernel
theorem ok_8 : all ok 12 32768 = true := by decide +kernel
theorem ok_9 : all ok 12 36864 = true := by decide +kernel
theorem ok_10 : all ok 12 40960 = true := by decide +kernel
theorem ok_11 : all ok 12 45056 = true := by decide +kernel
theorem ok_12 : all ok 12 49152 = true := by decide +kernel

theorem ok_all (n : Nat) (h : n ≤ 49710) : ok n = true := by
  by_cases h0 : n < 4096
  · exact all_of ok 12 0 ok_0 n (by omega) (by omega)
  by_cases h1 : n < 8192
  · exact all_of ok 12 4096 ok_1 n (by omega) (by omega)
  by_cases h2 : n < 12288
  · exact all_of ok 12 8192 ok_2 n (by omega) (by omega)
  by_cases h3 : n < 16384
  · exact all_of ok 12 12288 ok_3 n (by omega) (by omega)
  by_cases h4 : n < 20480
  · exact all_of ok 12 16384 ok_4 n (by omega) (by omega)
  by_cases h5 : n < 24576
  · exact all_of ok 12 20480 ok_5 n (by omega) (by omega)
  by_cases h6 : n < 28672
  · exact all_of ok 12 24576 ok_6 n (by omega) (by omega)
  by_cases h7 : n < 32768
  · exact all_of ok 12 28672 ok_7 n (by omega) (by omega)
  by_cases h8 : n < 36864
  · exact all_of ok 12 32768 ok_8 n (by omega) (by omega)
  by_cases h9 : n < 40960
  · exact all_of ok 12 36864 ok_9 n (by omega) (by omega)
  by_cases h10 : n < 45056
  · exact all_of ok 12 40960 ok_10 n (by omega) (by omega)
  by_cases h11 : n < 49152
  · exact all_of ok 12 45056 ok_11 n (by omega) (by omega)
  exact all_of ok 12 49152 ok_12 n (by omega) (by omega)

theorem facts (n : Nat) (h : n ≤ 49710) :
    365 * yoe n + yoe n / 4 - yoe n / 100 ≤ doe n ∧ doy n ≤ 365 ∧ cY n = dY n ∧ cM n = dM n ∧ cD n = dD n ∧ fom (dY n) (dM n) ≤ n4 n ∧ dD n ≤ 31 ∧ sak (dY n) (dM n) (dD n) = (n + 4) % 7 := by
  have k := ok_all n h
  simp only [ok, Bool.and_eq_true, Nat.ble_eq, Nat.beq_eq] at k
  obtain ⟨⟨⟨⟨a, b⟩, ⟨c, d⟩, e⟩, f, g⟩, i⟩ := k
  exact ⟨a, b, c, d, e, f, g, i⟩
end Go.Proofs.Qxb6614647aDoor.Plain
