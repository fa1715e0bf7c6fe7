/-
  SEAT b6604680a. The plain laws on registers: no Go in sight.
-/
import Derived.Test.Qxb6604680aBase
namespace Go.Proofs.Qxb6604680a
open Go.RowKit
set_option linter.unusedVariables false

theorem lt_pow_aux : ∀ (g x : Nat), x < 2 ^ g → x < 2 ^ (Lib.bitLenAux g x)
  | 0, x, h => by simpa [Lib.bitLenAux] using h
  | g + 1, x, h => by
    simp only [Lib.bitLenAux]
    by_cases e : x = 0
    · simp [e]
    · rw [if_neg e]
      have := lt_pow_aux g (x / 2) (by rw [Nat.pow_succ] at h; omega)
      rw [Nat.add_comm, Nat.pow_succ]
      omega
theorem bitLen_mono {a b : Nat} (h : a ≤ b) (hb : b < 2 ^ 64) : Lib.bitLen a ≤ Lib.bitLen b := by
  have h1 : b < 2 ^ (Lib.bitLen b) := lt_pow_aux 64 b hb
  have h2 : Lib.bitLen b ≤ 64 := Lib.bitLen_le b 64 (by omega) hb
  exact Lib.bitLen_le a _ h2 (by omega)

theorem top_eq_iff {a b : Int} (ha : 0 ≤ a) (hb : 0 ≤ b) : (a / 2251799813685248 = b / 2251799813685248) ↔ top a = top b := by
  unfold top; omega
theorem rnk_anti {a b : Int} (h0 : 0 ≤ a) (hab : a ≤ b) (ht : top a = top b) : rnk b ≤ rnk a := by
  have h1 := (top_eq_iff h0 (by omega)).2 ht
  have : Lib.bitLen (a % 2251799813685248).toNat ≤ Lib.bitLen (b % 2251799813685248).toNat := bitLen_mono (by omega) (by
    have : (2 : Nat) ^ 64 = 18446744073709551616 := by decide
    omega)
  unfold rnk; omega

theorem regs_ge (f : Nat → Int) : ∀ k i, i < k → rnk (f i) ≤ regs f k (top (f i))
  | 0, i, h => absurd h (by omega)
  | k + 1, i, h => by
    by_cases e : i = k
    · subst e; simp only [regs, if_true]; omega
    · have := regs_ge f k i (by omega)
      simp only [regs]
      split <;> omega
theorem regs_wit (f : Nat → Int) : ∀ k j, regs f k j = 0 ∨ ∃ i, i < k ∧ top (f i) = j ∧ regs f k j = rnk (f i)
  | 0, j => .inl rfl
  | k + 1, j => by
    have ih := regs_wit f k j
    have hr := rnk_rng (f k)
    simp only [regs]
    split
    · rename_i e
      by_cases hm : regs f k j ≤ rnk (f k)
      · exact .inr ⟨k, by omega, e.symm, by omega⟩
      · rcases ih with h | ⟨i, h1, h2, h3⟩
        · omega
        · exact .inr ⟨i, by omega, h2, by omega⟩
    · rcases ih with h | ⟨i, h1, h2, h3⟩
      · exact .inl h
      · exact .inr ⟨i, by omega, h2, h3⟩

theorem asc_le {f : Nat → Int} {n : Nat} (h : AscTo f n) : ∀ d i, i + d < n → f i ≤ f (i + d)
  | 0, i, _ => Int.le_refl _
  | d + 1, i, hd => by
    have h1 := asc_le h d i (by omega)
    have h2 := h (i + d) (by omega)
    rw [← Nat.add_assoc]; omega

/-- A hash whose register the one ahead of it has raised already: nothing turns. -/
theorem regs_skip {f : Nat → Int} {n k : Nat} (hr : ∀ j, 0 ≤ f j) (h : AscTo f n) (hk : k < n) (hp : 0 < k) (ht : top (f (k - 1)) = top (f k)) (j : Nat) : regs f (k + 1) j = regs f k j := by
  have h1 : f (k - 1) ≤ f k := by
    have := asc_le h 1 (k - 1) (by omega)
    rwa [show k - 1 + 1 = k by omega] at this
  have h2 := rnk_anti (hr (k - 1)) h1 ht
  have h3 := regs_ge f k (k - 1) (by omega)
  simp only [regs]
  split
  · rename_i e
    rw [e, ← ht] at *
    omega
  · rfl

/-- The first hash of its register: the register takes its rank. -/
theorem regs_new {f : Nat → Int} {n k : Nat} (hr : ∀ j, 0 ≤ f j) (h : AscTo f n) (hk : k < n) (ht : 0 < k → top (f (k - 1)) ≠ top (f k)) (j : Nat) : regs f (k + 1) j = if j = top (f k) then rnk (f k) else regs f k j := by
  have hz : regs f k (top (f k)) = 0 := by
    rcases regs_wit f k (top (f k)) with e | ⟨i, h1, h2, _⟩
    · exact e
    · exfalso
      have hp : 0 < k := by omega
      have a1 := asc_le h (k - 1 - i) i (by omega)
      rw [show i + (k - 1 - i) = k - 1 by omega] at a1
      have a2 := asc_le h 1 (k - 1) (by omega)
      rw [show k - 1 + 1 = k by omega] at a2
      refine ht hp ?_
      have := hr i
      unfold top at *
      omega
  have hrk := rnk_rng (f k)
  simp only [regs]
  split
  · rename_i e
    rw [e, hz]; omega
  · rfl
end Go.Proofs.Qxb6604680a
