/-
  SEAT b6604680a. The plain laws of the union: registers of a union, and which registers have been met.
-/
import Derived.Test.Qxb6604680aPlain
import Derived.Test.Qxb6604680aWalkE
namespace Go.Proofs.Qxb6604680a
open Go.RowKit
set_option linter.unusedVariables false

theorem regs_le_of {f u : Nat → Int} {n m : Nat} (h : ∀ p, p < n → ∃ q, q < m ∧ u q = f p) (i : Nat) : regs f n i ≤ regs u m i := by
  have h0 := regs_rng u m i
  rcases regs_wit f n i with e | ⟨p, h1, h2, h3⟩
  · omega
  · obtain ⟨q, hq, e⟩ := h p h1
    have := regs_ge u m q hq
    rw [e, h2] at this
    omega
/-- THE REGISTERS OF A UNION are, register by register, the larger of the two. -/
theorem regs_union {f g u : Nat → Int} {n k m : Nat} (h1 : ∀ p, p < n → ∃ q, q < m ∧ u q = f p) (h2 : ∀ p, p < k → ∃ q, q < m ∧ u q = g p)
    (h3 : ∀ q, q < m → (∃ p, p < n ∧ f p = u q) ∨ ∃ p, p < k ∧ g p = u q) (i : Nat) : regs u m i = max (regs f n i) (regs g k i) := by
  have a1 := regs_le_of h1 i
  have a2 := regs_le_of h2 i
  have a3 : regs u m i ≤ max (regs f n i) (regs g k i) := by
    rcases regs_wit u m i with e | ⟨q, q1, q2, q3⟩
    · have := regs_rng f n i; omega
    · rcases h3 q q1 with ⟨p, p1, p2⟩ | ⟨p, p1, p2⟩
      · have := regs_ge f n p p1
        rw [p2, q2] at this
        omega
      · have := regs_ge g k p p1
        rw [p2, q2] at this
        omega
  omega

/-- Which registers the first k of f have met, beside those of 'base'. -/
def seen (base : Nat → Bool) (f : Nat → Int) : Nat → Nat → Bool
  | 0, j => base j
  | k + 1, j => if j = top (f k) then true else seen base f k j
theorem seen_regs (base : Nat → Bool) (f : Nat → Int) : ∀ k j, seen base f k j = (base j || (regs f k j != 0))
  | 0, j => by simp [seen, regs]
  | k + 1, j => by
    have h1 := rnk_rng (f k)
    have h2 := regs_rng f k j
    have ih := seen_regs base f k j
    simp only [seen, regs]
    split
    · have : max (regs f k j) (rnk (f k)) ≠ 0 := by omega
      simp [this]
    · exact ih
theorem seen_union {f g u : Nat → Int} {n k m : Nat} (j : Nat) (h : regs u m j = max (regs f n j) (regs g k j)) : seen (seen (fun _ => false) f n) g k j = (regs u m j != 0) := by
  have h1 := regs_rng f n j
  have h2 := regs_rng g k j
  rw [seen_regs, seen_regs, h, Bool.eq_iff_iff]
  simp
  omega

/-- What zzUnion hands back, as a slice of numbers. -/
theorem Un.src {w w' : World} {f g : Nat → Int} {la lb m : Nat} {l : List Int} (h : Un w w' (la + lb) f g la lb m l) (rf : ∀ j, 0 ≤ f j ∧ f j ≤ 18446744073709551615) (rg : ∀ j, 0 ≤ g j ∧ g j ≤ 18446744073709551615) :
    Src w' (some ⟨w.heap.size, 0, none⟩) m (fun j => l.getD j 0) := by
  have hc : ∀ j, j < m → w'.cell? ⟨w.heap.size, 0 + j, none⟩ = some (.int .u64 (l.getD j 0)) := by
    intro j hj
    have hl : j < l.length := by rw [h.len]; exact hj
    rw [Nat.zero_add, h.own.cellAt j (by omega)]
    simp [hl]
  refine ⟨(fun e => by cases e), fun hp => ⟨_, _, rfl, ?_, hc⟩, fun j => ?_⟩
  · exact block_lt_of_cell (hc 0 hp)
  · by_cases hj : j < l.length
    · have hm : l.getD j 0 ∈ l := by simp [hj]
      rcases (h.both _).1 hm with ⟨p, _, e⟩ | ⟨p, _, e⟩
      · have := rf p; simp only [e] at this; exact this
      · have := rg p; simp only [e] at this; exact this
    · simp [List.getElem?_eq_none (by omega : l.length ≤ j)]
theorem Un.regs {w w' : World} {f g : Nat → Int} {la lb m : Nat} {l : List Int} (h : Un w w' (la + lb) f g la lb m l) (i : Nat) : regs (fun j => l.getD j 0) m i = max (regs f la i) (regs g lb i) := by
  have hmem : ∀ x, x ∈ l → ∃ q, q < m ∧ l.getD q 0 = x := by
    intro x hx
    obtain ⟨q, hq, e⟩ := List.getElem_of_mem hx
    exact ⟨q, by rw [← h.len]; exact hq, by simp [hq, e]⟩
  refine regs_union (fun p hp => ?_) (fun p hp => ?_) (fun q hq => ?_) i
  · exact hmem _ ((h.both _).2 (.inl ⟨p, hp, rfl⟩))
  · exact hmem _ ((h.both _).2 (.inr ⟨p, hp, rfl⟩))
  · have hl : q < l.length := by rw [h.len]; exact hq
    exact (h.both _).1 (by simp [hl])
end Go.Proofs.Qxb6604680a
