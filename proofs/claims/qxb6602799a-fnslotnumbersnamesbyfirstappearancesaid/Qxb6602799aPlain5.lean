/-
  SEAT b6602799a. The plain law: numbers by first appearance. No Go in sight.
-/
import Derived.Test.Qxb6602799aMap
namespace Go.Proofs.Qxb6602799a
open Go.RowKit
set_option linter.unusedVariables false

/-- No place from j0 on and ahead of j bears the text of place i. -/
def srch (t : Nat → List UInt8) (i : Nat) : Nat → Nat → Nat
  | 0, _ => i
  | g + 1, j => if t j = t i then j else srch t i g (j + 1)
/-- The first place that bears the text of place i. -/
def fst (t : Nat → List UInt8) (i : Nat) : Nat := srch t i i 0

theorem srch_hit (t : Nat → List UInt8) (i : Nat) : ∀ g j0 j, j0 ≤ j → j < j0 + g → (∀ p, j0 ≤ p → p < j → t p ≠ t i) → t j = t i → srch t i g j0 = j
  | 0, j0, j, h1, h2, _, _ => absurd h2 (by omega)
  | g + 1, j0, j, h1, h2, h3, h4 => by
    unfold srch
    by_cases e : j0 = j
    · subst e; rw [if_pos h4]
    · rw [if_neg (h3 j0 (Nat.le_refl _) (by omega))]
      exact srch_hit t i g (j0 + 1) j (by omega) (by omega) (fun p hp hq => h3 p (by omega) hq) h4
theorem srch_miss (t : Nat → List UInt8) (i : Nat) : ∀ g j0, (∀ p, j0 ≤ p → p < j0 + g → t p ≠ t i) → srch t i g j0 = i
  | 0, _, _ => rfl
  | g + 1, j0, h => by
    unfold srch
    rw [if_neg (h j0 (Nat.le_refl _) (by omega))]
    exact srch_miss t i g (j0 + 1) (fun p hp hq => h p (by omega) (by omega))
theorem fst_hit {t : Nat → List UInt8} {i j : Nat} (hj : j < i) (h : ∀ p, p < j → t p ≠ t i) (e : t j = t i) : fst t i = j :=
  srch_hit t i i 0 j (Nat.zero_le _) (by omega) (fun p _ hp => h p hp) e
theorem fst_miss {t : Nat → List UInt8} {i : Nat} (h : ∀ p, p < i → t p ≠ t i) : fst t i = i :=
  srch_miss t i i 0 (fun p _ hp => h p (by omega))
theorem least (t : Nat → List UInt8) (i : Nat) : ∀ k, (∀ p, p < k → t p ≠ t i) ∨ ∃ j, j < k ∧ t j = t i ∧ ∀ p, p < j → t p ≠ t i
  | 0 => .inl (fun p hp => absurd hp (by omega))
  | k + 1 => by
    rcases least t i k with h | ⟨j, h1, h2, h3⟩
    · by_cases e : t k = t i
      · exact .inr ⟨k, by omega, e, h⟩
      · exact .inl (fun p hp => by
          by_cases e2 : p = k
          · rw [e2]; exact e
          · exact h p (by omega))
    · exact .inr ⟨j, by omega, h2, h3⟩
theorem fst_spec (t : Nat → List UInt8) (i : Nat) : fst t i ≤ i ∧ t (fst t i) = t i ∧ ∀ p, p < fst t i → t p ≠ t i := by
  rcases least t i i with h | ⟨j, h1, h2, h3⟩
  · rw [fst_miss h]; exact ⟨Nat.le_refl _, rfl, h⟩
  · rw [fst_hit h1 h3 h2]; exact ⟨by omega, h2, h3⟩
theorem fst_fst (t : Nat → List UInt8) (i : Nat) : fst t (fst t i) = fst t i := by
  obtain ⟨h1, h2, h3⟩ := fst_spec t i
  exact fst_miss (fun p hp => by rw [h2]; exact h3 p hp)
theorem fst_eq_of {t : Nat → List UInt8} {i j : Nat} (h : t i = t j) : fst t i = fst t j := by
  obtain ⟨a1, a2, a3⟩ := fst_spec t i
  obtain ⟨b1, b2, b3⟩ := fst_spec t j
  rcases Nat.lt_trichotomy (fst t i) (fst t j) with c | c | c
  · exact absurd (a2.trans h) (b3 _ c)
  · exact c
  · exact absurd (b2.trans h.symm) (a3 _ c)

/-- How many of the first k places are first places. -/
def cnt (t : Nat → List UInt8) : Nat → Nat
  | 0 => 0
  | k + 1 => if fst t k = k then cnt t k + 1 else cnt t k
theorem cnt_le (t : Nat → List UInt8) : ∀ k, cnt t k ≤ k
  | 0 => Nat.le_refl _
  | k + 1 => by have := cnt_le t k; unfold cnt; split <;> omega
theorem cnt_mono (t : Nat → List UInt8) {j k : Nat} (h : j ≤ k) : cnt t j ≤ cnt t k := by
  induction k with
  | zero => rw [show j = 0 by omega]; exact Nat.le_refl _
  | succ k ih =>
    by_cases e : j = k + 1
    · rw [e]; exact Nat.le_refl _
    · have := ih (by omega)
      simp only [cnt]; split <;> omega
theorem cnt_lt {t : Nat → List UInt8} {j k : Nat} (h : j < k) (hf : fst t j = j) : cnt t j < cnt t k := by
  have := cnt_mono t (show j + 1 ≤ k by omega)
  simp only [cnt, hf, if_true] at this
  omega

/-- WHAT THE STATE HOLDS behind the first k calls. -/
structure Inv (t : Nat → List UInt8) (Q : Nat → Nm) (k L sz : Nat) (V : Nat → Nm) (M : List UInt8 → Option Int) : Prop where
  hL : L = cnt t k
  hsz : sz = cnt t k
  hV : ∀ j, j < k → fst t j = j → V (cnt t j) = Q j
  hM : ∀ j, j < k → M (t j) = some (cnt t (fst t j) : Int)
  hN : ∀ u, (∀ j, j < k → t j ≠ u) → M u = none

theorem Inv.zero (t : Nat → List UInt8) (Q V : Nat → Nm) : Inv t Q 0 0 0 V (fun _ => none) :=
  ⟨rfl, rfl, fun j hj => absurd hj (by omega), fun j hj => absurd hj (by omega), fun _ _ => rfl⟩
theorem Inv.hit {t : Nat → List UInt8} {Q : Nat → Nm} {k L sz : Nat} {V : Nat → Nm} {M : List UInt8 → Option Int} (h : Inv t Q k L sz V M) (hf : fst t k ≠ k) :
    M (t k) = some (cnt t (fst t k) : Int) ∧ Inv t Q (k + 1) L sz V M := by
  obtain ⟨a1, a2, a3⟩ := fst_spec t k
  have hlt : fst t k < k := by omega
  have hm := h.hM _ hlt
  rw [a2, fst_fst] at hm
  have hc : cnt t (k + 1) = cnt t k := by simp only [cnt, if_neg hf]
  refine ⟨hm, ⟨by rw [hc]; exact h.hL, by rw [hc]; exact h.hsz, fun j hj hfj => ?_, fun j hj => ?_, fun u hu => h.hN u (fun j hj => hu j (by omega))⟩⟩
  · by_cases e : j = k
    · subst e; exact absurd hfj hf
    · exact h.hV j (by omega) hfj
  · by_cases e : j = k
    · subst e; exact hm
    · exact h.hM j (by omega)
theorem Inv.miss {t : Nat → List UInt8} {Q : Nat → Nm} {k L sz : Nat} {V : Nat → Nm} {M : List UInt8 → Option Int} (h : Inv t Q k L sz V M) (hf : fst t k = k) :
    M (t k) = none ∧ Inv t Q (k + 1) (L + 1) (sz + 1) (setNm V L (Q k)) (upd M (t k) L) := by
  obtain ⟨a1, a2, a3⟩ := fst_spec t k
  rw [hf] at a3
  have hc : cnt t (k + 1) = cnt t k + 1 := by simp only [cnt, hf, if_true]
  refine ⟨h.hN _ a3, ⟨by rw [hc, h.hL], by rw [hc, h.hsz], fun j hj hfj => ?_, fun j hj => ?_, fun u hu => ?_⟩⟩
  · unfold setNm
    by_cases e : j = k
    · subst e; rw [if_pos h.hL.symm]
    · have := cnt_lt (show j < k by omega) hfj
      rw [if_neg (by rw [h.hL]; omega)]
      exact h.hV j (by omega) hfj
  · unfold upd
    by_cases e : j = k
    · subst e; rw [if_pos rfl, hf, h.hL]
    · rw [if_neg (a3 j (by omega))]
      exact h.hM j (by omega)
  · unfold upd
    rw [if_neg (fun e => hu k (by omega) e.symm)]
    exact h.hN u (fun j hj => hu j (by omega))
end Go.Proofs.Qxb6602799a
