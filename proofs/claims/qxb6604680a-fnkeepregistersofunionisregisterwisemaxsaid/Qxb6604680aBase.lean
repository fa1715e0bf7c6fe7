/-
  SEAT b6604680a. What the walks speak of: the numbers that a slice of uint64 holds, the registers, and the plain functions. No walk stands here.
-/
import Derived.Test.Qxb6604680aProg
import Derived.WalkKit
import Derived.ProofKit
import Derived.OpenShut
import Derived.WalkSpells
import Derived.WalkSmall
import Derived.Deep.OwnRows
import Derived.Deep.QuietTactic
import Derived.BigQuiet
import Derived.Lib.BitFns
namespace Go.Proofs.Qxb6604680a
open Go.RowKit
set_option linter.unusedVariables false

/-- THE NUMBERS THAT A SLICE OF uint64 HOLDS: element j is 'f j'. -/
structure Src (w : World) (ao : Option Addr) (n : Nat) (f : Nat → Int) : Prop where
  nil : ao = none → n = 0
  cells : 0 < n → ∃ b off, ao = some ⟨b, off, none⟩ ∧ b < w.heap.size ∧ ∀ j, j < n → w.cell? ⟨b, off + j, none⟩ = some (.int .u64 (f j))
  rng : ∀ j, 0 ≤ f j ∧ f j ≤ 18446744073709551615

theorem Src.below {w w' : World} {ao : Option Addr} {n : Nat} {f : Nat → Int} (h : Src w ao n f) (hb : Below w.heap.size w w') : Src w' ao n f := by
  refine ⟨h.nil, fun hn => ?_, h.rng⟩
  obtain ⟨b, off, e, hlt, hc⟩ := h.cells hn
  exact ⟨b, off, e, Nat.lt_of_lt_of_le hlt hb.size, fun j hj => by rw [hb.cell (by exact hlt)]; exact hc j hj⟩

theorem Src.drewN {w : World} {ao : Option Addr} {n : Nat} {f : Nat → Int} (h : Src w ao n f) (k : Nat) : Src (w.drewN k) ao n f :=
  h.below (below_drewN (Below.refl _ _) k)

/-- A row that the call made is such a slice. -/
theorem Src.row {w : World} {b : Nat} {t : TypeId} {n : Nat} {f : Nat → Int} (h : w.rowIs b t n (fun j => .int .u64 (f j))) (hr : ∀ j, 0 ≤ f j ∧ f j ≤ 18446744073709551615) : Src w (some ⟨b, 0, none⟩) n f :=
  ⟨fun e => (by cases e), fun _ => ⟨b, 0, rfl, h.lt, fun j hj => by rw [Nat.zero_add]; exact h.cell hj⟩, hr⟩

/-! ### Strictly ascending -/
def AscTo (f : Nat → Int) (n : Nat) : Prop := ∀ i, i + 1 < n → f i < f (i + 1)
theorem ascTo_one (f : Nat → Int) : AscTo f 1 := fun i hi => absurd hi (by omega)
theorem ascTo_succ {f : Nat → Int} {k : Nat} (hk : 1 ≤ k) (h : AscTo f k) (hlt : f (k - 1) < f k) : AscTo f (k + 1) := by
  intro i hi
  by_cases e : i + 1 = k
  · subst e; simpa using hlt
  · exact h i (by omega)
theorem AscTo.le {f : Nat → Int} {n m : Nat} (h : AscTo f n) (hm : m ≤ n) : AscTo f m := fun i hi => h i (by omega)
def AscAns (e : Ending) (f : Nat → Int) (n : Nat) : Prop := ∃ b, e = .returned (.bool b) ∧ (b = true → AscTo f n)

/-! ### Registers and ranks -/
/-- The register of a hash: its top 13 bits. -/
def top (h : Int) : Nat := (h / 2251799813685248).toNat
/-- The rank of a hash: 52 less the bit length of its low 51 bits. -/
def rnk (h : Int) : Int := 52 - (Lib.bitLen (h % 2251799813685248).toNat : Int)

theorem top_lt {h : Int} (h1 : h ≤ 18446744073709551615) : top h < 8192 := by unfold top; omega
theorem top_cast {h : Int} (h0 : 0 ≤ h) : h / 2251799813685248 = (top h : Int) := by unfold top; omega
theorem bitLen_zero : Lib.bitLen 0 = 0 := by decide +kernel
theorem bitLen_low (h : Int) : Lib.bitLen (h % 2251799813685248).toNat ≤ 51 := Lib.bitLen_le _ 51 (by omega) (by
  have : (2 : Nat) ^ 51 = 2251799813685248 := by decide
  omega)
theorem rnk_rng (h : Int) : 1 ≤ rnk h ∧ rnk h ≤ 52 := by
  have := bitLen_low h
  unfold rnk; omega
/-- What the code reckons is the rank: the lesser of 52 and one more than the zeros that lead 'h << 13'. -/
theorem rnk_lead (h : Int) (h0 : 0 ≤ h) : min (64 - (Lib.bitLen (IntKind.u64.wrap (h * 8192)).toNat : Int) + 1) 52 = rnk h := by
  have e : IntKind.u64.wrap (h * 8192) = (h % 2251799813685248) * 8192 := by rw [IntKind.wrap_u64]; omega
  rw [e]
  unfold rnk
  generalize hx : h % 2251799813685248 = x
  have hx0 : 0 ≤ x := by omega
  have hx1 : x < 2251799813685248 := by omega
  by_cases hz : x = 0
  · subst hz; simp [bitLen_zero]; decide
  · have e2 : (x * 8192).toNat = x.toNat * 8192 := by omega
    rw [e2, Lib.bitLen_shift 13 (x.toNat * 8192) (by have : (2 : Nat) ^ 13 = 8192 := by decide
                                                     omega) (by have : (2 : Nat) ^ 64 = 18446744073709551616 := by decide
                                                                omega)]
    have e3 : x.toNat * 8192 / 2 ^ 13 = x.toNat := by
      have : (2 : Nat) ^ 13 = 8192 := by decide
      omega
    rw [e3]
    have := Lib.bitLen_le x.toNat 51 (by omega) (by have : (2 : Nat) ^ 51 = 2251799813685248 := by decide
                                                    omega)
    have hp : 1 ≤ Lib.bitLen x.toNat := by
      rw [Lib.bitLen_half _ (by omega) (by have : (2 : Nat) ^ 64 = 18446744073709551616 := by decide
                                           omega)]
      omega
    omega

/-- THE REGISTERS behind the first k hashes: in each the largest rank that its hashes have had. -/
def regs (f : Nat → Int) : Nat → Nat → Int
  | 0, _ => 0
  | k + 1, i => if i = top (f k) then max (regs f k i) (rnk (f k)) else regs f k i
theorem regs_rng (f : Nat → Int) : ∀ k i, 0 ≤ regs f k i ∧ regs f k i ≤ 52
  | 0, _ => by simp [regs]
  | k + 1, i => by
    have h1 := regs_rng f k i
    have h2 := rnk_rng (f k)
    unfold regs
    split <;> omega

theorem Below.drewW {B : Nat} {a w : World} (h : Below B a w) : Below B a w.drew := h.drew
end Go.Proofs.Qxb6604680a
