/-
  SEAT b6602799a. From the form's reading of an argument to what the walks speak of: a slice of strings, a slice of names.
-/
import Derived.Test.Qxb6602799aNames
import Derived.Deep.Slices
import Derived.SliceStrings
namespace Go.Proofs.Qxb6602799a
open Go.RowKit Go.Deep Go.ChangeShapes
set_option linter.unusedVariables false

theorem cells9 : Try.prog.cellsOf 9 = 1 := by kernel_rfl
theorem cells26 : Try.prog.cellsOf 26 = 1 := by kernel_rfl

theorem plain_of_cell {w : World} {a : Addr} {v : Value} (h : w.cell? (a.add 0) = some v) : ∃ b off, a = ⟨b, off, none⟩ := by
  obtain ⟨b, off, spot⟩ := a
  have hspot : spot = none := by simpa [Addr.add] using World.cell?_spot h
  subst hspot
  exact ⟨b, off, rfl⟩

/-- What is known of a name that was read. -/
def Read (w : World) (q : Nm) : Prop := Strs w q.ao q.n q.c q.f ∧ q.n ≤ maxLen ∧ ∀ j, (q.f j).size ≤ maxLen
theorem read_empty (w : World) : Read w ⟨none, 0, 0, fun _ => ByteArray.empty⟩ := ⟨⟨Nat.le_refl _, fun _ => rfl, fun h => absurd h (Nat.lt_irrefl 0)⟩, Nat.zero_le _, fun _ => Nat.zero_le _⟩

theorem strs_of_trod {H : Type} {enc : TypeId × Value → H} {w : World} {base : Nat} {spare : Nat → Bool} {held : Bool} {fuel : Nat} {v : Value} {x : DataW H × List MemPlace} (h : DataW.trod enc Try.prog w base spare held fuel 26 [v] = some x) :
    ∃ q : Nm, v = .slice q.ao q.n q.c ∧ Read w q := by
  rcases open_strings Try.underlying26 Try.underlying9 cells9 h with ⟨e, _⟩ | ⟨a, len, cap, ss, e, _, hl, hm, hz, _, hcell, hws⟩
  · cases e
    exact ⟨⟨none, 0, 0, fun _ => ByteArray.empty⟩, rfl, read_empty w⟩
  · cases e
    have hlen : len ≤ ss.length := by rw [hz]; split <;> omega
    refine ⟨⟨some a, len, cap, fun j => ss.getD j ByteArray.empty⟩, rfl, ⟨hl, fun e => (by cases e), fun hp => ?_⟩, by show len ≤ _; omega, fun j => ?_⟩
    · obtain ⟨b, off, rfl⟩ := plain_of_cell (hcell 0 (Nat.lt_of_lt_of_le hp hlen))
      refine ⟨b, off, rfl, ?_, fun j hj => ?_⟩
      · exact block_lt_of_cell (hcell 0 (Nat.lt_of_lt_of_le hp hlen))
      · rw [← Go.WideShapes.add_plain]; exact hcell j (Nat.lt_of_lt_of_le hj hlen)
    · show (ss.getD j ByteArray.empty).size ≤ maxLen
      by_cases hj : j < ss.length
      · exact hws _ (by simp [hj])
      · simp [List.getElem?_eq_none (by omega : ss.length ≤ j)]

theorem names_of_trod {H : Type} {enc : TypeId × Value → H} {w : World} {base : Nat} {spare : Nat → Bool} {held : Bool} {fuel : Nat} {ao : Option Addr} {len cap : Nat} {x : DataW H × List MemPlace} (h : DataW.trod enc Try.prog w base spare held fuel 22 [.slice ao len cap] = some x) :
    ∃ Q : Nat → Nm, Names w ao len Q ∧ len ≤ maxLen ∧ (∀ i, (Q i).n ≤ maxLen) ∧ ∀ i j, ((Q i).f j).size ≤ maxLen := by
  rcases open_slice1 Try.underlying22 cells26 h with ⟨e, _⟩ | ⟨a, len', cap', m, n, V, D, Pl, e, _, hl, hm, hmm, _, hx⟩
  · cases e
    exact ⟨fun _ => ⟨none, 0, 0, fun _ => ByteArray.empty⟩, ⟨fun _ => rfl, fun h => absurd h (by omega), fun i hi => absurd hi (by omega)⟩, Nat.zero_le _, fun _ => Nat.zero_le _, fun _ _ => Nat.zero_le _⟩
  · cases e
    have hlen : len ≤ m := by rw [hmm]; split <;> omega
    have hex : ∀ i, ∃ q : Nm, (i < len → V i = .slice q.ao q.n q.c) ∧ Read w q := fun i => by
      by_cases hi : i < len
      · obtain ⟨q, h1, h2⟩ := strs_of_trod (hx i (by omega)).2
        exact ⟨q, fun _ => h1, h2⟩
      · exact ⟨_, fun h => absurd h hi, read_empty w⟩
    obtain ⟨Q, hQ⟩ := Classical.skolem.1 hex
    refine ⟨Q, ⟨fun e => (by cases e), fun hp => ?_, fun i hi => (hQ i).2.1⟩, by omega, fun i => (hQ i).2.2.1, fun i j => (hQ i).2.2.2 j⟩
    obtain ⟨b, off, rfl⟩ := plain_of_cell (hx 0 (by omega)).1
    refine ⟨b, off, rfl, ?_, fun i hi => ?_⟩
    · exact block_lt_of_cell (hx 0 (by omega)).1
    · rw [← Go.WideShapes.add_plain, (hx i (by omega)).1, (hQ i).1 hi]
end Go.Proofs.Qxb6602799a
