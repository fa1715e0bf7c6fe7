/-
  SEAT b6602799a. What the walks speak of: slices of strings, slices of names, the written text of a name. No walk stands here.
-/
import Derived.Test.Qxb6602799aProg
import Derived.WalkKit
import Derived.ProofKit
import Derived.OpenShut
import Derived.WalkSpells
import Derived.WalkSmall
import Derived.Deep.OwnRows
import Derived.Deep.QuietTactic
import Derived.BigQuiet
import Derived.Lib.Join
import Derived.Laws.IdiomStrings
namespace Go.Proofs.Qxb6602799a
open Go.RowKit
set_option linter.unusedVariables false

/-- THE STRINGS THAT A SLICE HOLDS: element j is 'f j'. -/
structure Strs (w : World) (ao : Option Addr) (n c : Nat) (f : Nat → ByteArray) : Prop where
  cap : n ≤ c
  nil : ao = none → n = 0
  cells : 0 < n → ∃ b off, ao = some ⟨b, off, none⟩ ∧ b < w.heap.size ∧ ∀ j, j < n → w.cell? ⟨b, off + j, none⟩ = some (.string (f j))

theorem Strs.below {w w' : World} {ao : Option Addr} {n c : Nat} {f : Nat → ByteArray} (h : Strs w ao n c f) (hb : Below w.heap.size w w') : Strs w' ao n c f := by
  refine ⟨h.cap, h.nil, fun hn => ?_⟩
  obtain ⟨b, off, e, hlt, hc⟩ := h.cells hn
  exact ⟨b, off, e, Nat.lt_of_lt_of_le hlt hb.size, fun j hj => by rw [hb.cell (by exact hlt)]; exact hc j hj⟩
theorem Strs.row {w : World} {b : Nat} {t : TypeId} {n : Nat} {f : Nat → ByteArray} (h : w.rowIs b t n (fun j => .string (f j))) : Strs w (some ⟨b, 0, none⟩) n n f :=
  ⟨Nat.le_refl _, fun e => (by cases e), fun _ => ⟨b, 0, rfl, h.lt, fun j hj => by rw [Nat.zero_add]; exact h.cell hj⟩⟩

/-! ### The written text of a name: its parts joined by '.' -/
def jn (f : Nat → ByteArray) : Nat → List UInt8
  | 0 => []
  | k + 1 => (if k = 0 then [] else jn f k ++ [46]) ++ (f k).data.toList
/-- What stands ahead of part k. -/
def pre (f : Nat → ByteArray) (k : Nat) : List UInt8 := if k = 0 then [] else jn f k ++ [46]
theorem jn_succ (f : Nat → ByteArray) (k : Nat) : jn f (k + 1) = pre f k ++ (f k).data.toList := rfl
theorem pre_zero (f : Nat → ByteArray) : pre f 0 = [] := rfl
theorem pre_pos (f : Nat → ByteArray) {k : Nat} (h : 0 < k) : pre f k = jn f k ++ [46] := by unfold pre; rw [if_neg (by omega)]
def txt (f : Nat → ByteArray) (n : Nat) : ByteArray := ⟨(jn f n).toArray⟩

theorem joinTail_snoc (sep : List UInt8) (r : List (List UInt8)) (y : List UInt8) : Lib.joinTail sep (r ++ [y]) = Lib.joinTail sep r ++ (sep ++ y) := by simp [Lib.joinTail]
theorem join_jn (f : Nat → ByteArray) : ∀ n, Lib.join (((List.range n).map f).map (·.data.toList)) [46] = jn f n
  | 0 => rfl
  | 1 => by simp [List.range_succ, Lib.join_one, jn]
  | n + 2 => by
    have ih := join_jn f (n + 1)
    rw [List.range_succ, List.map_append, List.map_append]
    obtain ⟨x, r, e⟩ : ∃ x r, ((List.range (n + 1)).map f).map (·.data.toList) = x :: r := by
      rw [List.range_succ_eq_map]; exact ⟨_, _, rfl⟩
    rw [e] at ih ⊢
    rw [List.cons_append, Lib.join_cons, List.map_cons, List.map_nil, List.map_cons, List.map_nil, joinTail_snoc]
    rw [Lib.join_cons] at ih
    rw [jn, if_neg (by omega), ← ih]
    simp

/-- The sum of the parts' lengths. -/
def tot (f : Nat → ByteArray) : Nat → Nat
  | 0 => 0
  | k + 1 => tot f k + (f k).size
theorem tot_le (f : Nat → ByteArray) {k n : Nat} (h : k ≤ n) : tot f k ≤ tot f n := by
  induction n with
  | zero => rw [show k = 0 by omega]; exact Nat.le_refl _
  | succ n ih =>
    by_cases e : k = n + 1
    · rw [e]; exact Nat.le_refl _
    · have := ih (by omega)
      simp only [tot]; omega
theorem size_le_tot (f : Nat → ByteArray) {k n : Nat} (h : k < n) : tot f k + (f k).size ≤ tot f n := tot_le f (show k + 1 ≤ n by omega)
theorem pre_length (f : Nat → ByteArray) (k : Nat) : (pre f k).length = if k = 0 then 0 else (jn f k).length + 1 := by unfold pre; split <;> simp
theorem jn_length_succ (f : Nat → ByteArray) (k : Nat) : (jn f (k + 1)).length = (pre f k).length + (f k).size := by rw [jn_succ]; simp
theorem jn_length (f : Nat → ByteArray) : ∀ n, (jn f n).length ≤ n + tot f n
  | 0 => by simp [jn]
  | n + 1 => by
    have ih := jn_length f n
    have h1 := pre_length f n
    rw [jn_length_succ]
    simp only [tot]
    split at h1 <;> omega
theorem jn_mono (f : Nat → ByteArray) {k n : Nat} (h : k ≤ n) : (jn f k).length ≤ (jn f n).length := by
  induction n with
  | zero => rw [show k = 0 by omega]; exact Nat.le_refl _
  | succ n ih =>
    by_cases e : k = n + 1
    · rw [e]; exact Nat.le_refl _
    · have h1 := ih (by omega)
      have h2 := pre_length f n
      rw [jn_length_succ]
      split at h2
      · rename_i e2; subst e2; rw [show k = 0 by omega]; simp [jn]
      · omega

/-- Cell j of a row of bytes that holds l, noughts behind it. -/
def byteAt (l : List UInt8) (j : Nat) : Value := .int .u8 ((l.getD j 0).toNat : Int)
theorem byteAt_nil (j : Nat) : byteAt [] j = .int .u8 0 := by simp [byteAt]
theorem byteAt_snoc (l : List UInt8) (c : UInt8) (j : Nat) : byteAt (l ++ [c]) j = if j = l.length then .int .u8 (c.toNat : Int) else byteAt l j := by
  unfold byteAt
  by_cases h : j < l.length
  · rw [if_neg (by omega)]; simp [List.getElem?_append_left h]
  · by_cases e : j = l.length
    · subst e; simp
    · rw [if_neg e]
      have h1 : (l ++ [c])[j]? = none := List.getElem?_eq_none (by simp; omega)
      have h2 : l[j]? = none := List.getElem?_eq_none (by omega)
      simp [h1, h2]
theorem take_snoc (s : ByteArray) (k : Nat) (h : k < s.size) : s.data.toList.take (k + 1) = s.data.toList.take k ++ [s[k]] := by
  rw [List.take_succ_eq_append_getElem (by simpa using h)]; rfl
end Go.Proofs.Qxb6602799a
