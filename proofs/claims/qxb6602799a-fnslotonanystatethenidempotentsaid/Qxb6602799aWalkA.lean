/-
  SEAT b6602799a. The walks of cloneStrings, sameStrings (of a slice with itself), stringsBytes, strings.Join and joinDots.
-/
import Derived.Test.Qxb6602799aBase
import Derived.Test.Qxb6602799aJoin
namespace Go.Proofs.Qxb6602799a
open Go.RowKit
set_option linter.unusedVariables false

theorem info9 : (Try.prog.info? 9).map (fun i => (i.zero, i.size, i.bytes)) = some (some (.string ⟨#[]⟩), 1, 16) := by kernel_rfl
theorem info5 : (Try.prog.info? 5).map (fun i => (i.zero, i.size, i.bytes)) = some (some (.int .u8 0), 1, 1) := by kernel_rfl

theorem clone_nil (w : World) (n cap : Nat) : Calls Try.prog 18 #[.slice none n cap] w fun e w' => e = .returned (.slice none 0 0) ∧ w' = w := by
  have hq := fun (w : World) (a : Option Addr) (n c n' c' : Nat) => Lib.run_eql_slice_nil (P := Try.prog) w 26 9 a n c n' c' Try.underlying26
  go_enter Try.func18, Try.ntmps18
  go_wp2
  go_ret
  exact ⟨rfl, rfl⟩

set_option maxHeartbeats 400000 in
theorem clone_some (a : Addr) (n cap : Nat) (f : Nat → ByteArray) (w : World) (h : Strs w (some a) n cap f) (hn : n ≤ 1048576) :
    Calls Try.prog 18 #[.slice (some a) n cap] w fun e w' => e = .returned (.slice (some ⟨w.heap.size, 0, none⟩) n n) ∧ w'.rowIs w.heap.size 9 n (fun j => .string (f j)) ∧ Below w.heap.size w w' := by
  have hq := fun (w : World) (a : Option Addr) (n c n' c' : Nat) => Lib.run_eql_slice_nil (P := Try.prog) w 26 9 a n c n' c' Try.underlying26
  have hmk := fun w => run_make_row' (P := Try.prog) 26 9 (.string ⟨#[]⟩) 16 Try.underlying26 info9 rfl .i64 .i64 n (by omega) (by omega) w
  go_enter Try.func18, Try.ntmps18
  go_wp2
  clear hq hmk
  go_loopw [4] (fun i wr => ∃ k : Nat, k ≤ n ∧ i = .int .i64 k ∧ wr.rowIs w.heap.size 9 n (fun j => if j < k then .string (f j) else .string ⟨#[]⟩) ∧ Below w.heap.size w wr) (fun i _ => n - (intOf i).toNat)
  case atStart => exact ⟨0, by omega, rfl, (World.rowIs_made w _ n 9).congr (fun j _ => by simp), (Below.refl _ _).alloc (Nat.le_refl _) _⟩
  case round =>
    obtain ⟨k, hk, rfl, hrow, hbel⟩ := hrel
    by_cases hlt : (k : Int) < (n : Int)
    · obtain ⟨b, off, e, hbl, hc⟩ := h.cells (by omega)
      cases e
      have c1 : wr.cell? ⟨b, off + k, none⟩ = some (.string (f k)) := by rw [hbel.cell (by exact hbl)]; exact hc k (by omega)
      have c2 : wr.cell? ⟨w.heap.size, k, none⟩ = some (.string ⟨#[]⟩) := by have := hrow.cell (i := k) (by omega); simpa using this
      have c3 := hrow.frozen k
      have hrow' := hrow.set k (.string (f k))
      have hbel' := hbel.setCell (p := ⟨w.heap.size, k, none⟩) (Nat.le_refl _) (.string (f k))
      clear h hc hrow hbel
      go_wp2
      go_roundw
      case rel => exact ⟨k + 1, by omega, by go_num, hrow'.congr (fun j hj => by by_cases e : j = k <;> simp [e] <;> (try omega) <;> (split <;> (try split) <;> first | rfl | omega)), hbel'⟩
      case measure => simp [intOf]; omega
    · go_wp2
      go_ret
      exact ⟨rfl, hrow.congr (fun j hj => by rw [if_pos (by omega)]), hbel⟩

/-- 'cloneStrings', nil or not. -/
theorem clone_calls (ao : Option Addr) (n cap : Nat) (f : Nat → ByteArray) (w : World) (h : Strs w ao n cap f) (hn : n ≤ 1048576) :
    Calls Try.prog 18 #[.slice ao n cap] w fun e w' => ∃ ao', e = .returned (.slice ao' n n) ∧ Strs w' ao' n n f ∧ Below w.heap.size w w' ∧ ∀ a, ao' = some a → a.block = w.heap.size := by
  cases ao with
  | none =>
    have hz := h.nil rfl
    subst hz
    refine (clone_nil w 0 cap).mono ?_
    rintro e w' ⟨rfl, rfl⟩
    exact ⟨none, rfl, ⟨Nat.le_refl _, fun _ => rfl, fun h => absurd h (by omega)⟩, Below.refl _ _, fun a h => by cases h⟩
  | some a =>
    refine (clone_some a n cap f w h hn).mono ?_
    rintro e w' ⟨rfl, hrow, hb⟩
    exact ⟨_, rfl, Strs.row hrow, hb, fun a h => by cases h; rfl⟩

set_option maxHeartbeats 400000 in
/-- 'sameStrings' of a slice with itself. -/
theorem same_calls (ao : Option Addr) (n cap : Nat) (f : Nat → ByteArray) (w : World) (h : Strs w ao n cap f) (hn : n ≤ 1048576) :
    Calls Try.prog 13 #[.slice ao n cap, .slice ao n cap] w fun e w' => e = .returned (.bool true) ∧ ∃ m, w' = w.drewN m := by
  have hq := fun (w : World) (a : Option Addr) (n c n' c' : Nat) => Lib.run_eql_slice_nil (P := Try.prog) w 26 9 a n c n' c' Try.underlying26
  have hbb : ((ao.isNone) != (ao.isNone)) = false := by simp
  have hnn : ((n : Int) != (n : Int)) = false := by simp
  go_enter Try.func13, Try.ntmps13
  go_wp2
  clear hq hbb hnn
  go_loopw [5] (fun i wr => ∃ k m : Nat, k ≤ n ∧ i = .int .i64 k ∧ wr = w.drewN m) (fun i _ => n - (intOf i).toNat)
  case atStart => exact ⟨0, 0, by omega, rfl, rfl⟩
  case round =>
    obtain ⟨k, m, hk, rfl, rfl⟩ := hrel
    by_cases hlt : (k : Int) < (n : Int)
    · obtain ⟨b, off, rfl, hbl, hc⟩ := h.cells (by omega)
      have c1 := hc k (by omega)
      have hss : ((f k).toList != (f k).toList) = false := by simp
      clear h hc
      go_wp2_with fail
      go_quiet (fail)
      go_wp2
      go_roundw
      case rel => exact ⟨k + 1, m + nq, by omega, by go_num, by simp⟩
      case measure => simp [intOf]; omega
    · go_wp2
      go_ret
      exact ⟨rfl, m, rfl⟩
end Go.Proofs.Qxb6602799a
