/-
  SEAT b6604680a. The walks of zzStrictlyAscending and zzCopyU64.
-/
import Derived.Test.Qxb6604680aBase
namespace Go.Proofs.Qxb6604680a
open Go.RowKit
set_option linter.unusedVariables false

set_option maxHeartbeats 400000 in
theorem asc_calls (ao : Option Addr) (n cap : Nat) (f : Nat → Int) (w : World) (h : Src w ao n f) (hn : n ≤ 1048576) :
    Calls Try.prog 8 #[.slice ao n cap] w fun e w' => AscAns e f n ∧ ∃ m, w' = w.drewN m := by
  go_enter Try.func8, Try.ntmps8
  go_wp2
  go_loopw [3] (fun i wr => ∃ k m : Nat, 1 ≤ k ∧ k ≤ n + 1 ∧ i = .int .i64 k ∧ wr = w.drewN m ∧ AscTo f k) (fun i _ => n - (intOf i).toNat)
  case atStart => exact ⟨1, 0, by omega, by omega, rfl, rfl, ascTo_one f⟩
  case round =>
    obtain ⟨k, m, hk1, hk, rfl, rfl, hasc⟩ := hrel
    by_cases hlt : (k : Int) < (n : Int)
    · obtain ⟨b, off, rfl, hbl, hc⟩ := h.cells (by omega)
      have r1 := h.rng k
      have r2 := h.rng (k - 1)
      have c1 := hc k (by omega)
      have c2 := hc (k - 1) (by omega)
      clear h hc
      go_wp2_with fail
      by_cases hle : f k ≤ f (k - 1)
      · go_quiet (fail)
        go_wp2
        go_ret
        exact ⟨⟨false, rfl, fun h => by cases h⟩, m + nq, by simp⟩
      · go_quiet (fail)
        go_wp2
        go_roundw
        case rel => exact ⟨k + 1, _, by omega, by omega, by go_num, rfl, ascTo_succ hk1 hasc (by omega)⟩
        case measure => simp [intOf]; omega
    · go_wp2
      go_ret
      exact ⟨⟨true, rfl, fun _ => hasc.le (by omega)⟩, m, rfl⟩

theorem info29 : (Try.prog.info? 29).map (fun i => (i.zero, i.size, i.bytes)) = some (some (.int .u64 0), 1, 8) := by kernel_rfl

/-- 'zzCopyU64' of nil. -/
theorem copy_nil (w : World) (n cap : Nat) : Calls Try.prog 9 #[.slice none n cap] w fun e w' => e = .returned (.slice none 0 0) ∧ w' = w := by
  have hq := fun (w : World) (a : Option Addr) (n c n' c' : Nat) => Lib.run_eql_slice_nil (P := Try.prog) w 22 29 a n c n' c' Try.underlying22
  go_enter Try.func9, Try.ntmps9
  go_wp2
  go_ret
  exact ⟨rfl, rfl⟩

set_option maxHeartbeats 400000 in
/-- 'zzCopyU64' of a slice that is not nil: a new row with the same numbers. -/
theorem copy_some (a : Addr) (n cap : Nat) (f : Nat → Int) (w : World) (h : Src w (some a) n f) (hn : n ≤ 1048576) :
    Calls Try.prog 9 #[.slice (some a) n cap] w fun e w' => e = .returned (.slice (some ⟨w.heap.size, 0, none⟩) n n) ∧ w'.rowIs w.heap.size 29 n (fun j => .int .u64 (f j)) ∧ Below w.heap.size w w' := by
  have hq := fun (w : World) (a : Option Addr) (n c n' c' : Nat) => Lib.run_eql_slice_nil (P := Try.prog) w 22 29 a n c n' c' Try.underlying22
  have hmk := fun w => run_make_row' (P := Try.prog) 22 29 (.int .u64 0) 8 Try.underlying22 info29 rfl .i64 .i64 n (by omega) (by omega) w
  go_enter Try.func9, Try.ntmps9
  go_wp2
  clear hq hmk
  go_loopw [4] (fun i wr => ∃ k : Nat, k ≤ n ∧ i = .int .i64 k ∧ wr.rowIs w.heap.size 29 n (fun j => .int .u64 (if j < k then f j else 0)) ∧ Below w.heap.size w wr) (fun i _ => n - (intOf i).toNat)
  case atStart => exact ⟨0, by omega, rfl, (World.rowIs_made w _ n 29).congr (fun j _ => by simp), (Below.refl _ _).alloc (Nat.le_refl _) _⟩
  case round =>
    obtain ⟨k, hk, rfl, hrow, hbel⟩ := hrel
    by_cases hlt : (k : Int) < (n : Int)
    · obtain ⟨b, off, e, hbl, hc⟩ := h.cells (by omega)
      cases e
      have r1 := h.rng k
      have c1 : wr.cell? ⟨b, off + k, none⟩ = some (.int .u64 (f k)) := by rw [hbel.cell (by exact hbl)]; exact hc k (by omega)
      have c2 := hrow.cell (i := k) (by omega)
      have c3 := hrow.frozen k
      have hrow' := hrow.set k (.int .u64 (f k))
      have hbel' := hbel.setCell (p := ⟨w.heap.size, k, none⟩) (Nat.le_refl _) (.int .u64 (f k))
      clear h hc hrow hbel
      go_wp2
      go_roundw
      case rel => exact ⟨k + 1, by omega, by go_num, hrow'.congr (fun j hj => by by_cases e : j = k <;> simp [e] <;> (try omega) <;> (split <;> (try split) <;> first | rfl | omega)), hbel'⟩
      case measure => simp [intOf]; omega
    · go_wp2
      go_ret
      exact ⟨rfl, hrow.congr (fun j hj => by rw [if_pos (by omega)]), hbel⟩

end Go.Proofs.Qxb6604680a
