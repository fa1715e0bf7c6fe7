/-
  SEAT b6604680a. The walks of keepRegisters and zzRegistersAfterKeep.
-/
import Derived.Test.Qxb6604680aWalkB
namespace Go.Proofs.Qxb6604680a
open Go.RowKit
set_option linter.unusedVariables false

theorem info5 : (Try.prog.info? 5).map (fun i => (i.zero, i.size, i.bytes)) = some (some (.int .u8 0), 1, 1) := by kernel_rfl

/-- A sketch's block: the two fields. -/
def fields (x y : Value) : Nat → Value := fun j => if j = 0 then x else y

set_option maxHeartbeats 800000 in
theorem keep_calls (s : Nat) (ao : Option Addr) (n cap : Nat) (f : Nat → Int) (w0 w : World) (h : Src w0 ao n f) (hn : n ≤ 1048576)
    (hs : w0.heap.size = s) (hz : w.heap.size = s + 1) (hb : Below s w0 w) (hS : w.rowIs s 50 2 (fields (.slice ao n cap) (.slice none 0 0))) :
    Calls Try.prog 30 #[.pointer (some ⟨s, 0, none⟩)] w fun e w' => e = .returned (.tuple #[]) ∧ w'.rowIs s 50 2 (fields (.slice none 0 0) (.slice (some ⟨s + 1, 0, none⟩) 8192 8192)) ∧ w'.rowIs (s + 1) 5 8192 (fun j => .int .u8 (regs f n j)) ∧ Below s w0 w' ∧ s + 1 < w'.heap.size := by
  have hmk : ∀ w, (Instr.makeSlice 25 (.int .i64 8192) (.int .i64 8192)).run Try.prog w = .ok (.slice (some ⟨w.heap.size, 0, none⟩) 8192 8192) (w.alloc (.cells (madeCells #[.int .u8 0] 8192) 5)) := fun w => run_make_row' (P := Try.prog) 25 5 (.int .u8 0) 1 Try.underlying25 info5 rfl .i64 .i64 8192 (by omega) (by omega) w
  have hc0 : w.cell? ⟨s, 0, none⟩ = some (.slice ao n cap) := hS.cell (by omega)
  have hc1 : w.cell? ⟨s, 1, none⟩ = some (.slice none 0 0) := hS.cell (by omega)
  have hf0 := hS.frozen 0
  have hf1 := hS.frozen 1
  go_enter Try.func30, Try.ntmps30
  go_wp2_with fail
  have q1 : ((w.setCell ⟨s, 1, none⟩ (.slice (some ⟨s + 1, 0, none⟩) 8192 8192)).alloc (.cells (madeCells #[.int .u8 0] 8192) 5)).rowIs s 50 2 (fields (.slice ao n cap) (.slice (some ⟨s + 1, 0, none⟩) 8192 8192)) :=
    ((hS.set 1 _).congr (fun j hj => by match j, hj with
      | 0, _ => rfl
      | 1, _ => rfl)).alloc _
  have q2 : ((w.setCell ⟨s, 1, none⟩ (.slice (some ⟨s + 1, 0, none⟩) 8192 8192)).alloc (.cells (madeCells #[.int .u8 0] 8192) 5)).rowIs (s + 1) 5 8192 (fun j => .int .u8 (regs f 0 j)) := by
    have := World.rowIs_made (w.setCell ⟨s, 1, none⟩ (.slice (some ⟨s + 1, 0, none⟩) 8192 8192)) (.int .u8 0) 8192 5
    rw [show (w.setCell ⟨s, 1, none⟩ (.slice (some ⟨s + 1, 0, none⟩) 8192 8192)).heap.size = s + 1 from by simp [World.setCell, hz]] at this
    exact this
  have q3 : Below s w0 ((w.setCell ⟨s, 1, none⟩ (.slice (some ⟨s + 1, 0, none⟩) 8192 8192)).alloc (.cells (madeCells #[.int .u8 0] 8192) 5)) :=
    (hb.setCell (Nat.le_refl _) _).alloc (by simp [World.setCell, hz]) _
  have q4 : s + 1 < ((w.setCell ⟨s, 1, none⟩ (.slice (some ⟨s + 1, 0, none⟩) 8192 8192)).alloc (.cells (madeCells #[.int .u8 0] 8192) 5)).heap.size := q2.lt
  clear hmk hc0 hc1 hf0 hf1 hS hb hz
  generalize ((w.setCell ⟨s, 1, none⟩ (.slice (some ⟨s + 1, 0, none⟩) 8192 8192)).alloc (.cells (madeCells #[.int .u8 0] 8192) 5)) = W at *
  go_loopw [13] (fun i wr => ∃ k : Nat, k ≤ n ∧ i = .int .i64 k ∧ wr.rowIs s 50 2 (fields (.slice ao n cap) (.slice (some ⟨s + 1, 0, none⟩) 8192 8192)) ∧ wr.rowIs (s + 1) 5 8192 (fun j => .int .u8 (regs f k j)) ∧ Below s w0 wr) (fun i _ => n - (intOf i).toNat)
  case atStart => exact ⟨0, Nat.zero_le _, rfl, q1, q2, q3⟩
  case round =>
    obtain ⟨k, hk, rfl, p1, p2, p3⟩ := hrel
    clear q1 q2 q3 q4
    by_cases hlt : (k : Int) < (n : Int)
    · obtain ⟨b, off, rfl, hbl, hc⟩ := h.cells (by omega)
      obtain ⟨r1, r2⟩ := h.rng k
      have c1 : wr.cell? ⟨b, off + k, none⟩ = some (.int .u64 (f k)) := by rw [p3.cell (by rw [← hs]; exact hbl)]; exact hc k (by omega)
      have P1 : Hid (wr.rowIs s 50 2 (fields (.slice (some ⟨b, off, none⟩) n cap) (.slice (some ⟨s + 1, 0, none⟩) 8192 8192))) := p1
      have P2 : Hid (wr.rowIs (s + 1) 5 8192 (fun j => .int .u8 (regs f k j))) := p2
      clear p1 p2 hc
      go_wp2_with fail
      refine (raise_calls s (s + 1) (f k) (regs f k) wr r1 r2 (P1.out.cell (i := 1) (by omega)) P2.out (regs_rng f k)).mono ?_
      rintro e w' ⟨rfl, rfl⟩
      have R1 : Hid ((wr.setCell ⟨s + 1, top (f k), none⟩ (.int .u8 (max (regs f k (top (f k))) (rnk (f k))))).drew.rowIs s 50 2 (fields (.slice (some ⟨b, off, none⟩) n cap) (.slice (some ⟨s + 1, 0, none⟩) 8192 8192))) := (P1.out.setOther (by simp) _).drew
      have R2 : Hid ((wr.setCell ⟨s + 1, top (f k), none⟩ (.int .u8 (max (regs f k (top (f k))) (rnk (f k))))).drew.rowIs (s + 1) 5 8192 (fun j => .int .u8 (regs f (k + 1) j))) :=
        ((P2.out.set (top (f k)) _).congr (fun j hj => by
          simp only [regs]
          by_cases e : j = top (f k)
          · simp [e]
          · simp [e])).drew
      have R3 : Hid (Below s w0 (wr.setCell ⟨s + 1, top (f k), none⟩ (.int .u8 (max (regs f k (top (f k))) (rnk (f k))))).drew) := (p3.setCell (by simp) _).drew
      clear P1 P2 p3
      go_wp2
      go_roundw
      case rel => exact ⟨k + 1, by omega, by go_num, R1.out, R2.out, R3.out⟩
      case measure => simp [intOf]; omega
    · have he : k = n := by omega
      subst he
      have hf0 := p1.frozen 0
      have hc0 := p1.cell (i := 0) (by omega)
      go_wp2
      go_end0
      exact ⟨rfl, (p1.set 0 _).congr (fun j hj => by match j, hj with
        | 0, _ => rfl
        | 1, _ => rfl), p2.setOther (by simp) _, p3.setCell (Nat.le_refl _) _, (p2.setOther (a := ⟨s, 0, none⟩) (by simp) (.slice none 0 0)).lt⟩

set_option maxHeartbeats 400000 in
/-- 'zzRegistersAfterKeep': 8192 registers in a new row, and the hashes are gone. -/
theorem after_calls (ao : Option Addr) (n cap : Nat) (f : Nat → Int) (w : World) (h : Src w ao n f) (hn : n ≤ 1048576) :
    Calls Try.prog 10 #[.slice ao n cap] w fun e w' => e = .returned (.tuple #[.slice (some ⟨w.heap.size + 1, 0, none⟩) 8192 8192, .bool true]) ∧ w'.rowIs (w.heap.size + 1) 5 8192 (fun j => .int .u8 (regs f n j)) ∧ Below w.heap.size w w' := by
  have hq := fun (w : World) (a : Option Addr) (n c n' c' : Nat) => Lib.run_eql_slice_nil (P := Try.prog) w 22 29 a n c n' c' Try.underlying22
  go_enter Try.func10, Try.ntmps10
  go_wp2_with (first | (go_at_call 23; go_in) | (go_at_call 24; go_in) | fail)
  have hS : (w.alloc (.cells #[.slice ao n cap, .slice none 0 0] 50)).rowIs w.heap.size 50 2 (fields (.slice ao n cap) (.slice none 0 0)) :=
    World.rowIs_alloc w #[.slice ao n cap, .slice none 0 0] 50 _ (fun i hi => by match i, hi with
      | 0, _ => rfl
      | 1, _ => rfl)
  refine (keep_calls w.heap.size ao n cap f w _ h hn rfl (by simp) ((Below.refl _ _).alloc (Nat.le_refl _) _) hS).mono ?_
  rintro e w1 ⟨rfl, p1, p2, p3, p4⟩
  clear h hS
  have c0 : w1.cell? ⟨w.heap.size, 0, none⟩ = some (.slice none 0 0) := p1.cell (by omega)
  have c1 : w1.cell? ⟨w.heap.size, 1, none⟩ = some (.slice (some ⟨w.heap.size + 1, 0, none⟩) 8192 8192) := p1.cell (by omega)
  have P2 : Hid (w1.rowIs (w.heap.size + 1) 5 8192 (fun j => .int .u8 (regs f n j))) := p2
  clear p1 p2
  go_wp2_with go_in
  go_end0
  go_wp2_with go_in
  go_ret2
  exact ⟨rfl, P2.out, p3⟩
end Go.Proofs.Qxb6604680a
