/-
  SEAT b6604775aD. The walks of ShiftOffset, ZZshiftOffsetFormatError and the law FnShiftOffsetMovesFormatError.
-/
import Derived.Test.Qxb6604775aDoorAs
import Derived.Below
import Derived.LaidEqlPtr
namespace Go.Proofs.Qxb6604775aDoor
open Go.RowKit
set_option linter.unusedVariables false

/-- What errors.As reads: the handle of the type 'error'. -/
def Laid (w : World) : Prop := w.cell? ⟨0, 0, none⟩ = some (.iface 70 (.agg #[.pointer (some ⟨4, 37, none⟩)]))

theorem lt_of_cell {w : World} {a : Addr} {v : Value} (h : w.cell? a = some v) : a.block < w.heap.size := by
  rcases Nat.lt_or_ge a.block w.heap.size with h' | h'
  · exact h'
  · simp [World.cell?, Array.getElem?_eq_none h'] at h
theorem Laid.below {w w' : World} {B : Nat} (h : Laid w) (hB : 0 < B) (hb : Below B w w') : Laid w' := (hb.cell (p := ⟨0, 0, none⟩) hB).trans h

theorem as_calls (e t : Addr) (old : Value) (w : World) (hg : Laid w) (ht0 : w.cell? t = some old) (hf0 : w.frozen? t = false) :
    Calls Tryd.prog 13 #[.iface 30 (.pointer (some e)), .iface 40 (.pointer (some t))] w fun ev w' => ev = .returned (.bool true) ∧ w'.cell? t = some (.pointer (some e)) ∧ Below t.block w w' := by
  refine (as_hit e t old w hg ht0 hf0).mono ?_
  rintro ev w' ⟨rfl, rfl⟩
  have hlt := lt_of_cell ht0
  refine ⟨rfl, ?_, ?_⟩
  · refine World.cell?_setCell_same' _ _ _ ?_
    rw [World.cell?_alloc_lt _ _ t (by simp; omega), World.cell?_alloc_lt _ _ t (by simp; omega), World.cell?_alloc_lt _ _ t (by simp; omega), World.cell?_alloc_lt _ _ t hlt, ht0]
    rfl
  · exact (((((Below.refl _ _).alloc (by omega) _).alloc (by simp; omega) _).alloc (by simp; omega) _).alloc (by simp; omega) _).setCell (Nat.le_refl _) _

/-- 'ShiftOffset' at a *FormatError: the same error; its Offset is moved. -/
theorem shift_calls (b : Nat) (off base : Int) (reason : ByteArray) (w : World) (hg : Laid w) (hb0 : 0 < b)
    (h0 : w.cell? ⟨b, 0, none⟩ = some (.int .i64 off)) (h1 : w.cell? ⟨b, 1, none⟩ = some (.string reason)) (hf : w.frozen? ⟨b, 0, none⟩ = false) :
    Calls Tryd.prog 11 #[.iface 30 (.pointer (some ⟨b, 0, none⟩)), .int .i64 base] w fun ev w' => ev = .returned (.iface 30 (.pointer (some ⟨b, 0, none⟩))) ∧ w'.cell? ⟨b, 0, none⟩ = some (.int .i64 (wrap64 (off + base))) ∧ w'.cell? ⟨b, 1, none⟩ = some (.string reason) ∧ Below b w w' := by
  have hbl : b < w.heap.size := lt_of_cell h0
  have hB1 : Below w.heap.size w (w.alloc (.cells #[.pointer none] 30)) := (Below.refl _ _).alloc (Nat.le_refl _) _
  have ht : (w.alloc (.cells #[.pointer none] 30)).cell? ⟨w.heap.size, 0, none⟩ = some (.pointer none) := by simp
  have hft : (w.alloc (.cells #[.pointer none] 30)).frozen? ⟨w.heap.size, 0, none⟩ = false := by simp
  have hgA : Laid (w.alloc (.cells #[.pointer none] 30)) := hg.below (by omega) hB1
  have HG : Hid _ := hgA
  go_enter Tryd.func11, Tryd.ntmps11
  go_wp2_with fail
  refine (as_calls _ _ (.pointer none) _ hgA ht hft).mono ?_
  rintro ev w1 ⟨rfl, hc, hB2⟩
  have hB3 : Below w.heap.size w w1 := hB1.trans hB2
  have k0 := (hB3.cell (p := ⟨b, 0, none⟩) hbl).trans h0
  have k1 := (hB3.cell (p := ⟨b, 1, none⟩) hbl).trans h1
  have kf := (hB3.frozen (p := ⟨b, 0, none⟩) hbl).trans hf
  clear h0 h1 hf hB1 hB2 ht hft hgA HG
  go_wp2_with fail
  go_ret
  refine ⟨rfl, ?_, ?_, (hB3.mono (Nat.le_of_lt hbl)).setCell (p := ⟨b, 0, none⟩) (Nat.le_refl _) _⟩
  · exact World.cell?_setCell_same' _ _ _ (by rw [k0]; rfl)
  · rw [World.cell?_setCell_other _ _ _ _ (by simp)]; exact k1

theorem assertP (a : Addr) (w : World) : (Instr.typeAssert (.iface 30 (.pointer (some a))) 37 30 true).run Tryd.prog w = .ok (.tuple #[.pointer (some a), .bool true]) w := by kernel_rfl
theorem eqlP (a : Addr) (w : World) : (binOp .eql 30 (.pointer (some a)) (.pointer (some a))).run Tryd.prog w = .ok (.bool true) w := by
  obtain ⟨j, hj⟩ := Option.isSome_iff_exists.1 (show (Tryd.prog.info? 32).isSome = true by kernel_rfl)
  exact run_eql_ptr_same w a Tryd.underlying30 hj

set_option maxRecDepth 100000 in
/-- 'ZZshiftOffsetFormatError'. -/
theorem zz_calls (b : Nat) (off base : Int) (reason : ByteArray) (w : World) (hg : Laid w) (hb0 : 0 < b)
    (h0 : w.cell? ⟨b, 0, none⟩ = some (.int .i64 off)) (h1 : w.cell? ⟨b, 1, none⟩ = some (.string reason)) (hf : w.frozen? ⟨b, 0, none⟩ = false) :
    Calls Tryd.prog 9 #[.pointer (some ⟨b, 0, none⟩), .int .i64 base] w fun ev w' => ev = .returned (.pointer (some ⟨b, 0, none⟩)) ∧ w'.cell? ⟨b, 0, none⟩ = some (.int .i64 (wrap64 (off + base))) ∧ w'.cell? ⟨b, 1, none⟩ = some (.string reason) ∧ Below b w w' := by
  go_enter Tryd.func9, Tryd.ntmps9
  go_wp2_with fail
  refine (shift_calls b off base reason _ hg hb0 h0 h1 hf).mono ?_
  rintro ev w1 ⟨rfl, k0, k1, hB⟩
  clear h0 h1 hf
  have hta := assertP
  go_wp2_with fail
  go_ret
  exact ⟨rfl, k0, k1, hB⟩

def AnyBool (e : Ending) : Prop := ∃ b, e = .returned (.bool b)
theorem bytes_any (off base : Int) (s : ByteArray) (w : World) (hs : s.size ≤ maxLen) :
    Calls Tryd.prog 8 #[.int .i64 off, .string s, .int .i64 base] w fun e w' => AnyBool e ∧ w' = w := by
  unfold maxLen at hs
  go_enter Tryd.func8, Tryd.ntmps8
  go_wp2
  all_goals
    go_ret
    exact ⟨⟨_, rfl⟩, rfl⟩

set_option maxRecDepth 100000 in
/-- THE LAW. -/
theorem law_walk (off : Int) (reason : ByteArray) (base : Int) (hs : reason.size ≤ maxLen) (w : World) (hg : Laid w) :
    Calls Tryd.prog 5 #[.int .i64 off, .string reason, .int .i64 base] w fun e w' => e = .returned (.bool true) ∧ Below w.heap.size w w' := by
  have hb0 : 0 < w.heap.size := lt_of_cell hg
  have c0 : (w.alloc (.cells #[.int .i64 off, .string reason] 32)).cell? ⟨w.heap.size, 0, none⟩ = some (.int .i64 off) := by simp
  have c1 : (w.alloc (.cells #[.int .i64 off, .string reason] 32)).cell? ⟨w.heap.size, 1, none⟩ = some (.string reason) := by simp
  have cf : (w.alloc (.cells #[.int .i64 off, .string reason] 32)).frozen? ⟨w.heap.size, 0, none⟩ = false := by simp
  have hB1 : Below w.heap.size w (w.alloc (.cells #[.int .i64 off, .string reason] 32)) := (Below.refl _ _).alloc (Nat.le_refl _) _
  have hgA : Laid (w.alloc (.cells #[.int .i64 off, .string reason] 32)) := hg.below hb0 hB1
  by_cases hbig : (1048576 : Int) < (reason.size : Int)
  · go_enter Tryd.func5, Tryd.ntmps5
    go_wp2_with fail
    refine (bytes_any off base reason _ hs).mono ?_
    rintro e w' ⟨⟨b, rfl⟩, rfl⟩
    unfold maxLen at hs
    cases b <;> (go_wp2_with fail; go_ret; exact ⟨rfl, Below.refl _ _⟩)
  · go_enter Tryd.func5, Tryd.ntmps5
    go_wp2_with fail
    refine (bytes_any off base reason _ hs).mono ?_
    rintro e w' ⟨⟨b, rfl⟩, rfl⟩
    unfold maxLen at hs
    cases b with
    | false => go_wp2_with fail; go_ret; exact ⟨rfl, Below.refl _ _⟩
    | true =>
      go_wp2_with fail
      refine (zz_calls _ off base reason _ hgA hb0 c0 c1 cf).mono ?_
      rintro e w1 ⟨rfl, k0, k1, hB2⟩
      have hB3 : Below w'.heap.size w' w1 := hB1.trans hB2
      clear c0 c1 cf hB1 hB2 hgA hg
      have hep := eqlP
      go_wp2_with fail
      go_ret
      exact ⟨rfl, hB3⟩
end Go.Proofs.Qxb6604775aDoor
