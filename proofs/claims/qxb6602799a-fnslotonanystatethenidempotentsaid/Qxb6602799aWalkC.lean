/-
  SEAT b6602799a. The walks of cloneInts, of nestedBytes at any length, and of ZZMakeUserSlots at any names and map.
-/
import Derived.Test.Qxb6602799aSlot
namespace Go.Proofs.Qxb6602799a
open Go.RowKit
set_option linter.unusedVariables false

/-- THE NUMBERS THAT A SLICE OF ints HOLDS. -/
structure Ints (w : World) (ao : Option Addr) (n : Nat) (g : Nat → Int) : Prop where
  nil : ao = none → n = 0
  cells : 0 < n → ∃ b off, ao = some ⟨b, off, none⟩ ∧ b < w.heap.size ∧ ∀ j, j < n → w.cell? ⟨b, off + j, none⟩ = some (.int .i64 (g j))
  rng : ∀ j, (Lit.int .i64 (g j)).wf = true

theorem Ints.below {w w' : World} {ao : Option Addr} {n : Nat} {g : Nat → Int} (h : Ints w ao n g) (hb : Below w.heap.size w w') : Ints w' ao n g := by
  refine ⟨h.nil, fun hn => ?_, h.rng⟩
  obtain ⟨b, off, e, hlt, hc⟩ := h.cells hn
  exact ⟨b, off, e, Nat.lt_of_lt_of_le hlt hb.size, fun j hj => by rw [hb.cell (by exact hlt)]; exact hc j hj⟩
theorem Ints.row {w : World} {b : Nat} {t : TypeId} {n : Nat} {g : Nat → Int} (h : w.rowIs b t n (fun j => .int .i64 (g j))) (hr : ∀ j, (Lit.int .i64 (g j)).wf = true) : Ints w (some ⟨b, 0, none⟩) n g :=
  ⟨fun e => (by cases e), fun _ => ⟨b, 0, rfl, h.lt, fun j hj => by rw [Nat.zero_add]; exact h.cell hj⟩, hr⟩

theorem info3' : (Try.prog.info? 3).map (fun i => (i.zero, i.size, i.bytes)) = some (some (.int .i64 0), 1, 8) := by kernel_rfl

theorem cints_nil (w : World) (n cap : Nat) : Calls Try.prog 19 #[.slice none n cap] w fun e w' => e = .returned (.slice none 0 0) ∧ w' = w := by
  have hq := fun (w : World) (a : Option Addr) (n c n' c' : Nat) => Lib.run_eql_slice_nil (P := Try.prog) w 28 3 a n c n' c' Try.underlying28
  go_enter Try.func19, Try.ntmps19
  go_wp2
  go_ret
  exact ⟨rfl, rfl⟩

set_option maxHeartbeats 400000 in
theorem cints_some (a : Addr) (n cap : Nat) (g : Nat → Int) (w : World) (h : Ints w (some a) n g) (hn : n ≤ 1048576) :
    Calls Try.prog 19 #[.slice (some a) n cap] w fun e w' => e = .returned (.slice (some ⟨w.heap.size, 0, none⟩) n n) ∧ w'.rowIs w.heap.size 3 n (fun j => .int .i64 (g j)) ∧ Below w.heap.size w w' := by
  have hq := fun (w : World) (a : Option Addr) (n c n' c' : Nat) => Lib.run_eql_slice_nil (P := Try.prog) w 28 3 a n c n' c' Try.underlying28
  have hmk := fun w => run_make_row' (P := Try.prog) 28 3 (.int .i64 0) 8 Try.underlying28 info3' rfl .i64 .i64 n (by omega) (by omega) w
  go_enter Try.func19, Try.ntmps19
  go_wp2
  clear hq hmk
  go_loopw [4] (fun i wr => ∃ k : Nat, k ≤ n ∧ i = .int .i64 k ∧ wr.rowIs w.heap.size 3 n (fun j => .int .i64 (if j < k then g j else 0)) ∧ Below w.heap.size w wr) (fun i _ => n - (intOf i).toNat)
  case atStart => exact ⟨0, by omega, rfl, (World.rowIs_made w _ n 3).congr (fun j _ => by simp), (Below.refl _ _).alloc (Nat.le_refl _) _⟩
  case round =>
    obtain ⟨k, hk, rfl, hrow, hbel⟩ := hrel
    by_cases hlt : (k : Int) < (n : Int)
    · obtain ⟨b, off, e, hbl, hc⟩ := h.cells (by omega)
      cases e
      have c1 : wr.cell? ⟨b, off + k, none⟩ = some (.int .i64 (g k)) := by rw [hbel.cell (by exact hbl)]; exact hc k (by omega)
      have c2 := hrow.cell (i := k) (by omega)
      have c3 := hrow.frozen k
      have hrow' := hrow.set k (.int .i64 (g k))
      have hbel' := hbel.setCell (p := ⟨w.heap.size, k, none⟩) (Nat.le_refl _) (.int .i64 (g k))
      clear h hc hrow hbel
      go_wp2
      go_roundw
      case rel => exact ⟨k + 1, by omega, by go_num, hrow'.congr (fun j hj => by by_cases e : j = k <;> simp [e] <;> (try omega) <;> (split <;> (try split) <;> first | rfl | omega)), hbel'⟩
      case measure => simp [intOf]; omega
    · go_wp2
      go_ret
      exact ⟨rfl, hrow.congr (fun j hj => by rw [if_pos (by omega)]), hbel⟩
theorem cints_calls (ao : Option Addr) (n cap : Nat) (g : Nat → Int) (w : World) (h : Ints w ao n g) (hn : n ≤ 1048576) :
    Calls Try.prog 19 #[.slice ao n cap] w fun e w' => ∃ ao', e = .returned (.slice ao' n n) ∧ Ints w' ao' n g ∧ Below w.heap.size w w' := by
  cases ao with
  | none =>
    have hz := h.nil rfl
    subst hz
    refine (cints_nil w 0 cap).mono ?_
    rintro e w' ⟨rfl, rfl⟩
    exact ⟨none, rfl, h, Below.refl _ _⟩
  | some a =>
    refine (cints_some a n cap g w h hn).mono ?_
    rintro e w' ⟨rfl, hrow, hb⟩
    exact ⟨_, rfl, Ints.row hrow h.rng, hb⟩

/-- 'nestedBytes' at any length. -/
theorem nbytes_any (ao : Option Addr) (m cap : Nat) (Q : Nat → Nm) (w : World) (h : Names w ao m Q) (hm : m ≤ maxLen) (hn : ∀ i, (Q i).n ≤ maxLen) (hf : ∀ i j, ((Q i).f j).size ≤ maxLen) :
    Calls Try.prog 6 #[.slice ao m cap] w fun e w' => Meas e (m ≤ 1048576 ∧ ∀ i, i < m → (Q i).small) ∧ w' = w := by
  by_cases hb : m ≤ 1048576
  · refine (nbytes_calls ao m cap Q w h hb hn hf).mono ?_
    rintro e w' ⟨⟨t, he, h0, h1, h2⟩, rfl⟩
    exact ⟨⟨t, he, h0, h1, fun ht => ⟨hb, h2 ht⟩⟩, rfl⟩
  · clear h hn hf
    unfold maxLen at hm
    have hb' : (1048576 : Int) < (m : Int) := by omega
    go_enter Try.func6, Try.ntmps6
    go_wp2
    go_ret
    exact ⟨⟨1048577, rfl, by omega, by omega, fun h => absurd h (by omega)⟩, rfl⟩

/-! ### ZZMakeUserSlots -/
theorem vals_get (V : Nat → Nm) (L : Nat) : vals V L = (List.range L).map (fun i => .slice (V i).ao (V i).n (V i).c) := rfl
theorem own_row {w : World} {B g L : Nat} {V : Nat → Nm} (hB : B ≤ g) (h : w.rowIs g 44 L (fun i => .slice (V i).ao (V i).n (V i).c)) (hL : L ≤ maxLen) : w.ownsRow B 44 1 (.slice (some ⟨g, 0, none⟩) L L) L (vals V L) := by
  obtain ⟨c, hc, hn, hf⟩ := h
  refine ⟨by simp [vals], .inr ⟨g, L, c, rfl, hB, hc, Nat.le_refl _, hL, by simp [hn], ?_⟩⟩
  apply List.ext_getElem?
  intro i
  by_cases hi : i < L
  · rw [List.getElem?_take, if_pos (by omega)]
    have := hf i hi
    simp only [vals, List.getElem?_map, List.getElem?_range hi]
    rw [Array.getElem?_toList, this]; rfl
  · rw [List.getElem?_take, if_neg (by omega)]
    exact (List.getElem?_eq_none (by simp [vals]; omega)).symm

/-- The state that ZZMakeUserSlots makes. -/
def Made (mo : Option Nat) (L : Nat) (V : Nat → Nm) (n : Nat) (M : List UInt8 → Option Int) (sz : Nat) (e : Ending) (w w' : World) : Prop :=
  ∃ s no nc, e = .returned (.pointer (some ⟨s, 0, none⟩)) ∧ St w.heap.size mo w' s no L nc V mo n M sz ∧ Below w.heap.size w w'
theorem made_of {mo : Option Nat} {L : Nat} {V : Nat → Nm} {n : Nat} {M : List UInt8 → Option Int} {sz : Nat} {w w1 : World} {no : Option Addr} {nc : Nat} (hm : MapV w mo n M sz) (hb : Below w.heap.size w w1) (ho : w1.ownsRow w.heap.size 44 1 (.slice no L nc) L (vals V L)) :
    Made mo L V n M sz (.returned (.pointer (some ⟨w1.heap.size, 0, none⟩))) w (w1.alloc (.cells #[.slice no L nc, .map mo] 46)) := by
  have hA : Below w1.heap.size w1 (w1.alloc (.cells #[.slice no L nc, .map mo] 46)) := (Below.refl _ _).alloc (Nat.le_refl _) _
  have hlt : ∀ b, mo = some b → b < w.heap.size := fun b e => by subst e; exact hm.lt
  refine ⟨_, no, nc, rfl, ⟨hb.size, ?_, ?_, ?_, fun b e => .inl e.symm⟩, hb.trans (hA.mono hb.size)⟩
  · exact World.rowIs_alloc w1 #[.slice no L nc, .map mo] 46 _ (fun i hi => by match i, hi with
      | 0, _ => rfl
      | 1, _ => rfl)
  · exact own_kept ho (fun g c hc => hA.block g (Array.getElem?_eq_some_iff.1 hc).1)
  · exact hm.of_block (fun b e => (hA.block b (Nat.lt_of_lt_of_le (hlt b e) hb.size)).trans (hb.block b (hlt b e)))

theorem info44' : (Try.prog.info? 44).map (fun i => (i.zero, i.size, i.bytes)) = some (some (.slice none 0 0), 1, 24) := by kernel_rfl

set_option maxHeartbeats 1000000 in
theorem mk_calls (ao : Option Addr) (L cap : Nat) (V : Nat → Nm) (mo : Option Nat) (n : Nat) (M : List UInt8 → Option Int) (sz : Nat) (w : World) (h : Names w ao L V) (hL : L ≤ 1048576) (hm : MapV w mo n M sz) :
    Calls Try.prog 9 #[.slice ao L cap, .map mo] w fun e w' => Made mo L V n M sz e w w' := by
  have hq := fun (w : World) (a : Option Addr) (n c n' c' : Nat) => run_neq_slice_nil_any (P := Try.prog) w 22 26 a n c n' c' Try.underlying22
  cases ao with
  | none =>
    have hz := h.nil rfl
    subst hz
    have HM : Hid (Made mo 0 V n M sz (.returned (.pointer (some ⟨w.heap.size, 0, none⟩))) w (w.alloc (.cells #[.slice none 0 0, .map mo] 46))) := made_of hm (Below.refl _ _) ⟨rfl, .inl ⟨rfl, rfl⟩⟩
    clear h hm
    go_enter Try.func9, Try.ntmps9
    go_wp2
    go_ret
    exact HM.out
  | some a =>
    have hmk := fun w => run_make_row' (P := Try.prog) 43 44 (.slice none 0 0) 24 Try.underlying43 info44' rfl .i64 .i64 L (by omega) (by omega) w
    have Hm : Hid _ := hm
    clear hm
    go_enter Try.func9, Try.ntmps9
    go_wp2
    clear hq hmk
    go_loopw [6] (fun i wr => ∃ k : Nat, k ≤ L ∧ i = .int .i64 k ∧ wr.rowIs w.heap.size 44 L (fun i => if i < k then .slice (V i).ao (V i).n (V i).c else .slice none 0 0) ∧ Below w.heap.size w wr) (fun i _ => L - (intOf i).toNat)
    case atStart => exact ⟨0, by omega, rfl, (World.rowIs_made w _ L 44).congr (fun j _ => by simp), (Below.refl _ _).alloc (Nat.le_refl _) _⟩
    case round =>
      obtain ⟨k, hk, rfl, hrow, hbel⟩ := hrel
      by_cases hlt : (k : Int) < (L : Int)
      · obtain ⟨b, off, e, hbl, hc⟩ := h.cells (by omega)
        cases e
        have c1 : wr.cell? ⟨b, off + k, none⟩ = some (.slice (V k).ao (V k).n (V k).c) := by rw [hbel.cell (by exact hbl)]; exact hc k (by omega)
        have c2 : wr.cell? ⟨w.heap.size, k, none⟩ = some (.slice none 0 0) := by have := hrow.cell (i := k) (by omega); simpa using this
        have c3 := hrow.frozen k
        have hrow' := hrow.set k (.slice (V k).ao (V k).n (V k).c)
        have hbel' := hbel.setCell (p := ⟨w.heap.size, k, none⟩) (Nat.le_refl _) (.slice (V k).ao (V k).n (V k).c)
        clear h hc hrow hbel Hm
        go_wp2
        go_roundw
        case rel => exact ⟨k + 1, by omega, by go_num, hrow'.congr (fun j hj => by by_cases e : j = k <;> simp [e] <;> (try omega) <;> (split <;> (try split) <;> first | rfl | omega)), hbel'⟩
        case measure => simp [intOf]; omega
      · have hkL : L = k := by omega
        subst hkL
        have hr := hrow.congr (g := fun i => .slice (V i).ao (V i).n (V i).c) (fun j hj => by rw [if_pos hj])
        have HM := made_of Hm.out hbel (own_row (Nat.le_refl _) hr (by unfold maxLen; omega))
        have HM' : Hid _ := HM
        clear HM h Hm hrow hr hbel
        go_wp2
        go_ret
        exact HM'.out
end Go.Proofs.Qxb6602799a
