/-
  SEAT b6602799a. What the second law speaks of: the map out of two lists, the state ahead of and behind a call, and what a call leaves alone.
-/
import Derived.Test.Qxb6602799aWalkC
namespace Go.Proofs.Qxb6602799a
open Go.RowKit
set_option linter.unusedVariables false

/-- The map out of the first k keys and values, later keys winning. -/
def Mk (f : Nat → ByteArray) (g : Nat → Int) : Nat → List UInt8 → Option Int
  | 0 => fun _ => none
  | k + 1 => upd (Mk f g k) (f k).data.toList (g k)
theorem Mk_has (f : Nat → ByteArray) (g : Nat → Int) : ∀ k i, i < k → ∃ v, Mk f g k (f i).data.toList = some v
  | 0, i, h => absurd h (by omega)
  | k + 1, i, h => by
    by_cases e : (f i).data.toList = (f k).data.toList
    · exact ⟨g k, by simp only [Mk, upd]; rw [if_pos e]⟩
    · have hk : i ≠ k := fun e2 => e (by rw [e2])
      obtain ⟨v, hv⟩ := Mk_has f g k i (by omega)
      exact ⟨v, by simp only [Mk, upd]; rw [if_neg e]; exact hv⟩
theorem Mk_wf (f : Nat → ByteArray) (g : Nat → Int) (hg : ∀ j, (Lit.int .i64 (g j)).wf = true) : ∀ k t v, Mk f g k t = some v → (Lit.int .i64 v).wf = true
  | 0, t, v, h => by simp [Mk] at h
  | k + 1, t, v, h => by
    simp only [Mk, upd] at h
    split at h
    · cases h; exact hg k
    · exact Mk_wf f g hg k t v h

/-- A cell that lay below B ahead of the calls is as it was: it is none of the map's. -/
theorem keep_cell {B : Nat} {mo : Option Nat} {wP v : World} {n : Nat} {M : List UInt8 → Option Int} {sz : Nat} (hK : Keeps B mo wP v) (hM : MapV wP mo n M sz) {p : Addr} {x : Value} (hp : p.block < B) (hc : wP.cell? p = some x) : v.cell? p = some x := by
  rw [hK.cell hp, hc]
  intro e
  rcases hM with ⟨h, _⟩ | ⟨b, h, D, ⟨es, clock, h1, _⟩, _⟩
  · rw [h] at e; cases e
  · rw [h] at e
    cases e
    simp [World.cell?, h1] at hc
theorem Strs.keep {mo : Option Nat} {wP v : World} {n : Nat} {M : List UInt8 → Option Int} {sz : Nat} {ao : Option Addr} {k c : Nat} {f : Nat → ByteArray} (h : Strs wP ao k c f) (hK : Keeps wP.heap.size mo wP v) (hM : MapV wP mo n M sz) : Strs v ao k c f := by
  refine ⟨h.cap, h.nil, fun hn => ?_⟩
  obtain ⟨b, off, e, hlt, hc⟩ := h.cells hn
  exact ⟨b, off, e, Nat.lt_of_lt_of_le hlt hK.size, fun j hj => keep_cell hK hM hlt (hc j hj)⟩

/-- The state stands so, by whatever names of its own. -/
def Stands (N : Nat) (B : Nat) (mo : Option Nat) (s L : Nat) (V : Nat → Nm) (M : List UInt8 → Option Int) (sz : Nat) (v : World) : Prop :=
  ∃ no nc mo' n', n' ≤ N ∧ St B mo v s no L nc V mo' n' M sz
theorem Stands.below {N B : Nat} {mo : Option Nat} {s L : Nat} {V : Nat → Nm} {M : List UInt8 → Option Int} {sz : Nat} {v v' : World} (h : Stands N B mo s L V M sz v) (hb : Below v.heap.size v v') : Stands N B mo s L V M sz v' := by
  obtain ⟨no, nc, mo', n', h1, h2⟩ := h
  exact ⟨no, nc, mo', n', h1, h2.below hb⟩

theorem stands_nlen {N B : Nat} {mo : Option Nat} {s L : Nat} {V : Nat → Nm} {M : List UInt8 → Option Int} {sz : Nat} {v : World} (h : Stands N B mo s L V M sz v) : Calls Try.prog 11 #[.pointer (some ⟨s, 0, none⟩)] v fun e w' => e = .returned (.int .i64 L) ∧ w' = v := by
  obtain ⟨no, nc, mo', n', _, h2⟩ := h
  exact nlen_calls v h2
theorem stands_slen {N B : Nat} {mo : Option Nat} {s L : Nat} {V : Nat → Nm} {M : List UInt8 → Option Int} {sz : Nat} {v : World} (h : Stands N B mo s L V M sz v) : Calls Try.prog 12 #[.pointer (some ⟨s, 0, none⟩)] v fun e w' => e = .returned (.int .i64 sz) ∧ w' = v := by
  obtain ⟨no, nc, mo', n', _, h2⟩ := h
  exact slen_calls v h2
theorem stands_nat {N B : Nat} {mo : Option Nat} {s L : Nat} {V : Nat → Nm} {M : List UInt8 → Option Int} {sz : Nat} {v : World} (h : Stands N B mo s L V M sz v) {i : Nat} (hi : i < L) (hL : L ≤ 4194304) : Calls Try.prog 14 #[.pointer (some ⟨s, 0, none⟩), .int .i64 i] v fun e w' => e = .returned (.slice (V i).ao (V i).n (V i).c) ∧ w' = v := by
  obtain ⟨no, nc, mo', n', _, h2⟩ := h
  exact nat_calls v i h2 hi hL
theorem stands_sof {N B : Nat} {mo : Option Nat} {s L : Nat} {V : Nat → Nm} {M : List UInt8 → Option Int} {sz : Nat} {v : World} (h : Stands N B mo s L V M sz v) {T : ByteArray} (hT : T.size ≤ maxLen) {x : Int} (hx : M T.data.toList = some x) : Calls Try.prog 15 #[.pointer (some ⟨s, 0, none⟩), .string T] v fun e w' => e = .returned (.tuple #[.int .i64 x, .bool true]) ∧ w' = v := by
  obtain ⟨no, nc, mo', n', _, h2⟩ := h
  have := sof_calls v T hT h2
  rw [hx] at this
  exact this

/-- THE STATE AHEAD OF A CALL: as it was made, or as a call has left it. -/
def Sv (N : Nat) (B : Nat) (mo : Option Nat) (s : Nat) (L0 : Nat) (V0 : Nat → Nm) (M0 : List UInt8 → Option Int) (sz0 L : Nat) (V : Nat → Nm) (M : List UInt8 → Option Int) (sz : Nat) (wP v : World) : Prop :=
  (Stands N B mo s L0 V0 M0 sz0 v ∨ Stands (N + 1) B mo s L V M sz v) ∧ Keeps B mo wP v
/-- .. AND BEHIND IT. -/
def Fv (N : Nat) (B : Nat) (mo : Option Nat) (s L : Nat) (V : Nat → Nm) (M : List UInt8 → Option Int) (sz : Nat) (wP v : World) : Prop := Stands (N + 1) B mo s L V M sz v ∧ Keeps B mo wP v

/-- A call of slot where the text has a number: nothing turns. -/
theorem call_had {N : Nat} {mo : Option Nat} {s L sz : Nat} {V : Nat → Nm} {M : List UInt8 → Option Int} {wP v : World} {n0 sz0 : Nat} {q : Nm} {x : Int} (hS : Sv N wP.heap.size mo s L V M sz L V M sz wP v) (hM : MapV wP mo n0 M sz0) (hq : Strs wP q.ao q.n q.c q.f) (hsm : 8 * q.n + tot q.f q.n ≤ 1048576) (hx : M (jn q.f q.n) = some x) :
    Calls Try.prog 10 #[.pointer (some ⟨s, 0, none⟩), .slice q.ao q.n q.c] v fun e w' => e = .returned (.int .i64 x) ∧ Fv N wP.heap.size mo s L V M sz wP w' := by
  obtain ⟨h1, hK⟩ := hS
  have h2 : Stands (N + 1) wP.heap.size mo s L V M sz v := by
    rcases h1 with ⟨no, nc, mo', n', hn, hSt⟩ | h
    · exact ⟨no, nc, mo', n', by omega, hSt⟩
    · exact h
  obtain ⟨no, nc, mo', n', hn, hSt⟩ := h2
  refine (zslot_hit v q x hSt (hq.keep hK hM) hsm hx).mono ?_
  rintro e w' ⟨rfl, hb⟩
  exact ⟨rfl, ⟨no, nc, mo', n', hn, hSt.below hb⟩, hK.trans (Keeps.of_below hb hSt.base)⟩

/-- A call of slot where the text had none: the first gives it the next number; the second finds it. -/
theorem call_new {N : Nat} {mo : Option Nat} {s L sz : Nat} {V : Nat → Nm} {M : List UInt8 → Option Int} {wP v : World} {n0 sz0 : Nat} {q : Nm} (hS : Sv N wP.heap.size mo s L V M sz (L + 1) (setNm V L q) (upd M (jn q.f q.n) L) (sz + 1) wP v) (hL : L ≤ 1048576)
    (hN : N ≤ 1048578)
    (hM : MapV wP mo n0 M sz0) (hq : Strs wP q.ao q.n q.c q.f) (hsm : 8 * q.n + tot q.f q.n ≤ 1048576) (hx : M (jn q.f q.n) = none) :
    Calls Try.prog 10 #[.pointer (some ⟨s, 0, none⟩), .slice q.ao q.n q.c] v fun e w' => e = .returned (.int .i64 L) ∧ Fv N wP.heap.size mo s (L + 1) (setNm V L q) (upd M (jn q.f q.n) L) (sz + 1) wP w' := by
  obtain ⟨h1, hK⟩ := hS
  rcases h1 with ⟨no, nc, mo', n', hn, hSt⟩ | ⟨no, nc, mo', n', hn, hSt⟩
  · refine (zslot_miss v q hSt (hq.keep hK hM) hsm hx (by omega) (by omega)).mono ?_
    rintro e w' ⟨rfl, no', nc', mo'', n'', h3, h4, h5⟩
    exact ⟨rfl, ⟨no', nc', mo'', n'', by omega, h4⟩, hK.trans h5⟩
  · refine (zslot_hit v q L hSt (hq.keep hK hM) hsm (by simp [upd])).mono ?_
    rintro e w' ⟨rfl, hb⟩
    exact ⟨rfl, ⟨no, nc, mo', n', hn, hSt.below hb⟩, hK.trans (Keeps.of_below hb hSt.base)⟩

theorem run_makeMap_hint (n : Nat) (w : World) : (Instr.makeMap 41 (some (.int .i64 (n : Int)))).run Try.prog w = .ok (.map (some w.heap.size)) (w.alloc (.map #[] 0)) := by
  simp [Instr.makeMap, run_underlying Try.underlying41, asInt, asIntOf, Result.andThen]
/-- What stands behind the first k stores into the new map. -/
def MG (w4 : World) (NM : Nat) (f : Nat → ByteArray) (g : Nat → Int) (k : Nat) (v : World) : Prop := ∃ sz, MapV v (some NM) k (Mk f g k) sz ∧ Below NM w4 v

/-- A row of numbers, filled up to k. -/
def upI (g : Nat → Int) (k : Nat) (i : Nat) : Value := .int .i64 (if i < k then g i else 0)
theorem upI_lt {g : Nat → Int} {k i : Nat} (h : i < k) : upI g k i = .int .i64 (g i) := by simp [upI, h]
theorem upI_set {w : World} {b m k : Nat} {g : Nat → Int} (h : w.rowIs b 3 m (upI g k)) : (w.setCell ⟨b, k, none⟩ (.int .i64 (g k))).rowIs b 3 m (upI g (k + 1)) := by
  refine (h.set k _).congr (fun i hi => ?_)
  unfold upI
  by_cases e : i = k
  · subst e; simp
  · by_cases e2 : i < k
    · simp [e, e2, show i < k + 1 by omega]
    · simp [e, e2, show ¬ i < k + 1 by omega]
theorem upI_made (w : World) (m : Nat) (g : Nat → Int) : (w.alloc (.cells (madeCells #[.int .i64 0] m) 3)).rowIs w.heap.size 3 m (upI g 0) := (World.rowIs_made w (.int .i64 0) m 3).congr (fun j _ => by simp [upI])
/-- What the map held at key i ahead of the calls. -/
def bfv (M : List UInt8 → Option Int) (f : Nat → ByteArray) (i : Nat) : Int := (M (f i).data.toList).getD 0
theorem bfv_some {M : List UInt8 → Option Int} {f : Nat → ByteArray} {i : Nat} {v : Int} (h : M (f i).data.toList = some v) : M (f i).data.toList = some (bfv M f i) := by unfold bfv; rw [h]; rfl
theorem Names.keepCell {mo : Option Nat} {wP v : World} {n : Nat} {M : List UInt8 → Option Int} {sz : Nat} {ao : Option Addr} {m : Nat} {Q : Nat → Nm} (h : Names wP ao m Q) (hK : Keeps wP.heap.size mo wP v) (hM : MapV wP mo n M sz) {i : Nat} (hi : i < m) :
    ∃ b off, ao = some ⟨b, off, none⟩ ∧ v.cell? ⟨b, off + i, none⟩ = some (.slice (Q i).ao (Q i).n (Q i).c) := by
  obtain ⟨b, off, e, hlt, hc⟩ := h.cells (by omega)
  exact ⟨b, off, e, keep_cell hK hM hlt (hc i hi)⟩
theorem Stands.drewN {N B : Nat} {mo : Option Nat} {s L : Nat} {V : Nat → Nm} {M : List UInt8 → Option Int} {sz : Nat} {v : World} (h : Stands N B mo s L V M sz v) (k : Nat) : Stands N B mo s L V M sz (v.drewN k) := h.below (below_drewN (Below.refl _ _) k)
theorem Strs.drewM {w : World} {ao : Option Addr} {n c : Nat} {f : Nat → ByteArray} (h : Strs w ao n c f) (k : Nat) : Strs (w.drewN k) ao n c f := h.below (below_drewN (Below.refl _ _) k)
/-- What lay below the law's own first block is as it was. -/
theorem below_of_keeps {N : Nat} {mo : Option Nat} {w wP v : World} (hB : Below N w wP) (hK : Keeps wP.heap.size mo wP v) (hl : ∀ b, mo = some b → N ≤ b) (hN : N ≤ wP.heap.size) : Below N w v :=
  hB.trans ⟨hK.os, hK.tape, hK.output, hK.size, fun k hk => hK.block k (by omega) (fun e => by have := hl k e.symm; omega)⟩
end Go.Proofs.Qxb6602799a
