/-
  SEAT b6602799a. Slices of names, and the walks over them: nestedBytes, cloneNames, and the law's own measure zzBytes.
-/
import Derived.Test.Qxb6602799aWalkB
namespace Go.Proofs.Qxb6602799a
open Go.RowKit
set_option linter.unusedVariables false

/-- A name: a slice of strings, as a value and as what it holds. -/
structure Nm where
  ao : Option Addr
  n : Nat
  c : Nat
  f : Nat → ByteArray
def Nm.val (q : Nm) : Value := .slice q.ao q.n q.c
def Nm.ok (w : World) (q : Nm) : Prop := Strs w q.ao q.n q.c q.f
def Nm.small (q : Nm) : Prop := 8 * q.n + tot q.f q.n ≤ 1048576
def Nm.like (q p : Nm) : Prop := q.n = p.n ∧ q.f = p.f
theorem Nm.small_n {q : Nm} (h : q.small) : q.n ≤ 1048576 := by unfold Nm.small at h; omega
theorem Nm.like_small {q p : Nm} (h : q.like p) (hp : p.small) : q.small := by unfold Nm.small at *; rw [h.1, h.2]; exact hp

/-- A SLICE OF NAMES: element i is 'Q i'. -/
structure Names (w : World) (ao : Option Addr) (m : Nat) (Q : Nat → Nm) : Prop where
  nil : ao = none → m = 0
  cells : 0 < m → ∃ b off, ao = some ⟨b, off, none⟩ ∧ b < w.heap.size ∧ ∀ i, i < m → w.cell? ⟨b, off + i, none⟩ = some (.slice (Q i).ao (Q i).n (Q i).c)
  ok : ∀ i, i < m → Strs w (Q i).ao (Q i).n (Q i).c (Q i).f

theorem Names.below {w w' : World} {ao : Option Addr} {m : Nat} {Q : Nat → Nm} (h : Names w ao m Q) (hb : Below w.heap.size w w') : Names w' ao m Q := by
  refine ⟨h.nil, fun hn => ?_, fun i hi => (h.ok i hi).below hb⟩
  obtain ⟨b, off, e, hlt, hc⟩ := h.cells hn
  exact ⟨b, off, e, Nat.lt_of_lt_of_le hlt hb.size, fun j hj => by rw [hb.cell (by exact hlt)]; exact hc j hj⟩

set_option maxHeartbeats 400000 in
theorem nbytes_calls (ao : Option Addr) (m cap : Nat) (Q : Nat → Nm) (w : World) (h : Names w ao m Q) (hm : m ≤ 1048576) (hn : ∀ i, (Q i).n ≤ maxLen) (hf : ∀ i j, ((Q i).f j).size ≤ maxLen) :
    Calls Try.prog 6 #[.slice ao m cap] w fun e w' => Meas e (∀ i, i < m → (Q i).small) ∧ w' = w := by
  have Hn : Hid _ := hn
  have Hf : Hid _ := hf
  clear hn hf
  go_enter Try.func6, Try.ntmps6
  go_wp2
  go_loop [3, 4] (fun t i => ∃ (k : Nat) (T : Int), k ≤ m ∧ i = .int .i64 k ∧ t = .int .i64 T ∧ 0 ≤ T ∧ (k = 0 ∧ T = 8 * m ∨ T ≤ 1048576) ∧ Hid (∀ i, i < k → (Q i).small)) (fun _ i => m - (intOf i).toNat)
  case atStart => exact ⟨0, 8 * m, by omega, rfl, rfl, by omega, .inl ⟨rfl, rfl⟩, fun i hi => absurd hi (by omega)⟩
  case round =>
    obtain ⟨k, T, hk, rfl, rfl, hT0, hor, hsm⟩ := hrel
    have hT1 : T ≤ 8388608 := by rcases hor with ⟨_, e⟩ | e <;> omega
    by_cases hlt : (k : Int) < (m : Int)
    · obtain ⟨b, off, rfl, hbl, hc⟩ := h.cells (by omega)
      have c1 := hc k (by omega)
      have hok := h.ok k (by omega)
      clear hor hc
      go_wp2_with fail
      refine (sbytes_calls _ _ _ _ _ hok (Hn.out k) (Hf.out k)).mono ?_
      rintro e w' ⟨⟨t, rfl, ht0, ht1, hts⟩, rfl⟩
      have Hts : Hid _ := hts
      clear hts hok h Hn Hf
      by_cases hbig : (1048576 : Int) < T + t
      · go_wp2_with fail
        go_ret
        exact ⟨⟨1048577, rfl, by omega, by omega, fun h => absurd h (by omega)⟩, rfl⟩
      · go_wp2_with fail
        go_round
        case rel => exact ⟨k + 1, T + t, by omega, by go_num, rfl, by omega, .inr (by omega), fun i hi => by
          by_cases e : i = k
          · subst e; exact Hts.out (by omega)
          · exact hsm.out i (by omega)⟩
        case measure => simp [intOf]; omega
    · have hkm : k = m := by omega
      subst hkm
      have hT2 : T ≤ 1048576 := by rcases hor with ⟨e1, e⟩ | e <;> omega
      clear hor h Hn Hf
      go_wp2
      go_ret
      exact ⟨⟨T, rfl, hT0, by omega, fun _ => hsm.out⟩, rfl⟩

theorem Strs.setCell {w : World} {ao : Option Addr} {n c : Nat} {f : Nat → ByteArray} (h : Strs w ao n c f) {p : Addr} (hp : ∀ a, ao = some a → a.block ≠ p.block) (v : Value) : Strs (w.setCell p v) ao n c f := by
  refine ⟨h.cap, h.nil, fun hn => ?_⟩
  obtain ⟨b, off, e, hlt, hc⟩ := h.cells hn
  refine ⟨b, off, e, by simpa [World.setCell] using hlt, fun j hj => ?_⟩
  have hne := hp _ e
  rw [World.cell?_setCell_other _ _ _ _ (by intro e2; apply hne; rw [e2])]
  exact hc j hj

theorem info26 : (Try.prog.info? 26).map (fun i => (i.zero, i.size, i.bytes)) = some (some (.slice none 0 0), 1, 24) := by kernel_rfl
theorem cnames_nil (w : World) (n cap : Nat) : Calls Try.prog 7 #[.slice none n cap] w fun e w' => e = .returned (.slice none 0 0) ∧ w' = w := by
  have hq := fun (w : World) (a : Option Addr) (n c n' c' : Nat) => Lib.run_eql_slice_nil (P := Try.prog) w 22 26 a n c n' c' Try.underlying22
  go_enter Try.func7, Try.ntmps7
  go_wp2
  go_ret
  exact ⟨rfl, rfl⟩

/-- What cloneNames has made of the first k names. -/
structure Cl (w wr : World) (m k : Nat) (Q Q' : Nat → Nm) : Prop where
  row : wr.rowIs w.heap.size 26 m (fun i => if i < k then .slice (Q' i).ao (Q' i).n (Q' i).c else .slice none 0 0)
  ok : ∀ i, i < k → Strs wr (Q' i).ao (Q' i).n (Q' i).c (Q' i).f ∧ (Q' i).like (Q i) ∧ ∀ a, (Q' i).ao = some a → w.heap.size < a.block
  bel : Below w.heap.size w wr

theorem Cl.step {w wr w1 : World} {m k : Nat} {Q Q' : Nat → Nm} (h : Cl w wr m k Q Q') (hk : k < m) {ao : Option Addr} (hs : Strs w1 ao (Q k).n (Q k).n (Q k).f) (hb : Below wr.heap.size wr w1) (ha : ∀ a, ao = some a → a.block = wr.heap.size) :
    Cl w (w1.setCell ⟨w.heap.size, k, none⟩ (.slice ao (Q k).n (Q k).n)) m (k + 1) Q (fun i => if i = k then ⟨ao, (Q k).n, (Q k).n, (Q k).f⟩ else Q' i) := by
  have hlt := h.row.lt
  refine ⟨?_, fun i hi => ?_, ?_⟩
  · have h1 := (h.row.of_block (hb.block _ hlt)).set k (.slice ao (Q k).n (Q k).n)
    refine h1.congr (fun i hi => ?_)
    by_cases e : i = k
    · subst e; simp
    · by_cases e2 : i < k
      · simp [e, e2, show i < k + 1 by omega]
      · simp [e, e2, show ¬ i < k + 1 by omega]
  · by_cases e : i = k
    · subst e
      simp only [if_true]
      exact ⟨hs.setCell (fun a h => by rw [ha a h]; simp; omega) _, ⟨rfl, rfl⟩, fun a h => by rw [ha a h]; exact hlt⟩
    · simp only [if_neg e]
      obtain ⟨h1, h2, h3⟩ := h.ok i (by omega)
      exact ⟨(h1.below hb).setCell (fun a h => by have := h3 a h; simp; omega) _, h2, h3⟩
  · exact (h.bel.trans (hb.mono h.bel.size)).setCell (Nat.le_refl _) _

set_option maxHeartbeats 400000 in
theorem cnames_some (a : Addr) (m cap : Nat) (Q : Nat → Nm) (w : World) (h : Names w (some a) m Q) (hm : m ≤ 1048576) (hq : ∀ i, i < m → (Q i).small) :
    Calls Try.prog 7 #[.slice (some a) m cap] w fun e w' => e = .returned (.slice (some ⟨w.heap.size, 0, none⟩) m m) ∧ ∃ Q', Cl w w' m m Q Q' := by
  have hqq := fun (w : World) (a : Option Addr) (n c n' c' : Nat) => Lib.run_eql_slice_nil (P := Try.prog) w 22 26 a n c n' c' Try.underlying22
  have hmk := fun w => run_make_row' (P := Try.prog) 22 26 (.slice none 0 0) 24 Try.underlying22 info26 rfl .i64 .i64 m (by omega) (by omega) w
  have Hq : Hid _ := hq
  clear hq
  go_enter Try.func7, Try.ntmps7
  go_wp2
  clear hqq hmk
  have r0 : Cl w (w.alloc (.cells (madeCells #[.slice none 0 0] m) 26)) m 0 Q Q := ⟨(World.rowIs_made w (.slice none 0 0) m 26).congr (fun j _ => by simp), fun i hi => absurd hi (by omega), (Below.refl _ _).alloc (Nat.le_refl _) _⟩
  go_loopw [4] (fun i wr => ∃ (k : Nat) (Q' : Nat → Nm), k ≤ m ∧ i = .int .i64 k ∧ Cl w wr m k Q Q') (fun i _ => m - (intOf i).toNat)
  case atStart => exact ⟨0, Q, by omega, rfl, r0⟩
  case round =>
    clear r0
    obtain ⟨k, Q', hk, rfl, hcl⟩ := hrel
    by_cases hlt : (k : Int) < (m : Int)
    · obtain ⟨b, off, e, hbl, hc⟩ := h.cells (by omega)
      cases e
      have c1 : wr.cell? ⟨b, off + k, none⟩ = some (.slice (Q k).ao (Q k).n (Q k).c) := by rw [hcl.bel.cell (by exact hbl)]; exact hc k (by omega)
      have hok := (h.ok k (by omega)).below hcl.bel
      have hsm := Nm.small_n (q := Q k) (Hq.out k (by omega))
      clear hc
      go_wp2_with fail
      refine (clone_calls _ _ _ _ _ hok hsm).mono ?_
      rintro e w1 ⟨ao', rfl, hs1, hb1, ha1⟩
      have hcl1 := hcl.step (by omega) hs1 hb1 ha1
      have hrow1 := hcl.row.of_block (hb1.block _ hcl.row.lt)
      have d1 := hrow1.cell (i := k) (by omega)
      have d2 := hrow1.frozen k
      clear hrow1 hs1 hb1 ha1 hcl hok c1 h Hq
      go_wp2_with fail
      go_roundw
      case rel => exact ⟨k + 1, _, by omega, by go_num, hcl1⟩
      case measure => simp [intOf]; omega
    · have hkm : k = m := by omega
      subst hkm
      clear h Hq
      go_wp2
      go_ret
      exact ⟨rfl, Q', hcl⟩

/-- 'cloneNames', nil or not. -/
theorem cnames_calls (ao : Option Addr) (m cap : Nat) (Q : Nat → Nm) (w : World) (h : Names w ao m Q) (hm : m ≤ 1048576) (hq : ∀ i, i < m → (Q i).small) :
    Calls Try.prog 7 #[.slice ao m cap] w fun e w' => ∃ ao' Q', e = .returned (.slice ao' m m) ∧ Names w' ao' m Q' ∧ (∀ i, i < m → (Q' i).like (Q i)) ∧ Below w.heap.size w w' := by
  cases ao with
  | none =>
    have hz := h.nil rfl
    subst hz
    refine (cnames_nil w 0 cap).mono ?_
    rintro e w' ⟨rfl, rfl⟩
    exact ⟨none, Q, rfl, h, fun i hi => absurd hi (by omega), Below.refl _ _⟩
  | some a =>
    refine (cnames_some a m cap Q w h hm hq).mono ?_
    rintro e w' ⟨rfl, Q', hcl⟩
    refine ⟨_, Q', rfl, ⟨fun e => (by cases e), fun _ => ⟨_, 0, rfl, hcl.row.lt, fun i hi => ?_⟩, fun i hi => (hcl.ok i hi).1⟩, fun i hi => (hcl.ok i hi).2.1, hcl.bel⟩
    rw [Nat.zero_add, hcl.row.cell hi, if_pos hi]
end Go.Proofs.Qxb6602799a
