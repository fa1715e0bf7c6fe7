/-
  SEAT b6602799a. The law's walk: FnSlotNumbersNamesByFirstAppearance.
-/
import Derived.Test.Qxb6602799aMeas5
import Derived.Test.Qxb6602799aSlot
import Derived.Test.Qxb6602799aPlain5
import Derived.Deep.RegionWith
namespace Go.Proofs.Qxb6602799a
open Go.RowKit
set_option linter.unusedVariables false

theorem info3 : (Try.prog.info? 3).map (fun i => (i.zero, i.size, i.bytes)) = some (some (.int .i64 0), 1, 8) := by kernel_rfl

/-- 'ZZMakeUserSlots(nil, nil)'. -/
theorem mk_nil (w : World) : Calls Try.prog 9 #[.slice none 0 0, .map none] w fun e w' => e = .returned (.pointer (some ⟨w.heap.size, 0, none⟩)) ∧ w' = w.alloc (.cells #[.slice none 0 0, .map none] 46) := by
  have hq := fun (w : World) (a : Option Addr) (n c n' c' : Nat) => run_neq_slice_nil_any (P := Try.prog) w 22 26 a n c n' c' Try.underlying22
  go_enter Try.func9, Try.ntmps9
  go_wp2
  go_ret
  exact ⟨rfl, rfl⟩
theorem St.fresh (w : World) (V : Nat → Nm) : St w.heap.size none (w.alloc (.cells #[.slice none 0 0, .map none] 46)) w.heap.size none 0 0 V none 0 (fun _ => none) 0 := by
  refine ⟨Nat.le_refl _, ?_, ⟨rfl, .inl ⟨rfl, rfl⟩⟩, .inl ⟨rfl, fun _ => rfl, rfl⟩, fun b e => by cases e⟩
  exact World.rowIs_alloc w #[.slice none 0 0, .map none] 46 _ (fun i hi => by match i, hi with
    | 0, _ => rfl
    | 1, _ => rfl)

def TX (Q : Nat → Nm) (i : Nat) : ByteArray := txt (Q i).f (Q i).n
def tx (Q : Nat → Nm) (i : Nat) : List UInt8 := jn (Q i).f (Q i).n
theorem TX_list (Q : Nat → Nm) (i : Nat) : (TX Q i).toList = tx Q i := ByteArray.toList_eq _

/-- A row of numbers, filled up to k. -/
def upTo (g : Nat → Nat) (k : Nat) (i : Nat) : Value := .int .i64 ((if i < k then g i else 0 : Nat) : Int)
theorem upTo_zero (g : Nat → Nat) (i : Nat) : upTo g 0 i = .int .i64 0 := by simp [upTo]
theorem upTo_lt {g : Nat → Nat} {k i : Nat} (h : i < k) : upTo g k i = .int .i64 (g i) := by simp [upTo, h]
theorem upTo_set {w : World} {b m k : Nat} {g : Nat → Nat} {x : Nat} (h : w.rowIs b 3 m (upTo g k)) (hx : g k = x) : (w.setCell ⟨b, k, none⟩ (.int .i64 (x : Int))).rowIs b 3 m (upTo g (k + 1)) := by
  refine (h.set k _).congr (fun i hi => ?_)
  unfold upTo
  by_cases e : i = k
  · subst e; simp [hx]
  · by_cases e2 : i < k
    · simp [e, e2, show i < k + 1 by omega]
    · simp [e, e2, show ¬ i < k + 1 by omega]
theorem upTo_made (w : World) (m : Nat) (g : Nat → Nat) : (w.alloc (.cells (madeCells #[.int .i64 0] m) 3)).rowIs w.heap.size 3 m (upTo g 0) := (World.rowIs_made w (.int .i64 0) m 3).congr (fun j _ => (upTo_zero g j).symm)

/-- What stands behind k calls of slot. -/
def G5 (NS : Nat) (wC : World) (Q : Nat → Nm) (k : Nat) (v : World) : Prop :=
  ∃ no L nc V mo n M sz, n ≤ k ∧ St NS none v NS no L nc V mo n M sz ∧ Inv (tx Q) Q k L sz V M ∧ Keeps NS none wC v

theorem St.drewN {B : Nat} {m0 : Option Nat} {w : World} {s : Nat} {no : Option Addr} {L nc : Nat} {V : Nat → Nm} {mo : Option Nat} {n : Nat} {M : List UInt8 → Option Int} {sz : Nat} (h : St B m0 w s no L nc V mo n M sz) (k : Nat) : St B m0 (w.drewN k) s no L nc V mo n M sz := h.below (below_drewN (Below.refl _ _) k)
theorem Strs.drewN {w : World} {ao : Option Addr} {n c : Nat} {f : Nat → ByteArray} (h : Strs w ao n c f) (k : Nat) : Strs (w.drewN k) ao n c f := h.below (below_drewN (Below.refl _ _) k)
theorem given_cell {B s L n sz : Nat} {V : Nat → Nm} {M : List UInt8 → Option Int} {q : Nm} {w w' : World} (h : Given B none s L V n M sz q w w') {p : Addr} (hp : p.block < B) : w'.cell? p = w.cell? p := by
  obtain ⟨_, _, _, _, _, _, hk⟩ := h
  exact hk.cell hp (by simp)
theorem given_next {NS L n sz k : Nat} {V : Nat → Nm} {M : List UInt8 → Option Int} {Q : Nat → Nm} {wC w w' : World} (h : Given NS none NS L V n M sz (Q k) w.drew w') (hn : n ≤ k)
    (hI : Inv (tx Q) Q (k + 1) (L + 1) (sz + 1) (setNm V L (Q k)) (upd M (tx Q k) L)) (hK : Keeps NS none wC w) : G5 NS wC Q (k + 1) w' := by
  obtain ⟨no', nc', mo', n', h1, h2, h3⟩ := h
  exact ⟨no', L + 1, nc', _, mo', n', _, sz + 1, by omega, h2, hI, hK.trans ⟨h3.os, h3.tape, h3.output, h3.size, h3.block⟩⟩

set_option maxHeartbeats 4000000 in
set_option maxRecDepth 100000 in
theorem law5_small (ao : Option Addr) (m cap : Nat) (Q0 : Nat → Nm) (w : World) (h : Names w ao m Q0) (hm : m ≤ 4096) (hn : ∀ i, (Q0 i).n ≤ maxLen) (hf : ∀ i j, ((Q0 i).f j).size ≤ maxLen) :
    Calls Try.prog 3 #[.slice ao m cap] w fun e w' => e = .returned (.bool true) ∧ Below w.heap.size w w' := by
  have Hn : Hid _ := hn
  have Hf : Hid _ := hf
  clear hn hf
  have d1 : decide ((4096 : Int) < (m : Int)) = false := by simp; omega
  go_enter Try.func3, Try.ntmps3
  go_wp2_with fail
  refine (zbytes5_calls ao m cap Q0 _ h (by unfold maxLen; omega) Hn.out Hf.out).mono ?_
  rintro e w' ⟨⟨b1, rfl⟩, rfl⟩
  cases b1 with
  | false =>
    go_wp2_with fail
    go_ret
    exact ⟨rfl, Below.refl _ _⟩
  | true =>
    go_wp2_with fail
    refine (nbytes_calls ao m cap Q0 _ h (by omega) Hn.out Hf.out).mono ?_
    rintro e w' ⟨⟨t, rfl, ht0, ht1, hts⟩, rfl⟩
    have Hts : Hid _ := hts
    clear hts Hn Hf
    by_cases hbig : (1048576 : Int) < t
    · go_wp2_with fail
      go_ret
      exact ⟨rfl, Below.refl _ _⟩
    · have hsm0 := Hts.out (by omega)
      have d2 : decide ((1048576 : Int) < t) = false := by simp; omega
      clear Hts
      go_wp2_with fail
      refine (cnames_calls ao m cap Q0 _ h (by omega) hsm0).mono ?_
      rintro e w1 ⟨a1, Q, rfl, hN1, hlike, hB1⟩
      have HSM : Hid (∀ i, i < m → (Q i).small) := fun i hi => Nm.like_small (hlike i hi) (hsm0 i hi)
      clear hsm0 hlike h
      have hmk := fun w => run_make_row' (P := Try.prog) 26 9 (.string ⟨#[]⟩) 16 Try.underlying26 info9 rfl .i64 .i64 m (by omega) (by omega) w
      go_wp2_with fail
      clear hmk
      have r0 : (w1.alloc (.cells (madeCells #[.string ⟨#[]⟩] m) 9)).rowIs w1.heap.size 9 m (fun i => .string (if i < 0 then TX Q i else ⟨#[]⟩)) := (World.rowIs_made w1 (.string ⟨#[]⟩) m 9).congr (fun j _ => by simp)
      have b0 : Below w1.heap.size w1 (w1.alloc (.cells (madeCells #[.string ⟨#[]⟩] m) 9)) := (Below.refl _ _).alloc (Nat.le_refl _) _
      generalize w1.alloc (.cells (madeCells #[.string ⟨#[]⟩] m) 9) = W1 at *
      go_loopw [4] (fun i wr => ∃ k : Nat, k ≤ m ∧ i = .int .i64 k ∧ wr.rowIs w1.heap.size 9 m (fun i => .string (if i < k then TX Q i else ⟨#[]⟩)) ∧ Below w1.heap.size w1 wr) (fun i _ => m - (intOf i).toNat)
      case atStart => exact ⟨0, by omega, rfl, r0, b0⟩
      case round =>
        clear r0 b0
        obtain ⟨k, hk, rfl, hrow, hbel⟩ := hrel
        by_cases hlt : (k : Int) < (m : Int)
        · obtain ⟨b, off, rfl, hbl, hc⟩ := hN1.cells (by omega)
          have c1 : wr.cell? ⟨b, off + k, none⟩ = some (.slice (Q k).ao (Q k).n (Q k).c) := by rw [hbel.cell (by exact hbl)]; exact hc k (by omega)
          have hok := (hN1.ok k (by omega)).below hbel
          have hsm : 8 * (Q k).n + tot (Q k).f (Q k).n ≤ 1048576 := HSM.out k (by omega)
          have HOK : Hid _ := hok
          have HS1 : Hid _ := hsm
          clear hok hsm
          go_wp2_with fail
          refine (dots_calls _ _ _ _ _ HOK.out HS1.out).mono ?_
          rintro e w2 ⟨rfl, hb2⟩
          have hrow2 := hrow.of_block (hb2.block _ hrow.lt)
          have dd1 : w2.cell? ⟨w1.heap.size, k, none⟩ = some (.string ⟨#[]⟩) := by have := hrow2.cell (i := k) (by omega); simpa using this
          have dd2 := hrow2.frozen k
          have R : Hid ((w2.setCell ⟨w1.heap.size, k, none⟩ (.string (txt (Q k).f (Q k).n))).rowIs w1.heap.size 9 m (fun i => .string (if i < k + 1 then TX Q i else ⟨#[]⟩))) := (hrow2.set k _).congr (fun j hj => by
            by_cases e : j = k
            · subst e; simp [TX]
            · by_cases e2 : j < k
              · simp [e, e2, show j < k + 1 by omega]
              · simp [e, e2, show ¬ j < k + 1 by omega])
          have RB : Hid (Below w1.heap.size w1 (w2.setCell ⟨w1.heap.size, k, none⟩ (.string (txt (Q k).f (Q k).n)))) := (hbel.trans (hb2.mono hbel.size)).setCell (Nat.le_refl _) _
          clear hrow hrow2 hbel hb2 HOK HS1 hc c1
          generalize txt (Q k).f (Q k).n = T at *
          go_wp2_with fail
          go_roundw
          case rel => exact ⟨k + 1, by omega, by go_num, R.out, RB.out⟩
          case measure => simp [intOf]; omega
        · have hkm : m = k := by omega
          subst hkm
          have RT : wr.rowIs w1.heap.size 9 m (fun i => .string (TX Q i)) := hrow.congr (fun j hj => by rw [if_pos hj])
          have hN2 := hN1.below (hbel)
          have B2 : Below w'.heap.size w' wr := hB1.trans (hbel.mono hB1.size)
          clear hrow hbel hN1 hB1
          generalize w1.heap.size = NT at *
          generalize wr = wA at *
          have hmk := fun w => run_make_row' (P := Try.prog) 28 3 (.int .i64 0) 8 Try.underlying28 info3 rfl .i64 .i64 m (by omega) (by omega) w
          go_wp2_with fail
          clear hmk
          have r0 := upTo_made wA m (fst (tx Q))
          have b0 : Below wA.heap.size wA (wA.alloc (.cells (madeCells #[.int .i64 0] m) 3)) := (Below.refl _ _).alloc (Nat.le_refl _) _
          generalize wA.alloc (.cells (madeCells #[.int .i64 0] m) 3) = W2 at *
          obtain ⟨NF, hNF⟩ : ∃ NF, wA.heap.size = NF := ⟨_, rfl⟩
          have HNF : Hid (wA.heap.size = NF) := hNF
          rw [hNF] at r0 b0 ⊢
          have hTl : NT < NF := by rw [← hNF]; exact RT.lt
          clear hNF
          go_loopw [6] (fun i v => ∃ k : Nat, k ≤ m ∧ i = .int .i64 k ∧ v.rowIs NF 3 m (upTo (fst (tx Q)) k) ∧ Below NF wA v) (fun i _ => m - (intOf i).toNat)
          case atStart => exact ⟨0, by omega, rfl, r0, b0⟩
          case round =>
            clear r0 b0
            obtain ⟨k, hk, rfl, hrow, hbel⟩ := hrel
            have RT2 : Hid (wr.rowIs NT 9 m (fun i => .string (TX Q i))) := RT.of_block (hbel.block NT hTl)
            generalize wr = wB at *
            by_cases hlt : (k : Int) < (m : Int)
            · go_wp2_with fail
              go_loopw [7, 8] (fun f q v => ∃ j mm : Nat, j ≤ k ∧ q = .int .i64 j ∧ f = .int .i64 k ∧ v = wB.drewN mm ∧ Hid (∀ p, p < j → tx Q p ≠ tx Q k)) (fun _ q _ => k - (intOf q).toNat)
              case atStart => exact ⟨0, 0, by omega, rfl, rfl, rfl, fun p hp => absurd hp (by omega)⟩
              case round =>
                obtain ⟨j, mm, hj, rfl, rfl, rfl, hno⟩ := hrel
                by_cases hjl : (j : Int) < (k : Int)
                · have e1 := RT2.out.cell (i := j) (by omega)
                  have e2 := RT2.out.cell (i := k) (by omega)
                  have hjm : (j : Int) < (m : Int) := by omega
                  by_cases he : tx Q j = tx Q k
                  · have hb : ((TX Q j).toList == (TX Q k).toList) = true := by rw [TX_list, TX_list, he]; simp
                    go_wp2_with fail
                    go_quiet (fail)
                    have R := upTo_set hrow (x := j) (fst_hit (by omega) hno.out he)
                    have f1 := hrow.cell (i := k) (by omega)
                    have f2 := hrow.frozen k
                    have HR1 : Hid _ := R
                    clear hrow R RT2 hno
                    go_wp2_with fail
                    go_roundw
                    case rel => exact ⟨k + 1, by omega, by go_num, HR1.out, by first | exact (below_drewN hbel _).setCell (p := ⟨NF, k, none⟩) (Nat.le_refl _) _ | exact below_drewN (hbel.setCell (p := ⟨NF, k, none⟩) (Nat.le_refl _) _) _⟩
                    case measure => simp [intOf]; omega
                  · have hb : ((TX Q j).toList == (TX Q k).toList) = false := by rw [TX_list, TX_list]; simpa using he
                    go_wp2_with fail
                    go_quiet (fail)
                    go_wp2_with fail
                    go_roundw
                    case rel => exact ⟨j + 1, mm + nq, by omega, by go_num, rfl, by simp, fun p hp => by
                      by_cases e : p = j
                      · rw [e]; exact he
                      · exact hno.out p (by omega)⟩
                    case measure => simp [intOf]; omega
                · have hjk : k = j := by omega
                  subst hjk
                  have R := upTo_set hrow (x := k) (fst_miss hno.out)
                  have f1 := hrow.cell (i := k) (by omega)
                  have f2 := hrow.frozen k
                  have HR1 : Hid _ := R
                  clear hrow R RT2 hno
                  go_wp2_with fail
                  go_roundw
                  case rel => exact ⟨k + 1, by omega, by go_num, HR1.out, by first | exact (below_drewN hbel _).setCell (p := ⟨NF, k, none⟩) (Nat.le_refl _) _ | exact below_drewN (hbel.setCell (p := ⟨NF, k, none⟩) (Nat.le_refl _) _) _⟩
                  case measure => simp [intOf]; omega
            · have hkm : m = k := by omega
              subst hkm
              have RF : wB.rowIs NF 3 m (upTo (fst (tx Q)) m) := hrow
              have hN3 : Names wB a1 m Q := hN2.below (by rw [HNF.out]; exact hbel)
              have B3 : Below w'.heap.size w' wB := B2.trans (hbel.mono (by rw [← HNF.out]; exact B2.size))
              have RT3 : wB.rowIs NT 9 m (fun i => .string (TX Q i)) := RT2.out
              clear hrow hbel RT RT2 hN2 B2 HNF hTl
              have hmk := fun w => run_make_row' (P := Try.prog) 28 3 (.int .i64 0) 8 Try.underlying28 info3 rfl .i64 .i64 m (by omega) (by omega) w
              go_wp2_with fail
              clear hmk
              have r0 := upTo_made wB m (fun i => cnt (tx Q) (fst (tx Q) i))
              have b0 : Below wB.heap.size wB (wB.alloc (.cells (madeCells #[.int .i64 0] m) 3)) := (Below.refl _ _).alloc (Nat.le_refl _) _
              generalize wB.alloc (.cells (madeCells #[.int .i64 0] m) 3) = W3 at *
              obtain ⟨NR, hNR⟩ : ∃ NR, wB.heap.size = NR := ⟨_, rfl⟩
              have HNR : Hid (wB.heap.size = NR) := hNR
              rw [hNR] at r0 b0 ⊢
              have hTl : NT < NR := by rw [← hNR]; exact RT3.lt
              have hFl : NF < NR := by rw [← hNR]; exact RF.lt
              clear hNR
              go_loopw [10, 11] (fun d i v => ∃ k : Nat, k ≤ m ∧ i = .int .i64 k ∧ d = .int .i64 (cnt (tx Q) k) ∧ v.rowIs NR 3 m (upTo (fun i => cnt (tx Q) (fst (tx Q) i)) k) ∧ Below NR wB v) (fun _ i _ => m - (intOf i).toNat)
              case atStart => exact ⟨0, by omega, rfl, rfl, r0, b0⟩
              case round =>
                clear r0 b0
                obtain ⟨k, hk, rfl, rfl, hrow, hbel⟩ := hrel
                have hck := cnt_le (tx Q) k
                by_cases hlt : (k : Int) < (m : Int)
                · have e1 : wr.cell? ⟨NF, k, none⟩ = some (.int .i64 (fst (tx Q) k)) := by rw [hbel.cell (by exact hFl), RF.cell (i := k) (by omega), upTo_lt (by omega)]
                  obtain ⟨hfle, _, _⟩ := fst_spec (tx Q) k
                  have f1 := hrow.cell (i := k) (by omega)
                  have f2 := hrow.frozen k
                  by_cases hfk : fst (tx Q) k = k
                  · have hb : ((fst (tx Q) k : Int) == (k : Int)) = true := by rw [hfk]; simp
                    have R := upTo_set hrow (x := cnt (tx Q) k) (by rw [hfk])
                    have HC : Hid (cnt (tx Q) (k + 1) = cnt (tx Q) k + 1) := by show (if _ then _ else _) = _; rw [if_pos hfk]
                    have HR1 : Hid _ := R
                    clear hrow R hfk
                    go_wp2_with fail
                    go_roundw
                    case rel => exact ⟨k + 1, by omega, by go_num, by rw [HC.out]; go_num, HR1.out, hbel.setCell (p := ⟨NR, k, none⟩) (Nat.le_refl _) _⟩
                    case measure => simp [intOf]; omega
                  · have hb : ((fst (tx Q) k : Int) == (k : Int)) = false := by rw [beq_eq_false_iff_ne]; omega
                    have g1 : wr.cell? ⟨NR, fst (tx Q) k, none⟩ = some (.int .i64 (cnt (tx Q) (fst (tx Q) k))) := by rw [hrow.cell (by omega), upTo_lt (by omega), fst_fst]
                    have hfm : (fst (tx Q) k : Int) < (m : Int) := by omega
                    have R := upTo_set hrow (x := cnt (tx Q) (fst (tx Q) k)) rfl
                    have HC : Hid (cnt (tx Q) (k + 1) = cnt (tx Q) k) := by show (if _ then _ else _) = _; rw [if_neg hfk]
                    have HR1 : Hid _ := R
                    clear hrow R hfk
                    go_wp2_with fail
                    go_roundw
                    case rel => exact ⟨k + 1, by omega, by go_num, by rw [HC.out], HR1.out, hbel.setCell (p := ⟨NR, k, none⟩) (Nat.le_refl _) _⟩
                    case measure => simp [intOf]; omega
                · have hkm : m = k := by omega
                  subst hkm
                  have RR : wr.rowIs NR 3 m (upTo (fun i => cnt (tx Q) (fst (tx Q) i)) m) := hrow
                  have RF4 := RF.of_block (hbel.block NF hFl)
                  have RT4 := RT3.of_block (hbel.block NT hTl)
                  have hN4 : Names wr a1 m Q := hN3.below (by rw [HNR.out]; exact hbel)
                  have B4 : Below w'.heap.size w' wr := B3.trans (hbel.mono (by rw [← HNR.out]; exact B3.size))
                  clear hrow hbel RF RT3 hN3 B3 HNR hTl hFl
                  generalize wr = wC at *
                  go_wp2_with fail
                  refine (mk_nil _).mono ?_
                  rintro e wD ⟨rfl, rfl⟩
                  have hS0 := St.fresh wC Q
                  have hI0 := Inv.zero (tx Q) Q Q
                  have hK0 : Keeps wC.heap.size none wC (wC.alloc (.cells #[.slice none 0 0, .map none] 46)) := Keeps.of_below ((Below.refl _ _).alloc (Nat.le_refl _) _) (Nat.le_refl _)
                  generalize wC.alloc (.cells #[.slice none 0 0, .map none] 46) = W5 at *
                  obtain ⟨NS, hNS⟩ : ∃ NS, wC.heap.size = NS := ⟨_, rfl⟩
                  have HNS : Hid (wC.heap.size = NS) := hNS
                  have hTl : NT < NS := by rw [← hNS]; exact RT4.lt
                  have hFl : NF < NS := by rw [← hNS]; exact RF4.lt
                  have hRl : NR < NS := by rw [← hNS]; exact RR.lt
                  rw [hNS] at hS0 hK0 ⊢
                  clear hNS
                  go_wp2_with fail
                  have hG0 : G5 NS wC Q 0 W5 := ⟨none, 0, 0, Q, none, 0, _, 0, Nat.le_refl _, hS0, hI0, hK0⟩
                  clear hS0 hI0 hK0
                  go_loopw [13] (fun i v => ∃ k : Nat, k ≤ m ∧ i = .int .i64 k ∧ G5 NS wC Q k v) (fun i _ => m - (intOf i).toNat)
                  case atStart => exact ⟨0, by omega, rfl, hG0⟩
                  case round =>
                    clear hG0
                    obtain ⟨k, hk, rfl, no, L, nc, V, mo, n, M, sz, hnk, hS, hI, hK⟩ := hrel
                    by_cases hlt : (k : Int) < (m : Int)
                    · obtain ⟨b, off, rfl, hbl, hc⟩ := hN4.cells (by omega)
                      rw [HNS.out] at hbl
                      have c1 : wr.cell? ⟨b, off + k, none⟩ = some (.slice (Q k).ao (Q k).n (Q k).c) := by rw [hK.cell (by exact hbl) (by simp)]; exact hc k (by omega)
                      have c2 : wr.cell? ⟨NR, k, none⟩ = some (.int .i64 (cnt (tx Q) (fst (tx Q) k))) := by rw [hK.cell (by exact hRl) (by simp), RR.cell (i := k) (by omega), upTo_lt (by omega)]
                      have hok : Strs wr (Q k).ao (Q k).n (Q k).c (Q k).f := (hN4.ok k (by omega)).below (by rw [HNS.out]; exact hK.below)
                      have hokd : Strs wr.drew (Q k).ao (Q k).n (Q k).c (Q k).f := hok.below ((Below.refl _ _).drew)
                      have hsm : 8 * (Q k).n + tot (Q k).f (Q k).n ≤ 1048576 := HSM.out k (by omega)
                      have hSd : St NS none wr.drew NS no L nc V mo n M sz := hS.below ((Below.refl _ _).drew)
                      have hcl := cnt_le (tx Q) (fst (tx Q) k)
                      have hfl := (fst_spec (tx Q) k).1
                      by_cases hfk : fst (tx Q) k = k
                      · obtain ⟨hM, hI'⟩ := hI.miss hfk
                        have hLm : L ≤ 4096 := by have := cnt_le (tx Q) k; have := hI.hL; omega
                        have hLx : L = cnt (tx Q) (fst (tx Q) k) := by rw [hfk]; exact hI.hL
                        have HC : Hid (Calls Try.prog 10 #[.pointer (some ⟨NS, 0, none⟩), .slice (Q k).ao (Q k).n (Q k).c] wr.drew fun e w' => e = .returned (.int .i64 (cnt (tx Q) (fst (tx Q) k))) ∧ Given NS none NS L V n M sz (Q k) wr.drew w') := by
                          rw [← hLx]
                          exact zslot_miss wr.drew (Q k) hSd hokd hsm hM (by omega) (by omega)
                        have hne : (((cnt (tx Q) (fst (tx Q) k) : Nat) : Int) != ((cnt (tx Q) (fst (tx Q) k) : Nat) : Int)) = false := by simp
                        have HI1 : Hid _ := hI'
                        have HK1 : Hid _ := hK
                        clear hS hI hK hI' hSd hok hokd hsm hM hc hcl hfl hfk hLx
                        generalize cnt (tx Q) (fst (tx Q) k) = x at *
                        go_wp2_with fail
                        go_region_with (go_at_call 10; refine HC.out.mono ?_; rintro e w5 ⟨rfl, hgv⟩; have r1 : w5.cell? ⟨NR, k, none⟩ = some (.int .i64 (x : Int)) := (given_cell hgv (p := ⟨NR, k, none⟩) hRl).trans c2)
                        all_goals
                          have hG : Hid (G5 NS wC Q (k + 1) w5) := given_next hgv hnk HI1.out HK1.out
                          clear HI1 HK1 HC hgv c1 c2 r1
                          go_wp2_with fail
                          go_roundw
                          case rel => exact ⟨k + 1, by omega, by go_num, hG.out⟩
                          case measure => simp [intOf]; omega
                      · obtain ⟨hM, hI'⟩ := hI.hit hfk
                        have HC : Hid (Calls Try.prog 10 #[.pointer (some ⟨NS, 0, none⟩), .slice (Q k).ao (Q k).n (Q k).c] wr.drew fun e w' => e = .returned (.int .i64 (cnt (tx Q) (fst (tx Q) k))) ∧ Below wr.heap.size wr.drew w') := zslot_hit wr.drew (Q k) _ hSd hokd hsm hM
                        have hne : (((cnt (tx Q) (fst (tx Q) k) : Nat) : Int) != ((cnt (tx Q) (fst (tx Q) k) : Nat) : Int)) = false := by simp
                        have hNRw : NR < wr.heap.size := Nat.lt_of_lt_of_le hRl hS.base
                        have HS1 : Hid _ := hS
                        have HI1 : Hid _ := hI'
                        have HK1 : Hid _ := hK
                        clear hS hI hK hI' hSd hok hokd hsm hM hc hcl hfl hfk
                        generalize cnt (tx Q) (fst (tx Q) k) = x at *
                        go_wp2_with fail
                        go_region_with (go_at_call 10; refine HC.out.mono ?_; rintro e w5 ⟨rfl, hb5⟩; have r1 : w5.cell? ⟨NR, k, none⟩ = some (.int .i64 (x : Int)) := (hb5.cell (p := ⟨NR, k, none⟩) hNRw).trans c2)
                        all_goals
                          have hb6 : Below wr.heap.size wr w5 := (Below.refl _ _).drew.trans hb5
                          have hG : Hid (G5 NS wC Q (k + 1) w5) := ⟨no, L, nc, V, mo, n, M, sz, by omega, HS1.out.below hb6, HI1.out, HK1.out.trans (Keeps.of_below hb6 HS1.out.base)⟩
                          clear HS1 HI1 HK1 HC hb5 hb6 c1 c2 r1
                          go_wp2_with fail
                          go_roundw
                          case rel => exact ⟨k + 1, by omega, by go_num, hG.out⟩
                          case measure => simp [intOf]; omega
                    · have hkm : m = k := by omega
                      subst hkm
                      have hLe := hI.hL
                      have hze := hI.hsz
                      subst hLe
                      subst hze
                      have hcm := cnt_le (tx Q) m
                      have hB5 : Below w'.heap.size w' wr := by
                        have hx : Below wC.heap.size wC wr := by rw [HNS.out]; exact hK.below
                        exact B4.trans (hx.mono B4.size)
                      have RF5 := RF4.of_block (hK.below.block NF hFl)
                      have RT5 := RT4.of_block (hK.below.block NT hTl)
                      have RR5 := RR.of_block (hK.below.block NR hRl)
                      have hN5 : Names wr a1 m Q := hN4.below (by rw [HNS.out]; exact hK.below)
                      have hnn : (((cnt (tx Q) m : Nat) : Int) != ((cnt (tx Q) m : Nat) : Int)) = false := by simp
                      have HI1 : Hid _ := hI
                      clear RF4 RT4 RR hN4 B4 HNS hTl hFl hRl hK hI
                      go_wp2_with fail
                      refine (nlen_calls _ hS).mono ?_
                      rintro e w6 ⟨rfl, rfl⟩
                      go_wp2_with fail
                      refine (slen_calls _ hS).mono ?_
                      rintro e w6 ⟨rfl, rfl⟩
                      generalize hcc : cnt (tx Q) m = C at *
                      have HCC : Hid (cnt (tx Q) m = C) := hcc
                      clear hcc
                      go_wp2_with fail
                      clear hnn
                      generalize w6 = wE at *
                      go_loopw [14] (fun i v => ∃ k mm : Nat, k ≤ m ∧ i = .int .i64 k ∧ v = wE.drewN mm) (fun i _ => m - (intOf i).toNat)
                      case atStart => exact ⟨0, 0, by omega, rfl, rfl⟩
                      case round =>
                        obtain ⟨k, mm, hk, rfl, rfl⟩ := hrel
                        by_cases hlt : (k : Int) < (m : Int)
                        · have e1 : wE.cell? ⟨NF, k, none⟩ = some (.int .i64 (fst (tx Q) k)) := by rw [RF5.cell (i := k) (by omega), upTo_lt (by omega)]
                          have hfl := (fst_spec (tx Q) k).1
                          by_cases hfk : fst (tx Q) k = k
                          · have hb : ((fst (tx Q) k : Int) != (k : Int)) = false := by rw [hfk]; simp
                            have e2 : wE.cell? ⟨NR, k, none⟩ = some (.int .i64 (cnt (tx Q) k)) := by rw [RR5.cell (i := k) (by omega), upTo_lt (by omega), hfk]
                            have e3 : wE.cell? ⟨NT, k, none⟩ = some (.string (TX Q k)) := RT5.cell (i := k) (by omega)
                            obtain ⟨b, off, rfl, hbl, hc⟩ := hN5.cells (by omega)
                            have e4 := hc k (by omega)
                            have hok := hN5.ok k (by omega)
                            have hsn := Nm.small_n (q := Q k) (HSM.out k (by omega))
                            have hVk := HI1.out.hV k (by omega) hfk
                            have hMk := HI1.out.hM k (by omega)
                            rw [hfk] at hMk
                            have hcl : cnt (tx Q) k < C := by rw [← HCC.out]; exact cnt_lt (by omega) hfk
                            have hTs : (TX Q k).size ≤ maxLen := txt_size _ _ (HSM.out k (by omega))
                            have HA : Hid (∀ v : World, St NS none v NS no C nc V mo n M C → Calls Try.prog 14 #[.pointer (some ⟨NS, 0, none⟩), .int .i64 (cnt (tx Q) k)] v fun e w' => e = .returned (.slice (Q k).ao (Q k).n (Q k).c) ∧ w' = v) := fun v hv => by
                              have := nat_calls v (cnt (tx Q) k) hv hcl (by omega)
                              rw [hVk] at this
                              exact this
                            have HO : Hid (∀ v : World, St NS none v NS no C nc V mo n M C → Calls Try.prog 15 #[.pointer (some ⟨NS, 0, none⟩), .string (TX Q k)] v fun e w' => e = .returned (.tuple #[.int .i64 (cnt (tx Q) k), .bool true]) ∧ w' = v) := fun v hv => by
                              have := sof_calls v (TX Q k) hTs hv
                              rw [show (TX Q k).data.toList = tx Q k from rfl, hMk] at this
                              exact this
                            have HOK : Hid (Strs (wE.drewN mm) (Q k).ao (Q k).n (Q k).c (Q k).f) := hok.drewN mm
                            have HS1 : Hid (St NS none (wE.drewN mm) NS no C nc V mo n M C) := hS.drewN mm
                            have e1' : (wE.drewN mm).cell? ⟨NF, k, none⟩ = some (.int .i64 (fst (tx Q) k)) := e1
                            have e2' : (wE.drewN mm).cell? ⟨NR, k, none⟩ = some (.int .i64 (cnt (tx Q) k)) := e2
                            have e3' : (wE.drewN mm).cell? ⟨NT, k, none⟩ = some (.string (TX Q k)) := e3
                            have e4' : (wE.drewN mm).cell? ⟨b, off + k, none⟩ = some (.slice (Q k).ao (Q k).n (Q k).c) := e4
                            clear hfk hVk hMk hc hok hTs e1 e2 e3 e4
                            generalize hwF : wE.drewN mm = wF at *
                            have HF : Hid (wE.drewN mm = wF) := hwF
                            clear hwF
                            generalize hck : cnt (tx Q) k = x at *
                            clear hck
                            generalize TX Q k = T at *
                            have hne : ((x : Int) != (x : Int)) = false := by simp
                            go_wp2_with fail
                            go_quiet ((first | (go_at_call 14; exact Calls.quiet_of_same (HA.out _ (HS1.out.drewN _))) | (go_at_call 13; exact Calls.quiet_of (same_calls _ _ _ _ _ (HOK.out.drewN _) hsn))))
                            go_wp2_with fail
                            refine (HO.out _ (HS1.out.drewN nq)).mono ?_
                            rintro e w7 ⟨rfl, rfl⟩
                            go_wp2_with fail
                            go_roundw
                            case rel => exact ⟨k + 1, mm + nq, by omega, by go_num, by rw [← HF.out]; simp⟩
                            case measure => simp [intOf]; omega
                          · have hb : ((fst (tx Q) k : Int) != (k : Int)) = true := by rw [bne_iff_ne]; omega
                            clear hfk
                            go_wp2_with fail
                            go_roundw
                            case rel => exact ⟨k + 1, mm, by omega, by go_num, rfl⟩
                            case measure => simp [intOf]; omega
                        · go_wp2_with fail
                          go_ret
                          exact ⟨rfl, below_drewN hB5 mm⟩

set_option maxRecDepth 100000 in
theorem law5_big (ao : Option Addr) (m cap : Nat) (Q0 : Nat → Nm) (w : World) (h : Names w ao m Q0) (hm : m ≤ maxLen) (hbig : 4096 < m) (hn : ∀ i, (Q0 i).n ≤ maxLen) (hf : ∀ i j, ((Q0 i).f j).size ≤ maxLen) :
    Calls Try.prog 3 #[.slice ao m cap] w fun e w' => e = .returned (.bool true) ∧ Below w.heap.size w w' := by
  have hb : (4096 : Int) < (m : Int) := by omega
  have HC := zbytes5_calls ao m cap Q0 w h hm hn hf
  have HC' : Hid (Calls Try.prog 5 #[.slice ao m cap] w fun e w' => AnyBool e ∧ w' = w) := HC
  clear HC hn hf h
  unfold maxLen at hm
  go_enter Try.func3, Try.ntmps3
  go_wp2_with fail
  refine HC'.out.mono ?_
  rintro e w' ⟨⟨b1, rfl⟩, rfl⟩
  clear HC'
  cases b1 <;> (go_wp2_with fail; go_ret; exact ⟨rfl, Below.refl _ _⟩)
end Go.Proofs.Qxb6602799a
