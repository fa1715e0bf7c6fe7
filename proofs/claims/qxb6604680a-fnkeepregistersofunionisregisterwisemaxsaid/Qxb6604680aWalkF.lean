/-
  SEAT b6604680a. The law's walk: FnKeepRegistersOfUnionIsRegisterwiseMax.
-/
import Derived.Test.Qxb6604680aWalkD
import Derived.Test.Qxb6604680aPlain2
namespace Go.Proofs.Qxb6604680a
open Go.RowKit
set_option linter.unusedVariables false

def isF : Value → Bool | .bool false => true | _ => false
theorem isF_eq (v : Value) (h : isF v = true) : v = .bool false := by
  unfold isF at h
  split at h
  · rfl
  · cases h
theorem z34 : chkZ isF 8192 ((Try.prog.info? 34).bind (fun i => i.zero)) = true := by kernel_rfl

theorem bytes4_any (ao : Option Addr) (n cap : Nat) (bo : Option Addr) (k kap : Nat) (w : World) (hn : n ≤ maxLen) (hk : k ≤ maxLen) :
    Calls Try.prog 12 #[.slice ao n cap, .slice bo k kap] w fun e w' => AnyBool e ∧ w' = w := by
  unfold maxLen at hn hk
  go_enter Try.func12, Try.ntmps12
  go_wp2
  all_goals
    go_ret
    exact ⟨⟨_, rfl⟩, rfl⟩
theorem bytes4_small (ao : Option Addr) (n cap : Nat) (bo : Option Addr) (k kap : Nat) (w : World) (hn : n + k ≤ 65536) :
    Calls Try.prog 12 #[.slice ao n cap, .slice bo k kap] w fun e w' => e = .returned (.bool true) ∧ w' = w := by
  go_enter Try.func12, Try.ntmps12
  go_wp2
  go_ret
  exact ⟨rfl, rfl⟩

theorem law4_big (ao : Option Addr) (n cap : Nat) (bo : Option Addr) (k kap : Nat) (w : World) (hn : n ≤ maxLen) (hk : k ≤ maxLen) (hbig : 65536 < n + k) :
    Calls Try.prog 4 #[.slice ao n cap, .slice bo k kap] w fun e w' => e = .returned (.bool true) ∧ Below w.heap.size w w' := by
  by_cases h1 : (65536 : Int) < (n : Int)
  · go_enter Try.func4, Try.ntmps4
    go_wp2_with fail
    refine (bytes4_any ao n cap bo k kap _ hn hk).mono ?_
    rintro e w' ⟨⟨b, rfl⟩, rfl⟩
    unfold maxLen at hn hk
    cases b <;> (go_wp2_with fail; go_ret; exact ⟨rfl, Below.refl _ _⟩)
  · have d1 : decide (65536 < n) = false := by simp; omega
    by_cases h2 : (65536 : Int) < (k : Int)
    · go_enter Try.func4, Try.ntmps4
      go_wp2_with fail
      refine (bytes4_any ao n cap bo k kap _ hn hk).mono ?_
      rintro e w' ⟨⟨b, rfl⟩, rfl⟩
      unfold maxLen at hn hk
      cases b <;> (go_wp2_with fail; go_ret; exact ⟨rfl, Below.refl _ _⟩)
    · have d2 : decide (65536 < k) = false := by simp; omega
      go_enter Try.func4, Try.ntmps4
      go_wp2_with fail
      refine (bytes4_any ao n cap bo k kap _ hn hk).mono ?_
      rintro e w' ⟨⟨b, rfl⟩, rfl⟩
      unfold maxLen at hn hk
      cases b <;> (go_wp2_with fail; go_ret; exact ⟨rfl, Below.refl _ _⟩)

set_option maxHeartbeats 4000000 in
theorem law4_small (ao : Option Addr) (n cap : Nat) (f : Nat → Int) (bo : Option Addr) (k kap : Nat) (g : Nat → Int) (w : World) (ha : Src w ao n f) (hb : Src w bo k g) (hn : n + k ≤ 65536) :
    Calls Try.prog 4 #[.slice ao n cap, .slice bo k kap] w fun e w' => e = .returned (.bool true) ∧ Below w.heap.size w w' := by
  obtain ⟨xs, hxs, hsz, hcs⟩ := chkZ_all isF_eq z34
  have hal : Hid (∀ w : World, (zeroValue 34).run Try.prog w = .ok (.agg xs) w) := fun w => run_zero hxs w
  clear hxs
  have hsz' : Hid _ := hsz
  have hcs' : Hid _ := hcs
  clear hsz hcs
  have d1 : decide ((65536 : Int) < (n : Int)) = false := by simp; omega
  have d2 : decide ((65536 : Int) < (k : Int)) = false := by simp; omega
  have d3 : decide ((65536 : Int) < (n : Int) + (k : Int)) = false := by simp; omega
  go_enter Try.func4, Try.ntmps4
  go_wp2_with fail
  refine (bytes4_small ao n cap bo k kap _ hn).mono ?_
  rintro e w' ⟨rfl, rfl⟩
  go_wp2_with fail
  refine (asc_calls ao n cap f _ ha (by omega)).mono ?_
  rintro e w' ⟨⟨b1, rfl, hasc1⟩, m1, rfl⟩
  clear hasc1
  cases b1 with
  | false =>
    go_wp2_with fail
    go_ret
    exact ⟨rfl, below_drewN (Below.refl _ _) m1⟩
  | true =>
    go_wp2_with fail
    refine (asc_calls bo k kap g _ (hb.drewN m1) (by omega)).mono ?_
    rintro e w' ⟨⟨b2, rfl, hasc2⟩, m2, rfl⟩
    clear hasc2
    cases b2 with
    | false =>
      go_wp2_with fail
      go_ret
      exact ⟨rfl, below_drewN (Below.refl _ _) _⟩
    | true =>
      have ha1 := (ha.drewN m1).drewN m2
      have hb1 := (hb.drewN m1).drewN m2
      have B1 : Below w'.heap.size w' ((w'.drewN m1).drewN m2) := below_drewN (below_drewN (Below.refl _ _) m1) m2
      generalize (w'.drewN m1).drewN m2 = w1 at *
      clear ha hb
      go_wp2_with fail
      refine (copy_calls ao n cap f _ ha1 (by omega)).mono ?_
      rintro e w2 ⟨a1, rfl, sa, b1⟩
      have sb0 := hb1.below b1
      have B2 : Below w'.heap.size w' w2 := B1.trans (b1.mono B1.size)
      clear ha1 hb1 b1 B1
      go_wp2_with fail
      refine (copy_calls bo k kap g _ sb0 (by omega)).mono ?_
      rintro e w3 ⟨a2, rfl, sb, b2⟩
      have sa := sa.below b2
      have B3 : Below w'.heap.size w' w3 := B2.trans (b2.mono B2.size)
      clear sb0 b2 B2
      go_wp2_with fail
      refine (union_calls a1 n n f a2 k k g _ sa sb (by omega)).mono ?_
      rintro e w4 ⟨m, l, rfl, hU⟩
      have su := hU.src sa.rng sb.rng
      have hmu : m ≤ 1048576 := by have := hU.le; omega
      have HR : Hid (∀ i, regs (fun j => l.getD j 0) m i = max (regs f n i) (regs g k i)) := hU.regs
      have sa := sa.below hU.bel
      have sb := sb.below hU.bel
      have B4 : Below w'.heap.size w' w4 := B3.trans (hU.bel.mono B3.size)
      clear hU B3
      generalize (fun j => l.getD j 0) = u at *
      generalize w3.heap.size = N3 at *
      go_wp2_with fail
      refine (copy_calls a1 n n f _ sa (by omega)).mono ?_
      rintro e w5 ⟨a3, rfl, sa3, b5⟩
      have sa := sa.below b5
      have sb := sb.below b5
      have su := su.below b5
      have B5 : Below w'.heap.size w' w5 := B4.trans (b5.mono B4.size)
      clear b5 B4
      go_wp2_with fail
      refine (after_calls a3 n n f _ sa3 (by omega)).mono ?_
      rintro e w6 ⟨rfl, hra, b6⟩
      have sa := sa.below b6
      have sb := sb.below b6
      have su := su.below b6
      have B6 : Below w'.heap.size w' w6 := B5.trans (b6.mono B5.size)
      clear b6 B5 sa3
      generalize w5.heap.size + 1 = ga at *
      go_wp2_with fail
      refine (copy_calls a2 k k g _ sb (by omega)).mono ?_
      rintro e w7 ⟨a4, rfl, sb4, b7⟩
      have sa := sa.below b7
      have sb := sb.below b7
      have su := su.below b7
      have hra := hra.of_block (b7.block ga hra.lt)
      have B7 : Below w'.heap.size w' w7 := B6.trans (b7.mono B6.size)
      clear b7 B6
      go_wp2_with fail
      refine (after_calls a4 k k g _ sb4 (by omega)).mono ?_
      rintro e w8 ⟨rfl, hrb, b8⟩
      have sa := sa.below b8
      have sb := sb.below b8
      have su := su.below b8
      have hra := hra.of_block (b8.block ga hra.lt)
      have B8 : Below w'.heap.size w' w8 := B7.trans (b8.mono B7.size)
      clear b8 B7 sb4
      generalize w7.heap.size + 1 = gb at *
      go_wp2_with fail
      refine (after_calls _ m (n + k) u _ su hmu).mono ?_
      rintro e w9 ⟨rfl, hru, b9⟩
      have sa := sa.below b9
      have sb := sb.below b9
      have hra := hra.of_block (b9.block ga hra.lt)
      have hrb := hrb.of_block (b9.block gb hrb.lt)
      have B9 : Below w'.heap.size w' w9 := B8.trans (b9.mono B8.size)
      clear b9 B8 su
      generalize w8.heap.size + 1 = gu at *
      have HA : Hid (w9.rowIs ga 5 8192 (fun j => .int .u8 (regs f n j))) := hra
      have HB : Hid (w9.rowIs gb 5 8192 (fun j => .int .u8 (regs g k j))) := hrb
      have HU : Hid (w9.rowIs gu 5 8192 (fun j => .int .u8 (regs u m j))) := hru
      have hal' := hal.out
      clear hra hrb hru
      go_wp2_with fail
      clear hal hal'
      have hseen : Hid ((w9.alloc (.cells xs 34)).rowIs w9.heap.size 34 8192 (fun j => .bool (seen (fun _ => false) f 0 j))) := by
        have := World.rowIs_alloc w9 xs 34 (fun j => .bool (seen (fun _ => false) f 0 j)) (fun i hi => hcs'.out i (by rw [hsz'.out] at hi; exact hi))
        rw [hsz'.out] at this
        exact this
      have hB10 : Below w9.heap.size w9 (w9.alloc (.cells xs 34)) := (Below.refl _ _).alloc (Nat.le_refl _) _
      clear hcs' hsz' hmu
      have la := HA.out.lt
      have lb := HB.out.lt
      have lu := HU.out.lt
      generalize w9.alloc (.cells xs 34) = W at *
      obtain ⟨q, hq⟩ : ∃ q, w9.heap.size = q := ⟨_, rfl⟩
      have Hq : Hid (w9.heap.size = q) := hq
      rw [hq] at hseen hB10 la lb lu ⊢
      have hB11 : Hid (Below q w9 W) := hB10
      clear hB10 hq
      go_loopw [13] (fun i wr => ∃ p : Nat, p ≤ n ∧ i = .int .i64 p ∧ wr.rowIs q 34 8192 (fun j => .bool (seen (fun _ => false) f p j)) ∧ Below q w9 wr) (fun i _ => n - (intOf i).toNat)
      case atStart => exact ⟨0, Nat.zero_le _, rfl, hseen.out, hB11.out⟩
      case round =>
        obtain ⟨p, hp, rfl, hrow, hbel⟩ := hrel
        by_cases hlt : (p : Int) < (n : Int)
        · obtain ⟨b, off, rfl, hbl, hc⟩ := sa.cells (by omega)
          obtain ⟨r1, r2⟩ := sa.rng p
          have c1 : wr.cell? ⟨b, off + p, none⟩ = some (.int .u64 (f p)) := by rw [hbel.cell (by rw [← Hq.out]; exact hbl)]; exact hc p (by omega)
          have htl := top_lt r2
          have dd1 : wr.cell? ⟨q, (f p / 2251799813685248).toNat, none⟩ = some _ := hrow.cell htl
          have dd2 : wr.frozen? ⟨q, (f p / 2251799813685248).toNat, none⟩ = false := hrow.frozen (top (f p))
          have hq1 : f p / 2251799813685248 < 8192 := by omega
          have hq0 : 0 ≤ f p / 2251799813685248 := by omega
          have R : Hid ((wr.setCell ⟨q, (f p / 2251799813685248).toNat, none⟩ (.bool true)).rowIs q 34 8192 (fun j => .bool (seen (fun _ => false) f (p + 1) j))) := (hrow.set (top (f p)) (.bool true)).congr (fun j _ => by simp only [seen]; split <;> simp_all)
          clear hrow hc htl
          go_wp2_with fail
          go_roundw
          case rel => exact ⟨p + 1, by omega, by go_num, R.out, hbel.setCell (Nat.le_refl _) _⟩
          case measure => simp [intOf]; omega
        · have hkn : p = n := by omega
          subst hkn
          clear sa hseen hB11
          have H1 : Hid (wr.rowIs q 34 8192 (fun j => .bool (seen (fun _ => false) f p j))) := hrow
          have H2 : Hid (Below q w9 wr) := hbel
          clear hrow hbel
          go_wp2_with fail
          go_loopw [14] (fun i wr => ∃ p' : Nat, p' ≤ k ∧ i = .int .i64 p' ∧ wr.rowIs q 34 8192 (fun j => .bool (seen (seen (fun _ => false) f p) g p' j)) ∧ Below q w9 wr) (fun i _ => k - (intOf i).toNat)
          case atStart => exact ⟨0, Nat.zero_le _, rfl, H1.out, H2.out⟩
          case round =>
            clear H1 H2
            rename_i wr'
            obtain ⟨p', hp', rfl, hrow, hbel⟩ := hrel
            by_cases hlt' : (p' : Int) < (k : Int)
            · obtain ⟨b, off, rfl, hbl, hc⟩ := sb.cells (by omega)
              obtain ⟨r1, r2⟩ := sb.rng p'
              have c1 : wr.cell? ⟨b, off + p', none⟩ = some (.int .u64 (g p')) := by rw [hbel.cell (by rw [← Hq.out]; exact hbl)]; exact hc p' (by omega)
              have htl := top_lt r2
              have dd1 : wr.cell? ⟨q, (g p' / 2251799813685248).toNat, none⟩ = some _ := hrow.cell htl
              have dd2 : wr.frozen? ⟨q, (g p' / 2251799813685248).toNat, none⟩ = false := hrow.frozen (top (g p'))
              have hq1 : g p' / 2251799813685248 < 8192 := by omega
              have hq0 : 0 ≤ g p' / 2251799813685248 := by omega
              have R : Hid ((wr.setCell ⟨q, (g p' / 2251799813685248).toNat, none⟩ (.bool true)).rowIs q 34 8192 (fun j => .bool (seen (seen (fun _ => false) f p) g (p' + 1) j))) := (hrow.set (top (g p')) (.bool true)).congr (fun j _ => by simp only [seen]; split <;> simp_all)
              clear hrow hc htl
              go_wp2_with fail
              go_roundw
              case rel => exact ⟨p' + 1, by omega, by go_num, R.out, hbel.setCell (Nat.le_refl _) _⟩
              case measure => simp [intOf]; omega
            · have hkn : p' = k := by omega
              subst hkn
              clear sb
              have HA1 : Hid (wr.rowIs ga 5 8192 (fun j => .int .u8 (regs f p j))) := HA.out.of_block (hbel.block ga la)
              have HB1 : Hid (wr.rowIs gb 5 8192 (fun j => .int .u8 (regs g p' j))) := HB.out.of_block (hbel.block gb lb)
              have HU1 : Hid (wr.rowIs gu 5 8192 (fun j => .int .u8 (regs u m j))) := HU.out.of_block (hbel.block gu lu)
              have HS1 : Hid (wr.rowIs q 34 8192 (fun j => .bool (seen (seen (fun _ => false) f p) g p' j))) := hrow
              have B12 : Below w'.heap.size w' wr := B9.trans (hbel.mono (by rw [← Hq.out]; exact B9.size))
              clear HA HB HU hrow hbel B9 Hq la lb lu
              go_wp2_with fail
              go_loopw [15] (fun i v => ∃ j mm : Nat, j ≤ 8192 ∧ i = .int .i64 j ∧ v = wr.drewN mm) (fun i _ => 8192 - (intOf i).toNat)
              case atStart => exact ⟨0, 0, by omega, rfl, rfl⟩
              case round =>
                obtain ⟨j, mm, hj, rfl, rfl⟩ := hrel
                by_cases hjl : (j : Int) < 8192
                · have e1 := HA1.out.cell (i := j) (by omega)
                  have e2 := HB1.out.cell (i := j) (by omega)
                  have e3 := HU1.out.cell (i := j) (by omega)
                  have e4 := HS1.out.cell (i := j) (by omega)
                  have hr := HR.out j
                  have hs := seen_union j hr
                  have r1 := regs_rng f p j
                  have r2 := regs_rng g p' j
                  rw [hr] at e3 hs
                  simp only [hs] at e4
                  clear HA1 HB1 HU1 HS1 hr hs
                  generalize regs f p j = x at *
                  generalize regs g p' j = y at *
                  by_cases hxy : x < y
                  · rw [show max x y = y from by omega] at e3 e4
                    by_cases hy : y = 0
                    · omega
                    · have hyb : (y != 0) = true := by rw [bne_iff_ne]; exact hy
                      rw [hyb] at e4
                      go_wp2_with fail
                      go_quiet (fail)
                      go_wp2_with fail
                      go_roundw
                      case rel => exact ⟨j + 1, mm + nq, by omega, by go_num, by simp⟩
                      case measure => simp [intOf]; omega
                  · rw [show max x y = x from by omega] at e3 e4
                    by_cases hx : x = 0
                    · have hxb : (x != 0) = false := by simp [hx]
                      rw [hxb] at e4
                      clear hx
                      go_wp2_with fail
                      go_quiet (fail)
                      go_wp2_with fail
                      go_roundw
                      case rel => exact ⟨j + 1, mm + nq, by omega, by go_num, by simp⟩
                      case measure => simp [intOf]; omega
                    · have hxb : (x != 0) = true := by rw [bne_iff_ne]; exact hx
                      rw [hxb] at e4
                      go_wp2_with fail
                      go_quiet (fail)
                      go_wp2_with fail
                      go_roundw
                      case rel => exact ⟨j + 1, mm + nq, by omega, by go_num, by simp⟩
                      case measure => simp [intOf]; omega
                · clear HA1 HB1 HU1 HS1
                  go_wp2_with fail
                  go_ret
                  exact ⟨rfl, below_drewN B12 mm⟩
end Go.Proofs.Qxb6604680a
