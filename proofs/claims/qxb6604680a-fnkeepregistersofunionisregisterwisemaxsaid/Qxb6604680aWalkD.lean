/-
  SEAT b6604680a. The law's walk: FnKeepRegistersRankOfLeastHash.
-/
import Derived.Test.Qxb6604680aWalkA
import Derived.Test.Qxb6604680aWalkC
import Derived.Test.Qxb6604680aPlain
namespace Go.Proofs.Qxb6604680a
open Go.RowKit
set_option linter.unusedVariables false

/-- 'zzCopyU64', nil or not. -/
theorem copy_calls (ao : Option Addr) (n cap : Nat) (f : Nat → Int) (w : World) (h : Src w ao n f) (hn : n ≤ 1048576) :
    Calls Try.prog 9 #[.slice ao n cap] w fun e w' => ∃ ao', e = .returned (.slice ao' n n) ∧ Src w' ao' n f ∧ Below w.heap.size w w' := by
  cases ao with
  | none =>
    have hz := h.nil rfl
    subst hz
    refine (copy_nil w 0 cap).mono ?_
    rintro e w' ⟨rfl, rfl⟩
    exact ⟨none, rfl, h, Below.refl _ _⟩
  | some a =>
    refine (copy_some a n cap f w h hn).mono ?_
    rintro e w' ⟨rfl, hrow, hb⟩
    exact ⟨_, rfl, Src.row hrow h.rng, hb⟩

/-! ### A local array of 8192 cells: its zero value, by the kernel, cell by cell -/
def isZ8 : Value → Bool | .int .u8 (.ofNat 0) => true | _ => false
def chk (p : Value → Bool) : List Value → Nat → Bool
  | [], n => Nat.beq n 0
  | v :: t, n => match n with | 0 => false | n + 1 => match p v with | true => chk p t n | false => false
def chkZ (p : Value → Bool) (n : Nat) : Option Value → Bool | some (.agg ⟨l⟩) => chk p l n | _ => false
theorem chk_all {p : Value → Bool} {z : Value} (hp : ∀ v, p v = true → v = z) : ∀ (l : List Value) (n : Nat), chk p l n = true → l.length = n ∧ ∀ i, i < n → l[i]? = some z
  | [], n, h => by
    have : n = 0 := Nat.eq_of_beq_eq_true h
    subst this; exact ⟨rfl, fun i hi => absurd hi (by omega)⟩
  | v :: t, n, h => by
    cases n with
    | zero => simp [chk] at h
    | succ n =>
      simp only [chk] at h
      cases hv : p v with
      | false => rw [hv] at h; cases h
      | true =>
        rw [hv] at h
        obtain ⟨h1, h2⟩ := chk_all hp t n h
        refine ⟨by simp [h1], fun i hi => ?_⟩
        cases i with
        | zero => simp [hp v hv]
        | succ i => simpa using h2 i (by omega)
theorem isZ8_eq (v : Value) (h : isZ8 v = true) : v = .int .u8 0 := by
  unfold isZ8 at h
  split at h
  · rfl
  · cases h
theorem chkZ_all {p : Value → Bool} {z : Value} (hp : ∀ v, p v = true → v = z) {n : Nat} {o : Option Value} (h : chkZ p n o = true) : ∃ xs : Array Value, o = some (.agg xs) ∧ xs.size = n ∧ ∀ i, i < n → xs[i]? = some z := by
  unfold chkZ at h
  split at h
  · rename_i l
    obtain ⟨h1, h2⟩ := chk_all hp l n h
    exact ⟨⟨l⟩, rfl, h1, fun i hi => by simpa using h2 i hi⟩
  · cases h
theorem z28 : chkZ isZ8 8192 ((Try.prog.info? 28).bind (fun i => i.zero)) = true := by kernel_rfl

/-- 'var a [..]T': the zero value. -/
theorem run_zero {P : Program} {t : TypeId} {v : Value} (h : (P.info? t).bind (fun i => i.zero) = some v) (w : World) : (zeroValue t).run P w = .ok v w := by
  obtain ⟨i, hi, hz⟩ := Option.bind_eq_some_iff.1 h
  simp [zeroValue, typeInfo, hi, hz]

theorem and_low (x : Int) (h0 : 0 ≤ x) (h1 : x ≤ 18446744073709551615) : bits BinOp.and IntKind.u64 x 2251799813685247 = x % 2251799813685248 := by
  obtain ⟨y, rfl⟩ := Int.eq_ofNat_of_zero_le h0
  have := bits_and_u64_nat y 2251799813685247 (by omega) (by omega)
  rw [show ((2251799813685247 : Nat) : Int) = 2251799813685247 from rfl] at this
  rw [this, show (2251799813685247 : Nat) = 2 ^ 51 - 1 from by decide, Nat.and_two_pow_sub_one_eq_mod]
  simp

def AnyBool (e : Ending) : Prop := ∃ b, e = .returned (.bool b)
theorem bytes3_calls (ao : Option Addr) (n cap : Nat) (w : World) (hn : n ≤ maxLen) :
    Calls Try.prog 7 #[.slice ao n cap] w fun e w' => AnyBool e ∧ w' = w := by
  unfold maxLen at hn
  go_enter Try.func7, Try.ntmps7
  go_wp2
  all_goals
    go_ret
    exact ⟨⟨_, rfl⟩, rfl⟩
theorem bytes3_small (ao : Option Addr) (n cap : Nat) (w : World) (hn : n ≤ 65536) :
    Calls Try.prog 7 #[.slice ao n cap] w fun e w' => e = .returned (.bool true) ∧ w' = w := by
  go_enter Try.func7, Try.ntmps7
  go_wp2
  go_ret
  exact ⟨rfl, rfl⟩

theorem law_big (ao : Option Addr) (n cap : Nat) (w : World) (hn : n ≤ maxLen) (hbig : 65536 < n) :
    Calls Try.prog 3 #[.slice ao n cap] w fun e w' => e = .returned (.bool true) ∧ Below w.heap.size w w' := by
  go_enter Try.func3, Try.ntmps3
  go_wp2_with fail
  refine (bytes3_calls ao n cap _ hn).mono ?_
  rintro e w' ⟨⟨b, rfl⟩, rfl⟩
  unfold maxLen at hn
  cases b <;> (go_wp2_with fail; go_ret; exact ⟨rfl, Below.refl _ _⟩)

set_option maxHeartbeats 1000000 in
theorem law_small (ao : Option Addr) (n cap : Nat) (f : Nat → Int) (w : World) (h : Src w ao n f) (hn : n ≤ 65536) :
    Calls Try.prog 3 #[.slice ao n cap] w fun e w' => e = .returned (.bool true) ∧ Below w.heap.size w w' := by
  obtain ⟨xs, hxs, hsz, hcs⟩ := chkZ_all isZ8_eq z28
  have hal : Hid (∀ w : World, (zeroValue 28).run Try.prog w = .ok (.agg xs) w) := fun w => run_zero hxs w
  clear hxs
  have hd : decide ((65536 : Int) < (n : Int)) = false := by simp; omega
  go_enter Try.func3, Try.ntmps3
  go_wp2_with fail
  refine (bytes3_small ao n cap _ hn).mono ?_
  rintro e w' ⟨rfl, rfl⟩
  go_wp2_with fail
  refine (asc_calls ao n cap f _ h (by omega)).mono ?_
  rintro e w' ⟨⟨b, rfl, hasc⟩, m, rfl⟩
  cases b with
  | false =>
    go_wp2_with fail
    go_ret
    exact ⟨rfl, below_drewN (Below.refl _ _) m⟩
  | true =>
    have hasc' := hasc rfl
    clear hasc
    have h1 := h.drewN m
    have hB0 : Below w'.heap.size w' (w'.drewN m) := below_drewN (Below.refl _ _) m
    generalize w'.drewN m = w1 at *
    go_wp2_with fail
    refine (copy_calls ao n cap f _ h1 (by omega)).mono ?_
    rintro e w2 ⟨a1, rfl, s1, b1⟩
    have hB1 : Below w'.heap.size w' w2 := hB0.trans (b1.mono hB0.size)
    clear h1 b1 hB0
    go_wp2_with fail
    refine (copy_calls a1 n n f _ s1 (by omega)).mono ?_
    rintro e w3 ⟨a2, rfl, s2, b2⟩
    have s1' := s1.below b2
    have hB2 : Below w'.heap.size w' w3 := hB1.trans (b2.mono hB1.size)
    clear s1 b2 hB1
    go_wp2_with fail
    refine (after_calls a2 n n f _ s2 (by omega)).mono ?_
    rintro e w4 ⟨rfl, hgot, b3⟩
    have s1 := s1'.below b3
    have hB3 : Below w'.heap.size w' w4 := hB2.trans (b3.mono hB2.size)
    have HG : Hid (w4.rowIs (w3.heap.size + 1) 5 8192 (fun j => .int .u8 (regs f n j))) := hgot
    have hgl := hgot.lt
    clear s1' s2 b3 hB2 hgot
    generalize w3.heap.size + 1 = g at *
    have hal' := hal.out
    go_wp2_with fail
    clear hal hal'
    have hwant : Hid ((w4.alloc (.cells xs 28)).rowIs w4.heap.size 28 8192 (fun j => .int .u8 (regs f 0 j))) := by
      have := World.rowIs_alloc w4 xs 28 (fun j => .int .u8 (regs f 0 j)) (fun i hi => hcs i (by omega))
      rw [hsz] at this
      exact this
    have hB4 : Below w4.heap.size w4 (w4.alloc (.cells xs 28)) := (Below.refl _ _).alloc (Nat.le_refl _) _
    clear hcs hsz
    generalize w4.alloc (.cells xs 28) = W at *
    obtain ⟨q, hq⟩ : ∃ q, w4.heap.size = q := ⟨_, rfl⟩
    have Hq : Hid (w4.heap.size = q) := hq
    rw [hq] at hwant hB4 hgl ⊢
    have hB5 : Hid (Below q w4 W) := hB4
    clear hB4 h hd hq
    go_loopw [7] (fun i wr => ∃ k : Nat, k ≤ n ∧ i = .int .i64 k ∧ wr.rowIs q 28 8192 (fun j => .int .u8 (regs f k j)) ∧ Below q w4 wr) (fun i _ => n - (intOf i).toNat)
    case atStart => exact ⟨0, Nat.zero_le _, rfl, hwant.out, hB5⟩
    case round =>
      obtain ⟨k, hk, rfl, hrow, hbel⟩ := hrel
      clear hwant hB5
      by_cases hlt : (k : Int) < (n : Int)
      · obtain ⟨b, off, rfl, hbl, hc⟩ := s1.cells (by omega)
        obtain ⟨r1, r2⟩ := s1.rng k
        have hr0 : Hid (∀ j, 0 ≤ f j) := fun j => (s1.rng j).1
        have c1 : wr.cell? ⟨b, off + k, none⟩ = some (.int .u64 (f k)) := by rw [hbel.cell (by rw [← Hq.out]; exact hbl)]; exact hc k (by omega)
        have HR : Hid (wr.rowIs q 28 8192 (fun j => .int .u8 (regs f k j))) := hrow
        have htl := top_lt r2
        have hrk := rnk_rng (f k)
        have d1 := hrow.cell htl
        have d2 := hrow.frozen (top (f k))
        have Htc : Hid (f k / 2251799813685248 = (top (f k) : Int)) := top_cast r1
        clear hrow
        by_cases hk0 : (0 : Int) < (k : Int)
        · have c2 : wr.cell? ⟨b, off + (k - 1), none⟩ = some (.int .u64 (f (k - 1))) := by rw [hbel.cell (by rw [← Hq.out]; exact hbl)]; exact hc (k - 1) (by omega)
          obtain ⟨r3, r4⟩ := s1.rng (k - 1)
          clear hc s1
          by_cases he : f (k - 1) / 2251799813685248 = f k / 2251799813685248
          · have he' : (f (k - 1) / 2251799813685248 == f k / 2251799813685248) = true := by rw [beq_iff_eq]; exact he
            have ht : top (f (k - 1)) = top (f k) := (top_eq_iff r3 r1).1 he
            have R : Hid (wr.rowIs q 28 8192 (fun j => .int .u8 (regs f (k + 1) j))) := HR.out.congr (fun j _ => by rw [regs_skip hr0.out hasc' (by omega) (by omega) ht])
            clear he d1 d2 ht HR
            go_wp2_with fail
            go_roundw
            case rel => exact ⟨k + 1, by omega, by go_num, R.out, hbel⟩
            case measure => simp [intOf]; omega
          · have he' : (f (k - 1) / 2251799813685248 == f k / 2251799813685248) = false := by rw [beq_eq_false_iff_ne]; exact he
            have hne : 0 < k → top (f (k - 1)) ≠ top (f k) := fun _ h => he ((top_eq_iff r3 r1).2 h)
            have R : Hid ((wr.setCell ⟨q, top (f k), none⟩ (.int .u8 (rnk (f k)))).rowIs q 28 8192 (fun j => .int .u8 (regs f (k + 1) j))) := (HR.out.set (top (f k)) (.int .u8 (rnk (f k)))).congr (fun j _ => by
              rw [regs_new hr0.out hasc' (by omega) hne]
              by_cases e : j = top (f k) <;> simp [e])
            have hL := bitLen_low (f k)
            have HL : Hid (rnk (f k) = 52 - (Lib.bitLen (f k % 2251799813685248).toNat : Int)) := rfl
            clear he HR hne
            go_wp2_with fail
            rw [and_low _ r1 r2]
            refine (bitLen_calls _ _ (by omega) (by omega)).mono ?_
            rintro e w5 ⟨rfl, rfl⟩
            rw [Htc.out]
            generalize Lib.bitLen (f k % 2251799813685248).toNat = L at *
            generalize rnk (f k) = rk at *
            generalize top (f k) = t at *
            clear Htc
            go_wp2_with fail
            go_roundw
            case rel => exact ⟨k + 1, by omega, by go_num, by rw [← HL.out]; exact R.out, hbel.setCell (Nat.le_refl _) _⟩
            case measure => simp [intOf]; omega
        · have hne : 0 < k → top (f (k - 1)) ≠ top (f k) := fun h => absurd h (by omega)
          have hkd : decide (0 < k) = false := by simp; omega
          clear hc s1
          have R : Hid ((wr.setCell ⟨q, top (f k), none⟩ (.int .u8 (rnk (f k)))).rowIs q 28 8192 (fun j => .int .u8 (regs f (k + 1) j))) := (HR.out.set (top (f k)) (.int .u8 (rnk (f k)))).congr (fun j _ => by
            rw [regs_new hr0.out hasc' (by omega) hne]
            by_cases e : j = top (f k) <;> simp [e])
          have hL := bitLen_low (f k)
          have HL : Hid (rnk (f k) = 52 - (Lib.bitLen (f k % 2251799813685248).toNat : Int)) := rfl
          clear hk0 HR hne
          go_wp2_with fail
          rw [and_low _ r1 r2]
          refine (bitLen_calls _ _ (by omega) (by omega)).mono ?_
          rintro e w5 ⟨rfl, rfl⟩
          rw [Htc.out]
          generalize Lib.bitLen (f k % 2251799813685248).toNat = L at *
          generalize rnk (f k) = rk at *
          generalize top (f k) = t at *
          clear Htc
          go_wp2_with fail
          go_roundw
          case rel => exact ⟨k + 1, by omega, by go_num, by rw [← HL.out]; exact R.out, hbel.setCell (Nat.le_refl _) _⟩
          case measure => simp [intOf]; omega
      · have hkn : k = n := by omega
        subst hkn
        have hG : Hid (wr.rowIs g 5 8192 (fun j => .int .u8 (regs f k j))) := HG.out.of_block (hbel.block g hgl)
        have HW : Hid (wr.rowIs q 28 8192 (fun j => .int .u8 (regs f k j))) := hrow
        have hB6 : Below w'.heap.size w' wr := hB3.trans (hbel.mono (by rw [← Hq.out]; exact hB3.size))
        clear HG hrow hbel hB3 s1 Hq hgl hasc'
        go_wp2_with fail
        go_loopw [9] (fun i v => ∃ j m : Nat, j ≤ 8192 ∧ i = .int .i64 j ∧ v = wr.drewN m) (fun i _ => 8192 - (intOf i).toNat)
        case atStart => exact ⟨0, 0, by omega, rfl, rfl⟩
        case round =>
          obtain ⟨j, m', hj, rfl, rfl⟩ := hrel
          by_cases hjl : (j : Int) < 8192
          · have e1 := hG.out.cell (i := j) (by omega)
            have e2 := HW.out.cell (i := j) (by omega)
            have hrr := regs_rng f k j
            have hne : (regs f k j != regs f k j) = false := by simp
            generalize regs f k j = x at e1 e2 hrr hne
            clear hG HW
            go_wp2_with fail
            go_quiet (fail)
            go_wp2_with fail
            go_roundw
            case rel => exact ⟨j + 1, m' + nq, by omega, by go_num, by simp⟩
            case measure => simp [intOf]; omega
          · clear hG HW
            go_wp2_with fail
            go_ret
            exact ⟨rfl, below_drewN hB6 m'⟩
end Go.Proofs.Qxb6604680a
