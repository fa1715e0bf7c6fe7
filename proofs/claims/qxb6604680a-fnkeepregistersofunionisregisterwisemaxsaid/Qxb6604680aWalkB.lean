/-
  SEAT b6604680a. The walks of zzBitLen and raise.
-/
import Derived.Test.Qxb6604680aBase
import Derived.Test.Qxb6604680aBits
namespace Go.Proofs.Qxb6604680a
open Go.RowKit
set_option linter.unusedVariables false

theorem ret_int {k : IntKind} {a b : Int} (h : a = b) : Ending.returned (.int k a) = .returned (.int k b) := by rw [h]

set_option maxHeartbeats 400000 in
theorem bitLen_calls (x : Int) (w : World) (h0 : 0 ≤ x) (h1 : x ≤ 18446744073709551615) :
    Calls Try.prog 11 #[.int .u64 x] w fun e w' => e = .returned (.int .i64 (Lib.bitLen x.toNat : Int)) ∧ w' = w := by
  have hB : Hid (Lib.bitLen x.toNat ≤ 64) := bitLen_le64 x h0 h1
  go_enter Try.func11, Try.ntmps11
  go_wp2
  go_loop [0, 3] (fun y c => ∃ (z : Int) (k : Nat), 0 ≤ z ∧ z ≤ 18446744073709551615 ∧ k ≤ 64 ∧ y = .int .u64 z ∧ c = .int .i64 k ∧ Hid (Lib.bitLen x.toNat = k + Lib.bitLen z.toNat)) (fun y _ => (intOf y).toNat)
  case atStart => exact ⟨x, 0, h0, h1, by omega, rfl, rfl, (Nat.zero_add _).symm⟩
  case round =>
    obtain ⟨z, k, hz0, hz1, hk, rfl, rfl, HE⟩ := hrel
    by_cases hz : z = 0
    · subst hz
      go_wp2
      go_ret
      exact ⟨ret_int (by rw [HE.out]; simp [bitLen_zero]), rfl⟩
    · have hz' : (z != 0) = true := by rw [bne_iff_ne]; exact hz
      have hh : Hid (Lib.bitLen z.toNat = 1 + Lib.bitLen (z / 2).toNat) := by
        have e := Lib.bitLen_half z.toNat (by omega) (by have : (2 : Nat) ^ 64 = 18446744073709551616 := by decide
                                                         omega)
        have e2 : z.toNat / 2 = (z / 2).toNat := by omega
        rw [e2] at e; exact e
      go_wp2
      go_round
      case rel => exact ⟨z / 2, k + 1, by omega, by omega, by have := hB.out; have := HE.out; have := hh.out; omega, rfl, by go_num, by have := HE.out; have := hh.out; show _ = _; omega⟩
      case measure => simp [intOf]; omega

set_option maxHeartbeats 800000 in
theorem raise_calls (s b : Nat) (h : Int) (R : Nat → Int) (w : World) (h0 : 0 ≤ h) (h1 : h ≤ 18446744073709551615)
    (hs : w.cell? ⟨s, 1, none⟩ = some (.slice (some ⟨b, 0, none⟩) 8192 8192)) (hR : w.rowIs b 5 8192 (fun j => .int .u8 (R j))) (hr : ∀ j, 0 ≤ R j ∧ R j ≤ 52) :
    Calls Try.prog 33 #[.pointer (some ⟨s, 0, none⟩), .int .u64 h] w fun e w' => e = .returned (.tuple #[]) ∧ w' = (w.setCell ⟨b, top h, none⟩ (.int .u8 (max (R (top h)) (rnk h)))).drew := by
  have hrk := rnk_rng h
  have hlead : Hid _ := rnk_lead h h0
  have hw1 : 0 ≤ IntKind.u64.wrap (h * 8192) ∧ IntKind.u64.wrap (h * 8192) ≤ 18446744073709551615 := by rw [IntKind.wrap_u64]; omega
  have hb := bitLen_le64 _ hw1.1 hw1.2
  have hlz := bits_LeadingZeros64 (IntKind.u64.wrap (h * 8192)) w hw1.1 hw1.2
  generalize hq : (64 : Int) - (Lib.bitLen (IntKind.u64.wrap (h * 8192)).toNat : Int) = q at hlead hlz
  have hq0 : 0 ≤ q ∧ q ≤ 64 := by omega
  obtain ⟨hq1, hq2⟩ := hq0
  have Hlz : Hid (Calls Try.prog 36 #[.int .u64 (IntKind.u64.wrap (h * 8192))] w fun e w' => e = .returned (.int .i64 q) ∧ w' = w) := hlz
  have Htop : Hid _ := top_cast h0
  have htl := top_lt h1
  clear hlz hq hb hw1
  generalize rnk h = r at *
  generalize top h = t at *
  have hc := hR.cell htl
  have hf := hR.frozen t
  have hrt := hr t
  clear hR hr
  generalize R t = q0 at *
  go_enter Try.func33, Try.ntmps33
  go_wp2_with fail
  refine Hlz.out.mono ?_
  rintro e w' ⟨rfl, rfl⟩
  rw [Htop.out]
  clear Htop Hlz
  go_wp2
  go_region
  all_goals (go_end0; exact ⟨rfl, by rw [← hlead.out]⟩)
end Go.Proofs.Qxb6604680a
