/-
  SEAT b6604766a. The walks of the five functions on the road of 'FnTextSplitsBack', and the plain law: where ': ' stands nowhere in a, its first place in a ++ ': ' ++ b is the end of a.
-/
import Derived.Test.Qxb6604766aProg
import Derived.WalkKit
import Derived.ProofKit
import Derived.OpenShut
import Derived.WalkSpells
import Derived.Deep.QuietTactic
import Derived.BigQuiet
namespace Go.Proofs.Qxb6604766a
open Go.RowKit

/-- ': ' stands at place i of s. -/
def csAt (s : ByteArray) (i : Nat) : Prop := ∃ h : i + 1 < s.size, (s[i]'(by omega)).toNat = 58 ∧ (s[i + 1]'h).toNat = 32
/-- Where the answer is 'no', ': ' stands nowhere. -/
def Tells (b : Bool) (s : ByteArray) : Prop := b = false → ∀ i, ¬ csAt s i
def Answers (e : Ending) (s : ByteArray) : Prop := ∃ b, e = .returned (.bool b) ∧ Tells b s
/-- ': ' stands nowhere ahead of k. -/
def NoneTo (s : ByteArray) (k : Nat) : Prop := ∀ j, j < k → ¬ csAt s j

theorem noneTo_zero (s : ByteArray) : NoneTo s 0 := fun _ hj => absurd hj (Nat.not_lt_zero _)
theorem noneTo_succ {s : ByteArray} {k : Nat} (h : NoneTo s k) (hk : ¬ csAt s k) : NoneTo s (k + 1) := by
  intro j hj
  by_cases e : j = k
  · rw [e]; exact hk
  · exact h j (by omega)
theorem noneTo_all {s : ByteArray} {k : Nat} (h : NoneTo s k) (hk : s.size ≤ k + 1) : ∀ i, ¬ csAt s i := by
  intro i ⟨h1, h2⟩
  exact h i (by omega) ⟨h1, h2⟩

theorem has_calls (s : ByteArray) (w : World) (hs : s.size ≤ 524288) :
    Calls Try.prog 10 #[.string s] w fun e w' => Answers e s ∧ w' = w := by
  go_enter Try.func10, Try.ntmps10
  go_wp2
  go_loop [3] (fun i => ∃ k : Nat, k ≤ s.size ∧ i = .int .i64 k ∧ NoneTo s k) (fun i => s.size - (intOf i).toNat)
  case atStart => exact ⟨0, Nat.zero_le _, rfl, noneTo_zero s⟩
  case round =>
    obtain ⟨k, hk, rfl, hno⟩ := hrel
    by_cases hlt : (k : Int) + 1 < s.size
    · have h1 : k < s.size := by omega
      have h2 : k + 1 < s.size := by omega
      by_cases hc : (s[k].toNat : Int) = 58
      · by_cases hd : (s[k + 1].toNat : Int) = 32
        · go_wp2
          go_ret
          exact ⟨⟨true, rfl, fun h => by cases h⟩, rfl⟩
        · go_wp2
          go_round
          case rel => exact ⟨k + 1, by omega, by go_num, noneTo_succ hno fun ⟨_, _, h4⟩ => hd (by omega)⟩
          case measure => simp [intOf]; omega
      · go_wp2
        go_round
        case rel => exact ⟨k + 1, by omega, by go_num, noneTo_succ hno fun ⟨_, h3, _⟩ => hc (by omega)⟩
        case measure => simp [intOf]; omega
    · go_wp2
      go_ret
      exact ⟨⟨false, rfl, fun _ => noneTo_all hno (by omega)⟩, rfl⟩

theorem split_calls (s : ByteArray) (p : Nat) (w : World) (hs : s.size ≤ 2097152) (hp : csAt s p) (hno : NoneTo s p) :
    Calls Try.prog 11 #[.string s] w fun e w' => e = .returned (.tuple #[.string (s.extract 0 p), .string (s.extract (p + 2) s.size), .bool true]) ∧ ∃ n, w' = w.drewN n := by
  go_enter Try.func11, Try.ntmps11
  go_wp2
  go_loop [5] (fun i => ∃ k : Nat, k ≤ p ∧ i = .int .i64 k) (fun i => s.size - (intOf i).toNat)
  case atStart => exact ⟨0, Nat.zero_le _, rfl⟩
  case round =>
    obtain ⟨k, hk, rfl⟩ := hrel
    obtain ⟨hp1, hp2, hp3⟩ := hp
    have hlt : (k : Int) + 1 < s.size := by omega
    have h1 : k < s.size := by omega
    have h2 : k + 1 < s.size := by omega
    by_cases he : k = p
    · subst he
      have hc : (s[k].toNat : Int) = 58 := by omega
      have hd : (s[k + 1].toNat : Int) = 32 := by omega
      clear hp2 hp3 hno
      go_wp2
      go_quiet (fail)
      go_wp2
      go_ret3
      exact ⟨rfl, _, rfl⟩
    · have hn : ¬ csAt s k := hno k (by omega)
      by_cases hc : (s[k].toNat : Int) = 58
      · have hd : ¬ (s[k + 1].toNat : Int) = 32 := fun h => hn ⟨h2, by omega, by omega⟩
        clear hp2 hp3
        go_wp2
        go_round
        case rel => exact ⟨k + 1, by omega, by go_num⟩
        case measure => simp [intOf]; omega
      · clear hp2 hp3
        go_wp2
        go_round
        case rel => exact ⟨k + 1, by omega, by go_num⟩
        case measure => simp [intOf]; omega
theorem text_calls (a b : ByteArray) (w : World) (ha : a.size ≤ 524288) (hb : b.size ≤ 524288) :
    Calls Try.prog 12 #[.string a, .string b] w fun e w' => e = .returned (.string (a ++ ⟨#[58, 32]⟩ ++ b)) ∧ w' = w := by
  go_enter Try.func12, Try.ntmps12
  go_wp2
  go_ret
  exact ⟨rfl, rfl⟩

/-! ### The plain law -/
theorem text_at (a b : ByteArray) : csAt (a ++ ⟨#[58, 32]⟩ ++ b) a.size := by
  have hsz : (a ++ ⟨#[58, 32]⟩ ++ b).size = a.size + 2 + b.size := by simp [ByteArray.size_append]; rfl
  refine ⟨by omega, ?_, ?_⟩
  · rw [ByteArray.getElem_append_left (by simp [ByteArray.size_append]; decide), ByteArray.getElem_append_right (Nat.le_refl _)]
    simp; rfl
  · rw [ByteArray.getElem_append_left (by simp [ByteArray.size_append]; decide), ByteArray.getElem_append_right (by omega)]
    simp; rfl
theorem text_none (a b : ByteArray) (h : ∀ i, ¬ csAt a i) : NoneTo (a ++ ⟨#[58, 32]⟩ ++ b) a.size := by
  intro j hj ⟨h1, h2, h3⟩
  rw [ByteArray.getElem_append_left (by simp [ByteArray.size_append]; omega), ByteArray.getElem_append_left hj] at h2
  by_cases e : j + 1 < a.size
  · rw [ByteArray.getElem_append_left (by simp [ByteArray.size_append]; omega), ByteArray.getElem_append_left e] at h3
    exact h j ⟨e, h2, h3⟩
  · have ej : j + 1 = a.size := by omega
    rw [ByteArray.getElem_append_left (by simp [ByteArray.size_append, ej]; decide), ByteArray.getElem_append_right (by omega)] at h3
    simp only [ej, Nat.sub_self] at h3
    exact absurd (show (58 : UInt8).toNat = 32 from h3) (by decide)
theorem text_left (a b : ByteArray) : (a ++ ⟨#[58, 32]⟩ ++ b).extract 0 a.size = a := by
  rw [ByteArray.append_assoc]; exact ByteArray.extract_append_eq_left rfl
theorem text_right (a b : ByteArray) : (a ++ ⟨#[58, 32]⟩ ++ b).extract (a.size + 2) (a ++ ⟨#[58, 32]⟩ ++ b).size = b := by
  exact ByteArray.extract_append_eq_right (by simp [ByteArray.size_append]; rfl) (by simp [ByteArray.size_append])
theorem text_size (a b : ByteArray) : (a ++ ⟨#[58, 32]⟩ ++ b).size = a.size + 2 + b.size := by simp [ByteArray.size_append]; rfl

/-! ### The law's walk -/
def AnyBool (e : Ending) : Prop := ∃ b, e = .returned (.bool b)
theorem bytes_small (a b : ByteArray) (w : World) (ha : a.size ≤ 524288) (hb : b.size ≤ 524288) :
    Calls Try.prog 9 #[.string a, .string b] w fun e w' => e = .returned (.bool true) ∧ w' = w := by
  go_enter Try.func9, Try.ntmps9
  go_wp2
  go_ret
  exact ⟨rfl, rfl⟩
theorem bytes_any (a b : ByteArray) (w : World) (ha : a.size ≤ maxLen) (hb : b.size ≤ maxLen) :
    Calls Try.prog 9 #[.string a, .string b] w fun e w' => AnyBool e ∧ w' = w := by
  unfold maxLen at ha hb
  go_enter Try.func9, Try.ntmps9
  go_wp2
  all_goals
    go_ret
    exact ⟨⟨_, rfl⟩, rfl⟩
theorem grown_drewN {w v : World} (n : Nat) (h : Grown w v) : Grown w (v.drewN n) := by
  induction n with
  | zero => exact h
  | succ n ih => exact ih

theorem law_small (a0 : ByteArray) (a1 : ByteArray) (w : World) (h0 : a0.size ≤ 524288) (h1 : a1.size ≤ 524288) :
    Calls Try.prog 4 #[.string a0, .string a1] w fun e w' => e = .returned (.bool true) ∧ Grown w w' := by
  have i0 : (a0.size : Int) ≤ 524288 := by omega
  have i1 : (a1.size : Int) ≤ 524288 := by omega
  go_enter Try.func4, Try.ntmps4
  go_wp2_with fail
  refine (bytes_small a0 a1 _ h0 h1).mono ?_
  rintro e w' ⟨rfl, rfl⟩
  go_wp2_with fail
  refine (has_calls a0 _ h0).mono ?_
  rintro e w' ⟨⟨b, rfl, hb⟩, rfl⟩
  cases b with
  | true =>
    go_wp2_with fail
    go_ret
    exact ⟨rfl, Grown.refl _⟩
  | false =>
    have ht := text_none a0 a1 (hb rfl)
    have hc := text_at a0 a1
    clear hb
    go_wp2_with fail
    refine (text_calls a0 a1 _ h0 h1).mono ?_
    rintro e w' ⟨rfl, rfl⟩
    go_wp2_with fail
    refine (split_calls _ a0.size _ (by rw [text_size]; omega) hc ht).mono ?_
    rintro e w' ⟨rfl, n, rfl⟩
    rw [text_left, text_right]
    clear ht hc
    go_wp2_with fail
    go_ret
    exact ⟨rfl, grown_drewN n (Grown.refl _)⟩
theorem law_walk (a0 : ByteArray) (a1 : ByteArray) (w0 : a0.size ≤ maxLen) (w1 : a1.size ≤ maxLen) (w : World) :
    Calls Try.prog 4 #[.string a0, .string a1] w fun e w' => e = .returned (.bool true) ∧ Grown w w' := by
  by_cases h0 : a0.size ≤ 524288
  · by_cases h1 : a1.size ≤ 524288
    · exact law_small a0 a1 w h0 h1
    · have i0 : (a0.size : Int) ≤ 524288 := by omega
      have i1 : (524288 : Int) < (a1.size : Int) := by omega
      go_enter Try.func4, Try.ntmps4
      go_wp2_with fail
      refine (bytes_any a0 a1 _ w0 w1).mono ?_
      rintro e w' ⟨⟨b, rfl⟩, rfl⟩
      cases b <;> (unfold maxLen at w0 w1; go_wp2_with fail; go_ret; exact ⟨rfl, Grown.refl _⟩)
  · have i0 : (524288 : Int) < (a0.size : Int) := by omega
    go_enter Try.func4, Try.ntmps4
    go_wp2_with fail
    refine (bytes_any a0 a1 _ w0 w1).mono ?_
    rintro e w' ⟨⟨b, rfl⟩, rfl⟩
    cases b <;> (unfold maxLen at w0 w1; go_wp2_with fail; go_ret; exact ⟨rfl, Grown.refl _⟩)
end Go.Proofs.Qxb6604766a
