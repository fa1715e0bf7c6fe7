/-
  THE PROOF OF 'Rows.FnSlotOnAnyStateThenIdempotentSaid': the kit's frame for a law over slices, at this function's number and types; its walk out of Qxb6602799aLaw6had.lean, Qxb6602799aLaw6new.lean and Qxb6602799aLaw6nil.lean.
-/
import Derived.Test.Qxb6602799aRows
import Derived.WalkKit
import Derived.ProofKit
import Derived.OpenShut
import Derived.ShutString
import Derived.ChangeOld
import Derived.Below
import Derived.Test.Qxb6602799aLaw6had
import Derived.Test.Qxb6602799aLaw6new
import Derived.Test.Qxb6602799aLaw6nil
import Derived.Test.Qxb6602799aOpen
namespace Go.Proofs.Qxb6602799a.fnSlotOnAnyStateThenIdempotent
open Go.ChangeShapes Go.WideShapes Go.ChangeAt Go.RowKit
set_option linter.unusedVariables false

theorem own : ownKnob Try.prog.godebug = none := by kernel_rfl
theorem laidOut : laidOutB Try.prog = true := by kernel_rfl

theorem ints_of_trod {H : Type} {enc : TypeId × Value → H} {w : World} {base : Nat} {spare : Nat → Bool} {held : Bool} {fuel : Nat} {ao : Option Addr} {n c : Nat} {x : DataW H × List MemPlace} (h : DataW.trod enc Try.prog w base spare held fuel 28 [.slice ao n c] = some x) :
    ∃ g : Nat → Int, Ints w ao n g ∧ n ≤ maxLen := by
  rcases open_ints Try.underlying28 Try.underlying3 (by kernel_rfl) h with ⟨e, _⟩ | ⟨a, len, cap, zs, e, _, hl, hm, hz, _, hcell, hwz⟩
  · cases e
    exact ⟨fun _ => 0, ⟨fun _ => rfl, fun h => absurd h (Nat.lt_irrefl 0), fun _ => by decide⟩, Nat.zero_le _⟩
  · cases e
    have hlen : n ≤ zs.length := by rw [hz]; split <;> omega
    refine ⟨fun j => zs.getD j 0, ⟨fun e => (by cases e), fun hp => ?_, fun j => ?_⟩, by omega⟩
    · obtain ⟨b, off, rfl⟩ := plain_of_cell (hcell 0 (Nat.lt_of_lt_of_le hp hlen))
      refine ⟨b, off, rfl, ?_, fun j hj => ?_⟩
      · exact block_lt_of_cell (hcell 0 (Nat.lt_of_lt_of_le hp hlen))
      · rw [← Go.WideShapes.add_plain]; exact hcell j (Nat.lt_of_lt_of_le hj hlen)
    · show (Lit.int .i64 (zs.getD j 0)).wf = true
      by_cases hj : j < zs.length
      · exact hwz _ (by simp [hj])
      · rw [show zs.getD j 0 = 0 by simp [List.getElem?_eq_none (by omega : zs.length ≤ j)]]; decide

theorem walk (a0 : Option Addr) (n0 c0 : Nat) (Q : Nat → Nm) (a1 : Option Addr) (n1 c1 : Nat) (f1 : Nat → ByteArray) (a2 : Option Addr) (n2 c2 : Nat) (g2 : Nat → Int) (a3 : Option Addr) (n3 c3 : Nat) (f3 : Nat → ByteArray) (w : World)
    (hN : Names w a0 n0 Q) (hm : n0 ≤ maxLen) (hn : ∀ i, (Q i).n ≤ maxLen) (hf : ∀ i j, ((Q i).f j).size ≤ maxLen)
    (hk : Strs w a1 n1 c1 f1) (hnk : n1 ≤ maxLen) (hfk : ∀ j, (f1 j).size ≤ maxLen) (hv : Ints w a2 n2 g2) (hnv : n2 ≤ maxLen) (hq : Strs w a3 n3 c3 f3) (hnn : n3 ≤ maxLen) (hfn : ∀ j, (f3 j).size ≤ maxLen) :
    Calls Try.prog 4 #[.slice a0 n0 c0, .slice a1 n1 c1, .slice a2 n2 c2, .slice a3 n3 c3] w fun e w' => e = .returned (.bool true) ∧ Below w.heap.size w w' := by
  cases a1 with
  | none => exact law6_nil a0 n0 c0 Q n1 c1 f1 a2 n2 c2 g2 a3 n3 c3 f3 w hN hm hn hf hk hnk hfk hv hnv hq hnn hfn
  | some ak =>
    cases hcase : Mk f1 g2 n1 (jn f3 n3) with
    | none => exact law6_new a0 n0 c0 Q ak n1 c1 f1 a2 n2 c2 g2 a3 n3 c3 f3 hcase w hN hm hn hf hk hnk hfk hv hnv hq hnn hfn
    | some x => exact law6_had a0 n0 c0 Q ak n1 c1 f1 a2 n2 c2 g2 a3 n3 c3 f3 x hcase w hN hm hn hf hk hnk hfk hv hnv hq hnn hfn

set_option maxRecDepth 100000 in
theorem lifted (os : Os) (started : os.Started) (H : Type) (enc : TypeId × Value → H) :
    ReturnsInHanded {} Try.checked os 4 .any (Rows.fnSlotOnAnyStateThenIdempotentSpec.pre6 enc Try.prog Try.f4 Rows.fnSlotOnAnyStateThenIdempotentRow.domain false) (Rows.fnSlotOnAnyStateThenIdempotentSpec.post enc Try.prog Try.f4 false true false false) := by
  refine returnsInHanded_of_change (C := Try.checked) own started (by kernel_rfl) Try.func4
    (ChangeSpec.witness6 (enc := enc) (C := Try.checked) false ⟨#[], #[.slice none 0 0, .slice none 0 0, .slice none 0 0, .slice none 0 0], []⟩ 8 (by kernel_rfl) (by kernel_rfl) (by kernel_rfl) (by kernel_rfl)) ?_
  intro W base args ds gs before hval0 hW hcnd _
  have hval : ∀ (j : Nat) t v, Try.f4.params[j]? = some t → args[j]? = some v → Value.okWide Try.prog W .any base t v := hval0
  have hW' := hW
  obtain ⟨p, q, hA0, hV, rfl, hfz, hnd⟩ := hW
  have hA : DataW.TrodAll enc Try.prog W 0 (fun _ => true) true Try.f4.params.toList args.toList ds p := hA0
  rw [Try.params4] at hA hval
  obtain ⟨v0, vs0, d0, ds0, p0, q0, hargs, rfl, rfl, h0, r0⟩ := trodAll_cons hA
  obtain ⟨v1, vs1, d1, ds1, p1, q1, rfl, rfl, rfl, h1, r1⟩ := trodAll_cons r0
  obtain ⟨v2, vs2, d2, ds2, p2, q2, rfl, rfl, rfl, h2, r2⟩ := trodAll_cons r1
  obtain ⟨v3, vs3, d3, ds3, p3, q3, rfl, rfl, rfl, h3, r3⟩ := trodAll_cons r2
  obtain ⟨rfl, rfl, rfl⟩ := trodAll_nil r3
  obtain rfl : args = #[v0, v1, v2, v3] := by cases args; simp_all
  obtain ⟨rfl, rfl⟩ := trodVars_none hV
  obtain ⟨a0, n0, c0, rfl⟩ := okWide_slice Try.underlying22 (hval 0 22 v0 rfl rfl)
  have k0 := h0
  have lt0 : ∀ x ∈ p0, x.block < W.heap.size := by obtain ⟨m, hm⟩ := k0; exact DataW.trod_lt m _ _ _ hm
  obtain ⟨a1, n1, c1, rfl⟩ := okWide_slice Try.underlying26 (hval 1 26 v1 rfl rfl)
  have k1 := h1
  have lt1 : ∀ x ∈ p1, x.block < W.heap.size := by obtain ⟨m, hm⟩ := k1; exact DataW.trod_lt m _ _ _ hm
  obtain ⟨a2, n2, c2, rfl⟩ := okWide_slice Try.underlying28 (hval 2 28 v2 rfl rfl)
  have k2 := h2
  have lt2 : ∀ x ∈ p2, x.block < W.heap.size := by obtain ⟨m, hm⟩ := k2; exact DataW.trod_lt m _ _ _ hm
  obtain ⟨a3, n3, c3, rfl⟩ := okWide_slice Try.underlying26 (hval 3 26 v3 rfl rfl)
  have k3 := h3
  have lt3 : ∀ x ∈ p3, x.block < W.heap.size := by obtain ⟨m, hm⟩ := k3; exact DataW.trod_lt m _ _ _ hm
  obtain ⟨Q, hN, hl, hn, hf⟩ : ∃ Q : Nat → Nm, Names W a0 n0 Q ∧ n0 ≤ maxLen ∧ (∀ i, (Q i).n ≤ maxLen) ∧ ∀ i j, ((Q i).f j).size ≤ maxLen := by
    obtain ⟨fuel, hf⟩ := h0
    exact names_of_trod (by simpa [Value.cells] using hf)
  obtain ⟨f1, s1, hn1, hf1⟩ : ∃ f : Nat → ByteArray, Strs W a1 n1 c1 f ∧ n1 ≤ maxLen ∧ ∀ j, (f j).size ≤ maxLen := by
    obtain ⟨fuel, hf⟩ := h1
    obtain ⟨q, e, hr⟩ := strs_of_trod (v := .slice a1 n1 c1) (by simpa [Value.cells] using hf)
    obtain ⟨rfl, rfl, rfl⟩ : a1 = q.ao ∧ n1 = q.n ∧ c1 = q.c := by simpa using e
    exact ⟨q.f, hr.1, hr.2.1, hr.2.2⟩
  obtain ⟨g2, i2, hn2⟩ : ∃ g : Nat → Int, Ints W a2 n2 g ∧ n2 ≤ maxLen := by
    obtain ⟨fuel, hf⟩ := h2
    exact ints_of_trod (by simpa [Value.cells] using hf)
  obtain ⟨f3, s3, hn3, hf3⟩ : ∃ f : Nat → ByteArray, Strs W a3 n3 c3 f ∧ n3 ≤ maxLen ∧ ∀ j, (f j).size ≤ maxLen := by
    obtain ⟨fuel, hf⟩ := h3
    obtain ⟨q, e, hr⟩ := strs_of_trod (v := .slice a3 n3 c3) (by simpa [Value.cells] using hf)
    obtain ⟨rfl, rfl, rfl⟩ : a3 = q.ao ∧ n3 = q.n ∧ c3 = q.c := by simpa using e
    exact ⟨q.f, hr.1, hr.2.1, hr.2.2⟩
  clear hA0 hval0
  refine (walk a0 n0 c0 Q a1 n1 c1 f1 a2 n2 c2 g2 a3 n3 c3 f3 W hN hl hn hf s1 hn1 hf1 i2 hn2 s3 hn3 hf3).mono fun e W' ⟨he, bel⟩ => ?_
  subst he
  exact ⟨_, rfl, _, _, _, [], _, [], hW', trodAll_mk1 (shut_bool Try.underlying4 _), (trodAll_cons_mk (Below.trod laidOut (by kernel_rfl) (of_decide_eq_true (by kernel_rfl)) k0 bel lt0) (trodAll_cons_mk (Below.trod laidOut (by kernel_rfl) (of_decide_eq_true (by kernel_rfl)) k1 bel lt1) (trodAll_cons_mk (Below.trod laidOut (by kernel_rfl) (of_decide_eq_true (by kernel_rfl)) k2 bel lt2) (trodAll_cons_mk (Below.trod laidOut (by kernel_rfl) (of_decide_eq_true (by kernel_rfl)) k3 bel lt3) trodAll_mk0)))), rfl, bel.frame _, fun h => by cases h⟩

theorem over : Rows.fnSlotOnAnyStateThenIdempotentRow.holds Try.pinned (OpenSpec.ofChange Rows.fnSlotOnAnyStateThenIdempotentSpec) :=
  OpenClaim.holds_of_wide 4 Try.f4 rfl rfl rfl rfl rfl rfl rfl ⟨rfl, rfl, rfl, rfl, rfl⟩ rfl rfl rfl rfl rfl (by kernel_rfl) Try.func4 (by kernel_rfl)
    (of_decide_eq_true (by kernel_rfl)) (by unfold Func.isWrapper; first | (rw [if_pos (by decide +kernel)]; kernel_rfl) | (rw [if_neg (by decide +kernel)]; exact ⟨rfl, rfl⟩))
    (fun os started H enc _ => lifted os started H enc)

/-- THE STATEMENT. -/
theorem proved : Rows.FnSlotOnAnyStateThenIdempotentSaid := over
end Go.Proofs.Qxb6602799a.fnSlotOnAnyStateThenIdempotent
