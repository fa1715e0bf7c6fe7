/-
  SEAT b6604775aD. THE ROW OF 'FnShiftOffsetMovesFormatError', PROVED, AND HER TIED CARD; after the kit's worked example (ToyasProofs, ToyasCard).
-/
import Derived.Test.Qxb6604775aDoorRows
import Derived.Test.Qxb6604775aDoorTie
import Derived.Test.Qxb6604775aDoorCards
import Derived.Test.Qxb6604775aDoorWalk
import Derived.ChangeSame
import Derived.ChangeVars
import Derived.JoinedOf
import Derived.RowKit
import Derived.RowKitTokens
import Derived.ProofKit
import Derived.ShutString
import Derived.OpenShut
import Derived.LaidLaws
import Derived.LaidHandle
import Derived.Stop.Joined
import Derived.SevenTiedAt
namespace Go.Proofs.Qxb6604775aDoor
open Go Go.ChangeShapes Go.WideShapes Go.ChangeAt Go.RowKit
open Go.ChangeMaps (open_string shut_string)
set_option linter.unusedVariables false

theorem ownOff : ownKnob Tryd.prog.godebug = none := by kernel_rfl
theorem errorVar : Tryd.prog.globalNamed "errors.errorType" = some 0 := by kernel_rfl
theorem oneRow : ((List.range 114).filter fun t => Tryd.prog.rowNamed t [101, 114, 114, 111, 114]) = [37] := by kernel_rfl
theorem typesSize : Tryd.prog.types.size = 114 := by kernel_rfl

/-- WHAT THE CONDITION GIVES A WALK: the variable's one cell. -/
theorem handle_of_laid {W : World} (h : laidMetH Tryd.prog Rows.fnShiftOffsetMovesFormatErrorRow.laid W) : Laid W := by
  have h' : laidMet Tryd.prog [] W ∧ handlesMet Tryd.prog Rows.fnShiftOffsetMovesFormatErrorRow.laid W := h
  obtain ⟨name, u, ty, e1, e2, e3, e4, e5⟩ := h'.2 _ (List.mem_singleton.2 rfl)
  have en : name = [101, 114, 114, 111, 114] := (Option.some.inj e1).symm
  subst en
  have hu : some u = some 70 := e2.symm.trans (by kernel_rfl)
  obtain rfl := Option.some.inj hu
  have hm : ty ∈ (List.range 114).filter fun t => Tryd.prog.rowNamed t [101, 114, 114, 111, 114] := List.mem_filter.2 ⟨List.mem_range.2 (by rw [← typesSize]; exact e3), e4⟩
  rw [oneRow] at hm
  obtain rfl := List.mem_singleton.1 hm
  have hh : typeHandle Tryd.prog 37 = .pointer (some ⟨4, 37, none⟩) := by kernel_rfl
  rw [hh] at e5
  show W.cell? ⟨0, 0, none⟩ = _
  simpa using World.var?_cell errorVar e5 0

/-- A world with the variable's cell laid. -/
def layErr (w : World) : World :=
  { w with heap := w.heap.modify 0 fun
      | .cells _ t frozen => .cells #[.iface 70 (.agg #[.pointer (some ⟨4, 37, none⟩)])] t frozen
      | o => o }
theorem layErr_met (os : Os) (args : Array Value) : laidMetH Tryd.prog Rows.fnShiftOffsetMovesFormatErrorRow.laid ((layErr (World.holding Tryd.prog os ⟨#[], #[], []⟩)).forCall (fun _ _ => 0) ⟨#[], args, []⟩).memory :=
  laidMetH_of_parts (laidMet_nil _ _) (by kernel_rfl)

set_option maxRecDepth 100000 in
theorem law_lifted (os : Os) (started : os.Started) (H : Type) (enc : TypeId × Value → H) :
    ReturnsInHanded {} Tryd.checked os 5 .any (fun w args => (Rows.fnShiftOffsetMovesFormatErrorSpec.pre enc Tryd.prog Tryd.f5 [] false w args ∧ laidMetH Tryd.prog Rows.fnShiftOffsetMovesFormatErrorRow.laid w) ∧ sizedMet enc Tryd.prog Tryd.f5 (OpenSpec.ofChange Rows.fnShiftOffsetMovesFormatErrorSpec) false w args)
      (Rows.fnShiftOffsetMovesFormatErrorSpec.post enc Tryd.prog Tryd.f5 false true false false) := by
  refine returnsInHanded_of_change_and (C := Tryd.checked) (X := fun w _ => laidMetH Tryd.prog Rows.fnShiftOffsetMovesFormatErrorRow.laid w) (fun _ _ _ hh h => h.of_heap hh) ownOff started (by kernel_rfl) Tryd.func5
    (ChangeSpec.witness_at (enc := enc) (C := Tryd.checked) (os := os) (X := fun w _ => laidMetH Tryd.prog Rows.fnShiftOffsetMovesFormatErrorRow.laid w) false (layErr (World.holding Tryd.prog os ⟨#[], #[], []⟩)) #[.int .i64 0, .string ByteArray.empty, .int .i64 0] 8 rfl (by kernel_rfl) (by kernel_rfl) (by kernel_rfl) (by kernel_rfl) (by kernel_rfl) (layErr_met os _)) ?_
  intro W base args ds gs before hval0 hW _ _ hL _
  have hval : ∀ (j : Nat) t v, Tryd.f5.params[j]? = some t → args[j]? = some v → Value.okWide Tryd.prog W .any base t v := hval0
  have hW' := hW
  obtain ⟨p, q, hA0, hV0, rfl, hfz, hnd⟩ := hW
  have hA : DataW.TrodAll enc Tryd.prog W 0 (fun _ => true) true Tryd.f5.params.toList args.toList ds p := hA0
  have hV : DataW.TrodVars enc Tryd.prog W (fun _ => true) [] gs q := hV0
  rw [Tryd.params5] at hA hval
  obtain ⟨v0, vs0, d0, ds0, p0, q0, hargs, rfl, rfl, h0, r0⟩ := trodAll_cons hA
  obtain ⟨v1, vs1, d1, ds1, p1, q1, rfl, rfl, rfl, h1, r1⟩ := trodAll_cons r0
  obtain ⟨v2, vs2, d2, ds2, p2, q2, rfl, rfl, rfl, h2, r2⟩ := trodAll_cons r1
  obtain ⟨rfl, rfl, rfl⟩ := trodAll_nil r2
  obtain rfl : args = #[v0, v1, v2] := by cases args; simp_all
  obtain ⟨a0, rfl, rfl, rfl, w0⟩ := open_int Tryd.underlying3 (hval 0 3 v0 rfl rfl) h0
  obtain ⟨a1, rfl, rfl, rfl, w1⟩ := open_string Tryd.underlying9 (hval 1 9 v1 rfl rfl) h1
  obtain ⟨a2, rfl, rfl, rfl, w2⟩ := open_int Tryd.underlying3 (hval 2 3 v2 rfl rfl) h2
  have hg := handle_of_laid hL
  obtain ⟨rfl, rfl⟩ : gs = [] ∧ q = [] := by
    cases gs with
    | nil => exact ⟨rfl, hV⟩
    | cons g r => exact absurd hV (by intro h; cases h)
  clear hA0 hval0
  refine (law_walk a0 a1 a2 w1 W hg).mono fun e W' ⟨he, hB⟩ => ?_
  subst he
  exact ⟨_, rfl, _, _, _, [], [], [], hW', trodAll_mk1 (shut_bool Tryd.underlying4 true), (trodAll_cons_mk (shut_int Tryd.underlying3 w0) (trodAll_cons_mk (shut_string Tryd.underlying9 w1) (trodAll_cons_mk (shut_int Tryd.underlying3 w2) trodAll_mk0))), rfl, hB.frame _, fun h => by cases h⟩

theorem row_holds : Rows.FnShiftOffsetMovesFormatErrorSaid :=
  OpenClaim.holds_of_wide 5 Tryd.f5 rfl rfl rfl rfl rfl rfl rfl ⟨rfl, rfl, rfl, rfl, rfl⟩ rfl rfl rfl rfl rfl (by kernel_rfl) Tryd.func5 (by kernel_rfl)
    (of_decide_eq_true (by kernel_rfl)) (by unfold Func.isWrapper; rw [if_neg (of_decide_eq_false (by kernel_rfl))]; exact ⟨rfl, rfl⟩)
    (fun os started H enc _ => law_lifted os started H enc)

/-- THE TIED CARD. -/
theorem card_holds : Rows.FnShiftOffsetMovesFormatErrorCardSaid :=
  Claim7.holds_tied_plain_at .later [] [.handle] true Rows.fnShiftOffsetMovesFormatErrorCard.stood.harness true
    row_holds (fun _ h => by cases h) (by kernel_rfl) (fun _ h => by cases h) fnShiftOffsetMovesFormatError_row_tie rfl ⟨rfl, rfl⟩ (by kernel_rfl) rfl
    (fun f fn hf hfn => by
      obtain rfl : f = 5 := Option.some.inj ((show Tryd.prog.funcNamed Rows.fnShiftOffsetMovesFormatErrorRow.func = some 5 by kernel_rfl).symm.trans hf) |>.symm
      obtain rfl : fn = Tryd.f5 := (Option.some.inj (Tryd.func5.symm.trans hfn)).symm
      exact ⟨by kernel_rfl, fun j t ht => by
        rw [Tryd.params5] at ht
        have h3 : t = 3 ∨ t = 9 := by
          rcases j with _ | _ | _ | j
          · left; simpa using ht.symm
          · right; simpa using ht.symm
          · left; simpa using ht.symm
          · simp at ht
        rcases h3 with rfl | rfl
        · exact (show Tryd.prog.wantsStandIn 3 = false by kernel_rfl)
        · exact (show Tryd.prog.wantsStandIn 9 = false by kernel_rfl)⟩)
    (by kernel_rfl)
end Go.Proofs.Qxb6604775aDoor
