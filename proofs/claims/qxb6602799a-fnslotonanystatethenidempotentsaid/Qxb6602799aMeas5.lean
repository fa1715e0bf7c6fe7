/-
  SEAT b6602799a. The walk of zzBytes_FnSlotNumbersNamesByFirstAppearance: it answers some bool and turns nothing.
-/
import Derived.Test.Qxb6602799aNames
namespace Go.Proofs.Qxb6602799a
open Go.RowKit
set_option linter.unusedVariables false

def AnyBool (e : Ending) : Prop := ∃ b, e = .returned (.bool b)

set_option maxHeartbeats 1000000 in
theorem zbytes5_calls (ao : Option Addr) (m cap : Nat) (Q : Nat → Nm) (w : World) (h : Names w ao m Q) (hm : m ≤ maxLen) (hn : ∀ i, (Q i).n ≤ maxLen) (hf : ∀ i j, ((Q i).f j).size ≤ maxLen) :
    Calls Try.prog 5 #[.slice ao m cap] w fun e w' => AnyBool e ∧ w' = w := by
  unfold maxLen at hm hn hf
  have Hn : Hid _ := hn
  have Hf : Hid _ := hf
  clear hn hf
  by_cases hbig : (1048576 : Int) < (m : Int)
  · go_enter Try.func5, Try.ntmps5
    go_wp2
    go_ret
    exact ⟨⟨_, rfl⟩, rfl⟩
  · go_enter Try.func5, Try.ntmps5
    go_wp2
    go_loop [3, 4] (fun t i => ∃ (k : Nat) (T : Int), k ≤ m ∧ i = .int .i64 k ∧ t = .int .i64 T ∧ 0 ≤ T ∧ T ≤ 1048576) (fun _ i => m - (intOf i).toNat)
    case atStart => exact ⟨0, m, by omega, rfl, by simp, by omega, by omega⟩
    case round =>
      obtain ⟨k, T, hk, rfl, rfl, hT0, hT1⟩ := hrel
      by_cases hlt : (k : Int) < (m : Int)
      · obtain ⟨b, off, rfl, hbl, hc⟩ := h.cells (by omega)
        have c1 := hc k (by omega)
        have hok := h.ok k (by omega)
        have hnk := Hn.out k
        have Hfk : Hid (∀ j, ((Q k).f j).size ≤ 2 ^ 63 - 1) := Hf.out k
        clear hc h Hn Hf
        generalize Q k = q at *
        by_cases h1 : (1048576 : Int) < (q.n : Int)
        · go_wp2
          go_ret
          exact ⟨⟨_, rfl⟩, rfl⟩
        · by_cases h2 : (1048576 : Int) < T + (q.n : Int)
          · go_wp2
            go_ret
            exact ⟨⟨_, rfl⟩, rfl⟩
          · go_wp2
            go_loop [3, 5] (fun t i => ∃ (j : Nat) (T : Int), j ≤ q.n ∧ i = .int .i64 j ∧ t = .int .i64 T ∧ 0 ≤ T ∧ T ≤ 1048576) (fun _ i => q.n - (intOf i).toNat)
            case atStart => exact ⟨0, T + q.n, by omega, rfl, rfl, by omega, by omega⟩
            case round =>
              obtain ⟨j, T', hj, rfl, rfl, hT0', hT1'⟩ := hrel
              by_cases hjl : (j : Int) < (q.n : Int)
              · obtain ⟨b', off', e, hbl', hc'⟩ := hok.cells (by omega)
                have hsz := Hfk.out j
                have c2 := hc' j (by omega)
                rw [e] at c1
                clear hc' hok Hfk
                by_cases h3 : (1048576 : Int) < ((q.f j).size : Int)
                · go_wp2
                  go_ret
                  exact ⟨⟨_, rfl⟩, rfl⟩
                · by_cases h4 : (1048576 : Int) < T' + ((q.f j).size : Int)
                  · go_wp2
                    go_ret
                    exact ⟨⟨_, rfl⟩, rfl⟩
                  · go_wp2
                    go_round
                    case rel => exact ⟨j + 1, T' + (q.f j).size, by omega, by go_num, rfl, by omega, by omega⟩
                    case measure => simp [intOf]; omega
              · clear hok Hfk
                go_wp2
                go_round
                case rel => exact ⟨k + 1, T', by omega, by go_num, rfl, by omega, by omega⟩
                case measure => simp [intOf]; omega
      · clear h Hn Hf
        go_wp2
        go_ret
        exact ⟨⟨_, rfl⟩, rfl⟩
end Go.Proofs.Qxb6602799a
