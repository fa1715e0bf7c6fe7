/-
  SEAT b6602799a. The walk of zzBytes_FnSlotOnAnyStateThenIdempotent: it answers some bool and turns nothing.
-/
import Derived.Test.Qxb6602799aMeas5
namespace Go.Proofs.Qxb6602799a
open Go.RowKit
set_option linter.unusedVariables false

set_option maxHeartbeats 2000000 in
set_option maxRecDepth 100000 in
theorem zbytes6_calls (ao : Option Addr) (m cap : Nat) (Q : Nat → Nm) (ak : Option Addr) (nk ck : Nat) (fk : Nat → ByteArray) (av : Option Addr) (nv cv : Nat) (an : Option Addr) (nn cn : Nat) (fn : Nat → ByteArray) (w : World)
    (h : Names w ao m Q) (hm : m ≤ maxLen) (hn : ∀ i, (Q i).n ≤ maxLen) (hf : ∀ i j, ((Q i).f j).size ≤ maxLen)
    (hk : Strs w ak nk ck fk) (hnk : nk ≤ maxLen) (hfk : ∀ j, (fk j).size ≤ maxLen) (hnv : nv ≤ maxLen) (hq : Strs w an nn cn fn) (hnn : nn ≤ maxLen) (hfn : ∀ j, (fn j).size ≤ maxLen) :
    Calls Try.prog 16 #[.slice ao m cap, .slice ak nk ck, .slice av nv cv, .slice an nn cn] w fun e w' => AnyBool e ∧ w' = w := by
  unfold maxLen at hm hn hf hnk hfk hnv hnn hfn
  have Hn : Hid _ := hn
  have Hf : Hid _ := hf
  have Hk : Hid _ := hfk
  have Hq : Hid _ := hfn
  clear hn hf hfk hfn
  by_cases hbig : (1048576 : Int) < (m : Int)
  · go_enter Try.func16, Try.ntmps16
    go_wp2
    go_ret
    exact ⟨⟨_, rfl⟩, rfl⟩
  · go_enter Try.func16, Try.ntmps16
    go_wp2
    go_loop [9, 10] (fun t i => ∃ (k : Nat) (T : Int), k ≤ m ∧ i = .int .i64 k ∧ t = .int .i64 T ∧ 0 ≤ T ∧ T ≤ 1048576) (fun _ i => m - (intOf i).toNat)
    case atStart => exact ⟨0, m, by omega, rfl, by simp, by omega, by omega⟩
    case round =>
      obtain ⟨k, T, hkm, rfl, rfl, hT0, hT1⟩ := hrel
      by_cases hlt : (k : Int) < (m : Int)
      · obtain ⟨b, off, rfl, hbl, hc⟩ := h.cells (by omega)
        have c1 := hc k (by omega)
        have hok := h.ok k (by omega)
        have hnk' := Hn.out k
        have Hfk : Hid (∀ j, ((Q k).f j).size ≤ 2 ^ 63 - 1) := Hf.out k
        clear hc h Hn Hf hk Hk hq Hq
        generalize Q k = q at *
        by_cases h1 : (1048576 : Int) < (q.n : Int)
        · go_wp2
          go_ret
          exact ⟨⟨_, rfl⟩, rfl⟩
        · by_cases h2 : (1048576 : Int) < T + (q.n : Int)
          · go_wp2
            go_ret
            exact ⟨⟨_, rfl⟩, rfl⟩
          · go_wp2
            go_loop [9, 11] (fun t i => ∃ (j : Nat) (T : Int), j ≤ q.n ∧ i = .int .i64 j ∧ t = .int .i64 T ∧ 0 ≤ T ∧ T ≤ 1048576) (fun _ i => q.n - (intOf i).toNat)
            case atStart => exact ⟨0, T + q.n, by omega, rfl, rfl, by omega, by omega⟩
            case round =>
              obtain ⟨j, T', hj, rfl, rfl, hT0', hT1'⟩ := hrel
              by_cases hjl : (j : Int) < (q.n : Int)
              · obtain ⟨b', off', e, hbl', hc'⟩ := hok.cells (by omega)
                have hsz := Hfk.out j
                have c2 := hc' j (by omega)
                rw [e] at c1
                clear hc' hok Hfk
                by_cases h3 : (1048576 : Int) < ((q.f j).size : Int)
                · go_wp2
                  go_ret
                  exact ⟨⟨_, rfl⟩, rfl⟩
                · by_cases h4 : (1048576 : Int) < T' + ((q.f j).size : Int)
                  · go_wp2
                    go_ret
                    exact ⟨⟨_, rfl⟩, rfl⟩
                  · go_wp2
                    go_round
                    case rel => exact ⟨j + 1, T' + (q.f j).size, by omega, by go_num, rfl, by omega, by omega⟩
                    case measure => simp [intOf]; omega
              · clear hok Hfk
                go_wp2
                go_round
                case rel => exact ⟨k + 1, T', by omega, by go_num, rfl, by omega, by omega⟩
                case measure => simp [intOf]; omega
      · clear h Hn Hf
        generalize T = T1 at *
        by_cases g1 : (1048576 : Int) < (nk : Int)
        · go_wp2
          go_ret
          exact ⟨⟨_, rfl⟩, rfl⟩
        · by_cases g2 : (1048576 : Int) < T1 + (nk : Int)
          · go_wp2
            go_ret
            exact ⟨⟨_, rfl⟩, rfl⟩
          · go_wp2
            go_loop [9, 12] (fun t i => ∃ (j : Nat) (T : Int), j ≤ nk ∧ i = .int .i64 j ∧ t = .int .i64 T ∧ 0 ≤ T ∧ T ≤ 1048576) (fun _ i => nk - (intOf i).toNat)
            case atStart => exact ⟨0, T1 + nk, by omega, rfl, rfl, by omega, by omega⟩
            case round =>
              obtain ⟨j, T', hj, rfl, rfl, hT0', hT1'⟩ := hrel
              by_cases hjl : (j : Int) < (nk : Int)
              · obtain ⟨b', off', e, hbl', hc'⟩ := hk.cells (by omega)
                have hsz := Hk.out j
                have c2 := hc' j (by omega)
                subst e
                clear hc'
                by_cases h3 : (1048576 : Int) < ((fk j).size : Int)
                · go_wp2
                  go_ret
                  exact ⟨⟨_, rfl⟩, rfl⟩
                · by_cases h4 : (1048576 : Int) < T' + ((fk j).size : Int)
                  · go_wp2
                    go_ret
                    exact ⟨⟨_, rfl⟩, rfl⟩
                  · go_wp2
                    go_round
                    case rel => exact ⟨j + 1, T' + (fk j).size, by omega, by go_num, rfl, by omega, by omega⟩
                    case measure => simp [intOf]; omega
              · clear hk Hk
                generalize T' = T1 at *
                by_cases g1 : (1048576 : Int) < (nv : Int)
                · go_wp2
                  go_ret
                  exact ⟨⟨_, rfl⟩, rfl⟩
                · by_cases g2 : (1048576 : Int) < T1 + (nv : Int)
                  · go_wp2
                    go_ret
                    exact ⟨⟨_, rfl⟩, rfl⟩
                  · by_cases g3 : (1048576 : Int) < (nn : Int)
                    · go_wp2
                      go_ret
                      exact ⟨⟨_, rfl⟩, rfl⟩
                    · by_cases g4 : (1048576 : Int) < T1 + (nv : Int) + (nn : Int)
                      · go_wp2
                        go_ret
                        exact ⟨⟨_, rfl⟩, rfl⟩
                      · go_wp2
                        go_loop [9, 13] (fun t i => ∃ (j : Nat) (T : Int), j ≤ nn ∧ i = .int .i64 j ∧ t = .int .i64 T ∧ 0 ≤ T ∧ T ≤ 1048576) (fun _ i => nn - (intOf i).toNat)
                        case atStart => exact ⟨0, T1 + nv + nn, by omega, rfl, rfl, by omega, by omega⟩
                        case round =>
                          obtain ⟨j, T', hj, rfl, rfl, hT0', hT1'⟩ := hrel
                          by_cases hjl : (j : Int) < (nn : Int)
                          · obtain ⟨b', off', e, hbl', hc'⟩ := hq.cells (by omega)
                            have hsz := Hq.out j
                            have c2 := hc' j (by omega)
                            subst e
                            clear hc'
                            by_cases h3 : (1048576 : Int) < ((fn j).size : Int)
                            · go_wp2
                              go_ret
                              exact ⟨⟨_, rfl⟩, rfl⟩
                            · by_cases h4 : (1048576 : Int) < T' + ((fn j).size : Int)
                              · go_wp2
                                go_ret
                                exact ⟨⟨_, rfl⟩, rfl⟩
                              · go_wp2
                                go_round
                                case rel => exact ⟨j + 1, T' + (fn j).size, by omega, by go_num, rfl, by omega, by omega⟩
                                case measure => simp [intOf]; omega
                          · clear hq Hq
                            go_wp2
                            go_ret
                            exact ⟨⟨_, rfl⟩, rfl⟩
end Go.Proofs.Qxb6602799a
