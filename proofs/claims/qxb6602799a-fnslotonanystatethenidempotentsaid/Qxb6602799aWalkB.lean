/-
  SEAT b6602799a. The walks of stringsBytes, strings.Join and joinDots.
-/
import Derived.Test.Qxb6602799aWalkA
namespace Go.Proofs.Qxb6602799a
open Go.RowKit
set_option linter.unusedVariables false

/-- 'strings.Join(n, ".")', nil and empty too. -/
theorem join_calls (ao : Option Addr) (n c : Nat) (f : Nat → ByteArray) (w : World) (h : Strs w ao n c f) (hs : 8 * n + tot f n ≤ 1048576) :
    Calls Try.prog 21 #[.slice ao n c, .string ⟨#[46]⟩] w fun e w' => e = .returned (.string (txt f n)) ∧ Below w.heap.size w w' := by
  by_cases h0 : n = 0
  · subst h0
    refine (Try.strings_Join_none ao c ⟨#[46]⟩ w).mono ?_
    rintro e w' ⟨rfl, rfl⟩
    exact ⟨rfl, Below.refl _ _⟩
  · obtain ⟨b, off, rfl, hbl, hc⟩ := h.cells (by omega)
    have hl := jn_length f n
    have H := Try.strings_Join b off c ((List.range n).map f) ⟨#[46]⟩ w (fun j x hx => by
        simp only [List.getElem?_map, Option.map_eq_some_iff] at hx
        obtain ⟨j', h1, rfl⟩ := hx
        obtain ⟨h2, h3⟩ := List.getElem?_eq_some_iff.1 h1
        simp at h2 h3
        subst h3
        exact hc j h2) hbl (by simp; omega) (by simpa using h.cap) (by
        rw [show (⟨#[46]⟩ : ByteArray).data.toList = [46] from rfl, join_jn]; omega)
    rw [show (⟨#[46]⟩ : ByteArray).data.toList = [46] from rfl, join_jn] at H
    simp only [List.length_map, List.length_range] at H
    exact H

/-- The answer of a measure: small only where the whole is small. -/
def Meas (e : Ending) (S : Prop) : Prop := ∃ t : Int, e = .returned (.int .i64 t) ∧ 0 ≤ t ∧ t ≤ 1048577 ∧ (t ≤ 1048576 → S)

set_option maxHeartbeats 400000 in
theorem sbytes_calls (ao : Option Addr) (n cap : Nat) (f : Nat → ByteArray) (w : World) (h : Strs w ao n cap f) (hn : n ≤ maxLen) (hf : ∀ j, (f j).size ≤ maxLen) :
    Calls Try.prog 17 #[.slice ao n cap] w fun e w' => Meas e (8 * n + tot f n ≤ 1048576) ∧ w' = w := by
  unfold maxLen at hn hf
  by_cases hbig : (1048576 : Int) < (n : Int)
  · clear hf h
    go_enter Try.func17, Try.ntmps17
    go_wp2
    go_ret
    exact ⟨⟨1048577, rfl, by omega, by omega, fun h => absurd h (by omega)⟩, rfl⟩
  · have Hf : Hid _ := hf
    clear hf
    go_enter Try.func17, Try.ntmps17
    go_wp2
    go_loop [3, 4] (fun t i => ∃ k : Nat, k ≤ n ∧ i = .int .i64 k ∧ t = .int .i64 ((8 * n + tot f k : Nat) : Int) ∧ (k = 0 ∨ 8 * n + tot f k ≤ 1048576)) (fun _ i => n - (intOf i).toNat)
    case atStart => exact ⟨0, by omega, rfl, by simp [tot], .inl rfl⟩
    case round =>
      obtain ⟨k, hk, rfl, rfl, hor⟩ := hrel
      by_cases hlt : (k : Int) < (n : Int)
      · obtain ⟨b, off, rfl, hbl, hc⟩ := h.cells (by omega)
        have c1 := hc k (by omega)
        have hsz := Hf.out k
        clear hc h Hf
        have hT : tot f k ≤ 1048576 := by rcases hor with e | e; (subst e; simp [tot]); omega
        have HT : Hid (tot f (k + 1) = tot f k + (f k).size) := rfl
        by_cases h1 : (1048576 : Int) < ((f k).size : Int)
        · clear hor
          generalize tot f k = T at *
          go_wp2
          go_ret
          exact ⟨⟨1048577, rfl, by omega, by omega, fun h => absurd h (by omega)⟩, rfl⟩
        · by_cases h2 : (1048576 : Int) < ((8 * n + tot f k : Nat) : Int) + ((f k).size : Int)
          · clear hor
            generalize tot f k = T at *
            go_wp2
            go_ret
            exact ⟨⟨1048577, rfl, by omega, by omega, fun h => absurd h (by omega)⟩, rfl⟩
          · clear hor
            generalize tot f k = T at *
            go_wp2
            go_round
            case rel => exact ⟨k + 1, by omega, by go_num, by rw [HT.out]; go_num, .inr (by rw [HT.out]; omega)⟩
            case measure => simp [intOf]; omega
      · have hkn : k = n := by omega
        subst hkn
        clear h Hf
        have hb : Hid (8 * k + tot f k ≤ 1048576) := by rcases hor with e | e; (subst e; simp [tot, Hid]); exact e
        clear hor
        go_wp2
        go_ret
        exact ⟨⟨_, rfl, by omega, by have := hb.out; omega, fun _ => hb.out⟩, rfl⟩

set_option maxHeartbeats 1000000 in
theorem dots_calls (ao : Option Addr) (n cap : Nat) (f : Nat → ByteArray) (w : World) (h : Strs w ao n cap f) (hs : 8 * n + tot f n ≤ 1048576) :
    Calls Try.prog 8 #[.slice ao n cap] w fun e w' => e = .returned (.string (txt f n)) ∧ Below w.heap.size w w' := by
  have hln := jn_length f n
  have hz : ∀ k, k ≤ n → (jn f k).length ≤ 1048576 := fun k hk => by have := jn_mono f hk; omega
  have HZ : Hid _ := hz
  have HS : Hid _ := hs
  clear hz hs hln
  have hn : n ≤ 131072 := by have := HS.out; omega
  go_enter Try.func8, Try.ntmps8
  go_wp2
  go_loop [3, 4] (fun t i => ∃ k : Nat, k ≤ n ∧ i = .int .i64 k ∧ t = .int .i64 ((jn f k).length : Int)) (fun _ i => n - (intOf i).toNat)
  case atStart => exact ⟨0, by omega, rfl, rfl⟩
  case round =>
    obtain ⟨k, hk, rfl, rfl⟩ := hrel
    have hzk := HZ.out k hk
    by_cases hlt : (k : Int) < (n : Int)
    · obtain ⟨b, off, rfl, hbl, hc⟩ := h.cells (by omega)
      have c1 := hc k (by omega)
      have hz1 := HZ.out (k + 1) (by omega)
      have hl1 := jn_length_succ f k
      have hl2 := pre_length f k
      have hsz : (f k).size ≤ 1048576 := by omega
      have HL : Hid ((jn f (k + 1)).length = (if k = 0 then 0 else (jn f k).length + 1) + (f k).size) := by rw [hl1, hl2]; rfl
      clear hc h HZ HS hl1 hl2 hz1
      by_cases hk0 : k = 0
      · have hkd : decide (0 < k) = false := by simp; omega
        have HL0 : Hid ((jn f (k + 1)).length = (jn f k).length + (f k).size) := by rw [HL.out, if_pos hk0, hk0]; simp [jn, Hid]
        clear HL hk0
        go_wp2
        go_round
        case rel => exact ⟨k + 1, by omega, by go_num, by rw [HL0.out]; go_num⟩
        case measure => simp [intOf]; omega
      · have hk1 : (0 : Int) < (k : Int) := by omega
        rw [if_neg hk0] at HL
        go_wp2
        go_round
        case rel => exact ⟨k + 1, by omega, by go_num, by rw [HL.out]; go_num⟩
        case measure => simp [intOf]; omega
    · have hkn : n = k := by omega
      subst hkn
      have hmk := fun w => run_make_row' (P := Try.prog) 42 5 (.int .u8 0) 1 Try.underlying42 info5 rfl .i64 .i64 ((jn f n).length) (by omega) (by omega) w
      go_wp2
      clear hmk
      have r0 : Hid ((w.alloc (.cells (madeCells #[.int .u8 0] (jn f n).length) 5)).rowIs w.heap.size 5 (jn f n).length (byteAt (jn f 0))) := (World.rowIs_made w (.int .u8 0) (jn f n).length 5).congr (fun j _ => (byteAt_nil j).symm)
      have b0 : Below w.heap.size w (w.alloc (.cells (madeCells #[.int .u8 0] (jn f n).length) 5)) := (Below.refl _ _).alloc (Nat.le_refl _) _
      generalize w.alloc (.cells (madeCells #[.int .u8 0] (jn f n).length) 5) = W at *
      go_loopw [6, 7] (fun t q wr => ∃ i : Nat, i ≤ n ∧ q = .int .i64 i ∧ t = .int .i64 ((jn f i).length : Int) ∧ wr.rowIs w.heap.size 5 (jn f n).length (byteAt (jn f i)) ∧ Below w.heap.size w wr) (fun _ q _ => n - (intOf q).toNat)
      case atStart => exact ⟨0, by omega, rfl, rfl, r0.out, b0⟩
      case round =>
        clear r0 b0
        obtain ⟨i, hi, rfl, rfl, hrow, hbel⟩ := hrel
        by_cases hil : (i : Int) < (n : Int)
        · obtain ⟨b, off, rfl, hbl, hc⟩ := h.cells (by omega)
          have c1 : wr.cell? ⟨b, off + i, none⟩ = some (.string (f i)) := by rw [hbel.cell (by exact hbl)]; exact hc i (by omega)
          have hm1 := jn_mono f (show i + 1 ≤ n by omega)
          have hl1 := jn_length_succ f i
          have hl2 := pre_length f i
          have hzi := HZ.out i hi
          have hszi : (f i).size ≤ 1048576 := by omega
          by_cases hi0 : i = 0
          · have hkd : decide (0 < i) = false := by simp; omega
            have hpl : (pre f i).length = (jn f i).length := by rw [hl2, if_pos hi0, hi0]; rfl
            have HP : Hid _ := hpl
            have R2 : Hid (wr.rowIs w.heap.size 5 (jn f n).length (byteAt (pre f i))) := by
              rw [hi0] at hrow ⊢
              exact hrow
            have hple : (pre f i).length ≤ 1048576 := by omega
            clear hrow hc h hl1 hl2 hi0 HS
            rw [← hpl]
            clear hpl HP
            go_wp2
            have HB2 : Hid (∀ j, j < (f i).size → (pre f i).length + j < (jn f n).length) := fun j hj => by have := jn_length_succ f i; omega
            go_loopw [6, 9] (fun t q wr => ∃ j : Nat, j ≤ (f i).size ∧ q = .int .i64 j ∧ t = .int .i64 (((pre f i).length + j : Nat) : Int) ∧ wr.rowIs w.heap.size 5 (jn f n).length (byteAt (pre f i ++ (f i).data.toList.take j)) ∧ Below w.heap.size w wr) (fun _ q _ => (f i).size - (intOf q).toNat)
            case atStart => exact ⟨0, by omega, rfl, by simp, by simpa using R2.out, hbel⟩
            case round =>
              clear R2
              obtain ⟨j, hj, rfl, rfl, hrow3, hbel3⟩ := hrel
              by_cases hjl : (j : Int) < ((f i).size : Int)
              · have hj1 : j < (f i).size := by omega
                have hb2 := HB2.out j hj1
                have hb2' : ((pre f i).length : Int) + (j : Int) < ((jn f n).length : Int) := by omega
                have d1 : wr.cell? ⟨w.heap.size, (pre f i).length + j, none⟩ = some (byteAt (pre f i ++ (f i).data.toList.take j) ((pre f i).length + j)) := hrow3.cell hb2
                have d2 := hrow3.frozen ((pre f i).length + j)
                have R3 : Hid ((wr.setCell ⟨w.heap.size, (pre f i).length + j, none⟩ (.int .u8 ((f i)[j].toNat : Int))).rowIs w.heap.size 5 (jn f n).length (byteAt (pre f i ++ (f i).data.toList.take (j + 1)))) := by
                  refine (hrow3.set ((pre f i).length + j) (.int .u8 ((f i)[j].toNat : Int))).congr (fun q hq => ?_)
                  rw [take_snoc _ _ hj1, ← List.append_assoc, byteAt_snoc]
                  simp only [List.length_append, List.length_take]
                  rw [show min j (f i).data.toList.length = j from by rw [Nat.min_eq_left]; exact Nat.le_of_lt (by simpa using hj1)]
                clear hrow3
                generalize (pre f i).length = L at *
                go_wp2
                go_roundw
                case rel => exact ⟨j + 1, by omega, by go_num, by go_num, R3.out, hbel3.setCell (Nat.le_refl _) _⟩
                case measure => simp [intOf]; omega
              · have hjn : j = (f i).size := by omega
                have HE : Hid ((jn f (i + 1)).length = (pre f i).length + (f i).size) := jn_length_succ f i
                have R4 : Hid (wr.rowIs w.heap.size 5 (jn f n).length (byteAt (jn f (i + 1)))) := by
                  rw [jn_succ]
                  rw [hjn, List.take_of_length_le (by simp)] at hrow3
                  exact hrow3
                clear hrow3 HB2
                go_wp2
                go_roundw
                case rel => exact ⟨i + 1, by omega, by go_num, by rw [HE.out, hjn], R4.out, hbel3⟩
                case measure => simp [intOf]; omega
          · have hi1 : (0 : Int) < (i : Int) := by omega
            rw [if_neg hi0] at hl2
            have hj2 : (jn f i).length < (jn f n).length := by omega
            have hj2' : ((jn f i).length : Int) < ((jn f n).length : Int) := by omega
            have d1 : wr.cell? ⟨w.heap.size, (jn f i).length, none⟩ = some (byteAt (jn f i) (jn f i).length) := hrow.cell hj2
            have d2 := hrow.frozen (jn f i).length
            have R2 : Hid ((wr.setCell ⟨w.heap.size, (jn f i).length, none⟩ (.int .u8 46)).rowIs w.heap.size 5 (jn f n).length (byteAt (pre f i))) := by
              refine (hrow.set (jn f i).length (.int .u8 46)).congr (fun q hq => ?_)
              rw [pre_pos f (by omega), byteAt_snoc]
              rfl
            have B2 : Below w.heap.size w (wr.setCell ⟨w.heap.size, (jn f i).length, none⟩ (.int .u8 46)) := hbel.setCell (Nat.le_refl _) _
            have hple : (pre f i).length ≤ 1048576 := by omega
            have HP : Hid ((pre f i).length = (jn f i).length + 1) := hl2
            have c1' : (wr.setCell ⟨w.heap.size, (jn f i).length, none⟩ (.int .u8 46)).cell? ⟨b, off + i, none⟩ = some (.string (f i)) := by rw [B2.cell (by exact hbl)]; exact hc i (by omega)
            clear hrow hc h hl1 hl2 hi0 HS hbel c1
            go_wp2
            clear d1 d2
            generalize (wr.setCell ⟨w.heap.size, (jn f i).length, none⟩ (.int .u8 46)) = W2 at *
            have HB2 : Hid (∀ j, j < (f i).size → (pre f i).length + j < (jn f n).length) := fun j hj => by have := jn_length_succ f i; omega
            go_loopw [6, 9] (fun t q wr => ∃ j : Nat, j ≤ (f i).size ∧ q = .int .i64 j ∧ t = .int .i64 (((pre f i).length + j : Nat) : Int) ∧ wr.rowIs w.heap.size 5 (jn f n).length (byteAt (pre f i ++ (f i).data.toList.take j)) ∧ Below w.heap.size w wr) (fun _ q _ => (f i).size - (intOf q).toNat)
            case atStart => exact ⟨0, by omega, rfl, by rw [HP.out]; go_num, by simpa using R2.out, B2⟩
            case round =>
              clear R2
              obtain ⟨j, hj, rfl, rfl, hrow3, hbel3⟩ := hrel
              by_cases hjl : (j : Int) < ((f i).size : Int)
              · have hj1 : j < (f i).size := by omega
                have hb2 := HB2.out j hj1
                have hb2' : ((pre f i).length : Int) + (j : Int) < ((jn f n).length : Int) := by omega
                have d1 : wr.cell? ⟨w.heap.size, (pre f i).length + j, none⟩ = some (byteAt (pre f i ++ (f i).data.toList.take j) ((pre f i).length + j)) := hrow3.cell hb2
                have d2 := hrow3.frozen ((pre f i).length + j)
                have R3 : Hid ((wr.setCell ⟨w.heap.size, (pre f i).length + j, none⟩ (.int .u8 ((f i)[j].toNat : Int))).rowIs w.heap.size 5 (jn f n).length (byteAt (pre f i ++ (f i).data.toList.take (j + 1)))) := by
                  refine (hrow3.set ((pre f i).length + j) (.int .u8 ((f i)[j].toNat : Int))).congr (fun q hq => ?_)
                  rw [take_snoc _ _ hj1, ← List.append_assoc, byteAt_snoc]
                  simp only [List.length_append, List.length_take]
                  rw [show min j (f i).data.toList.length = j from by rw [Nat.min_eq_left]; exact Nat.le_of_lt (by simpa using hj1)]
                clear hrow3
                generalize (pre f i).length = L at *
                go_wp2
                go_roundw
                case rel => exact ⟨j + 1, by omega, by go_num, by go_num, R3.out, hbel3.setCell (Nat.le_refl _) _⟩
                case measure => simp [intOf]; omega
              · have hjn : j = (f i).size := by omega
                have HE : Hid ((jn f (i + 1)).length = (pre f i).length + (f i).size) := jn_length_succ f i
                have R4 : Hid (wr.rowIs w.heap.size 5 (jn f n).length (byteAt (jn f (i + 1)))) := by
                  rw [jn_succ]
                  rw [hjn, List.take_of_length_le (by simp)] at hrow3
                  exact hrow3
                clear hrow3 HB2
                go_wp2
                go_roundw
                case rel => exact ⟨i + 1, by omega, by go_num, by rw [HE.out, hjn], R4.out, hbel3⟩
                case measure => simp [intOf]; omega
        · have hin : n = i := by omega
          subst hin
          have hcv := run_convert_bytes_back (P := Try.prog) wr 42 9 5 ⟨w.heap.size, 0, none⟩ (jn f n).length (jn f n) Try.underlying42 Try.underlying5 Try.underlying9 (fun j hj => by
            have := hrow.cell hj
            rw [show (⟨w.heap.size, 0, none⟩ : Addr).add j = ⟨w.heap.size, j, none⟩ from by rw [Addr.add_lit, Nat.zero_add]]
            rw [this, byteAt]
            simp [hj])
          clear h HS HZ
          go_wp2
          go_ret
          exact ⟨rfl, hbel⟩
end Go.Proofs.Qxb6602799a
