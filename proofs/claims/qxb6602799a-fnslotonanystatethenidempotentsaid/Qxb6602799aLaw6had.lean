/-
  SEAT b6602799a. The second law's walk: FnSlotOnAnyStateThenIdempotent, the keys not nil, the text has a number. (Written by a small script of this seat's own: three walks of one text.)
-/
import Derived.Test.Qxb6602799aMeas6
import Derived.Test.Qxb6602799aState6
import Derived.Deep.RegionWith
namespace Go.Proofs.Qxb6602799a
open Go.RowKit
set_option linter.unusedVariables false

set_option maxHeartbeats 8000000 in
set_option maxRecDepth 100000 in
theorem law6_had (ao : Option Addr) (m cap : Nat) (Q0 : Nat → Nm) (ak : Addr) (nk ck : Nat) (fk : Nat → ByteArray) (av : Option Addr) (nv cv : Nat) (gv : Nat → Int) (an : Option Addr) (nn cn : Nat) (fn : Nat → ByteArray) (x : Int) (hcase : Mk fk gv nk (jn fn nn) = some x) (w : World)
    (hN : Names w ao m Q0) (hm : m ≤ maxLen) (hn : ∀ i, (Q0 i).n ≤ maxLen) (hf : ∀ i j, ((Q0 i).f j).size ≤ maxLen)
    (hk : Strs w (some ak) nk ck fk) (hnk : nk ≤ maxLen) (hfk : ∀ j, (fk j).size ≤ maxLen) (hv : Ints w av nv gv) (hnv : nv ≤ maxLen) (hq : Strs w an nn cn fn) (hnn : nn ≤ maxLen) (hfn : ∀ j, (fn j).size ≤ maxLen) :
    Calls Try.prog 4 #[.slice ao m cap, .slice (some ak) nk ck, .slice av nv cv, .slice an nn cn] w fun e w' => e = .returned (.bool true) ∧ Below w.heap.size w w' := by
  have HZ : Hid (Calls Try.prog 16 #[.slice ao m cap, .slice (some ak) nk ck, .slice av nv cv, .slice an nn cn] w fun e w' => AnyBool e ∧ w' = w) := zbytes6_calls ao m cap Q0 (some ak) nk ck fk av nv cv an nn cn fn w hN hm hn hf hk hnk hfk hnv hq hnn hfn
  have HN1 : Hid (Calls Try.prog 6 #[.slice ao m cap] w fun e w' => Meas e (m ≤ 1048576 ∧ ∀ i, i < m → (Q0 i).small) ∧ w' = w) := nbytes_any ao m cap Q0 w hN hm hn hf
  have HN2 : Hid (Calls Try.prog 17 #[.slice (some ak) nk ck] w fun e w' => Meas e (8 * nk + tot fk nk ≤ 1048576) ∧ w' = w) := sbytes_calls (some ak) nk ck fk w hk hnk hfk
  have HN3 : Hid (Calls Try.prog 17 #[.slice an nn cn] w fun e w' => Meas e (8 * nn + tot fn nn ≤ 1048576) ∧ w' = w) := sbytes_calls an nn cn fn w hq hnn hfn
  have HFK : Hid (∀ j, (fk j).size ≤ maxLen) := hfk
  clear hn hf hfk hfn
  unfold maxLen at hm hnk hnv hnn
  by_cases hv1 : (131072 : Int) < (nv : Int)
  · clear HN1 HN2 HN3 hN hk hv hq HFK hcase
    go_enter Try.func4, Try.ntmps4
    go_wp2_with fail
    refine HZ.out.mono ?_
    rintro e w' ⟨⟨b1, rfl⟩, rfl⟩
    clear HZ
    cases b1 <;> (go_wp2_with fail; go_ret; exact ⟨rfl, Below.refl _ _⟩)
  · have dv : decide ((131072 : Int) < (nv : Int)) = false := by simp; omega
    go_enter Try.func4, Try.ntmps4
    go_wp2_with fail
    refine HZ.out.mono ?_
    rintro e w' ⟨⟨b1, rfl⟩, rfl⟩
    clear HZ
    cases b1 with
    | false =>
      go_wp2_with fail
      go_ret
      exact ⟨rfl, Below.refl _ _⟩
    | true =>
      go_wp2_with fail
      refine HN1.out.mono ?_
      rintro e w' ⟨⟨t1, rfl, ht10, ht11, hts1⟩, rfl⟩
      have Hts1 : Hid _ := hts1
      clear hts1 HN1
      go_wp2_with fail
      refine HN2.out.mono ?_
      rintro e w' ⟨⟨t2, rfl, ht20, ht21, hts2⟩, rfl⟩
      have Hts2 : Hid _ := hts2
      clear hts2 HN2
      go_wp2_with fail
      refine HN3.out.mono ?_
      rintro e w' ⟨⟨t3, rfl, ht30, ht31, hts3⟩, rfl⟩
      have Hts3 : Hid _ := hts3
      clear hts3 HN3
      by_cases hbig : (1048576 : Int) < t1 + t2 + 8 * (nv : Int) + t3
      · go_wp2_with fail
        go_ret
        exact ⟨rfl, Below.refl _ _⟩
      · have dbig : decide ((1048576 : Int) < t1 + t2 + 8 * (nv : Int) + t3) = false := by simp; omega
        obtain ⟨hm2, hsQ⟩ := Hts1.out (by omega)
        have HSQ : Hid (∀ i, i < m → (Q0 i).small) := hsQ
        have hsk := Hts2.out (by omega)
        have hsn := Hts3.out (by omega)
        have HSN : Hid (8 * nn + tot fn nn ≤ 1048576) := hsn
        have hnk2 : nk ≤ 131072 := by omega
        have hnn2 : nn ≤ 131072 := by omega
        clear Hts1 Hts2 Hts3 hsQ hsk hsn
        by_cases hkv : nk = nv
        · subst hkv
          have hb : ((nk : Int) != (nk : Int)) = false := by simp
          go_wp2_with fail
          refine (cnames_calls ao m cap Q0 _ hN hm2 HSQ.out).mono ?_
          rintro e w1 ⟨a0, Q, rfl, hN1, hlike, hB1⟩
          have HS2 : Hid (∀ i, i < m → (Q i).small) := fun i hi => Nm.like_small (hlike i hi) (HSQ.out i hi)
          have hk1 := hk.below hB1
          have hv1' := hv.below hB1
          have hq1 := hq.below hB1
          clear hN hlike HSQ hk hv hq
          go_wp2_with fail
          refine (clone_some ak nk ck fk _ hk1 (by omega)).mono ?_
          rintro e w2 ⟨rfl, hrowk, hB2⟩
          have hN2 := hN1.below hB2
          have hv2 := hv1'.below hB2
          have hq2 := hq1.below hB2
          have hk2 : Strs w2 (some ⟨w1.heap.size, 0, none⟩) nk nk fk := Strs.row hrowk
          have B2 : Below w'.heap.size w' w2 := hB1.trans (hB2.mono hB1.size)
          clear hrowk hB2
          generalize w1.heap.size = NK at *
          clear hN1 hk1 hv1' hq1 hB1
          go_wp2_with fail
          refine (cints_calls _ _ _ _ _ hv2 (by omega)).mono ?_
          rintro e w3 ⟨av', rfl, hv3, hB3⟩
          have hN3 := hN2.below hB3
          have hk3 := hk2.below hB3
          have hq3 := hq2.below hB3
          have B3 : Below w'.heap.size w' w3 := B2.trans (hB3.mono B2.size)
          clear hN2 hk2 hv2 hq2 B2 hB3
          go_wp2_with fail
          refine (clone_calls _ _ _ _ _ hq3 (by omega)).mono ?_
          rintro e w4 ⟨an', rfl, hq4, hB4, _⟩
          have hN4 := hN3.below hB4
          have hk4 := hk3.below hB4
          have hv4 := hv3.below hB4
          have B4 : Below w'.heap.size w' w4 := B3.trans (hB4.mono B3.size)
          clear hN3 hk3 hv3 hq3 B3 hB4
          have hne := fun (w : World) (a : Option Addr) (n c n' c' : Nat) => run_neq_slice_nil_any (P := Try.prog) w 26 9 a n c n' c' Try.underlying26
          have hmm : ∀ (n : Nat) (w : World), (Instr.makeMap 41 (some (.int .i64 (n : Int)))).run Try.prog w = .ok (.map (some w.heap.size)) (w.alloc (.map #[] 0)) := fun n w => run_makeMap_hint n w
          go_wp2_with fail
          clear hmm hne
          have hG0 : MG w4 w4.heap.size fk gv 0 (w4.alloc (.map #[] 0)) := ⟨0, MapV.made w4, (Below.refl _ _).alloc (Nat.le_refl _) _⟩
          generalize w4.alloc (.map #[] 0) = W4 at *
          obtain ⟨NM, hNM⟩ : ∃ NM, w4.heap.size = NM := ⟨_, rfl⟩
          have HNM : Hid (w4.heap.size = NM) := hNM
          have HNMl : Hid (w'.heap.size ≤ NM) := by rw [← hNM]; exact B4.size
          rw [hNM] at hG0 ⊢
          clear hNM
          go_loopw [10] (fun i v => ∃ k : Nat, k ≤ nk ∧ i = .int .i64 k ∧ MG w4 NM fk gv k v) (fun i _ => nk - (intOf i).toNat)
          case atStart => exact ⟨0, by omega, rfl, hG0⟩
          case round =>
            clear hG0
            obtain ⟨k, hkk, rfl, sz, hmp, hbel⟩ := hrel
            by_cases hlt : (k : Int) < (nk : Int)
            · obtain ⟨bk, ok, ek, hbk, hck⟩ := hk4.cells (by omega)
              obtain ⟨bv, ov, ev, hbv, hcv⟩ := hv4.cells (by omega)
              rw [HNM.out] at hbk hbv
              cases ek
              subst ev
              have c1 : wr.cell? ⟨NK, 0 + k, none⟩ = some (.string (fk k)) := by rw [hbel.cell (by exact hbk)]; exact hck k (by omega)
              rw [Nat.zero_add] at c1
              have c2 : wr.cell? ⟨bv, ov + k, none⟩ = some (.int .i64 (gv k)) := by rw [hbel.cell (by exact hbv)]; exact hcv k (by omega)
              have hmd : MapV wr.drew (some NM) k (Mk fk gv k) sz := hmp
              obtain ⟨w6, hrun, hmp6, hg6⟩ := hmd.store (by unfold maxLen; omega) (fk k) (HFK.out k) (gv k) (hv4.rng k)
              have hG1 : MG w4 NM fk gv (k + 1) w6 := ⟨_, hmp6, hbel.drew.grown hg6 (by have := hbel.size; rw [HNM.out] at this; exact this) (fun j hj => by cases hj; exact Nat.le_refl _)⟩
              have HG1 : Hid _ := hG1
              clear hG1 hmp hmd hmp6 hg6 hbel hck hcv
              go_wp2_with fail
              go_region
              all_goals
                go_wp2_with fail
                go_roundw
                case rel => exact ⟨k + 1, by omega, by go_num, HG1.out⟩
                case measure => simp [intOf]; omega
            · have hkn : nk = k := by omega
              subst hkn
              have hM4 : MapV wr (some NM) nk (Mk fk gv nk) sz := hmp
              have hbel' : Below w4.heap.size w4 wr := by rw [HNM.out]; exact hbel
              have hN5 := hN4.below hbel'
              have hk5 := hk4.below hbel'
              have hv5 := hv4.below hbel'
              have hq5 := hq4.below hbel'
              have B5 : Below w'.heap.size w' wr := B4.trans (hbel'.mono B4.size)
              clear hN4 hk4 hv4 hq4 B4 hbel hbel' hmp HNM
              generalize wr = w5 at *
              clear hv5
              have hmk : ∀ w, (Instr.makeSlice 28 (.int .i64 (nk : Int)) (.int .i64 (nk : Int))).run Try.prog w = .ok (.slice (some ⟨w.heap.size, 0, none⟩) nk nk) (w.alloc (.cells (madeCells #[.int .i64 0] nk) 3)) := fun w => run_make_row' (P := Try.prog) 28 3 (.int .i64 0) 8 Try.underlying28 info3' rfl .i64 .i64 nk (by omega) (by omega) w
              go_wp2_with fail
              clear hmk
              have r0 := upI_made w5 nk (bfv (Mk fk gv nk) fk)
              have b0 : Below w5.heap.size w5 (w5.alloc (.cells (madeCells #[.int .i64 0] nk) 3)) := (Below.refl _ _).alloc (Nat.le_refl _) _
              generalize w5.alloc (.cells (madeCells #[.int .i64 0] nk) 3) = W5 at *
              obtain ⟨NB, hNB⟩ : ∃ NB, w5.heap.size = NB := ⟨_, rfl⟩
              have HNB : Hid (w5.heap.size = NB) := hNB
              rw [hNB] at r0 b0 ⊢
              clear hNB
              go_loopw [12] (fun i v => ∃ k : Nat, k ≤ nk ∧ i = .int .i64 k ∧ v.rowIs NB 3 nk (upI (bfv (Mk fk gv nk) fk) k) ∧ Below NB w5 v) (fun i _ => nk - (intOf i).toNat)
              case atStart => exact ⟨0, by omega, rfl, r0, b0⟩
              case round =>
                clear r0 b0
                obtain ⟨k, hkk, rfl, hrow, hbel⟩ := hrel
                by_cases hlt : (k : Int) < (nk : Int)
                · obtain ⟨bk, ok, ek, hbk, hck⟩ := hk5.cells (by omega)
                  rw [HNB.out] at hbk
                  cases ek
                  have c1 : wr.cell? ⟨NK, 0 + k, none⟩ = some (.string (fk k)) := by rw [hbel.cell (by exact hbk)]; exact hck k (by omega)
                  rw [Nat.zero_add] at c1
                  have hMr : MapV wr (some NM) nk (Mk fk gv nk) sz := hM4.of_block (fun b e => by cases e; exact hbel.block NM (by have := hM4.lt; rw [HNB.out] at this; exact this))
                  have hlk : (Instr.lookup 41 (.map (some NM)) (.string (fk k)) false).run Try.prog wr = .ok (.int .i64 (bfv (Mk fk gv nk) fk k)) wr := hMr.look1 (fk k) (HFK.out k)
                  have d1 := hrow.cell (i := k) (by omega)
                  have d2 := hrow.frozen k
                  have R := upI_set hrow
                  have HR1 : Hid _ := R
                  clear hrow R hMr hck
                  generalize bfv (Mk fk gv nk) fk k = bx at *
                  go_wp2_with fail
                  go_roundw
                  case rel => exact ⟨k + 1, by omega, by go_num, HR1.out, hbel.setCell (p := ⟨NB, k, none⟩) (Nat.le_refl _) _⟩
                  case measure => simp [intOf]; omega
                · have hkn : nk = k := by omega
                  subst hkn
                  have hbel' : Below w5.heap.size w5 wr := by rw [HNB.out]; exact hbel
                  have hN6 := hN5.below hbel'
                  have hk6 := hk5.below hbel'
                  have hq6 := hq5.below hbel'
                  have hM6 : MapV wr (some NM) nk (Mk fk gv nk) sz := hM4.of_block (fun b e => hbel'.block b (by cases e; exact hM4.lt))
                  have B6 : Below w'.heap.size w' wr := B5.trans (hbel'.mono B5.size)
                  have RB6 : Hid (wr.rowIs NB 3 nk (upI (bfv (Mk fk gv nk) fk) nk)) := hrow
                  clear hN5 hk5 hq5 B5 hbel hbel' hM4 hrow HNB
                  generalize wr = w6 at *
                  have hlen := hM6.len
                  have hszb : sz ≤ 131072 := by have := hM6.size_le; omega
                  go_wp2_with fail
                  refine (dots_calls _ _ _ _ _ hq6 HSN.out).mono ?_
                  rintro e w7 ⟨rfl, hB7⟩
                  have hN7 := hN6.below hB7
                  have hk7 := hk6.below hB7
                  have hq7 := hq6.below hB7
                  have hM7 : MapV w7 (some NM) nk (Mk fk gv nk) sz := hM6.of_block (fun b e => hB7.block b (by cases e; exact hM6.lt))
                  have B7 : Below w'.heap.size w' w7 := B6.trans (hB7.mono B6.size)
                  have RB7 : Hid (w7.rowIs NB 3 nk (upI (bfv (Mk fk gv nk) fk) nk)) := RB6.out.of_block (hB7.block NB RB6.out.lt)
                  have hts := txt_size fn nn HSN.out
                  have hlk := hM7.look (txt fn nn) hts
                  rw [txt_list, show (Mk fk gv nk) (jn fn nn) = some x from hcase] at hlk
                  have HTS : Hid ((txt fn nn).size ≤ maxLen) := hts
                  clear hN6 hk6 hq6 hM6 B6 hB7 RB6 hlen hts
                  have HTL : Hid ((txt fn nn).data.toList = jn fn nn) := rfl
                  generalize txt fn nn = T at *
                  go_wp2_with fail
                  refine (mk_calls _ _ _ Q (some NM) nk (Mk fk gv nk) sz _ hN7 hm2 hM7).mono ?_
                  rintro e w8 ⟨s, no, nc, rfl, hS8, hB8⟩
                  have hSv0 : Sv nk w7.heap.size (some NM) s m Q (Mk fk gv nk) sz m Q (Mk fk gv nk) sz w7 w8 := ⟨.inl ⟨no, nc, (some NM), nk, Nat.le_refl _, hS8⟩, Keeps.of_below hB8 (Nat.le_refl _)⟩
                  have HCALL : Hid (∀ v, Sv nk w7.heap.size (some NM) s m Q (Mk fk gv nk) sz m Q (Mk fk gv nk) sz w7 v → Calls Try.prog 10 #[.pointer (some ⟨s, 0, none⟩), .slice an' nn nn] v fun e w' => e = .returned (.int .i64 x) ∧ Fv nk w7.heap.size (some NM) s m Q (Mk fk gv nk) sz w7 w') := fun v hv => call_had (q := ⟨an', nn, nn, fn⟩) hv hM7 hq7 HSN.out hcase
                  have HNL : Hid (∀ v, Fv nk w7.heap.size (some NM) s m Q (Mk fk gv nk) sz w7 v → Calls Try.prog 11 #[.pointer (some ⟨s, 0, none⟩)] v fun e w' => e = .returned (.int .i64 (m : Int)) ∧ w' = v) := fun v hv => stands_nlen hv.1
                  have HSL : Hid (∀ v, Fv nk w7.heap.size (some NM) s m Q (Mk fk gv nk) sz w7 v → Calls Try.prog 12 #[.pointer (some ⟨s, 0, none⟩)] v fun e w' => e = .returned (.int .i64 (sz : Int)) ∧ w' = v) := fun v hv => stands_slen hv.1
                  have HSO : Hid (∀ v, Fv nk w7.heap.size (some NM) s m Q (Mk fk gv nk) sz w7 v → Calls Try.prog 15 #[.pointer (some ⟨s, 0, none⟩), .string T] v fun e w' => e = .returned (.tuple #[.int .i64 x, .bool true]) ∧ w' = v) := fun v hv => stands_sof hv.1 HTS.out (by rw [HTL.out]; exact hcase)
                  have HNA : Hid (∀ v k i, i < m → Fv nk w7.heap.size (some NM) s m Q (Mk fk gv nk) sz w7 v → Calls Try.prog 14 #[.pointer (some ⟨s, 0, none⟩), .int .i64 (i : Int)] (v.drewN k) fun e w' => e = .returned (.slice (Q i).ao (Q i).n (Q i).c) ∧ w' = v.drewN k) := fun v k i hi hv => by
                    have := stands_nat (hv.1.drewN k) (i := i) (by omega) (by omega)
                    exact this
                  have HSA : Hid (∀ v k i, i < m → Fv nk w7.heap.size (some NM) s m Q (Mk fk gv nk) sz w7 v → Strs (v.drewN k) (Q i).ao (Q i).n (Q i).c (Q i).f) := fun v k i hi hv => ((hN7.ok i hi).keep hv.2 hM7).drewM k
                  have HKO : Hid (∀ v k i, i < nk → Fv nk w7.heap.size (some NM) s m Q (Mk fk gv nk) sz w7 v → Calls Try.prog 15 #[.pointer (some ⟨s, 0, none⟩), .string (fk i)] (v.drewN k) fun e w' => e = .returned (.tuple #[.int .i64 (bfv (Mk fk gv nk) fk i), .bool true]) ∧ w' = v.drewN k) := fun v k i hi hv => by
                    obtain ⟨y, hb⟩ := Mk_has fk gv nk i hi
                    exact stands_sof (hv.1.drewN k) (HFK.out i) (by exact bfv_some hb)
                  have HKC : Hid (∀ v i, i < nk → Fv nk w7.heap.size (some NM) s m Q (Mk fk gv nk) sz w7 v → v.cell? ⟨NK, i, none⟩ = some (.string (fk i))) := fun v i hi hv => by
                    obtain ⟨bk, ok, ek, hbk, hck⟩ := hk7.cells (by omega)
                    cases ek
                    have := keep_cell hv.2 hM7 hbk (hck i hi)
                    rwa [Nat.zero_add] at this
                  have HBC : Hid (∀ v i, i < nk → Fv nk w7.heap.size (some NM) s m Q (Mk fk gv nk) sz w7 v → v.cell? ⟨NB, i, none⟩ = some (.int .i64 (bfv (Mk fk gv nk) fk i))) := fun v i hi hv => by
                    refine keep_cell hv.2 hM7 RB7.out.lt ?_
                    rw [RB7.out.cell hi, upI_lt hi]
                  have hloc : ∀ b, (some NM : Option Nat) = some b → w'.heap.size ≤ b := fun b e => by cases e; exact HNMl.out
                  have HNC : Hid (∀ v i, i < m → Fv nk w7.heap.size (some NM) s m Q (Mk fk gv nk) sz w7 v → ∃ b off, a0 = some ⟨b, off, none⟩ ∧ v.cell? ⟨b, off + i, none⟩ = some (.slice (Q i).ao (Q i).n (Q i).c)) := fun v i hi hv => hN7.keepCell hv.2 hM7 hi
                  have HBL : Hid (∀ v, Fv nk w7.heap.size (some NM) s m Q (Mk fk gv nk) sz w7 v → Below w'.heap.size w' v) := fun v hv => below_of_keeps B7 hv.2 hloc B7.size
                  have HBL0 : Hid (∀ v, Sv nk w7.heap.size (some NM) s m Q (Mk fk gv nk) sz m Q (Mk fk gv nk) sz w7 v → Below w'.heap.size w' v) := fun v hv => below_of_keeps B7 hv.2 hloc B7.size
                  have HFS : Hid (∀ v k, Fv nk w7.heap.size (some NM) s m Q (Mk fk gv nk) sz w7 v → Sv nk w7.heap.size (some NM) s m Q (Mk fk gv nk) sz m Q (Mk fk gv nk) sz w7 (v.drewN k)) := fun v k hv => ⟨.inr (hv.1.drewN k), hv.2.drewN k⟩
                  clear hN7 hk7 hq7 hM7 B7 hS8 hB8 hlk RB7 HTL HTS HSN HFK hcase hloc HBL
                  generalize Fv nk w7.heap.size (some NM) s m Q (Mk fk gv nk) sz w7 = FV at *
                  generalize Sv nk w7.heap.size (some NM) s m Q (Mk fk gv nk) sz m Q (Mk fk gv nk) sz w7 = SV at *
                  go_wp2_with fail
                  go_loopw [21] (fun i v => ∃ r : Nat, r ≤ 2 ∧ i = .int .i64 r ∧ SV v) (fun i _ => 2 - (intOf i).toNat)
                  case atStart => exact ⟨0, by omega, rfl, hSv0⟩
                  case round =>
                    clear hSv0
                    obtain ⟨r, hr, rfl, hsv⟩ := hrel
                    by_cases hrl : (r : Int) < 2
                    · have hw1 : ((x : Int) != (x : Int)) = false := by simp
                      have hw2 : ((m : Int) + 1 != (m : Int) + 1) = false := by simp
                      have hw3 : ((m : Int) != (m : Int)) = false := by simp
                      go_wp2_with fail
                      refine (HCALL.out _ hsv).mono ?_
                      rintro e w9 ⟨rfl, hfv⟩
                      clear hsv
                      go_wp2_with fail
                      refine (HNL.out _ hfv).mono ?_
                      rintro e w9 ⟨rfl, rfl⟩
                      go_wp2_with fail
                      refine (HSL.out _ hfv).mono ?_
                      rintro e w9 ⟨rfl, rfl⟩
                      go_wp2_with fail
                      refine (HSO.out _ hfv).mono ?_
                      rintro e w9 ⟨rfl, rfl⟩
                      go_wp2_with fail
                      go_loopw [24] (fun i v => ∃ k mm : Nat, k ≤ m ∧ i = .int .i64 k ∧ v = w9.drewN mm) (fun i _ => m - (intOf i).toNat)
                      case atStart => exact ⟨0, 0, by omega, rfl, rfl⟩
                      case round =>
                        obtain ⟨k, mm, hkk, rfl, rfl⟩ := hrel
                        by_cases hlt : (k : Int) < (m : Int)
                        · obtain ⟨b, off, ea, hcell⟩ := HNC.out w9 k (by omega) hfv
                          subst ea
                          have c' : (w9.drewN mm).cell? ⟨b, off + k, none⟩ = some (.slice (Q k).ao (Q k).n (Q k).c) := hcell
                          have HA : Hid (∀ n, Calls Try.prog 14 #[.pointer (some ⟨s, 0, none⟩), .int .i64 (k : Int)] ((w9.drewN mm).drewN n) fun e w' => e = .returned (.slice (Q k).ao (Q k).n (Q k).c) ∧ w' = (w9.drewN mm).drewN n) := fun n => by rw [World.drewN_drewN]; exact HNA.out w9 (mm + n) k (by omega) hfv
                          have HO : Hid (∀ n, Strs ((w9.drewN mm).drewN n) (Q k).ao (Q k).n (Q k).c (Q k).f) := fun n => by rw [World.drewN_drewN]; exact HSA.out w9 (mm + n) k (by omega) hfv
                          have hsn := Nm.small_n (q := Q k) (HS2.out k (by omega))
                          clear hcell
                          generalize hwF : w9.drewN mm = wF at *
                          have HF : Hid (w9.drewN mm = wF) := hwF
                          clear hwF
                          go_wp2_with fail
                          go_quiet ((first | (go_at_call 14; exact Calls.quiet_of_same (HA.out _)) | (go_at_call 13; exact Calls.quiet_of (same_calls _ _ _ _ _ (HO.out _) hsn))))
                          go_wp2_with fail
                          go_roundw
                          case rel => exact ⟨k + 1, mm + nq, by omega, by go_num, by rw [← HF.out]; simp⟩
                          case measure => simp [intOf]; omega
                        · go_wp2_with fail
                          go_loopw [25] (fun i v => ∃ k mm : Nat, k ≤ nk ∧ i = .int .i64 k ∧ v = w9.drewN mm) (fun i _ => nk - (intOf i).toNat)
                          case atStart => exact ⟨0, mm, by omega, rfl, rfl⟩
                          case round =>
                            obtain ⟨k, mm2, hkk, rfl, rfl⟩ := hrel
                            by_cases hlt : (k : Int) < (nk : Int)
                            · have c1 := HKC.out w9 k (by omega) hfv
                              have c2 := HBC.out w9 k (by omega) hfv
                              have HK1 : Hid (Calls Try.prog 15 #[.pointer (some ⟨s, 0, none⟩), .string (fk k)] (w9.drewN mm2) fun e w' => e = .returned (.tuple #[.int .i64 (bfv (Mk fk gv nk) fk k), .bool true]) ∧ w' = w9.drewN mm2) := HKO.out w9 mm2 k (by omega) hfv
                              generalize bfv (Mk fk gv nk) fk k = y at *
                              have hyy : (y != y) = false := by simp
                              go_wp2_with fail
                              refine HK1.out.mono ?_
                              rintro e w14 ⟨rfl, rfl⟩
                              go_wp2_with fail
                              go_roundw
                              case rel => exact ⟨k + 1, mm2, by omega, by go_num, rfl⟩
                              case measure => simp [intOf]; omega
                            · go_wp2_with fail
                              go_roundw
                              case rel => exact ⟨r + 1, by omega, by go_num, HFS.out w9 mm2 hfv⟩
                              case measure => simp [intOf]; omega
                    · go_wp2_with fail
                      go_ret
                      exact ⟨rfl, HBL0.out _ hsv⟩
        · have hb : ((nk : Int) != (nv : Int)) = true := by rw [bne_iff_ne]; omega
          go_wp2_with fail
          go_ret
          exact ⟨rfl, Below.refl _ _⟩
end Go.Proofs.Qxb6602799a
