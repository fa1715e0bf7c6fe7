/-
  SEAT b6602799a. The walks of (*userSlots).slot and of the readers of a state.
-/
import Derived.Test.Qxb6602799aMap
namespace Go.Proofs.Qxb6602799a
open Go.RowKit Go.Maps Go.WideMaps
set_option linter.unusedVariables false

theorem txt_list (f : Nat → ByteArray) (n : Nat) : (txt f n).data.toList = jn f n := rfl
theorem txt_size (f : Nat → ByteArray) (n : Nat) (hs : 8 * n + tot f n ≤ 1048576) : (txt f n).size ≤ maxLen := by
  have h1 : (txt f n).size = (jn f n).length := by
    show (jn f n).toArray.size = _
    simp
  have := jn_length f n
  rw [h1]; unfold maxLen; omega

section
variable {B : Nat} {m0 : Option Nat} {s : Nat} {no : Option Addr} {L nc : Nat} {V : Nat → Nm} {mo : Option Nat} {n : Nat} {M : List UInt8 → Option Int} {sz : Nat}

set_option maxHeartbeats 400000 in
/-- 'slot' of a name whose text has a number. -/
theorem slot_hit (w : World) (q : Nm) (v : Int) (h : St B m0 w s no L nc V mo n M sz) (hq : Strs w q.ao q.n q.c q.f) (hsm : 8 * q.n + tot q.f q.n ≤ 1048576) (hM : M (jn q.f q.n) = some v) :
    Calls Try.prog 20 #[.pointer (some ⟨s, 0, none⟩), .slice q.ao q.n q.c] w fun e w' => e = .returned (.int .i64 v) ∧ Below w.heap.size w w' := by
  go_enter Try.func20, Try.ntmps20
  go_wp2_with fail
  refine (join_calls _ _ _ _ _ hq hsm).mono ?_
  rintro e w1 ⟨rfl, hb⟩
  have h1 := h.below hb
  have hlk := h1.map.look (txt q.f q.n) (txt_size _ _ hsm)
  rw [txt_list, hM] at hlk
  have c1 := h1.cell1
  clear h h1 hq hM hsm
  generalize txt q.f q.n = T at *
  go_wp2
  go_ret
  exact ⟨rfl, hb⟩

theorem info44 : (Try.prog.info? 44).map (fun i => (i.zero, i.size, i.bytes)) = some (some (.slice none 0 0), 1, 24) := by kernel_rfl

theorem grown_cells {w w' : World} {b s : Nat} {t : TypeId} {k : Nat} {g : Nat → Value} (hg : w.grownBy w' (some b)) (hr : w.rowIs s t k g) (hne : s ≠ b) : w'.rowIs s t k g := hr.of_block (hg.block s hr.lt (fun e => hne (Option.some.inj e)))
theorem ne_of_map {w : World} {b s n : Nat} {M : List UInt8 → Option Int} {sz : Nat} {t : TypeId} {k : Nat} {g : Nat → Value} (hm : MapV w (some b) n M sz) (hr : w.rowIs s t k g) : s ≠ b := by
  intro e; subst e
  obtain ⟨c, hc, _⟩ := hr
  exact hm.not_cells hc

theorem own_kept {w w' : World} {v : Value} {xs : List Value} (h : w.ownsRow B 44 1 v L xs) (hk : ∀ (g : Nat) (c : Array Value), w.heap[g]? = some (.cells c 44 (0, 0)) → w'.heap[g]? = w.heap[g]?) : w'.ownsRow B 44 1 v L xs := by
  obtain ⟨h1, h2⟩ := h
  refine ⟨h1, ?_⟩
  rcases h2 with h2 | ⟨g, cap, cur, hv, hg, hh, r⟩
  · exact .inl h2
  · exact .inr ⟨g, cap, cur, hv, hg, (hk g cur hh).trans hh, r⟩
/-- The block of the names' row, where there is one: cells of type 44, from B on. -/
theorem own_block {w : World} {xs : List Value} (h : w.ownsRow B 44 1 (.slice no L nc) L xs) {g : Nat} (hg : (Value.slice no L nc).ownBlock = some g) : B ≤ g ∧ ∃ c, w.heap[g]? = some (.cells c 44 (0, 0)) := by
  rcases h.2 with ⟨h2, _⟩ | ⟨g', cap, cur, hv, hB, hh, _⟩
  · cases h2; simp [Value.ownBlock] at hg
  · cases hv
    simp [Value.ownBlock] at hg
    subst hg
    exact ⟨hB, cur, hh⟩

/-- THE STATE BEHIND a store into its map and an append to its names. -/
theorem St.push {w1 w2 w3 : World} {b : Nat} (h : St B m0 w1 s no L nc V (some b) n M sz) (hg2 : w1.grownBy w2 (some b)) {n' : Nat} {M' : List UInt8 → Option Int} {sz' : Nat} (hm : MapV w2 (some b) n' M' sz') {no' : Option Addr} {nc' : Nat} {q : Nm} {o : Obj}
    (ho : w3.ownsRow B 44 1 (.slice no' (L + 1) nc') (L + 1) (vals V L ++ [.slice q.ao q.n q.c])) (hg3 : (w2.alloc o).grownBy w3 (Value.slice no L nc).ownBlock) :
    w3.rowIs s 46 2 (fields (.slice no L nc) (.map (some b))) ∧ St B m0 (w3.setCell ⟨s, 0, none⟩ (.slice no' (L + 1) nc')) s no' (L + 1) nc' (setNm V L q) (some b) n' M' sz' ∧ Keeps B m0 w1 (w3.setCell ⟨s, 0, none⟩ (.slice no' (L + 1) nc')) := by
  have hsb : s ≠ b := ne_of_map h.map h.row
  have hrow2 := grown_cells hg2 h.row hsb
  have hown2 : w2.ownsRow B 44 1 (.slice no L nc) L (vals V L) := own_kept h.own (fun g c hc => hg2.block g (Array.getElem?_eq_some_iff.1 hc).1 (fun e => by cases e; exact h.map.not_cells hc))
  have hA : ∀ k, k < w2.heap.size → (w2.alloc o).heap[k]? = w2.heap[k]? := fun k hk => Below.heap_alloc _ _ _ hk
  have hneg : ∀ k, (Value.slice no L nc).ownBlock = some k → B ≤ k ∧ ∃ c, w2.heap[k]? = some (.cells c 44 (0, 0)) := fun k hk => own_block hown2 hk
  have hkeep3 : ∀ k, k < w2.heap.size → (Value.slice no L nc).ownBlock ≠ some k → w3.heap[k]? = w2.heap[k]? := fun k hk hne => (hg3.block k (by simp; omega) (fun e => hne e.symm)).trans (hA k hk)
  have hrow3 : w3.rowIs s 46 2 (fields (.slice no L nc) (.map (some b))) := hrow2.of_block (hkeep3 s hrow2.lt (fun e => by
    obtain ⟨_, c, hc⟩ := hneg s e
    obtain ⟨c', hc', _⟩ := hrow2
    rw [hc] at hc'
    simp at hc'))
  have hmap3 : MapV w3 (some b) n' M' sz' := hm.of_block (fun b' e => by
    cases e
    exact hkeep3 b hm.lt (fun e => by obtain ⟨_, c, hc⟩ := hneg b e; exact hm.not_cells hc))
  refine ⟨hrow3, ⟨h.hs, ?_, ?_, ?_, h.loc⟩, ?_⟩
  · exact (hrow3.set 0 _).congr (fun j hj => by match j, hj with
      | 0, _ => rfl
      | 1, _ => rfl)
  · rw [← vals_snoc]
    refine own_kept ho (fun g c hc => Below.heap_setCell _ _ _ _ (fun e => ?_))
    simp at e
    subst e
    obtain ⟨c', hc', _⟩ := hrow3
    rw [hc] at hc'
    simp at hc'
  · exact hmap3.of_block (fun b' e => by cases e; exact Below.heap_setCell _ _ _ _ (fun e => hsb (by simpa using e.symm)))
  · have hb1 : ∀ k, k < B → some k ≠ m0 → k ≠ b := fun k hk hkm e => by subst e; rcases h.loc _ rfl with e | e; exact hkm e; omega
    refine ⟨hg3.os.trans hg2.os, hg3.tape.trans hg2.tape, hg3.output.trans hg2.output, ?_, fun k hk hkm => ?_⟩
    · have a1 := hg2.size
      have a2 := hg3.size
      simp at a2
      simp [World.setCell]; omega
    · have hlt : k < w1.heap.size := Nat.lt_of_lt_of_le hk h.base
      rw [Below.heap_setCell _ _ _ _ (by have := h.hs; simp; omega), hkeep3 k (Nat.lt_of_lt_of_le hlt hg2.size) (fun e => by have := (hneg k e).1; omega)]
      exact hg2.block k hlt (fun e => hb1 k hk hkm (Option.some.inj e))
theorem own_succ {w : World} {v : Value} {xs : List Value} (h : w.ownsRow B 44 1 v (L + 1) xs) : ∃ g cap, v = .slice (some ⟨g, 0, none⟩) (L + 1) cap := by
  rcases h.2 with ⟨_, e⟩ | ⟨g, cap, cur, hv, _⟩
  · omega
  · exact ⟨g, cap, hv⟩

set_option maxHeartbeats 1000000 in
/-- 'slot' of a name whose text has none, the map not nil. -/
theorem slot_miss_some (w : World) (b : Nat) (q : Nm) (h : St B m0 w s no L nc V (some b) n M sz) (hq : Strs w q.ao q.n q.c q.f) (hsm : 8 * q.n + tot q.f q.n ≤ 1048576) (hM : M (jn q.f q.n) = none) (hL : L ≤ 2097152) (hn : n ≤ 4194304) :
    Calls Try.prog 20 #[.pointer (some ⟨s, 0, none⟩), .slice q.ao q.n q.c] w fun e w' => e = .returned (.int .i64 L) ∧ ∃ no' nc', St B m0 w' s no' (L + 1) nc' (setNm V L q) (some b) (n + 1) (upd M (jn q.f q.n) L) (sz + 1) ∧ Keeps B m0 w w' := by
  have hen := fun (w : World) (r : Option Nat) => run_eql_map_nil (P := Try.prog) w 41 9 3 r Try.underlying41
  obtain ⟨i0, hi, hz0, hz1, hz2⟩ := info_parts info44
  go_enter Try.func20, Try.ntmps20
  go_wp2_with fail
  refine (join_calls _ _ _ _ _ hq hsm).mono ?_
  rintro e w1 ⟨rfl, hb⟩
  have h1 := h.below hb
  have hK1 : Keeps B m0 w w1 := Keeps.of_below hb h.base
  have hts := txt_size q.f q.n hsm
  have hlk := h1.map.look (txt q.f q.n) hts
  rw [txt_list, hM] at hlk
  have hmd : MapV w1.drew (some b) n M sz := h1.map
  obtain ⟨w2, hrun, hmap2, hg2⟩ := hmd.store (by unfold maxLen; omega) (txt q.f q.n) hts (L : Int) (WalkArith.wf_i64 (by omega))
  rw [txt_list, hM] at hmap2
  simp only [Option.isSome_none, Bool.false_eq_true, if_false] at hmap2
  have hg2' : w1.grownBy w2 (some b) := ⟨hg2.os, hg2.tape, hg2.output, hg2.size, hg2.block⟩
  have hsb : s ≠ b := ne_of_map h1.map h1.row
  have hrow2 : w2.rowIs s 46 2 (fields (.slice no L nc) (.map (some b))) := grown_cells hg2' h1.row hsb
  have hown2 : w2.ownsRow B 44 1 (.slice no L nc) L (vals V L) := own_kept h1.own (fun g c hc => hg2'.block g (Array.getElem?_eq_some_iff.1 hc).1 (fun e => by cases e; exact h1.map.not_cells hc))
  have hBw2 : B ≤ w2.heap.size := Nat.le_trans h1.base hg2'.size
  have c0 := h1.cell0
  have c1 := h1.cell1
  have c0' : w2.cell? ⟨s, 0, none⟩ = some (.slice no L nc) := hrow2.cell (by omega)
  have Hm : Hid (MapV w2 (some b) (n + 1) (upd M (jn q.f q.n) L) (sz + 1)) := hmap2
  have HST : Hid (St B m0 w1 s no L nc V (some b) n M sz) := h1
  clear hmd hmap2 hrow2 hts h h1 hq hM hsm hb
  generalize txt q.f q.n = T at *
  go_wp2_with fail
  go_region
  go_wp2_with (at_builtin; refine wpList_append_own _ rfl (.tmp 44) (.tmp 46) 43 rfl B 44 i0 (.slice none 0 0) 1 24 Try.underlying43 hi hz0 hz1 hz2 rfl (by decide) _ _ _ rfl (hown2.alloc _) ⟨w2.heap.size, 0, none⟩ 1 1 [.slice q.ao q.n q.c] rfl rfl (cell_one_new _ _ _) (by intro u hu; simp at hu; subst hu; rfl) (by unfold maxLen; omega) (by omega) (by simp; omega) ?_)
  intro v' w3 hown3 hgrow3 _
  obtain ⟨g', cap', hv'⟩ := own_succ hown3
  rw [hv'] at hown3 ⊢
  obtain ⟨hrow3, hst4, hk4⟩ := St.push HST.out hg2' Hm.out hown3 hgrow3
  have d0 := hrow3.cell (i := 0) (by omega)
  have d0f := hrow3.frozen 0
  have HS4 : Hid _ := hst4
  have HK4 : Hid _ := hk4
  clear hrow3 hst4 hk4 hgrow3 hown3 hv' hown2 hg2' hg2 hrun c0' Hm HST
  go_wp2
  go_ret
  exact ⟨by go_num, _, _, HS4.out, hK1.trans HK4.out⟩

/-- THE STATE BEHIND 's.slots = make(map[string]int)'. -/
theorem St.mapped {w1 : World} (h : St B m0 w1 s no L nc V none n M sz) :
    St B m0 ((w1.alloc (.map #[] 0)).setCell ⟨s, 1, none⟩ (.map (some w1.heap.size))) s no L nc V (some w1.heap.size) 0 (fun _ => none) 0 ∧ Keeps B m0 w1 ((w1.alloc (.map #[] 0)).setCell ⟨s, 1, none⟩ (.map (some w1.heap.size))) := by
  have hA := h.below ((Below.refl _ _).alloc (Nat.le_refl _) (.map #[] 0))
  have hs : s < w1.heap.size := h.row.lt
  refine ⟨⟨h.hs, ?_, ?_, ?_, fun b e => ?_⟩, ⟨rfl, rfl, rfl, by simp [World.setCell], fun k hk _ => ?_⟩⟩
  · exact (hA.row.set 1 _).congr (fun j hj => by match j, hj with
      | 0, _ => rfl
      | 1, _ => rfl)
  · refine own_kept hA.own (fun g c hc => Below.heap_setCell _ _ _ _ (fun e => ?_))
    simp at e
    subst e
    obtain ⟨c', hc', _⟩ := hA.row
    rw [hc] at hc'
    simp at hc'
  · exact (MapV.made w1).of_block (fun b e => by cases e; exact Below.heap_setCell _ _ _ _ (by simp; omega))
  · cases e; exact .inr h.base
  · rw [Below.heap_setCell _ _ _ _ (by have := h.hs; simp; omega), Below.heap_alloc _ _ _ (Nat.lt_of_lt_of_le hk h.base)]

set_option maxHeartbeats 1000000 in
/-- 'slot' on a nil map. -/
theorem slot_miss_none (w : World) (q : Nm) (h : St B m0 w s no L nc V none n M sz) (hq : Strs w q.ao q.n q.c q.f) (hsm : 8 * q.n + tot q.f q.n ≤ 1048576) (hL : L ≤ 2097152) :
    Calls Try.prog 20 #[.pointer (some ⟨s, 0, none⟩), .slice q.ao q.n q.c] w fun e w' => e = .returned (.int .i64 L) ∧ ∃ no' nc' b, St B m0 w' s no' (L + 1) nc' (setNm V L q) (some b) 1 (upd (fun _ => none) (jn q.f q.n) L) 1 ∧ Keeps B m0 w w' := by
  have hen := fun (w : World) (r : Option Nat) => run_eql_map_nil (P := Try.prog) w 41 9 3 r Try.underlying41
  have hmm := @run_makeMap Try.prog
  obtain ⟨i0, hi, hz0, hz1, hz2⟩ := info_parts info44
  go_enter Try.func20, Try.ntmps20
  go_wp2_with fail
  refine (join_calls _ _ _ _ _ hq hsm).mono ?_
  rintro e w1 ⟨rfl, hb⟩
  have h1 := h.below hb
  have hK1 : Keeps B m0 w w1 := Keeps.of_below hb h.base
  have hts := txt_size q.f q.n hsm
  have hlk := h1.map.look (txt q.f q.n) hts
  have hM : M (jn q.f q.n) = none := by
    rcases h.map with ⟨_, e, _⟩ | ⟨b, e, _⟩
    · exact e _
    · cases e
  rw [txt_list, hM] at hlk
  have x0 := h1.cell0
  have x1 := h1.cell1
  have hA := h1.below ((Below.refl _ _).alloc (Nat.le_refl _) (.map #[] 0))
  have y1 := hA.cell1
  have yf := hA.row.frozen 1
  obtain ⟨hS5, hK5⟩ := St.mapped h1
  have HS5 : Hid _ := hS5
  have HK5 : Hid _ := hK5
  clear hS5 hK5 h h1 hq hM hsm hb hA
  go_wp2_with fail
  have hS5 := HS5.out
  have hK6 := hK1.trans HK5.out
  clear HS5 HK5 hlk x0 x1 y1 yf hK1 hmm
  generalize (w1.alloc (.map #[] 0)).setCell ⟨s, 1, none⟩ (.map (some w1.heap.size)) = W at *
  generalize w1.heap.size = b at *
  have hmd : MapV W.drew (some b) 0 (fun _ => none) 0 := hS5.map
  obtain ⟨w2, hrun, hmap2, hg2⟩ := hmd.store (by unfold maxLen; omega) (txt q.f q.n) hts (L : Int) (WalkArith.wf_i64 (by omega))
  rw [txt_list] at hmap2
  simp only [Option.isSome_none, Bool.false_eq_true, if_false] at hmap2
  have hg2' : W.grownBy w2 (some b) := ⟨hg2.os, hg2.tape, hg2.output, hg2.size, hg2.block⟩
  have hsb : s ≠ b := ne_of_map hS5.map hS5.row
  have hrow2 : w2.rowIs s 46 2 (fields (.slice no L nc) (.map (some b))) := grown_cells hg2' hS5.row hsb
  have hown2 : w2.ownsRow B 44 1 (.slice no L nc) L (vals V L) := own_kept hS5.own (fun g c hc => hg2'.block g (Array.getElem?_eq_some_iff.1 hc).1 (fun e => by cases e; exact hS5.map.not_cells hc))
  have hBw2 : B ≤ w2.heap.size := Nat.le_trans hS5.base hg2'.size
  have c0 := hS5.cell0
  have c1 := hS5.cell1
  have c0' : w2.cell? ⟨s, 0, none⟩ = some (.slice no L nc) := hrow2.cell (by omega)
  have Hm : Hid (MapV w2 (some b) (0 + 1) (upd (fun _ => none) (jn q.f q.n) L) (0 + 1)) := hmap2
  have HST : Hid (St B m0 W s no L nc V (some b) 0 (fun _ => none) 0) := hS5
  clear hmd hmap2 hrow2 hts hS5
  generalize txt q.f q.n = T at *
  go_wp2_with fail
  go_region
  go_wp2_with (at_builtin; refine wpList_append_own _ rfl (.tmp 44) (.tmp 46) 43 rfl B 44 i0 (.slice none 0 0) 1 24 Try.underlying43 hi hz0 hz1 hz2 rfl (by decide) _ _ _ rfl (hown2.alloc _) ⟨w2.heap.size, 0, none⟩ 1 1 [.slice q.ao q.n q.c] rfl rfl (cell_one_new _ _ _) (by intro u hu; simp at hu; subst hu; rfl) (by unfold maxLen; omega) (by omega) (by simp; omega) ?_)
  intro v' w3 hown3 hgrow3 _
  obtain ⟨g', cap', hv'⟩ := own_succ hown3
  rw [hv'] at hown3 ⊢
  obtain ⟨hrow3, hst4, hk4⟩ := St.push HST.out hg2' Hm.out hown3 hgrow3
  have d0 := hrow3.cell (i := 0) (by omega)
  have d0f := hrow3.frozen 0
  have HS4 : Hid _ := hst4
  have HK4 : Hid _ := hk4
  clear hrow3 hst4 hk4 hgrow3 hown3 hv' hown2 hg2' hg2 hrun c0' Hm HST
  go_wp2
  go_ret
  exact ⟨by go_num, _, _, b, HS4.out, hK6.trans HK4.out⟩

theorem upd_nil {M : List UInt8 → Option Int} (h : ∀ t, M t = none) (t : List UInt8) (v : Int) : upd (fun _ => none) t v = upd M t v := by
  funext t'
  simp [upd, h]

/-- 'ZZSlot' of a name whose text has a number. -/
theorem zslot_hit (w : World) (q : Nm) (v : Int) (h : St B m0 w s no L nc V mo n M sz) (hq : Strs w q.ao q.n q.c q.f) (hsm : 8 * q.n + tot q.f q.n ≤ 1048576) (hM : M (jn q.f q.n) = some v) :
    Calls Try.prog 10 #[.pointer (some ⟨s, 0, none⟩), .slice q.ao q.n q.c] w fun e w' => e = .returned (.int .i64 v) ∧ Below w.heap.size w w' := by
  have H := slot_hit w q v h hq hsm hM
  have H' : Hid (Calls Try.prog 20 #[.pointer (some ⟨s, 0, none⟩), .slice q.ao q.n q.c] w fun e w' => e = .returned (.int .i64 v) ∧ Below w.heap.size w w') := H
  clear H h hq hsm hM
  go_enter Try.func10, Try.ntmps10
  go_wp2_with fail
  refine H'.out.mono ?_
  rintro e w' ⟨rfl, hb⟩
  go_wp2_with fail
  go_ret
  exact ⟨rfl, hb⟩

/-- 'slot' of a name whose text has no number, the map nil or not. -/
theorem slot_miss (w : World) (q : Nm) (h : St B m0 w s no L nc V mo n M sz) (hq : Strs w q.ao q.n q.c q.f) (hsm : 8 * q.n + tot q.f q.n ≤ 1048576) (hM : M (jn q.f q.n) = none) (hL : L ≤ 2097152) (hn : n ≤ 4194304) :
    Calls Try.prog 20 #[.pointer (some ⟨s, 0, none⟩), .slice q.ao q.n q.c] w fun e w' => e = .returned (.int .i64 L) ∧ ∃ no' nc' mo' n', n' ≤ n + 1 ∧ St B m0 w' s no' (L + 1) nc' (setNm V L q) mo' n' (upd M (jn q.f q.n) L) (sz + 1) ∧ Keeps B m0 w w' := by
  cases mo with
  | none =>
    have hall : (∀ t, M t = none) ∧ sz = 0 := by
      rcases h.map with ⟨_, e⟩ | ⟨b, e, _⟩
      · exact e
      · cases e
    refine (slot_miss_none w q h hq hsm hL).mono ?_
    rintro e w' ⟨rfl, no', nc', b, h1, h2⟩
    rw [upd_nil hall.1] at h1
    rw [hall.2]
    exact ⟨rfl, no', nc', some b, 1, by omega, h1, h2⟩
  | some b =>
    refine (slot_miss_some w b q h hq hsm hM hL hn).mono ?_
    rintro e w' ⟨rfl, no', nc', h1, h2⟩
    exact ⟨rfl, no', nc', some b, n + 1, Nat.le_refl _, h1, h2⟩

/-- What a call that gives q the next number leaves. -/
def Given (B : Nat) (m0 : Option Nat) (s L : Nat) (V : Nat → Nm) (n : Nat) (M : List UInt8 → Option Int) (sz : Nat) (q : Nm) (w w' : World) : Prop :=
  ∃ no' nc' mo' n', n' ≤ n + 1 ∧ St B m0 w' s no' (L + 1) nc' (setNm V L q) mo' n' (upd M (jn q.f q.n) L) (sz + 1) ∧ Keeps B m0 w w'

theorem zslot_miss (w : World) (q : Nm) (h : St B m0 w s no L nc V mo n M sz) (hq : Strs w q.ao q.n q.c q.f) (hsm : 8 * q.n + tot q.f q.n ≤ 1048576) (hM : M (jn q.f q.n) = none) (hL : L ≤ 2097152) (hn : n ≤ 4194304) :
    Calls Try.prog 10 #[.pointer (some ⟨s, 0, none⟩), .slice q.ao q.n q.c] w fun e w' => e = .returned (.int .i64 L) ∧ Given B m0 s L V n M sz q w w' := by
  have H' : Hid (Calls Try.prog 20 #[.pointer (some ⟨s, 0, none⟩), .slice q.ao q.n q.c] w fun e w' => e = .returned (.int .i64 L) ∧ Given B m0 s L V n M sz q w w') := slot_miss w q h hq hsm hM hL hn
  clear h hq hsm hM
  go_enter Try.func10, Try.ntmps10
  go_wp2_with fail
  refine H'.out.mono ?_
  rintro e w' ⟨rfl, hb⟩
  go_wp2_with fail
  go_ret
  exact ⟨rfl, hb⟩

/-! ### The readers -/
theorem nlen_calls (w : World) (h : St B m0 w s no L nc V mo n M sz) : Calls Try.prog 11 #[.pointer (some ⟨s, 0, none⟩)] w fun e w' => e = .returned (.int .i64 L) ∧ w' = w := by
  have c0 := h.cell0
  clear h
  go_enter Try.func11, Try.ntmps11
  go_wp2
  go_ret
  exact ⟨rfl, rfl⟩
theorem slen_calls (w : World) (h : St B m0 w s no L nc V mo n M sz) : Calls Try.prog 12 #[.pointer (some ⟨s, 0, none⟩)] w fun e w' => e = .returned (.int .i64 sz) ∧ w' = w := by
  have c1 := h.cell1
  have hl := h.map.len
  clear h
  go_enter Try.func12, Try.ntmps12
  go_wp2
  go_ret
  exact ⟨rfl, rfl⟩
theorem nat_calls (w : World) (i : Nat) (h : St B m0 w s no L nc V mo n M sz) (hi : i < L) (hL : L ≤ 4194304) : Calls Try.prog 14 #[.pointer (some ⟨s, 0, none⟩), .int .i64 i] w fun e w' => e = .returned (.slice (V i).ao (V i).n (V i).c) ∧ w' = w := by
  have c0 := h.cell0
  obtain ⟨g, rfl, hc⟩ := h.names (by omega)
  have c1 := hc i hi
  have hi' : (i : Int) < (L : Int) := by omega
  clear h hc
  go_enter Try.func14, Try.ntmps14
  go_wp2
  go_ret
  exact ⟨rfl, rfl⟩
theorem sof_calls (w : World) (T : ByteArray) (hT : T.size ≤ maxLen) (h : St B m0 w s no L nc V mo n M sz) : Calls Try.prog 15 #[.pointer (some ⟨s, 0, none⟩), .string T] w fun e w' => e = .returned (.tuple #[.int .i64 ((M T.data.toList).getD 0), .bool (M T.data.toList).isSome]) ∧ w' = w := by
  have c1 := h.cell1
  have hl := h.map.look T hT
  generalize (M T.data.toList).getD 0 = v at *
  generalize (M T.data.toList).isSome = b at *
  clear h
  go_enter Try.func15, Try.ntmps15
  go_wp2
  go_ret2
  exact ⟨rfl, rfl⟩
end
end Go.Proofs.Qxb6602799a
