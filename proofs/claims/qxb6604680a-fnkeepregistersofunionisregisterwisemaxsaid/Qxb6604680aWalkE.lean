/-
  SEAT b6604680a. The walk of zzUnion: what it hands back holds just the numbers of the two.
-/
import Derived.Test.Qxb6604680aWalkA
namespace Go.Proofs.Qxb6604680a
open Go.RowKit
set_option linter.unusedVariables false

/-- Just the first i of f and the first j of g stand in l. -/
def Both (f g : Nat → Int) (i j : Nat) (l : List Int) : Prop := ∀ x, x ∈ l ↔ (∃ p, p < i ∧ f p = x) ∨ (∃ p, p < j ∧ g p = x)
theorem both_nil (f g : Nat → Int) : Both f g 0 0 [] := fun x => by simp
theorem both_a {f g : Nat → Int} {i j : Nat} {l : List Int} (h : Both f g i j l) : Both f g (i + 1) j (l ++ [f i]) := by
  intro x
  simp only [List.mem_append, List.mem_singleton, h x]
  constructor
  · rintro ((⟨p, h1, h2⟩ | hb) | rfl)
    · exact .inl ⟨p, by omega, h2⟩
    · exact .inr hb
    · exact .inl ⟨i, by omega, rfl⟩
  · rintro (⟨p, h1, h2⟩ | hb)
    · by_cases e : p = i
      · subst e; exact .inr h2.symm
      · exact .inl (.inl ⟨p, by omega, h2⟩)
    · exact .inl (.inr hb)
theorem both_b {f g : Nat → Int} {i j : Nat} {l : List Int} (h : Both f g i j l) : Both f g i (j + 1) (l ++ [g j]) := by
  intro x
  simp only [List.mem_append, List.mem_singleton, h x]
  constructor
  · rintro ((ha | ⟨p, h1, h2⟩) | rfl)
    · exact .inl ha
    · exact .inr ⟨p, by omega, h2⟩
    · exact .inr ⟨j, by omega, rfl⟩
  · rintro (ha | ⟨p, h1, h2⟩)
    · exact .inl (.inl ha)
    · by_cases e : p = j
      · subst e; exact .inr h2.symm
      · exact .inl (.inr ⟨p, by omega, h2⟩)
theorem both_ab {f g : Nat → Int} {i j : Nat} {l : List Int} (h : Both f g i j l) (e : f i = g j) : Both f g (i + 1) (j + 1) (l ++ [f i]) := by
  intro x
  have h1 := both_b (both_a h) x
  rw [h1.symm]
  simp [e]

/-- What zzUnion holds at a round's head. -/
structure Un (w wr : World) (c : Nat) (f g : Nat → Int) (i j m : Nat) (l : List Int) : Prop where
  own : wr.ownsRow w.heap.size 29 1 (.slice (some ⟨w.heap.size, 0, none⟩) m c) m (l.map (Value.int .u64))
  len : l.length = m
  le : m ≤ i + j
  both : Both f g i j l
  bel : Below w.heap.size w wr

theorem un_mono {w wr w1 : World} {c : Nat} {f g : Nat → Int} {i j m : Nat} {l : List Int} (h : Un w wr c f g i j m l) (nq : Nat) (o : Obj) {x : Int} {i' j' : Nat}
    (hown : w1.ownsRow w.heap.size 29 1 (.slice (some ⟨w.heap.size, 0, none⟩) (m + 1) c) (m + 1) (l.map (Value.int .u64) ++ [.int .u64 x]))
    (hg : ((wr.drewN nq).alloc o).grownBy w1 (some w.heap.size)) (hle : i + j + 1 ≤ i' + j') (hb : Both f g i' j' (l ++ [x])) : Un w w1 c f g i' j' (m + 1) (l ++ [x]) := by
  refine ⟨by simpa using hown, by simp [h.len], by have := h.le; omega, hb, ?_⟩
  refine ((below_drewN h.bel nq).alloc (by simpa using h.bel.size) o).grown hg ?_ (fun k hk => by cases hk; exact Nat.le_refl _)
  have := h.bel.size
  simp; omega

set_option maxHeartbeats 3200000 in
set_option maxRecDepth 1000000 in
theorem union_calls (ao : Option Addr) (la ca : Nat) (f : Nat → Int) (bo : Option Addr) (lb cb : Nat) (g : Nat → Int) (w : World) (ha : Src w ao la f) (hb : Src w bo lb g) (hl : la + lb ≤ 1048576) :
    Calls Try.prog 13 #[.slice ao la ca, .slice bo lb cb] w fun e w' => ∃ (m : Nat) (l : List Int), e = .returned (.slice (some ⟨w.heap.size, 0, none⟩) m (la + lb)) ∧ Un w w' (la + lb) f g la lb m l := by
  obtain ⟨i0, hi, hz0, hz1, hz2⟩ := info_parts info29
  have sa := ha.cells
  have sb := hb.cells
  have ra := ha.rng
  have rb := hb.rng
  clear ha hb
  have SA : Hid _ := sa
  have SB : Hid _ := sb
  have RA : Hid _ := ra
  have RB : Hid _ := rb
  clear sa sb ra rb
  go_enter Try.func13, Try.ntmps13
  go_wp2_with (at_make; refine wpList_make_own _ rfl _ _ 22 rfl w.heap.size 29 i0 (.int .u64 0) 1 Try.underlying22 hi hz0 hz1 _ _ _ (la + lb) rfl rfl (by omega) ?b2 ?b3 (Nat.le_refl _) ?_)
  case b2 => rw [hz2]; omega
  case b3 => unfold maxLen; omega
  intro w0 hown0 hgrow0
  go_wp2
  go_loopw [5, 6, 7] (fun out si sj wr => ∃ (i j m : Nat) (l : List Int), i ≤ la ∧ j ≤ lb ∧ si = .int .i64 i ∧ sj = .int .i64 j ∧ out = .slice (some ⟨w.heap.size, 0, none⟩) m (la + lb) ∧ Un w wr (la + lb) f g i j m l)
    (fun _ si sj _ => (la - (intOf si).toNat) + (lb - (intOf sj).toNat))
  case atStart => exact ⟨0, 0, 0, [], Nat.zero_le _, Nat.zero_le _, rfl, rfl, rfl, hown0, rfl, Nat.le_refl _, both_nil f g, (Below.refl _ _).grown hgrow0 (Nat.le_refl _) (fun k h => by cases h)⟩
  case round =>
    obtain ⟨i, j, m, l, hil, hjl, rfl, rfl, rfl, hU⟩ := hrel
    have hown := hU.own
    have hm := hU.le
    have hN := hU.bel.size
    clear hown0 hgrow0
    by_cases hi' : (i : Int) < (la : Int)
    · obtain ⟨ba, oa, rfl, hba, hca⟩ := SA.out (by omega)
      have ca1 : wr.cell? ⟨ba, oa + i, none⟩ = some (.int .u64 (f i)) := (hU.bel.cell (by exact hba)).trans (hca i (by omega))
      obtain ⟨ra1, ra2⟩ := RA.out i
      by_cases hj' : (j : Int) < (lb : Int)
      · obtain ⟨bb, ob, rfl, hbb, hcb⟩ := SB.out (by omega)
        have cb1 : wr.cell? ⟨bb, ob + j, none⟩ = some (.int .u64 (g j)) := (hU.bel.cell (by exact hbb)).trans (hcb j (by omega))
        obtain ⟨rb1, rb2⟩ := RB.out j
        have hjd : decide (lb ≤ j) = false := by simp; omega
        have hid : decide (la ≤ i) = false := by simp; omega
        clear hca hcb
        have HU : Hid _ := hU
        clear hU
        by_cases hlt : f i < g j
        · clear SA SB RA RB 
          go_wp2_with fail
          go_quiet (fail)
          have HOWN : (wr.drewN nq).ownsRow w.heap.size 29 1 (.slice (some ⟨w.heap.size, 0, none⟩) m (la + lb)) m (l.map (Value.int .u64)) := hown
          clear hown
          go_wp2_with (at_builtin; refine wpList_append_fits _ rfl (.tmp 45) (.tmp 50) 22 rfl w.heap.size 29 i0 1 Try.underlying22 hi hz1 w.heap.size m (la + lb) _ rfl (HOWN.alloc _) ⟨wr.heap.size, 0, none⟩ 1 1 [.int .u64 (f i)] rfl rfl (cell_one_new (wr.drewN nq) _ _) (by intro u hu; simp at hu; subst hu; rfl) (by omega) ?_; intro w1 hown1 hgrow1)
          go_roundw
          case rel => exact ⟨i + 1, j, m + 1, l ++ [f i], by omega, by omega, by go_num, by go_num, rfl, un_mono HU.out _ _ hown1 hgrow1 (by omega) (both_a HU.out.both)⟩
          case measure => simp [intOf]; omega
        · have hltd : decide (f i < g j) = false := by simp; omega
          by_cases hgt : g j < f i
          · clear SA SB RA RB 
            go_wp2_with fail
            go_quiet (fail)
            go_wp2_with fail
            go_quiet (fail)
            simp only [World.drewN_drewN]
            rename_i n1 _ n2
            have HOWN : (wr.drewN (n1 + nq)).ownsRow w.heap.size 29 1 (.slice (some ⟨w.heap.size, 0, none⟩) m (la + lb)) m (l.map (Value.int .u64)) := hown
            clear hown
            go_wp2_with (at_builtin; refine wpList_append_fits _ rfl (.tmp 69) (.tmp 74) 22 rfl w.heap.size 29 i0 1 Try.underlying22 hi hz1 w.heap.size m (la + lb) _ rfl (HOWN.alloc _) ⟨wr.heap.size, 0, none⟩ 1 1 [.int .u64 (g j)] rfl rfl (cell_one_new (wr.drewN (n1 + nq)) _ _) (by intro u hu; simp at hu; subst hu; rfl) (by omega) ?_; intro w1 hown1 hgrow1)
            go_roundw
            case rel => exact ⟨i, j + 1, m + 1, l ++ [g j], by omega, by omega, by go_num, by go_num, rfl, un_mono HU.out _ _ hown1 hgrow1 (by omega) (both_b HU.out.both)⟩
            case measure => simp [intOf]; omega
          · have hgtd : decide (g j < f i) = false := by simp; omega
            clear SA SB RA RB 
            go_wp2_with fail
            go_quiet (fail)
            go_wp2_with fail
            go_quiet (fail)
            simp only [World.drewN_drewN]
            rename_i n1 _ n2
            have HOWN : (wr.drewN (n1 + nq)).ownsRow w.heap.size 29 1 (.slice (some ⟨w.heap.size, 0, none⟩) m (la + lb)) m (l.map (Value.int .u64)) := hown
            clear hown
            go_wp2_with (at_builtin; refine wpList_append_fits _ rfl (.tmp 78) (.tmp 83) 22 rfl w.heap.size 29 i0 1 Try.underlying22 hi hz1 w.heap.size m (la + lb) _ rfl (HOWN.alloc _) ⟨wr.heap.size, 0, none⟩ 1 1 [.int .u64 (f i)] rfl rfl (cell_one_new (wr.drewN (n1 + nq)) _ _) (by intro u hu; simp at hu; subst hu; rfl) (by omega) ?_; intro w1 hown1 hgrow1)
            go_roundw
            case rel => exact ⟨i + 1, j + 1, m + 1, l ++ [f i], by omega, by omega, by go_num, by go_num, rfl, un_mono HU.out _ _ hown1 hgrow1 (by omega) (both_ab HU.out.both (by omega))⟩
            case measure => simp [intOf]; omega
      · have hjd : decide (lb ≤ j) = true := by simp; omega
        have hid : decide (la ≤ i) = false := by simp; omega
        have HU : Hid _ := hU
        clear hU hca
        clear SA SB RA RB 
        go_wp2_with fail
        go_quiet (fail)
        have HOWN : (wr.drewN nq).ownsRow w.heap.size 29 1 (.slice (some ⟨w.heap.size, 0, none⟩) m (la + lb)) m (l.map (Value.int .u64)) := hown
        clear hown
        go_wp2_with (at_builtin; refine wpList_append_fits _ rfl (.tmp 45) (.tmp 50) 22 rfl w.heap.size 29 i0 1 Try.underlying22 hi hz1 w.heap.size m (la + lb) _ rfl (HOWN.alloc _) ⟨wr.heap.size, 0, none⟩ 1 1 [.int .u64 (f i)] rfl rfl (cell_one_new (wr.drewN nq) _ _) (by intro u hu; simp at hu; subst hu; rfl) (by omega) ?_; intro w1 hown1 hgrow1)
        go_roundw
        case rel => exact ⟨i + 1, j, m + 1, l ++ [f i], by omega, by omega, by go_num, by go_num, rfl, un_mono HU.out _ _ hown1 hgrow1 (by omega) (both_a HU.out.both)⟩
        case measure => simp [intOf]; omega
    · by_cases hj' : (j : Int) < (lb : Int)
      · obtain ⟨bb, ob, rfl, hbb, hcb⟩ := SB.out (by omega)
        have cb1 : wr.cell? ⟨bb, ob + j, none⟩ = some (.int .u64 (g j)) := (hU.bel.cell (by exact hbb)).trans (hcb j (by omega))
        obtain ⟨rb1, rb2⟩ := RB.out j
        have hjd : decide (lb ≤ j) = false := by simp; omega
        have hid : decide (la ≤ i) = true := by simp; omega
        have hil2 : decide (i < la) = false := by simp; omega
        have HU : Hid _ := hU
        clear hU hcb
        clear SA SB RA RB 
        go_wp2_with fail
        go_quiet (fail)
        go_wp2_with fail
        go_quiet (fail)
        simp only [World.drewN_drewN]
        rename_i n1 _ n2
        have HOWN : (wr.drewN (n1 + nq)).ownsRow w.heap.size 29 1 (.slice (some ⟨w.heap.size, 0, none⟩) m (la + lb)) m (l.map (Value.int .u64)) := hown
        clear hown
        go_wp2_with (at_builtin; refine wpList_append_fits _ rfl (.tmp 69) (.tmp 74) 22 rfl w.heap.size 29 i0 1 Try.underlying22 hi hz1 w.heap.size m (la + lb) _ rfl (HOWN.alloc _) ⟨wr.heap.size, 0, none⟩ 1 1 [.int .u64 (g j)] rfl rfl (cell_one_new (wr.drewN (n1 + nq)) _ _) (by intro u hu; simp at hu; subst hu; rfl) (by omega) ?_; intro w1 hown1 hgrow1)
        go_roundw
        case rel => exact ⟨i, j + 1, m + 1, l ++ [g j], by omega, by omega, by go_num, by go_num, rfl, un_mono HU.out _ _ hown1 hgrow1 (by omega) (both_b HU.out.both)⟩
        case measure => simp [intOf]; omega
      · have hei : i = la := by omega
        have hej : j = lb := by omega
        subst hei hej
        clear SA SB RA RB
        go_wp2_with fail
        go_ret
        exact ⟨m, rfl, l, hU⟩
end Go.Proofs.Qxb6604680a
