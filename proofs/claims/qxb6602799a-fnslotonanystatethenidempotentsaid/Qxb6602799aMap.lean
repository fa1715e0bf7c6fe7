/-
  SEAT b6602799a. A map from string to int as a function, and the state of a userSlots. No walk stands here.
-/
import Derived.Test.Qxb6602799aNames
import Derived.Maps.OwnSet
namespace Go.Proofs.Qxb6602799a
open Go.RowKit Go.Maps Go.WideMaps
set_option linter.unusedVariables false

theorem keyLaw : Keyed Try.prog 9 := string_keyed Try.underlying9
theorem zero3 (w : World) : (zeroValue 3).run Try.prog w = .ok (.int .i64 0) w := by kernel_rfl

/-- THE MAP THAT 'mo' LEADS TO (none: a nil map) HOLDS JUST 'M'; it has sz entries. -/
def MapV (w : World) (mo : Option Nat) (n : Nat) (M : List UInt8 → Option Int) (sz : Nat) : Prop :=
  (mo = none ∧ (∀ t, M t = none) ∧ sz = 0) ∨
  ∃ b, mo = some b ∧ ∃ D : DataW Unit, w.ownsMap Try.prog 9 (plainElem Try.prog 3) b n D ∧ Maps.size D = sz ∧ ∀ t, Maps.has D (.string t) = (M t).isSome ∧ ∀ v, M t = some v → D.atKey (.string t) (.lit (.int .i64 0)) = .lit (.int .i64 v)

def upd (M : List UInt8 → Option Int) (t : List UInt8) (v : Int) : List UInt8 → Option Int := fun t' => if t' = t then some v else M t'

theorem MapV.of_block {w w' : World} {mo : Option Nat} {n : Nat} {M : List UInt8 → Option Int} {sz : Nat} (h : MapV w mo n M sz) (hb : ∀ b, mo = some b → w'.heap[b]? = w.heap[b]?) : MapV w' mo n M sz := by
  rcases h with h | ⟨b, rfl, D, ⟨es, clock, h1, h2⟩, h3⟩
  · exact .inl h
  · exact .inr ⟨b, rfl, D, ⟨es, clock, (hb b rfl).trans h1, h2⟩, h3⟩
theorem MapV.lt {w : World} {b n : Nat} {M : List UInt8 → Option Int} {sz : Nat} (h : MapV w (some b) n M sz) : b < w.heap.size := by
  rcases h with ⟨h, _⟩ | ⟨b', e, D, h, _⟩
  · cases h
  · cases e; exact h.lt
/-- A map's block is no row of cells. -/
theorem MapV.not_cells {w : World} {b n : Nat} {M : List UInt8 → Option Int} {sz : Nat} (h : MapV w (some b) n M sz) {c : Array Value} {t : TypeId} {fr : Nat × Nat} (hc : w.heap[b]? = some (.cells c t fr)) : False := by
  rcases h with ⟨h, _⟩ | ⟨b', e, D, ⟨es, clock, h1, _⟩, _⟩
  · cases h
  · cases e; rw [h1] at hc; cases hc

theorem MapV.look {w : World} {mo : Option Nat} {n : Nat} {M : List UInt8 → Option Int} {sz : Nat} (h : MapV w mo n M sz) (s : ByteArray) (hs : s.size ≤ maxLen) :
    (Instr.lookup 41 (.map mo) (.string s) true).run Try.prog w = .ok (.tuple #[.int .i64 ((M s.data.toList).getD 0), .bool (M s.data.toList).isSome]) w := by
  have hkey := keyOf_string_mk Try.underlying9 hs
  rcases h with ⟨rfl, h, _⟩ | ⟨b, rfl, D, hown, _, hM⟩
  · rw [Maps.look_nil (w := w) true keyLaw Try.underlying41 (zero3 w) hkey, h]
    rfl
  · obtain ⟨v, ps, hrun, hv⟩ := hown.look_ok keyLaw Try.underlying41 (zero3 w) (plainElem_int Try.underlying3 (by decide)) hkey
    obtain ⟨a, rfl, hz, _⟩ := plainElem_int_inv Try.underlying3 hv
    have hat : D.atKey (.string s.data.toList) (.lit (.int .i64 0)) = .lit (.int .i64 a) := (congrArg Prod.fst hz)
    rw [hrun, (hM s.data.toList).1]
    cases hm : M s.data.toList with
    | none =>
      have hh := (hM s.data.toList).1
      rw [hm] at hh
      rw [atKey_of_not_has hh] at hat
      cases hat
      rfl
    | some x =>
      have := (hM s.data.toList).2 x hm
      rw [hat] at this
      cases this
      rfl
theorem MapV.look1 {w : World} {mo : Option Nat} {n : Nat} {M : List UInt8 → Option Int} {sz : Nat} (h : MapV w mo n M sz) (s : ByteArray) (hs : s.size ≤ maxLen) :
    (Instr.lookup 41 (.map mo) (.string s) false).run Try.prog w = .ok (.int .i64 ((M s.data.toList).getD 0)) w := by
  have hkey := keyOf_string_mk Try.underlying9 hs
  rcases h with ⟨rfl, h, _⟩ | ⟨b, rfl, D, hown, _, hM⟩
  · rw [Maps.look_nil (w := w) false keyLaw Try.underlying41 (zero3 w) hkey, h]
    rfl
  · obtain ⟨a, hrun, hat, _⟩ := hown.lookup_int keyLaw Try.underlying41 Try.underlying3 (zero3 w) hkey
    rw [hrun]
    cases hm : M s.data.toList with
    | none =>
      have hh := (hM s.data.toList).1
      rw [hm] at hh
      rw [atKey_of_not_has hh] at hat
      cases hat
      rfl
    | some x =>
      have := (hM s.data.toList).2 x hm
      rw [hat] at this
      cases this
      rfl
theorem MapV.len {w : World} {mo : Option Nat} {n : Nat} {M : List UInt8 → Option Int} {sz : Nat} (h : MapV w mo n M sz) (ty : TypeId) : (Builtin.len_ #[41] ty #[.map mo]).run Try.prog w = .ok (.int .i64 sz) w := by
  rcases h with ⟨rfl, _, rfl⟩ | ⟨b, rfl, D, hown, rfl, _⟩
  · exact Maps.len_nil Try.underlying41 ty
  · exact hown.len Try.underlying41 ty
theorem MapV.size_le {w : World} {mo : Option Nat} {n : Nat} {M : List UInt8 → Option Int} {sz : Nat} (h : MapV w mo n M sz) : sz ≤ n := by
  rcases h with ⟨_, _, rfl⟩ | ⟨b, _, D, hown, rfl, _⟩
  · exact Nat.zero_le _
  · exact hown.size_le
theorem MapV.made (w : World) : MapV (w.alloc (.map #[] 0)) (some w.heap.size) 0 (fun _ => none) 0 :=
  .inr ⟨_, rfl, .map [], World.ownsMap_made w _ _ _, rfl, fun t => ⟨rfl, fun v h => by cases h⟩⟩
theorem MapV.store {w : World} {b n : Nat} {M : List UInt8 → Option Int} {sz : Nat} (h : MapV w (some b) n M sz) (hn : n < maxLen) (s : ByteArray) (hs : s.size ≤ maxLen) (v : Int) (hv : (Lit.int .i64 v).wf = true) :
    ∃ w', (Instr.mapUpdate 41 (.map (some b)) (.string s) (.int .i64 v)).run Try.prog w = .ok () w' ∧ MapV w' (some b) (n + 1) (upd M s.data.toList v) (if (M s.data.toList).isSome then sz else sz + 1) ∧ w.grownBy w' (some b) := by
  have hkey := keyOf_string_mk Try.underlying9 hs
  rcases h with ⟨h, _⟩ | ⟨b', e, D, hown, hsz, hM⟩
  · cases h
  · cases e
    obtain ⟨w', hrun, hown', hg⟩ := hown.update keyLaw Try.underlying41 hn hkey (plainElem_int Try.underlying3 hv)
    refine ⟨w', hrun, .inr ⟨b, rfl, _, hown', ?_, fun t => ?_⟩, hg⟩
    · rw [size_put (hown.tidy keyLaw), (hM s.data.toList).1, hsz]
    · unfold upd
      by_cases e : t = s.data.toList
      · rw [if_pos e, e]
        refine ⟨has_put_same hown.isMap (show WideAt.IsKeyLit (.string s.data.toList) from trivial) _, fun v' h => ?_⟩
        cases h
        exact atKey_put_same hown.isMap (show WideAt.IsKeyLit (.string s.data.toList) from trivial) _ _
      · rw [if_neg e]
        have hne : (Lit.string t) ≠ (Lit.string s.data.toList) := fun h => e (by injection h)
        rw [has_put_other hne, atKey_put_other hne]
        exact hM t

/-! ### The state of a userSlots -/
def fields (x y : Value) : Nat → Value := fun j => if j = 0 then x else y
/-- The values of the first L names. -/
def vals (V : Nat → Nm) (L : Nat) : List Value := (List.range L).map (fun i => .slice (V i).ao (V i).n (V i).c)
def setNm (V : Nat → Nm) (L : Nat) (q : Nm) : Nat → Nm := fun i => if i = L then q else V i
theorem vals_snoc (V : Nat → Nm) (L : Nat) (q : Nm) : vals V L ++ [.slice q.ao q.n q.c] = vals (setNm V L q) (L + 1) := by
  unfold vals
  rw [List.range_succ, List.map_append]
  congr 1
  · exact List.map_congr_left (fun i hi => by simp [setNm, show i ≠ L from by have := List.mem_range.1 hi; omega])
  · simp [setNm]

/-- THE STATE: its block s; its names, in a row from block B on; its map, at 'm0' or from block B on. -/
structure St (B : Nat) (m0 : Option Nat) (w : World) (s : Nat) (no : Option Addr) (L nc : Nat) (V : Nat → Nm) (mo : Option Nat) (n : Nat) (M : List UInt8 → Option Int) (sz : Nat) : Prop where
  hs : B ≤ s
  row : w.rowIs s 46 2 (fields (.slice no L nc) (.map mo))
  own : w.ownsRow B 44 1 (.slice no L nc) L (vals V L)
  map : MapV w mo n M sz
  loc : ∀ b, mo = some b → some b = m0 ∨ B ≤ b

/-- What lies below B, the map at m0 aside, is as it was. -/
structure Keeps (B : Nat) (m0 : Option Nat) (w w' : World) : Prop where
  os : w'.os = w.os
  tape : w'.tape = w.tape
  output : w'.output = w.output
  size : w.heap.size ≤ w'.heap.size
  block : ∀ k, k < B → some k ≠ m0 → w'.heap[k]? = w.heap[k]?

theorem Keeps.refl (B : Nat) (m0 : Option Nat) (w : World) : Keeps B m0 w w := ⟨rfl, rfl, rfl, Nat.le_refl _, fun _ _ _ => rfl⟩
theorem Keeps.trans {B : Nat} {m0 : Option Nat} {a b c : World} (h : Keeps B m0 a b) (k : Keeps B m0 b c) : Keeps B m0 a c :=
  ⟨k.os.trans h.os, k.tape.trans h.tape, k.output.trans h.output, Nat.le_trans h.size k.size, fun i hi hn => (k.block i hi hn).trans (h.block i hi hn)⟩
theorem Keeps.of_below {B : Nat} {m0 : Option Nat} {w w' : World} (h : Below w.heap.size w w') (hB : B ≤ w.heap.size) : Keeps B m0 w w' := ⟨h.os, h.tape, h.output, h.size, fun k hk _ => h.block k (by omega)⟩
theorem Keeps.cell {B : Nat} {m0 : Option Nat} {w w' : World} (h : Keeps B m0 w w') {p : Addr} (hp : p.block < B) (hm : some p.block ≠ m0) : w'.cell? p = w.cell? p := World.cell?_of_block (w := w) (h.block p.block hp hm)
theorem Keeps.drewN {B : Nat} {m0 : Option Nat} {w w' : World} (h : Keeps B m0 w w') (n : Nat) : Keeps B m0 w (w'.drewN n) := ⟨h.os, h.tape, h.output, h.size, h.block⟩
/-- Where the map lies from B on too: all that lies below B is as it was. -/
theorem Keeps.below {B : Nat} {w w' : World} (h : Keeps B none w w') : Below B w w' := ⟨h.os, h.tape, h.output, h.size, fun k hk => h.block k hk (by simp)⟩

theorem St.cell0 {B : Nat} {m0 : Option Nat} {w : World} {s : Nat} {no : Option Addr} {L nc : Nat} {V : Nat → Nm} {mo : Option Nat} {n : Nat} {M : List UInt8 → Option Int} {sz : Nat} (h : St B m0 w s no L nc V mo n M sz) : w.cell? ⟨s, 0, none⟩ = some (.slice no L nc) := h.row.cell (by omega)
theorem St.cell1 {B : Nat} {m0 : Option Nat} {w : World} {s : Nat} {no : Option Addr} {L nc : Nat} {V : Nat → Nm} {mo : Option Nat} {n : Nat} {M : List UInt8 → Option Int} {sz : Nat} (h : St B m0 w s no L nc V mo n M sz) : w.cell? ⟨s, 1, none⟩ = some (.map mo) := h.row.cell (by omega)
theorem St.base {B : Nat} {m0 : Option Nat} {w : World} {s : Nat} {no : Option Addr} {L nc : Nat} {V : Nat → Nm} {mo : Option Nat} {n : Nat} {M : List UInt8 → Option Int} {sz : Nat} (h : St B m0 w s no L nc V mo n M sz) : B ≤ w.heap.size := Nat.le_of_lt (Nat.lt_of_le_of_lt h.hs h.row.lt)

/-- New blocks and draws alone: the state stands. -/
theorem St.below {B : Nat} {m0 : Option Nat} {w w' : World} {s : Nat} {no : Option Addr} {L nc : Nat} {V : Nat → Nm} {mo : Option Nat} {n : Nat} {M : List UInt8 → Option Int} {sz : Nat} (h : St B m0 w s no L nc V mo n M sz) (hb : Below w.heap.size w w') : St B m0 w' s no L nc V mo n M sz := by
  refine ⟨h.hs, h.row.of_block (hb.block _ h.row.lt), ?_, h.map.of_block (fun b e => hb.block b (by have := h.map; rw [e] at this; exact this.lt)), h.loc⟩
  obtain ⟨h1, h2⟩ := h.own
  refine ⟨h1, ?_⟩
  rcases h2 with h2 | ⟨g, cap, cur, hv, hg, hh, r⟩
  · exact .inl h2
  · exact .inr ⟨g, cap, cur, hv, hg, (hb.block g (Array.getElem?_eq_some_iff.1 hh).1).trans hh, r⟩

/-- The names' row. -/
theorem St.names {B : Nat} {m0 : Option Nat} {w : World} {s : Nat} {no : Option Addr} {L nc : Nat} {V : Nat → Nm} {mo : Option Nat} {n : Nat} {M : List UInt8 → Option Int} {sz : Nat} (h : St B m0 w s no L nc V mo n M sz) (hL : 0 < L) :
    ∃ g, no = some ⟨g, 0, none⟩ ∧ ∀ i, i < L → w.cell? ⟨g, i, none⟩ = some (.slice (V i).ao (V i).n (V i).c) := by
  rcases h.own.2 with ⟨_, e⟩ | ⟨g, cap, cur, hv, _⟩
  · omega
  · cases hv
    refine ⟨g, rfl, fun i hi => ?_⟩
    rw [h.own.cellAt i (by omega)]
    simp [vals, hi]
end Go.Proofs.Qxb6602799a
