/-
  What the walks of this seat share: a slice as a function of its index; instances (six cells each); a map of hosts as a function of its key; closed facts of the dump.
-/
import Derived.Test.Qxb6603233aRows
import Derived.WalkSpells
import Derived.WalkLawsBesides
import Derived.Deep.OwnRows
import Derived.Maps.Views
import Derived.StringKeys
namespace Go.Proofs.Qxb6603233a
open Go.RowKit Go.Maps

theorem unhid {p : Prop} (h : Hid p) : p := h

theorem lt_of_cell {w : World} {b o : Nat} {v : Value} (h : w.cell? ⟨b, o, none⟩ = some v) : b < w.heap.size := by
  have := block_lt_of_cell h
  simpa using this

/-- The slice value '.slice a n cap' leads to the n values f 0 .. f (n-1), in a block from 'base' on. -/
def Row (w : World) (base : Nat) (a : Option Addr) (n : Nat) (f : Nat → Value) : Prop :=
  0 < n → ∃ b off, a = some ⟨b, off, none⟩ ∧ base ≤ b ∧ ∀ i, i < n → w.cell? ⟨b, off + i, none⟩ = some (f i)

/-- All that lies from 'base' on in w lies so in w'. -/
def Kept (base : Nat) (w w' : World) : Prop := ∀ b, base ≤ b → b < w.heap.size → w'.heap[b]? = w.heap[b]?

theorem Kept.of_below {base : Nat} {w w' : World} (h : Below w.heap.size w w') : Kept base w w' := fun b _ hb => h.block b hb
theorem Kept.of_grown {base : Nat} {w w' : World} {r : Nat} (h : w.grownBy w' (some r)) (hr : r < base) : Kept base w w' := fun b hb hl => h.block b hl (fun e => by cases e; omega)
theorem Kept.setCell {base : Nat} (w : World) {p : Addr} (hp : p.block < base) (v : Value) : Kept base w (w.setCell p v) := fun b hb _ => Below.heap_setCell w p v b (by omega)
theorem Kept.mono {base base' : Nat} {w w' : World} (h : Kept base w w') (hb : base ≤ base') : Kept base' w w' := fun b h1 h2 => h b (by omega) h2
theorem Kept.cell {base : Nat} {w w' : World} (h : Kept base w w') {b o : Nat} {v : Value} (hb : base ≤ b) (hc : w.cell? ⟨b, o, none⟩ = some v) : w'.cell? ⟨b, o, none⟩ = some v :=
  (World.cell?_of_block (w := w) (h b hb (lt_of_cell hc))).trans hc
theorem Kept.trans {base : Nat} {w w' w'' : World} (h : Kept base w w') (k : Kept base w' w'') (hs : w.heap.size ≤ w'.heap.size) : Kept base w w'' := fun b h1 h2 => (k b h1 (by omega)).trans (h b h1 h2)

theorem Row.kept {w w' : World} {base : Nat} {a : Option Addr} {n : Nat} {f : Nat → Value} (h : Row w base a n f) (hk : Kept base w w') : Row w' base a n f := by
  intro hn
  obtain ⟨b, off, rfl, hb, hc⟩ := h hn
  exact ⟨b, off, rfl, hb, fun i hi => hk.cell hb (hc i hi)⟩

theorem Row.below {w w' : World} {base : Nat} {a : Option Addr} {n : Nat} {f : Nat → Value} (h : Row w base a n f) (hb : Below w.heap.size w w') : Row w' base a n f := h.kept (.of_below hb)

theorem Row.mono {w : World} {base base' : Nat} {a : Option Addr} {n : Nat} {f : Nat → Value} (h : Row w base a n f) (hb : base' ≤ base) : Row w base' a n f := by
  intro hn
  obtain ⟨b, off, e, hb', hc⟩ := h hn
  exact ⟨b, off, e, by omega, hc⟩

theorem Row.nil {w : World} {base : Nat} {n : Nat} {f : Nat → Value} (h : Row w base none n f) : n = 0 := by
  apply Classical.byContradiction; intro hh
  obtain ⟨b, off, hx, _⟩ := h (by omega)
  cases hx

def strs (S : Nat → ByteArray) (i : Nat) : Value := .string (S i)
def bools (Z : Nat → Bool) (i : Nat) : Value := .bool (Z i)
def slcs (A : Nat → Option Addr) (M C : Nat → Nat) (i : Nat) : Value := .slice (A i) (M i) (C i)

/-- A slice of slices of strings. -/
structure Nest (w : World) (base : Nat) (a : Option Addr) (n : Nat) (A : Nat → Option Addr) (M C : Nat → Nat) (U : Nat → Nat → ByteArray) : Prop where
  row : Row w base a n (slcs A M C)
  inner : ∀ i, i < n → Row w base (A i) (M i) (strs (U i))

theorem Nest.kept {w w' : World} {base : Nat} {a : Option Addr} {n : Nat} {A : Nat → Option Addr} {M C : Nat → Nat} {U : Nat → Nat → ByteArray} (h : Nest w base a n A M C U) (hk : Kept base w w') : Nest w' base a n A M C U :=
  ⟨h.row.kept hk, fun i hi => (h.inner i hi).kept hk⟩
theorem Nest.below {w w' : World} {base : Nat} {a : Option Addr} {n : Nat} {A : Nat → Option Addr} {M C : Nat → Nat} {U : Nat → Nat → ByteArray} (h : Nest w base a n A M C U) (hk : Below w.heap.size w w') : Nest w' base a n A M C U := h.kept (.of_below hk)
theorem Nest.mono {w : World} {base base' : Nat} {a : Option Addr} {n : Nat} {A : Nat → Option Addr} {M C : Nat → Nat} {U : Nat → Nat → ByteArray} (h : Nest w base a n A M C U) (hb : base' ≤ base) : Nest w base' a n A M C U :=
  ⟨h.row.mono hb, fun i hi => (h.inner i hi).mono hb⟩

/-! ### Instances: six cells each -/

def IsInst (w : World) (b o : Nat) (u : ByteArray) : Prop :=
  w.cell? ⟨b, o, none⟩ = some (.string u) ∧ w.cell? ⟨b, o + 1, none⟩ = some (.string ByteArray.empty) ∧ w.cell? ⟨b, o + 2, none⟩ = some (.string ByteArray.empty) ∧
  w.cell? ⟨b, o + 3, none⟩ = some (.int .i64 0) ∧ w.cell? ⟨b, o + 4, none⟩ = some (.int .i64 0) ∧ w.cell? ⟨b, o + 5, none⟩ = some (.int .i64 0)

def Insts (w : World) (base : Nat) (a : Option Addr) (n : Nat) (U : Nat → ByteArray) : Prop :=
  0 < n → ∃ b off, a = some ⟨b, off, none⟩ ∧ base ≤ b ∧ ∀ i, i < n → IsInst w b (off + i * 6) (U i)

theorem Insts.kept {w w' : World} {base : Nat} {a : Option Addr} {n : Nat} {U : Nat → ByteArray} (h : Insts w base a n U) (hk : Kept base w w') : Insts w' base a n U := by
  intro hn
  obtain ⟨b, off, rfl, hb, hc⟩ := h hn
  refine ⟨b, off, rfl, hb, fun i hi => ?_⟩
  obtain ⟨c0, c1, c2, c3, c4, c5⟩ := hc i hi
  exact ⟨hk.cell hb c0, hk.cell hb c1, hk.cell hb c2, hk.cell hb c3, hk.cell hb c4, hk.cell hb c5⟩

/-- The cells of the row of instances, the first k filled. -/
def ic (U : Nat → ByteArray) (k j : Nat) : Value :=
  if j % 6 = 0 then (if j < k * 6 then .string (U (j / 6)) else .string ByteArray.empty) else if j % 6 < 3 then .string ByteArray.empty else .int .i64 0

def z54 : Array Value := #[.string ByteArray.empty, .string ByteArray.empty, .string ByteArray.empty, .int .i64 0, .int .i64 0, .int .i64 0]

theorem z54_at (m i : Nat) (h : i < m) : (madeCells z54 m)[i]? = some (if i % 6 < 3 then .string ByteArray.empty else .int .i64 0) := by
  simp only [madeCells]
  rw [Array.getElem?_map, Array.getElem?_range]
  simp only [h, if_true, Option.map_some, Option.some.injEq]
  have hs : z54.size = 6 := rfl
  rw [hs]
  have : i % 6 = 0 ∨ i % 6 = 1 ∨ i % 6 = 2 ∨ i % 6 = 3 ∨ i % 6 = 4 ∨ i % 6 = 5 := by omega
  rcases this with e | e | e | e | e | e <;> rw [e] <;> rfl

theorem ic_made (w : World) (n : Nat) (t : TypeId) (U : Nat → ByteArray) : (w.alloc (.cells (madeCells z54 (n * 6)) t)).rowIs w.heap.size t (n * 6) (ic U 0) := by
  have := World.rowIs_alloc w (madeCells z54 (n * 6)) t (ic U 0) (fun i hi => by
    rw [size_madeCells] at hi
    rw [z54_at _ _ hi]
    unfold ic
    by_cases e : i % 6 = 0
    · rw [if_pos e, if_neg (show ¬ i < 0 * 6 by omega), if_pos (show i % 6 < 3 by omega)]
    · rw [if_neg e])
  rwa [size_madeCells] at this

theorem ic_set {w : World} {b : Nat} {t : TypeId} {n k : Nat} {U : Nat → ByteArray} (h : w.rowIs b t (n * 6) (ic U k)) :
    ((((((w.setCell ⟨b, k * 6, none⟩ (.string (U k))).setCell ⟨b, k * 6 + 1, none⟩ (.string ByteArray.empty)).setCell ⟨b, k * 6 + 2, none⟩ (.string ByteArray.empty)).setCell ⟨b, k * 6 + 3, none⟩ (.int .i64 0)).setCell ⟨b, k * 6 + 4, none⟩ (.int .i64 0)).setCell ⟨b, k * 6 + 5, none⟩ (.int .i64 0)).rowIs b t (n * 6) (ic U (k + 1)) := by
  refine ((((((h.set (k * 6) _).set (k * 6 + 1) _).set (k * 6 + 2) _).set (k * 6 + 3) _).set (k * 6 + 4) _).set (k * 6 + 5) _).congr fun i hi => ?_
  unfold ic
  by_cases e5 : i = k * 6 + 5
  · rw [if_pos e5, if_neg (by omega), if_neg (by omega)]
  rw [if_neg e5]
  by_cases e4 : i = k * 6 + 4
  · rw [if_pos e4, if_neg (by omega), if_neg (by omega)]
  rw [if_neg e4]
  by_cases e3 : i = k * 6 + 3
  · rw [if_pos e3, if_neg (by omega), if_neg (by omega)]
  rw [if_neg e3]
  by_cases e2 : i = k * 6 + 2
  · rw [if_pos e2, if_neg (by omega), if_pos (by omega)]
  rw [if_neg e2]
  by_cases e1 : i = k * 6 + 1
  · rw [if_pos e1, if_neg (by omega), if_pos (by omega)]
  rw [if_neg e1]
  by_cases e0 : i = k * 6
  · rw [if_pos e0, if_pos (by omega), if_pos (by omega), show i / 6 = k from by omega]
  rw [if_neg e0]
  by_cases m : i % 6 = 0
  · rw [if_pos m, if_pos m]
    by_cases l : i < k * 6
    · rw [if_pos l, if_pos (by omega)]
    · rw [if_neg l, if_neg (by omega)]
  · rw [if_neg m, if_neg m]

theorem ic_insts {w : World} {b : Nat} {t : TypeId} {n : Nat} {U : Nat → ByteArray} {base : Nat} (hb : base ≤ b) (h : w.rowIs b t (n * 6) (ic U n)) : Insts w base (some ⟨b, 0, none⟩) n U := by
  intro _
  refine ⟨b, 0, rfl, hb, fun i hi => ?_⟩
  rw [Nat.zero_add]
  refine ⟨?_, ?_, ?_, ?_, ?_, ?_⟩
  · rw [h.cell (by omega)]; unfold ic; rw [if_pos (by omega), if_pos (by omega), show i * 6 / 6 = i from by omega]
  · rw [h.cell (by omega)]; unfold ic; rw [if_neg (by omega), if_pos (by omega)]
  · rw [h.cell (by omega)]; unfold ic; rw [if_neg (by omega), if_pos (by omega)]
  · rw [h.cell (by omega)]; unfold ic; rw [if_neg (by omega), if_neg (by omega)]
  · rw [h.cell (by omega)]; unfold ic; rw [if_neg (by omega), if_neg (by omega)]
  · rw [h.cell (by omega)]; unfold ic; rw [if_neg (by omega), if_neg (by omega)]

/-! ### Closed facts of the dump -/

theorem build46 (w : World) (u : ByteArray) (b : Bool) (a : Option Addr) (n c : Nat) : (Instr.build 46 #[(0, .string u), (2, .bool b), (4, .slice a n c)]).run Try.prog w =
   .ok (.agg #[.string u, .string ByteArray.empty, .int .i64 0, .int .i64 0, .int .i64 0, .int .i64 0, .int .i64 0, .map none, .bool b, .pointer none, .slice a n c]) w := by kernel_rfl
theorem build50 (w : World) (x0 x1 x2 x3 x4 x5 x6 x7 x8 x9 x10 : Value) (r1 r2 r3 r4 : Bool) : (Instr.build 50 #[(0, .agg #[x0, x1, x2, x3, x4, x5, x6, x7, x8, x9, x10]), (1, .bool r1), (2, .bool r2), (3, .bool r3), (4, .bool r4)]).run Try.prog w =
   .ok (.agg #[x0, x1, x2, x3, x4, x5, x6, x7, x8, x9, x10, .bool r1, .bool r2, .bool r3, .bool r4, .slice none 0 0, .map none]) w := by kernel_rfl
theorem build54 (w : World) (u : ByteArray) : (Instr.build 54 #[(0, .string u)]).run Try.prog w =
   .ok (.agg #[.string u, .string ByteArray.empty, .string ByteArray.empty, .int .i64 0, .int .i64 0, .int .i64 0]) w := by kernel_rfl
theorem build58 (w : World) (u : ByteArray) (a : Option Addr) (n c : Nat) : (Instr.build 58 #[(0, .string u), (7, .slice a n c)]).run Try.prog w =
   .ok (.agg #[.string u, .string ByteArray.empty, .string ByteArray.empty, .string ByteArray.empty, .slice none 0 0, .map none, .map none, .slice a n c]) w := by kernel_rfl
theorem info54 : (Try.prog.info? 54).map (fun i => (i.zero, i.size, i.bytes)) = some (some (.agg #[.string ByteArray.empty, .string ByteArray.empty, .string ByteArray.empty, .int .i64 0, .int .i64 0, .int .i64 0]), 6, 72) := by kernel_rfl
theorem info9 : (Try.prog.info? 9).map (fun i => (i.zero, i.size, i.bytes)) = some (some (.string ByteArray.empty), 1, 16) := by kernel_rfl
theorem info4 : (Try.prog.info? 4).map (fun i => (i.zero, i.size, i.bytes)) = some (some (.bool false), 1, 1) := by kernel_rfl
theorem info22 : (Try.prog.info? 22).map (fun i => (i.zero, i.size, i.bytes)) = some (some (.slice none 0 0), 1, 24) := by kernel_rfl
theorem zero51 (w : World) : (zeroValue 51).run Try.prog w = .ok (.pointer none) w := by kernel_rfl

theorem run_make_insts (n : Nat) (hn : n ≤ 1048576) (w : World) :
    (Instr.makeSlice 52 (.int .i64 (n : Int)) (.int .i64 (n : Int))).run Try.prog w = .ok (.slice (some ⟨w.heap.size, 0, none⟩) n n) (w.alloc (.cells (madeCells z54 (n * 6)) 54)) := by
  obtain ⟨i, hi, hzz⟩ := Option.map_eq_some_iff.1 info54
  simp only [Prod.mk.injEq] at hzz
  obtain ⟨hz, hs, hb⟩ := hzz
  have hr := run_make (P := Try.prog) w 52 54 i _ Try.underlying52 hi hz .i64 .i64 n n (by omega) (Int.le_refl _) (by rw [hb]; omega) (by omega)
  simp only [Int.toNat_natCast, hs] at hr
  exact hr

/-! ### A map of hosts: what stands at a key is a function of the key -/

theorem law9 : Keyed Try.prog 9 := string_keyed Try.underlying9

/-- An element as read: itself. -/
def rdV (v : Value) : Option (DataW Value × List MemPlace) := some (.held v, [])

def HMap (w : World) (b n : Nat) (f : ByteArray → Value) : Prop :=
  ∃ D : DataW Value, w.ownsMap Try.prog 9 rdV b n D ∧ IsMap D ∧ ∀ s : ByteArray, D.atKey (.string s.data.toList) (.held (.pointer none)) = .held (f s)

theorem HMap.made (w : World) : HMap (w.alloc (.map #[] 0)) w.heap.size 0 (fun _ => .pointer none) :=
  ⟨.map [], World.ownsMap_made _ _ _ _, isMap_empty, fun _ => rfl⟩

theorem HMap.lt {w : World} {b n : Nat} {f : ByteArray → Value} (h : HMap w b n f) : b < w.heap.size := by
  obtain ⟨D, h1, _⟩ := h
  exact h1.lt

theorem HMap.of_block {w w' : World} {b n : Nat} {f : ByteArray → Value} (h : HMap w b n f) (e : w'.heap[b]? = w.heap[b]?) : HMap w' b n f := by
  obtain ⟨D, ⟨es, clock, hb, F, hs, hD⟩, h2⟩ := h
  exact ⟨D, ⟨es, clock, e.trans hb, F, hs, hD⟩, h2⟩

theorem HMap.look {w : World} {b n : Nat} {f : ByteArray → Value} (h : HMap w b n f) (s : ByteArray) (hs : s.size ≤ maxLen) :
    (Instr.lookup 33 (.map (some b)) (.string s) false).run Try.prog w = .ok (f s) w := by
  obtain ⟨D, h1, _, h3⟩ := h
  obtain ⟨v, ps, hrun, hR⟩ := h1.lookup law9 Try.underlying33 (zero51 w) (zd := .held (.pointer none)) (zp := []) rfl (WideMaps.keyOf_string_mk Try.underlying9 hs)
  rw [h3 s] at hR
  have e : v = f s := by
    have := (Prod.mk.inj (Option.some.inj hR)).1
    exact DataW.held.inj this
  rw [← e]; exact hrun

theorem look_none (w : World) (s : ByteArray) (hs : s.size ≤ maxLen) :
    (Instr.lookup 33 (.map none) (.string s) false).run Try.prog w = .ok (.pointer none) w := by
  simpa using Maps.look_nil (w := w) false law9 Try.underlying33 (zero51 w) (WideMaps.keyOf_string_mk Try.underlying9 hs)

theorem HMap.put {w : World} {b n : Nat} {f : ByteArray → Value} (h : HMap w b n f) (hn : n < maxLen) (s : ByteArray) (hs : s.size ≤ maxLen) (v : Value) :
    ∃ w', (Instr.mapUpdate 33 (.map (some b)) (.string s) v).run Try.prog w = .ok () w' ∧ HMap w' b (n + 1) (fun x => if x = s then v else f x) ∧ w.grownBy w' (some b) := by
  obtain ⟨D, h1, h2, h3⟩ := h
  obtain ⟨w', hrun, ho, hg⟩ := h1.update law9 Try.underlying33 hn (WideMaps.keyOf_string_mk Try.underlying9 hs) (val := v) (d := .held v) (ps := []) rfl
  refine ⟨w', hrun, ⟨_, ho, h2.put _ _, fun x => ?_⟩, hg⟩
  by_cases e : x = s
  · subst e
    simp only [if_true]
    exact atKey_put_same (k := .string x.data.toList) h2 trivial _ _
  · simp only [if_neg e]
    rw [atKey_put_other (fun he => e ?_), h3 x]
    simp only [Lit.string.injEq] at he
    exact ByteArray.ext (Array.toList_inj.1 he)
end Go.Proofs.Qxb6603233a
