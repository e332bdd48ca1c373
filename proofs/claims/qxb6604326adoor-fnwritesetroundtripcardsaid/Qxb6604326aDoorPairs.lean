/-
  Slices of pairs of int32: as functions of the index; make and the rows that it lays.
-/
import Derived.Test.Qxb6604326aDoorRows
import Derived.Test.Qxb6604326aDoorHex
import Derived.WalkSpells
import Derived.WalkLawsBesides
import Derived.Deep.OwnRows
namespace Go.Proofs.Qxb6604326aDoor
open Go.RowKit

def I32 (v : Int) : Prop := -2147483648 ≤ v ∧ v ≤ 2147483647

/-- The slice value '.slice a n cap' leads to the n pairs (L i, H i). -/
def Pairs (w : World) (a : Option Addr) (n : Nat) (L H : Nat → Int) : Prop :=
  0 < n → ∃ b off, a = some ⟨b, off, none⟩ ∧ ∀ i, i < n → w.cell? ⟨b, off + i * 2, none⟩ = some (.int .i32 (L i)) ∧ w.cell? ⟨b, off + i * 2 + 1, none⟩ = some (.int .i32 (H i))

theorem lt_of_cell {w : World} {b o : Nat} {v : Value} (h : w.cell? ⟨b, o, none⟩ = some v) : b < w.heap.size := by
  have := block_lt_of_cell h
  simpa using this

theorem Pairs.below {w w' : World} {a : Option Addr} {n : Nat} {L H : Nat → Int} (h : Pairs w a n L H) (hb : Below w.heap.size w w') : Pairs w' a n L H := by
  intro hn
  obtain ⟨b, off, rfl, hc⟩ := h hn
  refine ⟨b, off, rfl, fun i hi => ?_⟩
  obtain ⟨c0, c1⟩ := hc i hi
  exact ⟨(hb.cell (p := ⟨b, off + i * 2, none⟩) (lt_of_cell c0)).trans c0, (hb.cell (p := ⟨b, off + i * 2 + 1, none⟩) (lt_of_cell c1)).trans c1⟩

/-- The cells of the row of pairs, the first k filled. -/
def pc (L H : Nat → Int) (k j : Nat) : Value := if j < k * 2 then (if j % 2 = 0 then .int .i32 (L (j / 2)) else .int .i32 (H (j / 2))) else .int .i32 0

theorem pc_set {w : World} {b : Nat} {t : TypeId} {n k : Nat} {L H : Nat → Int} (h : w.rowIs b t (n * 2) (pc L H k)) :
    ((w.setCell ⟨b, k * 2, none⟩ (.int .i32 (L k))).setCell ⟨b, k * 2 + 1, none⟩ (.int .i32 (H k))).rowIs b t (n * 2) (pc L H (k + 1)) := by
  refine ((h.set (k * 2) _).set (k * 2 + 1) _).congr fun i hi => ?_
  unfold pc
  by_cases e1 : i = k * 2 + 1
  · subst e1
    rw [if_pos rfl, if_pos (by omega), if_neg (by omega), show (k * 2 + 1) / 2 = k from by omega]
  · rw [if_neg e1]
    by_cases e0 : i = k * 2
    · subst e0
      rw [if_pos rfl, if_pos (by omega), if_pos (by omega), show k * 2 / 2 = k from by omega]
    · rw [if_neg e0]
      by_cases l : i < k * 2
      · rw [if_pos l, if_pos (show i < (k + 1) * 2 from by omega)]
      · rw [if_neg l, if_neg (show ¬ i < (k + 1) * 2 from by omega)]

theorem pc_cells {w : World} {b : Nat} {t : TypeId} {n : Nat} {L H : Nat → Int} (h : w.rowIs b t (n * 2) (pc L H n)) (i : Nat) (hi : i < n) :
    w.cell? ⟨b, i * 2, none⟩ = some (.int .i32 (L i)) ∧ w.cell? ⟨b, i * 2 + 1, none⟩ = some (.int .i32 (H i)) := by
  refine ⟨?_, ?_⟩
  · rw [h.cell (by omega)]; unfold pc; rw [if_pos (by omega), if_pos (by omega), show i * 2 / 2 = i from by omega]
  · rw [h.cell (by omega)]; unfold pc; rw [if_pos (by omega), if_neg (by omega), show (i * 2 + 1) / 2 = i from by omega]

theorem pc_pairs {w : World} {b : Nat} {t : TypeId} {n : Nat} {L H : Nat → Int} (h : w.rowIs b t (n * 2) (pc L H n)) : Pairs w (some ⟨b, 0, none⟩) n L H := by
  intro _
  refine ⟨b, 0, rfl, fun i hi => ?_⟩
  rw [Nat.zero_add]
  exact pc_cells h i hi

theorem zz_at (m i : Nat) (h : i < m) : (madeCells #[Value.int .i32 0, Value.int .i32 0] m)[i]? = some (.int .i32 0) := by
  simp only [madeCells]
  rw [Array.getElem?_map, Array.getElem?_range]
  simp only [h, if_true, Option.map_some, Option.some.injEq]
  have : i % 2 = 0 ∨ i % 2 = 1 := by omega
  rcases this with e | e
  · simp [e]
  · simp [e]

theorem pc_made (w : World) (n : Nat) (t : TypeId) (L H : Nat → Int) : (w.alloc (.cells (madeCells #[.int .i32 0, .int .i32 0] (n * 2)) t)).rowIs w.heap.size t (n * 2) (pc L H 0) := by
  have := World.rowIs_alloc w (madeCells #[.int .i32 0, .int .i32 0] (n * 2)) t (pc L H 0) (fun i hi => by
    rw [size_madeCells] at hi
    rw [zz_at _ _ hi]
    unfold pc; rw [if_neg (by omega)])
  rwa [size_madeCells] at this

theorem run_make_pairs (t e : TypeId) (ht : Tryd.prog.underlying t = some (.slice e)) (hinfo : (Tryd.prog.info? e).map (fun i => (i.zero, i.size, i.bytes)) = some (some (.agg #[.int .i32 0, .int .i32 0]), 2, 8)) (n : Nat) (hn : n ≤ 1048576) (w : World) :
    (Instr.makeSlice t (.int .i64 (n : Int)) (.int .i64 (n : Int))).run Tryd.prog w = .ok (.slice (some ⟨w.heap.size, 0, none⟩) n n) (w.alloc (.cells (madeCells #[.int .i32 0, .int .i32 0] (n * 2)) e)) := by
  obtain ⟨i, hi, hzz⟩ := Option.map_eq_some_iff.1 hinfo
  simp only [Prod.mk.injEq] at hzz
  obtain ⟨hz, hs, hb⟩ := hzz
  have hr := run_make (P := Tryd.prog) w t e i _ ht hi hz .i64 .i64 n n (by omega) (Int.le_refl _) (by rw [hb]; omega) (by omega)
  simp only [Int.toNat_natCast, hs] at hr
  exact hr

theorem info35 : (Tryd.prog.info? 35).map (fun i => (i.zero, i.size, i.bytes)) = some (some (.agg #[.int .i32 0, .int .i32 0]), 2, 8) := by kernel_rfl
theorem info28 : (Tryd.prog.info? 28).map (fun i => (i.zero, i.size, i.bytes)) = some (some (.agg #[.int .i32 0, .int .i32 0]), 2, 8) := by kernel_rfl

end Go.Proofs.Qxb6604326aDoor
