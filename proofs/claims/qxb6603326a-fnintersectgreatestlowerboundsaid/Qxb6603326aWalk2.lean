/-
  (ScriptSet).Intersect (19), ZZIntersect (15).
-/
import Derived.Test.Qxb6603326aWalk1
import Derived.Deep.OwnRows
import Derived.BigRegion
namespace Go.Proofs.Qxb6603326a
open Go.RowKit

/-- It hands back the three words; nothing old has turned. -/
def RetSet (x0 x1 x2 : Int) (w : World) (e : Ending) (w' : World) : Prop := e = .returned (.agg #[.int .u64 x0, .int .u64 x1, .int .u64 x2]) ∧ Below w.heap.size w w'

/-- The three words as a row of cells. -/
def words (x0 x1 x2 : Int) (i : Nat) : Value := .int .u64 (sel x0 x1 x2 i)

theorem row_new (w : World) (x0 x1 x2 : Int) (t : TypeId) : (w.alloc (.cells #[.int .u64 x0, .int .u64 x1, .int .u64 x2] t)).rowIs w.heap.size t 3 (words x0 x1 x2) :=
  World.rowIs_alloc w #[.int .u64 x0, .int .u64 x1, .int .u64 x2] t (words x0 x1 x2) (fun i hi => by
    match i, hi with
    | 0, _ => rfl
    | 1, _ => rfl
    | 2, _ => rfl)

theorem row_set0 {w : World} {b : Nat} {t : TypeId} {x0 x1 x2 : Int} (h : w.rowIs b t 3 (words x0 x1 x2)) (y : Int) : (w.setCell ⟨b, 0, none⟩ (.int .u64 y)).rowIs b t 3 (words y x1 x2) :=
  (h.set 0 (.int .u64 y)).congr fun i hi => by
    match i, hi with
    | 0, _ => rfl
    | 1, _ => rfl
    | 2, _ => rfl
theorem row_set1 {w : World} {b : Nat} {t : TypeId} {x0 x1 x2 : Int} (h : w.rowIs b t 3 (words x0 x1 x2)) (y : Int) : (w.setCell ⟨b, 1, none⟩ (.int .u64 y)).rowIs b t 3 (words x0 y x2) :=
  (h.set 1 (.int .u64 y)).congr fun i hi => by
    match i, hi with
    | 0, _ => rfl
    | 1, _ => rfl
    | 2, _ => rfl
theorem row_set2 {w : World} {b : Nat} {t : TypeId} {x0 x1 x2 : Int} (h : w.rowIs b t 3 (words x0 x1 x2)) (y : Int) : (w.setCell ⟨b, 2, none⟩ (.int .u64 y)).rowIs b t 3 (words x0 x1 y) :=
  (h.set 2 (.int .u64 y)).congr fun i hi => by
    match i, hi with
    | 0, _ => rfl
    | 1, _ => rfl
    | 2, _ => rfl

/-- The loop of Intersect: the set that is turned, the other, and the result's own cells. -/
structure Mid (w : World) (x0 x1 x2 t0 t1 t2 : Int) (wr : World) : Prop where
  a : wr.rowIs w.heap.size 42 3 (words x0 x1 x2)
  b : wr.rowIs (w.heap.size + 1) 42 3 (words t0 t1 t2)
  c : wr.rowIs (w.heap.size + 1 + 1) 42 3 (words 0 0 0)
  bel : Below w.heap.size w wr

theorem Mid.drew {w : World} {x0 x1 x2 t0 t1 t2 : Int} {wr : World} (h : Mid w x0 x1 x2 t0 t1 t2 wr) : Mid w x0 x1 x2 t0 t1 t2 wr.drew := ⟨h.a.drew, h.b.drew, h.c.drew, h.bel.drew⟩

theorem Mid.start (w : World) (x0 x1 x2 t0 t1 t2 : Int) : Mid w x0 x1 x2 t0 t1 t2 (((w.alloc (.cells #[.int .u64 x0, .int .u64 x1, .int .u64 x2] 42)).alloc (.cells #[.int .u64 t0, .int .u64 t1, .int .u64 t2] 42)).alloc (.cells #[.int .u64 0, .int .u64 0, .int .u64 0] 42)) where
  a := ((row_new w x0 x1 x2 42).alloc _).alloc _
  b := by
    have := (row_new (w.alloc (.cells #[.int .u64 x0, .int .u64 x1, .int .u64 x2] 42)) t0 t1 t2 42).alloc (.cells #[.int .u64 0, .int .u64 0, .int .u64 0] 42)
    simpa using this
  c := by
    have := row_new ((w.alloc (.cells #[.int .u64 x0, .int .u64 x1, .int .u64 x2] 42)).alloc (.cells #[.int .u64 t0, .int .u64 t1, .int .u64 t2] 42)) 0 0 0 42
    simpa using this
  bel := (((Below.refl _ _).alloc (Nat.le_refl _) _).alloc (by simp) _).alloc (by simp; omega) _

theorem Mid.set0 {w : World} {x0 x1 x2 t0 t1 t2 : Int} {wr : World} (h : Mid w x0 x1 x2 t0 t1 t2 wr) (y : Int) : Mid w y x1 x2 t0 t1 t2 (wr.setCell ⟨w.heap.size, 0, none⟩ (.int .u64 y)) :=
  ⟨row_set0 h.a y, h.b.setOther (by simp) _, h.c.setOther (by simp; omega) _, h.bel.setCell (Nat.le_refl _) _⟩
theorem Mid.set1 {w : World} {x0 x1 x2 t0 t1 t2 : Int} {wr : World} (h : Mid w x0 x1 x2 t0 t1 t2 wr) (y : Int) : Mid w x0 y x2 t0 t1 t2 (wr.setCell ⟨w.heap.size, 1, none⟩ (.int .u64 y)) :=
  ⟨row_set1 h.a y, h.b.setOther (by simp) _, h.c.setOther (by simp; omega) _, h.bel.setCell (Nat.le_refl _) _⟩
theorem Mid.set2 {w : World} {x0 x1 x2 t0 t1 t2 : Int} {wr : World} (h : Mid w x0 x1 x2 t0 t1 t2 wr) (y : Int) : Mid w x0 x1 y t0 t1 t2 (wr.setCell ⟨w.heap.size, 2, none⟩ (.int .u64 y)) :=
  ⟨row_set2 h.a y, h.b.setOther (by simp) _, h.c.setOther (by simp; omega) _, h.bel.setCell (Nat.le_refl _) _⟩

theorem row_cells {w : World} {b : Nat} {t : TypeId} {x0 x1 x2 : Int} (h : w.rowIs b t 3 (words x0 x1 x2)) :
    Box w b x0 x1 x2 ∧ w.frozen? ⟨b, 0, none⟩ = false ∧ w.frozen? ⟨b, 1, none⟩ = false ∧ w.frozen? ⟨b, 2, none⟩ = false :=
  ⟨⟨h.cell (i := 0) (by omega), h.cell (i := 1) (by omega), h.cell (i := 2) (by omega)⟩, h.frozen 0, h.frozen 1, h.frozen 2⟩

set_option maxHeartbeats 400000 in
theorem intersect19 (s0 s1 s2 t0 t1 t2 : Int) (w : World) :
    Calls Try.prog 19 #[.agg #[.int .u64 s0, .int .u64 s1, .int .u64 s2], .agg #[.int .u64 t0, .int .u64 t1, .int .u64 t2]] w fun e w' => RetSet (andW s0 t0) (andW s1 t1) (andW s2 t2) w e w' := by
  go_enter Try.func19, Try.ntmps19
  go_wp2
  go_loopw [5, 6] (fun _ i wr => ∃ (k : Nat), k ≤ 3 ∧ i = .int .i64 k ∧ Mid w (if k = 0 then s0 else andW s0 t0) (if k ≤ 1 then s1 else andW s1 t1) (if k ≤ 2 then s2 else andW s2 t2) t0 t1 t2 wr) (fun _ i _ => 3 - (intOf i).toNat)
  case atStart => exact ⟨0, by omega, rfl, Mid.start w s0 s1 s2 t0 t1 t2⟩
  case round =>
    obtain ⟨k, hk, rfl, hM⟩ := hrel
    match k, hk with
    | 0, _ =>
      have hM' : Mid w s0 s1 s2 t0 t1 t2 wr := hM
      obtain ⟨⟨ca0, ca1, ca2⟩, fa0, fa1, fa2⟩ := row_cells hM'.a
      obtain ⟨⟨cb0, cb1, cb2⟩, _⟩ := row_cells hM'.b
      have hS := hM'.drew.set0 (andW s0 t0)
      clear hM hM'
      go_wp2
      go_region
      go_wp2
      go_roundw
      case rel => exact ⟨1, by omega, rfl, hS⟩
      case measure => simp [intOf]
    | 1, _ =>
      have hM' : Mid w (andW s0 t0) s1 s2 t0 t1 t2 wr := hM
      obtain ⟨⟨ca0, ca1, ca2⟩, fa0, fa1, fa2⟩ := row_cells hM'.a
      obtain ⟨⟨cb0, cb1, cb2⟩, _⟩ := row_cells hM'.b
      have hS := hM'.drew.set1 (andW s1 t1)
      clear hM hM'
      go_wp2
      go_region
      go_wp2
      go_roundw
      case rel => exact ⟨2, by omega, rfl, hS⟩
      case measure => simp [intOf]
    | 2, _ =>
      have hM' : Mid w (andW s0 t0) (andW s1 t1) s2 t0 t1 t2 wr := hM
      obtain ⟨⟨ca0, ca1, ca2⟩, fa0, fa1, fa2⟩ := row_cells hM'.a
      obtain ⟨⟨cb0, cb1, cb2⟩, _⟩ := row_cells hM'.b
      have hS := hM'.drew.set2 (andW s2 t2)
      clear hM hM'
      go_wp2
      go_region
      go_wp2
      go_roundw
      case rel => exact ⟨3, by omega, rfl, hS⟩
      case measure => simp [intOf]
    | 3, _ =>
      have hM' : Mid w (andW s0 t0) (andW s1 t1) (andW s2 t2) t0 t1 t2 wr := hM
      obtain ⟨⟨ca0, ca1, ca2⟩, fa0, fa1, fa2⟩ := row_cells hM'.a
      obtain ⟨⟨cc0, cc1, cc2⟩, fc0, fc1, fc2⟩ := row_cells hM'.c
      have hbel := hM'.bel
      obtain ⟨⟨d0, d1, d2⟩, _⟩ := row_cells (row_set2 (row_set1 (row_set0 hM'.c (andW s0 t0)) (andW s1 t1)) (andW s2 t2))
      have hbel3 := ((hbel.setCell (p := ⟨w.heap.size + 1 + 1, 0, none⟩) (by simp; omega) (.int .u64 (andW s0 t0))).setCell (p := ⟨w.heap.size + 1 + 1, 1, none⟩) (by simp; omega) (.int .u64 (andW s1 t1))).setCell (p := ⟨w.heap.size + 1 + 1, 2, none⟩) (by simp; omega) (.int .u64 (andW s2 t2))
      have HD := hide (And.intro d0 (And.intro d1 d2))
      have HB := hide hbel3
      clear hM hM' d0 d1 d2 hbel hbel3
      go_wp2
      obtain ⟨d0, d1, d2⟩ := unhide HD
      exact bodyPost_ret (v := .agg #[.int .u64 (andW s0 t0), .int .u64 (andW s1 t1), .int .u64 (andW s2 t2)]) (by simp [results, Try.results19, go_sem, d0, d1, d2]) rfl ⟨rfl, unhide HB⟩

theorem field42 (a b c : Value) (w : World) : Sem.run Try.prog (Instr.field 42 (.agg #[a, b, c]) 0) w = .ok (.agg #[a, b, c]) w := by kernel_rfl

set_option maxHeartbeats 400000 in
theorem zzIntersect (s0 s1 s2 t0 t1 t2 : Int) (w : World) :
    Calls Try.prog 15 #[.agg #[.int .u64 s0, .int .u64 s1, .int .u64 s2], .agg #[.int .u64 t0, .int .u64 t1, .int .u64 t2]] w fun e w' => RetSet (andW s0 t0) (andW s1 t1) (andW s2 t2) w e w' := by
  go_enter Try.func15, Try.ntmps15
  go_wp2_with fail
  refine (intersect19 s0 s1 s2 t0 t1 t2 _).mono ?_
  rintro e w1 ⟨rfl, hb⟩
  have hb0 : Below w.heap.size w w1 := ((((Below.refl _ _).alloc (Nat.le_refl _) _).alloc (by simp) _).alloc (by simp; omega) _).trans (hb.mono (by simp; omega))
  have hrow : w1.rowIs (w.heap.size + 1 + 1) 31 3 (words 0 0 0) := by
    have := row_new ((w.alloc (.cells #[.int .u64 s0, .int .u64 s1, .int .u64 s2] 31)).alloc (.cells #[.int .u64 t0, .int .u64 t1, .int .u64 t2] 31)) 0 0 0 31
    have e : ((w.alloc (.cells #[.int .u64 s0, .int .u64 s1, .int .u64 s2] 31)).alloc (.cells #[.int .u64 t0, .int .u64 t1, .int .u64 t2] 31)).heap.size = w.heap.size + 1 + 1 := by simp
    rw [e] at this
    exact this.of_block (hb.block _ (by simp))
  obtain ⟨⟨cc0, cc1, cc2⟩, fc0, fc1, fc2⟩ := row_cells hrow
  obtain ⟨⟨d0, d1, d2⟩, _⟩ := row_cells (row_set2 (row_set1 (row_set0 hrow (andW s0 t0)) (andW s1 t1)) (andW s2 t2))
  have hbel3 := ((hb0.setCell (p := ⟨w.heap.size + 1 + 1, 0, none⟩) (by simp; omega) (.int .u64 (andW s0 t0))).setCell (p := ⟨w.heap.size + 1 + 1, 1, none⟩) (by simp; omega) (.int .u64 (andW s1 t1))).setCell (p := ⟨w.heap.size + 1 + 1, 2, none⟩) (by simp; omega) (.int .u64 (andW s2 t2))
  have HD := hide (And.intro d0 (And.intro d1 d2))
  have HB := hide hbel3
  clear hrow d0 d1 d2 hb hb0 hbel3
  have hfl := field42 (.int .u64 (andW s0 t0)) (.int .u64 (andW s1 t1)) (.int .u64 (andW s2 t2))
  go_wp2
  obtain ⟨d0, d1, d2⟩ := unhide HD
  exact bodyPost_ret (v := .agg #[.int .u64 (andW s0 t0), .int .u64 (andW s1 t1), .int .u64 (andW s2 t2)]) (by simp [results, Try.results15, go_sem, d0, d1, d2]) rfl ⟨rfl, unhide HB⟩
end Go.Proofs.Qxb6603326a
