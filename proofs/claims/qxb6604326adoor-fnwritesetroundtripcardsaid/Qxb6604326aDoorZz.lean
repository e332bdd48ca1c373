/-
  ZZwriteSet (6).
-/
import Derived.Test.Qxb6604326aDoorWrite
import Derived.BigRegion
namespace Go.Proofs.Qxb6604326aDoor
open Go.RowKit

theorem builder_new (w : World) : Lib.IsBuilderF 39 5 w.heap.size w.heap.size (Lib.byteCells []) (w.alloc (.cells #[.pointer none, .slice none 0 0] 39)) :=
  .inl ⟨Nat.le_refl _, .slice none 0 0, heap_alloc_new w _, World.ownsRowF_nil _ _ _ _, by simp [Value.ownBlock]⟩

set_option maxHeartbeats 1000000 in
theorem zzWrite (p : ByteArray) (a : Option Addr) (n cap : Nat) (L H : Nat → Int) (w : World) (hp : p.size ≤ 65536) (hn : n ≤ 65536) (h : Pairs w a n L H) (hT : Tab w) (hL : ∀ i, i < n → I32 (L i)) (hH : ∀ i, i < n → I32 (H i)) :
    Calls Tryd.prog 6 #[.string p, .slice a n cap] w fun e w' => e = .returned (.string ⟨(p.data.toList ++ setText L H n).toArray⟩) ∧ Below w.heap.size w w' := by
  have hmk := run_make_pairs 33 35 Tryd.underlying33 info35 n (by omega)
  go_enter Tryd.func6, Tryd.ntmps6
  go_wp2
  go_loopw [6, 13] (fun _ i wr => ∃ k : Nat, k ≤ n ∧ i = .int .i64 k ∧ wr.rowIs w.heap.size 35 (n * 2) (pc L H k) ∧ Below w.heap.size w wr) (fun _ i _ => n - (intOf i).toNat)
  case atStart => exact ⟨0, Nat.zero_le _, rfl, pc_made w n 35 L H, (Below.refl _ _).alloc (Nat.le_refl _) _⟩
  case round =>
    obtain ⟨k, hk, rfl, hrow, hbel⟩ := hrel
    by_cases hlt : k < n
    · obtain ⟨b, off, e, hc⟩ := h (by omega)
      subst e
      obtain ⟨hc0, hc1⟩ := hc k hlt
      have c0 : wr.cell? ⟨b, off + k * 2, none⟩ = some (.int .i32 (L k)) := (hbel.cell (p := ⟨b, off + k * 2, none⟩) (lt_of_cell hc0)).trans hc0
      have c1 : wr.cell? ⟨b, off + k * 2 + 1, none⟩ = some (.int .i32 (H k)) := (hbel.cell (p := ⟨b, off + k * 2 + 1, none⟩) (lt_of_cell hc1)).trans hc1
      have d0 : wr.cell? ⟨w.heap.size, k * 2, none⟩ = some (pc L H k (k * 2)) := hrow.cell (by omega)
      have d1 : wr.cell? ⟨w.heap.size, k * 2 + 1, none⟩ = some (pc L H k (k * 2 + 1)) := hrow.cell (by omega)
      have f0 : wr.frozen? ⟨w.heap.size, k * 2, none⟩ = false := hrow.frozen _
      have f1 : wr.frozen? ⟨w.heap.size, k * 2 + 1, none⟩ = false := hrow.frozen _
      have hi1 : (k : Int) < (n : Int) := by omega
      have HR := hide (pc_set hrow.drew)
      have HB := hide ((hbel.drew.setCell (p := ⟨w.heap.size, k * 2, none⟩) (Nat.le_refl _) (.int .i32 (L k))).setCell (p := ⟨w.heap.size, k * 2 + 1, none⟩) (Nat.le_refl _) (.int .i32 (H k)))
      clear hc hc0 hc1 hrow hbel hmk h
      go_wp2
      go_region
      go_wp2
      go_roundw
      case rel => exact ⟨k + 1, by omega, by go_num, unhide HR, unhide HB⟩
      case measure => simp [intOf]; omega
    · have hkn : k = n := by omega
      subst hkn
      have hsz : w.heap.size < wr.heap.size := hrow.lt
      have hb0 := builder_new wr
      have hrow' := hrow.alloc (.cells #[.pointer none, .slice none 0 0] 39)
      have hbel' := hbel.alloc hbel.size (.cells #[.pointer none, .slice none 0 0] 39)
      clear hmk h
      go_wp2_with fail
      refine (Tryd.Builder_WriteString_k wr.heap.size wr.heap.size _ p _ hb0 (by simp [Lib.byteCells]; omega) (by simp)).mono ?_
      rintro e w1 ⟨rfl, hb1, hbel1, _⟩
      have hrow1 : w1.rowIs w.heap.size 35 (k * 2) (pc L H k) := hrow'.of_block (hbel1.block _ hsz)
      have hbelw : Below w.heap.size w w1 := hbel'.trans (hbel1.mono (by omega))
      have hs1 : wr.heap.size ≤ w1.heap.size := by have := hbel1.size; simp at this; omega
      have hbs : Lib.IsBuilderF 39 5 wr.heap.size wr.heap.size (Lib.byteCells p.data.toList) w1 := .inr (by simpa [Lib.strCells_eq, Lib.byteCells] using hb1)
      have hTw := hT.lt
      clear hrow hbel hb0 hrow' hbel' hb1 hbel1
      go_wp2_with fail
      refine (write11 wr.heap.size wr.heap.size w.heap.size k L H p.data.toList _ hn (by have : p.data.toList.length = p.size := (by rw [Array.length_toList]; rfl); omega) hbs hs1 (pc_cells hrow1) hsz (by omega) (hT.below hbelw hTw) hL hH).mono ?_
      rintro e w2 ⟨rfl, hb2, hbel2⟩
      have hbelw2 := hbelw.trans (hbel2.mono (by omega))
      have hs2 : wr.heap.size ≤ w2.heap.size := by have := hbel2.size; omega
      clear hbs hrow1 hbelw hbel2
      go_wp2_with fail
      refine (Tryd.Builder_String_any_k wr.heap.size wr.heap.size _ _ hb2 hs2).mono ?_
      rintro e w3 ⟨rfl, _, hbel3, _⟩
      go_wp2
      go_ret
      exact ⟨rfl, hbelw2.trans (hbel3.mono (by omega))⟩
end Go.Proofs.Qxb6604326aDoor
