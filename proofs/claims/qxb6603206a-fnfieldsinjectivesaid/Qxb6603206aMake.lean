/-
  zzToReasons (7): a fresh copy.
-/
import Derived.Test.Qxb6603206aRows
import Derived.Test.Qxb6603206aBase
import Derived.WalkSpells
import Derived.WalkLawsBesides
import Derived.Deep.OwnRows
namespace Go.Proofs.Qxb6603206a
open Go.RowKit

theorem info35 : (Try.prog.info? 35).map (fun i => (i.zero, i.size, i.bytes)) = some (some (.string ByteArray.empty), 1, 16) := by kernel_rfl
theorem info9 : (Try.prog.info? 9).map (fun i => (i.zero, i.size, i.bytes)) = some (some (.string ByteArray.empty), 1, 16) := by kernel_rfl

/-- What a copying loop has done behind k rounds. -/
def upTo (S : Nat → ByteArray) (k : Nat) (j : Nat) : Value := if j < k then .string (S j) else .string ByteArray.empty

theorem upTo_set {w : World} {b : Nat} {t : TypeId} {n k : Nat} {S : Nat → ByteArray} (h : w.rowIs b t n (upTo S k)) : (w.setCell ⟨b, k, none⟩ (.string (S k))).rowIs b t n (upTo S (k + 1)) := by
  refine (h.set k (.string (S k))).congr fun i hi => ?_
  unfold upTo
  by_cases e : i = k
  · subst e; simp
  · rw [if_neg e]
    by_cases l : i < k
    · rw [if_pos l, if_pos (by omega)]
    · rw [if_neg l, if_neg (by omega)]

theorem upTo_strs {w : World} {b : Nat} {t : TypeId} {n : Nat} {S : Nat → ByteArray} (h : w.rowIs b t n (upTo S n)) : Strs w (some ⟨b, 0, none⟩) n S := by
  intro _
  refine ⟨b, 0, rfl, fun i hi => ?_⟩
  rw [Nat.zero_add, h.cell hi]
  simp [upTo, hi]

/-- It hands back a slice of the same strings; nothing old has turned. -/
def RetS (n : Nat) (S : Nat → ByteArray) (w : World) (e : Ending) (w' : World) : Prop := ∃ a', e = .returned (.slice a' n n) ∧ Strs w' a' n S ∧ Below w.heap.size w w'

set_option maxHeartbeats 400000 in
theorem toReasons (a : Option Addr) (n cap : Nat) (S : Nat → ByteArray) (w : World) (hn : n ≤ 65536) (h : Strs w a n S) :
    Calls Try.prog 7 #[.slice a n cap] w fun e w' => RetS n S w e w' := by
  have hnil := fun w a n c n' c' => Lib.run_eql_slice_nil (P := Try.prog) w 22 9 a n c n' c' Try.underlying22
  cases a with
  | none =>
    have hn0 : n = 0 := by
      apply Classical.byContradiction; intro hh
      obtain ⟨b, off, hx, _⟩ := h (by omega)
      cases hx
    subst hn0
    go_enter Try.func7, Try.ntmps7
    go_wp2
    go_ret
    exact ⟨none, rfl, fun h => absurd h (by omega), Below.refl _ _⟩
  | some ad =>
    have hmk := run_make_row' (P := Try.prog) 25 35 (.string ByteArray.empty) 16 Try.underlying25 info35 rfl .i64 .i64 n (by omega) (by omega)
    go_enter Try.func7, Try.ntmps7
    go_wp2
    go_loopw [4] (fun i wr => ∃ k : Nat, k ≤ n ∧ i = .int .i64 k ∧ wr.rowIs w.heap.size 35 n (upTo S k) ∧ Below w.heap.size w wr) (fun i _ => n - (intOf i).toNat)
    case atStart => exact ⟨0, Nat.zero_le _, rfl, (World.rowIs_made w _ n 35).congr fun i _ => by simp [upTo], (Below.refl _ _).alloc (Nat.le_refl _) _⟩
    case round =>
      obtain ⟨k, hk, rfl, hrow, hbel⟩ := hrel
      by_cases hlt : k < n
      · obtain ⟨b, off, e, hc⟩ := h (by omega)
        cases e
        have hcw := hc k hlt
        have hcell : wr.cell? ⟨b, off + k, none⟩ = some (.string (S k)) := (hbel.cell (p := ⟨b, off + k, none⟩) (lt_of_cell hcw)).trans hcw
        have hdst : wr.cell? ⟨w.heap.size, k, none⟩ = some (upTo S k k) := hrow.cell hlt
        have hfz : wr.frozen? ⟨w.heap.size, k, none⟩ = false := hrow.frozen k
        have HR := upTo_set hrow
        have HB := hbel.setCell (p := ⟨w.heap.size, k, none⟩) (Nat.le_refl _) (.string (S k))
        clear hc hcw h hrow hbel hnil hmk
        go_wp2
        go_roundw
        case rel => exact ⟨k + 1, by omega, by go_num, HR, HB⟩
        case measure => simp [intOf]; omega
      · have hkn : k = n := by omega
        subst hkn
        have hst := upTo_strs hrow
        clear hnil hmk hrow h
        go_wp2
        go_ret
        exact ⟨_, rfl, hst, hbel⟩
end Go.Proofs.Qxb6603206a
