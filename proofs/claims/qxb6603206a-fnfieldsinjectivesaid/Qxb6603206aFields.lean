/-
  (Row).Decision (14), (Row).Fields (8).
-/
import Derived.Test.Qxb6603206aRows
import Derived.Test.Qxb6603206aPlain
import Derived.Test.Qxb6603206aMake
import Derived.Test.Qxb6603206aShelf
import Derived.Deep.RegionHeld3
namespace Go.Proofs.Qxb6603206a
open Go.RowKit

def accept : ByteArray := ⟨#[97, 99, 99, 101, 112, 116]⟩
def refuse : ByteArray := ⟨#[114, 101, 102, 117, 115, 101]⟩
/-- The decision of a row of n reasons. -/
def dec (n : Nat) : ByteArray := if n = 0 then accept else refuse

/-- It hands back the string s; the world has one block more. -/
def RetStr (s : ByteArray) (w : World) (e : Ending) (w' : World) : Prop := e = .returned (.string s) ∧ Below w.heap.size w w'

theorem decision (id : ByteArray) (a : Option Addr) (n cap : Nat) (w : World) (hn : n ≤ 65536) :
    Calls Try.prog 14 #[.agg #[.string id, .slice a n cap]] w fun e w' => RetStr (dec n) w e w' := by
  by_cases h : n = 0
  · subst h
    go_enter Try.func14, Try.ntmps14
    go_wp2
    go_ret
    exact ⟨rfl, (Below.refl _ _).alloc (Nat.le_refl _) _⟩
  · have hd : dec n = refuse := by simp [dec, h]
    rw [hd]
    have h0 : 0 < n := by omega
    go_enter Try.func14, Try.ntmps14
    go_wp2
    go_ret
    exact ⟨rfl, (Below.refl _ _).alloc (Nat.le_refl _) _⟩

theorem join15 (bk n : Nat) (S : Nat → ByteArray) (w : World) (t : TypeId) (h : w.rowIs bk t n (upTo S n)) (hn : n ≤ 65536) (hsum : sumS S n ≤ 1048576) :
    Calls Try.prog 15 #[.slice (some ⟨bk, 0, none⟩) n n, .string ⟨#[59]⟩] w fun e w' => RetStr ⟨(jn S n).toArray⟩ w e w' := by
  have hl : ((List.range n).map S).length = n := by simp
  have hm : ((List.range n).map S).map (·.data.toList) = (List.range n).map fun i => (S i).data.toList := by simp
  have hj : Lib.join (((List.range n).map S).map (·.data.toList)) (⟨#[59]⟩ : ByteArray).data.toList = jn S n := by
    rw [hm]; exact jn_eq S n
  have := Try.strings_Join bk 0 n ((List.range n).map S) ⟨#[59]⟩ w (by
    intro j x hx
    have hjn : j < n := by
      apply Classical.byContradiction; intro hh
      rw [List.getElem?_eq_none (by rw [hl]; omega)] at hx; cases hx
    rw [Nat.zero_add, h.cell hjn]
    simp [hjn] at hx
    simp [upTo, hjn, hx]) h.lt (by rw [hl]; omega) (by rw [hl]; omega) (by rw [hj, jn_length]; omega)
  rw [hj, hl] at this
  exact this

/-- The three fields. -/
def fieldsOf (id : ByteArray) (n : Nat) (S : Nat → ByteArray) (i : Nat) : ByteArray := if i = 0 then id else if i = 1 then dec n else ⟨(jn S n).toArray⟩

/-- What the last statement of Fields finds: the row of strings, and all old memory as it was. -/
def Rest8 (w : World) (n : Nat) (S : Nat → ByteArray) (W : World) : Prop := W.rowIs (w.heap.size + 1) 9 n (upTo S n) ∧ Below w.heap.size w W

theorem keep8 {w W w1 : World} {id : ByteArray} {a : Option Addr} {n cap : Nat} {S : Nat → ByteArray}
    (h : W.cell? ⟨w.heap.size, 0, none⟩ = some (.string id) ∧ W.cell? ⟨w.heap.size, 1, none⟩ = some (.slice a n cap) ∧ Rest8 w n S W) (hb : Below W.heap.size W w1) :
    w1.cell? ⟨w.heap.size, 0, none⟩ = some (.string id) ∧ w1.cell? ⟨w.heap.size, 1, none⟩ = some (.slice a n cap) ∧ Rest8 w n S w1 := by
  obtain ⟨h0, h1, hr, hbel⟩ := h
  have hlt := lt_of_cell h0
  refine ⟨(hb.cell (p := ⟨w.heap.size, 0, none⟩) hlt).trans h0, (hb.cell (p := ⟨w.heap.size, 1, none⟩) hlt).trans h1, hr.of_block (hb.block _ hr.lt), hbel.trans (hb.mono (by omega))⟩

theorem upTo_made (w : World) (o : Obj) (n : Nat) (S : Nat → ByteArray) : ((w.alloc o).alloc (.cells (madeCells #[.string ByteArray.empty] n) 9)).rowIs (w.heap.size + 1) 9 n (upTo S 0) := by
  have := World.rowIs_made (w.alloc o) (.string ByteArray.empty) n 9
  have e : (w.alloc o).heap.size = w.heap.size + 1 := by simp
  rw [e] at this
  exact this.congr fun i _ => by simp [upTo]

theorem join15h {w W : World} {id : ByteArray} {a : Option Addr} {n cap : Nat} {S : Nat → ByteArray}
    (h : W.cell? ⟨w.heap.size, 0, none⟩ = some (.string id) ∧ W.cell? ⟨w.heap.size, 1, none⟩ = some (.slice a n cap) ∧ Rest8 w n S W) (hn : n ≤ 65536) (hsum : sumS S n ≤ 1048576) :
    Calls Try.prog 15 #[.slice (some ⟨w.heap.size + 1, 0, none⟩) n n, .string ⟨#[59]⟩] W fun e w' => RetStr ⟨(jn S n).toArray⟩ W e w' :=
  join15 _ n S W 9 h.2.2.1 hn hsum

theorem strs3 (W : World) (id : ByteArray) (n : Nat) (S : Nat → ByteArray) : Strs (W.alloc (.cells #[.string id, .string (dec n), .string ⟨(jn S n).toArray⟩] 9)) (some ⟨W.heap.size, 0, none⟩) 3 (fieldsOf id n S) := by
  intro _
  refine ⟨W.heap.size, 0, rfl, fun i hi => ?_⟩
  rw [World.cell?_alloc_at _ _ _ _ rfl]
  match i, hi with
  | 0, _ => rfl
  | 1, _ => rfl
  | 2, _ => rfl

set_option maxHeartbeats 1000000 in
theorem fields (id : ByteArray) (a : Option Addr) (n cap : Nat) (S : Nat → ByteArray) (w : World) (hn : n ≤ 65536) (hsum : sumS S n ≤ 1048576) (h : Strs w a n S) :
    Calls Try.prog 8 #[.agg #[.string id, .slice a n cap]] w fun e w' => RetS 3 (fieldsOf id n S) w e w' := by
  have hmk := run_make_row' (P := Try.prog) 22 9 (.string ByteArray.empty) 16 Try.underlying22 info9 rfl .i64 .i64 n (by omega) (by omega)
  go_enter Try.func8, Try.ntmps8
  go_wp2
  go_loopw [4, 5, 13] (fun _ _ i wr => ∃ k : Nat, k ≤ n ∧ i = .int .i64 k ∧ wr.rowIs (w.heap.size + 1) 9 n (upTo S k) ∧ Below (w.heap.size + 1) (w.alloc (.cells #[.string id, .slice a n cap] 28)) wr) (fun _ _ i _ => n - (intOf i).toNat)
  case atStart => exact ⟨0, Nat.zero_le _, rfl, upTo_made w _ n S, (Below.refl _ _).alloc (by simp) _⟩
  case round =>
    obtain ⟨k, hk, rfl, hrow, hbel⟩ := hrel
    by_cases hlt : k < n
    · obtain ⟨b, off, e, hc⟩ := h (by omega)
      subst e
      have hcw := hc k hlt
      have hbl := lt_of_cell hcw
      have hcell : wr.cell? ⟨b, off + k, none⟩ = some (.string (S k)) := by
        rw [hbel.cell (p := ⟨b, off + k, none⟩) (Nat.lt_succ_of_lt hbl), World.cell?_alloc_past _ _ _ hbl]
        exact hcw
      have hdst : wr.cell? ⟨w.heap.size + 1, k, none⟩ = some (upTo S k k) := hrow.cell hlt
      have hfz : wr.frozen? ⟨w.heap.size + 1, k, none⟩ = false := hrow.frozen k
      have HR := upTo_set hrow
      have HB := hbel.setCell (p := ⟨w.heap.size + 1, k, none⟩) (Nat.le_refl _) (.string (S k))
      clear hc hcw h hrow hbel hmk
      go_wp2
      go_roundw
      case rel => exact ⟨k + 1, by omega, by go_num, HR, HB⟩
      case measure => simp [intOf]; omega
    · have hkn : k = n := by omega
      subst hkn
      have hc0 : wr.cell? ⟨w.heap.size, 0, none⟩ = some (.string id) := by
        rw [hbel.cell (p := ⟨w.heap.size, 0, none⟩) (Nat.lt_succ_self _)]; simp
      have hc1 : wr.cell? ⟨w.heap.size, 1, none⟩ = some (.slice a k cap) := by
        rw [hbel.cell (p := ⟨w.heap.size, 1, none⟩) (Nat.lt_succ_self _)]; simp
      have hr8 : Rest8 w k S wr := ⟨hrow, ((Below.refl _ _).alloc (Nat.le_refl _) _).trans (hbel.mono (by simp))⟩
      clear hmk h hrow hbel
      go_wp2
      go_region_held3 (fun w' => w'.cell? ⟨w.heap.size, 0, none⟩ = some (.string id) ∧ w'.cell? ⟨w.heap.size, 1, none⟩ = some (.slice a k cap) ∧ Rest8 w k S w') (first | exact keep8 ⟨hc0, hc1, hr8⟩ ((Below.refl _ _).drew) | exact keep8 (by assumption) (by assumption) | exact keep8 (by assumption) ((Below.refl _ _).alloc (Nat.le_refl _) _))
        (first | (go_at_call 14; refine (decision _ _ _ _ _ hn).mono ?_; rintro e w2 ⟨rfl, hbA⟩) | (go_at_call 15; refine (join15h (id := id) (a := a) (cap := cap) (by assumption) hn hsum).mono ?_; rintro e w3 ⟨rfl, hbB⟩))
      go_wp2
      go_ret
      rename_i hh
      exact ⟨_, rfl, strs3 w3 id k S, hh.2.2.2⟩
end Go.Proofs.Qxb6603206a
