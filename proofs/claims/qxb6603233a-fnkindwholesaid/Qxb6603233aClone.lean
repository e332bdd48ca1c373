/-
  novaB1CloneStrs (10), novaB1CloneBools (11), novaB1CloneNested (12): fresh copies.
-/
import Derived.Test.Qxb6603233aBase
namespace Go.Proofs.Qxb6603233a
open Go.RowKit

/-- What a copying loop has done behind k rounds. -/
def upTo (z : Value) (f : Nat → Value) (k : Nat) (j : Nat) : Value := if j < k then f j else z

theorem upTo_set {w : World} {b : Nat} {t : TypeId} {n k : Nat} {z : Value} {f : Nat → Value} (h : w.rowIs b t n (upTo z f k)) : (w.setCell ⟨b, k, none⟩ (f k)).rowIs b t n (upTo z f (k + 1)) := by
  refine (h.set k (f k)).congr fun i hi => ?_
  unfold upTo
  by_cases e : i = k
  · subst e; simp
  · rw [if_neg e]
    by_cases l : i < k
    · rw [if_pos l, if_pos (by omega)]
    · rw [if_neg l, if_neg (by omega)]

theorem upTo_row {w : World} {b : Nat} {t : TypeId} {n : Nat} {z : Value} {f : Nat → Value} {base : Nat} (hb : base ≤ b) (h : w.rowIs b t n (upTo z f n)) : Row w base (some ⟨b, 0, none⟩) n f := by
  intro _
  refine ⟨b, 0, rfl, hb, fun i hi => ?_⟩
  rw [Nat.zero_add, h.cell hi]
  simp [upTo, hi]

/-- It hands back a slice of the same values in new memory; nothing old has turned. -/
def RetRow (n : Nat) (f : Nat → Value) (w : World) (e : Ending) (w' : World) : Prop := ∃ a', e = .returned (.slice a' n n) ∧ Row w' w.heap.size a' n f ∧ Below w.heap.size w w'

set_option maxHeartbeats 400000 in
theorem cloneStrs (a : Option Addr) (n cap : Nat) (S : Nat → ByteArray) (w : World) (hn : n ≤ 1048576) (h : Row w 0 a n (strs S)) :
    Calls Try.prog 10 #[.slice a n cap] w fun e w' => RetRow n (strs S) w e w' := by
  have hnil := fun w a n c n' c' => Lib.run_eql_slice_nil (P := Try.prog) w 22 9 a n c n' c' Try.underlying22
  cases a with
  | none =>
    have hn0 := h.nil
    subst hn0
    go_enter Try.func10, Try.ntmps10
    go_wp2
    go_ret
    exact ⟨none, rfl, fun h => absurd h (by omega), Below.refl _ _⟩
  | some ad =>
    have hmk := run_make_row' (P := Try.prog) 22 9 (.string ByteArray.empty) 16 Try.underlying22 info9 rfl .i64 .i64 n (by omega) (by omega)
    go_enter Try.func10, Try.ntmps10
    go_wp2
    go_loopw [4] (fun i wr => ∃ k : Nat, k ≤ n ∧ i = .int .i64 k ∧ wr.rowIs w.heap.size 9 n (upTo (.string ByteArray.empty) (strs S) k) ∧ Below w.heap.size w wr) (fun i _ => n - (intOf i).toNat)
    case atStart => exact ⟨0, Nat.zero_le _, rfl, (World.rowIs_made w _ n 9).congr fun i _ => by simp [upTo], (Below.refl _ _).alloc (Nat.le_refl _) _⟩
    case round =>
      obtain ⟨k, hk, rfl, hrow, hbel⟩ := hrel
      by_cases hlt : k < n
      · obtain ⟨b, off, e, _, hc⟩ := h (by omega)
        cases e
        have hcw : w.cell? ⟨b, off + k, none⟩ = some (.string (S k)) := hc k hlt
        have hcell : wr.cell? ⟨b, off + k, none⟩ = some (.string (S k)) := (hbel.cell (p := ⟨b, off + k, none⟩) (lt_of_cell hcw)).trans hcw
        have hdst := hrow.cell hlt
        have hfz : wr.frozen? ⟨w.heap.size, k, none⟩ = false := hrow.frozen k
        have HR : Hid _ := upTo_set hrow
        have HB : Hid _ := hbel.setCell (p := ⟨w.heap.size, k, none⟩) (Nat.le_refl _) (.string (S k))
        clear hc hcw h hrow hbel hnil hmk
        go_wp2
        go_roundw
        case rel => exact ⟨k + 1, by omega, by go_num, HR, HB⟩
        case measure => simp [intOf]; omega
      · have hkn : k = n := by omega
        subst hkn
        have hst := upTo_row (Nat.le_refl _) hrow
        clear hnil hmk hrow h
        go_wp2
        go_ret
        exact ⟨_, rfl, hst, hbel⟩

set_option maxHeartbeats 400000 in
theorem cloneBools (a : Option Addr) (n cap : Nat) (S : Nat → Bool) (w : World) (hn : n ≤ 1048576) (h : Row w 0 a n (bools S)) :
    Calls Try.prog 11 #[.slice a n cap] w fun e w' => RetRow n (bools S) w e w' := by
  have hnil := fun w a n c n' c' => Lib.run_eql_slice_nil (P := Try.prog) w 23 4 a n c n' c' Try.underlying23
  cases a with
  | none =>
    have hn0 := h.nil
    subst hn0
    go_enter Try.func11, Try.ntmps11
    go_wp2
    go_ret
    exact ⟨none, rfl, fun h => absurd h (by omega), Below.refl _ _⟩
  | some ad =>
    have hmk := run_make_row' (P := Try.prog) 23 4 (.bool false) 1 Try.underlying23 info4 rfl .i64 .i64 n (by omega) (by omega)
    go_enter Try.func11, Try.ntmps11
    go_wp2
    go_loopw [4] (fun i wr => ∃ k : Nat, k ≤ n ∧ i = .int .i64 k ∧ wr.rowIs w.heap.size 4 n (upTo (.bool false) (bools S) k) ∧ Below w.heap.size w wr) (fun i _ => n - (intOf i).toNat)
    case atStart => exact ⟨0, Nat.zero_le _, rfl, (World.rowIs_made w _ n 4).congr fun i _ => by simp [upTo], (Below.refl _ _).alloc (Nat.le_refl _) _⟩
    case round =>
      obtain ⟨k, hk, rfl, hrow, hbel⟩ := hrel
      by_cases hlt : k < n
      · obtain ⟨b, off, e, _, hc⟩ := h (by omega)
        cases e
        have hcw : w.cell? ⟨b, off + k, none⟩ = some (.bool (S k)) := hc k hlt
        have hcell : wr.cell? ⟨b, off + k, none⟩ = some (.bool (S k)) := (hbel.cell (p := ⟨b, off + k, none⟩) (lt_of_cell hcw)).trans hcw
        have hdst := hrow.cell hlt
        have hfz : wr.frozen? ⟨w.heap.size, k, none⟩ = false := hrow.frozen k
        have HR : Hid _ := upTo_set hrow
        have HB : Hid _ := hbel.setCell (p := ⟨w.heap.size, k, none⟩) (Nat.le_refl _) (.bool (S k))
        clear hc hcw h hrow hbel hnil hmk
        go_wp2
        go_roundw
        case rel => exact ⟨k + 1, by omega, by go_num, HR, HB⟩
        case measure => simp [intOf]; omega
      · have hkn : k = n := by omega
        subst hkn
        have hst := upTo_row (Nat.le_refl _) hrow
        clear hnil hmk hrow h
        go_wp2
        go_ret
        exact ⟨_, rfl, hst, hbel⟩

/-- It hands back slices of the same strings in new memory, at both levels. -/
def RetNest (n : Nat) (M : Nat → Nat) (U : Nat → Nat → ByteArray) (w : World) (e : Ending) (w' : World) : Prop := ∃ a' A', e = .returned (.slice a' n n) ∧ Nest w' w.heap.size a' n A' M M U ∧ Below w.heap.size w w'

/-- Behind k rounds. -/
def NestTo (w wr : World) (n k : Nat) (M : Nat → Nat) (U : Nat → Nat → ByteArray) : Prop :=
  ∃ A', wr.rowIs w.heap.size 22 n (upTo (.slice none 0 0) (slcs A' M M) k) ∧ (∀ j, j < k → Row wr (w.heap.size + 1) (A' j) (M j) (strs (U j))) ∧ Below w.heap.size w wr

theorem NestTo.step {w wr w1 : World} {n k : Nat} {M : Nat → Nat} {U : Nat → Nat → ByteArray} {a' : Option Addr} (h : NestTo w wr n k M U) (hr : Row w1 wr.heap.size a' (M k) (strs (U k))) (hb : Below wr.heap.size wr w1) :
    NestTo w (w1.setCell ⟨w.heap.size, k, none⟩ (.slice a' (M k) (M k))) n (k + 1) M U := by
  obtain ⟨A', h1, h2, h3⟩ := h
  have hlt := h1.lt
  refine ⟨fun j => if j = k then a' else A' j, ?_, fun j hj => ?_, (h3.trans (hb.mono h3.size)).setCell (Nat.le_refl _) _⟩
  · refine ((h1.of_block (hb.block _ hlt)).set k _).congr fun i hi => ?_
    unfold upTo slcs
    by_cases e : i = k
    · subst e; simp
    · rw [if_neg e]
      by_cases l : i < k
      · rw [if_pos l, if_pos (by omega)]; simp [e]
      · rw [if_neg l, if_neg (by omega)]
  · have hk : Kept (w.heap.size + 1) w1 (w1.setCell ⟨w.heap.size, k, none⟩ (.slice a' (M k) (M k))) := Kept.setCell w1 (p := ⟨w.heap.size, k, none⟩) (Nat.lt_succ_self _) _
    by_cases e : j = k
    · subst e
      simp only [if_true]
      exact (hr.mono (by omega)).kept hk
    · simp only [if_neg e]
      exact ((h2 j (by omega)).below hb).kept hk

theorem NestTo.cells {w wr w1 : World} {n k : Nat} {M : Nat → Nat} {U : Nat → Nat → ByteArray} (h : NestTo w wr n k M U) (hb : Below wr.heap.size wr w1) (hk : k < n) :
    w1.cell? ⟨w.heap.size, k, none⟩ = some (.slice none 0 0) ∧ w1.frozen? ⟨w.heap.size, k, none⟩ = false := by
  obtain ⟨A', h1, h2, h3⟩ := h
  have h4 := h1.of_block (hb.block _ h1.lt)
  exact ⟨by rw [h4.cell hk]; simp [upTo], h4.frozen k⟩

theorem NestTo.done {w wr : World} {n : Nat} {M : Nat → Nat} {U : Nat → Nat → ByteArray} (h : NestTo w wr n n M U) : ∃ A', Nest wr w.heap.size (some ⟨w.heap.size, 0, none⟩) n A' M M U ∧ Below w.heap.size w wr := by
  obtain ⟨A', h1, h2, h3⟩ := h
  exact ⟨A', ⟨upTo_row (Nat.le_refl _) h1, fun i hi => (h2 i hi).mono (by omega)⟩, h3⟩

set_option maxHeartbeats 400000 in
theorem cloneNested (a : Option Addr) (n cap : Nat) (A : Nat → Option Addr) (M C : Nat → Nat) (U : Nat → Nat → ByteArray) (w : World) (hn : n ≤ 1048576) (hM : ∀ j, j < n → M j ≤ 1048576) (h : Nest w 0 a n A M C U) :
    Calls Try.prog 12 #[.slice a n cap] w fun e w' => RetNest n M U w e w' := by
  have hnil := fun w a n c n' c' => Lib.run_eql_slice_nil (P := Try.prog) w 24 22 a n c n' c' Try.underlying24
  cases a with
  | none =>
    have hn0 := h.row.nil
    subst hn0
    go_enter Try.func12, Try.ntmps12
    go_wp2
    go_ret
    exact ⟨none, fun _ => none, rfl, ⟨fun h => absurd h (by omega), fun i hi => absurd hi (by omega)⟩, Below.refl _ _⟩
  | some ad =>
    have hmk := run_make_row' (P := Try.prog) 24 22 (.slice none 0 0) 24 Try.underlying24 info22 rfl .i64 .i64 n (by omega) (by omega)
    go_enter Try.func12, Try.ntmps12
    go_wp2
    go_loopw [4] (fun i wr => ∃ k : Nat, k ≤ n ∧ i = .int .i64 k ∧ NestTo w wr n k M U) (fun i _ => n - (intOf i).toNat)
    case atStart => exact ⟨0, Nat.zero_le _, rfl, fun _ => none, (World.rowIs_made w _ n 22).congr fun i _ => by simp [upTo], fun j hj => absurd hj (by omega), (Below.refl _ _).alloc (Nat.le_refl _) _⟩
    case round =>
      obtain ⟨k, hk, rfl, hto⟩ := hrel
      have hbel : Below w.heap.size w wr := by obtain ⟨_, _, _, h3⟩ := hto; exact h3
      by_cases hlt : k < n
      · obtain ⟨b, off, e, _, hc⟩ := h.row (by omega)
        cases e
        have hcw : w.cell? ⟨b, off + k, none⟩ = some (.slice (A k) (M k) (C k)) := hc k hlt
        have hcell : wr.cell? ⟨b, off + k, none⟩ = some (.slice (A k) (M k) (C k)) := (hbel.cell (p := ⟨b, off + k, none⟩) (lt_of_cell hcw)).trans hcw
        have HI : Hid _ := (h.inner k hlt).below hbel
        have HM := hM k hlt
        have HT : Hid _ := hto
        clear hc hcw h hto hbel hnil hmk hM
        go_wp2_with fail
        refine (cloneStrs (A k) (M k) (C k) (U k) _ HM HI).mono ?_
        rintro e w1 ⟨a', rfl, hr, hb⟩
        have hcf := NestTo.cells HT.out hb hlt
        obtain ⟨hdst, hfz⟩ := hcf
        have HS : Hid _ := NestTo.step HT.out hr hb
        clear hr hb HT HI
        go_wp2
        go_roundw
        case rel => exact ⟨k + 1, by omega, by go_num, HS⟩
        case measure => simp [intOf]; omega
      · have hkn : k = n := by omega
        subst hkn
        have hst := hto.done
        clear hnil hmk hto h hbel
        go_wp2
        go_ret
        obtain ⟨A', h1, h2⟩ := hst
        exact ⟨_, A', rfl, h1, h2⟩
end Go.Proofs.Qxb6603233a
