/-
  hasScriptBit (16), scriptSubset (17).
-/
import Derived.Test.Qxb6603326aRows
import Derived.Test.Qxb6603326aPlain
import Derived.WalkSpells
import Derived.WalkLawsBesides
namespace Go.Proofs.Qxb6603326a
open Go.RowKit

theorem hide {p : Prop} (h : p) : Hid p := h
theorem unhide {p : Prop} (h : Hid p) : p := h

/-- It hands back the bool r; nothing old has turned. -/
def RetBool (r : Bool) (w : World) (e : Ending) (w' : World) : Prop := e = .returned (.bool r) ∧ Below w.heap.size w w'
/-- It hands back whether p; nothing old has turned. -/
def RetWhether (p : Prop) (w : World) (e : Ending) (w' : World) : Prop := ∃ r : Bool, e = .returned (.bool r) ∧ (r = true ↔ p) ∧ Below w.heap.size w w'

/-- The three words of a set as a value. -/
theorem ret_eq {a b : Bool} (h : a = b) : Ending.returned (.bool a) = .returned (.bool b) := by rw [h]

set_option maxHeartbeats 400000 in
theorem hasBit (x0 x1 x2 : Int) (p : Nat) (w : World) (hp : p < 192) (h0 : W64 x0) (h1 : W64 x1) (h2 : W64 x2) :
    Calls Try.prog 16 #[.agg #[.int .u64 x0, .int .u64 x1, .int .u64 x2], .int .i64 p] w fun e w' => RetBool (has x0 x1 x2 p) w e w' := by
  obtain ⟨X, hXe⟩ : ∃ X, X = sel x0 x1 x2 (p / 64) := ⟨_, rfl⟩
  have hX := sel_at x0 x1 x2 p hp
  have hw := sel_wf h0 h1 h2 (p / 64)
  have hr : has x0 x1 x2 p = bitOf X (p % 64) := by rw [hXe]; rfl
  rw [← hXe] at hX hw
  rw [hr]
  obtain ⟨hx, hx'⟩ := hw
  clear hr hXe h0 h1 h2
  go_enter Try.func16, Try.ntmps16
  go_wp2
  go_ret
  exact ⟨rfl, (Below.refl _ _).alloc (Nat.le_refl _) _⟩

/-- The cells of an array of three words at the head of block b. -/
def Box (w : World) (b : Nat) (x0 x1 x2 : Int) : Prop := w.cell? ⟨b, 0, none⟩ = some (.int .u64 x0) ∧ w.cell? ⟨b, 1, none⟩ = some (.int .u64 x1) ∧ w.cell? ⟨b, 2, none⟩ = some (.int .u64 x2)

theorem Box.lt {w : World} {b : Nat} {x0 x1 x2 : Int} (h : Box w b x0 x1 x2) : b < w.heap.size := by
  have := block_lt_of_cell h.1
  simpa using this

theorem Box.below {w w' : World} {b B : Nat} {x0 x1 x2 : Int} (h : Box w b x0 x1 x2) (hb : Below B w w') (hB : b < B) : Box w' b x0 x1 x2 :=
  ⟨(hb.cell (p := ⟨b, 0, none⟩) hB).trans h.1, (hb.cell (p := ⟨b, 1, none⟩) hB).trans h.2.1, (hb.cell (p := ⟨b, 2, none⟩) hB).trans h.2.2⟩

theorem no_sub {a0 a1 a2 b0 b1 b2 : Int} {k : Nat} (hk : k < 192) (ha : has a0 a1 a2 k = true) (hb : has b0 b1 b2 k = false) : (false = true ↔ Sub a0 a1 a2 b0 b1 b2) :=
  ⟨fun h => (by cases h), fun h => absurd (h k hk ha) (by rw [hb]; decide)⟩

set_option maxHeartbeats 400000 in
set_option maxRecDepth 20000 in
theorem subset17 (a0 a1 a2 b0 b1 b2 : Int) (w : World) (ha0 : W64 a0) (ha1 : W64 a1) (ha2 : W64 a2) (hb0 : W64 b0) (hb1 : W64 b1) (hb2 : W64 b2) :
    Calls Try.prog 17 #[.agg #[.int .u64 a0, .int .u64 a1, .int .u64 a2], .agg #[.int .u64 b0, .int .u64 b1, .int .u64 b2]] w fun e w' => RetWhether (Sub a0 a1 a2 b0 b1 b2) w e w' := by
  go_enter Try.func17, Try.ntmps17
  go_wp2
  go_loopw [5] (fun i wr => ∃ k : Nat, k ≤ 192 ∧ i = .int .i64 k ∧ Hid (SubTo a0 a1 a2 b0 b1 b2 k) ∧ Box wr w.heap.size a0 a1 a2 ∧ Box wr (w.heap.size + 1) b0 b1 b2 ∧ Below w.heap.size w wr) (fun i _ => 192 - (intOf i).toNat)
  case atStart => exact ⟨0, by omega, rfl, hide (fun p hp => absurd hp (by omega)), ⟨by simp, by simp, by simp⟩, ⟨by simp, by simp, by simp⟩, ((Below.refl _ _).alloc (Nat.le_refl _) _).alloc (by simp) _⟩
  case round =>
    obtain ⟨k, hk, rfl, HS, hA, hB, hbel⟩ := hrel
    by_cases hlt : k < 192
    · have hA' := hA
      have hB' := hB
      obtain ⟨cA0, cA1, cA2⟩ := hA'
      obtain ⟨cB0, cB1, cB2⟩ := hB'
      go_wp2_with fail
      refine (hasBit a0 a1 a2 k _ hlt ha0 ha1 ha2).mono ?_
      rintro e w1 ⟨rfl, hb1'⟩
      have hA1 := hA.below hb1' hA.lt
      have hB1 := hB.below hb1' hB.lt
      have hbel1 := hbel.trans (hb1'.mono hbel.size)
      clear cA0 cA1 cA2 cB0 cB1 cB2 hb1' hbel hA hB
      cases hra : has a0 a1 a2 k with
      | false =>
        have HRA := hide hra
        clear hra
        go_wp2
        go_roundw
        case rel => exact ⟨k + 1, by omega, by go_num, hide ((unhide HS).step (fun h => by rw [unhide HRA] at h; cases h)), hA1, hB1, hbel1⟩
        case measure => simp [intOf]; omega
      | true =>
        have HRA := hide hra
        clear hra
        have hB1' := hB1
        obtain ⟨cB0, cB1, cB2⟩ := hB1'
        go_wp2_with fail
        refine (hasBit b0 b1 b2 k _ hlt hb0 hb1 hb2).mono ?_
        rintro e w2 ⟨rfl, hb2'⟩
        have hA2 := hA1.below hb2' hA1.lt
        have hB2 := hB1.below hb2' hB1.lt
        have hbel2 := hbel1.trans (hb2'.mono hbel1.size)
        clear cB0 cB1 cB2 hb2' hbel1 hA1 hB1
        cases hrb : has b0 b1 b2 k with
        | true =>
          have HRB := hide hrb
          clear hrb
          go_wp2
          go_roundw
          case rel => exact ⟨k + 1, by omega, by go_num, hide ((unhide HS).step (fun _ => unhide HRB)), hA2, hB2, hbel2⟩
          case measure => simp [intOf]; omega
        | false =>
          have HRB := hide hrb
          clear hrb
          go_wp2
          go_ret
          exact ⟨false, rfl, no_sub hlt (unhide HRA) (unhide HRB), hbel2⟩
    · have hkn : k = 192 := by omega
      subst hkn
      clear hA hB
      go_wp2
      go_ret
      exact ⟨true, rfl, ⟨fun _ => unhide HS, fun _ => rfl⟩, hbel⟩
end Go.Proofs.Qxb6603326a
