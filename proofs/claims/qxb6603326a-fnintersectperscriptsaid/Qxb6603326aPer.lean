/-
  FnIntersectPerScript (5): the law out of the contracts.
-/
import Derived.Test.Qxb6603326aWalk2
import Derived.Deep.RegionHeld3
namespace Go.Proofs.Qxb6603326a
open Go.RowKit

/-- It hands back true; nothing old has turned. -/
def Law (w : World) (e : Ending) (w' : World) : Prop := e = .returned (.bool true) ∧ Below w.heap.size w w'

/-- The three sets in their boxes; all old memory as it was. -/
def Three (w : World) (M : Nat) (s0 s1 s2 t0 t1 t2 m0 m1 m2 : Int) (W : World) : Prop :=
  Box W w.heap.size s0 s1 s2 ∧ Box W (w.heap.size + 1) t0 t1 t2 ∧ Box W M m0 m1 m2 ∧ Below w.heap.size w W

theorem Three.step {w : World} {M : Nat} {s0 s1 s2 t0 t1 t2 m0 m1 m2 : Int} {W W' : World} (h : Three w M s0 s1 s2 t0 t1 t2 m0 m1 m2 W) (hb : Below W.heap.size W W') : Three w M s0 s1 s2 t0 t1 t2 m0 m1 m2 W' :=
  ⟨h.1.below hb h.1.lt, h.2.1.below hb h.2.1.lt, h.2.2.1.below hb h.2.2.1.lt, h.2.2.2.trans (hb.mono h.2.2.2.size)⟩

theorem Three.start {w w1 : World} {s0 s1 s2 t0 t1 t2 m0 m1 m2 : Int}
    (hb : Below (w.heap.size + 1 + 1) ((w.alloc (.cells #[.int .u64 s0, .int .u64 s1, .int .u64 s2] 31)).alloc (.cells #[.int .u64 t0, .int .u64 t1, .int .u64 t2] 31)) w1) :
    Three w w1.heap.size s0 s1 s2 t0 t1 t2 m0 m1 m2 (w1.alloc (.cells #[.int .u64 m0, .int .u64 m1, .int .u64 m2] 31)) := by
  have hb' : Below (w.heap.size + 1 + 1) ((w.alloc (.cells #[.int .u64 s0, .int .u64 s1, .int .u64 s2] 31)).alloc (.cells #[.int .u64 t0, .int .u64 t1, .int .u64 t2] 31)) (w1.alloc (.cells #[.int .u64 m0, .int .u64 m1, .int .u64 m2] 31)) :=
    hb.alloc (by have := hb.size; simp at this; omega) _
  refine ⟨?_, ?_, ?_, ?_⟩
  · refine Box.below ?_ hb' (by omega)
    exact ⟨by simp, by simp, by simp⟩
  · refine Box.below ?_ hb' (by omega)
    exact ⟨by simp, by simp, by simp⟩
  · exact ⟨by simp, by simp, by simp⟩
  · exact (((Below.refl _ _).alloc (Nat.le_refl _) _).alloc (by simp) _).trans (hb'.mono (by omega))

theorem Three.all {w : World} {M : Nat} {s0 s1 s2 t0 t1 t2 m0 m1 m2 : Int} {W : World} (h : Three w M s0 s1 s2 t0 t1 t2 m0 m1 m2 W) :
    W.cell? ⟨w.heap.size, 0, none⟩ = some (.int .u64 s0) ∧ W.cell? ⟨w.heap.size, 1, none⟩ = some (.int .u64 s1) ∧ W.cell? ⟨w.heap.size, 2, none⟩ = some (.int .u64 s2) ∧ W.cell? ⟨w.heap.size + 1, 0, none⟩ = some (.int .u64 t0) ∧ W.cell? ⟨w.heap.size + 1, 1, none⟩ = some (.int .u64 t1) ∧ W.cell? ⟨w.heap.size + 1, 2, none⟩ = some (.int .u64 t2) ∧ W.cell? ⟨M, 0, none⟩ = some (.int .u64 m0) ∧ W.cell? ⟨M, 1, none⟩ = some (.int .u64 m1) ∧ W.cell? ⟨M, 2, none⟩ = some (.int .u64 m2) ∧ Three w M s0 s1 s2 t0 t1 t2 m0 m1 m2 W :=
  ⟨h.1.1, h.1.2.1, h.1.2.2, h.2.1.1, h.2.1.2.1, h.2.1.2.2, h.2.2.1.1, h.2.2.1.2.1, h.2.2.1.2.2, h⟩
theorem Three.keep {w : World} {M : Nat} {s0 s1 s2 t0 t1 t2 m0 m1 m2 : Int} {W W' : World} (h : W.cell? ⟨w.heap.size, 0, none⟩ = some (.int .u64 s0) ∧ W.cell? ⟨w.heap.size, 1, none⟩ = some (.int .u64 s1) ∧ W.cell? ⟨w.heap.size, 2, none⟩ = some (.int .u64 s2) ∧ W.cell? ⟨w.heap.size + 1, 0, none⟩ = some (.int .u64 t0) ∧ W.cell? ⟨w.heap.size + 1, 1, none⟩ = some (.int .u64 t1) ∧ W.cell? ⟨w.heap.size + 1, 2, none⟩ = some (.int .u64 t2) ∧ W.cell? ⟨M, 0, none⟩ = some (.int .u64 m0) ∧ W.cell? ⟨M, 1, none⟩ = some (.int .u64 m1) ∧ W.cell? ⟨M, 2, none⟩ = some (.int .u64 m2) ∧ Three w M s0 s1 s2 t0 t1 t2 m0 m1 m2 W) (hb : Below W.heap.size W W') :
    W'.cell? ⟨w.heap.size, 0, none⟩ = some (.int .u64 s0) ∧ W'.cell? ⟨w.heap.size, 1, none⟩ = some (.int .u64 s1) ∧ W'.cell? ⟨w.heap.size, 2, none⟩ = some (.int .u64 s2) ∧ W'.cell? ⟨w.heap.size + 1, 0, none⟩ = some (.int .u64 t0) ∧ W'.cell? ⟨w.heap.size + 1, 1, none⟩ = some (.int .u64 t1) ∧ W'.cell? ⟨w.heap.size + 1, 2, none⟩ = some (.int .u64 t2) ∧ W'.cell? ⟨M, 0, none⟩ = some (.int .u64 m0) ∧ W'.cell? ⟨M, 1, none⟩ = some (.int .u64 m1) ∧ W'.cell? ⟨M, 2, none⟩ = some (.int .u64 m2) ∧ Three w M s0 s1 s2 t0 t1 t2 m0 m1 m2 W' :=
  (h.2.2.2.2.2.2.2.2.2.step hb).all

theorem Three.out {w : World} {M : Nat} {s0 s1 s2 t0 t1 t2 m0 m1 m2 : Int} {W : World} (h : W.cell? ⟨w.heap.size, 0, none⟩ = some (.int .u64 s0) ∧ W.cell? ⟨w.heap.size, 1, none⟩ = some (.int .u64 s1) ∧ W.cell? ⟨w.heap.size, 2, none⟩ = some (.int .u64 s2) ∧ W.cell? ⟨w.heap.size + 1, 0, none⟩ = some (.int .u64 t0) ∧ W.cell? ⟨w.heap.size + 1, 1, none⟩ = some (.int .u64 t1) ∧ W.cell? ⟨w.heap.size + 1, 2, none⟩ = some (.int .u64 t2) ∧ W.cell? ⟨M, 0, none⟩ = some (.int .u64 m0) ∧ W.cell? ⟨M, 1, none⟩ = some (.int .u64 m1) ∧ W.cell? ⟨M, 2, none⟩ = some (.int .u64 m2) ∧ Three w M s0 s1 s2 t0 t1 t2 m0 m1 m2 W) : Three w M s0 s1 s2 t0 t1 t2 m0 m1 m2 W := h.2.2.2.2.2.2.2.2.2

theorem hasBitIs {x0 x1 x2 : Int} {p : Nat} {r : Bool} (hr : has x0 x1 x2 p = r) (w : World) (hp : p < 192) (h0 : W64 x0) (h1 : W64 x1) (h2 : W64 x2) :
    Calls Try.prog 16 #[.agg #[.int .u64 x0, .int .u64 x1, .int .u64 x2], .int .i64 p] w fun e w' => RetBool r w e w' := by
  subst hr
  exact hasBit x0 x1 x2 p w hp h0 h1 h2

set_option maxHeartbeats 1000000 in
set_option maxRecDepth 20000 in
theorem per5 (s0 s1 s2 t0 t1 t2 : Int) (w : World) (hs0 : W64 s0) (hs1 : W64 s1) (hs2 : W64 s2) (ht0 : W64 t0) (ht1 : W64 t1) (ht2 : W64 t2) :
    Calls Try.prog 5 #[.agg #[.int .u64 s0, .int .u64 s1, .int .u64 s2], .agg #[.int .u64 t0, .int .u64 t1, .int .u64 t2]] w fun e w' => Law w e w' := by
  go_enter Try.func5, Try.ntmps5
  go_wp2_with fail
  refine (zzIntersect s0 s1 s2 t0 t1 t2 _).mono ?_
  rintro e w1 ⟨rfl, hb⟩
  have hm0 := andW_wf hs0 ht0
  have hm1 := andW_wf hs1 ht1
  have hm2 := andW_wf hs2 ht2
  have hand := hide (has_and hs0 hs1 hs2 ht0 ht1 ht2)
  have hT := hide (Three.start (m0 := andW s0 t0) (m1 := andW s1 t1) (m2 := andW s2 t2) (by simpa using hb))
  have hlt1 : w.heap.size + 1 < w1.heap.size := by have := hb.size; simp at this; omega
  obtain ⟨m0, hm0e⟩ : ∃ m, m = andW s0 t0 := ⟨_, rfl⟩
  obtain ⟨m1, hm1e⟩ : ∃ m, m = andW s1 t1 := ⟨_, rfl⟩
  obtain ⟨m2, hm2e⟩ : ∃ m, m = andW s2 t2 := ⟨_, rfl⟩
  simp only [← hm0e, ← hm1e, ← hm2e] at hm0 hm1 hm2 hT hand ⊢
  clear hm0e hm1e hm2e hb
  go_wp2
  go_loopw [6] (fun i wr => ∃ k : Nat, k ≤ 192 ∧ i = .int .i64 k ∧ Three w w1.heap.size s0 s1 s2 t0 t1 t2 m0 m1 m2 wr) (fun i _ => 192 - (intOf i).toNat)
  case atStart => exact ⟨0, by omega, rfl, unhide hT⟩
  case round =>
    clear hT
    obtain ⟨k, hk, rfl, hT⟩ := hrel
    by_cases hlt : k < 192
    · cases hrs : has s0 s1 s2 k with
      | true =>
        cases hrt : has t0 t1 t2 k with
        | true =>
          have hrm : has m0 m1 m2 k = true := by rw [unhide hand k, hrs, hrt]; rfl
          go_wp2
          go_region_held3 (fun W => W.cell? ⟨w.heap.size, 0, none⟩ = some (.int .u64 s0) ∧ W.cell? ⟨w.heap.size, 1, none⟩ = some (.int .u64 s1) ∧ W.cell? ⟨w.heap.size, 2, none⟩ = some (.int .u64 s2) ∧ W.cell? ⟨w.heap.size + 1, 0, none⟩ = some (.int .u64 t0) ∧ W.cell? ⟨w.heap.size + 1, 1, none⟩ = some (.int .u64 t1) ∧ W.cell? ⟨w.heap.size + 1, 2, none⟩ = some (.int .u64 t2) ∧ W.cell? ⟨w1.heap.size, 0, none⟩ = some (.int .u64 m0) ∧ W.cell? ⟨w1.heap.size, 1, none⟩ = some (.int .u64 m1) ∧ W.cell? ⟨w1.heap.size, 2, none⟩ = some (.int .u64 m2) ∧ Three w w1.heap.size s0 s1 s2 t0 t1 t2 m0 m1 m2 W) (first | exact (hT.step ((Below.refl _ _).drew)).all | exact Three.keep (by assumption) (by assumption) | exact Three.keep (by assumption) ((Below.refl _ _).drew))
            (first | (go_at_call_of 16 (Value.agg #[Value.int IntKind.u64 m0, Value.int IntKind.u64 m1, Value.int IntKind.u64 m2]); refine (hasBitIs hrm _ hlt hm0 hm1 hm2).mono ?_; rintro e w2 ⟨rfl, hbA⟩) | (go_at_call_of 16 (Value.agg #[Value.int IntKind.u64 s0, Value.int IntKind.u64 s1, Value.int IntKind.u64 s2]); refine (hasBitIs hrs _ hlt hs0 hs1 hs2).mono ?_; rintro e w3 ⟨rfl, hbB⟩) | (go_at_call_of 16 (Value.agg #[Value.int IntKind.u64 t0, Value.int IntKind.u64 t1, Value.int IntKind.u64 t2]); refine (hasBitIs hrt _ hlt ht0 ht1 ht2).mono ?_; rintro e w4 ⟨rfl, hbC⟩))
          go_wp2
          go_roundw
          case rel => exact ⟨k + 1, by omega, by go_num, Three.out (by assumption)⟩
          case measure => simp [intOf]; omega
        | false =>
          have hrm : has m0 m1 m2 k = false := by rw [unhide hand k, hrs, hrt]; rfl
          go_wp2
          go_region_held3 (fun W => W.cell? ⟨w.heap.size, 0, none⟩ = some (.int .u64 s0) ∧ W.cell? ⟨w.heap.size, 1, none⟩ = some (.int .u64 s1) ∧ W.cell? ⟨w.heap.size, 2, none⟩ = some (.int .u64 s2) ∧ W.cell? ⟨w.heap.size + 1, 0, none⟩ = some (.int .u64 t0) ∧ W.cell? ⟨w.heap.size + 1, 1, none⟩ = some (.int .u64 t1) ∧ W.cell? ⟨w.heap.size + 1, 2, none⟩ = some (.int .u64 t2) ∧ W.cell? ⟨w1.heap.size, 0, none⟩ = some (.int .u64 m0) ∧ W.cell? ⟨w1.heap.size, 1, none⟩ = some (.int .u64 m1) ∧ W.cell? ⟨w1.heap.size, 2, none⟩ = some (.int .u64 m2) ∧ Three w w1.heap.size s0 s1 s2 t0 t1 t2 m0 m1 m2 W) (first | exact (hT.step ((Below.refl _ _).drew)).all | exact Three.keep (by assumption) (by assumption) | exact Three.keep (by assumption) ((Below.refl _ _).drew))
            (first | (go_at_call_of 16 (Value.agg #[Value.int IntKind.u64 m0, Value.int IntKind.u64 m1, Value.int IntKind.u64 m2]); refine (hasBitIs hrm _ hlt hm0 hm1 hm2).mono ?_; rintro e w2 ⟨rfl, hbA⟩) | (go_at_call_of 16 (Value.agg #[Value.int IntKind.u64 s0, Value.int IntKind.u64 s1, Value.int IntKind.u64 s2]); refine (hasBitIs hrs _ hlt hs0 hs1 hs2).mono ?_; rintro e w3 ⟨rfl, hbB⟩) | (go_at_call_of 16 (Value.agg #[Value.int IntKind.u64 t0, Value.int IntKind.u64 t1, Value.int IntKind.u64 t2]); refine (hasBitIs hrt _ hlt ht0 ht1 ht2).mono ?_; rintro e w4 ⟨rfl, hbC⟩))
          go_wp2
          go_roundw
          case rel => exact ⟨k + 1, by omega, by go_num, Three.out (by assumption)⟩
          case measure => simp [intOf]; omega
      | false =>
        have hrm : has m0 m1 m2 k = false := by rw [unhide hand k, hrs]; rfl
        go_wp2
        have hTd := hT.step ((Below.refl _ _).drew)
        obtain ⟨c0, c1, c2, c3, c4, c5, c6, c7, c8, _⟩ := hT.all
        first | (go_region_with (first | (go_at_call_of 16 (Value.agg #[Value.int IntKind.u64 m0, Value.int IntKind.u64 m1, Value.int IntKind.u64 m2]); refine (hasBitIs hrm _ hlt hm0 hm1 hm2).mono ?_; rintro e w2 ⟨rfl, hbA⟩; have hT2 := hTd.step hbA; obtain ⟨e0, e1, e2, e3, e4, e5, e6, e7, e8, _⟩ := hT2.all) | (go_at_call_of 16 (Value.agg #[Value.int IntKind.u64 s0, Value.int IntKind.u64 s1, Value.int IntKind.u64 s2]); refine (hasBitIs hrs _ hlt hs0 hs1 hs2).mono ?_; rintro e w3 ⟨rfl, hbB⟩; have hT3 := hT2.step hbB))) | fail
        all_goals go_wp2
        all_goals go_roundw
        all_goals first | exact ⟨k + 1, by omega, by go_num, hT3⟩ | (simp [intOf]; omega)
    · have hkn : k = 192 := by omega
      subst hkn
      go_wp2
      go_ret
      exact ⟨rfl, hT.2.2.2⟩
end Go.Proofs.Qxb6603326a
