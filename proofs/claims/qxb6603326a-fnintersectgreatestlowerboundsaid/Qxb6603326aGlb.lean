/-
  FnIntersectGreatestLowerBound (6): the law out of the contracts.
-/
import Derived.Test.Qxb6603326aWalk2
import Derived.Lib.QuietBelow
import Derived.Deep.RegionWith
namespace Go.Proofs.Qxb6603326a
open Go.RowKit Go.Sort

/-- It hands back true; nothing old has turned. -/
def LawG (w : World) (e : Ending) (w' : World) : Prop := e = .returned (.bool true) ∧ Below w.heap.size w w'

theorem subset17Is {a0 a1 a2 b0 b1 b2 : Int} {r : Bool} (hr : r = true ↔ Sub a0 a1 a2 b0 b1 b2) (w : World) (ha0 : W64 a0) (ha1 : W64 a1) (ha2 : W64 a2) (hb0 : W64 b0) (hb1 : W64 b1) (hb2 : W64 b2) :
    Calls Try.prog 17 #[.agg #[.int .u64 a0, .int .u64 a1, .int .u64 a2], .agg #[.int .u64 b0, .int .u64 b1, .int .u64 b2]] w fun e w' => e = .returned (.bool r) ∧ Below w.heap.size w w' := by
  refine (subset17 a0 a1 a2 b0 b1 b2 w ha0 ha1 ha2 hb0 hb1 hb2).mono ?_
  rintro e w' ⟨r', rfl, hr', hb⟩
  have : r' = r := by cases r <;> cases r' <;> simp_all
  subst this
  exact ⟨rfl, hb⟩

/-- THE PLAIN LAW: the meet lies in both; whoever lies in both lies in it. -/
theorem meet_left {s0 s1 s2 t0 t1 t2 : Int} (hand : ∀ p, has (andW s0 t0) (andW s1 t1) (andW s2 t2) p = (has s0 s1 s2 p && has t0 t1 t2 p)) : Sub (andW s0 t0) (andW s1 t1) (andW s2 t2) s0 s1 s2 := by
  intro p _ h
  rw [hand p, Bool.and_eq_true] at h
  exact h.1
theorem meet_right {s0 s1 s2 t0 t1 t2 : Int} (hand : ∀ p, has (andW s0 t0) (andW s1 t1) (andW s2 t2) p = (has s0 s1 s2 p && has t0 t1 t2 p)) : Sub (andW s0 t0) (andW s1 t1) (andW s2 t2) t0 t1 t2 := by
  intro p _ h
  rw [hand p, Bool.and_eq_true] at h
  exact h.2
theorem meet_iff {s0 s1 s2 t0 t1 t2 u0 u1 u2 : Int} (hand : ∀ p, has (andW s0 t0) (andW s1 t1) (andW s2 t2) p = (has s0 s1 s2 p && has t0 t1 t2 p)) :
    Sub u0 u1 u2 (andW s0 t0) (andW s1 t1) (andW s2 t2) ↔ Sub u0 u1 u2 s0 s1 s2 ∧ Sub u0 u1 u2 t0 t1 t2 := by
  constructor
  · intro h
    exact ⟨fun p hp hu => meet_left hand p hp (h p hp hu), fun p hp hu => meet_right hand p hp (h p hp hu)⟩
  · rintro ⟨h1, h2⟩ p hp hu
    rw [hand p, h1 p hp hu, h2 p hp hu]; rfl

theorem truth (p : Prop) : ∃ r : Bool, (r = true ↔ p) := by
  by_cases h : p
  · exact ⟨true, by simp [h]⟩
  · exact ⟨false, by simp [h]⟩

/-- The four sets in their boxes; all old memory as it was. -/
structure Four (w : World) (M : Nat) (s0 s1 s2 t0 t1 t2 u0 u1 u2 m0 m1 m2 : Int) (W : World) : Prop where
  s : Box W w.heap.size s0 s1 s2
  t : Box W (w.heap.size + 1) t0 t1 t2
  u : Box W (w.heap.size + 1 + 1) u0 u1 u2
  m : Box W M m0 m1 m2
  bel : Below w.heap.size w W

theorem Four.step {w : World} {M : Nat} {s0 s1 s2 t0 t1 t2 u0 u1 u2 m0 m1 m2 : Int} {W W' : World} (h : Four w M s0 s1 s2 t0 t1 t2 u0 u1 u2 m0 m1 m2 W) (hb : Below W.heap.size W W') : Four w M s0 s1 s2 t0 t1 t2 u0 u1 u2 m0 m1 m2 W' :=
  ⟨h.s.below hb h.s.lt, h.t.below hb h.t.lt, h.u.below hb h.u.lt, h.m.below hb h.m.lt, h.bel.trans (hb.mono h.bel.size)⟩

theorem three_of {w w1 : World} {s0 s1 s2 t0 t1 t2 u0 u1 u2 : Int}
    (hb : Below (w.heap.size + 1 + 1 + 1) (((w.alloc (.cells #[.int .u64 s0, .int .u64 s1, .int .u64 s2] 31)).alloc (.cells #[.int .u64 t0, .int .u64 t1, .int .u64 t2] 31)).alloc (.cells #[.int .u64 u0, .int .u64 u1, .int .u64 u2] 31)) w1) :
    Box w1 w.heap.size s0 s1 s2 ∧ Box w1 (w.heap.size + 1) t0 t1 t2 ∧ Box w1 (w.heap.size + 1 + 1) u0 u1 u2 := by
  refine ⟨?_, ?_, ?_⟩
  · refine Box.below ?_ hb (by omega)
    exact ⟨by simp [go_sem], by simp [go_sem], by simp [go_sem]⟩
  · refine Box.below ?_ hb (by omega)
    exact ⟨by simp [go_sem], by simp [go_sem], by simp [go_sem]⟩
  · refine Box.below ?_ hb (by omega)
    exact ⟨by simp [go_sem], by simp [go_sem], by simp [go_sem]⟩

theorem Four.start {w w1 : World} {s0 s1 s2 t0 t1 t2 u0 u1 u2 m0 m1 m2 : Int}
    (hb : Below (w.heap.size + 1 + 1 + 1) (((w.alloc (.cells #[.int .u64 s0, .int .u64 s1, .int .u64 s2] 31)).alloc (.cells #[.int .u64 t0, .int .u64 t1, .int .u64 t2] 31)).alloc (.cells #[.int .u64 u0, .int .u64 u1, .int .u64 u2] 31)) w1) :
    Four w w1.heap.size s0 s1 s2 t0 t1 t2 u0 u1 u2 m0 m1 m2 (w1.alloc (.cells #[.int .u64 m0, .int .u64 m1, .int .u64 m2] 31)) := by
  have hb' : Below (w.heap.size + 1 + 1 + 1) (((w.alloc (.cells #[.int .u64 s0, .int .u64 s1, .int .u64 s2] 31)).alloc (.cells #[.int .u64 t0, .int .u64 t1, .int .u64 t2] 31)).alloc (.cells #[.int .u64 u0, .int .u64 u1, .int .u64 u2] 31)) (w1.alloc (.cells #[.int .u64 m0, .int .u64 m1, .int .u64 m2] 31)) :=
    hb.alloc (by have := hb.size; simp at this; omega) _
  refine ⟨?_, ?_, ?_, ?_, ?_⟩
  · refine Box.below ?_ hb' (by omega)
    exact ⟨by simp [go_sem], by simp [go_sem], by simp [go_sem]⟩
  · refine Box.below ?_ hb' (by omega)
    exact ⟨by simp [go_sem], by simp [go_sem], by simp [go_sem]⟩
  · refine Box.below ?_ hb' (by omega)
    exact ⟨by simp [go_sem], by simp [go_sem], by simp [go_sem]⟩
  · exact ⟨by simp [go_sem], by simp [go_sem], by simp [go_sem]⟩
  · exact ((((Below.refl _ _).alloc (Nat.le_refl _) _).alloc (by simp) _).alloc (by simp; omega) _).trans (hb'.mono (by omega))

theorem below_end {w w3 : World} (h : Below w.heap.size w w3) (d : Nat) (os : Array Obj) : Below w.heap.size w (grow (redrawn w3 d) os) := h.trans ((below_regrown w3 d os).mono h.size)

set_option maxHeartbeats 1000000 in
set_option maxRecDepth 20000 in
theorem glb6 (s0 s1 s2 t0 t1 t2 u0 u1 u2 : Int) (w : World) (hs0 : W64 s0) (hs1 : W64 s1) (hs2 : W64 s2) (ht0 : W64 t0) (ht1 : W64 t1) (ht2 : W64 t2) (hu0 : W64 u0) (hu1 : W64 u1) (hu2 : W64 u2) :
    Calls Try.prog 6 #[.agg #[.int .u64 s0, .int .u64 s1, .int .u64 s2], .agg #[.int .u64 t0, .int .u64 t1, .int .u64 t2], .agg #[.int .u64 u0, .int .u64 u1, .int .u64 u2]] w fun e w' => LawG w e w' := by
  go_enter Try.func6, Try.ntmps6
  go_wp2_with fail
  refine (zzIntersect s0 s1 s2 t0 t1 t2 _).mono ?_
  rintro e w1 ⟨rfl, hb⟩
  have hm0 := andW_wf hs0 ht0
  have hm1 := andW_wf hs1 ht1
  have hm2 := andW_wf hs2 ht2
  have hand := has_and hs0 hs1 hs2 ht0 ht1 ht2
  have hL := hide (meet_left hand)
  have hR := hide (meet_right hand)
  have hI := hide (meet_iff (u0 := u0) (u1 := u1) (u2 := u2) hand)
  clear hand
  have hT := hide (Four.start (m0 := andW s0 t0) (m1 := andW s1 t1) (m2 := andW s2 t2) (by simpa using hb))
  have hlt1 : w.heap.size + 1 + 1 < w1.heap.size := by have := hb.size; simp at this; omega
  obtain ⟨m0, hm0e⟩ : ∃ m, m = andW s0 t0 := ⟨_, rfl⟩
  obtain ⟨m1, hm1e⟩ : ∃ m, m = andW s1 t1 := ⟨_, rfl⟩
  obtain ⟨m2, hm2e⟩ : ∃ m, m = andW s2 t2 := ⟨_, rfl⟩
  simp only [← hm0e, ← hm1e, ← hm2e] at hm0 hm1 hm2 hT hL hR hI ⊢
  clear hm0e hm1e hm2e
  obtain ⟨⟨a0, a1, a2⟩, ⟨b0, b1, b2⟩, ⟨c0, c1, c2⟩⟩ := three_of (s0 := s0) (s1 := s1) (s2 := s2) (t0 := t0) (t1 := t1) (t2 := t2) (u0 := u0) (u1 := u1) (u2 := u2) (by simpa using hb)
  have l0 : w.heap.size < w1.heap.size := by omega
  have l1 : w.heap.size + 1 < w1.heap.size := by omega
  clear hb
  go_wp2_with fail
  refine (subset17Is (r := true) ⟨fun _ => unhide hL, fun _ => rfl⟩ _ hm0 hm1 hm2 hs0 hs1 hs2).mono ?_
  rintro e w2 ⟨rfl, hb2⟩
  have hT2 := (unhide hT).step hb2
  clear a0 a1 a2 b0 b1 b2 c0 c1 c2 l0 l1 hlt1 hb2 hT hL
  obtain ⟨a0, a1, a2⟩ := hT2.m
  obtain ⟨b0, b1, b2⟩ := hT2.t
  go_wp2_with fail
  refine (subset17Is (r := true) ⟨fun _ => unhide hR, fun _ => rfl⟩ _ hm0 hm1 hm2 ht0 ht1 ht2).mono ?_
  rintro e w3 ⟨rfl, hb3⟩
  have hT3 := hT2.step hb3
  clear a0 a1 a2 b0 b1 b2 hb3 hT2 hR
  obtain ⟨a0, a1, a2⟩ := hT3.m
  obtain ⟨b0, b1, b2⟩ := hT3.t
  obtain ⟨c0, c1, c2⟩ := hT3.s
  obtain ⟨d0, d1, d2⟩ := hT3.u
  obtain ⟨r1, hr1⟩ := truth (Sub u0 u1 u2 s0 s1 s2)
  obtain ⟨r2, hr2⟩ := truth (Sub u0 u1 u2 t0 t1 t2)
  have hr3 : (r1 && r2) = true ↔ Sub u0 u1 u2 m0 m1 m2 := by rw [unhide hI, ← hr1, ← hr2, Bool.and_eq_true]
  have cS := fun d os => Calls.regrown_of (subset17Is hr1 (grow (redrawn w3 d) os) hu0 hu1 hu2 hs0 hs1 hs2)
  have cT := fun d os => Calls.regrown_of (subset17Is hr2 (grow (redrawn w3 d) os) hu0 hu1 hu2 ht0 ht1 ht2)
  have cM := fun d os => Calls.regrown_of (subset17Is hr3 (grow (redrawn w3 d) os) hu0 hu1 hu2 hm0 hm1 hm2)
  have HC := hide (And.intro cS (And.intro cT cM))
  have k := hide hT3.bel
  clear hr1 hr2 hr3 hT3 cS cT cM hI
  have ka0 := cell_regrown a0
  have ka1 := cell_regrown a1
  have ka2 := cell_regrown a2
  have kb0 := cell_regrown b0
  have kb1 := cell_regrown b1
  have kb2 := cell_regrown b2
  have kc0 := cell_regrown c0
  have kc1 := cell_regrown c1
  have kc2 := cell_regrown c2
  have kd0 := cell_regrown d0
  have kd1 := cell_regrown d1
  have kd2 := cell_regrown d2
  cases r1 with
  | true =>
    go_wp2
    refine wp_region_quiet_below (by kernel_rfl) (by kernel_rfl) ?_
    repeat (quiet_step (first | (go_at_call_of 17 (Value.agg #[Value.int IntKind.u64 s0, Value.int IntKind.u64 s1, Value.int IntKind.u64 s2]); exact (unhide HC).1 _ _) | (go_at_call_of 17 (Value.agg #[Value.int IntKind.u64 t0, Value.int IntKind.u64 t1, Value.int IntKind.u64 t2]); exact (unhide HC).2.1 _ _) | (go_at_call_of 17 (Value.agg #[Value.int IntKind.u64 m0, Value.int IntKind.u64 m1, Value.int IntKind.u64 m2]); exact (unhide HC).2.2 _ _)))
    refine wpQuiet_nil ?_
    intro _ hw'
    obtain ⟨⟨dq, osq⟩, hw''⟩ := hw'
    subst hw''
    go_wp2
    go_ret
    exact ⟨rfl, below_end (unhide k) dq osq⟩
  | false =>
    go_wp2
    refine wp_region_quiet_below (by kernel_rfl) (by kernel_rfl) ?_
    repeat (quiet_step (first | (go_at_call_of 17 (Value.agg #[Value.int IntKind.u64 s0, Value.int IntKind.u64 s1, Value.int IntKind.u64 s2]); exact (unhide HC).1 _ _) | (go_at_call_of 17 (Value.agg #[Value.int IntKind.u64 t0, Value.int IntKind.u64 t1, Value.int IntKind.u64 t2]); exact (unhide HC).2.1 _ _) | (go_at_call_of 17 (Value.agg #[Value.int IntKind.u64 m0, Value.int IntKind.u64 m1, Value.int IntKind.u64 m2]); exact (unhide HC).2.2 _ _)))
    refine wpQuiet_nil ?_
    intro _ hw'
    obtain ⟨⟨dq, osq⟩, hw''⟩ := hw'
    subst hw''
    go_wp2
    go_ret
    exact ⟨rfl, below_end (unhide k) dq osq⟩
end Go.Proofs.Qxb6603326a
