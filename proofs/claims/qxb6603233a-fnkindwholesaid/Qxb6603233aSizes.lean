/-
  The guards: novaB1StrsBytes (21), novaB1NestedBytes (22), novaB1TooBig (8), novaB1Shape (9).
-/
import Derived.Test.Qxb6603233aBase
namespace Go.Proofs.Qxb6603233a
open Go.RowKit

/-- It hands back a bool, the world as it was. -/
def RetB (w : World) (e : Ending) (w' : World) : Prop := ∃ r : Bool, e = .returned (.bool r) ∧ w' = w
/-- It hands back a count, the world as it was. -/
def RetI (w : World) (e : Ending) (w' : World) : Prop := ∃ t : Int, e = .returned (.int .i64 t) ∧ 0 ≤ t ∧ t ≤ 1048577 ∧ w' = w

/-- The lengths of the strings that a slice leads to are lengths. -/
def Lens (n : Nat) (S : Nat → ByteArray) : Prop := ∀ i, i < n → (S i).size ≤ maxLen

set_option maxHeartbeats 400000 in
theorem strsBytes (a : Option Addr) (n cap : Nat) (S : Nat → ByteArray) (w : World) (hn : n ≤ maxLen) (hS : Lens n S) (h : Row w 0 a n (strs S)) :
    Calls Try.prog 21 #[.slice a n cap] w fun e w' => RetI w e w' := by
  unfold maxLen at hn
  go_enter Try.func21, Try.ntmps21
  go_wp2
  · go_ret; exact ⟨_, rfl, by omega, by omega, rfl⟩
  · go_ret; exact ⟨_, rfl, by omega, by omega, rfl⟩
  · go_loop [3, 4] (fun t i => ∃ (k : Nat) (z : Int), k ≤ n ∧ i = .int .i64 k ∧ t = .int .i64 z ∧ 0 ≤ z ∧ z ≤ 1048576) (fun _ i => n - (intOf i).toNat)
    case atStart => exact ⟨0, _, Nat.zero_le _, rfl, rfl, by omega, by omega⟩
    case round =>
      obtain ⟨k, z, hk, rfl, rfl, hz0, hz1⟩ := hrel
      by_cases hlt : k < n
      · obtain ⟨b, off, rfl, _, hc⟩ := h (by omega)
        have hcell : w.cell? ⟨b, off + k, none⟩ = some (.string (S k)) := hc k hlt
        have hSk := hS k hlt
        unfold maxLen at hSk
        clear hc hS h
        go_wp2
        · go_ret; exact ⟨_, rfl, by omega, by omega, rfl⟩
        · go_ret; exact ⟨_, rfl, by omega, by omega, rfl⟩
        · go_round
          case rel => exact ⟨k + 1, _, by omega, by go_num, rfl, by omega, by omega⟩
          case measure => simp [intOf]; omega
      · go_wp2
        go_ret
        exact ⟨_, rfl, by omega, by omega, rfl⟩

set_option maxHeartbeats 400000 in
theorem nestedBytes (a : Option Addr) (n cap : Nat) (A : Nat → Option Addr) (M C : Nat → Nat) (U : Nat → Nat → ByteArray) (w : World) (hn : n ≤ maxLen) (hM : ∀ i, i < n → M i ≤ maxLen) (hS : ∀ i, i < n → Lens (M i) (U i)) (h : Nest w 0 a n A M C U) :
    Calls Try.prog 22 #[.slice a n cap] w fun e w' => RetI w e w' := by
  unfold maxLen at hn
  go_enter Try.func22, Try.ntmps22
  go_wp2
  · go_ret; exact ⟨_, rfl, by omega, by omega, rfl⟩
  · go_ret; exact ⟨_, rfl, by omega, by omega, rfl⟩
  · go_loop [3, 4] (fun t i => ∃ (k : Nat) (z : Int), k ≤ n ∧ i = .int .i64 k ∧ t = .int .i64 z ∧ 0 ≤ z ∧ z ≤ 1048576) (fun _ i => n - (intOf i).toNat)
    case atStart => exact ⟨0, _, Nat.zero_le _, rfl, rfl, by omega, by omega⟩
    case round =>
      obtain ⟨k, z, hk, rfl, rfl, hz0, hz1⟩ := hrel
      by_cases hlt : k < n
      · obtain ⟨b, off, rfl, _, hc⟩ := h.row (by omega)
        have hcell : w.cell? ⟨b, off + k, none⟩ = some (.slice (A k) (M k) (C k)) := hc k hlt
        have HC : Hid _ := strsBytes (A k) (M k) (C k) (U k) w (hM k hlt) (hS k hlt) (h.inner k hlt)
        clear hc hS h hM
        go_wp2_with fail
        refine Calls.mono (unhid HC) ?_
        rintro e w1 ⟨t, rfl, ht0, ht1, rfl⟩
        clear HC
        go_wp2
        · go_ret; exact ⟨_, rfl, by omega, by omega, rfl⟩
        · go_round
          case rel => exact ⟨k + 1, _, by omega, by go_num, rfl, by omega, by omega⟩
          case measure => simp [intOf]; omega
      · go_wp2
        go_ret
        exact ⟨_, rfl, by omega, by omega, rfl⟩

set_option maxHeartbeats 400000 in
theorem tooBig (u : ByteArray) (a1 a2 a3 a4 : Option Addr) (n1 n2 n3 n4 c1 c2 c3 c4 : Nat) (I N : Nat → ByteArray) (A : Nat → Option Addr) (M C : Nat → Nat) (U : Nat → Nat → ByteArray) (w : World)
    (hu : u.size ≤ 1048576) (h1 : n1 ≤ 1048576) (h2 : n2 ≤ 1048576) (h3 : n3 ≤ 1048576) (h4 : n4 ≤ 1048576) (hM : ∀ i, i < n4 → M i ≤ maxLen)
    (hI : Lens n1 I) (hN : Lens n2 N) (hU : ∀ i, i < n4 → Lens (M i) (U i)) (r1 : Row w 0 a1 n1 (strs I)) (r2 : Row w 0 a2 n2 (strs N)) (r4 : Nest w 0 a4 n4 A M C U) :
    Calls Try.prog 8 #[.string u, .slice a1 n1 c1, .slice none 0 0, .slice a2 n2 c2, .slice a3 n3 c3, .slice a4 n4 c4] w fun e w' => RetB w e w' := by
  have C1 : Hid _ := strsBytes a1 n1 c1 I w (by unfold maxLen; omega) hI r1
  have C2 : Hid _ := strsBytes none 0 0 I w (by unfold maxLen; omega) (fun i hi => absurd hi (by omega)) (fun h => absurd h (by omega))
  have C3 : Hid _ := strsBytes a2 n2 c2 N w (by unfold maxLen; omega) hN r2
  have C4 : Hid _ := nestedBytes a4 n4 c4 A M C U w (by unfold maxLen; omega) hM hU r4
  clear hI hN hU r1 r2 r4 hM
  go_enter Try.func8, Try.ntmps8
  go_wp2_with fail
  refine Calls.mono (unhid C1) ?_
  rintro e w1 ⟨t1, rfl, ht0, ht1, rfl⟩
  go_wp2_with fail
  refine Calls.mono (unhid C2) ?_
  rintro e w1 ⟨t2, rfl, ht2, ht3, rfl⟩
  go_wp2_with fail
  refine Calls.mono (unhid C3) ?_
  rintro e w1 ⟨t3, rfl, ht4, ht5, rfl⟩
  go_wp2_with fail
  refine Calls.mono (unhid C4) ?_
  rintro e w1 ⟨t4, rfl, ht6, ht7, rfl⟩
  go_wp2
  go_ret
  exact ⟨_, rfl, rfl⟩

/-- The three host slices are parallel where it says so. -/
def RetShape (n1 n2 n3 : Nat) (w : World) (e : Ending) (w' : World) : Prop := ∃ r : Bool, e = .returned (.bool r) ∧ (r = true → n2 = n1 ∧ n3 = n1) ∧ w' = w

set_option maxHeartbeats 400000 in
theorem shape (a1 a2 a3 : Option Addr) (n1 n2 n3 c1 c2 c3 : Nat) (w : World) (h1 : n1 ≤ 1048576) (h2 : n2 ≤ 1048576) :
    Calls Try.prog 9 #[.slice a1 n1 c1, .slice a2 n2 c2, .slice a3 n3 c3] w fun e w' => RetShape n1 n2 n3 w e w' := by
  by_cases g1 : n2 = n1
  · subst g1
    by_cases g2 : n3 = n2
    · subst g2
      go_enter Try.func9, Try.ntmps9
      go_wp2
      go_ret
      exact ⟨_, rfl, fun _ => ⟨rfl, rfl⟩, rfl⟩
    · have g2' : ¬ ((n3 : Int) = (n2 : Int)) := by omega
      go_enter Try.func9, Try.ntmps9
      go_wp2
      go_ret
      exact ⟨false, rfl, (fun h => by cases h), rfl⟩
  · have g1' : ¬ ((n2 : Int) = (n1 : Int)) := by omega
    go_enter Try.func9, Try.ntmps9
    go_wp2
    go_ret
    exact ⟨false, rfl, (fun h => by cases h), rfl⟩
end Go.Proofs.Qxb6603233a
