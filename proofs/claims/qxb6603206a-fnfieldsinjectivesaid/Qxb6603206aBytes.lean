/-
  The walks of the two guards: zzBytes_FnFieldsExact (5), zzBytes (6).
-/
import Derived.Test.Qxb6603206aRows
import Derived.Test.Qxb6603206aBase
import Derived.WalkSpells
import Derived.WalkLawsBesides
namespace Go.Proofs.Qxb6603206a
open Go.RowKit

/-- It hands back a bool, the world as it was. -/
def RetB (w : World) (e : Ending) (w' : World) : Prop := ∃ r : Bool, e = .returned (.bool r) ∧ w' = w
/-- It hands back a count: where that is at most 2^20 so are the bytes. -/
def RetN (T : Nat) (w : World) (e : Ending) (w' : World) : Prop := ∃ t : Int, e = .returned (.int .i64 t) ∧ 0 ≤ t ∧ t ≤ 2097152 ∧ (t ≤ 1048576 → T ≤ 1048576) ∧ w' = w

set_option maxHeartbeats 400000 in
theorem bytes5 (id : ByteArray) (a : Option Addr) (n cap : Nat) (S : Nat → ByteArray) (w : World) (hid : id.size ≤ maxLen) (hn : n ≤ maxLen) (hS : ∀ i, i < n → (S i).size ≤ maxLen) (h : Strs w a n S) :
    Calls Try.prog 5 #[.string id, .slice a n cap] w fun e w' => RetB w e w' := by
  unfold maxLen at hid hn hS
  go_enter Try.func5, Try.ntmps5
  go_wp2
  · go_ret; exact ⟨_, rfl, rfl⟩
  · go_ret; exact ⟨_, rfl, rfl⟩
  · go_ret; exact ⟨_, rfl, rfl⟩
  · go_loop [5, 6] (fun t i => ∃ (k : Nat) (z : Int), k ≤ n ∧ i = .int .i64 k ∧ t = .int .i64 z ∧ 0 ≤ z ∧ z ≤ 1048576) (fun _ i => n - (intOf i).toNat)
    case atStart => exact ⟨0, _, Nat.zero_le _, rfl, rfl, by omega, by omega⟩
    case round =>
      obtain ⟨k, z, hk, rfl, rfl, hz0, hz1⟩ := hrel
      by_cases hlt : k < n
      · obtain ⟨b, off, rfl, hc⟩ := h (by omega)
        have hcell := hc k hlt
        have hSk := hS k hlt
        clear hc hS h
        go_wp2
        · go_ret; exact ⟨_, rfl, rfl⟩
        · go_ret; exact ⟨_, rfl, rfl⟩
        · go_round
          case rel => exact ⟨k + 1, _, by omega, by go_num, rfl, by omega, by omega⟩
          case measure => simp [intOf]; omega
      · go_wp2
        go_ret
        exact ⟨_, rfl, rfl⟩

set_option maxHeartbeats 400000 in
theorem bytes6 (id : ByteArray) (a : Option Addr) (n cap : Nat) (S : Nat → ByteArray) (w : World) (hid : id.size ≤ maxLen) (hn : n ≤ maxLen) (hS : ∀ i, i < n → (S i).size ≤ maxLen) (h : Strs w a n S) :
    Calls Try.prog 6 #[.string id, .slice a n cap] w fun e w' => RetN (id.size + 16 * n + sumS S n) w e w' := by
  unfold maxLen at hid hn hS
  by_cases h1 : (id.size : Int) ≤ 1048576
  · by_cases h2 : (n : Int) ≤ 65536
    · go_enter Try.func6, Try.ntmps6
      go_wp2
      · go_ret; exact ⟨_, rfl, by omega, by omega, fun h => by omega, rfl⟩
      · go_loop [5, 6] (fun t i => ∃ (k : Nat), k ≤ n ∧ i = .int .i64 k ∧ t = .int .i64 ((id.size + 16 * n + sumS S k : Nat) : Int) ∧ id.size + 16 * n + sumS S k ≤ 1048576) (fun _ i => n - (intOf i).toNat)
        case atStart => exact ⟨0, Nat.zero_le _, rfl, by simp [sumS], by simp [sumS]; omega⟩
        case round =>
          obtain ⟨k, hk, rfl, rfl, hz1⟩ := hrel
          have hsn : sumS S (k + 1) = sumS S k + (S k).size := rfl
          have HS : Hid (sumS S (k + 1) = sumS S k + (S k).size) := hsn
          clear hsn
          by_cases hlt : k < n
          · obtain ⟨b, off, rfl, hc⟩ := h (by omega)
            have hcell := hc k hlt
            have hSk := hS k hlt
            clear hc hS h
            go_wp2
            · go_ret; exact ⟨_, rfl, by omega, by omega, fun h => by omega, rfl⟩
            · go_ret; exact ⟨_, rfl, by omega, by omega, fun h => by omega, rfl⟩
            · go_round
              case rel => exact ⟨k + 1, by omega, by go_num, by rw [HS.out]; go_num, by rw [HS.out]; omega⟩
              case measure => simp [intOf]; omega
          · have hkn : k = n := by omega
            subst hkn
            go_wp2
            go_ret
            exact ⟨_, rfl, by omega, by omega, fun _ => hz1, rfl⟩
    · go_enter Try.func6, Try.ntmps6
      go_wp2
      go_ret; exact ⟨_, rfl, by omega, by omega, fun h => by omega, rfl⟩
  · go_enter Try.func6, Try.ntmps6
    go_wp2
    go_ret; exact ⟨_, rfl, by omega, by omega, fun h => by omega, rfl⟩
end Go.Proofs.Qxb6603206a
