/-
  zzBytes_FnKindWhole (7): where it answers true, the lengths that matter are at most 2^20.
-/
import Derived.Test.Qxb6603233aSizes
namespace Go.Proofs.Qxb6603233a
open Go.RowKit

def RetZz (u : ByteArray) (n1 n2 n3 n4 : Nat) (M : Nat → Nat) (w : World) (e : Ending) (w' : World) : Prop :=
  ∃ r : Bool, e = .returned (.bool r) ∧ (r = true → u.size ≤ 1048576 ∧ n1 ≤ 1048576 ∧ n2 ≤ 1048576 ∧ n3 ≤ 1048576 ∧ n4 ≤ 1048576 ∧ ∀ j, j < n4 → M j ≤ 1048576) ∧ w' = w

theorem RetZz.no {u : ByteArray} {n1 n2 n3 n4 : Nat} {M : Nat → Nat} {w : World} : RetZz u n1 n2 n3 n4 M w (.returned (.bool false)) w := ⟨false, rfl, (fun h => by cases h), rfl⟩

set_option maxHeartbeats 2000000 in
set_option maxRecDepth 20000 in
theorem zzBytes (b0 b1 b2 b3 b4 : Bool) (u : ByteArray) (a1 a2 a3 a4 : Option Addr) (n1 n2 n3 n4 c1 c2 c3 c4 : Nat) (I N : Nat → ByteArray) (A : Nat → Option Addr) (M C : Nat → Nat) (U : Nat → Nat → ByteArray) (w : World)
    (hu : u.size ≤ maxLen) (h1 : n1 ≤ maxLen) (h2 : n2 ≤ maxLen) (h3 : n3 ≤ maxLen) (h4 : n4 ≤ maxLen) (hM : ∀ i, i < n4 → M i ≤ maxLen)
    (hI : Lens n1 I) (hN : Lens n2 N) (hU : ∀ i, i < n4 → Lens (M i) (U i)) (r1 : Row w 0 a1 n1 (strs I)) (r2 : Row w 0 a2 n2 (strs N)) (r4 : Nest w 0 a4 n4 A M C U) :
    Calls Try.prog 7 #[.bool b0, .bool b1, .bool b2, .bool b3, .bool b4, .string u, .slice a1 n1 c1, .slice a2 n2 c2, .slice a3 n3 c3, .slice a4 n4 c4] w fun e w' => RetZz u n1 n2 n3 n4 M w e w' := by
  unfold maxLen at hu h1 h2 h3 h4
  go_enter Try.func7, Try.ntmps7
  go_wp2
  · go_ret; exact RetZz.no
  · go_ret; exact RetZz.no
  · go_ret; exact RetZz.no
  go_loop [21, 22] (fun t i => ∃ (k : Nat) (z : Int), k ≤ n1 ∧ i = .int .i64 k ∧ t = .int .i64 z ∧ 0 ≤ z ∧ z ≤ 1048576) (fun _ i => n1 - (intOf i).toNat)
  case atStart => exact ⟨0, _, Nat.zero_le _, rfl, rfl, by omega, by omega⟩
  case round =>
    obtain ⟨k, z, hk, rfl, rfl, hz0, hz1⟩ := hrel
    by_cases hlt : k < n1
    · obtain ⟨b, off, rfl, _, hc⟩ := r1 (by omega)
      have hcell : w.cell? ⟨b, off + k, none⟩ = some (.string (I k)) := hc k hlt
      have hSk := hI k hlt
      unfold maxLen at hSk
      clear hc hI r1 r2 r4 hM hN hU
      go_wp2
      · go_ret; exact RetZz.no
      · go_ret; exact RetZz.no
      · go_round
        case rel => exact ⟨k + 1, _, by omega, by go_num, rfl, by omega, by omega⟩
        case measure => simp [intOf]; omega
    · clear hI r1
      go_wp2
      · go_ret; exact RetZz.no
      · go_ret; exact RetZz.no
      go_loop [21, 23] (fun t i => ∃ (k : Nat) (z : Int), k ≤ n2 ∧ i = .int .i64 k ∧ t = .int .i64 z ∧ 0 ≤ z ∧ z ≤ 1048576) (fun _ i => n2 - (intOf i).toNat)
      case atStart => exact ⟨0, _, Nat.zero_le _, rfl, rfl, by omega, by omega⟩
      case round =>
        obtain ⟨k, z, hk, rfl, rfl, hz0, hz1⟩ := hrel
        by_cases hlt : k < n2
        · obtain ⟨b, off, rfl, _, hc⟩ := r2 (by omega)
          have hcell : w.cell? ⟨b, off + k, none⟩ = some (.string (N k)) := hc k hlt
          have hSk := hN k hlt
          unfold maxLen at hSk
          clear hc r2 r4 hM hN hU
          go_wp2
          · go_ret; exact RetZz.no
          · go_ret; exact RetZz.no
          · go_round
            case rel => exact ⟨k + 1, _, by omega, by go_num, rfl, by omega, by omega⟩
            case measure => simp [intOf]; omega
        · clear hN r2
          go_wp2
          · go_ret; exact RetZz.no
          · go_ret; exact RetZz.no
          · go_ret; exact RetZz.no
          · go_ret; exact RetZz.no
          go_loop [21, 24] (fun t i => ∃ (k : Nat) (z : Int), k ≤ n4 ∧ i = .int .i64 k ∧ t = .int .i64 z ∧ 0 ≤ z ∧ z ≤ 1048576 ∧ ∀ j, j < k → M j ≤ 1048576) (fun _ i => n4 - (intOf i).toNat)
          case atStart => exact ⟨0, _, Nat.zero_le _, rfl, rfl, by omega, by omega, fun j hj => absurd hj (by omega)⟩
          case round =>
            obtain ⟨k, z, hk, rfl, rfl, hz0, hz1, hms⟩ := hrel
            have HMS : Hid _ := hms
            clear hms
            by_cases hlt : k < n4
            · obtain ⟨b, off, rfl, _, hc⟩ := r4.row (by omega)
              have hcell : w.cell? ⟨b, off + k, none⟩ = some (.slice (A k) (M k) (C k)) := hc k hlt
              have hin := r4.inner k hlt
              have hMk := hM k hlt
              have hUk := hU k hlt
              unfold maxLen at hMk
              clear hc r4 hM hU
              go_wp2
              · go_ret; exact RetZz.no
              · go_ret; exact RetZz.no
              go_loop [21, 25] (fun t i => ∃ (l : Nat) (z : Int), l ≤ M k ∧ i = .int .i64 l ∧ t = .int .i64 z ∧ 0 ≤ z ∧ z ≤ 1048576) (fun _ i => M k - (intOf i).toNat)
              case atStart => exact ⟨0, _, Nat.zero_le _, rfl, rfl, by omega, by omega⟩
              case round =>
                obtain ⟨l, y, hl, rfl, rfl, hy0, hy1⟩ := hrel
                by_cases hlm : l < M k
                · obtain ⟨b', off', hA, _, hc⟩ := hin (by omega)
                  rw [hA] at hcell
                  have hcl : w.cell? ⟨b', off' + l, none⟩ = some (.string (U k l)) := hc l hlm
                  have hSk := hUk l hlm
                  unfold maxLen at hSk
                  clear hc hin hUk
                  go_wp2
                  · go_ret; exact RetZz.no
                  · go_ret; exact RetZz.no
                  · go_round
                    case rel => exact ⟨l + 1, _, by omega, by go_num, rfl, by omega, by omega⟩
                    case measure => simp [intOf]; omega
                · clear hin hUk
                  go_wp2
                  go_round
                  case rel => exact ⟨k + 1, _, by omega, by go_num, rfl, by omega, by omega, fun j hj => by
                    by_cases e : j = k
                    · subst e; omega
                    · exact unhid HMS j (by omega)⟩
                  case measure => simp [intOf]; omega
            · have hkn : k = n4 := by omega
              subst hkn
              clear r4 hM hU
              go_wp2
              go_ret
              exact ⟨true, rfl, fun _ => ⟨by omega, by omega, by omega, by omega, by omega, unhid HMS⟩, rfl⟩
end Go.Proofs.Qxb6603233a
