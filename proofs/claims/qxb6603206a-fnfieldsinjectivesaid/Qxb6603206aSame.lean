/-
  zzClean (11), zzSameReasons (12), zzSameFields (13), zzBytes_FnFieldsInjective (10).
-/
import Derived.Test.Qxb6603206aRows
import Derived.Test.Qxb6603206aPlain
import Derived.Test.Qxb6603206aBytes
import Derived.WalkSpells
import Derived.WalkLawsBesides
import Derived.BigQuiet
namespace Go.Proofs.Qxb6603206a
open Go.RowKit

/-- It hands back a bool; if true, p. -/
def RetIf (p : Prop) (w : World) (e : Ending) (w' : World) : Prop := ∃ r : Bool, e = .returned (.bool r) ∧ (r = true → p) ∧ w' = w
/-- It hands back whether p; the world has at most drawn. -/
def RetWhether (p : Prop) (w : World) (e : Ending) (w' : World) : Prop := ∃ r : Bool, e = .returned (.bool r) ∧ (r = true ↔ p) ∧ ∃ q, w' = w.drewN q

theorem bl_eq (a b : ByteArray) (h : a = b) : (a.toList == b.toList) = true := by subst h; simp
theorem bl_ne (a b : ByteArray) (h : a ≠ b) : (a.toList == b.toList) = false := by
  rw [beq_eq_false_iff_ne]
  intro e
  rw [ByteArray.toList_eq, ByteArray.toList_eq] at e
  exact h (barr_ext a b e)

/-- None of the first n strings holds a ';'. -/
def NoSemi (S : Nat → ByteArray) (n : Nat) : Prop := ∀ i, i < n → 59 ∉ (S i).data.toList
def NoSemiTo (s : ByteArray) (j : Nat) : Prop := 59 ∉ s.data.toList.take j
theorem NoSemiTo_zero (s : ByteArray) : NoSemiTo s 0 := by simp [NoSemiTo]

theorem mem_take_step (s : ByteArray) (j : Nat) (h : j < s.size) (hm : NoSemiTo s j) (hc : ((s[j].toNat : Int) == 59) = false) : NoSemiTo s (j + 1) := by
  unfold NoSemiTo at hm ⊢
  rw [List.take_succ_eq_append_getElem (by rw [blen]; exact h)]
  intro hh
  rcases List.mem_append.1 hh with hh | hh
  · exact hm hh
  · simp only [List.mem_singleton, Array.getElem_toList] at hh
    have : s[j] = 59 := hh.symm
    rw [this] at hc
    cases hc

set_option maxHeartbeats 400000 in
theorem clean (a : Option Addr) (n cap : Nat) (S : Nat → ByteArray) (w : World) (hn : n ≤ 65536) (hS : ∀ i, i < n → (S i).size ≤ 1048576) (h : Strs w a n S) :
    Calls Try.prog 11 #[.slice a n cap] w fun e w' => RetIf (NoSemi S n) w e w' := by
  go_enter Try.func11, Try.ntmps11
  go_wp2
  go_loop [3, 4, 5] (fun i _ _ => ∃ (k : Nat), k ≤ n ∧ i = .int .i64 k ∧ Hid (NoSemi S k)) (fun i _ _ => n - (intOf i).toNat)
  case atStart => exact ⟨0, Nat.zero_le _, rfl, hide (fun i hi => absurd hi (by omega))⟩
  case round =>
    obtain ⟨k, hk, rfl, HC⟩ := hrel
    by_cases hlt : k < n
    · obtain ⟨b, off, rfl, hc⟩ := h (by omega)
      have hcell := hc k hlt
      have hSk := hS k hlt
      clear hc hS h
      by_cases h0 : (S k).size = 0
      · have h0' : (((S k).size : Int) == 0) = true := by rw [beq_iff_eq]; omega
        go_wp2
        go_ret
        exact ⟨false, rfl, fun h => (by cases h), rfl⟩
      · have h0' : (((S k).size : Int) == 0) = false := by rw [beq_eq_false_iff_ne]; omega
        go_wp2
        go_loop [5] (fun j => ∃ t : Nat, t ≤ (S k).size ∧ j = .int .i64 t ∧ NoSemiTo (S k) t) (fun j => (S k).size - (intOf j).toNat)
        case atStart => exact ⟨0, Nat.zero_le _, rfl, NoSemiTo_zero _⟩
        case round =>
          obtain ⟨t, ht, rfl, HM⟩ := hrel
          by_cases htl : t < (S k).size
          · by_cases hq : (((S k)[t].toNat : Int) == 59) = true
            · go_wp2
              go_ret
              exact ⟨false, rfl, fun h => (by cases h), rfl⟩
            · have hq' : (((S k)[t].toNat : Int) == 59) = false := by simpa using hq
              clear hq
              go_wp2
              go_round
              case rel => exact ⟨t + 1, by omega, by go_num, mem_take_step _ _ htl HM hq'⟩
              case measure => simp [intOf]; omega
          · go_wp2
            go_round
            case rel => exact ⟨k + 1, by omega, by go_num, hide (fun i hi => by
              by_cases e : i = k
              · subst e
                have := HM
                unfold NoSemiTo at this
                rwa [List.take_of_length_le (by rw [blen]; omega)] at this
              · exact unhide HC i (by omega))⟩
            case measure => simp [intOf]; omega
    · have hkn : k = n := by omega
      subst hkn
      go_wp2
      go_ret
      exact ⟨true, rfl, fun _ => unhide HC, rfl⟩

/-- The first n strings of S are the m of T. -/
def AllSame (S T : Nat → ByteArray) (n m : Nat) : Prop := n = m ∧ ∀ i, i < n → S i = T i
def SameTo (S T : Nat → ByteArray) (k : Nat) : Prop := ∀ i, i < k → S i = T i

theorem ne_all {S T : Nat → ByteArray} {n m k : Nat} (hk : k < n) (h : S k ≠ T k) : (false = true ↔ AllSame S T n m) := ⟨fun h => (by cases h), fun h' => absurd (h'.2 k hk) h⟩
theorem len_all {S T : Nat → ByteArray} {n m : Nat} (h : n ≠ m) : (false = true ↔ AllSame S T n m) := ⟨fun h => (by cases h), fun h' => absurd h'.1 h⟩
theorem SameTo.step {S T : Nat → ByteArray} {k : Nat} (h : SameTo S T k) (e : S k = T k) : SameTo S T (k + 1) := fun i hi => by
  by_cases c : i = k
  · subst c; exact e
  · exact h i (by omega)

set_option maxHeartbeats 400000 in
theorem same12 (a a' : Option Addr) (n m cap cap' : Nat) (S T : Nat → ByteArray) (w : World) (hn : n ≤ 65536) (hm : m ≤ 65536) (h : Strs w a n S) (h' : Strs w a' m T) :
    Calls Try.prog 12 #[.slice a n cap, .slice a' m cap'] w fun e w' => RetWhether (AllSame S T n m) w e w' := by
  by_cases hnm : n = m
  · subst hnm
    go_enter Try.func12, Try.ntmps12
    go_wp2
    go_loopw [5] (fun i wr => ∃ (k : Nat), k ≤ n ∧ i = .int .i64 k ∧ Hid (SameTo S T k) ∧ ∃ q, wr = w.drewN q) (fun i _ => n - (intOf i).toNat)
    case atStart => exact ⟨0, Nat.zero_le _, rfl, hide (fun i hi => absurd hi (by omega)), 0, rfl⟩
    case round =>
      obtain ⟨k, hk, rfl, HC, q, rfl⟩ := hrel
      by_cases hlt : k < n
      · obtain ⟨b, off, rfl, hc⟩ := h (by omega)
        obtain ⟨b', off', rfl, hc'⟩ := h' (by omega)
        have hcell := hc k hlt
        have hcell' := hc' k hlt
        have hb1 : (k : Int) < (n : Int) := by omega
        clear hc hc' h h'
        by_cases he : S k = T k
        · have hE := bl_eq _ _ he
          have HE := hide he
          clear he
          go_wp2
          go_quiet (fail)
          go_wp2
          go_roundw
          case rel => exact ⟨k + 1, by omega, by go_num, hide ((unhide HC).step (unhide HE)), _, rfl⟩
          case measure => simp [intOf]; omega
        · have hE := bl_ne _ _ he
          have HE := hide he
          clear he
          go_wp2
          go_quiet (fail)
          go_wp2
          go_ret
          exact ⟨false, rfl, ne_all hlt (unhide HE), q + nq, World.drewN_drewN _ _ _⟩
      · have hkn : k = n := by omega
        subst hkn
        go_wp2
        go_ret
        exact ⟨true, rfl, ⟨fun _ => ⟨rfl, unhide HC⟩, fun _ => rfl⟩, _, rfl⟩
  · have hne : ((n : Int) != (m : Int)) = true := by rw [bne_iff_ne]; omega
    go_enter Try.func12, Try.ntmps12
    go_wp2
    go_ret
    exact ⟨false, rfl, len_all hnm, 0, rfl⟩
set_option maxHeartbeats 400000 in
theorem same13 (a a' : Option Addr) (n m cap cap' : Nat) (S T : Nat → ByteArray) (w : World) (hn : n ≤ 65536) (hm : m ≤ 65536) (h : Strs w a n S) (h' : Strs w a' m T) :
    Calls Try.prog 13 #[.slice a n cap, .slice a' m cap'] w fun e w' => RetWhether (AllSame S T n m) w e w' := by
  by_cases hnm : n = m
  · subst hnm
    go_enter Try.func13, Try.ntmps13
    go_wp2
    go_loopw [5] (fun i wr => ∃ (k : Nat), k ≤ n ∧ i = .int .i64 k ∧ Hid (SameTo S T k) ∧ ∃ q, wr = w.drewN q) (fun i _ => n - (intOf i).toNat)
    case atStart => exact ⟨0, Nat.zero_le _, rfl, hide (fun i hi => absurd hi (by omega)), 0, rfl⟩
    case round =>
      obtain ⟨k, hk, rfl, HC, q, rfl⟩ := hrel
      by_cases hlt : k < n
      · obtain ⟨b, off, rfl, hc⟩ := h (by omega)
        obtain ⟨b', off', rfl, hc'⟩ := h' (by omega)
        have hcell := hc k hlt
        have hcell' := hc' k hlt
        have hb1 : (k : Int) < (n : Int) := by omega
        clear hc hc' h h'
        by_cases he : S k = T k
        · have hE := bl_eq _ _ he
          have HE := hide he
          clear he
          go_wp2
          go_quiet (fail)
          go_wp2
          go_roundw
          case rel => exact ⟨k + 1, by omega, by go_num, hide ((unhide HC).step (unhide HE)), _, rfl⟩
          case measure => simp [intOf]; omega
        · have hE := bl_ne _ _ he
          have HE := hide he
          clear he
          go_wp2
          go_quiet (fail)
          go_wp2
          go_ret
          exact ⟨false, rfl, ne_all hlt (unhide HE), q + nq, World.drewN_drewN _ _ _⟩
      · have hkn : k = n := by omega
        subst hkn
        go_wp2
        go_ret
        exact ⟨true, rfl, ⟨fun _ => ⟨rfl, unhide HC⟩, fun _ => rfl⟩, _, rfl⟩
  · have hne : ((n : Int) != (m : Int)) = true := by rw [bne_iff_ne]; omega
    go_enter Try.func13, Try.ntmps13
    go_wp2
    go_ret
    exact ⟨false, rfl, len_all hnm, 0, rfl⟩

set_option maxHeartbeats 1000000 in
theorem bytes10 (id id' : ByteArray) (a a' : Option Addr) (n m cap cap' : Nat) (S T : Nat → ByteArray) (w : World) (hid : id.size ≤ maxLen) (hid' : id'.size ≤ maxLen) (hn : n ≤ maxLen) (hm : m ≤ maxLen)
    (hS : ∀ i, i < n → (S i).size ≤ maxLen) (hT : ∀ i, i < m → (T i).size ≤ maxLen) (h : Strs w a n S) (h' : Strs w a' m T) :
    Calls Try.prog 10 #[.string id, .slice a n cap, .string id', .slice a' m cap'] w fun e w' => RetB w e w' := by
  unfold maxLen at hid hn hS hid' hm hT
  go_enter Try.func10, Try.ntmps10
  go_wp2
  · go_ret; exact ⟨_, rfl, rfl⟩
  · go_ret; exact ⟨_, rfl, rfl⟩
  · go_ret; exact ⟨_, rfl, rfl⟩
  · go_loop [9, 10] (fun t i => ∃ (k : Nat) (z : Int), k ≤ n ∧ i = .int .i64 k ∧ t = .int .i64 z ∧ 0 ≤ z ∧ z ≤ 1048576) (fun _ i => n - (intOf i).toNat)
    case atStart => exact ⟨0, _, Nat.zero_le _, rfl, rfl, by omega, by omega⟩
    case round =>
      obtain ⟨k, z, hk, rfl, rfl, hz0, hz1⟩ := hrel
      by_cases hlt : k < n
      · obtain ⟨b, off, rfl, hc⟩ := h (by omega)
        have hcell := hc k hlt
        have hSk := hS k hlt
        clear hc hS h h' hT
        go_wp2
        · go_ret; exact ⟨_, rfl, rfl⟩
        · go_ret; exact ⟨_, rfl, rfl⟩
        · go_round
          case rel => exact ⟨k + 1, _, by omega, by go_num, rfl, by omega, by omega⟩
          case measure => simp [intOf]; omega
      · clear h hS
        go_wp2
        · go_ret; exact ⟨_, rfl, rfl⟩
        · go_ret; exact ⟨_, rfl, rfl⟩
        · go_ret; exact ⟨_, rfl, rfl⟩
        · go_ret; exact ⟨_, rfl, rfl⟩
        · go_loop [9, 11] (fun t i => ∃ (k : Nat) (z : Int), k ≤ m ∧ i = .int .i64 k ∧ t = .int .i64 z ∧ 0 ≤ z ∧ z ≤ 1048576) (fun _ i => m - (intOf i).toNat)
          case atStart => exact ⟨0, _, Nat.zero_le _, rfl, rfl, by omega, by omega⟩
          case round =>
            obtain ⟨k, z, hk, rfl, rfl, hz0, hz1⟩ := hrel
            by_cases hlt : k < m
            · obtain ⟨b, off, rfl, hc⟩ := h' (by omega)
              have hcell := hc k hlt
              have hSk := hT k hlt
              clear hc hT h'
              go_wp2
              · go_ret; exact ⟨_, rfl, rfl⟩
              · go_ret; exact ⟨_, rfl, rfl⟩
              · go_round
                case rel => exact ⟨k + 1, _, by omega, by go_num, rfl, by omega, by omega⟩
                case measure => simp [intOf]; omega
            · go_wp2
              go_ret
              exact ⟨_, rfl, rfl⟩
end Go.Proofs.Qxb6603206a
