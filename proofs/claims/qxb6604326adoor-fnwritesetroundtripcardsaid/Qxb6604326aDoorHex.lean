/-
  PLAIN: a number's hexadecimal digits, as strconv writes them; nothing of Go's memory but 'Value'.
-/
import Derived.WalkKit
import Derived.Laws.BitsAllLaws
namespace Go.Proofs.Qxb6604326aDoor
open Go.RowKit

theorem hide {p : Prop} (h : p) : Hid p := h
theorem unhide {p : Prop} (h : Hid p) : p := h

/-- The sign of a digit below 16. -/
def hexDig (d : Nat) : UInt8 := if d < 10 then UInt8.ofNat (48 + d) else UInt8.ofNat (87 + d)
/-- Digit m of u, from the right. -/
def digAt (u m : Nat) : UInt8 := hexDig (u / 16 ^ m % 16)
/-- How many digits u has beyond the first (u below 2^32). -/
def hexK (u : Nat) : Nat :=
  if u < 16 then 0 else if u < 256 then 1 else if u < 4096 then 2 else if u < 65536 then 3 else if u < 1048576 then 4 else if u < 16777216 then 5 else if u < 268435456 then 6 else 7
/-- k + 1 digits of u. -/
def hexAt (u k : Nat) : List UInt8 := (List.range (k + 1)).map fun p => digAt u (k - p)
/-- The numeral of u. -/
def hexStr (u : Nat) : List UInt8 := hexAt u (hexK u)
/-- The numeral of an int. -/
def fmt16 (v : Int) : List UInt8 := if v < 0 then 45 :: hexStr v.natAbs else hexStr v.natAbs

theorem hexK_le (u : Nat) : hexK u ≤ 7 := by unfold hexK; repeat' split
                                             all_goals omega
theorem hexAt_length (u k : Nat) : (hexAt u k).length = k + 1 := by simp [hexAt]
theorem hexStr_length (u : Nat) : (hexStr u).length = hexK u + 1 := hexAt_length _ _
theorem fmt16_length (v : Int) : (fmt16 v).length ≤ 9 := by
  have := hexK_le v.natAbs
  unfold fmt16
  split
  · simp [hexStr_length]; omega
  · simp [hexStr_length]; omega

theorem hexK_unique (u k : Nat) (hu : u < 4294967296) (h1 : u / 16 ^ k < 16) (h2 : k = 0 ∨ 16 ≤ u / 16 ^ (k - 1)) (hk : k ≤ 7) : k = hexK u := by
  have h1' : u < 16 ^ (k + 1) := by
    have := (Nat.div_lt_iff_lt_mul (Nat.pow_pos (by decide : 0 < 16))).1 h1
    rw [Nat.pow_succ, Nat.mul_comm]; exact this
  have h2' : k = 0 ∨ 16 ^ k ≤ u := by
    rcases h2 with h | h
    · exact Or.inl h
    · by_cases e : k = 0
      · exact Or.inl e
      · right
        have := (Nat.le_div_iff_mul_le (Nat.pow_pos (by decide : 0 < 16))).1 h
        obtain ⟨j, rfl⟩ : ∃ j, k = j + 1 := ⟨k - 1, by omega⟩
        rw [Nat.pow_succ, Nat.mul_comm]; simpa using this
  unfold hexK
  match k, hk with
  | 0, _ => simp at h1'; simp [h1']
  | 1, _ =>
    simp at h1' h2'
    repeat' split
    all_goals omega
  | 2, _ =>
    simp at h1' h2'
    repeat' split
    all_goals omega
  | 3, _ =>
    simp at h1' h2'
    repeat' split
    all_goals omega
  | 4, _ =>
    simp at h1' h2'
    repeat' split
    all_goals omega
  | 5, _ =>
    simp at h1' h2'
    repeat' split
    all_goals omega
  | 6, _ =>
    simp at h1' h2'
    repeat' split
    all_goals omega
  | 7, _ =>
    simp at h1' h2'
    repeat' split
    all_goals omega

theorem div_small (u k : Nat) (hu : u < 4294967296) (hk : 7 ≤ k) : u / 16 ^ k < 16 := by
  have h : 16 ^ 7 ≤ 16 ^ k := Nat.pow_le_pow_right (by decide) hk
  have := Nat.div_le_div_left h (by decide : 0 < 16 ^ 7) (a := u)
  have h7 : u / 16 ^ 7 < 16 := by
    rw [Nat.div_lt_iff_lt_mul (by decide)]; simpa using hu
  omega

theorem div_pow_succ (u k : Nat) : u / 16 ^ (k + 1) = u / 16 ^ k / 16 := by rw [Nat.pow_succ, Nat.div_div_eq_div_mul]

/-- The buffer of formatBits: from P on the digits. -/
def buf (u P j : Nat) : Value := if P ≤ j then .int .u8 ((digAt u (64 - j)).toNat : Int) else .int .u8 0

theorem and15 (c : Nat) (hc : c < 4294967296) : bits BinOp.and IntKind.u64 (c : Int) 15 = ((c % 16 : Nat) : Int) := by
  have := u64_and_nat c 15 (by omega) (by decide)
  have e : c &&& 15 = c % 16 := by
    have := Nat.and_two_pow_sub_one_eq_mod c 4
    simpa using this
  rw [e] at this
  exact this

end Go.Proofs.Qxb6604326aDoor
