/-
  zzParseEsc (13) at an escape that writeSet has written.
-/
import Derived.Test.Qxb6604326aDoorStrs
namespace Go.Proofs.Qxb6604326aDoor
open Go.RowKit

/-- The bytes l lie in t from i on. -/
def Seg (t : ByteArray) (i : Nat) (l : List UInt8) : Prop := ∀ j c, l[j]? = some c → t.data.toList[i + j]? = some c

theorem Seg.at {t : ByteArray} {i : Nat} {l : List UInt8} (h : Seg t i l) (j : Nat) (c : UInt8) (hc : l[j]? = some c) : ∃ hi : i + j < t.size, t[i + j] = c := at_of rfl (h j c hc)

theorem Seg.cons {t : ByteArray} {i : Nat} {c : UInt8} {l : List UInt8} (h : Seg t i (c :: l)) : Seg t (i + 1) l := fun j d hd => by
  have := h (j + 1) d (by simpa using hd)
  rw [show i + (j + 1) = i + 1 + j from by omega] at this
  exact this
theorem Seg.left {t : ByteArray} {i : Nat} {l r : List UInt8} (h : Seg t i (l ++ r)) : Seg t i l := fun j c hc => h j c (by
  have hj := (List.getElem?_eq_some_iff.1 hc).1
  rw [List.getElem?_append_left hj]; exact hc)
theorem Seg.right {t : ByteArray} {i : Nat} {l r : List UInt8} (h : Seg t i (l ++ r)) : Seg t (i + l.length) r := fun j c hc => by
  have := h (l.length + j) c (by rw [List.getElem?_append_right (by omega), show l.length + j - l.length = j from by omega]; exact hc)
  rw [show i + (l.length + j) = i + l.length + j from by omega] at this
  exact this

theorem hexDig_lo (d : Nat) (h : d < 10) : (hexDig d).toNat = 48 + d := by
  match d, h with
  | 0, _ => rfl
  | 1, _ => rfl
  | 2, _ => rfl
  | 3, _ => rfl
  | 4, _ => rfl
  | 5, _ => rfl
  | 6, _ => rfl
  | 7, _ => rfl
  | 8, _ => rfl
  | 9, _ => rfl
  | n + 10, h => exact absurd h (by omega)
theorem hexDig_hi (d : Nat) (h : 10 ≤ d) (h' : d < 16) : (hexDig d).toNat = 87 + d := by
  match d, h, h' with
  | 10, _, _ => rfl
  | 11, _, _ => rfl
  | 12, _, _ => rfl
  | 13, _, _ => rfl
  | 14, _, _ => rfl
  | 15, _, _ => rfl
  | n + 16, _, h => exact absurd h (by omega)

theorem hexStr_at (u q : Nat) (hq : q ≤ hexK u) : (hexStr u)[q]? = some (digAt u (hexK u - q)) := by
  unfold hexStr hexAt
  rw [List.getElem?_map, List.getElem?_range (by omega)]; rfl

theorem top_digit (u : Nat) (hu : u < 4294967296) (hK : 0 < hexK u) : 1 ≤ u / 16 ^ hexK u ∧ u / 16 ^ hexK u < 16 := by
  have h : ∀ k, k ≤ 7 → k = hexK u → 0 < k → 1 ≤ u / 16 ^ k ∧ u / 16 ^ k < 16 := by
    intro k hk7 hk hk0
    unfold hexK at hk
    match k, hk7 with
    | 0, _ => omega
    | 1, _ => simp; repeat' (first | omega | (split at hk))
    | 2, _ => simp; repeat' (first | omega | (split at hk))
    | 3, _ => simp; repeat' (first | omega | (split at hk))
    | 4, _ => simp; repeat' (first | omega | (split at hk))
    | 5, _ => simp; repeat' (first | omega | (split at hk))
    | 6, _ => simp; repeat' (first | omega | (split at hk))
    | 7, _ => simp; repeat' (first | omega | (split at hk))
  exact h _ (hexK_le u) rfl hK

theorem small_top (u : Nat) (hu : u < 4294967296) : u / 16 ^ (hexK u + 1) = 0 := by
  rw [div_pow_succ]
  by_cases h : 0 < hexK u
  · have := (top_digit u hu h).2
    generalize u / 16 ^ hexK u = z at *
    omega
  · have h0 : hexK u = 0 := by omega
    rw [h0]
    have : u < 16 := by
      apply Classical.byContradiction; intro hh
      unfold hexK at h0
      rw [if_neg hh] at h0
      repeat' (first | omega | (split at h0))
    simp; omega

/-- One digit more. -/
theorem val_step (u K q : Nat) (hq : q ≤ K) : u / 16 ^ (K + 1 - q) * 16 + u / 16 ^ (K - q) % 16 = u / 16 ^ (K - q) := by
  rw [show K + 1 - q = K - q + 1 from by omega, div_pow_succ]
  omega
theorem val_le (u m : Nat) : u / 16 ^ m ≤ u := Nat.div_le_self _ _


theorem ret3 {a b : Int} {c d : Int} (h : a = b) (h' : c = d) : Ending.returned (.tuple #[.int .i64 a, .int .i64 c, .bool true]) = .returned (.tuple #[.int .i64 b, .int .i64 d, .bool true]) := by rw [h, h']

set_option maxHeartbeats 1000000 in
theorem esc_pos (t : ByteArray) (i E u : Nat) (w : World) (hseg : Seg t i (92 :: 120 :: 123 :: (hexStr u ++ [125]))) (hE : i + (hexK u + 5) ≤ E) (hEt : E ≤ t.size) (ht : t.size ≤ 4000000) (hu : u < 4294967296) :
    Calls Tryd.prog 13 #[.string t, .int .i64 i, .int .i64 E] w fun e w' => e = .returned (.tuple #[.int .i64 u, .int .i64 ((i + (hexK u + 5) : Nat) : Int), .bool true]) ∧ w = w' := by
  have hK := hexK_le u
  obtain ⟨b0, e0⟩ := hseg.at 0 92 rfl
  obtain ⟨b1, e1⟩ := hseg.at 1 120 rfl
  obtain ⟨b2, e2⟩ := hseg.at 2 123 rfl
  have hd := hseg.cons.cons.cons
  have q0 : ((t[i].toNat : Int) != 92) = false := by have : t[i] = 92 := e0; rw [this]; rfl
  have q1 : ((t[i + 1].toNat : Int) != 120) = false := by rw [e1]; rfl
  have q2 : ((t[i + 2].toNat : Int) != 123) = false := by rw [e2]; rfl
  have g0 : decide ((E : Int) < (i : Int) + 3) = false := by simp; omega
  obtain ⟨b3, e3⟩ := hd.left.at 0 (digAt u (hexK u)) (hexStr_at u 0 (Nat.zero_le _))
  have hS3 : i + 3 < E := by omega
  have q3 : ((t[i + 3].toNat : Int) == 45) = false := by
    have h3 : t[i + 3] = digAt u (hexK u) := e3
    rw [h3, beq_eq_false_iff_ne]
    unfold digAt
    by_cases hl : u / 16 ^ hexK u % 16 < 10
    · rw [hexDig_lo _ hl]; omega
    · rw [hexDig_hi _ (by omega) (by omega)]; omega
  have HD := hide hd
  clear hseg e0 e1 e2 e3 hd
  go_enter Tryd.func13, Tryd.ntmps13
  go_wp2
  have hSE : (i + 3) + (hexK u + 2) ≤ E := by omega
  clear q0 q1 q2 q3 g0 b0 b1 b2 b3 hS3
  go_loopw [9, 12, 13, 14] (fun j v _ _ wr => ∃ J val q : Nat, (i + 3) ≤ J ∧ q ≤ hexK u + 1 ∧ Hid (J = (i + 3) + q) ∧ j = .int .i64 J ∧ v = .int .i64 val ∧ val < 4294967296 ∧ Hid (val = u / 16 ^ (hexK u + 1 - q)) ∧ wr = w) (fun j _ _ _ _ => E - (intOf j).toNat)
  case atStart => exact ⟨(i + 3), 0, 0, Nat.le_refl _, Nat.zero_le _, hide rfl, by go_num, rfl, by omega, hide (by rw [Nat.sub_zero, small_top u hu]), rfl⟩
  case round =>
    obtain ⟨J, val, q, hJ, hq, HJ, rfl, rfl, hval, HV, hwr⟩ := hrel
    subst hwr
    by_cases hqK : q ≤ hexK u
    · have hJ8 : J < (i + 3) + 8 := by have := unhide HJ; omega
      have hJE : J < E := by have := unhide HJ; omega
      obtain ⟨bJ, eJ⟩ : ∃ h : J < t.size, t[J] = digAt u (hexK u - q) := by
        have := (unhide HD).left.at q _ (hexStr_at u q hqK)
        rw [← unhide HJ] at this
        exact this
      obtain ⟨d, hdd⟩ : ∃ d, d = u / 16 ^ (hexK u - q) % 16 := ⟨_, rfl⟩
      have hd16 : d < 16 := by omega
      have hnew : val * 16 + d = u / 16 ^ (hexK u - q) := by rw [hdd, unhide HV]; exact val_step u (hexK u) q hqK
      have hnb : val * 16 + d < 4294967296 := by rw [hnew]; exact Nat.lt_of_le_of_lt (val_le u _) hu
      have HN : Hid (val * 16 + d = u / 16 ^ (hexK u + 1 - (q + 1))) := by rw [show hexK u + 1 - (q + 1) = hexK u - q from by omega]; exact hide hnew
      have hG : decide ((J : Int) < (E : Int)) = true := by simp; omega
      by_cases hl : d < 10
      · have hcv : (t[J].toNat : Int) = 48 + (d : Int) := by rw [eJ]; unfold digAt; rw [← hdd, hexDig_lo d hl]; omega
        obtain ⟨c, hc⟩ : ∃ c : Int, c = 48 + (d : Int) := ⟨_, rfl⟩
        rw [← hc] at hcv
        have hc1 : 48 ≤ c := by omega
        have hc2 : c ≤ 57 := by omega
        have hcn : (c != 125) = true := by rw [bne_iff_ne]; omega
        have HC := hide hc
        clear hnew hdd eJ hc
        go_wp2
        go_roundw
        case rel => exact ⟨J + 1, val * 16 + d, q + 1, by omega, by omega, hide (by have := unhide HJ; omega), by go_num, by have := unhide HC; go_num, hnb, HN, trivial⟩
        case measure => simp [intOf]; omega
      · have hcv : (t[J].toNat : Int) = 87 + (d : Int) := by rw [eJ]; unfold digAt; rw [← hdd, hexDig_hi d (by omega) hd16]; omega
        obtain ⟨c, hc⟩ : ∃ c : Int, c = 87 + (d : Int) := ⟨_, rfl⟩
        rw [← hc] at hcv
        have hc1 : 97 ≤ c := by omega
        have hc2 : c ≤ 102 := by omega
        have hcn : (c != 125) = true := by rw [bne_iff_ne]; omega
        have HC := hide hc
        clear hnew hdd eJ hc
        go_wp2
        go_roundw
        case rel => exact ⟨J + 1, val * 16 + d, q + 1, by omega, by omega, hide (by have := unhide HJ; omega), by go_num, by have := unhide HC; go_num, hnb, HN, trivial⟩
        case measure => simp [intOf]; omega
    · have hJv : J = (i + 3) + (hexK u + 1) := by have := unhide HJ; omega
      have hJE : J < E := by omega
      obtain ⟨bJ, eJ⟩ : ∃ h : J < t.size, t[J] = 125 := by
        have := (unhide HD).right.at 0 125 rfl
        rw [hexStr_length, show (i + 3) + (hexK u + 1) + 0 = J from by omega] at this
        exact this
      have hG : decide ((J : Int) < (E : Int)) = true := by simp; omega
      have hG2 : decide ((E : Int) ≤ (J : Int)) = false := by simp; omega
      have hx : ((t[J].toNat : Int) != 125) = false := by rw [eJ]; rfl
      have hn0 : ((J : Int) - ((i : Int) + 3) == 0) = false := by rw [beq_eq_false_iff_ne]; omega
      have hvu : val = u := by
        have := unhide HV
        rw [show hexK u + 1 - q = 0 from by omega] at this
        simpa using this
      have HJV := hide hJv
      have HVU := hide hvu
      obtain ⟨bS, eS⟩ : ∃ h : (i + 3) < t.size, t[i + 3] = digAt u (hexK u) := by
        have := (unhide HD).left.at 0 _ (hexStr_at u 0 (Nat.zero_le _))
        exact this
      by_cases hK0 : hexK u = 0
      · have hn1 : decide ((1 : Int) < (J : Int) - ((i : Int) + 3)) = false := by simp; omega
        have HK0 := hide hK0
        clear hJv hvu eJ eS hK0
        go_wp2
        go_ret3
        exact ⟨ret3 (by have := unhide HVU; omega) (by have := unhide HJV; omega), rfl⟩
      · have hn1 : decide ((1 : Int) < (J : Int) - ((i : Int) + 3)) = true := by simp; omega
        have hz : ((t[i + 3].toNat : Int) == 48) = false := by
          have ht := top_digit u hu (by omega)
          rw [eS, beq_eq_false_iff_ne]
          unfold digAt
          rw [Nat.mod_eq_of_lt ht.2]
          by_cases hl : u / 16 ^ hexK u < 10
          · rw [hexDig_lo _ hl]; omega
          · rw [hexDig_hi _ (by omega) ht.2]; omega
        clear hJv hvu eJ eS
        go_wp2
        go_ret3
        exact ⟨ret3 (by have := unhide HVU; omega) (by have := unhide HJV; omega), rfl⟩

set_option maxHeartbeats 1000000 in
theorem esc_neg (t : ByteArray) (i E u : Nat) (w : World) (hseg : Seg t i (92 :: 120 :: 123 :: 45 :: (hexStr u ++ [125]))) (hE : i + (hexK u + 6) ≤ E) (hEt : E ≤ t.size) (ht : t.size ≤ 4000000) (hu : u < 4294967296) (hu1 : 1 ≤ u) :
    Calls Tryd.prog 13 #[.string t, .int .i64 i, .int .i64 E] w fun e w' => e = .returned (.tuple #[.int .i64 (-(u : Int)), .int .i64 ((i + (hexK u + 6) : Nat) : Int), .bool true]) ∧ w = w' := by
  have hK := hexK_le u
  obtain ⟨b0, e0⟩ := hseg.at 0 92 rfl
  obtain ⟨b1, e1⟩ := hseg.at 1 120 rfl
  obtain ⟨b2, e2⟩ := hseg.at 2 123 rfl
  have hd := hseg.cons.cons.cons
  have q0 : ((t[i].toNat : Int) != 92) = false := by have : t[i] = 92 := e0; rw [this]; rfl
  have q1 : ((t[i + 1].toNat : Int) != 120) = false := by rw [e1]; rfl
  have q2 : ((t[i + 2].toNat : Int) != 123) = false := by rw [e2]; rfl
  have g0 : decide ((E : Int) < (i : Int) + 3) = false := by simp; omega
  obtain ⟨b3, e3⟩ := hd.at 0 45 rfl
  have hS3 : i + 3 < E := by omega
  have q3 : ((t[i + 3].toNat : Int) == 45) = true := by
    have h3 : t[i + 3] = 45 := e3
    rw [h3]; rfl
  have hd := hd.cons
  have HD := hide hd
  clear hseg e0 e1 e2 e3 hd
  go_enter Tryd.func13, Tryd.ntmps13
  go_wp2
  have hSE : (i + 3 + 1) + (hexK u + 2) ≤ E := by omega
  clear q0 q1 q2 q3 g0 b0 b1 b2 b3 hS3
  go_loopw [9, 12, 13, 14] (fun j v _ _ wr => ∃ J val q : Nat, (i + 3 + 1) ≤ J ∧ q ≤ hexK u + 1 ∧ Hid (J = (i + 3 + 1) + q) ∧ j = .int .i64 J ∧ v = .int .i64 val ∧ val < 4294967296 ∧ Hid (val = u / 16 ^ (hexK u + 1 - q)) ∧ wr = w) (fun j _ _ _ _ => E - (intOf j).toNat)
  case atStart => exact ⟨(i + 3 + 1), 0, 0, Nat.le_refl _, Nat.zero_le _, hide rfl, by go_num, rfl, by omega, hide (by rw [Nat.sub_zero, small_top u hu]), rfl⟩
  case round =>
    obtain ⟨J, val, q, hJ, hq, HJ, rfl, rfl, hval, HV, hwr⟩ := hrel
    subst hwr
    by_cases hqK : q ≤ hexK u
    · have hJ8 : J < (i + 3 + 1) + 8 := by have := unhide HJ; omega
      have hJE : J < E := by have := unhide HJ; omega
      obtain ⟨bJ, eJ⟩ : ∃ h : J < t.size, t[J] = digAt u (hexK u - q) := by
        have := (unhide HD).left.at q _ (hexStr_at u q hqK)
        rw [← unhide HJ] at this
        exact this
      obtain ⟨d, hdd⟩ : ∃ d, d = u / 16 ^ (hexK u - q) % 16 := ⟨_, rfl⟩
      have hd16 : d < 16 := by omega
      have hnew : val * 16 + d = u / 16 ^ (hexK u - q) := by rw [hdd, unhide HV]; exact val_step u (hexK u) q hqK
      have hnb : val * 16 + d < 4294967296 := by rw [hnew]; exact Nat.lt_of_le_of_lt (val_le u _) hu
      have HN : Hid (val * 16 + d = u / 16 ^ (hexK u + 1 - (q + 1))) := by rw [show hexK u + 1 - (q + 1) = hexK u - q from by omega]; exact hide hnew
      have hG : decide ((J : Int) < (E : Int)) = true := by simp; omega
      by_cases hl : d < 10
      · have hcv : (t[J].toNat : Int) = 48 + (d : Int) := by rw [eJ]; unfold digAt; rw [← hdd, hexDig_lo d hl]; omega
        obtain ⟨c, hc⟩ : ∃ c : Int, c = 48 + (d : Int) := ⟨_, rfl⟩
        rw [← hc] at hcv
        have hc1 : 48 ≤ c := by omega
        have hc2 : c ≤ 57 := by omega
        have hcn : (c != 125) = true := by rw [bne_iff_ne]; omega
        have HC := hide hc
        clear hnew hdd eJ hc
        go_wp2
        go_roundw
        case rel => exact ⟨J + 1, val * 16 + d, q + 1, by omega, by omega, hide (by have := unhide HJ; omega), by go_num, by have := unhide HC; go_num, hnb, HN, trivial⟩
        case measure => simp [intOf]; omega
      · have hcv : (t[J].toNat : Int) = 87 + (d : Int) := by rw [eJ]; unfold digAt; rw [← hdd, hexDig_hi d (by omega) hd16]; omega
        obtain ⟨c, hc⟩ : ∃ c : Int, c = 87 + (d : Int) := ⟨_, rfl⟩
        rw [← hc] at hcv
        have hc1 : 97 ≤ c := by omega
        have hc2 : c ≤ 102 := by omega
        have hcn : (c != 125) = true := by rw [bne_iff_ne]; omega
        have HC := hide hc
        clear hnew hdd eJ hc
        go_wp2
        go_roundw
        case rel => exact ⟨J + 1, val * 16 + d, q + 1, by omega, by omega, hide (by have := unhide HJ; omega), by go_num, by have := unhide HC; go_num, hnb, HN, trivial⟩
        case measure => simp [intOf]; omega
    · have hJv : J = (i + 3 + 1) + (hexK u + 1) := by have := unhide HJ; omega
      have hJE : J < E := by omega
      obtain ⟨bJ, eJ⟩ : ∃ h : J < t.size, t[J] = 125 := by
        have := (unhide HD).right.at 0 125 rfl
        rw [hexStr_length, show (i + 3 + 1) + (hexK u + 1) + 0 = J from by omega] at this
        exact this
      have hG : decide ((J : Int) < (E : Int)) = true := by simp; omega
      have hG2 : decide ((E : Int) ≤ (J : Int)) = false := by simp; omega
      have hx : ((t[J].toNat : Int) != 125) = false := by rw [eJ]; rfl
      have hn0 : ((J : Int) - ((i : Int) + 3 + 1) == 0) = false := by rw [beq_eq_false_iff_ne]; omega
      have hvu : val = u := by
        have := unhide HV
        rw [show hexK u + 1 - q = 0 from by omega] at this
        simpa using this
      have hv0 : ((val : Int) == 0) = false := by rw [beq_eq_false_iff_ne]; omega
      have HJV := hide hJv
      have HVU := hide hvu
      obtain ⟨bS, eS⟩ : ∃ h : (i + 3 + 1) < t.size, t[i + 3 + 1] = digAt u (hexK u) := by
        have := (unhide HD).left.at 0 _ (hexStr_at u 0 (Nat.zero_le _))
        exact this
      by_cases hK0 : hexK u = 0
      · have hn1 : decide ((1 : Int) < (J : Int) - ((i : Int) + 3 + 1)) = false := by simp; omega
        have HK0 := hide hK0
        clear hJv hvu eJ eS hK0
        go_wp2
        go_ret3
        exact ⟨ret3 (by have := unhide HVU; omega) (by have := unhide HJV; omega), rfl⟩
      · have hn1 : decide ((1 : Int) < (J : Int) - ((i : Int) + 3 + 1)) = true := by simp; omega
        have hz : ((t[i + 3 + 1].toNat : Int) == 48) = false := by
          have ht := top_digit u hu (by omega)
          rw [eS, beq_eq_false_iff_ne]
          unfold digAt
          rw [Nat.mod_eq_of_lt ht.2]
          by_cases hl : u / 16 ^ hexK u < 10
          · rw [hexDig_lo _ hl]; omega
          · rw [hexDig_hi _ (by omega) ht.2]; omega
        clear hJv hvu eJ eS
        go_wp2
        go_ret3
        exact ⟨ret3 (by have := unhide HVU; omega) (by have := unhide HJV; omega), rfl⟩

theorem parseEsc (t : ByteArray) (i E : Nat) (v : Int) (w : World) (hseg : Seg t i (escB v)) (hE : i + (escB v).length ≤ E) (hEt : E ≤ t.size) (ht : t.size ≤ 4000000) (hv : I32 v) :
    Calls Tryd.prog 13 #[.string t, .int .i64 i, .int .i64 E] w fun e w' => e = .returned (.tuple #[.int .i64 v, .int .i64 ((i + (escB v).length : Nat) : Int), .bool true]) ∧ w = w' := by
  obtain ⟨h0, h1⟩ := hv
  by_cases hn : v < 0
  · obtain ⟨u, rfl⟩ : ∃ u : Nat, v = -(u : Int) := ⟨v.natAbs, by omega⟩
    have hf : fmt16 (-(u : Int)) = 45 :: hexStr u := by
      unfold fmt16; rw [if_pos hn]; simp
    have hl : (escB (-(u : Int))).length = hexK u + 6 := by
      unfold escB; rw [hf]; simp [hexStr_length]
    rw [hl] at hE ⊢
    have hs : Seg t i (92 :: 120 :: 123 :: 45 :: (hexStr u ++ [125])) := by
      have e : escB (-(u : Int)) = 92 :: 120 :: 123 :: 45 :: (hexStr u ++ [125]) := by unfold escB; rw [hf]; rfl
      rw [e] at hseg; exact hseg
    exact esc_neg t i E u w hs hE hEt ht (by omega) (by omega)
  · obtain ⟨u, rfl⟩ : ∃ u : Nat, v = (u : Int) := ⟨v.toNat, by omega⟩
    have hf : fmt16 (u : Int) = hexStr u := by
      unfold fmt16; rw [if_neg hn]; simp
    have hl : (escB (u : Int)).length = hexK u + 5 := by
      unfold escB; rw [hf]; simp [hexStr_length]
    rw [hl] at hE ⊢
    have hs : Seg t i (92 :: 120 :: 123 :: (hexStr u ++ [125])) := by
      have e : escB (u : Int) = 92 :: 120 :: 123 :: (hexStr u ++ [125]) := by unfold escB; rw [hf]
      rw [e] at hseg; exact hseg
    exact esc_pos t i E u w hs hE hEt ht (by omega)

end Go.Proofs.Qxb6604326aDoor
