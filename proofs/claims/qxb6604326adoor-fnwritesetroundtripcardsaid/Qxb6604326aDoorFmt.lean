/-
  strconv.FormatInt at base 16 over an int32's range: isPowerOfTwo (26), TrailingZeros64 (29), TrailingZeros (27), formatBits (22), internal FormatInt (18), FormatInt (16).
-/
import Derived.Test.Qxb6604326aDoorRows
import Derived.Test.Qxb6604326aDoorHex
import Derived.WalkSpells
import Derived.WalkLawsBesides
import Derived.Deep.OwnRows
namespace Go.Proofs.Qxb6604326aDoor
open Go.RowKit

theorem and16 : bits BinOp.and IntKind.u64 16 (IntKind.u64.wrap (-16)) = 16 := by decide +kernel
theorem mul16 : IntKind.u64.wrap (4573923408821661840) = 4573923408821661840 := by decide +kernel
/-- The one cell of math/bits.deBruijn64tab that is read at 16. -/
def Tab (w : World) : Prop := w.cell? ⟨2, 15, none⟩ = some (.int .u8 4)

set_option maxHeartbeats 400000 in
theorem tz29 (w : World) (hc : Tab w) : Calls Tryd.prog 29 #[.int .u64 16] w fun e w' => e = .returned (.int .i64 4) ∧ w' = w := by
  unfold Tab at hc
  have h1 := and16
  have h2 := mul16
  go_enter Tryd.func29, Tryd.ntmps29
  go_wp2
  go_ret
  exact ⟨rfl, rfl⟩
set_option maxHeartbeats 400000 in
theorem tz27 (w : World) (hc : Tab w) : Calls Tryd.prog 27 #[.int .u64 16] w fun e w' => e = .returned (.int .i64 4) ∧ w' = w := by
  go_enter Tryd.func27, Tryd.ntmps27
  go_wp2_with (go_at_call 29; refine (tz29 _ hc).mono ?_; rintro e w' ⟨rfl, rfl⟩)
  go_ret
  exact ⟨rfl, rfl⟩
theorem and15i : bits BinOp.and IntKind.i64 16 15 = 0 := by decide +kernel
set_option maxHeartbeats 400000 in
theorem pow26 (w : World) : Calls Tryd.prog 26 #[.int .i64 16] w fun e w' => e = .returned (.bool true) ∧ w' = w := by
  have h := and15i
  go_enter Tryd.func26, Tryd.ntmps26
  go_wp2
  go_ret
  exact ⟨rfl, rfl⟩

theorem Tab.below {w w' : World} {B : Nat} (h : Tab w) (hb : Below B w w') (hB : 2 < B) : Tab w' := (hb.cell (p := ⟨2, 15, none⟩) hB).trans h
theorem Tab.lt {w : World} (h : Tab w) : 2 < w.heap.size := by
  have := block_lt_of_cell h
  simpa using this

theorem add_plain (b o j : Nat) : (⟨b, o, none⟩ : Addr).add j = ⟨b, o + j, none⟩ := by
  by_cases h : j = 0
  · subst h; simp [Addr.add]
  · simp [Addr.add, h]

def digits : ByteArray := ⟨#[48, 49, 50, 51, 52, 53, 54, 55, 56, 57, 97, 98, 99, 100, 101, 102, 103, 104, 105, 106, 107, 108, 109, 110, 111, 112, 113, 114, 115, 116, 117, 118, 119, 120, 121, 122]⟩

theorem digits_val (d : Nat) (h : d < 16) : digits[d]'(Nat.lt_of_lt_of_le h (by decide)) = hexDig d := by
  match d, h with
  | 0, _ => rfl
  | 1, _ => rfl
  | 2, _ => rfl
  | 3, _ => rfl
  | 4, _ => rfl
  | 5, _ => rfl
  | 6, _ => rfl
  | 7, _ => rfl
  | 8, _ => rfl
  | 9, _ => rfl
  | 10, _ => rfl
  | 11, _ => rfl
  | 12, _ => rfl
  | 13, _ => rfl
  | 14, _ => rfl
  | 15, _ => rfl
  | n + 16, h => exact absurd h (by omega)

def zeros65 : Array Value := Array.replicate 65 (.int .u8 0)
theorem zero64 (w : World) : Sem.run Tryd.prog (zeroValue 64) w = .ok (.agg zeros65) w := by kernel_rfl

theorem buf_start (w : World) (u : Nat) : (w.alloc (.cells zeros65 64)).rowIs w.heap.size 64 65 (buf u 65) :=
  World.rowIs_alloc w zeros65 64 (buf u 65) (fun i hi => by
    have hi' : i < 65 := by simpa [zeros65] using hi
    simp only [zeros65, buf]
    rw [Array.getElem?_replicate, if_pos hi', if_neg (by omega)])

theorem buf_set {w : World} {b u P : Nat} (h : w.rowIs b 64 65 (buf u (P + 1))) (_hP : P < 65) (c : UInt8) (hc : c = digAt u (64 - P)) : (w.setCell ⟨b, P, none⟩ (.int .u8 (c.toNat : Int))).rowIs b 64 65 (buf u P) := by
  refine (h.set P _).congr fun i hi => ?_
  unfold buf
  by_cases e : i = P
  · subst e; rw [if_pos rfl, if_pos (Nat.le_refl _), hc]
  · rw [if_neg e]
    by_cases l : P + 1 ≤ i
    · rw [if_pos l, if_pos (by omega)]
    · rw [if_neg l, if_neg (by omega)]

theorem slice64 (N Q : Nat) (hQ : Q ≤ 64) (W : World) : (Instr.sliceAt 64 (.pointer (some ⟨N, 0, none⟩)) (some (.int .i64 (Q : Int))) none none).run Tryd.prog W = .ok (.slice (some ⟨N, Q, none⟩) (65 - Q) (65 - Q)) W := by
  have hal : Tryd.prog.arrayLen 64 = 65 := by kernel_rfl
  rw [run_sliceAt_array_l W 64 ⟨N, 0, none⟩ (by kernel_rfl) .i64 (Q : Int) (by omega) (by rw [hal]; omega), hal]
  have hne : (65 : Int) - (Q : Int) ≠ 0 := by omega
  go_simp
  omega

theorem conv64 {W : World} {N u Q : Nat} (h : W.rowIs N 64 65 (buf u Q)) (hQ : Q ≤ 64) (hK : 64 - Q = hexK u) : (convert 37 9 (.slice (some ⟨N, Q, none⟩) (65 - Q) (65 - Q))).run Tryd.prog W = .ok (.string ⟨(hexStr u).toArray⟩) W := by
  have hl : (hexStr u).length = 65 - Q := by rw [hexStr_length]; omega
  have := run_convert_bytes_back (P := Tryd.prog) W 37 9 5 ⟨N, Q, none⟩ (65 - Q) (hexStr u) Tryd.underlying37 Tryd.underlying5 Tryd.underlying9 (fun j hj => by
    rw [add_plain, h.cell (by omega)]
    unfold buf
    rw [if_pos (by omega)]
    have e : (hexStr u)[j] = digAt u (64 - (Q + j)) := by
      simp only [hexStr, hexAt, List.getElem_map, List.getElem_range]
      rw [show hexK u - j = 64 - (Q + j) from by omega]
    rw [e])
  rw [hl] at this
  exact this

theorem conv64n {W : World} {N u R : Nat} (h : W.rowIs N 64 65 (buf u (R + 1))) (hQ : R + 1 ≤ 64) (hK : 64 - (R + 1) = hexK u) : (convert 37 9 (.slice (some ⟨N, R, none⟩) (65 - R) (65 - R))).run Tryd.prog (W.setCell ⟨N, R, none⟩ (.int .u8 45)) = .ok (.string ⟨(45 :: hexStr u).toArray⟩) (W.setCell ⟨N, R, none⟩ (.int .u8 45)) := by
  have hl : (45 :: hexStr u).length = 65 - R := by rw [List.length_cons, hexStr_length]; omega
  have := run_convert_bytes_back (P := Tryd.prog) (W.setCell ⟨N, R, none⟩ (.int .u8 45)) 37 9 5 ⟨N, R, none⟩ (65 - R) (45 :: hexStr u) Tryd.underlying37 Tryd.underlying5 Tryd.underlying9 (fun j hj => by
    rw [add_plain, (h.set R (.int .u8 45)).cell (by omega)]
    cases j with
    | zero => simp
    | succ j =>
      have hj' : j < (hexStr u).length := by simpa using hj
      rw [if_neg (by omega)]
      unfold buf
      rw [if_pos (by omega)]
      have e : (hexStr u)[j] = digAt u (64 - (R + (j + 1))) := by
        simp only [hexStr, hexAt, List.getElem_map, List.getElem_range]
        rw [show hexK u - j = 64 - (R + (j + 1)) from by omega]
      rw [List.getElem_cons_succ, e])
  rw [hl] at this
  exact this

theorem step_hex {u c Q : Nat} (hc : c = u / 16 ^ (65 - (Q + 1))) (h16 : 16 ≤ c) (hQ : Q ≤ 64) : c / 16 = u / 16 ^ (65 - Q) ∧ (Q = 65 ∨ 16 ≤ u / 16 ^ (64 - Q)) := by
  rw [show 65 - (Q + 1) = 64 - Q from by omega] at hc
  rw [show 65 - Q = 64 - Q + 1 from by omega, div_pow_succ, ← hc]
  exact ⟨rfl, Or.inr h16⟩

set_option maxHeartbeats 400000 in
theorem bits22 (u : Nat) (w : World) (hu : u < 4294967296) (hT : Tab w) :
    Calls Tryd.prog 22 #[.slice none 0 0, .int .u64 u, .int .i64 16, .bool false, .bool false] w fun e w' => e = .returned (.tuple #[.slice none 0 0, .string ⟨(hexStr u).toArray⟩]) ∧ Below w.heap.size w w' := by
  have hz := zero64
  have hT' : Tab (w.alloc (.cells zeros65 64)) := hT.below ((Below.refl w.heap.size w).alloc (Nat.le_refl _) _) hT.lt
  go_enter Tryd.func22, Tryd.ntmps22
  go_wp2_with fail
  refine (pow26 _).mono ?_
  rintro e w' ⟨rfl, rfl⟩
  go_wp2_with fail
  refine (tz27 _ hT').mono ?_
  rintro e w' ⟨rfl, rfl⟩
  go_wp2
  go_loopw [1, 13] (fun us i wr => ∃ P c : Nat, 58 ≤ P ∧ P ≤ 65 ∧ us = .int .u64 c ∧ i = .int .i64 P ∧ c < 4294967296 ∧ Hid (c = u / 16 ^ (65 - P) ∧ (P = 65 ∨ 16 ≤ u / 16 ^ (64 - P))) ∧ wr.rowIs w.heap.size 64 65 (buf u P) ∧ Below w.heap.size w wr) (fun us _ _ => (intOf us).toNat)
  case atStart => exact ⟨65, u, by omega, by omega, rfl, rfl, hu, hide ⟨by simp, Or.inl rfl⟩, buf_start w u, (Below.refl _ _).alloc (Nat.le_refl _) _⟩
  case round =>
    obtain ⟨P, c, hP1, hP2, rfl, rfl, hc, HC, hrow, hbel⟩ := hrel
    obtain ⟨Q, rfl⟩ : ∃ Q, P = Q + 1 := ⟨P - 1, by omega⟩
    clear hz hT hT'
    have hdst : wr.cell? ⟨w.heap.size, Q, none⟩ = some (buf u (Q + 1) Q) := hrow.cell (by omega)
    have hfz : wr.frozen? ⟨w.heap.size, Q, none⟩ = false := hrow.frozen Q
    by_cases hlt : 16 ≤ c
    · have hQ : 58 ≤ Q := by
        apply Classical.byContradiction; intro hh
        have := div_small u (65 - (Q + 1)) hu (by omega)
        have := (unhide HC).1
        omega
      have hd : digAt u (64 - Q) = hexDig (c % 16) := by unfold digAt; rw [(unhide HC).1, show 65 - (Q + 1) = 64 - Q from by omega]
      have hm := and15 c hc
      have h36 : c % 16 < 36 := by omega
      have HR := buf_set hrow (by omega) (digits[c % 16]'h36) ((digits_val (c % 16) (by omega)).trans hd.symm)
      have HB := hbel.setCell (p := ⟨w.heap.size, Q, none⟩) (Nat.le_refl _) (.int .u8 ((digits[c % 16]'h36).toNat : Int))
      clear hd hrow hbel
      go_wp2
      go_roundw
      case rel => exact ⟨Q, c / 16, by omega, by omega, by go_num, by go_num, by omega, hide (step_hex (unhide HC).1 hlt (by omega)), HR, HB⟩
      case measure => simp [intOf]; omega
    · have hK : 64 - Q = hexK u := hexK_unique u (64 - Q) hu (by have := (unhide HC).1; rw [show 65 - (Q + 1) = 64 - Q from by omega] at this; omega) (by
        rcases (unhide HC).2 with h | h
        · left; omega
        · right; rw [show 64 - (Q + 1) = 64 - Q - 1 from by omega] at h; exact h) (by omega)
      have hd : digAt u (64 - Q) = hexDig c := by
        unfold digAt
        have := (unhide HC).1
        rw [show 65 - (Q + 1) = 64 - Q from by omega] at this
        rw [← this, Nat.mod_eq_of_lt (by omega)]
      have h36 : c < 36 := by omega
      have HR := buf_set hrow (by omega) (digits[c]'h36) ((digits_val c (by omega)).trans hd.symm)
      have HB := hide (hbel.setCell (p := ⟨w.heap.size, Q, none⟩) (Nat.le_refl _) (.int .u8 ((digits[c]'h36).toNat : Int)))
      have hsl := slice64 w.heap.size Q (by omega)
      have hcv := conv64 HR (by omega) hK
      unfold digits at hcv
      clear hd hrow hbel HR
      go_wp2
      go_ret2
      exact ⟨rfl, unhide HB⟩
set_option maxHeartbeats 400000 in
theorem bits22n (u : Nat) (w : World) (hu : u < 4294967296) (hwr : IntKind.u64.wrap (-IntKind.u64.wrap (-(u : Int))) = (u : Int)) (hT : Tab w) :
    Calls Tryd.prog 22 #[.slice none 0 0, .int .u64 (IntKind.u64.wrap (-(u : Int))), .int .i64 16, .bool true, .bool false] w fun e w' => e = .returned (.tuple #[.slice none 0 0, .string ⟨(45 :: hexStr u).toArray⟩]) ∧ Below w.heap.size w w' := by
  have hz := zero64
  have hT' : Tab (w.alloc (.cells zeros65 64)) := hT.below ((Below.refl w.heap.size w).alloc (Nat.le_refl _) _) hT.lt
  go_enter Tryd.func22, Tryd.ntmps22
  go_wp2_with fail
  refine (pow26 _).mono ?_
  rintro e w' ⟨rfl, rfl⟩
  go_wp2_with fail
  refine (tz27 _ hT').mono ?_
  rintro e w' ⟨rfl, rfl⟩
  go_wp2
  go_loopw [1, 13] (fun us i wr => ∃ P c : Nat, 58 ≤ P ∧ P ≤ 65 ∧ us = .int .u64 c ∧ i = .int .i64 P ∧ c < 4294967296 ∧ Hid (c = u / 16 ^ (65 - P) ∧ (P = 65 ∨ 16 ≤ u / 16 ^ (64 - P))) ∧ wr.rowIs w.heap.size 64 65 (buf u P) ∧ Below w.heap.size w wr) (fun us _ _ => (intOf us).toNat)
  case atStart => exact ⟨65, u, by omega, by omega, rfl, rfl, hu, hide ⟨by simp, Or.inl rfl⟩, buf_start w u, (Below.refl _ _).alloc (Nat.le_refl _) _⟩
  case round =>
    obtain ⟨P, c, hP1, hP2, rfl, rfl, hc, HC, hrow, hbel⟩ := hrel
    obtain ⟨Q, rfl⟩ : ∃ Q, P = Q + 1 := ⟨P - 1, by omega⟩
    clear hz hT hT' hwr
    have hdst : wr.cell? ⟨w.heap.size, Q, none⟩ = some (buf u (Q + 1) Q) := hrow.cell (by omega)
    have hfz : wr.frozen? ⟨w.heap.size, Q, none⟩ = false := hrow.frozen Q
    by_cases hlt : 16 ≤ c
    · have hQ : 58 ≤ Q := by
        apply Classical.byContradiction; intro hh
        have := div_small u (65 - (Q + 1)) hu (by omega)
        have := (unhide HC).1
        omega
      have hd : digAt u (64 - Q) = hexDig (c % 16) := by unfold digAt; rw [(unhide HC).1, show 65 - (Q + 1) = 64 - Q from by omega]
      have hm := and15 c hc
      have h36 : c % 16 < 36 := by omega
      have HR := buf_set hrow (by omega) (digits[c % 16]'h36) ((digits_val (c % 16) (by omega)).trans hd.symm)
      have HB := hbel.setCell (p := ⟨w.heap.size, Q, none⟩) (Nat.le_refl _) (.int .u8 ((digits[c % 16]'h36).toNat : Int))
      clear hd hrow hbel
      go_wp2
      go_roundw
      case rel => exact ⟨Q, c / 16, by omega, by omega, by go_num, by go_num, by omega, hide (step_hex (unhide HC).1 hlt (by omega)), HR, HB⟩
      case measure => simp [intOf]; omega
    · have hK : 64 - Q = hexK u := hexK_unique u (64 - Q) hu (by have := (unhide HC).1; rw [show 65 - (Q + 1) = 64 - Q from by omega] at this; omega) (by
        rcases (unhide HC).2 with h | h
        · left; omega
        · right; rw [show 64 - (Q + 1) = 64 - Q - 1 from by omega] at h; exact h) (by omega)
      have hd : digAt u (64 - Q) = hexDig c := by
        unfold digAt
        have := (unhide HC).1
        rw [show 65 - (Q + 1) = 64 - Q from by omega] at this
        rw [← this, Nat.mod_eq_of_lt (by omega)]
      have h36 : c < 36 := by omega
      have HR := buf_set hrow (by omega) (digits[c]'h36) ((digits_val c (by omega)).trans hd.symm)
      obtain ⟨R, rfl⟩ : ∃ R, Q = R + 1 := ⟨Q - 1, by omega⟩
      have HB := hide ((hbel.setCell (p := ⟨w.heap.size, R + 1, none⟩) (Nat.le_refl _) (.int .u8 ((digits[c]'h36).toNat : Int))).setCell (p := ⟨w.heap.size, R, none⟩) (Nat.le_refl _) (.int .u8 45))
      have hsl := slice64 w.heap.size R (by omega)
      have hcv := conv64n HR (by omega) hK
      have hdst2 : (wr.setCell ⟨w.heap.size, R + 1, none⟩ (.int .u8 ((digits[c]'h36).toNat : Int))).cell? ⟨w.heap.size, R, none⟩ = some (buf u (R + 1) R) := HR.cell (by omega)
      have hfz2 : (wr.setCell ⟨w.heap.size, R + 1, none⟩ (.int .u8 ((digits[c]'h36).toNat : Int))).frozen? ⟨w.heap.size, R, none⟩ = false := HR.frozen R
      unfold digits at hcv hdst2 hfz2
      clear hd hrow hbel HR
      go_wp2
      go_ret2
      exact ⟨rfl, unhide HB⟩


set_option maxHeartbeats 400000 in
theorem fmt18 (v : Int) (w : World) (h0 : -2147483648 ≤ v) (h1 : v ≤ 2147483647) (hT : Tab w) :
    Calls Tryd.prog 18 #[.int .i64 v, .int .i64 16] w fun e w' => e = .returned (.string ⟨(fmt16 v).toArray⟩) ∧ Below w.heap.size w w' := by
  by_cases hv : v < 0
  · obtain ⟨u, rfl⟩ : ∃ u : Nat, v = -(u : Int) := ⟨v.natAbs, by omega⟩
    have hu : u < 4294967296 := by omega
    have hu1 : 1 ≤ u := by omega
    have hf : fmt16 (-(u : Int)) = 45 :: hexStr u := by
      unfold fmt16; rw [if_pos hv]; simp
    have hwr : IntKind.u64.wrap (-IntKind.u64.wrap (-(u : Int))) = (u : Int) := by rw [IntKind.wrap_u64, IntKind.wrap_u64]; omega
    rw [hf]
    clear hf
    have HW := hide hwr
    clear hwr
    go_enter Tryd.func18, Tryd.ntmps18
    go_wp2_with fail
    rw [show decide (0 < u) = true from by simp; omega]
    refine (bits22n u _ hu (unhide HW) hT).mono ?_
    rintro e w1 ⟨rfl, hb⟩
    go_wp2
    go_ret
    exact ⟨rfl, hb⟩
  · obtain ⟨u, rfl⟩ : ∃ u : Nat, v = (u : Int) := ⟨v.toNat, by omega⟩
    have hu : u < 4294967296 := by omega
    have hf : fmt16 (u : Int) = hexStr u := by
      unfold fmt16; rw [if_neg hv]; simp
    rw [hf]
    clear hf
    go_enter Tryd.func18, Tryd.ntmps18
    go_wp2_with fail
    refine (bits22 u _ hu hT).mono ?_
    rintro e w1 ⟨rfl, hb⟩
    go_wp2
    go_ret
    exact ⟨rfl, hb⟩

theorem fmtInt (v : Int) (w : World) (h0 : -2147483648 ≤ v) (h1 : v ≤ 2147483647) (hT : Tab w) :
    Calls Tryd.prog 16 #[.int .i64 v, .int .i64 16] w fun e w' => e = .returned (.string ⟨(fmt16 v).toArray⟩) ∧ Below w.heap.size w w' := by
  go_enter Tryd.func16, Tryd.ntmps16
  go_wp2_with fail
  refine (fmt18 v _ h0 h1 hT).mono ?_
  rintro e w1 ⟨rfl, hb⟩
  go_wp2
  go_ret
  exact ⟨rfl, hb⟩
end Go.Proofs.Qxb6604326aDoor
