/-
  zzJoinedIs (9) at the text that Join makes: it answers true.
-/
import Derived.Test.Qxb6603206aRows
import Derived.Test.Qxb6603206aPlain
import Derived.WalkSpells
import Derived.WalkLawsBesides
import Derived.BigQuiet
namespace Go.Proofs.Qxb6603206a
open Go.RowKit

/-- It hands back true; the world has at most drawn. -/
def RetT (w : World) (e : Ending) (w' : World) : Prop := e = .returned (.bool true) ∧ ∃ q, w' = w.drewN q

theorem at_of {s : ByteArray} {l : List UInt8} (h : s.data.toList = l) {i : Nat} {c : UInt8} (hc : l[i]? = some c) : ∃ hi : i < s.size, s[i] = c := by
  subst h
  have hi : i < s.data.toList.length := by
    apply Classical.byContradiction; intro hh
    rw [List.getElem?_eq_none (by omega)] at hc; cases hc
  rw [blen] at hi
  refine ⟨hi, ?_⟩
  rw [List.getElem?_eq_getElem (by rw [blen]; exact hi)] at hc
  simp only [Option.some.injEq, Array.getElem_toList] at hc
  exact hc

theorem ix (s : ByteArray) (i : Nat) (c : UInt8) (h : i < s.size) (hc : s[i] = c) (I : Int) (hI : I = (i : Int)) (w : World) : (Instr.index 9 (.string s) (.int .i64 I)).run Try.prog w = .ok (.int .u8 c.toNat) w := by
  subst hI
  subst hc
  rw [run_index_string w 9 s .i64 (i : Int) Try.underlying9, dif_pos ⟨by omega, by omega⟩]
  simp only [Int.toNat_natCast]

theorem elem_at {s : ByteArray} {S : Nat → ByteArray} {n k T : Nat} (hs : s.data.toList = jn S n) (hlt : k < n) (hT : T = sumS S k + k) : ∀ t (ht : t < (S k).size), ∃ hi : T + t < s.size, s[T + t] = (S k)[t] := by
  intro t ht
  have e := jn_at S n k t hlt ht
  have e2 : (S k).data.toList[t]? = some (S k)[t] := by
    rw [List.getElem?_eq_getElem (by rw [blen]; exact ht)]
    simp only [Array.getElem_toList]
    rfl
  rw [e2, ← hT] at e
  exact at_of hs e

theorem sep_at {s : ByteArray} {S : Nat → ByteArray} {n k P : Nat} (hs : s.data.toList = jn S n) (hk0 : 0 < k) (hlt : k < n) (hP : P = sumS S k + (k - 1)) : ∃ hi : P < s.size, s[P] = 59 := by
  have e := jn_sep S n k hk0 hlt
  rw [← hP] at e
  exact at_of hs e

set_option maxHeartbeats 400000 in
theorem joinedIs (s : ByteArray) (a : Option Addr) (n cap : Nat) (S : Nat → ByteArray) (w : World) (hn : n ≤ 65536) (hsum : sumS S n ≤ 1048576) (h : Strs w a n S) (hs : s.data.toList = jn S n) :
    Calls Try.prog 9 #[.string s, .slice a n cap] w fun e w' => RetT w e w' := by
  have hsz : s.size = sumS S n + (n - 1) := by rw [← blen, hs, jn_length]
  have HSZ := hide hsz
  have HS := hide hs
  have hb : s.size ≤ 1114112 := by omega
  clear hsz hs
  go_enter Try.func9, Try.ntmps9
  go_wp2
  go_loopw [5, 6, 7, 8] (fun p i _ _ wr => ∃ (k P : Nat), k ≤ n ∧ i = .int .i64 k ∧ p = .int .i64 P ∧ Hid (P = sumS S k + (k - 1)) ∧ ∃ q, wr = w.drewN q) (fun _ i _ _ _ => n - (intOf i).toNat)
  case atStart => exact ⟨0, 0, Nat.zero_le _, rfl, rfl, hide rfl, 0, rfl⟩
  case round =>
    obtain ⟨k, P, hk, rfl, rfl, HP, q, rfl⟩ := hrel
    by_cases hlt : k < n
    · obtain ⟨b, off, rfl, hc⟩ := h (by omega)
      have hcell := hc k hlt
      have hm := sumS_mono S (k + 1) n hlt
      have HSK : Hid (sumS S (k + 1) = sumS S k + (S k).size) := hide rfl
      by_cases hk0 : 0 < k
      · obtain ⟨T, hT⟩ : ∃ T : Nat, T = P + 1 := ⟨_, rfl⟩
        have hat := elem_at (T := T) (unhide HS) hlt (by have := unhide HP; omega)
        obtain ⟨hpi, hpe⟩ := sep_at (unhide HS) hk0 hlt (unhide HP)
        have hfit : T + (S k).size ≤ s.size := by have := unhide HP; have := unhide HSK; have := unhide HSZ; omega
        have hfit' : P + 1 + (S k).size ≤ s.size := by omega
        have HT := hide hT
        have hd : decide ((s.size : Int) ≤ (P : Int)) = false := by simp; omega
        have hq : ((s[P].toNat : Int) != 59) = false := by rw [hpe]; rfl
        clear hpe hc h hm hsum hT
        go_wp2
        rw [show (P : Int) + 1 = (T : Int) from by have := unhide HT; omega]
        go_loopw [8] (fun j wr => ∃ (t : Nat), t ≤ (S k).size ∧ j = .int .i64 t ∧ ∃ q, wr = w.drewN q) (fun j _ => (S k).size - (intOf j).toNat)
        case atStart => exact ⟨0, Nat.zero_le _, rfl, q, rfl⟩
        case round =>
          obtain ⟨t, ht, rfl, q1, rfl⟩ := hrel
          by_cases htl : t < (S k).size
          · obtain ⟨hti, hte⟩ := hat t htl
            have hi2 : (t : Int) < ((S k).size : Int) := by omega
            have hi3 : (T : Int) + (t : Int) < (s.size : Int) := by omega
            have hwr : IntKind.i64.wrap ((T : Int) + (t : Int)) = (T : Int) + (t : Int) := i64wrap _ (by omega) (by omega)
            obtain ⟨c, hcc⟩ : ∃ c, (S k)[t] = c := ⟨_, rfl⟩
            have hx1 := ix s (T + t) c hti (hte.trans hcc) ((T : Int) + (t : Int)) (by omega)
            have hx2 := ix (S k) t c htl hcc (t : Int) rfl
            clear hat hti hte hcc
            go_wp2
            go_quiet (fail)
            go_wp2
            go_roundw
            case rel => exact ⟨t + 1, by omega, by go_num, _, rfl⟩
            case measure => simp [intOf]; omega
          · go_wp2
            go_roundw
            case rel => exact ⟨k + 1, T + (S k).size, by omega, by go_num, by go_num, hide (by have := unhide HP; have := unhide HSK; have := unhide HT; omega), _, rfl⟩
            case measure => simp [intOf]; omega
      · obtain ⟨T, hT⟩ : ∃ T : Nat, T = P := ⟨_, rfl⟩
        have hat := elem_at (T := T) (unhide HS) hlt (by have := unhide HP; omega)
        have hfit : T + (S k).size ≤ s.size := by have := unhide HP; have := unhide HSK; have := unhide HSZ; omega
        have hfit' : P + (S k).size ≤ s.size := by omega
        have HT := hide hT
        clear hc h hm hsum hT
        go_wp2
        rw [show (P : Int) = (T : Int) from by have := unhide HT; omega]
        go_loopw [8] (fun j wr => ∃ (t : Nat), t ≤ (S k).size ∧ j = .int .i64 t ∧ ∃ q, wr = w.drewN q) (fun j _ => (S k).size - (intOf j).toNat)
        case atStart => exact ⟨0, Nat.zero_le _, rfl, q, rfl⟩
        case round =>
          obtain ⟨t, ht, rfl, q1, rfl⟩ := hrel
          by_cases htl : t < (S k).size
          · obtain ⟨hti, hte⟩ := hat t htl
            have hi2 : (t : Int) < ((S k).size : Int) := by omega
            have hi3 : (T : Int) + (t : Int) < (s.size : Int) := by omega
            have hwr : IntKind.i64.wrap ((T : Int) + (t : Int)) = (T : Int) + (t : Int) := i64wrap _ (by omega) (by omega)
            obtain ⟨c, hcc⟩ : ∃ c, (S k)[t] = c := ⟨_, rfl⟩
            have hx1 := ix s (T + t) c hti (hte.trans hcc) ((T : Int) + (t : Int)) (by omega)
            have hx2 := ix (S k) t c htl hcc (t : Int) rfl
            clear hat hti hte hcc
            go_wp2
            go_quiet (fail)
            go_wp2
            go_roundw
            case rel => exact ⟨t + 1, by omega, by go_num, _, rfl⟩
            case measure => simp [intOf]; omega
          · go_wp2
            go_roundw
            case rel => exact ⟨k + 1, T + (S k).size, by omega, by go_num, by go_num, hide (by have := unhide HP; have := unhide HSK; have := unhide HT; omega), _, rfl⟩
            case measure => simp [intOf]; omega
    · have hkn : k = n := by omega
      have hfin : ((P : Int) == (s.size : Int)) = true := by have := unhide HP; have := unhide HSZ; subst hkn; simp; omega
      go_wp2
      go_ret
      exact ⟨rfl, _, rfl⟩
end Go.Proofs.Qxb6603206a
