/-
  FnWriteSetRoundTrip (3): the law out of the contracts.
-/
import Derived.Test.Qxb6604326aDoorConcat
import Derived.Test.Qxb6604326aDoorParse
namespace Go.Proofs.Qxb6604326aDoor
open Go.RowKit

theorem bytes5 (p : ByteArray) (a : Option Addr) (n cap : Nat) (w : World) (hp : p.size ≤ maxLen) (hn : n ≤ maxLen) :
    Calls Tryd.prog 5 #[.string p, .slice a n cap] w fun e w' => RetB w e w' := by
  unfold maxLen at hp hn
  go_enter Tryd.func5, Tryd.ntmps5
  go_wp2
  all_goals go_ret
  all_goals exact ⟨_, rfl, rfl⟩

theorem Pairs64.at {w : World} {a : Option Addr} {n : Nat} {L M : Nat → Int} (h : Pairs64 w a n L M) (i : Nat) (hi : i < n) : ∃ b off, a = some ⟨b, off, none⟩ ∧ w.cell? ⟨b, off + i * 2, none⟩ = some (.int .i64 (L i)) ∧ w.cell? ⟨b, off + i * 2 + 1, none⟩ = some (.int .i64 (M i)) := by
  obtain ⟨b, off, e, hc⟩ := h (by omega)
  exact ⟨b, off, e, hc i hi⟩
theorem Pairs.at {w : World} {a : Option Addr} {n : Nat} {L M : Nat → Int} (h : Pairs w a n L M) (i : Nat) (hi : i < n) : ∃ b off, a = some ⟨b, off, none⟩ ∧ w.cell? ⟨b, off + i * 2, none⟩ = some (.int .i32 (L i)) ∧ w.cell? ⟨b, off + i * 2 + 1, none⟩ = some (.int .i32 (M i)) := by
  obtain ⟨b, off, e, hc⟩ := h (by omega)
  exact ⟨b, off, e, hc i hi⟩

/-- Both contracts of zzParseSet in one. -/
theorem parseAny (t : ByteArray) (n : Nat) (L H : Nat → Int) (w : World) (hn : n ≤ 65536) (ht : t.data.toList = setText L H n) (hL : ∀ i, i < n → I32 (L i)) (hH : ∀ i, i < n → I32 (H i)) :
    Calls Tryd.prog 7 #[.string t] w fun e w' => RetPairs n L (upper L H) w e w' := by
  by_cases h0 : n = 0
  · subst h0
    exact parse0 t w (empty_eq ht) L (upper L H)
  · refine parse7 t n L H w (by omega) hn ?_ hL hH
    rw [ht]; unfold setText; rw [if_neg h0]

set_option maxHeartbeats 4000000 in
set_option maxRecDepth 20000 in
theorem round3 (p : ByteArray) (a : Option Addr) (n cap : Nat) (L H : Nat → Int) (w : World) (hp : p.size ≤ maxLen) (hn : n ≤ maxLen)
    (h : Pairs w a n L H) (hT : Tab w) (hL : ∀ i, i < n → I32 (L i)) (hH : ∀ i, i < n → I32 (H i)) :
    Calls Tryd.prog 3 #[.string p, .slice a n cap] w fun e w' => Law w e w' := by
  go_enter Tryd.func3, Tryd.ntmps3
  go_wp2_with fail
  refine (bytes5 p a n cap w hp hn).mono ?_
  rintro e w1 ⟨r, rfl, rfl⟩
  unfold maxLen at hp hn
  cases r with
  | false =>
    go_wp2
    go_ret
    exact ⟨rfl, Below.refl _ _⟩
  | true =>
    by_cases g1 : (p.size : Int) ≤ 65536
    · by_cases g2 : (n : Int) ≤ 65536
      · have hneq := fun w a n c n' c' => run_neq_slice_nil_any (P := Tryd.prog) w 22 28 a n c n' c' Tryd.underlying22
        go_upto_if 23 with (fail)
        go_cut [1, 5] (fun v _ W => IsPairs v n L H w W)
        case first =>
          cases a with
          | none =>
            go_wp2
            go_meet
            case rel => exact ⟨_, _, rfl, h, Below.refl _ _⟩
          | some ad =>
            have hmk := run_make_pairs 22 28 Tryd.underlying22 info28 n (by omega)
            obtain ⟨w2, hcp, hr2, hb2⟩ := make_copy w n cap ad L H h
            go_wp2
            go_meet
            case rel => exact ⟨_, _, rfl, hr2, hb2⟩
        case rest =>
          obtain ⟨a1, c1, rfl, h1, hb1⟩ := hcut
          have hTc := hT.below hb1 hT.lt
          clear h hneq
          go_wp2_with fail
          refine (zzText p _ n c1 L H _ (by omega) (by omega) h1 hTc hL hH).mono ?_
          rintro e w4 ⟨S, rfl, HS, hsS, hb4⟩
          have h1 := h1.below hb4
          have hbw := hb1.trans (hb4.mono hb1.size)
          have hlen : p.size ≤ S.size := by rw [← blen, ← blen, unhide HS]; simp
          have x1 : decide ((S.size : Int) < (p.size : Int)) = false := by simp; omega
          have x2 : ((S.extract 0 p.size).toList == p.toList) = true := bl_eq _ _ (by rw [Lib.extract_from_zero, unhide HS, ← blen, List.take_left])
          have HT : Hid ((S.extract p.size S.size).data.toList = setText L H n) := hide (by rw [Lib.extract_to_end, unhide HS, ← blen, List.drop_left])
          clear hb4 hb1 hTc
          go_wp2_with fail
          refine (parseAny _ n L H _ (by omega) (unhide HT) hL hH).mono ?_
          rintro e w5 ⟨ga, gc, rfl, hg, hb5⟩
          have h1 := h1.below hb5
          have hbw := hbw.trans (hb5.mono hbw.size)
          clear hb5 HT HS x1 x2
          go_wp2
          go_loop [9, 10, 11] (fun i _ _ => ∃ k : Nat, k ≤ n ∧ i = .int .i64 k) (fun i _ _ => n - (intOf i).toNat)
          case atStart => exact ⟨0, Nat.zero_le _, rfl⟩
          case round =>
            obtain ⟨k, hk, rfl⟩ := hrel
            by_cases hlt : k < n
            · obtain ⟨b, off, e, c0, c1⟩ := h1.at k hlt
              subst e
              obtain ⟨b', off', e, d0, d1⟩ := hg.at k hlt
              subst e
              obtain ⟨l0, l1⟩ := hL k hlt
              obtain ⟨r0, r1⟩ := hH k hlt
              have hi1 : (k : Int) < (n : Int) := by omega
              have Hbw := hide hbw
              clear h1 hg hL hH hbw
              rcases Int.lt_trichotomy (L k) (H k) with hlh | hlh | hlh
              · have hu : upper L H k = H k := if_pos hlh
                rw [hu] at d1
                clear hu
                go_wp2
                go_round
                case rel => exact ⟨k + 1, by omega, by go_num⟩
                case measure => simp [intOf]; omega
              · have hu : upper L H k = L k := if_neg (by omega)
                rw [hu] at d1
                rw [← hlh] at c1 r0 r1
                clear hu hlh
                go_wp2
                go_round
                case rel => exact ⟨k + 1, by omega, by go_num⟩
                case measure => simp [intOf]; omega
              · have hu : upper L H k = L k := if_neg (by omega)
                rw [hu] at d1
                clear hu
                go_wp2
                go_round
                case rel => exact ⟨k + 1, by omega, by go_num⟩
                case measure => simp [intOf]; omega
            · go_wp2
              go_ret
              exact ⟨rfl, hbw⟩
      · go_wp2
        go_ret
        exact ⟨rfl, Below.refl _ _⟩
    · go_wp2
      go_ret
      exact ⟨rfl, Below.refl _ _⟩
end Go.Proofs.Qxb6604326aDoor
