/-
  FnWriteSetConcat (4): the law out of the contracts.
-/
import Derived.Test.Qxb6604326aDoorStrs
import Derived.Test.Qxb6604326aDoorCopy
import Derived.Deep.DeepCutAuto
import Derived.BigQuiet
import Derived.Lib.Split
import Derived.Lib.IndexBytes
namespace Go.Proofs.Qxb6604326aDoor
open Go.RowKit

/-- It hands back a bool; the world as it was. -/
def RetB (w : World) (e : Ending) (w' : World) : Prop := ∃ r : Bool, e = .returned (.bool r) ∧ w = w'
/-- It hands back true; nothing old has turned. -/
def Law (w : World) (e : Ending) (w' : World) : Prop := e = .returned (.bool true) ∧ Below w.heap.size w w'

theorem bytes8 (p : ByteArray) (a a' : Option Addr) (n m cap cap' : Nat) (w : World) (hp : p.size ≤ maxLen) (hn : n ≤ maxLen) (hm : m ≤ maxLen) :
    Calls Tryd.prog 8 #[.string p, .slice a n cap, .slice a' m cap'] w fun e w' => RetB w e w' := by
  unfold maxLen at hp hn hm
  go_enter Tryd.func8, Tryd.ntmps8
  go_wp2
  all_goals go_ret
  all_goals exact ⟨_, rfl, rfl⟩

/-- A slice value of n pairs. -/
def IsPairs (v : Value) (n : Nat) (L H : Nat → Int) (w : World) (W : World) : Prop := ∃ ad c, v = .slice ad n c ∧ Pairs W ad n L H ∧ Below w.heap.size w W

theorem two_cells (w : World) (x y : Int) : ∀ j u, [Value.int .i32 x, Value.int .i32 y][j]? = some u → (w.alloc (.cells #[.int .i32 x, .int .i32 y] 28)).cell? ((⟨w.heap.size, 0, none⟩ : Addr).add j) = some u := by
  intro j u hj
  match j, hj with
  | 0, hj => simp at hj; subst hj; simp [Addr.add]
  | 1, hj => simp at hj; subst hj; simp [Addr.add]
theorem two_one (x y : Int) : ∀ u ∈ [Value.int .i32 x, Value.int .i32 y], u.oneCell' = true := by
  intro u hu
  simp at hu
  rcases hu with rfl | rfl <;> rfl

theorem below_app {wc wr w3 : World} {o : Obj} (h : Below wc.heap.size wc wr) (hg : (wr.alloc o).grownBy w3 (some wc.heap.size)) : Below wc.heap.size wc w3 :=
  (h.alloc h.size o).grown hg (by have := h.size; simp; omega) (by intro k e; cases e; exact Nat.le_refl _)

theorem own_first {w : World} {base g n m k : Nat} {L H L' H' : Nat → Int} (hk : k < n) (h : w.ownsRow base 28 2 (.slice (some ⟨g, 0, none⟩) (k + 1) (n + m)) (k + 1) (pcList (cat n L L') (cat n H H') k ++ [.int .i32 (L k), .int .i32 (H k)])) :
    Hid (w.ownsRow base 28 2 (.slice (some ⟨g, 0, none⟩) (k + 1) (n + m)) (k + 1) (pcList (cat n L L') (cat n H H') (k + 1))) := by
  rw [pcList_succ, show cat n L L' k = L k from if_pos hk, show cat n H H' k = H k from if_pos hk]
  exact h

theorem own_second {w : World} {base g n m t : Nat} {L H L' H' : Nat → Int} (h : w.ownsRow base 28 2 (.slice (some ⟨g, 0, none⟩) (n + t + 1) (n + m)) (n + t + 1) (pcList (cat n L L') (cat n H H') (n + t) ++ [.int .i32 (L' t), .int .i32 (H' t)])) :
    Hid (w.ownsRow base 28 2 (.slice (some ⟨g, 0, none⟩) (n + (t + 1)) (n + m)) (n + (t + 1)) (pcList (cat n L L') (cat n H H') (n + (t + 1)))) := by
  have e : ∀ X Y : Nat → Int, cat n X Y (n + t) = Y t := fun X Y => by unfold cat; rw [if_neg (by omega), show n + t - n = t from by omega]
  rw [show n + (t + 1) = n + t + 1 from by omega, pcList_succ, e, e]
  exact h

theorem cat_I32 {n m : Nat} {L L' : Nat → Int} (h : ∀ i, i < n → I32 (L i)) (h' : ∀ i, i < m → I32 (L' i)) : ∀ i, i < n + m → I32 (cat n L L' i) := by
  intro i hi
  unfold cat
  split
  · exact h i (by assumption)
  · exact h' _ (by omega)

theorem items_congr (L H L' H' : Nat → Int) (n : Nat) (h : ∀ i, i < n → L i = L' i ∧ H i = H' i) : items L H n = items L' H' n := by
  induction n with
  | zero => rfl
  | succ n ih => rw [items_succ, items_succ, ih (fun i hi => h i (by omega)), (h n (by omega)).1, (h n (by omega)).2]
theorem setText_congr (L H L' H' : Nat → Int) (n : Nat) (h : ∀ i, i < n → L i = L' i ∧ H i = H' i) : setText L H n = setText L' H' n := by
  unfold setText
  rw [items_congr L H L' H' n h]
theorem text_left (L H L' H' : Nat → Int) (n : Nat) : setText (cat n L L') (cat n H H') (n + 0) = setText L H n :=
  setText_congr _ _ _ _ _ fun i hi => ⟨if_pos (by simpa using hi), if_pos (by simpa using hi)⟩
theorem text_right (L H L' H' : Nat → Int) (n : Nat) : setText (cat 0 L L') (cat 0 H H') (0 + n) = setText L' H' n := by
  rw [Nat.zero_add]
  exact setText_congr _ _ _ _ _ fun i _ => ⟨if_neg (by omega), if_neg (by omega)⟩
theorem items_cat (L H L' H' : Nat → Int) (n m : Nat) : items (cat n L L') (cat n H H') (n + m) = items L H n ++ items L' H' m := by
  induction m with
  | zero => simp [items]; exact items_congr _ _ _ _ _ fun i hi => ⟨if_pos hi, if_pos hi⟩
  | succ m ih =>
    have e : ∀ X Y : Nat → Int, cat n X Y (n + m) = Y m := fun X Y => by unfold cat; rw [if_neg (by omega), show n + m - n = m from by omega]
    rw [show n + (m + 1) = n + m + 1 from by omega, items_succ, ih, e, e, items_succ, List.append_assoc]
/-- THE PLAIN LAW: the text of a concatenation. -/
theorem text_both (L H L' H' : Nat → Int) (n m : Nat) (hn : 0 < n) (hm : 0 < m) :
    setText (cat n L L') (cat n H H') (n + m) = (setText L H n).take ((setText L H n).length - 1) ++ (setText L' H' m).drop 1 := by
  unfold setText
  rw [if_neg (by omega), if_neg (by omega), if_neg (by omega), items_cat]
  have e : (91 :: (items L H n ++ [93])).length - 1 = (91 :: items L H n).length := by simp
  have e2 : List.take (91 :: items L H n).length (91 :: (items L H n ++ [93])) = 91 :: items L H n := List.take_left (l₁ := 91 :: items L H n) (l₂ := [93])
  rw [e, e2]
  simp

theorem ret_true {b : Bool} (h : b = true) : Ending.returned (.bool b) = .returned (.bool true) := by rw [h]
theorem below_drewN {B : Nat} {w w1 : World} (h : Below B w w1) (q : Nat) : Below B w (w1.drewN q) := ⟨h.os, h.tape, h.output, h.size, h.block⟩

theorem data_app (a b : ByteArray) : (a ++ b).data.toList = a.data.toList ++ b.data.toList := by simp [ByteArray.data_append]

theorem empty_eq {s : ByteArray} (h : s.data.toList = emptyText) : (s.toList == [91, 94, 92, 120, 48, 48, 45, 92, 120, 123, 49, 48, 70, 70, 70, 70, 125, 93]) = true := by
  rw [ByteArray.toList_eq, h]; rfl

set_option maxHeartbeats 4000000 in
set_option maxRecDepth 20000 in
theorem concat4 (p : ByteArray) (a a' : Option Addr) (n m cap cap' : Nat) (L H L' H' : Nat → Int) (w : World) (hp : p.size ≤ maxLen) (hn : n ≤ maxLen) (hm : m ≤ maxLen)
    (h : Pairs w a n L H) (h' : Pairs w a' m L' H') (hT : Tab w) (hL : ∀ i, i < n → I32 (L i)) (hH : ∀ i, i < n → I32 (H i)) (hL' : ∀ i, i < m → I32 (L' i)) (hH' : ∀ i, i < m → I32 (H' i)) :
    Calls Tryd.prog 4 #[.string p, .slice a n cap, .slice a' m cap'] w fun e w' => Law w e w' := by
  go_enter Tryd.func4, Tryd.ntmps4
  go_wp2_with fail
  refine (bytes8 p a a' n m cap cap' w hp hn hm).mono ?_
  rintro e w1 ⟨r, rfl, rfl⟩
  unfold maxLen at hp hn hm
  cases r with
  | false =>
    go_wp2
    go_ret
    exact ⟨rfl, Below.refl _ _⟩
  | true =>
    by_cases g1 : (p.size : Int) ≤ 65536
    · by_cases g2 : (n : Int) ≤ 32768
      · by_cases g3 : (m : Int) ≤ 32768
        · have hneq := fun w a n c n' c' => run_neq_slice_nil_any (P := Tryd.prog) w 22 28 a n c n' c' Tryd.underlying22
          go_upto_if 30 with (fail)
          go_cut [1, 7] (fun v _ W => IsPairs v n L H w W)
          case first =>
            cases a with
            | none =>
              go_wp2
              go_meet
              case rel => exact ⟨_, _, rfl, h, Below.refl _ _⟩
            | some ad =>
              have hmk := run_make_pairs 22 28 Tryd.underlying22 info28 n (by omega)
              obtain ⟨w2, hcp, hr2, hb2⟩ := make_copy w n cap ad L H h
              go_wp2
              go_meet
              case rel => exact ⟨_, _, rfl, hr2, hb2⟩
          case rest =>
            obtain ⟨a1, c1, rfl, h1, hb1⟩ := hcut
            have h1' := h'.below hb1
            clear h h'
            go_upto_if 39 with (fail)
            go_cut [2, 8] (fun v _ W => IsPairs v m L' H' wc W)
            case first =>
              cases a' with
              | none =>
                go_wp2
                go_meet
                case rel => exact ⟨_, _, rfl, h1', Below.refl _ _⟩
              | some ad =>
                have hmk := run_make_pairs 22 28 Tryd.underlying22 info28 m (by omega)
                obtain ⟨w2, hcp, hr2, hb2⟩ := make_copy wc m cap' ad L' H' h1'
                go_wp2
                go_meet
                case rel => exact ⟨_, _, rfl, hr2, hb2⟩
            case rest =>
              obtain ⟨a2, c2, rfl, h2, hb2⟩ := hcut
              have hA := h1.below hb2
              have hbw := hb1.trans (hb2.mono hb1.size)
              have hTc := hT.below hbw hT.lt
              have hT2 := hTc.lt
              obtain ⟨i28, hi, hz0, hz1, hz2⟩ := info_parts info28
              clear h1 h1' hb1 hb2 hneq
              go_wp2_with (at_make; refine wpList_make_own _ rfl _ _ 22 rfl wc.heap.size 28 i28 _ 2 Tryd.underlying22 hi hz0 hz1 .i64 .i64 _ (n + m) rfl rfl (by omega) (by rw [hz2]; omega) (by unfold maxLen; omega) (Nat.le_refl _) ?_; intro wm hown0 hgr0)
              have hbm : Below wc.heap.size wc wm := (Below.refl _ _).grown hgr0 (Nat.le_refl _) (by intro k e; cases e)
              clear hgr0
              go_loopw [9, 10] (fun v i wr => ∃ k : Nat, k ≤ n ∧ i = .int .i64 k ∧ v = .slice (some ⟨wc.heap.size, 0, none⟩) k (n + m) ∧ Hid (wr.ownsRow wc.heap.size 28 2 (.slice (some ⟨wc.heap.size, 0, none⟩) k (n + m)) k (pcList (cat n L L') (cat n H H') k)) ∧ Below wc.heap.size wc wr) (fun _ i _ => n - (intOf i).toNat)
              case atStart => exact ⟨0, Nat.zero_le _, rfl, rfl, hide hown0, hbm⟩
              case round =>
                obtain ⟨k, hk, rfl, rfl, HO, hbr⟩ := hrel
                by_cases hlt : k < n
                · obtain ⟨b, off, e, hc⟩ := hA (by omega)
                  subst e
                  obtain ⟨e0, e1⟩ := hc k hlt
                  have d0 : wr.cell? ⟨b, off + k * 2, none⟩ = some (.int .i32 (L k)) := (hbr.cell (p := ⟨b, off + k * 2, none⟩) (lt_of_cell e0)).trans e0
                  have d1 : wr.cell? ⟨b, off + k * 2 + 1, none⟩ = some (.int .i32 (H k)) := (hbr.cell (p := ⟨b, off + k * 2 + 1, none⟩) (lt_of_cell e1)).trans e1
                  have hown := (unhide HO).alloc (.cells #[.int .i32 (L k), .int .i32 (H k)] 28)
                  clear hc e0 e1 HO hown0 hbm
                  go_wp2_with (at_builtin; refine wpList_append_fits _ rfl (.tmp 59) (.tmp 64) 22 rfl wc.heap.size 28 i28 2 Tryd.underlying22 hi hz1 wc.heap.size k (n + m) _ rfl hown ⟨wr.heap.size, 0, none⟩ 1 1 [.int .i32 (L k), .int .i32 (H k)] rfl rfl (two_cells wr _ _) (two_one _ _) (by omega) ?_; intro w3 hown3 hgr3)
                  have hbr3 := below_app hbr hgr3
                  have HO3 := own_first hlt hown3
                  clear hown hown3 hgr3 hbr d0 d1
                  go_roundw
                  case rel => exact ⟨k + 1, by omega, by go_num, rfl, HO3, hbr3⟩
                  case measure => simp [intOf]; omega
                · have hkn : k = n := by omega
                  subst hkn
                  clear hown0 hbm
                  go_wp2
                  go_loopw [9, 11] (fun v i wr => ∃ t : Nat, t ≤ m ∧ i = .int .i64 t ∧ v = .slice (some ⟨wc.heap.size, 0, none⟩) (k + t) (k + m) ∧ Hid (wr.ownsRow wc.heap.size 28 2 (.slice (some ⟨wc.heap.size, 0, none⟩) (k + t) (k + m)) (k + t) (pcList (cat k L L') (cat k H H') (k + t))) ∧ Below wc.heap.size wc wr) (fun _ i _ => m - (intOf i).toNat)
                  case atStart => exact ⟨0, Nat.zero_le _, rfl, rfl, HO, hbr⟩
                  case round =>
                    clear HO hbr
                    obtain ⟨t, ht, rfl, rfl, HO, hbr⟩ := hrel
                    by_cases htl : t < m
                    · obtain ⟨b, off, e, hc⟩ := h2 (by omega)
                      subst e
                      obtain ⟨e0, e1⟩ := hc t htl
                      have d0 : wr.cell? ⟨b, off + t * 2, none⟩ = some (.int .i32 (L' t)) := (hbr.cell (p := ⟨b, off + t * 2, none⟩) (lt_of_cell e0)).trans e0
                      have d1 : wr.cell? ⟨b, off + t * 2 + 1, none⟩ = some (.int .i32 (H' t)) := (hbr.cell (p := ⟨b, off + t * 2 + 1, none⟩) (lt_of_cell e1)).trans e1
                      have hown := (unhide HO).alloc (.cells #[.int .i32 (L' t), .int .i32 (H' t)] 28)
                      clear hc e0 e1 HO
                      go_wp2_with (at_builtin; refine wpList_append_fits _ rfl (.tmp 72) (.tmp 77) 22 rfl wc.heap.size 28 i28 2 Tryd.underlying22 hi hz1 wc.heap.size (k + t) (k + m) _ rfl hown ⟨wr.heap.size, 0, none⟩ 1 1 [.int .i32 (L' t), .int .i32 (H' t)] rfl rfl (two_cells wr _ _) (two_one _ _) (by omega) ?_; intro w3 hown3 hgr3)
                      have hbr3 := below_app hbr hgr3
                      have HO3 := own_second (n := k) hown3
                      clear hown hown3 hgr3 hbr d0 d1
                      go_roundw
                      case rel => exact ⟨t + 1, by omega, by go_num, by go_num, HO3, hbr3⟩
                      case measure => simp [intOf]; omega
                    · have htm : t = m := by omega
                      subst htm
                      have pAB := owned_pairs (unhide HO)
                      have pA := hA.below hbr
                      have pB := h2.below hbr
                      have hbw2 := hbw.trans (hbr.mono hbw.size)
                      have hTr := hTc.below hbr hT2
                      have hLL := cat_I32 hL hL'
                      have hHH := cat_I32 hH hH'
                      clear HO hA h2 hbr hbw hTc hi hz0 hz1 hz2
                      go_wp2_with fail
                      refine (zzText ⟨#[]⟩ _ (k + t) (k + t) (cat k L L') (cat k H H') _ (by decide) (by omega) pAB hTr hLL hHH).mono ?_
                      rintro e w4 ⟨SW, rfl, HSW, hsW, hb4⟩
                      have pAB := pAB.below hb4
                      have pA := pA.below hb4
                      have pB := pB.below hb4
                      have hbw2 := hbw2.trans (hb4.mono hbw2.size)
                      have hTr := hTr.below hb4 hTr.lt
                      clear hb4
                      go_wp2_with fail
                      refine (zzText p _ (k + t) (k + t) (cat k L L') (cat k H H') _ (by omega) (by omega) pAB hTr hLL hHH).mono ?_
                      rintro e w5 ⟨SP, rfl, HSP, hsP, hb5⟩
                      have pA := pA.below hb5
                      have pB := pB.below hb5
                      have hbw2 := hbw2.trans (hb5.mono hbw2.size)
                      have hTr := hTr.below hb5 hTr.lt
                      have hpe : (SP.toList == (p ++ SW).toList) = true := bl_eq _ _ (by rw [unhide HSP, data_app, unhide HSW]; rfl)
                      clear hb5 pAB HSP hLL hHH
                      go_wp2_with fail
                      refine (zzText ⟨#[]⟩ _ k c1 L H _ (by decide) (by omega) pA hTr hL hH).mono ?_
                      rintro e w6 ⟨SA, rfl, HSA, hsA, hb6⟩
                      have pB := pB.below hb6
                      have hbw2 := hbw2.trans (hb6.mono hbw2.size)
                      have hTr := hTr.below hb6 hTr.lt
                      clear hb6 pA hpe
                      go_wp2_with fail
                      refine (zzText ⟨#[]⟩ _ t c2 L' H' _ (by decide) (by omega) pB hTr hL' hH').mono ?_
                      rintro e w7 ⟨SB, rfl, HSB, hsB, hb7⟩
                      have hbw2 := hbw2.trans (hb7.mono hbw2.size)
                      clear hb7 pB hTr hL hH hL' hH'
                      by_cases k0 : k = 0
                      · have q0 : ((k : Int) == 0) = true := by rw [beq_iff_eq]; omega
                        by_cases t0 : t = 0
                        · have q1 : ((t : Int) == 0) = true := by rw [beq_iff_eq]; omega
                          have z0 : (SW.toList == [91, 94, 92, 120, 48, 48, 45, 92, 120, 123, 49, 48, 70, 70, 70, 70, 125, 93]) = true := empty_eq (by rw [unhide HSW]; subst k0; subst t0; rfl)
                          have z1 : (SA.toList == [91, 94, 92, 120, 48, 48, 45, 92, 120, 123, 49, 48, 70, 70, 70, 70, 125, 93]) = true := empty_eq (by rw [unhide HSA]; subst k0; rfl)
                          have z2 : (SB.toList == [91, 94, 92, 120, 48, 48, 45, 92, 120, 123, 49, 48, 70, 70, 70, 70, 125, 93]) = true := empty_eq (by rw [unhide HSB]; subst t0; rfl)
                          have K0 := hide k0
                          have T0 := hide t0
                          clear k0 t0
                          go_wp2
                          go_ret
                          exact ⟨rfl, hbw2⟩
                        · have q1 : ((t : Int) == 0) = false := by rw [beq_eq_false_iff_ne]; omega
                          have z1 : (SA.toList == [91, 94, 92, 120, 48, 48, 45, 92, 120, 123, 49, 48, 70, 70, 70, 70, 125, 93]) = true := empty_eq (by rw [unhide HSA]; subst k0; rfl)
                          have z2 : (SW.toList == SB.toList) = true := bl_eq _ _ (by rw [unhide HSW, unhide HSB]; subst k0; exact congrArg _ (text_right _ _ _ _ t))
                          have K0 := hide k0
                          clear k0 t0
                          go_wp2
                          go_ret
                          exact ⟨rfl, hbw2⟩
                      · have q0 : ((k : Int) == 0) = false := by rw [beq_eq_false_iff_ne]; omega
                        by_cases t0 : t = 0
                        · have q1 : ((t : Int) == 0) = true := by rw [beq_iff_eq]; omega
                          have z1 : (SB.toList == [91, 94, 92, 120, 48, 48, 45, 92, 120, 123, 49, 48, 70, 70, 70, 70, 125, 93]) = true := empty_eq (by rw [unhide HSB]; subst t0; rfl)
                          have z2 : (SW.toList == SA.toList) = true := bl_eq _ _ (by rw [unhide HSW, unhide HSA]; subst t0; exact congrArg _ (text_left _ _ _ _ k))
                          have T0 := hide t0
                          clear k0 t0
                          go_wp2
                          go_ret
                          exact ⟨rfl, hbw2⟩
                        · have q1 : ((t : Int) == 0) = false := by rw [beq_eq_false_iff_ne]; omega
                          obtain ⟨ra, hra⟩ := text_form L H k (by omega)
                          obtain ⟨rb, hrb⟩ := text_form L' H' t (by omega)
                          have FA : SA.data.toList = 91 :: 92 :: (ra ++ [93]) := by rw [unhide HSA, ← hra]; rfl
                          have FB : SB.data.toList = 91 :: 92 :: (rb ++ [93]) := by rw [unhide HSB, ← hrb]; rfl
                          have HA := hide FA
                          have HB := hide FB
                          have lA : 2 ≤ SA.size := by rw [← blen, FA]; simp
                          have lB : 2 ≤ SB.size := by rw [← blen, FB]; simp
                          have HW := hide (text_both L H L' H' k t (by omega) (by omega))
                          clear hra hrb FA FB
                          go_wp2_with fail
                          refine (bracketed SA ra _ (unhide HA) hsA).mono ?_
                          rintro e w8 ⟨rfl, rfl⟩
                          go_wp2_with fail
                          refine (bracketed SB rb _ (unhide HB) hsB).mono ?_
                          rintro e w9 ⟨rfl, rfl⟩
                          go_wp2
                          go_quiet (fail)
                          go_wp2
                          go_ret
                          exact ⟨ret_true (bl_eq _ _ (by rw [data_app, Lib.extract_from_zero, Lib.extract_to_end, unhide HSW, unhide HSA, unhide HSB, ← blen, unhide HSA]; exact unhide HW)), below_drewN hbw2 nq⟩
        · go_wp2
          go_ret
          exact ⟨rfl, Below.refl _ _⟩
      · go_wp2
        go_ret
        exact ⟨rfl, Below.refl _ _⟩
    · go_wp2
      go_ret
      exact ⟨rfl, Below.refl _ _⟩
end Go.Proofs.Qxb6604326aDoor
