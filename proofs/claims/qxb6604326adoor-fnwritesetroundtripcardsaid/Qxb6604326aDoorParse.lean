/-
  zzParseSet (7) at a text that writeSet has written.
-/
import Derived.Test.Qxb6604326aDoorEsc
namespace Go.Proofs.Qxb6604326aDoor
open Go.RowKit

theorem parseEsc' (t : ByteArray) (i E R : Nat) (I : Int) (hI : I = (i : Int)) (v : Int) (hR : R = i + (escB v).length) (w : World) (hseg : Seg t i (escB v)) (hE : R ≤ E) (hEt : E ≤ t.size) (ht : t.size ≤ 4000000) (hv : I32 v) :
    Calls Tryd.prog 13 #[.string t, .int .i64 I, .int .i64 E] w fun e w' => e = .returned (.tuple #[.int .i64 v, .int .i64 (R : Int), .bool true]) ∧ w = w' := by
  subst hI
  subst hR
  exact parseEsc t i E v w hseg hE hEt ht hv

theorem items_prefix (L H : Nat → Int) (n k : Nat) (hk : k ≤ n) : ∃ r, items L H n = items L H k ++ r ∧ (k = n → r = []) ∧ (k < n → ∃ r', r = 92 :: r') := by
  induction n with
  | zero =>
    have : k = 0 := by omega
    subst this
    exact ⟨[], by simp, fun _ => rfl, fun h => by omega⟩
  | succ n ih =>
    by_cases e : k = n + 1
    · subst e
      exact ⟨[], by simp, fun _ => rfl, fun h => by omega⟩
    · obtain ⟨r, h1, h2, h3⟩ := ih (by omega)
      refine ⟨r ++ item (L n) (H n), by rw [items_succ, h1, List.append_assoc], fun h => absurd h e, fun _ => ?_⟩
      by_cases hkn : k = n
      · rw [h2 hkn, List.nil_append]; exact item_head _ _
      · obtain ⟨r', hr'⟩ := h3 (by omega)
        exact ⟨r' ++ item (L n) (H n), by rw [hr']; rfl⟩

/-- The k-th range in the text, and what stands behind it. -/
theorem seg_item {t : ByteArray} {L H : Nat → Int} {n k : Nat} (ht : t.data.toList = 91 :: (items L H n ++ [93])) (hk : k < n) :
    Seg t (1 + (items L H k).length) (item (L k) (H k)) ∧ (items L H (k + 1)).length ≤ (items L H n).length ∧ (k + 1 = n → (items L H (k + 1)).length = (items L H n).length) ∧
      (k + 1 < n → (items L H (k + 1)).length < (items L H n).length ∧ ∃ h : 1 + (items L H (k + 1)).length < t.size, t[1 + (items L H (k + 1)).length] = 92) := by
  have h0 : Seg t 0 (91 :: (items L H n ++ [93])) := fun j c hc => by rw [Nat.zero_add, ht]; exact hc
  obtain ⟨r, hr, he, hne⟩ := items_prefix L H n (k + 1) hk
  have hs : Seg t 1 (items L H n) := h0.cons.left
  have hs2 := hs
  rw [hr, items_succ, List.append_assoc] at hs
  rw [hr] at hs2
  refine ⟨hs.right.left, by rw [hr]; simp, fun h => by rw [hr, he h]; simp, fun h => ?_⟩
  obtain ⟨r', hr'⟩ := hne h
  refine ⟨by rw [hr, hr']; simp, ?_⟩
  have := hs2.right.at 0 92 (by rw [hr']; rfl)
  exact this

/-- The upper ends as they are read back. -/
def upper (L H : Nat → Int) (i : Nat) : Int := if L i < H i then H i else L i

def pc64 (L M : Nat → Int) : Nat → List Value
  | 0 => []
  | k + 1 => pc64 L M k ++ [.int .i64 (L k), .int .i64 (M k)]
theorem pc64_length (L M : Nat → Int) (k : Nat) : (pc64 L M k).length = k * 2 := by
  induction k with
  | zero => rfl
  | succ k ih => simp only [pc64, List.length_append, ih]; simp; omega
theorem pc64_at (L M : Nat → Int) (n i : Nat) (h : i < n) : (pc64 L M n)[i * 2]? = some (.int .i64 (L i)) ∧ (pc64 L M n)[i * 2 + 1]? = some (.int .i64 (M i)) := by
  induction n with
  | zero => omega
  | succ n ih =>
    have hl := pc64_length L M n
    simp only [pc64]
    by_cases e : i = n
    · subst e
      rw [List.getElem?_append_right (by omega), List.getElem?_append_right (by omega), hl]
      simp
    · rw [List.getElem?_append_left (by omega), List.getElem?_append_left (by omega)]
      exact ih (by omega)

/-- The slice value '.slice a n cap' leads to the n pairs of int64. -/
def Pairs64 (w : World) (a : Option Addr) (n : Nat) (L M : Nat → Int) : Prop :=
  0 < n → ∃ b off, a = some ⟨b, off, none⟩ ∧ ∀ i, i < n → w.cell? ⟨b, off + i * 2, none⟩ = some (.int .i64 (L i)) ∧ w.cell? ⟨b, off + i * 2 + 1, none⟩ = some (.int .i64 (M i))

theorem owned64 {w : World} {base g n cap : Nat} {L M : Nat → Int} (h : w.ownsRow base 29 2 (.slice (some ⟨g, 0, none⟩) n cap) n (pc64 L M n)) : Pairs64 w (some ⟨g, 0, none⟩) n L M := by
  intro _
  refine ⟨g, 0, rfl, fun i hi => ?_⟩
  rw [Nat.zero_add]
  obtain ⟨a0, a1⟩ := pc64_at L M n i hi
  exact ⟨(h.cellAt (i * 2) (by omega)).trans a0, (h.cellAt (i * 2 + 1) (by omega)).trans a1⟩

/-- It hands back the n pairs, and true; nothing old has turned. -/
def RetPairs (n : Nat) (L M : Nat → Int) (w : World) (e : Ending) (w' : World) : Prop := ∃ a c, e = .returned (.tuple #[.slice a n c, .bool true]) ∧ Pairs64 w' a n L M ∧ Below w.heap.size w w'

theorem info29 : (Tryd.prog.info? 29).map (fun i => (i.zero, i.size, i.bytes)) = some (some (.agg #[.int .i64 0, .int .i64 0]), 2, 16) := by kernel_rfl
theorem two_cells64 (w : World) (x y : Int) : ∀ j u, [Value.int .i64 x, Value.int .i64 y][j]? = some u → (w.alloc (.cells #[.int .i64 x, .int .i64 y] 29)).cell? ((⟨w.heap.size, 0, none⟩ : Addr).add j) = some u := by
  intro j u hj
  match j, hj with
  | 0, hj => simp at hj; subst hj; simp [Addr.add]
  | 1, hj => simp at hj; subst hj; simp [Addr.add]
theorem two_one64 (x y : Int) : ∀ u ∈ [Value.int .i64 x, Value.int .i64 y], u.oneCell' = true := by
  intro u hu
  simp at hu
  rcases hu with rfl | rfl <;> rfl

theorem own_step {w : World} {base : Nat} {g : Value} {k : Nat} {L M : Nat → Int} {x : Int} (hx : M k = x) (h : w.ownsRow base 29 2 g (k + 1) (pc64 L M k ++ [.int .i64 (L k), .int .i64 x])) : Hid (w.ownsRow base 29 2 g (k + 1) (pc64 L M (k + 1))) := by
  subst hx; exact h

theorem below_own {w wr w3 : World} {o : Obj} {g : Value} {e : TypeId} {k : Nat} {xs : List Value} (h : Below w.heap.size w wr) (hown : wr.ownsRow w.heap.size e 2 g k xs) (hg : (wr.alloc o).grownBy w3 g.ownBlock) : Below w.heap.size w w3 :=
  (h.alloc h.size o).grown hg (by have := h.size; simp; omega) (fun k hk => (hown.lt k hk).1)

set_option maxHeartbeats 1000000 in
theorem parse0 (t : ByteArray) (w : World) (ht : (t.toList == [91, 94, 92, 120, 48, 48, 45, 92, 120, 123, 49, 48, 70, 70, 70, 70, 125, 93]) = true) (L M : Nat → Int) :
    Calls Tryd.prog 7 #[.string t] w fun e w' => RetPairs 0 L M w e w' := by
  go_enter Tryd.func7, Tryd.ntmps7
  go_wp2
  go_ret2
  exact ⟨_, _, rfl, fun h => absurd h (by omega), Below.refl _ _⟩

set_option maxHeartbeats 1000000 in
theorem parse7 (t : ByteArray) (n : Nat) (L H : Nat → Int) (w : World) (hn0 : 0 < n) (hn : n ≤ 65536) (ht : t.data.toList = 91 :: (items L H n ++ [93])) (hL : ∀ i, i < n → I32 (L i)) (hH : ∀ i, i < n → I32 (H i)) :
    Calls Tryd.prog 7 #[.string t] w fun e w' => RetPairs n L (upper L H) w e w' := by
  have hil := items_length L H n
  have hsz : t.size = (items L H n).length + 2 := by rw [← blen, ht]; simp
  have hne : (t.toList == [91, 94, 92, 120, 48, 48, 45, 92, 120, 123, 49, 48, 70, 70, 70, 70, 125, 93]) = false := by
    rw [beq_eq_false_iff_ne, ByteArray.toList_eq, ht]
    obtain ⟨k, rfl⟩ : ∃ k, n = k + 1 := ⟨n - 1, by omega⟩
    obtain ⟨r, hr⟩ := items_head L H k
    rw [hr]
    intro e
    simp at e
  obtain ⟨E, hE⟩ : ∃ E, E = 1 + (items L H n).length := ⟨_, rfl⟩
  obtain ⟨b0, e0⟩ := at_of ht (i := 0) (c := 91) rfl
  obtain ⟨b1, e1⟩ := at_of ht (i := E) (c := 93) (by
    rw [hE, show 1 + (items L H n).length = (items L H n).length + 1 from by omega, List.getElem?_cons_succ, List.getElem?_append_right (by omega)]
    simp)
  have q0 : ((t[0].toNat : Int) != 91) = false := by rw [e0]; rfl
  have q1 : ((t[E].toNat : Int) != 93) = false := by rw [e1]; rfl
  have hts : (t.size : Int) - 1 = (E : Int) := by omega
  have ht2 : decide ((t.size : Int) < 2) = false := by simp; omega
  have htb : t.size ≤ 4000000 := by omega
  have hEb : E < t.size := by omega
  have HE := hide hE
  have HT := hide ht
  obtain ⟨i29, hi, hz0, hz1, hz2⟩ := info_parts info29
  clear e0 e1 hE ht hsz hil
  go_enter Tryd.func7, Tryd.ntmps7
  go_wp2
  clear q0 q1 hne hts ht2
  go_loopw [4, 6] (fun g i wr => ∃ k P : Nat, k ≤ n ∧ i = .int .i64 P ∧ Hid (P = 1 + (items L H k).length) ∧ Hid (wr.ownsRow w.heap.size 29 2 g k (pc64 L (upper L H) k)) ∧ Below w.heap.size w wr) (fun _ i _ => E - (intOf i).toNat)
  case atStart => exact ⟨0, 1, Nat.zero_le _, rfl, hide rfl, hide (World.ownsRow_nil _ _ _ _), Below.refl _ _⟩
  case round =>

    obtain ⟨k, P, hk, rfl, HP, HO, hbr⟩ := hrel
    by_cases hlt : k < n
    · obtain ⟨hseg, hle, hlast, hnext⟩ := seg_item (unhide HT) hlt
      have hown := (unhide HO).alloc (.cells #[.int .i64 (L k), .int .i64 (upper L H k)] 29)
      have hsl : (items L H (k + 1)).length = (items L H k).length + (item (L k) (H k)).length := by rw [items_succ, List.length_append]
      obtain ⟨P1, hP1⟩ : ∃ P1, P1 = P + (escB (L k)).length := ⟨_, rfl⟩
      have hen : 4 ≤ (escB (L k)).length := by simp [escB]
      have hP0 := unhide HP
      have hE0 := unhide HE
      by_cases hlh : L k < H k
      · have hit : item (L k) (H k) = escB (L k) ++ 45 :: escB (H k) := by unfold item; rw [if_pos hlh]
        have HU : Hid (upper L H k = H k) := hide (if_pos hlh)
        rw [hit, ← hP0] at hseg
        have hil : (item (L k) (H k)).length = (escB (L k)).length + 1 + (escB (H k)).length := by rw [hit]; simp; omega
        obtain ⟨P2, hP2⟩ : ∃ P2, P2 = P1 + 1 + (escB (H k)).length := ⟨_, rfl⟩
        have s1 := hseg.left
        have s2 := hseg.right
        rw [← hP1] at s2
        obtain ⟨c1, d1⟩ := s2.at 0 45 rfl
        have s3 := s2.cons
        have x1 : decide ((P1 : Int) < (E : Int)) = true := by simp; omega
        have x2 : ((t[P1].toNat : Int) == 45) = true := by have : t[P1] = 45 := d1; rw [this]; rfl
        have x3 : decide ((H k : Int) ≤ (L k : Int)) = false := by simp; omega
        have hPE : P < E := by omega
        have hP1E : P1 < E := by omega
        have hP2E : P2 ≤ E := by omega
        have HP2 : Hid (P2 = 1 + (items L H (k + 1)).length) := hide (by omega)
        have hPP : P < P2 := by omega
        rw [unhide HU] at hown
        have HP1 := hide hP1
        have HQ2 := hide hP2
        have HS1 := hide s1
        have HS3 := hide s3
        clear hseg s1 s2 s3 hle hlast hnext hsl hP1 hP2 hil hit hP0 hE0 d1 hen
        go_wp2_with fail
        refine (parseEsc' t P E P1 _ rfl (L k) (unhide HP1) _ (unhide HS1) (by omega) (by omega) htb (hL k hlt)).mono ?_
        rintro e wx ⟨rfl, rfl⟩
        go_wp2_with fail
        refine (parseEsc' t (P1 + 1) E P2 _ (by omega) (H k) (unhide HQ2) _ (unhide HS3) hP2E (by omega) htb (hH k hlt)).mono ?_
        rintro e wx ⟨rfl, rfl⟩
        go_wp2_with (at_builtin; refine wpList_append_own _ rfl (.tmp 77) (.tmp 81) 25 rfl w.heap.size 29 i29 _ 2 16 Tryd.underlying25 hi hz0 hz1 hz2 rfl (by decide) u4 k _ rfl hown ⟨wr.heap.size, 0, none⟩ 1 1 [.int .i64 (L k), .int .i64 (H k)] rfl rfl (two_cells64 wr _ _) (two_one64 _ _) (by unfold maxLen; omega) (by omega) (by have := hbr.size; simp; omega) ?_; intro g3 w3 hown3 hgr3 _)
        have HO3 := own_step (unhide HU) hown3
        have hb3 := below_own hbr (unhide HO) hgr3
        clear hown3 hgr3 hown
        go_roundw
        case rel => exact ⟨k + 1, P2, by omega, rfl, HP2, HO3, hb3⟩
        case measure => simp [intOf]; omega
      · have hit : item (L k) (H k) = escB (L k) := by unfold item; rw [if_neg hlh]; simp
        have HU : Hid (upper L H k = L k) := hide (if_neg hlh)
        rw [hit, ← hP0] at hseg
        have HP2 : Hid (P1 = 1 + (items L H (k + 1)).length) := hide (by rw [hsl, hit]; omega)
        have hPE : P < E := by have := unhide HP2; omega
        have hP1E : P1 ≤ E := by have := unhide HP2; omega
        have hPP : P < P1 := by omega
        rw [unhide HU] at hown
        have HP1 := hide hP1
        have HS1 := hide hseg
        by_cases hln : k + 1 < n
        · obtain ⟨hlt2, c1, d1⟩ := hnext hln
          have hP1E' : P1 < E := by have := unhide HP2; omega
          obtain ⟨c2, d2⟩ : ∃ h : P1 < t.size, t[P1] = 92 := by
            have := unhide HP2
            subst this
            exact ⟨c1, d1⟩
          have x1 : decide ((P1 : Int) < (E : Int)) = true := by simp; omega
          have x2 : ((t[P1].toNat : Int) == 45) = false := by rw [d2]; rfl
          clear hseg hle hlast hnext hsl hP1 hit hP0 hE0 d1 d2 c1 hen hlt2
          go_wp2_with fail
          refine (parseEsc' t P E P1 _ rfl (L k) (unhide HP1) _ (unhide HS1) (by omega) (by omega) htb (hL k hlt)).mono ?_
          rintro e wx ⟨rfl, rfl⟩
          go_wp2_with (at_builtin; refine wpList_append_own _ rfl (.tmp 77) (.tmp 81) 25 rfl w.heap.size 29 i29 _ 2 16 Tryd.underlying25 hi hz0 hz1 hz2 rfl (by decide) u4 k _ rfl hown ⟨wr.heap.size, 0, none⟩ 1 1 [.int .i64 (L k), .int .i64 (L k)] rfl rfl (two_cells64 wr _ _) (two_one64 _ _) (by unfold maxLen; omega) (by omega) (by have := hbr.size; simp; omega) ?_; intro g3 w3 hown3 hgr3 _)
          have HO3 := own_step (unhide HU) hown3
          have hb3 := below_own hbr (unhide HO) hgr3
          clear hown3 hgr3 hown
          go_roundw
          case rel => exact ⟨k + 1, P1, by omega, rfl, HP2, HO3, hb3⟩
          case measure => simp [intOf]; omega
        · have hPEe : P1 = E := by have := unhide HP2; have := hlast (by omega); omega
          have x1 : decide ((P1 : Int) < (E : Int)) = false := by simp; omega
          have hge : E ≤ P1 := by omega
          have HPE := hide hPEe
          clear hseg hle hlast hnext hsl hP1 hit hP0 hE0 hen hPEe
          go_wp2_with fail
          refine (parseEsc' t P E P1 _ rfl (L k) (unhide HP1) _ (unhide HS1) (by omega) (by omega) htb (hL k hlt)).mono ?_
          rintro e wx ⟨rfl, rfl⟩
          go_wp2_with (at_builtin; refine wpList_append_own _ rfl (.tmp 77) (.tmp 81) 25 rfl w.heap.size 29 i29 _ 2 16 Tryd.underlying25 hi hz0 hz1 hz2 rfl (by decide) u4 k _ rfl hown ⟨wr.heap.size, 0, none⟩ 1 1 [.int .i64 (L k), .int .i64 (L k)] rfl rfl (two_cells64 wr _ _) (two_one64 _ _) (by unfold maxLen; omega) (by omega) (by have := hbr.size; simp; omega) ?_; intro g3 w3 hown3 hgr3 _)
          have HO3 := own_step (unhide HU) hown3
          have hb3 := below_own hbr (unhide HO) hgr3
          clear hown3 hgr3 hown
          go_roundw
          case rel => exact ⟨k + 1, P1, by omega, rfl, HP2, HO3, hb3⟩
          case measure => simp [intOf]; omega
    · have hkn : k = n := by omega
      subst hkn
      have hPE : P = E := by have := unhide HP; have := unhide HE; omega
      have x1 : decide ((P : Int) < (E : Int)) = false := by simp; omega
      have hPE' : ¬ P < E := by omega
      have x2 : ((k : Int) == 0) = false := by rw [beq_eq_false_iff_ne]; omega
      have hshape : ∃ gb cap, u4 = .slice (some ⟨gb, 0, none⟩) k cap := by
        rcases (unhide HO).2 with ⟨_, h0⟩ | ⟨gb, cap, cur, hv, _⟩
        · omega
        · exact ⟨gb, cap, hv⟩
      obtain ⟨gb, cap, rfl⟩ := hshape
      have hp64 := hide (owned64 (unhide HO))
      clear hPE HO
      go_wp2
      go_ret2
      exact ⟨_, _, rfl, unhide hp64, hbr⟩
end Go.Proofs.Qxb6604326aDoor
