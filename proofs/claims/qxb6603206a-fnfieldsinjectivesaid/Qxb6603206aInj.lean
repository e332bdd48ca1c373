/-
  FnFieldsInjective (4): the law out of the contracts.
-/
import Derived.Test.Qxb6603206aExact
import Derived.Test.Qxb6603206aSame
namespace Go.Proofs.Qxb6603206a
open Go.RowKit

theorem jn_congr (S T : Nat → ByteArray) (n : Nat) (h : ∀ i, i < n → S i = T i) : jn S n = jn T n := by
  induction n with
  | zero => rfl
  | succ n ih => simp only [jn]; rw [ih (fun i hi => h i (by omega)), h n (by omega)]

theorem dec_iff {n m : Nat} (h : dec n = dec m) : n = 0 ↔ m = 0 := by
  by_cases hn : n = 0
  · by_cases hm : m = 0
    · simp [hn, hm]
    · exfalso
      simp only [dec, if_pos hn, if_neg hm] at h
      exact absurd (congrArg (fun b : ByteArray => b.data.toList) h) (by decide)
  · by_cases hm : m = 0
    · exfalso
      simp only [dec, if_pos hm, if_neg hn] at h
      exact absurd (congrArg (fun b : ByteArray => b.data.toList) h) (by decide)
    · simp [hn, hm]

/-- THE PLAIN LAW: two lines are equal just where the IDs and the reasons are. -/
theorem same_fields {S T : Nat → ByteArray} {n m : Nat} (id id' : ByteArray) (hS : NoSemi S n) (hT : NoSemi T m) :
    AllSame (fieldsOf id n S) (fieldsOf id' m T) 3 3 ↔ id = id' ∧ AllSame S T n m := by
  constructor
  · rintro ⟨_, h⟩
    have h0 : id = id' := h 0 (by omega)
    have h1 : dec n = dec m := h 1 (by omega)
    have h2 : (⟨(jn S n).toArray⟩ : ByteArray) = ⟨(jn T m).toArray⟩ := h 2 (by omega)
    have h2' : jn S n = jn T m := by
      have := congrArg (fun b : ByteArray => b.data.toList) h2
      simpa using this
    exact ⟨h0, jn_inj S T n m hS hT (dec_iff h1) h2'⟩
  · rintro ⟨rfl, rfl, h⟩
    refine ⟨rfl, fun i _ => ?_⟩
    unfold fieldsOf
    rw [jn_congr S T n h]

theorem bool_of_iff {r s : Bool} {p q : Prop} (hr : r = true ↔ p) (hs : s = true ↔ q) (h : p ↔ q) : r = s := by
  cases r <;> cases s <;> simp_all

set_option maxHeartbeats 1000000 in
theorem inj4 (id id' : ByteArray) (a a' : Option Addr) (n m cap cap' : Nat) (S T : Nat → ByteArray) (w : World) (hid : id.size ≤ maxLen) (hid' : id'.size ≤ maxLen) (hn : n ≤ maxLen) (hm : m ≤ maxLen)
    (hS : ∀ i, i < n → (S i).size ≤ maxLen) (hT : ∀ i, i < m → (T i).size ≤ maxLen) (h : Strs w a n S) (h' : Strs w a' m T) :
    Calls Try.prog 4 #[.string id, .slice a n cap, .string id', .slice a' m cap'] w fun e w' => Law w e w' := by
  go_enter Try.func4, Try.ntmps4
  go_wp2_with fail
  refine (bytes10 id id' a a' n m cap cap' S T _ hid hid' hn hm hS hT h h').mono ?_
  rintro e w1 ⟨r, rfl, rfl⟩
  cases r with
  | false =>
    go_wp2
    go_ret
    exact ⟨rfl, Below.refl _ _⟩
  | true =>
    go_wp2_with fail
    refine (bytes6 id a n cap S _ hid hn hS h).mono ?_
    rintro e w1 ⟨t, rfl, ht0, ht1, htb, rfl⟩
    go_wp2_with fail
    refine (bytes6 id' a' m cap' T _ hid' hm hT h').mono ?_
    rintro e w1 ⟨u, rfl, hu0, hu1, hub, rfl⟩
    by_cases htl : t + u ≤ 1048576
    · have hA := htb (by omega)
      have hB := hub (by omega)
      have hn' : n ≤ 65536 := by omega
      have hs' : sumS S n ≤ 1048576 := by omega
      have hm' : m ≤ 65536 := by omega
      have hu' : sumS T m ≤ 1048576 := by omega
      have hSz : ∀ i, i < n → (S i).size ≤ 1048576 := fun i hi => by have := size_le_sumS S i n hi; omega
      have hTz : ∀ i, i < m → (T i).size ≤ 1048576 := fun i hi => by have := size_le_sumS T i m hi; omega
      clear htb hub hA hB hS hT hn hm hid hid'
      go_wp2_with fail
      refine (toReasons a n cap S _ hn' h).mono ?_
      rintro e w2 ⟨a2, rfl, hst2, hb2⟩
      go_wp2_with fail
      refine (toReasons a' m cap' T _ hm' (h'.below hb2)).mono ?_
      rintro e w3 ⟨a3, rfl, hst3, hb3⟩
      have hst2 := hst2.below hb3
      have HB := hb2.trans (hb3.mono hb2.size)
      clear hb2 hb3 h h'
      go_wp2_with fail
      refine (clean a2 n n S _ hn' hSz hst2).mono ?_
      rintro e w4 ⟨r1, rfl, hr1, rfl⟩
      cases r1 with
      | false =>
        go_wp2
        go_ret
        exact ⟨rfl, HB⟩
      | true =>
        have hNS := hide (hr1 rfl)
        clear hr1
        go_wp2_with fail
        refine (clean a3 m m T _ hm' hTz hst3).mono ?_
        rintro e w4 ⟨r2, rfl, hr2, rfl⟩
        cases r2 with
        | false =>
          go_wp2
          go_ret
          exact ⟨rfl, HB⟩
        | true =>
          have hNT := hide (hr2 rfl)
          clear hr2 hSz hTz
          go_wp2_with fail
          refine (fields id a2 n n S _ hn' hs' hst2).mono ?_
          rintro e w5 ⟨a5, rfl, hst5, hb5⟩
          have hst2 := hst2.below hb5
          have hst3 := hst3.below hb5
          have HB := HB.trans (hb5.mono HB.size)
          clear hb5
          go_wp2_with fail
          refine (fields id' a3 m m T _ hm' hu' hst3).mono ?_
          rintro e w6 ⟨a6, rfl, hst6, hb6⟩
          have hst2 := hst2.below hb6
          have hst3 := hst3.below hb6
          have hst5 := hst5.below hb6
          have HB := HB.trans (hb6.mono HB.size)
          clear hb6
          by_cases hii : id = id'
          · have hE := bl_eq _ _ hii
            have HE := hide hii
            clear hii
            go_wp2_with fail
            refine (same12 a2 a3 n m n m S T _ hn' hm' hst2 hst3).mono ?_
            rintro e w7 ⟨r3, rfl, hr3, q1, rfl⟩
            have HR3 := hide hr3
            clear hr3
            go_wp2_with fail
            refine (same13 a5 a6 3 3 3 3 (fieldsOf id n S) (fieldsOf id' m T) _ (by omega) (by omega) (hst5.below (below_drewN (Below.refl _ _) q1)) (hst6.below (below_drewN (Below.refl _ _) q1))).mono ?_
            rintro e w8 ⟨r4, rfl, hr4, q2, rfl⟩
            have e34 : r4 = r3 := bool_of_iff hr4 (unhide HR3) ((same_fields id id' (unhide hNS) (unhide hNT)).trans ⟨fun x => x.2, fun x => ⟨unhide HE, x⟩⟩)
            subst e34
            go_wp2
            go_ret
            exact ⟨rfl, below_drewN HB (q1 + q2)⟩
          · have hE := bl_ne _ _ hii
            have HE := hide hii
            clear hii
            go_wp2_with fail
            refine (same13 a5 a6 3 3 3 3 (fieldsOf id n S) (fieldsOf id' m T) _ (by omega) (by omega) hst5 hst6).mono ?_
            rintro e w8 ⟨r4, rfl, hr4, q2, rfl⟩
            have e34 : r4 = false := bool_of_iff (q := False) hr4 (by simp) ((same_fields id id' (unhide hNS) (unhide hNT)).trans ⟨fun x => unhide HE x.1, fun x => x.elim⟩)
            subst e34
            go_wp2
            go_ret
            exact ⟨rfl, below_drewN HB q2⟩
    · go_wp2
      go_ret
      exact ⟨rfl, Below.refl _ _⟩
end Go.Proofs.Qxb6603206a
