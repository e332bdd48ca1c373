/-
  THE PLAIN LAW: n strings with one ';' (59) between neighbours: where each lies; that they can be read back where none holds a ';'. No Go in sight.
-/
import Derived.Test.Qxb6603206aBase
import Derived.Lib.Join
namespace Go.Proofs.Qxb6603206a

/-- The first n strings, one ';' between two neighbours. -/
def jn (S : Nat → ByteArray) : Nat → List UInt8
  | 0 => []
  | n + 1 => (if n = 0 then [] else jn S n ++ [59]) ++ (S n).data.toList

theorem joinTail_snoc (sep : List UInt8) (r : List (List UInt8)) (y : List UInt8) : Lib.joinTail sep (r ++ [y]) = Lib.joinTail sep r ++ (sep ++ y) := by
  simp [Lib.joinTail]

theorem join_snoc (sep : List UInt8) (xs : List (List UInt8)) (y : List UInt8) : Lib.join (xs ++ [y]) sep = (if xs = [] then [] else Lib.join xs sep ++ sep) ++ y := by
  cases xs with
  | nil => simp [Lib.join_one]
  | cons x r =>
    rw [List.cons_append, Lib.join_cons, joinTail_snoc, Lib.join_cons]
    simp

theorem jn_eq (S : Nat → ByteArray) (n : Nat) : Lib.join ((List.range n).map fun i => (S i).data.toList) [59] = jn S n := by
  induction n with
  | zero => rfl
  | succ n ih =>
    rw [List.range_succ, List.map_append, List.map_cons, List.map_nil, join_snoc, ih]
    simp only [jn]
    by_cases h : n = 0
    · subst h; simp
    · simp [h]

theorem blen (b : ByteArray) : b.data.toList.length = b.size := by
  rw [Array.length_toList]; rfl

theorem jn_length (S : Nat → ByteArray) (n : Nat) : (jn S n).length = sumS S n + (n - 1) := by
  induction n with
  | zero => rfl
  | succ n ih =>
    simp only [jn, sumS, List.length_append, blen]
    by_cases h : n = 0
    · subst h; simp [sumS]
    · simp [h, ih]; omega

theorem jn_at (S : Nat → ByteArray) (n k j : Nat) (hk : k < n) (hj : j < (S k).size) : (jn S n)[sumS S k + k + j]? = (S k).data.toList[j]? := by
  induction n with
  | zero => omega
  | succ n ih =>
    simp only [jn]
    by_cases h : n = 0
    · subst h
      have : k = 0 := by omega
      subst this
      simp [sumS]
    · have hl := jn_length S n
      rw [if_neg h]
      by_cases e : k = n
      · subst e
        rw [List.getElem?_append_right (by simp [hl]; omega)]
        congr 1
        simp [hl]; omega
      · have hm := sumS_mono S (k + 1) n (by omega)
        simp only [sumS] at hm
        rw [List.append_assoc, List.getElem?_append_left (by omega)]
        exact ih (by omega)

theorem jn_sep (S : Nat → ByteArray) (n k : Nat) (hk0 : 0 < k) (hk : k < n) : (jn S n)[sumS S k + (k - 1)]? = some 59 := by
  induction n with
  | zero => omega
  | succ n ih =>
    simp only [jn]
    have h : n ≠ 0 := by omega
    have hl := jn_length S n
    rw [if_neg h]
    by_cases e : k = n
    · subst e
      rw [List.append_assoc, List.getElem?_append_right (by omega), hl]
      simp
    · have hm := sumS_mono S k n (by omega)
      rw [List.append_assoc, List.getElem?_append_left (by omega)]
      exact ih (by omega)

/-! ### read back -/
theorem split_one (x y t u : List UInt8) (hx : 59 ∉ x) (hy : 59 ∉ y) (ht : t = [] ∨ t.head? = some 59) (hu : u = [] ∨ u.head? = some 59) (h : x ++ t = y ++ u) : x = y ∧ t = u := by
  induction x generalizing y with
  | nil =>
    cases y with
    | nil => exact ⟨rfl, h⟩
    | cons c y =>
      exfalso
      simp only [List.nil_append, List.cons_append] at h
      rcases ht with ht | ht
      · rw [ht] at h; simp at h
      · rw [h] at ht; simp at ht; subst ht; simp at hy
  | cons c x ih =>
    cases y with
    | nil =>
      exfalso
      simp only [List.nil_append, List.cons_append] at h
      rcases hu with hu | hu
      · rw [hu] at h; simp at h
      · rw [← h] at hu; simp at hu; subst hu; simp at hx
    | cons d y =>
      simp only [List.cons_append, List.cons.injEq] at h
      obtain ⟨rfl, h⟩ := h
      have := ih y (fun m => hx (List.mem_cons_of_mem _ m)) (fun m => hy (List.mem_cons_of_mem _ m)) h
      exact ⟨by rw [this.1], this.2⟩

theorem tail_form (r : List (List UInt8)) : Lib.joinTail [59] r = [] ∨ (Lib.joinTail [59] r).head? = some 59 := by
  cases r with
  | nil => left; rfl
  | cons y r => right; simp [Lib.joinTail]

theorem tail_inj (r q : List (List UInt8)) (hr : ∀ x ∈ r, 59 ∉ x) (hq : ∀ x ∈ q, 59 ∉ x) (h : Lib.joinTail [59] r = Lib.joinTail [59] q) : r = q := by
  induction r generalizing q with
  | nil =>
    cases q with
    | nil => rfl
    | cons y q => simp [Lib.joinTail] at h
  | cons x r ih =>
    cases q with
    | nil => simp [Lib.joinTail] at h
    | cons y q =>
      have e : ∀ (z : List UInt8) (p : List (List UInt8)), Lib.joinTail [59] (z :: p) = 59 :: (z ++ Lib.joinTail [59] p) := by intro z p; simp [Lib.joinTail]
      rw [e, e] at h
      simp only [List.cons.injEq, true_and] at h
      obtain ⟨h1, h2⟩ := split_one x y _ _ (hr x (by simp)) (hq y (by simp)) (tail_form r) (tail_form q) h
      rw [h1, ih q (fun z hz => hr z (by simp [hz])) (fun z hz => hq z (by simp [hz])) h2]

theorem join_inj (r q : List (List UInt8)) (hr : ∀ x ∈ r, 59 ∉ x) (hq : ∀ x ∈ q, 59 ∉ x) (h0 : r = [] ↔ q = []) (h : Lib.join r [59] = Lib.join q [59]) : r = q := by
  cases r with
  | nil => exact (h0.1 rfl).symm
  | cons x r =>
    cases q with
    | nil => exact absurd (h0.2 rfl) (by simp)
    | cons y q =>
      rw [Lib.join_cons, Lib.join_cons] at h
      obtain ⟨h1, h2⟩ := split_one x y _ _ (hr x (by simp)) (hq y (by simp)) (tail_form r) (tail_form q) h
      rw [h1, tail_inj r q (fun z hz => hr z (by simp [hz])) (fun z hz => hq z (by simp [hz])) h2]

theorem barr_ext (a b : ByteArray) (h : a.data.toList = b.data.toList) : a = b := by
  cases a; cases b
  simp only [ByteArray.mk.injEq]
  exact Array.toList_inj.1 h

/-- THE LAW OF 'Injective': where no string holds a ';', equal joined texts (none or some on both sides) are of equal strings. -/
theorem jn_inj (S T : Nat → ByteArray) (n m : Nat) (hS : ∀ i, i < n → 59 ∉ (S i).data.toList) (hT : ∀ i, i < m → 59 ∉ (T i).data.toList) (h0 : n = 0 ↔ m = 0) (h : jn S n = jn T m) :
    n = m ∧ ∀ i, i < n → S i = T i := by
  rw [← jn_eq, ← jn_eq] at h
  have e := join_inj _ _ (by
    intro x hx
    obtain ⟨i, hi, rfl⟩ := List.mem_map.1 hx
    exact hS i (List.mem_range.1 hi)) (by
    intro x hx
    obtain ⟨i, hi, rfl⟩ := List.mem_map.1 hx
    exact hT i (List.mem_range.1 hi)) (by simp [h0]) h
  have hl : n = m := by
    have := congrArg List.length e
    simpa using this
  subst hl
  refine ⟨rfl, fun i hi => barr_ext _ _ ?_⟩
  have := congrArg (fun l => l[i]?) e
  simpa [hi] using this

end Go.Proofs.Qxb6603206a
