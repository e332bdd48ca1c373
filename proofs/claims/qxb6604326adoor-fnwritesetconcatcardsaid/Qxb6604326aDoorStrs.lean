/-
  Strings by their bytes; zzBracketed (9); ZZwriteSet's answer as a string of which the bytes are known.
-/
import Derived.Test.Qxb6604326aDoorZz
namespace Go.Proofs.Qxb6604326aDoor
open Go.RowKit

theorem blen (b : ByteArray) : b.data.toList.length = b.size := by
  rw [Array.length_toList]; rfl

theorem barr_ext (a b : ByteArray) (h : a.data.toList = b.data.toList) : a = b := by
  cases a; cases b
  simp only [ByteArray.mk.injEq]
  exact Array.toList_inj.1 h

theorem bl_eq (a b : ByteArray) (h : a.data.toList = b.data.toList) : (a.toList == b.toList) = true := by
  rw [barr_ext a b h]; simp

theorem at_of {s : ByteArray} {l : List UInt8} (h : s.data.toList = l) {i : Nat} {c : UInt8} (hc : l[i]? = some c) : ∃ hi : i < s.size, s[i] = c := by
  subst h
  have hi : i < s.data.toList.length := by
    apply Classical.byContradiction; intro hh
    rw [List.getElem?_eq_none (by omega)] at hc; cases hc
  rw [blen] at hi
  refine ⟨hi, ?_⟩
  rw [List.getElem?_eq_getElem (by rw [blen]; exact hi)] at hc
  simp only [Option.some.injEq, Array.getElem_toList] at hc
  exact hc

/-- It hands back a string of these bytes; nothing old has turned. -/
def RetText (t : List UInt8) (w : World) (e : Ending) (w' : World) : Prop := ∃ S : ByteArray, e = .returned (.string S) ∧ Hid (S.data.toList = t) ∧ S.size ≤ 4000000 ∧ Below w.heap.size w w'

theorem zzText (p : ByteArray) (a : Option Addr) (n cap : Nat) (L H : Nat → Int) (w : World) (hp : p.size ≤ 65536) (hn : n ≤ 65536) (h : Pairs w a n L H) (hT : Tab w) (hL : ∀ i, i < n → I32 (L i)) (hH : ∀ i, i < n → I32 (H i)) :
    Calls Tryd.prog 6 #[.string p, .slice a n cap] w fun e w' => RetText (p.data.toList ++ setText L H n) w e w' := by
  refine (zzWrite p a n cap L H w hp hn h hT hL hH).mono ?_
  rintro e w' ⟨rfl, hb⟩
  refine ⟨_, rfl, hide rfl, ?_, hb⟩
  have := setText_length L H n
  rw [← blen]
  simp
  rw [← blen] at hp
  simp at hp
  omega

theorem escB_head (v : Int) : ∃ r, escB v = 92 :: r := ⟨_, rfl⟩
theorem item_head (l h : Int) : ∃ r, item l h = 92 :: r := ⟨_, rfl⟩
theorem items_head (L H : Nat → Int) (n : Nat) : ∃ r, items L H (n + 1) = 92 :: r := by
  induction n with
  | zero => exact ⟨_, rfl⟩
  | succ n ih =>
    obtain ⟨r, hr⟩ := ih
    exact ⟨r ++ item (L (n + 1)) (H (n + 1)), by rw [items_succ, hr]; rfl⟩

/-- The text of a set that is not empty. -/
theorem text_form (L H : Nat → Int) (n : Nat) (hn : 0 < n) : ∃ r, setText L H n = 91 :: 92 :: (r ++ [93]) := by
  obtain ⟨k, rfl⟩ : ∃ k, n = k + 1 := ⟨n - 1, by omega⟩
  obtain ⟨r, hr⟩ := items_head L H k
  exact ⟨r, by unfold setText; rw [if_neg (by omega), hr]; rfl⟩

set_option maxHeartbeats 400000 in
theorem bracketed (t : ByteArray) (r : List UInt8) (w : World) (ht : t.data.toList = 91 :: 92 :: (r ++ [93])) (hs : t.size ≤ 4000000) :
    Calls Tryd.prog 9 #[.string t] w fun e w' => e = .returned (.bool true) ∧ w = w' := by
  have hsz : t.size = r.length + 3 := by rw [← blen, ht]; simp
  obtain ⟨h0, e0⟩ := at_of ht (i := 0) (c := 91) rfl
  obtain ⟨h1, e1⟩ := at_of ht (i := 1) (c := 92) rfl
  obtain ⟨h2, e2⟩ := at_of ht (i := t.size - 1) (c := 93) (by
    rw [hsz]
    show (91 :: 92 :: (r ++ [93]))[r.length + 2]? = _
    simp)
  have q0 : ((t[0].toNat : Int) == 91) = true := by rw [e0]; rfl
  have q1 : ((t[1].toNat : Int) != 94) = true := by rw [e1]; rfl
  have hd : decide ((2 : Int) ≤ (t.size : Int)) = true := by simp; omega
  obtain ⟨m, hm⟩ : ∃ m, m = t.size - 1 := ⟨_, rfl⟩
  have hm1 : (t.size : Int) - 1 = (m : Int) := by omega
  have hml : m < t.size := by omega
  have q2 : ((t[m].toNat : Int) == 93) = true := by
    subst hm; rw [e2]; rfl
  have hm2 : 2 ≤ t.size := by omega
  clear e0 e1 e2 h2 hm ht hsz
  go_enter Tryd.func9, Tryd.ntmps9
  go_wp2
  go_ret
  exact ⟨rfl, rfl⟩

end Go.Proofs.Qxb6604326aDoor
