/-
  FnFieldsExact (3): the law out of the contracts.
-/
import Derived.Test.Qxb6603206aBytes
import Derived.Test.Qxb6603206aJoined
import Derived.Test.Qxb6603206aFields
namespace Go.Proofs.Qxb6603206a
open Go.RowKit

/-- It hands back true; nothing old has turned. -/
def Law (w : World) (e : Ending) (w' : World) : Prop := e = .returned (.bool true) ∧ Below w.heap.size w w'

theorem below_drewN {B : Nat} {w w1 : World} (h : Below B w w1) (q : Nat) : Below B w (w1.drewN q) := ⟨h.os, h.tape, h.output, h.size, h.block⟩

set_option maxHeartbeats 400000 in
theorem exact3 (id : ByteArray) (a : Option Addr) (n cap : Nat) (S : Nat → ByteArray) (w : World) (hid : id.size ≤ maxLen) (hn : n ≤ maxLen) (hS : ∀ i, i < n → (S i).size ≤ maxLen) (h : Strs w a n S) :
    Calls Try.prog 3 #[.string id, .slice a n cap] w fun e w' => Law w e w' := by
  go_enter Try.func3, Try.ntmps3
  go_wp2_with fail
  refine (bytes5 id a n cap S _ hid hn hS h).mono ?_
  rintro e w1 ⟨r, rfl, rfl⟩
  cases r with
  | false =>
    go_wp2
    go_ret
    exact ⟨rfl, Below.refl _ _⟩
  | true =>
    go_wp2_with fail
    refine (bytes6 id a n cap S _ hid hn hS h).mono ?_
    rintro e w1 ⟨t, rfl, ht0, ht1, htb, rfl⟩
    by_cases htl : t ≤ 1048576
    · have hT := htb htl
      have hn' : n ≤ 65536 := by omega
      have hs' : sumS S n ≤ 1048576 := by omega
      clear htb hT
      go_wp2_with fail
      refine (toReasons a n cap S _ hn' h).mono ?_
      rintro e w2 ⟨a2, rfl, hst2, hb2⟩
      go_wp2_with fail
      refine (fields id a2 n n S _ hn' hs' hst2).mono ?_
      rintro e w3 ⟨a3, rfl, hst3, hb3⟩
      have hst2' := hst2.below hb3
      obtain ⟨g, o, rfl, hc⟩ := hst3 (by omega)
      have c0 : w3.cell? ⟨g, o, none⟩ = some (.string id) := hc 0 (by omega)
      have c2 : w3.cell? ⟨g, o + 2, none⟩ = some (.string ⟨(jn S n).toArray⟩) := hc 2 (by omega)
      have c1 := hc 1 (by omega)
      obtain ⟨J, hJ⟩ : ∃ J : ByteArray, J = ⟨(jn S n).toArray⟩ := ⟨_, rfl⟩
      have HJ : Hid (J.data.toList = jn S n) := by rw [hJ]; exact hide rfl
      rw [← hJ] at c2
      have HB := hb2.trans (hb3.mono hb2.size)
      clear hc hst3 hst2 hJ h hb2 hb3 hid hn hS
      by_cases h0 : n = 0
      · subst h0
        have c1' : w3.cell? ⟨g, o + 1, none⟩ = some (.string ⟨#[97, 99, 99, 101, 112, 116]⟩) := c1
        clear c1
        go_wp2_with fail
        refine (joinedIs J a2 0 0 S _ hn' hs' hst2' (unhide HJ)).mono ?_
        rintro e w4 ⟨rfl, q, rfl⟩
        go_wp2
        go_ret
        exact ⟨rfl, below_drewN HB q⟩
      · have hd : dec n = ⟨#[114, 101, 102, 117, 115, 101]⟩ := by simp [dec, h0]; rfl
        have c1' : w3.cell? ⟨g, o + 1, none⟩ = some (.string ⟨#[114, 101, 102, 117, 115, 101]⟩) := by rw [← hd]; exact c1
        have hne : ((n : Int) == 0) = false := by rw [beq_eq_false_iff_ne]; omega
        clear c1 hd
        go_wp2_with fail
        refine (joinedIs J a2 n n S _ hn' hs' hst2' (unhide HJ)).mono ?_
        rintro e w4 ⟨rfl, q, rfl⟩
        go_wp2
        go_ret
        exact ⟨rfl, below_drewN HB q⟩
    · go_wp2
      go_ret
      exact ⟨rfl, Below.refl _ _⟩
end Go.Proofs.Qxb6603206a
