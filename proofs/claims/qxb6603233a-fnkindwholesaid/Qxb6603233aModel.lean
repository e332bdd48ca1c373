/-
  novaB1LastHolder (24), novaB1Contains (25), novaB1ModelEvacuates (16).
-/
import Derived.Test.Qxb6603233aBase
import Derived.Deep.QuietTactic
import Derived.BigQuiet
namespace Go.Proofs.Qxb6603233a
open Go.RowKit

/-- It hands back whether P; nothing old has turned. -/
def RetP (P : Prop) (w : World) (e : Ending) (w' : World) : Prop := ∃ r : Bool, e = .returned (.bool r) ∧ (r = true ↔ P) ∧ Below w.heap.size w w'

theorem bl_ne (a b : ByteArray) (h : a ≠ b) : (a.toList == b.toList) = false := by
  rw [beq_eq_false_iff_ne]
  intro e
  rw [ByteArray.toList_eq, ByteArray.toList_eq] at e
  exact h (ByteArray.ext (Array.toList_inj.1 e))

theorem bl_empty (a : ByteArray) (h : a ≠ ⟨#[]⟩) : (a.toList == []) = false := by
  rw [beq_eq_false_iff_ne]
  intro e
  rw [ByteArray.toList_eq] at e
  exact h (ByteArray.ext (Array.toList_inj.1 e))

def Has (n : Nat) (S : Nat → ByteArray) (s : ByteArray) : Prop := ∃ i, i < n ∧ S i = s

set_option maxHeartbeats 400000 in
theorem contains (a : Option Addr) (n cap : Nat) (S : Nat → ByteArray) (s : ByteArray) (w : World) (hn : n ≤ 1048576) (h : Row w 0 a n (strs S)) :
    Calls Try.prog 25 #[.slice a n cap, .string s] w fun e w' => RetP (Has n S s) w e w' := by
  go_enter Try.func25, Try.ntmps25
  go_wp2
  go_loop [5] (fun i => ∃ k : Nat, k ≤ n ∧ i = .int .i64 k ∧ ∀ j, j < k → S j ≠ s) (fun i => n - (intOf i).toNat)
  case atStart => exact ⟨0, Nat.zero_le _, rfl, fun j hj => absurd hj (by omega)⟩
  case round =>
    obtain ⟨k, hk, rfl, hno⟩ := hrel
    have HNO : Hid _ := hno
    clear hno
    by_cases hlt : k < n
    · obtain ⟨b, off, rfl, _, hc⟩ := h (by omega)
      have hcell : w.cell? ⟨b, off + k, none⟩ = some (.string (S k)) := hc k hlt
      clear hc h
      by_cases e : S k = s
      · subst e
        go_wp2
        go_ret
        exact ⟨true, rfl, ⟨fun _ => ⟨k, hlt, rfl⟩, fun _ => rfl⟩, Below.refl _ _⟩
      · have hd := bl_ne _ _ e
        have HE : Hid _ := e
        clear e
        go_wp2
        go_round
        case rel => exact ⟨k + 1, by omega, by go_num, fun j hj => by
          by_cases e' : j = k
          · subst e'; exact HE
          · exact unhid HNO j (by omega)⟩
        case measure => simp [intOf]; omega
    · clear h
      go_wp2
      go_ret
      refine ⟨false, rfl, ⟨fun h => (by cases h), fun ⟨i, hi, e⟩ => absurd e (unhid HNO i (by omega))⟩, Below.refl _ _⟩

def Last (n : Nat) (S : Nat → ByteArray) (j : Nat) : Prop := ∀ k, j < k → k < n → S k ≠ S j

set_option maxHeartbeats 400000 in
theorem lastHolder (a : Option Addr) (n cap : Nat) (S : Nat → ByteArray) (j : Nat) (w : World) (hn : n ≤ 1048576) (hj : j < n) (h : Row w 0 a n (strs S)) :
    Calls Try.prog 24 #[.slice a n cap, .int .i64 j] w fun e w' => RetP (Last n S j) w e w' := by
  obtain ⟨b, off, rfl, _, hc⟩ := h (by omega)
  have hcj : w.cell? ⟨b, off + j, none⟩ = some (.string (S j)) := hc j hj
  go_enter Try.func24, Try.ntmps24
  go_wp2
  go_loopw [5] (fun i wr => ∃ k : Nat, j < k ∧ k ≤ n ∧ i = .int .i64 k ∧ (∀ l, j < l → l < k → S l ≠ S j) ∧ Below w.heap.size w wr) (fun i _ => n - (intOf i).toNat)
  case atStart => exact ⟨j + 1, Nat.lt_succ_self _, by omega, by go_num, fun l h1 h2 => absurd h1 (by omega), Below.refl _ _⟩
  case round =>
    obtain ⟨k, hjk, hk, rfl, hno, hb⟩ := hrel
    have HNO : Hid _ := hno
    have HB : Hid _ := hb
    have dj : wr.cell? ⟨b, off + j, none⟩ = some (.string (S j)) := (hb.cell (p := ⟨b, off + j, none⟩) (lt_of_cell hcj)).trans hcj
    by_cases hlt : k < n
    · have hck : w.cell? ⟨b, off + k, none⟩ = some (.string (S k)) := hc k hlt
      have dk : wr.cell? ⟨b, off + k, none⟩ = some (.string (S k)) := (hb.cell (p := ⟨b, off + k, none⟩) (lt_of_cell hck)).trans hck
      clear hc h hno hb hcj hck
      have i1 : (k : Int) < (n : Int) := by omega
      have i2 : (j : Int) < (n : Int) := by omega
      by_cases e : S k = S j
      · rw [e] at dk
        go_wp2_with fail
        go_quiet (fail)
        go_wp2
        go_ret
        exact ⟨false, rfl, ⟨fun h => (by cases h), fun hl => absurd e (hl k hjk hlt)⟩, below_drewN (unhid HB) _⟩
      · have hd := bl_ne _ _ e
        have HE : Hid _ := e
        clear e
        go_wp2_with fail
        go_quiet (fail)
        go_wp2
        go_roundw
        case rel => exact ⟨k + 1, by omega, by omega, by go_num, (fun l h1 h2 => by
          by_cases e' : l = k
          · subst e'; exact HE
          · exact unhid HNO l h1 (by omega)), below_drewN (unhid HB) _⟩
        case measure => simp [intOf]; omega
    · clear hc h hno hb hcj dj
      go_wp2
      go_ret
      exact ⟨true, rfl, ⟨fun _ => fun l h1 h2 => unhid HNO l h1 (by omega), fun _ => rfl⟩, unhid HB⟩

/-- Host j is the map's entry at its name, no nil one, runs u, and its name is ignored. -/
def MHit (u : ByteArray) (ni n : Nat) (I N : Nat → ByteArray) (Z : Nat → Bool) (M : Nat → Nat) (U : Nat → Nat → ByteArray) (j : Nat) : Prop := Z j = false ∧ Last n N j ∧ Has (M j) (U j) u ∧ Has ni I (N j)

def ModelP (u : ByteArray) (ni n : Nat) (I N : Nat → ByteArray) (Z : Nat → Bool) (M : Nat → Nat) (U : Nat → Nat → ByteArray) : Prop := u ≠ ⟨#[]⟩ ∧ ∃ j, j < n ∧ MHit u ni n I N Z M U j

theorem noMore {P : Nat → Prop} {k : Nat} (h : ∀ j, j < k → ¬ P j) (hk : ¬ P k) : ∀ j, j < k + 1 → ¬ P j := fun j hj => by
  by_cases e : j = k
  · subst e; exact hk
  · exact h j (by omega)

set_option maxHeartbeats 1000000 in
theorem modelEvacuates (u : ByteArray) (a0 a1 a2 a3 : Option Addr) (ni n c0 c1 c2 c3 : Nat) (I N : Nat → ByteArray) (Z : Nat → Bool) (A : Nat → Option Addr) (M C : Nat → Nat) (U : Nat → Nat → ByteArray) (w : World)
    (hni : ni ≤ 1048576) (hn : n ≤ 1048576) (hM : ∀ j, j < n → M j ≤ 1048576)
    (r0 : Row w 0 a0 ni (strs I)) (r1 : Row w 0 a1 n (strs N)) (r2 : Row w 0 a2 n (bools Z)) (r3 : Nest w 0 a3 n A M C U) :
    Calls Try.prog 16 #[.string u, .slice a0 ni c0, .slice a1 n c1, .slice a2 n c2, .slice a3 n c3] w fun e w' => RetP (ModelP u ni n I N Z M U) w e w' := by
  by_cases hu : u = ⟨#[]⟩
  · subst hu
    go_enter Try.func16, Try.ntmps16
    go_wp2
    go_ret
    exact ⟨false, rfl, ⟨fun h => (by cases h), fun h => absurd rfl h.1⟩, Below.refl _ _⟩
  · have hd : (u.toList == []) = false := bl_empty u hu
    have HU : Hid _ := hu
    clear hu
    go_enter Try.func16, Try.ntmps16
    go_wp2
    go_loopw [11] (fun i wr => ∃ k : Nat, k ≤ n ∧ i = .int .i64 k ∧ Hid (∀ j, j < k → ¬ MHit u ni n I N Z M U j) ∧ Hid (Below w.heap.size w wr)) (fun i _ => n - (intOf i).toNat)
    case atStart => exact ⟨0, Nat.zero_le _, rfl, fun j hj => absurd hj (by omega), Below.refl _ _⟩
    case round =>
      obtain ⟨k, hk, rfl, HNO, HB⟩ := hrel
      by_cases hlt : k < n
      · have hbel := unhid HB
        have q0 := r0.below hbel
        have q1 := r1.below hbel
        have q3 := r3.below hbel
        obtain ⟨b1, o1, rfl, _, g1⟩ := q1 (by omega)
        obtain ⟨b2, o2, rfl, _, g2⟩ := (r2.below hbel) (by omega)
        obtain ⟨b3, o3, rfl, _, g3⟩ := q3.row (by omega)
        have l1 : wr.cell? ⟨b1, o1 + k, none⟩ = some (.string (N k)) := g1 k hlt
        have l2 : wr.cell? ⟨b2, o2 + k, none⟩ = some (.bool (Z k)) := g2 k hlt
        have l3 : wr.cell? ⟨b3, o3 + k, none⟩ = some (.slice (A k) (M k) (C k)) := g3 k hlt
        have hMk := hM k hlt
        have Q0 : Hid _ := q0
        have Q1 : Hid _ := q1
        have Q3 : Hid _ := q3.inner k hlt
        clear g1 g2 g3 hbel q0 q1 q3 r0 r1 r2 r3 hM
        cases hz : Z k with
        | true =>
          rw [hz] at l2
          have HZ : Hid _ := hz
          clear hz Q0 Q1 Q3
          go_wp2
          go_roundw
          case rel => exact ⟨k + 1, by omega, by go_num, noMore (unhid HNO) (fun h => Bool.noConfusion ((unhid HZ).symm.trans h.1)), HB⟩
          case measure => simp [intOf]; omega
        | false =>
          rw [hz] at l2
          have HZ : Hid _ := hz
          clear hz
          go_wp2_with fail
          refine (lastHolder (some ⟨b1, o1, none⟩) n c1 N k wr hn hlt (unhid Q1)).mono ?_
          rintro e w1 ⟨r, rfl, hr, hb1⟩
          have HR : Hid _ := hr
          have HB1 : Hid _ := (unhid HB).trans (hb1.mono (unhid HB).size)
          have m1 : w1.cell? ⟨b1, o1 + k, none⟩ = some (.string (N k)) := (hb1.cell (p := ⟨b1, o1 + k, none⟩) (lt_of_cell l1)).trans l1
          have m3 : w1.cell? ⟨b3, o3 + k, none⟩ = some (.slice (A k) (M k) (C k)) := (hb1.cell (p := ⟨b3, o3 + k, none⟩) (lt_of_cell l3)).trans l3
          have P0 : Hid _ := Row.below (unhid Q0) hb1
          have P3 : Hid _ := Row.below (unhid Q3) hb1
          clear hr hb1 l1 l2 l3 Q0 Q1 Q3 HB
          cases r with
          | false =>
            go_wp2
            go_roundw
            case rel => exact ⟨k + 1, by omega, by go_num, noMore (unhid HNO) (fun h => Bool.noConfusion ((unhid HR).2 h.2.1)), HB1⟩
            case measure => simp [intOf]; omega
          | true =>
            go_wp2_with fail
            refine (contains (A k) (M k) (C k) (U k) u w1 hMk (unhid P3)).mono ?_
            rintro e w2 ⟨r2, rfl, hr2, hb2⟩
            have HR2 : Hid _ := hr2
            have HB2 : Hid _ := (unhid HB1).trans (hb2.mono (unhid HB1).size)
            have n1 : w2.cell? ⟨b1, o1 + k, none⟩ = some (.string (N k)) := (hb2.cell (p := ⟨b1, o1 + k, none⟩) (lt_of_cell m1)).trans m1
            have O0 : Hid _ := Row.below (unhid P0) hb2
            clear hr2 hb2 m1 m3 P0 P3 HB1
            cases r2 with
            | false =>
              go_wp2
              go_roundw
              case rel => exact ⟨k + 1, by omega, by go_num, noMore (unhid HNO) (fun h => Bool.noConfusion ((unhid HR2).2 h.2.2.1)), HB2⟩
              case measure => simp [intOf]; omega
            | true =>
              go_wp2_with fail
              refine (contains a0 ni c0 I (N k) w2 hni (unhid O0)).mono ?_
              rintro e w3 ⟨r3, rfl, hr3, hb3⟩
              have HR3 : Hid _ := hr3
              have HB3 : Hid _ := (unhid HB2).trans (hb3.mono (unhid HB2).size)
              clear hr3 hb3 n1 O0 HB2
              cases r3 with
              | false =>
                go_wp2
                go_roundw
                case rel => exact ⟨k + 1, by omega, by go_num, noMore (unhid HNO) (fun h => Bool.noConfusion ((unhid HR3).2 h.2.2.2)), HB3⟩
                case measure => simp [intOf]; omega
              | true =>
                go_wp2
                go_ret
                exact ⟨true, rfl, ⟨fun _ => ⟨unhid HU, k, hlt, unhid HZ, (unhid HR).1 trivial, (unhid HR2).1 trivial, (unhid HR3).1 trivial⟩, fun _ => rfl⟩, unhid HB3⟩
      · clear r0 r1 r2 r3 hM
        go_wp2
        go_ret
        exact ⟨false, rfl, ⟨fun h => (by cases h), fun ⟨_, j, hj, h⟩ => absurd h (unhid HNO j (by omega))⟩, unhid HB⟩
end Go.Proofs.Qxb6603233a
