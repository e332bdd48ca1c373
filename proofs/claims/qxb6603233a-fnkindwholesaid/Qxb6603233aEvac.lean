/-
  (*Request).evacuates (23), (*Request).Kind (15).
-/
import Derived.Test.Qxb6603233aHosts
import Derived.Test.Qxb6603233aModel
namespace Go.Proofs.Qxb6603233a
open Go.RowKit

/-- The last of the n names that is s stands for a host, no nil one, that runs u. -/
def Hit (u : ByteArray) (n : Nat) (N : Nat → ByteArray) (Z : Nat → Bool) (M : Nat → Nat) (U : Nat → Nat → ByteArray) (s : ByteArray) : Prop :=
  ∃ j, j < n ∧ N j = s ∧ (∀ l, j < l → l < n → N l ≠ s) ∧ Z j = false ∧ Has (M j) (U j) u

def EvacP (u : ByteArray) (ni n : Nat) (I N : Nat → ByteArray) (Z : Nat → Bool) (M : Nat → Nat) (U : Nat → Nat → ByteArray) : Prop := u ≠ ⟨#[]⟩ ∧ ∃ i, i < ni ∧ Hit u n N Z M U (I i)

theorem last_one {n : Nat} {N : Nat → ByteArray} {s : ByteArray} {j j' : Nat} (h1 : j < n) (h2 : N j = s) (h3 : ∀ l, j < l → l < n → N l ≠ s) (k1 : j' < n) (k2 : N j' = s) (k3 : ∀ l, j' < l → l < n → N l ≠ s) : j' = j := by
  apply Classical.byContradiction
  intro e
  rcases Nat.lt_or_ge j j' with h | h
  · exact h3 j' h k1 k2
  · exact k3 j (by omega) h1 h2

theorem evac_model (u : ByteArray) (ni n : Nat) (I N : Nat → ByteArray) (Z : Nat → Bool) (M : Nat → Nat) (U : Nat → Nat → ByteArray) : EvacP u ni n I N Z M U ↔ ModelP u ni n I N Z M U := by
  constructor
  · rintro ⟨hu, i, hi, j, hj, h1, h2, h3, h4⟩
    exact ⟨hu, j, hj, h3, fun k h5 h6 => by rw [h1]; exact h2 k h5 h6, h4, i, hi, h1.symm⟩
  · rintro ⟨hu, j, hj, h1, h2, h3, i, hi, h4⟩
    exact ⟨hu, i, hi, j, hj, h4.symm, fun k h5 h6 => by rw [h4]; exact h2 k h5 h6, h1, h3⟩

theorem MapV.below {w w' : World} {v : Value} {f : ByteArray → Value} (h : MapV w v f) (hb : Below w.heap.size w w') : MapV w' v f := by
  rcases h with h | ⟨b, n, h1, h2⟩
  · exact .inl h
  · exact .inr ⟨b, n, h1, h2.of_block (hb.block _ h2.lt)⟩

theorem MapV.look {w : World} {v : Value} {f : ByteArray → Value} (h : MapV w v f) (s : ByteArray) (hs : s.size ≤ maxLen) : (Instr.lookup 33 v (.string s) false).run Try.prog w = .ok (f s) w := by
  rcases h with ⟨rfl, h⟩ | ⟨b, n, rfl, h⟩
  · rw [h s]; exact look_none w s hs
  · exact h.look s hs

set_option maxHeartbeats 1000000 in
set_option maxRecDepth 20000 in
theorem evacuates (u : ByteArray) (b : Nat) (x1 x2 x3 : Bool) (a0 : Option Addr) (ni n c0 : Nat) (v : Value) (f : ByteArray → Value) (I N : Nat → ByteArray) (Z : Nat → Bool) (M : Nat → Nat) (U : Nat → Nat → ByteArray) (w : World)
    (hni : ni ≤ 1048576) (hI : ∀ i, i < ni → (I i).size ≤ maxLen) (hM : ∀ j, j < n → M j ≤ 1048576)
    (hq : Req w b x1 x2 x3 u a0 ni c0) (r0 : Row w 0 a0 ni (strs I)) (hv : MapV w v f) (hf : ∀ s, HostAt w 0 N Z M U n s (f s)) :
    Calls Try.prog 23 #[.pointer (some ⟨b, 0, none⟩), v] w fun e w' => RetP (EvacP u ni n I N Z M U) w e w' := by
  have q1 := hq.uuid
  have q2 := hq.ignore
  clear hq
  by_cases hu : u = ⟨#[]⟩
  · subst hu
    go_enter Try.func23, Try.ntmps23
    go_wp2
    go_ret
    exact ⟨false, rfl, ⟨fun h => (by cases h), fun h => absurd rfl h.1⟩, Below.refl _ _⟩
  · have hd : (u.toList == []) = false := bl_empty u hu
    have HU : Hid _ := hu
    clear hu
    go_enter Try.func23, Try.ntmps23
    go_wp2
    go_loopw [24] (fun i wr => ∃ k : Nat, k ≤ ni ∧ i = .int .i64 k ∧ Hid (∀ i, i < k → ¬ Hit u n N Z M U (I i)) ∧ Hid (Below w.heap.size w wr)) (fun i _ => ni - (intOf i).toNat)
    case atStart => exact ⟨0, Nat.zero_le _, rfl, fun j hj => absurd hj (by omega), Below.refl _ _⟩
    case round =>
      obtain ⟨k, hk, rfl, HNO, HB⟩ := hrel
      by_cases hlt : k < ni
      · have hbel := unhid HB
        obtain ⟨b1, o1, rfl, _, g1⟩ := r0 (by omega)
        have k1 : w.cell? ⟨b1, o1 + k, none⟩ = some (.string (I k)) := g1 k hlt
        have l1 : wr.cell? ⟨b1, o1 + k, none⟩ = some (.string (I k)) := (hbel.cell (p := ⟨b1, o1 + k, none⟩) (lt_of_cell k1)).trans k1
        have hlook := (hv.below hbel).look (I k) (hI k hlt)
        rcases hf (I k) with ⟨h1, h2⟩ | ⟨j, h1, h2, h3, ⟨h4, h5⟩ | ⟨h4, hb, a', h5, h6, h7, h8⟩⟩
        · rw [h2] at hlook
          have HN : Hid (¬ Hit u n N Z M U (I k)) := fun ⟨j, t1, t2, _⟩ => h1 j t1 t2
          clear g1 k1 r0 hv hf hI hM h1 h2 hbel q1 q2
          go_wp2
          go_roundw
          case rel => exact ⟨k + 1, by omega, by go_num, noMore (unhid HNO) (unhid HN), HB⟩
          case measure => simp [intOf]; omega
        · rw [h5] at hlook
          have HN : Hid (¬ Hit u n N Z M U (I k)) := fun ⟨j', t1, t2, t3, t4, _⟩ => by
            have e := last_one h1 h2 h3 t1 t2 t3
            subst e
            rw [h4] at t4; cases t4
          clear g1 k1 r0 hv hf hI hM h1 h2 h3 h4 h5 hbel q1 q2
          go_wp2
          go_roundw
          case rel => exact ⟨k + 1, by omega, by go_num, noMore (unhid HNO) (unhid HN), HB⟩
          case measure => simp [intOf]; omega
        · rw [h5] at hlook
          have l7 : wr.cell? ⟨hb, 7, none⟩ = some (.slice a' (M j) (M j)) := (hbel.cell (p := ⟨hb, 7, none⟩) (lt_of_cell h7)).trans h7
          have hMj := hM j h1
          have HY : Hid (Has (M j) (U j) u → Hit u n N Z M U (I k)) := fun hh => ⟨j, h1, h2, h3, h4, hh⟩
          have HN : Hid (¬ Has (M j) (U j) u → ¬ Hit u n N Z M U (I k)) := fun hh ⟨j', t1, t2, t3, t4, t5⟩ => by
            have e := last_one h1 h2 h3 t1 t2 t3
            subst e
            exact hh t5
          have HIn : Hid _ := h8
          clear g1 k1 r0 hv hf hI hM h1 h2 h3 h4 h5 h6 h7 h8 hbel q1 q2
          rename World => w0
          go_wp2
          go_loopw [38] (fun i wi => ∃ l : Nat, l ≤ M j ∧ i = .int .i64 l ∧ Hid (∀ i, i < l → ¬ U j i = u) ∧ Hid (Below w.heap.size w wi)) (fun i _ => M j - (intOf i).toNat)
          case atStart => exact ⟨0, Nat.zero_le _, rfl, fun j hj => absurd hj (by omega), HB⟩
          case round =>
            clear HB
            obtain ⟨l, hl, rfl, HNU, HB⟩ := hrel
            by_cases hlm : l < M j
            · obtain ⟨b4, o4, e4, _, g4⟩ := (unhid HIn) (by omega)
              subst e4
              obtain ⟨d0, d1, d2, d3, d4, d5⟩ := g4 l hlm
              have hbel := unhid HB
              replace d0 := (hbel.cell (p := ⟨b4, o4 + l * 6, none⟩) (lt_of_cell d0)).trans d0
              replace d1 := (hbel.cell (p := ⟨b4, o4 + l * 6 + 1, none⟩) (lt_of_cell d1)).trans d1
              replace d2 := (hbel.cell (p := ⟨b4, o4 + l * 6 + 2, none⟩) (lt_of_cell d2)).trans d2
              replace d3 := (hbel.cell (p := ⟨b4, o4 + l * 6 + 3, none⟩) (lt_of_cell d3)).trans d3
              replace d4 := (hbel.cell (p := ⟨b4, o4 + l * 6 + 4, none⟩) (lt_of_cell d4)).trans d4
              replace d5 := (hbel.cell (p := ⟨b4, o4 + l * 6 + 5, none⟩) (lt_of_cell d5)).trans d5
              clear g4 hbel l7 l1 hlook
              by_cases e : U j l = u
              · subst e
                have HZ : Hid _ := unhid HY ⟨l, hlm, rfl⟩
                clear HY HN HNU
                go_wp2
                go_ret
                exact ⟨true, rfl, ⟨fun _ => ⟨unhid HU, k, hlt, unhid HZ⟩, fun _ => rfl⟩, (unhid HB).alloc (unhid HB).size _⟩
              · have hd' := bl_ne _ _ e
                have HE : Hid _ := e
                clear e
                go_wp2
                go_roundw
                case rel => exact ⟨l + 1, by omega, by go_num, noMore (unhid HNU) (unhid HE), (unhid HB).alloc (unhid HB).size _⟩
                case measure => simp [intOf]; omega
            · have HN' : Hid _ := unhid HN (fun ⟨i, hi, e⟩ => unhid HNU i (by omega) e)
              clear HIn HY HN HNU l7 l1 hlook
              go_wp2
              go_roundw
              case rel => exact ⟨k + 1, by omega, by go_num, noMore (unhid HNO) (unhid HN'), HB⟩
              case measure => simp [intOf]; omega
      · clear r0 hv hf hI hM
        go_wp2
        go_ret
        exact ⟨false, rfl, ⟨fun h => (by cases h), fun ⟨_, j, hj, h⟩ => absurd h (unhid HNO j (by omega))⟩, unhid HB⟩

/-- Which kind: by the first flag set, else by whether the model evacuates. -/
def KindIs (x1 x2 x3 : Bool) (P : Prop) (q : Int) : Prop :=
  if x1 = true then q = 1 else if x2 = true then q = 2 else if x3 = true then q = 3 else ((P → q = 4) ∧ (¬ P → q = 0))

def RetKind (x1 x2 x3 : Bool) (P : Prop) (w : World) (e : Ending) (w' : World) : Prop := ∃ q : Int, e = .returned (.int .i64 q) ∧ KindIs x1 x2 x3 P q ∧ Below w.heap.size w w'

set_option maxHeartbeats 1000000 in
theorem kind (u : ByteArray) (b : Nat) (x1 x2 x3 : Bool) (a0 : Option Addr) (ni n c0 : Nat) (v : Value) (f : ByteArray → Value) (I N : Nat → ByteArray) (Z : Nat → Bool) (M : Nat → Nat) (U : Nat → Nat → ByteArray) (w : World)
    (hni : ni ≤ 1048576) (hI : ∀ i, i < ni → (I i).size ≤ maxLen) (hM : ∀ j, j < n → M j ≤ 1048576)
    (hq : Req w b x1 x2 x3 u a0 ni c0) (r0 : Row w 0 a0 ni (strs I)) (hv : MapV w v f) (hf : ∀ s, HostAt w 0 N Z M U n s (f s)) :
    Calls Try.prog 15 #[.pointer (some ⟨b, 0, none⟩), v] w fun e w' => RetKind x1 x2 x3 (EvacP u ni n I N Z M U) w e w' := by
  have HC : Hid _ := evacuates u b x1 x2 x3 a0 ni n c0 v f I N Z M U w hni hI hM hq r0 hv hf
  have q1 := hq.rebuild
  have q2 := hq.resize
  have q3 := hq.live
  clear hq r0 hv hf hI hM
  cases x1 with
  | true =>
    go_enter Try.func15, Try.ntmps15
    go_wp2
    go_ret
    exact ⟨1, rfl, rfl, Below.refl _ _⟩
  | false =>
    cases x2 with
    | true =>
      go_enter Try.func15, Try.ntmps15
      go_wp2
      go_ret
      exact ⟨2, rfl, rfl, Below.refl _ _⟩
    | false =>
      cases x3 with
      | true =>
        go_enter Try.func15, Try.ntmps15
        go_wp2
        go_ret
        exact ⟨3, rfl, rfl, Below.refl _ _⟩
      | false =>
        go_enter Try.func15, Try.ntmps15
        go_wp2_with fail
        refine Calls.mono (unhid HC) ?_
        rintro e w1 ⟨r, rfl, hr, hb⟩
        have HR : Hid _ := hr
        have HB : Hid _ := hb
        clear hr hb HC q1 q2 q3
        cases r with
        | true =>
          go_wp2
          go_ret
          exact ⟨4, rfl, ⟨fun _ => rfl, fun h => absurd ((unhid HR).1 trivial) h⟩, unhid HB⟩
        | false =>
          go_wp2
          go_ret
          exact ⟨0, rfl, ⟨fun h => Bool.noConfusion ((unhid HR).2 h), fun _ => rfl⟩, unhid HB⟩
end Go.Proofs.Qxb6603233a
