/-
  FnKindWhole (3).
-/
import Derived.Test.Qxb6603233aZz
import Derived.Test.Qxb6603233aEvac
namespace Go.Proofs.Qxb6603233a
open Go.RowKit

/-- True, and nothing old has turned. -/
def Law (w : World) (e : Ending) (w' : World) : Prop := e = .returned (.bool true) ∧ Below w.heap.size w w'

set_option maxHeartbeats 4000000 in
set_option maxRecDepth 20000 in
theorem whole3 (x1 x2 x3 x4 x5 : Bool) (u : ByteArray) (a0 a1 a2 a3 : Option Addr) (ni n n2 n3 c0 c1 c2 c3 : Nat) (I N : Nat → ByteArray) (Z : Nat → Bool) (A : Nat → Option Addr) (M C : Nat → Nat) (U : Nat → Nat → ByteArray) (w : World)
    (hu : u.size ≤ maxLen) (h0 : ni ≤ maxLen) (h1 : n ≤ maxLen) (h2 : n2 ≤ maxLen) (h3 : n3 ≤ maxLen) (hM : ∀ i, i < n3 → M i ≤ maxLen)
    (hI : Lens ni I) (hN : Lens n N) (hU : ∀ i, i < n3 → Lens (M i) (U i)) (r0 : Row w 0 a0 ni (strs I)) (r1 : Row w 0 a1 n (strs N)) (r2 : Row w 0 a2 n2 (bools Z)) (r3 : Nest w 0 a3 n3 A M C U) :
    Calls Try.prog 3 #[.bool x1, .bool x2, .bool x3, .bool x4, .bool x5, .string u, .slice a0 ni c0, .slice a1 n c1, .slice a2 n2 c2, .slice a3 n3 c3] w fun e w' => Law w e w' := by
  have C0 : Hid _ := zzBytes x1 x2 x3 x4 x5 u a0 a1 a2 a3 ni n n2 n3 c0 c1 c2 c3 I N A M C U w hu h0 h1 h2 h3 hM hI hN hU r0 r1 r3
  have R0 : Hid _ := r0
  have R1 : Hid _ := r1
  have R2 : Hid _ := r2
  have R3 : Hid _ := r3
  have HI : Hid _ := hI
  have HN : Hid _ := hN
  have HUU : Hid _ := hU
  have HM0 : Hid _ := hM
  clear r0 r1 r2 r3 hI hN hU hM h0 h1 h2 h3 hu
  go_enter Try.func3, Try.ntmps3
  go_wp2_with fail
  refine Calls.mono (unhid C0) ?_
  rintro e w' ⟨r, rfl, hr, rfl⟩
  clear C0
  cases r with
  | false =>
    clear hr
    go_wp2
    go_ret
    exact ⟨rfl, Below.refl _ _⟩
  | true =>
    obtain ⟨b0, b1, b2, b3, b4, b5⟩ := hr rfl
    have C1 : Hid _ := tooBig u a0 a1 a2 a3 ni n n2 n3 c0 c1 c2 c3 I N A M C U w' b0 b1 b2 b3 b4 (unhid HM0) (unhid HI) (unhid HN) (unhid HUU) (unhid R0) (unhid R1) (unhid R3)
    have HM : Hid _ := b5
    clear hr b5 HM0
    go_wp2_with fail
    refine Calls.mono (unhid C1) ?_
    rintro e w ⟨r, rfl, rfl⟩
    clear C1
    cases r with
    | true =>
      go_wp2
      go_ret
      exact ⟨rfl, Below.refl _ _⟩
    | false =>
      go_wp2_with fail
      refine (shape a1 a2 a3 n n2 n3 c1 c2 c3 w b2 b3).mono ?_
      rintro e w' ⟨r, rfl, hr, rfl⟩
      cases r with
      | false =>
        clear hr
        go_wp2
        go_ret
        exact ⟨rfl, Below.refl _ _⟩
      | true =>
        obtain ⟨e2, e3⟩ := hr rfl
        subst e2 e3
        clear hr
        rename World => W
        go_wp2_with fail
        refine (cloneStrs a0 ni c0 I W b1 (unhid R0)).mono ?_
        rintro e w1 ⟨a0', rfl, S0, hb1⟩
        have B1 : Hid _ := hb1
        have R1' : Hid _ := Row.below (unhid R1) hb1
        have R2' : Hid _ := Row.below (unhid R2) hb1
        have R3' : Hid _ := Nest.below (unhid R3) hb1
        have T0 : Hid _ := S0.mono (Nat.zero_le _)
        clear R0 R1 R2 R3 S0 hb1
        go_wp2_with fail
        refine (cloneStrs a1 n3 c1 N w1 b4 (unhid R1')).mono ?_
        rintro e w2 ⟨a1', rfl, S1, hb2⟩
        have B2 : Hid _ := (unhid B1).trans (hb2.mono (unhid B1).size)
        have R2 : Hid _ := Row.below (unhid R2') hb2
        have R3 : Hid _ := Nest.below (unhid R3') hb2
        have T0' : Hid _ := Row.below (unhid T0) hb2
        have T1' : Hid _ := S1.mono (Nat.zero_le _)
        clear R1' R2' R3' S1 hb2 B1 T0
        go_wp2_with fail
        refine (cloneBools a2 n3 c2 Z w2 b4 (unhid R2)).mono ?_
        rintro e w3 ⟨a2', rfl, S2, hb3⟩
        have B3 : Hid _ := (unhid B2).trans (hb3.mono (unhid B2).size)
        have R3' : Hid _ := Nest.below (unhid R3) hb3
        have T0 : Hid _ := Row.below (unhid T0') hb3
        have T1 : Hid _ := Row.below (unhid T1') hb3
        have T2 : Hid _ := S2.mono (Nat.zero_le _)
        clear R2 R3 S2 hb3 B2 T0' T1'
        go_wp2_with fail
        refine (cloneNested a3 n3 c3 A M C U w3 b4 (unhid HM) (unhid R3')).mono ?_
        rintro e w4 ⟨a3', A', rfl, S3, hb4⟩
        have B4 : Hid _ := (unhid B3).trans (hb4.mono (unhid B3).size)
        have T0' : Hid _ := Row.below (unhid T0) hb4
        have T1' : Hid _ := Row.below (unhid T1) hb4
        have T2' : Hid _ := Row.below (unhid T2) hb4
        have T3' : Hid _ := S3.mono (Nat.zero_le _)
        clear R3' S3 hb4 B3 T0 T1 T2
        go_wp2_with fail
        refine (request x1 x2 x3 x4 x5 u a0' ni ni w4).mono ?_
        rintro e w5 ⟨b, rfl, hq, hb5⟩
        have B5 : Hid _ := (unhid B4).trans (hb5.mono (unhid B4).size)
        have T0 : Hid _ := Row.below (unhid T0') hb5
        have T1 : Hid _ := Row.below (unhid T1') hb5
        have T2 : Hid _ := Row.below (unhid T2') hb5
        have T3 : Hid _ := Nest.below (unhid T3') hb5
        have Q5 : Hid _ := hq
        clear hq hb5 B4 T0' T1' T2' T3'
        go_wp2_with fail
        refine (hosts a1' a2' a3' n3 n3 n3 n3 N Z A' M M U w5 b4 (unhid HN) (unhid HM) (unhid T1) (unhid T2) (unhid T3)).mono ?_
        rintro e w6 ⟨v, f, rfl, hv, hf, hb6⟩
        have B6 : Hid _ := (unhid B5).trans (hb6.mono (unhid B5).size)
        have T0' : Hid _ := Row.below (unhid T0) hb6
        have T1' : Hid _ := Row.below (unhid T1) hb6
        have T2' : Hid _ := Row.below (unhid T2) hb6
        have T3' : Hid _ := Nest.below (unhid T3) hb6
        have CK : Hid _ := kind u b x1 x2 x3 a0' ni n3 ni v f I N Z M U w6 b1 (unhid HI) (unhid HM) (Req.below (unhid Q5) hb6) (unhid T0') hv hf
        clear hv hf hb6 B5 T0 T1 T2 T3 Q5
        go_wp2_with fail
        refine Calls.mono (unhid CK) ?_
        rintro e w7 ⟨q, rfl, hq, hb7⟩
        have B7 : Hid _ := (unhid B6).trans (hb7.mono (unhid B6).size)
        have T0 : Hid _ := Row.below (unhid T0') hb7
        have T1 : Hid _ := Row.below (unhid T1') hb7
        have T2 : Hid _ := Row.below (unhid T2') hb7
        have T3 : Hid _ := Nest.below (unhid T3') hb7
        clear hb7 B6 T0' T1' T2' T3' CK
        cases x1 with
        | true =>
          obtain rfl : q = 1 := hq
          go_wp2
          go_ret
          exact ⟨rfl, unhid B7⟩
        | false =>
          cases x2 with
          | true =>
            obtain rfl : q = 2 := hq
            go_wp2
            go_ret
            exact ⟨rfl, unhid B7⟩
          | false =>
            cases x3 with
            | true =>
              obtain rfl : q = 3 := hq
              go_wp2
              go_ret
              exact ⟨rfl, unhid B7⟩
            | false =>
              have HQ : Hid ((EvacP u ni n3 I N Z M U → q = 4) ∧ (¬ EvacP u ni n3 I N Z M U → q = 0)) := hq
              clear hq
              go_wp2_with fail
              refine (modelEvacuates u a0' a1' a2' a3' ni n3 ni n3 n3 n3 I N Z A' M M U w7 b1 b4 (unhid HM) (unhid T0) (unhid T1) (unhid T2) (unhid T3)).mono ?_
              rintro e w8 ⟨r, rfl, hr, hb8⟩
              have B8 : Hid _ := (unhid B7).trans (hb8.mono (unhid B7).size)
              clear hb8 B7 T0 T1 T2 T3
              cases r with
              | true =>
                obtain rfl : q = 4 := (unhid HQ).1 ((evac_model u ni n3 I N Z M U).2 (hr.1 rfl))
                clear hr HQ
                go_wp2
                go_ret
                exact ⟨rfl, unhid B8⟩
              | false =>
                obtain rfl : q = 0 := (unhid HQ).2 (fun h => Bool.noConfusion (hr.2 ((evac_model u ni n3 I N Z M U).1 h)))
                clear hr HQ
                go_wp2
                go_ret
                exact ⟨rfl, unhid B8⟩
end Go.Proofs.Qxb6603233a
