/-
  novaB1Request (13), novaB1Hosts (14).
-/
import Derived.Test.Qxb6603233aClone
import Derived.RegionTactic
import Derived.ChangeAlike
namespace Go.Proofs.Qxb6603233a
open Go.RowKit

/-- The request's cells that are looked at. -/
structure Req (w : World) (b : Nat) (r1 r2 r3 : Bool) (u : ByteArray) (a : Option Addr) (n c : Nat) : Prop where
  uuid : w.cell? ⟨b, 0, none⟩ = some (.string u)
  ignore : w.cell? ⟨b, 10, none⟩ = some (.slice a n c)
  rebuild : w.cell? ⟨b, 11, none⟩ = some (.bool r1)
  resize : w.cell? ⟨b, 12, none⟩ = some (.bool r2)
  live : w.cell? ⟨b, 13, none⟩ = some (.bool r3)

theorem Req.below {w w' : World} {b : Nat} {r1 r2 r3 : Bool} {u : ByteArray} {a : Option Addr} {n c : Nat} (h : Req w b r1 r2 r3 u a n c) (hb : Below w.heap.size w w') : Req w' b r1 r2 r3 u a n c :=
  ⟨(hb.cell (p := ⟨b, 0, none⟩) (lt_of_cell h.uuid)).trans h.uuid, (hb.cell (p := ⟨b, 10, none⟩) (lt_of_cell h.uuid)).trans h.ignore, (hb.cell (p := ⟨b, 11, none⟩) (lt_of_cell h.uuid)).trans h.rebuild,
   (hb.cell (p := ⟨b, 12, none⟩) (lt_of_cell h.uuid)).trans h.resize, (hb.cell (p := ⟨b, 13, none⟩) (lt_of_cell h.uuid)).trans h.live⟩

def RetReq (r1 r2 r3 : Bool) (u : ByteArray) (a : Option Addr) (n c : Nat) (w : World) (e : Ending) (w' : World) : Prop :=
  ∃ b, e = .returned (.pointer (some ⟨b, 0, none⟩)) ∧ Req w' b r1 r2 r3 u a n c ∧ Below w.heap.size w w'

theorem cell_new (w : World) (cs : Array Value) (t : TypeId) (i : Nat) : (w.alloc (.cells cs t)).cell? ⟨w.heap.size, i, none⟩ = cs[i]? := by
  have hb : (w.alloc (.cells cs t)).heap[w.heap.size]? = some (.cells cs t) := (MapKept.heap_alloc w _).1
  simp only [World.cell?, hb]
  rfl

theorem req_made (w : World) (t : TypeId) (x1 x2 x3 x4 x5 x6 x7 x8 x9 y1 y2 y3 : Value) (r1 r2 r3 : Bool) (u : ByteArray) (a : Option Addr) (n c : Nat) :
    Req (w.alloc (.cells #[.string u, x1, x2, x3, x4, x5, x6, x7, x8, x9, .slice a n c, .bool r1, .bool r2, .bool r3, y1, y2, y3] t)) w.heap.size r1 r2 r3 u a n c := by
  exact ⟨cell_new _ _ _ _, cell_new _ _ _ _, cell_new _ _ _ _, cell_new _ _ _ _, cell_new _ _ _ _⟩

set_option maxHeartbeats 400000 in
theorem request (r1 r2 r3 r4 r5 : Bool) (u : ByteArray) (a : Option Addr) (n c : Nat) (w : World) :
    Calls Try.prog 13 #[.bool r1, .bool r2, .bool r3, .bool r4, .bool r5, .string u, .slice a n c] w fun e w' => RetReq r1 r2 r3 u a n c w e w' := by
  have h46 := build46
  have h50 := build50
  go_enter Try.func13, Try.ntmps13
  go_wp2
  go_ret
  exact ⟨_, rfl, req_made _ _ _ _ _ _ _ _ _ _ _ _ _ _ _ _ _ _ _ _ _, (Below.refl _ _).alloc (Nat.le_refl _) _⟩

/-! ### The map of hosts -/

/-- What stands at s behind the first k names: nothing, or what the last of them that is s has laid there. -/
def HostAt (w : World) (base : Nat) (N : Nat → ByteArray) (Z : Nat → Bool) (M : Nat → Nat) (U : Nat → Nat → ByteArray) (k : Nat) (s : ByteArray) (v : Value) : Prop :=
  ((∀ j, j < k → N j ≠ s) ∧ v = .pointer none) ∨
  ∃ j, j < k ∧ N j = s ∧ (∀ l, j < l → l < k → N l ≠ s) ∧ ((Z j = true ∧ v = .pointer none) ∨
    (Z j = false ∧ ∃ hb a', v = .pointer (some ⟨hb, 0, none⟩) ∧ base ≤ hb ∧ w.cell? ⟨hb, 7, none⟩ = some (.slice a' (M j) (M j)) ∧ Insts w base a' (M j) (U j)))

theorem HostAt.kept {w w' : World} {base : Nat} {N : Nat → ByteArray} {Z : Nat → Bool} {M : Nat → Nat} {U : Nat → Nat → ByteArray} {k : Nat} {s : ByteArray} {v : Value} (h : HostAt w base N Z M U k s v) (hk : Kept base w w') : HostAt w' base N Z M U k s v := by
  rcases h with h | ⟨j, h1, h2, h3, h4 | ⟨h4, hb, a', h5, h6, h7, h8⟩⟩
  · exact .inl h
  · exact .inr ⟨j, h1, h2, h3, .inl h4⟩
  · exact .inr ⟨j, h1, h2, h3, .inr ⟨h4, hb, a', h5, h6, hk.cell h6 h7, h8.kept hk⟩⟩

theorem Insts.mono {w : World} {base base' : Nat} {a : Option Addr} {n : Nat} {U : Nat → ByteArray} (h : Insts w base a n U) (hb : base' ≤ base) : Insts w base' a n U := by
  intro hn
  obtain ⟨b, off, e, hb', hc⟩ := h hn
  exact ⟨b, off, e, by omega, hc⟩

theorem HostAt.mono {w : World} {base base' : Nat} {N : Nat → ByteArray} {Z : Nat → Bool} {M : Nat → Nat} {U : Nat → Nat → ByteArray} {k : Nat} {s : ByteArray} {v : Value} (h : HostAt w base N Z M U k s v) (hk : base' ≤ base) : HostAt w base' N Z M U k s v := by
  rcases h with h | ⟨j, h1, h2, h3, h4 | ⟨h4, hb, a', h5, h6, h7, h8⟩⟩
  · exact .inl h
  · exact .inr ⟨j, h1, h2, h3, .inl h4⟩
  · exact .inr ⟨j, h1, h2, h3, .inr ⟨h4, hb, a', h5, by omega, h7, h8.mono hk⟩⟩

theorem HostAt.other {w : World} {base : Nat} {N : Nat → ByteArray} {Z : Nat → Bool} {M : Nat → Nat} {U : Nat → Nat → ByteArray} {k : Nat} {s : ByteArray} {v : Value} (h : HostAt w base N Z M U k s v) (hs : s ≠ N k) : HostAt w base N Z M U (k + 1) s v := by
  rcases h with ⟨h1, h2⟩ | ⟨j, h1, h2, h3, h4⟩
  · refine .inl ⟨fun j hj => ?_, h2⟩
    by_cases e : j = k
    · subst e; exact hs.symm
    · exact h1 j (by omega)
  · refine .inr ⟨j, by omega, h2, fun l hl hl' => ?_, h4⟩
    by_cases e : l = k
    · subst e; exact hs.symm
    · exact h3 l hl (by omega)

/-- Behind k rounds. -/
def HostsTo (w wr : World) (N : Nat → ByteArray) (Z : Nat → Bool) (M : Nat → Nat) (U : Nat → Nat → ByteArray) (k : Nat) : Prop :=
  ∃ f, HMap wr w.heap.size k f ∧ (∀ s, HostAt wr (w.heap.size + 1) N Z M U k s (f s)) ∧ Below w.heap.size w wr

theorem HostsTo.start (w : World) (N : Nat → ByteArray) (Z : Nat → Bool) (M : Nat → Nat) (U : Nat → Nat → ByteArray) : HostsTo w (w.alloc (.map #[] 0)) N Z M U 0 :=
  ⟨_, HMap.made w, fun _ => .inl ⟨fun _ h => absurd h (by omega), rfl⟩, (Below.refl _ _).alloc (Nat.le_refl _) _⟩

theorem HostsTo.below {w wr w1 : World} {N : Nat → ByteArray} {Z : Nat → Bool} {M : Nat → Nat} {U : Nat → Nat → ByteArray} {k : Nat} (h : HostsTo w wr N Z M U k) (hb : Below wr.heap.size wr w1) : HostsTo w w1 N Z M U k := by
  obtain ⟨f, h1, h2, h3⟩ := h
  exact ⟨f, h1.of_block (hb.block _ h1.lt), fun s => (h2 s).kept (.of_below hb), h3.trans (hb.mono h3.size)⟩

theorem HostsTo.put {w wr : World} {N : Nat → ByteArray} {Z : Nat → Bool} {M : Nat → Nat} {U : Nat → Nat → ByteArray} {k : Nat} (h : HostsTo w wr N Z M U k) (hk : k < maxLen) (hs : (N k).size ≤ maxLen) (v : Value)
    (hv : (Z k = true ∧ v = .pointer none) ∨ (Z k = false ∧ ∃ hb a', v = .pointer (some ⟨hb, 0, none⟩) ∧ w.heap.size + 1 ≤ hb ∧ wr.cell? ⟨hb, 7, none⟩ = some (.slice a' (M k) (M k)) ∧ Insts wr (w.heap.size + 1) a' (M k) (U k))) :
    ∃ w', (Instr.mapUpdate 33 (.map (some w.heap.size)) (.string (N k)) v).run Try.prog wr = .ok () w' ∧ HostsTo w w' N Z M U (k + 1) := by
  obtain ⟨f, h1, h2, h3⟩ := h
  obtain ⟨w', hrun, hm, hg⟩ := h1.put hk (N k) hs v
  have hkept : Kept (w.heap.size + 1) wr w' := Kept.of_grown hg (Nat.lt_succ_self _)
  refine ⟨w', hrun, _, hm, fun s => ?_, h3.grown hg h3.size (fun j hj => by cases hj; exact Nat.le_refl _)⟩
  by_cases e : s = N k
  · rw [if_pos e]
    refine HostAt.kept (.inr ⟨k, Nat.lt_succ_self _, e.symm, fun l h1 h2 => absurd h1 (by omega), hv⟩) hkept
  · rw [if_neg e]
    exact ((h2 s).other e).kept hkept

/-- The host of round k, boxed behind its instances. -/
theorem HostsTo.host {w wr wi wb : World} {N : Nat → ByteArray} {Z : Nat → Bool} {M : Nat → Nat} {U : Nat → Nat → ByteArray} {k c : Nat} (h : HostsTo w wr N Z M U k) (hk : k < maxLen) (hs : (N k).size ≤ maxLen) (hz : Z k = false)
    (hb : Below wr.heap.size wr wi) (hc : w.heap.size + 1 ≤ c) (hrow : wi.rowIs c 54 (M k * 6) (ic (U k) (M k))) (hbi : Below wi.heap.size wi wb) (hcell : wb.cell? ⟨wi.heap.size, 7, none⟩ = some (.slice (some ⟨c, 0, none⟩) (M k) (M k))) :
    ∃ w', (Instr.mapUpdate 33 (.map (some w.heap.size)) (.string (N k)) (.pointer (some ⟨wi.heap.size, 0, none⟩))).run Try.prog wb = .ok () w' ∧ HostsTo w w' N Z M U (k + 1) := by
  have h' := h.below hb
  have hlt : w.heap.size + 1 ≤ wi.heap.size := by have := hrow.lt; omega
  refine (h'.below hbi).put hk hs _ (.inr ⟨hz, wi.heap.size, some ⟨c, 0, none⟩, rfl, hlt, hcell, ?_⟩)
  exact (ic_insts hc hrow).kept (.of_below hbi)

/-- A map value: nil, or a block. -/
def MapV (w : World) (v : Value) (f : ByteArray → Value) : Prop := (v = .map none ∧ ∀ s, f s = .pointer none) ∨ ∃ b n, v = .map (some b) ∧ HMap w b n f

def RetHosts (n : Nat) (N : Nat → ByteArray) (Z : Nat → Bool) (M : Nat → Nat) (U : Nat → Nat → ByteArray) (w : World) (e : Ending) (w' : World) : Prop :=
  ∃ v f, e = .returned v ∧ MapV w' v f ∧ (∀ s, HostAt w' 0 N Z M U n s (f s)) ∧ Below w.heap.size w w'

theorem HostsTo.done {w wr : World} {N : Nat → ByteArray} {Z : Nat → Bool} {M : Nat → Nat} {U : Nat → Nat → ByteArray} {n : Nat} (h : HostsTo w wr N Z M U n) : RetHosts n N Z M U w (.returned (.map (some w.heap.size))) wr := by
  obtain ⟨f, h1, h2, h3⟩ := h
  exact ⟨_, f, rfl, .inr ⟨_, _, rfl, h1⟩, fun s => (h2 s).mono (Nat.zero_le _), h3⟩

theorem run_makeMap_hint (w : World) (q : IntKind) (x : Int) : (Instr.makeMap 33 (some (.int q x))).run Try.prog w = .ok (.map (some w.heap.size)) (w.alloc (.map #[] 0)) := by
  simp [Instr.makeMap, run_underlying Try.underlying33, asInt, asIntOf, Result.andThen]

set_option maxHeartbeats 1000000 in
set_option maxRecDepth 20000 in
theorem hosts (a1 a2 a3 : Option Addr) (n c1 c2 c3 : Nat) (N : Nat → ByteArray) (Z : Nat → Bool) (A : Nat → Option Addr) (M C : Nat → Nat) (U : Nat → Nat → ByteArray) (w : World) (hn : n ≤ 1048576) (hN : ∀ j, j < n → (N j).size ≤ maxLen) (hM : ∀ j, j < n → M j ≤ 1048576)
    (r1 : Row w 0 a1 n (strs N)) (r2 : Row w 0 a2 n (bools Z)) (r3 : Nest w 0 a3 n A M C U) :
    Calls Try.prog 14 #[.slice a1 n c1, .slice a2 n c2, .slice a3 n c3] w fun e w' => RetHosts n N Z M U w e w' := by
  have hnil := fun w a n c n' c' => Lib.run_eql_slice_nil (P := Try.prog) w 22 9 a n c n' c' Try.underlying22
  cases a1 with
  | none =>
    have hn0 := r1.nil
    subst hn0
    go_enter Try.func14, Try.ntmps14
    go_wp2
    go_ret
    exact ⟨_, fun _ => .pointer none, rfl, .inl ⟨rfl, fun _ => rfl⟩, fun s => .inl ⟨fun _ h => absurd h (by omega), rfl⟩, Below.refl _ _⟩
  | some ad =>
    have hmm := run_makeMap_hint
    go_enter Try.func14, Try.ntmps14
    go_wp2
    go_loopw [8] (fun i wr => ∃ k : Nat, k ≤ n ∧ i = .int .i64 k ∧ HostsTo w wr N Z M U k) (fun i _ => n - (intOf i).toNat)
    case atStart => exact ⟨0, Nat.zero_le _, rfl, HostsTo.start w N Z M U⟩
    case round =>
      obtain ⟨k, hk, rfl, hto⟩ := hrel
      have hbel : Below w.heap.size w wr := by obtain ⟨_, _, _, h3⟩ := hto; exact h3
      by_cases hlt : k < n
      · obtain ⟨b1, o1, e, _, g1⟩ := r1 (by omega)
        cases e
        obtain ⟨b2, o2, rfl, _, g2⟩ := r2 (by omega)
        obtain ⟨b3, o3, rfl, _, g3⟩ := r3.row (by omega)
        have k1 : w.cell? ⟨b1, o1 + k, none⟩ = some (.string (N k)) := g1 k hlt
        have k2 : w.cell? ⟨b2, o2 + k, none⟩ = some (.bool (Z k)) := g2 k hlt
        have k3 : w.cell? ⟨b3, o3 + k, none⟩ = some (.slice (A k) (M k) (C k)) := g3 k hlt
        have l1 : wr.cell? ⟨b1, o1 + k, none⟩ = some (.string (N k)) := (hbel.cell (p := ⟨b1, o1 + k, none⟩) (lt_of_cell k1)).trans k1
        have l2 : wr.cell? ⟨b2, o2 + k, none⟩ = some (.bool (Z k)) := (hbel.cell (p := ⟨b2, o2 + k, none⟩) (lt_of_cell k2)).trans k2
        have l3 : wr.cell? ⟨b3, o3 + k, none⟩ = some (.slice (A k) (M k) (C k)) := (hbel.cell (p := ⟨b3, o3 + k, none⟩) (lt_of_cell k3)).trans k3
        have HI : Hid _ := (r3.inner k hlt).below hbel
        have hNk := hN k hlt
        have hMk := hM k hlt
        have HT : Hid _ := hto
        clear g1 g2 g3 k1 k2 k3 r1 r2 r3 hnil hmm hN hM
        cases hz : Z k with
        | true =>
          rw [hz] at l2
          obtain ⟨w', hrun, hto'⟩ := HostsTo.put (unhid HT) (by unfold maxLen; omega) hNk (.pointer none) (.inl ⟨hz, rfl⟩)
          have HT' : Hid _ := hto'
          clear hto hto' hz HT HI hbel hNk
          go_wp2
          go_roundw
          case rel => exact ⟨k + 1, by omega, by go_num, HT'⟩
          case measure => simp [intOf]; omega
        | false =>
          rw [hz] at l2
          have hmk := run_make_insts (M k) hMk
          clear hto hbel
          rename World => w0
          go_wp2
          clear hmk
          go_loopw [10] (fun i wi => ∃ l : Nat, l ≤ M k ∧ i = .int .i64 l ∧ wi.rowIs w0.heap.size 54 (M k * 6) (ic (U k) l) ∧ Below w0.heap.size w0 wi) (fun i _ => M k - (intOf i).toNat)
          case atStart => exact ⟨0, Nat.zero_le _, rfl, ic_made w0 (M k) 54 (U k), (Below.refl _ _).alloc (Nat.le_refl _) _⟩
          case round =>
            obtain ⟨l, hl, rfl, hrow, hbi⟩ := hrel
            have m3 : wr.cell? ⟨b3, o3 + k, none⟩ = some (.slice (A k) (M k) (C k)) := (hbi.cell (p := ⟨b3, o3 + k, none⟩) (lt_of_cell l3)).trans l3
            by_cases hlm : l < M k
            · obtain ⟨b4, o4, hA, _, g4⟩ := (unhid HI) (by omega)
              rw [hA] at m3
              have k4 : w0.cell? ⟨b4, o4 + l, none⟩ = some (.string (U k l)) := g4 l hlm
              have m4 : wr.cell? ⟨b4, o4 + l, none⟩ = some (.string (U k l)) := (hbi.cell (p := ⟨b4, o4 + l, none⟩) (lt_of_cell k4)).trans k4
              have d0 := hrow.cell (i := l * 6) (by omega)
              have d1 := hrow.cell (i := l * 6 + 1) (by omega)
              have d2 := hrow.cell (i := l * 6 + 2) (by omega)
              have d3 := hrow.cell (i := l * 6 + 3) (by omega)
              have d4 := hrow.cell (i := l * 6 + 4) (by omega)
              have d5 := hrow.cell (i := l * 6 + 5) (by omega)
              have hfz := hrow.frozen
              have HR : Hid _ := ic_set hrow
              have HB : Hid _ := (((((hbi.setCell (p := ⟨w0.heap.size, l * 6, none⟩) (Nat.le_refl _) (.string (U k l))).setCell (p := ⟨w0.heap.size, l * 6 + 1, none⟩) (Nat.le_refl _) (.string ByteArray.empty)).setCell (p := ⟨w0.heap.size, l * 6 + 2, none⟩) (Nat.le_refl _) (.string ByteArray.empty)).setCell (p := ⟨w0.heap.size, l * 6 + 3, none⟩) (Nat.le_refl _) (.int .i64 0)).setCell (p := ⟨w0.heap.size, l * 6 + 4, none⟩) (Nat.le_refl _) (.int .i64 0)).setCell (p := ⟨w0.heap.size, l * 6 + 5, none⟩) (Nat.le_refl _) (.int .i64 0)
              have h54 := build54
              clear g4 k4 hA hrow hbi HI HT hNk hz l1 l2 l3
              go_wp2
              go_roundw
              case rel => exact ⟨l + 1, by omega, by go_num, HR, HB⟩
              case measure => simp [intOf]; omega
            · have hlm' : l = M k := by omega
              subst hlm'
              have m1 : wr.cell? ⟨b1, o1 + k, none⟩ = some (.string (N k)) := (hbi.cell (p := ⟨b1, o1 + k, none⟩) (lt_of_cell l1)).trans l1
              have hlt0 : w.heap.size + 1 ≤ w0.heap.size := by
                obtain ⟨f, q1, _, _⟩ := unhid HT
                exact q1.lt
              obtain ⟨w', hrun, hto'⟩ := HostsTo.host (wb := (wr.alloc (.cells #[.string (N k), .string ⟨#[]⟩, .string ⟨#[]⟩, .string ⟨#[]⟩, .slice none 0 0, .map none, .map none, .slice (some ⟨w0.heap.size, 0, none⟩) (M k) (M k)] 58)).drew)
                (unhid HT) (by unfold maxLen; omega) hNk hz hbi hlt0 hrow ((Below.refl _ _).alloc (Nat.le_refl _) _).drew (cell_new _ _ _ _)
              have HT' : Hid _ := hto'
              have h58 := build58
              have m1' : ∀ o, (wr.alloc o).cell? ⟨b1, o1 + k, none⟩ = some (.string (N k)) := fun o => (((Below.refl wr.heap.size wr).alloc (Nat.le_refl _) o).cell (p := ⟨b1, o1 + k, none⟩) (lt_of_cell m1)).trans m1
              clear HI HT hNk hz l1 l2 l3 hbi hrow hto' hlt0
              go_wp2
              go_region
              clear hrun m1' m1 m3 h58
              go_wp2
              go_roundw
              case rel => exact ⟨k + 1, by omega, by go_num, HT'⟩
              case measure => simp [intOf]; omega
      · have hkn : k = n := by omega
        subst hkn
        have HD : Hid _ := hto.done
        clear hnil hmm r1 r2 r3 hbel hto
        go_wp2
        go_ret
        exact HD
end Go.Proofs.Qxb6603233a
