/-
  writeSet (11).
-/
import Derived.Test.Qxb6604326aDoorFmt
import Derived.Test.Qxb6604326aDoorText
import Derived.Test.Qxb6604326aDoorPairs
import Derived.Test.Qxb6604326aDoorShelf
namespace Go.Proofs.Qxb6604326aDoor
open Go.RowKit

/-- The row of n ranges at the head of block R. -/
def Ranges (w : World) (R n : Nat) (L H : Nat → Int) : Prop := ∀ i, i < n → w.cell? ⟨R, i * 2, none⟩ = some (.int .i32 (L i)) ∧ w.cell? ⟨R, i * 2 + 1, none⟩ = some (.int .i32 (H i))


theorem items_succ (L H : Nat → Int) (k : Nat) : items L H (k + 1) = items L H k ++ item (L k) (H k) := rfl

/-- In the midst of a round of writeSet: the builder, the range in its box X, all old memory. -/
structure Mid (B b : Nat) (w0 : World) (X : Nat) (l h : Int) (acc : List UInt8) (W : World) : Prop where
  bld : Lib.IsBuilderF 39 5 B b (Lib.byteCells acc) W
  bel : Below B w0 W
  size : B ≤ W.heap.size
  box : W.heap[X]? = some (.cells #[.int .i32 l, .int .i32 h] 35 (0, 0))
  ne : X ≠ b

theorem Mid.start {B b : Nat} {w0 : World} {l h : Int} {acc : List UInt8} {wr : World} (hb : Lib.IsBuilderF 39 5 B b (Lib.byteCells acc) wr) (hbel : Below B w0 wr) (hsz : B ≤ wr.heap.size) :
    Mid B b w0 wr.heap.size l h acc (wr.alloc (.cells #[.int .i32 l, .int .i32 h] 35)) where
  bld := hb.alloc _
  bel := hbel.alloc hsz _
  size := by simp; omega
  box := heap_alloc_new wr _
  ne := by have := builder_lt hb; omega

theorem Mid.grow {B b : Nat} {w0 : World} {X : Nat} {l h : Int} {acc : List UInt8} {W W' : World} (hM : Mid B b w0 X l h acc W) (hb : Below W.heap.size W W') : Mid B b w0 X l h acc W' where
  bld := builder_below hM.bld hb
  bel := hM.bel.trans (hb.mono hM.size)
  size := Nat.le_trans hM.size hb.size
  box := by
    have hlt : X < W.heap.size := (Array.getElem?_eq_some_iff.1 hM.box).1
    rw [hb.block X hlt]; exact hM.box
  ne := hM.ne

theorem Mid.write {B b : Nat} {w0 : World} {X : Nat} {l h : Int} {acc more : List UInt8} {W W' : World} (hM : Mid B b w0 X l h acc W)
    (h1 : Lib.BuilderAtF 39 5 B b (.pointer (some ⟨b, 0, none⟩)) (Lib.byteCells acc ++ Lib.byteCells more) W') (hb : Below B W W') (hk : Lib.OthersKept 5 (some b) W W') : Mid B b w0 X l h (acc ++ more) W' where
  bld := .inr (by rw [byteCells_append]; exact h1)
  bel := hM.bel.trans hb
  size := Nat.le_trans hM.size hb.size
  box := hk X _ hM.box (by intro e; exact hM.ne (Option.some.inj e)) (by intro c fz e; cases e)
  ne := hM.ne

theorem Mid.cells {B b : Nat} {w0 : World} {X : Nat} {l h : Int} {acc : List UInt8} {W : World} (hM : Mid B b w0 X l h acc W) : W.cell? ⟨X, 0, none⟩ = some (.int .i32 l) ∧ W.cell? ⟨X, 1, none⟩ = some (.int .i32 h) := by
  constructor <;> simp [World.cell?, hM.box]

theorem Mid.tab {B b : Nat} {w0 : World} {X : Nat} {l h : Int} {acc : List UInt8} {W : World} (hM : Mid B b w0 X l h acc W) (hT : Tab w0) (h2 : 2 < B) : Tab W := hT.below hM.bel h2

theorem Mid.writeStr {B b : Nat} {w0 : World} {X : Nat} {l h : Int} {acc : List UInt8} {W : World} (hM : Mid B b w0 X l h acc W) (s : ByteArray) (more : List UInt8) (hs : s.data.toList = more) (hlen : acc.length + more.length ≤ 140737488355328) :
    Calls Tryd.prog 10 #[.pointer (some ⟨b, 0, none⟩), .string s] W fun e w' => e = .returned (.tuple #[.int .i64 s.size, .nilIface]) ∧ Mid B b w0 X l h (acc ++ more) w' := by
  subst hs
  refine (Tryd.Builder_WriteString_k B b _ s W hM.bld (by rw [Lib.byteCells_length]; have : s.data.toList.length = s.size := (by rw [Array.length_toList]; rfl); omega) hM.size).mono ?_
  rintro e w1 ⟨rfl, h1, hb, hk⟩
  exact ⟨rfl, hM.write h1 hb hk⟩

theorem cat3 (a b c : ByteArray) : (a ++ b ++ c).data.toList = a.data.toList ++ b.data.toList ++ c.data.toList := by
  simp [ByteArray.data_append]

theorem esc1 (v : Int) : ((⟨#[92, 120, 123]⟩ : ByteArray) ++ ⟨(fmt16 v).toArray⟩ ++ ⟨#[125]⟩).data.toList = escB v := by rw [cat3]; rfl
theorem esc2 (v : Int) : ((⟨#[45, 92, 120, 123]⟩ : ByteArray) ++ ⟨(fmt16 v).toArray⟩ ++ ⟨#[125]⟩).data.toList = 45 :: escB v := by rw [cat3]; rfl

set_option maxHeartbeats 400000 in
theorem write11 (B b R n : Nat) (L H : Nat → Int) (pre : List UInt8) (w : World) (hn : n ≤ 65536) (hpre : pre.length ≤ 1048576) (hb : Lib.IsBuilderF 39 5 B b (Lib.byteCells pre) w) (hBw : B ≤ w.heap.size)
    (hR : Ranges w R n L H) (hRB : R < B) (h2B : 2 < B) (hT : Tab w) (hL : ∀ i, i < n → I32 (L i)) (hH : ∀ i, i < n → I32 (H i)) :
    Calls Tryd.prog 11 #[.pointer (some ⟨b, 0, none⟩), .slice (some ⟨R, 0, none⟩) n n] w fun e w' => e = .returned (.tuple #[]) ∧ Lib.IsBuilderF 39 5 B b (Lib.byteCells (pre ++ setText L H n)) w' ∧ Below B w w' := by
  by_cases h0 : n = 0
  · subst h0
    go_enter Tryd.func11, Tryd.ntmps11
    go_wp2_with fail
    refine (Tryd.Builder_WriteString_k B b _ ⟨#[91, 94, 92, 120, 48, 48, 45, 92, 120, 123, 49, 48, 70, 70, 70, 70, 125, 93]⟩ _ hb (by rw [Lib.byteCells_length]; show pre.length + 18 ≤ _; omega) hBw).mono ?_
    rintro e w1 ⟨rfl, hb1, hbel, _⟩
    have HB : Hid (Lib.IsBuilderF 39 5 B b (Lib.byteCells (pre ++ setText L H 0)) w1) := by
      rw [byteCells_append]
      exact .inr hb1
    clear hb1
    go_wp2
    exact bodyPost_ret (v := .tuple #[]) (by simp [results, Tryd.results11, go_sem]) rfl ⟨rfl, unhide HB, hbel⟩
  · have h0' : ((n : Int) == 0) = false := by rw [beq_eq_false_iff_ne]; omega
    go_enter Tryd.func11, Tryd.ntmps11
    go_wp2_with fail
    refine (Tryd.Builder_WriteByte_k B b _ _ _ hb (by rw [Lib.byteCells_length]; omega) hBw).mono ?_
    rintro e w1 ⟨rfl, hb1, hbel1, _⟩
    have hsz := hbel1.size
    go_wp2
    go_loopw [5, 15] (fun _ i wr => ∃ k : Nat, k ≤ n ∧ i = .int .i64 k ∧ Hid (Lib.IsBuilderF 39 5 B b (Lib.byteCells (pre ++ 91 :: items L H k)) wr) ∧ Below B w wr ∧ B ≤ wr.heap.size) (fun _ i _ => n - (intOf i).toNat)
    case atStart => exact ⟨0, Nat.zero_le _, rfl, hide (.inr (by rw [byteCells_append]; exact hb1)), hbel1, by omega⟩
    case round =>
      obtain ⟨k, hk, rfl, HB, hbel, hBr⟩ := hrel
      have hbl : (pre ++ 91 :: items L H k).length ≤ 3000000 := by have := items_length L H k; simp; omega
      by_cases hlt : k < n
      · obtain ⟨c0, c1⟩ := hR k hlt
        have d0 : wr.cell? ⟨R, k * 2, none⟩ = some (.int .i32 (L k)) := (hbel.cell (p := ⟨R, k * 2, none⟩) hRB).trans c0
        have d1 : wr.cell? ⟨R, k * 2 + 1, none⟩ = some (.int .i32 (H k)) := (hbel.cell (p := ⟨R, k * 2 + 1, none⟩) hRB).trans c1
        have hTr : Tab wr := hT.below hbel h2B
        obtain ⟨l0, l1⟩ := hL k hlt
        obtain ⟨g0, g1⟩ := hH k hlt
        have hM := Mid.start (l := L k) (h := H k) (unhide HB) hbel hBr
        clear c0 c1 hb1 hbel1 hsz
        go_wp2_with fail
        refine (fmtInt (L k) _ l0 l1 (hM.tab hT h2B)).mono ?_
        rintro e w2 ⟨rfl, hb2⟩
        have hM2 := hM.grow hb2
        clear hM hb2 d0 d1 hTr hbel HB hBr
        have hf := fmt16_length (L k)
        have hel := escB_length (L k)
        have hel' := escB_length (H k)
        go_wp2_with fail
        refine (hM2.writeStr _ (escB (L k)) (esc1 _) (by omega)).mono ?_
        rintro e w3 ⟨rfl, hM3⟩
        clear hM2
        obtain ⟨x0, x1⟩ := hM3.cells
        by_cases hlh : L k < H k
        · have hit : item (L k) (H k) = escB (L k) ++ 45 :: escB (H k) := by unfold item; rw [if_pos hlh]
          have HI := hide hit
          clear hit
          go_wp2_with fail
          refine (fmtInt (H k) _ g0 g1 (hM3.tab hT h2B)).mono ?_
          rintro e w4 ⟨rfl, hb4⟩
          have hM4 := hM3.grow hb4
          clear hM3 hb4 x0 x1
          have hf' := fmt16_length (H k)
          go_wp2_with fail
          refine (hM4.writeStr _ (45 :: escB (H k)) (esc2 _) (by simp at hbl ⊢; omega)).mono ?_
          rintro e w5 ⟨rfl, hM5⟩
          clear hM4
          go_wp2
          go_roundw
          case rel => exact ⟨k + 1, by omega, by go_num, hide (by have := hM5.bld; rw [items_succ, unhide HI]; simpa using this), hM5.bel, hM5.size⟩
          case measure => simp [intOf]; omega
        · have hit : item (L k) (H k) = escB (L k) := by unfold item; rw [if_neg hlh]; simp
          have HI := hide hit
          clear hit
          go_wp2
          go_roundw
          case rel => exact ⟨k + 1, by omega, by go_num, hide (by have := hM3.bld; rw [items_succ, unhide HI]; simpa using this), hM3.bel, hM3.size⟩
          case measure => simp [intOf]; omega
      · have hkn : k = n := by omega
        subst hkn
        have HS : Hid (setText L H k = 91 :: (items L H k ++ [93])) := by unfold setText; rw [if_neg h0]; exact hide rfl
        clear hb1 hbel1 hsz
        go_wp2_with fail
        refine (Tryd.Builder_WriteByte_k B b _ _ _ (unhide HB) (by rw [Lib.byteCells_length]; omega) hBr).mono ?_
        rintro e w2 ⟨rfl, hb2, hbel2, _⟩
        go_wp2
        go_end0
        refine ⟨rfl, .inr ?_, hbel.trans hbel2⟩
        have e : pre ++ setText L H k = (pre ++ 91 :: items L H k) ++ [93] := by rw [unhide HS]; simp
        rw [e, byteCells_append]
        exact hb2
end Go.Proofs.Qxb6604326aDoor
