/-
  copy between slices of pairs: the law that the kit has for elements of one cell, at two.
-/
import Derived.Test.Qxb6604326aDoorPairs
import Derived.Laws.CopyOwn
namespace Go.Proofs.Qxb6604326aDoor
open Go.RowKit

theorem run_copy2 {P : Program} (w : World) (dT sT ty elem : TypeId) (g n dCap : Nat) (a : Addr) (sCap : Nat) (cur : Array Value) (t : TypeId) (cs : List Value)
    (hu : P.underlying dT = some (.slice elem)) (hs : (P.info? elem).map (·.size) = some 2)
    (hg : w.heap[g]? = some (.cells cur t (0, 0))) (hn : cs.length = n * 2)
    (hsrc : ∀ j v, cs[j]? = some v → w.cell? (a.add j) = some v) (hfit : cs.length ≤ cur.size) (h1 : ∀ v ∈ cs, v.oneCell' = true) :
    (Builtin.copy_ #[dT, sT] ty #[.slice (some ⟨g, 0, none⟩) n dCap, .slice (some a) n sCap]).run P w =
      .ok (goInt n) (w.setRow g (cs ++ cur.toList.drop cs.length).toArray) := by
  have hl := run_loadCells_list (P := P) w a cs hsrc
  have hst := run_storeCells_at P g 0 t cs 0 cur w hg (by simpa using hfit) h1
  cases hq : P.info? elem with
  | none => simp [hq] at hs
  | some i =>
    have hi : i.size = 2 := by simpa [hq] using hs
    simp [Builtin.copy_, run_underlying hu, Builtin.lenOf, Builtin.firstCells, sizeOf, typeInfo, hq, hi, ← hn, hl, hst]


theorem run_copy2_none {P : Program} (w : World) (dT sT ty elem : TypeId) (a : Addr) (dCap : Nat) (ad : Addr) (sCap : Nat) (hu : P.underlying dT = some (.slice elem)) (hs : (P.info? elem).map (·.size) = some 2) :
    (Builtin.copy_ #[dT, sT] ty #[.slice (some a) 0 dCap, .slice (some ad) 0 sCap]).run P w = .ok (goInt 0) w := by
  cases hq : P.info? elem with
  | none => simp [hq] at hs
  | some i =>
    have hl := run_loadCells_list (P := P) w ad [] (by simp)
    simp only [List.length_nil] at hl
    simp [Builtin.copy_, run_underlying hu, Builtin.lenOf, Builtin.firstCells, sizeOf, typeInfo, hq, hl, storeCells]

/-- The pairs of a slice as the list of its cells. -/
def pcList (L H : Nat → Int) (n : Nat) : List Value := (List.range (n * 2)).map (pc L H n)

theorem pcList_get (L H : Nat → Int) (n j : Nat) (v : Value) (h : (pcList L H n)[j]? = some v) : j < n * 2 ∧ v = pc L H n j := by
  have hj : j < n * 2 := by
    apply Classical.byContradiction; intro hh
    rw [List.getElem?_eq_none (by simp [pcList]; omega)] at h; cases h
  refine ⟨hj, ?_⟩
  simp [pcList, hj] at h
  exact h.symm

theorem pairs_src {w : World} {b off n : Nat} {L H : Nat → Int} (hc : ∀ i, i < n → w.cell? ⟨b, off + i * 2, none⟩ = some (.int .i32 (L i)) ∧ w.cell? ⟨b, off + i * 2 + 1, none⟩ = some (.int .i32 (H i))) :
    ∀ j v, (pcList L H n)[j]? = some v → w.cell? ((⟨b, off, none⟩ : Addr).add j) = some v := by
  intro j v hv
  obtain ⟨hj, rfl⟩ := pcList_get L H n j v hv
  have e : (⟨b, off, none⟩ : Addr).add j = ⟨b, off + j, none⟩ := by
    by_cases h0 : j = 0
    · subst h0; simp [Addr.add]
    · simp [Addr.add, h0]
  rw [e]
  obtain ⟨c0, c1⟩ := hc (j / 2) (by omega)
  unfold pc
  rw [if_pos hj]
  by_cases hp : j % 2 = 0
  · rw [if_pos hp]
    rw [show off + j = off + j / 2 * 2 from by omega]; exact c0
  · rw [if_neg hp]
    rw [show off + j = off + j / 2 * 2 + 1 from by omega]; exact c1

theorem pcList_one (L H : Nat → Int) (n : Nat) : ∀ v ∈ pcList L H n, v.oneCell' = true := by
  intro v hv
  simp only [pcList, List.mem_map, List.mem_range] at hv
  obtain ⟨j, hj, rfl⟩ := hv
  unfold pc
  rw [if_pos hj]
  by_cases hp : j % 2 = 0
  · rw [if_pos hp]; rfl
  · rw [if_neg hp]; rfl

theorem row_copied {w : World} {g : Nat} {t : TypeId} {n : Nat} {L H : Nat → Int} {cur : Array Value} (hg : w.heap[g]? = some (.cells cur t (0, 0))) (hcs : cur.size = n * 2) :
    (w.setRow g (pcList L H n ++ cur.toList.drop (pcList L H n).length).toArray).rowIs g t (n * 2) (pc L H n) := by
  have hl : (pcList L H n).length = n * 2 := by simp [pcList]
  have hd : cur.toList.drop (pcList L H n).length = [] := by
    apply List.drop_eq_nil_of_le; rw [hl, Array.length_toList]; omega
  rw [hd, List.append_nil]
  refine ⟨_, setRow_heap w g _ _ t _ hg, by simp [hl], fun i hi => ?_⟩
  simp [pcList, hi]

/-- 'copy(ca, a)', ca a fresh row of as many pairs as a has. -/
theorem run_copy_pairs (w : World) (ty : TypeId) (g n dCap sCap : Nat) (ad : Addr) (L H : Nat → Int) (f : Nat → Value)
    (hrow : w.rowIs g 28 (n * 2) f) (hp : Pairs w (some ad) n L H) (B : Nat) (w0 : World) (hb : Below B w0 w) (hBg : B ≤ g) :
    ∃ w', (Builtin.copy_ #[22, 22] ty #[.slice (some ⟨g, 0, none⟩) n dCap, .slice (some ad) n sCap]).run Tryd.prog w = .ok (goInt n) w' ∧ w'.rowIs g 28 (n * 2) (pc L H n) ∧ Below B w0 w' := by
  have hsz : (Tryd.prog.info? 28).map (·.size) = some 2 := by kernel_rfl
  by_cases h0 : n = 0
  · subst h0
    exact ⟨w, run_copy2_none (P := Tryd.prog) w 22 22 ty 28 ⟨g, 0, none⟩ dCap ad sCap Tryd.underlying22 hsz, hrow.congr fun i hi => absurd hi (by omega), hb⟩
  · obtain ⟨b, off, e, hc⟩ := hp (by omega)
    cases e
    obtain ⟨cur, hg, hcs, _⟩ := hrow
    exact ⟨_, run_copy2 (P := Tryd.prog) w 22 22 ty 28 g n dCap ⟨b, off, none⟩ sCap cur 28 (pcList L H n) Tryd.underlying22 hsz hg (by simp [pcList]) (pairs_src hc) (by simp [pcList, hcs]) (pcList_one L H n), row_copied hg hcs, below_setRow hb hBg _⟩

/-- 'ca := make([][2]int32, len(a)); copy(ca, a)' -/
theorem make_copy (w : World) (n cap : Nat) (ad : Addr) (L H : Nat → Int) (h : Pairs w (some ad) n L H) :
    ∃ w', (Builtin.copy_ #[22, 22] 3 #[.slice (some ⟨w.heap.size, 0, none⟩) n n, .slice (some ad) n cap]).run Tryd.prog (w.alloc (.cells (madeCells #[.int .i32 0, .int .i32 0] (n * 2)) 28)) = .ok (goInt n) w' ∧
      Hid (Pairs w' (some ⟨w.heap.size, 0, none⟩) n L H) ∧ Hid (Below w.heap.size w w') := by
  have hbe := (Below.refl w.heap.size w).alloc (Nat.le_refl _) (.cells (madeCells #[.int .i32 0, .int .i32 0] (n * 2)) 28)
  obtain ⟨w', h1, h2, h3⟩ := run_copy_pairs _ 3 w.heap.size n n cap ad L H _ (pc_made w n 28 L H) (h.below hbe) w.heap.size w hbe (Nat.le_refl _)
  exact ⟨w', h1, pc_pairs h2, h3⟩

theorem pcList_succ (L H : Nat → Int) (k : Nat) : pcList L H (k + 1) = pcList L H k ++ [.int .i32 (L k), .int .i32 (H k)] := by
  unfold pcList
  rw [show (k + 1) * 2 = k * 2 + 1 + 1 from by omega, List.range_succ, List.range_succ, List.map_append, List.map_append, List.append_assoc]
  congr 1
  · apply List.map_congr_left
    intro j hj
    have hj' := List.mem_range.1 hj
    unfold pc
    rw [if_pos (by omega), if_pos hj']
  · simp only [List.map_cons, List.map_nil, List.cons_append, List.nil_append]
    unfold pc
    rw [if_pos (by omega), if_pos (by omega), if_pos (by omega), if_neg (by omega), show k * 2 / 2 = k from by omega, show (k * 2 + 1) / 2 = k from by omega]

theorem pcList_zero (L H : Nat → Int) : pcList L H 0 = [] := rfl

theorem pcList_congr (L H L' H' : Nat → Int) (k : Nat) (h : ∀ i, i < k → L i = L' i ∧ H i = H' i) : pcList L H k = pcList L' H' k := by
  induction k with
  | zero => rfl
  | succ k ih => rw [pcList_succ, pcList_succ, ih (fun i hi => h i (by omega)), (h k (by omega)).1, (h k (by omega)).2]

/-- A row of pairs that the call has built by append, as pairs. -/
theorem owned_pairs {w : World} {base g n cap : Nat} {L H : Nat → Int} (h : w.ownsRow base 28 2 (.slice (some ⟨g, 0, none⟩) n cap) n (pcList L H n)) : Pairs w (some ⟨g, 0, none⟩) n L H := by
  intro _
  refine ⟨g, 0, rfl, fun i hi => ?_⟩
  rw [Nat.zero_add]
  have a0 := h.cellAt (i * 2) (by omega)
  have a1 := h.cellAt (i * 2 + 1) (by omega)
  refine ⟨?_, ?_⟩
  · rw [a0]; simp only [pcList]; rw [List.getElem?_map, List.getElem?_range (by omega)]
    simp only [Option.map_some]; unfold pc
    rw [if_pos (by omega), if_pos (by omega), show i * 2 / 2 = i from by omega]
  · rw [a1]; simp only [pcList]; rw [List.getElem?_map, List.getElem?_range (by omega)]
    simp only [Option.map_some]; unfold pc
    rw [if_pos (by omega), if_neg (by omega), show (i * 2 + 1) / 2 = i from by omega]

/-- The pairs of a, then those of b. -/
def cat (n : Nat) (L L' : Nat → Int) (i : Nat) : Int := if i < n then L i else L' (i - n)

end Go.Proofs.Qxb6604326aDoor
