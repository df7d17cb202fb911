/-
  THE WALKS of zzBytes and of makeNodes.
-/
import Derived.Test.Qxb6619715aCircle1
import Derived.Test.Qxb6619715aModel2
import Derived.Deep.LoopGhost
namespace Go.Proofs.Qxb6619715a
open Go.RowKit

set_option maxHeartbeats 4000000 in
theorem bytes_big (a0 a1 a2 : Option Addr) (l0 c0 l1 c1 l2 c2 : Nat) (h0 : l0 ≤ maxLen) (h1 : l1 ≤ maxLen) (h2 : l2 ≤ maxLen) (ri : Value) (w : World) (h : l0 + l1 + l2 > 1048576) :
    Calls Try.prog 13 #[.slice a0 l0 c0, .slice a1 l1 c1, .slice a2 l2 c2, ri] w fun e w' => e = .returned (.bool false) ∧ w' = w := by
  unfold maxLen at h0 h1 h2
  go_enter Try.func13, Try.ntmps13
  by_cases t0 : l0 > 1048576
  · go_wp2; go_ret; exact ⟨rfl, rfl⟩
  by_cases t1 : l1 > 1048576
  · go_wp2; go_ret; exact ⟨rfl, rfl⟩
  by_cases t2 : l0 + l1 > 1048576
  · have t2' : (l0 : Int) + l1 > 1048576 := by omega
    go_wp2; go_ret; exact ⟨rfl, rfl⟩
  have t2' : ¬ ((l0 : Int) + l1 > 1048576) := by omega
  by_cases t3 : l2 > 1048576
  · go_wp2; go_ret; exact ⟨rfl, rfl⟩
  have t4' : (l0 : Int) + l1 + l2 > 1048576 := by omega
  go_wp2; go_ret; exact ⟨rfl, rfl⟩

set_option maxHeartbeats 4000000 in
theorem bytes_small (a0 a1 a2 : Option Addr) (l0 c0 l1 c1 l2 c2 : Nat) (ri : Value) (w : World) (h : l0 + l1 + l2 ≤ 1048576) :
    Calls Try.prog 13 #[.slice a0 l0 c0, .slice a1 l1 c1, .slice a2 l2 c2, ri] w fun e w' => e = .returned (.bool true) ∧ w' = w := by
  go_enter Try.func13, Try.ntmps13
  have t0 : ¬ l0 > 1048576 := by omega
  have t1 : ¬ l1 > 1048576 := by omega
  have t3 : ¬ l2 > 1048576 := by omega
  have t2' : ¬ ((l0 : Int) + l1 > 1048576) := by omega
  have t4' : ¬ ((l0 : Int) + l1 + l2 > 1048576) := by omega
  go_wp2; go_ret; exact ⟨rfl, rfl⟩

/-- A plain block. -/
def Plain (w : World) (b : Nat) : Prop := ∃ c t, w.heap[b]? = some (.cells c t (0, 0))
theorem Plain.setCell {w : World} {b : Nat} (h : Plain w b) (a : Addr) (v : Value) : Plain (w.setCell a v) b := by
  obtain ⟨c, t, h⟩ := h
  by_cases e : a.block = b
  · subst e
    refine ⟨(if a.spot.isSome then c else c.setIfInBounds a.off v), t, ?_⟩
    simp [World.setCell, Array.getElem?_modify, h]
  · exact ⟨c, t, (Below.heap_setCell _ _ _ _ (Ne.symm e)).trans h⟩
theorem Plain.alloc {w : World} {b : Nat} (h : Plain w b) (o : Obj) : Plain (w.alloc o) b := by
  obtain ⟨c, t, h⟩ := h
  have hlt : b < w.heap.size := by
    rcases Nat.lt_or_ge b w.heap.size with h' | h'
    · exact h'
    · rw [Array.getElem?_eq_none h'] at h; cases h
  exact ⟨c, t, (Below.heap_alloc _ _ _ hlt).trans h⟩
theorem Plain.new (w : World) (c : Array Value) (t : TypeId) : Plain (w.alloc (.cells c t)) w.heap.size := ⟨c, t, by
  show (w.heap.push _)[w.heap.size]? = _
  simp⟩

/-- The first i nodes are made: node u lies in block D + u; their pointers in block N. -/
structure Nodes (w : World) (N D n i : Nat) : Prop where
  lt : N < D
  size : w.heap.size = D + i
  ptr : ∀ u, u < i → w.cell? ⟨N, u, none⟩ = some (pt (D + u))
  room : ∀ u, u < n → (w.cell? ⟨N, u, none⟩).isSome = true ∧ w.frozen? ⟨N, u, none⟩ = false
  idx : ∀ u, u < i → w.cell? ⟨D + u, 2, none⟩ = some (.int .i64 (u : Nat))
  prot : ∀ u, u < i → w.cell? ⟨D + u, 6, none⟩ = some (.bool false) ∧ w.frozen? ⟨D + u, 6, none⟩ = false
  plain : ∀ u, u < i → Plain w (D + u)

theorem Nodes.next {w : World} {N D n i : Nat} (h : Nodes w N D n i) (hi : i < n) (c : Array Value) (t : TypeId) (h2 : c[2]? = some (.int .i64 (i : Nat))) (h6 : c[6]? = some (.bool false)) :
    Nodes ((w.alloc (.cells c t)).setCell ⟨N, i, none⟩ (.pointer (some ⟨D + i, 0, none⟩))) N D n (i + 1) := by
  have hs := h.size
  have hN := h.lt
  have old : ∀ a : Addr, a.block < w.heap.size → a.block ≠ N → ((w.alloc (.cells c t)).setCell ⟨N, i, none⟩ (.pointer (some ⟨D + i, 0, none⟩))).cell? a = w.cell? a := fun a ha hne => by
    rw [World.cell?_setCell_other _ _ _ _ (fun e => hne (by subst e; rfl))]
    exact World.cell?_of_block (Below.heap_alloc _ _ _ ha)
  have oldf : ∀ a : Addr, a.block < w.heap.size → ((w.alloc (.cells c t)).setCell ⟨N, i, none⟩ (.pointer (some ⟨D + i, 0, none⟩))).frozen? a = w.frozen? a := fun a ha => by
    rw [World.frozen?_setCell]
    exact World.frozen?_of_block (Below.heap_alloc _ _ _ ha)
  have new : ∀ o, ((w.alloc (.cells c t)).setCell ⟨N, i, none⟩ (.pointer (some ⟨D + i, 0, none⟩))).cell? ⟨D + i, o, none⟩ = c[o]? := fun o => by
    rw [World.cell?_setCell_other _ _ _ _ (fun e => by injection e with e _ _; omega), ← hs, World.cell?_alloc_new]
  have atN : ∀ u, u ≠ i → ((w.alloc (.cells c t)).setCell ⟨N, i, none⟩ (.pointer (some ⟨D + i, 0, none⟩))).cell? ⟨N, u, none⟩ = w.cell? ⟨N, u, none⟩ := fun u hu => by
    rw [World.cell?_setCell_other _ _ _ _ (fun e => hu (by injection e with _ e _; exact e.symm))]
    exact World.cell?_of_block (Below.heap_alloc _ _ _ (show N < w.heap.size by omega))
  have hereN : ((w.alloc (.cells c t)).setCell ⟨N, i, none⟩ (.pointer (some ⟨D + i, 0, none⟩))).cell? ⟨N, i, none⟩ = some (pt (D + i)) := by
    obtain ⟨x, hx⟩ := Option.isSome_iff_exists.1 (h.room i hi).1
    have : (w.alloc (.cells c t)).cell? ⟨N, i, none⟩ = some x := (World.cell?_of_block (Below.heap_alloc _ _ _ (show N < w.heap.size by omega))).trans hx
    rw [World.cell?_setCell_same _ _ _ this]
    rfl
  refine ⟨h.lt, by simp; omega, fun u hu => ?_, fun u hu => ?_, fun u hu => ?_, fun u hu => ?_, fun u hu => ?_⟩
  · by_cases e : u = i
    · subst e; exact hereN
    · rw [atN u e]; exact h.ptr u (by omega)
  · refine ⟨?_, by rw [oldf _ (show N < w.heap.size by omega)]; exact (h.room u hu).2⟩
    by_cases e : u = i
    · subst e; rw [hereN]; rfl
    · rw [atN u e]; exact (h.room u hu).1
  · by_cases e : u = i
    · subst e; rw [new]; exact h2
    · rw [old _ (show D + u < w.heap.size by omega) (show D + u ≠ N by omega)]; exact h.idx u (by omega)
  · by_cases e : u = i
    · subst e
      rw [new, World.frozen?_setCell, ← hs]
      refine ⟨h6, ?_⟩
      rw [frozen?_alloc_cells]
      simp [World.frozen?]
    · rw [old _ (show D + u < w.heap.size by omega) (show D + u ≠ N by omega), oldf _ (show D + u < w.heap.size by omega)]; exact h.prot u (by omega)
  · by_cases e : u = i
    · subst e
      rw [← hs]
      exact (Plain.new w c t).setCell _ _
    · exact ((h.plain u (by omega)).alloc _).setCell _ _

set_option maxRecDepth 100000 in
set_option maxHeartbeats 4000000 in
theorem nodes_any (w : World) (n : Nat) (hn : n ≤ 16384) :
    Calls Try.prog 7 #[.int .i64 n] w fun e w' => e = .returned (.slice (some ⟨w.heap.size, 0, none⟩) n n) ∧ (∃ D, Nodes w' w.heap.size D n n) ∧ Below w.heap.size w w' := by
  have i28 : (Try.prog.info? 28).map (fun i => (i.zero, i.size, i.bytes)) = some (some (.pointer none), 1, 8) := by kernel_rfl
  obtain ⟨i0, hi, hz0, hz1, hz2⟩ := info_parts i28
  go_enter Try.func7, Try.ntmps7
  go_wp2_with (at_make; refine wpList_make_full _ rfl _ _ 25 rfl w.heap.size 28 i0 (.pointer none) 1 Try.underlying25 hi hz0 hz1 _ _ _ _ n rfl rfl rfl rfl ?b2 ?b3 (Nat.le_refl _) ?_)
  case b2 => first | omega | (rw [hz2]; omega)
  case b3 => unfold maxLen; omega
  intro w1 hown1 hgrow1
  have hb1 : Below w.heap.size w w1 := (Below.refl _ _).grown hgrow1 (Nat.le_refl _) (fun k h => by cases h)
  have hlt1 : w.heap.size < w1.heap.size := (hown1.lt _ rfl).2
  have H0 : Hid (Nodes w1 w.heap.size w1.heap.size n 0) := by
    refine ⟨hlt1, rfl, fun u hu => by omega, fun u hu => ?_, fun u hu => by omega, fun u hu => by omega, fun u hu => by omega⟩
    have := hown1.cellAt u (by omega)
    refine ⟨?_, hown1.frozenAt u⟩
    rw [this, toList_madeCells_one, List.getElem?_replicate]
    simp [hu]
  clear hown1 hgrow1
  go_wp2
  go_loopg [4] n (fun gi v4 wr => ∃ i : Nat, i ≤ n ∧ gi = n - i ∧ v4 = .int .i64 i ∧ Hid (Nodes wr w.heap.size w1.heap.size n i) ∧ Below w.heap.size w wr)
  case atStart => exact ⟨0, by omega, rfl, rfl, H0, hb1⟩
  case round =>
    clear H0 hb1
    obtain ⟨i, hin, hgi, rfl, hN, hb⟩ := hrel
    by_cases hlt : i < n
    · obtain ⟨x, hx⟩ := Option.isSome_iff_exists.1 (hN.out.room i hlt).1
      have hf := (hN.out.room i hlt).2
      have hs := hN.out.size
      have HS : Hid (wr.heap.size = w1.heap.size + i) := hs
      have hNs : w.heap.size < wr.heap.size := lt_of_cell hx
      have hx' : ∀ o, (wr.alloc o).cell? ⟨w.heap.size, i, none⟩ = some x := fun o => (World.cell?_of_block (Below.heap_alloc _ _ _ hNs)).trans hx
      have hf' : ∀ o, (wr.alloc o).frozen? ⟨w.heap.size, i, none⟩ = false := fun o => (World.frozen?_of_block (Below.heap_alloc _ _ _ hNs)).trans hf
      clear hs hx hf
      go_wp2
      go_roundg (n - (i + 1))
      case rel =>
        rw [← World.setCell_alloc_past _ _ _ _ hNs]
        refine ⟨i + 1, by omega, rfl, by go_num, ?_, (hb.alloc hb.size _).setCell (Nat.le_refl _) _⟩
        have := hN.out.next hlt
        rw [← HS.out] at this
        exact this _ _ rfl rfl
      case measure => omega
    · obtain rfl : i = n := by omega
      go_wp2
      go_ret
      exact ⟨rfl, ⟨_, hN.out⟩, hb⟩

end Go.Proofs.Qxb6619715a
