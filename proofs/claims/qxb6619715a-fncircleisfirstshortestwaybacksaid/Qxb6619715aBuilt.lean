/-
  THE GRAPH AS THE LAW BUILDS IT: the nodes' marks, the rules, the lists of links.
-/
import Derived.Test.Qxb6619715aMake
import Derived.Deep.AppendLies
namespace Go.Proofs.Qxb6619715a
open Go.RowKit

/-- The nodes with their marks: the first i are marked. -/
structure Marked (w : World) (pr : Nat → Bool) (N D n i : Nat) : Prop where
  lt : N < D
  size : w.heap.size = D + n
  ptr : ∀ u, u < n → w.cell? ⟨N, u, none⟩ = some (pt (D + u))
  idx : ∀ u, u < n → w.cell? ⟨D + u, 2, none⟩ = some (.int .i64 (u : Nat))
  prot : ∀ u, u < n → w.cell? ⟨D + u, 6, none⟩ = some (.bool (if u < i then pr u else false)) ∧ w.frozen? ⟨D + u, 6, none⟩ = false
  plain : ∀ u, u < n → Plain w (D + u)

theorem Nodes.marked {w : World} {N D n : Nat} (h : Nodes w N D n n) (pr : Nat → Bool) : Marked w pr N D n 0 :=
  ⟨h.lt, h.size, h.ptr, h.idx, fun u hu => by rw [if_neg (by omega)]; exact h.prot u hu, h.plain⟩
theorem Marked.drewN {w : World} {pr : Nat → Bool} {N D n i : Nat} (h : Marked w pr N D n i) (q : Nat) : Marked (w.drewN q) pr N D n i := ⟨h.lt, h.size, h.ptr, h.idx, h.prot, h.plain⟩
theorem Marked.next {w : World} {pr : Nat → Bool} {N D n i : Nat} (h : Marked w pr N D n i) (hi : i < n) : Marked (w.setCell ⟨D + i, 6, none⟩ (.bool (pr i))) pr N D n (i + 1) := by
  have hN := h.lt
  refine ⟨h.lt, by simp [h.size], fun u hu => ?_, fun u hu => ?_, fun u hu => ?_, fun u hu => (h.plain u hu).setCell _ _⟩
  · rw [World.cell?_setCell_other _ _ _ _ (fun e => by injection e with e _ _; omega)]; exact h.ptr u hu
  · rw [World.cell?_setCell_other _ _ _ _ (fun e => by injection e with _ e _; omega)]; exact h.idx u hu
  · rw [World.frozen?_setCell]
    refine ⟨?_, (h.prot u hu).2⟩
    by_cases e : u = i
    · subst e
      rw [World.cell?_setCell_same _ _ _ (h.prot u hu).1, if_pos (by omega)]
    · rw [World.cell?_setCell_other _ _ _ _ (fun e' => by injection e' with e' _ _; omega), (h.prot u hu).1]
      by_cases e2 : u < i
      · rw [if_pos e2, if_pos (by omega)]
      · rw [if_neg e2, if_neg (by omega)]

theorem Marked.drew {w : World} {pr : Nat → Bool} {N D n i : Nat} (h : Marked w pr N D n i) : Marked w.drew pr N D n i := ⟨h.lt, h.size, h.ptr, h.idx, h.prot, h.plain⟩

def adjTo (g : Net) (k u : Nat) : List Nat := (List.range k).filter fun j => g.fr j == u
theorem adjTo_all (g : Net) (u : Nat) : adjTo g g.m u = g.adj u := rfl
theorem adjTo_here (g : Net) (k : Nat) : adjTo g (k + 1) (g.fr k) = adjTo g k (g.fr k) ++ [k] := by
  unfold adjTo
  rw [List.range_succ, List.filter_append]
  simp
theorem adjTo_other (g : Net) {k u : Nat} (h : u ≠ g.fr k) : adjTo g (k + 1) u = adjTo g k u := by
  unfold adjTo
  rw [List.range_succ, List.filter_append]
  have : (g.fr k == u) = false := by simpa using fun e => h e.symm
  simp [this]
theorem adjTo_lt {g : Net} {k u j : Nat} (h : j ∈ adjTo g k u) : j < k := by
  unfold adjTo at h
  simpa using (List.mem_filter.1 h).1
theorem adjTo_len (g : Net) (k u : Nat) : (adjTo g k u).length ≤ k := by
  unfold adjTo
  exact Nat.le_trans (List.length_filter_le _ _) (by simp)

def links (g : Net) (D : Nat) (rb : Nat → Nat) (l : List Nat) : List Value := l.flatMap fun j => [pt (D + g.to j), pt (rb j)]
theorem links_snoc (g : Net) (D : Nat) (rb : Nat → Nat) (l : List Nat) (k : Nat) : links g D rb (l ++ [k]) = links g D rb l ++ [pt (D + g.to k), pt (rb k)] := by simp [links]
theorem links_congr {g : Net} {D : Nat} {rb rb' : Nat → Nat} : ∀ {l : List Nat}, (∀ j ∈ l, rb j = rb' j) → links g D rb l = links g D rb' l
  | [], _ => rfl
  | x :: l, h => by
    have e := links_congr (g := g) (D := D) (l := l) (fun j hj => h j (by simp [hj]))
    unfold links at e ⊢
    rw [List.flatMap_cons, List.flatMap_cons, e, h x (by simp)]
theorem links_at {g : Net} {D : Nat} {rb : Nat → Nat} : ∀ {l : List Nat} {i : Nat} (h : i < l.length), (links g D rb l)[i * 2]? = some (pt (D + g.to l[i])) ∧ (links g D rb l)[i * 2 + 1]? = some (pt (rb l[i]))
  | x :: l, 0, _ => by simp [links]
  | x :: l, i + 1, h => by
    have e := links_at (g := g) (D := D) (rb := rb) (l := l) (i := i) (by simpa using h)
    have e2 : links g D rb (x :: l) = pt (D + g.to x) :: pt (rb x) :: links g D rb l := by simp [links]
    rw [e2, show (i + 1) * 2 = i * 2 + 1 + 1 by omega, show i * 2 + 1 + 1 + 1 = (i * 2 + 1) + 1 + 1 by omega]
    simpa using e

theorem owns_of_block {w w' : World} {B e sz n : Nat} {v : Value} {xs : List Value} (h : w.ownsRow B e sz v n xs) (hb : ∀ b, v.ownBlock = some b → w'.heap[b]? = w.heap[b]?) : w'.ownsRow B e sz v n xs := by
  refine ⟨h.1, ?_⟩
  rcases h.2 with h2 | ⟨g, cap, cur, rfl, h3, h4, h5⟩
  · exact .inl h2
  · exact .inr ⟨g, cap, cur, rfl, h3, (hb g rfl).trans h4, h5⟩

structure Built (g : Net) (D R A B : Nat) (wb wr : World) (k : Nat) (rb : Nat → Nat) (sv : Nat → Value) : Prop where
  hR : R < B
  hA : A < B
  hRA : R ≠ A
  size : B ≤ wr.heap.size
  old : ∀ b, b < B → b ≠ R → b ≠ A → wr.heap[b]? = wb.heap[b]?
  rsp : ∀ j, j < k → wr.cell? ⟨R, j, none⟩ = some (pt (rb j))
  rsr : ∀ j, j < g.m → (wr.cell? ⟨R, j, none⟩).isSome = true ∧ wr.frozen? ⟨R, j, none⟩ = false
  rule : ∀ j, j < k → B ≤ rb j ∧ rb j < wr.heap.size ∧ wr.cell? ⟨rb j, 7, none⟩ = some (pt (D + g.fr j)) ∧ wr.cell? ⟨rb j, 8, none⟩ = some (pt (D + g.to j))
  aft : ∀ u, u < g.n → wr.cell? ⟨A, u, none⟩ = some (sv u) ∧ wr.frozen? ⟨A, u, none⟩ = false
  own : ∀ u, u < g.n → wr.ownsRow B 59 2 (sv u) (adjTo g k u).length (links g D rb (adjTo g k u))
  apart : ∀ u v, u < g.n → v < g.n → u ≠ v → ∀ b, (sv u).ownBlock = some b → (sv v).ownBlock ≠ some b
  rapart : ∀ u, u < g.n → ∀ b, (sv u).ownBlock = some b → ∀ j, j < k → rb j ≠ b

theorem Built.drewN {g : Net} {D R A B : Nat} {wb wr : World} {k : Nat} {rb : Nat → Nat} {sv : Nat → Value} (h : Built g D R A B wb wr k rb sv) (q : Nat) : Built g D R A B wb (wr.drewN q) k rb sv :=
  ⟨h.hR, h.hA, h.hRA, h.size, h.old, h.rsp, h.rsr, h.rule, h.aft, h.own, h.apart, h.rapart⟩
theorem Built.drew {g : Net} {D R A B : Nat} {wb wr : World} {k : Nat} {rb : Nat → Nat} {sv : Nat → Value} (h : Built g D R A B wb wr k rb sv) : Built g D R A B wb wr.drew k rb sv :=
  ⟨h.hR, h.hA, h.hRA, h.size, h.old, h.rsp, h.rsr, h.rule, h.aft, h.own, h.apart, h.rapart⟩

theorem Built.step {g : Net} {D R A B : Nat} {wb wr : World} {k : Nat} {rb : Nat → Nat} {sv : Nat → Value} (h : Built g D R A B wb wr k rb sv) (hk : k < g.m) (hok : g.Ok)
    {rc lc : Array Value} {w1 : World} {nv : Value} {gg : Nat} (r7 : rc[7]? = some (pt (D + g.fr k))) (r8 : rc[8]? = some (pt (D + g.to k)))
    (hgrow : (((wr.setCell ⟨R, k, none⟩ (pt wr.heap.size)).alloc (.cells rc 57)).alloc (.cells lc 59)).grownBy w1 (sv (g.fr k)).ownBlock)
    (hown : w1.ownsRow B 59 2 nv ((adjTo g k (g.fr k)).length + 1) (links g D rb (adjTo g k (g.fr k)) ++ [pt (D + g.to k), pt wr.heap.size]))
    (hnv : nv.ownBlock = some gg) (hat : (sv (g.fr k)).ownBlock = some gg ∨ gg = wr.heap.size + 2) :
    Built g D R A B wb (w1.setCell ⟨A, g.fr k, none⟩ nv) (k + 1) (fun j => if j = k then wr.heap.size else rb j) (fun u => if u = g.fr k then nv else sv u) := by
  have hu := hok.fr_lt k hk
  have hsz := h.size
  have hR := h.hR
  have hA := h.hA
  have hRA := h.hRA
  have hg1 := hgrow.size
  simp at hg1
  -- the block of the row that grows
  have hob : ∀ b, (sv (g.fr k)).ownBlock = some b → B ≤ b ∧ b < wr.heap.size := (h.own _ hu).lt
  -- a block of wr that is neither R, A nor that row's
  have keep : ∀ b, b < wr.heap.size → b ≠ R → b ≠ A → (sv (g.fr k)).ownBlock ≠ some b → (w1.setCell ⟨A, g.fr k, none⟩ nv).heap[b]? = wr.heap[b]? := fun b hb h1 h2 h3 => by
    rw [Below.heap_setCell _ _ _ _ h2, hgrow.block b (by simp; omega) (Ne.symm h3), Below.heap_alloc _ _ _ (by simp; omega), Below.heap_alloc _ _ _ (by simp; omega), Below.heap_setCell _ _ _ _ h1]
  have notR : (sv (g.fr k)).ownBlock ≠ some R := fun e => by have := (hob _ e).1; omega
  have notA : (sv (g.fr k)).ownBlock ≠ some A := fun e => by have := (hob _ e).1; omega
  have notX : (sv (g.fr k)).ownBlock ≠ some wr.heap.size := fun e => by have := (hob _ e).2; omega
  -- block R
  have blkR : (w1.setCell ⟨A, g.fr k, none⟩ nv).heap[R]? = (wr.setCell ⟨R, k, none⟩ (pt wr.heap.size)).heap[R]? := by
    rw [Below.heap_setCell _ _ _ _ hRA, hgrow.block R (by simp; omega) (Ne.symm notR), Below.heap_alloc _ _ _ (by simp; omega), Below.heap_alloc _ _ _ (by simp; omega)]
  -- block A
  have blkA : w1.heap[A]? = wr.heap[A]? := by
    rw [hgrow.block A (by simp; omega) (Ne.symm notA), Below.heap_alloc _ _ _ (by simp; omega), Below.heap_alloc _ _ _ (by simp; omega), Below.heap_setCell _ _ _ _ (Ne.symm hRA)]
  -- the new rule
  have blkX : (w1.setCell ⟨A, g.fr k, none⟩ nv).heap[wr.heap.size]? = some (.cells rc 57 (0, 0)) := by
    rw [Below.heap_setCell _ _ _ _ (show wr.heap.size ≠ A by omega), hgrow.block wr.heap.size (by simp; omega) (Ne.symm notX), Below.heap_alloc _ _ _ (by simp)]
    have := heap_alloc_new (wr.setCell ⟨R, k, none⟩ (pt wr.heap.size)) (.cells rc 57)
    simpa using this
  have cellX : ∀ o, (w1.setCell ⟨A, g.fr k, none⟩ nv).cell? ⟨wr.heap.size, o, none⟩ = rc[o]? := fun o => by
    simp [World.cell?, blkX]
  have hgg : gg < w1.heap.size := (hown.lt gg hnv).2
  refine ⟨hR, hA, hRA, by simp; omega, fun b hb h1 h2 => ?_, fun j hj => ?_, fun j hj => ?_, fun j hj => ?_, fun u hu' => ?_, fun u hu' => ?_, fun u v hu1 hv1 hne b hb => ?_, fun u hu1 b hb j hj => ?_⟩
  · rw [keep b (by omega) h1 h2 (fun e => by have := (hob _ e).1; omega)]
    exact h.old b hb h1 h2
  · rw [World.cell?_of_block (w := wr.setCell ⟨R, k, none⟩ (pt wr.heap.size)) (a := ⟨R, j, none⟩) blkR]
    by_cases e : j = k
    · subst e
      obtain ⟨x, hx⟩ := Option.isSome_iff_exists.1 (h.rsr j hk).1
      rw [World.cell?_setCell_same _ _ _ hx, if_pos rfl]
    · rw [World.cell?_setCell_other _ _ _ _ (fun e' => by injection e' with _ e' _; omega), if_neg e]
      exact h.rsp j (by omega)
  · rw [World.cell?_of_block (w := wr.setCell ⟨R, k, none⟩ (pt wr.heap.size)) (a := ⟨R, j, none⟩) blkR, World.frozen?_of_block (w := wr.setCell ⟨R, k, none⟩ (pt wr.heap.size)) (a := ⟨R, j, none⟩) blkR, World.frozen?_setCell]
    refine ⟨?_, (h.rsr j hj).2⟩
    by_cases e : j = k
    · subst e
      obtain ⟨x, hx⟩ := Option.isSome_iff_exists.1 (h.rsr j hk).1
      rw [World.cell?_setCell_same _ _ _ hx]; rfl
    · rw [World.cell?_setCell_other _ _ _ _ (fun e' => by injection e' with _ e' _; omega)]
      exact (h.rsr j hj).1
  · by_cases e : j = k
    · subst e
      rw [if_pos rfl, cellX, cellX]
      exact ⟨hsz, by simp; omega, r7, r8⟩
    · rw [if_neg e]
      obtain ⟨q1, q2, q3, q4⟩ := h.rule j (by omega)
      have kb := keep (rb j) q2 (by omega) (by omega) (fun e' => h.rapart _ hu _ e' j (by omega) rfl)
      rw [World.cell?_of_block (w := wr) (a := ⟨rb j, 7, none⟩) kb, World.cell?_of_block (w := wr) (a := ⟨rb j, 8, none⟩) kb]
      exact ⟨q1, by simp; omega, q3, q4⟩
  · rw [World.frozen?_setCell, World.frozen?_of_block (w := wr) (a := ⟨A, u, none⟩) blkA]
    refine ⟨?_, (h.aft u hu').2⟩
    by_cases e : u = g.fr k
    · subst e
      have : w1.cell? ⟨A, g.fr k, none⟩ = some (sv (g.fr k)) := (World.cell?_of_block (w := wr) (a := ⟨A, g.fr k, none⟩) blkA).trans (h.aft _ hu).1
      rw [World.cell?_setCell_same _ _ _ this, if_pos rfl]
    · rw [World.cell?_setCell_other _ _ _ _ (fun e' => by injection e' with _ e' _; exact e e'.symm), if_neg e, World.cell?_of_block (w := wr) (a := ⟨A, u, none⟩) blkA]
      exact (h.aft u hu').1
  · have lc : ∀ v, links g D (fun j => if j = k then wr.heap.size else rb j) (adjTo g k v) = links g D rb (adjTo g k v) := fun v => links_congr fun j hj => by
      have := adjTo_lt hj
      rw [if_neg (by omega)]
    by_cases e : u = g.fr k
    · subst e
      rw [if_pos rfl, adjTo_here, links_snoc, lc, if_pos rfl, List.length_append]
      refine owns_of_block hown (fun b hb => Below.heap_setCell _ _ _ _ (fun e' => ?_))
      have e2 : b = A := e'
      have := (hown.lt b hb).1
      omega
    · rw [if_neg e, adjTo_other g e, lc]
      refine owns_of_block (h.own u hu') (fun b hb => ?_)
      have hb2 := (h.own u hu').lt b hb
      exact keep b hb2.2 (by omega) (by omega) (fun e' => h.apart u _ hu' hu e b hb e')
  · by_cases e1 : u = g.fr k
    · rw [if_pos e1] at hb
      rw [if_neg (by omega)]
      rw [hnv] at hb
      injection hb with hb
      subst hb
      intro e2
      rcases hat with hat | hat
      · exact h.apart _ _ hu hv1 (by omega) _ hat e2
      · have := ((h.own v hv1).lt _ e2).2
        omega
    · rw [if_neg e1] at hb
      by_cases e2 : v = g.fr k
      · rw [if_pos e2, hnv]
        intro e3
        injection e3 with e3
        subst e3
        rcases hat with hat | hat
        · exact h.apart _ _ hu1 hu e1 _ hb hat
        · have := ((h.own u hu1).lt _ hb).2
          omega
      · rw [if_neg e2]
        exact h.apart u v hu1 hv1 hne b hb
  · by_cases e1 : u = g.fr k
    · rw [if_pos e1, hnv] at hb
      injection hb with hb
      subst hb
      by_cases e2 : j = k
      · rw [if_pos e2]
        rcases hat with hat | hat
        · have := (hob _ hat).2
          omega
        · omega
      · rw [if_neg e2]
        rcases hat with hat | hat
        · exact h.rapart _ hu _ hat j (by omega)
        · have := (h.rule j (by omega)).2.1
          omega
    · rw [if_neg e1] at hb
      by_cases e2 : j = k
      · rw [if_pos e2]
        have := ((h.own u hu1).lt _ hb).2
        omega
      · rw [if_neg e2]
        exact h.rapart u hu1 b hb j (by omega)

theorem Built.start {g : Net} {D R A : Nat} {w6 w7 : World} (hR : w6.ownsRow R 51 1 (.slice (some ⟨R, 0, none⟩) g.m g.m) g.m (madeCells #[Value.pointer none] g.m).toList)
    (hA : w7.ownsRow A 42 1 (.slice (some ⟨A, 0, none⟩) g.n g.n) g.n (madeCells #[Value.slice none 0 0] g.n).toList) (hg : w6.grownBy w7 none) (hRA : R < A) :
    Built g D R A w7.heap.size w7 w7 0 (fun _ => 0) (fun _ => .slice none 0 0) := by
  have r1 := (hR.lt R rfl).2
  have r2 := (hA.lt A rfl).2
  have r3 := hg.size
  have blk : w7.heap[R]? = w6.heap[R]? := hg.block R r1 (fun e => by cases e)
  refine ⟨by omega, r2, by omega, Nat.le_refl _, fun _ _ _ _ => rfl, fun j hj => by omega, fun j hj => ?_, fun j hj => by omega, fun u hu => ?_, fun u hu => World.ownsRow_nil _ _ _ _, (fun _ _ _ _ _ _ hb => by cases hb), (fun _ _ _ hb => by cases hb)⟩
  · rw [World.cell?_of_block (w := w6) (a := ⟨R, j, none⟩) blk, World.frozen?_of_block (w := w6) (a := ⟨R, j, none⟩) blk]
    refine ⟨?_, hR.frozenAt j⟩
    rw [hR.cellAt j (by omega), toList_madeCells_one, List.getElem?_replicate]
    simp [hj]
  · refine ⟨?_, hA.frozenAt u⟩
    rw [hA.cellAt u (by omega), toList_madeCells_one, List.getElem?_replicate]
    simp [hu]

theorem Built.mem {g : Net} {pr : Nat → Bool} {N D R A B : Nat} {wm wb wr : World} {rb : Nat → Nat} {sv : Nat → Value} {bc oc cc bp op cpp be oe ce : Nat} (h : Built g D R A B wb wr g.m rb sv) (hM : Marked wm pr N D g.n g.n)
    (hwm : ∀ b, b < D + g.n → wb.heap[b]? = wm.heap[b]?) (h1 : D + g.n ≤ R) (h2 : D + g.n ≤ A) (hL : Lists wr g pr bc oc cc bp op cpp be oe ce) : Mem wr g pr (fun u => D + u) rb bc oc cc A := by
  have hR := h.hR
  have hA := h.hA
  have blk : ∀ b, b < D + g.n → wr.heap[b]? = wm.heap[b]? := fun b hb => (h.old b (by omega) (by omega) (by omega)).trans (hwm b hb)
  refine ⟨hL.ok, hL.n_le, hL.m_le, hL.ncap, ⟨fun x y _ _ e => by omega, fun x hx => ?_⟩, fun u hu => ?_, fun u hu => ?_, fun k hk => (h.rule k hk).2.2.1, fun k hk => (h.rule k hk).2.2.2, hL.comp, fun u hu => ?_⟩
  · obtain ⟨c, t, hc⟩ := hM.plain x hx
    exact ⟨c, t, (blk _ (by omega)).trans hc⟩
  · exact (World.cell?_of_block (w := wm) (a := ⟨D + u, 2, none⟩) (blk _ (by show D + u < _; omega))).trans (hM.idx u hu)
  · have := (hM.prot u hu).1
    rw [if_pos hu] at this
    exact (World.cell?_of_block (w := wm) (a := ⟨D + u, 6, none⟩) (blk _ (by show D + u < _; omega))).trans this
  · have ho := h.own u hu
    have hc := (h.aft u hu).1
    rw [adjTo_all] at ho
    rcases ho.2 with ⟨e1, e2⟩ | ⟨b, cap, cur, e1, _, _, e3, _⟩
    · refine ⟨none, 0, by rw [hc, e1, e2], by omega, fun hne => absurd (List.eq_nil_of_length_eq_zero e2) hne⟩
    · refine ⟨some ⟨b, 0, none⟩, cap, by rw [hc, e1], e3, fun _ => ⟨b, rfl, fun j hj => ?_⟩⟩
      rw [e1] at ho
      obtain ⟨l1, l2⟩ := links_at (g := g) (D := D) (rb := rb) hj
      exact ⟨(ho.cellAt _ (by omega)).trans l1, (ho.cellAt _ (by omega)).trans l2⟩

end Go.Proofs.Qxb6619715a
