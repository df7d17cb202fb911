/-
  A SLICE OF THE CALL's OWN WHOSE HEAD HAS MOVED ON ('walk = walk[1:]'): told by its cells; append of one element.
-/
import Derived.Test.Qxb6619715aSmall
import Derived.Deep.AppendSrc
import Derived.OwnWalk
namespace Go.Proofs.Qxb6619715a
open Go.RowKit

def OwnS (w : World) (B : Nat) (v : Value) (xs : List Value) : Prop :=
  ∃ q off cap, v = .slice (some ⟨q, off, none⟩) xs.length cap ∧ B ≤ q ∧ q < w.heap.size ∧ xs.length ≤ cap ∧ cap ≤ maxLen ∧ (∀ i, i < xs.length → w.cell? ⟨q, off + i, none⟩ = xs[i]?) ∧
    ∀ i, i < cap → (w.cell? ⟨q, off + i, none⟩).isSome = true ∧ w.frozen? ⟨q, off + i, none⟩ = false

theorem OwnS.of_block {w w' : World} {B : Nat} {v : Value} {xs : List Value} (h : OwnS w B v xs) (hb : ∀ k, v.ownBlock = some k → w'.heap[k]? = w.heap[k]?) (hs : w.heap.size ≤ w'.heap.size) : OwnS w' B v xs := by
  obtain ⟨q, off, cap, rfl, h1, h2, h3, h4, h5, h6⟩ := h
  have e := hb q rfl
  refine ⟨q, off, cap, rfl, h1, by omega, h3, h4, fun i hi => ?_, fun i hi => ?_⟩
  · rw [World.cell?_of_block (w := w) (a := ⟨q, off + i, none⟩) e]; exact h5 i hi
  · rw [World.cell?_of_block (w := w) (a := ⟨q, off + i, none⟩) e, World.frozen?_of_block (w := w) (a := ⟨q, off + i, none⟩) e]; exact h6 i hi

theorem OwnS.drewN {w : World} {B : Nat} {v : Value} {xs : List Value} (h : OwnS w B v xs) (q : Nat) : OwnS (w.drewN q) B v xs := h
theorem OwnS.alloc {w : World} {B : Nat} {v : Value} {xs : List Value} (h : OwnS w B v xs) (o : Obj) : OwnS (w.alloc o) B v xs := by
  obtain ⟨q, off, cap, rfl, h1, h2, h3, h4, h5, h6⟩ := h
  exact OwnS.of_block ⟨q, off, cap, rfl, h1, h2, h3, h4, h5, h6⟩ (fun k hk => by cases hk; exact Below.heap_alloc _ _ _ h2) (by simp)
theorem OwnS.own {w : World} {B : Nat} {v : Value} {xs : List Value} (h : OwnS w B v xs) : ∃ k, v.ownBlock = some k ∧ B ≤ k ∧ k < w.heap.size := by
  obtain ⟨q, off, cap, rfl, h1, h2, _⟩ := h
  exact ⟨q, rfl, h1, h2⟩

/-- A slice literal of one element. -/
theorem OwnS.lit (w : World) (B : Nat) (x : Value) (t : TypeId) (hB : B ≤ w.heap.size) : OwnS (w.alloc (.cells #[x] t)) B (.slice (some ⟨w.heap.size, 0, none⟩) 1 1) [x] := by
  refine ⟨w.heap.size, 0, 1, rfl, hB, by simp, by simp, by unfold maxLen; omega, fun i hi => ?_, fun i hi => ?_⟩
  · obtain rfl : i = 0 := by simpa using hi
    rw [World.cell?_alloc_new]; rfl
  · obtain rfl : i = 0 := by omega
    rw [World.cell?_alloc_new, frozen?_alloc_cells]
    exact ⟨rfl, by simp [World.frozen?]⟩

/-- The head moves on. -/
theorem OwnS.tail {w : World} {B q off cap : Nat} {x : Value} {xs : List Value} (h : OwnS w B (.slice (some ⟨q, off, none⟩) (xs.length + 1) cap) (x :: xs)) (h1 : 1 < cap) : OwnS w B (.slice (some ⟨q, off + 1, none⟩) xs.length (cap - 1)) xs := by
  obtain ⟨q', off', cap', he, g1, g2, g3, g4, g5, g6⟩ := h
  cases he
  refine ⟨q, off + 1, cap - 1, rfl, g1, g2, by simp at g3; omega, by omega, fun i hi => ?_, fun i hi => ?_⟩
  · have := g5 (i + 1) (by simpa using hi)
    rw [show off + 1 + i = off + (i + 1) by omega, this]
    rfl
  · have := g6 (i + 1) (by omega)
    rw [show off + 1 + i = off + (i + 1) by omega]
    exact this

theorem add_plain (g o j : Nat) : (⟨g, o, none⟩ : Addr).add j = ⟨g, o + j, none⟩ := by unfold Addr.add; split <;> simp_all

theorem run_append_ownS {P : Program} (w : World) (B : Nat) (t ty e : TypeId) (i : TypeInfo) (z : Value) (ht : P.underlying t = some (.slice e)) (hi : P.info? e = some i) (hz : i.zero = some z) (hs1 : i.size = 1) (hby : i.bytes = 8) (hzs : z.cells.size = 1)
    (v : Value) (xs : List Value) (hown : OwnS w B v xs) (a : Addr) (c : Nat) (x : Value) (hx : w.cell? a = some x) (h1 : x.oneCell' = true) (hlen : (xs.length + 1) * 8 ≤ 140737488355328) (hB : B ≤ w.heap.size) :
    ∃ v' w', (Builtin.append_ #[t, t] ty #[v, .slice (some a) 1 c]).run P w = .ok v' w' ∧ OwnS w' B v' (xs ++ [x]) ∧ w.grownBy w' v.ownBlock := by
  obtain ⟨q, off, cap, rfl, g1, g2, g3, g4, g5, g6⟩ := hown
  have hsrc : Src P i.size t (.slice (some a) 1 c) 1 [x] w := Src.ofSlice w ht a 1 c [x] (by simp [hs1]) (fun j u hj => by
    match j, hj with
    | 0, hj => simp at hj; subst hj; rw [show a.add 0 = a by unfold Addr.add; split <;> simp_all]; exact hx) (fun u hu => by simp at hu; subst hu; exact h1)
  by_cases hroom : xs.length + 1 ≤ cap
  · have hr := run_append_room_src (P := P) w t t ty e i ht hi q off xs.length cap _ 1 [x] hsrc hroom (fun j hj => by
      obtain rfl : j = 0 := by simpa using hj
      have := (g6 xs.length (by omega)).1
      simpa [hs1] using this) (fun j hj => by
      obtain rfl : j = 0 := by simpa using hj
      have := (g6 xs.length (by omega)).2
      simpa [hs1] using this)
    have e1 : w.setCells q (off + xs.length * i.size) [x] = w.setCell ⟨q, off + xs.length, none⟩ x := by simp [World.setCells, hs1]
    rw [e1] at hr
    refine ⟨_, _, hr, ⟨q, off, cap, by simp, g1, by simpa using g2, by simpa using hroom, g4, fun k hk => ?_, fun k hk => ?_⟩, ⟨rfl, rfl, rfl, by simp, fun k _ hk => Below.heap_setCell _ _ _ _ (fun e => hk (by simp [Value.ownBlock, e]))⟩⟩
    · rcases Nat.lt_or_ge k xs.length with h' | h'
      · rw [World.cell?_setCell_other _ _ _ _ (by intro e; injection e with _ e _; omega), g5 k h', List.getElem?_append_left h']
      · obtain rfl : k = xs.length := by simp at hk; omega
        obtain ⟨u, hu⟩ := Option.isSome_iff_exists.1 (g6 xs.length (by omega)).1
        rw [World.cell?_setCell_same _ _ _ hu]
        simp
    · rw [World.frozen?_setCell]
      refine ⟨?_, (g6 k hk).2⟩
      by_cases e : k = xs.length
      · subst e
        obtain ⟨u, hu⟩ := Option.isSome_iff_exists.1 (g6 xs.length hk).1
        rw [World.cell?_setCell_same _ _ _ hu]; rfl
      · rw [World.cell?_setCell_other _ _ _ _ (by intro e'; injection e' with _ e' _; omega)]
        exact (g6 k hk).1
  · have hold : (Builtin.firstCells i.size xs.length (.slice (some ⟨q, off, none⟩) xs.length cap)).run P w.drew = .ok xs.toArray w.drew := by
      refine run_firstCells_some w.drew i.size xs.length ⟨q, off, none⟩ xs.length cap xs (by simp [hs1]) (fun j u hj => ?_)
      have hjl := (List.getElem?_eq_some_iff.1 hj).1
      rw [add_plain]
      show w.cell? _ = _
      rw [g5 j hjl]
      exact hj
    have hge := grownCap_ge w (xs.length + 1) cap e
    have hcm : grownCap w (xs.length + 1) cap e ≤ maxLen := grownCap_le_maxLen w (xs.length + 1) cap e (by unfold maxLen; omega)
    have hr := run_append_grow_src (P := P) w t t ty e i z ht hi hz (some ⟨q, off, none⟩) xs.length cap xs hold _ 1 [x] hsrc (by omega) (by omega) (growslice_fits (by omega) (by rw [hby]; exact hlen))
    refine ⟨_, _, hr, ⟨w.heap.size, 0, grownCap w (xs.length + 1) cap e, by simp, hB, by simp, by simpa using hge, hcm, fun k hk => ?_, fun k hk => ?_⟩, ⟨rfl, rfl, rfl, by simp, fun k hk _ => Below.heap_alloc _ _ _ hk⟩⟩
    · show (w.drew.alloc _).cell? ⟨w.drew.heap.size, 0 + k, none⟩ = _
      rw [World.cell?_alloc_new, Nat.zero_add, Array.getElem?_append_left (by simpa using hk)]
      simp
    · show ((w.drew.alloc _).cell? ⟨w.drew.heap.size, 0 + k, none⟩).isSome = true ∧ (w.drew.alloc _).frozen? ⟨w.drew.heap.size, 0 + k, none⟩ = false
      rw [World.cell?_alloc_new, frozen?_alloc_cells, Nat.zero_add]
      refine ⟨?_, by simp [World.frozen?]⟩
      rw [Array.getElem?_eq_getElem (by simp [size_zeroCells, hzs]; omega)]
      rfl

theorem wpList_append_ownS {P : Program} {w : World} {ops : Array Oper} {rest : List Oper} {o : Oper} {a : Act} {Q : Exit → Act → World → Prop} (hgd : o.guard = none) (s x : Operand) (t : TypeId)
    (ho : o.op = .call { callee := .builtin .append, args := #[s, x], argTypes := #[t, t] })
    (B : Nat) (e : TypeId) (i : TypeInfo) (z : Value) (ht : P.underlying t = some (.slice e)) (hi : P.info? e = some i) (hz : i.zero = some z) (hs1 : i.size = 1) (hby : i.bytes = 8) (hzs : z.cells.size = 1)
    (v : Value) (xs : List Value) (hs : a.eval s = v) (hown : OwnS w B v xs) (ad : Addr) (c : Nat) (y : Value) (hx : a.eval x = .slice (some ad) 1 c) (hy : w.cell? ad = some y) (h1 : y.oneCell' = true) (hlen : (xs.length + 1) * 8 ≤ 140737488355328) (hB : B ≤ w.heap.size)
    (h : ∀ v' w', OwnS w' B v' (xs ++ [y]) → w.grownBy w' v.ownBlock → wpList P ops Q rest (a.put o.dst v') w') : wpList P ops Q (o :: rest) a w := by
  refine wpList_plain hgd fun K hK => ?_
  obtain ⟨v', w', hr, h2, h3⟩ := run_append_ownS (P := P) w B t o.type e i z ht hi hz hs1 hby hzs v xs hown ad c y hy h1 hlen hB
  unfold Oper.wp execOp
  simp only [ho, resolve, invoke, builtin, Sem.run_bind, Sem.run_pure, Result.andThen_ok, List.map_toArray, List.map_cons, List.map_nil, hs, hx, hr]
  exact hK _ _ (h v' w' h2 h3)

end Go.Proofs.Qxb6619715a
