/-
  THE WALK of slices.Reverse over a slice of pointers of the caller's own.
-/
import Derived.Test.Qxb6619715aQueue
import Derived.Deep.LoopGhost
import Derived.BigRegion
import Derived.Deep.DeepCutAuto
namespace Go.Proofs.Qxb6619715a
open Go.RowKit

/-- At most block q has turned, from cell off on. -/
structure One (q off : Nat) (w w' : World) : Prop where
  os : w'.os = w.os
  tape : w'.tape = w.tape
  output : w'.output = w.output
  size : w'.heap.size = w.heap.size
  block : ∀ k, k ≠ q → w'.heap[k]? = w.heap[k]?
  low : ∀ o, o < off → w'.cell? ⟨q, o, none⟩ = w.cell? ⟨q, o, none⟩
theorem One.refl (q off : Nat) (w : World) : One q off w w := ⟨rfl, rfl, rfl, rfl, fun _ _ => rfl, fun _ _ => rfl⟩
theorem One.trans {q off : Nat} {a b c : World} (h : One q off a b) (k : One q off b c) : One q off a c := ⟨k.os.trans h.os, k.tape.trans h.tape, k.output.trans h.output, k.size.trans h.size, fun i hi => (k.block i hi).trans (h.block i hi), fun o ho => (k.low o ho).trans (h.low o ho)⟩
theorem One.drew {q off : Nat} {a b : World} (h : One q off a b) : One q off a b.drew := ⟨h.os, h.tape, h.output, h.size, h.block, h.low⟩
theorem One.setCell {q off : Nat} {a b : World} (h : One q off a b) (o : Nat) (v : Value) : One q off a (b.setCell ⟨q, off + o, none⟩ v) :=
  h.trans ⟨rfl, rfl, rfl, by simp, fun k hk => Below.heap_setCell _ _ _ _ hk, fun p hp => World.cell?_setCell_other _ _ _ _ (by intro e; injection e with _ e _; omega)⟩
theorem One.below {q off B : Nat} {a b : World} (h : One q off a b) (hB : B ≤ q) : Below B a b := ⟨h.os, h.tape, h.output, by rw [h.size]; exact Nat.le_refl _, fun k hk => h.block k (by omega)⟩

/-- The cells of a row of pointers. -/
def RowP (w : World) (q off len : Nat) (f : Nat → Option Addr) : Prop := ∀ p, p < len → w.cell? ⟨q, off + p, none⟩ = some (.pointer (f p)) ∧ w.frozen? ⟨q, off + p, none⟩ = false

theorem RowP.drew {w : World} {q off len : Nat} {f : Nat → Option Addr} (h : RowP w q off len f) : RowP w.drew q off len f := h

/-- i pairs exchanged. -/
def revd (len i : Nat) (f : Nat → Option Addr) : Nat → Option Addr := fun p => if p < i ∨ len ≤ p + i then f (len - 1 - p) else f p

theorem RowP.swap {w : World} {q off len i : Nat} {f : Nat → Option Addr} (h : RowP w q off len (revd len i f)) (hi : i + 1 < len - i) (w' : World)
    (hw : w' = (w.setCell ⟨q, off + i, none⟩ (.pointer (f (len - 1 - i)))).setCell ⟨q, off + (len - 1 - i), none⟩ (.pointer (f i)) ∨ w' = (w.setCell ⟨q, off + (len - 1 - i), none⟩ (.pointer (f i))).setCell ⟨q, off + i, none⟩ (.pointer (f (len - 1 - i)))) :
    RowP w' q off len (revd len (i + 1) f) := by
  have key : ∀ p, p < len → w'.cell? ⟨q, off + p, none⟩ = some (.pointer (if p = i then f (len - 1 - i) else if p = len - 1 - i then f i else revd len i f p)) := by
    intro p hp
    obtain ⟨c1, _⟩ := h p hp
    obtain ⟨ci, _⟩ := h i (by omega)
    obtain ⟨cj, _⟩ := h (len - 1 - i) (by omega)
    have ne1 : ∀ {a b : Nat}, a ≠ b → (⟨q, off + a, none⟩ : Addr) ≠ ⟨q, off + b, none⟩ := fun hab e => by injection e with _ e _; omega
    rcases hw with rfl | rfl
    · by_cases e1 : p = i
      · subst e1
        rw [if_pos rfl, World.cell?_setCell_other _ _ _ _ (ne1 (by omega)), World.cell?_setCell_same _ _ _ ci]
      · rw [if_neg e1]
        by_cases e2 : p = len - 1 - i
        · rw [if_pos e2, e2, World.cell?_setCell_same (u := .pointer (revd len i f (len - 1 - i))) _ _ _ (by rw [World.cell?_setCell_other _ _ _ _ (ne1 (by omega))]; exact cj)]
        · rw [if_neg e2, World.cell?_setCell_other _ _ _ _ (ne1 (by omega)), World.cell?_setCell_other _ _ _ _ (ne1 (by omega))]
          exact c1
    · by_cases e1 : p = i
      · rw [if_pos e1, e1, World.cell?_setCell_same (u := .pointer (revd len i f i)) _ _ _ (by rw [World.cell?_setCell_other _ _ _ _ (ne1 (by omega))]; exact ci)]
      · rw [if_neg e1, World.cell?_setCell_other _ _ _ _ (ne1 (by omega))]
        by_cases e2 : p = len - 1 - i
        · rw [if_pos e2, e2, World.cell?_setCell_same _ _ _ cj]
        · rw [if_neg e2, World.cell?_setCell_other _ _ _ _ (ne1 (by omega))]
          exact c1
  intro p hp
  refine ⟨?_, ?_⟩
  · rw [key p hp]
    congr 2
    unfold revd
    by_cases e1 : p = i
    · subst e1
      rw [if_pos rfl, if_pos (by omega)]
    · rw [if_neg e1]
      by_cases e2 : p = len - 1 - i
      · rw [if_pos e2, if_pos (by omega), e2]
        congr 1
        omega
      · rw [if_neg e2]
        by_cases e3 : p < i ∨ len ≤ p + i
        · rw [if_pos e3, if_pos (by omega)]
        · rw [if_neg e3, if_neg (by omega)]
  · rcases hw with rfl | rfl <;> rw [World.frozen?_setCell, World.frozen?_setCell] <;> exact (h p hp).2

set_option maxHeartbeats 2000000 in
theorem reverse_any (q off len cap : Nat) (hlen : len ≤ 100000) (f : Nat → Option Addr) (w : World) (h : RowP w q off len f) :
    Calls Try.prog 23 #[.slice (some ⟨q, off, none⟩) len cap] w fun e w' => e = .returned (.tuple #[]) ∧ RowP w' q off len (fun p => f (len - 1 - p)) ∧ One q off w w' := by
  have h0 : Hid (RowP w q off len (revd len 0 f)) := fun p hp => by
    have := h p hp
    unfold revd
    rw [if_neg (by omega)]
    exact this
  clear h
  go_enter Try.func23, Try.ntmps23
  go_wp2
  go_loopw [2, 3] (fun v2 v3 wr => ∃ i : Nat, 2 * i ≤ len + 1 ∧ v2 = .int .i64 i ∧ v3 = .int .i64 ((len : Int) - 1 - i) ∧ Hid (RowP wr q off len (revd len i f)) ∧ One q off w wr) (fun v2 _ _ => len + 1 - (intOf v2).toNat)
  case atStart => exact ⟨0, by omega, rfl, by simp, h0, One.refl _ _ _⟩
  case round =>
    clear h0
    obtain ⟨i, hi, rfl, rfl, hrow, hone⟩ := hrel
    by_cases hlt : i + 1 < len - i
    · obtain ⟨c1, f1⟩ := hrow.out i (by omega)
      obtain ⟨c2, f2⟩ := hrow.out (len - 1 - i) (by omega)
      have e1 : revd len i f i = f i := by unfold revd; rw [if_neg (by omega)]
      have e2 : revd len i f (len - 1 - i) = f (len - 1 - i) := by unfold revd; rw [if_neg (by omega)]
      rw [e1] at c1
      rw [e2] at c2
      obtain ⟨j, hj⟩ : ∃ j : Nat, len - 1 - i = j := ⟨_, rfl⟩
      have hjI : ((len : Int) - 1 - i) = (j : Int) := by omega
      rw [hj] at c2 f2
      have hij : i < j := by omega
      have hjl : j < len := by omega
      clear e1 e2
      rw [hjI]
      have HJ : Hid (len - 1 - i = j) := hj
      clear hj hjI
      have k1 : ∀ v, (wr.setCell ⟨q, off + i, none⟩ v).cell? ⟨q, off + j, none⟩ = some (.pointer (f j)) := fun v => by
        rw [World.cell?_setCell_other _ _ _ _ (by intro e; injection e with _ e _; omega)]
        rw [← HJ.out]
        rw [← HJ.out] at c2
        exact c2
      have k2 : ∀ v, (wr.setCell ⟨q, off + j, none⟩ v).cell? ⟨q, off + i, none⟩ = some (.pointer (f i)) := fun v => by
        rw [World.cell?_setCell_other _ _ _ _ (by intro e; injection e with _ e _; omega)]
        exact c1
      have c2' : wr.cell? ⟨q, off + j, none⟩ = some (.pointer (f j)) := by
        rw [← HJ.out]
        rw [← HJ.out] at c2
        exact c2
      clear c2
      go_wp2
      go_region
      all_goals
        go_wp2
        go_roundw
        case rel =>
          refine ⟨i + 1, by omega, by go_num, by congr 1; have := HJ.out; omega, ?_, ((hone.setCell _ _).setCell _ _).drew⟩
          have hs := hrow.out.swap hlt
          rw [HJ.out] at hs
          first | exact RowP.drew (hs _ (.inl rfl)) | exact RowP.drew (hs _ (.inr rfl))
        case measure => simp [intOf]; omega
    · have hd : ¬ ((i : Int) < (len : Int) - 1 - i) := by omega
      go_wp2
      go_end0
      refine ⟨rfl, fun p hp => ?_, hone⟩
      have := hrow.out p hp
      refine ⟨this.1.trans ?_, this.2⟩
      congr 2
      unfold revd
      by_cases e : p < i ∨ len ≤ p + i
      · rw [if_pos e]
      · rw [if_neg e]
        congr 1
        omega
end Go.Proofs.Qxb6619715a
