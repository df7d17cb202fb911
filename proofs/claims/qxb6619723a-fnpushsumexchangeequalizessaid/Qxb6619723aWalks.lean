/-
  THE WALKS: sameF, zeroMsg, Halve, Add, Receive.
-/
import Derived.Test.Qxb6619723aRows
import Derived.Test.Qxb6619723aPlain
import Derived.WalkKit
import Derived.WalkLawsBesides
import Derived.WalkSpells
import Derived.RowKit3
import Derived.Deep.RegionWith
import Derived.BigRegion
import Derived.Deep.DeepCutAuto
namespace Go.Proofs.Qxb6619723a
open Go.RowKit

/-- What an operation hands back in the world w: the rounded result, or the tape's NaN. -/
def resAt (op : BinOp) (x y : Nat) (w : World) : Nat := match floatBits op .f64 x y with
  | some r => r
  | none => nanAt w x y
/-- How often it asks the tape. -/
def numAt (op : BinOp) (x y : Nat) : Nat := match floatBits op .f64 x y with
  | some _ => 0
  | none => 1
theorem res_resAt (op : BinOp) (x y : Nat) (w : World) : Res op x y (resAt op x y w) := by
  unfold resAt Res
  cases h : floatBits op .f64 x y with
  | some r => exact .inl rfl
  | none => exact .inr ⟨rfl, nan_nanAt w x y⟩
theorem run_add (x y : Nat) (w : World) : (binOp .add 27 (.float .f64 x) (.float .f64 y)).run Try.prog w = .ok (.float .f64 (resAt .add x y w)) (w.drewN (numAt .add x y)) := by
  unfold resAt numAt
  cases h : floatBits .add .f64 x y with
  | some r => exact run_float_arith w .add 27 .f64 x y r h
  | none =>
    simp only [floatBits] at h
    simp only [binOp, Op.floatArith, h]
    rfl
theorem run_quo (x y : Nat) (w : World) : (binOp .quo 27 (.float .f64 x) (.float .f64 y)).run Try.prog w = .ok (.float .f64 (resAt .quo x y w)) (w.drewN (numAt .quo x y)) := by
  unfold resAt numAt
  cases h : floatBits .quo .f64 x y with
  | some r => exact run_float_arith w .quo 27 .f64 x y r h
  | none =>
    simp only [floatBits] at h
    simp only [binOp, Op.floatArith, h]
    rfl
theorem setCell_drewN (w : World) (n : Nat) (a : Addr) (v : Value) : (w.drewN n).setCell a v = (w.setCell a v).drewN n := rfl
theorem alloc_drewN (w : World) (n : Nat) (o : Obj) : (w.drewN n).alloc o = (w.alloc o).drewN n := rfl
attribute [local go_sem] run_add run_quo setCell_drewN alloc_drewN

/-- A store of a float: the kit has this law for integers, bools, pointers, slices and strings. -/
theorem run_store_float (P : Program) (w : World) (a : Addr) (m : Mode) (k : FloatKind) (x : Nat) : (store a (.float k x) m).run P w = stored P w a (.float k x) m := run_store P w a _ m rfl
attribute [local go_sem] run_store_float

/-- At most block b, and new blocks, have turned; no mark has. -/
structure Turn (b : Nat) (w w' : World) : Prop where
  os : w'.os = w.os
  tape : w'.tape = w.tape
  output : w'.output = w.output
  size : w.heap.size ≤ w'.heap.size
  block : ∀ k, k < w.heap.size → k ≠ b → w'.heap[k]? = w.heap[k]?
  mark : ∀ a : Addr, a.block < w.heap.size → w'.frozen? a = w.frozen? a

theorem Turn.refl (b : Nat) (w : World) : Turn b w w := ⟨rfl, rfl, rfl, Nat.le_refl _, fun _ _ _ => rfl, fun _ _ => rfl⟩
theorem Turn.drewN {b : Nat} {w w' : World} (h : Turn b w w') (n : Nat) : Turn b w (w'.drewN n) := ⟨h.os, h.tape, h.output, h.size, h.block, h.mark⟩
theorem Turn.drew {b : Nat} {w w' : World} (h : Turn b w w') : Turn b w w'.drew := ⟨h.os, h.tape, h.output, h.size, h.block, h.mark⟩
theorem Turn.alloc {b : Nat} {w w' : World} (h : Turn b w w') (o : Obj) : Turn b w (w'.alloc o) :=
  ⟨h.os, h.tape, h.output, by have := h.size; simp; omega, fun k hk hb => by have := h.size; rw [Below.heap_alloc _ _ _ (by omega)]; exact h.block k hk hb,
    fun a ha => by have := h.size; rw [World.frozen?_alloc_old _ _ _ (by omega)]; exact h.mark a ha⟩
theorem Turn.setCell {b : Nat} {w w' : World} (h : Turn b w w') (o : Nat) (x : Option Nat) (v : Value) : Turn b w (w'.setCell ⟨b, o, x⟩ v) :=
  ⟨h.os, h.tape, h.output, by have := h.size; simpa using this, fun k hk hb => by rw [Below.heap_setCell _ _ _ _ hb]; exact h.block k hk hb,
    fun a ha => by rw [World.frozen?_setCell]; exact h.mark a ha⟩

/-- The last of four stores. -/
theorem cell_last (w : World) (a b : Addr) (v1 v2 v3 v4 : Value) (hb : (w.cell? b).isSome = true) (hab : a ≠ b) : ((((w.setCell a v1).setCell b v2).setCell a v3).setCell b v4).cell? b = some v4 := by
  obtain ⟨u, hu⟩ := Option.isSome_iff_exists.1 hb
  have e1 : (w.setCell a v1).cell? b = some u := by rw [World.cell?_setCell_other _ _ _ _ hab]; exact hu
  have e2 : ((w.setCell a v1).setCell b v2).cell? b = some v2 := World.cell?_setCell_same _ _ _ e1
  have e3 : (((w.setCell a v1).setCell b v2).setCell a v3).cell? b = some v2 := by rw [World.cell?_setCell_other _ _ _ _ hab]; exact e2
  exact World.cell?_setCell_same _ _ _ e3

theorem same_any (a b : Nat) (w : World) : Calls Try.prog 10 #[.float .f64 a, .float .f64 b] w fun e w' => e = .returned (.bool (sameB a b)) ∧ w' = w := by
  go_enter Try.func10, Try.ntmps10
  go_wp2
  all_goals (go_ret; exact ⟨by simp_all [sameB], rfl⟩)

theorem zero_any (w : World) : Calls Try.prog 18 #[.agg #[.int .i64 0, .int .i64 0, .int .i64 0, .float .f64 0, .float .f64 0]] w fun e w' => e = .returned (.bool true) ∧ ∃ c, w' = w.alloc (.cells c 57) := by
  have h0 : FloatKind.f64.format.order 0 0 = some .eq := by decide
  go_enter Try.func18, Try.ntmps18
  go_wp2
  all_goals (go_ret; exact ⟨rfl, _, rfl⟩)


set_option maxHeartbeats 1000000 in
/-- Pair.Halve. -/
theorem halve_any (b off x y : Nat) (w : World) (h0 : w.cell? ⟨b, off, none⟩ = some (.float .f64 x)) (h1 : w.cell? ⟨b, off + 1, none⟩ = some (.float .f64 y))
    (f0 : w.frozen? ⟨b, off, none⟩ = false) (f1 : w.frozen? ⟨b, off + 1, none⟩ = false) (hb : b < w.heap.size) :
    Calls Try.prog 16 #[.pointer (some ⟨b, off, none⟩)] w fun e w' => ∃ x' y', Res .quo x two x' ∧ Res .quo y two y' ∧ e = .returned (.agg #[.float .f64 x', .float .f64 y']) ∧
      ∃ c n, w' = (((w.setCell ⟨b, off, none⟩ (.float .f64 x')).setCell ⟨b, off + 1, none⟩ (.float .f64 y')).alloc (.cells c 37)).drewN n := by
  go_enter Try.func16, Try.ntmps16
  go_wp2
  exact bodyPost_ret (v := .agg #[.float .f64 _, .float .f64 _]) (by simp [results, Try.results16, go_sem, two]) rfl ⟨_, _, res_resAt _ _ _ _, res_resAt _ _ _ _, rfl, _, _, rfl⟩

set_option maxHeartbeats 1000000 in
/-- Pair.Add. -/
theorem add_any (b off x y p q : Nat) (w : World) (h0 : w.cell? ⟨b, off, none⟩ = some (.float .f64 x)) (h1 : w.cell? ⟨b, off + 1, none⟩ = some (.float .f64 y))
    (f0 : w.frozen? ⟨b, off, none⟩ = false) (f1 : w.frozen? ⟨b, off + 1, none⟩ = false) (hb : b < w.heap.size) :
    Calls Try.prog 21 #[.pointer (some ⟨b, off, none⟩), .agg #[.float .f64 p, .float .f64 q]] w fun e w' => ∃ x' y', Res .add x p x' ∧ Res .add y q y' ∧ e = .returned (.tuple #[]) ∧
      ∃ c n, w' = (((w.setCell ⟨b, off, none⟩ (.float .f64 x')).setCell ⟨b, off + 1, none⟩ (.float .f64 y')).alloc (.cells c 37)).drewN n := by
  go_enter Try.func21, Try.ntmps21
  go_wp2
  go_region
  all_goals (go_wp2; go_region)
  all_goals go_end0
  all_goals exact ⟨_, _, res_resAt _ _ _ _, res_resAt _ _ _ _, rfl, _, _, rfl⟩

set_option maxHeartbeats 2000000 in
/-- PushSum.Receive of a PUSH. -/
theorem receive_push (b off x y p q : Nat) (id fr to_ : Int) (w : World) (hi : w.cell? ⟨b, off, none⟩ = some (.int .i64 id)) (h0 : w.cell? ⟨b, off + 1, none⟩ = some (.float .f64 x)) (h1 : w.cell? ⟨b, off + 1 + 1, none⟩ = some (.float .f64 y))
    (f0 : w.frozen? ⟨b, off + 1, none⟩ = false) (f1 : w.frozen? ⟨b, off + 1 + 1, none⟩ = false) (hb : b < w.heap.size) :
    Calls Try.prog 17 #[.pointer (some ⟨b, off, none⟩), .agg #[.int .i64 0, .int .i64 fr, .int .i64 to_, .float .f64 p, .float .f64 q]] w fun e w' => ∃ x1 y1 x' y',
      Res .quo x two x1 ∧ Res .quo y two y1 ∧ Res .add x1 p x' ∧ Res .add y1 q y' ∧ e = .returned (.tuple #[.agg #[.int .i64 1, .int .i64 id, .int .i64 fr, .float .f64 x1, .float .f64 y1], .bool true]) ∧ Turn b w w' ∧
      w'.cell? ⟨b, off, none⟩ = some (.int .i64 id) ∧ w'.cell? ⟨b, off + 1, none⟩ = some (.float .f64 x') ∧ w'.cell? ⟨b, off + 1 + 1, none⟩ = some (.float .f64 y') := by
  have b1 : b < w.heap.size + 1 := by omega
  have b2 : b < w.heap.size + 1 + 1 := by omega
  have b3 : b < w.heap.size + 1 + 1 + 1 := by omega
  have b4 : b < w.heap.size + 1 + 1 + 1 + 1 := by omega
  have b5 : b < w.heap.size + 1 + 1 + 1 + 1 + 1 := by omega
  go_enter Try.func17, Try.ntmps17
  go_wp2
  go_cut [] (fun wx => ∃ x1 y1 c n, Res .quo x two x1 ∧ Res .quo y two y1 ∧ wx = ((((((w.setCell ⟨b, off + 1, none⟩ (.float .f64 x1)).setCell ⟨b, off + 1 + 1, none⟩ (.float .f64 y1)).alloc
      (.cells #[.int .i64 0, .int .i64 fr, .int .i64 to_, .float .f64 p, .float .f64 q] 57)).alloc (.cells #[.int .i64 0, .int .i64 0, .int .i64 0, .float .f64 0, .float .f64 0] 57)).alloc
      (.cells #[.int .i64 1, .int .i64 id, .int .i64 fr, .float .f64 x1, .float .f64 y1] 57)).alloc (.cells c 37)).drewN n)
  case first =>
    go_region_with (go_at_call 16; refine Calls.mono (halve_any b (off + 1) x y _ (by go_simp) (by go_simp) (by go_simp) (by go_simp) (by go_simp)) ?_; rintro e w' ⟨x1, y1, r1, r2, rfl, c, n, rfl⟩)
    all_goals (go_wp2_with fail; go_meet; exact ⟨x1, y1, c, _, r1, r2, rfl⟩)
  case rest =>
    obtain ⟨x1, y1, c, n, r1, r2, rfl⟩ := hcut
    go_wp2
    go_region_with (go_at_call 21; refine Calls.mono (add_any b (off + 1) x1 y1 p q _ (by go_simp) (by go_simp) (by go_simp) (by go_simp) (by go_simp)) ?_; rintro e w' ⟨x2, y2, r3, r4, rfl, c', n', rfl⟩)
    go_wp2
    refine bodyPost_ret (v := .tuple #[.agg #[.int .i64 1, .int .i64 id, .int .i64 fr, .float .f64 x1, .float .f64 y1], .bool true]) (by simp [results, Try.results17, go_sem]) rfl ⟨x1, y1, x2, y2, r1, r2, r3, r4, rfl, ?_, by go_simp, by go_simp, ?_⟩
    · exact (((((((((((Turn.refl b w).setCell _ _ _).setCell _ _ _).setCell _ _ _).setCell _ _ _).alloc _).alloc _).alloc _).alloc _).alloc _).drewN _)
    · go_simp
      exact cell_last w _ _ _ _ _ _ (by simp [h1]) (by simp)

set_option maxHeartbeats 2000000 in
/-- PushSum.Receive of a PULL. -/
theorem receive_pull (b off x y p q : Nat) (id fr to_ : Int) (w : World) (hi : w.cell? ⟨b, off, none⟩ = some (.int .i64 id)) (h0 : w.cell? ⟨b, off + 1, none⟩ = some (.float .f64 x)) (h1 : w.cell? ⟨b, off + 1 + 1, none⟩ = some (.float .f64 y))
    (f0 : w.frozen? ⟨b, off + 1, none⟩ = false) (f1 : w.frozen? ⟨b, off + 1 + 1, none⟩ = false) (hb : b < w.heap.size) :
    Calls Try.prog 17 #[.pointer (some ⟨b, off, none⟩), .agg #[.int .i64 1, .int .i64 fr, .int .i64 to_, .float .f64 p, .float .f64 q]] w fun e w' => ∃ x' y',
      Res .add x p x' ∧ Res .add y q y' ∧ e = .returned (.tuple #[.agg #[.int .i64 0, .int .i64 0, .int .i64 0, .float .f64 0, .float .f64 0], .bool false]) ∧ Turn b w w' ∧
      w'.cell? ⟨b, off, none⟩ = some (.int .i64 id) ∧ w'.cell? ⟨b, off + 1, none⟩ = some (.float .f64 x') ∧ w'.cell? ⟨b, off + 1 + 1, none⟩ = some (.float .f64 y') := by
  have b1 : b < w.heap.size + 1 := by omega
  have b2 : b < w.heap.size + 1 + 1 := by omega
  have b3 : b < w.heap.size + 1 + 1 + 1 := by omega
  have b4 : b < w.heap.size + 1 + 1 + 1 + 1 := by omega
  go_enter Try.func17, Try.ntmps17
  go_wp2
  go_region_with (go_at_call 21; refine Calls.mono (add_any b (off + 1) x y p q _ (by go_simp) (by go_simp) (by go_simp) (by go_simp) (by go_simp)) ?_; rintro e w' ⟨x2, y2, r3, r4, rfl, c', n', rfl⟩)
  all_goals
    go_wp2
    refine bodyPost_ret (v := .tuple #[.agg #[.int .i64 0, .int .i64 0, .int .i64 0, .float .f64 0, .float .f64 0], .bool false]) (by simp [results, Try.results17, go_sem]) rfl ⟨x2, y2, r3, r4, rfl, ?_, by go_simp, by go_simp, by go_simp⟩
    exact (((((((Turn.refl b w).setCell _ _ _).setCell _ _ _).alloc _).alloc _).alloc _).alloc _).drewN _

end Go.Proofs.Qxb6619723a
