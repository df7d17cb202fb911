/-
  THE LAW's OWN WALK.
-/
import Derived.Test.Qxb6619723aWalks
namespace Go.Proofs.Qxb6619723a
open Go.RowKit
attribute [local go_sem] run_store_float run_add run_quo setCell_drewN alloc_drewN

theorem Turn.cell {b : Nat} {w w' : World} (h : Turn b w w') {a : Addr} (ha : a.block < w.heap.size) (hb : a.block ≠ b) : w'.cell? a = w.cell? a := World.cell?_of_block (w := w) (h.block a.block ha hb)
theorem Turn.below {b B : Nat} {w w' : World} (h : Turn b w w') (hB : B ≤ w.heap.size) (hb : B ≤ b) : Below B w w' :=
  ⟨h.os, h.tape, h.output, h.size, fun k hk => h.block k (by omega) (by omega)⟩

/-- What is known behind b's receipt. -/
theorem after_push {w w1 : World} {o2 o3 o4 o5 : Obj} {v0 v1 v2 : Value} {n : Nat} (t1 : Turn (w.heap.size + 1) ((((((w.alloc (.cells #[v0, v1, v2] 53)).alloc o2).alloc o3).alloc o4).alloc o5).drewN n) w1) :
    Below w.heap.size w w1 ∧ w.heap.size + 1 + 1 < w1.heap.size ∧ w1.cell? ⟨w.heap.size, 0, none⟩ = some v0 ∧ w1.cell? ⟨w.heap.size, 1, none⟩ = some v1 ∧ w1.cell? ⟨w.heap.size, 2, none⟩ = some v2 ∧
    w1.frozen? ⟨w.heap.size, 1, none⟩ = false ∧ w1.frozen? ⟨w.heap.size, 2, none⟩ = false := by
  have hs := t1.size
  simp at hs
  have c (i : Nat) : w1.cell? ⟨w.heap.size, i, none⟩ = #[v0, v1, v2][i]? := by
    rw [t1.cell (by simp; omega) (by simp)]
    simp only [World.cell?_drewN]
    rw [World.cell?_alloc_lt _ _ _ (by simp; omega), World.cell?_alloc_lt _ _ _ (by simp; omega), World.cell?_alloc_lt _ _ _ (by simp; omega), World.cell?_alloc_lt _ _ _ (by simp), World.cell?_alloc_new]
  have f (i : Nat) : w1.frozen? ⟨w.heap.size, i, none⟩ = false := by
    rw [t1.mark _ (by simp; omega)]
    simp only [World.frozen?_drewN]
    rw [World.frozen?_alloc_old _ _ _ (by simp; omega), World.frozen?_alloc_old _ _ _ (by simp; omega), World.frozen?_alloc_old _ _ _ (by simp; omega), World.frozen?_alloc_old _ _ _ (by simp), frozen?_alloc_cells]
    simp [World.frozen?]
  refine ⟨?_, by omega, c 0, c 1, c 2, f 1, f 2⟩
  refine Below.trans ?_ (t1.below (B := w.heap.size) (by simp; omega) (by omega))
  have h5 := ((((((Below.refl w.heap.size w).alloc (Nat.le_refl _) (.cells #[v0, v1, v2] 53)).alloc (by simp) o2).alloc (by simp; omega) o3).alloc (by simp; omega) o4).alloc (by simp; omega) o5)
  exact ⟨h5.os, h5.tape, h5.output, h5.size, h5.block⟩

/-- What is known behind a's receipt. -/
theorem after_pull {N : Nat} {w1 w2 : World} {v0 v1 v2 v3 v4 : Value} (t2 : Turn N (w1.alloc (.cells #[v0, v1, v2, v3, v4] 57)) w2) (s1 : N + 1 + 1 < w1.heap.size) :
    Below N w1 w2 ∧ w1.heap.size < w2.heap.size ∧ (∀ i, w2.cell? ⟨w1.heap.size, i, none⟩ = #[v0, v1, v2, v3, v4][i]?) ∧ (∀ i, w2.cell? ⟨N + 1, i, none⟩ = w1.cell? ⟨N + 1, i, none⟩) := by
  have hs := t2.size
  simp at hs
  refine ⟨?_, by omega, fun i => ?_, fun i => ?_⟩
  · refine Below.trans ?_ (t2.below (B := N) (by simp; omega) (Nat.le_refl _))
    exact (Below.refl N w1).alloc (by omega) _
  · rw [t2.cell (by simp) (by simp; omega), World.cell?_alloc_new]
  · rw [t2.cell (by simp; omega) (by simp), World.cell?_alloc_lt _ _ _ (by simp; omega)]

set_option maxHeartbeats 1000000 in
theorem walk (aid bid : Int) (av aw bv bw : Nat) (w : World) :
    Calls Try.prog 5 #[.int .i64 aid, .float .f64 av, .float .f64 aw, .int .i64 bid, .float .f64 bv, .float .f64 bw] w fun e w' => e = .returned (.bool true) ∧ Below w.heap.size w w' := by
  go_enter Try.func5, Try.ntmps5
  go_wp2_with (go_at_call 16; refine Calls.mono (halve_any w.heap.size 1 av aw _ (by go_simp) (by go_simp) (by go_simp) (by go_simp) (by go_simp)) ?_; rintro e w' ⟨a1, c1, r1, r2, rfl, c, n, rfl⟩)
  refine Calls.mono (receive_push (w.heap.size + 1) 0 bv bw a1 c1 bid aid bid _ (by go_simp) (by go_simp) (by go_simp) (by go_simp) (by go_simp) (by go_simp)) ?_
  rintro e w1 ⟨b1, d1, b2, d2, q1, q2, q3, q4, rfl, t1, k0, k1, k2⟩
  obtain ⟨B1, s1, A0, A1, A2, F1, F2⟩ := after_push t1
  clear t1
  have s3 : w.heap.size < w1.heap.size := by omega
  have s4 : w.heap.size + 1 < w1.heap.size := by omega
  go_wp2_with fail
  refine Calls.mono (receive_pull w.heap.size 0 a1 c1 b1 d1 aid bid aid _ (by go_simp) (by go_simp) (by go_simp) (by go_simp) (by go_simp) (by go_simp)) ?_
  rintro e w2 ⟨a2, c2, p3, p4, rfl, t2, m0, m1, m2⟩
  obtain ⟨B2, s2, R, K⟩ := after_pull t2 s1
  clear t2
  have s5 : w.heap.size < w2.heap.size := by omega
  have s6 : w.heap.size + 1 < w2.heap.size := by omega
  have s7 : w.heap.size < w2.heap.size + 1 := by omega
  have s8 : w.heap.size + 1 < w2.heap.size + 1 := by omega
  have s9 : w1.heap.size < w2.heap.size + 1 := by omega
  have R0 := R 0
  have R1 := R 1
  have R2 := R 2
  have K1 := (K 1).trans k1
  have K2 := (K 2).trans k2
  have B3 := B1.trans B2
  have L1 := (law r1 r1 q1 q1 p3 q3 p3).1
  have L2 := (law r2 r2 q2 q2 p4 q4 p4).1
  have L3 : ∀ W1 W2 W3, sameB a2 (resAt .add (resAt .quo av 4611686018427387904 W1) (resAt .quo bv 4611686018427387904 W2) W3) = true := fun W1 W2 W3 => (law r1 (res_resAt .quo av two W1) q1 (res_resAt .quo bv two W2) p3 q3 (res_resAt .add _ _ W3)).2
  have L4 : ∀ W1 W2 W3, sameB c2 (resAt .add (resAt .quo aw 4611686018427387904 W1) (resAt .quo bw 4611686018427387904 W2) W3) = true := fun W1 W2 W3 => (law r2 (res_resAt .quo aw two W1) q2 (res_resAt .quo bw two W2) p4 q4 (res_resAt .add _ _ W3)).2
  clear r1 r2 q1 q2 q3 q4 p3 p4 R K k1 k2 A0 A1 A2 F1 F2 B1 B2 k0
  go_wp2_with (first | (go_at_call 10; refine Calls.mono (same_any _ _ _) ?_; rintro e w' ⟨rfl, rfl⟩) | (go_at_call 18; refine Calls.mono (zero_any _) ?_; rintro e w' ⟨rfl, c', rfl⟩))
  go_ret
  refine ⟨rfl, ?_⟩
  have h := (B3.alloc (by omega) (.cells #[.int .i64 0, .int .i64 0, .int .i64 0, .float .f64 0, .float .f64 0] 57)).alloc (by simp; omega) (.cells c' 57)
  exact ⟨h.os, h.tape, h.output, h.size, h.block⟩
end Go.Proofs.Qxb6619723a
