/-
  THE WALK of circleModel, its first part: the test; what it is told of its arguments.
-/
import Derived.Test.Qxb6619715aSmall
import Derived.Test.Qxb6619715aBfs
import Derived.Test.Qxb6619715aRelax
import Derived.BigQuiet
import Derived.Deep.QuietTactic
import Derived.Deep.LoopGhost
import Derived.Deep.DeepCutAuto
import Derived.OwnWalk
namespace Go.Proofs.Qxb6619715a
open Go.RowKit

/-- How the graph's lists lie in w. -/
structure Lists (w : World) (g : Net) (pr : Nat → Bool) (bc oc cc bp op cpp be oe ce : Nat) : Prop where
  ok : g.Ok
  n_le : g.n ≤ 16384
  m_le : g.m ≤ 16384
  ncap : g.n ≤ cc
  pcap : g.n ≤ cpp
  ecap : g.m ≤ ce
  comp : ∀ u, u < g.n → w.cell? ⟨bc, oc + u, none⟩ = some (.int .i64 (g.cp u))
  prot : ∀ u, u < g.n → w.cell? ⟨bp, op + u, none⟩ = some (.bool (pr u))
  efr : ∀ k, k < g.m → w.cell? ⟨be, oe + k * 2, none⟩ = some (.int .i64 (g.fr k : Nat))
  eto : ∀ k, k < g.m → w.cell? ⟨be, oe + k * 2 + 1, none⟩ = some (.int .i64 (g.to k : Nat))

theorem Lists.below {w w' : World} {g : Net} {pr : Nat → Bool} {bc oc cc bp op cpp be oe ce : Nat} (h : Lists w g pr bc oc cc bp op cpp be oe ce) (hb : Below w.heap.size w w') : Lists w' g pr bc oc cc bp op cpp be oe ce :=
  ⟨h.ok, h.n_le, h.m_le, h.ncap, h.pcap, h.ecap, fun u hu => cell_below hb (h.comp u hu), fun u hu => cell_below hb (h.prot u hu), fun k hk => cell_below hb (h.efr k hk), fun k hk => cell_below hb (h.eto k hk)⟩

/-- The law's own test fails: no circle is asked for. -/
def Asked (g : Net) (pr : Nat → Bool) : Prop := pr g.left = true ∧ pr g.right = true ∧ g.cp g.left = g.cp g.right ∧ g.left ≠ g.right

set_option maxRecDepth 100000 in
set_option maxHeartbeats 2000000 in
theorem model_no (w : World) (g : Net) (pr : Nat → Bool) (bc oc cc bp op cpp be oe ce ri : Nat) (h : Lists w g pr bc oc cc bp op cpp be oe ce) (hri : ri < g.m) (hl : g.left = g.fr ri) (hr : g.right = g.to ri) (hn : ¬ Asked g pr) :
    Calls Try.prog 16 #[.slice (some ⟨bc, oc, none⟩) g.n cc, .slice (some ⟨bp, op, none⟩) g.n cpp, .slice (some ⟨be, oe, none⟩) g.m ce, .int .i64 ri] w
      fun e w' => e = .returned (.tuple #[.slice none 0 0, .bool false]) ∧ ∃ q, w' = w.drewN q := by
  have hll := h.ok.left_lt
  have hrl := h.ok.right_lt
  have e1 := h.efr ri hri
  have e2 := h.eto ri hri
  have c1 := h.comp g.left hll
  have c2 := h.comp g.right hrl
  have p1 := h.prot g.left hll
  have p2 := h.prot g.right hrl
  rw [← hl] at e1
  rw [← hr] at e2
  have n1 := h.n_le
  have n2 := h.m_le
  have n3 := h.ncap
  have n4 := h.pcap
  have n5 := h.ecap
  unfold Asked at hn
  generalize g.left = L at *
  generalize g.right = R at *
  generalize g.n = n at *
  generalize g.m = m at *
  generalize g.cp L = cl at *
  generalize g.cp R = cr at *
  generalize pr L = pl at *
  generalize pr R = prr at *
  clear h hl hr
  cases pl with
  | false =>
    clear hn
    go_enter Try.func16, Try.ntmps16
    go_wp2_with fail
    go_quiet (fail)
    go_wp2
    go_ret2
    exact ⟨rfl, _, rfl⟩
  | true =>
    cases prr with
    | false =>
      clear hn
      go_enter Try.func16, Try.ntmps16
      go_wp2_with fail
      go_quiet (fail)
      go_wp2
      go_ret2
      exact ⟨rfl, _, rfl⟩
    | true =>
      by_cases hc : cl = cr
      · have hLR : L = R := by
          by_cases e : L = R
          · exact e
          · exact absurd ⟨rfl, rfl, hc, e⟩ hn
        subst hLR
        subst hc
        have b1 : (cl != cl) = false := by simp
        have b2 : ((L : Int) == (L : Int)) = true := by simp
        clear hn
        go_enter Try.func16, Try.ntmps16
        go_wp2_with fail
        go_quiet (fail)
        go_wp2
        go_ret2
        exact ⟨rfl, _, rfl⟩
      · have b1 : (cl != cr) = true := by simpa using hc
        clear hn hc
        go_enter Try.func16, Try.ntmps16
        go_wp2_with fail
        go_quiet (fail)
        go_wp2
        go_ret2
        exact ⟨rfl, _, rfl⟩

/-- Integers in a row of the call's own. -/
def RowI (w : World) (D n : Nat) (da : Nat → Int) : Prop := ∀ u, u < n → w.cell? ⟨D, u, none⟩ = some (.int .i64 (da u)) ∧ w.frozen? ⟨D, u, none⟩ = false

theorem RowI.set {w : World} {D n : Nat} {da : Nat → Int} (h : RowI w D n da) {u : Nat} (hu : u < n) (x : Int) : RowI (w.setCell ⟨D, u, none⟩ (.int .i64 x)) D n (Net.set da u x) := by
  intro y hy
  rw [World.frozen?_setCell]
  refine ⟨?_, (h y hy).2⟩
  by_cases e : y = u
  · subst e
    rw [Net.set_same, World.cell?_setCell_same _ _ _ (h y hy).1]
  · rw [Net.set_other _ _ e, World.cell?_setCell_other _ _ _ _ (by intro h'; injection h' with _ h' _; exact e h'.symm)]
    exact (h y hy).1
theorem RowI.drewN {w : World} {D n : Nat} {da : Nat → Int} (h : RowI w D n da) (q : Nat) : RowI (w.drewN q) D n da := h
theorem RowI.alloc {w : World} {D n : Nat} {da : Nat → Int} (h : RowI w D n da) (hD : D < w.heap.size) (o : Obj) : RowI (w.alloc o) D n da := by
  intro y hy
  rw [World.cell?_alloc_lt _ _ _ hD, World.frozen?_alloc_old _ _ _ (by simp; omega)]
  exact h y hy

end Go.Proofs.Qxb6619715a
