/-
  THE WALK of circle, its first part: the test; how the graph lies in memory.
-/
import Derived.Test.Qxb6619715aMap
import Derived.Test.Qxb6619715aRev
import Derived.Test.Qxb6619715aBfs
import Derived.BigQuiet
import Derived.Deep.QuietTactic
namespace Go.Proofs.Qxb6619715a
open Go.RowKit

/-- How the graph that the law builds lies in w: node u in block nb u, rule k in block rb k. -/
structure Mem (w : World) (g : Net) (pr : Nat → Bool) (nb rb : Nat → Nat) (bc oc cc A : Nat) : Prop where
  ok : g.Ok
  n_le : g.n ≤ 16384
  m_le : g.m ≤ 16384
  ncap : g.n ≤ cc
  blocks : Blocks w g.n nb
  idx : ∀ u, u < g.n → w.cell? ⟨nb u, 2, none⟩ = some (.int .i64 (u : Nat))
  prot : ∀ u, u < g.n → w.cell? ⟨nb u, 6, none⟩ = some (.bool (pr u))
  rfr : ∀ k, k < g.m → w.cell? ⟨rb k, 7, none⟩ = some (pt (nb (g.fr k)))
  rto : ∀ k, k < g.m → w.cell? ⟨rb k, 8, none⟩ = some (pt (nb (g.to k)))
  comp : ∀ u, u < g.n → w.cell? ⟨bc, oc + u, none⟩ = some (.int .i64 (g.cp u))
  after : ∀ u, u < g.n → ∃ a cap, w.cell? ⟨A, u, none⟩ = some (.slice a (g.adj u).length cap) ∧ (g.adj u).length ≤ cap ∧ ((g.adj u) ≠ [] → ∃ b, a = some ⟨b, 0, none⟩ ∧ ∀ j (h : j < (g.adj u).length), w.cell? ⟨b, j * 2, none⟩ = some (pt (nb (g.to (g.adj u)[j]))) ∧ w.cell? ⟨b, j * 2 + 1, none⟩ = some (pt (rb (g.adj u)[j])))

theorem Mem.below {w w' : World} {g : Net} {pr : Nat → Bool} {nb rb : Nat → Nat} {bc oc cc A : Nat} (h : Mem w g pr nb rb bc oc cc A) (hb : Below w.heap.size w w') : Mem w' g pr nb rb bc oc cc A := by
  refine ⟨h.ok, h.n_le, h.m_le, h.ncap, h.blocks.below hb, fun u hu => cell_below hb (h.idx u hu), fun u hu => cell_below hb (h.prot u hu), fun k hk => cell_below hb (h.rfr k hk), fun k hk => cell_below hb (h.rto k hk), fun u hu => cell_below hb (h.comp u hu), fun u hu => ?_⟩
  obtain ⟨a, cap, h1, h2, h3⟩ := h.after u hu
  refine ⟨a, cap, cell_below hb h1, h2, fun hne => ?_⟩
  obtain ⟨b, rfl, h4⟩ := h3 hne
  exact ⟨b, rfl, fun j hj => ⟨cell_below hb (h4 j hj).1, cell_below hb (h4 j hj).2⟩⟩

set_option maxRecDepth 100000 in
set_option maxHeartbeats 2000000 in
theorem circle_no (w : World) (g : Net) (pr : Nat → Bool) (nb rb : Nat → Nat) (bc oc cc A ri : Nat) (h : Mem w g pr nb rb bc oc cc A) (hri : ri < g.m) (hl : g.left = g.fr ri) (hr : g.right = g.to ri)
    (hn : ¬ (pr g.left = true ∧ pr g.right = true ∧ g.cp g.left = g.cp g.right)) :
    Calls Try.prog 20 #[.pointer (some ⟨rb ri, 0, none⟩), .slice (some ⟨bc, oc, none⟩) g.n cc, .slice (some ⟨A, 0, none⟩) g.n g.n] w
      fun e w' => e = .returned (.slice none 0 0) ∧ Below w.heap.size w w' := by
  have hll := h.ok.left_lt
  have hrl := h.ok.right_lt
  have e1 := h.rfr ri hri
  have e2 := h.rto ri hri
  rw [← hl] at e1
  rw [← hr] at e2
  unfold pt at e1 e2
  have i1 := h.idx _ hll
  have i2 := h.idx _ hrl
  have p1 := h.prot _ hll
  have p2 := h.prot _ hrl
  have c1 := h.comp _ hll
  have c2 := h.comp _ hrl
  have n1 := h.n_le
  have n3 := h.ncap
  generalize g.left = L at *
  generalize g.right = R at *
  generalize g.n = n at *
  generalize g.cp L = cl at *
  generalize g.cp R = cr at *
  generalize pr L = pl at *
  generalize pr R = prr at *
  clear h hl hr hri
  cases pl with
  | false =>
    clear hn
    go_enter Try.func20, Try.ntmps20
    go_wp2_with fail
    go_quiet (fail)
    go_wp2_with fail
    go_quiet (fail)
    go_wp2
    go_ret
    exact ⟨rfl, below_drewN (below_drewN (Below.refl _ _) _) _⟩
  | true =>
    cases prr with
    | false =>
      clear hn
      go_enter Try.func20, Try.ntmps20
      go_wp2_with fail
      go_quiet (fail)
      go_wp2_with fail
      go_quiet (fail)
      go_wp2
      go_ret
      exact ⟨rfl, below_drewN (below_drewN (Below.refl _ _) _) _⟩
    | true =>
      have hc : cl ≠ cr := fun e => hn ⟨rfl, rfl, e⟩
      have b1 : (cl != cr) = true := by simpa using hc
      clear hn hc
      go_enter Try.func20, Try.ntmps20
      go_wp2_with fail
      go_quiet (fail)
      go_wp2_with fail
      go_quiet (fail)
      go_wp2
      go_ret
      exact ⟨rfl, below_drewN (below_drewN (Below.refl _ _) _) _⟩

end Go.Proofs.Qxb6619715a
