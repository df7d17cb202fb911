/-
  THE WALK of edgesWithin; how the arguments lie.
-/
import Derived.Test.Qxb6619715aRows
import Derived.WalkKit
import Derived.WalkLawsBesides
import Derived.WalkSpells
import Derived.Below
import Derived.LoopTactic
namespace Go.Proofs.Qxb6619715a
open Go.RowKit

theorem lt_of_cell {w : World} {a : Addr} {v : Value} (h : w.cell? a = some v) : a.block < w.heap.size := by
  rcases Nat.lt_or_ge a.block w.heap.size with h' | h'
  · exact h'
  · simp [World.cell?, Array.getElem?_eq_none h'] at h
theorem cell_below {w w' : World} {a : Addr} {v : Value} (hb : Below w.heap.size w w') (h : w.cell? a = some v) : w'.cell? a = some v := (hb.cell (lt_of_cell h)).trans h

/-- A slice of edges: m of them, from 'f k' to 't k'. -/
def Edges (w : World) (v : Value) (m : Nat) (f t : Nat → Int) : Prop :=
  ∃ a cap, v = .slice a m cap ∧ m ≤ cap ∧ cap ≤ maxLen ∧ (0 < m → ∃ b o, a = some ⟨b, o, none⟩ ∧ ∀ k, k < m → w.cell? ⟨b, o + k * 2, none⟩ = some (.int .i64 (f k)) ∧ w.cell? ⟨b, o + k * 2 + 1, none⟩ = some (.int .i64 (t k)))
/-- A slice of integers. -/
def Ints (w : World) (v : Value) (n : Nat) (x : Nat → Int) : Prop :=
  ∃ a cap, v = .slice a n cap ∧ n ≤ cap ∧ cap ≤ maxLen ∧ (a = none → cap = 0) ∧ (0 < n → ∃ b o, a = some ⟨b, o, none⟩ ∧ ∀ k, k < n → w.cell? ⟨b, o + k, none⟩ = some (.int .i64 (x k)))
/-- A slice of bools. -/
def Bools (w : World) (v : Value) (n : Nat) (x : Nat → Bool) : Prop :=
  ∃ a cap, v = .slice a n cap ∧ n ≤ cap ∧ cap ≤ maxLen ∧ (0 < n → ∃ b o, a = some ⟨b, o, none⟩ ∧ ∀ k, k < n → w.cell? ⟨b, o + k, none⟩ = some (.bool (x k)))

theorem Edges.below {w w' : World} {v : Value} {m : Nat} {f t : Nat → Int} (h : Edges w v m f t) (hb : Below w.heap.size w w') : Edges w' v m f t := by
  obtain ⟨a, cap, rfl, h1, h2, h3⟩ := h
  refine ⟨a, cap, rfl, h1, h2, fun h0 => ?_⟩
  obtain ⟨b, o, rfl, hc⟩ := h3 h0
  exact ⟨b, o, rfl, fun k hk => ⟨cell_below hb (hc k hk).1, cell_below hb (hc k hk).2⟩⟩
theorem Ints.below {w w' : World} {v : Value} {n : Nat} {x : Nat → Int} (h : Ints w v n x) (hb : Below w.heap.size w w') : Ints w' v n x := by
  obtain ⟨a, cap, rfl, h1, h2, h4, h3⟩ := h
  refine ⟨a, cap, rfl, h1, h2, h4, fun h0 => ?_⟩
  obtain ⟨b, o, rfl, hc⟩ := h3 h0
  exact ⟨b, o, rfl, fun k hk => cell_below hb (hc k hk)⟩
theorem Bools.below {w w' : World} {v : Value} {n : Nat} {x : Nat → Bool} (h : Bools w v n x) (hb : Below w.heap.size w w') : Bools w' v n x := by
  obtain ⟨a, cap, rfl, h1, h2, h3⟩ := h
  refine ⟨a, cap, rfl, h1, h2, fun h0 => ?_⟩
  obtain ⟨b, o, rfl, hc⟩ := h3 h0
  exact ⟨b, o, rfl, fun k hk => cell_below hb (hc k hk)⟩

/-- edgesWithin's answer: where it is true every edge lies within. -/
def Within (m n : Nat) (f t : Nat → Int) (e : Ending) : Prop := ∃ r, e = .returned (.bool r) ∧ (r = true → ∀ k, k < m → 0 ≤ f k ∧ f k < n ∧ 0 ≤ t k ∧ t k < n)

set_option maxHeartbeats 1000000 in
theorem within_some (b o m cap : Nat) (hm : m ≤ 16384) (hc : m ≤ cap) (n : Nat) (f t : Nat → Int) (w : World)
    (hf : ∀ k, k < m → w.cell? ⟨b, o + k * 2, none⟩ = some (.int .i64 (f k)) ∧ w.cell? ⟨b, o + k * 2 + 1, none⟩ = some (.int .i64 (t k))) :
    Calls Try.prog 14 #[.slice (some ⟨b, o, none⟩) m cap, .int .i64 n] w fun e w' => Within m n f t e ∧ w' = w := by
  go_enter Try.func14, Try.ntmps14
  go_wp2
  go_loop [5] (fun vi => ∃ k : Nat, k ≤ m ∧ vi = .int .i64 k ∧ Hid (∀ j, j < k → 0 ≤ f j ∧ f j < n ∧ 0 ≤ t j ∧ t j < n)) (fun vi => m - (intOf vi).toNat)
  case atStart => exact ⟨0, by omega, rfl, fun j hj => by omega⟩
  case round =>
    obtain ⟨k, hk, rfl, hh⟩ := hrel
    by_cases hkm : k < m
    · obtain ⟨h1, h2⟩ := hf k hkm
      have hnext : (0 ≤ f k ∧ f k < n ∧ 0 ≤ t k ∧ t k < n) → Hid (∀ j, j < k + 1 → 0 ≤ f j ∧ f j < n ∧ 0 ≤ t j ∧ t j < n) := fun hx j hj => by
        rcases Nat.lt_or_ge j k with h' | h'
        · exact hh.out j h'
        · obtain rfl : j = k := by omega
          exact hx
      generalize f k = x at h1 hnext
      generalize t k = y at h2 hnext
      have HN := Hid.out (p := Hid ((0 ≤ x ∧ x < n ∧ 0 ≤ y ∧ y < n) → Hid (∀ j, j < k + 1 → 0 ≤ f j ∧ f j < n ∧ 0 ≤ t j ∧ t j < n))) hnext
      clear hf hnext hh
      by_cases c1 : x < 0
      · go_wp2
        go_ret
        exact ⟨⟨false, rfl, fun h => by cases h⟩, rfl⟩
      by_cases c2 : (n : Int) ≤ x
      · go_wp2
        go_ret
        exact ⟨⟨false, rfl, fun h => by cases h⟩, rfl⟩
      by_cases c3 : y < 0
      · go_wp2
        go_ret
        exact ⟨⟨false, rfl, fun h => by cases h⟩, rfl⟩
      by_cases c4 : (n : Int) ≤ y
      · go_wp2
        go_ret
        exact ⟨⟨false, rfl, fun h => by cases h⟩, rfl⟩
      · go_wp2
        go_round
        case rel => exact ⟨k + 1, by omega, by go_num, HN.out (by omega)⟩
        case measure => simp [intOf]; omega
    · obtain rfl : k = m := by omega
      clear hf
      go_wp2
      go_ret
      exact ⟨⟨true, rfl, fun _ => hh.out⟩, rfl⟩

theorem within_none (a : Option Addr) (cap : Nat) (n : Nat) (w : World) :
    Calls Try.prog 14 #[.slice a 0 cap, .int .i64 n] w fun e w' => e = .returned (.bool true) ∧ w' = w := by
  go_enter Try.func14, Try.ntmps14
  go_wp2
  go_loop [5] (fun vi => vi = .int .i64 0) (fun _ => 0)
  case atStart => rfl
  case round =>
    subst hrel
    go_wp2
    go_ret
    exact ⟨rfl, rfl⟩

theorem within_any (v : Value) (m : Nat) (hm : m ≤ 16384) (n : Nat) (f t : Nat → Int) (w : World) (h : Edges w v m f t) :
    Calls Try.prog 14 #[v, .int .i64 n] w fun e w' => Within m n f t e ∧ w' = w := by
  obtain ⟨a, cap, rfl, h1, h2, h3⟩ := h
  rcases Nat.eq_zero_or_pos m with rfl | h0
  · exact (within_none a cap n w).mono fun e w' ⟨he, hw⟩ => ⟨⟨true, he, fun _ k hk => by omega⟩, hw⟩
  · obtain ⟨b, o, rfl, hc⟩ := h3 h0
    exact within_some b o m cap hm h1 n f t w hc

end Go.Proofs.Qxb6619715a
