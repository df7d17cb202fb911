/-
  THE LAW's OWN WALK, tried.
-/
import Derived.Test.Qxb6619715aCircle2
import Derived.Test.Qxb6619715aMake
import Derived.Laws.CopyOwn
import Derived.Deep.RegionHeld3
import Derived.Deep.AppendLies
namespace Go.Proofs.Qxb6619715a
open Go.RowKit
attribute [local go_sem] setCell_drewN alloc_drewN

theorem info3s : (Try.prog.info? 3).map (·.size) = some 1 := by kernel_rfl
theorem info42 : (Try.prog.info? 42).map (fun i => (i.zero, i.size, i.bytes)) = some (some (.slice none 0 0), 1, 24) := by kernel_rfl
theorem info59 : (Try.prog.info? 59).map (fun i => (i.zero, i.size, i.bytes)) = some (some (.agg #[.pointer none, .pointer none]), 2, 16) := by kernel_rfl

theorem made_row {w : World} {N e n : Nat} {z : Value} (h : w.ownsRow N e 1 (.slice (some ⟨N, 0, none⟩) n n) n (madeCells #[z] n).toList) : ∃ cur : List Value, w.heap[N]? = some (.cells cur.toArray e (0, 0)) ∧ cur.length = n := by
  rcases h.2 with ⟨h1, _⟩ | ⟨g, cap, cur, h1, _, hh, _, _, h4, _⟩
  · cases h1
  · cases h1
    exact ⟨cur.toList, by simpa using hh, by simpa using h4⟩

/-- The copied list. -/
def ci (n : Nat) (x : Nat → Int) : List Value := (List.range n).map fun i => Value.int .i64 (x i)
theorem ci_length (n : Nat) (x : Nat → Int) : (ci n x).length = n := by simp [ci]
theorem ci_one (n : Nat) (x : Nat → Int) : ∀ v ∈ ci n x, v.oneCell' = true := by
  intro v hv
  obtain ⟨i, _, rfl⟩ := List.mem_map.1 hv
  rfl
theorem ci_at (n : Nat) (x : Nat → Int) {i : Nat} (h : i < n) : (ci n x)[i]? = some (.int .i64 (x i)) := by simp [ci, h]

set_option maxRecDepth 100000 in
set_option maxHeartbeats 40000000 in
/-- The lists are too long. -/
theorem law_long (w : World) (ac ap ae : Option Addr) (n c0 p c1 m c2 : Nat) (h0 : n ≤ maxLen) (h1 : p ≤ maxLen) (h2 : m ≤ maxLen) (ri : Int) (h : n > 16384 ∨ p > 16384 ∨ m > 16384) :
    Calls Try.prog 4 #[.slice ac n c0, .slice ap p c1, .slice ae m c2, .int .i64 ri] w fun e w' => e = .returned (.bool true) ∧ Below w.heap.size w w' := by
  by_cases hb : n + p + m > 1048576
  · have hx := bytes_big ac ap ae n c0 p c1 m c2 h0 h1 h2 (.int .i64 ri) w hb
    clear h
    go_enter Try.func4, Try.ntmps4
    go_wp2_with (go_at_call 13; refine Calls.mono hx ?_; rintro e w' ⟨rfl, rfl⟩)
    go_ret
    exact ⟨rfl, Below.refl _ _⟩
  · have hx := bytes_small ac ap ae n c0 p c1 m c2 (.int .i64 ri) w (by omega)
    by_cases t1 : n > 16384
    · clear h
      go_enter Try.func4, Try.ntmps4
      go_wp2_with (go_at_call 13; refine Calls.mono hx ?_; rintro e w' ⟨rfl, rfl⟩)
      go_ret
      exact ⟨rfl, Below.refl _ _⟩
    by_cases t2 : p > 16384
    · clear h
      go_enter Try.func4, Try.ntmps4
      go_wp2_with (go_at_call 13; refine Calls.mono hx ?_; rintro e w' ⟨rfl, rfl⟩)
      go_ret
      exact ⟨rfl, Below.refl _ _⟩
    have t3 : m > 16384 := by omega
    clear h
    go_enter Try.func4, Try.ntmps4
    go_wp2_with (go_at_call 13; refine Calls.mono hx ?_; rintro e w' ⟨rfl, rfl⟩)
    go_ret
    exact ⟨rfl, Below.refl _ _⟩

set_option maxRecDepth 100000 in
set_option maxHeartbeats 40000000 in
/-- comp is nil. -/
theorem law_nil (w : World) (cap : Nat) (vp ve : Value) (p m : Nat) (pr : Nat → Bool) (f t : Nat → Int) (ri : Int) (hri : -9223372036854775808 ≤ ri ∧ ri ≤ 9223372036854775807) (hp : Bools w vp p pr) (he : Edges w ve m f t) (hpl : p ≤ 16384) (hml : m ≤ 16384) :
    Calls Try.prog 4 #[.slice none 0 cap, vp, ve, .int .i64 ri] w fun e w' => e = .returned (.bool true) ∧ Below w.heap.size w w' := by
  have hn := fun (w : World) => run_neq_slice_nil_any (P := Try.prog) w 35 3 none 0 cap 0 0 Try.underlying35
  have HE : Hid (Edges w ve m f t) := he
  obtain ⟨ap, cpp, rfl, hp1, hp2, hp3⟩ := hp
  obtain ⟨ae, ce, rfl, he1, he2, he3⟩ := he
  clear hp3 he3 hp2 he2
  have hx := bytes_small none ap ae 0 cap p cpp m ce (.int .i64 ri) w (by omega)
  by_cases t3 : p = 0
  · subst t3
    by_cases t4 : ri < 0
    · go_enter Try.func4, Try.ntmps4
      go_wp2_with (go_at_call 13; refine Calls.mono hx ?_; rintro e w' ⟨rfl, rfl⟩)
      go_ret
      exact ⟨rfl, Below.refl _ _⟩
    by_cases t5 : (m : Int) ≤ ri
    · go_enter Try.func4, Try.ntmps4
      go_wp2_with (go_at_call 13; refine Calls.mono hx ?_; rintro e w' ⟨rfl, rfl⟩)
      go_ret
      exact ⟨rfl, Below.refl _ _⟩
    have hw : Calls Try.prog 14 #[.slice ae m ce, .int .i64 0] w fun e w' => e = .returned (.bool false) ∧ w' = w := (within_any (.slice ae m ce) m (by omega) 0 f t w HE.out).mono (by
      rintro e w' ⟨⟨r, rfl, hr⟩, rfl⟩
      cases r with
      | true =>
        have := hr rfl 0 (by omega)
        omega
      | false => exact ⟨rfl, rfl⟩)
    go_enter Try.func4, Try.ntmps4
    go_wp2_with (first | (go_at_call 13; refine Calls.mono hx ?_; rintro e w' ⟨rfl, rfl⟩) | (go_at_call 14; refine Calls.mono hw ?_; rintro e w' ⟨rfl, rfl⟩))
    go_ret
    exact ⟨rfl, Below.refl _ _⟩
  · have b3 : ((p : Int) != 0) = true := by simp; omega
    go_enter Try.func4, Try.ntmps4
    go_wp2_with (go_at_call 13; refine Calls.mono hx ?_; rintro e w' ⟨rfl, rfl⟩)
    go_ret
    exact ⟨rfl, Below.refl _ _⟩

end Go.Proofs.Qxb6619715a
