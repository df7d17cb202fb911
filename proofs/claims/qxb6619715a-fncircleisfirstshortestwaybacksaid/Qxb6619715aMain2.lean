/-
  THE LAW's OWN WALK: the list is copied, and the test fails.
-/
import Derived.Test.Qxb6619715aMain1
namespace Go.Proofs.Qxb6619715a
open Go.RowKit
attribute [local go_sem] setCell_drewN alloc_drewN

theorem comp_of_row {w : World} {g n : Nat} {x : Nat → Int} {cur : List Value} (h : w.heap[g]? = some (.cells (splice cur 0 (ci n x)).toArray 3 (0, 0))) (hc : cur.length = n) : ∀ u, u < n → w.cell? ⟨g, 0 + u, none⟩ = some (.int .i64 (x u)) := by
  intro u hu
  have e : splice cur 0 (ci n x) = ci n x := by simp [splice, ci_length, hc]
  rw [e] at h
  have := ci_at n x hu
  simp [World.cell?, h, this]

set_option maxRecDepth 100000 in
set_option maxHeartbeats 40000000 in
theorem law_early (w : World) (ac : Addr) (cc n : Nat) (vp ve : Value) (p m : Nat) (cp : Nat → Int) (pr : Nat → Bool) (f t : Nat → Int) (ri : Int) (hri : -9223372036854775808 ≤ ri ∧ ri ≤ 9223372036854775807) (hc : Ints w (.slice (some ac) n cc) n cp) (hp : Bools w vp p pr) (he : Edges w ve m f t) (hnl : n ≤ 16384) (hpl : p ≤ 16384) (hml : m ≤ 16384)
    (h : p ≠ n ∨ ri < 0 ∨ (m : Int) ≤ ri) :
    Calls Try.prog 4 #[.slice (some ac) n cc, vp, ve, .int .i64 ri] w fun e w' => e = .returned (.bool true) ∧ Below w.heap.size w w' := by
  obtain ⟨i0, hi, hz0, hz1, hz2⟩ := info_parts info3
  have hn := fun (w : World) => run_neq_slice_nil_any (P := Try.prog) w 35 3 (some ac) n cc 0 0 Try.underlying35
  obtain ⟨ap, cpp, rfl, hp1, hp2, hp3⟩ := hp
  obtain ⟨ae, ce, rfl, he1, he2, he3⟩ := he
  obtain ⟨ac', cc', hce, hc1, hc2, hc3, hc4⟩ := hc
  injection hce with e1 e2 e3
  subst e1 e3
  have HS : Hid (∀ j u, (ci n cp)[j]? = some u → w.cell? (ac.add j) = some u) := fun j u hj => by
    have hjn : j < n := by
      have := (List.getElem?_eq_some_iff.1 hj).1
      rwa [ci_length] at this
    obtain ⟨b, o, hb, hcell⟩ := hc4 (by omega)
    injection hb with hb
    subst hb
    rw [add_plain, hcell j hjn, ← hj, ci_at n cp hjn]
  clear hp3 he3 hp2 he2 hc3 hc4 hc2 e2
  have hx := bytes_small (some ac) ap ae n cc p cpp m ce (.int .i64 ri) w (by omega)
  have main : ∀ (hh : p ≠ n ∨ (p = n ∧ ri < 0) ∨ (p = n ∧ 0 ≤ ri ∧ (m : Int) ≤ ri)), Calls Try.prog 4 #[.slice (some ac) n cc, .slice ap p cpp, .slice ae m ce, .int .i64 ri] w fun e w' => e = .returned (.bool true) ∧ Below w.heap.size w w' := by
    clear h
    rintro (h | ⟨h, h'⟩ | ⟨h, h', h''⟩)
    · have b3 : ((p : Int) != (n : Int)) = true := by simp; omega
      clear h
      go_enter Try.func4, Try.ntmps4
      go_wp2_with (first | (go_at_call 13; refine Calls.mono hx ?_; rintro e w' ⟨rfl, rfl⟩) | (at_make; refine wpList_make_full _ rfl _ _ 35 rfl w'.heap.size 3 i0 (.int .i64 0) 1 Try.underlying35 hi hz0 hz1 _ _ _ _ n rfl rfl rfl rfl ?b2 ?b3 (Nat.le_refl _) ?_))
      case b2 => first | omega | (rw [hz2]; omega)
      case b3 => unfold maxLen; omega
      intro w1 hown1 hgrow1
      have hnx1 : Below w'.heap.size w' w1 := (Below.refl _ _).grown hgrow1 (Nat.le_refl _) (fun k h => by cases h)
      obtain ⟨cur, hcur, hcl⟩ := made_row hown1
      have HC : Hid (w1.heap[w'.heap.size]? = some (.cells cur.toArray 3 (0, 0))) := hcur
      have HL : Hid (cur.length = n) := hcl
      clear hgrow1 hown1 hcur hcl
      go_wp2_with (refine wpList_copy_splice rfl _ _ 35 35 rfl 3 Try.underlying35 info3s _ _ _ _ _ _ rfl rfl w'.heap.size 0 cur 3 HC.out (ci n cp) ?c1 ?c2 ?c3 (ci_one n cp) w'.heap.size w' hnx1 (Nat.le_refl _) ?_)
      case c1 => simp [ci_length]
      case c2 =>
        intro _
        first | exact ⟨rfl, ac, rfl, fun j v hj => cell_below hnx1 (HS.out j v hj)⟩ | exact fun j v hj => cell_below hnx1 (HS.out j v hj)
      case c3 => rw [ci_length, HL.out]; omega
      intro w2 HR hnx2
      go_wp2
      go_ret
      exact ⟨rfl, hnx2⟩
    · have b3 : ((p : Int) != (n : Int)) = false := by simp; omega
      clear h
      go_enter Try.func4, Try.ntmps4
      go_wp2_with (first | (go_at_call 13; refine Calls.mono hx ?_; rintro e w' ⟨rfl, rfl⟩) | (at_make; refine wpList_make_full _ rfl _ _ 35 rfl w'.heap.size 3 i0 (.int .i64 0) 1 Try.underlying35 hi hz0 hz1 _ _ _ _ n rfl rfl rfl rfl ?b2 ?b3 (Nat.le_refl _) ?_))
      case b2 => first | omega | (rw [hz2]; omega)
      case b3 => unfold maxLen; omega
      intro w1 hown1 hgrow1
      have hnx1 : Below w'.heap.size w' w1 := (Below.refl _ _).grown hgrow1 (Nat.le_refl _) (fun k h => by cases h)
      obtain ⟨cur, hcur, hcl⟩ := made_row hown1
      have HC : Hid (w1.heap[w'.heap.size]? = some (.cells cur.toArray 3 (0, 0))) := hcur
      have HL : Hid (cur.length = n) := hcl
      clear hgrow1 hown1 hcur hcl
      go_wp2_with (refine wpList_copy_splice rfl _ _ 35 35 rfl 3 Try.underlying35 info3s _ _ _ _ _ _ rfl rfl w'.heap.size 0 cur 3 HC.out (ci n cp) ?c1 ?c2 ?c3 (ci_one n cp) w'.heap.size w' hnx1 (Nat.le_refl _) ?_)
      case c1 => simp [ci_length]
      case c2 =>
        intro _
        first | exact ⟨rfl, ac, rfl, fun j v hj => cell_below hnx1 (HS.out j v hj)⟩ | exact fun j v hj => cell_below hnx1 (HS.out j v hj)
      case c3 => rw [ci_length, HL.out]; omega
      intro w2 HR hnx2
      go_wp2
      go_ret
      exact ⟨rfl, hnx2⟩
    · have b3 : ((p : Int) != (n : Int)) = false := by simp; omega
      clear h
      go_enter Try.func4, Try.ntmps4
      go_wp2_with (first | (go_at_call 13; refine Calls.mono hx ?_; rintro e w' ⟨rfl, rfl⟩) | (at_make; refine wpList_make_full _ rfl _ _ 35 rfl w'.heap.size 3 i0 (.int .i64 0) 1 Try.underlying35 hi hz0 hz1 _ _ _ _ n rfl rfl rfl rfl ?b2 ?b3 (Nat.le_refl _) ?_))
      case b2 => first | omega | (rw [hz2]; omega)
      case b3 => unfold maxLen; omega
      intro w1 hown1 hgrow1
      have hnx1 : Below w'.heap.size w' w1 := (Below.refl _ _).grown hgrow1 (Nat.le_refl _) (fun k h => by cases h)
      obtain ⟨cur, hcur, hcl⟩ := made_row hown1
      have HC : Hid (w1.heap[w'.heap.size]? = some (.cells cur.toArray 3 (0, 0))) := hcur
      have HL : Hid (cur.length = n) := hcl
      clear hgrow1 hown1 hcur hcl
      go_wp2_with (refine wpList_copy_splice rfl _ _ 35 35 rfl 3 Try.underlying35 info3s _ _ _ _ _ _ rfl rfl w'.heap.size 0 cur 3 HC.out (ci n cp) ?c1 ?c2 ?c3 (ci_one n cp) w'.heap.size w' hnx1 (Nat.le_refl _) ?_)
      case c1 => simp [ci_length]
      case c2 =>
        intro _
        first | exact ⟨rfl, ac, rfl, fun j v hj => cell_below hnx1 (HS.out j v hj)⟩ | exact fun j v hj => cell_below hnx1 (HS.out j v hj)
      case c3 => rw [ci_length, HL.out]; omega
      intro w2 HR hnx2
      go_wp2
      go_ret
      exact ⟨rfl, hnx2⟩
  exact main (by omega)

end Go.Proofs.Qxb6619715a
