/-
  THE LAW AT ANY ARGUMENTS, and THE STATEMENT 'Rows.FnCircleIsFirstShortestWayBackSaid' (the guide's frame at three slices and a number; the world behind the call has new blocks alone).
-/
import Derived.Test.Qxb6619715aMain3
import Derived.Deep.Grids
import Derived.Deep.SlicePairs
import Derived.ProofKit
import Derived.OpenShut
namespace Go.Proofs.Qxb6619715a
open Go.ChangeShapes Go.WideShapes Go.ChangeAt Go.RowKit

theorem law_any (w : World) (vc vp ve : Value) (n p m : Nat) (cp : Nat → Int) (pr : Nat → Bool) (f t : Nat → Int) (ri : Int) (hri : -9223372036854775808 ≤ ri ∧ ri ≤ 9223372036854775807) (hc : Ints w vc n cp) (hp : Bools w vp p pr) (he : Edges w ve m f t) :
    Calls Try.prog 4 #[vc, vp, ve, .int .i64 ri] w fun e w' => e = .returned (.bool true) ∧ Below w.heap.size w w' := by
  by_cases hlong : n > 16384 ∨ p > 16384 ∨ m > 16384
  · obtain ⟨a, cc, rfl, h1, h2, _⟩ := hc
    obtain ⟨ap, cpp, rfl, h3, h4, _⟩ := hp
    obtain ⟨ae, ce, rfl, h5, h6, _⟩ := he
    exact law_long w a ap ae n cc p cpp m ce (by omega) (by omega) (by omega) ri hlong
  · have hc0 := hc
    obtain ⟨a, cc, rfl, h1, h2, h3, h4⟩ := hc
    cases a with
    | none =>
      have h0 := h3 rfl
      obtain rfl : n = 0 := by omega
      exact law_nil w cc vp ve p m pr f t ri hri hp he (by omega) (by omega)
    | some ac =>
      by_cases he1 : p ≠ n ∨ ri < 0 ∨ (m : Int) ≤ ri
      · exact law_early w ac cc n vp ve p m cp pr f t ri hri hc0 hp he (by omega) (by omega) (by omega) he1
      · obtain rfl : p = n := by omega
        obtain ⟨r, rfl⟩ := Int.eq_ofNat_of_zero_le (show 0 ≤ ri by omega)
        exact law_full w ac cc p vp ve m cp pr f t r hc0 hp he (by omega) (by omega) (by omega)

/-- The integers that came in, opened. -/
theorem opened_ints {H : Type} {enc : TypeId × Value → H} {W : World} {base : Nat} {spare : Nat → Bool} {held : Bool} {a : Option Addr} {len cap fuel : Nat} {d : DataW H} {ps : List MemPlace}
    (hf : DataW.trod enc Try.prog W base spare held fuel 35 (Value.slice a len cap).cells.toList = some (d, ps)) : ∃ x, Ints W (.slice a len cap) len x := by
  rcases open_ints Try.underlying35 Try.underlying3 (by kernel_rfl) hf with ⟨hcs, _⟩ | ⟨x, l, c, zs, hcs, _, hl, hm, hz, _, hcell, _⟩
  · simp [Value.cells] at hcs
    obtain ⟨rfl, rfl, rfl⟩ := hcs
    exact ⟨fun _ => 0, none, 0, rfl, Nat.le_refl _, by unfold maxLen; omega, fun _ => rfl, fun h => absurd h (Nat.lt_irrefl _)⟩
  · simp [Value.cells] at hcs
    obtain ⟨rfl, rfl, rfl⟩ := hcs
    have hzl : len ≤ zs.length := by split at hz <;> omega
    refine ⟨fun i => zs.getD i 0, some x, cap, rfl, hl, hm, (fun h => by cases h), fun hpos => ?_⟩
    obtain ⟨b, off, rfl, hc⟩ := ints_at hcell (by omega)
    exact ⟨b, off, rfl, fun k hk => hc k (by omega)⟩

/-- A cell that is read lies at a plain address. -/
theorem plain_at {W : World} {a : Addr} {v : Value} (h : W.cell? (a.add 0) = some v) : ∃ b o, a = ⟨b, o, none⟩ := by
  obtain ⟨b, off, spot⟩ := a
  have hspot : spot = none := by simpa [Addr.add] using World.cell?_spot h
  subst hspot
  exact ⟨b, off, rfl⟩

/-- The bools that came in, opened. -/
theorem opened_bools {H : Type} {enc : TypeId × Value → H} {W : World} {base : Nat} {held : Bool} {a : Option Addr} {len cap fuel : Nat} {d : DataW H} {ps : List MemPlace}
    (hf : DataW.trod enc Try.prog W base (fun _ => true) held fuel 36 (Value.slice a len cap).cells.toList = some (d, ps)) : ∃ x, Bools W (.slice a len cap) len x := by
  rcases Go.Deep.open_bools Try.underlying36 Try.underlying4 (by kernel_rfl) hf with ⟨hcs, _⟩ | ⟨x, l, c, B, hcs, _, hl, hm, _, hcell⟩
  · simp [Value.cells] at hcs
    obtain ⟨rfl, rfl, rfl⟩ := hcs
    exact ⟨fun _ => false, none, 0, rfl, Nat.le_refl _, by unfold maxLen; omega, fun h => absurd h (Nat.lt_irrefl _)⟩
  · simp [Value.cells] at hcs
    obtain ⟨rfl, rfl, rfl⟩ := hcs
    refine ⟨B, some x, cap, rfl, hl, hm, fun hpos => ?_⟩
    obtain ⟨b, off, rfl⟩ := plain_at (hcell 0 (by omega))
    exact ⟨b, off, rfl, fun k hk => by rw [← Go.WideShapes.add_plain]; exact hcell k (by omega)⟩

/-- The number that a value is. -/
def intOf : Value → Int
  | .int _ n => n
  | _ => 0

/-- The edges that came in, opened. -/
theorem opened_edges {H : Type} {enc : TypeId × Value → H} {W : World} {base : Nat} {held : Bool} {a : Option Addr} {len cap fuel : Nat} {d : DataW H} {ps : List MemPlace}
    (hf : DataW.trod enc Try.prog W base (fun _ => true) held fuel 37 (Value.slice a len cap).cells.toList = some (d, ps)) : ∃ f t, Edges W (.slice a len cap) len f t := by
  rcases Go.Deep.open_slice_pairs Try.underlying37 Try.underlying50 (by kernel_rfl) rfl rfl (by kernel_rfl) (by kernel_rfl) hf with ⟨hcs, _⟩ | ⟨x, l, c, m, k, V0, V1, D0, D1, P0, P1, hcs, _, hl, hm, hmm, _, hcell⟩
  · simp [Value.cells] at hcs
    obtain ⟨rfl, rfl, rfl⟩ := hcs
    exact ⟨fun _ => 0, fun _ => 0, none, 0, rfl, Nat.le_refl _, by unfold maxLen; omega, fun h => absurd h (Nat.lt_irrefl _)⟩
  · simp [Value.cells] at hcs
    obtain ⟨rfl, rfl, rfl⟩ := hcs
    have hml : len ≤ m := by rw [hmm]; split <;> omega
    refine ⟨fun i => intOf (V0 i), fun i => intOf (V1 i), some x, cap, rfl, hl, hm, fun hpos => ?_⟩
    obtain ⟨b, off, rfl⟩ := plain_at (show W.cell? (x.add 0) = some (V0 0) from by simpa using (hcell 0 (by omega)).1)
    refine ⟨b, off, rfl, fun k hk => ?_⟩
    obtain ⟨c0, c1, t0, t1⟩ := hcell k (by omega)
    obtain ⟨n0, e0, _, _⟩ := DataW.trod_int Try.underlying3 t0
    obtain ⟨n1, e1, _, _⟩ := DataW.trod_int Try.underlying3 t1
    have e0' : V0 k = .int .i64 n0 := by simpa using e0
    have e1' : V1 k = .int .i64 n1 := by simpa using e1
    rw [e0', Go.WideShapes.add_plain] at c0
    rw [e1', Go.WideShapes.add_plain] at c1
    show W.cell? _ = some (.int .i64 (intOf (V0 k))) ∧ W.cell? _ = some (.int .i64 (intOf (V1 k)))
    rw [e0', e1']
    exact ⟨c0, by rw [Nat.add_assoc]; exact c1⟩

theorem own : ownKnob Try.prog.godebug = none := by kernel_rfl
theorem laidOut : laidOutB Try.prog = true := by kernel_rfl

set_option maxRecDepth 100000 in
theorem lifted (os : Os) (started : os.Started) (H : Type) (enc : TypeId × Value → H) :
    ReturnsInHanded {} Try.checked os 4 .any (Rows.fnCircleIsFirstShortestWayBackSpec.pre6 enc Try.prog Try.f4 Rows.fnCircleIsFirstShortestWayBackRow.domain false) (Rows.fnCircleIsFirstShortestWayBackSpec.post enc Try.prog Try.f4 false true false false) := by
  refine returnsInHanded_of_change (C := Try.checked) own started (by kernel_rfl) Try.func4
    (ChangeSpec.witness6 (enc := enc) (C := Try.checked) false ⟨#[], #[.slice none 0 0, .slice none 0 0, .slice none 0 0, .int .i64 0], []⟩ 8 (by kernel_rfl) (by kernel_rfl) (by kernel_rfl) (by kernel_rfl)) ?_
  intro W base args ds gs before hval0 hW hcnd _
  have hval : ∀ (j : Nat) t v, Try.f4.params[j]? = some t → args[j]? = some v → Value.okWide Try.prog W .any base t v := hval0
  have hW' := hW
  obtain ⟨p, q, hA0, hV, rfl, hfz, hnd⟩ := hW
  have hA : DataW.TrodAll enc Try.prog W 0 (fun _ => true) true Try.f4.params.toList args.toList ds p := hA0
  rw [Try.params4] at hA hval
  obtain ⟨v0, vs0, d0, ds0, p0, q0, hargs, rfl, rfl, h0, r0⟩ := trodAll_cons hA
  obtain ⟨v1, vs1, d1, ds1, p1, q1, rfl, rfl, rfl, h1, r1⟩ := trodAll_cons r0
  obtain ⟨v2, vs2, d2, ds2, p2, q2, rfl, rfl, rfl, h2, r2⟩ := trodAll_cons r1
  obtain ⟨v3, vs3, d3, ds3, p3, q3, rfl, rfl, rfl, h3, r3⟩ := trodAll_cons r2
  obtain ⟨rfl, rfl, rfl⟩ := trodAll_nil r3
  obtain rfl : args = #[v0, v1, v2, v3] := by cases args; simp_all
  obtain ⟨rfl, rfl⟩ := trodVars_none hV
  obtain ⟨a0, len0, cap0, rfl⟩ := okWide_slice Try.underlying35 (hval 0 35 v0 rfl rfl)
  obtain ⟨a1, len1, cap1, rfl⟩ := okWide_slice Try.underlying36 (hval 1 36 v1 rfl rfl)
  obtain ⟨a2, len2, cap2, rfl⟩ := okWide_slice Try.underlying37 (hval 2 37 v2 rfl rfl)
  have k0 := h0
  have k1 := h1
  have k2 := h2
  obtain ⟨ri, rfl, rfl, rfl, w3⟩ := open_int Try.underlying3 (hval 3 3 v3 rfl rfl) h3
  have lt0 : ∀ x ∈ p0, x.block < W.heap.size := by obtain ⟨m, hm⟩ := k0; exact DataW.trod_lt m _ _ _ hm
  have lt1 : ∀ x ∈ p1, x.block < W.heap.size := by obtain ⟨m, hm⟩ := k1; exact DataW.trod_lt m _ _ _ hm
  have lt2 : ∀ x ∈ p2, x.block < W.heap.size := by obtain ⟨m, hm⟩ := k2; exact DataW.trod_lt m _ _ _ hm
  obtain ⟨fuel0, hf0⟩ := h0
  obtain ⟨fuel1, hf1⟩ := h1
  obtain ⟨fuel2, hf2⟩ := h2
  obtain ⟨x0, hx0⟩ := opened_ints hf0
  obtain ⟨x1, hx1⟩ := opened_bools hf1
  obtain ⟨x2, y2, hx2⟩ := opened_edges hf2
  clear hA0 hval0
  refine (law_any W _ _ _ _ _ _ x0 x1 x2 y2 ri (bounds_i64 w3) hx0 hx1 hx2).mono fun e W' ⟨he, bel⟩ => ?_
  subst he
  exact ⟨_, rfl, _, _, _, [], _, [], hW', trodAll_mk1 (shut_bool Try.underlying4 _),
    (trodAll_cons_mk (Below.trod laidOut (by kernel_rfl) (of_decide_eq_true (by kernel_rfl)) k0 bel lt0) (trodAll_cons_mk (Below.trod laidOut (by kernel_rfl) (of_decide_eq_true (by kernel_rfl)) k1 bel lt1) (trodAll_cons_mk (Below.trod laidOut (by kernel_rfl) (of_decide_eq_true (by kernel_rfl)) k2 bel lt2) (trodAll_cons_mk (shut_int Try.underlying3 w3) trodAll_mk0)))),
    rfl, bel.frame _, fun h => by cases h⟩

theorem over : Rows.fnCircleIsFirstShortestWayBackRow.holds Try.pinned (OpenSpec.ofChange Rows.fnCircleIsFirstShortestWayBackSpec) :=
  OpenClaim.holds_of_wide 4 Try.f4 rfl rfl rfl rfl rfl rfl rfl ⟨rfl, rfl, rfl, rfl, rfl⟩ rfl rfl rfl rfl rfl (by kernel_rfl) Try.func4 (by kernel_rfl)
    (of_decide_eq_true (by kernel_rfl)) (by unfold Func.isWrapper; first | (rw [if_pos (by decide +kernel)]; kernel_rfl) | (rw [if_neg (by decide +kernel)]; exact ⟨rfl, rfl⟩))
    (fun os started H enc _ => lifted os started H enc)

/-- THE STATEMENT. -/
theorem proved : Rows.FnCircleIsFirstShortestWayBackSaid := over
end Go.Proofs.Qxb6619715a
