/-
  THE WALK of the law FnUEscapeReadsEveryCodeUnitInEitherLetterCase.
-/
import Derived.Test.Qxb6619326aDoorText
namespace Go.Proofs.Qxb6619326aDoor
open Go.RowKit

theorem cell_below {w w' : World} {a : Addr} {v : Value} (hb : Below w.heap.size w w') (h : w.cell? a = some v) : w'.cell? a = some v := (hb.cell (lt_of_cell h)).trans h

set_option maxHeartbeats 1000000 in
theorem reads_law (v up : Nat) (hv : v < 65536) (tv : Value) (tl : List UInt8) (w : World) (hb : Bytes w tv tl) (te : TypeId) (pe : Value) (hg : w.cell? ⟨0, 0, none⟩ = some (.iface te pe)) :
    Calls Tryd.prog 4 #[.int .u16 v, .int .u8 up, tv] w fun e w' => e = .returned (.bool true) ∧ Below w.heap.size w w' := by
  have hb0 := hb
  obtain ⟨a, cap, rfl, h1, h2, _, _⟩ := hb
  unfold maxLen at h2
  by_cases big : 1048576 < tl.length
  · clear hb0 hg
    go_enter Tryd.func4, Tryd.ntmps4
    go_wp2
    go_ret
    exact ⟨rfl, Below.refl _ _⟩
  by_cases mid : 524288 < tl.length
  · clear hb0 hg
    go_enter Tryd.func4, Tryd.ntmps4
    go_wp2
    go_ret
    exact ⟨rfl, Below.refl _ _⟩
  have c1 := text_any v up hv _ tl w hb0 (by omega)
  have k1 : ∀ w1, Below w.heap.size w w1 → Calls Tryd.prog 9 #[.int .u16 v, .int .u8 0, .slice a tl.length cap] w1 fun e w' => ∃ ov l, e = .returned ov ∧ Bytes w' ov l ∧ escB l = some v ∧ Below w1.heap.size w1 w' := fun w1 h => text_any v 0 hv _ tl w1 (hb0.below h) (by omega)
  have H1 := Hid.out (p := (∀ w1 ov l, Bytes w1 ov l → escB l = some v → Below w.heap.size w w1 → Calls Tryd.prog 7 #[ov] w1 fun e w' => e = .returned (runeOf (some v)) ∧ Below w1.heap.size w1 w')) (fun w1 ov l hb he hw => by
    have := zz_any ov l w1 hb te pe (cell_below hw hg)
    rw [he] at this
    exact this)
  clear hb0 hg
  go_enter Tryd.func4, Tryd.ntmps4
  go_wp2_with (go_at_call 8; go_in)
  refine c1.mono ?_
  rintro e w1 ⟨ov, l, rfl, hb1, he1, hw1⟩
  have c2 := k1 w1 hw1
  clear c1 k1
  go_wp2_with fail
  refine c2.mono ?_
  rintro e w2 ⟨ov2, l2, rfl, hb2, he2, hw2⟩
  have hw02 := hw1.trans (hw2.mono hw1.size)
  have c3 := H1 w2 ov l (hb1.below hw2) he1 hw02
  clear c2 hb1
  go_wp2_with fail
  refine c3.mono ?_
  rintro e w3 ⟨rfl, hw3⟩
  have hw03 := hw02.trans (hw3.mono hw02.size)
  have c4 := H1 w3 ov2 l2 (hb2.below hw3) he2 hw03
  clear c3 hb2 H1 he1 he2
  unfold runeOf
  go_wp2_with fail
  refine c4.mono ?_
  rintro e w4 ⟨rfl, hw4⟩
  have hw04 := hw03.trans (hw4.mono hw03.size)
  clear c4 hw1 hw2 hw3 hw4 hw02 hw03
  unfold runeOf
  go_wp2
  go_ret
  exact ⟨rfl, hw04⟩

end Go.Proofs.Qxb6619326aDoor
