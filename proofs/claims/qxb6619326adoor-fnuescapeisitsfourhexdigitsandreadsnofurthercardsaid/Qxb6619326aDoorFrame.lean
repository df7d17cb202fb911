/-
  WHAT BOTH ROWS SHARE: the listed variables met at the witness; what the condition gives the walks: the cell of strconv.ErrSyntax holds an interface value that is not nil; a slice of bytes that came in, opened.
-/
import Derived.Test.Qxb6619326aDoorEsc
import Derived.ProofKit
import Derived.OpenShut
import Derived.LaidMore
import Derived.LaidLaws
import Derived.Stop.LaidErr
import Derived.Stop.Joined
import Derived.ChangeOld
namespace Go.Proofs.Qxb6619326aDoor
open Go.ChangeShapes Go.WideShapes Go.ChangeAt Go.RowKit

theorem own : ownKnob Tryd.prog.godebug = none := by kernel_rfl
theorem laidOut : laidOutB Tryd.prog = true := by kernel_rfl
theorem gSyntax : Tryd.prog.globalNamed "strconv.ErrSyntax" = some 0 := by kernel_rfl
theorem tSyntax : (Tryd.prog.globals[0]?).map (·.type) = some 33 := by kernel_rfl

/-- The rows' list. -/
def laid5 : List (String × DataW Unit) := Rows.fnUEscapeReadsEveryCodeUnitInEitherLetterCaseRow.laid

/-- The door's own heap meets the condition: three closed facts. -/
theorem door_met (os : Os) (args : Array Value) : laidMetH Tryd.prog laid5 ((World.doorLaid Tryd.prog 400 os).forCall (fun _ _ => 0) ⟨#[], args, []⟩).memory :=
  laidMetH_of_parts3 (fuel := 8) (laidMet_of_run' 8 (by kernel_rfl) (by kernel_rfl)) (by kernel_rfl) (by kernel_rfl)

/-- WHAT THE CONDITION GIVES THE WALKS. -/
theorem of_laid {W : World} (h : laidMetH Tryd.prog laid5 W) : ∃ te pe, W.cell? ⟨0, 0, none⟩ = some (.iface te pe) := by
  rw [MakeChecks.laidMetH_plain _ _ _ (by kernel_rfl)] at h
  obtain ⟨ps, ⟨g0, t0, cs0, f0, p0, q0, hg0, ht0, hv0, hd0, _, _⟩, _, _⟩ := h.tail.tail.tail.tail
  obtain rfl := Option.some.inj (gSyntax.symm.trans hg0)
  obtain rfl := Option.some.inj (tSyntax.symm.trans ht0)
  obtain ⟨_, u, v, hcs, _, _⟩ := iface_of_trod Tryd.underlying33 hd0
  refine ⟨u, v, ?_⟩
  have := World.var?_cell hg0 hv0 0
  obtain ⟨l⟩ := cs0
  simp only at hcs
  subst hcs
  simpa using this

/-- The bytes of numbers that fit. -/
def toBytes (zs : List Int) : List UInt8 := zs.map fun n => UInt8.ofNat n.toNat

/-- A SLICE OF BYTES THAT CAME IN, OPENED. -/
theorem open_bytes {H : Type} {enc : TypeId × Value → H} {W : World} {base : Nat} {spare : Nat → Bool} {held : Bool} {a : Option Addr} {len cap fuel : Nat} {d : DataW H} {ps : List MemPlace}
    (hf : DataW.trod enc Tryd.prog W base spare held fuel 22 (Value.slice a len cap).cells.toList = some (d, ps)) : ∃ l : List UInt8, l.length = len ∧ Bytes W (.slice a len cap) l := by
  rcases open_ints Tryd.underlying22 Tryd.underlying5 (by kernel_rfl) hf with ⟨hcs, _⟩ | ⟨x, l, c, zs, hcs, _, hl, hm, hz, _, hcell, hwz⟩
  · simp [Value.cells] at hcs
    obtain ⟨rfl, rfl, rfl⟩ := hcs
    exact ⟨[], rfl, none, 0, rfl, by simp, by unfold maxLen; omega, fun _ => rfl, fun h => absurd rfl h⟩
  · simp [Value.cells] at hcs
    obtain ⟨rfl, rfl, rfl⟩ := hcs
    have hzl : len ≤ zs.length := by split at hz <;> omega
    have hlen : (toBytes (zs.take len)).length = len := by simp [toBytes]; omega
    refine ⟨toBytes (zs.take len), hlen, some x, cap, by rw [hlen], by omega, hm, (fun h => by cases h), fun hne => ?_⟩
    have hpos : 0 < len := by
      rcases Nat.eq_zero_or_pos len with h | h
      · exact absurd (by rw [h]; simp [toBytes]) hne
      · exact h
    obtain ⟨b, off, rfl, hc⟩ := ints_at hcell (by omega)
    refine ⟨b, off, rfl, fun i hi => ?_⟩
    rw [hlen] at hi
    rw [hc i (by omega)]
    have hi' : i < zs.length := by omega
    have hmem : zs[i] ∈ zs := List.getElem_mem hi'
    have hbd := bounds_u8 (hwz _ hmem)
    have e1 : zs.getD i 0 = zs[i] := by simp [List.getD, List.getElem?_eq_getElem hi']
    have e2 : (toBytes (zs.take len)).getD i 0 = UInt8.ofNat zs[i].toNat := by
      simp [toBytes, List.getD, hi, List.getElem?_eq_getElem hi']
    rw [e1, e2]
    congr 2
    simp
    omega

end Go.Proofs.Qxb6619326aDoor
