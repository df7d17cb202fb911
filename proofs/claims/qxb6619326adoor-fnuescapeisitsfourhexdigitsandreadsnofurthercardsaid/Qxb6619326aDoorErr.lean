/-
  THE WALKS of the road of the error: stringslite.Clone, strconv.syntaxError, strconv.toError, strconv.ParseUint (base 16, 16 bits, four bytes). (After the guide's own walks of these at base 10.)
-/
import Derived.Test.Qxb6619326aDoorParse
import Derived.Lib.BufferWrite
import Derived.Lib.UnsafeStr
import Derived.Lib.IfaceEq
import Derived.Laws.MakeOwn
import Derived.RegionTactic
import Derived.Deep.RegionWith
namespace Go.Proofs.Qxb6619326aDoor
open Go.RowKit

theorem lt_of_cell {w : World} {a : Addr} {v : Value} (h : w.cell? a = some v) : a.block < w.heap.size := by
  rcases Nat.lt_or_ge a.block w.heap.size with h' | h'
  · exact h'
  · simp [World.cell?, Array.getElem?_eq_none h'] at h
theorem cells5 : Tryd.prog.cellsOf 5 = 1 := by kernel_rfl
theorem info5 : (Tryd.prog.info? 5).map (fun i => (i.zero, i.size, i.bytes)) = some (some (.int .u8 0), 1, 1) := by kernel_rfl
theorem comp37 : (Tryd.prog.info? 37).map (·.comparable) = some true := by kernel_rfl

theorem below_bytes (w : World) (e : TypeId) (s : ByteArray) : Below w.heap.size w (Lib.bytesWorld w e s) :=
  ⟨rfl, rfl, rfl, by rw [Lib.bytesWorld_size]; omega, fun k hk => Lib.bytesWorld_at_old w e s k hk⟩

set_option maxHeartbeats 4000000 in
set_option maxRecDepth 100000 in
/-- internal/stringslite.Clone, of a text that is not empty. -/
theorem clone_any (s : ByteArray) (h0 : s.size ≠ 0) (w : World) (hlim : s.size ≤ 281474976710656) :
    Calls Tryd.prog 21 #[.string s] w fun e w' => e = .returned (.string s) ∧ Below w.heap.size w w' := by
  obtain ⟨i0, hi, hz0, hz1, hz2⟩ := info_parts info5
  have hinfo : (Tryd.prog.info? 5).map (·.size) = some 1 := by rw [hi]; simp [hz1]
  obtain ⟨M, hM⟩ : ∃ M, M = madeCells (Value.int .u8 0).cells (((s.size : Nat) : Int).toNat * i0.size) := ⟨_, rfl⟩
  have hMs : M.size = s.size := by rw [hM, size_madeCells, hz1]; simp
  have hmk : ∀ W : World, (Instr.makeSlice 22 (.int .i64 (s.size : Int)) (.int .i64 (s.size : Int))).run Tryd.prog W = .ok (.slice (some ⟨W.heap.size, 0, none⟩) s.size s.size) (W.alloc (.cells M 5)) := fun W => by
    have h := run_make (P := Tryd.prog) W 22 5 i0 (.int .u8 0) Tryd.underlying22 hi hz0 .i64 .i64 (s.size : Int) (s.size : Int) (by omega) (by omega) (by rw [hz2]; omega) (by omega)
    rw [← hM] at h
    simpa using h
  clear hM
  have hcp := Lib.run_copy_row_string (P := Tryd.prog) (w.alloc (.cells M 5)) 22 9 3 5 w.heap.size 0 s.size s.size s M 5 Tryd.underlying22 hinfo (heap_alloc_new w _) (Nat.le_refl _) (by omega)
  obtain ⟨Y, hY⟩ : ∃ Y, Y = (M.toList.take 0 ++ Lib.byteCells s.data.toList ++ M.toList.drop (0 + s.size)).toArray := ⟨_, rfl⟩
  rw [← hY] at hcp
  have hYl : Y.toList = Lib.byteCells s.data.toList := by
    rw [hY, List.toList_toArray, List.take_zero, List.nil_append, List.drop_of_length_le (by rw [Array.length_toList]; omega), List.append_nil]
  have hYs : Y.size = s.size := by rw [← Array.length_toList, hYl, Lib.byteCells_length, ← Lib.size_eq]
  have hgY : ((w.alloc (.cells M 5)).setRow w.heap.size Y).heap[w.heap.size]? = some (.cells Y 5 (0, 0)) := setRow_heap _ _ M _ 5 (0, 0) (heap_alloc_new w _)
  have hne : s.data.toList ≠ [] := fun e => h0 (by rw [Lib.size_eq, e]; rfl)
  have hUS := Lib.run_unsafeString_row (P := Tryd.prog) ((w.alloc (.cells M 5)).setRow w.heap.size Y) 48 3 9 5 Tryd.underlying48 cells5 w.heap.size Y.size (by unfold World.shape?; rw [hgY]) s.data.toList hne (by rw [← Lib.size_eq]; omega) (by rw [← Lib.size_eq]; omega)
    (fun j x hx => Lib.cells_of_row hgY Y.size j _ (by rw [List.take_of_length_le (by rw [Array.length_toList]; exact Nat.le_refl _), hYl]; simp [Lib.byteCells, hx]))
  rw [← Lib.size_eq] at hUS
  clear hY
  go_enter Tryd.func21, Tryd.ntmps21
  go_wp2
  go_ret
  have hb1 : Below w.heap.size w (w.alloc (.cells M 5)) := (Below.refl _ w).alloc (Nat.le_refl _) _
  have hb2 : Below w.heap.size (w.alloc (.cells M 5)) ((w.alloc (.cells M 5)).setRow w.heap.size Y) := ⟨rfl, rfl, rfl, by simp, fun k hk => setRow_other _ _ _ _ (by omega)⟩
  exact ⟨rfl, Lib.below_freeze (hb1.trans hb2) (p := ⟨w.heap.size, 0, none⟩) (Nat.le_refl _) _⟩

set_option maxHeartbeats 4000000 in
set_option maxRecDepth 100000 in
/-- strconv.syntaxError. -/
theorem syntax_any (fn s : ByteArray) (h0 : s.size ≠ 0) (te : TypeId) (pe : Value) (w : World) (hlim : s.size ≤ 281474976710656) (hv : w.cell? ⟨0, 0, none⟩ = some (.iface te pe)) :
    Calls Tryd.prog 17 #[.string fn, .string s] w fun e w' => (∃ N, e = .returned (.pointer (some ⟨N, 0, none⟩))) ∧ Below w.heap.size w w' := by
  have hG : 0 < w.heap.size := lt_of_cell hv
  have hvd : w.drew.cell? ⟨0, 0, none⟩ = some _ := hv
  go_enter Tryd.func17, Tryd.ntmps17
  go_wp2
  go_region_with (go_at_call 21; refine (clone_any s h0 _ hlim).mono ?_; rintro e w2 ⟨rfl, hbel⟩; have hv2 : w2.cell? ⟨0, 0, none⟩ = some _ := (hbel.cell (show (⟨0, 0, none⟩ : Addr).block < w.drew.heap.size from hG)).trans hvd)
  all_goals (
    go_wp2
    go_ret
    have hs2 : w.heap.size ≤ w2.heap.size := hbel.size
    exact ⟨⟨_, rfl⟩, ((Below.drew (Below.refl _ w)).trans hbel).alloc hs2 _⟩)

set_option maxHeartbeats 4000000 in
set_option maxRecDepth 100000 in
/-- strconv.toError, at the inner package's ErrSyntax. -/
theorem toError_any (fn s : ByteArray) (h0 : s.size ≠ 0) (base bits : Int) (te : TypeId) (pe : Value) (w : World) (hlim : s.size ≤ 281474976710656) (hv : w.cell? ⟨0, 0, none⟩ = some (.iface te pe)) :
    Calls Tryd.prog 14 #[.string fn, .string s, .int .i64 base, .int .i64 bits, .iface 37 (.int .i64 2)] w fun e w' => (∃ N, e = .returned (.iface 40 (.pointer (some ⟨N, 0, none⟩)))) ∧ Below w.heap.size w w' := by
  have heq : ∀ W, (binOp .eql 33 (.iface 37 (.int .i64 2)) (.iface 37 (.int .i64 2))).run Tryd.prog W = .ok (.bool true) W := fun W => Lib.run_eql_iface_int W 2 2 Tryd.underlying33 comp37 Tryd.underlying37
  go_enter Tryd.func14, Tryd.ntmps14
  go_wp2_with (go_at_call 17; refine (syntax_any fn s h0 te pe _ hlim hv).mono ?_; rintro e w2 ⟨⟨N, rfl⟩, h3⟩)
  go_ret
  exact ⟨⟨N, rfl⟩, h3⟩

set_option maxHeartbeats 4000000 in
set_option maxRecDepth 100000 in
/-- strconv.ParseUint(s, 16, 16), four bytes: the number and nil. -/
theorem parseUint_some (t : ByteArray) (h4 : t.size = 4) (n : Nat) (hn : parseH 0 t.data.toList = some n) (w : World) :
    Calls Tryd.prog 12 #[.string t, .int .i64 16, .int .i64 16] w fun e w' => e = .returned (.tuple #[.int .u64 n, .nilIface]) ∧ Below w.heap.size w w' := by
  have hp := parse_any t h4 w
  rw [hn] at hp
  clear hn h4
  go_enter Tryd.func12, Tryd.ntmps12
  go_wp2_with (go_at_call 13; refine hp.mono ?_; rintro e w2 ⟨rfl, rfl⟩; unfold tupleOf)
  go_ret2
  exact ⟨rfl, below_bytes w 5 t⟩

set_option maxHeartbeats 4000000 in
set_option maxRecDepth 100000 in
/-- strconv.ParseUint(s, 16, 16), four bytes: 0 and an error. -/
theorem parseUint_none (t : ByteArray) (h4 : t.size = 4) (hn : parseH 0 t.data.toList = none) (te : TypeId) (pe : Value) (w : World) (hv : w.cell? ⟨0, 0, none⟩ = some (.iface te pe)) :
    Calls Tryd.prog 12 #[.string t, .int .i64 16, .int .i64 16] w fun e w' => (∃ N, e = .returned (.tuple #[.int .u64 0, .iface 40 (.pointer (some ⟨N, 0, none⟩))])) ∧ Below w.heap.size w w' := by
  have hp := parse_any t h4 w
  rw [hn] at hp
  have hb := below_bytes w 5 t
  have hv2 : (Lib.bytesWorld w 5 t).cell? ⟨0, 0, none⟩ = some (.iface te pe) := (hb.cell (p := ⟨0, 0, none⟩) (lt_of_cell hv)).trans hv
  have h0 : t.size ≠ 0 := by omega
  have hl : t.size ≤ 281474976710656 := by omega
  clear hn h4
  obtain ⟨W1, hW1⟩ : ∃ W1, W1 = Lib.bytesWorld w 5 t := ⟨_, rfl⟩
  rw [← hW1] at hb hp hv2
  clear hW1
  go_enter Tryd.func12, Tryd.ntmps12
  go_wp2_with (first | (go_at_call 13; refine hp.mono ?_; rintro e w2 ⟨rfl, rfl⟩; unfold tupleOf) | (go_at_call 14; refine (toError_any _ t h0 _ _ te pe _ hl hv2).mono ?_; rintro e w2 ⟨⟨N, rfl⟩, h3⟩))
  go_ret2
  exact ⟨⟨N, rfl⟩, hb.trans (h3.mono hb.size)⟩

end Go.Proofs.Qxb6619326aDoor
