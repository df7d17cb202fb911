/-
  THE WALK of the law FnUEscapeIsItsFourHexDigitsAndReadsNoFurther.
-/
import Derived.Test.Qxb6619326aDoorModel
import Derived.Test.Qxb6619326aDoorText
import Derived.Test.Qxb6619326aDoorReads
import Derived.Laws.CopyOwn
import Derived.WalkSpells
namespace Go.Proofs.Qxb6619326aDoor
open Go.RowKit

/-- The cells behind a slice's address, as an append's or a copy's source asks for them. -/
theorem Bytes.src {w : World} {a : Option Addr} {n cap : Nat} {l : List UInt8} (h : Bytes w (.slice a n cap) l) : n = l.length ∧ n ≤ cap ∧ cap ≤ maxLen ∧ (a = none → cap = 0) ∧ ∀ ad, a = some ad → ∀ j u, (bc l)[j]? = some u → w.cell? (ad.add j) = some u := by
  obtain ⟨a', cap', he, h1, h2, h4, h3⟩ := h
  cases he
  refine ⟨rfl, h1, h2, h4, fun ad had j u hj => ?_⟩
  have hjl : j < l.length := by have := (List.getElem?_eq_some_iff.1 hj).1; simpa [bc_length] using this
  obtain ⟨g, o, ha, hc⟩ := h3 (by intro h; rw [h] at hjl; simp at hjl)
  rw [ha] at had
  cases had
  rw [add_plain, hc j hjl]
  simp [bc, List.getElem?_eq_getElem hjl] at hj
  subst hj
  simp [List.getD, List.getElem?_eq_getElem hjl]

/-- A row that was laid over whole. -/
theorem bytes_of_row {w : World} {g : Nat} {t : TypeId} {l : List UInt8} {cur : List Value} (h : w.heap[g]? = some (.cells (splice cur 0 (bc l)).toArray t (0, 0))) (hc : cur.length = l.length) (hm : l.length ≤ maxLen) : Bytes w (.slice (some ⟨g, 0, none⟩) l.length l.length) l := by
  refine ⟨some ⟨g, 0, none⟩, l.length, rfl, Nat.le_refl _, hm, (fun h => by cases h), fun _ => ⟨g, 0, rfl, fun i hi => ?_⟩⟩
  have e : splice cur 0 (bc l) = bc l := by simp [splice, bc_length, hc]
  rw [e] at h
  simp [World.cell?, h, bc, List.getD, List.getElem?_eq_getElem hi]

/-- 'joined' holds b, then tail. -/
theorem joined_bytes {w : World} {N n : Nat} {v : Value} {l t : List UInt8} (h : w.ownsRow N 5 1 v n ([] ++ bc l ++ bc t)) : Bytes w v (l ++ t) := by
  have e : [] ++ bc l ++ bc t = bc (l ++ t) := by simp [bc]
  rw [e] at h
  exact bytes_of_owns h

set_option maxHeartbeats 4000000 in
theorem is_early (ab tb : Option Addr) (lb cb lt ct : Nat) (w : World) (hb : lb ≤ maxLen) (ht : lt ≤ maxLen) (h : 1048576 < lb ∨ 1048576 < lt ∨ 1048576 < lb + lt ∨ 524288 < lb ∨ 524288 < lt) :
    Calls Tryd.prog 3 #[.slice ab lb cb, .slice tb lt ct] w fun e w' => e = .returned (.bool true) ∧ Below w.heap.size w w' := by
  unfold maxLen at hb ht
  by_cases h1 : 1048576 < lb
  · clear h
    go_enter Tryd.func3, Tryd.ntmps3
    go_wp2
    go_ret
    exact ⟨rfl, Below.refl _ _⟩
  by_cases h2 : 1048576 < lt
  · clear h
    go_enter Tryd.func3, Tryd.ntmps3
    go_wp2
    go_ret
    exact ⟨rfl, Below.refl _ _⟩
  by_cases h3 : 1048576 < lb + lt
  · clear h
    go_enter Tryd.func3, Tryd.ntmps3
    go_wp2
    go_ret
    exact ⟨rfl, Below.refl _ _⟩
  by_cases h4 : 524288 < lb
  · clear h
    go_enter Tryd.func3, Tryd.ntmps3
    go_wp2
    go_ret
    exact ⟨rfl, Below.refl _ _⟩
  · have h5 : 524288 < lt := by omega
    clear h
    go_enter Tryd.func3, Tryd.ntmps3
    go_wp2
    go_ret
    exact ⟨rfl, Below.refl _ _⟩

set_option maxHeartbeats 4000000 in
/-- b is nil. -/
theorem is_nil (tb : Option Addr) (lt ct : Nat) (w : World) (h5 : lt ≤ 524288) :
    Calls Tryd.prog 3 #[.slice none 0 0, .slice tb lt ct] w fun e w' => e = .returned (.bool true) ∧ Below w.heap.size w w' := by
  have hn := fun (w : World) => run_neq_slice_nil_any (P := Tryd.prog) w 22 5 none 0 0 0 0 Tryd.underlying22
  have c1 := fun w => model_short none 0 0 (by decide) w
  have c2 := fun w => esc_short none 0 0 (by decide) w
  unfold runeOf at c1 c2
  go_enter Tryd.func3, Tryd.ntmps3
  go_wp2_with (first | (go_at_call 6; refine (c1 _).mono ?_; rintro e w' ⟨rfl, rfl⟩) | (go_at_call 11; refine (c2 _).mono ?_; rintro e w' ⟨rfl, rfl⟩) | go_in)
  go_ret
  exact ⟨rfl, Below.refl _ _⟩

theorem made_row {w1 : World} {N n : Nat} {xs : List Value} (h : w1.ownsRow N 5 1 (.slice (some ⟨N, 0, none⟩) n n) n xs) : ∃ cur : List Value, w1.heap[N]? = some (.cells cur.toArray 5 (0, 0)) ∧ cur.length = n := by
  rcases h.2 with ⟨h1, _⟩ | ⟨g, cap, cur, hv, _, hh, _, _, hs, _⟩
  · cases h1
  · cases hv
    exact ⟨cur.toList, by simpa using hh, by simpa using hs⟩

set_option maxHeartbeats 8000000 in
/-- b is not nil. -/
theorem is_main (ab : Addr) (cb : Nat) (tb : Option Addr) (lt ct : Nat) (bl tl : List UInt8) (w : World) (hb : Bytes w (.slice (some ab) bl.length cb) bl) (ht : Bytes w (.slice tb lt ct) tl) (te : TypeId) (pe : Value) (hg : w.cell? ⟨0, 0, none⟩ = some (.iface te pe))
    (h4 : bl.length ≤ 524288) (h5 : lt ≤ 524288) :
    Calls Tryd.prog 3 #[.slice (some ab) bl.length cb, .slice tb lt ct] w fun e w' => e = .returned (.bool true) ∧ Below w.heap.size w w' := by
  obtain ⟨i0, hi, hz0, hz1, hz2⟩ := info_parts info5
  have hinfo : (Tryd.prog.info? 5).map (·.size) = some 1 := by rw [hi]; simp [hz1]
  have hn := fun (w : World) => run_neq_slice_nil_any (P := Tryd.prog) w 22 5 (some ab) bl.length cb 0 0 Tryd.underlying22
  obtain ⟨_, hlcb, hcbm, _, hsrc⟩ := hb.src
  obtain ⟨hlt, hlct, hctm, htn, htsrc⟩ := ht.src
  have HT : Hid (lt = tl.length) := hlt
  have HTN : Hid (tb = none → ct = 0) := htn
  have HTB : Hid (Bytes w (.slice tb lt ct) tl) := ht
  have HG : Hid (w.cell? ⟨0, 0, none⟩ = some (.iface te pe)) := hg
  have HS : Hid (∀ j u, (bc bl)[j]? = some u → w.cell? (ab.add j) = some u) := hsrc ab rfl
  clear hb ht hlt htn hsrc htsrc hg hcbm hctm hlct
  go_enter Tryd.func3, Tryd.ntmps3
  go_wp2_with (first | (at_make; refine wpList_make_full _ rfl _ _ 22 rfl w.heap.size 5 i0 (.int .u8 0) 1 Tryd.underlying22 hi hz0 hz1 _ _ _ _ bl.length rfl rfl rfl rfl ?b2 ?b3 (Nat.le_refl _) ?_) | (go_at_call 5; go_in))
  case b2 => first | omega | (rw [hz2]; omega)
  case b3 => unfold maxLen; omega
  intro w1 hown1 hgrow1
  have hnx1 : Below w.heap.size w w1 := (Below.refl _ _).grown hgrow1 (Nat.le_refl _) (fun k h => by cases h)
  obtain ⟨cur, hcur, hcl⟩ := made_row hown1
  have HC : Hid (w1.heap[w.heap.size]? = some (.cells cur.toArray 5 (0, 0))) := hcur
  have HL : Hid (cur.length = bl.length) := hcl
  clear hgrow1 hown1 hcur hcl
  go_wp2_with (refine wpList_copy_splice rfl _ _ 22 22 rfl 5 Tryd.underlying22 hinfo _ _ _ _ _ _ rfl rfl w.heap.size 0 cur 5 HC.out (bc bl) ?c1 ?c2 ?c3 (bc_one bl) w.heap.size w hnx1 (Nat.le_refl _) ?_)
  case c1 => simp [bc_length]
  case c2 =>
    intro _
    first | exact ⟨rfl, ab, rfl, fun j v hj => cell_below hnx1 (HS.out j v hj)⟩ | exact fun j v hj => cell_below hnx1 (HS.out j v hj)
  case c3 => rw [bc_length, HL.out]; omega
  intro w2 HR hnx2
  have HB : Hid (Bytes w2 (.slice (some ⟨w.heap.size, 0, none⟩) bl.length bl.length) bl) := bytes_of_row HR.out HL.out (by unfold maxLen; omega)
  have hm := model_any _ bl w2 HB.out
  have hz := zz_any _ bl w2 HB.out te pe (cell_below hnx2 HG.out)
  clear HC HL HR HS hnx1
  obtain ⟨r, ok, hr⟩ : ∃ r ok, runeOf (escB bl) = .tuple #[.int .i32 r, .bool ok] := by
    cases escB bl with
    | some n => exact ⟨_, _, rfl⟩
    | none => exact ⟨_, _, rfl⟩
  have HRE : Hid (runeOf (escB bl) = .tuple #[.int .i32 r, .bool ok]) := hr
  rw [hr] at hm hz
  clear hr
  by_cases h6 : bl.length < 6
  · go_wp2_with (first | (go_at_call 6; refine hm.mono ?_; rintro e w' ⟨rfl, rfl⟩) | (go_at_call 7; refine hz.mono ?_; rintro e w3 ⟨rfl, hw3⟩))
    go_ret
    exact ⟨rfl, hnx2.trans (hw3.mono hnx2.size)⟩
  · go_wp2_with (first | (go_at_call 6; refine hm.mono ?_; rintro e w' ⟨rfl, rfl⟩) | (go_at_call 7; refine hz.mono ?_; rintro e w3 ⟨rfl, hw3⟩) | (at_make; refine wpList_make_own _ rfl _ _ 22 rfl w.heap.size 5 i0 (.int .u8 0) 1 Tryd.underlying22 hi hz0 hz1 _ _ _ (bl.length + lt) rfl rfl (by omega) ?b4 ?b5 ?b6 ?_))
    case b4 => first | omega | (rw [hz2]; omega)
    case b5 => unfold maxLen; omega
    case b6 => exact Nat.le_trans hnx2.size hw3.size
    intro w4 hown4 hgrow4
    have hnx3 : Below w.heap.size w w3 := hnx2.trans (hw3.mono hnx2.size)
    have hb34 : Below w3.heap.size w3 w4 := (Below.refl _ _).grown hgrow4 (Nat.le_refl _) (fun k h => by cases h)
    have hnx4 : Below w.heap.size w w4 := hnx3.trans (hb34.mono hnx3.size)
    have HB4 : Hid (Bytes w4 (.slice (some ⟨w.heap.size, 0, none⟩) bl.length bl.length) bl) := (HB.out.below hw3).below hb34
    clear hm hz hgrow4
    go_wp2_with (at_builtin; refine wpList_append_fits_any _ rfl _ _ 22 rfl w.heap.size 5 i0 1 Tryd.underlying22 hi hz1 w3.heap.size 0 (bl.length + lt) _ rfl hown4 (some ⟨w.heap.size, 0, none⟩) bl.length bl.length (bc bl) rfl ?c4 ?c5 ?c6 (bc_one bl) ?c7 ?_)
    case c4 => simp [bc_length]
    case c5 => intro h; cases h
    case c6 => first | exact fun ad had => HB4.out.src.2.2.2.2 ad had | exact HB4.out.src.2.2.2.2 _ rfl
    case c7 => omega
    intro w5 hown5 hgrow5
    have h34 : w.heap.size ≤ w3.heap.size := hnx3.size
    have hnx5 : Below w.heap.size w w5 := hnx4.grown hgrow5 hnx4.size (fun k hk => by cases hk; exact h34)
    have hown5b : w5.ownsRow w.heap.size 5 1 (.slice (some ⟨w3.heap.size, 0, none⟩) bl.length (bl.length + lt)) bl.length (bc bl) := by simpa using hown5
    have HT5 : Hid (Bytes w5 (.slice tb lt ct) tl) := HTB.out.below hnx5
    go_wp2_with (at_builtin; refine wpList_append_fits_any _ rfl _ _ 22 rfl w.heap.size 5 i0 1 Tryd.underlying22 hi hz1 w3.heap.size bl.length (bl.length + lt) (bc bl) ?d1 hown5b tb lt ct (bc tl) rfl ?d4 ?d5 ?d6 (bc_one tl) ?d7 ?_)
    case d1 => first | rfl | (simp; done)
    case d4 => simp [bc_length, HT.out]
    case d5 =>
      intro h
      have := HT5.out.src
      have := this.2.2.2.1 h
      omega
    case d6 => exact HT5.out.src.2.2.2.2
    case d7 => omega
    intro w6 hown6 hgrow6
    have hnx6 : Below w.heap.size w w6 := hnx5.grown hgrow6 hnx5.size (fun k hk => by cases hk; exact h34)
    have HJ : Hid (Bytes w6 (.slice (some ⟨w3.heap.size, 0, none⟩) (bl.length + lt) (bl.length + lt)) (bl ++ tl)) := by
      first | exact bytes_of_owns (by simpa [bc] using hown6) | exact joined_bytes (by simpa using hown6)
    have hz6 := zz_any _ (bl ++ tl) w6 HJ.out te pe (cell_below hnx6 HG.out)
    rw [escB_append (by omega), HRE.out] at hz6
    clear hgrow5 hgrow6 hown5 hown5b hown4 hown6 hnx2 hw3 hb34 hnx3 hnx4 hnx5
    go_wp2_with (go_at_call 7; refine hz6.mono ?_; rintro e w7 ⟨rfl, hw7⟩)
    go_ret
    exact ⟨rfl, hnx6.trans (hw7.mono hnx6.size)⟩

theorem is_law (bv tv : Value) (bl tl : List UInt8) (w : World) (hb : Bytes w bv bl) (ht : Bytes w tv tl) (te : TypeId) (pe : Value) (hg : w.cell? ⟨0, 0, none⟩ = some (.iface te pe)) :
    Calls Tryd.prog 3 #[bv, tv] w fun e w' => e = .returned (.bool true) ∧ Below w.heap.size w w' := by
  have hb0 := hb
  have ht0 := ht
  obtain ⟨ab, cb, rfl, h1, h2, h3, _⟩ := hb
  obtain ⟨at_, ct, rfl, k1, k2, _, _⟩ := ht
  by_cases he : 1048576 < bl.length ∨ 1048576 < tl.length ∨ 1048576 < bl.length + tl.length ∨ 524288 < bl.length ∨ 524288 < tl.length
  · exact is_early ab at_ bl.length cb tl.length ct w (by omega) (by omega) he
  · cases ab with
    | none =>
      have hc := h3 rfl
      have hl : bl.length = 0 := by omega
      rw [hc, hl]
      exact is_nil at_ tl.length ct w (by omega)
    | some a => exact is_main a cb at_ tl.length ct bl tl w hb0 ht0 te pe hg (by omega) (by omega)

end Go.Proofs.Qxb6619326aDoor
