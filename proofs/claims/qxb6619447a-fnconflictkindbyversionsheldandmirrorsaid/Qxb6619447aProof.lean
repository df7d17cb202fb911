/-
  THE LAW's OWN WALK, and THE STATEMENT 'Rows.FnConflictKindByVersionsHeldAndMirrorSaid' (the frame: the shell that rides with the seat).
-/
import Derived.Test.Qxb6619447aWalks
import Derived.ProofKit
import Derived.OpenShut
import Derived.ShutString
namespace Go.Proofs.Qxb6619447a
open Go.ChangeShapes Go.WideShapes Go.ChangeAt Go.RowKit
open Go.ChangeMaps (open_string shut_string)

theorem beq_false_of {s : ByteArray} {l : List UInt8} (h : s.data.toList ≠ l) : (s.toList == l) = false := by
  rw [ByteArray.toList_eq]; simpa using h

theorem law_early (s : ByteArray) (hs : s.size ≤ maxLen) (hbig : 65536 < s.size) (w : World) :
    Calls Try.prog 4 #[.string s] w fun e w' => e = .returned (.bool true) ∧ w' = w := by
  unfold maxLen at hs
  by_cases h : 1048576 < s.size
  · go_enter Try.func4, Try.ntmps4
    go_wp2
    go_ret
    exact ⟨rfl, rfl⟩
  · go_enter Try.func4, Try.ntmps4
    go_wp2
    go_ret
    exact ⟨rfl, rfl⟩

set_option maxHeartbeats 1000000 in
theorem law_none (s : ByteArray) (hs : s.size ≤ 65536) (hn : st 48 false false false s.data.toList = none) (w : World) :
    Calls Try.prog 4 #[.string s] w fun e w' => e = .returned (.bool true) ∧ w' = w := by
  have c1 := stage_any s hs
  rw [hn] at c1
  have no (a b c : Bool) : s.data.toList ≠ text a b c := fun h => by rw [h, st_text] at hn; cases hn
  have c2 := fun w => kind_other s w (beq_false_of (no true true true)) (beq_false_of (no false true true)) (beq_false_of (no true true false)) (beq_false_of (no true false true))
  unfold flags at c1
  clear hn no
  go_enter Try.func4, Try.ntmps4
  go_wp2_with (first | (go_at_call 11; refine (c1 _).mono ?_; rintro e w' ⟨rfl, rfl⟩) | (go_at_call 17; refine (c2 _).mono ?_; rintro e w' ⟨rfl, rfl⟩) | go_in)
  go_ret
  exact ⟨rfl, rfl⟩

set_option maxHeartbeats 1000000 in
theorem law_000 (w : World) : Calls Try.prog 4 #[.string ⟨#[]⟩] w fun e w' => e = .returned (.bool true) ∧ w' = w := by
  have c1 := stage_any ⟨#[]⟩ (by decide)
  rw [show st 48 false false false (ByteArray.mk #[]).data.toList = some (false, false, false) by decide] at c1
  unfold flags at c1
  go_enter Try.func4, Try.ntmps4
  go_wp2_with (first | (go_at_call 11; refine (c1 _).mono ?_; rintro e w' ⟨rfl, rfl⟩) | (go_at_call 10; go_in))
  refine (zk_000 _).mono ?_
  rintro e w' ⟨rfl, rfl⟩
  go_wp2_with (go_at_call 13; refine (text_000 _).mono ?_; rintro e w' ⟨rfl, rfl⟩)
  refine (zk_000 _).mono ?_
  rintro e w' ⟨rfl, rfl⟩
  go_wp2
  go_ret
  exact ⟨rfl, rfl⟩

set_option maxHeartbeats 1000000 in
theorem law_100 (w : World) : Calls Try.prog 4 #[.string ⟨#[49]⟩] w fun e w' => e = .returned (.bool true) ∧ w' = w := by
  have c1 := stage_any ⟨#[49]⟩ (by decide)
  rw [show st 48 false false false (ByteArray.mk #[49]).data.toList = some (true, false, false) by decide] at c1
  unfold flags at c1
  go_enter Try.func4, Try.ntmps4
  go_wp2_with (first | (go_at_call 11; refine (c1 _).mono ?_; rintro e w' ⟨rfl, rfl⟩) | (go_at_call 10; go_in))
  refine (zk_100 _).mono ?_
  rintro e w' ⟨rfl, rfl⟩
  go_wp2_with (go_at_call 13; refine (text_100 _).mono ?_; rintro e w' ⟨rfl, rfl⟩)
  refine (zk_100 _).mono ?_
  rintro e w' ⟨rfl, rfl⟩
  go_wp2
  go_ret
  exact ⟨rfl, rfl⟩

set_option maxHeartbeats 1000000 in
theorem law_010 (w : World) : Calls Try.prog 4 #[.string ⟨#[50]⟩] w fun e w' => e = .returned (.bool true) ∧ w' = w := by
  have c1 := stage_any ⟨#[50]⟩ (by decide)
  rw [show st 48 false false false (ByteArray.mk #[50]).data.toList = some (false, true, false) by decide] at c1
  unfold flags at c1
  go_enter Try.func4, Try.ntmps4
  go_wp2_with (first | (go_at_call 11; refine (c1 _).mono ?_; rintro e w' ⟨rfl, rfl⟩) | (go_at_call 10; go_in))
  refine (zk_010 _).mono ?_
  rintro e w' ⟨rfl, rfl⟩
  go_wp2_with (go_at_call 13; refine (text_001 _).mono ?_; rintro e w' ⟨rfl, rfl⟩)
  refine (zk_001 _).mono ?_
  rintro e w' ⟨rfl, rfl⟩
  go_wp2
  go_ret
  exact ⟨rfl, rfl⟩

set_option maxHeartbeats 1000000 in
theorem law_001 (w : World) : Calls Try.prog 4 #[.string ⟨#[51]⟩] w fun e w' => e = .returned (.bool true) ∧ w' = w := by
  have c1 := stage_any ⟨#[51]⟩ (by decide)
  rw [show st 48 false false false (ByteArray.mk #[51]).data.toList = some (false, false, true) by decide] at c1
  unfold flags at c1
  go_enter Try.func4, Try.ntmps4
  go_wp2_with (first | (go_at_call 11; refine (c1 _).mono ?_; rintro e w' ⟨rfl, rfl⟩) | (go_at_call 10; go_in))
  refine (zk_001 _).mono ?_
  rintro e w' ⟨rfl, rfl⟩
  go_wp2_with (go_at_call 13; refine (text_010 _).mono ?_; rintro e w' ⟨rfl, rfl⟩)
  refine (zk_010 _).mono ?_
  rintro e w' ⟨rfl, rfl⟩
  go_wp2
  go_ret
  exact ⟨rfl, rfl⟩

set_option maxHeartbeats 1000000 in
theorem law_110 (w : World) : Calls Try.prog 4 #[.string ⟨#[49, 50]⟩] w fun e w' => e = .returned (.bool true) ∧ w' = w := by
  have c1 := stage_any ⟨#[49, 50]⟩ (by decide)
  rw [show st 48 false false false (ByteArray.mk #[49, 50]).data.toList = some (true, true, false) by decide] at c1
  unfold flags at c1
  go_enter Try.func4, Try.ntmps4
  go_wp2_with (first | (go_at_call 11; refine (c1 _).mono ?_; rintro e w' ⟨rfl, rfl⟩) | (go_at_call 10; go_in))
  refine (zk_110 _).mono ?_
  rintro e w' ⟨rfl, rfl⟩
  go_wp2_with (go_at_call 13; refine (text_101 _).mono ?_; rintro e w' ⟨rfl, rfl⟩)
  refine (zk_101 _).mono ?_
  rintro e w' ⟨rfl, rfl⟩
  go_wp2
  go_ret
  exact ⟨rfl, rfl⟩

set_option maxHeartbeats 1000000 in
theorem law_101 (w : World) : Calls Try.prog 4 #[.string ⟨#[49, 51]⟩] w fun e w' => e = .returned (.bool true) ∧ w' = w := by
  have c1 := stage_any ⟨#[49, 51]⟩ (by decide)
  rw [show st 48 false false false (ByteArray.mk #[49, 51]).data.toList = some (true, false, true) by decide] at c1
  unfold flags at c1
  go_enter Try.func4, Try.ntmps4
  go_wp2_with (first | (go_at_call 11; refine (c1 _).mono ?_; rintro e w' ⟨rfl, rfl⟩) | (go_at_call 10; go_in))
  refine (zk_101 _).mono ?_
  rintro e w' ⟨rfl, rfl⟩
  go_wp2_with (go_at_call 13; refine (text_110 _).mono ?_; rintro e w' ⟨rfl, rfl⟩)
  refine (zk_110 _).mono ?_
  rintro e w' ⟨rfl, rfl⟩
  go_wp2
  go_ret
  exact ⟨rfl, rfl⟩

set_option maxHeartbeats 1000000 in
theorem law_011 (w : World) : Calls Try.prog 4 #[.string ⟨#[50, 51]⟩] w fun e w' => e = .returned (.bool true) ∧ w' = w := by
  have c1 := stage_any ⟨#[50, 51]⟩ (by decide)
  rw [show st 48 false false false (ByteArray.mk #[50, 51]).data.toList = some (false, true, true) by decide] at c1
  unfold flags at c1
  go_enter Try.func4, Try.ntmps4
  go_wp2_with (first | (go_at_call 11; refine (c1 _).mono ?_; rintro e w' ⟨rfl, rfl⟩) | (go_at_call 10; go_in))
  refine (zk_011 _).mono ?_
  rintro e w' ⟨rfl, rfl⟩
  go_wp2_with (go_at_call 13; refine (text_011 _).mono ?_; rintro e w' ⟨rfl, rfl⟩)
  refine (zk_011 _).mono ?_
  rintro e w' ⟨rfl, rfl⟩
  go_wp2
  go_ret
  exact ⟨rfl, rfl⟩

set_option maxHeartbeats 1000000 in
theorem law_111 (w : World) : Calls Try.prog 4 #[.string ⟨#[49, 50, 51]⟩] w fun e w' => e = .returned (.bool true) ∧ w' = w := by
  have c1 := stage_any ⟨#[49, 50, 51]⟩ (by decide)
  rw [show st 48 false false false (ByteArray.mk #[49, 50, 51]).data.toList = some (true, true, true) by decide] at c1
  unfold flags at c1
  go_enter Try.func4, Try.ntmps4
  go_wp2_with (first | (go_at_call 11; refine (c1 _).mono ?_; rintro e w' ⟨rfl, rfl⟩) | (go_at_call 10; go_in))
  refine (zk_111 _).mono ?_
  rintro e w' ⟨rfl, rfl⟩
  go_wp2_with (go_at_call 13; refine (text_111 _).mono ?_; rintro e w' ⟨rfl, rfl⟩)
  refine (zk_111 _).mono ?_
  rintro e w' ⟨rfl, rfl⟩
  go_wp2
  go_ret
  exact ⟨rfl, rfl⟩

theorem bytes_of {s : ByteArray} {l : List UInt8} (h : s.data.toList = l) : s = ⟨l.toArray⟩ := bytes_inj h

theorem walk (a0 : ByteArray) (w0 : a0.size ≤ maxLen) (w : World) :
    Calls Try.prog 4 #[.string a0] w fun e w' => e = .returned (.bool true) ∧ w' = w := by
  by_cases hbig : 65536 < a0.size
  · exact law_early a0 w0 hbig w
  cases h : st 48 false false false a0.data.toList with
  | none => exact law_none a0 (by omega) h w
  | some r =>
    obtain ⟨a, b, c, ht, _⟩ := st48 h
    have hs := bytes_of ht
    clear h ht w0 hbig
    subst hs
    cases a <;> cases b <;> cases c
    · exact law_000 w
    · exact law_001 w
    · exact law_010 w
    · exact law_011 w
    · exact law_100 w
    · exact law_101 w
    · exact law_110 w
    · exact law_111 w

theorem own : ownKnob Try.prog.godebug = none := by kernel_rfl

set_option maxRecDepth 100000 in
theorem lifted (os : Os) (started : os.Started) (H : Type) (enc : TypeId × Value → H) :
    ReturnsInHanded {} Try.checked os 4 .any (Rows.fnConflictKindByVersionsHeldAndMirrorSpec.pre6 enc Try.prog Try.f4 Rows.fnConflictKindByVersionsHeldAndMirrorRow.domain false) (Rows.fnConflictKindByVersionsHeldAndMirrorSpec.post enc Try.prog Try.f4 false true false false) := by
  refine returnsInHanded_of_change (C := Try.checked) own started (by kernel_rfl) Try.func4
    (ChangeSpec.witness6 (enc := enc) (C := Try.checked) false ⟨#[], #[.string ByteArray.empty], []⟩ 8 (by kernel_rfl) (by kernel_rfl) (by kernel_rfl) (by kernel_rfl)) ?_
  intro W base args ds gs before hval0 hW hcnd _
  have hval : ∀ (j : Nat) t v, Try.f4.params[j]? = some t → args[j]? = some v → Value.okWide Try.prog W .any base t v := hval0
  have hW' := hW
  obtain ⟨p, q, hA0, hV, rfl, hfz, hnd⟩ := hW
  have hA : DataW.TrodAll enc Try.prog W 0 (fun _ => true) true Try.f4.params.toList args.toList ds p := hA0
  rw [Try.params4] at hA hval
  obtain ⟨v0, vs0, d0, ds0, p0, q0, hargs, rfl, rfl, h0, r0⟩ := trodAll_cons hA
  obtain ⟨rfl, rfl, rfl⟩ := trodAll_nil r0
  obtain rfl : args = #[v0] := by cases args; simp_all
  obtain ⟨rfl, rfl⟩ := trodVars_none hV
  obtain ⟨a0, rfl, rfl, rfl, w0⟩ := open_string Try.underlying9 (hval 0 9 v0 rfl rfl) h0
  clear hA0 hval0
  simp only [List.append_nil] at hW'
  refine (walk a0 w0 W).mono fun e W' ⟨he, hw⟩ => ?_
  subst he
  subst hw
  exact ⟨_, rfl, post_of_same (pa := []) (pv := []) hW' (fun _ _ _ => (trodAll_cons_mk (shut_bool Try.underlying4 _) trodAll_mk0)) (fun sp _ => (trodAll_cons_mk (shut_string Try.underlying9 w0) trodAll_mk0)) (fun _ _ => rfl) rfl
    (World.keptBut_refl _ _) (fun _ => rfl) (ok_one (by kernel_rfl) rfl (okWide_bool_mk Try.underlying4 _))⟩

theorem over : Rows.fnConflictKindByVersionsHeldAndMirrorRow.holds Try.pinned (OpenSpec.ofChange Rows.fnConflictKindByVersionsHeldAndMirrorSpec) :=
  OpenClaim.holds_of_wide 4 Try.f4 rfl rfl rfl rfl rfl rfl rfl ⟨rfl, rfl, rfl, rfl, rfl⟩ rfl rfl rfl rfl rfl (by kernel_rfl) Try.func4 (by kernel_rfl)
    (of_decide_eq_true (by kernel_rfl)) (by unfold Func.isWrapper; first | (rw [if_pos (by decide +kernel)]; kernel_rfl) | (rw [if_neg (by decide +kernel)]; exact ⟨rfl, rfl⟩))
    (fun os started H enc _ => lifted os started H enc)

/-- THE STATEMENT. -/
theorem proved : Rows.FnConflictKindByVersionsHeldAndMirrorSaid := over
end Go.Proofs.Qxb6619447a
