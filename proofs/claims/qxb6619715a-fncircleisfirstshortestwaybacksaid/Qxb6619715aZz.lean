/-
  THE WALK of ZZCircle; two pointers of one rule.
-/
import Derived.Test.Qxb6619715aCircle2
namespace Go.Proofs.Qxb6619715a
open Go.RowKit

theorem zz_any {a0 a1 a2 : Value} {w : World} {R : Value → World → Prop} (h : Calls Try.prog 20 #[a0, a1, a2] w fun e w' => ∃ v, e = .returned v ∧ R v w') : Calls Try.prog 15 #[a0, a1, a2] w fun e w' => ∃ v, e = .returned v ∧ R v w' := by
  go_enter Try.func15, Try.ntmps15
  go_wp2_with (go_at_call 20; refine Calls.mono h ?_; rintro e w' ⟨v, rfl, hv⟩)
  go_ret
  exact ⟨v, rfl, hv⟩

theorem neq51_same (b : Nat) (w : World) : (binOp .neq 51 (.pointer (some ⟨b, 0, none⟩)) (.pointer (some ⟨b, 0, none⟩))).run Try.prog w = .ok (.bool false) w := by
  have h57 : ∃ j, Try.prog.info? 57 = some j := by
    have h : (Try.prog.info? 57).isSome = true := by kernel_rfl
    exact Option.isSome_iff_exists.1 h
  obtain ⟨j, hj⟩ := h57
  have h : ∀ d : Nat, (Op.equalIn (d + 1) 51 (.pointer (some ⟨b, 0, none⟩)) (.pointer (some ⟨b, 0, none⟩))).run Try.prog w = .ok true w := fun d => by
    simp [Op.equalIn, run_underlying Try.underlying51, sizeOf, typeInfo, hj, run_sameAddr_same]
  simp only [binOp]
  simp [Op.equal, Op.maxDepth, h 9999]

end Go.Proofs.Qxb6619715a
