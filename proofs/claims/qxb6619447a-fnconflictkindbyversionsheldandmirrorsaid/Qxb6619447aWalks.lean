/-
  THE WALKS: conflictKind at the eight ordered stage lists and at every other text; zzStagesText; zzStageSet.
-/
import Derived.Test.Qxb6619447aRows
import Derived.Test.Qxb6619447aPlain
import Derived.WalkKit
import Derived.WalkLawsBesides
import Derived.WalkSpells
import Derived.RowKit3
import Derived.Below
import Derived.LoopTactic
namespace Go.Proofs.Qxb6619447a
open Go.RowKit

abbrev kR : ByteArray := ⟨#[114, 101, 110, 97, 109, 101, 47, 114, 101, 110, 97, 109, 101]⟩
abbrev kC : ByteArray := ⟨#[99, 111, 110, 116, 101, 110, 116]⟩
abbrev kA : ByteArray := ⟨#[97, 100, 100, 47, 97, 100, 100]⟩
abbrev kM : ByteArray := ⟨#[109, 111, 100, 105, 102, 121, 47, 100, 101, 108, 101, 116, 101]⟩

/-- A text that is none of the four that conflictKind knows. -/
theorem kind_other (s : ByteArray) (w : World) (h1 : (s.toList == [49, 50, 51]) = false) (h2 : (s.toList == [50, 51]) = false) (h3 : (s.toList == [49, 50]) = false) (h4 : (s.toList == [49, 51]) = false) :
    Calls Try.prog 17 #[.string s] w fun e w' => e = .returned (.string kR) ∧ w' = w := by
  go_enter Try.func17, Try.ntmps17
  go_wp2
  go_ret
  exact ⟨rfl, rfl⟩
theorem kind_000 (w : World) : Calls Try.prog 17 #[.string ⟨#[]⟩] w fun e w' => e = .returned (.string kR) ∧ w' = w := by
  go_enter Try.func17, Try.ntmps17
  go_wp2
  go_ret
  exact ⟨rfl, rfl⟩
theorem zk_000 (w : World) : Calls Try.prog 12 #[.string ⟨#[]⟩] w fun e w' => e = .returned (.string kR) ∧ w' = w := by
  go_enter Try.func12, Try.ntmps12
  go_wp2_with (go_at_call 17; refine (kind_000 _).mono ?_; rintro e w' ⟨rfl, rfl⟩)
  go_ret
  exact ⟨rfl, rfl⟩
theorem text_000 (w : World) : Calls Try.prog 13 #[.bool false, .bool false, .bool false] w fun e w' => e = .returned (.string ⟨#[]⟩) ∧ w' = w := by
  go_enter Try.func13, Try.ntmps13
  go_wp2
  go_ret
  exact ⟨rfl, rfl⟩
theorem kind_100 (w : World) : Calls Try.prog 17 #[.string ⟨#[49]⟩] w fun e w' => e = .returned (.string kR) ∧ w' = w := by
  go_enter Try.func17, Try.ntmps17
  go_wp2
  go_ret
  exact ⟨rfl, rfl⟩
theorem zk_100 (w : World) : Calls Try.prog 12 #[.string ⟨#[49]⟩] w fun e w' => e = .returned (.string kR) ∧ w' = w := by
  go_enter Try.func12, Try.ntmps12
  go_wp2_with (go_at_call 17; refine (kind_100 _).mono ?_; rintro e w' ⟨rfl, rfl⟩)
  go_ret
  exact ⟨rfl, rfl⟩
theorem text_100 (w : World) : Calls Try.prog 13 #[.bool true, .bool false, .bool false] w fun e w' => e = .returned (.string ⟨#[49]⟩) ∧ w' = w := by
  go_enter Try.func13, Try.ntmps13
  go_wp2
  go_ret
  exact ⟨rfl, rfl⟩
theorem kind_010 (w : World) : Calls Try.prog 17 #[.string ⟨#[50]⟩] w fun e w' => e = .returned (.string kR) ∧ w' = w := by
  go_enter Try.func17, Try.ntmps17
  go_wp2
  go_ret
  exact ⟨rfl, rfl⟩
theorem zk_010 (w : World) : Calls Try.prog 12 #[.string ⟨#[50]⟩] w fun e w' => e = .returned (.string kR) ∧ w' = w := by
  go_enter Try.func12, Try.ntmps12
  go_wp2_with (go_at_call 17; refine (kind_010 _).mono ?_; rintro e w' ⟨rfl, rfl⟩)
  go_ret
  exact ⟨rfl, rfl⟩
theorem text_010 (w : World) : Calls Try.prog 13 #[.bool false, .bool true, .bool false] w fun e w' => e = .returned (.string ⟨#[50]⟩) ∧ w' = w := by
  go_enter Try.func13, Try.ntmps13
  go_wp2
  go_ret
  exact ⟨rfl, rfl⟩
theorem kind_001 (w : World) : Calls Try.prog 17 #[.string ⟨#[51]⟩] w fun e w' => e = .returned (.string kR) ∧ w' = w := by
  go_enter Try.func17, Try.ntmps17
  go_wp2
  go_ret
  exact ⟨rfl, rfl⟩
theorem zk_001 (w : World) : Calls Try.prog 12 #[.string ⟨#[51]⟩] w fun e w' => e = .returned (.string kR) ∧ w' = w := by
  go_enter Try.func12, Try.ntmps12
  go_wp2_with (go_at_call 17; refine (kind_001 _).mono ?_; rintro e w' ⟨rfl, rfl⟩)
  go_ret
  exact ⟨rfl, rfl⟩
theorem text_001 (w : World) : Calls Try.prog 13 #[.bool false, .bool false, .bool true] w fun e w' => e = .returned (.string ⟨#[51]⟩) ∧ w' = w := by
  go_enter Try.func13, Try.ntmps13
  go_wp2
  go_ret
  exact ⟨rfl, rfl⟩
theorem kind_110 (w : World) : Calls Try.prog 17 #[.string ⟨#[49, 50]⟩] w fun e w' => e = .returned (.string kM) ∧ w' = w := by
  go_enter Try.func17, Try.ntmps17
  go_wp2
  go_ret
  exact ⟨rfl, rfl⟩
theorem zk_110 (w : World) : Calls Try.prog 12 #[.string ⟨#[49, 50]⟩] w fun e w' => e = .returned (.string kM) ∧ w' = w := by
  go_enter Try.func12, Try.ntmps12
  go_wp2_with (go_at_call 17; refine (kind_110 _).mono ?_; rintro e w' ⟨rfl, rfl⟩)
  go_ret
  exact ⟨rfl, rfl⟩
theorem text_110 (w : World) : Calls Try.prog 13 #[.bool true, .bool true, .bool false] w fun e w' => e = .returned (.string ⟨#[49, 50]⟩) ∧ w' = w := by
  go_enter Try.func13, Try.ntmps13
  go_wp2
  go_ret
  exact ⟨rfl, rfl⟩
theorem kind_101 (w : World) : Calls Try.prog 17 #[.string ⟨#[49, 51]⟩] w fun e w' => e = .returned (.string kM) ∧ w' = w := by
  go_enter Try.func17, Try.ntmps17
  go_wp2
  go_ret
  exact ⟨rfl, rfl⟩
theorem zk_101 (w : World) : Calls Try.prog 12 #[.string ⟨#[49, 51]⟩] w fun e w' => e = .returned (.string kM) ∧ w' = w := by
  go_enter Try.func12, Try.ntmps12
  go_wp2_with (go_at_call 17; refine (kind_101 _).mono ?_; rintro e w' ⟨rfl, rfl⟩)
  go_ret
  exact ⟨rfl, rfl⟩
theorem text_101 (w : World) : Calls Try.prog 13 #[.bool true, .bool false, .bool true] w fun e w' => e = .returned (.string ⟨#[49, 51]⟩) ∧ w' = w := by
  go_enter Try.func13, Try.ntmps13
  go_wp2
  go_ret
  exact ⟨rfl, rfl⟩
theorem kind_011 (w : World) : Calls Try.prog 17 #[.string ⟨#[50, 51]⟩] w fun e w' => e = .returned (.string kA) ∧ w' = w := by
  go_enter Try.func17, Try.ntmps17
  go_wp2
  go_ret
  exact ⟨rfl, rfl⟩
theorem zk_011 (w : World) : Calls Try.prog 12 #[.string ⟨#[50, 51]⟩] w fun e w' => e = .returned (.string kA) ∧ w' = w := by
  go_enter Try.func12, Try.ntmps12
  go_wp2_with (go_at_call 17; refine (kind_011 _).mono ?_; rintro e w' ⟨rfl, rfl⟩)
  go_ret
  exact ⟨rfl, rfl⟩
theorem text_011 (w : World) : Calls Try.prog 13 #[.bool false, .bool true, .bool true] w fun e w' => e = .returned (.string ⟨#[50, 51]⟩) ∧ w' = w := by
  go_enter Try.func13, Try.ntmps13
  go_wp2
  go_ret
  exact ⟨rfl, rfl⟩
theorem kind_111 (w : World) : Calls Try.prog 17 #[.string ⟨#[49, 50, 51]⟩] w fun e w' => e = .returned (.string kC) ∧ w' = w := by
  go_enter Try.func17, Try.ntmps17
  go_wp2
  go_ret
  exact ⟨rfl, rfl⟩
theorem zk_111 (w : World) : Calls Try.prog 12 #[.string ⟨#[49, 50, 51]⟩] w fun e w' => e = .returned (.string kC) ∧ w' = w := by
  go_enter Try.func12, Try.ntmps12
  go_wp2_with (go_at_call 17; refine (kind_111 _).mono ?_; rintro e w' ⟨rfl, rfl⟩)
  go_ret
  exact ⟨rfl, rfl⟩
theorem text_111 (w : World) : Calls Try.prog 13 #[.bool true, .bool true, .bool true] w fun e w' => e = .returned (.string ⟨#[49, 50, 51]⟩) ∧ w' = w := by
  go_enter Try.func13, Try.ntmps13
  go_wp2
  go_ret
  exact ⟨rfl, rfl⟩

/-- What zzStageSet hands back. -/
def flags : Option (Bool × Bool × Bool) → Value
  | some (a, b, c) => .tuple #[.bool a, .bool b, .bool c, .bool true]
  | none => .tuple #[.bool false, .bool false, .bool false, .bool false]

set_option maxHeartbeats 2000000 in
theorem stage_any (s : ByteArray) (hs : s.size ≤ 65536) (w : World) : Calls Try.prog 11 #[.string s] w fun e w' => e = .returned (flags (st 48 false false false s.data.toList)) ∧ w' = w := by
  go_enter Try.func11, Try.ntmps11
  go_wp2
  go_loop [6, 7, 8, 9, 10] (fun v1 v2 v3 vp vi => ∃ (k p : Nat) (f1 f2 f3 : Bool), v1 = .bool f1 ∧ v2 = .bool f2 ∧ v3 = .bool f3 ∧ vp = .int .u8 p ∧ vi = .int .i64 k ∧ k ≤ s.size ∧ p < 256 ∧
      Hid (st 48 false false false s.data.toList = st p f1 f2 f3 (s.data.toList.drop k))) (fun _ _ _ _ vi => s.size - (intOf vi).toNat)
  case atStart => exact ⟨0, 48, false, false, false, rfl, rfl, rfl, rfl, rfl, by omega, by omega, rfl⟩
  case round =>
    obtain ⟨k, p, f1, f2, f3, rfl, rfl, rfl, rfl, rfl, hk, hp, hh⟩ := hrel
    by_cases hkn : k < s.size
    · have hdrop : s.data.toList.drop k = s[k] :: s.data.toList.drop (k + 1) := by rw [List.drop_eq_getElem_cons (by simpa using hkn)]; rfl
      have hd := hh.out
      rw [hdrop] at hd
      clear hh hdrop
      obtain ⟨n, hn⟩ : ∃ n, s[k].toNat = n := ⟨_, rfl⟩
      have hn256 : n < 256 := by rw [← hn]; exact s[k].toNat_lt
      simp only [st, hn] at hd
      by_cases bad : n < 49 ∨ 51 < n ∨ n ≤ p
      · rw [if_pos bad] at hd
        have HD : Hid (st 48 false false false s.data.toList = none) := hd
        clear hd
        by_cases b1 : n < 49
        · clear bad
          go_wp2
          exact bodyPost_ret (v := .tuple #[.bool false, .bool false, .bool false, .bool false]) (by simp [results, Try.results11, go_sem]) rfl ⟨by rw [HD.out]; rfl, rfl⟩
        by_cases b2 : 51 < n
        · clear bad
          go_wp2
          exact bodyPost_ret (v := .tuple #[.bool false, .bool false, .bool false, .bool false]) (by simp [results, Try.results11, go_sem]) rfl ⟨by rw [HD.out]; rfl, rfl⟩
        · have b3 : n ≤ p := by omega
          clear bad
          go_wp2
          exact bodyPost_ret (v := .tuple #[.bool false, .bool false, .bool false, .bool false]) (by simp [results, Try.results11, go_sem]) rfl ⟨by rw [HD.out]; rfl, rfl⟩
      · rw [if_neg bad] at hd
        have c1 : 49 ≤ n := by omega
        have c2 : n ≤ 51 := by omega
        have c3 : p < n := by omega
        clear bad
        by_cases e1 : n = 49
        · rw [if_pos e1] at hd
          have HD : Hid (st 48 false false false s.data.toList = st n true f2 f3 (s.data.toList.drop (k + 1))) := hd
          have b1 : ((n : Int) == 49) = true := by simp; omega
          clear hd e1
          go_wp2
          go_round
          case rel => exact ⟨k + 1, n, true, f2, f3, rfl, rfl, rfl, rfl, by go_num, by omega, hn256, HD⟩
          case measure => simp [intOf]; omega
        have b1 : ((n : Int) == 49) = false := by simp; omega
        rw [if_neg e1] at hd
        by_cases e2 : n = 50
        · rw [if_pos e2] at hd
          have HD : Hid (st 48 false false false s.data.toList = st n f1 true f3 (s.data.toList.drop (k + 1))) := hd
          have b2 : ((n : Int) == 50) = true := by simp; omega
          clear hd e1 e2
          go_wp2
          go_round
          case rel => exact ⟨k + 1, n, f1, true, f3, rfl, rfl, rfl, rfl, by go_num, by omega, hn256, HD⟩
          case measure => simp [intOf]; omega
        · have b2 : ((n : Int) == 50) = false := by simp; omega
          rw [if_neg e2] at hd
          have HD : Hid (st 48 false false false s.data.toList = st n f1 f2 true (s.data.toList.drop (k + 1))) := hd
          clear hd e1 e2
          go_wp2
          go_round
          case rel => exact ⟨k + 1, n, f1, f2, true, rfl, rfl, rfl, rfl, by go_num, by omega, hn256, HD⟩
          case measure => simp [intOf]; omega
    · have hkk : k = s.size := by omega
      subst hkk
      have hd := hh.out
      rw [List.drop_eq_nil_of_le (by simp)] at hd
      have HD : Hid (st 48 false false false s.data.toList = some (f1, f2, f3)) := hd
      clear hd hh
      go_wp2
      exact bodyPost_ret (v := .tuple #[.bool f1, .bool f2, .bool f3, .bool true]) (by simp [results, Try.results11, go_sem]) rfl ⟨by rw [HD.out]; rfl, rfl⟩

end Go.Proofs.Qxb6619447a
