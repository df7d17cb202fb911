/-
  THE WALK of internal/strconv.ParseUint(s, 16, 16) at a text of four bytes.
-/
import Derived.Test.Qxb6619326aDoorRows
import Derived.Test.Qxb6619326aDoorPlain
import Derived.Lib.Strings
import Derived.Lib.Walk
import Derived.Lib.ConvBytes
import Derived.Lib.Hide
import Derived.Laws.Strings3
import Derived.Laws.Closers25
import Derived.Laws.Closers25b
import Derived.WalkKit
import Derived.BigCall
import Derived.BigGuard
namespace Go.Proofs.Qxb6619326aDoor
open Go.RowKit

/-- internal/strconv.lower. -/
theorem lower_any (c : Int) (w : World) : Calls Tryd.prog 15 #[.int .u8 c] w fun e w' => e = .returned (.int .u8 (bits .or .u8 c 32)) ∧ w' = w := by
  go_enter Tryd.func15, Tryd.ntmps15
  go_wp2
  go_ret
  exact ⟨rfl, rfl⟩

theorem lower_val (c v : Int) (h : bits .or .u8 c 32 = v) (w : World) : Calls Tryd.prog 15 #[.int .u8 c] w fun e w' => e = .returned (.int .u8 v) ∧ w' = w := by
  rw [← h]; exact lower_any c w

/-- What the parse hands back. -/
def tupleOf : Option Nat → Value
  | some n => .tuple #[.int .u64 n, .nilIface]
  | none => .tuple #[.int .u64 0, .iface 37 (.int .i64 2)]

theorem pow_le {acc k : Nat} (h : acc < 16 ^ k) (hk : k < 4) : acc ≤ 4095 := by
  have : 16 ^ k ≤ 16 ^ 3 := Nat.pow_le_pow_right (by decide) (by omega)
  have e : (16 : Nat) ^ 3 = 4096 := by decide
  omega
theorem pow_step {acc k d : Nat} (h : acc < 16 ^ k) (hd : d < 16) : acc * 16 + d < 16 ^ (k + 1) := by
  rw [Nat.pow_succ]; omega

set_option maxHeartbeats 4000000 in
set_option maxRecDepth 100000 in
theorem parse_any (t : ByteArray) (h4 : t.size = 4) (w : World) :
    Calls Tryd.prog 13 #[.string t, .int .i64 16, .int .i64 16] w fun e w' => e = .returned (tupleOf (parseH 0 t.data.toList)) ∧ w' = Lib.bytesWorld w 5 t := by
  have hemp : t.toList.isEmpty = false := by
    rw [← decide_eq_emptyBytes]
    exact decide_eq_false (fun h => by rw [h] at h4; cases h4)
  have hcv := Lib.run_convert_string_bytes (P := Tryd.prog) w 9 22 5 t (u := .string) Tryd.underlying9 Tryd.underlying22 Tryd.underlying5
  have hB : ∀ j, j < t.size → (Lib.bytesWorld w 5 t).cell? ⟨w.heap.size, j, none⟩ = some (.int .u8 (t.data.toList.getD j 0).toNat) := fun j hj => Lib.bytesWorld_cell w 5 t j hj
  obtain ⟨W1, hW1⟩ : ∃ W1, W1 = Lib.bytesWorld w 5 t := ⟨_, rfl⟩
  rw [← hW1] at hcv hB ⊢
  clear hW1
  obtain ⟨bs, hL⟩ : ∃ bs, bs = t.data.toList := ⟨_, rfl⟩
  have hLn : bs.length = t.size := by rw [hL, Lib.size_eq]
  rw [← hL] at hB ⊢
  clear hL
  have H4 : Hid (t.size = 4) := h4
  have hmax : t.size ≤ 4 := by omega
  clear h4
  have hmv : IntKind.u64.wrap (IntKind.u64.wrap 65536 - 1) = 65535 := by
    rw [IntKind.wrap_u64, IntKind.wrap_u64]
    decide
  go_enter Tryd.func13, Tryd.ntmps13
  go_wp2
  go_loop [12, 13, 101] (fun vu vn vi => ∃ (k acc : Nat) (a : Int), vu = .bool false ∧ vn = .int .u64 a ∧ vi = .int .i64 k ∧ k ≤ t.size ∧ Hid (a = (acc : Int) ∧ acc < 16 ^ k ∧ parseH 0 bs = parseH acc (bs.drop k)))
    (fun _ _ vi => t.size - (intOf vi).toNat)
  case atStart => exact ⟨0, 0, 0, rfl, rfl, rfl, by omega, rfl, by decide, rfl⟩
  case round =>
    obtain ⟨k, acc, a, rfl, rfl, rfl, hk, hh⟩ := hrel
    obtain ⟨ha, hacc, hdec⟩ := hh.out
    clear hh
    by_cases hkn : k < t.size
    · have hle := pow_le hacc (by have := H4.out; omega)
      have a0 : 0 ≤ a := by omega
      have a1 : a ≤ 4095 := by omega
      have hc := hB k hkn
      have hdrop : bs.drop k = bs[k]'(by omega) :: bs.drop (k + 1) := List.drop_eq_getElem_cons (by omega)
      have hget : bs.getD k 0 = bs[k]'(by omega) := by simp [List.getD, List.getElem?_eq_getElem (show k < bs.length by omega)]
      rw [hdrop] at hdec
      rw [hget] at hc
      generalize bs[k]'(by omega) = c at hc hdec
      have hc256 : c.toNat < 256 := c.toNat_lt
      clear hB hdrop hget
      have hF : parseH acc (c :: bs.drop (k + 1)) = match hexN c.toNat with
        | some d => parseH (acc * 16 + d) (bs.drop (k + 1))
        | none => none := rfl
      generalize hn : c.toNat = n at *
      by_cases hdig : 48 ≤ n ∧ n ≤ 57
      · obtain ⟨hd0, hd1⟩ := hdig
        have hx : hexN n = some (n - 48) := by simp [hexN, hd0, hd1]
        rw [hx] at hF
        have HN : Hid (a * 16 + ((n : Int) - 48) = ((acc * 16 + (n - 48) : Nat) : Int) ∧ acc * 16 + (n - 48) < 16 ^ (k + 1) ∧ parseH 0 bs = parseH (acc * 16 + (n - 48)) (bs.drop (k + 1))) := ⟨by omega, pow_step hacc (by omega), hdec.trans hF⟩
        clear hacc hF hdec ha hx hn hle
        go_wp2
        refine ⟨⟨k + 1, acc * 16 + (n - 48), a * 16 + ((n : Int) - 48), rfl, (by first | rfl | (congr 1; omega)), (by first | rfl | (congr 1; omega)), by omega, HN⟩, by simp [intOf]; omega⟩
      by_cases hlow : 97 ≤ n ∧ n ≤ 102
      · obtain ⟨hd0, hd1⟩ := hlow
        have hx : hexN n = some (n - 87) := by simp [hexN, hd0, hd1, hdig]
        rw [hx] at hF
        have hv := lower_val n n (low_lower hd0 hd1)
        have HN : Hid (a * 16 + ((n : Int) - 87) = ((acc * 16 + (n - 87) : Nat) : Int) ∧ acc * 16 + (n - 87) < 16 ^ (k + 1) ∧ parseH 0 bs = parseH (acc * 16 + (n - 87)) (bs.drop (k + 1))) := ⟨by omega, pow_step hacc (by omega), hdec.trans hF⟩
        clear hacc hF hdec ha hx hn hle hdig
        go_wp2_with (go_at_call 15; refine (hv _).mono ?_; rintro e w' ⟨rfl, rfl⟩)
        refine ⟨⟨k + 1, acc * 16 + (n - 87), a * 16 + ((n : Int) - 87), rfl, (by first | rfl | (congr 1; omega)), (by first | rfl | (congr 1; omega)), by omega, HN⟩, by simp [intOf]; omega⟩
      by_cases hup : 65 ≤ n ∧ n ≤ 70
      · obtain ⟨hd0, hd1⟩ := hup
        have hx : hexN n = some (n - 55) := by simp [hexN, hd0, hd1, hdig, hlow]
        rw [hx] at hF
        have hv := lower_val n (n + 32) (low_upper hd0 hd1)
        have HN : Hid (a * 16 + ((n : Int) - 55) = ((acc * 16 + (n - 55) : Nat) : Int) ∧ acc * 16 + (n - 55) < 16 ^ (k + 1) ∧ parseH 0 bs = parseH (acc * 16 + (n - 55)) (bs.drop (k + 1))) := ⟨by omega, pow_step hacc (by omega), hdec.trans hF⟩
        clear hacc hF hdec ha hx hn hle hdig hlow
        go_wp2_with (go_at_call 15; refine (hv _).mono ?_; rintro e w' ⟨rfl, rfl⟩)
        refine ⟨⟨k + 1, acc * 16 + (n - 55), a * 16 + ((n : Int) - 55), rfl, (by first | rfl | (congr 1; omega)), (by first | rfl | (congr 1; omega)), by omega, HN⟩, by simp [intOf]; omega⟩
      · have hx : hexN n = none := by simp [hexN, hdig, hlow, hup]
        rw [hx] at hF
        have hr := low_none hc256 hx
        obtain ⟨v, hv⟩ : ∃ v, bits .or .u8 (n : Int) 32 = v := ⟨_, rfl⟩
        have hv0 := bits_lo_u8 .or (n : Int) 32
        have hv1 := bits_hi_u8 .or (n : Int) 32
        rw [hv] at hr hv0 hv1
        have HF : Hid (parseH 0 bs = none) := hdec.trans hF
        clear hacc hF hdec ha hx hn hle hlow hup
        by_cases h95 : n = 95
        · subst h95
          have hw := lower_val 95 127 (by decide)
          clear hr hv0 hv1 hv
          go_wp2_with (go_at_call 15; refine (hw _).mono ?_; rintro e w' ⟨rfl, rfl⟩)
          all_goals go_ret2
          all_goals exact ⟨by rw [HF.out]; rfl, rfl⟩
        · have hb95 : ((n : Int) == 95) = false := by simp; omega
          have hw := lower_val n v hv
          clear hv
          have hd : n < 48 ∨ 57 < n := by omega
          clear hdig h95
          rcases hd with hd | hd <;> rcases hr with hr | hr
          all_goals
            go_wp2_with (go_at_call 15; refine (hw _).mono ?_; rintro e w' ⟨rfl, rfl⟩)
          all_goals go_ret2
          all_goals exact ⟨by rw [HF.out]; rfl, rfl⟩
    · have hkk : k = t.size := by omega
      subst hkk
      have hF : parseH acc (bs.drop t.size) = some acc := by rw [List.drop_eq_nil_of_le (by omega)]; rfl
      rw [hF] at hdec
      subst ha
      clear hacc hF
      go_wp2
      go_ret2
      exact ⟨rfl, rfl⟩
end Go.Proofs.Qxb6619326aDoor
