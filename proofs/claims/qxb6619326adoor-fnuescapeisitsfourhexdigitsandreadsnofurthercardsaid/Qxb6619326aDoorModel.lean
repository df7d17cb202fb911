/-
  THE WALKS of zzHexDigit and of zzUEscapeModel, the law's own reading of an escape.
-/
import Derived.Test.Qxb6619326aDoorEsc
import Derived.LoopTactic
namespace Go.Proofs.Qxb6619326aDoor
open Go.RowKit

set_option maxHeartbeats 1000000 in
theorem digit_some (n d : Nat) (hd : hexN n = some d) (w : World) :
    Calls Tryd.prog 10 #[.int .u8 n] w fun e w' => e = .returned (.tuple #[.int .i32 d, .bool true]) ∧ w' = w := by
  by_cases h1 : 48 ≤ n ∧ n ≤ 57
  · obtain ⟨a, b⟩ := h1
    have e : d = n - 48 := by simp [hexN, a, b] at hd; omega
    have e' : ((n : Int) - 48) = (d : Int) := by omega
    clear hd e
    go_enter Tryd.func10, Tryd.ntmps10
    go_wp2
    go_ret2
    exact ⟨rfl, rfl⟩
  by_cases h2 : 97 ≤ n ∧ n ≤ 102
  · obtain ⟨a, b⟩ := h2
    have e : d = n - 87 := by simp [hexN, a, b, h1] at hd; omega
    have e' : ((n : Int) - 97 + 10) = (d : Int) := by omega
    clear hd e h1
    go_enter Tryd.func10, Tryd.ntmps10
    go_wp2
    go_ret2
    exact ⟨rfl, rfl⟩
  by_cases h3 : 65 ≤ n ∧ n ≤ 70
  · obtain ⟨a, b⟩ := h3
    have e : d = n - 55 := by simp [hexN, a, b, h1, h2] at hd; omega
    have e' : ((n : Int) - 65 + 10) = (d : Int) := by omega
    clear hd e h1 h2
    go_enter Tryd.func10, Tryd.ntmps10
    go_wp2
    go_ret2
    exact ⟨rfl, rfl⟩
  · simp [hexN, h1, h2, h3] at hd

set_option maxHeartbeats 1000000 in
theorem digit_none (n : Nat) (hn : n < 256) (hd : hexN n = none) (w : World) :
    Calls Tryd.prog 10 #[.int .u8 n] w fun e w' => e = .returned (.tuple #[.int .i32 0, .bool false]) ∧ w' = w := by
  have h1 : ¬ (48 ≤ n ∧ n ≤ 57) := fun h => by simp [hexN, h] at hd
  have h2 : ¬ (97 ≤ n ∧ n ≤ 102) := fun h => by unfold hexN at hd; rw [if_neg h1, if_pos h] at hd; cases hd
  have h3 : ¬ (65 ≤ n ∧ n ≤ 70) := fun h => by unfold hexN at hd; rw [if_neg h1, if_neg h2, if_pos h] at hd; cases hd
  have hc : n < 48 ∨ (57 < n ∧ n < 65) ∨ (70 < n ∧ n < 97) ∨ 102 < n := by omega
  clear hd h1 h2 h3
  rcases hc with h | ⟨h, h'⟩ | ⟨h, h'⟩ | h
  all_goals
    go_enter Tryd.func10, Tryd.ntmps10
    go_wp2
    go_ret2
    exact ⟨rfl, rfl⟩

/-- Too short. -/
theorem model_short (a : Option Addr) (len cap : Nat) (h : len < 6) (w : World) :
    Calls Tryd.prog 6 #[.slice a len cap] w fun e w' => e = .returned (runeOf none) ∧ w' = w := by
  go_enter Tryd.func6, Tryd.ntmps6
  go_wp2
  go_ret2
  exact ⟨rfl, rfl⟩

/-- No backslash and 'u' at the head. -/
theorem model_head (g o len cap : Nat) (c0 c1 : Int) (h : 6 ≤ len) (hlen : len ≤ maxLen) (w : World) (h0 : w.cell? ⟨g, o, none⟩ = some (.int .u8 c0)) (h1 : w.cell? ⟨g, o + 1, none⟩ = some (.int .u8 c1)) (hne : (c0 != 92) = true ∨ (c1 != 117) = true) :
    Calls Tryd.prog 6 #[.slice (some ⟨g, o, none⟩) len cap] w fun e w' => e = .returned (runeOf none) ∧ w' = w := by
  unfold maxLen at hlen
  by_cases hc0 : (c0 != 92) = true
  · clear hne
    go_enter Tryd.func6, Tryd.ntmps6
    go_wp2
    go_ret2
    exact ⟨rfl, rfl⟩
  · have hc1 : (c1 != 117) = true := by rcases hne with h | h; exact absurd h hc0; exact h
    have hc0' : (c0 != 92) = false := by simpa using hc0
    clear hne hc0
    go_enter Tryd.func6, Tryd.ntmps6
    go_wp2
    go_ret2
    exact ⟨rfl, rfl⟩

set_option maxHeartbeats 4000000 in
theorem model_body (g o len cap : Nat) (bs : List UInt8) (h : 6 ≤ len) (hlen : len ≤ maxLen) (hb : bs.length = 4) (w : World) (h0 : w.cell? ⟨g, o, none⟩ = some (.int .u8 92)) (h1 : w.cell? ⟨g, o + 1, none⟩ = some (.int .u8 117))
    (hc : ∀ i, i < 4 → w.cell? ⟨g, o + (i + 2), none⟩ = some (.int .u8 ((bs.getD i 0).toNat : Nat))) :
    Calls Tryd.prog 6 #[.slice (some ⟨g, o, none⟩) len cap] w fun e w' => e = .returned (runeOf (parseH 0 bs)) ∧ w' = w := by
  unfold maxLen at hlen
  have HB : Hid (bs.length = 4) := hb
  clear hb
  go_enter Tryd.func6, Tryd.ntmps6
  go_wp2
  go_loop [4, 5] (fun vv vi => ∃ (k acc : Nat) (a : Int), vv = .int .i32 a ∧ vi = .int .i64 (k + 2 : Nat) ∧ k ≤ 4 ∧ Hid (a = (acc : Int) ∧ acc < 16 ^ k ∧ parseH 0 bs = parseH acc (bs.drop k)))
    (fun _ vi => 6 - (intOf vi).toNat)
  case atStart => exact ⟨0, 0, 0, rfl, rfl, by omega, rfl, by decide, rfl⟩
  case round =>
    obtain ⟨k, acc, a, rfl, rfl, hk, hh⟩ := hrel
    obtain ⟨ha, hacc, hdec⟩ := hh.out
    clear hh
    by_cases hkn : k < 4
    · have hle := pow_le hacc hkn
      have a0 : 0 ≤ a := by omega
      have a1 : a ≤ 4095 := by omega
      have hcc := hc k hkn
      have hbl := HB.out
      have hdrop : bs.drop k = bs[k]'(by omega) :: bs.drop (k + 1) := List.drop_eq_getElem_cons (by omega)
      have hget : bs.getD k 0 = bs[k]'(by omega) := by simp [List.getD, List.getElem?_eq_getElem (show k < bs.length by omega)]
      rw [hdrop] at hdec
      rw [hget] at hcc
      generalize bs[k]'(by omega) = c at hcc hdec
      have hc256 : c.toNat < 256 := c.toNat_lt
      clear hc hdrop hget hbl
      have hF : parseH acc (c :: bs.drop (k + 1)) = match hexN c.toNat with
        | some d => parseH (acc * 16 + d) (bs.drop (k + 1))
        | none => none := rfl
      generalize hn : c.toNat = n at *
      cases hx : hexN n with
      | some d =>
        rw [hx] at hF
        have hd := hexN_lt hx
        have hw := digit_some n d hx
        have HN : Hid (a * 16 + (d : Int) = ((acc * 16 + d : Nat) : Int) ∧ acc * 16 + d < 16 ^ (k + 1) ∧ parseH 0 bs = parseH (acc * 16 + d) (bs.drop (k + 1))) := ⟨by omega, pow_step hacc hd, hdec.trans hF⟩
        clear hacc hF hdec ha hx hn hle
        go_wp2_with (go_at_call 10; refine (hw _).mono ?_; rintro e w' ⟨rfl, rfl⟩)
        go_round
        case rel => exact ⟨k + 1, acc * 16 + d, a * 16 + (d : Int), rfl, by go_num, by omega, HN⟩
        case measure => simp [intOf]; omega
      | none =>
        rw [hx] at hF
        have hw := digit_none n hc256 hx
        have HF : Hid (parseH 0 bs = none) := hdec.trans hF
        clear hacc hF hdec ha hx hn hle
        go_wp2_with (go_at_call 10; refine (hw _).mono ?_; rintro e w' ⟨rfl, rfl⟩)
        go_ret2
        exact ⟨by rw [HF.out]; rfl, rfl⟩
    · obtain rfl : k = 4 := by omega
      have hF : parseH acc (bs.drop 4) = some acc := by rw [List.drop_eq_nil_of_le (by have := HB.out; omega)]; rfl
      rw [hF] at hdec
      have HF : Hid (parseH 0 bs = some acc) := hdec
      subst ha
      clear hacc hF hdec
      go_wp2
      go_ret2
      exact ⟨by rw [HF.out]; rfl, rfl⟩

theorem model_any (v : Value) (l : List UInt8) (w : World) (hb : Bytes w v l) :
    Calls Tryd.prog 6 #[v] w fun e w' => e = .returned (runeOf (escB l)) ∧ w' = w := by
  obtain ⟨a, cap, rfl, h1, h2, _, h3⟩ := hb
  by_cases h : l.length < 6
  · rw [escB_short h]
    exact model_short a l.length cap h w
  · obtain ⟨x0, x1, x2, x3, x4, x5, t, rfl⟩ := six_of (show 6 ≤ l.length by omega)
    obtain ⟨g, o, rfl, hc⟩ := h3 (by simp)
    have c0 : w.cell? ⟨g, o, none⟩ = some (.int .u8 (x0.toNat : Nat)) := hc 0 (by simp)
    have c1 : w.cell? ⟨g, o + 1, none⟩ = some (.int .u8 (x1.toNat : Nat)) := hc 1 (by simp)
    by_cases hh : x0 = 92 ∧ x1 = 117
    · obtain ⟨rfl, rfl⟩ := hh
      have e : escB (92 :: 117 :: x2 :: x3 :: x4 :: x5 :: t) = parseH 0 [x2, x3, x4, x5] := by simp [escB]
      rw [e]
      refine model_body g o _ cap [x2, x3, x4, x5] (by simp) (by omega) rfl w c0 c1 ?_
      intro i hi
      rw [hc (i + 2) (by simp; omega)]
      match i, hi with
      | 0, _ => rfl
      | 1, _ => rfl
      | 2, _ => rfl
      | 3, _ => rfl
    · have e : escB (x0 :: x1 :: x2 :: x3 :: x4 :: x5 :: t) = none := by simp [escB, hh]
      rw [e]
      refine model_head g o _ cap _ _ (by simp) (by omega) w c0 c1 ?_
      by_cases h92 : x0 = 92
      · right
        have h117 : x1 ≠ 117 := fun h => hh ⟨h92, h⟩
        simp only [bne_iff_ne, ne_eq]
        intro h
        exact h117 (UInt8.toNat_inj.1 (by simpa using (by omega : x1.toNat = 117)))
      · left
        simp only [bne_iff_ne, ne_eq]
        intro h
        exact h92 (UInt8.toNat_inj.1 (by simpa using (by omega : x0.toNat = 92)))

end Go.Proofs.Qxb6619326aDoor
