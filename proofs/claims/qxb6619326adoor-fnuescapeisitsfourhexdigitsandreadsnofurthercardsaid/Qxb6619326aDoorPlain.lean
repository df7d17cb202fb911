/-
  THE PLAIN PART: the value of a hexadecimal digit; a text of hexadecimal digits read as a number; the escape at the head of a list of bytes. No Go in sight.
-/
import Derived.Laws.Entries
import Derived.KernelRfl
namespace Go.Proofs.Qxb6619326aDoor

def hexN (c : Nat) : Option Nat :=
  if 48 ≤ c ∧ c ≤ 57 then some (c - 48) else if 97 ≤ c ∧ c ≤ 102 then some (c - 87) else if 65 ≤ c ∧ c ≤ 70 then some (c - 55) else none

def parseH (acc : Nat) : List UInt8 → Option Nat
  | [] => some acc
  | c :: l => match hexN c.toNat with
    | some d => parseH (acc * 16 + d) l
    | none => none

theorem hexN_lt {c d : Nat} (h : hexN c = some d) : d < 16 := by
  unfold hexN at h
  split at h
  · cases h; omega
  · split at h
    · cases h; omega
    · split at h
      · cases h; omega
      · cases h

/-- What 'c | 32' does to a byte, as far as the hexadecimal digits go. -/
def lowOk (n : Nat) : Bool :=
  let v := bits .or .u8 (n : Int) 32
  (!(decide (97 ≤ n) && decide (n ≤ 102)) || v == (n : Int)) && (!(decide (65 ≤ n) && decide (n ≤ 70)) || v == (n : Int) + 32) && ((hexN n).isSome || decide (v < 97) || decide (102 < v))
theorem low_all : ∀ n : Fin 256, lowOk n.val = true := by decide +kernel
theorem low_ok (n : Nat) (h : n < 256) : lowOk n = true := low_all ⟨n, h⟩
theorem low_lower {n : Nat} (h1 : 97 ≤ n) (h2 : n ≤ 102) : bits .or .u8 (n : Int) 32 = (n : Int) := by
  have h := low_ok n (by omega)
  simp only [lowOk, Bool.and_eq_true, Bool.or_eq_true, Bool.not_eq_true', beq_iff_eq, h1, h2, decide_true] at h
  rcases h.1.1 with h | h
  · cases h
  · exact h
theorem low_upper {n : Nat} (h1 : 65 ≤ n) (h2 : n ≤ 70) : bits .or .u8 (n : Int) 32 = (n : Int) + 32 := by
  have h := low_ok n (by omega)
  simp only [lowOk, Bool.and_eq_true, Bool.or_eq_true, Bool.not_eq_true', beq_iff_eq, h1, h2, decide_true] at h
  rcases h.1.2 with h | h
  · cases h
  · exact h
theorem low_none {n : Nat} (h1 : n < 256) (h2 : hexN n = none) : bits .or .u8 (n : Int) 32 < 97 ∨ 102 < bits .or .u8 (n : Int) 32 := by
  have h := low_ok n h1
  simp only [lowOk, Bool.and_eq_true, Bool.or_eq_true, h2, decide_eq_true_eq] at h
  rcases h.2 with (h | h) | h
  · cases h
  · exact .inl h
  · exact .inr h

theorem parseH_lt : ∀ (l : List UInt8) (acc n : Nat), parseH acc l = some n → n < (acc + 1) * 16 ^ l.length
  | [], acc, n, h => by
    simp only [parseH, Option.some.injEq] at h
    simp [h]
  | c :: l, acc, n, h => by
    simp only [parseH] at h
    cases hd : hexN c.toNat with
    | none => rw [hd] at h; cases h
    | some d =>
      rw [hd] at h
      have h1 := parseH_lt l (acc * 16 + d) n h
      have h2 := hexN_lt hd
      have h3 : (acc * 16 + d + 1) * 16 ^ l.length ≤ ((acc + 1) * 16) * 16 ^ l.length := Nat.mul_le_mul_right _ (by omega)
      rw [List.length_cons, Nat.pow_succ, Nat.mul_comm (16 ^ l.length) 16, ← Nat.mul_assoc]
      exact Nat.lt_of_lt_of_le h1 h3

theorem parseH_snoc : ∀ (l : List UInt8) (c : UInt8) (acc n d : Nat), parseH acc l = some n → hexN c.toNat = some d → parseH acc (l ++ [c]) = some (n * 16 + d)
  | [], c, acc, n, d, h, hd => by
    simp only [parseH, Option.some.injEq] at h
    simp [parseH, hd, h]
  | x :: l, c, acc, n, d, h, hd => by
    simp only [parseH] at h
    simp only [List.cons_append, parseH]
    cases hx : hexN x.toNat with
    | none => rw [hx] at h; cases h
    | some e =>
      rw [hx] at h
      exact parseH_snoc l c _ n d h hd

/-- The escape at the head of a list of bytes. -/
def escB : List UInt8 → Option Nat
  | x0 :: x1 :: x2 :: x3 :: x4 :: x5 :: _ => if x0 = 92 ∧ x1 = 117 then parseH 0 [x2, x3, x4, x5] else none
  | _ => none

theorem escB_short {l : List UInt8} (h : l.length < 6) : escB l = none := by
  match l, h with
  | [], _ => rfl
  | [_], _ => rfl
  | [_, _], _ => rfl
  | [_, _, _], _ => rfl
  | [_, _, _, _], _ => rfl
  | [_, _, _, _, _], _ => rfl
  | _ :: _ :: _ :: _ :: _ :: _ :: _, h => simp at h; omega

/-- Six bytes decide. -/
theorem escB_append {l t : List UInt8} (h : 6 ≤ l.length) : escB (l ++ t) = escB l := by
  match l, h with
  | [], h => simp at h
  | [_], h => simp at h
  | [_, _], h => simp at h
  | [_, _, _], h => simp at h
  | [_, _, _, _], h => simp at h
  | [_, _, _, _, _], h => simp at h
  | _ :: _ :: _ :: _ :: _ :: _ :: _, _ => rfl

theorem six_of {l : List UInt8} (h : 6 ≤ l.length) : ∃ x0 x1 x2 x3 x4 x5 t, l = x0 :: x1 :: x2 :: x3 :: x4 :: x5 :: t := by
  match l, h with
  | [], h => simp at h
  | [_], h => simp at h
  | [_, _], h => simp at h
  | [_, _, _], h => simp at h
  | [_, _, _, _], h => simp at h
  | [_, _, _, _, _], h => simp at h
  | x0 :: x1 :: x2 :: x3 :: x4 :: x5 :: t, _ => exact ⟨x0, x1, x2, x3, x4, x5, t, rfl⟩

end Go.Proofs.Qxb6619326aDoor
