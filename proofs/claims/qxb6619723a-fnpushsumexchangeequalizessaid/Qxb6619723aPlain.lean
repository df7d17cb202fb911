/-
  THE PLAIN LAW of the push-sum exchange: float results up to 'equal, or both not-a-number'. No Go in sight but the bits of a float.
-/
import Derived.Laws.FloatArith
namespace Go.Proofs.Qxb6619723a

/-- The bits of the float 2. -/
def two : Nat := 4611686018427387904

/-- A word that reads as a NaN. -/
def Nan (r : Nat) : Prop := ∃ s f, FloatKind.f64.format.read r = .nan s f

/-- What '+' or '/' may hand back: the exact result rounded, or, where the operation is invalid, a NaN of whatever bits. -/
def Res (op : BinOp) (x y r : Nat) : Prop := floatBits op .f64 x y = some r ∨ (floatBits op .f64 x y = none ∧ Nan r)

/-- 'sameF'. -/
def sameB (a b : Nat) : Bool := FloatKind.f64.format.order a b == some .eq || (FloatKind.f64.format.order a a != some .eq && FloatKind.f64.format.order b b != some .eq)

/-- The NaN that the tape gives. -/
def nanAt (w : World) (x y : Nat) : Nat := (Question.nanBits .f64 x y).cut (w.tape w.drawn (.nanBits .f64 x y))

theorem order_nan {a b : Nat} (h : Nan a) : FloatKind.f64.format.order a b = none := by
  obtain ⟨s, f, h⟩ := h
  simp [Ieee.Format.order, h, Ieee.Datum.order]

theorem same_nan {a b : Nat} (ha : Nan a) (hb : Nan b) : sameB a b = true := by
  simp [sameB, order_nan ha, order_nan hb]

theorem same_refl (a : Nat) : sameB a a = true := by
  unfold sameB
  cases h : (FloatKind.f64.format.order a a == some .eq) <;> simp [bne, h]

theorem add_nan_left {a b : Nat} (h : Nan a) : floatBits .add .f64 a b = none := by
  obtain ⟨s, f, h⟩ := h
  simp [floatBits, Ieee.Format.add, h, Ieee.Datum.sum]

theorem add_nan_right {a b : Nat} (h : Nan b) : floatBits .add .f64 a b = none := by
  obtain ⟨s, f, h⟩ := h
  simp only [floatBits, Ieee.Format.add, h]
  cases FloatKind.f64.format.read a <;> simp [Ieee.Datum.sum]

theorem sum_comm (x y : Ieee.Datum) : x.sum y = y.sum x := by
  cases x <;> cases y <;> simp only [Ieee.Datum.sum]
  · rename_i s m i t n j
    rw [Int.min_comm i j, Int.add_comm, Bool.and_comm]
  · rename_i s t
    by_cases h : s = t
    · subst h; simp
    · rw [if_neg h, if_neg (fun e => h e.symm)]

theorem add_comm (x y : Nat) : floatBits .add .f64 x y = floatBits .add .f64 y x := by
  simp only [floatBits, Ieee.Format.add, sum_comm]

theorem nan_nanAt (w : World) (x y : Nat) : Nan (nanAt w x y) := by
  unfold nanAt Nan
  generalize w.tape w.drawn (Question.nanBits .f64 x y) = t
  have e1 : FloatKind.f64.format.signWeight = 9223372036854775808 := by decide
  have e2 : FloatKind.f64.format.infRung = 9218868437227405312 := by decide
  have e3 : FloatKind.f64.format.binade = 4503599627370496 := by decide
  have e4 : (Question.nanBits .f64 x y).cut t = (t % 2) * 9223372036854775808 + 9218868437227405312 + 1 + (t / 2) % 4503599627370495 := by
    simp only [Question.cut]
  have e5 : ((t % 2) * 9223372036854775808 + 9218868437227405312 + 1 + (t / 2) % 4503599627370495) % 9223372036854775808 = 9218868437227405313 + (t / 2) % 4503599627370495 := by
    have h1 : t % 2 < 2 := Nat.mod_lt _ (by decide)
    have h2 : (t / 2) % 4503599627370495 < 4503599627370495 := Nat.mod_lt _ (by decide)
    generalize t % 2 = p at *
    generalize (t / 2) % 4503599627370495 = q at *
    omega
  rw [e4]
  simp only [Ieee.Format.read, e1, e2, e3, e5]
  rw [if_neg (by omega), if_neg (by omega), if_neg (by omega)]
  exact ⟨_, _, rfl⟩

/-- THE LAW: 'a1', 'a3': two halvings of 'av'; 'b1', 'b3': of 'bv'; then all three sums are the same. -/
theorem law {av bv a1 a3 b1 b3 a2 b2 s : Nat} (ha1 : Res .quo av two a1) (ha3 : Res .quo av two a3) (hb1 : Res .quo bv two b1) (hb3 : Res .quo bv two b3)
    (ha2 : Res .add a1 b1 a2) (hb2 : Res .add b1 a1 b2) (hs : Res .add a3 b3 s) : sameB a2 b2 = true ∧ sameB a2 s = true := by
  have key : (a1 = a3 ∨ (Nan a1 ∧ Nan a3)) := by
    rcases ha1 with h | ⟨h, n⟩ <;> rcases ha3 with h' | ⟨h', n'⟩
    · left; rw [h] at h'; exact Option.some.inj h'
    · rw [h] at h'; cases h'
    · rw [h] at h'; cases h'
    · exact .inr ⟨n, n'⟩
  have key' : (b1 = b3 ∨ (Nan b1 ∧ Nan b3)) := by
    rcases hb1 with h | ⟨h, n⟩ <;> rcases hb3 with h' | ⟨h', n'⟩
    · left; rw [h] at h'; exact Option.some.inj h'
    · rw [h] at h'; cases h'
    · rw [h] at h'; cases h'
    · exact .inr ⟨n, n'⟩
  have out : ∀ {x y r : Nat}, Res .add x y r → floatBits .add .f64 x y = none → Nan r := by
    intro x y r h e
    rcases h with h | ⟨_, h⟩
    · rw [e] at h; cases h
    · exact h
  have allnan : (floatBits .add .f64 a1 b1 = none) → (floatBits .add .f64 a3 b3 = none) → sameB a2 b2 = true ∧ sameB a2 s = true := by
    intro e1 e3
    have e2 : floatBits .add .f64 b1 a1 = none := by rw [add_comm]; exact e1
    exact ⟨same_nan (out ha2 e1) (out hb2 e2), same_nan (out ha2 e1) (out hs e3)⟩
  rcases key with rfl | ⟨n1, n3⟩
  · rcases key' with rfl | ⟨m1, m3⟩
    · cases e : floatBits .add .f64 a1 b1 with
      | none => exact allnan e e
      | some r =>
        have e2 : floatBits .add .f64 b1 a1 = some r := by rw [add_comm]; exact e
        have get : ∀ {x y q : Nat}, Res .add x y q → floatBits .add .f64 x y = some r → q = r := by
          intro x y q h e
          rcases h with h | ⟨h, _⟩
          · rw [e] at h; exact (Option.some.inj h).symm
          · rw [e] at h; cases h
        rw [get ha2 e, get hb2 e2, get hs e]
        exact ⟨same_refl _, same_refl _⟩
    · exact allnan (add_nan_right m1) (add_nan_right m3)
  · exact allnan (add_nan_left n1) (add_nan_left n3)

end Go.Proofs.Qxb6619723a
