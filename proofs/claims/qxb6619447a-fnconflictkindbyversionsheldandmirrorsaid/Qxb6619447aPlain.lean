/-
  THE PLAIN PART: an ordered stage list, read byte by byte. No Go in sight.
-/
namespace Go.Proofs.Qxb6619447a

/-- zzStageSet: the flags gathered so far; none where the text is no ordered stage list. -/
def st (prev : Nat) (f1 f2 f3 : Bool) : List UInt8 → Option (Bool × Bool × Bool)
  | [] => some (f1, f2, f3)
  | c :: l => if c.toNat < 49 ∨ 51 < c.toNat ∨ c.toNat ≤ prev then none
    else if c.toNat = 49 then st c.toNat true f2 f3 l
    else if c.toNat = 50 then st c.toNat f1 true f3 l
    else st c.toNat f1 f2 true l

/-- The text of three flags. -/
def text (a b c : Bool) : List UInt8 := (if a then [49] else []) ++ (if b then [50] else []) ++ (if c then [51] else [])

theorem u8_of {c : UInt8} {n : Nat} (h : c.toNat = n) (hn : n < 256) : c = UInt8.ofNat n := UInt8.toNat_inj.1 (by rw [h]; simp; omega)

theorem st51 {f1 f2 f3 : Bool} {l : List UInt8} {r : Bool × Bool × Bool} (h : st 51 f1 f2 f3 l = some r) : l = [] ∧ r = (f1, f2, f3) := by
  cases l with
  | nil => simp [st] at h; exact ⟨rfl, h.symm⟩
  | cons c l =>
    simp only [st] at h
    rw [if_pos (by omega)] at h
    cases h
theorem st50 {f1 f2 : Bool} {l : List UInt8} {r : Bool × Bool × Bool} (h : st 50 f1 f2 false l = some r) : ∃ c, l = text false false c ∧ r = (f1, f2, c) := by
  cases l with
  | nil => simp [st] at h; exact ⟨false, rfl, h.symm⟩
  | cons c l =>
    simp only [st] at h
    split at h
    · cases h
    · rename_i hn
      have e : c.toNat = 51 := by omega
      rw [if_neg (by omega), if_neg (by omega), e] at h
      obtain ⟨rfl, rfl⟩ := st51 h
      refine ⟨true, ?_, rfl⟩
      rw [u8_of e (by decide)]
      rfl
theorem st49 {f1 : Bool} {l : List UInt8} {r : Bool × Bool × Bool} (h : st 49 f1 false false l = some r) : ∃ b c, l = text false b c ∧ r = (f1, b, c) := by
  cases l with
  | nil => simp [st] at h; exact ⟨false, false, rfl, h.symm⟩
  | cons c l =>
    simp only [st] at h
    split at h
    · cases h
    · rename_i hn
      rw [if_neg (by omega)] at h
      by_cases e : c.toNat = 50
      · rw [if_pos e, e] at h
        obtain ⟨c', rfl, rfl⟩ := st50 h
        refine ⟨true, c', ?_, rfl⟩
        rw [u8_of e (by decide)]
        cases c' <;> rfl
      · have e' : c.toNat = 51 := by omega
        rw [if_neg e, e'] at h
        obtain ⟨rfl, rfl⟩ := st51 h
        refine ⟨false, true, ?_, rfl⟩
        rw [u8_of e' (by decide)]
        rfl
theorem st48 {l : List UInt8} {r : Bool × Bool × Bool} (h : st 48 false false false l = some r) : ∃ a b c, l = text a b c ∧ r = (a, b, c) := by
  cases l with
  | nil => simp [st] at h; exact ⟨false, false, false, rfl, h.symm⟩
  | cons c l =>
    simp only [st] at h
    split at h
    · cases h
    · rename_i hn
      by_cases e : c.toNat = 49
      · rw [if_pos e, e] at h
        obtain ⟨b, c', rfl, rfl⟩ := st49 h
        refine ⟨true, b, c', ?_, rfl⟩
        rw [u8_of e (by decide)]
        cases b <;> cases c' <;> rfl
      rw [if_neg e] at h
      by_cases e : c.toNat = 50
      · rw [if_pos e, e] at h
        obtain ⟨c', rfl, rfl⟩ := st50 h
        refine ⟨false, true, c', ?_, rfl⟩
        rw [u8_of e (by decide)]
        cases c' <;> rfl
      · have e' : c.toNat = 51 := by omega
        rw [if_neg e, e'] at h
        obtain ⟨rfl, rfl⟩ := st51 h
        refine ⟨false, false, true, ?_, rfl⟩
        rw [u8_of e' (by decide)]
        rfl

theorem st_text (a b c : Bool) : st 48 false false false (text a b c) = some (a, b, c) := by
  cases a <;> cases b <;> cases c <;> decide

end Go.Proofs.Qxb6619447a
