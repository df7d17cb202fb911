/-
  THE PLAIN LAW of circles, third part: distances found by relaxing the edges round by round. No Go in sight.
-/
import Derived.Test.Qxb6619715aNet
namespace Go.Proofs.Qxb6619715a
namespace Net
variable {g : Net}

/-- What a relaxing step does to the array. -/
def relaxes (g : Net) (da : Nat → Int) (k : Nat) : Prop := g.cp (g.fr k) = g.c ∧ g.cp (g.to k) = g.c ∧ 0 ≤ da (g.to k) ∧ (da (g.fr k) < 0 ∨ da (g.to k) + 1 < da (g.fr k))
def set (da : Nat → Int) (u : Nat) (x : Int) : Nat → Int := fun y => if y = u then x else da y
theorem set_same (da : Nat → Int) (u : Nat) (x : Int) : set da u x u = x := if_pos rfl
theorem set_other (da : Nat → Int) {u y : Nat} (x : Int) (h : y ≠ u) : set da u x y = da y := if_neg h

/-- In round r, the first k edges looked at; 'ch': has anything been changed in this round? -/
structure Rlx (g : Net) (da : Nat → Int) (r k : Nat) (ch : Bool) : Prop where
  low : ∀ u, -1 ≤ da u
  sound : ∀ (u a : Nat), da u = (a : Int) → g.walk a u
  zero : da g.left = 0
  cov : ∀ u j, j ≤ r → g.walk j u → 0 ≤ da u ∧ da u ≤ (j : Int)
  mid : ∀ k', k' < k → k' < g.m → g.cp (g.fr k') = g.c → g.cp (g.to k') = g.c → ∀ j, j ≤ r → g.walk j (g.to k') → 0 ≤ da (g.fr k') ∧ da (g.fr k') ≤ (j : Int) + 1
  fix : ch = false → ∀ k', k' < k → k' < g.m → ¬ g.relaxes da k'

theorem Rlx.start : Rlx g (set (fun _ => -1) g.left 0) 0 0 false := by
  have e : ∀ u, u ≠ g.left → set (fun _ => -1) g.left 0 u = -1 := fun u hu => set_other _ _ hu
  refine ⟨fun u => ?_, fun u a ha => ?_, set_same _ _ _, fun u j hj hw => ?_, fun k' hk' => by omega, fun _ k' hk' => by omega⟩
  · by_cases h : u = g.left
    · rw [h, set_same]; omega
    · rw [e u h]; omega
  · by_cases h : u = g.left
    · rw [h, set_same] at ha
      obtain rfl : a = 0 := by omega
      exact h
    · rw [e u h] at ha; omega
  · obtain rfl : j = 0 := by omega
    obtain rfl : u = g.left := hw
    rw [set_same]; omega

theorem Rlx.skip {da : Nat → Int} {r k : Nat} {ch : Bool} (h : Rlx g da r k ch) (hn : ¬ g.relaxes da k) : Rlx g da r (k + 1) ch := by
  refine ⟨h.low, h.sound, h.zero, h.cov, fun k' hk' hm h1 h2 j hj hw => ?_, fun hc k' hk' hm => ?_⟩
  · rcases Nat.lt_or_ge k' k with h' | h'
    · exact h.mid k' h' hm h1 h2 j hj hw
    · obtain rfl : k' = k := by omega
      have hw' := h.cov _ j hj hw
      have : ¬ (da (g.fr k') < 0 ∨ da (g.to k') + 1 < da (g.fr k')) := fun h3 => hn ⟨h1, h2, hw'.1, h3⟩
      omega
  · rcases Nat.lt_or_ge k' k with h' | h'
    · exact h.fix hc k' h' hm
    · obtain rfl : k' = k := by omega
      exact hn

theorem Rlx.step {da : Nat → Int} {r k : Nat} {ch : Bool} (h : Rlx g da r k ch) (hk : k < g.m) (hr : g.relaxes da k) : Rlx g (set da (g.fr k) (da (g.to k) + 1)) r (k + 1) true := by
  obtain ⟨h1, h2, h3, h4⟩ := hr
  have hne : g.fr k ≠ g.left := fun e => by rw [e, h.zero] at h4; omega
  -- values never rise
  have down : ∀ u, (0 ≤ da u → 0 ≤ set da (g.fr k) (da (g.to k) + 1) u ∧ set da (g.fr k) (da (g.to k) + 1) u ≤ da u) := by
    intro u h0
    by_cases e : u = g.fr k
    · rw [e, set_same]; rw [e] at h0; omega
    · rw [set_other _ _ e]; omega
  refine ⟨fun u => ?_, fun u a ha => ?_, ?_, fun u j hj hw => ?_, fun k' hk' hm c1 c2 j hj hw => ?_, fun hc => by cases hc⟩
  · by_cases e : u = g.fr k
    · rw [e, set_same]; omega
    · rw [set_other _ _ e]; exact h.low u
  · by_cases e : u = g.fr k
    · rw [e, set_same] at ha
      obtain ⟨b, hb⟩ := Int.eq_ofNat_of_zero_le h3
      obtain rfl : a = b + 1 := by omega
      exact ⟨k, hk, e.symm, e ▸ h1, h2, h.sound _ b hb⟩
    · rw [set_other _ _ e] at ha; exact h.sound u a ha
  · rw [set_other _ _ hne.symm]; exact h.zero
  · have := h.cov u j hj hw
    have := down u this.1
    omega
  · rcases Nat.lt_or_ge k' k with h' | h'
    · have := h.mid k' h' hm c1 c2 j hj hw
      have := down _ this.1
      omega
    · obtain rfl : k' = k := by omega
      have := h.cov _ j hj hw
      rw [set_same]
      omega

/-- Behind a whole round. -/
theorem Rlx.round {da : Nat → Int} {r : Nat} {ch : Bool} (h : Rlx g da r g.m ch) : Rlx g da (r + 1) 0 false := by
  refine ⟨h.low, h.sound, h.zero, fun u j hj hw => ?_, fun k' hk' => by omega, fun _ k' hk' => by omega⟩
  rcases Nat.lt_or_ge j (r + 1) with h' | h'
  · exact h.cov u j (by omega) hw
  · obtain rfl : j = r + 1 := by omega
    obtain ⟨k, hk, rfl, c1, c2, hw⟩ := hw
    have := h.mid k hk hk c1 c2 r (Nat.le_refl _) hw
    omega

/-- Nothing was changed in a whole round: these are the distances. -/
theorem Rlx.stable {da : Nat → Int} {r : Nat} (h : Rlx g da r g.m false) : g.Dist da := by
  refine ⟨h.low, h.sound, fun u j => ?_⟩
  induction j generalizing u with
  | zero =>
    intro hw
    obtain rfl : u = g.left := hw
    rw [h.zero]; omega
  | succ j ih =>
    rintro ⟨k, hk, rfl, c1, c2, hw⟩
    have h1 := ih _ hw
    have h2 := h.fix rfl k hk hk
    have : ¬ (da (g.fr k) < 0 ∨ da (g.to k) + 1 < da (g.fr k)) := fun h3 => h2 ⟨c1, c2, h1.1, h3⟩
    omega

/-- n rounds are enough. -/
theorem Rlx.enough {da : Nat → Int} {k : Nat} {ch : Bool} (ho : g.Ok) (h : Rlx g da g.n k ch) : g.Dist da := by
  obtain ⟨d, hd⟩ := g.exists_dist
  refine ⟨h.low, h.sound, fun u j hw => ?_⟩
  have h1 := hd.least u j hw
  obtain ⟨a, ha⟩ := Int.eq_ofNat_of_zero_le h1.1
  have hu : u < g.n := by
    cases j with
    | zero => obtain rfl : u = g.left := hw; exact ho.left_lt
    | succ j => obtain ⟨k, hk, rfl, _⟩ := hw; exact ho.fr_lt k hk
  have h2 := hd.lt ho hu
  have := h.cov u a (by omega) (hd.sound u a ha)
  omega

end Net
end Go.Proofs.Qxb6619715a
