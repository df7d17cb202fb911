/-
  THE PLAIN LAW of circles, first part: walks back to 'left' inside one component; distances; the greedy way. No Go in sight.
-/
namespace Go.Proofs.Qxb6619715a

/-- Edges 0 .. m - 1 over nodes 0 .. n - 1; the nodes' components; the two ends. -/
structure Net where
  n : Nat
  m : Nat
  fr : Nat → Nat
  to : Nat → Nat
  cp : Nat → Int
  left : Nat
  right : Nat

namespace Net
variable (g : Net)

def c : Int := g.cp g.left

structure Ok : Prop where
  fr_lt : ∀ k, k < g.m → g.fr k < g.n
  to_lt : ∀ k, k < g.m → g.to k < g.n
  left_lt : g.left < g.n
  right_lt : g.right < g.n

/-- A walk of j edges from u to 'left', inside the component. -/
def walk : Nat → Nat → Prop
  | 0, u => u = g.left
  | j + 1, u => ∃ k, k < g.m ∧ g.fr k = u ∧ g.cp u = g.c ∧ g.cp (g.to k) = g.c ∧ walk j (g.to k)

/-- The distances. -/
structure Dist (d : Nat → Int) : Prop where
  low : ∀ u, -1 ≤ d u
  sound : ∀ (u a : Nat), d u = (a : Int) → g.walk a u
  least : ∀ u j, g.walk j u → 0 ≤ d u ∧ d u ≤ (j : Int)

theorem exists_least {p : Nat → Prop} : ∀ (n : Nat), p n → ∃ j, p j ∧ ∀ i, i < j → ¬ p i := by
  intro n
  induction n using Nat.strongRecOn with
  | ind n ih =>
    intro h
    by_cases hs : ∃ i, i < n ∧ p i
    · obtain ⟨i, hi, hp⟩ := hs
      exact ih i hi hp
    · exact ⟨n, h, fun i hi hp => hs ⟨i, hi, hp⟩⟩

theorem exists_dist : ∃ d, g.Dist d := by
  have h : ∀ u, ∃ x : Int, -1 ≤ x ∧ (∀ a : Nat, x = (a : Int) → g.walk a u) ∧ (∀ j, g.walk j u → 0 ≤ x ∧ x ≤ (j : Int)) := by
    intro u
    by_cases hs : ∃ j, g.walk j u
    · obtain ⟨j, hj⟩ := hs
      obtain ⟨i, hi, hmin⟩ := exists_least (p := fun j => g.walk j u) j hj
      refine ⟨(i : Int), by omega, fun a ha => ?_, fun j' hj' => ⟨by omega, ?_⟩⟩
      · obtain rfl : i = a := by omega
        exact hi
      · rcases Nat.lt_or_ge j' i with h | h
        · exact absurd hj' (hmin j' h)
        · omega
    · exact ⟨-1, by omega, fun a ha => by omega, fun j hj => absurd ⟨j, hj⟩ hs⟩
  exact ⟨fun u => Classical.choose (h u), fun u => (Classical.choose_spec (h u)).1, fun u => (Classical.choose_spec (h u)).2.1, fun u => (Classical.choose_spec (h u)).2.2⟩

variable {g}
variable {d : Nat → Int}

theorem Dist.unique {d' : Nat → Int} (h : g.Dist d) (h' : g.Dist d') (u : Nat) : d u = d' u := by
  have l1 := h.low u
  have l2 := h'.low u
  by_cases h0 : 0 ≤ d u
  · obtain ⟨a, ha⟩ := Int.eq_ofNat_of_zero_le h0
    have w := h.sound u a ha
    have := h'.least u a w
    obtain ⟨b, hb⟩ := Int.eq_ofNat_of_zero_le this.1
    have w' := h'.sound u b hb
    have := h.least u b w'
    omega
  · by_cases h0' : 0 ≤ d' u
    · obtain ⟨b, hb⟩ := Int.eq_ofNat_of_zero_le h0'
      have := h.least u b (h'.sound u b hb)
      omega
    · omega

theorem Dist.zero (h : g.Dist d) {u : Nat} : d u = 0 ↔ u = g.left := by
  constructor
  · intro h0
    exact h.sound u 0 (by omega)
  · rintro rfl
    have := h.least g.left 0 rfl
    omega

theorem Dist.edge (h : g.Dist d) {k : Nat} (hk : k < g.m) (h1 : g.cp (g.fr k) = g.c) (h2 : g.cp (g.to k) = g.c) (h0 : 0 ≤ d (g.to k)) : 0 ≤ d (g.fr k) ∧ d (g.fr k) ≤ d (g.to k) + 1 := by
  obtain ⟨a, ha⟩ := Int.eq_ofNat_of_zero_le h0
  have := h.least (g.fr k) (a + 1) ⟨k, hk, rfl, h1, h2, h.sound _ a ha⟩
  omega

theorem Dist.down (h : g.Dist d) {u : Nat} (h0 : 0 < d u) : ∃ k, k < g.m ∧ g.fr k = u ∧ g.cp u = g.c ∧ g.cp (g.to k) = g.c ∧ 0 ≤ d (g.to k) ∧ d (g.to k) = d u - 1 := by
  obtain ⟨a, ha⟩ := Int.eq_ofNat_of_zero_le (Int.le_of_lt h0)
  match a, ha with
  | 0, ha => omega
  | a + 1, ha =>
    obtain ⟨k, hk, hf, hc, hc', hw⟩ := h.sound u (a + 1) ha
    have h1 := h.least _ a hw
    have h2 := h.edge hk (hf ▸ hc) hc' h1.1
    rw [hf] at h2
    exact ⟨k, hk, hf, hc, hc', h1.1, by omega⟩

/-! ### A bound on distances -/
theorem nodup_le : ∀ (n : Nat) (l : List Nat), l.Nodup → (∀ x ∈ l, x < n) → l.length ≤ n
  | 0, l, _, h => by
    cases l with
    | nil => simp
    | cons x l => exact absurd (h x (by simp)) (by omega)
  | n + 1, l, hn, h => by
    by_cases hm : n ∈ l
    · have h1 : (l.erase n).Nodup := hn.erase n
      have h2 : ∀ x ∈ l.erase n, x < n := by
        intro x hx
        have hx' := (List.Nodup.mem_erase_iff hn).1 hx
        have := h x hx'.2
        omega
      have := nodup_le n _ h1 h2
      have hl := List.length_erase_of_mem hm
      have : 0 < l.length := List.length_pos_of_mem hm
      omega
    · have : ∀ x ∈ l, x < n := by
        intro x hx
        have := h x hx
        rcases Nat.lt_or_ge x n with h' | h'
        · exact h'
        · obtain rfl : x = n := by omega
          exact absurd hx hm
      have := nodup_le n l hn this
      omega

/-- Nodes at each distance down from u. -/
theorem Dist.chain (h : g.Dist d) (ho : g.Ok) : ∀ (a u : Nat), u < g.n → d u = (a : Int) → ∃ l : List Nat, l.length = a + 1 ∧ l.Nodup ∧ (∀ x ∈ l, x < g.n) ∧ ∀ x ∈ l, 0 ≤ d x ∧ d x ≤ (a : Int)
  | 0, u, hu, hd => ⟨[u], rfl, by simp, by simpa using hu, by simp [hd]⟩
  | a + 1, u, hu, hd => by
    obtain ⟨k, hk, hf, _, _, h0, h1⟩ := h.down (u := u) (by omega)
    obtain ⟨l, h2, h3, h4, h5⟩ := Dist.chain h ho a (g.to k) (ho.to_lt k hk) (by omega)
    refine ⟨u :: l, by simp [h2], ?_, ?_, ?_⟩
    · rw [List.nodup_cons]
      refine ⟨fun hm => ?_, h3⟩
      have := h5 u hm
      omega
    · intro x hx
      rcases List.mem_cons.1 hx with rfl | hx
      · exact hu
      · exact h4 x hx
    · intro x hx
      rcases List.mem_cons.1 hx with rfl | hx
      · omega
      · have := h5 x hx
        omega

theorem Dist.lt (h : g.Dist d) (ho : g.Ok) {u : Nat} (hu : u < g.n) : d u < (g.n : Int) := by
  by_cases h0 : 0 ≤ d u
  · obtain ⟨a, ha⟩ := Int.eq_ofNat_of_zero_le h0
    obtain ⟨l, h1, h2, h3, _⟩ := h.chain ho a u hu ha
    have := nodup_le g.n l h2 h3
    omega
  · omega

/-! ### The greedy way -/
def Pick (g : Net) (d : Nat → Int) (u k : Nat) : Prop := k < g.m ∧ g.fr k = u ∧ g.cp (g.to k) = g.c ∧ 0 ≤ d (g.to k) ∧ d (g.to k) = d u - 1
def First (g : Net) (d : Nat → Int) (u k : Nat) : Prop := g.Pick d u k ∧ ∀ k', k' < k → ¬ g.Pick d u k'
def Greedy (g : Net) (d : Nat → Int) : Nat → List Nat → Prop
  | u, [] => u = g.left
  | u, k :: ks => u ≠ g.left ∧ g.First d u k ∧ Greedy g d (g.to k) ks

theorem First.unique {u k k' : Nat} (h : g.First d u k) (h' : g.First d u k') : k = k' := by
  rcases Nat.lt_trichotomy k k' with hl | hl | hl
  · exact absurd h.1 (h'.2 k hl)
  · exact hl
  · exact absurd h'.1 (h.2 k' hl)

theorem Dist.first (h : g.Dist d) {u : Nat} (h0 : 0 < d u) : ∃ k, g.First d u k := by
  obtain ⟨k, hk, hf, _, hc', h1, h2⟩ := h.down h0
  obtain ⟨j, hj, hmin⟩ := exists_least (p := g.Pick d u) k ⟨hk, hf, hc', h1, h2⟩
  exact ⟨j, hj, hmin⟩

theorem Dist.greedy (h : g.Dist d) : ∀ (a u : Nat), d u = (a : Int) → ∃ ks, g.Greedy d u ks ∧ ks.length = a
  | 0, u, hd => ⟨[], h.zero.1 (by omega), rfl⟩
  | a + 1, u, hd => by
    obtain ⟨k, hk⟩ := h.first (u := u) (by omega)
    have := hk.1.2.2.2.2
    obtain ⟨ks, h1, h2⟩ := Dist.greedy h a (g.to k) (by omega)
    exact ⟨k :: ks, ⟨fun e => by have := h.zero.2 e; omega, hk, h1⟩, by simp [h2]⟩

theorem Greedy.unique : ∀ {ks ks' : List Nat} {u : Nat}, g.Greedy d u ks → g.Greedy d u ks' → ks = ks'
  | [], [], _, _, _ => rfl
  | [], k' :: ks', u, h, h' => absurd h h'.1
  | k :: ks, [], u, h, h' => absurd h' h.1
  | k :: ks, k' :: ks', u, h, h' => by
    obtain rfl := h.2.1.unique h'.2.1
    rw [Greedy.unique h.2.2 h'.2.2]

/-- The nodes along a way from u. -/
def node (g : Net) (u : Nat) (ks : List Nat) : Nat → Nat
  | 0 => u
  | i + 1 => g.to (ks.getD i 0)

theorem Greedy.at {ks : List Nat} : ∀ {u : Nat} (i : Nat), g.Greedy d u ks → i < ks.length → g.First d (g.node u ks i) (ks.getD i 0) ∧ g.node u ks i ≠ g.left := by
  induction ks with
  | nil => intro u i _ hi; simp at hi
  | cons k ks ih =>
    intro u i h hi
    cases i with
    | zero => exact ⟨h.2.1, h.1⟩
    | succ i =>
      have h2 := ih (u := g.to k) i h.2.2 (by simpa using hi)
      have e : g.node u (k :: ks) (i + 1) = g.node (g.to k) ks i := by
        cases i with
        | zero => rfl
        | succ i => rfl
      rw [e]
      simpa using h2

theorem Greedy.last {ks : List Nat} : ∀ {u : Nat}, g.Greedy d u ks → g.node u ks ks.length = g.left := by
  induction ks with
  | nil => intro u h; exact h
  | cons k ks ih =>
    intro u h
    have h2 := ih (u := g.to k) h.2.2
    have e : g.node u (k :: ks) (k :: ks).length = g.node (g.to k) ks ks.length := by
      cases ks with
      | nil => rfl
      | cons k' ks => rfl
    rw [e]
    exact h2

theorem Greedy.dist (hd : g.Dist d) {ks : List Nat} : ∀ {u : Nat} (i : Nat), g.Greedy d u ks → i ≤ ks.length → d (g.node u ks i) = (ks.length : Int) - i := by
  induction ks with
  | nil =>
    intro u i h hi
    obtain rfl : i = 0 := by simpa using hi
    have := hd.zero.2 h
    simpa [node] using this
  | cons k ks ih =>
    intro u i h hi
    cases i with
    | zero =>
      have h0 := ih (u := g.to k) 0 h.2.2 (by omega)
      have := h.2.1.1.2.2.2.2
      simp only [node] at h0 ⊢
      simp
      omega
    | succ i =>
      have h2 := ih (u := g.to k) i h.2.2 (by simpa using hi)
      have e : g.node u (k :: ks) (i + 1) = g.node (g.to k) ks i := by
        cases i with
        | zero => rfl
        | succ i => rfl
      rw [e, h2]
      simp
      omega

end Net
end Go.Proofs.Qxb6619715a
