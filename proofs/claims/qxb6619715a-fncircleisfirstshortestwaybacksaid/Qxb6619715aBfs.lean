/-
  THE PLAIN LAW of circles, second part: a search breadth first from 'right', told by an invariant: along it the way back to 'left' grows as the greedy way. No Go in sight.
-/
import Derived.Test.Qxb6619715aNet
namespace Go.Proofs.Qxb6619715a
namespace Net
variable {g : Net} {d : Nat → Int}

/-- The edges that leave u, in order. -/
def adj (g : Net) (u : Nat) : List Nat := (List.range g.m).filter fun k => g.fr k == u

theorem adj_at {u j : Nat} (hj : j < (g.adj u).length) : (g.adj u)[j] < g.m ∧ g.fr (g.adj u)[j] = u := by
  have h : (g.adj u)[j] ∈ g.adj u := List.getElem_mem hj
  simp only [adj, List.mem_filter, List.mem_range, beq_iff_eq] at h
  exact h

theorem adj_pairwise (u : Nat) : (g.adj u).Pairwise (· < ·) := by
  unfold adj
  exact List.Pairwise.filter _ List.pairwise_lt_range

theorem adj_before {u j : Nat} (hj : j < (g.adj u).length) {k : Nat} (hk : k < (g.adj u)[j]) (hf : g.fr k = u) : k ∈ (g.adj u).take j := by
  have hm : k < g.m := Nat.lt_trans hk (adj_at hj).1
  have hmem : k ∈ g.adj u := by simp [adj, hm, hf]
  obtain ⟨i, hi, rfl⟩ := List.getElem_of_mem hmem
  have hij : i < j := by
    rcases Nat.lt_trichotomy i j with h | h | h
    · exact h
    · subst h; omega
    · have := List.pairwise_iff_getElem.1 (adj_pairwise (g := g) u) j i hj hi h
      omega
  rw [List.mem_take_iff_getElem]
  exact ⟨i, by omega, rfl⟩

theorem adj_mem {u k : Nat} (hk : k < g.m) (hf : g.fr k = u) : k ∈ g.adj u := by simp [adj, hk, hf]

def upd (via : Nat → Option (Option Nat)) (y : Nat) (v : Option (Option Nat)) : Nat → Option (Option Nat) := fun x => if x = y then v else via x
theorem upd_same (via : Nat → Option (Option Nat)) (y : Nat) (v : Option (Option Nat)) : upd via y v y = v := if_pos rfl
theorem upd_other (via : Nat → Option (Option Nat)) {x y : Nat} (v : Option (Option Nat)) (h : x ≠ y) : upd via y v x = via x := if_neg h

/-- What is known of the queue and of the nodes that were met. -/
structure Base (g : Net) (done Q : List Nat) (via : Nat → Option (Option Nat)) : Prop where
  nodup : (done ++ Q).Nodup
  mem : ∀ y, (via y).isSome = true ↔ y ∈ done ++ Q
  lt : ∀ y, y ∈ done ++ Q → y < g.n
  comp : ∀ y, y ∈ done ++ Q → g.cp y = g.c
  root : via g.right = some none

/-- The way back exists: its first i steps are met; node i stands in the queue, and ahead of it none that would do as well. -/
structure Inv (g : Net) (d : Nat → Int) (ks : List Nat) (Q : List Nat) (via : Nat → Option (Option Nat)) (lev : Nat → Nat) (i : Nat) (Q1 Q2 : List Nat) : Prop where
  split : Q = Q1 ++ g.node g.right ks i :: Q2
  lt : i < ks.length
  pre : ∀ x, x ∈ Q1 → lev x ≤ i ∧ ¬ (0 ≤ d x ∧ (lev x : Int) + d x = ks.length ∧ lev x = i)
  here : lev (g.node g.right ks i) = i
  vias : ∀ j, j < i → via (g.node g.right ks (j + 1)) = some (some (ks.getD j 0))
  nog : ∀ y, (via y).isSome = true → 0 ≤ d y → (lev y : Int) + d y = ks.length → lev y ≤ i
  top : ∀ y, (via y).isSome = true → lev y ≤ i + 1
  pot : ∀ y, (via y).isSome = true → 0 ≤ d y → (ks.length : Int) ≤ lev y + d y

/-- Between two edges of the queue's first node u: 'seen': those edges of it that were looked at. -/
structure Mid (g : Net) (d : Nat → Int) (done Q : List Nat) (via : Nat → Option (Option Nat)) (u : Nat) (seen : List Nat) : Prop where
  head : ∃ R, Q = u :: R
  base : Base g done Q via
  live : g.left ≠ g.right → via g.left = none ∧ ((d g.right < 0 ∧ ∀ y, (via y).isSome = true → d y < 0) ∨ ∃ ks lev i Q1 Q2, g.Greedy d g.right ks ∧ Inv g d ks Q via lev i Q1 Q2 ∧ (Q1 = [] → ∀ k, k ∈ seen → ¬ g.Pick d u k))

/-- At the head of the outer loop. -/
structure Top (g : Net) (d : Nat → Int) (done Q : List Nat) (via : Nat → Option (Option Nat)) : Prop where
  base : Base g done Q via
  live : g.left ≠ g.right → via g.left = none ∧ ((d g.right < 0 ∧ ∀ y, (via y).isSome = true → d y < 0) ∨ ∃ ks lev i Q1 Q2, g.Greedy d g.right ks ∧ Inv g d ks Q via lev i Q1 Q2)

theorem Top.start (hd : g.Dist d) (ho : g.Ok) (hc : g.cp g.right = g.c) : Top g d [] [g.right] (upd (fun _ => none) g.right (some none)) := by
  have hmem : ∀ y, ((upd (fun _ => none) g.right (some none)) y).isSome = true ↔ y = g.right := by
    intro y
    by_cases h : y = g.right
    · simp [h, upd_same]
    · simp [upd_other _ _ h, h]
  refine ⟨⟨by simp, fun y => by rw [hmem]; simp, fun y hy => ?_, fun y hy => ?_, upd_same _ _ _⟩, fun hne => ⟨upd_other _ _ hne, ?_⟩⟩
  · obtain rfl : y = g.right := by simpa using hy
    exact ho.right_lt
  · obtain rfl : y = g.right := by simpa using hy
    exact hc
  by_cases h0 : 0 ≤ d g.right
  · right
    obtain ⟨a, ha⟩ := Int.eq_ofNat_of_zero_le h0
    obtain ⟨ks, hg, hl⟩ := hd.greedy a g.right ha
    have hpos : 0 < ks.length := by
      rcases Nat.eq_zero_or_pos ks.length with h | h
      · have : d g.right = 0 := by omega
        exact absurd (hd.zero.1 this).symm hne
      · exact h
    refine ⟨ks, fun _ => 0, 0, [], [], hg, ⟨rfl, hpos, by simp, rfl, fun j hj => by omega, fun y hy h1 h2 => Nat.le_refl _, fun y _ => by omega, fun y hy h1 => ?_⟩⟩
    obtain rfl := (hmem y).1 hy
    omega
  · left
    refine ⟨by omega, fun y hy => ?_⟩
    obtain rfl := (hmem y).1 hy
    omega

/-- Into a round. -/
theorem Top.enter {done R : List Nat} {u : Nat} {via : Nat → Option (Option Nat)} (h : Top g d done (u :: R) via) : Mid g d done (u :: R) via u [] := by
  refine ⟨⟨R, rfl⟩, h.base, fun hne => ?_⟩
  obtain ⟨h1, h2⟩ := h.live hne
  refine ⟨h1, h2.elim Or.inl (fun h3 => Or.inr ?_)⟩
  revert h3
  rintro ⟨ks, lev, i, Q1, Q2, hg, hi⟩
  exact ⟨ks, lev, i, Q1, Q2, hg, hi, fun _ k hk => by simp at hk⟩

/-- The queue has run empty: there is no way back. -/
theorem Top.ended {done : List Nat} {via : Nat → Option (Option Nat)} (h : Top g d done [] via) (hne : g.left ≠ g.right) : d g.right < 0 := by
  rcases (h.live hne).2 with h | ⟨ks, lev, i, Q1, Q2, _, hi⟩
  · exact h.1
  · have := hi.split
    simp at this

/-- The nodes done are fewer than n while the queue is not empty. -/
theorem Base.done_lt {done R : List Nat} {u : Nat} {via : Nat → Option (Option Nat)} (h : Base g done (u :: R) via) : done.length < g.n := by
  have := nodup_le g.n _ h.nodup h.lt
  simp at this
  omega

/-- Out of a round: every edge of u was looked at. -/
theorem Mid.leave {done R : List Nat} {u : Nat} {via : Nat → Option (Option Nat)} (h : Mid g d done (u :: R) via u (g.adj u)) : Top g d (done ++ [u]) R via := by
  have hb := h.base
  refine ⟨⟨by simpa using hb.nodup, fun y => by simpa using hb.mem y, fun y hy => hb.lt y (by simpa using hy), fun y hy => hb.comp y (by simpa using hy), hb.root⟩, fun hne => ?_⟩
  obtain ⟨h1, h2⟩ := h.live hne
  refine ⟨h1, h2.elim Or.inl (fun h3 => Or.inr ?_)⟩
  revert h3
  rintro ⟨ks, lev, i, Q1, Q2, hg, hi, hs⟩
  cases Q1 with
  | nil =>
    exfalso
    have hsp := hi.split
    simp only [List.nil_append, List.cons.injEq] at hsp
    have hf := (hg.at i hi.lt).1
    rw [← hsp.1] at hf
    exact hs rfl _ (adj_mem hf.1.1 hf.1.2.1) hf.1
  | cons x Q1 =>
    have hsp := hi.split
    simp only [List.cons_append, List.cons.injEq] at hsp
    exact ⟨ks, lev, i, Q1, Q2, hg, hsp.2, hi.lt, fun y hy => hi.pre y (by simp [hy]), hi.here, hi.vias, hi.nog, hi.top, hi.pot⟩

/-- u is met, in the component. -/
theorem Mid.u_in {done Q : List Nat} {u : Nat} {via : Nat → Option (Option Nat)} {seen : List Nat} (h : Mid g d done Q via u seen) : (via u).isSome = true ∧ g.cp u = g.c ∧ u < g.n := by
  obtain ⟨R, rfl⟩ := h.head
  have hm : u ∈ done ++ u :: R := by simp
  exact ⟨(h.base.mem u).2 hm, h.base.comp u hm, h.base.lt u hm⟩

theorem Inv.lev_u {ks Q via lev i Q1 Q2 u R} (h : Inv g d ks Q via lev i Q1 Q2) (hq : Q = u :: R) : lev u ≤ i := by
  have hsp := h.split
  rw [hq] at hsp
  cases Q1 with
  | nil => simp only [List.nil_append, List.cons.injEq] at hsp; rw [hsp.1, h.here]; exact Nat.le_refl _
  | cons x Q1 => simp only [List.cons_append, List.cons.injEq] at hsp; rw [hsp.1]; exact (h.pre x (by simp)).1

/-- An edge that leads nowhere new. -/
theorem Mid.skip (hd : g.Dist d) {done Q : List Nat} {u : Nat} {via : Nat → Option (Option Nat)} {seen : List Nat} (h : Mid g d done Q via u seen) {k : Nat} (hf : g.fr k = u)
    (hs : (via (g.to k)).isSome = true ∨ g.cp (g.to k) ≠ g.c) : Mid g d done Q via u (seen ++ [k]) := by
  refine ⟨h.head, h.base, fun hne => ?_⟩
  obtain ⟨h1, h2⟩ := h.live hne
  refine ⟨h1, h2.elim Or.inl (fun h3 => Or.inr ?_)⟩
  revert h3
  rintro ⟨ks, lev, i, Q1, Q2, hg, hi, hn⟩
  refine ⟨ks, lev, i, Q1, Q2, hg, hi, fun hQ k' hk' => ?_⟩
  rcases List.mem_append.1 hk' with hk' | hk'
  · exact hn hQ k' hk'
  obtain rfl : k' = k := by simpa using hk'
  intro hp
  obtain ⟨R, hR⟩ := h.head
  have hsp := hi.split
  rw [hQ, hR] at hsp
  simp only [List.nil_append, List.cons.injEq] at hsp
  have hdu := hg.dist hd i (Nat.le_of_lt hi.lt)
  rw [← hsp.1] at hdu
  obtain ⟨_, _, hpc, hp0, hp1⟩ := hp
  have hv : (via (g.to k')).isSome = true := by
    rcases hs with hs | hs
    · exact hs
    · exact absurd hpc hs
  have h3 := hi.pot _ hv hp0
  have h4 := hi.top _ hv
  have h5 := hi.nog _ hv hp0 (by omega)
  omega

/-- A new node, behind the queue. -/
theorem Base.push {done R : List Nat} {u : Nat} {via : Nat → Option (Option Nat)} (h : Base g done (u :: R) via) {y : Nat} {v : Option Nat} (hy : via y = none) (hlt : y < g.n) (hc : g.cp y = g.c) : Base g done (u :: R ++ [y]) (upd via y (some v)) := by
  have hnm : y ∉ done ++ u :: R := fun hm => by
    have := (h.mem y).2 hm
    rw [hy] at this
    cases this
  refine ⟨?_, fun x => ?_, fun x hx => ?_, fun x hx => ?_, ?_⟩
  · rw [← List.append_assoc, List.nodup_append]
    refine ⟨h.nodup, by simp, fun a ha b hb => ?_⟩
    obtain rfl : b = y := by simpa using hb
    exact fun e => hnm (e ▸ ha)
  · by_cases hx : x = y
    · subst hx; simp [upd_same]
    · rw [upd_other _ _ hx, h.mem x]
      simp [hx]
  · rw [← List.append_assoc] at hx
    rcases List.mem_append.1 hx with hx | hx
    · exact h.lt x hx
    · obtain rfl : x = y := by simpa using hx
      exact hlt
  · rw [← List.append_assoc] at hx
    rcases List.mem_append.1 hx with hx | hx
    · exact h.comp x hx
    · obtain rfl : x = y := by simpa using hx
      exact hc
  · rw [upd_other _ _ (fun e => by rw [← e, h.root] at hy; cases hy)]
    exact h.root

theorem Mid.push (hd : g.Dist d) (ho : g.Ok) {done R : List Nat} {u : Nat} {via : Nat → Option (Option Nat)} {j : Nat} (h : Mid g d done (u :: R) via u ((g.adj u).take j)) (hj : j < (g.adj u).length)
    (hy : via (g.to (g.adj u)[j]) = none) (hc : g.cp (g.to (g.adj u)[j]) = g.c) (hl : g.to (g.adj u)[j] ≠ g.left) :
    Mid g d done (u :: R ++ [g.to (g.adj u)[j]]) (upd via (g.to (g.adj u)[j]) (some (some (g.adj u)[j]))) u ((g.adj u).take (j + 1)) := by
  obtain ⟨hkm, hkf⟩ := adj_at hj
  have htake : (g.adj u).take (j + 1) = (g.adj u).take j ++ [(g.adj u)[j]] := by rw [List.take_succ_eq_append_getElem hj]
  have hbefore : ∀ k', k' < (g.adj u)[j] → g.fr k' = u → k' ∈ (g.adj u).take j := fun k' hk' hf' => adj_before hj hk' hf'
  rw [htake]
  generalize (g.adj u)[j] = k at *
  obtain ⟨hvu, hcu, hltu⟩ := h.u_in
  have hvy : ∀ x, (upd via (g.to k) (some (some k)) x).isSome = true → x = g.to k ∨ ((via x).isSome = true ∧ x ≠ g.to k) := by
    intro x hx
    by_cases e : x = g.to k
    · exact .inl e
    · rw [upd_other _ _ e] at hx; exact .inr ⟨hx, e⟩
  have huy : u ≠ g.to k := fun e => by rw [← e] at hy; rw [hy] at hvu; cases hvu
  refine ⟨⟨R ++ [g.to k], rfl⟩, h.base.push hy (ho.to_lt k hkm) hc, fun hne => ?_⟩
  obtain ⟨h1, h2⟩ := h.live hne
  refine ⟨by rw [upd_other _ _ hl.symm]; exact h1, ?_⟩
  rcases h2 with ⟨h2, h3⟩ | ⟨ks, lev, i, Q1, Q2, hg, hi, hs⟩
  · left
    refine ⟨h2, fun x hx => ?_⟩
    rcases hvy x hx with rfl | ⟨hx, _⟩
    · by_cases h0 : 0 ≤ d (g.to k)
      · have := (hd.edge hkm (hkf ▸ hcu) hc h0).1
        rw [hkf] at this
        have := h3 u hvu
        omega
      · omega
    · exact h3 x hx
  · right
    have hlu := hi.lev_u rfl
    -- the new node's level
    have hpotu := hi.pot u hvu
    have hedge : 0 ≤ d (g.to k) → 0 ≤ d u ∧ d u ≤ d (g.to k) + 1 := fun h0 => by
      have := hd.edge hkm (hkf ▸ hcu) hc h0
      rw [hkf] at this
      exact this
    let lev' : Nat → Nat := fun x => if x = g.to k then lev u + 1 else lev x
    have ly : lev' (g.to k) = lev u + 1 := if_pos rfl
    have lo : ∀ x, x ≠ g.to k → lev' x = lev x := fun x hx => if_neg hx
    have hpot' : ∀ x, (upd via (g.to k) (some (some k)) x).isSome = true → 0 ≤ d x → (ks.length : Int) ≤ lev' x + d x := by
      intro x hx h0
      rcases hvy x hx with rfl | ⟨hx, e⟩
      · have h4 := hedge h0
        have h5 := hpotu h4.1
        rw [ly]
        omega
      · rw [lo x e]; exact hi.pot x hx h0
    have hni : g.node g.right ks i ≠ g.to k := by
      intro e
      have hm : g.node g.right ks i ∈ done ++ (u :: R) := by rw [hi.split]; simp
      have := (h.base.mem _).2 hm
      rw [e, hy] at this
      cases this
    have hvias' : ∀ j', j' < i → upd via (g.to k) (some (some k)) (g.node g.right ks (j' + 1)) = some (some (ks.getD j' 0)) := by
      intro j' hj'
      have := hi.vias j' hj'
      rw [upd_other _ _ (fun e => by rw [e, hy] at this; cases this)]
      exact this
    have hQ1y : ∀ x, x ∈ Q1 → x ≠ g.to k := by
      intro x hx e
      have hm : x ∈ done ++ (u :: R) := by rw [hi.split]; simp [hx]
      have := (h.base.mem _).2 hm
      rw [e, hy] at this
      cases this
    by_cases hcase : Q1 = [] ∧ g.Pick d u k
    · -- the next node of the greedy way
      obtain ⟨hQ1, hp⟩ := hcase
      have hsp := hi.split
      rw [hQ1] at hsp
      simp only [List.nil_append, List.cons.injEq] at hsp
      have hfirst : g.First d u k := ⟨hp, fun k' hk' hp' => hs hQ1 k' (hbefore k' hk' hp'.2.1) hp'⟩
      have hf2 := (hg.at i hi.lt).1
      rw [← hsp.1] at hf2
      have hk := hfirst.unique hf2
      have hnode : g.node g.right ks (i + 1) = g.to k := by rw [hk]; rfl
      have hdu := hg.dist hd i (Nat.le_of_lt hi.lt)
      rw [← hsp.1] at hdu
      have hdy : d (g.to k) = d u - 1 := hp.2.2.2.2
      have hiu : lev u = i := by rw [hsp.1]; exact hi.here
      have hlt : i + 1 < ks.length := by
        rcases Nat.lt_or_ge (i + 1) ks.length with h' | h'
        · exact h'
        · exfalso
          have := hi.lt
          have e : d (g.to k) = 0 := by omega
          exact hl (hd.zero.1 e)
      refine ⟨ks, lev', i + 1, u :: R, [], hg, ⟨by rw [hnode], hlt, ?_, by rw [hnode, ly, hiu], ?_, ?_, ?_, hpot'⟩, fun e => by cases e⟩
      · intro x hx
        have hxm : x ∈ done ++ (u :: R) := by simp at hx; simp [hx]
        have hxv := (h.base.mem x).2 hxm
        have hxy : x ≠ g.to k := fun e => by rw [e, hy] at hxv; cases hxv
        rw [lo x hxy]
        refine ⟨hi.top x hxv, fun ⟨a, b, c⟩ => ?_⟩
        have := hi.nog x hxv a b
        omega
      · intro j' hj'
        rcases Nat.lt_or_ge j' i with h' | h'
        · exact hvias' j' h'
        · obtain rfl : j' = i := by omega
          rw [hnode, upd_same, hk]
      · intro x hx h0 he
        rcases hvy x hx with rfl | ⟨hx, e⟩
        · rw [ly]; omega
        · rw [lo x e]
          rw [lo x e] at he
          have := hi.nog x hx h0 he
          omega
      · intro x hx
        rcases hvy x hx with rfl | ⟨hx, e⟩
        · rw [ly]; omega
        · rw [lo x e]
          have := hi.top x hx
          omega
    · -- no good node
      have hnog : ¬ (0 ≤ d (g.to k) ∧ ((lev u + 1 : Nat) : Int) + d (g.to k) = ks.length ∧ i < lev u + 1) := by
        rintro ⟨h0, he, hlt⟩
        have h4 := hedge h0
        have h5 := hpotu h4.1
        have hiu : lev u = i := by omega
        have hdu : d u = d (g.to k) + 1 := by omega
        cases hq : Q1 with
        | nil =>
          refine hcase ⟨hq, hkm, hkf, hc, h0, by omega⟩
        | cons x Q1' =>
          have hsp := hi.split
          rw [hq] at hsp
          simp only [List.cons_append, List.cons.injEq] at hsp
          have := (hi.pre u (by rw [hq, hsp.1]; simp)).2
          exact this ⟨h4.1, by omega, hiu⟩
      refine ⟨ks, lev', i, Q1, Q2 ++ [g.to k], hg, ⟨?_, hi.lt, ?_, by rw [lo _ hni]; exact hi.here, hvias', ?_, ?_, hpot'⟩, fun hQ k' hk' => ?_⟩
      · rw [hi.split]; simp
      · intro x hx
        rw [lo x (hQ1y x hx)]
        exact hi.pre x hx
      · intro x hx h0 he
        rcases hvy x hx with rfl | ⟨hx, e⟩
        · rw [ly] at he ⊢
          rcases Nat.lt_or_ge i (lev u + 1) with h' | h'
          · exact absurd ⟨h0, he, h'⟩ hnog
          · exact h'
        · rw [lo x e] at he ⊢
          exact hi.nog x hx h0 he
      · intro x hx
        rcases hvy x hx with rfl | ⟨hx, e⟩
        · rw [ly]; omega
        · rw [lo x e]; exact hi.top x hx
      · rcases List.mem_append.1 hk' with hk' | hk'
        · exact hs hQ k' hk'
        · obtain rfl : k' = k := by simpa using hk'
          exact fun hp => hcase ⟨hQ, hp⟩

/-- 'left' is met: the way back is the greedy one. -/
theorem Mid.found (hd : g.Dist d) {done R : List Nat} {u : Nat} {via : Nat → Option (Option Nat)} {j : Nat} (h : Mid g d done (u :: R) via u ((g.adj u).take j)) (hj : j < (g.adj u).length)
    (hy : via (g.to (g.adj u)[j]) = none) (hc : g.cp (g.to (g.adj u)[j]) = g.c) (hl : g.to (g.adj u)[j] = g.left) :
    g.left ≠ g.right ∧ 0 ≤ d g.right ∧ ∃ ks, g.Greedy d g.right ks ∧ ∀ i, i < ks.length → upd via g.left (some (some (g.adj u)[j])) (g.node g.right ks (i + 1)) = some (some (ks.getD i 0)) := by
  obtain ⟨hkm, hkf⟩ := adj_at hj
  have hbefore : ∀ k', k' < (g.adj u)[j] → g.fr k' = u → k' ∈ (g.adj u).take j := fun k' hk' hf' => adj_before hj hk' hf'
  generalize (g.adj u)[j] = k at *
  obtain ⟨hvu, hcu, hltu⟩ := h.u_in
  have hne : g.left ≠ g.right := fun e => by rw [hl, e, h.base.root] at hy; cases hy
  refine ⟨hne, ?_⟩
  obtain ⟨h1, h2⟩ := h.live hne
  have hd0 : d (g.to k) = 0 := by rw [hl]; exact hd.zero.2 rfl
  have he := hd.edge hkm (hkf ▸ hcu) hc (by omega)
  rw [hkf, hd0] at he
  have hul : u ≠ g.left := fun e => by rw [e, h1] at hvu; cases hvu
  have hdu : d u = 1 := by
    have : d u ≠ 0 := fun e => hul (hd.zero.1 e)
    omega
  rcases h2 with ⟨h2, h3⟩ | ⟨ks, lev, i, Q1, Q2, hg, hi, hs⟩
  · have := h3 u hvu
    omega
  · have hlu := hi.lev_u rfl
    have hpotu := hi.pot u hvu (by omega)
    have hilt := hi.lt
    have hiu : lev u = i := by omega
    have hQ1 : Q1 = [] := by
      cases hq : Q1 with
      | nil => rfl
      | cons x Q1' =>
        exfalso
        have hsp := hi.split
        rw [hq] at hsp
        simp only [List.cons_append, List.cons.injEq] at hsp
        have := (hi.pre u (by rw [hq, hsp.1]; simp)).2
        exact this ⟨by omega, by omega, hiu⟩
    have hsp := hi.split
    rw [hQ1] at hsp
    simp only [List.nil_append, List.cons.injEq] at hsp
    have hp : g.Pick d u k := ⟨hkm, hkf, hc, by omega, by omega⟩
    have hfirst : g.First d u k := ⟨hp, fun k' hk' hp' => hs hQ1 k' (hbefore k' hk' hp'.2.1) hp'⟩
    have hf2 := (hg.at i hi.lt).1
    rw [← hsp.1] at hf2
    have hk := hfirst.unique hf2
    have hdr := hg.dist hd 0 (by omega)
    simp only [node] at hdr
    refine ⟨by omega, ks, hg, fun j' hj' => ?_⟩
    rcases Nat.lt_or_ge j' i with h' | h'
    · have := hi.vias j' h'
      rw [upd_other _ _ (fun e => by rw [e, h1] at this; cases this)]
      exact this
    · obtain rfl : j' = i := by omega
      have hnode : g.node g.right ks (j' + 1) = g.to k := by rw [hk]; rfl
      rw [hnode, hl, upd_same, hk]

end Net
end Go.Proofs.Qxb6619715a
