/-
  THE WALKS of uEscape and of the law's own model of it.
-/
import Derived.Test.Qxb6619326aDoorErr
import Derived.Laws.BytesArg
import Derived.WalkLawsBesides
import Derived.BigQuiet
import Derived.Deep.QuietTactic
import Derived.Deep.DeepCutAuto
namespace Go.Proofs.Qxb6619326aDoor
open Go.RowKit

/-- What uEscape hands back. -/
def runeOf : Option Nat → Value
  | some n => .tuple #[.int .i32 n, .bool true]
  | none => .tuple #[.int .i32 0, .bool false]

/-- Too short. -/
theorem esc_short (a : Option Addr) (len cap : Nat) (h : len < 6) (w : World) :
    Calls Tryd.prog 11 #[.slice a len cap] w fun e w' => e = .returned (runeOf none) ∧ w' = w := by
  go_enter Tryd.func11, Tryd.ntmps11
  go_wp2
  go_ret2
  exact ⟨rfl, rfl⟩

/-- No backslash and 'u' at the head. -/
theorem esc_head (g o len cap : Nat) (c0 c1 : Int) (h : 6 ≤ len) (hlen : len ≤ maxLen) (w : World) (h0 : w.cell? ⟨g, o, none⟩ = some (.int .u8 c0)) (h1 : w.cell? ⟨g, o + 1, none⟩ = some (.int .u8 c1)) (hne : (c0 != 92) = true ∨ (c1 != 117) = true) :
    Calls Tryd.prog 11 #[.slice (some ⟨g, o, none⟩) len cap] w fun e w' => e = .returned (runeOf none) ∧ w' = w := by
  unfold maxLen at hlen
  have hd : decide ((len : Int) < 6) = false := by simp; omega
  by_cases hc0 : (c0 != 92) = true
  · clear hne
    go_enter Tryd.func11, Tryd.ntmps11
    go_wp2
    go_ret2
    exact ⟨rfl, rfl⟩
  · have hc1 : (c1 != 117) = true := by rcases hne with h | h; exact absurd h hc0; exact h
    have hc0' : (c0 != 92) = false := by simpa using hc0
    clear hne hc0
    go_enter Tryd.func11, Tryd.ntmps11
    go_wp2
    go_ret2
    exact ⟨rfl, rfl⟩

set_option maxHeartbeats 1000000 in
/-- The escape's head, and four hexadecimal digits. -/
theorem esc_some (g o len cap : Nat) (c2 c3 c4 c5 : Int) (n : Nat) (h : 6 ≤ len) (hlc : len ≤ cap) (hlen : cap ≤ maxLen) (w : World) (h0 : w.cell? ⟨g, o, none⟩ = some (.int .u8 92)) (h1 : w.cell? ⟨g, o + 1, none⟩ = some (.int .u8 117))
    (hc : ∀ i, i < 4 → w.cell? ⟨g, o + 2 + i, none⟩ = some (.int .u8 ([c2, c3, c4, c5].getD i 0))) (hn : parseH 0 (strOfNums [c2, c3, c4, c5]).data.toList = some n) (hn16 : n < 65536) :
    Calls Tryd.prog 11 #[.slice (some ⟨g, o, none⟩) len cap] w fun e w' => e = .returned (runeOf (some n)) ∧ Below w.heap.size w w' := by
  unfold maxLen at hlen
  have hd : decide ((len : Int) < 6) = false := by simp; omega
  have hcw := run_convert_bytes_arg (P := Tryd.prog) w 22 5 Tryd.underlying22 Tryd.underlying5 g (o + 2) 4 (cap - 2) [c2, c3, c4, c5] rfl hc 9 Tryd.underlying9
  have hp := parseUint_some (strOfNums [c2, c3, c4, c5]) (by rw [strOfNums_size]; rfl) n hn
  clear hc hn
  go_enter Tryd.func11, Tryd.ntmps11
  go_wp2_with (go_at_call 12; refine (hp _).mono ?_; rintro e w2 ⟨rfl, hb⟩)
  go_region
  all_goals
    go_wp2
    go_ret2
    exact ⟨rfl, hb.drew⟩

set_option maxHeartbeats 1000000 in
/-- The escape's head, and no four hexadecimal digits. -/
theorem esc_none (g o len cap : Nat) (c2 c3 c4 c5 : Int) (h : 6 ≤ len) (hlc : len ≤ cap) (hlen : cap ≤ maxLen) (w : World) (h0 : w.cell? ⟨g, o, none⟩ = some (.int .u8 92)) (h1 : w.cell? ⟨g, o + 1, none⟩ = some (.int .u8 117))
    (hc : ∀ i, i < 4 → w.cell? ⟨g, o + 2 + i, none⟩ = some (.int .u8 ([c2, c3, c4, c5].getD i 0))) (hn : parseH 0 (strOfNums [c2, c3, c4, c5]).data.toList = none) (te : TypeId) (pe : Value) (hv : w.cell? ⟨0, 0, none⟩ = some (.iface te pe)) :
    Calls Tryd.prog 11 #[.slice (some ⟨g, o, none⟩) len cap] w fun e w' => e = .returned (runeOf none) ∧ Below w.heap.size w w' := by
  unfold maxLen at hlen
  have hd : decide ((len : Int) < 6) = false := by simp; omega
  have hcw := run_convert_bytes_arg (P := Tryd.prog) w 22 5 Tryd.underlying22 Tryd.underlying5 g (o + 2) 4 (cap - 2) [c2, c3, c4, c5] rfl hc 9 Tryd.underlying9
  have hp := parseUint_none (strOfNums [c2, c3, c4, c5]) (by rw [strOfNums_size]; rfl) hn te pe w hv
  clear hc hn hv
  go_enter Tryd.func11, Tryd.ntmps11
  go_wp2_with (go_at_call 12; refine hp.mono ?_; rintro e w2 ⟨⟨N, rfl⟩, hb⟩)
  go_region
  all_goals
    go_wp2
    go_ret2
    exact ⟨rfl, hb.drew⟩

/-- The slice v reads, in w, as the bytes l. -/
def Bytes (w : World) (v : Value) (l : List UInt8) : Prop :=
  ∃ a cap, v = .slice a l.length cap ∧ l.length ≤ cap ∧ cap ≤ maxLen ∧ (a = none → cap = 0) ∧ (l ≠ [] → ∃ g o, a = some ⟨g, o, none⟩ ∧ ∀ i, i < l.length → w.cell? ⟨g, o + i, none⟩ = some (.int .u8 ((l.getD i 0).toNat : Nat)))

theorem Bytes.below {w w' : World} {v : Value} {l : List UInt8} (h : Bytes w v l) (hb : Below w.heap.size w w') : Bytes w' v l := by
  obtain ⟨a, cap, rfl, h1, h2, h4, h3⟩ := h
  refine ⟨a, cap, rfl, h1, h2, h4, fun hl => ?_⟩
  obtain ⟨g, o, rfl, hc⟩ := h3 hl
  exact ⟨g, o, rfl, fun i hi => (hb.cell (p := ⟨g, o + i, none⟩) (lt_of_cell (hc i hi))).trans (hc i hi)⟩

theorem strOf4 (x2 x3 x4 x5 : UInt8) : (strOfNums [(x2.toNat : Int), (x3.toNat : Int), (x4.toNat : Int), (x5.toNat : Int)]).data.toList = [x2, x3, x4, x5] := by
  rw [strOfNums_data]; simp

theorem esc_any (v : Value) (l : List UInt8) (w : World) (hb : Bytes w v l) (te : TypeId) (pe : Value) (hv : w.cell? ⟨0, 0, none⟩ = some (.iface te pe)) :
    Calls Tryd.prog 11 #[v] w fun e w' => e = .returned (runeOf (escB l)) ∧ Below w.heap.size w w' := by
  obtain ⟨a, cap, rfl, h1, h2, _, h3⟩ := hb
  by_cases h : l.length < 6
  · rw [escB_short h]
    exact (esc_short a l.length cap h w).mono fun e w' ⟨he, hw⟩ => ⟨he, by subst hw; exact Below.refl _ _⟩
  · obtain ⟨x0, x1, x2, x3, x4, x5, t, rfl⟩ := six_of (show 6 ≤ l.length by omega)
    obtain ⟨g, o, rfl, hc⟩ := h3 (by simp)
    have c0 : w.cell? ⟨g, o, none⟩ = some (.int .u8 (x0.toNat : Nat)) := hc 0 (by simp)
    have c1 : w.cell? ⟨g, o + 1, none⟩ = some (.int .u8 (x1.toNat : Nat)) := hc 1 (by simp)
    by_cases hh : x0 = 92 ∧ x1 = 117
    · obtain ⟨rfl, rfl⟩ := hh
      have e : escB (92 :: 117 :: x2 :: x3 :: x4 :: x5 :: t) = parseH 0 [x2, x3, x4, x5] := by simp [escB]
      rw [e]
      have hq : ∀ i, i < 4 → w.cell? ⟨g, o + 2 + i, none⟩ = some (.int .u8 ([(x2.toNat : Int), (x3.toNat : Int), (x4.toNat : Int), (x5.toNat : Int)].getD i 0)) := by
        intro i hi
        have := hc (i + 2) (by simp; omega)
        rw [show o + 2 + i = o + (i + 2) by omega, this]
        match i, hi with
        | 0, _ => rfl
        | 1, _ => rfl
        | 2, _ => rfl
        | 3, _ => rfl
      cases hp : parseH 0 [x2, x3, x4, x5] with
      | some n =>
        have hlt := parseH_lt _ _ _ hp
        exact esc_some g o _ cap _ _ _ _ n (by simp) h1 h2 w c0 c1 hq (by rw [strOf4]; exact hp) (by simpa using hlt)
      | none => exact esc_none g o _ cap _ _ _ _ (by simp) h1 h2 w c0 c1 hq (by rw [strOf4]; exact hp) te pe hv
    · have e : escB (x0 :: x1 :: x2 :: x3 :: x4 :: x5 :: t) = none := by simp [escB, hh]
      rw [e]
      refine (esc_head g o _ cap _ _ (by simp) (by omega) w c0 c1 ?_).mono fun e w' ⟨he, hw⟩ => ⟨he, by subst hw; exact Below.refl _ _⟩
      by_cases h92 : x0 = 92
      · right
        have h117 : x1 ≠ 117 := fun h => hh ⟨h92, h⟩
        simp only [bne_iff_ne, ne_eq]
        intro h
        exact h117 (UInt8.toNat_inj.1 (by simpa using (by omega : x1.toNat = 117)))
      · left
        simp only [bne_iff_ne, ne_eq]
        intro h
        exact h92 (UInt8.toNat_inj.1 (by simpa using (by omega : x0.toNat = 92)))

/-- ZZuEscape. -/
theorem zz_any (v : Value) (l : List UInt8) (w : World) (hb : Bytes w v l) (te : TypeId) (pe : Value) (hv : w.cell? ⟨0, 0, none⟩ = some (.iface te pe)) :
    Calls Tryd.prog 7 #[v] w fun e w' => e = .returned (runeOf (escB l)) ∧ Below w.heap.size w w' := by
  have hp := esc_any v l w hb te pe hv
  clear hb hv
  cases he : escB l with
  | some n =>
    rw [he] at hp
    go_enter Tryd.func7, Tryd.ntmps7
    go_wp2_with (go_at_call 11; refine hp.mono ?_; rintro e w2 ⟨rfl, hb⟩; unfold runeOf)
    go_ret2
    exact ⟨rfl, hb⟩
  | none =>
    rw [he] at hp
    go_enter Tryd.func7, Tryd.ntmps7
    go_wp2_with (go_at_call 11; refine hp.mono ?_; rintro e w2 ⟨rfl, hb⟩; unfold runeOf)
    go_ret2
    exact ⟨rfl, hb⟩

end Go.Proofs.Qxb6619326aDoor
