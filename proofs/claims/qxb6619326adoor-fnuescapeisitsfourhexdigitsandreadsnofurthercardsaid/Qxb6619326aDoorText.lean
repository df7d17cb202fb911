/-
  THE WALK of zzEscapeText.
-/
import Derived.Test.Qxb6619326aDoorEsc
import Derived.OwnWalk
import Derived.LoopTactic
import Derived.Laws.Bits64
import Derived.Laws.BitsAllLaws
namespace Go.Proofs.Qxb6619326aDoor
open Go.RowKit

/-- Bytes as cells. -/
def bc (l : List UInt8) : List Value := l.map fun x => Value.int .u8 (x.toNat : Nat)
theorem bc_length (l : List UInt8) : (bc l).length = l.length := by simp [bc]
theorem bc_one (l : List UInt8) : ∀ u ∈ bc l, u.oneCell' = true := by
  intro u hu
  obtain ⟨x, _, rfl⟩ := List.mem_map.1 hu
  rfl

def andOk (x : Nat) : Bool := bits .and .u16 (x : Int) 15 == ((x % 16 : Nat) : Int)
theorem and_15 (x : Nat) (h : x < 65536) : bits .and .u16 (x : Int) 15 = ((x % 16 : Nat) : Int) := by
  have h1 : (BitVec.ofInt 16 (x : Int)) = BitVec.ofNat 16 x := by
    apply BitVec.eq_of_toNat_eq
    simp
  have h2 : (BitVec.ofInt 16 (15 : Int)) = BitVec.ofNat 16 15 := by decide
  have h3 : (BitVec.ofNat 16 x &&& BitVec.ofNat 16 15).toNat = x % 16 := by
    rw [BitVec.toNat_and, BitVec.toNat_ofNat, BitVec.toNat_ofNat]
    rw [Nat.mod_eq_of_lt (by simpa using h)]
    exact Nat.and_two_pow_sub_one_eq_mod x 4
  have h4 : bits .and .u16 (x : Int) 15 = IntKind.u16.wrap ((x % 16 : Nat) : Int) := by
    unfold bits
    show IntKind.u16.wrap (((BitVec.ofInt 16 (x : Int) &&& BitVec.ofInt 16 (15 : Int)).toNat : Nat) : Int) = _
    rw [h1, h2, h3]
  rw [h4, IntKind.wrap_u16]
  omega

theorem hex_dec {d : Nat} (h : d < 10) : hexN (48 + d) = some d := by simp [hexN]; omega
theorem hex_up {d : Nat} (h : ¬ d < 10) (h' : d < 16) : hexN (55 + d) = some d := by
  unfold hexN; rw [if_neg (by omega), if_neg (by omega), if_pos (by omega)]; congr 1; omega
theorem hex_low {d : Nat} (h : ¬ d < 10) (h' : d < 16) : hexN (87 + d) = some d := by
  unfold hexN; rw [if_neg (by omega), if_pos (by omega)]; congr 1; omega

theorem div_step (v q d : Nat) (hd : v / q % 16 = d) : v / (q * 16) * 16 + d = v / q := by
  rw [← Nat.div_div_eq_div_mul]; omega

theorem rel_step {w1 : World} {N k q d m v : Nat} {V : Value} {l : List UInt8} {z : Int} (hz : z = (m : Int)) (hm : m < 256) (hx : hexN m = some d) (hp : parseH 0 l = some (v / (q * 16))) (hd : v / q % 16 = d) (hl : l.length = k)
    (hown : w1.ownsRow N 5 1 V (2 + k + 1) (bc (92 :: 117 :: l) ++ [.int .u8 z])) :
    ∃ l' : List UInt8, l'.length = k + 1 ∧ w1.ownsRow N 5 1 V (2 + (k + 1)) (bc (92 :: 117 :: l')) ∧ parseH 0 l' = some (v / q) := by
  refine ⟨l ++ [UInt8.ofNat m], by simp [hl], ?_, ?_⟩
  · have e : bc (92 :: 117 :: (l ++ [UInt8.ofNat m])) = bc (92 :: 117 :: l) ++ [.int .u8 z] := by
      subst hz
      simp [bc, Nat.mod_eq_of_lt hm]
    rw [e]
    exact hown
  · have h1 : (UInt8.ofNat m).toNat = m := by simp [Nat.mod_eq_of_lt hm]
    rw [parseH_snoc l (UInt8.ofNat m) 0 _ d hp (by rw [h1]; exact hx), div_step v q d hd]

theorem add_plain (g o j : Nat) : (⟨g, o, none⟩ : Addr).add j = ⟨g, o + j, none⟩ := by unfold Addr.add; split <;> simp_all

/-- An owned row reads as its bytes. -/
theorem bytes_of_owns {w2 : World} {N n : Nat} {v : Value} {l : List UInt8} (hown : w2.ownsRow N 5 1 v n (bc l)) : Bytes w2 v l := by
  have hn : l.length = n := by have := hown.1; simpa [bc_length] using this
  subst hn
  rcases hown.2 with ⟨rfl, h0⟩ | ⟨g, cap, cur, rfl, hg, hh, h1, h2, h3, h4⟩
  · exact ⟨none, 0, by rw [h0], by omega, by unfold maxLen; omega, fun _ => rfl, fun h => absurd (List.eq_nil_of_length_eq_zero h0) h⟩
  · refine ⟨some ⟨g, 0, none⟩, cap, rfl, h1, h2, (fun h => by cases h), fun _ => ⟨g, 0, rfl, fun i hi => ?_⟩⟩
    have := hown.cellAt i (by omega)
    rw [Nat.zero_add, this]
    simp [bc, List.getD, List.getElem?_eq_getElem hi]

theorem esc_text {l tl : List UInt8} {v : Nat} (hl : l.length = 4) (hp : parseH 0 l = some v) : escB (92 :: 117 :: l ++ tl) = some v := by
  match l, hl with
  | [a, b, c, d], _ => simpa [escB] using hp

set_option maxHeartbeats 4000000 in
theorem text_any (v up : Nat) (hv : v < 65536) (tv : Value) (tl : List UInt8) (w : World) (hb : Bytes w tv tl) (htl : tl.length ≤ 524288) :
    Calls Tryd.prog 9 #[.int .u16 v, .int .u8 up, tv] w fun e w' => ∃ ov l, e = .returned ov ∧ Bytes w' ov l ∧ escB l = some v ∧ Below w.heap.size w w' := by
  obtain ⟨i0, hi, hz0, hz1, hz2⟩ := info_parts info5
  obtain ⟨a, cap, rfl, h1, h2, h5, h3⟩ := hb
  unfold maxLen at h2
  go_enter Tryd.func9, Tryd.ntmps9
  go_wp2_with (at_make; refine wpList_make_own _ rfl _ _ 22 rfl w.heap.size 5 i0 (.int .u8 0) 1 Tryd.underlying22 hi hz0 hz1 _ _ _ (6 + tl.length) rfl rfl (by omega) ?b2 ?b3 (Nat.le_refl _) ?_)
  case b2 => rw [hz2]; omega
  case b3 => unfold maxLen; omega
  intro w0 hown0 hgrow0
  have hnx0 : Below w.heap.size w w0 := (Below.refl _ _).grown hgrow0 (Nat.le_refl _) (fun k h => by cases h)
  go_wp2_with (at_builtin; refine wpList_append_fits _ rfl _ _ 22 rfl w.heap.size 5 i0 1 Tryd.underlying22 hi hz1 w.heap.size 0 (6 + tl.length) _ rfl (hown0.alloc _) ⟨w0.heap.size, 0, none⟩ 2 2 [.int .u8 92, .int .u8 117] rfl rfl ?c1 ?c2 ?c3 ?_)
  case c1 =>
    intro t u ht
    match t, ht with
    | 0, ht => simp at ht; subst ht; simp [Addr.add]
    | 1, ht => simp at ht; subst ht; simp [Addr.add]
  case c2 => intro u hu; simp at hu; rcases hu with rfl | rfl <;> rfl
  case c3 => omega
  intro w1 hown1 hgrow1
  have hnx1 : Below w.heap.size w w1 := (hnx0.alloc hnx0.size _).grown hgrow1 (by simp; have := hnx0.size; omega) (fun k hk => by cases hk; exact Nat.le_refl _)
  clear hgrow0 hgrow1 hown0 hnx0
  go_wp2
  go_loopw [7, 8] (fun out si wr => ∃ (k : Nat) (l : List UInt8), k ≤ 4 ∧ l.length = k ∧ si = .int .i64 k ∧ out = .slice (some ⟨w.heap.size, 0, none⟩) (2 + k) (6 + tl.length) ∧
      wr.ownsRow w.heap.size 5 1 (.slice (some ⟨w.heap.size, 0, none⟩) (2 + k) (6 + tl.length)) (2 + k) (bc (92 :: 117 :: l)) ∧ parseH 0 l = some (v / 16 ^ (4 - k)) ∧ Below w.heap.size w wr)
    (fun _ si _ => 4 - (intOf si).toNat)
  case atStart => exact ⟨0, [], by omega, rfl, rfl, rfl, hown1, by rw [Nat.div_eq_of_lt (by simpa using hv)]; rfl, hnx1⟩
  case round =>
    obtain ⟨k, l, hk, hl, rfl, rfl, hown, hp, hnx⟩ := hrel
    clear hown1 hnx1
    by_cases hk0 : k = 0
    · subst hk0
      have HP : Hid (parseH 0 l = some (v / (4096 * 16))) := hp
      have HL : Hid (l.length = 0) := hl
      obtain ⟨d, hd⟩ : ∃ d, v / 4096 % 16 = d := ⟨_, rfl⟩
      have hd16 : d < 16 := by omega
      have hand : bits .and .u16 ((v : Int) / 4096) 15 = (d : Int) := by
        have := and_15 (v / 4096) (by omega)
        rw [show ((v / 4096 : Nat) : Int) = (v : Int) / 4096 by simp] at this
        rw [this]
        have e : (v / 4096) % 16 = d := by omega
        rw [e]
      have HD : Hid (v / 4096 % 16 = d) := hd
      clear hp hk hl hd h3 h5
      by_cases ten : d < 10
      · go_wp2_with (at_builtin; refine wpList_append_fits _ rfl _ _ 22 rfl w.heap.size 5 i0 1 Tryd.underlying22 hi hz1 w.heap.size 2 (6 + tl.length) _ rfl (hown.alloc _) ⟨wr.heap.size, 0, none⟩ 1 1 [.int .u8 (48 + (d : Int))] rfl rfl ?c1 ?c2 ?c3 ?_)
        case c1 => intro t u ht; match t, ht with | 0, ht => simp at ht; subst ht; simp [Addr.add]
        case c2 => intro u hu; simp at hu; subst hu; rfl
        case c3 => omega
        intro w2 hown2 hgrow2
        obtain ⟨l', hl', ho', hp'⟩ := rel_step (q := 4096) (m := 48 + d) (k := 0) (by omega) (by omega) (hex_dec ten) HP.out HD.out HL.out hown2
        go_wp2
        go_roundw
        case rel => exact ⟨1, l', by omega, hl', rfl, rfl, ho', hp', (hnx.alloc hnx.size _).grown hgrow2 (by simp; have := hnx.size; omega) (fun k hk => by cases hk; exact Nat.le_refl _)⟩
        case measure => simp [intOf]
      · by_cases hub : (bits .and .u8 (up : Int) 8 != 0) = true
        · go_wp2_with (at_builtin; refine wpList_append_fits _ rfl _ _ 22 rfl w.heap.size 5 i0 1 Tryd.underlying22 hi hz1 w.heap.size 2 (6 + tl.length) _ rfl (hown.alloc _) ⟨wr.heap.size, 0, none⟩ 1 1 [.int .u8 (65 + (d : Int) - 10)] rfl rfl ?c1 ?c2 ?c3 ?_)
          case c1 => intro t u ht; match t, ht with | 0, ht => simp at ht; subst ht; simp [Addr.add]
          case c2 => intro u hu; simp at hu; subst hu; rfl
          case c3 => omega
          intro w2 hown2 hgrow2
          obtain ⟨l', hl', ho', hp'⟩ := rel_step (q := 4096) (m := 55 + d) (k := 0) (by omega) (by omega) (hex_up ten hd16) HP.out HD.out HL.out hown2
          go_wp2
          go_roundw
          case rel => exact ⟨1, l', by omega, hl', rfl, rfl, ho', hp', (hnx.alloc hnx.size _).grown hgrow2 (by simp; have := hnx.size; omega) (fun k hk => by cases hk; exact Nat.le_refl _)⟩
          case measure => simp [intOf]
        · have hub' : (bits .and .u8 (up : Int) 8 != 0) = false := by simpa using hub
          clear hub
          go_wp2_with (at_builtin; refine wpList_append_fits _ rfl _ _ 22 rfl w.heap.size 5 i0 1 Tryd.underlying22 hi hz1 w.heap.size 2 (6 + tl.length) _ rfl (hown.alloc _) ⟨wr.heap.size, 0, none⟩ 1 1 [.int .u8 (97 + (d : Int) - 10)] rfl rfl ?c1 ?c2 ?c3 ?_)
          case c1 => intro t u ht; match t, ht with | 0, ht => simp at ht; subst ht; simp [Addr.add]
          case c2 => intro u hu; simp at hu; subst hu; rfl
          case c3 => omega
          intro w2 hown2 hgrow2
          obtain ⟨l', hl', ho', hp'⟩ := rel_step (q := 4096) (m := 87 + d) (k := 0) (by omega) (by omega) (hex_low ten hd16) HP.out HD.out HL.out hown2
          go_wp2
          go_roundw
          case rel => exact ⟨1, l', by omega, hl', rfl, rfl, ho', hp', (hnx.alloc hnx.size _).grown hgrow2 (by simp; have := hnx.size; omega) (fun k hk => by cases hk; exact Nat.le_refl _)⟩
          case measure => simp [intOf]
    by_cases hk1 : k = 1
    · subst hk1
      have HP : Hid (parseH 0 l = some (v / (256 * 16))) := hp
      have HL : Hid (l.length = 1) := hl
      obtain ⟨d, hd⟩ : ∃ d, v / 256 % 16 = d := ⟨_, rfl⟩
      have hd16 : d < 16 := by omega
      have hand : bits .and .u16 ((v : Int) / 256) 15 = (d : Int) := by
        have := and_15 (v / 256) (by omega)
        rw [show ((v / 256 : Nat) : Int) = (v : Int) / 256 by simp] at this
        rw [this]
        have e : (v / 256) % 16 = d := by omega
        rw [e]
      have HD : Hid (v / 256 % 16 = d) := hd
      clear hp hk hl hd h3 h5
      by_cases ten : d < 10
      · go_wp2_with (at_builtin; refine wpList_append_fits _ rfl _ _ 22 rfl w.heap.size 5 i0 1 Tryd.underlying22 hi hz1 w.heap.size 3 (6 + tl.length) _ rfl (hown.alloc _) ⟨wr.heap.size, 0, none⟩ 1 1 [.int .u8 (48 + (d : Int))] rfl rfl ?c1 ?c2 ?c3 ?_)
        case c1 => intro t u ht; match t, ht with | 0, ht => simp at ht; subst ht; simp [Addr.add]
        case c2 => intro u hu; simp at hu; subst hu; rfl
        case c3 => omega
        intro w2 hown2 hgrow2
        obtain ⟨l', hl', ho', hp'⟩ := rel_step (q := 256) (m := 48 + d) (k := 1) (by omega) (by omega) (hex_dec ten) HP.out HD.out HL.out hown2
        go_wp2
        go_roundw
        case rel => exact ⟨2, l', by omega, hl', rfl, rfl, ho', hp', (hnx.alloc hnx.size _).grown hgrow2 (by simp; have := hnx.size; omega) (fun k hk => by cases hk; exact Nat.le_refl _)⟩
        case measure => simp [intOf]
      · by_cases hub : (bits .and .u8 (up : Int) 4 != 0) = true
        · go_wp2_with (at_builtin; refine wpList_append_fits _ rfl _ _ 22 rfl w.heap.size 5 i0 1 Tryd.underlying22 hi hz1 w.heap.size 3 (6 + tl.length) _ rfl (hown.alloc _) ⟨wr.heap.size, 0, none⟩ 1 1 [.int .u8 (65 + (d : Int) - 10)] rfl rfl ?c1 ?c2 ?c3 ?_)
          case c1 => intro t u ht; match t, ht with | 0, ht => simp at ht; subst ht; simp [Addr.add]
          case c2 => intro u hu; simp at hu; subst hu; rfl
          case c3 => omega
          intro w2 hown2 hgrow2
          obtain ⟨l', hl', ho', hp'⟩ := rel_step (q := 256) (m := 55 + d) (k := 1) (by omega) (by omega) (hex_up ten hd16) HP.out HD.out HL.out hown2
          go_wp2
          go_roundw
          case rel => exact ⟨2, l', by omega, hl', rfl, rfl, ho', hp', (hnx.alloc hnx.size _).grown hgrow2 (by simp; have := hnx.size; omega) (fun k hk => by cases hk; exact Nat.le_refl _)⟩
          case measure => simp [intOf]
        · have hub' : (bits .and .u8 (up : Int) 4 != 0) = false := by simpa using hub
          clear hub
          go_wp2_with (at_builtin; refine wpList_append_fits _ rfl _ _ 22 rfl w.heap.size 5 i0 1 Tryd.underlying22 hi hz1 w.heap.size 3 (6 + tl.length) _ rfl (hown.alloc _) ⟨wr.heap.size, 0, none⟩ 1 1 [.int .u8 (97 + (d : Int) - 10)] rfl rfl ?c1 ?c2 ?c3 ?_)
          case c1 => intro t u ht; match t, ht with | 0, ht => simp at ht; subst ht; simp [Addr.add]
          case c2 => intro u hu; simp at hu; subst hu; rfl
          case c3 => omega
          intro w2 hown2 hgrow2
          obtain ⟨l', hl', ho', hp'⟩ := rel_step (q := 256) (m := 87 + d) (k := 1) (by omega) (by omega) (hex_low ten hd16) HP.out HD.out HL.out hown2
          go_wp2
          go_roundw
          case rel => exact ⟨2, l', by omega, hl', rfl, rfl, ho', hp', (hnx.alloc hnx.size _).grown hgrow2 (by simp; have := hnx.size; omega) (fun k hk => by cases hk; exact Nat.le_refl _)⟩
          case measure => simp [intOf]
    by_cases hk2 : k = 2
    · subst hk2
      have HP : Hid (parseH 0 l = some (v / (16 * 16))) := hp
      have HL : Hid (l.length = 2) := hl
      obtain ⟨d, hd⟩ : ∃ d, v / 16 % 16 = d := ⟨_, rfl⟩
      have hd16 : d < 16 := by omega
      have hand : bits .and .u16 ((v : Int) / 16) 15 = (d : Int) := by
        have := and_15 (v / 16) (by omega)
        rw [show ((v / 16 : Nat) : Int) = (v : Int) / 16 by simp] at this
        rw [this]
        have e : (v / 16) % 16 = d := by omega
        rw [e]
      have HD : Hid (v / 16 % 16 = d) := hd
      clear hp hk hl hd h3 h5
      by_cases ten : d < 10
      · go_wp2_with (at_builtin; refine wpList_append_fits _ rfl _ _ 22 rfl w.heap.size 5 i0 1 Tryd.underlying22 hi hz1 w.heap.size 4 (6 + tl.length) _ rfl (hown.alloc _) ⟨wr.heap.size, 0, none⟩ 1 1 [.int .u8 (48 + (d : Int))] rfl rfl ?c1 ?c2 ?c3 ?_)
        case c1 => intro t u ht; match t, ht with | 0, ht => simp at ht; subst ht; simp [Addr.add]
        case c2 => intro u hu; simp at hu; subst hu; rfl
        case c3 => omega
        intro w2 hown2 hgrow2
        obtain ⟨l', hl', ho', hp'⟩ := rel_step (q := 16) (m := 48 + d) (k := 2) (by omega) (by omega) (hex_dec ten) HP.out HD.out HL.out hown2
        go_wp2
        go_roundw
        case rel => exact ⟨3, l', by omega, hl', rfl, rfl, ho', hp', (hnx.alloc hnx.size _).grown hgrow2 (by simp; have := hnx.size; omega) (fun k hk => by cases hk; exact Nat.le_refl _)⟩
        case measure => simp [intOf]
      · by_cases hub : (bits .and .u8 (up : Int) 2 != 0) = true
        · go_wp2_with (at_builtin; refine wpList_append_fits _ rfl _ _ 22 rfl w.heap.size 5 i0 1 Tryd.underlying22 hi hz1 w.heap.size 4 (6 + tl.length) _ rfl (hown.alloc _) ⟨wr.heap.size, 0, none⟩ 1 1 [.int .u8 (65 + (d : Int) - 10)] rfl rfl ?c1 ?c2 ?c3 ?_)
          case c1 => intro t u ht; match t, ht with | 0, ht => simp at ht; subst ht; simp [Addr.add]
          case c2 => intro u hu; simp at hu; subst hu; rfl
          case c3 => omega
          intro w2 hown2 hgrow2
          obtain ⟨l', hl', ho', hp'⟩ := rel_step (q := 16) (m := 55 + d) (k := 2) (by omega) (by omega) (hex_up ten hd16) HP.out HD.out HL.out hown2
          go_wp2
          go_roundw
          case rel => exact ⟨3, l', by omega, hl', rfl, rfl, ho', hp', (hnx.alloc hnx.size _).grown hgrow2 (by simp; have := hnx.size; omega) (fun k hk => by cases hk; exact Nat.le_refl _)⟩
          case measure => simp [intOf]
        · have hub' : (bits .and .u8 (up : Int) 2 != 0) = false := by simpa using hub
          clear hub
          go_wp2_with (at_builtin; refine wpList_append_fits _ rfl _ _ 22 rfl w.heap.size 5 i0 1 Tryd.underlying22 hi hz1 w.heap.size 4 (6 + tl.length) _ rfl (hown.alloc _) ⟨wr.heap.size, 0, none⟩ 1 1 [.int .u8 (97 + (d : Int) - 10)] rfl rfl ?c1 ?c2 ?c3 ?_)
          case c1 => intro t u ht; match t, ht with | 0, ht => simp at ht; subst ht; simp [Addr.add]
          case c2 => intro u hu; simp at hu; subst hu; rfl
          case c3 => omega
          intro w2 hown2 hgrow2
          obtain ⟨l', hl', ho', hp'⟩ := rel_step (q := 16) (m := 87 + d) (k := 2) (by omega) (by omega) (hex_low ten hd16) HP.out HD.out HL.out hown2
          go_wp2
          go_roundw
          case rel => exact ⟨3, l', by omega, hl', rfl, rfl, ho', hp', (hnx.alloc hnx.size _).grown hgrow2 (by simp; have := hnx.size; omega) (fun k hk => by cases hk; exact Nat.le_refl _)⟩
          case measure => simp [intOf]
    by_cases hk3 : k = 3
    · subst hk3
      have HP : Hid (parseH 0 l = some (v / (1 * 16))) := hp
      have HL : Hid (l.length = 3) := hl
      obtain ⟨d, hd⟩ : ∃ d, v / 1 % 16 = d := ⟨_, rfl⟩
      have hd16 : d < 16 := by omega
      have hand : bits .and .u16 ((v : Int)) 15 = (d : Int) := by
        have := and_15 (v) (by omega)
        rw [show ((v : Nat) : Int) = (v : Int) by simp] at this
        rw [this]
        have e : (v) % 16 = d := by omega
        rw [e]
      have HD : Hid (v / 1 % 16 = d) := hd
      clear hp hk hl hd h3 h5
      by_cases ten : d < 10
      · go_wp2_with (at_builtin; refine wpList_append_fits _ rfl _ _ 22 rfl w.heap.size 5 i0 1 Tryd.underlying22 hi hz1 w.heap.size 5 (6 + tl.length) _ rfl (hown.alloc _) ⟨wr.heap.size, 0, none⟩ 1 1 [.int .u8 (48 + (d : Int))] rfl rfl ?c1 ?c2 ?c3 ?_)
        case c1 => intro t u ht; match t, ht with | 0, ht => simp at ht; subst ht; simp [Addr.add]
        case c2 => intro u hu; simp at hu; subst hu; rfl
        case c3 => omega
        intro w2 hown2 hgrow2
        obtain ⟨l', hl', ho', hp'⟩ := rel_step (q := 1) (m := 48 + d) (k := 3) (by omega) (by omega) (hex_dec ten) HP.out HD.out HL.out hown2
        go_wp2
        go_roundw
        case rel => exact ⟨4, l', by omega, hl', rfl, rfl, ho', hp', (hnx.alloc hnx.size _).grown hgrow2 (by simp; have := hnx.size; omega) (fun k hk => by cases hk; exact Nat.le_refl _)⟩
        case measure => simp [intOf]
      · by_cases hub : (bits .and .u8 (up : Int) 1 != 0) = true
        · go_wp2_with (at_builtin; refine wpList_append_fits _ rfl _ _ 22 rfl w.heap.size 5 i0 1 Tryd.underlying22 hi hz1 w.heap.size 5 (6 + tl.length) _ rfl (hown.alloc _) ⟨wr.heap.size, 0, none⟩ 1 1 [.int .u8 (65 + (d : Int) - 10)] rfl rfl ?c1 ?c2 ?c3 ?_)
          case c1 => intro t u ht; match t, ht with | 0, ht => simp at ht; subst ht; simp [Addr.add]
          case c2 => intro u hu; simp at hu; subst hu; rfl
          case c3 => omega
          intro w2 hown2 hgrow2
          obtain ⟨l', hl', ho', hp'⟩ := rel_step (q := 1) (m := 55 + d) (k := 3) (by omega) (by omega) (hex_up ten hd16) HP.out HD.out HL.out hown2
          go_wp2
          go_roundw
          case rel => exact ⟨4, l', by omega, hl', rfl, rfl, ho', hp', (hnx.alloc hnx.size _).grown hgrow2 (by simp; have := hnx.size; omega) (fun k hk => by cases hk; exact Nat.le_refl _)⟩
          case measure => simp [intOf]
        · have hub' : (bits .and .u8 (up : Int) 1 != 0) = false := by simpa using hub
          clear hub
          go_wp2_with (at_builtin; refine wpList_append_fits _ rfl _ _ 22 rfl w.heap.size 5 i0 1 Tryd.underlying22 hi hz1 w.heap.size 5 (6 + tl.length) _ rfl (hown.alloc _) ⟨wr.heap.size, 0, none⟩ 1 1 [.int .u8 (97 + (d : Int) - 10)] rfl rfl ?c1 ?c2 ?c3 ?_)
          case c1 => intro t u ht; match t, ht with | 0, ht => simp at ht; subst ht; simp [Addr.add]
          case c2 => intro u hu; simp at hu; subst hu; rfl
          case c3 => omega
          intro w2 hown2 hgrow2
          obtain ⟨l', hl', ho', hp'⟩ := rel_step (q := 1) (m := 87 + d) (k := 3) (by omega) (by omega) (hex_low ten hd16) HP.out HD.out HL.out hown2
          go_wp2
          go_roundw
          case rel => exact ⟨4, l', by omega, hl', rfl, rfl, ho', hp', (hnx.alloc hnx.size _).grown hgrow2 (by simp; have := hnx.size; omega) (fun k hk => by cases hk; exact Nat.le_refl _)⟩
          case measure => simp [intOf]
    obtain rfl : k = 4 := by omega
    have HP : Hid (parseH 0 l = some v) := (by simpa using hp : parseH 0 l = some v)
    have HL : Hid (l.length = 4) := hl
    have H3 : Hid (tl ≠ [] → ∃ g o, a = some ⟨g, o, none⟩ ∧ ∀ i, i < tl.length → w.cell? ⟨g, o + i, none⟩ = some (.int .u8 ((tl.getD i 0).toNat : Nat))) := h3
    have H5 : Hid (a = none → cap = 0) := h5
    clear hp hk hl h3 h5 hk0 hk1 hk2 hk3
    go_wp2_with (at_builtin; refine wpList_append_fits_any _ rfl _ _ 22 rfl w.heap.size 5 i0 1 Tryd.underlying22 hi hz1 w.heap.size 6 (6 + tl.length) _ rfl hown a tl.length cap (bc tl) rfl ?c1 ?c2 ?c3 ?c4 ?c5 ?_)
    case c1 => simp [bc_length]
    case c2 =>
      intro ha
      have := H5.out ha
      omega
    case c3 =>
      intro ad had j u hj
      have hjl : j < tl.length := by have := (List.getElem?_eq_some_iff.1 hj).1; simpa [bc_length] using this
      obtain ⟨g, o, ha, hc⟩ := H3.out (by intro h; rw [h] at hjl; simp at hjl)
      rw [ha] at had
      cases had
      have := hc j hjl
      rw [add_plain, (hnx.cell (p := ⟨g, o + j, none⟩) (lt_of_cell this)).trans this]
      simp [bc, List.getElem?_eq_getElem hjl] at hj
      subst hj
      simp [List.getD, List.getElem?_eq_getElem hjl]
    case c4 => exact bc_one tl
    case c5 => omega
    intro w2 hown2 hgrow2
    go_wp2
    go_ret
    refine ⟨_, 92 :: 117 :: l ++ tl, rfl, ?_, esc_text HL.out HP.out, hnx.grown hgrow2 hnx.size (fun k hk => by cases hk; exact Nat.le_refl _)⟩
    have e : bc (92 :: 117 :: l) ++ bc tl = bc (92 :: 117 :: l ++ tl) := by simp [bc]
    rw [e] at hown2
    exact bytes_of_owns hown2

end Go.Proofs.Qxb6619326aDoor
