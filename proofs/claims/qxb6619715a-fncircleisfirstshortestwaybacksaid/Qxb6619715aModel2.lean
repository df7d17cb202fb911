/-
  THE WALK of circleModel, its second part: the distances, then the way.
-/
import Derived.Test.Qxb6619715aModel1
import Derived.Deep.CutBlock
namespace Go.Proofs.Qxb6619715a
open Go.RowKit

theorem setCell_drewN (w : World) (n : Nat) (a : Addr) (v : Value) : (w.drewN n).setCell a v = (w.setCell a v).drewN n := rfl
theorem alloc_drewN (w : World) (n : Nat) (o : Obj) : (w.drewN n).alloc o = (w.alloc o).drewN n := rfl
attribute [local go_sem] setCell_drewN alloc_drewN

theorem info3 : (Try.prog.info? 3).map (fun i => (i.zero, i.size, i.bytes)) = some (some (.int .i64 0), 1, 8) := by kernel_rfl

theorem rowI_of_made {w1 : World} {N n : Nat} (h : w1.ownsRow N 3 1 (.slice (some ⟨N, 0, none⟩) n n) n (madeCells #[Value.int .i64 0] n).toList) : RowI w1 N n (fun _ => 0) := by
  intro u hu
  have h1 := h.cellAt u (by omega)
  refine ⟨?_, h.frozenAt u⟩
  rw [h1]
  rw [toList_madeCells_one, List.getElem?_replicate]
  simp [hu]

theorem RowI.grown {w w' : World} {D n : Nat} {da : Nat → Int} {row : Option Nat} (h : RowI w D n da) (hg : w.grownBy w' row) (hD : D < w.heap.size) (hne : ∀ k, row = some k → D < k) : RowI w' D n da := by
  have e : w'.heap[D]? = w.heap[D]? := hg.block D hD (fun e => by have := hne D e.symm; omega)
  intro u hu
  rw [World.cell?_of_block (w := w) (a := ⟨D, u, none⟩) e, World.frozen?_of_block (w := w) (a := ⟨D, u, none⟩) e]
  exact h u hu
theorem RowI.congr {w : World} {D n : Nat} {da da' : Nat → Int} (h : RowI w D n da) (he : ∀ u, da u = da' u) : RowI w D n da' := fun u hu => by rw [← he u]; exact h u hu

/-- Numbers as cells. -/
def ic (l : List Nat) : List Value := l.map fun x => Value.int .i64 (x : Nat)
theorem ints_of_owns {w : World} {B : Nat} {v : Value} {n : Nat} {l : List Nat} (h : w.ownsRow B 3 1 v n (ic l)) (hl : l.length = n) : Ints w v n (fun i => (l.getD i 0 : Nat)) := by
  rcases h.2 with ⟨rfl, h0⟩ | ⟨b, cap, cur, rfl, hg, hh, h1, h2, h3, h4⟩
  · exact ⟨none, 0, by rw [h0], by omega, by unfold maxLen; omega, fun _ => rfl, fun h => by omega⟩
  · refine ⟨some ⟨b, 0, none⟩, cap, rfl, h1, h2, (fun h => by cases h), fun _ => ⟨b, 0, rfl, fun i hi => ?_⟩⟩
    have := h.cellAt i (by omega)
    rw [Nat.zero_add, this]
    simp [ic, List.getD, List.getElem?_eq_getElem (show i < l.length by omega)]

theorem owns_drewN {w : World} {B e sz n : Nat} {v : Value} {xs : List Value} (h : w.ownsRow B e sz v n xs) (q : Nat) : (w.drewN q).ownsRow B e sz v n xs := h
theorem Net.node_lt {g : Net} (ho : g.Ok) {ks : List Nat} (hk : ∀ i, i < ks.length → ks.getD i 0 < g.m) : ∀ {i : Nat}, i ≤ ks.length → g.node g.right ks i < g.n
  | 0, _ => ho.right_lt
  | i + 1, h => ho.to_lt _ (hk i (by omega))

/-- What circleModel leaves. -/
def ModelPost (g : Net) (d : Nat → Int) (ri : Nat) (w : World) (e : Ending) (w' : World) : Prop :=
  Below w.heap.size w w' ∧ ((d g.right < 0 ∧ e = .returned (.tuple #[.slice none 0 0, .bool false])) ∨
    (0 ≤ d g.right ∧ ∃ ks v, g.Greedy d g.right ks ∧ e = .returned (.tuple #[v, .bool true]) ∧ Ints w' v (ks.length + 1) (fun i => ((ri :: ks).getD i 0 : Nat))))

set_option maxRecDepth 100000 in
set_option maxHeartbeats 4000000 in
theorem model_yes (w : World) (g : Net) (pr : Nat → Bool) (bc oc cc bp op cpp be oe ce ri : Nat) (h : Lists w g pr bc oc cc bp op cpp be oe ce) (hri : ri < g.m) (hl : g.left = g.fr ri) (hr : g.right = g.to ri) (ha : Asked g pr) (d : Nat → Int) (hd : g.Dist d) :
    Calls Try.prog 16 #[.slice (some ⟨bc, oc, none⟩) g.n cc, .slice (some ⟨bp, op, none⟩) g.n cpp, .slice (some ⟨be, oe, none⟩) g.m ce, .int .i64 ri] w
      fun e w' => ModelPost g d ri w e w' := by
  obtain ⟨i0, hi, hz0, hz1, hz2⟩ := info_parts info3
  have H : Hid (Lists w g pr bc oc cc bp op cpp be oe ce) := h
  have HD : Hid (g.Dist d) := hd
  have HA : Hid (Asked g pr) := ha
  have hll := h.ok.left_lt
  have hrl := h.ok.right_lt
  have e1 := h.efr ri hri
  have e2 := h.eto ri hri
  have c1 := h.comp g.left hll
  have c2 := h.comp g.right hrl
  have p1 := h.prot g.left hll
  have p2 := h.prot g.right hrl
  rw [← hl] at e1
  rw [← hr] at e2
  have n1 := h.n_le
  have n2 := h.m_le
  have n3 := h.ncap
  have n4 := h.pcap
  have n5 := h.ecap
  rw [ha.1] at p1
  rw [ha.2.1] at p2
  rw [← ha.2.2.1] at c2
  have b1 : ((g.left : Int) == (g.right : Int)) = false := by
    have := ha.2.2.2
    simp; omega
  clear h hl hr ha hd
  go_enter Try.func16, Try.ntmps16
  go_wp2_with fail
  go_quiet (fail)
  go_wp2_with (at_make; refine wpList_make_full _ rfl _ _ 35 rfl w.heap.size 3 i0 (.int .i64 0) 1 Try.underlying35 hi hz0 hz1 _ _ _ _ g.n rfl rfl rfl rfl ?b2 ?b3 (Nat.le_refl _) ?_)
  case b2 => first | omega | (rw [hz2]; omega)
  case b3 => unfold maxLen; omega
  intro w1 hown1 hgrow1
  have hnx1 : Below w.heap.size w w1 := (below_drewN (Below.refl _ _) _).grown hgrow1 (Nat.le_refl _) (fun k h => by cases h)
  have hrow1 : Hid (RowI w1 w.heap.size g.n (fun _ => 0)) := rowI_of_made hown1
  clear hown1 hgrow1 c2 p1 p2
  go_wp2
  go_loopw [15] (fun vi wr => ∃ k : Nat, k ≤ g.n ∧ vi = .int .i64 k ∧ Hid (RowI wr w.heap.size g.n (fun u => if u < k then -1 else 0)) ∧ Below w.heap.size w wr) (fun vi _ => g.n - (intOf vi).toNat)
  case atStart => exact ⟨0, by omega, rfl, hrow1, hnx1⟩
  case round =>
    clear hrow1 hnx1
    obtain ⟨k, hk, rfl, hrow, hnx⟩ := hrel
    by_cases hkn : k < g.n
    · obtain ⟨hc, hf⟩ := hrow.out k hkn
      have hsz : w.heap.size < wr.heap.size := lt_of_cell hc
      go_wp2
      go_roundw
      case rel =>
        refine ⟨k + 1, by omega, by go_num, ?_, hnx.setCell (Nat.le_refl _) _⟩
        have := hrow.out.set hkn (-1)
        intro u hu
        have h2 := this u hu
        refine ⟨h2.1.trans ?_, h2.2⟩
        congr 2
        unfold Net.set
        by_cases e : u = k
        · simp [e]
        · simp only [e, if_false]
          split <;> split <;> omega
      case measure => simp [intOf]; omega
    · obtain rfl : k = g.n := by omega
      have hrow2 : RowI wr w.heap.size g.n (fun _ => -1) := fun u hu => by
        have := hrow.out u hu
        dsimp only at this
        rwa [if_pos hu] at this
      obtain ⟨hc, hf⟩ := hrow2 g.left hll
      have HR : Hid (RowI (wr.setCell ⟨w.heap.size, g.left, none⟩ (.int .i64 0)) w.heap.size g.n (Net.set (fun _ => -1) g.left 0)) := hrow2.set hll 0
      have hnx2 : Below w.heap.size w (wr.setCell ⟨w.heap.size, g.left, none⟩ (.int .i64 0)) := hnx.setCell (Nat.le_refl _) _
      clear hrow hrow2 hnx
      go_upto_block 2 with fail
      go_cut [] (fun wc => ∃ da, Hid (RowI wc w.heap.size g.n da) ∧ Hid (g.Dist da) ∧ Below w.heap.size w wc)
      case first =>
        go_wp2_with fail
        go_loopw [16] (fun v16 wr => ∃ (r : Nat) (da : Nat → Int), r ≤ g.n ∧ v16 = .int .i64 r ∧ Hid (RowI wr w.heap.size g.n da) ∧ Hid (Net.Rlx g da r 0 false) ∧ Hid (∀ u, da u ≤ ((r * g.m : Nat) : Int)) ∧ Below w.heap.size w wr) (fun v16 _ => g.n - (intOf v16).toNat)
        case atStart =>
          refine ⟨0, _, by omega, rfl, HR, Net.Rlx.start, fun u => ?_, hnx2⟩
          unfold Net.set
          split <;> simp
        case round =>
          clear HR hnx2
          obtain ⟨r, da, hr, rfl, hrow, hrlx, hbd, hnx⟩ := hrel
          by_cases hrn : r < g.n
          · go_wp2_with fail
            go_loopw [17, 18] (fun v17 v18 wr => ∃ (k : Nat) (ch : Bool) (da : Nat → Int), k ≤ g.m ∧ v17 = .bool ch ∧ v18 = .int .i64 k ∧ Hid (RowI wr w.heap.size g.n da) ∧ Hid (Net.Rlx g da r k ch) ∧ Hid (∀ u, da u ≤ ((r * g.m + k : Nat) : Int)) ∧ Below w.heap.size w wr) (fun _ v18 _ => g.m - (intOf v18).toNat)
            case atStart => exact ⟨0, false, da, by omega, rfl, rfl, hrow, hrlx, hbd, hnx⟩
            case round =>
              clear hrow hrlx hbd hnx da
              obtain ⟨k, ch, da, hk, rfl, rfl, hrow, hrlx, hbd, hnx⟩ := hrel
              by_cases hkm : k < g.m
              · have L := H.out.below hnx
                have hf := L.ok.fr_lt k hkm
                have ht := L.ok.to_lt k hkm
                have e3 := L.efr k hkm
                have e4 := L.eto k hkm
                have c3 := L.comp _ hf
                have c4 := L.comp _ ht
                obtain ⟨r1, f1⟩ := hrow.out _ hf
                obtain ⟨r2, f2⟩ := hrow.out _ ht
                have l1 := hrlx.out.low (g.fr k)
                have l2 := hrlx.out.low (g.to k)
                have hB : r * g.m + k ≤ 300000000 := by
                  have : r * g.m ≤ 16384 * 16384 := Nat.mul_le_mul (by omega) (by omega)
                  omega
                have u1 : da (g.fr k) ≤ 300000000 := by have := hbd.out (g.fr k); omega
                have u2 : da (g.to k) ≤ 300000000 := by have := hbd.out (g.to k); omega
                have hskip : ¬ g.relaxes da k → Hid (Net.Rlx g da r (k + 1) ch) := fun hx => hrlx.out.skip hx
                have hstep : g.relaxes da k → Hid (Net.Rlx g (Net.set da (g.fr k) (da (g.to k) + 1)) r (k + 1) true) := fun hx => hrlx.out.step hkm hx
                have hbd' : Hid (∀ u, da u ≤ ((r * g.m + (k + 1) : Nat) : Int)) := fun u => by have := hbd.out u; omega
                have hbd2 : Hid (∀ u, Net.set da (g.fr k) (da (g.to k) + 1) u ≤ ((r * g.m + (k + 1) : Nat) : Int)) := fun u => by
                  have h1 := hbd.out u
                  have h2 := hbd.out (g.to k)
                  unfold Net.set
                  split <;> omega
                have hrow2 : Hid (RowI (wr.setCell ⟨w.heap.size, g.fr k, none⟩ (.int .i64 (da (g.to k) + 1))) w.heap.size g.n (Net.set da (g.fr k) (da (g.to k) + 1))) := hrow.out.set hf _
                unfold Net.relaxes Net.c at hskip hstep
                have HSk := Hid.out (p := Hid _) hskip
                have HSt := Hid.out (p := Hid _) hstep
                clear L hbd hrlx hskip hstep c1 e1 e2
                by_cases t1 : g.cp (g.fr k) = g.cp g.left
                · have b2 : (g.cp (g.fr k) != g.cp g.left) = false := by simpa using t1
                  by_cases t2 : g.cp (g.to k) = g.cp g.left
                  · have b3 : (g.cp (g.to k) != g.cp g.left) = false := by simpa using t2
                    by_cases t3 : da (g.to k) < 0
                    · go_wp2
                      go_roundw
                      case rel => exact ⟨k + 1, ch, da, by omega, rfl, by go_num, hrow, HSk.out (fun hx => by have := hx.2.2.1; omega), hbd', hnx⟩
                      case measure => simp [intOf]; omega
                    · by_cases t4 : da (g.fr k) < 0
                      · have b4 : decide (da (g.fr k) < 0) = true := by simpa using t4
                        have HX := HSt.out ⟨t1, t2, by omega, .inl t4⟩
                        go_wp2_with fail
                        go_quiet (fail)
                        go_wp2
                        go_roundw
                        case rel => exact ⟨k + 1, true, _, by omega, rfl, by go_num, RowI.drewN hrow2.out _, HX, hbd2, below_drewN (hnx.setCell (Nat.le_refl _) _) _⟩
                        case measure => simp [intOf]; omega
                      · have b4 : decide (da (g.fr k) < 0) = false := by simpa using t4
                        by_cases t5 : da (g.to k) + 1 < da (g.fr k)
                        · have HX := HSt.out ⟨t1, t2, by omega, .inr t5⟩
                          go_wp2_with fail
                          go_quiet (fail)
                          go_wp2
                          go_roundw
                          case rel => exact ⟨k + 1, true, _, by omega, rfl, by go_num, RowI.drewN hrow2.out _, HX, hbd2, below_drewN (hnx.setCell (Nat.le_refl _) _) _⟩
                          case measure => simp [intOf]; omega
                        · have HX := HSk.out (fun hx => by have := hx.2.2.2; omega)
                          go_wp2_with fail
                          go_quiet (fail)
                          go_wp2
                          go_roundw
                          case rel => exact ⟨k + 1, ch, da, by omega, rfl, by go_num, RowI.drewN hrow.out _, HX, hbd', below_drewN hnx _⟩
                          case measure => simp [intOf]; omega
                  · have b3 : (g.cp (g.to k) != g.cp g.left) = true := by simpa using t2
                    go_wp2
                    go_roundw
                    case rel => exact ⟨k + 1, ch, da, by omega, rfl, by go_num, hrow, HSk.out (fun hx => t2 hx.2.1), hbd', hnx⟩
                    case measure => simp [intOf]; omega
                · have b2 : (g.cp (g.fr k) != g.cp g.left) = true := by simpa using t1
                  go_wp2
                  go_roundw
                  case rel => exact ⟨k + 1, ch, da, by omega, rfl, by go_num, hrow, HSk.out (fun hx => t1 hx.1), hbd', hnx⟩
                  case measure => simp [intOf]; omega
              · obtain rfl : k = g.m := by omega
                cases ch with
                | false =>
                  go_wp2_with fail
                  go_meet
                  exact ⟨da, hrow, hrlx.out.stable, hnx⟩
                | true =>
                  have HX : Hid (Net.Rlx g da (r + 1) 0 false) := hrlx.out.round
                  have HY : Hid (∀ u, da u ≤ (((r + 1) * g.m : Nat) : Int)) := fun u => by
                    have := hbd.out u
                    rw [Nat.succ_mul]
                    exact this
                  clear hrlx hbd
                  go_wp2_with fail
                  go_roundw
                  case rel => exact ⟨r + 1, da, by omega, by go_num, hrow, HX, HY, hnx⟩
                  case measure => simp [intOf]; omega
          · obtain rfl : r = g.n := by omega
            go_wp2_with fail
            go_meet
            exact ⟨da, hrow, Net.Rlx.enough H.out.ok hrlx.out, hnx⟩
      case rest =>
        obtain ⟨da, hrowa, hda, hnx⟩ := hcut
        have hrow : Hid (RowI wc w.heap.size g.n d) := hrowa.out.congr (fun u => hda.out.unique HD.out u)
        clear hrowa hda HR hnx2 da
        obtain ⟨r1, f1⟩ := hrow.out _ hrl
        have hsz : w.heap.size < wc.heap.size := lt_of_cell r1
        by_cases hneg : d g.right < 0
        · go_wp2
          go_ret2
          exact ⟨hnx, .inl ⟨hneg, rfl⟩⟩
        obtain ⟨a, hTa⟩ := Int.eq_ofNat_of_zero_le (show 0 ≤ d g.right by omega)
        obtain ⟨ks, hgr, hlen⟩ := HD.out.greedy a g.right hTa
        have hT := HD.out.lt H.out.ok hrl
        have hTn : ks.length < g.n := by omega
        have HG : Hid (g.Greedy d g.right ks) := hgr
        have HP : Hid (0 ≤ d g.right) := (by omega : 0 ≤ d g.right)
        have hTr : d g.right < 16384 := by omega
        clear hgr hlen hTa hT f1 a e1 e2 c1
        go_wp2
        clear r1
        have hown0 : (wc.alloc (.cells #[.int .i64 ri] 3)).ownsRow (w.heap.size + 1) 3 1 (.slice (some ⟨wc.heap.size, 0, none⟩) 1 1) 1 (ic (ri :: ks.take 0)) := World.ownsRow_lit wc #[.int .i64 ri] 1 (by omega) (by unfold maxLen; omega) rfl
        have hrow0 : Hid (RowI (wc.alloc (.cells #[.int .i64 ri] 3)) w.heap.size g.n d) := hrow.out.alloc hsz _
        have hnx0 : Below w.heap.size w (wc.alloc (.cells #[.int .i64 ri] 3)) := hnx.alloc hnx.size _
        have HO0 : Hid ((wc.alloc (.cells #[.int .i64 ri] 3)).ownsRow (w.heap.size + 1) 3 1 (.slice (some ⟨wc.heap.size, 0, none⟩) 1 1) 1 (ic (ri :: ks.take 0))) := hown0
        clear hown0 hrow hnx
        go_loopw [21, 22, 23] (fun v21 v22 v23 wr => ∃ s : Nat, s ≤ ks.length ∧ v22 = .int .i64 (g.node g.right ks s : Nat) ∧ v23 = .int .i64 s ∧ Hid (wr.ownsRow (w.heap.size + 1) 3 1 v21 (s + 1) (ic (ri :: ks.take s))) ∧ Hid (RowI wr w.heap.size g.n d) ∧ Below w.heap.size w wr ∧ w.heap.size < wr.heap.size) (fun _ _ v23 _ => g.n - (intOf v23).toNat)
        case atStart => exact ⟨0, by omega, rfl, rfl, HO0, hrow0, hnx0, by simp; omega⟩
        case round =>
          clear HO0 hrow0 hnx0
          obtain ⟨s, hs, rfl, rfl, HO, hrow, hnx, hsz2⟩ := hrel
          by_cases hsT : s < ks.length
          · obtain ⟨hfirst, hnl⟩ := HG.out.at s hsT
            have hks : ∀ i, i < ks.length → ks.getD i 0 < g.m := fun i hi => (HG.out.at i hi).1.1.1
            have hnode := Net.node_lt H.out.ok hks (Nat.le_of_lt hsT)
            have hdn := HG.out.dist HD.out s (Nat.le_of_lt hsT)
            have hnext : g.node g.right ks (s + 1) = g.to (ks.getD s 0) := rfl
            have htk : ks.take (s + 1) = ks.take s ++ [ks.getD s 0] := by
              rw [List.take_succ_eq_append_getElem hsT]
              simp [List.getD, List.getElem?_eq_getElem hsT]
            have hKm := hks s hsT
            have HF : Hid (g.First d (g.node g.right ks s) (ks.getD s 0)) := hfirst
            have HNX : Hid (g.node g.right ks (s + 1) = g.to (ks.getD s 0)) := hnext
            have HTK : Hid (ks.take (s + 1) = ks.take s ++ [ks.getD s 0]) := htk
            have dn1 : 1 ≤ d (g.node g.right ks s) := by omega
            have dn2 : d (g.node g.right ks s) ≤ 16384 := by omega
            have b2 : (((g.node g.right ks s : Nat) : Int) != (g.left : Int)) = true := by simp; omega
            clear hfirst hks hnext htk hdn hnl
            generalize g.node g.right ks s = U at *
            generalize ks.getD s 0 = K at *
            go_wp2
            go_loopw [21, 22, 24] (fun v21 v22 v24 wr => ∃ k : Nat, k ≤ K ∧ v22 = .int .i64 (U : Nat) ∧ v24 = .int .i64 k ∧ Hid (wr.ownsRow (w.heap.size + 1) 3 1 v21 (s + 1) (ic (ri :: ks.take s))) ∧ Hid (RowI wr w.heap.size g.n d) ∧ Below w.heap.size w wr ∧ w.heap.size < wr.heap.size) (fun _ _ v24 _ => g.m - (intOf v24).toNat)
            case atStart => exact ⟨0, by omega, rfl, rfl, HO, hrow, hnx, hsz2⟩
            case round =>
              clear HO hrow hnx hsz2
              obtain ⟨k, hk, rfl, rfl, HO, hrow, hnx, hsz2⟩ := hrel
              have hkm : k < g.m := by omega
              have L := H.out.below hnx
              have ht := L.ok.to_lt k hkm
              have e3 := L.efr k hkm
              have e4 := L.eto k hkm
              have c4 := L.comp _ ht
              have r2 := (hrow.out _ ht).1
              have r3 := (hrow.out _ hnode).1
              have l2 := HD.out.low (g.to k)
              have u2 := HD.out.lt L.ok ht
              clear L
              by_cases hkK : k = K
              · obtain ⟨⟨_, hp1, hp2, hp3, hp4⟩, _⟩ := HF.out
                rw [← hkK] at hp1 hp2 hp3 hp4
                have b3 : ((g.fr k : Int) == (U : Int)) = true := by simp [hp1]
                have b4 : (g.cp (g.to k) == g.cp g.left) = true := beq_iff_eq.2 hp2
                have b5 : decide (0 ≤ d (g.to k)) = true := by simpa using hp3
                have b6 : (d (g.to k) == d U - 1) = true := by simpa using hp4
                have HKK : Hid (k = K) := hkK
                clear hp1 hp2 hp4 hkK
                go_wp2_with fail
                go_quiet (fail)
                go_wp2_with (at_builtin; refine wpList_append_own _ rfl _ _ 35 rfl (w.heap.size + 1) 3 i0 (.int .i64 0) 1 8 Try.underlying35 hi hz0 hz1 hz2 rfl (by decide) _ _ _ rfl (owns_drewN (HO.out.alloc _) _) ⟨wr.heap.size, 0, none⟩ 1 1 [.int .i64 (k : Nat)] rfl rfl ?c1 ?c2 ?c3 ?c4 ?c5 ?_)
                case c1 => intro t u ht; match t, ht with | 0, ht => simp at ht; subst ht; simp [Addr.add]
                case c2 => intro u hu; simp at hu; subst hu; rfl
                case c3 => unfold maxLen; omega
                case c4 => omega
                case c5 => simp; omega
                intro v' w2 hown2 hgrow2 _
                have hnx2 : Below w.heap.size w w2 := (below_drewN (hnx.alloc hnx.size _) _).grown hgrow2 (by simp; omega) (fun b hb => by have := (HO.out.lt b hb).1; omega)
                have hrow2 : Hid (RowI w2 w.heap.size g.n d) := (RowI.drewN (hrow.out.alloc hsz2 _) _).grown hgrow2 (by simp; omega) (fun b hb => by have := (HO.out.lt b hb).1; omega)
                have hs2 : w.heap.size < w2.heap.size := by have := hgrow2.size; simp at this; omega
                have HO2 : Hid (w2.ownsRow (w.heap.size + 1) 3 1 v' (s + 1 + 1) (ic (ri :: ks.take (s + 1)))) := by
                  have e : ic (ri :: ks.take (s + 1)) = ic (ri :: ks.take s) ++ [.int .i64 (k : Nat)] := by rw [HTK.out, HKK.out]; simp [ic]
                  show w2.ownsRow (w.heap.size + 1) 3 1 v' (s + 1 + 1) (ic (ri :: ks.take (s + 1)))
                  rw [e]
                  exact hown2
                have HE : Hid (g.node g.right ks (s + 1) = g.to k) := by rw [HKK.out]; exact HNX.out
                clear hgrow2 hown2 HO hrow hnx
                go_wp2
                go_roundw
                case rel => exact ⟨s + 1, by omega, by rw [HE.out], by go_num, HO2, hrow2, hnx2, hs2⟩
                case measure => simp [intOf]; omega
              · have hnp := HF.out.2 k (by omega)
                by_cases t1 : g.fr k = U
                · have b3 : ((g.fr k : Int) == (U : Int)) = true := by simp [t1]
                  by_cases t2 : g.cp (g.to k) = g.cp g.left
                  · have b4 : (g.cp (g.to k) == g.cp g.left) = true := by simpa using t2
                    by_cases t3 : 0 ≤ d (g.to k)
                    · have b5 : decide (0 ≤ d (g.to k)) = true := by simpa using t3
                      have t4 : d (g.to k) ≠ d U - 1 := fun e => hnp ⟨hkm, t1, t2, t3, e⟩
                      have b6 : (d (g.to k) == d U - 1) = false := by simpa using t4
                      clear t1 t2 t4 hnp
                      go_wp2_with fail
                      go_quiet (fail)
                      go_wp2
                      go_roundw
                      case rel => exact ⟨k + 1, by omega, rfl, by go_num, owns_drewN HO.out _, RowI.drewN hrow.out _, below_drewN hnx _, hsz2⟩
                      case measure => simp [intOf]; omega
                    · have b5 : decide (0 ≤ d (g.to k)) = false := by simpa using t3
                      clear t1 t2 hnp
                      go_wp2_with fail
                      go_quiet (fail)
                      go_wp2
                      go_roundw
                      case rel => exact ⟨k + 1, by omega, rfl, by go_num, owns_drewN HO.out _, RowI.drewN hrow.out _, below_drewN hnx _, hsz2⟩
                      case measure => simp [intOf]; omega
                  · have b4 : (g.cp (g.to k) == g.cp g.left) = false := by simpa using t2
                    clear t1 hnp
                    go_wp2_with fail
                    go_quiet (fail)
                    go_wp2
                    go_roundw
                    case rel => exact ⟨k + 1, by omega, rfl, by go_num, owns_drewN HO.out _, RowI.drewN hrow.out _, below_drewN hnx _, hsz2⟩
                    case measure => simp [intOf]; omega
                · have b3 : ((g.fr k : Int) == (U : Int)) = false := by simp; omega
                  clear hnp
                  go_wp2_with fail
                  go_quiet (fail)
                  go_wp2
                  go_roundw
                  case rel => exact ⟨k + 1, by omega, rfl, by go_num, owns_drewN HO.out _, RowI.drewN hrow.out _, below_drewN hnx _, hsz2⟩
                  case measure => simp [intOf]; omega
          · obtain rfl : s = ks.length := by omega
            have hlast := HG.out.last
            have b2 : ((g.node g.right ks ks.length : Nat) : Int) = (g.left : Int) := by rw [hlast]
            have b3 : (((g.node g.right ks ks.length : Nat) : Int) != (g.left : Int)) = false := by simp [b2]
            clear hlast b2
            go_wp2
            go_ret2
            refine ⟨hnx, .inr ⟨HP.out, ks, _, HG.out, rfl, ?_⟩⟩
            have hh := HO.out
            rw [List.take_of_length_le (Nat.le_refl _)] at hh
            exact ints_of_owns hh (by simp)

end Go.Proofs.Qxb6619715a
