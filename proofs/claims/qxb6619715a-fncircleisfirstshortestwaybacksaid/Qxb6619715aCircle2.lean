/-
  THE WALK of circle, its second part: the search.
-/
import Derived.Test.Qxb6619715aCircle1
import Derived.Test.Qxb6619715aQueue
import Derived.Test.Qxb6619715aModel2
import Derived.Deep.CutBlock
import Derived.Deep.LoopGhost
namespace Go.Proofs.Qxb6619715a
open Go.RowKit
attribute [local go_sem] setCell_drewN alloc_drewN

theorem putMap_drewN (w : World) (M : Nat) (key val : Value) (q : Nat) : putMap (w.drewN q) M key val = (putMap w M key val).drewN q := by
  unfold putMap
  rw [show (w.drewN q).heap[M]? = w.heap[M]? from rfl]
  cases w.heap[M]? with
  | none => rfl
  | some o => cases o <;> rfl

/-- What circle leaves. -/
def CirclePost (g : Net) (d : Nat → Int) (rb : Nat → Nat) (ri : Nat) (w : World) (e : Ending) (w' : World) : Prop :=
  Below w.heap.size w w' ∧ (((g.left = g.right ∨ d g.right < 0) ∧ e = .returned (.slice none 0 0)) ∨
    (g.left ≠ g.right ∧ 0 ≤ d g.right ∧ ∃ ks q off cap, g.Greedy d g.right ks ∧ e = .returned (.slice (some ⟨q, off, none⟩) (ks.length + 1) cap) ∧ ks.length + 1 ≤ cap ∧ cap ≤ maxLen ∧ ∀ i, i < ks.length + 1 → w'.cell? ⟨q, off + i, none⟩ = some (pt (rb ((ri :: ks).getD i 0)))))

/-- The queue: told by its cells as long as it is not empty. -/
def Que (w : World) (B : Nat) (nb : Nat → Nat) (v : Value) (Q : List Nat) : Prop := ∃ a c, v = .slice a Q.length c ∧ (Q ≠ [] → OwnS w B v (Q.map fun y => pt (nb y)))

/-- What holds of the map and of the world in the search. -/
structure Via (w wr : World) (g : Net) (nb rb : Nat → Nat) (L : List (Nat × Option Nat)) : Prop where
  map : MapIs wr w.heap.size nb rb L
  lt : ∀ x, x ∈ L → x.1 < g.n
  below : Below w.heap.size w wr
  size : w.heap.size < wr.heap.size

theorem Via.alloc {w wr : World} {g : Net} {nb rb : Nat → Nat} {L : List (Nat × Option Nat)} (h : Via w wr g nb rb L) (o : Obj) : Via w (wr.alloc o) g nb rb L :=
  ⟨h.map.of_block (Below.heap_alloc _ _ _ h.size), h.lt, h.below.alloc h.below.size _, by have := h.size; simp; omega⟩
theorem Via.drewN {w wr : World} {g : Net} {nb rb : Nat → Nat} {L : List (Nat × Option Nat)} (h : Via w wr g nb rb L) (q : Nat) : Via w (wr.drewN q) g nb rb L := ⟨h.map, h.lt, below_drewN h.below q, h.size⟩
theorem Via.put {w wr : World} {g : Net} {nb rb : Nat → Nat} {L : List (Nat × Option Nat)} (h : Via w wr g nb rb L) {y : Nat} (hy : y < g.n) (v : Option Nat) : Via w (putMap wr w.heap.size (pt (nb y)) (ptrOf rb v)) g nb rb (L ++ [(y, v)]) :=
  ⟨putMap_is h.map _ _, fun x hx => by
    rcases List.mem_append.1 hx with hx | hx
    · exact h.lt x hx
    · obtain rfl : x = (y, v) := by simpa using hx
      exact hy, Below.putMap h.below (Nat.le_refl _) _ _, by rw [putMap_size]; exact h.size⟩
theorem Via.grown {w wr w' : World} {g : Net} {nb rb : Nat → Nat} {L : List (Nat × Option Nat)} {row : Option Nat} (h : Via w wr g nb rb L) (hg : wr.grownBy w' row) (hne : ∀ k, row = some k → w.heap.size < k) : Via w w' g nb rb L :=
  ⟨h.map.of_block (hg.block _ h.size (fun e => by have := hne _ e.symm; omega)), h.lt, h.below.grown hg h.below.size (fun k hk => by have := hne k hk; omega), by have := hg.size; have := h.size; omega⟩

theorem Que.alloc {w : World} {B : Nat} {nb : Nat → Nat} {v : Value} {Q : List Nat} (h : Que w B nb v Q) (o : Obj) : Que (w.alloc o) B nb v Q := by
  obtain ⟨a, c, e, h⟩ := h
  exact ⟨a, c, e, fun hq => (h hq).alloc o⟩
theorem Que.drewN {w : World} {B : Nat} {nb : Nat → Nat} {v : Value} {Q : List Nat} (h : Que w B nb v Q) (q : Nat) : Que (w.drewN q) B nb v Q := h
theorem OwnS.put {w : World} {B : Nat} {v : Value} {xs : List Value} (h : OwnS w B v xs) {M : Nat} (hM : M < B) (key val : Value) : OwnS (putMap w M key val) B v xs := by
  obtain ⟨k, h1, h2, h3⟩ := h.own
  exact h.of_block (fun k' hk' => putMap_other key val (by rw [h1] at hk'; injection hk' with e; omega)) (by rw [putMap_size]; exact Nat.le_refl _)

theorem neq_same (b : Nat) (w : World) : (binOp .neq 28 (.pointer (some ⟨b, 0, none⟩)) (.pointer (some ⟨b, 0, none⟩))).run Try.prog w = .ok (.bool false) w := by
  have h := equal_same b w
  unfold pt at h
  simp only [binOp]
  simp [h]
theorem neq_other {w : World} {n : Nat} {nb : Nat → Nat} (hB : Blocks w n nb) {x y : Nat} (hx : x < n) (hy : y < n) (hne : x ≠ y) : (binOp .neq 28 (.pointer (some ⟨nb x, 0, none⟩)) (.pointer (some ⟨nb y, 0, none⟩))).run Try.prog w = .ok (.bool true) w := by
  obtain ⟨c, t, hc⟩ := hB.cells x hx
  obtain ⟨c', t', hc'⟩ := hB.cells y hy
  have h := equal_other (fun e => hne (hB.inj _ _ hx hy e)) hc hc'
  unfold pt at h
  simp only [binOp]
  simp [h]

theorem Via.look {w wr : World} {g : Net} {pr : Nat → Bool} {nb rb : Nat → Nat} {bc oc cc A : Nat} {L : List (Nat × Option Nat)} (h : Via w wr g nb rb L) (H : Mem w g pr nb rb bc oc cc A) {y : Nat} (hy : y < g.n) :
    (Instr.lookup 76 (.map (some w.heap.size)) (.pointer (some ⟨nb y, 0, none⟩)) true).run Try.prog wr = .ok (.tuple #[ptrOf rb ((assoc L y).getD none), .bool (assoc L y).isSome]) wr :=
  look_ok h.map (H.below h.below).blocks h.lt hy

theorem Via.look1 {w wr : World} {g : Net} {pr : Nat → Bool} {nb rb : Nat → Nat} {bc oc cc A : Nat} {L : List (Nat × Option Nat)} (h : Via w wr g nb rb L) (H : Mem w g pr nb rb bc oc cc A) {y : Nat} (hy : y < g.n) :
    (Instr.lookup 76 (.map (some w.heap.size)) (.pointer (some ⟨nb y, 0, none⟩)) false).run Try.prog wr = .ok (ptrOf rb ((assoc L y).getD none)) wr :=
  look_plain h.map (H.below h.below).blocks h.lt hy

theorem info28 : (Try.prog.info? 28).map (fun i => (i.zero, i.size, i.bytes)) = some (some (.pointer none), 1, 8) := by kernel_rfl
theorem info51 : (Try.prog.info? 51).map (fun i => (i.zero, i.size, i.bytes)) = some (some (.pointer none), 1, 8) := by kernel_rfl
theorem Que.of_own {w : World} {B : Nat} {nb : Nat → Nat} {v : Value} {Q : List Nat} (h : OwnS w B v (Q.map fun y => pt (nb y))) : Que w B nb v Q := by
  obtain ⟨q, off, cap, rfl, hh⟩ := h
  exact ⟨some ⟨q, off, none⟩, cap, by simp, fun _ => ⟨q, off, cap, rfl, hh⟩⟩

theorem Base.len_le {g : Net} {done R : List Nat} {u : Nat} {via : Nat → Option (Option Nat)} (h : Net.Base g done (u :: R) via) : R.length < g.n := by
  have h2 : done.length + (R.length + 1) ≤ g.n := by
    have := Net.nodup_le g.n _ h.nodup h.lt
    simpa using this
  omega

theorem assoc_upd {L : List (Nat × Option Nat)} {y : Nat} (h : assoc L y = none) (v : Option Nat) : assoc (L ++ [(y, v)]) = Net.upd (assoc L) y (some v) := by
  funext x
  exact assoc_snoc h v x

set_option maxRecDepth 100000 in
set_option maxHeartbeats 40000000 in
theorem circle_yes (w : World) (g : Net) (pr : Nat → Bool) (nb rb : Nat → Nat) (bc oc cc A ri : Nat) (h : Mem w g pr nb rb bc oc cc A) (hri : ri < g.m) (hl : g.left = g.fr ri) (hr : g.right = g.to ri)
    (ha : pr g.left = true ∧ pr g.right = true ∧ g.cp g.left = g.cp g.right) (d : Nat → Int) (hd : g.Dist d) :
    Calls Try.prog 20 #[.pointer (some ⟨rb ri, 0, none⟩), .slice (some ⟨bc, oc, none⟩) g.n cc, .slice (some ⟨A, 0, none⟩) g.n g.n] w
      fun e w' => CirclePost g d rb ri w e w' := by
  obtain ⟨i0, hi, hz0, hz1, hz2⟩ := info_parts info28
  obtain ⟨i5, hi5, hy0, hy1, hy2⟩ := info_parts info51
  have H : Hid (Mem w g pr nb rb bc oc cc A) := h
  have HD : Hid (g.Dist d) := hd
  have hll := h.ok.left_lt
  have hrl := h.ok.right_lt
  have e1 := h.rfr ri hri
  have e2 := h.rto ri hri
  rw [← hl] at e1
  rw [← hr] at e2
  unfold pt at e1 e2
  have i1 := h.idx _ hll
  have i2 := h.idx _ hrl
  have p1 := h.prot _ hll
  have p2 := h.prot _ hrl
  have c1 := h.comp _ hll
  have c2 := h.comp _ hrl
  have n1 := h.n_le
  have n3 := h.ncap
  rw [ha.1] at p1
  rw [ha.2.1] at p2
  have b1 : (g.cp g.left != g.cp g.right) = false := by simpa using ha.2.2
  have hmk := @run_makeMap Try.prog
  have hB0 : Blocks (w.alloc (.map #[] 0)) g.n nb := h.blocks.below ((Below.refl _ _).alloc (Nat.le_refl _) _)
  obtain ⟨W0, hW0⟩ : ∃ W0, W0 = putMap (w.alloc (.map #[] 0)) w.heap.size (pt (nb g.right)) (ptrOf rb none) := ⟨_, rfl⟩
  have hup : ∀ q, (Instr.mapUpdate 76 (.map (some w.heap.size)) (.pointer (some ⟨nb g.right, 0, none⟩)) (.pointer none)).run Try.prog ((w.alloc (.map #[] 0)).drewN q) = .ok () (W0.drewN q) := fun q => by
    have := update_new (w := (w.alloc (.map #[] 0)).drewN q) (map_start w nb rb) (hB0.below (below_drewN (Below.refl _ _) q)) (fun x hx => by cases hx) hrl rfl (ptrOf rb none)
    rw [putMap_drewN, ← hW0] at this
    exact this
  have hV0 : Hid (Via w W0 g nb rb [(g.right, none)]) := by
    subst hW0
    refine ⟨putMap_is (map_start w nb rb) _ _, fun x hx => ?_, Below.putMap ((Below.refl _ _).alloc (Nat.le_refl _) _) (Nat.le_refl _) _ _, by rw [putMap_size]; simp⟩
    obtain rfl : x = (g.right, none) := by simpa using hx
    exact hrl
  have hT0 : Hid (Net.Top g d [] [g.right] (assoc [(g.right, none)])) := by
    have := Net.Top.start hd h.ok ha.2.2.symm
    have e : assoc [(g.right, none)] = Net.upd (fun _ => none) g.right (some none) := assoc_upd (L := []) rfl none
    show Net.Top g d [] [g.right] (assoc [(g.right, none)])
    rw [e]; exact this
  clear h hl hr ha hd hB0 hW0
  go_enter Try.func20, Try.ntmps20
  go_wp2_with fail
  go_quiet (fail)
  go_wp2_with fail
  go_quiet (fail)
  go_wp2
  clear hmk hup e1 e2 p1 p2 c2 b1 i2
  go_loopg [10] g.n (fun gn v10 wr => ∃ (done Q : List Nat) (L : List (Nat × Option Nat)), gn = g.n - done.length ∧ Hid (Net.Top g d done Q (assoc L)) ∧ Hid (Que wr (w.heap.size + 1) nb v10 Q) ∧ Hid (Via w wr g nb rb L))
  case atStart =>
    refine ⟨[], [g.right], _, rfl, hT0, ⟨_, 1, rfl, fun _ => ?_⟩, (hV0.out.alloc _).drewN _⟩
    exact (OwnS.lit W0 (w.heap.size + 1) (pt (nb g.right)) 28 (by have := hV0.out.size; omega)).drewN _
  case round =>
    clear hV0 hT0
    obtain ⟨done, Q, L, hgn, hT, hQ, hV⟩ := hrel
    cases Q with
    | nil =>
      obtain ⟨a, c, rfl, _⟩ := hQ.out
      have HX := hV.out.below
      have HE : Hid (g.left = g.right ∨ d g.right < 0) := by
        by_cases e : g.left = g.right
        · exact .inl e
        · exact .inr (hT.out.ended e)
      clear hQ hV
      go_wp2
      go_ret
      exact ⟨HX, .inl ⟨HE.out, rfl⟩⟩
    | cons u R =>
      obtain ⟨a0, c0, rfl, hq⟩ := hQ.out
      obtain ⟨q, off, cap, hv, g1, g2, g3, g4, g5, g6⟩ := hq (by simp)
      injection hv with v1 v2 v3
      subst v1 v3
      clear v2
      have M := H.out.below hV.out.below
      have hun : u < g.n := (hT.out.enter.u_in).2.2
      have x1 : wr.cell? ⟨q, off, none⟩ = some (pt (nb u)) := by
        have := g5 0 (by simp)
        simpa using this
      have x2 := M.idx u hun
      obtain ⟨a, ca, x3w, hac, hrest⟩ := H.out.after u hun
      have x3 := cell_below hV.out.below x3w
      have hlm : (g.adj u).length ≤ g.m := by
        unfold Net.adj
        exact Nat.le_trans (List.length_filter_le _ _) (by simp)
      have hm := M.m_le
      simp only [List.length_map, List.length_cons] at g3 
      unfold pt at x1
      have hM2 : Hid (Net.Mid g d done (u :: R) (assoc L) u ((g.adj u).take 0)) := hT.out.enter
      have hQ2 : Hid (Que wr (w.heap.size + 1) nb (.slice (some ⟨q, off, none⟩) (R.length + 1) c0) (u :: R)) := hQ
      clear M hT hQ hq g5 g6 x3w
      go_wp2_with fail
      have HR := Hid.out (p := Hid _) hrest
      have hx0 := g2
      clear hrest x1 x2 x3 g1 g2 g3 g4
      go_loopg [10, 75] (g.adj u).length (fun gj v10 v75 wr => ∃ (j : Nat) (R : List Nat) (L : List (Nat × Option Nat)), j ≤ (g.adj u).length ∧ gj = (g.adj u).length - j ∧ v75 = .int .i64 j ∧ Hid (Net.Mid g d done (u :: R) (assoc L) u ((g.adj u).take j)) ∧ Hid (Que wr (w.heap.size + 1) nb v10 (u :: R)) ∧ Hid (Via w wr g nb rb L))
      case atStart => exact ⟨0, R, L, by omega, rfl, rfl, hM2, hQ2, hV⟩
      case round =>
        clear hM2 hQ2 hV hx0 L
        obtain ⟨j, R', L, hj, hgj, rfl, hM, hQ, hV⟩ := hrel
        obtain ⟨a0, c1', rfl, hq⟩ := hQ.out
        by_cases hjl : j < (g.adj u).length
        · obtain ⟨b, rfl, hlk⟩ := HR.out (fun e => by rw [e] at hjl; simp at hjl)
          have m1 := cell_below hV.out.below (hlk j hjl).1
          have m2 := cell_below hV.out.below (hlk j hjl).2
          obtain ⟨hkm, hkf⟩ := Net.adj_at hjl
          obtain ⟨k, hk⟩ : ∃ k, (g.adj u)[j] = k := ⟨_, rfl⟩
          rw [hk] at m1 m2 hkm hkf
          have hyn := H.out.ok.to_lt k hkm
          have HK : Hid ((g.adj u)[j] = k) := hk
          have HF : Hid (g.fr k = u) := hkf
          unfold pt at m1 m2
          obtain ⟨y, hy⟩ : ∃ y, g.to k = y := ⟨_, rfl⟩
          have HY : Hid (g.to k = y) := hy
          rw [hy] at m1 hyn
          clear hk hkf hlk hy hq i1 c1
          have hV1 : Hid (Via w (wr.alloc (.cells #[.pointer (some ⟨nb y, 0, none⟩), .pointer (some ⟨rb k, 0, none⟩)] 59)) g nb rb L) := hV.out.alloc _
          have hQ1 : Hid (Que (wr.alloc (.cells #[.pointer (some ⟨nb y, 0, none⟩), .pointer (some ⟨rb k, 0, none⟩)] 59)) (w.heap.size + 1) nb (.slice a0 (R'.length + 1) c1') (u :: R')) := hQ.out.alloc _
          have hlk := hV1.out.look H.out hyn
          have hsz := hV.out.size
          have htk : (g.adj u).take (j + 1) = (g.adj u).take j ++ [k] := by rw [List.take_succ_eq_append_getElem hjl, HK.out]
          have hskip : (assoc L y).isSome = true ∨ g.cp y ≠ g.cp g.left → Net.Mid g d done (u :: R') (assoc L) u ((g.adj u).take (j + 1)) := fun hs => by
            rw [htk]
            exact hM.out.skip HD.out HF.out (by rw [HY.out]; exact hs)
          have HS := Hid.out (p := Hid _) hskip
          have M1 := H.out.below hV1.out.below
          have y1 := M1.idx _ hyn
          have y2 := M1.comp _ hyn
          have l1 := M1.idx _ hll
          have l2 := M1.comp _ hll
          clear htk hskip M1
          cases hA : assoc L y with
          | some v =>
            rw [hA] at hlk
            simp only [Option.isSome_some] at hlk
            have HX : Hid (Net.Mid g d done (u :: R') (assoc L) u ((g.adj u).take (j + 1))) := HS.out (.inl (by rw [hA]; rfl))
            clear hA hV hQ HS
            generalize ptrOf rb ((some v).getD none) = pv at hlk
            go_wp2_with fail
            go_quiet (fail)
            go_wp2
            go_roundg ((g.adj u).length - (j + 1))
            case rel => exact ⟨j + 1, R', L, by omega, rfl, by go_num, HX, hQ1.out.drewN _, hV1.out.drewN _⟩
            case measure => omega
          | none =>
            rw [hA] at hlk
            simp only [Option.isSome_none, Option.getD_none, ptrOf] at hlk
            have HA : Hid (assoc L y = none) := hA
            clear hA
            by_cases t1 : g.cp y = g.cp g.left
            · have b1 : (g.cp y != g.cp g.left) = false := by simpa using t1
              have HC : Hid (g.cp y = g.cp g.left) := t1
              obtain ⟨W2, hW2⟩ : ∃ W2, W2 = putMap (wr.alloc (.cells #[.pointer (some ⟨nb y, 0, none⟩), .pointer (some ⟨rb k, 0, none⟩)] 59)) w.heap.size (pt (nb y)) (ptrOf rb (some k)) := ⟨_, rfl⟩
              have hup : ∀ q, (Instr.mapUpdate 76 (.map (some w.heap.size)) (.pointer (some ⟨nb y, 0, none⟩)) (.pointer (some ⟨rb k, 0, none⟩))).run Try.prog ((wr.alloc (.cells #[.pointer (some ⟨nb y, 0, none⟩), .pointer (some ⟨rb k, 0, none⟩)] 59)).drewN q) = .ok () (W2.drewN q) := fun q => by
                have hv := hV1.out.drewN q
                have := update_new hv.map (H.out.below hv.below).blocks hv.lt hyn HA.out (ptrOf rb (some k))
                rw [putMap_drewN, ← hW2] at this
                exact this
              have hV2 : Hid (Via w W2 g nb rb (L ++ [(y, some k)])) := by rw [hW2]; exact hV1.out.put hyn (some k)
              have hQ2 : Hid (OwnS W2 (w.heap.size + 1) (.slice a0 (R'.length + 1) c1') ((u :: R').map fun y => pt (nb y))) := by
                obtain ⟨_, _, _, hq⟩ := hQ1.out
                rw [hW2]
                exact (hq (by simp)).put (Nat.lt_succ_self _) _ _
              clear t1 hW2 HS hV hQ hQ1
              by_cases hyl : y = g.left
              · subst hyl
                have hne : ∀ q, (binOp .neq 28 (.pointer (some ⟨nb g.left, 0, none⟩)) (.pointer (some ⟨nb g.left, 0, none⟩))).run Try.prog (W2.drewN q) = .ok (.bool false) (W2.drewN q) := fun q => neq_same _ _
                obtain ⟨hlr, hd0, ks, hG, hvia⟩ := hM.out.found HD.out hjl (by rw [HK.out, HY.out]; exact HA.out) (by rw [HK.out, HY.out]; exact HC.out) (by rw [HK.out, HY.out])
                rw [HK.out, ← assoc_upd HA.out] at hvia
                have hroot : Hid (assoc (L ++ [(g.left, some k)]) g.right = some none) := by
                  show assoc (L ++ [(g.left, some k)]) g.right = some none
                  rw [assoc_snoc HA.out, if_neg (Ne.symm hlr)]
                  exact hM.out.base.root
                have hTd := hG.dist HD.out 0 (by omega)
                simp only [Net.node] at hTd
                have hTn := HD.out.lt H.out.ok hrl
                have hT : ks.length < 16384 := by omega
                have hT1 : 0 < ks.length := by
                  cases ks with
                  | nil => exact absurd hG.symm hlr
                  | cons x xs => simp
                have HG : Hid (g.Greedy d g.right ks) := hG
                have HP : Hid (g.left ≠ g.right ∧ 0 ≤ d g.right) := ⟨hlr, hd0⟩
                have HVI := Hid.out (p := Hid _) hvia
                have hsz2 := hV2.out.size
                clear hM hG hlr hd0 hvia hTd hTn
                go_wp2_with fail
                go_quiet (fail)
                go_wp2
                have hO0 : Hid (OwnS ((W2.alloc (.cells #[.pointer (some ⟨rb ri, 0, none⟩)] 51))) (w.heap.size + 1) (.slice (some ⟨W2.heap.size, 0, none⟩) 1 1) ((ri :: ks.reverse.take 0).map fun k => pt (rb k))) := OwnS.lit W2 (w.heap.size + 1) (pt (rb ri)) 51 (by omega)
                have hV3 : Hid (Via w (W2.alloc (.cells #[.pointer (some ⟨rb ri, 0, none⟩)] 51)) g nb rb (L ++ [(g.left, some k)])) := hV2.out.alloc _
                clear hV2 hQ2 hne hup m1 m2 hlk hV1 y1 y2 l1 l2
                go_loopg [16, 17] ks.length (fun gt v16 v17 wr => ∃ t : Nat, t ≤ ks.length ∧ gt = ks.length - t ∧ v17 = .pointer (some ⟨nb (g.node g.right ks (ks.length - t)), 0, none⟩) ∧ Hid (OwnS wr (w.heap.size + 1) v16 ((ri :: ks.reverse.take t).map fun k => pt (rb k))) ∧ Hid (Via w wr g nb rb (L ++ [(g.left, some k)])))
                case atStart => exact ⟨0, by omega, rfl, by rw [Nat.sub_zero, HG.out.last], hO0.out.drewN _, hV3.out.drewN _⟩
                case round =>
                  clear hO0 hV3 hsz2 hsz
                  obtain ⟨t, ht, hgt, rfl, hO, hV⟩ := hrel
                  have hks : ∀ i, i < ks.length → ks.getD i 0 < g.m := fun i hi => (HG.out.at i hi).1.1.1
                  by_cases htT : t < ks.length
                  · obtain ⟨s, hs⟩ : ∃ s, ks.length - t = s + 1 := ⟨ks.length - t - 1, by omega⟩
                    rw [hs]
                    have hsT : s < ks.length := by omega
                    have hUn : g.node g.right ks (s + 1) < g.n := Net.node_lt H.out.ok hks (by omega)
                    have hKm := hks s hsT
                    have hfr : g.fr (ks.getD s 0) = g.node g.right ks s := (HG.out.at s hsT).1.1.2.1
                    have hlk : ∀ W, Via w W g nb rb (L ++ [(g.left, some k)]) → (Instr.lookup 76 (.map (some w.heap.size)) (.pointer (some ⟨nb (g.node g.right ks (s + 1)), 0, none⟩)) false).run Try.prog W = .ok (.pointer (some ⟨rb (ks.getD s 0), 0, none⟩)) W := fun W hW => by
                      have := hW.look1 H.out hUn
                      rw [HVI.out s hsT] at this
                      exact this
                    have hrev : ks.reverse.take (t + 1) = ks.reverse.take t ++ [ks.getD s 0] := by
                      rw [List.take_succ_eq_append_getElem (by simp; omega)]
                      congr 2
                      rw [List.getElem_reverse]
                      have : ks.length - 1 - t = s := by omega
                      simp [this, List.getD, List.getElem?_eq_getElem hsT]
                    have HRV : Hid (ks.reverse.take (t + 1) = ks.reverse.take t ++ [ks.getD s 0]) := hrev
                    have HFR : Hid (g.fr (ks.getD s 0) = g.node g.right ks s) := hfr
                    clear hrev hfr hks
                    have hlk1 := hlk wr hV.out
                    have hsz := hV.out.size
                    obtain ⟨qb, hqb, hqb1, hqb2⟩ := hO.out.own
                    have HQB : Hid (_ = some qb) := hqb
                    clear hqb
                    generalize g.node g.right ks (s + 1) = U at *
                    generalize ks.getD s 0 = K at *
                    go_wp2_with (at_builtin; refine wpList_append_ownS rfl _ _ 47 rfl (w.heap.size + 1) 51 i5 (.pointer none) Try.underlying47 hi5 hy0 hy1 hy2 rfl _ _ rfl (hO.out.alloc _) ⟨wr.heap.size, 0, none⟩ 1 (.pointer (some ⟨rb K, 0, none⟩)) rfl ?c1 rfl ?c2 ?c3 ?_)
                    case c1 => rw [World.cell?_alloc_new]; rfl
                    case c2 => simp; omega
                    case c3 => simp; omega
                    intro v' w2 hown2 hgrow2
                    have HV3 : Hid (Via w w2 g nb rb (L ++ [(g.left, some k)])) := (hV.out.alloc _).grown hgrow2 (fun b hb => by
                      have := HQB.out.symm.trans hb
                      injection this with e
                      omega)
                    have HO3 : Hid (OwnS w2 (w.heap.size + 1) v' ((ri :: ks.reverse.take (t + 1)).map fun k => pt (rb k))) := by
                      have e : (ri :: ks.reverse.take (t + 1)).map (fun k => pt (rb k)) = (ri :: ks.reverse.take t).map (fun k => pt (rb k)) ++ [pt (rb K)] := by rw [HRV.out]; simp
                      show OwnS _ _ _ _
                      rw [e]
                      simpa [pt] using hown2
                    have hlk2 := hlk w2 HV3.out
                    have hfr2 := (H.out.below HV3.out.below).rfr K hKm
                    unfold pt at hfr2
                    clear hown2 hgrow2 hV hO hlk hlk1
                    go_wp2
                    go_roundg (ks.length - (t + 1))
                    case rel => exact ⟨t + 1, by omega, rfl, by rw [HFR.out, show ks.length - (t + 1) = s by omega], HO3, HV3⟩
                    case measure => omega
                  · obtain rfl : t = ks.length := by omega
                    have h0 : ks.length - ks.length = 0 := by omega
                    rw [h0, show g.node g.right ks 0 = g.right from rfl]
                    have hlk := hV.out.look1 H.out hrl
                    rw [hroot.out] at hlk
                    simp only [Option.getD_some, ptrOf] at hlk
                    obtain ⟨q', off', cap', hv', g1, g2, g3, g4, g5, g6⟩ := hO.out
                    subst hv'
                    have hlen : ((ri :: ks.reverse.take ks.length).map fun k => pt (rb k)).length = ks.length + 1 := by simp
                    have hg5 : ∀ i, i < ks.length + 1 → wr.cell? ⟨q', off' + i, none⟩ = some (pt (rb ((ri :: ks.reverse).getD i 0))) := fun i hi => by
                      have := g5 i (by rw [hlen]; exact hi)
                      rw [this, List.take_of_length_le (by simp)]
                      rw [List.getElem?_map]
                      have : i < (ri :: ks.reverse).length := by simpa using hi
                      rw [List.getElem?_eq_getElem this]
                      simp [List.getD, List.getElem?_eq_getElem this]
                    have HRP : Hid (RowP wr q' (off' + 1) ks.length (fun p => some ⟨rb (ks.reverse.getD p 0), 0, none⟩)) := fun p hp => by
                      have h1 := hg5 (p + 1) (by omega)
                      have h2 := (g6 (p + 1) (by rw [hlen] at g3; omega)).2
                      rw [show off' + 1 + p = off' + (p + 1) by omega]
                      exact ⟨h1, h2⟩
                    have HFC : Hid (wr.cell? ⟨q', off', none⟩ = some (pt (rb ri))) := hg5 0 (by omega)
                    rw [hlen] at g3
                    rw [hlen]
                    have HVB := hV.out.below
                    clear hg5 g5 g6 hlen h0 hO hV hks
                    go_wp2_with (go_at_call 23; refine Calls.mono (reverse_any q' (off' + 1) ks.length _ (by omega) _ _ HRP.out) ?_; rintro e w' ⟨rfl, hrv, hone⟩)
                    go_wp2
                    go_ret
                    refine ⟨HVB.trans (hone.below (by omega)), .inr ⟨HP.out.1, HP.out.2, ks, q', off', cap', HG.out, rfl, g3, g4, fun i hi => ?_⟩⟩
                    cases i with
                    | zero => exact (hone.low off' (by omega)).trans HFC.out
                    | succ i =>
                      have h1 := (hrv i (by omega)).1
                      rw [show off' + (i + 1) = off' + 1 + i by omega, h1]
                      have e : ks.reverse.getD (ks.length - 1 - i) 0 = ks.getD i 0 := by
                        have hi' : i < ks.length := by omega
                        simp only [List.getD]
                        rw [List.getElem?_reverse (by omega)]
                        congr 2
                        omega
                      dsimp only
                      rw [e]
                      rfl
              · have hne : ∀ q, (binOp .neq 28 (.pointer (some ⟨nb y, 0, none⟩)) (.pointer (some ⟨nb g.left, 0, none⟩))).run Try.prog (W2.drewN q) = .ok (.bool true) (W2.drewN q) := fun q => neq_other (H.out.below (hV2.out.drewN q).below).blocks hyn hll hyl
                have HX : Hid (Net.Mid g d done (u :: (R' ++ [y])) (assoc (L ++ [(y, some k)])) u ((g.adj u).take (j + 1))) := by
                  have := hM.out.push HD.out H.out.ok hjl (by rw [HK.out, HY.out]; exact HA.out) (by rw [HK.out, HY.out]; exact HC.out) (by rw [HK.out, HY.out]; exact hyl)
                  rw [HK.out, HY.out] at this
                  show Net.Mid _ _ _ _ _ _ _
                  rw [assoc_upd HA.out]
                  exact this
                have hRn : R'.length < 16384 := by have := Base.len_le hM.out.base; omega
                have hsz2 := hV2.out.size
                clear hM
                go_wp2_with fail
                go_quiet (fail)
                go_wp2_with (at_builtin; refine wpList_append_ownS rfl _ _ 25 rfl (w.heap.size + 1) 28 i0 (.pointer none) Try.underlying25 hi hz0 hz1 hz2 rfl _ _ rfl ((hQ2.out.alloc _).drewN _) ⟨W2.heap.size, 0, none⟩ 1 (.pointer (some ⟨nb y, 0, none⟩)) rfl ?c1 rfl ?c2 ?c3 ?_)
                case c1 => show (W2.alloc _).cell? ⟨W2.heap.size, 0, none⟩ = _; rw [World.cell?_alloc_new]; rfl
                case c2 => simp; omega
                case c3 => simp; omega
                intro v' w2 hown2 hgrow2
                have HV3 : Hid (Via w w2 g nb rb (L ++ [(y, some k)])) := ((hV2.out.alloc _).drewN _).grown hgrow2 (fun b hb => by
                  obtain ⟨k', h1, h2, _⟩ := hQ2.out.own
                  have := h1.symm.trans hb
                  injection this with e
                  omega)
                have HQ3 : Hid (Que w2 (w.heap.size + 1) nb v' (u :: (R' ++ [y]))) := Que.of_own (by
                  have e : (u :: (R' ++ [y])).map (fun y => pt (nb y)) = (u :: R').map (fun y => pt (nb y)) ++ [pt (nb y)] := by simp
                  rw [e]
                  exact hown2)
                clear hown2 hgrow2 hV2 hQ2
                go_wp2
                go_roundg ((g.adj u).length - (j + 1))
                case rel => exact ⟨j + 1, R' ++ [y], L ++ [(y, some k)], by omega, rfl, by go_num, HX, HQ3, HV3⟩
                case measure => omega
            · have b1 : (g.cp y != g.cp g.left) = true := by simpa using t1
              have HX : Hid (Net.Mid g d done (u :: R') (assoc L) u ((g.adj u).take (j + 1))) := HS.out (.inr t1)
              clear hV hQ HS t1
              go_wp2_with fail
              go_quiet (fail)
              go_wp2
              go_roundg ((g.adj u).length - (j + 1))
              case rel => exact ⟨j + 1, R', L, by omega, rfl, by go_num, HX, hQ1.out.drewN _, hV1.out.drewN _⟩
              case measure => omega
        · obtain rfl : j = (g.adj u).length := by omega
          have HX : Hid (Net.Top g d (done ++ [u]) R' (assoc L)) := by
            have := hM.out
            rw [List.take_of_length_le (Nat.le_refl _)] at this
            exact this.leave
          have hdl : done.length < g.n := hM.out.base.done_lt
          obtain ⟨q', off', cap', hv', g1, g2, g3, g4, g5, g6⟩ := hq (by simp)
          injection hv' with v1 v2 v3
          subst v1 v3
          clear v2
          simp only [List.length_map, List.length_cons] at g3
          by_cases hc1 : 1 < c1'
          · have HQ3 : Hid (Que wr (w.heap.size + 1) nb (.slice (some ⟨q', off' + 1, none⟩) R'.length (c1' - 1)) R') := by
              have := OwnS.tail (x := pt (nb u)) (xs := R'.map fun y => pt (nb y)) (by have := hq (by simp); simpa using this) hc1
              exact ⟨_, _, rfl, fun _ => by simpa using this⟩
            clear hq hQ g5 g6 hM
            go_wp2
            go_roundg (g.n - (done.length + 1))
            case rel => exact ⟨done ++ [u], R', L, by simp, HX, HQ3, hV⟩
            case measure => omega
          · obtain rfl : c1' = 1 := by omega
            have hR0 : R' = [] := List.eq_nil_of_length_eq_zero (by omega)
            subst hR0
            clear hq hQ g5 g6 hM
            go_wp2
            go_roundg (g.n - (done.length + 1))
            case rel => exact ⟨done ++ [u], [], L, by simp, HX, ⟨_, _, rfl, fun h => absurd rfl h⟩, hV⟩
            case measure => omega

end Go.Proofs.Qxb6619715a
