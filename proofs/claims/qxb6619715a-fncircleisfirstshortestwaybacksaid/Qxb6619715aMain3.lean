/-
  THE LAW's OWN WALK: the graph is laid, circle and the model are asked, and their answers compared.
-/
import Derived.Test.Qxb6619715aMain2
import Derived.Test.Qxb6619715aBuilt
import Derived.Test.Qxb6619715aZz
import Derived.Deep.RegionLaw
namespace Go.Proofs.Qxb6619715a
open Go.RowKit
attribute [local go_sem] setCell_drewN alloc_drewN

theorem gen_world {P : Program} {c : Code} {Q : Exit → Act → World → Prop} {a : Act} (w : World) (h : ∀ wa, wa = w → Code.wp P c Q a wa) : Code.wp P c Q a w := h w rfl

set_option linter.unusedSimpArgs false in
set_option maxRecDepth 100000 in
set_option maxHeartbeats 40000000 in
theorem law_full (w : World) (ac : Addr) (cc n : Nat) (vp ve : Value) (m : Nat) (cp : Nat → Int) (pr : Nat → Bool) (f t : Nat → Int) (ri : Nat) (hc : Ints w (.slice (some ac) n cc) n cp) (hp : Bools w vp n pr) (he : Edges w ve m f t) (hnl : n ≤ 16384) (hml : m ≤ 16384) (hrm : ri < m) :
    Calls Try.prog 4 #[.slice (some ac) n cc, vp, ve, .int .i64 ri] w fun e w' => e = .returned (.bool true) ∧ Below w.heap.size w w' := by
  obtain ⟨i0, hi, hz0, hz1, hz2⟩ := info_parts info3
  have hn := fun (w : World) => run_neq_slice_nil_any (P := Try.prog) w 35 3 (some ac) n cc 0 0 Try.underlying35
  have HE0 : Hid (Edges w ve m f t) := he
  obtain ⟨ap, cpp, rfl, hp1, hp2, hp3⟩ := hp
  obtain ⟨ae, ce, rfl, he1, he2, he3⟩ := he
  obtain ⟨ac', cc', hce, hc1, hc2, hc3, hc4⟩ := hc
  injection hce with e1 e2 e3
  subst e1 e3
  have HS : Hid (∀ j u, (ci n cp)[j]? = some u → w.cell? (ac.add j) = some u) := fun j u hj => by
    have hjn : j < n := by
      have := (List.getElem?_eq_some_iff.1 hj).1
      rwa [ci_length] at this
    obtain ⟨b, o, hb, hcell⟩ := hc4 (by omega)
    injection hb with hb
    subst hb
    rw [add_plain, hcell j hjn, ← hj, ci_at n cp hjn]
  obtain ⟨be, oe, rfl, hecell⟩ := he3 (by omega)
  have HEC := Hid.out (p := Hid _) hecell
  have HP3 := Hid.out (p := Hid _) hp3
  have hx := bytes_small (some ac) ap (some ⟨be, oe, none⟩) n cc n cpp m ce (.int .i64 ri) w (by omega)
  have b3 : ((n : Int) != (n : Int)) = false := by simp
  clear hp3 he3 hp2 he2 hc3 hc4 hc2 e2 hecell
  go_enter Try.func4, Try.ntmps4
  go_wp2_with (first | (go_at_call 13; refine Calls.mono hx ?_; rintro e w' ⟨rfl, rfl⟩) | (at_make; refine wpList_make_full _ rfl _ _ 35 rfl w'.heap.size 3 i0 (.int .i64 0) 1 Try.underlying35 hi hz0 hz1 _ _ _ _ n rfl rfl rfl rfl ?b2 ?b3 (Nat.le_refl _) ?_))
  case b2 => first | omega | (rw [hz2]; omega)
  case b3 => unfold maxLen; omega
  intro w1 hown1 hgrow1
  have hnx1 : Below w'.heap.size w' w1 := (Below.refl _ _).grown hgrow1 (Nat.le_refl _) (fun k h => by cases h)
  obtain ⟨cur, hcur, hcl⟩ := made_row hown1
  have HC : Hid (w1.heap[w'.heap.size]? = some (.cells cur.toArray 3 (0, 0))) := hcur
  have HL : Hid (cur.length = n) := hcl
  clear hgrow1 hown1 hcur hcl
  go_wp2_with (refine wpList_copy_splice rfl _ _ 35 35 rfl 3 Try.underlying35 info3s _ _ _ _ _ _ rfl rfl w'.heap.size 0 cur 3 HC.out (ci n cp) ?c1 ?c2 ?c3 (ci_one n cp) w'.heap.size w' hnx1 (Nat.le_refl _) ?_)
  case c1 => simp [ci_length]
  case c2 =>
    intro _
    first | exact ⟨rfl, ac, rfl, fun j v hj => cell_below hnx1 (HS.out j v hj)⟩ | exact fun j v hj => cell_below hnx1 (HS.out j v hj)
  case c3 => rw [ci_length, HL.out]; omega
  intro w2 HR hnx2
  have hcomp := comp_of_row HR.out HL.out
  have HCM := Hid.out (p := Hid _) hcomp
  clear hcomp HR HL HC HS hnx1 hx
  go_wp2_with fail
  refine Calls.mono (within_any _ m hml n f t w2 (HE0.out.below hnx2)) ?_
  rintro e w3 ⟨⟨r, rfl, hr⟩, hw3⟩
  subst hw3
  cases r with
  | false =>
    clear hr
    go_wp2
    go_ret
    exact ⟨rfl, hnx2⟩
  | true =>
    have hall := hr rfl
    clear hr
    have hn1 : 0 < n := by have := hall 0 (by omega); omega
    obtain ⟨bp, op, rfl, hpcell⟩ := HP3.out hn1
    obtain ⟨g, hgn, hgm, hgf, hgt, hgc, hgl, hgr⟩ : ∃ g : Net, g.n = n ∧ g.m = m ∧ (∀ k, k < m → f k = (g.fr k : Int)) ∧ (∀ k, k < m → t k = (g.to k : Int)) ∧ g.cp = cp ∧ g.left = g.fr ri ∧ g.right = g.to ri :=
      ⟨⟨n, m, fun k => (f k).toNat, fun k => (t k).toNat, cp, (f ri).toNat, (t ri).toNat⟩, rfl, rfl, fun k hk => (Int.toNat_of_nonneg (hall k hk).1).symm, fun k hk => (Int.toNat_of_nonneg (hall k hk).2.2.1).symm, rfl, rfl, rfl⟩
    subst hgn hgm hgc
    have hfr : ∀ k, k < g.m → g.fr k < g.n := fun k hk => by have := hall k hk; have := hgf k hk; omega
    have hto : ∀ k, k < g.m → g.to k < g.n := fun k hk => by have := hall k hk; have := hgt k hk; omega
    have hok : g.Ok := ⟨hfr, hto, hgl ▸ hfr ri hrm, hgr ▸ hto ri hrm⟩
    have HLi : Hid (Lists w3 g pr w'.heap.size 0 g.n bp op cpp be oe ce) := ⟨hok, hnl, hml, Nat.le_refl _, hp1, he1, HCM.out, fun u hu => cell_below hnx2 (hpcell u hu), fun k hk => by rw [← hgf k hk]; exact cell_below hnx2 (HEC.out k hk).1, fun k hk => by rw [← hgt k hk]; exact cell_below hnx2 (HEC.out k hk).2⟩
    have HGL : Hid (g.left = g.fr ri ∧ g.right = g.to ri) := ⟨hgl, hgr⟩
    clear hall hpcell hgf hgt hfr hto hok HCM HEC HP3 HE0 hgl hgr
    go_wp2_with (go_at_call 7; refine Calls.mono (nodes_any _ g.n hnl) ?_; rintro e w4 ⟨rfl, ⟨D, hN⟩, hb4⟩)
    have HM0 : Hid (Marked w4 pr w3.heap.size D g.n 0) := hN.marked pr
    clear hN
    go_loopg [12] g.n (fun gi v12 wr => ∃ i : Nat, i ≤ g.n ∧ gi = g.n - i ∧ v12 = .int .i64 i ∧ Hid (Marked wr pr w3.heap.size D g.n i) ∧ Below w3.heap.size w3 wr)
    case atStart => exact ⟨0, by omega, rfl, rfl, HM0, hb4⟩
    case round =>
      clear HM0 hb4
      obtain ⟨i, hin, hgi, rfl, hM, hb⟩ := hrel
      by_cases hlt : i < g.n
      · have m1 := hM.out.ptr i hlt
        unfold pt at m1
        have m2 := (HLi.out.below hb).prot i hlt
        obtain ⟨m3, m4⟩ := hM.out.prot i hlt
        generalize (if i < i then pr i else false) = old at m3
        go_wp2_with fail
        go_region
        go_wp2
        go_roundg (g.n - (i + 1))
        case rel =>
          have hDlt := hM.out.lt
          exact ⟨i + 1, by omega, rfl, by go_num, (hM.out.next hlt).drew, (hb.setCell (show w3.heap.size ≤ D + i by omega) _).drew⟩
        case measure => omega
      · obtain rfl : i = g.n := by omega
        obtain ⟨wm, hwm⟩ : ∃ wm, wm = wr := ⟨_, rfl⟩
        subst hwm
        obtain ⟨i5, hi5, hy0, hy1, hy2⟩ := info_parts info51
        obtain ⟨i4, hi4, hx0, hx1, hx2⟩ := info_parts info42
        obtain ⟨i9, hi9, hw0, hw1, hw2⟩ := info_parts info59
        have hsz := hM.out.size
        have HSZ : Hid (wm.heap.size = D + g.n) := hsz
        clear hsz
        go_wp2_with (at_make; refine wpList_make_full _ rfl _ _ 47 rfl wm.heap.size 51 i5 (.pointer none) 1 Try.underlying47 hi5 hy0 hy1 _ _ _ _ g.m rfl rfl rfl rfl ?b2 ?b3 (Nat.le_refl _) ?_)
        case b2 => first | omega | (rw [hy2]; omega)
        case b3 => unfold maxLen; omega
        intro w6 hown6 hgrow6
        have HO6 : Hid (w6.ownsRow wm.heap.size 51 1 (.slice (some ⟨wm.heap.size, 0, none⟩) g.m g.m) g.m (madeCells #[Value.pointer none] g.m).toList) := by
          show w6.ownsRow _ _ _ _ _ _
          simpa using hown6
        have hR6 : wm.heap.size < w6.heap.size := (hown6.lt _ rfl).2
        clear hown6
        go_wp2_with (at_make; refine wpList_make_full _ rfl _ _ 48 rfl w6.heap.size 42 i4 (.slice none 0 0) 1 Try.underlying48 hi4 hx0 hx1 _ _ _ _ g.n rfl rfl rfl rfl ?d2 ?d3 (Nat.le_refl _) ?_)
        case d2 => first | omega | (rw [hx2]; omega)
        case d3 => unfold maxLen; omega
        intro w7 hown7 hgrow7
        have HO7 : w7.ownsRow w6.heap.size 42 1 (.slice (some ⟨w6.heap.size, 0, none⟩) g.n g.n) g.n (madeCells #[Value.slice none 0 0] g.n).toList := by simpa using hown7
        have HB0 : Hid (Built g D wm.heap.size w6.heap.size w7.heap.size w7 w7 0 (fun _ => 0) (fun _ => .slice none 0 0)) := Built.start HO6.out HO7 hgrow7 hR6
        have hb6 : Below w3.heap.size w3 w6 := hb.grown hgrow6 hb.size (fun k h => by cases h)
        have hb7 : Below w3.heap.size w3 w7 := hb6.grown hgrow7 hb6.size (fun k h => by cases h)
        have HWM : Hid (∀ b, b < D + g.n → w7.heap[b]? = wm.heap[b]?) := fun b hb' => by
          have e := HSZ.out
          rw [hgrow7.block b (by omega) (fun e => by cases e), hgrow6.block b (by omega) (fun e => by cases e)]
        clear hown7 HO7 hgrow7 hgrow6 HO6 hb6
        go_wp2
        go_loopg [15] g.m (fun gk v15 wr => ∃ (k : Nat) (rb : Nat → Nat) (sv : Nat → Value), k ≤ g.m ∧ gk = g.m - k ∧ v15 = .int .i64 k ∧ Hid (Built g D wm.heap.size w6.heap.size w7.heap.size w7 wr k rb sv) ∧ Below w3.heap.size w3 wr)
        case atStart => exact ⟨0, _, _, by omega, rfl, rfl, HB0, hb7⟩
        case round =>
          clear HB0 hb7 hb
          obtain ⟨k, rb, sv, hkm', hgk, rfl, hBu, hb⟩ := hrel
          have hDN := hM.out.lt
          have e7 := hBu.out.hA
          have e5 := hBu.out.hR
          have e6 := hBu.out.size
          by_cases hkm : k < g.m
          · have L := HLi.out.below hb
            have f1 := L.efr k hkm
            have f2 := L.eto k hkm
            have hfl := L.ok.fr_lt k hkm
            have htl := L.ok.to_lt k hkm
            have hptr : ∀ u, u < g.n → wr.cell? ⟨w3.heap.size, u, none⟩ = some (.pointer (some ⟨D + u, 0, none⟩)) := fun u hu => by
              have e := HSZ.out
              have blk : wr.heap[w3.heap.size]? = wm.heap[w3.heap.size]? := (hBu.out.old _ (by omega) (by omega) (by omega)).trans (HWM.out _ (by omega))
              exact (World.cell?_of_block (w := wm) (a := ⟨w3.heap.size, u, none⟩) blk).trans (hM.out.ptr u hu)
            have x1 := hptr _ hfl
            have x2 := hptr _ htl
            obtain ⟨x, hx⟩ := Option.isSome_iff_exists.1 (hBu.out.rsr k hkm).1
            have hf := (hBu.out.rsr k hkm).2
            have hRs : wm.heap.size < wr.heap.size := lt_of_cell hx
            have hx' : ∀ o, (wr.alloc o).cell? ⟨wm.heap.size, k, none⟩ = some x := fun o => (World.cell?_of_block (Below.heap_alloc _ _ _ hRs)).trans hx
            have hf' : ∀ o, (wr.alloc o).frozen? ⟨wm.heap.size, k, none⟩ = false := fun o => (World.frozen?_of_block (Below.heap_alloc _ _ _ hRs)).trans hf
            clear L hptr hx hf
            go_wp2_with fail
            refine gen_world _ ?_
            intro wa hwa
            obtain ⟨rc, r7, r8, hwa'⟩ : ∃ rc : Array Value, rc[7]? = some (pt (D + g.fr k)) ∧ rc[8]? = some (pt (D + g.to k)) ∧ wa = (wr.setCell ⟨wm.heap.size, k, none⟩ (pt wr.heap.size)).alloc (.cells rc 57) := ⟨_, rfl, rfl, hwa⟩
            have HWA : Hid (rc[7]? = some (pt (D + g.fr k)) ∧ rc[8]? = some (pt (D + g.to k)) ∧ wa = (wr.setCell ⟨wm.heap.size, k, none⟩ (pt wr.heap.size)).alloc (.cells rc 57)) := ⟨r7, r8, hwa'⟩
            have eD := HSZ.out
            have lbe : be < w3.heap.size := lt_of_cell (HLi.out.efr k hkm)
            have hsa : wa.heap.size = wr.heap.size + 1 := by rw [hwa']; simp
            have hlt' := hBu.out.hRA
            have far : ∀ b, b < wr.heap.size → b ≠ wm.heap.size → wa.heap[b]? = wr.heap[b]? := fun b hb' hne => by
              rw [hwa', Below.heap_alloc _ _ _ (by simp; omega), Below.heap_setCell _ _ _ _ hne]
            have s1 : wa.cell? ⟨be, oe + k * 2, none⟩ = some (.int .i64 (g.fr k : Nat)) := (World.cell?_of_block (w := wr) (a := ⟨be, oe + k * 2, none⟩) (far be (by omega) (by omega))).trans f1
            have s2 : wa.cell? ⟨w6.heap.size, g.fr k, none⟩ = some (sv (g.fr k)) := (World.cell?_of_block (w := wr) (a := ⟨w6.heap.size, g.fr k, none⟩) (far w6.heap.size (by omega) (by omega))).trans (hBu.out.aft _ hfl).1
            have s4 : wa.frozen? ⟨w6.heap.size, g.fr k, none⟩ = false := (World.frozen?_of_block (w := wr) (a := ⟨w6.heap.size, g.fr k, none⟩) (far w6.heap.size (by omega) (by omega))).trans (hBu.out.aft _ hfl).2
            have s3 : wa.cell? ⟨wm.heap.size, k, none⟩ = some (.pointer (some ⟨wr.heap.size, 0, none⟩)) := by
              obtain ⟨y, hy⟩ := Option.isSome_iff_exists.1 (hBu.out.rsr k hkm).1
              rw [hwa', World.cell?_of_block (w := wr.setCell ⟨wm.heap.size, k, none⟩ (pt wr.heap.size)) (a := ⟨wm.heap.size, k, none⟩) (Below.heap_alloc _ _ _ (by simp; omega)), World.cell?_setCell_same _ _ _ hy]
              rfl
            have hob := (hBu.out.own _ hfl).lt
            have hown_a : wa.ownsRow w7.heap.size 59 2 (sv (g.fr k)) (adjTo g k (g.fr k)).length (links g D rb (adjTo g k (g.fr k))) := owns_of_block (hBu.out.own _ hfl) (fun b hb' => far b (hob b hb').2 (by have := (hob b hb').1; omega))
            have ag : (sv (g.fr k)).ownBlock ≠ some be := fun e => by have := (hob _ e).1; omega
            have ak : (sv (g.fr k)).ownBlock ≠ some w6.heap.size := fun e => by have := (hob _ e).1; omega
            have av : (sv (g.fr k)).ownBlock ≠ some wm.heap.size := fun e => by have := (hob _ e).1; omega
            have hlen := adjTo_len g k (g.fr k)
            have lg : be < wa.heap.size := by omega
            have la : w6.heap.size < wa.heap.size := by omega
            have lr : wm.heap.size < wa.heap.size := by omega
            have lB : w7.heap.size ≤ wa.heap.size := by omega
            have q1 : (adjTo g k (g.fr k)).length + 1 ≤ maxLen := by unfold maxLen; omega
            have q2 : ((adjTo g k (g.fr k)).length + 1) * 16 ≤ 140737488355328 := by omega
            have HOA : Hid (wa.ownsRow w7.heap.size 59 2 (sv (g.fr k)) (adjTo g k (g.fr k)).length (links g D rb (adjTo g k (g.fr k)))) := hown_a
            have HOB := Hid.out (p := Hid _) hob
            have HFA : Hid (∀ o, ((wa.alloc o).drew).frozen? ⟨w6.heap.size, g.fr k, none⟩ = false) := fun o => (World.frozen?_of_block (w := wa) (a := ⟨w6.heap.size, g.fr k, none⟩) (Below.heap_alloc _ _ _ la)).trans s4
            clear s4
            have HCA : Hid (∀ o, ((wa.alloc o).drew).cell? ⟨w6.heap.size, g.fr k, none⟩ = some (sv (g.fr k))) := fun o => (World.cell?_of_block (w := wa) (a := ⟨w6.heap.size, g.fr k, none⟩) (Below.heap_alloc _ _ _ la)).trans s2
            have s6 : ∀ o, (wa.alloc o).cell? ⟨w6.heap.size, g.fr k, none⟩ = some (sv (g.fr k)) := HCA.out
            have s5 : ∀ o, (wa.alloc o).cell? ⟨be, oe + k * 2, none⟩ = some (.int .i64 (g.fr k : Nat)) := fun o => (World.cell?_of_block (w := wa) (a := ⟨be, oe + k * 2, none⟩) (Below.heap_alloc _ _ _ lg)).trans s1
            have HSA : Hid (wa.heap.size = wr.heap.size + 1) := hsa
            have HEA : Hid (∀ o, ((wa.alloc o).drew).cell? ⟨be, oe + k * 2, none⟩ = some (.int .i64 (g.fr k : Nat))) := s5
            have neA : be ≠ w6.heap.size := by omega
            have neR : wm.heap.size ≠ w6.heap.size := hlt'
            have k0 : (0 : Int) ≤ (k : Int) := Int.natCast_nonneg _
            have k1 : (k : Int) < (g.m : Int) := by omega
            have k2 : (0 : Int) ≤ (g.fr k : Int) := Int.natCast_nonneg _
            have k3 : (g.fr k : Int) < (g.n : Int) := by omega
            clear hsa hwa hwa' r7 r8 hown_a hob far hx' hf' f1 f2 x1 x2 hRs eD
            have s7 : ∀ o, (wa.alloc o).cell? ⟨wm.heap.size, k, none⟩ = some (.pointer (some ⟨wr.heap.size, 0, none⟩)) := fun o => (World.cell?_of_block (w := wa) (a := ⟨wm.heap.size, k, none⟩) (Below.heap_alloc _ _ _ lr)).trans s3
            refine wp_region_held_drew (S := fun w' => w'.cell? ⟨be, oe + k * 2, none⟩ = some (.int .i64 (g.fr k : Nat)) ∧ w'.cell? ⟨wm.heap.size, k, none⟩ = some (.pointer (some ⟨wr.heap.size, 0, none⟩))) (by kernel_rfl) ⟨s1, s3⟩ (fun hHeld => ?_)
            refine wpAnyH_take (i := 0) (v := ?_) rfl (by kernel_rfl) (by kernel_rfl) (by kernel_rfl) (fun _ _ _ h => h) (Or.inl ⟨by rfl, ?_⟩) (by assumption) ?_
            rotate_left
            · intro w hSw
              obtain ⟨hSw1, hSw2⟩ := hSw
              go_simp
              first | done | with_reducible rfl
            try simp only [Act.put, List.setIfInBounds_toArray, List.set_cons_zero, List.set_cons_succ]
            refine wpAnyH_take (i := 1) (v := ?_) rfl (by kernel_rfl) (by kernel_rfl) (by kernel_rfl) (fun _ _ _ h => h) (Or.inl ⟨by rfl, ?_⟩) (by assumption) ?_
            rotate_left
            · intro w hSw
              obtain ⟨hSw1, hSw2⟩ := hSw
              go_simp
              first | done | with_reducible rfl
            try simp only [Act.put, List.setIfInBounds_toArray, List.set_cons_zero, List.set_cons_succ]
            refine wpAnyH_take (i := 2) (v := ?_) rfl (by kernel_rfl) (by kernel_rfl) (by kernel_rfl) (fun _ _ _ h => h) (Or.inl ⟨by rfl, ?_⟩) (by assumption) ?_
            rotate_left
            · intro w hSw
              obtain ⟨hSw1, hSw2⟩ := hSw
              go_simp
              first | done | with_reducible rfl
            try simp only [Act.put, List.setIfInBounds_toArray, List.set_cons_zero, List.set_cons_succ]
            refine wpAnyH_take (i := 3) (v := ?_) rfl (by kernel_rfl) (by kernel_rfl) (by kernel_rfl) (fun _ _ _ h => h) (Or.inl ⟨by rfl, ?_⟩) (by assumption) ?_
            rotate_left
            · intro w hSw
              obtain ⟨hSw1, hSw2⟩ := hSw
              go_simp
              first | done | with_reducible rfl
            try simp only [Act.put, List.setIfInBounds_toArray, List.set_cons_zero, List.set_cons_succ]
            refine wpAnyH_take (i := 4) (v := ?_) rfl (by kernel_rfl) (by kernel_rfl) (by kernel_rfl) (fun _ _ _ h => h) (Or.inl ⟨by rfl, ?_⟩) (by assumption) ?_
            rotate_left
            · intro w hSw
              obtain ⟨hSw1, hSw2⟩ := hSw
              go_simp
              first | done | with_reducible rfl
            try simp only [Act.put, List.setIfInBounds_toArray, List.set_cons_zero, List.set_cons_succ]
            refine wpAnyH_take (i := 5) (v := ?_) rfl (by kernel_rfl) (by kernel_rfl) (by kernel_rfl) (fun _ _ _ h => h) (Or.inl ⟨by rfl, ?_⟩) (by assumption) ?_
            rotate_left
            · intro w hSw
              obtain ⟨hSw1, hSw2⟩ := hSw
              go_simp
              first | done | with_reducible rfl
            try simp only [Act.put, List.setIfInBounds_toArray, List.set_cons_zero, List.set_cons_succ]
            refine wpAnyH_take (i := 6) (v := ?_) rfl (by kernel_rfl) (by kernel_rfl) (by kernel_rfl) (fun _ _ _ h => h) (Or.inl ⟨by rfl, ?_⟩) (by assumption) ?_
            rotate_left
            · intro w hSw
              obtain ⟨hSw1, hSw2⟩ := hSw
              go_simp
              first | done | with_reducible rfl
            try simp only [Act.put, List.setIfInBounds_toArray, List.set_cons_zero, List.set_cons_succ]
            refine wpAnyH_take (i := 7) (v := ?_) rfl (by kernel_rfl) (by kernel_rfl) (by kernel_rfl) (fun _ _ _ h => h) (Or.inl ⟨by rfl, ?_⟩) (by assumption) ?_
            rotate_left
            · intro w hSw
              obtain ⟨hSw1, hSw2⟩ := hSw
              go_simp
              first | done | with_reducible rfl
            try simp only [Act.put, List.setIfInBounds_toArray, List.set_cons_zero, List.set_cons_succ]
            refine wpAnyH_take (i := 8) (v := ?_) rfl (by kernel_rfl) (by kernel_rfl) (by kernel_rfl) (fun _ _ _ h => h) (Or.inl ⟨by rfl, ?_⟩) (by assumption) ?_
            rotate_left
            · intro w hSw
              obtain ⟨hSw1, hSw2⟩ := hSw
              go_simp
              first | done | with_reducible rfl
            try simp only [Act.put, List.setIfInBounds_toArray, List.set_cons_zero, List.set_cons_succ]
            refine wpAnyH_take (i := 9) (v := ?_) rfl (by kernel_rfl) (by kernel_rfl) (by kernel_rfl) (fun _ _ _ h => h) (Or.inl ⟨by rfl, ?_⟩) (by assumption) ?_
            rotate_left
            · intro w hSw
              obtain ⟨hSw1, hSw2⟩ := hSw
              go_simp
              first | done | with_reducible rfl
            try simp only [Act.put, List.setIfInBounds_toArray, List.set_cons_zero, List.set_cons_succ]
            refine wpAnyH_take (i := 10) (v := ?_) rfl (by kernel_rfl) (by kernel_rfl) (by kernel_rfl) (fun _ _ _ h => h) (Or.inl ⟨by rfl, ?_⟩) (by assumption) ?_
            rotate_left
            · intro w hSw
              obtain ⟨hSw1, hSw2⟩ := hSw
              go_simp
              first | done | with_reducible rfl
            try simp only [Act.put, List.setIfInBounds_toArray, List.set_cons_zero, List.set_cons_succ]
            refine wpAnyH_take (i := 11) (v := ?_) rfl (by kernel_rfl) (by kernel_rfl) (by kernel_rfl) (fun _ _ _ h => h) (Or.inl ⟨by rfl, ?_⟩) (by assumption) ?_
            rotate_left
            · intro w hSw
              obtain ⟨hSw1, hSw2⟩ := hSw
              go_simp
              first | done | with_reducible rfl
            try simp only [Act.put, List.setIfInBounds_toArray, List.set_cons_zero, List.set_cons_succ]
            refine wpAnyH_take (i := 12) (v := ?_) rfl (by kernel_rfl) (by kernel_rfl) (by kernel_rfl) (fun _ _ _ h => h) (Or.inl ⟨by rfl, ?_⟩) (by assumption) ?_
            rotate_left
            · intro w hSw
              obtain ⟨hSw1, hSw2⟩ := hSw
              go_simp
              first | done | with_reducible rfl
            try simp only [Act.put, List.setIfInBounds_toArray, List.set_cons_zero, List.set_cons_succ]
            refine wpAnyH_take (i := 14) (v := ?_) rfl (by kernel_rfl) (by kernel_rfl) (by kernel_rfl) (fun _ _ _ h => h) (Or.inl ⟨by rfl, ?_⟩) (by assumption) ?_
            rotate_left
            · intro w hSw
              obtain ⟨hSw1, hSw2⟩ := hSw
              go_simp
              first | done | with_reducible rfl
            try simp only [Act.put, List.setIfInBounds_toArray, List.set_cons_zero, List.set_cons_succ]
            refine wpAnyH_take (i := 15) (v := ?_) rfl (by kernel_rfl) (by kernel_rfl) (by kernel_rfl) (fun _ _ _ h => h) (Or.inl ⟨by rfl, ?_⟩) (by assumption) ?_
            rotate_left
            · intro w hSw
              obtain ⟨hSw1, hSw2⟩ := hSw
              go_simp
              first | done | with_reducible rfl
            try simp only [Act.put, List.setIfInBounds_toArray, List.set_cons_zero, List.set_cons_succ]
            refine wpAnyH_take (i := 16) (v := ?_) rfl (by kernel_rfl) (by kernel_rfl) (by kernel_rfl) (fun _ _ _ h => h) (Or.inl ⟨by rfl, ?_⟩) (by assumption) ?_
            rotate_left
            · intro w hSw
              obtain ⟨hSw1, hSw2⟩ := hSw
              go_simp
              first | done | with_reducible rfl
            try simp only [Act.put, List.setIfInBounds_toArray, List.set_cons_zero, List.set_cons_succ]
            refine wpAnyH_take (i := 17) (v := ?_) rfl (by kernel_rfl) (by kernel_rfl) (by kernel_rfl) (fun _ _ _ h => h) (Or.inl ⟨by rfl, ?_⟩) (by assumption) ?_
            rotate_left
            · intro w hSw
              obtain ⟨hSw1, hSw2⟩ := hSw
              go_simp
              first | done | with_reducible rfl
            try simp only [Act.put, List.setIfInBounds_toArray, List.set_cons_zero, List.set_cons_succ]
            refine wpAnyH_take (i := 18) (v := ?_) rfl (by kernel_rfl) (by kernel_rfl) (by kernel_rfl) (fun _ _ _ h => h) (Or.inl ⟨by rfl, ?_⟩) (by assumption) ?_
            rotate_left
            · intro w hSw
              obtain ⟨hSw1, hSw2⟩ := hSw
              go_simp
              first | done | with_reducible rfl
            try simp only [Act.put, List.setIfInBounds_toArray, List.set_cons_zero, List.set_cons_succ]
            refine wpAnyH_take (i := 19) (v := ?_) rfl (by kernel_rfl) (by kernel_rfl) (by kernel_rfl) (fun _ _ _ h => h) (Or.inl ⟨by rfl, ?_⟩) (by assumption) ?_
            rotate_left
            · intro w hSw
              obtain ⟨hSw1, hSw2⟩ := hSw
              go_simp
              first | done | with_reducible rfl
            try simp only [Act.put, List.setIfInBounds_toArray, List.set_cons_zero, List.set_cons_succ]
            refine wpAnyH_ready (rs := [13, 20]) (by kernel_rfl) (by simp) ?_
            refine AllReadyH.cons rfl (fun K hK => ?_) (AllReadyH.cons rfl (fun K hK => ?_) AllReadyH.nil)
            · go_simp
              refine hK.out _ _ hHeld (fun hHeld => ?_)
              clear hK K
              try simp only [Act.put, List.setIfInBounds_toArray, List.set_cons_zero, List.set_cons_succ]
              refine wpAnyH_ready (rs := [20]) (by kernel_rfl) (by simp) ?_
              refine AllReadyH.cons rfl (fun K hK => ?_) AllReadyH.nil
              go_simp
              refine hK.out _ _ ⟨s5 _, s7 _⟩ (fun hHeld => ?_)
              clear hK K
              try simp only [Act.put, List.setIfInBounds_toArray, List.set_cons_zero, List.set_cons_succ]
              refine wpAnyH_ready (rs := [21]) (by kernel_rfl) (by simp) ?_
              refine AllReadyH.cons rfl (fun K hK => ?_) AllReadyH.nil
              refine step_append_lies _ (by rfl) _ _ _ (by rfl) w7.heap.size 59 i9 _ 2 16 Try.underlying42 hi9 hw0 hw1 hw2 rfl (by omega) (sv (g.fr k)) (adjTo g k (g.fr k)).length (links g D rb (adjTo g k (g.fr k))) (by rfl) ((HOA.out.alloc _).drew) ⟨wa.heap.size, 0, none⟩ 1 1 [.pointer (some ⟨D + g.to k, 0, none⟩), .pointer (some ⟨wr.heap.size, 0, none⟩)] (by rfl) (by rfl) (World.news_of_block (cs := #[.pointer (some ⟨D + g.to k, 0, none⟩), .pointer (some ⟨wr.heap.size, 0, none⟩)]) (t := 59) (fr := (0, 0)) (heap_alloc_new wa _)) (by simp [Value.oneCell']) (by omega) q1 q2 (by simp; omega) (wa.heap.size + 1) (by simp) ?_
              intro gg cap w1 hown1 hgrow hat hlt
              have hfz : w1.frozen? ⟨w6.heap.size, g.fr k, none⟩ = false := (hgrow.frozen_far _ (by simp; omega) (Ne.symm ak)).trans (HFA.out _)
              have hcz : w1.cell? ⟨w6.heap.size, g.fr k, none⟩ = some (sv (g.fr k)) := (hgrow.cell_far _ (by simp; omega) (Ne.symm ak)).trans (HCA.out _)
              have hez : w1.cell? ⟨be, oe + k * 2, none⟩ = some (.int .i64 (g.fr k : Nat)) := (hgrow.cell_far _ (by simp; omega) (Ne.symm ag)).trans (HEA.out _)
              have hrz : w1.cell? ⟨wm.heap.size, k, none⟩ = some (.pointer (some ⟨wr.heap.size, 0, none⟩)) := (hgrow.cell_far _ (by simp; omega) (Ne.symm av)).trans (s7 _)
              refine hK.out _ _ ⟨hez, hrz⟩ (fun hHeld => ?_)
              clear hK K
              try simp only [Act.put, List.setIfInBounds_toArray, List.set_cons_zero, List.set_cons_succ]
              refine wpAnyH_take (i := 22) (v := ?_) rfl (by kernel_rfl) (by kernel_rfl) (by kernel_rfl) (fun _ _ _ h => h) (Or.inl ⟨by rfl, ?_⟩) (by assumption) ?_
              rotate_left
              · intro w hSw
                obtain ⟨hSw1, hSw2⟩ := hSw
                go_simp
                first | done | with_reducible rfl
              try simp only [Act.put, List.setIfInBounds_toArray, List.set_cons_zero, List.set_cons_succ]
              refine wpAnyH_ready (rs := [23]) (by kernel_rfl) (by simp) ?_
              refine AllReadyH.cons rfl (fun K hK => ?_) AllReadyH.nil
              go_simp
              refine hK.out _ _ ⟨?_, ?_⟩ (fun hHeld => ?_)
              · rw [World.cell?_setCell_far _ _ _ _ (Ne.symm neA)]; exact hez
              · rw [World.cell?_setCell_far _ _ _ _ (Ne.symm neR)]; exact hrz
              refine wpAnyH_done (by kernel_rfl) ?_ _
              clear hK K
              try simp only [Act.put, List.setIfInBounds_toArray, List.set_cons_zero, List.set_cons_succ]
              go_wp2
              go_roundg (g.m - (k + 1))
              case rel =>
                obtain ⟨r7, r8, hwa⟩ := HWA.out
                have eD := HSZ.out
                have hg' : (((wr.setCell ⟨wm.heap.size, k, none⟩ (pt wr.heap.size)).alloc (.cells rc 57)).alloc (.cells #[.pointer (some ⟨D + g.to k, 0, none⟩), .pointer (some ⟨wr.heap.size, 0, none⟩)] 59)).grownBy w1 (sv (g.fr k)).ownBlock := by
                  rw [← hwa]
                  exact ⟨hgrow.os, hgrow.tape, hgrow.output, hgrow.size, hgrow.block⟩
                have hba : Below w3.heap.size w3 wa := by
                  rw [hwa]
                  exact (hb.setCell (show w3.heap.size ≤ wm.heap.size by omega) _).alloc (by simp; omega) _
                have hbb : Below w3.heap.size w3 w1 := by
                  rw [hwa] at hba
                  exact (hba.alloc hba.size _).grown hg' (by simp; omega) (fun b hb' => by have := (HOB.out b hb').1; omega)
                refine ⟨k + 1, _, _, by omega, rfl, by go_num, hBu.out.step hkm HLi.out.ok r7 r8 hg' hown1 rfl ?_, hbb.setCell (show w3.heap.size ≤ w6.heap.size by omega) _⟩
                rcases hat with hat | hat
                · exact .inl hat
                · exact .inr (by rw [hat, HSA.out])
              case measure => omega
            · go_simp
              refine hK.out _ _ ⟨s5 _, s7 _⟩ (fun hHeld => ?_)
              clear hK K
              try simp only [Act.put, List.setIfInBounds_toArray, List.set_cons_zero, List.set_cons_succ]
              refine wpAnyH_ready (rs := [13]) (by kernel_rfl) (by simp) ?_
              refine AllReadyH.cons rfl (fun K hK => ?_) AllReadyH.nil
              go_simp
              refine hK.out _ _ hHeld (fun hHeld => ?_)
              clear hK K
              try simp only [Act.put, List.setIfInBounds_toArray, List.set_cons_zero, List.set_cons_succ]
              refine wpAnyH_ready (rs := [21]) (by kernel_rfl) (by simp) ?_
              refine AllReadyH.cons rfl (fun K hK => ?_) AllReadyH.nil
              refine step_append_lies _ (by rfl) _ _ _ (by rfl) w7.heap.size 59 i9 _ 2 16 Try.underlying42 hi9 hw0 hw1 hw2 rfl (by omega) (sv (g.fr k)) (adjTo g k (g.fr k)).length (links g D rb (adjTo g k (g.fr k))) (by rfl) ((HOA.out.alloc _).drew) ⟨wa.heap.size, 0, none⟩ 1 1 [.pointer (some ⟨D + g.to k, 0, none⟩), .pointer (some ⟨wr.heap.size, 0, none⟩)] (by rfl) (by rfl) (World.news_of_block (cs := #[.pointer (some ⟨D + g.to k, 0, none⟩), .pointer (some ⟨wr.heap.size, 0, none⟩)]) (t := 59) (fr := (0, 0)) (heap_alloc_new wa _)) (by simp [Value.oneCell']) (by omega) q1 q2 (by simp; omega) (wa.heap.size + 1) (by simp) ?_
              intro gg cap w1 hown1 hgrow hat hlt
              have hfz : w1.frozen? ⟨w6.heap.size, g.fr k, none⟩ = false := (hgrow.frozen_far _ (by simp; omega) (Ne.symm ak)).trans (HFA.out _)
              have hcz : w1.cell? ⟨w6.heap.size, g.fr k, none⟩ = some (sv (g.fr k)) := (hgrow.cell_far _ (by simp; omega) (Ne.symm ak)).trans (HCA.out _)
              have hez : w1.cell? ⟨be, oe + k * 2, none⟩ = some (.int .i64 (g.fr k : Nat)) := (hgrow.cell_far _ (by simp; omega) (Ne.symm ag)).trans (HEA.out _)
              have hrz : w1.cell? ⟨wm.heap.size, k, none⟩ = some (.pointer (some ⟨wr.heap.size, 0, none⟩)) := (hgrow.cell_far _ (by simp; omega) (Ne.symm av)).trans (s7 _)
              refine hK.out _ _ ⟨hez, hrz⟩ (fun hHeld => ?_)
              clear hK K
              try simp only [Act.put, List.setIfInBounds_toArray, List.set_cons_zero, List.set_cons_succ]
              refine wpAnyH_take (i := 22) (v := ?_) rfl (by kernel_rfl) (by kernel_rfl) (by kernel_rfl) (fun _ _ _ h => h) (Or.inl ⟨by rfl, ?_⟩) (by assumption) ?_
              rotate_left
              · intro w hSw
                obtain ⟨hSw1, hSw2⟩ := hSw
                go_simp
                first | done | with_reducible rfl
              try simp only [Act.put, List.setIfInBounds_toArray, List.set_cons_zero, List.set_cons_succ]
              refine wpAnyH_ready (rs := [23]) (by kernel_rfl) (by simp) ?_
              refine AllReadyH.cons rfl (fun K hK => ?_) AllReadyH.nil
              go_simp
              refine hK.out _ _ ⟨?_, ?_⟩ (fun hHeld => ?_)
              · rw [World.cell?_setCell_far _ _ _ _ (Ne.symm neA)]; exact hez
              · rw [World.cell?_setCell_far _ _ _ _ (Ne.symm neR)]; exact hrz
              refine wpAnyH_done (by kernel_rfl) ?_ _
              clear hK K
              try simp only [Act.put, List.setIfInBounds_toArray, List.set_cons_zero, List.set_cons_succ]
              go_wp2
              go_roundg (g.m - (k + 1))
              case rel =>
                obtain ⟨r7, r8, hwa⟩ := HWA.out
                have eD := HSZ.out
                have hg' : (((wr.setCell ⟨wm.heap.size, k, none⟩ (pt wr.heap.size)).alloc (.cells rc 57)).alloc (.cells #[.pointer (some ⟨D + g.to k, 0, none⟩), .pointer (some ⟨wr.heap.size, 0, none⟩)] 59)).grownBy w1 (sv (g.fr k)).ownBlock := by
                  rw [← hwa]
                  exact ⟨hgrow.os, hgrow.tape, hgrow.output, hgrow.size, hgrow.block⟩
                have hba : Below w3.heap.size w3 wa := by
                  rw [hwa]
                  exact (hb.setCell (show w3.heap.size ≤ wm.heap.size by omega) _).alloc (by simp; omega) _
                have hbb : Below w3.heap.size w3 w1 := by
                  rw [hwa] at hba
                  exact (hba.alloc hba.size _).grown hg' (by simp; omega) (fun b hb' => by have := (HOB.out b hb').1; omega)
                refine ⟨k + 1, _, _, by omega, rfl, by go_num, hBu.out.step hkm HLi.out.ok r7 r8 hg' hown1 rfl ?_, hbb.setCell (show w3.heap.size ≤ w6.heap.size by omega) _⟩
                rcases hat with hat | hat
                · exact .inl hat
                · exact .inr (by rw [hat, HSA.out])
              case measure => omega
          · obtain rfl : k = g.m := by omega
            have eD := HSZ.out
            have HMem : Hid (Mem wr g pr (fun u => D + u) rb w'.heap.size 0 g.n w6.heap.size) := hBu.out.mem hM.out HWM.out (by omega) (by omega) (HLi.out.below hb)
            have hrs1 := hBu.out.rsp ri hrm
            unfold pt at hrs1
            obtain ⟨hgl, hgr⟩ := HGL.out
            obtain ⟨d, hd⟩ := g.exists_dist
            have HLr : Hid (Lists wr g pr w'.heap.size 0 g.n bp op cpp be oe ce) := HLi.out.below hb
            have hnone : (¬ Asked g pr ∨ d g.right < 0) → Calls Try.prog 15 #[.pointer (some ⟨rb ri, 0, none⟩), .slice (some ⟨w'.heap.size, 0, none⟩) g.n g.n, .slice (some ⟨w6.heap.size, 0, none⟩) g.n g.n] wr (fun e w2 => ∃ v, e = .returned v ∧ (v = .slice none 0 0 ∧ Below wr.heap.size wr w2)) := fun h => zz_any (by
              by_cases hp : pr g.left = true ∧ pr g.right = true ∧ g.cp g.left = g.cp g.right
              · refine (circle_yes wr g pr _ rb _ 0 g.n _ ri HMem.out hrm hgl hgr hp d hd).mono ?_
                rintro e w2 ⟨hb2, h2⟩
                rcases h2 with ⟨_, rfl⟩ | ⟨hne, h0, _⟩
                · exact ⟨_, rfl, rfl, hb2⟩
                · rcases h with h | h
                  · exact absurd ⟨hp.1, hp.2.1, hp.2.2, hne⟩ h
                  · omega
              · refine (circle_no wr g pr _ rb _ 0 g.n _ ri HMem.out hrm hgl hgr hp).mono ?_
                rintro e w2 ⟨rfl, hb2⟩
                exact ⟨_, rfl, rfl, hb2⟩)
            have hmod0 : (¬ Asked g pr ∨ d g.right < 0) → ∀ w2, Below wr.heap.size wr w2 → Calls Try.prog 16 #[.slice (some ⟨w'.heap.size, 0, none⟩) g.n g.n, .slice (some ⟨bp, op, none⟩) g.n cpp, .slice (some ⟨be, oe, none⟩) g.m ce, .int .i64 ri] w2 (fun e w4 => e = .returned (.tuple #[.slice none 0 0, .bool false]) ∧ Below w2.heap.size w2 w4) := fun h w2 hb2 => by
              by_cases ha : Asked g pr
              · refine (model_yes w2 g pr _ 0 g.n bp op cpp be oe ce ri (HLr.out.below hb2) hrm hgl hgr ha d hd).mono ?_
                rintro e w4 ⟨hb4, h4⟩
                rcases h4 with ⟨_, rfl⟩ | ⟨h0, _⟩
                · exact ⟨rfl, hb4⟩
                · rcases h with h | h
                  · exact absurd ha h
                  · omega
              · refine (model_no w2 g pr _ 0 g.n bp op cpp be oe ce ri (HLr.out.below hb2) hrm hgl hgr ha).mono ?_
                rintro e w4 ⟨rfl, q, rfl⟩
                exact ⟨rfl, below_drewN (Below.refl _ _) _⟩
            clear eD
            have hbw : Below w'.heap.size w' wr := hnx2.trans (hb.mono hnx2.size)
            by_cases hcase : ¬ Asked g pr ∨ d g.right < 0
            · have hA := hnone hcase
              have hB := hmod0 hcase
              have hq := fun (w : World) => run_eql_nil_slice (P := Try.prog) w 47 51 none 0 0 0 0 Try.underlying47
              clear hnone hmod0 hcase hd
              go_wp2_with (first | (go_at_call 15; refine Calls.mono hA ?_; rintro e w2 ⟨v, rfl, rfl, hb2⟩) | (go_at_call 16; refine Calls.mono (hB _ hb2) ?_; rintro e w4 ⟨rfl, hb4⟩))
              go_ret
              exact ⟨rfl, hbw.trans ((hb2.mono hbw.size).trans (hb4.mono (Nat.le_trans hbw.size hb2.size)))⟩
            · have ha : Asked g pr := Classical.byContradiction fun h => hcase (.inl h)
              have h0 : 0 ≤ d g.right := by
                rcases Int.lt_or_le (d g.right) 0 with h | h
                · exact absurd (.inr h) hcase
                · exact h
              obtain ⟨a0, ha0⟩ := Int.eq_ofNat_of_zero_le h0
              obtain ⟨ks, hG, hlen⟩ := hd.greedy a0 g.right ha0
              have hTn := hd.lt HLr.out.ok HLr.out.ok.right_lt
              have hT : ks.length < 16384 := by omega
              have HKS : Hid (∀ i, i < ks.length + 1 → (ri :: ks).getD i 0 < g.m) := fun i hi => by
                cases i with
                | zero => exact hrm
                | succ i => exact (hG.at i (by omega)).1.1.1
              have hA : Calls Try.prog 15 #[.pointer (some ⟨rb ri, 0, none⟩), .slice (some ⟨w'.heap.size, 0, none⟩) g.n g.n, .slice (some ⟨w6.heap.size, 0, none⟩) g.n g.n] wr (fun e w2 => ∃ v, e = .returned v ∧ (∃ q off cap, v = .slice (some ⟨q, off, none⟩) (ks.length + 1) cap ∧ ks.length + 1 ≤ cap ∧ Below wr.heap.size wr w2 ∧ ∀ i, i < ks.length + 1 → w2.cell? ⟨q, off + i, none⟩ = some (pt (rb ((ri :: ks).getD i 0))))) := zz_any (by
                refine (circle_yes wr g pr _ rb _ 0 g.n _ ri HMem.out hrm hgl hgr ⟨ha.1, ha.2.1, ha.2.2.1⟩ d hd).mono ?_
                rintro e w2 ⟨hb2, h2⟩
                rcases h2 with ⟨h3, rfl⟩ | ⟨_, _, ks', q, off, cap, hG', rfl, h4, _, h5⟩
                · rcases h3 with h3 | h3
                  · exact absurd h3 ha.2.2.2
                  · omega
                · obtain rfl := hG.unique hG'
                  exact ⟨_, rfl, q, off, cap, rfl, h4, hb2, h5⟩)
              have hB : ∀ w2, Below wr.heap.size wr w2 → Calls Try.prog 16 #[.slice (some ⟨w'.heap.size, 0, none⟩) g.n g.n, .slice (some ⟨bp, op, none⟩) g.n cpp, .slice (some ⟨be, oe, none⟩) g.m ce, .int .i64 ri] w2 (fun e w4 => ∃ b o cap, e = .returned (.tuple #[.slice (some ⟨b, o, none⟩) (ks.length + 1) cap, .bool true]) ∧ ks.length + 1 ≤ cap ∧ Below w2.heap.size w2 w4 ∧ ∀ i, i < ks.length + 1 → w4.cell? ⟨b, o + i, none⟩ = some (.int .i64 ((ri :: ks).getD i 0 : Nat))) := fun w2 hb2 => by
                refine (model_yes w2 g pr _ 0 g.n bp op cpp be oe ce ri (HLr.out.below hb2) hrm hgl hgr ha d hd).mono ?_
                rintro e w4 ⟨hb4, h4⟩
                rcases h4 with ⟨h5, _⟩ | ⟨_, ks', v, hG', rfl, h6⟩
                · omega
                · obtain rfl := hG.unique hG'
                  obtain ⟨a, cap, rfl, h7, _, _, h8⟩ := h6
                  obtain ⟨b, o, rfl, h9⟩ := h8 (by omega)
                  exact ⟨b, o, cap, rfl, h7, hb4, h9⟩
              have HRS : Hid (∀ j, j < g.m → wr.cell? ⟨wm.heap.size, j, none⟩ = some (pt (rb j))) := hBu.out.rsp
              have hneq := neq51_same
              clear hnone hmod0 hcase hd hG hlen ha0 hTn
              go_wp2_with (first | (go_at_call 15; refine Calls.mono hA ?_; rintro e w2 ⟨v, rfl, q, off, cap, rfl, h1, hb2, hc2⟩) | (go_at_call 16; refine Calls.mono (hB _ hb2) ?_; rintro e w4 ⟨b, o, cap', rfl, h3, hb4, hc4⟩))
              have HC2 : Hid (∀ i, i < ks.length + 1 → w4.cell? ⟨q, off + i, none⟩ = some (pt (rb ((ri :: ks).getD i 0)))) := fun i hi => cell_below hb4 (hc2 i hi)
              have HC4 : Hid (∀ i, i < ks.length + 1 → w4.cell? ⟨b, o + i, none⟩ = some (.int .i64 ((ri :: ks).getD i 0 : Nat))) := hc4
              have HR4 : Hid (∀ j, j < g.m → w4.cell? ⟨wm.heap.size, j, none⟩ = some (pt (rb j))) := fun j hj => cell_below hb4 (cell_below hb2 (HRS.out j hj))
              have hbE : Below w'.heap.size w' w4 := hbw.trans ((hb2.mono hbw.size).trans (hb4.mono (Nat.le_trans hbw.size hb2.size)))
              clear hc2 hc4 hA hB hb2 hb4 HRS HMem HLr hrs1
              go_loopg [21] (ks.length + 1) (fun gi v21 wr5 => ∃ i : Nat, i ≤ ks.length + 1 ∧ gi = ks.length + 1 - i ∧ v21 = .int .i64 i ∧ Below w4.heap.size w4 wr5)
              case atStart => exact ⟨0, by omega, rfl, rfl, Below.refl _ _⟩
              case round =>
                obtain ⟨i, hik, hgi, rfl, hb5⟩ := hrel
                by_cases hlt : i < ks.length + 1
                · have n1 := cell_below hb5 (HC2.out i hlt)
                  have n2 := cell_below hb5 (HC4.out i hlt)
                  have n3 := HKS.out i hlt
                  generalize (ri :: ks).getD i 0 = K at n1 n2 n3
                  have n4 := cell_below hb5 (HR4.out K n3)
                  unfold pt at n1 n4
                  have n5 := hneq (rb K)
                  go_wp2_with fail
                  go_quiet (fail)
                  go_wp2
                  go_roundg (ks.length + 1 - (i + 1))
                  case rel => exact ⟨i + 1, by omega, rfl, by go_num, below_drewN hb5 _⟩
                  case measure => omega
                · obtain rfl : i = ks.length + 1 := by omega
                  go_wp2
                  go_ret
                  exact ⟨rfl, hbE.trans (hb5.mono hbE.size)⟩

end Go.Proofs.Qxb6619715a
