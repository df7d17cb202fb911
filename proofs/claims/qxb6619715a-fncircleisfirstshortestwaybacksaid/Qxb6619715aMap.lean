/-
  A MAP THAT THE CALL MAKES, FROM POINTERS TO POINTERS: look-up, and the store of a new key.
-/
import Derived.Test.Qxb6619715aSmall
import Derived.LaidEqlPtr
import Derived.Carry
namespace Go.Proofs.Qxb6619715a
open Go.RowKit

/-- A node's or a rule's pointer. -/
def pt (b : Nat) : Value := .pointer (some ⟨b, 0, none⟩)
/-- A rule's pointer, or nil. -/
def ptrOf (rb : Nat → Nat) : Option Nat → Value
  | none => .pointer none
  | some k => pt (rb k)

theorem size46 : ∃ j, Try.prog.info? 46 = some j ∧ j.size ≠ 0 := by
  have h : (Try.prog.info? 46).map (fun i => decide (i.size ≠ 0)) = some true := by kernel_rfl
  obtain ⟨j, hj, hd⟩ := Option.map_eq_some_iff.1 h
  exact ⟨j, hj, of_decide_eq_true hd⟩
theorem zero51 (w : World) : (zeroValue 51).run Try.prog w = .ok (.pointer none) w := by kernel_rfl

theorem equal_same (b : Nat) (w : World) : (Op.equal 28 (pt b) (pt b)).run Try.prog w = .ok true w := by
  obtain ⟨j, hj, _⟩ := size46
  have h : ∀ d : Nat, (Op.equalIn (d + 1) 28 (.pointer (some ⟨b, 0, none⟩)) (.pointer (some ⟨b, 0, none⟩))).run Try.prog w = .ok true w := fun d => by
    simp [Op.equalIn, run_underlying Try.underlying28, sizeOf, typeInfo, hj, run_sameAddr_same]
  simp [Op.equal, Op.maxDepth, pt, h 9999]
theorem equal_other {b b' : Nat} {w : World} {c c' : Array Value} {t t' : TypeId} (hne : b ≠ b') (h1 : w.heap[b]? = some (.cells c t (0, 0))) (h2 : w.heap[b']? = some (.cells c' t' (0, 0))) :
    (Op.equal 28 (pt b) (pt b')).run Try.prog w = .ok false w := by
  obtain ⟨j, hj, hs⟩ := size46
  have hne' : (⟨b, 0, none⟩ : Addr) ≠ ⟨b', 0, none⟩ := fun e => hne (by injection e)
  have h : ∀ d : Nat, (Op.equalIn (d + 1) 28 (.pointer (some ⟨b, 0, none⟩)) (.pointer (some ⟨b', 0, none⟩))).run Try.prog w = .ok false w := fun d => by
    simp [Op.equalIn, run_underlying Try.underlying28, sizeOf, typeInfo, hj, hs, run_sameAddr_other w hne' h1 h2]
  simp [Op.equal, Op.maxDepth, pt, h 9999]

/-- What a list of pairs says of y. -/
def assoc (L : List (Nat × Option Nat)) (y : Nat) : Option (Option Nat) := (L.find? fun x => x.1 == y).map (·.2)
theorem assoc_snoc {L : List (Nat × Option Nat)} {y : Nat} (h : assoc L y = none) (v : Option Nat) (x : Nat) : assoc (L ++ [(y, v)]) x = if x = y then some v else assoc L x := by
  unfold assoc at *
  rw [List.find?_append]
  by_cases e : x = y
  · subst e
    simp only [Option.map_eq_none_iff] at h
    simp [h]
  · rw [if_neg e]
    have : ((y == x) = false) := by simpa using fun h => e h.symm
    simp [List.find?, this]

/-- The nodes' blocks: different ones, and plain. -/
structure Blocks (w : World) (n : Nat) (nb : Nat → Nat) : Prop where
  inj : ∀ x y, x < n → y < n → nb x = nb y → x = y
  cells : ∀ x, x < n → ∃ c t, w.heap[nb x]? = some (.cells c t (0, 0))

theorem Blocks.below {w w' : World} {n : Nat} {nb : Nat → Nat} (h : Blocks w n nb) (hb : Below w.heap.size w w') : Blocks w' n nb := by
  refine ⟨h.inj, fun x hx => ?_⟩
  obtain ⟨c, t, hc⟩ := h.cells x hx
  have hlt : nb x < w.heap.size := by
    rcases Nat.lt_or_ge (nb x) w.heap.size with h' | h'
    · exact h'
    · rw [Array.getElem?_eq_none h'] at hc; cases hc
  exact ⟨c, t, (hb.block _ hlt).trans hc⟩

/-- The map's entries are those pairs. -/
def Ents (nb rb : Nat → Nat) (L : List (Nat × Option Nat)) (es : List MapEntry) : Prop := es.map (fun e => (e.key, e.val)) = L.map fun x => (pt (nb x.1), ptrOf rb x.2)

theorem find_run {w : World} {n : Nat} {nb rb : Nat → Nat} (hB : Blocks w n nb) {y : Nat} (hy : y < n) : ∀ (L : List (Nat × Option Nat)) (es : List MapEntry) (i : Nat), Ents nb rb L es → (∀ x ∈ L, x.1 < n) →
    ∃ r, (Instr.findAsking 28 (pt (nb y)) es i).run Try.prog w = .ok r w ∧ (assoc L y = none → r = none) ∧ ∀ v, assoc L y = some v → ∃ j, r = some (j, ptrOf rb v)
  | [], [], i, _, _ => ⟨none, by simp [Instr.findAsking], fun _ => rfl, fun v h => by simp [assoc] at h⟩
  | [], _ :: _, i, h, _ => by simp [Ents] at h
  | _ :: _, [], i, h, _ => by simp [Ents] at h
  | x :: L, e :: es, i, h, hl => by
    simp only [Ents, List.map_cons, List.cons.injEq, Prod.mk.injEq] at h
    obtain ⟨⟨h1, h2⟩, h3⟩ := h
    by_cases hx : x.1 = y
    · refine ⟨some (i, e.val), ?_, fun hn => ?_, fun v hv => ?_⟩
      · simp only [Instr.findAsking, h1, hx]
        simp [equal_same]
      · simp [assoc, hx] at hn
      · simp [assoc, hx] at hv
        exact ⟨i, by rw [h2, hv]⟩
    · obtain ⟨r, hr, hr1, hr2⟩ := find_run hB hy L es (i + 1) h3 (fun z hz => hl z (by simp [hz]))
      have hne : nb y ≠ nb x.1 := fun e => hx (hB.inj _ _ hy (hl x (by simp)) e).symm
      obtain ⟨c, t, hc⟩ := hB.cells y hy
      obtain ⟨c', t', hc'⟩ := hB.cells x.1 (hl x (by simp))
      have e' : assoc (x :: L) y = assoc L y := by
        have : (x.1 == y) = false := by simpa using hx
        simp [assoc, List.find?, this]
      refine ⟨r, ?_, fun hn => hr1 (by rw [← e']; exact hn), fun v hv => hr2 v (by rw [← e']; exact hv)⟩
      simp only [Instr.findAsking, h1]
      simp [equal_other hne hc hc', hr]

theorem check_run (em : Bool) (b : Nat) (w : World) : (Instr.checkKey em 10000 28 (pt b)).run Try.prog w = .ok () w := by
  have h : ∀ d : Nat, (Instr.checkKey em (d + 1) 28 (.pointer (some ⟨b, 0, none⟩))).run Try.prog w = .ok () w := fun d => by
    simp [Instr.checkKey, run_underlying Try.underlying28]
  exact h 9999

/-- findKey, over whatever entries. -/
theorem findKey_run {w : World} {n : Nat} {nb rb : Nat → Nat} (hB : Blocks w n nb) {y : Nat} (hy : y < n) (L : List (Nat × Option Nat)) (es : List MapEntry) (h : Ents nb rb L es) (hl : ∀ x ∈ L, x.1 < n) :
    ∃ r, (Instr.findKey 28 (pt (nb y)) es).run Try.prog w = .ok r w ∧ (assoc L y = none → r = none) ∧ ∀ v, assoc L y = some v → ∃ j, r = some (j, ptrOf rb v) := by
  obtain ⟨r, h1, h2, h3⟩ := find_run hB hy L es 0 h hl
  cases es with
  | nil =>
    cases L with
    | cons x L => simp [Ents] at h
    | nil =>
      refine ⟨none, ?_, fun _ => rfl, fun v hv => by simp [assoc] at hv⟩
      simp [Instr.findKey, run_underlying Try.underlying28, Instr.findNow]
  | cons e es =>
    refine ⟨r, ?_, h2, h3⟩
    simp [Instr.findKey, run_underlying Try.underlying28, Instr.findNow, Instr.sameNow, pt] at h1 ⊢
    exact h1

/-- The map in block M holds the pairs L. -/
def MapIs (w : World) (M : Nat) (nb rb : Nat → Nat) (L : List (Nat × Option Nat)) : Prop := ∃ es clock, w.heap[M]? = some (.map es clock) ∧ Ents nb rb L es.toList

theorem getMap_run {w : World} {M : Nat} {es : Array MapEntry} {clock : Nat} (h : w.heap[M]? = some (.map es clock)) : (getObj M).run Try.prog w = .ok (.map es clock) w := by
  simp only [getObj, Sem.run, h]

theorem look_ok {w : World} {n M : Nat} {nb rb : Nat → Nat} {L : List (Nat × Option Nat)} (hM : MapIs w M nb rb L) (hB : Blocks w n nb) (hl : ∀ x ∈ L, x.1 < n) {y : Nat} (hy : y < n) :
    (Instr.lookup 76 (.map (some M)) (pt (nb y)) true).run Try.prog w = .ok (.tuple #[ptrOf rb ((assoc L y).getD none), .bool (assoc L y).isSome]) w := by
  obtain ⟨es, clock, hh, he⟩ := hM
  obtain ⟨r, h1, h2, h3⟩ := findKey_run hB hy L es.toList he hl
  cases ha : assoc L y with
  | none =>
    have hr := h2 ha
    subst hr
    simp [Instr.lookup, run_underlying Try.underlying76, getMap_run hh, check_run, h1, ptrOf]
  | some v =>
    obtain ⟨j, rfl⟩ := h3 v ha
    simp [Instr.lookup, run_underlying Try.underlying76, getMap_run hh, check_run, h1]

theorem look_plain {w : World} {n M : Nat} {nb rb : Nat → Nat} {L : List (Nat × Option Nat)} (hM : MapIs w M nb rb L) (hB : Blocks w n nb) (hl : ∀ x ∈ L, x.1 < n) {y : Nat} (hy : y < n) :
    (Instr.lookup 76 (.map (some M)) (pt (nb y)) false).run Try.prog w = .ok (ptrOf rb ((assoc L y).getD none)) w := by
  obtain ⟨es, clock, hh, he⟩ := hM
  obtain ⟨r, h1, h2, h3⟩ := findKey_run hB hy L es.toList he hl
  cases ha : assoc L y with
  | none =>
    have hr := h2 ha
    subst hr
    simp [Instr.lookup, run_underlying Try.underlying76, getMap_run hh, check_run, h1, ptrOf]
  | some v =>
    obtain ⟨j, rfl⟩ := h3 v ha
    simp [Instr.lookup, run_underlying Try.underlying76, getMap_run hh, check_run, h1]

/-- The world behind the store of a new key. -/
def putMap (w : World) (M : Nat) (key val : Value) : World :=
  match w.heap[M]? with
  | some (.map es clock) => { w with heap := w.heap.setIfInBounds M (.map (es.push { key := key, val := val, born := clock }) (clock + 1)) }
  | _ => w

theorem setMap_run {w : World} {M : Nat} {o' : Obj} {es : Array MapEntry} {clock : Nat} (h : w.heap[M]? = some (.map es clock)) : (setObj M o').run Try.prog w = .ok () { w with heap := w.heap.setIfInBounds M o' } := by
  simp only [setObj, Sem.run, h]

theorem update_new {w : World} {n M : Nat} {nb rb : Nat → Nat} {L : List (Nat × Option Nat)} (hM : MapIs w M nb rb L) (hB : Blocks w n nb) (hl : ∀ x ∈ L, x.1 < n) {y : Nat} (hy : y < n) (ha : assoc L y = none) (v : Value) :
    (Instr.mapUpdate 76 (.map (some M)) (pt (nb y)) v).run Try.prog w = .ok () (putMap w M (pt (nb y)) v) := by
  obtain ⟨es, clock, hh, he⟩ := hM
  obtain ⟨r, h1, h2, h3⟩ := findKey_run hB hy L es.toList he hl
  have hr := h2 ha
  subst hr
  have e : putMap w M (pt (nb y)) v = { w with heap := w.heap.setIfInBounds M (.map (es.push { key := pt (nb y), val := v, born := clock }) (clock + 1)) } := by
    unfold putMap
    rw [hh]
  rw [e]
  have hs := fun o' => setMap_run (o' := o') hh
  simp [Instr.mapUpdate, run_underlying Try.underlying76, getMap_run hh, check_run, h1, hs]

theorem putMap_is {w : World} {M : Nat} {nb rb : Nat → Nat} {L : List (Nat × Option Nat)} (hM : MapIs w M nb rb L) (y : Nat) (v : Option Nat) : MapIs (putMap w M (pt (nb y)) (ptrOf rb v)) M nb rb (L ++ [(y, v)]) := by
  obtain ⟨es, clock, hh, he⟩ := hM
  have hlt : M < w.heap.size := by
    rcases Nat.lt_or_ge M w.heap.size with h' | h'
    · exact h'
    · rw [Array.getElem?_eq_none h'] at hh; cases hh
  refine ⟨es.push { key := pt (nb y), val := ptrOf rb v, born := clock }, clock + 1, ?_, ?_⟩
  · have e : putMap w M (pt (nb y)) (ptrOf rb v) = { w with heap := w.heap.setIfInBounds M (.map (es.push { key := pt (nb y), val := ptrOf rb v, born := clock }) (clock + 1)) } := by
      unfold putMap
      rw [hh]
    rw [e]
    simp [hlt]
  · unfold Ents at he ⊢
    simp [he]

theorem putMap_other {w : World} {M k : Nat} (key val : Value) (h : k ≠ M) : (putMap w M key val).heap[k]? = w.heap[k]? := by
  unfold putMap
  split
  · simp [Ne.symm h]
  · rfl
theorem putMap_size (w : World) (M : Nat) (key val : Value) : (putMap w M key val).heap.size = w.heap.size := by
  unfold putMap
  split <;> simp
theorem Below.putMap {B : Nat} {w0 w : World} (h : Below B w0 w) {M : Nat} (hM : B ≤ M) (key val : Value) : Below B w0 (putMap w M key val) := by
  refine h.trans ⟨?_, ?_, ?_, by rw [putMap_size]; exact Nat.le_refl _, fun k hk => putMap_other key val (by omega)⟩
  all_goals (unfold Qxb6619715a.putMap; split <;> rfl)

theorem MapIs.of_block {w w' : World} {M : Nat} {nb rb : Nat → Nat} {L : List (Nat × Option Nat)} (h : MapIs w M nb rb L) (e : w'.heap[M]? = w.heap[M]?) : MapIs w' M nb rb L := by
  obtain ⟨es, clock, hh, he⟩ := h
  exact ⟨es, clock, e.trans hh, he⟩

theorem map_start (w : World) (nb rb : Nat → Nat) : MapIs (w.alloc (.map #[] 0)) w.heap.size nb rb [] := by
  refine ⟨#[], 0, ?_, rfl⟩
  show (w.heap.push _)[w.heap.size]? = _
  simp

end Go.Proofs.Qxb6619715a
