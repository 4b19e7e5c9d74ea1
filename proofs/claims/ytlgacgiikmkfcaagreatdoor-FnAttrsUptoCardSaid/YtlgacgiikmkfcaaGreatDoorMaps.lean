/- Maps keyed by strings, entry by entry: what a look-up and an update do to the block of a map. Plain: over any program. -/
import Derived.WalkKit
import Derived.MapKept
import Derived.WalkSpells
import Derived.WalkLawsBesides
import Derived.Maps.OwnOps
namespace Go.Proofs.YtlgacgiikmkfcaaGreatDoor.M
open Go.RowKit

def mget : List (ByteArray × Value) → ByteArray → Option Value
  | [], _ => none
  | p :: r, k => if p.1 = k then some p.2 else mget r k
def mput : List (ByteArray × Value) → ByteArray → Value → List (ByteArray × Value)
  | [], k, v => [(k, v)]
  | p :: r, k, v => if p.1 = k then (k, v) :: r else p :: mput r k v

theorem mget_mput (L : List (ByteArray × Value)) (k k' : ByteArray) (v : Value) : mget (mput L k v) k' = if k = k' then some v else mget L k' := by
  induction L with
  | nil => simp [mput, mget]
  | cons p r ih =>
    by_cases h : p.1 = k
    · by_cases h2 : k = k'
      · simp [mput, mget, h, h2]
      · simp [mput, mget, h, h2]
    · by_cases h2 : p.1 = k'
      · have h3 : ¬ k = k' := fun e => h (by rw [h2, e])
        rw [if_neg h3]
        simp only [mput, if_neg h, mget, if_pos h2]
      · simp [mput, mget, h, h2, ih]

theorem mput_mput (L : List (ByteArray × Value)) (k : ByteArray) (u v : Value) : mput (mput L k u) k v = mput L k v := by
  induction L with
  | nil => simp [mput]
  | cons p r ih =>
    by_cases h : p.1 = k
    · simp [mput, h]
    · simp [mput, h, ih]

theorem bbeq (a b : ByteArray) : (a == b) = decide (a = b) := by
  by_cases h : a = b
  · subst h
    have : (a == a) = true := by
      show (a.data == a.data) = true
      simp
    simp [this]
  · have : (a == b) = false := by
      show (a.data == b.data) = false
      rw [beq_eq_false_iff_ne]
      intro e
      apply h
      cases a; cases b; simp_all
    simp [h, this]

/-- Block b is a map, its entries (in order) L. -/
def MapIs (w : World) (b : Nat) (L : List (ByteArray × Value)) : Prop :=
  ∃ es clk, w.heap[b]? = some (.map es clk) ∧ es.toList.map (fun e => (e.key, e.val)) = L.map (fun p => (Value.string p.1, p.2))

theorem MapIs.lt {w : World} {b : Nat} {L : List (ByteArray × Value)} (h : MapIs w b L) : b < w.heap.size := by
  obtain ⟨es, clk, h1, _⟩ := h
  exact (Array.getElem?_eq_some_iff.1 h1).1
theorem MapIs.move {w w' : World} {b : Nat} {L : List (ByteArray × Value)} (h : MapIs w b L) (hm : w'.heap[b]? = w.heap[b]?) : MapIs w' b L := by
  obtain ⟨es, clk, h1, h2⟩ := h
  exact ⟨es, clk, hm.trans h1, h2⟩

theorem find_spec : ∀ (es : List MapEntry) (L : List (ByteArray × Value)) (k : ByteArray) (i : Nat),
    es.map (fun e => (e.key, e.val)) = L.map (fun p => (Value.string p.1, p.2)) →
    ((mget L k = none ∧ Instr.findNow .string (.string k) es i = some none ∧ mput L k = fun v => L ++ [(k, v)]) ∨
     ∃ j v e, mget L k = some v ∧ Instr.findNow .string (.string k) es i = some (some (i + j, v)) ∧ es[j]? = some e ∧ e.key = .string k ∧ e.val = v ∧
       ∀ u e', e'.key = .string k → e'.val = u → (es.set j e').map (fun e => (e.key, e.val)) = (mput L k u).map (fun p => (Value.string p.1, p.2)))
  | [], [], k, i, _ => .inl ⟨rfl, rfl, by funext v; rfl⟩
  | [], p :: r, _, _, h => by simp at h
  | e :: es, [], _, _, h => by simp at h
  | e :: es, p :: r, k, i, h => by
    simp only [List.map_cons, List.cons.injEq, Prod.mk.injEq] at h
    obtain ⟨⟨hk, hv⟩, hr⟩ := h
    by_cases hp : p.1 = k
    · refine .inr ⟨0, p.2, e, by simp [mget, hp], ?_, rfl, by rw [hk, hp], hv, ?_⟩
      · simp [Instr.findNow, hk, hp, Instr.sameNow, hv, bbeq]
      · intro u e' h1 h2
        simp [mput, hp, h1, h2, hr]
    · have hne : ¬ k = p.1 := fun x => hp x.symm
      have hf : Instr.findNow .string (.string k) (e :: es) i = Instr.findNow .string (.string k) es (i + 1) := by
        simp [Instr.findNow, hk, Instr.sameNow, hne, bbeq]
      rcases find_spec es r k (i + 1) hr with ⟨h1, h2, h3⟩ | ⟨j, v, e2, h1, h2, h3, h4, h5, h6⟩
      · refine .inl ⟨by simp [mget, hp, h1], by rw [hf, h2], ?_⟩
        funext v
        simp [mput, hp, h3]
      · refine .inr ⟨j + 1, v, e2, by simp [mget, hp, h1], by rw [hf, h2]; simp; omega, by simpa using h3, h4, h5, ?_⟩
        intro u e' g1 g2
        simp [mput, hp, hk, hv, h6 u e' g1 g2]

section
variable {P : Program} {w : World} {T E K b : Nat} {L : List (ByteArray × Value)}

theorem isKey_string (k : ByteArray) : MapKept.IsKey .string (.string k) := trivial

theorem run_lookup_yes (hT : P.underlying T = some (.map K E)) (hK : P.underlying K = some .string) (hm : MapIs w b L) (k : ByteArray) {v : Value} (hv : mget L k = some v) (ok : Bool) :
    (Instr.lookup T (.map (some b)) (.string k) ok).run P w = .ok (if ok then .tuple #[v, .bool true] else v) w := by
  obtain ⟨es, clk, h1, h2⟩ := hm
  rcases find_spec es.toList L k 0 h2 with ⟨g1, _⟩ | ⟨j, v', e, g1, g2, _⟩
  · rw [hv] at g1; simp at g1
  · rw [hv] at g1
    obtain rfl : v = v' := by simpa using g1
    cases ok <;> simp [Instr.lookup, run_underlying hT, MapKept.run_getObj_map h1, MapKept.run_checkKey hK (isKey_string k), MapKept.run_findKey hK g2, Result.andThen]

theorem run_lookup_no (hT : P.underlying T = some (.map K E)) (hK : P.underlying K = some .string) (hm : MapIs w b L) (k : ByteArray) (hv : mget L k = none) {z : Value} (hz : (zeroValue E).run P w = .ok z w) (ok : Bool) :
    (Instr.lookup T (.map (some b)) (.string k) ok).run P w = .ok (if ok then .tuple #[z, .bool false] else z) w := by
  obtain ⟨es, clk, h1, h2⟩ := hm
  rcases find_spec es.toList L k 0 h2 with ⟨_, g2, _⟩ | ⟨j, v', e, g1, _⟩
  · cases ok <;> simp [Instr.lookup, run_underlying hT, MapKept.run_getObj_map h1, MapKept.run_checkKey hK (isKey_string k), MapKept.run_findKey hK g2, hz, Result.andThen]
  · rw [hv] at g1; simp at g1

/-- The world with one block put anew. -/
def setBlk (w : World) (b : Nat) (o : Obj) : World := { w with heap := w.heap.setIfInBounds b o }

theorem run_update (hT : P.underlying T = some (.map K E)) (hK : P.underlying K = some .string) (hm : MapIs w b L) (k : ByteArray) (v : Value) :
    ∃ w', (Instr.mapUpdate T (.map (some b)) (.string k) v).run P w = .ok () w' ∧ MapIs w' b (mput L k v) ∧ w.grownBy w' (some b) ∧ w'.heap.size = w.heap.size := by
  have hb := hm.lt
  obtain ⟨es, clk, h1, h2⟩ := hm
  have hgrow : ∀ o, w.grownBy (setBlk w b o) (some b) := fun o =>
    ⟨rfl, rfl, rfl, by simp [setBlk], fun i _ hi => by
      have : b ≠ i := fun e => hi (by rw [e])
      simp [setBlk, this]⟩
  have hnow : ∀ o, (setBlk w b o).heap[b]? = some o := fun o => by simp [setBlk, hb]
  rcases find_spec es.toList L k 0 h2 with ⟨_, g2, g3⟩ | ⟨j, v', e, _, g2, g4, g5, _, g6⟩
  · refine ⟨setBlk w b (.map (es.push { key := .string k, val := v, born := clk }) (clk + 1)), ?_, ?_, hgrow _, by simp [setBlk]⟩
    · simp [Instr.mapUpdate, run_underlying hT, MapKept.run_getObj_map h1, MapKept.run_checkKey hK (isKey_string k), MapKept.run_findKey hK g2, MapKept.run_setObj_map _ h1, Result.andThen, setBlk]
    · refine ⟨_, _, hnow _, ?_⟩
      rw [g3]
      simp [h2]
  · have hlt : j < es.size := by
      have := (List.getElem?_eq_some_iff.1 g4).1
      simpa using this
    refine ⟨setBlk w b (.map (es.modify j fun e => { e with key := .string k, val := v }) clk), ?_, ?_, hgrow _, by simp [setBlk]⟩
    · have hj : es[j]? = some e := by simpa using g4
      have hkeep : ∀ W : World, (Instr.keyThatStays (.string k) (.string k)).run P W = .ok (.string k) W := by
        intro W
        simp [Instr.keyThatStays, Instr.sameBits, bbeq]
      simp [Instr.mapUpdate, run_underlying hT, MapKept.run_getObj_map h1, MapKept.run_checkKey hK (isKey_string k), MapKept.run_findKey hK g2, hj, g5, hkeep, MapKept.run_setObj_map _ h1, Result.andThen, setBlk]
    · refine ⟨_, _, hnow _, ?_⟩
      have hj : es[j]? = some e := by simpa using g4
      have hx := g6 v { e with key := .string k, val := v } rfl rfl
      rw [← hx]
      congr 1
      apply List.ext_getElem?
      intro i
      rw [Array.getElem?_toList, Array.getElem?_modify, List.getElem?_set]
      by_cases hi : j = i
      · subst hi
        simp [hlt]
        rw [Array.getElem?_eq_getElem hlt] at hj
        injection hj with hj
        rw [hj]
      · simp [hi]
end
end Go.Proofs.YtlgacgiikmkfcaaGreatDoor.M
