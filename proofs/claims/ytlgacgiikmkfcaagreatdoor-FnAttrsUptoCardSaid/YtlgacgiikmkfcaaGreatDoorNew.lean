/- NewPolicy: the policy's struct, its maps, and what is laid into two of them. -/
import Derived.Test.YtlgacgiikmkfcaaGreatDoorPol
import Derived.Test.YtlgacgiikmkfcaaGreatDoorLow
import Derived.Deep.Cut
import Derived.Deep.CutRange
import Derived.Deep.DeepCutAuto
namespace Go.Proofs.YtlgacgiikmkfcaaGreatDoor
open Go.RowKit M

namespace M
theorem wpList_update_raw {P : Program} (w : World) {ops : Array Oper} {rest : List Oper} {o : Oper} {a : Act} {Q : Exit → Act → World → Prop}
    (hg : o.guard = none) (m x v : Operand) (T : TypeId) (hop : o.op = Op.mapUpdate T m x v) (K E : TypeId) (hT : P.underlying T = some (.map K E)) (hK : P.underlying K = some .string)
    (b : Nat) (L : List (ByteArray × Value)) (hmm : MapIs w b L) (hm : a.eval m = .map (some b)) (k : ByteArray) (hx : a.eval x = .string k) (val : Value) (hv : a.eval v = val)
    (hN : ∀ w', MapIs w' b (mput L k val) → w.grownBy w' (some b) → w'.heap.size = w.heap.size → wpList P ops Q rest (a.put o.dst undef) w') :
    wpList P ops Q (o :: rest) a w := by
  refine wpList_plain hg fun K' hK' => ?_
  obtain ⟨w', hrun, r1, r2, r3⟩ := run_update hT hK hmm k val
  unfold Oper.wp
  simp [execOp, hop, hm, hx, hv, hrun, Result.andThen]
  exact hK' _ _ (hN w' r1 r2 r3)
end M

/-- 'init' of a policy that is initialized does nothing. -/
theorem init_done (p : Nat) (w : World) (hc : w.cell? ⟨p, 0, none⟩ = some (.bool true)) :
    Calls Tryz.prog 44 #[.pointer (some ⟨p, 0, none⟩)] w fun e w' => e = .returned (.tuple #[]) ∧ w = w' := by
  go_enter Tryz.func44, Tryz.ntmps44
  go_wp2
  go_end0
  exact ⟨rfl, rfl⟩

def zcells : Array Value := #[.bool false, .bool false, .bool false, .bool false, .bool false, .bool false, .bool false, .map none, .bool false, .bool false, .bool false, .bool false, .bool false, .map none, .map none, .map none, .map none, .map none, .bool false]

set_option maxRecDepth 100000 in
set_option maxHeartbeats 1000000 in
theorem init_first (w : World) :
    Calls Tryz.prog 44 #[.pointer (some ⟨w.heap.size, 0, none⟩)] (w.alloc (.cells zcells 90)) fun e w' => e = .returned (.tuple #[]) ∧
      w' = (((((w.alloc (.cells (pcells (w.heap.size + 1) (w.heap.size + 2) (w.heap.size + 3) (w.heap.size + 4) (w.heap.size + 5)) 90)).alloc (.map #[] 0)).alloc (.map #[] 0)).alloc (.map #[] 0)).alloc (.map #[] 0)).alloc (.map #[] 0) := by
  have hmm := @run_makeMap Tryz.prog
  unfold zcells
  go_enter Tryz.func44, Tryz.ntmps44
  go_wp2
  go_end0
  exact ⟨rfl, rfl⟩

/-- The policy as it is made: its struct at the block that was next, its five maps behind it. -/
structure NewSt (w0 w : World) : Prop where
  bel : Below w0.heap.size w0 w
  cell : w.heap[w0.heap.size]? = some (.cells (pcells (w0.heap.size + 1) (w0.heap.size + 2) (w0.heap.size + 3) (w0.heap.size + 4) (w0.heap.size + 5)) 90 (0, 0))
  e : MapIs w (w0.heap.size + 1) []
  g : MapIs w (w0.heap.size + 2) []
  n : ∃ L, MapIs w (w0.heap.size + 4) L
  s : ∃ L, MapIs w (w0.heap.size + 5) L

theorem NewSt.put {w0 w w' : World} (h : NewSt w0 w) {b : Nat} {L : List (ByteArray × Value)} (hb : b = w0.heap.size + 4 ∨ b = w0.heap.size + 5) (hm : MapIs w' b L) (hg : w.grownBy w' (some b)) : NewSt w0 w' := by
  have hs : ∀ k, k < w.heap.size → k ≠ b → w'.heap[k]? = w.heap[k]? := fun k hk hne => hg.block k hk (fun x => hne (by injection x))
  have hl : w0.heap.size < w.heap.size := (Array.getElem?_eq_some_iff.1 h.cell).1
  refine ⟨h.bel.grown hg (by omega) (fun k hk => by injection hk with hk; omega), ?_, h.e.move (hs _ h.e.lt (by omega)), h.g.move (hs _ h.g.lt (by omega)), ?_, ?_⟩
  · rw [hs _ hl (by omega)]; exact h.cell
  · rcases hb with rfl | rfl
    · exact ⟨_, hm⟩
    · obtain ⟨L', h'⟩ := h.n
      exact ⟨L', h'.move (hs _ h'.lt (by omega))⟩
  · rcases hb with rfl | rfl
    · obtain ⟨L', h'⟩ := h.s
      exact ⟨L', h'.move (hs _ h'.lt (by omega))⟩
    · exact ⟨_, hm⟩
theorem NewSt.c0 {w0 w : World} (h : NewSt w0 w) : w.cell? ⟨w0.heap.size, 0, none⟩ = some (.bool true) := by simp [World.cell?, h.cell, pcells]
theorem NewSt.c16 {w0 w : World} (h : NewSt w0 w) : w.cell? ⟨w0.heap.size, 16, none⟩ = some (.map (some (w0.heap.size + 4))) := by simp [World.cell?, h.cell, pcells]
theorem NewSt.c17 {w0 w : World} (h : NewSt w0 w) : w.cell? ⟨w0.heap.size, 17, none⟩ = some (.map (some (w0.heap.size + 5))) := by simp [World.cell?, h.cell, pcells]

theorem wpList_no {w0 : World} (w : World) {ops : Array Oper} {rest : List Oper} {o : Oper} {a : Act} {Q : Exit → Act → World → Prop}
    (hg : o.guard = none) (m x v : Operand) (hop : o.op = Op.mapUpdate 88 m x v) (st : NewSt w0 w) (b : Nat) (hb : b = w0.heap.size + 4 ∨ b = w0.heap.size + 5)
    (hm : a.eval m = .map (some b)) (k : ByteArray) (hx : a.eval x = .string k)
    (hN : ∀ w', NewSt w0 w' → wpList Tryz.prog ops Q rest (a.put o.dst undef) w') :
    wpList Tryz.prog ops Q (o :: rest) a w := by
  obtain ⟨L, hL⟩ : ∃ L, MapIs w b L := by
    rcases hb with rfl | rfl
    · exact st.n
    · exact st.s
  exact M.wpList_update_raw w hg m x v 88 hop 9 122 Tryz.underlying88 Tryz.underlying9 b L hL hm k hx _ rfl (fun w' h1 h2 _ => hN w' (st.put hb h1 h2))

theorem NewSt.made (w : World) : NewSt w ((((((w.alloc (.cells (pcells (w.heap.size + 1) (w.heap.size + 2) (w.heap.size + 3) (w.heap.size + 4) (w.heap.size + 5)) 90)).alloc (.map #[] 0)).alloc (.map #[] 0)).alloc (.map #[] 0)).alloc (.map #[] 0)).alloc (.map #[] 0)) := by
  have hx : ∀ j, j < 6 → ((((((w.alloc (.cells (pcells (w.heap.size + 1) (w.heap.size + 2) (w.heap.size + 3) (w.heap.size + 4) (w.heap.size + 5)) 90)).alloc (.map #[] 0)).alloc (.map #[] 0)).alloc (.map #[] 0)).alloc (.map #[] 0)).alloc (.map #[] 0)).heap[w.heap.size + j]? =
      some (if j = 0 then .cells (pcells (w.heap.size + 1) (w.heap.size + 2) (w.heap.size + 3) (w.heap.size + 4) (w.heap.size + 5)) 90 (0, 0) else .map #[] 0) := by
    intro j hj
    show ((((((w.heap.push _).push _).push _).push _).push _).push _)[w.heap.size + j]? = _
    simp only [Array.getElem?_push, Array.size_push]
    rcases (by omega : j = 0 ∨ j = 1 ∨ j = 2 ∨ j = 3 ∨ j = 4 ∨ j = 5) with rfl | rfl | rfl | rfl | rfl | rfl <;> simp <;> rw [if_neg (by omega), if_neg (by omega), if_neg (by omega), if_neg (by omega)]
  refine ⟨?_, by simpa using hx 0 (by omega), ⟨#[], 0, by simpa using hx 1 (by omega), rfl⟩, ⟨#[], 0, by simpa using hx 2 (by omega), rfl⟩, ⟨[], #[], 0, by simpa using hx 4 (by omega), rfl⟩, ⟨[], #[], 0, by simpa using hx 5 (by omega), rfl⟩⟩
  exact ((((((Below.refl _ _).alloc (Nat.le_refl _) _).alloc (by simp) _).alloc (by simp; omega) _).alloc (by simp; omega) _).alloc (by simp; omega) _).alloc (by simp; omega) _

set_option maxRecDepth 100000 in
set_option maxHeartbeats 4000000 in
theorem addSkip (w0 w : World) (st : NewSt w0 w) :
    Calls Tryz.prog 50 #[.pointer (some ⟨w0.heap.size, 0, none⟩)] w fun e w' => e = .returned (.tuple #[]) ∧ NewSt w0 w' := by
  have hc := st.c17
  have hc0 := st.c0
  go_enter Tryz.func50, Tryz.ntmps50
  go_wp2_with (first | (go_at_call 44; refine (init_done _ _ hc0).mono ?_; rintro e w' ⟨rfl, rfl⟩) | (at_mapUpdate; refine wpList_no _ rfl _ _ _ rfl st _ (.inr rfl) rfl _ rfl ?_; clear hc0 hc st; intro w1 st; have hc := st.c17; have hc0 := st.c0))
  go_end0
  exact ⟨rfl, st⟩


theorem eval_put_same (a : Act) (t : Nat) (v : Value) (h : t < a.tmps.size) : (a.put (some t) v).eval (.tmp t) = v := by
  simp [Act.put, Act.eval, h]
theorem eval_put_other (a : Act) (t s : Nat) (v : Value) (h : t ≠ s) : (a.put (some t) v).eval (.tmp s) = a.eval (.tmp s) := by
  simp [Act.put, Act.eval, Array.getD_eq_getD_getElem?, h]
theorem size_put (a : Act) (t : Nat) (v : Value) : (a.put (some t) v).tmps.size = a.tmps.size := by simp [Act.put]
theorem defers_put (a : Act) (t : Option Nat) (v : Value) : (a.put t v).defers = a.defers := by cases t <;> rfl

/-- One of the rows of addDefaultElementsWithoutAttrs: its six operations. -/
def isPut (N : Nat) : List Oper → Bool
  | [⟨some t1, .move (.tmp 0), _, _, _, none⟩, ⟨some t2, .nilCheck (.tmp x1), _, _, _, none⟩, ⟨some t3, .fieldAddr 90 (.tmp x2) 16, _, _, _, none⟩, ⟨some t4, .load 88 (.tmp x3), _, _, _, none⟩, ⟨some t5, .build 122 ⟨[]⟩, _, _, _, none⟩, ⟨none, .mapUpdate 88 (.tmp x4) (.const (.string _)) (.tmp x5), _, _, _, none⟩] =>
    x1 == t1 && x2 == t2 && x3 == t3 && x4 == t4 && x5 == t5 && decide (0 < t1 ∧ t1 < N ∧ 0 < t2 ∧ t2 < N ∧ 0 < t3 ∧ t3 < N ∧ 0 < t4 ∧ t4 < N ∧ 0 < t5 ∧ t5 < N ∧ t4 ≠ t5)
  | _ => false

def AOk (p N : Nat) (a : Act) : Prop := a.eval (.tmp 0) = .pointer (some ⟨p, 0, none⟩) ∧ a.tmps.size = N ∧ a.defers = []
theorem AOk.put {p N : Nat} {a : Act} (h : AOk p N a) {t : Nat} (ht : 0 < t) (v : Value) : AOk p N (a.put (some t) v) :=
  ⟨by rw [eval_put_other _ _ _ _ (by omega)]; exact h.1, by rw [size_put]; exact h.2.1, by rw [defers_put]; exact h.2.2⟩

theorem put_none (a : Act) (v : Value) : a.put none v = a := rfl
theorem hfa (b : Nat) (w : World) : (Instr.fieldAt 90 (.pointer (some ⟨b, 0, none⟩)) 16).run Tryz.prog w = .ok (.pointer (some ⟨b, 16, none⟩)) w := by kernel_rfl
theorem hbu (w : World) : (Instr.build 122 #[]).run Tryz.prog w = .ok (.agg #[]) w := by kernel_rfl
theorem hld {b m : Nat} (w : World) (hc : w.cell? ⟨b, 16, none⟩ = some (.map (some m))) : (Instr.loadAt 88 (.pointer (some ⟨b, 16, none⟩))).run Tryz.prog w = .ok (.map (some m)) w := by
  simp [go_sem, hc]
theorem put6 {w0 : World} (N : Nat) (l : List Oper) (hl : isPut N l = true) (ops : Array Oper) (Q : Exit → Act → World → Prop) (a : Act) (w : World) (ha : AOk w0.heap.size N a) (st : NewSt w0 w)
    (hN : ∀ a' w', AOk w0.heap.size N a' → NewSt w0 w' → Q .normal a' w') : wpList Tryz.prog ops Q l a w := by
  unfold isPut at hl
  split at hl
  · next t1 _ _ _ t2 x1 _ _ _ t3 x2 _ _ _ t4 x3 _ _ _ t5 _ _ _ x4 k x5 _ _ _ =>
    simp only [Bool.and_eq_true, beq_iff_eq, decide_eq_true_eq] at hl
    obtain ⟨⟨⟨⟨⟨rfl, rfl⟩, rfl⟩, rfl⟩, rfl⟩, h1, h1', h2, h2', h3, h3', h4, h4', h5, h5', hne⟩ := hl
    have hs := ha.2.1
    have e1 := ha.put h1 (.pointer (some ⟨w0.heap.size, 0, none⟩))
    have e2 := e1.put h2 (.pointer (some ⟨w0.heap.size, 0, none⟩))
    have e3 := e2.put h3 (.pointer (some ⟨w0.heap.size, 16, none⟩))
    have e4 := e3.put h4 (.map (some (w0.heap.size + 4)))
    have e5 := e4.put h5 (.agg #[])
    have hs := ha.2.1
    have hv1 := eval_put_same a x1 (.pointer (some ⟨w0.heap.size, 0, none⟩)) (by rw [hs]; exact h1')
    have hv2 := eval_put_same _ x2 (.pointer (some ⟨w0.heap.size, 0, none⟩)) (by rw [e1.2.1]; exact h2')
    have hv3 := eval_put_same _ x3 (.pointer (some ⟨w0.heap.size, 16, none⟩)) (by rw [e2.2.1]; exact h3')
    have hv4 := eval_put_same _ x4 (.map (some (w0.heap.size + 4))) (by rw [e3.2.1]; exact h4')
    have hv4' := (eval_put_other _ x5 x4 (.agg #[]) (Ne.symm hne)).trans hv4
    have hc := st.c16
    refine wpList_plain rfl fun K1 hK1 => ?_
    unfold Oper.wp
    simp [execOp, ha.1]
    refine hK1 _ _ ?_
    clear hK1
    refine wpList_plain rfl fun K2 hK2 => ?_
    unfold Oper.wp
    simp [execOp, hv1]
    refine hK2 _ _ ?_
    clear hK2
    refine wpList_plain rfl fun K3 hK3 => ?_
    unfold Oper.wp
    simp [execOp, hv2]
    rw [hfa]
    simp only [Result.andThen, Oper.upon]
    refine hK3 _ _ ?_
    clear hK3
    refine wpList_plain rfl fun K4 hK4 => ?_
    unfold Oper.wp
    simp [execOp, hv3]
    rw [hld w hc]
    simp only [Result.andThen, Oper.upon]
    refine hK4 _ _ ?_
    clear hK4
    refine wpList_plain rfl fun K5 hK5 => ?_
    unfold Oper.wp
    simp [execOp]
    rw [hbu]
    simp only [Result.andThen, Oper.upon]
    refine hK5 _ _ ?_
    clear hK5
    refine wpList_no _ rfl _ _ _ rfl st _ (.inl rfl) hv4' k rfl (fun w' st' => ?_)
    refine hN _ _ ?_ st'
    rw [put_none]
    exact ((((ha.put h1 _).put h2 _).put h3 _).put h4 _).put h5 _
  · simp at hl

/-- A chain of such rows. -/
def puts (N : Nat) : Code → Bool
  | .seq a b => puts N a && puts N b
  | .region _ ops false => isPut N ops.toList
  | .skip => true
  | _ => false

theorem wp_puts {w0 : World} (N : Nat) : ∀ (c : Code), puts N c = true → ∀ (Q : Exit → Act → World → Prop) (a : Act) (w : World), AOk w0.heap.size N a → NewSt w0 w →
    (∀ a' w', AOk w0.heap.size N a' → NewSt w0 w' → Q .normal a' w') → c.wp Tryz.prog Q a w
  | .seq x y, h, Q, a, w, ha, st, hN => by
    simp only [puts, Bool.and_eq_true] at h
    refine wp_seq (wp_puts N x h.1 _ a w ha st (fun a' w' ha' st' => ?_))
    exact wp_puts N y h.2 Q a' w' ha' st' hN
  | .region _ ops false, h, Q, a, w, ha, st, hN => wp_region_list (put6 N ops.toList h ops Q a w ha st hN)
  | .skip, _, Q, a, w, ha, st, hN => wp_skip (hN a w ha st)

set_option maxRecDepth 100000 in
set_option maxHeartbeats 4000000 in
theorem addNo (w0 : World) :
    Calls Tryz.prog 49 #[.pointer (some ⟨w0.heap.size, 0, none⟩)] (w0.alloc (.cells zcells 90)) fun e w' => e = .returned (.tuple #[]) ∧ NewSt w0 w' := by
  have tok : True := trivial
  go_enter Tryz.func49, Tryz.ntmps49
  go_upto_region 1 with (go_at_call 44; refine (init_first w0).mono ?_; rintro e w' ⟨rfl, he⟩; have st : NewSt w0 w' := he ▸ NewSt.made w0; clear he; have hc := st.c16)
  refine wp_puts 454 _ (by kernel_rfl) _ _ _ ⟨rfl, rfl, rfl⟩ st (fun a' w' ha' st' => ?_)
  clear st hc
  rename_i K hK
  show K a' w'
  refine hK _ _ ?_
  clear hK
  refine wp_puts 454 _ (by kernel_rfl) _ _ _ ha' st' (fun a2 w2 ha2 st2 => ?_)
  refine bodyPost_end (by kernel_rfl) ha2.2.2 ⟨rfl, st2⟩


theorem hb90 (w : World) : (Instr.build 90 #[]).run Tryz.prog w = .ok (.agg #[.bool false, .bool false, .bool false, .bool false, .bool false, .bool false, .bool false, .map none, .bool false, .bool false, .bool false, .bool false, .bool false, .map none, .map none, .map none, .map none, .map none, .bool false]) w := by kernel_rfl
theorem ha90 (w : World) : (Instr.alloc 90 true (.tuple #[])).run Tryz.prog w = .ok (.pointer (some ⟨w.heap.size, 0, none⟩)) (w.alloc (.cells #[.bool false, .bool false, .bool false, .bool false, .bool false, .bool false, .bool false, .map none, .bool false, .bool false, .bool false, .bool false, .bool false, .map none, .map none, .map none, .map none, .map none, .bool false] 90)) := by kernel_rfl
theorem info90 : (Tryz.prog.info? 90).map (·.size) = some 19 := by kernel_rfl
theorem setRow_new (w : World) (cs : Array Value) (t : TypeId) : (w.alloc (.cells cs t)).setRow w.heap.size cs = w.alloc (.cells cs t) := by
  unfold World.setRow
  show World.mk _ _ _ _ _ = World.mk _ _ _ _ _
  congr 1
  apply Array.ext
  · simp
  · intro i h1 h2
    simp only [Array.getElem_modify]
    split
    · rename_i h
      subst h
      have := heap_alloc_new w (.cells cs t)
      rw [Array.getElem?_eq_getElem (by simp)] at this
      injection this with this
      rw [this]
      exact this.symm
    · rfl
theorem newPolicy (w : World) : Calls Tryz.prog 40 #[] w fun e w' => e = .returned (.pointer (some ⟨w.heap.size, 0, none⟩)) ∧ NewSt w w' := by
  have h1 := hb90
  have h2 := ha90
  have h49 := addNo w
  unfold zcells at h49
  have H := Lib.hid h49
  clear h49
  go_enter Tryz.func40, Tryz.ntmps40
  go_wp2_with (first | (refine wpList_store_row rfl 90 _ _ rfl w.heap.size _ rfl rfl 90 _ (heap_alloc_new w _) info90 rfl (by kernel_rfl) ?_; rw [setRow_new]) | (go_at_call 49; refine (H.out).mono ?_; rintro e w' ⟨rfl, st⟩) | (go_at_call 50; refine (addSkip w _ st).mono ?_; rintro e w' ⟨rfl, st⟩))
  go_ret
  exact ⟨rfl, st⟩

theorem NewSt.pol {w0 w : World} (h : NewSt w0 w) : PolAt (fun k => w0.heap.size ≤ k) 0 w w0.heap.size (w0.heap.size + 1) (w0.heap.size + 2) (w0.heap.size + 3) (w0.heap.size + 4) (w0.heap.size + 5) [] (fun _ => []) where
  cell := h.cell
  okp := Nat.le_refl _
  oke := by omega
  okn := by omega
  en := by omega
  me := h.e
  mn := h.n
  mi m hm := by
    rcases hm with rfl | ⟨k, hk⟩
    · exact ⟨h.g, by omega, by omega, by omega⟩
    · simp [mget] at hk
  ig := by rintro ⟨k, hk⟩; simp [mget] at hk
  inj k k' m hk := by simp [mget] at hk
  vals k v hk := by simp [mget] at hk
  rows m k v _ hk := by simp [mget] at hk
  rinj m k v m' k' v' _ hk := by simp [mget] at hk
end Go.Proofs.YtlgacgiikmkfcaaGreatDoor
