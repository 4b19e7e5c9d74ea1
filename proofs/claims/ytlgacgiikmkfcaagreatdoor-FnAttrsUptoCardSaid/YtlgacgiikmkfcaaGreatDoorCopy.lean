/- OnElements in one contract for each use; 'append([]string{}, xs...)'. -/
import Derived.Test.YtlgacgiikmkfcaaGreatDoorOn
import Derived.Test.YtlgacgiikmkfcaaGreatDoorBare
import Derived.Deep.AppendSrc
namespace Go.Proofs.YtlgacgiikmkfcaaGreatDoor
open Go.RowKit M
namespace M
def addOn (ns : List ByteArray) (el : El) (x : ByteArray) : El := ns.foldl (fun el a => addAt el x a) el
theorem addOn_nil (els : List ByteArray) (el : El) : els.foldl (addOn []) el = el := by
  induction els generalizing el with
  | nil => rfl
  | cons x r ih => simp only [List.foldl_cons, addOn, List.foldl_nil]; exact ih el
end M

theorem onAttrs (ok : Nat → Prop) (K p q c2 : Nat) (el : El) (gl : ByteArray → Bool) (ns els : List ByteArray) (v : Value) (A2 : Option Addr) (w : World) (hp : PolS ok K w p el gl)
    (hq : Abp w q p v false) (hqo : ¬ ok q) (base : Nat) (hv : w.ownsRow base 9 1 v ns.length (ns.map Value.string)) (hvo : ∀ b, v.ownBlock = some b → ¬ ok b) (hn2 : Names ok w A2 els)
    (hl : ∀ x ∈ els, Low x ∧ x.size ≤ maxLen) (hlen : ns.length ≤ 1048576) (hlen2 : els.length ≤ 1048576) (hK : K + els.length * ns.length ≤ 1048576) :
    Calls Tryz.prog 56 #[.pointer (some ⟨q, 0, none⟩), .slice A2 els.length c2] w fun e w' => e = .returned (.pointer (some ⟨p, 0, none⟩)) ∧
      PolS (fun i => ok i ∨ w.heap.size ≤ i) (K + els.length * ns.length) w' p (els.foldl (addOn ns) el) gl ∧ Off ok w w' := by
  rcases hn2.ex with rfl | ⟨b2, o2, rfl, h1, h2, h3⟩
  · refine (on_none p q c2 A2 v false w hq).mono ?_
    rintro e w' ⟨rfl, rfl⟩
    exact ⟨rfl, hp.mono (fun _ h => .inl h) (by omega), Off.refl _ _⟩
  · obtain ⟨A, c, rfl, hn⟩ := names_of_own hv hvo
    rcases hn.ex with rfl | ⟨b, o, rfl, g1, g2, g3⟩
    · refine (on_empty p q c b2 o2 c2 A els w hq h3 hl hlen2).mono ?_
      rintro e w' ⟨rfl, rfl⟩
      refine ⟨rfl, ?_, Off.refl _ _⟩
      rw [addOn_nil]
      exact hp.mono (fun _ h => .inl h) (by omega)
    · exact on_attrs ok K p q b o c b2 o2 c2 el gl ns els w hp hq hqo g1 g2 g3 h1 h2 h3 hl hlen hlen2 hK

theorem onBare (ok : Nat → Prop) (K p q c2 : Nat) (el : El) (gl : ByteArray → Bool) (els : List ByteArray) (A2 : Option Addr) (w : World) (hp : PolS ok K w p el gl)
    (hq : Abp w q p (.slice none 0 0) true) (hqo : ¬ ok q) (hn2 : Names ok w A2 els) (hl : ∀ x ∈ els, Low x ∧ x.size ≤ maxLen) (hlen2 : els.length ≤ 1048576) :
    Calls Tryz.prog 56 #[.pointer (some ⟨q, 0, none⟩), .slice A2 els.length c2] w fun e w' => e = .returned (.pointer (some ⟨p, 0, none⟩)) ∧
      PolS (fun i => ok i ∨ w.heap.size ≤ i) K w' p (els.foldl addEl el) gl ∧ Off ok w w' := by
  rcases hn2.ex with rfl | ⟨b2, o2, rfl, h1, h2, h3⟩
  · refine (on_none p q c2 A2 _ true w hq).mono ?_
    rintro e w' ⟨rfl, rfl⟩
    exact ⟨rfl, hp.mono (fun _ h => .inl h) (Nat.le_refl _), Off.refl _ _⟩
  · exact on_bare ok K p q b2 o2 c2 el gl els w hp hq hqo h1 h2 h3 hl hlen2

namespace M
theorem PolS.bound {ok : Nat → Prop} {K : Nat} {w : World} {p : Nat} {el : El} {gl : ByteArray → Bool} (h : PolS ok K w p el gl) : PolS (fun i => ok i ∧ i < w.heap.size) K w p el gl := by
  obtain ⟨e, g, u, n, s, LE, L, h1, h2, h3⟩ := h.ex
  refine ⟨e, g, u, n, s, LE, L, ⟨h1.cell, ⟨h1.okp, (Array.getElem?_eq_some_iff.1 h1.cell).1⟩, ⟨h1.oke, h1.me.lt⟩, ⟨h1.okn, by obtain ⟨LN, hN⟩ := h1.mn; exact hN.lt⟩, h1.en, h1.me, h1.mn, fun m hm => ?_, h1.ig, h1.inj, h1.vals, fun m k v hm hv => ?_, h1.rinj⟩, h2, h3⟩
  · obtain ⟨a, b, c⟩ := h1.mi m hm
    exact ⟨a, ⟨b, a.lt⟩, c⟩
  · obtain ⟨r, o⟩ := h1.rows m k v hm hv
    refine ⟨r, fun b hb => ⟨o b hb, ?_⟩⟩
    obtain ⟨b', cells, g1, g2⟩ := r.block
    rw [hb] at g1
    injection g1 with g1
    subst g1
    exact (Array.getElem?_eq_some_iff.1 g2).1

/-- Only new blocks. -/
abbrev Grew (w w' : World) : Prop := Off (fun _ => False) w w'

theorem step_copy {w : World} {ops : Array Oper} {o : Oper} {a : Act} {K : Act → World → Prop} {Q : Exit → Act → World → Prop} {E : Prop} (hgd : o.guard = none) (s x : Operand)
    (ho : o.op = .call { callee := .builtin .append, args := #[s, x], argTypes := #[32, 32] }) (b0 : Nat) (hs : a.eval s = .slice (some ⟨b0, 0, none⟩) 0 0) (A : Option Addr) (c : Nat) (ns : List ByteArray) (ok : Nat → Prop)
    (hx : a.eval x = .slice A ns.length c) (w0 : World) (hn : Names ok w0 A ns) (hg : Grew w0 w) (hlen : ns.length ≤ 1048576)
    (h : ∀ g cap w', Names (fun k => k < w.heap.size) w' (some ⟨g, 0, none⟩) ns → Grew w w' → K (a.put o.dst (.slice (some ⟨g, 0, none⟩) ns.length cap)) w') :
    if Region.wanted o (yielded ops a.tmps) = true then Oper.wp Tryz.prog o a w K Q else E := by
  have hw : Region.wanted o (yielded ops a.tmps) = true := by simp [Region.wanted, hgd]
  rw [if_pos hw]
  obtain ⟨i, hi, hz, h1, h2⟩ := info_parts info9
  have hn' := (hn.off (hg.mono (fun _ h => h.elim)))
  by_cases hns : ns = []
  · subst hns
    have hsrc : Src Tryz.prog i.size 32 (.slice A 0 c) 0 [] w :=
      ⟨.inl ⟨9, Tryz.underlying32⟩, fun _ => rfl, by cases A <;> simp [Builtin.firstCells, loadCells, loadCellsFrom], by cases A <;> simp [Builtin.firstCells, loadCells, loadCellsFrom], by simp, fun _ h => by cases h⟩
    have hrun := run_append_room_src w 32 32 o.type 9 i Tryz.underlying32 hi b0 0 0 0 (.slice A 0 c) 0 [] hsrc (by omega) (fun j hj => by simp at hj) (fun j hj => by simp at hj)
    unfold Oper.wp execOp
    simp only [List.length_nil] at hx
    simp only [ho, resolve, invoke, builtin, Sem.run_bind, Sem.run_pure, Result.andThen_ok, List.map_toArray, List.map_cons, List.map_nil, hs, hx, hrun]
    exact h b0 0 w ⟨.inl rfl⟩ (Off.refl _ _)
  · obtain ⟨b, off, rfl, g1, g2, g3⟩ := hn'.ex.resolve_left hns
    have hlen0 : 0 < ns.length := List.length_pos_iff.2 hns
    · have hsrc : Src Tryz.prog i.size 32 (.slice (some ⟨b, off, none⟩) ns.length c) ns.length (ns.map Value.string) w := by
        refine Src.ofSlice w (e' := 9) Tryz.underlying32 _ _ _ _ (by simp [h1]) (fun j u hu => ?_) (fun u hu => ?_)
        · simp only [List.getElem?_map, Option.map_eq_some_iff] at hu
          obtain ⟨x, hx1, rfl⟩ := hu
          have hadd : (⟨b, off, none⟩ : Addr).add j = ⟨b, off + j, none⟩ := by unfold Addr.add; split <;> simp_all
          rw [hadd]
          exact g3 j x hx1
        · obtain ⟨x, _, rfl⟩ := List.mem_map.1 hu
          rfl
      have hrun := run_append_grow_src w 32 32 o.type 9 i (.string ⟨#[]⟩) Tryz.underlying32 hi hz (some ⟨b0, 0, none⟩) 0 0 [] (by simp [Builtin.firstCells, loadCells, loadCellsFrom]) (.slice (some ⟨b, off, none⟩) ns.length c) ns.length (ns.map Value.string) hsrc (by omega) (by omega) (by rw [h2]; unfold Builtin.nextslicecap; rw [if_pos (by omega)]; omega)
      unfold Oper.wp execOp
      simp only [ho, resolve, invoke, builtin, Sem.run_bind, Sem.run_pure, Result.andThen_ok, List.map_toArray, List.map_cons, List.map_nil, hs, hx, hrun]
      rw [Nat.zero_add]
      refine h w.heap.size _ _ ⟨.inr ⟨w.heap.size, 0, rfl, by omega, by simp, fun j x hx1 => ?_⟩⟩ (((Off.refl _ _).drew).alloc _)
      have hj : j < ns.length := (List.getElem?_eq_some_iff.1 hx1).1
      have hb := heap_alloc_new w.drew (.cells (([] ++ ns.map Value.string).toArray ++ Builtin.zeroCells (Value.string ⟨#[]⟩).cells (grownCap w (0 + ns.length) 0 9 - (0 + ns.length))) 9)
      rw [Nat.zero_add] at hb
      have hb' : (w.drew.alloc (.cells (([] ++ ns.map Value.string).toArray ++ Builtin.zeroCells (Value.string ⟨#[]⟩).cells (grownCap w ns.length 0 9 - ns.length)) 9)).heap[w.heap.size]? = _ := hb
      simp only [World.cell?, hb', Nat.zero_add]
      simp [Array.getElem?_append, hj]
      rw [List.getElem?_eq_getElem hj] at hx1
      injection hx1
end M
end Go.Proofs.YtlgacgiikmkfcaaGreatDoor
