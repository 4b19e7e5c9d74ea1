/- AllowElements and AllowNoAttrs. -/
import Derived.Test.YtlgacgiikmkfcaaGreatDoorNew
namespace Go.Proofs.YtlgacgiikmkfcaaGreatDoor
open Go.RowKit M
namespace M
abbrev El := ByteArray → Option (ByteArray → Bool)
def addEl (el : El) (x : ByteArray) : El := if (el x).isSome then el else fun y => if x = y then some (fun _ => false) else el y

structure PolS (ok : Nat → Prop) (K : Nat) (w : World) (p : Nat) (el : El) (gl : ByteArray → Bool) : Prop where
  ex : ∃ e g u n s LE L, PolAt ok K w p e g u n s LE L ∧ elOf LE L = el ∧ glOf L g = gl

theorem elOf_none {LE : List (ByteArray × Value)} {L : Nat → List (ByteArray × Value)} {k : ByteArray} (h : mget LE k = none) : elOf LE L k = none := by simp [elOf, h]
theorem elOf_some {LE : List (ByteArray × Value)} {L : Nat → List (ByteArray × Value)} {k : ByteArray} {m : Nat} (h : mget LE k = some (.map (some m))) : elOf LE L k = some (fun a => (mget (L m) a).isSome) := by simp [elOf, h]

theorem elOf_addEl {LE : List (ByteArray × Value)} {L : Nat → List (ByteArray × Value)} {k : ByteArray} {H : Nat} (hH : ¬ Inn LE H) :
    elOf (mput LE k (.map (some H))) (fun x => if x = H then [] else L x) = fun y => if k = y then some (fun _ => false) else elOf LE L y := by
  funext y
  unfold elOf
  rw [mget_mput]
  by_cases h : k = y
  · simp [h, mget]
  · simp only [if_neg h]
    split
    · next m hm =>
      have : m ≠ H := by
        rintro rfl
        exact hH ⟨y, hm⟩
      simp [this]
    · rfl

/-- A list of names in memory that ok does not reach. -/
structure Names (ok : Nat → Prop) (w : World) (A : Option Addr) (ns : List ByteArray) : Prop where
  ex : ns = [] ∨ ∃ b o, A = some ⟨b, o, none⟩ ∧ ¬ ok b ∧ b < w.heap.size ∧ ∀ i x, ns[i]? = some x → w.cell? ⟨b, o + i, none⟩ = some (.string x)
theorem Names.off {ok : Nat → Prop} {w w' : World} {A : Option Addr} {ns : List ByteArray} (h : Names ok w A ns) (ho : Off ok w w') : Names ok w' A ns := by
  rcases h.ex with h | ⟨b, o, rfl, h1, h2, h3⟩
  · exact ⟨.inl h⟩
  · refine ⟨.inr ⟨b, o, rfl, h1, Nat.lt_of_lt_of_le h2 ho.size, fun i x hx => ?_⟩⟩
    rw [World.cell?_of_block (ho.block b h2 h1)]
    exact h3 i x hx
theorem Names.mono {ok ok' : Nat → Prop} {w : World} {A : Option Addr} {ns : List ByteArray} (h : Names ok w A ns) (hm : ∀ k, k < w.heap.size → ok' k → ok k) : Names ok' w A ns := by
  rcases h.ex with h | ⟨b, o, rfl, h1, h2, h3⟩
  · exact ⟨.inl h⟩
  · exact ⟨.inr ⟨b, o, rfl, fun x => h1 (hm b h2 x), h2, h3⟩⟩
theorem Names.get {ok : Nat → Prop} {w : World} {A : Option Addr} {ns : List ByteArray} (h : Names ok w A ns) (i : Nat) (hi : i < ns.length) : ∃ b o, A = some ⟨b, o, none⟩ ∧ w.cell? ⟨b, o + i, none⟩ = some (.string ns[i]) := by
  rcases h.ex with h | ⟨b, o, rfl, h1, h2, h3⟩
  · subst h; simp at hi
  · exact ⟨b, o, rfl, h3 i _ (List.getElem?_eq_getElem hi)⟩

theorem pc {ok : Nat → Prop} {K : Nat} {w : World} {p e g u n s : Nat} {LE : List (ByteArray × Value)} {L : Nat → List (ByteArray × Value)} (h : PolAt ok K w p e g u n s LE L) (i : Nat) : w.cell? ⟨p, i, none⟩ = (pcells e g u n s)[i]? := by
  simp [World.cell?, h.cell]

theorem foldl_take_succ {α β : Type} (f : β → α → β) (l : List α) (x : β) (k : Nat) (h : k < l.length) : (l.take (k + 1)).foldl f x = f ((l.take k).foldl f x) l[k] := by
  rw [List.take_succ_eq_append_getElem h, List.foldl_append]; rfl
end M

namespace M
theorem PolS.mono {ok ok' : Nat → Prop} {K K' : Nat} {w : World} {p : Nat} {el : El} {gl : ByteArray → Bool} (h : PolS ok K w p el gl) (hok : ∀ k, ok k → ok' k) (hK : K ≤ K') : PolS ok' K' w p el gl := by
  obtain ⟨e, g, u, n, s, LE, L, h1, h2, h3⟩ := h.ex
  exact ⟨e, g, u, n, s, LE, L, h1.mono hok hK, h2, h3⟩
theorem PolS.move {ok : Nat → Prop} {K : Nat} {w w' : World} {p : Nat} {el : El} {gl : ByteArray → Bool} (h : PolS ok K w p el gl) (hm : ∀ k, ok k → k < w.heap.size → w'.heap[k]? = w.heap[k]?) : PolS ok K w' p el gl := by
  obtain ⟨e, g, u, n, s, LE, L, h1, h2, h3⟩ := h.ex
  exact ⟨e, g, u, n, s, LE, L, h1.move hm, h2, h3⟩
/-- An element that is there already. -/
theorem pol_there {LE : List (ByteArray × Value)} {L : Nat → List (ByteArray × Value)} {x : ByteArray} {m : Nat} (h : mget LE x = some (.map (some m))) : addEl (elOf LE L) x = elOf LE L := by
  simp [addEl, elOf_some h]
theorem pol_new {ok : Nat → Prop} {K : Nat} {w w' : World} {p e g u n s : Nat} {LE : List (ByteArray × Value)} {L : Nat → List (ByteArray × Value)} (h : PolAt ok K w p e g u n s LE L)
    (x : ByteArray) (hx : mget LE x = none) (hU : MapIs w' e (mput LE x (.map (some w.heap.size)))) (hg : (w.alloc (.map #[] 0)).grownBy w' (some e)) :
    PolS (fun i => ok i ∨ w.heap.size ≤ i) K w' p (addEl (elOf LE L) x) (glOf L g) := by
  have hH : ¬ Inn LE w.heap.size := fun hi => by have := (h.mi _ (.inr hi)).1.lt; omega
  refine ⟨e, g, u, n, s, _, _, h.addEl x hU hg, ?_, ?_⟩
  · rw [elOf_addEl hH]
    simp [addEl, elOf_none hx]
  · funext a
    have : g ≠ w.heap.size := by have := (h.mi g (.inl rfl)).1.lt; omega
    simp [glOf, this]
theorem zero84 (w : World) : (zeroValue 84).run Tryz.prog w = .ok (.map none) w := by kernel_rfl
theorem zero116 (w : World) : (zeroValue 116).run Tryz.prog w = .ok (.slice none 0 0) w := by kernel_rfl
theorem look_yes {w : World} {b : Nat} {L : List (ByteArray × Value)} (hm : MapIs w b L) (k : ByteArray) {v : Value} (hv : mget L k = some v) :
    (Instr.lookup 86 (.map (some b)) (.string k) true).run Tryz.prog w = .ok (.tuple #[v, .bool true]) w := run_lookup_yes Tryz.underlying86 Tryz.underlying9 hm k hv true
theorem look_no {w : World} {b : Nat} {L : List (ByteArray × Value)} (hm : MapIs w b L) (k : ByteArray) (hv : mget L k = none) :
    (Instr.lookup 86 (.map (some b)) (.string k) true).run Tryz.prog w = .ok (.tuple #[.map none, .bool false]) w := run_lookup_no Tryz.underlying86 Tryz.underlying9 hm k hv (zero84 w) true
end M

set_option maxRecDepth 100000 in
set_option maxHeartbeats 4000000 in
theorem allowElements_some (ok : Nat → Prop) (K p c : Nat) (el : El) (gl : ByteArray → Bool) (b o : Nat) (ns : List ByteArray) (w : World) (hp : PolS ok K w p el gl)
    (hb : ¬ ok b) (hbl : b < w.heap.size) (hn : ∀ i x, ns[i]? = some x → w.cell? ⟨b, o + i, none⟩ = some (.string x))
    (hl : ∀ x ∈ ns, Low x ∧ x.size ≤ maxLen) (hlen : ns.length ≤ 1048576) :
    Calls Tryz.prog 53 #[.pointer (some ⟨p, 0, none⟩), .slice (some ⟨b, o, none⟩) ns.length c] w fun e w' => e = .returned (.pointer (some ⟨p, 0, none⟩)) ∧
      PolS (fun i => ok i ∨ w.heap.size ≤ i) K w' p (ns.foldl addEl el) gl ∧ Off ok w w' := by
  have HP := Lib.hid hp
  have HN := Lib.hid hn
  have HL := Lib.hid hl
  have HB := Lib.hid hb
  obtain ⟨e0, g0, u0, n0, s0, LE0, L0, hpa, _, _⟩ := hp.ex
  have hc0 : w.cell? ⟨p, 0, none⟩ = some (.bool true) := by rw [pc hpa]; rfl
  clear hp hn hl hpa hb
  have hmm := @run_makeMap Tryz.prog
  go_enter Tryz.func53, Tryz.ntmps53
  go_wp2_with (go_at_call 44; refine (init_done _ _ hc0).mono ?_; rintro e w' ⟨rfl, rfl⟩)
  clear hc0
  go_loopw [13] (fun i wr => ∃ k : Nat, k ≤ ns.length ∧ i = .int .i64 k ∧ Hid (PolS (fun i => ok i ∨ w.heap.size ≤ i) K wr p ((ns.take k).foldl addEl el) gl) ∧ Hid (Off ok w wr)) (fun i _ => ns.length - (intOf i).toNat)
  case atStart => exact ⟨0, Nat.zero_le _, rfl, Lib.hid (HP.out.mono (fun _ h => .inl h) (Nat.le_refl _)), Lib.hid (Off.refl _ _)⟩
  case round =>
    obtain ⟨k, hk, rfl, HPr, HO⟩ := hrel
    by_cases hlt : k < ns.length
    · have hcell : wr.cell? ⟨b, o + k, none⟩ = some (.string ns[k]) := by
        rw [World.cell?_of_block (HO.out.block b hbl HB.out)]
        exact HN.out k _ (List.getElem?_eq_getElem hlt)
      obtain ⟨hlow, hsz⟩ := HL.out _ (List.getElem_mem hlt)
      have HT := Lib.hid (toLower_low ns[k] wr hsz hlow)
      have HF := Lib.hid (foldl_take_succ addEl ns el k hlt)
      clear hlow hsz
      obtain ⟨e1, g1, u1, n1, s1, LE, L, hpa, hel, hgl⟩ := HPr.out.ex
      have HE := Lib.hid hel
      have HG := Lib.hid hgl
      have HPA := Lib.hid hpa
      have hc13 : wr.cell? ⟨p, 13, none⟩ = some (.map (some e1)) := by rw [pc hpa]; rfl
      have hme := hpa.me
      clear hel hgl
      generalize hx : ns[k] = x at *
      clear hx
      cases hg : mget LE x with
      | some v =>
        obtain ⟨m, rfl⟩ := hpa.vals x v hg
        have hlk := look_yes hme x hg
        have HK := Lib.hid hg
        clear hg hpa hme
        go_wp2_with (go_at_call 102; refine (HT.out).mono ?_; rintro e w' ⟨rfl, rfl⟩)
        go_roundw
        case rel =>
          refine ⟨k + 1, by omega, by go_num, Lib.hid ?_, HO⟩
          rw [HF.out, ← HE.out, pol_there HK.out, HE.out]
          exact HPr.out
        case measure => simp [intOf]; omega
      | none =>
        have hlk := look_no hme x hg
        have HK := Lib.hid hg
        have HM := Lib.hid hme
        clear hg hpa hme
        go_wp2_with (first | (go_at_call 102; refine (HT.out).mono ?_; rintro e w' ⟨rfl, rfl⟩) | (at_mapUpdate; refine wpList_update_raw _ rfl _ _ _ 86 rfl 9 84 Tryz.underlying86 Tryz.underlying9 e1 LE (HM.out.move (Below.heap_alloc _ _ _ HM.out.lt)) rfl x rfl _ rfl ?_; intro w2 hU hgr _; clear hc13 hlk))
        go_roundw
        case rel =>
          refine ⟨k + 1, by omega, by go_num, Lib.hid ?_, Lib.hid ?_⟩
          · rw [HF.out, ← HE.out, ← HG.out]
            exact (pol_new HPA.out x HK.out hU hgr).mono (fun i hi => by
              have := HO.out.size
              rcases hi with h | h
              · exact h
              · exact .inr (by omega)) (Nat.le_refl _)
          · exact (HO.out.alloc _).grown hgr (fun j hj hlt' => by
              injection hj with hj
              subst hj
              rcases HPA.out.oke with h | h
              · exact h
              · omega)
        case measure => simp [intOf]; omega
    · go_wp2
      go_ret
      obtain rfl : k = ns.length := by omega
      rw [List.take_length] at HPr
      exact ⟨rfl, HPr.out, HO.out⟩

set_option maxRecDepth 100000 in
set_option maxHeartbeats 4000000 in
theorem allowElements_none (p c : Nat) (A : Option Addr) (w : World) (hc0 : w.cell? ⟨p, 0, none⟩ = some (.bool true)) :
    Calls Tryz.prog 53 #[.pointer (some ⟨p, 0, none⟩), .slice A 0 c] w fun e w' => e = .returned (.pointer (some ⟨p, 0, none⟩)) ∧ w = w' := by
  go_enter Tryz.func53, Tryz.ntmps53
  go_wp2_with (go_at_call 44; refine (init_done _ _ hc0).mono ?_; rintro e w' ⟨rfl, rfl⟩)
  clear hc0
  go_loop [13] (fun i => i = .int .i64 0) (fun _ => 0)
  case atStart => rfl
  case round =>
    obtain rfl := hrel
    go_wp2
    go_ret
    exact ⟨rfl, rfl⟩

theorem allowElements (ok : Nat → Prop) (K p c : Nat) (el : El) (gl : ByteArray → Bool) (A : Option Addr) (ns : List ByteArray) (w : World) (hp : PolS ok K w p el gl) (hn : Names ok w A ns)
    (hl : ∀ x ∈ ns, Low x ∧ x.size ≤ maxLen) (hlen : ns.length ≤ 1048576) :
    Calls Tryz.prog 53 #[.pointer (some ⟨p, 0, none⟩), .slice A ns.length c] w fun e w' => e = .returned (.pointer (some ⟨p, 0, none⟩)) ∧
      PolS (fun i => ok i ∨ w.heap.size ≤ i) K w' p (ns.foldl addEl el) gl ∧ Off ok w w' := by
  rcases hn.ex with rfl | ⟨b, o, rfl, h1, h2, h3⟩
  · obtain ⟨e0, g0, u0, n0, s0, LE0, L0, hpa, _, _⟩ := hp.ex
    refine (allowElements_none p c A w (by rw [pc hpa]; rfl)).mono ?_
    rintro e w' ⟨rfl, rfl⟩
    exact ⟨rfl, hp.mono (fun _ h => .inl h) (Nat.le_refl _), Off.refl _ _⟩
  · exact allowElements_some ok K p c el gl b o ns w hp h1 h2 h3 hl hlen

/-- A builder in memory. -/
def Abp (w : World) (q p : Nat) (v : Value) (empty : Bool) : Prop := w.heap[q]? = some (.cells #[.pointer (some ⟨p, 0, none⟩), v, .int .u8 0, .bool empty] 125 (0, 0))

set_option maxRecDepth 100000 in
theorem allowNoAttrs (p : Nat) (w : World) (hc0 : w.cell? ⟨p, 0, none⟩ = some (.bool true)) :
    Calls Tryz.prog 61 #[.pointer (some ⟨p, 0, none⟩)] w fun e w' => e = .returned (.pointer (some ⟨w.heap.size, 0, none⟩)) ∧
      w' = w.alloc (.cells #[.pointer (some ⟨p, 0, none⟩), .slice none 0 0, .int .u8 0, .bool true] 125) := by
  go_enter Tryz.func61, Tryz.ntmps61
  go_wp2_with (go_at_call 44; refine (init_done _ _ hc0).mono ?_; rintro e w' ⟨rfl, rfl⟩)
  go_ret
  exact ⟨rfl, rfl⟩
end Go.Proofs.YtlgacgiikmkfcaaGreatDoor
