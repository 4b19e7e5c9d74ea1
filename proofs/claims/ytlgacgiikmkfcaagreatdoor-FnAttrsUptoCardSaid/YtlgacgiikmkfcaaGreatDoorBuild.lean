/- AllowAttrs: the builder and its names. -/
import Derived.Test.YtlgacgiikmkfcaaGreatDoorElem
import Derived.Deep.RegionHeld3
import Derived.Deep.RegionLaw
import Derived.Deep.AppendLies
import Derived.Deep.DrawnRows
import Derived.StillTactics
import Derived.OwnWalk
import Derived.Laws.Pointers
namespace Go.Proofs.YtlgacgiikmkfcaaGreatDoor
open Go.RowKit M
namespace M
theorem info9 : (Tryz.prog.info? 9).map (fun i => (i.zero, i.size, i.bytes)) = some (some (.string ⟨#[]⟩), 1, 16) := by kernel_rfl
/-- The builder at H with k names in its row. -/
structure Bld (H p : Nat) (w0 w : World) (v : Value) (l : List ByteArray) : Prop where
  abp : Abp w H p v false
  own : w.ownsRow (H + 1) 9 1 v l.length (l.map Value.string)
  bel : Below H w0 w
theorem Bld.cell {H p : Nat} {w0 w : World} {v : Value} {l : List ByteArray} (h : Bld H p w0 w v l) : w.cell? ⟨H, 1, none⟩ = some v := by
  have := h.abp
  unfold Abp at this
  simp [World.cell?, this]
theorem Bld.ne {H p : Nat} {w0 w : World} {v : Value} {l : List ByteArray} (h : Bld H p w0 w v l) : v.ownBlock ≠ some H := fun e => by
  have := (h.own.lt H e).1
  omega
theorem Bld.lt {H p : Nat} {w0 w : World} {v : Value} {l : List ByteArray} (h : Bld H p w0 w v l) : H < w.heap.size := (Array.getElem?_eq_some_iff.1 h.abp).1
theorem grownBy_cell (W : World) (b i : Nat) (v : Value) : W.grownBy (W.setCell ⟨b, i, none⟩ v) (some b) :=
  ⟨rfl, rfl, rfl, by simp [World.setCell], fun k _ hk => Below.heap_setCell _ _ _ _ (fun e => hk (by rw [e]))⟩
theorem Bld.push {H p : Nat} {w0 wr W w1 : World} {v v' : Value} {l : List ByteArray} {x : ByteArray} (h : Bld H p w0 wr v l) (hW : Below wr.heap.size wr W) (hg : W.grownBy w1 v.ownBlock)
    (hown : w1.ownsRow (H + 1) 9 1 v' (l.length + 1) (l.map Value.string ++ [.string x])) : Bld H p w0 (w1.setCell ⟨H, 1, none⟩ v') v' (l ++ [x]) := by
  have hne : v'.ownBlock ≠ some H := fun e => by have := (hown.lt H e).1; omega
  refine ⟨?_, ?_, ?_⟩
  · have h1 : w1.heap[H]? = some (.cells #[.pointer (some ⟨p, 0, none⟩), v, .int .u8 0, .bool false] 125 (0, 0)) := by
      rw [hg.block H (Nat.lt_of_lt_of_le h.lt hW.size) (Ne.symm h.ne), hW.block H h.lt]
      exact h.abp
    unfold Abp World.setCell
    rw [Array.getElem?_modify, if_pos rfl, h1]
    rfl
  · have := hown.kept (grownBy_cell w1 H 1 v') (.inr hne)
    simpa using this
  · refine (h.bel.trans ((hW.mono (by have := h.lt; omega)).grown hg (by have := h.lt; have := hW.size; omega) (fun k hk => ?_))).setCell (Nat.le_refl _) _
    have := (h.own.lt k hk).1
    omega
end M

set_option maxRecDepth 100000 in
set_option maxHeartbeats 4000000 in
theorem allowAttrs_some (p c : Nat) (b o : Nat) (ns : List ByteArray) (w : World) (hc0 : w.cell? ⟨p, 0, none⟩ = some (.bool true))
    (hbl : b < w.heap.size) (hn : ∀ i x, ns[i]? = some x → w.cell? ⟨b, o + i, none⟩ = some (.string x))
    (hl : ∀ x ∈ ns, Low x ∧ x.size ≤ maxLen) (hlen : ns.length ≤ 1048576) :
    Calls Tryz.prog 54 #[.pointer (some ⟨p, 0, none⟩), .slice (some ⟨b, o, none⟩) ns.length c] w fun e w' => e = .returned (.pointer (some ⟨w.heap.size, 0, none⟩)) ∧
      ∃ v, Bld w.heap.size p w w' v ns := by
  have HN := Lib.hid hn
  have HL := Lib.hid hl
  clear hn hl
  obtain ⟨i0, hi0, hz0, hz1, hz2⟩ := info_parts info9
  go_enter Tryz.func54, Tryz.ntmps54
  go_wp2_with (go_at_call 44; refine (init_done _ _ hc0).mono ?_; rintro e w' ⟨rfl, rfl⟩)
  clear hc0
  have hst : Bld w.heap.size p w (w.alloc (.cells #[.pointer (some ⟨p, 0, none⟩), .slice none 0 0, .int .u8 0, .bool false] 125)) (.slice none 0 0) [] :=
    ⟨heap_alloc_new w _, World.ownsRow_nil _ _ _ _, (Below.refl _ _).alloc (Nat.le_refl _) _⟩
  have HST := Lib.hid hst
  clear hst
  go_loopw [14] (fun i wr => ∃ (k : Nat) (v : Value), k ≤ ns.length ∧ i = .int .i64 k ∧ Hid (Bld w.heap.size p w wr v (ns.take k))) (fun i _ => ns.length - (intOf i).toNat)
  case atStart => exact ⟨0, _, Nat.zero_le _, rfl, HST⟩
  case round =>
    obtain ⟨k, v, hk, rfl, HR⟩ := hrel
    by_cases hlt : k < ns.length
    · have hcell : wr.cell? ⟨b, o + k, none⟩ = some (.string ns[k]) := by
        rw [World.cell?_of_block (HR.out.bel.block b hbl)]
        exact HN.out k _ (List.getElem?_eq_getElem hlt)
      obtain ⟨hlow, hsz⟩ := HL.out _ (List.getElem_mem hlt)
      have HT := Lib.hid (fun W => toLower_low ns[k] W hsz hlow)
      have HF := Lib.hid (List.take_succ_eq_append_getElem (l := ns) (i := k) hlt)
      clear hlow hsz
      have hlk : (ns.take k).length = k := by simp; omega
      have hown := HR.out.own
      rw [hlk] at hown
      have HOWN := Lib.hid hown
      have hc1 := HR.out.cell
      have hz := HR.out.lt
      have hfz : wr.frozen? ⟨w.heap.size, 1, none⟩ = false := by
        have := HR.out.abp
        unfold Abp at this
        simp [World.frozen?, this]
      have hfz2 : ∀ ob, (wr.alloc ob).frozen? ⟨w.heap.size, 1, none⟩ = false := fun ob => by rw [World.frozen?_alloc_past _ _ _ hz]; exact hfz
      have hc2 : ∀ ob, (wr.alloc ob).cell? ⟨w.heap.size, 1, none⟩ = some v := fun ob => by rw [World.cell?_alloc_lt _ _ _ hz]; exact hc1
      have hne := HR.out.ne
      have HNE := Lib.hid hne
      have HLK := Lib.hid hlk
      clear hown hne hlk
      generalize hx : ns[k] = x at *
      clear hx
      go_wp2_with fail
      go_region_law
        (first
          | (go_simp; go_at_call 102; refine (HT.out _).mono ?_; rintro e w' ⟨rfl, rfl⟩)
          | (refine step_append_lies _ (by rfl) _ _ _ (by rfl) (w.heap.size + 1) 9 i0 _ 1 16 Tryz.underlying32 hi0 hz0 hz1 hz2 rfl (by omega) v k _ (by rfl) (by first | exact (HOWN.out.alloc _).drew | exact (HOWN.out.drew.alloc _))
              ⟨wr.heap.size, 0, none⟩ 1 1 [.string x] (by rfl) (by rfl) (World.news_of_block (cs := #[.string x]) (t := 9) (fr := (0, 0)) (heap_alloc_new wr _)) (by simp [Value.oneCell'])
              (by omega) (by unfold maxLen; omega) (by omega) (by simp; omega) (wr.heap.size + 1) (by simp) ?_; intro gg cap w1 hown1 hgrow hat hlt1; have g1 : w1.cell? ⟨w.heap.size, 1, none⟩ = some v := (hgrow.cell_far _ (by simp; omega) (Ne.symm HNE.out)).trans (hc2 _); have g2 : w1.frozen? ⟨w.heap.size, 1, none⟩ = false := (hgrow.frozen_far _ (by simp; omega) (Ne.symm HNE.out)).trans (hfz2 _)))
      all_goals
        go_wp2
        go_roundw
        case rel =>
          refine ⟨k + 1, .slice (some ⟨gg, 0, none⟩) (k + 1) cap, by omega, by go_num, Lib.hid ?_⟩
          rw [HF.out]
          refine HR.out.push (((Below.refl _ _).alloc (Nat.le_refl _) _).drew) hgrow ?_
          rw [HLK.out]
          exact hown1
        case measure => simp [intOf]; omega
    · go_wp2
      go_ret
      obtain rfl : k = ns.length := by omega
      rw [List.take_length] at HR
      exact ⟨rfl, v, HR.out⟩

set_option maxRecDepth 100000 in
set_option maxHeartbeats 4000000 in
theorem allowAttrs_none (p c : Nat) (A : Option Addr) (w : World) (hc0 : w.cell? ⟨p, 0, none⟩ = some (.bool true)) :
    Calls Tryz.prog 54 #[.pointer (some ⟨p, 0, none⟩), .slice A 0 c] w fun e w' => e = .returned (.pointer (some ⟨w.heap.size, 0, none⟩)) ∧
      w' = w.alloc (.cells #[.pointer (some ⟨p, 0, none⟩), .slice none 0 0, .int .u8 0, .bool false] 125) := by
  go_enter Tryz.func54, Tryz.ntmps54
  go_wp2_with (go_at_call 44; refine (init_done _ _ hc0).mono ?_; rintro e w' ⟨rfl, rfl⟩)
  clear hc0
  go_loop [14] (fun i => i = .int .i64 0) (fun _ => 0)
  case atStart => rfl
  case round =>
    obtain rfl := hrel
    go_wp2
    go_ret
    exact ⟨rfl, rfl⟩

theorem allowAttrs (ok : Nat → Prop) (p c : Nat) (A : Option Addr) (ns : List ByteArray) (w : World) (hc0 : w.cell? ⟨p, 0, none⟩ = some (.bool true)) (hn : Names ok w A ns)
    (hl : ∀ x ∈ ns, Low x ∧ x.size ≤ maxLen) (hlen : ns.length ≤ 1048576) :
    Calls Tryz.prog 54 #[.pointer (some ⟨p, 0, none⟩), .slice A ns.length c] w fun e w' => e = .returned (.pointer (some ⟨w.heap.size, 0, none⟩)) ∧
      ∃ v, Bld w.heap.size p w w' v ns := by
  rcases hn.ex with rfl | ⟨b, o, rfl, h1, h2, h3⟩
  · refine (allowAttrs_none p c A w hc0).mono ?_
    rintro e w' ⟨rfl, rfl⟩
    exact ⟨rfl, .slice none 0 0, heap_alloc_new w _, World.ownsRow_nil _ _ _ _, (Below.refl _ _).alloc (Nat.le_refl _) _⟩
  · exact allowAttrs_some p c b o ns w hc0 h2 h3 hl hlen
end Go.Proofs.YtlgacgiikmkfcaaGreatDoor
