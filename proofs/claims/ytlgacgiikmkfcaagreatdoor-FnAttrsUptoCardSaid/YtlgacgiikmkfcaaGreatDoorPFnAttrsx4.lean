-- PRINTED BY print.sh 35421559b90ae4d0a3588c463048766b98c2df88dd9212a6774a882060cdf62d: not written by this session
import Derived.Test.YtlgacgiikmkfcaaGreatDoorPFnAttrsx0
import Derived.Test.YtlgacgiikmkfcaaGreatDoorPFnAttrsx1
namespace Go.Proofs.YtlgacgiikmkfcaaGreatDoor.PFnAttrs
open Go.RowKit Go.Proofs.YtlgacgiikmkfcaaGreatDoorW.PrintWords Go.Proofs.YtlgacgiikmkfcaaGreatDoorW.PrintLast Go.Proofs.YtlgacgiikmkfcaaGreatDoorW.PrintMore
attribute [local go_sem] max2_int min2_int max_two min_two max_three min_three max_four min_four   -- for this text's walks alone
set_option linter.unusedVariables false
set_option linter.unusedSimpArgs false

/-! ### spec_Policy_Element: function 18 -/
mutual
def spec_Policy_Element.j0 : Nat → ByteArray → Bool → List ByteArray → List (S63) → List ByteArray → List ByteArray → List ByteArray → Bool → Option (Bool)
  | 0, _, _, _, _, _, _, _, _ => none
  | k + 1, x1, x16, x152000, x152001, x152002, x152003, x152004, x152005 => if x16 = true then (some true) else (spec_Policy_Element.l0 k x1 x152001 (x152001.length : Int) 0)
def spec_Policy_Element.l0 : Nat → ByteArray → List (S63) → Int → Int → Option (Bool)
  | 0, _, _, _, _ => none
  | k + 1, x1, x18, x19, x20 => if x20 < x19 then (if 0 ≤ x20 then (if x20 < (x18.length : Int) then ((spec_Has.f k ((rd_T63 x18 x20).f1) x1).bind fun t156 => (if t156 = true then (some true) else (spec_Policy_Element.l0 k x1 x18 x19 (wrap64 (x20 + 1))))) else (none)) else (none)) else (some false)
end
def spec_Policy_Element.f (k : Nat) (l0_0 : List ByteArray) (l0_1 : List (S63)) (l0_2 : List ByteArray) (l0_3 : List ByteArray) (l0_4 : List ByteArray) (a0_5 : Bool) (a1 : ByteArray) : Option (Bool) := (spec_Has.f k l0_0 a1).bind fun t152 => (if t152 = true then (spec_Policy_Element.j0 k a1 true l0_0 l0_1 l0_2 l0_3 l0_4 a0_5) else ((spec_Has.f k l0_2 a1).bind fun t153 => (spec_Policy_Element.j0 k a1 t153 l0_0 l0_1 l0_2 l0_3 l0_4 a0_5)))
theorem spec_Policy_Element.mono_l : ∀ k, (∀ y0 y1 y2 y3 y4 y5 y6 y7, LeO (spec_Policy_Element.j0 k y0 y1 y2 y3 y4 y5 y6 y7) (spec_Policy_Element.j0 (k + 1) y0 y1 y2 y3 y4 y5 y6 y7)) ∧ (∀ y0 y1 y2 y3, LeO (spec_Policy_Element.l0 k y0 y1 y2 y3) (spec_Policy_Element.l0 (k + 1) y0 y1 y2 y3))
  | 0 => ⟨fun _ _ _ _ _ _ _ _ r h => by simp [spec_Policy_Element.j0] at h, fun _ _ _ _ r h => by simp [spec_Policy_Element.l0] at h⟩
  | k + 1 => by
    obtain ⟨ih0, ih1⟩ := spec_Policy_Element.mono_l k
    refine ⟨?_, ?_⟩
    · intro y0 y1 y2 y3 y4 y5 y6 y7
      unfold spec_Policy_Element.j0
      repeat' first
      | (with_reducible exact ih0 _ _ _ _ _ _ _ _)
      | (with_reducible exact ih1 _ _ _ _)
      | (with_reducible exact spec_Has.mono _ _ _)
      | (with_reducible exact LeO.refl _)
      | (with_reducible exact LeO.none _)
      | (with_reducible refine LeO.ite ?_ ?_)
      | (with_reducible refine LeO.bind ?_ (fun _ => ?_))
      | exact ih0 _ _ _ _ _ _ _ _
      | exact ih1 _ _ _ _
      | exact spec_Has.mono _ _ _
      | exact LeO.none _
      | refine LeO.ite ?_ ?_
      | refine LeO.bind ?_ (fun _ => ?_)
    · intro y0 y1 y2 y3
      unfold spec_Policy_Element.l0
      repeat' first
      | (with_reducible exact ih0 _ _ _ _ _ _ _ _)
      | (with_reducible exact ih1 _ _ _ _)
      | (with_reducible exact spec_Has.mono _ _ _)
      | (with_reducible exact LeO.refl _)
      | (with_reducible exact LeO.none _)
      | (with_reducible refine LeO.ite ?_ ?_)
      | (with_reducible refine LeO.bind ?_ (fun _ => ?_))
      | exact ih0 _ _ _ _ _ _ _ _
      | exact ih1 _ _ _ _
      | exact spec_Has.mono _ _ _
      | exact LeO.none _
      | refine LeO.ite ?_ ?_
      | refine LeO.bind ?_ (fun _ => ?_)
theorem spec_Policy_Element.mono : ∀ a0 a1 a2 a3 a4 a5 a6 k, LeO (spec_Policy_Element.f k a0 a1 a2 a3 a4 a5 a6) (spec_Policy_Element.f (k + 1) a0 a1 a2 a3 a4 a5 a6) := by
  intro a0 a1 a2 a3 a4 a5 a6 k
  obtain ⟨ih0, ih1⟩ := spec_Policy_Element.mono_l k
  unfold spec_Policy_Element.f
  repeat' first
      | (with_reducible exact ih0 _ _ _ _ _ _ _ _)
      | (with_reducible exact ih1 _ _ _ _)
      | (with_reducible exact spec_Has.mono _ _ _)
      | (with_reducible exact LeO.refl _)
      | (with_reducible exact LeO.none _)
      | (with_reducible refine LeO.ite ?_ ?_)
      | (with_reducible refine LeO.bind ?_ (fun _ => ?_))
      | exact ih0 _ _ _ _ _ _ _ _
      | exact ih1 _ _ _ _
      | exact spec_Has.mono _ _ _
      | exact LeO.none _
      | refine LeO.ite ?_ ?_
      | refine LeO.bind ?_ (fun _ => ?_)
set_option maxHeartbeats 8000000 in
set_option maxRecDepth 100000 in
theorem spec_Policy_Element.calls (k : Nat) (A0_0 : Option Addr) (c0_0 : Nat) (l0_0 : List ByteArray) (A0_1 : Option Addr) (c0_1 : Nat) (l0_1 : List (S63)) (A0_2 : Option Addr) (c0_2 : Nat) (l0_2 : List ByteArray) (A0_3 : Option Addr) (c0_3 : Nat) (l0_3 : List ByteArray) (A0_4 : Option Addr) (c0_4 : Nat) (l0_4 : List ByteArray) (a0_5 : Bool) (a1 : ByteArray) (r : Bool) (w : World) (hr0_0 : Kd.C Kd.string w A0_0 l0_0.length l0_0) (hc0_0 : l0_0.length ≤ c0_0) (hr0_1 : Kd.C k63 w A0_1 l0_1.length l0_1) (hc0_1 : l0_1.length ≤ c0_1) (hr0_2 : Kd.C Kd.string w A0_2 l0_2.length l0_2) (hc0_2 : l0_2.length ≤ c0_2) (hr0_3 : Kd.C Kd.string w A0_3 l0_3.length l0_3) (hc0_3 : l0_3.length ≤ c0_3) (hr0_4 : Kd.C Kd.string w A0_4 l0_4.length l0_4) (hc0_4 : l0_4.length ≤ c0_4) (h : spec_Policy_Element.f k l0_0 l0_1 l0_2 l0_3 l0_4 a0_5 a1 = some r) :
    Calls Tryz.prog 18 #[.agg #[.slice A0_0 l0_0.length c0_0, .slice A0_1 l0_1.length c0_1, .slice A0_2 l0_2.length c0_2, .slice A0_3 l0_3.length c0_3, .slice A0_4 l0_4.length c0_4, .bool a0_5], .string a1] w fun e w' => e = .returned (.bool r) ∧ Below w.heap.size w w' := by
  have hu39 := Tryz.underlying39
  have hu63 := Tryz.underlying63
  have HR0_0 := Aside0.mk hr0_0
  have HC0_0 := Aside0.mk hc0_0
  clear hr0_0 hc0_0
  have HR0_1 := Aside0.mk hr0_1
  have HC0_1 := Aside0.mk hc0_1
  clear hr0_1 hc0_1
  have HR0_2 := Aside0.mk hr0_2
  have HC0_2 := Aside0.mk hc0_2
  clear hr0_2 hc0_2
  have HR0_3 := Aside0.mk hr0_3
  have HC0_3 := Aside0.mk hc0_3
  clear hr0_3 hc0_3
  have HR0_4 := Aside0.mk hr0_4
  have HC0_4 := Aside0.mk hc0_4
  clear hr0_4 hc0_4
  have HB := Aside0.mk (Below.refl w.heap.size w)
  have H : ((spec_Has.f k l0_0 a1).bind fun t152 => (if t152 = true then (spec_Policy_Element.j0 k a1 true l0_0 l0_1 l0_2 l0_3 l0_4 a0_5) else ((spec_Has.f k l0_2 a1).bind fun t153 => (spec_Policy_Element.j0 k a1 t153 l0_0 l0_1 l0_2 l0_3 l0_4 a0_5)))) = some r := h
  clear h
  have HC3 := Aside0.mk H
  clear H
  go_enter Tryz.func18, Tryz.ntmps18
  go_upto_region 1 with (first | ((with_reducible refine gate_dst (N := 2) rfl ?_); refine box_event ?hg (N := 2) ?hd (cs := #[.slice A0_0 l0_0.length c0_0, .slice A0_1 l0_1.length c0_1, .slice A0_2 l0_2.length c0_2, .slice A0_3 l0_3.length c0_3, .slice A0_4 l0_4.length c0_4, .bool a0_5]) (t := 39) ?hr ?_; (case hd => rfl); (case hg => rfl); (case hr => first | (go_simp; done) | (go_simp; rfl)); intro gb151 hg w4 hbox hb; have n0_ := Aside0.mk (below_step (by repeat (first | (with_reducible first | exact HB.out | apply below_alloc | apply pw_below_drewN | apply below_drew1) | exact HB.out)) hb); have n1_ := Aside0.mk (hbox); have n2_ := Aside0.mk ((by rw [hg]; exact (below_size (by repeat (first | (with_reducible first | exact HB.out | apply below_alloc | apply pw_below_drewN | apply below_drew1) | exact HB.out))) : w.heap.size ≤ gb151)); have n3_ := Aside0.mk ((by rw [hg]; exact (below_size (by repeat (first | (with_reducible first | exact HB.out | apply below_alloc | apply pw_below_drewN | apply below_drew1) | exact HB.out))) : w.heap.size ≤ gb151)); clear HB; have HB := n0_; have BK151 := n1_; have GW151 := n2_; have GE151 := n3_; clear n0_ n1_ n2_ n3_; clear hb hbox hg))
  (try simp only [Act.put, List.setIfInBounds_toArray, List.set_cons_zero, List.set_cons_succ])
  go_cut [16] (fun v16 wc => ∃ (kq : Nat) (x16_2 : Bool), v16 = .bool x16_2 ∧ Aside0 (spec_Policy_Element.j0 kq a1 x16_2 l0_0 l0_1 l0_2 l0_3 l0_4 a0_5 = some r) ∧ Aside0 (kq ≤ k) ∧ Aside0 (wc.heap[gb151]? = some (.cells #[(.slice A0_0 l0_0.length c0_0), (.slice A0_1 l0_1.length c0_1), (.slice A0_2 l0_2.length c0_2), (.slice A0_3 l0_3.length c0_3), (.slice A0_4 l0_4.length c0_4), .bool a0_5] 39 (0, 0))) ∧ Aside0 (Below w.heap.size w wc))
  case first =>
    have H := HC3.out
    clear HC3
    replace H := Option.bind_eq_some_iff.mp H
    obtain ⟨t152, A50, H⟩ := H
    replace H : (if t152 = true then (spec_Policy_Element.j0 k a1 true l0_0 l0_1 l0_2 l0_3 l0_4 a0_5) else ((spec_Has.f k l0_2 a1).bind fun t153 => (spec_Policy_Element.j0 k a1 t153 l0_0 l0_1 l0_2 l0_3 l0_4 a0_5))) = some r := H
    have A5 := Aside0.mk A50
    clear A50
    by_cases c6 : t152 = true
    · subst c6
      have H1 : (spec_Policy_Element.j0 k a1 true l0_0 l0_1 l0_2 l0_3 l0_4 a0_5) = some r := by rw [if_pos rfl] at H; exact H
      clear H
      have H := H1
      clear H1
      have H' := Aside0.mk H
      clear H
      have hcz7_0 : w4.cell? ⟨gb151, 0, none⟩ = some (.slice A0_0 l0_0.length c0_0) := (blk_cell BK151.out 0).trans rfl
      have hcz7_1 : w4.cell? ⟨gb151, 1, none⟩ = some (.slice A0_1 l0_1.length c0_1) := (blk_cell BK151.out 1).trans rfl
      have hcz7_2 : w4.cell? ⟨gb151, 2, none⟩ = some (.slice A0_2 l0_2.length c0_2) := (blk_cell BK151.out 2).trans rfl
      have hcz7_3 : w4.cell? ⟨gb151, 3, none⟩ = some (.slice A0_3 l0_3.length c0_3) := (blk_cell BK151.out 3).trans rfl
      have hcz7_4 : w4.cell? ⟨gb151, 4, none⟩ = some (.slice A0_4 l0_4.length c0_4) := (blk_cell BK151.out 4).trans rfl
      have hcz7_5 : w4.cell? ⟨gb151, 5, none⟩ = some (.bool a0_5) := (blk_cell BK151.out 5).trans rfl
      have hfz7_0 := blk_frozen BK151.out 0
      have hfz7_1 := blk_frozen BK151.out 1
      have hfz7_2 := blk_frozen BK151.out 2
      have hfz7_3 := blk_frozen BK151.out 3
      have hfz7_4 := blk_frozen BK151.out 4
      have hfz7_5 := blk_frozen BK151.out 5
      go_wp2_with (first | ((with_reducible refine gate_callee (f := 12) rfl ?_); refine goesL_ (some 10) rfl rfl Tryz.func12 (by kernel_rfl) rfl #[.slice A0_0 l0_0.length c0_0, .string a1] rfl (by (try simp only [List.map_toArray, List.map_cons, List.map_nil]); first | done | rfl | (simp only [List.length_drop, List.length_take]; rfl)) ?_; (with_reducible refine (spec_Has.calls k _ _ l0_0 a1 true _ ?side1 ?side2 A5.out).mono ?_); (case side1 => repeat (first | exact (Kd.C_below HR0_0.out HB.out) | (with_reducible refine Kd.C_alloc ?_ _) | (with_reducible refine Kd.C_drewN ?_ _) | (with_reducible refine Kd.C_drew ?_))); (case side2 => exact HC0_0.out); rintro e w' ⟨rfl, ⟨nd, rfl⟩⟩; refine ⟨_, rfl, ?_⟩))
      go_meet
      case rel => exact ⟨_, (true), (by first | rfl | (simp; done) | (simp [*]; done)), H', ⟨by first | omega | exact Nat.le_refl _⟩, ⟨by (with_reducible repeat (first | refine blk_drewN ?_ _ | refine blk_drew ?_ | refine blk_alloc ?_ _)); exact BK151.out⟩, ⟨by repeat (first | (with_reducible first | exact HB.out | apply below_alloc | apply pw_below_drewN | apply below_drew1 | refine below_set ?_ GE151.out) | exact HB.out)⟩⟩
    · replace c6 := Bool.eq_false_iff.mpr c6
      subst c6
      have H1 : ((spec_Has.f k l0_2 a1).bind fun t153 => (spec_Policy_Element.j0 k a1 t153 l0_0 l0_1 l0_2 l0_3 l0_4 a0_5)) = some r := by rw [if_neg (show ¬ (false = true) by decide)] at H; exact H
      clear H
      have H := H1
      clear H1
      replace H := Option.bind_eq_some_iff.mp H
      obtain ⟨t153, A80, H⟩ := H
      replace H : (spec_Policy_Element.j0 k a1 t153 l0_0 l0_1 l0_2 l0_3 l0_4 a0_5) = some r := H
      have A8 := Aside0.mk A80
      clear A80
      have H' := Aside0.mk H
      clear H
      have hcz9_0 : w4.cell? ⟨gb151, 0, none⟩ = some (.slice A0_0 l0_0.length c0_0) := (blk_cell BK151.out 0).trans rfl
      have hcz9_1 : w4.cell? ⟨gb151, 1, none⟩ = some (.slice A0_1 l0_1.length c0_1) := (blk_cell BK151.out 1).trans rfl
      have hcz9_2 : w4.cell? ⟨gb151, 2, none⟩ = some (.slice A0_2 l0_2.length c0_2) := (blk_cell BK151.out 2).trans rfl
      have hcz9_3 : w4.cell? ⟨gb151, 3, none⟩ = some (.slice A0_3 l0_3.length c0_3) := (blk_cell BK151.out 3).trans rfl
      have hcz9_4 : w4.cell? ⟨gb151, 4, none⟩ = some (.slice A0_4 l0_4.length c0_4) := (blk_cell BK151.out 4).trans rfl
      have hcz9_5 : w4.cell? ⟨gb151, 5, none⟩ = some (.bool a0_5) := (blk_cell BK151.out 5).trans rfl
      have hfz9_0 := blk_frozen BK151.out 0
      have hfz9_1 := blk_frozen BK151.out 1
      have hfz9_2 := blk_frozen BK151.out 2
      have hfz9_3 := blk_frozen BK151.out 3
      have hfz9_4 := blk_frozen BK151.out 4
      have hfz9_5 := blk_frozen BK151.out 5
      go_wp2_with (first | ((with_reducible refine gate_callee (f := 12) rfl ?_); refine goesL_ (some 10) rfl rfl Tryz.func12 (by kernel_rfl) rfl #[.slice A0_0 l0_0.length c0_0, .string a1] rfl (by (try simp only [List.map_toArray, List.map_cons, List.map_nil]); first | done | rfl | (simp only [List.length_drop, List.length_take]; rfl)) ?_; (with_reducible refine (spec_Has.calls k _ _ l0_0 a1 false _ ?side1 ?side2 A5.out).mono ?_); (case side1 => repeat (first | exact (Kd.C_below HR0_0.out HB.out) | (with_reducible refine Kd.C_alloc ?_ _) | (with_reducible refine Kd.C_drewN ?_ _) | (with_reducible refine Kd.C_drew ?_))); (case side2 => exact HC0_0.out); rintro e w' ⟨rfl, ⟨nd, rfl⟩⟩; refine ⟨_, rfl, ?_⟩) | (go_at_call 12; (with_reducible refine (spec_Has.calls k _ _ l0_2 a1 t153 _ ?side1 ?side2 A8.out).mono ?_); (case side1 => repeat (first | exact (Kd.C_below HR0_2.out (by repeat (first | (with_reducible first | exact HB.out | apply below_alloc | apply pw_below_drewN | apply below_drew1 | refine below_set ?_ GE151.out) | exact HB.out))) | (with_reducible refine Kd.C_alloc ?_ _) | (with_reducible refine Kd.C_drewN ?_ _) | (with_reducible refine Kd.C_drew ?_))); (case side2 => exact HC0_2.out); rintro e w' ⟨rfl, ⟨nd, rfl⟩⟩))
      go_meet
      case rel => exact ⟨_, (t153), (by first | rfl | (simp; done) | (simp [*]; done)), H', ⟨by first | omega | exact Nat.le_refl _⟩, ⟨by (with_reducible repeat (first | refine blk_drewN ?_ _ | refine blk_drew ?_ | refine blk_alloc ?_ _)); exact BK151.out⟩, ⟨by repeat (first | (with_reducible first | exact HB.out | apply below_alloc | apply pw_below_drewN | apply below_drew1 | refine below_set ?_ GE151.out) | exact HB.out)⟩⟩
  case rest =>
    clear HC3
    try clear c1
    try clear p2
    try clear c6
    try clear hcz7_0
    try clear hcz7_1
    try clear hcz7_2
    try clear hcz7_3
    try clear hcz7_4
    try clear hcz7_5
    try clear hcz9_0
    try clear hcz9_1
    try clear hcz9_2
    try clear hcz9_3
    try clear hcz9_4
    try clear hcz9_5
    try clear hfz7_0
    try clear hfz7_1
    try clear hfz7_2
    try clear hfz7_3
    try clear hfz7_4
    try clear hfz7_5
    try clear hfz9_0
    try clear hfz9_1
    try clear hfz9_2
    try clear hfz9_3
    try clear hfz9_4
    try clear hfz9_5
    obtain ⟨kq, x16_2, rfl, HA, HJ2, BK151, HB⟩ := hcut
    cases kq with
    | zero => exact absurd HA.out (by simp [spec_Policy_Element.j0])
    | succ kj2 =>
      have H := HA.out
      clear HA
      simp only [spec_Policy_Element.j0] at H
      by_cases c10 : x16_2 = true
      · subst c10
        have H1 : (some true) = some r := by rw [if_pos rfl] at H; exact H
        clear H
        have H := H1
        clear H1
        obtain rfl := Option.some.inj H
        go_wp2
        go_ret
        exact ⟨by first | rfl | (simp [errW_none, errW_some] <;> rfl) | (simp [*, errW_none, errW_some] <;> rfl), by repeat (first | (with_reducible first | exact HB.out | apply below_alloc | apply pw_below_drewN | apply below_drew1 | refine below_set ?_ GE151.out) | exact HB.out)⟩
      · replace c10 := Bool.eq_false_iff.mpr c10
        subst c10
        have H1 : (spec_Policy_Element.l0 kj2 a1 l0_1 (l0_1.length : Int) 0) = some r := by rw [if_neg (show ¬ (false = true) by decide)] at H; exact H
        clear H
        have H := H1
        clear H1
        have H' := Aside0.mk H
        clear H
        have hcz11_0 : wc.cell? ⟨gb151, 0, none⟩ = some (.slice A0_0 l0_0.length c0_0) := (blk_cell BK151.out 0).trans rfl
        have hcz11_1 : wc.cell? ⟨gb151, 1, none⟩ = some (.slice A0_1 l0_1.length c0_1) := (blk_cell BK151.out 1).trans rfl
        have hcz11_2 : wc.cell? ⟨gb151, 2, none⟩ = some (.slice A0_2 l0_2.length c0_2) := (blk_cell BK151.out 2).trans rfl
        have hcz11_3 : wc.cell? ⟨gb151, 3, none⟩ = some (.slice A0_3 l0_3.length c0_3) := (blk_cell BK151.out 3).trans rfl
        have hcz11_4 : wc.cell? ⟨gb151, 4, none⟩ = some (.slice A0_4 l0_4.length c0_4) := (blk_cell BK151.out 4).trans rfl
        have hcz11_5 : wc.cell? ⟨gb151, 5, none⟩ = some (.bool a0_5) := (blk_cell BK151.out 5).trans rfl
        have hfz11_0 := blk_frozen BK151.out 0
        have hfz11_1 := blk_frozen BK151.out 1
        have hfz11_2 := blk_frozen BK151.out 2
        have hfz11_3 := blk_frozen BK151.out 3
        have hfz11_4 := blk_frozen BK151.out 4
        have hfz11_5 := blk_frozen BK151.out 5
        go_wp2
        go_loopg [20] kj2 (fun kq v20 w' => ∃ (x20_2 : Int), v20 = .int .i64 x20_2 ∧ Aside0 (spec_Policy_Element.l0 kq a1 l0_1 (l0_1.length : Int) x20_2 = some r) ∧ Aside0 (kq ≤ kj2) ∧ Aside0 (w'.heap[gb151]? = some (.cells #[(.slice A0_0 l0_0.length c0_0), (.slice A0_1 l0_1.length c0_1), (.slice A0_2 l0_2.length c0_2), (.slice A0_3 l0_3.length c0_3), (.slice A0_4 l0_4.length c0_4), .bool a0_5] 39 (0, 0))) ∧ Aside0 (Below w.heap.size w w'))
        case atStart => exact ⟨(0), (by first | rfl | (simp; done) | (simp [*]; done)), H', ⟨Nat.le_refl _⟩, ⟨by (with_reducible repeat (first | refine blk_drewN ?_ _ | refine blk_drew ?_ | refine blk_alloc ?_ _)); exact BK151.out⟩, ⟨by repeat (first | (with_reducible first | exact HB.out | apply below_alloc | apply pw_below_drewN | apply below_drew1 | refine below_set ?_ GE151.out) | exact HB.out)⟩⟩
        case round =>
          clear H'
          try clear c1
          try clear p2
          try clear c6
          try clear c10
          try clear hcz11_0
          try clear hcz11_1
          try clear hcz11_2
          try clear hcz11_3
          try clear hcz11_4
          try clear hcz11_5
          try clear hcz7_0
          try clear hcz7_1
          try clear hcz7_2
          try clear hcz7_3
          try clear hcz7_4
          try clear hcz7_5
          try clear hcz9_0
          try clear hcz9_1
          try clear hcz9_2
          try clear hcz9_3
          try clear hcz9_4
          try clear hcz9_5
          try clear hfz11_0
          try clear hfz11_1
          try clear hfz11_2
          try clear hfz11_3
          try clear hfz11_4
          try clear hfz11_5
          try clear hfz7_0
          try clear hfz7_1
          try clear hfz7_2
          try clear hfz7_3
          try clear hfz7_4
          try clear hfz7_5
          try clear hfz9_0
          try clear hfz9_1
          try clear hfz9_2
          try clear hfz9_3
          try clear hfz9_4
          try clear hfz9_5
          try clear p2
          obtain ⟨x20_2, rfl, HA, HK2, BK151, HB⟩ := hrel
          cases gk with
          | zero => exact absurd HA.out (by simp [spec_Policy_Element.l0])
          | succ k2 =>
            have H := HA.out
            clear HA
            simp only [spec_Policy_Element.l0] at H
            by_cases c12 : x20_2 < (l0_1.length : Int)
            · rw [if_pos c12] at H
              have c12b0 : decide (x20_2 < (l0_1.length : Int)) = true := decide_eq_true c12
              clear c12
              by_cases c13 : 0 ≤ x20_2
              · rw [if_pos c13] at H
                have c13b0 : decide (0 ≤ x20_2) = true := decide_eq_true c13
                clear c13
                by_cases c14 : x20_2 < (l0_1.length : Int)
                · rw [if_pos c14] at H
                  have c14b0 : decide (x20_2 < (l0_1.length : Int)) = true := decide_eq_true c14
                  clear c14
                  replace H := Option.bind_eq_some_iff.mp H
                  obtain ⟨t156, A150, H⟩ := H
                  replace H : (if t156 = true then (some true) else (spec_Policy_Element.l0 k2 a1 l0_1 (l0_1.length : Int) (wrap64 (x20_2 + 1)))) = some r := H
                  have A15 := Aside0.mk A150
                  clear A150
                  by_cases c16 : t156 = true
                  · subst c16
                    have H1 : (some true) = some r := by rw [if_pos rfl] at H; exact H
                    clear H
                    have H := H1
                    clear H1
                    obtain rfl := Option.some.inj H
                    have p154 : 0 ≤ (x20_2 : Int) := of_decide_eq_true (by first | (with_reducible assumption) | assumption)
                    have q154 : x20_2 < (l0_1.length : Int) := of_decide_eq_true (by first | (with_reducible assumption) | assumption)
                    obtain ⟨ad154, A154_0, c154_0, A154_1, c154_1, e154, hx154_0, hx154_1, hx154_2, hl154_0, hi154_0, hl154_1, hi154_1⟩ := at_T63 HR0_1.out x20_2 p154 q154
                    cases e154
                    replace hx154_0 := (HB.out.cell (World.block_lt_of_cell? w _ hx154_0)).trans hx154_0
                    replace hx154_1 := (HB.out.cell (World.block_lt_of_cell? w _ hx154_1)).trans hx154_1
                    replace hx154_2 := (HB.out.cell (World.block_lt_of_cell? w _ hx154_2)).trans hx154_2
                    have HR154_0 := Aside0.mk hi154_0
                    have HC154_0 := Aside0.mk hl154_0
                    clear hi154_0 hl154_0
                    have HR154_1 := Aside0.mk hi154_1
                    have HC154_1 := Aside0.mk hl154_1
                    clear hi154_1 hl154_1
                    replace p154 := eq_true p154
                    replace q154 := eq_true q154
                    go_wp2_with (first | ((with_reducible refine gate_dst (N := 6) rfl ?_); refine box_event ?hg (N := 6) ?hd (cs := #[.slice none 0 0, .slice none 0 0, .bool false]) (t := 63) ?hr ?_; (case hd => rfl); (case hg => rfl); (case hr => first | (go_simp; done) | (go_simp; rfl)); intro gb155 hg w17 hbox hb; have n0_ := Aside0.mk (blk_below (g := gb151) (o := .cells #[.slice A0_0 l0_0.length c0_0, .slice (some ad154) l0_1.length c0_1, .slice A0_2 l0_2.length c0_2, .slice A0_3 l0_3.length c0_3, .slice A0_4 l0_4.length c0_4, .bool a0_5] 39 (0, 0)) (by (with_reducible repeat (first | refine blk_drewN ?_ _ | refine blk_drew ?_ | refine blk_alloc ?_ _)); exact BK151.out) hb); have n1_ := Aside0.mk (below_step (by repeat (first | (with_reducible first | exact HB.out | apply below_alloc | apply pw_below_drewN | apply below_drew1 | refine below_set ?_ GE151.out) | exact HB.out)) hb); have n2_ := Aside0.mk (hbox); have n3_ := Aside0.mk ((by rw [hg]; exact (below_size (by repeat (first | (with_reducible first | exact HB.out | apply below_alloc | apply pw_below_drewN | apply below_drew1 | refine below_set ?_ GE151.out) | exact HB.out))) : w.heap.size ≤ gb155)); have n4_ := Aside0.mk ((by rw [hg]; exact (below_size (by repeat (first | (with_reducible first | exact HB.out | apply below_alloc | apply pw_below_drewN | apply below_drew1 | refine below_set ?_ GE151.out) | exact HB.out))) : w.heap.size ≤ gb155)); have n5_ := Aside0.mk ((by rw [hg]; exact Nat.ne_of_lt (blk_lt (g := gb151) (o := .cells #[.slice A0_0 l0_0.length c0_0, .slice (some ad154) l0_1.length c0_1, .slice A0_2 l0_2.length c0_2, .slice A0_3 l0_3.length c0_3, .slice A0_4 l0_4.length c0_4, .bool a0_5] 39 (0, 0)) (by (with_reducible repeat (first | refine blk_drewN ?_ _ | refine blk_drew ?_ | refine blk_alloc ?_ _)); exact BK151.out)) : gb151 ≠ gb155)); have n6_ := Aside0.mk ((by rw [hg]; exact Nat.ne_of_gt (blk_lt (g := gb151) (o := .cells #[.slice A0_0 l0_0.length c0_0, .slice (some ad154) l0_1.length c0_1, .slice A0_2 l0_2.length c0_2, .slice A0_3 l0_3.length c0_3, .slice A0_4 l0_4.length c0_4, .bool a0_5] 39 (0, 0)) (by (with_reducible repeat (first | refine blk_drewN ?_ _ | refine blk_drew ?_ | refine blk_alloc ?_ _)); exact BK151.out)) : gb155 ≠ gb151)); clear BK151; clear HB; have BK151 := n0_; have HB := n1_; have BK155 := n2_; have GW155 := n3_; have GE155 := n4_; have NB151_155 := n5_; have NB155_151 := n6_; clear n0_ n1_ n2_ n3_ n4_ n5_ n6_; clear hb hbox hg; have hnb18 := NB155_151.out; have hnc18 := NB151_155.out; have hcz19_0 : w17.cell? ⟨gb155, 0, none⟩ = some (.slice none 0 0) := (blk_cell BK155.out 0).trans rfl; have hcz19_1 : w17.cell? ⟨gb155, 1, none⟩ = some (.slice none 0 0) := (blk_cell BK155.out 1).trans rfl; have hcz19_2 : w17.cell? ⟨gb155, 2, none⟩ = some (.bool false) := (blk_cell BK155.out 2).trans rfl; have hfz19_0 := blk_frozen BK155.out 0; have hfz19_1 := blk_frozen BK155.out 1; have hfz19_2 := blk_frozen BK155.out 2) | ((with_reducible refine gate_callee (f := 12) rfl ?_); refine goesL_ (some 27) rfl rfl Tryz.func12 (by kernel_rfl) rfl #[.slice A154_1 ((rd_T63 l0_1 x20_2).f1).length c154_1, .string a1] rfl (by (try simp only [List.map_toArray, List.map_cons, List.map_nil]); first | done | rfl | (simp only [List.length_drop, List.length_take]; rfl)) ?_; (with_reducible refine (spec_Has.calls k2 _ _ ((rd_T63 l0_1 x20_2).f1) a1 true _ ?side1 ?side2 A15.out).mono ?_); (case side1 => exact Kd.C_below HR154_1.out (by repeat (first | (with_reducible first | exact HB.out | apply below_alloc | apply pw_below_drewN | apply below_drew1 | refine below_set ?_ GE151.out | refine below_set ?_ GE155.out) | exact HB.out))); (case side2 => exact HC154_1.out); rintro e w' ⟨rfl, ⟨nd, rfl⟩⟩; refine ⟨_, rfl, ?_⟩))
                    go_ret
                    exact ⟨by first | rfl | (simp [errW_none, errW_some] <;> rfl) | (simp [*, errW_none, errW_some] <;> rfl), by repeat (first | (with_reducible first | exact HB.out | apply below_alloc | apply pw_below_drewN | apply below_drew1 | refine below_set ?_ GE151.out | refine below_set ?_ GE155.out) | exact HB.out)⟩
                  · replace c16 := Bool.eq_false_iff.mpr c16
                    subst c16
                    have H1 : (spec_Policy_Element.l0 k2 a1 l0_1 (l0_1.length : Int) (wrap64 (x20_2 + 1))) = some r := by rw [if_neg (show ¬ (false = true) by decide)] at H; exact H
                    clear H
                    have H := H1
                    clear H1
                    have H' := Aside0.mk H
                    clear H
                    have p154 : 0 ≤ (x20_2 : Int) := of_decide_eq_true (by first | (with_reducible assumption) | assumption)
                    have q154 : x20_2 < (l0_1.length : Int) := of_decide_eq_true (by first | (with_reducible assumption) | assumption)
                    obtain ⟨ad154, A154_0, c154_0, A154_1, c154_1, e154, hx154_0, hx154_1, hx154_2, hl154_0, hi154_0, hl154_1, hi154_1⟩ := at_T63 HR0_1.out x20_2 p154 q154
                    cases e154
                    replace hx154_0 := (HB.out.cell (World.block_lt_of_cell? w _ hx154_0)).trans hx154_0
                    replace hx154_1 := (HB.out.cell (World.block_lt_of_cell? w _ hx154_1)).trans hx154_1
                    replace hx154_2 := (HB.out.cell (World.block_lt_of_cell? w _ hx154_2)).trans hx154_2
                    have HR154_0 := Aside0.mk hi154_0
                    have HC154_0 := Aside0.mk hl154_0
                    clear hi154_0 hl154_0
                    have HR154_1 := Aside0.mk hi154_1
                    have HC154_1 := Aside0.mk hl154_1
                    clear hi154_1 hl154_1
                    replace p154 := eq_true p154
                    replace q154 := eq_true q154
                    go_wp2_with (first | ((with_reducible refine gate_dst (N := 6) rfl ?_); refine box_event ?hg (N := 6) ?hd (cs := #[.slice none 0 0, .slice none 0 0, .bool false]) (t := 63) ?hr ?_; (case hd => rfl); (case hg => rfl); (case hr => first | (go_simp; done) | (go_simp; rfl)); intro gb155 hg w20 hbox hb; have n0_ := Aside0.mk (blk_below (g := gb151) (o := .cells #[.slice A0_0 l0_0.length c0_0, .slice (some ad154) l0_1.length c0_1, .slice A0_2 l0_2.length c0_2, .slice A0_3 l0_3.length c0_3, .slice A0_4 l0_4.length c0_4, .bool a0_5] 39 (0, 0)) (by (with_reducible repeat (first | refine blk_drewN ?_ _ | refine blk_drew ?_ | refine blk_alloc ?_ _)); exact BK151.out) hb); have n1_ := Aside0.mk (below_step (by repeat (first | (with_reducible first | exact HB.out | apply below_alloc | apply pw_below_drewN | apply below_drew1 | refine below_set ?_ GE151.out) | exact HB.out)) hb); have n2_ := Aside0.mk (hbox); have n3_ := Aside0.mk ((by rw [hg]; exact (below_size (by repeat (first | (with_reducible first | exact HB.out | apply below_alloc | apply pw_below_drewN | apply below_drew1 | refine below_set ?_ GE151.out) | exact HB.out))) : w.heap.size ≤ gb155)); have n4_ := Aside0.mk ((by rw [hg]; exact (below_size (by repeat (first | (with_reducible first | exact HB.out | apply below_alloc | apply pw_below_drewN | apply below_drew1 | refine below_set ?_ GE151.out) | exact HB.out))) : w.heap.size ≤ gb155)); have n5_ := Aside0.mk ((by rw [hg]; exact Nat.ne_of_lt (blk_lt (g := gb151) (o := .cells #[.slice A0_0 l0_0.length c0_0, .slice (some ad154) l0_1.length c0_1, .slice A0_2 l0_2.length c0_2, .slice A0_3 l0_3.length c0_3, .slice A0_4 l0_4.length c0_4, .bool a0_5] 39 (0, 0)) (by (with_reducible repeat (first | refine blk_drewN ?_ _ | refine blk_drew ?_ | refine blk_alloc ?_ _)); exact BK151.out)) : gb151 ≠ gb155)); have n6_ := Aside0.mk ((by rw [hg]; exact Nat.ne_of_gt (blk_lt (g := gb151) (o := .cells #[.slice A0_0 l0_0.length c0_0, .slice (some ad154) l0_1.length c0_1, .slice A0_2 l0_2.length c0_2, .slice A0_3 l0_3.length c0_3, .slice A0_4 l0_4.length c0_4, .bool a0_5] 39 (0, 0)) (by (with_reducible repeat (first | refine blk_drewN ?_ _ | refine blk_drew ?_ | refine blk_alloc ?_ _)); exact BK151.out)) : gb155 ≠ gb151)); clear BK151; clear HB; have BK151 := n0_; have HB := n1_; have BK155 := n2_; have GW155 := n3_; have GE155 := n4_; have NB151_155 := n5_; have NB155_151 := n6_; clear n0_ n1_ n2_ n3_ n4_ n5_ n6_; clear hb hbox hg; have hnb21 := NB155_151.out; have hnc21 := NB151_155.out; have hcz22_0 : w20.cell? ⟨gb155, 0, none⟩ = some (.slice none 0 0) := (blk_cell BK155.out 0).trans rfl; have hcz22_1 : w20.cell? ⟨gb155, 1, none⟩ = some (.slice none 0 0) := (blk_cell BK155.out 1).trans rfl; have hcz22_2 : w20.cell? ⟨gb155, 2, none⟩ = some (.bool false) := (blk_cell BK155.out 2).trans rfl; have hfz22_0 := blk_frozen BK155.out 0; have hfz22_1 := blk_frozen BK155.out 1; have hfz22_2 := blk_frozen BK155.out 2) | ((with_reducible refine gate_callee (f := 12) rfl ?_); refine goesL_ (some 27) rfl rfl Tryz.func12 (by kernel_rfl) rfl #[.slice A154_1 ((rd_T63 l0_1 x20_2).f1).length c154_1, .string a1] rfl (by (try simp only [List.map_toArray, List.map_cons, List.map_nil]); first | done | rfl | (simp only [List.length_drop, List.length_take]; rfl)) ?_; (with_reducible refine (spec_Has.calls k2 _ _ ((rd_T63 l0_1 x20_2).f1) a1 false _ ?side1 ?side2 A15.out).mono ?_); (case side1 => exact Kd.C_below HR154_1.out (by repeat (first | (with_reducible first | exact HB.out | apply below_alloc | apply pw_below_drewN | apply below_drew1 | refine below_set ?_ GE151.out | refine below_set ?_ GE155.out) | exact HB.out))); (case side2 => exact HC154_1.out); rintro e w' ⟨rfl, ⟨nd, rfl⟩⟩; refine ⟨_, rfl, ?_⟩))
                    go_roundg k2
                    case measure => have := HJ2.out; have := HK2.out; omega
                    case rel => exact ⟨(wrap64 (x20_2 + 1)), (by first | rfl | (simp; done) | (simp [*]; done)), H', ⟨by have := HJ2.out; have := HK2.out; omega⟩, ⟨by (with_reducible repeat (first | refine blk_drewN ?_ _ | refine blk_drew ?_ | refine blk_alloc ?_ _)); refine blk_far ?_ NB151_155.out _; (with_reducible repeat (first | refine blk_drewN ?_ _ | refine blk_drew ?_ | refine blk_alloc ?_ _)); refine blk_far ?_ NB151_155.out _; (with_reducible repeat (first | refine blk_drewN ?_ _ | refine blk_drew ?_ | refine blk_alloc ?_ _)); refine blk_far ?_ NB151_155.out _; (with_reducible repeat (first | refine blk_drewN ?_ _ | refine blk_drew ?_ | refine blk_alloc ?_ _)); exact BK151.out⟩, ⟨by repeat (first | (with_reducible first | exact HB.out | apply below_alloc | apply pw_below_drewN | apply below_drew1 | refine below_set ?_ GE151.out | refine below_set ?_ GE155.out) | exact HB.out)⟩⟩
                · rw [if_neg c14] at H
                  exact absurd H (by simp)
              · rw [if_neg c13] at H
                exact absurd H (by simp)
            · rw [if_neg c12] at H
              have c12b0 : decide (x20_2 < (l0_1.length : Int)) = false := decide_eq_false c12
              clear c12
              obtain rfl := Option.some.inj H
              go_wp2
              go_ret
              exact ⟨by first | rfl | (simp [errW_none, errW_some] <;> rfl) | (simp [*, errW_none, errW_some] <;> rfl), by repeat (first | (with_reducible first | exact HB.out | apply below_alloc | apply pw_below_drewN | apply below_drew1 | refine below_set ?_ GE151.out) | exact HB.out)⟩

/-! ### laws_linked: function 19 -/
def laws_linked.f  : Option (List ByteArray) := some (([(⟨#[104, 114, 101, 102]⟩ : ByteArray), (⟨#[115, 114, 99]⟩ : ByteArray), (⟨#[99, 105, 116, 101]⟩ : ByteArray), (⟨#[97, 99, 116, 105, 111, 110]⟩ : ByteArray), (⟨#[102, 111, 114, 109, 97, 99, 116, 105, 111, 110]⟩ : ByteArray), (⟨#[98, 97, 99, 107, 103, 114, 111, 117, 110, 100]⟩ : ByteArray), (⟨#[112, 111, 115, 116, 101, 114]⟩ : ByteArray), (⟨#[100, 97, 116, 97]⟩ : ByteArray), (⟨#[108, 111, 110, 103, 100, 101, 115, 99]⟩ : ByteArray), (⟨#[117, 115, 101, 109, 97, 112]⟩ : ByteArray), (⟨#[112, 114, 111, 102, 105, 108, 101]⟩ : ByteArray), (⟨#[115, 114, 99, 115, 101, 116]⟩ : ByteArray), (⟨#[112, 105, 110, 103]⟩ : ByteArray), (⟨#[115, 116, 121, 108, 101]⟩ : ByteArray), (⟨#[114, 101, 108]⟩ : ByteArray), (⟨#[116, 97, 114, 103, 101, 116]⟩ : ByteArray), (⟨#[99, 114, 111, 115, 115, 111, 114, 105, 103, 105, 110]⟩ : ByteArray), (⟨#[115, 97, 110, 100, 98, 111, 120]⟩ : ByteArray)] : List ByteArray))
set_option maxHeartbeats 8000000 in
set_option maxRecDepth 100000 in
theorem laws_linked.calls  (r : List ByteArray) (w : World) (h : laws_linked.f  = some r) :
    Calls Tryz.prog 19 #[] w fun e w' => ∃ v0_ : Value, e = .returned (v0_) ∧ Kd.R Kd.string 9 w' w.heap.size (fun _ => True) v0_ r ∧ Below w.heap.size w w' := by
  have HB := Aside0.mk (Below.refl w.heap.size w)
  have H : (some (([(⟨#[104, 114, 101, 102]⟩ : ByteArray), (⟨#[115, 114, 99]⟩ : ByteArray), (⟨#[99, 105, 116, 101]⟩ : ByteArray), (⟨#[97, 99, 116, 105, 111, 110]⟩ : ByteArray), (⟨#[102, 111, 114, 109, 97, 99, 116, 105, 111, 110]⟩ : ByteArray), (⟨#[98, 97, 99, 107, 103, 114, 111, 117, 110, 100]⟩ : ByteArray), (⟨#[112, 111, 115, 116, 101, 114]⟩ : ByteArray), (⟨#[100, 97, 116, 97]⟩ : ByteArray), (⟨#[108, 111, 110, 103, 100, 101, 115, 99]⟩ : ByteArray), (⟨#[117, 115, 101, 109, 97, 112]⟩ : ByteArray), (⟨#[112, 114, 111, 102, 105, 108, 101]⟩ : ByteArray), (⟨#[115, 114, 99, 115, 101, 116]⟩ : ByteArray), (⟨#[112, 105, 110, 103]⟩ : ByteArray), (⟨#[115, 116, 121, 108, 101]⟩ : ByteArray), (⟨#[114, 101, 108]⟩ : ByteArray), (⟨#[116, 97, 114, 103, 101, 116]⟩ : ByteArray), (⟨#[99, 114, 111, 115, 115, 111, 114, 105, 103, 105, 110]⟩ : ByteArray), (⟨#[115, 97, 110, 100, 98, 111, 120]⟩ : ByteArray)] : List ByteArray))) = some r := h
  clear h
  obtain ⟨y157, hy157⟩ : ∃ y_ : List ByteArray, y_ = (([(⟨#[104, 114, 101, 102]⟩ : ByteArray), (⟨#[115, 114, 99]⟩ : ByteArray), (⟨#[99, 105, 116, 101]⟩ : ByteArray), (⟨#[97, 99, 116, 105, 111, 110]⟩ : ByteArray), (⟨#[102, 111, 114, 109, 97, 99, 116, 105, 111, 110]⟩ : ByteArray), (⟨#[98, 97, 99, 107, 103, 114, 111, 117, 110, 100]⟩ : ByteArray), (⟨#[112, 111, 115, 116, 101, 114]⟩ : ByteArray), (⟨#[100, 97, 116, 97]⟩ : ByteArray), (⟨#[108, 111, 110, 103, 100, 101, 115, 99]⟩ : ByteArray), (⟨#[117, 115, 101, 109, 97, 112]⟩ : ByteArray), (⟨#[112, 114, 111, 102, 105, 108, 101]⟩ : ByteArray), (⟨#[115, 114, 99, 115, 101, 116]⟩ : ByteArray), (⟨#[112, 105, 110, 103]⟩ : ByteArray), (⟨#[115, 116, 121, 108, 101]⟩ : ByteArray), (⟨#[114, 101, 108]⟩ : ByteArray), (⟨#[116, 97, 114, 103, 101, 116]⟩ : ByteArray), (⟨#[99, 114, 111, 115, 115, 111, 114, 105, 103, 105, 110]⟩ : ByteArray), (⟨#[115, 97, 110, 100, 98, 111, 120]⟩ : ByteArray)] : List ByteArray)) := ⟨_, rfl⟩
  replace H : (some y157) = some r := by first | (rw [hy157]; with_reducible exact H) | (have H2_ := (Option.bind_some _ _).symm.trans H; rw [hy157]; with_reducible exact H2_) | (have H2_ := (Option.bind_some _ _).symm.trans H; with_reducible exact H2_) | with_reducible exact H | (rw [hy157]; exact H) | exact H
  have Ny157 := Aside0.mk hy157
  clear hy157
  obtain rfl := Option.some.inj H
  go_enter Tryz.func19, Tryz.ntmps19
  go_wp2_with (first | ((with_reducible refine gate_dst (N := 1) rfl ?_); refine Kd.R_lit Kd.string _ 9 ?hg (N := 1) ?hd (xs := ([(⟨#[104, 114, 101, 102]⟩ : ByteArray), (⟨#[115, 114, 99]⟩ : ByteArray), (⟨#[99, 105, 116, 101]⟩ : ByteArray), (⟨#[97, 99, 116, 105, 111, 110]⟩ : ByteArray), (⟨#[102, 111, 114, 109, 97, 99, 116, 105, 111, 110]⟩ : ByteArray), (⟨#[98, 97, 99, 107, 103, 114, 111, 117, 110, 100]⟩ : ByteArray), (⟨#[112, 111, 115, 116, 101, 114]⟩ : ByteArray), (⟨#[100, 97, 116, 97]⟩ : ByteArray), (⟨#[108, 111, 110, 103, 100, 101, 115, 99]⟩ : ByteArray), (⟨#[117, 115, 101, 109, 97, 112]⟩ : ByteArray), (⟨#[112, 114, 111, 102, 105, 108, 101]⟩ : ByteArray), (⟨#[115, 114, 99, 115, 101, 116]⟩ : ByteArray), (⟨#[112, 105, 110, 103]⟩ : ByteArray), (⟨#[115, 116, 121, 108, 101]⟩ : ByteArray), (⟨#[114, 101, 108]⟩ : ByteArray), (⟨#[116, 97, 114, 103, 101, 116]⟩ : ByteArray), (⟨#[99, 114, 111, 115, 115, 111, 114, 105, 103, 105, 110]⟩ : ByteArray), (⟨#[115, 97, 110, 100, 98, 111, 120]⟩ : ByteArray)] : List ByteArray)) (inner := [.string (⟨#[104, 114, 101, 102]⟩ : ByteArray), .string (⟨#[115, 114, 99]⟩ : ByteArray), .string (⟨#[99, 105, 116, 101]⟩ : ByteArray), .string (⟨#[97, 99, 116, 105, 111, 110]⟩ : ByteArray), .string (⟨#[102, 111, 114, 109, 97, 99, 116, 105, 111, 110]⟩ : ByteArray), .string (⟨#[98, 97, 99, 107, 103, 114, 111, 117, 110, 100]⟩ : ByteArray), .string (⟨#[112, 111, 115, 116, 101, 114]⟩ : ByteArray), .string (⟨#[100, 97, 116, 97]⟩ : ByteArray), .string (⟨#[108, 111, 110, 103, 100, 101, 115, 99]⟩ : ByteArray), .string (⟨#[117, 115, 101, 109, 97, 112]⟩ : ByteArray), .string (⟨#[112, 114, 111, 102, 105, 108, 101]⟩ : ByteArray), .string (⟨#[115, 114, 99, 115, 101, 116]⟩ : ByteArray), .string (⟨#[112, 105, 110, 103]⟩ : ByteArray), .string (⟨#[115, 116, 121, 108, 101]⟩ : ByteArray), .string (⟨#[114, 101, 108]⟩ : ByteArray), .string (⟨#[116, 97, 114, 103, 101, 116]⟩ : ByteArray), .string (⟨#[99, 114, 111, 115, 115, 111, 114, 105, 103, 105, 110]⟩ : ByteArray), .string (⟨#[115, 97, 110, 100, 98, 111, 120]⟩ : ByteArray)]) (ok := fun _ => True) (okp := fun _ => True) ?hr ?hp (fun _ hk => hk) trivial (Below.refl _ _) (Nat.le_refl _) (by simp) ?_; (case hd => rfl); (case hg => rfl); (case hr => first | (go_simp; done) | (go_simp; rfl)); (case hp => exact (Reps.one (show Kd.M Kd.string _ _ _ (⟨#[104, 114, 101, 102]⟩ : ByteArray) [.string (⟨#[104, 114, 101, 102]⟩ : ByteArray)] from rfl) (Reps.one (show Kd.M Kd.string _ _ _ (⟨#[115, 114, 99]⟩ : ByteArray) [.string (⟨#[115, 114, 99]⟩ : ByteArray)] from rfl) (Reps.one (show Kd.M Kd.string _ _ _ (⟨#[99, 105, 116, 101]⟩ : ByteArray) [.string (⟨#[99, 105, 116, 101]⟩ : ByteArray)] from rfl) (Reps.one (show Kd.M Kd.string _ _ _ (⟨#[97, 99, 116, 105, 111, 110]⟩ : ByteArray) [.string (⟨#[97, 99, 116, 105, 111, 110]⟩ : ByteArray)] from rfl) (Reps.one (show Kd.M Kd.string _ _ _ (⟨#[102, 111, 114, 109, 97, 99, 116, 105, 111, 110]⟩ : ByteArray) [.string (⟨#[102, 111, 114, 109, 97, 99, 116, 105, 111, 110]⟩ : ByteArray)] from rfl) (Reps.one (show Kd.M Kd.string _ _ _ (⟨#[98, 97, 99, 107, 103, 114, 111, 117, 110, 100]⟩ : ByteArray) [.string (⟨#[98, 97, 99, 107, 103, 114, 111, 117, 110, 100]⟩ : ByteArray)] from rfl) (Reps.one (show Kd.M Kd.string _ _ _ (⟨#[112, 111, 115, 116, 101, 114]⟩ : ByteArray) [.string (⟨#[112, 111, 115, 116, 101, 114]⟩ : ByteArray)] from rfl) (Reps.one (show Kd.M Kd.string _ _ _ (⟨#[100, 97, 116, 97]⟩ : ByteArray) [.string (⟨#[100, 97, 116, 97]⟩ : ByteArray)] from rfl) (Reps.one (show Kd.M Kd.string _ _ _ (⟨#[108, 111, 110, 103, 100, 101, 115, 99]⟩ : ByteArray) [.string (⟨#[108, 111, 110, 103, 100, 101, 115, 99]⟩ : ByteArray)] from rfl) (Reps.one (show Kd.M Kd.string _ _ _ (⟨#[117, 115, 101, 109, 97, 112]⟩ : ByteArray) [.string (⟨#[117, 115, 101, 109, 97, 112]⟩ : ByteArray)] from rfl) (Reps.one (show Kd.M Kd.string _ _ _ (⟨#[112, 114, 111, 102, 105, 108, 101]⟩ : ByteArray) [.string (⟨#[112, 114, 111, 102, 105, 108, 101]⟩ : ByteArray)] from rfl) (Reps.one (show Kd.M Kd.string _ _ _ (⟨#[115, 114, 99, 115, 101, 116]⟩ : ByteArray) [.string (⟨#[115, 114, 99, 115, 101, 116]⟩ : ByteArray)] from rfl) (Reps.one (show Kd.M Kd.string _ _ _ (⟨#[112, 105, 110, 103]⟩ : ByteArray) [.string (⟨#[112, 105, 110, 103]⟩ : ByteArray)] from rfl) (Reps.one (show Kd.M Kd.string _ _ _ (⟨#[115, 116, 121, 108, 101]⟩ : ByteArray) [.string (⟨#[115, 116, 121, 108, 101]⟩ : ByteArray)] from rfl) (Reps.one (show Kd.M Kd.string _ _ _ (⟨#[114, 101, 108]⟩ : ByteArray) [.string (⟨#[114, 101, 108]⟩ : ByteArray)] from rfl) (Reps.one (show Kd.M Kd.string _ _ _ (⟨#[116, 97, 114, 103, 101, 116]⟩ : ByteArray) [.string (⟨#[116, 97, 114, 103, 101, 116]⟩ : ByteArray)] from rfl) (Reps.one (show Kd.M Kd.string _ _ _ (⟨#[99, 114, 111, 115, 115, 111, 114, 105, 103, 105, 110]⟩ : ByteArray) [.string (⟨#[99, 114, 111, 115, 115, 111, 114, 105, 103, 105, 110]⟩ : ByteArray)] from rfl) (Reps.one (show Kd.M Kd.string _ _ _ (⟨#[115, 97, 110, 100, 98, 111, 120]⟩ : ByteArray) [.string (⟨#[115, 97, 110, 100, 98, 111, 120]⟩ : ByteArray)] from rfl) (Reps.none _ _)))))))))))))))))))); intro v158 w1 ho2 hb hg_ hnew_; clear hg_ hnew_; (first | rw [← Ny157.out] at ho2 | (simp only [Int.reduceToNat] at ho2; rw [← Ny157.out] at ho2)); have n0_ := Aside0.mk (Kd.R_lower ho2 (below_size (by repeat (first | (with_reducible first | exact HB.out | apply below_alloc | apply pw_below_drewN | apply below_drew1) | exact HB.out)))); have n1_ := Aside0.mk (below_step (by repeat (first | (with_reducible first | exact HB.out | apply below_alloc | apply pw_below_drewN | apply below_drew1) | exact HB.out)) hb); clear HB; have HO159 := n0_; have HB := n1_; clear n0_ n1_; clear hb ho2))
  go_ret
  exact ⟨_, by first | rfl | (simp [errW_none, errW_some] <;> rfl) | (simp [*, errW_none, errW_some] <;> rfl), by (with_reducible repeat (first | apply Kd.R_alloc | apply Kd.R_drewN | apply Kd.R_drew)); exact HO159.out, by repeat (first | (with_reducible first | exact HB.out | apply below_alloc | apply pw_below_drewN | apply below_drew1) | exact HB.out)⟩

/-! ### spec_Begins: function 20 -/
def spec_Begins.f (a0 : ByteArray) (a1 : ByteArray) : Option (Bool) := if (a0.size : Int) ≥ (a1.size : Int) then (if 0 ≤ (a1.size : Int) then (if (a1.size : Int) ≤ (a0.size : Int) then (some ((a0.extract 0 ((a1.size : Int) : Int).toNat).toList == a1.toList)) else (none)) else (none)) else (some false)
set_option maxHeartbeats 8000000 in
set_option maxRecDepth 100000 in
theorem spec_Begins.calls (a0 : ByteArray) (a1 : ByteArray) (r : Bool) (w : World) (h : spec_Begins.f a0 a1 = some r) :
    Calls Tryz.prog 20 #[.string a0, .string a1] w fun e w' => e = .returned (.bool r) ∧ Drawn0 w w' := by
  have H : (if (a0.size : Int) ≥ (a1.size : Int) then (if 0 ≤ (a1.size : Int) then (if (a1.size : Int) ≤ (a0.size : Int) then (some ((a0.extract 0 ((a1.size : Int) : Int).toNat).toList == a1.toList)) else (none)) else (none)) else (some false)) = some r := h
  clear h
  by_cases c3 : (a0.size : Int) ≥ (a1.size : Int)
  · rw [if_pos c3] at H
    have c3b0 : decide ((a1.size : Int) ≤ (a0.size : Int)) = true := decide_eq_true c3
    have c3b1 : decide (a1.size ≤ a0.size) = true := decide_eq_true (Int.ofNat_le.mp c3)
    clear c3
    by_cases c4 : 0 ≤ (a1.size : Int)
    · rw [if_pos c4] at H
      have c4b0 := eq_true c4
      have c4b1 : decide (0 ≤ (a1.size : Int)) = true := decide_eq_true c4
      clear c4
      by_cases c5 : (a1.size : Int) ≤ (a0.size : Int)
      · rw [if_pos c5] at H
        have c5b0 := eq_true c5
        have c5b1 : decide ((a1.size : Int) ≤ (a0.size : Int)) = true := decide_eq_true c5
        clear c5
        obtain rfl := Option.some.inj H
        go_enter Tryz.func20, Tryz.ntmps20
        go_wp2
        go_ret
        exact ⟨by first | rfl | (simp; done) | (simp [*]; done), by repeat (first | exact Drawn0.refl _ | apply Drawn0.step)⟩
      · rw [if_neg c5] at H
        exact absurd H (by simp)
    · rw [if_neg c4] at H
      exact absurd H (by simp)
  · rw [if_neg c3] at H
    have c3b0 : decide ((a1.size : Int) ≤ (a0.size : Int)) = false := decide_eq_false c3
    have c3b1 : decide (a1.size ≤ a0.size) = false := decide_eq_false (fun h => c3 (Int.ofNat_le.mpr h))
    clear c3
    obtain rfl := Option.some.inj H
    go_enter Tryz.func20, Tryz.ntmps20
    go_wp2
    go_ret
    exact ⟨by first | rfl | (simp; done) | (simp [*]; done), by repeat (first | exact Drawn0.refl _ | apply Drawn0.step)⟩

/-! ### spec_Policy_Attr: function 21 -/
def spec_Policy_Attr.l0 : Nat → ByteArray → ByteArray → List (S63) → Int → Int → Option (Bool)
  | 0, _, _, _, _, _ => none
  | k + 1, x1, x2, x10, x11, x12 => if x12 < x11 then (if 0 ≤ x12 then (if x12 < (x10.length : Int) then ((spec_Has.f k ((rd_T63 x10 x12).f0) x2).bind fun t163 => (if t163 = true then (if (rd_T63 x10 x12).f2 = true then (some true) else ((spec_Has.f k ((rd_T63 x10 x12).f1) x1).bind fun t164 => (if t164 = true then (some true) else (spec_Policy_Attr.l0 k x1 x2 x10 x11 (wrap64 (x12 + 1)))))) else (spec_Policy_Attr.l0 k x1 x2 x10 x11 (wrap64 (x12 + 1))))) else (none)) else (none)) else (some false)
def spec_Policy_Attr.f (k : Nat) (l0_0 : List ByteArray) (l0_1 : List (S63)) (l0_2 : List ByteArray) (l0_3 : List ByteArray) (l0_4 : List ByteArray) (a0_5 : Bool) (a1 : ByteArray) (a2 : ByteArray) : Option (Bool) := spec_Policy_Attr.l0 k a1 a2 l0_1 (l0_1.length : Int) 0
theorem spec_Policy_Attr.mono_l : ∀ k, (∀ y0 y1 y2 y3 y4, LeO (spec_Policy_Attr.l0 k y0 y1 y2 y3 y4) (spec_Policy_Attr.l0 (k + 1) y0 y1 y2 y3 y4))
  | 0 => fun _ _ _ _ _ r h => by simp [spec_Policy_Attr.l0] at h
  | k + 1 => by
    have ih0 := spec_Policy_Attr.mono_l k
    · intro y0 y1 y2 y3 y4
      unfold spec_Policy_Attr.l0
      repeat' first
      | (with_reducible exact ih0 _ _ _ _ _)
      | (with_reducible exact spec_Has.mono _ _ _)
      | (with_reducible exact LeO.refl _)
      | (with_reducible exact LeO.none _)
      | (with_reducible refine LeO.ite ?_ ?_)
      | (with_reducible refine LeO.bind ?_ (fun _ => ?_))
      | exact ih0 _ _ _ _ _
      | exact spec_Has.mono _ _ _
      | exact LeO.none _
      | refine LeO.ite ?_ ?_
      | refine LeO.bind ?_ (fun _ => ?_)
theorem spec_Policy_Attr.mono : ∀ a0 a1 a2 a3 a4 a5 a6 a7 k, LeO (spec_Policy_Attr.f k a0 a1 a2 a3 a4 a5 a6 a7) (spec_Policy_Attr.f (k + 1) a0 a1 a2 a3 a4 a5 a6 a7) := by
  intro a0 a1 a2 a3 a4 a5 a6 a7 k
  have ih0 := spec_Policy_Attr.mono_l k
  unfold spec_Policy_Attr.f
  repeat' first
      | (with_reducible exact ih0 _ _ _ _ _)
      | (with_reducible exact spec_Has.mono _ _ _)
      | (with_reducible exact LeO.refl _)
      | (with_reducible exact LeO.none _)
      | (with_reducible refine LeO.ite ?_ ?_)
      | (with_reducible refine LeO.bind ?_ (fun _ => ?_))
      | exact ih0 _ _ _ _ _
      | exact spec_Has.mono _ _ _
      | exact LeO.none _
      | refine LeO.ite ?_ ?_
      | refine LeO.bind ?_ (fun _ => ?_)
set_option maxHeartbeats 8000000 in
set_option maxRecDepth 100000 in
theorem spec_Policy_Attr.calls (k : Nat) (A0_0 : Option Addr) (c0_0 : Nat) (l0_0 : List ByteArray) (A0_1 : Option Addr) (c0_1 : Nat) (l0_1 : List (S63)) (A0_2 : Option Addr) (c0_2 : Nat) (l0_2 : List ByteArray) (A0_3 : Option Addr) (c0_3 : Nat) (l0_3 : List ByteArray) (A0_4 : Option Addr) (c0_4 : Nat) (l0_4 : List ByteArray) (a0_5 : Bool) (a1 : ByteArray) (a2 : ByteArray) (r : Bool) (w : World) (hr0_0 : Kd.C Kd.string w A0_0 l0_0.length l0_0) (hc0_0 : l0_0.length ≤ c0_0) (hr0_1 : Kd.C k63 w A0_1 l0_1.length l0_1) (hc0_1 : l0_1.length ≤ c0_1) (hr0_2 : Kd.C Kd.string w A0_2 l0_2.length l0_2) (hc0_2 : l0_2.length ≤ c0_2) (hr0_3 : Kd.C Kd.string w A0_3 l0_3.length l0_3) (hc0_3 : l0_3.length ≤ c0_3) (hr0_4 : Kd.C Kd.string w A0_4 l0_4.length l0_4) (hc0_4 : l0_4.length ≤ c0_4) (h : spec_Policy_Attr.f k l0_0 l0_1 l0_2 l0_3 l0_4 a0_5 a1 a2 = some r) :
    Calls Tryz.prog 21 #[.agg #[.slice A0_0 l0_0.length c0_0, .slice A0_1 l0_1.length c0_1, .slice A0_2 l0_2.length c0_2, .slice A0_3 l0_3.length c0_3, .slice A0_4 l0_4.length c0_4, .bool a0_5], .string a1, .string a2] w fun e w' => e = .returned (.bool r) ∧ Below w.heap.size w w' := by
  have hu39 := Tryz.underlying39
  have hu63 := Tryz.underlying63
  have HR0_0 := Aside0.mk hr0_0
  have HC0_0 := Aside0.mk hc0_0
  clear hr0_0 hc0_0
  have HR0_1 := Aside0.mk hr0_1
  have HC0_1 := Aside0.mk hc0_1
  clear hr0_1 hc0_1
  have HR0_2 := Aside0.mk hr0_2
  have HC0_2 := Aside0.mk hc0_2
  clear hr0_2 hc0_2
  have HR0_3 := Aside0.mk hr0_3
  have HC0_3 := Aside0.mk hc0_3
  clear hr0_3 hc0_3
  have HR0_4 := Aside0.mk hr0_4
  have HC0_4 := Aside0.mk hc0_4
  clear hr0_4 hc0_4
  have HB := Aside0.mk (Below.refl w.heap.size w)
  have H : (spec_Policy_Attr.l0 k a1 a2 l0_1 (l0_1.length : Int) 0) = some r := h
  clear h
  have H' := Aside0.mk H
  clear H
  go_enter Tryz.func21, Tryz.ntmps21
  go_wp2_with (first | ((with_reducible refine gate_dst (N := 3) rfl ?_); refine box_event ?hg (N := 3) ?hd (cs := #[.slice A0_0 l0_0.length c0_0, .slice A0_1 l0_1.length c0_1, .slice A0_2 l0_2.length c0_2, .slice A0_3 l0_3.length c0_3, .slice A0_4 l0_4.length c0_4, .bool a0_5]) (t := 39) ?hr ?_; (case hd => rfl); (case hg => rfl); (case hr => first | (go_simp; done) | (go_simp; rfl)); intro gb160 hg w4 hbox hb; have n0_ := Aside0.mk (below_step (by repeat (first | (with_reducible first | exact HB.out | apply below_alloc | apply pw_below_drewN | apply below_drew1) | exact HB.out)) hb); have n1_ := Aside0.mk (hbox); have n2_ := Aside0.mk ((by rw [hg]; exact (below_size (by repeat (first | (with_reducible first | exact HB.out | apply below_alloc | apply pw_below_drewN | apply below_drew1) | exact HB.out))) : w.heap.size ≤ gb160)); have n3_ := Aside0.mk ((by rw [hg]; exact (below_size (by repeat (first | (with_reducible first | exact HB.out | apply below_alloc | apply pw_below_drewN | apply below_drew1) | exact HB.out))) : w.heap.size ≤ gb160)); clear HB; have HB := n0_; have BK160 := n1_; have GW160 := n2_; have GE160 := n3_; clear n0_ n1_ n2_ n3_; clear hb hbox hg; have hcz5_0 : w4.cell? ⟨gb160, 0, none⟩ = some (.slice A0_0 l0_0.length c0_0) := (blk_cell BK160.out 0).trans rfl; have hcz5_1 : w4.cell? ⟨gb160, 1, none⟩ = some (.slice A0_1 l0_1.length c0_1) := (blk_cell BK160.out 1).trans rfl; have hcz5_2 : w4.cell? ⟨gb160, 2, none⟩ = some (.slice A0_2 l0_2.length c0_2) := (blk_cell BK160.out 2).trans rfl; have hcz5_3 : w4.cell? ⟨gb160, 3, none⟩ = some (.slice A0_3 l0_3.length c0_3) := (blk_cell BK160.out 3).trans rfl; have hcz5_4 : w4.cell? ⟨gb160, 4, none⟩ = some (.slice A0_4 l0_4.length c0_4) := (blk_cell BK160.out 4).trans rfl; have hcz5_5 : w4.cell? ⟨gb160, 5, none⟩ = some (.bool a0_5) := (blk_cell BK160.out 5).trans rfl; have hfz5_0 := blk_frozen BK160.out 0; have hfz5_1 := blk_frozen BK160.out 1; have hfz5_2 := blk_frozen BK160.out 2; have hfz5_3 := blk_frozen BK160.out 3; have hfz5_4 := blk_frozen BK160.out 4; have hfz5_5 := blk_frozen BK160.out 5))
  go_loopg [12] k (fun kq v12 w' => ∃ (x12_1 : Int), v12 = .int .i64 x12_1 ∧ Aside0 (spec_Policy_Attr.l0 kq a1 a2 l0_1 (l0_1.length : Int) x12_1 = some r) ∧ Aside0 (kq ≤ k) ∧ Aside0 (w'.heap[gb160]? = some (.cells #[(.slice A0_0 l0_0.length c0_0), (.slice A0_1 l0_1.length c0_1), (.slice A0_2 l0_2.length c0_2), (.slice A0_3 l0_3.length c0_3), (.slice A0_4 l0_4.length c0_4), .bool a0_5] 39 (0, 0))) ∧ Aside0 (Below w.heap.size w w'))
  case atStart => exact ⟨(0), (by first | rfl | (simp; done) | (simp [*]; done)), H', ⟨Nat.le_refl _⟩, ⟨by (with_reducible repeat (first | refine blk_drewN ?_ _ | refine blk_drew ?_ | refine blk_alloc ?_ _)); exact BK160.out⟩, ⟨by repeat (first | (with_reducible first | exact HB.out | apply below_alloc | apply pw_below_drewN | apply below_drew1 | refine below_set ?_ GE160.out) | exact HB.out)⟩⟩
  case round =>
    clear H'
    try clear c2
    try clear p2
    try clear hcz5_0
    try clear hcz5_1
    try clear hcz5_2
    try clear hcz5_3
    try clear hcz5_4
    try clear hcz5_5
    try clear hfz5_0
    try clear hfz5_1
    try clear hfz5_2
    try clear hfz5_3
    try clear hfz5_4
    try clear hfz5_5
    obtain ⟨x12_1, rfl, HA, HK1, BK160, HB⟩ := hrel
    cases gk with
    | zero => exact absurd HA.out (by simp [spec_Policy_Attr.l0])
    | succ k1 =>
      have H := HA.out
      clear HA
      simp only [spec_Policy_Attr.l0] at H
      by_cases c6 : x12_1 < (l0_1.length : Int)
      · rw [if_pos c6] at H
        have c6b0 : decide (x12_1 < (l0_1.length : Int)) = true := decide_eq_true c6
        clear c6
        by_cases c7 : 0 ≤ x12_1
        · rw [if_pos c7] at H
          have c7b0 : decide (0 ≤ x12_1) = true := decide_eq_true c7
          clear c7
          by_cases c8 : x12_1 < (l0_1.length : Int)
          · rw [if_pos c8] at H
            have c8b0 : decide (x12_1 < (l0_1.length : Int)) = true := decide_eq_true c8
            clear c8
            replace H := Option.bind_eq_some_iff.mp H
            obtain ⟨t163, A90, H⟩ := H
            replace H : (if t163 = true then (if (rd_T63 l0_1 x12_1).f2 = true then (some true) else ((spec_Has.f k1 ((rd_T63 l0_1 x12_1).f1) a1).bind fun t164 => (if t164 = true then (some true) else (spec_Policy_Attr.l0 k1 a1 a2 l0_1 (l0_1.length : Int) (wrap64 (x12_1 + 1)))))) else (spec_Policy_Attr.l0 k1 a1 a2 l0_1 (l0_1.length : Int) (wrap64 (x12_1 + 1)))) = some r := H
            have A9 := Aside0.mk A90
            clear A90
            by_cases c10 : t163 = true
            · subst c10
              have H1 : (if (rd_T63 l0_1 x12_1).f2 = true then (some true) else ((spec_Has.f k1 ((rd_T63 l0_1 x12_1).f1) a1).bind fun t164 => (if t164 = true then (some true) else (spec_Policy_Attr.l0 k1 a1 a2 l0_1 (l0_1.length : Int) (wrap64 (x12_1 + 1)))))) = some r := by rw [if_pos rfl] at H; exact H
              clear H
              have H := H1
              clear H1
              obtain ⟨bq11, hbq11⟩ : ∃ b_ : Bool, b_ = ((rd_T63 l0_1 x12_1).f2) := ⟨_, rfl⟩
              replace H : (if bq11 = true then (some true) else ((spec_Has.f k1 ((rd_T63 l0_1 x12_1).f1) a1).bind fun t164 => (if t164 = true then (some true) else (spec_Policy_Attr.l0 k1 a1 a2 l0_1 (l0_1.length : Int) (wrap64 (x12_1 + 1)))))) = some r := by rw [← hbq11] at H; exact H
              have Nbq11 := Aside0.mk hbq11
              clear hbq11
              by_cases c12 : bq11 = true
              · subst c12
                have H1 : (some true) = some r := by rw [if_pos rfl] at H; exact H
                clear H
                have H := H1
                clear H1
                obtain rfl := Option.some.inj H
                have p161 : 0 ≤ (x12_1 : Int) := of_decide_eq_true (by first | (with_reducible assumption) | assumption)
                have q161 : x12_1 < (l0_1.length : Int) := of_decide_eq_true (by first | (with_reducible assumption) | assumption)
                obtain ⟨ad161, A161_0, c161_0, A161_1, c161_1, e161, hx161_0, hx161_1, hx161_2, hl161_0, hi161_0, hl161_1, hi161_1⟩ := at_T63 HR0_1.out x12_1 p161 q161
                (try rw [← Nbq11.out] at hx161_2)
                cases e161
                replace hx161_0 := (HB.out.cell (World.block_lt_of_cell? w _ hx161_0)).trans hx161_0
                replace hx161_1 := (HB.out.cell (World.block_lt_of_cell? w _ hx161_1)).trans hx161_1
                replace hx161_2 := (HB.out.cell (World.block_lt_of_cell? w _ hx161_2)).trans hx161_2
                have HR161_0 := Aside0.mk hi161_0
                have HC161_0 := Aside0.mk hl161_0
                clear hi161_0 hl161_0
                have HR161_1 := Aside0.mk hi161_1
                have HC161_1 := Aside0.mk hl161_1
                clear hi161_1 hl161_1
                replace p161 := eq_true p161
                replace q161 := eq_true q161
                go_wp2_with (first | ((with_reducible refine gate_dst (N := 8) rfl ?_); refine box_event ?hg (N := 8) ?hd (cs := #[.slice none 0 0, .slice none 0 0, .bool false]) (t := 63) ?hr ?_; (case hd => rfl); (case hg => rfl); (case hr => first | (go_simp; done) | (go_simp; rfl)); intro gb162 hg w13 hbox hb; have n0_ := Aside0.mk (blk_below (g := gb160) (o := .cells #[.slice A0_0 l0_0.length c0_0, .slice (some ad161) l0_1.length c0_1, .slice A0_2 l0_2.length c0_2, .slice A0_3 l0_3.length c0_3, .slice A0_4 l0_4.length c0_4, .bool a0_5] 39 (0, 0)) (by (with_reducible repeat (first | refine blk_drewN ?_ _ | refine blk_drew ?_ | refine blk_alloc ?_ _)); exact BK160.out) hb); have n1_ := Aside0.mk (below_step (by repeat (first | (with_reducible first | exact HB.out | apply below_alloc | apply pw_below_drewN | apply below_drew1 | refine below_set ?_ GE160.out) | exact HB.out)) hb); have n2_ := Aside0.mk (hbox); have n3_ := Aside0.mk ((by rw [hg]; exact (below_size (by repeat (first | (with_reducible first | exact HB.out | apply below_alloc | apply pw_below_drewN | apply below_drew1 | refine below_set ?_ GE160.out) | exact HB.out))) : w.heap.size ≤ gb162)); have n4_ := Aside0.mk ((by rw [hg]; exact (below_size (by repeat (first | (with_reducible first | exact HB.out | apply below_alloc | apply pw_below_drewN | apply below_drew1 | refine below_set ?_ GE160.out) | exact HB.out))) : w.heap.size ≤ gb162)); have n5_ := Aside0.mk ((by rw [hg]; exact Nat.ne_of_lt (blk_lt (g := gb160) (o := .cells #[.slice A0_0 l0_0.length c0_0, .slice (some ad161) l0_1.length c0_1, .slice A0_2 l0_2.length c0_2, .slice A0_3 l0_3.length c0_3, .slice A0_4 l0_4.length c0_4, .bool a0_5] 39 (0, 0)) (by (with_reducible repeat (first | refine blk_drewN ?_ _ | refine blk_drew ?_ | refine blk_alloc ?_ _)); exact BK160.out)) : gb160 ≠ gb162)); have n6_ := Aside0.mk ((by rw [hg]; exact Nat.ne_of_gt (blk_lt (g := gb160) (o := .cells #[.slice A0_0 l0_0.length c0_0, .slice (some ad161) l0_1.length c0_1, .slice A0_2 l0_2.length c0_2, .slice A0_3 l0_3.length c0_3, .slice A0_4 l0_4.length c0_4, .bool a0_5] 39 (0, 0)) (by (with_reducible repeat (first | refine blk_drewN ?_ _ | refine blk_drew ?_ | refine blk_alloc ?_ _)); exact BK160.out)) : gb162 ≠ gb160)); clear BK160; clear HB; have BK160 := n0_; have HB := n1_; have BK162 := n2_; have GW162 := n3_; have GE162 := n4_; have NB160_162 := n5_; have NB162_160 := n6_; clear n0_ n1_ n2_ n3_ n4_ n5_ n6_; clear hb hbox hg; have hnb14 := NB162_160.out; have hnc14 := NB160_162.out; have hcz15_0 : w13.cell? ⟨gb162, 0, none⟩ = some (.slice none 0 0) := (blk_cell BK162.out 0).trans rfl; have hcz15_1 : w13.cell? ⟨gb162, 1, none⟩ = some (.slice none 0 0) := (blk_cell BK162.out 1).trans rfl; have hcz15_2 : w13.cell? ⟨gb162, 2, none⟩ = some (.bool false) := (blk_cell BK162.out 2).trans rfl; have hfz15_0 := blk_frozen BK162.out 0; have hfz15_1 := blk_frozen BK162.out 1; have hfz15_2 := blk_frozen BK162.out 2) | ((with_reducible refine gate_callee (f := 12) rfl ?_); refine goesL_ (some 19) rfl rfl Tryz.func12 (by kernel_rfl) rfl #[.slice A161_0 ((rd_T63 l0_1 x12_1).f0).length c161_0, .string a2] rfl (by (try simp only [List.map_toArray, List.map_cons, List.map_nil]); first | done | rfl | (simp only [List.length_drop, List.length_take]; rfl)) ?_; (with_reducible refine (spec_Has.calls k1 _ _ ((rd_T63 l0_1 x12_1).f0) a2 true _ ?side1 ?side2 A9.out).mono ?_); (case side1 => exact Kd.C_below HR161_0.out (by repeat (first | (with_reducible first | exact HB.out | apply below_alloc | apply pw_below_drewN | apply below_drew1 | refine below_set ?_ GE160.out | refine below_set ?_ GE162.out) | exact HB.out))); (case side2 => exact HC161_0.out); rintro e w' ⟨rfl, ⟨nd, rfl⟩⟩; refine ⟨_, rfl, ?_⟩))
                go_ret
                exact ⟨by first | rfl | (simp [errW_none, errW_some] <;> rfl) | (simp [*, errW_none, errW_some] <;> rfl), by repeat (first | (with_reducible first | exact HB.out | apply below_alloc | apply pw_below_drewN | apply below_drew1 | refine below_set ?_ GE160.out | refine below_set ?_ GE162.out) | exact HB.out)⟩
              · replace c12 := Bool.eq_false_iff.mpr c12
                subst c12
                have H1 : ((spec_Has.f k1 ((rd_T63 l0_1 x12_1).f1) a1).bind fun t164 => (if t164 = true then (some true) else (spec_Policy_Attr.l0 k1 a1 a2 l0_1 (l0_1.length : Int) (wrap64 (x12_1 + 1))))) = some r := by rw [if_neg (show ¬ (false = true) by decide)] at H; exact H
                clear H
                have H := H1
                clear H1
                replace H := Option.bind_eq_some_iff.mp H
                obtain ⟨t164, A160, H⟩ := H
                replace H : (if t164 = true then (some true) else (spec_Policy_Attr.l0 k1 a1 a2 l0_1 (l0_1.length : Int) (wrap64 (x12_1 + 1)))) = some r := H
                have A16 := Aside0.mk A160
                clear A160
                by_cases c17 : t164 = true
                · subst c17
                  have H1 : (some true) = some r := by rw [if_pos rfl] at H; exact H
                  clear H
                  have H := H1
                  clear H1
                  obtain rfl := Option.some.inj H
                  have p161 : 0 ≤ (x12_1 : Int) := of_decide_eq_true (by first | (with_reducible assumption) | assumption)
                  have q161 : x12_1 < (l0_1.length : Int) := of_decide_eq_true (by first | (with_reducible assumption) | assumption)
                  obtain ⟨ad161, A161_0, c161_0, A161_1, c161_1, e161, hx161_0, hx161_1, hx161_2, hl161_0, hi161_0, hl161_1, hi161_1⟩ := at_T63 HR0_1.out x12_1 p161 q161
                  (try rw [← Nbq11.out] at hx161_2)
                  cases e161
                  replace hx161_0 := (HB.out.cell (World.block_lt_of_cell? w _ hx161_0)).trans hx161_0
                  replace hx161_1 := (HB.out.cell (World.block_lt_of_cell? w _ hx161_1)).trans hx161_1
                  replace hx161_2 := (HB.out.cell (World.block_lt_of_cell? w _ hx161_2)).trans hx161_2
                  have HR161_0 := Aside0.mk hi161_0
                  have HC161_0 := Aside0.mk hl161_0
                  clear hi161_0 hl161_0
                  have HR161_1 := Aside0.mk hi161_1
                  have HC161_1 := Aside0.mk hl161_1
                  clear hi161_1 hl161_1
                  replace p161 := eq_true p161
                  replace q161 := eq_true q161
                  go_wp2_with (first | ((with_reducible refine gate_dst (N := 8) rfl ?_); refine box_event ?hg (N := 8) ?hd (cs := #[.slice none 0 0, .slice none 0 0, .bool false]) (t := 63) ?hr ?_; (case hd => rfl); (case hg => rfl); (case hr => first | (go_simp; done) | (go_simp; rfl)); intro gb162 hg w18 hbox hb; have n0_ := Aside0.mk (blk_below (g := gb160) (o := .cells #[.slice A0_0 l0_0.length c0_0, .slice (some ad161) l0_1.length c0_1, .slice A0_2 l0_2.length c0_2, .slice A0_3 l0_3.length c0_3, .slice A0_4 l0_4.length c0_4, .bool a0_5] 39 (0, 0)) (by (with_reducible repeat (first | refine blk_drewN ?_ _ | refine blk_drew ?_ | refine blk_alloc ?_ _)); exact BK160.out) hb); have n1_ := Aside0.mk (below_step (by repeat (first | (with_reducible first | exact HB.out | apply below_alloc | apply pw_below_drewN | apply below_drew1 | refine below_set ?_ GE160.out) | exact HB.out)) hb); have n2_ := Aside0.mk (hbox); have n3_ := Aside0.mk ((by rw [hg]; exact (below_size (by repeat (first | (with_reducible first | exact HB.out | apply below_alloc | apply pw_below_drewN | apply below_drew1 | refine below_set ?_ GE160.out) | exact HB.out))) : w.heap.size ≤ gb162)); have n4_ := Aside0.mk ((by rw [hg]; exact (below_size (by repeat (first | (with_reducible first | exact HB.out | apply below_alloc | apply pw_below_drewN | apply below_drew1 | refine below_set ?_ GE160.out) | exact HB.out))) : w.heap.size ≤ gb162)); have n5_ := Aside0.mk ((by rw [hg]; exact Nat.ne_of_lt (blk_lt (g := gb160) (o := .cells #[.slice A0_0 l0_0.length c0_0, .slice (some ad161) l0_1.length c0_1, .slice A0_2 l0_2.length c0_2, .slice A0_3 l0_3.length c0_3, .slice A0_4 l0_4.length c0_4, .bool a0_5] 39 (0, 0)) (by (with_reducible repeat (first | refine blk_drewN ?_ _ | refine blk_drew ?_ | refine blk_alloc ?_ _)); exact BK160.out)) : gb160 ≠ gb162)); have n6_ := Aside0.mk ((by rw [hg]; exact Nat.ne_of_gt (blk_lt (g := gb160) (o := .cells #[.slice A0_0 l0_0.length c0_0, .slice (some ad161) l0_1.length c0_1, .slice A0_2 l0_2.length c0_2, .slice A0_3 l0_3.length c0_3, .slice A0_4 l0_4.length c0_4, .bool a0_5] 39 (0, 0)) (by (with_reducible repeat (first | refine blk_drewN ?_ _ | refine blk_drew ?_ | refine blk_alloc ?_ _)); exact BK160.out)) : gb162 ≠ gb160)); clear BK160; clear HB; have BK160 := n0_; have HB := n1_; have BK162 := n2_; have GW162 := n3_; have GE162 := n4_; have NB160_162 := n5_; have NB162_160 := n6_; clear n0_ n1_ n2_ n3_ n4_ n5_ n6_; clear hb hbox hg; have hnb19 := NB162_160.out; have hnc19 := NB160_162.out; have hcz20_0 : w18.cell? ⟨gb162, 0, none⟩ = some (.slice none 0 0) := (blk_cell BK162.out 0).trans rfl; have hcz20_1 : w18.cell? ⟨gb162, 1, none⟩ = some (.slice none 0 0) := (blk_cell BK162.out 1).trans rfl; have hcz20_2 : w18.cell? ⟨gb162, 2, none⟩ = some (.bool false) := (blk_cell BK162.out 2).trans rfl; have hfz20_0 := blk_frozen BK162.out 0; have hfz20_1 := blk_frozen BK162.out 1; have hfz20_2 := blk_frozen BK162.out 2) | ((with_reducible refine gate_callee (f := 12) rfl ?_); refine goesL_ (some 19) rfl rfl Tryz.func12 (by kernel_rfl) rfl #[.slice A161_0 ((rd_T63 l0_1 x12_1).f0).length c161_0, .string a2] rfl (by (try simp only [List.map_toArray, List.map_cons, List.map_nil]); first | done | rfl | (simp only [List.length_drop, List.length_take]; rfl)) ?_; (with_reducible refine (spec_Has.calls k1 _ _ ((rd_T63 l0_1 x12_1).f0) a2 true _ ?side1 ?side2 A9.out).mono ?_); (case side1 => exact Kd.C_below HR161_0.out (by repeat (first | (with_reducible first | exact HB.out | apply below_alloc | apply pw_below_drewN | apply below_drew1 | refine below_set ?_ GE160.out | refine below_set ?_ GE162.out) | exact HB.out))); (case side2 => exact HC161_0.out); rintro e w' ⟨rfl, ⟨nd, rfl⟩⟩; refine ⟨_, rfl, ?_⟩) | (go_at_call 12; (with_reducible refine (spec_Has.calls k1 _ _ ((rd_T63 l0_1 x12_1).f1) a1 true _ ?side1 ?side2 A16.out).mono ?_); (case side1 => exact Kd.C_below HR161_1.out (by repeat (first | (with_reducible first | exact HB.out | apply below_alloc | apply pw_below_drewN | apply below_drew1 | refine below_set ?_ GE160.out | refine below_set ?_ GE162.out) | exact HB.out))); (case side2 => exact HC161_1.out); rintro e w' ⟨rfl, ⟨nd, rfl⟩⟩))
                  go_ret
                  exact ⟨by first | rfl | (simp [errW_none, errW_some] <;> rfl) | (simp [*, errW_none, errW_some] <;> rfl), by repeat (first | (with_reducible first | exact HB.out | apply below_alloc | apply pw_below_drewN | apply below_drew1 | refine below_set ?_ GE160.out | refine below_set ?_ GE162.out) | exact HB.out)⟩
                · replace c17 := Bool.eq_false_iff.mpr c17
                  subst c17
                  have H1 : (spec_Policy_Attr.l0 k1 a1 a2 l0_1 (l0_1.length : Int) (wrap64 (x12_1 + 1))) = some r := by rw [if_neg (show ¬ (false = true) by decide)] at H; exact H
                  clear H
                  have H := H1
                  clear H1
                  have H' := Aside0.mk H
                  clear H
                  have p161 : 0 ≤ (x12_1 : Int) := of_decide_eq_true (by first | (with_reducible assumption) | assumption)
                  have q161 : x12_1 < (l0_1.length : Int) := of_decide_eq_true (by first | (with_reducible assumption) | assumption)
                  obtain ⟨ad161, A161_0, c161_0, A161_1, c161_1, e161, hx161_0, hx161_1, hx161_2, hl161_0, hi161_0, hl161_1, hi161_1⟩ := at_T63 HR0_1.out x12_1 p161 q161
                  (try rw [← Nbq11.out] at hx161_2)
                  cases e161
                  replace hx161_0 := (HB.out.cell (World.block_lt_of_cell? w _ hx161_0)).trans hx161_0
                  replace hx161_1 := (HB.out.cell (World.block_lt_of_cell? w _ hx161_1)).trans hx161_1
                  replace hx161_2 := (HB.out.cell (World.block_lt_of_cell? w _ hx161_2)).trans hx161_2
                  have HR161_0 := Aside0.mk hi161_0
                  have HC161_0 := Aside0.mk hl161_0
                  clear hi161_0 hl161_0
                  have HR161_1 := Aside0.mk hi161_1
                  have HC161_1 := Aside0.mk hl161_1
                  clear hi161_1 hl161_1
                  replace p161 := eq_true p161
                  replace q161 := eq_true q161
                  go_wp2_with (first | ((with_reducible refine gate_dst (N := 8) rfl ?_); refine box_event ?hg (N := 8) ?hd (cs := #[.slice none 0 0, .slice none 0 0, .bool false]) (t := 63) ?hr ?_; (case hd => rfl); (case hg => rfl); (case hr => first | (go_simp; done) | (go_simp; rfl)); intro gb162 hg w21 hbox hb; have n0_ := Aside0.mk (blk_below (g := gb160) (o := .cells #[.slice A0_0 l0_0.length c0_0, .slice (some ad161) l0_1.length c0_1, .slice A0_2 l0_2.length c0_2, .slice A0_3 l0_3.length c0_3, .slice A0_4 l0_4.length c0_4, .bool a0_5] 39 (0, 0)) (by (with_reducible repeat (first | refine blk_drewN ?_ _ | refine blk_drew ?_ | refine blk_alloc ?_ _)); exact BK160.out) hb); have n1_ := Aside0.mk (below_step (by repeat (first | (with_reducible first | exact HB.out | apply below_alloc | apply pw_below_drewN | apply below_drew1 | refine below_set ?_ GE160.out) | exact HB.out)) hb); have n2_ := Aside0.mk (hbox); have n3_ := Aside0.mk ((by rw [hg]; exact (below_size (by repeat (first | (with_reducible first | exact HB.out | apply below_alloc | apply pw_below_drewN | apply below_drew1 | refine below_set ?_ GE160.out) | exact HB.out))) : w.heap.size ≤ gb162)); have n4_ := Aside0.mk ((by rw [hg]; exact (below_size (by repeat (first | (with_reducible first | exact HB.out | apply below_alloc | apply pw_below_drewN | apply below_drew1 | refine below_set ?_ GE160.out) | exact HB.out))) : w.heap.size ≤ gb162)); have n5_ := Aside0.mk ((by rw [hg]; exact Nat.ne_of_lt (blk_lt (g := gb160) (o := .cells #[.slice A0_0 l0_0.length c0_0, .slice (some ad161) l0_1.length c0_1, .slice A0_2 l0_2.length c0_2, .slice A0_3 l0_3.length c0_3, .slice A0_4 l0_4.length c0_4, .bool a0_5] 39 (0, 0)) (by (with_reducible repeat (first | refine blk_drewN ?_ _ | refine blk_drew ?_ | refine blk_alloc ?_ _)); exact BK160.out)) : gb160 ≠ gb162)); have n6_ := Aside0.mk ((by rw [hg]; exact Nat.ne_of_gt (blk_lt (g := gb160) (o := .cells #[.slice A0_0 l0_0.length c0_0, .slice (some ad161) l0_1.length c0_1, .slice A0_2 l0_2.length c0_2, .slice A0_3 l0_3.length c0_3, .slice A0_4 l0_4.length c0_4, .bool a0_5] 39 (0, 0)) (by (with_reducible repeat (first | refine blk_drewN ?_ _ | refine blk_drew ?_ | refine blk_alloc ?_ _)); exact BK160.out)) : gb162 ≠ gb160)); clear BK160; clear HB; have BK160 := n0_; have HB := n1_; have BK162 := n2_; have GW162 := n3_; have GE162 := n4_; have NB160_162 := n5_; have NB162_160 := n6_; clear n0_ n1_ n2_ n3_ n4_ n5_ n6_; clear hb hbox hg; have hnb22 := NB162_160.out; have hnc22 := NB160_162.out; have hcz23_0 : w21.cell? ⟨gb162, 0, none⟩ = some (.slice none 0 0) := (blk_cell BK162.out 0).trans rfl; have hcz23_1 : w21.cell? ⟨gb162, 1, none⟩ = some (.slice none 0 0) := (blk_cell BK162.out 1).trans rfl; have hcz23_2 : w21.cell? ⟨gb162, 2, none⟩ = some (.bool false) := (blk_cell BK162.out 2).trans rfl; have hfz23_0 := blk_frozen BK162.out 0; have hfz23_1 := blk_frozen BK162.out 1; have hfz23_2 := blk_frozen BK162.out 2) | ((with_reducible refine gate_callee (f := 12) rfl ?_); refine goesL_ (some 19) rfl rfl Tryz.func12 (by kernel_rfl) rfl #[.slice A161_0 ((rd_T63 l0_1 x12_1).f0).length c161_0, .string a2] rfl (by (try simp only [List.map_toArray, List.map_cons, List.map_nil]); first | done | rfl | (simp only [List.length_drop, List.length_take]; rfl)) ?_; (with_reducible refine (spec_Has.calls k1 _ _ ((rd_T63 l0_1 x12_1).f0) a2 true _ ?side1 ?side2 A9.out).mono ?_); (case side1 => exact Kd.C_below HR161_0.out (by repeat (first | (with_reducible first | exact HB.out | apply below_alloc | apply pw_below_drewN | apply below_drew1 | refine below_set ?_ GE160.out | refine below_set ?_ GE162.out) | exact HB.out))); (case side2 => exact HC161_0.out); rintro e w' ⟨rfl, ⟨nd, rfl⟩⟩; refine ⟨_, rfl, ?_⟩) | (go_at_call 12; (with_reducible refine (spec_Has.calls k1 _ _ ((rd_T63 l0_1 x12_1).f1) a1 false _ ?side1 ?side2 A16.out).mono ?_); (case side1 => exact Kd.C_below HR161_1.out (by repeat (first | (with_reducible first | exact HB.out | apply below_alloc | apply pw_below_drewN | apply below_drew1 | refine below_set ?_ GE160.out | refine below_set ?_ GE162.out) | exact HB.out))); (case side2 => exact HC161_1.out); rintro e w' ⟨rfl, ⟨nd, rfl⟩⟩))
                  go_roundg k1
                  case measure => have := HK1.out; omega
                  case rel => exact ⟨(wrap64 (x12_1 + 1)), (by first | rfl | (simp; done) | (simp [*]; done)), H', ⟨by have := HK1.out; omega⟩, ⟨by (with_reducible repeat (first | refine blk_drewN ?_ _ | refine blk_drew ?_ | refine blk_alloc ?_ _)); refine blk_far ?_ NB160_162.out _; (with_reducible repeat (first | refine blk_drewN ?_ _ | refine blk_drew ?_ | refine blk_alloc ?_ _)); refine blk_far ?_ NB160_162.out _; (with_reducible repeat (first | refine blk_drewN ?_ _ | refine blk_drew ?_ | refine blk_alloc ?_ _)); refine blk_far ?_ NB160_162.out _; (with_reducible repeat (first | refine blk_drewN ?_ _ | refine blk_drew ?_ | refine blk_alloc ?_ _)); exact BK160.out⟩, ⟨by repeat (first | (with_reducible first | exact HB.out | apply below_alloc | apply pw_below_drewN | apply below_drew1 | refine below_set ?_ GE160.out | refine below_set ?_ GE162.out) | exact HB.out)⟩⟩
            · replace c10 := Bool.eq_false_iff.mpr c10
              subst c10
              have H1 : (spec_Policy_Attr.l0 k1 a1 a2 l0_1 (l0_1.length : Int) (wrap64 (x12_1 + 1))) = some r := by rw [if_neg (show ¬ (false = true) by decide)] at H; exact H
              clear H
              have H := H1
              clear H1
              have H' := Aside0.mk H
              clear H
              have p161 : 0 ≤ (x12_1 : Int) := of_decide_eq_true (by first | (with_reducible assumption) | assumption)
              have q161 : x12_1 < (l0_1.length : Int) := of_decide_eq_true (by first | (with_reducible assumption) | assumption)
              obtain ⟨ad161, A161_0, c161_0, A161_1, c161_1, e161, hx161_0, hx161_1, hx161_2, hl161_0, hi161_0, hl161_1, hi161_1⟩ := at_T63 HR0_1.out x12_1 p161 q161
              cases e161
              replace hx161_0 := (HB.out.cell (World.block_lt_of_cell? w _ hx161_0)).trans hx161_0
              replace hx161_1 := (HB.out.cell (World.block_lt_of_cell? w _ hx161_1)).trans hx161_1
              replace hx161_2 := (HB.out.cell (World.block_lt_of_cell? w _ hx161_2)).trans hx161_2
              have HR161_0 := Aside0.mk hi161_0
              have HC161_0 := Aside0.mk hl161_0
              clear hi161_0 hl161_0
              have HR161_1 := Aside0.mk hi161_1
              have HC161_1 := Aside0.mk hl161_1
              clear hi161_1 hl161_1
              replace p161 := eq_true p161
              replace q161 := eq_true q161
              go_wp2_with (first | ((with_reducible refine gate_dst (N := 8) rfl ?_); refine box_event ?hg (N := 8) ?hd (cs := #[.slice none 0 0, .slice none 0 0, .bool false]) (t := 63) ?hr ?_; (case hd => rfl); (case hg => rfl); (case hr => first | (go_simp; done) | (go_simp; rfl)); intro gb162 hg w24 hbox hb; have n0_ := Aside0.mk (blk_below (g := gb160) (o := .cells #[.slice A0_0 l0_0.length c0_0, .slice (some ad161) l0_1.length c0_1, .slice A0_2 l0_2.length c0_2, .slice A0_3 l0_3.length c0_3, .slice A0_4 l0_4.length c0_4, .bool a0_5] 39 (0, 0)) (by (with_reducible repeat (first | refine blk_drewN ?_ _ | refine blk_drew ?_ | refine blk_alloc ?_ _)); exact BK160.out) hb); have n1_ := Aside0.mk (below_step (by repeat (first | (with_reducible first | exact HB.out | apply below_alloc | apply pw_below_drewN | apply below_drew1 | refine below_set ?_ GE160.out) | exact HB.out)) hb); have n2_ := Aside0.mk (hbox); have n3_ := Aside0.mk ((by rw [hg]; exact (below_size (by repeat (first | (with_reducible first | exact HB.out | apply below_alloc | apply pw_below_drewN | apply below_drew1 | refine below_set ?_ GE160.out) | exact HB.out))) : w.heap.size ≤ gb162)); have n4_ := Aside0.mk ((by rw [hg]; exact (below_size (by repeat (first | (with_reducible first | exact HB.out | apply below_alloc | apply pw_below_drewN | apply below_drew1 | refine below_set ?_ GE160.out) | exact HB.out))) : w.heap.size ≤ gb162)); have n5_ := Aside0.mk ((by rw [hg]; exact Nat.ne_of_lt (blk_lt (g := gb160) (o := .cells #[.slice A0_0 l0_0.length c0_0, .slice (some ad161) l0_1.length c0_1, .slice A0_2 l0_2.length c0_2, .slice A0_3 l0_3.length c0_3, .slice A0_4 l0_4.length c0_4, .bool a0_5] 39 (0, 0)) (by (with_reducible repeat (first | refine blk_drewN ?_ _ | refine blk_drew ?_ | refine blk_alloc ?_ _)); exact BK160.out)) : gb160 ≠ gb162)); have n6_ := Aside0.mk ((by rw [hg]; exact Nat.ne_of_gt (blk_lt (g := gb160) (o := .cells #[.slice A0_0 l0_0.length c0_0, .slice (some ad161) l0_1.length c0_1, .slice A0_2 l0_2.length c0_2, .slice A0_3 l0_3.length c0_3, .slice A0_4 l0_4.length c0_4, .bool a0_5] 39 (0, 0)) (by (with_reducible repeat (first | refine blk_drewN ?_ _ | refine blk_drew ?_ | refine blk_alloc ?_ _)); exact BK160.out)) : gb162 ≠ gb160)); clear BK160; clear HB; have BK160 := n0_; have HB := n1_; have BK162 := n2_; have GW162 := n3_; have GE162 := n4_; have NB160_162 := n5_; have NB162_160 := n6_; clear n0_ n1_ n2_ n3_ n4_ n5_ n6_; clear hb hbox hg; have hnb25 := NB162_160.out; have hnc25 := NB160_162.out; have hcz26_0 : w24.cell? ⟨gb162, 0, none⟩ = some (.slice none 0 0) := (blk_cell BK162.out 0).trans rfl; have hcz26_1 : w24.cell? ⟨gb162, 1, none⟩ = some (.slice none 0 0) := (blk_cell BK162.out 1).trans rfl; have hcz26_2 : w24.cell? ⟨gb162, 2, none⟩ = some (.bool false) := (blk_cell BK162.out 2).trans rfl; have hfz26_0 := blk_frozen BK162.out 0; have hfz26_1 := blk_frozen BK162.out 1; have hfz26_2 := blk_frozen BK162.out 2) | ((with_reducible refine gate_callee (f := 12) rfl ?_); refine goesL_ (some 19) rfl rfl Tryz.func12 (by kernel_rfl) rfl #[.slice A161_0 ((rd_T63 l0_1 x12_1).f0).length c161_0, .string a2] rfl (by (try simp only [List.map_toArray, List.map_cons, List.map_nil]); first | done | rfl | (simp only [List.length_drop, List.length_take]; rfl)) ?_; (with_reducible refine (spec_Has.calls k1 _ _ ((rd_T63 l0_1 x12_1).f0) a2 false _ ?side1 ?side2 A9.out).mono ?_); (case side1 => exact Kd.C_below HR161_0.out (by repeat (first | (with_reducible first | exact HB.out | apply below_alloc | apply pw_below_drewN | apply below_drew1 | refine below_set ?_ GE160.out | refine below_set ?_ GE162.out) | exact HB.out))); (case side2 => exact HC161_0.out); rintro e w' ⟨rfl, ⟨nd, rfl⟩⟩; refine ⟨_, rfl, ?_⟩))
              go_roundg k1
              case measure => have := HK1.out; omega
              case rel => exact ⟨(wrap64 (x12_1 + 1)), (by first | rfl | (simp; done) | (simp [*]; done)), H', ⟨by have := HK1.out; omega⟩, ⟨by (with_reducible repeat (first | refine blk_drewN ?_ _ | refine blk_drew ?_ | refine blk_alloc ?_ _)); refine blk_far ?_ NB160_162.out _; (with_reducible repeat (first | refine blk_drewN ?_ _ | refine blk_drew ?_ | refine blk_alloc ?_ _)); refine blk_far ?_ NB160_162.out _; (with_reducible repeat (first | refine blk_drewN ?_ _ | refine blk_drew ?_ | refine blk_alloc ?_ _)); refine blk_far ?_ NB160_162.out _; (with_reducible repeat (first | refine blk_drewN ?_ _ | refine blk_drew ?_ | refine blk_alloc ?_ _)); exact BK160.out⟩, ⟨by repeat (first | (with_reducible first | exact HB.out | apply below_alloc | apply pw_below_drewN | apply below_drew1 | refine below_set ?_ GE160.out | refine below_set ?_ GE162.out) | exact HB.out)⟩⟩
          · rw [if_neg c8] at H
            exact absurd H (by simp)
        · rw [if_neg c7] at H
          exact absurd H (by simp)
      · rw [if_neg c6] at H
        have c6b0 : decide (x12_1 < (l0_1.length : Int)) = false := decide_eq_false c6
        clear c6
        obtain rfl := Option.some.inj H
        go_wp2
        go_ret
        exact ⟨by first | rfl | (simp [errW_none, errW_some] <;> rfl) | (simp [*, errW_none, errW_some] <;> rfl), by repeat (first | (with_reducible first | exact HB.out | apply below_alloc | apply pw_below_drewN | apply below_drew1 | refine below_set ?_ GE160.out) | exact HB.out)⟩

-- NOT PRINTED: function 44 (bluemonday_Policy_init)

-- NOT PRINTED: function 49 (bluemonday_Policy_addDefaultElementsWithoutAttrs)

-- NOT PRINTED: function 50 (bluemonday_Policy_addDefaultSkipElementContent)

-- NOT PRINTED: function 40 (bluemonday_NewPolicy)

-- NOT PRINTED: function 41 (bluemonday_StrictPolicy)

-- NOT PRINTED: function 148 (abi_NoEscape)

-- NOT PRINTED: function 116 (strings_Builder_copyCheck)

-- NOT PRINTED: function 149 (bytealg_MakeNoZero)

-- NOT PRINTED: function 117 (strings_Builder_grow)

-- NOT PRINTED: function 87 (strings_Builder_Grow)

-- NOT PRINTED: function 88 (strings_Builder_WriteString)

-- NOT PRINTED: function 89 (strings_Builder_WriteByte)

-- NOT PRINTED: function 96 (strings_Builder_String)

-- NOT PRINTED: function 164 (utf8_decodeRuneInStringSlow)

-- NOT PRINTED: function 139 (utf8_DecodeRuneInString)

/-! ### utf8_RuneLen: function 156 -/
def utf8_RuneLen.j0 : Nat → Int → Bool → Option (Int)
  | 0, _, _ => none
  | k + 1, x0, x12 => if x12 = true then (some (-1)) else (if x0 ≤ 65535 then (some 3) else (if x0 ≤ 1114111 then (some 4) else (some (-1))))
def utf8_RuneLen.f (k : Nat) (a0 : Int) : Option (Int) := if a0 < 0 then (some (-1)) else (if a0 ≤ 127 then (some 1) else (if a0 ≤ 2047 then (some 2) else (if 55296 ≤ a0 then (utf8_RuneLen.j0 k a0 (decide (a0 ≤ 57343))) else (utf8_RuneLen.j0 k a0 false))))
theorem utf8_RuneLen.mono_l : ∀ k, (∀ y0 y1, LeO (utf8_RuneLen.j0 k y0 y1) (utf8_RuneLen.j0 (k + 1) y0 y1))
  | 0 => fun _ _ r h => by simp [utf8_RuneLen.j0] at h
  | k + 1 => by
    have ih0 := utf8_RuneLen.mono_l k
    · intro y0 y1
      unfold utf8_RuneLen.j0
      repeat' first
      | (with_reducible exact ih0 _ _)
      | (with_reducible exact LeO.refl _)
      | (with_reducible exact LeO.none _)
      | (with_reducible refine LeO.ite ?_ ?_)
      | (with_reducible refine LeO.bind ?_ (fun _ => ?_))
      | exact ih0 _ _
      | exact LeO.none _
      | refine LeO.ite ?_ ?_
      | refine LeO.bind ?_ (fun _ => ?_)
theorem utf8_RuneLen.mono : ∀ a0 k, LeO (utf8_RuneLen.f k a0) (utf8_RuneLen.f (k + 1) a0) := by
  intro a0 k
  have ih0 := utf8_RuneLen.mono_l k
  unfold utf8_RuneLen.f
  repeat' first
      | (with_reducible exact ih0 _ _)
      | (with_reducible exact LeO.refl _)
      | (with_reducible exact LeO.none _)
      | (with_reducible refine LeO.ite ?_ ?_)
      | (with_reducible refine LeO.bind ?_ (fun _ => ?_))
      | exact ih0 _ _
      | exact LeO.none _
      | refine LeO.ite ?_ ?_
      | refine LeO.bind ?_ (fun _ => ?_)
set_option maxHeartbeats 8000000 in
set_option maxRecDepth 100000 in
theorem utf8_RuneLen.calls (k : Nat) (a0 : Int) (r : Int) (w : World) (h : utf8_RuneLen.f k a0 = some r) :
    Calls Tryz.prog 156 #[.int .i32 a0] w fun e w' => e = .returned (.int .i64 r) ∧ Drawn0 w w' := by
  have H : (if a0 < 0 then (some (-1)) else (if a0 ≤ 127 then (some 1) else (if a0 ≤ 2047 then (some 2) else (if 55296 ≤ a0 then (utf8_RuneLen.j0 k a0 (decide (a0 ≤ 57343))) else (utf8_RuneLen.j0 k a0 false))))) = some r := h
  clear h
  by_cases c2 : a0 < 0
  · rw [if_pos c2] at H
    have c2b0 : decide (a0 < 0) = true := decide_eq_true c2
    clear c2
    obtain rfl := Option.some.inj H
    go_enter Tryz.func156, Tryz.ntmps156
    go_wp2
    go_ret
    exact ⟨by first | rfl | (simp; done) | (simp [*]; done), by repeat (first | exact Drawn0.refl _ | apply Drawn0.step)⟩
  · rw [if_neg c2] at H
    have c2b0 : decide (a0 < 0) = false := decide_eq_false c2
    clear c2
    by_cases c3 : a0 ≤ 127
    · rw [if_pos c3] at H
      have c3b0 : decide (a0 ≤ 127) = true := decide_eq_true c3
      clear c3
      obtain rfl := Option.some.inj H
      go_enter Tryz.func156, Tryz.ntmps156
      go_wp2
      go_ret
      exact ⟨by first | rfl | (simp; done) | (simp [*]; done), by repeat (first | exact Drawn0.refl _ | apply Drawn0.step)⟩
    · rw [if_neg c3] at H
      have c3b0 : decide (a0 ≤ 127) = false := decide_eq_false c3
      clear c3
      by_cases c4 : a0 ≤ 2047
      · rw [if_pos c4] at H
        have c4b0 : decide (a0 ≤ 2047) = true := decide_eq_true c4
        clear c4
        obtain rfl := Option.some.inj H
        go_enter Tryz.func156, Tryz.ntmps156
        go_wp2
        go_ret
        exact ⟨by first | rfl | (simp; done) | (simp [*]; done), by repeat (first | exact Drawn0.refl _ | apply Drawn0.step)⟩
      · rw [if_neg c4] at H
        have c4b0 : decide (a0 ≤ 2047) = false := decide_eq_false c4
        clear c4
        have HC5 := Aside0.mk H
        clear H
        go_enter Tryz.func156, Tryz.ntmps156
        go_upto_region 7 with (fail)
        go_cut [12] (fun v12 wc => ∃ (kq : Nat) (x12_4 : Bool), v12 = .bool x12_4 ∧ Aside0 (utf8_RuneLen.j0 kq a0 x12_4 = some r) ∧ Aside0 (kq ≤ k) ∧ Drawn0 w wc)
        case first =>
          have H := HC5.out
          clear HC5
          by_cases c6 : 55296 ≤ a0
          · rw [if_pos c6] at H
            have c6b0 : decide (55296 ≤ a0) = true := decide_eq_true c6
            clear c6
            (first | rw [c6b0] | (simp only [i64_w, i32_w]; rw [c6b0]) | skip)
            have H' := Aside0.mk H
            clear H
            go_wp2
            go_meet
            case rel => exact ⟨_, (decide (a0 ≤ 57343)), (by first | rfl | (simp; done) | (simp [*]; done)), H', ⟨by first | omega | exact Nat.le_refl _⟩, by repeat (first | exact Drawn0.refl _ | apply Drawn0.step)⟩
          · rw [if_neg c6] at H
            have c6b0 : decide (55296 ≤ a0) = false := decide_eq_false c6
            clear c6
            (first | rw [c6b0] | (simp only [i64_w, i32_w]; rw [c6b0]) | skip)
            have H' := Aside0.mk H
            clear H
            go_wp2
            go_meet
            case rel => exact ⟨_, (false), (by first | rfl | (simp; done) | (simp [*]; done)), H', ⟨by first | omega | exact Nat.le_refl _⟩, by repeat (first | exact Drawn0.refl _ | apply Drawn0.step)⟩
        case rest =>
          clear HC5
          try clear c1
          try clear c2
          try clear c2b0
          try clear p2
          try clear c3
          try clear c3b0
          try clear c4
          try clear c4b0
          try clear c6
          try clear c6b0
          obtain ⟨kq, x12_4, rfl, HA, HJ4, ⟨mc4, rfl⟩⟩ := hcut
          cases kq with
          | zero => exact absurd HA.out (by simp [utf8_RuneLen.j0])
          | succ kj4 =>
            have H := HA.out
            clear HA
            simp only [utf8_RuneLen.j0] at H
            by_cases c7 : x12_4 = true
            · subst c7
              have H1 : (some (-1)) = some r := by rw [if_pos rfl] at H; exact H
              clear H
              have H := H1
              clear H1
              obtain rfl := Option.some.inj H
              go_wp2
              go_ret
              exact ⟨by first | rfl | (simp; done) | (simp [*]; done), by repeat (first | exact Drawn0.refl _ | apply Drawn0.step)⟩
            · replace c7 := Bool.eq_false_iff.mpr c7
              subst c7
              have H1 : (if a0 ≤ 65535 then (some 3) else (if a0 ≤ 1114111 then (some 4) else (some (-1)))) = some r := by rw [if_neg (show ¬ (false = true) by decide)] at H; exact H
              clear H
              have H := H1
              clear H1
              by_cases c8 : a0 ≤ 65535
              · rw [if_pos c8] at H
                have c8b0 : decide (a0 ≤ 65535) = true := decide_eq_true c8
                clear c8
                obtain rfl := Option.some.inj H
                go_wp2
                go_ret
                exact ⟨by first | rfl | (simp; done) | (simp [*]; done), by repeat (first | exact Drawn0.refl _ | apply Drawn0.step)⟩
              · rw [if_neg c8] at H
                have c8b0 : decide (a0 ≤ 65535) = false := decide_eq_false c8
                clear c8
                by_cases c9 : a0 ≤ 1114111
                · rw [if_pos c9] at H
                  have c9b0 : decide (a0 ≤ 1114111) = true := decide_eq_true c9
                  clear c9
                  obtain rfl := Option.some.inj H
                  go_wp2
                  go_ret
                  exact ⟨by first | rfl | (simp; done) | (simp [*]; done), by repeat (first | exact Drawn0.refl _ | apply Drawn0.step)⟩
                · rw [if_neg c9] at H
                  have c9b0 : decide (a0 ≤ 1114111) = false := decide_eq_false c9
                  clear c9
                  obtain rfl := Option.some.inj H
                  go_wp2
                  go_ret
                  exact ⟨by first | rfl | (simp; done) | (simp [*]; done), by repeat (first | exact Drawn0.refl _ | apply Drawn0.step)⟩

end Go.Proofs.YtlgacgiikmkfcaaGreatDoor.PFnAttrs
