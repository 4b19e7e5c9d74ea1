/- FnAttrs itself: it answers true. -/
import Derived.Test.YtlgacgiikmkfcaaGreatDoorCleans
import Derived.Deep.RegionHeld3
import Derived.Deep.LoopGhost
import Derived.Deep.CutRange
import Derived.Deep.QuietTactic
import Derived.BigQuiet
namespace Go.Proofs.YtlgacgiikmkfcaaGreatDoor
open Go.RowKit M Go.Proofs.YtlgacgiikmkfcaaGreatDoor.PFnAttrs Go.Proofs.YtlgacgiikmkfcaaGreatDoorW.PrintWords Go.Proofs.YtlgacgiikmkfcaaGreatDoorW.PrintLast
theorem eqA44 (d : Nat) (w : World) (x0 y0 : ByteArray) (x1 y1 : ByteArray) :
    (Op.equalIn (d + 2) 44 (.agg #[.string x0, .string x1]) (.agg #[.string y0, .string y1])).run Tryz.prog w = .ok (x0.toList == y0.toList && (x1.toList == y1.toList)) w := by
  refine eqA_of Tryz.underlying44 (by kernel_rfl) ?_
  refine eqf_cons (by rfl) (by go_simp; rfl) (by go_simp; rfl) (by go_simp) ?_
  exact eqf_last (by rfl) (by go_simp; rfl) (by go_simp; rfl) (by go_simp)
attribute [local go_sem high] eqA44
theorem box_S {W0 W : World} {g0 : Nat} {a b : Value} (h : W0.heap[g0]? = some (.cells #[a, b] 44 (0, 0))) (hb : Below W0.heap.size W0 W) : W.cell? ⟨g0, 0, none⟩ = some a ∧ W.cell? ⟨g0, 1, none⟩ = some b :=
  ⟨(blk_cell (blk_below h hb) 0).trans rfl, (blk_cell (blk_below h hb) 1).trans rfl⟩
theorem take_step44 {l : List S44} {k : Nat} (hk : k < l.length) {x : S44} (hx : x = rd_T44 l (k : Int)) (q : S44 → Bool) : (l.take (k + 1)).filter q = (l.take k).filter q ++ if q x then [x] else [] := by
  have h1 : l[k] = x := by
    rw [hx]
    simp [rd_T44, List.getD, List.getElem?_eq_getElem hk]
  rw [List.take_succ_eq_append_getElem hk, List.filter_append, h1]
  congr 1
  cases hq : q x <;> simp [List.filter, hq]
set_option maxRecDepth 100000 in
set_option maxHeartbeats 4000000 in
theorem fnAttrs_calls (A B : Option Addr) (c cb : Nat) (l : List S49) (element : ByteArray) (xs : List S44) (w : World) (hr : Kd.C k49 w A l.length l) (hc : l.length ≤ c)
    (hx : Kd.C k44 w B xs.length xs) (hxc : xs.length ≤ cb) (hwt : wt l ≤ 1000000000) :
    Calls Tryz.prog 4 #[.slice A l.length c, .string element, .slice B xs.length cb] w fun e w' => e = .returned (.bool true) ∧ Below w.heap.size w w' := by
  have HR := Lib.hid hr
  have HX := Lib.hid hx
  have HC := Lib.hid hc
  have HXC := Lib.hid hxc
  have HWT := Lib.hid hwt
  clear hr hx hc hxc hwt
  obtain ⟨b3, ⟨K3, e3⟩, p3⟩ := ev_fits3 l
  obtain ⟨b6, ⟨K6, e6⟩, p6⟩ := ev_fits6 xs
  have E3 := Lib.hid (e3 K3 (Nat.le_refl _))
  have E6 := Lib.hid (e6 K6 (Nat.le_refl _))
  have P3 := Lib.hid p3
  have P6 := Lib.hid p6
  clear e3 e6 p3 p6
  cases b3
  · go_enter Tryz.func4, Tryz.ntmps4
    go_wp2_with (go_at_call 5; refine (laws_zzFits3.calls K3 A c l false w HR.out HC.out E3.out).mono ?_; rintro e w1 ⟨rfl, hB⟩; have HB1 := Lib.hid hB; clear hB)
    go_ret
    exact ⟨rfl, HB1.out⟩
  by_cases hsz : (2147483647 : Int) < (element.size : Int)
  · have hsz1 : decide ((2147483647 : Int) < (element.size : Int)) = true := decide_eq_true hsz
    have hsz2 : decide (2147483647 < element.size) = true := decide_eq_true (by omega)
    clear hsz
    go_enter Tryz.func4, Tryz.ntmps4
    go_wp2_with (go_at_call 5; refine (laws_zzFits3.calls K3 A c l true w HR.out HC.out E3.out).mono ?_; rintro e w1 ⟨rfl, hB⟩; have HB1 := Lib.hid hB; clear hB)
    go_ret
    exact ⟨rfl, HB1.out⟩
  have hsz1 : decide ((2147483647 : Int) < (element.size : Int)) = false := decide_eq_false hsz
  have hsz2 : decide (2147483647 < element.size) = false := decide_eq_false (by omega)
  have HSZ := Lib.hid (show element.size ≤ 2147483647 by omega)
  clear hsz
  cases b6
  · go_enter Tryz.func4, Tryz.ntmps4
    go_wp2_with (first | (go_at_call 5; refine (laws_zzFits3.calls K3 A c l true w HR.out HC.out E3.out).mono ?_; rintro e w1 ⟨rfl, hB⟩; have HB1 := Lib.hid hB; clear hB) | (go_at_call 15; refine (laws_zzFits6.calls K6 B cb xs false w1 (Kd.C_below HX.out HB1.out) HXC.out E6.out).mono ?_; rintro e w2 ⟨rfl, hB⟩; have HB2 := Lib.hid (below_step HB1.out hB); clear hB))
    go_ret
    exact ⟨rfl, HB2.out⟩
  obtain ⟨hl, hfit⟩ := P3.out rfl
  obtain ⟨hxl, hxfit⟩ := P6.out rfl
  obtain ⟨Kp, ep⟩ := ev_policy l HWT.out
  have EP := Lib.hid (ep Kp (Nat.le_refl _))
  have HSM := Lib.hid (show Sm (l.foldl polStep ([], [], [], [], [], false)) (0 + wt l) from pol_small l _ 0 (by simp [Sm]))
  have HRU := Lib.hid (pol_rules l ([], [], [], [], [], false))
  generalize l.foldl polStep ([], [], [], [], [], false) = pol at *
  obtain ⟨r1, r2, r3, r4, r5, r6⟩ := pol
  have HFV := Lib.hid (show ∀ W : World, Kd.C k49 W A l.length l → Kd.V k49 49 W W.heap.size (fun k => k < W.heap.size) (.slice A l.length c) l from fun W h => ⟨A, c, rfl, HC.out, Kd.C_F heap49 h⟩)
  obtain ⟨bk, ⟨Kk, ek⟩, pk⟩ := ev_known l hl hfit
  have EK := Lib.hid (ek Kk (Nat.le_refl _))
  have PK := Lib.hid pk
  obtain ⟨bp, ⟨Kpl, epl⟩, ppl⟩ := ev_plain [element] (by simp) (by have := HSZ.out; simpa using this)
  have EPL := Lib.hid (epl Kpl (Nat.le_refl _))
  clear ep hl hfit hxl hxfit ek pk epl ppl
  go_enter Tryz.func4, Tryz.ntmps4
  go_wp2_with (first | (go_at_call 5; refine (laws_zzFits3.calls K3 A c l true w HR.out HC.out E3.out).mono ?_; rintro e w1 ⟨rfl, hB⟩; have HB1 := Lib.hid hB; clear hB) | (go_at_call 15; refine (laws_zzFits6.calls K6 B cb xs true w1 (Kd.C_below HX.out HB1.out) HXC.out E6.out).mono ?_; rintro e w2 ⟨rfl, hB⟩; have HB2 := Lib.hid (below_step HB1.out hB); clear hB) | (go_at_call 16; refine (laws_policy.calls Kp (fun k => k < w2.heap.size) A c l r1 r2 r3 r4 r5 r6 w2 (HFV.out w2 (Kd.C_below HR.out HB2.out)) EP.out).mono ?_; rintro e w3 ⟨v0, v1, v2, v3, v4, rfl, q0, q1, q2, q3, q4, hB⟩; obtain ⟨A0, c0, rfl, l0, g0⟩ := Kd.R_reads q0; obtain ⟨A1, c1, rfl⟩ := Kd.N_slice q1; obtain ⟨_, l1, g1⟩ := Kd.N_reads' q1; obtain ⟨A2, c2, rfl, l2, g2⟩ := Kd.R_reads q2; obtain ⟨A3, c3, rfl, l3, g3⟩ := Kd.R_reads q3; obtain ⟨A4, c4, rfl, l4, g4⟩ := Kd.R_reads q4; have HB3 := Lib.hid (below_step HB2.out hB); have HPV := Lib.hid (And.intro l0 (And.intro g0 (And.intro l1 (And.intro g1 (And.intro l2 (And.intro g2 (And.intro l3 (And.intro g3 (And.intro l4 g4))))))))); clear hB q0 q1 q2 q3 q4 l0 l1 l2 l3 l4 g0 g1 g2 g3 g4))
  have HB4 := Lib.hid (below_step HB3.out (below_alloc (Below.refl w3.heap.size w3) (.cells #[.slice A0 r1.length c0, .slice A1 r2.length c1, .slice A2 r3.length c2, .slice A3 r4.length c3, .slice A4 r5.length c4, .bool r6] 39)))
  have HBX := Lib.hid (blk_new w3 (.cells #[.slice A0 r1.length c0, .slice A1 r2.length c1, .slice A2 r3.length c2, .slice A3 r4.length c3, .slice A4 r5.length c4, .bool r6] 39))
  have HB34 := Lib.hid (below_alloc (Below.refl w3.heap.size w3) (.cells #[.slice A0 r1.length c0, .slice A1 r2.length c1, .slice A2 r3.length c2, .slice A3 r4.length c3, .slice A4 r5.length c4, .bool r6] 39))
  generalize hw4 : w3.alloc (.cells #[.slice A0 r1.length c0, .slice A1 r2.length c1, .slice A2 r3.length c2, .slice A3 r4.length c3, .slice A4 r5.length c4, .bool r6] 39) = w4 at *
  clear hw4
  cases bk
  · go_wp2_with (go_at_call 6; refine (laws_known.calls Kk A c l 3 false w4 (Kd.C_below HR.out HB4.out) HC.out EK.out).mono ?_; rintro e w5 ⟨rfl, hB⟩; have HB5 := Lib.hid (below_step HB4.out hB); clear hB)
    go_ret
    exact ⟨rfl, HB5.out⟩
  obtain ⟨hfine, hlen⟩ := PK.out rfl
  have HFI := Lib.hid hfine
  have HLEN := Lib.hid hlen
  clear hfine hlen
  cases bp
  · go_wp2_with (first | (go_at_call 6; refine (laws_known.calls Kk A c l 3 true w4 (Kd.C_below HR.out HB4.out) HC.out EK.out).mono ?_; rintro e w5 ⟨rfl, hB⟩; have HB5 := Lib.hid (below_step HB4.out hB); clear hB) | (go_at_call 17; refine (laws_plain.calls Kpl _ 1 [element] false _ (C_one w5 element) (Nat.le_refl _) EPL.out).mono ?_; rintro e w6 ⟨rfl, hB⟩; have HB6 := Lib.hid (below_step (below_alloc HB5.out _) hB); clear hB))
    go_ret
    exact ⟨rfl, HB6.out⟩
  obtain ⟨be, ⟨Ke, ee⟩⟩ := ev_element r2 r1 r3 r4 r5 r6 element (by have := HSM.out.2.1; have := HWT.out; simp only at *; omega) (fun r hr => (rules_small HRU.out HWT.out r hr).2) (by have := HSM.out.1; have := HWT.out; simp only at *; omega) (by have := HSM.out.2.2.1; have := HWT.out; simp only at *; omega)
  have EE := Lib.hid (ee Ke (Nat.le_refl _))
  clear ee
  cases be
  · go_wp2_with (first | (go_at_call 6; refine (laws_known.calls Kk A c l 3 true w4 (Kd.C_below HR.out HB4.out) HC.out EK.out).mono ?_; rintro e w5 ⟨rfl, hB⟩; have HB5 := Lib.hid (below_step HB4.out hB); have HB35 := Lib.hid (below_step HB34.out hB); have HBX5 := Lib.hid (blk_below HBX.out hB); clear hB) | (go_at_call 17; refine (laws_plain.calls Kpl _ 1 [element] true _ (C_one w5 element) (Nat.le_refl _) EPL.out).mono ?_; rintro e w6 ⟨rfl, hB⟩; have HB6 := Lib.hid (below_step (below_alloc HB5.out _) hB); have HB36 := Lib.hid (below_step (below_alloc HB35.out _) hB); have HBX6 := Lib.hid (blk_below (blk_alloc HBX5.out _) hB); clear hB; (have hz0 : w6.cell? ⟨w3.heap.size, 0, none⟩ = some (.slice A0 r1.length c0) := (blk_cell HBX6.out 0).trans rfl); (have hz1 : w6.cell? ⟨w3.heap.size, 1, none⟩ = some (.slice A1 r2.length c1) := (blk_cell HBX6.out 1).trans rfl); (have hz2 : w6.cell? ⟨w3.heap.size, 2, none⟩ = some (.slice A2 r3.length c2) := (blk_cell HBX6.out 2).trans rfl); (have hz3 : w6.cell? ⟨w3.heap.size, 3, none⟩ = some (.slice A3 r4.length c3) := (blk_cell HBX6.out 3).trans rfl); (have hz4 : w6.cell? ⟨w3.heap.size, 4, none⟩ = some (.slice A4 r5.length c4) := (blk_cell HBX6.out 4).trans rfl); (have hz5 : w6.cell? ⟨w3.heap.size, 5, none⟩ = some (.bool r6) := (blk_cell HBX6.out 5).trans rfl)) | (go_at_call 18; refine (spec_Policy_Element.calls Ke A0 c0 r1 A1 c1 r2 A2 c2 r3 A3 c3 r4 A4 c4 r5 r6 element false w6 (Kd.C_below HPV.out.2.1 HB36.out) HPV.out.1 (Kd.C_below HPV.out.2.2.2.1 HB36.out) HPV.out.2.2.1 (Kd.C_below HPV.out.2.2.2.2.2.1 HB36.out) HPV.out.2.2.2.2.1 (Kd.C_below HPV.out.2.2.2.2.2.2.2.1 HB36.out) HPV.out.2.2.2.2.2.2.1 (Kd.C_below HPV.out.2.2.2.2.2.2.2.2.2 HB36.out) HPV.out.2.2.2.2.2.2.2.2.1 EE.out).mono ?_; rintro e w7 ⟨rfl, hB⟩; have HB7 := Lib.hid (below_step HB6.out hB); have HB37 := Lib.hid (below_step HB36.out hB); have HBX7 := Lib.hid (blk_below HBX6.out hB); clear hB))
    go_ret
    exact ⟨rfl, HB7.out⟩
  by_cases h20 : 20 < xs.length
  · have h20a : decide ((20 : Int) < (xs.length : Int)) = true := decide_eq_true (by omega)
    have h20b : decide (20 < xs.length) = true := decide_eq_true h20
    clear h20
    go_wp2_with (first | (go_at_call 6; refine (laws_known.calls Kk A c l 3 true w4 (Kd.C_below HR.out HB4.out) HC.out EK.out).mono ?_; rintro e w5 ⟨rfl, hB⟩; have HB5 := Lib.hid (below_step HB4.out hB); have HB35 := Lib.hid (below_step HB34.out hB); have HBX5 := Lib.hid (blk_below HBX.out hB); clear hB) | (go_at_call 17; refine (laws_plain.calls Kpl _ 1 [element] true _ (C_one w5 element) (Nat.le_refl _) EPL.out).mono ?_; rintro e w6 ⟨rfl, hB⟩; have HB6 := Lib.hid (below_step (below_alloc HB5.out _) hB); have HB36 := Lib.hid (below_step (below_alloc HB35.out _) hB); have HBX6 := Lib.hid (blk_below (blk_alloc HBX5.out _) hB); clear hB; (have hz0 : w6.cell? ⟨w3.heap.size, 0, none⟩ = some (.slice A0 r1.length c0) := (blk_cell HBX6.out 0).trans rfl); (have hz1 : w6.cell? ⟨w3.heap.size, 1, none⟩ = some (.slice A1 r2.length c1) := (blk_cell HBX6.out 1).trans rfl); (have hz2 : w6.cell? ⟨w3.heap.size, 2, none⟩ = some (.slice A2 r3.length c2) := (blk_cell HBX6.out 2).trans rfl); (have hz3 : w6.cell? ⟨w3.heap.size, 3, none⟩ = some (.slice A3 r4.length c3) := (blk_cell HBX6.out 3).trans rfl); (have hz4 : w6.cell? ⟨w3.heap.size, 4, none⟩ = some (.slice A4 r5.length c4) := (blk_cell HBX6.out 4).trans rfl); (have hz5 : w6.cell? ⟨w3.heap.size, 5, none⟩ = some (.bool r6) := (blk_cell HBX6.out 5).trans rfl)) | (go_at_call 18; refine (spec_Policy_Element.calls Ke A0 c0 r1 A1 c1 r2 A2 c2 r3 A3 c3 r4 A4 c4 r5 r6 element true w6 (Kd.C_below HPV.out.2.1 HB36.out) HPV.out.1 (Kd.C_below HPV.out.2.2.2.1 HB36.out) HPV.out.2.2.1 (Kd.C_below HPV.out.2.2.2.2.2.1 HB36.out) HPV.out.2.2.2.2.1 (Kd.C_below HPV.out.2.2.2.2.2.2.2.1 HB36.out) HPV.out.2.2.2.2.2.2.1 (Kd.C_below HPV.out.2.2.2.2.2.2.2.2.2 HB36.out) HPV.out.2.2.2.2.2.2.2.2.1 EE.out).mono ?_; rintro e w7 ⟨rfl, hB⟩; have HB7 := Lib.hid (below_step HB6.out hB); have HB37 := Lib.hid (below_step HB36.out hB); have HBX7 := Lib.hid (blk_below HBX6.out hB); clear hB))
    go_ret
    exact ⟨rfl, HB7.out⟩
  have h20a : decide ((20 : Int) < (xs.length : Int)) = false := decide_eq_false (by omega)
  have h20b : decide (20 < xs.length) = false := decide_eq_false h20
  have H20 := Lib.hid (show xs.length ≤ 20 by omega)
  clear h20
  go_wp2_with (first | (go_at_call 6; refine (laws_known.calls Kk A c l 3 true w4 (Kd.C_below HR.out HB4.out) HC.out EK.out).mono ?_; rintro e w5 ⟨rfl, hB⟩; have HB5 := Lib.hid (below_step HB4.out hB); have HB35 := Lib.hid (below_step HB34.out hB); have HBX5 := Lib.hid (blk_below HBX.out hB); clear hB) | (go_at_call 17; refine (laws_plain.calls Kpl _ 1 [element] true _ (C_one w5 element) (Nat.le_refl _) EPL.out).mono ?_; rintro e w6 ⟨rfl, hB⟩; have HB6 := Lib.hid (below_step (below_alloc HB5.out _) hB); have HB36 := Lib.hid (below_step (below_alloc HB35.out _) hB); have HBX6 := Lib.hid (blk_below (blk_alloc HBX5.out _) hB); clear hB; (have hz0 : w6.cell? ⟨w3.heap.size, 0, none⟩ = some (.slice A0 r1.length c0) := (blk_cell HBX6.out 0).trans rfl); (have hz1 : w6.cell? ⟨w3.heap.size, 1, none⟩ = some (.slice A1 r2.length c1) := (blk_cell HBX6.out 1).trans rfl); (have hz2 : w6.cell? ⟨w3.heap.size, 2, none⟩ = some (.slice A2 r3.length c2) := (blk_cell HBX6.out 2).trans rfl); (have hz3 : w6.cell? ⟨w3.heap.size, 3, none⟩ = some (.slice A3 r4.length c3) := (blk_cell HBX6.out 3).trans rfl); (have hz4 : w6.cell? ⟨w3.heap.size, 4, none⟩ = some (.slice A4 r5.length c4) := (blk_cell HBX6.out 4).trans rfl); (have hz5 : w6.cell? ⟨w3.heap.size, 5, none⟩ = some (.bool r6) := (blk_cell HBX6.out 5).trans rfl)) | (go_at_call 18; refine (spec_Policy_Element.calls Ke A0 c0 r1 A1 c1 r2 A2 c2 r3 A3 c3 r4 A4 c4 r5 r6 element true w6 (Kd.C_below HPV.out.2.1 HB36.out) HPV.out.1 (Kd.C_below HPV.out.2.2.2.1 HB36.out) HPV.out.2.2.1 (Kd.C_below HPV.out.2.2.2.2.2.1 HB36.out) HPV.out.2.2.2.2.1 (Kd.C_below HPV.out.2.2.2.2.2.2.2.1 HB36.out) HPV.out.2.2.2.2.2.2.1 (Kd.C_below HPV.out.2.2.2.2.2.2.2.2.2 HB36.out) HPV.out.2.2.2.2.2.2.2.2.1 EE.out).mono ?_; rintro e w7 ⟨rfl, hB⟩; have HB7 := Lib.hid (below_step HB6.out hB); have HB37 := Lib.hid (below_step HB36.out hB); have HBX7 := Lib.hid (blk_below HBX6.out hB); clear hB))
  have HX7 := Lib.hid (Kd.C_below HX.out HB7.out)
  obtain ⟨lk, hlk, hlkl⟩ : ∃ lk, laws_linked.f = some lk ∧ lk.length ≤ 2147483647 := ⟨_, rfl, by decide⟩
  have HLK := Lib.hid hlk
  have HLKL := Lib.hid hlkl
  clear hlk hlkl
  go_loopg [8, 53] xs.length (fun gk v8 v53 wr => ∃ (k : Nat) (want : List S44), v53 = .int .i64 (k : Int) ∧ Aside0 (k + gk = xs.length) ∧ Aside0 (want = (xs.take k).filter fun a => r2.any fun r => allows r element a.f0) ∧ Aside0 (Kd.R k44 44 wr w7.heap.size (fun _ => True) v8 want) ∧ Aside0 (Below w7.heap.size w7 wr))
  case atStart => exact ⟨0, [], rfl, ⟨by omega⟩, ⟨rfl⟩, ⟨Kd.R_nil _ _ _ _ _⟩, ⟨Below.refl _ _⟩⟩
  case round =>
    obtain ⟨k, want, rfl, HK, HWA, HO, HB⟩ := hrel
    by_cases hk : k < xs.length
    · have h0 : (0 ≤ (k : Int)) = True := eq_true (by omega)
      have h1 : ((k : Int) < (xs.length : Int)) = True := eq_true (by omega)
      obtain ⟨ad, e1, hx0, hx1⟩ := at_T44 HX7.out (k : Int) (by omega) (by omega)
      cases e1
      rw [Int.toNat_natCast] at hx0 hx1
      obtain ⟨x, hx⟩ : ∃ x, x = rd_T44 xs (k : Int) := ⟨_, rfl⟩
      rw [← hx] at hx0 hx1
      have HXE := Lib.hid hx
      clear hx
      replace hx0 := (HB.out.cell (World.block_lt_of_cell? w7 _ hx0)).trans hx0
      replace hx1 := (HB.out.cell (World.block_lt_of_cell? w7 _ hx1)).trans hx1
      have HKL := Lib.hid hk
      have hsx : x.f0.size ≤ 2147483647 := by
        have h2 := ((P6.out trivial).2 x (by rw [HXE.out]; simp [rd_T44, List.getElem?_eq_getElem hk])).1
        exact h2
      obtain ⟨bn, ⟨Kn, en⟩, _⟩ := ev_plain [x.f0] (by simp) (by simpa using hsx)
      obtain ⟨Kh, eh⟩ := ev_has lk x.f0 HLKL.out
      obtain ⟨bb, hbb⟩ := begins_some x.f0 (⟨#[100, 97, 116, 97, 45]⟩ : ByteArray)
      have EN := Lib.hid (en Kn (Nat.le_refl _))
      have EH := Lib.hid (eh Kh (Nat.le_refl _))
      have EB := Lib.hid hbb
      generalize inL lk x.f0 = bh at *
      obtain ⟨bz, hbz⟩ : ∃ bz, decide (200 < x.f1.size) = bz := ⟨_, rfl⟩
      have hbz' : decide ((200 : Int) < (x.f1.size : Int)) = bz := by rw [← hbz]; exact decide_eq_decide.2 (by omega)
      clear hk en eh hbb hsx
      go_wp2_with fail
      have hA := blk_new wr (.cells #[.string x.f0, .string x.f1] 44)
      have HBW := Lib.hid (below_alloc HB.out (.cells #[.string x.f0, .string x.f1] 44))
      have HOW := Lib.hid (Kd.R_alloc HO.out (.cells #[.string x.f0, .string x.f1] 44))
      have HGW := Lib.hid (below_size HB.out)
      generalize wr.alloc (.cells #[.string x.f0, .string x.f1] 44) = W0 at *
      generalize wr.heap.size = g0 at *
      have HA := Lib.hid hA
      have HCE := Lib.hid (fun (W : World) (h : Below W0.heap.size W0 W) => blk_below HA.out h)
      clear hA
      go_cut [53, 79] from 53 to 103 (fun v53 v79 wx => v53 = .int .i64 (k : Int) ∧ v79 = .bool (!bn || (bh || (bb || bz))) ∧ Hid (Below W0.heap.size W0 wx))
      case first =>
        have hc0 : W0.cell? ⟨g0, 0, none⟩ = some (.string x.f0) := (blk_cell HA.out 0).trans rfl
        have hc1 : W0.cell? ⟨g0, 1, none⟩ = some (.string x.f1) := (blk_cell HA.out 1).trans rfl
        have hB0 := Lib.hid (Below.refl W0.heap.size W0)
        have h4 : bn = false ∨ (bn = true ∧ bh = true) ∨ (bn = true ∧ bh = false ∧ bb = true) ∨ (bn = true ∧ bh = false ∧ bb = false) := by cases bn <;> cases bh <;> cases bb <;> simp
        rcases h4 with rfl | ⟨rfl, rfl⟩ | ⟨rfl, rfl, rfl⟩ | ⟨rfl, rfl, rfl⟩
        all_goals
          first | (go_region_with (first
              | (go_at_call 17; refine (laws_plain.calls Kn _ 1 [x.f0] _ _ (by repeat (first | exact C_one _ _ | apply Kd.C_drew | apply Kd.C_drewN)) (Nat.le_refl _) EN.out).mono ?_; rintro e w1 ⟨rfl, hB⟩; have hB1 := Lib.hid (below_step (w := W0) (by repeat (first | exact hB0.out | apply pw_below_drewN | apply below_drew1 | apply below_alloc)) hB); clear hB; have hd0 : w1.cell? ⟨g0, 0, none⟩ = some (.string x.f0) := (box_S HA.out hB1.out).1; have hd1 : w1.cell? ⟨g0, 1, none⟩ = some (.string x.f1) := (box_S HA.out hB1.out).2)
              | (go_at_call 19; refine (laws_linked.calls lk _ HLK.out).mono ?_; rintro e w2 ⟨v2, rfl, hR, hB⟩; obtain ⟨A9, c9, rfl, hl9, hC9⟩ := Kd.R_reads hR; have hB2 := Lib.hid (below_step hB1.out hB); have HC9 := Lib.hid hC9; have HL9 := Lib.hid hl9; clear hB hR hl9 hC9; have he0 : w2.cell? ⟨g0, 0, none⟩ = some (.string x.f0) := (box_S HA.out hB2.out).1; have he1 : w2.cell? ⟨g0, 1, none⟩ = some (.string x.f1) := (box_S HA.out hB2.out).2)
              | (go_at_call 12; refine (spec_Has.calls Kh A9 c9 lk x.f0 _ _ HC9.out HL9.out EH.out).mono ?_; rintro e w3 ⟨rfl, hd⟩; obtain ⟨nd3, rfl⟩ := hd.out; have hB3 := Lib.hid (pw_below_drewN hB2.out nd3); clear hd)
              | (go_at_call 20; refine (spec_Begins.calls x.f0 _ _ _ EB.out).mono ?_; rintro e w4 ⟨rfl, hd⟩; obtain ⟨nd4, rfl⟩ := hd.out; clear hd))) | fail
          all_goals
            go_wp2_with fail
            go_meet
            exact ⟨rfl, by first | rfl | simp, Lib.hid (by repeat (first | exact hB3.out | exact hB2.out | exact hB1.out | exact hB0.out | apply below_alloc | apply pw_below_drewN | apply below_drew1))⟩
      case rest =>
        obtain ⟨rfl, rfl, HBX⟩ := hcut
        generalize (!bn || (bh || (bb || bz))) = bad at *
        clear hbz hbz' EN EH EB
        have HBC := Lib.hid (below_step HBW.out HBX.out)
        have HOC := Lib.hid (Kd.R_below HOW.out HBX.out)
        have HAC := Lib.hid (HCE.out wc HBX.out)
        cases bad
        rotate_left
        · go_wp2_with fail
          go_ret
          exact ⟨rfl, below_step HB7.out HBC.out⟩
        have hk3 : (k ≤ cb) = True := eq_true (by have := HXC.out; have := HKL.out; omega)
        have hk4 : (cb = 0) = False := eq_false (by have := HXC.out; have := HKL.out; omega)
        go_wp2_with fail
        go_loopg [84] k (fun gj v84 w8 => ∃ (j : Nat), v84 = .int .i64 (j : Int) ∧ Aside0 (j + gj = k) ∧ Aside0 (Below wc.heap.size wc w8))
        case atStart => exact ⟨0, rfl, ⟨by omega⟩, ⟨Below.refl _ _⟩⟩
        case round =>
          obtain ⟨j, rfl, HJ, HB8⟩ := hrel
          have HA8 := Lib.hid (blk_below HAC.out HB8.out)
          have hg0 : wr.cell? ⟨g0, 0, none⟩ = some (.string x.f0) := (blk_cell HA8.out 0).trans rfl
          have hg1 : wr.cell? ⟨g0, 1, none⟩ = some (.string x.f1) := (blk_cell HA8.out 1).trans rfl
          by_cases hj : j < k
          · have i0 : (0 ≤ (j : Int)) = True := eq_true (by omega)
            have i1 : ((j : Int) < (k : Int)) = True := eq_true (by omega)
            obtain ⟨ad2, e2, hy0, hy1⟩ := at_T44 HX7.out (j : Int) (by omega) (by have := HKL.out; omega)
            cases e2
            rw [Int.toNat_natCast] at hy0 hy1
            generalize rd_T44 xs (j : Int) = y at *
            replace hy0 := ((below_step HBC.out HB8.out).cell (World.block_lt_of_cell? w7 _ hy0)).trans hy0
            replace hy1 := ((below_step HBC.out HB8.out).cell (World.block_lt_of_cell? w7 _ hy1)).trans hy1
            have hg0' : (wr.alloc (.cells #[.string y.f0, .string y.f1] 44)).cell? ⟨g0, 0, none⟩ = some (.string x.f0) := (blk_cell (blk_alloc HA8.out _) 0).trans rfl
            have HB9 := Lib.hid (below_alloc HB8.out (.cells #[.string y.f0, .string y.f1] 44))
            have HJK := Lib.hid hj
            have HKB := Lib.hid (show k ≤ 20 by have := HKL.out; have := H20.out; omega)
            clear hx0 hx1 hj
            go_wp2_with fail
            · go_ret
              exact ⟨rfl, below_step HB7.out (below_step HBC.out HB9.out)⟩
            · go_roundg (k - (j + 1))
              case measure => have := HJ.out; have := HJK.out; omega
              case rel => exact ⟨j + 1, wrap_step HJK.out (Nat.le_trans HKB.out (by omega)), ⟨by have := HJK.out; omega⟩, ⟨HB9.out⟩⟩
          · have HZ := Lib.hid (blk_below (blk_below HBX7.out HBC.out) HB8.out)
            have hz0 : wr.cell? ⟨w3.heap.size, 0, none⟩ = some (.slice A0 r1.length c0) := (blk_cell HZ.out 0).trans rfl
            have hz1 : wr.cell? ⟨w3.heap.size, 1, none⟩ = some (.slice A1 r2.length c1) := (blk_cell HZ.out 1).trans rfl
            have hz2 : wr.cell? ⟨w3.heap.size, 2, none⟩ = some (.slice A2 r3.length c2) := (blk_cell HZ.out 2).trans rfl
            have hz3 : wr.cell? ⟨w3.heap.size, 3, none⟩ = some (.slice A3 r4.length c3) := (blk_cell HZ.out 3).trans rfl
            have hz4 : wr.cell? ⟨w3.heap.size, 4, none⟩ = some (.slice A4 r5.length c4) := (blk_cell HZ.out 4).trans rfl
            have hz5 : wr.cell? ⟨w3.heap.size, 5, none⟩ = some (.bool r6) := (blk_cell HZ.out 5).trans rfl
            have HB3r := Lib.hid (below_step (below_step HB37.out HBC.out) HB8.out)
            have HB7r := Lib.hid (below_step HBC.out HB8.out)
            have HOr := Lib.hid (Kd.R_below HOC.out HB8.out)
            have HWL : Hid (want.length ≤ 20) := Lib.hid (by
              rw [HWA.out]
              have q1 := List.length_filter_le (fun a : S44 => r2.any fun r => allows r element a.f0) (xs.take k)
              have q2 := H20.out
              simp only [List.length_take] at q1
              omega)
            have HTS := Lib.hid (take_step44 HKL.out HXE.out (fun a => r2.any fun r => allows r element a.f0))
            obtain ⟨Ka, ea⟩ := ev_attr r2 r1 r3 r4 r5 r6 element x.f0 (by have := HSM.out.2.1; have := HWT.out; simp only at *; omega) (rules_small HRU.out HWT.out)
            have EA := Lib.hid (ea Ka (Nat.le_refl _))
            obtain ⟨ba, hba⟩ : ∃ ba, (r2.any fun r => allows r element x.f0) = ba := ⟨_, rfl⟩
            have HBA := Lib.hid hba
            dsimp only at EA
            rw [hba] at EA
            clear ea hba hx0 hx1
            cases ba
            · go_wp2_with (go_at_call 21; refine (spec_Policy_Attr.calls Ka A0 c0 r1 A1 c1 r2 A2 c2 r3 A3 c3 r4 A4 c4 r5 r6 element x.f0 false wr (Kd.C_below HPV.out.2.1 HB3r.out) HPV.out.1 (Kd.C_below HPV.out.2.2.2.1 HB3r.out) HPV.out.2.2.1 (Kd.C_below HPV.out.2.2.2.2.2.1 HB3r.out) HPV.out.2.2.2.2.1 (Kd.C_below HPV.out.2.2.2.2.2.2.2.1 HB3r.out) HPV.out.2.2.2.2.2.2.1 (Kd.C_below HPV.out.2.2.2.2.2.2.2.2.2 HB3r.out) HPV.out.2.2.2.2.2.2.2.2.1 EA.out).mono ?_; rintro e w9 ⟨rfl, hB⟩; have HB9 := Lib.hid (below_step HB7r.out hB); have HO9 := Lib.hid (Kd.R_below HOr.out hB); have HA9 := Lib.hid (blk_below HA8.out hB); clear hB; (have hg2 : w9.cell? ⟨g0, 0, none⟩ = some (.string x.f0) := (blk_cell HA9.out 0).trans rfl); (have hg3 : w9.cell? ⟨g0, 1, none⟩ = some (.string x.f1) := (blk_cell HA9.out 1).trans rfl))
              go_roundg (xs.length - (k + 1))
              case measure => have := HK.out; have := HKL.out; omega
              case rel => exact ⟨k + 1, want, wrap_step HKL.out (Nat.le_trans H20.out (by omega)), ⟨by have := HKL.out; omega⟩, ⟨by rw [HTS.out, HBA.out, if_neg (by simp), List.append_nil]; exact HWA.out⟩, ⟨HO9.out⟩, ⟨HB9.out⟩⟩
            · go_wp2_with (first | (go_at_call 21; refine (spec_Policy_Attr.calls Ka A0 c0 r1 A1 c1 r2 A2 c2 r3 A3 c3 r4 A4 c4 r5 r6 element x.f0 true wr (Kd.C_below HPV.out.2.1 HB3r.out) HPV.out.1 (Kd.C_below HPV.out.2.2.2.1 HB3r.out) HPV.out.2.2.1 (Kd.C_below HPV.out.2.2.2.2.2.1 HB3r.out) HPV.out.2.2.2.2.1 (Kd.C_below HPV.out.2.2.2.2.2.2.2.1 HB3r.out) HPV.out.2.2.2.2.2.2.1 (Kd.C_below HPV.out.2.2.2.2.2.2.2.2.2 HB3r.out) HPV.out.2.2.2.2.2.2.2.2.1 EA.out).mono ?_; rintro e w9 ⟨rfl, hB⟩; have HB9 := Lib.hid (below_step HB7r.out hB); have HO9 := Lib.hid (Kd.R_below HOr.out hB); have HA9 := Lib.hid (blk_below HA8.out hB); clear hB; (have hg2 : w9.cell? ⟨g0, 0, none⟩ = some (.string x.f0) := (blk_cell HA9.out 0).trans rfl); (have hg3 : w9.cell? ⟨g0, 1, none⟩ = some (.string x.f1) := (blk_cell HA9.out 1).trans rfl)) | ((with_reducible refine gate_builtin (b := .append) (xs := #[.tmp 99, .tmp 101]) rfl ?_); at_builtin; refine Kd.R_append k44 (w0 := w7) w7.heap.size rfl (.tmp 99) (.tmp 101) 35 44 (.agg #[(.string ⟨#[]⟩), (.string ⟨#[]⟩)]) 32 rfl Tryz.underlying35 info44 rfl (by decide) (by omega) u8 want x [.string x.f0, .string x.f1] (fun _ => True) (fun _ => False) rfl (by first | (go_simp; done) | (go_simp; rfl)) ?aP (fun _ hk => hk.elim) ?aF ?aO ?aB ?aS ?aL ?_; (case aP => exact k44_mkM _ _ _ x); (case aB => exact HB9.out); (case aF => exact (fun _ _ => trivial)); (case aO => exact HO9.out); (case aS => exact below_size HB9.out); (case aL => have := HWL.out; omega); intro v11 w11 ho hb hg hat; have HO11 := Lib.hid ho; have HB11 := Lib.hid hb; clear ho hb hg hat))
              go_roundg (xs.length - (k + 1))
              case measure => have := HK.out; have := HKL.out; omega
              case rel => exact ⟨k + 1, want ++ [x], wrap_step HKL.out (Nat.le_trans H20.out (by omega)), ⟨by have := HKL.out; omega⟩, ⟨by rw [HTS.out, HBA.out, if_pos rfl, ← HWA.out]⟩, ⟨HO11.out⟩, ⟨HB11.out⟩⟩
    · have HWE := Lib.hid (show want = xs.filter (fun a => keeps (l.foldl applyEl (fun _ => none)) (l.foldl applyGl (fun _ => false)) element a.f0) by
        rw [HWA.out, List.take_of_length_le (by omega)]
        refine List.filter_congr fun a _ => ?_
        rw [keeps_law, HRU.out]
        simp [keeps])
      obtain ⟨Aw, cw, rfl, hlw, hCw⟩ := Kd.R_reads HO.out
      have HCW := Lib.hid hCw
      have HWL : Hid (want.length ≤ 20) := Lib.hid (by
        rw [HWE.out]
        exact Nat.le_trans (List.length_filter_le _ _) H20.out)
      have HB8 := Lib.hid (below_step HB7.out HB.out)
      have HCA := Lib.hid (cleanAttrs A B c cb l element xs wr (Kd.C_below HR.out HB8.out) HFI.out HLEN.out (Kd.C_below HX.out HB8.out) HXC.out (Nat.le_trans H20.out (by omega)))
      rw [← HWE.out] at HCA
      clear hlw hCw
      go_wp2_with (go_at_call 22; refine (HCA.out).mono ?_; rintro e w9 ⟨v9, rfl, hR, hB⟩; obtain ⟨Ao, co, rfl, hlo, hCo⟩ := Kd.R_reads hR; have HCO := Lib.hid hCo; have HB9 := Lib.hid hB; have HCW9 := Lib.hid (Kd.C_below HCW.out hB); clear hR hlo hCo hB)
      go_loopg [115] want.length (fun gj v115 w8 => ∃ (j : Nat), v115 = .int .i64 (j : Int) ∧ Aside0 (j + gj = want.length) ∧ Aside0 (Below w9.heap.size w9 w8))
      case atStart => exact ⟨0, rfl, ⟨by omega⟩, ⟨Below.refl _ _⟩⟩
      case round =>
        obtain ⟨j, rfl, HJ, HBL⟩ := hrel
        by_cases hj : j < want.length
        · have i0 : (0 ≤ (j : Int)) = True := eq_true (by omega)
          have i1 : ((j : Int) < (want.length : Int)) = True := eq_true (by omega)
          obtain ⟨ad1, e1, hy0, hy1⟩ := at_T44 HCW9.out (j : Int) (by omega) (by omega)
          cases e1
          obtain ⟨ad2, e2, hz0, hz1⟩ := at_T44 HCO.out (j : Int) (by omega) (by omega)
          cases e2
          rw [Int.toNat_natCast] at hy0 hy1 hz0 hz1
          generalize rd_T44 want (j : Int) = y at *
          replace hy0 := (HBL.out.cell (World.block_lt_of_cell? w9 _ hy0)).trans hy0
          replace hy1 := (HBL.out.cell (World.block_lt_of_cell? w9 _ hy1)).trans hy1
          have HB10 := Lib.hid (below_alloc HBL.out (.cells #[.string y.f0, .string y.f1] 44))
          replace hz0 := (HB10.out.cell (World.block_lt_of_cell? w9 _ hz0)).trans hz0
          replace hz1 := (HB10.out.cell (World.block_lt_of_cell? w9 _ hz1)).trans hz1
          have HJL := Lib.hid hj
          have HL20 := Lib.hid (show want.length ≤ 1048576 from Nat.le_trans HWL.out (by omega))
          clear hj
          go_wp2_with fail
          go_quiet (fail)
          go_wp2_with fail
          go_roundg (want.length - (j + 1))
          case measure => have := HJ.out; have := HJL.out; omega
          case rel => exact ⟨j + 1, wrap_step HJL.out HL20.out, ⟨by have := HJL.out; omega⟩, ⟨pw_below_drewN HB10.out _⟩⟩
        · go_wp2_with (go_at_call 23; refine (cleans_calls wr).mono ?_; rintro e w11 ⟨rfl, hB⟩; have HB11 := Lib.hid hB; clear hB)
          go_ret
          exact ⟨rfl, below_step (below_step (below_step HB8.out HB9.out) HBL.out) HB11.out⟩
end Go.Proofs.YtlgacgiikmkfcaaGreatDoor
