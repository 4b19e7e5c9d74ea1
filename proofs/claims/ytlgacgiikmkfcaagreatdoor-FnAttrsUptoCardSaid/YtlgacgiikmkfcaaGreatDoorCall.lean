/- impl.call: one call on a policy, of the four kinds that name elements and attributes alone. (Printed by gen_call.py of this session.) -/
import Derived.Test.YtlgacgiikmkfcaaGreatDoorCopy
import Derived.Deep.DeepCutAuto
namespace Go.Proofs.YtlgacgiikmkfcaaGreatDoor
open Go.RowKit M
namespace M
theorem grew_cell {w w' : World} (h : Grew w w') (b o : Nat) (hb : b < w.heap.size) : w'.cell? ⟨b, o, none⟩ = w.cell? ⟨b, o, none⟩ := World.cell?_of_block (h.block b hb (fun x => x))
theorem box_cell (w : World) (cs : Array Value) (t : TypeId) (i : Nat) : (w.alloc (.cells cs t)).cell? ⟨w.heap.size, i, none⟩ = cs[i]? := by
  have h := heap_alloc_new w (.cells cs t)
  simp only [World.cell?, h]
  rfl
theorem off_of_below {ok : Nat → Prop} {w w' : World} (h : Below w.heap.size w w') : Off ok w w' := ⟨h.os, h.tape, h.output, h.size, fun k hk _ => h.block k hk⟩
end M

set_option maxRecDepth 100000 in
set_option maxHeartbeats 8000000 in
theorem call_elements (ok : Nat → Prop) (K p c1 c2 : Nat) (el : El) (gl : ByteArray → Bool) (ns os : List ByteArray) (A1 A2 : Option Addr) (is : Bool) (w : World) (hp : PolS ok K w p el gl)
    (hn1 : Names ok w A1 ns) (hn2 : Names ok w A2 os) (hl : ∀ x ∈ ns, Low x ∧ x.size ≤ maxLen) (hlen : ns.length ≤ 1048576) (hlen2 : os.length ≤ 1048576) :
    Calls Tryz.prog 43 #[.pointer (some ⟨p, 0, none⟩), .agg #[.int .i64 0, .slice A1 ns.length c1, .slice A2 os.length c2, .bool is]] w fun e w' => e = .returned (.tuple #[]) ∧
      PolS (fun i => ok i ∨ w.heap.size ≤ i) K w' p (ns.foldl addEl el) gl ∧ Off ok w w' := by
  have HP := Lib.hid hp.bound
  have HN1 := Lib.hid hn1
  have HN2 := Lib.hid hn2
  have HL := Lib.hid hl
  clear hl
  clear hp hn1 hn2
  go_enter Tryz.func43, Tryz.ntmps43
  go_wp2_with fail
  go_cut [4, 5] (fun v4 v5 wc => ∃ g1 cap1 g2 cap2 : Nat, v4 = .slice (some ⟨g1, 0, none⟩) ns.length cap1 ∧ v5 = .slice (some ⟨g2, 0, none⟩) os.length cap2 ∧ Hid (Names (fun k => k < w.heap.size) wc (some ⟨g1, 0, none⟩) ns) ∧ Hid (Names (fun k => k < w.heap.size) wc (some ⟨g2, 0, none⟩) os) ∧ Hid (Grew w wc) ∧ wc.cell? ⟨w.heap.size, 0, none⟩ = some (.int .i64 0))
  case first =>
    go_region_held3 (fun w' => w'.cell? ⟨w.heap.size, 0, none⟩ = some (.int .i64 0) ∧ w'.cell? ⟨w.heap.size, 1, none⟩ = some (.slice A1 ns.length c1) ∧ w'.cell? ⟨w.heap.size, 2, none⟩ = some (.slice A2 os.length c2))
      (first
        | go_keep
        | (go_split_ands
           refine ⟨?_, ?_, ?_⟩ <;> first | (rw [grew_cell hg1 _ _ (Nat.lt_of_lt_of_le (by simp) (Off.size (ok := fun _ => False) (w := w.alloc (.cells #[.int .i64 0, .slice A1 ns.length c1, .slice A2 os.length c2, .bool is] 49)) (by repeat (first | exact Off.refl _ _ | apply Off.drew | apply Off.alloc | refine Off.trans_same ?_ hg1 | refine Off.trans_same ?_ hg2))))]; assumption) | (rw [grew_cell hg2 _ _ (Nat.lt_of_lt_of_le (by simp) (Off.size (ok := fun _ => False) (w := w.alloc (.cells #[.int .i64 0, .slice A1 ns.length c1, .slice A2 os.length c2, .bool is] 49)) (by repeat (first | exact Off.refl _ _ | apply Off.drew | apply Off.alloc | refine Off.trans_same ?_ hg1 | refine Off.trans_same ?_ hg2))))]; assumption)))
      (first
        | (refine step_copy (by rfl) _ _ (by rfl) _ (by rfl) A1 c1 ns ok (by rfl) w HN1.out (by repeat (first | exact Off.refl _ _ | apply Off.drew | apply Off.alloc | refine Off.trans_same ?_ hg1 | refine Off.trans_same ?_ hg2)) hlen ?_; intro g1 cap1 w1 hN1 hg1; have hz1 : w.heap.size ≤ w1.heap.size := Off.size (ok := fun _ => False) (by repeat (first | exact Off.refl _ _ | apply Off.drew | apply Off.alloc | refine Off.trans_same ?_ hg1 | refine Off.trans_same ?_ hg2)); have hNa := Lib.hid (hN1.mono (ok' := fun k => k < w.heap.size) (fun k _ hk => Nat.lt_of_lt_of_le hk (Off.size (ok := fun _ => False) (by repeat (first | exact Off.refl _ _ | apply Off.drew | apply Off.alloc | refine Off.trans_same ?_ hg1 | refine Off.trans_same ?_ hg2))))); clear hN1)
        | (refine step_copy (by rfl) _ _ (by rfl) _ (by rfl) A2 c2 os ok (by rfl) w HN2.out (by repeat (first | exact Off.refl _ _ | apply Off.drew | apply Off.alloc | refine Off.trans_same ?_ hg1 | refine Off.trans_same ?_ hg2)) hlen2 ?_; intro g2 cap2 w2 hN2 hg2; have hz2 : w.heap.size ≤ w2.heap.size := Off.size (ok := fun _ => False) (by repeat (first | exact Off.refl _ _ | apply Off.drew | apply Off.alloc | refine Off.trans_same ?_ hg1 | refine Off.trans_same ?_ hg2)); have hNb := Lib.hid (hN2.mono (ok' := fun k => k < w.heap.size) (fun k _ hk => Nat.lt_of_lt_of_le hk (Off.size (ok := fun _ => False) (by repeat (first | exact Off.refl _ _ | apply Off.drew | apply Off.alloc | refine Off.trans_same ?_ hg1 | refine Off.trans_same ?_ hg2))))); clear hN2))
    all_goals
      go_wp2_with fail
      go_meet
      exact ⟨g1, cap1, g2, cap2, rfl, rfl, Lib.hid (hNa.out.off (Off.mono (ok := fun _ => False) (by repeat (first | exact Off.refl _ _ | apply Off.drew | apply Off.alloc | refine Off.trans_same ?_ hg1 | refine Off.trans_same ?_ hg2)) (fun _ h => h.elim))), Lib.hid (hNb.out.off (Off.mono (ok := fun _ => False) (by repeat (first | exact Off.refl _ _ | apply Off.drew | apply Off.alloc | refine Off.trans_same ?_ hg1 | refine Off.trans_same ?_ hg2)) (fun _ h => h.elim))), Lib.hid (show Grew _ _ from (by repeat (first | exact Off.refl _ _ | apply Off.drew | apply Off.alloc | refine Off.trans_same ?_ hg1 | refine Off.trans_same ?_ hg2))), (grew_cell (w := w.alloc (.cells #[.int .i64 0, .slice A1 ns.length c1, .slice A2 os.length c2, .bool is] 49)) (by repeat (first | exact Off.refl _ _ | apply Off.drew | apply Off.alloc | refine Off.trans_same ?_ hg1 | refine Off.trans_same ?_ hg2)) _ _ (by simp)).trans (by rw [box_cell]; rfl)⟩
  case rest =>
    obtain ⟨g1, cap1, g2, cap2, rfl, rfl, HNa, HNb, HG, hc⟩ := hcut
    have HPc := Lib.hid (HP.out.move (w' := wc) (fun k _ hlt => HG.out.block k hlt (fun x => x)))
    have HNa' := Lib.hid (HNa.out.mono (ok' := fun i => ok i ∧ i < w.heap.size) (fun k _ hk => hk.2))
    have HNb' := Lib.hid (HNb.out.mono (ok' := fun i => ok i ∧ i < w.heap.size) (fun k _ hk => hk.2))
    have hzc : w.heap.size ≤ wc.heap.size := HG.out.size
    go_wp2_with (go_at_call 53; refine (allowElements _ K p cap1 el gl (some ⟨g1, 0, none⟩) ns wc HPc.out HNa'.out HL.out hlen).mono ?_; rintro e w' ⟨rfl, hpol, hoff⟩)
    go_end0
    refine ⟨rfl, hpol.mono (fun i hi => ?_) (Nat.le_refl _), ((HG.out.mono (fun _ h => h.elim)).trans hoff (fun i _ hi => hi.1))⟩
    rcases hi with hi | hi
    · exact .inl hi.1
    · exact .inr (by omega)

set_option maxRecDepth 100000 in
set_option maxHeartbeats 8000000 in
theorem call_attrs (ok : Nat → Prop) (K p c1 c2 : Nat) (el : El) (gl : ByteArray → Bool) (ns os : List ByteArray) (A1 A2 : Option Addr) (is : Bool) (w : World) (hp : PolS ok K w p el gl)
    (hn1 : Names ok w A1 ns) (hn2 : Names ok w A2 os) (hl : ∀ x ∈ ns, Low x ∧ x.size ≤ maxLen) (hl2 : ∀ x ∈ os, Low x ∧ x.size ≤ maxLen) (hK : K + os.length * ns.length ≤ 1048576) (hlen : ns.length ≤ 1048576) (hlen2 : os.length ≤ 1048576) :
    Calls Tryz.prog 43 #[.pointer (some ⟨p, 0, none⟩), .agg #[.int .i64 1, .slice A1 ns.length c1, .slice A2 os.length c2, .bool is]] w fun e w' => e = .returned (.tuple #[]) ∧
      PolS (fun i => ok i ∨ w.heap.size ≤ i) (K + os.length * ns.length) w' p (os.foldl (addOn ns) el) gl ∧ Off ok w w' := by
  have HP := Lib.hid hp.bound
  have HN1 := Lib.hid hn1
  have HN2 := Lib.hid hn2
  have HL := Lib.hid hl
  clear hl
  have HL2 := Lib.hid hl2
  clear hl2
  have HK := Lib.hid hK
  clear hK
  clear hp hn1 hn2
  go_enter Tryz.func43, Tryz.ntmps43
  go_wp2_with fail
  go_cut [4, 5] (fun v4 v5 wc => ∃ g1 cap1 g2 cap2 : Nat, v4 = .slice (some ⟨g1, 0, none⟩) ns.length cap1 ∧ v5 = .slice (some ⟨g2, 0, none⟩) os.length cap2 ∧ Hid (Names (fun k => k < w.heap.size) wc (some ⟨g1, 0, none⟩) ns) ∧ Hid (Names (fun k => k < w.heap.size) wc (some ⟨g2, 0, none⟩) os) ∧ Hid (Grew w wc) ∧ wc.cell? ⟨w.heap.size, 0, none⟩ = some (.int .i64 1))
  case first =>
    go_region_held3 (fun w' => w'.cell? ⟨w.heap.size, 0, none⟩ = some (.int .i64 1) ∧ w'.cell? ⟨w.heap.size, 1, none⟩ = some (.slice A1 ns.length c1) ∧ w'.cell? ⟨w.heap.size, 2, none⟩ = some (.slice A2 os.length c2))
      (first
        | go_keep
        | (go_split_ands
           refine ⟨?_, ?_, ?_⟩ <;> first | (rw [grew_cell hg1 _ _ (Nat.lt_of_lt_of_le (by simp) (Off.size (ok := fun _ => False) (w := w.alloc (.cells #[.int .i64 1, .slice A1 ns.length c1, .slice A2 os.length c2, .bool is] 49)) (by repeat (first | exact Off.refl _ _ | apply Off.drew | apply Off.alloc | refine Off.trans_same ?_ hg1 | refine Off.trans_same ?_ hg2))))]; assumption) | (rw [grew_cell hg2 _ _ (Nat.lt_of_lt_of_le (by simp) (Off.size (ok := fun _ => False) (w := w.alloc (.cells #[.int .i64 1, .slice A1 ns.length c1, .slice A2 os.length c2, .bool is] 49)) (by repeat (first | exact Off.refl _ _ | apply Off.drew | apply Off.alloc | refine Off.trans_same ?_ hg1 | refine Off.trans_same ?_ hg2))))]; assumption)))
      (first
        | (refine step_copy (by rfl) _ _ (by rfl) _ (by rfl) A1 c1 ns ok (by rfl) w HN1.out (by repeat (first | exact Off.refl _ _ | apply Off.drew | apply Off.alloc | refine Off.trans_same ?_ hg1 | refine Off.trans_same ?_ hg2)) hlen ?_; intro g1 cap1 w1 hN1 hg1; have hz1 : w.heap.size ≤ w1.heap.size := Off.size (ok := fun _ => False) (by repeat (first | exact Off.refl _ _ | apply Off.drew | apply Off.alloc | refine Off.trans_same ?_ hg1 | refine Off.trans_same ?_ hg2)); have hNa := Lib.hid (hN1.mono (ok' := fun k => k < w.heap.size) (fun k _ hk => Nat.lt_of_lt_of_le hk (Off.size (ok := fun _ => False) (by repeat (first | exact Off.refl _ _ | apply Off.drew | apply Off.alloc | refine Off.trans_same ?_ hg1 | refine Off.trans_same ?_ hg2))))); clear hN1)
        | (refine step_copy (by rfl) _ _ (by rfl) _ (by rfl) A2 c2 os ok (by rfl) w HN2.out (by repeat (first | exact Off.refl _ _ | apply Off.drew | apply Off.alloc | refine Off.trans_same ?_ hg1 | refine Off.trans_same ?_ hg2)) hlen2 ?_; intro g2 cap2 w2 hN2 hg2; have hz2 : w.heap.size ≤ w2.heap.size := Off.size (ok := fun _ => False) (by repeat (first | exact Off.refl _ _ | apply Off.drew | apply Off.alloc | refine Off.trans_same ?_ hg1 | refine Off.trans_same ?_ hg2)); have hNb := Lib.hid (hN2.mono (ok' := fun k => k < w.heap.size) (fun k _ hk => Nat.lt_of_lt_of_le hk (Off.size (ok := fun _ => False) (by repeat (first | exact Off.refl _ _ | apply Off.drew | apply Off.alloc | refine Off.trans_same ?_ hg1 | refine Off.trans_same ?_ hg2))))); clear hN2))
    all_goals
      go_wp2_with fail
      go_meet
      exact ⟨g1, cap1, g2, cap2, rfl, rfl, Lib.hid (hNa.out.off (Off.mono (ok := fun _ => False) (by repeat (first | exact Off.refl _ _ | apply Off.drew | apply Off.alloc | refine Off.trans_same ?_ hg1 | refine Off.trans_same ?_ hg2)) (fun _ h => h.elim))), Lib.hid (hNb.out.off (Off.mono (ok := fun _ => False) (by repeat (first | exact Off.refl _ _ | apply Off.drew | apply Off.alloc | refine Off.trans_same ?_ hg1 | refine Off.trans_same ?_ hg2)) (fun _ h => h.elim))), Lib.hid (show Grew _ _ from (by repeat (first | exact Off.refl _ _ | apply Off.drew | apply Off.alloc | refine Off.trans_same ?_ hg1 | refine Off.trans_same ?_ hg2))), (grew_cell (w := w.alloc (.cells #[.int .i64 1, .slice A1 ns.length c1, .slice A2 os.length c2, .bool is] 49)) (by repeat (first | exact Off.refl _ _ | apply Off.drew | apply Off.alloc | refine Off.trans_same ?_ hg1 | refine Off.trans_same ?_ hg2)) _ _ (by simp)).trans (by rw [box_cell]; rfl)⟩
  case rest =>
    obtain ⟨g1, cap1, g2, cap2, rfl, rfl, HNa, HNb, HG, hc⟩ := hcut
    have HPc := Lib.hid (HP.out.move (w' := wc) (fun k _ hlt => HG.out.block k hlt (fun x => x)))
    have HNa' := Lib.hid (HNa.out.mono (ok' := fun i => ok i ∧ i < w.heap.size) (fun k _ hk => hk.2))
    have HNb' := Lib.hid (HNb.out.mono (ok' := fun i => ok i ∧ i < w.heap.size) (fun k _ hk => hk.2))
    have hzc : w.heap.size ≤ wc.heap.size := HG.out.size
    have hc0 : wc.cell? ⟨p, 0, none⟩ = some (.bool true) := by
      obtain ⟨e0, g0, u0, n0, s0, LE0, L0, hpa, _, _⟩ := HPc.out.ex
      rw [pc hpa]; rfl
    go_wp2_with (first
      | (go_at_call 54; refine (allowAttrs (fun i => ok i ∧ i < w.heap.size) p cap1 (some ⟨g1, 0, none⟩) ns wc hc0 HNa'.out HL.out hlen).mono ?_; rintro e w1 ⟨rfl, v, hbld⟩; have HBl := Lib.hid hbld; clear hbld)
      | (go_at_call 56; refine (onAttrs (fun i => ok i ∧ i < w.heap.size) K p wc.heap.size cap2 el gl ns os v (some ⟨g2, 0, none⟩) w1 (HPc.out.move (fun k hk hlt => HBl.out.bel.block k hlt)) HBl.out.abp (fun h => by omega) (wc.heap.size + 1) HBl.out.own (fun b hb h => by have := (HBl.out.own.lt b hb).1; omega) (HNb'.out.off (off_of_below HBl.out.bel)) HL2.out hlen hlen2 HK.out).mono ?_; rintro e w' ⟨rfl, hpol, hoff⟩))
    have hzb : wc.heap.size ≤ w1.heap.size := HBl.out.bel.size
    go_end0
    refine ⟨rfl, hpol.mono (fun i hi => ?_) (Nat.le_refl _), (((HG.out.mono (fun _ h => h.elim)).trans (off_of_below (ok := fun i => ok i ∧ i < w.heap.size) HBl.out.bel) (fun _ _ h => h.1)).trans hoff (fun i _ hi => hi.1))⟩
    rcases hi with hi | hi
    · exact .inl hi.1
    · exact .inr (by omega)

set_option maxRecDepth 100000 in
set_option maxHeartbeats 8000000 in
theorem call_globally (ok : Nat → Prop) (K p c1 c2 : Nat) (el : El) (gl : ByteArray → Bool) (ns os : List ByteArray) (A1 A2 : Option Addr) (is : Bool) (w : World) (hp : PolS ok K w p el gl)
    (hn1 : Names ok w A1 ns) (hn2 : Names ok w A2 os) (hl : ∀ x ∈ ns, Low x ∧ x.size ≤ maxLen) (hK : K + ns.length ≤ 1048576) (hlen : ns.length ≤ 1048576) (hlen2 : os.length ≤ 1048576) :
    Calls Tryz.prog 43 #[.pointer (some ⟨p, 0, none⟩), .agg #[.int .i64 2, .slice A1 ns.length c1, .slice A2 os.length c2, .bool is]] w fun e w' => e = .returned (.tuple #[]) ∧
      PolS (fun i => ok i ∨ w.heap.size ≤ i) (K + ns.length) w' p el (ns.foldl addGl gl) ∧ Off ok w w' := by
  have HP := Lib.hid hp.bound
  have HN1 := Lib.hid hn1
  have HN2 := Lib.hid hn2
  have HL := Lib.hid hl
  clear hl
  have HK := Lib.hid hK
  clear hK
  clear hp hn1 hn2
  go_enter Tryz.func43, Tryz.ntmps43
  go_wp2_with fail
  go_cut [4, 5] (fun v4 v5 wc => ∃ g1 cap1 g2 cap2 : Nat, v4 = .slice (some ⟨g1, 0, none⟩) ns.length cap1 ∧ v5 = .slice (some ⟨g2, 0, none⟩) os.length cap2 ∧ Hid (Names (fun k => k < w.heap.size) wc (some ⟨g1, 0, none⟩) ns) ∧ Hid (Names (fun k => k < w.heap.size) wc (some ⟨g2, 0, none⟩) os) ∧ Hid (Grew w wc) ∧ wc.cell? ⟨w.heap.size, 0, none⟩ = some (.int .i64 2))
  case first =>
    go_region_held3 (fun w' => w'.cell? ⟨w.heap.size, 0, none⟩ = some (.int .i64 2) ∧ w'.cell? ⟨w.heap.size, 1, none⟩ = some (.slice A1 ns.length c1) ∧ w'.cell? ⟨w.heap.size, 2, none⟩ = some (.slice A2 os.length c2))
      (first
        | go_keep
        | (go_split_ands
           refine ⟨?_, ?_, ?_⟩ <;> first | (rw [grew_cell hg1 _ _ (Nat.lt_of_lt_of_le (by simp) (Off.size (ok := fun _ => False) (w := w.alloc (.cells #[.int .i64 2, .slice A1 ns.length c1, .slice A2 os.length c2, .bool is] 49)) (by repeat (first | exact Off.refl _ _ | apply Off.drew | apply Off.alloc | refine Off.trans_same ?_ hg1 | refine Off.trans_same ?_ hg2))))]; assumption) | (rw [grew_cell hg2 _ _ (Nat.lt_of_lt_of_le (by simp) (Off.size (ok := fun _ => False) (w := w.alloc (.cells #[.int .i64 2, .slice A1 ns.length c1, .slice A2 os.length c2, .bool is] 49)) (by repeat (first | exact Off.refl _ _ | apply Off.drew | apply Off.alloc | refine Off.trans_same ?_ hg1 | refine Off.trans_same ?_ hg2))))]; assumption)))
      (first
        | (refine step_copy (by rfl) _ _ (by rfl) _ (by rfl) A1 c1 ns ok (by rfl) w HN1.out (by repeat (first | exact Off.refl _ _ | apply Off.drew | apply Off.alloc | refine Off.trans_same ?_ hg1 | refine Off.trans_same ?_ hg2)) hlen ?_; intro g1 cap1 w1 hN1 hg1; have hz1 : w.heap.size ≤ w1.heap.size := Off.size (ok := fun _ => False) (by repeat (first | exact Off.refl _ _ | apply Off.drew | apply Off.alloc | refine Off.trans_same ?_ hg1 | refine Off.trans_same ?_ hg2)); have hNa := Lib.hid (hN1.mono (ok' := fun k => k < w.heap.size) (fun k _ hk => Nat.lt_of_lt_of_le hk (Off.size (ok := fun _ => False) (by repeat (first | exact Off.refl _ _ | apply Off.drew | apply Off.alloc | refine Off.trans_same ?_ hg1 | refine Off.trans_same ?_ hg2))))); clear hN1)
        | (refine step_copy (by rfl) _ _ (by rfl) _ (by rfl) A2 c2 os ok (by rfl) w HN2.out (by repeat (first | exact Off.refl _ _ | apply Off.drew | apply Off.alloc | refine Off.trans_same ?_ hg1 | refine Off.trans_same ?_ hg2)) hlen2 ?_; intro g2 cap2 w2 hN2 hg2; have hz2 : w.heap.size ≤ w2.heap.size := Off.size (ok := fun _ => False) (by repeat (first | exact Off.refl _ _ | apply Off.drew | apply Off.alloc | refine Off.trans_same ?_ hg1 | refine Off.trans_same ?_ hg2)); have hNb := Lib.hid (hN2.mono (ok' := fun k => k < w.heap.size) (fun k _ hk => Nat.lt_of_lt_of_le hk (Off.size (ok := fun _ => False) (by repeat (first | exact Off.refl _ _ | apply Off.drew | apply Off.alloc | refine Off.trans_same ?_ hg1 | refine Off.trans_same ?_ hg2))))); clear hN2))
    all_goals
      go_wp2_with fail
      go_meet
      exact ⟨g1, cap1, g2, cap2, rfl, rfl, Lib.hid (hNa.out.off (Off.mono (ok := fun _ => False) (by repeat (first | exact Off.refl _ _ | apply Off.drew | apply Off.alloc | refine Off.trans_same ?_ hg1 | refine Off.trans_same ?_ hg2)) (fun _ h => h.elim))), Lib.hid (hNb.out.off (Off.mono (ok := fun _ => False) (by repeat (first | exact Off.refl _ _ | apply Off.drew | apply Off.alloc | refine Off.trans_same ?_ hg1 | refine Off.trans_same ?_ hg2)) (fun _ h => h.elim))), Lib.hid (show Grew _ _ from (by repeat (first | exact Off.refl _ _ | apply Off.drew | apply Off.alloc | refine Off.trans_same ?_ hg1 | refine Off.trans_same ?_ hg2))), (grew_cell (w := w.alloc (.cells #[.int .i64 2, .slice A1 ns.length c1, .slice A2 os.length c2, .bool is] 49)) (by repeat (first | exact Off.refl _ _ | apply Off.drew | apply Off.alloc | refine Off.trans_same ?_ hg1 | refine Off.trans_same ?_ hg2)) _ _ (by simp)).trans (by rw [box_cell]; rfl)⟩
  case rest =>
    obtain ⟨g1, cap1, g2, cap2, rfl, rfl, HNa, HNb, HG, hc⟩ := hcut
    have HPc := Lib.hid (HP.out.move (w' := wc) (fun k _ hlt => HG.out.block k hlt (fun x => x)))
    have HNa' := Lib.hid (HNa.out.mono (ok' := fun i => ok i ∧ i < w.heap.size) (fun k _ hk => hk.2))
    have HNb' := Lib.hid (HNb.out.mono (ok' := fun i => ok i ∧ i < w.heap.size) (fun k _ hk => hk.2))
    have hzc : w.heap.size ≤ wc.heap.size := HG.out.size
    have hc0 : wc.cell? ⟨p, 0, none⟩ = some (.bool true) := by
      obtain ⟨e0, g0, u0, n0, s0, LE0, L0, hpa, _, _⟩ := HPc.out.ex
      rw [pc hpa]; rfl
    go_wp2_with (first
      | (go_at_call 54; refine (allowAttrs (fun i => ok i ∧ i < w.heap.size) p cap1 (some ⟨g1, 0, none⟩) ns wc hc0 HNa'.out HL.out hlen).mono ?_; rintro e w1 ⟨rfl, v, hbld⟩; have HBl := Lib.hid hbld; clear hbld)
      | (go_at_call 60; refine (globally (fun i => ok i ∧ i < w.heap.size) K p wc.heap.size el gl ns v false w1 (HPc.out.move (fun k hk hlt => HBl.out.bel.block k hlt)) HBl.out.abp (fun h => by omega) (wc.heap.size + 1) HBl.out.own (fun b hb h => by have := (HBl.out.own.lt b hb).1; omega) HK.out).mono ?_; rintro e w' ⟨rfl, hpol, hoff⟩))
    have hzb : wc.heap.size ≤ w1.heap.size := HBl.out.bel.size
    go_end0
    refine ⟨rfl, hpol.mono (fun i hi => ?_) (Nat.le_refl _), (((HG.out.mono (fun _ h => h.elim)).trans (off_of_below (ok := fun i => ok i ∧ i < w.heap.size) HBl.out.bel) (fun _ _ h => h.1)).trans hoff (fun i _ hi => hi.1))⟩
    rcases hi with hi | hi
    · exact .inl hi.1
    · exact .inr (by omega)

set_option maxRecDepth 100000 in
set_option maxHeartbeats 8000000 in
theorem call_bare (ok : Nat → Prop) (K p c1 c2 : Nat) (el : El) (gl : ByteArray → Bool) (ns os : List ByteArray) (A1 A2 : Option Addr) (is : Bool) (w : World) (hp : PolS ok K w p el gl)
    (hn1 : Names ok w A1 ns) (hn2 : Names ok w A2 os) (hl2 : ∀ x ∈ os, Low x ∧ x.size ≤ maxLen) (hlen : ns.length ≤ 1048576) (hlen2 : os.length ≤ 1048576) :
    Calls Tryz.prog 43 #[.pointer (some ⟨p, 0, none⟩), .agg #[.int .i64 3, .slice A1 ns.length c1, .slice A2 os.length c2, .bool is]] w fun e w' => e = .returned (.tuple #[]) ∧
      PolS (fun i => ok i ∨ w.heap.size ≤ i) K w' p (os.foldl addEl el) gl ∧ Off ok w w' := by
  have HP := Lib.hid hp.bound
  have HN1 := Lib.hid hn1
  have HN2 := Lib.hid hn2
  have HL2 := Lib.hid hl2
  clear hl2
  clear hp hn1 hn2
  go_enter Tryz.func43, Tryz.ntmps43
  go_wp2_with fail
  go_cut [4, 5] (fun v4 v5 wc => ∃ g1 cap1 g2 cap2 : Nat, v4 = .slice (some ⟨g1, 0, none⟩) ns.length cap1 ∧ v5 = .slice (some ⟨g2, 0, none⟩) os.length cap2 ∧ Hid (Names (fun k => k < w.heap.size) wc (some ⟨g1, 0, none⟩) ns) ∧ Hid (Names (fun k => k < w.heap.size) wc (some ⟨g2, 0, none⟩) os) ∧ Hid (Grew w wc) ∧ wc.cell? ⟨w.heap.size, 0, none⟩ = some (.int .i64 3))
  case first =>
    go_region_held3 (fun w' => w'.cell? ⟨w.heap.size, 0, none⟩ = some (.int .i64 3) ∧ w'.cell? ⟨w.heap.size, 1, none⟩ = some (.slice A1 ns.length c1) ∧ w'.cell? ⟨w.heap.size, 2, none⟩ = some (.slice A2 os.length c2))
      (first
        | go_keep
        | (go_split_ands
           refine ⟨?_, ?_, ?_⟩ <;> first | (rw [grew_cell hg1 _ _ (Nat.lt_of_lt_of_le (by simp) (Off.size (ok := fun _ => False) (w := w.alloc (.cells #[.int .i64 3, .slice A1 ns.length c1, .slice A2 os.length c2, .bool is] 49)) (by repeat (first | exact Off.refl _ _ | apply Off.drew | apply Off.alloc | refine Off.trans_same ?_ hg1 | refine Off.trans_same ?_ hg2))))]; assumption) | (rw [grew_cell hg2 _ _ (Nat.lt_of_lt_of_le (by simp) (Off.size (ok := fun _ => False) (w := w.alloc (.cells #[.int .i64 3, .slice A1 ns.length c1, .slice A2 os.length c2, .bool is] 49)) (by repeat (first | exact Off.refl _ _ | apply Off.drew | apply Off.alloc | refine Off.trans_same ?_ hg1 | refine Off.trans_same ?_ hg2))))]; assumption)))
      (first
        | (refine step_copy (by rfl) _ _ (by rfl) _ (by rfl) A1 c1 ns ok (by rfl) w HN1.out (by repeat (first | exact Off.refl _ _ | apply Off.drew | apply Off.alloc | refine Off.trans_same ?_ hg1 | refine Off.trans_same ?_ hg2)) hlen ?_; intro g1 cap1 w1 hN1 hg1; have hz1 : w.heap.size ≤ w1.heap.size := Off.size (ok := fun _ => False) (by repeat (first | exact Off.refl _ _ | apply Off.drew | apply Off.alloc | refine Off.trans_same ?_ hg1 | refine Off.trans_same ?_ hg2)); have hNa := Lib.hid (hN1.mono (ok' := fun k => k < w.heap.size) (fun k _ hk => Nat.lt_of_lt_of_le hk (Off.size (ok := fun _ => False) (by repeat (first | exact Off.refl _ _ | apply Off.drew | apply Off.alloc | refine Off.trans_same ?_ hg1 | refine Off.trans_same ?_ hg2))))); clear hN1)
        | (refine step_copy (by rfl) _ _ (by rfl) _ (by rfl) A2 c2 os ok (by rfl) w HN2.out (by repeat (first | exact Off.refl _ _ | apply Off.drew | apply Off.alloc | refine Off.trans_same ?_ hg1 | refine Off.trans_same ?_ hg2)) hlen2 ?_; intro g2 cap2 w2 hN2 hg2; have hz2 : w.heap.size ≤ w2.heap.size := Off.size (ok := fun _ => False) (by repeat (first | exact Off.refl _ _ | apply Off.drew | apply Off.alloc | refine Off.trans_same ?_ hg1 | refine Off.trans_same ?_ hg2)); have hNb := Lib.hid (hN2.mono (ok' := fun k => k < w.heap.size) (fun k _ hk => Nat.lt_of_lt_of_le hk (Off.size (ok := fun _ => False) (by repeat (first | exact Off.refl _ _ | apply Off.drew | apply Off.alloc | refine Off.trans_same ?_ hg1 | refine Off.trans_same ?_ hg2))))); clear hN2))
    all_goals
      go_wp2_with fail
      go_meet
      exact ⟨g1, cap1, g2, cap2, rfl, rfl, Lib.hid (hNa.out.off (Off.mono (ok := fun _ => False) (by repeat (first | exact Off.refl _ _ | apply Off.drew | apply Off.alloc | refine Off.trans_same ?_ hg1 | refine Off.trans_same ?_ hg2)) (fun _ h => h.elim))), Lib.hid (hNb.out.off (Off.mono (ok := fun _ => False) (by repeat (first | exact Off.refl _ _ | apply Off.drew | apply Off.alloc | refine Off.trans_same ?_ hg1 | refine Off.trans_same ?_ hg2)) (fun _ h => h.elim))), Lib.hid (show Grew _ _ from (by repeat (first | exact Off.refl _ _ | apply Off.drew | apply Off.alloc | refine Off.trans_same ?_ hg1 | refine Off.trans_same ?_ hg2))), (grew_cell (w := w.alloc (.cells #[.int .i64 3, .slice A1 ns.length c1, .slice A2 os.length c2, .bool is] 49)) (by repeat (first | exact Off.refl _ _ | apply Off.drew | apply Off.alloc | refine Off.trans_same ?_ hg1 | refine Off.trans_same ?_ hg2)) _ _ (by simp)).trans (by rw [box_cell]; rfl)⟩
  case rest =>
    obtain ⟨g1, cap1, g2, cap2, rfl, rfl, HNa, HNb, HG, hc⟩ := hcut
    have HPc := Lib.hid (HP.out.move (w' := wc) (fun k _ hlt => HG.out.block k hlt (fun x => x)))
    have HNa' := Lib.hid (HNa.out.mono (ok' := fun i => ok i ∧ i < w.heap.size) (fun k _ hk => hk.2))
    have HNb' := Lib.hid (HNb.out.mono (ok' := fun i => ok i ∧ i < w.heap.size) (fun k _ hk => hk.2))
    have hzc : w.heap.size ≤ wc.heap.size := HG.out.size
    have hc0 : wc.cell? ⟨p, 0, none⟩ = some (.bool true) := by
      obtain ⟨e0, g0, u0, n0, s0, LE0, L0, hpa, _, _⟩ := HPc.out.ex
      rw [pc hpa]; rfl
    go_wp2_with (first
      | (go_at_call 61; refine (allowNoAttrs p wc hc0).mono ?_; rintro e w1 ⟨rfl, he⟩; have HW := Lib.hid he; clear he)
      | (go_at_call 56; refine (onBare (fun i => ok i ∧ i < w.heap.size) K p wc.heap.size cap2 el gl os (some ⟨g2, 0, none⟩) w1 (HPc.out.move (fun k hk hlt => by rw [HW.out]; exact Below.heap_alloc _ _ _ hlt)) (by rw [HW.out]; exact heap_alloc_new wc _) (fun h => by omega) (HNb'.out.off (by rw [HW.out]; exact (Off.refl _ _).alloc _)) HL2.out hlen2).mono ?_; rintro e w' ⟨rfl, hpol, hoff⟩))
    have hzb : wc.heap.size ≤ w1.heap.size := by rw [HW.out]; simp
    have hob : Off (fun i => ok i ∧ i < w.heap.size) wc w1 := by rw [HW.out]; exact (Off.refl _ _).alloc _
    go_end0
    refine ⟨rfl, hpol.mono (fun i hi => ?_) (Nat.le_refl _), (((HG.out.mono (fun _ h => h.elim)).trans hob (fun _ _ h => h.1)).trans hoff (fun i _ hi => hi.1))⟩
    rcases hi with hi | hi
    · exact .inl hi.1
    · exact .inr (by omega)
end Go.Proofs.YtlgacgiikmkfcaaGreatDoor
