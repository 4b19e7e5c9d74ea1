/- impl.policy: the policy that a list of calls makes. -/
import Derived.Test.YtlgacgiikmkfcaaGreatDoorCall
import Derived.Test.YtlgacgiikmkfcaaGreatDoorPFnAttrsx0
namespace Go.Proofs.YtlgacgiikmkfcaaGreatDoor
open Go.RowKit M Go.Proofs.YtlgacgiikmkfcaaGreatDoor.PFnAttrs Go.Proofs.YtlgacgiikmkfcaaGreatDoorW.PrintWords Go.Proofs.YtlgacgiikmkfcaaGreatDoorW.PrintLast
namespace M
def applyEl (el : El) (c : S49) : El := if c.f0 = 0 then c.f1.foldl addEl el else if c.f0 = 1 then c.f2.foldl (addOn c.f1) el else if c.f0 = 3 then c.f2.foldl addEl el else el
def applyGl (gl : ByteArray → Bool) (c : S49) : ByteArray → Bool := if c.f0 = 2 then c.f1.foldl addGl gl else gl
/-- What is asked of a call. -/
structure Fine (c : S49) : Prop where
  kind : c.f0 = 0 ∨ c.f0 = 1 ∨ c.f0 = 2 ∨ c.f0 = 3
  l1 : ∀ x ∈ c.f1, Low x ∧ x.size ≤ maxLen
  l2 : ∀ x ∈ c.f2, Low x ∧ x.size ≤ maxLen
  n1 : c.f1.length ≤ 12
  n2 : c.f2.length ≤ 12

theorem names_of_C {w : World} {A : Option Addr} {ns : List ByteArray} (h : Kd.string.C w A ns.length ns) : Names (fun i => w.heap.size ≤ i) w A ns := by
  by_cases h0 : ns = []
  · exact ⟨.inl h0⟩
  obtain ⟨_, _, h3⟩ := h
  have hpos : 0 < ns.length := List.length_pos_iff.2 h0
  obtain ⟨ad, rfl, hc⟩ := h3 hpos
  have hcell : ∀ i x, ns[i]? = some x → w.cell? (ad.add i) = some (.string x) := by
    intro i x hx
    obtain ⟨c, hl, hK, hcc⟩ := hc i x hx
    have hK' : c = [.string x] := hK
    subst hK'
    have := hcc 0 (.string x) rfl
    simpa [show Kd.string.sz = 1 from rfl] using this
  have h1 := hcell 0 _ (List.getElem?_eq_getElem hpos)
  have hs : ad.spot = none := by
    cases hsp : ad.spot with
    | none => rfl
    | some sp =>
      have : (ad.add 0).spot = some sp := by
        unfold Addr.add
        split <;> simp_all
      unfold World.cell? at h1
      split at h1
      · rw [this] at h1; simp at h1
      · simp at h1
  obtain ⟨b, o, sp⟩ := ad
  simp only at hs
  subst hs
  have hadd : ∀ j, (⟨b, o, none⟩ : Addr).add j = ⟨b, o + j, none⟩ := fun j => Addr.add_mid b o j
  refine ⟨.inr ⟨b, o, rfl, ?_, ?_, fun i x hx => by rw [← hadd]; exact hcell i x hx⟩⟩
  · have := World.block_lt_of_cell? w _ h1
    rw [hadd] at this
    simp at this ⊢
    omega
  · have := World.block_lt_of_cell? w _ h1
    rw [hadd] at this
    simpa using this
end M

theorem call_fine (ok : Nat → Prop) (K p c1 c2 : Nat) (el : El) (gl : ByteArray → Bool) (c : S49) (A1 A2 : Option Addr) (w : World) (hp : PolS ok K w p el gl)
    (hn1 : Names ok w A1 c.f1) (hn2 : Names ok w A2 c.f2) (hf : Fine c) (hK : K + 200 ≤ 1048576) :
    Calls Tryz.prog 43 #[.pointer (some ⟨p, 0, none⟩), .agg #[.int .i64 c.f0, .slice A1 c.f1.length c1, .slice A2 c.f2.length c2, .bool c.f3]] w fun e w' => e = .returned (.tuple #[]) ∧
      PolS (fun i => ok i ∨ w.heap.size ≤ i) (K + 200) w' p (applyEl el c) (applyGl gl c) ∧ Off ok w w' := by
  have h1 := hf.n1
  have h2 := hf.n2
  have hm : c.f2.length * c.f1.length ≤ 12 * 12 := Nat.mul_le_mul h2 h1
  rcases hf.kind with h | h | h | h
  · rw [h]
    refine (call_elements ok K p c1 c2 el gl c.f1 c.f2 A1 A2 c.f3 w hp hn1 hn2 hf.l1 (by omega) (by omega)).mono ?_
    rintro e w' ⟨rfl, a, b⟩
    refine ⟨rfl, ?_, b⟩
    simp only [applyEl, applyGl, h]
    simpa using a.mono (fun _ x => x) (by omega)
  · rw [h]
    refine (call_attrs ok K p c1 c2 el gl c.f1 c.f2 A1 A2 c.f3 w hp hn1 hn2 hf.l1 hf.l2 (by omega) (by omega) (by omega)).mono ?_
    rintro e w' ⟨rfl, a, b⟩
    refine ⟨rfl, ?_, b⟩
    simp only [applyEl, applyGl, h]
    simpa using a.mono (fun _ x => x) (by omega)
  · rw [h]
    refine (call_globally ok K p c1 c2 el gl c.f1 c.f2 A1 A2 c.f3 w hp hn1 hn2 hf.l1 (by omega) (by omega) (by omega)).mono ?_
    rintro e w' ⟨rfl, a, b⟩
    refine ⟨rfl, ?_, b⟩
    simp only [applyEl, applyGl, h]
    simpa using a.mono (fun _ x => x) (by omega)
  · rw [h]
    refine (call_bare ok K p c1 c2 el gl c.f1 c.f2 A1 A2 c.f3 w hp hn1 hn2 hf.l2 (by omega) (by omega)).mono ?_
    rintro e w' ⟨rfl, a, b⟩
    refine ⟨rfl, ?_, b⟩
    simp only [applyEl, applyGl, h]
    simpa using a.mono (fun _ x => x) (by omega)

namespace M
theorem rows_of_C {w : World} {A : Option Addr} {l : List S49} (h : Kd.C k49 w A l.length l) (hne : l ≠ []) : ∃ b o, A = some ⟨b, o, none⟩ ∧ b < w.heap.size ∧ ∀ (k : Nat) (hk : k < l.length), ∃ A1 c1 A2 c2,
    w.cell? ⟨b, o + k * 4, none⟩ = some (.int .i64 l[k].f0) ∧ w.cell? ⟨b, o + k * 4 + 1, none⟩ = some (.slice A1 l[k].f1.length c1) ∧ w.cell? ⟨b, o + k * 4 + 2, none⟩ = some (.slice A2 l[k].f2.length c2) ∧
    w.cell? ⟨b, o + k * 4 + 3, none⟩ = some (.bool l[k].f3) ∧ Kd.string.C w A1 l[k].f1.length l[k].f1 ∧ Kd.string.C w A2 l[k].f2.length l[k].f2 := by
  have hpos : 0 < l.length := List.length_pos_iff.2 hne
  obtain ⟨ad, _, _, _, _, hA, h0, _⟩ := at_T49 h 0 (by omega) (by omega)
  have hs : ad.spot = none := by
    cases hsp : ad.spot with
    | none => rfl
    | some sp =>
      have : (ad.add ((0 : Int).toNat * 4)).spot = some sp := by
        unfold Addr.add
        split <;> simp_all
      unfold World.cell? at h0
      split at h0
      · rw [this] at h0; simp at h0
      · simp at h0
  obtain ⟨b, o, sp⟩ := ad
  simp only at hs
  subst hs
  have hadd : ∀ j, (⟨b, o, none⟩ : Addr).add j = ⟨b, o + j, none⟩ := fun j => Addr.add_mid b o j
  refine ⟨b, o, hA, ?_, fun k hk => ?_⟩
  · have := World.block_lt_of_cell? w _ h0
    rw [hadd] at this
    simpa using this
  · obtain ⟨ad', A1, c1, A2, c2, hA', q0, q1, q2, q3, _, q5, _, q7⟩ := at_T49 h k (by omega) (by omega)
    rw [hA] at hA'
    injection hA' with hA'
    subst hA'
    have hr : rd_T49 l k = l[k] := by
      simp [rd_T49, hk]
    rw [hr] at q0 q1 q2 q3 q5 q7
    rw [hadd, Int.toNat_natCast] at q0 q1 q2 q3
    exact ⟨A1, c1, A2, c2, q0, q1, q2, q3, q5, q7⟩
end M

set_option maxRecDepth 100000 in
set_option maxHeartbeats 8000000 in
theorem policy_some (b o c : Nat) (l : List S49) (w : World) (hbl : b < w.heap.size)
    (hrow : ∀ (k : Nat) (hk : k < l.length), ∃ A1 c1 A2 c2,
      w.cell? ⟨b, o + k * 4, none⟩ = some (.int .i64 l[k].f0) ∧ w.cell? ⟨b, o + k * 4 + 1, none⟩ = some (.slice A1 l[k].f1.length c1) ∧ w.cell? ⟨b, o + k * 4 + 2, none⟩ = some (.slice A2 l[k].f2.length c2) ∧
      w.cell? ⟨b, o + k * 4 + 3, none⟩ = some (.bool l[k].f3) ∧ Kd.string.C w A1 l[k].f1.length l[k].f1 ∧ Kd.string.C w A2 l[k].f2.length l[k].f2)
    (hf : ∀ x ∈ l, Fine x) (hlen : l.length ≤ 20) :
    Calls Tryz.prog 27 #[.int .i64 0, .slice (some ⟨b, o, none⟩) l.length c] w fun e w' => e = .returned (.pointer (some ⟨w.heap.size, 0, none⟩)) ∧
      PolS (fun i => w.heap.size ≤ i) (l.length * 200) w' w.heap.size (l.foldl applyEl (fun _ => none)) (l.foldl applyGl (fun _ => false)) ∧ Below w.heap.size w w' := by
  have HR := Lib.hid hrow
  have HF := Lib.hid hf
  have HNP := Lib.hid (newPolicy w)
  clear hrow hf
  go_enter Tryz.func27, Tryz.ntmps27
  go_wp2_with (go_at_call 40; refine (HNP.out).mono ?_; rintro e w0 ⟨rfl, st⟩; have HST := Lib.hid st; clear st)
  go_loopw [18] (fun i wr => ∃ k : Nat, k ≤ l.length ∧ i = .int .i64 k ∧ Hid (PolS (fun i => w.heap.size ≤ i) (k * 200) wr w.heap.size ((l.take k).foldl applyEl (fun _ => none)) ((l.take k).foldl applyGl (fun _ => false))) ∧ Hid (Below w.heap.size w wr)) (fun i _ => l.length - (intOf i).toNat)
  case atStart => exact ⟨0, Nat.zero_le _, rfl, Lib.hid ⟨_, _, _, _, _, _, _, HST.out.pol, rfl, rfl⟩, Lib.hid HST.out.bel⟩
  case round =>
    obtain ⟨k, hk, rfl, HP, HB⟩ := hrel
    by_cases hlt : k < l.length
    · obtain ⟨A1, c1, A2, c2, q0, q1, q2, q3, q5, q7⟩ := HR.out k hlt
      have keep : ∀ j, wr.cell? ⟨b, j, none⟩ = w.cell? ⟨b, j, none⟩ := fun j => World.cell?_of_block (HB.out.block b hbl)
      rw [← keep] at q0 q1 q2 q3
      have HN1 := Lib.hid (names_of_C q5)
      have HN2 := Lib.hid (names_of_C q7)
      have HFK := Lib.hid (HF.out _ (List.getElem_mem hlt))
      have HE := Lib.hid (foldl_take_succ applyEl l (fun _ => none) k hlt)
      have HG := Lib.hid (foldl_take_succ applyGl l (fun _ => false) k hlt)
      clear keep q5 q7
      generalize hx : l[k] = x at *
      clear hx
      have hz : w.heap.size ≤ wr.heap.size := HB.out.size
      go_wp2_with (go_at_call 43; refine (call_fine (fun i => w.heap.size ≤ i) (k * 200) w.heap.size c1 c2 _ _ x A1 A2 _ (HP.out.move (fun j _ hj => Below.heap_alloc _ _ _ hj)) (HN1.out.off ((off_of_below HB.out).alloc _)) (HN2.out.off ((off_of_below HB.out).alloc _)) HFK.out (by omega)).mono ?_; rintro e w' ⟨rfl, hpol, hoff⟩)
      go_roundw
      case rel =>
        refine ⟨k + 1, by omega, by go_num, Lib.hid ?_, Lib.hid ?_⟩
        · rw [HE.out, HG.out]
          refine hpol.mono (fun i hi => ?_) (by omega)
          simp at hi
          omega
        · exact (HB.out.alloc hz _).trans (hoff.below (by simp; omega) (fun _ h => h))
      case measure => simp [intOf]; omega
    · go_wp2
      go_ret
      obtain rfl : k = l.length := by omega
      rw [List.take_length] at HP
      exact ⟨rfl, HP.out, HB.out⟩

set_option maxRecDepth 100000 in
set_option maxHeartbeats 4000000 in
theorem policy_none (A : Option Addr) (c : Nat) (w : World) :
    Calls Tryz.prog 27 #[.int .i64 0, .slice A 0 c] w fun e w' => e = .returned (.pointer (some ⟨w.heap.size, 0, none⟩)) ∧ NewSt w w' := by
  have HNP := Lib.hid (newPolicy w)
  go_enter Tryz.func27, Tryz.ntmps27
  go_wp2_with (go_at_call 40; refine (HNP.out).mono ?_; rintro e w0 ⟨rfl, st⟩; have HST := Lib.hid st; clear st)
  go_loop [18] (fun i => i = .int .i64 0) (fun _ => 0)
  case atStart => rfl
  case round =>
    obtain rfl := hrel
    go_wp2
    go_ret
    exact ⟨rfl, HST.out⟩

theorem policy_calls (A : Option Addr) (c : Nat) (l : List S49) (w : World) (hr : Kd.C k49 w A l.length l) (hf : ∀ x ∈ l, Fine x) (hlen : l.length ≤ 20) :
    Calls Tryz.prog 27 #[.int .i64 0, .slice A l.length c] w fun e w' => e = .returned (.pointer (some ⟨w.heap.size, 0, none⟩)) ∧
      PolS (fun i => w.heap.size ≤ i) (l.length * 200) w' w.heap.size (l.foldl applyEl (fun _ => none)) (l.foldl applyGl (fun _ => false)) ∧ Below w.heap.size w w' := by
  by_cases h : l = []
  · subst h
    refine (policy_none A c w).mono ?_
    rintro e w' ⟨rfl, st⟩
    exact ⟨rfl, ⟨_, _, _, _, _, _, _, st.pol, rfl, rfl⟩, st.bel⟩
  · obtain ⟨b, o, rfl, hb, hrow⟩ := rows_of_C hr h
    exact policy_some b o c l w hb hrow hf hlen
end Go.Proofs.YtlgacgiikmkfcaaGreatDoor
