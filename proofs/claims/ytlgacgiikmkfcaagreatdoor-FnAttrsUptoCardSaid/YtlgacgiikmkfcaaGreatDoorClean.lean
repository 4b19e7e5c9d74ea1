/- ZzAttrs and CleanAttrs: which attributes a policy leaves an element. -/
import Derived.Test.YtlgacgiikmkfcaaGreatDoorSan
namespace Go.Proofs.YtlgacgiikmkfcaaGreatDoor
open Go.RowKit M Go.Proofs.YtlgacgiikmkfcaaGreatDoor.PFnAttrs Go.Proofs.YtlgacgiikmkfcaaGreatDoorW.PrintWords Go.Proofs.YtlgacgiikmkfcaaGreatDoorW.PrintLast
set_option maxRecDepth 100000 in
set_option maxHeartbeats 4000000 in
theorem san_none (p c : Nat) (A : Option Addr) (mv : Value) (element : ByteArray) (w : World) :
    Calls Tryz.prog 48 #[.pointer (some ⟨p, 0, none⟩), .string element, .slice A 0 c, mv] w fun e w' => e = .returned (.slice A 0 c) ∧ w' = w := by
  go_enter Tryz.func48, Tryz.ntmps48
  go_wp2_with fail
  go_step3
  go_wp2_with fail
  rw [Exit.noGoto_ret]
  go_ret
  exact ⟨rfl, rfl⟩

namespace M
/-- Which names a policy leaves an element. -/
def keeps (el : El) (gl : ByteArray → Bool) (element : ByteArray) (a : ByteArray) : Bool := (match el element with | none => false | some f => f a) || gl a
end M

theorem san_calls (p e g u n s c : Nat) (A : Option Addr) (mv : Value) (f gl : ByteArray → Bool) (element : ByteArray) (l : List S82) (w : World) (hp : w.heap[p]? = some (.cells (pcells e g u n s) 90 (0, 0)))
    (hg : Look w (.map (some g)) gl) (hf : Look w mv f) (hrow : Kd.C k82 w A l.length l) (hc : l.length ≤ c) (hlen : l.length ≤ 1048576) :
    Calls Tryz.prog 48 #[.pointer (some ⟨p, 0, none⟩), .string element, .slice A l.length c, mv] w fun e w' => ∃ A' c', e = .returned (.slice A' (l.filter fun a => f a.f1 || gl a.f1).length c') ∧ (l.filter fun a => f a.f1 || gl a.f1).length ≤ c' ∧
      Kd.C k82 w' A' (l.filter fun a => f a.f1 || gl a.f1).length (l.filter fun a => f a.f1 || gl a.f1) ∧ Below w.heap.size w w' := by
  by_cases h0 : l = []
  · subst h0
    refine (san_none p c A mv element w).mono ?_
    rintro e w' ⟨rfl, rfl⟩
    exact ⟨A, c, rfl, Nat.zero_le _, hrow, Below.refl _ _⟩
  · refine (san_some p e g u n s c A mv f gl element l w hp hg hf (List.length_pos_iff.2 h0) hrow hlen).mono ?_
    rintro e w' ⟨v, rfl, hR, hB⟩
    obtain ⟨A', c', rfl, h1, h2⟩ := Kd.R_reads hR
    exact ⟨A', c', rfl, h1, h2, hB⟩

set_option maxRecDepth 100000 in
set_option maxHeartbeats 4000000 in
theorem zzAttrs (ok : Nat → Prop) (K p c : Nat) (A : Option Addr) (el : El) (gl : ByteArray → Bool) (element : ByteArray) (l : List S82) (w : World) (hp : PolS ok K w p el gl)
    (hrow : Kd.C k82 w A l.length l) (hc : l.length ≤ c) (hlen : l.length ≤ 1048576) :
    Calls Tryz.prog 37 #[.pointer (some ⟨p, 0, none⟩), .string element, .slice A l.length c] w fun e w' => ∃ A' c', e = .returned (.slice A' (l.filter fun a => keeps el gl element a.f1).length c') ∧ (l.filter fun a => keeps el gl element a.f1).length ≤ c' ∧
      Kd.C k82 w' A' (l.filter fun a => keeps el gl element a.f1).length (l.filter fun a => keeps el gl element a.f1) ∧ Below w.heap.size w w' := by
  obtain ⟨e, g, u, n, s, LE, h1, h2, h3, h4⟩ := hp.look
  have hc0 : w.cell? ⟨p, 0, none⟩ = some (.bool true) := by simp only [World.cell?, h1]; rfl
  have hc13 : w.cell? ⟨p, 13, none⟩ = some (.map (some e)) := by simp only [World.cell?, h1]; rfl
  rcases h4 element with ⟨g1, g2⟩ | ⟨m, f, g1, g2, g3⟩
  · have hlk := run_lookup_no Tryz.underlying86 Tryz.underlying9 h2 element g1 (zero84 w) false
    have hlk' : (Instr.lookup 86 (.map (some e)) (.string element) false).run Tryz.prog w = .ok (.map none) w := hlk
    have HS := Lib.hid (san_calls p e g u n s c A (.map none) (fun _ => false) gl element l w h1 h3 ⟨.inl ⟨rfl, fun _ => rfl⟩⟩ hrow hc hlen)
    have HE : Hid ((fun a : S82 => keeps el gl element a.f1) = fun a => (fun _ : ByteArray => false) a.f1 || gl a.f1) := Lib.hid (by funext a; simp [keeps, g2])
    have HI := Lib.hid (init_done p w hc0)
    clear hlk hrow h1 h2 h3 h4 g1 g2 hp
    go_enter Tryz.func37, Tryz.ntmps37
    go_wp2_with (first | (go_at_call 44; refine (HI.out).mono ?_; rintro e w' ⟨rfl, rfl⟩) | (go_at_call 48; refine (HS.out).mono ?_; rintro e w' ⟨A', c', rfl, hc', hC, hB⟩; have HC := Lib.hid hC; have HB := Lib.hid hB; have Hc := Lib.hid hc'; clear hC hB hc'))
    go_ret
    rw [HE.out]
    exact ⟨A', c', rfl, Hc.out, HC.out, HB.out⟩
  · have hlk := run_lookup_yes Tryz.underlying86 Tryz.underlying9 h2 element g1 false
    have hlk' : (Instr.lookup 86 (.map (some e)) (.string element) false).run Tryz.prog w = .ok (.map (some m)) w := hlk
    have HS := Lib.hid (san_calls p e g u n s c A (.map (some m)) f gl element l w h1 h3 g3 hrow hc hlen)
    have HE : Hid ((fun a : S82 => keeps el gl element a.f1) = fun a => f a.f1 || gl a.f1) := Lib.hid (by funext a; simp [keeps, g2])
    have HI := Lib.hid (init_done p w hc0)
    clear hlk hrow h1 h2 h3 h4 g1 g2 g3 hp
    go_enter Tryz.func37, Tryz.ntmps37
    go_wp2_with (first | (go_at_call 44; refine (HI.out).mono ?_; rintro e w' ⟨rfl, rfl⟩) | (go_at_call 48; refine (HS.out).mono ?_; rintro e w' ⟨A', c', rfl, hc', hC, hB⟩; have HC := Lib.hid hC; have HB := Lib.hid hB; have Hc := Lib.hid hc'; clear hC hB hc'))
    go_ret
    rw [HE.out]
    exact ⟨A', c', rfl, Hc.out, HC.out, HB.out⟩

namespace M
theorem attributes_f (xs : List S44) (hx : xs.length ≤ 1048576) : ∃ k, impl_attributes.f k xs = some (xs.map fun a => (⟨(⟨#[]⟩ : ByteArray), a.f0, a.f1⟩ : S82)) := by
  have main : ∀ (m j : Nat) (acc : List S82), j + m = xs.length → acc.length = j → impl_attributes.l0 (m + 1) acc xs (xs.length : Int) (j : Int) = some (acc ++ (xs.drop j).map fun a => (⟨(⟨#[]⟩ : ByteArray), a.f0, a.f1⟩ : S82)) := by
    intro m
    induction m with
    | zero =>
      intro j acc hj ha
      rw [impl_attributes.l0]
      rw [if_neg (by omega), List.drop_of_length_le (by omega)]
      simp
    | succ m ih =>
      intro j acc hj ha
      rw [impl_attributes.l0]
      rw [if_pos (by omega), if_pos (by omega), if_pos (by omega), if_pos (by omega), IntWalk.wrap64_in _ (by omega)]
      have h1 := ih (j + 1) (acc ++ [(⟨(⟨#[]⟩ : ByteArray), (rd_T44 xs j).f0, (rd_T44 xs j).f1⟩ : S82)]) (by omega) (by simp; omega)
      have h2 : rd_T44 xs j = xs[j]'(by omega) := by simp [rd_T44, List.getElem?_eq_getElem (show j < xs.length by omega)]
      have h3 : ((j : Int) + 1) = ((j + 1 : Nat) : Int) := rfl
      rw [h3, h1, List.drop_eq_getElem_cons (show j < xs.length by omega), h2, List.map_cons, List.append_assoc]
      rfl
  exact ⟨xs.length + 1, by simpa [impl_attributes.f] using main xs.length 0 [] (by omega) rfl⟩

theorem attrs_f (xs : List S82) (hx : xs.length ≤ 1048576) : ∃ k, impl_attrs.f k xs = some (xs.map fun a => (⟨a.f1, a.f2⟩ : S44)) := by
  have main : ∀ (m j : Nat) (acc : List S44), j + m = xs.length → acc.length = j → impl_attrs.l0 (m + 1) acc xs (xs.length : Int) (j : Int) = some (acc ++ (xs.drop j).map fun a => (⟨a.f1, a.f2⟩ : S44)) := by
    intro m
    induction m with
    | zero =>
      intro j acc hj ha
      rw [impl_attrs.l0]
      rw [if_neg (by omega), List.drop_of_length_le (by omega)]
      simp
    | succ m ih =>
      intro j acc hj ha
      rw [impl_attrs.l0]
      rw [if_pos (by omega), if_pos (by omega), if_pos (by omega), if_pos (by omega), IntWalk.wrap64_in _ (by omega)]
      have h1 := ih (j + 1) (acc ++ [(⟨(rd_T82 xs j).f1, (rd_T82 xs j).f2⟩ : S44)]) (by omega) (by simp; omega)
      have h2 : rd_T82 xs j = xs[j]'(by omega) := by simp [rd_T82, List.getElem?_eq_getElem (show j < xs.length by omega)]
      have h3 : ((j : Int) + 1) = ((j + 1 : Nat) : Int) := rfl
      rw [h3, h1, List.drop_eq_getElem_cons (show j < xs.length by omega), h2, List.map_cons, List.append_assoc]
      rfl
  exact ⟨xs.length + 1, by simpa [impl_attrs.f] using main xs.length 0 [] (by omega) rfl⟩
end M

set_option maxRecDepth 100000 in
set_option maxHeartbeats 1000000 in
theorem cleanAttrs_of (ok : Nat → Prop) (K : Nat) (el : El) (gl : ByteArray → Bool) (A B : Option Addr) (c cb n : Nat) (element : ByteArray) (xs : List S44) (w : World)
    (hp : Calls Tryz.prog 27 #[.int .i64 0, .slice A n c] w fun e w' => e = .returned (.pointer (some ⟨w.heap.size, 0, none⟩)) ∧ PolS ok K w' w.heap.size el gl ∧ Below w.heap.size w w')
    (hx : Kd.C k44 w B xs.length xs) (hxc : xs.length ≤ cb) (hxl : xs.length ≤ 1048576) :
    Calls Tryz.prog 22 #[.int .i64 0, .slice A n c, .string element, .slice B xs.length cb] w fun e w' => ∃ v, e = .returned v ∧
      Kd.R k44 44 w' w.heap.size (fun _ => True) v (xs.filter fun a => keeps el gl element a.f0) ∧ Below w.heap.size w w' := by
  have HP := Lib.hid hp
  have HX := Lib.hid hx
  have HXC := Lib.hid hxc
  have HXL := Lib.hid hxl
  clear hp hx hxc hxl
  obtain ⟨k1, hk1⟩ := attributes_f xs HXL.out
  have hfl : ∃ k, impl_attrs.f k ((xs.map fun a => (⟨(⟨#[]⟩ : ByteArray), a.f0, a.f1⟩ : S82)).filter fun a => keeps el gl element a.f1) = some (xs.filter fun a => keeps el gl element a.f0) := by
    obtain ⟨k, hk⟩ := attrs_f ((xs.map fun a => (⟨(⟨#[]⟩ : ByteArray), a.f0, a.f1⟩ : S82)).filter fun a => keeps el gl element a.f1) (Nat.le_trans (List.length_filter_le _ _) (by simpa using HXL.out))
    refine ⟨k, hk.trans (congrArg some ?_)⟩
    rw [List.filter_map, List.map_map]
    exact List.map_id' _
  have hle : (xs.map fun a => (⟨(⟨#[]⟩ : ByteArray), a.f0, a.f1⟩ : S82)).length ≤ 1048576 := by simpa using HXL.out
  obtain ⟨k2, hk2⟩ := hfl
  have HLE := Lib.hid hle
  have HK1 := Lib.hid hk1
  have HK2 := Lib.hid hk2
  clear hk1 hk2 hle
  generalize (xs.map fun a => (⟨(⟨#[]⟩ : ByteArray), a.f0, a.f1⟩ : S82)) = ys at *
  generalize (xs.filter fun a => keeps el gl element a.f0) = zs at *
  go_enter Tryz.func22, Tryz.ntmps22
  go_wp2_with (first | (go_at_call 27; refine (HP.out).mono ?_; rintro e w1 ⟨rfl, hpol, hB⟩; have HPO := Lib.hid hpol; have HB := Lib.hid hB; clear hpol hB) | (go_at_call 38; refine (impl_attributes.calls k1 B cb xs ys w1 (Kd.C_below HX.out HB.out) HXC.out HK1.out).mono ?_; rintro e w2 ⟨v2, rfl, hR, hB⟩; obtain ⟨A2, c2, rfl, hl2, hC2⟩ := Kd.R_reads hR; have HB2 := Lib.hid hB; have HC2 := Lib.hid hC2; have HL2 := Lib.hid hl2; clear hB hR hl2 hC2) | (go_at_call 37; refine (zzAttrs ok K w.heap.size c2 A2 el gl element ys w2 (HPO.out.move (fun k _ hlt => HB2.out.block k hlt)) HC2.out HL2.out HLE.out).mono ?_; rintro e w3 ⟨A3, c3, rfl, hl3, hC3, hB⟩; have HB3 := Lib.hid hB; have HC3 := Lib.hid hC3; have HL3 := Lib.hid hl3; clear hB hl3 hC3) | (go_at_call 36; refine (impl_attrs.calls k2 A3 c3 (ys.filter fun a => keeps el gl element a.f1) zs w3 HC3.out HL3.out HK2.out).mono ?_; rintro e w4 ⟨v4, rfl, hR, hB⟩; have HB4 := Lib.hid hB; have HR4 := Lib.hid hR; clear hB hR))
  go_ret
  have h12 := below_step HB.out HB2.out
  have h13 := below_step h12 HB3.out
  exact ⟨v4, rfl, Kd.R_lower HR4.out (below_size h13), below_step h13 HB4.out⟩

theorem cleanAttrs (A B : Option Addr) (c cb : Nat) (l : List S49) (element : ByteArray) (xs : List S44) (w : World) (hr : Kd.C k49 w A l.length l) (hf : ∀ x ∈ l, Fine x) (hlen : l.length ≤ 20)
    (hx : Kd.C k44 w B xs.length xs) (hxc : xs.length ≤ cb) (hxl : xs.length ≤ 1048576) :
    Calls Tryz.prog 22 #[.int .i64 0, .slice A l.length c, .string element, .slice B xs.length cb] w fun e w' => ∃ v, e = .returned v ∧
      Kd.R k44 44 w' w.heap.size (fun _ => True) v (xs.filter fun a => keeps (l.foldl applyEl (fun _ => none)) (l.foldl applyGl (fun _ => false)) element a.f0) ∧ Below w.heap.size w w' :=
  cleanAttrs_of _ _ _ _ A B c cb l.length element xs w (policy_calls A c l w hr hf hlen) hx hxc hxl
end Go.Proofs.YtlgacgiikmkfcaaGreatDoor
