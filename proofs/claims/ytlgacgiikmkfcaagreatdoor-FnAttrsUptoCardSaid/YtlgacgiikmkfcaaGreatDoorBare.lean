/- OnElements without attributes: elements that may be bare; and nothing at all. -/
import Derived.Test.YtlgacgiikmkfcaaGreatDoorGlob
namespace Go.Proofs.YtlgacgiikmkfcaaGreatDoor
open Go.RowKit M

set_option maxRecDepth 100000 in
set_option maxHeartbeats 4000000 in
theorem on_none (p q c2 : Nat) (A2 : Option Addr) (v : Value) (em : Bool) (w : World) (hq : Abp w q p v em) :
    Calls Tryz.prog 56 #[.pointer (some ⟨q, 0, none⟩), .slice A2 0 c2] w fun e w' => e = .returned (.pointer (some ⟨p, 0, none⟩)) ∧ w = w' := by
  have hq0 : w.cell? ⟨q, 0, none⟩ = some (.pointer (some ⟨p, 0, none⟩)) := by rw [hq.cell]; rfl
  clear hq
  go_enter Tryz.func56, Tryz.ntmps56
  go_wp2_with fail
  go_loop [16] (fun i => i = .int .i64 0) (fun _ => 0)
  case atStart => rfl
  case round =>
    obtain rfl := hrel
    go_wp2
    go_ret
    exact ⟨rfl, rfl⟩

set_option maxRecDepth 100000 in
set_option maxHeartbeats 4000000 in
theorem on_empty (p q c b2 o2 c2 : Nat) (A : Option Addr) (els : List ByteArray) (w : World)
    (hq : Abp w q p (.slice A 0 c) false)
    (hn2 : ∀ i x, els[i]? = some x → w.cell? ⟨b2, o2 + i, none⟩ = some (.string x)) (hl : ∀ x ∈ els, Low x ∧ x.size ≤ maxLen) (hlen2 : els.length ≤ 1048576) :
    Calls Tryz.prog 56 #[.pointer (some ⟨q, 0, none⟩), .slice (some ⟨b2, o2, none⟩) els.length c2] w fun e w' => e = .returned (.pointer (some ⟨p, 0, none⟩)) ∧ w = w' := by
  have HN2 := Lib.hid hn2
  have HL := Lib.hid hl
  have hq0 : w.cell? ⟨q, 0, none⟩ = some (.pointer (some ⟨p, 0, none⟩)) := by rw [hq.cell]; rfl
  have hq1 : w.cell? ⟨q, 1, none⟩ = some (.slice A 0 c) := by rw [hq.cell]; rfl
  have hq3 : w.cell? ⟨q, 3, none⟩ = some (.bool false) := by rw [hq.cell]; rfl
  clear hq hn2 hl
  go_enter Tryz.func56, Tryz.ntmps56
  go_wp2_with fail
  go_loop [16] (fun i => ∃ k : Nat, k ≤ els.length ∧ i = .int .i64 k) (fun i => els.length - (intOf i).toNat)
  case atStart => exact ⟨0, Nat.zero_le _, rfl⟩
  case round =>
    obtain ⟨k, hk, rfl⟩ := hrel
    by_cases hlt : k < els.length
    · have hcell := HN2.out k _ (List.getElem?_eq_getElem hlt)
      obtain ⟨hlow, hsz⟩ := HL.out _ (List.getElem_mem hlt)
      have HT := Lib.hid (toLower_low els[k] w hsz hlow)
      clear hlow hsz
      generalize hx : els[k] = x at *
      clear hx
      go_wp2_with (go_at_call 102; refine (HT.out).mono ?_; rintro e w' ⟨rfl, rfl⟩)
      go_loop [27] (fun i => i = .int .i64 0) (fun _ => 0)
      case atStart => rfl
      case round =>
        obtain rfl := hrel
        go_wp2
        go_round
        case rel => exact ⟨k + 1, by omega, by go_num⟩
        case measure => simp [intOf]; omega
    · go_wp2
      go_ret
      exact ⟨rfl, rfl⟩

set_option maxRecDepth 100000 in
set_option maxHeartbeats 4000000 in
theorem on_bare (ok : Nat → Prop) (K p q b2 o2 c2 : Nat) (el : El) (gl : ByteArray → Bool) (els : List ByteArray) (w : World) (hp : PolS ok K w p el gl)
    (hq : Abp w q p (.slice none 0 0) true) (hqo : ¬ ok q)
    (hb2 : ¬ ok b2) (hbl2 : b2 < w.heap.size) (hn2 : ∀ i x, els[i]? = some x → w.cell? ⟨b2, o2 + i, none⟩ = some (.string x)) (hl : ∀ x ∈ els, Low x ∧ x.size ≤ maxLen)
    (hlen2 : els.length ≤ 1048576) :
    Calls Tryz.prog 56 #[.pointer (some ⟨q, 0, none⟩), .slice (some ⟨b2, o2, none⟩) els.length c2] w fun e w' => e = .returned (.pointer (some ⟨p, 0, none⟩)) ∧
      PolS (fun i => ok i ∨ w.heap.size ≤ i) K w' p (els.foldl addEl el) gl ∧ Off ok w w' := by
  have HP := Lib.hid hp
  have HN2 := Lib.hid hn2
  have HB2 := Lib.hid hb2
  have HQ := Lib.hid hq
  have HQO := Lib.hid hqo
  have HL := Lib.hid hl
  have hqz := hq.lt
  have hmm := @run_makeMap Tryz.prog
  clear hp hq hqo hl hn2 hb2
  go_enter Tryz.func56, Tryz.ntmps56
  go_wp2_with fail
  go_loopw [16] (fun i wr => ∃ k : Nat, k ≤ els.length ∧ i = .int .i64 k ∧ Hid (PolS (fun i => ok i ∨ w.heap.size ≤ i) K wr p ((els.take k).foldl addEl el) gl) ∧ Hid (Off ok w wr)) (fun i _ => els.length - (intOf i).toNat)
  case atStart => exact ⟨0, Nat.zero_le _, rfl, Lib.hid (HP.out.mono (fun _ h => .inl h) (by omega)), Lib.hid (Off.refl _ _)⟩
  case round =>
    obtain ⟨k, hk, rfl, HPr, HO⟩ := hrel
    have hqr := HQ.out.off HO.out HQO.out
    have hq0 : wr.cell? ⟨q, 0, none⟩ = some (.pointer (some ⟨p, 0, none⟩)) := by rw [hqr.cell]; rfl
    have hq1 : wr.cell? ⟨q, 1, none⟩ = some (.slice none 0 0) := by rw [hqr.cell]; rfl
    have hq3 : wr.cell? ⟨q, 3, none⟩ = some (.bool true) := by rw [hqr.cell]; rfl
    by_cases hlt : k < els.length
    · have hcell : wr.cell? ⟨b2, o2 + k, none⟩ = some (.string els[k]) := by
        rw [World.cell?_of_block (HO.out.block b2 hbl2 HB2.out)]
        exact HN2.out k _ (List.getElem?_eq_getElem hlt)
      obtain ⟨hlow, hsz⟩ := HL.out _ (List.getElem_mem hlt)
      have HT := Lib.hid (toLower_low els[k] wr hsz hlow)
      have HF := Lib.hid (foldl_take_succ addEl els el k hlt)
      clear hlow hsz
      obtain ⟨e1, g1, u1, n1, s1, LE, L, hpa, hel, hgl⟩ := HPr.out.ex
      have HE := Lib.hid hel
      have HG := Lib.hid hgl
      have HPA := Lib.hid hpa
      have hc13 : wr.cell? ⟨p, 13, none⟩ = some (.map (some e1)) := by rw [pc hpa]; rfl
      have hc16 : wr.cell? ⟨p, 16, none⟩ = some (.map (some n1)) := by rw [pc hpa]; rfl
      obtain ⟨LN, hmn⟩ := hpa.mn
      have HMN := Lib.hid hmn
      have hqz1 := hqr.lt
      have hpz : p < wr.heap.size := (Array.getElem?_eq_some_iff.1 hpa.cell).1
      have HQR := Lib.hid hqr
      have HNQ := Lib.hid (ne_map_cells hmn hqr)
      have HNP := Lib.hid (ne_map_cells hmn hpa.cell)
      have hvals := hpa.vals
      clear hel hgl hpa hmn hqr
      generalize hx : els[k] = x at *
      clear hx
      go_wp2_with (go_at_call 102; refine (HT.out).mono ?_; rintro e w' ⟨rfl, rfl⟩)
      obtain ⟨wo, hwo⟩ : ∃ wo : World, wo = wr := ⟨_, rfl⟩
      clear hwo
      go_loop [27] (fun i => i = .int .i64 0) (fun _ => 0)
      case atStart => rfl
      case round =>
        obtain rfl := hrel
        clear hq1 hcell HT
        -- the map of bare elements is written
        go_upto_region 18 with (at_mapUpdate; refine wpList_update_raw _ rfl _ _ _ 88 rfl 9 122 Tryz.underlying88 Tryz.underlying9 n1 LN HMN.out rfl x rfl (.agg #[]) rfl ?_; intro wz hUz hgrz hszz; have HPZ := Lib.hid (HPA.out.setNo hUz hgrz); have hq0z : wz.cell? ⟨q, 0, none⟩ = some (.pointer (some ⟨p, 0, none⟩)) := (by rw [hgrz.cell_far _ hqz1 (fun e => HNQ.out (Option.some.inj e).symm)]; exact hq0); have hc13z : wz.cell? ⟨p, 13, none⟩ = some (.map (some e1)) := (by rw [pc HPZ.out]; rfl); have HSZ := Lib.hid hszz; clear hszz hq0 hq3 hc13 hc16)
        have HOz : Hid (Off ok w wz) := Lib.hid (HO.out.grown hgrz (fun j hj hlt' => by
              injection hj with hj
              subst hj
              rcases HPA.out.okn with h | h
              · exact h
              · omega))
        have hme := HPZ.out.me
        cases hg : mget LE x with
        | some v =>
          obtain ⟨m, rfl⟩ := hvals x v hg
          have hlk := look_yes hme x hg
          have HK := Lib.hid hg
          clear hg hme hvals hUz
          go_wp2_with fail
          go_roundw
          case rel =>
            refine ⟨k + 1, by omega, by go_num, Lib.hid ?_, HOz⟩
            rw [HF.out, ← HE.out, pol_there HK.out]
            exact ⟨e1, g1, u1, n1, s1, LE, L, HPZ.out, rfl, HG.out⟩
          case measure => simp [intOf]; omega
        | none =>
          have hlk := look_no hme x hg
          have HK := Lib.hid hg
          have HM := Lib.hid hme
          clear hg hme hvals hUz
          go_wp2_with (at_mapUpdate; refine wpList_update_raw _ rfl _ _ _ 86 rfl 9 84 Tryz.underlying86 Tryz.underlying9 e1 LE (HM.out.move (Below.heap_alloc _ _ _ HM.out.lt)) rfl x rfl (.map (some wz.heap.size)) rfl ?_; intro w2 hU hgr _; clear hq0z hc13z hlk)
          go_roundw
          case rel =>
            refine ⟨k + 1, by omega, by go_num, Lib.hid ?_, Lib.hid ?_⟩
            · rw [HF.out, ← HE.out, ← HG.out]
              exact (pol_new HPZ.out x HK.out hU hgr).mono (fun i hi => by
                have := HOz.out.size
                rcases hi with h | h
                · exact h
                · exact .inr (by omega)) (Nat.le_refl _)
            · exact (HOz.out.alloc _).grown hgr (fun j hj hlt' => by
                injection hj with hj
                subst hj
                rcases HPA.out.oke with h | h
                · exact h
                · omega)
          case measure => simp [intOf]; omega
    · clear hq1 hq3
      go_wp2
      go_ret
      obtain rfl : k = els.length := by omega
      rw [List.take_length] at HPr
      exact ⟨rfl, HPr.out, HO.out⟩
end Go.Proofs.YtlgacgiikmkfcaaGreatDoor
