/- Globally. -/
import Derived.Test.YtlgacgiikmkfcaaGreatDoorRow
namespace Go.Proofs.YtlgacgiikmkfcaaGreatDoor
open Go.RowKit M
theorem Abp.cell {w : World} {q p : Nat} {v : Value} {em : Bool} (h : Abp w q p v em) (i : Nat) : w.cell? ⟨q, i, none⟩ = (#[.pointer (some ⟨p, 0, none⟩), v, .int .u8 0, .bool em] : Array Value)[i]? := by
  unfold Abp at h
  simp [World.cell?, h]
theorem Abp.lt {w : World} {q p : Nat} {v : Value} {em : Bool} (h : Abp w q p v em) : q < w.heap.size := (Array.getElem?_eq_some_iff.1 h).1
theorem Abp.off {ok : Nat → Prop} {w w' : World} {q p : Nat} {v : Value} {em : Bool} (h : Abp w q p v em) (ho : Off ok w w') (hq : ¬ ok q) : Abp w' q p v em := by
  unfold Abp at h ⊢
  rw [ho.block q (Array.getElem?_eq_some_iff.1 h).1 hq]
  exact h
namespace M
/-- The row that an attribute has, or none. -/
theorem PolAt.old {ok : Nat → Prop} {K : Nat} {w : World} {p e g u n s : Nat} {LE : List (ByteArray × Value)} {L : Nat → List (ByteArray × Value)} (h : PolAt ok K w p e g u n s LE L)
    (m : Nat) (hm : m = g ∨ Inn LE m) (x : ByteArray) (v : Value) (hv : mget (L m) x = some v) : ∃ n0, n0 ≤ K ∧ w.ownsRow 0 119 1 v n0 (List.replicate n0 (.int .u8 0)) := by
  obtain ⟨n0, _, h1, h2⟩ := (h.rows m x v hm hv).1
  exact ⟨n0, h1, h2⟩
theorem ne_of_kind {w : World} {base n g t : Nat} {v : Value} {xs : List Value} {cells : Array Value} (ht : 119 ≠ t) (h : w.ownsRow base 119 1 v n xs) (hg : w.heap[g]? = some (.cells cells t (0, 0))) : v.ownBlock ≠ some g := by
  intro e
  rcases h.2 with ⟨rfl, _⟩ | ⟨b, cap, cur, rfl, _, hb, _⟩
  · simp [Value.ownBlock] at e
  · simp [Value.ownBlock] at e
    subst e
    rw [hb] at hg
    simp at hg
    exact ht hg.2
theorem ne_of_map {w : World} {base n g : Nat} {v : Value} {xs : List Value} {L : List (ByteArray × Value)} (h : w.ownsRow base 119 1 v n xs) (hg : MapIs w g L) : v.ownBlock ≠ some g := by
  intro e
  obtain ⟨es, clk, h1, _⟩ := hg
  rcases h.2 with ⟨rfl, _⟩ | ⟨b, cap, cur, rfl, _, hb, _⟩
  · simp [Value.ownBlock] at e
  · simp [Value.ownBlock] at e
    subst e
    rw [hb] at h1
    simp at h1
theorem ne_map_cells {w : World} {g q t : Nat} {L : List (ByteArray × Value)} {cells : Array Value} {f : Nat × Nat} (hg : MapIs w g L) (hq : w.heap[q]? = some (.cells cells t f)) : g ≠ q := by
  rintro rfl
  obtain ⟨es, clk, h1, _⟩ := hg
  rw [hq] at h1
  simp at h1
theorem heap_two (w : World) (o1 o2 : Obj) (k : Nat) (h : k < w.heap.size) : ((w.alloc o1).alloc o2).heap[k]? = w.heap[k]? := by
  rw [Below.heap_alloc _ _ _ (by simp; omega), Below.heap_alloc _ _ _ h]
theorem heap_second (w : World) (o1 o2 : Obj) : ((w.alloc o1).alloc o2).heap[w.heap.size + 1]? = some o2 := by
  have := heap_alloc_new (w.alloc o1) o2
  simpa using this
theorem own_empty {w : World} {base b : Nat} (h : w.heap[b]? = some (.cells #[] 119 (0, 0))) (hb : base ≤ b := by omega) : w.ownsRow base 119 1 (.slice (some ⟨b, 0, none⟩) 0 0) 0 (List.replicate 0 (.int .u8 0)) :=
  ⟨by simp, .inr ⟨b, 0, #[], rfl, hb, h, Nat.le_refl _, by unfold maxLen; omega, by simp, by simp⟩⟩
theorem cells_grown {w w' : World} {o : Obj} {g q : Nat} {ob : Obj} (h : w.heap[q]? = some ob) (hq : q < w.heap.size) (hg : (w.alloc o).grownBy w' (some g)) (hne : g ≠ q) : w'.heap[q]? = some ob := by
  rw [hg.block q (by simp; omega) (fun e => hne (Option.some.inj e).symm), Below.heap_alloc _ _ _ hq]
  exact h
theorem abp_grown {w w' : World} {o : Obj} {g q p : Nat} {v : Value} {em : Bool} (h : Abp w q p v em) (hq : q < w.heap.size) (hg : (w.alloc o).grownBy w' (some g)) (hne : g ≠ q) : Abp w' q p v em := cells_grown h hq hg hne
end M

set_option maxRecDepth 100000 in
set_option maxHeartbeats 4000000 in
theorem globally_some (ok : Nat → Prop) (K p q b o c : Nat) (el : El) (gl : ByteArray → Bool) (ns : List ByteArray) (em : Bool) (w : World) (hp : PolS ok K w p el gl)
    (hq : Abp w q p (.slice (some ⟨b, o, none⟩) ns.length c) em) (hqo : ¬ ok q) (hb : ¬ ok b) (hbl : b < w.heap.size) (hn : ∀ i x, ns[i]? = some x → w.cell? ⟨b, o + i, none⟩ = some (.string x)) (hlen : K + ns.length ≤ 1048576) :
    Calls Tryz.prog 60 #[.pointer (some ⟨q, 0, none⟩)] w fun e w' => e = .returned (.pointer (some ⟨p, 0, none⟩)) ∧
      PolS (fun i => ok i ∨ w.heap.size ≤ i) (K + ns.length) w' p el (ns.foldl addGl gl) ∧ Off ok w w' := by
  have HP := Lib.hid hp
  have HN := Lib.hid hn
  have HB := Lib.hid hb
  have HQ := Lib.hid hq
  have HQO := Lib.hid hqo
  have hqz := hq.lt
  have hq1 : w.cell? ⟨q, 1, none⟩ = some (.slice (some ⟨b, o, none⟩) ns.length c) := by rw [hq.cell]; rfl
  clear hp hn hb hq hqo
  obtain ⟨i0, hi0, hz0, hz1, hz2⟩ := info_parts info119
  go_enter Tryz.func60, Tryz.ntmps60
  go_wp2_with fail
  clear hq1
  go_loopw [13] (fun i wr => ∃ k : Nat, k ≤ ns.length ∧ i = .int .i64 k ∧ Hid (PolS (fun i => ok i ∨ w.heap.size ≤ i) (K + k) wr p el ((ns.take k).foldl addGl gl)) ∧ Hid (Off ok w wr)) (fun i _ => ns.length - (intOf i).toNat)
  case atStart => exact ⟨0, Nat.zero_le _, rfl, Lib.hid (HP.out.mono (fun _ h => .inl h) (Nat.le_refl _)), Lib.hid (Off.refl _ _)⟩
  case round =>
    obtain ⟨k, hk, rfl, HPr, HO⟩ := hrel
    by_cases hlt : k < ns.length
    · have hcell : wr.cell? ⟨b, o + k, none⟩ = some (.string ns[k]) := by
        rw [World.cell?_of_block (HO.out.block b hbl HB.out)]
        exact HN.out k _ (List.getElem?_eq_getElem hlt)
      have HF := Lib.hid (foldl_take_succ addGl ns gl k hlt)
      obtain ⟨e1, g1, u1, n1, s1, LE, L, hpa, hel, hgl⟩ := HPr.out.ex
      have HE := Lib.hid hel
      have HG := Lib.hid hgl
      have HPA := Lib.hid hpa
      have hqr := HQ.out.off HO.out HQO.out
      have hq0 : wr.cell? ⟨q, 0, none⟩ = some (.pointer (some ⟨p, 0, none⟩)) := by rw [hqr.cell]; rfl
      have hq2 : wr.cell? ⟨q, 2, none⟩ = some (.int .u8 0) := by rw [hqr.cell]; rfl
      have hc14 : wr.cell? ⟨p, 14, none⟩ = some (.map (some g1)) := by rw [pc hpa]; rfl
      have hqz1 := hqr.lt
      have hpz : p < wr.heap.size := (Array.getElem?_eq_some_iff.1 hpa.cell).1
      obtain ⟨hmg, _, _, _⟩ := hpa.mi g1 (.inl rfl)
      have hgz := hmg.lt
      have HQR := Lib.hid hqr
      clear hel hgl hqr
      generalize hx : ns[k] = x at *
      clear hx
      cases hg : mget (L g1) x with
      | some v0 =>
        obtain ⟨n0, hn0, hown⟩ := hpa.old g1 (.inl rfl) x v0 hg
        have hlk := lookA_yes hmg x hg true
        simp only [if_true] at hlk
        have HL := Lib.hid (fun (W : World) (hW : W.heap[g1]? = wr.heap[g1]?) => lookA_yes (hmg.move hW) x hg false)
        have HM := Lib.hid hmg
        have HOWN := Lib.hid hown
        have HK := Lib.hid hg
        clear hg hpa hmg hown
        have ne1 : v0.ownBlock ≠ some q := ne_of_kind (by omega) HOWN.out HQR.out
        have ne2 : v0.ownBlock ≠ some p := ne_of_kind (by omega) HOWN.out HPA.out.cell
        have ne3 : v0.ownBlock ≠ some wr.heap.size := fun e => by have := (HOWN.out.lt _ e).2; omega
        have ne4 : v0.ownBlock ≠ some g1 := ne_of_map HOWN.out HM.out
        have gq : g1 ≠ q := ne_map_cells HM.out HQR.out
        have gp : g1 ≠ p := ne_map_cells HM.out HPA.out.cell
        have NE := Lib.hid (And.intro ne1 (And.intro ne2 (And.intro ne3 (And.intro ne4 (And.intro gq gp)))))
        have HA := Lib.hid (fun o1 o2 => heap_two wr o1 o2 g1 hgz)
        have HN2 := Lib.hid (fun o1 o2 => heap_second wr o1 o2)
        have lk1 := fun (o1 : Obj) => HL.out (wr.alloc o1) (Below.heap_alloc _ _ _ hgz)
        have lk2 := fun (o1 : Obj) => HL.out (wr.alloc o1).drew (Below.heap_alloc _ _ _ hgz)
        have lk3 := fun (o1 o2 : Obj) => HL.out ((wr.alloc o1).alloc o2) (HA.out _ _)
        have lk4 := fun (o1 o2 : Obj) => HL.out ((wr.alloc o1).alloc o2).drew (HA.out _ _)
        simp only [Bool.false_eq_true, if_false] at lk1 lk2 lk3 lk4
        clear ne1 ne2 ne3 ne4 gq gp
        go_upto_region 10 with fail
        go_region_held3 (fun w' => w'.cell? ⟨q, 0, none⟩ = some (.pointer (some ⟨p, 0, none⟩)) ∧ w'.cell? ⟨p, 14, none⟩ = some (.map (some g1)) ∧ w'.cell? ⟨wr.heap.size, 0, none⟩ = some (.int .u8 0))
          (first
            | go_keep
            | (go_split_ands
               refine ⟨?_, ?_, ?_⟩
               · (rw [hgrow.cell_far _ (by simp; omega) (Ne.symm NE.out.1)]; assumption)
               · (rw [hgrow.cell_far _ (by simp; omega) (Ne.symm NE.out.2.1)]; assumption)
               · (rw [hgrow.cell_far _ (by simp <;> omega) (Ne.symm NE.out.2.2.1)]; assumption))
            | (go_split_ands
               refine ⟨?_, ?_, ?_⟩
               · (rw [hgr2.cell_far _ (Nat.lt_of_lt_of_le (by simp; omega) hgrow.size) (fun e => NE.out.2.2.2.2.1 (Option.some.inj e).symm)]; assumption)
               · (rw [hgr2.cell_far _ (Nat.lt_of_lt_of_le (by simp; omega) hgrow.size) (fun e => NE.out.2.2.2.2.2 (Option.some.inj e).symm)]; assumption)
               · (rw [hgr2.cell_far _ (Nat.lt_of_lt_of_le (by simp <;> omega) hgrow.size) (fun e => by simp at e; omega)]; assumption)))
          ((refine step_append_lies _ (by rfl) _ _ _ (by rfl) 0 119 i0 _ 1 1 Tryz.underlying116 hi0 hz0 hz1 hz2 rfl (by omega) v0 n0 _ (by rfl) (((HOWN.out.alloc _).alloc _).drew)
                ⟨wr.heap.size + 1, 0, none⟩ 1 1 [.int .u8 0] (by rfl) (by rfl) (World.news_of_block (cs := #[.int .u8 0]) (t := 119) (fr := (0, 0)) (HN2.out _ _)) (by simp [Value.oneCell'])
                (by omega) (by unfold maxLen; omega) (by omega) (by omega) (wr.heap.size + 2) (by simp) ?_; intro gg cap w1 hown1 hgrow hat hlt1; have hM1 := HM.out.move ((hgrow.block g1 (by simp; omega) (Ne.symm NE.out.2.2.2.1)).trans (HA.out _ _)); obtain ⟨w2, hrun2, hU, hgr2, hsz2⟩ := run_update Tryz.underlying84 Tryz.underlying9 hM1 x (.slice (some ⟨gg, 0, none⟩) (n0 + 1) cap)))
        all_goals
          go_wp2
          go_roundw
          case rel =>
            refine ⟨k + 1, by omega, by go_num, Lib.hid ⟨e1, g1, u1, n1, s1, LE, _, (pol_row HPA.out g1 (.inl rfl) x v0 n0 gg cap (W0 := wr.alloc (.cells #[.int .u8 0] 119)) (fun j hj _ => Below.heap_alloc _ _ _ hj) (by simp) (.inl HK.out)
              (((Below.refl _ _).alloc (Nat.le_refl _) _).drew) hgrow hn0 hown1 (hat.imp id (fun h => by omega)) ⟨_, hM1⟩ hU hgr2).mono (fun i hi => ?_) (by omega), ?_, ?_⟩, Lib.hid ?_⟩
            · have := HO.out.size
              rcases hi with h | h
              · exact h
              · exact .inr (by omega)
            · rw [elOf_putG HPA.out.ig]; exact HE.out
            · rw [glOf_put, HF.out, HG.out]
            · refine (((HO.out.alloc _).alloc _).drew.grown hgrow (fun j hj hlt' => ?_)).grown hgr2 (fun j hj hlt' => ?_)
              · rcases (HPA.out.rows g1 x v0 (.inl rfl) HK.out).2 j hj with h | h
                · exact h
                · omega
              · injection hj with hj
                subst hj
                rcases (HPA.out.mi _ (.inl rfl)).2.1 with h | h
                · exact h
                · omega
          case measure => simp [intOf]; omega
      | none =>
        have hlk := lookA_no hmg x hg true
        simp only [if_true] at hlk
        have HM := Lib.hid hmg
        have HK := Lib.hid hg
        have gq0 : g1 ≠ q := ne_map_cells HM.out HQR.out
        have gp0 : g1 ≠ p := ne_map_cells HM.out HPA.out.cell
        have HGQ := Lib.hid gq0
        have HGP := Lib.hid gp0
        clear hg hpa hmg gq0 gp0
        go_upto_region 10 with (at_mapUpdate; refine wpList_update_raw _ rfl _ _ _ 84 rfl 9 116 Tryz.underlying84 Tryz.underlying9 g1 (L g1) (HM.out.move (Below.heap_alloc _ _ _ hgz)) rfl x rfl (.slice (some ⟨wr.heap.size, 0, none⟩) 0 0) rfl ?_; intro wz hUz hgrz hszz; have HSZ := Lib.hid hszz; have hqz2 : q < wz.heap.size := (by rw [hszz]; simp; omega); have hpz2 : p < wz.heap.size := (by rw [hszz]; simp; omega); clear hszz hlk; have HQRz := Lib.hid (abp_grown HQR.out hqz1 hgrz HGQ.out); have HPCz := Lib.hid (cells_grown HPA.out.cell hpz hgrz HGP.out); have hq0z : wz.cell? ⟨q, 0, none⟩ = some (.pointer (some ⟨p, 0, none⟩)) := (by rw [HQRz.out.cell]; rfl); have hq2z : wz.cell? ⟨q, 2, none⟩ = some (.int .u8 0) := (by rw [HQRz.out.cell]; rfl); have hc14z : wz.cell? ⟨p, 14, none⟩ = some (.map (some g1)) := (by simp [World.cell?, HPCz.out, pcells]); clear hq0 hq2 hc14 hcell)
        have hszz : wz.heap.size = wr.heap.size + 1 := HSZ.out.trans (by simp)
        have hgzz : g1 < wz.heap.size := by omega
        have HOWN := Lib.hid (own_empty (w := wz) (base := 0) (b := wr.heap.size) ((hgrz.block wr.heap.size (by simp) (fun e => by simp at e; omega)).trans (heap_alloc_new wr _)))
        have hnew0 : wr.heap.size < wz.heap.size := by omega
        have HSZ2 := Lib.hid hszz
        have HMz := Lib.hid hUz
        have HLz := Lib.hid (fun (W : World) (hW : W.heap[g1]? = wz.heap[g1]?) => lookA_yes (hUz.move hW) x (by rw [mget_mput, if_pos rfl]) false)
        clear hUz hszz
        have ne1 : (Value.slice (some ⟨wr.heap.size, 0, none⟩) 0 0).ownBlock ≠ some q := ne_of_kind (by omega) HOWN.out HQRz.out
        have ne2 : (Value.slice (some ⟨wr.heap.size, 0, none⟩) 0 0).ownBlock ≠ some p := ne_of_kind (by omega) HOWN.out HPCz.out
        have ne3 : (Value.slice (some ⟨wr.heap.size, 0, none⟩) 0 0).ownBlock ≠ some wz.heap.size := fun e => by have := (HOWN.out.lt _ e).2; omega
        have ne4 : (Value.slice (some ⟨wr.heap.size, 0, none⟩) 0 0).ownBlock ≠ some g1 := ne_of_map HOWN.out HMz.out
        have gq : g1 ≠ q := ne_map_cells HMz.out HQRz.out
        have gp : g1 ≠ p := ne_map_cells HMz.out HPCz.out
        have NE := Lib.hid (And.intro ne1 (And.intro ne2 (And.intro ne3 (And.intro ne4 (And.intro gq gp)))))
        have HA := Lib.hid (fun o1 o2 => heap_two wz o1 o2 g1 hgzz)
        have HN2 := Lib.hid (fun o1 o2 => heap_second wz o1 o2)
        have lk1 := fun (o1 : Obj) => HLz.out (wz.alloc o1) (Below.heap_alloc _ _ _ hgzz)
        have lk2 := fun (o1 : Obj) => HLz.out (wz.alloc o1).drew (Below.heap_alloc _ _ _ hgzz)
        have lk3 := fun (o1 o2 : Obj) => HLz.out ((wz.alloc o1).alloc o2) (HA.out _ _)
        have lk4 := fun (o1 o2 : Obj) => HLz.out ((wz.alloc o1).alloc o2).drew (HA.out _ _)
        simp only [Bool.false_eq_true, if_false] at lk1 lk2 lk3 lk4
        clear ne1 ne2 ne3 ne4 gq gp
        go_region_held3 (fun w' => w'.cell? ⟨q, 0, none⟩ = some (.pointer (some ⟨p, 0, none⟩)) ∧ w'.cell? ⟨p, 14, none⟩ = some (.map (some g1)) ∧ w'.cell? ⟨wz.heap.size, 0, none⟩ = some (.int .u8 0))
          (first
            | go_keep
            | (go_split_ands
               refine ⟨?_, ?_, ?_⟩
               · (rw [hgrow.cell_far _ (by simp; omega) (Ne.symm NE.out.1)]; assumption)
               · (rw [hgrow.cell_far _ (by simp; omega) (Ne.symm NE.out.2.1)]; assumption)
               · (rw [hgrow.cell_far _ (by simp <;> omega) (Ne.symm NE.out.2.2.1)]; assumption))
            | (go_split_ands
               refine ⟨?_, ?_, ?_⟩
               · (rw [hgr2.cell_far _ (Nat.lt_of_lt_of_le (by simp; omega) hgrow.size) (fun e => NE.out.2.2.2.2.1 (Option.some.inj e).symm)]; assumption)
               · (rw [hgr2.cell_far _ (Nat.lt_of_lt_of_le (by simp; omega) hgrow.size) (fun e => NE.out.2.2.2.2.2 (Option.some.inj e).symm)]; assumption)
               · (rw [hgr2.cell_far _ (Nat.lt_of_lt_of_le (by simp <;> omega) hgrow.size) (fun e => by simp at e; omega)]; assumption)))
          ((refine step_append_lies _ (by rfl) _ _ _ (by rfl) 0 119 i0 _ 1 1 Tryz.underlying116 hi0 hz0 hz1 hz2 rfl (by omega) (.slice (some ⟨wr.heap.size, 0, none⟩) 0 0) 0 _ (by rfl) (((HOWN.out.alloc _).alloc _).drew)
                ⟨wz.heap.size + 1, 0, none⟩ 1 1 [.int .u8 0] (by rfl) (by rfl) (World.news_of_block (cs := #[.int .u8 0]) (t := 119) (fr := (0, 0)) (HN2.out _ _)) (by simp [Value.oneCell'])
                (by omega) (by unfold maxLen; omega) (by omega) (by omega) (wz.heap.size + 2) (by simp) ?_; intro gg cap w1 hown1 hgrow hat hlt1; have hM1 := HMz.out.move ((hgrow.block g1 (by simp; omega) (Ne.symm NE.out.2.2.2.1)).trans (HA.out _ _)); obtain ⟨w2, hrun2, hU, hgr2, hsz2⟩ := run_update Tryz.underlying84 Tryz.underlying9 hM1 x (.slice (some ⟨gg, 0, none⟩) (0 + 1) cap)))
        all_goals
          go_wp2
          go_roundw
          case rel =>
            refine ⟨k + 1, by omega, by go_num, Lib.hid ⟨e1, g1, u1, n1, s1, LE, _, (pol_row HPA.out g1 (.inl rfl) x (.slice (some ⟨wr.heap.size, 0, none⟩) 0 0) 0 gg cap (W0 := wz.alloc (.cells #[.int .u8 0] 119)) (fun j hj hne => (Below.heap_alloc _ _ _ (by have := HSZ2.out; omega)).trans ((hgrz.block j (by simp; omega) (fun e => hne (Option.some.inj e))).trans (Below.heap_alloc _ _ _ hj))) (by have := HSZ2.out; simp; omega) (.inr (fun b' hb' => by simp [Value.ownBlock] at hb'; omega))
              (((Below.refl _ _).alloc (Nat.le_refl _) _).drew) hgrow (Nat.zero_le _) hown1 (hat.imp id (fun h => by have := HSZ2.out; omega)) ⟨_, hM1⟩ (by rw [mput_mput] at hU; exact hU) hgr2).mono (fun i hi => ?_) (by omega), ?_, ?_⟩, Lib.hid ?_⟩
            · have := HO.out.size
              rcases hi with h | h
              · exact h
              · exact .inr (by omega)
            · rw [elOf_putG HPA.out.ig]; exact HE.out
            · rw [glOf_put, HF.out, HG.out]
            · refine (((((HO.out.alloc _).grown hgrz ?_).alloc _).alloc _).drew.grown hgrow (fun j hj hlt' => ?_)).grown hgr2 ?_
              · intro j hj hlt'
                injection hj with hj
                subst hj
                rcases (HPA.out.mi _ (.inl rfl)).2.1 with h | h
                · exact h
                · omega
              · have := HO.out.size
                simp [Value.ownBlock] at hj
                omega
              · intro j hj hlt'
                injection hj with hj
                subst hj
                rcases (HPA.out.mi _ (.inl rfl)).2.1 with h | h
                · exact h
                · omega
          case measure => simp [intOf]; omega
    · have hqr := HQ.out.off HO.out HQO.out
      have hq0 : wr.cell? ⟨q, 0, none⟩ = some (.pointer (some ⟨p, 0, none⟩)) := by rw [hqr.cell]; rfl
      clear hqr
      go_wp2
      go_ret
      obtain rfl : k = ns.length := by omega
      rw [List.take_length] at HPr
      exact ⟨rfl, HPr.out, HO.out⟩

set_option maxRecDepth 100000 in
set_option maxHeartbeats 4000000 in
theorem globally_none (p q c : Nat) (A : Option Addr) (em : Bool) (w : World) (hq : Abp w q p (.slice A 0 c) em) :
    Calls Tryz.prog 60 #[.pointer (some ⟨q, 0, none⟩)] w fun e w' => e = .returned (.pointer (some ⟨p, 0, none⟩)) ∧ w = w' := by
  have hq1 : w.cell? ⟨q, 1, none⟩ = some (.slice A 0 c) := by rw [hq.cell]; rfl
  have hq0 : w.cell? ⟨q, 0, none⟩ = some (.pointer (some ⟨p, 0, none⟩)) := by rw [hq.cell]; rfl
  clear hq
  go_enter Tryz.func60, Tryz.ntmps60
  go_wp2_with fail
  go_loop [13] (fun i => i = .int .i64 0) (fun _ => 0)
  case atStart => rfl
  case round =>
    obtain rfl := hrel
    go_wp2
    go_ret
    exact ⟨rfl, rfl⟩

namespace M
theorem names_of_own {ok : Nat → Prop} {w : World} {base : Nat} {v : Value} {ns : List ByteArray} (h : w.ownsRow base 9 1 v ns.length (ns.map Value.string)) (hb : ∀ b, v.ownBlock = some b → ¬ ok b) : ∃ A c, v = .slice A ns.length c ∧ Names ok w A ns := by
  rcases h.2 with ⟨rfl, h0⟩ | ⟨g, cap, cur, rfl, _, hg, h1, _, h2, h3⟩
  · exact ⟨none, 0, by rw [h0], ⟨.inl (List.length_eq_zero_iff.1 h0)⟩⟩
  · refine ⟨_, cap, rfl, ⟨.inr ⟨g, 0, rfl, hb g rfl, (Array.getElem?_eq_some_iff.1 hg).1, fun i x hx => ?_⟩⟩⟩
    have hi : i < ns.length := (List.getElem?_eq_some_iff.1 hx).1
    have h4 : (cur.toList.take (ns.length * 1))[i]? = some (.string x) := by rw [h3]; simp [hx]
    rw [List.getElem?_take, if_pos (by omega)] at h4
    simp only [World.cell?, hg, Nat.zero_add]
    simpa using h4
end M

theorem globally (ok : Nat → Prop) (K p q : Nat) (el : El) (gl : ByteArray → Bool) (ns : List ByteArray) (v : Value) (em : Bool) (w : World) (hp : PolS ok K w p el gl)
    (hq : Abp w q p v em) (hqo : ¬ ok q) (base : Nat) (hv : w.ownsRow base 9 1 v ns.length (ns.map Value.string)) (hvo : ∀ b, v.ownBlock = some b → ¬ ok b) (hlen : K + ns.length ≤ 1048576) :
    Calls Tryz.prog 60 #[.pointer (some ⟨q, 0, none⟩)] w fun e w' => e = .returned (.pointer (some ⟨p, 0, none⟩)) ∧
      PolS (fun i => ok i ∨ w.heap.size ≤ i) (K + ns.length) w' p el (ns.foldl addGl gl) ∧ Off ok w w' := by
  obtain ⟨A, c, rfl, hn⟩ := names_of_own hv hvo
  rcases hn.ex with rfl | ⟨b, o, rfl, h1, h2, h3⟩
  · refine (globally_none p q c A em w hq).mono ?_
    rintro e w' ⟨rfl, rfl⟩
    exact ⟨rfl, hp.mono (fun _ h => .inl h) (by simp), Off.refl _ _⟩
  · exact globally_some ok K p q b o c el gl ns em w hp hq hqo h1 h2 h3 hlen
end Go.Proofs.YtlgacgiikmkfcaaGreatDoor
