/- OnElements: a list of attributes on a list of elements. (Printed by gen_on.py of this session: three cases of one round.) -/
import Derived.Test.YtlgacgiikmkfcaaGreatDoorGlob
namespace Go.Proofs.YtlgacgiikmkfcaaGreatDoor
open Go.RowKit M

set_option maxRecDepth 100000 in
set_option maxHeartbeats 16000000 in
theorem on_attrs (ok : Nat → Prop) (K p q b o c b2 o2 c2 : Nat) (el : El) (gl : ByteArray → Bool) (ns els : List ByteArray) (w : World) (hp : PolS ok K w p el gl)
    (hq : Abp w q p (.slice (some ⟨b, o, none⟩) ns.length c) false) (hqo : ¬ ok q) (hb : ¬ ok b) (hbl : b < w.heap.size) (hn : ∀ i x, ns[i]? = some x → w.cell? ⟨b, o + i, none⟩ = some (.string x))
    (hb2 : ¬ ok b2) (hbl2 : b2 < w.heap.size) (hn2 : ∀ i x, els[i]? = some x → w.cell? ⟨b2, o2 + i, none⟩ = some (.string x)) (hl : ∀ x ∈ els, Low x ∧ x.size ≤ maxLen)
    (hlen : ns.length ≤ 1048576) (hlen2 : els.length ≤ 1048576) (hK : K + els.length * ns.length ≤ 1048576) :
    Calls Tryz.prog 56 #[.pointer (some ⟨q, 0, none⟩), .slice (some ⟨b2, o2, none⟩) els.length c2] w fun e w' => e = .returned (.pointer (some ⟨p, 0, none⟩)) ∧
      PolS (fun i => ok i ∨ w.heap.size ≤ i) (K + els.length * ns.length) w' p (els.foldl (fun el x => ns.foldl (fun el a => addAt el x a) el) el) gl ∧ Off ok w w' := by
  have HP := Lib.hid hp
  have HN := Lib.hid hn
  have HB := Lib.hid hb
  have HN2 := Lib.hid hn2
  have HB2 := Lib.hid hb2
  have HQ := Lib.hid hq
  have HQO := Lib.hid hqo
  have HL := Lib.hid hl
  have HKK := Lib.hid hK
  have hqz := hq.lt
  have hmm := @run_makeMap Tryz.prog
  clear hp hn hb hq hqo hl hn2 hb2 hK
  obtain ⟨i0, hi0, hz0, hz1, hz2⟩ := info_parts info119
  go_enter Tryz.func56, Tryz.ntmps56
  go_wp2_with fail
  go_loopw [16] (fun i wr => ∃ k : Nat, k ≤ els.length ∧ i = .int .i64 k ∧ Hid (PolS (fun i => ok i ∨ w.heap.size ≤ i) (K + k * ns.length) wr p ((els.take k).foldl (fun el x => ns.foldl (fun el a => addAt el x a) el) el) gl) ∧ Hid (Off ok w wr)) (fun i _ => els.length - (intOf i).toNat)
  case atStart => exact ⟨0, Nat.zero_le _, rfl, Lib.hid (HP.out.mono (fun _ h => .inl h) (by omega)), Lib.hid (Off.refl _ _)⟩
  case round =>
    obtain ⟨k, hk, rfl, HPr, HO⟩ := hrel
    have hqr := HQ.out.off HO.out HQO.out
    have hq0 : wr.cell? ⟨q, 0, none⟩ = some (.pointer (some ⟨p, 0, none⟩)) := by rw [hqr.cell]; rfl
    have hq1 : wr.cell? ⟨q, 1, none⟩ = some (.slice (some ⟨b, o, none⟩) ns.length c) := by rw [hqr.cell]; rfl
    clear hqr
    by_cases hlt : k < els.length
    · have hcell : wr.cell? ⟨b2, o2 + k, none⟩ = some (.string els[k]) := by
        rw [World.cell?_of_block (HO.out.block b2 hbl2 HB2.out)]
        exact HN2.out k _ (List.getElem?_eq_getElem hlt)
      obtain ⟨hlow, hsz⟩ := HL.out _ (List.getElem_mem hlt)
      have HT := Lib.hid (toLower_low els[k] wr hsz hlow)
      have HF := Lib.hid (foldl_take_succ (fun el x => ns.foldl (fun el a => addAt el x a) el) els el k hlt)
      have hkb : K + k * ns.length + ns.length ≤ 1048576 := by
        have h1 := HKK.out
        have h2 : (k + 1) * ns.length ≤ els.length * ns.length := Nat.mul_le_mul_right _ (by omega)
        rw [Nat.add_mul] at h2
        omega
      have HKB := Lib.hid hkb
      clear hlow hsz hkb
      generalize hx : els[k] = x at *
      clear hx
      have HFA := Lib.hid (show (List.foldl (fun el x => ns.foldl (fun el a => addAt el x a) el) el (List.take (k + 1) els)) = ns.foldl (fun el a => addAt el x a) (List.foldl (fun el x => ns.foldl (fun el a => addAt el x a) el) el (List.take k els)) from HF.out)
      clear HF
      generalize hek : List.foldl (fun el x => ns.foldl (fun el a => addAt el x a) el) el (List.take k els) = elk at *
      clear hek
      generalize hkk : K + k * ns.length = K1 at *
      have HK1 := Lib.hid hkk
      clear hkk
      go_wp2_with (go_at_call 102; refine (HT.out).mono ?_; rintro e w' ⟨rfl, rfl⟩)
      clear hq0 hq1 hcell
      obtain ⟨wo, hwo⟩ : ∃ wo : World, wo = wr := ⟨_, rfl⟩
      clear hwo
      go_loopw [27] (fun i wi => ∃ j : Nat, j ≤ ns.length ∧ i = .int .i64 j ∧ Hid (PolS (fun i => ok i ∨ w.heap.size ≤ i) (K1 + j) wi p ((ns.take j).foldl (fun el a => addAt el x a) elk) gl) ∧ Hid (Off ok w wi)) (fun i _ => ns.length - (intOf i).toNat)
      case atStart => exact ⟨0, Nat.zero_le _, rfl, Lib.hid HPr.out, HO⟩
      case round =>
        clear HPr HO HT
        obtain ⟨j, hj, rfl, HPr, HO⟩ := hrel
        have hqr := HQ.out.off HO.out HQO.out
        have hq0 : wr.cell? ⟨q, 0, none⟩ = some (.pointer (some ⟨p, 0, none⟩)) := by rw [hqr.cell]; rfl
        have hq2 : wr.cell? ⟨q, 2, none⟩ = some (.int .u8 0) := by rw [hqr.cell]; rfl
        have hq3 : wr.cell? ⟨q, 3, none⟩ = some (.bool false) := by rw [hqr.cell]; rfl
        by_cases hlt2 : j < ns.length
        · have hcell : wr.cell? ⟨b, o + j, none⟩ = some (.string ns[j]) := by
            rw [World.cell?_of_block (HO.out.block b hbl HB.out)]
            exact HN.out j _ (List.getElem?_eq_getElem hlt2)
          have HF := Lib.hid (foldl_take_succ (fun el a => addAt el x a) ns elk j hlt2)
          obtain ⟨e1, g1, u1, n1, s1, LE, L, hpa, hel, hgl⟩ := HPr.out.ex
          have HE := Lib.hid hel
          have HG := Lib.hid hgl
          have HPA := Lib.hid hpa
          have hc13 : wr.cell? ⟨p, 13, none⟩ = some (.map (some e1)) := by rw [pc hpa]; rfl
          have hqz1 := hqr.lt
          have hpz : p < wr.heap.size := (Array.getElem?_eq_some_iff.1 hpa.cell).1
          have hme := hpa.me
          have hez := hme.lt
          have HQR := Lib.hid hqr
          clear hel hgl hqr hq3
          generalize hx : ns[j] = a at *
          clear hx
          cases hg : mget LE x with
          | some vm =>
            obtain ⟨m, rfl⟩ := hpa.vals x vm hg
            obtain ⟨hmg, _, _, _⟩ := hpa.mi m (.inr ⟨x, hg⟩)
            have hgz := hmg.lt
            have hlk := lookE_yes hme x hg true
            simp only [if_true] at hlk
            have HLE := Lib.hid (fun (W : World) (hW : W.heap[e1]? = wr.heap[e1]?) => lookE_yes (hme.move hW) x hg false)
            have HK := Lib.hid hg
            have HME := Lib.hid hme
            have HEM := Lib.hid (hpa.mi m (.inr ⟨x, hg⟩)).2.2.1
            cases ha : mget (L m) a with
            | some v0 =>
              obtain ⟨n0, hn0, hown⟩ := hpa.old m (.inr ⟨x, hg⟩) a v0 ha
              have HLA := Lib.hid (fun (W : World) (hW : W.heap[m]? = wr.heap[m]?) => lookA_yes (hmg.move hW) a ha false)
              have HM := Lib.hid hmg
              have HOWN := Lib.hid hown
              have HV := Lib.hid ha
              clear hg hpa hmg hown hme ha
              have hn0' : K1 + j + 1 ≤ 1048576 := by have := HKB.out; omega
              have ne1 : v0.ownBlock ≠ some q := ne_of_kind (by omega) HOWN.out HQR.out
              have ne2 : v0.ownBlock ≠ some p := ne_of_kind (by omega) HOWN.out HPA.out.cell
              have ne3 : v0.ownBlock ≠ some wr.heap.size := fun e => by have := (HOWN.out.lt _ e).2; omega
              have ne4 : v0.ownBlock ≠ some m := ne_of_map HOWN.out HM.out
              have ne5 : v0.ownBlock ≠ some e1 := ne_of_map HOWN.out HME.out
              have gq : m ≠ q := ne_map_cells HM.out HQR.out
              have gp : m ≠ p := ne_map_cells HM.out HPA.out.cell
              have NE := Lib.hid (And.intro ne1 (And.intro ne2 (And.intro ne3 (And.intro ne4 (And.intro ne5 (And.intro gq gp))))))
              have HA := Lib.hid (fun o1 o2 => heap_two wr o1 o2 m hgz)
              have HAE := Lib.hid (fun o1 o2 => heap_two wr o1 o2 e1 hez)
              have HN2' := Lib.hid (fun o1 o2 => heap_second wr o1 o2)
              have lk1 := fun (o1 : Obj) => HLA.out (wr.alloc o1) (Below.heap_alloc _ _ _ hgz)
              have lk2 := fun (o1 : Obj) => HLA.out (wr.alloc o1).drew (Below.heap_alloc _ _ _ hgz)
              have lk3 := fun (o1 o2 : Obj) => HLA.out ((wr.alloc o1).alloc o2) (HA.out _ _)
              have lk4 := fun (o1 o2 : Obj) => HLA.out ((wr.alloc o1).alloc o2).drew (HA.out _ _)
              have le1 := fun (o1 : Obj) => HLE.out (wr.alloc o1) (Below.heap_alloc _ _ _ hez)
              have le2 := fun (o1 : Obj) => HLE.out (wr.alloc o1).drew (Below.heap_alloc _ _ _ hez)
              have le3 := fun (o1 o2 : Obj) => HLE.out ((wr.alloc o1).alloc o2) (HAE.out _ _)
              have le4 := fun (o1 o2 : Obj) => HLE.out ((wr.alloc o1).alloc o2).drew (HAE.out _ _)
              simp only [Bool.false_eq_true, if_false] at lk1 lk2 lk3 lk4 le1 le2 le3 le4
              clear ne1 ne2 ne3 ne4 ne5 gq gp
              go_upto_region 14 with fail
              go_region_held3 (fun w' => w'.cell? ⟨q, 0, none⟩ = some (.pointer (some ⟨p, 0, none⟩)) ∧ w'.cell? ⟨p, 13, none⟩ = some (.map (some e1)) ∧ w'.cell? ⟨wr.heap.size, 0, none⟩ = some (.int .u8 0))
                (first
                  | go_keep
                  | (go_split_ands
                     refine ⟨?_, ?_, ?_⟩
                     · (rw [hgrow.cell_far _ (by simp <;> omega) (Ne.symm NE.out.1)]; assumption)
                     · (rw [hgrow.cell_far _ (by simp <;> omega) (Ne.symm NE.out.2.1)]; assumption)
                     · (rw [hgrow.cell_far _ (by simp <;> omega) (Ne.symm NE.out.2.2.1)]; assumption))
                  | (go_split_ands
                     refine ⟨?_, ?_, ?_⟩
                     · (rw [hgr2.cell_far _ (Nat.lt_of_lt_of_le (by simp <;> omega) hgrow.size) (fun e => NE.out.2.2.2.2.2.1 (Option.some.inj e).symm)]; assumption)
                     · (rw [hgr2.cell_far _ (Nat.lt_of_lt_of_le (by simp <;> omega) hgrow.size) (fun e => NE.out.2.2.2.2.2.2 (Option.some.inj e).symm)]; assumption)
                     · (rw [hgr2.cell_far _ (Nat.lt_of_lt_of_le (by simp <;> omega) hgrow.size) (fun e => by simp at e; omega)]; assumption)))
                ((refine step_append_lies _ (by rfl) _ _ _ (by rfl) 0 119 i0 _ 1 1 Tryz.underlying116 hi0 hz0 hz1 hz2 rfl (by omega) v0 n0 _ (by rfl) (((HOWN.out.alloc _).alloc _).drew)
                    ⟨wr.heap.size + 1, 0, none⟩ 1 1 [.int .u8 0] (by rfl) (by rfl) (World.news_of_block (cs := #[.int .u8 0]) (t := 119) (fr := (0, 0)) (HN2'.out _ _)) (by simp [Value.oneCell'])
                    (by omega) (by unfold maxLen; omega) (by omega) (by omega) (wr.heap.size + 2) (by simp) ?_; intro gg cap w1 hown1 hgrow hat hlt1; have hM1 := HM.out.move ((hgrow.block m (by simp; omega) (Ne.symm NE.out.2.2.2.1)).trans (HA.out _ _)); have lkw := HLE.out w1 ((hgrow.block e1 (by simp; omega) (Ne.symm NE.out.2.2.2.2.1)).trans (HAE.out _ _)); simp only [Bool.false_eq_true, if_false] at lkw; obtain ⟨w2, hrun2, hU, hgr2, hsz2⟩ := run_update Tryz.underlying84 Tryz.underlying9 hM1 a (.slice (some ⟨gg, 0, none⟩) (n0 + 1) cap)))
              all_goals
                go_wp2
                go_roundw
                case rel =>
                  refine ⟨j + 1, by omega, by go_num, Lib.hid ⟨e1, g1, u1, n1, s1, LE, _, (pol_row HPA.out m (.inr ⟨x, HK.out⟩) a v0 n0 gg cap (W0 := wr.alloc (.cells #[.int .u8 0] 119)) (fun i hi _ => Below.heap_alloc _ _ _ hi) (by simp) (.inl HV.out)
                    (((Below.refl _ _).alloc (Nat.le_refl _) _).drew) hgrow hn0 hown1 (hat.imp id (fun h => by omega)) ⟨_, hM1⟩ hU hgr2).mono (fun i hi => ?_) (by omega), ?_, ?_⟩, Lib.hid ?_⟩
                  · have := HO.out.size
                    rcases hi with h | h
                    · exact h
                    · exact .inr (by omega)
                  · rw [HF.out, elOf_putI HK.out HPA.out.inj, HE.out]
                  · rw [glOf_putI (fun h => HPA.out.ig (by rw [h]; exact ⟨x, HK.out⟩)), HG.out]
                  · refine (((HO.out.alloc _).alloc _).drew.grown hgrow (fun i hi hlt' => ?_)).grown hgr2 (fun i hi hlt' => ?_)
                    · rcases (HPA.out.rows m a v0 (.inr ⟨x, HK.out⟩) HV.out).2 i hi with h | h
                      · exact h
                      · omega
                    · injection hi with hi
                      subst hi
                      rcases (HPA.out.mi _ (.inr ⟨x, HK.out⟩)).2.1 with h | h
                      · exact h
                      · omega
                case measure => simp [intOf]; omega
            | none =>
              have HLA := Lib.hid (fun (W : World) (hW : W.heap[m]? = wr.heap[m]?) => lookA_no (hmg.move hW) a ha false)
              have HM := Lib.hid hmg
              have HOWN := Lib.hid (World.ownsRow_nil wr 0 119 1)
              clear hg hpa hmg hme ha
              have hn0' : K1 + j + 1 ≤ 1048576 := by have := HKB.out; omega
              have ne1 : (Value.slice none 0 0).ownBlock ≠ some q := by simp [Value.ownBlock]
              have ne2 : (Value.slice none 0 0).ownBlock ≠ some p := by simp [Value.ownBlock]
              have ne3 : (Value.slice none 0 0).ownBlock ≠ some wr.heap.size := by simp [Value.ownBlock]
              have ne4 : (Value.slice none 0 0).ownBlock ≠ some m := by simp [Value.ownBlock]
              have ne5 : (Value.slice none 0 0).ownBlock ≠ some e1 := by simp [Value.ownBlock]
              have gq : m ≠ q := ne_map_cells HM.out HQR.out
              have gp : m ≠ p := ne_map_cells HM.out HPA.out.cell
              have NE := Lib.hid (And.intro ne1 (And.intro ne2 (And.intro ne3 (And.intro ne4 (And.intro ne5 (And.intro gq gp))))))
              have HA := Lib.hid (fun o1 o2 => heap_two wr o1 o2 m hgz)
              have HAE := Lib.hid (fun o1 o2 => heap_two wr o1 o2 e1 hez)
              have HN2' := Lib.hid (fun o1 o2 => heap_second wr o1 o2)
              have lk1 := fun (o1 : Obj) => HLA.out (wr.alloc o1) (Below.heap_alloc _ _ _ hgz)
              have lk2 := fun (o1 : Obj) => HLA.out (wr.alloc o1).drew (Below.heap_alloc _ _ _ hgz)
              have lk3 := fun (o1 o2 : Obj) => HLA.out ((wr.alloc o1).alloc o2) (HA.out _ _)
              have lk4 := fun (o1 o2 : Obj) => HLA.out ((wr.alloc o1).alloc o2).drew (HA.out _ _)
              have le1 := fun (o1 : Obj) => HLE.out (wr.alloc o1) (Below.heap_alloc _ _ _ hez)
              have le2 := fun (o1 : Obj) => HLE.out (wr.alloc o1).drew (Below.heap_alloc _ _ _ hez)
              have le3 := fun (o1 o2 : Obj) => HLE.out ((wr.alloc o1).alloc o2) (HAE.out _ _)
              have le4 := fun (o1 o2 : Obj) => HLE.out ((wr.alloc o1).alloc o2).drew (HAE.out _ _)
              simp only [Bool.false_eq_true, if_false] at lk1 lk2 lk3 lk4 le1 le2 le3 le4
              clear ne1 ne2 ne3 ne4 ne5 gq gp
              go_upto_region 14 with fail
              go_region_held3 (fun w' => w'.cell? ⟨q, 0, none⟩ = some (.pointer (some ⟨p, 0, none⟩)) ∧ w'.cell? ⟨p, 13, none⟩ = some (.map (some e1)) ∧ w'.cell? ⟨wr.heap.size, 0, none⟩ = some (.int .u8 0))
                (first
                  | go_keep
                  | (go_split_ands
                     refine ⟨?_, ?_, ?_⟩
                     · (rw [hgrow.cell_far _ (by simp <;> omega) (Ne.symm NE.out.1)]; assumption)
                     · (rw [hgrow.cell_far _ (by simp <;> omega) (Ne.symm NE.out.2.1)]; assumption)
                     · (rw [hgrow.cell_far _ (by simp <;> omega) (Ne.symm NE.out.2.2.1)]; assumption))
                  | (go_split_ands
                     refine ⟨?_, ?_, ?_⟩
                     · (rw [hgr2.cell_far _ (Nat.lt_of_lt_of_le (by simp <;> omega) hgrow.size) (fun e => NE.out.2.2.2.2.2.1 (Option.some.inj e).symm)]; assumption)
                     · (rw [hgr2.cell_far _ (Nat.lt_of_lt_of_le (by simp <;> omega) hgrow.size) (fun e => NE.out.2.2.2.2.2.2 (Option.some.inj e).symm)]; assumption)
                     · (rw [hgr2.cell_far _ (Nat.lt_of_lt_of_le (by simp <;> omega) hgrow.size) (fun e => by simp at e; omega)]; assumption)))
                ((refine step_append_lies _ (by rfl) _ _ _ (by rfl) 0 119 i0 _ 1 1 Tryz.underlying116 hi0 hz0 hz1 hz2 rfl (by omega) (.slice none 0 0) 0 _ (by rfl) (((HOWN.out.alloc _).alloc _).drew)
                    ⟨wr.heap.size + 1, 0, none⟩ 1 1 [.int .u8 0] (by rfl) (by rfl) (World.news_of_block (cs := #[.int .u8 0]) (t := 119) (fr := (0, 0)) (HN2'.out _ _)) (by simp [Value.oneCell'])
                    (by omega) (by unfold maxLen; omega) (by omega) (by omega) (wr.heap.size + 2) (by simp) ?_; intro gg cap w1 hown1 hgrow hat hlt1; have hM1 := HM.out.move ((hgrow.block m (by simp; omega) (Ne.symm NE.out.2.2.2.1)).trans (HA.out _ _)); have lkw := HLE.out w1 ((hgrow.block e1 (by simp; omega) (Ne.symm NE.out.2.2.2.2.1)).trans (HAE.out _ _)); simp only [Bool.false_eq_true, if_false] at lkw; obtain ⟨w2, hrun2, hU, hgr2, hsz2⟩ := run_update Tryz.underlying84 Tryz.underlying9 hM1 a (.slice (some ⟨gg, 0, none⟩) (0 + 1) cap)))
              all_goals
                go_wp2
                go_roundw
                case rel =>
                  refine ⟨j + 1, by omega, by go_num, Lib.hid ⟨e1, g1, u1, n1, s1, LE, _, (pol_row HPA.out m (.inr ⟨x, HK.out⟩) a (.slice none 0 0) 0 gg cap (W0 := wr.alloc (.cells #[.int .u8 0] 119)) (fun i hi _ => Below.heap_alloc _ _ _ hi) (by simp) (.inr (fun b' hb' => by simp [Value.ownBlock] at hb'))
                    (((Below.refl _ _).alloc (Nat.le_refl _) _).drew) hgrow (Nat.zero_le _) hown1 (hat.imp id (fun h => by omega)) ⟨_, hM1⟩ hU hgr2).mono (fun i hi => ?_) (by omega), ?_, ?_⟩, Lib.hid ?_⟩
                  · have := HO.out.size
                    rcases hi with h | h
                    · exact h
                    · exact .inr (by omega)
                  · rw [HF.out, elOf_putI HK.out HPA.out.inj, HE.out]
                  · rw [glOf_putI (fun h => HPA.out.ig (by rw [h]; exact ⟨x, HK.out⟩)), HG.out]
                  · refine (((HO.out.alloc _).alloc _).drew.grown hgrow (fun i hi hlt' => ?_)).grown hgr2 (fun i hi hlt' => ?_)
                    · simp [Value.ownBlock] at hi
                    · injection hi with hi
                      subst hi
                      rcases (HPA.out.mi _ (.inr ⟨x, HK.out⟩)).2.1 with h | h
                      · exact h
                      · omega
                case measure => simp [intOf]; omega
          | none =>
            have hlk := look_no hme x hg
            have HK0 := Lib.hid hg
            have HME0 := Lib.hid hme
            have HEQ := Lib.hid (ne_map_cells hme HQR.out)
            have HEP := Lib.hid (ne_map_cells hme hpa.cell)
            clear hg hpa hme
            have hn0' : K1 + j + 1 ≤ 1048576 := by have := HKB.out; omega
            go_upto_region 11 with (at_mapUpdate; refine wpList_update_raw _ rfl _ _ _ 86 rfl 9 84 Tryz.underlying86 Tryz.underlying9 e1 LE (HME0.out.move (Below.heap_alloc _ _ _ HME0.out.lt)) rfl x rfl (.map (some wr.heap.size)) rfl ?_; intro wz hUz hgrz hszz; have HSZ := Lib.hid hszz; have hqz2 : q < wz.heap.size := (by rw [hszz]; simp; omega); have hpz2 : p < wz.heap.size := (by rw [hszz]; simp; omega); clear hszz hlk; have HQRz := Lib.hid (abp_grown HQR.out hqz1 hgrz HEQ.out); have HPCz := Lib.hid (cells_grown HPA.out.cell hpz hgrz HEP.out); have hq0z : wz.cell? ⟨q, 0, none⟩ = some (.pointer (some ⟨p, 0, none⟩)) := (by rw [HQRz.out.cell]; rfl); have hq2z : wz.cell? ⟨q, 2, none⟩ = some (.int .u8 0) := (by rw [HQRz.out.cell]; rfl); have hc13z : wz.cell? ⟨p, 13, none⟩ = some (.map (some e1)) := (by simp [World.cell?, HPCz.out, pcells]); clear hq0 hq2 hc13 hcell)
            have HPZ := Lib.hid (HPA.out.addEl x hUz hgrz)
            have HIN : mget (mput LE x (.map (some wr.heap.size))) x = some (.map (some wr.heap.size)) := by rw [mget_mput, if_pos rfl]
            have HK := Lib.hid HIN
            clear HIN
            have HEZ := Lib.hid (elOf_addEl (LE := LE) (L := L) (k := x) (H := wr.heap.size) (fun hi => by have := (HPA.out.mi _ (.inr hi)).1.lt; omega))
            have hmz := (HPZ.out.mi wr.heap.size (.inr ⟨x, HK.out⟩)).1
            have hgz := hmz.lt
            have hez2 := hUz.lt
            have HLE := Lib.hid (fun (W : World) (hW : W.heap[e1]? = wz.heap[e1]?) => lookE_yes (hUz.move hW) x HK.out false)
            have HLA := Lib.hid (fun (W : World) (hW : W.heap[wr.heap.size]? = wz.heap[wr.heap.size]?) => lookA_no (hmz.move hW) a (by simp [mget]) false)
            have HM := Lib.hid hmz
            have HME := Lib.hid hUz
            have HEM := Lib.hid (HPZ.out.mi wr.heap.size (.inr ⟨x, HK.out⟩)).2.2.1
            have HOWN := Lib.hid (World.ownsRow_nil wz 0 119 1)
            clear hUz hmz
            have ne1 : (Value.slice none 0 0).ownBlock ≠ some q := by simp [Value.ownBlock]
            have ne2 : (Value.slice none 0 0).ownBlock ≠ some p := by simp [Value.ownBlock]
            have ne3 : (Value.slice none 0 0).ownBlock ≠ some wz.heap.size := by simp [Value.ownBlock]
            have ne4 : (Value.slice none 0 0).ownBlock ≠ some wr.heap.size := by simp [Value.ownBlock]
            have ne5 : (Value.slice none 0 0).ownBlock ≠ some e1 := by simp [Value.ownBlock]
            have gq : wr.heap.size ≠ q := ne_map_cells HM.out HQRz.out
            have gp : wr.heap.size ≠ p := ne_map_cells HM.out HPCz.out
            have NE := Lib.hid (And.intro ne1 (And.intro ne2 (And.intro ne3 (And.intro ne4 (And.intro ne5 (And.intro gq gp))))))
            have HA := Lib.hid (fun o1 o2 => heap_two wz o1 o2 wr.heap.size hgz)
            have HAE := Lib.hid (fun o1 o2 => heap_two wz o1 o2 e1 hez2)
            have HN2' := Lib.hid (fun o1 o2 => heap_second wz o1 o2)
            have lk1 := fun (o1 : Obj) => HLA.out (wz.alloc o1) (Below.heap_alloc _ _ _ hgz)
            have lk2 := fun (o1 : Obj) => HLA.out (wz.alloc o1).drew (Below.heap_alloc _ _ _ hgz)
            have lk3 := fun (o1 o2 : Obj) => HLA.out ((wz.alloc o1).alloc o2) (HA.out _ _)
            have lk4 := fun (o1 o2 : Obj) => HLA.out ((wz.alloc o1).alloc o2).drew (HA.out _ _)
            have le1 := fun (o1 : Obj) => HLE.out (wz.alloc o1) (Below.heap_alloc _ _ _ hez2)
            have le2 := fun (o1 : Obj) => HLE.out (wz.alloc o1).drew (Below.heap_alloc _ _ _ hez2)
            have le3 := fun (o1 o2 : Obj) => HLE.out ((wz.alloc o1).alloc o2) (HAE.out _ _)
            have le4 := fun (o1 o2 : Obj) => HLE.out ((wz.alloc o1).alloc o2).drew (HAE.out _ _)
            simp only [Bool.false_eq_true, if_false] at lk1 lk2 lk3 lk4 le1 le2 le3 le4
            clear ne1 ne2 ne3 ne4 ne5 gq gp
            go_upto_region 14 with fail
            go_region_held3 (fun w' => w'.cell? ⟨q, 0, none⟩ = some (.pointer (some ⟨p, 0, none⟩)) ∧ w'.cell? ⟨p, 13, none⟩ = some (.map (some e1)) ∧ w'.cell? ⟨wz.heap.size, 0, none⟩ = some (.int .u8 0))
              (first
                | go_keep
                | (go_split_ands
                   refine ⟨?_, ?_, ?_⟩
                   · (rw [hgrow.cell_far _ (by simp <;> omega) (Ne.symm NE.out.1)]; assumption)
                   · (rw [hgrow.cell_far _ (by simp <;> omega) (Ne.symm NE.out.2.1)]; assumption)
                   · (rw [hgrow.cell_far _ (by simp <;> omega) (Ne.symm NE.out.2.2.1)]; assumption))
                | (go_split_ands
                   refine ⟨?_, ?_, ?_⟩
                   · (rw [hgr2.cell_far _ (Nat.lt_of_lt_of_le (by simp <;> omega) hgrow.size) (fun e => NE.out.2.2.2.2.2.1 (Option.some.inj e).symm)]; assumption)
                   · (rw [hgr2.cell_far _ (Nat.lt_of_lt_of_le (by simp <;> omega) hgrow.size) (fun e => NE.out.2.2.2.2.2.2 (Option.some.inj e).symm)]; assumption)
                   · (rw [hgr2.cell_far _ (Nat.lt_of_lt_of_le (by simp <;> omega) hgrow.size) (fun e => by simp at e; omega)]; assumption)))
              ((refine step_append_lies _ (by rfl) _ _ _ (by rfl) 0 119 i0 _ 1 1 Tryz.underlying116 hi0 hz0 hz1 hz2 rfl (by omega) (.slice none 0 0) 0 _ (by rfl) (((HOWN.out.alloc _).alloc _).drew)
                  ⟨wz.heap.size + 1, 0, none⟩ 1 1 [.int .u8 0] (by rfl) (by rfl) (World.news_of_block (cs := #[.int .u8 0]) (t := 119) (fr := (0, 0)) (HN2'.out _ _)) (by simp [Value.oneCell'])
                  (by omega) (by unfold maxLen; omega) (by omega) (by omega) (wz.heap.size + 2) (by simp) ?_; intro gg cap w1 hown1 hgrow hat hlt1; have hM1 := HM.out.move ((hgrow.block wr.heap.size (by simp; omega) (Ne.symm NE.out.2.2.2.1)).trans (HA.out _ _)); have lkw := HLE.out w1 ((hgrow.block e1 (by simp; omega) (Ne.symm NE.out.2.2.2.2.1)).trans (HAE.out _ _)); simp only [Bool.false_eq_true, if_false] at lkw; obtain ⟨w2, hrun2, hU, hgr2, hsz2⟩ := run_update Tryz.underlying84 Tryz.underlying9 hM1 a (.slice (some ⟨gg, 0, none⟩) (0 + 1) cap)))
            all_goals
              go_wp2
              go_roundw
              case rel =>
                have hsz3 : wz.heap.size = wr.heap.size + 1 := HSZ.out.trans (by simp)
                refine ⟨j + 1, by omega, by go_num, Lib.hid ⟨e1, g1, u1, n1, s1, _, _, (pol_row HPZ.out wr.heap.size (.inr ⟨x, HK.out⟩) a (.slice none 0 0) 0 gg cap (W0 := wz.alloc (.cells #[.int .u8 0] 119)) (fun i hi _ => Below.heap_alloc _ _ _ hi) (by simp) (.inr (fun b' hb' => by simp [Value.ownBlock] at hb'))
                  (((Below.refl _ _).alloc (Nat.le_refl _) _).drew) hgrow (Nat.zero_le _) hown1 (hat.imp id (fun h => by omega)) ⟨_, hM1⟩ hU hgr2).mono (fun i hi => ?_) (by omega), ?_, ?_⟩, Lib.hid ?_⟩
                · have := HO.out.size
                  rcases hi with (h | h) | h
                  · exact h
                  · exact .inr (by omega)
                  · exact .inr (by omega)
                · rw [HF.out]
                  refine Eq.trans (elOf_putI (L := fun z => if z = wr.heap.size then [] else L z) HK.out HPZ.out.inj) ?_
                  rw [HEZ.out, HE.out]
                  exact addAt_new (by rw [← HE.out]; exact elOf_none HK0.out)
                · refine Eq.trans (glOf_putI (L := fun z => if z = wr.heap.size then [] else L z) (fun h => HPZ.out.ig (by rw [h]; exact ⟨x, HK.out⟩)) _) ?_
                  rw [← HG.out]
                  funext t
                  have : g1 ≠ wr.heap.size := by have := (HPA.out.mi g1 (.inl rfl)).1.lt; omega
                  simp [glOf, this]
                · refine (((((HO.out.alloc _).grown hgrz ?_).alloc _).alloc _).drew.grown hgrow (fun i hi hlt' => by simp [Value.ownBlock] at hi)).grown hgr2 ?_
                  · intro i hi hlt'
                    injection hi with hi
                    subst hi
                    rcases HPA.out.oke with h | h
                    · exact h
                    · omega
                  · intro i hi hlt'
                    injection hi with hi
                    have := HO.out.size
                    omega
              case measure => simp [intOf]; omega
        · go_wp2
          go_roundw
          case rel =>
            refine ⟨k + 1, by omega, by go_num, Lib.hid ?_, HO⟩
            obtain rfl : j = ns.length := by omega
            have h1 := HPr.out
            rw [List.take_length, ← HFA.out, ← HK1.out] at h1
            rw [Nat.add_mul, Nat.one_mul, ← Nat.add_assoc]
            exact h1
          case measure => simp [intOf]; omega
    · go_wp2
      go_ret
      obtain rfl : k = els.length := by omega
      rw [List.take_length] at HPr
      exact ⟨rfl, HPr.out, HO.out⟩
end Go.Proofs.YtlgacgiikmkfcaaGreatDoor
