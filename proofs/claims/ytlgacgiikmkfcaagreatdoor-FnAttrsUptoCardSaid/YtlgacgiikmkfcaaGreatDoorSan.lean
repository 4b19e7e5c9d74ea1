/- sanitizeAttrs where no switch is on: of the attributes those are left whose names one of two maps has. -/
import Derived.Test.YtlgacgiikmkfcaaGreatDoorPolicy
import Derived.Test.YtlgacgiikmkfcaaGreatDoorMine
import Derived.BigQuiet
import Derived.Deep.QuietTactic
import Derived.Deep.LoopGhost
import Derived.WalkMore
namespace Go.Proofs.YtlgacgiikmkfcaaGreatDoor
open Go.RowKit M Go.Proofs.YtlgacgiikmkfcaaGreatDoor.PFnAttrs Go.Proofs.YtlgacgiikmkfcaaGreatDoorW.PrintWords Go.Proofs.YtlgacgiikmkfcaaGreatDoorW.PrintLast
namespace M
/-- A map of attributes (or none), and which names it has. -/
structure Look (w : World) (mv : Value) (f : ByteArray → Bool) : Prop where
  ex : (mv = .map none ∧ ∀ a, f a = false) ∨ ∃ m L K, mv = .map (some m) ∧ MapIs w m L ∧ (∀ a, f a = (mget L a).isSome) ∧ ∀ a v, mget L a = some v → RowOf w K v

theorem run_lookup_nil (w : World) (k : ByteArray) : (Instr.lookup 84 (.map none) (.string k) true).run Tryz.prog w = .ok (.tuple #[.slice none 0 0, .bool false]) w := by
  have h1 : Instr.findNow .string (.string k) [] 0 = some none := rfl
  simp [Instr.lookup, run_underlying Tryz.underlying84, MapKept.run_checkKey Tryz.underlying9 (isKey_string k), MapKept.run_findKey Tryz.underlying9 h1, zero116 w, Result.andThen]

theorem Look.key {w : World} {mv : Value} {f : ByteArray → Bool} (h : Look w mv f) (a : ByteArray) :
    (f a = true ∧ ∃ b n c, 0 < n ∧ b < w.heap.size ∧ w.cell? ⟨b, 0, none⟩ = some (.int .u8 0) ∧ ∀ W : World, (∀ k, k < w.heap.size → W.heap[k]? = w.heap[k]?) → (Instr.lookup 84 mv (.string a) true).run Tryz.prog W = .ok (.tuple #[.slice (some ⟨b, 0, none⟩) n c, .bool true]) W) ∨
    (f a = false ∧ ∀ W : World, (∀ k, k < w.heap.size → W.heap[k]? = w.heap[k]?) → (Instr.lookup 84 mv (.string a) true).run Tryz.prog W = .ok (.tuple #[.slice none 0 0, .bool false]) W) := by
  rcases h.ex with ⟨rfl, h2⟩ | ⟨m, L, K, rfl, h2, h3, h4⟩
  · exact .inr ⟨h2 a, fun W _ => run_lookup_nil W a⟩
  · cases hg : mget L a with
    | none =>
      refine .inr ⟨by rw [h3, hg]; rfl, fun W hW => ?_⟩
      have := lookA_no (h2.move (hW m h2.lt)) a hg true
      simpa using this
    | some v =>
      obtain ⟨n, h0, _, _, h5⟩ := h4 a v hg
      rcases h5 with ⟨_, h5⟩ | ⟨b, cap, cur, rfl, _, hb, h6, h7, h8, h9⟩
      · omega
      · refine .inl ⟨by rw [h3, hg]; rfl, b, n, cap, h0, (Array.getElem?_eq_some_iff.1 hb).1, ?_, fun W hW => ?_⟩
        · have h10 : (cur.toList.take (n * 1))[0]? = some (.int .u8 0) := by
            rw [h9]
            simp [h0]
          rw [List.getElem?_take, if_pos (by omega)] at h10
          simp only [World.cell?, hb]
          simpa using h10
        · have := lookA_yes (h2.move (hW m h2.lt)) a hg true
          simpa using this

theorem PolS.look {ok : Nat → Prop} {K : Nat} {w : World} {p : Nat} {el : El} {gl : ByteArray → Bool} (h : PolS ok K w p el gl) : ∃ e g u n s LE, w.heap[p]? = some (.cells (pcells e g u n s) 90 (0, 0)) ∧ MapIs w e LE ∧ Look w (.map (some g)) gl ∧
    ∀ x, (mget LE x = none ∧ el x = none) ∨ ∃ m f, mget LE x = some (.map (some m)) ∧ el x = some f ∧ Look w (.map (some m)) f := by
  obtain ⟨e, g, u, n, s, LE, L, h1, h2, h3⟩ := h.ex
  refine ⟨e, g, u, n, s, LE, h1.cell, h1.me, ⟨.inr ⟨g, L g, K, rfl, (h1.mi g (.inl rfl)).1, fun a => by rw [← h3]; rfl, fun a v hv => (h1.rows g a v (.inl rfl) hv).1⟩⟩, fun x => ?_⟩
  cases hg : mget LE x with
  | none => exact .inl ⟨rfl, by rw [← h2]; exact elOf_none hg⟩
  | some v =>
    obtain ⟨m, rfl⟩ := h1.vals x v hg
    exact .inr ⟨m, fun a => (mget (L m) a).isSome, rfl, by rw [← h2]; exact elOf_some hg, ⟨.inr ⟨m, L m, K, rfl, (h1.mi m (.inr ⟨x, hg⟩)).1, fun _ => rfl, fun a v hv => (h1.rows m a v (.inr ⟨x, hg⟩) hv).1⟩⟩⟩
theorem R82_empty (w : World) : Kd.R k82 82 (w.alloc (.cells #[] 82)) w.heap.size (fun _ => True) (.slice (some ⟨w.heap.size, 0, none⟩) 0 0) ([] : List S82) := by
  refine ⟨fun _ _ => trivial, [], ?_, Reps.none _ _⟩
  have h := heap_alloc_new w (.cells #[] 82)
  exact ⟨by simp, .inr ⟨w.heap.size, 0, #[], rfl, Nat.le_refl _, h, by simp, by simp, by simp⟩⟩
theorem tower_below {w w6 : World} {gb : Nat} (h : Below w.heap.size w w6) (hg : w.heap.size ≤ gb) (u0 u1 u2 : Value) : Below w.heap.size w (((w6.setCell ⟨gb, 0, none⟩ u0).setCell ⟨gb, 1, none⟩ u1).setCell ⟨gb, 2, none⟩ u2) :=
  below_set (below_set (below_set h hg) hg) hg
theorem tower_keep {w w6 : World} {gb : Nat} (h : Below w.heap.size w w6) (hg : w.heap.size ≤ gb) (u0 u1 u2 : Value) : ∀ k, k < w.heap.size → (((w6.setCell ⟨gb, 0, none⟩ u0).setCell ⟨gb, 1, none⟩ u1).setCell ⟨gb, 2, none⟩ u2).heap[k]? = w.heap[k]? :=
  fun k hk => (tower_below h hg u0 u1 u2).block k hk
theorem cell_keep {w w1 : World} {b o : Nat} {u : Value} (h : Below w.heap.size w w1) (hb : b < w.heap.size) (hc : w.cell? ⟨b, o, none⟩ = some u) : w1.cell? ⟨b, o, none⟩ = some u := by
  rw [← hc]; simp only [World.cell?, h.block b hb]
theorem ite_some {α : Type} {c : Prop} [Decidable c] {x y : Option α} (h1 : ∃ r, x = some r) (h2 : ∃ r, y = some r) : ∃ r, (if c then x else y) = some r := by
  split
  · exact h1
  · exact h2
theorem linkable_total (a : ByteArray) : ∃ k r, bluemonday_linkable.f k a = some r := by
  refine ⟨3, ?_⟩
  unfold bluemonday_linkable.f
  simp only [bluemonday_linkable.j0, bluemonday_linkable.j1]
  refine ite_some ?_ (ite_some ?_ (ite_some ?_ ?_)) <;> (repeat' (first | exact ⟨_, rfl⟩ | refine ite_some ?_ ?_))
theorem R82_box {wr w6 : World} {base gb : Nat} {ok : Nat → Prop} {v : Value} {cl : List S82} (h : Kd.R k82 82 wr base ok v cl) (hb : Below wr.heap.size wr w6) (hg : gb = wr.heap.size) : Kd.R k82 82 w6 base (fun k => k ≠ gb) v cl :=
  Kd.R_mono (Kd.R_below (Kd.R_bound h) hb) (fun k hk => by have := hk.2.2.1; omega)
theorem tower_blk {w6 : World} {gb : Nat} {u v z : Value} (h : w6.heap[gb]? = some (.cells #[u, v, z] 82 (0, 0))) (u0 u1 u2 : Value) : (((w6.setCell ⟨gb, 0, none⟩ u0).setCell ⟨gb, 1, none⟩ u1).setCell ⟨gb, 2, none⟩ u2).heap[gb]? = some (.cells #[u0, u1, u2] 82 (0, 0)) :=
  blk_put (cs := #[u0, u1, z]) (blk_put (cs := #[u0, v, z]) (blk_put (cs := #[u, v, z]) h 0 _ rfl) 1 _ rfl) 2 _ rfl
theorem tower_R {w w6 : World} {gb : Nat} {u9 : Value} {cl : List S82} (h : Kd.R k82 82 w6 w.heap.size (fun k => k ≠ gb) u9 cl) (u0 u1 u2 : Value) :
    Kd.R k82 82 (((w6.setCell ⟨gb, 0, none⟩ u0).setCell ⟨gb, 1, none⟩ u1).setCell ⟨gb, 2, none⟩ u2) w.heap.size (fun k => k ≠ gb) u9 cl :=
  Kd.R_far (p := ⟨gb, 2, none⟩) (Kd.R_far (p := ⟨gb, 1, none⟩) (Kd.R_far (p := ⟨gb, 0, none⟩) h (fun _ hk => hk) u0) (fun _ hk => hk) u1) (fun _ hk => hk) u2
theorem blk_far {w8 : World} {gb g2 j : Nat} {o : Obj} {u : Value} (h : w8.heap[gb]? = some o) (hne : gb ≠ g2) : (w8.setCell ⟨g2, j, none⟩ u).heap[gb]? = some o := (Below.heap_setCell w8 ⟨g2, j, none⟩ u gb hne).trans h
theorem take_step {l : List S82} {k : Nat} (hk : k < l.length) {x : S82} (hx : x = rd_T82 l (k : Int)) (q : S82 → Bool) : (l.take (k + 1)).filter q = (l.take k).filter q ++ if q x then [x] else [] := by
  have h1 : l[k] = x := by
    rw [hx]
    simp [rd_T82, List.getD, List.getElem?_eq_getElem hk]
  rw [List.take_succ_eq_append_getElem hk, List.filter_append, h1]
  congr 1
  cases hq : q x <;> simp [List.filter, hq]
theorem wrap_step {k n : Nat} (hk : k < n) (hn : n ≤ 1048576) : Value.int .i64 (wrap64 ((k : Int) + 1)) = Value.int .i64 ((k + 1 : Nat) : Int) := by
  rw [IntWalk.wrap64_in _ (by omega)]
  rfl
end M

set_option maxRecDepth 100000 in
set_option maxHeartbeats 16000000 in
theorem san_some (p e g u n s c : Nat) (A : Option Addr) (mv : Value) (f gl : ByteArray → Bool) (element : ByteArray) (l : List S82) (w : World) (hp : w.heap[p]? = some (.cells (pcells e g u n s) 90 (0, 0)))
    (hg : Look w (.map (some g)) gl) (hf : Look w mv f) (hne : 0 < l.length) (hrow : Kd.C k82 w A l.length l) (hlen : l.length ≤ 1048576) :
    Calls Tryz.prog 48 #[.pointer (some ⟨p, 0, none⟩), .string element, .slice A l.length c, mv] w fun e w' => ∃ v, e = .returned v ∧
      Kd.R k82 82 w' w.heap.size (fun _ => True) v (l.filter fun a => f a.f1 || gl a.f1) ∧ Below w.heap.size w w' := by
  have HP := Lib.hid hp
  have HG := Lib.hid hg
  have HF := Lib.hid hf
  have HR := Lib.hid hrow
  have HL := Lib.hid hlen
  have hne' : ((l.length : Int) == 0) = false := beq_eq_false_iff_ne.2 (by omega)
  clear hp hg hf hrow hlen
  have hu82 := Tryz.underlying82
  go_enter Tryz.func48, Tryz.ntmps48
  go_wp2_with fail
  go_step3
  go_wp2_with fail
  go_step3
  go_wp2_with fail
  go_loopg [9, 72] l.length (fun gk v9 v72 wr => ∃ (k : Nat) (cl : List S82), v72 = .int .i64 (k : Int) ∧ Aside0 (k + gk = l.length) ∧ Aside0 (cl = (l.take k).filter fun a => f a.f1 || gl a.f1) ∧ Aside0 (Kd.R k82 82 wr w.heap.size (fun _ => True) v9 cl) ∧ Aside0 (Below w.heap.size w wr))
  case atStart =>
    refine ⟨0, [], rfl, ⟨by omega⟩, ⟨rfl⟩, ⟨?_⟩, ⟨below_alloc (Below.refl _ _) _⟩⟩
    exact R82_empty w
  case round =>
    obtain ⟨k, cl, rfl, HK, HC, HO, HB⟩ := hrel
    by_cases hk : k < l.length
    · have hlt : decide ((k : Int) < (l.length : Int)) = true := decide_eq_true (by omega)
      have h0 : (0 ≤ (k : Int)) = True := eq_true (by omega)
      have h0' : decide (0 ≤ (k : Int)) = true := decide_eq_true (by omega)
      have h1 : ((k : Int) < (l.length : Int)) = True := eq_true (by omega)
      obtain ⟨ad, e1, hx0, hx1, hx2⟩ := at_T82 HR.out (k : Int) (by omega) (by omega)
      cases e1
      rw [Int.toNat_natCast] at hx0 hx1 hx2
      obtain ⟨x, hx⟩ : ∃ x, x = rd_T82 l (k : Int) := ⟨_, rfl⟩
      rw [← hx] at hx0 hx1 hx2
      have HX := Lib.hid hx
      clear hx
      have hpb := (Array.getElem?_eq_some_iff.1 HP.out).1
      replace hx0 := (HB.out.cell (World.block_lt_of_cell? w _ hx0)).trans hx0
      replace hx1 := (HB.out.cell (World.block_lt_of_cell? w _ hx1)).trans hx1
      replace hx2 := (HB.out.cell (World.block_lt_of_cell? w _ hx2)).trans hx2
      have HKL := Lib.hid hk
      have HCL : Aside0 (cl.length ≤ 1048576) := ⟨by
        rw [HC.out]
        have h1 := List.length_filter_le (fun a => f a.f1 || gl a.f1) (l.take k)
        have h2 := HL.out
        simp only [List.length_take] at h1
        omega⟩
      clear hk
      have hp11 : ∀ W : World, Below w.heap.size w W → W.cell? ⟨p, 11, none⟩ = some (.bool false) := fun W hW => by simp only [World.cell?, hW.block p hpb, HP.out]; rfl
      have hp14 : ∀ W : World, Below w.heap.size w W → W.cell? ⟨p, 14, none⟩ = some (.map (some g)) := fun W hW => by simp only [World.cell?, hW.block p hpb, HP.out]; rfl
      have Hp11 := Lib.hid hp11
      have Hp14 := Lib.hid hp14
      clear hp11 hp14 hpb
      rcases HF.out.key x.f1 with ⟨hf1, b, n, c2, hn0, hbl, hb0, hL⟩ | ⟨hf1, hL⟩
      · have HL1 := Lib.hid hL
        have Hf1 := Lib.hid hf1
        have hb0' := Lib.hid hb0
        have hbl' := Lib.hid hbl
        have hn1 : decide ((0 : Int) < (n : Int)) = true := decide_eq_true (by omega)
        have hn2 : ((0 : Int) < (n : Int)) = True := eq_true (by omega)
        clear hL hf1 hb0 hbl
        go_wp2_with (refine box_event ?hg (N := 11) ?hd (cs := #[.string (⟨#[]⟩ : ByteArray), .string (⟨#[]⟩ : ByteArray), .string (⟨#[]⟩ : ByteArray)]) (t := 82) ?hr ?_; (case hd => rfl); (case hg => rfl); (case hr => first | (go_simp; done) | (go_simp; rfl)); intro gb hg w6 hbox hb; (have HB6 := Aside0.mk (below_step HB.out hb)); (have HO6 := Aside0.mk (R82_box HO.out hb hg)); (have BX := Aside0.mk hbox); (have HGB := Aside0.mk (by rw [hg]; exact below_size HB.out : w.heap.size ≤ gb)); clear hb hg; (have hc0 : w6.cell? ⟨gb, 0, none⟩ = some (.string (⟨#[]⟩ : ByteArray)) := (blk_cell BX.out 0).trans rfl); (have hc1 : w6.cell? ⟨gb, 1, none⟩ = some (.string (⟨#[]⟩ : ByteArray)) := (blk_cell BX.out 1).trans rfl); (have hc2 : w6.cell? ⟨gb, 2, none⟩ = some (.string (⟨#[]⟩ : ByteArray)) := (blk_cell BX.out 2).trans rfl); have hf0 := blk_frozen BX.out 0; have hf1 := blk_frozen BX.out 1; have hf2 := blk_frozen BX.out 2; clear hbox; have hc11 := Hp11.out w6 HB6.out; (have hB2 := cell_keep (below_set (g := gb) (j := 0) (v := .string x.f0) HB6.out HGB.out) hbl'.out hb0'.out); have hlk := HL1.out (((w6.setCell ⟨gb, 0, none⟩ (.string x.f0)).setCell ⟨gb, 1, none⟩ (.string x.f1)).setCell ⟨gb, 2, none⟩ (.string x.f2)) (tower_keep HB6.out HGB.out _ _ _))
        refine wp_loop_rounds 1 ?_
        rw [rounds_succ]
        go_wp2_with (first | (refine box_event ?hg (N := 15) ?hd (cs := #[.int .u8 0]) (t := 119) ?hr ?_; (case hd => rfl); (case hg => rfl); (case hr => first | (go_simp; done) | (go_simp; rfl)); intro g2 hg w8 hbox hb; (have HB8 := Aside0.mk (below_step (tower_below HB6.out HGB.out _ _ _) hb)); (have HO8 := Aside0.mk (R82_box (tower_R HO6.out _ _ _) hb hg)); (have HG2 := Aside0.mk (by rw [hg]; exact below_size (tower_below HB6.out HGB.out _ _ _) : w.heap.size ≤ g2)); (have BX2 := Aside0.mk hbox); (have BK8 := Aside0.mk (blk_below (tower_blk BX.out (.string x.f0) (.string x.f1) (.string x.f2)) hb)); (have BK9 := Aside0.mk (blk_far (g2 := g2) (j := 0) (u := .int .u8 0) BK8.out (by rw [hg]; exact Nat.ne_of_lt (blk_lt (tower_blk BX.out _ _ _))))); (have hk0 : w8.cell? ⟨g2, 0, none⟩ = some (.int .u8 0) := (blk_cell BX2.out 0).trans rfl); have hkf := blk_frozen BX2.out 0; (have hd0 : (w8.setCell ⟨g2, 0, none⟩ (.int .u8 0)).cell? ⟨gb, 0, none⟩ = some (.string x.f0) := (blk_cell BK9.out 0).trans rfl); (have hd1 : w8.cell? ⟨gb, 1, none⟩ = some (.string x.f1) := (blk_cell BK8.out 1).trans rfl); (have hd2 : w8.cell? ⟨gb, 2, none⟩ = some (.string x.f2) := (blk_cell BK8.out 2).trans rfl); clear hbox hg hb) | ((with_reducible refine gate_builtin (b := .append) (xs := #[.tmp 113, .tmp 115]) rfl ?_); at_builtin; refine Kd.R_append k82 (w0 := w) w.heap.size rfl (.tmp 113) (.tmp 115) 65 82 (.agg #[(.string ⟨#[]⟩), (.string ⟨#[]⟩), (.string ⟨#[]⟩)]) 48 rfl Tryz.underlying65 info82 rfl (by decide) (by omega) u9 cl x [.string x.f0, .string x.f1, .string x.f2] (fun _ => True) (fun _ => False) rfl (by first | (go_simp; done) | (go_simp; rfl)) ?aP (fun _ hk => hk.elim) ?aF ?aO ?aB ?aS ?aL ?_; (case aP => exact k82_mkM _ _ _ x); (case aB => exact below_set HB8.out HG2.out); (case aF => exact (fun _ _ => trivial)); (case aO => exact Kd.R_mono (Kd.R_far (p := ⟨g2, 0, none⟩) HO8.out (fun _ hk => hk) _) (fun _ _ => trivial)); (case aS => exact below_size (below_set HB8.out HG2.out)); (case aL => have := HCL.out; omega); intro v9 w9 ho hb hg hat; have HO9 := Aside0.mk ho; have HB9 := Aside0.mk hb; clear ho hb hg hat))
        go_roundg (gk - 1)
        case measure => have := HK.out; have := HKL.out; omega
        case rel => exact ⟨k + 1, cl ++ [x], wrap_step HKL.out HL.out, ⟨by have := HK.out; have := HKL.out; omega⟩, ⟨by rw [HC.out, take_step HKL.out HX.out, if_pos (by rw [Hf1.out]; rfl)]⟩, HO9, HB9⟩
      · have HL1 := Lib.hid hL
        have Hf1 := Lib.hid hf1
        clear hL hf1
        rcases HG.out.key x.f1 with ⟨hg1, b, n, c2, hn0, hbl, hb0, hL⟩ | ⟨hg1, hL⟩
        · have HL2 := Lib.hid hL
          have Hg1 := Lib.hid hg1
          have hb0' := Lib.hid hb0
          have hbl' := Lib.hid hbl
          have hn1 : decide ((0 : Int) < (n : Int)) = true := decide_eq_true (by omega)
          have hn2 : ((0 : Int) < (n : Int)) = True := eq_true (by omega)
          clear hL hg1 hb0 hbl
          go_wp2_with (refine box_event ?hg (N := 11) ?hd (cs := #[.string (⟨#[]⟩ : ByteArray), .string (⟨#[]⟩ : ByteArray), .string (⟨#[]⟩ : ByteArray)]) (t := 82) ?hr ?_; (case hd => rfl); (case hg => rfl); (case hr => first | (go_simp; done) | (go_simp; rfl)); intro gb hg w6 hbox hb; (have HB6 := Aside0.mk (below_step HB.out hb)); (have HO6 := Aside0.mk (R82_box HO.out hb hg)); (have BX := Aside0.mk hbox); (have HGB := Aside0.mk (by rw [hg]; exact below_size HB.out : w.heap.size ≤ gb)); clear hb hg; (have hc0 : w6.cell? ⟨gb, 0, none⟩ = some (.string (⟨#[]⟩ : ByteArray)) := (blk_cell BX.out 0).trans rfl); (have hc1 : w6.cell? ⟨gb, 1, none⟩ = some (.string (⟨#[]⟩ : ByteArray)) := (blk_cell BX.out 1).trans rfl); (have hc2 : w6.cell? ⟨gb, 2, none⟩ = some (.string (⟨#[]⟩ : ByteArray)) := (blk_cell BX.out 2).trans rfl); have hf0 := blk_frozen BX.out 0; have hf1 := blk_frozen BX.out 1; have hf2 := blk_frozen BX.out 2; clear hbox; have hc11 := Hp11.out w6 HB6.out; (have hB2 := cell_keep (below_set (g := gb) (j := 0) (v := .string x.f0) HB6.out HGB.out) hbl'.out hb0'.out); have hc14 := Hp14.out w6 HB6.out; have hlk2 := fun n : Nat => HL2.out ((((w6.setCell ⟨gb, 0, none⟩ (.string x.f0)).setCell ⟨gb, 1, none⟩ (.string x.f1)).setCell ⟨gb, 2, none⟩ (.string x.f2)).drewN n) (tower_keep HB6.out HGB.out _ _ _); have hlk := HL1.out (((w6.setCell ⟨gb, 0, none⟩ (.string x.f0)).setCell ⟨gb, 1, none⟩ (.string x.f1)).setCell ⟨gb, 2, none⟩ (.string x.f2)) (tower_keep HB6.out HGB.out _ _ _))
          go_quiet (fail)
          go_wp2_with fail
          refine wp_loop_rounds 1 ?_
          rw [rounds_succ]
          go_wp2_with (first | (refine box_event ?hg (N := 19) ?hd (cs := #[.int .u8 0]) (t := 119) ?hr ?_; (case hd => rfl); (case hg => rfl); (case hr => first | (go_simp; done) | (go_simp; rfl)); intro g2 hg w8 hbox hb; (have HB8 := Aside0.mk (below_step (pw_below_drewN (tower_below HB6.out HGB.out _ _ _) nq) hb)); (have HO8 := Aside0.mk (R82_box (Kd.R_drewN (tower_R HO6.out _ _ _) nq) hb hg)); (have HG2 := Aside0.mk (by rw [hg]; exact below_size (pw_below_drewN (tower_below HB6.out HGB.out _ _ _) nq) : w.heap.size ≤ g2)); (have BX2 := Aside0.mk hbox); (have BK8 := Aside0.mk (blk_below (blk_drewN (tower_blk BX.out (.string x.f0) (.string x.f1) (.string x.f2)) nq) hb)); (have BK9 := Aside0.mk (blk_far (g2 := g2) (j := 0) (u := .int .u8 0) BK8.out (by rw [hg]; exact Nat.ne_of_lt (blk_lt (blk_drewN (tower_blk BX.out _ _ _) nq))))); (have hk0 : w8.cell? ⟨g2, 0, none⟩ = some (.int .u8 0) := (blk_cell BX2.out 0).trans rfl); have hkf := blk_frozen BX2.out 0; (have hd0 : (w8.setCell ⟨g2, 0, none⟩ (.int .u8 0)).cell? ⟨gb, 0, none⟩ = some (.string x.f0) := (blk_cell BK9.out 0).trans rfl); (have hd1 : w8.cell? ⟨gb, 1, none⟩ = some (.string x.f1) := (blk_cell BK8.out 1).trans rfl); (have hd2 : w8.cell? ⟨gb, 2, none⟩ = some (.string x.f2) := (blk_cell BK8.out 2).trans rfl); clear hbox hg hb) | ((with_reducible refine gate_builtin (b := .append) (xs := #[.tmp 147, .tmp 149]) rfl ?_); at_builtin; refine Kd.R_append k82 (w0 := w) w.heap.size rfl (.tmp 147) (.tmp 149) 65 82 (.agg #[(.string ⟨#[]⟩), (.string ⟨#[]⟩), (.string ⟨#[]⟩)]) 48 rfl Tryz.underlying65 info82 rfl (by decide) (by omega) u9 cl x [.string x.f0, .string x.f1, .string x.f2] (fun _ => True) (fun _ => False) rfl (by first | (go_simp; done) | (go_simp; rfl)) ?aP (fun _ hk => hk.elim) ?aF ?aO ?aB ?aS ?aL ?_; (case aP => exact k82_mkM _ _ _ x); (case aB => exact below_set HB8.out HG2.out); (case aF => exact (fun _ _ => trivial)); (case aO => exact Kd.R_mono (Kd.R_far (p := ⟨g2, 0, none⟩) HO8.out (fun _ hk => hk) _) (fun _ _ => trivial)); (case aS => exact below_size (below_set HB8.out HG2.out)); (case aL => have := HCL.out; omega); intro v9 w9 ho hb hg hat; have HO9 := Aside0.mk ho; have HB9 := Aside0.mk hb; clear ho hb hg hat))
          go_roundg (gk - 1)
          case measure => have := HK.out; have := HKL.out; omega
          case rel => exact ⟨k + 1, cl ++ [x], wrap_step HKL.out HL.out, ⟨by have := HK.out; have := HKL.out; omega⟩, ⟨by rw [HC.out, take_step HKL.out HX.out, if_pos (by rw [Hg1.out]; simp)]⟩, HO9, HB9⟩
        · have HL2 := Lib.hid hL
          have Hg1 := Lib.hid hg1
          clear hL hg1
          go_wp2_with (refine box_event ?hg (N := 11) ?hd (cs := #[.string (⟨#[]⟩ : ByteArray), .string (⟨#[]⟩ : ByteArray), .string (⟨#[]⟩ : ByteArray)]) (t := 82) ?hr ?_; (case hd => rfl); (case hg => rfl); (case hr => first | (go_simp; done) | (go_simp; rfl)); intro gb hg w6 hbox hb; (have HB6 := Aside0.mk (below_step HB.out hb)); (have HO6 := Aside0.mk (R82_box HO.out hb hg)); (have BX := Aside0.mk hbox); (have HGB := Aside0.mk (by rw [hg]; exact below_size HB.out : w.heap.size ≤ gb)); clear hb hg; (have hc0 : w6.cell? ⟨gb, 0, none⟩ = some (.string (⟨#[]⟩ : ByteArray)) := (blk_cell BX.out 0).trans rfl); (have hc1 : w6.cell? ⟨gb, 1, none⟩ = some (.string (⟨#[]⟩ : ByteArray)) := (blk_cell BX.out 1).trans rfl); (have hc2 : w6.cell? ⟨gb, 2, none⟩ = some (.string (⟨#[]⟩ : ByteArray)) := (blk_cell BX.out 2).trans rfl); have hf0 := blk_frozen BX.out 0; have hf1 := blk_frozen BX.out 1; have hf2 := blk_frozen BX.out 2; clear hbox; have hc11 := Hp11.out w6 HB6.out; have hc14 := Hp14.out w6 HB6.out; have hlk2 := fun n : Nat => HL2.out ((((w6.setCell ⟨gb, 0, none⟩ (.string x.f0)).setCell ⟨gb, 1, none⟩ (.string x.f1)).setCell ⟨gb, 2, none⟩ (.string x.f2)).drewN n) (tower_keep HB6.out HGB.out _ _ _); have hlk := HL1.out (((w6.setCell ⟨gb, 0, none⟩ (.string x.f0)).setCell ⟨gb, 1, none⟩ (.string x.f1)).setCell ⟨gb, 2, none⟩ (.string x.f2)) (tower_keep HB6.out HGB.out _ _ _))
          go_quiet (fail)
          go_wp2_with fail
          go_roundg (gk - 1)
          case measure => have := HK.out; have := HKL.out; omega
          case rel => exact ⟨k + 1, cl, wrap_step HKL.out HL.out, ⟨by have := HK.out; have := HKL.out; omega⟩, ⟨by rw [take_step HKL.out HX.out, if_neg (by rw [Hf1.out, Hg1.out]; simp), List.append_nil]; exact HC.out⟩, ⟨Kd.R_mono (Kd.R_drewN (tower_R HO6.out _ _ _) _) (fun _ _ => trivial)⟩, ⟨pw_below_drewN (tower_below HB6.out HGB.out _ _ _) _⟩⟩
    · have hlt : decide ((k : Int) < (l.length : Int)) = false := decide_eq_false (by omega)
      have HE : cl = l.filter fun a => f a.f1 || gl a.f1 := by
        rw [HC.out, List.take_of_length_le (by omega)]
      obtain ⟨A2, c3, rfl, _, _⟩ := Kd.R_reads HO.out
      have HF2 := Lib.hid HE
      have hpb := (Array.getElem?_eq_some_iff.1 HP.out).1
      have hcl : ∀ (i : Nat) (z : Value), (pcells e g u n s)[i]? = some z → wr.cell? ⟨p, i, none⟩ = some z := fun i z hu => by simp only [World.cell?, HB.out.block p hpb, HP.out]; exact hu
      clear HE hpb
      by_cases h0 : cl.length = 0
      · have hc0 : ((cl.length : Int) == 0) = true := beq_iff_eq.2 (by omega)
        clear h0 hcl
        go_wp2_with fail
        rw [Exit.noGoto_ret]
        go_ret
        exact ⟨_, rfl, by rw [← HF2.out]; exact HO.out, HB.out⟩
      · have hc0 : ((cl.length : Int) == 0) = false := beq_eq_false_iff_ne.2 (by omega)
        have hn := fun W => run_neq_map_nil W 85 9 4 none Tryz.underlying85
        obtain ⟨kl, rl, hl⟩ := linkable_total element
        have q2 : wr.cell? ⟨p, 2, none⟩ = some (.bool false) := hcl 2 _ rfl
        have q3 : wr.cell? ⟨p, 3, none⟩ = some (.bool false) := hcl 3 _ rfl
        have q4 : wr.cell? ⟨p, 4, none⟩ = some (.bool false) := hcl 4 _ rfl
        have q5 : wr.cell? ⟨p, 5, none⟩ = some (.bool false) := hcl 5 _ rfl
        have q6 : wr.cell? ⟨p, 6, none⟩ = some (.bool false) := hcl 6 _ rfl
        have q7 : wr.cell? ⟨p, 7, none⟩ = some (.map none) := hcl 7 _ rfl
        have q8 : wr.cell? ⟨p, 8, none⟩ = some (.bool false) := hcl 8 _ rfl
        have q9 : wr.cell? ⟨p, 9, none⟩ = some (.bool false) := hcl 9 _ rfl
        clear h0 hcl
        cases rl
        · go_wp2_with (go_at_call 99; refine (bluemonday_linkable.calls kl element false wr hl).mono ?_; rintro e w' ⟨rfl, hd⟩; obtain ⟨nd, rfl⟩ := hd.out)
          rw [Exit.noGoto_ret]
          go_ret
          exact ⟨_, rfl, by rw [← HF2.out]; exact Kd.R_drewN HO.out _, pw_below_drewN HB.out _⟩
        · go_wp2_with (go_at_call 99; refine (bluemonday_linkable.calls kl element true wr hl).mono ?_; rintro e w' ⟨rfl, hd⟩; obtain ⟨nd, rfl⟩ := hd.out)
          rw [Exit.noGoto_ret]
          go_ret
          exact ⟨_, rfl, by rw [← HF2.out]; exact Kd.R_drewN HO.out _, pw_below_drewN HB.out _⟩
end Go.Proofs.YtlgacgiikmkfcaaGreatDoor
