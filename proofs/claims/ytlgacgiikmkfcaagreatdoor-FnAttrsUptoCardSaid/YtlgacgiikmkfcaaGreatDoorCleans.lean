/- Small lemmas ahead of FnAttrs; cleans (function 23) answers true. -/
import Derived.Test.YtlgacgiikmkfcaaGreatDoorLaw2
import Derived.Deep.QuietTactic
import Derived.BigQuiet
namespace Go.Proofs.YtlgacgiikmkfcaaGreatDoor
open Go.RowKit M Go.Proofs.YtlgacgiikmkfcaaGreatDoor.PFnAttrs Go.Proofs.YtlgacgiikmkfcaaGreatDoorW.PrintWords Go.Proofs.YtlgacgiikmkfcaaGreatDoorW.PrintLast
theorem heap49 : Kd.Heap k49 := Kd.heap_iso _ (Kd.heap_pair (Kd.heap_int _) (Kd.heap_pair (Kd.heap_slice _ Kd.heap_string) (Kd.heap_pair (Kd.heap_slice _ Kd.heap_string) Kd.heap_bool)))
theorem C_one (w : World) (x : ByteArray) : Kd.C Kd.string (w.alloc (.cells #[.string x] 9)) (some ⟨w.heap.size, 0, none⟩) 1 [x] := by
  refine ⟨rfl, by omega, fun _ => ⟨_, rfl, fun j y hj => ?_⟩⟩
  obtain ⟨hl, hy⟩ := List.getElem?_eq_some_iff.1 hj
  have hj0 : j = 0 := by simpa using hl
  subst hj0
  simp only [List.getElem_cons_zero] at hy
  subst hy
  refine ⟨[.string x], rfl, rfl, fun i u hu => ?_⟩
  obtain ⟨hl2, hu2⟩ := List.getElem?_eq_some_iff.1 hu
  have hi0 : i = 0 := by simpa using hl2
  subst hi0
  simp only [List.getElem_cons_zero] at hu2
  subst hu2
  exact (blk_cell (blk_new w (.cells #[.string x] 9)) 0).trans rfl
theorem rules_small {l : List S49} {r2 : List S63} (h : r2 = [] ++ l.flatMap rulesOf) (hw : wt l ≤ 1000000000) : ∀ r ∈ r2, r.f0.length ≤ 2147483647 ∧ r.f1.length ≤ 2147483647 := by
  subst h
  rw [List.nil_append]
  induction l with
  | nil => intro r hr; simp at hr
  | cons c t ih =>
    simp only [wt, List.map_cons, List.sum_cons] at hw
    intro r hr
    rw [List.flatMap_cons] at hr
    rcases List.mem_append.1 hr with hr | hr
    · unfold rulesOf at hr
      split at hr
      · split at hr
        · simp only [List.mem_singleton] at hr
          subst hr
          exact ⟨by simp only; omega, by simp only; omega⟩
        · simp at hr
      · split at hr
        · simp only [List.mem_singleton] at hr
          subst hr
          exact ⟨by simp only; omega, by simp⟩
        · simp at hr
    · exact ih (by unfold wt; omega) r hr

theorem blk_new' (w : World) (o : Obj) {n : Nat} (hn : n = w.heap.size) : (w.alloc o).heap[n]? = some o := by subst hn; exact blk_new w o
theorem C_lit {α : Type} {d : Kd α} {w : World} {g t : Nat} {cs : List Value} {xs : List α} (hr : Reps (d.K w) d.sz xs cs) (hn : xs.length ≤ 1000) (hb : w.heap[g]? = some (.cells cs.toArray t (0, 0))) : Kd.C d w (some ⟨g, 0, none⟩) xs.length xs := by
  refine ⟨rfl, by omega, fun _ => ⟨_, rfl, fun j y hj => ?_⟩⟩
  have hK := hr.2 j y hj
  refine ⟨_, d.K_len hK, hK, fun i u hu => ?_⟩
  have hadd : ∀ j, (⟨g, 0, none⟩ : Addr).add j = ⟨g, 0 + j, none⟩ := fun j => Addr.add_mid g 0 j
  rw [hadd, Nat.zero_add, blk_cell hb]
  rw [List.getElem?_take] at hu
  split at hu
  · rw [List.getElem?_drop] at hu
    simpa using hu
  · simp at hu

abbrev tId : ByteArray := ⟨#[105, 100]⟩
abbrev tP : ByteArray := ⟨#[112]⟩
abbrev tX : ByteArray := ⟨#[120]⟩
abbrev tT : ByteArray := ⟨#[116, 105, 116, 108, 101]⟩
abbrev tY : ByteArray := ⟨#[121]⟩
theorem clean_kept : (([⟨tId, tX⟩, ⟨tT, tY⟩] : List S44).filter fun a => keeps (([⟨1, [tId], [tP], false⟩] : List S49).foldl applyEl (fun _ => none)) (([⟨1, [tId], [tP], false⟩] : List S49).foldl applyGl (fun _ => false)) tP a.f0) = [⟨tId, tX⟩] := by
  have h : (fun a : S44 => keeps (([⟨1, [tId], [tP], false⟩] : List S49).foldl applyEl (fun _ => none)) (([⟨1, [tId], [tP], false⟩] : List S49).foldl applyGl (fun _ => false)) tP a.f0) = fun a => (([⟨1, [tId], [tP], false⟩] : List S49).flatMap rulesOf).any fun r => allows r tP a.f0 := by
    funext a
    rw [keeps_law]
    simp [keeps]
  rw [h]
  rfl
theorem clean_fine : ∀ c ∈ ([⟨1, [tId], [tP], false⟩] : List S49), Fine c := by
  intro c hc
  simp only [List.mem_singleton] at hc
  subst hc
  have h1 : Low tId := by unfold Low; decide
  have h2 : Low tP := by unfold Low; decide
  refine ⟨by simp, ?_, ?_, by simp, by simp⟩
  · intro x hx
    simp only [List.mem_singleton] at hx
    subst hx
    exact ⟨h1, by decide⟩
  · intro x hx
    simp only [List.mem_singleton] at hx
    subst hx
    exact ⟨h2, by decide⟩

set_option maxRecDepth 100000 in
set_option maxHeartbeats 4000000 in
theorem cleans_calls (w : World) : Calls Tryz.prog 23 #[] w fun e w' => e = .returned (.bool true) ∧ Below w.heap.size w w' := by
  have hc : ∀ W : World, W = ((((w.alloc (.cells #[.string tId] 9)).alloc (.cells #[.string tP] 9)).alloc (.cells #[.int .i64 1, .slice (some ⟨w.heap.size, 0, none⟩) 1 1, .slice (some ⟨w.heap.size + 1, 0, none⟩) 1 1, .bool false] 49)).alloc (.cells #[.string tId, .string tX, .string tT, .string tY] 44)) →
      Calls Tryz.prog 22 #[.int .i64 0, .slice (some ⟨w.heap.size + 1 + 1, 0, none⟩) 1 1, .string tP, .slice (some ⟨w.heap.size + 1 + 1 + 1, 0, none⟩) 2 2] W fun e w' => ∃ A c, e = .returned (.slice A 1 c) ∧ Kd.C k44 w' A 1 [⟨tId, tX⟩] ∧ Below w.heap.size w w' := by
    intro W hW
    have b0 : W.heap[w.heap.size]? = some (.cells #[.string tId] 9 (0, 0)) := by
      rw [hW]; exact blk_alloc (blk_alloc (blk_alloc (blk_new _ _) _) _) _
    have b1 : W.heap[w.heap.size + 1]? = some (.cells #[.string tP] 9 (0, 0)) := by
      rw [hW]; exact blk_alloc (blk_alloc (blk_new' _ _ (by simp)) _) _
    have b2 : W.heap[w.heap.size + 1 + 1]? = some (.cells #[.int .i64 1, .slice (some ⟨w.heap.size, 0, none⟩) 1 1, .slice (some ⟨w.heap.size + 1, 0, none⟩) 1 1, .bool false] 49 (0, 0)) := by
      rw [hW]; exact blk_alloc (blk_new' _ _ (by simp)) _
    have b3 : W.heap[w.heap.size + 1 + 1 + 1]? = some (.cells #[.string tId, .string tX, .string tT, .string tY] 44 (0, 0)) := by
      rw [hW]; exact blk_new' _ _ (by simp)
    have c0 : Kd.C Kd.string W (some ⟨w.heap.size, 0, none⟩) 1 [tId] := C_lit (cs := [.string tId]) (Reps.one rfl (Reps.none _ _)) (by simp) b0
    have c1 : Kd.C Kd.string W (some ⟨w.heap.size + 1, 0, none⟩) 1 [tP] := C_lit (cs := [.string tP]) (Reps.one rfl (Reps.none _ _)) (by simp) b1
    have c2 : Kd.C k49 W (some ⟨w.heap.size + 1 + 1, 0, none⟩) 1 [⟨1, [tId], [tP], false⟩] :=
      C_lit (cs := [.int .i64 1, .slice (some ⟨w.heap.size, 0, none⟩) 1 1, .slice (some ⟨w.heap.size + 1, 0, none⟩) 1 1, .bool false]) ((Reps.none _ _).snoc (k49_mk W ⟨1, [tId], [tP], false⟩ (Nat.le_refl _) c0 (Nat.le_refl _) c1) rfl) (by simp) b2
    have c3 : Kd.C k44 W (some ⟨w.heap.size + 1 + 1 + 1, 0, none⟩) 2 [⟨tId, tX⟩, ⟨tT, tY⟩] :=
      C_lit (cs := [.string tId, .string tX, .string tT, .string tY]) (((Reps.none _ _).snoc (k44_mk W ⟨tId, tX⟩) rfl).snoc (k44_mk W ⟨tT, tY⟩) rfl) (by simp) b3
    refine (cleanAttrs _ _ 1 2 [⟨1, [tId], [tP], false⟩] tP [⟨tId, tX⟩, ⟨tT, tY⟩] W c2 clean_fine (by simp) c3 (by simp) (by simp)).mono ?_
    rintro e w' ⟨v, rfl, hR, hB⟩
    rw [clean_kept] at hR
    obtain ⟨A, c, rfl, _, hC⟩ := Kd.R_reads hR
    have hBW : Below w.heap.size w W := by rw [hW]; exact below_alloc (below_alloc (below_alloc (below_alloc (Below.refl _ _) _) _) _) _
    exact ⟨A, c, rfl, hC, below_step hBW hB⟩
  have HC := Lib.hid hc
  clear hc
  go_enter Tryz.func23, Tryz.ntmps23
  go_wp2_with (go_at_call 22; refine (HC.out _ rfl).mono ?_; rintro e w9 ⟨A, c, rfl, hC, hBB⟩; have HBB := Lib.hid hBB; clear hBB; obtain ⟨ad, e1, hy0, hy1⟩ := at_T44 hC 0 (by omega) (by omega); cases e1; (have ha : ad.add (Int.toNat 0 * 2) = ad := Addr.add_zero' ad); rw [ha] at hy0 hy1; (have hy2 : w9.cell? ad = some (.string tId) := hy0); (have hy3 : w9.cell? ⟨ad.block, ad.off + 1, none⟩ = some (.string tX) := hy1); clear hy0 hy1 ha)
  go_ret
  exact ⟨rfl, HBB.out⟩
end Go.Proofs.YtlgacgiikmkfcaaGreatDoor
