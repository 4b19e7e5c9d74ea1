/- The arguments opened: what a reading says of []Call and []Attr, as the printed rows; and a bound by the reading's bulk. -/
import Derived.Test.YtlgacgiikmkfcaaGreatDoorLaw2
import Derived.Test.YtlgacgiikmkfcaaGreatDoorRows
import Derived.Deep.Slices
import Derived.ChangeSame
namespace Go.Proofs.YtlgacgiikmkfcaaGreatDoor
open Go.RowKit M Go.Proofs.YtlgacgiikmkfcaaGreatDoor.PFnAttrs Go.Proofs.YtlgacgiikmkfcaaGreatDoorW.PrintWords Go.Proofs.YtlgacgiikmkfcaaGreatDoorW.PrintLast Go.Deep
namespace M
section
variable {H : Type} {enc : TypeId × Value → H} {w : World} {base : Nat} {spare : Nat → Bool} {held : Bool}

theorem bulk_map {n : Nat} {μ : Nat → Nat} {D : Nat → DataW H} (l : List Nat) (hl : ∀ i ∈ l, i < n) (h : ∀ i, i < n → μ i ≤ Rows.uptoBulk (D i)) : (l.map μ).sum ≤ Rows.uptoBulkAll (l.map D) := by
  induction l with
  | nil => simp [Rows.uptoBulkAll]
  | cons i r ih =>
    have h1 := h i (hl i List.mem_cons_self)
    have h2 := ih (fun j hj => hl j (List.mem_cons_of_mem _ hj))
    simp only [List.map_cons, List.sum_cons, Rows.uptoBulkAll]
    omega

/-- A SLICE AS A ROW: where each element's cells are told by d, and weigh no more than they read. -/
theorem C_open {α : Type} [Inhabited α] (d : Kd α) (μ : α → Nat) {t e : TypeId} {fuel : Nat} {cs : List Value} {x : DataW H × List MemPlace} (ht : Tryz.prog.underlying t = some (.slice e)) (hsz : Tryz.prog.cellsOf e = d.sz) (hmax : maxLen ≤ 9223372036854775807)
    (hK : ∀ (n : Nat) (cs' : List Value) (y : DataW H × List MemPlace), cs'.length = d.sz → DataW.trod enc Tryz.prog w base spare held n e cs' = some y → ∃ a : α, d.K w a cs' ∧ μ a ≤ Rows.uptoBulk y.1)
    (h : DataW.trod enc Tryz.prog w base spare held fuel t cs = some x) :
    ∃ (A : Option Addr) (cap : Nat) (xs : List α), cs = [.slice A xs.length cap] ∧ xs.length ≤ cap ∧ d.C w A xs.length xs ∧ (xs.map μ).sum ≤ Rows.uptoBulk x.1 := by
  rcases open_slice ht h with ⟨rfl, rfl⟩ | ⟨a, len, cap, m, n, D, Pl, rfl, hb, hl, hm, hmm, rfl, hx⟩
  · exact ⟨none, 0, [], rfl, Nat.le_refl _, ⟨rfl, by simp, fun h => by simp at h⟩, by simp⟩
  have hlm : len ≤ m := by rw [hmm]; split <;> omega
  have each : ∀ i, i < len → ∃ y : α, (∃ cs', w.cells? base (a.add (i * d.sz)) d.sz = some cs' ∧ d.K w y cs') ∧ μ y ≤ Rows.uptoBulk (D i) := by
    intro i hi
    obtain ⟨cs', h1, h2⟩ := hx i (by omega)
    rw [hsz] at h1
    obtain ⟨_, hlen, _⟩ := World.cells?_some h1
    obtain ⟨y, hy, hμ⟩ := hK n cs' _ hlen h2
    exact ⟨y, ⟨cs', h1, hy⟩, hμ⟩
  obtain ⟨q, hq⟩ := choose_lt each
  have hlen : ((List.range len).map q).length = len := by simp
  refine ⟨some a, cap, (List.range len).map q, by rw [hlen], by rw [hlen]; exact hl, ⟨rfl, by rw [hlen]; omega, fun _ => ⟨a, rfl, fun j y hj => ?_⟩⟩, ?_⟩
  · obtain ⟨hj1, hj2⟩ := List.getElem?_eq_some_iff.1 hj
    have hjl : j < len := by simpa using hj1
    have hy : y = q j := by simpa using hj2.symm
    subst hy
    obtain ⟨⟨cs', h1, h2⟩, _⟩ := hq j hjl
    obtain ⟨_, hl', hcell⟩ := World.cells?_some h1
    refine ⟨cs', hl', h2, fun i u hu => ?_⟩
    have hi : i < d.sz := by
      have := (List.getElem?_eq_some_iff.1 hu).1
      omega
    have := hcell i hi
    rw [Go.Deep.add_add] at this
    rw [this, hu]
  · rw [List.map_map]
    have := bulk_map (n := len) (μ := μ ∘ q) (D := D) (List.range len) (fun i hi => List.mem_range.1 hi) (fun i hi => (hq i hi).2)
    simp only [Rows.uptoBulk]
    omega

theorem cells9 : Tryz.prog.cellsOf 9 = 1 := by kernel_rfl
theorem cells44 : Tryz.prog.cellsOf 44 = 2 := by kernel_rfl
theorem cells49 : Tryz.prog.cellsOf 49 = 4 := by kernel_rfl
theorem cells3 : Tryz.prog.cellsOf 3 = 1 := by kernel_rfl
theorem cells32 : Tryz.prog.cellsOf 32 = 1 := by kernel_rfl
theorem cells4 : Tryz.prog.cellsOf 4 = 1 := by kernel_rfl
instance : Inhabited S44 := ⟨z44⟩
instance : Inhabited S49 := ⟨⟨0, [], [], false⟩⟩

theorem bulk_pos (d : DataW H) : 1 ≤ Rows.uptoBulk d := by
  cases d with
  | lit l => cases l <;> simp [Rows.uptoBulk]
  | _ => simp [Rows.uptoBulk]

theorem sum_ones (xs : List ByteArray) : (xs.map fun _ => 1).sum = xs.length := by
  induction xs with
  | nil => rfl
  | cons x r ih => simp only [List.map_cons, List.sum_cons, ih, List.length_cons]; omega

theorem strs_open {fuel : Nat} {cs : List Value} {x : DataW H × List MemPlace} (h : DataW.trod enc Tryz.prog w base spare held fuel 32 cs = some x) :
    ∃ (A : Option Addr) (cap : Nat) (xs : List ByteArray), cs = [.slice A xs.length cap] ∧ xs.length ≤ cap ∧ Kd.string.C w A xs.length xs ∧ xs.length + 0 ≤ Rows.uptoBulk x.1 := by
  obtain ⟨A, cap, xs, h1, h2, h3, h4⟩ := C_open Kd.string (fun _ => 1) Tryz.underlying32 cells9 (by unfold maxLen; omega) (fun n cs' y _ hy => by
    obtain ⟨s, rfl, rfl, _⟩ := DataW.trod_string Tryz.underlying9 hy
    exact ⟨s, rfl, bulk_pos _⟩) h
  refine ⟨A, cap, xs, h1, h2, h3, ?_⟩
  rw [sum_ones] at h4
  exact h4

set_option maxRecDepth 100000 in
theorem attrs_open {fuel : Nat} {cs : List Value} {x : DataW H × List MemPlace} (h : DataW.trod enc Tryz.prog w base spare held fuel 35 cs = some x) :
    ∃ (A : Option Addr) (cap : Nat) (xs : List S44), cs = [.slice A xs.length cap] ∧ xs.length ≤ cap ∧ Kd.C k44 w A xs.length xs ∧ (xs.map fun _ => 0).sum ≤ Rows.uptoBulk x.1 :=
  C_open k44 (fun _ => 0) Tryz.underlying35 cells44 (by unfold maxLen; omega) (fun n cs' y hl hy => by
    obtain ⟨xs, k, rfl, rfl, _, hxl, hf⟩ := DataW.trod_struct Tryz.underlying44 hy
    have g0 := hf 0 _ rfl
    have g1 := hf 1 _ rfl
    have hx2 : xs.length = 2 := hxl
    have hl2 : cs'.length = 2 := hl
    clear hxl hl
    match xs, hx2, cs', hl2 with
    | [y0, y1], _, [v0, v1], _ =>
      have g0 : DataW.trod enc Tryz.prog w base spare held k 9 (([v0, v1].drop 0).take (Tryz.prog.cellsOf 9)) = some y0 := g0
      rw [cells9] at g0
      have g1 : DataW.trod enc Tryz.prog w base spare held k 9 (([v0, v1].drop 1).take (Tryz.prog.cellsOf 9)) = some y1 := g1
      rw [cells9] at g1
      obtain ⟨s0, e0, _⟩ := DataW.trod_string Tryz.underlying9 (show DataW.trod enc Tryz.prog w base spare held k 9 [v0] = some y0 from g0)
      obtain ⟨s1, e1, _⟩ := DataW.trod_string Tryz.underlying9 (show DataW.trod enc Tryz.prog w base spare held k 9 [v1] = some y1 from g1)
      injection e0 with e0 _
      injection e1 with e1 _
      subst e0 e1
      exact ⟨⟨s0, s1⟩, k44_mk w _, Nat.zero_le _⟩) h

set_option maxRecDepth 100000 in
theorem calls_open {fuel : Nat} {cs : List Value} {x : DataW H × List MemPlace} (h : DataW.trod enc Tryz.prog w base spare held fuel 22 cs = some x) :
    ∃ (A : Option Addr) (cap : Nat) (xs : List S49), cs = [.slice A xs.length cap] ∧ xs.length ≤ cap ∧ Kd.C k49 w A xs.length xs ∧ wt xs ≤ Rows.uptoBulk x.1 :=
  C_open k49 (fun c => c.f1.length + c.f2.length + 1) Tryz.underlying22 cells49 (by unfold maxLen; omega) (fun n cs' y hl hy => by
    obtain ⟨xs, k, rfl, rfl, _, hxl, hf⟩ := DataW.trod_struct Tryz.underlying49 hy
    have g0 := hf 0 _ rfl
    have g1 := hf 1 _ rfl
    have g2 := hf 2 _ rfl
    have g3 := hf 3 _ rfl
    have hx2 : xs.length = 4 := hxl
    have hl2 : cs'.length = 4 := hl
    clear hxl hl
    match xs, hx2, cs', hl2 with
    | [y0, y1, y2, y3], _, [v0, v1, v2, v3], _ =>
      have g0 : DataW.trod enc Tryz.prog w base spare held k 3 (([v0, v1, v2, v3].drop 0).take (Tryz.prog.cellsOf 3)) = some y0 := g0
      rw [cells3] at g0
      have g1 : DataW.trod enc Tryz.prog w base spare held k 32 (([v0, v1, v2, v3].drop 1).take (Tryz.prog.cellsOf 32)) = some y1 := g1
      rw [cells32] at g1
      have g2 : DataW.trod enc Tryz.prog w base spare held k 32 (([v0, v1, v2, v3].drop 2).take (Tryz.prog.cellsOf 32)) = some y2 := g2
      rw [cells32] at g2
      have g3 : DataW.trod enc Tryz.prog w base spare held k 4 (([v0, v1, v2, v3].drop 3).take (Tryz.prog.cellsOf 4)) = some y3 := g3
      rw [cells4] at g3
      obtain ⟨n0, e0, _⟩ := DataW.trod_int Tryz.underlying3 (show DataW.trod enc Tryz.prog w base spare held k 3 [v0] = some y0 from g0)
      obtain ⟨A1, c1, s1, e1, l1, C1, m1⟩ := strs_open (show DataW.trod enc Tryz.prog w base spare held k 32 [v1] = some y1 from g1)
      obtain ⟨A2, c2, s2, e2, l2, C2, m2⟩ := strs_open (show DataW.trod enc Tryz.prog w base spare held k 32 [v2] = some y2 from g2)
      obtain ⟨b3, e3, _⟩ := DataW.trod_bool Tryz.underlying4 (show DataW.trod enc Tryz.prog w base spare held k 4 [v3] = some y3 from g3)
      injection e0 with e0 _
      injection e1 with e1 _
      injection e2 with e2 _
      injection e3 with e3 _
      subst e0 e1 e2 e3
      refine ⟨⟨n0, s1, s2, b3⟩, k49_mk w _ l1 C1 l2 C2, ?_⟩
      have p0 := bulk_pos y0.1
      have p3 := bulk_pos y3.1
      simp only [List.map_cons, List.map_nil, Rows.uptoBulk, Rows.uptoBulkAll]
      omega) h
end
end M
end Go.Proofs.YtlgacgiikmkfcaaGreatDoor
