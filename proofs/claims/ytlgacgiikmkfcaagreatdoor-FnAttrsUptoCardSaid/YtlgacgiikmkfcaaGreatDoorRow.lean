/- 'm[a] = append(m[a], mark)': laws for the walk, and what it leaves of the policy. -/
import Derived.Test.YtlgacgiikmkfcaaGreatDoorBuild
namespace Go.Proofs.YtlgacgiikmkfcaaGreatDoor
open Go.RowKit M
namespace M
section
variable {P : Program}
theorem step_lookup_raw {w : World} {ops : Array Oper} {o : Oper} {a : Act} {K : Act → World → Prop} {Q : Exit → Act → World → Prop} {E : Prop} (hgd : o.guard = none) (m x : Operand) (T : TypeId) (b : Bool)
    (ho : o.op = .lookup T m x b) (mm key v : Value) (hm : a.eval m = mm) (hx : a.eval x = key) (hrun : (Instr.lookup T mm key b).run P w = .ok v w) (h : K (a.put o.dst v) w) :
    if Region.wanted o (yielded ops a.tmps) = true then Oper.wp P o a w K Q else E := by
  have hw : Region.wanted o (yielded ops a.tmps) = true := by simp [Region.wanted, hgd]
  rw [if_pos hw]
  unfold Oper.wp
  simp [execOp, ho, hm, hx, hrun, Result.andThen]
  exact h
theorem step_update_raw {w : World} {ops : Array Oper} {o : Oper} {a : Act} {K : Act → World → Prop} {Q : Exit → Act → World → Prop} {E : Prop} (hgd : o.guard = none) (m x v : Operand) (T : TypeId)
    (ho : o.op = .mapUpdate T m x v) (KT ET : TypeId) (hT : P.underlying T = some (.map KT ET)) (hKT : P.underlying KT = some .string)
    (b : Nat) (L : List (ByteArray × Value)) (hmm : MapIs w b L) (hm : a.eval m = .map (some b)) (k : ByteArray) (hx : a.eval x = .string k) (val : Value) (hv : a.eval v = val)
    (hN : ∀ w', MapIs w' b (mput L k val) → w.grownBy w' (some b) → w'.heap.size = w.heap.size → K (a.put o.dst undef) w') :
    if Region.wanted o (yielded ops a.tmps) = true then Oper.wp P o a w K Q else E := by
  have hw : Region.wanted o (yielded ops a.tmps) = true := by simp [Region.wanted, hgd]
  rw [if_pos hw]
  obtain ⟨w', hrun, r1, r2, r3⟩ := run_update hT hKT hmm k val
  unfold Oper.wp
  simp [execOp, ho, hm, hx, hv, hrun, Result.andThen]
  exact hN w' r1 r2 r3
end

def addGl (gl : ByteArray → Bool) (a : ByteArray) : ByteArray → Bool := fun b => if a = b then true else gl b
def addAt (el : El) (x a : ByteArray) : El := fun y => if x = y then some (fun b => if a = b then true else ((el x).getD (fun _ => false)) b) else el y

theorem glOf_put {L : Nat → List (ByteArray × Value)} {g : Nat} {a : ByteArray} {v : Value} : glOf (fun y => if y = g then mput (L g) a v else L y) g = addGl (glOf L g) a := by
  funext b
  simp only [glOf, if_true, addGl, mget_mput]
  by_cases h : a = b <;> simp [h]
theorem elOf_putG {LE : List (ByteArray × Value)} {L : Nat → List (ByteArray × Value)} {g : Nat} (hg : ¬ Inn LE g) (l : List (ByteArray × Value)) : elOf LE (fun y => if y = g then l else L y) = elOf LE L := by
  funext y
  unfold elOf
  split
  · next m hm =>
    have : m ≠ g := by rintro rfl; exact hg ⟨y, hm⟩
    simp [this]
  · rfl
theorem glOf_putI {L : Nat → List (ByteArray × Value)} {g m : Nat} (hg : g ≠ m) (l : List (ByteArray × Value)) : glOf (fun y => if y = m then l else L y) g = glOf L g := by
  funext b
  simp [glOf, hg]
theorem elOf_putI {LE : List (ByteArray × Value)} {L : Nat → List (ByteArray × Value)} {m : Nat} {x a : ByteArray} {v : Value} (hx : mget LE x = some (.map (some m)))
    (inj : ∀ k k' m, mget LE k = some (.map (some m)) → mget LE k' = some (.map (some m)) → k = k') : elOf LE (fun y => if y = m then mput (L m) a v else L y) = addAt (elOf LE L) x a := by
  funext y
  by_cases hxy : x = y
  · subst hxy
    simp only [addAt, if_true]
    unfold elOf
    rw [hx]
    simp only [if_true, Option.getD_some, Option.some.injEq]
    funext b
    rw [mget_mput]
    by_cases h : a = b <;> simp [h]
  · simp only [addAt, if_neg hxy]
    unfold elOf
    split
    · next m' hm =>
      have : m' ≠ m := by rintro rfl; exact hxy (inj _ _ _ hx hm)
      simp [this]
    · rfl

/-- An attribute of an element that was not there. -/
theorem addAt_new {el : El} {x a : ByteArray} (h : el x = none) : addAt (fun y => if x = y then some (fun _ => false) else el y) x a = addAt el x a := by
  funext y
  by_cases hxy : x = y
  · subst hxy
    simp [addAt, h]
  · simp [addAt, hxy]

theorem pol_row {ok : Nat → Prop} {K : Nat} {wr W0 WW w1 w2 : World} {p e g u n s : Nat} {LE : List (ByteArray × Value)} {L : Nat → List (ByteArray × Value)} (h : PolAt ok K wr p e g u n s LE L)
    (m : Nat) (hm : m = g ∨ Inn LE m) (x : ByteArray) (v0 : Value) (n0 gg cap : Nat)
    (hW0 : ∀ k, k < wr.heap.size → k ≠ m → W0.heap[k]? = wr.heap[k]?) (hs : wr.heap.size ≤ W0.heap.size)
    (hv0 : mget (L m) x = some v0 ∨ ∀ b, v0.ownBlock = some b → wr.heap.size ≤ b) (hW : Below W0.heap.size W0 WW) (hg1 : WW.grownBy w1 v0.ownBlock) (hn0 : n0 ≤ K)
    (hown1 : w1.ownsRow 0 119 1 (.slice (some ⟨gg, 0, none⟩) (n0 + 1) cap) (n0 + 1) (List.replicate n0 (.int .u8 0) ++ [.int .u8 0])) (hat : v0.ownBlock = some gg ∨ wr.heap.size ≤ gg)
    (hm1 : ∃ L', MapIs w1 m L') (hU : MapIs w2 m (mput (L m) x (.slice (some ⟨gg, 0, none⟩) (n0 + 1) cap))) (hg2 : w1.grownBy w2 (some m)) :
    PolAt (fun i => ok i ∨ wr.heap.size ≤ i) (K + 1) w2 p e g u n s LE (fun y => if y = m then mput (L m) x (.slice (some ⟨gg, 0, none⟩) (n0 + 1) cap) else L y) := by
  refine h.setRow (w1 := w1) m hm x _ ⟨n0 + 1, by omega, by omega, ?_⟩ ?_ hm1 ?_ hU hg2 (by have := hW.size; have := hg1.size; omega)
  · rw [List.replicate_succ']
    exact hown1
  · intro k _ hk hkm hrow
    rw [hg1.block k (by have := hW.size; omega) ?_, hW.block k (by omega), hW0 k hk hkm]
    intro hb
    rcases hv0 with hv0 | hv0
    · exact hrow v0 hv0 hb.symm
    · have := hv0 k hb.symm
      omega
  · rcases hat with hat | hat
    · rcases hv0 with hv0 | hv0
      · exact .inl ⟨v0, hv0, hat.symm⟩
      · exact .inr ⟨gg, rfl, hv0 gg hat⟩
    · exact .inr ⟨gg, rfl, hat⟩
theorem info119 : (Tryz.prog.info? 119).map (fun i => (i.zero, i.size, i.bytes)) = some (some (.agg #[.int .u8 0]), 1, 1) := by kernel_rfl
theorem lookA_yes {w : World} {b : Nat} {L : List (ByteArray × Value)} (hm : MapIs w b L) (k : ByteArray) {v : Value} (hv : mget L k = some v) (okb : Bool) :
    (Instr.lookup 84 (.map (some b)) (.string k) okb).run Tryz.prog w = .ok (if okb then .tuple #[v, .bool true] else v) w := run_lookup_yes Tryz.underlying84 Tryz.underlying9 hm k hv okb
theorem lookA_no {w : World} {b : Nat} {L : List (ByteArray × Value)} (hm : MapIs w b L) (k : ByteArray) (hv : mget L k = none) (okb : Bool) :
    (Instr.lookup 84 (.map (some b)) (.string k) okb).run Tryz.prog w = .ok (if okb then .tuple #[.slice none 0 0, .bool false] else .slice none 0 0) w := run_lookup_no Tryz.underlying84 Tryz.underlying9 hm k hv (zero116 w) okb
theorem lookE_yes {w : World} {b : Nat} {L : List (ByteArray × Value)} (hm : MapIs w b L) (k : ByteArray) {v : Value} (hv : mget L k = some v) (okb : Bool) :
    (Instr.lookup 86 (.map (some b)) (.string k) okb).run Tryz.prog w = .ok (if okb then .tuple #[v, .bool true] else v) w := run_lookup_yes Tryz.underlying86 Tryz.underlying9 hm k hv okb
end M
end Go.Proofs.YtlgacgiikmkfcaaGreatDoor
