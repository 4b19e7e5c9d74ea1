/- The policy in memory: its struct, the map of elements, the maps of attributes, and their rows; what an operation on one of them leaves of it. -/
import Derived.Test.YtlgacgiikmkfcaaGreatDoorMaps
import Derived.Below
namespace Go.Proofs.YtlgacgiikmkfcaaGreatDoor.M
open Go.RowKit

/-- Outside ok (and what is new) the world is as it was. -/
structure Off (ok : Nat → Prop) (w w' : World) : Prop where
  os : w'.os = w.os
  tape : w'.tape = w.tape
  output : w'.output = w.output
  size : w.heap.size ≤ w'.heap.size
  block : ∀ k, k < w.heap.size → ¬ ok k → w'.heap[k]? = w.heap[k]?

theorem Off.refl (ok : Nat → Prop) (w : World) : Off ok w w := ⟨rfl, rfl, rfl, Nat.le_refl _, fun _ _ _ => rfl⟩
theorem Off.trans {ok ok' : Nat → Prop} {a b c : World} (h : Off ok a b) (k : Off ok' b c) (hok : ∀ i, i < a.heap.size → ok' i → ok i) : Off ok a c :=
  ⟨k.os.trans h.os, k.tape.trans h.tape, k.output.trans h.output, Nat.le_trans h.size k.size, fun i hi hn => (k.block i (Nat.lt_of_lt_of_le hi h.size) (fun x => hn (hok i hi x))).trans (h.block i hi hn)⟩
theorem Off.trans_same {ok : Nat → Prop} {a b c : World} (h : Off ok a b) (k : Off ok b c) : Off ok a c := h.trans k (fun _ _ x => x)
theorem Off.mono {ok ok' : Nat → Prop} {a b : World} (h : Off ok a b) (hok : ∀ i, ok i → ok' i) : Off ok' a b :=
  ⟨h.os, h.tape, h.output, h.size, fun i hi hn => h.block i hi (fun x => hn (hok i x))⟩
theorem Off.drew {ok : Nat → Prop} {a b : World} (h : Off ok a b) : Off ok a b.drew := ⟨h.os, h.tape, h.output, h.size, h.block⟩
theorem Off.alloc {ok : Nat → Prop} {a b : World} (h : Off ok a b) (o : Obj) : Off ok a (b.alloc o) :=
  h.trans_same ⟨rfl, rfl, rfl, by simp, fun k hk _ => Below.heap_alloc _ _ _ hk⟩
theorem Off.grown {ok : Nat → Prop} {a b c : World} {row : Option Nat} (h : Off ok a b) (hg : b.grownBy c row) (hr : ∀ k, row = some k → k < a.heap.size → ok k) : Off ok a c :=
  ⟨hg.os.trans h.os, hg.tape.trans h.tape, hg.output.trans h.output, Nat.le_trans h.size hg.size, fun i hi hn =>
    (hg.block i (Nat.lt_of_lt_of_le hi h.size) (fun e => hn (hr i e.symm hi))).trans (h.block i hi hn)⟩
theorem Off.setCell {ok : Nat → Prop} {a b : World} (h : Off ok a b) {p : Addr} (hp : p.block < a.heap.size → ok p.block) (u : Value) : Off ok a (b.setCell p u) :=
  h.trans (ok' := fun i => i = p.block) ⟨rfl, rfl, rfl, by simp [World.setCell], fun k _ hn => Below.heap_setCell _ _ _ _ hn⟩ (fun i hi e => by subst e; exact hp hi)
theorem Off.below {ok : Nat → Prop} {B : Nat} {a b : World} (h : Off ok a b) (hB : B ≤ a.heap.size) (hok : ∀ k, ok k → B ≤ k) : Below B a b :=
  ⟨h.os, h.tape, h.output, h.size, fun k hk => h.block k (by omega) (fun x => by have := hok k x; omega)⟩

def pcells (e g u n s : Nat) : Array Value := #[.bool true, .bool false, .bool false, .bool false, .bool false, .bool false, .bool false, .map none, .bool false, .bool false, .bool false, .bool false, .bool false, .map (some e), .map (some g), .map (some u), .map (some n), .map (some s), .bool false]

/-- m is the map of an element's attributes. -/
def Inn (LE : List (ByteArray × Value)) (m : Nat) : Prop := ∃ k, mget LE k = some (.map (some m))

/-- A row of n marks 'no expression'. -/
def RowOf (w : World) (K : Nat) (v : Value) : Prop := ∃ n, 0 < n ∧ n ≤ K ∧ w.ownsRow 0 119 1 v n (List.replicate n (.int .u8 0))

theorem RowOf.block {w : World} {K : Nat} {v : Value} (h : RowOf w K v) : ∃ b cells, v.ownBlock = some b ∧ w.heap[b]? = some (.cells cells 119 (0, 0)) := by
  obtain ⟨n, h0, _, h1, h2⟩ := h
  rcases h2 with ⟨_, rfl⟩ | ⟨g, cap, cur, rfl, _, hg, _⟩
  · omega
  · exact ⟨g, cur, rfl, hg⟩
theorem RowOf.move {w w' : World} {K K' : Nat} {v : Value} (h : RowOf w K v) (hK : K ≤ K') (hm : ∀ b, v.ownBlock = some b → w'.heap[b]? = w.heap[b]?) : RowOf w' K' v := by
  obtain ⟨n, h0, h1, h2, h3⟩ := h
  refine ⟨n, h0, by omega, h2, ?_⟩
  rcases h3 with h3 | ⟨g, cap, cur, rfl, r1, hg, r2⟩
  · exact .inl h3
  · exact .inr ⟨g, cap, cur, rfl, r1, by rw [hm g rfl]; exact hg, r2⟩

structure PolAt (ok : Nat → Prop) (K : Nat) (w : World) (p e g u n s : Nat) (LE : List (ByteArray × Value)) (L : Nat → List (ByteArray × Value)) : Prop where
  cell : w.heap[p]? = some (.cells (pcells e g u n s) 90 (0, 0))
  okp : ok p
  oke : ok e
  okn : ok n
  en : e ≠ n
  me : MapIs w e LE
  mn : ∃ LN, MapIs w n LN
  mi : ∀ m, m = g ∨ Inn LE m → MapIs w m (L m) ∧ ok m ∧ m ≠ e ∧ m ≠ n
  ig : ¬ Inn LE g
  inj : ∀ k k' m, mget LE k = some (.map (some m)) → mget LE k' = some (.map (some m)) → k = k'
  vals : ∀ k v, mget LE k = some v → ∃ m, v = .map (some m)
  rows : ∀ m k v, m = g ∨ Inn LE m → mget (L m) k = some v → RowOf w K v ∧ ∀ b, v.ownBlock = some b → ok b
  rinj : ∀ m k v m' k' v', m = g ∨ Inn LE m → mget (L m) k = some v → m' = g ∨ Inn LE m' → mget (L m') k' = some v' → v.ownBlock = v'.ownBlock → m = m' ∧ k = k'

def elOf (LE : List (ByteArray × Value)) (L : Nat → List (ByteArray × Value)) (k : ByteArray) : Option (ByteArray → Bool) :=
  match mget LE k with
  | some (.map (some m)) => some (fun a => (mget (L m) a).isSome)
  | _ => none
def glOf (L : Nat → List (ByteArray × Value)) (g : Nat) (a : ByteArray) : Bool := (mget (L g) a).isSome

theorem PolAt.move {ok : Nat → Prop} {K : Nat} {w w' : World} {p e g u n s : Nat} {LE : List (ByteArray × Value)} {L : Nat → List (ByteArray × Value)} (h : PolAt ok K w p e g u n s LE L)
    (hm : ∀ k, ok k → k < w.heap.size → w'.heap[k]? = w.heap[k]?) : PolAt ok K w' p e g u n s LE L where
  cell := by rw [hm p h.okp (Array.getElem?_eq_some_iff.1 h.cell).1]; exact h.cell
  okp := h.okp
  oke := h.oke
  okn := h.okn
  en := h.en
  me := h.me.move (hm e h.oke h.me.lt)
  mn := by obtain ⟨LN, hN⟩ := h.mn; exact ⟨LN, hN.move (hm n h.okn hN.lt)⟩
  mi m hmm := by
    obtain ⟨a, b, c⟩ := h.mi m hmm
    exact ⟨a.move (hm m b a.lt), b, c⟩
  ig := h.ig
  inj := h.inj
  vals := h.vals
  rows m k v hmm hv := by
    obtain ⟨a, b⟩ := h.rows m k v hmm hv
    refine ⟨a.move (Nat.le_refl _) (fun x hx => hm x (b x hx) ?_), b⟩
    obtain ⟨x', cells, h1, h2⟩ := a.block
    rw [hx] at h1
    injection h1 with h1
    subst h1
    exact (Array.getElem?_eq_some_iff.1 h2).1
  rinj := h.rinj

theorem PolAt.mono {ok ok' : Nat → Prop} {K K' : Nat} {w : World} {p e g u n s : Nat} {LE : List (ByteArray × Value)} {L : Nat → List (ByteArray × Value)} (h : PolAt ok K w p e g u n s LE L)
    (hok : ∀ k, ok k → ok' k) (hK : K ≤ K') : PolAt ok' K' w p e g u n s LE L where
  cell := h.cell
  okp := hok _ h.okp
  oke := hok _ h.oke
  okn := hok _ h.okn
  en := h.en
  me := h.me
  mn := h.mn
  mi m hmm := by obtain ⟨a, b, c⟩ := h.mi m hmm; exact ⟨a, hok _ b, c⟩
  ig := h.ig
  inj := h.inj
  vals := h.vals
  rows m k v hmm hv := by
    obtain ⟨a, b⟩ := h.rows m k v hmm hv
    exact ⟨a.move hK (fun _ _ => rfl), fun x hx => hok _ (b x hx)⟩
  rinj := h.rinj

/-- A new element: an empty map of attributes, made anew, is laid into the map of elements. -/
theorem PolAt.addEl {ok : Nat → Prop} {K : Nat} {w w' : World} {p e g u n s : Nat} {LE : List (ByteArray × Value)} {L : Nat → List (ByteArray × Value)} (h : PolAt ok K w p e g u n s LE L)
    (k : ByteArray) (hU : MapIs w' e (mput LE k (.map (some w.heap.size)))) (hg : (w.alloc (.map #[] 0)).grownBy w' (some e)) :
    PolAt (fun i => ok i ∨ w.heap.size ≤ i) K w' p e g u n s (mput LE k (.map (some w.heap.size))) (fun x => if x = w.heap.size then [] else L x) := by
  have hlt : ∀ i o, w.heap[i]? = some o → i < w.heap.size := fun i o hi => (Array.getElem?_eq_some_iff.1 hi).1
  have hsame : ∀ i, i < w.heap.size → i ≠ e → w'.heap[i]? = w.heap[i]? := fun i hi hne => by
    rw [hg.block i (by simp; omega) (fun x => hne (by injection x)), Below.heap_alloc _ _ _ hi]
  have hnew : w'.heap[w.heap.size]? = some (.map #[] 0) := by
    rw [hg.block _ (by simp) (fun x => by have := h.me.lt; injection x with x; omega)]
    exact heap_alloc_new w _
  have hget : ∀ k', mget (mput LE k (.map (some w.heap.size))) k' = if k = k' then some (.map (some w.heap.size)) else mget LE k' := fun k' => mget_mput LE k k' _
  have hinn : ∀ m, Inn (mput LE k (.map (some w.heap.size))) m → m = w.heap.size ∨ Inn LE m := by
    rintro m ⟨k', hk'⟩
    rw [hget] at hk'
    by_cases hkk : k = k'
    · rw [if_pos hkk] at hk'
      simp only [Option.some.injEq, Value.map.injEq] at hk'
      exact .inl hk'.symm
    · rw [if_neg hkk] at hk'
      exact .inr ⟨k', hk'⟩
  have hold : ∀ m, m = g ∨ Inn LE m → m < w.heap.size := fun m hm => (h.mi m hm).1.lt
  have hcase : ∀ m, m = g ∨ Inn (mput LE k (.map (some w.heap.size))) m → m = w.heap.size ∨ (m ≠ w.heap.size ∧ (m = g ∨ Inn LE m)) := by
    intro m hm
    by_cases hms : m = w.heap.size
    · exact .inl hms
    · refine .inr ⟨hms, ?_⟩
      rcases hm with hm | hm
      · exact .inl hm
      · rcases hinn m hm with h1 | h1
        · exact absurd h1 hms
        · exact .inr h1
  have hpne : p ≠ e := by
    rintro rfl
    obtain ⟨es, clk, h1, _⟩ := h.me
    have := h.cell
    rw [h1] at this
    simp at this
  refine ⟨?_, .inl h.okp, .inl h.oke, .inl h.okn, h.en, hU, ?_, ?_, ?_, ?_, ?_, ?_, ?_⟩
  · rw [hsame p (hlt _ _ h.cell) hpne]; exact h.cell
  · obtain ⟨LN, hN⟩ := h.mn
    exact ⟨LN, hN.move (hsame n hN.lt (Ne.symm h.en))⟩
  · intro m hm
    rcases hcase m hm with rfl | ⟨hne, hm'⟩
    · refine ⟨⟨#[], 0, hnew, by simp⟩, .inr (Nat.le_refl _), fun x => ?_, fun x => ?_⟩
      · have := h.me.lt; omega
      · obtain ⟨LN, hN⟩ := h.mn; have := hN.lt; omega
    · obtain ⟨a, b, c, d⟩ := h.mi m hm'
      rw [if_neg hne]
      exact ⟨a.move (hsame m a.lt c), .inl b, c, d⟩
  · intro hgg
    rcases hinn g hgg with h1 | h1
    · have := hold g (.inl rfl); omega
    · exact h.ig h1
  · intro k1 k2 m h1 h2
    rw [hget] at h1 h2
    by_cases e1 : k = k1
    · by_cases e2 : k = k2
      · rw [← e1, ← e2]
      · rw [if_pos e1] at h1
        rw [if_neg e2] at h2
        simp only [Option.some.injEq, Value.map.injEq] at h1
        have := hold m (.inr ⟨k2, h2⟩)
        omega
    · rw [if_neg e1] at h1
      by_cases e2 : k = k2
      · rw [if_pos e2] at h2
        simp only [Option.some.injEq, Value.map.injEq] at h2
        have := hold m (.inr ⟨k1, h1⟩)
        omega
      · rw [if_neg e2] at h2
        exact h.inj k1 k2 m h1 h2
  · intro k1 v h1
    rw [hget] at h1
    by_cases e1 : k = k1
    · rw [if_pos e1] at h1
      exact ⟨_, (Option.some.inj h1).symm⟩
    · rw [if_neg e1] at h1
      exact h.vals k1 v h1
  · intro m k1 v hm hv
    rcases hcase m hm with rfl | ⟨hne, hm'⟩
    · simp [mget] at hv
    · simp only [if_neg hne] at hv
      obtain ⟨a, b⟩ := h.rows m k1 v hm' hv
      refine ⟨a.move (Nat.le_refl _) (fun x hx => ?_), fun x hx => .inl (b x hx)⟩
      obtain ⟨x', cells, h1, h2⟩ := a.block
      rw [hx] at h1
      injection h1 with h1
      subst h1
      refine hsame x (hlt _ _ h2) ?_
      rintro rfl
      obtain ⟨es, clk, h3, _⟩ := h.me
      rw [h2] at h3
      simp at h3
  · intro m k1 v m' k2 v' hm hv hm' hv' hb
    rcases hcase m hm with rfl | ⟨hne, hm1⟩
    · simp [mget] at hv
    · rcases hcase m' hm' with rfl | ⟨hne', hm1'⟩
      · simp [mget] at hv'
      · simp only [if_neg hne] at hv
        simp only [if_neg hne'] at hv'
        exact h.rinj m k1 v m' k2 v' hm1 hv hm1' hv' hb

/-- A row of an attribute is laid anew (it has grown, or is a new one). -/
theorem PolAt.setRow {ok : Nat → Prop} {K : Nat} {w w1 w2 : World} {p e g u n s : Nat} {LE : List (ByteArray × Value)} {L : Nat → List (ByteArray × Value)} (h : PolAt ok K w p e g u n s LE L)
    (m : Nat) (hm : m = g ∨ Inn LE m) (a : ByteArray) (v1 : Value) (hrow : RowOf w1 (K + 1) v1)
    (hoff : ∀ k, ok k → k < w.heap.size → k ≠ m → (∀ v0, mget (L m) a = some v0 → v0.ownBlock ≠ some k) → w1.heap[k]? = w.heap[k]?) (hm1 : ∃ L', MapIs w1 m L')
    (hfresh : (∃ v0, mget (L m) a = some v0 ∧ v1.ownBlock = v0.ownBlock) ∨ (∃ b, v1.ownBlock = some b ∧ w.heap.size ≤ b))
    (hU : MapIs w2 m (mput (L m) a v1)) (hg : w1.grownBy w2 (some m)) (hsz : w.heap.size ≤ w1.heap.size) :
    PolAt (fun i => ok i ∨ w.heap.size ≤ i) (K + 1) w2 p e g u n s LE (fun x => if x = m then mput (L m) a v1 else L x) := by
  have hlt : ∀ i o, w.heap[i]? = some o → i < w.heap.size := fun i o hi => (Array.getElem?_eq_some_iff.1 hi).1
  -- a block that is no row of attributes
  have hnorow : ∀ k, k < w.heap.size → (∀ cells, w.heap[k]? ≠ some (.cells cells 119 (0, 0))) → ok k → k ≠ m → w1.heap[k]? = w.heap[k]? := by
    intro k hk hc hok hkm
    refine hoff k hok hk hkm (fun v0 hv0 hb => ?_)
    obtain ⟨b, cells, h1, h2⟩ := (h.rows m a v0 hm hv0).1.block
    rw [hb] at h1
    injection h1 with h1
    subst h1
    exact hc cells h2
  have hmap : ∀ k LL, MapIs w k LL → ∀ cells, w.heap[k]? ≠ some (.cells cells 119 (0, 0)) := by
    intro k LL hk cells hc
    obtain ⟨es, clk, h1, _⟩ := hk
    rw [h1] at hc
    simp at hc
  have hsame : ∀ k, k < w.heap.size → (∀ cells, w.heap[k]? ≠ some (.cells cells 119 (0, 0))) → ok k → k ≠ m → w2.heap[k]? = w.heap[k]? := by
    intro k hk hc hok hne
    rw [hg.block k (by omega) (fun x => hne (by injection x)), hnorow k hk hc hok hne]
  have hmm := h.mi m hm
  have hmne : ∀ cells t f, w.heap[m]? ≠ some (.cells cells t f) := by
    intro cells t f hc
    obtain ⟨es, clk, h1, _⟩ := hmm.1
    rw [h1] at hc
    simp at hc
  have hrow2 : ∀ (v : Value) (b : Nat) (cells : Array Value), v.ownBlock = some b → w1.heap[b]? = some (.cells cells 119 (0, 0)) → w2.heap[b]? = w1.heap[b]? := by
    intro v b cells _ hb
    refine hg.block b (Array.getElem?_eq_some_iff.1 hb).1 (fun x => ?_)
    injection x with x
    subst x
    obtain ⟨L', es, clk, h1, _⟩ := hm1
    rw [hb] at h1
    simp at h1
  refine ⟨?_, .inl h.okp, .inl h.oke, .inl h.okn, h.en, ?_, ?_, ?_, h.ig, h.inj, h.vals, ?_, ?_⟩
  · rw [hsame p (hlt _ _ h.cell) (fun cells hc => by rw [h.cell] at hc; simp at hc) h.okp (fun x => by subst x; exact hmne _ _ _ h.cell)]
    exact h.cell
  · exact h.me.move (hsame e h.me.lt (hmap _ _ h.me) h.oke (fun x => hmm.2.2.1 x.symm))
  · obtain ⟨LN, hN⟩ := h.mn
    exact ⟨LN, hN.move (hsame n hN.lt (hmap _ _ hN) h.okn (fun x => hmm.2.2.2 x.symm))⟩
  · intro m' hm'
    obtain ⟨a1, b1, c1⟩ := h.mi m' hm'
    by_cases hx : m' = m
    · subst hx
      rw [if_pos rfl]
      exact ⟨hU, .inl b1, c1⟩
    · rw [if_neg hx]
      exact ⟨a1.move (hsame m' a1.lt (hmap _ _ a1) b1 hx), .inl b1, c1⟩
  · intro m' k v hm' hv
    have hold : ∀ (v : Value), mget (L m') k = some v → (m' = m → k ≠ a) → RowOf w2 (K + 1) v ∧ ∀ b, v.ownBlock = some b → ok b ∨ w.heap.size ≤ b := by
      intro v hv hne
      obtain ⟨r, o⟩ := h.rows m' k v hm' hv
      refine ⟨r.move (by omega) (fun b hb => ?_), fun b hb => .inl (o b hb)⟩
      obtain ⟨b', cells, h1, h2⟩ := r.block
      rw [hb] at h1
      injection h1 with h1
      subst h1
      have e1 : w1.heap[b]? = w.heap[b]? := by
        refine hoff b (o b hb) (hlt _ _ h2) (fun x => by subst x; exact hmne _ _ _ h2) (fun v0 hv0 hb0 => ?_)
        have := h.rinj m' k v m a v0 hm' hv hm hv0 (by rw [hb, hb0])
        exact hne this.1 this.2
      rw [hrow2 v b cells hb (by rw [e1]; exact h2), e1]
    by_cases hx : m' = m
    · subst hx
      simp only [if_true] at hv
      rw [mget_mput] at hv
      by_cases hk : a = k
      · rw [if_pos hk] at hv
        injection hv with hv
        subst hv
        refine ⟨hrow.move (Nat.le_refl _) (fun b hb => ?_), fun b hb => ?_⟩
        · obtain ⟨b', cells, h1, h2⟩ := hrow.block
          rw [hb] at h1
          injection h1 with h1
          subst h1
          exact hrow2 _ b cells hb h2
        · rcases hfresh with ⟨v0, hv0, he⟩ | ⟨b', hb', hle⟩
          · exact .inl ((h.rows _ a v0 hm hv0).2 b (by rw [← he]; exact hb))
          · rw [hb] at hb'
            injection hb' with hb'
            subst hb'
            exact .inr hle
      · rw [if_neg hk] at hv
        exact hold v hv (fun _ => Ne.symm hk)
    · simp only [if_neg hx] at hv
      exact hold v hv (fun e => absurd e hx)
  · have key : ∀ m' k v, m' = g ∨ Inn LE m' → mget (if m' = m then mput (L m) a v1 else L m') k = some v →
        (m' = m ∧ k = a ∧ v = v1) ∨ (mget (L m') k = some v ∧ (m' = m → k ≠ a)) := by
      intro m' k v _ hv
      by_cases hx : m' = m
      · rw [if_pos hx, mget_mput] at hv
        by_cases hk : a = k
        · rw [if_pos hk] at hv
          exact .inl ⟨hx, hk.symm, (Option.some.inj hv).symm⟩
        · rw [if_neg hk] at hv
          exact .inr ⟨by rw [hx]; exact hv, fun _ => Ne.symm hk⟩
      · rw [if_neg hx] at hv
        exact .inr ⟨hv, fun e => absurd e hx⟩
    have cross : ∀ (m' : Nat) (k : ByteArray) (v : Value), m' = g ∨ Inn LE m' → mget (L m') k = some v → (m' = m → k ≠ a) → v1.ownBlock ≠ v.ownBlock := by
      intro m' k v hm' hv hne he
      rcases hfresh with ⟨v0, hv0, he0⟩ | ⟨b, hb, hle⟩
      · have := h.rinj m' k v m a v0 hm' hv hm hv0 (by rw [← he, he0])
        exact hne this.1 this.2
      · obtain ⟨b', cells, h1, h2⟩ := (h.rows m' k v hm' hv).1.block
        rw [← he, hb] at h1
        injection h1 with h1
        subst h1
        have := hlt _ _ h2
        omega
    intro m' k v m'' k' v' hm' hv hm'' hv' hb
    rcases key m' k v hm' hv with ⟨h1, h2, h3⟩ | ⟨h1, h2⟩
    · rcases key m'' k' v' hm'' hv' with ⟨g1, g2, g3⟩ | ⟨g1, g2⟩
      · exact ⟨by rw [h1, g1], by rw [h2, g2]⟩
      · subst h3
        exact absurd hb (cross m'' k' v' hm'' g1 g2)
    · rcases key m'' k' v' hm'' hv' with ⟨g1, g2, g3⟩ | ⟨g1, g2⟩
      · subst g3
        exact absurd hb.symm (cross m' k v hm' h1 h2)
      · exact h.rinj m' k v m'' k' v' hm' h1 hm'' g1 hb

/-- The map of the elements that may be without attributes is written. -/
theorem PolAt.setNo {ok : Nat → Prop} {K : Nat} {w w' : World} {p e g u n s : Nat} {LE : List (ByteArray × Value)} {L : Nat → List (ByteArray × Value)} (h : PolAt ok K w p e g u n s LE L)
    {LN : List (ByteArray × Value)} (hU : MapIs w' n LN) (hg : w.grownBy w' (some n)) : PolAt ok K w' p e g u n s LE L := by
  have hlt : ∀ i o, w.heap[i]? = some o → i < w.heap.size := fun i o hi => (Array.getElem?_eq_some_iff.1 hi).1
  have hsame : ∀ k, k < w.heap.size → k ≠ n → w'.heap[k]? = w.heap[k]? := fun k hk hne => hg.block k hk (fun x => hne (by injection x))
  have hnn : ∀ cells t f, w.heap[n]? ≠ some (.cells cells t f) := by
    intro cells t f hc
    obtain ⟨LN', es, clk, h1, _⟩ := h.mn
    rw [h1] at hc
    simp at hc
  refine ⟨?_, h.okp, h.oke, h.okn, h.en, h.me.move (hsame e h.me.lt h.en), ⟨LN, hU⟩, ?_, h.ig, h.inj, h.vals, ?_, h.rinj⟩
  · rw [hsame p (hlt _ _ h.cell) (fun x => by subst x; exact hnn _ _ _ h.cell)]; exact h.cell
  · intro m hm
    obtain ⟨a, b, c, d⟩ := h.mi m hm
    exact ⟨a.move (hsame m a.lt d), b, c, d⟩
  · intro m k v hm hv
    obtain ⟨r, o⟩ := h.rows m k v hm hv
    refine ⟨r.move (Nat.le_refl _) (fun b hb => ?_), o⟩
    obtain ⟨b', cells, h1, h2⟩ := r.block
    rw [hb] at h1
    injection h1 with h1
    subst h1
    exact hsame b (hlt _ _ h2) (fun x => by subst x; exact hnn _ _ _ h2)
end Go.Proofs.YtlgacgiikmkfcaaGreatDoor.M
