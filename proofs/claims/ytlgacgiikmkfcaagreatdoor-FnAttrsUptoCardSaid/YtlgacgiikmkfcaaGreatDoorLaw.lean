/- What the printed functions of the reference answer (plain Lean: no program), and that the policy of the implementation keeps the names that the reference's rules allow. -/
import Derived.Test.YtlgacgiikmkfcaaGreatDoorClean
import Derived.Test.YtlgacgiikmkfcaaGreatDoorPFnAttrsx1
import Derived.Test.YtlgacgiikmkfcaaGreatDoorPFnAttrsx2
import Derived.Test.YtlgacgiikmkfcaaGreatDoorPFnAttrsx3
import Derived.Test.YtlgacgiikmkfcaaGreatDoorPFnAttrsx4
namespace Go.Proofs.YtlgacgiikmkfcaaGreatDoor
open Go.RowKit M Go.Proofs.YtlgacgiikmkfcaaGreatDoor.PFnAttrs Go.Proofs.YtlgacgiikmkfcaaGreatDoorW.PrintWords Go.Proofs.YtlgacgiikmkfcaaGreatDoorW.PrintLast
namespace M
/-- From some fuel on, the answer is r. -/
def Ev {β : Type} (F : Nat → Option β) (r : β) : Prop := ∃ k, ∀ k', k ≤ k' → F k' = some r


theorem text_eq {a b : ByteArray} (h : a.toList = b.toList) : a = b := by
  have h2 : a.data.toList = b.data.toList := by simpa [ByteArray.toList_eq] using h
  cases a; cases b; congr 1; exact Array.toList_inj.1 h2

/-- x is one of l. -/
def inL (l : List ByteArray) (x : ByteArray) : Bool := l.any fun y => decide (y = x)

theorem ev_has (l : List ByteArray) (x : ByteArray) (hl : l.length ≤ 2147483647) : Ev (fun k => spec_Has.f k l x) (inL l x) := by
  have main : ∀ (m j : Nat), j + m = l.length → ∀ k, m < k → spec_Has.l0 k x l (l.length : Int) (j : Int) = some (inL (l.drop j) x) := by
    intro m
    induction m with
    | zero =>
      intro j hj k hk
      obtain ⟨k, rfl⟩ : ∃ k', k = k' + 1 := ⟨k - 1, by omega⟩
      rw [spec_Has.l0, if_neg (by omega), List.drop_of_length_le (by omega)]
      rfl
    | succ m ih =>
      intro j hj k hk
      obtain ⟨k, rfl⟩ : ∃ k', k = k' + 1 := ⟨k - 1, by omega⟩
      rw [spec_Has.l0, if_pos (by omega), if_pos (by omega), if_pos (by omega), IntWalk.wrap64_in _ (by omega)]
      have h2 : rdOf ByteArray.empty l j = l[j]'(by omega) := by simp [rdOf, List.getElem?_eq_getElem (show j < l.length by omega)]
      have h3 : ((j : Int) + 1) = ((j + 1 : Nat) : Int) := rfl
      rw [h2, h3, ih (j + 1) (by omega) k (by omega), List.drop_eq_getElem_cons (show j < l.length by omega)]
      by_cases h : l[j].toList = x.toList
      · rw [if_pos h]
        have := text_eq h
        simp only [inL, List.any_cons, this, decide_true, Bool.true_or]
      · rw [if_neg h]
        have : l[j] ≠ x := fun e => h (by rw [e])
        simp only [inL, List.any_cons, decide_eq_false this, Bool.false_or]
  exact ⟨l.length + 1, fun k hk => by simpa [spec_Has.f] using main l.length 0 (by omega) k (by omega)⟩

def lowB (a : ByteArray) (i : Nat) : Prop := ∀ h : i < a.size, (a[i].toNat : Int) < 128 ∧ ((a[i].toNat : Int) < 65 ∨ 90 < (a[i].toNat : Int))

theorem plain_l0 (a : ByteArray) (ha : a.size ≤ 2147483647) : ∀ (m j : Nat), j + m = a.size → ∃ b, (∀ k, m < k → spec_Plain.l0 k a (j : Int) = some b) ∧ (b = true → ∀ i, j ≤ i → lowB a i) := by
  intro m
  induction m with
  | zero =>
    intro j hj
    refine ⟨true, fun k hk => ?_, fun _ i hi h => by omega⟩
    obtain ⟨k, rfl⟩ : ∃ k', k = k' + 1 := ⟨k - 1, by omega⟩
    rw [spec_Plain.l0, if_neg (by omega)]
  | succ m ih =>
    intro j hj
    obtain ⟨b, h1, h2⟩ := ih (j + 1) (by omega)
    have hb := bt_at a j (by simpa using (by omega : j < a.size))
    have hb' : ((a[j]'(by omega)).toNat : Int) = bt a j := by simpa using hb
    have h3 : ((j : Int) + 1) = ((j + 1 : Nat) : Int) := rfl
    have low : b = true → (bt a j < 128 ∧ (bt a j < 65 ∨ 90 < bt a j)) → ∀ i, j ≤ i → lowB a i := fun e q i hi h => by
      rcases Nat.eq_or_lt_of_le hi with rfl | hi
      · rw [hb']; exact q
      · exact h2 e i hi h
    by_cases c1 : 97 ≤ bt a j ∧ bt a j ≤ 122
    · refine ⟨b, fun k hk => ?_, fun e => low e (by omega)⟩
      obtain ⟨k, rfl⟩ : ∃ k', k = k' + 1 := ⟨k - 1, by omega⟩
      rw [spec_Plain.l0, if_pos (by omega), if_pos (by omega), IntWalk.wrap64_in _ (by omega), h3, h1 k (by omega), spec_small.f, if_pos (by omega), Option.bind_some, if_pos (by simp; omega)]
    · have s1 : spec_small.f (bt a j) = some false := by
        unfold spec_small.f
        split
        · simp; omega
        · rfl
      by_cases c2 : 48 ≤ bt a j ∧ bt a j ≤ 57
      · refine ⟨b, fun k hk => ?_, fun e => low e (by omega)⟩
        obtain ⟨k, rfl⟩ : ∃ k', k = k' + 1 := ⟨k - 1, by omega⟩
        rw [spec_Plain.l0, if_pos (by omega), if_pos (by omega), IntWalk.wrap64_in _ (by omega), h3, h1 k (by omega), s1, Option.bind_some, if_neg (by simp), spec_digit.f, if_pos (by omega), Option.bind_some, if_pos (by simp; omega)]
      · have s2 : spec_digit.f (bt a j) = some false := by
          unfold spec_digit.f
          split
          · simp; omega
          · rfl
        by_cases c3 : bt a j = 45
        · refine ⟨b, fun k hk => ?_, fun e => low e (by omega)⟩
          obtain ⟨k, rfl⟩ : ∃ k', k = k' + 1 := ⟨k - 1, by omega⟩
          rw [spec_Plain.l0, if_pos (by omega), if_pos (by omega), IntWalk.wrap64_in _ (by omega), h3, h1 k (by omega), s1, Option.bind_some, if_neg (by simp), s2, Option.bind_some, if_neg (by simp), if_pos c3]
        · refine ⟨false, fun k hk => ?_, fun e => by cases e⟩
          obtain ⟨k, rfl⟩ : ∃ k', k = k' + 1 := ⟨k - 1, by omega⟩
          rw [spec_Plain.l0, if_pos (by omega), if_pos (by omega), s1, Option.bind_some, if_neg (by simp), s2, Option.bind_some, if_neg (by simp), if_neg c3]

theorem ev_plain1 (a : ByteArray) (ha : a.size ≤ 2147483647) : ∃ b, Ev (fun k => spec_Plain.f k a) b ∧ (b = true → Low a) := by
  by_cases h0 : a.size = 0
  · refine ⟨false, ⟨1, fun k hk => ?_⟩, fun e => by cases e⟩
    obtain ⟨k, rfl⟩ : ∃ k', k = k' + 1 := ⟨k - 1, by omega⟩
    simp only [spec_Plain.f]
    rw [if_pos (by omega), spec_Plain.j0, if_pos rfl]
  · have hb' : ((a[0]'(by omega)).toNat : Int) = bt a 0 := by simpa using bt_at a 0 (by simpa using (by omega : 0 < a.size))
    obtain ⟨b, h1, h2⟩ := plain_l0 a ha (a.size - 1) 1 (by omega)
    by_cases c1 : 97 ≤ bt a 0 ∧ bt a 0 ≤ 122
    · refine ⟨b, ⟨a.size + 2, fun k hk => ?_⟩, fun e i h => ?_⟩
      · obtain ⟨k, rfl⟩ : ∃ k', k = k' + 1 := ⟨k - 1, by omega⟩
        simp only [spec_Plain.f]
        rw [if_neg (by omega), if_pos (by omega), spec_small.f, if_pos (by omega), Option.bind_some, spec_Plain.j0, if_neg (by simp; omega)]
        exact h1 k (by omega)
      · rcases Nat.eq_zero_or_pos i with rfl | hi
        · rw [hb']; omega
        · exact h2 e i hi h
    · have s1 : spec_small.f (bt a 0) = some false := by
        unfold spec_small.f
        split
        · simp; omega
        · rfl
      refine ⟨false, ⟨1, fun k hk => ?_⟩, fun e => by cases e⟩
      obtain ⟨k, rfl⟩ : ∃ k', k = k' + 1 := ⟨k - 1, by omega⟩
      simp only [spec_Plain.f]
      rw [if_neg (by omega), if_pos (by omega), s1, Option.bind_some, spec_Plain.j0, if_pos (by rfl)]

theorem ev_plain (l : List ByteArray) (hl : l.length ≤ 2147483647) (hs : ∀ x ∈ l, x.size ≤ 2147483647) : ∃ b, Ev (fun k => laws_plain.f k l) b ∧ (b = true → (∀ x ∈ l, Low x ∧ x.size ≤ 40) ∧ l.length ≤ 12) := by
  have main : ∀ (m j : Nat), j + m = l.length → ∃ b K, (∀ k, K ≤ k → laws_plain.l0 k l l (l.length : Int) (j : Int) = some b) ∧ (b = true → (∀ x ∈ l.drop j, Low x ∧ x.size ≤ 40) ∧ l.length ≤ 12) := by
    intro m
    induction m with
    | zero =>
      intro j hj
      refine ⟨decide ((l.length : Int) ≤ 12), 1, fun k hk => ?_, fun e => ?_⟩
      · obtain ⟨k, rfl⟩ : ∃ k', k = k' + 1 := ⟨k - 1, by omega⟩
        rw [laws_plain.l0, if_neg (by omega)]
      · rw [List.drop_of_length_le (by omega)]
        have := of_decide_eq_true e
        exact ⟨fun x hx => by simp at hx, by omega⟩
    | succ m ih =>
      intro j hj
      obtain ⟨b, K, h1, h2⟩ := ih (j + 1) (by omega)
      have hjl : j < l.length := by omega
      have g2 : rdOf ByteArray.empty l j = l[j] := by simp [rdOf, List.getElem?_eq_getElem hjl]
      have g3 : ((j : Int) + 1) = ((j + 1 : Nat) : Int) := rfl
      obtain ⟨b1, ⟨K1, e1⟩, e2⟩ := ev_plain1 l[j] (hs _ (List.getElem_mem hjl))
      dsimp only at e1
      cases b1 with
      | false =>
        refine ⟨false, K1 + 1, fun k hk => ?_, fun e => by cases e⟩
        obtain ⟨k, rfl⟩ : ∃ k', k = k' + 1 := ⟨k - 1, by omega⟩
        rw [laws_plain.l0, if_pos (by omega), if_pos (by omega), if_pos (by omega), g2, e1 k (by omega), Option.bind_some, if_neg (by simp)]
      | true =>
        by_cases c1 : (l[j].size : Int) > 40
        · refine ⟨false, K1 + 1, fun k hk => ?_, fun e => by cases e⟩
          obtain ⟨k, rfl⟩ : ∃ k', k = k' + 1 := ⟨k - 1, by omega⟩
          rw [laws_plain.l0, if_pos (by omega), if_pos (by omega), if_pos (by omega), g2, e1 k (by omega), Option.bind_some, if_pos rfl, if_pos c1]
        · obtain ⟨raw, hraw, hrl⟩ : ∃ raw, laws_raw.f = some raw ∧ raw.length ≤ 2147483647 := ⟨_, rfl, by decide⟩
          obtain ⟨K2, e3⟩ := ev_has raw l[j] hrl
          dsimp only at e3
          cases hb : inL raw l[j] with
          | true =>
            refine ⟨false, K1 + K2 + 1, fun k hk => ?_, fun e => by cases e⟩
            obtain ⟨k, rfl⟩ : ∃ k', k = k' + 1 := ⟨k - 1, by omega⟩
            rw [laws_plain.l0, if_pos (by omega), if_pos (by omega), if_pos (by omega), g2, e1 k (by omega), Option.bind_some, if_pos rfl, if_neg c1, hraw, Option.bind_some, e3 k (by omega), hb, Option.bind_some, if_pos rfl]
          | false =>
            refine ⟨b, K + K1 + K2 + 1, fun k hk => ?_, fun e => ?_⟩
            · obtain ⟨k, rfl⟩ : ∃ k', k = k' + 1 := ⟨k - 1, by omega⟩
              rw [laws_plain.l0, if_pos (by omega), if_pos (by omega), if_pos (by omega), g2, e1 k (by omega), Option.bind_some, if_pos rfl, if_neg c1, hraw, Option.bind_some, e3 k (by omega), hb, Option.bind_some, if_neg (by simp), IntWalk.wrap64_in _ (by omega), g3, h1 k (by omega)]
            · obtain ⟨q1, q2⟩ := h2 e
              refine ⟨fun x hx => ?_, q2⟩
              rw [List.drop_eq_getElem_cons hjl] at hx
              rcases List.mem_cons.1 hx with rfl | hx
              · exact ⟨e2 rfl, by omega⟩
              · exact q1 x hx
  obtain ⟨b, K, h1, h2⟩ := main l.length 0 (by omega)
  exact ⟨b, ⟨K, fun k hk => h1 k hk⟩, by simpa using h2⟩

theorem ev_known (l : List S49) (hl : l.length ≤ 2147483647) (hs : ∀ c ∈ l, c.f1.length ≤ 2147483647 ∧ c.f2.length ≤ 2147483647 ∧ (∀ x ∈ c.f1, x.size ≤ 2147483647) ∧ ∀ x ∈ c.f2, x.size ≤ 2147483647) :
    ∃ b, Ev (fun k => laws_known.f k l 3) b ∧ (b = true → (∀ c ∈ l, Fine c) ∧ l.length ≤ 20) := by
  have main : ∀ (m j : Nat), j + m = l.length → ∃ b K, (∀ k, K ≤ k → laws_known.l0 k l 3 l (l.length : Int) (j : Int) = some b) ∧ (b = true → (∀ x ∈ l.drop j, Fine x) ∧ l.length ≤ 20) := by
    intro m
    induction m with
    | zero =>
      intro j hj
      refine ⟨decide ((l.length : Int) ≤ 20), 1, fun k hk => ?_, fun e => ?_⟩
      · obtain ⟨k, rfl⟩ : ∃ k', k = k' + 1 := ⟨k - 1, by omega⟩
        rw [laws_known.l0, if_neg (by omega)]
      · rw [List.drop_of_length_le (by omega)]
        have := of_decide_eq_true e
        exact ⟨fun x hx => by simp at hx, by omega⟩
    | succ m ih =>
      intro j hj
      obtain ⟨b, K, h1, h2⟩ := ih (j + 1) (by omega)
      have hjl : j < l.length := by omega
      have g2 : rd_T49 l j = l[j] := by simp [rd_T49, List.getElem?_eq_getElem hjl]
      have g3 : ((j : Int) + 1) = ((j + 1 : Nat) : Int) := rfl
      obtain ⟨s1, s2, s3, s4⟩ := hs _ (List.getElem_mem hjl)
      by_cases c1 : l[j].f0 < 0
      · refine ⟨false, 1, fun k hk => ?_, fun e => by cases e⟩
        obtain ⟨k, rfl⟩ : ∃ k', k = k' + 1 := ⟨k - 1, by omega⟩
        rw [laws_known.l0, if_pos (by omega), if_pos (by omega), if_pos (by omega), g2, if_pos c1]
      by_cases c2 : l[j].f0 > 3
      · refine ⟨false, 1, fun k hk => ?_, fun e => by cases e⟩
        obtain ⟨k, rfl⟩ : ∃ k', k = k' + 1 := ⟨k - 1, by omega⟩
        rw [laws_known.l0, if_pos (by omega), if_pos (by omega), if_pos (by omega), g2, if_neg c1, if_pos c2]
      obtain ⟨b1, ⟨K1, e1⟩, p1⟩ := ev_plain l[j].f1 s1 s3
      dsimp only at e1
      obtain ⟨b2, ⟨K2, e2⟩, p2⟩ := ev_plain l[j].f2 s2 s4
      dsimp only at e2
      cases b1 with
      | false =>
        refine ⟨false, K1 + 1, fun k hk => ?_, fun e => by cases e⟩
        obtain ⟨k, rfl⟩ : ∃ k', k = k' + 1 := ⟨k - 1, by omega⟩
        rw [laws_known.l0, if_pos (by omega), if_pos (by omega), if_pos (by omega), g2, if_neg c1, if_neg c2, e1 k (by omega), Option.bind_some, if_neg (by simp)]
      | true =>
        cases b2 with
        | false =>
          refine ⟨false, K1 + K2 + 1, fun k hk => ?_, fun e => by cases e⟩
          obtain ⟨k, rfl⟩ : ∃ k', k = k' + 1 := ⟨k - 1, by omega⟩
          rw [laws_known.l0, if_pos (by omega), if_pos (by omega), if_pos (by omega), g2, if_neg c1, if_neg c2, e1 k (by omega), Option.bind_some, if_pos rfl, e2 k (by omega), Option.bind_some, if_neg (by simp)]
        | true =>
          refine ⟨b, K + K1 + K2 + 1, fun k hk => ?_, fun e => ?_⟩
          · obtain ⟨k, rfl⟩ : ∃ k', k = k' + 1 := ⟨k - 1, by omega⟩
            rw [laws_known.l0, if_pos (by omega), if_pos (by omega), if_pos (by omega), g2, if_neg c1, if_neg c2, e1 k (by omega), Option.bind_some, if_pos rfl, e2 k (by omega), Option.bind_some, if_pos rfl, IntWalk.wrap64_in _ (by omega), g3, h1 k (by omega)]
          · obtain ⟨q1, q2⟩ := h2 e
            refine ⟨fun x hx => ?_, q2⟩
            rw [List.drop_eq_getElem_cons hjl] at hx
            rcases List.mem_cons.1 hx with rfl | hx
            · obtain ⟨t1, t2⟩ := p1 rfl
              obtain ⟨t3, t4⟩ := p2 rfl
              exact ⟨by omega, fun x hx => ⟨(t1 x hx).1, by have := (t1 x hx).2; unfold maxLen; omega⟩, fun x hx => ⟨(t3 x hx).1, by have := (t3 x hx).2; unfold maxLen; omega⟩, t2, t4⟩
            · exact q1 x hx
  obtain ⟨b, K, h1, h2⟩ := main l.length 0 (by omega)
  exact ⟨b, ⟨K, fun k hk => h1 k hk⟩, by simpa using h2⟩

theorem ev_fits5 (l : List ByteArray) : ∃ b, Ev (fun k => laws_zzFits5.f k l) b ∧ (b = true → l.length ≤ 2147483647 ∧ ∀ x ∈ l, x.size ≤ 2147483647) := by
  by_cases hl : (l.length : Int) > 2147483647
  · exact ⟨false, ⟨0, fun k _ => by simp only [laws_zzFits5.f]; rw [if_pos hl]⟩, fun e => by cases e⟩
  have main : ∀ (m j : Nat), j + m = l.length → ∃ b K, (∀ k, K ≤ k → laws_zzFits5.l0 k l (l.length : Int) (j : Int) = some b) ∧ (b = true → ∀ x ∈ l.drop j, x.size ≤ 2147483647) := by
    intro m
    induction m with
    | zero =>
      intro j hj
      refine ⟨true, 1, fun k hk => ?_, fun e => ?_⟩
      · obtain ⟨k, rfl⟩ : ∃ k', k = k' + 1 := ⟨k - 1, by omega⟩
        rw [laws_zzFits5.l0, if_neg (by omega)]
      · rw [List.drop_of_length_le (by omega)]
        exact fun x hx => by simp at hx
    | succ m ih =>
      intro j hj
      obtain ⟨b, K, h1, h2⟩ := ih (j + 1) (by omega)
      have hjl : j < l.length := by omega
      have g2 : rdOf ByteArray.empty l j = l[j] := by simp [rdOf, List.getElem?_eq_getElem hjl]
      have g3 : ((j : Int) + 1) = ((j + 1 : Nat) : Int) := rfl
      by_cases c1 : (l[j].size : Int) > 2147483647
      · refine ⟨false, 1, fun k hk => ?_, fun e => by cases e⟩
        obtain ⟨k, rfl⟩ : ∃ k', k = k' + 1 := ⟨k - 1, by omega⟩
        rw [laws_zzFits5.l0, if_pos (by omega), if_pos (by omega), if_pos (by omega), g2, if_pos c1]
      · refine ⟨b, K + 1, fun k hk => ?_, fun e x hx => ?_⟩
        · obtain ⟨k, rfl⟩ : ∃ k', k = k' + 1 := ⟨k - 1, by omega⟩
          rw [laws_zzFits5.l0, if_pos (by omega), if_pos (by omega), if_pos (by omega), g2, if_neg c1, IntWalk.wrap64_in _ (by omega), g3, h1 k (by omega)]
        · rw [List.drop_eq_getElem_cons hjl] at hx
          rcases List.mem_cons.1 hx with rfl | hx
          · omega
          · exact h2 e x hx
  obtain ⟨b, K, h1, h2⟩ := main l.length 0 (by omega)
  refine ⟨b, ⟨K, fun k hk => ?_⟩, fun e => ⟨by omega, by simpa using h2 e⟩⟩
  simp only [laws_zzFits5.f]
  rw [if_neg hl]
  exact h1 k hk

/-- What the guard of sizes says of a call. -/
def Fits (c : S49) : Prop := c.f1.length ≤ 2147483647 ∧ c.f2.length ≤ 2147483647 ∧ (∀ x ∈ c.f1, x.size ≤ 2147483647) ∧ ∀ x ∈ c.f2, x.size ≤ 2147483647

theorem ev_fits4 (c : S49) : ∃ b, Ev (fun k => laws_zzFits4.f k c.f0 c.f1 c.f2 c.f3) b ∧ (b = true → Fits c) := by
  obtain ⟨b1, ⟨K1, e1⟩, p1⟩ := ev_fits5 c.f1
  dsimp only at e1
  obtain ⟨b2, ⟨K2, e2⟩, p2⟩ := ev_fits5 c.f2
  dsimp only at e2
  refine ⟨b1 && b2, ⟨K1 + K2, fun k hk => ?_⟩, fun e => ?_⟩
  · simp only [laws_zzFits4.f]
    rw [e1 k (by omega), Option.bind_some, e2 k (by omega), Option.bind_some]
    cases b1 <;> cases b2 <;> simp
  · simp only [Bool.and_eq_true] at e
    exact ⟨(p1 e.1).1, (p2 e.2).1, (p1 e.1).2, (p2 e.2).2⟩

theorem ev_fits3 (l : List S49) : ∃ b, Ev (fun k => laws_zzFits3.f k l) b ∧ (b = true → l.length ≤ 2147483647 ∧ ∀ x ∈ l, Fits x) := by
  by_cases hl : (l.length : Int) > 2147483647
  · exact ⟨false, ⟨0, fun k _ => by simp only [laws_zzFits3.f]; rw [if_pos hl]⟩, fun e => by cases e⟩
  have main : ∀ (m j : Nat), j + m = l.length → ∃ b K, (∀ k, K ≤ k → laws_zzFits3.l0 k l (l.length : Int) (j : Int) = some b) ∧ (b = true → ∀ x ∈ l.drop j, Fits x) := by
    intro m
    induction m with
    | zero =>
      intro j hj
      refine ⟨true, 1, fun k hk => ?_, fun e => ?_⟩
      · obtain ⟨k, rfl⟩ : ∃ k', k = k' + 1 := ⟨k - 1, by omega⟩
        rw [laws_zzFits3.l0, if_neg (by omega)]
      · rw [List.drop_of_length_le (by omega)]
        exact fun x hx => by simp at hx
    | succ m ih =>
      intro j hj
      obtain ⟨b, K, h1, h2⟩ := ih (j + 1) (by omega)
      have hjl : j < l.length := by omega
      have g2 : rd_T49 l j = l[j] := by simp [rd_T49, List.getElem?_eq_getElem hjl]
      have g3 : ((j : Int) + 1) = ((j + 1 : Nat) : Int) := rfl
      obtain ⟨b1, ⟨K1, e1⟩, p1⟩ := ev_fits4 l[j]
      dsimp only at e1
      cases b1 with
      | false =>
        refine ⟨false, K1 + 1, fun k hk => ?_, fun e => by cases e⟩
        obtain ⟨k, rfl⟩ : ∃ k', k = k' + 1 := ⟨k - 1, by omega⟩
        rw [laws_zzFits3.l0, if_pos (by omega), if_pos (by omega), if_pos (by omega), g2, e1 k (by omega), Option.bind_some, if_neg (by simp)]
      | true =>
        refine ⟨b, K + K1 + 1, fun k hk => ?_, fun e x hx => ?_⟩
        · obtain ⟨k, rfl⟩ : ∃ k', k = k' + 1 := ⟨k - 1, by omega⟩
          rw [laws_zzFits3.l0, if_pos (by omega), if_pos (by omega), if_pos (by omega), g2, e1 k (by omega), Option.bind_some, if_pos rfl, IntWalk.wrap64_in _ (by omega), g3, h1 k (by omega)]
        · rw [List.drop_eq_getElem_cons hjl] at hx
          rcases List.mem_cons.1 hx with rfl | hx
          · exact p1 rfl
          · exact h2 e x hx
  obtain ⟨b, K, h1, h2⟩ := main l.length 0 (by omega)
  refine ⟨b, ⟨K, fun k hk => ?_⟩, fun e => ⟨by omega, by simpa using h2 e⟩⟩
  simp only [laws_zzFits3.f]
  rw [if_neg hl]
  exact h1 k hk

theorem fits7 (a b : ByteArray) : ∃ r, laws_zzFits7.f a b = some r ∧ (r = true → a.size ≤ 2147483647 ∧ b.size ≤ 2147483647) := by
  unfold laws_zzFits7.f
  split
  · exact ⟨false, rfl, fun e => by cases e⟩
  · split
    · exact ⟨false, rfl, fun e => by cases e⟩
    · exact ⟨true, rfl, fun _ => by omega⟩

theorem ev_fits6 (l : List S44) : ∃ b, Ev (fun k => laws_zzFits6.f k l) b ∧ (b = true → l.length ≤ 2147483647 ∧ ∀ x ∈ l, x.f0.size ≤ 2147483647 ∧ x.f1.size ≤ 2147483647) := by
  by_cases hl : (l.length : Int) > 2147483647
  · exact ⟨false, ⟨0, fun k _ => by simp only [laws_zzFits6.f]; rw [if_pos hl]⟩, fun e => by cases e⟩
  have main : ∀ (m j : Nat), j + m = l.length → ∃ b K, (∀ k, K ≤ k → laws_zzFits6.l0 k l (l.length : Int) (j : Int) = some b) ∧ (b = true → ∀ x ∈ l.drop j, x.f0.size ≤ 2147483647 ∧ x.f1.size ≤ 2147483647) := by
    intro m
    induction m with
    | zero =>
      intro j hj
      refine ⟨true, 1, fun k hk => ?_, fun e => ?_⟩
      · obtain ⟨k, rfl⟩ : ∃ k', k = k' + 1 := ⟨k - 1, by omega⟩
        rw [laws_zzFits6.l0, if_neg (by omega)]
      · rw [List.drop_of_length_le (by omega)]
        exact fun x hx => by simp at hx
    | succ m ih =>
      intro j hj
      obtain ⟨b, K, h1, h2⟩ := ih (j + 1) (by omega)
      have hjl : j < l.length := by omega
      have g2 : rd_T44 l j = l[j] := by simp [rd_T44, List.getElem?_eq_getElem hjl]
      have g3 : ((j : Int) + 1) = ((j + 1 : Nat) : Int) := rfl
      obtain ⟨b1, e1, p1⟩ := fits7 l[j].f0 l[j].f1
      cases b1 with
      | false =>
        refine ⟨false, 1, fun k hk => ?_, fun e => by cases e⟩
        obtain ⟨k, rfl⟩ : ∃ k', k = k' + 1 := ⟨k - 1, by omega⟩
        rw [laws_zzFits6.l0, if_pos (by omega), if_pos (by omega), if_pos (by omega), g2, e1, Option.bind_some, if_neg (by simp)]
      | true =>
        refine ⟨b, K + 1, fun k hk => ?_, fun e x hx => ?_⟩
        · obtain ⟨k, rfl⟩ : ∃ k', k = k' + 1 := ⟨k - 1, by omega⟩
          rw [laws_zzFits6.l0, if_pos (by omega), if_pos (by omega), if_pos (by omega), g2, e1, Option.bind_some, if_pos rfl, IntWalk.wrap64_in _ (by omega), g3, h1 k (by omega)]
        · rw [List.drop_eq_getElem_cons hjl] at hx
          rcases List.mem_cons.1 hx with rfl | hx
          · exact p1 rfl
          · exact h2 e x hx
  obtain ⟨b, K, h1, h2⟩ := main l.length 0 (by omega)
  refine ⟨b, ⟨K, fun k hk => ?_⟩, fun e => ⟨by omega, by simpa using h2 e⟩⟩
  simp only [laws_zzFits6.f]
  rw [if_neg hl]
  exact h1 k hk
end M
end Go.Proofs.YtlgacgiikmkfcaaGreatDoor
