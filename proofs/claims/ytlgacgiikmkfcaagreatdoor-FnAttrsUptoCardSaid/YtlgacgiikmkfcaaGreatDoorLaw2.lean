/- The reference's policy and its rules; that the policy of the implementation keeps the names that the rules allow. -/
import Derived.Test.YtlgacgiikmkfcaaGreatDoorLaw
namespace Go.Proofs.YtlgacgiikmkfcaaGreatDoor
open Go.RowKit M Go.Proofs.YtlgacgiikmkfcaaGreatDoor.PFnAttrs Go.Proofs.YtlgacgiikmkfcaaGreatDoorW.PrintWords Go.Proofs.YtlgacgiikmkfcaaGreatDoorW.PrintLast
namespace M
/-- What the calls' policy is in the reference. -/
abbrev Pol6 := List ByteArray × List S63 × List ByteArray × List ByteArray × List ByteArray × Bool

def polStep (s : Pol6) (c : S49) : Pol6 :=
  if c.f0 = 0 then (s.1 ++ c.f1, s.2.1, s.2.2.1, s.2.2.2.1, s.2.2.2.2.1, s.2.2.2.2.2)
  else if c.f0 = 1 then (if (c.f1.length : Int) > 0 then (s.1, s.2.1 ++ [⟨c.f1, c.f2, false⟩], s.2.2.1, s.2.2.2.1, s.2.2.2.2.1, s.2.2.2.2.2) else s)
  else if c.f0 = 2 then (s.1, s.2.1 ++ [⟨c.f1, [], true⟩], s.2.2.1, s.2.2.2.1, s.2.2.2.2.1, s.2.2.2.2.2)
  else if c.f0 = 3 then (s.1, s.2.1, s.2.2.1 ++ c.f2, s.2.2.2.1, s.2.2.2.2.1, s.2.2.2.2.2)
  else if c.f0 = 4 then (s.1, s.2.1, s.2.2.1, s.2.2.2.1 ++ c.f1, s.2.2.2.2.1, s.2.2.2.2.2)
  else if c.f0 = 5 then (s.1, s.2.1, s.2.2.1, s.2.2.2.1, s.2.2.2.2.1 ++ c.f1, s.2.2.2.2.2)
  else if c.f0 = 15 then (s.1, s.2.1, s.2.2.1, s.2.2.2.1, s.2.2.2.2.1, c.f3)
  else s

def wt (l : List S49) : Nat := (l.map fun c => c.f1.length + c.f2.length + 1).sum
def Sm (s : Pol6) (n : Nat) : Prop := s.1.length ≤ n ∧ s.2.1.length ≤ n ∧ s.2.2.1.length ≤ n ∧ s.2.2.2.1.length ≤ n ∧ s.2.2.2.2.1.length ≤ n
theorem Sm.step {s : Pol6} {n : Nat} (h : Sm s n) (c : S49) : Sm (polStep s c) (n + (c.f1.length + c.f2.length + 1)) := by
  obtain ⟨h1, h2, h3, h4, h5⟩ := h
  unfold polStep
  repeat' split
  all_goals refine ⟨?_, ?_, ?_, ?_, ?_⟩
  all_goals try simp
  all_goals omega

set_option maxHeartbeats 1000000 in
theorem ev_policy (l : List S49) (hl : wt l ≤ 1000000000) : Ev (fun k => laws_policy.f k l) (l.foldl polStep ([], [], [], [], [], false)) := by
  have hll : ∀ l : List S49, l.length ≤ wt l := by
    intro l
    induction l with
    | nil => simp [wt]
    | cons c r ih => simp [wt] at *; omega
  have hl0 := hll l
  have main : ∀ (m j : Nat) (s : Pol6) (n : Nat), j + m = l.length → Sm s n → n + wt (l.drop j) ≤ 1000000000 → ∀ k, m < k →
      laws_policy.l0 k l (l.length : Int) (j : Int) s.1 s.2.1 s.2.2.1 s.2.2.2.1 s.2.2.2.2.1 s.2.2.2.2.2 = some ((l.drop j).foldl polStep s) := by
    intro m
    induction m with
    | zero =>
      intro j s n hj hs hn k hk
      obtain ⟨k, rfl⟩ : ∃ k', k = k' + 1 := ⟨k - 1, by omega⟩
      rw [laws_policy.l0, if_neg (by omega), List.drop_of_length_le (by omega)]
      rfl
    | succ m ih =>
      intro j s n hj hs hn k hk
      obtain ⟨k, rfl⟩ : ∃ k', k = k' + 1 := ⟨k - 1, by omega⟩
      have hjl : j < l.length := by omega
      have g2 : rd_T49 l j = l[j] := by simp [rd_T49, List.getElem?_eq_getElem hjl]
      have g3 : ((j : Int) + 1) = ((j + 1 : Nat) : Int) := rfl
      rw [List.drop_eq_getElem_cons hjl] at hn ⊢
      simp only [wt, List.map_cons, List.sum_cons] at hn
      have h1 := ih (j + 1) (polStep s l[j]) _ (by omega) (hs.step l[j]) (by unfold wt; omega) k (by omega)
      obtain ⟨s1, s2, s3, s4, s5⟩ := hs
      rw [laws_policy.l0, if_pos (by omega), if_pos (by omega), if_pos (by omega), g2, IntWalk.wrap64_in _ (by omega), g3, List.foldl_cons, ← h1]
      unfold polStep
      by_cases c0 : l[j].f0 = 0
      · rw [if_pos c0, if_pos (by omega)]; simp only [if_pos c0]
      rw [if_neg c0]; simp only [if_neg c0]
      by_cases c1 : l[j].f0 = 1
      · rw [if_pos c1]; simp only [if_pos c1]
        by_cases c2 : (l[j].f1.length : Int) > 0
        · rw [if_pos c2, if_pos (by omega)]; simp only [if_pos c2]
        · rw [if_neg c2]; simp only [if_neg c2]
      rw [if_neg c1]; simp only [if_neg c1]
      by_cases c2 : l[j].f0 = 2
      · rw [if_pos c2, if_pos (by omega)]; simp only [if_pos c2]
      rw [if_neg c2]; simp only [if_neg c2]
      by_cases c3 : l[j].f0 = 3
      · rw [if_pos c3, if_pos (by omega)]; simp only [if_pos c3]
      rw [if_neg c3]; simp only [if_neg c3]
      by_cases c4 : l[j].f0 = 4
      · rw [if_pos c4, if_pos (by omega)]; simp only [if_pos c4]
      rw [if_neg c4]; simp only [if_neg c4]
      by_cases c5 : l[j].f0 = 5
      · rw [if_pos c5, if_pos (by omega)]; simp only [if_pos c5]
      rw [if_neg c5]; simp only [if_neg c5]
      by_cases c6 : l[j].f0 = 15
      · rw [if_pos c6]; simp only [if_pos c6]
      rw [if_neg c6]; simp only [if_neg c6]
  exact ⟨l.length + 1, fun k hk => by simpa [laws_policy.f] using main l.length 0 ([], [], [], [], [], false) 0 (by omega) (by simp [Sm]) (by simpa using hl) k (by omega)⟩

def rulesOf (c : S49) : List S63 := if c.f0 = 1 then (if (c.f1.length : Int) > 0 then [⟨c.f1, c.f2, false⟩] else []) else if c.f0 = 2 then [⟨c.f1, [], true⟩] else []
theorem pol_rules (l : List S49) (s : Pol6) : (l.foldl polStep s).2.1 = s.2.1 ++ l.flatMap rulesOf := by
  induction l generalizing s with
  | nil => simp
  | cons c r ih =>
    rw [List.foldl_cons, ih, List.flatMap_cons, ← List.append_assoc]
    congr 1
    unfold polStep rulesOf
    by_cases c0 : c.f0 = 0
    · have c1 : c.f0 ≠ 1 := by omega
      have c2 : c.f0 ≠ 2 := by omega
      simp [c0]
    · rw [if_neg c0]
      split
      · split <;> simp
      · split
        · rfl
        · repeat' split
          all_goals simp
theorem pol_small (l : List S49) (s : Pol6) (n : Nat) (hs : Sm s n) : Sm (l.foldl polStep s) (n + wt l) := by
  induction l generalizing s n with
  | nil => simpa [wt] using hs
  | cons c r ih =>
    have := ih (polStep s c) _ (hs.step c)
    simp only [wt, List.map_cons, List.sum_cons, List.foldl_cons] at *
    rw [← Nat.add_assoc]
    exact this

/-- A rule allows an attribute's name on an element. -/
def allows (r : S63) (e a : ByteArray) : Bool := inL r.f0 a && (r.f2 || inL r.f1 e)

theorem ev_attr (rs : List S63) (l0 l2 l3 l4 : List ByteArray) (b5 : Bool) (e a : ByteArray) (hl : rs.length ≤ 2147483647) (hs : ∀ r ∈ rs, r.f0.length ≤ 2147483647 ∧ r.f1.length ≤ 2147483647) :
    Ev (fun k => spec_Policy_Attr.f k l0 rs l2 l3 l4 b5 e a) (rs.any fun r => allows r e a) := by
  have main : ∀ (m j : Nat), j + m = rs.length → ∃ K, ∀ k, K ≤ k → spec_Policy_Attr.l0 k e a rs (rs.length : Int) (j : Int) = some ((rs.drop j).any fun r => allows r e a) := by
    intro m
    induction m with
    | zero =>
      intro j hj
      refine ⟨1, fun k hk => ?_⟩
      obtain ⟨k, rfl⟩ : ∃ k', k = k' + 1 := ⟨k - 1, by omega⟩
      rw [spec_Policy_Attr.l0, if_neg (by omega), List.drop_of_length_le (by omega)]
      rfl
    | succ m ih =>
      intro j hj
      obtain ⟨K, h1⟩ := ih (j + 1) (by omega)
      have hjl : j < rs.length := by omega
      have g2 : rd_T63 rs j = rs[j] := by simp [rd_T63, List.getElem?_eq_getElem hjl]
      have g3 : ((j : Int) + 1) = ((j + 1 : Nat) : Int) := rfl
      obtain ⟨q1, q2⟩ := hs _ (List.getElem_mem hjl)
      obtain ⟨K1, e1⟩ := ev_has rs[j].f0 a q1
      dsimp only at e1
      obtain ⟨K2, e2⟩ := ev_has rs[j].f1 e q2
      dsimp only at e2
      refine ⟨K + K1 + K2 + 1, fun k hk => ?_⟩
      obtain ⟨k, rfl⟩ : ∃ k', k = k' + 1 := ⟨k - 1, by omega⟩
      rw [spec_Policy_Attr.l0, if_pos (by omega), if_pos (by omega), if_pos (by omega), g2, IntWalk.wrap64_in _ (by omega), g3, h1 k (by omega), e1 k (by omega), e2 k (by omega), List.drop_eq_getElem_cons hjl, List.any_cons]
      simp only [Option.bind_some, allows]
      cases inL rs[j].f0 a <;> cases inL rs[j].f1 e <;> cases rs[j].f2 <;> simp
  obtain ⟨K, h⟩ := main rs.length 0 (by omega)
  exact ⟨K, fun k hk => by simpa [spec_Policy_Attr.f] using h k hk⟩

theorem ev_element (rs : List S63) (l0 l2 l3 l4 : List ByteArray) (b5 : Bool) (e : ByteArray) (hl : rs.length ≤ 2147483647) (hs : ∀ r ∈ rs, r.f1.length ≤ 2147483647) (h0 : l0.length ≤ 2147483647) (h2 : l2.length ≤ 2147483647) :
    ∃ b, Ev (fun k => spec_Policy_Element.f k l0 rs l2 l3 l4 b5 e) b := by
  have main : ∀ (m j : Nat), j + m = rs.length → ∃ b K, ∀ k, K ≤ k → spec_Policy_Element.l0 k e rs (rs.length : Int) (j : Int) = some b := by
    intro m
    induction m with
    | zero =>
      intro j hj
      refine ⟨false, 1, fun k hk => ?_⟩
      obtain ⟨k, rfl⟩ : ∃ k', k = k' + 1 := ⟨k - 1, by omega⟩
      rw [spec_Policy_Element.l0, if_neg (by omega)]
    | succ m ih =>
      intro j hj
      obtain ⟨b, K, h1⟩ := ih (j + 1) (by omega)
      have hjl : j < rs.length := by omega
      have g2 : rd_T63 rs j = rs[j] := by simp [rd_T63, List.getElem?_eq_getElem hjl]
      have g3 : ((j : Int) + 1) = ((j + 1 : Nat) : Int) := rfl
      obtain ⟨K2, e2⟩ := ev_has rs[j].f1 e (hs _ (List.getElem_mem hjl))
      dsimp only at e2
      refine ⟨if inL rs[j].f1 e = true then true else b, K + K2 + 1, fun k hk => ?_⟩
      obtain ⟨k, rfl⟩ : ∃ k', k = k' + 1 := ⟨k - 1, by omega⟩
      rw [spec_Policy_Element.l0, if_pos (by omega), if_pos (by omega), if_pos (by omega), g2, IntWalk.wrap64_in _ (by omega), g3, h1 k (by omega), e2 k (by omega), Option.bind_some]
      split <;> rfl
  obtain ⟨b, K, h⟩ := main rs.length 0 (by omega)
  obtain ⟨K1, e1⟩ := ev_has l0 e h0
  dsimp only at e1
  obtain ⟨K2, e2⟩ := ev_has l2 e h2
  dsimp only at e2
  refine ⟨inL l0 e || (inL l2 e || b), K + K1 + K2 + 1, fun k hk => ?_⟩
  obtain ⟨k, rfl⟩ : ∃ k', k = k' + 1 := ⟨k - 1, by omega⟩
  have h' := h k (by omega)
  simp only [spec_Policy_Element.f]
  rw [e1 (k + 1) (by omega), e2 (k + 1) (by omega)]
  simp only [Option.bind_some, spec_Policy_Element.j0]
  cases inL l0 e <;> cases inL l2 e <;> simp
  all_goals simpa using h'

theorem begins_some (a b : ByteArray) : ∃ r, spec_Begins.f a b = some r := by
  unfold spec_Begins.f
  split
  · rw [if_pos (by omega)]
    exact ⟨_, rfl⟩
  · exact ⟨_, rfl⟩

/-! ### The two policies -/
def hasEl (el : El) (e a : ByteArray) : Bool := match el e with | none => false | some f => f a
theorem hasEl_addEl (el : El) (x e a : ByteArray) : hasEl (addEl el x) e a = hasEl el e a := by
  unfold addEl
  by_cases h0 : (el x).isSome = true
  · rw [if_pos h0]
  · rw [if_neg h0]
    unfold hasEl
    by_cases h : x = e
    · subst h
      cases hx : el x with
      | none => simp
      | some f => simp [hx] at h0
    · simp [h]
theorem hasEl_addAt (el : El) (x b e a : ByteArray) : hasEl (addAt el x b) e a = (hasEl el e a || (decide (x = e) && decide (b = a))) := by
  unfold addAt hasEl
  by_cases h : x = e
  · subst h
    simp only [if_true, decide_true, Bool.true_and]
    by_cases h2 : b = a
    · simp [h2]
    · simp only [if_neg h2, decide_eq_false h2, Bool.or_false]
      cases el x <;> rfl
  · simp [h]
theorem hasEl_els (xs : List ByteArray) (el : El) (e a : ByteArray) : hasEl (xs.foldl addEl el) e a = hasEl el e a := by
  induction xs generalizing el with
  | nil => rfl
  | cons x r ih => rw [List.foldl_cons, ih, hasEl_addEl]
theorem hasEl_on1 (ns : List ByteArray) (el : El) (x e a : ByteArray) : hasEl (addOn ns el x) e a = (hasEl el e a || (decide (x = e) && inL ns a)) := by
  unfold addOn
  induction ns generalizing el with
  | nil => simp [inL]
  | cons n r ih =>
    rw [List.foldl_cons, ih, hasEl_addAt]
    simp only [inL, List.any_cons]
    cases hasEl el e a <;> cases decide (x = e) <;> simp
theorem hasEl_on (ns os : List ByteArray) (el : El) (e a : ByteArray) : hasEl (os.foldl (addOn ns) el) e a = (hasEl el e a || (inL os e && inL ns a)) := by
  induction os generalizing el with
  | nil => simp [inL]
  | cons x r ih =>
    rw [List.foldl_cons, ih, hasEl_on1]
    simp only [inL, List.any_cons]
    cases hasEl el e a <;> cases decide (x = e) <;> cases (ns.any fun y => decide (y = a)) <;> simp
theorem gl_all (ns : List ByteArray) (gl : ByteArray → Bool) (a : ByteArray) : ns.foldl addGl gl a = (gl a || inL ns a) := by
  induction ns generalizing gl with
  | nil => simp [inL]
  | cons n r ih =>
    rw [List.foldl_cons, ih]
    simp only [inL, List.any_cons, addGl]
    by_cases h : n = a <;> simp [h]

theorem keeps_law (l : List S49) (el : El) (gl : ByteArray → Bool) (e a : ByteArray) :
    keeps (l.foldl applyEl el) (l.foldl applyGl gl) e a = (keeps el gl e a || (l.flatMap rulesOf).any fun r => allows r e a) := by
  induction l generalizing el gl with
  | nil => simp
  | cons c r ih =>
    rw [List.foldl_cons, List.foldl_cons, ih, List.flatMap_cons, List.any_append, ← Bool.or_assoc]
    congr 1
    show (hasEl (applyEl el c) e a || applyGl gl c a) = ((hasEl el e a || gl a) || (rulesOf c).any fun r => allows r e a)
    unfold applyEl applyGl rulesOf
    by_cases c0 : c.f0 = 0
    · have c1 : c.f0 ≠ 1 := by omega
      have c2 : c.f0 ≠ 2 := by omega
      rw [if_pos c0, if_neg c2, if_neg c1, if_neg c2, hasEl_els]
      simp
    rw [if_neg c0]
    by_cases c1 : c.f0 = 1
    · have c2 : c.f0 ≠ 2 := by omega
      rw [if_pos c1, if_neg c2, if_pos c1, hasEl_on]
      by_cases h : (c.f1.length : Int) > 0
      · rw [if_pos h]
        simp only [List.any_cons, List.any_nil, allows]
        cases hasEl el e a <;> cases gl a <;> cases inL c.f1 a <;> cases inL c.f2 e <;> rfl
      · rw [if_neg h]
        have : c.f1 = [] := List.length_eq_zero_iff.1 (by omega)
        simp [this, inL]
    rw [if_neg c1, if_neg c1]
    by_cases c2 : c.f0 = 2
    · have c3 : c.f0 ≠ 3 := by omega
      rw [if_neg c3, if_pos c2, if_pos c2, gl_all]
      simp only [List.any_cons, List.any_nil, allows]
      cases hasEl el e a <;> cases gl a <;> cases inL c.f1 a <;> rfl
    rw [if_neg c2, if_neg c2]
    split
    · rw [hasEl_els]; simp
    · simp
end M
end Go.Proofs.YtlgacgiikmkfcaaGreatDoor
