/- Three functions of the road (linkable, attributes, attrs), as print.sh printed them for files that this claim does not bear (one of those falls in Lean at another function). -/
import Derived.Test.YtlgacgiikmkfcaaGreatDoorPFnAttrsx0
namespace Go.Proofs.YtlgacgiikmkfcaaGreatDoor.PFnAttrs
open Go.RowKit Go.Proofs.YtlgacgiikmkfcaaGreatDoorW.PrintWords Go.Proofs.YtlgacgiikmkfcaaGreatDoorW.PrintLast Go.Proofs.YtlgacgiikmkfcaaGreatDoorW.PrintMore
attribute [local go_sem] max2_int min2_int max_two min_two max_three min_three max_four min_four   -- for this text's walks alone
set_option linter.unusedVariables false
set_option linter.unusedSimpArgs false


/-! ### bluemonday_linkable: function 99 -/
mutual
def bluemonday_linkable.j0 : Nat → ByteArray → Bool → Option (Bool)
  | 0, _, _ => none
  | k + 1, x3, x4 => if x4 = true then (some true) else (if x3.toList = ([98, 108, 111, 99, 107, 113, 117, 111, 116, 101] : List UInt8) then (bluemonday_linkable.j1 k x3 (x3.toList == ([98, 108, 111, 99, 107, 113, 117, 111, 116, 101] : List UInt8))) else (if x3.toList = ([100, 101, 108] : List UInt8) then (bluemonday_linkable.j1 k x3 (x3.toList == ([100, 101, 108] : List UInt8))) else (if x3.toList = ([105, 110, 115] : List UInt8) then (bluemonday_linkable.j1 k x3 (x3.toList == ([105, 110, 115] : List UInt8))) else (bluemonday_linkable.j1 k x3 (x3.toList == ([113] : List UInt8))))))
def bluemonday_linkable.j1 : Nat → ByteArray → Bool → Option (Bool)
  | 0, _, _ => none
  | k + 1, x3, x9 => if x9 = true then (some true) else (if x3.toList = ([97, 117, 100, 105, 111] : List UInt8) then (some true) else (if x3.toList = ([101, 109, 98, 101, 100] : List UInt8) then (some true) else (if x3.toList = ([105, 102, 114, 97, 109, 101] : List UInt8) then (some true) else (if x3.toList = ([105, 109, 103] : List UInt8) then (some true) else (if x3.toList = ([105, 110, 112, 117, 116] : List UInt8) then (some true) else (if x3.toList = ([115, 99, 114, 105, 112, 116] : List UInt8) then (some true) else (if x3.toList = ([116, 114, 97, 99, 107] : List UInt8) then (some true) else (if x3.toList = ([118, 105, 100, 101, 111] : List UInt8) then (some true) else (some false)))))))))
end
def bluemonday_linkable.f (k : Nat) (a0 : ByteArray) : Option (Bool) := if a0.toList = ([97] : List UInt8) then (bluemonday_linkable.j0 k a0 (a0.toList == ([97] : List UInt8))) else (if a0.toList = ([97, 114, 101, 97] : List UInt8) then (bluemonday_linkable.j0 k a0 (a0.toList == ([97, 114, 101, 97] : List UInt8))) else (if a0.toList = ([98, 97, 115, 101] : List UInt8) then (bluemonday_linkable.j0 k a0 (a0.toList == ([98, 97, 115, 101] : List UInt8))) else (bluemonday_linkable.j0 k a0 (a0.toList == ([108, 105, 110, 107] : List UInt8)))))
theorem bluemonday_linkable.mono_l : ∀ k, (∀ y0 y1, LeO (bluemonday_linkable.j0 k y0 y1) (bluemonday_linkable.j0 (k + 1) y0 y1)) ∧ (∀ y0 y1, LeO (bluemonday_linkable.j1 k y0 y1) (bluemonday_linkable.j1 (k + 1) y0 y1))
  | 0 => ⟨fun _ _ r h => by simp [bluemonday_linkable.j0] at h, fun _ _ r h => by simp [bluemonday_linkable.j1] at h⟩
  | k + 1 => by
    obtain ⟨ih0, ih1⟩ := bluemonday_linkable.mono_l k
    refine ⟨?_, ?_⟩
    · intro y0 y1
      unfold bluemonday_linkable.j0
      repeat' first
      | (with_reducible exact ih0 _ _)
      | (with_reducible exact ih1 _ _)
      | (with_reducible exact LeO.refl _)
      | (with_reducible exact LeO.none _)
      | (with_reducible refine LeO.ite ?_ ?_)
      | (with_reducible refine LeO.bind ?_ (fun _ => ?_))
      | exact ih0 _ _
      | exact ih1 _ _
      | exact LeO.none _
      | refine LeO.ite ?_ ?_
      | refine LeO.bind ?_ (fun _ => ?_)
    · intro y0 y1
      unfold bluemonday_linkable.j1
      repeat' first
      | (with_reducible exact ih0 _ _)
      | (with_reducible exact ih1 _ _)
      | (with_reducible exact LeO.refl _)
      | (with_reducible exact LeO.none _)
      | (with_reducible refine LeO.ite ?_ ?_)
      | (with_reducible refine LeO.bind ?_ (fun _ => ?_))
      | exact ih0 _ _
      | exact ih1 _ _
      | exact LeO.none _
      | refine LeO.ite ?_ ?_
      | refine LeO.bind ?_ (fun _ => ?_)
theorem bluemonday_linkable.mono : ∀ a0 k, LeO (bluemonday_linkable.f k a0) (bluemonday_linkable.f (k + 1) a0) := by
  intro a0 k
  obtain ⟨ih0, ih1⟩ := bluemonday_linkable.mono_l k
  unfold bluemonday_linkable.f
  repeat' first
      | (with_reducible exact ih0 _ _)
      | (with_reducible exact ih1 _ _)
      | (with_reducible exact LeO.refl _)
      | (with_reducible exact LeO.none _)
      | (with_reducible refine LeO.ite ?_ ?_)
      | (with_reducible refine LeO.bind ?_ (fun _ => ?_))
      | exact ih0 _ _
      | exact ih1 _ _
      | exact LeO.none _
      | refine LeO.ite ?_ ?_
      | refine LeO.bind ?_ (fun _ => ?_)
set_option maxHeartbeats 8000000 in
set_option maxRecDepth 100000 in
theorem bluemonday_linkable.calls (k : Nat) (a0 : ByteArray) (r : Bool) (w : World) (h : bluemonday_linkable.f k a0 = some r) :
    Calls Tryz.prog 99 #[.string a0] w fun e w' => e = .returned (.bool r) ∧ Drawn0 w w' := by
  have H : (if a0.toList = ([97] : List UInt8) then (bluemonday_linkable.j0 k a0 (a0.toList == ([97] : List UInt8))) else (if a0.toList = ([97, 114, 101, 97] : List UInt8) then (bluemonday_linkable.j0 k a0 (a0.toList == ([97, 114, 101, 97] : List UInt8))) else (if a0.toList = ([98, 97, 115, 101] : List UInt8) then (bluemonday_linkable.j0 k a0 (a0.toList == ([98, 97, 115, 101] : List UInt8))) else (bluemonday_linkable.j0 k a0 (a0.toList == ([108, 105, 110, 107] : List UInt8)))))) = some r := h
  clear h
  have HC2 := Aside0.mk H
  clear H
  go_enter Tryz.func99, Tryz.ntmps99
  go_upto_if 4 with (fail)
  go_cut [4] (fun v4 wc => ∃ (kq : Nat) (x4_1 : Bool), v4 = .bool x4_1 ∧ Aside0 (bluemonday_linkable.j0 kq a0 x4_1 = some r) ∧ Aside0 (kq ≤ k) ∧ Drawn0 w wc)
  case first =>
    have H := HC2.out
    clear HC2
    by_cases c3 : a0.toList = ([97] : List UInt8)
    · rw [if_pos c3] at H
      have c3b0 : (a0.toList == ([97] : List UInt8)) = true := beq_iff_eq.mpr c3
      have c3b1 : (a0.toList != ([97] : List UInt8)) = false := bne_eq_false_iff_eq.mpr c3
      clear c3
      (first | rw [c3b0] | (simp only [i64_w, i32_w]; rw [c3b0]) | skip)
      have H' := Aside0.mk H
      clear H
      go_wp2
      go_meet
      case rel => exact ⟨_, ((a0.toList == ([97] : List UInt8))), (by first | rfl | (simp; done) | (simp [*]; done)), H', ⟨by first | omega | exact Nat.le_refl _⟩, by repeat (first | exact Drawn0.refl _ | apply Drawn0.step)⟩
    · rw [if_neg c3] at H
      have c3b0 : (a0.toList == ([97] : List UInt8)) = false := beq_eq_false_iff_ne.mpr c3
      have c3b1 : (a0.toList != ([97] : List UInt8)) = true := bne_iff_ne.mpr c3
      (first | rw [c3b0] | (simp only [i64_w, i32_w]; rw [c3b0]) | skip)
      by_cases c4 : a0.toList = ([97, 114, 101, 97] : List UInt8)
      · rw [if_pos c4] at H
        have c4b0 : (a0.toList == ([97, 114, 101, 97] : List UInt8)) = true := beq_iff_eq.mpr c4
        have c4b1 : (a0.toList != ([97, 114, 101, 97] : List UInt8)) = false := bne_eq_false_iff_eq.mpr c4
        clear c4
        have H' := Aside0.mk H
        clear H
        go_wp2
        go_meet
        case rel => exact ⟨_, ((a0.toList == ([97, 114, 101, 97] : List UInt8))), (by first | rfl | (simp; done) | (simp [*]; done)), H', ⟨by first | omega | exact Nat.le_refl _⟩, by repeat (first | exact Drawn0.refl _ | apply Drawn0.step)⟩
      · rw [if_neg c4] at H
        have c4b0 : (a0.toList == ([97, 114, 101, 97] : List UInt8)) = false := beq_eq_false_iff_ne.mpr c4
        have c4b1 : (a0.toList != ([97, 114, 101, 97] : List UInt8)) = true := bne_iff_ne.mpr c4
        by_cases c5 : a0.toList = ([98, 97, 115, 101] : List UInt8)
        · rw [if_pos c5] at H
          have c5b0 : (a0.toList == ([98, 97, 115, 101] : List UInt8)) = true := beq_iff_eq.mpr c5
          have c5b1 : (a0.toList != ([98, 97, 115, 101] : List UInt8)) = false := bne_eq_false_iff_eq.mpr c5
          clear c5
          have H' := Aside0.mk H
          clear H
          go_wp2
          go_meet
          case rel => exact ⟨_, ((a0.toList == ([98, 97, 115, 101] : List UInt8))), (by first | rfl | (simp; done) | (simp [*]; done)), H', ⟨by first | omega | exact Nat.le_refl _⟩, by repeat (first | exact Drawn0.refl _ | apply Drawn0.step)⟩
        · rw [if_neg c5] at H
          have c5b0 : (a0.toList == ([98, 97, 115, 101] : List UInt8)) = false := beq_eq_false_iff_ne.mpr c5
          have c5b1 : (a0.toList != ([98, 97, 115, 101] : List UInt8)) = true := bne_iff_ne.mpr c5
          have H' := Aside0.mk H
          clear H
          go_wp2
          go_meet
          case rel => exact ⟨_, ((a0.toList == ([108, 105, 110, 107] : List UInt8))), (by first | rfl | (simp; done) | (simp [*]; done)), H', ⟨by first | omega | exact Nat.le_refl _⟩, by repeat (first | exact Drawn0.refl _ | apply Drawn0.step)⟩
  case rest =>
    clear HC2
    try clear p2
    try clear c3
    try clear c3b0
    try clear c3b1
    try clear c4
    try clear c4b0
    try clear c4b1
    try clear c5
    try clear c5b0
    try clear c5b1
    obtain ⟨kq, x4_1, rfl, HA, HJ1, ⟨mc1, rfl⟩⟩ := hcut
    cases kq with
    | zero => exact absurd HA.out (by simp [bluemonday_linkable.j0])
    | succ kj1 =>
      have H := HA.out
      clear HA
      simp only [bluemonday_linkable.j0] at H
      by_cases c6 : x4_1 = true
      · subst c6
        have H1 : (some true) = some r := by rw [if_pos rfl] at H; exact H
        clear H
        have H := H1
        clear H1
        obtain rfl := Option.some.inj H
        go_wp2
        go_ret
        exact ⟨by first | rfl | (simp; done) | (simp [*]; done), by repeat (first | exact Drawn0.refl _ | apply Drawn0.step)⟩
      · replace c6 := Bool.eq_false_iff.mpr c6
        subst c6
        have H1 : (if a0.toList = ([98, 108, 111, 99, 107, 113, 117, 111, 116, 101] : List UInt8) then (bluemonday_linkable.j1 kj1 a0 (a0.toList == ([98, 108, 111, 99, 107, 113, 117, 111, 116, 101] : List UInt8))) else (if a0.toList = ([100, 101, 108] : List UInt8) then (bluemonday_linkable.j1 kj1 a0 (a0.toList == ([100, 101, 108] : List UInt8))) else (if a0.toList = ([105, 110, 115] : List UInt8) then (bluemonday_linkable.j1 kj1 a0 (a0.toList == ([105, 110, 115] : List UInt8))) else (bluemonday_linkable.j1 kj1 a0 (a0.toList == ([113] : List UInt8)))))) = some r := by rw [if_neg (show ¬ (false = true) by decide)] at H; exact H
        clear H
        have H := H1
        clear H1
        have HC7 := Aside0.mk H
        clear H
        go_upto_if 9 with (fail)
        go_cut [9] (fun v9 wc => ∃ (kq : Nat) (x9_6 : Bool), v9 = .bool x9_6 ∧ Aside0 (bluemonday_linkable.j1 kq a0 x9_6 = some r) ∧ Aside0 (kq ≤ kj1) ∧ Drawn0 w wc)
        case first =>
          have H := HC7.out
          clear HC7
          by_cases c8 : a0.toList = ([98, 108, 111, 99, 107, 113, 117, 111, 116, 101] : List UInt8)
          · rw [if_pos c8] at H
            have c8b0 : (a0.toList == ([98, 108, 111, 99, 107, 113, 117, 111, 116, 101] : List UInt8)) = true := beq_iff_eq.mpr c8
            have c8b1 : (a0.toList != ([98, 108, 111, 99, 107, 113, 117, 111, 116, 101] : List UInt8)) = false := bne_eq_false_iff_eq.mpr c8
            clear c8
            (first | rw [c8b0] | (simp only [i64_w, i32_w]; rw [c8b0]) | skip)
            have H' := Aside0.mk H
            clear H
            go_wp2
            go_meet
            case rel => exact ⟨_, ((a0.toList == ([98, 108, 111, 99, 107, 113, 117, 111, 116, 101] : List UInt8))), (by first | rfl | (simp; done) | (simp [*]; done)), H', ⟨by have := HJ1.out; first | omega | exact Nat.le_refl _⟩, by repeat (first | exact Drawn0.refl _ | apply Drawn0.step)⟩
          · rw [if_neg c8] at H
            have c8b0 : (a0.toList == ([98, 108, 111, 99, 107, 113, 117, 111, 116, 101] : List UInt8)) = false := beq_eq_false_iff_ne.mpr c8
            have c8b1 : (a0.toList != ([98, 108, 111, 99, 107, 113, 117, 111, 116, 101] : List UInt8)) = true := bne_iff_ne.mpr c8
            (first | rw [c8b0] | (simp only [i64_w, i32_w]; rw [c8b0]) | skip)
            by_cases c9 : a0.toList = ([100, 101, 108] : List UInt8)
            · rw [if_pos c9] at H
              have c9b0 : (a0.toList == ([100, 101, 108] : List UInt8)) = true := beq_iff_eq.mpr c9
              have c9b1 : (a0.toList != ([100, 101, 108] : List UInt8)) = false := bne_eq_false_iff_eq.mpr c9
              clear c9
              have H' := Aside0.mk H
              clear H
              go_wp2
              go_meet
              case rel => exact ⟨_, ((a0.toList == ([100, 101, 108] : List UInt8))), (by first | rfl | (simp; done) | (simp [*]; done)), H', ⟨by have := HJ1.out; first | omega | exact Nat.le_refl _⟩, by repeat (first | exact Drawn0.refl _ | apply Drawn0.step)⟩
            · rw [if_neg c9] at H
              have c9b0 : (a0.toList == ([100, 101, 108] : List UInt8)) = false := beq_eq_false_iff_ne.mpr c9
              have c9b1 : (a0.toList != ([100, 101, 108] : List UInt8)) = true := bne_iff_ne.mpr c9
              by_cases c10 : a0.toList = ([105, 110, 115] : List UInt8)
              · rw [if_pos c10] at H
                have c10b0 : (a0.toList == ([105, 110, 115] : List UInt8)) = true := beq_iff_eq.mpr c10
                have c10b1 : (a0.toList != ([105, 110, 115] : List UInt8)) = false := bne_eq_false_iff_eq.mpr c10
                clear c10
                have H' := Aside0.mk H
                clear H
                go_wp2
                go_meet
                case rel => exact ⟨_, ((a0.toList == ([105, 110, 115] : List UInt8))), (by first | rfl | (simp; done) | (simp [*]; done)), H', ⟨by have := HJ1.out; first | omega | exact Nat.le_refl _⟩, by repeat (first | exact Drawn0.refl _ | apply Drawn0.step)⟩
              · rw [if_neg c10] at H
                have c10b0 : (a0.toList == ([105, 110, 115] : List UInt8)) = false := beq_eq_false_iff_ne.mpr c10
                have c10b1 : (a0.toList != ([105, 110, 115] : List UInt8)) = true := bne_iff_ne.mpr c10
                have H' := Aside0.mk H
                clear H
                go_wp2
                go_meet
                case rel => exact ⟨_, ((a0.toList == ([113] : List UInt8))), (by first | rfl | (simp; done) | (simp [*]; done)), H', ⟨by have := HJ1.out; first | omega | exact Nat.le_refl _⟩, by repeat (first | exact Drawn0.refl _ | apply Drawn0.step)⟩
        case rest =>
          clear HC7
          try clear c1
          try clear p2
          try clear c3
          try clear c3b0
          try clear c3b1
          try clear c4
          try clear c4b0
          try clear c4b1
          try clear c5
          try clear c5b0
          try clear c5b1
          try clear c6
          try clear c8
          try clear c8b0
          try clear c8b1
          try clear c9
          try clear c9b0
          try clear c9b1
          try clear c10
          try clear c10b0
          try clear c10b1
          try clear p2
          obtain ⟨kq, x9_6, rfl, HA, HJ6, ⟨mc6, rfl⟩⟩ := hcut
          cases kq with
          | zero => exact absurd HA.out (by simp [bluemonday_linkable.j1])
          | succ kj6 =>
            have H := HA.out
            clear HA
            simp only [bluemonday_linkable.j1] at H
            by_cases c11 : x9_6 = true
            · subst c11
              have H1 : (some true) = some r := by rw [if_pos rfl] at H; exact H
              clear H
              have H := H1
              clear H1
              obtain rfl := Option.some.inj H
              go_wp2
              go_ret
              exact ⟨by first | rfl | (simp; done) | (simp [*]; done), by repeat (first | exact Drawn0.refl _ | apply Drawn0.step)⟩
            · replace c11 := Bool.eq_false_iff.mpr c11
              subst c11
              have H1 : (if a0.toList = ([97, 117, 100, 105, 111] : List UInt8) then (some true) else (if a0.toList = ([101, 109, 98, 101, 100] : List UInt8) then (some true) else (if a0.toList = ([105, 102, 114, 97, 109, 101] : List UInt8) then (some true) else (if a0.toList = ([105, 109, 103] : List UInt8) then (some true) else (if a0.toList = ([105, 110, 112, 117, 116] : List UInt8) then (some true) else (if a0.toList = ([115, 99, 114, 105, 112, 116] : List UInt8) then (some true) else (if a0.toList = ([116, 114, 97, 99, 107] : List UInt8) then (some true) else (if a0.toList = ([118, 105, 100, 101, 111] : List UInt8) then (some true) else (some false))))))))) = some r := by rw [if_neg (show ¬ (false = true) by decide)] at H; exact H
              clear H
              have H := H1
              clear H1
              by_cases c12 : a0.toList = ([97, 117, 100, 105, 111] : List UInt8)
              · rw [if_pos c12] at H
                have c12b0 : (a0.toList == ([97, 117, 100, 105, 111] : List UInt8)) = true := beq_iff_eq.mpr c12
                have c12b1 : (a0.toList != ([97, 117, 100, 105, 111] : List UInt8)) = false := bne_eq_false_iff_eq.mpr c12
                clear c12
                obtain rfl := Option.some.inj H
                go_wp2
                go_ret
                exact ⟨by first | rfl | (simp; done) | (simp [*]; done), by repeat (first | exact Drawn0.refl _ | apply Drawn0.step)⟩
              · rw [if_neg c12] at H
                have c12b0 : (a0.toList == ([97, 117, 100, 105, 111] : List UInt8)) = false := beq_eq_false_iff_ne.mpr c12
                have c12b1 : (a0.toList != ([97, 117, 100, 105, 111] : List UInt8)) = true := bne_iff_ne.mpr c12
                by_cases c13 : a0.toList = ([101, 109, 98, 101, 100] : List UInt8)
                · rw [if_pos c13] at H
                  have c13b0 : (a0.toList == ([101, 109, 98, 101, 100] : List UInt8)) = true := beq_iff_eq.mpr c13
                  have c13b1 : (a0.toList != ([101, 109, 98, 101, 100] : List UInt8)) = false := bne_eq_false_iff_eq.mpr c13
                  clear c13
                  obtain rfl := Option.some.inj H
                  go_wp2
                  go_ret
                  exact ⟨by first | rfl | (simp; done) | (simp [*]; done), by repeat (first | exact Drawn0.refl _ | apply Drawn0.step)⟩
                · rw [if_neg c13] at H
                  have c13b0 : (a0.toList == ([101, 109, 98, 101, 100] : List UInt8)) = false := beq_eq_false_iff_ne.mpr c13
                  have c13b1 : (a0.toList != ([101, 109, 98, 101, 100] : List UInt8)) = true := bne_iff_ne.mpr c13
                  by_cases c14 : a0.toList = ([105, 102, 114, 97, 109, 101] : List UInt8)
                  · rw [if_pos c14] at H
                    have c14b0 : (a0.toList == ([105, 102, 114, 97, 109, 101] : List UInt8)) = true := beq_iff_eq.mpr c14
                    have c14b1 : (a0.toList != ([105, 102, 114, 97, 109, 101] : List UInt8)) = false := bne_eq_false_iff_eq.mpr c14
                    clear c14
                    obtain rfl := Option.some.inj H
                    go_wp2
                    go_ret
                    exact ⟨by first | rfl | (simp; done) | (simp [*]; done), by repeat (first | exact Drawn0.refl _ | apply Drawn0.step)⟩
                  · rw [if_neg c14] at H
                    have c14b0 : (a0.toList == ([105, 102, 114, 97, 109, 101] : List UInt8)) = false := beq_eq_false_iff_ne.mpr c14
                    have c14b1 : (a0.toList != ([105, 102, 114, 97, 109, 101] : List UInt8)) = true := bne_iff_ne.mpr c14
                    by_cases c15 : a0.toList = ([105, 109, 103] : List UInt8)
                    · rw [if_pos c15] at H
                      have c15b0 : (a0.toList == ([105, 109, 103] : List UInt8)) = true := beq_iff_eq.mpr c15
                      have c15b1 : (a0.toList != ([105, 109, 103] : List UInt8)) = false := bne_eq_false_iff_eq.mpr c15
                      clear c15
                      obtain rfl := Option.some.inj H
                      go_wp2
                      go_ret
                      exact ⟨by first | rfl | (simp; done) | (simp [*]; done), by repeat (first | exact Drawn0.refl _ | apply Drawn0.step)⟩
                    · rw [if_neg c15] at H
                      have c15b0 : (a0.toList == ([105, 109, 103] : List UInt8)) = false := beq_eq_false_iff_ne.mpr c15
                      have c15b1 : (a0.toList != ([105, 109, 103] : List UInt8)) = true := bne_iff_ne.mpr c15
                      by_cases c16 : a0.toList = ([105, 110, 112, 117, 116] : List UInt8)
                      · rw [if_pos c16] at H
                        have c16b0 : (a0.toList == ([105, 110, 112, 117, 116] : List UInt8)) = true := beq_iff_eq.mpr c16
                        have c16b1 : (a0.toList != ([105, 110, 112, 117, 116] : List UInt8)) = false := bne_eq_false_iff_eq.mpr c16
                        clear c16
                        obtain rfl := Option.some.inj H
                        go_wp2
                        go_ret
                        exact ⟨by first | rfl | (simp; done) | (simp [*]; done), by repeat (first | exact Drawn0.refl _ | apply Drawn0.step)⟩
                      · rw [if_neg c16] at H
                        have c16b0 : (a0.toList == ([105, 110, 112, 117, 116] : List UInt8)) = false := beq_eq_false_iff_ne.mpr c16
                        have c16b1 : (a0.toList != ([105, 110, 112, 117, 116] : List UInt8)) = true := bne_iff_ne.mpr c16
                        by_cases c17 : a0.toList = ([115, 99, 114, 105, 112, 116] : List UInt8)
                        · rw [if_pos c17] at H
                          have c17b0 : (a0.toList == ([115, 99, 114, 105, 112, 116] : List UInt8)) = true := beq_iff_eq.mpr c17
                          have c17b1 : (a0.toList != ([115, 99, 114, 105, 112, 116] : List UInt8)) = false := bne_eq_false_iff_eq.mpr c17
                          clear c17
                          obtain rfl := Option.some.inj H
                          go_wp2
                          go_ret
                          exact ⟨by first | rfl | (simp; done) | (simp [*]; done), by repeat (first | exact Drawn0.refl _ | apply Drawn0.step)⟩
                        · rw [if_neg c17] at H
                          have c17b0 : (a0.toList == ([115, 99, 114, 105, 112, 116] : List UInt8)) = false := beq_eq_false_iff_ne.mpr c17
                          have c17b1 : (a0.toList != ([115, 99, 114, 105, 112, 116] : List UInt8)) = true := bne_iff_ne.mpr c17
                          by_cases c18 : a0.toList = ([116, 114, 97, 99, 107] : List UInt8)
                          · rw [if_pos c18] at H
                            have c18b0 : (a0.toList == ([116, 114, 97, 99, 107] : List UInt8)) = true := beq_iff_eq.mpr c18
                            have c18b1 : (a0.toList != ([116, 114, 97, 99, 107] : List UInt8)) = false := bne_eq_false_iff_eq.mpr c18
                            clear c18
                            obtain rfl := Option.some.inj H
                            go_wp2
                            go_ret
                            exact ⟨by first | rfl | (simp; done) | (simp [*]; done), by repeat (first | exact Drawn0.refl _ | apply Drawn0.step)⟩
                          · rw [if_neg c18] at H
                            have c18b0 : (a0.toList == ([116, 114, 97, 99, 107] : List UInt8)) = false := beq_eq_false_iff_ne.mpr c18
                            have c18b1 : (a0.toList != ([116, 114, 97, 99, 107] : List UInt8)) = true := bne_iff_ne.mpr c18
                            by_cases c19 : a0.toList = ([118, 105, 100, 101, 111] : List UInt8)
                            · rw [if_pos c19] at H
                              have c19b0 : (a0.toList == ([118, 105, 100, 101, 111] : List UInt8)) = true := beq_iff_eq.mpr c19
                              have c19b1 : (a0.toList != ([118, 105, 100, 101, 111] : List UInt8)) = false := bne_eq_false_iff_eq.mpr c19
                              clear c19
                              obtain rfl := Option.some.inj H
                              go_wp2
                              go_ret
                              exact ⟨by first | rfl | (simp; done) | (simp [*]; done), by repeat (first | exact Drawn0.refl _ | apply Drawn0.step)⟩
                            · rw [if_neg c19] at H
                              have c19b0 : (a0.toList == ([118, 105, 100, 101, 111] : List UInt8)) = false := beq_eq_false_iff_ne.mpr c19
                              have c19b1 : (a0.toList != ([118, 105, 100, 101, 111] : List UInt8)) = true := bne_iff_ne.mpr c19
                              obtain rfl := Option.some.inj H
                              go_wp2
                              go_ret
                              exact ⟨by first | rfl | (simp; done) | (simp [*]; done), by repeat (first | exact Drawn0.refl _ | apply Drawn0.step)⟩











/-! ### impl_attributes: function 38 -/
def impl_attributes.l0 : Nat → List (S82) → List (S44) → Int → Int → Option ((List (S82)))
  | 0, _, _, _, _ => none
  | k + 1, x3, x6, x7, x8 => if x8 < x7 then (if 0 ≤ x8 then (if x8 < (x6.length : Int) then (if x3.length < 2932031007402 then (impl_attributes.l0 k (x3 ++ [(⟨(⟨#[]⟩ : ByteArray), (rd_T44 x6 x8).f0, (rd_T44 x6 x8).f1⟩ : S82)]) x6 x7 (wrap64 (x8 + 1))) else (none)) else (none)) else (none)) else (some x3)
def impl_attributes.f (k : Nat) (l0 : List (S44)) : Option ((List (S82))) := impl_attributes.l0 k ([] : List (S82)) l0 (l0.length : Int) 0
theorem impl_attributes.mono_l : ∀ k, (∀ y0 y1 y2 y3, LeO (impl_attributes.l0 k y0 y1 y2 y3) (impl_attributes.l0 (k + 1) y0 y1 y2 y3))
  | 0 => fun _ _ _ _ r h => by simp [impl_attributes.l0] at h
  | k + 1 => by
    have ih0 := impl_attributes.mono_l k
    · intro y0 y1 y2 y3
      unfold impl_attributes.l0
      repeat' first
      | (with_reducible exact ih0 _ _ _ _)
      | (with_reducible exact LeO.refl _)
      | (with_reducible exact LeO.none _)
      | (with_reducible refine LeO.ite ?_ ?_)
      | (with_reducible refine LeO.bind ?_ (fun _ => ?_))
      | exact ih0 _ _ _ _
      | exact LeO.none _
      | refine LeO.ite ?_ ?_
      | refine LeO.bind ?_ (fun _ => ?_)
theorem impl_attributes.mono : ∀ a0 k, LeO (impl_attributes.f k a0) (impl_attributes.f (k + 1) a0) := by
  intro a0 k
  have ih0 := impl_attributes.mono_l k
  unfold impl_attributes.f
  repeat' first
      | (with_reducible exact ih0 _ _ _ _)
      | (with_reducible exact LeO.refl _)
      | (with_reducible exact LeO.none _)
      | (with_reducible refine LeO.ite ?_ ?_)
      | (with_reducible refine LeO.bind ?_ (fun _ => ?_))
      | exact ih0 _ _ _ _
      | exact LeO.none _
      | refine LeO.ite ?_ ?_
      | refine LeO.bind ?_ (fun _ => ?_)
set_option maxHeartbeats 8000000 in
set_option maxRecDepth 100000 in
theorem impl_attributes.calls (k : Nat) (A0 : Option Addr) (c0 : Nat) (l0 : List (S44)) (r : List (S82)) (w : World) (hr0 : Kd.C k44 w A0 l0.length l0) (hc0 : l0.length ≤ c0) (h : impl_attributes.f k l0 = some r) :
    Calls Tryz.prog 38 #[.slice A0 l0.length c0] w fun e w' => ∃ v0_ : Value, e = .returned (v0_) ∧ Kd.R k82 82 w' w.heap.size (fun _ => True) v0_ r ∧ Below w.heap.size w w' := by
  have hu44 := Tryz.underlying44
  have hu82 := Tryz.underlying82
  have HR0 := Aside0.mk hr0
  have HC0 := Aside0.mk hc0
  clear hr0 hc0
  have HB := Aside0.mk (Below.refl w.heap.size w)
  have H : (impl_attributes.l0 k ([] : List (S82)) l0 (l0.length : Int) 0) = some r := h
  clear h
  have H' := Aside0.mk H
  clear H
  go_enter Tryz.func38, Tryz.ntmps38
  go_wp2
  go_loopg [3, 8] k (fun kq v3 v8 w' => ∃ (x3_1 : List (S82)) (x8_1 : Int), v8 = .int .i64 x8_1 ∧ Aside0 (impl_attributes.l0 kq x3_1 l0 (l0.length : Int) x8_1 = some r) ∧ Aside0 (kq ≤ k) ∧ Aside0 (Kd.R k82 82 w' w.heap.size (fun _ => True) v3 x3_1) ∧ Aside0 (Below w.heap.size w w'))
  case atStart => exact ⟨(([] : List (S82))), (0), (by first | rfl | (simp; done) | (simp [*]; done)), H', ⟨Nat.le_refl _⟩, ⟨by first | exact Kd.R_nil _ _ _ _ _ | exact Kd.N_nil _ _ _ _ _ | exact Kd.V_nil _ _ _ _ _ | exact Kd.Q_nil _ _ _ _ _ | exact Kd.S_nil _ _ _ _ _⟩, ⟨by repeat (first | (with_reducible first | exact HB.out | apply below_alloc | apply pw_below_drewN | apply below_drew1) | exact HB.out)⟩⟩
  case round =>
    clear H'
    obtain ⟨x3_1, x8_1, rfl, HA, HK1, HO_3, HB⟩ := hrel
    cases gk with
    | zero => exact absurd HA.out (by simp [impl_attributes.l0])
    | succ k1 =>
      have H := HA.out
      clear HA
      simp only [impl_attributes.l0] at H
      by_cases c2 : x8_1 < (l0.length : Int)
      · rw [if_pos c2] at H
        have c2b0 : decide (x8_1 < (l0.length : Int)) = true := decide_eq_true c2
        clear c2
        by_cases c3 : 0 ≤ x8_1
        · rw [if_pos c3] at H
          have c3b0 : decide (0 ≤ x8_1) = true := decide_eq_true c3
          clear c3
          by_cases c4 : x8_1 < (l0.length : Int)
          · rw [if_pos c4] at H
            have c4b0 : decide (x8_1 < (l0.length : Int)) = true := decide_eq_true c4
            clear c4
            by_cases c5 : x3_1.length < 2932031007402
            · rw [if_pos c5] at H
              have LMc5 := Aside0.mk c5
              clear c5
              obtain ⟨y249, hy249⟩ : ∃ y_ : List (S82), y_ = (x3_1 ++ [(⟨(⟨#[]⟩ : ByteArray), (rd_T44 l0 x8_1).f0, (rd_T44 l0 x8_1).f1⟩ : S82)]) := ⟨_, rfl⟩
              replace H : (impl_attributes.l0 k1 y249 l0 (l0.length : Int) (wrap64 (x8_1 + 1))) = some r := by first | (rw [hy249]; with_reducible exact H) | (have H2_ := (Option.bind_some _ _).symm.trans H; rw [hy249]; with_reducible exact H2_) | (have H2_ := (Option.bind_some _ _).symm.trans H; with_reducible exact H2_) | with_reducible exact H | (rw [hy249]; exact H) | exact H
              have Ny249 := Aside0.mk hy249
              clear hy249
              have H' := Aside0.mk H
              clear H
              have p247 : 0 ≤ (x8_1 : Int) := of_decide_eq_true (by first | (with_reducible assumption) | assumption)
              have q247 : x8_1 < (l0.length : Int) := of_decide_eq_true (by first | (with_reducible assumption) | assumption)
              obtain ⟨ad247, e247, hx247_0, hx247_1⟩ := at_T44 HR0.out x8_1 p247 q247
              cases e247
              replace hx247_0 := (HB.out.cell (World.block_lt_of_cell? w _ hx247_0)).trans hx247_0
              replace hx247_1 := (HB.out.cell (World.block_lt_of_cell? w _ hx247_1)).trans hx247_1
              replace p247 := eq_true p247
              replace q247 := eq_true q247
              go_wp2_with (first | ((with_reducible refine gate_dst (N := 5) rfl ?_); refine box_event ?hg (N := 5) ?hd (cs := #[.string (⟨#[]⟩ : ByteArray), .string (⟨#[]⟩ : ByteArray)]) (t := 44) ?hr ?_; (case hd => rfl); (case hg => rfl); (case hr => first | (go_simp; done) | (go_simp; rfl)); intro gb248 hg w6 hbox hb; have n0_ := Aside0.mk (Kd.R_below (by (with_reducible repeat (first | apply Kd.R_alloc | apply Kd.R_drewN | apply Kd.R_drew)); exact HO_3.out) hb); have n1_ := Aside0.mk (below_step (by repeat (first | (with_reducible first | exact HB.out | apply below_alloc | apply pw_below_drewN | apply below_drew1) | exact HB.out)) hb); have n2_ := Aside0.mk (hbox); have n3_ := Aside0.mk ((by rw [hg]; exact (below_size (by repeat (first | (with_reducible first | exact HB.out | apply below_alloc | apply pw_below_drewN | apply below_drew1) | exact HB.out))) : w.heap.size ≤ gb248)); have n4_ := Aside0.mk ((by rw [hg]; exact (below_size (by repeat (first | (with_reducible first | exact HB.out | apply below_alloc | apply pw_below_drewN | apply below_drew1) | exact HB.out))) : w.heap.size ≤ gb248)); clear HO_3; clear HB; have HO_3 := n0_; have HB := n1_; have BK248 := n2_; have GW248 := n3_; have GE248 := n4_; clear n0_ n1_ n2_ n3_ n4_; clear hb hbox hg; have hcz7_0 : w6.cell? ⟨gb248, 0, none⟩ = some (.string (⟨#[]⟩ : ByteArray)) := (blk_cell BK248.out 0).trans rfl; have hcz7_1 : w6.cell? ⟨gb248, 1, none⟩ = some (.string (⟨#[]⟩ : ByteArray)) := (blk_cell BK248.out 1).trans rfl; have hfz7_0 := blk_frozen BK248.out 0; have hfz7_1 := blk_frozen BK248.out 1) | ((with_reducible refine gate_builtin (b := .append) (xs := #[.tmp 12, .tmp 18]) rfl ?_); at_builtin; refine Kd.R_append k82 (w0 := w) w.heap.size rfl (.tmp 12) (.tmp 18) 65 82 (.agg #[(.string ⟨#[]⟩), (.string ⟨#[]⟩), (.string ⟨#[]⟩)]) 48 rfl Tryz.underlying65 info82 rfl (by decide) (by omega) u3 x3_1 (⟨(⟨#[]⟩ : ByteArray), (rd_T44 l0 x8_1).f0, (rd_T44 l0 x8_1).f1⟩ : S82) [.string (⟨#[]⟩ : ByteArray), .string ((rd_T44 l0 x8_1).f0), .string ((rd_T44 l0 x8_1).f1)] (fun _ => True) (fun _ => False) rfl (by first | (go_simp; done) | (go_simp; rfl)) ?aP (fun _ hk => hk.elim) ?aF ?aO ?aB ?aS ?aL ?_; (case aP => exact k82_mkM _ _ _ (⟨(⟨#[]⟩ : ByteArray), (rd_T44 l0 x8_1).f0, (rd_T44 l0 x8_1).f1⟩ : S82)); (case aB => exact (by repeat (first | (with_reducible first | exact HB.out | apply below_alloc | apply pw_below_drewN | apply below_drew1 | refine below_set ?_ GE248.out) | exact HB.out))); (case aF => exact (fun _ _ => trivial)); (case aO => exact (by (with_reducible repeat (first | apply Kd.R_alloc | apply Kd.R_drewN | apply Kd.R_drew)); exact Kd.R_mono (Kd.R_far (p := ⟨gb248, 1, none⟩) (Kd.R_far (p := ⟨gb248, 0, none⟩) (Kd.R_types HO_3.out BK248.out (by decide)) (fun _ hk => hk.2) (.string ((rd_T44 l0 x8_1).f0))) (fun _ hk => hk.2) (.string ((rd_T44 l0 x8_1).f1))) (fun _ hk => trivial))); (case aS => exact (below_size (by repeat (first | (with_reducible first | exact HB.out | apply below_alloc | apply pw_below_drewN | apply below_drew1 | refine below_set ?_ GE248.out) | exact HB.out)))); (case aL => have := LMc5.out; omega); intro v250 w8 ho hb hg hat; rw [← Ny249.out] at ho; have n0_ := Aside0.mk (blk_grown (g := gb248) (o := .cells #[.string ((rd_T44 l0 x8_1).f0), .string ((rd_T44 l0 x8_1).f1)] 44 (0, 0)) (by (with_reducible repeat (first | refine blk_drewN ?_ _ | refine blk_drew ?_ | refine blk_alloc ?_ _)); refine blk_put (cs := #[.string ((rd_T44 l0 x8_1).f0), .string (⟨#[]⟩ : ByteArray)]) ?_ 1 _ rfl; (with_reducible repeat (first | refine blk_drewN ?_ _ | refine blk_drew ?_ | refine blk_alloc ?_ _)); refine blk_put (cs := #[.string (⟨#[]⟩ : ByteArray), .string (⟨#[]⟩ : ByteArray)]) ?_ 0 _ rfl; (with_reducible repeat (first | refine blk_drewN ?_ _ | refine blk_drew ?_ | refine blk_alloc ?_ _)); exact BK248.out) hg (Kd.R_ne HO_3.out BK248.out (by decide))); have n1_ := Aside0.mk (hb); have n2_ := Aside0.mk (ho); clear BK248; clear HB; clear HO_3; have BK248 := n0_; have HB := n1_; have HO251 := n2_; clear n0_ n1_ n2_; clear ho hb hg hat))
              go_roundg k1
              case measure => have := HK1.out; omega
              case rel => exact ⟨(y249), (wrap64 (x8_1 + 1)), (by first | rfl | (simp; done) | (simp [*]; done)), H', ⟨by have := HK1.out; omega⟩, ⟨by (with_reducible repeat (first | apply Kd.R_alloc | apply Kd.R_drewN | apply Kd.R_drew)); exact HO251.out⟩, ⟨by repeat (first | (with_reducible first | exact HB.out | apply below_alloc | apply pw_below_drewN | apply below_drew1 | refine below_set ?_ GE248.out) | exact HB.out)⟩⟩
            · rw [if_neg c5] at H
              exact absurd H (by simp)
          · rw [if_neg c4] at H
            exact absurd H (by simp)
        · rw [if_neg c3] at H
          exact absurd H (by simp)
      · rw [if_neg c2] at H
        have c2b0 : decide (x8_1 < (l0.length : Int)) = false := decide_eq_false c2
        clear c2
        obtain rfl := Option.some.inj H
        go_wp2
        go_ret
        exact ⟨_, by first | rfl | (simp [errW_none, errW_some] <;> rfl) | (simp [*, errW_none, errW_some] <;> rfl), by (with_reducible repeat (first | apply Kd.R_alloc | apply Kd.R_drewN | apply Kd.R_drew)); exact HO_3.out, by repeat (first | (with_reducible first | exact HB.out | apply below_alloc | apply pw_below_drewN | apply below_drew1) | exact HB.out)⟩








/-! ### impl_attrs: function 36 -/
def impl_attrs.l0 : Nat → List (S44) → List (S82) → Int → Int → Option ((List (S44)))
  | 0, _, _, _, _ => none
  | k + 1, x3, x6, x7, x8 => if x8 < x7 then (if 0 ≤ x8 then (if x8 < (x6.length : Int) then (if x3.length < 4398046511104 then (impl_attrs.l0 k (x3 ++ [(⟨(rd_T82 x6 x8).f1, (rd_T82 x6 x8).f2⟩ : S44)]) x6 x7 (wrap64 (x8 + 1))) else (none)) else (none)) else (none)) else (some x3)
def impl_attrs.f (k : Nat) (l0 : List (S82)) : Option ((List (S44))) := impl_attrs.l0 k ([] : List (S44)) l0 (l0.length : Int) 0
theorem impl_attrs.mono_l : ∀ k, (∀ y0 y1 y2 y3, LeO (impl_attrs.l0 k y0 y1 y2 y3) (impl_attrs.l0 (k + 1) y0 y1 y2 y3))
  | 0 => fun _ _ _ _ r h => by simp [impl_attrs.l0] at h
  | k + 1 => by
    have ih0 := impl_attrs.mono_l k
    · intro y0 y1 y2 y3
      unfold impl_attrs.l0
      repeat' first
      | (with_reducible exact ih0 _ _ _ _)
      | (with_reducible exact LeO.refl _)
      | (with_reducible exact LeO.none _)
      | (with_reducible refine LeO.ite ?_ ?_)
      | (with_reducible refine LeO.bind ?_ (fun _ => ?_))
      | exact ih0 _ _ _ _
      | exact LeO.none _
      | refine LeO.ite ?_ ?_
      | refine LeO.bind ?_ (fun _ => ?_)
theorem impl_attrs.mono : ∀ a0 k, LeO (impl_attrs.f k a0) (impl_attrs.f (k + 1) a0) := by
  intro a0 k
  have ih0 := impl_attrs.mono_l k
  unfold impl_attrs.f
  repeat' first
      | (with_reducible exact ih0 _ _ _ _)
      | (with_reducible exact LeO.refl _)
      | (with_reducible exact LeO.none _)
      | (with_reducible refine LeO.ite ?_ ?_)
      | (with_reducible refine LeO.bind ?_ (fun _ => ?_))
      | exact ih0 _ _ _ _
      | exact LeO.none _
      | refine LeO.ite ?_ ?_
      | refine LeO.bind ?_ (fun _ => ?_)
set_option maxHeartbeats 8000000 in
set_option maxRecDepth 100000 in
theorem impl_attrs.calls (k : Nat) (A0 : Option Addr) (c0 : Nat) (l0 : List (S82)) (r : List (S44)) (w : World) (hr0 : Kd.C k82 w A0 l0.length l0) (hc0 : l0.length ≤ c0) (h : impl_attrs.f k l0 = some r) :
    Calls Tryz.prog 36 #[.slice A0 l0.length c0] w fun e w' => ∃ v0_ : Value, e = .returned (v0_) ∧ Kd.R k44 44 w' w.heap.size (fun _ => True) v0_ r ∧ Below w.heap.size w w' := by
  have hu82 := Tryz.underlying82
  have hu44 := Tryz.underlying44
  have HR0 := Aside0.mk hr0
  have HC0 := Aside0.mk hc0
  clear hr0 hc0
  have HB := Aside0.mk (Below.refl w.heap.size w)
  have H : (impl_attrs.l0 k ([] : List (S44)) l0 (l0.length : Int) 0) = some r := h
  clear h
  have H' := Aside0.mk H
  clear H
  go_enter Tryz.func36, Tryz.ntmps36
  go_wp2
  go_loopg [3, 8] k (fun kq v3 v8 w' => ∃ (x3_1 : List (S44)) (x8_1 : Int), v8 = .int .i64 x8_1 ∧ Aside0 (impl_attrs.l0 kq x3_1 l0 (l0.length : Int) x8_1 = some r) ∧ Aside0 (kq ≤ k) ∧ Aside0 (Kd.R k44 44 w' w.heap.size (fun _ => True) v3 x3_1) ∧ Aside0 (Below w.heap.size w w'))
  case atStart => exact ⟨(([] : List (S44))), (0), (by first | rfl | (simp; done) | (simp [*]; done)), H', ⟨Nat.le_refl _⟩, ⟨by first | exact Kd.R_nil _ _ _ _ _ | exact Kd.N_nil _ _ _ _ _ | exact Kd.V_nil _ _ _ _ _ | exact Kd.Q_nil _ _ _ _ _ | exact Kd.S_nil _ _ _ _ _⟩, ⟨by repeat (first | (with_reducible first | exact HB.out | apply below_alloc | apply pw_below_drewN | apply below_drew1) | exact HB.out)⟩⟩
  case round =>
    clear H'
    obtain ⟨x3_1, x8_1, rfl, HA, HK1, HO_3, HB⟩ := hrel
    cases gk with
    | zero => exact absurd HA.out (by simp [impl_attrs.l0])
    | succ k1 =>
      have H := HA.out
      clear HA
      simp only [impl_attrs.l0] at H
      by_cases c2 : x8_1 < (l0.length : Int)
      · rw [if_pos c2] at H
        have c2b0 : decide (x8_1 < (l0.length : Int)) = true := decide_eq_true c2
        clear c2
        by_cases c3 : 0 ≤ x8_1
        · rw [if_pos c3] at H
          have c3b0 : decide (0 ≤ x8_1) = true := decide_eq_true c3
          clear c3
          by_cases c4 : x8_1 < (l0.length : Int)
          · rw [if_pos c4] at H
            have c4b0 : decide (x8_1 < (l0.length : Int)) = true := decide_eq_true c4
            clear c4
            by_cases c5 : x3_1.length < 4398046511104
            · rw [if_pos c5] at H
              have LMc5 := Aside0.mk c5
              clear c5
              obtain ⟨y203, hy203⟩ : ∃ y_ : List (S44), y_ = (x3_1 ++ [(⟨(rd_T82 l0 x8_1).f1, (rd_T82 l0 x8_1).f2⟩ : S44)]) := ⟨_, rfl⟩
              replace H : (impl_attrs.l0 k1 y203 l0 (l0.length : Int) (wrap64 (x8_1 + 1))) = some r := by first | (rw [hy203]; with_reducible exact H) | (have H2_ := (Option.bind_some _ _).symm.trans H; rw [hy203]; with_reducible exact H2_) | (have H2_ := (Option.bind_some _ _).symm.trans H; with_reducible exact H2_) | with_reducible exact H | (rw [hy203]; exact H) | exact H
              have Ny203 := Aside0.mk hy203
              clear hy203
              have H' := Aside0.mk H
              clear H
              have p201 : 0 ≤ (x8_1 : Int) := of_decide_eq_true (by first | (with_reducible assumption) | assumption)
              have q201 : x8_1 < (l0.length : Int) := of_decide_eq_true (by first | (with_reducible assumption) | assumption)
              obtain ⟨ad201, e201, hx201_0, hx201_1, hx201_2⟩ := at_T82 HR0.out x8_1 p201 q201
              cases e201
              replace hx201_0 := (HB.out.cell (World.block_lt_of_cell? w _ hx201_0)).trans hx201_0
              replace hx201_1 := (HB.out.cell (World.block_lt_of_cell? w _ hx201_1)).trans hx201_1
              replace hx201_2 := (HB.out.cell (World.block_lt_of_cell? w _ hx201_2)).trans hx201_2
              replace p201 := eq_true p201
              replace q201 := eq_true q201
              go_wp2_with (first | ((with_reducible refine gate_dst (N := 5) rfl ?_); refine box_event ?hg (N := 5) ?hd (cs := #[.string (⟨#[]⟩ : ByteArray), .string (⟨#[]⟩ : ByteArray), .string (⟨#[]⟩ : ByteArray)]) (t := 82) ?hr ?_; (case hd => rfl); (case hg => rfl); (case hr => first | (go_simp; done) | (go_simp; rfl)); intro gb202 hg w6 hbox hb; have n0_ := Aside0.mk (Kd.R_below (by (with_reducible repeat (first | apply Kd.R_alloc | apply Kd.R_drewN | apply Kd.R_drew)); exact HO_3.out) hb); have n1_ := Aside0.mk (below_step (by repeat (first | (with_reducible first | exact HB.out | apply below_alloc | apply pw_below_drewN | apply below_drew1) | exact HB.out)) hb); have n2_ := Aside0.mk (hbox); have n3_ := Aside0.mk ((by rw [hg]; exact (below_size (by repeat (first | (with_reducible first | exact HB.out | apply below_alloc | apply pw_below_drewN | apply below_drew1) | exact HB.out))) : w.heap.size ≤ gb202)); have n4_ := Aside0.mk ((by rw [hg]; exact (below_size (by repeat (first | (with_reducible first | exact HB.out | apply below_alloc | apply pw_below_drewN | apply below_drew1) | exact HB.out))) : w.heap.size ≤ gb202)); clear HO_3; clear HB; have HO_3 := n0_; have HB := n1_; have BK202 := n2_; have GW202 := n3_; have GE202 := n4_; clear n0_ n1_ n2_ n3_ n4_; clear hb hbox hg; have hcz7_0 : w6.cell? ⟨gb202, 0, none⟩ = some (.string (⟨#[]⟩ : ByteArray)) := (blk_cell BK202.out 0).trans rfl; have hcz7_1 : w6.cell? ⟨gb202, 1, none⟩ = some (.string (⟨#[]⟩ : ByteArray)) := (blk_cell BK202.out 1).trans rfl; have hcz7_2 : w6.cell? ⟨gb202, 2, none⟩ = some (.string (⟨#[]⟩ : ByteArray)) := (blk_cell BK202.out 2).trans rfl; have hfz7_0 := blk_frozen BK202.out 0; have hfz7_1 := blk_frozen BK202.out 1; have hfz7_2 := blk_frozen BK202.out 2) | ((with_reducible refine gate_builtin (b := .append) (xs := #[.tmp 12, .tmp 18]) rfl ?_); at_builtin; refine Kd.R_append k44 (w0 := w) w.heap.size rfl (.tmp 12) (.tmp 18) 35 44 (.agg #[(.string ⟨#[]⟩), (.string ⟨#[]⟩)]) 32 rfl Tryz.underlying35 info44 rfl (by decide) (by omega) u3 x3_1 (⟨(rd_T82 l0 x8_1).f1, (rd_T82 l0 x8_1).f2⟩ : S44) [.string ((rd_T82 l0 x8_1).f1), .string ((rd_T82 l0 x8_1).f2)] (fun _ => True) (fun _ => False) rfl (by first | (go_simp; done) | (go_simp; rfl)) ?aP (fun _ hk => hk.elim) ?aF ?aO ?aB ?aS ?aL ?_; (case aP => exact k44_mkM _ _ _ (⟨(rd_T82 l0 x8_1).f1, (rd_T82 l0 x8_1).f2⟩ : S44)); (case aB => exact (by repeat (first | (with_reducible first | exact HB.out | apply below_alloc | apply pw_below_drewN | apply below_drew1 | refine below_set ?_ GE202.out) | exact HB.out))); (case aF => exact (fun _ _ => trivial)); (case aO => exact (by (with_reducible repeat (first | apply Kd.R_alloc | apply Kd.R_drewN | apply Kd.R_drew)); exact Kd.R_mono (Kd.R_far (p := ⟨gb202, 2, none⟩) (Kd.R_far (p := ⟨gb202, 1, none⟩) (Kd.R_far (p := ⟨gb202, 0, none⟩) (Kd.R_types HO_3.out BK202.out (by decide)) (fun _ hk => hk.2) (.string ((rd_T82 l0 x8_1).f0))) (fun _ hk => hk.2) (.string ((rd_T82 l0 x8_1).f1))) (fun _ hk => hk.2) (.string ((rd_T82 l0 x8_1).f2))) (fun _ hk => trivial))); (case aS => exact (below_size (by repeat (first | (with_reducible first | exact HB.out | apply below_alloc | apply pw_below_drewN | apply below_drew1 | refine below_set ?_ GE202.out) | exact HB.out)))); (case aL => have := LMc5.out; omega); intro v204 w8 ho hb hg hat; rw [← Ny203.out] at ho; have n0_ := Aside0.mk (blk_grown (g := gb202) (o := .cells #[.string ((rd_T82 l0 x8_1).f0), .string ((rd_T82 l0 x8_1).f1), .string ((rd_T82 l0 x8_1).f2)] 82 (0, 0)) (by (with_reducible repeat (first | refine blk_drewN ?_ _ | refine blk_drew ?_ | refine blk_alloc ?_ _)); refine blk_put (cs := #[.string ((rd_T82 l0 x8_1).f0), .string ((rd_T82 l0 x8_1).f1), .string (⟨#[]⟩ : ByteArray)]) ?_ 2 _ rfl; (with_reducible repeat (first | refine blk_drewN ?_ _ | refine blk_drew ?_ | refine blk_alloc ?_ _)); refine blk_put (cs := #[.string ((rd_T82 l0 x8_1).f0), .string (⟨#[]⟩ : ByteArray), .string (⟨#[]⟩ : ByteArray)]) ?_ 1 _ rfl; (with_reducible repeat (first | refine blk_drewN ?_ _ | refine blk_drew ?_ | refine blk_alloc ?_ _)); refine blk_put (cs := #[.string (⟨#[]⟩ : ByteArray), .string (⟨#[]⟩ : ByteArray), .string (⟨#[]⟩ : ByteArray)]) ?_ 0 _ rfl; (with_reducible repeat (first | refine blk_drewN ?_ _ | refine blk_drew ?_ | refine blk_alloc ?_ _)); exact BK202.out) hg (Kd.R_ne HO_3.out BK202.out (by decide))); have n1_ := Aside0.mk (hb); have n2_ := Aside0.mk (ho); clear BK202; clear HB; clear HO_3; have BK202 := n0_; have HB := n1_; have HO205 := n2_; clear n0_ n1_ n2_; clear ho hb hg hat))
              go_roundg k1
              case measure => have := HK1.out; omega
              case rel => exact ⟨(y203), (wrap64 (x8_1 + 1)), (by first | rfl | (simp; done) | (simp [*]; done)), H', ⟨by have := HK1.out; omega⟩, ⟨by (with_reducible repeat (first | apply Kd.R_alloc | apply Kd.R_drewN | apply Kd.R_drew)); exact HO205.out⟩, ⟨by repeat (first | (with_reducible first | exact HB.out | apply below_alloc | apply pw_below_drewN | apply below_drew1 | refine below_set ?_ GE202.out) | exact HB.out)⟩⟩
            · rw [if_neg c5] at H
              exact absurd H (by simp)
          · rw [if_neg c4] at H
            exact absurd H (by simp)
        · rw [if_neg c3] at H
          exact absurd H (by simp)
      · rw [if_neg c2] at H
        have c2b0 : decide (x8_1 < (l0.length : Int)) = false := decide_eq_false c2
        clear c2
        obtain rfl := Option.some.inj H
        go_wp2
        go_ret
        exact ⟨_, by first | rfl | (simp [errW_none, errW_some] <;> rfl) | (simp [*, errW_none, errW_some] <;> rfl), by (with_reducible repeat (first | apply Kd.R_alloc | apply Kd.R_drewN | apply Kd.R_drew)); exact HO_3.out, by repeat (first | (with_reducible first | exact HB.out | apply below_alloc | apply pw_below_drewN | apply below_drew1) | exact HB.out)⟩


end Go.Proofs.YtlgacgiikmkfcaaGreatDoor.PFnAttrs
