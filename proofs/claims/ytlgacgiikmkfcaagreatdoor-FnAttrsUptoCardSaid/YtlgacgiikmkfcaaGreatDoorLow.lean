/- strings.ToLower at a text of ASCII without great letters: the text itself, and the world is as it was. -/
import Derived.Test.YtlgacgiikmkfcaaGreatDoorProg
import Derived.WalkKit
import Derived.WalkSpells
import Derived.WalkLawsBesides
import Derived.Lib.Hide
namespace Go.Proofs.YtlgacgiikmkfcaaGreatDoor
open Go.RowKit

/-- ASCII, and no great letter. -/
def Low (s : ByteArray) : Prop := ∀ (i : Nat) (h : i < s.size), (s[i].toNat : Int) < 128 ∧ ((s[i].toNat : Int) < 65 ∨ 90 < (s[i].toNat : Int))

set_option maxRecDepth 100000 in
set_option maxHeartbeats 1000000 in
theorem toLower_low (s : ByteArray) (w : World) (hs : s.size ≤ maxLen) (hl : Low s) :
    Calls Tryz.prog 102 #[.string s] w fun e w' => e = .returned (.string s) ∧ w = w' := by
  unfold maxLen at hs
  have HL := Lib.hid hl
  clear hl
  go_enter Tryz.func102, Tryz.ntmps102
  go_wp2
  go_loop [3, 4, 5] (fun a b i => ∃ k : Nat, k ≤ s.size ∧ a = .bool true ∧ b = .bool false ∧ i = .int .i64 k) (fun _ _ i => s.size - (intOf i).toNat)
  case atStart => exact ⟨0, Nat.zero_le _, rfl, rfl, rfl⟩
  case round =>
    obtain ⟨k, hk, rfl, rfl, rfl⟩ := hrel
    by_cases hlt : k < s.size
    · obtain ⟨h1, h2⟩ := HL.out k hlt
      rcases h2 with h2 | h2
      · go_wp2
        go_round
        case rel => exact ⟨k + 1, by omega, rfl, (by first | rfl | (simp; omega)), by go_num⟩
        case measure => simp [intOf]; omega
      · go_wp2
        go_round
        case rel => exact ⟨k + 1, by omega, rfl, (by first | rfl | (simp; omega)), by go_num⟩
        case measure => simp [intOf]; omega
    · go_wp2
      go_ret
      exact ⟨rfl, rfl⟩
end Go.Proofs.YtlgacgiikmkfcaaGreatDoor
