/- A world in which the listed variables hold what their initialisers lay: an input that the row's conditions let in. -/
import Derived.Test.YtlgacgiikmkfcaaGreatDoorChecked
import Derived.Test.YtlgacgiikmkfcaaGreatDoorRows
import Derived.WalkKit
import Derived.ProofKit
import Derived.OpenShut
import Derived.LaidMore
import Derived.Lay
import Derived.SevenTiedAt
import Derived.Stop.Joined
import Derived.Deep.DeepHandedRow
namespace Go.Proofs.YtlgacgiikmkfcaaGreatDoor.fnAttrs
open Go.ChangeShapes Go.WideShapes Go.ChangeAt Go.RowKit

theorem met (os : Os) (args : Array Value) : laidMet Tryz.prog Rows.fnAttrsUptoRow.laid ((World.laidAll Tryz.prog os Rows.fnAttrsUptoRow.laid).forCall (fun _ _ => 0) ⟨#[], args, []⟩).memory :=
  laidMet_laidAll args (by kernel_rfl) (by kernel_rfl)
theorem shaped (os : Os) : ((World.laidAll Tryz.prog os Rows.fnAttrsUptoRow.laid).forCall (fun _ _ => 0) ⟨#[], #[.slice none 0 0, .string ⟨#[]⟩, .slice none 0 0], []⟩).Shaped Tryz.prog :=
  World.shaped_of_ZipB (by kernel_rfl) (by kernel_rfl)
theorem reads (os : Os) {H : Type} (enc : TypeId × Value → H) : DataW.whole enc Tryz.prog ((World.laidAll Tryz.prog os Rows.fnAttrsUptoRow.laid).forCall (fun _ _ => 0) ⟨#[], #[.slice none 0 0, .string ⟨#[]⟩, .slice none 0 0], []⟩).memory Tryz.f4.params.toList (Rows.OpenSpec.upto Rows.fnAttrsSpec).vars false #[Value.slice none 0 0, .string ⟨#[]⟩, .slice none 0 0].toList 8 = some ([.nil, .lit (.string []), .nil], [], []) := by kernel_rfl
/-- AN INPUT FITS: nil, the empty text, nil. -/
theorem witness (os : Os) {H : Type} (enc : TypeId × Value → H) :
    ∃ (w : World) (tape : Tape) (i : Input), w.os = os ∧ (w.forCall tape i).Shaped Tryz.prog ∧ i.vars = [] ∧ Input.okWide Tryz.prog (w.forCall tape i) .any w.heap.size 4 i ∧
      (Rows.OpenSpec.upto Rows.fnAttrsSpec).preRow enc Tryz.prog Tryz.f4 Rows.fnAttrsUptoRow.domain false Rows.fnAttrsUptoRow.laid (w.forCall tape i).memory i.args ∧ ({} : Assume).holds Tryz.prog (lone (Frame.enter Tryz.prog 4 i.args .normal) [] (w.forCall tape i)) := by
  have hok : Input.okWideB Tryz.prog ((World.laidAll Tryz.prog os Rows.fnAttrsUptoRow.laid).forCall (fun _ _ => 0) ⟨#[], #[.slice none 0 0, .string ⟨#[]⟩, .slice none 0 0], []⟩) 4 ⟨#[], #[.slice none 0 0, .string ⟨#[]⟩, .slice none 0 0], []⟩ = true := by kernel_rfl
  refine ⟨World.laidAll Tryz.prog os Rows.fnAttrsUptoRow.laid, fun _ _ => 0, ⟨#[], #[.slice none 0 0, .string ⟨#[]⟩, .slice none 0 0], []⟩, World.laidAll_os _ _ _, shaped os, (Input.okWide_of_okWideB (base := 0) hok).1, (Input.okWide_of_okWideB hok).2,
    OpenSpec.preRow_of_cond 8 (reads os enc) (by kernel_rfl) (fun k hk => by cases hk; kernel_rfl) (by kernel_rfl) (by rw [MakeChecks.laidMetH_plain _ _ _ (by kernel_rfl)]; exact met os _), ?_⟩
  simp only [Assume.holds]
  exact ⟨by simp, by simp, fun _ => Modest.zero, by simp, by simp⟩
end Go.Proofs.YtlgacgiikmkfcaaGreatDoor.fnAttrs
