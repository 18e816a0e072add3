/- Without ranges, switches of types and selects a block with two successors has a condition as its last node. The statement is proved as it was given: for every input that can be read. -/
import Derived.Test.YteedbaejpdjilaaGreatXEnd
import Derived.Test.YteedbaejpdjilaaGreatXWTwoWays
set_option linter.all false
namespace Go.Proofs.YteedbaejpdjilaaGreat
open Go.ChangeShapes Go.WideShapes Go.RowKit

theorem z0 : (Tn Rows.fnTwoWaysRow.func Rows.fnTwoWaysRow.spec).wf (OpenSpec.ofChange Rows.fnTwoWaysSpec) = true := by kernel_rfl
theorem z1 : ((Tn Rows.fnTwoWaysRow.func Rows.fnTwoWaysRow.spec).inPlace == Tryz.prog.inPlace 27) = true := by kernel_rfl
theorem z2 : ((Tn Rows.fnTwoWaysRow.func Rows.fnTwoWaysRow.spec).unfollowed == Tryz.prog.unfollowed 27) = true := by kernel_rfl
theorem z3 : ((Tn Rows.fnTwoWaysRow.func Rows.fnTwoWaysRow.spec).recurses == Tryz.prog.recurses 27) = true := by kernel_rfl
theorem z4 : ((Tn Rows.fnTwoWaysRow.func Rows.fnTwoWaysRow.spec).named == Tryz.prog.varsNamed 27) = true := by kernel_rfl
theorem z6 : ((Tn Rows.fnTwoWaysRow.func Rows.fnTwoWaysRow.spec).pinned == (Tn Rows.fnTwoWaysRow.func Rows.fnTwoWaysRow.spec).pinnedBy) = true := by kernel_rfl
theorem z7 : (Tn Rows.fnTwoWaysRow.func Rows.fnTwoWaysRow.spec).veiledFits Tryz.prog Tryz.f27.params.toList (Tryz.f27.params.toList ++ [] ++ Tryz.f27.resultTypes.toList) = true := by kernel_rfl
theorem z8 : Tryz.prog.funcNamed Rows.fnTwoWaysRow.func = some 27 := by kernel_rfl
theorem z9 : Tryz.f27.isInstance Tryz.prog Rows.fnTwoWaysRow.origin Rows.fnTwoWaysRow.targs := of_decide_eq_true (by kernel_rfl)
theorem z10 : Tryz.f27.isWrapper Tryz.prog Rows.fnTwoWaysRow.wrapper Rows.fnTwoWaysRow.mainSum := by unfold Func.isWrapper; first | (rw [if_pos (by decide +kernel)]; kernel_rfl) | (rw [if_neg (by decide +kernel)]; exact ⟨rfl, rfl⟩)
theorem closed : joinedFacts Tryz.prog 27 Tryz.f27 Rows.fnTwoWaysSpec (Tn Rows.fnTwoWaysRow.func Rows.fnTwoWaysRow.spec) = true :=
  qy (.inl Tryz.params27) rfl rfl z0 z1 z2 z3 z4 z6 z7
theorem walked : jE 27 := walkTwoWays

set_option maxRecDepth 100000 in
theorem lifted (os : Os) (started : os.Started) (H : Type) (enc : TypeId × Value → H) :
    ReturnsInHanded {} Tryz.checked os 27 .any (Rows.fnTwoWaysSpec.pre6 enc Tryz.prog Tryz.f27 Rows.fnTwoWaysRow.domain false) (Rows.fnTwoWaysSpec.post enc Tryz.prog Tryz.f27 false true false false) := by
  refine returnsInHanded_of_change_sized (C := Tryz.checked) Tryz.own started (by kernel_rfl) Tryz.func27
    (ChangeSpec.witness6 (enc := enc) (C := Tryz.checked) false ⟨#[], #[.slice none 0 0], []⟩ 8 (by kernel_rfl) (by kernel_rfl) (by kernel_rfl) (by kernel_rfl)) ?_
  intro W base args ds gs before hval hW _ hz _
  exact jf walked Tryz.params27 rfl rfl (fun _ => rfl) W args ds gs before hval hW hz

set_option maxRecDepth 100000 in
theorem fnTwoWays_holds : Rows.FnTwoWaysSaid :=
  OpenClaim.holds_of_wide 27 Tryz.f27 rfl rfl rfl rfl rfl rfl rfl ⟨rfl, rfl, rfl, rfl, rfl⟩ rfl rfl rfl rfl rfl z8 Tryz.func27 closed z9 z10
    (fun os started H enc _ => lifted os started H enc)

end Go.Proofs.YteedbaejpdjilaaGreat
