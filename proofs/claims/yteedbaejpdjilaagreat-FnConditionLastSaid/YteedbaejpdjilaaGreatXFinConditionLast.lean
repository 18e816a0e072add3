/- A condition is the last node of its block, which has two successors. The statement is proved as it was given: for every input that can be read. -/
import Derived.Test.YteedbaejpdjilaaGreatXEnd
import Derived.Test.YteedbaejpdjilaaGreatXWConditionLast
set_option linter.all false
namespace Go.Proofs.YteedbaejpdjilaaGreat
open Go.ChangeShapes Go.WideShapes Go.RowKit

theorem z0 : (Tn Rows.fnConditionLastRow.func Rows.fnConditionLastRow.spec).wf (OpenSpec.ofChange Rows.fnConditionLastSpec) = true := by kernel_rfl
theorem z1 : ((Tn Rows.fnConditionLastRow.func Rows.fnConditionLastRow.spec).inPlace == Tryz.prog.inPlace 9) = true := by kernel_rfl
theorem z2 : ((Tn Rows.fnConditionLastRow.func Rows.fnConditionLastRow.spec).unfollowed == Tryz.prog.unfollowed 9) = true := by kernel_rfl
theorem z3 : ((Tn Rows.fnConditionLastRow.func Rows.fnConditionLastRow.spec).recurses == Tryz.prog.recurses 9) = true := by kernel_rfl
theorem z4 : ((Tn Rows.fnConditionLastRow.func Rows.fnConditionLastRow.spec).named == Tryz.prog.varsNamed 9) = true := by kernel_rfl
theorem z6 : ((Tn Rows.fnConditionLastRow.func Rows.fnConditionLastRow.spec).pinned == (Tn Rows.fnConditionLastRow.func Rows.fnConditionLastRow.spec).pinnedBy) = true := by kernel_rfl
theorem z7 : (Tn Rows.fnConditionLastRow.func Rows.fnConditionLastRow.spec).veiledFits Tryz.prog Tryz.f9.params.toList (Tryz.f9.params.toList ++ [] ++ Tryz.f9.resultTypes.toList) = true := by kernel_rfl
theorem z8 : Tryz.prog.funcNamed Rows.fnConditionLastRow.func = some 9 := by kernel_rfl
theorem z9 : Tryz.f9.isInstance Tryz.prog Rows.fnConditionLastRow.origin Rows.fnConditionLastRow.targs := of_decide_eq_true (by kernel_rfl)
theorem z10 : Tryz.f9.isWrapper Tryz.prog Rows.fnConditionLastRow.wrapper Rows.fnConditionLastRow.mainSum := by unfold Func.isWrapper; first | (rw [if_pos (by decide +kernel)]; kernel_rfl) | (rw [if_neg (by decide +kernel)]; exact ⟨rfl, rfl⟩)
theorem closed : joinedFacts Tryz.prog 9 Tryz.f9 Rows.fnConditionLastSpec (Tn Rows.fnConditionLastRow.func Rows.fnConditionLastRow.spec) = true :=
  qy (.inr Tryz.params9) rfl rfl z0 z1 z2 z3 z4 z6 z7
theorem walked : ML 9 := Iu

set_option maxRecDepth 100000 in
theorem lifted (os : Os) (started : os.Started) (H : Type) (enc : TypeId × Value → H) :
    ReturnsInHanded {} Tryz.checked os 9 .any (Rows.fnConditionLastSpec.pre6 enc Tryz.prog Tryz.f9 Rows.fnConditionLastRow.domain false) (Rows.fnConditionLastSpec.post enc Tryz.prog Tryz.f9 false true false false) := by
  refine returnsInHanded_of_change_sized (C := Tryz.checked) Tryz.own started (by kernel_rfl) Tryz.func9
    (ChangeSpec.witness6 (enc := enc) (C := Tryz.checked) false ⟨#[], #[.slice none 0 0, .int .i64 0], []⟩ 8 (by kernel_rfl) (by kernel_rfl) (by kernel_rfl) (by kernel_rfl)) ?_
  intro W base args ds gs before hval hW _ hz _
  exact iQ walked Tryz.params9 rfl rfl (fun _ _ => rfl) W args ds gs before hval hW hz

set_option maxRecDepth 100000 in
theorem fnConditionLast_holds : Rows.FnConditionLastSaid :=
  OpenClaim.holds_of_wide 9 Tryz.f9 rfl rfl rfl rfl rfl rfl rfl ⟨rfl, rfl, rfl, rfl, rfl⟩ rfl rfl rfl rfl rfl z8 Tryz.func9 closed z9 z10
    (fun os started H enc _ => lifted os started H enc)

end Go.Proofs.YteedbaejpdjilaaGreat
