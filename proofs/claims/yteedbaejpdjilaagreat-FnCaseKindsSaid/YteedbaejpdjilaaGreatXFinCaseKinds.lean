/- An expression of a case leads to the body of its clause. The statement is proved as it was given: for every input that can be read. -/
import Derived.Test.YteedbaejpdjilaaGreatXEnd
import Derived.Test.YteedbaejpdjilaaGreatXWCaseKinds
set_option linter.all false
namespace Go.Proofs.YteedbaejpdjilaaGreat
open Go.ChangeShapes Go.WideShapes Go.RowKit

theorem z0 : (Tn Rows.fnCaseKindsRow.func Rows.fnCaseKindsRow.spec).wf (OpenSpec.ofChange Rows.fnCaseKindsSpec) = true := by kernel_rfl
theorem z1 : ((Tn Rows.fnCaseKindsRow.func Rows.fnCaseKindsRow.spec).inPlace == Tryz.prog.inPlace 6) = true := by kernel_rfl
theorem z2 : ((Tn Rows.fnCaseKindsRow.func Rows.fnCaseKindsRow.spec).unfollowed == Tryz.prog.unfollowed 6) = true := by kernel_rfl
theorem z3 : ((Tn Rows.fnCaseKindsRow.func Rows.fnCaseKindsRow.spec).recurses == Tryz.prog.recurses 6) = true := by kernel_rfl
theorem z4 : ((Tn Rows.fnCaseKindsRow.func Rows.fnCaseKindsRow.spec).named == Tryz.prog.varsNamed 6) = true := by kernel_rfl
theorem z6 : ((Tn Rows.fnCaseKindsRow.func Rows.fnCaseKindsRow.spec).pinned == (Tn Rows.fnCaseKindsRow.func Rows.fnCaseKindsRow.spec).pinnedBy) = true := by kernel_rfl
theorem z7 : (Tn Rows.fnCaseKindsRow.func Rows.fnCaseKindsRow.spec).veiledFits Tryz.prog Tryz.f6.params.toList (Tryz.f6.params.toList ++ [] ++ Tryz.f6.resultTypes.toList) = true := by kernel_rfl
theorem z8 : Tryz.prog.funcNamed Rows.fnCaseKindsRow.func = some 6 := by kernel_rfl
theorem z9 : Tryz.f6.isInstance Tryz.prog Rows.fnCaseKindsRow.origin Rows.fnCaseKindsRow.targs := of_decide_eq_true (by kernel_rfl)
theorem z10 : Tryz.f6.isWrapper Tryz.prog Rows.fnCaseKindsRow.wrapper Rows.fnCaseKindsRow.mainSum := by unfold Func.isWrapper; first | (rw [if_pos (by decide +kernel)]; kernel_rfl) | (rw [if_neg (by decide +kernel)]; exact ⟨rfl, rfl⟩)
theorem closed : joinedFacts Tryz.prog 6 Tryz.f6 Rows.fnCaseKindsSpec (Tn Rows.fnCaseKindsRow.func Rows.fnCaseKindsRow.spec) = true :=
  qy (.inr Tryz.params6) rfl rfl z0 z1 z2 z3 z4 z6 z7
theorem walked : ML 6 := BQ

set_option maxRecDepth 100000 in
theorem lifted (os : Os) (started : os.Started) (H : Type) (enc : TypeId × Value → H) :
    ReturnsInHanded {} Tryz.checked os 6 .any (Rows.fnCaseKindsSpec.pre6 enc Tryz.prog Tryz.f6 Rows.fnCaseKindsRow.domain false) (Rows.fnCaseKindsSpec.post enc Tryz.prog Tryz.f6 false true false false) := by
  refine returnsInHanded_of_change_sized (C := Tryz.checked) Tryz.own started (by kernel_rfl) Tryz.func6
    (ChangeSpec.witness6 (enc := enc) (C := Tryz.checked) false ⟨#[], #[.slice none 0 0, .int .i64 0], []⟩ 8 (by kernel_rfl) (by kernel_rfl) (by kernel_rfl) (by kernel_rfl)) ?_
  intro W base args ds gs before hval hW _ hz _
  exact iQ walked Tryz.params6 rfl rfl (fun _ _ => rfl) W args ds gs before hval hW hz

set_option maxRecDepth 100000 in
theorem fnCaseKinds_holds : Rows.FnCaseKindsSaid :=
  OpenClaim.holds_of_wide 6 Tryz.f6 rfl rfl rfl rfl rfl rfl rfl ⟨rfl, rfl, rfl, rfl, rfl⟩ rfl rfl rfl rfl rfl z8 Tryz.func6 closed z9 z10
    (fun os started H enc _ => lifted os started H enc)

end Go.Proofs.YteedbaejpdjilaaGreat
