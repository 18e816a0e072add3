/- The first statement of a clause, without a label, stands at the beginning of the block of the body of this clause (but for default clauses of switches of types and of selects). The statement is proved as it was given: for every input that can be read. -/
import Derived.Test.YteedbaejpdjilaaGreatXEnd
import Derived.Test.YteedbaejpdjilaaGreatXWClauseKinds
set_option linter.all false
namespace Go.Proofs.YteedbaejpdjilaaGreat
open Go.ChangeShapes Go.WideShapes Go.RowKit

theorem z0 : (Tn Rows.fnClauseKindsRow.func Rows.fnClauseKindsRow.spec).wf (OpenSpec.ofChange Rows.fnClauseKindsSpec) = true := by kernel_rfl
theorem z1 : ((Tn Rows.fnClauseKindsRow.func Rows.fnClauseKindsRow.spec).inPlace == Tryz.prog.inPlace 8) = true := by kernel_rfl
theorem z2 : ((Tn Rows.fnClauseKindsRow.func Rows.fnClauseKindsRow.spec).unfollowed == Tryz.prog.unfollowed 8) = true := by kernel_rfl
theorem z3 : ((Tn Rows.fnClauseKindsRow.func Rows.fnClauseKindsRow.spec).recurses == Tryz.prog.recurses 8) = true := by kernel_rfl
theorem z4 : ((Tn Rows.fnClauseKindsRow.func Rows.fnClauseKindsRow.spec).named == Tryz.prog.varsNamed 8) = true := by kernel_rfl
theorem z6 : ((Tn Rows.fnClauseKindsRow.func Rows.fnClauseKindsRow.spec).pinned == (Tn Rows.fnClauseKindsRow.func Rows.fnClauseKindsRow.spec).pinnedBy) = true := by kernel_rfl
theorem z7 : (Tn Rows.fnClauseKindsRow.func Rows.fnClauseKindsRow.spec).veiledFits Tryz.prog Tryz.f8.params.toList (Tryz.f8.params.toList ++ [] ++ Tryz.f8.resultTypes.toList) = true := by kernel_rfl
theorem z8 : Tryz.prog.funcNamed Rows.fnClauseKindsRow.func = some 8 := by kernel_rfl
theorem z9 : Tryz.f8.isInstance Tryz.prog Rows.fnClauseKindsRow.origin Rows.fnClauseKindsRow.targs := of_decide_eq_true (by kernel_rfl)
theorem z10 : Tryz.f8.isWrapper Tryz.prog Rows.fnClauseKindsRow.wrapper Rows.fnClauseKindsRow.mainSum := by unfold Func.isWrapper; first | (rw [if_pos (by decide +kernel)]; kernel_rfl) | (rw [if_neg (by decide +kernel)]; exact ⟨rfl, rfl⟩)
theorem closed : joinedFacts Tryz.prog 8 Tryz.f8 Rows.fnClauseKindsSpec (Tn Rows.fnClauseKindsRow.func Rows.fnClauseKindsRow.spec) = true :=
  qy (.inr Tryz.params8) rfl rfl z0 z1 z2 z3 z4 z6 z7
theorem walked : ML 8 := walkClauseKinds

set_option maxRecDepth 100000 in
theorem lifted (os : Os) (started : os.Started) (H : Type) (enc : TypeId × Value → H) :
    ReturnsInHanded {} Tryz.checked os 8 .any (Rows.fnClauseKindsSpec.pre6 enc Tryz.prog Tryz.f8 Rows.fnClauseKindsRow.domain false) (Rows.fnClauseKindsSpec.post enc Tryz.prog Tryz.f8 false true false false) := by
  refine returnsInHanded_of_change_sized (C := Tryz.checked) Tryz.own started (by kernel_rfl) Tryz.func8
    (ChangeSpec.witness6 (enc := enc) (C := Tryz.checked) false ⟨#[], #[.slice none 0 0, .int .i64 0], []⟩ 8 (by kernel_rfl) (by kernel_rfl) (by kernel_rfl) (by kernel_rfl)) ?_
  intro W base args ds gs before hval hW _ hz _
  exact iQ walked Tryz.params8 rfl rfl (fun _ _ => rfl) W args ds gs before hval hW hz

set_option maxRecDepth 100000 in
theorem fnClauseKinds_holds : Rows.FnClauseKindsSaid :=
  OpenClaim.holds_of_wide 8 Tryz.f8 rfl rfl rfl rfl rfl rfl rfl ⟨rfl, rfl, rfl, rfl, rfl⟩ rfl rfl rfl rfl rfl z8 Tryz.func8 closed z9 z10
    (fun os started H enc _ => lifted os started H enc)

end Go.Proofs.YteedbaejpdjilaaGreat
