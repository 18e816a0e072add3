/- What is done behind each round of a for stands in a block of its own kind. The statement is proved as it was given: for every input that can be read. -/
import Derived.Test.YteedbaejpdjilaaGreatXEnd
import Derived.Test.YteedbaejpdjilaaGreatXWPostKind
set_option linter.all false
namespace Go.Proofs.YteedbaejpdjilaaGreat
open Go.ChangeShapes Go.WideShapes Go.RowKit

theorem z0 : (Tn Rows.fnPostKindRow.func Rows.fnPostKindRow.spec).wf (OpenSpec.ofChange Rows.fnPostKindSpec) = true := by kernel_rfl
theorem z1 : ((Tn Rows.fnPostKindRow.func Rows.fnPostKindRow.spec).inPlace == Tryz.prog.inPlace 20) = true := by kernel_rfl
theorem z2 : ((Tn Rows.fnPostKindRow.func Rows.fnPostKindRow.spec).unfollowed == Tryz.prog.unfollowed 20) = true := by kernel_rfl
theorem z3 : ((Tn Rows.fnPostKindRow.func Rows.fnPostKindRow.spec).recurses == Tryz.prog.recurses 20) = true := by kernel_rfl
theorem z4 : ((Tn Rows.fnPostKindRow.func Rows.fnPostKindRow.spec).named == Tryz.prog.varsNamed 20) = true := by kernel_rfl
theorem z6 : ((Tn Rows.fnPostKindRow.func Rows.fnPostKindRow.spec).pinned == (Tn Rows.fnPostKindRow.func Rows.fnPostKindRow.spec).pinnedBy) = true := by kernel_rfl
theorem z7 : (Tn Rows.fnPostKindRow.func Rows.fnPostKindRow.spec).veiledFits Tryz.prog Tryz.f20.params.toList (Tryz.f20.params.toList ++ [] ++ Tryz.f20.resultTypes.toList) = true := by kernel_rfl
theorem z8 : Tryz.prog.funcNamed Rows.fnPostKindRow.func = some 20 := by kernel_rfl
theorem z9 : Tryz.f20.isInstance Tryz.prog Rows.fnPostKindRow.origin Rows.fnPostKindRow.targs := of_decide_eq_true (by kernel_rfl)
theorem z10 : Tryz.f20.isWrapper Tryz.prog Rows.fnPostKindRow.wrapper Rows.fnPostKindRow.mainSum := by unfold Func.isWrapper; first | (rw [if_pos (by decide +kernel)]; kernel_rfl) | (rw [if_neg (by decide +kernel)]; exact ⟨rfl, rfl⟩)
theorem closed : joinedFacts Tryz.prog 20 Tryz.f20 Rows.fnPostKindSpec (Tn Rows.fnPostKindRow.func Rows.fnPostKindRow.spec) = true :=
  qy (.inr Tryz.params20) rfl rfl z0 z1 z2 z3 z4 z6 z7
theorem walked : ML 20 := xX

set_option maxRecDepth 100000 in
theorem lifted (os : Os) (started : os.Started) (H : Type) (enc : TypeId × Value → H) :
    ReturnsInHanded {} Tryz.checked os 20 .any (Rows.fnPostKindSpec.pre6 enc Tryz.prog Tryz.f20 Rows.fnPostKindRow.domain false) (Rows.fnPostKindSpec.post enc Tryz.prog Tryz.f20 false true false false) := by
  refine returnsInHanded_of_change_sized (C := Tryz.checked) Tryz.own started (by kernel_rfl) Tryz.func20
    (ChangeSpec.witness6 (enc := enc) (C := Tryz.checked) false ⟨#[], #[.slice none 0 0, .int .i64 0], []⟩ 8 (by kernel_rfl) (by kernel_rfl) (by kernel_rfl) (by kernel_rfl)) ?_
  intro W base args ds gs before hval hW _ hz _
  exact iQ walked Tryz.params20 rfl rfl (fun _ _ => rfl) W args ds gs before hval hW hz

set_option maxRecDepth 100000 in
theorem fnPostKind_holds : Rows.FnPostKindSaid :=
  OpenClaim.holds_of_wide 20 Tryz.f20 rfl rfl rfl rfl rfl rfl rfl ⟨rfl, rfl, rfl, rfl, rfl⟩ rfl rfl rfl rfl rfl z8 Tryz.func20 closed z9 z10
    (fun os started H enc _ => lifted os started H enc)

end Go.Proofs.YteedbaejpdjilaaGreat
