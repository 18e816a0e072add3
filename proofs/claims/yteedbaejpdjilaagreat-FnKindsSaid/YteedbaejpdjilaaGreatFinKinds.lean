/- Each block has one of the kinds. The statement is proved as it was given: for every input that can be read. -/
import Derived.Test.YteedbaejpdjilaaGreatEnd
import Derived.Test.YteedbaejpdjilaaGreatQh
set_option linter.all false
namespace Go.Proofs.YteedbaejpdjilaaGreat
open Go.ChangeShapes Go.WideShapes Go.RowKit

theorem z0 : (rowZ Rows.fnKindsRow.func Rows.fnKindsRow.spec).wf (OpenSpec.ofChange Rows.fnKindsSpec) = true := by kernel_rfl
theorem z1 : ((rowZ Rows.fnKindsRow.func Rows.fnKindsRow.spec).inPlace == Tryz.prog.inPlace 15) = true := by kernel_rfl
theorem z2 : ((rowZ Rows.fnKindsRow.func Rows.fnKindsRow.spec).unfollowed == Tryz.prog.unfollowed 15) = true := by kernel_rfl
theorem z3 : ((rowZ Rows.fnKindsRow.func Rows.fnKindsRow.spec).recurses == Tryz.prog.recurses 15) = true := by kernel_rfl
theorem z4 : ((rowZ Rows.fnKindsRow.func Rows.fnKindsRow.spec).named == Tryz.prog.varsNamed 15) = true := by kernel_rfl
theorem z6 : ((rowZ Rows.fnKindsRow.func Rows.fnKindsRow.spec).pinned == (rowZ Rows.fnKindsRow.func Rows.fnKindsRow.spec).pinnedBy) = true := by kernel_rfl
theorem z7 : (rowZ Rows.fnKindsRow.func Rows.fnKindsRow.spec).veiledFits Tryz.prog Tryz.f15.params.toList (Tryz.f15.params.toList ++ [] ++ Tryz.f15.resultTypes.toList) = true := by kernel_rfl
theorem z8 : Tryz.prog.funcNamed Rows.fnKindsRow.func = some 15 := by kernel_rfl
theorem z9 : Tryz.f15.isInstance Tryz.prog Rows.fnKindsRow.origin Rows.fnKindsRow.targs := of_decide_eq_true (by kernel_rfl)
theorem z10 : Tryz.f15.isWrapper Tryz.prog Rows.fnKindsRow.wrapper Rows.fnKindsRow.mainSum := by unfold Func.isWrapper; first | (rw [if_pos (by decide +kernel)]; kernel_rfl) | (rw [if_neg (by decide +kernel)]; exact ⟨rfl, rfl⟩)
theorem closed : joinedFacts Tryz.prog 15 Tryz.f15 Rows.fnKindsSpec (rowZ Rows.fnKindsRow.func Rows.fnKindsRow.spec) = true :=
  closed_of (.inl Tryz.params15) rfl rfl z0 z1 z2 z3 z4 z6 z7
theorem walked : Law1 15 := fun hl _ _ h => kinds_any (readS hl) h

set_option maxRecDepth 100000 in
theorem lifted (os : Os) (started : os.Started) (H : Type) (enc : TypeId × Value → H) :
    ReturnsInHanded {} Tryz.checked os 15 .any (Rows.fnKindsSpec.pre6 enc Tryz.prog Tryz.f15 Rows.fnKindsRow.domain false) (Rows.fnKindsSpec.post enc Tryz.prog Tryz.f15 false true false false) := by
  refine returnsInHanded_of_change_sized (C := Tryz.checked) Tryz.own started (by kernel_rfl) Tryz.func15
    (ChangeSpec.witness6 (enc := enc) (C := Tryz.checked) false ⟨#[], #[.slice none 0 0], []⟩ 8 (by kernel_rfl) (by kernel_rfl) (by kernel_rfl) (by kernel_rfl)) ?_
  intro W base args ds gs before hval hW _ hz _
  exact law1 walked Tryz.params15 rfl rfl (fun _ => rfl) W args ds gs before hval hW hz

set_option maxRecDepth 100000 in
theorem fnKinds_holds : Rows.FnKindsSaid :=
  OpenClaim.holds_of_wide 15 Tryz.f15 rfl rfl rfl rfl rfl rfl rfl ⟨rfl, rfl, rfl, rfl, rfl⟩ rfl rfl rfl rfl rfl z8 Tryz.func15 closed z9 z10
    (fun os started H enc _ => lifted os started H enc)

end Go.Proofs.YteedbaejpdjilaaGreat
