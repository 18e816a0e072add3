/- A block that is there for what cannot be reached is not live. The statement is proved as it was given: for every input that can be read. -/
import Derived.Test.YteedbaejpdjilaaGreatEnd
import Derived.Test.YteedbaejpdjilaaGreatQh
set_option linter.all false
namespace Go.Proofs.YteedbaejpdjilaaGreat
open Go.ChangeShapes Go.WideShapes Go.RowKit

theorem z0 : (rowZ Rows.fnUnreachableRow.func Rows.fnUnreachableRow.spec).wf (OpenSpec.ofChange Rows.fnUnreachableSpec) = true := by kernel_rfl
theorem z1 : ((rowZ Rows.fnUnreachableRow.func Rows.fnUnreachableRow.spec).inPlace == Tryz.prog.inPlace 28) = true := by kernel_rfl
theorem z2 : ((rowZ Rows.fnUnreachableRow.func Rows.fnUnreachableRow.spec).unfollowed == Tryz.prog.unfollowed 28) = true := by kernel_rfl
theorem z3 : ((rowZ Rows.fnUnreachableRow.func Rows.fnUnreachableRow.spec).recurses == Tryz.prog.recurses 28) = true := by kernel_rfl
theorem z4 : ((rowZ Rows.fnUnreachableRow.func Rows.fnUnreachableRow.spec).named == Tryz.prog.varsNamed 28) = true := by kernel_rfl
theorem z6 : ((rowZ Rows.fnUnreachableRow.func Rows.fnUnreachableRow.spec).pinned == (rowZ Rows.fnUnreachableRow.func Rows.fnUnreachableRow.spec).pinnedBy) = true := by kernel_rfl
theorem z7 : (rowZ Rows.fnUnreachableRow.func Rows.fnUnreachableRow.spec).veiledFits Tryz.prog Tryz.f28.params.toList (Tryz.f28.params.toList ++ [] ++ Tryz.f28.resultTypes.toList) = true := by kernel_rfl
theorem z8 : Tryz.prog.funcNamed Rows.fnUnreachableRow.func = some 28 := by kernel_rfl
theorem z9 : Tryz.f28.isInstance Tryz.prog Rows.fnUnreachableRow.origin Rows.fnUnreachableRow.targs := of_decide_eq_true (by kernel_rfl)
theorem z10 : Tryz.f28.isWrapper Tryz.prog Rows.fnUnreachableRow.wrapper Rows.fnUnreachableRow.mainSum := by unfold Func.isWrapper; first | (rw [if_pos (by decide +kernel)]; kernel_rfl) | (rw [if_neg (by decide +kernel)]; exact ⟨rfl, rfl⟩)
theorem closed : joinedFacts Tryz.prog 28 Tryz.f28 Rows.fnUnreachableSpec (rowZ Rows.fnUnreachableRow.func Rows.fnUnreachableRow.spec) = true :=
  closed_of (.inl Tryz.params28) rfl rfl z0 z1 z2 z3 z4 z6 z7
theorem walked : Law1 28 := fun hl _ _ h => unreachable_any (readS hl) h

set_option maxRecDepth 100000 in
theorem lifted (os : Os) (started : os.Started) (H : Type) (enc : TypeId × Value → H) :
    ReturnsInHanded {} Tryz.checked os 28 .any (Rows.fnUnreachableSpec.pre6 enc Tryz.prog Tryz.f28 Rows.fnUnreachableRow.domain false) (Rows.fnUnreachableSpec.post enc Tryz.prog Tryz.f28 false true false false) := by
  refine returnsInHanded_of_change_sized (C := Tryz.checked) Tryz.own started (by kernel_rfl) Tryz.func28
    (ChangeSpec.witness6 (enc := enc) (C := Tryz.checked) false ⟨#[], #[.slice none 0 0], []⟩ 8 (by kernel_rfl) (by kernel_rfl) (by kernel_rfl) (by kernel_rfl)) ?_
  intro W base args ds gs before hval hW _ hz _
  exact law1 walked Tryz.params28 rfl rfl (fun _ => rfl) W args ds gs before hval hW hz

set_option maxRecDepth 100000 in
theorem fnUnreachable_holds : Rows.FnUnreachableSaid :=
  OpenClaim.holds_of_wide 28 Tryz.f28 rfl rfl rfl rfl rfl rfl rfl ⟨rfl, rfl, rfl, rfl, rfl⟩ rfl rfl rfl rfl rfl z8 Tryz.func28 closed z9 z10
    (fun os started H enc _ => lifted os started H enc)

end Go.Proofs.YteedbaejpdjilaaGreat
