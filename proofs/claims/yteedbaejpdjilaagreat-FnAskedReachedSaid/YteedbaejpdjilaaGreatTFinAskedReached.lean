/- It is asked of each call, as a statement, that can be done. The statement is proved as it was given: for every input that can be read. -/
import Derived.Test.YteedbaejpdjilaaGreatYEnd
import Derived.Test.YteedbaejpdjilaaGreatTWAskedReached
set_option linter.all false
namespace Go.Proofs.YteedbaejpdjilaaGreat
open Go.ChangeShapes Go.WideShapes Go.RowKit

theorem z0 : (QV Rows.fnAskedReachedRow.func Rows.fnAskedReachedRow.spec).wf (OpenSpec.ofChange Rows.fnAskedReachedSpec) = true := by kernel_rfl
theorem z1 : ((QV Rows.fnAskedReachedRow.func Rows.fnAskedReachedRow.spec).inPlace == Tryz.prog.inPlace 4) = true := by kernel_rfl
theorem z2 : ((QV Rows.fnAskedReachedRow.func Rows.fnAskedReachedRow.spec).unfollowed == Tryz.prog.unfollowed 4) = true := by kernel_rfl
theorem z3 : ((QV Rows.fnAskedReachedRow.func Rows.fnAskedReachedRow.spec).recurses == Tryz.prog.recurses 4) = true := by kernel_rfl
theorem z4 : ((QV Rows.fnAskedReachedRow.func Rows.fnAskedReachedRow.spec).named == Tryz.prog.varsNamed 4) = true := by kernel_rfl
theorem z6 : ((QV Rows.fnAskedReachedRow.func Rows.fnAskedReachedRow.spec).pinned == (QV Rows.fnAskedReachedRow.func Rows.fnAskedReachedRow.spec).pinnedBy) = true := by kernel_rfl
theorem z7 : (QV Rows.fnAskedReachedRow.func Rows.fnAskedReachedRow.spec).veiledFits Tryz.prog Tryz.f4.params.toList (Tryz.f4.params.toList ++ [] ++ Tryz.f4.resultTypes.toList) = true := by kernel_rfl
theorem z8 : Tryz.prog.funcNamed Rows.fnAskedReachedRow.func = some 4 := by kernel_rfl
theorem z9 : Tryz.f4.isInstance Tryz.prog Rows.fnAskedReachedRow.origin Rows.fnAskedReachedRow.targs := of_decide_eq_true (by kernel_rfl)
theorem z10 : Tryz.f4.isWrapper Tryz.prog Rows.fnAskedReachedRow.wrapper Rows.fnAskedReachedRow.mainSum := by unfold Func.isWrapper; first | (rw [if_pos (by decide +kernel)]; kernel_rfl) | (rw [if_neg (by decide +kernel)]; exact ⟨rfl, rfl⟩)
theorem closed : joinedFacts Tryz.prog 4 Tryz.f4 Rows.fnAskedReachedSpec (QV Rows.fnAskedReachedRow.func Rows.fnAskedReachedRow.spec) = true :=
  qy (.inl Tryz.params4) rfl rfl z0 z1 z2 z3 z4 z6 z7
theorem walked : fG 4 := Z3h

set_option maxRecDepth 100000 in
theorem lifted (os : Os) (started : os.Started) (H : Type) (enc : TypeId × Value → H) :
    ReturnsInHanded {} Tryz.checked os 4 .any (Rows.fnAskedReachedSpec.pre6 enc Tryz.prog Tryz.f4 Rows.fnAskedReachedRow.domain false) (Rows.fnAskedReachedSpec.post enc Tryz.prog Tryz.f4 false true false false) := by
  refine returnsInHanded_of_change_sized (C := Tryz.checked) Tryz.own started (by kernel_rfl) Tryz.func4
    (ChangeSpec.witness6 (enc := enc) (C := Tryz.checked) false ⟨#[], #[.slice none 0 0], []⟩ 8 (by kernel_rfl) (by kernel_rfl) (by kernel_rfl) (by kernel_rfl)) ?_
  intro W base args ds gs before hval hW _ hz _
  exact Z7K walked Tryz.params4 rfl rfl (fun _ => rfl) W args ds gs before hval hW hz

set_option maxRecDepth 100000 in
theorem fnAskedReached_holds : Rows.FnAskedReachedSaid :=
  OpenClaim.holds_of_wide 4 Tryz.f4 rfl rfl rfl rfl rfl rfl rfl ⟨rfl, rfl, rfl, rfl, rfl⟩ rfl rfl rfl rfl rfl z8 Tryz.func4 closed z9 z10
    (fun os started H enc _ => lifted os started H enc)

end Go.Proofs.YteedbaejpdjilaaGreat
