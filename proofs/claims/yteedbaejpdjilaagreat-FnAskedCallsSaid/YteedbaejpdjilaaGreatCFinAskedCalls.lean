/- Whether a call returns is asked of calls alone that are statements themselves. The statement is proved as it was given: for every input that can be read. -/
import Derived.Test.YteedbaejpdjilaaGreatCEnd
import Derived.Test.YteedbaejpdjilaaGreatCWAskedCalls
set_option linter.all false
namespace Go.Proofs.YteedbaejpdjilaaGreat
open Go.ChangeShapes Go.WideShapes Go.RowKit

theorem z0 : (QV Rows.fnAskedCallsRow.func Rows.fnAskedCallsRow.spec).wf (OpenSpec.ofChange Rows.fnAskedCallsSpec) = true := by kernel_rfl
theorem z1 : ((QV Rows.fnAskedCallsRow.func Rows.fnAskedCallsRow.spec).inPlace == Tryz.prog.inPlace 3) = true := by kernel_rfl
theorem z2 : ((QV Rows.fnAskedCallsRow.func Rows.fnAskedCallsRow.spec).unfollowed == Tryz.prog.unfollowed 3) = true := by kernel_rfl
theorem z3 : ((QV Rows.fnAskedCallsRow.func Rows.fnAskedCallsRow.spec).recurses == Tryz.prog.recurses 3) = true := by kernel_rfl
theorem z4 : ((QV Rows.fnAskedCallsRow.func Rows.fnAskedCallsRow.spec).named == Tryz.prog.varsNamed 3) = true := by kernel_rfl
theorem z6 : ((QV Rows.fnAskedCallsRow.func Rows.fnAskedCallsRow.spec).pinned == (QV Rows.fnAskedCallsRow.func Rows.fnAskedCallsRow.spec).pinnedBy) = true := by kernel_rfl
theorem z7 : (QV Rows.fnAskedCallsRow.func Rows.fnAskedCallsRow.spec).veiledFits Tryz.prog Tryz.f3.params.toList (Tryz.f3.params.toList ++ [] ++ Tryz.f3.resultTypes.toList) = true := by kernel_rfl
theorem z8 : Tryz.prog.funcNamed Rows.fnAskedCallsRow.func = some 3 := by kernel_rfl
theorem z9 : Tryz.f3.isInstance Tryz.prog Rows.fnAskedCallsRow.origin Rows.fnAskedCallsRow.targs := of_decide_eq_true (by kernel_rfl)
theorem z10 : Tryz.f3.isWrapper Tryz.prog Rows.fnAskedCallsRow.wrapper Rows.fnAskedCallsRow.mainSum := by unfold Func.isWrapper; first | (rw [if_pos (by decide +kernel)]; kernel_rfl) | (rw [if_neg (by decide +kernel)]; exact ⟨rfl, rfl⟩)
theorem closed : joinedFacts Tryz.prog 3 Tryz.f3 Rows.fnAskedCallsSpec (QV Rows.fnAskedCallsRow.func Rows.fnAskedCallsRow.spec) = true :=
  qy (.inl Tryz.params3) rfl rfl z0 z1 z2 z3 z4 z6 z7
theorem walked : fG 3 := Z3f

set_option maxRecDepth 100000 in
theorem lifted (os : Os) (started : os.Started) (H : Type) (enc : TypeId × Value → H) :
    ReturnsInHanded {} Tryz.checked os 3 .any (Rows.fnAskedCallsSpec.pre6 enc Tryz.prog Tryz.f3 Rows.fnAskedCallsRow.domain false) (Rows.fnAskedCallsSpec.post enc Tryz.prog Tryz.f3 false true false false) := by
  refine returnsInHanded_of_change_sized (C := Tryz.checked) Tryz.own started (by kernel_rfl) Tryz.func3
    (ChangeSpec.witness6 (enc := enc) (C := Tryz.checked) false ⟨#[], #[.slice none 0 0], []⟩ 8 (by kernel_rfl) (by kernel_rfl) (by kernel_rfl) (by kernel_rfl)) ?_
  intro W base args ds gs before hval hW _ hz _
  exact Z7K walked Tryz.params3 rfl rfl (fun _ => rfl) W args ds gs before hval hW hz

set_option maxRecDepth 100000 in
theorem fnAskedCalls_holds : Rows.FnAskedCallsSaid :=
  OpenClaim.holds_of_wide 3 Tryz.f3 rfl rfl rfl rfl rfl rfl rfl ⟨rfl, rfl, rfl, rfl, rfl⟩ rfl rfl rfl rfl rfl z8 Tryz.func3 closed z9 z10
    (fun os started H enc _ => lifted os started H enc)

end Go.Proofs.YteedbaejpdjilaaGreat
