/- In a live block each leaf but the last one does not decide, and what is done behind it is the next one, and nothing else. The statement is proved as it was given: for every input that can be read. -/
import Derived.Test.YteedbaejpdjilaaGreatYEnd
import Derived.Test.YteedbaejpdjilaaGreatTWSequence
set_option linter.all false
namespace Go.Proofs.YteedbaejpdjilaaGreat
open Go.ChangeShapes Go.WideShapes Go.RowKit

theorem z0 : (QV Rows.fnSequenceRow.func Rows.fnSequenceRow.spec).wf (OpenSpec.ofChange Rows.fnSequenceSpec) = true := by kernel_rfl
theorem z1 : ((QV Rows.fnSequenceRow.func Rows.fnSequenceRow.spec).inPlace == Tryz.prog.inPlace 23) = true := by kernel_rfl
theorem z2 : ((QV Rows.fnSequenceRow.func Rows.fnSequenceRow.spec).unfollowed == Tryz.prog.unfollowed 23) = true := by kernel_rfl
theorem z3 : ((QV Rows.fnSequenceRow.func Rows.fnSequenceRow.spec).recurses == Tryz.prog.recurses 23) = true := by kernel_rfl
theorem z4 : ((QV Rows.fnSequenceRow.func Rows.fnSequenceRow.spec).named == Tryz.prog.varsNamed 23) = true := by kernel_rfl
theorem z6 : ((QV Rows.fnSequenceRow.func Rows.fnSequenceRow.spec).pinned == (QV Rows.fnSequenceRow.func Rows.fnSequenceRow.spec).pinnedBy) = true := by kernel_rfl
theorem z7 : (QV Rows.fnSequenceRow.func Rows.fnSequenceRow.spec).veiledFits Tryz.prog Tryz.f23.params.toList (Tryz.f23.params.toList ++ [] ++ Tryz.f23.resultTypes.toList) = true := by kernel_rfl
theorem z8 : Tryz.prog.funcNamed Rows.fnSequenceRow.func = some 23 := by kernel_rfl
theorem z9 : Tryz.f23.isInstance Tryz.prog Rows.fnSequenceRow.origin Rows.fnSequenceRow.targs := of_decide_eq_true (by kernel_rfl)
theorem z10 : Tryz.f23.isWrapper Tryz.prog Rows.fnSequenceRow.wrapper Rows.fnSequenceRow.mainSum := by unfold Func.isWrapper; first | (rw [if_pos (by decide +kernel)]; kernel_rfl) | (rw [if_neg (by decide +kernel)]; exact ⟨rfl, rfl⟩)
theorem closed : joinedFacts Tryz.prog 23 Tryz.f23 Rows.fnSequenceSpec (QV Rows.fnSequenceRow.func Rows.fnSequenceRow.spec) = true :=
  qy (.inl Tryz.params23) rfl rfl z0 z1 z2 z3 z4 z6 z7
theorem walked : fG 23 := Z3b

set_option maxRecDepth 100000 in
theorem lifted (os : Os) (started : os.Started) (H : Type) (enc : TypeId × Value → H) :
    ReturnsInHanded {} Tryz.checked os 23 .any (Rows.fnSequenceSpec.pre6 enc Tryz.prog Tryz.f23 Rows.fnSequenceRow.domain false) (Rows.fnSequenceSpec.post enc Tryz.prog Tryz.f23 false true false false) := by
  refine returnsInHanded_of_change_sized (C := Tryz.checked) Tryz.own started (by kernel_rfl) Tryz.func23
    (ChangeSpec.witness6 (enc := enc) (C := Tryz.checked) false ⟨#[], #[.slice none 0 0], []⟩ 8 (by kernel_rfl) (by kernel_rfl) (by kernel_rfl) (by kernel_rfl)) ?_
  intro W base args ds gs before hval hW _ hz _
  exact Z7K walked Tryz.params23 rfl rfl (fun _ => rfl) W args ds gs before hval hW hz

set_option maxRecDepth 100000 in
theorem fnSequence_holds : Rows.FnSequenceSaid :=
  OpenClaim.holds_of_wide 23 Tryz.f23 rfl rfl rfl rfl rfl rfl rfl ⟨rfl, rfl, rfl, rfl, rfl⟩ rfl rfl rfl rfl rfl z8 Tryz.func23 closed z9 z10
    (fun os started H enc _ => lifted os started H enc)

end Go.Proofs.YteedbaejpdjilaaGreat
