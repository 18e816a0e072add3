/- A function without a defer has no reachable return just if no return, and not the end of its body, can be reached. The statement is proved as it was given: for every input that can be read. -/
import Derived.Test.YteedbaejpdjilaaGreatYEnd
import Derived.Test.YteedbaejpdjilaaGreatUWNoReturn
set_option linter.all false
namespace Go.Proofs.YteedbaejpdjilaaGreat
open Go.ChangeShapes Go.WideShapes Go.RowKit

theorem z0 : (QV Rows.fnNoReturnRow.func Rows.fnNoReturnRow.spec).wf (OpenSpec.ofChange Rows.fnNoReturnSpec) = true := by kernel_rfl
theorem z1 : ((QV Rows.fnNoReturnRow.func Rows.fnNoReturnRow.spec).inPlace == Tryz.prog.inPlace 5) = true := by kernel_rfl
theorem z2 : ((QV Rows.fnNoReturnRow.func Rows.fnNoReturnRow.spec).unfollowed == Tryz.prog.unfollowed 5) = true := by kernel_rfl
theorem z3 : ((QV Rows.fnNoReturnRow.func Rows.fnNoReturnRow.spec).recurses == Tryz.prog.recurses 5) = true := by kernel_rfl
theorem z4 : ((QV Rows.fnNoReturnRow.func Rows.fnNoReturnRow.spec).named == Tryz.prog.varsNamed 5) = true := by kernel_rfl
theorem z6 : ((QV Rows.fnNoReturnRow.func Rows.fnNoReturnRow.spec).pinned == (QV Rows.fnNoReturnRow.func Rows.fnNoReturnRow.spec).pinnedBy) = true := by kernel_rfl
theorem z7 : (QV Rows.fnNoReturnRow.func Rows.fnNoReturnRow.spec).veiledFits Tryz.prog Tryz.f5.params.toList (Tryz.f5.params.toList ++ [] ++ Tryz.f5.resultTypes.toList) = true := by kernel_rfl
theorem z8 : Tryz.prog.funcNamed Rows.fnNoReturnRow.func = some 5 := by kernel_rfl
theorem z9 : Tryz.f5.isInstance Tryz.prog Rows.fnNoReturnRow.origin Rows.fnNoReturnRow.targs := of_decide_eq_true (by kernel_rfl)
theorem z10 : Tryz.f5.isWrapper Tryz.prog Rows.fnNoReturnRow.wrapper Rows.fnNoReturnRow.mainSum := by unfold Func.isWrapper; first | (rw [if_pos (by decide +kernel)]; kernel_rfl) | (rw [if_neg (by decide +kernel)]; exact ⟨rfl, rfl⟩)
theorem closed : joinedFacts Tryz.prog 5 Tryz.f5 Rows.fnNoReturnSpec (QV Rows.fnNoReturnRow.func Rows.fnNoReturnRow.spec) = true :=
  qy (.inl Tryz.params5) rfl rfl z0 z1 z2 z3 z4 z6 z7
theorem walked : fG 5 := Z3w

set_option maxRecDepth 100000 in
theorem lifted (os : Os) (started : os.Started) (H : Type) (enc : TypeId × Value → H) :
    ReturnsInHanded {} Tryz.checked os 5 .any (Rows.fnNoReturnSpec.pre6 enc Tryz.prog Tryz.f5 Rows.fnNoReturnRow.domain false) (Rows.fnNoReturnSpec.post enc Tryz.prog Tryz.f5 false true false false) := by
  refine returnsInHanded_of_change_sized (C := Tryz.checked) Tryz.own started (by kernel_rfl) Tryz.func5
    (ChangeSpec.witness6 (enc := enc) (C := Tryz.checked) false ⟨#[], #[.slice none 0 0], []⟩ 8 (by kernel_rfl) (by kernel_rfl) (by kernel_rfl) (by kernel_rfl)) ?_
  intro W base args ds gs before hval hW _ hz _
  exact Z7K walked Tryz.params5 rfl rfl (fun _ => rfl) W args ds gs before hval hW hz

set_option maxRecDepth 100000 in
theorem fnNoReturn_holds : Rows.FnNoReturnSaid :=
  OpenClaim.holds_of_wide 5 Tryz.f5 rfl rfl rfl rfl rfl rfl rfl ⟨rfl, rfl, rfl, rfl, rfl⟩ rfl rfl rfl rfl rfl z8 Tryz.func5 closed z9 z10
    (fun os started H enc _ => lifted os started H enc)

end Go.Proofs.YteedbaejpdjilaaGreat
