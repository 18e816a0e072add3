/- A leaf stands in a live block just if it can be done. The statement is proved as it was given: for every input that can be read. -/
import Derived.Test.YteedbaejpdjilaaGreatYEnd
import Derived.Test.YteedbaejpdjilaaGreatUWLiveLeaf
set_option linter.all false
namespace Go.Proofs.YteedbaejpdjilaaGreat
open Go.ChangeShapes Go.WideShapes Go.RowKit

theorem z0 : (QV Rows.fnLiveLeafRow.func Rows.fnLiveLeafRow.spec).wf (OpenSpec.ofChange Rows.fnLiveLeafSpec) = true := by kernel_rfl
theorem z1 : ((QV Rows.fnLiveLeafRow.func Rows.fnLiveLeafRow.spec).inPlace == Tryz.prog.inPlace 18) = true := by kernel_rfl
theorem z2 : ((QV Rows.fnLiveLeafRow.func Rows.fnLiveLeafRow.spec).unfollowed == Tryz.prog.unfollowed 18) = true := by kernel_rfl
theorem z3 : ((QV Rows.fnLiveLeafRow.func Rows.fnLiveLeafRow.spec).recurses == Tryz.prog.recurses 18) = true := by kernel_rfl
theorem z4 : ((QV Rows.fnLiveLeafRow.func Rows.fnLiveLeafRow.spec).named == Tryz.prog.varsNamed 18) = true := by kernel_rfl
theorem z6 : ((QV Rows.fnLiveLeafRow.func Rows.fnLiveLeafRow.spec).pinned == (QV Rows.fnLiveLeafRow.func Rows.fnLiveLeafRow.spec).pinnedBy) = true := by kernel_rfl
theorem z7 : (QV Rows.fnLiveLeafRow.func Rows.fnLiveLeafRow.spec).veiledFits Tryz.prog Tryz.f18.params.toList (Tryz.f18.params.toList ++ [] ++ Tryz.f18.resultTypes.toList) = true := by kernel_rfl
theorem z8 : Tryz.prog.funcNamed Rows.fnLiveLeafRow.func = some 18 := by kernel_rfl
theorem z9 : Tryz.f18.isInstance Tryz.prog Rows.fnLiveLeafRow.origin Rows.fnLiveLeafRow.targs := of_decide_eq_true (by kernel_rfl)
theorem z10 : Tryz.f18.isWrapper Tryz.prog Rows.fnLiveLeafRow.wrapper Rows.fnLiveLeafRow.mainSum := by unfold Func.isWrapper; first | (rw [if_pos (by decide +kernel)]; kernel_rfl) | (rw [if_neg (by decide +kernel)]; exact ⟨rfl, rfl⟩)
theorem closed : joinedFacts Tryz.prog 18 Tryz.f18 Rows.fnLiveLeafSpec (QV Rows.fnLiveLeafRow.func Rows.fnLiveLeafRow.spec) = true :=
  qy (.inr Tryz.params18) rfl rfl z0 z1 z2 z3 z4 z6 z7
theorem walked : fF 18 := Z3c

set_option maxRecDepth 100000 in
theorem lifted (os : Os) (started : os.Started) (H : Type) (enc : TypeId × Value → H) :
    ReturnsInHanded {} Tryz.checked os 18 .any (Rows.fnLiveLeafSpec.pre6 enc Tryz.prog Tryz.f18 Rows.fnLiveLeafRow.domain false) (Rows.fnLiveLeafSpec.post enc Tryz.prog Tryz.f18 false true false false) := by
  refine returnsInHanded_of_change_sized (C := Tryz.checked) Tryz.own started (by kernel_rfl) Tryz.func18
    (ChangeSpec.witness6 (enc := enc) (C := Tryz.checked) false ⟨#[], #[.slice none 0 0, .int .i64 0], []⟩ 8 (by kernel_rfl) (by kernel_rfl) (by kernel_rfl) (by kernel_rfl)) ?_
  intro W base args ds gs before hval hW _ hz _
  exact Z7J walked Tryz.params18 rfl rfl (fun _ _ => rfl) W args ds gs before hval hW hz

set_option maxRecDepth 100000 in
theorem fnLiveLeaf_holds : Rows.FnLiveLeafSaid :=
  OpenClaim.holds_of_wide 18 Tryz.f18 rfl rfl rfl rfl rfl rfl rfl ⟨rfl, rfl, rfl, rfl, rfl⟩ rfl rfl rfl rfl rfl z8 Tryz.func18 closed z9 z10
    (fun os started H enc _ => lifted os started H enc)

end Go.Proofs.YteedbaejpdjilaaGreat
