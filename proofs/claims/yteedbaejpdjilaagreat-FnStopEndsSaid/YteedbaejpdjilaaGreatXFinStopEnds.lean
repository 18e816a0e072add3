/- A call that never returns is the last node of its block, which has no successors. The statement is proved as it was given: for every input that can be read. -/
import Derived.Test.YteedbaejpdjilaaGreatXEnd
import Derived.Test.YteedbaejpdjilaaGreatXWStopEnds
set_option linter.all false
namespace Go.Proofs.YteedbaejpdjilaaGreat
open Go.ChangeShapes Go.WideShapes Go.RowKit

theorem z0 : (Tn Rows.fnStopEndsRow.func Rows.fnStopEndsRow.spec).wf (OpenSpec.ofChange Rows.fnStopEndsSpec) = true := by kernel_rfl
theorem z1 : ((Tn Rows.fnStopEndsRow.func Rows.fnStopEndsRow.spec).inPlace == Tryz.prog.inPlace 25) = true := by kernel_rfl
theorem z2 : ((Tn Rows.fnStopEndsRow.func Rows.fnStopEndsRow.spec).unfollowed == Tryz.prog.unfollowed 25) = true := by kernel_rfl
theorem z3 : ((Tn Rows.fnStopEndsRow.func Rows.fnStopEndsRow.spec).recurses == Tryz.prog.recurses 25) = true := by kernel_rfl
theorem z4 : ((Tn Rows.fnStopEndsRow.func Rows.fnStopEndsRow.spec).named == Tryz.prog.varsNamed 25) = true := by kernel_rfl
theorem z6 : ((Tn Rows.fnStopEndsRow.func Rows.fnStopEndsRow.spec).pinned == (Tn Rows.fnStopEndsRow.func Rows.fnStopEndsRow.spec).pinnedBy) = true := by kernel_rfl
theorem z7 : (Tn Rows.fnStopEndsRow.func Rows.fnStopEndsRow.spec).veiledFits Tryz.prog Tryz.f25.params.toList (Tryz.f25.params.toList ++ [] ++ Tryz.f25.resultTypes.toList) = true := by kernel_rfl
theorem z8 : Tryz.prog.funcNamed Rows.fnStopEndsRow.func = some 25 := by kernel_rfl
theorem z9 : Tryz.f25.isInstance Tryz.prog Rows.fnStopEndsRow.origin Rows.fnStopEndsRow.targs := of_decide_eq_true (by kernel_rfl)
theorem z10 : Tryz.f25.isWrapper Tryz.prog Rows.fnStopEndsRow.wrapper Rows.fnStopEndsRow.mainSum := by unfold Func.isWrapper; first | (rw [if_pos (by decide +kernel)]; kernel_rfl) | (rw [if_neg (by decide +kernel)]; exact ⟨rfl, rfl⟩)
theorem closed : joinedFacts Tryz.prog 25 Tryz.f25 Rows.fnStopEndsSpec (Tn Rows.fnStopEndsRow.func Rows.fnStopEndsRow.spec) = true :=
  qy (.inr Tryz.params25) rfl rfl z0 z1 z2 z3 z4 z6 z7
theorem walked : ML 25 := yx

set_option maxRecDepth 100000 in
theorem lifted (os : Os) (started : os.Started) (H : Type) (enc : TypeId × Value → H) :
    ReturnsInHanded {} Tryz.checked os 25 .any (Rows.fnStopEndsSpec.pre6 enc Tryz.prog Tryz.f25 Rows.fnStopEndsRow.domain false) (Rows.fnStopEndsSpec.post enc Tryz.prog Tryz.f25 false true false false) := by
  refine returnsInHanded_of_change_sized (C := Tryz.checked) Tryz.own started (by kernel_rfl) Tryz.func25
    (ChangeSpec.witness6 (enc := enc) (C := Tryz.checked) false ⟨#[], #[.slice none 0 0, .int .i64 0], []⟩ 8 (by kernel_rfl) (by kernel_rfl) (by kernel_rfl) (by kernel_rfl)) ?_
  intro W base args ds gs before hval hW _ hz _
  exact iQ walked Tryz.params25 rfl rfl (fun _ _ => rfl) W args ds gs before hval hW hz

set_option maxRecDepth 100000 in
theorem fnStopEnds_holds : Rows.FnStopEndsSaid :=
  OpenClaim.holds_of_wide 25 Tryz.f25 rfl rfl rfl rfl rfl rfl rfl ⟨rfl, rfl, rfl, rfl, rfl⟩ rfl rfl rfl rfl rfl z8 Tryz.func25 closed z9 z10
    (fun os started H enc _ => lifted os started H enc)

end Go.Proofs.YteedbaejpdjilaaGreat
