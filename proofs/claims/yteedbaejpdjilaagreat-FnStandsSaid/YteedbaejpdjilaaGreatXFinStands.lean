/- Each statement that does not control, and each expression of one that does, stands in a block. The statement is proved as it was given: for every input that can be read. -/
import Derived.Test.YteedbaejpdjilaaGreatXEnd
import Derived.Test.YteedbaejpdjilaaGreatXWStands
set_option linter.all false
namespace Go.Proofs.YteedbaejpdjilaaGreat
open Go.ChangeShapes Go.WideShapes Go.RowKit

theorem z0 : (Tn Rows.fnStandsRow.func Rows.fnStandsRow.spec).wf (OpenSpec.ofChange Rows.fnStandsSpec) = true := by kernel_rfl
theorem z1 : ((Tn Rows.fnStandsRow.func Rows.fnStandsRow.spec).inPlace == Tryz.prog.inPlace 24) = true := by kernel_rfl
theorem z2 : ((Tn Rows.fnStandsRow.func Rows.fnStandsRow.spec).unfollowed == Tryz.prog.unfollowed 24) = true := by kernel_rfl
theorem z3 : ((Tn Rows.fnStandsRow.func Rows.fnStandsRow.spec).recurses == Tryz.prog.recurses 24) = true := by kernel_rfl
theorem z4 : ((Tn Rows.fnStandsRow.func Rows.fnStandsRow.spec).named == Tryz.prog.varsNamed 24) = true := by kernel_rfl
theorem z6 : ((Tn Rows.fnStandsRow.func Rows.fnStandsRow.spec).pinned == (Tn Rows.fnStandsRow.func Rows.fnStandsRow.spec).pinnedBy) = true := by kernel_rfl
theorem z7 : (Tn Rows.fnStandsRow.func Rows.fnStandsRow.spec).veiledFits Tryz.prog Tryz.f24.params.toList (Tryz.f24.params.toList ++ [] ++ Tryz.f24.resultTypes.toList) = true := by kernel_rfl
theorem z8 : Tryz.prog.funcNamed Rows.fnStandsRow.func = some 24 := by kernel_rfl
theorem z9 : Tryz.f24.isInstance Tryz.prog Rows.fnStandsRow.origin Rows.fnStandsRow.targs := of_decide_eq_true (by kernel_rfl)
theorem z10 : Tryz.f24.isWrapper Tryz.prog Rows.fnStandsRow.wrapper Rows.fnStandsRow.mainSum := by unfold Func.isWrapper; first | (rw [if_pos (by decide +kernel)]; kernel_rfl) | (rw [if_neg (by decide +kernel)]; exact ⟨rfl, rfl⟩)
theorem closed : joinedFacts Tryz.prog 24 Tryz.f24 Rows.fnStandsSpec (Tn Rows.fnStandsRow.func Rows.fnStandsRow.spec) = true :=
  qy (.inr Tryz.params24) rfl rfl z0 z1 z2 z3 z4 z6 z7
theorem walked : ML 24 := uK

set_option maxRecDepth 100000 in
theorem lifted (os : Os) (started : os.Started) (H : Type) (enc : TypeId × Value → H) :
    ReturnsInHanded {} Tryz.checked os 24 .any (Rows.fnStandsSpec.pre6 enc Tryz.prog Tryz.f24 Rows.fnStandsRow.domain false) (Rows.fnStandsSpec.post enc Tryz.prog Tryz.f24 false true false false) := by
  refine returnsInHanded_of_change_sized (C := Tryz.checked) Tryz.own started (by kernel_rfl) Tryz.func24
    (ChangeSpec.witness6 (enc := enc) (C := Tryz.checked) false ⟨#[], #[.slice none 0 0, .int .i64 0], []⟩ 8 (by kernel_rfl) (by kernel_rfl) (by kernel_rfl) (by kernel_rfl)) ?_
  intro W base args ds gs before hval hW _ hz _
  exact iQ walked Tryz.params24 rfl rfl (fun _ _ => rfl) W args ds gs before hval hW hz

set_option maxRecDepth 100000 in
theorem fnStands_holds : Rows.FnStandsSaid :=
  OpenClaim.holds_of_wide 24 Tryz.f24 rfl rfl rfl rfl rfl rfl rfl ⟨rfl, rfl, rfl, rfl, rfl⟩ rfl rfl rfl rfl rfl z8 Tryz.func24 closed z9 z10
    (fun os started H enc _ => lifted os started H enc)

end Go.Proofs.YteedbaejpdjilaaGreat
