/- The condition of a for stands in the block of its head, and leads to that of its body, and to that behind it. The statement is proved as it was given: for every input that can be read. -/
import Derived.Test.YteedbaejpdjilaaGreatXEnd
import Derived.Test.YteedbaejpdjilaaGreatXWForKinds
set_option linter.all false
namespace Go.Proofs.YteedbaejpdjilaaGreat
open Go.ChangeShapes Go.WideShapes Go.RowKit

theorem z0 : (Tn Rows.fnForKindsRow.func Rows.fnForKindsRow.spec).wf (OpenSpec.ofChange Rows.fnForKindsSpec) = true := by kernel_rfl
theorem z1 : ((Tn Rows.fnForKindsRow.func Rows.fnForKindsRow.spec).inPlace == Tryz.prog.inPlace 12) = true := by kernel_rfl
theorem z2 : ((Tn Rows.fnForKindsRow.func Rows.fnForKindsRow.spec).unfollowed == Tryz.prog.unfollowed 12) = true := by kernel_rfl
theorem z3 : ((Tn Rows.fnForKindsRow.func Rows.fnForKindsRow.spec).recurses == Tryz.prog.recurses 12) = true := by kernel_rfl
theorem z4 : ((Tn Rows.fnForKindsRow.func Rows.fnForKindsRow.spec).named == Tryz.prog.varsNamed 12) = true := by kernel_rfl
theorem z6 : ((Tn Rows.fnForKindsRow.func Rows.fnForKindsRow.spec).pinned == (Tn Rows.fnForKindsRow.func Rows.fnForKindsRow.spec).pinnedBy) = true := by kernel_rfl
theorem z7 : (Tn Rows.fnForKindsRow.func Rows.fnForKindsRow.spec).veiledFits Tryz.prog Tryz.f12.params.toList (Tryz.f12.params.toList ++ [] ++ Tryz.f12.resultTypes.toList) = true := by kernel_rfl
theorem z8 : Tryz.prog.funcNamed Rows.fnForKindsRow.func = some 12 := by kernel_rfl
theorem z9 : Tryz.f12.isInstance Tryz.prog Rows.fnForKindsRow.origin Rows.fnForKindsRow.targs := of_decide_eq_true (by kernel_rfl)
theorem z10 : Tryz.f12.isWrapper Tryz.prog Rows.fnForKindsRow.wrapper Rows.fnForKindsRow.mainSum := by unfold Func.isWrapper; first | (rw [if_pos (by decide +kernel)]; kernel_rfl) | (rw [if_neg (by decide +kernel)]; exact ⟨rfl, rfl⟩)
theorem closed : joinedFacts Tryz.prog 12 Tryz.f12 Rows.fnForKindsSpec (Tn Rows.fnForKindsRow.func Rows.fnForKindsRow.spec) = true :=
  qy (.inr Tryz.params12) rfl rfl z0 z1 z2 z3 z4 z6 z7
theorem walked : ML 12 := zK

set_option maxRecDepth 100000 in
theorem lifted (os : Os) (started : os.Started) (H : Type) (enc : TypeId × Value → H) :
    ReturnsInHanded {} Tryz.checked os 12 .any (Rows.fnForKindsSpec.pre6 enc Tryz.prog Tryz.f12 Rows.fnForKindsRow.domain false) (Rows.fnForKindsSpec.post enc Tryz.prog Tryz.f12 false true false false) := by
  refine returnsInHanded_of_change_sized (C := Tryz.checked) Tryz.own started (by kernel_rfl) Tryz.func12
    (ChangeSpec.witness6 (enc := enc) (C := Tryz.checked) false ⟨#[], #[.slice none 0 0, .int .i64 0], []⟩ 8 (by kernel_rfl) (by kernel_rfl) (by kernel_rfl) (by kernel_rfl)) ?_
  intro W base args ds gs before hval hW _ hz _
  exact iQ walked Tryz.params12 rfl rfl (fun _ _ => rfl) W args ds gs before hval hW hz

set_option maxRecDepth 100000 in
theorem fnForKinds_holds : Rows.FnForKindsSaid :=
  OpenClaim.holds_of_wide 12 Tryz.f12 rfl rfl rfl rfl rfl rfl rfl ⟨rfl, rfl, rfl, rfl, rfl⟩ rfl rfl rfl rfl rfl z8 Tryz.func12 closed z9 z10
    (fun os started H enc _ => lifted os started H enc)

end Go.Proofs.YteedbaejpdjilaaGreat
