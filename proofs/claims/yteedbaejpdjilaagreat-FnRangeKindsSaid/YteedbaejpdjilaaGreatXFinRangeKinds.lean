/- Behind what a range goes over stands its head, which leads to its body and behind it. The statement is proved as it was given: for every input that can be read. -/
import Derived.Test.YteedbaejpdjilaaGreatXEnd
import Derived.Test.YteedbaejpdjilaaGreatXWRangeKinds
set_option linter.all false
namespace Go.Proofs.YteedbaejpdjilaaGreat
open Go.ChangeShapes Go.WideShapes Go.RowKit

theorem z0 : (Tn Rows.fnRangeKindsRow.func Rows.fnRangeKindsRow.spec).wf (OpenSpec.ofChange Rows.fnRangeKindsSpec) = true := by kernel_rfl
theorem z1 : ((Tn Rows.fnRangeKindsRow.func Rows.fnRangeKindsRow.spec).inPlace == Tryz.prog.inPlace 21) = true := by kernel_rfl
theorem z2 : ((Tn Rows.fnRangeKindsRow.func Rows.fnRangeKindsRow.spec).unfollowed == Tryz.prog.unfollowed 21) = true := by kernel_rfl
theorem z3 : ((Tn Rows.fnRangeKindsRow.func Rows.fnRangeKindsRow.spec).recurses == Tryz.prog.recurses 21) = true := by kernel_rfl
theorem z4 : ((Tn Rows.fnRangeKindsRow.func Rows.fnRangeKindsRow.spec).named == Tryz.prog.varsNamed 21) = true := by kernel_rfl
theorem z6 : ((Tn Rows.fnRangeKindsRow.func Rows.fnRangeKindsRow.spec).pinned == (Tn Rows.fnRangeKindsRow.func Rows.fnRangeKindsRow.spec).pinnedBy) = true := by kernel_rfl
theorem z7 : (Tn Rows.fnRangeKindsRow.func Rows.fnRangeKindsRow.spec).veiledFits Tryz.prog Tryz.f21.params.toList (Tryz.f21.params.toList ++ [] ++ Tryz.f21.resultTypes.toList) = true := by kernel_rfl
theorem z8 : Tryz.prog.funcNamed Rows.fnRangeKindsRow.func = some 21 := by kernel_rfl
theorem z9 : Tryz.f21.isInstance Tryz.prog Rows.fnRangeKindsRow.origin Rows.fnRangeKindsRow.targs := of_decide_eq_true (by kernel_rfl)
theorem z10 : Tryz.f21.isWrapper Tryz.prog Rows.fnRangeKindsRow.wrapper Rows.fnRangeKindsRow.mainSum := by unfold Func.isWrapper; first | (rw [if_pos (by decide +kernel)]; kernel_rfl) | (rw [if_neg (by decide +kernel)]; exact ⟨rfl, rfl⟩)
theorem closed : joinedFacts Tryz.prog 21 Tryz.f21 Rows.fnRangeKindsSpec (Tn Rows.fnRangeKindsRow.func Rows.fnRangeKindsRow.spec) = true :=
  qy (.inr Tryz.params21) rfl rfl z0 z1 z2 z3 z4 z6 z7
theorem walked : ML 21 := walkRangeKinds

set_option maxRecDepth 100000 in
theorem lifted (os : Os) (started : os.Started) (H : Type) (enc : TypeId × Value → H) :
    ReturnsInHanded {} Tryz.checked os 21 .any (Rows.fnRangeKindsSpec.pre6 enc Tryz.prog Tryz.f21 Rows.fnRangeKindsRow.domain false) (Rows.fnRangeKindsSpec.post enc Tryz.prog Tryz.f21 false true false false) := by
  refine returnsInHanded_of_change_sized (C := Tryz.checked) Tryz.own started (by kernel_rfl) Tryz.func21
    (ChangeSpec.witness6 (enc := enc) (C := Tryz.checked) false ⟨#[], #[.slice none 0 0, .int .i64 0], []⟩ 8 (by kernel_rfl) (by kernel_rfl) (by kernel_rfl) (by kernel_rfl)) ?_
  intro W base args ds gs before hval hW _ hz _
  exact iQ walked Tryz.params21 rfl rfl (fun _ _ => rfl) W args ds gs before hval hW hz

set_option maxRecDepth 100000 in
theorem fnRangeKinds_holds : Rows.FnRangeKindsSaid :=
  OpenClaim.holds_of_wide 21 Tryz.f21 rfl rfl rfl rfl rfl rfl rfl ⟨rfl, rfl, rfl, rfl, rfl⟩ rfl rfl rfl rfl rfl z8 Tryz.func21 closed z9 z10
    (fun os started H enc _ => lifted os started H enc)

end Go.Proofs.YteedbaejpdjilaaGreat
