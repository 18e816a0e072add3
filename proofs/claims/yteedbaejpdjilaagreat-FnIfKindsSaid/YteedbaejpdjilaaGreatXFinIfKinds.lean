/- The condition of an if leads to the block of its then, and to that of its else, or, without one, to that behind it. The statement is proved as it was given: for every input that can be read. -/
import Derived.Test.YteedbaejpdjilaaGreatXEnd
import Derived.Test.YteedbaejpdjilaaGreatXWIfKinds
set_option linter.all false
namespace Go.Proofs.YteedbaejpdjilaaGreat
open Go.ChangeShapes Go.WideShapes Go.RowKit

theorem z0 : (Tn Rows.fnIfKindsRow.func Rows.fnIfKindsRow.spec).wf (OpenSpec.ofChange Rows.fnIfKindsSpec) = true := by kernel_rfl
theorem z1 : ((Tn Rows.fnIfKindsRow.func Rows.fnIfKindsRow.spec).inPlace == Tryz.prog.inPlace 13) = true := by kernel_rfl
theorem z2 : ((Tn Rows.fnIfKindsRow.func Rows.fnIfKindsRow.spec).unfollowed == Tryz.prog.unfollowed 13) = true := by kernel_rfl
theorem z3 : ((Tn Rows.fnIfKindsRow.func Rows.fnIfKindsRow.spec).recurses == Tryz.prog.recurses 13) = true := by kernel_rfl
theorem z4 : ((Tn Rows.fnIfKindsRow.func Rows.fnIfKindsRow.spec).named == Tryz.prog.varsNamed 13) = true := by kernel_rfl
theorem z6 : ((Tn Rows.fnIfKindsRow.func Rows.fnIfKindsRow.spec).pinned == (Tn Rows.fnIfKindsRow.func Rows.fnIfKindsRow.spec).pinnedBy) = true := by kernel_rfl
theorem z7 : (Tn Rows.fnIfKindsRow.func Rows.fnIfKindsRow.spec).veiledFits Tryz.prog Tryz.f13.params.toList (Tryz.f13.params.toList ++ [] ++ Tryz.f13.resultTypes.toList) = true := by kernel_rfl
theorem z8 : Tryz.prog.funcNamed Rows.fnIfKindsRow.func = some 13 := by kernel_rfl
theorem z9 : Tryz.f13.isInstance Tryz.prog Rows.fnIfKindsRow.origin Rows.fnIfKindsRow.targs := of_decide_eq_true (by kernel_rfl)
theorem z10 : Tryz.f13.isWrapper Tryz.prog Rows.fnIfKindsRow.wrapper Rows.fnIfKindsRow.mainSum := by unfold Func.isWrapper; first | (rw [if_pos (by decide +kernel)]; kernel_rfl) | (rw [if_neg (by decide +kernel)]; exact ⟨rfl, rfl⟩)
theorem closed : joinedFacts Tryz.prog 13 Tryz.f13 Rows.fnIfKindsSpec (Tn Rows.fnIfKindsRow.func Rows.fnIfKindsRow.spec) = true :=
  qy (.inr Tryz.params13) rfl rfl z0 z1 z2 z3 z4 z6 z7
theorem walked : ML 13 := vX

set_option maxRecDepth 100000 in
theorem lifted (os : Os) (started : os.Started) (H : Type) (enc : TypeId × Value → H) :
    ReturnsInHanded {} Tryz.checked os 13 .any (Rows.fnIfKindsSpec.pre6 enc Tryz.prog Tryz.f13 Rows.fnIfKindsRow.domain false) (Rows.fnIfKindsSpec.post enc Tryz.prog Tryz.f13 false true false false) := by
  refine returnsInHanded_of_change_sized (C := Tryz.checked) Tryz.own started (by kernel_rfl) Tryz.func13
    (ChangeSpec.witness6 (enc := enc) (C := Tryz.checked) false ⟨#[], #[.slice none 0 0, .int .i64 0], []⟩ 8 (by kernel_rfl) (by kernel_rfl) (by kernel_rfl) (by kernel_rfl)) ?_
  intro W base args ds gs before hval hW _ hz _
  exact iQ walked Tryz.params13 rfl rfl (fun _ _ => rfl) W args ds gs before hval hW hz

set_option maxRecDepth 100000 in
theorem fnIfKinds_holds : Rows.FnIfKindsSaid :=
  OpenClaim.holds_of_wide 13 Tryz.f13 rfl rfl rfl rfl rfl rfl rfl ⟨rfl, rfl, rfl, rfl, rfl⟩ rfl rfl rfl rfl rfl z8 Tryz.func13 closed z9 z10
    (fun os started H enc _ => lifted os started H enc)

end Go.Proofs.YteedbaejpdjilaaGreat
