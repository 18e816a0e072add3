/- What can be done first is what the statements of Go do first. The statement is proved as it was given: for every input that can be read. -/
import Derived.Test.YteedbaejpdjilaaGreatYEnd
import Derived.Test.YteedbaejpdjilaaGreatVWFirst
set_option linter.all false
namespace Go.Proofs.YteedbaejpdjilaaGreat
open Go.ChangeShapes Go.WideShapes Go.RowKit

theorem z0 : (QV Rows.fnFirstRow.func Rows.fnFirstRow.spec).wf (OpenSpec.ofChange Rows.fnFirstSpec) = true := by kernel_rfl
theorem z1 : ((QV Rows.fnFirstRow.func Rows.fnFirstRow.spec).inPlace == Tryz.prog.inPlace 11) = true := by kernel_rfl
theorem z2 : ((QV Rows.fnFirstRow.func Rows.fnFirstRow.spec).unfollowed == Tryz.prog.unfollowed 11) = true := by kernel_rfl
theorem z3 : ((QV Rows.fnFirstRow.func Rows.fnFirstRow.spec).recurses == Tryz.prog.recurses 11) = true := by kernel_rfl
theorem z4 : ((QV Rows.fnFirstRow.func Rows.fnFirstRow.spec).named == Tryz.prog.varsNamed 11) = true := by kernel_rfl
theorem z6 : ((QV Rows.fnFirstRow.func Rows.fnFirstRow.spec).pinned == (QV Rows.fnFirstRow.func Rows.fnFirstRow.spec).pinnedBy) = true := by kernel_rfl
theorem z7 : (QV Rows.fnFirstRow.func Rows.fnFirstRow.spec).veiledFits Tryz.prog Tryz.f11.params.toList (Tryz.f11.params.toList ++ [] ++ Tryz.f11.resultTypes.toList) = true := by kernel_rfl
theorem z8 : Tryz.prog.funcNamed Rows.fnFirstRow.func = some 11 := by kernel_rfl
theorem z9 : Tryz.f11.isInstance Tryz.prog Rows.fnFirstRow.origin Rows.fnFirstRow.targs := of_decide_eq_true (by kernel_rfl)
theorem z10 : Tryz.f11.isWrapper Tryz.prog Rows.fnFirstRow.wrapper Rows.fnFirstRow.mainSum := by unfold Func.isWrapper; first | (rw [if_pos (by decide +kernel)]; kernel_rfl) | (rw [if_neg (by decide +kernel)]; exact ⟨rfl, rfl⟩)
theorem closed : joinedFacts Tryz.prog 11 Tryz.f11 Rows.fnFirstSpec (QV Rows.fnFirstRow.func Rows.fnFirstRow.spec) = true :=
  qy (.inl Tryz.params11) rfl rfl z0 z1 z2 z3 z4 z6 z7
theorem walked : fG 11 := Z4g

set_option maxRecDepth 100000 in
theorem lifted (os : Os) (started : os.Started) (H : Type) (enc : TypeId × Value → H) :
    ReturnsInHanded {} Tryz.checked os 11 .any (Rows.fnFirstSpec.pre6 enc Tryz.prog Tryz.f11 Rows.fnFirstRow.domain false) (Rows.fnFirstSpec.post enc Tryz.prog Tryz.f11 false true false false) := by
  refine returnsInHanded_of_change_sized (C := Tryz.checked) Tryz.own started (by kernel_rfl) Tryz.func11
    (ChangeSpec.witness6 (enc := enc) (C := Tryz.checked) false ⟨#[], #[.slice none 0 0], []⟩ 8 (by kernel_rfl) (by kernel_rfl) (by kernel_rfl) (by kernel_rfl)) ?_
  intro W base args ds gs before hval hW _ hz _
  exact Z7K walked Tryz.params11 rfl rfl (fun _ => rfl) W args ds gs before hval hW hz

set_option maxRecDepth 100000 in
theorem fnFirst_holds : Rows.FnFirstSaid :=
  OpenClaim.holds_of_wide 11 Tryz.f11 rfl rfl rfl rfl rfl rfl rfl ⟨rfl, rfl, rfl, rfl, rfl⟩ rfl rfl rfl rfl rfl z8 Tryz.func11 closed z9 z10
    (fun os started H enc _ => lifted os started H enc)

end Go.Proofs.YteedbaejpdjilaaGreat
