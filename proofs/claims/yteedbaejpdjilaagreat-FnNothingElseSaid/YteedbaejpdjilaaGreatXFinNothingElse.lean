/- Blocks have no other leaves than those of the body, and returns that nobody wrote. The statement is proved as it was given: for every input that can be read. -/
import Derived.Test.YteedbaejpdjilaaGreatXEnd
import Derived.Test.YteedbaejpdjilaaGreatXWNothingElse
set_option linter.all false
namespace Go.Proofs.YteedbaejpdjilaaGreat
open Go.ChangeShapes Go.WideShapes Go.RowKit

theorem z0 : (Tn Rows.fnNothingElseRow.func Rows.fnNothingElseRow.spec).wf (OpenSpec.ofChange Rows.fnNothingElseSpec) = true := by kernel_rfl
theorem z1 : ((Tn Rows.fnNothingElseRow.func Rows.fnNothingElseRow.spec).inPlace == Tryz.prog.inPlace 19) = true := by kernel_rfl
theorem z2 : ((Tn Rows.fnNothingElseRow.func Rows.fnNothingElseRow.spec).unfollowed == Tryz.prog.unfollowed 19) = true := by kernel_rfl
theorem z3 : ((Tn Rows.fnNothingElseRow.func Rows.fnNothingElseRow.spec).recurses == Tryz.prog.recurses 19) = true := by kernel_rfl
theorem z4 : ((Tn Rows.fnNothingElseRow.func Rows.fnNothingElseRow.spec).named == Tryz.prog.varsNamed 19) = true := by kernel_rfl
theorem z6 : ((Tn Rows.fnNothingElseRow.func Rows.fnNothingElseRow.spec).pinned == (Tn Rows.fnNothingElseRow.func Rows.fnNothingElseRow.spec).pinnedBy) = true := by kernel_rfl
theorem z7 : (Tn Rows.fnNothingElseRow.func Rows.fnNothingElseRow.spec).veiledFits Tryz.prog Tryz.f19.params.toList (Tryz.f19.params.toList ++ [] ++ Tryz.f19.resultTypes.toList) = true := by kernel_rfl
theorem z8 : Tryz.prog.funcNamed Rows.fnNothingElseRow.func = some 19 := by kernel_rfl
theorem z9 : Tryz.f19.isInstance Tryz.prog Rows.fnNothingElseRow.origin Rows.fnNothingElseRow.targs := of_decide_eq_true (by kernel_rfl)
theorem z10 : Tryz.f19.isWrapper Tryz.prog Rows.fnNothingElseRow.wrapper Rows.fnNothingElseRow.mainSum := by unfold Func.isWrapper; first | (rw [if_pos (by decide +kernel)]; kernel_rfl) | (rw [if_neg (by decide +kernel)]; exact ⟨rfl, rfl⟩)
theorem closed : joinedFacts Tryz.prog 19 Tryz.f19 Rows.fnNothingElseSpec (Tn Rows.fnNothingElseRow.func Rows.fnNothingElseRow.spec) = true :=
  qy (.inl Tryz.params19) rfl rfl z0 z1 z2 z3 z4 z6 z7
theorem walked : jE 19 := walkNothingElse

set_option maxRecDepth 100000 in
theorem lifted (os : Os) (started : os.Started) (H : Type) (enc : TypeId × Value → H) :
    ReturnsInHanded {} Tryz.checked os 19 .any (Rows.fnNothingElseSpec.pre6 enc Tryz.prog Tryz.f19 Rows.fnNothingElseRow.domain false) (Rows.fnNothingElseSpec.post enc Tryz.prog Tryz.f19 false true false false) := by
  refine returnsInHanded_of_change_sized (C := Tryz.checked) Tryz.own started (by kernel_rfl) Tryz.func19
    (ChangeSpec.witness6 (enc := enc) (C := Tryz.checked) false ⟨#[], #[.slice none 0 0], []⟩ 8 (by kernel_rfl) (by kernel_rfl) (by kernel_rfl) (by kernel_rfl)) ?_
  intro W base args ds gs before hval hW _ hz _
  exact jf walked Tryz.params19 rfl rfl (fun _ => rfl) W args ds gs before hval hW hz

set_option maxRecDepth 100000 in
theorem fnNothingElse_holds : Rows.FnNothingElseSaid :=
  OpenClaim.holds_of_wide 19 Tryz.f19 rfl rfl rfl rfl rfl rfl rfl ⟨rfl, rfl, rfl, rfl, rfl⟩ rfl rfl rfl rfl rfl z8 Tryz.func19 closed z9 z10
    (fun os started H enc _ => lifted os started H enc)

end Go.Proofs.YteedbaejpdjilaaGreat
