/- A function without a defer has no reachable return just if no live block ends with a return. The statement is proved as it was given: for every input that can be read. -/
import Derived.Test.YteedbaejpdjilaaGreatXEnd
import Derived.Test.YteedbaejpdjilaaGreatXWNoReturnGraph
set_option linter.all false
namespace Go.Proofs.YteedbaejpdjilaaGreat
open Go.ChangeShapes Go.WideShapes Go.RowKit

theorem z0 : (Tn Rows.fnNoReturnGraphRow.func Rows.fnNoReturnGraphRow.spec).wf (OpenSpec.ofChange Rows.fnNoReturnGraphSpec) = true := by kernel_rfl
theorem z1 : ((Tn Rows.fnNoReturnGraphRow.func Rows.fnNoReturnGraphRow.spec).inPlace == Tryz.prog.inPlace 7) = true := by kernel_rfl
theorem z2 : ((Tn Rows.fnNoReturnGraphRow.func Rows.fnNoReturnGraphRow.spec).unfollowed == Tryz.prog.unfollowed 7) = true := by kernel_rfl
theorem z3 : ((Tn Rows.fnNoReturnGraphRow.func Rows.fnNoReturnGraphRow.spec).recurses == Tryz.prog.recurses 7) = true := by kernel_rfl
theorem z4 : ((Tn Rows.fnNoReturnGraphRow.func Rows.fnNoReturnGraphRow.spec).named == Tryz.prog.varsNamed 7) = true := by kernel_rfl
theorem z6 : ((Tn Rows.fnNoReturnGraphRow.func Rows.fnNoReturnGraphRow.spec).pinned == (Tn Rows.fnNoReturnGraphRow.func Rows.fnNoReturnGraphRow.spec).pinnedBy) = true := by kernel_rfl
theorem z7 : (Tn Rows.fnNoReturnGraphRow.func Rows.fnNoReturnGraphRow.spec).veiledFits Tryz.prog Tryz.f7.params.toList (Tryz.f7.params.toList ++ [] ++ Tryz.f7.resultTypes.toList) = true := by kernel_rfl
theorem z8 : Tryz.prog.funcNamed Rows.fnNoReturnGraphRow.func = some 7 := by kernel_rfl
theorem z9 : Tryz.f7.isInstance Tryz.prog Rows.fnNoReturnGraphRow.origin Rows.fnNoReturnGraphRow.targs := of_decide_eq_true (by kernel_rfl)
theorem z10 : Tryz.f7.isWrapper Tryz.prog Rows.fnNoReturnGraphRow.wrapper Rows.fnNoReturnGraphRow.mainSum := by unfold Func.isWrapper; first | (rw [if_pos (by decide +kernel)]; kernel_rfl) | (rw [if_neg (by decide +kernel)]; exact ⟨rfl, rfl⟩)
theorem closed : joinedFacts Tryz.prog 7 Tryz.f7 Rows.fnNoReturnGraphSpec (Tn Rows.fnNoReturnGraphRow.func Rows.fnNoReturnGraphRow.spec) = true :=
  qy (.inl Tryz.params7) rfl rfl z0 z1 z2 z3 z4 z6 z7
theorem walked : jE 7 := walkNoReturnGraph

set_option maxRecDepth 100000 in
theorem lifted (os : Os) (started : os.Started) (H : Type) (enc : TypeId × Value → H) :
    ReturnsInHanded {} Tryz.checked os 7 .any (Rows.fnNoReturnGraphSpec.pre6 enc Tryz.prog Tryz.f7 Rows.fnNoReturnGraphRow.domain false) (Rows.fnNoReturnGraphSpec.post enc Tryz.prog Tryz.f7 false true false false) := by
  refine returnsInHanded_of_change_sized (C := Tryz.checked) Tryz.own started (by kernel_rfl) Tryz.func7
    (ChangeSpec.witness6 (enc := enc) (C := Tryz.checked) false ⟨#[], #[.slice none 0 0], []⟩ 8 (by kernel_rfl) (by kernel_rfl) (by kernel_rfl) (by kernel_rfl)) ?_
  intro W base args ds gs before hval hW _ hz _
  exact jf walked Tryz.params7 rfl rfl (fun _ => rfl) W args ds gs before hval hW hz

set_option maxRecDepth 100000 in
theorem fnNoReturnGraph_holds : Rows.FnNoReturnGraphSaid :=
  OpenClaim.holds_of_wide 7 Tryz.f7 rfl rfl rfl rfl rfl rfl rfl ⟨rfl, rfl, rfl, rfl, rfl⟩ rfl rfl rfl rfl rfl z8 Tryz.func7 closed z9 z10
    (fun os started H enc _ => lifted os started H enc)

end Go.Proofs.YteedbaejpdjilaaGreat
