/- Each block has at most two successors, all of them blocks of the graph. The statement is proved as it was given: for every input that can be read. -/
import Derived.Test.YteedbaejpdjilaaGreatEnd
import Derived.Test.YteedbaejpdjilaaGreatQh
set_option linter.all false
namespace Go.Proofs.YteedbaejpdjilaaGreat
open Go.ChangeShapes Go.WideShapes Go.RowKit

theorem z0 : (rowZ Rows.fnSuccsRow.func Rows.fnSuccsRow.spec).wf (OpenSpec.ofChange Rows.fnSuccsSpec) = true := by kernel_rfl
theorem z1 : ((rowZ Rows.fnSuccsRow.func Rows.fnSuccsRow.spec).inPlace == Tryz.prog.inPlace 26) = true := by kernel_rfl
theorem z2 : ((rowZ Rows.fnSuccsRow.func Rows.fnSuccsRow.spec).unfollowed == Tryz.prog.unfollowed 26) = true := by kernel_rfl
theorem z3 : ((rowZ Rows.fnSuccsRow.func Rows.fnSuccsRow.spec).recurses == Tryz.prog.recurses 26) = true := by kernel_rfl
theorem z4 : ((rowZ Rows.fnSuccsRow.func Rows.fnSuccsRow.spec).named == Tryz.prog.varsNamed 26) = true := by kernel_rfl
theorem z6 : ((rowZ Rows.fnSuccsRow.func Rows.fnSuccsRow.spec).pinned == (rowZ Rows.fnSuccsRow.func Rows.fnSuccsRow.spec).pinnedBy) = true := by kernel_rfl
theorem z7 : (rowZ Rows.fnSuccsRow.func Rows.fnSuccsRow.spec).veiledFits Tryz.prog Tryz.f26.params.toList (Tryz.f26.params.toList ++ [] ++ Tryz.f26.resultTypes.toList) = true := by kernel_rfl
theorem z8 : Tryz.prog.funcNamed Rows.fnSuccsRow.func = some 26 := by kernel_rfl
theorem z9 : Tryz.f26.isInstance Tryz.prog Rows.fnSuccsRow.origin Rows.fnSuccsRow.targs := of_decide_eq_true (by kernel_rfl)
theorem z10 : Tryz.f26.isWrapper Tryz.prog Rows.fnSuccsRow.wrapper Rows.fnSuccsRow.mainSum := by unfold Func.isWrapper; first | (rw [if_pos (by decide +kernel)]; kernel_rfl) | (rw [if_neg (by decide +kernel)]; exact ⟨rfl, rfl⟩)
theorem closed : joinedFacts Tryz.prog 26 Tryz.f26 Rows.fnSuccsSpec (rowZ Rows.fnSuccsRow.func Rows.fnSuccsRow.spec) = true :=
  closed_of (.inl Tryz.params26) rfl rfl z0 z1 z2 z3 z4 z6 z7
theorem walked : Law1 26 := fun hl _ _ h => succs_any (readS hl) h

set_option maxRecDepth 100000 in
theorem lifted (os : Os) (started : os.Started) (H : Type) (enc : TypeId × Value → H) :
    ReturnsInHanded {} Tryz.checked os 26 .any (Rows.fnSuccsSpec.pre6 enc Tryz.prog Tryz.f26 Rows.fnSuccsRow.domain false) (Rows.fnSuccsSpec.post enc Tryz.prog Tryz.f26 false true false false) := by
  refine returnsInHanded_of_change_sized (C := Tryz.checked) Tryz.own started (by kernel_rfl) Tryz.func26
    (ChangeSpec.witness6 (enc := enc) (C := Tryz.checked) false ⟨#[], #[.slice none 0 0], []⟩ 8 (by kernel_rfl) (by kernel_rfl) (by kernel_rfl) (by kernel_rfl)) ?_
  intro W base args ds gs before hval hW _ hz _
  exact law1 walked Tryz.params26 rfl rfl (fun _ => rfl) W args ds gs before hval hW hz

set_option maxRecDepth 100000 in
theorem fnSuccs_holds : Rows.FnSuccsSaid :=
  OpenClaim.holds_of_wide 26 Tryz.f26 rfl rfl rfl rfl rfl rfl rfl ⟨rfl, rfl, rfl, rfl, rfl⟩ rfl rfl rfl rfl rfl z8 Tryz.func26 closed z9 z10
    (fun os started H enc _ => lifted os started H enc)

end Go.Proofs.YteedbaejpdjilaaGreat
