/- The index of each block is its place in the list. The statement is proved as it was given: for every input that can be read. -/
import Derived.Test.YteedbaejpdjilaaGreatEnd
import Derived.Test.YteedbaejpdjilaaGreatQh
set_option linter.all false
namespace Go.Proofs.YteedbaejpdjilaaGreat
open Go.ChangeShapes Go.WideShapes Go.RowKit

theorem z0 : (rowZ Rows.fnIndexRow.func Rows.fnIndexRow.spec).wf (OpenSpec.ofChange Rows.fnIndexSpec) = true := by kernel_rfl
theorem z1 : ((rowZ Rows.fnIndexRow.func Rows.fnIndexRow.spec).inPlace == Tryz.prog.inPlace 14) = true := by kernel_rfl
theorem z2 : ((rowZ Rows.fnIndexRow.func Rows.fnIndexRow.spec).unfollowed == Tryz.prog.unfollowed 14) = true := by kernel_rfl
theorem z3 : ((rowZ Rows.fnIndexRow.func Rows.fnIndexRow.spec).recurses == Tryz.prog.recurses 14) = true := by kernel_rfl
theorem z4 : ((rowZ Rows.fnIndexRow.func Rows.fnIndexRow.spec).named == Tryz.prog.varsNamed 14) = true := by kernel_rfl
theorem z6 : ((rowZ Rows.fnIndexRow.func Rows.fnIndexRow.spec).pinned == (rowZ Rows.fnIndexRow.func Rows.fnIndexRow.spec).pinnedBy) = true := by kernel_rfl
theorem z7 : (rowZ Rows.fnIndexRow.func Rows.fnIndexRow.spec).veiledFits Tryz.prog Tryz.f14.params.toList (Tryz.f14.params.toList ++ [] ++ Tryz.f14.resultTypes.toList) = true := by kernel_rfl
theorem z8 : Tryz.prog.funcNamed Rows.fnIndexRow.func = some 14 := by kernel_rfl
theorem z9 : Tryz.f14.isInstance Tryz.prog Rows.fnIndexRow.origin Rows.fnIndexRow.targs := of_decide_eq_true (by kernel_rfl)
theorem z10 : Tryz.f14.isWrapper Tryz.prog Rows.fnIndexRow.wrapper Rows.fnIndexRow.mainSum := by unfold Func.isWrapper; first | (rw [if_pos (by decide +kernel)]; kernel_rfl) | (rw [if_neg (by decide +kernel)]; exact ⟨rfl, rfl⟩)
theorem closed : joinedFacts Tryz.prog 14 Tryz.f14 Rows.fnIndexSpec (rowZ Rows.fnIndexRow.func Rows.fnIndexRow.spec) = true :=
  closed_of (.inl Tryz.params14) rfl rfl z0 z1 z2 z3 z4 z6 z7
theorem walked : Law1 14 := fun hl _ _ h => index_any (readS hl) h

set_option maxRecDepth 100000 in
theorem lifted (os : Os) (started : os.Started) (H : Type) (enc : TypeId × Value → H) :
    ReturnsInHanded {} Tryz.checked os 14 .any (Rows.fnIndexSpec.pre6 enc Tryz.prog Tryz.f14 Rows.fnIndexRow.domain false) (Rows.fnIndexSpec.post enc Tryz.prog Tryz.f14 false true false false) := by
  refine returnsInHanded_of_change_sized (C := Tryz.checked) Tryz.own started (by kernel_rfl) Tryz.func14
    (ChangeSpec.witness6 (enc := enc) (C := Tryz.checked) false ⟨#[], #[.slice none 0 0], []⟩ 8 (by kernel_rfl) (by kernel_rfl) (by kernel_rfl) (by kernel_rfl)) ?_
  intro W base args ds gs before hval hW _ hz _
  exact law1 walked Tryz.params14 rfl rfl (fun _ => rfl) W args ds gs before hval hW hz

set_option maxRecDepth 100000 in
theorem fnIndex_holds : Rows.FnIndexSaid :=
  OpenClaim.holds_of_wide 14 Tryz.f14 rfl rfl rfl rfl rfl rfl rfl ⟨rfl, rfl, rfl, rfl, rfl⟩ rfl rfl rfl rfl rfl z8 Tryz.func14 closed z9 z10
    (fun os started H enc _ => lifted os started H enc)

end Go.Proofs.YteedbaejpdjilaaGreat
