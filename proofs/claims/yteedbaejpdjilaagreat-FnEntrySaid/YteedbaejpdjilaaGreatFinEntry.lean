/- The first block is the entry, it is live, and is that of the body of the function. The statement is proved as it was given: for every input that can be read. -/
import Derived.Test.YteedbaejpdjilaaGreatEnd
import Derived.Test.YteedbaejpdjilaaGreatQh
set_option linter.all false
namespace Go.Proofs.YteedbaejpdjilaaGreat
open Go.ChangeShapes Go.WideShapes Go.RowKit

theorem z0 : (rowZ Rows.fnEntryRow.func Rows.fnEntryRow.spec).wf (OpenSpec.ofChange Rows.fnEntrySpec) = true := by kernel_rfl
theorem z1 : ((rowZ Rows.fnEntryRow.func Rows.fnEntryRow.spec).inPlace == Tryz.prog.inPlace 10) = true := by kernel_rfl
theorem z2 : ((rowZ Rows.fnEntryRow.func Rows.fnEntryRow.spec).unfollowed == Tryz.prog.unfollowed 10) = true := by kernel_rfl
theorem z3 : ((rowZ Rows.fnEntryRow.func Rows.fnEntryRow.spec).recurses == Tryz.prog.recurses 10) = true := by kernel_rfl
theorem z4 : ((rowZ Rows.fnEntryRow.func Rows.fnEntryRow.spec).named == Tryz.prog.varsNamed 10) = true := by kernel_rfl
theorem z6 : ((rowZ Rows.fnEntryRow.func Rows.fnEntryRow.spec).pinned == (rowZ Rows.fnEntryRow.func Rows.fnEntryRow.spec).pinnedBy) = true := by kernel_rfl
theorem z7 : (rowZ Rows.fnEntryRow.func Rows.fnEntryRow.spec).veiledFits Tryz.prog Tryz.f10.params.toList (Tryz.f10.params.toList ++ [] ++ Tryz.f10.resultTypes.toList) = true := by kernel_rfl
theorem z8 : Tryz.prog.funcNamed Rows.fnEntryRow.func = some 10 := by kernel_rfl
theorem z9 : Tryz.f10.isInstance Tryz.prog Rows.fnEntryRow.origin Rows.fnEntryRow.targs := of_decide_eq_true (by kernel_rfl)
theorem z10 : Tryz.f10.isWrapper Tryz.prog Rows.fnEntryRow.wrapper Rows.fnEntryRow.mainSum := by unfold Func.isWrapper; first | (rw [if_pos (by decide +kernel)]; kernel_rfl) | (rw [if_neg (by decide +kernel)]; exact ⟨rfl, rfl⟩)
theorem closed : joinedFacts Tryz.prog 10 Tryz.f10 Rows.fnEntrySpec (rowZ Rows.fnEntryRow.func Rows.fnEntryRow.spec) = true :=
  closed_of (.inl Tryz.params10) rfl rfl z0 z1 z2 z3 z4 z6 z7
theorem walked : Law1 10 := fun hl _ _ h => entry_any (readS hl) h

set_option maxRecDepth 100000 in
theorem lifted (os : Os) (started : os.Started) (H : Type) (enc : TypeId × Value → H) :
    ReturnsInHanded {} Tryz.checked os 10 .any (Rows.fnEntrySpec.pre6 enc Tryz.prog Tryz.f10 Rows.fnEntryRow.domain false) (Rows.fnEntrySpec.post enc Tryz.prog Tryz.f10 false true false false) := by
  refine returnsInHanded_of_change_sized (C := Tryz.checked) Tryz.own started (by kernel_rfl) Tryz.func10
    (ChangeSpec.witness6 (enc := enc) (C := Tryz.checked) false ⟨#[], #[.slice none 0 0], []⟩ 8 (by kernel_rfl) (by kernel_rfl) (by kernel_rfl) (by kernel_rfl)) ?_
  intro W base args ds gs before hval hW _ hz _
  exact law1 walked Tryz.params10 rfl rfl (fun _ => rfl) W args ds gs before hval hW hz

set_option maxRecDepth 100000 in
theorem fnEntry_holds : Rows.FnEntrySaid :=
  OpenClaim.holds_of_wide 10 Tryz.f10 rfl rfl rfl rfl rfl rfl rfl ⟨rfl, rfl, rfl, rfl, rfl⟩ rfl rfl rfl rfl rfl z8 Tryz.func10 closed z9 z10
    (fun os started H enc _ => lifted os started H enc)

end Go.Proofs.YteedbaejpdjilaaGreat
