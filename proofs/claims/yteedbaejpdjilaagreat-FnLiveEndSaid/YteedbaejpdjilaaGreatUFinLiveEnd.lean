/- A return that nobody wrote stands in a live block just if the end of the body can be reached. The statement is proved as it was given: for every input that can be read. -/
import Derived.Test.YteedbaejpdjilaaGreatYEnd
import Derived.Test.YteedbaejpdjilaaGreatUWLiveEnd
set_option linter.all false
namespace Go.Proofs.YteedbaejpdjilaaGreat
open Go.ChangeShapes Go.WideShapes Go.RowKit

theorem z0 : (QV Rows.fnLiveEndRow.func Rows.fnLiveEndRow.spec).wf (OpenSpec.ofChange Rows.fnLiveEndSpec) = true := by kernel_rfl
theorem z1 : ((QV Rows.fnLiveEndRow.func Rows.fnLiveEndRow.spec).inPlace == Tryz.prog.inPlace 17) = true := by kernel_rfl
theorem z2 : ((QV Rows.fnLiveEndRow.func Rows.fnLiveEndRow.spec).unfollowed == Tryz.prog.unfollowed 17) = true := by kernel_rfl
theorem z3 : ((QV Rows.fnLiveEndRow.func Rows.fnLiveEndRow.spec).recurses == Tryz.prog.recurses 17) = true := by kernel_rfl
theorem z4 : ((QV Rows.fnLiveEndRow.func Rows.fnLiveEndRow.spec).named == Tryz.prog.varsNamed 17) = true := by kernel_rfl
theorem z6 : ((QV Rows.fnLiveEndRow.func Rows.fnLiveEndRow.spec).pinned == (QV Rows.fnLiveEndRow.func Rows.fnLiveEndRow.spec).pinnedBy) = true := by kernel_rfl
theorem z7 : (QV Rows.fnLiveEndRow.func Rows.fnLiveEndRow.spec).veiledFits Tryz.prog Tryz.f17.params.toList (Tryz.f17.params.toList ++ [] ++ Tryz.f17.resultTypes.toList) = true := by kernel_rfl
theorem z8 : Tryz.prog.funcNamed Rows.fnLiveEndRow.func = some 17 := by kernel_rfl
theorem z9 : Tryz.f17.isInstance Tryz.prog Rows.fnLiveEndRow.origin Rows.fnLiveEndRow.targs := of_decide_eq_true (by kernel_rfl)
theorem z10 : Tryz.f17.isWrapper Tryz.prog Rows.fnLiveEndRow.wrapper Rows.fnLiveEndRow.mainSum := by unfold Func.isWrapper; first | (rw [if_pos (by decide +kernel)]; kernel_rfl) | (rw [if_neg (by decide +kernel)]; exact ⟨rfl, rfl⟩)
theorem closed : joinedFacts Tryz.prog 17 Tryz.f17 Rows.fnLiveEndSpec (QV Rows.fnLiveEndRow.func Rows.fnLiveEndRow.spec) = true :=
  qy (.inl Tryz.params17) rfl rfl z0 z1 z2 z3 z4 z6 z7
theorem walked : fG 17 := Z3v

set_option maxRecDepth 100000 in
theorem lifted (os : Os) (started : os.Started) (H : Type) (enc : TypeId × Value → H) :
    ReturnsInHanded {} Tryz.checked os 17 .any (Rows.fnLiveEndSpec.pre6 enc Tryz.prog Tryz.f17 Rows.fnLiveEndRow.domain false) (Rows.fnLiveEndSpec.post enc Tryz.prog Tryz.f17 false true false false) := by
  refine returnsInHanded_of_change_sized (C := Tryz.checked) Tryz.own started (by kernel_rfl) Tryz.func17
    (ChangeSpec.witness6 (enc := enc) (C := Tryz.checked) false ⟨#[], #[.slice none 0 0], []⟩ 8 (by kernel_rfl) (by kernel_rfl) (by kernel_rfl) (by kernel_rfl)) ?_
  intro W base args ds gs before hval hW _ hz _
  exact Z7K walked Tryz.params17 rfl rfl (fun _ => rfl) W args ds gs before hval hW hz

set_option maxRecDepth 100000 in
theorem fnLiveEnd_holds : Rows.FnLiveEndSaid :=
  OpenClaim.holds_of_wide 17 Tryz.f17 rfl rfl rfl rfl rfl rfl rfl ⟨rfl, rfl, rfl, rfl, rfl⟩ rfl rfl rfl rfl rfl z8 Tryz.func17 closed z9 z10
    (fun os started H enc _ => lifted os started H enc)

end Go.Proofs.YteedbaejpdjilaaGreat
