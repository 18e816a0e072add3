/- A block is live just if a way leads to it from the entry. The statement is proved as it was given: for every input that can be read. -/
import Derived.Test.YteedbaejpdjilaaGreatXEnd
import Derived.Test.YteedbaejpdjilaaGreatXWLive
set_option linter.all false
namespace Go.Proofs.YteedbaejpdjilaaGreat
open Go.ChangeShapes Go.WideShapes Go.RowKit

theorem z0 : (Tn Rows.fnLiveRow.func Rows.fnLiveRow.spec).wf (OpenSpec.ofChange Rows.fnLiveSpec) = true := by kernel_rfl
theorem z1 : ((Tn Rows.fnLiveRow.func Rows.fnLiveRow.spec).inPlace == Tryz.prog.inPlace 16) = true := by kernel_rfl
theorem z2 : ((Tn Rows.fnLiveRow.func Rows.fnLiveRow.spec).unfollowed == Tryz.prog.unfollowed 16) = true := by kernel_rfl
theorem z3 : ((Tn Rows.fnLiveRow.func Rows.fnLiveRow.spec).recurses == Tryz.prog.recurses 16) = true := by kernel_rfl
theorem z4 : ((Tn Rows.fnLiveRow.func Rows.fnLiveRow.spec).named == Tryz.prog.varsNamed 16) = true := by kernel_rfl
theorem z6 : ((Tn Rows.fnLiveRow.func Rows.fnLiveRow.spec).pinned == (Tn Rows.fnLiveRow.func Rows.fnLiveRow.spec).pinnedBy) = true := by kernel_rfl
theorem z7 : (Tn Rows.fnLiveRow.func Rows.fnLiveRow.spec).veiledFits Tryz.prog Tryz.f16.params.toList (Tryz.f16.params.toList ++ [] ++ Tryz.f16.resultTypes.toList) = true := by kernel_rfl
theorem z8 : Tryz.prog.funcNamed Rows.fnLiveRow.func = some 16 := by kernel_rfl
theorem z9 : Tryz.f16.isInstance Tryz.prog Rows.fnLiveRow.origin Rows.fnLiveRow.targs := of_decide_eq_true (by kernel_rfl)
theorem z10 : Tryz.f16.isWrapper Tryz.prog Rows.fnLiveRow.wrapper Rows.fnLiveRow.mainSum := by unfold Func.isWrapper; first | (rw [if_pos (by decide +kernel)]; kernel_rfl) | (rw [if_neg (by decide +kernel)]; exact ⟨rfl, rfl⟩)
theorem closed : joinedFacts Tryz.prog 16 Tryz.f16 Rows.fnLiveSpec (Tn Rows.fnLiveRow.func Rows.fnLiveRow.spec) = true :=
  qy (.inl Tryz.params16) rfl rfl z0 z1 z2 z3 z4 z6 z7
theorem walked : jE 16 := walkLive

set_option maxRecDepth 100000 in
theorem lifted (os : Os) (started : os.Started) (H : Type) (enc : TypeId × Value → H) :
    ReturnsInHanded {} Tryz.checked os 16 .any (Rows.fnLiveSpec.pre6 enc Tryz.prog Tryz.f16 Rows.fnLiveRow.domain false) (Rows.fnLiveSpec.post enc Tryz.prog Tryz.f16 false true false false) := by
  refine returnsInHanded_of_change_sized (C := Tryz.checked) Tryz.own started (by kernel_rfl) Tryz.func16
    (ChangeSpec.witness6 (enc := enc) (C := Tryz.checked) false ⟨#[], #[.slice none 0 0], []⟩ 8 (by kernel_rfl) (by kernel_rfl) (by kernel_rfl) (by kernel_rfl)) ?_
  intro W base args ds gs before hval hW _ hz _
  exact jf walked Tryz.params16 rfl rfl (fun _ => rfl) W args ds gs before hval hW hz

set_option maxRecDepth 100000 in
theorem fnLive_holds : Rows.FnLiveSaid :=
  OpenClaim.holds_of_wide 16 Tryz.f16 rfl rfl rfl rfl rfl rfl rfl ⟨rfl, rfl, rfl, rfl, rfl⟩ rfl rfl rfl rfl rfl z8 Tryz.func16 closed z9 z10
    (fun os started H enc _ => lifted os started H enc)

end Go.Proofs.YteedbaejpdjilaaGreat
