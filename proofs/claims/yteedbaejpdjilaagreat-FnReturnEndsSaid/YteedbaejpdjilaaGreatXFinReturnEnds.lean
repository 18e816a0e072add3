/- A block has a return at its end just if its last node is one, it has no successor then, and no other node is one. The statement is proved as it was given: for every input that can be read. -/
import Derived.Test.YteedbaejpdjilaaGreatXEnd
import Derived.Test.YteedbaejpdjilaaGreatXWReturnEnds
set_option linter.all false
namespace Go.Proofs.YteedbaejpdjilaaGreat
open Go.ChangeShapes Go.WideShapes Go.RowKit

theorem z0 : (Tn Rows.fnReturnEndsRow.func Rows.fnReturnEndsRow.spec).wf (OpenSpec.ofChange Rows.fnReturnEndsSpec) = true := by kernel_rfl
theorem z1 : ((Tn Rows.fnReturnEndsRow.func Rows.fnReturnEndsRow.spec).inPlace == Tryz.prog.inPlace 22) = true := by kernel_rfl
theorem z2 : ((Tn Rows.fnReturnEndsRow.func Rows.fnReturnEndsRow.spec).unfollowed == Tryz.prog.unfollowed 22) = true := by kernel_rfl
theorem z3 : ((Tn Rows.fnReturnEndsRow.func Rows.fnReturnEndsRow.spec).recurses == Tryz.prog.recurses 22) = true := by kernel_rfl
theorem z4 : ((Tn Rows.fnReturnEndsRow.func Rows.fnReturnEndsRow.spec).named == Tryz.prog.varsNamed 22) = true := by kernel_rfl
theorem z6 : ((Tn Rows.fnReturnEndsRow.func Rows.fnReturnEndsRow.spec).pinned == (Tn Rows.fnReturnEndsRow.func Rows.fnReturnEndsRow.spec).pinnedBy) = true := by kernel_rfl
theorem z7 : (Tn Rows.fnReturnEndsRow.func Rows.fnReturnEndsRow.spec).veiledFits Tryz.prog Tryz.f22.params.toList (Tryz.f22.params.toList ++ [] ++ Tryz.f22.resultTypes.toList) = true := by kernel_rfl
theorem z8 : Tryz.prog.funcNamed Rows.fnReturnEndsRow.func = some 22 := by kernel_rfl
theorem z9 : Tryz.f22.isInstance Tryz.prog Rows.fnReturnEndsRow.origin Rows.fnReturnEndsRow.targs := of_decide_eq_true (by kernel_rfl)
theorem z10 : Tryz.f22.isWrapper Tryz.prog Rows.fnReturnEndsRow.wrapper Rows.fnReturnEndsRow.mainSum := by unfold Func.isWrapper; first | (rw [if_pos (by decide +kernel)]; kernel_rfl) | (rw [if_neg (by decide +kernel)]; exact ⟨rfl, rfl⟩)
theorem closed : joinedFacts Tryz.prog 22 Tryz.f22 Rows.fnReturnEndsSpec (Tn Rows.fnReturnEndsRow.func Rows.fnReturnEndsRow.spec) = true :=
  qy (.inl Tryz.params22) rfl rfl z0 z1 z2 z3 z4 z6 z7
theorem walked : jE 22 := walkReturnEnds

set_option maxRecDepth 100000 in
theorem lifted (os : Os) (started : os.Started) (H : Type) (enc : TypeId × Value → H) :
    ReturnsInHanded {} Tryz.checked os 22 .any (Rows.fnReturnEndsSpec.pre6 enc Tryz.prog Tryz.f22 Rows.fnReturnEndsRow.domain false) (Rows.fnReturnEndsSpec.post enc Tryz.prog Tryz.f22 false true false false) := by
  refine returnsInHanded_of_change_sized (C := Tryz.checked) Tryz.own started (by kernel_rfl) Tryz.func22
    (ChangeSpec.witness6 (enc := enc) (C := Tryz.checked) false ⟨#[], #[.slice none 0 0], []⟩ 8 (by kernel_rfl) (by kernel_rfl) (by kernel_rfl) (by kernel_rfl)) ?_
  intro W base args ds gs before hval hW _ hz _
  exact jf walked Tryz.params22 rfl rfl (fun _ => rfl) W args ds gs before hval hW hz

set_option maxRecDepth 100000 in
theorem fnReturnEnds_holds : Rows.FnReturnEndsSaid :=
  OpenClaim.holds_of_wide 22 Tryz.f22 rfl rfl rfl rfl rfl rfl rfl ⟨rfl, rfl, rfl, rfl, rfl⟩ rfl rfl rfl rfl rfl z8 Tryz.func22 closed z9 z10
    (fun os started H enc _ => lifted os started H enc)

end Go.Proofs.YteedbaejpdjilaaGreat
