/- Part of the proof: BldY. -/
import Derived.Test.YteedbaejpdjilaaGreatPm
set_option linter.unusedSimpArgs false
set_option linter.unusedVariables false
set_option maxRecDepth 100000
set_option maxHeartbeats 40000000
namespace Go.Proofs.YteedbaejpdjilaaGreat
open Go.RowKit
attribute [local go_sem] tano158 tayes158 tano159 tayes159 tano160 tayes160 tano161 tayes161 tano162 tayes162 tano163 tayes163 tano164 tayes164 tano165 tayes165 tano171 tayes171 tano186 tayes186 tano101 tayes101 tano194 tayes194 tano86 tayes86 tano197 tayes197 tano201 tayes201 tano203 tayes203 tano205 tayes205 tano207 tayes207 tano209 tayes209 tano147 tayes147 tano184 tayes184 taget172 taget227 taget237
variable {w:World} {B b b0:Nat} {A L:List Nat} {S S':BS} {tg:List Tg} {M:Mk}
def VrRel (w:World) (B b b0:Nat) (A L:List Nat) (S S':BS) (tg:List Tg) (M:Mk) (ix:Value) (wr:World):Prop:=(ix=.int .i64 0∧wr=w)∨(ix=.int .i64 1∧BX wr B b b0 A L S' tg M∧Fr bT B w wr)
theorem core_to100 {f:Fro} {u:Value} {a:Nat} (hu:u=.iface 194 (.pointer (some ⟨a,0,none⟩)))
  (hc:Calls Tryz.prog 100 #[b,.pointer (some ⟨a,0,none⟩)] w fun e w'=>e=.returned (.tuple #[])∧Aft w w' B b b0 A L S' tg M) (Q:Exit->Act->World->Prop) (hQ: ∀ a w',a.defers= []->Aft w w' B b b0 A L S' tg M->Q .normal a w'):Code.wp Tryz.prog restC Q ⟨frM f b u,[]⟩ w:=by
 subst hu;have HQ:=hidf hQ;clear hQ;rcases f with _|⟨q1,q2,q3,q4⟩
 all_goals
  simp only[frM];have HC:=hidf hc;clear hc;first|unfold fr0|unfold fr1
  conv=>arg 2;whnf
  go_wp2_with fail
  refine HC.out.mono ?_;rintro e w1 ⟨rfl,h1⟩;go_wp2_with fail
  exact HQ.out _ _ rfl h1
theorem core_to103 {f:Fro} {u:Value} {a:Nat} (hu:u=.iface 201 (.pointer (some ⟨a,0,none⟩)))
  (hc:Calls Tryz.prog 103 #[b,.pointer (some ⟨a,0,none⟩),frl f] w fun e w'=>e=.returned (.tuple #[])∧Aft w w' B b b0 A L S' tg M) (Q:Exit->Act->World->Prop) (hQ: ∀ a w',a.defers= []->Aft w w' B b b0 A L S' tg M->Q .normal a w'):Code.wp Tryz.prog restC Q ⟨frM f b u,[]⟩ w:=by
 subst hu;have HQ:=hidf hQ;clear hQ;rcases f with _|⟨q1,q2,q3,q4⟩
 all_goals
  simp only[frM,frl]at hc ⊢;have HC:=hidf hc;clear hc;first|unfold fr0|unfold fr1
  conv=>arg 2;whnf
  go_wp2_with fail
  refine HC.out.mono ?_;rintro e w1 ⟨rfl,h1⟩;go_wp2_with fail
  exact HQ.out _ _ rfl h1
theorem core_to104 {f:Fro} {u:Value} {a:Nat} (hu:u=.iface 203 (.pointer (some ⟨a,0,none⟩)))
  (hc:Calls Tryz.prog 104 #[b,.pointer (some ⟨a,0,none⟩),frl f] w fun e w'=>e=.returned (.tuple #[])∧Aft w w' B b b0 A L S' tg M) (Q:Exit->Act->World->Prop) (hQ: ∀ a w',a.defers= []->Aft w w' B b b0 A L S' tg M->Q .normal a w'):Code.wp Tryz.prog restC Q ⟨frM f b u,[]⟩ w:=by
 subst hu;have HQ:=hidf hQ;clear hQ;rcases f with _|⟨q1,q2,q3,q4⟩
 all_goals
  simp only[frM,frl]at hc ⊢;have HC:=hidf hc;clear hc;first|unfold fr0|unfold fr1
  conv=>arg 2;whnf
  go_wp2_with fail
  refine HC.out.mono ?_;rintro e w1 ⟨rfl,h1⟩;go_wp2_with fail
  exact HQ.out _ _ rfl h1
theorem core_to105 {f:Fro} {u:Value} {a:Nat} (hu:u=.iface 205 (.pointer (some ⟨a,0,none⟩)))
  (hc:Calls Tryz.prog 105 #[b,.pointer (some ⟨a,0,none⟩),frl f] w fun e w'=>e=.returned (.tuple #[])∧Aft w w' B b b0 A L S' tg M) (Q:Exit->Act->World->Prop) (hQ: ∀ a w',a.defers= []->Aft w w' B b b0 A L S' tg M->Q .normal a w'):Code.wp Tryz.prog restC Q ⟨frM f b u,[]⟩ w:=by
 subst hu;have HQ:=hidf hQ;clear hQ;rcases f with _|⟨q1,q2,q3,q4⟩
 all_goals
  simp only[frM,frl]at hc ⊢;have HC:=hidf hc;clear hc;first|unfold fr0|unfold fr1
  conv=>arg 2;whnf
  go_wp2_with fail
  refine HC.out.mono ?_;rintro e w1 ⟨rfl,h1⟩;go_wp2_with fail
  exact HQ.out _ _ rfl h1
theorem core_to106 {f:Fro} {u:Value} {a:Nat} (hu:u=.iface 207 (.pointer (some ⟨a,0,none⟩)))
  (hc:Calls Tryz.prog 106 #[b,.pointer (some ⟨a,0,none⟩),frl f] w fun e w'=>e=.returned (.tuple #[])∧Aft w w' B b b0 A L S' tg M) (Q:Exit->Act->World->Prop) (hQ: ∀ a w',a.defers= []->Aft w w' B b b0 A L S' tg M->Q .normal a w'):Code.wp Tryz.prog restC Q ⟨frM f b u,[]⟩ w:=by
 subst hu;have HQ:=hidf hQ;clear hQ;rcases f with _|⟨q1,q2,q3,q4⟩
 all_goals
  simp only[frM,frl]at hc ⊢;have HC:=hidf hc;clear hc;first|unfold fr0|unfold fr1
  conv=>arg 2;whnf
  go_wp2_with fail
  refine HC.out.mono ?_;rintro e w1 ⟨rfl,h1⟩;go_wp2_with fail
  exact HQ.out _ _ rfl h1
theorem core_to107 {f:Fro} {u:Value} {a:Nat} (hu:u=.iface 209 (.pointer (some ⟨a,0,none⟩)))
  (hc:Calls Tryz.prog 107 #[b,.pointer (some ⟨a,0,none⟩),frl f] w fun e w'=>e=.returned (.tuple #[])∧Aft w w' B b b0 A L S' tg M) (Q:Exit->Act->World->Prop) (hQ: ∀ a w',a.defers= []->Aft w w' B b b0 A L S' tg M->Q .normal a w'):Code.wp Tryz.prog restC Q ⟨frM f b u,[]⟩ w:=by
 subst hu;have HQ:=hidf hQ;clear hQ;rcases f with _|⟨q1,q2,q3,q4⟩
 all_goals
  simp only[frM,frl]at hc ⊢;have HC:=hidf hc;clear hc;first|unfold fr0|unfold fr1
  conv=>arg 2;whnf
  go_wp2_with fail
  refine HC.out.mono ?_;rintro e w1 ⟨rfl,h1⟩;go_wp2_with fail
  exact HQ.out _ _ rfl h1
theorem core_var {f:Fro} (h:BX w B b b0 A L S tg M) {u:Value} {p:Int} (hu:VarS (Hv w 0) u p) (hs:S.addP ⟨p,false⟩=some S') (Q:Exit->Act->World->Prop) (hQ: ∀ a w',a.defers= []->Aft w w' B b b0 A L S' tg M->Q .normal a w'):Code.wp Tryz.prog restC Q ⟨frM f b u,[]⟩ w:=by
 obtain⟨a,g,l,x,rfl,h1,h2,h3,hx⟩:=hu;have hx':=hx;obtain⟨sa,sl,sd,sr,rfl,_⟩:=hx;have HQ:=hidf hQ;clear hQ;have c1:=h1.2.2.cell 0 rfl;have c2:=h2.2.2.cell 2 rfl;have c3:=h2.2.2.cell 4 rfl;have c4:=h3.2.2.cell 0 rfl;have Hs:=hidf hs;clear hs;rcases f with _|⟨q1,q2,q3,q4⟩
 all_goals
  simp only[frM];first|unfold fr0|unfold fr1
  conv=>arg 2;whnf
  go_wp2_with fail
  go_loopw [121] (fun ix wr=>VrRel w B b b0 A L S S' tg M ix wr) (fun ix _=>1 -(intOf ix).toNat)
  case atStart=>exact .inl ⟨rfl,rfl⟩
  case round=>
   rcases hrel with⟨rfl,rfl⟩ |⟨rfl,h5,f5⟩
   ·go_wp2_with fail
    refine(add_st h Hs.out (.inr ⟨rfl,.inr (.inr (.inr (.inr (.inr (.inr (.inr (.inl hx')))))))⟩)).mono ?_;rintro e w1 ⟨rfl,h1,f1⟩;have hR:VrRel wr B b b0 A L S S' tg M (.int .i64 1) w1:=.inr ⟨rfl,h1,f1⟩;have HR:=hidf hR;clear hR;go_wp2_with fail
    exact⟨HR.out,by simp[intOf]⟩
   ·go_wp2_with fail
    exact HQ.out _ _ rfl (Aft.of (pre_refl _) (pre_refl _) h5 f5)
end Go.Proofs.YteedbaejpdjilaaGreat
