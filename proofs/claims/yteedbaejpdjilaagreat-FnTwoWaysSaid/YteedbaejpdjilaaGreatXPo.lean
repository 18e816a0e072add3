/- Part of the proof: BldY. -/
import Derived.Test.YteedbaejpdjilaaGreatXPm
set_option linter.all false
set_option maxRecDepth 100000
set_option maxHeartbeats 40000000
namespace Go.Proofs.YteedbaejpdjilaaGreat
open Go.RowKit
attribute [local go_sem] RI QF Rq QN Rz PV Rl Qo RN Qh Ri Qc RD Qn TW Uc RP QG NG Ue Ux Vy NZ Qx Jy Oe Ny PU Oa Qk NY Qs Oh Qm Oo Qq N7 QI RU QO Ox PS QY Vu Ub
variable {w:World} {B b b0:Nat} {A L:List Nat} {S S':BS} {tg:List Tg} {M:Mk}
def vG (w:World) (B b b0:Nat) (A L:List Nat) (S S':BS) (tg:List Tg) (M:Mk) (ix:Value) (wr:World):Prop:=(ix=.int .i64 0∧wr=w)∨(ix=.int .i64 1∧BX wr B b b0 A L S' tg M∧Fr bT B w wr)
theorem XM {f:PL} {u:Value} {a:Nat} (hu:u=.iface 194 (.pointer (some ⟨a,0,none⟩)))
  (hc:Calls Tryz.prog 100 #[b,.pointer (some ⟨a,0,none⟩)] w fun e w'=>e=.returned (.tuple #[])∧YX w w' B b b0 A L S' tg M) (Q:Exit->Act->World->Prop) (hQ: ∀ a w',a.defers= []->YX w w' B b b0 A L S' tg M->Q .normal a w'):Code.wp Tryz.prog Yo Q ⟨VW f b u,[]⟩ w:=by
 subst hu;have HQ:=Z9 hQ;clear hQ;rcases f with _|⟨q1,q2,q3,q4⟩
 all_goals
  simp only[VW];have HC:=Z9 hc;clear hc;first|unfold PO|unfold WI
  conv=>arg 2;whnf
  go_wp2_with fail
  refine HC.out.mono ?_;rintro e w1 ⟨rfl,h1⟩;go_wp2_with fail
  exact HQ.out _ _ rfl h1
theorem JO {f:PL} {u:Value} {a:Nat} (hu:u=.iface 201 (.pointer (some ⟨a,0,none⟩)))
  (hc:Calls Tryz.prog 103 #[b,.pointer (some ⟨a,0,none⟩),Et f] w fun e w'=>e=.returned (.tuple #[])∧YX w w' B b b0 A L S' tg M) (Q:Exit->Act->World->Prop) (hQ: ∀ a w',a.defers= []->YX w w' B b b0 A L S' tg M->Q .normal a w'):Code.wp Tryz.prog Yo Q ⟨VW f b u,[]⟩ w:=by
 subst hu;have HQ:=Z9 hQ;clear hQ;rcases f with _|⟨q1,q2,q3,q4⟩
 all_goals
  simp only[VW,Et]at hc ⊢;have HC:=Z9 hc;clear hc;first|unfold PO|unfold WI
  conv=>arg 2;whnf
  go_wp2_with fail
  refine HC.out.mono ?_;rintro e w1 ⟨rfl,h1⟩;go_wp2_with fail
  exact HQ.out _ _ rfl h1
theorem Jq {f:PL} {u:Value} {a:Nat} (hu:u=.iface 203 (.pointer (some ⟨a,0,none⟩)))
  (hc:Calls Tryz.prog 104 #[b,.pointer (some ⟨a,0,none⟩),Et f] w fun e w'=>e=.returned (.tuple #[])∧YX w w' B b b0 A L S' tg M) (Q:Exit->Act->World->Prop) (hQ: ∀ a w',a.defers= []->YX w w' B b b0 A L S' tg M->Q .normal a w'):Code.wp Tryz.prog Yo Q ⟨VW f b u,[]⟩ w:=by
 subst hu;have HQ:=Z9 hQ;clear hQ;rcases f with _|⟨q1,q2,q3,q4⟩
 all_goals
  simp only[VW,Et]at hc ⊢;have HC:=Z9 hc;clear hc;first|unfold PO|unfold WI
  conv=>arg 2;whnf
  go_wp2_with fail
  refine HC.out.mono ?_;rintro e w1 ⟨rfl,h1⟩;go_wp2_with fail
  exact HQ.out _ _ rfl h1
theorem Ko {f:PL} {u:Value} {a:Nat} (hu:u=.iface 205 (.pointer (some ⟨a,0,none⟩)))
  (hc:Calls Tryz.prog 105 #[b,.pointer (some ⟨a,0,none⟩),Et f] w fun e w'=>e=.returned (.tuple #[])∧YX w w' B b b0 A L S' tg M) (Q:Exit->Act->World->Prop) (hQ: ∀ a w',a.defers= []->YX w w' B b b0 A L S' tg M->Q .normal a w'):Code.wp Tryz.prog Yo Q ⟨VW f b u,[]⟩ w:=by
 subst hu;have HQ:=Z9 hQ;clear hQ;rcases f with _|⟨q1,q2,q3,q4⟩
 all_goals
  simp only[VW,Et]at hc ⊢;have HC:=Z9 hc;clear hc;first|unfold PO|unfold WI
  conv=>arg 2;whnf
  go_wp2_with fail
  refine HC.out.mono ?_;rintro e w1 ⟨rfl,h1⟩;go_wp2_with fail
  exact HQ.out _ _ rfl h1
theorem KN {f:PL} {u:Value} {a:Nat} (hu:u=.iface 207 (.pointer (some ⟨a,0,none⟩)))
  (hc:Calls Tryz.prog 106 #[b,.pointer (some ⟨a,0,none⟩),Et f] w fun e w'=>e=.returned (.tuple #[])∧YX w w' B b b0 A L S' tg M) (Q:Exit->Act->World->Prop) (hQ: ∀ a w',a.defers= []->YX w w' B b b0 A L S' tg M->Q .normal a w'):Code.wp Tryz.prog Yo Q ⟨VW f b u,[]⟩ w:=by
 subst hu;have HQ:=Z9 hQ;clear hQ;rcases f with _|⟨q1,q2,q3,q4⟩
 all_goals
  simp only[VW,Et]at hc ⊢;have HC:=Z9 hc;clear hc;first|unfold PO|unfold WI
  conv=>arg 2;whnf
  go_wp2_with fail
  refine HC.out.mono ?_;rintro e w1 ⟨rfl,h1⟩;go_wp2_with fail
  exact HQ.out _ _ rfl h1
theorem J5 {f:PL} {u:Value} {a:Nat} (hu:u=.iface 209 (.pointer (some ⟨a,0,none⟩)))
  (hc:Calls Tryz.prog 107 #[b,.pointer (some ⟨a,0,none⟩),Et f] w fun e w'=>e=.returned (.tuple #[])∧YX w w' B b b0 A L S' tg M) (Q:Exit->Act->World->Prop) (hQ: ∀ a w',a.defers= []->YX w w' B b b0 A L S' tg M->Q .normal a w'):Code.wp Tryz.prog Yo Q ⟨VW f b u,[]⟩ w:=by
 subst hu;have HQ:=Z9 hQ;clear hQ;rcases f with _|⟨q1,q2,q3,q4⟩
 all_goals
  simp only[VW,Et]at hc ⊢;have HC:=Z9 hc;clear hc;first|unfold PO|unfold WI
  conv=>arg 2;whnf
  go_wp2_with fail
  refine HC.out.mono ?_;rintro e w1 ⟨rfl,h1⟩;go_wp2_with fail
  exact HQ.out _ _ rfl h1
theorem FI {f:PL} (h:BX w B b b0 A L S tg M) {u:Value} {p:Int} (hu:Il (Hv w 0) u p) (hs:S.Zc ⟨p,false⟩=some S') (Q:Exit->Act->World->Prop) (hQ: ∀ a w',a.defers= []->YX w w' B b b0 A L S' tg M->Q .normal a w'):Code.wp Tryz.prog Yo Q ⟨VW f b u,[]⟩ w:=by
 obtain⟨a,g,l,x,rfl,h1,h2,h3,hx⟩:=hu;have hx':=hx;obtain⟨sa,sl,sd,sr,rfl,_⟩:=hx;have HQ:=Z9 hQ;clear hQ;have c1:=h1.2.2.cell 0 rfl;have c2:=h2.2.2.cell 2 rfl;have c3:=h2.2.2.cell 4 rfl;have c4:=h3.2.2.cell 0 rfl;have Hs:=Z9 hs;clear hs;rcases f with _|⟨q1,q2,q3,q4⟩
 all_goals
  simp only[VW];first|unfold PO|unfold WI
  conv=>arg 2;whnf
  go_wp2_with fail
  go_loopw [121] (fun ix wr=>vG w B b b0 A L S S' tg M ix wr) (fun ix _=>1 -(intOf ix).toNat)
  case atStart=>exact .inl ⟨rfl,rfl⟩
  case round=>
   rcases hrel with⟨rfl,rfl⟩ |⟨rfl,h5,f5⟩
   ·go_wp2_with fail
    refine(YI h Hs.out (.inr ⟨rfl,.inr (.inr (.inr (.inr (.inr (.inr (.inr (.inl hx')))))))⟩)).mono ?_;rintro e w1 ⟨rfl,h1,f1⟩;have hR:vG wr B b b0 A L S S' tg M (.int .i64 1) w1:=.inr ⟨rfl,h1,f1⟩;have HR:=Z9 hR;clear hR;go_wp2_with fail
    exact⟨HR.out,by simp[intOf]⟩
   ·go_wp2_with fail
    exact HQ.out _ _ rfl (YX.of (ZT _) (ZT _) h5 f5)
end Go.Proofs.YteedbaejpdjilaaGreat
