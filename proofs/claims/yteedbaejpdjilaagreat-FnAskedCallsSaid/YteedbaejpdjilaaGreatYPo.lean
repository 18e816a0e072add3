/- Part of the proof: BldY. -/
import Derived.Test.YteedbaejpdjilaaGreatYPm
set_option linter.all false
set_option maxRecDepth 100000
set_option maxHeartbeats 40000000
namespace Go.Proofs.YteedbaejpdjilaaGreat
open Go.RowKit Tryz
attribute [local go_sem] PJ O5 PI O4 PH O2 PG O1 PF OZ PD OY PA OX RH RG Pz OW MJ RF RD UD MI OV Js MH MF OU ME OT MD OS MC OP MB OO MA OM Py OL Mz OJ OI UC Rz
variable {w:World} {B b b0:Nat} {A L:List Nat} {S S':BS} {tg:List Tg} {M:Mk}
def wI (w:World) (B b b0:Nat) (A L:List Nat) (S S':BS) (tg:List Tg) (M:Mk) (ix:Value) (wr:World):Prop:=(ix=.int .i64 0/\wr=w)\/(ix=.int .i64 1/\BX wr B b b0 A L S' tg M/\Fr bT B w wr)
theorem WJ {f:NM} {u:Value} {a:Nat} (hu:u=.iface 194 (.pointer (some ⟨a,0,none⟩)))
  (hc:Calls prog 100 #[b,.pointer (some ⟨a,0,none⟩)] w fun e w'=>e=.returned (.tuple #[])/\X8 w w' B b b0 A L S' tg M) (Q:Exit->Act->World->Prop) (hQ: ∀ a w',a.defers= []->X8 w w' B b b0 A L S' tg M->Q .normal a w'):Code.wp prog Xq Q ⟨U6 f b u,[]⟩ w:=by
 subst hu;have HQ:=Z5 hQ;clear hQ;rcases f with _|⟨q1,q2,q3,q4⟩
 all_goals
  simp only[U6];have HC:=Z5 hc;clear hc;first|unfold NN|unfold Vv
  conv=>arg 2;whnf
  go_wp2_with fail
  refine HC.out.mono ?_;rintro e w1 ⟨rfl,h1⟩;go_wp2_with fail
  exact HQ.out _ _ rfl h1
theorem Jh {f:NM} {u:Value} {a:Nat} (hu:u=.iface 201 (.pointer (some ⟨a,0,none⟩)))
  (hc:Calls prog 103 #[b,.pointer (some ⟨a,0,none⟩),D4 f] w fun e w'=>e=.returned (.tuple #[])/\X8 w w' B b b0 A L S' tg M) (Q:Exit->Act->World->Prop) (hQ: ∀ a w',a.defers= []->X8 w w' B b b0 A L S' tg M->Q .normal a w'):Code.wp prog Xq Q ⟨U6 f b u,[]⟩ w:=by
 subst hu;have HQ:=Z5 hQ;clear hQ;rcases f with _|⟨q1,q2,q3,q4⟩
 all_goals
  simp only[U6,D4]at hc ⊢;have HC:=Z5 hc;clear hc;first|unfold NN|unfold Vv
  conv=>arg 2;whnf
  go_wp2_with fail
  refine HC.out.mono ?_;rintro e w1 ⟨rfl,h1⟩;go_wp2_with fail
  exact HQ.out _ _ rfl h1
theorem Jg {f:NM} {u:Value} {a:Nat} (hu:u=.iface 203 (.pointer (some ⟨a,0,none⟩)))
  (hc:Calls prog 104 #[b,.pointer (some ⟨a,0,none⟩),D4 f] w fun e w'=>e=.returned (.tuple #[])/\X8 w w' B b b0 A L S' tg M) (Q:Exit->Act->World->Prop) (hQ: ∀ a w',a.defers= []->X8 w w' B b b0 A L S' tg M->Q .normal a w'):Code.wp prog Xq Q ⟨U6 f b u,[]⟩ w:=by
 subst hu;have HQ:=Z5 hQ;clear hQ;rcases f with _|⟨q1,q2,q3,q4⟩
 all_goals
  simp only[U6,D4]at hc ⊢;have HC:=Z5 hc;clear hc;first|unfold NN|unfold Vv
  conv=>arg 2;whnf
  go_wp2_with fail
  refine HC.out.mono ?_;rintro e w1 ⟨rfl,h1⟩;go_wp2_with fail
  exact HQ.out _ _ rfl h1
theorem Jf {f:NM} {u:Value} {a:Nat} (hu:u=.iface 205 (.pointer (some ⟨a,0,none⟩)))
  (hc:Calls prog 105 #[b,.pointer (some ⟨a,0,none⟩),D4 f] w fun e w'=>e=.returned (.tuple #[])/\X8 w w' B b b0 A L S' tg M) (Q:Exit->Act->World->Prop) (hQ: ∀ a w',a.defers= []->X8 w w' B b b0 A L S' tg M->Q .normal a w'):Code.wp prog Xq Q ⟨U6 f b u,[]⟩ w:=by
 subst hu;have HQ:=Z5 hQ;clear hQ;rcases f with _|⟨q1,q2,q3,q4⟩
 all_goals
  simp only[U6,D4]at hc ⊢;have HC:=Z5 hc;clear hc;first|unfold NN|unfold Vv
  conv=>arg 2;whnf
  go_wp2_with fail
  refine HC.out.mono ?_;rintro e w1 ⟨rfl,h1⟩;go_wp2_with fail
  exact HQ.out _ _ rfl h1
theorem Je {f:NM} {u:Value} {a:Nat} (hu:u=.iface 207 (.pointer (some ⟨a,0,none⟩)))
  (hc:Calls prog 106 #[b,.pointer (some ⟨a,0,none⟩),D4 f] w fun e w'=>e=.returned (.tuple #[])/\X8 w w' B b b0 A L S' tg M) (Q:Exit->Act->World->Prop) (hQ: ∀ a w',a.defers= []->X8 w w' B b b0 A L S' tg M->Q .normal a w'):Code.wp prog Xq Q ⟨U6 f b u,[]⟩ w:=by
 subst hu;have HQ:=Z5 hQ;clear hQ;rcases f with _|⟨q1,q2,q3,q4⟩
 all_goals
  simp only[U6,D4]at hc ⊢;have HC:=Z5 hc;clear hc;first|unfold NN|unfold Vv
  conv=>arg 2;whnf
  go_wp2_with fail
  refine HC.out.mono ?_;rintro e w1 ⟨rfl,h1⟩;go_wp2_with fail
  exact HQ.out _ _ rfl h1
theorem Jd {f:NM} {u:Value} {a:Nat} (hu:u=.iface 209 (.pointer (some ⟨a,0,none⟩)))
  (hc:Calls prog 107 #[b,.pointer (some ⟨a,0,none⟩),D4 f] w fun e w'=>e=.returned (.tuple #[])/\X8 w w' B b b0 A L S' tg M) (Q:Exit->Act->World->Prop) (hQ: ∀ a w',a.defers= []->X8 w w' B b b0 A L S' tg M->Q .normal a w'):Code.wp prog Xq Q ⟨U6 f b u,[]⟩ w:=by
 subst hu;have HQ:=Z5 hQ;clear hQ;rcases f with _|⟨q1,q2,q3,q4⟩
 all_goals
  simp only[U6,D4]at hc ⊢;have HC:=Z5 hc;clear hc;first|unfold NN|unfold Vv
  conv=>arg 2;whnf
  go_wp2_with fail
  refine HC.out.mono ?_;rintro e w1 ⟨rfl,h1⟩;go_wp2_with fail
  exact HQ.out _ _ rfl h1
theorem DE {f:NM} (h:BX w B b b0 A L S tg M) {u:Value} {p:Int} (hu:F5 (Hv w 0) u p) (hs:S.Yk ⟨p,false⟩=some S') (Q:Exit->Act->World->Prop) (hQ: ∀ a w',a.defers= []->X8 w w' B b b0 A L S' tg M->Q .normal a w'):Code.wp prog Xq Q ⟨U6 f b u,[]⟩ w:=by
 obtain⟨a,g,l,x,rfl,h1,h2,h3,hx⟩:=hu;have hx':=hx;obtain⟨sa,sl,sd,sr,rfl,_⟩:=hx;have HQ:=Z5 hQ;clear hQ;have c1:=h1.2.2.cell 0 rfl;have c2:=h2.2.2.cell 2 rfl;have c3:=h2.2.2.cell 4 rfl;have c4:=h3.2.2.cell 0 rfl;have Hs:=Z5 hs;clear hs;rcases f with _|⟨q1,q2,q3,q4⟩
 all_goals
  simp only[U6];first|unfold NN|unfold Vv
  conv=>arg 2;whnf
  go_wp2_with fail
  go_loopw [121] (fun ix wr=>wI w B b b0 A L S S' tg M ix wr) (fun ix _=>1 -(intOf ix).toNat)
  case atStart=>exact .inl ⟨rfl,rfl⟩
  case round=>
   rcases hrel with⟨rfl,rfl⟩ |⟨rfl,h5,f5⟩
   .go_wp2_with fail
    refine(XL h Hs.out (.inr ⟨rfl,.inr (.inr (.inr (.inr (.inr (.inr (.inr (.inl hx')))))))⟩)).mono ?_;rintro e w1 ⟨rfl,h1,f1⟩;have hR:wI wr B b b0 A L S S' tg M (.int .i64 1) w1:=.inr ⟨rfl,h1,f1⟩;have HR:=Z5 hR;clear hR;go_wp2_with fail
    exact⟨HR.out,by simp[intOf]⟩
   .go_wp2_with fail
    exact HQ.out _ _ rfl (X8.of (ZB _) (ZB _) h5 f5)
end Go.Proofs.YteedbaejpdjilaaGreat
