/- Part of the proof: BldQ. -/
import Derived.Test.YteedbaejpdjilaaGreatYPi
set_option linter.all false
set_option maxRecDepth 100000
set_option maxHeartbeats 40000000
namespace Go.Proofs.YteedbaejpdjilaaGreat
open Go.RowKit Tryz
attribute [local go_sem] PJ O5 PI O4 PH O2 PG O1 PF OZ PD OY PA OX RH RG Pz OW MJ RF RD UD MI OV Js MH MF OU ME OT MD OS MC OP MB OO MA OM Py OL Mz OJ OI UC Rz
variable {w:World} {B b b0:Nat} {A L:List Nat} {S S':BS} {tg:List Tg} {M:Mk}
abbrev NM:=Option (Nat × Nat × Nat × Nat)
def U6 (f:NM) (b:Nat) (u:Value):Array Value:=match f with
 |none=>NN b u
 |some (a,l,g,la)=>Vv b a l g la u
def D4 (f:NM):Value:=match f with
 |none=>.pointer none
 |some (_,l,_,_)=>.pointer (some ⟨l,0,none⟩)
theorem BX.cur (h:BX w B b b0 A L S tg M) {c:Nat} {k:Bk} (hc:S.cur=some c) (hk:S.Z6[c]? =some k):
  ∃ a nv sv p0 p1 bv mv tv,A[c]? =some a/\ZD w a [nv,.slice (some ⟨a,7,none⟩) k.succs.length 2,.int .i32 c,k.live,k.Yz,.int .u8 k.kind,sv,p0,p1] 99/\ZD w b [bv,.func (.func 67) #[b0] #[],.pointer (some ⟨a,0,none⟩),mv,tv] 136:=by
 obtain⟨NV,h⟩:=h;obtain⟨a,nv,bv,mv,tv,ha,V9,hbk,hb⟩:=h.Hc hc hk;obtain⟨a',sv,p0,p1,ns,g1,g2,_⟩:=hbk;rw[ha]at g1;cases g1;exact⟨a,nv,sv,p0,p1,bv,mv,tv,ha,g2,hb⟩
theorem BX.O9 (h:BX w B b b0 A L S tg M) (hs:S.UG=some S') {c a:Nat} (hc:S.cur=some c) (ha:A[c]? =some a):
  BX (w.setCell ⟨a,4,none⟩ (.bool true)) B b b0 A L S' tg M/\Fr bT B w (w.setCell ⟨a,4,none⟩ (.bool true)):=by
 obtain⟨NV,h⟩:=h;obtain⟨c',k,hc',hk,rfl⟩:=QP hs;rw[hc]at hc';cases hc';obtain⟨h1,f1⟩:=h.O9 hk ha;exact⟨⟨NV,h1⟩,f1⟩
theorem FQ {H:Hp} {a:Nat} {p:Int} {r:List Value} (h:H a (.int .i64 p::r) 142):X4 H (.iface 101 (.pointer (some ⟨a,0,none⟩))) (some p):=.inl ⟨a,101,142,r,rfl,by decide,h⟩
theorem D3 {H:Hp} {v:Value} {p:Int} (h:VH H v p):X4 H v (some p):=.inr (.inr (.inl h))
theorem OH {k:Int} {o:Option Int} (hs:S.newAt k o=some S'): ∃ S1,S.newP k o=some S1/\S'=S1.at S.Z6.length:=by
 unfold BS.newAt at hs;rw[ZX]at hs;obtain⟨S1,h1,rfl⟩:=hs;exact⟨S1,h1,rfl⟩
theorem FP {n:Nat} (hs:S.RN n=some S'):S.asked.length<=50000/\n<=100000/\S'=S.ask n:=by
 unfold BS.RN at hs;split at hs
 .next h=>exact⟨h.1,h.2,by simpa using hs.symm⟩
 .cases hs
theorem Ry (h:BX w B b b0 A L S tg M) {c n:Nat} (hc:Vb (Hv w 0) c (lp n)) (hs:S.RN n=some S') {s:Bool} (hst:M.stops[n]? =some s) (hl:M.asked.length<=1000):
  Calls prog 67 #[b0,c] w fun e w'=>e=.returned (.bool (!s))/\BX w' B b b0 A L S' tg M/\Fr bT B w w':=by
 obtain⟨NV,h⟩:=h;obtain⟨h1,h2,rfl⟩:=FP hs;refine(NJ h hc h2 hst (by simp;omega)).mono ?_;rintro e w' ⟨rfl,g1,g2⟩;exact⟨rfl,⟨NV,g1⟩,g2⟩
theorem Qq {f:NM} (h:BX w B b b0 A L S tg M) {u:Value} {p:Int} (hu:XI (Hv w 0) u p) (hs:S.Yk ⟨p,false⟩=some S') (Q:Exit->Act->World->Prop) (hQ: ∀ a w',a.defers= []->X8 w w' B b b0 A L S' tg M->Q .normal a w'):Code.wp prog Xq Q ⟨U6 f b u,[]⟩ w:=by
 have hu':=hu;obtain⟨a,l,x,r,rfl,_⟩:=hu;have HQ:=Z5 hQ;clear hQ;rcases f with _|⟨q1,q2,q3,q4⟩
 all_goals
  simp only[U6];first|unfold NN|unfold Vv
  conv=>arg 2;whnf
  go_wp2_with fail
  refine(XL h hs (.inr ⟨rfl,.inr (.inr (.inl hu'))⟩)).mono ?_;rintro e w1 ⟨rfl,h1,f1⟩;go_wp2_with fail
  exact HQ.out _ _ rfl (X8.of (ZB _) (ZB _) h1 f1)
theorem D2 {f:NM} (h:BX w B b b0 A L S tg M) {u:Value} {p:Int} (hu:JG (Hv w 0) u p) (hs:S.Yk ⟨p,false⟩=some S') (Q:Exit->Act->World->Prop) (hQ: ∀ a w',a.defers= []->X8 w w' B b b0 A L S' tg M->Q .normal a w'):Code.wp prog Xq Q ⟨U6 f b u,[]⟩ w:=by
 have hu':=hu;obtain⟨a,x,rfl,_⟩:=hu;have HQ:=Z5 hQ;clear hQ;rcases f with _|⟨q1,q2,q3,q4⟩
 all_goals
  simp only[U6];first|unfold NN|unfold Vv
  conv=>arg 2;whnf
  go_wp2_with fail
  refine(XL h hs (.inr ⟨rfl,.inr (.inr (.inr (.inl hu')))⟩)).mono ?_;rintro e w1 ⟨rfl,h1,f1⟩;go_wp2_with fail
  exact HQ.out _ _ rfl (X8.of (ZB _) (ZB _) h1 f1)
theorem FO {f:NM} (h:BX w B b b0 A L S tg M) {u:Value} {p:Int} (hu:Pm (Hv w 0) u p) (hs:S.Yk ⟨p,false⟩=some S') (Q:Exit->Act->World->Prop) (hQ: ∀ a w',a.defers= []->X8 w w' B b b0 A L S' tg M->Q .normal a w'):Code.wp prog Xq Q ⟨U6 f b u,[]⟩ w:=by
 have hu':=hu;obtain⟨a,x,y,rfl,_⟩:=hu;have HQ:=Z5 hQ;clear hQ;rcases f with _|⟨q1,q2,q3,q4⟩
 all_goals
  simp only[U6];first|unfold NN|unfold Vv
  conv=>arg 2;whnf
  go_wp2_with fail
  refine(XL h hs (.inr ⟨rfl,.inr (.inr (.inr (.inr (.inl hu'))))⟩)).mono ?_;rintro e w1 ⟨rfl,h1,f1⟩;go_wp2_with fail
  exact HQ.out _ _ rfl (X8.of (ZB _) (ZB _) h1 f1)
theorem Ad {f:NM} (h:BX w B b b0 A L S tg M) {u:Value} {p:Int} (hu:uS (Hv w 0) u p) (hs:S.Yk ⟨p,false⟩=some S') (Q:Exit->Act->World->Prop) (hQ: ∀ a w',a.defers= []->X8 w w' B b b0 A L S' tg M->Q .normal a w'):Code.wp prog Xq Q ⟨U6 f b u,[]⟩ w:=by
 have hu':=hu;obtain⟨a,c,rfl,_⟩:=hu;have HQ:=Z5 hQ;clear hQ;rcases f with _|⟨q1,q2,q3,q4⟩
 all_goals
  simp only[U6];first|unfold NN|unfold Vv
  conv=>arg 2;whnf
  go_wp2_with fail
  refine(XL h hs (.inr ⟨rfl,.inr (.inr (.inr (.inr (.inr (.inl hu')))))⟩)).mono ?_;rintro e w1 ⟨rfl,h1,f1⟩;go_wp2_with fail
  exact HQ.out _ _ rfl (X8.of (ZB _) (ZB _) h1 f1)
theorem Jq {f:NM} (h:BX w B b b0 A L S tg M) {u:Value} (hu:Sp (Hv w 0) u) (hs:S.Yk ⟨0,false⟩=some S') (Q:Exit->Act->World->Prop) (hQ: ∀ a w',a.defers= []->X8 w w' B b b0 A L S' tg M->Q .normal a w'):Code.wp prog Xq Q ⟨U6 f b u,[]⟩ w:=by
 have hu':=hu;obtain⟨a,rfl,_⟩:=hu;have HQ:=Z5 hQ;clear hQ;rcases f with _|⟨q1,q2,q3,q4⟩
 all_goals
  simp only[U6];first|unfold NN|unfold Vv
  conv=>arg 2;whnf
  go_wp2_with fail
  refine(XL h hs (.inr ⟨rfl,.inr (.inr (.inr (.inr (.inr (.inr (.inr (.inr (.inl ⟨hu',rfl⟩))))))))⟩)).mono ?_;rintro e w1 ⟨rfl,h1,f1⟩;go_wp2_with fail
  exact HQ.out _ _ rfl (X8.of (ZB _) (ZB _) h1 f1)
theorem Jp {f:NM} (h:BX w B b b0 A L S tg M) {u:Value} {p:Int} (hu:Sr (Hv w 0) u p) (hs:(S.Yk ⟨p,false⟩).bind BS.UG=some S') (Q:Exit->Act->World->Prop) (hQ: ∀ a w',a.defers= []->X8 w w' B b b0 A L S' tg M->Q .normal a w'):Code.wp prog Xq Q ⟨U6 f b u,[]⟩ w:=by
 have hu':=hu;obtain⟨a,c,rfl,_⟩:=hu;rw[Z8]at hs;obtain⟨S1,hs1,hs2⟩:=hs;have HQ:=Z5 hQ;clear hQ;rcases f with _|⟨q1,q2,q3,q4⟩
 all_goals
  simp only[U6];first|unfold NN|unfold Vv
  conv=>arg 2;whnf
  go_wp2_with fail
  refine(XL h hs1 (.inr ⟨rfl,.inr (.inr (.inr (.inr (.inr (.inr (.inl hu'))))))⟩)).mono ?_;rintro e w1 ⟨rfl,h1,f1⟩;obtain⟨c,k,hc,hk,_⟩:=QP hs2;obtain⟨ca,nv,sv,p0,p1,bv,mv,tv,hca,hcb,hbb⟩:=h1.cur hc hk;obtain⟨h2,f2⟩:=h1.O9 hs2 hc hca;have d2:=hbb.cell 2 rfl;have e4:=hcb.cell 4 rfl;have z4:=hcb.free 4;have Hx:=X7 hc hk hca;clear hc hk hca;go_wp2_with fail
  exact HQ.out _ _ rfl (X8.of (ZB _) (ZB _) h2 (f1.trans f2))
theorem Lq {f:NM} (h:BX w B b b0 A L S tg M) {u:Value} {p:Int} (hu:Wc (Hv w 0) u p) (hs:(S.UG.bind fun S=>(S.Yk ⟨p,true⟩).bind fun S=>S.newAt 1 (some p))=some S') (Q:Exit->Act->World->Prop) (hQ: ∀ a w',a.defers= []->X8 w w' B b b0 A L S' tg M->Q .normal a w'):Code.wp prog Xq Q ⟨U6 f b u,[]⟩ w:=by
 have hu':=hu;obtain⟨a,rfl,ha⟩:=hu;simp only[Z8]at hs;obtain⟨S1,hs1,S2,hs2,hs3⟩:=hs;obtain⟨S3,hs4,rfl⟩:=OH hs3;obtain⟨c,k,hc,hk,_⟩:=QP hs1;obtain⟨ca,nv,sv,p0,p1,bv,mv,tv,hca,hcb,hbb⟩:=h.cur hc hk;obtain⟨h1,f1⟩:=h.O9 hs1 hc hca;have d2:=hbb.cell 2 rfl;have e4:=hcb.cell 4 rfl;have z4:=hcb.free 4;have Hx:=X7 hc hk hca;clear hc hk hca;have HQ:=Z5 hQ;clear hQ;rcases f with _|⟨q1,q2,q3,q4⟩
 all_goals
  simp only[U6];first|unfold NN|unfold Vv
  conv=>arg 2;whnf
  go_wp2_with fail
  have hu1:Wc (Hv (w.setCell ⟨ca,4,none⟩ (.bool true)) 0) _ p:=hu'.mono (Hv.bT f1);refine(XL h1 hs2 (.inl ⟨rfl,hu1⟩)).mono ?_;rintro e w2 ⟨rfl,h2,f2⟩;have ha2:=Zt (f1.trans f2) ha;go_wp2_with fail
  refine(YH h2 hs4 (FQ ha2)).mono ?_;rintro e w3 ⟨a3,rfl,A3,hA3,hg3,h3,f3⟩;obtain⟨JP,JO,JN,JM,hbN,_,_⟩:=h3.blk;have cN:=hbN.cell 2 rfl;have zN:=hbN.free 2;have HN:=Zl hA3 hg3;clear hA3 hg3;go_wp2_with fail
  obtain⟨h4,f4⟩:=h3.setCur HN.out.2;exact HQ.out _ _ rfl (X8.of HN.out.1 (ZB _) h4 (f1.trans (f2.trans (f3.trans f4))))
theorem Jo {f:NM} (h:BX w B b b0 A L S tg M) {u:Value} (hu:XE (Hv w 0) u) (hs:S.Yk ⟨0,false⟩=some S') (Q:Exit->Act->World->Prop) (hQ: ∀ a w',a.defers= []->X8 w w' B b b0 A L S' tg M->Q .normal a w'):Code.wp prog Xq Q ⟨U6 f b u,[]⟩ w:=by
 have hu':=hu;obtain⟨a,x,rfl,ha,hx⟩:=hu;obtain⟨tx,px,hxe,hx1⟩: ∃ tx px,x=.iface tx px/\tx≠147:=by
  rcases hx with⟨c,y,rfl,_⟩ |⟨c,y,rfl,_⟩<;>exact⟨_,_,rfl,by decide⟩
 subst hxe;have HQ:=Z5 hQ;clear hQ;rcases f with _|⟨q1,q2,q3,q4⟩
 all_goals
  simp only[U6];first|unfold NN|unfold Vv
  conv=>arg 2;whnf
  go_wp2_with fail
  refine(XL h hs (.inr ⟨rfl,.inr (.inr (.inr (.inr (.inr (.inr (.inr (.inr (.inr (⟨hu',rfl⟩)))))))))⟩)).mono ?_;rintro e w1 ⟨rfl,h1,f1⟩;have ha1:=(Zt f1 ha).2.2.cell 0 rfl;have ht: ∀ w,(Instr.typeAssert (.iface tx px) 168 147 true).run prog w=.ok (.tuple #[.pointer none,false]) w:=fun w=>Py 168 tx px w hx1;go_wp2_with fail
  exact HQ.out _ _ rfl (X8.of (ZB _) (ZB _) h1 f1)
theorem FN {f:NM} (h:BX w B b b0 A L S tg M) {u:Value} {n:Nat} (hu:VH (Hv w 0) u (lp n)) (hst:M.stops[n]? =some false) (hl:M.asked.length<=1000) (hs:((S.Yk ⟨lp n,false⟩).bind fun S=>S.RN n)=some S') (Q:Exit->Act->World->Prop) (hQ: ∀ a w',a.defers= []->X8 w w' B b b0 A L S' tg M->Q .normal a w'):Code.wp prog Xq Q ⟨U6 f b u,[]⟩ w:=by
 have hu':=hu;obtain⟨a,c,rfl,ha,hc⟩:=hu;simp only[Z8]at hs;obtain⟨S1,hs1,hs2⟩:=hs;have ey:=Z5 hst;clear hst;have HQ:=Z5 hQ;clear hQ;rcases f with _|⟨q1,q2,q3,q4⟩
 all_goals
  simp only[U6];first|unfold NN|unfold Vv
  conv=>arg 2;whnf
  go_wp2_with fail
  refine(XL h hs1 (.inr ⟨rfl,.inr (.inl hu')⟩)).mono ?_;rintro e w1 ⟨rfl,h1,f1⟩;have ha1:=(Zt f1 ha).2.2.cell 0 rfl;have hc1:=hc.mono (Hv.bT f1);obtain⟨bv,cv,mv,tv,hb,_,_⟩:=h1.blk;have d1:=hb.cell 1 rfl;go_wp2_with fail
  refine(Ry h1 hc1 hs2 ey.out hl).mono ?_;rintro e w2 ⟨rfl,h2,f2⟩;go_wp2_with fail
  exact HQ.out _ _ rfl (X8.of (ZB _) (ZB _) h2 (f1.trans f2))
theorem FM {f:NM} (h:BX w B b b0 A L S tg M) {u:Value} {n:Nat} (hu:VH (Hv w 0) u (lp n)) (hst:M.stops[n]? =some true) (hl:M.asked.length<=1000) (hs:((S.Yk ⟨lp n,false⟩).bind fun S=>(S.RN n).bind fun S=>S.newAt 1 (some (lp n)))=some S') (Q:Exit->Act->World->Prop) (hQ: ∀ a w',a.defers= []->X8 w w' B b b0 A L S' tg M->Q .normal a w'):Code.wp prog Xq Q ⟨U6 f b u,[]⟩ w:=by
 have hu':=hu;obtain⟨a,c,rfl,ha,hc⟩:=hu;simp only[Z8]at hs;obtain⟨S1,hs1,S2,hs2,hs3⟩:=hs;obtain⟨S3,hs4,rfl⟩:=OH hs3;have ey:=Z5 hst;clear hst;have HQ:=Z5 hQ;clear hQ;rcases f with _|⟨q1,q2,q3,q4⟩
 all_goals
  simp only[U6];first|unfold NN|unfold Vv
  conv=>arg 2;whnf
  go_wp2_with fail
  refine(XL h hs1 (.inr ⟨rfl,.inr (.inl hu')⟩)).mono ?_;rintro e w1 ⟨rfl,h1,f1⟩;have ha1:=(Zt f1 ha).2.2.cell 0 rfl;have hc1:=hc.mono (Hv.bT f1);obtain⟨bv,cv,mv,tv,hb,_,_⟩:=h1.blk;have d1:=hb.cell 1 rfl;go_wp2_with fail
  refine(Ry h1 hc1 hs2 ey.out hl).mono ?_;rintro e w2 ⟨rfl,h2,f2⟩;have hu2:VH (Hv w2 0) _ (lp n):=(hu'.mono (Hv.bT f1)).mono (Hv.bT f2);go_wp2_with fail
  refine(YH h2 hs4 (D3 hu2)).mono ?_;rintro e w3 ⟨a3,rfl,A3,hA3,hg3,h3,f3⟩;obtain⟨JP,JO,JN,JM,hbN,_,_⟩:=h3.blk;have cN:=hbN.cell 2 rfl;have zN:=hbN.free 2;have HN:=Zl hA3 hg3;clear hA3 hg3;go_wp2_with fail
  obtain⟨h4,f4⟩:=h3.setCur HN.out.2;exact HQ.out _ _ rfl (X8.of HN.out.1 (ZB _) h4 (f1.trans (f2.trans (f3.trans f4))))
end Go.Proofs.YteedbaejpdjilaaGreat
