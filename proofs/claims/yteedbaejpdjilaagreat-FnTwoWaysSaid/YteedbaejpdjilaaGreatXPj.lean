/- Part of the proof: BldQ. -/
import Derived.Test.YteedbaejpdjilaaGreatXPi
set_option linter.all false
set_option maxRecDepth 100000
set_option maxHeartbeats 40000000
namespace Go.Proofs.YteedbaejpdjilaaGreat
open Go.RowKit
attribute [local go_sem] RI QF Rq QN Rz PV Rl Qo RN Qh Ri Qc RD Qn TW Uc RP QG NG Ue Ux Vy NZ Qx Jy Oe Ny PU Oa Qk NY Qs Oh Qm Oo Qq N7 QI RU QO Ox PS QY Vu Ub
variable {w:World} {B b b0:Nat} {A L:List Nat} {S S':BS} {tg:List Tg} {M:Mk}
abbrev PL:=Option (Nat × Nat × Nat × Nat)
def VW (f:PL) (b:Nat) (u:Value):Array Value:=match f with
 |none=>PO b u
 |some (a,l,g,la)=>WI b a l g la u
def Et (f:PL):Value:=match f with
 |none=>.pointer none
 |some (_,l,_,_)=>.pointer (some ⟨l,0,none⟩)
theorem BX.cur (h:BX w B b b0 A L S tg M) {c:Nat} {k:Bk} (hc:S.cur=some c) (hk:S.bks[c]? =some k):
  ∃ a nv sv p0 p1 bv mv tv,A[c]? =some a∧ZV w a [nv,.slice (some ⟨a,7,none⟩) k.succs.length 2,.int .i32 c,k.live,k.Zn,.int .u8 k.kind,sv,p0,p1] 99∧ZV w b [bv,.func (.func 67) #[b0] #[],.pointer (some ⟨a,0,none⟩),mv,tv] 136:=by
 obtain⟨NV,h⟩:=h;obtain⟨a,nv,bv,mv,tv,ha,hnv,hbk,hb⟩:=h.IV hc hk;obtain⟨a',sv,p0,p1,ns,g1,g2,_⟩:=hbk;rw[ha]at g1;cases g1;exact⟨a,nv,sv,p0,p1,bv,mv,tv,ha,g2,hb⟩
theorem BX.QV (h:BX w B b b0 A L S tg M) (hs:S.Vl=some S') {c a:Nat} (hc:S.cur=some c) (ha:A[c]? =some a):
  BX (w.setCell ⟨a,4,none⟩ (.bool true)) B b b0 A L S' tg M∧Fr bT B w (w.setCell ⟨a,4,none⟩ (.bool true)):=by
 obtain⟨NV,h⟩:=h;obtain⟨c',k,hc',hk,rfl⟩:=Tz hs;rw[hc]at hc';cases hc';obtain⟨h1,f1⟩:=h.QV hk ha;exact⟨⟨NV,h1⟩,f1⟩
theorem FZ {H:Hp} {a:Nat} {p:Int} {r:List Value} (h:H a (.int .i64 p::r) 142):YR H (.iface 101 (.pointer (some ⟨a,0,none⟩))) (some p):=.inl ⟨a,101,142,r,rfl,by decide,h⟩
theorem ET {H:Hp} {v:Value} {p:Int} (h:WQ H v p):YR H v (some p):=.inr (.inr (.inl h))
theorem nT {n:WW} (hs:S.Zc n=some S'):S'.cur=S.cur:=by
 obtain⟨c,k,_,_,_,rfl⟩:=OG hs;rfl
theorem Qa {k:Int} {o:Option Int} (hs:S.newAt k o=some S'): ∃ S1,S.newP k o=some S1∧S'=S1.at S.bks.length:=by
 unfold BS.newAt at hs;rw[Option.map_eq_some_iff]at hs;obtain⟨S1,h1,rfl⟩:=hs;exact⟨S1,h1,rfl⟩
theorem Ia {n:Nat} (hs:S.Uo n=some S'):S.asked.length<=50000∧n<=100000∧S'=S.ask n:=by
 unfold BS.Uo at hs;split at hs
 ·next h=>exact⟨h.1,h.2,by simpa using hs.symm⟩
 ·cases hs
theorem Us (h:BX w B b b0 A L S tg M) {c n:Nat} (hc:VX (Hv w 0) c (lp n)) (hs:S.Uo n=some S') {s:Bool} (hst:M.stops[n]? =some s) (hl:M.asked.length<=1000):
  Calls Tryz.prog 67 #[b0,c] w fun e w'=>e=.returned (.bool (!s))∧BX w' B b b0 A L S' tg M∧Fr bT B w w':=by
 obtain⟨NV,h⟩:=h;obtain⟨h1,h2,rfl⟩:=Ia hs;refine(Pm h hc h2 hst (by simp;omega)).mono ?_;rintro e w' ⟨rfl,g1,g2⟩;exact⟨rfl,⟨NV,g1⟩,g2⟩
theorem SQ {f:PL} (h:BX w B b b0 A L S tg M) {u:Value} {p:Int} (hu:YG (Hv w 0) u p) (hs:S.Zc ⟨p,false⟩=some S') (Q:Exit->Act->World->Prop) (hQ: ∀ a w',a.defers= []->YX w w' B b b0 A L S' tg M->Q .normal a w'):Code.wp Tryz.prog Yo Q ⟨VW f b u,[]⟩ w:=by
 have hu':=hu;obtain⟨a,l,x,r,rfl,_⟩:=hu;have HQ:=Z9 hQ;clear hQ;rcases f with _|⟨q1,q2,q3,q4⟩
 all_goals
  simp only[VW];first|unfold PO|unfold WI
  conv=>arg 2;whnf
  go_wp2_with fail
  refine(YI h hs (.inr ⟨rfl,.inr (.inr (.inl hu'))⟩)).mono ?_;rintro e w1 ⟨rfl,h1,f1⟩;go_wp2_with fail
  exact HQ.out _ _ rfl (YX.of (ZT _) (ZT _) h1 f1)
theorem Cc {f:PL} (h:BX w B b b0 A L S tg M) {u:Value} {p:Int} (hu:J6 (Hv w 0) u p) (hs:S.Zc ⟨p,false⟩=some S') (Q:Exit->Act->World->Prop) (hQ: ∀ a w',a.defers= []->YX w w' B b b0 A L S' tg M->Q .normal a w'):Code.wp Tryz.prog Yo Q ⟨VW f b u,[]⟩ w:=by
 have hu':=hu;obtain⟨a,x,rfl,_⟩:=hu;have HQ:=Z9 hQ;clear hQ;rcases f with _|⟨q1,q2,q3,q4⟩
 all_goals
  simp only[VW];first|unfold PO|unfold WI
  conv=>arg 2;whnf
  go_wp2_with fail
  refine(YI h hs (.inr ⟨rfl,.inr (.inr (.inr (.inl hu')))⟩)).mono ?_;rintro e w1 ⟨rfl,h1,f1⟩;go_wp2_with fail
  exact HQ.out _ _ rfl (YX.of (ZT _) (ZT _) h1 f1)
theorem FP {f:PL} (h:BX w B b b0 A L S tg M) {u:Value} {p:Int} (hu:Qv (Hv w 0) u p) (hs:S.Zc ⟨p,false⟩=some S') (Q:Exit->Act->World->Prop) (hQ: ∀ a w',a.defers= []->YX w w' B b b0 A L S' tg M->Q .normal a w'):Code.wp Tryz.prog Yo Q ⟨VW f b u,[]⟩ w:=by
 have hu':=hu;obtain⟨a,x,y,rfl,_⟩:=hu;have HQ:=Z9 hQ;clear hQ;rcases f with _|⟨q1,q2,q3,q4⟩
 all_goals
  simp only[VW];first|unfold PO|unfold WI
  conv=>arg 2;whnf
  go_wp2_with fail
  refine(YI h hs (.inr ⟨rfl,.inr (.inr (.inr (.inr (.inl hu'))))⟩)).mono ?_;rintro e w1 ⟨rfl,h1,f1⟩;go_wp2_with fail
  exact HQ.out _ _ rfl (YX.of (ZT _) (ZT _) h1 f1)
theorem Ag {f:PL} (h:BX w B b b0 A L S tg M) {u:Value} {p:Int} (hu:qU (Hv w 0) u p) (hs:S.Zc ⟨p,false⟩=some S') (Q:Exit->Act->World->Prop) (hQ: ∀ a w',a.defers= []->YX w w' B b b0 A L S' tg M->Q .normal a w'):Code.wp Tryz.prog Yo Q ⟨VW f b u,[]⟩ w:=by
 have hu':=hu;obtain⟨a,c,rfl,_⟩:=hu;have HQ:=Z9 hQ;clear hQ;rcases f with _|⟨q1,q2,q3,q4⟩
 all_goals
  simp only[VW];first|unfold PO|unfold WI
  conv=>arg 2;whnf
  go_wp2_with fail
  refine(YI h hs (.inr ⟨rfl,.inr (.inr (.inr (.inr (.inr (.inl hu')))))⟩)).mono ?_;rintro e w1 ⟨rfl,h1,f1⟩;go_wp2_with fail
  exact HQ.out _ _ rfl (YX.of (ZT _) (ZT _) h1 f1)
theorem JL {f:PL} (h:BX w B b b0 A L S tg M) {u:Value} (hu:Uz (Hv w 0) u) (hs:S.Zc ⟨0,false⟩=some S') (Q:Exit->Act->World->Prop) (hQ: ∀ a w',a.defers= []->YX w w' B b b0 A L S' tg M->Q .normal a w'):Code.wp Tryz.prog Yo Q ⟨VW f b u,[]⟩ w:=by
 have hu':=hu;obtain⟨a,rfl,_⟩:=hu;have HQ:=Z9 hQ;clear hQ;rcases f with _|⟨q1,q2,q3,q4⟩
 all_goals
  simp only[VW];first|unfold PO|unfold WI
  conv=>arg 2;whnf
  go_wp2_with fail
  refine(YI h hs (.inr ⟨rfl,.inr (.inr (.inr (.inr (.inr (.inr (.inr (.inr (.inl ⟨hu',rfl⟩))))))))⟩)).mono ?_;rintro e w1 ⟨rfl,h1,f1⟩;go_wp2_with fail
  exact HQ.out _ _ rfl (YX.of (ZT _) (ZT _) h1 f1)
theorem Kz {f:PL} (h:BX w B b b0 A L S tg M) {u:Value} {p:Int} (hu:UD (Hv w 0) u p) (hs:(S.Zc ⟨p,false⟩).bind BS.Vl=some S') (Q:Exit->Act->World->Prop) (hQ: ∀ a w',a.defers= []->YX w w' B b b0 A L S' tg M->Q .normal a w'):Code.wp Tryz.prog Yo Q ⟨VW f b u,[]⟩ w:=by
 have hu':=hu;obtain⟨a,c,rfl,_⟩:=hu;rw[Option.bind_eq_some_iff]at hs;obtain⟨S1,hs1,hs2⟩:=hs;have HQ:=Z9 hQ;clear hQ;rcases f with _|⟨q1,q2,q3,q4⟩
 all_goals
  simp only[VW];first|unfold PO|unfold WI
  conv=>arg 2;whnf
  go_wp2_with fail
  refine(YI h hs1 (.inr ⟨rfl,.inr (.inr (.inr (.inr (.inr (.inr (.inl hu'))))))⟩)).mono ?_;rintro e w1 ⟨rfl,h1,f1⟩;obtain⟨c,k,hc,hk,_⟩:=Tz hs2;obtain⟨ca,nv,sv,p0,p1,bv,mv,tv,hca,hcb,hbb⟩:=h1.cur hc hk;obtain⟨h2,f2⟩:=h1.QV hs2 hc hca;have d2:=hbb.cell 2 rfl;have e4:=hcb.cell 4 rfl;have z4:=hcb.free 4;have Hx:=Za hc hk hca;clear hc hk hca;go_wp2_with fail
  exact HQ.out _ _ rfl (YX.of (ZT _) (ZT _) h2 (f1.trans f2))
theorem MN {f:PL} (h:BX w B b b0 A L S tg M) {u:Value} {p:Int} (hu:Xh (Hv w 0) u p) (hs:(S.Vl.bind fun S=>(S.Zc ⟨p,true⟩).bind fun S=>S.newAt 1 (some p))=some S') (Q:Exit->Act->World->Prop) (hQ: ∀ a w',a.defers= []->YX w w' B b b0 A L S' tg M->Q .normal a w'):Code.wp Tryz.prog Yo Q ⟨VW f b u,[]⟩ w:=by
 have hu':=hu;obtain⟨a,rfl,ha⟩:=hu;simp only[Option.bind_eq_some_iff]at hs;obtain⟨S1,hs1,S2,hs2,hs3⟩:=hs;obtain⟨S3,hs4,rfl⟩:=Qa hs3;obtain⟨c,k,hc,hk,_⟩:=Tz hs1;obtain⟨ca,nv,sv,p0,p1,bv,mv,tv,hca,hcb,hbb⟩:=h.cur hc hk;obtain⟨h1,f1⟩:=h.QV hs1 hc hca;have d2:=hbb.cell 2 rfl;have e4:=hcb.cell 4 rfl;have z4:=hcb.free 4;have Hx:=Za hc hk hca;clear hc hk hca;have HQ:=Z9 hQ;clear hQ;rcases f with _|⟨q1,q2,q3,q4⟩
 all_goals
  simp only[VW];first|unfold PO|unfold WI
  conv=>arg 2;whnf
  go_wp2_with fail
  have hu1:Xh (Hv (w.setCell ⟨ca,4,none⟩ (.bool true)) 0) _ p:=hu'.mono (Hv.bT f1);refine(YI h1 hs2 (.inl ⟨rfl,hu1⟩)).mono ?_;rintro e w2 ⟨rfl,h2,f2⟩;have ha2:=ZO (f1.trans f2) ha;go_wp2_with fail
  refine(Zo h2 hs4 (FZ ha2)).mono ?_;rintro e w3 ⟨a3,rfl,A3,hA3,hg3,h3,f3⟩;obtain⟨bvN,cvN,mvN,tvN,hbN,_,_⟩:=h3.blk;have cN:=hbN.cell 2 rfl;have zN:=hbN.free 2;have HN:=ZL hA3 hg3;clear hA3 hg3;go_wp2_with fail
  obtain⟨h4,f4⟩:=h3.setCur HN.out.2;exact HQ.out _ _ rfl (YX.of HN.out.1 (ZT _) h4 (f1.trans (f2.trans (f3.trans f4))))
theorem JZ {f:PL} (h:BX w B b b0 A L S tg M) {u:Value} (hu:Yz (Hv w 0) u) (hs:S.Zc ⟨0,false⟩=some S') (Q:Exit->Act->World->Prop) (hQ: ∀ a w',a.defers= []->YX w w' B b b0 A L S' tg M->Q .normal a w'):Code.wp Tryz.prog Yo Q ⟨VW f b u,[]⟩ w:=by
 have hu':=hu;obtain⟨a,x,rfl,ha,hx⟩:=hu;obtain⟨tx,px,hxe,hx1⟩: ∃ tx px,x=.iface tx px∧tx≠147:=by
  rcases hx with⟨c,y,rfl,_⟩ |⟨c,y,rfl,_⟩<;>exact⟨_,_,rfl,by decide⟩
 subst hxe;have HQ:=Z9 hQ;clear hQ;rcases f with _|⟨q1,q2,q3,q4⟩
 all_goals
  simp only[VW];first|unfold PO|unfold WI
  conv=>arg 2;whnf
  go_wp2_with fail
  refine(YI h hs (.inr ⟨rfl,.inr (.inr (.inr (.inr (.inr (.inr (.inr (.inr (.inr (⟨hu',rfl⟩)))))))))⟩)).mono ?_;rintro e w1 ⟨rfl,h1,f1⟩;have ha1:=(ZO f1 ha).2.2.cell 0 rfl;have ht: ∀ w,(Instr.typeAssert (.iface tx px) 168 147 true).run Tryz.prog w=.ok (.tuple #[.pointer none,false]) w:=fun w=>RU 168 tx px w hx1;go_wp2_with fail
  exact HQ.out _ _ rfl (YX.of (ZT _) (ZT _) h1 f1)
theorem Ic {f:PL} (h:BX w B b b0 A L S tg M) {u:Value} {n:Nat} (hu:WQ (Hv w 0) u (lp n)) (hst:M.stops[n]? =some false) (hl:M.asked.length<=1000) (hs:((S.Zc ⟨lp n,false⟩).bind fun S=>S.Uo n)=some S') (Q:Exit->Act->World->Prop) (hQ: ∀ a w',a.defers= []->YX w w' B b b0 A L S' tg M->Q .normal a w'):Code.wp Tryz.prog Yo Q ⟨VW f b u,[]⟩ w:=by
 have hu':=hu;obtain⟨a,c,rfl,ha,hc⟩:=hu;simp only[Option.bind_eq_some_iff]at hs;obtain⟨S1,hs1,hs2⟩:=hs;have Hst:=Z9 hst;clear hst;have HQ:=Z9 hQ;clear hQ;rcases f with _|⟨q1,q2,q3,q4⟩
 all_goals
  simp only[VW];first|unfold PO|unfold WI
  conv=>arg 2;whnf
  go_wp2_with fail
  refine(YI h hs1 (.inr ⟨rfl,.inr (.inl hu')⟩)).mono ?_;rintro e w1 ⟨rfl,h1,f1⟩;have ha1:=(ZO f1 ha).2.2.cell 0 rfl;have hc1:=hc.mono (Hv.bT f1);obtain⟨bv,cv,mv,tv,hb,_,_⟩:=h1.blk;have d1:=hb.cell 1 rfl;go_wp2_with fail
  refine(Us h1 hc1 hs2 Hst.out hl).mono ?_;rintro e w2 ⟨rfl,h2,f2⟩;go_wp2_with fail
  exact HQ.out _ _ rfl (YX.of (ZT _) (ZT _) h2 (f1.trans f2))
theorem F5 {f:PL} (h:BX w B b b0 A L S tg M) {u:Value} {n:Nat} (hu:WQ (Hv w 0) u (lp n)) (hst:M.stops[n]? =some true) (hl:M.asked.length<=1000) (hs:((S.Zc ⟨lp n,false⟩).bind fun S=>(S.Uo n).bind fun S=>S.newAt 1 (some (lp n)))=some S') (Q:Exit->Act->World->Prop) (hQ: ∀ a w',a.defers= []->YX w w' B b b0 A L S' tg M->Q .normal a w'):Code.wp Tryz.prog Yo Q ⟨VW f b u,[]⟩ w:=by
 have hu':=hu;obtain⟨a,c,rfl,ha,hc⟩:=hu;simp only[Option.bind_eq_some_iff]at hs;obtain⟨S1,hs1,S2,hs2,hs3⟩:=hs;obtain⟨S3,hs4,rfl⟩:=Qa hs3;have Hst:=Z9 hst;clear hst;have HQ:=Z9 hQ;clear hQ;rcases f with _|⟨q1,q2,q3,q4⟩
 all_goals
  simp only[VW];first|unfold PO|unfold WI
  conv=>arg 2;whnf
  go_wp2_with fail
  refine(YI h hs1 (.inr ⟨rfl,.inr (.inl hu')⟩)).mono ?_;rintro e w1 ⟨rfl,h1,f1⟩;have ha1:=(ZO f1 ha).2.2.cell 0 rfl;have hc1:=hc.mono (Hv.bT f1);obtain⟨bv,cv,mv,tv,hb,_,_⟩:=h1.blk;have d1:=hb.cell 1 rfl;go_wp2_with fail
  refine(Us h1 hc1 hs2 Hst.out hl).mono ?_;rintro e w2 ⟨rfl,h2,f2⟩;have hu2:WQ (Hv w2 0) _ (lp n):=(hu'.mono (Hv.bT f1)).mono (Hv.bT f2);go_wp2_with fail
  refine(Zo h2 hs4 (ET hu2)).mono ?_;rintro e w3 ⟨a3,rfl,A3,hA3,hg3,h3,f3⟩;obtain⟨bvN,cvN,mvN,tvN,hbN,_,_⟩:=h3.blk;have cN:=hbN.cell 2 rfl;have zN:=hbN.free 2;have HN:=ZL hA3 hg3;clear hA3 hg3;go_wp2_with fail
  obtain⟨h4,f4⟩:=h3.setCur HN.out.2;exact HQ.out _ _ rfl (YX.of HN.out.1 (ZT _) h4 (f1.trans (f2.trans (f3.trans f4))))
end Go.Proofs.YteedbaejpdjilaaGreat
