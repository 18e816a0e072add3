/- Part of the proof: BldR BldS. -/
import Derived.Test.YteedbaejpdjilaaGreatXPj
import Derived.LaidEqlPtr
set_option linter.all false
set_option maxRecDepth 100000
set_option maxHeartbeats 40000000
namespace Go.Proofs.YteedbaejpdjilaaGreat
open Go.RowKit
section
attribute [local go_sem] RI QF Rq QN Rz PV Rl Qo RN Qh Ri Qc RD Qn TW Uc RP QG NG Ue Ux Vy NZ Qx Jy Oe Ny PU Oa Qk NY Qs Oh Qm Oo Qq N7 QI RU QO Ox PS QY Vu Ub
variable {w:World} {B b b0:Nat} {A L:List Nat} {S S':BS} {tg:List Tg} {M:Mk}
def SE (M:Mk) (P:Hp->Prop) (v:Value) (run:Lr):Prop:= ∀ (w:World) (B b b0:Nat) (A L:List Nat) (S S':BS) (tg:List Tg),BX w B b b0 A L S tg M->P (Hv w 0)->run tg S=some S'->
 Calls Tryz.prog 85 #[b,v] w fun e w'=>e=.returned (.tuple #[])∧YX w w' B b b0 A L S' tg M
def Wu (P:Hp->Prop):Prop:= ∀ H H':Hp,(∀ b cs t,H b cs t->H' b cs t)->P H->P H'
theorem YG.iface {H:Hp} {u:Value} {p:Int} (hu:YG H u p): ∃ t q,u=.iface t q:=by
 obtain⟨a,l,x,r,rfl,_⟩:=hu;exact⟨_,_,rfl⟩
theorem Yz.iface {H:Hp} {u:Value} (hu:Yz H u): ∃ t q,u=.iface t q:=by
 obtain⟨a,x,rfl,_⟩:=hu;exact⟨_,_,rfl⟩
theorem Zp.iface {H:Hp} {u:Value} {p:Int} (hu:Zp H u p): ∃ q,u=.iface 188 q:=by
 obtain⟨a,rfl,_⟩:=hu;exact⟨_,rfl⟩
theorem Xu (h:BX w B b b0 A L S tg M) {u:Value} {p:Int} (hu:YG (Hv w 0) u p) (hs:S.Zc ⟨p,false⟩=some S'):
  Calls Tryz.prog 85 #[b,u] w fun e w'=>e=.returned (.tuple #[])∧YX w w' B b b0 A L S' tg M:=
 U3 hu.iface fun Q hQ=>SQ (f:=none) h hu hs Q hQ
theorem JR (h:BX w B b b0 A L S tg M) {u:Value} (hu:Yz (Hv w 0) u) (hs:S.Zc ⟨0,false⟩=some S'):
  Calls Tryz.prog 85 #[b,u] w fun e w'=>e=.returned (.tuple #[])∧YX w w' B b b0 A L S' tg M:=
 U3 hu.iface fun Q hQ=>JZ (f:=none) h hu hs Q hQ
theorem Zh {H:Hp} {a ty t0:Nat} {p:Int} {r:List Value} (h:(ty,t0)∈KH) (ha:H a (.int .i64 p::r) t0):YR H (.iface ty (.pointer (some ⟨a,0,none⟩))) (some p):=.inl ⟨a,ty,t0,r,rfl,h,ha⟩
theorem Qe {f:PL} (h:BX w B b b0 A L S tg M) {u:Value} {a:Nat} {lb rb:Int} {vl:List Value} (hu:u=.iface 86 (.pointer (some ⟨a,0,none⟩))) (ha:Zz (Hv w 0) a lb rb vl)
  (hl: ∀ lv,PN (Hv w 0) lv vl 96->Calls Tryz.prog 101 #[b,lv] w fun e w'=>e=.returned (.tuple #[])∧YX w w' B b b0 A L S' tg M) (Q:Exit->Act->World->Prop) (hQ: ∀ a w',a.defers= []->YX w w' B b b0 A L S' tg M->Q .normal a w'):Code.wp Tryz.prog Yo Q ⟨VW f b u,[]⟩ w:=by
 subst hu;obtain⟨lv,ha,hv⟩:=ha;have HQ:=Z9 hQ;clear hQ;have c1:=ha.2.2.cell 1 rfl;have Hl:=Z9 hl;clear hl;rcases f with _|⟨q1,q2,q3,q4⟩
 all_goals
  simp only[VW];first|unfold PO|unfold WI
  conv=>arg 2;whnf
  go_wp2_with fail
  refine(Hl.out lv hv).mono ?_;rintro e w1 ⟨rfl,h1⟩;go_wp2_with fail
  exact HQ.out _ _ rfl h1
theorem Aj {f:PL} (h:BX w B b b0 A L S tg M) {u:Value} {hd:Hd} {n i a bb:Nat} {iv cv ev:Value} {RB RE:Lr} (hu:u=.iface 197 (.pointer (some ⟨a,0,none⟩))) (ha:Hv w 0 a [.int .i64 (ip i),iv,cv,bb,ev] 199)
  (hiv:Zk (Hv w 0) hd.init iv (lp n)) (hcv:Zp (Hv w 0) cv (lp (n+hd.init.toNat)))
  {PB:Hp->Prop} (hPB:Wu PB) (hpb:PB (Hv w 0)) (hB:SE M PB (.iface 86 (.pointer (some ⟨bb,0,none⟩))) RB) (hev:(hd.hasElse=false∧ev=.nilIface)∨hd.hasElse=true∧ ∃ PE:Hp->Prop,Wu PE∧PE (Hv w 0)∧(∃ tt pp,ev=.iface tt pp)∧SE M PE ev RE)
  (hs:yG hd n i tg RB RE S=some S') (Q:Exit->Act->World->Prop) (hQ: ∀ a w',a.defers= []->YX w w' B b b0 A L S' tg M->Q .normal a w'):Code.wp Tryz.prog Yo Q ⟨VW f b u,[]⟩ w:=by
 subst hu;obtain⟨kd,lbl,tgt,ini,cnd,pst,els,chn⟩:=hd;unfold yG at hs;simp only[Option.bind_eq_some_iff,Option.map_eq_some_iff]at hs;obtain⟨S0,g0,S1,g1,S2,g2,S3,g3,S4,g4,S5,g5,S6,g6,S7,g7,S9,g9,rfl⟩:=hs;obtain⟨qc,rfl⟩:=hcv.iface;have HQ:=Z9 hQ;have HB:=Z9 hB;clear hQ hB;cases ini<;>cases els<;>rcases f with _|⟨q1,q2,q3,q4⟩
 all_goals
  simp only[BS.Yy,BS.Zf,Bool.false_eq_true,↓reduceIte,Option.some.injEq,Option.bind_eq_some_iff]at g0 g3 g5 g9
  first
   |(obtain rfl:iv=.nilIface:=by simpa [Zk]using hiv
     subst g0;have g0:=True.intro)
   |(replace hiv:YG (Hv w 0) iv (lp n):=by simpa [Zk]using hiv
     obtain⟨ti,qi,rfl⟩:=hiv.iface)
  first
   |(obtain rfl:ev=.nilIface:=by simpa using hev
     subst g3;subst g9;have g3:=True.intro;have g8:=True.intro;have g9:=True.intro;clear hev)
   |(obtain⟨PE,hPE,hpe,⟨tt,pp,rfl⟩,hE⟩: ∃ PE:Hp->Prop,Wu PE∧PE (Hv w 0)∧(∃ tt pp,ev=.iface tt pp)∧SE M PE ev RE:=by simpa using hev
     have HE:=Z9 hE;clear hev hE;obtain⟨S8,g8,g9⟩:=g9)
  have HG:=Gx g0 g3 g4 g5 g6 g7 g8 g9;have H1:=Z9 g1;have H2:=Z9 g2;clear g0 g1 g2 g3 g4 g5 g6 g7 g8 g9;obtain⟨ha,x0_1,x0_2,x0_3,x0_4⟩:=hv5 (Fr.refl bT B w) ha;simp only[VW];first|unfold PO|unfold WI
  conv=>arg 2;whnf
  first
   |(have q:True:=HG.out.1
     clear q;have f1:=Fr.refl bT B w;have P1:=ZL (ZT A) (ZT L);have ha1:=ha;have h1:=h)
   |(go_wp2_with fail
     refine(Xu h hiv HG.out.1).mono ?_;rintro e w1 ⟨rfl,q⟩;obtain⟨A1,L1,P1,h1,f1⟩:=q.hd;obtain⟨ha1,x1_1,x1_2,x1_3,x1_4⟩:=hv5 f1 ha)
  go_wp2_with fail
  refine(UO h1 H1.out (Zh (ty:=197) (t0:=199) (by decide) ha1)).mono ?_;rintro e w2 ⟨a2,rfl,A2,P2,h2,f2⟩;obtain⟨ha2,x2_1,x2_2,x2_3,x2_4⟩:=hv5 f2 ha1;go_wp2_with fail
  refine(UO h2 H2.out (Zh (ty:=197) (t0:=199) (by decide) ha2)).mono ?_;rintro e w3 ⟨a3,rfl,A3,P3,h3,f3⟩;obtain⟨ha3,x3_1,x3_2,x3_3,x3_4⟩:=hv5 f3 ha2
  first
   |(have q:True:=HG.out.2.1
     clear q;have f4:=Fr.refl bT B w3;have P4:=ZL (ZT A3) P3.out.2;have h4:=h3;have ha4:=ha3)
   |(go_wp2_with fail
     refine(UO h3 HG.out.2.1 (Zh (ty:=197) (t0:=199) (by decide) ha3)).mono ?_;rintro e w3 ⟨a4,rfl,A4,P4,h4,f4⟩;obtain⟨ha4,x4_1,x4_2,x4_3,x4_4⟩:=hv5 f4 ha3)
  have QT:=Z9 (ZQ (Z7 P3.out.1 P4.out.1) P2.out.2);have QD:=Z9 (ZQ P4.out.1 P3.out.2);have F4:=Z9 (f1.trans (f2.trans (f3.trans f4)));go_wp2_with fail
  refine(YI h4 HG.out.2.2.1 (.inr ⟨rfl,.inl (hcv.mono (Hv.bT F4.out))⟩)).mono ?_;rintro e w5 ⟨rfl,h5,f5⟩;obtain⟨ha5,x5_1,x5_2,x5_3,x5_4⟩:=hv5 f5 ha4;go_wp2_with fail
  refine(OO h5 HG.out.2.2.2.1 QT.out P4.out.2).mono ?_;rintro e w6 ⟨rfl,h6,f6⟩;obtain⟨ha6,x6_1,x6_2,x6_3,x6_4⟩:=hv5 f6 ha5;obtain⟨v7,y7,z7,h7,f7⟩:=h6.sc QT.out;obtain⟨ha7,x7_1,x7_2,x7_3,x7_4⟩:=hv5 f7 ha6;have F7:=Z9 (F4.out.trans (f5.trans (f6.trans f7)));go_wp2_with fail
  refine(HB.out _ _ _ _ _ _ _ _ _ h7 (hPB _ _ (Hv.bT F7.out) hpb) HG.out.2.2.2.2.1).mono ?_;rintro e w8 ⟨rfl,q⟩;obtain⟨A8,L8,P8,h8,f8⟩:=q.hd;obtain⟨ha8,x8_1,x8_2,x8_3,x8_4⟩:=hv5 f8 ha7;go_wp2_with fail
  refine(Zx h8 HG.out.2.2.2.2.2.1 (ZQ P8.out.1 QD.out)).mono ?_;rintro e w9 ⟨rfl,h9,f9⟩;obtain⟨ha9,x9_1,x9_2,x9_3,x9_4⟩:=hv5 f9 ha8;have F9:=Z9 (F7.out.trans (f8.trans f9))
  first
   |(have q:True:=HG.out.2.2.2.2.2.2.1
     clear q;have F12:=F9;have h12:=h9;have ha12:=ha9;have P12:=ZL (ZT A8) (ZT L8))
   |(obtain⟨v10,y10,z10,h10,f10⟩:=h9.sc (ZQ P8.out.1 P4.out.2)
     obtain⟨ha10,x10_1,x10_2,x10_3,x10_4⟩:=hv5 f10 ha9;go_wp2_with fail
     refine(HE.out _ _ _ _ _ _ _ _ _ h10 (hPE _ _ (Hv.bT (F9.out.trans f10)) hpe) HG.out.2.2.2.2.2.2.1).mono ?_;rintro e w11 ⟨rfl,q⟩;obtain⟨A11,L11,P12,h11,f11⟩:=q.hd;obtain⟨ha11,x11_1,x11_2,x11_3,x11_4⟩:=hv5 f11 ha10;go_wp2_with fail
     refine(Zx h11 HG.out.2.2.2.2.2.2.2 (ZQ P12.out.1 (ZQ P8.out.1 QD.out))).mono ?_;rintro e w12 ⟨rfl,h12,f12⟩;obtain⟨ha12,x12_1,x12_2,x12_3,x12_4⟩:=hv5 f12 ha11;have F12:=Z9 (F9.out.trans (f10.trans (f11.trans f12))))
  obtain⟨v13,y13,z13,h13,f13⟩:=h12.sc (ZQ P12.out.1 (ZQ P8.out.1 QD.out));obtain⟨ha13,x13_1,x13_2,x13_3,x13_4⟩:=hv5 f13 ha12;go_wp2_with fail
  exact HQ.out _ _ rfl (YX.of (Z7 P1.out.1 (Z7 P2.out.1 (Z7 P3.out.1 (Z7 P4.out.1 (Z7 P8.out.1 P12.out.1))))) (Z7 P1.out.2 (Z7 P8.out.2 P12.out.2)) h13 (F12.out.trans f13))
end
section
variable {w:World} {B b b0:Nat} {A L:List Nat} {S S':BS} {tg:List Tg} {M:Mk}
theorem BX.ne (h:BX w B b b0 A L S tg M) {i j a c:Nat} (hi:A[i]? =some a) (hj:A[j]? =some c) (hne:i≠j):a≠c:=by
 obtain⟨NV,h⟩:=h;intro e;subst e;exact hne ((List.getElem?_inj (List.getElem?_eq_some_iff.1 hi).1 h.nodup).1 (hi.trans hj.symm))
theorem BX.Qr (h:BX w B b b0 A L S tg M) {j l:Nat} (hl:L[j]? =some l): ∃ y gv bv cv,S.Z4[j]? =some y∧ZV w l [gv,bv,cv] 193:=by
 obtain⟨NV,h⟩:=h;obtain⟨_,_,_,_,_,_,_,hlv,_⟩:=h.self;have hj:j < S.Z4.length:=by
  have:=(List.getElem?_eq_some_iff.1 hl).1;have:=hlv.1;omega
 obtain⟨gv,bv,cv,h1,_⟩:=hlv.2.2.2.1 j l S.Z4[j].1 S.Z4[j].2 hl (by rw[List.getElem?_eq_getElem hj]);exact⟨S.Z4[j],gv,bv,cv,List.getElem?_eq_getElem hj,h1⟩
theorem BX.Og (h:BX w B b b0 A L S tg M) {j l d a:Nat} (hl:L[j]? =some l) (ha:A[d]? =some a):
  BX (w.setCell ⟨l,1,none⟩ (.pointer (some ⟨a,0,none⟩))) B b b0 A L (S.YD (some j) d) tg M∧Fr bT B w (w.setCell ⟨l,1,none⟩ (.pointer (some ⟨a,0,none⟩))):=by
 obtain⟨y,_,_,_,hy,_⟩:=h.Qr hl;obtain⟨NV,h⟩:=h
 obtain⟨h1,f1⟩:=h.Ci (j:=j) (l:=l) (s:=y.1) (x:=y.2) (o:=1) (v:=.pointer (some ⟨a,0,none⟩)) (f:=fun x=> { x with brk:=some d }) hy hl
  (fun gv bv cv g1 g2 g3=>⟨gv,.pointer (some ⟨a,0,none⟩),cv,rfl,g1,⟨a,ha,rfl⟩,g3⟩)
 exact⟨⟨NV,h1⟩,f1⟩
theorem BX.rH (h:BX w B b b0 A L S tg M) {j l d a:Nat} (hl:L[j]? =some l) (ha:A[d]? =some a):
  BX (w.setCell ⟨l,2,none⟩ (.pointer (some ⟨a,0,none⟩))) B b b0 A L (S.UA (some j) d) tg M∧Fr bT B w (w.setCell ⟨l,2,none⟩ (.pointer (some ⟨a,0,none⟩))):=by
 obtain⟨y,_,_,_,hy,_⟩:=h.Qr hl;obtain⟨NV,h⟩:=h
 obtain⟨h1,f1⟩:=h.Ci (j:=j) (l:=l) (s:=y.1) (x:=y.2) (o:=2) (v:=.pointer (some ⟨a,0,none⟩)) (f:=fun x=> { x with cnt:=some d }) hy hl
  (fun gv bv cv g1 g2 g3=>⟨gv,bv,.pointer (some ⟨a,0,none⟩),rfl,g1,g2,⟨a,ha,rfl⟩⟩)
 exact⟨⟨NV,h1⟩,f1⟩
theorem BX.push (h:BX w B b b0 A L S tg M) {N:Nat} (hN:w.heap.size=N) {bv mk cv mv tv:Value} (hb:ZV w b [bv,mk,cv,mv,tv] 136) {t:Tg} {v1 v2 v3:Value} (h1:ZI A v1 t.brk) (h2:ZI A v2 t.cnt) (h3:ZI A v3 t.fal):
  BX ((w.setCell ⟨b,4,none⟩ (.pointer (some ⟨N,0,none⟩))).alloc (.cells [tv,v1,v2,v3].toArray 223)) B b b0 A L S (t::tg) M∧Fr bT B w ((w.setCell ⟨b,4,none⟩ (.pointer (some ⟨N,0,none⟩))).alloc (.cells [tv,v1,v2,v3].toArray 223)):=by
 subst hN;obtain⟨NV,h⟩:=h;obtain⟨h1,f1⟩:=h.push hb h1 h2 h3;exact⟨⟨NV,h1⟩,f1⟩
theorem BX.pop {t:Tg} (h:BX w B b b0 A L S (t::tg) M): ∃ bv cv mv ta tl tb tc tf,ZV w b [bv,.func (.func 67) #[b0] #[],cv,mv,.pointer (some ⟨ta,0,none⟩)] 136∧ZV w ta [.pointer tl,tb,tc,tf] 223∧
  BX (w.setCell ⟨b,4,none⟩ (.pointer tl)) B b b0 A L S tg M∧Fr bT B w (w.setCell ⟨b,4,none⟩ (.pointer tl)):=by
 obtain⟨NV,h⟩:=h;obtain⟨bv,cv,mv,tv,hb,_,_,_,htg⟩:=h.self;obtain⟨ta,tl,tb,tc,tf,rfl,hta,_,_,_,htl⟩:=htg;obtain⟨p,rfl⟩:=htl.ptr;obtain⟨h1,f1⟩:=h.wS htl;exact⟨bv,cv,mv,ta,p,tb,tc,tf,hb,hta.2.2,⟨NV,h1⟩,f1⟩
theorem NQ:(Tryz.prog.info? 99).map (·.size)=some 9:=by kernel_rfl
theorem ER (a:Nat) (w:World):(binOp .neq 92 (.pointer (some ⟨a,0,none⟩)) (.pointer (some ⟨a,0,none⟩))).run Tryz.prog w=.ok (.bool false) w:=by
 obtain⟨j,hj,hs⟩:=Option.map_eq_some_iff.1 NQ;have h: ∀ d:Nat,(Op.equalIn (d+1) 92 (.pointer (some ⟨a,0,none⟩)) (.pointer (some ⟨a,0,none⟩))).run Tryz.prog w=.ok true w:=fun d=>by
  simp[Op.equalIn,run_underlying Tryz.underlying92,sizeOf,typeInfo,hj,run_sameAddr_same]
 simp only[binOp];simp[Op.equal,Op.maxDepth,h 9999]
theorem Ih {a c:Nat} {ca cc:List Value} {ta tc:Nat} (hne:a≠c) (ha:ZV w a ca ta) (hc:ZV w c cc tc):(binOp .neq 92 (.pointer (some ⟨a,0,none⟩)) (.pointer (some ⟨c,0,none⟩))).run Tryz.prog w=.ok (.bool true) w:=by
 obtain⟨j,hj,hs⟩:=Option.map_eq_some_iff.1 NQ;have hsz:j.size≠0:=by omega
 have hn:(⟨a,0,none⟩:Addr)≠⟨c,0,none⟩:=fun e=>hne (by cases e;rfl);have h: ∀ d:Nat,(Op.equalIn (d+1) 92 (.pointer (some ⟨a,0,none⟩)) (.pointer (some ⟨c,0,none⟩))).run Tryz.prog w=.ok false w:=fun d=>by
  simp[Op.equalIn,run_underlying Tryz.underlying92,sizeOf,typeInfo,hj,hsz,run_sameAddr_other w hn ha hc]
 simp only[binOp];simp[Op.equal,Op.maxDepth,h 9999]
theorem BX.neq (h:BX w B b b0 A L S tg M) {i j a c:Nat} (hi:A[i]? =some a) (hj:A[j]? =some c) (hne:i≠j):(binOp .neq 92 (.pointer (some ⟨a,0,none⟩)) (.pointer (some ⟨c,0,none⟩))).run Tryz.prog w=.ok (.bool true) w:=by
 have hn:=h.ne hi hj hne;obtain⟨NV,h⟩:=h;have key: ∀ {i a:Nat},A[i]? =some a-> ∃ cs,ZV w a cs 99:=by
  intro i a hi;have h1:i < S.bks.length:=by
   have:=(List.getElem?_eq_some_iff.1 hi).1;have:=h.lenA;omega
  have h2:i < NV.length:=by have:=h.lenN;omega
  obtain⟨a',sv,p0,p1,ns,g1,g2,_⟩:=h.bks i S.bks[i] NV[i] (List.getElem?_eq_getElem h1) (List.getElem?_eq_getElem h2);rw[hi]at g1;cases g1;exact⟨_,g2⟩
 obtain⟨_,h1⟩:=key hi;obtain⟨_,h2⟩:=key hj;exact Ih hn h1 h2
theorem ZI.of {a i:Nat} (h:A[i]? =some a):ZI A (.pointer (some ⟨a,0,none⟩)) (some i):=⟨a,h,rfl⟩
theorem ZI.nil:ZI A (.pointer none) none:=rfl
theorem MB {k:Int} {o:Option Int} (h:S.newP k o=some S'):S'.bks.length=S.bks.length+1:=by
 obtain⟨_,rfl⟩:=UZ h;simp[BS.new]
end
end Go.Proofs.YteedbaejpdjilaaGreat
