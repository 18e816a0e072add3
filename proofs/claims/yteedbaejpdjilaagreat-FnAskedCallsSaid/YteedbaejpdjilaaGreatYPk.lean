/- Part of the proof: BldR BldS. -/
import Derived.Test.YteedbaejpdjilaaGreatYPj
import Derived.LaidEqlPtr
set_option linter.all false
set_option maxRecDepth 100000
set_option maxHeartbeats 40000000
namespace Go.Proofs.YteedbaejpdjilaaGreat
open Go.RowKit Tryz
section
attribute [local go_sem] PJ O5 PI O4 PH O2 PG O1 PF OZ PD OY PA OX RH RG Pz OW MJ RF RD UD MI OV Js MH MF OU ME OT MD OS MC OP MB OO MA OM Py OL Mz OJ OI UC Rz
variable {w:World} {B b b0:Nat} {A L:List Nat} {S S':BS} {tg:List Tg} {M:Mk}
def Qp (M:Mk) (P:Hp->Prop) (v:Value) (run:Lr):Prop:= ∀ (w:World) (B b b0:Nat) (A L:List Nat) (S S':BS) (tg:List Tg),BX w B b b0 A L S tg M->P (Hv w 0)->run tg S=some S'->
 Calls prog 85 #[b,v] w fun e w'=>e=.returned (.tuple #[])/\X8 w w' B b b0 A L S' tg M
def Vm (P:Hp->Prop):Prop:= ∀ H H':Hp,(∀ b cs t,H b cs t->H' b cs t)->P H->P H'
theorem XI.iface {H:Hp} {u:Value} {p:Int} (hu:XI H u p): ∃ t q,u=.iface t q:=by
 obtain⟨a,l,x,r,rfl,_⟩:=hu;exact⟨_,_,rfl⟩
theorem XE.iface {H:Hp} {u:Value} (hu:XE H u): ∃ t q,u=.iface t q:=by
 obtain⟨a,x,rfl,_⟩:=hu;exact⟨_,_,rfl⟩
theorem YI.iface {H:Hp} {u:Value} {p:Int} (hu:YI H u p): ∃ q,u=.iface 188 q:=by
 obtain⟨a,rfl,_⟩:=hu;exact⟨_,rfl⟩
theorem Wr (h:BX w B b b0 A L S tg M) {u:Value} {p:Int} (hu:XI (Hv w 0) u p) (hs:S.Yk ⟨p,false⟩=some S'):
  Calls prog 85 #[b,u] w fun e w'=>e=.returned (.tuple #[])/\X8 w w' B b b0 A L S' tg M:=
 TC hu.iface fun Q hQ=>Qq (f:=none) h hu hs Q hQ
theorem Jn (h:BX w B b b0 A L S tg M) {u:Value} (hu:XE (Hv w 0) u) (hs:S.Yk ⟨0,false⟩=some S'):
  Calls prog 85 #[b,u] w fun e w'=>e=.returned (.tuple #[])/\X8 w w' B b b0 A L S' tg M:=
 TC hu.iface fun Q hQ=>Jo (f:=none) h hu hs Q hQ
theorem Yr {H:Hp} {a ty t0:Nat} {p:Int} {r:List Value} (h:(ty,t0)∈Jy) (ha:H a (.int .i64 p::r) t0):X4 H (.iface ty (.pointer (some ⟨a,0,none⟩))) (some p):=.inl ⟨a,ty,t0,r,rfl,h,ha⟩
theorem OG {f:NM} (h:BX w B b b0 A L S tg M) {u:Value} {a:Nat} {lb rb:Int} {vl:List Value} (hu:u=.iface 86 (.pointer (some ⟨a,0,none⟩))) (ha:YW (Hv w 0) a lb rb vl)
  (hl: ∀ lv,NP (Hv w 0) lv vl 96->Calls prog 101 #[b,lv] w fun e w'=>e=.returned (.tuple #[])/\X8 w w' B b b0 A L S' tg M) (Q:Exit->Act->World->Prop) (hQ: ∀ a w',a.defers= []->X8 w w' B b b0 A L S' tg M->Q .normal a w'):Code.wp prog Xq Q ⟨U6 f b u,[]⟩ w:=by
 subst hu;obtain⟨lv,ha,hv⟩:=ha;have HQ:=Z5 hQ;clear hQ;have c1:=ha.2.2.cell 1 rfl;have Hl:=Z5 hl;clear hl;rcases f with _|⟨q1,q2,q3,q4⟩
 all_goals
  simp only[U6];first|unfold NN|unfold Vv
  conv=>arg 2;whnf
  go_wp2_with fail
  refine(Hl.out lv hv).mono ?_;rintro e w1 ⟨rfl,h1⟩;go_wp2_with fail
  exact HQ.out _ _ rfl h1
theorem Ac {f:NM} (h:BX w B b b0 A L S tg M) {u:Value} {hd:Hd} {n i a bb:Nat} {iv cv ev:Value} {RB RE:Lr} (hu:u=.iface 197 (.pointer (some ⟨a,0,none⟩))) (ha:Hv w 0 a [.int .i64 (ip i),iv,cv,bb,ev] 199)
  (hiv:YA (Hv w 0) hd.init iv (lp n)) (hcv:YI (Hv w 0) cv (lp (n+hd.init.toNat)))
  {PB:Hp->Prop} (oO:Vm PB) (hpb:PB (Hv w 0)) (hB:Qp M PB (.iface 86 (.pointer (some ⟨bb,0,none⟩))) RB) (hev:(hd.ZV=false/\ev=.nilIface)\/hd.ZV=true/\ ∃ PE:Hp->Prop,Vm PE/\PE (Hv w 0)/\(∃ tt pp,ev=.iface tt pp)/\Qp M PE ev RE)
  (hs:AC hd n i tg RB RE S=some S') (Q:Exit->Act->World->Prop) (hQ: ∀ a w',a.defers= []->X8 w w' B b b0 A L S' tg M->Q .normal a w'):Code.wp prog Xq Q ⟨U6 f b u,[]⟩ w:=by
 subst hu;obtain⟨kd,lbl,tgt,ini,cnd,Ym,els,UU⟩:=hd;unfold AC at hs;simp only[Z8,ZX]at hs;obtain⟨S0,g0,S1,g1,S2,g2,S3,g3,S4,g4,S5,g5,S6,g6,S7,g7,S9,g9,rfl⟩:=hs;obtain⟨qc,rfl⟩:=hcv.iface;have HQ:=Z5 hQ;have HB:=Z5 hB;clear hQ hB;cases ini<;>cases els<;>rcases f with _|⟨q1,q2,q3,q4⟩
 all_goals
  simp only[BS.XB,BS.Yq,Zw,↓reduceIte,Option.some.injEq,Z8]at g0 g3 g5 g9
  first
   |(obtain rfl:iv=.nilIface:=by simpa [YA]using hiv
     subst g0;have g0:=True.intro)
   |(replace hiv:XI (Hv w 0) iv (lp n):=by simpa [YA]using hiv
     obtain⟨ti,qi,rfl⟩:=hiv.iface)
  first
   |(obtain rfl:ev=.nilIface:=by simpa using hev
     subst g3;subst g9;have g3:=True.intro;have g8:=True.intro;have g9:=True.intro;clear hev)
   |(obtain⟨PE,hPE,hpe,⟨tt,pp,rfl⟩,hE⟩: ∃ PE:Hp->Prop,Vm PE/\PE (Hv w 0)/\(∃ tt pp,ev=.iface tt pp)/\Qp M PE ev RE:=by simpa using hev
     have HE:=Z5 hE;clear hev hE;obtain⟨S8,g8,g9⟩:=g9)
  have HG:=F6 g0 g3 g4 g5 g6 g7 g8 g9;have H1:=Z5 g1;have H2:=Z5 g2;clear g0 g1 g2 g3 g4 g5 g6 g7 g8 g9;obtain⟨ha,oL,oK,ew,eu⟩:=hv5 (Fr.refl bT B w) ha;simp only[U6];first|unfold NN|unfold Vv
  conv=>arg 2;whnf
  first
   |(have q:True:=HG.out.1
     clear q;have f1:=Fr.refl bT B w;have P1:=Zl (ZB A) (ZB L);have ha1:=ha;have h1:=h)
   |(go_wp2_with fail
     refine(Wr h hiv HG.out.1).mono ?_;rintro e w1 ⟨rfl,q⟩;obtain⟨A1,L1,P1,h1,f1⟩:=q.hd;obtain⟨ha1,oJ,oI,oH,ep⟩:=hv5 f1 ha)
  go_wp2_with fail
  refine(SD h1 H1.out (Yr (ty:=197) (t0:=199) (by decide) ha1)).mono ?_;rintro e w2 ⟨a2,rfl,A2,P2,h2,f2⟩;obtain⟨ha2,oG,oF,oE,em⟩:=hv5 f2 ha1;go_wp2_with fail
  refine(SD h2 H2.out (Yr (ty:=197) (t0:=199) (by decide) ha2)).mono ?_;rintro e w3 ⟨a3,rfl,A3,P3,h3,f3⟩;obtain⟨EE,oD,oC,oB,ek⟩:=hv5 f3 ha2
  first
   |(have q:True:=HG.out.2.1
     clear q;have f4:=Fr.refl bT B w3;have P4:=Zl (ZB A3) P3.out.2;have h4:=h3;have ND:=EE)
   |(go_wp2_with fail
     refine(SD h3 HG.out.2.1 (Yr (ty:=197) (t0:=199) (by decide) EE)).mono ?_;rintro e w3 ⟨a4,rfl,A4,P4,h4,f4⟩;obtain⟨ND,oz,oy,ox,ej⟩:=hv5 f4 EE)
  have QT:=Z5 (Zx (ZW P3.out.1 P4.out.1) P2.out.2);have QD:=Z5 (Zx P4.out.1 P3.out.2);have F4:=Z5 (f1.trans (f2.trans (f3.trans f4)));go_wp2_with fail
  refine(XL h4 HG.out.2.2.1 (.inr ⟨rfl,.inl (hcv.mono (Hv.bT F4.out))⟩)).mono ?_;rintro e w5 ⟨rfl,h5,f5⟩;obtain⟨Bt,ou,oq,eh,eg⟩:=hv5 f5 ND;go_wp2_with fail
  refine(Nb h5 HG.out.2.2.2.1 QT.out P4.out.2).mono ?_;rintro e w6 ⟨rfl,h6,f6⟩;obtain⟨ha6,oh,og,dZ,dY⟩:=hv5 f6 Bt;obtain⟨v7,y7,z7,h7,f7⟩:=h6.sc QT.out;obtain⟨Bs,od,n9,dX,dW⟩:=hv5 f7 ha6;have F7:=Z5 (F4.out.trans (f5.trans (f6.trans f7)));go_wp2_with fail
  refine(HB.out _ _ _ _ _ _ _ _ _ h7 (oO _ _ (Hv.bT F7.out) hpb) HG.out.2.2.2.2.1).mono ?_;rintro e w8 ⟨rfl,q⟩;obtain⟨A8,L8,P8,h8,f8⟩:=q.hd;obtain⟨Ab,n8,n6,dV,dU⟩:=hv5 f8 Bs;go_wp2_with fail
  refine(YT h8 HG.out.2.2.2.2.2.1 (Zx P8.out.1 QD.out)).mono ?_;rintro e w9 ⟨rfl,h9,f9⟩;obtain⟨uy,n5,n4,dT,dS⟩:=hv5 f9 Ab;have F9:=Z5 (F7.out.trans (f8.trans f9))
  first
   |(have q:True:=HG.out.2.2.2.2.2.2.1
     clear q;have nZ:=F9;have h12:=h9;have Jm:=uy;have Br:=Zl (ZB A8) (ZB L8))
   |(obtain⟨v10,LL,z10,h10,f10⟩:=h9.sc (Zx P8.out.1 P4.out.2)
     obtain⟨My,xr,xq,nY,nW⟩:=hv5 f10 uy;go_wp2_with fail
     refine(HE.out _ _ _ _ _ _ _ _ _ h10 (hPE _ _ (Hv.bT (F9.out.trans f10)) hpe) HG.out.2.2.2.2.2.2.1).mono ?_;rintro e dR ⟨rfl,q⟩;obtain⟨A11,L11,Br,h11,f11⟩:=q.hd;obtain⟨D1,xp,xn,nV,nU⟩:=hv5 f11 My;go_wp2_with fail
     refine(YT h11 HG.out.2.2.2.2.2.2.2 (Zx Br.out.1 (Zx P8.out.1 QD.out))).mono ?_;rintro e w12 ⟨rfl,h12,f12⟩;obtain⟨Jm,xl,xk,nT,nS⟩:=hv5 f12 D1;have nZ:=Z5 (F9.out.trans (f10.trans (f11.trans f12))))
  obtain⟨v13,y13,z13,h13,f13⟩:=h12.sc (Zx Br.out.1 (Zx P8.out.1 QD.out));obtain⟨Aa,xh,xd,nR,nQ⟩:=hv5 f13 Jm;go_wp2_with fail
  exact HQ.out _ _ rfl (X8.of (ZW P1.out.1 (ZW P2.out.1 (ZW P3.out.1 (ZW P4.out.1 (ZW P8.out.1 Br.out.1))))) (ZW P1.out.2 (ZW P8.out.2 Br.out.2)) h13 (nZ.out.trans f13))
end
section
variable {w:World} {B b b0:Nat} {A L:List Nat} {S S':BS} {tg:List Tg} {M:Mk}
theorem BX.ne (h:BX w B b b0 A L S tg M) {i j a c:Nat} (hi:A[i]? =some a) (hj:A[j]? =some c) (hne:i≠j):a≠c:=by
 obtain⟨NV,h⟩:=h;intro e;subst e;exact hne ((List.getElem?_inj (Z1.1 hi).1 h.nodup).1 (hi.trans hj.symm))
theorem BX.OE (h:BX w B b b0 A L S tg M) {j l:Nat} (hl:L[j]? =some l): ∃ y gv bv cv,S.ZT[j]? =some y/\ZD w l [gv,bv,cv] 193:=by
 obtain⟨NV,h⟩:=h;obtain⟨_,_,_,_,_,_,_,hlv,_⟩:=h.self;have hj:j < S.ZT.length:=by
  have:=(Z1.1 hl).1;have:=hlv.1;omega
 obtain⟨gv,bv,cv,h1,_⟩:=hlv.2.2.2.1 j l S.ZT[j].1 S.ZT[j].2 hl (by rw[Z9 hj]);exact⟨S.ZT[j],gv,bv,cv,Z9 hj,h1⟩
theorem BX.Mx (h:BX w B b b0 A L S tg M) {j l d a:Nat} (hl:L[j]? =some l) (ha:A[d]? =some a):
  BX (w.setCell ⟨l,1,none⟩ (.pointer (some ⟨a,0,none⟩))) B b b0 A L (S.XG (some j) d) tg M/\Fr bT B w (w.setCell ⟨l,1,none⟩ (.pointer (some ⟨a,0,none⟩))):=by
 obtain⟨y,_,_,_,hy,_⟩:=h.OE hl;obtain⟨NV,h⟩:=h
 obtain⟨h1,f1⟩:=h.D6 (j:=j) (l:=l) (s:=y.1) (x:=y.2) (o:=1) (v:=.pointer (some ⟨a,0,none⟩)) (f:=fun x=> { x with brk:=some d }) hy hl
  (fun gv bv cv g1 g2 g3=>⟨gv,.pointer (some ⟨a,0,none⟩),cv,rfl,g1,⟨a,ha,rfl⟩,g3⟩)
 exact⟨⟨NV,h1⟩,f1⟩
theorem BX.uw (h:BX w B b b0 A L S tg M) {j l d a:Nat} (hl:L[j]? =some l) (ha:A[d]? =some a):
  BX (w.setCell ⟨l,2,none⟩ (.pointer (some ⟨a,0,none⟩))) B b b0 A L (S.Sl (some j) d) tg M/\Fr bT B w (w.setCell ⟨l,2,none⟩ (.pointer (some ⟨a,0,none⟩))):=by
 obtain⟨y,_,_,_,hy,_⟩:=h.OE hl;obtain⟨NV,h⟩:=h
 obtain⟨h1,f1⟩:=h.D6 (j:=j) (l:=l) (s:=y.1) (x:=y.2) (o:=2) (v:=.pointer (some ⟨a,0,none⟩)) (f:=fun x=> { x with cnt:=some d }) hy hl
  (fun gv bv cv g1 g2 g3=>⟨gv,bv,.pointer (some ⟨a,0,none⟩),rfl,g1,g2,⟨a,ha,rfl⟩⟩)
 exact⟨⟨NV,h1⟩,f1⟩
theorem BX.push (h:BX w B b b0 A L S tg M) {N:Nat} (hN:w.heap.size=N) {bv mk cv mv tv:Value} (hb:ZD w b [bv,mk,cv,mv,tv] 136) {t:Tg} {v1 v2 v3:Value} (h1:Zc A v1 t.brk) (h2:Zc A v2 t.cnt) (h3:Zc A v3 t.Xw):
  BX ((w.setCell ⟨b,4,none⟩ (.pointer (some ⟨N,0,none⟩))).alloc (.cells [tv,v1,v2,v3].toArray 223)) B b b0 A L S (t::tg) M/\Fr bT B w ((w.setCell ⟨b,4,none⟩ (.pointer (some ⟨N,0,none⟩))).alloc (.cells [tv,v1,v2,v3].toArray 223)):=by
 subst hN;obtain⟨NV,h⟩:=h;obtain⟨h1,f1⟩:=h.push hb h1 h2 h3;exact⟨⟨NV,h1⟩,f1⟩
theorem BX.pop {t:Tg} (h:BX w B b b0 A L S (t::tg) M): ∃ bv cv mv ta tl tb tc tf,ZD w b [bv,.func (.func 67) #[b0] #[],cv,mv,.pointer (some ⟨ta,0,none⟩)] 136/\ZD w ta [.pointer tl,tb,tc,tf] 223/\
  BX (w.setCell ⟨b,4,none⟩ (.pointer tl)) B b b0 A L S tg M/\Fr bT B w (w.setCell ⟨b,4,none⟩ (.pointer tl)):=by
 obtain⟨NV,h⟩:=h;obtain⟨bv,cv,mv,tv,hb,_,_,_,SC⟩:=h.self;obtain⟨ta,tl,tb,tc,tf,rfl,hta,_,_,_,htl⟩:=SC;obtain⟨p,rfl⟩:=htl.ptr;obtain⟨h1,f1⟩:=h.xt htl;exact⟨bv,cv,mv,ta,p,tb,tc,tf,hb,hta.2.2,⟨NV,h1⟩,f1⟩
theorem Mw:(prog.info? 99).map (·.size)=some 9:=by kernel_rfl
theorem D0 (a:Nat) (w:World):(binOp .neq 92 (.pointer (some ⟨a,0,none⟩)) (.pointer (some ⟨a,0,none⟩))).run prog w=.ok (.bool false) w:=by
 obtain⟨j,hj,hs⟩:=ZX.1 Mw;have h: ∀ d:Nat,(Op.equalIn (d+1) 92 (.pointer (some ⟨a,0,none⟩)) (.pointer (some ⟨a,0,none⟩))).run prog w=.ok true w:=fun d=>by
  simp[Op.equalIn,run_underlying underlying92,sizeOf,typeInfo,hj,run_sameAddr_same]
 simp only[binOp];simp[Op.equal,Op.maxDepth,h 9999]
theorem FK {a c:Nat} {ca cc:List Value} {ta tc:Nat} (hne:a≠c) (ha:ZD w a ca ta) (hc:ZD w c cc tc):(binOp .neq 92 (.pointer (some ⟨a,0,none⟩)) (.pointer (some ⟨c,0,none⟩))).run prog w=.ok (.bool true) w:=by
 obtain⟨j,hj,hs⟩:=ZX.1 Mw;have hsz:j.size≠0:=by omega
 have hn:(⟨a,0,none⟩:Addr)≠⟨c,0,none⟩:=fun e=>hne (by cases e;rfl);have h: ∀ d:Nat,(Op.equalIn (d+1) 92 (.pointer (some ⟨a,0,none⟩)) (.pointer (some ⟨c,0,none⟩))).run prog w=.ok false w:=fun d=>by
  simp[Op.equalIn,run_underlying underlying92,sizeOf,typeInfo,hj,hsz,run_sameAddr_other w hn ha hc]
 simp only[binOp];simp[Op.equal,Op.maxDepth,h 9999]
theorem BX.neq (h:BX w B b b0 A L S tg M) {i j a c:Nat} (hi:A[i]? =some a) (hj:A[j]? =some c) (hne:i≠j):(binOp .neq 92 (.pointer (some ⟨a,0,none⟩)) (.pointer (some ⟨c,0,none⟩))).run prog w=.ok (.bool true) w:=by
 have hn:=h.ne hi hj hne;obtain⟨NV,h⟩:=h;have key: ∀ {i a:Nat},A[i]? =some a-> ∃ cs,ZD w a cs 99:=by
  intro i a hi;have h1:i < S.Z6.length:=by
   have:=(Z1.1 hi).1;have:=h.US;omega
  have h2:i < NV.length:=by have:=h.VU;omega
  obtain⟨a',sv,p0,p1,ns,g1,g2,_⟩:=h.Z6 i S.Z6[i] NV[i] (Z9 h1) (Z9 h2);rw[hi]at g1;cases g1;exact⟨_,g2⟩
 obtain⟨_,h1⟩:=key hi;obtain⟨_,h2⟩:=key hj;exact FK hn h1 h2
theorem Zc.of {a i:Nat} (h:A[i]? =some a):Zc A (.pointer (some ⟨a,0,none⟩)) (some i):=⟨a,h,rfl⟩
theorem Zc.nil:Zc A (.pointer none) none:=rfl
theorem Lp {k:Int} {o:Option Int} (h:S.newP k o=some S'):S'.Z6.length=S.Z6.length+1:=by
 obtain⟨_,rfl⟩:=TD h;simp[BS.new]
end
end Go.Proofs.YteedbaejpdjilaaGreat
