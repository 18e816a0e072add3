/- Part of the proof: BldT. -/
import Derived.Test.YteedbaejpdjilaaGreatYPk
set_option linter.all false
set_option maxRecDepth 100000
set_option maxHeartbeats 40000000
namespace Go.Proofs.YteedbaejpdjilaaGreat
open Go.RowKit Tryz
attribute [local go_sem] D0
variable {w w':World} {B b b0:Nat} {A L:List Nat} {S S':BS} {tg:List Tg} {M:Mk}
theorem nO {A:List Nat} {i a:Nat} (h:A[i]? =some a):Hid (A <+:A/\A[i]? =some a):=⟨ZB A,h⟩
theorem BX.pu (h:BX w B b b0 A L S tg M) {N:Nat} (hN:w.heap.size=N) {t:Tg} {v1 v2 v3:Value} (h1:Zc A v1 t.brk) (h2:Zc A v2 t.cnt) (h3:Zc A v3 t.Xw):
  ∃ tp,w.cell? ⟨b,4,none⟩=some (.pointer tp)/\w.frozen? ⟨b,4,none⟩=false/\b < N/\(w.alloc (.cells [.pointer tp,v1,v2,v3].toArray 223)).cell? ⟨b,4,none⟩=some (.pointer tp)/\(w.alloc (.cells [.pointer tp,v1,v2,v3].toArray 223)).frozen? ⟨b,4,none⟩=false/\
   BX ((w.setCell ⟨b,4,none⟩ (.pointer (some ⟨N,0,none⟩))).alloc (.cells [.pointer tp,v1,v2,v3].toArray 223)) B b b0 A L S (t::tg) M/\Fr bT B w ((w.setCell ⟨b,4,none⟩ (.pointer (some ⟨N,0,none⟩))).alloc (.cells [.pointer tp,v1,v2,v3].toArray 223)):=by
 obtain⟨bv,cv,mv,tv,hb,_,ht⟩:=h.blk;obtain⟨tp,rfl⟩:=ht.ptr;have hA:=hb.alloc (.cells [.pointer tp,v1,v2,v3].toArray 223);exact⟨tp,hb.cell 4 rfl,hb.free 4,by rw[<-hN];exact hb.lt,hA.cell 4 rfl,hA.free 4,h.push hN hb h1 h2 h3⟩
theorem BX.po {t:Tg} (h:BX w B b b0 A L S (t::tg) M): ∃ ta tl,w.cell? ⟨b,4,none⟩=some (.pointer (some ⟨ta,0,none⟩))/\w.frozen? ⟨b,4,none⟩=false/\w.cell? ⟨ta,0,none⟩=some (.pointer tl)/\BX (w.setCell ⟨b,4,none⟩ (.pointer tl)) B b b0 A L S tg M/\Fr bT B w (w.setCell ⟨b,4,none⟩ (.pointer tl)):=by
 obtain⟨bv,cv,mv,ta,tl,tb,tc,tf,hb,ht,h,f⟩:=h.pop;exact⟨ta,tl,hb.cell 4 rfl,hb.free 4,ht.cell 0 rfl,h,f⟩
theorem BX.sb (h:BX w B b b0 A L S tg M) {j l d a:Nat} (hl:L[j]? =some l) (ha:A[d]? =some a): ∃ v,w.cell? ⟨l,1,none⟩=some v/\w.frozen? ⟨l,1,none⟩=false/\
  BX (w.setCell ⟨l,1,none⟩ (.pointer (some ⟨a,0,none⟩))) B b b0 A L (S.XG (some j) d) tg M/\Fr bT B w (w.setCell ⟨l,1,none⟩ (.pointer (some ⟨a,0,none⟩))):=
 let⟨_,_,v,_,_,hb⟩:=h.OE hl;⟨v,hb.cell 1 rfl,hb.free 1,h.Mx hl ha⟩
theorem BX.sn (h:BX w B b b0 A L S tg M) {j l d a:Nat} (hl:L[j]? =some l) (ha:A[d]? =some a): ∃ v,w.cell? ⟨l,2,none⟩=some v/\w.frozen? ⟨l,2,none⟩=false/\
  BX (w.setCell ⟨l,2,none⟩ (.pointer (some ⟨a,0,none⟩))) B b b0 A L (S.Sl (some j) d) tg M/\Fr bT B w (w.setCell ⟨l,2,none⟩ (.pointer (some ⟨a,0,none⟩))):=
 let⟨_,_,_,v,_,hb⟩:=h.OE hl;⟨v,hb.cell 2 rfl,hb.free 2,h.uw hl ha⟩
theorem zZ (h:BX w B b b0 A L S tg M) {lv:Value} {lab:Option Nat} (hl:Ls L lv lab) {hd:Hd} {n i a bb:Nat} {iv cv pv:Value} {RB:Lr} (ha:Hv w 0 a [.int .i64 (ip i),iv,cv,pv,bb] 241)
  (hiv:YA (Hv w 0) hd.init iv (lp n)) (hcv:Wv (Hv w 0) hd.cond cv (lp (n+hd.init.toNat))) (hpv:YA (Hv w 0) hd.post pv (lp (n+hd.init.toNat+hd.cond.toNat)))
  {PB:Hp->Prop} (oO:Vm PB) (hpb:PB (Hv w 0)) (hB:Qp M PB (.iface 86 (.pointer (some ⟨bb,0,none⟩))) RB) (hs:Lw hd n i lab tg RB S=some S'):
  Calls prog 106 #[b,a,lv] w fun e w'=>e=.returned (.tuple #[])/\X8 w w' B b b0 A L S' tg M:=by
 obtain⟨kd,lbl,tgt,ini,cnd,Ym,els,UU⟩:=hd;unfold Lw at hs;simp only[Z8,ZX]at hs;obtain⟨S0,g0,S1,g1,S2,g2,S3,g3,S4,g4,S6,g6,S8,g8,S9,g9,RM,g10,Pa,g12,rfl⟩:=hs;cases ini<;>cases cnd<;>cases Ym<;>rcases hl with⟨rfl,rfl⟩ |⟨j,l,rfl,rfl,hl⟩
 all_goals
  simp only[BS.XB,BS.Yq,Zw,↓reduceIte,Option.some.injEq,Z8,ZX]at g0 g3 g4 g6 g8 g9 g10 g12;have Hlen:=Zl (Lp g1) (Lp g2)
  first
   |(obtain rfl:iv=.nilIface:=by simpa [YA]using hiv
     subst g0;have g0:=True.intro)
   |(replace hiv:XI (Hv w 0) iv (lp n):=by simpa [YA]using hiv
     obtain⟨ti,qi,rfl⟩:=hiv.iface)
  first
   |(obtain rfl:cv=.nilIface:=by simpa [Wv]using hcv
     subst g3;subst g8;have g3:=True.intro;have g7:=True.intro;have g8:=True.intro)
   |(replace hcv:=hcv.yes
     obtain⟨qc,rfl⟩:=hcv.iface;obtain⟨S7,g7,Sx,g8,rfl⟩:=g8)
  first
   |(obtain rfl:pv=.nilIface:=by simpa [YA]using hpv
     subst g4;subst g12;have g4:=True.intro;have g11:=True.intro;have g12:=True.intro)
   |(replace hpv:=(hpv.resolve_left (fun h=>by simp at h)).2
     obtain⟨tp,qp,rfl⟩:=hpv.iface;obtain⟨EF,g11,g12⟩:=g12)
  have HG:=Z5 (And.intro g0 (And.intro g3 (And.intro g4 (And.intro g6 (And.intro g7 (And.intro g8 (And.intro g9 (And.intro g10 (And.intro g11 g12)))))))));have H1:=Z5 g1;have H2:=Z5 g2;clear g0 g1 g2 g3 g4 g6 g7 g8 g9 g10 g11 g12;have HB:=Z5 hB;clear hB;try(have HL:=Z5 hl;clear hl)
  obtain⟨ha,oL,oK,ew,eu⟩:=hv5 (Fr.refl bT B w) ha;go_enter func106,ntmps106
  first
   |(have f1:=Fr.refl bT B w
     have P1:=Zl (ZB A) (ZB L);have ha1:=ha;have h1:=h;have q:True:=HG.out.1;clear q)
   |(go_wp2_with fail
     refine(Wr h hiv HG.out.1).mono ?_;rintro e w1 ⟨rfl,q⟩;obtain⟨A1,L1,P1,h1,f1⟩:=q.hd;obtain⟨ha1,oJ,oI,oH,ep⟩:=hv5 f1 ha)
  go_wp2_with fail
  refine(SD h1 H1.out (Yr (ty:=207) (t0:=241) (by decide) ha1)).mono ?_;rintro e w2 ⟨a2,rfl,A2,P2,h2,f2⟩;obtain⟨ha2,oG,oF,oE,em⟩:=hv5 f2 ha1;go_wp2_with fail
  refine(SD h2 H2.out (Yr (ty:=207) (t0:=241) (by decide) ha2)).mono ?_;rintro e w3 ⟨a3,rfl,A3,P3,h3,f3⟩;obtain⟨EE,oD,oC,oB,ek⟩:=hv5 f3 ha2
  first
   |(have q:True:=HG.out.2.1
     clear q;have f4:=Fr.refl bT B w3;have P4:=nO (Zx P3.out.1 P2.out.2);have h4:=h3;have ND:=EE)
   |(go_wp2_with fail
     refine(SD h3 HG.out.2.1 (Yr (ty:=207) (t0:=241) (by decide) EE)).mono ?_;rintro e w3 ⟨a4,rfl,A4,P4,h4,f4⟩;obtain⟨ND,oz,oy,ox,ej⟩:=hv5 f4 EE)
  first
   |(have q:True:=HG.out.2.2.1
     clear q;have f5:=Fr.refl bT B w3;have P5:=nO P4.out.2;have h5:=h4;have Bt:=ND)
   |(go_wp2_with fail
     refine(SD h4 HG.out.2.2.1 (Yr (ty:=207) (t0:=241) (by decide) ND)).mono ?_;rintro e w3 ⟨a5,rfl,A5,P5,h5,f5⟩;obtain⟨Bt,ou,oq,eh,eg⟩:=hv5 f5 ND)
  have QD:=Z5 (Zx (ZW P4.out.1 P5.out.1) P3.out.2);have QB:=Z5 (Zx (ZW P3.out.1 (ZW P4.out.1 P5.out.1)) P2.out.2);have QL:=Z5 (Zx P5.out.1 P4.out.2);have QC:=Z5 P5.out.2
  first
   |(have hl:=HL.out
     obtain⟨v6,y6,z6,h6,f6⟩:=h5.sb (Zx P1.out.2 hl) QD.out;obtain⟨ha6,oh,og,dZ,dY⟩:=hv5 f6 Bt;obtain⟨v7,y7,z7,h7,f7⟩:=h6.sn (Zx P1.out.2 hl) QC.out;obtain⟨Bs,od,n9,dX,dW⟩:=hv5 f7 ha6;clear hl)
   |(have f6:=Fr.refl bT B w3
     have f7:=Fr.refl bT B w3;have h7:=h5;have Bs:=Bt)
  go_wp2_with fail
  refine(YT h7 HG.out.2.2.2.1 QL.out).mono ?_;rintro e w8 ⟨rfl,h8,f8⟩;obtain⟨Ab,n8,n6,dV,dU⟩:=hv5 f8 Bs;obtain⟨v9,y9,z9,h9,f9⟩:=h8.sc QL.out;obtain⟨uy,n5,n4,dT,dS⟩:=hv5 f9 Ab;have F9:=Z5 (f1.trans (f2.trans (f3.trans (f4.trans (f5.trans (f6.trans (f7.trans (f8.trans f9))))))))
  first
   |(have q:True:=HG.out.2.2.2.2.1
     clear q;have nZ:=F9;have h12:=h9;have Jm:=uy)
   |(have hne:=h9.neq QL.out QB.out (by have:=Hlen.out;omega)
     go_wp2_with fail
     refine(XL h9 HG.out.2.2.2.2.1 (.inr ⟨rfl,.inl (hcv.mono (Hv.bT F9.out))⟩)).mono ?_;rintro e w10 ⟨rfl,h10,f10⟩;obtain⟨My,xr,xq,nY,nW⟩:=hv5 f10 uy;go_wp2_with fail
     refine(Nb h10 HG.out.2.2.2.2.2.1 QB.out QD.out).mono ?_;rintro e w8 ⟨rfl,h11,f11⟩;obtain⟨D1,xp,xn,nV,nU⟩:=hv5 f11 My;obtain⟨v12,nM,z12,h12,f12⟩:=h11.sc QB.out;obtain⟨Jm,xl,xk,nT,nS⟩:=hv5 f12 D1;have nZ:=Z5 (F9.out.trans (f10.trans (f11.trans f12))))
  obtain⟨Z7F,y13,z13,l13,Z7E,Z7D,h13,f13⟩:=h12.pu (N:=w8.heap.size) (by simp[World.setCell]) (t:=⟨some _,some _,none⟩) (Zc.of QD.out) (Zc.of QC.out) Zc.nil;obtain⟨Aa,xh,xd,nR,nQ⟩:=hv5 f13 Jm;have F13:=Z5 (nZ.out.trans f13);go_wp2_with fail
  refine(HB.out _ _ _ _ _ _ _ _ _ h13 (oO _ _ (Hv.bT F13.out) hpb) HG.out.2.2.2.2.2.2.1).mono ?_;rintro e w14 ⟨rfl,q⟩;obtain⟨A14,L14,qu,JK,f14⟩:=q.hd;obtain⟨uv,nL,nK,Z9g,Z9f⟩:=hv5 f14 Aa;obtain⟨t15,l15,y15,z15,s15,h15,f15⟩:=JK.po;obtain⟨nJ,nI,nH,Z9e,Z9d⟩:=hv5 f15 uv;go_wp2_with fail
  refine(YT h15 HG.out.2.2.2.2.2.2.2.1 (Zx qu.out.1 QC.out)).mono ?_;rintro e w16 ⟨rfl,h16,f16⟩;obtain⟨ha16,Z9c,Z9b,Z9a,Z89⟩:=hv5 f16 nJ;have dQ:=Z5 (F13.out.trans (f14.trans (f15.trans f16)))
  first
   |(have q:True:=HG.out.2.2.2.2.2.2.2.2.1
     clear q;have F19:=dQ;have h19:=h16;have nG:=ha16;have nF:=Zl (ZB A14) (ZB L14))
   |(obtain⟨v17,y17,z17,h17,f17⟩:=h16.sc (Zx qu.out.1 QC.out)
     obtain⟨dP,Z88,Z87,Z86,Z85⟩:=hv5 f17 ha16;go_wp2_with fail
     refine(Wr h17 (hpv.mono (Hv.bT (dQ.out.trans f17))) HG.out.2.2.2.2.2.2.2.2.1).mono ?_;rintro e w18 ⟨rfl,q⟩;obtain⟨A18,L18,nF,h18,f18⟩:=q.hd;obtain⟨dO,Z84,Z83,Z82,Z81⟩:=hv5 f18 dP;go_wp2_with fail
     refine(YT h18 HG.out.2.2.2.2.2.2.2.2.2 (Zx nF.out.1 (Zx qu.out.1 QL.out))).mono ?_;rintro e w19 ⟨rfl,h19,f19⟩;obtain⟨nG,Z80,Z8Z,Z8Y,Z8X⟩:=hv5 f19 dO;have F19:=Z5 (dQ.out.trans (f17.trans (f18.trans f19))))
  obtain⟨v20,y20,z20,h20,f20⟩:=h19.sc (Zx nF.out.1 (Zx qu.out.1 QD.out));obtain⟨Z7C,Z8W,Z8V,nD,Z8U⟩:=hv5 f20 nG;go_wp2_with fail
  go_end0
  exact⟨rfl,X8.of (ZW P1.out.1 (ZW P2.out.1 (ZW P3.out.1 (ZW P4.out.1 (ZW P5.out.1 (ZW qu.out.1 nF.out.1)))))) (ZW P1.out.2 (ZW qu.out.2 nF.out.2)) h20 (F19.out.trans f20)⟩
theorem range_any (h:BX w B b b0 A L S tg M) {lv:Value} {lab:Option Nat} (hl:Ls L lv lab) {n i a bb:Nat} {cv:Value} {RB:Lr} (ha:Hv w 0 a [.int .i64 (ip i),.nilIface,.nilIface,.int .i64 0,.int .i64 0,.int .i64 0,cv,bb] 243)
  (hcv:YI (Hv w 0) cv (lp n)) {PB:Hp->Prop} (oO:Vm PB) (hpb:PB (Hv w 0)) (hB:Qp M PB (.iface 86 (.pointer (some ⟨bb,0,none⟩))) RB) (hs:UF n i lab tg RB S=some S'):
  Calls prog 107 #[b,a,lv] w fun e w'=>e=.returned (.tuple #[])/\X8 w w' B b b0 A L S' tg M:=by
 unfold UF at hs;simp only[Z8,ZX]at hs;obtain⟨S0,g0,S1,g1,S2,g2,S3,g3,S4,g4,S5,g5,S6,g6,S7,g7,rfl⟩:=hs;obtain⟨qc,rfl⟩:=hcv.iface;have HG:=F6 g0 g1 g2 g3 g4 g5 g6 g7;clear g0 g1 g2 g3 g4 g5 g6 g7;have HB:=Z5 hB;clear hB;rcases hl with⟨rfl,rfl⟩ |⟨j,l,rfl,rfl,hl⟩
 all_goals
  try(have HL:=Z5 hl;clear hl)
  obtain⟨ha,oL,oK,Z7B,Z7A⟩:=JL (Fr.refl bT B w) ha;go_enter func107,ntmps107;go_wp2_with fail
  refine(XL h HG.out.1 (.inr ⟨rfl,.inl hcv⟩)).mono ?_;rintro e w1 ⟨rfl,h1,f1⟩;obtain⟨ha1,oJ,oI,Z7z,Z7y⟩:=JL f1 ha;go_wp2_with fail
  refine(SD h1 HG.out.2.1 (Yr (ty:=209) (t0:=243) (by decide) ha1)).mono ?_;rintro e w2 ⟨a2,rfl,A2,P2,h2,f2⟩;obtain⟨ha2,oG,oF,Z7x,Z7w⟩:=JL f2 ha1;go_wp2_with fail
  refine(YT h2 HG.out.2.2.1 P2.out.2).mono ?_;rintro e w3 ⟨rfl,h3,f3⟩;obtain⟨EE,oD,oC,Z7v,Z7u⟩:=JL f3 ha2;obtain⟨v4,y4,z4,h4,f4⟩:=h3.sc P2.out.2;obtain⟨ND,oz,oy,Z7t,Z7s⟩:=JL f4 EE;go_wp2_with fail
  refine(SD h4 HG.out.2.2.2.1 (Yr (ty:=209) (t0:=243) (by decide) ND)).mono ?_;rintro e w5 ⟨a5,rfl,A5,P5,h5,f5⟩;obtain⟨Bt,ou,oq,Z7r,Z7q⟩:=JL f5 ND;go_wp2_with fail
  refine(SD h5 HG.out.2.2.2.2.1 (Yr (ty:=209) (t0:=243) (by decide) Bt)).mono ?_;rintro e w6 ⟨a6,rfl,A6,P6,h6,f6⟩;obtain⟨ha6,oh,og,Z7p,Z7o⟩:=JL f6 Bt;have QB:=Z5 (Zx P6.out.1 P5.out.2);have QL:=Z5 (Zx (ZW P5.out.1 P6.out.1) P2.out.2);go_wp2_with fail
  refine(Nb h6 HG.out.2.2.2.2.2.1 QB.out P6.out.2).mono ?_;rintro e w7 ⟨rfl,h7,f7⟩;obtain⟨Bs,od,n9,Z7n,Z7m⟩:=JL f7 ha6;obtain⟨v8,y8,z8,h8,f8⟩:=h7.sc QB.out;obtain⟨Ab,n8,n6,Z7l,Z7k⟩:=JL f8 Bs;have F8:=Z5 (f1.trans (f2.trans (f3.trans (f4.trans (f5.trans (f6.trans (f7.trans f8)))))))
  first
   |(have hl:=HL.out
     obtain⟨v9,y9,z9,h9,f9⟩:=h8.sb hl P6.out.2;obtain⟨uy,n5,n4,Z7j,Z7i⟩:=JL f9 Ab;obtain⟨v10,LL,z10,h10,f10⟩:=h9.sn hl QL.out;obtain⟨My,xr,xq,Z8T,Z8S⟩:=JL f10 uy;have F10:=Z5 (F8.out.trans (f9.trans f10));clear hl)
   |(have F10:=F8
     have h10:=h8;have My:=Ab)
  obtain⟨Z7h,y11,z11,l11,Z7g,Z7f,h11,f11⟩:=h10.pu (N:=w7.heap.size) (by simp[World.setCell]) (t:=⟨some _,some _,none⟩) (Zc.of P6.out.2) (Zc.of QL.out) Zc.nil;obtain⟨D1,xp,xn,Z8R,Z8Q⟩:=JL f11 My;have F11:=Z5 (F10.out.trans f11);go_wp2_with fail
  refine(HB.out _ _ _ _ _ _ _ _ _ h11 (oO _ _ (Hv.bT F11.out) hpb) HG.out.2.2.2.2.2.2.1).mono ?_;rintro e w12 ⟨rfl,q⟩;obtain⟨A12,L12,Br,h12,f12⟩:=q.hd;obtain⟨Jm,xl,xk,Z8P,Z8O⟩:=JL f12 D1;obtain⟨t13,l13,y13,z13,s13,h13,f13⟩:=h12.po;obtain⟨Aa,xh,xd,Z8N,Z8M⟩:=JL f13 Jm;go_wp2_with fail
  refine(YT h13 HG.out.2.2.2.2.2.2.2 (Zx Br.out.1 QL.out)).mono ?_;rintro e w14 ⟨rfl,JK,f14⟩;obtain⟨uv,nL,nK,Z8L,Z8K⟩:=JL f14 Aa;obtain⟨v15,y15,z15,h15,f15⟩:=JK.sc (Zx Br.out.1 P6.out.2);obtain⟨nJ,nI,nH,Z8J,Z8I⟩:=JL f15 uv;go_wp2_with fail
  go_end0
  exact⟨rfl,X8.of (ZW P2.out.1 (ZW P5.out.1 (ZW P6.out.1 Br.out.1))) Br.out.2 h15 (F11.out.trans (f12.trans (f13.trans (f14.trans f15))))⟩
end Go.Proofs.YteedbaejpdjilaaGreat
