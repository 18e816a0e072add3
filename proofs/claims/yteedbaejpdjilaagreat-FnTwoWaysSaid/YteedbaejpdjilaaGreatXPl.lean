/- Part of the proof: BldT. -/
import Derived.Test.YteedbaejpdjilaaGreatXPk
set_option linter.all false
set_option maxRecDepth 100000
set_option maxHeartbeats 40000000
namespace Go.Proofs.YteedbaejpdjilaaGreat
open Go.RowKit
attribute [local go_sem] ER
variable {w w':World} {B b b0:Nat} {A L:List Nat} {S S':BS} {tg:List Tg} {M:Mk}
theorem pR {A:List Nat} {i a:Nat} (h:A[i]? =some a):Hid (A <+:A∧A[i]? =some a):=⟨ZT A,h⟩
theorem BX.pu (h:BX w B b b0 A L S tg M) {N:Nat} (hN:w.heap.size=N) {t:Tg} {v1 v2 v3:Value} (h1:ZI A v1 t.brk) (h2:ZI A v2 t.cnt) (h3:ZI A v3 t.fal):
  ∃ tp,w.cell? ⟨b,4,none⟩=some (.pointer tp)∧w.frozen? ⟨b,4,none⟩=false∧b < N∧(w.alloc (.cells [.pointer tp,v1,v2,v3].toArray 223)).cell? ⟨b,4,none⟩=some (.pointer tp)∧(w.alloc (.cells [.pointer tp,v1,v2,v3].toArray 223)).frozen? ⟨b,4,none⟩=false∧
   BX ((w.setCell ⟨b,4,none⟩ (.pointer (some ⟨N,0,none⟩))).alloc (.cells [.pointer tp,v1,v2,v3].toArray 223)) B b b0 A L S (t::tg) M∧Fr bT B w ((w.setCell ⟨b,4,none⟩ (.pointer (some ⟨N,0,none⟩))).alloc (.cells [.pointer tp,v1,v2,v3].toArray 223)):=by
 obtain⟨bv,cv,mv,tv,hb,_,ht⟩:=h.blk;obtain⟨tp,rfl⟩:=ht.ptr;have hA:=hb.alloc (.cells [.pointer tp,v1,v2,v3].toArray 223);exact⟨tp,hb.cell 4 rfl,hb.free 4,by rw[<-hN];exact hb.lt,hA.cell 4 rfl,hA.free 4,h.push hN hb h1 h2 h3⟩
theorem BX.po {t:Tg} (h:BX w B b b0 A L S (t::tg) M): ∃ ta tl,w.cell? ⟨b,4,none⟩=some (.pointer (some ⟨ta,0,none⟩))∧w.frozen? ⟨b,4,none⟩=false∧w.cell? ⟨ta,0,none⟩=some (.pointer tl)∧BX (w.setCell ⟨b,4,none⟩ (.pointer tl)) B b b0 A L S tg M∧Fr bT B w (w.setCell ⟨b,4,none⟩ (.pointer tl)):=by
 obtain⟨bv,cv,mv,ta,tl,tb,tc,tf,hb,ht,h,f⟩:=h.pop;exact⟨ta,tl,hb.cell 4 rfl,hb.free 4,ht.cell 0 rfl,h,f⟩
theorem BX.sb (h:BX w B b b0 A L S tg M) {j l d a:Nat} (hl:L[j]? =some l) (ha:A[d]? =some a): ∃ v,w.cell? ⟨l,1,none⟩=some v∧w.frozen? ⟨l,1,none⟩=false∧
  BX (w.setCell ⟨l,1,none⟩ (.pointer (some ⟨a,0,none⟩))) B b b0 A L (S.YD (some j) d) tg M∧Fr bT B w (w.setCell ⟨l,1,none⟩ (.pointer (some ⟨a,0,none⟩))):=
 let⟨_,_,v,_,_,hb⟩:=h.Qr hl;⟨v,hb.cell 1 rfl,hb.free 1,h.Og hl ha⟩
theorem BX.sn (h:BX w B b b0 A L S tg M) {j l d a:Nat} (hl:L[j]? =some l) (ha:A[d]? =some a): ∃ v,w.cell? ⟨l,2,none⟩=some v∧w.frozen? ⟨l,2,none⟩=false∧
  BX (w.setCell ⟨l,2,none⟩ (.pointer (some ⟨a,0,none⟩))) B b b0 A L (S.UA (some j) d) tg M∧Fr bT B w (w.setCell ⟨l,2,none⟩ (.pointer (some ⟨a,0,none⟩))):=
 let⟨_,_,_,v,_,hb⟩:=h.Qr hl;⟨v,hb.cell 2 rfl,hb.free 2,h.rH hl ha⟩
theorem yN (h:BX w B b b0 A L S tg M) {lv:Value} {lab:Option Nat} (hl:Lj L lv lab) {hd:Hd} {n i a bb:Nat} {iv cv pv:Value} {RB:Lr} (ha:Hv w 0 a [.int .i64 (ip i),iv,cv,pv,bb] 241)
  (hiv:Zk (Hv w 0) hd.init iv (lp n)) (hcv:Xv (Hv w 0) hd.cond cv (lp (n+hd.init.toNat))) (hpv:Zk (Hv w 0) hd.post pv (lp (n+hd.init.toNat+hd.cond.toNat)))
  {PB:Hp->Prop} (hPB:Wu PB) (hpb:PB (Hv w 0)) (hB:SE M PB (.iface 86 (.pointer (some ⟨bb,0,none⟩))) RB) (hs:Le hd n i lab tg RB S=some S'):
  Calls Tryz.prog 106 #[b,a,lv] w fun e w'=>e=.returned (.tuple #[])∧YX w w' B b b0 A L S' tg M:=by
 obtain⟨kd,lbl,tgt,ini,cnd,pst,els,chn⟩:=hd;unfold Le at hs;simp only[Option.bind_eq_some_iff,Option.map_eq_some_iff]at hs;obtain⟨S0,g0,S1,g1,S2,g2,S3,g3,S4,g4,S6,g6,S8,g8,S9,g9,S10,g10,S12,g12,rfl⟩:=hs;cases ini<;>cases cnd<;>cases pst<;>rcases hl with⟨rfl,rfl⟩ |⟨j,l,rfl,rfl,hl⟩
 all_goals
  simp only[BS.Yy,BS.Zf,Bool.false_eq_true,↓reduceIte,Option.some.injEq,Option.bind_eq_some_iff,Option.map_eq_some_iff]at g0 g3 g4 g6 g8 g9 g10 g12;have Hlen:=ZL (MB g1) (MB g2)
  first
   |(obtain rfl:iv=.nilIface:=by simpa [Zk]using hiv
     subst g0;have g0:=True.intro)
   |(replace hiv:YG (Hv w 0) iv (lp n):=by simpa [Zk]using hiv
     obtain⟨ti,qi,rfl⟩:=hiv.iface)
  first
   |(obtain rfl:cv=.nilIface:=by simpa [Xv]using hcv
     subst g3;subst g8;have g3:=True.intro;have g7:=True.intro;have g8:=True.intro)
   |(replace hcv:=hcv.yes
     obtain⟨qc,rfl⟩:=hcv.iface;obtain⟨S7,g7,Sx,g8,rfl⟩:=g8)
  first
   |(obtain rfl:pv=.nilIface:=by simpa [Zk]using hpv
     subst g4;subst g12;have g4:=True.intro;have g11:=True.intro;have g12:=True.intro)
   |(replace hpv:=(hpv.resolve_left (fun h=>by simp at h)).2
     obtain⟨tp,qp,rfl⟩:=hpv.iface;obtain⟨S11,g11,g12⟩:=g12)
  have HG:=Z9 (And.intro g0 (And.intro g3 (And.intro g4 (And.intro g6 (And.intro g7 (And.intro g8 (And.intro g9 (And.intro g10 (And.intro g11 g12)))))))));have H1:=Z9 g1;have H2:=Z9 g2;clear g0 g1 g2 g3 g4 g6 g7 g8 g9 g10 g11 g12;have HB:=Z9 hB;clear hB;try(have HL:=Z9 hl;clear hl)
  obtain⟨ha,x0_1,x0_2,x0_3,x0_4⟩:=hv5 (Fr.refl bT B w) ha;go_enter Tryz.func106,Tryz.ntmps106
  first
   |(have f1:=Fr.refl bT B w
     have P1:=ZL (ZT A) (ZT L);have ha1:=ha;have h1:=h;have q:True:=HG.out.1;clear q)
   |(go_wp2_with fail
     refine(Xu h hiv HG.out.1).mono ?_;rintro e w1 ⟨rfl,q⟩;obtain⟨A1,L1,P1,h1,f1⟩:=q.hd;obtain⟨ha1,x1_1,x1_2,x1_3,x1_4⟩:=hv5 f1 ha)
  go_wp2_with fail
  refine(UO h1 H1.out (Zh (ty:=207) (t0:=241) (by decide) ha1)).mono ?_;rintro e w2 ⟨a2,rfl,A2,P2,h2,f2⟩;obtain⟨ha2,x2_1,x2_2,x2_3,x2_4⟩:=hv5 f2 ha1;go_wp2_with fail
  refine(UO h2 H2.out (Zh (ty:=207) (t0:=241) (by decide) ha2)).mono ?_;rintro e w3 ⟨a3,rfl,A3,P3,h3,f3⟩;obtain⟨ha3,x3_1,x3_2,x3_3,x3_4⟩:=hv5 f3 ha2
  first
   |(have q:True:=HG.out.2.1
     clear q;have f4:=Fr.refl bT B w3;have P4:=pR (ZQ P3.out.1 P2.out.2);have h4:=h3;have ha4:=ha3)
   |(go_wp2_with fail
     refine(UO h3 HG.out.2.1 (Zh (ty:=207) (t0:=241) (by decide) ha3)).mono ?_;rintro e w3 ⟨a4,rfl,A4,P4,h4,f4⟩;obtain⟨ha4,x4_1,x4_2,x4_3,x4_4⟩:=hv5 f4 ha3)
  first
   |(have q:True:=HG.out.2.2.1
     clear q;have f5:=Fr.refl bT B w3;have P5:=pR P4.out.2;have h5:=h4;have ha5:=ha4)
   |(go_wp2_with fail
     refine(UO h4 HG.out.2.2.1 (Zh (ty:=207) (t0:=241) (by decide) ha4)).mono ?_;rintro e w3 ⟨a5,rfl,A5,P5,h5,f5⟩;obtain⟨ha5,x5_1,x5_2,x5_3,x5_4⟩:=hv5 f5 ha4)
  have QD:=Z9 (ZQ (Z7 P4.out.1 P5.out.1) P3.out.2);have QB:=Z9 (ZQ (Z7 P3.out.1 (Z7 P4.out.1 P5.out.1)) P2.out.2);have QL:=Z9 (ZQ P5.out.1 P4.out.2);have QC:=Z9 P5.out.2
  first
   |(have hl:=HL.out
     obtain⟨v6,y6,z6,h6,f6⟩:=h5.sb (ZQ P1.out.2 hl) QD.out;obtain⟨ha6,x6_1,x6_2,x6_3,x6_4⟩:=hv5 f6 ha5;obtain⟨v7,y7,z7,h7,f7⟩:=h6.sn (ZQ P1.out.2 hl) QC.out;obtain⟨ha7,x7_1,x7_2,x7_3,x7_4⟩:=hv5 f7 ha6;clear hl)
   |(have f6:=Fr.refl bT B w3
     have f7:=Fr.refl bT B w3;have h7:=h5;have ha7:=ha5)
  go_wp2_with fail
  refine(Zx h7 HG.out.2.2.2.1 QL.out).mono ?_;rintro e w8 ⟨rfl,h8,f8⟩;obtain⟨ha8,x8_1,x8_2,x8_3,x8_4⟩:=hv5 f8 ha7;obtain⟨v9,y9,z9,h9,f9⟩:=h8.sc QL.out;obtain⟨ha9,x9_1,x9_2,x9_3,x9_4⟩:=hv5 f9 ha8;have F9:=Z9 (f1.trans (f2.trans (f3.trans (f4.trans (f5.trans (f6.trans (f7.trans (f8.trans f9))))))))
  first
   |(have q:True:=HG.out.2.2.2.2.1
     clear q;have F12:=F9;have h12:=h9;have ha12:=ha9)
   |(have hne:=h9.neq QL.out QB.out (by have:=Hlen.out;omega)
     go_wp2_with fail
     refine(YI h9 HG.out.2.2.2.2.1 (.inr ⟨rfl,.inl (hcv.mono (Hv.bT F9.out))⟩)).mono ?_;rintro e w10 ⟨rfl,h10,f10⟩;obtain⟨ha10,x10_1,x10_2,x10_3,x10_4⟩:=hv5 f10 ha9;go_wp2_with fail
     refine(OO h10 HG.out.2.2.2.2.2.1 QB.out QD.out).mono ?_;rintro e w8 ⟨rfl,h11,f11⟩;obtain⟨ha11,x11_1,x11_2,x11_3,x11_4⟩:=hv5 f11 ha10;obtain⟨v12,y12,z12,h12,f12⟩:=h11.sc QB.out;obtain⟨ha12,x12_1,x12_2,x12_3,x12_4⟩:=hv5 f12 ha11;have F12:=Z9 (F9.out.trans (f10.trans (f11.trans f12))))
  obtain⟨tp13,y13,z13,l13,yA13,zA13,h13,f13⟩:=h12.pu (N:=w8.heap.size) (by simp[World.setCell]) (t:=⟨some _,some _,none⟩) (ZI.of QD.out) (ZI.of QC.out) ZI.nil;obtain⟨ha13,x13_1,x13_2,x13_3,x13_4⟩:=hv5 f13 ha12;have F13:=Z9 (F12.out.trans f13);go_wp2_with fail
  refine(HB.out _ _ _ _ _ _ _ _ _ h13 (hPB _ _ (Hv.bT F13.out) hpb) HG.out.2.2.2.2.2.2.1).mono ?_;rintro e w14 ⟨rfl,q⟩;obtain⟨A14,L14,P14,h14,f14⟩:=q.hd;obtain⟨ha14,x14_1,x14_2,x14_3,x14_4⟩:=hv5 f14 ha13;obtain⟨t15,l15,y15,z15,s15,h15,f15⟩:=h14.po;obtain⟨ha15,x15_1,x15_2,x15_3,x15_4⟩:=hv5 f15 ha14;go_wp2_with fail
  refine(Zx h15 HG.out.2.2.2.2.2.2.2.1 (ZQ P14.out.1 QC.out)).mono ?_;rintro e w16 ⟨rfl,h16,f16⟩;obtain⟨ha16,x16_1,x16_2,x16_3,x16_4⟩:=hv5 f16 ha15;have F16:=Z9 (F13.out.trans (f14.trans (f15.trans f16)))
  first
   |(have q:True:=HG.out.2.2.2.2.2.2.2.2.1
     clear q;have F19:=F16;have h19:=h16;have ha19:=ha16;have P19:=ZL (ZT A14) (ZT L14))
   |(obtain⟨v17,y17,z17,h17,f17⟩:=h16.sc (ZQ P14.out.1 QC.out)
     obtain⟨ha17,x17_1,x17_2,x17_3,x17_4⟩:=hv5 f17 ha16;go_wp2_with fail
     refine(Xu h17 (hpv.mono (Hv.bT (F16.out.trans f17))) HG.out.2.2.2.2.2.2.2.2.1).mono ?_;rintro e w18 ⟨rfl,q⟩;obtain⟨A18,L18,P19,h18,f18⟩:=q.hd;obtain⟨ha18,x18_1,x18_2,x18_3,x18_4⟩:=hv5 f18 ha17;go_wp2_with fail
     refine(Zx h18 HG.out.2.2.2.2.2.2.2.2.2 (ZQ P19.out.1 (ZQ P14.out.1 QL.out))).mono ?_;rintro e w19 ⟨rfl,h19,f19⟩;obtain⟨ha19,x19_1,x19_2,x19_3,x19_4⟩:=hv5 f19 ha18;have F19:=Z9 (F16.out.trans (f17.trans (f18.trans f19))))
  obtain⟨v20,y20,z20,h20,f20⟩:=h19.sc (ZQ P19.out.1 (ZQ P14.out.1 QD.out));obtain⟨ha20,x20_1,x20_2,x20_3,x20_4⟩:=hv5 f20 ha19;go_wp2_with fail
  go_end0
  exact⟨rfl,YX.of (Z7 P1.out.1 (Z7 P2.out.1 (Z7 P3.out.1 (Z7 P4.out.1 (Z7 P5.out.1 (Z7 P14.out.1 P19.out.1)))))) (Z7 P1.out.2 (Z7 P14.out.2 P19.out.2)) h20 (F19.out.trans f20)⟩
theorem range_any (h:BX w B b b0 A L S tg M) {lv:Value} {lab:Option Nat} (hl:Lj L lv lab) {n i a bb:Nat} {cv:Value} {RB:Lr} (ha:Hv w 0 a [.int .i64 (ip i),.nilIface,.nilIface,.int .i64 0,.int .i64 0,.int .i64 0,cv,bb] 243)
  (hcv:Zp (Hv w 0) cv (lp n)) {PB:Hp->Prop} (hPB:Wu PB) (hpb:PB (Hv w 0)) (hB:SE M PB (.iface 86 (.pointer (some ⟨bb,0,none⟩))) RB) (hs:Vr n i lab tg RB S=some S'):
  Calls Tryz.prog 107 #[b,a,lv] w fun e w'=>e=.returned (.tuple #[])∧YX w w' B b b0 A L S' tg M:=by
 unfold Vr at hs;simp only[Option.bind_eq_some_iff,Option.map_eq_some_iff]at hs;obtain⟨S0,g0,S1,g1,S2,g2,S3,g3,S4,g4,S5,g5,S6,g6,S7,g7,rfl⟩:=hs;obtain⟨qc,rfl⟩:=hcv.iface;have HG:=Gx g0 g1 g2 g3 g4 g5 g6 g7;clear g0 g1 g2 g3 g4 g5 g6 g7;have HB:=Z9 hB;clear hB;rcases hl with⟨rfl,rfl⟩ |⟨j,l,rfl,rfl,hl⟩
 all_goals
  try(have HL:=Z9 hl;clear hl)
  obtain⟨ha,x0_1,x0_2,x0_6,x0_7⟩:=KU (Fr.refl bT B w) ha;go_enter Tryz.func107,Tryz.ntmps107;go_wp2_with fail
  refine(YI h HG.out.1 (.inr ⟨rfl,.inl hcv⟩)).mono ?_;rintro e w1 ⟨rfl,h1,f1⟩;obtain⟨ha1,x1_1,x1_2,x1_6,x1_7⟩:=KU f1 ha;go_wp2_with fail
  refine(UO h1 HG.out.2.1 (Zh (ty:=209) (t0:=243) (by decide) ha1)).mono ?_;rintro e w2 ⟨a2,rfl,A2,P2,h2,f2⟩;obtain⟨ha2,x2_1,x2_2,x2_6,x2_7⟩:=KU f2 ha1;go_wp2_with fail
  refine(Zx h2 HG.out.2.2.1 P2.out.2).mono ?_;rintro e w3 ⟨rfl,h3,f3⟩;obtain⟨ha3,x3_1,x3_2,x3_6,x3_7⟩:=KU f3 ha2;obtain⟨v4,y4,z4,h4,f4⟩:=h3.sc P2.out.2;obtain⟨ha4,x4_1,x4_2,x4_6,x4_7⟩:=KU f4 ha3;go_wp2_with fail
  refine(UO h4 HG.out.2.2.2.1 (Zh (ty:=209) (t0:=243) (by decide) ha4)).mono ?_;rintro e w5 ⟨a5,rfl,A5,P5,h5,f5⟩;obtain⟨ha5,x5_1,x5_2,x5_6,x5_7⟩:=KU f5 ha4;go_wp2_with fail
  refine(UO h5 HG.out.2.2.2.2.1 (Zh (ty:=209) (t0:=243) (by decide) ha5)).mono ?_;rintro e w6 ⟨a6,rfl,A6,P6,h6,f6⟩;obtain⟨ha6,x6_1,x6_2,x6_6,x6_7⟩:=KU f6 ha5;have QB:=Z9 (ZQ P6.out.1 P5.out.2);have QL:=Z9 (ZQ (Z7 P5.out.1 P6.out.1) P2.out.2);go_wp2_with fail
  refine(OO h6 HG.out.2.2.2.2.2.1 QB.out P6.out.2).mono ?_;rintro e w7 ⟨rfl,h7,f7⟩;obtain⟨ha7,x7_1,x7_2,x7_6,x7_7⟩:=KU f7 ha6;obtain⟨v8,y8,z8,h8,f8⟩:=h7.sc QB.out;obtain⟨ha8,x8_1,x8_2,x8_6,x8_7⟩:=KU f8 ha7;have F8:=Z9 (f1.trans (f2.trans (f3.trans (f4.trans (f5.trans (f6.trans (f7.trans f8)))))))
  first
   |(have hl:=HL.out
     obtain⟨v9,y9,z9,h9,f9⟩:=h8.sb hl P6.out.2;obtain⟨ha9,x9_1,x9_2,x9_6,x9_7⟩:=KU f9 ha8;obtain⟨v10,y10,z10,h10,f10⟩:=h9.sn hl QL.out;obtain⟨ha10,x10_1,x10_2,x10_6,x10_7⟩:=KU f10 ha9;have F10:=Z9 (F8.out.trans (f9.trans f10));clear hl)
   |(have F10:=F8
     have h10:=h8;have ha10:=ha8)
  obtain⟨tp11,y11,z11,l11,yA11,zA11,h11,f11⟩:=h10.pu (N:=w7.heap.size) (by simp[World.setCell]) (t:=⟨some _,some _,none⟩) (ZI.of P6.out.2) (ZI.of QL.out) ZI.nil;obtain⟨ha11,x11_1,x11_2,x11_6,x11_7⟩:=KU f11 ha10;have F11:=Z9 (F10.out.trans f11);go_wp2_with fail
  refine(HB.out _ _ _ _ _ _ _ _ _ h11 (hPB _ _ (Hv.bT F11.out) hpb) HG.out.2.2.2.2.2.2.1).mono ?_;rintro e w12 ⟨rfl,q⟩;obtain⟨A12,L12,P12,h12,f12⟩:=q.hd;obtain⟨ha12,x12_1,x12_2,x12_6,x12_7⟩:=KU f12 ha11;obtain⟨t13,l13,y13,z13,s13,h13,f13⟩:=h12.po;obtain⟨ha13,x13_1,x13_2,x13_6,x13_7⟩:=KU f13 ha12;go_wp2_with fail
  refine(Zx h13 HG.out.2.2.2.2.2.2.2 (ZQ P12.out.1 QL.out)).mono ?_;rintro e w14 ⟨rfl,h14,f14⟩;obtain⟨ha14,x14_1,x14_2,x14_6,x14_7⟩:=KU f14 ha13;obtain⟨v15,y15,z15,h15,f15⟩:=h14.sc (ZQ P12.out.1 P6.out.2);obtain⟨ha15,x15_1,x15_2,x15_6,x15_7⟩:=KU f15 ha14;go_wp2_with fail
  go_end0
  exact⟨rfl,YX.of (Z7 P2.out.1 (Z7 P5.out.1 (Z7 P6.out.1 P12.out.1))) P12.out.2 h15 (F11.out.trans (f12.trans (f13.trans (f14.trans f15))))⟩
end Go.Proofs.YteedbaejpdjilaaGreat
