/- Part of the proof: NodK. -/
import Derived.Test.YteedbaejpdjilaaGreatYPz
import Derived.Test.YteedbaejpdjilaaGreatYQb
import Derived.Test.YteedbaejpdjilaaGreatYQc
set_option linter.all false
set_option maxRecDepth 100000
set_option maxHeartbeats 40000000
namespace Go.Proofs.YteedbaejpdjilaaGreat
open Go.RowKit Tryz
theorem CX.jN {w w0 wr:World} {B p:Nat} {lv nv rv:Value} {sc:List Value} {x g cap:Nat} {nd:Nd} {vb ve vc:Value} {Yn:List V1} {ts os:List Int} {LS:List Lf} {NR I0 RR:List (List Value)} {num:Int} {rt:Bool} {XO XY cv tv ov:Value} {ns:List Nd} {NS:List (List Value)} {rs:List Rw} {RS:List (List Value)}
  (h:CX w w0 B p lv nv rv sc x nd vb ve vc Yn ts os LS NR RR num rt XO (.slice (some ⟨g,0,none⟩) NR.length cap) XY cv tv ov ns NS rs RS wr) (e:NR=I0):CX w w0 B p lv nv rv sc x nd vb ve vc Yn ts os LS I0 RR num rt XO (.slice (some ⟨g,0,none⟩) I0.length cap) XY cv tv ov ns NS rs RS wr:=by
 subst e;exact h
theorem rQ {w wx:World} {B p:Nat} {lv nv rv Yu:Value} {k0:Int} {k1 k2:ByteArray} {k3 k4 k5 k6 k7:Bool} {b0 e0 c0:Option Addr} {b1 b2 e1 e2 c1 c2:Nat} {LS:List Lf} {NR RR:List (List Value)} {num:Int} {rt:Bool} {a pl N0:Nat} {Q:Exit->Act->World->Prop}
  (h:R3 w B p lv nv rv [.int .i64 k0,k1,k2,k3,k4,k5,k6,k7,.slice b0 b1 b2,.slice e0 e1 e2,.slice c0 c1 c2] LS NR RR num rt Yu wx) (hnum:0<=num/\num<=1000000)
  (hK: ∀ (wz:World) (x:Nat) (A:Act),Og p a pl w.heap.size N0 x A->NX w B p lv nv rv [.int .i64 k0,k1,k2,k3,k4,k5,k6,k7,.slice b0 b1 b2,.slice e0 e1 e2,.slice c0 c1 c2] x (ZQ { Nd.raw ⟨k0,k1,k2,k3,k4,k5,k6,k7⟩ a pl with number:=num } (.slice b0 b1 b2) (.slice e0 e1 e2) (.slice c0 c1 c2) (.slice none 0 0) (.slice none 0 0) (.slice none 0 0)) LS NR RR (num+1) rt lv Yu rv wz->Code.wp prog (W9 4) Q A wz) {u1 u4 u6 u7 u8 u10 u11 u12 u13 u14 u15 u16 VC VB VA u20 u21 u22 u23 u24 u25 u26 u27 u28 u29 u30 u31 u32 u33 u34 u35 u36 u37 u38 KP u40 KO u42 KN u44 u45 u46 KM u48 u49 KL u51 KK u53 KJ u55 KI KH u58 u59 u60 u61 KG u63 u64 KF u66 KE u68 u69 u70 KD u72 u73 KC u75 KB KA Kz Ky Kx Kw Kv Ku Kt Ks Kr Kq Kp Ko Kn Km Kl u93 Kk Kj Ki Kh Kg Kf Us Ur Uq Up Uo u105 Un Um Ul Uk Uj Ui Uh Ug Uf Ue Ud Uc Ub u119 Ua T9 T8 T7 u124 T6 T5 u127 T4 T3 T1 u131 Rk Te Sd Sc Sb R9 u138 u139 R8 R7 R6 R5 R4 Td Tc Tb Ta SZ SY SX u152 SW u154 SV SU ST SS SR SQ SP u162 SO u164 SN SM SL TY PP QG Rj SK R0 SJ SI TX:Value} :
  Code.wp prog (W9 3) Q ⟨#[.pointer (some ⟨p,0,none⟩),u1,.int .i64 a,.int .i64 pl,u4,.pointer (some ⟨w.heap.size,0,none⟩),u6,u7,u8,.int .i64 N0,u10,u11,u12,u13,u14,u15,u16,VC,VB,VA,u20,u21,u22,u23,u24,u25,u26,u27,u28,u29,u30,u31,u32,u33,u34,u35,u36,u37,u38,KP,u40,KO,u42,KN,u44,u45,u46,KM,u48,u49,KL,u51,KK,u53,KJ,u55,KI,KH,u58,u59,u60,u61,KG,u63,u64,KF,u66,KE,u68,u69,u70,KD,u72,u73,KC,u75,KB,KA,Kz,Ky,Kx,Kw,Kv,Ku,Kt,Ks,Kr,Kq,Kp,Ko,Kn,Km,Kl,u93,Kk,Kj,Ki,Kh,Kg,Kf,Us,Ur,Uq,Up,Uo,u105,Un,Um,Ul,Uk,Uj,Ui,Uh,Ug,Uf,Ue,Ud,Uc,Ub,u119,Ua,T9,T8,T7,u124,T6,T5,u127,T4,T3,T1,u131,Rk,Te,Sd,Sc,Sb,R9,u138,u139,R8,R7,R6,R5,R4,Td,Tc,Tb,Ta,SZ,SY,SX,u152,SW,u154,SV,SU,ST,SS,SR,SQ,SP,u162,SO,u164,SN,SM,SL,TY,PP,QG,Rj,SK,R0,SJ,SI,TX],[]⟩ wx:=by
 have HK:=Z5 hK;clear hK;conv=>arg 2;whnf
 refine wp_seq_k (fun K Rl=>?_);have HKK:=Z5 Rl;clear Rl;refine QH ?_;refine Z9Z h hnum ?_;intro wz x y32 y33 y34 y35 y36 y37 hX;refine HKK.out _ _ ?_;exact HK.out _ _ _ Md hX
theorem yv {w wx:World} {B p a pl s:Nat} {lv nv rv:Value} {sc:List Value} {x g cap:Nat} {nd:Nd} {b0 e0 c0 f0 t0 o0:Option Addr} {b1 b2 e1 e2 c1 c2 f1 f2 t1 t2 o1 o2:Nat} {LS:List Lf} {NR NS RR:List (List Value)} {ROW:List Value} {num:Int} {rt:Bool} {XO XY:Value} {Q:Exit->Act->World->Prop}
  (hX:NX w B p lv nv rv sc x (ZQ nd (.slice b0 b1 b2) (.slice e0 e1 e2) (.slice c0 c1 c2) (.slice f0 f1 f2) (.slice t0 t1 t2) (.slice o0 o1 o2)) LS (NR++(ROW::NS)) RR num rt XO (.slice (some ⟨g,0,none⟩) (NR++(ROW::NS)).length cap) XY wx)
  (hK: ∀ (wz:World) (A:Act),Og p a pl s NR.length x A->wz=wx.drew.setCells g (NR.length*24) (ZQ nd (.slice b0 b1 b2) (.slice e0 e1 e2) (.slice c0 c1 c2) (.slice f0 f1 f2) (.slice t0 t1 t2) (.slice o0 o1 o2))->Code.wp prog (W9 13) Q A wz) {A:Act} (hA:Og p a pl s NR.length x A:=by assumption):
  Code.wp prog (W9 12) Q A wx:=by
 obtain⟨u,rfl⟩:=hA.out;have HK:=Z5 hK;clear hK;conv=>arg 2;whnf
 refine wp_seq_k (fun K Rl=>?_);have HKK:=Z5 Rl;clear Rl;refine QH ?_;refine jT hX ?_;intro wz Z5Y Z5X Z5W Z5V Z5U Z5T Z5S hz;refine HKK.out _ _ ?_;exact HK.out _ _ Md hz
theorem yu (h:Hd) (b e c:T) (hb:Ti b) (he:Ti e) (hc:c.All Ti):vN h b e c:=by
 intro w B p m ls NR RR num rt lv nv rv vb ve vc b1 o1 b2 o2 b3 o3 a pl hT hS hm s1 a1 s2 a2 s3 a3;obtain⟨ba,bc,rfl,_⟩:=ZU s1;obtain⟨ea,ec,rfl,_⟩:=ZU s2;obtain⟨ca,cc,rfl,_⟩:=ZU s3;obtain⟨na,nc,rfl⟩:=ZR hT.n;have hpl:=hT.blk.lt;have Bj:=hT.hB;have hBw:B<=w.heap.size:=by omega
 have hNl:NR.length<=90000:=by have:=hS.2.1;omega
 have HT:=Zl hT hS;have HA:=Qd s1 a1 s2 a2 s3 a3;obtain⟨hk0,hk1,hk2,hk3,hk4,hk5,hk6,YJ⟩:=h;obtain⟨X,hX⟩: ∃ X:List Value,X= [.int .i64 hk0,.string hk1,.string hk2,.bool hk3,.bool hk4,.bool hk5,.bool hk6,.bool YJ,.slice ba b.len bc,.slice ea e.len ec,.slice ca c.len cc]:=⟨_,rfl⟩
 have fA:Fr [] B w (w.alloc (.cells X.toArray 76)):=(Fr.refl _ _ _).alloc hBw _;have oA:Only [] w (w.alloc (.cells X.toArray 76)):=(Only.refl _ _).alloc _;have xA:=ZD.new w X 76;have TA:=hT.fr fA (by decide);have sA:(w.alloc (.cells X.toArray 76)).heap.size=w.heap.size+1:=by simp
 subst hX;have c1:=TA.blk.cell 1 rfl;have y0:=xA.cell 0 rfl;have y1:=xA.cell 1 rfl;have y2:=xA.cell 2 rfl;have y3:=xA.cell 3 rfl;have y4:=xA.cell 4 rfl;have y5:=xA.cell 5 rfl;have y6:=xA.cell 6 rfl;have y7:=xA.cell 7 rfl;have y8:=xA.cell 8 rfl;have y9:=xA.cell 9 rfl;have LL:=xA.cell 10 rfl;clear hT hS s1 a1 s2 a2 s3 a3;unfold M9;go_enter func93,ntmps93;go_upto_region 2 with fail
 go_cut [] (fun wx=>N2 w B p ls NR RR num rt lv (.slice na NR.length nc) rv ⟨hk0,hk1,hk2,hk3,hk4,hk5,hk6,YJ⟩ (.slice ba b.len bc) (.slice ea e.len ec) (.slice ca c.len cc) a pl wx)
 case first=>
  have hBA:B<=(w.alloc (.cells #[.int .i64 hk0,hk1,hk2,hk3,hk4,hk5,hk6,YJ,.slice ba b.len bc,.slice ea e.len ec,.slice ca c.len cc] 76)).heap.size:=by omega
  generalize hwA:w.alloc (.cells #[.int .i64 hk0,hk1,hk2,hk3,hk4,hk5,hk6,YJ,.slice ba b.len bc,.slice ea e.len ec,.slice ca c.len cc] 76)=wA at*;have HSA:=Z5 sA;have HWA:=Z5 hwA;clear sA hwA;have tn:=TA.n;have tb:=TA.blk;have cA1:=(tb.alloc (.cells [.int .i64 hk0,.string hk1,.string hk2,.bool hk3,.bool hk4,.bool hk5,.bool hk6,.bool YJ,.slice ba b.len bc,.slice ea e.len ec,.slice ca c.len cc,.int .i64 0,.int .i64 a,.int .i64 pl,.int .i64 0,.int .i64 0,.int .i64 0,.int .i64 0,.int .i64 (-1),.int .i64 (-1),.slice none 0 0,.slice none 0 0,.slice none 0 0,.int .i64 (-1)].toArray 79)).cell 1 rfl
  go_region_law (first
   |(refine XQ wA _ rfl _ _ 68 rfl B 79 z79 24 272 underlying68 sD rfl (by decide) (by decide) tn (by rfl) (ZQ (Nd.raw ⟨hk0,hk1,hk2,hk3,hk4,hk5,hk6,YJ⟩ a pl) (.slice ba b.len bc) (.slice ea e.len ec) (.slice ca c.len cc) (.slice none 0 0) (.slice none 0 0) (.slice none 0 0)) rfl (by simp[Value.oneCell',ZQ]) (by rfl) (by omega) (by omega) (by first|exact .inl rfl|exact .inr rfl) ?_;intro g cap w3 hown3 hg3 So hlt3;have hb3:=tb.grown hg3 (own_ne tn tb.ty (by decide));have AG:=hb3.free 1;have c31:=hb3.cell 1 rfl))
  all_goals
   have hS:=Z5 (CT (h:=⟨hk0,hk1,hk2,hk3,hk4,hk5,hk6,YJ⟩) (vb:=.slice ba b.len bc) (ve:=.slice ea e.len ec) (vc:=.slice ca c.len cc) (a:=a) (pl:=pl) TA fA oA xA hpl HSA.out hown3 hg3 So);go_wp2_with fail
   go_meet;exact hS.out
 case rest=>
  rename_i hnext;have hnext:=Z5 hnext;obtain⟨Yu,T2,X2,f2,fo2,n2⟩:=hcut;have hS:=HT.out.2;obtain⟨z1,z2,z3,z4⟩:=hS;have hwl:w.heap.size<=wc.heap.size:=f2.size;obtain⟨s1,a1,s2,a2,s3,a3⟩:=HA.out;refine hnext.out _ _ ?_;refine rQ (N0:=NR.length) ⟨T2,X2,f2,fo2,n2,hBw⟩ (by omega) ?_;intro w4 x;intros;rename_i h4;refine su (il:=Hd.Zu ⟨hk0,hk1,hk2,hk3,hk4,hk5,hk6,YJ⟩) rfl h4 (by omega) ?_;intro w5 lv5;intros;rename_i h5;refine sB h5 (by simp only[Z4,Mb];have:=ZG (Hd.Zu ⟨hk0,hk1,hk2,hk3,hk4,hk5,hk6,YJ⟩);omega) ?_;intro w6 lv6;intros;rename_i h6;refine rV (hc:=Hd.hasCond ⟨hk0,hk1,hk2,hk3,hk4,hk5,hk6,YJ⟩) rfl h6 (by simp only[Z4,Mb];have:=ZG (Hd.Zu ⟨hk0,hk1,hk2,hk3,hk4,hk5,hk6,YJ⟩);have:=ZG hk3;omega) ?_;intro w7 lv7;intros;rename_i h7;refine sy h7 (by simp only[Z4,Mb];have:=ZG (Hd.Zu ⟨hk0,hk1,hk2,hk3,hk4,hk5,hk6,YJ⟩);have:=ZG hk3;have:=ZG (Hd.hasCond ⟨hk0,hk1,hk2,hk3,hk4,hk5,hk6,YJ⟩);omega) ?_;intro w8 lv8;intros;rename_i h8;have e8:=rS ⟨hk0,hk1,hk2,hk3,hk4,hk5,hk6,YJ⟩ NR.length ls;have hlf:=(Yj (h:=⟨hk0,hk1,hk2,hk3,hk4,hk5,hk6,YJ⟩) (N:=NR.length)).2;refine rU h8 s1 a1 s2 a2 s3 a3 ?_;intro w9 rt9;intros;rename_i hr9 h9;simp only[]at e8;rw[e8]at h9;refine rT (nm:=num+1) (mm:=m+4) (hbf:=Hd.Zz ⟨hk0,hk1,hk2,hk3,hk4,hk5,hk6,YJ⟩) rfl hb rfl h9 ⟨by simp only[Z4];omega,by simp;omega,by omega,by omega⟩ (by omega) s1 a1 ?_;intro w10 Z5R Z5Q Z5P NB RB Z5O;intros;rename_i h10 aB rB f10 Z9W;obtain⟨ob,hob⟩: ∃ ob:Out,ob=if Hd.Zz ⟨hk0,hk1,hk2,hk3,hk4,hk5,hk6,YJ⟩=true then b.rd.l (NR++ [ZQ (Nd.raw ⟨hk0,hk1,hk2,hk3,hk4,hk5,hk6,YJ⟩ a pl) (.slice ba b.len bc) (.slice ea e.len ec) (.slice ca c.len cc) (.slice none 0 0) (.slice none 0 0) (.slice none 0 0)]).length (RR.length+1) (ls++Hd.Yl ⟨hk0,hk1,hk2,hk3,hk4,hk5,hk6,YJ⟩ NR.length).length (num+1) RR.length 0 else .none:=⟨_,rfl⟩
  rw[<-hob]at h10 aB rB;have Z9V:=(QI b).1 (NR++ [ZQ (Nd.raw ⟨hk0,hk1,hk2,hk3,hk4,hk5,hk6,YJ⟩ a pl) (.slice ba b.len bc) (.slice ea e.len ec) (.slice ca c.len cc) (.slice none 0 0) (.slice none 0 0) (.slice none 0 0)]).length (RR.length+1) (ls++Hd.Yl ⟨hk0,hk1,hk2,hk3,hk4,hk5,hk6,YJ⟩ NR.length).length (num+1) RR.length 0;have Z7S:ob.ls.length<=4*b.wt/\ob.ns.length<=b.wt/\ob.rs.length<=2*b.wt/\ob.it<=b.wt:=by
   rw[hob];split
   .exact Z9V
   .simp[Out.none]
  have nB:=aB.len;have qB:=rB.len;rw[V0]at qB;have qB2:RB.length<=1+2*b.wt:=by rw[<-qB];split<;>omega
  refine yz (nm:=num+1+ob.it) (mm:=m+5+4*b.wt) he rfl h10 ⟨by simp only[Z4];omega,by simp only[Z4,ZJ,List.length_nil];omega,by simp only[Z4];omega,by omega⟩ (by omega) s2 a2 ?_;intro dR Z5N Z5M Z5L NE RE Z5K;intros;rename_i h11 aE rE f11 Z9U;obtain⟨oe,hoe⟩: ∃ oe:Out,oe=if hk6=true then e.rd.l ((NR++ [ZQ (Nd.raw ⟨hk0,hk1,hk2,hk3,hk4,hk5,hk6,YJ⟩ a pl) (.slice ba b.len bc) (.slice ea e.len ec) (.slice ca c.len cc) (.slice none 0 0) (.slice none 0 0) (.slice none 0 0)])++NB).length ((RR++RB).length+1) ((ls++Hd.Yl ⟨hk0,hk1,hk2,hk3,hk4,hk5,hk6,YJ⟩ NR.length)++ob.ls).length (num+1+ob.it) (RR++RB).length 0 else .none:=⟨_,rfl⟩
  rw[<-hoe]at h11 aE rE;have Z9T:=(QI e).1 ((NR++ [ZQ (Nd.raw ⟨hk0,hk1,hk2,hk3,hk4,hk5,hk6,YJ⟩ a pl) (.slice ba b.len bc) (.slice ea e.len ec) (.slice ca c.len cc) (.slice none 0 0) (.slice none 0 0) (.slice none 0 0)])++NB).length ((RR++RB).length+1) ((ls++Hd.Yl ⟨hk0,hk1,hk2,hk3,hk4,hk5,hk6,YJ⟩ NR.length)++ob.ls).length (num+1+ob.it) (RR++RB).length 0;have Z7R:oe.ls.length<=4*e.wt/\oe.ns.length<=e.wt/\oe.rs.length<=2*e.wt/\oe.it<=e.wt:=by
   rw[hoe];split
   .exact Z9T
   .simp[Out.none]
  have nE:=aE.len;have qE:=rE.len;rw[V0]at qE;have qE2:RE.length<=1+2*e.wt:=by rw[<-qE];split<;>omega
  refine yx (nm:=num+1+ob.it+oe.it) (mm:=m+6+4*b.wt+4*e.wt) hc h11 ⟨by simp only[Z4];omega,by simp only[Z4,ZJ,List.length_nil];omega,by simp only[Z4];omega,by omega⟩ (by omega) s3 a3 ?_;intro wy Z5J Z9S Z5I cG cF Z5H NC RC Z5G;intros;rename_i hC Z9R;obtain⟨oc,hoc⟩: ∃ oc:WG,oc=c.rd.c (hk0==13) NR.length (((NR++ [ZQ (Nd.raw ⟨hk0,hk1,hk2,hk3,hk4,hk5,hk6,YJ⟩ a pl) (.slice ba b.len bc) (.slice ea e.len ec) (.slice ca c.len cc) (.slice none 0 0) (.slice none 0 0) (.slice none 0 0)])++NB)++NE).length ((RR++RB)++RE).length (((ls++Hd.Yl ⟨hk0,hk1,hk2,hk3,hk4,hk5,hk6,YJ⟩ NR.length)++ob.ls)++oe.ls).length (num+1+ob.it+oe.it) 0 0:=⟨_,rfl⟩
  rw[<-hoc]at hC;obtain⟨f0,f2',rfl⟩:=ZR hC.c;obtain⟨t0,t2,rfl⟩:=ZR hC.t.1;obtain⟨o0,o2,rfl⟩:=ZR hC.o.1;obtain⟨g,cap,rfl⟩: ∃ g cap,Z9S=.slice (some ⟨g,0,none⟩) (((((NR++ [ZQ (Nd.raw ⟨hk0,hk1,hk2,hk3,hk4,hk5,hk6,YJ⟩ a pl) (.slice ba b.len bc) (.slice ea e.len ec) (.slice ca c.len cc) (.slice none 0 0) (.slice none 0 0) (.slice none 0 0)])++NB)++NE)++NC)).length cap:=by
   rcases hC.nx.t.n.2 with⟨_,h0⟩ |⟨g,cap,cur,hv,_⟩
   .simp at h0
   .exact⟨g,cap,hv⟩
  have rP:((((NR++ [ZQ (Nd.raw ⟨hk0,hk1,hk2,hk3,hk4,hk5,hk6,YJ⟩ a pl) (.slice ba b.len bc) (.slice ea e.len ec) (.slice ca c.len cc) (.slice none 0 0) (.slice none 0 0) (.slice none 0 0)])++NB)++NE)++NC)=NR++(ZQ (Nd.raw ⟨hk0,hk1,hk2,hk3,hk4,hk5,hk6,YJ⟩ a pl) (.slice ba b.len bc) (.slice ea e.len ec) (.slice ca c.len cc) (.slice none 0 0) (.slice none 0 0) (.slice none 0 0)::(NB++NE++NC)):=by simp
  have hC:=hC.jN rP;refine yv hC.nx ?_;intro wz;intros;rename_i hz;have hfin:=Z5 (CH (h:=⟨hk0,hk1,hk2,hk3,hk4,hk5,hk6,YJ⟩) hob hoe hoc aB rB aE rE f11 hC (fun _ _ _=>by
   simp only[ZQ,Nd.raw,Z4,Mb];try rfl) ⟨_,_,_,rfl⟩ ⟨_,_,_,rfl⟩ ⟨_,_,_,rfl⟩ hz (fun h=>by
   obtain⟨g1,g2⟩:=Z9R h;obtain⟨g3,g4⟩:=Z9U g1;obtain⟨g5,g6⟩:=Z9W g3;obtain⟨g7,g8⟩:=hr9 g5;exact⟨g7,g8,g6,g4,g2⟩))
  clear hz;obtain⟨u,rfl⟩:=(‹Og p _ _ _ _ _ _›).out;conv=>arg 2;whnf
  go_wp2_with fail
  go_ret;exact⟨rfl,hfin.out⟩
theorem yr: ∀ t:T,Ti t:=T.Wg (sE fun _ _ _ _ hb he hc=>yu _ _ _ _ hb he hc)
end Go.Proofs.YteedbaejpdjilaaGreat
