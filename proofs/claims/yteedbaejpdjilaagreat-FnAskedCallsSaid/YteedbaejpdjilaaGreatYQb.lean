/- Part of the proof: NodF NodH NodG NodJ. -/
import Derived.Test.YteedbaejpdjilaaGreatYPy
import Derived.Test.YteedbaejpdjilaaGreatYQa
import Derived.Deep.CutRange
import Derived.Deep.CutBlock
set_option linter.all false
set_option maxRecDepth 100000
set_option maxHeartbeats 40000000
namespace Go.Proofs.YteedbaejpdjilaaGreat
open Go.RowKit Tryz
section
def Qj (n:Nat):Code->Option Code
 | .seq a b=>(Qj n a).or (Qj n b)
 | .cond _ a b=>(Qj n a).or (Qj n b)
 | .block i c=>if i=n then some (.block i c)else Qj n c
 | .loop c=>Qj n c
 | .scope c=>Qj n c
 |_=>none
noncomputable def ku (n:Nat):Code:=(Qj n (Tryz.f93.body.getD .skip)).getD .skip
theorem vG {w w0 wr:World} {B p:Nat} {lv nv rv:Value} {sc:List Value} {x:Nat} {nd:Nd} {vb ve vc:Value} {Yn:List V1} {T0 O0:List Int} {L1:List Lf} {NR RR:List (List Value)} {rt:Bool} {Yu XY cv:Value} {ns:List Nd} {NS:List (List Value)} {rs:List Rw} {RS:List (List Value)} {N0 k cb:Nat} {e:Int} {bv:Value} {num bd:Int} {tn:Nat} {K:Act->World->Prop} (kr:Gy w w0 B p lv nv rv sc x nd vb ve vc Yn T0 O0 L1 NR RR num rt Yu XY cv ns NS rs RS N0 k tn cb e bv (.int .i64 0) wr) (htn:tn=bd.toNat) (hL:L1.length+tn<=90000) (hT:T0.length<=L1.length) (hO:O0.length=T0.length)
  {u1 u2 u3 u4 u5 u6 u7 u8 u12 u13 u14 u15 u16 VC VB VA u20 u21 u22 u23 u24 u25 u26 u27 u28 u29 u30 u31 u32 u33 u34 u35 u36 u37 u38 KP u40 KO u42 KN u44 u45 u46 KM u48 u49 KL u51 KK u53 KJ u55 KI KH u58 u59 u60 u61 KG u63 u64 KF u66 KE u68 u69 u70 KD u72 u73 KC u75 KB KA Kz Ky Kx Kw Kv Ku Kt Ks Kr Kq Kp Ko Kn Km Kl u93 Kk Kj Ki Kh Kg Kf Us Ur Uq Up Uo u105 Un Um Ul Uk Uj Ui Uh Ug Uf Ue Ud Uc Ub u119 Ua T9 T8 T7 u124 T6 T5 u127 T4 T3 T1 Te Sd Sc Sb R9 u138 u139 R8 R7 R6 R5 R4 Td Tc Tb Ta SZ SY SX u152 SW u154 SV SU ST SS SR SQ SP u162 SO u164 SN SM SL TY PP QG Rj SK R0 SJ SI TX:Value} (hK: ∀ (wz:World) {aD aC sj sh sg rZ v138 v139 rY v141 rX v143 rW v145 v146 aA v148 az ay ax:Value},vL w w0 B p lv nv rv sc x nd vb ve vc Yn T0 O0 L1 NR RR num rt Yu XY cv ns NS rs RS N0 k tn cb e bv wz->K ⟨#[.pointer (some ⟨p,0,none⟩),u1,u2,u3,u4,u5,u6,u7,u8,.int .i64 N0,.pointer (some ⟨x,0,none⟩),.int .i64 k,u12,u13,u14,u15,u16,VC,VB,VA,u20,u21,u22,u23,u24,u25,u26,u27,u28,u29,u30,u31,u32,u33,u34,u35,u36,u37,u38,KP,u40,KO,u42,KN,u44,u45,u46,KM,u48,u49,KL,u51,KK,u53,KJ,u55,KI,KH,u58,u59,u60,u61,KG,u63,u64,KF,u66,KE,u68,u69,u70,KD,u72,u73,KC,u75,KB,KA,Kz,Ky,Kx,Kw,Kv,Ku,Kt,Ks,Kr,Kq,Kp,Ko,Kn,Km,Kl,u93,Kk,Kj,Ki,Kh,Kg,Kf,Us,Ur,Uq,Up,Uo,u105,Un,Um,Ul,Uk,Uj,Ui,Uh,Ug,Uf,Ue,Ud,Uc,Ub,u119,Ua,T9,T8,T7,u124,T6,T5,u127,T4,T3,T1,.int .i64 bd,aD,aC,sj,sh,sg,rZ,v138,v139,rY,v141,rX,v143,rW,v145,v146,aA,v148,az,ay,ax,u152,SW,u154,SV,SU,ST,SS,SR,SQ,SP,u162,SO,u164,SN,SM,SL,TY,PP,QG,Rj,SK,R0,SJ,SI,TX],[]⟩ wz):
  Code.wp prog (ku 2) (nrm K) ⟨#[.pointer (some ⟨p,0,none⟩),u1,u2,u3,u4,u5,u6,u7,u8,.int .i64 N0,.pointer (some ⟨x,0,none⟩),.int .i64 k,u12,u13,u14,u15,u16,VC,VB,VA,u20,u21,u22,u23,u24,u25,u26,u27,u28,u29,u30,u31,u32,u33,u34,u35,u36,u37,u38,KP,u40,KO,u42,KN,u44,u45,u46,KM,u48,u49,KL,u51,KK,u53,KJ,u55,KI,KH,u58,u59,u60,u61,KG,u63,u64,KF,u66,KE,u68,u69,u70,KD,u72,u73,KC,u75,KB,KA,Kz,Ky,Kx,Kw,Kv,Ku,Kt,Ks,Kr,Kq,Kp,Ko,Kn,Km,Kl,u93,Kk,Kj,Ki,Kh,Kg,Kf,Us,Ur,Uq,Up,Uo,u105,Un,Um,Ul,Uk,Uj,Ui,Uh,Ug,Uf,Ue,Ud,Uc,Ub,u119,Ua,T9,T8,T7,u124,T6,T5,u127,T4,T3,T1,.int .i64 bd,.int .i64 0,Te,Sd,Sc,Sb,R9,u138,u139,R8,R7,R6,R5,R4,Td,Tc,Tb,Ta,SZ,SY,SX,u152,SW,u154,SV,SU,ST,SS,SR,SQ,SP,u162,SO,u164,SN,SM,SL,TY,PP,QG,Rj,SK,R0,SJ,SI,TX],[]⟩ wr:=by
 have HK:=Z5 hK;have HT0:=Z5 kr;have htn:=Z5 htn;clear hK kr;conv=>arg 2;whnf
 go_wp2_with fail
 go_loopw [132] (fun ix wr=>Gy w w0 B p lv nv rv sc x nd vb ve vc Yn T0 O0 L1 NR RR num rt Yu XY cv ns NS rs RS N0 k tn cb e bv ix wr) (fun ix _=>tn -(intOf ix).toNat)
 case atStart=>exact HT0.out
 case round=>
  obtain⟨q,gA,gW,aw,rfl,hq,CL,hb3⟩:=hrel;by_cases ub:q < tn
  .have hqe:(q:Int) < bd:=by have:=htn.out;omega
   obtain⟨TQ,gy⟩: ∃ TQ:List Int,TQ=T0++(List.range q).map (fun u=>((L1.length+u:Nat):Int)):=⟨_,rfl⟩
   obtain⟨OQ,gx⟩: ∃ OQ:List Int,OQ=O0++List.replicate q (k:Int):=⟨_,rfl⟩
   obtain⟨LQ,gw⟩: ∃ LQ:List Lf,LQ=L1++(List.range q).map (fun u=>(⟨N0,5,(T0.length+u:Nat)⟩:Lf)):=⟨_,rfl⟩
   rw[<-gy,<-gx,<-gw]at CL;have hLl:LQ.length<=90000:=by
    have h1:LQ.length=L1.length+q:=by rw[gw];simp only[Z4,Y8,Zf]
    omega
   have hTl:TQ.length<=90000:=by
    have h1:TQ.length=T0.length+q:=by rw[gy];simp only[Z4,Y8,Zf]
    omega
   have hOl:OQ.length<=90000:=by
    have h1:OQ.length=O0.length+q:=by rw[gx];simp only[Z4,List.length_replicate]
    omega
   have HQ:=X7 gy gx gw;clear gy gx gw;obtain⟨oa,oc,rfl⟩:=ZR CL.o.1;have vF:=Zl CL hb3;clear CL hb3;go_wp2_with fail
   refine QH ?_;refine kB (k:=0) vF.out.1 vF.out.2 hLl hTl ?_;intro wc yA g cap kn km kl kh kg ke ka j7 jZ jY jX EB hb5;have c22:=EB.nx.xb.cell 22 rfl;have ho5:=EB.o.1;have ii:=EB.f.size;have gu:=Zl EB hb5;clear EB hb5;go_wp2_with (at_builtin;refine Ze wc rfl _ _ 31 rfl w0.heap.size 3 (.int .i64 0) 1 8 underlying31 info3 rfl (by decide) (by decide) ho5 (by rfl) [.int .i64 k] rfl ?c1 (by rfl) (by omega) (by omega) ?_)
   case c1=>simp[Value.oneCell']
   intro g2 cap2 w6 hown6 UT VW Mm;have hxg:=gu.out.1.xg ho5 (.inl rfl) UT;have c22:=hxg.1.cell 22 rfl;have Z6a:=hxg.1.free 22;have hC6:=gu.out.1.aQ (n:=OQ.length) rfl hown6 UT (VW.imp id (fun h=>⟨h.1,by omega⟩));have hb6:=(hxg.2 _ _ _ gu.out.2).setOther ⟨x,22,none⟩ (.slice (some ⟨g2,0,none⟩) (OQ.length+1) cap2) (Zq.ne (hxg.2 _ _ _ gu.out.2).ty hxg.1.ty (by decide));have HC6:=Z5 (yC HQ.out.1 HQ.out.2.1 HQ.out.2.2 ub hC6 hb6);clear hC6 hb6 hxg;go_wp2_with fail
   exact⟨HC6.out,by simp[intOf];omega⟩
  .have hqe: ¬ (q:Int) < bd:=by have:=htn.out;omega
   have hq2:q=tn:=by omega
   subst hq2;have vF:=Zl CL hb3;clear CL hb3;go_wp2_with fail
   exact HK.out _ ⟨gA,gW,aw,vF.out.1,vF.out.2⟩
end
section
variable {w:World} {B p m:Nat} {LS:List Lf} {VL Xh:List (List Value)} {num:Int} {rt:Bool} {lv nv rv XO Yu XY:Value} {a pl x N0:Nat} {b e c:T} {ba ea ca:Option Addr} {bc ec cc:Nat} {hk0:Int} {hk1 hk2:ByteArray} {hk3 hk4 hk5 hk6 YJ:Bool} {Q:Exit->Act->World->Prop} {nd:Nd} {cv tv ov:Value} {wx:World}
theorem yx {nm mm b3 o3:Nat} (hall:c.All Ti) (hX:NX w B p lv nv rv [.int .i64 hk0,hk1,hk2,hk3,hk4,hk5,hk6,YJ,.slice ba b.len bc,.slice ea e.len ec,.slice ca c.len cc] x (ZQ nd (.slice ba b.len bc) (.slice ea e.len ec) (.slice ca c.len cc) (.slice none 0 0) (.slice none 0 0) (.slice none 0 0)) LS VL Xh (nm:Int) rt XO Yu XY wx) (hSz:Sz mm LS VL Xh nm) (hm:mm+7*c.wt+4<=90000) (s3:Zi (.slice ca c.len cc) b3 o3 c.len) (a3:c.At (YB w B) false b3 o3)
  (hK: ∀ wy XH VO VM qw tv2 ov2 WF WU VD (A:Act),Og p a pl w.heap.size N0 x A->CX w wx B p lv nv rv [.int .i64 hk0,hk1,hk2,hk3,hk4,hk5,hk6,YJ,.slice ba b.len bc,.slice ea e.len ec,.slice ca c.len cc] x nd (.slice ba b.len bc) (.slice ea e.len ec) (.slice ca c.len cc) (c.rd.c (hk0==13) N0 VL.length Xh.length LS.length nm 0 0).Yn (c.rd.c (hk0==13) N0 VL.length Xh.length LS.length nm 0 0).tests (c.rd.c (hk0==13) N0 VL.length Xh.length LS.length nm 0 0).YY (LS++(c.rd.c (hk0==13) N0 VL.length Xh.length LS.length nm 0 0).ls) (VL++WF) (Xh++WU) ((nm+(c.rd.c (hk0==13) N0 VL.length Xh.length LS.length nm 0 0).it:Nat):Int) VD XH VO VM qw tv2 ov2 (c.rd.c (hk0==13) N0 VL.length Xh.length LS.length nm 0 0).ns WF (c.rd.c (hk0==13) N0 VL.length Xh.length LS.length nm 0 0).rs WU wy->(VD=true->rt=true/\c.fA)->Code.wp prog (W9 12) Q A wy) {A:Act} (hA:Og p a pl w.heap.size N0 x A:=by assumption):Code.wp prog (W9 11) Q A wx:=by
 obtain⟨u,rfl⟩:=hA.out;have d0:=hX.s.cell 0 rfl;have d10:=hX.s.cell 10 rfl;obtain⟨av,cv0,hcc,hlen,hav⟩:=ZU s3;have ap:ca=av:=by simpa using(Value.slice.inj hcc).1
 subst ap;have hav:=Z5 hav;have hwl:=Z5 hX.f.size
 have hS0:CO c w wx B p mm lv nv rv [.int .i64 hk0,hk1,hk2,hk3,hk4,hk5,hk6,YJ,.slice ba b.len bc,.slice ea e.len ec,.slice ca c.len cc] x nd (.slice ba b.len bc) (.slice ea e.len ec) (.slice ca c.len cc) LS VL Xh nm rt b3 o3 N0 (hk0==13) (.int .i64 0) wx:=
  ⟨0,c,[],[],[],[],[],[],0,mm,XO,Yu,XY,.slice none 0 0,.slice none 0 0,.slice none 0 0,[],[],rt,rfl,hall,by simpa using a3,by simp,by simpa using CX.start hX,rfl,rfl,by simp,fun h=>⟨h,id⟩,by simpa using hSz,by omega,by simp[IY]⟩
 have aX:=Z5 hS0;have hcl:c.len<=90000:=by have:=T.QK c;omega
 clear hS0 hall hSz s3 a3 hcc;have HM:=Z5 hm;clear hm;have HX:=Z5 hX;clear hX;have HK:=Z5 hK;clear hK;conv=>arg 2;whnf
 refine wp_seq_k (fun K Rl=>?_);have HKK:=Z5 Rl;clear Rl;go_wp2_with fail
 go_loopw [119] (fun ix wr=>CO c w wx B p mm lv nv rv [.int .i64 hk0,hk1,hk2,hk3,hk4,hk5,hk6,YJ,.slice ba b.len bc,.slice ea e.len ec,.slice ca c.len cc] x nd (.slice ba b.len bc) (.slice ea e.len ec) (.slice ca c.len cc) LS VL Xh nm rt b3 o3 N0 (hk0==13) ix wr) (fun ix _=>c.len -(intOf ix).toNat)
 case atStart=>exact aX.out
 case round=>
  obtain⟨k,rest,WP,Uu,UO,Yn,ts,os,VR,m1,XH,VO,VM,cv,tv,ov,U3,V7,M4,rfl,hall,hat,hlen',hC,UN,hos,htl,hrt,hSz,hm1,hEq⟩:=hrel;cases rest with
  |st=>exact absurd hat.1 (by simp)
  |nil=>
   have hk: ¬ k < c.len:=by simp[T.len]at hlen';omega
   have HC:=X7 hC hrt hEq;clear hC hrt hEq hall hat hlen' hSz hm1 hos htl UN;go_wp2_with fail
   refine HKK.out _ _ ?_;obtain⟨hC,hrt,hEq⟩:=HC.out;have hE:(c.rd.c (hk0==13) N0 VL.length Xh.length LS.length nm 0 0)=⟨WP,Uu,UO,Yn,ts,os,VR⟩:=by
    unfold IY at hEq;rw[hEq];simp[T.rd]
   refine HK.out _ XH VO VM cv tv ov U3 V7 M4 _ Md ?_ (fun h=>⟨(hrt h).1,(hrt h).2 trivial⟩);rw[hE];exact hC
  |cl ee bo tl=>
   have hk:k < c.len:=by simp[T.len]at hlen';omega
   obtain rfl:=hav.out (by omega);obtain⟨_,kM,b1',o1',hc0,hc1,s1,a1,a4⟩:=hat;obtain⟨xa,xc,rfl,_⟩:=ZU s1;obtain⟨q1,q4⟩:=hall;have c0:wr.cell? ⟨b3,o3+k*2,none⟩=some (.int .i64 ee):=(hC.nx.f.below.cell (p:=⟨b3,o3+k*2,none⟩) hc0.1).trans hc0.2;have c1:wr.cell? ⟨b3,o3+k*2+1,none⟩=some (.slice xa bo.len xc):=(hC.nx.f.below.cell (p:=⟨b3,o3+k*2+1,none⟩) hc1.1).trans hc1.2;have ao:=hC.low (w':=wr.alloc (.cells [.int .i64 ee,.slice xa bo.len xc].toArray 132)) ((ZN _ _).alloc (Z7 _) _);have hcb:=ZD.new wr [.int .i64 ee,.slice xa bo.len xc] 132;obtain⟨tn,htn⟩: ∃ tn:Nat,tn=if(hk0==13)=true then ee.toNat else 0:=⟨_,rfl⟩
   have hwt:m1+7*(1+ee.toNat+bo.wt+tl.wt)<=mm+7*c.wt:=hm1;have hmm:=HM.out;have jW:=Z5 (Vg ao.nx.t ⟨by omega,by have:=hSz.2.2.2;omega⟩);have am:=Zl ao hcb;have HR:=Z5 (And.intro q1 (And.intro q4 (And.intro s1 (And.intro a1 (And.intro a4 (And.intro hlen' (And.intro UN (And.intro hos (And.intro htl (And.intro hrt (And.intro hSz (And.intro hm1 (And.intro hEq (And.intro hC.ns.len (And.intro hC.rs.len (And.intro htn (And.intro hwt hmm)))))))))))))))));have hkb:k<=90000:=by omega
   clear ao hcb q1 q4 s1 a1 a4 hlen' UN hos htl hrt hSz hm1 hEq hC htn hwt hmm hc0 hc1;go_wp2_with fail
   refine jW.out.mono ?_;rintro e' w1 ⟨rfl,hT1,f1,jV⟩;have vE:=am.out.1.call (am.out.1.nx.call hT1 (f1.mono (by decide) (Z7 _)) jV (Nw.refl _ _) (Nw.refl _ _) (Nw.refl _ _)) (f1.mono (by decide) (Z7 _));have hb1:=am.out.2.fr f1 (by decide);have k0:=vE.nx.s.cell 0 rfl;have HC1:=Zl vE hb1;clear vE hT1 f1 jV jW c0 c1;go_upto_if 128 with fail
   go_cut [119]from 119 to 168 (fun ix wz=>ix=.int .i64 k/\vL w wx B p lv nv rv [.int .i64 hk0,hk1,hk2,hk3,hk4,hk5,hk6,YJ,.slice ba b.len bc,.slice ea e.len ec,.slice (some ⟨b3,o3,none⟩) c.len cc] x nd (.slice ba b.len bc) (.slice ea e.len ec) (.slice (some ⟨b3,o3,none⟩) c.len cc) Yn ts os (LS++WP) (VL++U3) (Xh++V7) ((nm+VR:Nat)+1:Int) M4 VO VM cv Uu U3 UO V7 N0 k tn wr.heap.size ee (.slice xa bo.len xc) wz)
   case first=>
    obtain⟨wo,hwo⟩: ∃ wo:World,wo=wr:=⟨_,rfl⟩
    subst hwo;obtain⟨vE,hb1⟩:=HC1.out;have e0:=hb1.cell 0 rfl;have htn:=HR.out.2.2.2.2.2.2.2.2.2.2.2.2.2.2.2.1;by_cases hsw:hk0=13
    .subst hsw;obtain rfl:tn=ee.toNat:=by rw[htn];rfl
     have HT0:=Z5 (CN (N0:=N0) (k:=k) (ts:=ee.toNat) vE hb1);clear vE hb1 htn;have HL:Hid ((LS++WP).length+ee.toNat<=90000/\ts.length<=(LS++WP).length/\os.length=ts.length):=by
      obtain⟨_,_,_,_,_,_,_,hos,htl,_,hSz,_,_,_,_,_,hwt,hmm⟩:=HR.out;have:=hSz.1;exact⟨by omega,by rw[Z4];omega,hos⟩
     by_cases hee:0 < ee
     .go_upto_block 2 with fail
      refine QH ?_;refine vG (bd:=ee) HT0.out rfl HL.out.1 HL.out.2.1 HL.out.2.2 ?_;intro wz aj ah kn km kl kh kg ke ka j7 jZ jY jX ag ae Z99 Z98 Z97 y150 y151 hE;have hE:=Z5 hE;go_wp2_with fail
      go_meet;exact⟨rfl,hE.out⟩
     .have he0:ee.toNat=0:=by omega
      rw[he0]at HT0
      go_upto_block 2 with fail
      refine QH ?_;refine vG (bd:=0) HT0.out rfl (by have:=HL.out.1;omega) HL.out.2.1 HL.out.2.2 ?_;intro wz aj ah kn km kl kh kg ke ka j7 jZ jY jX ag ae Z99 Z98 Z97 y150 y151 hE;have hE:=Z5 hE;go_wp2_with fail
      go_meet;exact⟨rfl,by rw[he0];exact hE.out⟩
    .obtain rfl:tn=0:=by rw[htn,if_neg (by simpa using hsw)]
     have jU:=Zl vE hb1;clear vE hb1 htn;go_wp2_with fail
     go_meet;exact⟨rfl,_,_,_,by simpa using jU.out.1,jU.out.2⟩
   case rest=>
    obtain⟨rfl,gA,gW,aw,CL,hb3⟩:=hcut;obtain⟨q1,q4,s1,a1,a4,hlen',UN,hos,htl,hrt,hSz,hm1,hEq,nl,rl,htn,hwt,hmm⟩:=HR.out;have hts:tn<=ee.toNat:=by rw[htn];split<;>omega
    have Z96:=Z5 (q1 wc.drew B p (m1+1+ee.toNat) ((LS++WP)++(List.range tn).map (fun u=>(⟨N0,5,(ts.length+u:Nat)⟩:Lf))) (VL++U3) (Xh++V7) (nm+VR+1) M4 gA VO VM (.slice xa bo.len xc) b1' o1' N0 k (by simpa using CL.drew.nx.t)
     (by obtain⟨z1,z2,z3,z4⟩:=hSz;exact⟨by simp only[Z4,Y8,Zf]at z1 ⊢;omega,by omega,by omega,by omega⟩) (by omega) s1 (a1.mono (fun _ _ _ h=>YB.below CL.drew.nx.f.below _ _ _ h)))
    have hcl:Yn.length<=90000:=by omega
    have vF:=Zl (show CX w wx B p lv nv rv [.int .i64 hk0,hk1,hk2,hk3,hk4,hk5,hk6,YJ,.slice ba b.len bc,.slice ea e.len ec,.slice (some ⟨b3,o3,none⟩) c.len cc] x nd (.slice ba b.len bc) (.slice ea e.len ec) (.slice (some ⟨b3,o3,none⟩) c.len cc) Yn (ts++(List.range tn).map (fun u=>(((LS++WP).length+u:Nat):Int))) (os++List.replicate tn (k:Int)) ((LS++WP)++(List.range tn).map (fun u=>(⟨N0,5,(ts.length+u:Nat)⟩:Lf))) (VL++U3) (Xh++V7) ((nm+VR+1:Nat):Int) M4 gA VO VM cv gW aw Uu U3 UO V7 wc by simpa using CL) hb3;clear CL hb3 q1 q4 s1 a1 a4 hlen' UN hos htl hrt hSz hm1 hEq nl rl htn hwt hmm hts;go_wp2_with fail
    refine QH ?_;refine kz vF.out.1 vF.out.2 Z96.out hcl ?_;intro wz yA gC gB WF WU VD g cap y152 y153 Z59 Z58 Z57 y157 y158 y159 y160 Z56 Z55 Z54 Z53 Z52 Z51 y167 EB Me;have HS:=Z5 (yD (c:=c) (tl:=tl) (b:=bo) (e:=ee) (m:=mm) (rt:=rt) (bb:=b3) (o:=o3) (sw:=(hk0==13)) HR.out.2.1 HR.out.2.2.2.2.1 HR.out.2.2.2.2.2.1 HR.out.2.2.2.2.2.2.1 HR.out.2.2.2.2.2.2.2.1 HR.out.2.2.2.2.2.2.2.2.1 HR.out.2.2.2.2.2.2.2.2.2.1 HR.out.2.2.2.2.2.2.2.2.2.2.1 HR.out.2.2.2.2.2.2.2.2.2.2.2.1 HR.out.2.2.2.2.2.2.2.2.2.2.2.2.1 HR.out.2.2.2.2.2.2.2.2.2.2.2.2.2.1 HR.out.2.2.2.2.2.2.2.2.2.2.2.2.2.2.1 HR.out.2.2.2.2.2.2.2.2.2.2.2.2.2.2.2.1 rfl (by simpa using EB) Me);clear EB Me;go_wp2_with fail
    exact⟨HS.out,by simp[intOf];omega⟩
end
section
theorem CK: ∀ {ys cs:List Value} {o:Nat},o+ys.length<=cs.length->Xm cs o ys=cs.take o++ys++cs.drop (o+ys.length):=by
 intro ys
 induction ys with
 |nil=>intro cs o _;simp[Xm]
 |cons y ys ih=>
  intro cs o h;simp only[ZJ]at h;simp only[Xm];rw[ih (by simpa using by omega)];have h1:(cs.set o y).take (o+1)=cs.take o++ [y]:=by
   rw[List.take_add_one,List.take_set_of_le (by omega)];simp[List.getElem?_set,show o < cs.length by omega]
  have h2:(cs.set o y).drop (o+1+ys.length)=cs.drop (o+1+ys.length):=List.drop_set_of_lt (by omega);rw[h1,h2,ZJ,show o+(ys.length+1)=o+1+ys.length by omega];simp
theorem Ke {base e size n g cap:Nat} : ∀ {ys:List Value} {w:World} {xs:List Value} {o:Nat},w.ownsRow base e size (.slice (some ⟨g,0,none⟩) n cap) n xs->(w.setCells g o ys).ownsRow base e size (.slice (some ⟨g,0,none⟩) n cap) n (Xm xs o ys)
 | [],_,_,_,h=>h
 |y::ys,_,_,o,h=>Ke (ys:=ys) (h.stored o y).1
theorem Sv {P:Program} {ops:Array Oper} {o:Oper} {a:Act} {w:World} {K:Act->World->Prop} {Q:Exit->Act->World->Prop} {E:Prop} (hgd:o.guard=none) (ty:TypeId) (x y:Operand) (ho:o.op=.store ty x y)
  {base e size n b of cap:Nat} {xs:List Value} (hx:a.eval x=.pointer (some ⟨b,of,none⟩)) (hb:w.ownsRow base e size (.slice (some ⟨b,0,none⟩) n cap) n xs) (ys:List Value) (hy:a.eval y=.agg ys.toArray) (hl:of+ys.length<=n*size) (hi:(P.info? ty).map (·.size)=some ys.length) (h1: ∀ v∈ys,v.oneCell'=true)
  (h: ∀ w',w'=w.setCells b of ys->K (a.put o.dst undef) w'):if Region.wanted o (yielded ops a.tmps)=true then Oper.wp P o a w K Q else E:=by
 have hw:Region.wanted o (yielded ops a.tmps)=true:=by simp[Region.wanted,hgd]
 rw[if_pos hw];refine wp_store_mid ty x y ho b of ys.toArray hx hy (fun j hj=>?_) (by simpa using hi) (all_oneCell_toArray h1) (h _ rfl);have hj':j < ys.length:=by simpa using hj
 have hxl:=hb.1;exact⟨by rw[ZF hb (of+j) (by omega),Z9 (by omega)];rfl,World.ownsRow.frozenAt hb (of+j)⟩
theorem jT {w wx:World} {B p:Nat} {lv nv rv:Value} {sc:List Value} {x g cap:Nat} {nd:Nd} {b0 e0 c0 f0 t0 o0:Option Addr} {b1 b2 e1 e2 c1 c2 f1 f2 t1 t2 o1 o2:Nat} {LS:List Lf} {NR NS RR:List (List Value)} {ROW:List Value} {num:Int} {rt:Bool} {XO XY:Value} {K:Act->World->Prop}
  (hX:NX w B p lv nv rv sc x (ZQ nd (.slice b0 b1 b2) (.slice e0 e1 e2) (.slice c0 c1 c2) (.slice f0 f1 f2) (.slice t0 t1 t2) (.slice o0 o1 o2)) LS (NR++(ROW::NS)) RR num rt XO (.slice (some ⟨g,0,none⟩) (NR++(ROW::NS)).length cap) XY wx)
  {u1 u2 u3 u4 u5 u6 u7 u8 u11 u12 u13 u14 u15 u16 VC VB VA u20 u21 u22 u23 u24 u25 u26 u27 u28 u29 u30 u31 u32 u33 u34 u35 u36 u37 u38 KP u40 KO u42 KN u44 u45 u46 KM u48 u49 KL u51 KK u53 KJ u55 KI KH u58 u59 u60 u61 KG u63 u64 KF u66 KE u68 u69 u70 KD u72 u73 KC u75 KB KA Kz Ky Kx Kw Kv Ku Kt Ks Kr Kq Kp Ko Kn Km Kl u93 Kk Kj Ki Kh Kg Kf Us Ur Uq Up Uo u105 Un Um Ul Uk Uj Ui Uh Ug Uf Ue Ud Uc Ub u119 Ua T9 T8 T7 u124 T6 T5 u127 T4 T3 T1 u131 Rk Te Sd Sc Sb R9 u138 u139 R8 R7 R6 R5 R4 Td Tc Tb Ta SZ SY SX u152 SW u154 SV SU ST SS SR SQ SP u162 SO u164 SN SM SL TY PP QG Rj SK R0 SJ SI TX:Value} (hK: ∀ (wz:World) {Z95 Z94 v171 Z93 v173 Z92 v175:Value},wz=wx.drew.setCells g (NR.length*24) (ZQ nd (.slice b0 b1 b2) (.slice e0 e1 e2) (.slice c0 c1 c2) (.slice f0 f1 f2) (.slice t0 t1 t2) (.slice o0 o1 o2))->K ⟨#[.pointer (some ⟨p,0,none⟩),u1,u2,u3,u4,u5,u6,u7,u8,.int .i64 NR.length,.pointer (some ⟨x,0,none⟩),u11,u12,u13,u14,u15,u16,VC,VB,VA,u20,u21,u22,u23,u24,u25,u26,u27,u28,u29,u30,u31,u32,u33,u34,u35,u36,u37,u38,KP,u40,KO,u42,KN,u44,u45,u46,KM,u48,u49,KL,u51,KK,u53,KJ,u55,KI,KH,u58,u59,u60,u61,KG,u63,u64,KF,u66,KE,u68,u69,u70,KD,u72,u73,KC,u75,KB,KA,Kz,Ky,Kx,Kw,Kv,Ku,Kt,Ks,Kr,Kq,Kp,Ko,Kn,Km,Kl,u93,Kk,Kj,Ki,Kh,Kg,Kf,Us,Ur,Uq,Up,Uo,u105,Un,Um,Ul,Uk,Uj,Ui,Uh,Ug,Uf,Ue,Ud,Uc,Ub,u119,Ua,T9,T8,T7,u124,T6,T5,u127,T4,T3,T1,u131,Rk,Te,Sd,Sc,Sb,R9,u138,u139,R8,R7,R6,R5,R4,Td,Tc,Tb,Ta,SZ,SY,SX,u152,SW,u154,SV,SU,ST,SS,SR,SQ,SP,u162,SO,u164,SN,SM,SL,TY,Z95,Z94,v171,Z93,v173,Z92,v175,TX],[]⟩ wz):
  Code.wp prog (Gx 25) (nrm K) ⟨#[.pointer (some ⟨p,0,none⟩),u1,u2,u3,u4,u5,u6,u7,u8,.int .i64 NR.length,.pointer (some ⟨x,0,none⟩),u11,u12,u13,u14,u15,u16,VC,VB,VA,u20,u21,u22,u23,u24,u25,u26,u27,u28,u29,u30,u31,u32,u33,u34,u35,u36,u37,u38,KP,u40,KO,u42,KN,u44,u45,u46,KM,u48,u49,KL,u51,KK,u53,KJ,u55,KI,KH,u58,u59,u60,u61,KG,u63,u64,KF,u66,KE,u68,u69,u70,KD,u72,u73,KC,u75,KB,KA,Kz,Ky,Kx,Kw,Kv,Ku,Kt,Ks,Kr,Kq,Kp,Ko,Kn,Km,Kl,u93,Kk,Kj,Ki,Kh,Kg,Kf,Us,Ur,Uq,Up,Uo,u105,Un,Um,Ul,Uk,Uj,Ui,Uh,Ug,Uf,Ue,Ud,Uc,Ub,u119,Ua,T9,T8,T7,u124,T6,T5,u127,T4,T3,T1,u131,Rk,Te,Sd,Sc,Sb,R9,u138,u139,R8,R7,R6,R5,R4,Td,Tc,Tb,Ta,SZ,SY,SX,u152,SW,u154,SV,SU,ST,SS,SR,SQ,SP,u162,SO,u164,SN,SM,SL,TY,PP,QG,Rj,SK,R0,SJ,SI,TX],[]⟩ wx:=by
 have hN:=hX.t.n;have d1:=hX.t.blk.cell 1 rfl;have HK:=Z5 hK;clear hK;obtain⟨nn,hnn⟩: ∃ nn:Nat,nn=(NR++(ROW::NS)).length:=⟨_,rfl⟩
 have hlt:NR.length < nn:=by rw[hnn];simp
 rw[<-hnn]at hN d1;have HNN:=Z5 hnn;clear hnn;have hXb:=hX.xb;have jS:=hN;have dd:=hX.t.blk.cell 1 rfl;rw[<-HNN.out]at dd;clear hX hN d1;conv=>arg 2;whnf
 refine wp_region_any (by kernel_rfl) ?_;try(change wpAny _ _ _ _ _ _ _ (World.drew _))
 refine wpAny_take (i:=0) (v:=.pointer (some ⟨p,0,none⟩)) rfl (by kernel_rfl) (by kernel_rfl) (by kernel_rfl) (fun _ _ _ h=>h) (Or.inl ⟨by rfl,fun w=>?_⟩) ?_
 .go_simp
 change wpAny _ _ _ _ _ _ ⟨#[.pointer (some ⟨p,0,none⟩),u1,u2,u3,u4,u5,u6,u7,u8,.int .i64 NR.length,.pointer (some ⟨x,0,none⟩),u11,u12,u13,u14,u15,u16,VC,VB,VA,u20,u21,u22,u23,u24,u25,u26,u27,u28,u29,u30,u31,u32,u33,u34,u35,u36,u37,u38,KP,u40,KO,u42,KN,u44,u45,u46,KM,u48,u49,KL,u51,KK,u53,KJ,u55,KI,KH,u58,u59,u60,u61,KG,u63,u64,KF,u66,KE,u68,u69,u70,KD,u72,u73,KC,u75,KB,KA,Kz,Ky,Kx,Kw,Kv,Ku,Kt,Ks,Kr,Kq,Kp,Ko,Kn,Km,Kl,u93,Kk,Kj,Ki,Kh,Kg,Kf,Us,Ur,Uq,Up,Uo,u105,Un,Um,Ul,Uk,Uj,Ui,Uh,Ug,Uf,Ue,Ud,Uc,Ub,u119,Ua,T9,T8,T7,u124,T6,T5,u127,T4,T3,T1,u131,Rk,Te,Sd,Sc,Sb,R9,u138,u139,R8,R7,R6,R5,R4,Td,Tc,Tb,Ta,SZ,SY,SX,u152,SW,u154,SV,SU,ST,SS,SR,SQ,SP,u162,SO,u164,SN,SM,SL,TY,.pointer (some ⟨p,0,none⟩),QG,Rj,SK,R0,SJ,SI,TX],[]⟩ _;refine wpAny_take (i:=1) (v:=.pointer (some ⟨p,0,none⟩)) rfl (by kernel_rfl) (by kernel_rfl) (by kernel_rfl) (fun _ _ _ h=>h) (Or.inl ⟨by rfl,fun w=>?_⟩) ?_
 .go_simp
 change wpAny _ _ _ _ _ _ ⟨#[.pointer (some ⟨p,0,none⟩),u1,u2,u3,u4,u5,u6,u7,u8,.int .i64 NR.length,.pointer (some ⟨x,0,none⟩),u11,u12,u13,u14,u15,u16,VC,VB,VA,u20,u21,u22,u23,u24,u25,u26,u27,u28,u29,u30,u31,u32,u33,u34,u35,u36,u37,u38,KP,u40,KO,u42,KN,u44,u45,u46,KM,u48,u49,KL,u51,KK,u53,KJ,u55,KI,KH,u58,u59,u60,u61,KG,u63,u64,KF,u66,KE,u68,u69,u70,KD,u72,u73,KC,u75,KB,KA,Kz,Ky,Kx,Kw,Kv,Ku,Kt,Ks,Kr,Kq,Kp,Ko,Kn,Km,Kl,u93,Kk,Kj,Ki,Kh,Kg,Kf,Us,Ur,Uq,Up,Uo,u105,Un,Um,Ul,Uk,Uj,Ui,Uh,Ug,Uf,Ue,Ud,Uc,Ub,u119,Ua,T9,T8,T7,u124,T6,T5,u127,T4,T3,T1,u131,Rk,Te,Sd,Sc,Sb,R9,u138,u139,R8,R7,R6,R5,R4,Td,Tc,Tb,Ta,SZ,SY,SX,u152,SW,u154,SV,SU,ST,SS,SR,SQ,SP,u162,SO,u164,SN,SM,SL,TY,.pointer (some ⟨p,0,none⟩),.pointer (some ⟨p,0,none⟩),Rj,SK,R0,SJ,SI,TX],[]⟩ _;refine wpAny_take (i:=2) (v:=.pointer (some ⟨p,1,none⟩)) rfl (by kernel_rfl) (by kernel_rfl) (by kernel_rfl) (fun _ _ _ h=>h) (Or.inl ⟨by rfl,fun w=>?_⟩) ?_
 .go_simp
 change wpAny _ _ _ _ _ _ ⟨#[.pointer (some ⟨p,0,none⟩),u1,u2,u3,u4,u5,u6,u7,u8,.int .i64 NR.length,.pointer (some ⟨x,0,none⟩),u11,u12,u13,u14,u15,u16,VC,VB,VA,u20,u21,u22,u23,u24,u25,u26,u27,u28,u29,u30,u31,u32,u33,u34,u35,u36,u37,u38,KP,u40,KO,u42,KN,u44,u45,u46,KM,u48,u49,KL,u51,KK,u53,KJ,u55,KI,KH,u58,u59,u60,u61,KG,u63,u64,KF,u66,KE,u68,u69,u70,KD,u72,u73,KC,u75,KB,KA,Kz,Ky,Kx,Kw,Kv,Ku,Kt,Ks,Kr,Kq,Kp,Ko,Kn,Km,Kl,u93,Kk,Kj,Ki,Kh,Kg,Kf,Us,Ur,Uq,Up,Uo,u105,Un,Um,Ul,Uk,Uj,Ui,Uh,Ug,Uf,Ue,Ud,Uc,Ub,u119,Ua,T9,T8,T7,u124,T6,T5,u127,T4,T3,T1,u131,Rk,Te,Sd,Sc,Sb,R9,u138,u139,R8,R7,R6,R5,R4,Td,Tc,Tb,Ta,SZ,SY,SX,u152,SW,u154,SV,SU,ST,SS,SR,SQ,SP,u162,SO,u164,SN,SM,SL,TY,.pointer (some ⟨p,0,none⟩),.pointer (some ⟨p,0,none⟩),.pointer (some ⟨p,1,none⟩),SK,R0,SJ,SI,TX],[]⟩ _;refine wpAny_take (i:=4) (v:=.int .i64 NR.length) rfl (by kernel_rfl) (by kernel_rfl) (by kernel_rfl) (fun _ _ _ h=>h) (Or.inl ⟨by rfl,fun w=>?_⟩) ?_
 .go_simp
 change wpAny _ _ _ _ _ _ ⟨#[.pointer (some ⟨p,0,none⟩),u1,u2,u3,u4,u5,u6,u7,u8,.int .i64 NR.length,.pointer (some ⟨x,0,none⟩),u11,u12,u13,u14,u15,u16,VC,VB,VA,u20,u21,u22,u23,u24,u25,u26,u27,u28,u29,u30,u31,u32,u33,u34,u35,u36,u37,u38,KP,u40,KO,u42,KN,u44,u45,u46,KM,u48,u49,KL,u51,KK,u53,KJ,u55,KI,KH,u58,u59,u60,u61,KG,u63,u64,KF,u66,KE,u68,u69,u70,KD,u72,u73,KC,u75,KB,KA,Kz,Ky,Kx,Kw,Kv,Ku,Kt,Ks,Kr,Kq,Kp,Ko,Kn,Km,Kl,u93,Kk,Kj,Ki,Kh,Kg,Kf,Us,Ur,Uq,Up,Uo,u105,Un,Um,Ul,Uk,Uj,Ui,Uh,Ug,Uf,Ue,Ud,Uc,Ub,u119,Ua,T9,T8,T7,u124,T6,T5,u127,T4,T3,T1,u131,Rk,Te,Sd,Sc,Sb,R9,u138,u139,R8,R7,R6,R5,R4,Td,Tc,Tb,Ta,SZ,SY,SX,u152,SW,u154,SV,SU,ST,SS,SR,SQ,SP,u162,SO,u164,SN,SM,SL,TY,.pointer (some ⟨p,0,none⟩),.pointer (some ⟨p,0,none⟩),.pointer (some ⟨p,1,none⟩),SK,.int .i64 NR.length,SJ,SI,TX],[]⟩ _;refine wpAny_ready (rs:= [3,5]) (by kernel_rfl) (by simp) ?_;refine AllReady.cons rfl (fun K hK=>?_) (AllReady.cons rfl (fun K hK=>?_) AllReady.nil)
 .go_simp;refine hK _ _ ?_;clear hK K;refine wpAny_ready (rs:= [5]) (by kernel_rfl) (by simp) ?_;refine AllReady.cons rfl (fun K hK=>?_) AllReady.nil
  .refine X0 rfl 79 (.tmp 10) rfl (b:=x) rfl hXb.drew _ underlying79 rfl (by kernel_rfl) ?_;refine hK _ _ ?_;clear hK K;refine wpAny_ready (rs:= [6]) (by kernel_rfl) (by simp) ?_;refine AllReady.cons rfl (fun K hK=>?_) AllReady.nil;go_simp;refine hK _ _ ?_;clear hK K;refine wpAny_ready (rs:= [7]) (by kernel_rfl) (by simp) ?_;refine AllReady.cons rfl (fun K hK=>?_) AllReady.nil;refine Sv rfl 79 (.tmp 175) (.tmp 174) rfl rfl (b:=g) (of:=NR.length*24) jS.drew (ZQ nd (.slice b0 b1 b2) (.slice e0 e1 e2) (.slice c0 c1 c2) (.slice f0 f1 f2) (.slice t0 t1 t2) (.slice o0 o1 o2)) rfl (by simp[ZQ];omega) (by kernel_rfl) (by simp[Value.oneCell',ZQ]) ?_;intro wz hwz;have HWZ:=Z5 hwz;clear hwz;refine hK _ _ ?_;clear hK K;refine wpAny_done (by kernel_rfl) ?_ _;exact HK.out _ HWZ.out
 .refine X0 rfl 79 (.tmp 10) rfl (b:=x) rfl hXb.drew _ underlying79 rfl (by kernel_rfl) ?_;refine hK _ _ ?_;clear hK K;refine wpAny_ready (rs:= [3]) (by kernel_rfl) (by simp) ?_;refine AllReady.cons rfl (fun K hK=>?_) AllReady.nil
  .go_simp;refine hK _ _ ?_;clear hK K;refine wpAny_ready (rs:= [6]) (by kernel_rfl) (by simp) ?_;refine AllReady.cons rfl (fun K hK=>?_) AllReady.nil;go_simp;refine hK _ _ ?_;clear hK K;refine wpAny_ready (rs:= [7]) (by kernel_rfl) (by simp) ?_;refine AllReady.cons rfl (fun K hK=>?_) AllReady.nil;refine Sv rfl 79 (.tmp 175) (.tmp 174) rfl rfl (b:=g) (of:=NR.length*24) jS.drew (ZQ nd (.slice b0 b1 b2) (.slice e0 e1 e2) (.slice c0 c1 c2) (.slice f0 f1 f2) (.slice t0 t1 t2) (.slice o0 o1 o2)) rfl (by simp[ZQ];omega) (by kernel_rfl) (by simp[Value.oneCell',ZQ]) ?_;intro wz hwz;have HWZ:=Z5 hwz;clear hwz;refine hK _ _ ?_;clear hK K;refine wpAny_done (by kernel_rfl) ?_ _;exact HK.out _ HWZ.out
end
section
theorem CJ {n:Nat} : ∀ {rs:List (List Value)},(∀ r∈rs,r.length=n)->rs.flatten.length=rs.length*n:=by
 intro rs
 induction rs with
 |nil=>intro _;simp
 |cons q rs ih=>
  intro h;rw[List.flatten_cons,Z4,ih (fun r hr=>h r (by simp[hr])),h q (by simp),ZJ,Nat.succ_mul];omega
theorem CI {n:Nat} {A X:List (List Value)} {r ys:List Value} (hA: ∀ r∈A,r.length=n) (hr:r.length=n) (hy:ys.length=n):Xm (A++(r::X)).flatten (A.length*n) ys=(A++(ys::X)).flatten:=by
 have hl:=CJ hA;rw[CK (by simp[hl,hr,hy])];rw[<-hl];simp only[List.flatten_append,List.flatten_cons];rw[List.take_left,ZI];congr 2;rw[List.drop_append,List.drop_of_length_le (by omega),List.nil_append,show A.flatten.length+ys.length -A.flatten.length=r.length by omega,List.drop_left]
theorem yw {w:World} {g o:Nat} {ys:List Value} {t B:Nat} (ht:Zq w g t) (hB:B<=g):Fr [t] B w (w.setCells g o ys):=(Fr.refl _ _ _).Xm (by simp) hB ht
theorem rS (h:Hd) (N:Nat) (ls:List Lf):(((ls++(if h.Zu=true then [(⟨N,1,0⟩:Lf)]else []))++(if h.init=true then [⟨N,2,0⟩]else []))++(if h.hasCond=true then [⟨N,3,0⟩]else []))++(if h.post=true then [⟨N,4,0⟩]else [])=ls++h.Yl N:=by
 unfold Hd.Yl;simp[ZI]
theorem Mb {α:Type} {b:Bool} {x:α} :(if b=true then [x]else []).length=b.toNat:=by cases b<;>rfl
theorem CH {h:Hd} {b e c:T} {w w9 wa wy wz:World} {B p x g cap num:Nat} {ls:List Lf} {NR RR NB RB NE RE NC RC:List (List Value)} {ROW:List Value} {rt rt4:Bool} {lv nv rv XH VM:Value} {sc:List Value} {nd:Nd} {vb ve vc cv tv ov:Value} {a pl:Nat} {ob oe:Out} {oc:WG}
  (hob:ob=if h.Zz=true then b.rd.l (NR++ [ROW]).length (RR.length+1) (ls++h.Yl NR.length).length (num+1) RR.length 0 else .none)
  (hoe:oe=if h.ZV=true then e.rd.l ((NR++ [ROW])++NB).length ((RR++RB).length+1) ((ls++h.Yl NR.length)++ob.ls).length (num+1+ob.it) (RR++RB).length 0 else .none)
  (hoc:oc=c.rd.c (h.kind==13) NR.length (((NR++ [ROW])++NB)++NE).length ((RR++RB)++RE).length (((ls++h.Yl NR.length)++ob.ls)++oe.ls).length (num+1+ob.it+oe.it) 0 0)
  (aB:YZ (Xt w9 w.heap.size none) ob.ns NB) (rB:YZ (W7 w9 w.heap.size none) (rowOf h.Zz NR.length (-1) ob) RB) (aE:YZ (Xt wa w.heap.size none) oe.ns NE) (rE:YZ (W7 wa w.heap.size none) (rowOf h.ZV NR.length (-1) oe) RE) (f9:Fr tT B w9 wa)
  (hC:CX w wa B p lv nv rv sc x nd vb ve vc oc.Yn oc.tests oc.YY ((((ls++h.Yl NR.length)++ob.ls)++oe.ls)++oc.ls) (NR++(ROW::(NB++NE++NC))) (((RR++RB)++RE)++RC) ((num+1+ob.it+oe.it+oc.it:Nat):Int) rt4 XH (.slice (some ⟨g,0,none⟩) (NR++(ROW::(NB++NE++NC))).length cap) VM cv tv ov oc.ns NC oc.rs RC wy)
  (hnd: ∀ cv tv ov,ZQ nd vb ve vc cv tv ov=ZQ ⟨h,num,a,pl,YL h.Zu ls.length,YL h.init (ls.length+h.Zu.toNat),YL h.hasCond (ls.length+h.Zu.toNat+h.init.toNat),YL h.post (ls.length+h.Zu.toNat+h.init.toNat+h.hasCond.toNat),YL h.Zz RR.length,YL h.ZV (RR++RB).length,oc.Yn,oc.tests,oc.YY,-1⟩ vb ve vc cv tv ov)
  (hvb: ∃ a n c,vb=.slice a n c) (hve: ∃ a n c,ve=.slice a n c) (hvc: ∃ a n c,vc=.slice a n c) (hz:wz=wy.drew.setCells g (NR.length*24) (ZQ nd vb ve vc cv tv ov))
  (hrt:rt4=true->rt=true/\Ql h b e c/\(h.Zz=true->b.fA)/\(h.ZV=true->e.fA)/\c.fA):
  Oh w B p ls NR RR num rt lv nv rv ((T.st h b e c .nil).rd.l NR.length RR.length ls.length num a pl).ls ((T.st h b e c .nil).rd.l NR.length RR.length ls.length num a pl).ns ((T.st h b e c .nil).rd.l NR.length RR.length ls.length num a pl).rs ((T.st h b e c .nil).rd.l NR.length RR.length ls.length num a pl).it
   (Ql h b e c/\(h.Zz=true->b.fA)/\(h.ZV=true->e.fA)/\c.fA) wz:=by
 have nB:=aB.len;have nE:=aE.len;have qB:=rB.len;have qE:=rE.len;have hX:=hC.nx;have tg:=Zg hX.t.n (g:=g) rfl;have lg:=hX.t.n.lt g rfl;have f1:Fr [79] B wy wz:=by rw[hz];exact((Fr.refl [79] B wy).drew).trans (yw (w:=wy.drew) tg lg.1)
 have f1':Fr tT B wy wz:=f1.mono (by decide) (Z7 _);have rR:=hC.hw;have hB:=hX.hB;have frB:Fr tT B w9 wz:=f9.trans (hC.f.trans f1');have frE:Fr tT B wa wz:=hC.f.trans f1';have hnl: ∀ r∈NR,r.length=24:=fun r hr=>hX.t.nl r (by simp[hr]);have hrow:ROW.length=24:=hX.t.nl ROW (by simp);have hN:wz.ownsRow B 79 24 (.slice (some ⟨g,0,none⟩) (NR++(ROW::(NB++NE++NC))).length cap) (NR++(ROW::(NB++NE++NC))).length (NR++(ZQ nd vb ve vc cv tv ov::(NB++NE++NC))).flatten:=by
  have h0:=Ke (ys:=ZQ nd vb ve vc cv tv ov) (o:=NR.length*24) hX.t.n.drew;rw[CI hnl hrow rfl]at h0;rw[hz];exact h0
 have e1:(T.st h b e c .nil).rd.l NR.length RR.length ls.length num a pl=⟨h.Yl NR.length++(ob.ls++(oe.ls++(oc.ls++ []))),⟨h,num,a,pl,YL h.Zu ls.length,YL h.init (ls.length+h.Zu.toNat),YL h.hasCond (ls.length+h.Zu.toNat+h.init.toNat),YL h.post (ls.length+h.Zu.toNat+h.init.toNat+h.hasCond.toNat),YL h.Zz RR.length,YL h.ZV (RR++RB).length,oc.Yn,oc.tests,oc.YY,-1⟩::(ob.ns++(oe.ns++(oc.ns++ []))),rowOf h.Zz NR.length (-1) ob++(rowOf h.ZV NR.length (-1) oe++(oc.rs++ [])),[(NR.length:Int)],1+ob.it+oe.it+oc.it+0⟩:=by
  have sk:ob=if h.Zz=true then b.rd.l (NR.length+1) (RR.length+1) (ls.length+(h.Yl NR.length).length) (num+1) RR.length 0 else .none:=by rw[hob];simp
  have Z91:oe=if h.ZV=true then e.rd.l (NR.length+1+ob.ns.length) (RR.length+(rowOf h.Zz NR.length (-1) ob).length+1) (ls.length+(h.Yl NR.length).length+ob.ls.length) (num+1+ob.it) (RR.length+(rowOf h.Zz NR.length (-1) ob).length) 0 else .none:=by
   rw[hoe];simp only[Z4,ZJ,List.length_nil,nB,qB,YR]
  have Z90:oc=c.rd.c (h.kind==13) NR.length (NR.length+1+ob.ns.length+oe.ns.length) (RR.length+(rowOf h.Zz NR.length (-1) ob).length+(rowOf h.ZV NR.length (-1) oe).length) (ls.length+(h.Yl NR.length).length+ob.ls.length+oe.ls.length) (num+1+ob.it+oe.it) 0 0:=by
   rw[hoc];simp only[Z4,ZJ,List.length_nil,nB,qB,nE,qE,YR]
  simp only[T.rd];rw[<-sk,<-Z91,<-Z90,Z4,<-qB];rfl
 rw[e1];refine⟨XH,.slice (some ⟨g,0,none⟩) (NR++(ROW::(NB++NE++NC))).length cap,VM,ZQ nd vb ve vc cv tv ov::(NB++NE++NC),RB++(RE++RC),rt4,⟨hX.t.hB,?_,?_,?_,?_,?_,?_⟩,?_,?_,hX.f.trans f1',?_,hX.n1,hX.n2,hX.n3,hrt⟩
 .have hb:=hX.t.blk.fr f1 (by decide);rw[show((num+(1+ob.it+oe.it+oc.it+0):Nat):Int)=((num+1+ob.it+oe.it+oc.it:Nat):Int)by omega];exact hb
 .have h0:=ZE f1 hX.t.l (by decide);simpa [ZI]using h0
 .have h0:(NR++(ROW::(NB++NE++NC))).length=(NR++(ZQ nd vb ve vc cv tv ov::(NB++NE++NC))).length:=by simp
  rw[<-h0];exact hN
 .have h0:=ZE f1 hX.t.r (by decide);simpa [ZI]using h0
 .intro r hr;have:=hX.t.nl;simp only[ZM,ZO]at hr this;rcases hr with hr|rfl|hr
  .exact this r (.inl hr)
  .rfl
  .exact this r (.inr (.inr hr))
 .intro r hr;exact hX.t.rl r (by simpa [ZI]using hr)
 .refine .cons ?_ ?_
  .rw[hnd];exact⟨vb,ve,vc,cv,tv,ov,rfl,hvb,hve,hvc,Yp (ZE f1 hC.c (by decide)) rR,⟨Yp (ZE f1 hC.t.1 (by decide)) rR,fun _ _=>by simp⟩,⟨Yp (ZE f1 hC.o.1 (by decide)) rR,fun _ _=>by simp⟩⟩
  .have k1:=aB.mono fun _ _ k=>k.fr frB (by decide) (by decide) (Z7 _);have k2:=aE.mono fun _ _ k=>k.fr frE (by decide) (by decide) (Z7 _);have k3:YZ (Xt wz w.heap.size none) oc.ns NC:=hC.ns.mono fun _ _ k=>by
    obtain⟨vb,ve,vc,cv,tv,ov,g1,g2,g3,g4,g5,g6,g7⟩:=k.1;exact⟨vb,ve,vc,cv,tv,ov,g1,g2,g3,g4,Yp (ZE f1 g5 (by decide)) rR,⟨Yp (ZE f1 g6.1 (by decide)) rR,fun _ _=>by simp⟩,⟨Yp (ZE f1 g7.1 (by decide)) rR,fun _ _=>by simp⟩⟩
   have:=k1.app (k2.app k3);simpa [ZI]using this
 .have k1:=rB.mono fun _ _ k=>k.fr frB (by decide) (Z7 _);have k2:=rE.mono fun _ _ k=>k.fr frE (by decide) (Z7 _);have k3:YZ (W7 wz w.heap.size none) oc.rs RC:=hC.rs.mono fun _ _ k=>by
   obtain⟨iv,g1,g2⟩:=k.1;exact⟨iv,g1,Yp (ZE f1 g2.1 (by decide)) rR,fun _ _=>by simp⟩
  have:=k1.app (k2.app k3);simpa [ZI]using this
 .have s1:=f1.size;have s2:=hX.o.size;refine⟨by omega,fun k hk hx=>?_⟩;rw[<-hX.o.block k hk hx,hz];refine(Only.Xm (X:= [g]) (by simp) (Only.refl [g] wy.drew)).block k (by show k < wy.heap.size;omega) ?_;intro hkg;simp at hkg;subst hkg;rcases hX.n2 k rfl with h1|h1
  .exact hx (VS.2 (.inr (.inr (.inl h1))))
  .omega
end
end Go.Proofs.YteedbaejpdjilaaGreat
