/- Part of the proof: NodF NodH NodG NodJ. -/
import Derived.Test.YteedbaejpdjilaaGreatXPy
import Derived.Test.YteedbaejpdjilaaGreatXQa
import Derived.Deep.CutRange
import Derived.Deep.CutBlock
set_option linter.all false
set_option maxRecDepth 100000
set_option maxHeartbeats 40000000
namespace Go.Proofs.YteedbaejpdjilaaGreat
open Go.RowKit
section
def SB (n:Nat):Code->Option Code
 | .seq a b=>(SB n a).or (SB n b)
 | .cond _ a b=>(SB n a).or (SB n b)
 | .block i c=>if i=n then some (.block i c)else SB n c
 | .loop c=>SB n c
 | .scope c=>SB n c
 |_=>none
noncomputable def oz (n:Nat):Code:=(SB n (Tryz.f93.body.getD .skip)).getD .skip
theorem vT {w w0 wr:World} {B p:Nat} {lv nv rv:Value} {sc:List Value} {x:Nat} {nd:Nd} {vb ve vc:Value} {chs:List VK} {T0 O0:List Int} {L1:List Lf} {NR RR:List (List Value)} {rt:Bool} {nv1 rv1 cv:Value} {ns:List Nd} {NS:List (List Value)} {rs:List Rw} {RS:List (List Value)} {N0 k cb:Nat} {e:Int} {bv:Value} {num bd:Int} {tn:Nat} {K:Act->World->Prop} (hRel:IW w w0 B p lv nv rv sc x nd vb ve vc chs T0 O0 L1 NR RR num rt nv1 rv1 cv ns NS rs RS N0 k tn cb e bv (.int .i64 0) wr) (htn:tn=bd.toNat) (hL:L1.length+tn<=90000) (hT:T0.length<=L1.length) (hO:O0.length=T0.length)
  {u1 u2 u3 u4 u5 u6 u7 u8 u12 u13 u14 u15 u16 u17 u18 u19 u20 u21 u22 u23 u24 u25 u26 u27 u28 u29 u30 u31 u32 u33 u34 u35 u36 u37 u38 u39 u40 u41 u42 u43 u44 u45 u46 u47 u48 u49 u50 u51 u52 u53 u54 u55 u56 u57 u58 u59 u60 u61 u62 u63 u64 u65 u66 u67 u68 u69 u70 u71 u72 u73 u74 u75 u76 u77 u78 u79 u80 u81 u82 u83 u84 u85 u86 u87 u88 u89 u90 u91 u92 u93 u94 u95 u96 u97 u98 u99 u100 u101 u102 u103 u104 u105 u106 u107 u108 u109 u110 u111 u112 u113 u114 u115 u116 u117 u118 u119 u120 u121 u122 u123 u124 u125 u126 u127 u128 u129 u130 u133 u134 u135 u136 u137 u138 u139 u140 u141 u142 u143 u144 u145 u146 u147 u148 u149 u150 u151 u152 u153 u154 u155 u156 u157 u158 u159 u160 u161 u162 u163 u164 u165 u166 u167 u168 u169 u170 u171 u172 u173 u174 u175 u176:Value} (hK: ∀ (wz:World) {v132 v133 v134 v135 v136 v137 v138 v139 v140 v141 v142 v143 v144 v145 v146 v147 v148 v149 v150 v151:Value},vF w w0 B p lv nv rv sc x nd vb ve vc chs T0 O0 L1 NR RR num rt nv1 rv1 cv ns NS rs RS N0 k tn cb e bv wz->K ⟨#[.pointer (some ⟨p,0,none⟩),u1,u2,u3,u4,u5,u6,u7,u8,.int .i64 N0,.pointer (some ⟨x,0,none⟩),.int .i64 k,u12,u13,u14,u15,u16,u17,u18,u19,u20,u21,u22,u23,u24,u25,u26,u27,u28,u29,u30,u31,u32,u33,u34,u35,u36,u37,u38,u39,u40,u41,u42,u43,u44,u45,u46,u47,u48,u49,u50,u51,u52,u53,u54,u55,u56,u57,u58,u59,u60,u61,u62,u63,u64,u65,u66,u67,u68,u69,u70,u71,u72,u73,u74,u75,u76,u77,u78,u79,u80,u81,u82,u83,u84,u85,u86,u87,u88,u89,u90,u91,u92,u93,u94,u95,u96,u97,u98,u99,u100,u101,u102,u103,u104,u105,u106,u107,u108,u109,u110,u111,u112,u113,u114,u115,u116,u117,u118,u119,u120,u121,u122,u123,u124,u125,u126,u127,u128,u129,u130,.int .i64 bd,v132,v133,v134,v135,v136,v137,v138,v139,v140,v141,v142,v143,v144,v145,v146,v147,v148,v149,v150,v151,u152,u153,u154,u155,u156,u157,u158,u159,u160,u161,u162,u163,u164,u165,u166,u167,u168,u169,u170,u171,u172,u173,u174,u175,u176],[]⟩ wz):
  Code.wp Tryz.prog (oz 2) (nrm K) ⟨#[.pointer (some ⟨p,0,none⟩),u1,u2,u3,u4,u5,u6,u7,u8,.int .i64 N0,.pointer (some ⟨x,0,none⟩),.int .i64 k,u12,u13,u14,u15,u16,u17,u18,u19,u20,u21,u22,u23,u24,u25,u26,u27,u28,u29,u30,u31,u32,u33,u34,u35,u36,u37,u38,u39,u40,u41,u42,u43,u44,u45,u46,u47,u48,u49,u50,u51,u52,u53,u54,u55,u56,u57,u58,u59,u60,u61,u62,u63,u64,u65,u66,u67,u68,u69,u70,u71,u72,u73,u74,u75,u76,u77,u78,u79,u80,u81,u82,u83,u84,u85,u86,u87,u88,u89,u90,u91,u92,u93,u94,u95,u96,u97,u98,u99,u100,u101,u102,u103,u104,u105,u106,u107,u108,u109,u110,u111,u112,u113,u114,u115,u116,u117,u118,u119,u120,u121,u122,u123,u124,u125,u126,u127,u128,u129,u130,.int .i64 bd,.int .i64 0,u133,u134,u135,u136,u137,u138,u139,u140,u141,u142,u143,u144,u145,u146,u147,u148,u149,u150,u151,u152,u153,u154,u155,u156,u157,u158,u159,u160,u161,u162,u163,u164,u165,u166,u167,u168,u169,u170,u171,u172,u173,u174,u175,u176],[]⟩ wr:=by
 have HK:=Z9 hK;have HT0:=Z9 hRel;have htn:=Z9 htn;clear hK hRel;conv=>arg 2;whnf
 go_wp2_with fail
 go_loopw [132] (fun ix wr=>IW w w0 B p lv nv rv sc x nd vb ve vc chs T0 O0 L1 NR RR num rt nv1 rv1 cv ns NS rs RS N0 k tn cb e bv ix wr) (fun ix _=>tn -(intOf ix).toNat)
 case atStart=>exact HT0.out
 case round=>
  obtain⟨q,lv3,tv3,ov3,rfl,hq,hC3,hb3⟩:=hrel;by_cases hql:q < tn
  ·have hqe:(q:Int) < bd:=by have:=htn.out;omega
   obtain⟨TQ,hTQ⟩: ∃ TQ:List Int,TQ=T0++(List.range q).map (fun u=>((L1.length+u:Nat):Int)):=⟨_,rfl⟩
   obtain⟨OQ,hOQ⟩: ∃ OQ:List Int,OQ=O0++List.replicate q (k:Int):=⟨_,rfl⟩
   obtain⟨LQ,hLQ⟩: ∃ LQ:List Lf,LQ=L1++(List.range q).map (fun u=>(⟨N0,5,(T0.length+u:Nat)⟩:Lf)):=⟨_,rfl⟩
   rw[<-hTQ,<-hOQ,<-hLQ]at hC3;have hLl:LQ.length<=90000:=by
    have h1:LQ.length=L1.length+q:=by rw[hLQ];simp only[List.length_append,List.length_map,List.length_range]
    omega
   have hTl:TQ.length<=90000:=by
    have h1:TQ.length=T0.length+q:=by rw[hTQ];simp only[List.length_append,List.length_map,List.length_range]
    omega
   have hOl:OQ.length<=90000:=by
    have h1:OQ.length=O0.length+q:=by rw[hOQ];simp only[List.length_append,List.length_replicate]
    omega
   have HQ:=Za hTQ hOQ hLQ;clear hTQ hOQ hLQ;obtain⟨oa,oc,rfl⟩:=ZX hC3.o.1;have HC3:=ZL hC3 hb3;clear hC3 hb3;go_wp2_with fail
   refine TB ?_;refine pF (k:=0) HC3.out.1 HC3.out.2 hLl hTl ?_;intro wc lv4 g cap y134 y135 y136 y137 y138 y139 y140 y141 y142 y143 y144 hC5 hb5;have c22:=hC5.nx.xb.cell 22 rfl;have ho5:=hC5.o.1;have sz5:=hC5.f.size;have HC5:=ZL hC5 hb5;clear hC5 hb5;go_wp2_with (at_builtin;refine ZG wc rfl _ _ 31 rfl w0.heap.size 3 (.int .i64 0) 1 8 Tryz.underlying31 info3 rfl (by decide) (by decide) ho5 (by rfl) [.int .i64 k] rfl ?c1 (by rfl) (by omega) (by omega) ?_)
   case c1=>simp[Value.oneCell']
   intro g2 cap2 w6 hown6 hg6 hat6 hlt6;have hxg:=HC5.out.1.xg ho5 (.inl rfl) hg6;have c22:=hxg.1.cell 22 rfl;have c22f:=hxg.1.free 22;have hC6:=HC5.out.1.jS (n:=OQ.length) rfl hown6 hg6 (hat6.imp id (fun h=>⟨h.1,by omega⟩));have hb6:=(hxg.2 _ _ _ HC5.out.2).setOther ⟨x,22,none⟩ (.slice (some ⟨g2,0,none⟩) (OQ.length+1) cap2) (ZN.ne (hxg.2 _ _ _ HC5.out.2).ty hxg.1.ty (by decide));have HC6:=Z9 (yg HQ.out.1 HQ.out.2.1 HQ.out.2.2 hql hC6 hb6);clear hC6 hb6 hxg;go_wp2_with fail
   exact⟨HC6.out,by simp[intOf];omega⟩
  ·have hqe: ¬ (q:Int) < bd:=by have:=htn.out;omega
   have hq2:q=tn:=by omega
   subst hq2;have HC3:=ZL hC3 hb3;clear hC3 hb3;go_wp2_with fail
   exact HK.out _ ⟨lv3,tv3,ov3,HC3.out.1,HC3.out.2⟩
end
section
variable {w:World} {B p m:Nat} {LS:List Lf} {NRX RRX:List (List Value)} {num:Int} {rt:Bool} {lv nv rv lv1 nv1 rv1:Value} {a pl x N0:Nat} {b e c:T} {ba ea ca:Option Addr} {bc ec cc:Nat} {hk0:Int} {hk1 hk2:ByteArray} {hk3 hk4 hk5 hk6 hk7:Bool} {Q:Exit->Act->World->Prop} {nd:Nd} {cv tv ov:Value} {wx:World}
theorem yQ {nm mm b3 o3:Nat} (hall:c.All UU) (hX:NX w B p lv nv rv [.int .i64 hk0,hk1,hk2,hk3,hk4,hk5,hk6,hk7,.slice ba b.len bc,.slice ea e.len ec,.slice ca c.len cc] x (ZY nd (.slice ba b.len bc) (.slice ea e.len ec) (.slice ca c.len cc) (.slice none 0 0) (.slice none 0 0) (.slice none 0 0)) LS NRX RRX (nm:Int) rt lv1 nv1 rv1 wx) (hSz:Sz mm LS NRX RRX nm) (hm:mm+7*c.wt+4<=90000) (s3:ZM (.slice ca c.len cc) b3 o3 c.len) (a3:c.At (Zl w B) false b3 o3)
  (hK: ∀ wy lv2 nv2 rv2 cv2 tv2 ov2 NR' RR' rt2 (A:Act),Q9 p a pl w.heap.size N0 x A->CX w wx B p lv nv rv [.int .i64 hk0,hk1,hk2,hk3,hk4,hk5,hk6,hk7,.slice ba b.len bc,.slice ea e.len ec,.slice ca c.len cc] x nd (.slice ba b.len bc) (.slice ea e.len ec) (.slice ca c.len cc) (c.rd.c (hk0==13) N0 NRX.length RRX.length LS.length nm 0 0).chs (c.rd.c (hk0==13) N0 NRX.length RRX.length LS.length nm 0 0).tests (c.rd.c (hk0==13) N0 NRX.length RRX.length LS.length nm 0 0).testOf (LS++(c.rd.c (hk0==13) N0 NRX.length RRX.length LS.length nm 0 0).ls) (NRX++NR') (RRX++RR') ((nm+(c.rd.c (hk0==13) N0 NRX.length RRX.length LS.length nm 0 0).it:Nat):Int) rt2 lv2 nv2 rv2 cv2 tv2 ov2 (c.rd.c (hk0==13) N0 NRX.length RRX.length LS.length nm 0 0).ns NR' (c.rd.c (hk0==13) N0 NRX.length RRX.length LS.length nm 0 0).rs RR' wy->(rt2=true->rt=true∧c.fA)->Code.wp Tryz.prog (X7 12) Q A wy) {A:Act} (hA:Q9 p a pl w.heap.size N0 x A:=by assumption):Code.wp Tryz.prog (X7 11) Q A wx:=by
 obtain⟨u,rfl⟩:=hA.out;have d0:=hX.s.cell 0 rfl;have d10:=hX.s.cell 10 rfl;obtain⟨av,cv0,hcc,hlen,hav⟩:=Z5 s3;have hcc':ca=av:=by simpa using(Value.slice.inj hcc).1
 subst hcc';have hav:=Z9 hav;have hwl:=Z9 hX.f.size
 have hS0:CG c w wx B p mm lv nv rv [.int .i64 hk0,hk1,hk2,hk3,hk4,hk5,hk6,hk7,.slice ba b.len bc,.slice ea e.len ec,.slice ca c.len cc] x nd (.slice ba b.len bc) (.slice ea e.len ec) (.slice ca c.len cc) LS NRX RRX nm rt b3 o3 N0 (hk0==13) (.int .i64 0) wx:=
  ⟨0,c,[],[],[],[],[],[],0,mm,lv1,nv1,rv1,.slice none 0 0,.slice none 0 0,.slice none 0 0,[],[],rt,rfl,hall,by simpa using a3,by simp,by simpa using CX.start hX,rfl,rfl,by simp,fun h=>⟨h,id⟩,by simpa using hSz,by omega,by simp[Ky]⟩
 have HS0:=Z9 hS0;have hcl:c.len<=90000:=by have:=T.Ti c;omega
 clear hS0 hall hSz s3 a3 hcc;have HM:=Z9 hm;clear hm;have HX:=Z9 hX;clear hX;have HK:=Z9 hK;clear hK;conv=>arg 2;whnf
 refine wp_seq_k (fun K hKK=>?_);have HKK:=Z9 hKK;clear hKK;go_wp2_with fail
 go_loopw [119] (fun ix wr=>CG c w wx B p mm lv nv rv [.int .i64 hk0,hk1,hk2,hk3,hk4,hk5,hk6,hk7,.slice ba b.len bc,.slice ea e.len ec,.slice ca c.len cc] x nd (.slice ba b.len bc) (.slice ea e.len ec) (.slice ca c.len cc) LS NRX RRX nm rt b3 o3 N0 (hk0==13) ix wr) (fun ix _=>c.len -(intOf ix).toNat)
 case atStart=>exact HS0.out
 case round=>
  obtain⟨k,rest,ls1,ns1,rs1,chs,ts,os,it1,m1,lv2,nv2,rv2,cv,tv,ov,NR1,RR1,rt1,rfl,hall,hat,hlen',hC,hchs,hos,htl,hrt,hSz,hm1,hEq⟩:=hrel;cases rest with
  |st=>exact absurd hat.1 (by simp)
  |nil=>
   have hk: ¬ k < c.len:=by simp[T.len]at hlen';omega
   have HC:=Za hC hrt hEq;clear hC hrt hEq hall hat hlen' hSz hm1 hos htl hchs;go_wp2_with fail
   refine HKK.out _ _ ?_;obtain⟨hC,hrt,hEq⟩:=HC.out;have hE:(c.rd.c (hk0==13) N0 NRX.length RRX.length LS.length nm 0 0)=⟨ls1,ns1,rs1,chs,ts,os,it1⟩:=by
    unfold Ky at hEq;rw[hEq];simp[T.rd]
   refine HK.out _ lv2 nv2 rv2 cv tv ov NR1 RR1 rt1 _ NI ?_ (fun h=>⟨(hrt h).1,(hrt h).2 trivial⟩);rw[hE];exact hC
  |cl ee bo tl=>
   have hk:k < c.len:=by simp[T.len]at hlen';omega
   obtain rfl:=hav.out (by omega);obtain⟨_,vb',b1',o1',hc0,hc1,s1,a1,a4⟩:=hat;obtain⟨xa,xc,rfl,_⟩:=Z5 s1;obtain⟨q1,q4⟩:=hall;have c0:wr.cell? ⟨b3,o3+k*2,none⟩=some (.int .i64 ee):=(hC.nx.f.below.cell (p:=⟨b3,o3+k*2,none⟩) hc0.1).trans hc0.2;have c1:wr.cell? ⟨b3,o3+k*2+1,none⟩=some (.slice xa bo.len xc):=(hC.nx.f.below.cell (p:=⟨b3,o3+k*2+1,none⟩) hc1.1).trans hc1.2;have hCA:=hC.low (w':=wr.alloc (.cells [.int .i64 ee,.slice xa bo.len xc].toArray 132)) ((Below.refl _ _).alloc (Nat.le_refl _) _);have hcb:=ZV.new wr [.int .i64 ee,.slice xa bo.len xc] 132;obtain⟨tn,htn⟩: ∃ tn:Nat,tn=if(hk0==13)=true then ee.toNat else 0:=⟨_,rfl⟩
   have hwt:m1+7*(1+ee.toNat+bo.wt+tl.wt)<=mm+7*c.wt:=hm1;have hmm:=HM.out;have HNum:=Z9 (V6 hCA.nx.t ⟨by omega,by have:=hSz.2.2.2;omega⟩);have HCA:=ZL hCA hcb;have HR:=Z9 (And.intro q1 (And.intro q4 (And.intro s1 (And.intro a1 (And.intro a4 (And.intro hlen' (And.intro hchs (And.intro hos (And.intro htl (And.intro hrt (And.intro hSz (And.intro hm1 (And.intro hEq (And.intro hC.ns.len (And.intro hC.rs.len (And.intro htn (And.intro hwt hmm)))))))))))))))));have hkb:k<=90000:=by omega
   clear hCA hcb q1 q4 s1 a1 a4 hlen' hchs hos htl hrt hSz hm1 hEq hC htn hwt hmm hc0 hc1;go_wp2_with fail
   refine HNum.out.mono ?_;rintro e' w1 ⟨rfl,hT1,f1,o1''⟩;have hC1:=HCA.out.1.call (HCA.out.1.nx.call hT1 (f1.mono (by decide) (Nat.le_refl _)) o1'' (Nw.refl _ _) (Nw.refl _ _) (Nw.refl _ _)) (f1.mono (by decide) (Nat.le_refl _));have hb1:=HCA.out.2.fr f1 (by decide);have k0:=hC1.nx.s.cell 0 rfl;have HC1:=ZL hC1 hb1;clear hC1 hT1 f1 o1'' HNum c0 c1;go_upto_if 128 with fail
   go_cut [119]from 119 to 168 (fun ix wz=>ix=.int .i64 k∧vF w wx B p lv nv rv [.int .i64 hk0,hk1,hk2,hk3,hk4,hk5,hk6,hk7,.slice ba b.len bc,.slice ea e.len ec,.slice (some ⟨b3,o3,none⟩) c.len cc] x nd (.slice ba b.len bc) (.slice ea e.len ec) (.slice (some ⟨b3,o3,none⟩) c.len cc) chs ts os (LS++ls1) (NRX++NR1) (RRX++RR1) ((nm+it1:Nat)+1:Int) rt1 nv2 rv2 cv ns1 NR1 rs1 RR1 N0 k tn wr.heap.size ee (.slice xa bo.len xc) wz)
   case first=>
    obtain⟨wo,hwo⟩: ∃ wo:World,wo=wr:=⟨_,rfl⟩
    subst hwo;obtain⟨hC1,hb1⟩:=HC1.out;have e0:=hb1.cell 0 rfl;have htn:=HR.out.2.2.2.2.2.2.2.2.2.2.2.2.2.2.2.1;by_cases hsw:hk0=13
    ·subst hsw;obtain rfl:tn=ee.toNat:=by rw[htn];rfl
     have HT0:=Z9 (Eh (N0:=N0) (k:=k) (ts:=ee.toNat) hC1 hb1);clear hC1 hb1 htn;have HL:Hid ((LS++ls1).length+ee.toNat<=90000∧ts.length<=(LS++ls1).length∧os.length=ts.length):=by
      obtain⟨_,_,_,_,_,_,_,hos,htl,_,hSz,_,_,_,_,_,hwt,hmm⟩:=HR.out;have:=hSz.1;exact⟨by omega,by rw[List.length_append];omega,hos⟩
     by_cases hee:0 < ee
     ·go_upto_block 2 with fail
      refine TB ?_;refine vT (bd:=ee) HT0.out rfl HL.out.1 HL.out.2.1 HL.out.2.2 ?_;intro wz y132 y133 y134 y135 y136 y137 y138 y139 y140 y141 y142 y143 y144 y145 y146 y147 y148 y149 y150 y151 hE;have hE:=Z9 hE;go_wp2_with fail
      go_meet;exact⟨rfl,hE.out⟩
     ·have he0:ee.toNat=0:=by omega
      rw[he0]at HT0
      go_upto_block 2 with fail
      refine TB ?_;refine vT (bd:=0) HT0.out rfl (by have:=HL.out.1;omega) HL.out.2.1 HL.out.2.2 ?_;intro wz y132 y133 y134 y135 y136 y137 y138 y139 y140 y141 y142 y143 y144 y145 y146 y147 y148 y149 y150 y151 hE;have hE:=Z9 hE;go_wp2_with fail
      go_meet;exact⟨rfl,by rw[he0];exact hE.out⟩
    ·obtain rfl:tn=0:=by rw[htn,if_neg (by simpa using hsw)]
     have HCC:=ZL hC1 hb1;clear hC1 hb1 htn;go_wp2_with fail
     go_meet;exact⟨rfl,_,_,_,by simpa using HCC.out.1,HCC.out.2⟩
   case rest=>
    obtain⟨rfl,lv3,tv3,ov3,hC3,hb3⟩:=hcut;obtain⟨q1,q4,s1,a1,a4,hlen',hchs,hos,htl,hrt,hSz,hm1,hEq,nl,rl,htn,hwt,hmm⟩:=HR.out;have hts:tn<=ee.toNat:=by rw[htn];split<;>omega
    have HRow:=Z9 (q1 wc.drew B p (m1+1+ee.toNat) ((LS++ls1)++(List.range tn).map (fun u=>(⟨N0,5,(ts.length+u:Nat)⟩:Lf))) (NRX++NR1) (RRX++RR1) (nm+it1+1) rt1 lv3 nv2 rv2 (.slice xa bo.len xc) b1' o1' N0 k (by simpa using hC3.drew.nx.t)
     (by obtain⟨z1,z2,z3,z4⟩:=hSz;exact⟨by simp only[List.length_append,List.length_map,List.length_range]at z1 ⊢;omega,by omega,by omega,by omega⟩) (by omega) s1 (a1.mono (fun _ _ _ h=>Zl.below hC3.drew.nx.f.below _ _ _ h)))
    have hcl:chs.length<=90000:=by omega
    have HC3:=ZL (show CX w wx B p lv nv rv [.int .i64 hk0,hk1,hk2,hk3,hk4,hk5,hk6,hk7,.slice ba b.len bc,.slice ea e.len ec,.slice (some ⟨b3,o3,none⟩) c.len cc] x nd (.slice ba b.len bc) (.slice ea e.len ec) (.slice (some ⟨b3,o3,none⟩) c.len cc) chs (ts++(List.range tn).map (fun u=>(((LS++ls1).length+u:Nat):Int))) (os++List.replicate tn (k:Int)) ((LS++ls1)++(List.range tn).map (fun u=>(⟨N0,5,(ts.length+u:Nat)⟩:Lf))) (NRX++NR1) (RRX++RR1) ((nm+it1+1:Nat):Int) rt1 lv3 nv2 rv2 cv tv3 ov3 ns1 NR1 rs1 RR1 wc by simpa using hC3) hb3;clear hC3 hb3 q1 q4 s1 a1 a4 hlen' hchs hos htl hrt hSz hm1 hEq nl rl htn hwt hmm hts;go_wp2_with fail
    refine TB ?_;refine ou HC3.out.1 HC3.out.2 HRow.out hcl ?_;intro wz lv4 nv4 rv4 NR' RR' rt2 g cap y152 y153 y154 y155 y156 y157 y158 y159 y160 y161 y162 y163 y164 y165 y166 y167 hC5 hrt2;have HS:=Z9 (xR (c:=c) (tl:=tl) (b:=bo) (e:=ee) (m:=mm) (rt:=rt) (bb:=b3) (o:=o3) (sw:=(hk0==13)) HR.out.2.1 HR.out.2.2.2.2.1 HR.out.2.2.2.2.2.1 HR.out.2.2.2.2.2.2.1 HR.out.2.2.2.2.2.2.2.1 HR.out.2.2.2.2.2.2.2.2.1 HR.out.2.2.2.2.2.2.2.2.2.1 HR.out.2.2.2.2.2.2.2.2.2.2.1 HR.out.2.2.2.2.2.2.2.2.2.2.2.1 HR.out.2.2.2.2.2.2.2.2.2.2.2.2.1 HR.out.2.2.2.2.2.2.2.2.2.2.2.2.2.1 HR.out.2.2.2.2.2.2.2.2.2.2.2.2.2.2.1 HR.out.2.2.2.2.2.2.2.2.2.2.2.2.2.2.2.1 rfl (by simpa using hC5) hrt2);clear hC5 hrt2;go_wp2_with fail
    exact⟨HS.out,by simp[intOf];omega⟩
end
section
theorem Ak {P:Program} {ops:Array Oper} {o:Oper} {a:Act} {w:World} {K:Act->World->Prop} {Q:Exit->Act->World->Prop} {E:Prop} (hgd:o.guard=none) (ty:TypeId) (x:Operand) (ho:o.op=.load ty x)
  {b of:Nat} {e:TypeId} {v:Value} (hx:a.eval x=.pointer (some ⟨b,of,none⟩)) (hu:P.underlying ty=some (.slice e)) (hb:w.cell? ⟨b,of,none⟩=some v)
  (h:K (a.put o.dst v) w):if Region.wanted o (yielded ops a.tmps)=true then Oper.wp P o a w K Q else E:=by
 have hw:Region.wanted o (yielded ops a.tmps)=true:=by simp[Region.wanted,hgd]
 rw[if_pos hw];unfold Oper.wp execOp;simp only[ho,hx,Instr.loadAt,Instr.sureAddr];simp[go_sem,run_underlying hu,hb,isAgg,Oper.upon];exact h
theorem um {P:Program} {ops:Array Oper} {o:Oper} {a:Act} {w:World} {K:Act->World->Prop} {Q:Exit->Act->World->Prop} {E:Prop} (hgd:o.guard=none) (ty:TypeId) (x y:Operand) (ho:o.op=.indexAddr ty x y)
  {g n cap k size:Nat} {e:TypeId} (hx:a.eval x=.slice (some ⟨g,0,none⟩) n cap) (hy:a.eval y=.int .i64 k) (hu:P.underlying ty=some (.slice e)) (hi:(P.info? e).map (·.size)=some size) (hk:k < n)
  (h:K (a.put o.dst (.pointer (some ⟨g,k*size,none⟩))) w):if Region.wanted o (yielded ops a.tmps)=true then Oper.wp P o a w K Q else E:=by
 have hw:Region.wanted o (yielded ops a.tmps)=true:=by simp[Region.wanted,hgd]
 rw[if_pos hw];unfold Oper.wp execOp;obtain⟨i,hi1,hi2⟩:=Option.map_eq_some_iff.1 hi;have hkn:(k:Int) < n:=by omega
 simp only[ho,hx,hy];simp[go_sem,hu,hi1,hi2,hk,hkn,sizeOf,typeInfo,Oper.upon];exact h
theorem DN: ∀ {ys cs:List Value} {o:Nat},o+ys.length<=cs.length->Yn cs o ys=cs.take o++ys++cs.drop (o+ys.length):=by
 intro ys
 induction ys with
 |nil=>intro cs o _;simp[Yn]
 |cons y ys ih=>
  intro cs o h;simp only[List.length_cons]at h;simp only[Yn];rw[ih (by simpa using by omega)];have h1:(cs.set o y).take (o+1)=cs.take o++ [y]:=by
   rw[List.take_add_one,List.take_set_of_le (by omega)];simp[List.getElem?_set,show o < cs.length by omega]
  have h2:(cs.set o y).drop (o+1+ys.length)=cs.drop (o+1+ys.length):=List.drop_set_of_lt (by omega);rw[h1,h2,List.length_cons,show o+(ys.length+1)=o+1+ys.length by omega];simp
theorem Nl {base e size n g cap:Nat} : ∀ {ys:List Value} {w:World} {xs:List Value} {o:Nat},w.ownsRow base e size (.slice (some ⟨g,0,none⟩) n cap) n xs->(w.setCells g o ys).ownsRow base e size (.slice (some ⟨g,0,none⟩) n cap) n (Yn xs o ys)
 | [],_,_,_,h=>h
 |y::ys,_,_,o,h=>Nl (ys:=ys) (h.stored o y).1
theorem UN {P:Program} {ops:Array Oper} {o:Oper} {a:Act} {w:World} {K:Act->World->Prop} {Q:Exit->Act->World->Prop} {E:Prop} (hgd:o.guard=none) (ty:TypeId) (x y:Operand) (ho:o.op=.store ty x y)
  {base e size n b of cap:Nat} {xs:List Value} (hx:a.eval x=.pointer (some ⟨b,of,none⟩)) (hb:w.ownsRow base e size (.slice (some ⟨b,0,none⟩) n cap) n xs) (ys:List Value) (hy:a.eval y=.agg ys.toArray) (hl:of+ys.length<=n*size) (hi:(P.info? ty).map (·.size)=some ys.length) (h1: ∀ v∈ys,v.oneCell'=true)
  (h: ∀ w',w'=w.setCells b of ys->K (a.put o.dst undef) w'):if Region.wanted o (yielded ops a.tmps)=true then Oper.wp P o a w K Q else E:=by
 have hw:Region.wanted o (yielded ops a.tmps)=true:=by simp[Region.wanted,hgd]
 rw[if_pos hw];refine wp_store_mid ty x y ho b of ys.toArray hx hy (fun j hj=>?_) (by simpa using hi) (all_oneCell_toArray h1) (h _ rfl);have hj':j < ys.length:=by simpa using hj
 have hxl:=hb.1;exact⟨by rw[World.ownsRow.cellAt hb (of+j) (by omega),List.getElem?_eq_getElem (by omega)];rfl,World.ownsRow.frozenAt hb (of+j)⟩
theorem pz {w wx:World} {B p:Nat} {lv nv rv:Value} {sc:List Value} {x g cap:Nat} {nd:Nd} {b0 e0 c0 f0 t0 o0:Option Addr} {b1 b2 e1 e2 c1 c2 f1 f2 t1 t2 o1 o2:Nat} {LS:List Lf} {NR NS RR:List (List Value)} {ROW:List Value} {num:Int} {rt:Bool} {lv1 rv1:Value} {K:Act->World->Prop}
  (hX:NX w B p lv nv rv sc x (ZY nd (.slice b0 b1 b2) (.slice e0 e1 e2) (.slice c0 c1 c2) (.slice f0 f1 f2) (.slice t0 t1 t2) (.slice o0 o1 o2)) LS (NR++(ROW::NS)) RR num rt lv1 (.slice (some ⟨g,0,none⟩) (NR++(ROW::NS)).length cap) rv1 wx)
  {u1 u2 u3 u4 u5 u6 u7 u8 u11 u12 u13 u14 u15 u16 u17 u18 u19 u20 u21 u22 u23 u24 u25 u26 u27 u28 u29 u30 u31 u32 u33 u34 u35 u36 u37 u38 u39 u40 u41 u42 u43 u44 u45 u46 u47 u48 u49 u50 u51 u52 u53 u54 u55 u56 u57 u58 u59 u60 u61 u62 u63 u64 u65 u66 u67 u68 u69 u70 u71 u72 u73 u74 u75 u76 u77 u78 u79 u80 u81 u82 u83 u84 u85 u86 u87 u88 u89 u90 u91 u92 u93 u94 u95 u96 u97 u98 u99 u100 u101 u102 u103 u104 u105 u106 u107 u108 u109 u110 u111 u112 u113 u114 u115 u116 u117 u118 u119 u120 u121 u122 u123 u124 u125 u126 u127 u128 u129 u130 u131 u132 u133 u134 u135 u136 u137 u138 u139 u140 u141 u142 u143 u144 u145 u146 u147 u148 u149 u150 u151 u152 u153 u154 u155 u156 u157 u158 u159 u160 u161 u162 u163 u164 u165 u166 u167 u168 u169 u170 u171 u172 u173 u174 u175 u176:Value} (hK: ∀ (wz:World) {v169 v170 v171 v172 v173 v174 v175:Value},wz=wx.drew.setCells g (NR.length*24) (ZY nd (.slice b0 b1 b2) (.slice e0 e1 e2) (.slice c0 c1 c2) (.slice f0 f1 f2) (.slice t0 t1 t2) (.slice o0 o1 o2))->K ⟨#[.pointer (some ⟨p,0,none⟩),u1,u2,u3,u4,u5,u6,u7,u8,.int .i64 NR.length,.pointer (some ⟨x,0,none⟩),u11,u12,u13,u14,u15,u16,u17,u18,u19,u20,u21,u22,u23,u24,u25,u26,u27,u28,u29,u30,u31,u32,u33,u34,u35,u36,u37,u38,u39,u40,u41,u42,u43,u44,u45,u46,u47,u48,u49,u50,u51,u52,u53,u54,u55,u56,u57,u58,u59,u60,u61,u62,u63,u64,u65,u66,u67,u68,u69,u70,u71,u72,u73,u74,u75,u76,u77,u78,u79,u80,u81,u82,u83,u84,u85,u86,u87,u88,u89,u90,u91,u92,u93,u94,u95,u96,u97,u98,u99,u100,u101,u102,u103,u104,u105,u106,u107,u108,u109,u110,u111,u112,u113,u114,u115,u116,u117,u118,u119,u120,u121,u122,u123,u124,u125,u126,u127,u128,u129,u130,u131,u132,u133,u134,u135,u136,u137,u138,u139,u140,u141,u142,u143,u144,u145,u146,u147,u148,u149,u150,u151,u152,u153,u154,u155,u156,u157,u158,u159,u160,u161,u162,u163,u164,u165,u166,u167,u168,v169,v170,v171,v172,v173,v174,v175,u176],[]⟩ wz):
  Code.wp Tryz.prog (IE 25) (nrm K) ⟨#[.pointer (some ⟨p,0,none⟩),u1,u2,u3,u4,u5,u6,u7,u8,.int .i64 NR.length,.pointer (some ⟨x,0,none⟩),u11,u12,u13,u14,u15,u16,u17,u18,u19,u20,u21,u22,u23,u24,u25,u26,u27,u28,u29,u30,u31,u32,u33,u34,u35,u36,u37,u38,u39,u40,u41,u42,u43,u44,u45,u46,u47,u48,u49,u50,u51,u52,u53,u54,u55,u56,u57,u58,u59,u60,u61,u62,u63,u64,u65,u66,u67,u68,u69,u70,u71,u72,u73,u74,u75,u76,u77,u78,u79,u80,u81,u82,u83,u84,u85,u86,u87,u88,u89,u90,u91,u92,u93,u94,u95,u96,u97,u98,u99,u100,u101,u102,u103,u104,u105,u106,u107,u108,u109,u110,u111,u112,u113,u114,u115,u116,u117,u118,u119,u120,u121,u122,u123,u124,u125,u126,u127,u128,u129,u130,u131,u132,u133,u134,u135,u136,u137,u138,u139,u140,u141,u142,u143,u144,u145,u146,u147,u148,u149,u150,u151,u152,u153,u154,u155,u156,u157,u158,u159,u160,u161,u162,u163,u164,u165,u166,u167,u168,u169,u170,u171,u172,u173,u174,u175,u176],[]⟩ wx:=by
 have hN:=hX.t.n;have d1:=hX.t.blk.cell 1 rfl;have HK:=Z9 hK;clear hK;obtain⟨nn,hnn⟩: ∃ nn:Nat,nn=(NR++(ROW::NS)).length:=⟨_,rfl⟩
 have hlt:NR.length < nn:=by rw[hnn];simp
 rw[<-hnn]at hN d1;have HNN:=Z9 hnn;clear hnn;have hXb:=hX.xb;have hNd:=hN;have dd:=hX.t.blk.cell 1 rfl;rw[<-HNN.out]at dd;clear hX hN d1;conv=>arg 2;whnf
 refine wp_region_any (by kernel_rfl) ?_;try(change wpAny _ _ _ _ _ _ _ (World.drew _))
 refine wpAny_take (i:=0) (v:=.pointer (some ⟨p,0,none⟩)) rfl (by kernel_rfl) (by kernel_rfl) (by kernel_rfl) (fun _ _ _ h=>h) (Or.inl ⟨by rfl,fun w=>?_⟩) ?_
 ·go_simp
 change wpAny _ _ _ _ _ _ ⟨#[.pointer (some ⟨p,0,none⟩),u1,u2,u3,u4,u5,u6,u7,u8,.int .i64 NR.length,.pointer (some ⟨x,0,none⟩),u11,u12,u13,u14,u15,u16,u17,u18,u19,u20,u21,u22,u23,u24,u25,u26,u27,u28,u29,u30,u31,u32,u33,u34,u35,u36,u37,u38,u39,u40,u41,u42,u43,u44,u45,u46,u47,u48,u49,u50,u51,u52,u53,u54,u55,u56,u57,u58,u59,u60,u61,u62,u63,u64,u65,u66,u67,u68,u69,u70,u71,u72,u73,u74,u75,u76,u77,u78,u79,u80,u81,u82,u83,u84,u85,u86,u87,u88,u89,u90,u91,u92,u93,u94,u95,u96,u97,u98,u99,u100,u101,u102,u103,u104,u105,u106,u107,u108,u109,u110,u111,u112,u113,u114,u115,u116,u117,u118,u119,u120,u121,u122,u123,u124,u125,u126,u127,u128,u129,u130,u131,u132,u133,u134,u135,u136,u137,u138,u139,u140,u141,u142,u143,u144,u145,u146,u147,u148,u149,u150,u151,u152,u153,u154,u155,u156,u157,u158,u159,u160,u161,u162,u163,u164,u165,u166,u167,u168,.pointer (some ⟨p,0,none⟩),u170,u171,u172,u173,u174,u175,u176],[]⟩ _;refine wpAny_take (i:=1) (v:=.pointer (some ⟨p,0,none⟩)) rfl (by kernel_rfl) (by kernel_rfl) (by kernel_rfl) (fun _ _ _ h=>h) (Or.inl ⟨by rfl,fun w=>?_⟩) ?_
 ·go_simp
 change wpAny _ _ _ _ _ _ ⟨#[.pointer (some ⟨p,0,none⟩),u1,u2,u3,u4,u5,u6,u7,u8,.int .i64 NR.length,.pointer (some ⟨x,0,none⟩),u11,u12,u13,u14,u15,u16,u17,u18,u19,u20,u21,u22,u23,u24,u25,u26,u27,u28,u29,u30,u31,u32,u33,u34,u35,u36,u37,u38,u39,u40,u41,u42,u43,u44,u45,u46,u47,u48,u49,u50,u51,u52,u53,u54,u55,u56,u57,u58,u59,u60,u61,u62,u63,u64,u65,u66,u67,u68,u69,u70,u71,u72,u73,u74,u75,u76,u77,u78,u79,u80,u81,u82,u83,u84,u85,u86,u87,u88,u89,u90,u91,u92,u93,u94,u95,u96,u97,u98,u99,u100,u101,u102,u103,u104,u105,u106,u107,u108,u109,u110,u111,u112,u113,u114,u115,u116,u117,u118,u119,u120,u121,u122,u123,u124,u125,u126,u127,u128,u129,u130,u131,u132,u133,u134,u135,u136,u137,u138,u139,u140,u141,u142,u143,u144,u145,u146,u147,u148,u149,u150,u151,u152,u153,u154,u155,u156,u157,u158,u159,u160,u161,u162,u163,u164,u165,u166,u167,u168,.pointer (some ⟨p,0,none⟩),.pointer (some ⟨p,0,none⟩),u171,u172,u173,u174,u175,u176],[]⟩ _;refine wpAny_take (i:=2) (v:=.pointer (some ⟨p,1,none⟩)) rfl (by kernel_rfl) (by kernel_rfl) (by kernel_rfl) (fun _ _ _ h=>h) (Or.inl ⟨by rfl,fun w=>?_⟩) ?_
 ·go_simp
 change wpAny _ _ _ _ _ _ ⟨#[.pointer (some ⟨p,0,none⟩),u1,u2,u3,u4,u5,u6,u7,u8,.int .i64 NR.length,.pointer (some ⟨x,0,none⟩),u11,u12,u13,u14,u15,u16,u17,u18,u19,u20,u21,u22,u23,u24,u25,u26,u27,u28,u29,u30,u31,u32,u33,u34,u35,u36,u37,u38,u39,u40,u41,u42,u43,u44,u45,u46,u47,u48,u49,u50,u51,u52,u53,u54,u55,u56,u57,u58,u59,u60,u61,u62,u63,u64,u65,u66,u67,u68,u69,u70,u71,u72,u73,u74,u75,u76,u77,u78,u79,u80,u81,u82,u83,u84,u85,u86,u87,u88,u89,u90,u91,u92,u93,u94,u95,u96,u97,u98,u99,u100,u101,u102,u103,u104,u105,u106,u107,u108,u109,u110,u111,u112,u113,u114,u115,u116,u117,u118,u119,u120,u121,u122,u123,u124,u125,u126,u127,u128,u129,u130,u131,u132,u133,u134,u135,u136,u137,u138,u139,u140,u141,u142,u143,u144,u145,u146,u147,u148,u149,u150,u151,u152,u153,u154,u155,u156,u157,u158,u159,u160,u161,u162,u163,u164,u165,u166,u167,u168,.pointer (some ⟨p,0,none⟩),.pointer (some ⟨p,0,none⟩),.pointer (some ⟨p,1,none⟩),u172,u173,u174,u175,u176],[]⟩ _;refine wpAny_take (i:=4) (v:=.int .i64 NR.length) rfl (by kernel_rfl) (by kernel_rfl) (by kernel_rfl) (fun _ _ _ h=>h) (Or.inl ⟨by rfl,fun w=>?_⟩) ?_
 ·go_simp
 change wpAny _ _ _ _ _ _ ⟨#[.pointer (some ⟨p,0,none⟩),u1,u2,u3,u4,u5,u6,u7,u8,.int .i64 NR.length,.pointer (some ⟨x,0,none⟩),u11,u12,u13,u14,u15,u16,u17,u18,u19,u20,u21,u22,u23,u24,u25,u26,u27,u28,u29,u30,u31,u32,u33,u34,u35,u36,u37,u38,u39,u40,u41,u42,u43,u44,u45,u46,u47,u48,u49,u50,u51,u52,u53,u54,u55,u56,u57,u58,u59,u60,u61,u62,u63,u64,u65,u66,u67,u68,u69,u70,u71,u72,u73,u74,u75,u76,u77,u78,u79,u80,u81,u82,u83,u84,u85,u86,u87,u88,u89,u90,u91,u92,u93,u94,u95,u96,u97,u98,u99,u100,u101,u102,u103,u104,u105,u106,u107,u108,u109,u110,u111,u112,u113,u114,u115,u116,u117,u118,u119,u120,u121,u122,u123,u124,u125,u126,u127,u128,u129,u130,u131,u132,u133,u134,u135,u136,u137,u138,u139,u140,u141,u142,u143,u144,u145,u146,u147,u148,u149,u150,u151,u152,u153,u154,u155,u156,u157,u158,u159,u160,u161,u162,u163,u164,u165,u166,u167,u168,.pointer (some ⟨p,0,none⟩),.pointer (some ⟨p,0,none⟩),.pointer (some ⟨p,1,none⟩),u172,.int .i64 NR.length,u174,u175,u176],[]⟩ _;refine wpAny_ready (rs:= [3,5]) (by kernel_rfl) (by simp) ?_;refine AllReady.cons rfl (fun K hK=>?_) (AllReady.cons rfl (fun K hK=>?_) AllReady.nil)
 ·go_simp;refine hK _ _ ?_;clear hK K;refine wpAny_ready (rs:= [5]) (by kernel_rfl) (by simp) ?_;refine AllReady.cons rfl (fun K hK=>?_) AllReady.nil
  ·refine YU rfl 79 (.tmp 10) rfl (b:=x) rfl hXb.drew _ Tryz.underlying79 rfl (by kernel_rfl) ?_;refine hK _ _ ?_;clear hK K;refine wpAny_ready (rs:= [6]) (by kernel_rfl) (by simp) ?_;refine AllReady.cons rfl (fun K hK=>?_) AllReady.nil;go_simp;refine hK _ _ ?_;clear hK K;refine wpAny_ready (rs:= [7]) (by kernel_rfl) (by simp) ?_;refine AllReady.cons rfl (fun K hK=>?_) AllReady.nil;refine UN rfl 79 (.tmp 175) (.tmp 174) rfl rfl (b:=g) (of:=NR.length*24) hNd.drew (ZY nd (.slice b0 b1 b2) (.slice e0 e1 e2) (.slice c0 c1 c2) (.slice f0 f1 f2) (.slice t0 t1 t2) (.slice o0 o1 o2)) rfl (by simp[ZY];omega) (by kernel_rfl) (by simp[Value.oneCell',ZY]) ?_;intro wz hwz;have HWZ:=Z9 hwz;clear hwz;refine hK _ _ ?_;clear hK K;refine wpAny_done (by kernel_rfl) ?_ _;exact HK.out _ HWZ.out
 ·refine YU rfl 79 (.tmp 10) rfl (b:=x) rfl hXb.drew _ Tryz.underlying79 rfl (by kernel_rfl) ?_;refine hK _ _ ?_;clear hK K;refine wpAny_ready (rs:= [3]) (by kernel_rfl) (by simp) ?_;refine AllReady.cons rfl (fun K hK=>?_) AllReady.nil
  ·go_simp;refine hK _ _ ?_;clear hK K;refine wpAny_ready (rs:= [6]) (by kernel_rfl) (by simp) ?_;refine AllReady.cons rfl (fun K hK=>?_) AllReady.nil;go_simp;refine hK _ _ ?_;clear hK K;refine wpAny_ready (rs:= [7]) (by kernel_rfl) (by simp) ?_;refine AllReady.cons rfl (fun K hK=>?_) AllReady.nil;refine UN rfl 79 (.tmp 175) (.tmp 174) rfl rfl (b:=g) (of:=NR.length*24) hNd.drew (ZY nd (.slice b0 b1 b2) (.slice e0 e1 e2) (.slice c0 c1 c2) (.slice f0 f1 f2) (.slice t0 t1 t2) (.slice o0 o1 o2)) rfl (by simp[ZY];omega) (by kernel_rfl) (by simp[Value.oneCell',ZY]) ?_;intro wz hwz;have HWZ:=Z9 hwz;clear hwz;refine hK _ _ ?_;clear hK K;refine wpAny_done (by kernel_rfl) ?_ _;exact HK.out _ HWZ.out
end
section
theorem EF {n:Nat} : ∀ {rs:List (List Value)},(∀ r∈rs,r.length=n)->rs.flatten.length=rs.length*n:=by
 intro rs
 induction rs with
 |nil=>intro _;simp
 |cons q rs ih=>
  intro h;rw[List.flatten_cons,List.length_append,ih (fun r hr=>h r (by simp[hr])),h q (by simp),List.length_cons,Nat.succ_mul];omega
theorem Ew {n:Nat} {A X:List (List Value)} {r ys:List Value} (hA: ∀ r∈A,r.length=n) (hr:r.length=n) (hy:ys.length=n):Yn (A++(r::X)).flatten (A.length*n) ys=(A++(ys::X)).flatten:=by
 have hl:=EF hA;rw[DN (by simp[hl,hr,hy])];rw[<-hl];simp only[List.flatten_append,List.flatten_cons];rw[List.take_left,List.append_assoc];congr 2;rw[List.drop_append,List.drop_of_length_le (by omega),List.nil_append,show A.flatten.length+ys.length -A.flatten.length=r.length by omega,List.drop_left]
theorem BN {w:World} {g o:Nat} {ys:List Value} {t B:Nat} (ht:ZN w g t) (hB:B<=g):Fr [t] B w (w.setCells g o ys):=(Fr.refl _ _ _).Yn (by simp) hB ht
theorem uH (h:Hd) (N:Nat) (ls:List Lf):(((ls++(if h.ZP=true then [(⟨N,1,0⟩:Lf)]else []))++(if h.init=true then [⟨N,2,0⟩]else []))++(if h.hasCond=true then [⟨N,3,0⟩]else []))++(if h.post=true then [⟨N,4,0⟩]else [])=ls++h.Zd N:=by
 unfold Hd.Zd;simp[List.append_assoc]
theorem NH {α:Type} {b:Bool} {x:α} :(if b=true then [x]else []).length=b.toNat:=by cases b<;>rfl
theorem EL {h:Hd} {b e c:T} {w w9 wa wy wz:World} {B p x g cap num:Nat} {ls:List Lf} {NR RR NB RB NE RE NC RC:List (List Value)} {ROW:List Value} {rt rt4:Bool} {lv nv rv lv2 rv2:Value} {sc:List Value} {nd:Nd} {vb ve vc cv tv ov:Value} {a pl:Nat} {ob oe:Out} {oc:XL}
  (hob:ob=if h.ZR=true then b.rd.l (NR++ [ROW]).length (RR.length+1) (ls++h.Zd NR.length).length (num+1) RR.length 0 else .none)
  (hoe:oe=if h.hasElse=true then e.rd.l ((NR++ [ROW])++NB).length ((RR++RB).length+1) ((ls++h.Zd NR.length)++ob.ls).length (num+1+ob.it) (RR++RB).length 0 else .none)
  (hoc:oc=c.rd.c (h.kind==13) NR.length (((NR++ [ROW])++NB)++NE).length ((RR++RB)++RE).length (((ls++h.Zd NR.length)++ob.ls)++oe.ls).length (num+1+ob.it+oe.it) 0 0)
  (aB:ZE (Yv w9 w.heap.size none) ob.ns NB) (rB:ZE (X6 w9 w.heap.size none) (rowOf h.ZR NR.length (-1) ob) RB) (aE:ZE (Yv wa w.heap.size none) oe.ns NE) (rE:ZE (X6 wa w.heap.size none) (rowOf h.hasElse NR.length (-1) oe) RE) (f9:Fr tT B w9 wa)
  (hC:CX w wa B p lv nv rv sc x nd vb ve vc oc.chs oc.tests oc.testOf ((((ls++h.Zd NR.length)++ob.ls)++oe.ls)++oc.ls) (NR++(ROW::(NB++NE++NC))) (((RR++RB)++RE)++RC) ((num+1+ob.it+oe.it+oc.it:Nat):Int) rt4 lv2 (.slice (some ⟨g,0,none⟩) (NR++(ROW::(NB++NE++NC))).length cap) rv2 cv tv ov oc.ns NC oc.rs RC wy)
  (hnd: ∀ cv tv ov,ZY nd vb ve vc cv tv ov=ZY ⟨h,num,a,pl,Zr h.ZP ls.length,Zr h.init (ls.length+h.ZP.toNat),Zr h.hasCond (ls.length+h.ZP.toNat+h.init.toNat),Zr h.post (ls.length+h.ZP.toNat+h.init.toNat+h.hasCond.toNat),Zr h.ZR RR.length,Zr h.hasElse (RR++RB).length,oc.chs,oc.tests,oc.testOf,-1⟩ vb ve vc cv tv ov)
  (hvb: ∃ a n c,vb=.slice a n c) (hve: ∃ a n c,ve=.slice a n c) (hvc: ∃ a n c,vc=.slice a n c) (hz:wz=wy.drew.setCells g (NR.length*24) (ZY nd vb ve vc cv tv ov))
  (hrt:rt4=true->rt=true∧SA h b e c∧(h.ZR=true->b.fA)∧(h.hasElse=true->e.fA)∧c.fA):
  QW w B p ls NR RR num rt lv nv rv ((T.st h b e c .nil).rd.l NR.length RR.length ls.length num a pl).ls ((T.st h b e c .nil).rd.l NR.length RR.length ls.length num a pl).ns ((T.st h b e c .nil).rd.l NR.length RR.length ls.length num a pl).rs ((T.st h b e c .nil).rd.l NR.length RR.length ls.length num a pl).it
   (SA h b e c∧(h.ZR=true->b.fA)∧(h.hasElse=true->e.fA)∧c.fA) wz:=by
 have nB:=aB.len;have nE:=aE.len;have qB:=rB.len;have qE:=rE.len;have hX:=hC.nx;have tg:=ZK hX.t.n (g:=g) rfl;have lg:=hX.t.n.lt g rfl;have f1:Fr [79] B wy wz:=by rw[hz];exact((Fr.refl [79] B wy).drew).trans (BN (w:=wy.drew) tg lg.1)
 have f1':Fr tT B wy wz:=f1.mono (by decide) (Nat.le_refl _);have hwa:=hC.hw;have hB:=hX.hB;have frB:Fr tT B w9 wz:=f9.trans (hC.f.trans f1');have frE:Fr tT B wa wz:=hC.f.trans f1';have hnl: ∀ r∈NR,r.length=24:=fun r hr=>hX.t.nl r (by simp[hr]);have hrow:ROW.length=24:=hX.t.nl ROW (by simp);have hN:wz.ownsRow B 79 24 (.slice (some ⟨g,0,none⟩) (NR++(ROW::(NB++NE++NC))).length cap) (NR++(ROW::(NB++NE++NC))).length (NR++(ZY nd vb ve vc cv tv ov::(NB++NE++NC))).flatten:=by
  have h0:=Nl (ys:=ZY nd vb ve vc cv tv ov) (o:=NR.length*24) hX.t.n.drew;rw[Ew hnl hrow rfl]at h0;rw[hz];exact h0
 have e1:(T.st h b e c .nil).rd.l NR.length RR.length ls.length num a pl=⟨h.Zd NR.length++(ob.ls++(oe.ls++(oc.ls++ []))),⟨h,num,a,pl,Zr h.ZP ls.length,Zr h.init (ls.length+h.ZP.toNat),Zr h.hasCond (ls.length+h.ZP.toNat+h.init.toNat),Zr h.post (ls.length+h.ZP.toNat+h.init.toNat+h.hasCond.toNat),Zr h.ZR RR.length,Zr h.hasElse (RR++RB).length,oc.chs,oc.tests,oc.testOf,-1⟩::(ob.ns++(oe.ns++(oc.ns++ []))),rowOf h.ZR NR.length (-1) ob++(rowOf h.hasElse NR.length (-1) oe++(oc.rs++ [])),[(NR.length:Int)],1+ob.it+oe.it+oc.it+0⟩:=by
  have hob':ob=if h.ZR=true then b.rd.l (NR.length+1) (RR.length+1) (ls.length+(h.Zd NR.length).length) (num+1) RR.length 0 else .none:=by rw[hob];simp
  have hoe':oe=if h.hasElse=true then e.rd.l (NR.length+1+ob.ns.length) (RR.length+(rowOf h.ZR NR.length (-1) ob).length+1) (ls.length+(h.Zd NR.length).length+ob.ls.length) (num+1+ob.it) (RR.length+(rowOf h.ZR NR.length (-1) ob).length) 0 else .none:=by
   rw[hoe];simp only[List.length_append,List.length_cons,List.length_nil,nB,qB,Nat.zero_add]
  have hoc':oc=c.rd.c (h.kind==13) NR.length (NR.length+1+ob.ns.length+oe.ns.length) (RR.length+(rowOf h.ZR NR.length (-1) ob).length+(rowOf h.hasElse NR.length (-1) oe).length) (ls.length+(h.Zd NR.length).length+ob.ls.length+oe.ls.length) (num+1+ob.it+oe.it) 0 0:=by
   rw[hoc];simp only[List.length_append,List.length_cons,List.length_nil,nB,qB,nE,qE,Nat.zero_add]
  simp only[T.rd];rw[<-hob',<-hoe',<-hoc',List.length_append,<-qB];rfl
 rw[e1];refine⟨lv2,.slice (some ⟨g,0,none⟩) (NR++(ROW::(NB++NE++NC))).length cap,rv2,ZY nd vb ve vc cv tv ov::(NB++NE++NC),RB++(RE++RC),rt4,⟨hX.t.hB,?_,?_,?_,?_,?_,?_⟩,?_,?_,hX.f.trans f1',?_,hX.n1,hX.n2,hX.n3,hrt⟩
 ·have hb:=hX.t.blk.fr f1 (by decide);rw[show((num+(1+ob.it+oe.it+oc.it+0):Nat):Int)=((num+1+ob.it+oe.it+oc.it:Nat):Int)by omega];exact hb
 ·have h0:=ZU f1 hX.t.l (by decide);simpa [List.append_assoc]using h0
 ·have h0:(NR++(ROW::(NB++NE++NC))).length=(NR++(ZY nd vb ve vc cv tv ov::(NB++NE++NC))).length:=by simp
  rw[<-h0];exact hN
 ·have h0:=ZU f1 hX.t.r (by decide);simpa [List.append_assoc]using h0
 ·intro r hr;have:=hX.t.nl;simp only[List.mem_append,List.mem_cons]at hr this;rcases hr with hr|rfl|hr
  ·exact this r (.inl hr)
  ·rfl
  ·exact this r (.inr (.inr hr))
 ·intro r hr;exact hX.t.rl r (by simpa [List.append_assoc]using hr)
 ·refine .cons ?_ ?_
  ·rw[hnd];exact⟨vb,ve,vc,cv,tv,ov,rfl,hvb,hve,hvc,YW (ZU f1 hC.c (by decide)) hwa,⟨YW (ZU f1 hC.t.1 (by decide)) hwa,fun _ _=>by simp⟩,⟨YW (ZU f1 hC.o.1 (by decide)) hwa,fun _ _=>by simp⟩⟩
  ·have k1:=aB.mono fun _ _ k=>k.fr frB (by decide) (by decide) (Nat.le_refl _);have k2:=aE.mono fun _ _ k=>k.fr frE (by decide) (by decide) (Nat.le_refl _);have k3:ZE (Yv wz w.heap.size none) oc.ns NC:=hC.ns.mono fun _ _ k=>by
    obtain⟨vb,ve,vc,cv,tv,ov,g1,g2,g3,g4,g5,g6,g7⟩:=k.1;exact⟨vb,ve,vc,cv,tv,ov,g1,g2,g3,g4,YW (ZU f1 g5 (by decide)) hwa,⟨YW (ZU f1 g6.1 (by decide)) hwa,fun _ _=>by simp⟩,⟨YW (ZU f1 g7.1 (by decide)) hwa,fun _ _=>by simp⟩⟩
   have:=k1.app (k2.app k3);simpa [List.append_assoc]using this
 ·have k1:=rB.mono fun _ _ k=>k.fr frB (by decide) (Nat.le_refl _);have k2:=rE.mono fun _ _ k=>k.fr frE (by decide) (Nat.le_refl _);have k3:ZE (X6 wz w.heap.size none) oc.rs RC:=hC.rs.mono fun _ _ k=>by
   obtain⟨iv,g1,g2⟩:=k.1;exact⟨iv,g1,YW (ZU f1 g2.1 (by decide)) hwa,fun _ _=>by simp⟩
  have:=k1.app (k2.app k3);simpa [List.append_assoc]using this
 ·have s1:=f1.size;have s2:=hX.o.size;refine⟨by omega,fun k hk hx=>?_⟩;rw[<-hX.o.block k hk hx,hz];refine(Only.Yn (X:= [g]) (by simp) (Only.refl [g] wy.drew)).block k (by show k < wy.heap.size;omega) ?_;intro hkg;simp at hkg;subst hkg;rcases hX.n2 k rfl with h1|h1
  ·exact hx (Xb.2 (.inr (.inr (.inl h1))))
  ·omega
end
end Go.Proofs.YteedbaejpdjilaaGreat
