/- Part of the proof: ReaB ReaC. -/
import Derived.Test.YteedbaejpdjilaaGreatXPt
import Derived.Test.YteedbaejpdjilaaGreatXPu
set_option linter.all false
set_option maxRecDepth 100000
set_option maxHeartbeats 40000000
namespace Go.Proofs.YteedbaejpdjilaaGreat
open Go.RowKit
section
theorem T.At.Yr {C:Cv} : ∀ {t:T} {k:Bool} {b o:Nat},t.At C k b o->t.Yr k:=by
 intro t
 induction t with
 |nil=>intro k b o _;trivial
 |st h b e c tl ih1 ih2 ih3 ih4=>
  intro k b o ⟨hk,vb,b1,o1,ve,b2,o2,vc,b3,o3,hh,s1,a1,s2,a2,s3,a3,a4⟩;exact⟨hk,ih1 a1,ih2 a2,ih3 a3,ih4 a4⟩
 |cl x b tl ih1 ih2=>
  intro k b o ⟨hk,vb,b1,o1,h0,h1,s1,a1,a2⟩;exact⟨hk,ih1 a1,ih2 a2⟩
theorem Oy: ∀ t:T,(t.Yr true-> ∀ n,t.Yd n<=max n 301)∧(t.Yr false-> ∀ n,t.Yd n<=n+604*t.len):=by
 intro t
 induction t with
 |nil=>exact⟨fun _ n=>by simp only[T.Yd];omega,fun _ n=>by simp only[T.Yd];omega⟩
 |st h b e c tl ih1 ih2 ih3 ih4=>
  refine⟨fun⟨_,s1,s2,s3,s4⟩ n=>?_,fun hs=>absurd hs.1 (by simp)⟩;simp only[T.Yd];split
  ·omega
  ·have:=ih4.1 s4 (c.Yd (n+1+b.Yd 0+e.Yd 0));omega
 |cl x b tl ih1 ih2=>
  refine⟨fun hs=>absurd hs.1 (by simp),fun⟨_,s1,s2⟩ n=>?_⟩;simp only[T.Yd,T.len];have h1:=ih2.2 s2 (n+1+(min x 301).toNat+b.Yd 0);have h2:=ih1.1 s1 0;have h3:(min x 301).toNat<=301:=by omega
  omega
def CP (t:T):Prop:= ∀ (w:World) (v:Value) (b o:Nat),ZM v b o t.len->t.At (Zl w w.heap.size) true b o->Calls Tryz.prog 80 #[v] w fun e w'=>e=.returned (.int .i64 (t.Yd 0))∧Below w.heap.size w w'
def oD (t:T) (w:World) (bb o:Nat) (nv ix:Value) (wr:World):Prop:= ∃ (k n:Nat) (rest:T),ix=.int .i64 k∧nv=.int .i64 n∧n<=300∧rest.All CP∧rest.At (Zl w w.heap.size) true bb (o+k*11)∧k+rest.len=t.len∧Below w.heap.size w wr∧t.Yd 0=rest.Yd n
def FH (c:T) (n0:Nat) (w wo:World) (bb o:Nat) (nv ix:Value) (wr:World):Prop:= ∃ (k n:Nat) (rest:T),ix=.int .i64 k∧nv=.int .i64 n∧n<=n0+604*k∧rest.All CP∧rest.At (Zl w w.heap.size) false bb (o+k*2)∧k+rest.len=c.len∧Below wo.heap.size wo wr∧c.Yd n0=rest.Yd n
theorem II (args:Array Value) (w:World):(callFunc 80 args).run Tryz.prog w=.ok (.enter 80 args) w:=by kernel_rfl
theorem GH (t:T) (hall:t.All CP):CP t:=by
 intro w v bb o hs hat;obtain⟨av,cv,rfl,hlen,hav⟩:=Z5 hs;have hav:=Z9 hav;clear hs;go_enter Tryz.func80,Tryz.ntmps80;go_wp2_with fail
 go_loopw [3,10] (fun nv ix wr=>oD t w bb o nv ix wr) (fun _ ix _=>t.len -(intOf ix).toNat)
 case atStart=>exact⟨0,0,t,rfl,rfl,by omega,hall,by simpa using hat,by simp,Below.refl _ _,rfl⟩
 case round=>
  obtain⟨k,n,rest,rfl,rfl,hn3,hall',hat',hlen',hb,heq⟩:=hrel;have sb:=hb.size;cases rest with
  |nil=>
   have hk: ¬ k < t.len:=by simp[T.len]at hlen';omega
   have HX:=Z9 heq;clear hlen' heq;go_wp2_with fail
   go_ret;exact⟨by rw[HX.out];rfl,hb⟩
  |cl=>exact absurd hat'.1 (by simp)
  |st h b e c tl=>
   have hk:k < t.len:=by simp[T.len]at hlen';omega
   obtain rfl:=hav.out (by omega);obtain⟨_,vb,b1,o1,ve,b2,o2,vc,b3,o3,hh,s1,a1,s2,a2,s3,a3,a4⟩:=hat';obtain⟨d0,d1,d2,d3,d4,d5,d6,d7,d8,d9,d10⟩:=hh.cells hb;obtain⟨ba,bc,rfl,_⟩:=Z5 s1;obtain⟨ea,ec,rfl,_⟩:=Z5 s2;obtain⟨ca,cc,rfl,hcl,hca⟩:=Z5 s3;have hca:=Z9 hca;obtain⟨q1,q2,q3,q4⟩:=hall';have hcut:(T.st h b e c tl).Yd n=if 300 < c.Yd (n+1+b.Yd 0+e.Yd 0)then 301 else tl.Yd (c.Yd (n+1+b.Yd 0+e.Yd 0)):=rfl
   have hw1:=(Oy b).1 a1.Yr 0;have hw2:=(Oy e).1 a2.Yr 0;have hw3:=(Oy c).2 a3.Yr (n+1+b.Yd 0+e.Yd 0);have HX:=ZL (heq.trans hcut) hlen';have HA:=Sl s1 a1 s2 a2 a3 a4;have HQ:=Yt q1 q2 q3 q4;obtain⟨hk0,hk1,hk2,hk3,hk4,hk5,hk6,hk7⟩:=h;clear s1 a1 s2 a2 s3 a3 a4 q1 q2 q3 q4 hh hlen' heq hcut;have hxb:=ZV.new wr [.int .i64 hk0,hk1,hk2,hk3,hk4,hk5,hk6,hk7,.slice ba b.len bc,.slice ea e.len ec,.slice ca c.len cc] 76;have hBw:Below w.heap.size w (wr.alloc (.cells [.int .i64 hk0,.string hk1,.string hk2,.bool hk3,.bool hk4,.bool hk5,.bool hk6,.bool hk7,.slice ba b.len bc,.slice ea e.len ec,.slice ca c.len cc].toArray 76)):=hb.alloc (by omega) _;have x8:=hxb.cell 8 rfl;have x9:=hxb.cell 9 rfl;generalize hwb:b.Yd 0=wb at*;generalize hwe:e.Yd 0=we at*;have HW:=ZL hwb hwe;clear hwb hwe;have r1:=IntWalk.i64_in (1+(wb:Int)) (by omega);have r2:=IntWalk.i64_in (1+(wb:Int)+(we:Int)) (by omega);have r3:=IntWalk.i64_in ((n:Int)+(1+(wb:Int)+(we:Int))) (by omega);go_upto_region 5 with fail
   obtain⟨W3,hW3d⟩: ∃ W3:World,W3=(wr.alloc (.cells [.int .i64 hk0,.string hk1,.string hk2,.bool hk3,.bool hk4,.bool hk5,.bool hk6,.bool hk7,.slice ba b.len bc,.slice ea e.len ec,.slice ca c.len cc].toArray 76)):=⟨_,rfl⟩
   rw[<-hW3d]at hxb hBw x8 x9;rw[<-hW3d];have HW3:=Z9 hW3d;clear hW3d;go_cut [3] (fun nv wx=>nv=.int .i64 ((n+1+wb+we:Nat):Int)∧Below W3.heap.size W3 wx)
   case first=>
    go_region_law (first
     |(refine Zj rfl 80 _ _ (by rfl) [.slice ba b.len bc] (by rfl) II ((HQ.out.1 W3.drew _ b1 o1 HA.out.1 (HA.out.2.1.mono (Zl.at hBw.drew))).mono ?_);rintro e' w4 ⟨rfl,hb4⟩;refine⟨_,rfl,?_⟩;have hx4:=YK hxb.drew hb4;have y9:=hx4.cell 9 rfl;rw[HW.out.1])
     |(refine Zj rfl 80 _ _ (by rfl) [.slice ea e.len ec] (by rfl) II ((HQ.out.2.1 w4 _ b2 o2 HA.out.2.2.1 (HA.out.2.2.2.1.mono (Zl.at (hBw.drew.trans (hb4.mono hBw.size))))).mono ?_);rintro e' w5 ⟨rfl,hb5⟩;refine⟨_,rfl,?_⟩;rw[HW.out.2]))
    all_goals
     go_wp2_with fail
     go_meet;refine⟨by push_cast;congr 1;omega,((Below.refl _ _).drew.trans hb4).trans (hb5.mono hb4.size)⟩
   case rest=>
    obtain⟨rfl,hbx⟩:=hcut;have hBx:Below w.heap.size w wc:=hBw.trans (hbx.mono hBw.size);have hxc:=YK hxb hbx;have x10:=hxc.cell 10 rfl;obtain⟨n0,hn0⟩: ∃ n0:Nat,n0=n+1+wb+we:=⟨_,rfl⟩
    rw[<-hn0]at hw3 ⊢;have HN:=Z9 hn0;have hn0b:n0<=903:=by omega
    have swx:=hBx.size;obtain⟨wo,hwo⟩: ∃ wo:World,wo=wr:=⟨_,rfl⟩
    subst hwo;clear hn0 x8 x9 r1 r2 r3;go_wp2_with fail
    go_loopw [3,27] (fun nv ix wx=>FH c n0 w wc b3 o3 nv ix wx) (fun _ ix _=>c.len -(intOf ix).toNat)
    case atStart=>exact⟨0,n0,c,rfl,rfl,by omega,HQ.out.2.2.1,by simpa using HA.out.2.2.2.2.1,by simp,Below.refl _ _,rfl⟩
    case round=>
     obtain⟨m,nn,restc,rfl,rfl,hnn,hallc,hatc,hlenc,hbc,heqc⟩:=hrel;have sc:=hbc.size;have hBw3:=hBx.trans (hbc.mono hBx.size);cases restc with
     |nil=>
      have hk: ¬ m < c.len:=by simp[T.len]at hlenc;omega
      have hcn:c.Yd n0=nn:=heqc;have HC:=Z9 hcn;clear hlenc heqc hcn;by_cases h3:300 < nn
      ·have h3':(300:Int) < nn:=by omega
       go_wp2_with fail
       go_ret;refine⟨?_,hBw3⟩;rw[HX.out.1,<-HN.out,HC.out,if_pos h3];rfl
      ·have h3': ¬ (300:Int) < nn:=by omega
       go_wp2_with fail
       refine⟨⟨k+1,nn,tl,by simp,rfl,by omega,HQ.out.2.2.2,by rw[show o+(k+1)*11=o+k*11+11 by omega];exact HA.out.2.2.2.2.2,by have:=HX.out.2;simp[T.len]at this;omega,hBw3,?_⟩,by simp[intOf];omega⟩;rw[HX.out.1,<-HN.out,HC.out,if_neg h3]
     |st=>exact absurd hatc.1 (by simp)
     |cl xe b6 tl6=>
      have hmk:m < c.len:=by simp[T.len]at hlenc;omega
      obtain rfl:=hca.out (by omega);obtain⟨_,vb6,b7,o7,hc0,hc1,s6,a6,a7⟩:=hatc;obtain⟨va6,vc6,rfl,_⟩:=Z5 s6;have g0:wr.cell? ⟨b3,o3+m*2,none⟩=some (.int .i64 xe):=(hBw3.cell (p:=⟨b3,o3+m*2,none⟩) hc0.1).trans hc0.2;have g1:wr.cell? ⟨b3,o3+m*2+1,none⟩=some (.slice va6 b6.len vc6):=(hBw3.cell (p:=⟨b3,o3+m*2+1,none⟩) hc1.1).trans hc1.2;obtain⟨q6,q7⟩:=hallc;have hw6:=(Oy b6).1 a6.Yr 0;have HB:=Fh s6 a6 a7 q6 q7 heqc hlenc;clear s6 a6 a7 q6 q7 hc0 hc1 hlenc heqc;have hB4:Below w.heap.size w (wr.alloc (.cells [.int .i64 xe,.slice va6 b6.len vc6].toArray 132)):=hBw3.alloc (by omega) _;have hB5:Below wc.heap.size wc (wr.alloc (.cells [.int .i64 xe,.slice va6 b6.len vc6].toArray 132)):=hbc.alloc (by omega) _;have zxb:=ZV.new wr [.int .i64 xe,.slice va6 b6.len vc6] 132;have z0:=zxb.cell 0 rfl;have z1:=zxb.cell 1 rfl;generalize hwb6:b6.Yd 0=w6 at*;have HW6:=Z9 hwb6;clear hwb6;obtain⟨xm,hxm⟩: ∃ xm:Int,xm=max 0 (min xe 301):=⟨_,rfl⟩
      have hxm1:0<=xm∧xm<=301:=by omega
      have r1:=IntWalk.i64_in (1+xm) (by omega);have r2:=IntWalk.i64_in (1+xm+(w6:Int)) (by omega);have r3:=IntWalk.i64_in ((nn:Int)+(1+xm+(w6:Int))) (by omega);go_upto_region 9 with fail
      obtain⟨W4,hW4d⟩: ∃ W4:World,W4=(wr.alloc (.cells [.int .i64 xe,.slice va6 b6.len vc6].toArray 132)):=⟨_,rfl⟩
      rw[<-hW4d]at hB4 hB5 zxb z0 z1;rw[<-hW4d];have HW4:=Z9 hW4d;clear hW4d;have hfin: ∀ w4:World,Below W4.heap.size W4 w4->FH c n0 w wc b3 o3 (.int .i64 ((nn:Int)+(1+xm+(w6:Int)))) (.int .i64 ((m:Int)+1)) w4:=fun w4 hb4=>by
       refine⟨m+1,nn+1+(min xe 301).toNat+w6,tl6,by simp,?_,by omega,HB.out.2.2.2.2.1,by rw[show o3+(m+1)*2=o3+m*2+2 by omega];exact HB.out.2.2.1,by have:=HB.out.2.2.2.2.2.2;simp[T.len]at this;omega,hB5.trans (hb4.mono hB5.size),?_⟩
       ·congr 1;omega
       ·rw[HB.out.2.2.2.2.2.1];simp only[T.Yd,HW6.out]
      have HF:=Z9 hfin;clear hfin;rcases(show(301 < xe∧xm=301)∨(¬ 301 < xe∧0 < xe∧xm=xe)∨(¬ 301 < xe∧ ¬ 0 < xe∧xm=0)by omega)with⟨A1,A2⟩ |⟨A1,A3,A2⟩ |⟨A1,A3,A2⟩
      ·clear hxm;subst A2;have p1:=IntWalk.i64_in (302:Int) (by omega);have p2:=IntWalk.i64_in (302+(w6:Int)) (by omega);have p3:=IntWalk.i64_in ((nn:Int)+(302+(w6:Int))) (by omega)
       go_region_held3 (fun w'=>w'.cell? ⟨wr.heap.size,0,none⟩=some (.int .i64 xe)∧w'.cell? ⟨wr.heap.size,1,none⟩=some (.slice va6 b6.len vc6))
        (first|exact⟨z0,z1⟩ |exact⟨y0,y1⟩ |go_keep)
        (first
         |(go_at_call 80;refine(HB.out.2.2.2.1 W4.drew _ b7 o7 HB.out.1 (HB.out.2.1.mono (Zl.at hB4.drew))).mono ?_;rintro e' w4 ⟨rfl,hb4⟩;have hz4:=YK zxb.drew hb4;have y0:=hz4.cell 0 rfl;have y1:=hz4.cell 1 rfl;rw[HW6.out]))
       all_goals
        have hS:=HF.out _ ((Below.refl _ _).drew.trans hb4);rw[show(1:Int)+301=302 by rfl]at hS;have HS:=Z9 hS;clear hS;go_wp2_with fail
        exact⟨HS.out,by simp[intOf];omega⟩
      ·clear hxm;subst A2;have e1:(if(301:Int) < xm then 301 else xm)=xm:=if_neg A1;have e2:(if 0 < xm then xm else 0)=xm:=if_pos A3
       go_region_held3 (fun w'=>w'.cell? ⟨wr.heap.size,0,none⟩=some (.int .i64 xm)∧w'.cell? ⟨wr.heap.size,1,none⟩=some (.slice va6 b6.len vc6))
        (first|exact⟨z0,z1⟩ |exact⟨y0,y1⟩ |go_keep)
        (first
         |(go_at_call 80;refine(HB.out.2.2.2.1 W4.drew _ b7 o7 HB.out.1 (HB.out.2.1.mono (Zl.at hB4.drew))).mono ?_;rintro e' w4 ⟨rfl,hb4⟩;have hz4:=YK zxb.drew hb4;have y0:=hz4.cell 0 rfl;have y1:=hz4.cell 1 rfl;rw[HW6.out]))
       all_goals
        have hS:=HF.out _ ((Below.refl _ _).drew.trans hb4);have HS:=Z9 hS;clear hS;go_wp2_with fail
        exact⟨HS.out,by simp[intOf];omega⟩
      ·clear hxm;subst A2;have e1:(if(301:Int) < xe then 301 else xe)=xe:=if_neg A1;have e2:(if 0 < xe then xe else 0)=0:=if_neg A3;have p1:=IntWalk.i64_in (1:Int) (by omega);have p2:=IntWalk.i64_in (1+(w6:Int)) (by omega);have p3:=IntWalk.i64_in ((nn:Int)+(1+(w6:Int))) (by omega)
       go_region_held3 (fun w'=>w'.cell? ⟨wr.heap.size,0,none⟩=some (.int .i64 xe)∧w'.cell? ⟨wr.heap.size,1,none⟩=some (.slice va6 b6.len vc6))
        (first|exact⟨z0,z1⟩ |exact⟨y0,y1⟩ |go_keep)
        (first
         |(go_at_call 80;refine(HB.out.2.2.2.1 W4.drew _ b7 o7 HB.out.1 (HB.out.2.1.mono (Zl.at hB4.drew))).mono ?_;rintro e' w4 ⟨rfl,hb4⟩;have hz4:=YK zxb.drew hb4;have y0:=hz4.cell 0 rfl;have y1:=hz4.cell 1 rfl;rw[HW6.out]))
       all_goals
        have hS:=HF.out _ ((Below.refl _ _).drew.trans hb4);rw[show(1:Int)+0=1 by rfl]at hS;have HS:=Z9 hS;clear hS;go_wp2_with fail
        exact⟨HS.out,by simp[intOf];omega⟩
theorem JC: ∀ t:T,CP t:=T.Xl GH
end
section
def Says (P:Prop) (e:Ending):Prop:= ∃ r,e=.returned (.bool r)∧(r=true->P)
def OT (h:Hd) (vb ve vc:Value):Value:=.agg #[.int .i64 h.kind,h.label,h.target,h.init,h.cond,h.post,h.hasElse,h.chain,vb,ve,vc]
theorem zi {s t:ByteArray} (h:s.toList=t.toList):s=t:=by
 rw[ByteArray.toList_eq,ByteArray.toList_eq]at h;exact ByteArray.ext (Array.toList_inj.1 h)
theorem Ua (w:World) (h h':Hd) (a1 a2 a3:Option Addr) (n1 n2 n3 c1 c2 c3:Nat) (vb' ve' vc':Value) (l1:n1<=35184372088832) (l2:n2<=35184372088832) (l3:n3<=35184372088832) (e1: ∃ a n c,vb'=.slice a n c) (e2: ∃ a n c,ve'=.slice a n c) (e3: ∃ a n c,vc'=.slice a n c):
  Calls Tryz.prog 129 #[OT h (.slice a1 n1 c1) (.slice a2 n2 c2) (.slice a3 n3 c3),OT h' vb' ve' vc'] w fun e w'=>Says (h.target=h'.target∧h.init=false∧h.cond=false∧h.post=false∧h.hasElse=false∧h.chain=false∧n1=0∧n2=0∧n3=0) e∧Below w.heap.size w w':=by
 obtain⟨hk0,hk1,hk2,hk3,hk4,hk5,hk6,hk7⟩:=h;obtain⟨gk0,gk1,gk2,gk3,gk4,gk5,gk6,gk7⟩:=h';obtain⟨_,_,_,rfl⟩:=e1;obtain⟨_,_,_,rfl⟩:=e2;obtain⟨_,_,_,rfl⟩:=e3;unfold OT;go_enter Tryz.func129,Tryz.ntmps129;go_wp2_with fail
 all_goals
  go_ret;refine⟨⟨_,rfl,fun hr=>?_⟩,by first|exact Below.refl _ _|exact((Below.refl _ _).alloc (Nat.le_refl _) _).alloc (by simp) _⟩
  first
   |(simp at hr;done)
   |(simp_all;exact⟨zi (by assumption),by omega,by omega,by omega⟩)
def T.ft (al:Prop):T->Prop
 | .nil=>True
 | .st h _ _ _ tl=>(h.kind=20->al∧tl=.nil)∧tl.ft al
 | .cl _ _ _=>True
def T.cf (kd:Int):T->Prop
 | .nil=>True
 | .st _ _ _ _ _=>True
 | .cl x b tl=>0<=x∧(kd=15->x<=1)∧b.ft (kd=13∧tl≠ .nil)∧tl.cf kd
theorem T.len_nil {t:T} (h:t.len=0):t=.nil:=by
 cases t with
 |nil=>rfl
 |st=>simp[T.len]at h
 |cl=>simp[T.len]at h
def wF (c:T) (kd:Int) (w:World) (cs:List Value) (bb o:Nat) (nv ix:Value) (wr:World):Prop:= ∃ (k n:Nat) (rest:T),ix=.int .i64 k∧nv=.int .i64 n∧n<=k∧n+rest.ZF=c.ZF∧rest.At (Zl w w.heap.size) false bb (o+k*2)∧k+rest.len=c.len∧Below w.heap.size w wr∧ZV wr w.heap.size cs 76∧(rest.cf kd->c.cf kd)
def Ed (b:T) (al:Prop) (w:World) (cs:List Value) (zb:Nat) (zs:List Value) (bb o:Nat) (ix:Value) (wr:World):Prop:= ∃ (k:Nat) (rest:T),ix=.int .i64 k∧rest.At (Zl w w.heap.size) true bb (o+k*11)∧k+rest.len=b.len∧Below w.heap.size w wr∧ZV wr w.heap.size cs 76∧ZV wr zb zs 132∧(rest.ft al->b.ft al)
theorem VG (w:World) (h:Hd) (c:T) (a1 a2:Option Addr) (n1 n2 c1 c2 b3 o3:Nat) (vc:Value) (hs:ZM vc b3 o3 c.len) (hat:c.At (Zl w w.heap.size) false b3 o3):
  Calls Tryz.prog 128 #[OT h (.slice a1 n1 c1) (.slice a2 n2 c2) vc] w fun e w'=>Says (c.cf h.kind∧c.ZF<=1∧(h.kind=13∨(h.kind=14∧h.cond=false)∨(h.kind=15∧0 < c.len∧h.init=false∧h.cond=false))) e∧Below w.heap.size w w':=by
 obtain⟨ca,cc,rfl,hcl,hca⟩:=Z5 hs;have hca:=Z9 hca;obtain⟨hk0,hk1,hk2,hk3,hk4,hk5,hk6,hk7⟩:=h;unfold OT;have hxb:=ZV.new w [.int .i64 hk0,hk1,hk2,hk3,hk4,hk5,hk6,hk7,.slice a1 n1 c1,.slice a2 n2 c2,.slice ca c.len cc] 76;have hB:=(Below.refl w.heap.size w).alloc (Nat.le_refl _) (.cells [.int .i64 hk0,.string hk1,.string hk2,.bool hk3,.bool hk4,.bool hk5,.bool hk6,.bool hk7,.slice a1 n1 c1,.slice a2 n2 c2,.slice ca c.len cc].toArray 76);go_enter Tryz.func128,Tryz.ntmps128;go_wp2_with fail
 go_loopw [3,11] (fun nv ix wr=>wF c hk0 w [.int .i64 hk0,hk1,hk2,hk3,hk4,hk5,hk6,hk7,.slice a1 n1 c1,.slice a2 n2 c2,.slice ca c.len cc] b3 o3 nv ix wr) (fun _ ix _=>c.len -(intOf ix).toNat)
 case atStart=>exact⟨0,0,c,rfl,rfl,Nat.le_refl _,by simp,by simpa using hat,by simp,hB,hxb,id⟩
 case round=>
  obtain⟨k,n,rest,rfl,rfl,hnk,hpl,hat',hlen',hb,hx,himp⟩:=hrel;have sb:=hb.size;have y0:=hx.cell 0 rfl;have y3:=hx.cell 3 rfl;have y4:=hx.cell 4 rfl;have y10:=hx.cell 10 rfl;have hxl:=hx.lt;cases rest with
  |nil=>
   have hk: ¬ k < c.len:=by simp[T.len]at hlen';omega
   have hcf:=himp trivial;have hpn:n=c.ZF:=by simpa [T.ZF]using hpl
   have HX:=ZL hcf hpn;clear himp hcf hpn hlen' hpl;go_wp2_with fail
   all_goals
    go_ret;refine⟨⟨_,rfl,fun hr=>?_⟩,hb⟩;have e1:=HX.out.1;have e2:=HX.out.2
    first
     |(simp at hr;done)
     |(refine⟨e1,by omega,?_⟩;simp_all;done)
     |(refine⟨e1,by omega,?_⟩;simp_all;try omega)
  |st=>exact absurd hat'.1 (by simp)
  |cl x b tl=>
   have hk:k < c.len:=by simp[T.len]at hlen';omega
   obtain rfl:=hca.out (by omega);obtain⟨_,vb,b7,o7,hc0,hc1,s6,a6,a7⟩:=hat';obtain⟨va6,vc6,rfl,hbl,hba⟩:=Z5 s6;have hba:=Z9 hba;have g0:wr.cell? ⟨b3,o3+k*2,none⟩=some (.int .i64 x):=(hb.cell (p:=⟨b3,o3+k*2,none⟩) hc0.1).trans hc0.2;have g1:wr.cell? ⟨b3,o3+k*2+1,none⟩=some (.slice va6 b.len vc6):=(hb.cell (p:=⟨b3,o3+k*2+1,none⟩) hc1.1).trans hc1.2;have HX:=XG hpl hlen' himp a6 a7;clear hpl hlen' himp s6 a6 a7 hc0 hc1;have hB4:Below w.heap.size w (wr.alloc (.cells [.int .i64 x,.slice va6 b.len vc6].toArray 132)):=hb.alloc (by omega) _;have zb:=ZV.new wr [.int .i64 x,.slice va6 b.len vc6] 132;have z0:=zb.cell 0 rfl;have z1:=zb.cell 1 rfl;have hx4:=hx.alloc (.cells [.int .i64 x,.slice va6 b.len vc6].toArray 132);have x0:=hx4.cell 0 rfl;have x10:=hx4.cell 10 rfl;obtain⟨W4,hW4d⟩: ∃ W4:World,W4=(wr.alloc (.cells [.int .i64 x,.slice va6 b.len vc6].toArray 132)):=⟨_,rfl⟩
   by_cases hbad:x < 0∨(hk0=15∧1 < x)
   ·by_cases hn:x < 0
    ·go_wp2_with fail
     go_ret;exact⟨⟨false,rfl,by simp⟩,hB4⟩
    ·have h15:(hk0==15)=true:=by simp;omega
     have h1x:1 < x:=by omega
     clear hbad;go_wp2_with fail
     go_ret;exact⟨⟨false,rfl,by simp⟩,hB4⟩
   ·have hx0:0<=x:=by omega
    have hx1:hk0=15->x<=1:=by omega
    go_upto_region 5 with fail
    rw[<-hW4d]at hB4 zb z0 z1 hx4 x0 x10;rw[<-hW4d];have HW4:=Z9 hW4d;clear hW4d y0 y3 y4 y10;go_cut [28] (fun b28 wx=>b28=.bool false∧wx=W4)
    case first=>
     by_cases h15:hk0=15
     ·have hx2:=hx1 h15;have hx3: ¬ 1 < x:=by omega
      have hx4': ¬ x < 0:=by omega
      have h15b:(hk0==15)=true:=by simpa using h15
      clear h15;go_wp2_with fail
      go_meet;exact⟨rfl,rfl⟩
     ·have hx4': ¬ x < 0:=by omega
      have h15':(hk0==15)=false:=by simpa using h15
      clear h15;go_wp2_with fail
      go_meet;exact⟨rfl,rfl⟩
    case rest=>
     obtain⟨rfl,rfl⟩:=hcut;go_upto_if 31 with fail
     go_cut [3] (fun nv wx=>nv=.int .i64 ((n+(decide (x=0)).toNat:Nat):Int)∧wx=wc)
     case first=>
      by_cases h0:x=0
      ·have h0b:(x==0)=true:=by simpa using h0
       have hd:(decide (x=0)).toNat=1:=by simp[h0]
       have HD:=Z9 hd;clear h0 hd;go_wp2_with fail
       go_meet;exact⟨by rw[HD.out];simp,rfl⟩
      ·have h0b:(x==0)=false:=by simpa using h0
       have hd:(decide (x=0)).toNat=0:=by simp[h0]
       have HD:=Z9 hd;clear h0 hd;go_wp2_with fail
       go_meet;exact⟨by rw[HD.out];simp,rfl⟩
     case rest=>
      obtain⟨rfl,rfl⟩:=hcut;have hlenk:k+1+tl.len=c.len:=by have:=HX.out.2.1;simp[T.len]at this;omega
      obtain⟨wo,hwo⟩: ∃ wo:World,wo=wr:=⟨_,rfl⟩
      subst hwo;clear x0 x10 z0 g0 g1;go_wp2_with fail
      go_loopw [37] (fun ix wx=>Ed b (hk0=13∧tl≠ .nil) w [.int .i64 hk0,hk1,hk2,hk3,hk4,hk5,hk6,hk7,.slice a1 n1 c1,.slice a2 n2 c2,.slice (some ⟨b3,o3,none⟩) c.len cc] wo.heap.size [.int .i64 x,.slice va6 b.len vc6] b7 o7 ix wx) (fun ix _=>b.len -(intOf ix).toNat)
      case atStart=>exact⟨0,b,rfl,by simpa using HX.out.2.2.2.1,by simp,hB4,hx4,zb,id⟩
      case round=>
       obtain⟨j,restb,rfl,hatb,hlenb,hbb,hxw,hzw,himpb⟩:=hrel;have sbb:=hbb.size;have y0:=hxw.cell 0 rfl;have y10:=hxw.cell 10 rfl;have z1:=hzw.cell 1 rfl;have hxl2:=hxw.lt;have hzl2:=hzw.lt;cases restb with
       |cl=>exact absurd hatb.1 (by simp)
       |nil=>
        have hk: ¬ j < b.len:=by simp[T.len]at hlenb;omega
        have HC:=Z9 himpb;clear himpb hlenb
        have hS:wF c hk0 w [.int .i64 hk0,hk1,hk2,hk3,hk4,hk5,hk6,hk7,.slice a1 n1 c1,.slice a2 n2 c2,.slice (some ⟨b3,o3,none⟩) c.len cc] b3 o3 (.int .i64 ((n+(decide (x=0)).toNat:Nat):Int)) (.int .i64 ((k:Int)+1)) wr:=
         ⟨k+1,n+(decide (x=0)).toNat,tl,by simp,rfl,by have:=Bool.toNat_le (decide (x=0));omega,by have:=HX.out.1;simp only[T.ZF]at this;omega,by rw[show o3+(k+1)*2=o3+k*2+2 by omega];exact HX.out.2.2.2.2,by omega,hbb,hxw,fun ht=>HX.out.2.2.1 ⟨hx0,hx1,HC.out trivial,ht⟩⟩
        have HS:=Z9 hS;clear hS hx1;go_wp2_with fail
        exact⟨HS.out,by simp[intOf];omega⟩
       |st h b' e' c' tl'=>
        have hjb:j < b.len:=by simp[T.len]at hlenb;omega
        obtain rfl:=hba.out (by omega);obtain⟨_,vb,b1,o1,ve,b2,o2,vc,b4,o4,hh,s1,a1',s2,a2',s3,a3',a4'⟩:=hatb;obtain⟨d0,d1,d2,d3,d4,d5,d6,d7,d8,d9,d10⟩:=hh.cells hbb;obtain⟨ba,bc,rfl,_⟩:=Z5 s1;obtain⟨ea,ec,rfl,_⟩:=Z5 s2;obtain⟨ca',cc',rfl,_⟩:=Z5 s3;have hlt':j+1+tl'.len=b.len:=by simp[T.len]at hlenb;omega
        have HA:=ZL a4' himpb;obtain⟨gk0,gk1,gk2,gk3,gk4,gk5,gk6,gk7⟩:=h;clear s1 a1' s2 a2' s3 a3' a4' hh himpb hlenb;have hB6:=hbb.alloc (by omega) (.cells [.int .i64 gk0,.string gk1,.string gk2,.bool gk3,.bool gk4,.bool gk5,.bool gk6,.bool gk7,.slice ba b'.len bc,.slice ea e'.len ec,.slice ca' c'.len cc'].toArray 76);have hxw6:=hxw.alloc (.cells [.int .i64 gk0,.string gk1,.string gk2,.bool gk3,.bool gk4,.bool gk5,.bool gk6,.bool gk7,.slice ba b'.len bc,.slice ea e'.len ec,.slice ca' c'.len cc'].toArray 76);have hzw6:=hzw.alloc (.cells [.int .i64 gk0,.string gk1,.string gk2,.bool gk3,.bool gk4,.bool gk5,.bool gk6,.bool gk7,.slice ba b'.len bc,.slice ea e'.len ec,.slice ca' c'.len cc'].toArray 76)
        have step:(gk0=20->hk0=13∧j+1=b.len∧k+1≠c.len)-> ∀ wx,Below w.heap.size w wx->ZV wx w.heap.size [.int .i64 hk0,hk1,hk2,hk3,hk4,hk5,hk6,hk7,.slice a1 n1 c1,.slice a2 n2 c2,.slice (some ⟨b3,o3,none⟩) c.len cc] 76->ZV wx wo.heap.size [.int .i64 x,.slice (some ⟨b7,o7,none⟩) b.len vc6] 132->
          Ed b (hk0=13∧tl≠ .nil) w [.int .i64 hk0,hk1,hk2,hk3,hk4,hk5,hk6,hk7,.slice a1 n1 c1,.slice a2 n2 c2,.slice (some ⟨b3,o3,none⟩) c.len cc] wo.heap.size [.int .i64 x,.slice (some ⟨b7,o7,none⟩) b.len vc6] b7 o7 (.int .i64 ((j:Int)+1)) wx:=by
         intro hst wx f1 f2 f3;refine⟨j+1,tl',by simp,by rw[show o7+(j+1)*11=o7+j*11+11 by omega];exact HA.out.1,by omega,f1,f2,f3,fun ht=>HA.out.2 ⟨fun h20=>?_,ht⟩⟩;obtain⟨e1,e2,e3⟩:=hst h20;refine⟨⟨e1,fun e=>?_⟩,T.len_nil (by omega)⟩;subst e;simp[T.len]at hlenk;omega
        have HST:=Z9 step;clear step hx1;by_cases h20:gk0=20
        ·have h20b:(gk0==20)=true:=by simpa using h20
         by_cases h13:hk0=13
         ·have h13b:(hk0 !=13)=false:=by simp[h13]
          by_cases hj1:j+1=b.len
          ·have hj2: ¬ ((j:Int) < (b.len:Int) -1):=by omega
           by_cases hk1':k+1=c.len
           ·have hk2':((k:Int)==(c.len:Int) -1)=true:=by simp;omega
            clear h20 h13;go_wp2_with fail
            go_ret;exact⟨⟨false,rfl,by simp⟩,hB6⟩
           ·have hk2':((k:Int)==(c.len:Int) -1)=false:=by simp;omega
            have hS:=Z9 (HST.out (fun _=>⟨h13,hj1,hk1'⟩) _ hB6 hxw6 hzw6);clear h20 h13;go_wp2_with fail
            exact⟨hS.out,by simp[intOf];omega⟩
          ·have hj2:((j:Int) < (b.len:Int) -1):=by omega
           clear h20 h13;go_wp2_with fail
           go_ret;exact⟨⟨false,rfl,by simp⟩,hB6⟩
         ·have h13b:(hk0 !=13)=true:=by simpa using h13
          clear h20 h13;go_wp2_with fail
          go_ret;exact⟨⟨false,rfl,by simp⟩,hB6⟩
        ·have h20b:(gk0==20)=false:=by simpa using h20
         have hS:=Z9 (HST.out (fun h=>absurd h h20) _ hB6 hxw6 hzw6);clear h20;go_wp2_with fail
         exact⟨hS.out,by simp[intOf];omega⟩
end
end Go.Proofs.YteedbaejpdjilaaGreat
