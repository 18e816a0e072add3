/- Part of the proof: ReaB ReaC. -/
import Derived.Test.YteedbaejpdjilaaGreatYPt
import Derived.Test.YteedbaejpdjilaaGreatYPu
set_option linter.all false
set_option maxRecDepth 100000
set_option maxHeartbeats 40000000
namespace Go.Proofs.YteedbaejpdjilaaGreat
open Go.RowKit Tryz
section
theorem T.At.Xv {C:Cv} : ∀ {t:T} {k:Bool} {b o:Nat},t.At C k b o->t.Xv k:=by
 intro t
 induction t with
 |nil=>intro k b o _;trivial
 |st h b e c tl ih1 ih2 ih3 ih4=>
  intro k b o ⟨hk,vb,b1,o1,ve,b2,o2,vc,b3,o3,hh,s1,a1,s2,a2,s3,a3,a4⟩;exact⟨hk,ih1 a1,ih2 a2,ih3 a3,ih4 a4⟩
 |cl x b tl ih1 ih2=>
  intro k b o ⟨hk,vb,b1,o1,h0,h1,s1,a1,a2⟩;exact⟨hk,ih1 a1,ih2 a2⟩
theorem Mg: ∀ t:T,(t.Xv true-> ∀ n,t.Xc n<=max n 301)/\(t.Xv false-> ∀ n,t.Xc n<=n+604*t.len):=by
 intro t
 induction t with
 |nil=>exact⟨fun _ n=>by simp only[T.Xc];omega,fun _ n=>by simp only[T.Xc];omega⟩
 |st h b e c tl ih1 ih2 ih3 ih4=>
  refine⟨fun⟨_,s1,s2,s3,s4⟩ n=>?_,fun hs=>absurd hs.1 (by simp)⟩;simp only[T.Xc];split
  .omega
  .have:=ih4.1 s4 (c.Xc (n+1+b.Xc 0+e.Xc 0));omega
 |cl x b tl ih1 ih2=>
  refine⟨fun hs=>absurd hs.1 (by simp),fun⟨_,s1,s2⟩ n=>?_⟩;simp only[T.Xc,T.len];have h1:=ih2.2 s2 (n+1+(min x 301).toNat+b.Xc 0);have h2:=ih1.1 s1 0;have h3:(min x 301).toNat<=301:=by omega
  omega
def C1 (t:T):Prop:= ∀ (w:World) (v:Value) (b o:Nat),Zi v b o t.len->t.At (YB w w.heap.size) true b o->Calls prog 80 #[v] w fun e w'=>e=.returned (.int .i64 (t.Xc 0))/\Below w.heap.size w w'
def kO (t:T) (w:World) (bb o:Nat) (nv ix:Value) (wr:World):Prop:= ∃ (k n:Nat) (rest:T),ix=.int .i64 k/\nv=.int .i64 n/\n<=300/\rest.All C1/\rest.At (YB w w.heap.size) true bb (o+k*11)/\k+rest.len=t.len/\Below w.heap.size w wr/\t.Xc 0=rest.Xc n
def C0 (c:T) (n0:Nat) (w wo:World) (bb o:Nat) (nv ix:Value) (wr:World):Prop:= ∃ (k n:Nat) (rest:T),ix=.int .i64 k/\nv=.int .i64 n/\n<=n0+604*k/\rest.All C1/\rest.At (YB w w.heap.size) false bb (o+k*2)/\k+rest.len=c.len/\Below wo.heap.size wo wr/\c.Xc n0=rest.Xc n
theorem GG (args:Array Value) (w:World):(callFunc 80 args).run prog w=.ok (.enter 80 args) w:=by kernel_rfl
theorem Fn (t:T) (hall:t.All C1):C1 t:=by
 intro w v bb o hs hat;obtain⟨av,cv,rfl,hlen,hav⟩:=ZU hs;have hav:=Z5 hav;clear hs;go_enter func80,ntmps80;go_wp2_with fail
 go_loopw [3,10] (fun nv ix wr=>kO t w bb o nv ix wr) (fun _ ix _=>t.len -(intOf ix).toNat)
 case atStart=>exact⟨0,0,t,rfl,rfl,by omega,hall,by simpa using hat,by simp,ZN _ _,rfl⟩
 case round=>
  obtain⟨k,n,rest,rfl,rfl,hn3,XC,hat',hlen',hb,heq⟩:=hrel;have sb:=hb.size;cases rest with
  |nil=>
   have hk: ¬ k < t.len:=by simp[T.len]at hlen';omega
   have HX:=Z5 heq;clear hlen' heq;go_wp2_with fail
   go_ret;exact⟨by rw[HX.out];rfl,hb⟩
  |cl=>exact absurd hat'.1 (by simp)
  |st h b e c tl=>
   have hk:k < t.len:=by simp[T.len]at hlen';omega
   obtain rfl:=hav.out (by omega);obtain⟨_,vb,b1,o1,ve,b2,o2,vc,b3,o3,hh,s1,a1,s2,a2,s3,a3,a4⟩:=hat';obtain⟨d0,d1,d2,d3,d4,d5,d6,d7,d8,d9,d10⟩:=hh.cells hb;obtain⟨ba,bc,rfl,_⟩:=ZU s1;obtain⟨ea,ec,rfl,_⟩:=ZU s2;obtain⟨ca,cc,rfl,hcl,hca⟩:=ZU s3;have hca:=Z5 hca;obtain⟨q1,q2,q3,q4⟩:=XC;have hcut:(T.st h b e c tl).Xc n=if 300 < c.Xc (n+1+b.Xc 0+e.Xc 0)then 301 else tl.Xc (c.Xc (n+1+b.Xc 0+e.Xc 0)):=rfl
   have hw1:=(Mg b).1 a1.Xv 0;have hw2:=(Mg e).1 a2.Xv 0;have hw3:=(Mg c).2 a3.Xv (n+1+b.Xc 0+e.Xc 0);have HX:=Zl (heq.trans hcut) hlen';have HA:=Qd s1 a1 s2 a2 a3 a4;have HQ:=Xp q1 q2 q3 q4;obtain⟨hk0,hk1,hk2,hk3,hk4,hk5,hk6,YJ⟩:=h;clear s1 a1 s2 a2 s3 a3 a4 q1 q2 q3 q4 hh hlen' heq hcut;have hxb:=ZD.new wr [.int .i64 hk0,hk1,hk2,hk3,hk4,hk5,hk6,YJ,.slice ba b.len bc,.slice ea e.len ec,.slice ca c.len cc] 76;have hBw:Below w.heap.size w (wr.alloc (.cells [.int .i64 hk0,.string hk1,.string hk2,.bool hk3,.bool hk4,.bool hk5,.bool hk6,.bool YJ,.slice ba b.len bc,.slice ea e.len ec,.slice ca c.len cc].toArray 76)):=hb.alloc (by omega) _;have x8:=hxb.cell 8 rfl;have x9:=hxb.cell 9 rfl;generalize hwb:b.Xc 0=wb at*;generalize hwe:e.Xc 0=we at*;have HW:=Zl hwb hwe;clear hwb hwe;have r1:=IntWalk.i64_in (1+(wb:Int)) (by omega);have r2:=IntWalk.i64_in (1+(wb:Int)+(we:Int)) (by omega);have r3:=IntWalk.i64_in ((n:Int)+(1+(wb:Int)+(we:Int))) (by omega);go_upto_region 5 with fail
   obtain⟨W3,Nx⟩: ∃ W3:World,W3=(wr.alloc (.cells [.int .i64 hk0,.string hk1,.string hk2,.bool hk3,.bool hk4,.bool hk5,.bool hk6,.bool YJ,.slice ba b.len bc,.slice ea e.len ec,.slice ca c.len cc].toArray 76)):=⟨_,rfl⟩
   rw[<-Nx]at hxb hBw x8 x9;rw[<-Nx];have HW3:=Z5 Nx;clear Nx;go_cut [3] (fun nv wx=>nv=.int .i64 ((n+1+wb+we:Nat):Int)/\Below W3.heap.size W3 wx)
   case first=>
    go_region_law (first
     |(refine Yy rfl 80 _ _ (by rfl) [.slice ba b.len bc] (by rfl) GG ((HQ.out.1 W3.drew _ b1 o1 HA.out.1 (HA.out.2.1.mono (YB.at hBw.drew))).mono ?_);rintro e' w4 ⟨rfl,hb4⟩;refine⟨_,rfl,?_⟩;have hx4:=XP hxb.drew hb4;have y9:=hx4.cell 9 rfl;rw[HW.out.1])
     |(refine Yy rfl 80 _ _ (by rfl) [.slice ea e.len ec] (by rfl) GG ((HQ.out.2.1 w4 _ b2 o2 HA.out.2.2.1 (HA.out.2.2.2.1.mono (YB.at (hBw.drew.trans (hb4.mono hBw.size))))).mono ?_);rintro e' w5 ⟨rfl,hb5⟩;refine⟨_,rfl,?_⟩;rw[HW.out.2]))
    all_goals
     go_wp2_with fail
     go_meet;refine⟨by push_cast;congr 1;omega,((ZN _ _).drew.trans hb4).trans (hb5.mono hb4.size)⟩
   case rest=>
    obtain⟨rfl,hbx⟩:=hcut;have hBx:Below w.heap.size w wc:=hBw.trans (hbx.mono hBw.size);have hxc:=XP hxb hbx;have x10:=hxc.cell 10 rfl;obtain⟨n0,hn0⟩: ∃ n0:Nat,n0=n+1+wb+we:=⟨_,rfl⟩
    rw[<-hn0]at hw3 ⊢;have HN:=Z5 hn0;have Z6j:n0<=903:=by omega
    have swx:=hBx.size;obtain⟨wo,hwo⟩: ∃ wo:World,wo=wr:=⟨_,rfl⟩
    subst hwo;clear hn0 x8 x9 r1 r2 r3;go_wp2_with fail
    go_loopw [3,27] (fun nv ix wx=>C0 c n0 w wc b3 o3 nv ix wx) (fun _ ix _=>c.len -(intOf ix).toNat)
    case atStart=>exact⟨0,n0,c,rfl,rfl,by omega,HQ.out.2.2.1,by simpa using HA.out.2.2.2.2.1,by simp,ZN _ _,rfl⟩
    case round=>
     obtain⟨m,nn,UV,rfl,rfl,hnn,KX,KW,WQ,hbc,Ml⟩:=hrel;have sc:=hbc.size;have hBw3:=hBx.trans (hbc.mono hBx.size);cases UV with
     |nil=>
      have hk: ¬ m < c.len:=by simp[T.len]at WQ;omega
      have hcn:c.Xc n0=nn:=Ml;have HC:=Z5 hcn;clear WQ Ml hcn;by_cases h3:300 < nn
      .have h3':(300:Int) < nn:=by omega
       go_wp2_with fail
       go_ret;refine⟨?_,hBw3⟩;rw[HX.out.1,<-HN.out,HC.out,if_pos h3];rfl
      .have h3': ¬ (300:Int) < nn:=by omega
       go_wp2_with fail
       refine⟨⟨k+1,nn,tl,by simp,rfl,by omega,HQ.out.2.2.2,by rw[show o+(k+1)*11=o+k*11+11 by omega];exact HA.out.2.2.2.2.2,by have:=HX.out.2;simp[T.len]at this;omega,hBw3,?_⟩,by simp[intOf];omega⟩;rw[HX.out.1,<-HN.out,HC.out,if_neg h3]
     |st=>exact absurd KW.1 (by simp)
     |cl xe b6 KU=>
      have hmk:m < c.len:=by simp[T.len]at WQ;omega
      obtain rfl:=hca.out (by omega);obtain⟨_,vb6,b7,o7,hc0,hc1,s6,a6,a7⟩:=KW;obtain⟨RV,SA,rfl,_⟩:=ZU s6;have g0:wr.cell? ⟨b3,o3+m*2,none⟩=some (.int .i64 xe):=(hBw3.cell (p:=⟨b3,o3+m*2,none⟩) hc0.1).trans hc0.2;have g1:wr.cell? ⟨b3,o3+m*2+1,none⟩=some (.slice RV b6.len SA):=(hBw3.cell (p:=⟨b3,o3+m*2+1,none⟩) hc1.1).trans hc1.2;obtain⟨q6,q7⟩:=KX;have hw6:=(Mg b6).1 a6.Xv 0;have HB:=Ev s6 a6 a7 q6 q7 Ml WQ;clear s6 a6 a7 q6 q7 hc0 hc1 WQ Ml;have hB4:Below w.heap.size w (wr.alloc (.cells [.int .i64 xe,.slice RV b6.len SA].toArray 132)):=hBw3.alloc (by omega) _;have vY:Below wc.heap.size wc (wr.alloc (.cells [.int .i64 xe,.slice RV b6.len SA].toArray 132)):=hbc.alloc (by omega) _;have qb:=ZD.new wr [.int .i64 xe,.slice RV b6.len SA] 132;have z0:=qb.cell 0 rfl;have z1:=qb.cell 1 rfl;generalize kN:b6.Xc 0=w6 at*;have gM:=Z5 kN;clear kN;obtain⟨xm,hxm⟩: ∃ xm:Int,xm=max 0 (min xe 301):=⟨_,rfl⟩
      have Z6i:0<=xm/\xm<=301:=by omega
      have r1:=IntWalk.i64_in (1+xm) (by omega);have r2:=IntWalk.i64_in (1+xm+(w6:Int)) (by omega);have r3:=IntWalk.i64_in ((nn:Int)+(1+xm+(w6:Int))) (by omega);go_upto_region 9 with fail
      obtain⟨W4,Mf⟩: ∃ W4:World,W4=(wr.alloc (.cells [.int .i64 xe,.slice RV b6.len SA].toArray 132)):=⟨_,rfl⟩
      rw[<-Mf]at hB4 vY qb z0 z1;rw[<-Mf];have HW4:=Z5 Mf;clear Mf;have hfin: ∀ w4:World,Below W4.heap.size W4 w4->C0 c n0 w wc b3 o3 (.int .i64 ((nn:Int)+(1+xm+(w6:Int)))) (.int .i64 ((m:Int)+1)) w4:=fun w4 hb4=>by
       refine⟨m+1,nn+1+(min xe 301).toNat+w6,KU,by simp,?_,by omega,HB.out.2.2.2.2.1,by rw[show o3+(m+1)*2=o3+m*2+2 by omega];exact HB.out.2.2.1,by have:=HB.out.2.2.2.2.2.2;simp[T.len]at this;omega,vY.trans (hb4.mono vY.size),?_⟩
       .congr 1;omega
       .rw[HB.out.2.2.2.2.2.1];simp only[T.Xc,gM.out]
      have HF:=Z5 hfin;clear hfin;rcases(show(301 < xe/\xm=301)\/(¬ 301 < xe/\0 < xe/\xm=xe)\/(¬ 301 < xe/\ ¬ 0 < xe/\xm=0)by omega)with⟨A1,A2⟩ |⟨A1,A3,A2⟩ |⟨A1,A3,A2⟩
      .clear hxm;subst A2;have p1:=IntWalk.i64_in (302:Int) (by omega);have p2:=IntWalk.i64_in (302+(w6:Int)) (by omega);have p3:=IntWalk.i64_in ((nn:Int)+(302+(w6:Int))) (by omega)
       go_region_held3 (fun w'=>w'.cell? ⟨wr.heap.size,0,none⟩=some (.int .i64 xe)/\w'.cell? ⟨wr.heap.size,1,none⟩=some (.slice RV b6.len SA))
        (first|exact⟨z0,z1⟩ |exact⟨y0,y1⟩ |go_keep)
        (first
         |(go_at_call 80;refine(HB.out.2.2.2.1 W4.drew _ b7 o7 HB.out.1 (HB.out.2.1.mono (YB.at hB4.drew))).mono ?_;rintro e' w4 ⟨rfl,hb4⟩;have vR:=XP qb.drew hb4;have y0:=vR.cell 0 rfl;have y1:=vR.cell 1 rfl;rw[gM.out]))
       all_goals
        have hS:=HF.out _ ((ZN _ _).drew.trans hb4);rw[show(1:Int)+301=302 by rfl]at hS;have HS:=Z5 hS;clear hS;go_wp2_with fail
        exact⟨HS.out,by simp[intOf];omega⟩
      .clear hxm;subst A2;have e1:(if(301:Int) < xm then 301 else xm)=xm:=if_neg A1;have e2:(if 0 < xm then xm else 0)=xm:=if_pos A3
       go_region_held3 (fun w'=>w'.cell? ⟨wr.heap.size,0,none⟩=some (.int .i64 xm)/\w'.cell? ⟨wr.heap.size,1,none⟩=some (.slice RV b6.len SA))
        (first|exact⟨z0,z1⟩ |exact⟨y0,y1⟩ |go_keep)
        (first
         |(go_at_call 80;refine(HB.out.2.2.2.1 W4.drew _ b7 o7 HB.out.1 (HB.out.2.1.mono (YB.at hB4.drew))).mono ?_;rintro e' w4 ⟨rfl,hb4⟩;have vR:=XP qb.drew hb4;have y0:=vR.cell 0 rfl;have y1:=vR.cell 1 rfl;rw[gM.out]))
       all_goals
        have hS:=HF.out _ ((ZN _ _).drew.trans hb4);have HS:=Z5 hS;clear hS;go_wp2_with fail
        exact⟨HS.out,by simp[intOf];omega⟩
      .clear hxm;subst A2;have e1:(if(301:Int) < xe then 301 else xe)=xe:=if_neg A1;have e2:(if 0 < xe then xe else 0)=0:=if_neg A3;have p1:=IntWalk.i64_in (1:Int) (by omega);have p2:=IntWalk.i64_in (1+(w6:Int)) (by omega);have p3:=IntWalk.i64_in ((nn:Int)+(1+(w6:Int))) (by omega)
       go_region_held3 (fun w'=>w'.cell? ⟨wr.heap.size,0,none⟩=some (.int .i64 xe)/\w'.cell? ⟨wr.heap.size,1,none⟩=some (.slice RV b6.len SA))
        (first|exact⟨z0,z1⟩ |exact⟨y0,y1⟩ |go_keep)
        (first
         |(go_at_call 80;refine(HB.out.2.2.2.1 W4.drew _ b7 o7 HB.out.1 (HB.out.2.1.mono (YB.at hB4.drew))).mono ?_;rintro e' w4 ⟨rfl,hb4⟩;have vR:=XP qb.drew hb4;have y0:=vR.cell 0 rfl;have y1:=vR.cell 1 rfl;rw[gM.out]))
       all_goals
        have hS:=HF.out _ ((ZN _ _).drew.trans hb4);rw[show(1:Int)+0=1 by rfl]at hS;have HS:=Z5 hS;clear hS;go_wp2_with fail
        exact⟨HS.out,by simp[intOf];omega⟩
theorem I4: ∀ t:T,C1 t:=T.Wg Fn
end
section
def Says (P:Prop) (e:Ending):Prop:= ∃ r,e=.returned (.bool r)/\(r=true->P)
def M9 (h:Hd) (vb ve vc:Value):Value:=.agg #[.int .i64 h.kind,h.label,h.target,h.init,h.cond,h.post,h.ZV,h.chain,vb,ve,vc]
theorem yM {s t:ByteArray} (h:s.toList=t.toList):s=t:=by
 rw[ByteArray.toList_eq,ByteArray.toList_eq]at h;exact ByteArray.ext (Array.toList_inj.1 h)
theorem Rm (w:World) (h h':Hd) (a1 a2 a3:Option Addr) (n1 n2 n3 c1 c2 c3:Nat) (kM ve' sH:Value) (l1:n1<=35184372088832) (l2:n2<=35184372088832) (l3:n3<=35184372088832) (e1: ∃ a n c,kM=.slice a n c) (e2: ∃ a n c,ve'=.slice a n c) (e3: ∃ a n c,sH=.slice a n c):
  Calls prog 129 #[M9 h (.slice a1 n1 c1) (.slice a2 n2 c2) (.slice a3 n3 c3),M9 h' kM ve' sH] w fun e w'=>Says (h.target=h'.target/\h.init=false/\h.cond=false/\h.post=false/\h.ZV=false/\h.chain=false/\n1=0/\n2=0/\n3=0) e/\Below w.heap.size w w':=by
 obtain⟨hk0,hk1,hk2,hk3,hk4,hk5,hk6,YJ⟩:=h;obtain⟨vQ,gL,gK,gJ,gI,gH,gG,gF⟩:=h';obtain⟨_,_,_,rfl⟩:=e1;obtain⟨_,_,_,rfl⟩:=e2;obtain⟨_,_,_,rfl⟩:=e3;unfold M9;go_enter func129,ntmps129;go_wp2_with fail
 all_goals
  go_ret;refine⟨⟨_,rfl,fun hr=>?_⟩,by first|exact ZN _ _|exact((ZN _ _).alloc (Z7 _) _).alloc (by simp) _⟩
  first
   |(simp at hr;done)
   |(simp_all;exact⟨yM (by assumption),by omega,by omega,by omega⟩)
def T.ft (al:Prop):T->Prop
 | .nil=>True
 | .st h _ _ _ tl=>(h.kind=20->al/\tl=.nil)/\tl.ft al
 | .cl _ _ _=>True
def T.cf (kd:Int):T->Prop
 | .nil=>True
 | .st _ _ _ _ _=>True
 | .cl x b tl=>0<=x/\(kd=15->x<=1)/\b.ft (kd=13/\tl≠ .nil)/\tl.cf kd
theorem T.len_nil {t:T} (h:t.len=0):t=.nil:=by
 cases t with
 |nil=>rfl
 |st=>simp[T.len]at h
 |cl=>simp[T.len]at h
def vP (c:T) (kd:Int) (w:World) (cs:List Value) (bb o:Nat) (nv ix:Value) (wr:World):Prop:= ∃ (k n:Nat) (rest:T),ix=.int .i64 k/\nv=.int .i64 n/\n<=k/\n+rest.YV=c.YV/\rest.At (YB w w.heap.size) false bb (o+k*2)/\k+rest.len=c.len/\Below w.heap.size w wr/\ZD wr w.heap.size cs 76/\(rest.cf kd->c.cf kd)
def CZ (b:T) (al:Prop) (w:World) (cs:List Value) (zb:Nat) (zs:List Value) (bb o:Nat) (ix:Value) (wr:World):Prop:= ∃ (k:Nat) (rest:T),ix=.int .i64 k/\rest.At (YB w w.heap.size) true bb (o+k*11)/\k+rest.len=b.len/\Below w.heap.size w wr/\ZD wr w.heap.size cs 76/\ZD wr zb zs 132/\(rest.ft al->b.ft al)
theorem Uv (w:World) (h:Hd) (c:T) (a1 a2:Option Addr) (n1 n2 c1 c2 b3 o3:Nat) (vc:Value) (hs:Zi vc b3 o3 c.len) (hat:c.At (YB w w.heap.size) false b3 o3):
  Calls prog 128 #[M9 h (.slice a1 n1 c1) (.slice a2 n2 c2) vc] w fun e w'=>Says (c.cf h.kind/\c.YV<=1/\(h.kind=13\/(h.kind=14/\h.cond=false)\/(h.kind=15/\0 < c.len/\h.init=false/\h.cond=false))) e/\Below w.heap.size w w':=by
 obtain⟨ca,cc,rfl,hcl,hca⟩:=ZU hs;have hca:=Z5 hca;obtain⟨hk0,hk1,hk2,hk3,hk4,hk5,hk6,YJ⟩:=h;unfold M9;have hxb:=ZD.new w [.int .i64 hk0,hk1,hk2,hk3,hk4,hk5,hk6,YJ,.slice a1 n1 c1,.slice a2 n2 c2,.slice ca c.len cc] 76;have hB:=(ZN w.heap.size w).alloc (Z7 _) (.cells [.int .i64 hk0,.string hk1,.string hk2,.bool hk3,.bool hk4,.bool hk5,.bool hk6,.bool YJ,.slice a1 n1 c1,.slice a2 n2 c2,.slice ca c.len cc].toArray 76);go_enter func128,ntmps128;go_wp2_with fail
 go_loopw [3,11] (fun nv ix wr=>vP c hk0 w [.int .i64 hk0,hk1,hk2,hk3,hk4,hk5,hk6,YJ,.slice a1 n1 c1,.slice a2 n2 c2,.slice ca c.len cc] b3 o3 nv ix wr) (fun _ ix _=>c.len -(intOf ix).toNat)
 case atStart=>exact⟨0,0,c,rfl,rfl,Z7 _,by simp,by simpa using hat,by simp,hB,hxb,id⟩
 case round=>
  obtain⟨k,n,rest,rfl,rfl,hnk,hpl,hat',hlen',hb,hx,himp⟩:=hrel;have sb:=hb.size;have y0:=hx.cell 0 rfl;have y3:=hx.cell 3 rfl;have y4:=hx.cell 4 rfl;have LL:=hx.cell 10 rfl;have hxl:=hx.lt;cases rest with
  |nil=>
   have hk: ¬ k < c.len:=by simp[T.len]at hlen';omega
   have hcf:=himp trivial;have hpn:n=c.YV:=by simpa [T.YV]using hpl
   have HX:=Zl hcf hpn;clear himp hcf hpn hlen' hpl;go_wp2_with fail
   all_goals
    go_ret;refine⟨⟨_,rfl,fun hr=>?_⟩,hb⟩;have e1:=HX.out.1;have e2:=HX.out.2
    first
     |(simp at hr;done)
     |(refine⟨e1,by omega,?_⟩;simp_all;done)
     |(refine⟨e1,by omega,?_⟩;simp_all;try omega)
  |st=>exact absurd hat'.1 (by simp)
  |cl x b tl=>
   have hk:k < c.len:=by simp[T.len]at hlen';omega
   obtain rfl:=hca.out (by omega);obtain⟨_,vb,b7,o7,hc0,hc1,s6,a6,a7⟩:=hat';obtain⟨RV,SA,rfl,hbl,hba⟩:=ZU s6;have hba:=Z5 hba;have g0:wr.cell? ⟨b3,o3+k*2,none⟩=some (.int .i64 x):=(hb.cell (p:=⟨b3,o3+k*2,none⟩) hc0.1).trans hc0.2;have g1:wr.cell? ⟨b3,o3+k*2+1,none⟩=some (.slice RV b.len SA):=(hb.cell (p:=⟨b3,o3+k*2+1,none⟩) hc1.1).trans hc1.2;have HX:=Wp hpl hlen' himp a6 a7;clear hpl hlen' himp s6 a6 a7 hc0 hc1;have hB4:Below w.heap.size w (wr.alloc (.cells [.int .i64 x,.slice RV b.len SA].toArray 132)):=hb.alloc (by omega) _;have zb:=ZD.new wr [.int .i64 x,.slice RV b.len SA] 132;have z0:=zb.cell 0 rfl;have z1:=zb.cell 1 rfl;have hx4:=hx.alloc (.cells [.int .i64 x,.slice RV b.len SA].toArray 132);have x0:=hx4.cell 0 rfl;have x10:=hx4.cell 10 rfl;obtain⟨W4,Mf⟩: ∃ W4:World,W4=(wr.alloc (.cells [.int .i64 x,.slice RV b.len SA].toArray 132)):=⟨_,rfl⟩
   by_cases hbad:x < 0\/(hk0=15/\1 < x)
   .by_cases hn:x < 0
    .go_wp2_with fail
     go_ret;exact⟨⟨false,rfl,by simp⟩,hB4⟩
    .have h15:(hk0==15)=true:=by simp;omega
     have h1x:1 < x:=by omega
     clear hbad;go_wp2_with fail
     go_ret;exact⟨⟨false,rfl,by simp⟩,hB4⟩
   .have hx0:0<=x:=by omega
    have hx1:hk0=15->x<=1:=by omega
    go_upto_region 5 with fail
    rw[<-Mf]at hB4 zb z0 z1 hx4 x0 x10;rw[<-Mf];have HW4:=Z5 Mf;clear Mf y0 y3 y4 LL;go_cut [28] (fun b28 wx=>b28=.bool false/\wx=W4)
    case first=>
     by_cases h15:hk0=15
     .have hx2:=hx1 h15;have hx3: ¬ 1 < x:=by omega
      have bm: ¬ x < 0:=by omega
      have Z6h:(hk0==15)=true:=by simpa using h15
      clear h15;go_wp2_with fail
      go_meet;exact⟨rfl,rfl⟩
     .have bm: ¬ x < 0:=by omega
      have yL:(hk0==15)=false:=by simpa using h15
      clear h15;go_wp2_with fail
      go_meet;exact⟨rfl,rfl⟩
    case rest=>
     obtain⟨rfl,rfl⟩:=hcut;go_upto_if 31 with fail
     go_cut [3] (fun nv wx=>nv=.int .i64 ((n+(decide (x=0)).toNat:Nat):Int)/\wx=wc)
     case first=>
      by_cases h0:x=0
      .have h0b:(x==0)=true:=by simpa using h0
       have hd:(decide (x=0)).toNat=1:=by simp[h0]
       have HD:=Z5 hd;clear h0 hd;go_wp2_with fail
       go_meet;exact⟨by rw[HD.out];simp,rfl⟩
      .have h0b:(x==0)=false:=by simpa using h0
       have hd:(decide (x=0)).toNat=0:=by simp[h0]
       have HD:=Z5 hd;clear h0 hd;go_wp2_with fail
       go_meet;exact⟨by rw[HD.out];simp,rfl⟩
     case rest=>
      obtain⟨rfl,rfl⟩:=hcut;have kL:k+1+tl.len=c.len:=by have:=HX.out.2.1;simp[T.len]at this;omega
      obtain⟨wo,hwo⟩: ∃ wo:World,wo=wr:=⟨_,rfl⟩
      subst hwo;clear x0 x10 z0 g0 g1;go_wp2_with fail
      go_loopw [37] (fun ix wx=>CZ b (hk0=13/\tl≠ .nil) w [.int .i64 hk0,hk1,hk2,hk3,hk4,hk5,hk6,YJ,.slice a1 n1 c1,.slice a2 n2 c2,.slice (some ⟨b3,o3,none⟩) c.len cc] wo.heap.size [.int .i64 x,.slice RV b.len SA] b7 o7 ix wx) (fun ix _=>b.len -(intOf ix).toNat)
      case atStart=>exact⟨0,b,rfl,by simpa using HX.out.2.2.2.1,by simp,hB4,hx4,zb,id⟩
      case round=>
       obtain⟨j,kK,rfl,kJ,KS,hbb,hxw,hzw,GF⟩:=hrel;have sbb:=hbb.size;have y0:=hxw.cell 0 rfl;have LL:=hxw.cell 10 rfl;have z1:=hzw.cell 1 rfl;have Z6g:=hxw.lt;have Z6f:=hzw.lt;cases kK with
       |cl=>exact absurd kJ.1 (by simp)
       |nil=>
        have hk: ¬ j < b.len:=by simp[T.len]at KS;omega
        have HC:=Z5 GF;clear GF KS
        have hS:vP c hk0 w [.int .i64 hk0,hk1,hk2,hk3,hk4,hk5,hk6,YJ,.slice a1 n1 c1,.slice a2 n2 c2,.slice (some ⟨b3,o3,none⟩) c.len cc] b3 o3 (.int .i64 ((n+(decide (x=0)).toNat:Nat):Int)) (.int .i64 ((k:Int)+1)) wr:=
         ⟨k+1,n+(decide (x=0)).toNat,tl,by simp,rfl,by have:=ZG (decide (x=0));omega,by have:=HX.out.1;simp only[T.YV]at this;omega,by rw[show o3+(k+1)*2=o3+k*2+2 by omega];exact HX.out.2.2.2.2,by omega,hbb,hxw,fun ht=>HX.out.2.2.1 ⟨hx0,hx1,HC.out trivial,ht⟩⟩
        have HS:=Z5 hS;clear hS hx1;go_wp2_with fail
        exact⟨HS.out,by simp[intOf];omega⟩
       |st h b' e' c' tl'=>
        have hjb:j < b.len:=by simp[T.len]at KS;omega
        obtain rfl:=hba.out (by omega);obtain⟨_,vb,b1,o1,ve,b2,o2,vc,b4,o4,hh,s1,a1',s2,a2',s3,a3',a4'⟩:=kJ;obtain⟨d0,d1,d2,d3,d4,d5,d6,d7,d8,d9,d10⟩:=hh.cells hbb;obtain⟨ba,bc,rfl,_⟩:=ZU s1;obtain⟨ea,ec,rfl,_⟩:=ZU s2;obtain⟨ca',cc',rfl,_⟩:=ZU s3;have hlt':j+1+tl'.len=b.len:=by simp[T.len]at KS;omega
        have HA:=Zl a4' GF;obtain⟨vQ,gL,gK,gJ,gI,gH,gG,gF⟩:=h;clear s1 a1' s2 a2' s3 a3' a4' hh GF KS;have kI:=hbb.alloc (by omega) (.cells [.int .i64 vQ,.string gL,.string gK,.bool gJ,.bool gI,.bool gH,.bool gG,.bool gF,.slice ba b'.len bc,.slice ea e'.len ec,.slice ca' c'.len cc'].toArray 76);have kH:=hxw.alloc (.cells [.int .i64 vQ,.string gL,.string gK,.bool gJ,.bool gI,.bool gH,.bool gG,.bool gF,.slice ba b'.len bc,.slice ea e'.len ec,.slice ca' c'.len cc'].toArray 76);have kG:=hzw.alloc (.cells [.int .i64 vQ,.string gL,.string gK,.bool gJ,.bool gI,.bool gH,.bool gG,.bool gF,.slice ba b'.len bc,.slice ea e'.len ec,.slice ca' c'.len cc'].toArray 76)
        have step:(vQ=20->hk0=13/\j+1=b.len/\k+1≠c.len)-> ∀ wx,Below w.heap.size w wx->ZD wx w.heap.size [.int .i64 hk0,hk1,hk2,hk3,hk4,hk5,hk6,YJ,.slice a1 n1 c1,.slice a2 n2 c2,.slice (some ⟨b3,o3,none⟩) c.len cc] 76->ZD wx wo.heap.size [.int .i64 x,.slice (some ⟨b7,o7,none⟩) b.len SA] 132->
          CZ b (hk0=13/\tl≠ .nil) w [.int .i64 hk0,hk1,hk2,hk3,hk4,hk5,hk6,YJ,.slice a1 n1 c1,.slice a2 n2 c2,.slice (some ⟨b3,o3,none⟩) c.len cc] wo.heap.size [.int .i64 x,.slice (some ⟨b7,o7,none⟩) b.len SA] b7 o7 (.int .i64 ((j:Int)+1)) wx:=by
         intro hst wx f1 f2 f3;refine⟨j+1,tl',by simp,by rw[show o7+(j+1)*11=o7+j*11+11 by omega];exact HA.out.1,by omega,f1,f2,f3,fun ht=>HA.out.2 ⟨fun h20=>?_,ht⟩⟩;obtain⟨e1,e2,e3⟩:=hst h20;refine⟨⟨e1,fun e=>?_⟩,T.len_nil (by omega)⟩;subst e;simp[T.len]at kL;omega
        have HST:=Z5 step;clear step hx1;by_cases h20:vQ=20
        .have bj:(vQ==20)=true:=by simpa using h20
         by_cases h13:hk0=13
         .have bh:(hk0 !=13)=false:=by simp[h13]
          by_cases hj1:j+1=b.len
          .have hj2: ¬ ((j:Int) < (b.len:Int) -1):=by omega
           by_cases bg:k+1=c.len
           .have a9:((k:Int)==(c.len:Int) -1)=true:=by simp;omega
            clear h20 h13;go_wp2_with fail
            go_ret;exact⟨⟨false,rfl,by simp⟩,kI⟩
           .have a9:((k:Int)==(c.len:Int) -1)=false:=by simp;omega
            have hS:=Z5 (HST.out (fun _=>⟨h13,hj1,bg⟩) _ kI kH kG);clear h20 h13;go_wp2_with fail
            exact⟨hS.out,by simp[intOf];omega⟩
          .have hj2:((j:Int) < (b.len:Int) -1):=by omega
           clear h20 h13;go_wp2_with fail
           go_ret;exact⟨⟨false,rfl,by simp⟩,kI⟩
         .have bh:(hk0 !=13)=true:=by simpa using h13
          clear h20 h13;go_wp2_with fail
          go_ret;exact⟨⟨false,rfl,by simp⟩,kI⟩
        .have bj:(vQ==20)=false:=by simpa using h20
         have hS:=Z5 (HST.out (fun h=>absurd h h20) _ kI kH kG);clear h20;go_wp2_with fail
         exact⟨hS.out,by simp[intOf];omega⟩
end
end Go.Proofs.YteedbaejpdjilaaGreat
