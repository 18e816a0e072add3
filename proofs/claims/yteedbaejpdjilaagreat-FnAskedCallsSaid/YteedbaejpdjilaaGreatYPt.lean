/- Part of the proof: CutA ReaA ReaK Opn. -/
import Derived.Test.YteedbaejpdjilaaGreatYPa
import Derived.WalkKit
import Derived.ChangeArms
import Derived.DataReads
import GoSem.ClaimJoined
set_option linter.all false
set_option maxRecDepth 100000
set_option maxHeartbeats 40000000
namespace Go.Proofs.YteedbaejpdjilaaGreat
open Go.RowKit Tryz
section
def Hd.zero:Hd:=⟨0,ByteArray.empty,ByteArray.empty,false,false,false,false,false⟩
def T.zero:T:=.st Hd.zero .nil .nil .nil .nil
structure Ct where
 l:Nat->Int->T × Int
 c:Nat->Int->Option T × Int
def T.ct:T->Ct
 | .nil=>⟨fun _ L=>(.nil,L),fun _ L=>(some .nil,L)⟩
 | .st h b e c tl=>⟨fun d L=>if L -1 < 0\/40 < d then(.zero,L -1)else
   match((c.ct.c (d+1) (e.ct.l (d+1) (b.ct.l (d+1) (L -1)).2).2)).1 with
   |none=>(.zero,(c.ct.c (d+1) (e.ct.l (d+1) (b.ct.l (d+1) (L -1)).2).2).2)
   |some c'=>(.st h (b.ct.l (d+1) (L -1)).1 (e.ct.l (d+1) (b.ct.l (d+1) (L -1)).2).1 c' (tl.ct.l d (c.ct.c (d+1) (e.ct.l (d+1) (b.ct.l (d+1) (L -1)).2).2).2).1,
     (tl.ct.l d (c.ct.c (d+1) (e.ct.l (d+1) (b.ct.l (d+1) (L -1)).2).2).2).2),fun _ L=>(none,L)⟩
 | .cl x b tl=>⟨fun _ L=>(.nil,L),fun d L=>if L -1 < 0 then(none,L -1)else
   ((tl.ct.c d (b.ct.l d (L -1)).2).1.map (.cl x (b.ct.l d (L -1)).1),(tl.ct.c d (b.ct.l d (L -1)).2).2)⟩
def low (d:Nat):Int:= -(3*(42 -d:Nat):Int)
theorem Oq: ∀ t:T,(∀ (d:Nat) (L:Int),d<=41->(0<=L->low d<=(t.ct.l d L).2)/\(L < 0->L -1<=(t.ct.l d L).2)/\(t.ct.l d L).2<=L)/\
  (∀ (d:Nat) (L:Int),1<=d->d<=41->(0<=L->low d -1<=(t.ct.c d L).2)/\(L < 0->L -1<=(t.ct.c d L).2)/\(t.ct.c d L).2<=L):=by
 intro t
 induction t with
 |nil=>
  constructor
  .intro d L hd;simp only[T.ct,low];refine⟨fun h=>by omega,fun h=>by omega,by omega⟩
  .intro d L _ hd;simp only[T.ct,low];refine⟨fun h=>by omega,fun h=>by omega,by omega⟩
 |st h b e c tl ih1 ih2 ih3 ih4=>
  constructor
  .intro d L hd;simp only[T.ct];by_cases hc:L -1 < 0\/40 < d
   .rw[if_pos hc];simp only[low];refine⟨fun h=>by omega,fun h=>by omega,by omega⟩
   .rw[if_neg hc];have h1:=ih1.1 (d+1) (L -1) (by omega);have h2:=ih2.1 (d+1) (b.ct.l (d+1) (L -1)).2 (by omega);have h3:=ih3.2 (d+1) (e.ct.l (d+1) (b.ct.l (d+1) (L -1)).2).2 (by omega) (by omega);have h4:=ih4.1 d (c.ct.c (d+1) (e.ct.l (d+1) (b.ct.l (d+1) (L -1)).2).2).2 hd;have h1':=h1.1 (by omega);have hl:low d=low (d+1) -3:=by unfold low;omega
    have hl0:low (d+1)<=0:=by unfold low;omega
    generalize(b.ct.l (d+1) (L -1)).2=L1 at*;generalize(e.ct.l (d+1) L1).2=L2 at*;generalize c.ct.c (d+1) L2=rc at*;have e1:low (d+1) -1<=L2:=by
     rcases Int.lt_or_le L1 0 with h|h
     .have:=h2.2.1 h;omega
     .have:=h2.1 h;omega
    have e2:low (d+1) -2<=rc.2:=by
     rcases Int.lt_or_le L2 0 with h|h
     .have:=h3.2.1 h;omega
     .have:=h3.1 h;omega
    cases rc.1 with
    |none=>refine⟨fun h=>by show low d<=rc.2;omega,fun h=>by omega,by show rc.2<=L;omega⟩
    |some c'=>
     refine⟨fun h=>?_,fun h=>by omega,by show(tl.ct.l d rc.2).2<=L;omega⟩;show low d<=(tl.ct.l d rc.2).2;rcases Int.lt_or_le rc.2 0 with h|h
     .have:=h4.2.1 h;omega
     .exact h4.1 h
  .intro d L hd1 hd;simp only[T.ct,low];refine⟨fun h=>by omega,fun h=>by omega,by omega⟩
 |cl x b tl ih1 ih2=>
  constructor
  .intro d L hd;simp only[T.ct,low];refine⟨fun h=>by omega,fun h=>by omega,by omega⟩
  .intro d L hd1 hd;simp only[T.ct];by_cases hc:L -1 < 0
   .rw[if_pos hc];simp only[low];refine⟨fun h=>by omega,fun h=>by omega,by omega⟩
   .rw[if_neg hc];have h1:=ih1.1 d (L -1) (by omega);have h2:=ih2.2 d (b.ct.l d (L -1)).2 hd1 hd;have h1':=h1.1 (by omega);have hl0:low d<=0:=by unfold low;omega
    refine⟨fun h=>?_,fun h=>by omega,by show(tl.ct.c d (b.ct.l d (L -1)).2).2<=L;omega⟩;show low d -1<=(tl.ct.c d (b.ct.l d (L -1)).2).2;rcases Int.lt_or_le (b.ct.l d (L -1)).2 0 with h|h
    .have:=h2.2.1 h;omega
    .have:=h2.1 h;omega
def T.Yd (C:Cv):T->Bool->List (List Value)->Prop
 | .nil,_,rs=>rs= []
 | .st h b e c tl,k,rs=>k=true/\ ∃ vb b1 o1 ve b2 o2 vc b3 o3 rs',rs= [.int .i64 h.kind,.string h.label,.string h.target,.bool h.init,.bool h.cond,.bool h.post,.bool h.ZV,.bool h.chain,vb,ve,vc]::rs'/\
   Zi vb b1 o1 b.len/\b.At C true b1 o1/\Zi ve b2 o2 e.len/\e.At C true b2 o2/\Zi vc b3 o3 c.len/\c.At C false b3 o3/\tl.Yd C true rs'
 | .cl x b tl,k,rs=>k=false/\ ∃ vb b1 o1 rs',rs= [.int .i64 x,vb]::rs'/\Zi vb b1 o1 b.len/\b.At C true b1 o1/\tl.Yd C false rs'
theorem T.Yd.mono {C C':Cv} (hC: ∀ b o v,C b o v->C' b o v): ∀ {t:T} {k:Bool} {rs:List (List Value)},t.Yd C k rs->t.Yd C' k rs:=by
 intro t
 induction t with
 |nil=>intro k rs h;exact h
 |st h b e c tl ih1 ih2 ih3 ih4=>
  intro k rs ⟨hk,vb,b1,o1,ve,b2,o2,vc,b3,o3,rs',h0,s1,a1,s2,a2,s3,a3,a4⟩;exact⟨hk,vb,b1,o1,ve,b2,o2,vc,b3,o3,rs',h0,s1,a1.mono hC,s2,a2.mono hC,s3,a3.mono hC,ih4 a4⟩
 |cl x b tl ih1 ih2=>
  intro k rs ⟨hk,vb,b1,o1,rs',h0,s1,a1,a2⟩;exact⟨hk,vb,b1,o1,rs',h0,s1,a1.mono hC,ih2 a2⟩
theorem T.Yd.len {C:Cv} : ∀ {t:T} {k:Bool} {rs:List (List Value)},t.Yd C k rs->rs.length=t.len/\rs.flatten.length=t.len*(if k then 11 else 2):=by
 intro t
 induction t with
 |nil=>intro k rs h;obtain rfl:=h;simp[T.len]
 |st h b e c tl ih1 ih2 ih3 ih4=>
  intro k rs ⟨hk,vb,b1,o1,ve,b2,o2,vc,b3,o3,rs',h0,s1,a1,s2,a2,s3,a3,a4⟩;subst hk h0;obtain⟨g1,g2⟩:=ih4 a4;simp[T.len,g1,g2];omega
 |cl x b tl ih1 ih2=>
  intro k rs ⟨hk,vb,b1,o1,rs',h0,s1,a1,a2⟩;subst hk h0;obtain⟨g1,g2⟩:=ih2 a2;simp[T.len,g1,g2];omega
theorem T.Yd.at {C:Cv} {g:Nat} : ∀ {t:T} {k:Bool} {rs:List (List Value)} {o:Nat},t.Yd C k rs->(∀ (j:Nat) v,rs.flatten[j]? =some v->C g (o+j) v)->t.At C k g o:=by
 intro t
 induction t with
 |nil=>intro k rs o h _;trivial
 |st h b e c tl ih1 ih2 ih3 ih4=>
  intro k rs o ⟨hk,vb,b1,o1,ve,b2,o2,vc,b3,o3,rs',h0,s1,a1,s2,a2,s3,a3,a4⟩ hc;subst h0;refine⟨hk,vb,b1,o1,ve,b2,o2,vc,b3,o3,⟨hc 0 _ rfl,hc 1 _ rfl,hc 2 _ rfl,hc 3 _ rfl,hc 4 _ rfl,hc 5 _ rfl,hc 6 _ rfl,hc 7 _ rfl,hc 8 _ rfl,hc 9 _ rfl,hc 10 _ rfl⟩,s1,a1,s2,a2,s3,a3,ih4 a4 (fun j v hj=>?_)⟩;have:=hc (j+11) v (by simpa using hj);rw[show o+11+j=o+(j+11)by omega];exact this
 |cl x b tl ih1 ih2=>
  intro k rs o ⟨hk,vb,b1,o1,rs',h0,s1,a1,a2⟩ hc;subst h0;refine⟨hk,vb,b1,o1,hc 0 _ rfl,hc 1 _ rfl,s1,a1,ih2 a2 (fun j v hj=>?_)⟩;have:=hc (j+2) v (by simpa using hj);rw[show o+2+j=o+(j+2)by omega];exact this
def Vw (w:World) (lo:Nat) (own:Option Nat):Cv:=fun b o v=>lo<=b/\b < w.heap.size/\some b≠own/\w.cell? ⟨b,o,none⟩=some v
def Ux (C:Cv) (t:T) (k:Bool) (v:Value):Prop:= ∃ b o,Zi v b o t.len/\t.At C k b o
theorem Ux.mono {C C':Cv} (hC: ∀ b o v,C b o v->C' b o v) {t:T} {k:Bool} {v:Value} (h:Ux C t k v):Ux C' t k v:=let⟨b,o,h1,h2⟩:=h;⟨b,o,h1,h2.mono hC⟩
end
section
def T.PS:T->Nat->Bool
 | .nil,_=>true
 | .st _ b e c tl,d=>if 30 < d then false else b.PS (d+1)&&e.PS (d+1)&&c.PS (d+1)&&tl.PS d
 | .cl _ b tl,d=>b.PS d&&tl.PS d
def T.Xc:T->Nat->Nat
 | .nil,n=>n
 | .st _ b e c tl,n=>if 300 < c.Xc (n+1+b.Xc 0+e.Xc 0)then 301 else tl.Xc (c.Xc (n+1+b.Xc 0+e.Xc 0))
 | .cl x b tl,n=>tl.Xc (n+1+(min x 301).toNat+b.Xc 0)
def Db (t:T):Prop:= ∀ (w:World) (v:Value) (b o d:Nat) (dz:Int),dz=d->d<=31->Zi v b o t.len->t.At (YB w w.heap.size) true b o->Calls prog 79 #[v,.int .i64 dz] w fun e w'=>e=.returned (.bool (t.PS d))/\Below w.heap.size w w'
theorem YB.at {w w':World} (h:Below w.heap.size w w'): ∀ b o v,YB w w.heap.size b o v->YB w' w'.heap.size b o v:=fun b o v hb=>⟨Nat.lt_of_lt_of_le hb.1 h.size,(YB.below h b o v hb).2⟩
theorem uT.cells {w w':World} {B b o:Nat} {h:Hd} {vb ve vc:Value} (hh:uT (YB w B) b o h vb ve vc) (hb:Below B w w'):w'.cell? ⟨b,o,none⟩=some (.int .i64 h.kind)/\w'.cell? ⟨b,o+1,none⟩=some (.string h.label)/\w'.cell? ⟨b,o+2,none⟩=some (.string h.target)/\w'.cell? ⟨b,o+3,none⟩=some (.bool h.init)/\
  w'.cell? ⟨b,o+4,none⟩=some (.bool h.cond)/\w'.cell? ⟨b,o+5,none⟩=some (.bool h.post)/\w'.cell? ⟨b,o+6,none⟩=some (.bool h.ZV)/\w'.cell? ⟨b,o+7,none⟩=some (.bool h.chain)/\w'.cell? ⟨b,o+8,none⟩=some vb/\w'.cell? ⟨b,o+9,none⟩=some ve/\w'.cell? ⟨b,o+10,none⟩=some vc:=by
 have c: ∀ (j:Nat) u,YB w B b (o+j) u->w'.cell? ⟨b,o+j,none⟩=some u:=fun j u h=>(hb.cell (p:=⟨b,o+j,none⟩) h.1).trans h.2;exact⟨c 0 _ hh.c0,c 1 _ hh.c1,c 2 _ hh.c2,c 3 _ hh.c3,c 4 _ hh.c4,c 5 _ hh.c5,c 6 _ hh.c6,c 7 _ hh.c7,c 8 _ hh.c8,c 9 _ hh.c9,c 10 _ hh.c10⟩
theorem ZU {v:Value} {b o n:Nat} (h:Zi v b o n): ∃ av cv,v=.slice av n cv/\n<=35184372088832/\(0 < n->av=some ⟨b,o,none⟩):=by
 rcases h with⟨h0,a,c,rfl⟩ |⟨cap,h1,h2,h3,rfl⟩
 .exact⟨a,c,by rw[h0],by omega,fun h=>by omega⟩
 .exact⟨_,_,rfl,h3,fun _=>rfl⟩
theorem XP {w w':World} {b:Nat} {cs:List Value} {t:Nat} (h:ZD w b cs t) (hb:Below w.heap.size w w'):ZD w' b cs t:=by
 have:=h.lt;unfold ZD at*;rw[hb.block b this];exact h
def lk (P:T->Prop) (t:T) (w:World) (bb o d:Nat) (ix:Value) (wr:World):Prop:= ∃ (k:Nat) (rest:T),ix=.int .i64 k/\rest.All P/\rest.At (YB w w.heap.size) true bb (o+k*11)/\k+rest.len=t.len/\Below w.heap.size w wr/\t.PS d=rest.PS d
def sO (P:T->Prop) (c:T) (w wo:World) (bb o d:Nat) (ix:Value) (wr:World):Prop:= ∃ (k:Nat) (rest:T),ix=.int .i64 k/\rest.All P/\rest.At (YB w w.heap.size) false bb (o+k*2)/\k+rest.len=c.len/\Below wo.heap.size wo wr/\c.PS d=rest.PS d
theorem Da (t:T) (hall:t.All Db):Db t:=by
 intro w v bb o d dz hdz hd hs hat;subst hdz;obtain⟨av,cv,rfl,hlen,hav⟩:=ZU hs;have hav:=Z5 hav;have hdw:=IntWalk.i64_in ((d:Int)+1) (by omega);clear hs;by_cases h30:30 < d
 .have he:t.PS d=decide (t.len=0):=by
   cases t with
   |nil=>rfl
   |st=>simp[T.PS,T.len,h30]
   |cl=>exact absurd hat.1 (by simp)
  have hi:(30:Int) < d:=by omega
  have HE:=Z5 he;clear he hat;by_cases h0:t.len=0
  .go_enter func79,ntmps79;go_wp2_with fail
   go_ret;exact⟨by rw[HE.out];simp[h0],ZN _ _⟩
  .have h0':((t.len:Int)==0)=false:=by simp;omega
   go_enter func79,ntmps79;go_wp2_with fail
   go_ret;exact⟨by rw[HE.out];simp[h0],ZN _ _⟩
 .have hi: ¬ (30:Int) < d:=by omega
  go_enter func79,ntmps79;go_wp2_with fail
  go_loopw [16] (fun ix wr=>lk Db t w bb o d ix wr) (fun ix _=>t.len -(intOf ix).toNat)
  case atStart=>exact⟨0,t,rfl,hall,by simpa using hat,by simp,ZN _ _,rfl⟩
  case round=>
   obtain⟨k,rest,rfl,XC,hat',hlen',hb,heq⟩:=hrel;have sb:=hb.size;cases rest with
   |nil=>
    have hk: ¬ k < t.len:=by simp[T.len]at hlen';omega
    have HX:=Z5 heq;clear hlen' heq;go_wp2_with fail
    go_ret;exact⟨by rw[HX.out];rfl,hb⟩
   |cl=>exact absurd hat'.1 (by simp)
   |st h b e c tl=>
    have hk:k < t.len:=by simp[T.len]at hlen';omega
    obtain rfl:=hav.out (by omega);obtain⟨_,vb,b1,o1,ve,b2,o2,vc,b3,o3,hh,s1,a1,s2,a2,s3,a3,a4⟩:=hat';obtain⟨d0,d1,d2,d3,d4,d5,d6,d7,d8,d9,d10⟩:=hh.cells hb;obtain⟨ba,bc,rfl,_⟩:=ZU s1;obtain⟨ea,ec,rfl,_⟩:=ZU s2;obtain⟨ca,cc,rfl,hcl,hca⟩:=ZU s3;have hca:=Z5 hca;obtain⟨q1,q2,q3,q4⟩:=XC;have hcut:(T.st h b e c tl).PS d=(b.PS (d+1)&&e.PS (d+1)&&c.PS (d+1)&&tl.PS d):=by simp only[T.PS,if_neg h30]
    have HX:=Zl (heq.trans hcut) hlen';have HA:=Qd s1 a1 s2 a2 a3 a4;have HQ:=Xp q1 q2 q3 q4;obtain⟨hk0,hk1,hk2,hk3,hk4,hk5,hk6,YJ⟩:=h;clear s1 a1 s2 a2 s3 a3 a4 q1 q2 q3 q4 hh hlen' heq hcut;have hB1:Below wr.heap.size wr (wr.alloc (.cells [.int .i64 hk0,.string hk1,.string hk2,.bool hk3,.bool hk4,.bool hk5,.bool hk6,.bool YJ,.slice ba b.len bc,.slice ea e.len ec,.slice ca c.len cc].toArray 76)):=(ZN _ _).alloc (Z7 _) _;have hxb:=ZD.new wr [.int .i64 hk0,hk1,hk2,hk3,hk4,hk5,hk6,YJ,.slice ba b.len bc,.slice ea e.len ec,.slice ca c.len cc] 76;have hBw:Below w.heap.size w (wr.alloc (.cells [.int .i64 hk0,.string hk1,.string hk2,.bool hk3,.bool hk4,.bool hk5,.bool hk6,.bool YJ,.slice ba b.len bc,.slice ea e.len ec,.slice ca c.len cc].toArray 76)):=hb.trans (hB1.mono sb);go_wp2_with fail
    refine(HQ.out.1 _ _ b1 o1 (d+1) _ (by simp) (by omega) HA.out.1 (HA.out.2.1.mono (YB.at hBw))).mono ?_;rintro e' w1 ⟨rfl,hb1⟩;have hBw1:=hBw.trans (hb1.mono hBw.size);have hx1:=XP hxb hb1;have x9:=hx1.cell 9 rfl;have x10:=hx1.cell 10 rfl;cases hbs:b.PS (d+1)with
    |false=>
     have HE:=Z5 hbs;clear hbs;go_wp2_with fail
     go_ret;exact⟨by rw[HX.out.1,HE.out];rfl,hBw1⟩
    |true=>
     have HE:=Z5 hbs;clear hbs;go_wp2_with fail
     refine(HQ.out.2.1 _ _ b2 o2 (d+1) _ (by simp) (by omega) HA.out.2.2.1 (HA.out.2.2.2.1.mono (YB.at hBw1))).mono ?_;rintro e' w2 ⟨rfl,hb2⟩;have hBw2:=hBw1.trans (hb2.mono hBw1.size);have hx2:=XP hx1 hb2;have LL:=hx2.cell 10 rfl;cases hes:e.PS (d+1)with
     |false=>
      have HE2:=Z5 hes;clear hes;go_wp2_with fail
      go_ret;exact⟨by rw[HX.out.1,HE.out,HE2.out];rfl,hBw2⟩
     |true=>
      have HE2:=Z5 hes;clear hes;have sw2:=hBw2.size;obtain⟨wo,hwo⟩: ∃ wo:World,wo=wr:=⟨_,rfl⟩
      subst hwo;go_wp2_with fail
      go_loopw [37] (fun ix wx=>sO Db c w w2 b3 o3 (d+1) ix wx) (fun ix _=>c.len -(intOf ix).toNat)
      case atStart=>exact⟨0,c,rfl,HQ.out.2.2.1,by simpa using HA.out.2.2.2.2.1,by simp,ZN _ _,rfl⟩
      case round=>
       obtain⟨m,UV,rfl,KX,KW,WQ,hbc,Ml⟩:=hrel;have sc:=hbc.size;have hBw3:=hBw2.trans (hbc.mono hBw2.size);cases UV with
       |nil=>
        have hk: ¬ m < c.len:=by simp[T.len]at WQ;omega
        have HC:=Z5 Ml;clear WQ Ml;go_wp2_with fail
        refine⟨⟨k+1,tl,by simp,HQ.out.2.2.2,by rw[show o+(k+1)*11=o+k*11+11 by omega];exact HA.out.2.2.2.2.2,by have:=HX.out.2;simp[T.len]at this;omega,hBw3,?_⟩,by simp[intOf];omega⟩;rw[HX.out.1,HE.out,HE2.out,HC.out];rfl
       |st=>exact absurd KW.1 (by simp)
       |cl xe b6 KU=>
        have hmk:m < c.len:=by simp[T.len]at WQ;omega
        obtain rfl:=hca.out (by omega);obtain⟨_,vb6,b7,o7,hc0,hc1,s6,a6,a7⟩:=KW;obtain⟨RV,SA,rfl,_⟩:=ZU s6;have g0:wr.cell? ⟨b3,o3+m*2,none⟩=some (.int .i64 xe):=(hBw3.cell (p:=⟨b3,o3+m*2,none⟩) hc0.1).trans hc0.2;have g1:wr.cell? ⟨b3,o3+m*2+1,none⟩=some (.slice RV b6.len SA):=(hBw3.cell (p:=⟨b3,o3+m*2+1,none⟩) hc1.1).trans hc1.2;obtain⟨q6,q7⟩:=KX;have HB:=Ev s6 a6 a7 q6 q7 Ml WQ;clear s6 a6 a7 q6 q7 hc0 hc1 WQ Ml;have hB4:Below w.heap.size w (wr.alloc (.cells [.int .i64 xe,.slice RV b6.len SA].toArray 132)):=hBw3.alloc (by omega) _;have vY:Below w2.heap.size w2 (wr.alloc (.cells [.int .i64 xe,.slice RV b6.len SA].toArray 132)):=hbc.alloc (by omega) _;go_wp2_with fail
        refine(HB.out.2.2.2.1 _ _ b7 o7 (d+1) _ (by simp) (by omega) HB.out.1 (HB.out.2.1.mono (YB.at hB4))).mono ?_;rintro e' w3 ⟨rfl,hb3⟩;cases hcs:b6.PS (d+1)with
        |false=>
         have bO:=Z5 hcs;clear hcs;go_wp2_with fail
         go_ret;refine⟨?_,hB4.trans (hb3.mono hB4.size)⟩;rw[HX.out.1,HB.out.2.2.2.2.2.1];simp[T.PS,bO.out]
        |true=>
         have bO:=Z5 hcs;clear hcs;go_wp2_with fail
         refine⟨⟨m+1,KU,by simp,HB.out.2.2.2.2.1,by rw[show o3+(m+1)*2=o3+m*2+2 by omega];exact HB.out.2.2.1,by have:=HB.out.2.2.2.2.2.2;simp[T.len]at this;omega,vY.trans (hb3.mono vY.size),?_⟩,by simp[intOf];omega⟩;rw[HB.out.2.2.2.2.2.1];simp[T.PS,bO.out]
theorem Fq: ∀ t:T,Db t:=T.Wg Da
end
section
def Vr (k o:Int):Bool:=decide (o=11\/o=12\/(k=17/\(o=13\/o=14\/o=15)))
theorem Fp (k o:Int) (w:World):Calls prog 119 #[.int .i64 k,.int .i64 o] w fun e w'=>e=.returned (.bool (Vr k o))/\w=w':=by
 have key: ∀ r,(∃ q:Bool,q=Vr k o/\q=r)->Vr k o=r:=fun r ⟨q,h1,h2⟩=>by rw[<-h1,h2]
 by_cases h1:o=11
 .subst h1;rw[show Vr k 11=true by simp[Vr]];go_enter func119,ntmps119;go_wp2_with fail
  go_ret;exact⟨rfl,rfl⟩
 by_cases h2:o=12
 .subst h2;rw[show Vr k 12=true by simp[Vr]];go_enter func119,ntmps119;go_wp2_with fail
  go_ret;exact⟨rfl,rfl⟩
 by_cases h3:k=17
 .subst h3;by_cases h4:o=13
  .subst h4;rw[show Vr 17 13=true by simp[Vr]];go_enter func119,ntmps119;go_wp2_with fail
   go_ret;exact⟨rfl,rfl⟩
  by_cases h5:o=14
  .subst h5;rw[show Vr 17 14=true by simp[Vr]];go_enter func119,ntmps119;go_wp2_with fail
   go_ret;exact⟨rfl,rfl⟩
  by_cases h6:o=15
  .subst h6;rw[show Vr 17 15=true by simp[Vr]];go_enter func119,ntmps119;go_wp2_with fail
   go_ret;exact⟨rfl,rfl⟩
  rw[show Vr 17 o=false by simp[Vr,h1,h2,h4,h5,h6]];go_enter func119,ntmps119;go_wp2_with fail
  go_ret;exact⟨by simp[h1,h2,h4,h5,h6],rfl⟩
 rw[show Vr k o=false by simp[Vr,h1,h2,h3]];go_enter func119,ntmps119;go_wp2_with fail
 go_ret;exact⟨by simp[h1,h2],rfl⟩
def lj (e:Ending):Prop:= ∃ r,e=.returned (.bool r)
def li (s:ByteArray) (w:World) (ix:Value) (wr:World):Prop:= ∃ k:Nat,ix=.int .i64 k/\k<=s.size/\w=wr
theorem I6 (s:ByteArray) (hs:s.size<=9223372036854775807) (w:World):Calls prog 94 #[s] w fun e w'=>lj e/\w=w':=by
 go_enter func94,ntmps94;go_wp2_with fail
 go_loopw [6] (fun ix wr=>li s w ix wr) (fun ix _=>s.size -(intOf ix).toNat)
 case atStart=>exact⟨0,rfl,by omega,rfl⟩
 case round=>
  obtain⟨k,rfl,hk,rfl⟩:=hrel;by_cases hlt:k < s.size
  .have hw:=IntWalk.i64_in ((k:Int)+1) (by omega);go_wp2_with fail
   all_goals first
    |(go_ret;exact⟨⟨_,rfl⟩,rfl⟩)
    |(refine⟨⟨k+1,by simp,by omega,rfl⟩,?_⟩;simp[intOf];omega)
  .go_wp2_with fail
   all_goals
    go_ret;exact⟨⟨_,rfl⟩,rfl⟩
end
section
def T.lim:T->Prop
 | .nil=>True
 | .st h b e c tl=>h.label.size<=140737488355328/\h.target.size<=140737488355328/\b.lim/\e.lim/\c.lim/\tl.lim
 | .cl _ b tl=>b.lim/\tl.lim
section
variable {H:Type} {enc:TypeId × Value->H} {w:World} {base:Nat} {spare:Nat->Bool} {held:Bool}
def Wt (t:TypeId) (d:DataW H):Prop:= ∀ x∈d.weights prog t,x<=reachBytes
theorem cell_spot {a:Addr} {v:Value} (h:w.cell? a=some v):a.spot=none/\a.block < w.heap.size:=by
 unfold World.cell? at h;cases hb:w.heap[a.block]? with
 |none=>rw[hb]at h;cases h
 |some o=>
  rw[hb]at h;have hl:a.block < w.heap.size:=by
   rcases Nat.lt_or_ge a.block w.heap.size with hlt|hge
   .exact hlt
   .rw[Array.getElem?_eq_none hge]at hb;cases hb
  cases o with
  |cells c e f=>
   simp only at h;split at h
   .cases h
   .next hs=>exact⟨by cases hsp:a.spot<;>simp_all,hl⟩
  |_=>simp at h
theorem vX:prog.cellsOf 3=1:=by kernel_rfl
theorem lh:prog.cellsOf 9=1:=by kernel_rfl
theorem ld:prog.cellsOf 4=1:=by kernel_rfl
theorem C9:prog.cellsOf 22=1:=by kernel_rfl
theorem yW:prog.cellsOf 123=1:=by kernel_rfl
theorem GI:prog.cellsOf 125=11:=by kernel_rfl
theorem GH:prog.cellsOf 127=2:=by kernel_rfl
theorem yV:prog.bytesOf 125=120:=by kernel_rfl
theorem yU:prog.bytesOf 127=32:=by kernel_rfl
theorem C8 {α:Type} {l:List α} (h:l.length=11): ∃ a b c d e f g i j k m,l= [a,b,c,d,e,f,g,i,j,k,m]:=by
 match l,h with
 | [a,b,c,d,e,f,g,i,j,k,m],_=>exact⟨a,b,c,d,e,f,g,i,j,k,m,rfl⟩
theorem vW {α:Type} {l:List α} (h:l.length=2): ∃ a b,l= [a,b]:=by
 match l,h with
 | [a,b],_=>exact⟨a,b,rfl⟩
theorem yT {n:Nat} {cs:List Value} {x:DataW H × List MemPlace} (h:DataW.trod enc prog w base spare held n 125 cs=some x):
  ∃ m kd lb tg ini cnd Ym els UU vb ve vc yb ye yc,n=m+1/\cs= [.int .i64 kd,.string lb,.string tg,.bool ini,.bool cnd,.bool Ym,.bool els,.bool UU,vb,ve,vc]/\
   DataW.trod enc prog w base spare held m 22 [vb]=some yb/\DataW.trod enc prog w base spare held m 22 [ve]=some ye/\DataW.trod enc prog w base spare held m 123 [vc]=some yc/\
   (Wt 125 x.1->lb.size<=reachBytes/\tg.size<=reachBytes/\Wt 22 yb.1/\Wt 22 ye.1/\Wt 123 yc.1):=by
 obtain⟨xs,m,rfl,rfl,hl,hlen,hf⟩:=DataW.trod_struct underlying125 h;rw[GI]at hl;obtain⟨c0,c1,c2,c3,c4,c5,c6,c7,c8,c9,c10,rfl⟩:=C8 hl;obtain⟨y0,y1,y2,y3,y4,y5,y6,y7,y8,y9,LL,rfl⟩:=C8 hlen;have f0:DataW.trod enc prog w base spare held m 3 (List.take (prog.cellsOf 3) (List.drop 0 [c0,c1,c2,c3,c4,c5,c6,c7,c8,c9,c10]))=some y0:=hf 0 _ rfl;have f1:DataW.trod enc prog w base spare held m 9 (List.take (prog.cellsOf 9) (List.drop 1 [c0,c1,c2,c3,c4,c5,c6,c7,c8,c9,c10]))=some y1:=hf 1 _ rfl;have f2:DataW.trod enc prog w base spare held m 9 (List.take (prog.cellsOf 9) (List.drop 2 [c0,c1,c2,c3,c4,c5,c6,c7,c8,c9,c10]))=some y2:=hf 2 _ rfl;have f3:DataW.trod enc prog w base spare held m 4 (List.take (prog.cellsOf 4) (List.drop 3 [c0,c1,c2,c3,c4,c5,c6,c7,c8,c9,c10]))=some y3:=hf 3 _ rfl;have f4:DataW.trod enc prog w base spare held m 4 (List.take (prog.cellsOf 4) (List.drop 4 [c0,c1,c2,c3,c4,c5,c6,c7,c8,c9,c10]))=some y4:=hf 4 _ rfl;have f5:DataW.trod enc prog w base spare held m 4 (List.take (prog.cellsOf 4) (List.drop 5 [c0,c1,c2,c3,c4,c5,c6,c7,c8,c9,c10]))=some y5:=hf 5 _ rfl;have f6:DataW.trod enc prog w base spare held m 4 (List.take (prog.cellsOf 4) (List.drop 6 [c0,c1,c2,c3,c4,c5,c6,c7,c8,c9,c10]))=some y6:=hf 6 _ rfl;have f7:DataW.trod enc prog w base spare held m 4 (List.take (prog.cellsOf 4) (List.drop 7 [c0,c1,c2,c3,c4,c5,c6,c7,c8,c9,c10]))=some y7:=hf 7 _ rfl;have f8:DataW.trod enc prog w base spare held m 22 (List.take (prog.cellsOf 22) (List.drop 8 [c0,c1,c2,c3,c4,c5,c6,c7,c8,c9,c10]))=some y8:=hf 8 _ rfl;have f9:DataW.trod enc prog w base spare held m 22 (List.take (prog.cellsOf 22) (List.drop 9 [c0,c1,c2,c3,c4,c5,c6,c7,c8,c9,c10]))=some y9:=hf 9 _ rfl;have f10:DataW.trod enc prog w base spare held m 123 (List.take (prog.cellsOf 123) (List.drop 10 [c0,c1,c2,c3,c4,c5,c6,c7,c8,c9,c10]))=some LL:=hf 10 _ rfl;simp only[vX,lh,ld,C9,yW,List.drop_succ_cons,List.drop_zero,List.take_succ_cons,List.take_zero]at f0 f1 f2 f3 f4 f5 f6 f7 f8 f9 f10;obtain⟨kd,e0,_,_⟩:=DataW.trod_int underlying3 f0;obtain⟨lb,e1,g1,_⟩:=DataW.trod_string underlying9 f1;obtain⟨tg,e2,g2,_⟩:=DataW.trod_string underlying9 f2;obtain⟨ini,e3,_⟩:=DataW.trod_bool underlying4 f3;obtain⟨cnd,e4,_⟩:=DataW.trod_bool underlying4 f4;obtain⟨Ym,e5,_⟩:=DataW.trod_bool underlying4 f5;obtain⟨els,e6,_⟩:=DataW.trod_bool underlying4 f6;obtain⟨UU,e7,_⟩:=DataW.trod_bool underlying4 f7;simp only[List.cons.injEq,and_true]at e0 e1 e2 e3 e4 e5 e6 e7;obtain rfl:=e0;obtain rfl:=e1;obtain rfl:=e2;obtain rfl:=e3;obtain rfl:=e4;obtain rfl:=e5;obtain rfl:=e6;obtain rfl:=e7;refine⟨m,kd,lb,tg,ini,cnd,Ym,els,UU,c8,c9,c10,y8,y9,LL,rfl,rfl,f8,f9,f10,fun hw=>?_⟩;have hw': ∀ z∈DataW.weightsEach prog [3,9,9,4,4,4,4,4,22,22,123] [y0.1,y1.1,y2.1,y3.1,y4.1,y5.1,y6.1,y7.1,y8.1,y9.1,LL.1],z<=reachBytes:=by
  intro z hz;refine hw z ?_;show z∈DataW.weights prog 125 (.agg [y0.1,y1.1,y2.1,y3.1,y4.1,y5.1,y6.1,y7.1,y8.1,y9.1,LL.1]);rw[DataW.weights,underlying125];exact hz
 simp only[DataW.weightsEach,ZM,g1,g2,DataW.weights,Zk]at hw';refine⟨?_,?_,fun z hz=>hw' z (by simp[hz]),fun z hz=>hw' z (by simp[hz]),fun z hz=>hw' z (by simp[hz])⟩
 .have:=hw' lb.data.toList.length (by simp);simpa using this
 .have:=hw' tg.data.toList.length (by simp);simpa using this
theorem yS {n:Nat} {cs:List Value} {x:DataW H × List MemPlace} (h:DataW.trod enc prog w base spare held n 127 cs=some x):
  ∃ m e vb yb,n=m+1/\cs= [.int .i64 e,vb]/\DataW.trod enc prog w base spare held m 22 [vb]=some yb/\(Wt 127 x.1->Wt 22 yb.1):=by
 obtain⟨xs,m,rfl,rfl,hl,hlen,hf⟩:=DataW.trod_struct underlying127 h;rw[GH]at hl;obtain⟨c0,c1,rfl⟩:=vW hl;obtain⟨y0,y1,rfl⟩:=vW hlen;have f0:DataW.trod enc prog w base spare held m 3 (List.take (prog.cellsOf 3) (List.drop 0 [c0,c1]))=some y0:=hf 0 _ rfl;have f1:DataW.trod enc prog w base spare held m 22 (List.take (prog.cellsOf 22) (List.drop 1 [c0,c1]))=some y1:=hf 1 _ rfl;simp only[vX,C9,List.drop_succ_cons,List.drop_zero,List.take_succ_cons,List.take_zero]at f0 f1;obtain⟨kd,e0,_,_⟩:=DataW.trod_int underlying3 f0;simp only[List.cons.injEq,and_true]at e0;subst e0;refine⟨m,kd,c1,y1,rfl,rfl,f1,fun hw z hz=>hw z ?_⟩;show z∈DataW.weights prog 127 (.agg [y0.1,y1.1]);rw[DataW.weights,underlying127];simp only[DataW.weightsEach,ZM,List.toList_toArray,List.map_cons];exact .inr (.inl hz)
theorem C7 {t e:TypeId} {els sp:List (DataW H)} {d:DataW H} (ht:prog.underlying t=some (.slice e)) (h:Wt t (.slice els sp)) (hd:d∈els):Wt e d:=by
 intro z hz;refine h z ?_;rw[DataW.weights,ht];refine Z2 _ (Zd _ ?_);clear h
 induction els with
 |nil=>simp at hd
 |cons a l ih=>
  rw[DataW.weightsAll];rcases ZO.1 hd with rfl|hd
  .exact Zd _ hz
  .exact Zr _ (ih hd)
theorem C6 {t e:TypeId} {els sp:List (DataW H)} (ht:prog.underlying t=some (.slice e)) (h:Wt t (.slice els sp)):(els.length+sp.length)*prog.bytesOf e<=reachBytes:=by
 refine h _ ?_;rw[DataW.weights,ht];exact List.mem_cons_self
theorem Oo:prog.underlying 123=some (.slice 127):=by kernel_rfl
theorem JI: ∀ (fuel:Nat),(∀ v x,DataW.trod enc prog w base spare held fuel 22 [v]=some x->Wt 22 x.1-> ∃ (b o:Nat) (t:T),Zi v b o t.len/\t.At (YB w w.heap.size) true b o/\t.lim)/\
  (∀ v x,DataW.trod enc prog w base spare held fuel 123 [v]=some x->Wt 123 x.1-> ∃ (b o:Nat) (t:T),Zi v b o t.len/\t.At (YB w w.heap.size) false b o/\t.lim):=by
 intro fuel
 induction fuel using Nat.strongRecOn with
 |ind fuel ih=>
  refine⟨fun v x h hw=>?_,fun v x h hw=>?_⟩
  .rcases DataW.trod_slice underlying22 h with⟨h1,_⟩ |⟨a,len,cap,els,rest,n,rfl,h1,rfl,hb,hl,hm,hlen,hel,_⟩
   .simp only[List.cons.injEq,and_true]at h1;subst h1;exact⟨0,0,.nil,.inl ⟨rfl,none,0,rfl⟩,trivial,trivial⟩
   .simp only[List.cons.injEq,and_true]at h1;subst h1;rw[GI]at hel;have hsz:len<=35184372088832:=by
     have:=C6 underlying22 hw;rw[yV,Y8,hlen]at this;unfold reachBytes at this;omega
    have key: ∀ k,k<=len-> ∃ t:T,t.len=k/\t.At (YB w w.heap.size) true a.block (a.off+(len -k)*11)/\t.lim:=by
     intro k
     induction k with
     |zero=>intro _;exact⟨.nil,rfl,trivial,trivial⟩
     |succ k ihk=>
      intro hk;obtain⟨tl,t1,t2,t3⟩:=ihk (by omega);have he:=hel (len -(k+1)) (by omega);have hx:els[len -(k+1)]? =some els[len -(k+1)]:=Z9 (by omega);generalize els[len -(k+1)]=y at hx;rw[hx]at he;obtain⟨cs,hc,hy⟩:=Z8.1 he;obtain⟨_,hcl,hcs⟩:=World.cells?_some hc;obtain⟨m,kd,lb,tg,ini,cnd,Ym,elz,UU,vb,ve,vc,yb,ye,yc,rfl,rfl,q1,q2,q3,q4⟩:=yT hy;obtain⟨w1,w2,w3,w4,w5⟩:=q4 (C7 underlying22 hw (by exact Y2.2 ⟨y,ZY hx,rfl⟩));obtain⟨b1,o1,s1,r1,r2,r3⟩:=(ih m (by omega)).1 vb yb q1 w3;obtain⟨b2,o2,s2,r4,r5,r6⟩:=(ih m (by omega)).1 ve ye q2 w4;obtain⟨b3,o3,s3,r7,r8,r9⟩:=(ih m (by omega)).2 vc yc q3 w5;have cell: ∀ (i:Nat) u,i < 11->([.int .i64 kd,lb,tg,ini,cnd,Ym,elz,UU,vb,ve,vc]:List Value)[i]? =some u->YB w w.heap.size a.block (a.off+(len -(k+1))*11+i) u:=by
       intro i u hi hu;have:=hcs i hi;rw[hu]at this;obtain⟨sp1,sp2⟩:=cell_spot this;have hadd:(a.add ((len -(k+1))*11)).add i=⟨a.block,a.off+(len -(k+1))*11+i,none⟩:=by
        unfold Addr.add at sp1 sp2 ⊢;by_cases z1:(len -(k+1))*11=0<;>by_cases z2:i=0<;>simp_all<;>cases a<;>simp_all
       rw[hadd]at this sp2;exact⟨sp2,this⟩
      refine⟨.st ⟨kd,lb,tg,ini,cnd,Ym,elz,UU⟩ s1 s2 s3 tl,by simp[T.len,t1],⟨rfl,vb,b1,o1,ve,b2,o2,vc,b3,o3,?_,r1,r2,r4,r5,r7,r8,?_⟩,?_⟩
      .exact⟨cell 0 _ (by omega) rfl,cell 1 _ (by omega) rfl,cell 2 _ (by omega) rfl,cell 3 _ (by omega) rfl,cell 4 _ (by omega) rfl,cell 5 _ (by omega) rfl,cell 6 _ (by omega) rfl,cell 7 _ (by omega) rfl,cell 8 _ (by omega) rfl,cell 9 _ (by omega) rfl,cell 10 _ (by omega) rfl⟩
      .rw[show a.off+(len -(k+1))*11+11=a.off+(len -k)*11 by omega];exact t2
      .exact⟨ZC w1 (by unfold reachBytes;omega),ZC w2 (by unfold reachBytes;omega),r3,r6,r9,t3⟩
    obtain⟨t,t1,t2,t3⟩:=key len (Z7 _);simp only[Nat.sub_self,Nat.zero_mul,Zn]at t2;refine⟨a.block,a.off,t,?_,t2,t3⟩;rw[t1];by_cases h0:len=0
    .exact .inl ⟨h0,some a,cap,by rw[h0]⟩
    .refine .inr ⟨cap,by omega,hl,hsz,?_⟩;have he:=hel 0 (by omega);have hx:els[0]? =some els[0]:=Z9 (by omega);rw[hx]at he;obtain⟨cs,hc,hy⟩:=Z8.1 he;obtain⟨_,hcl,hcs⟩:=World.cells?_some hc;have:=hcs 0 (by omega);rw[Z9 (l:=cs) (by omega)]at this;obtain⟨sp1,_⟩:=cell_spot this;have:a.spot=none:=by
      unfold Addr.add at sp1;simpa using sp1
     cases a;simp_all
  .rcases DataW.trod_slice Oo h with⟨h1,_⟩ |⟨a,len,cap,els,rest,n,rfl,h1,rfl,hb,hl,hm,hlen,hel,_⟩
   .simp only[List.cons.injEq,and_true]at h1;subst h1;exact⟨0,0,.nil,.inl ⟨rfl,none,0,rfl⟩,trivial,trivial⟩
   .simp only[List.cons.injEq,and_true]at h1;subst h1;rw[GH]at hel;have hsz:len<=35184372088832:=by
     have:=C6 Oo hw;rw[yU,Y8,hlen]at this;unfold reachBytes at this;omega
    have key: ∀ k,k<=len-> ∃ t:T,t.len=k/\t.At (YB w w.heap.size) false a.block (a.off+(len -k)*2)/\t.lim:=by
     intro k
     induction k with
     |zero=>intro _;exact⟨.nil,rfl,trivial,trivial⟩
     |succ k ihk=>
      intro hk;obtain⟨tl,t1,t2,t3⟩:=ihk (by omega);have he:=hel (len -(k+1)) (by omega);have hx:els[len -(k+1)]? =some els[len -(k+1)]:=Z9 (by omega);generalize els[len -(k+1)]=y at hx;rw[hx]at he;obtain⟨cs,hc,hy⟩:=Z8.1 he;obtain⟨_,hcl,hcs⟩:=World.cells?_some hc;obtain⟨m,kd,vb,yb,rfl,rfl,q1,q4⟩:=yS hy;have w3:=q4 (C7 Oo hw (by exact Y2.2 ⟨y,ZY hx,rfl⟩));obtain⟨b1,o1,s1,r1,r2,r3⟩:=(ih m (by omega)).1 vb yb q1 w3;have cell: ∀ (i:Nat) u,i < 2->([.int .i64 kd,vb]:List Value)[i]? =some u->YB w w.heap.size a.block (a.off+(len -(k+1))*2+i) u:=by
       intro i u hi hu;have:=hcs i hi;rw[hu]at this;obtain⟨sp1,sp2⟩:=cell_spot this;have hadd:(a.add ((len -(k+1))*2)).add i=⟨a.block,a.off+(len -(k+1))*2+i,none⟩:=by
        unfold Addr.add at sp1 sp2 ⊢;by_cases z1:(len -(k+1))*2=0<;>by_cases z2:i=0<;>simp_all<;>cases a<;>simp_all
       rw[hadd]at this sp2;exact⟨sp2,this⟩
      refine⟨.cl kd s1 tl,by simp[T.len,t1],⟨rfl,vb,b1,o1,cell 0 _ (by omega) rfl,cell 1 _ (by omega) rfl,r1,r2,?_⟩,r3,t3⟩;rw[show a.off+(len -(k+1))*2+2=a.off+(len -k)*2 by omega];exact t2
    obtain⟨t,t1,t2,t3⟩:=key len (Z7 _);simp only[Nat.sub_self,Nat.zero_mul,Zn]at t2;refine⟨a.block,a.off,t,?_,t2,t3⟩;rw[t1];by_cases h0:len=0
    .exact .inl ⟨h0,some a,cap,by rw[h0]⟩
    .refine .inr ⟨cap,by omega,hl,hsz,?_⟩;have he:=hel 0 (by omega);have hx:els[0]? =some els[0]:=Z9 (by omega);rw[hx]at he;obtain⟨cs,hc,hy⟩:=Z8.1 he;obtain⟨_,hcl,hcs⟩:=World.cells?_some hc;have:=hcs 0 (by omega);rw[Z9 (l:=cs) (by omega)]at this;obtain⟨sp1,_⟩:=cell_spot this;have:a.spot=none:=by
      unfold Addr.add at sp1;simpa using sp1
     cases a;simp_all
end
end
end Go.Proofs.YteedbaejpdjilaaGreat
