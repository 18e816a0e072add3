/- Part of the proof: LawO. -/
import Derived.Test.YteedbaejpdjilaaGreatXRe
set_option linter.all false
set_option maxRecDepth 100000
set_option maxHeartbeats 4000000
namespace Go.Proofs.YteedbaejpdjilaaGreat
open Go.RowKit
def T.op:T->Bool
 | .nil=>false
 | .st h b e c tl=>(h.kind==12||h.kind==14||h.kind==15)||(b.op||(e.op||(c.op||tl.op)))
 | .cl _ b tl=>b.op||tl.op
theorem op_opn: ∀ t:T,t.op=false-> ¬ t.opn:=by
 intro t
 induction t with
 |nil=>intro _ h;exact h
 |st h b e c tl ih1 ih2 ih3 ih4=>
  intro ho hn;simp only[T.op,Bool.or_eq_false_iff]at ho;obtain⟨⟨⟨k1,k2⟩,k3⟩,h1,h2,h3,h4⟩:=ho;simp only[beq_eq_false_iff_ne]at k1 k2 k3;rcases hn with(hn|hn|hn) |hn|hn|hn|hn
  ·exact k1 hn
  ·exact k2 hn
  ·exact k3 hn
  ·exact ih1 h1 hn
  ·exact ih2 h2 hn
  ·exact ih3 h3 hn
  ·exact ih4 h4 hn
 |cl x b tl ih1 ih2=>
  intro ho hn;simp only[T.op,Bool.or_eq_false_iff]at ho;exact hn.elim (ih1 ho.1) (ih2 ho.2)
def OpC (t:T):Prop:= ∀ (w:World) (v:Value) (bb o:Nat),ZM v bb o t.len->t.At (Zl w w.heap.size) true bb o->Calls Tryz.prog 62 #[v] w fun e w'=>e=.returned (.bool t.op)∧Below w.heap.size w w'
def OpRel (P:T->Prop) (t:T) (w:World) (bb o:Nat) (ix:Value) (wr:World):Prop:= ∃ (k:Nat) (rest:T),ix=.int .i64 k∧rest.All P∧rest.At (Zl w w.heap.size) true bb (o+k*11)∧k+rest.len=t.len∧Below w.heap.size w wr∧t.op=rest.op
def OcRel (P:T->Prop) (c:T) (w wo:World) (bb o:Nat) (ix:Value) (wr:World):Prop:= ∃ (k:Nat) (rest:T),ix=.int .i64 k∧rest.All P∧rest.At (Zl w w.heap.size) false bb (o+k*2)∧k+rest.len=c.len∧Below wo.heap.size wo wr∧c.op=rest.op
theorem opn_st (t:T) (hall:t.All OpC):OpC t:=by
 intro w v bb o hs hat;obtain⟨av,cv,rfl,hlen,hav⟩:=Z5 hs;have hav:=Z9 hav;clear hs;go_enter Tryz.func62,Tryz.ntmps62;go_wp2_with fail
 go_loopw [9] (fun ix wr=>OpRel OpC t w bb o ix wr) (fun ix _=>t.len -(intOf ix).toNat)
 case atStart=>exact⟨0,t,rfl,hall,by simpa using hat,by simp,Below.refl _ _,rfl⟩
 case round=>
  obtain⟨k,rest,rfl,hall',hat',hlen',hb,heq⟩:=hrel;have sb:=hb.size;cases rest with
  |nil=>
   have hk: ¬ k < t.len:=by simp[T.len]at hlen';omega
   have HX:=Z9 heq;clear hlen' heq;go_wp2_with fail
   go_ret;exact⟨by rw[HX.out];rfl,hb⟩
  |cl=>exact absurd hat'.1 (by simp)
  |st h b e c tl=>
   have hk:k < t.len:=by simp[T.len]at hlen';omega
   obtain rfl:=hav.out (by omega);obtain⟨_,vb,b1,o1,ve,b2,o2,vc,b3,o3,hh,s1,a1,s2,a2,s3,a3,a4⟩:=hat';obtain⟨d0,d1,d2,d3,d4,d5,d6,d7,d8,d9,d10⟩:=hh.cells hb;obtain⟨ba,bc,rfl,_⟩:=Z5 s1;obtain⟨ea,ec,rfl,_⟩:=Z5 s2;obtain⟨ca,cc,rfl,hcl,hca⟩:=Z5 s3;have hca:=Z9 hca;obtain⟨q1,q2,q3,q4⟩:=hall';have hcut:(T.st h b e c tl).op=((h.kind==12||h.kind==14||h.kind==15)||(b.op||(e.op||(c.op||tl.op)))):=rfl;have HX:=ZL (heq.trans hcut) hlen';have HA:=Sl s1 a1 s2 a2 a3 a4;have HQ:=Yt q1 q2 q3 q4;obtain⟨hk0,hk1,hk2,hk3,hk4,hk5,hk6,hk7⟩:=h;clear s1 a1 s2 a2 s3 a3 a4 q1 q2 q3 q4 hh hlen' heq hcut;have hB1:Below wr.heap.size wr (wr.alloc (.cells [.int .i64 hk0,.string hk1,.string hk2,.bool hk3,.bool hk4,.bool hk5,.bool hk6,.bool hk7,.slice ba b.len bc,.slice ea e.len ec,.slice ca c.len cc].toArray 125)):=(Below.refl _ _).alloc (Nat.le_refl _) _;have hxb:=ZV.new wr [.int .i64 hk0,hk1,hk2,hk3,hk4,hk5,hk6,hk7,.slice ba b.len bc,.slice ea e.len ec,.slice ca c.len cc] 125;have hBw:Below w.heap.size w (wr.alloc (.cells [.int .i64 hk0,.string hk1,.string hk2,.bool hk3,.bool hk4,.bool hk5,.bool hk6,.bool hk7,.slice ba b.len bc,.slice ea e.len ec,.slice ca c.len cc].toArray 125)):=hb.trans (hB1.mono sb);by_cases hop:(hk0==12||hk0==14||hk0==15)=true
   ·have HP:=Z9 hop;have hr:t.op=true:=by rw[HX.out.1];show((hk0==12||hk0==14||hk0==15)||_)=true;rw[hop];rfl
    have hr:=Z9 hr;simp only[Bool.or_eq_true,beq_iff_eq]at hop;have n4:hk0=12∨hk0=14∨hk0=15:=by rcases hop with(h|h) |h<;>omega
    clear hop;rcases n4 with rfl|rfl|rfl
    all_goals
     go_wp2_with fail
     go_ret;exact⟨by first|rfl|(rw[hr.out];rfl),hBw⟩
   ·have hop:(hk0==12||hk0==14||hk0==15)=false:=by simpa using hop
    have HP:=Z9 hop;simp only[Bool.or_eq_false_iff]at hop;obtain⟨⟨n1,n2⟩,n3⟩:=hop;go_wp2_with fail
    refine(HQ.out.1 _ _ b1 o1 HA.out.1 (HA.out.2.1.mono (Zl.at hBw))).mono ?_;rintro e' w1 ⟨rfl,hb1⟩;have hBw1:=hBw.trans (hb1.mono hBw.size);have hx1:=YK hxb hb1;have x9:=hx1.cell 9 rfl;have x10:=hx1.cell 10 rfl;cases hbs:b.op with
    |true=>
     have HE:=Z9 hbs;clear hbs;go_wp2_with fail
     go_ret;exact⟨by rw[HX.out.1,HE.out];simp,hBw1⟩
    |false=>
     have HE:=Z9 hbs;clear hbs;go_wp2_with fail
     refine(HQ.out.2.1 _ _ b2 o2 HA.out.2.2.1 (HA.out.2.2.2.1.mono (Zl.at hBw1))).mono ?_;rintro e' w2 ⟨rfl,hb2⟩;have hBw2:=hBw1.trans (hb2.mono hBw1.size);have hx2:=YK hx1 hb2;have y10:=hx2.cell 10 rfl;cases hes:e.op with
     |true=>
      have HE2:=Z9 hes;clear hes;go_wp2_with fail
      go_ret;exact⟨by rw[HX.out.1,HE2.out];simp,hBw2⟩
     |false=>
      have HE2:=Z9 hes;clear hes;have sw2:=hBw2.size;obtain⟨wo,hwo⟩: ∃ wo:World,wo=wr:=⟨_,rfl⟩
      subst hwo;go_wp2_with fail
      go_loopw [39] (fun ix wx=>OcRel OpC c w w2 b3 o3 ix wx) (fun ix _=>c.len -(intOf ix).toNat)
      case atStart=>exact⟨0,c,rfl,HQ.out.2.2.1,by simpa using HA.out.2.2.2.2.1,by simp,Below.refl _ _,rfl⟩
      case round=>
       obtain⟨m,restc,rfl,hallc,hatc,hlenc,hbc,heqc⟩:=hrel;have sc:=hbc.size;have hBw3:=hBw2.trans (hbc.mono hBw2.size);cases restc with
       |nil=>
        have hk: ¬ m < c.len:=by simp[T.len]at hlenc;omega
        have HC:=Z9 heqc;clear hlenc heqc;go_wp2_with fail
        refine⟨⟨k+1,tl,by simp,HQ.out.2.2.2,by rw[show o+(k+1)*11=o+k*11+11 by omega];exact HA.out.2.2.2.2.2,by have:=HX.out.2;simp[T.len]at this;omega,hBw3,?_⟩,by simp[intOf];omega⟩;rw[HX.out.1,HE.out,HE2.out,HC.out];show((hk0==12||hk0==14||hk0==15)||_)=_;rw[HP.out];simp[T.op]
       |st=>exact absurd hatc.1 (by simp)
       |cl xe b6 tl6=>
        have hmk:m < c.len:=by simp[T.len]at hlenc;omega
        obtain rfl:=hca.out (by omega);obtain⟨_,vb6,b7,o7,hc0,hc1,s6,a6,a7⟩:=hatc;obtain⟨va6,vc6,rfl,_⟩:=Z5 s6;have g0:wr.cell? ⟨b3,o3+m*2,none⟩=some (.int .i64 xe):=(hBw3.cell (p:=⟨b3,o3+m*2,none⟩) hc0.1).trans hc0.2;have g1:wr.cell? ⟨b3,o3+m*2+1,none⟩=some (.slice va6 b6.len vc6):=(hBw3.cell (p:=⟨b3,o3+m*2+1,none⟩) hc1.1).trans hc1.2;obtain⟨q6,q7⟩:=hallc;have HB:=Fh s6 a6 a7 q6 q7 heqc hlenc;clear s6 a6 a7 q6 q7 hc0 hc1 hlenc heqc;have hB4:Below w.heap.size w (wr.alloc (.cells [.int .i64 xe,.slice va6 b6.len vc6].toArray 127)):=hBw3.alloc (by omega) _;have hB5:Below w2.heap.size w2 (wr.alloc (.cells [.int .i64 xe,.slice va6 b6.len vc6].toArray 127)):=hbc.alloc (by omega) _;go_wp2_with fail
        refine(HB.out.2.2.2.1 _ _ b7 o7 HB.out.1 (HB.out.2.1.mono (Zl.at hB4))).mono ?_;rintro e' w3 ⟨rfl,hb3⟩;cases hcs:b6.op with
        |true=>
         have HE3:=Z9 hcs;clear hcs;go_wp2_with fail
         go_ret;refine⟨?_,hB4.trans (hb3.mono hB4.size)⟩;rw[HX.out.1,HB.out.2.2.2.2.2.1];simp[T.op,HE3.out]
        |false=>
         have HE3:=Z9 hcs;clear hcs;go_wp2_with fail
         refine⟨⟨m+1,tl6,by simp,HB.out.2.2.2.2.1,by rw[show o3+(m+1)*2=o3+m*2+2 by omega];exact HB.out.2.2.1,by have:=HB.out.2.2.2.2.2.2;simp[T.len]at this;omega,hB5.trans (hb3.mono hB5.size),?_⟩,by simp[intOf];omega⟩;rw[HB.out.2.2.2.2.2.1];simp[T.op,HE3.out]
theorem opn_all: ∀ t:T,OpC t:=T.Xl opn_st
theorem opn_any {t:T} {w:World} {v:Value} (h:Src w t v):Calls Tryz.prog 62 #[v] w fun e w'=>e=.returned (.bool t.op)∧Below w.heap.size w w':=by
 obtain⟨bb,o,h1,h2⟩:=h.data;exact opn_all t w v bb o h1 h2
end Go.Proofs.YteedbaejpdjilaaGreat
