/- Part of the proof. -/
import Derived.Test.YteedbaejpdjilaaGreatYQj
import Derived.Test.YteedbaejpdjilaaGreatYQe
import Derived.Test.YteedbaejpdjilaaGreatYPs
import Derived.ArgAppend
import Derived.Test.YteedbaejpdjilaaGreatYQf
import Derived.Test.YteedbaejpdjilaaGreatYPx
import Derived.Test.YteedbaejpdjilaaGreatYPy
import Derived.BigQuiet
import Derived.StillTailTactics
import Derived.Test.YteedbaejpdjilaaGreatYQg
import Derived.Laws.CopyOwn
import Derived.Deep.CutBlock
set_option linter.all false
set_option maxRecDepth 100000
set_option maxHeartbeats 40000000
namespace Go.Proofs.YteedbaejpdjilaaGreat
open Go.RowKit Tryz
section
section
variable {t:T} {A:Tr} {S S3:BS} {c:Nat} {X:Cx}
inductive Rd (A:Tr):Int->Prop
 |first {m:Nat} {x:Int} :Vp A.mv m ⟨1,0,0⟩ x->Rd A x
 |next {y:Nat} {x:Int} {v:Bool} {p:Pl} {m:Nat} :Rd A y->p∈A.Nu y v->Vp A.mv m p x->Rd A x
theorem Sem.Z9q (F:Fin t S S3 c): ∃ k,S.Z6[c]? =some k/\k.succs= []:=(F.rs.w.cur c F.cur).2
theorem Sem.node (h:Sem t A S c X) (F:Fin t S S3 c) {b j:Nat} {x:Vt} (hn:X.G.node b j x):(x=⟨2,true⟩/\b=c/\X.G.ends b (j+1) [])\/(X.ng b j x/\ ∃ k,S.Z6[b]? =some k/\k.nodes[j]? =some x):=by
 obtain⟨B,h1,h2⟩:=hn;rw[h.G]at h1;obtain⟨k,h3,h4⟩:=NZ h1;by_cases e:b=c
 .rw[if_pos e]at h4;subst h4;rcases XX h2 with h5|⟨h5,h6⟩
  .exact .inr ⟨(h.iv.blk b k h3).Ru j x h5,k,h3,h5⟩
  .subst h6;refine .inl ⟨rfl,e,?_⟩;rw[h.G];obtain⟨kc,g1,g2⟩:=Sem.Z9q F;rw[e]at h3;rw[g1]at h3;cases h3;exact⟨_,h1,by simp[h5],g2⟩
 .rw[if_neg e]at h4;subst h4;exact .inr ⟨(h.iv.blk b B h3).Ru j x h2,B,h3,h2⟩
theorem Sem.LO (h:Sem t A S c X) (x:Int):(∃ m,Vp A.mv m ⟨1,0,0⟩ x)↔ ∃ k,Vp (nx X.G.Z6) k (0,0) x:=by
 have:=Ob.same h.closed h.start x;rw[h.A]at this;rw[<-this];simp
theorem Sem.Ii (h:Sem t A S c X) {P:List Pl} {q:Pt} {fs fg:Bool} (ho:X.ob fs fg P q) (x:Int):(∃ p∈P,∃ m,Vp A.mv m p x)↔ ∃ k,Vp (nx X.G.Z6) k q x:=by
 have:=Ob.same h.closed ho x;rw[h.A]at this;exact this
theorem TN {b:Nat} {B:Bk} (h:(S.whole c).Z6[b]? =some B): ∃ k,S.Z6[b]? =some k/\k.succs=B.succs/\k.kind=B.kind/\k.of=B.of/\k.Yz=B.Yz:=by
 obtain⟨k,h1,h2⟩:=NZ h;refine⟨k,h1,?_⟩;split at h2<;>subst h2<;>exact⟨rfl,rfl,rfl,rfl⟩
theorem Reach.succ {b:Nat} (hb:Reach S.Z6 b) {B:Bk} (h:(S.whole c).Z6[b]? =some B) {s:Nat} (hs:s∈B.succs):Reach S.Z6 s:=by
 obtain⟨k,h1,h2,_⟩:=TN h;exact .step hb h1 (by rw[h2];exact hs)
theorem Q0 {G:Gr} (hG:G=S.whole c): ∀ {k:Nat} {q:Pt} {x:Int},Vp (nx G.Z6) k q x->Reach S.Z6 q.1-> ∃ b j y,G.node b j y/\YS y.pos=x/\Reach S.Z6 b:=by
 intro k q x hr
 induction hr with
 | @leaf p x h1=>
  intro hb;unfold nx at h1;cases hB:G.Z6[p.1]? with
  |none=>rw[hB]at h1;cases h1
  |some B=>
   rw[hB]at h1;simp only at h1;cases hx:B.nodes[p.2]? with
   |none=>rw[hx]at h1;cases h1
   |some y=>
    rw[hx]at h1;simp only at h1;split at h1
    .cases h1
    .exact⟨p.1,p.2,y,⟨B,hB,hx⟩,by simpa using h1,hb⟩
 | @step p q x n h1 _ ih=>
  intro hb;apply ih;unfold nx at h1;cases hB:G.Z6[p.1]? with
  |none=>rw[hB]at h1;simp at h1
  |some B=>
   rw[hB]at h1;simp only at h1;cases hx:B.nodes[p.2]? with
   |none=>
    rw[hx]at h1;simp only[Y2]at h1;obtain⟨s,hs,rfl⟩:=h1;rw[hG]at hB;exact hb.succ hB hs
   |some y=>
    rw[hx]at h1;simp only at h1;split at h1
    .simp at h1;rw[h1];exact hb
    .simp at h1
theorem Sem.fwd (h:Sem t A S c X) (F:Fin t S S3 c) {x:Int} (hx:Rd A x): ∃ b j y,X.G.node b j y/\YS y.pos=x/\Reach S.Z6 b:=by
 induction hx with
 |first h1=>
  obtain⟨k,hk⟩:=(h.LO _).1 ⟨_,h1⟩;exact Q0 h.G hk .zero
 | @next y x v p m _ hp hr ih=>
  obtain⟨b,j,z,hn,hz,hb⟩:=ih;rcases h.node F hn with⟨rfl,_,_⟩ |⟨hg,_⟩
  .have hz':(-2:Int)=y:=hz;omega
  .rcases hg with⟨hg,_⟩ |⟨w,hw,_,hL⟩
   .omega
   .rw[hw,TT]at hz;have:w=y:=by omega
    subst this;rw[<-h.A]at hp;by_cases hd:X.A.Tw w=true
    .obtain⟨tt,ff,he,h1,h2,_⟩:=hL.two hd;obtain⟨B,hB,_,hs⟩:=he;rw[h.G]at hB;cases v with
     |true=>
      obtain⟨k,hk⟩:=(h.Ii h1 x).1 ⟨p,hp,m,hr⟩;exact Q0 h.G hk (hb.succ hB (by rw[hs];simp))
     |false=>
      obtain⟨k,hk⟩:=(h.Ii h2 x).1 ⟨p,hp,m,hr⟩;exact Q0 h.G hk (hb.succ hB (by rw[hs];simp))
    .have hd:X.A.Tw w=false:=by simpa using hd
     by_cases hs:X.A.Yh w=2\/X.A.Yh w=9
     ·
      exfalso;unfold Tr.Nu at hp;have hw1:(X.A.lf w).what=1:=by
       by_cases e:(X.A.lf w).what=1
       .exact e
       .rw[WV e]at hs;omega
      have hk:X.A.Yh w=X.A.kd (X.A.lf w).of:=by unfold Tr.Yh;rw[if_pos hw1]
      rw[hk]at hs;rw[if_pos hw1,if_pos hs]at hp;simp at hp
     .obtain⟨k,hk⟩:=(h.Ii (hL.next hd (by omega) (by omega) v) x).1 ⟨p,hp,m,hr⟩;exact Q0 h.G hk hb
def Good (A:Tr) (G:Gr) (q:Pt):Prop:= ∀ x m,Vp (nx G.Z6) m q x->Rd A x
theorem Sem.good (h:Sem t A S c X) (F:Fin t S S3 c) {b:Nat} (hb:Reach S.Z6 b):Good A X.G (b,0)/\ ∀ B,X.G.Z6[b]? =some B-> ∀ j,j<=B.nodes.length->Good A X.G (b,j):=by
 have inner: ∀ b,Good A X.G (b,0)-> ∀ B,X.G.Z6[b]? =some B-> ∀ j,j<=B.nodes.length->Good A X.G (b,j):=by
  intro b h0 B hB j
  induction j with
  |zero=>intro _;exact h0
  |succ j ih=>
   intro hj;have hg:=ih (by omega);have hx:B.nodes[j]? =some B.nodes[j]:=Z9 (by omega);generalize B.nodes[j]=y at hx;have hn:X.G.node b j y:=⟨B,hB,hx⟩
   rcases h.node F hn with⟨rfl,_,he⟩ |⟨vq,_⟩
   .intro x m hr;have:=U0 he;cases hr with
    |leaf h1=>rw[this]at h1;cases h1
    |step h1 _=>rw[this]at h1;simp at h1
   .rcases vq with⟨h1,_⟩ |⟨w,hw,_,hL⟩
    .intro x m hr;exact hg x (m+1) (.step (by rw[J9 hn h1];simp) hr)
    .have hw':Rd A w:=hg w 0 (.leaf (by rw[Gt hn hw]));by_cases hd:X.A.Tw w=true
     .obtain⟨tt,ff,he,h1,h2,_⟩:=hL.two hd;intro x m hr;have:=U0 he;cases hr with
      |leaf h3=>rw[this]at h3;cases h3
      |step h3 h4=>
       rw[this]at h3;simp at h3;rcases h3 with rfl|rfl
       .obtain⟨p,hp,m',hm⟩:=(h.Ii h1 x).2 ⟨_,h4⟩;rw[h.A]at hp;exact .next hw' hp hm
       .obtain⟨p,hp,m',hm⟩:=(h.Ii h2 x).2 ⟨_,h4⟩;rw[h.A]at hp;exact .next hw' hp hm
     .have hd:X.A.Tw w=false:=by simpa using hd
      by_cases hs:X.A.Yh w=2\/X.A.Yh w=9
      .intro x m hr;have:=U0 (hL.stop hs);cases hr with
       |leaf h3=>rw[this]at h3;cases h3
       |step h3 h4=>rw[this]at h3;simp at h3
      .intro x m hr;obtain⟨p,hp,m',hm⟩:=(h.Ii (hL.next hd (by omega) (by omega) true) x).2 ⟨_,hr⟩;rw[h.A]at hp;exact .next hw' hp hm
 have outer:Good A X.G (b,0):=by
  induction hb with
  |zero=>exact fun x m hr=>let⟨m',hm⟩:=(h.LO x).2 ⟨m,hr⟩;.first hm
  | @step i s k hi hk hs ih=>
   intro x m hr;have hB:=Ve (c:=c) hk;rw[<-h.G]at hB;generalize hBB:(if i=c then { k with nodes:=k.nodes++ [⟨2,true⟩] } else k)=B at hB;have hsB:s∈B.succs:=by
    rw[<-hBB];split<;>exact hs
   have hg:=inner i ih B hB B.nodes.length (Z7 _);have he:X.G.ends i B.nodes.length B.succs:=⟨B,hB,rfl,rfl⟩
   refine hg x (m+1) (.step (q:=(s,0)) ?_ hr);rw[U0 he];simp[hsB]
 exact⟨outer,inner b outer⟩
theorem Sem.live (h:Sem t A S c X) (F:Fin t S S3 c) {x:Int} (hx:x≠ -1):Rd A x↔ ∃ b j y,X.G.node b j y/\YS y.pos=x/\Reach S.Z6 b:=by
 refine⟨h.fwd F,?_⟩;rintro⟨b,j,y,hn,hy,hb⟩;obtain⟨B,hB,hj⟩:=hn;have hg:=(h.good F hb).2 B hB j (by have:=ZH hj;omega);refine hg x 0 (.leaf ?_);simp only[nx,hB,hj,hy];rw[if_neg hx]
end
section
variable {t:T} {A:Tr} {S S3:BS} {c:Nat} {X:Cx}
theorem Sem.qM (h:Sem t A S c X) (F:Fin t S S3 c) {i:Nat} {k3:Bk} (hk:S3.Z6[i]? =some k3): ∃ B,X.G.Z6[i]? =some B/\B.kind=k3.kind/\B.of=k3.of/\B.succs=k3.succs/\k3.live=YU S.Z6 i/\
  ((k3.nodes=B.nodes/\(i=c->YU S.Z6 c=true))\/(i=c/\YU S.Z6 c=false/\B.nodes=k3.nodes++ [⟨2,true⟩])):=by
 obtain⟨k,h1,h2,h3,h4,h5,h6⟩:=F.bk hk;have hw:=Ve (c:=c) h1;rw[<-h.G]at hw;refine⟨_,hw,?_⟩;by_cases e:i=c
 .rw[if_pos e];refine⟨h2.symm,h3.symm,h4.symm,h5,?_⟩;have hg:=F.get i k h1;rw[hk]at hg;have hg:=Y0 hg;cases hl:YU S.Z6 c with
  |true=>
   rw[hl,if_pos ⟨e,rfl⟩]at hg;exact .inl ⟨by rw[hg],fun _=>rfl⟩
  |false=>
   rw[hl,if_neg (by simp)]at hg;exact .inr ⟨e,rfl,by rw[hg]⟩
 .rw[if_neg e];refine⟨h2.symm,h3.symm,h4.symm,h5,.inl ⟨?_,fun h=>absurd h e⟩⟩;rcases h6 with⟨h6,_⟩ |⟨h6,_⟩
  .exact h6
  .exact absurd h6 e
theorem Sem.vk (h:Sem t A S c X) (F:Fin t S S3 c) {b j:Nat} {ss:List Nat} (he:X.G.ends b j ss) (hj: ∀ k3,S3.Z6[b]? =some k3->j<=k3.nodes.length): ∃ k3,S3.Z6[b]? =some k3/\k3.nodes.length=j/\k3.succs=ss:=by
 obtain⟨B,h1,h2,h3⟩:=he;have hG:=h1;rw[h.G]at hG;obtain⟨q,g1,_⟩:=TN hG;have hl:b < S3.Z6.length:=by rw[F.len];exact ZH g1
 have hk3:=Z9 hl;generalize S3.Z6[b]=k3 at hk3;obtain⟨B',f1,f2,f3,f4,_,f5⟩:=h.qM F hk3;rw[h1]at f1;cases f1;refine⟨k3,hk3,?_,by rw[<-f4];exact h3⟩;rcases f5 with⟨f5,_⟩ |⟨_,_,f5⟩
 .rw[f5];exact h2
 .have:=hj k3 hk3;rw[f5]at h2;simp at h2;omega
theorem Sem.spot (h:Sem t A S c X) (F:Fin t S S3 c) {i k x:Nat} {k3:Bk} {y:Vt} (hk:S3.Z6[i]? =some k3) (hy:k3.nodes[k]? =some y) (hx:YS y.pos=x):LG X i k x y.ret/\x < X.A.ls.length/\(∀ ss,X.G.ends i (k+1) ss->k3.nodes.length=k+1/\k3.succs=ss):=by
 obtain⟨B,h1,h2,h3,h4,h5,h6⟩:=h.qM F hk;have hn:X.G.node i k y:=⟨B,h1,by
  rcases h6 with⟨h6,_⟩ |⟨_,_,h6⟩
  .rw[<-h6];exact hy
  .rw[h6,ZP (ZH hy)];exact hy⟩
 rcases h.node F hn with⟨rfl,_⟩ |⟨hg,_⟩
 .have:(-2:Int)=x:=hx;omega
 .rcases hg with⟨hg,_⟩ |⟨w,hw,hl,hL⟩
  .omega
  .rw[hw,TT]at hx;have:w=x:=by omega
   subst this;refine⟨hL,hl,fun ss he=>?_⟩;obtain⟨q,g1,g2,g3⟩:=h.vk F he (fun q hq=>by rw[hk]at hq;cases hq;have:=ZH hy;omega);rw[hk]at g1;cases g1;exact⟨g2,g3⟩
theorem Sem.asked (h:Sem t A S c X) (F:Fin t S S3 c):(∀ y∈S3.asked,∃ x:Nat,y=x/\x < X.A.ls.length/\(X.A.Yh x=1\/X.A.Yh x=2))/\ ∀ x:Nat,x < t.lv false->(X.A.Yh x=1\/X.A.Yh x=2)->(x:Int)∈S3.asked:=by
 rw[F.asked];refine⟨fun y hy=>h.iv.ask y hy,fun x hx hk=>?_⟩;have:=(h.Vc x (by omega) hx).2 hk;rw[h.G]at this;exact this
theorem Sem.Yz (h:Sem t A S c X) (F:Fin t S S3 c) (hd: ∀ x:Nat,x < X.A.ls.length->X.A.Yh x≠7) {i:Nat} {k3:Bk} (hk:S3.Z6[i]? =some k3):k3.Yz=true↔k3.ends=true:=by
 obtain⟨k,g1,g2,g3,g4,g5,g6⟩:=F.bk hk;rcases g6 with⟨g6,g7⟩ |⟨e,g6,g7,g8⟩
 .have hb:=h.iv.blk i k g1;have he:k3.ends=k.ends:=by unfold Bk.ends;rw[g6]
  rw[g7,he];refine⟨fun hr=>?_,fun he=>?_⟩
  .rcases hb.ret hr with⟨y,h1,x,h2,h3⟩ |⟨h1,_⟩
   .exfalso;obtain⟨j,hj⟩:=List.getElem?_of_mem h1;rcases hb.Ru j y hj with⟨h6,_⟩ |⟨w,h6,h7,_⟩
    .rw[h2,TT]at h6;omega
    .rw[h2]at h6;have:x=w:=by unfold lp at h6;omega
     subst this;exact hd x h7 h3
   .exact h1
  .refine hb.rt ?_;unfold Bk.ends at he;cases hl:k.nodes.getLast? with
   |none=>rw[hl]at he;simp at he
   |some y=>rw[hl]at he;exact⟨y,List.mem_of_getLast? hl,by simpa using he⟩
 .rw[g8];have:k3.ends=true:=by unfold Bk.ends;rw[g7];simp
  rw[this]
end
section
variable {t:T} {A:Tr} {S S3:BS} {c:Nat} {X:Cx}
theorem Ge (h:Sem t A S c X) (F:Fin t S S3 c) {q:Pt} (hb:Reach S.Z6 q.1):nx S3.Z6 q=nx X.G.Z6 q:=by
 have hl:q.1 < S3.Z6.length\/S3.Z6.length<=q.1:=by omega
 rcases hl with hl|hl
 .have hk:=Z9 hl;generalize S3.Z6[q.1]=k3 at hk;obtain⟨B,h1,h2,h3,h4,h5,h6⟩:=h.qM F hk;have hn:k3.nodes=B.nodes:=by
   rcases h6 with⟨h6,_⟩ |⟨e,h6,_⟩
   .exact h6
   .exfalso;rw[<-e]at h6;have:YU S.Z6 q.1=true:=by unfold YU;simp[hb]
    rw[h6]at this;cases this
  simp only[nx,hk,h1,hn,h4]
 .have h1:S3.Z6[q.1]? =none:=Y6 hl;have h2:X.G.Z6[q.1]? =none:=by
   rw[h.G];apply Y6;show(S.Z6.modify c _).length<=q.1;rw[List.length_modify,<-F.len];exact hl
  simp only[nx,h1,h2]
theorem JV (h:Sem t A S c X) {q q':Pt} (hb:Reach S.Z6 q.1) (hq:q'∈(nx X.G.Z6 q).1):Reach S.Z6 q'.1:=by
 unfold nx at hq;cases hB:X.G.Z6[q.1]? with
 |none=>rw[hB]at hq;simp at hq
 |some B=>
  rw[hB]at hq;simp only at hq;cases hx:B.nodes[q.2]? with
  |none=>
   rw[hx]at hq;simp only[Y2]at hq;obtain⟨s,hs,rfl⟩:=hq;rw[h.G]at hB;exact hb.succ hB hs
  |some y=>
   rw[hx]at hq;simp only at hq;split at hq
   .simp at hq;rw[hq];exact hb
   .simp at hq
theorem QZ (h:Sem t A S c X) (F:Fin t S S3 c): ∀ {k:Nat} {q:Pt} {x:Int},Reach S.Z6 q.1->(Vp (nx S3.Z6) k q x↔Vp (nx X.G.Z6) k q x):=by
 intro k
 induction k with
 |zero=>
  intro q x hb;have e:=Ge h F hb;constructor
  .intro hr;cases hr with
   |leaf h1=>exact .leaf (by rw[<-e];exact h1)
  .intro hr;cases hr with
   |leaf h1=>exact .leaf (by rw[e];exact h1)
 |succ k ih=>
  intro q x hb;have e:=Ge h F hb;constructor
  .intro hr;cases hr with
   |step h1 h2=>
    rw[e]at h1;exact .step h1 ((ih (JV h hb h1)).1 h2)
  .intro hr;cases hr with
   |step h1 h2=>exact .step (by rw[e];exact h1) ((ih (JV h hb h1)).2 h2)
theorem Sem.first (h:Sem t A S c X) (F:Fin t S S3 c) (x:Int):(∃ k,Vp (nx S3.Z6) k (0,0) x)↔ ∃ m,Vp A.mv m ⟨1,0,0⟩ x:=by
 rw[h.LO x];exact⟨fun⟨k,hk⟩=>⟨k,(QZ h F .zero).1 hk⟩,fun⟨k,hk⟩=>⟨k,(QZ h F .zero).2 hk⟩⟩
end
end
section
section
section
def NY (A:Tr) (p:Pl):Prop:=
 (p.op=1/\Ok p.a A.rs.length/\0<=p.b/\p.b<=A.ns.length)\/(p.op=2/\Ok p.a A.ns.length/\(A.kd p.a=10\/A.kd p.a=11)/\p.b=0)\/(p.op=3/\Ok p.a A.ns.length/\0<=p.b/\p.b<=((A.nd p.a).tests.length:Int))\/
 (p.op=4/\Ok p.a A.ns.length/\p.b=0)\/(p.op=5/\Ok p.a A.ns.length/\A.kd p.a=12/\p.b=0)\/(p.op=6/\Ok p.a A.ls.length/\p.b=0)
theorem Ww {A:Tr} {n:Int} (h:Ok n A.rs.length):NY A ⟨1,n,0⟩:=.inl ⟨rfl,h,by simp,by simp⟩
theorem getD_mem {l:List Int} {b:Int} (h0:0<=b) (h:b < (l.length:Int)) (d:Int):l.getD b.toNat d∈l:=by
 rw[Zy,Z9 (by omega)];exact List.getElem_mem _
section
variable {A:Tr} (W:Wf A)
include W
theorem Wf.behind {n:Int} (h:Ok n A.ns.length):NY A (A.behind n):=by
 have:=W.nd h;have h1:=this.here;have h2:=this.place;have h3:=ZH h1;have h4:=(W.rw this.list).len;exact .inl ⟨rfl,this.list,by simp only[Tr.behind];omega,by simp only[Tr.behind];omega⟩
theorem Wf.again {n:Int} (h:Ok n A.ns.length) (hk:A.kd n=11\/A.kd n=12):NY A (A.again n):=by
 unfold Tr.again;split
 .next h1=>exact .inr (.inr (.inr (.inr (.inl ⟨rfl,h,h1,rfl⟩))))
 .next h1=>
  split
  .next h2=>exact .inr (.inr (.inr (.inr (.inr ⟨rfl,(W.nd h).Ym.ok h2,rfl⟩))))
  .exact .inr (.inl ⟨rfl,h,by simp only;omega,rfl⟩)
theorem Wf.left {l:Int} (h:Ok l A.rs.length) (ho:(A.rw l).owner≠ -1):NY A (A.left l):=by
 have:=(W.rw h).owner.ok ho;unfold Tr.left;split
 .next h1=>exact W.again this h1
 .exact W.behind this
theorem Wf.chosen {n:Int} (h:Ok n A.ns.length): ∀ p∈A.chosen n,NY A p:=by
 intro p hp;unfold Tr.chosen at hp;simp only[ZM,Y2]at hp;rcases hp with⟨c,hc,rfl⟩ |hp
 .exact Ww ((W.nd h).ch c hc)
 .split at hp
  .simp at hp
  .simp at hp;subst hp;exact W.behind h
theorem Wf.failed {n:Int} (h:Ok n A.ns.length):NY A (A.failed n):=by
 unfold Tr.failed;split
 .next c hc=>exact Ww ((W.nd h).ch c (List.mem_of_find?_eq_some hc))
 .exact W.behind h
theorem Wf.BO {n:Int} (h:Ok n A.ns.length) (hk:A.kd n=20):Ok ((A.rw (A.nd n).list).clause+1) (A.nd (A.tgt n)).choices.length:=by
 obtain⟨m,rfl,hm⟩:=h.cast;have hx:=Z9 hm;have hnd:=W8 hx;have hk':(A.nd (m:Int)).h.kind=20:=hk;rw[hnd]at hk' ⊢;obtain⟨h1,h2⟩:=W.fall m _ hx hk';have h3:=(W.n m _ hx).fall hk' h2;have h4:=(W.rw (W.n m _ hx).list).clause.ok h2;rw[h1];exact⟨by have:=h4.1;omega,h3⟩
theorem Wf.next {n:Int} (h:Ok n A.ns.length) (hk:A.kd n=20):NY A (A.next (A.nd n).list (A.tgt n)):=by
 have h1:=W.BO h hk;have h2:Ok (A.tgt n) A.ns.length:=by
  obtain⟨m,rfl,hm⟩:=h.cast;have hx:=Z9 hm;have hk':(A.nd (m:Int)).h.kind=20:=hk;rw[W8 hx]at hk';exact W.tg m _ hx (by omega)
 obtain⟨j,e,hj⟩:=h1.cast;refine Ww ?_;unfold Tr.ch;rw[e];refine(W.nd h2).ch _ ?_;rw[Y1,Zy,Z9 hj];exact List.getElem_mem hj
theorem Wf.tgt {n:Int} (h:Ok n A.ns.length) (hk:A.kd n=17\/A.kd n=18\/A.kd n=19\/A.kd n=20):Ok (A.tgt n) A.ns.length/\(A.kd n=18->A.kd (A.tgt n)=11\/A.kd (A.tgt n)=12):=by
 obtain⟨m,rfl,hm⟩:=h.cast;have hx:=Z9 hm;unfold Tr.kd at hk;rw[W8 hx]at hk;refine⟨W.tg m _ hx hk,fun h18=>W.loop m _ hx ?_⟩;unfold Tr.kd at h18;rw[W8 hx]at h18;exact h18
theorem Wf.entered {n:Int} (h:Ok n A.ns.length):NY A (A.entered n):=by
 have hN:=W.nd h;unfold Tr.entered;split
 .next h1=>exact .inr (.inl ⟨rfl,h,h1,rfl⟩)
 split
 .next h1=>exact .inr (.inr (.inr (.inr (.inr ⟨rfl,hN.cnd.ok (hN.hc (.inr h1)),rfl⟩))))
 split
 .split
  .next h2=>exact .inr (.inr (.inr (.inr (.inr ⟨rfl,hN.cnd.ok h2,rfl⟩))))
  .exact .inr (.inr (.inl ⟨rfl,h,by simp,by simp⟩))
 split
 .exact .inr (.inr (.inr (.inl ⟨rfl,h,rfl⟩)))
 split
 .next h1=>exact Ww (hN.body.ok (hN.hb (.inr (.inr (.inr h1)))))
 split
 .next h1=>exact W.behind (W.tgt h (.inl h1)).1
 split
 .next h1=>exact W.again (W.tgt h (.inr (.inl h1))).1 ((W.tgt h (.inr (.inl h1))).2 h1)
 split
 .next h1=>
  have hT:=W.nd (W.tgt h (.inr (.inr (.inl h1)))).1;have h3:=ZH hT.here;have h4:=(W.rw hT.list).len;have h5:=hT.place;exact .inl ⟨rfl,hT.list,by simp only;omega,by simp only;omega⟩
 split
 .next h1=>exact W.next h h1
 .exact W.behind h
theorem Wf.begun {n:Int} (h:Ok n A.ns.length):NY A (A.begun n):=by
 have hN:=W.nd h;unfold Tr.begun;split
 .next h1=>exact .inr (.inr (.inr (.inr (.inr ⟨rfl,hN.self.ok h1,rfl⟩))))
 split
 .next h1=>exact .inr (.inr (.inr (.inr (.inr ⟨rfl,hN.ini.ok h1,rfl⟩))))
 .exact W.entered h
theorem Wf.mv {p:Pl} (h:NY A p):(∀ q∈(A.mv p).1,NY A q)/\(∀ x,(A.mv p).2=some x->x= -2\/Ok x A.ls.length):=by
 unfold Tr.mv;rcases h with⟨e,h1,h2,h3⟩ |⟨e,h1,h2,h3⟩ |⟨e,h1,h2,h3⟩ |⟨e,h1,h2⟩ |⟨e,h1,h2,h3⟩ |⟨e,h1,h2⟩<;>rw[e]
 .simp only[if_true];have hR:=W.rw h1;split
  .next hb=>
   refine⟨fun q hq=>?_,fun x hx=>by simp at hx⟩;simp at hq;subst hq;have hm:=hR.nodes _ (getD_mem h2 hb 0);rw[Zy]at hm;exact W.begun hm
  .split
   .exact⟨fun q hq=>by simp at hq,fun x hx=>by simp at hx;exact .inl hx.symm⟩
   .next ho=>
    refine⟨fun q hq=>?_,fun x hx=>by simp at hx⟩;simp at hq;subst hq;exact W.left h1 ho
 .simp only[show ¬ (2:Int)=1 by omega,if_false,if_true];split
  .refine⟨fun q hq=>?_,fun x hx=>by simp at hx⟩;simp at hq;subst hq;have hN:=W.nd h1;exact Ww (hN.body.ok (hN.hb (by unfold Tr.kd at h2;omega)))
  .next hc=>exact⟨fun q hq=>by simp at hq,fun x hx=>by simp at hx;subst hx;exact .inr ((W.nd h1).cnd.ok hc)⟩
 .simp only[show ¬ (3:Int)=1 by omega,show ¬ (3:Int)=2 by omega,if_false,if_true];split
  .next hb=>exact⟨fun q hq=>by simp at hq,fun x hx=>by simp only[Option.some.injEq]at hx;subst hx;exact .inr ((W.nd h1).te _ (getD_mem h2 hb 0))⟩
  .refine⟨fun q hq=>?_,fun x hx=>by simp at hx⟩;simp at hq;subst hq;exact W.failed h1
 .simp only[show ¬ (4:Int)=1 by omega,show ¬ (4:Int)=2 by omega,show ¬ (4:Int)=3 by omega,if_false,if_true];exact⟨W.chosen h1,fun x hx=>by simp at hx⟩
 .simp only[show ¬ (5:Int)=1 by omega,show ¬ (5:Int)=2 by omega,show ¬ (5:Int)=3 by omega,show ¬ (5:Int)=4 by omega,if_false,if_true];refine⟨fun q hq=>?_,fun x hx=>by simp at hx⟩;simp at hq;rcases hq with rfl|rfl
  .have hN:=W.nd h1;exact Ww (hN.body.ok (hN.hb (by unfold Tr.kd at h2;omega)))
  .exact W.behind h1
 .simp only[show ¬ (6:Int)=1 by omega,show ¬ (6:Int)=2 by omega,show ¬ (6:Int)=3 by omega,show ¬ (6:Int)=4 by omega,show ¬ (6:Int)=5 by omega,if_false];exact⟨fun q hq=>by simp at hq,fun x hx=>by simp at hx;subst hx;exact .inr h1⟩
theorem Wf.Nu {i:Int} (h:Ok i A.ls.length) (v:Bool): ∀ p∈A.Nu i v,NY A p:=by
 have hL:=W.lf h;have hN:=W.nd hL.of;unfold Tr.Nu;split
 .split
  .simp
  .intro p hp;simp at hp;subst hp;exact W.behind hL.of
 split
 .intro p hp;simp at hp;subst hp;exact W.entered hL.of
 split
 .next h4=>intro p hp;simp at hp;subst hp;exact .inr (.inl ⟨rfl,hL.of,.inr (hL.four h4),rfl⟩)
 split
 .next h5=>
  have h6:=hL.five h5;split
  .intro p hp;simp only[Zk]at hp;subst hp;refine Ww ?_;have h7:=hN.tof _ (getD_mem h6.1 h6.2 0);obtain⟨j,e,hj⟩:=h7.cast;unfold Tr.ch;rw[e];refine hN.ch _ ?_;rw[Y1,Zy,Z9 hj];exact List.getElem_mem hj
  .intro p hp;simp at hp;subst hp;have:=hN.tl;have h8:=h6.1;have h9:=h6.2;exact .inr (.inr (.inl ⟨rfl,hL.of,by simp only;omega,by simp only;omega⟩))
 .next h1 h2 h4 h5=>
  have hw:=hL.what;have h3:=hL.three (by omega);intro p hp;simp at hp;subst hp;unfold Tr.decided;split
  .next hk=>exact .inr (.inr (.inr (.inr (.inl ⟨rfl,hL.of,hk,rfl⟩))))
  split
  .exact .inr (.inr (.inl ⟨rfl,hL.of,by simp,by simp⟩))
  split
  .exact Ww (hN.body.ok (hN.hb (by unfold Tr.kd at*;omega)))
  split
  .next hk=>exact Ww (hN.other.ok hk)
  .exact W.behind hL.of
end
end
section
structure Met {α:Type} (σ:Sy α) (F seen todo:List α) (rec:Int->Prop):Prop where
 nodup:seen.Nodup
 sound: ∀ p,p∈seen\/p∈todo-> ∀ x m,Vp σ m p x-> ∃ q∈F,∃ k,Vp σ k q x
 next: ∀ p∈seen,∀ q∈(σ p).1,q∈seen\/q∈todo
 leaf: ∀ p∈seen,∀ x,(σ p).2=some x->rec x
 from_: ∀ p∈F,p∈seen\/p∈todo
 met: ∀ x,rec x-> ∃ q∈F,∃ k,Vp σ k q x
section
variable {α:Type} {σ:Sy α} {F seen todo:List α} {rec rec':Int->Prop}
theorem Met.start:Met σ F [] F (fun _=>False):=
 ⟨List.nodup_nil,fun p hp x m hr=>by
  rcases hp with hp|hp
  .simp at hp
  .exact⟨p,hp,m,hr⟩,by simp,by simp,fun p hp=>.inr hp,fun x h=>h.elim⟩
theorem Met.skip {p:α} (h:Met σ F seen (p::todo) rec) (hp:p∈seen):Met σ F seen todo rec:=by
 refine⟨h.nodup,fun q hq=>h.sound q (hq.imp id (Z2 _)),fun q hq r hr=>?_,h.leaf,fun q hq=>?_,h.met⟩
 .rcases h.next q hq r hr with h1|h1
  .exact .inl h1
  .rcases ZO.1 h1 with rfl|h1
   .exact .inl hp
   .exact .inr h1
 .rcases h.from_ q hq with h1|h1
  .exact .inl h1
  .rcases ZO.1 h1 with rfl|h1
   .exact .inl hp
   .exact .inr h1
theorem Met.take {p:α} {l:List α} {o:Option Int} (h:Met σ F seen (p::todo) rec) (hp:p∉seen) (hl:(σ p).1=l) (ho:(σ p).2=o) (hr: ∀ x,rec' x↔rec x\/o=some x):Met σ F (seen++ [p]) (todo++l) rec':=by
 have hs:=h.sound p (.inr List.mem_cons_self);refine⟨?_,fun q hq x m hx=>?_,fun q hq r hqr=>?_,fun q hq x hx=>?_,fun q hq=>?_,fun x hx=>?_⟩
 .rw[Y4];exact⟨h.nodup,by simp,fun a ha b hb e=>by simp at hb;subst hb;subst e;exact hp ha⟩
 .simp only[ZM,Zk]at hq;rcases hq with(hq|rfl) |hq|hq
  .exact h.sound q (.inl hq) x m hx
  .exact hs x m hx
  .exact h.sound q (.inr (Z2 _ hq)) x m hx
  .exact hs x (m+1) (.step (by rw[hl];exact hq) hx)
 .simp only[ZM,Zk]at hq ⊢;rcases hq with hq|rfl
  .rcases h.next q hq r hqr with h1|h1
   .exact .inl (.inl h1)
   .rcases ZO.1 h1 with rfl|h1
    .exact .inl (.inr rfl)
    .exact .inr (.inl h1)
  .exact .inr (.inr (by rw[<-hl];exact hqr))
 .simp only[ZM,Zk]at hq;rcases hq with hq|rfl
  .exact(hr x).2 (.inl (h.leaf q hq x hx))
  .exact(hr x).2 (.inr (by rw[<-ho];exact hx))
 .simp only[ZM,Zk];rcases h.from_ q hq with h1|h1
  .exact .inl (.inl h1)
  .rcases ZO.1 h1 with rfl|h1
   .exact .inl (.inr rfl)
   .exact .inr (.inl h1)
 .rcases(hr x).1 hx with h1|h1
  .exact h.met x h1
  .exact hs x 0 (.leaf (by rw[ho];exact h1))
theorem Met.done (h:Met σ F seen [] rec) (x:Int):rec x↔ ∃ p∈F,∃ m,Vp σ m p x:=by
 refine⟨h.met x,?_⟩;have key: ∀ m p,p∈seen->Vp σ m p x->rec x:=by
  intro m
  induction m with
  |zero=>
   intro p hp hr;cases hr with
   |leaf h1=>exact h.leaf p hp x h1
  |succ m ih=>
   intro p hp hr;cases hr with
   |step h1 h2=>
    rcases h.next p hp _ h1 with h3|h3
    .exact ih _ h3 h2
    .simp at h3
 rintro⟨p,hp,m,hr⟩;rcases h.from_ p hp with h1|h1
 .exact key m p h1 hr
 .simp at h1
theorem Met.congr (h:Met σ F seen todo rec) (hr: ∀ x,rec x↔rec' x):Met σ F seen todo rec':=
 ⟨h.nodup,h.sound,h.next,fun p hp x hx=>(hr x).1 (h.leaf p hp x hx),h.from_,fun x hx=>h.met x ((hr x).2 hx)⟩
end
theorem Qy: ∀ (K:Nat) (l:List Nat),l.Nodup->(∀ x∈l,x < K)->l.length<=K:=by
 intro K
 induction K with
 |zero=>
  intro l _ h;cases l with
  |nil=>simp
  |cons x l=>have:=h x (by simp);omega
 |succ K ih=>
  intro l hn h;have h1:=ih (l.filter (· !=K)) (hn.sublist List.filter_sublist) (fun x hx=>by
   simp only[List.mem_filter,bne_iff_ne]at hx;have:=h x hx.1;omega)
  have h2:l.length<=(l.filter (· !=K)).length+1:=by
   clear ih h1 h
   induction l with
   |nil=>simp
   |cons x l ih=>
    obtain⟨g1,g2⟩:=ZS.1 hn;by_cases e:x=K
    .subst e;have:l.filter (· !=x)=l:=by
      rw[List.filter_eq_self];intro y hy;simp only[bne_iff_ne];rintro rfl;exact g1 hy
     simp[this]
    .have:=ih g2;rw[List.filter_cons_of_pos (by simpa using e)];simp only[ZJ];omega
  omega
theorem MV {α:Type} {f:α->Nat} : ∀ {l:List α},l.Nodup->(∀ x∈l,∀ y∈l,f x=f y->x=y)->(l.map f).Nodup:=by
 intro l
 induction l with
 |nil=>simp
 |cons a l ih=>
  intro hn h;obtain⟨g1,g2⟩:=ZS.1 hn;rw[List.map_cons,ZS];refine⟨fun hc=>?_,ih g2 (fun x hx y hy=>h x (Z2 _ hx) y (Z2 _ hy))⟩;obtain⟨y,hy,e⟩:=Y2.1 hc;exact g1 (h y (Z2 _ hy) a List.mem_cons_self e ▸ hy)
def Pl.code (p:Pl):Nat:=(p.op.toNat*10000+p.a.toNat)*10000+p.b.toNat
theorem BN {l:List Pl} (hn:l.Nodup) (h: ∀ p∈l,0<=p.op/\p.op<=6/\0<=p.a/\p.a < 10000/\0<=p.b/\p.b < 10000):l.length<=700000000:=by
 have h1:=Qy 700000000 (l.map Pl.code) (MV hn (fun x hx y hy e=>by
  have h1:=h x hx;have h2:=h y hy;obtain⟨xo,xa,xb⟩:=x;obtain⟨yo,ya,yb⟩:=y;unfold Pl.code at e;simp only at h1 h2 e;have e1:xo=yo:=by omega
  have e2:xa=ya:=by omega
  have e3:xb=yb:=by omega
  rw[e1,e2,e3])) (fun x hx=>by
  obtain⟨p,hp,rfl⟩:=Y2.1 hx;have:=h p hp;unfold Pl.code;omega)
 simpa using h1
def SG (l:List Int):Prop:=l.Pairwise (· < ·)
theorem xI: ∀ {a b:List Int},SG a->SG b->(∀ x,x∈a↔x∈b)->a=b:=by
 intro a
 induction a with
 |nil=>
  intro b _ _ h;cases b with
  |nil=>rfl
  |cons y b=>exact absurd ((h y).2 (by simp)) (by simp)
 |cons x a ih=>
  intro b ha hb h;cases b with
  |nil=>exact absurd ((h x).1 (by simp)) (by simp)
  |cons y b=>
   obtain⟨h1,h2⟩:=List.pairwise_cons.1 ha;obtain⟨h3,h4⟩:=List.pairwise_cons.1 hb;have hxy:x=y:=by
    rcases ZO.1 ((h x).1 (by simp))with e|e
    .exact e
    .rcases ZO.1 ((h y).2 (by simp))with e'|e'
     .exact e'.symm
     .have:=h3 x e;have:=h1 y e';omega
   subst hxy;rw[ih h2 h4 (fun z=>?_)];have:=h z;simp only[ZO]at this;constructor
   .intro hz;rcases this.1 (.inr hz)with e|e
    .subst e;have:=h1 z hz;omega
    .exact e
   .intro hz;rcases this.2 (.inr hz)with e|e
    .subst e;have:=h3 z hz;omega
    .exact e
def JU (x:Int) (l:List Int):List Int:=
 l.takeWhile (· < x)++(if(l.dropWhile (· < x)).head? =some x then l.dropWhile (· < x)else x::l.dropWhile (· < x))
theorem take_drop (x:Int) (l:List Int):l.takeWhile (· < x)++l.dropWhile (· < x)=l:=List.takeWhile_append_dropWhile
theorem BM {x y:Int} {l:List Int} :y∈JU x l↔y=x\/y∈l:=by
 have h:=take_drop x l;unfold JU;split
 .next hh=>
  rw[h];constructor
  .exact .inr
  .rintro(rfl|h1)
   .have:=List.mem_of_mem_head? (Option.mem_def.2 hh);rw[<-h];exact Zr _ this
   .exact h1
 .rw[ZM,ZO];conv=>rhs;rw[<-h,ZM]
  constructor
  .rintro(h1|h1|h1)
   .exact .inr (.inl h1)
   .exact .inl h1
   .exact .inr (.inr h1)
  .rintro(h1|h1|h1)
   .exact .inr (.inl h1)
   .exact .inl h1
   .exact .inr (.inr h1)
theorem BK {x:Int} : ∀ {l:List Int} {y:Int},y∈l.takeWhile (· < x)->y < x:=by
 intro l
 induction l with
 |nil=>simp
 |cons z l ih=>
  intro y hy;rw[List.takeWhile_cons]at hy;split at hy
  .next hz=>
   rcases ZO.1 hy with rfl|hy
   .simpa using hz
   .exact ih hy
  .simp at hy
theorem JT {x:Int} : ∀ {l:List Int},SG l-> ∀ {y:Int},y∈l.dropWhile (· < x)->x<=y:=by
 intro l
 induction l with
 |nil=>simp
 |cons z l ih=>
  intro hr y hy;obtain⟨h1,h2⟩:=List.pairwise_cons.1 hr;rw[List.dropWhile_cons]at hy;split at hy
  .exact ih h2 hy
  .next hz=>
   have hz': ¬ z < x:=by simpa using hz
   rcases ZO.1 hy with rfl|hy
   .omega
   .have:=h1 y hy;omega
theorem EP {x:Int} {l:List Int} (h:SG l):SG (JU x l):=by
 have h':=h;unfold SG at h';rw[<-take_drop x l,List.pairwise_append]at h';obtain⟨h1,h2,h3⟩:=h';unfold JU SG;rw[List.pairwise_append];split
 .exact⟨h1,h2,h3⟩
 .next hh=>
  refine⟨h1,List.pairwise_cons.2 ⟨fun y hy=>?_,h2⟩,fun a ha b hb=>?_⟩
  .have:=JT h hy;by_cases e:y=x
   .exfalso;subst e;apply hh;cases hd:l.dropWhile (· < y)with
    |nil=>rw[hd]at hy;simp at hy
    |cons z r=>
     rw[hd]at hy h2;rcases ZO.1 hy with rfl|hy
     .rfl
     .have h4:=(List.pairwise_cons.1 h2).1 y hy;have h5:=JT (x:=y) h (y:=z) (by rw[hd];simp);omega
   .omega
  .rcases ZO.1 hb with rfl|hb
   .exact BK ha
   .exact h3 a ha b hb
def qL (l:List Int):List Int:=l.foldl (fun o x=>JU x o) []
theorem JS: ∀ (l o:List Int),SG o->SG (l.foldl (fun o x=>JU x o) o)/\ ∀ y,y∈l.foldl (fun o x=>JU x o) o↔y∈l\/y∈o:=by
 intro l
 induction l with
 |nil=>intro o h;exact⟨h,by simp⟩
 |cons x l ih=>
  intro o h;obtain⟨h1,h2⟩:=ih (JU x o) (EP h);refine⟨h1,fun y=>?_⟩;simp only[List.foldl_cons];rw[h2,BM,ZO];constructor
  .rintro(a|a|a)
   .exact .inl (.inr a)
   .exact .inl (.inl a)
   .exact .inr a
  .rintro((a|a) |a)
   .exact .inr (.inl a)
   .exact .inl a
   .exact .inr (.inr a)
theorem iW {l:List Int} {y:Int} :y∈qL l↔y∈l:=by rw[qL,(JS l [] List.Pairwise.nil).2];simp
end
end
section
section
noncomputable def LN (A:Tr) (F:List Pl):List Int:=((-2)::(List.range A.ls.length).map Int.ofNat).filter (fun x=> @decide (∃ p∈F,∃ m,Vp A.mv m p x) (Classical.propDecidable _))
theorem Ih (n:Nat):SG ((-2)::(List.range n).map Int.ofNat):=by
 unfold SG;rw[List.pairwise_cons];refine⟨fun y hy=>?_,?_⟩
 .obtain⟨u,_,rfl⟩:=Y2.1 hy;show -2 < (u:Int);omega
 .rw[List.pairwise_map];exact List.pairwise_lt_range.imp (fun h=>by simpa using h)
theorem EO {A:Tr} {F:List Pl} :SG (LN A F):=(Ih _).filter _
theorem Wf.rch {A:Tr} (W:Wf A): ∀ {m:Nat} {p:Pl} {x:Int},NY A p->Vp A.mv m p x->x= -2\/Ok x A.ls.length:=by
 intro m
 induction m with
 |zero=>
  intro p x hp hr;cases hr with
  |leaf h=>exact(W.mv hp).2 x h
 |succ m ih=>
  intro p x hp hr;cases hr with
  |step h1 h2=>exact ih ((W.mv hp).1 _ h1) h2
theorem Vd {A:Tr} (W:Wf A) {F:List Pl} (hF: ∀ p∈F,NY A p) {x:Int} :x∈LN A F↔ ∃ p∈F,∃ m,Vp A.mv m p x:=by
 unfold LN;rw[List.mem_filter];simp only[decide_eq_true_eq];refine⟨fun h=>h.2,fun h=>⟨?_,h⟩⟩;obtain⟨p,hp,m,hr⟩:=h;rcases W.rch (hF p hp) hr with rfl|hx
 .simp
 .obtain⟨u,rfl,hu⟩:=hx.cast;refine Z2 _ (Y2.2 ⟨u,List.mem_range.2 hu,rfl⟩)
theorem QY {A:Tr} (W:Wf A) {F:List Pl} (hF: ∀ p∈F,NY A p): ∀ x∈LN A F,x= -2\/Ok x A.ls.length:=by
 intro x hx;obtain⟨p,hp,m,hr⟩:=(Vd W hF).1 hx;exact W.rch (hF p hp) hr
theorem iV {A:Tr} {F:List Pl} :(LN A F).length<=A.ls.length+1:=by
 unfold LN;refine ZC (List.length_filter_le _ _) ?_;simp
noncomputable def xH (A:Tr) (i:Int) (v:Bool):List Int:=LN A (A.Nu i v)
noncomputable def qK (A:Tr):List Int:=LN A [⟨1,0,0⟩]
noncomputable def NW (A:Tr):Sy Int:=fun i=>if i= -2 then([],some (-2))else(xH A i true++xH A i false,some i)
theorem Wf.zero {A:Tr} (W:Wf A):NY A ⟨1,0,0⟩:=Ww ⟨by simp,by have:=W.one;simp;omega⟩
theorem fQ {A:Tr} (W:Wf A) (x:Int):(∃ y∈qK A,∃ m,Vp (NW A) m y x)↔Rd A x:=by
 have hz: ∀ p∈ [(⟨1,0,0⟩:Pl)],NY A p:=fun p hp=>by simp at hp;subst hp;exact W.zero
 constructor
 .rintro⟨y,hy,m,hr⟩;have h0:Rd A y:=by
   obtain⟨p,hp,k,hk⟩:=(Vd W hz).1 hy;simp at hp;subst hp;exact .first hk
  have hy':y= -2\/Ok y A.ls.length:=QY W hz y hy;clear hy
  induction hr with
  | @leaf p x h1=>
   unfold NW at h1;split at h1
   .next e=>simp at h1;subst h1;subst e;exact h0
   .simp at h1;subst h1;exact h0
  | @step p q x n h1 h2 ih=>
   unfold NW at h1;split at h1
   .simp at h1
   .next e=>
    have hp:Ok p A.ls.length:=hy'.elim (fun h=>absurd h e) id;obtain⟨u,rfl,hu⟩:=hp.cast;simp only[ZM]at h1;have key: ∀ v,q∈xH A (u:Int) v->Rd A q/\(q= -2\/Ok q A.ls.length):=by
     intro v hq;refine⟨?_,QY W (W.Nu hp v) q hq⟩;obtain⟨r,hr,k,hk⟩:=(Vd W (W.Nu hp v)).1 hq;exact .next h0 hr hk
    rcases h1 with h1|h1
    .exact ih (key _ h1).1 (key _ h1).2
    .exact ih (key _ h1).1 (key _ h1).2
 .intro h;have key: ∀ {x},Rd A x->(x= -2\/Ok x A.ls.length)/\ ∃ y∈qK A,∃ m,∀ z k,Vp (NW A) k x z->Vp (NW A) (k+m) y z:=by
   intro x h
   induction h with
   | @first m x h1=>
    have:x∈qK A:=(Vd W hz).2 ⟨_,by simp,m,h1⟩;exact⟨QY W hz x this,x,this,0,fun z k hk=>hk⟩
   | @next y x v p m h1 hp hr ih=>
    obtain⟨g1,y',hy',n,hn⟩:=ih;have hO:Ok (y:Int) A.ls.length:=g1.elim (fun h=>by omega) id;have hx:x∈xH A y v:=(Vd W (W.Nu hO v)).2 ⟨p,hp,m,hr⟩;refine⟨QY W (W.Nu hO v) x hx,y',hy',n+1,fun z k hk=>?_⟩;have:=hn z (k+1) (.step (by
     unfold NW;rw[if_neg (by omega)];simp only[ZM];cases v
     .exact .inr hx
     .exact .inl hx) hk)
    rw[show k+(n+1)=k+1+n by omega];exact this
  obtain⟨_,y,hy,m,hm⟩:=key h;refine⟨y,hy,0+m,hm x 0 (.leaf ?_)⟩;unfold NW;split
  .next e=>rw[e]
  .rfl
def Bk.Ns (k:Bk):List Int:=k.nodes.map fun n=>YS n.pos
def blk (G:List Bk):Sy Nat:=fun b=>match G[b]? with
 |none=>([],none)
 |some k=>match k.Ns.find? (· ≠ -1)with
  |some x=>([],some x)
  |none=>(k.succs,none)
end
end
end
section
section
def Qu (w:World) (lo:Nat) (e:TypeId) (size:Nat) (v:Value) (n:Nat) (xs:List Value):Prop:=
 xs.length=n*size/\((v=.slice none 0 0/\n=0)\/ ∃ g off cap cs,v=.slice (some ⟨g,off,none⟩) n cap/\lo<=g/\ZD w g cs e/\n<=cap/\cap<=maxLen/\off+cap*size<=cs.length/\(cs.drop off).take (n*size)=xs)
section
variable {w w':World} {lo:Nat} {e:TypeId} {size:Nat} {v:Value} {n:Nat} {xs:List Value}
theorem Qu.BJ (h:w.ownsRow lo e size v n xs):Qu w lo e size v n xs:=by
 refine⟨h.1,?_⟩;rcases h.2 with h1|⟨g,cap,cur,h1,h2,h3,h4,h5,h6,h7⟩
 .exact .inl h1
 .exact .inr ⟨g,0,cap,cur.toList,h1,h2,by unfold ZD;simpa using h3,h4,h5,by simp[h6],by simpa using h7⟩
theorem Qu.lt (h:Qu w lo e size v n xs): ∀ g,v.ownBlock=some g->lo<=g/\g < w.heap.size/\Zq w g e:=by
 intro g hg;rcases h.2 with⟨rfl,_⟩ |⟨k,off,cap,cs,rfl,h2,h3,_⟩
 .simp[Value.ownBlock]at hg
 .have:k=g:=by simpa [Value.ownBlock]using hg
  subst this;exact⟨h2,h3.lt,h3.ty⟩
theorem Qu.slice (h:Qu w lo e size v n xs): ∃ a c,v=.slice a n c:=by
 rcases h.2 with⟨rfl,rfl⟩ |⟨k,off,cap,cs,rfl,_⟩
 .exact⟨_,_,rfl⟩
 .exact⟨_,_,rfl⟩
theorem Qu.kept {row:Option Nat} (h:Qu w lo e size v n xs) (hg:w.grownBy w' row) (hne:v.ownBlock=none\/v.ownBlock≠row):Qu w' lo e size v n xs:=by
 refine⟨h.1,?_⟩;rcases h.2 with h1|⟨g,off,cap,cs,rfl,h2,h3,h4⟩
 .exact .inl h1
 .refine .inr ⟨g,off,cap,cs,rfl,h2,h3.grown hg ?_,h4⟩;rcases hne with h5|h5
  .simp[Value.ownBlock]at h5
  .exact h5
theorem Qu.low {B:Nat} (h:Qu w lo e size v n xs) (hb:Below B w w') (hB: ∀ g,v.ownBlock=some g->g < B):Qu w' lo e size v n xs:=by
 refine⟨h.1,?_⟩;rcases h.2 with h1|⟨g,off,cap,cs,rfl,h2,h3,h4⟩
 .exact .inl h1
 .refine .inr ⟨g,off,cap,cs,rfl,h2,?_,h4⟩;unfold ZD at*;rw[hb.block g (hB g rfl)];exact h3
theorem Qu.fr {T:List Nat} {B:Nat} (h:Qu w lo e size v n xs) (hf:Fr T B w w') (ht:e∉T):Qu w' lo e size v n xs:=by
 refine⟨h.1,?_⟩;rcases h.2 with h1|⟨g,off,cap,cs,rfl,h2,h3,h4⟩
 .exact .inl h1
 .exact .inr ⟨g,off,cap,cs,rfl,h2,h3.fr hf ht,h4⟩
theorem Qu.mono {lo':Nat} (h:Qu w lo e size v n xs) (hl:lo'<=lo):Qu w lo' e size v n xs:=
 ⟨h.1,h.2.imp id fun⟨g,off,cap,cs,h1,h2,h3⟩=>⟨g,off,cap,cs,h1,ZC hl h2,h3⟩⟩
theorem Qu.cells {g off cap:Nat} (h:Qu w lo e size (.slice (some ⟨g,off,none⟩) n cap) n xs) (j:Nat) (hj:j < n*size):w.cell? ⟨g,off+j,none⟩=xs[j]? :=by
 rcases h.2 with⟨h1,_⟩ |⟨k,off',cap',cs,h1,h2,h3,h4,h5,h6,h7⟩
 .simp at h1
 .simp only[Value.slice.injEq,Option.some.injEq,Addr.mk.injEq,and_true,true_and]at h1;obtain⟨⟨rfl,rfl⟩,rfl⟩:=h1;have hl:off+j < cs.length:=by
   have:n*size<=cap*size:=Nat.mul_le_mul_right _ h4;omega
  rw[h3.cell (off+j) (Z9 hl),<-h7,List.getElem?_take,if_pos hj,List.getElem?_drop,Z9 hl]
theorem Qu.Z9o (h:Qu w lo e size v (n+1) xs): ∃ g off cap,v=.slice (some ⟨g,off,none⟩) (n+1) cap/\n+1<=cap:=by
 rcases h.2 with⟨_,h0⟩ |⟨k,off,cap,cs,rfl,h2,h3,h4,_⟩
 .omega
 .exact⟨k,off,cap,rfl,h4⟩
theorem Qu.tail {g off cap:Nat} (h:Qu w lo e size (.slice (some ⟨g,off,none⟩) (n+1) cap) (n+1) xs) (hc:1 < cap):Qu w lo e size (.slice (some ⟨g,off+size,none⟩) n (cap -1)) n (xs.drop size):=by
 have hx:=h.1;rcases h.2 with⟨h1,_⟩ |⟨k,off',cap',cs,h1,h2,h3,h4,h5,h6,h7⟩
 .simp at h1
 .simp only[Value.slice.injEq,Option.some.injEq,Addr.mk.injEq,and_true,true_and]at h1;obtain⟨⟨rfl,rfl⟩,rfl⟩:=h1;have hm:cap*size=(cap -1)*size+size:=by
   rw[<-Nat.succ_mul];congr 1;omega
  refine⟨by rw[List.length_drop,hx,Nat.succ_mul];omega,.inr ⟨g,off+size,cap -1,cs,rfl,h2,h3,by omega,by omega,by omega,?_⟩⟩;rw[<-h7,List.drop_take,List.drop_drop,Nat.succ_mul];congr 1;omega
theorem Qu.last {g off:Nat} (h:Qu w lo e size (.slice (some ⟨g,off,none⟩) (n+1) 1) (n+1) xs):n=0/\Qu w lo e size (.slice (some ⟨g,off,none⟩) 0 0) 0 (xs.drop size):=by
 have hx:=h.1;rcases h.2 with⟨h1,_⟩ |⟨k,off',cap',cs,h1,h2,h3,h4,h5,h6,h7⟩
 .simp at h1
 .simp only[Value.slice.injEq,Option.some.injEq,Addr.mk.injEq,and_true,true_and]at h1;obtain⟨⟨rfl,rfl⟩,rfl⟩:=h1;have hn:n=0:=by omega
  subst hn;refine⟨rfl,by rw[List.length_drop,hx];omega,.inr ⟨g,off,0,cs,rfl,h2,h3,by omega,by omega,by omega,?_⟩⟩;rw[Nat.zero_mul,List.take_zero,List.drop_eq_nil_of_le (by omega)]
end
theorem BH: ∀ {ys cs:List Value} {o:Nat},o+ys.length<=cs.length->Xm cs o ys=cs.take o++ys++cs.drop (o+ys.length):=by
 intro ys
 induction ys with
 |nil=>intro cs o _;simp[Xm]
 |cons y ys ih=>
  intro cs o h;simp only[ZJ]at h;simp only[Xm];rw[ih (by simpa using by omega)];have h1:(cs.set o y).take (o+1)=cs.take o++ [y]:=by
   rw[List.take_add_one,List.take_set_of_le (by omega)];simp[List.getElem?_set,show o < cs.length by omega]
  have h2:(cs.set o y).drop (o+1+ys.length)=cs.drop (o+1+ys.length):=List.drop_set_of_lt (by omega);rw[h1,h2,ZJ,show o+(ys.length+1)=o+1+ys.length by omega];simp
theorem NU {w:World} {b:Nat} : ∀ {ys:List Value} {o:Nat} {w0:World},w0.grownBy w (some b)->w0.grownBy (w.setCells b o ys) (some b):=by
 intro ys
 induction ys generalizing w with
 |nil=>intro o w0 h;exact h
 |cons y ys ih=>
  intro o w0 h;refine ih ⟨h.os,h.tape,h.output,by simpa [World.setCell]using h.size,fun k hk hne=>?_⟩;rw[Below.heap_setCell _ _ _ _ (fun e=>hne (by rw[e]))];exact h.block k hk hne
theorem Nq {P:Program} {t ty:TypeId} {w:World} {lo:Nat} {e:TypeId} {z:Value} {size bytes:Nat} (ht:P.underlying t=some (.slice e)) (hinfo:(P.info? e).map (fun i=>(i.zero,i.size,i.bytes))=some (some z,size,bytes))
  (hzs:z.cells.size=size) (hsz:0 < size) (hby:bytes<=100) {v:Value} {n:Nat} {xs:List Value} (h:Qu w lo e size v n xs) {ad:Nat} {c:Nat} {ys:List Value} (hyl:ys.length=size) (hy: ∀ u∈ys,u.oneCell'=true)
  (hb:ZD w ad ys e) (hn:n<=1000000000000) (hlo:lo<=w.heap.size):
  ∃ a' c' w',(Builtin.append_ #[t,t] ty #[v,.slice (some ⟨ad,0,none⟩) 1 c]).run P w=.ok (.slice a' (n+1) c') w'/\Qu w' lo e size (.slice a' (n+1) c') (n+1) (xs++ys)/\w.grownBy w' v.ownBlock/\
   ((Value.slice a' (n+1) c').ownBlock=v.ownBlock\/ ∃ g,(Value.slice a' (n+1) c').ownBlock=some g/\w.heap.size<=g):=by
 obtain⟨i,hi,hz,hs,hbt⟩:=info_parts hinfo;have hnews: ∀ j u,ys[j]? =some u->w.cell? ((⟨ad,0,none⟩:Addr).add j)=some u:=by
  intro j u hu;rw[Addr.add_lit,YR];exact hb.cell j hu
 have hxl:=h.1;have hbytes:(n+1)*bytes<=140737488355328:=by
  have:(n+1)*bytes<=1000000000001*100:=Nat.mul_le_mul (by omega) hby;omega
 have grow: ∀ b cap,(∀ j u,xs[j]? =some u->w.cell? (Addr.add b j)=some u)->cap < n+1->v=.slice (some b) n cap-> ∃ a' c' w',(Builtin.append_ #[t,t] ty #[v,.slice (some ⟨ad,0,none⟩) 1 c]).run P w=.ok (.slice a' (n+1) c') w'/\Qu w' lo e size (.slice a' (n+1) c') (n+1) (xs++ys)/\w.grownBy w' v.ownBlock/\
   ((Value.slice a' (n+1) c').ownBlock=v.ownBlock\/ ∃ g,(Value.slice a' (n+1) c').ownBlock=some g/\w.heap.size<=g):=by
  intro b cap holds hcap hv;obtain⟨v',w',h1,h2,h3⟩:=run_append_arg_grows (P:=P) w t ty e i z size bytes ht hi hz hs hbt hzs hsz b n cap xs hxl holds ⟨ad,0,none⟩ 1 c ys (by rw[hyl,Nat.one_mul]) hnews hcap (by unfold maxLen;omega) hbytes;obtain⟨a',c',rfl⟩:=ZR h2;subst hv;refine⟨a',c',w',h1,(Qu.BJ h2).mono hlo,⟨h3.os,h3.tape,h3.output,h3.size,fun k hk _=>h3.block k hk (by simp)⟩,.inr ?_⟩;rcases h2.2 with⟨h4,h5⟩ |⟨g,cap',cur,h4,h5,_⟩
  .omega
  .rw[h4];exact⟨g,rfl,h5⟩
 rcases h.2 with⟨rfl,rfl⟩ |⟨g,off,cap,cs,rfl,h2,h3,h4,h5,h6,h7⟩
 .have hx0:xs= []:=List.eq_nil_of_length_eq_zero (by simpa using hxl);subst hx0;have hr:=run_append_nil (P:=P) w t ty e i z ht hi hz ⟨ad,0,none⟩ 1 c ys (by rw[hs,hyl,Nat.one_mul]) hnews (by omega) (by omega) (by rw[hbt];omega);have hge:=grownCap_ge w 1 0 e;have hcm:grownCap w 1 0 e<=maxLen:=grownCap_le_maxLen w 1 0 e (by unfold maxLen;omega);refine⟨_,_,_,hr,Qu.BJ ⟨by simp[hyl],.inr ⟨w.heap.size,_,_,rfl,hlo,heap_alloc_new w.drew _,hge,hcm,?_,?_⟩⟩,⟨rfl,rfl,rfl,by simp,fun k hk _=>Below.heap_alloc w.drew _ k hk⟩,.inr ⟨w.heap.size,rfl,Z7 _⟩⟩
  .simp only[Array.size_append,List.size_toArray,size_zeroCells,hzs,hyl];have:grownCap w 1 0 e*size=(grownCap w 1 0 e -1)*size+size:=by
    rw[<-Nat.succ_mul];congr 1;omega
   omega
  .simp only[Array.toList_append,List.nil_append,YR,Nat.one_mul];rw[<-hyl];exact List.take_left
 .have holds: ∀ j u,xs[j]? =some u->w.cell? (Addr.add ⟨g,off,none⟩ j)=some u:=by
   intro j u hu;rw[Addr.add_lit];have hj:=ZH hu;rw[h.cells j (by omega)];exact hu
  by_cases hroom:n+1<=cap
  .have hm:(n+1)*size<=cap*size:=Nat.mul_le_mul_right _ hroom;rw[Nat.succ_mul]at hm;have hr:=run_append_room_cells (P:=P) w t ty e i ht hi g off n cap ⟨ad,0,none⟩ 1 c ys (by rw[hs,hyl,Nat.one_mul]) hnews hy hroom (fun j hj=>by
    rw[hs,h3.cell (off+n*size+j) (Z9 (by omega))];rfl) (fun j _=>h3.free _)
   rw[hs]at hr;have hb':=h3.Xm (o:=off+n*size) (ys:=ys);rw[BH (by omega)]at hb';refine⟨_,_,_,hr,⟨by rw[Z4,hxl,hyl,Nat.succ_mul],.inr ⟨g,off,cap,_,rfl,h2,hb',hroom,h5,by simp;omega,?_⟩⟩,NU ⟨rfl,rfl,rfl,Z7 _,fun _ _ _=>rfl⟩,.inl rfl⟩;rw[ZI,List.drop_append_of_le_length (by simp;omega),Nat.succ_mul,<-ZI,<-List.drop_append_of_le_length (by simp;omega)];rw[List.drop_append_of_le_length (by simp;omega),List.take_append_of_le_length (by simp;omega)];have e1:(cs.take (off+n*size)).drop off=xs:=by
    rw[List.drop_take,show off+n*size -off=n*size by omega];exact h7
   rw[e1,List.take_of_length_le (by simp;omega)]
  .exact grow ⟨g,off,none⟩ cap holds (by omega) rfl
theorem Ig {P:Program} {ops:Array Oper} {rest:List Oper} {o:Oper} {a:Act} {Q:Exit->Act->World->Prop} (w:World) (hgd:o.guard=none) (s x:Operand) (t:TypeId)
  (ho:o.op=.call { callee:=.builtin .append,args:= #[s,x],argTypes:= #[t,t] }) (lo:Nat) (e:TypeId) (z:Value) (size bytes:Nat) (ht:P.underlying t=some (.slice e))
  (hinfo:(P.info? e).map (fun i=>(i.zero,i.size,i.bytes))=some (some z,size,bytes)) (hzs:z.cells.size=size) (hsz:0 < size) (hby:bytes<=100)
  {v:Value} {n:Nat} {xs:List Value} (hq:Qu w lo e size v n xs) (hs:a.eval s=v) (ys:List Value) (hyl:ys.length=size) (hy: ∀ u∈ys,u.oneCell'=true)
  (hx:a.eval x=.slice (some ⟨w.heap.size,0,none⟩) 1 1) (hn:n<=1000000000000) (hlo:lo<=w.heap.size)
  (h: ∀ a' c' w',Qu w' lo e size (.slice a' (n+1) c') (n+1) (xs++ys)->w.grownBy w' v.ownBlock->((Value.slice a' (n+1) c').ownBlock=v.ownBlock\/ ∃ g,(Value.slice a' (n+1) c').ownBlock=some g/\w.heap.size<=g)->
   wpList P ops Q rest (a.put o.dst (.slice a' (n+1) c')) w'):wpList P ops Q (o::rest) a (w.alloc (.cells ys.toArray e)):=by
 refine wpList_plain hgd fun K hK'=>?_;have hg0:w.grownBy (w.alloc (.cells ys.toArray e)) v.ownBlock:=World.grownBy_alloc _ _ _;have hq':Qu (w.alloc (.cells ys.toArray e)) lo e size v n xs:=hq.low ((ZN w.heap.size w).alloc (Z7 _) _) (fun g hg=>(hq.lt g hg).2.1);obtain⟨a',c',w',hrun,h1,h2,h3⟩:=Nq (P:=P) (t:=t) (ty:=o.type) ht hinfo hzs hsz hby hq' hyl hy (ZD.new w ys e) (c:=1) hn (by simp;omega);unfold Oper.wp;simp[execOp,ho,resolve,invoke,builtin,hs,hx,hrun,Result.andThen];refine hK' _ _ (h a' c' w' h1 ⟨h2.os,h2.tape,h2.output,by have:=h2.size;simp at this;omega,fun k hk hne=>?_⟩ (h3.imp id fun⟨g,g1,g2⟩=>⟨g,g1,by simp at g2;omega⟩));rw[h2.block k (by simp;omega) hne,Below.heap_alloc _ _ _ hk]
end
section
def AtS (ps:List Pc) (x:Int) (q:Nat × Nat):Prop:= ∃ p,ps[q.1]? =some p/\p.leaves[q.2]? =some x
def Few (ps:List Pc):Prop:=ps.length<=100000/\ ∀ (i:Nat) p,ps[i]? =some p->p.leaves.length<=100000
theorem Qu.any {w:World} {lo e size n:Nat} {v:Value} {xs:List Value} (h:Qu w lo e size v n xs): ∃ a c,v=.slice a n c:=h.slice
theorem AtS.here {ps:List Pc} {x:Int} {k j:Nat} {P:Pc} (hP:ps[k]? =some P) {y:Int} (hy:P.leaves[j]? =some y):AtS ps x (k,j)↔y=x:=by
 unfold AtS;constructor
 .rintro⟨p,h1,h2⟩;rw[hP]at h1;cases h1;rw[hy]at h2;exact Y0 h2
 .rintro rfl;exact⟨P,hP,hy⟩
end
end
section
def QW (w:World) (lo p:Nat) (A:Tr):Prop:= ∃ num lv nv rv NR RR,Wi w lo p A num true lv nv rv NR RR
theorem QW.low {w w':World} {lo p:Nat} {A:Tr} (h:QW w lo p A) (hb:Below w.heap.size w w'):QW w' lo p A:=let⟨n,l,v,r,N,R,M⟩:=h;⟨n,l,v,r,N,R,M.low hb⟩
section
variable {w w':World} {lo p:Nat} {A:Tr} {num:Int} {rt:Bool} {lv nv rv:Value} {NR RR:List (List Value)}
theorem Wi.iM (M:Wi w lo p A num rt lv nv rv NR RR) (hn:0 < A.ls.length): ∃ g cap,lv=.slice (some ⟨g,0,none⟩) A.ls.length cap:=XM M.t.l hn
theorem Wi.lf3 {g cap:Nat} (M:Wi w lo p A num rt (.slice (some ⟨g,0,none⟩) A.ls.length cap) nv rv NR RR) {m:Nat} (hm:m < A.ls.length):w.cell? ⟨g,m*3,none⟩=some (.int .i64 (A.lf m).of)/\w.cell? ⟨g,m*3+1,none⟩=some (.int .i64 (A.lf m).what)/\w.cell? ⟨g,m*3+2,none⟩=some (.int .i64 (A.lf m).index):=
 ⟨M.lf hm 0 _ rfl,M.lf hm 1 _ rfl,M.lf hm 2 _ rfl⟩
def Ie (P:Program) (ops:Array Oper) (S:World->Prop) (K:Act->Prop) (s:Nat):Nat->Nat->Act->Prop
 |0,_,a=>K a
 |k+1,i,a=> ∃ (oi:Oper) (v:Value),ops[i]? =some oi/\oi.dst=some (s+i)/\YieldsIf P ops S oi v a/\Ie P ops S K s k (i+1) (a.put (some (s+i)) v)
def Gd (md:Region.Mode) (ops:Array Oper):Nat->Nat->Array Bool->Bool
 |0,_,_=>true
 |k+1,i,l=>Region.free md ops l i&&(Region.ready md ops l).contains i&&Gd md ops k (i+1) (l.setIfInBounds i true)
def iL:Nat->Nat->Array Bool->Array Bool
 |0,_,l=>l
 |k+1,i,l=>iL k (i+1) (l.setIfInBounds i true)
theorem EN {P:Program} {ops:Array Oper} {S:World->Prop} {K K':Act->Prop} {s:Nat} (h: ∀ a,K a->K' a): ∀ (k i:Nat) (a:Act),Ie P ops S K s k i a->Ie P ops S K' s k i a:=by
 intro k
 induction k with
 |zero=>intro i a g;exact h a g
 |succ k ih=>intro i a ⟨oi,v,h1,hd,h2,h3⟩;exact⟨oi,v,h1,hd,h2,ih _ _ h3⟩
theorem BE {P:Program} {md:Region.Mode} {ops:Array Oper} {Q:Exit->Act->World->Prop} {S:World->Prop} {w:World} {fuel s:Nat} (hs:Region.noSelect ops=true) (hQ: ∀ d v c a w,Q (.panic c) (Act.put a d v) w->Q (.panic c) a w) (hS:S w):
  ∀ (k i:Nat) (listed:Array Bool) (a:Act),Gd md ops k i listed=true->Ie P ops S (fun a'=>wpAnyH P md ops Q S fuel (iL k i listed) a' w) s k i a->wpAnyH P md ops Q S (fuel+k) listed a w:=by
 intro k
 induction k with
 |zero=>intro i l a _ h;exact h
 |succ k ih=>
  intro i l a ho h;obtain⟨oi,v,h1,hd,h2,h3⟩:=h;rw[<-hd]at h3;simp only[Gd,Bool.and_eq_true]at ho;exact wpAnyH_take h1 hs ho.1.1 ho.1.2 (fun c a w=>hQ oi.dst v c a w) h2 hS (ih (i+1) _ _ ho.2 h3)
theorem EM {P:Program} {md:Region.Mode} {ops:Array Oper} {Q:Exit->Act->World->Prop} {W:World} (i j k:Nat) {fuel:Nat} {listed:Array Bool} {a:Act} {w:World} (ty:TypeId) (zs ys:List Value) {oi oj:Oper} {x y:Operand}
  (hi:ops[i]? =some oi) (hoi:oi.op=.alloc ty) (hgi:oi.guard=none) (hdi:oi.dst=some k) (hj:ops[j]? =some oj) (hoj:oj.op=.store ty x y) (hgj:oj.guard=none) (hdj:oj.dst=none) (hW:Below W.heap.size W w)
  (hal: ∀ w:World,(Instr.alloc ty true (.tuple #[])).run P w=.ok (.pointer (some ⟨w.heap.size,0,none⟩)) (w.alloc (.cells zs.toArray ty)))
  (hx:(a.put (some k) (.pointer (some ⟨w.heap.size,0,none⟩))).eval x=.pointer (some ⟨w.heap.size,0,none⟩)) (hy:(a.put (some k) (.pointer (some ⟨w.heap.size,0,none⟩))).eval y=.agg ys.toArray) (hl:ys.length=zs.length) (hsz:(P.info? ty).map (·.size)=some ys.length) (h1: ∀ v∈ys,v.oneCell'=true)
  (h: ∀ w',ZD w' w.heap.size ys ty->Below w.heap.size w w'->Q .normal (a.put (some k) (.pointer (some ⟨w.heap.size,0,none⟩))) w')
  (r1:Region.ready md ops listed= [i]:=by kernel_rfl) (r2:Region.ready md ops (listed.setIfInBounds i true)= [j]:=by kernel_rfl) (r3:Region.ready md ops ((listed.setIfInBounds i true).setIfInBounds j true)= []:=by kernel_rfl):
  wpAnyH P md ops Q (Below W.heap.size W) (fuel+2) listed a w:=by
 refine wpAnyH_all r1 (by simp) ?_;intro q hq;obtain rfl:q=i:=by simpa using hq
 unfold wpOp;simp only[hi];have hw:Region.wanted oi (yielded ops a.tmps)=true:=by simp[Region.wanted,hgi]
 rw[if_pos hw];refine .inl ?_;have hs:=hW.size;have hgo:=XV (P:=P) (ops:=ops) (o:=oi) (a:=a) (w:=w) (Q:=Q) (E:=True) (K:=fun a' w'=>Below W.heap.size W w'/\wpAnyH P md ops Q (Below W.heap.size W) (fuel+1) (listed.setIfInBounds q true) a' w') hgi ty hoi zs (hal w) (fun w1 hb hf _=>by
  have hWs:Below W.heap.size W w1:=hW.trans (hf.below.mono hs);refine⟨hWs,?_⟩;rw[hdi];refine wpAnyH_all r2 (by simp) ?_;intro q' hq';obtain rfl:q'=j:=by simpa using hq'
  unfold wpOp;simp only[hj];have hw2:Region.wanted oj (yielded ops (a.put (some k) (.pointer (some ⟨w.heap.size,0,none⟩))).tmps)=true:=by simp[Region.wanted,hgj]
  rw[if_pos hw2];refine .inl ?_;have hg2:=Yc (P:=P) (ops:=ops) (o:=oj) (a:=a.put (some k) (.pointer (some ⟨w.heap.size,0,none⟩))) (w:=w1) (Q:=Q) (E:=True) (K:=fun a' w'=>Below W.heap.size W w'/\wpAnyH P md ops Q (Below W.heap.size W) fuel ((listed.setIfInBounds q true).setIfInBounds q' true) a' w') hgj ty x y hoj hx hb ys hy hl hsz h1 (fun w2 hb2 _ hf2=>by
   have hf3:Below w.heap.size w w2:=hf.below.trans (hf2 w.heap.size (Z7 _)).below;refine⟨hW.trans (hf3.mono hs),?_⟩;rw[hdj];exact wpAnyH_done r3 (h w2 hb2 hf3) fuel)
  rw[if_pos hw2]at hg2;exact hg2)
 rw[if_pos hw]at hgo;exact hgo
theorem Qe {P:Program} {id:Nat} {ops:Array Oper} {Q:Exit->Act->World->Prop} {W:World} (n k s:Nat) {a:Act} (ty:TypeId) (zs ys:List Value) {oi oj:Oper} {x y:Operand}
  (hQ: ∀ d v c a w,Q (.panic c) (Act.put a d v) w->Q (.panic c) a w) (hi:ops[n]? =some oi) (hoi:oi.op=.alloc ty) (hgi:oi.guard=none) (hdi:oi.dst=some k) (hj:ops[n+1]? =some oj) (hoj:oj.op=.store ty x y) (hgj:oj.guard=none) (hdj:oj.dst=none)
  (hal: ∀ w:World,(Instr.alloc ty true (.tuple #[])).run P w=.ok (.pointer (some ⟨w.heap.size,0,none⟩)) (w.alloc (.cells zs.toArray ty))) (hl:ys.length=zs.length) (hsz:(P.info? ty).map (·.size)=some ys.length) (h1: ∀ v∈ys,v.oneCell'=true)
  (h:Ie P ops (Below W.heap.size W) (fun a'=>(a'.put (some k) (.pointer (some ⟨W.heap.size,0,none⟩))).eval x=.pointer (some ⟨W.heap.size,0,none⟩)/\(a'.put (some k) (.pointer (some ⟨W.heap.size,0,none⟩))).eval y=.agg ys.toArray/\ ∀ w',ZD w' W.heap.size ys ty->Below W.heap.size W w'->Q .normal (a'.put (some k) (.pointer (some ⟨W.heap.size,0,none⟩))) w') s n 0 a)
  (hm:P.follows .mixedOrders=true:=by kernel_rfl) (hz:ops.size=n+2:=by rfl) (hns:Region.noSelect ops=true:=by kernel_rfl) (hok:Gd .any ops n 0 (Array.replicate (n+2) false)=true:=by kernel_rfl) (r1:Region.ready .any ops (iL n 0 (Array.replicate (n+2) false))= [n]:=by kernel_rfl)
  (r2:Region.ready .any ops ((iL n 0 (Array.replicate (n+2) false)).setIfInBounds n true)= [n+1]:=by kernel_rfl) (r3:Region.ready .any ops (((iL n 0 (Array.replicate (n+2) false)).setIfInBounds n true).setIfInBounds (n+1) true)= []:=by kernel_rfl):(Code.region id ops true).wp P Q a W:=by
 refine wp_region_held (S:=Below W.heap.size W) hm ?_;rw[hz,show n+2=2+n from Zv _ _];rw[show n+2=2+n from Zv _ _]at hok r1 r2 r3;have hS0:Below W.heap.size W W.drew:=(ZN _ _).drew;refine BE hns hQ hS0 n 0 _ a hok (EN ?_ n 0 a h);rintro a' ⟨h2,h3,h4⟩;exact EM (w:=W.drew) n (n+1) k ty zs ys hi hoi hgi hdi hj hoj hgj hdj hS0 hal h2 h3 hl hsz h1 (fun w' b1 b2=>h4 w' b1 (hS0.trans b2)) r1 r2 r3
theorem rJ.one {g m:Nat} {X:Nd} {vb ve vc cv tv ov:Value} (h:rJ w lo g m X vb ve vc cv tv ov):vb.oneCell'=true/\ve.oneCell'=true/\vc.oneCell'=true/\cv.oneCell'=true/\tv.oneCell'=true/\ov.oneCell'=true:=by
 obtain⟨b0,b1,b2,rfl⟩:=h.vb;obtain⟨e0,e1,e2,rfl⟩:=h.ve;obtain⟨c0,c1,c2,rfl⟩:=h.vc;obtain⟨v0,v2,rfl⟩:=ZR h.cv;obtain⟨t0,t2,rfl⟩:=ZR h.tv;obtain⟨o0,o2,rfl⟩:=ZR h.ov;exact⟨rfl,rfl,rfl,rfl,rfl,rfl⟩
theorem BD {g m:Nat} {X:Nd} {vb ve vc cv tv ov:Value} (h:rJ w lo g m X vb ve vc cv tv ov):w.rangeAt g (m*24) (ZQ X vb ve vc cv tv ov):=fun j u hu=>h.cell j u hu
theorem qH (X:Nd) (vb ve vc cv tv ov:Value) (h:vb.oneCell'=true/\ve.oneCell'=true/\vc.oneCell'=true/\cv.oneCell'=true/\tv.oneCell'=true/\ov.oneCell'=true): ∀ v∈ZQ X vb ve vc cv tv ov,v.oneCell'=true:=by
 obtain⟨h1,h2,h3,h4,h5,h6⟩:=h;intro v hv;simp only[ZQ,ZO,List.not_mem_nil,or_false]at hv;rcases hv with rfl|rfl|rfl|rfl|rfl|rfl|rfl|rfl|rfl|rfl|rfl|rfl|rfl|rfl|rfl|rfl|rfl|rfl|rfl|rfl|rfl|rfl|rfl|rfl<;>first|rfl|assumption
theorem Wk:(prog.info? 79).map (·.size)=some 24:=by kernel_rfl
end
end
section
structure RB (t:T) (A:Tr) (S S3:BS) (c:Nat) (X:Cx):Prop where
 fin:Fin t S S3 c
 sem:Sem t A S c X
 wf:Wf A
 rt:Rt t
 len:A.ls.length=t.lv false
 tr: ∃ tg,A=t.tr tg/\t.Xv true/\t.fA
theorem iO {t:T} {tg:List Int} (hf:t.fA) (hs:t.Xv true) (hw:t.Xc 0<=300) (R:Wn (t.tr tg)) (TG:gm (t.tr tg)): ∃ S S3 c X,RB t (t.tr tg) S S3 c X:=by
 have hr:=(jH hs hf hw R).1;obtain⟨S,S3,c,F⟩:=yY hr;obtain⟨X,hX⟩:=xJ rfl hr hf R ⟨TG.around,TG.jump,TG.fall⟩ F (KY _);exact⟨S,S3,c,X,F,hX,jC (CB hs hf) R TG,hr,((Qg t).1 hs hf 0 1 0 0 0 0).1,tg,rfl,hs,hf⟩
def BS.sP (S3:BS):List Pc:=S3.Z6.mapIdx Bk.pc
theorem RB.few {t:T} {A:Tr} {S S3:BS} {c:Nat} {X:Cx} (h:RB t A S S3 c X):Few S3.sP/\0 < S3.sP.length:=by
 obtain⟨f1,f2,f3,f4⟩:=h.fin.fine (ZC h.rt.wt (by decide));refine⟨⟨by simpa [BS.sP]using f2,fun i p hp=>?_⟩,by simpa [BS.sP]using f3⟩;obtain⟨k,hk,rfl⟩:=Dd hp;simpa [Bk.pc]using(f1 i k hk).2.2.1
theorem Src.sl {w:World} {t:T} {v:Value} (h:Src w t v): ∃ a n c,v=.slice a n c:=by
 obtain⟨bb,o,hs,_⟩:=h.data;obtain⟨⟨a,n,c,rfl⟩,_⟩:=Za hs;exact⟨a,n,c,rfl⟩
def iN (t:T) (W:World) (e:Ending) (w':World):Prop:= ∃ p rt lo,e=.returned (.pointer (some ⟨p,0,none⟩))/\w'.cell? ⟨p,4,none⟩=some (.bool rt)/\Below W.heap.size W w'/\(rt=true-> ∃ A S S3 c X,RB t A S S3 c X/\QW w' lo p A)
theorem readB {t:T} (hl:t.lim) {w:World} {v:Value} (h:Src w t v):Calls prog 29 #[v] w (iN t w):=(Cg hl h).mono (by
 rintro e w' ⟨p,rt,lo,h1,h2,_,h3,_,h4⟩;refine⟨p,rt,lo,h1,h3,h2,fun hr=>?_⟩;obtain⟨hf,hs,hw,tg,num,lv,nv,rv,NR,RR,M,hR,hT⟩:=h4 hr;obtain⟨S,S3,c,X,hB⟩:=iO hf hs hw hR hT;exact⟨_,S,S3,c,X,hB,num,lv,nv,rv,NR,RR,M⟩)
section
variable {w w':World} {lo p:Nat} {A:Tr} {num:Int} {rt:Bool} {lv nv rv:Value} {NR RR:List (List Value)}
theorem If (M:QW w lo p A):Calls prog 32 #[p] w fun e w'=>e=.returned (.int .i64 A.ls.length)/\w=w':=by
 obtain⟨_,_,_,_,_,_,M⟩:=M;obtain⟨a,cap,rfl⟩:=M.Ns;have q0:=M.t.blk.cell 0 rfl;go_enter func32,ntmps32;go_wp2_with fail
 go_ret;exact⟨rfl,rfl⟩
theorem BF (M:QW w lo p A) (W:Wf A) {n:Nat} (hn:n < A.ls.length):Calls prog 33 #[p,.int .i64 n] w fun e w'=>e=.returned (.int .i64 (A.Yh n))/\Below w.heap.size w w':=by
 obtain⟨_,_,_,_,_,_,M⟩:=M;obtain⟨gl,Z9m,rfl⟩:=M.iM (by omega);have hok:Ok (n:Int) A.ls.length:=⟨by omega,by omega⟩
 have hlf:=W.lf hok;obtain⟨m,hm,hml⟩:=hlf.of.cast;obtain⟨g,cap,rfl⟩:=M.Kd (by omega);obtain⟨_,_,_,_,_,_,hX⟩:=M.nd hml;obtain⟨d0,_,_,_,_,_,_,_,_,_,_,_,_,_,_,_,_,_,_,_,_,_,_,_⟩:=hX.all;dsimp only at d0;obtain⟨l0,l1,_⟩:=M.lf3 hn;rw[hm]at l0;have q0:=M.t.blk.cell 0 rfl;have q1:=M.t.blk.cell 1 rfl;have hnb:=M.b;unfold Tr.Yh Tr.kd;rw[hm];generalize(A.lf n).what=wh at*;generalize(A.nd m).h.kind=kd at*;have hm:=Z5 hm;clear hX hlf hok M;go_enter func33,ntmps33;by_cases h1:wh=1
 .subst h1;go_wp2_with fail
  go_quiet (fail)
  go_wp2_with fail
  go_ret;exact⟨rfl,YE (ZN _ _) _⟩
 .have hq:(wh==1)=false:=by simpa using h1
  have hne:=Z5 h1;go_wp2_with fail
  go_ret;exact⟨by simp[hne.out],ZN _ _⟩
end
end
section
def Bg (n:Nat) (f:Nat->Bool):List Value:=(List.range n).map fun i=>.bool (f i)
theorem Gc (n:Nat) (f:Nat->Bool):(Bg n f).length=n:=by simp[Bg]
theorem LM {n i:Nat} {f:Nat->Bool} (h:i < n):(Bg n f)[i]? =some (.bool (f i)):=by simp[Bg,h]
theorem fL {n c:Nat} {f:Nat->Bool} (h:c < n):(Bg n f).set c (.bool true)=Bg n (fun i=>f i||i==c):=by
 apply List.ext_getElem?;intro i;rw[List.getElem?_set];by_cases hi:i < n
 .rw[LM hi];by_cases hc:c=i
  .subst hc;rw[if_pos rfl,Gc,if_pos hi,LM hi];simp
  .rw[if_neg hc,LM hi];have:(i==c)=false:=by simpa using fun e=>hc e.symm
   rw[this,Bool.or_false]
 .have h1:n<=i:=by omega
  have h2: ∀ g,(Bg n g)[i]? =none:=fun g=>Y6 (by rw[Gc];exact h1);rw[h2,if_neg (by omega),h2]
theorem Z7N {w:World} {lo e size n:Nat} {v:Value} {xs:List Value} (h:Qu w lo e size v n xs) {b t:Nat} (hb:Zq w b t) (hne:t≠e):some b≠v.ownBlock:=fun e'=>hne (Zq.inj hb (h.lt b e'.symm).2.2)
theorem Z9k:(prog.info? 4).map (fun i=>(i.zero,i.size,i.bytes))=some (some (.bool false),1,1):=by kernel_rfl
theorem Z9j:(prog.info? 3).map (fun i=>(i.zero,i.size,i.bytes))=some (some (.int .i64 0),1,8):=by kernel_rfl
theorem qG (n:Nat):(List.replicate n (.bool false):List Value)=Bg n (fun _=>false):=by
 unfold Bg;rw[List.map_const',Zf]
end
section
section
theorem EL {P:Program} {ops:Array Oper} {Q:Exit->Act->World->Prop} {S:World->Prop} {K:Act->Prop} {w:World} {s:Nat} (hS:S w): ∀ (k i:Nat) (a:Act),Ie P ops S K s k i a->(∀ a',K a'->wpList P ops Q (ops.toList.drop (i+k)) a' w)->wpList P ops Q (ops.toList.drop i) a w:=by
 intro k
 induction k with
 |zero=>intro i a h hK;exact hK a h
 |succ k ih=>
  intro i a h hK;obtain⟨oi,v,h1,hd,h2,h3⟩:=h;have hd':ops.toList.drop i=oi::ops.toList.drop (i+1):=by
   have h1':ops.toList[i]? =some oi:=by simpa using h1
   obtain⟨hl,he⟩:=Z1.1 h1';rw[<-he];exact List.drop_eq_getElem_cons hl
  rw[hd'];have ih':=ih (i+1) _ h3 (fun a' ha=>by rw[show i+1+k=i+(k+1)by omega];exact hK a' ha);rw[<-hd]at ih';unfold wpList;rcases h2 with⟨hw,hv⟩ |⟨hw,rfl⟩
  .rw[if_pos hw];refine .inl ?_;unfold Oper.wp;rw[hv w hS];exact ih'
  .rw[if_neg (by rw[hw];simp)];exact ih'
theorem Tj {P:Program} {id:Nat} {ops:Array Oper} {Q:Exit->Act->World->Prop} {W:World} (n k s:Nat) {a:Act} (ty:TypeId) (zs ys:List Value) {oi oj:Oper} {x y:Operand}
  (hi:ops[n]? =some oi) (hoi:oi.op=.alloc ty) (hgi:oi.guard=none) (hdi:oi.dst=some k) (hj:ops[n+1]? =some oj) (hoj:oj.op=.store ty x y) (hgj:oj.guard=none) (hdj:oj.dst=none)
  (hal: ∀ w:World,(Instr.alloc ty true (.tuple #[])).run P w=.ok (.pointer (some ⟨w.heap.size,0,none⟩)) (w.alloc (.cells zs.toArray ty))) (hl:ys.length=zs.length) (hsz:(P.info? ty).map (·.size)=some ys.length) (h1: ∀ v∈ys,v.oneCell'=true)
  (h:Ie P ops (Below W.heap.size W) (fun a'=>(a'.put (some k) (.pointer (some ⟨W.heap.size,0,none⟩))).eval x=.pointer (some ⟨W.heap.size,0,none⟩)/\(a'.put (some k) (.pointer (some ⟨W.heap.size,0,none⟩))).eval y=.agg ys.toArray/\ ∀ w',ZD w' W.heap.size ys ty->Below W.heap.size W w'->Q .normal (a'.put (some k) (.pointer (some ⟨W.heap.size,0,none⟩))) w') s n 0 a)
  (hz:ops.size=n+2:=by rfl):(Code.region id ops false).wp P Q a W:=by
 have e:ops=ops.toList.toArray:=by simp
 rw[e];refine wp_region_lit ?_;rw[<-e];refine EL (ZN _ _) n 0 a h ?_;rintro a' ⟨h2,h3,h4⟩;have hi':ops.toList[n]? =some oi:=by simpa using hi
 have hj':ops.toList[n+1]? =some oj:=by simpa using hj
 have hd:ops.toList.drop (0+n)= [oi,oj]:=by
  rw[YR];obtain⟨l1,e1⟩:=Z1.1 hi';obtain⟨l2,e2⟩:=Z1.1 hj';rw[List.drop_eq_getElem_cons l1,List.drop_eq_getElem_cons l2,e1,e2,List.drop_eq_nil_of_le (by simp;omega)]
 rw[hd];refine XU hgi ty hoi zs (hal W) ?_;intro w1 hb1 hf1;rw[hdi];refine XT hgj ty x y hoj h2 hb1 ys h3 hl hsz h1 ?_;intro w2 hb2 hf2;rw[hdj];exact h4 w2 hb2 (hf1.trans hf2)
def Np (p:Pl):Value:=.agg #[.int .i64 p.op,.int .i64 p.a,.int .i64 p.b]
theorem QX (w:World):Below w.heap.size w (w.alloc (.cells [.int .i64 0,.int .i64 0,.int .i64 0].toArray 118))/\ZD (w.alloc (.cells [.int .i64 0,.int .i64 0,.int .i64 0].toArray 118)) w.heap.size [.int .i64 0,.int .i64 0,.int .i64 0] 118:=⟨(ZN _ _).alloc (Z7 _) _,ZD.new w _ 118⟩
section
variable {w w':World} {lo p:Nat} {A:Tr}
theorem QW.Qx (M:QW w lo p A) {m:Nat} (hm:m < A.ns.length): ∃ (g cap:Nat) (X:Nd) (vb ve vc cv tv ov:Value),Hid (X= { A.nd (m:Int)with target:=A.tgt (m:Int) })/\g < w.heap.size/\p < w.heap.size/\(∀ v∈ZQ X vb ve vc cv tv ov,v.oneCell'=true)/\rJ w lo g m X vb ve vc cv tv ov/\
  ∀ w':World,Below w.heap.size w w'->w'.cell? ⟨p,1,none⟩=some (.slice (some ⟨g,0,none⟩) A.ns.length cap)/\w'.rangeAt g (m*24) (ZQ X vb ve vc cv tv ov):=by
 obtain⟨_,_,_,_,_,_,M⟩:=M;obtain⟨g,cap,rfl⟩:=M.Kd (by omega);obtain⟨vb,ve,vc,cv,tv,ov,hX⟩:=M.nd hm;have q1:=M.t.blk.cell 1 rfl;have hpl:=M.t.blk.lt;have hgl:=(M.t.n.lt g rfl).2;refine⟨g,cap,_,vb,ve,vc,cv,tv,ov,Z5 rfl,hgl,hpl,qH _ _ _ _ _ _ _ hX.one,hX,fun w' hb=>⟨(hb.cell (p:=⟨p,1,none⟩) hpl).trans q1,fun j u hu=>(hb.cell (p:=⟨g,m*24+j,none⟩) hgl).trans (BD hX j u hu)⟩⟩
theorem Xb (M:QW w lo p A) {n:Nat} (hn:n < A.ns.length) (hpn:0<=(A.nd n).place/\(A.nd n).place<=100000):Calls prog 76 #[p,.int .i64 n] w fun e w'=>e=.returned (Np (A.behind n))/\Below w.heap.size w w':=by
 obtain⟨g,cap,X,vb,ve,vc,cv,tv,ov,UX,hgl,hpl,hone,hX,hfx⟩:=M.Qx hn;have hpl2:X.place=(A.nd n).place:=by rw[UX.out]
 have iH:X.list=(A.nd n).list:=by rw[UX.out]
 have hA:A.behind n=⟨1,X.list,X.place+1⟩:=by unfold Tr.behind;rw[hpl2,iH]
 rw[hA];rw[<-hpl2]at hpn;have hwr:=IntWalk.i64_in (X.place+1) (by omega);obtain⟨hp0,hp1⟩:=hpn;have hz:=QX w;have hk: ∀ w':World,Below w.heap.size w w'->w'.cell? ⟨p,1,none⟩=some (.slice (some ⟨g,0,none⟩) A.ns.length cap)/\w'.cell? ⟨g,n*24+12,none⟩=some (.int .i64 X.list)/\w'.cell? ⟨g,n*24+13,none⟩=some (.int .i64 X.place):=fun w' hb=>⟨(hfx w' hb).1,(hfx w' hb).2 12 _ rfl,(hfx w' hb).2 13 _ rfl⟩
 have hS0:=hk _ hz.1.drew;have hb1:Below w.heap.size w (w.alloc (.cells [.int .i64 1,.int .i64 X.list,.int .i64 (X.place+1)].toArray 118)):=(ZN _ _).alloc (Z7 _) _;have hS1:=hk _ hb1.drew;have HZ:=Zl hb1 (ZD.new w [.int .i64 1,.int .i64 X.list,.int .i64 (X.place+1)] 118);clear UX hfx hX hone M hpl2 iH hA hk hz hb1;unfold Np;go_enter func76,ntmps76;go_wp2_with fail
 go_region_held3 (fun w':World=>w'.cell? ⟨p,1,none⟩=some (.slice (some ⟨g,0,none⟩) A.ns.length cap)/\w'.cell? ⟨g,n*24+12,none⟩=some (.int .i64 X.list)/\w'.cell? ⟨g,n*24+13,none⟩=some (.int .i64 X.place)) (first|exact hS0|exact hS1|go_keep) (fail)
 go_wp2_with fail
 ((try simp only[Exit.inBlock,Exit.then]);refine bodyPost_ret (results_cell_row (P:=prog) rfl _ _ w.heap.size 118 #[.int .i64 1,.int .i64 X.list,.int .i64 (X.place+1)] (0,0) _ rfl HZ.out.2.drew underlying118 rfl (by kernel_rfl)) rfl ?_)
 exact⟨rfl,HZ.out.1.drew⟩
theorem Qw {w:World} {b:Nat} {x y z:Value} (h:ZD w b [x,y,z] 118) (a c d:Value):ZD (((w.setCell ⟨b,0,none⟩ a).setCell ⟨b,1,none⟩ c).setCell ⟨b,2,none⟩ d) b [a,c,d] 118/\ ∀ B:Nat,B<=b->Below B w (((w.setCell ⟨b,0,none⟩ a).setCell ⟨b,1,none⟩ c).setCell ⟨b,2,none⟩ d):=
 ⟨((h.set 0 a).set 1 c).set 2 d,fun B hB=>(((ZN B w).setCell hB a).setCell hB c).setCell hB d⟩
theorem MU (M:QW w lo p A) {n:Nat} (hn:n < A.ns.length):Calls prog 92 #[p,.int .i64 n] w fun e w'=>e=.returned (Np (A.again n))/\Below w.heap.size w w':=by
 obtain⟨g,cap,X,vb,ve,vc,cv,tv,ov,UX,hgl,hpl,hone,hX,hfx⟩:=M.Qx hn;have hA:A.again n=if X.h.kind=12 then⟨5,n,0⟩else if X.Ym≠ -1 then⟨6,X.Ym,0⟩else⟨2,n,0⟩:=by unfold Tr.again Tr.kd;rw[UX.out]
 obtain⟨R,hR⟩: ∃ R:Pl,R=A.again n:=⟨_,rfl⟩
 rw[<-hR];rw[hA]at hR;have HR:=Z5 hR;clear hR;obtain⟨w1,hw1⟩: ∃ w1,w1=w.alloc (.cells [.int .i64 0,.int .i64 0,.int .i64 0].toArray 118):=⟨_,rfl⟩
 have hz1:w1.heap.size=w.heap.size+1:=by rw[hw1];simp
 have hz:=QX w;rw[<-hw1]at hz;obtain⟨hbz,hkz⟩:=hz;have Gf: ∀ w':World,Below w1.heap.size w1 w'->w'.cell? ⟨p,1,none⟩=some (.slice (some ⟨g,0,none⟩) A.ns.length cap)/\w'.rangeAt g (n*24) (ZQ X vb ve vc cv tv ov):=fun w' hb=>hfx w' (hbz.trans (hb.mono (by omega)));have JJ:=Z5 Gf;have HF:=X7 hone hbz hkz;clear hfx hone hX UX hA hbz hkz M Gf;unfold Np;subst hw1;go_enter func92,ntmps92;go_upto_region 1 with fail
 refine Tj 7 5 6 79 Tf (ZQ X vb ve vc cv tv ov) rfl rfl rfl rfl rfl rfl rfl rfl XR rfl Wk HF.out.1 ?_
 iterate 6
  refine⟨_,?_,rfl,rfl,.inl ⟨by rfl,fun w' hb=>?_⟩,?_⟩
  rotate_left
  .obtain⟨e0,e1⟩:=JJ.out w' hb;go_simp;try with_reducible rfl
  simp only[Act.put,ZK,Zp,Zo]
 refine⟨_,_,rfl,rfl,yieldsIf_load_mid (by rfl) 79 _ rfl g (n*24) rfl _ _ (fun w' hb=>(JJ.out w' hb).2) underlying79 rfl Wk,?_⟩;simp only[Act.put,ZK,Zp,Zo];refine⟨rfl,rfl,fun w2 hb2 hf2=>?_⟩;simp only[Act.put,ZK,Zp,Zo];clear JJ;obtain⟨hbz,hkz⟩:=HF.out.2;rw[hz1]at hb2 hf2 ⊢;have hbw:Below w.heap.size w w2:=hbz.trans (hf2.mono (by omega));have hk2:ZD w2 w.heap.size [.int .i64 0,.int .i64 0,.int .i64 0] 118:=(hf2.block _ (by omega)).trans hkz;have d0:=hb2.cell 0 rfl;have d17:=hb2.cell 17 rfl;have f0:=hk2.free 0;have f1:=hk2.free 1;have f2:=hk2.free 2;have c0:=hk2.cell 0 rfl;have c1:=hk2.cell 1 rfl;have c2:=hk2.cell 2 rfl;have HK:=Zl hbw hk2;have HS:=Z5 (fun a c d=>Qw hk2 a c d);clear HF hbz hkz hb2 hf2 hbw hk2 hz1 hgl hpl;generalize X.h.kind=kd at*;generalize X.Ym=ps at*;by_cases h12:kd=12
 .subst h12;have HR:=Z5 (show R=⟨5,n,0⟩by rw[HR.out,if_pos rfl]);go_wp2_with fail
  ((try simp only[Exit.inBlock,Exit.then]);refine bodyPost_ret (results_cell_row (P:=prog) rfl _ _ w.heap.size 118 #[.int .i64 5,.int .i64 n,.int .i64 0] (0,0) _ rfl (HS.out _ _ _).1 underlying118 rfl (by kernel_rfl)) rfl ?_)
  rw[HR.out];exact⟨rfl,HK.out.1.trans ((HS.out _ _ _).2 _ (Z7 _))⟩
 .have HR:=Z5 (show R=if ps≠ -1 then⟨6,ps,0⟩else⟨2,n,0⟩by rw[HR.out,if_neg h12]);by_cases hp:ps= -1
  .subst hp;have HR:=Z5 (show R=⟨2,n,0⟩by rw[HR.out,if_neg (by simp)]);go_wp2_with fail
   ((try simp only[Exit.inBlock,Exit.then]);refine bodyPost_ret (results_cell_row (P:=prog) rfl _ _ w.heap.size 118 #[.int .i64 2,.int .i64 n,.int .i64 0] (0,0) _ rfl (HS.out _ _ _).1 underlying118 rfl (by kernel_rfl)) rfl ?_)
   rw[HR.out];exact⟨rfl,HK.out.1.trans ((HS.out _ _ _).2 _ (Z7 _))⟩
  .have HR:=Z5 (show R=⟨6,ps,0⟩by rw[HR.out,if_pos hp]);go_wp2_with fail
   ((try simp only[Exit.inBlock,Exit.then]);refine bodyPost_ret (results_cell_row (P:=prog) rfl _ _ w.heap.size 118 #[.int .i64 6,.int .i64 ps,.int .i64 0] (0,0) _ rfl (HS.out _ _ _).1 underlying118 rfl (by kernel_rfl)) rfl ?_)
   rw[HR.out];exact⟨rfl,HK.out.1.trans ((HS.out _ _ _).2 _ (Z7 _))⟩
theorem QW.NT (M:QW w lo p A) (W:Wf A) {n:Nat} (hn:n < A.ns.length):0<=(A.nd n).place/\(A.nd n).place<=100000:=by
 obtain⟨_,_,_,_,_,_,M⟩:=M;have h:=W.nd (n:=(n:Int)) ⟨by omega,by omega⟩;obtain⟨l1,_⟩:=Z1.1 h.here;have l2:=(W.rw h.list).len;have l3:=M.b;have l4:=h.place;exact⟨l4,by omega⟩
theorem QW.qF (M:QW w lo p A) {m:Nat} (hm:m < A.rs.length): ∃ (g cap:Nat) (iv:Value),g < w.heap.size/\p < w.heap.size/\RwM w lo g m (A.rw m) iv/\ ∀ w':World,Below w.heap.size w w'->w'.cell? ⟨p,2,none⟩=some (.slice (some ⟨g,0,none⟩) A.rs.length cap)/\w'.rangeAt g (m*3) [.int .i64 (A.rw m).owner,.int .i64 (A.rw m).clause,iv]:=by
 obtain⟨_,_,_,_,_,_,M⟩:=M;obtain⟨g,cap,rfl⟩:=M.yh (by omega);obtain⟨iv,hX⟩:=M.rw hm;have q1:=M.t.blk.cell 2 rfl;have hpl:=M.t.blk.lt;have hgl:=(M.t.r.lt g rfl).2;exact⟨g,cap,iv,hgl,hpl,hX,fun w' hb=>⟨(hb.cell (p:=⟨p,2,none⟩) hpl).trans q1,fun j u hu=>(hb.cell (p:=⟨g,m*3+j,none⟩) hgl).trans (hX.cell j u hu)⟩⟩
theorem BB (M:QW w lo p A) (W:Wf A) {l:Nat} (hl:l < A.rs.length) (ho:0<=(A.rw l).owner):Calls prog 112 #[p,.int .i64 l] w fun e w'=>e=.returned (Np (A.left l))/\Below w.heap.size w w':=by
 obtain⟨k,hk,hkl⟩: ∃ k:Nat,(A.rw l).owner=k/\k < A.ns.length:=by
  rcases(W.rw (n:=(l:Int)) ⟨by omega,by omega⟩).owner with h|h
  .omega
  .exact h.cast
 obtain⟨gr,cr,iv,hgr,-,-,hfr⟩:=M.qF hl;obtain⟨g,cap,X,vb,ve,vc,cv,tv,ov,UX,hgl,hpl,hone,hX,hfx⟩:=M.Qx hkl;have hkd:A.kd k=X.h.kind:=by unfold Tr.kd;rw[UX.out]
 rw[hk]at hfr;obtain⟨R,hR⟩: ∃ R:Pl,Hid (R=A.left l):=⟨_,Z5 rfl⟩
 have HR:=Z5 (show R=if X.h.kind=11\/X.h.kind=12 then A.again k else A.behind k by rw[hR.out];unfold Tr.left;rw[hk,hkd]);rw[<-hR.out];obtain⟨w1,hw1⟩: ∃ w1,w1=w.alloc (.cells [.int .i64 0,.int .i64 0,.int .i64 0].toArray 118):=⟨_,rfl⟩
 have hz1:w1.heap.size=w.heap.size+1:=by rw[hw1];simp
 have hz:=QX w;rw[<-hw1]at hz;obtain⟨hbz,hkz⟩:=hz;obtain⟨r0,r1⟩:=hfr w1 hbz;have r1:w1.cell? ⟨gr,l*3,none⟩=some (.int .i64 k):=r1 0 _ rfl;obtain⟨e0,e1⟩:=hfx w1 hbz;have e1:w1.cell? ⟨g,k*24,none⟩=some (.int .i64 X.h.kind):=e1 0 _ rfl;have HC:=Zl (MU (M.low hbz) hkl) (Xb (M.low hbz) hkl (M.NT W hkl));have HF:=Zl hbz hkz;have HS:=Z5 (fun(w2:World) (hb:Below w1.heap.size w1 w2) a c d=>Qw (show ZD w2 w.heap.size [.int .i64 0,.int .i64 0,.int .i64 0] 118 from(hb.block _ (by omega)).trans hkz) a c d);have HK:=Z5 (fun(w2:World) (hb:Below w1.heap.size w1 w2)=>(show ZD w2 w.heap.size [.int .i64 0,.int .i64 0,.int .i64 0] 118 from(hb.block _ (by omega)).trans hkz));have HB:=Z5 (fun(w2:World) (hb:Below w1.heap.size w1 w2)=>hbz.trans (hb.mono (by omega)));clear hR hfx hfr hone hX UX hbz hkz M W ho hk hkd;unfold Np at*;generalize X.h.kind=kd at*;subst hw1;go_enter func112,ntmps112;by_cases h11:kd=11
 .subst h11;have HR:=Z5 (show R=A.again k by rw[HR.out,if_pos (.inl rfl)]);go_wp2_with fail
  refine HC.out.1.mono ?_;rintro e w2 ⟨rfl,hb2⟩;have HW:=Z5 (HK.out w2 hb2);have hb2':=Z5 hb2;have d0:=HW.out.free 0;have d1:=HW.out.free 1;have d2:=HW.out.free 2;have c0:=HW.out.cell 0 rfl;have c1:=HW.out.cell 1 rfl;have c2:=HW.out.cell 2 rfl;clear hb2;go_wp2_with fail
  ((try simp only[Exit.inBlock,Exit.then]);refine bodyPost_ret (results_cell_row (P:=prog) rfl _ _ w.heap.size 118 #[.int .i64 (A.again k).op,.int .i64 (A.again k).a,.int .i64 (A.again k).b] (0,0) _ rfl (HS.out w2 hb2'.out _ _ _).1 underlying118 rfl (by kernel_rfl)) rfl ?_)
  rw[HR.out];exact⟨rfl,(HB.out w2 hb2'.out).trans ((HS.out w2 hb2'.out _ _ _).2 _ (Z7 _))⟩
 .by_cases h12:kd=12
  .subst h12;have HR:=Z5 (show R=A.again k by rw[HR.out,if_pos (.inr rfl)]);go_wp2_with fail
   refine HC.out.1.mono ?_;rintro e w2 ⟨rfl,hb2⟩;have HW:=Z5 (HK.out w2 hb2);have hb2':=Z5 hb2;have d0:=HW.out.free 0;have d1:=HW.out.free 1;have d2:=HW.out.free 2;have c0:=HW.out.cell 0 rfl;have c1:=HW.out.cell 1 rfl;have c2:=HW.out.cell 2 rfl;clear hb2;go_wp2_with fail
   ((try simp only[Exit.inBlock,Exit.then]);refine bodyPost_ret (results_cell_row (P:=prog) rfl _ _ w.heap.size 118 #[.int .i64 (A.again k).op,.int .i64 (A.again k).a,.int .i64 (A.again k).b] (0,0) _ rfl (HS.out w2 hb2'.out _ _ _).1 underlying118 rfl (by kernel_rfl)) rfl ?_)
   rw[HR.out];exact⟨rfl,(HB.out w2 hb2'.out).trans ((HS.out w2 hb2'.out _ _ _).2 _ (Z7 _))⟩
  .have HR:=Z5 (show R=A.behind k by rw[HR.out,if_neg (by rintro(h|h);exact h11 h;exact h12 h)]);have hor:(kd==11||kd==12)=false:=by simp[h11,h12]
   go_wp2_with fail
   refine HC.out.2.mono ?_;rintro e w2 ⟨rfl,hb2⟩;have HW:=Z5 (HK.out w2 hb2);have hb2':=Z5 hb2;have d0:=HW.out.free 0;have d1:=HW.out.free 1;have d2:=HW.out.free 2;have c0:=HW.out.cell 0 rfl;have c1:=HW.out.cell 1 rfl;have c2:=HW.out.cell 2 rfl;clear hb2;go_wp2_with fail
   ((try simp only[Exit.inBlock,Exit.then]);refine bodyPost_ret (results_cell_row (P:=prog) rfl _ _ w.heap.size 118 #[.int .i64 (A.behind k).op,.int .i64 (A.behind k).a,.int .i64 (A.behind k).b] (0,0) _ rfl (HS.out w2 hb2'.out _ _ _).1 underlying118 rfl (by kernel_rfl)) rfl ?_)
   rw[HR.out];exact⟨rfl,(HB.out w2 hb2'.out).trans ((HS.out w2 hb2'.out _ _ _).2 _ (Z7 _))⟩
def iG (w:World) (cs:List V1) (ix:Value) (wr:World):Prop:= ∃ k:Nat,ix=.int .i64 k/\k<=cs.length/\(∀ (x:Nat) c,x < k->cs[x]? =some c->c.plain=false)/\Below w.heap.size w wr/\ZD wr w.heap.size [.int .i64 0,.int .i64 0,.int .i64 0] 118
theorem NQ {cs:List V1} {k:Nat} (hn: ∀ (x:Nat) c,x < k->cs[x]? =some c->c.plain=false):(∀ c,cs[k]? =some c->c.plain=true->cs.find? (fun c=>c.plain)=some c)/\(cs.length<=k->cs.find? (fun c=>c.plain)=none):=by
 constructor
 .intro c hc hp;obtain⟨hl,he⟩:=Z1.1 hc;rw[List.find?_eq_some_iff_getElem];exact⟨hp,k,hl,he,fun j hj=>by simp[hn j _ hj (Z9 (by omega))]⟩
 .intro hl;rw[List.find?_eq_none];intro c hc;obtain⟨j,hj,he⟩:=List.getElem_of_mem hc;simp[hn j c (by omega) (by rw[<-he];exact Z9 hj)]
theorem Ic (M:QW w lo p A) (W:Wf A) {n:Nat} (hn:n < A.ns.length) (hnc:(A.nd n).choices.length<=200000):Calls prog 113 #[p,.int .i64 n] w fun e w'=>e=.returned (Np (A.failed n))/\Below w.heap.size w w':=by
 obtain⟨g,cap,X,vb,ve,vc,cv,tv,ov,UX,hgl,hpl,hone,hX,hfx⟩:=M.Qx hn;have hcv:=hX.cv;obtain⟨ac,cc,rfl⟩:=ZR hcv;have hch:(A.nd n).choices=X.choices:=by rw[UX.out]
 obtain⟨R,hR⟩: ∃ R:Pl,Hid (R=A.failed n):=⟨_,Z5 rfl⟩
 have HR:=Z5 (show R=match X.choices.find? (fun c=>c.plain)with|some c=>⟨1,c.list,0⟩ |none=>A.behind n by rw[hR.out];unfold Tr.failed;rw[hch];cases X.choices.find? (fun c=>c.plain)<;>rfl);rw[<-hR.out];have hz:=QX w;obtain⟨hbz,hkz⟩:=hz;obtain⟨e0,e1⟩:=hfx _ hbz;have e1:(w.alloc (.cells [.int .i64 0,.int .i64 0,.int .i64 0].toArray 118)).cell? ⟨g,n*24+20,none⟩=some (.slice ac X.choices.length cc):=e1 20 _ rfl;have HF:=Zl hbz hkz;have HC:=Xp hcv M hn (M.NT W hn);rw[hch]at hnc;clear hR hfx hone hX UX hbz hkz M W hch hcv;unfold Np;go_enter func113,ntmps113;go_wp2_with fail
 go_loopw [16] (fun ix wr=>iG w X.choices ix wr) (fun ix _=>X.choices.length -(intOf ix).toNat)
 case atStart=>exact⟨0,rfl,by omega,fun x c hx=>by omega,HF.out.1,HF.out.2⟩
 case round=>
  obtain⟨k,rfl,hk,hno,hbw,hkw⟩:=hrel;have hno:=Z5 hno;have d0:=hkw.free 0;have d1:=hkw.free 1;have d2:=hkw.free 2;have c0:=hkw.cell 0 rfl;have c1:=hkw.cell 1 rfl;have c2:=hkw.cell 2 rfl;have hsz:=hkw.lt;have hne:w.heap.size≠wr.heap.size:=by omega
  have HW:=Zl hbw hkw;by_cases hlt:k < X.choices.length
  .obtain⟨gc,cc',hgc⟩:=XM HC.out.1 (by omega);cases hgc;have hc:X.choices[k]? =some (X.choices[k]):=Z9 hlt;obtain⟨C,hC⟩: ∃ C:V1,C=X.choices[k]:=⟨_,rfl⟩
   rw[<-hC]at hc;have hq: ∀ j v,C.cells[j]? =some v->wr.cell? ⟨gc,k*3+j,none⟩=some v:=by
    intro j v hv;have hj:j < 3:=by obtain⟨h,_⟩:=Z1.1 hv;exact h
    have h1:=ZF HC.out.1 (k*3+j) (by omega);rw[(hbw.cell (p:=⟨gc,k*3+j,none⟩) (HC.out.1.lt gc rfl).2).trans h1,Rh (n:=3) (f:=V1.cells) (fun _=>rfl) hc hj,hv]
   have q0:wr.cell? ⟨gc,k*3,none⟩=some (.int .i64 C.number):=hq 0 _ rfl;have q1:wr.cell? ⟨gc,k*3+1,none⟩=some (.int .i64 C.list):=hq 1 _ rfl;have q2:wr.cell? ⟨gc,k*3+2,none⟩=some (.bool C.plain):=hq 2 _ rfl;have jU:=Z5 hc;clear hc hC hq hbw hkw;generalize hcp:C.plain=cp at*;cases cp
   .have hcp:=Z5 hcp;go_wp2_with fail
    refine⟨⟨k+1,by simp,by omega,fun x c hx hc=>?_,HW.out.1.alloc (Nat.le_of_lt hsz) _,HW.out.2.alloc _⟩,by simp[intOf];omega⟩;by_cases e:x < k
    .exact hno.out x c e hc
    .obtain rfl:x=k:=by omega
     rw[jU.out]at hc;cases hc;exact hcp.out
   .have hcp:=Z5 hcp;have HS:=Z5 (Qw HW.out.2 (.int .i64 1) (.int .i64 C.list) (.int .i64 0));go_wp2_with fail
    ((try simp only[Exit.inBlock,Exit.then]);refine bodyPost_ret (results_cell_row (P:=prog) rfl _ _ w.heap.size 118 #[.int .i64 1,.int .i64 C.list,.int .i64 0] (0,0) _ rfl (HS.out.1.alloc _) underlying118 rfl (by kernel_rfl)) rfl ?_)
    rw[HR.out,(NQ hno.out).1 C jU.out hcp.out];exact⟨rfl,(HW.out.1.trans (HS.out.2 _ (Z7 _))).alloc (by simp;omega) _⟩
  .have:k=X.choices.length:=by omega
   clear hbw hkw;have HR:=Z5 (show R=A.behind n by rw[HR.out,(NQ hno.out).2 (by omega)]);go_wp2_with fail
   refine(Xb (HC.out.2.1.low HW.out.1) HC.out.2.2.1 HC.out.2.2.2).mono ?_;rintro e w2 ⟨rfl,hb2⟩;have HV:=Z5 (U4 HW.out.2 hb2);have hbb:=Z5 (HW.out.1.trans (hb2.mono HW.out.1.size));have d0:=HV.out.free 0;have d1:=HV.out.free 1;have d2:=HV.out.free 2;have c0:=HV.out.cell 0 rfl;have c1:=HV.out.cell 1 rfl;have c2:=HV.out.cell 2 rfl;have HS:=Z5 (Qw HV.out (.int .i64 (A.behind n).op) (.int .i64 (A.behind n).a) (.int .i64 (A.behind n).b));unfold Np;clear hb2;go_wp2_with fail
   ((try simp only[Exit.inBlock,Exit.then]);refine bodyPost_ret (results_cell_row (P:=prog) rfl _ _ w.heap.size 118 #[.int .i64 (A.behind n).op,.int .i64 (A.behind n).a,.int .i64 (A.behind n).b] (0,0) _ rfl HS.out.1 underlying118 rfl (by kernel_rfl)) rfl ?_)
   rw[HR.out];exact⟨rfl,hbb.out.trans (HS.out.2 _ (Z7 _))⟩
end
end
section
section
variable {w w':World} {lo p:Nat} {A:Tr}
theorem vd (M:QW w lo p A) (W:Wf A) {n:Nat} (hn:n < A.ns.length) (v:Bool):Calls prog 78 #[p,.int .i64 n,v] w fun e w'=>e=.returned (Np (A.decided n v))/\Below w.heap.size w w':=by
 have hpn:=M.NT W hn;have HM:=Z5 M;obtain⟨g,cap,X,vb,ve,vc,cv,tv,ov,UX,hgl,hpl,hone,hX,hfx⟩:=M.Qx hn;have hA:A.decided n v=if X.h.kind=12 then⟨5,n,0⟩else if X.h.kind=13 then⟨3,n,0⟩else if v=true then⟨1,X.body,0⟩else if X.other≠ -1 then⟨1,X.other,0⟩else A.behind n:=by unfold Tr.decided Tr.kd;rw[UX.out]
 obtain⟨R,hR⟩: ∃ R:Pl,R=A.decided n v:=⟨_,rfl⟩
 rw[<-hR];rw[hA]at hR;have HR:=Z5 hR;clear hR;obtain⟨w1,hw1⟩: ∃ w1,w1=w.alloc (.cells [.int .i64 0,.int .i64 0,.int .i64 0].toArray 118):=⟨_,rfl⟩
 have hz1:w1.heap.size=w.heap.size+1:=by rw[hw1];simp
 have hz:=QX w;rw[<-hw1]at hz;obtain⟨hbz,hkz⟩:=hz;have Gf: ∀ w':World,Below w1.heap.size w1 w'->w'.cell? ⟨p,1,none⟩=some (.slice (some ⟨g,0,none⟩) A.ns.length cap)/\w'.rangeAt g (n*24) (ZQ X vb ve vc cv tv ov):=fun w' hb=>hfx w' (hbz.trans (hb.mono (by omega)));have JJ:=Z5 Gf;have HF:=X7 hone hbz hkz;clear hfx hone hX UX hA hbz hkz M Gf W;have hpn:=Z5 hpn;unfold Np;subst hw1;go_enter func78,ntmps78;go_upto_region 1 with fail
 refine Tj 7 7 8 79 Tf (ZQ X vb ve vc cv tv ov) rfl rfl rfl rfl rfl rfl rfl rfl XR rfl Wk HF.out.1 ?_
 iterate 6
  refine⟨_,?_,rfl,rfl,.inl ⟨by rfl,fun w' hb=>?_⟩,?_⟩
  rotate_left
  .obtain⟨e0,e1⟩:=JJ.out w' hb;go_simp;try with_reducible rfl
  simp only[Act.put,ZK,Zp,Zo]
 refine⟨_,_,rfl,rfl,yieldsIf_load_mid (by rfl) 79 _ rfl g (n*24) rfl _ _ (fun w' hb=>(JJ.out w' hb).2) underlying79 rfl Wk,?_⟩;simp only[Act.put,ZK,Zp,Zo];refine⟨rfl,rfl,fun w2 hb2 hf2=>?_⟩;simp only[Act.put,ZK,Zp,Zo];clear JJ;obtain⟨hbz,hkz⟩:=HF.out.2;rw[hz1]at hb2 hf2 ⊢;have hbw:Below w.heap.size w w2:=hbz.trans (hf2.mono (by omega));have hk2:ZD w2 w.heap.size [.int .i64 0,.int .i64 0,.int .i64 0] 118:=(hf2.block _ (by omega)).trans hkz;have d0:=hb2.cell 0 rfl;have fI:=hb2.cell 18 rfl;have d19:=hb2.cell 19 rfl;have f0:=hk2.free 0;have f1:=hk2.free 1;have f2:=hk2.free 2;have c0:=hk2.cell 0 rfl;have c1:=hk2.cell 1 rfl;have c2:=hk2.cell 2 rfl;have HK:=Zl hbw hk2;have HS:=Z5 (fun a c d=>Qw hk2 a c d);clear HF hbz hkz hb2 hf2 hbw hk2 hz1 hgl hpl;generalize X.h.kind=kd at*;generalize X.body=bd at*;generalize X.other=ot at*;by_cases h12:kd=12
 .subst h12;have HR:=Z5 (show R=⟨5,n,0⟩by rw[HR.out,if_pos rfl]);go_wp2_with fail
  ((try simp only[Exit.inBlock,Exit.then]);refine bodyPost_ret (results_cell_row (P:=prog) rfl _ _ w.heap.size 118 #[.int .i64 5,.int .i64 n,.int .i64 0] (0,0) _ rfl (HS.out _ _ _).1 underlying118 rfl (by kernel_rfl)) rfl ?_)
  rw[HR.out];exact⟨rfl,HK.out.1.trans ((HS.out _ _ _).2 _ (Z7 _))⟩
 .by_cases h13:kd=13
  .subst h13;have HR:=Z5 (show R=⟨3,n,0⟩by rw[HR.out,if_neg (by decide),if_pos rfl]);go_wp2_with fail
   ((try simp only[Exit.inBlock,Exit.then]);refine bodyPost_ret (results_cell_row (P:=prog) rfl _ _ w.heap.size 118 #[.int .i64 3,.int .i64 n,.int .i64 0] (0,0) _ rfl (HS.out _ _ _).1 underlying118 rfl (by kernel_rfl)) rfl ?_)
   rw[HR.out];exact⟨rfl,HK.out.1.trans ((HS.out _ _ _).2 _ (Z7 _))⟩
  .have HR:=Z5 (show R=if v=true then⟨1,bd,0⟩else if ot≠ -1 then⟨1,ot,0⟩else A.behind n by rw[HR.out,if_neg h12,if_neg h13]);have k12:(kd==12)=false:=by simp[h12]
   have k13:(kd==13)=false:=by simp[h13]
   cases v
   .by_cases ho:ot= -1
    .subst ho;have HR:=Z5 (show R=A.behind n by rw[HR.out,if_neg (by simp),if_neg (by simp)]);go_wp2_with fail
     refine(Xb (HM.out.low HK.out.1) hn hpn.out).mono ?_;rintro e w3 ⟨rfl,hb3⟩;have HV:=Z5 (U4 HK.out.2 hb3);have hbb:=Z5 (HK.out.1.trans (hb3.mono HK.out.1.size));have d0:=HV.out.free 0;have d1:=HV.out.free 1;have d2:=HV.out.free 2;have c0:=HV.out.cell 0 rfl;have c1:=HV.out.cell 1 rfl;have c2:=HV.out.cell 2 rfl;have HS:=Z5 (Qw HV.out (.int .i64 (A.behind n).op) (.int .i64 (A.behind n).a) (.int .i64 (A.behind n).b));unfold Np;clear hb3;go_wp2_with fail
     ((try simp only[Exit.inBlock,Exit.then]);refine bodyPost_ret (results_cell_row (P:=prog) rfl _ _ w.heap.size 118 #[.int .i64 (A.behind n).op,.int .i64 (A.behind n).a,.int .i64 (A.behind n).b] (0,0) _ rfl HS.out.1 underlying118 rfl (by kernel_rfl)) rfl ?_)
     rw[HR.out];exact⟨rfl,hbb.out.trans (HS.out.2 _ (Z7 _))⟩
    .have HR:=Z5 (show R=⟨1,ot,0⟩by rw[HR.out,if_neg (by simp),if_pos ho]);have ko:(ot != -1)=true:=by simp[ho]
     go_wp2_with fail
     ((try simp only[Exit.inBlock,Exit.then]);refine bodyPost_ret (results_cell_row (P:=prog) rfl _ _ w.heap.size 118 #[.int .i64 1,.int .i64 ot,.int .i64 0] (0,0) _ rfl (HS.out _ _ _).1 underlying118 rfl (by kernel_rfl)) rfl ?_)
     rw[HR.out];exact⟨rfl,HK.out.1.trans ((HS.out _ _ _).2 _ (Z7 _))⟩
   .have HR:=Z5 (show R=⟨1,bd,0⟩by rw[HR.out,if_pos rfl]);go_wp2_with fail
    ((try simp only[Exit.inBlock,Exit.then]);refine bodyPost_ret (results_cell_row (P:=prog) rfl _ _ w.heap.size 118 #[.int .i64 1,.int .i64 bd,.int .i64 0] (0,0) _ rfl (HS.out _ _ _).1 underlying118 rfl (by kernel_rfl)) rfl ?_)
    rw[HR.out];exact⟨rfl,HK.out.1.trans ((HS.out _ _ _).2 _ (Z7 _))⟩
end
end
section
def Pl.cl (p:Pl):List Value:= [.int .i64 p.op,.int .i64 p.a,.int .i64 p.b]
def Qv (qs:List Pl) (W:World) (e:Ending) (w':World):Prop:= ∃ v,e=.returned v/\w'.ownsRow W.heap.size 118 3 v qs.length (qs.map Pl.cl).flatten/\Below W.heap.size W w'
theorem xD {w:World} {base e size n:Nat} {v:Value} {xs:List Value} (h:w.ownsRow base e size v n xs):n<=9223372036854775807:=by
 rcases h.2 with⟨_,h⟩ |⟨_,_,_,_,_,_,h1,h2,_⟩
 .omega
 .have:maxLen=9223372036854775807:=by decide
  omega
theorem Ya {W w:World} (h:Below W.heap.size W w) (p:Pl):Qv [p] W (.returned (.slice (some ⟨w.heap.size,0,none⟩) 1 1)) (w.alloc (.cells #[.int .i64 p.op,.int .i64 p.a,.int .i64 p.b] 118)):=
 ⟨_,rfl,⟨rfl,.inr ⟨w.heap.size,1,_,rfl,h.size,heap_alloc_new w _,by simp,by decide,rfl,rfl⟩⟩,h.alloc h.size _⟩
theorem xC {W w:World} {o:Obj} (h:Below W.heap.size W (w.alloc o)) (p:Pl):Qv [p] W (.returned (.slice (some ⟨w.heap.size+1,0,none⟩) 1 1)) ((w.alloc o).alloc (.cells #[.int .i64 p.op,.int .i64 p.a,.int .i64 p.b] 118)):=by
 have h1:=Ya h p;rwa [show(w.alloc o).heap.size=w.heap.size+1 by simp]at h1
theorem Qv.drew {qs:List Pl} {W w:World} {e:Ending} (h:Qv qs W e w):Qv qs W e w.drew:=let⟨v,h1,h2,h3⟩:=h;⟨v,h1,h2.drew,h3.drew⟩
section
variable {w w':World} {lo p:Nat} {A:Tr}
theorem JQ (M:QW w lo p A) (W:Wf A) {n:Nat} (hn:n < A.ns.length):Calls prog 77 #[p,.int .i64 n] w (Qv [A.entered n] w):=by
 obtain⟨g,cap,X,vb,ve,vc,cv,tv,ov,UX,hgl,hpl,hone,hX,hfx⟩:=M.Qx hn;have hA:A.entered n=A.entered n:=rfl;obtain⟨R,hR⟩: ∃ R:Pl,R=A.entered n:=⟨_,rfl⟩
 rw[<-hR];have HR:=Z5 hR;clear hR;have Ib:=Z5 hone;have JJ:=Z5 hfx;have HM:=Xp M W hX UX;have hk0:X.h.kind=A.kd n:=by rw[UX.out];rfl
 have hx16:X.cnd=(A.nd n).cnd:=by rw[UX.out]
 have iF:X.body=(A.nd n).body:=by rw[UX.out]
 have iE:X.target=A.tgt n:=by rw[UX.out]
 clear hfx hone hX UX hA M W;go_enter func77,ntmps77;go_upto_region 1 with fail
 refine Tj 7 5 7 79 Tf (ZQ X vb ve vc cv tv ov) rfl rfl rfl rfl rfl rfl rfl rfl XR rfl Wk Ib.out ?_
 iterate 6
  refine⟨_,?_,rfl,rfl,.inl ⟨by rfl,fun w' hb=>?_⟩,?_⟩
  rotate_left
  .obtain⟨e0,e1⟩:=JJ.out w' hb;go_simp;try with_reducible rfl
  simp only[Act.put,ZK,Zp,Zo]
 refine⟨_,_,rfl,rfl,yieldsIf_load_mid (by rfl) 79 _ rfl g (n*24) rfl _ _ (fun w' hb=>(JJ.out w' hb).2) underlying79 rfl Wk,?_⟩;simp only[Act.put,ZK,Zp,Zo];refine⟨rfl,rfl,fun w2 hb2 hf2=>?_⟩;simp only[Act.put,ZK,Zp,Zo];have d0:=hb2.cell 0 rfl;have d16:=hb2.cell 16 rfl;have fI:=hb2.cell 18 rfl;have vx:=hb2.cell 23 rfl;rw[hk0]at d0;rw[hx16]at d16;rw[iF]at fI;rw[iE]at vx;obtain⟨q0,q1⟩:=JJ.out w2 hf2;have HB:=Zl hf2 hb2;clear JJ hb2 hf2 hk0 hx16 iF iE q1;obtain⟨kd,hkd⟩: ∃ kd,Hid (kd=A.kd n):=⟨_,Z5 rfl⟩
 obtain⟨cn,hcn⟩: ∃ cn,Hid (cn=(A.nd n).cnd):=⟨_,Z5 rfl⟩
 obtain⟨bd,hbd⟩: ∃ bd,Hid (bd=(A.nd n).body):=⟨_,Z5 rfl⟩
 obtain⟨tg,SC⟩: ∃ tg,Hid (tg=A.tgt n):=⟨_,Z5 rfl⟩
 rw[<-hkd.out]at d0;rw[<-hcn.out]at d16;rw[<-hbd.out]at fI;rw[<-SC.out]at vx;have HR:=Z5 (show R=if kd=10\/kd=11 then⟨2,n,0⟩else if kd=12 then⟨6,cn,0⟩else if kd=13 then(if cn≠ -1 then⟨6,cn,0⟩else⟨3,n,0⟩)else if kd=14\/kd=15 then⟨4,n,0⟩else if kd=16 then⟨1,bd,0⟩else if kd=17 then A.behind tg else if kd=18 then A.again tg else if kd=19 then⟨1,(A.nd tg).list,(A.nd tg).place⟩else if kd=20 then A.next (A.nd n).list tg else A.behind n by rw[HR.out,hkd.out,hcn.out,hbd.out,SC.out];rfl);by_cases h:kd=10
 .subst h;have HR:=Z5 (show R=⟨2,n,0⟩by rw[HR.out];rfl);go_wp2_with fail
  go_ret;rw[HR.out];exact Ya HB.out.1 ⟨2,n,0⟩
 have k10:(kd==10)=false:=by simp[h]
 have n10:=Z5 h;clear h;by_cases h:kd=11
 .subst h;have HR:=Z5 (show R=⟨2,n,0⟩by rw[HR.out];rfl);go_wp2_with fail
  go_ret;rw[HR.out];exact Ya HB.out.1 ⟨2,n,0⟩
 have k11:(kd==11)=false:=by simp[h]
 have n11:=Z5 h;clear h;by_cases h:kd=12
 .subst h;have HR:=Z5 (show R=⟨6,cn,0⟩by rw[HR.out];rfl);go_wp2_with fail
  go_ret;rw[HR.out];exact Ya HB.out.1 ⟨6,cn,0⟩
 have k12:(kd==12)=false:=by simp[h]
 have n12:=Z5 h;clear h;by_cases h:kd=13
 .subst h;by_cases hc:cn= -1
  .subst hc;have HR:=Z5 (show R=⟨3,n,0⟩by rw[HR.out];rfl);go_wp2_with fail
   go_ret;rw[HR.out];exact Ya HB.out.1 ⟨3,n,0⟩
  .have HR2:R=⟨6,cn,0⟩:=by rw[HR.out];exact if_pos hc
   clear HR;have HR:=Z5 HR2;clear HR2;have hc':(cn != -1)=true:=by simp[hc]
   clear hc;go_wp2_with fail
   go_ret;rw[HR.out];exact Ya HB.out.1 ⟨6,cn,0⟩
 have k13:(kd==13)=false:=by simp[h]
 have n13:=Z5 h;clear h;by_cases h:kd=14
 .subst h;have HR:=Z5 (show R=⟨4,n,0⟩by rw[HR.out];rfl);go_wp2_with fail
  go_ret;rw[HR.out];exact Ya HB.out.1 ⟨4,n,0⟩
 have k14:(kd==14)=false:=by simp[h]
 have n14:=Z5 h;clear h;by_cases h:kd=15
 .subst h;have HR:=Z5 (show R=⟨4,n,0⟩by rw[HR.out];rfl);go_wp2_with fail
  go_ret;rw[HR.out];exact Ya HB.out.1 ⟨4,n,0⟩
 have k15:(kd==15)=false:=by simp[h]
 have n15:=Z5 h;clear h;by_cases h:kd=16
 .subst h;have HR:=Z5 (show R=⟨1,bd,0⟩by rw[HR.out];rfl);go_wp2_with fail
  go_ret;rw[HR.out];exact Ya HB.out.1 ⟨1,bd,0⟩
 have k16:(kd==16)=false:=by simp[h]
 have n16:=Z5 h;clear h;by_cases h:kd=17
 .obtain⟨j,hj,hjl⟩:=(HM.out.2.1.tgt (n:=(n:Int)) ⟨by omega,by omega⟩ (by rw[<-hkd.out];omega)).1.cast;rw[<-SC.out]at hj;subst h;subst hj;have HR:=Z5 (show R=A.behind j by rw[HR.out];rfl);have SC:=Z5 True.intro;have hkd:=Z5 True.intro;go_wp2_with fail
  refine(Xb (HM.out.1.low HB.out.1) hjl (HM.out.1.NT HM.out.2.1 hjl)).mono ?_;rintro e w3 ⟨rfl,hb3⟩;have HB3:=Z5 (HB.out.1.trans (hb3.mono HB.out.1.size));unfold Np;clear hb3;go_wp2_with fail
  go_ret;rw[HR.out];exact Ya HB3.out (A.behind j)
 have k17:(kd==17)=false:=by simp[h]
 have n17:=Z5 h;clear h;by_cases h:kd=18
 .obtain⟨j,hj,hjl⟩:=(HM.out.2.1.tgt (n:=(n:Int)) ⟨by omega,by omega⟩ (by rw[<-hkd.out];omega)).1.cast;rw[<-SC.out]at hj;subst h;subst hj;have HR:=Z5 (show R=A.again j by rw[HR.out];rfl);have SC:=Z5 True.intro;have hkd:=Z5 True.intro;go_wp2_with fail
  refine(MU (HM.out.1.low HB.out.1) hjl).mono ?_;rintro e w3 ⟨rfl,hb3⟩;have HB3:=Z5 (HB.out.1.trans (hb3.mono HB.out.1.size));unfold Np;clear hb3;go_wp2_with fail
  go_ret;rw[HR.out];exact Ya HB3.out (A.again j)
 have k18:(kd==18)=false:=by simp[h]
 have n18:=Z5 h;clear h;by_cases h:kd=19
 .obtain⟨j,hj,hjl⟩:=(HM.out.2.1.tgt (n:=(n:Int)) ⟨by omega,by omega⟩ (by rw[<-hkd.out];omega)).1.cast;rw[<-SC.out]at hj;subst h;subst hj;have HRn:=Z5 (show R=⟨1,(A.nd (j:Int)).list,(A.nd (j:Int)).place⟩by rw[HR.out];rfl);clear HR;have SC:=Z5 True.intro;have hkd:=Z5 True.intro;obtain⟨g2,cap2,Y,yb,ye,yc,zv,yt,yo,pO,jy,_,_,_,Gf⟩:=HM.out.1.Qx hjl;have hy1:Y.list=(A.nd (j:Int)).list:=by rw[pO.out]
  have hy2:Y.place=(A.nd (j:Int)).place:=by rw[pO.out]
  rw[<-hy1,<-hy2]at HRn;have hk: ∀ w':World,Below w2.heap.size w2 w'->w'.cell? ⟨p,1,none⟩=some (.slice (some ⟨g2,0,none⟩) A.ns.length cap2)/\w'.cell? ⟨w.heap.size,23,none⟩=some (.int .i64 (j:Int))/\w'.cell? ⟨g2,j*24+12,none⟩=some (.int .i64 Y.list)/\w'.cell? ⟨g2,j*24+13,none⟩=some (.int .i64 Y.place):=fun w' hb=>by
   have h1:=Gf w' (HB.out.1.trans (hb.mono HB.out.1.size));exact⟨h1.1,(hb.cell (p:=⟨w.heap.size,23,none⟩) HB.out.2.lt).trans vx,h1.2 12 _ rfl,h1.2 13 _ rfl⟩
  have hS0:=hk _ (ZN _ _).drew;have hb1:Below w2.heap.size w2 (w2.alloc (.cells [.int .i64 1,.int .i64 Y.list,.int .i64 Y.place].toArray 118)):=(ZN _ _).alloc (Z7 _) _;have hS1:=hk _ hb1.drew;have hd0:=HB.out.2.lt;have HK:=Z5 hk;clear Gf pO hy1 hy2 hk hb1 q0;generalize Y.list=yl at*;generalize Y.place=yp at*;go_wp2_with fail
  go_region_held3 (fun w':World=>w'.cell? ⟨p,1,none⟩=some (.slice (some ⟨g2,0,none⟩) A.ns.length cap2)/\w'.cell? ⟨w.heap.size,23,none⟩=some (.int .i64 (j:Int))/\w'.cell? ⟨g2,j*24+12,none⟩=some (.int .i64 yl)/\w'.cell? ⟨g2,j*24+13,none⟩=some (.int .i64 yp)) (first|exact hS0|exact hS1|go_keep) (fail)
  go_wp2_with fail
  go_ret;rw[HRn.out];exact(Ya HB.out.1 ⟨1,yl,yp⟩).drew
 have k19:(kd==19)=false:=by simp[h]
 have n19:=Z5 h;clear h;by_cases h:kd=20
 .have hq:=HM.out.2.1.BO (n:=(n:Int)) ⟨by omega,by omega⟩ (by rw[<-hkd.out];omega);obtain⟨j,hj,hjl⟩:=(HM.out.2.1.tgt (n:=(n:Int)) ⟨by omega,by omega⟩ (by rw[<-hkd.out];omega)).1.cast;obtain⟨l,hl,hll⟩:=(HM.out.2.1.nd (n:=(n:Int)) ⟨by omega,by omega⟩).list.cast;rw[hj,hl]at hq;rw[<-SC.out]at hj;obtain⟨q,hqe,ub⟩:=hq.cast;subst h;subst hj;have HRn:=Z5 (show R=⟨1,(A.ch (j:Int) (q:Int)).list,0⟩by rw[HR.out,<-hqe,<-hl];rfl);clear HR;have SC:=Z5 True.intro;have hkd:=Z5 True.intro;obtain⟨g2,cap2,Y,yb,ye,yc,zv,yt,yo,pO,jy,_,_,hY,Gf⟩:=HM.out.1.Qx hjl;have hyc:(A.nd (j:Int)).choices=Y.choices:=by rw[pO.out]
  obtain⟨gr,cr,iv,hgr,_,_,hfr⟩:=HM.out.1.qF hll;have hcv:=hY.cv;rw[hyc]at ub;obtain⟨gc,cc,rfl⟩:=XM hcv (by omega);have hmx:=xD hcv;obtain⟨C,hC⟩: ∃ C:V1,C=Y.choices[q]:=⟨_,rfl⟩
  have hc:Y.choices[q]? =some C:=by rw[hC];exact Z9 ub
  have hch:A.ch (j:Int) (q:Int)=C:=by unfold Tr.ch;rw[hyc,Y1,Zy,hc];rfl
  rw[hch]at HRn;have qD:=(hcv.lt gc rfl).2;have hcl:(A.rw (l:Int)).clause+1=(q:Int):=hqe;obtain⟨cl,iD⟩: ∃ cl,Hid (cl=(A.rw (l:Int)).clause):=⟨_,Z5 rfl⟩
  rw[<-iD.out]at hcl;have hq3: ∀ (i:Nat) v,C.cells[i]? =some v->w.cell? ⟨gc,q*3+i,none⟩=some v:=by
   intro i v hv;have hi:i < 3:=by obtain⟨h,_⟩:=Z1.1 hv;exact h
   rw[ZF hcv (q*3+i) (by omega),Rh (n:=3) (f:=V1.cells) (fun _=>rfl) hc hi,hv]
  have d12:=HB.out.2.cell 12 rfl;have iC:X.list=(l:Int):=by rw[HM.out.2.2.2.out];exact hl
  rw[iC]at d12;have hk: ∀ w':World,Below w2.heap.size w2 w'->w'.cell? ⟨p,1,none⟩=some (.slice (some ⟨g2,0,none⟩) A.ns.length cap2)/\w'.cell? ⟨p,2,none⟩=some (.slice (some ⟨gr,0,none⟩) A.rs.length cr)/\w'.cell? ⟨w.heap.size,23,none⟩=some (.int .i64 (j:Int))/\w'.cell? ⟨w.heap.size,12,none⟩=some (.int .i64 (l:Int))/\w'.cell? ⟨g2,j*24+20,none⟩=some (.slice (some ⟨gc,0,none⟩) Y.choices.length cc)/\w'.cell? ⟨gr,l*3+1,none⟩=some (.int .i64 cl)/\w'.cell? ⟨gc,q*3,none⟩=some (.int .i64 C.number)/\w'.cell? ⟨gc,q*3+1,none⟩=some (.int .i64 C.list)/\w'.cell? ⟨gc,q*3+2,none⟩=some (.bool C.plain):=fun w' hb=>by
   have hb0:=HB.out.1.trans (hb.mono HB.out.1.size);have h1:=Gf w' hb0;have h2:=hfr w' hb0;rw[<-iD.out]at h2;exact⟨h1.1,h2.1,(hb.cell (p:=⟨w.heap.size,23,none⟩) HB.out.2.lt).trans vx,(hb.cell (p:=⟨w.heap.size,12,none⟩) HB.out.2.lt).trans d12,h1.2 20 _ rfl,h2.2 1 _ rfl,(hb0.cell (p:=⟨gc,q*3,none⟩) qD).trans (hq3 0 _ rfl),(hb0.cell (p:=⟨gc,q*3+1,none⟩) qD).trans (hq3 1 _ rfl),(hb0.cell (p:=⟨gc,q*3+2,none⟩) qD).trans (hq3 2 _ rfl)⟩
  have hS0:=hk _ (ZN _ _).drew;have hb1:Below w2.heap.size w2 (w2.alloc (.cells [.int .i64 0,.int .i64 0,.bool false].toArray 110)):=(ZN _ _).alloc (Z7 _) _;have hb2:Below w2.heap.size w2 (w2.alloc (.cells [.int .i64 C.number,.int .i64 C.list,.bool C.plain].toArray 110)):=(ZN _ _).alloc (Z7 _) _;have hS1:=hk _ hb1.drew;have hS2:=hk _ hb2.drew;have hd0:=HB.out.2.lt;have hwr:=IntWalk.i64_in (cl+1) (by omega);rw[hcl]at hwr;have HB2:=Z5 (HB.out.1.trans (hb2.mono HB.out.1.size));clear Gf hfr pO hk hb1 hb2 q0 iC hq3 hcv hY hch hc hC hyc hqe hl hq;generalize C.number=cn at*;generalize C.list=cs at*;generalize C.plain=cp at*;go_wp2_with fail
  go_region_held3 (fun w':World=>w'.cell? ⟨p,1,none⟩=some (.slice (some ⟨g2,0,none⟩) A.ns.length cap2)/\w'.cell? ⟨p,2,none⟩=some (.slice (some ⟨gr,0,none⟩) A.rs.length cr)/\w'.cell? ⟨w.heap.size,23,none⟩=some (.int .i64 (j:Int))/\w'.cell? ⟨w.heap.size,12,none⟩=some (.int .i64 (l:Int))/\w'.cell? ⟨g2,j*24+20,none⟩=some (.slice (some ⟨gc,0,none⟩) Y.choices.length cc)/\w'.cell? ⟨gr,l*3+1,none⟩=some (.int .i64 cl)/\w'.cell? ⟨gc,q*3,none⟩=some (.int .i64 cn)/\w'.cell? ⟨gc,q*3+1,none⟩=some (.int .i64 cs)/\w'.cell? ⟨gc,q*3+2,none⟩=some (.bool cp)) (first|exact hS0|exact hS1|exact hS2|go_keep) (fail)
  have hd1:w.heap.size≠w2.heap.size:=by omega
  go_wp2_with fail
  go_ret;rw[HRn.out];exact(xC HB2.out ⟨1,cs,0⟩).drew
 have k20:(kd==20)=false:=by simp[h]
 have n20:=Z5 h;clear h;have HR:=Z5 (show R=A.behind n by rw[HR.out,if_neg (by rintro(h|h);exact n10.out h;exact n11.out h),if_neg n12.out,if_neg n13.out,if_neg (by rintro(h|h);exact n14.out h;exact n15.out h),if_neg n16.out,if_neg n17.out,if_neg n18.out,if_neg n19.out,if_neg n20.out]);go_wp2_with fail
 refine(Xb (HM.out.1.low HB.out.1) hn (HM.out.1.NT HM.out.2.1 hn)).mono ?_;rintro e w3 ⟨rfl,hb3⟩;have HB3:=Z5 (HB.out.1.trans (hb3.mono HB.out.1.size));unfold Np;clear hb3;go_wp2_with fail
 go_ret;rw[HR.out];exact Ya HB3.out (A.behind n)
end
end
section
section
variable {w w':World} {lo p:Nat} {A:Tr}
theorem Qv.low {qs:List Pl} {W W1 w:World} {e:Ending} (h:Qv qs W1 e w) (hb:Below W.heap.size W W1):Qv qs W e w:=let⟨v,h1,h2,h3⟩:=h;⟨v,h1,Yp h2 hb.size,hb.trans (h3.mono hb.size)⟩
theorem EK (M:QW w lo p A) (W:Wf A) {n:Nat} (hn:n < A.ns.length):Calls prog 111 #[p,.int .i64 n] w (Qv [A.begun n] w):=by
 obtain⟨g,cap,X,vb,ve,vc,cv,tv,ov,UX,hgl,hpl,hone,hX,hfx⟩:=M.Qx hn;have hA:A.begun n=if X.self≠ -1 then⟨6,X.self,0⟩else if X.ini≠ -1 then⟨6,X.ini,0⟩else A.entered n:=by unfold Tr.begun;rw[UX.out]
 obtain⟨R,hR⟩: ∃ R:Pl,R=A.begun n:=⟨_,rfl⟩
 rw[<-hR];rw[hA]at hR;have HR:=Z5 hR;clear hR;have Ib:=Z5 hone;have JJ:=Z5 hfx;have HM:=Zl M W;clear hfx hone hX UX hA M W;go_enter func111,ntmps111;go_upto_region 1 with fail
 refine Tj 7 5 6 79 Tf (ZQ X vb ve vc cv tv ov) rfl rfl rfl rfl rfl rfl rfl rfl XR rfl Wk Ib.out ?_
 iterate 6
  refine⟨_,?_,rfl,rfl,.inl ⟨by rfl,fun w' hb=>?_⟩,?_⟩
  rotate_left
  .obtain⟨e0,e1⟩:=JJ.out w' hb;go_simp;try with_reducible rfl
  simp only[Act.put,ZK,Zp,Zo]
 refine⟨_,_,rfl,rfl,yieldsIf_load_mid (by rfl) 79 _ rfl g (n*24) rfl _ _ (fun w' hb=>(JJ.out w' hb).2) underlying79 rfl Wk,?_⟩;simp only[Act.put,ZK,Zp,Zo];refine⟨rfl,rfl,fun w2 hb2 hf2=>?_⟩;simp only[Act.put,ZK,Zp,Zo];have d14:=hb2.cell 14 rfl;have d15:=hb2.cell 15 rfl;have HB:=Z5 hf2;clear JJ hb2 hf2;generalize X.self=sf at*;generalize X.ini=ni at*;by_cases h1:sf= -1
 .subst h1;by_cases h2:ni= -1
  .subst h2;have HRn:=Z5 (show R=A.entered n by rw[HR.out,if_neg (by simp),if_neg (by simp)]);clear HR;go_wp2_with fail
   refine(JQ (HM.out.1.low HB.out) HM.out.2 hn).mono ?_;rintro e w3 ⟨v,rfl,hv,hb3⟩;have HV:=Z5 (show Qv [A.entered n] w (.returned v) w3 from Qv.low ⟨v,rfl,hv,hb3⟩ HB.out);obtain⟨ga,cca,rfl⟩:=XM hv (by simp);clear hv hb3;go_wp2_with fail
   go_ret;rw[HRn.out];exact HV.out
  .have HRn:=Z5 (show R=⟨6,ni,0⟩by rw[HR.out,if_neg (by simp),if_pos h2]);clear HR;have k2:(ni != -1)=true:=by simp[h2]
   clear h2;go_wp2_with fail
   go_ret;rw[HRn.out];exact Ya HB.out ⟨6,ni,0⟩
 .have HRn:=Z5 (show R=⟨6,sf,0⟩by rw[HR.out,if_pos h1]);clear HR;have k1:(sf != -1)=true:=by simp[h1]
  clear h1;go_wp2_with fail
  go_ret;rw[HRn.out];exact Ya HB.out ⟨6,sf,0⟩
end
end
end
section
section
theorem Gb:(prog.info? 118).map (fun i=>(i.zero,i.size,i.bytes))=some (some (.agg #[.int .i64 0,.int .i64 0,.int .i64 0]),3,24):=by kernel_rfl
def EJ (cs:List V1) (k:Nat):List Value:=((cs.take k).map fun c=>Pl.cl ⟨1,c.list,0⟩).flatten
def uZ (w:World) (b0:Bool) (cs:List V1) (v b ix:Value) (wr:World):Prop:= ∃ k:Nat,ix=.int .i64 k/\k<=cs.length/\b=.bool (b0||(cs.take k).any (fun c=>c.plain))/\wr.ownsRow w.heap.size 118 3 v k (EJ cs k)/\Below w.heap.size w wr
theorem xB {cs:List V1} {k:Nat} {c:V1} (h:cs[k]? =some c):EJ cs (k+1)=EJ cs k++ [.int .i64 1,.int .i64 c.list,.int .i64 0]/\(cs.take (k+1)).any (fun c=>c.plain)=((cs.take k).any (fun c=>c.plain)||c.plain):=by
 unfold EJ;rw[List.take_add_one,h];simp[Pl.cl]
section
variable {w w':World} {lo p:Nat} {A:Tr}
theorem Ia (M:QW w lo p A) (W:Wf A) {n:Nat} (hn:n < A.ns.length) (hnc:(A.nd n).choices.length<=200000):Calls prog 114 #[p,.int .i64 n] w (Qv (A.chosen n) w):=by
 obtain⟨g,cap,X,vb,ve,vc,cv,tv,ov,UX,hgl,hpl,hone,hX,hfx⟩:=M.Qx hn;have hcv:=hX.cv;obtain⟨ac,cc,rfl⟩:=ZR hcv;have hch:(A.nd n).choices=X.choices:=by rw[UX.out]
 have hkd:A.kd n=X.h.kind:=by rw[UX.out];rfl
 have HR:=Z5 (show A.chosen n=X.choices.map (fun c=>(⟨1,c.list,0⟩:Pl))++(if X.h.kind=15\/X.choices.any (fun c=>c.plain)=true then []else [A.behind n])by unfold Tr.chosen;rw[hch,hkd]);obtain⟨R,hR⟩: ∃ R:List Pl,Hid (R=A.chosen n):=⟨_,Z5 rfl⟩
 rw[<-hR.out];rw[hch]at hnc;obtain⟨e0,e1⟩:=hfx w (ZN _ _);have e2:w.cell? ⟨g,n*24,none⟩=some (.int .i64 X.h.kind):=e1 0 _ rfl;have e1:w.cell? ⟨g,n*24+20,none⟩=some (.slice ac X.choices.length cc):=e1 20 _ rfl;have HC:=Xp hcv M hn (M.NT W hn);clear hfx hone hX UX M W hch hcv hkd;generalize X.h.kind=kd at*;obtain⟨cs,hcs⟩: ∃ cs,cs=X.choices:=⟨_,rfl⟩
 rw[<-hcs]at e1 hnc HC HR;clear hcs;obtain⟨b0,hb0⟩: ∃ b0,Hid (b0=(kd==15)):=⟨_,Z5 rfl⟩
 go_enter func114,ntmps114;go_wp2_with fail
 rw[<-hb0.out]
 go_loopw [5,6,28] (fun v b ix wr=>uZ w b0 cs v b ix wr) (fun _ _ ix _=>cs.length -(intOf ix).toNat)
 case atStart=>exact⟨0,rfl,by omega,by simp,⟨rfl,.inl ⟨rfl,rfl⟩⟩,ZN _ _⟩
 case round=>
  obtain⟨k,rfl,hk,rfl,hown,hbw⟩:=hrel;have hsz:=hbw.size;by_cases hlt:k < cs.length
  .obtain⟨gc,cc',hgc⟩:=XM HC.out.1 (by omega);cases hgc;obtain⟨C,hC⟩: ∃ C:V1,C=cs[k]:=⟨_,rfl⟩
   have hc:cs[k]? =some C:=by rw[hC];exact Z9 hlt
   have hq: ∀ j v,C.cells[j]? =some v->wr.cell? ⟨gc,k*3+j,none⟩=some v:=by
    intro j v hv;have hj:j < 3:=by obtain⟨h,_⟩:=Z1.1 hv;exact h
    have h1:=ZF HC.out.1 (k*3+j) (by omega);rw[(hbw.cell (p:=⟨gc,k*3+j,none⟩) (HC.out.1.lt gc rfl).2).trans h1,Rh (n:=3) (f:=V1.cells) (fun _=>rfl) hc hj,hv]
   have q0:wr.cell? ⟨gc,k*3,none⟩=some (.int .i64 C.number):=hq 0 _ rfl;have q1:wr.cell? ⟨gc,k*3+1,none⟩=some (.int .i64 C.list):=hq 1 _ rfl;have q2:wr.cell? ⟨gc,k*3+2,none⟩=some (.bool C.plain):=hq 2 _ rfl;have HT:=Z5 (xB hc);have HO:=Zl hown hbw;have ho2:=Z5 (hown.alloc (.cells [.int .i64 C.number,.int .i64 C.list,.bool C.plain].toArray 110));have hbk:=Z5 (ZD.new wr [.int .i64 C.number,.int .i64 C.list,C.plain] 110);obtain⟨av,cpv,rfl⟩:=ZR hown;clear hc hC hq hown hbw;generalize C.number=cn at*;generalize C.list=cl at*;generalize C.plain=cp at*;obtain⟨bk,BA⟩: ∃ bk,Hid (bk=(b0||(cs.take k).any (fun c=>c.plain))):=⟨_,Z5 rfl⟩
   rw[<-BA.out];go_wp2_with (at_builtin;go_loud (refine Ze (wr.alloc _) rfl _ _ 119 rfl w.heap.size 118 (.agg #[.int .i64 0,.int .i64 0,.int .i64 0]) 3 24 underlying119 Gb rfl (by decide) (by decide) ho2.out (by rfl) [.int .i64 1,.int .i64 cl,.int .i64 0] rfl ?c1 (by simp;rfl) (by omega) (by simp;omega) ?_))
   case c1=>simp[Value.oneCell']
   intro g6 cap6 w6 hown6 UT VW Mm;have hb6:=hbk.out.grown UT (own_ne ho2.out hbk.out.ty (by decide));have u2:=hb6.cell 2 rfl;have HW:=Zl hown6 UT;clear hown6 UT VW hb6;have uY: ∀ b,b=(bk||cp)->uZ w b0 cs (.slice (some ⟨g6,0,none⟩) (k+1) cap6) (.bool b) (.int .i64 ((k:Int)+1)) w6:=fun b hb=>⟨k+1,by simp,by omega,by rw[hb,BA.out,HT.out.2,Bool.or_assoc],by rw[HT.out.1];exact HW.out.1,(HO.out.2.alloc hsz _).grown HW.out.2 (by simp;omega) (fun x hx=>(HO.out.1.lt x hx).1)⟩
   have HR2:=Z5 uY;clear uY;cases bk
   .go_wp2_with fail
    exact⟨HR2.out cp rfl,by simp[intOf];omega⟩
   .go_wp2_with fail
    exact⟨HR2.out true rfl,by simp[intOf];omega⟩
  .obtain rfl:k=cs.length:=by omega
   have hal:EJ cs cs.length=((cs.map (fun c=>(⟨1,c.list,0⟩:Pl))).map Pl.cl).flatten:=by simp[EJ,List.map_map,Function.comp_def]
   have HO:=X7 hown hbw hal;obtain⟨av,cpv,rfl⟩:=ZR hown;rw[List.take_length];have hP:(b0||cs.any (fun c=>c.plain))=true↔(kd=15\/cs.any (fun c=>c.plain)=true):=by rw[hb0.out];simp
   obtain⟨bk,BA⟩: ∃ bk,bk=(b0||cs.any (fun c=>c.plain)):=⟨_,rfl⟩
   rw[<-BA]at hP ⊢;have HP:=Z5 hP;clear hP BA hown hbw hal;cases bk
   .have HRn:=Z5 (show R=cs.map (fun c=>(⟨1,c.list,0⟩:Pl))++ [A.behind n]by rw[hR.out,HR.out,if_neg (fun h=>absurd (HP.out.2 h) (by decide))]);go_wp2_with fail
    refine(Xb (HC.out.2.1.low HO.out.2.1) HC.out.2.2.1 HC.out.2.2.2).mono ?_;rintro e w3 ⟨rfl,hb3⟩;have ho3:=Z5 (own_below HO.out.1 hb3 (fun x hx=>(HO.out.1.lt x hx).2));have hs3:=hb3.size;have HB3:=Z5 (HO.out.2.1.trans (hb3.mono hsz));unfold Np;clear hb3;go_wp2_with (at_builtin;go_loud (refine Ze w3 rfl _ _ 119 rfl w.heap.size 118 (.agg #[.int .i64 0,.int .i64 0,.int .i64 0]) 3 24 underlying119 Gb rfl (by decide) (by decide) ho3.out (by rfl) [.int .i64 (A.behind n).op,.int .i64 (A.behind n).a,.int .i64 (A.behind n).b] rfl ?c1 (by rfl) (by omega) (by omega) ?_))
    case c1=>simp[Value.oneCell']
    intro g6 cap6 w6 hown6 UT VW Mm;have HW:=Zl hown6 UT;clear hown6 UT VW;go_wp2_with fail
    go_ret;rw[HRn.out];refine⟨_,rfl,?_,HB3.out.grown HW.out.2 (by omega) (fun x hx=>(ho3.out.lt x hx).1)⟩;have h1:=HW.out.1;rw[HO.out.2.2]at h1;simpa [Pl.cl]using h1
   .have HRn:=Z5 (show R=cs.map (fun c=>(⟨1,c.list,0⟩:Pl))by rw[hR.out,HR.out,if_pos (HP.out.1 rfl),Y9]);go_wp2_with fail
    go_ret;rw[HRn.out];refine⟨_,rfl,?_,HO.out.2.1⟩;have h1:=HO.out.1;rw[HO.out.2.2]at h1;simpa using h1
end
end
section
def qA (r:List Pl × Option Int) (W:World) (e:Ending) (w':World):Prop:= ∃ v,e=.returned (.tuple #[v,.int .i64 (r.2.getD (-1))])/\w'.ownsRow W.heap.size 118 3 v r.1.length (r.1.map Pl.cl).flatten/\Below W.heap.size W w'
section
variable {w w':World} {lo p:Nat} {A:Tr}
theorem HU (M:QW w lo p A) (W:Wf A) {n:Nat} (hn:n < A.ns.length) (hnc:(A.nd n).choices.length<=200000):Calls prog 91 #[p,.agg #[.int .i64 4,.int .i64 n,.int .i64 0]] w (qA (A.mv ⟨4,n,0⟩) w):=by
 have HM:=X7 M W hnc;have hb1:Below w.heap.size w (w.alloc (.cells [.int .i64 4,.int .i64 n,.int .i64 0].toArray 118)):=(ZN _ _).alloc (Z7 _) _;have HB:=Z5 hb1;obtain⟨r,hr⟩: ∃ r,Hid (r=A.mv ⟨4,n,0⟩):=⟨_,Z5 rfl⟩
 rw[<-hr.out];have HR:=Z5 (show r=(A.chosen n,none)by rw[hr.out];rfl);clear M W hnc hb1;go_enter func91,ntmps91;go_wp2_with fail
 refine(Ia (HM.out.1.low HB.out) HM.out.2.1 hn HM.out.2.2).mono ?_;rintro e w3 ⟨v,rfl,hv,hb3⟩;have HV:=Zl hv hb3;obtain⟨ga,cca,rfl⟩:=ZR hv;clear hv hb3;go_wp2_with fail
 go_ret2
 rw[HR.out];exact⟨_,rfl,Yp HV.out.1 (by simp),HB.out.trans (HV.out.2.mono (by simp))⟩
theorem HJ (n:Nat):Calls prog 91 #[p,.agg #[.int .i64 6,.int .i64 n,.int .i64 0]] w (qA (A.mv ⟨6,n,0⟩) w):=by
 have hb1:Below w.heap.size w (w.alloc (.cells [.int .i64 6,.int .i64 n,.int .i64 0].toArray 118)):=(ZN _ _).alloc (Z7 _) _;have HB:=Z5 hb1;obtain⟨r,hr⟩: ∃ r,Hid (r=A.mv ⟨6,n,0⟩):=⟨_,Z5 rfl⟩
 rw[<-hr.out];have HR:=Z5 (show r=([],some (n:Int))by rw[hr.out];rfl);have hS:=fun w' (hb:Below (w.heap.size+1) (w.alloc (.cells [.int .i64 6,.int .i64 n,.int .i64 0].toArray 118)) w')=>(hb.cell (p:=⟨w.heap.size,1,none⟩) (by simp)).trans ((ZD.new w [.int .i64 6,.int .i64 n,.int .i64 0] 118).cell 1 rfl);have hS0:=hS _ (ZN _ _).drew;clear hb1 hS;go_enter func91,ntmps91;go_wp2_with fail
 go_region_held3 (fun w':World=>w'.cell? ⟨w.heap.size,1,none⟩=some (.int .i64 (n:Int))) (first|exact hS0|go_keep) (fail)
 go_wp2_with fail
 go_ret2
 rw[HR.out];exact⟨_,rfl,⟨rfl,.inl ⟨rfl,rfl⟩⟩,HB.out.drew⟩
theorem Bz {W w:World} (h:Below W.heap.size W w) (p q:Pl):w.alloc (.cells #[.int .i64 p.op,.int .i64 p.a,.int .i64 p.b,.int .i64 q.op,.int .i64 q.a,.int .i64 q.b] 118) |>.ownsRow W.heap.size 118 3 (.slice (some ⟨w.heap.size,0,none⟩) 2 2) 2 ([p,q].map Pl.cl).flatten:=
 ⟨rfl,.inr ⟨w.heap.size,2,_,rfl,h.size,heap_alloc_new w _,by simp,by decide,rfl,rfl⟩⟩
theorem Hz (M:QW w lo p A) (W:Wf A) {n:Nat} (hn:n < A.ns.length):Calls prog 91 #[p,.agg #[.int .i64 5,.int .i64 n,.int .i64 0]] w (qA (A.mv ⟨5,n,0⟩) w):=by
 obtain⟨g,cap,X,vb,ve,vc,cv,tv,ov,UX,hgl,hpl,hone,hX,hfx⟩:=M.Qx hn;have hb1:Below w.heap.size w (w.alloc (.cells [.int .i64 5,.int .i64 n,.int .i64 0].toArray 118)):=(ZN _ _).alloc (Z7 _) _;have HB:=Z5 hb1;have hbd:X.body=(A.nd n).body:=by rw[UX.out]
 obtain⟨r,hr⟩: ∃ r,Hid (r=A.mv ⟨5,n,0⟩):=⟨_,Z5 rfl⟩
 rw[<-hr.out];have HR:=Z5 (show r=([⟨1,X.body,0⟩,A.behind n],none)by rw[hr.out,hbd];rfl);have hS:=fun w' (hb:Below (w.heap.size+1) (w.alloc (.cells [.int .i64 5,.int .i64 n,.int .i64 0].toArray 118)) w')=>(And.intro ((hb.cell (p:=⟨w.heap.size,1,none⟩) (by simp)).trans ((ZD.new w [.int .i64 5,.int .i64 n,.int .i64 0] 118).cell 1 rfl)) (And.intro (hfx w' (hb1.trans (hb.mono (by omega)))).1 ((hfx w' (hb1.trans (hb.mono (by omega)))).2 18 _ rfl)))
 have hS0:=hS _ (ZN _ _).drew;have HS:=Z5 hS;have HC:=Z5 (Xb ((M.low hb1).low (ZN _ _).drew) hn (M.NT W hn));clear hb1 hS hfx hX hone UX hbd M W;generalize X.body=bd at*;go_enter func91,ntmps91;go_wp2_with fail
 go_region_held3 (fun w':World=>w'.cell? ⟨w.heap.size,1,none⟩=some (.int .i64 (n:Int))/\w'.cell? ⟨p,1,none⟩=some (.slice (some ⟨g,0,none⟩) A.ns.length cap)/\w'.cell? ⟨g,n*24+18,none⟩=some (.int .i64 bd)) (first|exact hS0|exact hS2|go_keep) (first|((go_at_call 76;refine HC.out.mono ?_;unfold Np;rintro e wx ⟨rfl,hbx⟩;have hbx2:=(ZN _ _).drew.trans hbx;have hS2:=HS.out wx (hbx2.mono (by simp));have HX:=Z5 (HB.out.trans (hbx2.mono (by simp))))))
 go_wp2_with fail
 go_ret2
 rw[HR.out];exact⟨_,rfl,Bz HX.out ⟨1,bd,0⟩ (A.behind n),HX.out.alloc HX.out.size _⟩
theorem Hy (M:QW w lo p A) {n:Nat} (hn:n < A.ns.length):Calls prog 91 #[p,.agg #[.int .i64 2,.int .i64 n,.int .i64 0]] w (qA (A.mv ⟨2,n,0⟩) w):=by
 obtain⟨g,cap,X,vb,ve,vc,cv,tv,ov,UX,hgl,hpl,hone,hX,hfx⟩:=M.Qx hn;have hb1:Below w.heap.size w (w.alloc (.cells [.int .i64 2,.int .i64 n,.int .i64 0].toArray 118)):=(ZN _ _).alloc (Z7 _) _;have HB:=Z5 hb1;have hbd:X.body=(A.nd n).body:=by rw[UX.out]
 have hcd:X.cnd=(A.nd n).cnd:=by rw[UX.out]
 obtain⟨r,hr⟩: ∃ r,Hid (r=A.mv ⟨2,n,0⟩):=⟨_,Z5 rfl⟩
 rw[<-hr.out];have HR:=Z5 (show r=if X.cnd= -1 then([⟨1,X.body,0⟩],none)else([],some X.cnd)by rw[hr.out,hbd,hcd];rfl);have hz1:(w.alloc (.cells [.int .i64 2,.int .i64 n,.int .i64 0].toArray 118)).heap.size=w.heap.size+1:=by simp
 have hS:=fun w' (hb:Below (w.heap.size+1) (w.alloc (.cells [.int .i64 2,.int .i64 n,.int .i64 0].toArray 118)) w')=>(And.intro ((hb.cell (p:=⟨w.heap.size,1,none⟩) (by simp)).trans ((ZD.new w [.int .i64 2,.int .i64 n,.int .i64 0] 118).cell 1 rfl)) (And.intro (hfx w' (hb1.trans (hb.mono (by omega)))).1 ((hfx w' (hb1.trans (hb.mono (by omega)))).2)))
 have HS:=Z5 hS;have Ib:=Z5 hone;clear hb1 hS hfx hX hone UX hbd hcd M;go_enter func91,ntmps91;go_wp2_with fail
 refine Qe 8 6 57 79 Tf (ZQ X vb ve vc cv tv ov) (by intro d _ _ _ _ h;cases d<;>exact h) rfl rfl rfl rfl rfl rfl rfl rfl XR rfl Wk Ib.out ?_
 iterate 7
  refine⟨_,?_,rfl,rfl,.inl ⟨by rfl,fun w' hb=>?_⟩,?_⟩
  rotate_left
  .obtain⟨e0,e1,_⟩:=HS.out w' (hb.mono (by simp));go_simp;try with_reducible rfl
  simp only[Act.put,ZK,Zp,Zo]
 refine⟨_,_,rfl,rfl,yieldsIf_load_mid (by rfl) 79 _ rfl g (n*24) rfl _ _ (fun w' hb=>(HS.out w' (hb.mono (by simp))).2.2) underlying79 rfl Wk,?_⟩;simp only[Act.put,ZK,Zp,Zo];refine⟨rfl,rfl,fun w2 hb2 hf2=>?_⟩;simp only[Act.put,ZK,Zp,Zo];rw[hz1]at hb2 hf2 ⊢;have hW:=HB.out.trans (hf2.mono (by omega));have HW:=Z5 hW;have d16:=hb2.cell 16 rfl;have fI:=hb2.cell 18 rfl;obtain⟨x0,x1,x2⟩:=HS.out w2.drew hf2.drew;have x2:w2.drew.cell? ⟨g,n*24+16,none⟩=some (.int .i64 X.cnd):=x2 16 _ rfl;have hS0:=And.intro x0 (And.intro x1 x2);clear x0 x1 x2 hb2 hf2 hW hz1;generalize X.cnd=cd at*;generalize X.body=bd at*;by_cases hc:cd= -1
 .subst hc;have HRn:=Z5 (show r=([⟨1,bd,0⟩],none)by rw[HR.out,if_pos rfl]);clear HR;go_wp2_with fail
  go_ret2
  rw[HRn.out];obtain⟨v,h1,h2,h3⟩:=Ya HW.out ⟨1,bd,0⟩;cases h1;exact⟨_,rfl,h2,h3⟩
 .have HRn:=Z5 (show r=([],some cd)by rw[HR.out,if_neg hc]);clear HR;have kc:(cd== -1)=false:=by simp[hc]
  clear hc;go_wp2_with fail
  go_region_held3 (fun w':World=>w'.cell? ⟨w.heap.size,1,none⟩=some (.int .i64 (n:Int))/\w'.cell? ⟨p,1,none⟩=some (.slice (some ⟨g,0,none⟩) A.ns.length cap)/\w'.cell? ⟨g,n*24+16,none⟩=some (.int .i64 cd)) (first|exact hS0|go_keep) (fail)
  go_wp2_with fail
  go_ret2
  rw[HRn.out];exact⟨_,rfl,⟨rfl,.inl ⟨rfl,rfl⟩⟩,HW.out.drew⟩
theorem Hu (M:QW w lo p A) (W:Wf A) {n b:Nat} (hn:n < A.ns.length) (hnc:(A.nd n).choices.length<=200000):Calls prog 91 #[p,.agg #[.int .i64 3,.int .i64 n,.int .i64 b]] w (qA (A.mv ⟨3,n,b⟩) w):=by
 obtain⟨g,cap,X,vb,ve,vc,cv,tv,ov,UX,hgl,hpl,hone,hX,hfx⟩:=M.Qx hn;have hb1:Below w.heap.size w (w.alloc (.cells [.int .i64 3,.int .i64 n,.int .i64 b].toArray 118)):=(ZN _ _).alloc (Z7 _) _;have HB:=Z5 hb1;have hte:X.tests=(A.nd n).tests:=by rw[UX.out]
 have UH:=hX.tv;obtain⟨at',ct,rfl⟩:=ZR UH;obtain⟨r,hr⟩: ∃ r,Hid (r=A.mv ⟨3,n,b⟩):=⟨_,Z5 rfl⟩
 rw[<-hr.out];have HR:=Z5 (show r=if(b:Int) < (X.tests.length:Int)then([],some (X.tests.getD b 0))else([A.failed n],none)by rw[hr.out,hte];rfl);have hz1:(w.alloc (.cells [.int .i64 3,.int .i64 n,.int .i64 b].toArray 118)).heap.size=w.heap.size+1:=by simp
 have hS:=fun w' (hb:Below (w.heap.size+1) (w.alloc (.cells [.int .i64 3,.int .i64 n,.int .i64 b].toArray 118)) w')=>(And.intro ((hb.cell (p:=⟨w.heap.size,1,none⟩) (by simp)).trans ((ZD.new w [.int .i64 3,.int .i64 n,.int .i64 b] 118).cell 1 rfl)) (And.intro (hfx w' (hb1.trans (hb.mono (by omega)))).1 ((hfx w' (hb1.trans (hb.mono (by omega)))).2)))
 have HS:=Z5 hS;have Ib:=Z5 hone;have HM:=Xp M W hnc UH;have hbx:=Z5 (fun w' (hb:Below (w.heap.size+1) (w.alloc (.cells [.int .i64 3,.int .i64 n,.int .i64 b].toArray 118)) w')=>(hb.cell (p:=⟨w.heap.size,2,none⟩) (by simp)).trans ((ZD.new w [.int .i64 3,.int .i64 n,.int .i64 b] 118).cell 2 rfl));clear hb1 hS hfx hX hone UX hte M W hnc UH;go_enter func91,ntmps91;go_wp2_with fail
 refine Qe 8 7 83 79 Tf (ZQ X vb ve vc cv (.slice at' X.tests.length ct) ov) (by intro d _ _ _ _ h;cases d<;>exact h) rfl rfl rfl rfl rfl rfl rfl rfl XR rfl Wk Ib.out ?_
 iterate 7
  refine⟨_,?_,rfl,rfl,.inl ⟨by rfl,fun w' hb=>?_⟩,?_⟩
  rotate_left
  .obtain⟨e0,e1,_⟩:=HS.out w' (hb.mono (by simp));go_simp;try with_reducible rfl
  simp only[Act.put,ZK,Zp,Zo]
 refine⟨_,_,rfl,rfl,yieldsIf_load_mid (by rfl) 79 _ rfl g (n*24) rfl _ _ (fun w' hb=>(HS.out w' (hb.mono (by simp))).2.2) underlying79 rfl Wk,?_⟩;simp only[Act.put,ZK,Zp,Zo];refine⟨rfl,rfl,fun w2 hb2 hf2=>?_⟩;simp only[Act.put,ZK,Zp,Zo];rw[hz1]at hb2 hf2 ⊢;have HW:=Z5 (HB.out.trans (hf2.mono (by omega)));have d21:=hb2.cell 21 rfl;have x2:=hbx.out w2 hf2;have HK:=Zl hf2 hb2;have hne:=hb2.lt;by_cases hlt:b < X.tests.length
 .obtain⟨gt,ct',hgt⟩:=XM HM.out.2.2.2 (by omega);cases hgt;have hv:X.tests.getD b 0=X.tests[b]:=by rw[Zy,Z9 hlt];rfl
  have HRn:=Z5 (show r=([],some X.tests[b])by rw[HR.out,if_pos (by omega),hv]);clear HR hv;have t1:w2.drew.cell? ⟨gt,b,none⟩=some (.int .i64 X.tests[b]):=(HW.out.drew.cell (p:=⟨gt,b,none⟩) (HM.out.2.2.2.lt gt rfl).2).trans (by rw[ZF HM.out.2.2.2 b (by omega),Yt,Z9 hlt];rfl);have x3:=hbx.out w2.drew hf2.drew;have x4:w2.drew.cell? ⟨w.heap.size+1,21,none⟩=_:=hb2.drew.cell 21 rfl;have hS0:=And.intro x3 (And.intro x4 t1);clear x3 x4 t1 hb2 hf2 hz1;generalize X.tests[b]=tb at*;go_wp2_with fail
  go_region_held3 (fun w':World=>w'.cell? ⟨w.heap.size,2,none⟩=some (.int .i64 (b:Int))/\w'.cell? ⟨w.heap.size+1,21,none⟩=some (.slice (some ⟨gt,0,none⟩) X.tests.length ct)/\w'.cell? ⟨gt,b,none⟩=some (.int .i64 tb)) (first|exact hS0|go_keep) (fail)
  go_wp2_with fail
  go_ret2
  rw[HRn.out];exact⟨_,rfl,⟨rfl,.inl ⟨rfl,rfl⟩⟩,HW.out.drew⟩
 .have HRn:=Z5 (show r=([A.failed n],none)by rw[HR.out,if_neg (by omega)]);clear HR;have x1:=(HS.out w2 hf2).1;have HC:=Z5 (Ic (HM.out.1.low HW.out) HM.out.2.1 hn HM.out.2.2.1);clear hb2 hf2 hz1;go_wp2_with fail
  refine HC.out.mono ?_;unfold Np;rintro e w3 ⟨rfl,hb3⟩;have HX:=Z5 (HW.out.trans (hb3.mono HW.out.size));clear hb3;go_wp2_with fail
  go_ret2
  rw[HRn.out];obtain⟨v,h1,h2,h3⟩:=Ya HX.out (A.failed n);cases h1;exact⟨_,rfl,h2,h3⟩
end
end
section
section
variable {w w':World} {lo p:Nat} {A:Tr}
theorem Ho (M:QW w lo p A) (W:Wf A) {l b:Nat} (hl:l < A.rs.length):Calls prog 91 #[p,.agg #[.int .i64 1,.int .i64 l,.int .i64 b]] w (qA (A.mv ⟨1,l,b⟩) w):=by
 obtain⟨gr,cr,iv,hgr,hpl,hX,hfr⟩:=M.qF hl;have hiv:=hX.iv;obtain⟨ai,ci,rfl⟩:=ZR hiv;obtain⟨w1,hw1⟩: ∃ w1,w1=w.alloc (.cells [.int .i64 1,.int .i64 l,.int .i64 b].toArray 118):=⟨_,rfl⟩
 have hb1:Below w.heap.size w w1:=by rw[hw1];exact(ZN _ _).alloc (Z7 _) _
 have hk1:ZD w1 w.heap.size [.int .i64 1,.int .i64 l,.int .i64 b] 118:=by rw[hw1];exact ZD.new w _ 118
 have hz1:w1.heap.size=w.heap.size+1:=by rw[hw1];simp
 have hS:=fun w' (hb:Below w1.heap.size w1 w')=>(show(w'.cell? ⟨w.heap.size,1,none⟩=some (.int .i64 (l:Int))/\w'.cell? ⟨w.heap.size,2,none⟩=some (.int .i64 (b:Int))/\w'.cell? ⟨p,2,none⟩=some (.slice (some ⟨gr,0,none⟩) A.rs.length cr)/\w'.cell? ⟨gr,l*3,none⟩=some (.int .i64 (A.rw l).owner)/\w'.cell? ⟨gr,l*3+2,none⟩=some (.slice ai (A.rw l).nodes.length ci))by
  have h1:=hfr w' (hb1.trans (hb.mono (by omega)));exact⟨(hb.cell (p:=⟨w.heap.size,1,none⟩) hk1.lt).trans (hk1.cell 1 rfl),(hb.cell (p:=⟨w.heap.size,2,none⟩) hk1.lt).trans (hk1.cell 2 rfl),h1.1,h1.2 0 _ rfl,h1.2 2 _ rfl⟩)
 obtain⟨r,hr⟩: ∃ r,Hid (r=A.mv ⟨1,l,b⟩):=⟨_,Z5 rfl⟩
 rw[<-hr.out];have HR:=Z5 (show r=if(b:Int) < ((A.rw l).nodes.length:Int)then([A.begun ((A.rw l).nodes.getD b 0)],none)else if(A.rw l).owner= -1 then([],some (-2))else([A.left l],none)by rw[hr.out];rfl);have hd1:Below w1.heap.size w1 w1.drew:=(ZN _ _).drew;have hS0:=hS _ hd1;have hS1:=hS _ hd1.drew;have HB:=Z5 hb1;have HS:=Z5 hS;have HM:=X7 M W hiv;have hbz:=Z5 hz1;clear hb1 hk1 hS hfr hX M W hiv hd1 hz1;subst hw1;go_enter func91,ntmps91;by_cases hlt:b < (A.rw l).nodes.length
 .obtain⟨gi,ci',hgi⟩:=XM HM.out.2.2 (by omega);cases hgi;obtain⟨k,hk,hkl⟩:=((HM.out.2.1.rw (n:=(l:Int)) ⟨by omega,by omega⟩).nodes _ (List.getElem_mem hlt)).cast;have hv:(A.rw l).nodes.getD b 0=(k:Int):=by rw[Zy,Z9 hlt];exact hk
  have HRn:=Z5 (show r=([A.begun k],none)by rw[HR.out,if_pos (by omega),hv]);clear HR hv;have HT:=Z5 (fun w' (hb:Below w.heap.size w w')=>(show w'.cell? ⟨gi,b,none⟩=some (.int .i64 (k:Int))from(hb.cell (p:=⟨gi,b,none⟩) (HM.out.2.2.lt gi rfl).2).trans (by rw[ZF HM.out.2.2 b (by omega),Yt,Z9 hlt,<-hk];rfl)));have hT1:=HT.out _ HB.out.drew.drew;have Z9i:=And.intro hS1.1 (And.intro hS1.2.1 (And.intro hS1.2.2.1 (And.intro hS1.2.2.2.2 hT1)));have Z9h:=And.intro hS0.1 (And.intro hS0.2.1 (And.intro hS0.2.2.1 hS0.2.2.2.2));clear hS0 hS1 hT1;have HC:=Z5 (EK ((HM.out.1.low HB.out).low ((ZN _ _).drew.drew)) HM.out.2.1 hkl);have hki:=Z5 hk;clear hk;go_wp2_with fail
  go_region_held3 (fun w':World=>w'.cell? ⟨w.heap.size,1,none⟩=some (.int .i64 (l:Int))/\w'.cell? ⟨w.heap.size,2,none⟩=some (.int .i64 (b:Int))/\w'.cell? ⟨p,2,none⟩=some (.slice (some ⟨gr,0,none⟩) A.rs.length cr)/\w'.cell? ⟨gr,l*3+2,none⟩=some (.slice (some ⟨gi,0,none⟩) (A.rw (l:Int)).nodes.length ci)) (first|exact Z9h|go_keep) (fail)
  go_wp2_with fail
  go_region_held3 (fun w':World=>w'.cell? ⟨w.heap.size,1,none⟩=some (.int .i64 (l:Int))/\w'.cell? ⟨w.heap.size,2,none⟩=some (.int .i64 (b:Int))/\w'.cell? ⟨p,2,none⟩=some (.slice (some ⟨gr,0,none⟩) A.rs.length cr)/\w'.cell? ⟨gr,l*3+2,none⟩=some (.slice (some ⟨gi,0,none⟩) (A.rw (l:Int)).nodes.length ci)/\w'.cell? ⟨gi,b,none⟩=some (.int .i64 (k:Int))) (first|exact Z9i|exact hS2|go_keep) (first|((go_at_call 111;refine HC.out.mono ?_;rintro e wx ⟨v,rfl,hv,hbx⟩;obtain⟨av,cv,rfl⟩:=ZR hv;have hbx2:=(ZN _ _).drew.drew.trans hbx;have hS3:=HS.out wx hbx2;have hS2:=And.intro hS3.1 (And.intro hS3.2.1 (And.intro hS3.2.2.1 (And.intro hS3.2.2.2.2 (HT.out wx (HB.out.trans (hbx2.mono HB.out.size))))));have HX:=Zl hv hbx2;clear hv hbx hbx2 hS3)))
  go_wp2_with fail
  go_ret2
  rw[HRn.out];exact⟨_,rfl,Yp HX.out.1 HB.out.size,HB.out.trans (HX.out.2.mono HB.out.size)⟩
 .have HR2:=Z5 (show r=if(A.rw l).owner= -1 then([],some (-2))else([A.left l],none)by rw[HR.out,if_neg (by omega)]);clear HR;generalize(A.rw (l:Int)).nodes.length=nl at*;have how:=Z5 (show(A.rw (l:Int)).owner=(A.rw (l:Int)).owner from rfl);by_cases ho:(A.rw (l:Int)).owner= -1
  .have HRn:=Z5 (show r=([],some (-2))by rw[HR2.out,if_pos ho]);clear HR2;rw[ho]at hS0 hS1;clear ho how;go_wp2_with fail
   go_region_held3 (fun w':World=>w'.cell? ⟨w.heap.size,1,none⟩=some (.int .i64 (l:Int))/\w'.cell? ⟨w.heap.size,2,none⟩=some (.int .i64 (b:Int))/\w'.cell? ⟨p,2,none⟩=some (.slice (some ⟨gr,0,none⟩) A.rs.length cr)/\w'.cell? ⟨gr,l*3,none⟩=some (.int .i64 (-1))/\w'.cell? ⟨gr,l*3+2,none⟩=some (.slice ai nl ci)) (first|exact hS0|go_keep) (fail)
   go_wp2_with fail
   go_region_held3 (fun w':World=>w'.cell? ⟨w.heap.size,1,none⟩=some (.int .i64 (l:Int))/\w'.cell? ⟨w.heap.size,2,none⟩=some (.int .i64 (b:Int))/\w'.cell? ⟨p,2,none⟩=some (.slice (some ⟨gr,0,none⟩) A.rs.length cr)/\w'.cell? ⟨gr,l*3,none⟩=some (.int .i64 (-1))/\w'.cell? ⟨gr,l*3+2,none⟩=some (.slice ai nl ci)) (first|exact hS1|go_keep) (fail)
   go_wp2_with fail
   go_ret2
   rw[HRn.out];exact⟨_,rfl,⟨rfl,.inl ⟨rfl,rfl⟩⟩,HB.out.drew.drew⟩
  .have HRn:=Z5 (show r=([A.left l],none)by rw[HR2.out,if_neg ho]);clear HR2;have ho0:0<=(A.rw (l:Int)).owner:=by
    rcases(HM.out.2.1.rw (n:=(l:Int)) ⟨by omega,by omega⟩).owner with h|h
    .exact absurd h ho
    .exact h.1
   have HC:=Z5 (BB ((HM.out.1.low HB.out).low ((ZN _ _).drew.drew)) HM.out.2.1 hl ho0);have HD:=Z5 (HB.out.drew.drew);clear how ho0;generalize(A.rw (l:Int)).owner=ow at*;have ko:(ow== -1)=false:=by simp[ho]
   clear ho;go_wp2_with fail
   go_region_held3 (fun w':World=>w'.cell? ⟨w.heap.size,1,none⟩=some (.int .i64 (l:Int))/\w'.cell? ⟨w.heap.size,2,none⟩=some (.int .i64 (b:Int))/\w'.cell? ⟨p,2,none⟩=some (.slice (some ⟨gr,0,none⟩) A.rs.length cr)/\w'.cell? ⟨gr,l*3,none⟩=some (.int .i64 ow)/\w'.cell? ⟨gr,l*3+2,none⟩=some (.slice ai nl ci)) (first|exact hS0|go_keep) (fail)
   go_wp2_with fail
   go_region_held3 (fun w':World=>w'.cell? ⟨w.heap.size,1,none⟩=some (.int .i64 (l:Int))/\w'.cell? ⟨w.heap.size,2,none⟩=some (.int .i64 (b:Int))/\w'.cell? ⟨p,2,none⟩=some (.slice (some ⟨gr,0,none⟩) A.rs.length cr)/\w'.cell? ⟨gr,l*3,none⟩=some (.int .i64 ow)/\w'.cell? ⟨gr,l*3+2,none⟩=some (.slice ai nl ci)) (first|exact hS1|go_keep) (fail)
   go_wp2_with fail
   refine HC.out.mono ?_;unfold Np;rintro e w3 ⟨rfl,hb3⟩;have HX:=Z5 (HD.out.trans (hb3.mono HD.out.size));clear hb3;go_wp2_with fail
   go_ret2
   rw[HRn.out];obtain⟨v,h1,h2,h3⟩:=Ya HX.out (A.left l);cases h1;exact⟨_,rfl,h2,h3⟩
theorem pN (M:QW w lo p A) (W:Wf A) (hnc: ∀ n:Nat,n < A.ns.length->(A.nd n).choices.length<=200000) {q:Pl} (hq:NY A q):Calls prog 91 #[p,Np q] w (qA (A.mv q) w):=by
 obtain⟨o,a,b⟩:=q;unfold Np;rcases hq with⟨h1,h2,h3,_⟩ |⟨h1,h2,_,h3⟩ |⟨h1,h2,h3,_⟩ |⟨h1,h2,h3⟩ |⟨h1,h2,_,h3⟩ |⟨h1,h2,h3⟩;all_goals dsimp only at h1 h2 h3
 all_goals subst h1
 all_goals obtain⟨k,rfl,hk⟩:=h2.cast
 .obtain⟨j,rfl⟩:=Int.eq_ofNat_of_zero_le h3;exact Ho M W hk
 .subst h3;exact Hy M hk
 .obtain⟨j,rfl⟩:=Int.eq_ofNat_of_zero_le h3;exact Hu M W hk (hnc k hk)
 .subst h3;exact HU M W hk (hnc k hk)
 .subst h3;exact Hz M W hk
 .subst h3;exact HJ k
end
end
end
section
section
theorem qz: ∀ t:T,(∀ N R n i a p,∀ x∈(t.rd.l N R n i a p).ns,x.choices.length<=t.wt/\x.tests.length<=t.wt)/\(∀ sw N0 N R n i j k,((t.rd.c sw N0 N R n i j k).Yn.length<=t.wt/\(t.rd.c sw N0 N R n i j k).tests.length<=t.wt)/\ ∀ x∈(t.rd.c sw N0 N R n i j k).ns,x.choices.length<=t.wt/\x.tests.length<=t.wt):=by
 intro t
 induction t with
 |nil=>exact⟨fun _ _ _ _ _ _ x hx=>by simp[T.rd,Out.none]at hx,fun _ _ _ _ _ _ _ _=>by simp[T.rd]⟩
 |st h b e c tl ih1 ih2 ih3 ih4=>
  refine⟨fun N R n i a p x hx=>?_,fun _ _ _ _ _ _ _ _=>by simp[T.rd]⟩;simp only[T.rd,ZM,ZO]at hx;unfold T.wt;rcases hx with rfl|hx|hx|hx|hx
  .dsimp only;exact⟨ZC (ih3.2 _ _ _ _ _ _ _ _).1.1 (by omega),ZC (ih3.2 _ _ _ _ _ _ _ _).1.2 (by omega)⟩
  .split at hx
   .have:=ih1.1 _ _ _ _ _ _ x hx;omega
   .simp[Out.none]at hx
  .split at hx
   .have:=ih2.1 _ _ _ _ _ _ x hx;omega
   .simp[Out.none]at hx
  .have:=(ih3.2 _ _ _ _ _ _ _ _).2 x hx;omega
  .have:=ih4.1 _ _ _ _ _ _ x hx;omega
 |cl y b tl ih1 ih2=>
  refine⟨fun _ _ _ _ _ _ x hx=>by simp[T.rd,Out.none]at hx,fun sw N0 N R n i j k=>⟨?_,fun x hx=>?_⟩⟩
  .simp only[T.rd,ZJ,Z4,Y8,Zf];unfold T.wt;have h3:(if sw=true then y.toNat else 0)<=y.toNat:=by split<;>omega
   exact⟨ZC (Nat.succ_le_succ (ih2.2 _ _ _ _ _ _ _ _).1.1) (by omega),ZC (Nat.add_le_add_left (ih2.2 _ _ _ _ _ _ _ _).1.2 _) (by omega)⟩
  .simp only[T.rd,ZM]at hx;unfold T.wt;rcases hx with hx|hx
   .have:=ih1.1 _ _ _ _ _ _ x hx;omega
   .have:=(ih2.2 _ _ _ _ _ _ _ _).2 x hx;omega
def Sm (A:Tr):Prop:=A.ls.length<=4000/\A.ns.length<=1000/\A.rs.length<=2001/\ ∀ m:Nat,m < A.ns.length->(A.nd m).choices.length<=1000/\(A.nd m).tests.length<=1000
theorem RB.sm {t:T} {A:Tr} {S S3:BS} {c:Nat} {X:Cx} (R:RB t A S S3 c X):Sm A:=by
 obtain⟨tg,rfl,hs,hf⟩:=R.tr;have hw:=R.rt.wt;obtain⟨l1,l2,l3,_⟩:=(QI t).1 0 1 0 0 0 0;have e1:(t.tr tg).ls=(t.rd.l 0 1 0 0 0 0).ls:=rfl;have e2:(t.tr tg).ns=(t.rd.l 0 1 0 0 0 0).ns:=rfl;have e3:(t.tr tg).rs=⟨-1,-1,(t.rd.l 0 1 0 0 0 0).ids⟩::(t.rd.l 0 1 0 0 0 0).rs:=rfl;refine⟨by rw[e1];omega,by rw[e2];omega,by rw[e3,ZJ];omega,fun m hm=>?_⟩;rw[W8 (Z9 hm)];have:=(qz t).1 0 1 0 0 0 0 _ (List.getElem_mem (l:=(t.tr tg).ns) hm);omega
theorem Sm.nc {A:Tr} (h:Sm A) (n:Nat) (hn:n < A.ns.length):(A.nd n).choices.length<=200000:=by
 have:=(h.2.2.2 n hn).1;omega
theorem Sm.pl {A:Tr} (h:Sm A) {p:Pl} (hp:NY A p):0<=p.op/\p.op<=6/\0<=p.a/\p.a < 10000/\0<=p.b/\p.b < 10000:=by
 obtain⟨h1,h2,h3,h4⟩:=h;obtain⟨o,a,b⟩:=p;rcases hp with⟨e,k1,k2,k3⟩ |⟨e,k1,_,k3⟩ |⟨e,k1,k2,k3⟩ |⟨e,k1,k3⟩ |⟨e,k1,_,k3⟩ |⟨e,k1,k3⟩;all_goals dsimp only at e k1 k3
 all_goals subst e
 all_goals obtain⟨k,rfl,hk⟩:=k1.cast
 .dsimp only at*;omega
 .dsimp only at*;omega
 .have:=h4 k hk;dsimp only at*;omega
 all_goals dsimp only at*;omega
theorem Sm.mv {A:Tr} (h:Sm A) {p:Pl} (hp:NY A p):(A.mv p).1.length<=1001:=by
 unfold Tr.mv;split
 .split
  .simp
  .split<;>simp
 split
 .split<;>simp
 split
 .split<;>simp
 split
 .next h4=>
  unfold Tr.chosen;rcases hp with⟨e,k1,_⟩ |⟨e,k1,_⟩ |⟨e,k1,_⟩ |⟨e,k1,_⟩ |⟨e,k1,_⟩ |⟨e,k1,_⟩;all_goals rw[h4]at e
  all_goals try(exact absurd e (by decide))
  obtain⟨k,hk,hkl⟩:=k1.cast;rw[hk];have:=(h.2.2.2 k hkl).1;simp only[Z4,Y8];split<;>simp<;>omega
 split
 .simp
 .simp
end
section
def PN (b:Bool) (f:Nat->Bool) (x:Int):Prop:=(x= -2/\b=true)\/ ∃ u:Nat,x=u/\f u=true
def xy (n:Nat) (b:Bool) (f:Nat->Bool):List Int:=(if b then [-2]else [])++((List.range n).filter f).map Int.ofNat
theorem By {n:Nat} {b:Bool} {f:Nat->Bool} {x:Int} :x∈xy n b f↔(x= -2/\b=true)\/ ∃ u:Nat,x=u/\u < n/\f u=true:=by
 unfold xy;rw[ZM,Y2];refine or_congr ?_ ⟨fun⟨u,hu,e⟩=>?_,fun⟨u,e,h1,h2⟩=>⟨u,?_,e.symm⟩⟩
 .cases b<;>simp
 .rw[List.mem_filter,List.mem_range]at hu;exact⟨u,e.symm,hu⟩
 .rw[List.mem_filter,List.mem_range];exact⟨h1,h2⟩
theorem EI {n:Nat} {b:Bool} {f:Nat->Bool} :SG (xy n b f):=by
 have h:SG (((List.range n).filter f).map Int.ofNat):=by
  unfold SG;rw[List.pairwise_map];exact(List.pairwise_lt_range.filter f).imp (fun h=>by simpa using h)
 cases b
 .exact h
 .refine List.pairwise_cons.2 ⟨fun y hy=>?_,h⟩;obtain⟨u,_,rfl⟩:=Y2.1 hy;show -2 < (u:Int);omega
theorem iB {A:Tr} (W:Wf A) {F seen:List Pl} (hF: ∀ p∈F,NY A p) {b:Bool} {f:Nat->Bool} (h:Met A.mv F seen [] (PN b f)):xy A.ls.length b f=LN A F:=by
 refine xI EI EO (fun x=>?_);rw[By,Vd W hF,<-h.done];refine or_congr Iff.rfl ⟨fun⟨u,e,_,h2⟩=>⟨u,e,h2⟩,fun⟨u,e,h2⟩=>⟨u,e,?_,h2⟩⟩;obtain⟨p,hp,m,hr⟩:=h.met x (.inr ⟨u,e,h2⟩);rcases W.rch (hF p hp) hr with h3|h3
 .omega
 .have:=h3.2;omega
structure MS (A:Tr) (F seen todo:List Pl) (rec:Int->Prop):Prop where
 met:Met A.mv F seen todo rec
 ok: ∀ p,p∈seen\/p∈todo->NY A p
 len:todo.length<=1+1001*seen.length
theorem EH {x:Int} :PN false (fun _=>false) x↔False:=by simp[PN]
section
variable {A:Tr} {F seen todo:List Pl} {rec rec':Int->Prop}
theorem MS.start (hF: ∀ p∈F,NY A p) (hl:F.length<=1):MS A F [] F (PN false (fun _=>false)):=
 ⟨Met.start.congr (fun _=>EH.symm),fun p hp=>hp.elim (fun h=>by simp at h) (hF p),by simpa using hl⟩
theorem MS.small (h:MS A F seen todo rec) (hs:Sm A):seen.length<=700000000/\todo.length<=700700000001:=by
 have h1:=BN h.met.nodup (fun p hp=>hs.pl (h.ok p (.inl hp)));have h2:=h.len;exact⟨h1,by omega⟩
theorem MS.skip {p:Pl} (h:MS A F seen (p::todo) rec) (hp:p∈seen):MS A F seen todo rec:=
 ⟨h.met.skip hp,fun q hq=>h.ok q (hq.imp id (Z2 _)),by have:=h.len;simp only[ZJ]at this;omega⟩
theorem MS.take {p:Pl} (W:Wf A) (hs:Sm A) (h:MS A F seen (p::todo) rec) (hp:p∉seen) (hr: ∀ x,rec' x↔rec x\/(A.mv p).2=some x):MS A F (seen++ [p]) (todo++(A.mv p).1) rec':=by
 have hpw:=h.ok p (.inr List.mem_cons_self);refine⟨h.met.take hp rfl rfl hr,fun q hq=>?_,?_⟩
 .simp only[ZM,Zk]at hq;rcases hq with(hq|rfl) |hq|hq
  .exact h.ok q (.inl hq)
  .exact hpw
  .exact h.ok q (.inr (Z2 _ hq))
  .exact(W.mv hpw).1 q hq
 .have h1:=h.len;have h2:=hs.mv hpw;simp only[ZJ,Z4,List.length_nil]at h1 ⊢;omega
end
theorem iA {b:Bool} {f:Nat->Bool} {o:Option Int} (ho:o=some (-2)) (x:Int):PN true f x↔PN b f x\/o=some x:=by
 subst ho;simp only[PN,Option.some.injEq];constructor
 .rintro(h|h)
  .exact .inr h.1.symm
  .exact .inl (.inr h)
 .rintro((h|h) |h)
  .exact .inl ⟨h.1,trivial⟩
  .exact .inr h
  .exact .inl ⟨h.symm,trivial⟩
theorem pM {b:Bool} {f:Nat->Bool} {o:Option Int} {u:Nat} (ho:o=some (u:Int)) (x:Int):PN b (fun i=>f i||i==u) x↔PN b f x\/o=some x:=by
 subst ho;simp only[PN,Option.some.injEq,Bool.or_eq_true,beq_iff_eq];constructor
 .rintro(h|⟨v,e,h|h⟩)
  .exact .inl (.inl h)
  .exact .inl (.inr ⟨v,e,h⟩)
  .subst h;exact .inr e.symm
 .rintro((h|⟨v,e,h⟩) |h)
  .exact .inl h
  .exact .inr ⟨v,e,.inl h⟩
  .exact .inr ⟨u,h.symm,.inr rfl⟩
theorem fH {b:Bool} {f:Nat->Bool} {o:Option Int} (ho:o=none) (x:Int):PN b f x↔PN b f x\/o=some x:=by
 subst ho;simp
structure MG (G:List Bk) (seen todo:List Nat) (found:List Int):Prop where
 met:Met (blk G) [0] seen todo (fun x=>x∈found)
 ok: ∀ p,p∈seen\/p∈todo->p < G.length
 len:todo.length<=1+2*seen.length
 few:found.length<=seen.length
section
variable {G:List Bk} {seen todo:List Nat} {found:List Int}
theorem MG.start (h:0 < G.length):MG G [] [0] []:=
 ⟨Met.start.congr (fun x=>by simp),fun p hp=>by simp at hp;omega,by simp,by simp⟩
theorem MG.small (h:MG G seen todo found):seen.length<=G.length/\todo.length<=1+2*G.length/\found.length<=G.length:=by
 have h1:=Qy G.length seen h.met.nodup (fun p hp=>h.ok p (.inl hp));have h2:=h.len;have h3:=h.few;omega
theorem MG.skip {p:Nat} (h:MG G seen (p::todo) found) (hp:p∈seen):MG G seen todo found:=
 ⟨h.met.skip hp,fun q hq=>h.ok q (hq.imp id (Z2 _)),by have:=h.len;simp only[ZJ]at this;omega,h.few⟩
theorem MG.next {p:Nat} {k:Bk} (h:MG G seen (p::todo) found) (hp:p∉seen) (hk:G[p]? =some k) (hs:k.succs.length<=2/\ ∀ s∈k.succs,s < G.length) (hf:k.Ns.find? (· ≠ -1)=none):MG G (seen++ [p]) (todo++k.succs) found:=by
 have hb:blk G p=(k.succs,none):=by simp only[blk,hk,hf]
 refine⟨h.met.take hp (by rw[hb]) (by rw[hb]) (fun x=>by simp),fun q hq=>?_,?_,?_⟩
 .simp only[ZM,Zk]at hq;rcases hq with(hq|rfl) |hq|hq
  .exact h.ok q (.inl hq)
  .exact h.ok q (.inr List.mem_cons_self)
  .exact h.ok q (.inr (Z2 _ hq))
  .exact hs.2 q hq
 .have h1:=h.len;have h2:=hs.1;simp only[ZJ,Z4,List.length_nil]at h1 ⊢;omega
 .have h1:=h.few;simp only[Z4,ZJ,List.length_nil];omega
end
end
end
section
section
theorem Z5l {w:World} {base e n g:Nat} {xs:List Value} (h:w.ownsRow base e 1 (.slice (some ⟨g,0,none⟩) n n) n xs):ZD w g xs e/\base<=g:=by
 rcases h.2 with⟨h0,_⟩ |⟨g',cap,cur,h1,h2,h3,h4,h5,h6,h7⟩
 .cases h0
 .simp only[Value.slice.injEq,Option.some.injEq,Addr.mk.injEq,and_true,true_and]at h1;obtain⟨rfl,rfl⟩:=h1;refine⟨?_,h2⟩;unfold ZD;rw[h3,<-h7];congr 2;rw[List.take_of_length_le (by simp;omega)]
def Z5a (l:List Int) (W:World) (e:Ending) (w':World):Prop:= ∃ v,e=.returned v/\w'.ownsRow W.heap.size 3 1 v l.length (l.map (Value.int .i64))/\Below W.heap.size W w'
theorem Z5q {w:World} {lo n cap:Nat} {a:Option Addr} {xs:List Int} (h:w.ownsRow lo 3 1 (.slice a n cap) n (xs.map (Value.int .i64))) {k:Nat} (hk:k < xs.length): ∃ b,a=some ⟨b,0,none⟩/\ ∀ j (hj:j < xs.length),w.cell? ⟨b,j,none⟩=some (.int .i64 xs[j]):=by
 have hl:=h.1;rw[Y8]at hl;obtain⟨g,c,e⟩:=XM h (by omega);cases e;refine⟨g,rfl,fun j hj=>?_⟩;rw[ZF h j (by omega),Yt,Z9 hj];rfl
end
section
theorem Z4J {x:Int} : ∀ {a:Nat} {L:List Int},a<=L.length->(∀ i (h:i < L.length),i < a->L[i] < x)->(∀ (h:a < L.length),¬ L[a] < x)->L.takeWhile (· < x)=L.take a/\L.dropWhile (· < x)=L.drop a:=by
 intro a
 induction a with
 |zero=>
  intro L _ _ h2;cases L with
  |nil=>simp
  |cons y L=>
   have:=h2 (by simp);simp only[List.getElem_cons_zero]at this;rw[List.takeWhile_cons_of_neg (by simpa using this),List.dropWhile_cons_of_neg (by simpa using this)];simp
 |succ a ih=>
  intro L ha h1 h2;cases L with
  |nil=>simp at ha
  |cons y L=>
   have h0:=h1 0 (by simp) (by omega);simp only[List.getElem_cons_zero]at h0;obtain⟨i1,i2⟩:=ih (L:=L) (by simpa using ha) (fun i h hi=>h1 (i+1) (by rw[ZJ];omega) (by omega)) (fun h=>h2 (by rw[ZJ];omega));rw[List.takeWhile_cons_of_pos (by simpa using h0),List.dropWhile_cons_of_pos (by simpa using h0),i1,i2];simp
theorem Z4U {x:Int} {a:Nat} {L:List Int} (h1: ∀ i (h:i < L.length),i < a->L[i] < x) (ha:a < L.length) (he:L[a]=x):JU x L=L:=by
 obtain⟨e1,e2⟩:=Z4J (x:=x) (Nat.le_of_lt ha) h1 (fun h=>by omega);unfold JU;rw[e1,e2,if_pos,List.take_append_drop];rw[List.drop_eq_getElem_cons ha,List.head?_cons,he]
theorem Z49 {x:Int} {a:Nat} {L:List Int} (ha:a<=L.length) (h1: ∀ i (h:i < L.length),i < a->L[i] < x) (h2: ∀ (h:a < L.length),x < L[a]):JU x L=L.take a++x::L.drop a:=by
 obtain⟨e1,e2⟩:=Z4J (x:=x) ha h1 (fun h=>by have:=h2 h;omega);unfold JU;rw[e1,e2,if_neg];intro h;by_cases hl:a < L.length
 .rw[List.drop_eq_getElem_cons hl,List.head?_cons]at h;have:=h2 hl;simp only[Option.some.injEq]at h;omega
 .rw[List.drop_eq_nil_of_le (by omega)]at h;simp at h
theorem Z5g {xs:List Int} {k:Nat} {x:Int} (h:xs[k]? =some x):qL (xs.take (k+1))=JU x (qL (xs.take k)):=by
 unfold qL;rw[List.take_add_one,h,List.foldl_append];rfl
theorem Z4I (x:Int) (L:List Int):(JU x L).length<=L.length+1:=by
 have h:=congrArg List.length (take_drop x L);unfold JU;rw[Z4]at h ⊢;split
 .omega
 .simp only[ZJ];omega
theorem Z4H: ∀ (xs:List Int) (k:Nat),(qL (xs.take k)).length<=k:=by
 intro xs k
 induction k with
 |zero=>simp[qL]
 |succ k ih=>
  cases h:xs[k]? with
  |none=>
   have h1:xs.length<=k:=by simpa using h
   rw[List.take_of_length_le (by omega),<-List.take_of_length_le h1];omega
  |some x=>
   rw[Z5g h];have:=Z4I x (qL (xs.take k));omega
theorem Z4T {α:Type} (V R:List α) (z x:α) {a:Nat} (ha:a<=V.length):((splice (V++z::R) (a+1) (V.drop a)).set a x).take (V.length+1)=V.take a++x::V.drop a/\((splice (V++z::R) (a+1) (V.drop a)).set a x).length=V.length+(R.length+1):=by
 have hl:(V.drop a).length=V.length -a:=List.length_drop;have h1:(V++z::R).take (a+1)=V.take a++ [(V++z::R)[a]'(by simp;omega)]:=by
  rw[<-List.take_append_getElem (by simp;omega),List.take_append_of_le_length ha]
 have h2:(splice (V++z::R) (a+1) (V.drop a)).set a x=V.take a++(x::(V.drop a++R)):=by
  unfold splice;rw[h1,hl,show a+1+(V.length -a)=V.length+1 by omega];rw[ZI,List.set_append_right _ _ (by simp;omega)];have:a -(V.take a).length=0:=by simp;omega
  rw[this];simp
 rw[h2];constructor
 .rw[<-List.cons_append,<-ZI,List.take_append_of_le_length (by simp;omega),List.take_of_length_le (by simp;omega)]
 .simp;omega
theorem Z4V {w:World} {base g n cap:Nat} {V:List Value} {z:Value} (h:w.ownsRow base 3 1 (.slice (some ⟨g,0,none⟩) (n+1) cap) (n+1) (V++ [z])): ∃ R:List Value,ZD w g (V++z::R) 3/\n+1<=cap/\cap<=maxLen/\V.length=n/\n+1+R.length=cap/\base<=g:=by
 have hl:=h.1;simp only[Z4,List.length_singleton]at hl;rcases h.2 with⟨h0,_⟩ |⟨g',cap',cur,h1,h2,h3,h4,h5,h6,h7⟩
 .cases h0
 .simp only[Value.slice.injEq,Option.some.injEq,Addr.mk.injEq,and_true,true_and]at h1;obtain⟨rfl,rfl⟩:=h1;rw[Nat.mul_one]at h7 hl;have e:cur.toList=V++z::cur.toList.drop (n+1):=by
   have:=(List.take_append_drop (n+1) cur.toList).symm;rw[h7,ZI]at this;exact this
  refine⟨cur.toList.drop (n+1),?_,h4,h5,by omega,?_,h2⟩
  .unfold ZD;rw[<-e,h3]
  .rw[List.length_drop,Array.length_toList];omega
theorem Z5d {w:World} {base g cap a:Nat} {L:List Int} {cur:List Value} {x:Int} {l:List Int} (hl:l=L.take a++x::L.drop a) (ha:a<=L.length) (h:ZD w g ((splice (L.map (Value.int .i64)++ .int .i64 0::cur) (a+1) ((L.drop a).map (Value.int .i64))).set a (.int .i64 x)) 3) (h1:L.length+1+cur.length=cap) (hcm:cap<=maxLen) (hb:base<=g):
  w.ownsRow base 3 1 (.slice (some ⟨g,0,none⟩) (L.length+1) cap) l.length (l.map (Value.int .i64)):=by
 obtain⟨e1,e2⟩:=Z4T (L.map (Value.int .i64)) cur (.int .i64 0) (.int .i64 x) (a:=a) (by simpa using ha);rw[<-List.map_drop]at e1 e2;rw[Y8]at e1 e2;have hn:l.length=L.length+1:=by rw[hl];simp;omega
 rw[hn];refine⟨by rw[Y8,hn];omega,.inr ⟨g,cap,_,rfl,hb,h,by omega,hcm,by rw[List.size_toArray,e2];omega,?_⟩⟩;rw[Nat.mul_one,e1,hl];simp
def Z4f (L:List Int) (x:Int) (w0:World) (av:Value) (wx:World):Prop:= ∃ a:Nat,av=.int .i64 a/\a<=L.length/\(∀ i (h:i < L.length),i < a->L[i] < x)/\wx=w0
def Z4e (xs:List Int) (W:World) (ov ix:Value) (wr:World):Prop:= ∃ k:Nat,ix=.int .i64 k/\k<=xs.length/\wr.ownsRow W.heap.size 3 1 ov (qL (xs.take k)).length ((qL (xs.take k)).map (Value.int .i64))/\Below W.heap.size W wr
theorem Z40 {w:World} {lo:Nat} {v:Value} {xs:List Int} (hx:w.ownsRow lo 3 1 v xs.length (xs.map (Value.int .i64))) (hn:xs.length<=900000):Calls prog 36 #[v] w (Z5a (qL xs) w):=by
 obtain⟨va,vc,rfl⟩:=ZR hx;have HX:=Z5 hx;clear hx;go_enter func36,ntmps36;go_wp2_with fail
 go_loopw [3,9] (fun ov ix wr=>Z4e xs w ov ix wr) (fun _ ix _=>xs.length -(intOf ix).toNat)
 case atStart=>exact⟨0,rfl,by omega,⟨rfl,.inl ⟨rfl,rfl⟩⟩,ZN _ _⟩
 case round=>
  obtain⟨k,rfl,hk,hown,hbw⟩:=hrel;obtain⟨oa,oc,rfl⟩:=ZR hown;have hrl:=Z4H xs k;obtain⟨L,hL⟩: ∃ L,Hid (L=qL (xs.take k)):=⟨_,Z5 rfl⟩
  rw[<-hL.out]at hown hrl ⊢;by_cases hkl:k < xs.length
  .obtain⟨x,hxk⟩: ∃ x,xs[k]? =some x:=⟨_,Z9 hkl⟩
   obtain⟨bx,rfl,cx0x⟩:=Z5q HX.out hkl;have e1:wr.cell? ⟨bx,k,none⟩=some (.int .i64 x):=by
    rw[(hbw.cell (p:=⟨bx,k,none⟩) (HX.out.lt bx rfl).2).trans (cx0x k hkl)];have:=(Z1.1 hxk).2;rw[this]
   have Hxk:=Z5 (Z5g hxk);have HO:=Zl hown hbw;have hsz:=hbw.size;obtain⟨wo,hwo⟩: ∃ wo:World,wo=wr:=⟨_,rfl⟩
   subst hwo;clear cx0x hxk hown hbw;go_wp2_with fail
   go_loopw [6] (fun av wx=>Z4f L x wo av wx) (fun av _=>L.length -(intOf av).toNat)
   case atStart=>exact⟨0,rfl,by omega,fun i h hi=>by omega,rfl⟩
   case round=>
    obtain⟨a,rfl,ha,hls,hwx⟩:=hrel;subst hwx;by_cases hal:a < L.length
    .obtain⟨bo,hbo,cx0x⟩:=Z5q HO.out.1 hal;subst hbo;have e2:=cx0x a hal;obtain⟨y,hy⟩: ∃ y,y=L[a]:=⟨_,rfl⟩
     rw[<-hy]at e2;clear cx0x;by_cases hlt:y < x
     .have hyx:=Z5 hy;have hls:=Z5 hls;clear hy;go_wp2_with fail
      refine⟨⟨a+1,by simp,hal,fun i h hi=>?_,rfl⟩,by simp[intOf];omega⟩;by_cases h':i < a
      .exact hls.out i h h'
      .obtain rfl:i=a:=by omega
       rw[<-hyx.out];exact hlt
     .have hxy:x<=y:=by omega
      clear hlt;by_cases he:y=x
      .have hsame:=Z5 (Z4U hls hal (by rw[<-hy,he]));clear hls hy;subst he;go_wp2_with fail
       refine⟨⟨k+1,by simp,hkl,?_,HO.out.2⟩,by simp[intOf];omega⟩;rw[Hxk.out,<-hL.out,hsame.out];exact HO.out.1
      .have hyx:=Z5 (show x < L[a]by rw[<-hy];omega);have hne:(y==x)=false:=by simpa using he
       clear hy;have hins:=Z5 (Z49 ha hls (fun h=>by exact hyx.out));clear hls;go_wp2_with (at_builtin;go_loud (refine Ze wr rfl _ _ 31 rfl w.heap.size 3 (.int .i64 0) 1 8 underlying31 Z9j rfl (by decide) (by decide) HO.out.1 (by rfl) [.int .i64 0] rfl ?c1 (by rfl) (by omega) hsz ?_))
       case c1=>simp[Value.oneCell']
       intro g6 cap6 w6 hown6 UT VW Mm;obtain⟨cur,hcur,hcap,hcm,hcl,hct,dL⟩:=Z4V hown6;have hb6:=HO.out.2.grown UT hsz (fun x hx=>(HO.out.1.lt x hx).1);have H6:=Wp hcur hcl hct dL hb6;clear hown6 UT VW hcur hcl hct hb6;have hac:a < cap6:=by omega
       go_upto_region 10 with fail
       have hlen:=Z5 (show((L.drop a).map (Value.int .i64)).length=L.length -a by simp);have hcell:=Z5 (show ∀ j v,((L.drop a).map (Value.int .i64))[j]? =some v->w6.cell? ⟨g6,a+j,none⟩=some v by
        intro j v hj;refine H6.out.1.cell (a+j) ?_;have hjl:=ZH hj;rw[hlen.out]at hjl;rw[ZP (by simp;omega)];rw[List.map_drop,List.getElem?_drop]at hj;exact hj)
       have hcl:=Z5 (show(L.map (Value.int .i64)++Value.int .i64 0::cur).length=cap6 by have:=H6.out.2.2.1;simp;omega);have hwr:=IntWalk.i64_in ((a:Int)+1) (by omega);have h0a:(0:Int)<=(a:Int)+1:=by omega
       have h1a:(a:Int)<=(L.length:Int)+1:=by omega
       have hcn: ¬ cap6=a:=by omega
       by_cases hce:cap6=a+1
       .exact absurd hcap (by omega)
       .go_still_tail 7,(by kernel_rfl)
        change wpList _ _ _ _ _ w6.drew;have H6d:=Zl H6.out.1.drew H6.out.2.2.2.2.drew;have hcd:=Z5 (fun j v hj=>(show w6.drew.cell? ⟨g6,a+j,none⟩=some v from hcell.out j v hj));generalize w6.drew=w6d at*;refine wpList_copy_splice rfl (.tmp 45) (.tmp 48) 31 31 rfl 3 underlying31 (by kernel_rfl) _ _ _ _ _ _ (by rfl) (by rfl) g6 (a+1) _ 3 H6d.out.1 ((L.drop a).map (Value.int .i64)) (by rw[hlen.out];simp only[Nat.min_def];first|omega|(split<;>omega)) (fun h=>by first|exact⟨rfl,_,rfl,fun j v hj=>by rw[Addr.add_lit];exact hcd.out j v hj⟩ |(rw[hlen.out]at h;omega)) (by rw[hlen.out,hcl.out];omega) (fun v hv=>by obtain⟨z,_,rfl⟩:=Y2.1 hv;rfl) w.heap.size w H6d.out.2 dL ?_;intro w7 qh hb7;have hB7:=qh.out;have e7:=Z9 (l:=splice (L.map (Value.int .i64)++Value.int .i64 0::cur) (a+1) ((L.drop a).map (Value.int .i64))) (i:=a) (by rw[length_splice _ _ _ (by rw[hlen.out,hcl.out];omega),hcl.out];omega);have c7:=ZD.cell (w:=w7) (b:=g6) (t:=3) hB7 a e7;have f7:=ZD.free (w:=w7) (b:=g6) (t:=3) hB7 a;have H7:=Z5 (ZD.set (w:=w7) (b:=g6) (t:=3) hB7 a (.int .i64 x));have Hb7:=Z5 hb7;generalize(splice (L.map (Value.int .i64)++Value.int .i64 0::cur) (a+1) ((L.drop a).map (Value.int .i64)))[a]'(_)=z7 at c7;clear hB7 e7 hb7 qh;go_wp2_with fail
        refine⟨⟨k+1,by simp,hkl,?_,Hb7.out.setCell dL _⟩,by simp[intOf];omega⟩;rw[Hxk.out,<-hL.out];have h1:=Z5d hins.out ha H7.out H6.out.2.2.1 hcm dL;first|exact h1|(rw[hce]at h1;exact h1)
    .have hal':L.length<=a:=by omega
     clear hal;have hins:=Z5 (Z49 ha hls (fun h=>by omega));clear hls;go_wp2_with (at_builtin;go_loud (refine Ze wr rfl _ _ 31 rfl w.heap.size 3 (.int .i64 0) 1 8 underlying31 Z9j rfl (by decide) (by decide) HO.out.1 (by rfl) [.int .i64 0] rfl ?c1 (by rfl) (by omega) hsz ?_))
     case c1=>simp[Value.oneCell']
     intro g6 cap6 w6 hown6 UT VW Mm;obtain⟨cur,hcur,hcap,hcm,hcl,hct,dL⟩:=Z4V hown6;have hb6:=HO.out.2.grown UT hsz (fun x hx=>(HO.out.1.lt x hx).1);have H6:=Wp hcur hcl hct dL hb6;clear hown6 UT VW hcur hcl hct hb6;have hac:a < cap6:=by omega
     go_upto_region 10 with fail
     have hlen:=Z5 (show((L.drop a).map (Value.int .i64)).length=L.length -a by simp);have hcell:=Z5 (show ∀ j v,((L.drop a).map (Value.int .i64))[j]? =some v->w6.cell? ⟨g6,a+j,none⟩=some v by
      intro j v hj;refine H6.out.1.cell (a+j) ?_;have hjl:=ZH hj;rw[hlen.out]at hjl;rw[ZP (by simp;omega)];rw[List.map_drop,List.getElem?_drop]at hj;exact hj)
     have hcl:=Z5 (show(L.map (Value.int .i64)++Value.int .i64 0::cur).length=cap6 by have:=H6.out.2.2.1;simp;omega);have hwr:=IntWalk.i64_in ((a:Int)+1) (by omega);have h0a:(0:Int)<=(a:Int)+1:=by omega
     have h1a:(a:Int)<=(L.length:Int)+1:=by omega
     have hcn: ¬ cap6=a:=by omega
     by_cases hce:cap6=a+1
     .go_still_tail 7,(by kernel_rfl)
      change wpList _ _ _ _ _ w6.drew;have H6d:=Zl H6.out.1.drew H6.out.2.2.2.2.drew;have hcd:=Z5 (fun j v hj=>(show w6.drew.cell? ⟨g6,a+j,none⟩=some v from hcell.out j v hj));generalize w6.drew=w6d at*;refine wpList_copy_splice rfl (.tmp 45) (.tmp 48) 31 31 rfl 3 underlying31 (by kernel_rfl) _ _ _ _ _ _ (by rfl) (by rfl) g6 (a+1) _ 3 H6d.out.1 ((L.drop a).map (Value.int .i64)) (by rw[hlen.out];simp only[Nat.min_def];first|omega|(split<;>omega)) (fun h=>by first|exact⟨rfl,_,rfl,fun j v hj=>by rw[Addr.add_lit];exact hcd.out j v hj⟩ |(rw[hlen.out]at h;omega)) (by rw[hlen.out,hcl.out];omega) (fun v hv=>by obtain⟨z,_,rfl⟩:=Y2.1 hv;rfl) w.heap.size w H6d.out.2 dL ?_;intro w7 qh hb7;have hB7:=qh.out;have e7:=Z9 (l:=splice (L.map (Value.int .i64)++Value.int .i64 0::cur) (a+1) ((L.drop a).map (Value.int .i64))) (i:=a) (by rw[length_splice _ _ _ (by rw[hlen.out,hcl.out];omega),hcl.out];omega);have c7:=ZD.cell (w:=w7) (b:=g6) (t:=3) hB7 a e7;have f7:=ZD.free (w:=w7) (b:=g6) (t:=3) hB7 a;have H7:=Z5 (ZD.set (w:=w7) (b:=g6) (t:=3) hB7 a (.int .i64 x));have Hb7:=Z5 hb7;generalize(splice (L.map (Value.int .i64)++Value.int .i64 0::cur) (a+1) ((L.drop a).map (Value.int .i64)))[a]'(_)=z7 at c7;clear hB7 e7 hb7 qh;go_wp2_with fail
      refine⟨⟨k+1,by simp,hkl,?_,Hb7.out.setCell dL _⟩,by simp[intOf];omega⟩;rw[Hxk.out,<-hL.out];have h1:=Z5d hins.out ha H7.out H6.out.2.2.1 hcm dL;first|exact h1|(rw[hce]at h1;exact h1)
     .go_still_tail 7,(by kernel_rfl)
      change wpList _ _ _ _ _ w6.drew;have H6d:=Zl H6.out.1.drew H6.out.2.2.2.2.drew;have hcd:=Z5 (fun j v hj=>(show w6.drew.cell? ⟨g6,a+j,none⟩=some v from hcell.out j v hj));generalize w6.drew=w6d at*;refine wpList_copy_splice rfl (.tmp 45) (.tmp 48) 31 31 rfl 3 underlying31 (by kernel_rfl) _ _ _ _ _ _ (by rfl) (by rfl) g6 (a+1) _ 3 H6d.out.1 ((L.drop a).map (Value.int .i64)) (by rw[hlen.out];simp only[Nat.min_def];first|omega|(split<;>omega)) (fun h=>by first|exact⟨rfl,_,rfl,fun j v hj=>by rw[Addr.add_lit];exact hcd.out j v hj⟩ |(rw[hlen.out]at h;omega)) (by rw[hlen.out,hcl.out];omega) (fun v hv=>by obtain⟨z,_,rfl⟩:=Y2.1 hv;rfl) w.heap.size w H6d.out.2 dL ?_;intro w7 qh hb7;have hB7:=qh.out;have e7:=Z9 (l:=splice (L.map (Value.int .i64)++Value.int .i64 0::cur) (a+1) ((L.drop a).map (Value.int .i64))) (i:=a) (by rw[length_splice _ _ _ (by rw[hlen.out,hcl.out];omega),hcl.out];omega);have c7:=ZD.cell (w:=w7) (b:=g6) (t:=3) hB7 a e7;have f7:=ZD.free (w:=w7) (b:=g6) (t:=3) hB7 a;have H7:=Z5 (ZD.set (w:=w7) (b:=g6) (t:=3) hB7 a (.int .i64 x));have Hb7:=Z5 hb7;generalize(splice (L.map (Value.int .i64)++Value.int .i64 0::cur) (a+1) ((L.drop a).map (Value.int .i64)))[a]'(_)=z7 at c7;clear hB7 e7 hb7 qh;go_wp2_with fail
      refine⟨⟨k+1,by simp,hkl,?_,Hb7.out.setCell dL _⟩,by simp[intOf];omega⟩;rw[Hxk.out,<-hL.out];have h1:=Z5d hins.out ha H7.out H6.out.2.2.1 hcm dL;first|exact h1|(rw[hce]at h1;exact h1)
  .have hke:=Z5 (show k=xs.length by omega);have HO:=Zl hown hbw;clear hown hbw;go_wp2_with fail
   go_ret;have e:qL xs=L:=by rw[hL.out,hke.out,List.take_length]
   rw[e];exact⟨_,rfl,HO.out.1,HO.out.2⟩
end
section
end
end
section
def Z5t (l:List Pl):List Value:=(l.map Pl.cl).flatten
theorem Z47 (l k:List Pl):Z5t (l++k)=Z5t l++Z5t k:=by simp[Z5t]
theorem Z46 {l:List Pl} {k j:Nat} {p:Pl} (h:l[k]? =some p) (hj:j < 3):(Z5t l)[k*3+j]? =p.cl[j]? :=Rh (n:=3) (f:=Pl.cl) (fun _=>rfl) h hj
theorem Qu.most {w:World} {lo e size n:Nat} {v:Value} {xs:List Value} (h:Qu w lo e size v n xs):n<=9223372036854775807:=by
 rcases h.2 with⟨_,h⟩ |⟨_,_,_,_,_,_,_,h1,h2,_⟩
 .omega
 .have:maxLen=9223372036854775807:=by decide
  omega
theorem Z4o {C q:Pl} (h1:C.op=q.op) (h2:C.a=q.a) (h3:C.b=q.b):C=q:=by
 obtain⟨x,y,z⟩:=C;obtain⟨x',y',z'⟩:=q;dsimp only at h1 h2 h3;rw[h1,h2,h3]
def Z4n (w:World) (l:List Pl) (q:Pl) (ix:Value) (wr:World):Prop:= ∃ k:Nat,ix=.int .i64 k/\k<=l.length/\(∀ (x:Nat) y,x < k->l[x]? =some y->y≠q)/\Below w.heap.size w wr/\ZD wr w.heap.size [.int .i64 q.op,.int .i64 q.a,.int .i64 q.b] 118
theorem Z4v {w:World} {lo:Nat} {v:Value} {l:List Pl} (h:Qu w lo 118 3 v l.length (Z5t l)) (q:Pl):Calls prog 90 #[v,Np q] w fun e w'=> ∃ d:Bool,e=.returned (.bool d)/\(d=true↔q∈l)/\Below w.heap.size w w':=by
 have hb1:Below w.heap.size w (w.alloc (.cells [.int .i64 q.op,.int .i64 q.a,.int .i64 q.b].toArray 118)):=(ZN _ _).alloc (Z7 _) _;have HB:=Zl hb1 (ZD.new w [.int .i64 q.op,.int .i64 q.a,.int .i64 q.b] 118);have HQ:=Z5 h;have hmx:=h.most;obtain⟨av,cv,rfl⟩:=h.slice;clear h hb1;unfold Np;go_enter func90,ntmps90;go_wp2_with fail
 go_loopw [9] (fun ix wr=>Z4n w l q ix wr) (fun ix _=>l.length -(intOf ix).toNat)
 case atStart=>exact⟨0,rfl,by omega,fun x y hx=>by omega,HB.out.1,HB.out.2⟩
 case round=>
  obtain⟨k,rfl,hk,hno,hbw,hkw⟩:=hrel;have c0:=hkw.cell 0 rfl;have c1:=hkw.cell 1 rfl;have c2:=hkw.cell 2 rfl;have hsz:=hkw.lt;have hne:w.heap.size≠wr.heap.size:=by omega
  have HW:=X7 hbw hkw hno;by_cases hlt:k < l.length
  .have hqr:=HQ.out.low hbw (fun g hg=>(HQ.out.lt g hg).2.1);obtain⟨gc,off,rfl⟩: ∃ gc off,av=some ⟨gc,off,none⟩:=by
    rcases HQ.out.2 with⟨_,h0⟩ |⟨g,off,cap,cs,e,_⟩
    .omega
    .simp only[Value.slice.injEq]at e;exact⟨g,off,e.1⟩
   obtain⟨C,hC⟩: ∃ C:Pl,C=l[k]:=⟨_,rfl⟩
   have hc:l[k]? =some C:=by rw[hC];exact Z9 hlt
   have hq: ∀ j,j < 3->wr.cell? ⟨gc,off+(k*3+j),none⟩=C.cl[j]? :=fun j hj=>by rw[hqr.cells (k*3+j) (by omega),Z46 hc hj]
   have q0:wr.cell? ⟨gc,off+k*3,none⟩=some (.int .i64 C.op):=hq 0 (by omega);have q1:wr.cell? ⟨gc,off+k*3+1,none⟩=some (.int .i64 C.a):=hq 1 (by omega);have q2:wr.cell? ⟨gc,off+k*3+2,none⟩=some (.int .i64 C.b):=hq 2 (by omega);have hgc:=(HQ.out.lt gc rfl).2.1;have HC:=Z5 hc;clear hC hc hq hqr hbw hkw hno;by_cases e:C=q
   .subst e;go_wp2_with fail
    go_ret;exact⟨true,rfl,⟨fun _=>ZY HC.out,fun _=>rfl⟩,HW.out.1.alloc (Nat.le_of_lt hsz) _⟩
   .have he:=Z5 e;have hne2:((C.op==q.op)&&((C.a==q.a)&&(C.b==q.b)))=false:=by
     obtain⟨x,y,z⟩:=C;obtain⟨x',y',z'⟩:=q;simp only[Pl.mk.injEq]at e;simp only[Bool.and_eq_false_iff,beq_eq_false_iff_ne];omega
    clear e;go_wp2_with fail
    .exact absurd (Z4o ‹_› ‹_› ‹_›) he.out
    all_goals
     refine⟨⟨k+1,by simp,hlt,fun x y hx hy=>?_,HW.out.1.alloc (Nat.le_of_lt hsz) _,HW.out.2.1.alloc _⟩,by simp[intOf];omega⟩;by_cases h:x < k
     .exact HW.out.2.2 x y h hy
     .obtain rfl:x=k:=by omega
      rw[HC.out]at hy;cases hy;exact he.out
  .have hm: ¬ q∈l:=fun hm=>by
    obtain⟨j,hj,e⟩:=List.getElem_of_mem hm;exact HW.out.2.2 j _ (by omega) (Z9 hj) e
   have HM:=Z5 hm;clear hm hbw hkw hno;go_wp2_with fail
   go_ret;exact⟨false,rfl,⟨fun h=>by simp at h,fun h=>absurd h HM.out⟩,HW.out.1⟩
theorem Z5m {w w':World} {lo size n:Nat} {e:TypeId} {sv tv oS:Value} {xs:List Value} (hs:Qu w lo e size sv n xs) (hd: ∀ g,sv.ownBlock=some g->tv.ownBlock≠some g) (h2:w.grownBy w' tv.ownBlock)
  (h3:oS.ownBlock=tv.ownBlock\/ ∃ g,oS.ownBlock=some g/\w.heap.size<=g):Qu w' lo e size sv n xs/\ ∀ g,sv.ownBlock=some g->oS.ownBlock≠some g:=by
 refine⟨hs.kept h2 ?_,fun g hg=>?_⟩
 .cases h:sv.ownBlock with
  |none=>exact .inl rfl
  |some g=>exact .inr (fun e=>hd g h e.symm)
 .rcases h3 with h3|⟨k,h3,h4⟩
  .rw[h3];exact hd g hg
  .rw[h3];intro e;cases e;have:=(hs.lt g hg).2.1;omega
def Z34 (A:Tr) (F:List Pl) (W:World) (gi:Nat) (k:Nat) (sv ev tv:Value) (wr:World):Prop:=
 ∃ (seen todo:List Pl) (b:Bool) (f:Nat->Bool),k=(700000000 -seen.length)*1002+todo.length/\MS A F seen todo (PN b f)/\ev=.bool b/\Qu wr W.heap.size 118 3 sv seen.length (Z5t seen)/\Qu wr W.heap.size 118 3 tv todo.length (Z5t todo)/\(∀ g,sv.ownBlock=some g->tv.ownBlock≠some g)/\ZD wr gi (Bg A.ls.length f) 4/\Below W.heap.size W wr
def Z33 (W:World) (gi:Nat) (bs:List Value) (seen todo nx:List Pl) (sv nv tv ix:Value) (wr:World):Prop:=
 ∃ j:Nat,ix=.int .i64 j/\j<=nx.length/\Qu wr W.heap.size 118 3 tv (todo.length+j) (Z5t (todo++nx.take j))/\(Qu wr W.heap.size 118 3 sv seen.length (Z5t seen)/\ ∀ g,sv.ownBlock=some g->tv.ownBlock≠some g)/\(Qu wr W.heap.size 118 3 nv nx.length (Z5t nx)/\ ∀ g,nv.ownBlock=some g->tv.ownBlock≠some g)/\ZD wr gi bs 4/\Below W.heap.size W wr
def Z32 (W:World) (gi n:Nat) (b:Bool) (f:Nat->Bool) (ov ix:Value) (wr:World):Prop:=
 ∃ j:Nat,ix=.int .i64 j/\j<=n/\wr.ownsRow W.heap.size 3 1 ov (xy j b f).length ((xy j b f).map (Value.int .i64))/\ZD wr gi (Bg n f) 4/\Below W.heap.size W wr
theorem Z4O (j:Nat) (b:Bool) (f:Nat->Bool):xy (j+1) b f=xy j b f++(if f j then [(j:Int)]else []):=by
 unfold xy;rw[List.range_succ,List.filter_append,List.map_append,ZI];cases h:f j<;>simp[h]
theorem Z4C (j:Nat) (b:Bool) (f:Nat->Bool):(xy j b f).length<=j+1:=by
 unfold xy;have:((List.range j).filter f).length<=j:=ZC (List.length_filter_le _ _) (by simp);simp only[Z4,Y8];cases b<;>simp<;>omega
theorem Z45 {sv tv:Value} (h: ∀ g,sv.ownBlock=some g->tv.ownBlock≠some g): ∀ g,tv.ownBlock=some g->sv.ownBlock≠some g:=fun g h1 h2=>h g h2 h1
section
variable {W:World} {lo p:Nat} {A:Tr}
theorem Z5j (M:QW W lo p A) (Wd:Wf A) (hs:Sm A) {F:List Pl} (hF: ∀ q∈F,NY A q) (hl:F.length<=1) {w:World} (hb:Below W.heap.size W w) {v:Value} (hq:Qu w W.heap.size 118 3 v F.length (Z5t F)):
  Calls prog 74 #[p,v] w fun e w'=> ∃ v',e=.returned v'/\w'.ownsRow W.heap.size 3 1 v' (LN A F).length ((LN A F).map (Value.int .i64))/\Below W.heap.size W w':=by
 have M':=M;obtain⟨_,_,_,_,_,_,M'⟩:=M';obtain⟨al,cl,rfl⟩:=M'.Ns;have q0:=(hb.cell (p:=⟨p,0,none⟩) M'.t.blk.lt).trans (M'.t.blk.cell 0 rfl);obtain⟨av,cv,rfl⟩:=hq.slice;obtain⟨nl,hnl⟩: ∃ nl,nl=A.ls.length:=⟨_,rfl⟩
 rw[<-hnl]at q0;have hn4:nl<=4000:=by rw[hnl];exact hs.1
 obtain⟨i0,hi0,hz0,hz1,hz2⟩:=info_parts Z9k;have HM:=X7 M Wd hs;have HF:=X7 hF hl hnl;have HQ:=Zl hq hb;have hW:=hb.size;clear M' M Wd hs hF hl hb hq hnl;go_enter func74,ntmps74;go_wp2_with (at_make;refine wpList_make_full w rfl _ _ 26 rfl w.heap.size 4 i0 (.bool false) 1 underlying26 hi0 hz0 hz1 .i64 .i64 _ _ nl (by rfl) (by rfl) (by simp) (by simp) ?b2 ?b3 (by simp) ?_)
 case b2=>rw[hz2];omega
 case b3=>unfold maxLen;omega
 intro w2 hq2 hg2;obtain⟨hb2,hge⟩:=Z5l hq2;rw[toList_madeCells_one,qG]at hb2;have hB2:Below W.heap.size W w2:=HQ.out.2.grown hg2 hW (by simp);have Z31:=HQ.out.1.kept hg2 (by cases(Value.slice av F.length cv).ownBlock<;>simp);have H2:=X7 hb2 hB2 Z31;have Z4R:W.heap.size<=w.heap.size:=hW;clear hq2 hg2 hb2 hB2 Z31 q0;obtain⟨gi,hgi⟩: ∃ gi:Nat,gi=w.heap.size:=⟨_,rfl⟩
 simp only[<-hgi]at*;clear hgi;go_wp2_with fail
 go_loopg [5,7,8] (700000000*1002+F.length) (fun k sv ev tv wr=>Z34 A F W gi k sv ev tv wr)
 case atStart=>
  exact⟨[],F,false,fun _=>false,by simp,MS.start HF.out.1 HF.out.2.1,rfl,⟨rfl,.inl ⟨rfl,rfl⟩⟩,H2.out.2.2,fun g hg=>by simp[Value.ownBlock]at hg,by rw[<-HF.out.2.2];exact H2.out.1,H2.out.2.1⟩
 case round=>
  obtain⟨seen,todo,b,f,hk,hms,rfl,hsq,htq,hdis,hbk,hbw⟩:=hrel;have hsz:=hbw.size;obtain⟨Z4s,Z4Q⟩:=hms.small HM.out.2.2;rw[<-HF.out.2.2]at hbk;cases todo with
  |nil=>
   rw[List.length_nil]at htq;obtain⟨ta,tc,rfl⟩:=htq.slice;have HK:=Xp hms hbk hbw hsz;have h0:=Z5 (show wr.ownsRow W.heap.size 3 1 (.slice none 0 0) 0 []from⟨rfl,.inl ⟨rfl,rfl⟩⟩);clear hk hms hbk hbw hsq htq hdis Z4s Z4Q;go_upto_if 65 with fail
   go_cut [14]from 65 (fun ov wx=>wx.ownsRow W.heap.size 3 1 ov (xy 0 b f).length ((xy 0 b f).map (Value.int .i64))/\ZD wx gi (Bg nl f) 4/\Below W.heap.size W wx)
   case first=>
    cases b
    .go_wp2_with fail
     go_meet;exact⟨⟨rfl,.inl ⟨rfl,rfl⟩⟩,HK.out.2.1,HK.out.2.2.1⟩
    .go_wp2_with (at_builtin;refine Ze wr rfl _ _ 31 rfl W.heap.size 3 (.int .i64 0) 1 8 underlying31 Z9j rfl (by decide) (by decide) h0.out (by rfl) [.int .i64 (-2)] rfl ?c1 (by rfl) (by omega) hsz ?_)
     case c1=>simp[Value.oneCell']
     intro g6 cap6 w6 hown6 UT VW Mm;have HW:=Zl hown6 UT;clear hown6 UT VW Mm;go_wp2_with fail
     go_meet;exact⟨HW.out.1,HK.out.2.1.grown HW.out.2 (by simp[Value.ownBlock]),HK.out.2.2.1.grown HW.out.2 HK.out.2.2.2 (fun x hx=>by simp[Value.ownBlock]at hx)⟩
   case rest=>
    obtain⟨hown,hbk,hbw⟩:=hcut;have H0:=X7 hown hbk hbw;obtain⟨oa,oc,rfl⟩:=ZR hown;clear hown hbk hbw;go_wp2_with fail
    go_loopw [14,71] (fun ov ix wr=>Z32 W gi nl b f ov ix wr) (fun _ ix _=>nl -(intOf ix).toNat)
    case atStart=>exact⟨0,rfl,by omega,H0.out.1,H0.out.2.1,H0.out.2.2⟩
    case round=>
     obtain⟨j,rfl,hj,hown,hbk,hbw⟩:=hrel;obtain⟨oa,oc,rfl⟩:=ZR hown;have hsz:=hbw.size;have hol:=Z4C j b f;have HO:=X7 hown hbk hbw;by_cases hjl:j < nl
     .have ci:=hbk.cell j (LM hjl);have HS:=Z5 (Z4O j b f);clear hown hbk hbw;cases hfj:f j with
      |true=>
       rw[hfj]at ci;have hfj:=Z5 hfj;go_wp2_with (at_builtin;refine Ze wr rfl _ _ 31 rfl W.heap.size 3 (.int .i64 0) 1 8 underlying31 Z9j rfl (by decide) (by decide) HO.out.1 (by rfl) [.int .i64 (j:Int)] rfl ?c1 (by rfl) (by omega) hsz ?_)
       case c1=>simp[Value.oneCell']
       intro g6 cap6 w6 hown6 UT VW Mm;have HW:=Zl hown6 UT;clear hown6 UT VW Mm;go_wp2_with fail
       refine⟨⟨j+1,by simp,hjl,?_,HO.out.2.1.grown HW.out.2 (own_ne HO.out.1 HO.out.2.1.ty),HO.out.2.2.grown HW.out.2 hsz (fun x hx=>(HO.out.1.lt x hx).1)⟩,by simp[intOf];omega⟩;have h1:=HW.out.1;rw[HS.out,hfj.out];simpa using h1
      |false=>
       rw[hfj]at ci;have hfj:=Z5 hfj;go_wp2_with fail
       refine⟨⟨j+1,by simp,hjl,?_,HO.out.2.1,HO.out.2.2⟩,by simp[intOf];omega⟩;have h1:=HO.out.1;rw[HS.out,hfj.out];simpa using h1
     .obtain rfl:j=nl:=by omega
      clear hown hbk hbw;go_wp2_with fail
      go_ret;have e:LN A F=xy j b f:=by rw[HF.out.2.2,iB HM.out.2.1 HF.out.1 HK.out.1.met]
      rw[e];exact⟨_,rfl,HO.out.1,HO.out.2.2⟩
  |cons q todo=>
   obtain⟨nq,hnq⟩: ∃ nq,nq=todo.length:=⟨_,rfl⟩
   rw[ZJ,<-hnq]at htq Z4Q;have Hnq:=Z5 hnq;obtain⟨gq,off,cq0x,rfl,hcq⟩:=htq.Z9o;obtain⟨sa,sc,rfl⟩:=hsq.slice;have c0:wr.cell? ⟨gq,off,none⟩=some (.int .i64 q.op):=htq.cells 0 (by omega);have c1:wr.cell? ⟨gq,off+1,none⟩=some (.int .i64 q.a):=htq.cells 1 (by omega);have c2:wr.cell? ⟨gq,off+2,none⟩=some (.int .i64 q.b):=htq.cells 2 (by omega);have hgq:=(htq.lt gq rfl).2.1;have hqw:=hms.ok q (.inr List.mem_cons_self);have hb1:Below wr.heap.size wr (wr.alloc (.cells [.int .i64 q.op,.int .i64 q.a,.int .i64 q.b].toArray 118)):=(ZN _ _).alloc (Z7 _) _;have hk1:=ZD.new wr [.int .i64 q.op,.int .i64 q.a,.int .i64 q.b] 118;have Z5o:=htq.low hb1 (fun g hg=>(htq.lt g hg).2.1);have Z30:=hsq.low hb1 (fun g hg=>(hsq.lt g hg).2.1);have H1:=Ev hk hms hqw (hsq.lt) hdis (U4 hbk hb1) (hbw.trans (hb1.mono hsz));have H1q:=Zl Z30 hk1;have H1b:=Z5 hb1;clear hk hms hqw hsq hdis hbk hbw hb1 hk1 htq hnq Z30;go_upto_region 7 with fail
   go_cut [8]from 24 to 64 (fun tv wx=>wr.alloc (.cells [.int .i64 q.op,.int .i64 q.a,.int .i64 q.b].toArray 118)=wx/\ ∃ off' c',tv=.slice (some ⟨gq,off',none⟩) nq c'/\Qu (wr.alloc (.cells [.int .i64 q.op,.int .i64 q.a,.int .i64 q.b].toArray 118)) W.heap.size 118 3 tv nq (Z5t todo))
   case first=>
    by_cases hc1:1 < cq0x
    .have hq':=Z5 (Z5o.tail hc1);clear Z5o;go_wp2_with fail
     go_meet;exact⟨rfl,_,_,rfl,hq'.out⟩
    .obtain rfl:cq0x=1:=by omega
     obtain⟨h0,hq'⟩:=Z5o.last;have hq':=Z5 hq';clear Z5o;subst h0;go_wp2_with fail
     go_meet;exact⟨rfl,_,_,rfl,hq'.out⟩
   case rest=>
    obtain⟨rfl,off',c',rfl,Z5o⟩:=hcut;have Htq:=Z5 Z5o;clear Z5o c0 c1 c2;have HC:=Z5 (Z4v H1q.out.1 q);go_wp2_with fail
    refine HC.out.mono ?_;rintro e w3 ⟨d,rfl,hd,hb3⟩;have hz3:=hb3.size;simp at hz3;have hk3:=U4 H1q.out.2 hb3;have Z3Z:=H1q.out.1.low hb3 (fun g hg=>(H1q.out.1.lt g hg).2.1);have Z3Y:=Htq.out.low hb3 (fun g hg=>(Htq.out.lt g hg).2.1);have bU:=U4 H1.out.2.2.2.2.2.1 hb3;have hbw3:=H1.out.2.2.2.2.2.2.trans (hb3.mono (by simp;omega));have H3:=Wp hk3 Z3Z Z3Y bU hbw3;clear Z3Z Z3Y bU hbw3 hb3;cases d with
    |true=>
     have hmem:=Z5 (hd.1 rfl);clear hd hk3;go_wp2_with fail
     go_roundg ((700000000 -seen.length)*1002+nq)
     case rel=>exact⟨seen,todo,b,f,by rw[<-Hnq.out],H1.out.2.1.skip hmem.out,rfl,H3.out.2.1,by rw[<-Hnq.out];exact H3.out.2.2.1,H1.out.2.2.2.2.1,by rw[<-HF.out.2.2];exact H3.out.2.2.2.1,H3.out.2.2.2.2⟩
     case measure=>have h1:=H1.out.1;have h2:=Hnq.out;simp only[ZJ]at h1;omega
    |false=>
     have hnm:=Z5 (show q∉seen from fun h=>by have:=hd.2 h;simp at this);have d0:=hk3.cell 0 rfl;have d1:=hk3.cell 1 rfl;have d2:=hk3.cell 2 rfl;clear hd hk3;have hlo:W.heap.size<=w3.heap.size:=by omega
     have hn5:seen.length<=1000000000000:=by omega
     go_wp2_with (at_builtin;refine Ig w3 rfl _ _ 119 rfl W.heap.size 118 (.agg #[.int .i64 0,.int .i64 0,.int .i64 0]) 3 24 underlying119 Gb rfl (by decide) (by decide) H3.out.2.1 (by rfl) [.int .i64 q.op,.int .i64 q.a,.int .i64 q.b] rfl ?c1 (by rfl) hn5 hlo ?_)
     case c1=>simp[Value.oneCell']
     intro a4 c4 w4 h1 h2 h3;have hk4:=H3.out.1.grown h2 (fun e=>by have:=(H1.out.2.2.2.1 _ e.symm).2.1;omega);have Z4Y:=Z5m H3.out.2.2.1 (Z45 H1.out.2.2.2.2.1) h2 h3;have Z3X:=H3.out.2.2.2.1.grown h2 (Z7N H3.out.2.1 H3.out.2.2.2.1.ty (by decide));have Z4X:=H3.out.2.2.2.2.grown h2 hlo (fun g hg=>(H3.out.2.1.lt g hg).1);have HCm:=Z5 (pN (HM.out.1.low Z4X) HM.out.2.1 HM.out.2.2.nc H1.out.2.2.1);have H4:=Wp h1 Z4Y.1 (Z45 Z4Y.2) Z3X Z4X;have e0:=hk4.cell 0 rfl;have e1:=hk4.cell 1 rfl;have e2:=hk4.cell 2 rfl;have vR:=Z4X.size;clear h1 h2 h3 hk4 Z4Y Z3X Z4X d0 d1 d2;go_wp2_with fail
     refine HCm.out.mono ?_;rintro e w5 ⟨nv,rfl,V9,hb5⟩;obtain⟨X,hX⟩: ∃ X,Hid (X=(A.mv q).2.getD (-1)):=⟨_,Z5 rfl⟩
     rw[<-hX.out];obtain⟨nx,hnx⟩: ∃ nx,Hid (nx=(A.mv q).1):=⟨_,Z5 rfl⟩
     rw[<-hnx.out]at V9;have Z4m:=Qu.BJ V9;have Z3W: ∀ g,nv.ownBlock=some g->(Value.slice (some ⟨gq,off',none⟩) nq c').ownBlock≠some g:=fun g hg e=>by
      have h1:=(Z4m.lt g hg).1;have h2:=(H4.out.2.1.lt g e).2.1;omega
     have Z3V:=H4.out.1.low hb5 (fun g hg=>(H4.out.1.lt g hg).2.1);have Z4W:=H4.out.2.1.low hb5 (fun g hg=>(H4.out.2.1.lt g hg).2.1);have Z44:=U4 H4.out.2.2.2.1 hb5;have Z43:=H4.out.2.2.2.2.trans (hb5.mono vR);obtain⟨an,cn,rfl⟩:=ZR V9;have H5:=Qd Z3V Z4W H4.out.2.2.1 Z43 (Z4m.mono vR) Z3W;have HN:=Z5 V9;have Z4u:=Z5 Z44;have hf5:=fun(u:Nat) (hu:u < nl)=>And.intro (Z44.cell u (LM hu)) (Z44.free u);have Hf5:=Z5 hf5;clear Z3V Z4W Z44 Z43 Z4m Z3W V9 hb5 e0 e1 e2 hf5
     go_upto_block 2 with fail
     go_cut [7]from 24 to 64 (fun ev wx=> ∃ b' f',ev=.bool b'/\(∀ x,PN b' f' x↔PN b f x\/(A.mv q).2=some x)/\ZD wx gi (Bg nl f') 4/\Fr [4] W.heap.size w5 wx)
     case first=>
      have hx2:=(HM.out.2.1.mv H1.out.2.2.1).2;cases ho:(A.mv q).2 with
      |none=>
       have hx:X= -1:=by rw[hX.out,ho];rfl
       subst hx;have Ho0x:=Z5 ho;clear hx2 ho;go_wp2_with fail
       go_meet;exact⟨b,f,rfl,fH Ho0x.out,Z4u.out,Fr.refl _ _ _⟩
      |some x=>
       rcases hx2 x ho with rfl|hx
       .have hx:X= -2:=by rw[hX.out,ho];rfl
        subst hx;have Ho0x:=Z5 ho;clear hx2 ho;go_wp2_with fail
        go_meet;exact⟨true,f,rfl,iA Ho0x.out,Z4u.out,Fr.refl _ _ _⟩
       .obtain⟨u,rfl,hu⟩:=hx.cast;have hx:X=(u:Int):=by rw[hX.out,ho];rfl
        subst hx;have hun:u < nl:=by rw[HF.out.2.2];exact hu
        obtain⟨ci,cf⟩:=Hf5.out u hun;have k2:((u:Int)== -2)=false:=by rw[beq_eq_false_iff_ne];omega
        have k1:((u:Int)!= -1)=true:=by rw[bne_iff_ne];omega
        have hset:=Z4u.out.set u (.bool true);rw[fL hun]at hset;have HS:=Zl hset ((Fr.refl [4] W.heap.size w5).X9 ⟨gi,u,none⟩ (.bool true) Z4u.out.ty (by simp) Z4R);have Ho0x:=Z5 ho;clear hx2 ho hu hset;go_wp2_with fail
        go_meet;exact⟨b,_,rfl,pM Ho0x.out,HS.out.1,HS.out.2⟩
     case rest=>
      obtain⟨b',f',rfl,hrec,Du,hf6⟩:=hcut;have Z3U:=H5.out.1.fr hf6 (by decide);have Z4E:=H5.out.2.1.fr hf6 (by decide);have Z4N:=H5.out.2.2.2.2.1.fr hf6 (by decide);have Z3T:=H5.out.2.2.2.1.trans hf6.below;have H6:=Wp Z3U Z4E Z4N Du Z3T;have HR:=Z5 hrec;clear hrec Du hf6 Z3U Z4E Z4N Z3T;go_wp2_with fail
      go_loopw [8,56] (fun tv ix wx=>Z33 W gi (Bg nl f') (seen++ [q]) todo nx (.slice a4 (seen.length+1) c4) (.slice an nx.length cn) tv ix wx) (fun _ ix _=>nx.length -(intOf ix).toNat)
      case atStart=>
       refine⟨0,rfl,by omega,?_,⟨?_,H5.out.2.2.1⟩,⟨H6.out.2.2.1,H5.out.2.2.2.2.2⟩,H6.out.2.2.2.1,H6.out.2.2.2.2⟩
       .have h1:=H6.out.2.1;simp only[List.take_zero,Y9,Zn];rw[<-Hnq.out];exact h1
       .have h1:=H6.out.1;rw[Z47,Z4];exact h1
      case round=>
       obtain⟨j,rfl,hj,Z5p,Z4l,Z5c,cm,Z5n⟩:=hrel;obtain⟨ta,tc,rfl⟩:=Z5p.slice;have HT:=Wp Z5p Z4l Z5c cm Z5n;by_cases hjl:j < nx.length
       .obtain⟨y,hy⟩: ∃ y,nx[j]? =some y:=⟨_,Z9 hjl⟩
        obtain⟨gn,cn',hgn⟩:=XM HN.out (by omega);cases hgn;have g0: ∀ i,i < 3->wr.cell? ⟨gn,j*3+i,none⟩=y.cl[i]? :=fun i hi=>by
         have h1:=Z5c.1.cells (j*3+i) (by omega);rw[YR]at h1;rw[h1,Z46 hy hi]
        have y0:wr.cell? ⟨gn,j*3,none⟩=some (.int .i64 y.op):=g0 0 (by omega);have y1:wr.cell? ⟨gn,j*3+1,none⟩=some (.int .i64 y.a):=g0 1 (by omega);have y2:wr.cell? ⟨gn,j*3+2,none⟩=some (.int .i64 y.b):=g0 2 (by omega);have hy:=Z5 hy;have hb8:Below wr.heap.size wr (wr.alloc (.cells [.int .i64 y.op,.int .i64 y.a,.int .i64 y.b].toArray 118)):=(ZN _ _).alloc (Z7 _) _;have Z4k:=Z5 (Z5p.low hb8 (fun g hg=>(Z5p.lt g hg).2.1));have Z3G:=Z5n.size;have hn8:todo.length+j<=1000000000000:=by
         have h1:=Hnq.out;have h2:=HM.out.2.2.mv H1.out.2.2.1;rw[<-hnx.out]at h2;omega
        have Z3S:W.heap.size<=(wr.alloc (.cells [.int .i64 y.op,.int .i64 y.a,.int .i64 y.b].toArray 118)).heap.size:=by simp;omega
        have HB8:=Z5 hb8;clear g0 Z5p Z4l Z5c cm Z5n hb8;go_wp2_with (at_builtin;refine Ig (wr.alloc _) rfl _ _ 119 rfl W.heap.size 118 (.agg #[.int .i64 0,.int .i64 0,.int .i64 0]) 3 24 underlying119 Gb rfl (by decide) (by decide) Z4k.out (by rfl) [.int .i64 y.op,.int .i64 y.a,.int .i64 y.b] rfl ?c1 (by simp;rfl) hn8 Z3S ?_)
        case c1=>simp[Value.oneCell']
        intro a90x c9 w9 h1 h2 h3;have h3:=h3.imp id (fun⟨g,x1,x2⟩=>(⟨g,x1,by simpa using x2⟩: ∃ g,(Value.slice a90x (todo.length+j+1) c9).ownBlock=some g/\(wr.alloc (Obj.cells [Value.int .i64 y.op,Value.int .i64 y.a,Value.int .i64 y.b].toArray 118)).heap.size<=g));obtain⟨i1,⟨i2,i2'⟩,⟨i3,i3'⟩,i4,i5⟩:=HT.out;have l2:=i2.low HB8.out (fun g hg=>(i2.lt g hg).2.1);have l3:=i3.low HB8.out (fun g hg=>(i3.lt g hg).2.1);have H9:=Wp h1 (Z5m l2 i2' h2 h3) (Z5m l3 i3' h2 h3) ((U4 i4 HB8.out).grown h2 (Z7N Z4k.out (U4 i4 HB8.out).ty (by decide))) ((i5.trans (HB8.out.mono Z3G)).grown h2 Z3S (fun g hg=>(Z4k.out.lt g hg).1));clear h1 h2 h3 i1 i2 i2' i3 i3' i4 i5 l2 l3;go_wp2_with fail
        refine⟨⟨j+1,by simp,hjl,?_,H9.out.2.1,H9.out.2.2.1,H9.out.2.2.2.1,H9.out.2.2.2.2⟩,by simp[intOf];omega⟩;have e:Z5t (todo++nx.take (j+1))=Z5t (todo++nx.take j)++ [.int .i64 y.op,.int .i64 y.a,.int .i64 y.b]:=by
         rw[List.take_add_one,hy.out,<-ZI,Z47];rfl
        rw[e];exact H9.out.1
       .have hje:=Z5 (show j=nx.length by omega);clear Z5p Z4l Z5c cm Z5n;go_wp2_with fail
        have Z48:=Z5 (H1.out.2.1.take HM.out.2.1 HM.out.2.2 hnm.out HR.out);have Z4x:=(Z48.out.small HM.out.2.2).1;rw[Z4,List.length_singleton]at Z4x;go_roundg ((700000000 -(seen.length+1))*1002+(nq+nx.length))
        case rel=>
         obtain⟨i1,i2,i3,i4,i5⟩:=HT.out;have h1:=hje.out;subst h1;rw[List.take_length]at i1;refine⟨seen++ [q],todo++nx,b',f',by simp[Hnq.out],by rw[hnx.out];exact Z48.out,rfl,?_,?_,i2.2,by rw[<-HF.out.2.2];exact i4,i5⟩
         .exact i2.1
         .rw[Z4];exact i1
        case measure=>
         have h1:=H1.out.1;have h2:=Hnq.out;have h3:=HM.out.2.2.mv H1.out.2.2.1;rw[<-hnx.out]at h3;simp only[ZJ]at h1;omega
theorem Z5b {W w:World} (hb:W.heap.size<=w.heap.size) (q:Pl):Qu (w.alloc (.cells [.int .i64 q.op,.int .i64 q.a,.int .i64 q.b].toArray 118)) W.heap.size 118 3 (.slice (some ⟨w.heap.size,0,none⟩) 1 1) 1 (Z5t [q]):=
 ⟨rfl,.inr ⟨w.heap.size,0,1,_,rfl,hb,ZD.new w _ 118,by decide,by decide,by simp,rfl⟩⟩
theorem Z5k (M:QW W lo p A) (Wd:Wf A) (hs:Sm A):Calls prog 50 #[p] W (Z5a (qK A) W):=by
 have HC:=Z5 (Z5j M Wd hs (F:= [⟨1,0,0⟩]) (fun q hq=>by simp at hq;subst hq;exact Wd.zero) (by simp) ((ZN _ _).alloc (Z7 _) _) (Z5b (Z7 _) ⟨1,0,0⟩));clear M Wd hs;go_enter func50,ntmps50;go_wp2_with fail
 refine HC.out.mono ?_;rintro e w3 ⟨v',rfl,hv,hb3⟩;obtain⟨av,cv,rfl⟩:=ZR hv;have H3:=Zl hv hb3;clear hv hb3;go_wp2_with fail
 go_ret;exact⟨_,rfl,H3.out.1,H3.out.2⟩
end
end
section
section
section
variable {W w:World} {lo p:Nat} {A:Tr}
theorem Z5i (M:QW W lo p A) (Wd:Wf A) (hs:Sm A) {q:Pl} (hq:NY A q) (hb:Below W.heap.size W w):
  Calls prog 74 #[p,.slice (some ⟨w.heap.size,0,none⟩) 1 1] (w.alloc (.cells [.int .i64 q.op,.int .i64 q.a,.int .i64 q.b].toArray 118)) (Z5a (LN A [q]) W):=
 Z5j M Wd hs (F:= [q]) (fun r hr=>by simp at hr;subst hr;exact hq) (by simp) (hb.alloc hb.size _) (Z5b hb.size q)
theorem Z4B (M:QW W lo p A) (Wd:Wf A) (hs:Sm A) {q:Pl} (hq:NY A q) (hb:Below W.heap.size W w):
  Calls prog 74 #[p,.slice (some ⟨w.heap.size,0,none⟩) 1 1] (w.alloc (.cells [.int .i64 q.op,.int .i64 q.a,.int .i64 q.b].toArray 118)).drew (Z5a (LN A [q]) W):=
 Z5j M Wd hs (F:= [q]) (fun r hr=>by simp at hr;subst hr;exact hq) (by simp) (hb.alloc hb.size _).drew ((Z5b hb.size q).low (ZN _ _).drew (fun g hg=>((Z5b hb.size q).lt g hg).2.1))
theorem Z42:LN A []= []:=by
 unfold LN;rw[List.filter_eq_nil_iff];intro x _;simp
theorem Z4M (M:QW W lo p A) (Wd:Wf A) (hs:Sm A) {n:Nat} (hn:n < A.ls.length) (v:Bool):Calls prog 59 #[p,.int .i64 n,v] W (Z5a (xH A n v) W):=by
 have HM:=X7 M Wd hs;obtain⟨_,_,_,_,_,_,M⟩:=M;obtain⟨gl,Z9m,rfl⟩:=M.iM (by omega);have hok:Ok (n:Int) A.ls.length:=⟨by omega,by omega⟩
 have hlf:=Wd.lf hok;have haft:=Wd.Nu hok v;obtain⟨m,hm,hml⟩:=hlf.of.cast;obtain⟨g,cap,rfl⟩:=M.Kd (by omega);obtain⟨vb,ve,vc,cv,tv,ov,hX⟩:=M.nd hml;have hrg:=BD hX;have hone:=hX.one;have Ib:=Z5 hone;clear hone;obtain⟨l0,l1,l2⟩:=M.lf3 hn;rw[hm]at l0;have q0:=M.t.blk.cell 0 rfl;have q1:=M.t.blk.cell 1 rfl;have hpl:=M.t.blk.lt;have hgl:=(M.t.n.lt g rfl).2;have Z3A:=(M.t.l.lt gl rfl).2;have h5:=hlf.five;rw[hm]at h5;have hcv:=hX.cv;have hov:=hX.ov;have hwn:=Wd.nd ⟨by omega,by omega⟩ (n:=(m:Int));have Z9s:=hwn.tof;obtain⟨X,UX⟩: ∃ X:Nd,X= { A.nd (m:Int)with target:=A.tgt (m:Int) } :=⟨_,rfl⟩
 obtain⟨R,hR⟩: ∃ R,Hid (R=xH A n v):=⟨_,Z5 rfl⟩
 rw[<-hR.out];have hA:A.Nu n v=if(A.lf n).what=1 then(if X.h.kind=2\/X.h.kind=9 then []else [A.behind m])else if(A.lf n).what=2 then [A.entered m]else if(A.lf n).what=4 then [⟨2,m,0⟩]else if(A.lf n).what=5 then(if v=true then [⟨1,(X.choices.getD (X.YY.getD (A.lf n).index.toNat 0).toNat Z9P).list,0⟩]else [⟨3,m,(A.lf n).index+1⟩])else [A.decided m v]:=by
  rw[UX];unfold Tr.Nu;rw[hm];rfl
 have h5:(A.lf n).what=5->Ok (A.lf n).index X.YY.length:=by rw[UX];exact h5
 have Z9s: ∀ q∈X.YY,Ok q X.choices.length:=by rw[UX];exact Z9s
 rw[<-UX]at hrg hcv hov;have Z3z:=HM.out.2.2.1;have hpn:=HM.out.1.NT Wd hml;clear UX hwn;generalize(A.lf n).what=wh at*;generalize(A.lf n).index=ix at*;obtain⟨w1,hw1⟩: ∃ w1,w1=W.alloc (.cells [.int .i64 m,.int .i64 wh,.int .i64 ix].toArray 73):=⟨_,rfl⟩
 have hb1:Below W.heap.size W w1:=by rw[hw1];exact(ZN _ _).alloc (Z7 _) _
 have hk1:ZD w1 W.heap.size [.int .i64 m,.int .i64 wh,.int .i64 ix] 73:=by rw[hw1];exact ZD.new W _ 73
 have hz1:w1.heap.size=W.heap.size+1:=by rw[hw1];simp
 have hfx: ∀ w':World,Below w1.heap.size w1 w'->w'.cell? ⟨p,1,none⟩=some (.slice (some ⟨g,0,none⟩) A.ns.length cap)/\w'.cell? ⟨W.heap.size,0,none⟩=some (.int .i64 m)/\w'.rangeAt g (m*24) (ZQ X vb ve vc cv tv ov):=fun w' hb=>by
  have hb2:=hb1.trans (hb.mono (by omega));exact⟨(hb2.cell (p:=⟨p,1,none⟩) hpl).trans q1,(hb.cell (p:=⟨W.heap.size,0,none⟩) (by show W.heap.size < _;omega)).trans (hk1.cell 0 rfl),fun j u hu=>(hb2.cell (p:=⟨g,m*24+j,none⟩) hgl).trans (hrg j u hu)⟩
 have HB1:=Xp hb1 hk1 hcv hov;have HA0:=Zl hA haft;have JJ:=Z5 hfx;clear hfx hrg hX hlf hok M hb1 hk1 hcv hov hA haft Wd hs;subst hw1;go_enter func59,ntmps59;go_wp2_with fail
 refine Qe 8 8 16 79 Tf (ZQ X vb ve vc cv tv ov) (by intro d _ _ _ _ h;cases d<;>exact h) rfl rfl rfl rfl rfl rfl rfl rfl XR rfl Wk (qH _ _ _ _ _ _ _ Ib.out) ?_
 iterate 7
  refine⟨_,?_,rfl,rfl,.inl ⟨by rfl,fun w' hb=>?_⟩,?_⟩
  rotate_left
  .obtain⟨e0,e1,_⟩:=JJ.out w' hb;go_simp;try with_reducible rfl
  simp only[Act.put,ZK,Zp,Zo]
 refine⟨_,_,rfl,rfl,yieldsIf_load_mid (by rfl) 79 _ rfl g (m*24) rfl _ _ (fun w' hb=>(JJ.out w' hb).2.2) underlying79 rfl Wk,?_⟩;simp only[Act.put,ZK,Zp,Zo];refine⟨rfl,rfl,fun w2 hb2 hf2=>?_⟩;simp only[Act.put,ZK,Zp,Zo];rw[hz1]at hb2 ⊢;obtain⟨hb1,hk1,hcv,hov⟩:=HB1.out;have hbw:Below W.heap.size W w2:=hb1.trans (hf2.mono (by omega));have c0:=(hf2.cell (p:=⟨W.heap.size,0,none⟩) (by show W.heap.size < _;omega)).trans (hk1.cell 0 rfl);have c1:=(hf2.cell (p:=⟨W.heap.size,1,none⟩) (by show W.heap.size < _;omega)).trans (hk1.cell 1 rfl);have c2:=(hf2.cell (p:=⟨W.heap.size,2,none⟩) (by show W.heap.size < _;omega)).trans (hk1.cell 2 rfl);have d0:=hb2.cell 0 rfl;have HB:=X7 hbw hb2 hf2;have hbz:=hbw.size;have HC:=Wp hcv hov h5 Z9s hpn;clear hb2 hf2 hb1 hk1 hcv hov hbw h5 Z9s hpn;obtain⟨kd,hkd⟩: ∃ kd,Hid (kd=X.h.kind):=⟨_,Z5 rfl⟩
 rw[<-hkd.out]at d0;by_cases hw1:wh=1
 .subst hw1;have HA1:=Z5 (show A.Nu n v=if kd=2\/kd=9 then []else [A.behind m]by rw[HA0.out.1,if_pos rfl,hkd.out]);by_cases hk2:kd=2
  .subst hk2;have HA:=Z5 (show A.Nu n v= []by rw[HA1.out,if_pos (.inl rfl)]);go_wp2_with fail
   go_ret;rw[hR.out,xH,HA.out,Z42];exact⟨_,rfl,⟨rfl,.inl ⟨rfl,rfl⟩⟩,HB.out.1⟩
  by_cases hk9:kd=9
  .subst hk9;have HA:=Z5 (show A.Nu n v= []by rw[HA1.out,if_pos (.inr rfl)]);go_wp2_with fail
   go_ret;rw[hR.out,xH,HA.out,Z42];exact⟨_,rfl,⟨rfl,.inl ⟨rfl,rfl⟩⟩,HB.out.1⟩
  have k2:(kd==2)=false:=by simp[hk2]
  have k9:(kd==9)=false:=by simp[hk9]
  have HA:=Z5 (show A.Nu n v= [A.behind m]by rw[HA1.out,if_neg (by omega)]);have hq:=Z5 (HA0.out.2 (A.behind m) (by rw[HA.out];simp));have HCb:=Z5 (Xb (HM.out.1.low HB.out.1) hml HC.out.2.2.2.2);clear hk2 hk9;go_wp2_with fail
  refine HCb.out.mono ?_;rintro e w3 ⟨rfl,hb3⟩;have HCm:=Z5 (Z5i HM.out.1 HM.out.2.1 HM.out.2.2 hq.out (HB.out.1.trans (hb3.mono hbz)));clear hb3;unfold Np;go_wp2_with fail
  refine HCm.out.mono ?_;rintro e w9 ⟨v',rfl,hv,cq⟩;obtain⟨va,vc,rfl⟩:=ZR hv;have H9:=Zl hv cq;clear hv cq;go_wp2_with fail
  go_ret;rw[hR.out,xH,HA.out];exact⟨_,rfl,H9.out.1,H9.out.2⟩
 by_cases hw2:wh=2
 .subst hw2;have HA:=Z5 (show A.Nu n v= [A.entered m]by rw[HA0.out.1];rfl);have hq:=Z5 (HA0.out.2 (A.entered m) (by rw[HA.out];simp));have HCb:=Z5 (JQ (HM.out.1.low HB.out.1) HM.out.2.1 hml);clear hw1;go_wp2_with fail
  refine HCb.out.mono ?_;rintro e w3 ⟨u,rfl,hu,hb3⟩;obtain⟨ua,uc,rfl⟩:=ZR hu;have HCm:=Z5 (Z5j HM.out.1 HM.out.2.1 HM.out.2.2 (F:= [A.entered m]) (fun r hr=>by simp at hr;subst hr;exact hq.out) (by simp) (HB.out.1.trans (hb3.mono hbz)) ((Qu.BJ hu).mono hbz));clear hu hb3;go_wp2_with fail
  refine HCm.out.mono ?_;rintro e w9 ⟨v',rfl,hv,cq⟩;obtain⟨va,vc,rfl⟩:=ZR hv;have H9:=Zl hv cq;clear hv cq;go_wp2_with fail
  go_ret;rw[hR.out,xH,HA.out];exact⟨_,rfl,H9.out.1,H9.out.2⟩
 by_cases hw4:wh=4
 .subst hw4;have HA:=Z5 (show A.Nu n v= [⟨2,m,0⟩]by rw[HA0.out.1];rfl);have hq:=Z5 (HA0.out.2 ⟨2,m,0⟩ (by rw[HA.out];simp));have HCm:=Z5 (Z5i HM.out.1 HM.out.2.1 HM.out.2.2 hq.out HB.out.1);clear hw1 hw2;go_wp2_with fail
  refine HCm.out.mono ?_;rintro e w9 ⟨v',rfl,hv,cq⟩;obtain⟨va,vc,rfl⟩:=ZR hv;have H9:=Zl hv cq;clear hv cq;go_wp2_with fail
  go_ret;rw[hR.out,xH,HA.out];exact⟨_,rfl,H9.out.1,H9.out.2⟩
 have k1:(wh==1)=false:=by simp[hw1]
 have k2:(wh==2)=false:=by simp[hw2]
 have k4:(wh==4)=false:=by simp[hw4]
 by_cases hw5:wh=5
 .subst hw5;cases v with
  |false=>
   have HA:=Z5 (show A.Nu n false= [⟨3,m,ix+1⟩]by rw[HA0.out.1];rfl);have hq:=Z5 (HA0.out.2 ⟨3,m,ix+1⟩ (by rw[HA.out];simp));have hix:=HM.out.2.2.pl hq.out;dsimp only at hix;have hwr:=IntWalk.i64_in (ix+1) (by omega);have HCm:=Z5 (Z5i HM.out.1 HM.out.2.1 HM.out.2.2 hq.out HB.out.1);clear hw1 hw2 hw4;go_wp2_with fail
   refine HCm.out.mono ?_;rintro e w9 ⟨v',rfl,hv,cq⟩;obtain⟨va,vc,rfl⟩:=ZR hv;have H9:=Zl hv cq;clear hv cq;go_wp2_with fail
   go_ret;rw[hR.out,xH,HA.out];exact⟨_,rfl,H9.out.1,H9.out.2⟩
  |true=>
   obtain⟨k,rfl,hk⟩:=(HC.out.2.2.1 rfl).cast;have HA:=Z5 (show A.Nu n true= [⟨1,(X.choices.getD (X.YY.getD ((k:Int)).toNat 0).toNat Z9P).list,0⟩]by rw[HA0.out.1];rfl);have hov:=HC.out.2.1;have hcv:=HC.out.1;obtain⟨go,oc,rfl⟩:=XM hov (by omega);obtain⟨r,hr,hrl⟩:=(HC.out.2.2.2.1 (X.YY[k]) (List.getElem_mem hk)).cast;obtain⟨gc,cc,rfl⟩:=XM hcv (by omega);have he:(X.choices.getD (X.YY.getD ((k:Int)).toNat 0).toNat Z9P).list=(X.choices[r]).list:=by
    have e1:X.YY.getD k 0=(r:Int):=by
     rw[Zy,Z9 hk];exact hr
    rw[show((k:Int)).toNat=k from rfl,e1,show((r:Int)).toNat=r from rfl,Zy,Z9 hrl,Option.getD_some]
   rw[he]at HA;have hq:=Z5 (HA0.out.2 ⟨1,(X.choices[r]).list,0⟩ (by rw[HA.out];simp));have hbw:=HB.out.1;have t1:w2.cell? ⟨go,k,none⟩=some (.int .i64 r):=(hbw.cell (p:=⟨go,k,none⟩) (hov.lt go rfl).2).trans (by rw[ZF hov k (by omega),Yt,Z9 hk,hr];rfl);have t2:w2.cell? ⟨gc,r*3+1,none⟩=some (.int .i64 (X.choices[r]).list):=(hbw.cell (p:=⟨gc,r*3+1,none⟩) (hcv.lt gc rfl).2).trans (by
    have h1:=ZF hcv (r*3+1) (by omega);have h2:=Rh (n:=3) (f:=V1.cells) (fun _=>rfl) (Z9 hrl) (j:=1) (by decide);rw[h1];exact h2)
   have d20:w2.cell? ⟨W.heap.size+1,20,none⟩=some (.slice (some ⟨gc,0,none⟩) X.choices.length cc):=HB.out.2.1.cell 20 rfl;have d22:w2.cell? ⟨W.heap.size+1,22,none⟩=some (.slice (some ⟨go,0,none⟩) X.YY.length oc):=HB.out.2.1.cell 22 rfl;have hS0:=And.intro d20 (And.intro d22 (And.intro c2 (And.intro t1 t2)));have al:=fun(o:Obj) (a:Addr) (u:Value) (h:w2.cell? a=some u)=>(World.cell?_alloc_some w2 a o (by rw[h];rfl)).trans h;have hS1:=fun(o:Obj)=>And.intro (al o _ _ d20) (And.intro (al o _ _ d22) (And.intro (al o _ _ c2) (And.intro (al o _ _ t1) (al o _ _ t2))));clear al;have HCm:=Z5 (Z4B (W:=w2) (HM.out.1.low hbw) HM.out.2.1 HM.out.2.2 hq.out (ZN _ _));have HS:=Z5 (fun(w':World) (hb:Below w2.heap.size w2 w')=>And.intro ((hb.cell (World.block_lt_of_cell? w2 _ d20)).trans d20) (And.intro ((hb.cell (World.block_lt_of_cell? w2 _ d22)).trans d22) (And.intro ((hb.cell (World.block_lt_of_cell? w2 _ c2)).trans c2) (And.intro ((hb.cell (World.block_lt_of_cell? w2 _ t1)).trans t1) ((hb.cell (World.block_lt_of_cell? w2 _ t2)).trans t2)))));clear hw1 hw2 hw4 hov hcv hr he hbw t1 t2 d20 d22;generalize(X.choices[r]).list=cl at*;go_wp2_with fail
   go_region_held3 (fun w':World=>w'.cell? ⟨W.heap.size+1,20,none⟩=some (.slice (some ⟨gc,0,none⟩) X.choices.length cc)/\w'.cell? ⟨W.heap.size+1,22,none⟩=some (.slice (some ⟨go,0,none⟩) X.YY.length oc)/\w'.cell? ⟨W.heap.size,2,none⟩=some (.int .i64 (k:Int))/\w'.cell? ⟨go,k,none⟩=some (.int .i64 (r:Int))/\w'.cell? ⟨gc,r*3+1,none⟩=some (.int .i64 cl)) (first|exact hS0|exact hS1 _|exact hS2|go_keep) (first|((go_at_call 74;refine HCm.out.mono ?_;rintro e w9 ⟨v',rfl,hv,cq⟩;obtain⟨va,vc,rfl⟩:=ZR hv;have hS2:=HS.out w9 cq;have H9:=Zl (Yp hv hbz) (HB.out.1.trans (cq.mono hbz));clear hv cq)))
   go_wp2_with fail
   go_ret;rw[hR.out,xH,HA.out];exact⟨_,rfl,H9.out.1,H9.out.2⟩
 .have k5:(wh==5)=false:=by simp[hw5]
  have HA:=Z5 (show A.Nu n v= [A.decided m v]by rw[HA0.out.1,if_neg hw1,if_neg hw2,if_neg hw4,if_neg hw5]);have hq:=Z5 (HA0.out.2 (A.decided m v) (by rw[HA.out];simp));have HCb:=Z5 (vd (HM.out.1.low HB.out.1) HM.out.2.1 hml v);clear hw1 hw2 hw4 hw5;go_wp2_with fail
  refine HCb.out.mono ?_;rintro e w3 ⟨rfl,hb3⟩;have HCm:=Z5 (Z5i HM.out.1 HM.out.2.1 HM.out.2.2 hq.out (HB.out.1.trans (hb3.mono hbz)));clear hb3;unfold Np;go_wp2_with fail
  refine HCm.out.mono ?_;rintro e w9 ⟨v',rfl,hv,cq⟩;obtain⟨va,vc,rfl⟩:=ZR hv;have H9:=Zl hv cq;clear hv cq;go_wp2_with fail
  go_ret;rw[hR.out,xH,HA.out];exact⟨_,rfl,H9.out.1,H9.out.2⟩
end
end
section
structure ML0x (A:Tr) (seen todo:List Int) (b:Bool) (f:Nat->Bool):Prop where
 met:Met (NW A) (qK A) seen todo (PN b f)
 ok: ∀ x,x∈seen\/x∈todo->x= -2\/Ok x A.ls.length
 sn: ∀ x,x∈seen↔PN b f x
 len:todo.length<=4001+8002*seen.length
section
variable {A:Tr} {seen todo:List Int} {b:Bool} {f:Nat->Bool}
theorem Z5s (hs:Sm A) {i:Int} {v:Bool} :(xH A i v).length<=4001:=by
 have h:=iV (A:=A) (F:=A.Nu i v);have h2:=hs.1;unfold xH;omega
theorem ML0x.start (W:Wf A) (hs:Sm A):ML0x A [] (qK A) false (fun _=>false):=
 ⟨Met.start.congr (fun _=>EH.symm),fun x hx=>hx.elim (fun h=>by simp at h) (QY W (fun p hp=>by simp at hp;subst hp;exact W.zero) x),fun x=>by rw[EH];simp,by
  have h:=iV (A:=A) (F:= [⟨1,0,0⟩]);have h2:=hs.1;unfold qK;simp only[List.length_nil];omega⟩
theorem ML0x.small (h:ML0x A seen todo b f) (hs:Sm A):seen.length<=4002/\todo.length<=40000000:=by
 have h1:=Qy 4002 (seen.map (fun x=>(x+2).toNat)) (MV h.met.nodup (fun x hx y hy e=>by
  have h1:=h.ok x (.inl hx);have h2:=h.ok y (.inl hy);unfold Ok at h1 h2;omega)) (fun x hx=>by
  obtain⟨p,hp,rfl⟩:=Y2.1 hx;have h1:=h.ok p (.inl hp);have h2:=hs.1;unfold Ok at h1;omega)
 rw[Y8]at h1;have h2:=h.len;omega
theorem ML0x.skip {p:Int} (h:ML0x A seen (p::todo) b f) (hp:PN b f p):ML0x A seen todo b f:=
 ⟨h.met.skip ((h.sn p).2 hp),fun q hq=>h.ok q (hq.imp id (Z2 _)),h.sn,by have:=h.len;simp only[ZJ]at this;omega⟩
theorem ML0x.end_ (h:ML0x A seen ((-2)::todo) b f) (hb:b=false):ML0x A (seen++ [-2]) todo true f:=by
 have hn:(-2:Int)∉seen:=fun hm=>by
  rcases(h.sn _).1 hm with h1|⟨u,h1,_⟩
  .rw[hb]at h1;exact absurd h1.2 (by decide)
  .omega
 have hst:NW A (-2)=([],some (-2)):=by simp[NW]
 have hm:=h.met.take (rec':=PN true f) hn (l:= []) (o:=some (-2)) (by rw[hst]) (by rw[hst]) (iA rfl);rw[Y9]at hm;refine⟨hm,fun q hq=>?_,fun x=>?_,?_⟩
 .simp only[ZM,Zk]at hq;rcases hq with(hq|rfl) |hq
  .exact h.ok q (.inl hq)
  .exact .inl rfl
  .exact h.ok q (.inr (Z2 _ hq))
 .rw[iA (b:=b) rfl x,ZM,h.sn,Zk];exact or_congr Iff.rfl ⟨fun e=>by rw[e],fun e=>by simpa using e.symm⟩
 .have h1:=h.len;simp only[ZJ,Z4,List.length_nil]at h1 ⊢;omega
theorem ML0x.take {u:Nat} (W:Wf A) (hs:Sm A) (h:ML0x A seen ((u:Int)::todo) b f) (hf:f u=false):ML0x A (seen++ [(u:Int)]) (todo++(xH A u true++xH A u false)) b (fun i=>f i||i==u):=by
 have hok:Ok (u:Int) A.ls.length:=(h.ok u (.inr List.mem_cons_self)).elim (fun e=>by omega) id;have hn:(u:Int)∉seen:=fun hm=>by
  rcases(h.sn _).1 hm with h1|⟨v,h1,h2⟩
  .omega
  .obtain rfl:u=v:=by omega
   rw[hf]at h2;exact absurd h2 (by decide)
 have hst:NW A u=(xH A u true++xH A u false,some (u:Int)):=by unfold NW;rw[if_neg (by omega)]
 refine⟨h.met.take hn (by rw[hst]) (by rw[hst]) (pM rfl),fun q hq=>?_,fun x=>?_,?_⟩
 .simp only[ZM,Zk]at hq;rcases hq with(hq|rfl) |hq|hq|hq
  .exact h.ok q (.inl hq)
  .exact .inr hok
  .exact h.ok q (.inr (Z2 _ hq))
  .exact QY W (W.Nu hok true) q hq
  .exact QY W (W.Nu hok false) q hq
 .rw[pM (b:=b) (f:=f) rfl x,ZM,h.sn,Zk];exact or_congr Iff.rfl ⟨fun e=>by rw[e],fun e=>by simpa using e.symm⟩
 .have h1:=h.len;have h2:=Z5s hs (i:=u) (v:=true);have h3:=Z5s hs (i:=u) (v:=false);simp only[ZJ,Z4,List.length_nil]at h1 ⊢;omega
theorem ML0x.done (h:ML0x A seen [] b f) (W:Wf A):(b=true↔Rd A (-2))/\ ∀ u:Nat,f u=true↔Rd A u:=by
 have key: ∀ x,PN b f x↔Rd A x:=fun x=>by rw[<-fQ W x,h.met.done x]
 refine⟨?_,fun u=>?_⟩
 .rw[<-key];exact⟨fun e=>.inl ⟨rfl,e⟩,fun e=>e.elim (fun e=>e.2) (fun⟨u,e,_⟩=>by omega)⟩
 .rw[<-key];refine⟨fun e=>.inr ⟨u,rfl,e⟩,fun e=>?_⟩;rcases e with e|⟨v,e,h⟩
  .omega
  .obtain rfl:u=v:=by omega
   exact h
end
noncomputable def Z5r (A:Tr) (u:Nat) (j:Nat):List Int:=([true,false].take j).flatMap (fun v=>xH A u v)
theorem Z5e (A:Tr) (u:Nat) {j:Nat} (h:j < 2):Z5r A u (j+1)=Z5r A u j++xH A u (j==0):=by
 match j,h with
 |0,_=>simp[Z5r]
 |1,_=>simp[Z5r]
theorem Z41 (A:Tr) (u:Nat):Z5r A u 2=xH A u true++xH A u false:=by simp[Z5r]
def Z3R (A:Tr) (W:World) (gi:Nat) (k:Nat) (ev tv:Value) (wr:World):Prop:=
 ∃ (seen todo:List Int) (b:Bool) (f:Nat->Bool),k=(5000 -seen.length)*8003+todo.length/\ML0x A seen todo b f/\ev=.bool b/\Qu wr W.heap.size 3 1 tv todo.length (todo.map (Value.int .i64))/\ZD wr gi (Bg A.ls.length f) 4/\Below W.heap.size W wr
def Z3Q (A:Tr) (W:World) (gi lb:Nat) (bs:List Value) (todo:List Int) (u:Nat) (tv ix:Value) (wr:World):Prop:=
 ∃ j:Nat,ix=.int .i64 j/\j<=2/\Qu wr W.heap.size 3 1 tv (todo.length+(Z5r A u j).length) ((todo++Z5r A u j).map (Value.int .i64))/\ZD wr gi bs 4/\Below W.heap.size W wr/\ZD wr lb [true,false] 4
def Z3P (W:World) (gi lb:Nat) (bs:List Value) (nt0x:Nat) (todo nx:List Int) (nv tv ix:Value) (wr:World):Prop:=
 ∃ j:Nat,ix=.int .i64 j/\j<=nx.length/\Qu wr W.heap.size 3 1 tv (nt0x+j) ((todo++nx.take j).map (Value.int .i64))/\(Qu wr W.heap.size 3 1 nv nx.length (nx.map (Value.int .i64))/\ ∀ g,nv.ownBlock=some g->tv.ownBlock≠some g)/\ZD wr gi bs 4/\Below W.heap.size W wr/\ZD wr lb [true,false] 4
def ReP (A:Tr) (W:World) (e:Ending) (w':World):Prop:= ∃ gi f b,e=.returned (.tuple #[.slice (some ⟨gi,0,none⟩) A.ls.length A.ls.length,.bool b])/\ZD w' gi (Bg A.ls.length f) 4/\(b=true↔Rd A (-2))/\(∀ u:Nat,f u=true↔Rd A u)/\Below W.heap.size W w'/\W.heap.size<=gi
section
variable {W:World} {lo p:Nat} {A:Tr}
theorem Z4t (M:QW W lo p A) (Wd:Wf A) (hs:Sm A):Calls prog 31 #[p] W (ReP A W):=by
 have M':=M;obtain⟨_,_,_,_,_,_,M'⟩:=M';obtain⟨al,cl,rfl⟩:=M'.Ns;have q0:=M'.t.blk.cell 0 rfl;obtain⟨nl,hnl⟩: ∃ nl,nl=A.ls.length:=⟨_,rfl⟩
 rw[<-hnl]at q0;have hn4:nl<=4000:=by rw[hnl];exact hs.1
 obtain⟨i0,hi0,hz0,hz1,hz2⟩:=info_parts Z9k;have HM:=Xp M Wd hs hnl;clear M' M Wd hs hnl;unfold ReP;rw[<-HM.out.2.2.2];go_enter func31,ntmps31;go_wp2_with (at_make;refine wpList_make_full W rfl _ _ 26 rfl W.heap.size 4 i0 (.bool false) 1 underlying26 hi0 hz0 hz1 .i64 .i64 _ _ nl (by rfl) (by rfl) (by simp) (by simp) ?b2 ?b3 (by simp) ?_)
 case b2=>rw[hz2];omega
 case b3=>unfold maxLen;omega
 intro w2 hq2 hg2;obtain⟨hb2,hge⟩:=Z5l hq2;rw[toList_madeCells_one,qG]at hb2;have hB2:Below W.heap.size W w2:=(ZN _ _).grown hg2 (Z7 _) (by simp);have H2:=Zl hb2 hB2;have HC:=Z5 (Z5k (HM.out.1.low hB2) HM.out.2.1 HM.out.2.2.1);have Z4P:=hB2.size;clear hq2 hg2 hb2 hB2 q0;have Z4R:W.heap.size<=W.heap.size:=Z7 _;go_wp2_with fail
 refine HC.out.mono ?_;rintro e w3 ⟨v3,rfl,hv3,hb3⟩;obtain⟨a3,c3,rfl⟩:=ZR hv3;have H3:=X7 ((Qu.BJ hv3).mono Z4P) (U4 H2.out.1 hb3) (H2.out.2.trans (hb3.mono Z4P));clear hv3 hb3;go_wp2_with fail
 go_loopg [5,6] (5000*8003+(qK A).length) (fun k ev tv wr=>Z3R A W W.heap.size k ev tv wr)
 case atStart=>exact⟨[],qK A,false,fun _=>false,by simp,ML0x.start HM.out.2.1 HM.out.2.2.1,rfl,H3.out.1,by rw[<-HM.out.2.2.2];exact H3.out.2.1,H3.out.2.2⟩
 case round=>
  obtain⟨seen,todo,b,f,hk,hms,rfl,htq,hbk,hbw⟩:=hrel;have hsz:=hbw.size;obtain⟨Z4s,Z4Q⟩:=hms.small HM.out.2.2.1;rw[<-HM.out.2.2.2]at hbk;cases todo with
  |nil=>
   obtain⟨ta,tc,rfl⟩:=htq.slice;have HK:=X7 hms hbk hbw;clear hk hms htq hbk hbw;go_wp2_with fail
   go_ret2
   obtain⟨h1,h2⟩:=HK.out.1.done HM.out.2.1;exact⟨W.heap.size,f,b,rfl,HK.out.2.1,h1,h2,HK.out.2.2,Z4R⟩
  |cons x todo=>
   obtain⟨nq,hnq⟩: ∃ nq,nq=todo.length:=⟨_,rfl⟩
   rw[ZJ,<-hnq]at htq Z4Q;have Hnq:=Z5 hnq;obtain⟨gq,off,cq0x,rfl,hcq⟩:=htq.Z9o;have c0:wr.cell? ⟨gq,off,none⟩=some (.int .i64 x):=htq.cells 0 (by omega);have hxr:=hms.ok x (.inr List.mem_cons_self);have H1:=Xp hk hms hbk hbw;have Z3O:=fun(u:Nat) (hu:u < nl)=>And.intro (hbk.cell u (LM hu)) (hbk.free u);obtain⟨wo,hwo⟩: ∃ wo:World,wo=wr:=⟨_,rfl⟩
   subst hwo;have Hc0x:=Z5 Z3O;clear hk hms hbk hbw hnq Z3O;go_upto_region 5 with fail
   go_cut [6]from 20 to 57 (fun tv wx=>wo=wx/\ ∃ off' c',tv=.slice (some ⟨gq,off',none⟩) nq c'/\Qu wo W.heap.size 3 1 tv nq (todo.map (Value.int .i64)))
   case first=>
    by_cases hc1:1 < cq0x
    .have hq':=Z5 (htq.tail hc1);clear htq;go_wp2_with fail
     go_meet;exact⟨rfl,_,_,rfl,hq'.out⟩
    .obtain rfl:cq0x=1:=by omega
     obtain⟨h0,hq'⟩:=htq.last;have hq':=Z5 hq';clear htq;subst h0;go_wp2_with fail
     go_meet;exact⟨rfl,_,_,rfl,hq'.out⟩
   case rest=>
    obtain⟨rfl,off',c',rfl,Z3N⟩:=hcut;have Htq:=Z5 Z3N;clear htq Z3N c0;by_cases hx2:x= -2
    .subst hx2;go_wp2_with fail
     go_roundg ((5000 -(if b then seen.length else seen.length+1))*8003+nq)
     case rel=>
      obtain⟨h1,h2,h3,h4⟩:=H1.out;cases b with
      |true=>exact⟨seen,todo,true,f,by rw[<-Hnq.out];rfl,h2.skip (.inl ⟨rfl,rfl⟩),rfl,by rw[<-Hnq.out];exact Htq.out,by rw[<-HM.out.2.2.2];exact h3,h4⟩
      |false=>exact⟨seen++ [-2],todo,true,f,by simp[Hnq.out],h2.end_ rfl,rfl,by rw[<-Hnq.out];exact Htq.out,by rw[<-HM.out.2.2.2];exact h3,h4⟩
     case measure=>
      have h1:=H1.out.1;have h2:=Hnq.out;simp only[ZJ]at h1;cases b<;>simp<;>omega
    .obtain⟨u,rfl,hu⟩:=(hxr.elim (fun e=>absurd e hx2) id).cast;rw[<-HM.out.2.2.2]at hu;have kx:((u:Int)== -2)=false:=by rw[beq_eq_false_iff_ne];omega
     obtain⟨ci,cf⟩:=Hc0x.out u hu;clear hx2 hxr;cases hfu:f u with
     |true=>
      rw[hfu]at ci;have hfu:=Z5 hfu;go_wp2_with fail
      go_roundg ((5000 -seen.length)*8003+nq)
      case rel=>
       obtain⟨h1,h2,h3,h4⟩:=H1.out;exact⟨seen,todo,b,f,by rw[<-Hnq.out],h2.skip (.inr ⟨u,rfl,hfu.out⟩),rfl,by rw[<-Hnq.out];exact Htq.out,by rw[<-HM.out.2.2.2];exact h3,h4⟩
      case measure=>have h1:=H1.out.1;have h2:=Hnq.out;simp only[ZJ]at h1;omega
     |false=>
      rw[hfu]at ci;have hset:=H1.out.2.2.1.set u (.bool true);rw[fL hu]at hset;have vJ:Fr [4] W.heap.size wo (wo.setCell ⟨W.heap.size,u,none⟩ (.bool true)):=(Fr.refl [4] W.heap.size wo).X9 _ _ H1.out.2.2.1.ty (by simp) Z4R;have hb8:Below (wo.setCell ⟨W.heap.size,u,none⟩ (.bool true)).heap.size (wo.setCell ⟨W.heap.size,u,none⟩ (.bool true)) ((wo.setCell ⟨W.heap.size,u,none⟩ (.bool true)).alloc (.cells [.bool true,.bool false].toArray 4)):=(ZN _ _).alloc (Z7 _) _;have Z4X:=H1.out.2.2.2.trans vJ.below;have Z4Y:=Htq.out.fr vJ (by decide);have Z3K:=H1.out.2.2.1.lt;have hk8:ZD ((wo.setCell ⟨W.heap.size,u,none⟩ (.bool true)).alloc (.cells [.bool true,.bool false].toArray 4)) wo.heap.size [true,false] 4:=ZD.new' (by simp) _ 4;have H4:=Wp hfu (U4 hset hb8) (Z4X.trans (hb8.mono (by simpa using hsz))) (Z4Y.low hb8 (fun g hg=>(Z4Y.lt g hg).2.1)) hk8;clear hfu hset vJ hb8 Z4X Z4Y hk8;go_wp2_with fail
      go_loopw [6,39] (fun tv ix wx=>Z3Q A W W.heap.size wo.heap.size (Bg nl fun i=>f i||i==u) todo u tv ix wx) (fun _ ix _=>2 -(intOf ix).toNat)
      case atStart=>exact⟨0,rfl,by omega,by rw[<-Hnq.out];simpa [Z5r]using H4.out.2.2.2.1,H4.out.2.1,H4.out.2.2.1,H4.out.2.2.2.2⟩
      case round=>
       obtain⟨j,rfl,hj,Z4W,Z44,Z43,Z4A⟩:=hrel;obtain⟨t50x,tc5,rfl⟩:=Z4W.slice;have hsz5:=Z43.size;have H5:=Xp Z4W Z44 Z43 Z4A;by_cases hj2:j < 2
       .have cb:wr.cell? ⟨wo.heap.size,j,none⟩=some (.bool (j==0)):=by
         match j,hj2 with
         |0,_=>exact Z4A.cell 0 rfl
         |1,_=>exact Z4A.cell 1 rfl
        obtain⟨vj,hvj⟩: ∃ vj,Hid (vj=(j==0)):=⟨_,Z5 rfl⟩
        rw[<-hvj.out]at cb;have HCa:=Z5 (Z4M (HM.out.1.low Z43) HM.out.2.1 HM.out.2.2.1 (n:=u) (by rw[<-HM.out.2.2.2];exact hu) vj);clear Z4W Z44 Z43 Z4A;go_wp2_with fail
        refine HCa.out.mono ?_;rintro e w6 ⟨nv,rfl,V9,hb6⟩;obtain⟨nx,hnx⟩: ∃ nx,Hid (nx=xH A u vj):=⟨_,Z5 rfl⟩
        rw[<-hnx.out]at V9;have Z3y:nx.length<=4001:=by rw[hnx.out];exact Z5s HM.out.2.2.1
        have Z4N:=Qu.BJ V9;have Z3M: ∀ g,nv.ownBlock=some g->(Value.slice t50x (todo.length+(Z5r A u j).length) tc5).ownBlock≠some g:=fun g hg e=>by
         have h1:=(Z4N.lt g hg).1;have h2:=(H5.out.1.lt g e).2.1;omega
        have H6:=Wp (H5.out.1.low hb6 (fun g hg=>(H5.out.1.lt g hg).2.1)) (And.intro (Z4N.mono hsz5) Z3M) (U4 H5.out.2.1 hb6) (H5.out.2.2.1.trans (hb6.mono hsz5)) (U4 H5.out.2.2.2 hb6);have HN:=Z5 V9;obtain⟨an,cn,rfl⟩:=ZR V9;clear V9 Z4N Z3M hb6;obtain⟨td0x,htd⟩: ∃ td0x,Hid (td0x=todo++Z5r A u j):=⟨_,Z5 rfl⟩
        obtain⟨nt0x,hnt⟩: ∃ nt0x,Hid (nt0x=todo.length+(Z5r A u j).length):=⟨_,Z5 rfl⟩
        rw[<-htd.out,<-hnt.out]at H6;rw[<-hnt.out];have htl:nt0x<=50000000:=by
         rw[hnt.out];have h1:=Hnq.out;have h2:(Z5r A u j).length<=8002:=by
          have h3:=Z5s HM.out.2.2.1 (i:=(u:Int)) (v:=true)
          match j,hj2 with
          |0,_=>simp[Z5r]
          |1,_=>simp[Z5r];omega
         omega
        go_wp2_with fail
        go_loopw [6,48] (fun tv ix wx=>Z3P W W.heap.size wo.heap.size (Bg nl fun i=>f i||i==u) nt0x td0x nx (.slice an nx.length cn) tv ix wx) (fun _ ix _=>nx.length -(intOf ix).toNat)
        case atStart=>exact⟨0,rfl,by omega,by simpa using H6.out.1,H6.out.2.1,H6.out.2.2.1,H6.out.2.2.2.1,H6.out.2.2.2.2⟩
        case round=>
         obtain⟨k,rfl,YJ,Z5p,Z5c,cm,Z5n,Z4j⟩:=hrel;obtain⟨t70x,tc7,rfl⟩:=Z5p.slice;have HT:=Wp Z5p Z5c cm Z5n Z4j;by_cases hkl:k < nx.length
         .obtain⟨y,hy⟩: ∃ y,nx[k]? =some y:=⟨_,Z9 hkl⟩
          obtain⟨gn,cn',hgn⟩:=XM HN.out (by omega);cases hgn;have y0:wr.cell? ⟨gn,k,none⟩=some (.int .i64 y):=by
           have h1:=Z5c.1.cells k (by omega);rw[YR]at h1;rw[h1,Yt,hy];rfl
          have hy:=Z5 hy;have Z3L:=Z5n.size;have hn7:nt0x+k<=1000000000000:=by omega
          clear Z5p Z5c cm Z5n Z4j;go_wp2_with (at_builtin;refine Ig wr rfl _ _ 31 rfl W.heap.size 3 (.int .i64 0) 1 8 underlying31 Z9j rfl (by decide) (by decide) HT.out.1 (by rfl) [.int .i64 y] rfl ?c1 (by rfl) hn7 Z3L ?_)
          case c1=>simp[Value.oneCell']
          intro a90x c9 w9 h1 h2 h3;obtain⟨i1,⟨i3,i3'⟩,i4,i5,i6⟩:=HT.out;have H9:=Wp h1 (Z5m i3 i3' h2 h3) (i4.grown h2 (Z7N i1 i4.ty (by decide))) (i5.grown h2 Z3L (fun g hg=>(i1.lt g hg).1)) (i6.grown h2 (Z7N i1 i6.ty (by decide)));clear h1 h2 h3 i1 i3 i3' i4 i5 i6;go_wp2_with fail
          refine⟨⟨k+1,by simp,hkl,?_,H9.out.2.1,H9.out.2.2.1,H9.out.2.2.2.1,H9.out.2.2.2.2⟩,by simp[intOf];omega⟩;have e:td0x++nx.take (k+1)=(td0x++nx.take k)++ [y]:=by
           rw[List.take_add_one,hy.out,<-ZI];rfl
          rw[e,List.map_append,List.map_append,List.map_take,ZI];exact H9.out.1
         .have hke:=Z5 (show k=nx.length by omega);clear Z5p Z5c cm Z5n Z4j;go_wp2_with fail
          refine⟨⟨j+1,by simp,hj2,?_,HT.out.2.2.1,HT.out.2.2.2.1,HT.out.2.2.2.2⟩,by simp[intOf];omega⟩;have h1:=HT.out.1;have h2:=hke.out;subst h2;have e:todo.length+(Z5r A u (j+1)).length=nt0x+nx.length:=by rw[hnt.out,Z5e A u hj2,Z4,hnx.out,hvj.out];omega
          have e2:todo++Z5r A u (j+1)=td0x++nx:=by rw[htd.out,Z5e A u hj2,hnx.out,hvj.out,ZI]
          rw[List.take_length]at h1;rw[e,e2];exact h1
       .have hje:=Z5 (show j=2 by omega);clear Z4W Z44 Z43 Z4A;go_wp2_with fail
        have Z48:=Z5 (H1.out.2.1.take HM.out.2.1 HM.out.2.2.1 H4.out.1);have Z4x:=(Z48.out.small HM.out.2.2.1).1;rw[Z4,List.length_singleton]at Z4x;go_roundg ((5000 -(seen.length+1))*8003+(nq+(Z5r A u 2).length))
        case rel=>
         obtain⟨i1,i2,i3,i4⟩:=H5.out;have h1:=hje.out;subst h1;refine⟨seen++ [(u:Int)],todo++Z5r A u 2,b,_,by simp[Hnq.out],by rw[Z41];exact Z48.out,rfl,by rw[Z4];exact i1,by rw[<-HM.out.2.2.2];exact i2,i3⟩
        case measure=>
         have h1:=H1.out.1;have h2:=Hnq.out;have h3:=Z5s HM.out.2.2.1 (i:=(u:Int)) (v:=true);have h4:=Z5s HM.out.2.2.1 (i:=(u:Int)) (v:=false);rw[Z41,Z4];simp only[ZJ]at h1;omega
end
end
end
section
theorem Z3q (i n:Int) (w:World):Calls prog 35 #[.int .i64 i,.int .i64 n] w fun e w'=>e=.returned (.bool (decide (0<=i/\i < n)))/\w=w':=by
 by_cases h1:0<=i
 .by_cases h2:i < n
  .rw[show decide (0<=i/\i < n)=true by simp[h1,h2]];go_enter func35,ntmps35;go_wp2_with fail
   go_ret;exact⟨by simp,rfl⟩
  .rw[show decide (0<=i/\i < n)=false by simp[h2]];go_enter func35,ntmps35;go_wp2_with fail
   go_ret;exact⟨by simp,rfl⟩
 .rw[show decide (0<=i/\i < n)=false by simp[h1]];go_enter func35,ntmps35;go_wp2_with fail
  go_ret;exact⟨by simp,rfl⟩
end
end Go.Proofs.YteedbaejpdjilaaGreat
