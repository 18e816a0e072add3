/- Part of the proof: SemZ. -/
import Derived.Test.YteedbaejpdjilaaGreatYQj
set_option linter.all false
set_option maxRecDepth 100000
set_option maxHeartbeats 40000000
namespace Go.Proofs.YteedbaejpdjilaaGreat
open Go.RowKit Tryz
section
variable {t:T} {A:Tr} {S S3:BS} {c:Nat} {X:Cx}
inductive Rd (A:Tr):Int->Prop
 |first {m:Nat} {x:Int} :Vp A.mv m ⟨1,0,0⟩ x->Rd A x
 |next {y:Nat} {x:Int} {v:Bool} {p:Pl} {m:Nat} :Rd A y->p∈A.Nu y v->Vp A.mv m p x->Rd A x
theorem Sem.Z9q (F:Fin t S S3 c): ∃ k,S.Z6[c]? =some k/\k.succs= []:=(F.rs.w.cur c F.cur).2
theorem Sem.node (h:Sem t A S c X) (F:Fin t S S3 c) {b j:Nat} {x:Vt} (hn:X.G.node b j x):(x=⟨2,true⟩/\b=c/\X.G.ends b (j+1) [])\/(X.ng b j x/\ ∃ k,S.Z6[b]? =some k/\k.nodes[j]? =some x):=by
 obtain⟨B,h1,h2⟩:=hn;rw[h.G]at h1;obtain⟨k,h3,h4⟩:=NZ h1;by_cases e:b=c
 .rw[if_pos e]at h4;subst h4;rcases XX h2 with h5|⟨h5,h6⟩
  .exact .inr ⟨(h.iv.blk b k h3).Ru j x h5,k,h3,h5⟩
  .subst h6;refine .inl ⟨rfl,e,?_⟩;rw[h.G];obtain⟨kc,g1,g2⟩:=Sem.Z9q F;rw[e]at h3;rw[g1]at h3;cases h3;exact⟨_,h1,by simp[h5],g2⟩
 .rw[if_neg e]at h4;subst h4;exact .inr ⟨(h.iv.blk b B h3).Ru j x h2,B,h3,h2⟩
theorem Sem.LO (h:Sem t A S c X) (x:Int):(∃ m,Vp A.mv m ⟨1,0,0⟩ x)↔ ∃ k,Vp (nx X.G.Z6) k (0,0) x:=by
 have:=Ob.same h.closed h.start x;rw[h.A]at this;rw[<-this];simp
theorem Sem.Ii (h:Sem t A S c X) {P:List Pl} {q:Pt} {fs fg:Bool} (ho:X.ob fs fg P q) (x:Int):(∃ p∈P,∃ m,Vp A.mv m p x)↔ ∃ k,Vp (nx X.G.Z6) k q x:=by
 have:=Ob.same h.closed ho x;rw[h.A]at this;exact this
theorem TN {b:Nat} {B:Bk} (h:(S.whole c).Z6[b]? =some B): ∃ k,S.Z6[b]? =some k/\k.succs=B.succs/\k.kind=B.kind/\k.of=B.of/\k.Yz=B.Yz:=by
 obtain⟨k,h1,h2⟩:=NZ h;refine⟨k,h1,?_⟩;split at h2<;>subst h2<;>exact⟨rfl,rfl,rfl,rfl⟩
theorem Reach.succ {b:Nat} (hb:Reach S.Z6 b) {B:Bk} (h:(S.whole c).Z6[b]? =some B) {s:Nat} (hs:s∈B.succs):Reach S.Z6 s:=by
 obtain⟨k,h1,h2,_⟩:=TN h;exact .step hb h1 (by rw[h2];exact hs)
theorem Q0 {G:Gr} (hG:G=S.whole c): ∀ {k:Nat} {q:Pt} {x:Int},Vp (nx G.Z6) k q x->Reach S.Z6 q.1-> ∃ b j y,G.node b j y/\YS y.pos=x/\Reach S.Z6 b:=by
 intro k q x hr
 induction hr with
 | @leaf p x h1=>
  intro hb;unfold nx at h1;cases hB:G.Z6[p.1]? with
  |none=>rw[hB]at h1;cases h1
  |some B=>
   rw[hB]at h1;simp only at h1;cases hx:B.nodes[p.2]? with
   |none=>rw[hx]at h1;cases h1
   |some y=>
    rw[hx]at h1;simp only at h1;split at h1
    .cases h1
    .exact⟨p.1,p.2,y,⟨B,hB,hx⟩,by simpa using h1,hb⟩
 | @step p q x n h1 _ ih=>
  intro hb;apply ih;unfold nx at h1;cases hB:G.Z6[p.1]? with
  |none=>rw[hB]at h1;simp at h1
  |some B=>
   rw[hB]at h1;simp only at h1;cases hx:B.nodes[p.2]? with
   |none=>
    rw[hx]at h1;simp only[Y2]at h1;obtain⟨s,hs,rfl⟩:=h1;rw[hG]at hB;exact hb.succ hB hs
   |some y=>
    rw[hx]at h1;simp only at h1;split at h1
    .simp at h1;rw[h1];exact hb
    .simp at h1
theorem Sem.fwd (h:Sem t A S c X) (F:Fin t S S3 c) {x:Int} (hx:Rd A x): ∃ b j y,X.G.node b j y/\YS y.pos=x/\Reach S.Z6 b:=by
 induction hx with
 |first h1=>
  obtain⟨k,hk⟩:=(h.LO _).1 ⟨_,h1⟩;exact Q0 h.G hk .zero
 | @next y x v p m _ hp hr ih=>
  obtain⟨b,j,z,hn,hz,hb⟩:=ih;rcases h.node F hn with⟨rfl,_,_⟩ |⟨hg,_⟩
  .have hz':(-2:Int)=y:=hz;omega
  .rcases hg with⟨hg,_⟩ |⟨w,hw,_,hL⟩
   .omega
   .rw[hw,TT]at hz;have:w=y:=by omega
    subst this;rw[<-h.A]at hp;by_cases hd:X.A.Tw w=true
    .obtain⟨tt,ff,he,h1,h2,_⟩:=hL.two hd;obtain⟨B,hB,_,hs⟩:=he;rw[h.G]at hB;cases v with
     |true=>
      obtain⟨k,hk⟩:=(h.Ii h1 x).1 ⟨p,hp,m,hr⟩;exact Q0 h.G hk (hb.succ hB (by rw[hs];simp))
     |false=>
      obtain⟨k,hk⟩:=(h.Ii h2 x).1 ⟨p,hp,m,hr⟩;exact Q0 h.G hk (hb.succ hB (by rw[hs];simp))
    .have hd:X.A.Tw w=false:=by simpa using hd
     by_cases hs:X.A.Yh w=2\/X.A.Yh w=9
     ·
      exfalso;unfold Tr.Nu at hp;have hw1:(X.A.lf w).what=1:=by
       by_cases e:(X.A.lf w).what=1
       .exact e
       .rw[WV e]at hs;omega
      have hk:X.A.Yh w=X.A.kd (X.A.lf w).of:=by unfold Tr.Yh;rw[if_pos hw1]
      rw[hk]at hs;rw[if_pos hw1,if_pos hs]at hp;simp at hp
     .obtain⟨k,hk⟩:=(h.Ii (hL.next hd (by omega) (by omega) v) x).1 ⟨p,hp,m,hr⟩;exact Q0 h.G hk hb
def Good (A:Tr) (G:Gr) (q:Pt):Prop:= ∀ x m,Vp (nx G.Z6) m q x->Rd A x
theorem Sem.good (h:Sem t A S c X) (F:Fin t S S3 c) {b:Nat} (hb:Reach S.Z6 b):Good A X.G (b,0)/\ ∀ B,X.G.Z6[b]? =some B-> ∀ j,j<=B.nodes.length->Good A X.G (b,j):=by
 have inner: ∀ b,Good A X.G (b,0)-> ∀ B,X.G.Z6[b]? =some B-> ∀ j,j<=B.nodes.length->Good A X.G (b,j):=by
  intro b h0 B hB j
  induction j with
  |zero=>intro _;exact h0
  |succ j ih=>
   intro hj;have hg:=ih (by omega);have hx:B.nodes[j]? =some B.nodes[j]:=Z9 (by omega);generalize B.nodes[j]=y at hx;have hn:X.G.node b j y:=⟨B,hB,hx⟩
   rcases h.node F hn with⟨rfl,_,he⟩ |⟨vq,_⟩
   .intro x m hr;have:=U0 he;cases hr with
    |leaf h1=>rw[this]at h1;cases h1
    |step h1 _=>rw[this]at h1;simp at h1
   .rcases vq with⟨h1,_⟩ |⟨w,hw,_,hL⟩
    .intro x m hr;exact hg x (m+1) (.step (by rw[J9 hn h1];simp) hr)
    .have hw':Rd A w:=hg w 0 (.leaf (by rw[Gt hn hw]));by_cases hd:X.A.Tw w=true
     .obtain⟨tt,ff,he,h1,h2,_⟩:=hL.two hd;intro x m hr;have:=U0 he;cases hr with
      |leaf h3=>rw[this]at h3;cases h3
      |step h3 h4=>
       rw[this]at h3;simp at h3;rcases h3 with rfl|rfl
       .obtain⟨p,hp,m',hm⟩:=(h.Ii h1 x).2 ⟨_,h4⟩;rw[h.A]at hp;exact .next hw' hp hm
       .obtain⟨p,hp,m',hm⟩:=(h.Ii h2 x).2 ⟨_,h4⟩;rw[h.A]at hp;exact .next hw' hp hm
     .have hd:X.A.Tw w=false:=by simpa using hd
      by_cases hs:X.A.Yh w=2\/X.A.Yh w=9
      .intro x m hr;have:=U0 (hL.stop hs);cases hr with
       |leaf h3=>rw[this]at h3;cases h3
       |step h3 h4=>rw[this]at h3;simp at h3
      .intro x m hr;obtain⟨p,hp,m',hm⟩:=(h.Ii (hL.next hd (by omega) (by omega) true) x).2 ⟨_,hr⟩;rw[h.A]at hp;exact .next hw' hp hm
 have outer:Good A X.G (b,0):=by
  induction hb with
  |zero=>exact fun x m hr=>let⟨m',hm⟩:=(h.LO x).2 ⟨m,hr⟩;.first hm
  | @step i s k hi hk hs ih=>
   intro x m hr;have hB:=Ve (c:=c) hk;rw[<-h.G]at hB;generalize hBB:(if i=c then { k with nodes:=k.nodes++ [⟨2,true⟩] } else k)=B at hB;have hsB:s∈B.succs:=by
    rw[<-hBB];split<;>exact hs
   have hg:=inner i ih B hB B.nodes.length (Z7 _);have he:X.G.ends i B.nodes.length B.succs:=⟨B,hB,rfl,rfl⟩
   refine hg x (m+1) (.step (q:=(s,0)) ?_ hr);rw[U0 he];simp[hsB]
 exact⟨outer,inner b outer⟩
theorem Sem.live (h:Sem t A S c X) (F:Fin t S S3 c) {x:Int} (hx:x≠ -1):Rd A x↔ ∃ b j y,X.G.node b j y/\YS y.pos=x/\Reach S.Z6 b:=by
 refine⟨h.fwd F,?_⟩;rintro⟨b,j,y,hn,hy,hb⟩;obtain⟨B,hB,hj⟩:=hn;have hg:=(h.good F hb).2 B hB j (by have:=ZH hj;omega);refine hg x 0 (.leaf ?_);simp only[nx,hB,hj,hy];rw[if_neg hx]
end
section
variable {t:T} {A:Tr} {S S3:BS} {c:Nat} {X:Cx}
theorem Sem.qM (h:Sem t A S c X) (F:Fin t S S3 c) {i:Nat} {k3:Bk} (hk:S3.Z6[i]? =some k3): ∃ B,X.G.Z6[i]? =some B/\B.kind=k3.kind/\B.of=k3.of/\B.succs=k3.succs/\k3.live=YU S.Z6 i/\
  ((k3.nodes=B.nodes/\(i=c->YU S.Z6 c=true))\/(i=c/\YU S.Z6 c=false/\B.nodes=k3.nodes++ [⟨2,true⟩])):=by
 obtain⟨k,h1,h2,h3,h4,h5,h6⟩:=F.bk hk;have hw:=Ve (c:=c) h1;rw[<-h.G]at hw;refine⟨_,hw,?_⟩;by_cases e:i=c
 .rw[if_pos e];refine⟨h2.symm,h3.symm,h4.symm,h5,?_⟩;have hg:=F.get i k h1;rw[hk]at hg;have hg:=Y0 hg;cases hl:YU S.Z6 c with
  |true=>
   rw[hl,if_pos ⟨e,rfl⟩]at hg;exact .inl ⟨by rw[hg],fun _=>rfl⟩
  |false=>
   rw[hl,if_neg (by simp)]at hg;exact .inr ⟨e,rfl,by rw[hg]⟩
 .rw[if_neg e];refine⟨h2.symm,h3.symm,h4.symm,h5,.inl ⟨?_,fun h=>absurd h e⟩⟩;rcases h6 with⟨h6,_⟩ |⟨h6,_⟩
  .exact h6
  .exact absurd h6 e
theorem Sem.vk (h:Sem t A S c X) (F:Fin t S S3 c) {b j:Nat} {ss:List Nat} (he:X.G.ends b j ss) (hj: ∀ k3,S3.Z6[b]? =some k3->j<=k3.nodes.length): ∃ k3,S3.Z6[b]? =some k3/\k3.nodes.length=j/\k3.succs=ss:=by
 obtain⟨B,h1,h2,h3⟩:=he;have hG:=h1;rw[h.G]at hG;obtain⟨q,g1,_⟩:=TN hG;have hl:b < S3.Z6.length:=by rw[F.len];exact ZH g1
 have hk3:=Z9 hl;generalize S3.Z6[b]=k3 at hk3;obtain⟨B',f1,f2,f3,f4,_,f5⟩:=h.qM F hk3;rw[h1]at f1;cases f1;refine⟨k3,hk3,?_,by rw[<-f4];exact h3⟩;rcases f5 with⟨f5,_⟩ |⟨_,_,f5⟩
 .rw[f5];exact h2
 .have:=hj k3 hk3;rw[f5]at h2;simp at h2;omega
theorem Sem.spot (h:Sem t A S c X) (F:Fin t S S3 c) {i k x:Nat} {k3:Bk} {y:Vt} (hk:S3.Z6[i]? =some k3) (hy:k3.nodes[k]? =some y) (hx:YS y.pos=x):LG X i k x y.ret/\x < X.A.ls.length/\(∀ ss,X.G.ends i (k+1) ss->k3.nodes.length=k+1/\k3.succs=ss):=by
 obtain⟨B,h1,h2,h3,h4,h5,h6⟩:=h.qM F hk;have hn:X.G.node i k y:=⟨B,h1,by
  rcases h6 with⟨h6,_⟩ |⟨_,_,h6⟩
  .rw[<-h6];exact hy
  .rw[h6,ZP (ZH hy)];exact hy⟩
 rcases h.node F hn with⟨rfl,_⟩ |⟨hg,_⟩
 .have:(-2:Int)=x:=hx;omega
 .rcases hg with⟨hg,_⟩ |⟨w,hw,hl,hL⟩
  .omega
  .rw[hw,TT]at hx;have:w=x:=by omega
   subst this;refine⟨hL,hl,fun ss he=>?_⟩;obtain⟨q,g1,g2,g3⟩:=h.vk F he (fun q hq=>by rw[hk]at hq;cases hq;have:=ZH hy;omega);rw[hk]at g1;cases g1;exact⟨g2,g3⟩
theorem Sem.BQ (h:Sem t A S c X) (F:Fin t S S3 c) {i k:Nat} {k3:Bk} {y:Vt} (hk:S3.Z6[i]? =some k3) (hy:k3.nodes[k]? =some y):
  (YS y.pos= -1/\y.ret=false)\/(YS y.pos= -2/\y.ret=true/\k3.nodes.length=k+1/\k3.succs= []/\i=c)\/ ∃ x:Nat,YS y.pos=x/\x < X.A.ls.length:=by
 obtain⟨B,h1,h2,h3,h4,h5,h6⟩:=h.qM F hk;have hn:X.G.node i k y:=⟨B,h1,by
  rcases h6 with⟨h6,_⟩ |⟨_,_,h6⟩
  .rw[<-h6];exact hy
  .rw[h6,ZP (ZH hy)];exact hy⟩
 rcases h.node F hn with⟨rfl,e,he⟩ |⟨hg,_⟩
 .obtain⟨q,g1,g2,g3⟩:=h.vk F he (fun q hq=>by rw[hk]at hq;cases hq;have:=ZH hy;omega);rw[hk]at g1;cases g1;exact .inr (.inl ⟨rfl,rfl,g2,g3,e⟩)
 .rcases hg with⟨hg,hr⟩ |⟨w,hw,hl,_⟩
  .exact .inl ⟨hg,hr⟩
  .exact .inr (.inr ⟨w,by rw[hw,TT],hl⟩)
theorem Sem.asked (h:Sem t A S c X) (F:Fin t S S3 c):(∀ y∈S3.asked,∃ x:Nat,y=x/\x < X.A.ls.length/\(X.A.Yh x=1\/X.A.Yh x=2))/\ ∀ x:Nat,x < t.lv false->(X.A.Yh x=1\/X.A.Yh x=2)->(x:Int)∈S3.asked:=by
 rw[F.asked];refine⟨fun y hy=>h.iv.ask y hy,fun x hx hk=>?_⟩;have:=(h.Vc x (by omega) hx).2 hk;rw[h.G]at this;exact this
theorem Sem.Yz (h:Sem t A S c X) (F:Fin t S S3 c) (hd: ∀ x:Nat,x < X.A.ls.length->X.A.Yh x≠7) {i:Nat} {k3:Bk} (hk:S3.Z6[i]? =some k3):k3.Yz=true↔k3.ends=true:=by
 obtain⟨k,g1,g2,g3,g4,g5,g6⟩:=F.bk hk;rcases g6 with⟨g6,g7⟩ |⟨e,g6,g7,g8⟩
 .have hb:=h.iv.blk i k g1;have he:k3.ends=k.ends:=by unfold Bk.ends;rw[g6]
  rw[g7,he];refine⟨fun hr=>?_,fun he=>?_⟩
  .rcases hb.ret hr with⟨y,h1,x,h2,h3⟩ |⟨h1,_⟩
   .exfalso;obtain⟨j,hj⟩:=List.getElem?_of_mem h1;rcases hb.Ru j y hj with⟨h6,_⟩ |⟨w,h6,h7,_⟩
    .rw[h2,TT]at h6;omega
    .rw[h2]at h6;have:x=w:=by unfold lp at h6;omega
     subst this;exact hd x h7 h3
   .exact h1
  .refine hb.rt ?_;unfold Bk.ends at he;cases hl:k.nodes.getLast? with
   |none=>rw[hl]at he;simp at he
   |some y=>rw[hl]at he;exact⟨y,List.mem_of_getLast? hl,by simpa using he⟩
 .rw[g8];have:k3.ends=true:=by unfold Bk.ends;rw[g7];simp
  rw[this]
end
section
variable {t:T} {A:Tr} {S S3:BS} {c:Nat} {X:Cx}
theorem Ge (h:Sem t A S c X) (F:Fin t S S3 c) {q:Pt} (hb:Reach S.Z6 q.1):nx S3.Z6 q=nx X.G.Z6 q:=by
 have hl:q.1 < S3.Z6.length\/S3.Z6.length<=q.1:=by omega
 rcases hl with hl|hl
 .have hk:=Z9 hl;generalize S3.Z6[q.1]=k3 at hk;obtain⟨B,h1,h2,h3,h4,h5,h6⟩:=h.qM F hk;have hn:k3.nodes=B.nodes:=by
   rcases h6 with⟨h6,_⟩ |⟨e,h6,_⟩
   .exact h6
   .exfalso;rw[<-e]at h6;have:YU S.Z6 q.1=true:=by unfold YU;simp[hb]
    rw[h6]at this;cases this
  simp only[nx,hk,h1,hn,h4]
 .have h1:S3.Z6[q.1]? =none:=Y6 hl;have h2:X.G.Z6[q.1]? =none:=by
   rw[h.G];apply Y6;show(S.Z6.modify c _).length<=q.1;rw[List.length_modify,<-F.len];exact hl
  simp only[nx,h1,h2]
theorem JV (h:Sem t A S c X) {q q':Pt} (hb:Reach S.Z6 q.1) (hq:q'∈(nx X.G.Z6 q).1):Reach S.Z6 q'.1:=by
 unfold nx at hq;cases hB:X.G.Z6[q.1]? with
 |none=>rw[hB]at hq;simp at hq
 |some B=>
  rw[hB]at hq;simp only at hq;cases hx:B.nodes[q.2]? with
  |none=>
   rw[hx]at hq;simp only[Y2]at hq;obtain⟨s,hs,rfl⟩:=hq;rw[h.G]at hB;exact hb.succ hB hs
  |some y=>
   rw[hx]at hq;simp only at hq;split at hq
   .simp at hq;rw[hq];exact hb
   .simp at hq
theorem QZ (h:Sem t A S c X) (F:Fin t S S3 c): ∀ {k:Nat} {q:Pt} {x:Int},Reach S.Z6 q.1->(Vp (nx S3.Z6) k q x↔Vp (nx X.G.Z6) k q x):=by
 intro k
 induction k with
 |zero=>
  intro q x hb;have e:=Ge h F hb;constructor
  .intro hr;cases hr with
   |leaf h1=>exact .leaf (by rw[<-e];exact h1)
  .intro hr;cases hr with
   |leaf h1=>exact .leaf (by rw[e];exact h1)
 |succ k ih=>
  intro q x hb;have e:=Ge h F hb;constructor
  .intro hr;cases hr with
   |step h1 h2=>
    rw[e]at h1;exact .step h1 ((ih (JV h hb h1)).1 h2)
  .intro hr;cases hr with
   |step h1 h2=>exact .step (by rw[e];exact h1) ((ih (JV h hb h1)).2 h2)
theorem Sem.first (h:Sem t A S c X) (F:Fin t S S3 c) (x:Int):(∃ k,Vp (nx S3.Z6) k (0,0) x)↔ ∃ m,Vp A.mv m ⟨1,0,0⟩ x:=by
 rw[h.LO x];exact⟨fun⟨k,hk⟩=>⟨k,(QZ h F .zero).1 hk⟩,fun⟨k,hk⟩=>⟨k,(QZ h F .zero).2 hk⟩⟩
theorem Sem.sequence (h:Sem t A S c X) (F:Fin t S S3 c) {i j k x:Nat} {z:Int} {k3:Bk} {y y':Vt} (hk:S3.Z6[i]? =some k3) (hlv:k3.live=true) (hy:k3.nodes[j]? =some y) (hx:YS y.pos=x) (hjk:j < k) (hy':k3.nodes[k]? =some y') (hz:YS y'.pos=z) (hz1:z≠ -1)
  (hmid: ∀ r w,j < r->r < k->k3.nodes[r]? =some w->YS w.pos= -1):A.Tw x=false/\ ∀ u,(∃ p∈A.Nu x true,∃ m,Vp A.mv m p u)↔u=z:=by
 obtain⟨hL,_,he⟩:=h.spot F hk hy hx;have hlen:=ZH hy';have hd:X.A.Tw x=false:=by
  cases hd:X.A.Tw x with
  |false=>rfl
  |true=>
   obtain⟨t,f,h1,_⟩:=hL.two hd;have:=(he _ h1).1;omega
 have hs: ¬ (X.A.Yh x=2\/X.A.Yh x=9):=fun hs=>by
  have:=(he _ (hL.stop hs)).1;omega
 have ho:=hL.next hd (by omega) (by omega) true;have hob:=h.Ii ho;rw[h.A]at hd hob;refine⟨hd,fun u=>?_⟩;rw[hob u];have hb:Reach S.Z6 i:=by
  obtain⟨B,h1,h2,h3,h4,h5,h6⟩:=h.qM F hk;rw[h5]at hlv;unfold YU at hlv;simpa using hlv
 have key: ∀ d r,r+d=k->j < r->((∃ m,Vp (nx S3.Z6) m (i,r) u)↔u=z):=by
  intro d
  induction d with
  |zero=>
   intro r hr _;have:r=k:=by omega
   subst this;have e:nx S3.Z6 (i,r)=([],some z):=by
    simp only[nx,hk,hy',hz];rw[if_neg hz1]
   constructor
   .rintro⟨m,hm⟩;cases hm with
    |leaf h1=>rw[e]at h1;cases h1;rfl
    |step h1 _=>rw[e]at h1;simp at h1
   .rintro rfl;exact⟨0,.leaf (by rw[e])⟩
  |succ d ih=>
   intro r hr hjr;have hrl:r < k3.nodes.length:=by omega
   have hw:=Z9 hrl;have hm1:=hmid r _ hjr (by omega) hw;generalize k3.nodes[r]=w at hw hm1;have e:nx S3.Z6 (i,r)=([(i,r+1)],none):=by
    simp only[nx,hk,hw,hm1];rfl
   rw[<-ih (r+1) (by omega) (by omega)];constructor
   .rintro⟨m,hm⟩;cases hm with
    |leaf h1=>rw[e]at h1;cases h1
    |step h1 h2=>
     rw[e]at h1;simp at h1;subst h1;exact⟨_,h2⟩
   .rintro⟨m,hm⟩;exact⟨m+1,.step (by rw[e];simp) hm⟩
 rw[<-key (k -(j+1)) (j+1) (by omega) (by omega)];exact⟨fun⟨m,hm⟩=>⟨m,(QZ h F (q:=(i,j+1)) hb).2 hm⟩,fun⟨m,hm⟩=>⟨m,(QZ h F (q:=(i,j+1)) hb).1 hm⟩⟩
end
end Go.Proofs.YteedbaejpdjilaaGreat
