/- Part of the proof: SemZ. -/
import Derived.Test.YteedbaejpdjilaaGreatXQj
set_option linter.all false
set_option maxRecDepth 100000
set_option maxHeartbeats 40000000
namespace Go.Proofs.YteedbaejpdjilaaGreat
open Go.RowKit
section
variable {t:T} {A:Tr} {S S3:BS} {c:Nat} {X:Cx}
inductive Rd (A:Tr):Int->Prop
 |first {m:Nat} {x:Int} :Wx A.mv m ⟨1,0,0⟩ x->Rd A x
 |next {y:Nat} {x:Int} {v:Bool} {p:Pl} {m:Nat} :Rd A y->p∈A.PG y v->Wx A.mv m p x->Rd A x
theorem Sem.mW (F:Fin t S S3 c): ∃ k,S.bks[c]? =some k∧k.succs= []:=(F.rs.w.cur c F.cur).2
theorem Sem.node (h:Sem t A S c X) (F:Fin t S S3 c) {b j:Nat} {x:WW} (hn:X.G.node b j x):(x=⟨2,true⟩∧b=c∧X.G.ends b (j+1) [])∨(X.ng b j x∧ ∃ k,S.bks[b]? =some k∧k.nodes[j]? =some x):=by
 obtain⟨B,h1,h2⟩:=hn;rw[h.G]at h1;obtain⟨k,h3,h4⟩:=QX h1;by_cases e:b=c
 ·rw[if_pos e]at h4;subst h4;rcases YP h2 with h5|⟨h5,h6⟩
  ·exact .inr ⟨(h.iv.blk b k h3).nod j x h5,k,h3,h5⟩
  ·subst h6;refine .inl ⟨rfl,e,?_⟩;rw[h.G];obtain⟨kc,g1,g2⟩:=Sem.mW F;rw[e]at h3;rw[g1]at h3;cases h3;exact⟨_,h1,by simp[h5],g2⟩
 ·rw[if_neg e]at h4;subst h4;exact .inr ⟨(h.iv.blk b B h3).nod j x h2,B,h3,h2⟩
theorem Sem.Oq (h:Sem t A S c X) (x:Int):(∃ m,Wx A.mv m ⟨1,0,0⟩ x)↔ ∃ k,Wx (nx X.G.bks) k (0,0) x:=by
 have:=Ob.same h.closed h.start x;rw[h.A]at this;rw[<-this];simp
theorem Sem.KT (h:Sem t A S c X) {P:List Pl} {q:Pt} {fs fg:Bool} (ho:X.ob fs fg P q) (x:Int):(∃ p∈P,∃ m,Wx A.mv m p x)↔ ∃ k,Wx (nx X.G.bks) k q x:=by
 have:=Ob.same h.closed ho x;rw[h.A]at this;exact this
theorem WO {b:Nat} {B:Bk} (h:(S.whole c).bks[b]? =some B): ∃ k,S.bks[b]? =some k∧k.succs=B.succs∧k.kind=B.kind∧k.of=B.of∧k.Zn=B.Zn:=by
 obtain⟨k,h1,h2⟩:=QX h;refine⟨k,h1,?_⟩;split at h2<;>subst h2<;>exact⟨rfl,rfl,rfl,rfl⟩
theorem Reach.succ {b:Nat} (hb:Reach S.bks b) {B:Bk} (h:(S.whole c).bks[b]? =some B) {s:Nat} (hs:s∈B.succs):Reach S.bks s:=by
 obtain⟨k,h1,h2,_⟩:=WO h;exact .step hb h1 (by rw[h2];exact hs)
theorem TK {G:Gr} (hG:G=S.whole c): ∀ {k:Nat} {q:Pt} {x:Int},Wx (nx G.bks) k q x->Reach S.bks q.1-> ∃ b j y,G.node b j y∧Zy y.pos=x∧Reach S.bks b:=by
 intro k q x hr
 induction hr with
 | @leaf p x h1=>
  intro hb;unfold nx at h1;cases hB:G.bks[p.1]? with
  |none=>rw[hB]at h1;cases h1
  |some B=>
   rw[hB]at h1;simp only at h1;cases hx:B.nodes[p.2]? with
   |none=>rw[hx]at h1;cases h1
   |some y=>
    rw[hx]at h1;simp only at h1;split at h1
    ·cases h1
    ·exact⟨p.1,p.2,y,⟨B,hB,hx⟩,by simpa using h1,hb⟩
 | @step p q x n h1 _ ih=>
  intro hb;apply ih;unfold nx at h1;cases hB:G.bks[p.1]? with
  |none=>rw[hB]at h1;simp at h1
  |some B=>
   rw[hB]at h1;simp only at h1;cases hx:B.nodes[p.2]? with
   |none=>
    rw[hx]at h1;simp only[List.mem_map]at h1;obtain⟨s,hs,rfl⟩:=h1;rw[hG]at hB;exact hb.succ hB hs
   |some y=>
    rw[hx]at h1;simp only at h1;split at h1
    ·simp at h1;rw[h1];exact hb
    ·simp at h1
theorem Sem.fwd (h:Sem t A S c X) (F:Fin t S S3 c) {x:Int} (hx:Rd A x): ∃ b j y,X.G.node b j y∧Zy y.pos=x∧Reach S.bks b:=by
 induction hx with
 |first h1=>
  obtain⟨k,hk⟩:=(h.Oq _).1 ⟨_,h1⟩;exact TK h.G hk .zero
 | @next y x v p m _ hp hr ih=>
  obtain⟨b,j,z,hn,hz,hb⟩:=ih;rcases h.node F hn with⟨rfl,_,_⟩ |⟨hg,_⟩
  ·have hz':(-2:Int)=y:=hz;omega
  ·rcases hg with⟨hg,_⟩ |⟨w,hw,_,hL⟩
   ·omega
   ·rw[hw,Xx]at hz;have:w=y:=by omega
    subst this;rw[<-h.A]at hp;by_cases hd:X.A.Ws w=true
    ·obtain⟨tt,ff,he,h1,h2,_⟩:=hL.two hd;obtain⟨B,hB,_,hs⟩:=he;rw[h.G]at hB;cases v with
     |true=>
      obtain⟨k,hk⟩:=(h.KT h1 x).1 ⟨p,hp,m,hr⟩;exact TK h.G hk (hb.succ hB (by rw[hs];simp))
     |false=>
      obtain⟨k,hk⟩:=(h.KT h2 x).1 ⟨p,hp,m,hr⟩;exact TK h.G hk (hb.succ hB (by rw[hs];simp))
    ·have hd:X.A.Ws w=false:=by simpa using hd
     by_cases hs:X.A.Y0 w=2∨X.A.Y0 w=9
     ·
      exfalso;unfold Tr.PG at hp;have hw1:(X.A.lf w).what=1:=by
       by_cases e:(X.A.lf w).what=1
       ·exact e
       ·rw[X3 e]at hs;omega
      have hk:X.A.Y0 w=X.A.kd (X.A.lf w).of:=by unfold Tr.Y0;rw[if_pos hw1]
      rw[hk]at hs;rw[if_pos hw1,if_pos hs]at hp;simp at hp
     ·obtain⟨k,hk⟩:=(h.KT (hL.next hd (by omega) (by omega) v) x).1 ⟨p,hp,m,hr⟩;exact TK h.G hk hb
def Good (A:Tr) (G:Gr) (q:Pt):Prop:= ∀ x m,Wx (nx G.bks) m q x->Rd A x
theorem Sem.good (h:Sem t A S c X) (F:Fin t S S3 c) {b:Nat} (hb:Reach S.bks b):Good A X.G (b,0)∧ ∀ B,X.G.bks[b]? =some B-> ∀ j,j<=B.nodes.length->Good A X.G (b,j):=by
 have inner: ∀ b,Good A X.G (b,0)-> ∀ B,X.G.bks[b]? =some B-> ∀ j,j<=B.nodes.length->Good A X.G (b,j):=by
  intro b h0 B hB j
  induction j with
  |zero=>intro _;exact h0
  |succ j ih=>
   intro hj;have hg:=ih (by omega);have hx:B.nodes[j]? =some B.nodes[j]:=List.getElem?_eq_getElem (by omega);generalize B.nodes[j]=y at hx;have hn:X.G.node b j y:=⟨B,hB,hx⟩
   rcases h.node F hn with⟨rfl,_,he⟩ |⟨hng,_⟩
   ·intro x m hr;have:=VO he;cases hr with
    |leaf h1=>rw[this]at h1;cases h1
    |step h1 _=>rw[this]at h1;simp at h1
   ·rcases hng with⟨h1,_⟩ |⟨w,hw,_,hL⟩
    ·intro x m hr;exact hg x (m+1) (.step (by rw[KY hn h1];simp) hr)
    ·have hw':Rd A w:=hg w 0 (.leaf (by rw[I8 hn hw]));by_cases hd:X.A.Ws w=true
     ·obtain⟨tt,ff,he,h1,h2,_⟩:=hL.two hd;intro x m hr;have:=VO he;cases hr with
      |leaf h3=>rw[this]at h3;cases h3
      |step h3 h4=>
       rw[this]at h3;simp at h3;rcases h3 with rfl|rfl
       ·obtain⟨p,hp,m',hm⟩:=(h.KT h1 x).2 ⟨_,h4⟩;rw[h.A]at hp;exact .next hw' hp hm
       ·obtain⟨p,hp,m',hm⟩:=(h.KT h2 x).2 ⟨_,h4⟩;rw[h.A]at hp;exact .next hw' hp hm
     ·have hd:X.A.Ws w=false:=by simpa using hd
      by_cases hs:X.A.Y0 w=2∨X.A.Y0 w=9
      ·intro x m hr;have:=VO (hL.stop hs);cases hr with
       |leaf h3=>rw[this]at h3;cases h3
       |step h3 h4=>rw[this]at h3;simp at h3
      ·intro x m hr;obtain⟨p,hp,m',hm⟩:=(h.KT (hL.next hd (by omega) (by omega) true) x).2 ⟨_,hr⟩;rw[h.A]at hp;exact .next hw' hp hm
 have outer:Good A X.G (b,0):=by
  induction hb with
  |zero=>exact fun x m hr=>let⟨m',hm⟩:=(h.Oq x).2 ⟨m,hr⟩;.first hm
  | @step i s k hi hk hs ih=>
   intro x m hr;have hB:=Wh (c:=c) hk;rw[<-h.G]at hB;generalize hBB:(if i=c then { k with nodes:=k.nodes++ [⟨2,true⟩] } else k)=B at hB;have hsB:s∈B.succs:=by
    rw[<-hBB];split<;>exact hs
   have hg:=inner i ih B hB B.nodes.length (Nat.le_refl _);have he:X.G.ends i B.nodes.length B.succs:=⟨B,hB,rfl,rfl⟩
   refine hg x (m+1) (.step (q:=(s,0)) ?_ hr);rw[VO he];simp[hsB]
 exact⟨outer,inner b outer⟩
theorem Sem.live (h:Sem t A S c X) (F:Fin t S S3 c) {x:Int} (hx:x≠ -1):Rd A x↔ ∃ b j y,X.G.node b j y∧Zy y.pos=x∧Reach S.bks b:=by
 refine⟨h.fwd F,?_⟩;rintro⟨b,j,y,hn,hy,hb⟩;obtain⟨B,hB,hj⟩:=hn;have hg:=(h.good F hb).2 B hB j (by have:=ZW hj;omega);refine hg x 0 (.leaf ?_);simp only[nx,hB,hj,hy];rw[if_neg hx]
end
section
variable {t:T} {A:Tr} {S S3:BS} {c:Nat} {X:Cx}
theorem Sem.uV (h:Sem t A S c X) (F:Fin t S S3 c) {i:Nat} {k3:Bk} (hk:S3.bks[i]? =some k3): ∃ B,X.G.bks[i]? =some B∧B.kind=k3.kind∧B.of=k3.of∧B.succs=k3.succs∧k3.live=ZB S.bks i∧
  ((k3.nodes=B.nodes∧(i=c->ZB S.bks c=true))∨(i=c∧ZB S.bks c=false∧B.nodes=k3.nodes++ [⟨2,true⟩])):=by
 obtain⟨k,h1,h2,h3,h4,h5,h6⟩:=F.bk hk;have hw:=Wh (c:=c) h1;rw[<-h.G]at hw;refine⟨_,hw,?_⟩;by_cases e:i=c
 ·rw[if_pos e];refine⟨h2.symm,h3.symm,h4.symm,h5,?_⟩;have hg:=F.get i k h1;rw[hk]at hg;have hg:=Option.some.inj hg;cases hl:ZB S.bks c with
  |true=>
   rw[hl,if_pos ⟨e,rfl⟩]at hg;exact .inl ⟨by rw[hg],fun _=>rfl⟩
  |false=>
   rw[hl,if_neg (by simp)]at hg;exact .inr ⟨e,rfl,by rw[hg]⟩
 ·rw[if_neg e];refine⟨h2.symm,h3.symm,h4.symm,h5,.inl ⟨?_,fun h=>absurd h e⟩⟩;rcases h6 with⟨h6,_⟩ |⟨h6,_⟩
  ·exact h6
  ·exact absurd h6 e
theorem Sem.vY (h:Sem t A S c X) (F:Fin t S S3 c) {b:Nat} {k:Int} {o:Option Int} (hk:X.G.kind b k o): ∃ k3,S3.bks[b]? =some k3∧k3.kind=k∧k3.of=o:=by
 obtain⟨B,h1,h2,h3⟩:=hk;rw[h.G]at h1;obtain⟨q,g1,_,g2,g3,_⟩:=WO h1;have hl:b < S3.bks.length:=by rw[F.len];exact ZW g1
 obtain⟨q',f1,f2,f3,_⟩:=F.bk (List.getElem?_eq_getElem hl);rw[g1]at f1;cases f1;exact⟨_,List.getElem?_eq_getElem hl,by rw[f2,g2,h2],by rw[f3,g3,h3]⟩
theorem DL (i:Nat):X9 (some (ip i))=i:=by
 unfold X9 ip;simp only[];rw[if_neg (by omega),if_pos (by omega)];omega
theorem Sem.kG (h:Sem t A S c X) (F:Fin t S S3 c) {b:Nat} {k n:Int} (hk:X.G.VI b k n): ∃ k3,S3.bks[b]? =some k3∧k3.kind=k∧X9 k3.of=n:=by
 obtain⟨i,hi,hk⟩:=hk;obtain⟨k3,h1,h2,h3⟩:=h.vY F hk;exact⟨k3,h1,h2,by rw[h3,DL,hi]⟩
theorem Sem.vW (h:Sem t A S c X) (F:Fin t S S3 c) {b j:Nat} {ss:List Nat} (he:X.G.ends b j ss) (hj: ∀ k3,S3.bks[b]? =some k3->j<=k3.nodes.length): ∃ k3,S3.bks[b]? =some k3∧k3.nodes.length=j∧k3.succs=ss:=by
 obtain⟨B,h1,h2,h3⟩:=he;have hG:=h1;rw[h.G]at hG;obtain⟨q,g1,_⟩:=WO hG;have hl:b < S3.bks.length:=by rw[F.len];exact ZW g1
 have hk3:=List.getElem?_eq_getElem hl;generalize S3.bks[b]=k3 at hk3;obtain⟨B',f1,f2,f3,f4,_,f5⟩:=h.uV F hk3;rw[h1]at f1;cases f1;refine⟨k3,hk3,?_,by rw[<-f4];exact h3⟩;rcases f5 with⟨f5,_⟩ |⟨_,_,f5⟩
 ·rw[f5];exact h2
 ·have:=hj k3 hk3;rw[f5]at h2;simp at h2;omega
theorem Sem.spot (h:Sem t A S c X) (F:Fin t S S3 c) {i k x:Nat} {k3:Bk} {y:WW} (hk:S3.bks[i]? =some k3) (hy:k3.nodes[k]? =some y) (hx:Zy y.pos=x):LG X i k x y.ret∧x < X.A.ls.length∧(∀ ss,X.G.ends i (k+1) ss->k3.nodes.length=k+1∧k3.succs=ss):=by
 obtain⟨B,h1,h2,h3,h4,h5,h6⟩:=h.uV F hk;have hn:X.G.node i k y:=⟨B,h1,by
  rcases h6 with⟨h6,_⟩ |⟨_,_,h6⟩
  ·rw[<-h6];exact hy
  ·rw[h6,List.getElem?_append_left (ZW hy)];exact hy⟩
 rcases h.node F hn with⟨rfl,_⟩ |⟨hg,_⟩
 ·have:(-2:Int)=x:=hx;omega
 ·rcases hg with⟨hg,_⟩ |⟨w,hw,hl,hL⟩
  ·omega
  ·rw[hw,Xx]at hx;have:w=x:=by omega
   subst this;refine⟨hL,hl,fun ss he=>?_⟩;obtain⟨q,g1,g2,g3⟩:=h.vW F he (fun q hq=>by rw[hk]at hq;cases hq;have:=ZW hy;omega);rw[hk]at g1;cases g1;exact⟨g2,g3⟩
theorem Sem.EG (h:Sem t A S c X) (F:Fin t S S3 c) {i k:Nat} {k3:Bk} {y:WW} (hk:S3.bks[i]? =some k3) (hy:k3.nodes[k]? =some y):
  (Zy y.pos= -1∧y.ret=false)∨(Zy y.pos= -2∧y.ret=true∧k3.nodes.length=k+1∧k3.succs= []∧i=c)∨ ∃ x:Nat,Zy y.pos=x∧x < X.A.ls.length:=by
 obtain⟨B,h1,h2,h3,h4,h5,h6⟩:=h.uV F hk;have hn:X.G.node i k y:=⟨B,h1,by
  rcases h6 with⟨h6,_⟩ |⟨_,_,h6⟩
  ·rw[<-h6];exact hy
  ·rw[h6,List.getElem?_append_left (ZW hy)];exact hy⟩
 rcases h.node F hn with⟨rfl,e,he⟩ |⟨hg,_⟩
 ·obtain⟨q,g1,g2,g3⟩:=h.vW F he (fun q hq=>by rw[hk]at hq;cases hq;have:=ZW hy;omega);rw[hk]at g1;cases g1;exact .inr (.inl ⟨rfl,rfl,g2,g3,e⟩)
 ·rcases hg with⟨hg,hr⟩ |⟨w,hw,hl,_⟩
  ·exact .inl ⟨hg,hr⟩
  ·exact .inr (.inr ⟨w,by rw[hw,Xx],hl⟩)
theorem Sem.stands (h:Sem t A S c X) (F:Fin t S S3 c) {x:Nat} (hx:x < t.lv false): ∃ (i k:Nat) (k3:Bk) (y:WW),S3.bks[i]? =some k3∧k3.nodes[k]? =some y∧Zy y.pos=x:=by
 obtain⟨⟨b,k,y,hn,hp⟩,_⟩:=h.V8 x (by omega) hx;rcases h.node F hn with⟨rfl,_⟩ |⟨_,q,hq,hy⟩
 ·have:(2:Int)=lp x:=hp;unfold lp at this;omega
 ·have hg:=F.get b q hq;refine⟨b,k,_,y,hg,?_,by rw[hp,Xx]⟩;split
  ·show(q.nodes++ [_])[k]? =_;rw[List.getElem?_append_left (ZW hy)];exact hy
  ·exact hy
theorem Sem.asked (h:Sem t A S c X) (F:Fin t S S3 c):(∀ y∈S3.asked,∃ x:Nat,y=x∧x < X.A.ls.length∧(X.A.Y0 x=1∨X.A.Y0 x=2))∧ ∀ x:Nat,x < t.lv false->(X.A.Y0 x=1∨X.A.Y0 x=2)->(x:Int)∈S3.asked:=by
 rw[F.asked];refine⟨fun y hy=>h.iv.ask y hy,fun x hx hk=>?_⟩;have:=(h.V8 x (by omega) hx).2 hk;rw[h.G]at this;exact this
theorem Sem.kK (h:Sem t A S c X) (F:Fin t S S3 c) (ho: ¬ t.opn) {i:Nat} {k3:Bk} (hk:S3.bks[i]? =some k3) (h2:k3.succs.length=2): ∃ (y:WW) (x:Nat),k3.nodes.getLast? =some y∧Zy y.pos=x∧x < X.A.ls.length∧X.A.Ws x=true:=by
 obtain⟨k,g1,g2,g3,g4,g5,g6⟩:=F.bk hk;have hic:i≠c:=by
  intro e;obtain⟨kc,f1,f2⟩:=Sem.mW F;rw[e,f1]at g1;cases g1;rw[g4,f2]at h2;simp at h2
 have hn:k3.nodes=k.nodes:=by
  rcases g6 with⟨g6,_⟩ |⟨g6,_⟩
  ·exact g6
  ·exact absurd g6 hic
 rcases(h.iv.blk i k g1).two (by rw[<-g4];exact h2)with h3|⟨y,h3,x,h4,h5⟩
 ·exact absurd h3 ho
 ·refine⟨y,x,by rw[hn];exact h3,by rw[h4,Xx],?_,h5⟩;have hl: ∃ j,k.nodes[j]? =some y:=List.getElem?_of_mem (List.mem_of_getLast? h3);obtain⟨j,hj⟩:=hl;rcases(h.iv.blk i k g1).nod j y hj with⟨h6,_⟩ |⟨w,h6,h7,_⟩
  ·rw[h4,Xx]at h6;omega
  ·rw[h4]at h6;have:x=w:=by unfold lp at h6;omega
   rw[this];exact h7
theorem Sem.Zn (h:Sem t A S c X) (F:Fin t S S3 c) (hd: ∀ x:Nat,x < X.A.ls.length->X.A.Y0 x≠7) {i:Nat} {k3:Bk} (hk:S3.bks[i]? =some k3):k3.Zn=true↔k3.ends=true:=by
 obtain⟨k,g1,g2,g3,g4,g5,g6⟩:=F.bk hk;rcases g6 with⟨g6,g7⟩ |⟨e,g6,g7,g8⟩
 ·have hb:=h.iv.blk i k g1;have he:k3.ends=k.ends:=by unfold Bk.ends;rw[g6]
  rw[g7,he];refine⟨fun hr=>?_,fun he=>?_⟩
  ·rcases hb.ret hr with⟨y,h1,x,h2,h3⟩ |⟨h1,_⟩
   ·exfalso;obtain⟨j,hj⟩:=List.getElem?_of_mem h1;rcases hb.nod j y hj with⟨h6,_⟩ |⟨w,h6,h7,_⟩
    ·rw[h2,Xx]at h6;omega
    ·rw[h2]at h6;have:x=w:=by unfold lp at h6;omega
     subst this;exact hd x h7 h3
   ·exact h1
  ·refine hb.rt ?_;unfold Bk.ends at he;cases hl:k.nodes.getLast? with
   |none=>rw[hl]at he;simp at he
   |some y=>rw[hl]at he;exact⟨y,List.mem_of_getLast? hl,by simpa using he⟩
 ·rw[g8];have:k3.ends=true:=by unfold Bk.ends;rw[g7];simp
  rw[this]
end
section
variable {t:T} {A:Tr} {S S3:BS} {c:Nat} {X:Cx}
theorem Jh (h:Sem t A S c X) (F:Fin t S S3 c) {q:Pt} (hb:Reach S.bks q.1):nx S3.bks q=nx X.G.bks q:=by
 have hl:q.1 < S3.bks.length∨S3.bks.length<=q.1:=by omega
 rcases hl with hl|hl
 ·have hk:=List.getElem?_eq_getElem hl;generalize S3.bks[q.1]=k3 at hk;obtain⟨B,h1,h2,h3,h4,h5,h6⟩:=h.uV F hk;have hn:k3.nodes=B.nodes:=by
   rcases h6 with⟨h6,_⟩ |⟨e,h6,_⟩
   ·exact h6
   ·exfalso;rw[<-e]at h6;have:ZB S.bks q.1=true:=by unfold ZB;simp[hb]
    rw[h6]at this;cases this
  simp only[nx,hk,h1,hn,h4]
 ·have h1:S3.bks[q.1]? =none:=List.getElem?_eq_none hl;have h2:X.G.bks[q.1]? =none:=by
   rw[h.G];apply List.getElem?_eq_none;show(S.bks.modify c _).length<=q.1;rw[List.length_modify,<-F.len];exact hl
  simp only[nx,h1,h2]
theorem Ld (h:Sem t A S c X) {q q':Pt} (hb:Reach S.bks q.1) (hq:q'∈(nx X.G.bks q).1):Reach S.bks q'.1:=by
 unfold nx at hq;cases hB:X.G.bks[q.1]? with
 |none=>rw[hB]at hq;simp at hq
 |some B=>
  rw[hB]at hq;simp only at hq;cases hx:B.nodes[q.2]? with
  |none=>
   rw[hx]at hq;simp only[List.mem_map]at hq;obtain⟨s,hs,rfl⟩:=hq;rw[h.G]at hB;exact hb.succ hB hs
  |some y=>
   rw[hx]at hq;simp only at hq;split at hq
   ·simp at hq;rw[hq];exact hb
   ·simp at hq
theorem Uj (h:Sem t A S c X) (F:Fin t S S3 c): ∀ {k:Nat} {q:Pt} {x:Int},Reach S.bks q.1->(Wx (nx S3.bks) k q x↔Wx (nx X.G.bks) k q x):=by
 intro k
 induction k with
 |zero=>
  intro q x hb;have e:=Jh h F hb;constructor
  ·intro hr;cases hr with
   |leaf h1=>exact .leaf (by rw[<-e];exact h1)
  ·intro hr;cases hr with
   |leaf h1=>exact .leaf (by rw[e];exact h1)
 |succ k ih=>
  intro q x hb;have e:=Jh h F hb;constructor
  ·intro hr;cases hr with
   |step h1 h2=>
    rw[e]at h1;exact .step h1 ((ih (Ld h hb h1)).1 h2)
  ·intro hr;cases hr with
   |step h1 h2=>exact .step (by rw[e];exact h1) ((ih (Ld h hb h1)).2 h2)
theorem Sem.first (h:Sem t A S c X) (F:Fin t S S3 c) (x:Int):(∃ k,Wx (nx S3.bks) k (0,0) x)↔ ∃ m,Wx A.mv m ⟨1,0,0⟩ x:=by
 rw[h.Oq x];exact⟨fun⟨k,hk⟩=>⟨k,(Uj h F .zero).1 hk⟩,fun⟨k,hk⟩=>⟨k,(Uj h F .zero).2 hk⟩⟩
theorem Sem.Dl (h:Sem t A S c X) (F:Fin t S S3 c) {x:Int} (hx:x≠ -1):Rd A x↔ ∃ (i k:Nat) (k3:Bk) (y:WW),S3.bks[i]? =some k3∧k3.live=true∧k3.nodes[k]? =some y∧Zy y.pos=x:=by
 rw[h.live F hx];constructor
 ·rintro⟨b,j,y,⟨B,hB,hj⟩,hy,hb⟩;have hG:=hB;rw[h.G]at hG;obtain⟨q,g1,_⟩:=WO hG;have hl:b < S3.bks.length:=by rw[F.len];exact ZW g1
  have hk:=List.getElem?_eq_getElem hl;generalize S3.bks[b]=k3 at hk;obtain⟨B',f1,f2,f3,f4,f5,f6⟩:=h.uV F hk;rw[hB]at f1;cases f1;have hlv:ZB S.bks b=true:=by unfold ZB;simp[hb]
  refine⟨b,j,k3,y,hk,by rw[f5];exact hlv,?_,hy⟩;rcases f6 with⟨f6,_⟩ |⟨e,f6,_⟩
  ·rw[f6];exact hj
  ·rw[<-e,hlv]at f6;cases f6
 ·rintro⟨i,k,k3,y,hk,hlv,hy,hx'⟩;obtain⟨B,h1,h2,h3,h4,h5,h6⟩:=h.uV F hk;refine⟨i,k,y,⟨B,h1,?_⟩,hx',?_⟩
  ·rcases h6 with⟨h6,_⟩ |⟨_,_,h6⟩
   ·rw[<-h6];exact hy
   ·rw[h6,List.getElem?_append_left (ZW hy)];exact hy
  ·rw[h5]at hlv;unfold ZB at hlv;simpa using hlv
theorem Sem.sequence (h:Sem t A S c X) (F:Fin t S S3 c) {i j k x:Nat} {z:Int} {k3:Bk} {y y':WW} (hk:S3.bks[i]? =some k3) (hlv:k3.live=true) (hy:k3.nodes[j]? =some y) (hx:Zy y.pos=x) (hjk:j < k) (hy':k3.nodes[k]? =some y') (hz:Zy y'.pos=z) (hz1:z≠ -1)
  (hmid: ∀ r w,j < r->r < k->k3.nodes[r]? =some w->Zy w.pos= -1):A.Ws x=false∧ ∀ u,(∃ p∈A.PG x true,∃ m,Wx A.mv m p u)↔u=z:=by
 obtain⟨hL,_,he⟩:=h.spot F hk hy hx;have hlen:=ZW hy';have hd:X.A.Ws x=false:=by
  cases hd:X.A.Ws x with
  |false=>rfl
  |true=>
   obtain⟨t,f,h1,_⟩:=hL.two hd;have:=(he _ h1).1;omega
 have hs: ¬ (X.A.Y0 x=2∨X.A.Y0 x=9):=fun hs=>by
  have:=(he _ (hL.stop hs)).1;omega
 have ho:=hL.next hd (by omega) (by omega) true;have hob:=h.KT ho;rw[h.A]at hd hob;refine⟨hd,fun u=>?_⟩;rw[hob u];have hb:Reach S.bks i:=by
  obtain⟨B,h1,h2,h3,h4,h5,h6⟩:=h.uV F hk;rw[h5]at hlv;unfold ZB at hlv;simpa using hlv
 have key: ∀ d r,r+d=k->j < r->((∃ m,Wx (nx S3.bks) m (i,r) u)↔u=z):=by
  intro d
  induction d with
  |zero=>
   intro r hr _;have:r=k:=by omega
   subst this;have e:nx S3.bks (i,r)=([],some z):=by
    simp only[nx,hk,hy',hz];rw[if_neg hz1]
   constructor
   ·rintro⟨m,hm⟩;cases hm with
    |leaf h1=>rw[e]at h1;cases h1;rfl
    |step h1 _=>rw[e]at h1;simp at h1
   ·rintro rfl;exact⟨0,.leaf (by rw[e])⟩
  |succ d ih=>
   intro r hr hjr;have hrl:r < k3.nodes.length:=by omega
   have hw:=List.getElem?_eq_getElem hrl;have hm1:=hmid r _ hjr (by omega) hw;generalize k3.nodes[r]=w at hw hm1;have e:nx S3.bks (i,r)=([(i,r+1)],none):=by
    simp only[nx,hk,hw,hm1];rfl
   rw[<-ih (r+1) (by omega) (by omega)];constructor
   ·rintro⟨m,hm⟩;cases hm with
    |leaf h1=>rw[e]at h1;cases h1
    |step h1 h2=>
     rw[e]at h1;simp at h1;subst h1;exact⟨_,h2⟩
   ·rintro⟨m,hm⟩;exact⟨m+1,.step (by rw[e];simp) hm⟩
 rw[<-key (k -(j+1)) (j+1) (by omega) (by omega)];exact⟨fun⟨m,hm⟩=>⟨m,(Uj h F (q:=(i,j+1)) hb).2 hm⟩,fun⟨m,hm⟩=>⟨m,(Uj h F (q:=(i,j+1)) hb).1 hm⟩⟩
theorem Sem.returns (h:Sem t A S c X) (F:Fin t S S3 c) (hd: ∀ x:Nat,x < X.A.ls.length->X.A.Y0 x≠7):(∃ (i:Nat) (k3:Bk),S3.bks[i]? =some k3∧k3.live=true∧k3.Zn=true)↔(Rd A (-2)∨ ∃ x:Nat,x < A.ls.length∧A.Y0 x=9∧Rd A x):=by
 constructor
 ·rintro⟨i,k3,hk,hlv,hr⟩;have he:=(h.Zn F hd hk).1 hr;unfold Bk.ends at he;cases hl:k3.nodes.getLast? with
  |none=>rw[hl]at he;simp at he
  |some y=>
   rw[hl]at he;have hyr:y.ret=true:=by simpa using he
   obtain⟨j,hj⟩:=List.getElem?_of_mem (List.mem_of_getLast? hl);rcases h.EG F hk hj with⟨_,h1⟩ |⟨h1,_⟩ |⟨x,h1,h2⟩
   ·rw[hyr]at h1;cases h1
   ·exact .inl ((h.Dl F (by decide)).2 ⟨i,j,k3,y,hk,hlv,hj,h1⟩)
   ·obtain⟨hL,_⟩:=h.spot F hk hj h1;refine .inr ⟨x,by rw[<-h.A];exact h2,by rw[<-h.A];exact hL.ret.1 hyr,(h.Dl F (by omega)).2 ⟨i,j,k3,y,hk,hlv,hj,h1⟩⟩
 ·intro hc;have key: ∃ x:Int,x≠ -1∧Rd A x∧(x= -2∨ ∃ w:Nat,x=w∧A.Y0 w=9):=by
   rcases hc with hc|⟨x,h1,h2,h3⟩
   ·exact⟨-2,by decide,hc,.inl rfl⟩
   ·exact⟨x,by omega,h3,.inr ⟨x,rfl,h2⟩⟩
  obtain⟨x,hx1,hx2,hx3⟩:=key;obtain⟨i,j,k3,y,hk,hlv,hj,hy⟩:=(h.Dl F hx1).1 hx2;refine⟨i,k3,hk,hlv,(h.Zn F hd hk).2 ?_⟩;have hlast:y.ret=true∧k3.nodes.length=j+1:=by
   rcases hx3 with rfl|⟨w,rfl,hw⟩
   ·rcases h.EG F hk hj with⟨h1,_⟩ |⟨_,h1,h2,_⟩ |⟨x,h1,_⟩
    ·rw[hy]at h1;exact absurd h1 (by decide)
    ·exact⟨h1,h2⟩
    ·rw[hy]at h1;omega
   ·obtain⟨hL,_,he⟩:=h.spot F hk hj hy;rw[<-h.A]at hw;exact⟨hL.ret.2 hw,(he _ (hL.stop (.inr hw))).1⟩
  have hgl:k3.nodes.getLast? =some y:=by
   rw[List.getLast?_eq_getElem?,hlast.2];simpa using hj
  unfold Bk.ends;rw[hgl];simpa using hlast.1
end
end Go.Proofs.YteedbaejpdjilaaGreat
