/- Part of the proof: WfM MetX. -/
import Derived.Test.YteedbaejpdjilaaGreatYQe
import Derived.Test.YteedbaejpdjilaaGreatTQk
set_option linter.all false
set_option maxRecDepth 100000
set_option maxHeartbeats 40000000
namespace Go.Proofs.YteedbaejpdjilaaGreat
open Go.RowKit Tryz
section
section
def NY (A:Tr) (p:Pl):Prop:=
 (p.op=1/\Ok p.a A.rs.length/\0<=p.b/\p.b<=A.ns.length)\/(p.op=2/\Ok p.a A.ns.length/\(A.kd p.a=10\/A.kd p.a=11)/\p.b=0)\/(p.op=3/\Ok p.a A.ns.length/\0<=p.b/\p.b<=((A.nd p.a).tests.length:Int))\/
 (p.op=4/\Ok p.a A.ns.length/\p.b=0)\/(p.op=5/\Ok p.a A.ns.length/\A.kd p.a=12/\p.b=0)\/(p.op=6/\Ok p.a A.ls.length/\p.b=0)
theorem Ww {A:Tr} {n:Int} (h:Ok n A.rs.length):NY A ⟨1,n,0⟩:=.inl ⟨rfl,h,by simp,by simp⟩
theorem getD_mem {l:List Int} {b:Int} (h0:0<=b) (h:b < (l.length:Int)) (d:Int):l.getD b.toNat d∈l:=by
 rw[Zy,Z9 (by omega)];exact List.getElem_mem _
section
variable {A:Tr} (W:Wf A)
include W
theorem Wf.behind {n:Int} (h:Ok n A.ns.length):NY A (A.behind n):=by
 have:=W.nd h;have h1:=this.here;have h2:=this.place;have h3:=ZH h1;have h4:=(W.rw this.list).len;exact .inl ⟨rfl,this.list,by simp only[Tr.behind];omega,by simp only[Tr.behind];omega⟩
theorem Wf.again {n:Int} (h:Ok n A.ns.length) (hk:A.kd n=11\/A.kd n=12):NY A (A.again n):=by
 unfold Tr.again;split
 .next h1=>exact .inr (.inr (.inr (.inr (.inl ⟨rfl,h,h1,rfl⟩))))
 .next h1=>
  split
  .next h2=>exact .inr (.inr (.inr (.inr (.inr ⟨rfl,(W.nd h).Ym.ok h2,rfl⟩))))
  .exact .inr (.inl ⟨rfl,h,by simp only;omega,rfl⟩)
theorem Wf.left {l:Int} (h:Ok l A.rs.length) (ho:(A.rw l).owner≠ -1):NY A (A.left l):=by
 have:=(W.rw h).owner.ok ho;unfold Tr.left;split
 .next h1=>exact W.again this h1
 .exact W.behind this
theorem Wf.chosen {n:Int} (h:Ok n A.ns.length): ∀ p∈A.chosen n,NY A p:=by
 intro p hp;unfold Tr.chosen at hp;simp only[ZM,Y2]at hp;rcases hp with⟨c,hc,rfl⟩ |hp
 .exact Ww ((W.nd h).ch c hc)
 .split at hp
  .simp at hp
  .simp at hp;subst hp;exact W.behind h
theorem Wf.failed {n:Int} (h:Ok n A.ns.length):NY A (A.failed n):=by
 unfold Tr.failed;split
 .next c hc=>exact Ww ((W.nd h).ch c (List.mem_of_find?_eq_some hc))
 .exact W.behind h
theorem Wf.BO {n:Int} (h:Ok n A.ns.length) (hk:A.kd n=20):Ok ((A.rw (A.nd n).list).clause+1) (A.nd (A.tgt n)).choices.length:=by
 obtain⟨m,rfl,hm⟩:=h.cast;have hx:=Z9 hm;have hnd:=W8 hx;have hk':(A.nd (m:Int)).h.kind=20:=hk;rw[hnd]at hk' ⊢;obtain⟨h1,h2⟩:=W.fall m _ hx hk';have h3:=(W.n m _ hx).fall hk' h2;have h4:=(W.rw (W.n m _ hx).list).clause.ok h2;rw[h1];exact⟨by have:=h4.1;omega,h3⟩
theorem Wf.next {n:Int} (h:Ok n A.ns.length) (hk:A.kd n=20):NY A (A.next (A.nd n).list (A.tgt n)):=by
 have h1:=W.BO h hk;have h2:Ok (A.tgt n) A.ns.length:=by
  obtain⟨m,rfl,hm⟩:=h.cast;have hx:=Z9 hm;have hk':(A.nd (m:Int)).h.kind=20:=hk;rw[W8 hx]at hk';exact W.tg m _ hx (by omega)
 obtain⟨j,e,hj⟩:=h1.cast;refine Ww ?_;unfold Tr.ch;rw[e];refine(W.nd h2).ch _ ?_;rw[Y1,Zy,Z9 hj];exact List.getElem_mem hj
theorem Wf.tgt {n:Int} (h:Ok n A.ns.length) (hk:A.kd n=17\/A.kd n=18\/A.kd n=19\/A.kd n=20):Ok (A.tgt n) A.ns.length/\(A.kd n=18->A.kd (A.tgt n)=11\/A.kd (A.tgt n)=12):=by
 obtain⟨m,rfl,hm⟩:=h.cast;have hx:=Z9 hm;unfold Tr.kd at hk;rw[W8 hx]at hk;refine⟨W.tg m _ hx hk,fun h18=>W.loop m _ hx ?_⟩;unfold Tr.kd at h18;rw[W8 hx]at h18;exact h18
theorem Wf.entered {n:Int} (h:Ok n A.ns.length):NY A (A.entered n):=by
 have hN:=W.nd h;unfold Tr.entered;split
 .next h1=>exact .inr (.inl ⟨rfl,h,h1,rfl⟩)
 split
 .next h1=>exact .inr (.inr (.inr (.inr (.inr ⟨rfl,hN.cnd.ok (hN.hc (.inr h1)),rfl⟩))))
 split
 .split
  .next h2=>exact .inr (.inr (.inr (.inr (.inr ⟨rfl,hN.cnd.ok h2,rfl⟩))))
  .exact .inr (.inr (.inl ⟨rfl,h,by simp,by simp⟩))
 split
 .exact .inr (.inr (.inr (.inl ⟨rfl,h,rfl⟩)))
 split
 .next h1=>exact Ww (hN.body.ok (hN.hb (.inr (.inr (.inr h1)))))
 split
 .next h1=>exact W.behind (W.tgt h (.inl h1)).1
 split
 .next h1=>exact W.again (W.tgt h (.inr (.inl h1))).1 ((W.tgt h (.inr (.inl h1))).2 h1)
 split
 .next h1=>
  have hT:=W.nd (W.tgt h (.inr (.inr (.inl h1)))).1;have h3:=ZH hT.here;have h4:=(W.rw hT.list).len;have h5:=hT.place;exact .inl ⟨rfl,hT.list,by simp only;omega,by simp only;omega⟩
 split
 .next h1=>exact W.next h h1
 .exact W.behind h
theorem Wf.begun {n:Int} (h:Ok n A.ns.length):NY A (A.begun n):=by
 have hN:=W.nd h;unfold Tr.begun;split
 .next h1=>exact .inr (.inr (.inr (.inr (.inr ⟨rfl,hN.self.ok h1,rfl⟩))))
 split
 .next h1=>exact .inr (.inr (.inr (.inr (.inr ⟨rfl,hN.ini.ok h1,rfl⟩))))
 .exact W.entered h
theorem Wf.mv {p:Pl} (h:NY A p):(∀ q∈(A.mv p).1,NY A q)/\(∀ x,(A.mv p).2=some x->x= -2\/Ok x A.ls.length):=by
 unfold Tr.mv;rcases h with⟨e,h1,h2,h3⟩ |⟨e,h1,h2,h3⟩ |⟨e,h1,h2,h3⟩ |⟨e,h1,h2⟩ |⟨e,h1,h2,h3⟩ |⟨e,h1,h2⟩<;>rw[e]
 .simp only[if_true];have hR:=W.rw h1;split
  .next hb=>
   refine⟨fun q hq=>?_,fun x hx=>by simp at hx⟩;simp at hq;subst hq;have hm:=hR.nodes _ (getD_mem h2 hb 0);rw[Zy]at hm;exact W.begun hm
  .split
   .exact⟨fun q hq=>by simp at hq,fun x hx=>by simp at hx;exact .inl hx.symm⟩
   .next ho=>
    refine⟨fun q hq=>?_,fun x hx=>by simp at hx⟩;simp at hq;subst hq;exact W.left h1 ho
 .simp only[show ¬ (2:Int)=1 by omega,if_false,if_true];split
  .refine⟨fun q hq=>?_,fun x hx=>by simp at hx⟩;simp at hq;subst hq;have hN:=W.nd h1;exact Ww (hN.body.ok (hN.hb (by unfold Tr.kd at h2;omega)))
  .next hc=>exact⟨fun q hq=>by simp at hq,fun x hx=>by simp at hx;subst hx;exact .inr ((W.nd h1).cnd.ok hc)⟩
 .simp only[show ¬ (3:Int)=1 by omega,show ¬ (3:Int)=2 by omega,if_false,if_true];split
  .next hb=>exact⟨fun q hq=>by simp at hq,fun x hx=>by simp only[Option.some.injEq]at hx;subst hx;exact .inr ((W.nd h1).te _ (getD_mem h2 hb 0))⟩
  .refine⟨fun q hq=>?_,fun x hx=>by simp at hx⟩;simp at hq;subst hq;exact W.failed h1
 .simp only[show ¬ (4:Int)=1 by omega,show ¬ (4:Int)=2 by omega,show ¬ (4:Int)=3 by omega,if_false,if_true];exact⟨W.chosen h1,fun x hx=>by simp at hx⟩
 .simp only[show ¬ (5:Int)=1 by omega,show ¬ (5:Int)=2 by omega,show ¬ (5:Int)=3 by omega,show ¬ (5:Int)=4 by omega,if_false,if_true];refine⟨fun q hq=>?_,fun x hx=>by simp at hx⟩;simp at hq;rcases hq with rfl|rfl
  .have hN:=W.nd h1;exact Ww (hN.body.ok (hN.hb (by unfold Tr.kd at h2;omega)))
  .exact W.behind h1
 .simp only[show ¬ (6:Int)=1 by omega,show ¬ (6:Int)=2 by omega,show ¬ (6:Int)=3 by omega,show ¬ (6:Int)=4 by omega,show ¬ (6:Int)=5 by omega,if_false];exact⟨fun q hq=>by simp at hq,fun x hx=>by simp at hx;subst hx;exact .inr h1⟩
theorem Wf.Nu {i:Int} (h:Ok i A.ls.length) (v:Bool): ∀ p∈A.Nu i v,NY A p:=by
 have hL:=W.lf h;have hN:=W.nd hL.of;unfold Tr.Nu;split
 .split
  .simp
  .intro p hp;simp at hp;subst hp;exact W.behind hL.of
 split
 .intro p hp;simp at hp;subst hp;exact W.entered hL.of
 split
 .next h4=>intro p hp;simp at hp;subst hp;exact .inr (.inl ⟨rfl,hL.of,.inr (hL.four h4),rfl⟩)
 split
 .next h5=>
  have h6:=hL.five h5;split
  .intro p hp;simp only[Zk]at hp;subst hp;refine Ww ?_;have h7:=hN.tof _ (getD_mem h6.1 h6.2 0);obtain⟨j,e,hj⟩:=h7.cast;unfold Tr.ch;rw[e];refine hN.ch _ ?_;rw[Y1,Zy,Z9 hj];exact List.getElem_mem hj
  .intro p hp;simp at hp;subst hp;have:=hN.tl;have h8:=h6.1;have h9:=h6.2;exact .inr (.inr (.inl ⟨rfl,hL.of,by simp only;omega,by simp only;omega⟩))
 .next h1 h2 h4 h5=>
  have hw:=hL.what;have h3:=hL.three (by omega);intro p hp;simp at hp;subst hp;unfold Tr.decided;split
  .next hk=>exact .inr (.inr (.inr (.inr (.inl ⟨rfl,hL.of,hk,rfl⟩))))
  split
  .exact .inr (.inr (.inl ⟨rfl,hL.of,by simp,by simp⟩))
  split
  .exact Ww (hN.body.ok (hN.hb (by unfold Tr.kd at*;omega)))
  split
  .next hk=>exact Ww (hN.other.ok hk)
  .exact W.behind hL.of
end
end
section
structure Met {α:Type} (σ:Sy α) (F seen todo:List α) (rec:Int->Prop):Prop where
 nodup:seen.Nodup
 sound: ∀ p,p∈seen\/p∈todo-> ∀ x m,Vp σ m p x-> ∃ q∈F,∃ k,Vp σ k q x
 next: ∀ p∈seen,∀ q∈(σ p).1,q∈seen\/q∈todo
 leaf: ∀ p∈seen,∀ x,(σ p).2=some x->rec x
 from_: ∀ p∈F,p∈seen\/p∈todo
 met: ∀ x,rec x-> ∃ q∈F,∃ k,Vp σ k q x
section
variable {α:Type} {σ:Sy α} {F seen todo:List α} {rec rec':Int->Prop}
theorem Met.start:Met σ F [] F (fun _=>False):=
 ⟨List.nodup_nil,fun p hp x m hr=>by
  rcases hp with hp|hp
  .simp at hp
  .exact⟨p,hp,m,hr⟩,by simp,by simp,fun p hp=>.inr hp,fun x h=>h.elim⟩
theorem Met.skip {p:α} (h:Met σ F seen (p::todo) rec) (hp:p∈seen):Met σ F seen todo rec:=by
 refine⟨h.nodup,fun q hq=>h.sound q (hq.imp id (Z2 _)),fun q hq r hr=>?_,h.leaf,fun q hq=>?_,h.met⟩
 .rcases h.next q hq r hr with h1|h1
  .exact .inl h1
  .rcases ZO.1 h1 with rfl|h1
   .exact .inl hp
   .exact .inr h1
 .rcases h.from_ q hq with h1|h1
  .exact .inl h1
  .rcases ZO.1 h1 with rfl|h1
   .exact .inl hp
   .exact .inr h1
theorem Met.take {p:α} {l:List α} {o:Option Int} (h:Met σ F seen (p::todo) rec) (hp:p∉seen) (hl:(σ p).1=l) (ho:(σ p).2=o) (hr: ∀ x,rec' x↔rec x\/o=some x):Met σ F (seen++ [p]) (todo++l) rec':=by
 have hs:=h.sound p (.inr List.mem_cons_self);refine⟨?_,fun q hq x m hx=>?_,fun q hq r hqr=>?_,fun q hq x hx=>?_,fun q hq=>?_,fun x hx=>?_⟩
 .rw[Y4];exact⟨h.nodup,by simp,fun a ha b hb e=>by simp at hb;subst hb;subst e;exact hp ha⟩
 .simp only[ZM,Zk]at hq;rcases hq with(hq|rfl) |hq|hq
  .exact h.sound q (.inl hq) x m hx
  .exact hs x m hx
  .exact h.sound q (.inr (Z2 _ hq)) x m hx
  .exact hs x (m+1) (.step (by rw[hl];exact hq) hx)
 .simp only[ZM,Zk]at hq ⊢;rcases hq with hq|rfl
  .rcases h.next q hq r hqr with h1|h1
   .exact .inl (.inl h1)
   .rcases ZO.1 h1 with rfl|h1
    .exact .inl (.inr rfl)
    .exact .inr (.inl h1)
  .exact .inr (.inr (by rw[<-hl];exact hqr))
 .simp only[ZM,Zk]at hq;rcases hq with hq|rfl
  .exact(hr x).2 (.inl (h.leaf q hq x hx))
  .exact(hr x).2 (.inr (by rw[<-ho];exact hx))
 .simp only[ZM,Zk];rcases h.from_ q hq with h1|h1
  .exact .inl (.inl h1)
  .rcases ZO.1 h1 with rfl|h1
   .exact .inl (.inr rfl)
   .exact .inr (.inl h1)
 .rcases(hr x).1 hx with h1|h1
  .exact h.met x h1
  .exact hs x 0 (.leaf (by rw[ho];exact h1))
theorem Met.done (h:Met σ F seen [] rec) (x:Int):rec x↔ ∃ p∈F,∃ m,Vp σ m p x:=by
 refine⟨h.met x,?_⟩;have key: ∀ m p,p∈seen->Vp σ m p x->rec x:=by
  intro m
  induction m with
  |zero=>
   intro p hp hr;cases hr with
   |leaf h1=>exact h.leaf p hp x h1
  |succ m ih=>
   intro p hp hr;cases hr with
   |step h1 h2=>
    rcases h.next p hp _ h1 with h3|h3
    .exact ih _ h3 h2
    .simp at h3
 rintro⟨p,hp,m,hr⟩;rcases h.from_ p hp with h1|h1
 .exact key m p h1 hr
 .simp at h1
theorem Met.congr (h:Met σ F seen todo rec) (hr: ∀ x,rec x↔rec' x):Met σ F seen todo rec':=
 ⟨h.nodup,h.sound,h.next,fun p hp x hx=>(hr x).1 (h.leaf p hp x hx),h.from_,fun x hx=>h.met x ((hr x).2 hx)⟩
end
theorem Qy: ∀ (K:Nat) (l:List Nat),l.Nodup->(∀ x∈l,x < K)->l.length<=K:=by
 intro K
 induction K with
 |zero=>
  intro l _ h;cases l with
  |nil=>simp
  |cons x l=>have:=h x (by simp);omega
 |succ K ih=>
  intro l hn h;have h1:=ih (l.filter (· !=K)) (hn.sublist List.filter_sublist) (fun x hx=>by
   simp only[List.mem_filter,bne_iff_ne]at hx;have:=h x hx.1;omega)
  have h2:l.length<=(l.filter (· !=K)).length+1:=by
   clear ih h1 h
   induction l with
   |nil=>simp
   |cons x l ih=>
    obtain⟨g1,g2⟩:=ZS.1 hn;by_cases e:x=K
    .subst e;have:l.filter (· !=x)=l:=by
      rw[List.filter_eq_self];intro y hy;simp only[bne_iff_ne];rintro rfl;exact g1 hy
     simp[this]
    .have:=ih g2;rw[List.filter_cons_of_pos (by simpa using e)];simp only[ZJ];omega
  omega
theorem MV {α:Type} {f:α->Nat} : ∀ {l:List α},l.Nodup->(∀ x∈l,∀ y∈l,f x=f y->x=y)->(l.map f).Nodup:=by
 intro l
 induction l with
 |nil=>simp
 |cons a l ih=>
  intro hn h;obtain⟨g1,g2⟩:=ZS.1 hn;rw[List.map_cons,ZS];refine⟨fun hc=>?_,ih g2 (fun x hx y hy=>h x (Z2 _ hx) y (Z2 _ hy))⟩;obtain⟨y,hy,e⟩:=Y2.1 hc;exact g1 (h y (Z2 _ hy) a List.mem_cons_self e ▸ hy)
def Pl.code (p:Pl):Nat:=(p.op.toNat*10000+p.a.toNat)*10000+p.b.toNat
theorem BN {l:List Pl} (hn:l.Nodup) (h: ∀ p∈l,0<=p.op/\p.op<=6/\0<=p.a/\p.a < 10000/\0<=p.b/\p.b < 10000):l.length<=700000000:=by
 have h1:=Qy 700000000 (l.map Pl.code) (MV hn (fun x hx y hy e=>by
  have h1:=h x hx;have h2:=h y hy;obtain⟨xo,xa,xb⟩:=x;obtain⟨yo,ya,yb⟩:=y;unfold Pl.code at e;simp only at h1 h2 e;have e1:xo=yo:=by omega
  have e2:xa=ya:=by omega
  have e3:xb=yb:=by omega
  rw[e1,e2,e3])) (fun x hx=>by
  obtain⟨p,hp,rfl⟩:=Y2.1 hx;have:=h p hp;unfold Pl.code;omega)
 simpa using h1
def SG (l:List Int):Prop:=l.Pairwise (· < ·)
theorem xI: ∀ {a b:List Int},SG a->SG b->(∀ x,x∈a↔x∈b)->a=b:=by
 intro a
 induction a with
 |nil=>
  intro b _ _ h;cases b with
  |nil=>rfl
  |cons y b=>exact absurd ((h y).2 (by simp)) (by simp)
 |cons x a ih=>
  intro b ha hb h;cases b with
  |nil=>exact absurd ((h x).1 (by simp)) (by simp)
  |cons y b=>
   obtain⟨h1,h2⟩:=List.pairwise_cons.1 ha;obtain⟨h3,h4⟩:=List.pairwise_cons.1 hb;have hxy:x=y:=by
    rcases ZO.1 ((h x).1 (by simp))with e|e
    .exact e
    .rcases ZO.1 ((h y).2 (by simp))with e'|e'
     .exact e'.symm
     .have:=h3 x e;have:=h1 y e';omega
   subst hxy;rw[ih h2 h4 (fun z=>?_)];have:=h z;simp only[ZO]at this;constructor
   .intro hz;rcases this.1 (.inr hz)with e|e
    .subst e;have:=h1 z hz;omega
    .exact e
   .intro hz;rcases this.2 (.inr hz)with e|e
    .subst e;have:=h3 z hz;omega
    .exact e
end
end
section
section
noncomputable def LN (A:Tr) (F:List Pl):List Int:=((-2)::(List.range A.ls.length).map Int.ofNat).filter (fun x=> @decide (∃ p∈F,∃ m,Vp A.mv m p x) (Classical.propDecidable _))
theorem Ih (n:Nat):SG ((-2)::(List.range n).map Int.ofNat):=by
 unfold SG;rw[List.pairwise_cons];refine⟨fun y hy=>?_,?_⟩
 .obtain⟨u,_,rfl⟩:=Y2.1 hy;show -2 < (u:Int);omega
 .rw[List.pairwise_map];exact List.pairwise_lt_range.imp (fun h=>by simpa using h)
theorem EO {A:Tr} {F:List Pl} :SG (LN A F):=(Ih _).filter _
theorem Wf.rch {A:Tr} (W:Wf A): ∀ {m:Nat} {p:Pl} {x:Int},NY A p->Vp A.mv m p x->x= -2\/Ok x A.ls.length:=by
 intro m
 induction m with
 |zero=>
  intro p x hp hr;cases hr with
  |leaf h=>exact(W.mv hp).2 x h
 |succ m ih=>
  intro p x hp hr;cases hr with
  |step h1 h2=>exact ih ((W.mv hp).1 _ h1) h2
theorem Vd {A:Tr} (W:Wf A) {F:List Pl} (hF: ∀ p∈F,NY A p) {x:Int} :x∈LN A F↔ ∃ p∈F,∃ m,Vp A.mv m p x:=by
 unfold LN;rw[List.mem_filter];simp only[decide_eq_true_eq];refine⟨fun h=>h.2,fun h=>⟨?_,h⟩⟩;obtain⟨p,hp,m,hr⟩:=h;rcases W.rch (hF p hp) hr with rfl|hx
 .simp
 .obtain⟨u,rfl,hu⟩:=hx.cast;refine Z2 _ (Y2.2 ⟨u,List.mem_range.2 hu,rfl⟩)
theorem QY {A:Tr} (W:Wf A) {F:List Pl} (hF: ∀ p∈F,NY A p): ∀ x∈LN A F,x= -2\/Ok x A.ls.length:=by
 intro x hx;obtain⟨p,hp,m,hr⟩:=(Vd W hF).1 hx;exact W.rch (hF p hp) hr
theorem iV {A:Tr} {F:List Pl} :(LN A F).length<=A.ls.length+1:=by
 unfold LN;refine ZC (List.length_filter_le _ _) ?_;simp
noncomputable def xH (A:Tr) (i:Int) (v:Bool):List Int:=LN A (A.Nu i v)
noncomputable def qK (A:Tr):List Int:=LN A [⟨1,0,0⟩]
noncomputable def NW (A:Tr):Sy Int:=fun i=>if i= -2 then([],some (-2))else(xH A i true++xH A i false,some i)
theorem Wf.zero {A:Tr} (W:Wf A):NY A ⟨1,0,0⟩:=Ww ⟨by simp,by have:=W.one;simp;omega⟩
theorem fQ {A:Tr} (W:Wf A) (x:Int):(∃ y∈qK A,∃ m,Vp (NW A) m y x)↔Rd A x:=by
 have hz: ∀ p∈ [(⟨1,0,0⟩:Pl)],NY A p:=fun p hp=>by simp at hp;subst hp;exact W.zero
 constructor
 .rintro⟨y,hy,m,hr⟩;have h0:Rd A y:=by
   obtain⟨p,hp,k,hk⟩:=(Vd W hz).1 hy;simp at hp;subst hp;exact .first hk
  have hy':y= -2\/Ok y A.ls.length:=QY W hz y hy;clear hy
  induction hr with
  | @leaf p x h1=>
   unfold NW at h1;split at h1
   .next e=>simp at h1;subst h1;subst e;exact h0
   .simp at h1;subst h1;exact h0
  | @step p q x n h1 h2 ih=>
   unfold NW at h1;split at h1
   .simp at h1
   .next e=>
    have hp:Ok p A.ls.length:=hy'.elim (fun h=>absurd h e) id;obtain⟨u,rfl,hu⟩:=hp.cast;simp only[ZM]at h1;have key: ∀ v,q∈xH A (u:Int) v->Rd A q/\(q= -2\/Ok q A.ls.length):=by
     intro v hq;refine⟨?_,QY W (W.Nu hp v) q hq⟩;obtain⟨r,hr,k,hk⟩:=(Vd W (W.Nu hp v)).1 hq;exact .next h0 hr hk
    rcases h1 with h1|h1
    .exact ih (key _ h1).1 (key _ h1).2
    .exact ih (key _ h1).1 (key _ h1).2
 .intro h;have key: ∀ {x},Rd A x->(x= -2\/Ok x A.ls.length)/\ ∃ y∈qK A,∃ m,∀ z k,Vp (NW A) k x z->Vp (NW A) (k+m) y z:=by
   intro x h
   induction h with
   | @first m x h1=>
    have:x∈qK A:=(Vd W hz).2 ⟨_,by simp,m,h1⟩;exact⟨QY W hz x this,x,this,0,fun z k hk=>hk⟩
   | @next y x v p m h1 hp hr ih=>
    obtain⟨g1,y',hy',n,hn⟩:=ih;have hO:Ok (y:Int) A.ls.length:=g1.elim (fun h=>by omega) id;have hx:x∈xH A y v:=(Vd W (W.Nu hO v)).2 ⟨p,hp,m,hr⟩;refine⟨QY W (W.Nu hO v) x hx,y',hy',n+1,fun z k hk=>?_⟩;have:=hn z (k+1) (.step (by
     unfold NW;rw[if_neg (by omega)];simp only[ZM];cases v
     .exact .inr hx
     .exact .inl hx) hk)
    rw[show k+(n+1)=k+1+n by omega];exact this
  obtain⟨_,y,hy,m,hm⟩:=key h;refine⟨y,hy,0+m,hm x 0 (.leaf ?_)⟩;unfold NW;split
  .next e=>rw[e]
  .rfl
def Bk.Ns (k:Bk):List Int:=k.nodes.map fun n=>YS n.pos
def blk (G:List Bk):Sy Nat:=fun b=>match G[b]? with
 |none=>([],none)
 |some k=>match k.Ns.find? (· ≠ -1)with
  |some x=>([],some x)
  |none=>(k.succs,none)
end
end
end Go.Proofs.YteedbaejpdjilaaGreat
