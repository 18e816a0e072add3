/- Part of the proof: SpX WfX TreA TreF TreL. -/
import Derived.Test.YteedbaejpdjilaaGreatYPx
import Derived.Test.YteedbaejpdjilaaGreatYPs
set_option linter.all false
set_option maxRecDepth 100000
set_option maxHeartbeats 40000000
namespace Go.Proofs.YteedbaejpdjilaaGreat
open Go.RowKit Tryz
section
section
structure Tr where
 ls:List Lf
 ns:List Nd
 rs:List Rw
 tg:List Int
def nd0:Nd:=⟨⟨0,⟨#[]⟩,⟨#[]⟩,false,false,false,false,false⟩,0,0,0,0,0,0,0,0,0,[],[],[],0⟩
def Tr.nd (A:Tr) (i:Int):Nd:=A.ns.getD i.toNat nd0
def Tr.rw (A:Tr) (i:Int):Rw:=A.rs.getD i.toNat ⟨-1,-1,[]⟩
def Tr.lf (A:Tr) (i:Int):Lf:=A.ls.getD i.toNat ⟨0,0,0⟩
def Seg {α:Type} (l:List α) (k:Nat) (s:List α):Prop:= ∀ j,j < s.length->l[k+j]? =s[j]?
theorem Seg.app {α:Type} {l:List α} {k:Nat} {s u:List α} (h:Seg l k (s++u)):Seg l k s/\Seg l (k+s.length) u:=by
 constructor
 .intro j hj;rw[h j (by simp;omega),ZP hj]
 .intro j hj;have:=h (s.length+j) (by simp;omega);rw[Z3,this,Zj (by omega)];congr 1;omega
theorem Seg.cons {α:Type} {l:List α} {k:Nat} {x:α} {s:List α} (h:Seg l k (x::s)):l[k]? =some x/\Seg l (k+1) s:=by
 constructor
 .have:=h 0 (by simp);simpa using this
 .intro j hj;have:=h (j+1) (by simp;omega);rw[show k+1+j=k+(j+1)by omega,this];simp
theorem Seg.self {α:Type} (l:List α):Seg l 0 l:=fun j _=>by rw[YR]
theorem Seg.le {α:Type} {l:List α} {k:Nat} {s:List α} (h:Seg l k s) (hk:0 < s.length):k+s.length<=l.length:=by
 have:=h (s.length -1) (by omega);rw[Z9 (l:=s) (by omega)]at this;have:=ZH this;omega
structure Sub (A:Tr) (N R n:Nat) (ls:List Lf) (ns:List Nd) (rs:List Rw):Prop where
 l:Seg A.ls n ls
 n:Seg A.ns N ns
 r:Seg A.rs R rs
theorem W8 {A:Tr} {N:Nat} {x:Nd} (h:A.ns[N]? =some x):A.nd N=x:=by
 unfold Tr.nd;rw[Y1,Zy,h];rfl
theorem WY {A:Tr} {N:Nat} {x:Rw} (h:A.rs[N]? =some x):A.rw N=x:=by
 unfold Tr.rw;rw[Y1,Zy,h];rfl
theorem Gw {A:Tr} {N:Nat} {x:Lf} (h:A.ls[N]? =some x):A.lf N=x:=by
 unfold Tr.lf;rw[Y1,Zy,h];rfl
def T.UM (h:Hd) (i:Nat) (a p:Nat) (n R R2:Nat) (oc:WG):Nd:=
 ⟨h,i,a,p,YL h.Zu n,YL h.init (n+h.Zu.toNat),YL h.hasCond (n+h.Zu.toNat+h.init.toNat),YL h.post (n+h.Zu.toNat+h.init.toNat+h.hasCond.toNat),YL h.Zz R,YL h.ZV R2,oc.Yn,oc.tests,oc.YY,-1⟩
def vB (h:Hd) (b:T) (N R n i:Nat):Out:=if h.Zz then b.rd.l (N+1) (R+1) (n+(h.Yl N).length) (i+1) R 0 else .none
def vA (h:Hd) (e:T) (N2 R2 n2 i2:Nat):Out:=if h.ZV then e.rd.l N2 (R2+1) n2 i2 R2 0 else .none
structure Nv (A:Tr) (h:Hd) (b e c tl:T) (N R n i a p:Nat) (ob oe:Out) (oc:WG) (ot:Out) (R2 R3:Nat):Prop where
 eb:ob=vB h b N R n i
 jM:R2=R+(if h.Zz then 1+ob.rs.length else 0)
 ee:oe=vA h e (N+1+ob.ns.length) R2 (n+(h.Yl N).length+ob.ls.length) (i+1+ob.it)
 jL:R3=R2+(if h.ZV then 1+oe.rs.length else 0)
 ec:oc=c.rd.c (h.kind==13) N (N+1+ob.ns.length+oe.ns.length) R3 (n+(h.Yl N).length+ob.ls.length+oe.ls.length) (i+1+ob.it+oe.it) 0 0
 et:ot=tl.rd.l (N+1+ob.ns.length+oe.ns.length+oc.ns.length) (R3+oc.rs.length) (n+(h.Yl N).length+ob.ls.length+oe.ls.length+oc.ls.length) (i+1+ob.it+oe.it+oc.it) a (p+1)
 nd:A.ns[N]? =some (T.UM h i a p n R R2 oc)
 lf:Seg A.ls n (h.Yl N)
 sb:h.Zz=true->A.rs[R]? =some ⟨N,-1,ob.ids⟩/\Sub A (N+1) (R+1) (n+(h.Yl N).length) ob.ls ob.ns ob.rs
 se:h.ZV=true->A.rs[R2]? =some ⟨N,-1,oe.ids⟩/\Sub A (N+1+ob.ns.length) (R2+1) (n+(h.Yl N).length+ob.ls.length) oe.ls oe.ns oe.rs
 sc:Sub A (N+1+ob.ns.length+oe.ns.length) R3 (n+(h.Yl N).length+ob.ls.length+oe.ls.length) oc.ls oc.ns oc.rs
 st:Sub A (N+1+ob.ns.length+oe.ns.length+oc.ns.length) (R3+oc.rs.length) (n+(h.Yl N).length+ob.ls.length+oe.ls.length+oc.ls.length) ot.ls ot.ns ot.rs
theorem CF {A:Tr} {h:Hd} {b e c tl:T} {N R n i a p:Nat} (H:Sub A N R n ((T.st h b e c tl).rd.l N R n i a p).ls ((T.st h b e c tl).rd.l N R n i a p).ns ((T.st h b e c tl).rd.l N R n i a p).rs):
  ∃ ob oe oc ot R2 R3,Nv A h b e c tl N R n i a p ob oe oc ot R2 R3/\((T.st h b e c tl).rd.l N R n i a p).ids=(N:Int)::ot.ids/\((T.st h b e c tl).rd.l N R n i a p).it=1+ob.it+oe.it+oc.it+ot.it/\
   ((T.st h b e c tl).rd.l N R n i a p).ls=h.Yl N++(ob.ls++(oe.ls++(oc.ls++ot.ls)))/\((T.st h b e c tl).rd.l N R n i a p).ns=T.UM h i a p n R R2 oc::(ob.ns++(oe.ns++(oc.ns++ot.ns))):=by
 obtain⟨H1,H2,H3⟩:=H;simp only[T.rd]at H1 H2 H3 ⊢;simp only[V0]at H1 H2 H3 ⊢;obtain⟨ob,hob⟩: ∃ ob,ob=(if h.Zz=true then b.rd.l (N+1) (R+1) (n+(h.Yl N).length) (i+1) R 0 else Out.none):=⟨_,rfl⟩
 rw[<-hob]at H1 H2 H3 ⊢;obtain⟨R2,hR2⟩: ∃ R2:Nat,R2=R+(if h.Zz=true then 1+ob.rs.length else 0):=⟨_,rfl⟩
 rw[<-hR2]at H1 H2 H3 ⊢;obtain⟨oe,hoe⟩: ∃ oe,oe=(if h.ZV=true then e.rd.l (N+1+ob.ns.length) (R2+1) (n+(h.Yl N).length+ob.ls.length) (i+1+ob.it) R2 0 else Out.none):=⟨_,rfl⟩
 rw[<-hoe]at H1 H2 H3 ⊢;obtain⟨R3,CD⟩: ∃ R3:Nat,R3=R2+(if h.ZV=true then 1+oe.rs.length else 0):=⟨_,rfl⟩
 rw[<-CD]at H1 H2 H3 ⊢;obtain⟨oc,hoc⟩: ∃ oc,oc=c.rd.c (h.kind==13) N (N+1+ob.ns.length+oe.ns.length) R3 (n+(h.Yl N).length+ob.ls.length+oe.ls.length) (i+1+ob.it+oe.it) 0 0:=⟨_,rfl⟩
 rw[<-hoc]at H1 H2 H3 ⊢;obtain⟨ot,hot⟩: ∃ ot,ot=tl.rd.l (N+1+ob.ns.length+oe.ns.length+oc.ns.length) (R3+oc.rs.length) (n+(h.Yl N).length+ob.ls.length+oe.ls.length+oc.ls.length) (i+1+ob.it+oe.it+oc.it) a (p+1):=⟨_,rfl⟩
 rw[<-hot]at H1 H2 H3 ⊢;obtain⟨a1,H1⟩:=H1.app;obtain⟨a2,H1⟩:=H1.app;obtain⟨a3,H1⟩:=H1.app;obtain⟨a4,a5⟩:=H1.app;obtain⟨b1,H2⟩:=H2.cons;obtain⟨b2,H2⟩:=H2.app;obtain⟨b3,H2⟩:=H2.app;obtain⟨b4,b5⟩:=H2.app;obtain⟨c2,H3⟩:=H3.app;obtain⟨c3,H3⟩:=H3.app;obtain⟨c4,c5⟩:=H3.app;simp only[V0]at c3 c4 c5;rw[<-hR2]at c3 c4 c5;rw[<-CD]at c4 c5;refine⟨ob,oe,oc,ot,R2,R3,⟨hob,hR2,hoe,CD,hoc,hot,b1,a1,fun hb=>?_,fun he=>?_,⟨a4,b4,c4⟩,⟨a5,b5,c5⟩⟩,rfl,rfl,rfl,rfl⟩
 .unfold rowOf at c2;rw[if_pos hb]at c2;obtain⟨c6,c7⟩:=c2.cons;exact⟨c6,a2,b2,c7⟩
 .unfold rowOf at c3;rw[if_pos he]at c3;obtain⟨c6,c7⟩:=c3.cons;exact⟨c6,a3,b3,c7⟩
structure Z9Q (A:Tr) (x:Int) (b tl:T) (sw:Bool) (N0 N R n i j k:Nat) (ts:Nat) (ob:Out) (ot:WG):Prop where
 ets:ts=if sw then x.toNat else 0
 eb:ob=b.rd.l N (R+1) (n+ts) (i+1) R 0
 et:ot=tl.rd.c sw N0 (N+ob.ns.length) (R+1+ob.rs.length) (n+ts+ob.ls.length) (i+1+ob.it) (j+1) (k+ts)
 lf:Seg A.ls n ((List.range ts).map (fun q=>(⟨N0,5,(k+q:Nat)⟩:Lf)))
 rw:A.rs[R]? =some ⟨N0,j,ob.ids⟩
 sb:Sub A N (R+1) (n+ts) ob.ls ob.ns ob.rs
 st:Sub A (N+ob.ns.length) (R+1+ob.rs.length) (n+ts+ob.ls.length) ot.ls ot.ns ot.rs
theorem M1 {A:Tr} {x:Int} {b tl:T} {sw:Bool} {N0 N R n i j k:Nat} (H:Sub A N R n ((T.cl x b tl).rd.c sw N0 N R n i j k).ls ((T.cl x b tl).rd.c sw N0 N R n i j k).ns ((T.cl x b tl).rd.c sw N0 N R n i j k).rs):
  ∃ ts ob ot,Z9Q A x b tl sw N0 N R n i j k ts ob ot/\(T.cl x b tl).rd.c sw N0 N R n i j k=
   ⟨(List.range ts).map (fun q=>⟨N0,5,(k+q:Nat)⟩)++(ob.ls++ot.ls),ob.ns++ot.ns,⟨N0,j,ob.ids⟩::(ob.rs++ot.rs),⟨i,R,decide (x=0)⟩::ot.Yn,(List.range ts).map (fun q=>((n+q:Nat):Int))++ot.tests,List.replicate ts (j:Int)++ot.YY,1+ob.it+ot.it⟩:=by
 obtain⟨H1,H2,H3⟩:=H;simp only[T.rd]at H1 H2 H3 ⊢;obtain⟨ts,hts⟩: ∃ ts:Nat,ts=(if sw=true then x.toNat else 0):=⟨_,rfl⟩
 rw[<-hts]at H1 H2 H3 ⊢;obtain⟨ob,hob⟩: ∃ ob,ob=b.rd.l N (R+1) (n+ts) (i+1) R 0:=⟨_,rfl⟩
 rw[<-hob]at H1 H2 H3 ⊢;obtain⟨ot,hot⟩: ∃ ot,ot=tl.rd.c sw N0 (N+ob.ns.length) (R+1+ob.rs.length) (n+ts+ob.ls.length) (i+1+ob.it) (j+1) (k+ts):=⟨_,rfl⟩
 rw[<-hot]at H1 H2 H3 ⊢;obtain⟨a1,H1⟩:=H1.app;obtain⟨a2,a3⟩:=H1.app;obtain⟨b2,b3⟩:=H2.app;obtain⟨c1,H3⟩:=H3.cons;obtain⟨c2,c3⟩:=H3.app;simp only[Y8,Zf]at a2 a3;exact⟨ts,ob,ot,⟨hts,hob,hot,a1,c1,⟨a2,b2,c2⟩,⟨a3,b3,c3⟩⟩,rfl⟩
def QF (A:Tr):Int->List Nat->Prop
 |a,[]=>(A.rw a).owner= -1
 |a,o::os=>(A.rw a).owner=o/\QF A (A.nd o).list os
def aims (k:Int) (s:ByteArray) (h:Hd):Bool:=decide ((h.kind=11\/h.kind=12\/(k=17/\(h.kind=13\/h.kind=14\/h.kind=15)))/\(s.size=0\/s=h.label))
def Tr.WT (A:Tr) (k:Int) (s:ByteArray):Nat->Int->Int
 |0,_=> -1
 |f+1,o=>if o= -1 then -1 else if aims k s (A.nd o).h then o else A.WT k s f (A.rw (A.nd o).list).owner
theorem Ma {A:Tr} {k:Int} {s:ByteArray} : ∀ (os:List Nat) (f:Nat) (a:Int),QF A a os->os.length < f->A.WT k s f (A.rw a).owner=match os.find? (fun o:Nat=>aims k s (A.nd o).h)with|some o=>(o:Int) |none=> -1:=by
 intro os
 induction os with
 |nil=>
  intro f a h hf;obtain⟨f,rfl⟩: ∃ g,f=g+1:=⟨f -1,by simp at hf;omega⟩
  have h':(A.rw a).owner= -1:=h;rw[h'];simp[Tr.WT]
 |cons o os ih=>
  intro f a h hf;obtain⟨h1,h2⟩:=h;obtain⟨f,rfl⟩: ∃ g,f=g+1:=⟨f -1,by simp at hf;omega⟩
  rw[h1];unfold Tr.WT;rw[if_neg (by omega),List.find?_cons];cases hb:aims k s (A.nd o).h
  .simp only[Zw,if_false];exact ih f _ h2 (by simp at hf;omega)
  .simp
def Tr.Wo (A:Tr) (s:ByteArray):Int:=match A.ns.findIdx? (fun x=>decide (x.h.label.data=s.data))with
 |some i=>(i:Int)
 |none=> -1
structure Wn (A:Tr):Prop where
 named: ∀ (i:Nat) x,A.ns[i]? =some x->0 < x.h.label.size->A.Wo x.h.label=i
 around: ∀ (i:Nat) x,A.ns[i]? =some x->x.h.kind=17\/x.h.kind=18->A.WT x.h.kind x.h.target (A.ns.length+1) (A.rw x.list).owner≠ -1
 jump: ∀ (i:Nat) x,A.ns[i]? =some x->x.h.kind=19->A.Wo x.h.target≠ -1
 fall: ∀ (i:Nat) x,A.ns[i]? =some x->x.h.kind=20->(A.rw x.list).clause≠ -1/\(A.rw x.list).owner≠ -1
def T.tr (t:T) (tg:List Int):Tr:=⟨(t.rd.l 0 1 0 0 0 0).ls,(t.rd.l 0 1 0 0 0 0).ns,⟨-1,-1,(t.rd.l 0 1 0 0 0 0).ids⟩::(t.rd.l 0 1 0 0 0 0).rs,tg⟩
end
section
theorem Yo {h:Hd} :h.Zz=true↔h.kind=10\/h.kind=11\/h.kind=12\/h.kind=16:=by
 unfold Hd.Zz;simp only[Bool.or_eq_true,beq_iff_eq];constructor<;>intro h<;>omega
theorem Ql.RZ {h:Hd} {b e c:T} (H:Ql h b e c) (hb:h.Zz≠true):b=.nil:=by
 rw[Ne,Yo]at hb;exact H.1.nb (by omega) (by omega) (by omega) (by omega)
theorem Ql.TW {h:Hd} {b e c:T} (H:Ql h b e c) (hb:h.ZV≠true):e=.nil:=H.1.ne (by simpa using hb)
theorem QE {h:Hd} {b e c:T} (H:Ql h b e c) {N R n i:Nat} :vB h b N R n i=b.rd.l (N+1) (R+1) (n+(h.Yl N).length) (i+1) R 0:=by
 unfold vB;split
 .rfl
 .next hb=>rw[H.RZ hb];rfl
theorem L7 {h:Hd} {b e c:T} (H:Ql h b e c) {N R n i:Nat} :vA h e N R n i=e.rd.l N (R+1) n i R 0:=by
 unfold vA;split
 .rfl
 .next hb=>rw[H.TW hb];rfl
theorem E7: ∀ t:T,(t.Xv true->t.fA-> ∀ N R n i a p,((t.rd.l N R n i a p).ns.map fun x=>x.h.label).filter (fun s=>decide (0 < s.size))=t.labels)/\
  (t.Xv false->t.fA-> ∀ sw N0 N R n i j k,((t.rd.c sw N0 N R n i j k).ns.map fun x=>x.h.label).filter (fun s=>decide (0 < s.size))=t.labels):=by
 intro t
 induction t with
 |nil=>exact⟨fun _ _ _ _ _ _ _ _=>rfl,fun _ _ _ _ _ _ _ _ _ _=>rfl⟩
 |st h b e c tl ih1 ih2 ih3 ih4=>
  refine⟨fun⟨_,s1,s2,s3,s4⟩ ⟨f0,f1,f2,f3,f4⟩ N R n i a p=>?_,fun hs=>absurd hs.1 (by simp)⟩;have h1: ∀ N R n i a p,(((if h.Zz=true then b.rd.l N R n i a p else .none):Out).ns.map fun x=>x.h.label).filter (fun s=>decide (0 < s.size))=b.labels:=by
   intro N R n i a p;split
   .next hb=>exact ih1.1 s1 (f1 hb) N R n i a p
   .next hb=>rw[f0.RZ hb];rfl
  have h2: ∀ N R n i a p,(((if h.ZV=true then e.rd.l N R n i a p else .none):Out).ns.map fun x=>x.h.label).filter (fun s=>decide (0 < s.size))=e.labels:=by
   intro N R n i a p;split
   .next hb=>exact ih2.1 s2 (f2 hb) N R n i a p
   .next hb=>rw[f0.TW hb];rfl
  simp only[T.rd,List.map_cons,List.map_append,List.filter_cons,List.filter_append,h1,h2,ih3.2 s3 f3,ih4.1 s4 f4,T.labels];by_cases hz:h.label.size=0
  .simp[hz]
  .have:0 < h.label.size:=by omega
   simp[hz,this]
 |cl x b tl ih1 ih2=>
  refine⟨fun hs=>absurd hs.1 (by simp),fun⟨_,s1,s2⟩ ⟨f1,f2⟩ sw N0 N R n i j k=>?_⟩;simp only[T.rd,List.map_append,List.filter_append,ih1.1 s1 f1,ih2.2 s2 f2,T.labels]
theorem RY {A:Tr} {s:ByteArray} (h:A.Wo s≠ -1): ∃ (i:Nat) (x:Nd),A.ns[i]? =some x/\x.h.label=s/\A.Wo s=i:=by
 unfold Tr.Wo at h ⊢;cases hf:A.ns.findIdx? (fun x=>decide (x.h.label.data=s.data))with
 |none=>rw[hf]at h;simp at h
 |some i=>
  rw[List.findIdx?_eq_some_iff_getElem]at hf;obtain⟨h1,h2,_⟩:=hf;exact⟨i,A.ns[i],Z9 h1,Dm (by simpa using h2),rfl⟩
theorem L4 {A:Tr} (H:Wn A):((A.ns.map fun x=>x.h.label).filter (fun s=>decide (0 < s.size))).Nodup:=by
 rw[List.Nodup,List.pairwise_filter,List.pairwise_iff_getElem];intro i j hi hj hij h1 h2 e;simp only[Y8]at hi hj;simp only[List.getElem_map]at h1 h2 e;have g1:=H.named i A.ns[i] (Z9 hi) (by simpa using h1);have g2:=H.named j A.ns[j] (Z9 hj) (by simpa using h2);rw[<-e,g1]at g2;omega
theorem IX {A:Tr} {s:ByteArray} (hs:0 < s.size) (h:A.Wo s≠ -1):s∈((A.ns.map fun x=>x.h.label).filter (fun s=>decide (0 < s.size))):=by
 obtain⟨i,x,h1,h2,_⟩:=RY h;rw[List.mem_filter,Y2];exact⟨⟨x,ZY h1,h2⟩,by simpa using hs⟩
def Tr.frames (A:Tr) (os:List Nat):List SF:=os.flatMap fun o:Nat=>(A.nd o).h.frame
theorem Oe {A:Tr} {k:Int} {s:ByteArray} {os:List Nat} {o:Nat} (ho:o∈os) (h:aims k s (A.nd o).h=true): ∃ f∈A.frames os,(k=17\/f.loop=true)/\(s.size=0\/f.lab=s):=by
 unfold aims at h;rw[decide_eq_true_eq]at h;obtain⟨h1,h2⟩:=h;have key: ∃ f∈(A.nd o).h.frame,(k=17\/f.loop=true)/\f.lab=(A.nd o).h.label:=by
  unfold Hd.frame;by_cases h3:(A.nd o).h.kind=11\/(A.nd o).h.kind=12
  .rw[if_pos h3];exact⟨_,Zk.2 rfl,.inr rfl,rfl⟩
  .rw[if_neg h3,if_pos (by omega)];exact⟨_,Zk.2 rfl,.inl (by omega),rfl⟩
 obtain⟨f,f1,f2,f3⟩:=key;refine⟨f,List.mem_flatMap.2 ⟨o,ho,f1⟩,f2,h2.imp id fun h=>by rw[f3,h]⟩
theorem rO {A:Tr} (H:Wn A) {ls:List ByteArray} (hls: ∀ s,0 < s.size->A.Wo s≠ -1->s∈ls): ∀ t:T,
  (t.Xv true->t.fA-> ∀ N R n i a p os (fl:Bool),Sub A N R n (t.rd.l N R n i a p).ls (t.rd.l N R n i a p).ns (t.rd.l N R n i a p).rs->QF A (a:Nat) os->os.length<=N->((A.rw (a:Nat)).clause≠ -1->t.ft (fl=true))->t.VN ls (A.frames os) fl)/\
  (t.Xv false->t.fA-> ∀ sw (N0 N R n i j k:Nat) os,Sub A N R n (t.rd.c sw N0 N R n i j k).ls (t.rd.c sw N0 N R n i j k).ns (t.rd.c sw N0 N R n i j k).rs->(A.nd N0).h.frame++A.frames os=A.frames (N0::os)->QF A (A.nd N0).list os->os.length+1<=N->t.cf (A.nd N0).h.kind->sw=((A.nd N0).h.kind==13)->t.VN ls (A.frames (N0::os)) sw):=by
 intro t
 induction t with
 |nil=>exact⟨fun _ _ _ _ _ _ _ _ _ _ _ _ _ _=>trivial,fun _ _ _ _ _ _ _ _ _ _ _ _ _ _ _ _ _=>trivial⟩
 |st h b e c tl ih1 ih2 ih3 ih4=>
  refine⟨fun⟨_,s1,s2,s3,s4⟩ ⟨f0,f1,f2,f3,f4⟩ N R n i a p os fl hsub hch hos hft=>?_,fun hs=>absurd hs.1 (by simp)⟩;obtain⟨ob,oe,oc,ot,R2,R3,I,_,_,_,hns⟩:=CF hsub;have jS:=W8 I.nd;have hNl:N < A.ns.length:=ZH I.nd;have hh:(A.nd N).h=h:=by rw[jS];rfl
  have hlist:(A.nd N).list=a:=by rw[jS];rfl
  have hfr:A.frames (N::os)=h.frame++A.frames os:=by simp[Tr.frames,hh]
  have rN:QF A (A.nd N).list os:=by rw[hlist];exact hch
  refine⟨fun hk=>?_,fun hk=>?_,fun hk=>?_,fun hk=>?_,?_,?_,?_,?_⟩
  .have h1:=H.around N _ I.nd (.inl hk);rw[show(T.UM h i a p n R R2 oc).list=a from rfl,show(T.UM h i a p n R R2 oc).h=h from rfl,Ma os _ _ hch (by omega)]at h1;split at h1
   .next o ho=>
    obtain⟨f,g1,_,g3⟩:=Oe (List.mem_of_find?_eq_some ho) (by simpa using List.find?_some ho);exact⟨f,g1,g3⟩
   .exact absurd rfl h1
  .have h1:=H.around N _ I.nd (.inr hk);rw[show(T.UM h i a p n R R2 oc).list=a from rfl,show(T.UM h i a p n R R2 oc).h=h from rfl,Ma os _ _ hch (by omega)]at h1;split at h1
   .next o ho=>
    obtain⟨f,g1,g2,g3⟩:=Oe (List.mem_of_find?_eq_some ho) (by simpa using List.find?_some ho);exact⟨f,g1,g2.resolve_left (by omega),g3⟩
   .exact absurd rfl h1
  .exact hls _ (f0.1.gt hk) (H.jump N _ I.nd hk)
  .have h1:=(H.fall N _ I.nd hk).1;exact(hft h1).1 hk
  .rw[<-hfr];by_cases hb:h.Zz=true
   .obtain⟨r1,r2⟩:=I.sb hb;have hrw:=WY r1;rw[I.eb,QE f0]at r2;refine ih1.1 s1 (f1 hb) _ _ _ _ R 0 (N::os) false r2 ⟨by rw[hrw],rN⟩ (by simp;omega) (fun hc=>absurd (by rw[hrw]) hc)
   .rw[f0.RZ hb];trivial
  .rw[<-hfr];by_cases hb:h.ZV=true
   .obtain⟨r1,r2⟩:=I.se hb;have hrw:=WY r1;rw[I.ee,L7 f0]at r2;exact ih2.1 s2 (f2 hb) _ _ _ _ R2 0 (N::os) false r2 ⟨by rw[hrw],rN⟩ (by simp;omega) (fun hc=>absurd (by rw[hrw]) hc)
   .rw[f0.TW hb];trivial
  .rw[<-hfr];have r2:=I.sc;rw[I.ec]at r2;by_cases hk:h.kind=13\/h.kind=14\/h.kind=15
   .refine ih3.2 s3 f3 (h.kind==13) N _ _ _ _ 0 0 os r2 (by simp[Tr.frames]) rN (by omega) (by rw[hh];exact f0.2 hk) (by rw[hh])
   .rw[f0.1.nc (by omega) (by omega) (by omega)];trivial
  .have r2:=I.st;rw[I.et]at r2;exact ih4.1 s4 f4 _ _ _ _ a (p+1) os fl r2 hch (by omega) (fun hc=>(hft hc).2)
 |cl x b tl ih1 ih2=>
  refine⟨fun hs=>absurd hs.1 (by simp),fun⟨_,s1,s2⟩ ⟨f1,f2⟩ sw N0 N R n i j k os hsub hfr hch hos hcf hsw=>?_⟩;obtain⟨ts,ob,ot,I,_⟩:=M1 hsub;have hrw:=WY I.rw;obtain⟨_,_,c1,c2⟩:=hcf;refine⟨?_,?_⟩
  .have r2:=I.sb;rw[I.eb]at r2;refine ih1.1 s1 f1 _ _ _ _ R 0 (N0::os) (sw&&!tl.isNil) r2 ⟨by rw[hrw],hch⟩ (by simp;omega) (fun _=>?_);have hiff:((sw&&!tl.isNil)=true)↔((A.nd N0).h.kind=13/\tl≠ .nil):=by
    rw[hsw];cases tl<;>simp[T.isNil]
   have:((sw&&!tl.isNil)=true)=((A.nd N0).h.kind=13/\tl≠ .nil):=propext hiff;rw[this];exact c1
  .have r2:=I.st;rw[I.et]at r2;exact ih2.2 s2 f2 sw N0 _ _ _ _ _ _ os r2 hfr hch (by omega) c2 hsw
end
section
def T.fm:T->Prop
 | .nil=>True
 | .st h b e c tl=>Fm h b e c/\b.fm/\e.fm/\c.fm/\tl.fm
 | .cl _ b tl=>b.fm/\tl.fm
theorem vz: ∀ {t:T},t.fA->t.fm:=by
 intro t
 induction t with
 |nil=>intro _;trivial
 |st h b e c tl ih1 ih2 ih3 ih4=>
  intro⟨f0,f1,f2,f3,f4⟩;refine⟨f0.1,?_,?_,ih3 f3,ih4 f4⟩
  .by_cases hb:h.Zz=true
   .exact ih1 (f1 hb)
   .rw[f0.RZ hb];trivial
  .by_cases hb:h.ZV=true
   .exact ih2 (f2 hb)
   .rw[f0.TW hb];trivial
 |cl x b tl ih1 ih2=>intro⟨f1,f2⟩;exact⟨ih1 f1,ih2 f2⟩
def T.Bi:T->Prop
 | .nil=>True
 | .st _ b e c tl=>b.Bi/\e.Bi/\c.Bi/\tl.Bi
 | .cl x b tl=>0<=x/\b.Bi/\tl.Bi
theorem rM: ∀ t:T,(t.fA->t.Xv true->t.Bi)/\(t.fA->t.Xv false-> ∀ k,t.cf k->t.Bi):=by
 intro t
 induction t with
 |nil=>exact⟨fun _ _=>trivial,fun _ _ _ _=>trivial⟩
 |st h b e c tl ih1 ih2 ih3 ih4=>
  refine⟨fun⟨f0,f1,f2,f3,f4⟩ ⟨_,s1,s2,s3,s4⟩=>?_,fun _ hs=>absurd hs.1 (by simp)⟩;refine⟨?_,?_,?_,ih4.1 f4 s4⟩
  .by_cases hb:h.Zz=true
   .exact ih1.1 (f1 hb) s1
   .rw[f0.RZ hb];trivial
  .by_cases hb:h.ZV=true
   .exact ih2.1 (f2 hb) s2
   .rw[f0.TW hb];trivial
  .by_cases hk:h.kind=13\/h.kind=14\/h.kind=15
   .exact ih3.2 f3 s3 _ (f0.2 hk)
   .rw[f0.1.nc (by omega) (by omega) (by omega)];trivial
 |cl x b tl ih1 ih2=>
  refine⟨fun _ hs=>absurd hs.1 (by simp),fun⟨f1,f2⟩ ⟨_,s1,s2⟩ k hc=>?_⟩;exact⟨hc.1,ih1.1 f1 s1,ih2.2 f2 s2 k hc.2.2.2⟩
theorem rL: ∀ t:T,t.Bi-> ∀ n,t.Xc n<=300->t.Xc n=n+t.wt:=by
 intro t
 induction t with
 |nil=>intro _ n _;simp[T.Xc,T.wt]
 |st h b e c tl ih1 ih2 ih3 ih4=>
  intro⟨h1,h2,h3,h4⟩ n hn;simp only[T.Xc]at hn ⊢;split at hn
  .omega
  .next hc=>
   rw[if_neg hc];have g4:=ih4 h4 (c.Xc (n+1+b.Xc 0+e.Xc 0)) hn;have g3:=ih3 h3 (n+1+b.Xc 0+e.Xc 0) (by omega);have g1:=ih1 h1 0 (by omega);have g2:=ih2 h2 0 (by omega);simp only[T.wt];omega
 |cl x b tl ih1 ih2=>
  intro⟨hx,h1,h2⟩ n hn;simp only[T.Xc]at hn ⊢;have g2:=ih2 h2 _ hn;have g1:=ih1 h1 0 (by omega);simp only[T.wt];omega
theorem jK: ∀ {t:T},t.fm->t.Bi->t.wt<=300->t.ok:=by
 intro t
 induction t with
 |nil=>intro _ _ _;trivial
 |st h b e c tl ih1 ih2 ih3 ih4=>
  intro⟨f0,f1,f2,f3,f4⟩ ⟨g1,g2,g3,g4⟩ hw;simp only[T.wt]at hw;exact⟨f0,ih1 f1 g1 (by omega),ih2 f2 g2 (by omega),ih3 f3 g3 (by omega),ih4 f4 g4 (by omega)⟩
 |cl x b tl ih1 ih2=>
  intro⟨f1,f2⟩ ⟨hx,g1,g2⟩ hw;simp only[T.wt]at hw;exact⟨hx,by omega,ih1 f1 g1 (by omega),ih2 f2 g2 (by omega)⟩
theorem rK {h:Hd} :h.own<=4:=by
 unfold Hd.own;have h0: ∀ b:Bool,b.toNat<=1:=fun b=>by cases b<;>simp
 have h1:=h0 (decide (1<=h.kind/\h.kind<=9));have h2:=h0 h.init;have h3:=h0 (h.cond||h.kind==10||h.kind==12);have h4:=h0 h.post;omega
theorem jJ: ∀ (t:T) (sw:Bool),t.lv sw<=4*t.wt:=by
 intro t
 induction t with
 |nil=>intro sw;simp[T.lv,T.wt]
 |st h b e c tl ih1 ih2 ih3 ih4=>
  intro sw;have h1:=ih1 false;have h2:=ih2 false;have h3:=ih3 (h.kind==13);have h4:=ih4 false;have h5:=rK (h:=h);simp only[T.lv,T.wt];omega
 |cl x b tl ih1 ih2=>
  intro sw;have h1:=ih1 false;have h2:=ih2 sw;simp only[T.lv,T.wt];split<;>omega
theorem jI: ∀ t:T,t.it<=t.wt:=by
 intro t
 induction t with
 |nil=>simp[T.it,T.wt]
 |st h b e c tl ih1 ih2 ih3 ih4=>simp only[T.it,T.wt];omega
 |cl x b tl ih1 ih2=>simp only[T.it,T.wt];omega
theorem jH {t:T} {tg:List Int} (hs:t.Xv true) (hf:t.fA) (hw:t.Xc 0<=300) (H:Wn (t.tr tg)):Rt t/\t.wt<=300:=by
 have hn:=(rM t).1 hf hs;have hwt:=rL t hn 0 hw;have hlab:=(E7 t).1 hs hf 0 1 0 0 0 0;have hb:=(rO H (ls:=t.labels) (fun s h1 h2=>by rw[<-hlab];exact IX h1 h2) t).1 hs hf 0 1 0 0 0 0 [] false ⟨Seg.self _,Seg.self _,fun j hj=>by
  show(_::_:List Rw)[1+j]? =_;rw[Zv,List.getElem?_cons_succ]⟩ rfl (by simp) (fun hc=>absurd rfl hc)
 have h1:=jJ t false;have h2:=jI t;refine⟨⟨hs,jK (vz hf) hn (by omega),hb,?_,?_,by omega,by omega,by omega⟩,by omega⟩
 .rw[<-hlab];exact L4 H
 .intro s hm;rw[<-hlab,List.mem_filter]at hm;simpa using hm.2
theorem jG: ∀ t:T,(t.Xv true-> ∀ d L,(t.ct.l d L).1.fm->(t.ct.l d L).1=t)/\(t.Xv false-> ∀ d L c,(t.ct.c d L).1=some c->c.fm->c=t):=by
 intro t
 induction t with
 |nil=>exact⟨fun _ d L _=>rfl,fun _ d L c h _=>by simp[T.ct]at h;exact h.symm⟩
 |st h b e c tl ih1 ih2 ih3 ih4=>
  refine⟨fun⟨_,s1,s2,s3,s4⟩ d L=>?_,fun hs=>absurd hs.1 (by simp)⟩;simp only[T.ct];have hz: ¬ T.zero.fm:=fun hc=>by have:=hc.1.k.1;simp[Hd.zero]at this
  split
  .intro hc;exact absurd hc hz
  .split
   .intro hc;exact absurd hc hz
   .next c' hc'=>
    intro⟨f0,f1,f2,f3,f4⟩;have e1:=ih1.1 s1 _ _ f1;have e2:=ih2.1 s2 _ _ f2;have e3:=ih3.2 s3 _ _ c' hc' f3;have e4:=ih4.1 s4 _ _ f4;simp only[e1,e2,e3,e4]
 |cl x b tl ih1 ih2=>
  refine⟨fun hs=>absurd hs.1 (by simp),fun⟨_,s1,s2⟩ d L c=>?_⟩;simp only[T.ct];split
  .intro h;simp at h
  .intro h;simp only[ZX]at h;obtain⟨tl',h1,rfl⟩:=h;intro⟨f1,f2⟩;rw[ih1.1 s1 _ _ f1,ih2.2 s2 _ _ tl' h1 f2]
end
section
abbrev Sy (α:Type):=α->List α × Option Int
inductive Vp {α:Type} (σ:Sy α):Nat->α->Int->Prop
 |leaf {p:α} {x:Int} :(σ p).2=some x->Vp σ 0 p x
 |step {p q:α} {x:Int} {n:Nat} :q∈(σ p).1->Vp σ n q x->Vp σ (n+1) p x
inductive Ob {α β:Type} (σ:Sy α) (γ:Sy β) (R:α->β->Prop):Bool->Bool->List α->β->Prop
 |leaf {fs fg:Bool} {p:α} {q:β} {x:Int} :σ p=([],some x)->γ q=([],some x)->Ob σ γ R fs fg [p] q
 |sp {fs fg:Bool} {p:α} {P:List α} {q:β} :σ p=(P,none)->Ob σ γ R true fg P q->Ob σ γ R fs fg [p] q
 |one {fs fg:Bool} {P:List α} {q q':β} :γ q=([q'],none)->Ob σ γ R fs true P q'->Ob σ γ R fs fg P q
 |two {fs fg:Bool} {P P1 P2:List α} {q q1 q2:β} :γ q=([q1,q2],none)->(∀ p,p∈P↔p∈P1\/p∈P2)->Ob σ γ R fs true P1 q1->Ob σ γ R fs true P2 q2->Ob σ γ R fs fg P q
 |dead {fs fg:Bool} {q:β} :γ q=([],none)->Ob σ γ R fs fg [] q
 |rel {p:α} {q:β} :R p q->Ob σ γ R true true [p] q
 |eqv {fs fg:Bool} {P P':List α} {q:β} :(∀ p,p∈P↔p∈P')->Ob σ γ R fs fg P' q->Ob σ γ R fs fg P q
section
variable {α β:Type} {σ:Sy α} {γ:Sy β} {R R':α->β->Prop}
theorem Ob.mono (hR: ∀ p q,R p q->R' p q) {fs fg:Bool} {P:List α} {q:β} (h:Ob σ γ R fs fg P q): ∀ {fs' fg':Bool},(fs=true->fs'=true)->(fg=true->fg'=true)->Ob σ γ R' fs' fg' P q:=by
 induction h with
 |leaf h1 h2=>intro _ _ _ _;exact .leaf h1 h2
 |sp h1 _ ih=>intro _ _ _ hg;exact .sp h1 (ih id hg)
 |one h1 _ ih=>intro _ _ hs _;exact .one h1 (ih hs id)
 |two h1 h2 _ _ ih1 ih2=>intro _ _ hs _;exact .two h1 h2 (ih1 hs id) (ih2 hs id)
 |dead h1=>intro _ _ _ _;exact .dead h1
 |rel h1=>intro fs' fg' hs hg;rw[hs rfl,hg rfl];exact .rel (hR _ _ h1)
 |eqv h1 _ ih=>intro _ _ hs hg;exact .eqv h1 (ih hs hg)
theorem Ob.any {fs fg:Bool} {P:List α} {q:β} (h:Ob σ γ R false false P q):Ob σ γ R fs fg P q:=h.mono (fun _ _ h=>h) (by simp) (by simp)
theorem Ob.fwd (hR: ∀ p q,R p q->Ob σ γ R false false [p] q): ∀ (N:Nat) {fs fg:Bool} {P:List α} {q:β},Ob σ γ R fs fg P q-> ∀ m p x,p∈P->Vp σ m p x->m+fs.toNat<=N-> ∃ k,Vp γ k q x:=by
 intro N
 induction N with
 |zero=>
  intro fs fg P q h
  induction h with
  |leaf h1 h2=>
   intro m p x hp hr _;simp at hp;subst hp;cases hr with
   |leaf h3=>rw[h1]at h3;cases h3;exact⟨0,.leaf (by rw[h2])⟩
   |step h3 _=>rw[h1]at h3;simp at h3
  |sp h1 _ ih=>
   intro m p x hp hr hm;simp at hp;subst hp;cases hr with
   |leaf h3=>rw[h1]at h3;cases h3
   |step h3 h4=>omega
  |one h1 _ ih=>
   intro m p x hp hr hm;obtain⟨k,hk⟩:=ih m p x hp hr hm;exact⟨k+1,.step (by rw[h1];simp) hk⟩
  |two h1 h2 _ _ ih1 ih2=>
   intro m p x hp hr hm;rcases(h2 p).1 hp with hp|hp
   .obtain⟨k,hk⟩:=ih1 m p x hp hr hm;exact⟨k+1,.step (by rw[h1];simp) hk⟩
   .obtain⟨k,hk⟩:=ih2 m p x hp hr hm;exact⟨k+1,.step (by rw[h1];simp) hk⟩
  |dead _=>intro m p x hp;simp at hp
  |rel _=>intro m p x _ _ hm;simp at hm
  |eqv h1 _ ih=>intro m p x hp hr hm;exact ih m p x ((h1 p).1 hp) hr hm
 |succ N IH=>
  intro fs fg P q h
  induction h with
  |leaf h1 h2=>
   intro m p x hp hr _;simp at hp;subst hp;cases hr with
   |leaf h3=>rw[h1]at h3;cases h3;exact⟨0,.leaf (by rw[h2])⟩
   |step h3 _=>rw[h1]at h3;simp at h3
  |sp h1 _ ih=>
   intro m p x hp hr hm;simp at hp;subst hp;cases hr with
   |leaf h3=>rw[h1]at h3;cases h3
   |step h3 h4=>
    rw[h1]at h3;exact ih _ _ x h3 h4 (by simp;omega)
  |one h1 _ ih=>
   intro m p x hp hr hm;obtain⟨k,hk⟩:=ih m p x hp hr hm;exact⟨k+1,.step (by rw[h1];simp) hk⟩
  |two h1 h2 _ _ ih1 ih2=>
   intro m p x hp hr hm;rcases(h2 p).1 hp with hp|hp
   .obtain⟨k,hk⟩:=ih1 m p x hp hr hm;exact⟨k+1,.step (by rw[h1];simp) hk⟩
   .obtain⟨k,hk⟩:=ih2 m p x hp hr hm;exact⟨k+1,.step (by rw[h1];simp) hk⟩
  |dead _=>intro m p x hp;simp at hp
  |rel h1=>
   intro m p x hp hr hm;simp at hp hm;subst hp;exact IH (hR _ _ h1) m _ x (by simp) hr (by simp;omega)
  |eqv h1 _ ih=>intro m p x hp hr hm;exact ih m p x ((h1 p).1 hp) hr hm
theorem Ob.bwd (hR: ∀ p q,R p q->Ob σ γ R false false [p] q): ∀ (N:Nat) {fs fg:Bool} {P:List α} {q:β},Ob σ γ R fs fg P q-> ∀ k x,Vp γ k q x->k+fg.toNat<=N-> ∃ p∈P,∃ m,Vp σ m p x:=by
 intro N
 induction N with
 |zero=>
  intro fs fg P q h
  induction h with
  |leaf h1 h2=>
   intro k x hr _;cases hr with
   |leaf h3=>rw[h2]at h3;cases h3;exact⟨_,Zk.2 rfl,0,.leaf (by rw[h1])⟩
   |step h3 _=>rw[h2]at h3;simp at h3
  |sp h1 _ ih=>
   intro k x hr hk;obtain⟨p,hp,m,hm⟩:=ih k x hr hk;exact⟨_,Zk.2 rfl,m+1,.step (by rw[h1];exact hp) hm⟩
  |one h1 _ ih=>
   intro k x hr hk;cases hr with
   |leaf h3=>rw[h1]at h3;cases h3
   |step h3 h4=>omega
  |two h1 h2 _ _ ih1 ih2=>
   intro k x hr hk;cases hr with
   |leaf h3=>rw[h1]at h3;cases h3
   |step h3 h4=>omega
  |dead h1=>
   intro k x hr _;cases hr with
   |leaf h3=>rw[h1]at h3;cases h3
   |step h3 _=>rw[h1]at h3;simp at h3
  |rel _=>intro k x _ hk;simp at hk
  |eqv h1 _ ih=>
   intro k x hr hk;obtain⟨p,hp,h5⟩:=ih k x hr hk;exact⟨p,(h1 p).2 hp,h5⟩
 |succ N IH=>
  intro fs fg P q h
  induction h with
  |leaf h1 h2=>
   intro k x hr _;cases hr with
   |leaf h3=>rw[h2]at h3;cases h3;exact⟨_,Zk.2 rfl,0,.leaf (by rw[h1])⟩
   |step h3 _=>rw[h2]at h3;simp at h3
  |sp h1 _ ih=>
   intro k x hr hk;obtain⟨p,hp,m,hm⟩:=ih k x hr hk;exact⟨_,Zk.2 rfl,m+1,.step (by rw[h1];exact hp) hm⟩
  |one h1 _ ih=>
   intro k x hr hk;cases hr with
   |leaf h3=>rw[h1]at h3;cases h3
   |step h3 h4=>
    rw[h1]at h3;simp at h3;subst h3;exact ih _ x h4 (by simp;omega)
  |two h1 h2 _ _ ih1 ih2=>
   intro k x hr hk;cases hr with
   |leaf h3=>rw[h1]at h3;cases h3
   |step h3 h4=>
    rw[h1]at h3;simp at h3;rcases h3 with rfl|rfl
    .obtain⟨p,hp,h5⟩:=ih1 _ x h4 (by simp;omega);exact⟨p,(h2 p).2 (.inl hp),h5⟩
    .obtain⟨p,hp,h5⟩:=ih2 _ x h4 (by simp;omega);exact⟨p,(h2 p).2 (.inr hp),h5⟩
  |dead h1=>
   intro k x hr _;cases hr with
   |leaf h3=>rw[h1]at h3;cases h3
   |step h3 _=>rw[h1]at h3;simp at h3
  |rel h1=>
   intro k x hr hk;simp at hk;exact IH (hR _ _ h1) k x hr (by simp;omega)
  |eqv h1 _ ih=>
   intro k x hr hk;obtain⟨p,hp,h5⟩:=ih k x hr hk;exact⟨p,(h1 p).2 hp,h5⟩
theorem Ob.same (hR: ∀ p q,R p q->Ob σ γ R false false [p] q) {fs fg:Bool} {P:List α} {q:β} (h:Ob σ γ R fs fg P q) (x:Int):(∃ p∈P,∃ m,Vp σ m p x)↔ ∃ k,Vp γ k q x:=
 ⟨fun⟨p,hp,m,hm⟩=>Ob.fwd hR _ h m p x hp hm (Z7 _),fun⟨k,hk⟩=>Ob.bwd hR _ h k x hk (Z7 _)⟩
end
end
section
structure Pl where
 op:Int
 a:Int
 b:Int
def Tr.tgt (A:Tr) (n:Int):Int:=A.tg.getD n.toNat (-1)
def Tr.kd (A:Tr) (n:Int):Int:=(A.nd n).h.kind
def Z9P:V1:=⟨0,0,false⟩
def Tr.ch (A:Tr) (n:Int) (j:Int):V1:=(A.nd n).choices.getD j.toNat Z9P
def Tr.behind (A:Tr) (n:Int):Pl:=⟨1,(A.nd n).list,(A.nd n).place+1⟩
def Tr.again (A:Tr) (n:Int):Pl:=if A.kd n=12 then⟨5,n,0⟩else if(A.nd n).Ym≠ -1 then⟨6,(A.nd n).Ym,0⟩else⟨2,n,0⟩
def Tr.left (A:Tr) (l:Int):Pl:=if A.kd (A.rw l).owner=11\/A.kd (A.rw l).owner=12 then A.again (A.rw l).owner else A.behind (A.rw l).owner
def Tr.chosen (A:Tr) (n:Int):List Pl:=(A.nd n).choices.map (fun c=>⟨1,c.list,0⟩)++(if A.kd n=15\/(A.nd n).choices.any (fun c=>c.plain)=true then []else [A.behind n])
def Tr.failed (A:Tr) (n:Int):Pl:=match(A.nd n).choices.find? (fun c=>c.plain)with
 |some c=>⟨1,c.list,0⟩
 |none=>A.behind n
def Tr.next (A:Tr) (l:Int) (o:Int):Pl:=⟨1,(A.ch o ((A.rw l).clause+1)).list,0⟩
def Tr.entered (A:Tr) (n:Int):Pl:=
 if A.kd n=10\/A.kd n=11 then⟨2,n,0⟩
 else if A.kd n=12 then⟨6,(A.nd n).cnd,0⟩
 else if A.kd n=13 then(if(A.nd n).cnd≠ -1 then⟨6,(A.nd n).cnd,0⟩else⟨3,n,0⟩)
 else if A.kd n=14\/A.kd n=15 then⟨4,n,0⟩
 else if A.kd n=16 then⟨1,(A.nd n).body,0⟩
 else if A.kd n=17 then A.behind (A.tgt n)
 else if A.kd n=18 then A.again (A.tgt n)
 else if A.kd n=19 then⟨1,(A.nd (A.tgt n)).list,(A.nd (A.tgt n)).place⟩
 else if A.kd n=20 then A.next (A.nd n).list (A.tgt n)
 else A.behind n
def Tr.begun (A:Tr) (n:Int):Pl:=if(A.nd n).self≠ -1 then⟨6,(A.nd n).self,0⟩else if(A.nd n).ini≠ -1 then⟨6,(A.nd n).ini,0⟩else A.entered n
def Tr.mv (A:Tr):Sy Pl:=fun p=>
 if p.op=1 then
  (if p.b < ((A.rw p.a).nodes.length:Int)then([A.begun ((A.rw p.a).nodes.getD p.b.toNat 0)],none)
  else if(A.rw p.a).owner= -1 then([],some (-2))else([A.left p.a],none))
 else if p.op=2 then(if(A.nd p.a).cnd= -1 then([⟨1,(A.nd p.a).body,0⟩],none)else([],some (A.nd p.a).cnd))
 else if p.op=3 then(if p.b < ((A.nd p.a).tests.length:Int)then([],some ((A.nd p.a).tests.getD p.b.toNat 0))else([A.failed p.a],none))
 else if p.op=4 then(A.chosen p.a,none)
 else if p.op=5 then([⟨1,(A.nd p.a).body,0⟩,A.behind p.a],none)
 else([],some p.a)
def Tr.decided (A:Tr) (n:Int) (v:Bool):Pl:=
 if A.kd n=12 then⟨5,n,0⟩else if A.kd n=13 then⟨3,n,0⟩else if v=true then⟨1,(A.nd n).body,0⟩else if(A.nd n).other≠ -1 then⟨1,(A.nd n).other,0⟩else A.behind n
def Tr.Nu (A:Tr) (i:Int) (v:Bool):List Pl:=
 if(A.lf i).what=1 then(if A.kd (A.lf i).of=2\/A.kd (A.lf i).of=9 then []else [A.behind (A.lf i).of])
 else if(A.lf i).what=2 then [A.entered (A.lf i).of]
 else if(A.lf i).what=4 then [⟨2,(A.lf i).of,0⟩]
 else if(A.lf i).what=5 then(if v=true then [⟨1,(A.ch (A.lf i).of ((A.nd (A.lf i).of).YY.getD (A.lf i).index.toNat 0)).list,0⟩]else [⟨3,(A.lf i).of,(A.lf i).index+1⟩])
 else [A.decided (A.lf i).of v]
def Tr.Tw (A:Tr) (i:Int):Bool:=decide ((A.lf i).what=5\/((A.lf i).what=3/\(A.kd (A.lf i).of=10\/A.kd (A.lf i).of=11)))
def Tr.Yh (A:Tr) (i:Int):Int:=if(A.lf i).what=1 then A.kd (A.lf i).of else 0
abbrev Pt:=Nat × Nat
def nx (G:List Bk):Sy Pt:=fun q=>match G[q.1]? with
 |none=>([],none)
 |some B=>match B.nodes[q.2]? with
  |some x=>if YS x.pos= -1 then([(q.1,q.2+1)],none)else([],some (YS x.pos))
  |none=>(B.succs.map fun s=>(s,0),none)
end
end
section
section
def Ok (n:Int) (k:Nat):Prop:=0<=n/\n < k
def Od (n:Int) (k:Nat):Prop:=n= -1\/Ok n k
structure pX (A:Tr) (N:Nat) (x:Nd):Prop where
 up:(A.rw x.list).owner < N
 list:Ok x.list A.rs.length
 place:0<=x.place
 here:(A.rw x.list).nodes[x.place.toNat]? =some (N:Int)
 self:Od x.self A.ls.length
 ini:Od x.ini A.ls.length
 cnd:Od x.cnd A.ls.length
 Ym:Od x.Ym A.ls.length
 body:Od x.body A.rs.length
 other:Od x.other A.rs.length
 hb:x.h.kind=10\/x.h.kind=11\/x.h.kind=12\/x.h.kind=16->x.body≠ -1
 hc:x.h.kind=10\/x.h.kind=12->x.cnd≠ -1
 ch: ∀ c∈x.choices,Ok c.list A.rs.length
 te: ∀ q∈x.tests,Ok q A.ls.length
 tof: ∀ q∈x.YY,Ok q x.choices.length
 tl:x.YY.length=x.tests.length
 fall:x.h.kind=20->(A.rw x.list).clause≠ -1->(A.rw x.list).clause+1 < ((A.nd (A.rw x.list).owner).choices.length:Int)
structure jF (A:Tr) (x:Rw):Prop where
 owner:Od x.owner A.ns.length
 clause:Od x.clause (A.nd x.owner).choices.length
 nodes: ∀ q∈x.nodes,Ok q A.ns.length
 len:x.nodes.length<=A.ns.length
structure gp (A:Tr) (x:Lf):Prop where
 of:Ok x.of A.ns.length
 what:1<=x.what/\x.what<=5
 five:x.what=5->Ok x.index (A.nd x.of).YY.length
 three:x.what=3->A.kd x.of=10\/A.kd x.of=11\/A.kd x.of=12\/A.kd x.of=13
 four:x.what=4->A.kd x.of=11
structure Pr (A:Tr) (N R n N' R' n':Nat):Prop where
 l: ∀ (j:Nat) x,n<=j->j < n'->A.ls[j]? =some x->gp A x
 n: ∀ (j:Nat) x,N<=j->j < N'->A.ns[j]? =some x->pX A j x
 r: ∀ (j:Nat) x,R<=j->j < R'->A.rs[j]? =some x->jF A x
theorem Pr.app {A:Tr} {N R n N1 R1 n1 N2 R2 n2:Nat} (h:Pr A N R n N1 R1 n1) (k:Pr A N1 R1 n1 N2 R2 n2):Pr A N R n N2 R2 n2:=
 ⟨fun j x h1 h2 hx=>if hj:j < n1 then h.l j x h1 hj hx else k.l j x (by omega) h2 hx,fun j x h1 h2 hx=>if hj:j < N1 then h.n j x h1 hj hx else k.n j x (by omega) h2 hx,fun j x h1 h2 hx=>if hj:j < R1 then h.r j x h1 hj hx else k.r j x (by omega) h2 hx⟩
theorem Pr.nil {A:Tr} {N R n:Nat} :Pr A N R n N R n:=⟨fun _ _ _ _ _=>by omega,fun _ _ _ _ _=>by omega,fun _ _ _ _ _=>by omega⟩
theorem Pr.cast {A:Tr} {N R n N1 R1 n1 N2 R2 n2:Nat} (h:Pr A N R n N1 R1 n1) (e1:N2=N1) (e2:R2=R1) (e3:n2=n1):Pr A N R n N2 R2 n2:=by subst e1;subst e2;subst e3;exact h
theorem Pq: ∀ t:T,∀ N R n i a p,(t.rd.l N R n i a p).ids.length<=(t.rd.l N R n i a p).ns.length/\ ∀ q∈(t.rd.l N R n i a p).ids,(N:Int)<=q/\q < ((N+(t.rd.l N R n i a p).ns.length:Nat):Int):=by
 intro t
 induction t with
 |nil=>intro N R n i a p;simp[T.rd,Out.none]
 |st h b e c tl _ _ _ ih4=>
  intro N R n i a p;simp only[T.rd,ZJ,Z4,ZO];generalize(if h.Zz=true then b.rd.l (N+1) (R+1) (n+(h.Yl N).length) (i+1) R 0 else Out.none)=ob;generalize(rowOf h.Zz (N:Int) (-1) ob)=rb;generalize(if h.ZV=true then e.rd.l (N+1+ob.ns.length) (R+rb.length+1) (n+(h.Yl N).length+ob.ls.length) (i+1+ob.it) (R+rb.length) 0 else Out.none)=oe;generalize(rowOf h.ZV (N:Int) (-1) oe)=re;generalize c.rd.c (h.kind==13) N (N+1+ob.ns.length+oe.ns.length) (R+rb.length+re.length) (n+(h.Yl N).length+ob.ls.length+oe.ls.length) (i+1+ob.it+oe.it) 0 0=oc;have:=ih4 (N+1+ob.ns.length+oe.ns.length+oc.ns.length) (R+rb.length+re.length+oc.rs.length) (n+(h.Yl N).length+ob.ls.length+oe.ls.length+oc.ls.length) (i+1+ob.it+oe.it+oc.it) a (p+1);generalize tl.rd.l (N+1+ob.ns.length+oe.ns.length+oc.ns.length) (R+rb.length+re.length+oc.rs.length) (n+(h.Yl N).length+ob.ls.length+oe.ls.length+oc.ls.length) (i+1+ob.it+oe.it+oc.it) a (p+1)=ot at*;refine⟨by have:=this.1;omega,fun q hq=>?_⟩;rcases hq with rfl|hq
  .omega
  .have:=this.2 q hq;omega
 |cl x b tl _ _=>intro N R n i a p;simp[T.rd,Out.none]
theorem IW: ∀ t:T,∀ sw N0 N R n i j k,(t.rd.c sw N0 N R n i j k).YY.length=(t.rd.c sw N0 N R n i j k).tests.length/\(∀ q∈(t.rd.c sw N0 N R n i j k).YY,(j:Int)<=q/\q < ((j+(t.rd.c sw N0 N R n i j k).Yn.length:Nat):Int))/\
  (∀ q∈(t.rd.c sw N0 N R n i j k).tests,(n:Int)<=q/\q < ((n+(t.rd.c sw N0 N R n i j k).ls.length:Nat):Int))/\(∀ q∈(t.rd.c sw N0 N R n i j k).Yn,(R:Int)<=q.list/\q.list < ((R+(t.rd.c sw N0 N R n i j k).rs.length:Nat):Int)):=by
 intro t
 induction t with
 |nil=>intro sw N0 N R n i j k;simp[T.rd]
 |st h b e c tl _ _ _ _=>intro sw N0 N R n i j k;simp[T.rd]
 |cl x b tl _ ih2=>
  intro sw N0 N R n i j k;simp only[T.rd];generalize(if sw=true then x.toNat else 0)=ts;generalize b.rd.l N (R+1) (n+ts) (i+1) R 0=ob;have:=ih2 sw N0 (N+ob.ns.length) (R+1+ob.rs.length) (n+ts+ob.ls.length) (i+1+ob.it) (j+1) (k+ts);generalize tl.rd.c sw N0 (N+ob.ns.length) (R+1+ob.rs.length) (n+ts+ob.ls.length) (i+1+ob.it) (j+1) (k+ts)=ot at*;obtain⟨h1,h2,h3,h4⟩:=this;simp only[Z4,List.length_replicate,Y8,Zf,ZJ,ZM,List.mem_replicate,Y2,List.mem_range,ZO];refine⟨by omega,fun q hq=>?_,fun q hq=>?_,fun q hq=>?_⟩
  .rcases hq with⟨_,rfl⟩ |hq
   .omega
   .have:=h2 q hq;omega
  .rcases hq with⟨u,hu,rfl⟩ |hq
   .omega
   .have:=h3 q hq;omega
  .rcases hq with rfl|hq
   .simp only;omega
   .have:=h4 q hq;omega
theorem op1 {is:Bool} {n k:Nat} (h:is=true->n < k):Od (YL is n) k:=by
 unfold YL;cases is
 .exact .inl rfl
 .exact .inr ⟨by simp,by have:=h rfl;simp;omega⟩
structure jE (A:Tr) (N a p:Nat) (ids:List Int) (t:T):Prop where
 up:(A.rw a).owner < N
 lt:a < A.rs.length
 seg:Seg (A.rw a).nodes p ids
 fall:(A.rw a).clause≠ -1->t.ft ((A.rw a).clause+1 < ((A.nd (A.rw a).owner).choices.length:Int))
theorem yq: ∀ t:T,t.Xv false-> ∀ sw N0 N R n i j k,(t.rd.c sw N0 N R n i j k).Yn.length=t.len:=by
 intro t
 induction t with
 |nil=>intro _ sw N0 N R n i j k;rfl
 |st h b e c tl _ _ _ _=>intro hs;exact absurd hs.1 (by simp)
 |cl x b tl _ ih2=>
  intro hs sw N0 N R n i j k;simp only[T.rd,ZJ,T.len];rw[ih2 hs.2.2]
theorem yn: ∀ {t:T} {P Q:Prop},(P->Q)->t.ft P->t.ft Q:=by
 intro t
 induction t with
 |nil=>intro _ _ _ _;trivial
 |st h b e c tl _ _ _ ih4=>intro P Q hPQ ⟨h1,h2⟩;exact⟨fun hk=>⟨hPQ (h1 hk).1,(h1 hk).2⟩,ih4 hPQ h2⟩
 |cl x b tl _ _=>intro _ _ _ _;trivial
theorem jD {A:Tr} : ∀ t:T,(t.Xv true->t.fA-> ∀ N R n i a p,Sub A N R n (t.rd.l N R n i a p).ls (t.rd.l N R n i a p).ns (t.rd.l N R n i a p).rs->jE A N a p (t.rd.l N R n i a p).ids t->
   Pr A N R n (N+(t.rd.l N R n i a p).ns.length) (R+(t.rd.l N R n i a p).rs.length) (n+(t.rd.l N R n i a p).ls.length))/\
  (t.Xv false->t.fA-> ∀ sw N0 N R n i j k kd,Sub A N R n (t.rd.c sw N0 N R n i j k).ls (t.rd.c sw N0 N R n i j k).ns (t.rd.c sw N0 N R n i j k).rs->t.cf kd->N0 < N->N0 < A.ns.length->A.kd N0=kd->k+(t.rd.c sw N0 N R n i j k).tests.length<=(A.nd N0).YY.length->j+t.len=(A.nd N0).choices.length->
   Pr A N R n (N+(t.rd.c sw N0 N R n i j k).ns.length) (R+(t.rd.c sw N0 N R n i j k).rs.length) (n+(t.rd.c sw N0 N R n i j k).ls.length)):=by
 intro t
 induction t with
 |nil=>exact⟨fun _ _ N R n i a p _ _=>Pr.nil,fun _ _ sw N0 N R n i j k kd _ _ _ _ _ _ _=>Pr.nil⟩
 |st h b e c tl ih1 ih2 ih3 ih4=>
  refine⟨fun hs hf N R n i a p H HR=>?_,fun hs=>absurd hs.1 (by simp)⟩;obtain⟨ob,oe,oc,ot,R2,R3,I,e1,e2,e3,e4⟩:=CF H;obtain⟨_,s1,s2,s3,s4⟩:=hs;obtain⟨f0,f1,f2,f3,f4⟩:=hf;have hNlt:=ZH I.nd;have hnd:=W8 I.nd;rw[e1]at HR;obtain⟨g1,g2⟩:=HR.seg.cons;have hrl:((T.st h b e c tl).rd.l N R n i a p).rs.length=(if h.Zz then 1+ob.rs.length else 0)+((if h.ZV then 1+oe.rs.length else 0)+(oc.rs.length+ot.rs.length)):=by
   have q1:=I.eb;have q2:=I.ee;have q3:=I.ec;have q4:=I.et;have w1:=I.jM;have w2:=I.jL;unfold vB at q1;unfold vA at q2;simp only[T.rd,Z4,V0];rw[<-q1,<-w1,<-q2,<-w2,<-q3,<-q4]
  have ym:=(Yj (h:=h) (N:=N)).1;have hLs:n+(h.Yl N).length<=A.ls.length\/(h.Yl N).length=0:=by
   rcases ZA (h.Yl N).length with h0|h0
   .exact .inr h0
   .exact .inl (I.lf.le h0)
  have yk: ∀ b:Bool,b.toNat=if b=true then 1 else 0:=fun b=>by cases b<;>rfl
  have hcl:oc.Yn.length=c.len:=by rw[I.ec];exact yq c s3 _ _ _ _ _ _ _ _
  have hto:=IW c (h.kind==13) N (N+1+ob.ns.length+oe.ns.length) R3 (n+(h.Yl N).length+ob.ls.length+oe.ls.length) (i+1+ob.it+oe.it) 0 0;rw[<-I.ec]at hto;obtain⟨t1,t2,t3,t4⟩:=hto;have hkd:A.kd (N:Int)=h.kind:=by unfold Tr.kd;rw[hnd];rfl
  have hself:pX A N (T.UM h i a p n R R2 oc):=by
   refine⟨HR.up,⟨by simp[T.UM],by have:=HR.lt;simp only[T.UM];omega⟩,by simp[T.UM],?_,op1 ?_,op1 ?_,op1 ?_,op1 ?_,op1 ?_,op1 ?_,?_,?_,?_,?_,?_,t1,?_⟩
   .simp only[T.UM,Y1];exact g1
   .intro hh;rw[yk,if_pos hh]at ym;omega
   .intro hh;rw[yk h.init,if_pos hh]at ym;omega
   .intro hh;rw[yk h.hasCond,if_pos hh]at ym;omega
   .intro hh;rw[yk h.post,if_pos hh]at ym;omega
   .intro hh;exact ZH (I.sb hh).1
   .intro hh;exact ZH (I.se hh).1
   .intro hk;have:h.Zz=true:=Yo.2 hk;simp only[T.UM,YL,this,if_true];omega
   .intro hk;have:h.hasCond=true:=by
     have hk':h.kind=10\/h.kind=12:=hk;unfold Hd.hasCond;rcases hk' with hk|hk<;>simp[hk]
    simp only[T.UM,YL,this,if_true];omega
   .intro x hx;have hx':x∈oc.Yn:=hx;have:=t4 x hx';have hr:0 < oc.rs.length:=by omega
    have:=I.sc.r.le hr;exact⟨by omega,by omega⟩
   .intro q hq;have hq':q∈oc.tests:=hq;have:=t3 q hq';have hr:0 < oc.ls.length:=by omega
    have:=I.sc.l.le hr;exact⟨by omega,by omega⟩
   .intro q hq;have:=t2 q hq;exact⟨by omega,by simp only[T.UM];omega⟩
   .intro hk hcl;exact((HR.fall hcl).1 hk).1
  have hown:Pr A N R n (N+1) R (n+(h.Yl N).length):=by
   refine⟨fun j x h1 h2 hx=>?_,fun j x h1 h2 hx=>?_,fun j x h1 h2=>by omega⟩
   .have hj:=I.lf (j -n) (by omega);rw[show n+(j -n)=j by omega,hx]at hj;have hm:x∈h.Yl N:=ZY hj.symm;have hN:Ok (N:Int) A.ns.length:=⟨by omega,by omega⟩
    have hfm:=f0.1;unfold Hd.Yl at hm;simp only[ZM]at hm;rcases hm with hm|hm|hm|hm
    .split at hm
     .simp at hm;subst hm;exact⟨hN,by simp,by simp,by simp,by simp⟩
     .simp at hm
    .split at hm
     .simp at hm;subst hm;exact⟨hN,by simp,by simp,by simp,by simp⟩
     .simp at hm
    .split at hm
     .next hc=>
      simp at hm;subst hm;refine⟨hN,by simp,by simp,fun _=>?_,by simp⟩;rw[hkd];unfold Hd.hasCond at hc;simp only[Bool.or_eq_true,beq_iff_eq]at hc;rcases hc with(hc|hc) |hc
      .have:=hfm.cnd hc;omega
      .omega
      .omega
     .simp at hm
    .split at hm
     .next hc=>
      simp at hm;subst hm;refine⟨hN,by simp,by simp,by simp,fun _=>?_⟩;rw[hkd];exact hfm.Ym hc
     .simp at hm
   .have:j=N:=by omega
    subst this;rw[I.nd]at hx;cases hx;exact hself
  have hB:Pr A (N+1) R (n+(h.Yl N).length) (N+1+ob.ns.length) R2 (n+(h.Yl N).length+ob.ls.length):=by
   by_cases hb:h.Zz=true
   .obtain⟨r1,r2⟩:=I.sb hb;have hob:ob=b.rd.l (N+1) (R+1) (n+(h.Yl N).length) (i+1) R 0:=by rw[I.eb];unfold vB;rw[if_pos hb]
    have TV:=Pq b (N+1) (R+1) (n+(h.Yl N).length) (i+1) R 0;rw[<-hob]at TV;have hrw:=WY r1;have h0:=ih1.1 s1 (f1 hb) (N+1) (R+1) (n+(h.Yl N).length) (i+1) R 0 (by rw[<-hob];exact r2) ⟨by rw[hrw];simp only;omega,ZH r1,by rw[hrw,<-hob];exact Seg.self _,fun hc=>absurd (by rw[hrw]) hc⟩;rw[<-hob]at h0;have hR2:=I.jM;rw[if_pos hb]at hR2;have hrow:Pr A (N+1) R (n+(h.Yl N).length) (N+1) (R+1) (n+(h.Yl N).length):=by
     refine⟨fun j x h1 h2=>by omega,fun j x h1 h2=>by omega,fun j x h1 h2 hx=>?_⟩;have:j=R:=by omega
     subst this;rw[r1]at hx;cases hx;have hle:N+1+ob.ns.length<=A.ns.length:=by
      rcases ZA ob.ns.length with z|z
      .omega
      .exact r2.n.le z
     exact⟨.inr ⟨by simp,by simp;omega⟩,.inl rfl,fun q hq=>by have:=TV.2 q hq;exact⟨by omega,by omega⟩,by have:=TV.1;simp;omega⟩
    exact(hrow.app h0).cast rfl (by omega) rfl
   .have hob:ob=.none:=by rw[I.eb];unfold vB;rw[if_neg hb]
    have hR2:=I.jM;rw[if_neg hb]at hR2;subst hob;exact Pr.nil.cast rfl (by omega) rfl
  have hE:Pr A (N+1+ob.ns.length) R2 (n+(h.Yl N).length+ob.ls.length) (N+1+ob.ns.length+oe.ns.length) R3 (n+(h.Yl N).length+ob.ls.length+oe.ls.length):=by
   by_cases hb:h.ZV=true
   .obtain⟨r1,r2⟩:=I.se hb;have hob:oe=e.rd.l (N+1+ob.ns.length) (R2+1) (n+(h.Yl N).length+ob.ls.length) (i+1+ob.it) R2 0:=by rw[I.ee];unfold vA;rw[if_pos hb]
    have TV:=Pq e (N+1+ob.ns.length) (R2+1) (n+(h.Yl N).length+ob.ls.length) (i+1+ob.it) R2 0;rw[<-hob]at TV;have hrw:=WY r1;have h0:=ih2.1 s2 (f2 hb) (N+1+ob.ns.length) (R2+1) (n+(h.Yl N).length+ob.ls.length) (i+1+ob.it) R2 0 (by rw[<-hob];exact r2) ⟨by rw[hrw];simp only;omega,ZH r1,by rw[hrw,<-hob];exact Seg.self _,fun hc=>absurd (by rw[hrw]) hc⟩;rw[<-hob]at h0;have hR2:=I.jL;rw[if_pos hb]at hR2;have hrow:Pr A (N+1+ob.ns.length) R2 (n+(h.Yl N).length+ob.ls.length) (N+1+ob.ns.length) (R2+1) (n+(h.Yl N).length+ob.ls.length):=by
     refine⟨fun j x h1 h2=>by omega,fun j x h1 h2=>by omega,fun j x h1 h2 hx=>?_⟩;have:j=R2:=by omega
     subst this;rw[r1]at hx;cases hx;have hle:N+1+ob.ns.length+oe.ns.length<=A.ns.length\/oe.ns.length=0:=by
      rcases ZA oe.ns.length with z|z
      .exact .inr z
      .exact .inl (r2.n.le z)
     exact⟨.inr ⟨by simp,by simp;omega⟩,.inl rfl,fun q hq=>by have:=TV.2 q hq;exact⟨by omega,by omega⟩,by have:=TV.1;simp;omega⟩
    exact(hrow.app h0).cast rfl (by omega) rfl
   .have hob:oe=.none:=by rw[I.ee];unfold vA;rw[if_neg hb]
    have hR2:=I.jL;rw[if_neg hb]at hR2;subst hob;exact Pr.nil.cast rfl (by omega) rfl
  have hC:Pr A (N+1+ob.ns.length+oe.ns.length) R3 (n+(h.Yl N).length+ob.ls.length+oe.ls.length) (N+1+ob.ns.length+oe.ns.length+oc.ns.length) (R3+oc.rs.length) (n+(h.Yl N).length+ob.ls.length+oe.ls.length+oc.ls.length):=by
   have hcf:c.cf h.kind:=by
    by_cases hk:h.kind=13\/h.kind=14\/h.kind=15
    .exact f0.2 hk
    .have:c=.nil:=f0.1.nc (by omega) (by omega) (by omega);subst this;trivial
   have hch:(A.nd (N:Int)).choices.length=c.len:=by rw[hnd];exact hcl
   have htt:(A.nd (N:Int)).YY.length=oc.tests.length:=by rw[hnd];exact t1
   have h0:=ih3.2 s3 f3 (h.kind==13) N (N+1+ob.ns.length+oe.ns.length) R3 (n+(h.Yl N).length+ob.ls.length+oe.ls.length) (i+1+ob.it+oe.it) 0 0 h.kind (by rw[<-I.ec];exact I.sc) hcf (by omega) hNlt hkd (by rw[<-I.ec];omega) (by omega);rw[<-I.ec]at h0;exact h0
  have hTl:Pr A (N+1+ob.ns.length+oe.ns.length+oc.ns.length) (R3+oc.rs.length) (n+(h.Yl N).length+ob.ls.length+oe.ls.length+oc.ls.length) (N+1+ob.ns.length+oe.ns.length+oc.ns.length+ot.ns.length) (R3+oc.rs.length+ot.rs.length) (n+(h.Yl N).length+ob.ls.length+oe.ls.length+oc.ls.length+ot.ls.length):=by
   have h0:=ih4.1 s4 f4 (N+1+ob.ns.length+oe.ns.length+oc.ns.length) (R3+oc.rs.length) (n+(h.Yl N).length+ob.ls.length+oe.ls.length+oc.ls.length) (i+1+ob.it+oe.it+oc.it) a (p+1) (by rw[<-I.et];exact I.st) ⟨by have:=HR.up;omega,HR.lt,by rw[<-I.et];exact g2,fun hc=>(HR.fall hc).2⟩;rw[<-I.et]at h0;exact h0
  have w1:=I.jM;have w2:=I.jL;exact((((hown.app hB).app hE).app hC).app hTl).cast (by rw[e4];simp only[ZJ,Z4];omega) (by rw[hrl];omega) (by rw[e3];simp only[Z4];omega)
 |cl x b tl ih1 ih2=>
  refine⟨fun hs=>absurd hs.1 (by simp),fun hs hf sw N0 N R n i j k kd H hcf hlt hN0 hkd hk hj=>?_⟩;obtain⟨ts,ob,ot,I,e1⟩:=M1 H;obtain⟨_,s1,s2⟩:=hs;obtain⟨f1,f2⟩:=hf;rw[e1]at hk;simp only[Z4,Y8,Zf]at hk;simp only[T.len]at hj;have TV:=Pq b N (R+1) (n+ts) (i+1) R 0;rw[<-I.eb]at TV;have hrw:=WY I.rw;have hT:Pr A N R n N R (n+ts):=by
   refine⟨fun u y h1 h2 hy=>?_,fun u y h1 h2=>by omega,fun u y h1 h2=>by omega⟩;have hj':=I.lf (u -n) (by simp;omega);rw[show n+(u -n)=u by omega,hy]at hj';rw[Yt,List.getElem?_range (by omega)]at hj';simp only[Y7]at hj';cases hj';exact⟨⟨by simp,by simp;omega⟩,by simp,fun _=>⟨by simp only;omega,by simp only;omega⟩,by simp,by simp⟩
  have hRow:Pr A N R (n+ts) N (R+1) (n+ts):=by
   refine⟨fun u y h1 h2=>by omega,fun u y h1 h2=>by omega,fun u y h1 h2 hy=>?_⟩;have:u=R:=by omega
   subst this;rw[I.rw]at hy;cases hy;have hle:N+ob.ns.length<=A.ns.length\/ob.ns.length=0:=by
    rcases ZA ob.ns.length with z|z
    .exact .inr z
    .exact .inl (I.sb.n.le z)
   exact⟨.inr ⟨by simp,by simp;omega⟩,.inr ⟨by simp,by simp only;omega⟩,fun q hq=>by have:=TV.2 q hq;exact⟨by omega,by omega⟩,by have:=TV.1;simp;omega⟩
  have hB:=ih1.1 s1 f1 N (R+1) (n+ts) (i+1) R 0 (by rw[<-I.eb];exact I.sb) ⟨by rw[hrw];simp only;omega,ZH I.rw,by rw[hrw,<-I.eb];exact Seg.self _,fun _=>by
   refine yn (fun⟨_,hn⟩=>?_) hcf.2.2.1;rw[hrw];have:0 < tl.len:=by
    cases tl with
    |nil=>exact absurd rfl hn
    |st=>simp[T.len]
    |cl=>simp[T.len]
   simp only;omega⟩
  rw[<-I.eb]at hB;have hTl:=ih2.2 s2 f2 sw N0 (N+ob.ns.length) (R+1+ob.rs.length) (n+ts+ob.ls.length) (i+1+ob.it) (j+1) (k+ts) kd (by rw[<-I.et];exact I.st) hcf.2.2.2 (by omega) hN0 hkd (by rw[<-I.et];omega) (by omega);rw[<-I.et]at hTl;rw[e1];exact(((hT.app hRow).app hB).app hTl).cast (by simp only[Z4];omega) (by simp only[Z4,ZJ];omega) (by simp only[Z4,Y8,Zf];omega)
end
section
structure Wf (A:Tr):Prop where
 l: ∀ (j:Nat) x,A.ls[j]? =some x->gp A x
 n: ∀ (j:Nat) x,A.ns[j]? =some x->pX A j x
 r: ∀ (j:Nat) x,A.rs[j]? =some x->jF A x
 tg: ∀ (j:Nat) x,A.ns[j]? =some x->x.h.kind=17\/x.h.kind=18\/x.h.kind=19\/x.h.kind=20->Ok (A.tgt j) A.ns.length
 loop: ∀ (j:Nat) x,A.ns[j]? =some x->x.h.kind=18->A.kd (A.tgt j)=11\/A.kd (A.tgt j)=12
 fall: ∀ (j:Nat) x,A.ns[j]? =some x->x.h.kind=20->A.tgt j=(A.rw x.list).owner/\(A.rw x.list).clause≠ -1
 one:0 < A.rs.length
theorem Ok.cast {n:Int} {k:Nat} (h:Ok n k): ∃ m:Nat,n=m/\m < k:=⟨n.toNat,by have:=h.1;omega,by have:=h.2;have:=h.1;omega⟩
theorem Wf.nd {A:Tr} (W:Wf A) {n:Int} (h:Ok n A.ns.length):pX A n.toNat (A.nd n):=by
 obtain⟨m,rfl,hm⟩:=h.cast;have hx:=Z9 hm;have:=W.n m _ hx;rw[W8 hx];simpa using this
theorem Wf.rw {A:Tr} (W:Wf A) {n:Int} (h:Ok n A.rs.length):jF A (A.rw n):=by
 obtain⟨m,rfl,hm⟩:=h.cast;have hx:=Z9 hm;rw[WY hx];exact W.r m _ hx
theorem Wf.lf {A:Tr} (W:Wf A) {n:Int} (h:Ok n A.ls.length):gp A (A.lf n):=by
 obtain⟨m,rfl,hm⟩:=h.cast;have hx:=Z9 hm;rw[Gw hx];exact W.l m _ hx
theorem yj {A:Tr} {k:Int} {s:ByteArray} (hl: ∀ n,Ok n A.ns.length->Ok (A.nd n).list A.rs.length) (ho: ∀ n,Ok n A.rs.length->Od (A.rw n).owner A.ns.length): ∀ (f:Nat) (o:Int),Od o A.ns.length->A.WT k s f o≠ -1->Ok (A.WT k s f o) A.ns.length/\aims k s (A.nd (A.WT k s f o)).h=true:=by
 intro f
 induction f with
 |zero=>intro o _ h;exact absurd rfl h
 |succ f ih=>
  intro o hO h;unfold Tr.WT at h ⊢;split at h
  .exact absurd rfl h
  .next h1=>
   rw[if_neg h1];have hk:Ok o A.ns.length:=hO.elim (fun e=>absurd e h1) id;split at h
   .next h2=>
    rw[if_pos h2];exact⟨hk,h2⟩
   .next h2=>
    rw[if_neg h2];exact ih _ (ho _ (hl _ hk)) h
theorem Gv {A:Tr} {s:ByteArray} (h:A.Wo s≠ -1):Ok (A.Wo s) A.ns.length:=by
 obtain⟨i,x,h1,_,h3⟩:=RY h;rw[h3];have:=ZH h1;exact⟨by omega,by omega⟩
structure gm (A:Tr):Prop where
 around: ∀ (N:Nat) x,A.ns[N]? =some x->x.h.kind=17\/x.h.kind=18->A.tgt N=A.WT x.h.kind x.h.target (A.ns.length+1) (A.rw x.list).owner
 jump: ∀ (N:Nat) x,A.ns[N]? =some x->x.h.kind=19->A.tgt N=A.Wo x.h.target
 fall: ∀ (N:Nat) x,A.ns[N]? =some x->x.h.kind=20->A.tgt N=(A.rw x.list).owner
structure E6 (A:Tr):Prop where
 l: ∀ (j:Nat) x,A.ls[j]? =some x->gp A x
 n: ∀ (j:Nat) x,A.ns[j]? =some x->pX A j x
 r: ∀ (j:Nat) x,A.rs[j]? =some x->jF A x
 one:0 < A.rs.length
theorem CB {t:T} {tg:List Int} (hs:t.Xv true) (hf:t.fA):E6 (t.tr tg):=by
 have hr0:(t.tr tg).rs[0]? =some ⟨-1,-1,(t.rd.l 0 1 0 0 0 0).ids⟩:=rfl;have hrw:=WY (A:=t.tr tg) hr0;have hrs:(t.tr tg).rs.length=1+(t.rd.l 0 1 0 0 0 0).rs.length:=by show(_::_:List Rw).length=_;simp;omega
 have h0:=(jD (A:=t.tr tg) t).1 hs hf 0 1 0 0 0 0 ⟨Seg.self _,Seg.self _,fun j hj=>by
  show(_::_:List Rw)[1+j]? =_;rw[Zv,List.getElem?_cons_succ]⟩ ⟨by rw[hrw];simp,by omega,by rw[hrw];exact Seg.self _,fun hc=>absurd (by rw[hrw]) hc⟩
 have TV:=Pq t 0 1 0 0 0 0;have hn: ∀ (j:Nat) x,(t.tr tg).ns[j]? =some x->pX (t.tr tg) j x:=fun j x hx=>h0.n j x (by omega) (by have:j < (t.rd.l 0 1 0 0 0 0).ns.length:=ZH hx;omega) hx;have hr: ∀ (j:Nat) x,(t.tr tg).rs[j]? =some x->jF (t.tr tg) x:=by
  intro j x hx;cases j with
  |zero=>
   rw[hr0]at hx;cases hx;refine⟨.inl rfl,.inl rfl,fun q hq=>?_,?_⟩
   .have:=TV.2 q hq;exact⟨by omega,by have:(t.tr tg).ns.length=(t.rd.l 0 1 0 0 0 0).ns.length:=rfl;omega⟩
   .exact TV.1
  |succ j=>exact h0.r (j+1) x (by omega) (by have:=ZH hx;omega) hx
 exact⟨fun j x hx=>h0.l j x (by omega) (by have:j < (t.rd.l 0 1 0 0 0 0).ls.length:=ZH hx;omega) hx,hn,hr,by omega⟩
theorem E6.list {A:Tr} (W:E6 A) {n:Int} (hk:Ok n A.ns.length):Ok (A.nd n).list A.rs.length:=by
 obtain⟨m,rfl,hm⟩:=hk.cast;have hx:=Z9 hm;rw[W8 hx];exact(W.n m _ hx).list
theorem E6.owner {A:Tr} (W:E6 A) {n:Int} (hk:Ok n A.rs.length):Od (A.rw n).owner A.ns.length:=by
 obtain⟨m,rfl,hm⟩:=hk.cast;have hx:=Z9 hm;rw[WY hx];exact(W.r m _ hx).owner
theorem E6.up {A:Tr} (W:E6 A) {n:Int} (hk:Ok n A.ns.length):(A.rw (A.nd n).list).owner < n:=by
 obtain⟨m,rfl,hm⟩:=hk.cast;have hx:=Z9 hm;rw[W8 hx];exact(W.n m _ hx).up
theorem jC {A:Tr} (W:E6 A) (H:Wn A) (TG:gm A):Wf A:=by
 have har: ∀ (j:Nat) x,A.ns[j]? =some x->x.h.kind=17\/x.h.kind=18->Ok (A.tgt j) A.ns.length/\aims x.h.kind x.h.target (A.nd (A.tgt j)).h=true:=by
  intro j x hx hk;rw[TG.around j x hx hk];exact yj (fun _=>W.list) (fun _=>W.owner) _ _ (W.owner (W.n j x hx).list) (H.around j x hx hk)
 refine⟨W.l,W.n,W.r,fun j x hx hk=>?_,fun j x hx hk=>?_,fun j x hx hk=>⟨TG.fall j x hx hk,(H.fall j x hx hk).1⟩,W.one⟩
 .rcases hk with hk|hk|hk|hk
  .exact(har j x hx (.inl hk)).1
  .exact(har j x hx (.inr hk)).1
  .rw[TG.jump j x hx hk];exact Gv (H.jump j x hx hk)
  .rw[TG.fall j x hx hk];exact(W.owner (W.n j x hx).list).elim (fun e=>absurd e (H.fall j x hx hk).2) id
 .have h2:=(har j x hx (.inr hk)).2;unfold aims at h2;simp only[decide_eq_true_eq]at h2;unfold Tr.kd;omega
theorem Od.ok {n:Int} {k:Nat} (h:Od n k) (hn:n≠ -1):Ok n k:=h.elim (fun e=>absurd e hn) id
end
end
section
def Tr.yi (A:Tr):List Nd:=A.ns.mapIdx fun i x=> { x with target:=A.tgt i }
structure Wi (w:World) (lo p:Nat) (A:Tr) (num:Int) (rt:Bool) (lv nv rv:Value) (NR RR:List (List Value)):Prop where
 t:TM w lo p A.ls NR RR num rt lv nv rv
 n:YZ (Xt w lo none) A.yi NR
 r:YZ (W7 w lo none) A.rs RR
 b:A.ls.length<=90000/\A.ns.length<=90000/\A.rs.length<=90000
theorem YZ.get {α:Type} {P:α->List Value->Prop} : ∀ {xs:List α} {rs:List (List Value)},YZ P xs rs-> ∀ {i:Nat} {x:α},xs[i]? =some x-> ∃ r,rs[i]? =some r/\P x r:=by
 intro xs rs h
 induction h with
 |nil=>intro i x hx;simp at hx
 |cons h1 _ ih=>
  intro i x hx;cases i with
  |zero=>simp at hx;subst hx;exact⟨_,by simp,h1⟩
  |succ i=>simp at hx;obtain⟨r,h2,h3⟩:=ih hx;exact⟨r,by simpa using h2,h3⟩
theorem Pp {A:Tr} :A.yi.length=A.ns.length:=by simp[Tr.yi]
theorem Ri {A:Tr} {m:Nat} (hm:m < A.ns.length):A.yi[m]? =some { A.nd m with target:=A.tgt m } :=by
 unfold Tr.yi;rw[List.getElem?_mapIdx,Z9 hm,W8 (Z9 hm)];rfl
structure rJ (w:World) (lo g m:Nat) (x:Nd) (vb ve vc cv tv ov:Value):Prop where
 cell: ∀ (j:Nat) (u:Value),(ZQ x vb ve vc cv tv ov)[j]? =some u->w.cell? ⟨g,m*24+j,none⟩=some u
 vb: ∃ a n c,vb=.slice a n c
 ve: ∃ a n c,ve=.slice a n c
 vc: ∃ a n c,vc=.slice a n c
 cv:w.ownsRow lo 110 3 cv x.choices.length (x.choices.map V1.cells).flatten
 tv:w.ownsRow lo 3 1 tv x.tests.length (x.tests.map (Value.int .i64))
 ov:w.ownsRow lo 3 1 ov x.YY.length (x.YY.map (Value.int .i64))
structure RwM (w:World) (lo g m:Nat) (x:Rw) (iv:Value):Prop where
 cell: ∀ (j:Nat) (u:Value),([.int .i64 x.owner,.int .i64 x.clause,iv]:List Value)[j]? =some u->w.cell? ⟨g,m*3+j,none⟩=some u
 iv:w.ownsRow lo 3 1 iv x.nodes.length (x.nodes.map (Value.int .i64))
section
variable {w w':World} {lo p:Nat} {A:Tr} {num:Int} {rt:Bool} {lv nv rv:Value} {NR RR:List (List Value)}
theorem Wi.Nt (M:Wi w lo p A num rt lv nv rv NR RR):NR.length=A.ns.length:=by rw[<-M.n.len,Pp]
theorem Wi.rlen (M:Wi w lo p A num rt lv nv rv NR RR):RR.length=A.rs.length:=M.r.len.symm
theorem Wi.low (M:Wi w lo p A num rt lv nv rv NR RR) (h:Below w.heap.size w w'):Wi w' lo p A num rt lv nv rv NR RR:=by
 have hB:lo<=w.heap.size:=by have:=M.t.hB;have:=M.t.blk.lt;omega
 have hF:Fr [] lo w w':=Fr.of_below h hB;exact⟨M.t.fr hF (by decide),M.n.mono fun _ _ k=>k.fr hF (by simp) (by simp) (Z7 _),M.r.mono fun _ _ k=>k.fr hF (by simp) (Z7 _),M.b⟩
theorem XM {base e size n:Nat} {v:Value} {xs:List Value} (h:w.ownsRow base e size v n xs) (hn:0 < n): ∃ g cap,v=.slice (some ⟨g,0,none⟩) n cap:=by
 rcases h.2 with⟨_,h0⟩ |⟨g,cap,cur,hv,_⟩
 .omega
 .exact⟨g,cap,hv⟩
theorem Wi.Kd (M:Wi w lo p A num rt lv nv rv NR RR) (hn:0 < A.ns.length): ∃ g cap,nv=.slice (some ⟨g,0,none⟩) A.ns.length cap:=by
 rw[<-M.Nt];exact XM M.t.n (by rw[M.Nt];exact hn)
theorem Wi.yh (M:Wi w lo p A num rt lv nv rv NR RR) (hn:0 < A.rs.length): ∃ g cap,rv=.slice (some ⟨g,0,none⟩) A.rs.length cap:=by
 rw[<-M.rlen];exact XM M.t.r (by rw[M.rlen];exact hn)
theorem Wi.nvs (M:Wi w lo p A num rt lv nv rv NR RR): ∃ a cap,nv=.slice a A.ns.length cap:=by
 obtain⟨a,c,h⟩:=ZR M.t.n;exact⟨a,c,by rw[h,M.Nt]⟩
theorem Wi.Ns (M:Wi w lo p A num rt lv nv rv NR RR): ∃ a cap,lv=.slice a A.ls.length cap:=ZR M.t.l
theorem Wi.nd {g cap:Nat} (M:Wi w lo p A num rt lv (.slice (some ⟨g,0,none⟩) A.ns.length cap) rv NR RR) {m:Nat} (hm:m < A.ns.length): ∃ vb ve vc cv tv ov,rJ w lo g m { A.nd m with target:=A.tgt m } vb ve vc cv tv ov:=by
 obtain⟨r,h1,vb,ve,vc,cv,tv,ov,rfl,h2,h3,h4,h5,h6,h7⟩:=M.n.get (Ri hm);have hl:=ZH h1;have hn:NR.length=A.ns.length:=M.Nt;have ht:=M.t.n;refine⟨vb,ve,vc,cv,tv,ov,fun j u hu=>?_,h2,h3,h4,h5,h6.1,h7.1⟩;have hj:j < 24:=by have:=ZH hu;simpa [ZQ]using this
 rw[show A.ns.length=NR.length from hn.symm]at ht;rw[ZF ht (m*24+j) (by omega),flat_get (n:=24) M.t.nl h1 hj];exact hu
theorem Wi.rw {g cap:Nat} (M:Wi w lo p A num rt lv nv (.slice (some ⟨g,0,none⟩) A.rs.length cap) NR RR) {m:Nat} (hm:m < A.rs.length): ∃ iv,RwM w lo g m (A.rw m) iv:=by
 have hx:=Z9 hm;obtain⟨r,h1,iv,rfl,h2⟩:=M.r.get hx;rw[WY hx];have hl:=ZH h1;have ht:=M.t.r;have hn:RR.length=A.rs.length:=M.rlen;refine⟨iv,fun j u hu=>?_,h2.1⟩;have hj:j < 3:=by have:=ZH hu;simpa using this
 rw[show A.rs.length=RR.length from hn.symm]at ht;rw[ZF ht (m*3+j) (by omega),flat_get (n:=3) M.t.rl h1 hj];exact hu
theorem Rh {α:Type} {f:α->List Value} {n:Nat} {l:List α} (hf: ∀ x,(f x).length=n) {i j:Nat} {x:α} (hx:l[i]? =some x) (hj:j < n):(l.map f).flatten[i*n+j]? =(f x)[j]? :=by
 refine flat_get (n:=n) (fun r hr=>?_) (by rw[Yt,hx];rfl) hj;obtain⟨y,_,rfl⟩:=Y2.1 hr;exact hf y
theorem Wi.lf {g cap:Nat} (M:Wi w lo p A num rt (.slice (some ⟨g,0,none⟩) A.ls.length cap) nv rv NR RR) {m:Nat} (hm:m < A.ls.length): ∀ (j:Nat) u,(A.lf m).cells[j]? =some u->w.cell? ⟨g,m*3+j,none⟩=some u:=by
 have hx:=Z9 hm;intro j u hu;have hj:j < 3:=by have:=ZH hu;simpa [Lf.cells]using this
 rw[Gw hx]at hu;rw[ZF M.t.l (m*3+j) (by omega),Rh (n:=3) (fun _=>rfl) hx hj];exact hu
end
end
section
theorem YZ.rI {α:Type} {P:α->List Value->Prop} : ∀ {xs:List α} {rs:List (List Value)},xs.length=rs.length->(∀ (i:Nat) x r,xs[i]? =some x->rs[i]? =some r->P x r)->YZ P xs rs:=by
 intro xs
 induction xs with
 |nil=>intro rs h _;cases rs with|nil=>exact .nil|cons _ _=>simp at h
 |cons x xs ih=>
  intro rs h k;cases rs with
  |nil=>simp at h
  |cons r rs=>exact .cons (k 0 x r rfl rfl) (ih (by simpa using h) fun i y q h1 h2=>k (i+1) y q (by simpa using h1) (by simpa using h2))
theorem YZ.both {α:Type} {P:α->List Value->Prop} {xs:List α} {rs:List (List Value)} (h:YZ P xs rs) {i:Nat} {x:α} {r:List Value} (h1:xs[i]? =some x) (h2:rs[i]? =some r):P x r:=by
 obtain⟨r',h3,h4⟩:=h.get h1;rw[h2]at h3;cases h3;exact h4
section
variable {w w':World} {lo p:Nat} {A:Tr} {num:Int} {rt:Bool} {lv nv rv:Value} {NR RR:List (List Value)}
theorem Wi.set {g cap:Nat} (M:Wi w lo p A num rt lv (.slice (some ⟨g,0,none⟩) A.ns.length cap) rv NR RR) {k:Nat} (hk:k < A.ns.length) (v:Int) (tg:List Int)
  (h1: ∀ i:Nat,i≠k->({ A with tg:=tg } :Tr).tgt i=A.tgt i) (h2:({ A with tg:=tg } :Tr).tgt k=v):
  (∃ WF,Wi (w.setCell ⟨g,k*24+23,none⟩ (.int .i64 v)) lo p { A with tg:=tg } num rt lv (.slice (some ⟨g,0,none⟩) A.ns.length cap) rv WF RR)/\Fr [79] lo w (w.setCell ⟨g,k*24+23,none⟩ (.int .i64 v)):=by
 obtain⟨r,hr,hnd⟩:=M.n.get (Ri hk);have hn:NR.length=A.ns.length:=M.Nt;have ht:=M.t.n;have hlt:=(ht.lt g rfl)
 have hty:=Zg ht (g:=g) rfl;have hF:Fr [79] lo w (w.setCell ⟨g,k*24+23,none⟩ (.int .i64 v)):=(Fr.refl [79] lo w).X9 _ _ hty (by simp) hlt.1;refine⟨⟨NR.set k (r.set 23 (.int .i64 v)),⟨⟨M.t.hB,M.t.blk.fr hF (by decide),ZE hF M.t.l (by decide),?_,ZE hF M.t.r (by decide),?_,M.t.rl⟩,?_,?_,M.b⟩⟩,hF⟩
 .have h0:=ht;rw[<-hn]at h0;have h3:=(h0.stored (k*24+23) (.int .i64 v)).1;rw[KR (n:=24) M.t.nl hr (by omega)]at h3;rw[List.length_set,<-hn];exact h3
 .intro q hq;rcases List.mem_or_eq_of_mem_set hq with h|h
  .exact M.t.nl q h
  .rw[h,List.length_set];exact M.t.nl r (ZY hr)
 .refine YZ.rI (by rw[Pp,List.length_set,hn]) fun i x q hx hq=>?_;have hi:i < A.ns.length:=by have:=ZH hx;rw[Pp]at this;exact this
  rw[Ri (A:= { A with tg:=tg }) hi]at hx;cases hx;by_cases e:i=k
  .subst e;rw[YQ (by omega)]at hq;cases hq;obtain⟨vb,ve,vc,cv,tv,ov,rfl,k1,k2,k3,k4,k5,k6⟩:=hnd.fr hF (by simp) (by simp) (Z7 _);refine⟨vb,ve,vc,cv,tv,ov,?_,k1,k2,k3,k4,k5,k6⟩;rw[h2];rfl
  .rw[YM (fun e'=>e e'.symm)]at hq;rw[h1 i e];exact(M.n.both (Ri hi) hq).fr hF (by simp) (by simp) (Z7 _)
 .exact M.r.mono fun _ _ k=>k.fr hF (by simp) (Z7 _)
theorem Tv {A:Tr} {tg:List Int} {v:Int} {k:Nat} (hk:tg.length=k):(∀ i:Nat,i≠k->({ A with tg:=tg++ [v] } :Tr).tgt i=({ A with tg:=tg } :Tr).tgt i)/\({ A with tg:=tg++ [v] } :Tr).tgt k=v:=by
 subst hk;constructor
 .intro i hi;simp only[Tr.tgt,Y1,Zy];by_cases h:i < tg.length
  .rw[ZP h]
  .rw[Y6 (l:=tg) (by omega),Y6 (by simp;omega)]
 .simp[Tr.tgt]
theorem Tq {A:Tr} {k:Nat} (hk:A.tg.length<=k):A.tgt k= -1:=by
 simp[Tr.tgt,Y6 hk]
end
end
section
theorem WX {P:Program} {ops:Array Oper} {rest:List Oper} {op:Oper} {a:Act} {w:World} {Q:Exit->Act->World->Prop} (hgd:op.guard=none) (ty:TypeId) (x:Operand) (ho:op.op=.load ty x)
  {g o:Nat} (hx:a.eval x=.pointer (some ⟨g,o,none⟩)) (cs:List Value) (hc: ∀ (j:Nat) u,cs[j]? =some u->w.cell? ⟨g,o+j,none⟩=some u) (d:TypeDesc) (hu:P.underlying ty=some d) (hd:d.isRow=true) (hi:(P.info? ty).map (·.size)=some cs.length)
  (h:wpList P ops Q rest (a.put op.dst (.agg cs.toArray)) w):wpList P ops Q (op::rest) a w:=
 wpList_load_mid hgd ty x ho g o hx cs d (fun j v hj=>hc j v hj) hu hd hi h
theorem XU {P:Program} {ops:Array Oper} {rest:List Oper} {op:Oper} {a:Act} {w:World} {Q:Exit->Act->World->Prop} (hgd:op.guard=none) (ty:TypeId) (ho:op.op=.alloc ty) (zs:List Value)
  (hr:(Instr.alloc ty true (.tuple #[])).run P w=.ok (.pointer (some ⟨w.heap.size,0,none⟩)) (w.alloc (.cells zs.toArray ty)))
  (h: ∀ w',ZD w' w.heap.size zs ty->Below w.heap.size w w'->wpList P ops Q rest (a.put op.dst (.pointer (some ⟨w.heap.size,0,none⟩))) w'):wpList P ops Q (op::rest) a w:=by
 refine wpList_plain hgd fun K hK=>?_;unfold Oper.wp execOp;simp only[ho];have h2:=h _ (ZD.new w zs ty) ((ZN _ _).alloc (Z7 _) _);simp[hr,Oper.upon,Sem.run_bind,Sem.run_pure,Result.andThen_ok];exact hK _ _ h2
theorem XT {P:Program} {ops:Array Oper} {rest:List Oper} {op:Oper} {a:Act} {w:World} {Q:Exit->Act->World->Prop} (hgd:op.guard=none) (ty:TypeId) (x y:Operand) (ho:op.op=.store ty x y)
  {b:Nat} {cs:List Value} {t:TypeId} (hx:a.eval x=.pointer (some ⟨b,0,none⟩)) (hb:ZD w b cs t) (ys:List Value) (hy:a.eval y=.agg ys.toArray) (hl:ys.length=cs.length) (hi:(P.info? ty).map (·.size)=some ys.length) (h1: ∀ v∈ys,v.oneCell'=true)
  (h: ∀ w',ZD w' b ys t->Below b w w'->wpList P ops Q rest (a.put op.dst undef) w'):wpList P ops Q (op::rest) a w:=by
 have hs:=hb.Xm (ys:=ys) (o:=0);rw[show Xm cs 0 ys=ys from KQ (pre:= []) hl.symm]at hs;refine wpList_store_mid hgd ty x y ho b 0 ys.toArray hx hy (by simpa [hl]using hb.there) (by simpa using hi) (all_oneCell_toArray h1) ?_;exact h _ hs ((Fr.refl [t] b _).Xm (by simp) (Z7 _) hb.ty).below
end
end Go.Proofs.YteedbaejpdjilaaGreat
