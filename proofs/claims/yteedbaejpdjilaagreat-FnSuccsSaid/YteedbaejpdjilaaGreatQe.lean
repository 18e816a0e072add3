/- Part of the proof: SpX WfX TreA TreF TreL. -/
import Derived.Test.YteedbaejpdjilaaGreatPx
import Derived.Test.YteedbaejpdjilaaGreatPs
set_option linter.unusedSimpArgs false
set_option linter.unusedVariables false
set_option maxRecDepth 100000
set_option maxHeartbeats 40000000
namespace Go.Proofs.YteedbaejpdjilaaGreat
open Go.RowKit
section
section
structure Tr where
 ls:List Lf
 ns:List Nd
 rs:List Rw
 tg:List Int
def nd0:Nd:=⟨⟨0,⟨#[]⟩,⟨#[]⟩,false,false,false,false,false⟩,0,0,0,0,0,0,0,0,0,[],[],[],0⟩
def Tr.nd (A:Tr) (i:Int):Nd:=A.ns.getD i.toNat nd0
def Tr.rw (A:Tr) (i:Int):Rw:=A.rs.getD i.toNat ⟨-1,-1,[]⟩
def Tr.lf (A:Tr) (i:Int):Lf:=A.ls.getD i.toNat ⟨0,0,0⟩
def Seg {α:Type} (l:List α) (k:Nat) (s:List α):Prop:= ∀ j,j < s.length->l[k+j]? =s[j]?
theorem Seg.app {α:Type} {l:List α} {k:Nat} {s u:List α} (h:Seg l k (s++u)):Seg l k s∧Seg l (k+s.length) u:=by
 constructor
 ·intro j hj;rw[h j (by simp;omega),List.getElem?_append_left hj]
 ·intro j hj;have:=h (s.length+j) (by simp;omega);rw[Nat.add_assoc,this,List.getElem?_append_right (by omega)];congr 1;omega
theorem Seg.cons {α:Type} {l:List α} {k:Nat} {x:α} {s:List α} (h:Seg l k (x::s)):l[k]? =some x∧Seg l (k+1) s:=by
 constructor
 ·have:=h 0 (by simp);simpa using this
 ·intro j hj;have:=h (j+1) (by simp;omega);rw[show k+1+j=k+(j+1)by omega,this];simp
theorem Seg.self {α:Type} (l:List α):Seg l 0 l:=fun j _=>by rw[Nat.zero_add]
theorem Seg.le {α:Type} {l:List α} {k:Nat} {s:List α} (h:Seg l k s) (hk:0 < s.length):k+s.length<=l.length:=by
 have:=h (s.length -1) (by omega);rw[List.getElem?_eq_getElem (l:=s) (by omega)]at this;have:=get_lt this;omega
structure Sub (A:Tr) (N R n:Nat) (ls:List Lf) (ns:List Nd) (rs:List Rw):Prop where
 l:Seg A.ls n ls
 n:Seg A.ns N ns
 r:Seg A.rs R rs
theorem nd_at {A:Tr} {N:Nat} {x:Nd} (h:A.ns[N]? =some x):A.nd N=x:=by
 unfold Tr.nd;rw[Int.toNat_natCast,List.getD_eq_getElem?_getD,h];rfl
theorem rw_at {A:Tr} {N:Nat} {x:Rw} (h:A.rs[N]? =some x):A.rw N=x:=by
 unfold Tr.rw;rw[Int.toNat_natCast,List.getD_eq_getElem?_getD,h];rfl
theorem lf_at {A:Tr} {N:Nat} {x:Lf} (h:A.ls[N]? =some x):A.lf N=x:=by
 unfold Tr.lf;rw[Int.toNat_natCast,List.getD_eq_getElem?_getD,h];rfl
def T.ndOf (h:Hd) (i:Nat) (a p:Nat) (n R R2:Nat) (oc:OutC):Nd:=
 ⟨h,i,a,p,optI h.isLeaf n,optI h.init (n+h.isLeaf.toNat),optI h.hasCond (n+h.isLeaf.toNat+h.init.toNat),optI h.post (n+h.isLeaf.toNat+h.init.toNat+h.hasCond.toNat),optI h.hasBody R,optI h.hasElse R2,oc.chs,oc.tests,oc.testOf,-1⟩
def rdB (h:Hd) (b:T) (N R n i:Nat):Out:=if h.hasBody then b.rd.l (N+1) (R+1) (n+(h.lfs N).length) (i+1) R 0 else .none
def rdE (h:Hd) (e:T) (N2 R2 n2 i2:Nat):Out:=if h.hasElse then e.rd.l N2 (R2+1) n2 i2 R2 0 else .none
structure StIn (A:Tr) (h:Hd) (b e c tl:T) (N R n i a p:Nat) (ob oe:Out) (oc:OutC) (ot:Out) (R2 R3:Nat):Prop where
 eb:ob=rdB h b N R n i
 eR2:R2=R+(if h.hasBody then 1+ob.rs.length else 0)
 ee:oe=rdE h e (N+1+ob.ns.length) R2 (n+(h.lfs N).length+ob.ls.length) (i+1+ob.it)
 eR3:R3=R2+(if h.hasElse then 1+oe.rs.length else 0)
 ec:oc=c.rd.c (h.kind==13) N (N+1+ob.ns.length+oe.ns.length) R3 (n+(h.lfs N).length+ob.ls.length+oe.ls.length) (i+1+ob.it+oe.it) 0 0
 et:ot=tl.rd.l (N+1+ob.ns.length+oe.ns.length+oc.ns.length) (R3+oc.rs.length) (n+(h.lfs N).length+ob.ls.length+oe.ls.length+oc.ls.length) (i+1+ob.it+oe.it+oc.it) a (p+1)
 nd:A.ns[N]? =some (T.ndOf h i a p n R R2 oc)
 lf:Seg A.ls n (h.lfs N)
 sb:h.hasBody=true->A.rs[R]? =some ⟨N,-1,ob.ids⟩∧Sub A (N+1) (R+1) (n+(h.lfs N).length) ob.ls ob.ns ob.rs
 se:h.hasElse=true->A.rs[R2]? =some ⟨N,-1,oe.ids⟩∧Sub A (N+1+ob.ns.length) (R2+1) (n+(h.lfs N).length+ob.ls.length) oe.ls oe.ns oe.rs
 sc:Sub A (N+1+ob.ns.length+oe.ns.length) R3 (n+(h.lfs N).length+ob.ls.length+oe.ls.length) oc.ls oc.ns oc.rs
 st:Sub A (N+1+ob.ns.length+oe.ns.length+oc.ns.length) (R3+oc.rs.length) (n+(h.lfs N).length+ob.ls.length+oe.ls.length+oc.ls.length) ot.ls ot.ns ot.rs
theorem st_in {A:Tr} {h:Hd} {b e c tl:T} {N R n i a p:Nat} (H:Sub A N R n ((T.st h b e c tl).rd.l N R n i a p).ls ((T.st h b e c tl).rd.l N R n i a p).ns ((T.st h b e c tl).rd.l N R n i a p).rs):
  ∃ ob oe oc ot R2 R3,StIn A h b e c tl N R n i a p ob oe oc ot R2 R3∧((T.st h b e c tl).rd.l N R n i a p).ids=(N:Int)::ot.ids∧((T.st h b e c tl).rd.l N R n i a p).it=1+ob.it+oe.it+oc.it+ot.it∧
   ((T.st h b e c tl).rd.l N R n i a p).ls=h.lfs N++(ob.ls++(oe.ls++(oc.ls++ot.ls)))∧((T.st h b e c tl).rd.l N R n i a p).ns=T.ndOf h i a p n R R2 oc::(ob.ns++(oe.ns++(oc.ns++ot.ns))):=by
 obtain⟨H1,H2,H3⟩:=H;simp only[T.rd]at H1 H2 H3 ⊢;simp only[rowOf_len]at H1 H2 H3 ⊢;obtain⟨ob,hob⟩: ∃ ob,ob=(if h.hasBody=true then b.rd.l (N+1) (R+1) (n+(h.lfs N).length) (i+1) R 0 else Out.none):=⟨_,rfl⟩
 rw[<-hob]at H1 H2 H3 ⊢;obtain⟨R2,hR2⟩: ∃ R2:Nat,R2=R+(if h.hasBody=true then 1+ob.rs.length else 0):=⟨_,rfl⟩
 rw[<-hR2]at H1 H2 H3 ⊢;obtain⟨oe,hoe⟩: ∃ oe,oe=(if h.hasElse=true then e.rd.l (N+1+ob.ns.length) (R2+1) (n+(h.lfs N).length+ob.ls.length) (i+1+ob.it) R2 0 else Out.none):=⟨_,rfl⟩
 rw[<-hoe]at H1 H2 H3 ⊢;obtain⟨R3,hR3⟩: ∃ R3:Nat,R3=R2+(if h.hasElse=true then 1+oe.rs.length else 0):=⟨_,rfl⟩
 rw[<-hR3]at H1 H2 H3 ⊢;obtain⟨oc,hoc⟩: ∃ oc,oc=c.rd.c (h.kind==13) N (N+1+ob.ns.length+oe.ns.length) R3 (n+(h.lfs N).length+ob.ls.length+oe.ls.length) (i+1+ob.it+oe.it) 0 0:=⟨_,rfl⟩
 rw[<-hoc]at H1 H2 H3 ⊢;obtain⟨ot,hot⟩: ∃ ot,ot=tl.rd.l (N+1+ob.ns.length+oe.ns.length+oc.ns.length) (R3+oc.rs.length) (n+(h.lfs N).length+ob.ls.length+oe.ls.length+oc.ls.length) (i+1+ob.it+oe.it+oc.it) a (p+1):=⟨_,rfl⟩
 rw[<-hot]at H1 H2 H3 ⊢;obtain⟨a1,H1⟩:=H1.app;obtain⟨a2,H1⟩:=H1.app;obtain⟨a3,H1⟩:=H1.app;obtain⟨a4,a5⟩:=H1.app;obtain⟨b1,H2⟩:=H2.cons;obtain⟨b2,H2⟩:=H2.app;obtain⟨b3,H2⟩:=H2.app;obtain⟨b4,b5⟩:=H2.app;obtain⟨c2,H3⟩:=H3.app;obtain⟨c3,H3⟩:=H3.app;obtain⟨c4,c5⟩:=H3.app;simp only[rowOf_len]at c3 c4 c5;rw[<-hR2]at c3 c4 c5;rw[<-hR3]at c4 c5;refine⟨ob,oe,oc,ot,R2,R3,⟨hob,hR2,hoe,hR3,hoc,hot,b1,a1,fun hb=>?_,fun he=>?_,⟨a4,b4,c4⟩,⟨a5,b5,c5⟩⟩,rfl,rfl,rfl,rfl⟩
 ·unfold rowOf at c2;rw[if_pos hb]at c2;obtain⟨c6,c7⟩:=c2.cons;exact⟨c6,a2,b2,c7⟩
 ·unfold rowOf at c3;rw[if_pos he]at c3;obtain⟨c6,c7⟩:=c3.cons;exact⟨c6,a3,b3,c7⟩
structure ClIn (A:Tr) (x:Int) (b tl:T) (sw:Bool) (N0 N R n i j k:Nat) (ts:Nat) (ob:Out) (ot:OutC):Prop where
 ets:ts=if sw then x.toNat else 0
 eb:ob=b.rd.l N (R+1) (n+ts) (i+1) R 0
 et:ot=tl.rd.c sw N0 (N+ob.ns.length) (R+1+ob.rs.length) (n+ts+ob.ls.length) (i+1+ob.it) (j+1) (k+ts)
 lf:Seg A.ls n ((List.range ts).map (fun q=>(⟨N0,5,(k+q:Nat)⟩:Lf)))
 rw:A.rs[R]? =some ⟨N0,j,ob.ids⟩
 sb:Sub A N (R+1) (n+ts) ob.ls ob.ns ob.rs
 st:Sub A (N+ob.ns.length) (R+1+ob.rs.length) (n+ts+ob.ls.length) ot.ls ot.ns ot.rs
theorem cl_in {A:Tr} {x:Int} {b tl:T} {sw:Bool} {N0 N R n i j k:Nat} (H:Sub A N R n ((T.cl x b tl).rd.c sw N0 N R n i j k).ls ((T.cl x b tl).rd.c sw N0 N R n i j k).ns ((T.cl x b tl).rd.c sw N0 N R n i j k).rs):
  ∃ ts ob ot,ClIn A x b tl sw N0 N R n i j k ts ob ot∧(T.cl x b tl).rd.c sw N0 N R n i j k=
   ⟨(List.range ts).map (fun q=>⟨N0,5,(k+q:Nat)⟩)++(ob.ls++ot.ls),ob.ns++ot.ns,⟨N0,j,ob.ids⟩::(ob.rs++ot.rs),⟨i,R,decide (x=0)⟩::ot.chs,(List.range ts).map (fun q=>((n+q:Nat):Int))++ot.tests,List.replicate ts (j:Int)++ot.testOf,1+ob.it+ot.it⟩:=by
 obtain⟨H1,H2,H3⟩:=H;simp only[T.rd]at H1 H2 H3 ⊢;obtain⟨ts,hts⟩: ∃ ts:Nat,ts=(if sw=true then x.toNat else 0):=⟨_,rfl⟩
 rw[<-hts]at H1 H2 H3 ⊢;obtain⟨ob,hob⟩: ∃ ob,ob=b.rd.l N (R+1) (n+ts) (i+1) R 0:=⟨_,rfl⟩
 rw[<-hob]at H1 H2 H3 ⊢;obtain⟨ot,hot⟩: ∃ ot,ot=tl.rd.c sw N0 (N+ob.ns.length) (R+1+ob.rs.length) (n+ts+ob.ls.length) (i+1+ob.it) (j+1) (k+ts):=⟨_,rfl⟩
 rw[<-hot]at H1 H2 H3 ⊢;obtain⟨a1,H1⟩:=H1.app;obtain⟨a2,a3⟩:=H1.app;obtain⟨b2,b3⟩:=H2.app;obtain⟨c1,H3⟩:=H3.cons;obtain⟨c2,c3⟩:=H3.app;simp only[List.length_map,List.length_range]at a2 a3;exact⟨ts,ob,ot,⟨hts,hob,hot,a1,c1,⟨a2,b2,c2⟩,⟨a3,b3,c3⟩⟩,rfl⟩
def Chn (A:Tr):Int->List Nat->Prop
 |a,[]=>(A.rw a).owner= -1
 |a,o::os=>(A.rw a).owner=o∧Chn A (A.nd o).list os
def aims (k:Int) (s:ByteArray) (h:Hd):Bool:=decide ((h.kind=11∨h.kind=12∨(k=17∧(h.kind=13∨h.kind=14∨h.kind=15)))∧(s.size=0∨s=h.label))
def Tr.arnd (A:Tr) (k:Int) (s:ByteArray):Nat->Int->Int
 |0,_=> -1
 |f+1,o=>if o= -1 then -1 else if aims k s (A.nd o).h then o else A.arnd k s f (A.rw (A.nd o).list).owner
theorem arnd_eq {A:Tr} {k:Int} {s:ByteArray} : ∀ (os:List Nat) (f:Nat) (a:Int),Chn A a os->os.length < f->A.arnd k s f (A.rw a).owner=match os.find? (fun o:Nat=>aims k s (A.nd o).h)with|some o=>(o:Int) |none=> -1:=by
 intro os
 induction os with
 |nil=>
  intro f a h hf;obtain⟨f,rfl⟩: ∃ g,f=g+1:=⟨f -1,by simp at hf;omega⟩
  have h':(A.rw a).owner= -1:=h;rw[h'];simp[Tr.arnd]
 |cons o os ih=>
  intro f a h hf;obtain⟨h1,h2⟩:=h;obtain⟨f,rfl⟩: ∃ g,f=g+1:=⟨f -1,by simp at hf;omega⟩
  rw[h1];unfold Tr.arnd;rw[if_neg (by omega),List.find?_cons];cases hb:aims k s (A.nd o).h
  ·simp only[Bool.false_eq_true,if_false];exact ih f _ h2 (by simp at hf;omega)
  ·simp
def Tr.labd (A:Tr) (s:ByteArray):Int:=match A.ns.findIdx? (fun x=>decide (x.h.label.data=s.data))with
 |some i=>(i:Int)
 |none=> -1
structure RightA (A:Tr):Prop where
 named: ∀ (i:Nat) x,A.ns[i]? =some x->0 < x.h.label.size->A.labd x.h.label=i
 around: ∀ (i:Nat) x,A.ns[i]? =some x->x.h.kind=17∨x.h.kind=18->A.arnd x.h.kind x.h.target (A.ns.length+1) (A.rw x.list).owner≠ -1
 jump: ∀ (i:Nat) x,A.ns[i]? =some x->x.h.kind=19->A.labd x.h.target≠ -1
 fall: ∀ (i:Nat) x,A.ns[i]? =some x->x.h.kind=20->(A.rw x.list).clause≠ -1∧(A.rw x.list).owner≠ -1
def T.tr (t:T) (tg:List Int):Tr:=⟨(t.rd.l 0 1 0 0 0 0).ls,(t.rd.l 0 1 0 0 0 0).ns,⟨-1,-1,(t.rd.l 0 1 0 0 0 0).ids⟩::(t.rd.l 0 1 0 0 0 0).rs,tg⟩
end
section
theorem hasBody_iff {h:Hd} :h.hasBody=true↔h.kind=10∨h.kind=11∨h.kind=12∨h.kind=16:=by
 unfold Hd.hasBody;simp only[Bool.or_eq_true,beq_iff_eq];constructor<;>intro h<;>omega
theorem FmC.noBody {h:Hd} {b e c:T} (H:FmC h b e c) (hb:h.hasBody≠true):b=.nil:=by
 rw[Ne,hasBody_iff]at hb;exact H.1.nb (by omega) (by omega) (by omega) (by omega)
theorem FmC.noElse {h:Hd} {b e c:T} (H:FmC h b e c) (hb:h.hasElse≠true):e=.nil:=H.1.ne (by simpa using hb)
theorem T.nil_rd {N R n i a p:Nat} :T.nil.rd.l N R n i a p=.none:=rfl
theorem rdB_eq {h:Hd} {b e c:T} (H:FmC h b e c) {N R n i:Nat} :rdB h b N R n i=b.rd.l (N+1) (R+1) (n+(h.lfs N).length) (i+1) R 0:=by
 unfold rdB;split
 ·rfl
 ·next hb=>rw[H.noBody hb];rfl
theorem rdE_eq {h:Hd} {b e c:T} (H:FmC h b e c) {N R n i:Nat} :rdE h e N R n i=e.rd.l N (R+1) n i R 0:=by
 unfold rdE;split
 ·rfl
 ·next hb=>rw[H.noElse hb];rfl
theorem isnil_of {t:T} (h:t.isNil=false):t≠ .nil:=fun e=>by subst e;simp[T.isNil]at h
theorem labels_rd: ∀ t:T,(t.srt true->t.fA-> ∀ N R n i a p,((t.rd.l N R n i a p).ns.map fun x=>x.h.label).filter (fun s=>decide (0 < s.size))=t.labels)∧
  (t.srt false->t.fA-> ∀ sw N0 N R n i j k,((t.rd.c sw N0 N R n i j k).ns.map fun x=>x.h.label).filter (fun s=>decide (0 < s.size))=t.labels):=by
 intro t
 induction t with
 |nil=>exact⟨fun _ _ _ _ _ _ _ _=>rfl,fun _ _ _ _ _ _ _ _ _ _=>rfl⟩
 |st h b e c tl ih1 ih2 ih3 ih4=>
  refine⟨fun⟨_,s1,s2,s3,s4⟩ ⟨f0,f1,f2,f3,f4⟩ N R n i a p=>?_,fun hs=>absurd hs.1 (by simp)⟩;have h1: ∀ N R n i a p,(((if h.hasBody=true then b.rd.l N R n i a p else .none):Out).ns.map fun x=>x.h.label).filter (fun s=>decide (0 < s.size))=b.labels:=by
   intro N R n i a p;split
   ·next hb=>exact ih1.1 s1 (f1 hb) N R n i a p
   ·next hb=>rw[f0.noBody hb];rfl
  have h2: ∀ N R n i a p,(((if h.hasElse=true then e.rd.l N R n i a p else .none):Out).ns.map fun x=>x.h.label).filter (fun s=>decide (0 < s.size))=e.labels:=by
   intro N R n i a p;split
   ·next hb=>exact ih2.1 s2 (f2 hb) N R n i a p
   ·next hb=>rw[f0.noElse hb];rfl
  simp only[T.rd,List.map_cons,List.map_append,List.filter_cons,List.filter_append,h1,h2,ih3.2 s3 f3,ih4.1 s4 f4,T.labels];by_cases hz:h.label.size=0
  ·simp[hz]
  ·have:0 < h.label.size:=by omega
   simp[hz,this]
 |cl x b tl ih1 ih2=>
  refine⟨fun hs=>absurd hs.1 (by simp),fun⟨_,s1,s2⟩ ⟨f1,f2⟩ sw N0 N R n i j k=>?_⟩;simp only[T.rd,List.map_append,List.filter_append,ih1.1 s1 f1,ih2.2 s2 f2,T.labels]
theorem labd_found {A:Tr} {s:ByteArray} (h:A.labd s≠ -1): ∃ (i:Nat) (x:Nd),A.ns[i]? =some x∧x.h.label=s∧A.labd s=i:=by
 unfold Tr.labd at h ⊢;cases hf:A.ns.findIdx? (fun x=>decide (x.h.label.data=s.data))with
 |none=>rw[hf]at h;simp at h
 |some i=>
  rw[List.findIdx?_eq_some_iff_getElem]at hf;obtain⟨h1,h2,_⟩:=hf;exact⟨i,A.ns[i],List.getElem?_eq_getElem h1,ba_ext (by simpa using h2),rfl⟩
theorem labels_nodup {A:Tr} (H:RightA A):((A.ns.map fun x=>x.h.label).filter (fun s=>decide (0 < s.size))).Nodup:=by
 rw[List.Nodup,List.pairwise_filter,List.pairwise_iff_getElem];intro i j hi hj hij h1 h2 e;simp only[List.length_map]at hi hj;simp only[List.getElem_map]at h1 h2 e;have g1:=H.named i A.ns[i] (List.getElem?_eq_getElem hi) (by simpa using h1);have g2:=H.named j A.ns[j] (List.getElem?_eq_getElem hj) (by simpa using h2);rw[<-e,g1]at g2;omega
theorem labels_mem {A:Tr} {s:ByteArray} (hs:0 < s.size) (h:A.labd s≠ -1):s∈((A.ns.map fun x=>x.h.label).filter (fun s=>decide (0 < s.size))):=by
 obtain⟨i,x,h1,h2,_⟩:=labd_found h;rw[List.mem_filter,List.mem_map];exact⟨⟨x,List.mem_of_getElem? h1,h2⟩,by simpa using hs⟩
def Tr.frames (A:Tr) (os:List Nat):List SF:=os.flatMap fun o:Nat=>(A.nd o).h.frame
theorem aims_frame {A:Tr} {k:Int} {s:ByteArray} {os:List Nat} {o:Nat} (ho:o∈os) (h:aims k s (A.nd o).h=true): ∃ f∈A.frames os,(k=17∨f.loop=true)∧(s.size=0∨f.lab=s):=by
 unfold aims at h;rw[decide_eq_true_eq]at h;obtain⟨h1,h2⟩:=h;have key: ∃ f∈(A.nd o).h.frame,(k=17∨f.loop=true)∧f.lab=(A.nd o).h.label:=by
  unfold Hd.frame;by_cases h3:(A.nd o).h.kind=11∨(A.nd o).h.kind=12
  ·rw[if_pos h3];exact⟨_,List.mem_singleton.2 rfl,.inr rfl,rfl⟩
  ·rw[if_neg h3,if_pos (by omega)];exact⟨_,List.mem_singleton.2 rfl,.inl (by omega),rfl⟩
 obtain⟨f,f1,f2,f3⟩:=key;refine⟨f,List.mem_flatMap.2 ⟨o,ho,f1⟩,f2,h2.imp id fun h=>by rw[f3,h]⟩
theorem brs_rd {A:Tr} (H:RightA A) {ls:List ByteArray} (hls: ∀ s,0 < s.size->A.labd s≠ -1->s∈ls): ∀ t:T,
  (t.srt true->t.fA-> ∀ N R n i a p os (fl:Bool),Sub A N R n (t.rd.l N R n i a p).ls (t.rd.l N R n i a p).ns (t.rd.l N R n i a p).rs->Chn A (a:Nat) os->os.length<=N->((A.rw (a:Nat)).clause≠ -1->t.ft (fl=true))->t.brs ls (A.frames os) fl)∧
  (t.srt false->t.fA-> ∀ sw (N0 N R n i j k:Nat) os,Sub A N R n (t.rd.c sw N0 N R n i j k).ls (t.rd.c sw N0 N R n i j k).ns (t.rd.c sw N0 N R n i j k).rs->(A.nd N0).h.frame++A.frames os=A.frames (N0::os)->Chn A (A.nd N0).list os->os.length+1<=N->t.cf (A.nd N0).h.kind->sw=((A.nd N0).h.kind==13)->t.brs ls (A.frames (N0::os)) sw):=by
 intro t
 induction t with
 |nil=>exact⟨fun _ _ _ _ _ _ _ _ _ _ _ _ _ _=>trivial,fun _ _ _ _ _ _ _ _ _ _ _ _ _ _ _ _ _=>trivial⟩
 |st h b e c tl ih1 ih2 ih3 ih4=>
  refine⟨fun⟨_,s1,s2,s3,s4⟩ ⟨f0,f1,f2,f3,f4⟩ N R n i a p os fl hsub hch hos hft=>?_,fun hs=>absurd hs.1 (by simp)⟩;obtain⟨ob,oe,oc,ot,R2,R3,I,_,_,_,hns⟩:=st_in hsub;have hNd:=nd_at I.nd;have hNl:N < A.ns.length:=get_lt I.nd;have hh:(A.nd N).h=h:=by rw[hNd];rfl
  have hlist:(A.nd N).list=a:=by rw[hNd];rfl
  have hfr:A.frames (N::os)=h.frame++A.frames os:=by simp[Tr.frames,hh]
  have hchN:Chn A (A.nd N).list os:=by rw[hlist];exact hch
  refine⟨fun hk=>?_,fun hk=>?_,fun hk=>?_,fun hk=>?_,?_,?_,?_,?_⟩
  ·have h1:=H.around N _ I.nd (.inl hk);rw[show(T.ndOf h i a p n R R2 oc).list=a from rfl,show(T.ndOf h i a p n R R2 oc).h=h from rfl,arnd_eq os _ _ hch (by omega)]at h1;split at h1
   ·next o ho=>
    obtain⟨f,g1,_,g3⟩:=aims_frame (List.mem_of_find?_eq_some ho) (by simpa using List.find?_some ho);exact⟨f,g1,g3⟩
   ·exact absurd rfl h1
  ·have h1:=H.around N _ I.nd (.inr hk);rw[show(T.ndOf h i a p n R R2 oc).list=a from rfl,show(T.ndOf h i a p n R R2 oc).h=h from rfl,arnd_eq os _ _ hch (by omega)]at h1;split at h1
   ·next o ho=>
    obtain⟨f,g1,g2,g3⟩:=aims_frame (List.mem_of_find?_eq_some ho) (by simpa using List.find?_some ho);exact⟨f,g1,g2.resolve_left (by omega),g3⟩
   ·exact absurd rfl h1
  ·exact hls _ (f0.1.gt hk) (H.jump N _ I.nd hk)
  ·have h1:=(H.fall N _ I.nd hk).1;exact(hft h1).1 hk
  ·rw[<-hfr];by_cases hb:h.hasBody=true
   ·obtain⟨r1,r2⟩:=I.sb hb;have hrw:=rw_at r1;rw[I.eb,rdB_eq f0]at r2;refine ih1.1 s1 (f1 hb) _ _ _ _ R 0 (N::os) false r2 ⟨by rw[hrw],hchN⟩ (by simp;omega) (fun hc=>absurd (by rw[hrw]) hc)
   ·rw[f0.noBody hb];trivial
  ·rw[<-hfr];by_cases hb:h.hasElse=true
   ·obtain⟨r1,r2⟩:=I.se hb;have hrw:=rw_at r1;rw[I.ee,rdE_eq f0]at r2;exact ih2.1 s2 (f2 hb) _ _ _ _ R2 0 (N::os) false r2 ⟨by rw[hrw],hchN⟩ (by simp;omega) (fun hc=>absurd (by rw[hrw]) hc)
   ·rw[f0.noElse hb];trivial
  ·rw[<-hfr];have r2:=I.sc;rw[I.ec]at r2;by_cases hk:h.kind=13∨h.kind=14∨h.kind=15
   ·refine ih3.2 s3 f3 (h.kind==13) N _ _ _ _ 0 0 os r2 (by simp[Tr.frames]) hchN (by omega) (by rw[hh];exact f0.2 hk) (by rw[hh])
   ·rw[f0.1.nc (by omega) (by omega) (by omega)];trivial
  ·have r2:=I.st;rw[I.et]at r2;exact ih4.1 s4 f4 _ _ _ _ a (p+1) os fl r2 hch (by omega) (fun hc=>(hft hc).2)
 |cl x b tl ih1 ih2=>
  refine⟨fun hs=>absurd hs.1 (by simp),fun⟨_,s1,s2⟩ ⟨f1,f2⟩ sw N0 N R n i j k os hsub hfr hch hos hcf hsw=>?_⟩;obtain⟨ts,ob,ot,I,_⟩:=cl_in hsub;have hrw:=rw_at I.rw;obtain⟨_,_,c1,c2⟩:=hcf;refine⟨?_,?_⟩
  ·have r2:=I.sb;rw[I.eb]at r2;refine ih1.1 s1 f1 _ _ _ _ R 0 (N0::os) (sw&&!tl.isNil) r2 ⟨by rw[hrw],hch⟩ (by simp;omega) (fun _=>?_);have hiff:((sw&&!tl.isNil)=true)↔((A.nd N0).h.kind=13∧tl≠ .nil):=by
    rw[hsw];cases tl<;>simp[T.isNil]
   have:((sw&&!tl.isNil)=true)=((A.nd N0).h.kind=13∧tl≠ .nil):=propext hiff;rw[this];exact c1
  ·have r2:=I.st;rw[I.et]at r2;exact ih2.2 s2 f2 sw N0 _ _ _ _ _ _ os r2 hfr hch (by omega) c2 hsw
end
section
def T.fm:T->Prop
 | .nil=>True
 | .st h b e c tl=>Fm h b e c∧b.fm∧e.fm∧c.fm∧tl.fm
 | .cl _ b tl=>b.fm∧tl.fm
theorem fm_of: ∀ {t:T},t.fA->t.fm:=by
 intro t
 induction t with
 |nil=>intro _;trivial
 |st h b e c tl ih1 ih2 ih3 ih4=>
  intro⟨f0,f1,f2,f3,f4⟩;refine⟨f0.1,?_,?_,ih3 f3,ih4 f4⟩
  ·by_cases hb:h.hasBody=true
   ·exact ih1 (f1 hb)
   ·rw[f0.noBody hb];trivial
  ·by_cases hb:h.hasElse=true
   ·exact ih2 (f2 hb)
   ·rw[f0.noElse hb];trivial
 |cl x b tl ih1 ih2=>intro⟨f1,f2⟩;exact⟨ih1 f1,ih2 f2⟩
def T.nng:T->Prop
 | .nil=>True
 | .st _ b e c tl=>b.nng∧e.nng∧c.nng∧tl.nng
 | .cl x b tl=>0<=x∧b.nng∧tl.nng
theorem nng_of: ∀ t:T,(t.fA->t.srt true->t.nng)∧(t.fA->t.srt false-> ∀ k,t.cf k->t.nng):=by
 intro t
 induction t with
 |nil=>exact⟨fun _ _=>trivial,fun _ _ _ _=>trivial⟩
 |st h b e c tl ih1 ih2 ih3 ih4=>
  refine⟨fun⟨f0,f1,f2,f3,f4⟩ ⟨_,s1,s2,s3,s4⟩=>?_,fun _ hs=>absurd hs.1 (by simp)⟩;refine⟨?_,?_,?_,ih4.1 f4 s4⟩
  ·by_cases hb:h.hasBody=true
   ·exact ih1.1 (f1 hb) s1
   ·rw[f0.noBody hb];trivial
  ·by_cases hb:h.hasElse=true
   ·exact ih2.1 (f2 hb) s2
   ·rw[f0.noElse hb];trivial
  ·by_cases hk:h.kind=13∨h.kind=14∨h.kind=15
   ·exact ih3.2 f3 s3 _ (f0.2 hk)
   ·rw[f0.1.nc (by omega) (by omega) (by omega)];trivial
 |cl x b tl ih1 ih2=>
  refine⟨fun _ hs=>absurd hs.1 (by simp),fun⟨f1,f2⟩ ⟨_,s1,s2⟩ k hc=>?_⟩;exact⟨hc.1,ih1.1 f1 s1,ih2.2 f2 s2 k hc.2.2.2⟩
theorem wgl_wt: ∀ t:T,t.nng-> ∀ n,t.wgl n<=300->t.wgl n=n+t.wt:=by
 intro t
 induction t with
 |nil=>intro _ n _;simp[T.wgl,T.wt]
 |st h b e c tl ih1 ih2 ih3 ih4=>
  intro⟨h1,h2,h3,h4⟩ n hn;simp only[T.wgl]at hn ⊢;split at hn
  ·omega
  ·next hc=>
   rw[if_neg hc];have g4:=ih4 h4 (c.wgl (n+1+b.wgl 0+e.wgl 0)) hn;have g3:=ih3 h3 (n+1+b.wgl 0+e.wgl 0) (by omega);have g1:=ih1 h1 0 (by omega);have g2:=ih2 h2 0 (by omega);simp only[T.wt];omega
 |cl x b tl ih1 ih2=>
  intro⟨hx,h1,h2⟩ n hn;simp only[T.wgl]at hn ⊢;have g2:=ih2 h2 _ hn;have g1:=ih1 h1 0 (by omega);simp only[T.wt];omega
theorem ok_of: ∀ {t:T},t.fm->t.nng->t.wt<=300->t.ok:=by
 intro t
 induction t with
 |nil=>intro _ _ _;trivial
 |st h b e c tl ih1 ih2 ih3 ih4=>
  intro⟨f0,f1,f2,f3,f4⟩ ⟨g1,g2,g3,g4⟩ hw;simp only[T.wt]at hw;exact⟨f0,ih1 f1 g1 (by omega),ih2 f2 g2 (by omega),ih3 f3 g3 (by omega),ih4 f4 g4 (by omega)⟩
 |cl x b tl ih1 ih2=>
  intro⟨f1,f2⟩ ⟨hx,g1,g2⟩ hw;simp only[T.wt]at hw;exact⟨hx,by omega,ih1 f1 g1 (by omega),ih2 f2 g2 (by omega)⟩
theorem own_le {h:Hd} :h.own<=4:=by
 unfold Hd.own;have h0: ∀ b:Bool,b.toNat<=1:=fun b=>by cases b<;>simp
 have h1:=h0 (decide (1<=h.kind∧h.kind<=9));have h2:=h0 h.init;have h3:=h0 (h.cond||h.kind==10||h.kind==12);have h4:=h0 h.post;omega
theorem lv_le: ∀ (t:T) (sw:Bool),t.lv sw<=4*t.wt:=by
 intro t
 induction t with
 |nil=>intro sw;simp[T.lv,T.wt]
 |st h b e c tl ih1 ih2 ih3 ih4=>
  intro sw;have h1:=ih1 false;have h2:=ih2 false;have h3:=ih3 (h.kind==13);have h4:=ih4 false;have h5:=own_le (h:=h);simp only[T.lv,T.wt];omega
 |cl x b tl ih1 ih2=>
  intro sw;have h1:=ih1 false;have h2:=ih2 sw;simp only[T.lv,T.wt];split<;>omega
theorem it_le: ∀ t:T,t.it<=t.wt:=by
 intro t
 induction t with
 |nil=>simp[T.it,T.wt]
 |st h b e c tl ih1 ih2 ih3 ih4=>simp only[T.it,T.wt];omega
 |cl x b tl ih1 ih2=>simp only[T.it,T.wt];omega
theorem rt_of {t:T} {tg:List Int} (hs:t.srt true) (hf:t.fA) (hw:t.wgl 0<=300) (H:RightA (t.tr tg)):Rt t∧t.wt<=300:=by
 have hn:=(nng_of t).1 hf hs;have hwt:=wgl_wt t hn 0 hw;have hlab:=(labels_rd t).1 hs hf 0 1 0 0 0 0;have hb:=(brs_rd H (ls:=t.labels) (fun s h1 h2=>by rw[<-hlab];exact labels_mem h1 h2) t).1 hs hf 0 1 0 0 0 0 [] false ⟨Seg.self _,Seg.self _,fun j hj=>by
  show(_::_:List Rw)[1+j]? =_;rw[Nat.add_comm,List.getElem?_cons_succ]⟩ rfl (by simp) (fun hc=>absurd rfl hc)
 have h1:=lv_le t false;have h2:=it_le t;refine⟨⟨hs,ok_of (fm_of hf) hn (by omega),hb,?_,?_,by omega,by omega,by omega⟩,by omega⟩
 ·rw[<-hlab];exact labels_nodup H
 ·intro s hm;rw[<-hlab,List.mem_filter]at hm;simpa using hm.2
theorem ct_fm: ∀ t:T,(t.srt true-> ∀ d L,(t.ct.l d L).1.fm->(t.ct.l d L).1=t)∧(t.srt false-> ∀ d L c,(t.ct.c d L).1=some c->c.fm->c=t):=by
 intro t
 induction t with
 |nil=>exact⟨fun _ d L _=>rfl,fun _ d L c h _=>by simp[T.ct]at h;exact h.symm⟩
 |st h b e c tl ih1 ih2 ih3 ih4=>
  refine⟨fun⟨_,s1,s2,s3,s4⟩ d L=>?_,fun hs=>absurd hs.1 (by simp)⟩;simp only[T.ct];have hz: ¬ T.zero.fm:=fun hc=>by have:=hc.1.k.1;simp[Hd.zero]at this
  split
  ·intro hc;exact absurd hc hz
  ·split
   ·intro hc;exact absurd hc hz
   ·next c' hc'=>
    intro⟨f0,f1,f2,f3,f4⟩;have e1:=ih1.1 s1 _ _ f1;have e2:=ih2.1 s2 _ _ f2;have e3:=ih3.2 s3 _ _ c' hc' f3;have e4:=ih4.1 s4 _ _ f4;simp only[e1,e2,e3,e4]
 |cl x b tl ih1 ih2=>
  refine⟨fun hs=>absurd hs.1 (by simp),fun⟨_,s1,s2⟩ d L c=>?_⟩;simp only[T.ct];split
  ·intro h;simp at h
  ·intro h;simp only[Option.map_eq_some_iff]at h;obtain⟨tl',h1,rfl⟩:=h;intro⟨f1,f2⟩;rw[ih1.1 s1 _ _ f1,ih2.2 s2 _ _ tl' h1 f2]
end
section
abbrev Sy (α:Type):=α->List α × Option Int
inductive Rch {α:Type} (σ:Sy α):Nat->α->Int->Prop
 |leaf {p:α} {x:Int} :(σ p).2=some x->Rch σ 0 p x
 |step {p q:α} {x:Int} {n:Nat} :q∈(σ p).1->Rch σ n q x->Rch σ (n+1) p x
inductive Ob {α β:Type} (σ:Sy α) (γ:Sy β) (R:α->β->Prop):Bool->Bool->List α->β->Prop
 |leaf {fs fg:Bool} {p:α} {q:β} {x:Int} :σ p=([],some x)->γ q=([],some x)->Ob σ γ R fs fg [p] q
 |sp {fs fg:Bool} {p:α} {P:List α} {q:β} :σ p=(P,none)->Ob σ γ R true fg P q->Ob σ γ R fs fg [p] q
 |one {fs fg:Bool} {P:List α} {q q':β} :γ q=([q'],none)->Ob σ γ R fs true P q'->Ob σ γ R fs fg P q
 |two {fs fg:Bool} {P P1 P2:List α} {q q1 q2:β} :γ q=([q1,q2],none)->(∀ p,p∈P↔p∈P1∨p∈P2)->Ob σ γ R fs true P1 q1->Ob σ γ R fs true P2 q2->Ob σ γ R fs fg P q
 |dead {fs fg:Bool} {q:β} :γ q=([],none)->Ob σ γ R fs fg [] q
 |rel {p:α} {q:β} :R p q->Ob σ γ R true true [p] q
 |eqv {fs fg:Bool} {P P':List α} {q:β} :(∀ p,p∈P↔p∈P')->Ob σ γ R fs fg P' q->Ob σ γ R fs fg P q
section
variable {α β:Type} {σ:Sy α} {γ:Sy β} {R R':α->β->Prop}
theorem Ob.mono (hR: ∀ p q,R p q->R' p q) {fs fg:Bool} {P:List α} {q:β} (h:Ob σ γ R fs fg P q): ∀ {fs' fg':Bool},(fs=true->fs'=true)->(fg=true->fg'=true)->Ob σ γ R' fs' fg' P q:=by
 induction h with
 |leaf h1 h2=>intro _ _ _ _;exact .leaf h1 h2
 |sp h1 _ ih=>intro _ _ _ hg;exact .sp h1 (ih id hg)
 |one h1 _ ih=>intro _ _ hs _;exact .one h1 (ih hs id)
 |two h1 h2 _ _ ih1 ih2=>intro _ _ hs _;exact .two h1 h2 (ih1 hs id) (ih2 hs id)
 |dead h1=>intro _ _ _ _;exact .dead h1
 |rel h1=>intro fs' fg' hs hg;rw[hs rfl,hg rfl];exact .rel (hR _ _ h1)
 |eqv h1 _ ih=>intro _ _ hs hg;exact .eqv h1 (ih hs hg)
theorem Ob.any {fs fg:Bool} {P:List α} {q:β} (h:Ob σ γ R false false P q):Ob σ γ R fs fg P q:=h.mono (fun _ _ h=>h) (by simp) (by simp)
theorem Ob.fwd (hR: ∀ p q,R p q->Ob σ γ R false false [p] q): ∀ (N:Nat) {fs fg:Bool} {P:List α} {q:β},Ob σ γ R fs fg P q-> ∀ m p x,p∈P->Rch σ m p x->m+fs.toNat<=N-> ∃ k,Rch γ k q x:=by
 intro N
 induction N with
 |zero=>
  intro fs fg P q h
  induction h with
  |leaf h1 h2=>
   intro m p x hp hr _;simp at hp;subst hp;cases hr with
   |leaf h3=>rw[h1]at h3;cases h3;exact⟨0,.leaf (by rw[h2])⟩
   |step h3 _=>rw[h1]at h3;simp at h3
  |sp h1 _ ih=>
   intro m p x hp hr hm;simp at hp;subst hp;cases hr with
   |leaf h3=>rw[h1]at h3;cases h3
   |step h3 h4=>omega
  |one h1 _ ih=>
   intro m p x hp hr hm;obtain⟨k,hk⟩:=ih m p x hp hr hm;exact⟨k+1,.step (by rw[h1];simp) hk⟩
  |two h1 h2 _ _ ih1 ih2=>
   intro m p x hp hr hm;rcases(h2 p).1 hp with hp|hp
   ·obtain⟨k,hk⟩:=ih1 m p x hp hr hm;exact⟨k+1,.step (by rw[h1];simp) hk⟩
   ·obtain⟨k,hk⟩:=ih2 m p x hp hr hm;exact⟨k+1,.step (by rw[h1];simp) hk⟩
  |dead _=>intro m p x hp;simp at hp
  |rel _=>intro m p x _ _ hm;simp at hm
  |eqv h1 _ ih=>intro m p x hp hr hm;exact ih m p x ((h1 p).1 hp) hr hm
 |succ N IH=>
  intro fs fg P q h
  induction h with
  |leaf h1 h2=>
   intro m p x hp hr _;simp at hp;subst hp;cases hr with
   |leaf h3=>rw[h1]at h3;cases h3;exact⟨0,.leaf (by rw[h2])⟩
   |step h3 _=>rw[h1]at h3;simp at h3
  |sp h1 _ ih=>
   intro m p x hp hr hm;simp at hp;subst hp;cases hr with
   |leaf h3=>rw[h1]at h3;cases h3
   |step h3 h4=>
    rw[h1]at h3;exact ih _ _ x h3 h4 (by simp;omega)
  |one h1 _ ih=>
   intro m p x hp hr hm;obtain⟨k,hk⟩:=ih m p x hp hr hm;exact⟨k+1,.step (by rw[h1];simp) hk⟩
  |two h1 h2 _ _ ih1 ih2=>
   intro m p x hp hr hm;rcases(h2 p).1 hp with hp|hp
   ·obtain⟨k,hk⟩:=ih1 m p x hp hr hm;exact⟨k+1,.step (by rw[h1];simp) hk⟩
   ·obtain⟨k,hk⟩:=ih2 m p x hp hr hm;exact⟨k+1,.step (by rw[h1];simp) hk⟩
  |dead _=>intro m p x hp;simp at hp
  |rel h1=>
   intro m p x hp hr hm;simp at hp hm;subst hp;exact IH (hR _ _ h1) m _ x (by simp) hr (by simp;omega)
  |eqv h1 _ ih=>intro m p x hp hr hm;exact ih m p x ((h1 p).1 hp) hr hm
theorem Ob.bwd (hR: ∀ p q,R p q->Ob σ γ R false false [p] q): ∀ (N:Nat) {fs fg:Bool} {P:List α} {q:β},Ob σ γ R fs fg P q-> ∀ k x,Rch γ k q x->k+fg.toNat<=N-> ∃ p∈P,∃ m,Rch σ m p x:=by
 intro N
 induction N with
 |zero=>
  intro fs fg P q h
  induction h with
  |leaf h1 h2=>
   intro k x hr _;cases hr with
   |leaf h3=>rw[h2]at h3;cases h3;exact⟨_,List.mem_singleton.2 rfl,0,.leaf (by rw[h1])⟩
   |step h3 _=>rw[h2]at h3;simp at h3
  |sp h1 _ ih=>
   intro k x hr hk;obtain⟨p,hp,m,hm⟩:=ih k x hr hk;exact⟨_,List.mem_singleton.2 rfl,m+1,.step (by rw[h1];exact hp) hm⟩
  |one h1 _ ih=>
   intro k x hr hk;cases hr with
   |leaf h3=>rw[h1]at h3;cases h3
   |step h3 h4=>omega
  |two h1 h2 _ _ ih1 ih2=>
   intro k x hr hk;cases hr with
   |leaf h3=>rw[h1]at h3;cases h3
   |step h3 h4=>omega
  |dead h1=>
   intro k x hr _;cases hr with
   |leaf h3=>rw[h1]at h3;cases h3
   |step h3 _=>rw[h1]at h3;simp at h3
  |rel _=>intro k x _ hk;simp at hk
  |eqv h1 _ ih=>
   intro k x hr hk;obtain⟨p,hp,h5⟩:=ih k x hr hk;exact⟨p,(h1 p).2 hp,h5⟩
 |succ N IH=>
  intro fs fg P q h
  induction h with
  |leaf h1 h2=>
   intro k x hr _;cases hr with
   |leaf h3=>rw[h2]at h3;cases h3;exact⟨_,List.mem_singleton.2 rfl,0,.leaf (by rw[h1])⟩
   |step h3 _=>rw[h2]at h3;simp at h3
  |sp h1 _ ih=>
   intro k x hr hk;obtain⟨p,hp,m,hm⟩:=ih k x hr hk;exact⟨_,List.mem_singleton.2 rfl,m+1,.step (by rw[h1];exact hp) hm⟩
  |one h1 _ ih=>
   intro k x hr hk;cases hr with
   |leaf h3=>rw[h1]at h3;cases h3
   |step h3 h4=>
    rw[h1]at h3;simp at h3;subst h3;exact ih _ x h4 (by simp;omega)
  |two h1 h2 _ _ ih1 ih2=>
   intro k x hr hk;cases hr with
   |leaf h3=>rw[h1]at h3;cases h3
   |step h3 h4=>
    rw[h1]at h3;simp at h3;rcases h3 with rfl|rfl
    ·obtain⟨p,hp,h5⟩:=ih1 _ x h4 (by simp;omega);exact⟨p,(h2 p).2 (.inl hp),h5⟩
    ·obtain⟨p,hp,h5⟩:=ih2 _ x h4 (by simp;omega);exact⟨p,(h2 p).2 (.inr hp),h5⟩
  |dead h1=>
   intro k x hr _;cases hr with
   |leaf h3=>rw[h1]at h3;cases h3
   |step h3 _=>rw[h1]at h3;simp at h3
  |rel h1=>
   intro k x hr hk;simp at hk;exact IH (hR _ _ h1) k x hr (by simp;omega)
  |eqv h1 _ ih=>
   intro k x hr hk;obtain⟨p,hp,h5⟩:=ih k x hr hk;exact⟨p,(h1 p).2 hp,h5⟩
theorem Ob.same (hR: ∀ p q,R p q->Ob σ γ R false false [p] q) {fs fg:Bool} {P:List α} {q:β} (h:Ob σ γ R fs fg P q) (x:Int):(∃ p∈P,∃ m,Rch σ m p x)↔ ∃ k,Rch γ k q x:=
 ⟨fun⟨p,hp,m,hm⟩=>Ob.fwd hR _ h m p x hp hm (Nat.le_refl _),fun⟨k,hk⟩=>Ob.bwd hR _ h k x hk (Nat.le_refl _)⟩
end
end
section
structure Pl where
 op:Int
 a:Int
 b:Int
def Tr.tgt (A:Tr) (n:Int):Int:=A.tg.getD n.toNat (-1)
def Tr.kd (A:Tr) (n:Int):Int:=(A.nd n).h.kind
def cho0:Cho:=⟨0,0,false⟩
def Tr.ch (A:Tr) (n:Int) (j:Int):Cho:=(A.nd n).choices.getD j.toNat cho0
def Tr.behind (A:Tr) (n:Int):Pl:=⟨1,(A.nd n).list,(A.nd n).place+1⟩
def Tr.again (A:Tr) (n:Int):Pl:=if A.kd n=12 then⟨5,n,0⟩else if(A.nd n).pst≠ -1 then⟨6,(A.nd n).pst,0⟩else⟨2,n,0⟩
def Tr.left (A:Tr) (l:Int):Pl:=if A.kd (A.rw l).owner=11∨A.kd (A.rw l).owner=12 then A.again (A.rw l).owner else A.behind (A.rw l).owner
def Tr.chosen (A:Tr) (n:Int):List Pl:=(A.nd n).choices.map (fun c=>⟨1,c.list,0⟩)++(if A.kd n=15∨(A.nd n).choices.any (fun c=>c.plain)=true then []else [A.behind n])
def Tr.failed (A:Tr) (n:Int):Pl:=match(A.nd n).choices.find? (fun c=>c.plain)with
 |some c=>⟨1,c.list,0⟩
 |none=>A.behind n
def Tr.next (A:Tr) (l:Int) (o:Int):Pl:=⟨1,(A.ch o ((A.rw l).clause+1)).list,0⟩
def Tr.entered (A:Tr) (n:Int):Pl:=
 if A.kd n=10∨A.kd n=11 then⟨2,n,0⟩
 else if A.kd n=12 then⟨6,(A.nd n).cnd,0⟩
 else if A.kd n=13 then(if(A.nd n).cnd≠ -1 then⟨6,(A.nd n).cnd,0⟩else⟨3,n,0⟩)
 else if A.kd n=14∨A.kd n=15 then⟨4,n,0⟩
 else if A.kd n=16 then⟨1,(A.nd n).body,0⟩
 else if A.kd n=17 then A.behind (A.tgt n)
 else if A.kd n=18 then A.again (A.tgt n)
 else if A.kd n=19 then⟨1,(A.nd (A.tgt n)).list,(A.nd (A.tgt n)).place⟩
 else if A.kd n=20 then A.next (A.nd n).list (A.tgt n)
 else A.behind n
def Tr.begun (A:Tr) (n:Int):Pl:=if(A.nd n).self≠ -1 then⟨6,(A.nd n).self,0⟩else if(A.nd n).ini≠ -1 then⟨6,(A.nd n).ini,0⟩else A.entered n
def Tr.mv (A:Tr):Sy Pl:=fun p=>
 if p.op=1 then
  (if p.b < ((A.rw p.a).nodes.length:Int)then([A.begun ((A.rw p.a).nodes.getD p.b.toNat 0)],none)
  else if(A.rw p.a).owner= -1 then([],some (-2))else([A.left p.a],none))
 else if p.op=2 then(if(A.nd p.a).cnd= -1 then([⟨1,(A.nd p.a).body,0⟩],none)else([],some (A.nd p.a).cnd))
 else if p.op=3 then(if p.b < ((A.nd p.a).tests.length:Int)then([],some ((A.nd p.a).tests.getD p.b.toNat 0))else([A.failed p.a],none))
 else if p.op=4 then(A.chosen p.a,none)
 else if p.op=5 then([⟨1,(A.nd p.a).body,0⟩,A.behind p.a],none)
 else([],some p.a)
def Tr.decided (A:Tr) (n:Int) (v:Bool):Pl:=
 if A.kd n=12 then⟨5,n,0⟩else if A.kd n=13 then⟨3,n,0⟩else if v=true then⟨1,(A.nd n).body,0⟩else if(A.nd n).other≠ -1 then⟨1,(A.nd n).other,0⟩else A.behind n
def Tr.aft (A:Tr) (i:Int) (v:Bool):List Pl:=
 if(A.lf i).what=1 then(if A.kd (A.lf i).of=2∨A.kd (A.lf i).of=9 then []else [A.behind (A.lf i).of])
 else if(A.lf i).what=2 then [A.entered (A.lf i).of]
 else if(A.lf i).what=4 then [⟨2,(A.lf i).of,0⟩]
 else if(A.lf i).what=5 then(if v=true then [⟨1,(A.ch (A.lf i).of ((A.nd (A.lf i).of).testOf.getD (A.lf i).index.toNat 0)).list,0⟩]else [⟨3,(A.lf i).of,(A.lf i).index+1⟩])
 else [A.decided (A.lf i).of v]
def Tr.dcd (A:Tr) (i:Int):Bool:=decide ((A.lf i).what=5∨((A.lf i).what=3∧(A.kd (A.lf i).of=10∨A.kd (A.lf i).of=11)))
def Tr.kdOf (A:Tr) (i:Int):Int:=if(A.lf i).what=1 then A.kd (A.lf i).of else 0
abbrev Pt:=Nat × Nat
def nx (G:List Bk):Sy Pt:=fun q=>match G[q.1]? with
 |none=>([],none)
 |some B=>match B.nodes[q.2]? with
  |some x=>if leafN x.pos= -1 then([(q.1,q.2+1)],none)else([],some (leafN x.pos))
  |none=>(B.succs.map fun s=>(s,0),none)
end
end
section
section
def Ok (n:Int) (k:Nat):Prop:=0<=n∧n < k
def Op1 (n:Int) (k:Nat):Prop:=n= -1∨Ok n k
structure NdW (A:Tr) (N:Nat) (x:Nd):Prop where
 up:(A.rw x.list).owner < N
 list:Ok x.list A.rs.length
 place:0<=x.place
 here:(A.rw x.list).nodes[x.place.toNat]? =some (N:Int)
 self:Op1 x.self A.ls.length
 ini:Op1 x.ini A.ls.length
 cnd:Op1 x.cnd A.ls.length
 pst:Op1 x.pst A.ls.length
 body:Op1 x.body A.rs.length
 other:Op1 x.other A.rs.length
 hb:x.h.kind=10∨x.h.kind=11∨x.h.kind=12∨x.h.kind=16->x.body≠ -1
 hc:x.h.kind=10∨x.h.kind=12->x.cnd≠ -1
 ch: ∀ c∈x.choices,Ok c.list A.rs.length
 te: ∀ q∈x.tests,Ok q A.ls.length
 tof: ∀ q∈x.testOf,Ok q x.choices.length
 tl:x.testOf.length=x.tests.length
 fall:x.h.kind=20->(A.rw x.list).clause≠ -1->(A.rw x.list).clause+1 < ((A.nd (A.rw x.list).owner).choices.length:Int)
structure RwW (A:Tr) (x:Rw):Prop where
 owner:Op1 x.owner A.ns.length
 clause:Op1 x.clause (A.nd x.owner).choices.length
 nodes: ∀ q∈x.nodes,Ok q A.ns.length
 len:x.nodes.length<=A.ns.length
structure LfW (A:Tr) (x:Lf):Prop where
 of:Ok x.of A.ns.length
 what:1<=x.what∧x.what<=5
 five:x.what=5->Ok x.index (A.nd x.of).testOf.length
 three:x.what=3->A.kd x.of=10∨A.kd x.of=11∨A.kd x.of=12∨A.kd x.of=13
 four:x.what=4->A.kd x.of=11
structure WfS (A:Tr) (N R n N' R' n':Nat):Prop where
 l: ∀ (j:Nat) x,n<=j->j < n'->A.ls[j]? =some x->LfW A x
 n: ∀ (j:Nat) x,N<=j->j < N'->A.ns[j]? =some x->NdW A j x
 r: ∀ (j:Nat) x,R<=j->j < R'->A.rs[j]? =some x->RwW A x
theorem WfS.app {A:Tr} {N R n N1 R1 n1 N2 R2 n2:Nat} (h:WfS A N R n N1 R1 n1) (k:WfS A N1 R1 n1 N2 R2 n2):WfS A N R n N2 R2 n2:=
 ⟨fun j x h1 h2 hx=>if hj:j < n1 then h.l j x h1 hj hx else k.l j x (by omega) h2 hx,fun j x h1 h2 hx=>if hj:j < N1 then h.n j x h1 hj hx else k.n j x (by omega) h2 hx,fun j x h1 h2 hx=>if hj:j < R1 then h.r j x h1 hj hx else k.r j x (by omega) h2 hx⟩
theorem WfS.nil {A:Tr} {N R n:Nat} :WfS A N R n N R n:=⟨fun _ _ _ _ _=>by omega,fun _ _ _ _ _=>by omega,fun _ _ _ _ _=>by omega⟩
theorem WfS.cast {A:Tr} {N R n N1 R1 n1 N2 R2 n2:Nat} (h:WfS A N R n N1 R1 n1) (e1:N2=N1) (e2:R2=R1) (e3:n2=n1):WfS A N R n N2 R2 n2:=by subst e1;subst e2;subst e3;exact h
theorem ids_rng: ∀ t:T,∀ N R n i a p,(t.rd.l N R n i a p).ids.length<=(t.rd.l N R n i a p).ns.length∧ ∀ q∈(t.rd.l N R n i a p).ids,(N:Int)<=q∧q < ((N+(t.rd.l N R n i a p).ns.length:Nat):Int):=by
 intro t
 induction t with
 |nil=>intro N R n i a p;simp[T.rd,Out.none]
 |st h b e c tl _ _ _ ih4=>
  intro N R n i a p;simp only[T.rd,List.length_cons,List.length_append,List.mem_cons];generalize(if h.hasBody=true then b.rd.l (N+1) (R+1) (n+(h.lfs N).length) (i+1) R 0 else Out.none)=ob;generalize(rowOf h.hasBody (N:Int) (-1) ob)=rb;generalize(if h.hasElse=true then e.rd.l (N+1+ob.ns.length) (R+rb.length+1) (n+(h.lfs N).length+ob.ls.length) (i+1+ob.it) (R+rb.length) 0 else Out.none)=oe;generalize(rowOf h.hasElse (N:Int) (-1) oe)=re;generalize c.rd.c (h.kind==13) N (N+1+ob.ns.length+oe.ns.length) (R+rb.length+re.length) (n+(h.lfs N).length+ob.ls.length+oe.ls.length) (i+1+ob.it+oe.it) 0 0=oc;have:=ih4 (N+1+ob.ns.length+oe.ns.length+oc.ns.length) (R+rb.length+re.length+oc.rs.length) (n+(h.lfs N).length+ob.ls.length+oe.ls.length+oc.ls.length) (i+1+ob.it+oe.it+oc.it) a (p+1);generalize tl.rd.l (N+1+ob.ns.length+oe.ns.length+oc.ns.length) (R+rb.length+re.length+oc.rs.length) (n+(h.lfs N).length+ob.ls.length+oe.ls.length+oc.ls.length) (i+1+ob.it+oe.it+oc.it) a (p+1)=ot at*;refine⟨by have:=this.1;omega,fun q hq=>?_⟩;rcases hq with rfl|hq
  ·omega
  ·have:=this.2 q hq;omega
 |cl x b tl _ _=>intro N R n i a p;simp[T.rd,Out.none]
theorem testOf_rng: ∀ t:T,∀ sw N0 N R n i j k,(t.rd.c sw N0 N R n i j k).testOf.length=(t.rd.c sw N0 N R n i j k).tests.length∧(∀ q∈(t.rd.c sw N0 N R n i j k).testOf,(j:Int)<=q∧q < ((j+(t.rd.c sw N0 N R n i j k).chs.length:Nat):Int))∧
  (∀ q∈(t.rd.c sw N0 N R n i j k).tests,(n:Int)<=q∧q < ((n+(t.rd.c sw N0 N R n i j k).ls.length:Nat):Int))∧(∀ q∈(t.rd.c sw N0 N R n i j k).chs,(R:Int)<=q.list∧q.list < ((R+(t.rd.c sw N0 N R n i j k).rs.length:Nat):Int)):=by
 intro t
 induction t with
 |nil=>intro sw N0 N R n i j k;simp[T.rd]
 |st h b e c tl _ _ _ _=>intro sw N0 N R n i j k;simp[T.rd]
 |cl x b tl _ ih2=>
  intro sw N0 N R n i j k;simp only[T.rd];generalize(if sw=true then x.toNat else 0)=ts;generalize b.rd.l N (R+1) (n+ts) (i+1) R 0=ob;have:=ih2 sw N0 (N+ob.ns.length) (R+1+ob.rs.length) (n+ts+ob.ls.length) (i+1+ob.it) (j+1) (k+ts);generalize tl.rd.c sw N0 (N+ob.ns.length) (R+1+ob.rs.length) (n+ts+ob.ls.length) (i+1+ob.it) (j+1) (k+ts)=ot at*;obtain⟨h1,h2,h3,h4⟩:=this;simp only[List.length_append,List.length_replicate,List.length_map,List.length_range,List.length_cons,List.mem_append,List.mem_replicate,List.mem_map,List.mem_range,List.mem_cons];refine⟨by omega,fun q hq=>?_,fun q hq=>?_,fun q hq=>?_⟩
  ·rcases hq with⟨_,rfl⟩ |hq
   ·omega
   ·have:=h2 q hq;omega
  ·rcases hq with⟨u,hu,rfl⟩ |hq
   ·omega
   ·have:=h3 q hq;omega
  ·rcases hq with rfl|hq
   ·simp only;omega
   ·have:=h4 q hq;omega
theorem op1 {is:Bool} {n k:Nat} (h:is=true->n < k):Op1 (optI is n) k:=by
 unfold optI;cases is
 ·exact .inl rfl
 ·exact .inr ⟨by simp,by have:=h rfl;simp;omega⟩
theorem ns_lt {A:Tr} {N:Nat} {x:Nd} (h:A.ns[N]? =some x):N < A.ns.length:=get_lt h
structure RowIn (A:Tr) (N a p:Nat) (ids:List Int) (t:T):Prop where
 up:(A.rw a).owner < N
 lt:a < A.rs.length
 seg:Seg (A.rw a).nodes p ids
 fall:(A.rw a).clause≠ -1->t.ft ((A.rw a).clause+1 < ((A.nd (A.rw a).owner).choices.length:Int))
theorem cls_len: ∀ t:T,t.srt false-> ∀ sw N0 N R n i j k,(t.rd.c sw N0 N R n i j k).chs.length=t.len:=by
 intro t
 induction t with
 |nil=>intro _ sw N0 N R n i j k;rfl
 |st h b e c tl _ _ _ _=>intro hs;exact absurd hs.1 (by simp)
 |cl x b tl _ ih2=>
  intro hs sw N0 N R n i j k;simp only[T.rd,List.length_cons,T.len];rw[ih2 hs.2.2]
theorem ft_mono: ∀ {t:T} {P Q:Prop},(P->Q)->t.ft P->t.ft Q:=by
 intro t
 induction t with
 |nil=>intro _ _ _ _;trivial
 |st h b e c tl _ _ _ ih4=>intro P Q hPQ ⟨h1,h2⟩;exact⟨fun hk=>⟨hPQ (h1 hk).1,(h1 hk).2⟩,ih4 hPQ h2⟩
 |cl x b tl _ _=>intro _ _ _ _;trivial
theorem wf_rd {A:Tr} : ∀ t:T,(t.srt true->t.fA-> ∀ N R n i a p,Sub A N R n (t.rd.l N R n i a p).ls (t.rd.l N R n i a p).ns (t.rd.l N R n i a p).rs->RowIn A N a p (t.rd.l N R n i a p).ids t->
   WfS A N R n (N+(t.rd.l N R n i a p).ns.length) (R+(t.rd.l N R n i a p).rs.length) (n+(t.rd.l N R n i a p).ls.length))∧
  (t.srt false->t.fA-> ∀ sw N0 N R n i j k kd,Sub A N R n (t.rd.c sw N0 N R n i j k).ls (t.rd.c sw N0 N R n i j k).ns (t.rd.c sw N0 N R n i j k).rs->t.cf kd->N0 < N->N0 < A.ns.length->A.kd N0=kd->k+(t.rd.c sw N0 N R n i j k).tests.length<=(A.nd N0).testOf.length->j+t.len=(A.nd N0).choices.length->
   WfS A N R n (N+(t.rd.c sw N0 N R n i j k).ns.length) (R+(t.rd.c sw N0 N R n i j k).rs.length) (n+(t.rd.c sw N0 N R n i j k).ls.length)):=by
 intro t
 induction t with
 |nil=>exact⟨fun _ _ N R n i a p _ _=>WfS.nil,fun _ _ sw N0 N R n i j k kd _ _ _ _ _ _ _=>WfS.nil⟩
 |st h b e c tl ih1 ih2 ih3 ih4=>
  refine⟨fun hs hf N R n i a p H HR=>?_,fun hs=>absurd hs.1 (by simp)⟩;obtain⟨ob,oe,oc,ot,R2,R3,I,e1,e2,e3,e4⟩:=st_in H;obtain⟨_,s1,s2,s3,s4⟩:=hs;obtain⟨f0,f1,f2,f3,f4⟩:=hf;have hNlt:=get_lt I.nd;have hnd:=nd_at I.nd;rw[e1]at HR;obtain⟨g1,g2⟩:=HR.seg.cons;have hrl:((T.st h b e c tl).rd.l N R n i a p).rs.length=(if h.hasBody then 1+ob.rs.length else 0)+((if h.hasElse then 1+oe.rs.length else 0)+(oc.rs.length+ot.rs.length)):=by
   have q1:=I.eb;have q2:=I.ee;have q3:=I.ec;have q4:=I.et;have w1:=I.eR2;have w2:=I.eR3;unfold rdB at q1;unfold rdE at q2;simp only[T.rd,List.length_append,rowOf_len];rw[<-q1,<-w1,<-q2,<-w2,<-q3,<-q4]
  have hlfs:=(lfs_len (h:=h) (N:=N)).1;have hLs:n+(h.lfs N).length<=A.ls.length∨(h.lfs N).length=0:=by
   rcases Nat.eq_zero_or_pos (h.lfs N).length with h0|h0
   ·exact .inr h0
   ·exact .inl (I.lf.le h0)
  have hb2n: ∀ b:Bool,b.toNat=if b=true then 1 else 0:=fun b=>by cases b<;>rfl
  have hcl:oc.chs.length=c.len:=by rw[I.ec];exact cls_len c s3 _ _ _ _ _ _ _ _
  have hto:=testOf_rng c (h.kind==13) N (N+1+ob.ns.length+oe.ns.length) R3 (n+(h.lfs N).length+ob.ls.length+oe.ls.length) (i+1+ob.it+oe.it) 0 0;rw[<-I.ec]at hto;obtain⟨t1,t2,t3,t4⟩:=hto;have hkd:A.kd (N:Int)=h.kind:=by unfold Tr.kd;rw[hnd];rfl
  have hself:NdW A N (T.ndOf h i a p n R R2 oc):=by
   refine⟨HR.up,⟨by simp[T.ndOf],by have:=HR.lt;simp only[T.ndOf];omega⟩,by simp[T.ndOf],?_,op1 ?_,op1 ?_,op1 ?_,op1 ?_,op1 ?_,op1 ?_,?_,?_,?_,?_,?_,t1,?_⟩
   ·simp only[T.ndOf,Int.toNat_natCast];exact g1
   ·intro hh;rw[hb2n,if_pos hh]at hlfs;omega
   ·intro hh;rw[hb2n h.init,if_pos hh]at hlfs;omega
   ·intro hh;rw[hb2n h.hasCond,if_pos hh]at hlfs;omega
   ·intro hh;rw[hb2n h.post,if_pos hh]at hlfs;omega
   ·intro hh;exact get_lt (I.sb hh).1
   ·intro hh;exact get_lt (I.se hh).1
   ·intro hk;have:h.hasBody=true:=hasBody_iff.2 hk;simp only[T.ndOf,optI,this,if_true];omega
   ·intro hk;have:h.hasCond=true:=by
     have hk':h.kind=10∨h.kind=12:=hk;unfold Hd.hasCond;rcases hk' with hk|hk<;>simp[hk]
    simp only[T.ndOf,optI,this,if_true];omega
   ·intro x hx;have hx':x∈oc.chs:=hx;have:=t4 x hx';have hr:0 < oc.rs.length:=by omega
    have:=I.sc.r.le hr;exact⟨by omega,by omega⟩
   ·intro q hq;have hq':q∈oc.tests:=hq;have:=t3 q hq';have hr:0 < oc.ls.length:=by omega
    have:=I.sc.l.le hr;exact⟨by omega,by omega⟩
   ·intro q hq;have:=t2 q hq;exact⟨by omega,by simp only[T.ndOf];omega⟩
   ·intro hk hcl;exact((HR.fall hcl).1 hk).1
  have hown:WfS A N R n (N+1) R (n+(h.lfs N).length):=by
   refine⟨fun j x h1 h2 hx=>?_,fun j x h1 h2 hx=>?_,fun j x h1 h2=>by omega⟩
   ·have hj:=I.lf (j -n) (by omega);rw[show n+(j -n)=j by omega,hx]at hj;have hm:x∈h.lfs N:=List.mem_of_getElem? hj.symm;have hN:Ok (N:Int) A.ns.length:=⟨by omega,by omega⟩
    have hfm:=f0.1;unfold Hd.lfs at hm;simp only[List.mem_append]at hm;rcases hm with hm|hm|hm|hm
    ·split at hm
     ·simp at hm;subst hm;exact⟨hN,by simp,by simp,by simp,by simp⟩
     ·simp at hm
    ·split at hm
     ·simp at hm;subst hm;exact⟨hN,by simp,by simp,by simp,by simp⟩
     ·simp at hm
    ·split at hm
     ·next hc=>
      simp at hm;subst hm;refine⟨hN,by simp,by simp,fun _=>?_,by simp⟩;rw[hkd];unfold Hd.hasCond at hc;simp only[Bool.or_eq_true,beq_iff_eq]at hc;rcases hc with(hc|hc) |hc
      ·have:=hfm.cnd hc;omega
      ·omega
      ·omega
     ·simp at hm
    ·split at hm
     ·next hc=>
      simp at hm;subst hm;refine⟨hN,by simp,by simp,by simp,fun _=>?_⟩;rw[hkd];exact hfm.pst hc
     ·simp at hm
   ·have:j=N:=by omega
    subst this;rw[I.nd]at hx;cases hx;exact hself
  have hB:WfS A (N+1) R (n+(h.lfs N).length) (N+1+ob.ns.length) R2 (n+(h.lfs N).length+ob.ls.length):=by
   by_cases hb:h.hasBody=true
   ·obtain⟨r1,r2⟩:=I.sb hb;have hob:ob=b.rd.l (N+1) (R+1) (n+(h.lfs N).length) (i+1) R 0:=by rw[I.eb];unfold rdB;rw[if_pos hb]
    have hids:=ids_rng b (N+1) (R+1) (n+(h.lfs N).length) (i+1) R 0;rw[<-hob]at hids;have hrw:=rw_at r1;have h0:=ih1.1 s1 (f1 hb) (N+1) (R+1) (n+(h.lfs N).length) (i+1) R 0 (by rw[<-hob];exact r2) ⟨by rw[hrw];simp only;omega,get_lt r1,by rw[hrw,<-hob];exact Seg.self _,fun hc=>absurd (by rw[hrw]) hc⟩;rw[<-hob]at h0;have hR2:=I.eR2;rw[if_pos hb]at hR2;have hrow:WfS A (N+1) R (n+(h.lfs N).length) (N+1) (R+1) (n+(h.lfs N).length):=by
     refine⟨fun j x h1 h2=>by omega,fun j x h1 h2=>by omega,fun j x h1 h2 hx=>?_⟩;have:j=R:=by omega
     subst this;rw[r1]at hx;cases hx;have hle:N+1+ob.ns.length<=A.ns.length:=by
      rcases Nat.eq_zero_or_pos ob.ns.length with z|z
      ·omega
      ·exact r2.n.le z
     exact⟨.inr ⟨by simp,by simp;omega⟩,.inl rfl,fun q hq=>by have:=hids.2 q hq;exact⟨by omega,by omega⟩,by have:=hids.1;simp;omega⟩
    exact(hrow.app h0).cast rfl (by omega) rfl
   ·have hob:ob=.none:=by rw[I.eb];unfold rdB;rw[if_neg hb]
    have hR2:=I.eR2;rw[if_neg hb]at hR2;subst hob;exact WfS.nil.cast rfl (by omega) rfl
  have hE:WfS A (N+1+ob.ns.length) R2 (n+(h.lfs N).length+ob.ls.length) (N+1+ob.ns.length+oe.ns.length) R3 (n+(h.lfs N).length+ob.ls.length+oe.ls.length):=by
   by_cases hb:h.hasElse=true
   ·obtain⟨r1,r2⟩:=I.se hb;have hob:oe=e.rd.l (N+1+ob.ns.length) (R2+1) (n+(h.lfs N).length+ob.ls.length) (i+1+ob.it) R2 0:=by rw[I.ee];unfold rdE;rw[if_pos hb]
    have hids:=ids_rng e (N+1+ob.ns.length) (R2+1) (n+(h.lfs N).length+ob.ls.length) (i+1+ob.it) R2 0;rw[<-hob]at hids;have hrw:=rw_at r1;have h0:=ih2.1 s2 (f2 hb) (N+1+ob.ns.length) (R2+1) (n+(h.lfs N).length+ob.ls.length) (i+1+ob.it) R2 0 (by rw[<-hob];exact r2) ⟨by rw[hrw];simp only;omega,get_lt r1,by rw[hrw,<-hob];exact Seg.self _,fun hc=>absurd (by rw[hrw]) hc⟩;rw[<-hob]at h0;have hR2:=I.eR3;rw[if_pos hb]at hR2;have hrow:WfS A (N+1+ob.ns.length) R2 (n+(h.lfs N).length+ob.ls.length) (N+1+ob.ns.length) (R2+1) (n+(h.lfs N).length+ob.ls.length):=by
     refine⟨fun j x h1 h2=>by omega,fun j x h1 h2=>by omega,fun j x h1 h2 hx=>?_⟩;have:j=R2:=by omega
     subst this;rw[r1]at hx;cases hx;have hle:N+1+ob.ns.length+oe.ns.length<=A.ns.length∨oe.ns.length=0:=by
      rcases Nat.eq_zero_or_pos oe.ns.length with z|z
      ·exact .inr z
      ·exact .inl (r2.n.le z)
     exact⟨.inr ⟨by simp,by simp;omega⟩,.inl rfl,fun q hq=>by have:=hids.2 q hq;exact⟨by omega,by omega⟩,by have:=hids.1;simp;omega⟩
    exact(hrow.app h0).cast rfl (by omega) rfl
   ·have hob:oe=.none:=by rw[I.ee];unfold rdE;rw[if_neg hb]
    have hR2:=I.eR3;rw[if_neg hb]at hR2;subst hob;exact WfS.nil.cast rfl (by omega) rfl
  have hC:WfS A (N+1+ob.ns.length+oe.ns.length) R3 (n+(h.lfs N).length+ob.ls.length+oe.ls.length) (N+1+ob.ns.length+oe.ns.length+oc.ns.length) (R3+oc.rs.length) (n+(h.lfs N).length+ob.ls.length+oe.ls.length+oc.ls.length):=by
   have hcf:c.cf h.kind:=by
    by_cases hk:h.kind=13∨h.kind=14∨h.kind=15
    ·exact f0.2 hk
    ·have:c=.nil:=f0.1.nc (by omega) (by omega) (by omega);subst this;trivial
   have hch:(A.nd (N:Int)).choices.length=c.len:=by rw[hnd];exact hcl
   have htt:(A.nd (N:Int)).testOf.length=oc.tests.length:=by rw[hnd];exact t1
   have h0:=ih3.2 s3 f3 (h.kind==13) N (N+1+ob.ns.length+oe.ns.length) R3 (n+(h.lfs N).length+ob.ls.length+oe.ls.length) (i+1+ob.it+oe.it) 0 0 h.kind (by rw[<-I.ec];exact I.sc) hcf (by omega) hNlt hkd (by rw[<-I.ec];omega) (by omega);rw[<-I.ec]at h0;exact h0
  have hTl:WfS A (N+1+ob.ns.length+oe.ns.length+oc.ns.length) (R3+oc.rs.length) (n+(h.lfs N).length+ob.ls.length+oe.ls.length+oc.ls.length) (N+1+ob.ns.length+oe.ns.length+oc.ns.length+ot.ns.length) (R3+oc.rs.length+ot.rs.length) (n+(h.lfs N).length+ob.ls.length+oe.ls.length+oc.ls.length+ot.ls.length):=by
   have h0:=ih4.1 s4 f4 (N+1+ob.ns.length+oe.ns.length+oc.ns.length) (R3+oc.rs.length) (n+(h.lfs N).length+ob.ls.length+oe.ls.length+oc.ls.length) (i+1+ob.it+oe.it+oc.it) a (p+1) (by rw[<-I.et];exact I.st) ⟨by have:=HR.up;omega,HR.lt,by rw[<-I.et];exact g2,fun hc=>(HR.fall hc).2⟩;rw[<-I.et]at h0;exact h0
  have w1:=I.eR2;have w2:=I.eR3;exact((((hown.app hB).app hE).app hC).app hTl).cast (by rw[e4];simp only[List.length_cons,List.length_append];omega) (by rw[hrl];omega) (by rw[e3];simp only[List.length_append];omega)
 |cl x b tl ih1 ih2=>
  refine⟨fun hs=>absurd hs.1 (by simp),fun hs hf sw N0 N R n i j k kd H hcf hlt hN0 hkd hk hj=>?_⟩;obtain⟨ts,ob,ot,I,e1⟩:=cl_in H;obtain⟨_,s1,s2⟩:=hs;obtain⟨f1,f2⟩:=hf;rw[e1]at hk;simp only[List.length_append,List.length_map,List.length_range]at hk;simp only[T.len]at hj;have hids:=ids_rng b N (R+1) (n+ts) (i+1) R 0;rw[<-I.eb]at hids;have hrw:=rw_at I.rw;have hT:WfS A N R n N R (n+ts):=by
   refine⟨fun u y h1 h2 hy=>?_,fun u y h1 h2=>by omega,fun u y h1 h2=>by omega⟩;have hj':=I.lf (u -n) (by simp;omega);rw[show n+(u -n)=u by omega,hy]at hj';rw[List.getElem?_map,List.getElem?_range (by omega)]at hj';simp only[Option.map_some]at hj';cases hj';exact⟨⟨by simp,by simp;omega⟩,by simp,fun _=>⟨by simp only;omega,by simp only;omega⟩,by simp,by simp⟩
  have hRow:WfS A N R (n+ts) N (R+1) (n+ts):=by
   refine⟨fun u y h1 h2=>by omega,fun u y h1 h2=>by omega,fun u y h1 h2 hy=>?_⟩;have:u=R:=by omega
   subst this;rw[I.rw]at hy;cases hy;have hle:N+ob.ns.length<=A.ns.length∨ob.ns.length=0:=by
    rcases Nat.eq_zero_or_pos ob.ns.length with z|z
    ·exact .inr z
    ·exact .inl (I.sb.n.le z)
   exact⟨.inr ⟨by simp,by simp;omega⟩,.inr ⟨by simp,by simp only;omega⟩,fun q hq=>by have:=hids.2 q hq;exact⟨by omega,by omega⟩,by have:=hids.1;simp;omega⟩
  have hB:=ih1.1 s1 f1 N (R+1) (n+ts) (i+1) R 0 (by rw[<-I.eb];exact I.sb) ⟨by rw[hrw];simp only;omega,get_lt I.rw,by rw[hrw,<-I.eb];exact Seg.self _,fun _=>by
   refine ft_mono (fun⟨_,hn⟩=>?_) hcf.2.2.1;rw[hrw];have:0 < tl.len:=by
    cases tl with
    |nil=>exact absurd rfl hn
    |st=>simp[T.len]
    |cl=>simp[T.len]
   simp only;omega⟩
  rw[<-I.eb]at hB;have hTl:=ih2.2 s2 f2 sw N0 (N+ob.ns.length) (R+1+ob.rs.length) (n+ts+ob.ls.length) (i+1+ob.it) (j+1) (k+ts) kd (by rw[<-I.et];exact I.st) hcf.2.2.2 (by omega) hN0 hkd (by rw[<-I.et];omega) (by omega);rw[<-I.et]at hTl;rw[e1];exact(((hT.app hRow).app hB).app hTl).cast (by simp only[List.length_append];omega) (by simp only[List.length_append,List.length_cons];omega) (by simp only[List.length_append,List.length_map,List.length_range];omega)
end
section
structure Wf (A:Tr):Prop where
 l: ∀ (j:Nat) x,A.ls[j]? =some x->LfW A x
 n: ∀ (j:Nat) x,A.ns[j]? =some x->NdW A j x
 r: ∀ (j:Nat) x,A.rs[j]? =some x->RwW A x
 tg: ∀ (j:Nat) x,A.ns[j]? =some x->x.h.kind=17∨x.h.kind=18∨x.h.kind=19∨x.h.kind=20->Ok (A.tgt j) A.ns.length
 loop: ∀ (j:Nat) x,A.ns[j]? =some x->x.h.kind=18->A.kd (A.tgt j)=11∨A.kd (A.tgt j)=12
 fall: ∀ (j:Nat) x,A.ns[j]? =some x->x.h.kind=20->A.tgt j=(A.rw x.list).owner∧(A.rw x.list).clause≠ -1
 one:0 < A.rs.length
theorem Ok.cast {n:Int} {k:Nat} (h:Ok n k): ∃ m:Nat,n=m∧m < k:=⟨n.toNat,by have:=h.1;omega,by have:=h.2;have:=h.1;omega⟩
theorem Wf.nd {A:Tr} (W:Wf A) {n:Int} (h:Ok n A.ns.length):NdW A n.toNat (A.nd n):=by
 obtain⟨m,rfl,hm⟩:=h.cast;have hx:=List.getElem?_eq_getElem hm;have:=W.n m _ hx;rw[nd_at hx];simpa using this
theorem Wf.rw {A:Tr} (W:Wf A) {n:Int} (h:Ok n A.rs.length):RwW A (A.rw n):=by
 obtain⟨m,rfl,hm⟩:=h.cast;have hx:=List.getElem?_eq_getElem hm;rw[rw_at hx];exact W.r m _ hx
theorem Wf.lf {A:Tr} (W:Wf A) {n:Int} (h:Ok n A.ls.length):LfW A (A.lf n):=by
 obtain⟨m,rfl,hm⟩:=h.cast;have hx:=List.getElem?_eq_getElem hm;rw[lf_at hx];exact W.l m _ hx
theorem ns_at {A:Tr} {n:Int} (h:Ok n A.ns.length):A.ns[n.toNat]? =some (A.nd n):=by
 obtain⟨m,rfl,hm⟩:=h.cast;have hx:=List.getElem?_eq_getElem hm;rw[nd_at hx];simp
theorem arnd_ok {A:Tr} {k:Int} {s:ByteArray} (hl: ∀ n,Ok n A.ns.length->Ok (A.nd n).list A.rs.length) (ho: ∀ n,Ok n A.rs.length->Op1 (A.rw n).owner A.ns.length): ∀ (f:Nat) (o:Int),Op1 o A.ns.length->A.arnd k s f o≠ -1->Ok (A.arnd k s f o) A.ns.length∧aims k s (A.nd (A.arnd k s f o)).h=true:=by
 intro f
 induction f with
 |zero=>intro o _ h;exact absurd rfl h
 |succ f ih=>
  intro o hO h;unfold Tr.arnd at h ⊢;split at h
  ·exact absurd rfl h
  ·next h1=>
   rw[if_neg h1];have hk:Ok o A.ns.length:=hO.elim (fun e=>absurd e h1) id;split at h
   ·next h2=>
    rw[if_pos h2];exact⟨hk,h2⟩
   ·next h2=>
    rw[if_neg h2];exact ih _ (ho _ (hl _ hk)) h
theorem labd_ok {A:Tr} {s:ByteArray} (h:A.labd s≠ -1):Ok (A.labd s) A.ns.length:=by
 obtain⟨i,x,h1,_,h3⟩:=labd_found h;rw[h3];have:=get_lt h1;exact⟨by omega,by omega⟩
structure TgA (A:Tr):Prop where
 around: ∀ (N:Nat) x,A.ns[N]? =some x->x.h.kind=17∨x.h.kind=18->A.tgt N=A.arnd x.h.kind x.h.target (A.ns.length+1) (A.rw x.list).owner
 jump: ∀ (N:Nat) x,A.ns[N]? =some x->x.h.kind=19->A.tgt N=A.labd x.h.target
 fall: ∀ (N:Nat) x,A.ns[N]? =some x->x.h.kind=20->A.tgt N=(A.rw x.list).owner
structure Wf0 (A:Tr):Prop where
 l: ∀ (j:Nat) x,A.ls[j]? =some x->LfW A x
 n: ∀ (j:Nat) x,A.ns[j]? =some x->NdW A j x
 r: ∀ (j:Nat) x,A.rs[j]? =some x->RwW A x
 one:0 < A.rs.length
theorem wf0_of {t:T} {tg:List Int} (hs:t.srt true) (hf:t.fA):Wf0 (t.tr tg):=by
 have hr0:(t.tr tg).rs[0]? =some ⟨-1,-1,(t.rd.l 0 1 0 0 0 0).ids⟩:=rfl;have hrw:=rw_at (A:=t.tr tg) hr0;have hrs:(t.tr tg).rs.length=1+(t.rd.l 0 1 0 0 0 0).rs.length:=by show(_::_:List Rw).length=_;simp;omega
 have h0:=(wf_rd (A:=t.tr tg) t).1 hs hf 0 1 0 0 0 0 ⟨Seg.self _,Seg.self _,fun j hj=>by
  show(_::_:List Rw)[1+j]? =_;rw[Nat.add_comm,List.getElem?_cons_succ]⟩ ⟨by rw[hrw];simp,by omega,by rw[hrw];exact Seg.self _,fun hc=>absurd (by rw[hrw]) hc⟩
 have hids:=ids_rng t 0 1 0 0 0 0;have hn: ∀ (j:Nat) x,(t.tr tg).ns[j]? =some x->NdW (t.tr tg) j x:=fun j x hx=>h0.n j x (by omega) (by have:j < (t.rd.l 0 1 0 0 0 0).ns.length:=get_lt hx;omega) hx;have hr: ∀ (j:Nat) x,(t.tr tg).rs[j]? =some x->RwW (t.tr tg) x:=by
  intro j x hx;cases j with
  |zero=>
   rw[hr0]at hx;cases hx;refine⟨.inl rfl,.inl rfl,fun q hq=>?_,?_⟩
   ·have:=hids.2 q hq;exact⟨by omega,by have:(t.tr tg).ns.length=(t.rd.l 0 1 0 0 0 0).ns.length:=rfl;omega⟩
   ·exact hids.1
  |succ j=>exact h0.r (j+1) x (by omega) (by have:=get_lt hx;omega) hx
 exact⟨fun j x hx=>h0.l j x (by omega) (by have:j < (t.rd.l 0 1 0 0 0 0).ls.length:=get_lt hx;omega) hx,hn,hr,by omega⟩
theorem Wf0.list {A:Tr} (W:Wf0 A) {n:Int} (hk:Ok n A.ns.length):Ok (A.nd n).list A.rs.length:=by
 obtain⟨m,rfl,hm⟩:=hk.cast;have hx:=List.getElem?_eq_getElem hm;rw[nd_at hx];exact(W.n m _ hx).list
theorem Wf0.owner {A:Tr} (W:Wf0 A) {n:Int} (hk:Ok n A.rs.length):Op1 (A.rw n).owner A.ns.length:=by
 obtain⟨m,rfl,hm⟩:=hk.cast;have hx:=List.getElem?_eq_getElem hm;rw[rw_at hx];exact(W.r m _ hx).owner
theorem Wf0.up {A:Tr} (W:Wf0 A) {n:Int} (hk:Ok n A.ns.length):(A.rw (A.nd n).list).owner < n:=by
 obtain⟨m,rfl,hm⟩:=hk.cast;have hx:=List.getElem?_eq_getElem hm;rw[nd_at hx];exact(W.n m _ hx).up
theorem wf_of {A:Tr} (W:Wf0 A) (H:RightA A) (TG:TgA A):Wf A:=by
 have har: ∀ (j:Nat) x,A.ns[j]? =some x->x.h.kind=17∨x.h.kind=18->Ok (A.tgt j) A.ns.length∧aims x.h.kind x.h.target (A.nd (A.tgt j)).h=true:=by
  intro j x hx hk;rw[TG.around j x hx hk];exact arnd_ok (fun _=>W.list) (fun _=>W.owner) _ _ (W.owner (W.n j x hx).list) (H.around j x hx hk)
 refine⟨W.l,W.n,W.r,fun j x hx hk=>?_,fun j x hx hk=>?_,fun j x hx hk=>⟨TG.fall j x hx hk,(H.fall j x hx hk).1⟩,W.one⟩
 ·rcases hk with hk|hk|hk|hk
  ·exact(har j x hx (.inl hk)).1
  ·exact(har j x hx (.inr hk)).1
  ·rw[TG.jump j x hx hk];exact labd_ok (H.jump j x hx hk)
  ·rw[TG.fall j x hx hk];exact(W.owner (W.n j x hx).list).elim (fun e=>absurd e (H.fall j x hx hk).2) id
 ·have h2:=(har j x hx (.inr hk)).2;unfold aims at h2;simp only[decide_eq_true_eq]at h2;unfold Tr.kd;omega
def PlW (A:Tr) (p:Pl):Prop:=
 (p.op=1∧Ok p.a A.rs.length∧0<=p.b∧p.b<=A.ns.length)∨(p.op=2∧Ok p.a A.ns.length∧(A.kd p.a=10∨A.kd p.a=11)∧p.b=0)∨(p.op=3∧Ok p.a A.ns.length∧0<=p.b∧p.b<=((A.nd p.a).tests.length:Int))∨
 (p.op=4∧Ok p.a A.ns.length∧p.b=0)∨(p.op=5∧Ok p.a A.ns.length∧A.kd p.a=12∧p.b=0)∨(p.op=6∧Ok p.a A.ls.length∧p.b=0)
theorem pl_list {A:Tr} {n:Int} (h:Ok n A.rs.length):PlW A ⟨1,n,0⟩:=.inl ⟨rfl,h,by simp,by simp⟩
theorem getD_mem {l:List Int} {b:Int} (h0:0<=b) (h:b < (l.length:Int)) (d:Int):l.getD b.toNat d∈l:=by
 rw[List.getD_eq_getElem?_getD,List.getElem?_eq_getElem (by omega)];exact List.getElem_mem _
section
variable {A:Tr} (W:Wf A)
theorem Op1.ok {n:Int} {k:Nat} (h:Op1 n k) (hn:n≠ -1):Ok n k:=h.elim (fun e=>absurd e hn) id
include W
theorem Wf.behind {n:Int} (h:Ok n A.ns.length):PlW A (A.behind n):=by
 have:=W.nd h;have h1:=this.here;have h2:=this.place;have h3:=get_lt h1;have h4:=(W.rw this.list).len;exact .inl ⟨rfl,this.list,by simp only[Tr.behind];omega,by simp only[Tr.behind];omega⟩
theorem Wf.again {n:Int} (h:Ok n A.ns.length) (hk:A.kd n=11∨A.kd n=12):PlW A (A.again n):=by
 unfold Tr.again;split
 ·next h1=>exact .inr (.inr (.inr (.inr (.inl ⟨rfl,h,h1,rfl⟩))))
 ·next h1=>
  split
  ·next h2=>exact .inr (.inr (.inr (.inr (.inr ⟨rfl,(W.nd h).pst.ok h2,rfl⟩))))
  ·exact .inr (.inl ⟨rfl,h,by simp only;omega,rfl⟩)
theorem Wf.left {l:Int} (h:Ok l A.rs.length) (ho:(A.rw l).owner≠ -1):PlW A (A.left l):=by
 have:=(W.rw h).owner.ok ho;unfold Tr.left;split
 ·next h1=>exact W.again this h1
 ·exact W.behind this
theorem Wf.chosen {n:Int} (h:Ok n A.ns.length): ∀ p∈A.chosen n,PlW A p:=by
 intro p hp;unfold Tr.chosen at hp;simp only[List.mem_append,List.mem_map]at hp;rcases hp with⟨c,hc,rfl⟩ |hp
 ·exact pl_list ((W.nd h).ch c hc)
 ·split at hp
  ·simp at hp
  ·simp at hp;subst hp;exact W.behind h
theorem Wf.failed {n:Int} (h:Ok n A.ns.length):PlW A (A.failed n):=by
 unfold Tr.failed;split
 ·next c hc=>exact pl_list ((W.nd h).ch c (List.mem_of_find?_eq_some hc))
 ·exact W.behind h
theorem Wf.nextOk {n:Int} (h:Ok n A.ns.length) (hk:A.kd n=20):Ok ((A.rw (A.nd n).list).clause+1) (A.nd (A.tgt n)).choices.length:=by
 obtain⟨m,rfl,hm⟩:=h.cast;have hx:=List.getElem?_eq_getElem hm;have hnd:=nd_at hx;have hk':(A.nd (m:Int)).h.kind=20:=hk;rw[hnd]at hk' ⊢;obtain⟨h1,h2⟩:=W.fall m _ hx hk';have h3:=(W.n m _ hx).fall hk' h2;have h4:=(W.rw (W.n m _ hx).list).clause.ok h2;rw[h1];exact⟨by have:=h4.1;omega,h3⟩
theorem Wf.next {n:Int} (h:Ok n A.ns.length) (hk:A.kd n=20):PlW A (A.next (A.nd n).list (A.tgt n)):=by
 have h1:=W.nextOk h hk;have h2:Ok (A.tgt n) A.ns.length:=by
  obtain⟨m,rfl,hm⟩:=h.cast;have hx:=List.getElem?_eq_getElem hm;have hk':(A.nd (m:Int)).h.kind=20:=hk;rw[nd_at hx]at hk';exact W.tg m _ hx (by omega)
 obtain⟨j,e,hj⟩:=h1.cast;refine pl_list ?_;unfold Tr.ch;rw[e];refine(W.nd h2).ch _ ?_;rw[Int.toNat_natCast,List.getD_eq_getElem?_getD,List.getElem?_eq_getElem hj];exact List.getElem_mem hj
theorem Wf.tgt {n:Int} (h:Ok n A.ns.length) (hk:A.kd n=17∨A.kd n=18∨A.kd n=19∨A.kd n=20):Ok (A.tgt n) A.ns.length∧(A.kd n=18->A.kd (A.tgt n)=11∨A.kd (A.tgt n)=12):=by
 obtain⟨m,rfl,hm⟩:=h.cast;have hx:=List.getElem?_eq_getElem hm;unfold Tr.kd at hk;rw[nd_at hx]at hk;refine⟨W.tg m _ hx hk,fun h18=>W.loop m _ hx ?_⟩;unfold Tr.kd at h18;rw[nd_at hx]at h18;exact h18
theorem Wf.entered {n:Int} (h:Ok n A.ns.length):PlW A (A.entered n):=by
 have hN:=W.nd h;unfold Tr.entered;split
 ·next h1=>exact .inr (.inl ⟨rfl,h,h1,rfl⟩)
 split
 ·next h1=>exact .inr (.inr (.inr (.inr (.inr ⟨rfl,hN.cnd.ok (hN.hc (.inr h1)),rfl⟩))))
 split
 ·split
  ·next h2=>exact .inr (.inr (.inr (.inr (.inr ⟨rfl,hN.cnd.ok h2,rfl⟩))))
  ·exact .inr (.inr (.inl ⟨rfl,h,by simp,by simp⟩))
 split
 ·exact .inr (.inr (.inr (.inl ⟨rfl,h,rfl⟩)))
 split
 ·next h1=>exact pl_list (hN.body.ok (hN.hb (.inr (.inr (.inr h1)))))
 split
 ·next h1=>exact W.behind (W.tgt h (.inl h1)).1
 split
 ·next h1=>exact W.again (W.tgt h (.inr (.inl h1))).1 ((W.tgt h (.inr (.inl h1))).2 h1)
 split
 ·next h1=>
  have hT:=W.nd (W.tgt h (.inr (.inr (.inl h1)))).1;have h3:=get_lt hT.here;have h4:=(W.rw hT.list).len;have h5:=hT.place;exact .inl ⟨rfl,hT.list,by simp only;omega,by simp only;omega⟩
 split
 ·next h1=>exact W.next h h1
 ·exact W.behind h
theorem Wf.begun {n:Int} (h:Ok n A.ns.length):PlW A (A.begun n):=by
 have hN:=W.nd h;unfold Tr.begun;split
 ·next h1=>exact .inr (.inr (.inr (.inr (.inr ⟨rfl,hN.self.ok h1,rfl⟩))))
 split
 ·next h1=>exact .inr (.inr (.inr (.inr (.inr ⟨rfl,hN.ini.ok h1,rfl⟩))))
 ·exact W.entered h
theorem Wf.mv {p:Pl} (h:PlW A p):(∀ q∈(A.mv p).1,PlW A q)∧(∀ x,(A.mv p).2=some x->x= -2∨Ok x A.ls.length):=by
 unfold Tr.mv;rcases h with⟨e,h1,h2,h3⟩ |⟨e,h1,h2,h3⟩ |⟨e,h1,h2,h3⟩ |⟨e,h1,h2⟩ |⟨e,h1,h2,h3⟩ |⟨e,h1,h2⟩<;>rw[e]
 ·simp only[if_true];have hR:=W.rw h1;split
  ·next hb=>
   refine⟨fun q hq=>?_,fun x hx=>by simp at hx⟩;simp at hq;subst hq;have hm:=hR.nodes _ (getD_mem h2 hb 0);rw[List.getD_eq_getElem?_getD]at hm;exact W.begun hm
  ·split
   ·exact⟨fun q hq=>by simp at hq,fun x hx=>by simp at hx;exact .inl hx.symm⟩
   ·next ho=>
    refine⟨fun q hq=>?_,fun x hx=>by simp at hx⟩;simp at hq;subst hq;exact W.left h1 ho
 ·simp only[show ¬ (2:Int)=1 by omega,if_false,if_true];split
  ·refine⟨fun q hq=>?_,fun x hx=>by simp at hx⟩;simp at hq;subst hq;have hN:=W.nd h1;exact pl_list (hN.body.ok (hN.hb (by unfold Tr.kd at h2;omega)))
  ·next hc=>exact⟨fun q hq=>by simp at hq,fun x hx=>by simp at hx;subst hx;exact .inr ((W.nd h1).cnd.ok hc)⟩
 ·simp only[show ¬ (3:Int)=1 by omega,show ¬ (3:Int)=2 by omega,if_false,if_true];split
  ·next hb=>exact⟨fun q hq=>by simp at hq,fun x hx=>by simp only[Option.some.injEq]at hx;subst hx;exact .inr ((W.nd h1).te _ (getD_mem h2 hb 0))⟩
  ·refine⟨fun q hq=>?_,fun x hx=>by simp at hx⟩;simp at hq;subst hq;exact W.failed h1
 ·simp only[show ¬ (4:Int)=1 by omega,show ¬ (4:Int)=2 by omega,show ¬ (4:Int)=3 by omega,if_false,if_true];exact⟨W.chosen h1,fun x hx=>by simp at hx⟩
 ·simp only[show ¬ (5:Int)=1 by omega,show ¬ (5:Int)=2 by omega,show ¬ (5:Int)=3 by omega,show ¬ (5:Int)=4 by omega,if_false,if_true];refine⟨fun q hq=>?_,fun x hx=>by simp at hx⟩;simp at hq;rcases hq with rfl|rfl
  ·have hN:=W.nd h1;exact pl_list (hN.body.ok (hN.hb (by unfold Tr.kd at h2;omega)))
  ·exact W.behind h1
 ·simp only[show ¬ (6:Int)=1 by omega,show ¬ (6:Int)=2 by omega,show ¬ (6:Int)=3 by omega,show ¬ (6:Int)=4 by omega,show ¬ (6:Int)=5 by omega,if_false];exact⟨fun q hq=>by simp at hq,fun x hx=>by simp at hx;subst hx;exact .inr h1⟩
theorem Wf.aft {i:Int} (h:Ok i A.ls.length) (v:Bool): ∀ p∈A.aft i v,PlW A p:=by
 have hL:=W.lf h;have hN:=W.nd hL.of;unfold Tr.aft;split
 ·split
  ·simp
  ·intro p hp;simp at hp;subst hp;exact W.behind hL.of
 split
 ·intro p hp;simp at hp;subst hp;exact W.entered hL.of
 split
 ·next h4=>intro p hp;simp at hp;subst hp;exact .inr (.inl ⟨rfl,hL.of,.inr (hL.four h4),rfl⟩)
 split
 ·next h5=>
  have h6:=hL.five h5;split
  ·intro p hp;simp only[List.mem_singleton]at hp;subst hp;refine pl_list ?_;have h7:=hN.tof _ (getD_mem h6.1 h6.2 0);obtain⟨j,e,hj⟩:=h7.cast;unfold Tr.ch;rw[e];refine hN.ch _ ?_;rw[Int.toNat_natCast,List.getD_eq_getElem?_getD,List.getElem?_eq_getElem hj];exact List.getElem_mem hj
  ·intro p hp;simp at hp;subst hp;have:=hN.tl;have h8:=h6.1;have h9:=h6.2;exact .inr (.inr (.inl ⟨rfl,hL.of,by simp only;omega,by simp only;omega⟩))
 ·next h1 h2 h4 h5=>
  have hw:=hL.what;have h3:=hL.three (by omega);intro p hp;simp at hp;subst hp;unfold Tr.decided;split
  ·next hk=>exact .inr (.inr (.inr (.inr (.inl ⟨rfl,hL.of,hk,rfl⟩))))
  split
  ·exact .inr (.inr (.inl ⟨rfl,hL.of,by simp,by simp⟩))
  split
  ·exact pl_list (hN.body.ok (hN.hb (by unfold Tr.kd at*;omega)))
  split
  ·next hk=>exact pl_list (hN.other.ok hk)
  ·exact W.behind hL.of
end
end
section
structure Met {α:Type} (σ:Sy α) (F seen todo:List α) (rec:Int->Prop):Prop where
 nodup:seen.Nodup
 sound: ∀ p,p∈seen∨p∈todo-> ∀ x m,Rch σ m p x-> ∃ q∈F,∃ k,Rch σ k q x
 next: ∀ p∈seen,∀ q∈(σ p).1,q∈seen∨q∈todo
 leaf: ∀ p∈seen,∀ x,(σ p).2=some x->rec x
 from_: ∀ p∈F,p∈seen∨p∈todo
 met: ∀ x,rec x-> ∃ q∈F,∃ k,Rch σ k q x
section
variable {α:Type} {σ:Sy α} {F seen todo:List α} {rec rec':Int->Prop}
theorem Met.start:Met σ F [] F (fun _=>False):=
 ⟨List.nodup_nil,fun p hp x m hr=>by
  rcases hp with hp|hp
  ·simp at hp
  ·exact⟨p,hp,m,hr⟩,by simp,by simp,fun p hp=>.inr hp,fun x h=>h.elim⟩
theorem Met.skip {p:α} (h:Met σ F seen (p::todo) rec) (hp:p∈seen):Met σ F seen todo rec:=by
 refine⟨h.nodup,fun q hq=>h.sound q (hq.imp id (List.mem_cons_of_mem _)),fun q hq r hr=>?_,h.leaf,fun q hq=>?_,h.met⟩
 ·rcases h.next q hq r hr with h1|h1
  ·exact .inl h1
  ·rcases List.mem_cons.1 h1 with rfl|h1
   ·exact .inl hp
   ·exact .inr h1
 ·rcases h.from_ q hq with h1|h1
  ·exact .inl h1
  ·rcases List.mem_cons.1 h1 with rfl|h1
   ·exact .inl hp
   ·exact .inr h1
theorem Met.take {p:α} {l:List α} {o:Option Int} (h:Met σ F seen (p::todo) rec) (hp:p∉seen) (hl:(σ p).1=l) (ho:(σ p).2=o) (hr: ∀ x,rec' x↔rec x∨o=some x):Met σ F (seen++ [p]) (todo++l) rec':=by
 have hs:=h.sound p (.inr List.mem_cons_self);refine⟨?_,fun q hq x m hx=>?_,fun q hq r hqr=>?_,fun q hq x hx=>?_,fun q hq=>?_,fun x hx=>?_⟩
 ·rw[List.nodup_append];exact⟨h.nodup,by simp,fun a ha b hb e=>by simp at hb;subst hb;subst e;exact hp ha⟩
 ·simp only[List.mem_append,List.mem_singleton]at hq;rcases hq with(hq|rfl) |hq|hq
  ·exact h.sound q (.inl hq) x m hx
  ·exact hs x m hx
  ·exact h.sound q (.inr (List.mem_cons_of_mem _ hq)) x m hx
  ·exact hs x (m+1) (.step (by rw[hl];exact hq) hx)
 ·simp only[List.mem_append,List.mem_singleton]at hq ⊢;rcases hq with hq|rfl
  ·rcases h.next q hq r hqr with h1|h1
   ·exact .inl (.inl h1)
   ·rcases List.mem_cons.1 h1 with rfl|h1
    ·exact .inl (.inr rfl)
    ·exact .inr (.inl h1)
  ·exact .inr (.inr (by rw[<-hl];exact hqr))
 ·simp only[List.mem_append,List.mem_singleton]at hq;rcases hq with hq|rfl
  ·exact(hr x).2 (.inl (h.leaf q hq x hx))
  ·exact(hr x).2 (.inr (by rw[<-ho];exact hx))
 ·simp only[List.mem_append,List.mem_singleton];rcases h.from_ q hq with h1|h1
  ·exact .inl (.inl h1)
  ·rcases List.mem_cons.1 h1 with rfl|h1
   ·exact .inl (.inr rfl)
   ·exact .inr (.inl h1)
 ·rcases(hr x).1 hx with h1|h1
  ·exact h.met x h1
  ·exact hs x 0 (.leaf (by rw[ho];exact h1))
theorem Met.done (h:Met σ F seen [] rec) (x:Int):rec x↔ ∃ p∈F,∃ m,Rch σ m p x:=by
 refine⟨h.met x,?_⟩;have key: ∀ m p,p∈seen->Rch σ m p x->rec x:=by
  intro m
  induction m with
  |zero=>
   intro p hp hr;cases hr with
   |leaf h1=>exact h.leaf p hp x h1
  |succ m ih=>
   intro p hp hr;cases hr with
   |step h1 h2=>
    rcases h.next p hp _ h1 with h3|h3
    ·exact ih _ h3 h2
    ·simp at h3
 rintro⟨p,hp,m,hr⟩;rcases h.from_ p hp with h1|h1
 ·exact key m p h1 hr
 ·simp at h1
theorem Met.congr (h:Met σ F seen todo rec) (hr: ∀ x,rec x↔rec' x):Met σ F seen todo rec':=
 ⟨h.nodup,h.sound,h.next,fun p hp x hx=>(hr x).1 (h.leaf p hp x hx),h.from_,fun x hx=>h.met x ((hr x).2 hx)⟩
end
theorem nodup_len: ∀ (K:Nat) (l:List Nat),l.Nodup->(∀ x∈l,x < K)->l.length<=K:=by
 intro K
 induction K with
 |zero=>
  intro l _ h;cases l with
  |nil=>simp
  |cons x l=>have:=h x (by simp);omega
 |succ K ih=>
  intro l hn h;have h1:=ih (l.filter (· !=K)) (hn.sublist List.filter_sublist) (fun x hx=>by
   simp only[List.mem_filter,bne_iff_ne]at hx;have:=h x hx.1;omega)
  have h2:l.length<=(l.filter (· !=K)).length+1:=by
   clear ih h1 h
   induction l with
   |nil=>simp
   |cons x l ih=>
    obtain⟨g1,g2⟩:=List.nodup_cons.1 hn;by_cases e:x=K
    ·subst e;have:l.filter (· !=x)=l:=by
      rw[List.filter_eq_self];intro y hy;simp only[bne_iff_ne];rintro rfl;exact g1 hy
     simp[this]
    ·have:=ih g2;rw[List.filter_cons_of_pos (by simpa using e)];simp only[List.length_cons];omega
  omega
theorem nodup_map {α:Type} {f:α->Nat} : ∀ {l:List α},l.Nodup->(∀ x∈l,∀ y∈l,f x=f y->x=y)->(l.map f).Nodup:=by
 intro l
 induction l with
 |nil=>simp
 |cons a l ih=>
  intro hn h;obtain⟨g1,g2⟩:=List.nodup_cons.1 hn;rw[List.map_cons,List.nodup_cons];refine⟨fun hc=>?_,ih g2 (fun x hx y hy=>h x (List.mem_cons_of_mem _ hx) y (List.mem_cons_of_mem _ hy))⟩;obtain⟨y,hy,e⟩:=List.mem_map.1 hc;exact g1 (h y (List.mem_cons_of_mem _ hy) a List.mem_cons_self e ▸ hy)
def Pl.code (p:Pl):Nat:=(p.op.toNat*10000+p.a.toNat)*10000+p.b.toNat
theorem seen_len {l:List Pl} (hn:l.Nodup) (h: ∀ p∈l,0<=p.op∧p.op<=6∧0<=p.a∧p.a < 10000∧0<=p.b∧p.b < 10000):l.length<=700000000:=by
 have h1:=nodup_len 700000000 (l.map Pl.code) (nodup_map hn (fun x hx y hy e=>by
  have h1:=h x hx;have h2:=h y hy;obtain⟨xo,xa,xb⟩:=x;obtain⟨yo,ya,yb⟩:=y;unfold Pl.code at e;simp only at h1 h2 e;have e1:xo=yo:=by omega
  have e2:xa=ya:=by omega
  have e3:xb=yb:=by omega
  rw[e1,e2,e3])) (fun x hx=>by
  obtain⟨p,hp,rfl⟩:=List.mem_map.1 hx;have:=h p hp;unfold Pl.code;omega)
 simpa using h1
theorem seen_int {l:List Int} {K:Nat} (hn:l.Nodup) (h: ∀ p∈l,0<=p∧p < K):l.length<=K:=by
 have h1:=nodup_len K (l.map Int.toNat) (nodup_map hn (fun x hx y hy e=>by
  have h1:=h x hx;have h2:=h y hy;omega)) (fun x hx=>by
  obtain⟨p,hp,rfl⟩:=List.mem_map.1 hx;have:=h p hp;omega)
 simpa using h1
def Rise (l:List Int):Prop:=l.Pairwise (· < ·)
theorem rise_eq: ∀ {a b:List Int},Rise a->Rise b->(∀ x,x∈a↔x∈b)->a=b:=by
 intro a
 induction a with
 |nil=>
  intro b _ _ h;cases b with
  |nil=>rfl
  |cons y b=>exact absurd ((h y).2 (by simp)) (by simp)
 |cons x a ih=>
  intro b ha hb h;cases b with
  |nil=>exact absurd ((h x).1 (by simp)) (by simp)
  |cons y b=>
   obtain⟨h1,h2⟩:=List.pairwise_cons.1 ha;obtain⟨h3,h4⟩:=List.pairwise_cons.1 hb;have hxy:x=y:=by
    rcases List.mem_cons.1 ((h x).1 (by simp))with e|e
    ·exact e
    ·rcases List.mem_cons.1 ((h y).2 (by simp))with e'|e'
     ·exact e'.symm
     ·have:=h3 x e;have:=h1 y e';omega
   subst hxy;rw[ih h2 h4 (fun z=>?_)];have:=h z;simp only[List.mem_cons]at this;constructor
   ·intro hz;rcases this.1 (.inr hz)with e|e
    ·subst e;have:=h1 z hz;omega
    ·exact e
   ·intro hz;rcases this.2 (.inr hz)with e|e
    ·subst e;have:=h3 z hz;omega
    ·exact e
def insR (x:Int) (l:List Int):List Int:=
 l.takeWhile (· < x)++(if(l.dropWhile (· < x)).head? =some x then l.dropWhile (· < x)else x::l.dropWhile (· < x))
theorem take_drop (x:Int) (l:List Int):l.takeWhile (· < x)++l.dropWhile (· < x)=l:=List.takeWhile_append_dropWhile
theorem insR_mem {x y:Int} {l:List Int} :y∈insR x l↔y=x∨y∈l:=by
 have h:=take_drop x l;unfold insR;split
 ·next hh=>
  rw[h];constructor
  ·exact .inr
  ·rintro(rfl|h1)
   ·have:=List.mem_of_mem_head? (Option.mem_def.2 hh);rw[<-h];exact List.mem_append_right _ this
   ·exact h1
 ·rw[List.mem_append,List.mem_cons];conv=>rhs;rw[<-h,List.mem_append]
  constructor
  ·rintro(h1|h1|h1)
   ·exact .inr (.inl h1)
   ·exact .inl h1
   ·exact .inr (.inr h1)
  ·rintro(h1|h1|h1)
   ·exact .inr (.inl h1)
   ·exact .inl h1
   ·exact .inr (.inr h1)
theorem takeW_lt {x:Int} : ∀ {l:List Int} {y:Int},y∈l.takeWhile (· < x)->y < x:=by
 intro l
 induction l with
 |nil=>simp
 |cons z l ih=>
  intro y hy;rw[List.takeWhile_cons]at hy;split at hy
  ·next hz=>
   rcases List.mem_cons.1 hy with rfl|hy
   ·simpa using hz
   ·exact ih hy
  ·simp at hy
theorem dropW_ge {x:Int} : ∀ {l:List Int},Rise l-> ∀ {y:Int},y∈l.dropWhile (· < x)->x<=y:=by
 intro l
 induction l with
 |nil=>simp
 |cons z l ih=>
  intro hr y hy;obtain⟨h1,h2⟩:=List.pairwise_cons.1 hr;rw[List.dropWhile_cons]at hy;split at hy
  ·exact ih h2 hy
  ·next hz=>
   have hz': ¬ z < x:=by simpa using hz
   rcases List.mem_cons.1 hy with rfl|hy
   ·omega
   ·have:=h1 y hy;omega
theorem insR_rise {x:Int} {l:List Int} (h:Rise l):Rise (insR x l):=by
 have h':=h;unfold Rise at h';rw[<-take_drop x l,List.pairwise_append]at h';obtain⟨h1,h2,h3⟩:=h';unfold insR Rise;rw[List.pairwise_append];split
 ·exact⟨h1,h2,h3⟩
 ·next hh=>
  refine⟨h1,List.pairwise_cons.2 ⟨fun y hy=>?_,h2⟩,fun a ha b hb=>?_⟩
  ·have:=dropW_ge h hy;by_cases e:y=x
   ·exfalso;subst e;apply hh;cases hd:l.dropWhile (· < y)with
    |nil=>rw[hd]at hy;simp at hy
    |cons z r=>
     rw[hd]at hy h2;rcases List.mem_cons.1 hy with rfl|hy
     ·rfl
     ·have h4:=(List.pairwise_cons.1 h2).1 y hy;have h5:=dropW_ge (x:=y) h (y:=z) (by rw[hd];simp);omega
   ·omega
  ·rcases List.mem_cons.1 hb with rfl|hb
   ·exact takeW_lt ha
   ·exact h3 a ha b hb
def risL (l:List Int):List Int:=l.foldl (fun o x=>insR x o) []
theorem risL_aux: ∀ (l o:List Int),Rise o->Rise (l.foldl (fun o x=>insR x o) o)∧ ∀ y,y∈l.foldl (fun o x=>insR x o) o↔y∈l∨y∈o:=by
 intro l
 induction l with
 |nil=>intro o h;exact⟨h,by simp⟩
 |cons x l ih=>
  intro o h;obtain⟨h1,h2⟩:=ih (insR x o) (insR_rise h);refine⟨h1,fun y=>?_⟩;simp only[List.foldl_cons];rw[h2,insR_mem,List.mem_cons];constructor
  ·rintro(a|a|a)
   ·exact .inl (.inr a)
   ·exact .inl (.inl a)
   ·exact .inr a
  ·rintro((a|a) |a)
   ·exact .inr (.inl a)
   ·exact .inl a
   ·exact .inr (.inr a)
theorem risL_rise (l:List Int):Rise (risL l):=(risL_aux l [] List.Pairwise.nil).1
theorem risL_mem {l:List Int} {y:Int} :y∈risL l↔y∈l:=by rw[risL,(risL_aux l [] List.Pairwise.nil).2];simp
end
end
section
def Tr.nsT (A:Tr):List Nd:=A.ns.mapIdx fun i x=> { x with target:=A.tgt i }
structure TrM (w:World) (lo p:Nat) (A:Tr) (num:Int) (rt:Bool) (lv nv rv:Value) (NR RR:List (List Value)):Prop where
 t:TM w lo p A.ls NR RR num rt lv nv rv
 n:AllAt (NdAt w lo none) A.nsT NR
 r:AllAt (RwAt w lo none) A.rs RR
 b:A.ls.length<=90000∧A.ns.length<=90000∧A.rs.length<=90000
theorem AllAt.get {α:Type} {P:α->List Value->Prop} : ∀ {xs:List α} {rs:List (List Value)},AllAt P xs rs-> ∀ {i:Nat} {x:α},xs[i]? =some x-> ∃ r,rs[i]? =some r∧P x r:=by
 intro xs rs h
 induction h with
 |nil=>intro i x hx;simp at hx
 |cons h1 _ ih=>
  intro i x hx;cases i with
  |zero=>simp at hx;subst hx;exact⟨_,by simp,h1⟩
  |succ i=>simp at hx;obtain⟨r,h2,h3⟩:=ih hx;exact⟨r,by simpa using h2,h3⟩
theorem nsT_len {A:Tr} :A.nsT.length=A.ns.length:=by simp[Tr.nsT]
theorem nsT_get {A:Tr} {m:Nat} (hm:m < A.ns.length):A.nsT[m]? =some { A.nd m with target:=A.tgt m } :=by
 unfold Tr.nsT;rw[List.getElem?_mapIdx,List.getElem?_eq_getElem hm,nd_at (List.getElem?_eq_getElem hm)];rfl
structure NdM (w:World) (lo g m:Nat) (x:Nd) (vb ve vc cv tv ov:Value):Prop where
 cell: ∀ (j:Nat) (u:Value),(ndCells x vb ve vc cv tv ov)[j]? =some u->w.cell? ⟨g,m*24+j,none⟩=some u
 vb: ∃ a n c,vb=.slice a n c
 ve: ∃ a n c,ve=.slice a n c
 vc: ∃ a n c,vc=.slice a n c
 cv:w.ownsRow lo 110 3 cv x.choices.length (x.choices.map Cho.cells).flatten
 tv:w.ownsRow lo 3 1 tv x.tests.length (x.tests.map (Value.int .i64))
 ov:w.ownsRow lo 3 1 ov x.testOf.length (x.testOf.map (Value.int .i64))
structure RwM (w:World) (lo g m:Nat) (x:Rw) (iv:Value):Prop where
 cell: ∀ (j:Nat) (u:Value),([.int .i64 x.owner,.int .i64 x.clause,iv]:List Value)[j]? =some u->w.cell? ⟨g,m*3+j,none⟩=some u
 iv:w.ownsRow lo 3 1 iv x.nodes.length (x.nodes.map (Value.int .i64))
section
variable {w w':World} {lo p:Nat} {A:Tr} {num:Int} {rt:Bool} {lv nv rv:Value} {NR RR:List (List Value)}
theorem TrM.nlen (M:TrM w lo p A num rt lv nv rv NR RR):NR.length=A.ns.length:=by rw[<-M.n.len,nsT_len]
theorem TrM.rlen (M:TrM w lo p A num rt lv nv rv NR RR):RR.length=A.rs.length:=M.r.len.symm
theorem TrM.low (M:TrM w lo p A num rt lv nv rv NR RR) (h:Below w.heap.size w w'):TrM w' lo p A num rt lv nv rv NR RR:=by
 have hB:lo<=w.heap.size:=by have:=M.t.hB;have:=M.t.blk.lt;omega
 have hF:Fr [] lo w w':=Fr.of_below h hB;exact⟨M.t.fr hF (by decide),M.n.mono fun _ _ k=>k.fr hF (by simp) (by simp) (Nat.le_refl _),M.r.mono fun _ _ k=>k.fr hF (by simp) (Nat.le_refl _),M.b⟩
theorem own_block {base e size n:Nat} {v:Value} {xs:List Value} (h:w.ownsRow base e size v n xs) (hn:0 < n): ∃ g cap,v=.slice (some ⟨g,0,none⟩) n cap:=by
 rcases h.2 with⟨_,h0⟩ |⟨g,cap,cur,hv,_⟩
 ·omega
 ·exact⟨g,cap,hv⟩
theorem TrM.nvAt (M:TrM w lo p A num rt lv nv rv NR RR) (hn:0 < A.ns.length): ∃ g cap,nv=.slice (some ⟨g,0,none⟩) A.ns.length cap:=by
 rw[<-M.nlen];exact own_block M.t.n (by rw[M.nlen];exact hn)
theorem TrM.rvAt (M:TrM w lo p A num rt lv nv rv NR RR) (hn:0 < A.rs.length): ∃ g cap,rv=.slice (some ⟨g,0,none⟩) A.rs.length cap:=by
 rw[<-M.rlen];exact own_block M.t.r (by rw[M.rlen];exact hn)
theorem TrM.nvs (M:TrM w lo p A num rt lv nv rv NR RR): ∃ a cap,nv=.slice a A.ns.length cap:=by
 obtain⟨a,c,h⟩:=own_slice_any M.t.n;exact⟨a,c,by rw[h,M.nlen]⟩
theorem TrM.rvs (M:TrM w lo p A num rt lv nv rv NR RR): ∃ a cap,rv=.slice a A.rs.length cap:=by
 obtain⟨a,c,h⟩:=own_slice_any M.t.r;exact⟨a,c,by rw[h,M.rlen]⟩
theorem TrM.lvs (M:TrM w lo p A num rt lv nv rv NR RR): ∃ a cap,lv=.slice a A.ls.length cap:=own_slice_any M.t.l
theorem TrM.nd {g cap:Nat} (M:TrM w lo p A num rt lv (.slice (some ⟨g,0,none⟩) A.ns.length cap) rv NR RR) {m:Nat} (hm:m < A.ns.length): ∃ vb ve vc cv tv ov,NdM w lo g m { A.nd m with target:=A.tgt m } vb ve vc cv tv ov:=by
 obtain⟨r,h1,vb,ve,vc,cv,tv,ov,rfl,h2,h3,h4,h5,h6,h7⟩:=M.n.get (nsT_get hm);have hl:=get_lt h1;have hn:NR.length=A.ns.length:=M.nlen;have ht:=M.t.n;refine⟨vb,ve,vc,cv,tv,ov,fun j u hu=>?_,h2,h3,h4,h5,h6.1,h7.1⟩;have hj:j < 24:=by have:=get_lt hu;simpa [ndCells]using this
 rw[show A.ns.length=NR.length from hn.symm]at ht;rw[World.ownsRow.cellAt ht (m*24+j) (by omega),flat_get (n:=24) M.t.nl h1 hj];exact hu
theorem TrM.rw {g cap:Nat} (M:TrM w lo p A num rt lv nv (.slice (some ⟨g,0,none⟩) A.rs.length cap) NR RR) {m:Nat} (hm:m < A.rs.length): ∃ iv,RwM w lo g m (A.rw m) iv:=by
 have hx:=List.getElem?_eq_getElem hm;obtain⟨r,h1,iv,rfl,h2⟩:=M.r.get hx;rw[rw_at hx];have hl:=get_lt h1;have ht:=M.t.r;have hn:RR.length=A.rs.length:=M.rlen;refine⟨iv,fun j u hu=>?_,h2.1⟩;have hj:j < 3:=by have:=get_lt hu;simpa using this
 rw[show A.rs.length=RR.length from hn.symm]at ht;rw[World.ownsRow.cellAt ht (m*3+j) (by omega),flat_get (n:=3) M.t.rl h1 hj];exact hu
theorem flat_map {α:Type} {f:α->List Value} {n:Nat} {l:List α} (hf: ∀ x,(f x).length=n) {i j:Nat} {x:α} (hx:l[i]? =some x) (hj:j < n):(l.map f).flatten[i*n+j]? =(f x)[j]? :=by
 refine flat_get (n:=n) (fun r hr=>?_) (by rw[List.getElem?_map,hx];rfl) hj;obtain⟨y,_,rfl⟩:=List.mem_map.1 hr;exact hf y
theorem TrM.lf {g cap:Nat} (M:TrM w lo p A num rt (.slice (some ⟨g,0,none⟩) A.ls.length cap) nv rv NR RR) {m:Nat} (hm:m < A.ls.length): ∀ (j:Nat) u,(A.lf m).cells[j]? =some u->w.cell? ⟨g,m*3+j,none⟩=some u:=by
 have hx:=List.getElem?_eq_getElem hm;intro j u hu;have hj:j < 3:=by have:=get_lt hu;simpa [Lf.cells]using this
 rw[lf_at hx]at hu;rw[World.ownsRow.cellAt M.t.l (m*3+j) (by omega),flat_map (n:=3) (fun _=>rfl) hx hj];exact hu
end
end
section
theorem AllAt.of_get {α:Type} {P:α->List Value->Prop} : ∀ {xs:List α} {rs:List (List Value)},xs.length=rs.length->(∀ (i:Nat) x r,xs[i]? =some x->rs[i]? =some r->P x r)->AllAt P xs rs:=by
 intro xs
 induction xs with
 |nil=>intro rs h _;cases rs with|nil=>exact .nil|cons _ _=>simp at h
 |cons x xs ih=>
  intro rs h k;cases rs with
  |nil=>simp at h
  |cons r rs=>exact .cons (k 0 x r rfl rfl) (ih (by simpa using h) fun i y q h1 h2=>k (i+1) y q (by simpa using h1) (by simpa using h2))
theorem AllAt.both {α:Type} {P:α->List Value->Prop} {xs:List α} {rs:List (List Value)} (h:AllAt P xs rs) {i:Nat} {x:α} {r:List Value} (h1:xs[i]? =some x) (h2:rs[i]? =some r):P x r:=by
 obtain⟨r',h3,h4⟩:=h.get h1;rw[h2]at h3;cases h3;exact h4
section
variable {w w':World} {lo p:Nat} {A:Tr} {num:Int} {rt:Bool} {lv nv rv:Value} {NR RR:List (List Value)}
theorem TrM.set {g cap:Nat} (M:TrM w lo p A num rt lv (.slice (some ⟨g,0,none⟩) A.ns.length cap) rv NR RR) {k:Nat} (hk:k < A.ns.length) (v:Int) (tg:List Int)
  (h1: ∀ i:Nat,i≠k->({ A with tg:=tg } :Tr).tgt i=A.tgt i) (h2:({ A with tg:=tg } :Tr).tgt k=v):
  (∃ NR',TrM (w.setCell ⟨g,k*24+23,none⟩ (.int .i64 v)) lo p { A with tg:=tg } num rt lv (.slice (some ⟨g,0,none⟩) A.ns.length cap) rv NR' RR)∧Fr [79] lo w (w.setCell ⟨g,k*24+23,none⟩ (.int .i64 v)):=by
 obtain⟨r,hr,hnd⟩:=M.n.get (nsT_get hk);have hn:NR.length=A.ns.length:=M.nlen;have ht:=M.t.n;have hlt:=(ht.lt g rfl)
 have hty:=own_ty ht (g:=g) rfl;have hF:Fr [79] lo w (w.setCell ⟨g,k*24+23,none⟩ (.int .i64 v)):=(Fr.refl [79] lo w).setT _ _ hty (by simp) hlt.1;refine⟨⟨NR.set k (r.set 23 (.int .i64 v)),⟨⟨M.t.hB,M.t.blk.fr hF (by decide),own_fr hF M.t.l (by decide),?_,own_fr hF M.t.r (by decide),?_,M.t.rl⟩,?_,?_,M.b⟩⟩,hF⟩
 ·have h0:=ht;rw[<-hn]at h0;have h3:=(h0.stored (k*24+23) (.int .i64 v)).1;rw[flat_set (n:=24) M.t.nl hr (by omega)]at h3;rw[List.length_set,<-hn];exact h3
 ·intro q hq;rcases List.mem_or_eq_of_mem_set hq with h|h
  ·exact M.t.nl q h
  ·rw[h,List.length_set];exact M.t.nl r (List.mem_of_getElem? hr)
 ·refine AllAt.of_get (by rw[nsT_len,List.length_set,hn]) fun i x q hx hq=>?_;have hi:i < A.ns.length:=by have:=get_lt hx;rw[nsT_len]at this;exact this
  rw[nsT_get (A:= { A with tg:=tg }) hi]at hx;cases hx;by_cases e:i=k
  ·subst e;rw[List.getElem?_set_self (by omega)]at hq;cases hq;obtain⟨vb,ve,vc,cv,tv,ov,rfl,k1,k2,k3,k4,k5,k6⟩:=hnd.fr hF (by simp) (by simp) (Nat.le_refl _);refine⟨vb,ve,vc,cv,tv,ov,?_,k1,k2,k3,k4,k5,k6⟩;rw[h2];rfl
  ·rw[List.getElem?_set_ne (fun e'=>e e'.symm)]at hq;rw[h1 i e];exact(M.n.both (nsT_get hi) hq).fr hF (by simp) (by simp) (Nat.le_refl _)
 ·exact M.r.mono fun _ _ k=>k.fr hF (by simp) (Nat.le_refl _)
theorem tgt_app {A:Tr} {tg:List Int} {v:Int} {k:Nat} (hk:tg.length=k):(∀ i:Nat,i≠k->({ A with tg:=tg++ [v] } :Tr).tgt i=({ A with tg:=tg } :Tr).tgt i)∧({ A with tg:=tg++ [v] } :Tr).tgt k=v:=by
 subst hk;constructor
 ·intro i hi;simp only[Tr.tgt,Int.toNat_natCast,List.getD_eq_getElem?_getD];by_cases h:i < tg.length
  ·rw[List.getElem?_append_left h]
  ·rw[List.getElem?_eq_none (l:=tg) (by omega),List.getElem?_eq_none (by simp;omega)]
 ·simp[Tr.tgt]
theorem tgt_out {A:Tr} {k:Nat} (hk:A.tg.length<=k):A.tgt k= -1:=by
 simp[Tr.tgt,List.getElem?_eq_none hk]
end
end
section
theorem wpList_load_at {P:Program} {ops:Array Oper} {rest:List Oper} {op:Oper} {a:Act} {w:World} {Q:Exit->Act->World->Prop} (hgd:op.guard=none) (ty:TypeId) (x:Operand) (ho:op.op=.load ty x)
  {g o:Nat} (hx:a.eval x=.pointer (some ⟨g,o,none⟩)) (cs:List Value) (hc: ∀ (j:Nat) u,cs[j]? =some u->w.cell? ⟨g,o+j,none⟩=some u) (d:TypeDesc) (hu:P.underlying ty=some d) (hd:d.isRow=true) (hi:(P.info? ty).map (·.size)=some cs.length)
  (h:wpList P ops Q rest (a.put op.dst (.agg cs.toArray)) w):wpList P ops Q (op::rest) a w:=
 wpList_load_mid hgd ty x ho g o hx cs d (fun j v hj=>hc j v hj) hu hd hi h
theorem wpList_alloc_new {P:Program} {ops:Array Oper} {rest:List Oper} {op:Oper} {a:Act} {w:World} {Q:Exit->Act->World->Prop} (hgd:op.guard=none) (ty:TypeId) (ho:op.op=.alloc ty) (zs:List Value)
  (hr:(Instr.alloc ty true (.tuple #[])).run P w=.ok (.pointer (some ⟨w.heap.size,0,none⟩)) (w.alloc (.cells zs.toArray ty)))
  (h: ∀ w',Blk w' w.heap.size zs ty->Below w.heap.size w w'->wpList P ops Q rest (a.put op.dst (.pointer (some ⟨w.heap.size,0,none⟩))) w'):wpList P ops Q (op::rest) a w:=by
 refine wpList_plain hgd fun K hK=>?_;unfold Oper.wp execOp;simp only[ho];have h2:=h _ (Blk.new w zs ty) ((Below.refl _ _).alloc (Nat.le_refl _) _);simp[hr,Oper.upon,Sem.run_bind,Sem.run_pure,Result.andThen_ok];exact hK _ _ h2
theorem wpList_store_new {P:Program} {ops:Array Oper} {rest:List Oper} {op:Oper} {a:Act} {w:World} {Q:Exit->Act->World->Prop} (hgd:op.guard=none) (ty:TypeId) (x y:Operand) (ho:op.op=.store ty x y)
  {b:Nat} {cs:List Value} {t:TypeId} (hx:a.eval x=.pointer (some ⟨b,0,none⟩)) (hb:Blk w b cs t) (ys:List Value) (hy:a.eval y=.agg ys.toArray) (hl:ys.length=cs.length) (hi:(P.info? ty).map (·.size)=some ys.length) (h1: ∀ v∈ys,v.oneCell'=true)
  (h: ∀ w',Blk w' b ys t->Below b w w'->wpList P ops Q rest (a.put op.dst undef) w'):wpList P ops Q (op::rest) a w:=by
 have hs:=hb.setl (ys:=ys) (o:=0);rw[show setl cs 0 ys=ys from setl_all (pre:= []) hl.symm]at hs;refine wpList_store_mid hgd ty x y ho b 0 ys.toArray hx hy (by simpa [hl]using hb.there) (by simpa using hi) (all_oneCell_toArray h1) ?_;exact h _ hs ((Fr.refl [t] b _).setl (by simp) (Nat.le_refl _) hb.ty).below
end
end Go.Proofs.YteedbaejpdjilaaGreat
