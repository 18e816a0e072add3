/- Part of the proof: Pur. -/
import Derived.Test.YteedbaejpdjilaaGreatXPh
set_option linter.all false
set_option maxRecDepth 100000
set_option maxHeartbeats 40000000
namespace Go.Proofs.YteedbaejpdjilaaGreat
open Go.RowKit
section
def T.labels:T->List ByteArray
 | .nil=> []
 | .st h b e c tl=>(if h.label.size=0 then []else [h.label])++(b.labels++(e.labels++(c.labels++tl.labels)))
 | .cl _ b tl=>b.labels++tl.labels
def T.wt:T->Nat
 | .nil=>0
 | .st _ b e c tl=>1+b.wt+e.wt+c.wt+tl.wt
 | .cl x b tl=>1+x.toNat+b.wt+tl.wt
structure SF where
 lab:ByteArray
 loop:Bool
def Hd.frame (h:Hd):List SF:=
 if h.kind=11∨h.kind=12 then [⟨h.label,true⟩]else if h.kind=13∨h.kind=14∨h.kind=15 then [⟨h.label,false⟩]else []
def T.WV (ls:List ByteArray):T->List SF->Bool->Prop
 | .nil,_,_=>True
 | .st h b e c tl,en,fl=>
  (h.kind=17-> ∃ f∈en,h.target.size=0∨f.lab=h.target)∧(h.kind=18-> ∃ f∈en,f.loop=true∧(h.target.size=0∨f.lab=h.target))∧(h.kind=19->h.target∈ls)∧(h.kind=20->fl=true∧tl=.nil)∧
  b.WV ls (h.frame++en) false∧e.WV ls (h.frame++en) false∧c.WV ls (h.frame++en) (h.kind==13)∧tl.WV ls en fl
 | .cl _ b tl,en,sw=>b.WV ls en (sw&&!tl.isNil)∧tl.WV ls en sw
def Bk.fresh (k:Bk):Prop:=k.nodes= []∧k.succs= []∧k.Zn=false
def BS.tgt (S:BS) (d:Nat):Prop:= ∃ k,S.bks[d]? =some k∧k.kind≠1
structure W (ls:List ByteArray) (S:BS) (P:List Nat):Prop where
 nd:P.Nodup
 cur: ∀ c,S.cur=some c->c∉P∧ ∃ k,S.bks[c]? =some k∧k.succs= []
 pend: ∀ p∈P,∃ k,S.bks[p]? =some k∧k.fresh∧k.kind≠1∧k.kind≠10
 labk: ∀ (j:Nat) y,S.Z4[j]? =some y->y.1∈ls∧ ∃ k,S.bks[y.2.go]? =some k∧k.kind=10∧(k.of=none->k.fresh∧S.cur≠some y.2.go∧y.2.brk=none∧y.2.cnt=none)
 labu: ∀ (j j':Nat) y y',S.Z4[j]? =some y->S.Z4[j']? =some y'->y.1=y'.1->j=j'
 labg: ∀ (j j':Nat) y y',S.Z4[j]? =some y->S.Z4[j']? =some y'->y.2.go=y'.2.go->j=j'
 blk: ∀ (i:Nat) k,S.bks[i]? =some k->k.live=false∧1<=k.kind∧k.kind<=19∧k.succs.length<=2∧ ∀ s∈k.succs,S.tgt s
def BS.jD (S:BS) (s:ByteArray):Prop:= ∃ (j:Nat) (y:ByteArray × Lb) (k:Bk),S.Z4[j]? =some y∧y.1=s∧S.bks[y.2.go]? =some k∧k.of≠none
def PB (p:Int):Prop:=0<=p∧p<=200000
def OB (o:Option Int):Prop:= ∀ p,o=some p->PB p
theorem Wi {n:Nat} (h:n<=40000):PB (lp n):=by unfold PB lp;omega
theorem YH {n:Nat} (h:n<=40000):OB (some (ip n)):=by intro p hp;cases hp;unfold PB ip;omega
theorem oG {n:Nat} (h:n<=40000):OB (some (lp n)):=by intro p hp;cases hp;exact Wi h
theorem Hg:PB 0:=by unfold PB;omega
theorem sO:OB (some 0):=by intro p hp;cases hp;exact Hg
structure Bd (S:BS) (m:Nat):Prop where
 pos: ∀ (i:Nat) k,S.bks[i]? =some k->(∀ x∈k.nodes,PB x.pos)∧OB k.of
 len:S.bks.length<=m
 nod: ∀ (i:Nat) k,S.bks[i]? =some k->k.nodes.length<=m
 ask:S.asked.length<=m
 fst: ∃ k,S.bks[0]? =some k∧k.kind=2∧k.of=some 3
structure DF where
 s:SF
 t:Tg
structure QE (D:List ByteArray) (S:BS) (env:List DF):Prop where
 brk: ∀ f∈env,∃ d,f.t.brk=some d∧S.tgt d
 cnt: ∀ f∈env,f.s.loop=true-> ∃ d,f.t.cnt=some d∧S.tgt d
 cn0: ∀ f∈env,f.s.loop=false->f.t.cnt=none
 fal: ∀ f∈env,∀ d,f.t.fal=some d->S.tgt d
 lab: ∀ f∈env,0 < f.s.lab.size->f.s.lab∈D∧ ∃ (j:Nat) (y:ByteArray × Lb),S.Z4[j]? =some y∧y.1=f.s.lab∧y.2.brk=f.t.brk∧y.2.cnt=f.t.cnt
structure Rs (ls D:List ByteArray) (env:List DF) (Ts P:List Nat) (m:Nat) (S:BS):Prop where
 w:W ls S P
 bd:Bd S m
 df: ∀ s,S.jD s↔s∈D
 env:QE D S env
 ts: ∀ d∈Ts,S.tgt d
variable {ls D:List ByteArray} {env:List DF} {Ts P:List Nat} {m:Nat} {S S':BS}
def Mo (S S':BS):Prop:= ∀ (i:Nat) k,S.bks[i]? =some k-> ∃ k',S'.bks[i]? =some k'∧k'.kind=k.kind∧k'.of=k.of
theorem Mo.tgt (h:Mo S S') {d:Nat} (hd:S.tgt d):S'.tgt d:=by
 obtain⟨k,h1,h2⟩:=hd;obtain⟨k',h3,h4,_⟩:=h d k h1;exact⟨k',h3,by rw[h4];exact h2⟩
theorem QE.mo (h:QE D S env) (hm: ∀ d,S.tgt d->S'.tgt d) (hl: ∀ (j:Nat) y,S.Z4[j]? =some y->y.1∈D->S'.Z4[j]? =some y):QE D S' env:=
 ⟨fun f hf=>let⟨d,h1,h2⟩:=h.brk f hf;⟨d,h1,hm _ h2⟩,fun f hf hl=>let⟨d,h1,h2⟩:=h.cnt f hf hl;⟨d,h1,hm _ h2⟩,h.cn0,fun f hf d hd=>hm _ (h.fal f hf d hd),
  fun f hf hs=>by
   obtain⟨h0,j,y,h1,h2,h3⟩:=h.lab f hf hs;exact⟨h0,j,y,hl j y h1 (by rw[h2];exact h0),h2,h3⟩⟩
theorem QE.more (h:QE D S env) {D':List ByteArray} (hD: ∀ s∈D,s∈D'):QE D' S env:=
 ⟨h.brk,h.cnt,h.cn0,h.fal,fun f hf hs=>let⟨h0,h1⟩:=h.lab f hf hs;⟨hD _ h0,h1⟩⟩
theorem Nv (S:BS) (k:Int) (o:Option Int) (i:Nat):(S.new k o).bks[i]? =if i < S.bks.length then S.bks[i]? else if i=S.bks.length then some ⟨k,o,[],[],false,false⟩else none:=by
 unfold BS.new;simp only[];by_cases h:i < S.bks.length
 ·rw[List.getElem?_append_left h,if_pos h]
 ·rw[List.getElem?_append_right (by omega),if_neg h];by_cases h2:i=S.bks.length
  ·subst h2;simp
  ·rw[if_neg h2,List.getElem?_eq_none (by simp;omega)]
theorem ZW {α:Type} {l:List α} {i:Nat} {k:α} (h:l[i]? =some k):i < l.length:=(List.getElem?_eq_some_iff.1 h).1
theorem YM {k:Int} {o:Option Int} {i:Nat} {q:Bk} (h:S.bks[i]? =some q):(S.new k o).bks[i]? =some q:=by
 rw[Nv,if_pos (ZW h)];exact h
theorem TS {k:Int} {o:Option Int} :(S.new k o).bks[S.bks.length]? =some ⟨k,o,[],[],false,false⟩:=by
 rw[Nv,if_neg (by omega),if_pos rfl]
theorem XP {k:Int} {o:Option Int} {i:Nat} {q:Bk} (h:(S.new k o).bks[i]? =some q):S.bks[i]? =some q∨(i=S.bks.length∧q=⟨k,o,[],[],false,false⟩):=by
 rw[Nv]at h;split at h
 ·exact .inl h
 ·split at h
  ·next h2=>cases h;exact .inr ⟨h2,rfl⟩
  ·cases h
theorem U9 {k:Int} {o:Option Int} {d:Nat} (h:S.tgt d):(S.new k o).tgt d:=let⟨q,h1,h2⟩:=h;⟨q,YM h1,h2⟩
theorem W.lt (h:W ls S P) {p:Nat} (hp:p∈P):p < S.bks.length:=by
 obtain⟨k,h1,_⟩:=h.pend p hp;exact ZW h1
theorem Rj {k:Int} {o:Option Int} :(S.new k o).bks.length=S.bks.length+1:=by simp[BS.new]
theorem Jj {k:Int} {o:Option Int} (h:W ls S P) (s:ByteArray):(S.new k o).jD s↔S.jD s:=by
 constructor
 ·rintro⟨j,y,q,h1,h2,h3,h4⟩;obtain⟨_,q',g1,_⟩:=h.labk j y h1;rw[YM g1]at h3;cases h3;exact⟨j,y,_,h1,h2,g1,h4⟩
 ·rintro⟨j,y,q,h1,h2,h3,h4⟩;exact⟨j,y,q,h1,h2,YM h3,h4⟩
theorem Rs.new (h:Rs ls D env Ts P m S) (hm:m<=50000) {k:Int} {o:Option Int} (hk:1 < k∧k<=19∧k≠10) (ho:OB o):
  S.newP k o=some (S.new k o)∧Rs ls D env Ts (S.bks.length::P) (m+1) (S.new k o):=by
 have hl:=h.bd.len;have hnp:S.bks.length∉P:=fun hc=>by have:=h.w.lt hc;omega
 refine⟨by unfold BS.newP;rw[if_pos (by omega)],⟨List.nodup_cons.2 ⟨hnp,h.w.nd⟩,?_,?_,?_,h.w.labu,h.w.labg,?_⟩,⟨?_,by rw[Rj];omega,?_,Nat.le_succ_of_le h.bd.ask,let⟨k,h1,h2⟩:=h.bd.fst;⟨k,YM h1,h2⟩⟩,fun s=>(Jj h.w s).trans (h.df s),h.env.mo (fun _=>U9) (fun _ _ h _=>h),fun d hd=>U9 (h.ts d hd)⟩
 ·intro c hc;obtain⟨h1,q,h2,h3⟩:=h.w.cur c hc;refine⟨?_,q,YM h2,h3⟩;intro hcc;rcases List.mem_cons.1 hcc with h4|h4
  ·have:=ZW h2;omega
  ·exact h1 h4
 ·intro p hp;rcases List.mem_cons.1 hp with rfl|h4
  ·exact⟨_,TS,⟨rfl,rfl,rfl⟩,by show k≠1;omega,by show k≠10;omega⟩
  ·obtain⟨q,h1,h2⟩:=h.w.pend p h4;exact⟨q,YM h1,h2⟩
 ·intro j y hj;obtain⟨h0,q,h1,h2⟩:=h.w.labk j y hj;exact⟨h0,q,YM h1,h2⟩
 ·intro i q hi;rcases XP hi with h1|⟨rfl,rfl⟩
  ·obtain⟨g1,g2,g3,g4,g5⟩:=h.w.blk i q h1;exact⟨g1,g2,g3,g4,fun s hs=>U9 (g5 s hs)⟩
  ·exact⟨rfl,by show 1<=k;omega,by show k<=19;omega,by simp,by simp⟩
 ·intro i q hi;rcases XP hi with h1|⟨rfl,rfl⟩
  ·exact h.bd.pos i q h1
  ·exact⟨by simp,ho⟩
 ·intro i q hi;rcases XP hi with h1|⟨rfl,rfl⟩
  ·have:=h.bd.nod i q h1;omega
  ·simp
theorem Rs.newAt (h:Rs ls D env Ts P m S) (hm:m<=50000) {o:Option Int} (ho:OB o): ∃ S',S.newAt 1 o=some S'∧Rs ls D env Ts P (m+1) S'∧S'.cur=some S.bks.length:=by
 have hl:=h.bd.len;refine⟨(S.new 1 o).at S.bks.length,by unfold BS.newAt BS.newP;rw[if_pos (by omega)];rfl,⟨⟨h.w.nd,?_,?_,?_,h.w.labu,h.w.labg,?_⟩,⟨?_,by show(S.new 1 o).bks.length<=_;rw[Rj];omega,?_,Nat.le_succ_of_le h.bd.ask,let⟨k,h1,h2⟩:=h.bd.fst;⟨k,YM h1,h2⟩⟩,fun s=>(Jj h.w s).trans (h.df s),h.env.mo (fun _=>U9) (fun _ _ h _=>h),fun d hd=>U9 (h.ts d hd)⟩,rfl⟩
 ·intro c hc;cases hc;exact⟨fun hc=>by have:=h.w.lt hc;omega,_,TS,rfl⟩
 ·intro p hp;obtain⟨q,h1,h2⟩:=h.w.pend p hp;exact⟨q,YM h1,h2⟩
 ·intro j y hj;obtain⟨h0,q,h1,h2,h3⟩:=h.w.labk j y hj;refine⟨h0,q,YM h1,h2,fun ho=>?_⟩;obtain⟨g1,g2,g3⟩:=h3 ho;refine⟨g1,fun e=>?_,g3⟩;have:=ZW h1;have e':S.bks.length=y.2.go:=Option.some.inj e;omega
 ·intro i q hi;rcases XP hi with h1|⟨rfl,rfl⟩
  ·obtain⟨g1,g2,g3,g4,g5⟩:=h.w.blk i q h1;exact⟨g1,g2,g3,g4,fun s hs=>U9 (g5 s hs)⟩
  ·exact⟨rfl,by show(1:Int)<=1;decide,by show(1:Int)<=19;decide,by simp,by simp⟩
 ·intro i q hi;rcases XP hi with h1|⟨rfl,rfl⟩
  ·exact h.bd.pos i q h1
  ·exact⟨by simp,ho⟩
 ·intro i q hi;rcases XP hi with h1|⟨rfl,rfl⟩
  ·have:=h.bd.nod i q h1;omega
  ·simp
theorem Zt {c i:Nat} {k':Bk} (hc:c < S.bks.length):(S.set c k').bks[i]? =if i=c then some k' else S.bks[i]? :=by
 unfold BS.set;by_cases h:i=c
 ·subst h;rw[if_pos rfl,List.getElem?_set_self hc]
 ·rw[if_neg h,List.getElem?_set_ne (by omega)]
theorem Rs.upd (h:Rs ls D env Ts P m S) {c:Nat} {k k':Bk} (hk:S.bks[c]? =some k) (hcur:S.cur=some c) (h1:k'.kind=k.kind) (h2:k'.of=k.of) (h3:k'.live=k.live) (h4:k'.nodes.length<=m+1) (h7: ∀ x∈k'.nodes,PB x.pos) (h5:k'.succs.length<=2) (h6: ∀ s∈k'.succs,S.tgt s) {o:Option Nat} (ho:o=none∨(o=S.cur∧k'.succs= [])) (hS:S'=⟨(S.set c k').bks,o,S.Z4,S.asked⟩):
  Rs ls D env Ts P (m+1) S':=by
 subst hS;have hc:=ZW hk;have hg: ∀ i,(⟨(S.set c k').bks,o,S.Z4,S.asked⟩:BS).bks[i]? =if i=c then some k' else S.bks[i]? :=fun i=>Zt hc
 have hmo: ∀ (i:Nat) q,S.bks[i]? =some q-> ∃ q',(⟨(S.set c k').bks,o,S.Z4,S.asked⟩:BS).bks[i]? =some q'∧q'.kind=q.kind∧q'.of=q.of:=by
  intro i q hi;rw[hg];by_cases e:i=c
  ·subst e;rw[hk]at hi;cases hi;exact⟨k',by rw[if_pos rfl],h1,h2⟩
  ·exact⟨q,by rw[if_neg e];exact hi,rfl,rfl⟩
 have htg: ∀ d,S.tgt d->(⟨(S.set c k').bks,o,S.Z4,S.asked⟩:BS).tgt d:=by
  rintro d ⟨q,g1,g2⟩;obtain⟨q',g3,g4,_⟩:=hmo d q g1;exact⟨q',g3,by rw[g4];exact g2⟩
 obtain⟨hcP,q0,hq0,hs0⟩:=h.w.cur c hcur;rw[hk]at hq0;cases hq0;refine⟨⟨h.w.nd,?_,?_,?_,h.w.labu,h.w.labg,?_⟩,⟨?_,by show(S.set c k').bks.length<=_;simp[BS.set];have:=h.bd.len;omega,?_,Nat.le_succ_of_le h.bd.ask,let⟨k,g1,g2,g3⟩:=h.bd.fst;let⟨k',g4,g5,g6⟩:=hmo 0 k g1;⟨k',g4,by rw[g5];exact g2,by rw[g6];exact g3⟩⟩,?_,h.env.mo htg (fun _ _ h _=>h),fun d hd=>htg d (h.ts d hd)⟩
 ·intro c' hc';rcases ho with rfl|⟨rfl,ho⟩
  ·cases hc'
  ·have:some c=some c':=by rw[<-hcur];exact hc'
   cases this;exact⟨hcP,k',by rw[hg,if_pos rfl],ho⟩
 ·intro p hp;obtain⟨q,g1,g2⟩:=h.w.pend p hp;exact⟨q,by rw[hg,if_neg (fun e:p=c=>hcP (by rw[<-e];exact hp))];exact g1,g2⟩
 ·intro j y hj;obtain⟨h0,q,g1,g2,g3⟩:=h.w.labk j y hj;by_cases e:y.2.go=c
  ·have hq:q=k:=by rw[e,hk]at g1;cases g1;rfl
   subst hq;refine⟨h0,k',by rw[hg,if_pos e],by rw[h1];exact g2,fun hn=>?_⟩;rw[h2]at hn;exact absurd (by rw[hcur,e]) (g3 hn).2.1
  ·refine⟨h0,q,by rw[hg,if_neg e];exact g1,g2,fun hn=>?_⟩;obtain⟨f1,f2,f3⟩:=g3 hn;refine⟨f1,?_,f3⟩;rcases ho with rfl|⟨rfl,ho⟩
   ·simp
   ·exact f2
 ·intro i q hi;rw[hg]at hi;split at hi
  ·cases hi;obtain⟨g1,g2,g3,g4,g5⟩:=h.w.blk c k hk;exact⟨by rw[h3];exact g1,by rw[h1];exact g2,by rw[h1];exact g3,h5,fun s hs=>htg s (h6 s hs)⟩
  ·obtain⟨g1,g2,g3,g4,g5⟩:=h.w.blk i q hi;exact⟨g1,g2,g3,g4,fun s hs=>htg s (g5 s hs)⟩
 ·intro i q hi;rw[hg]at hi;split at hi
  ·cases hi;exact⟨h7,by rw[h2];exact(h.bd.pos c k hk).2⟩
  ·exact h.bd.pos i q hi
 ·intro i q hi;rw[hg]at hi;split at hi
  ·cases hi;exact h4
  ·have:=h.bd.nod i q hi;omega
 ·intro s;rw[<-h.df s];constructor
  ·rintro⟨j,y,q,g1,g2,g3,g4⟩;obtain⟨_,q1,f1,_⟩:=h.w.labk j y g1;obtain⟨q2,f2,_,f3⟩:=hmo _ q1 f1;rw[f2]at g3;cases g3;exact⟨j,y,q1,g1,g2,f1,by rw[<-f3];exact g4⟩
  ·rintro⟨j,y,q,g1,g2,g3,g4⟩;obtain⟨q2,f2,_,f3⟩:=hmo _ q g3;exact⟨j,y,q2,g1,g2,f2,by rw[f3];exact g4⟩
theorem Rs.PZ (h:Rs ls D env Ts P m S) {c:Nat} (hc:S.cur=some c): ∃ k,S.bks[c]? =some k∧k.succs= []:=(h.w.cur c hc).2
theorem YC {c:Nat} {k:Bk} (hc:S.cur=some c) (hk:S.bks[c]? =some k) (f:Bk->Option Bk):S.SS f=(f k).map (S.set c):=by
 unfold BS.SS;rw[hc];simp[hk]
theorem Rs.add (h:Rs ls D env Ts P m S) (hm:m<=50000) {c:Nat} (hc:S.cur=some c) (n:WW) (hp:PB n.pos): ∃ S',S.Zc n=some S'∧Rs ls D env Ts P (m+1) S'∧S'.cur=some c∧S'.bks.length=S.bks.length∧S'.Z4=S.Z4:=by
 obtain⟨k,hk,hs⟩:=h.PZ hc;have hn:=h.bd.nod c k hk;refine⟨S.set c { k with nodes:=k.nodes++ [n] },by unfold BS.Zc;rw[YC hc hk,if_pos (by omega)];rfl,?_,hc,by simp[BS.set],rfl⟩;exact h.upd (k':= { k with nodes:=k.nodes++ [n] }) hk hc rfl rfl rfl (by simp;exact hn) (fun x hx=>(List.mem_append.1 hx).elim (fun hx=>(h.bd.pos c k hk).1 x hx) (fun hx=>by simp at hx;subst hx;exact hp)) (by simp[hs]) (by simp[hs]) (.inr ⟨rfl,hs⟩) rfl
theorem Rs.ret (h:Rs ls D env Ts P m S) {c:Nat} (hc:S.cur=some c): ∃ S',S.Vl=some S'∧Rs ls D env Ts P (m+1) S'∧S'.cur=some c∧S'.bks.length=S.bks.length∧S'.Z4=S.Z4:=by
 obtain⟨k,hk,hs⟩:=h.PZ hc;have hn:=h.bd.nod c k hk;refine⟨S.set c { k with Zn:=true },by unfold BS.Vl;rw[YC hc hk];rfl,?_,hc,by simp[BS.set],rfl⟩;exact h.upd (k':= { k with Zn:=true }) hk hc rfl rfl rfl (by show k.nodes.length<=_;omega) (h.bd.pos c k hk).1 (by simp[hs]) (by simp[hs]) (.inr ⟨rfl,hs⟩) rfl
theorem Rs.jump (h:Rs ls D env Ts P m S) {c:Nat} (hc:S.cur=some c) {t:Nat} (ht:S.tgt t): ∃ S',S.Zm t=some S'∧Rs ls D env Ts P (m+1) S'∧S'.cur=none∧S'.bks.length=S.bks.length∧S'.Z4=S.Z4:=by
 obtain⟨k,hk,hs⟩:=h.PZ hc;have hn:=h.bd.nod c k hk;have htl:t < S.bks.length:=by obtain⟨q,h1,_⟩:=ht;exact ZW h1
 refine⟨{ S.set c { k with succs:= [t] } with cur:=none },by unfold BS.Zm;rw[YC hc hk,if_pos ⟨hs,htl⟩];rfl,?_,rfl,by simp[BS.set],rfl⟩;exact h.upd (k':= { k with succs:= [t] }) hk hc rfl rfl rfl (by show k.nodes.length<=_;omega) (h.bd.pos c k hk).1 (by simp) (by simpa using ht) (.inl rfl) rfl
theorem Rs.ifs (h:Rs ls D env Ts P m S) {c:Nat} (hc:S.cur=some c) {t t2:Nat} (ht:S.tgt t) (ht2:S.tgt t2): ∃ S',S.LD t t2=some S'∧Rs ls D env Ts P (m+1) S'∧S'.cur=none∧S'.bks.length=S.bks.length∧S'.Z4=S.Z4:=by
 obtain⟨k,hk,hs⟩:=h.PZ hc;have hn:=h.bd.nod c k hk;have htl:t < S.bks.length:=by obtain⟨q,h1,_⟩:=ht;exact ZW h1
 have htl2:t2 < S.bks.length:=by obtain⟨q,h1,_⟩:=ht2;exact ZW h1
 refine⟨{ S.set c { k with succs:= [t,t2] } with cur:=none },by unfold BS.LD;rw[YC hc hk,if_pos ⟨hs,htl,htl2⟩];rfl,?_,rfl,by simp[BS.set],rfl⟩;refine h.upd (k':= { k with succs:= [t,t2] }) hk hc rfl rfl rfl (by show k.nodes.length<=_;omega) (h.bd.pos c k hk).1 (by simp) ?_ (.inl rfl) rfl;intro s hs;simp at hs;rcases hs with rfl|rfl
 ·exact ht
 ·exact ht2
theorem Rs.ask (h:Rs ls D env Ts P m S) (hm:m<=50000) {n:Nat} (hn:n<=50000): ∃ S',S.Uo n=some S'∧Rs ls D env Ts P (m+1) S'∧S'.cur=S.cur∧S'.bks=S.bks∧S'.Z4=S.Z4:=by
 have ha:=h.bd.ask;refine⟨S.ask n,by unfold BS.Uo;rw[if_pos ⟨by omega,by omega⟩],⟨⟨h.w.nd,h.w.cur,h.w.pend,h.w.labk,h.w.labu,h.w.labg,h.w.blk⟩,⟨h.bd.pos,Nat.le_succ_of_le h.bd.len,fun i k hk=>Nat.le_succ_of_le (h.bd.nod i k hk),?_,h.bd.fst⟩,h.df,h.env.mo (fun _ h=>h) (fun _ _ h _=>h),h.ts⟩,rfl,rfl,rfl⟩;simp[BS.ask];omega
theorem Rs.at (h:Rs ls D env Ts P m S) {d:Nat} {P':List Nat} (hd:d∈P) (hP: ∀ p∈P',p∈P) (hn:P'.Nodup) (hdP:d∉P'):Rs ls D env Ts P' m (S.at d):=by
 obtain⟨k,hk,hf,hk1,hk10⟩:=h.w.pend d hd;refine⟨⟨hn,?_,fun p hp=>h.w.pend p (hP p hp),?_,h.w.labu,h.w.labg,h.w.blk⟩,⟨h.bd.pos,h.bd.len,h.bd.nod,h.bd.ask,h.bd.fst⟩,h.df,h.env.mo (fun _ h=>h) (fun _ _ h _=>h),h.ts⟩
 ·intro c hc;cases hc;exact⟨hdP,k,hk,hf.2.1⟩
 ·intro j y hj;obtain⟨h0,q,g1,g2,g3⟩:=h.w.labk j y hj;refine⟨h0,q,g1,g2,fun hn=>?_⟩;obtain⟨f1,f2,f3⟩:=g3 hn;refine⟨f1,fun e=>?_,f3⟩;have e':d=y.2.go:=Option.some.inj e;rw[e']at hk;rw[g1]at hk;cases hk;exact hk10 g2
theorem Rs.watch (h:Rs ls D env Ts P m S) {d:Nat} (hd:d∈P):Rs ls D env (d::Ts) P m S:=
 ⟨h.w,h.bd,h.df,h.env,fun x hx=>by
  rcases List.mem_cons.1 hx with rfl|hx
  ·obtain⟨k,hk,_,hk1,_⟩:=h.w.pend x hd;exact⟨k,hk,hk1⟩
  ·exact h.ts x hx⟩
theorem Rs.pt (h:Rs ls D env Ts P m S) {d:Nat} (hd:d∈P):S.tgt d:=by
 obtain⟨k,hk,_,hk1,_⟩:=h.w.pend d hd;exact⟨k,hk,hk1⟩
theorem Rs.le (h:Rs ls D env Ts P m S) {m':Nat} (hm:m<=m'):Rs ls D env Ts P m' S:=
 ⟨h.w,⟨h.bd.pos,Nat.le_trans h.bd.len hm,fun i k hk=>Nat.le_trans (h.bd.nod i k hk) hm,Nat.le_trans h.bd.ask hm,h.bd.fst⟩,h.df,h.env,h.ts⟩
theorem Rs.less (h:Rs ls D env Ts P m S) {Ts' P':List Nat} (hT: ∀ d∈Ts',d∈Ts) (hP: ∀ d∈P',d∈P) (hn:P'.Nodup):Rs ls D env Ts' P' m S:=
 ⟨⟨hn,fun c hc=>let⟨h1,h2⟩:=h.w.cur c hc;⟨fun hp=>h1 (hP _ hp),h2⟩,fun p hp=>h.w.pend p (hP p hp),h.w.labk,h.w.labu,h.w.labg,h.w.blk⟩,h.bd,h.df,h.env,fun d hd=>h.ts d (hT d hd)⟩
theorem Rs.pop (h:Rs ls D env Ts P m S) {env':List DF} (he: ∀ f∈env',f∈env):Rs ls D env' Ts P m S:=
 ⟨h.w,h.bd,h.df,⟨fun f hf=>h.env.brk f (he f hf),fun f hf=>h.env.cnt f (he f hf),fun f hf=>h.env.cn0 f (he f hf),fun f hf=>h.env.fal f (he f hf),fun f hf=>h.env.lab f (he f hf)⟩,h.ts⟩
theorem Rs.push (h:Rs ls D env Ts P m S) {f:DF} {d:Nat} (h1:f.t.brk=some d) (h2:S.tgt d) (h3:f.s.loop=true-> ∃ e,f.t.cnt=some e∧S.tgt e) (h4:f.s.loop=false->f.t.cnt=none) (h5: ∀ e,f.t.fal=some e->S.tgt e)
  (h6:0 < f.s.lab.size->f.s.lab∈D∧ ∃ (j:Nat) (y:ByteArray × Lb),S.Z4[j]? =some y∧y.1=f.s.lab∧y.2.brk=f.t.brk∧y.2.cnt=f.t.cnt):Rs ls D (f::env) Ts P m S:=by
 refine⟨h.w,h.bd,h.df,⟨?_,?_,?_,?_,?_⟩,h.ts⟩
 ·intro g hg;rcases List.mem_cons.1 hg with rfl|hg
  ·exact⟨d,h1,h2⟩
  ·exact h.env.brk g hg
 ·intro g hg;rcases List.mem_cons.1 hg with rfl|hg
  ·exact h3
  ·exact h.env.cnt g hg
 ·intro g hg;rcases List.mem_cons.1 hg with rfl|hg
  ·exact h4
  ·exact h.env.cn0 g hg
 ·intro g hg;rcases List.mem_cons.1 hg with rfl|hg
  ·exact h5
  ·exact h.env.fal g hg
 ·intro g hg;rcases List.mem_cons.1 hg with rfl|hg
  ·exact h6
  ·exact h.env.lab g hg
end
section
variable {ls D:List ByteArray} {env:List DF} {Ts P:List Nat} {m:Nat} {S S':BS}
theorem E9 {a b:ByteArray} (h:a.data=b.data):a=b:=by cases a;cases b;simp at h;rw[h]
theorem V7 {s:ByteArray} {j:Nat} (h:S.Y2 s=some j): ∃ y,S.Z4[j]? =some y∧y.1=s:=by
 unfold BS.Y2 at h;rw[List.findIdx?_eq_some_iff_getElem]at h;obtain⟨h1,h2,_⟩:=h;exact⟨S.Z4[j],List.getElem?_eq_getElem h1,E9 (by simpa using h2)⟩
theorem SV {s:ByteArray} (h:S.Y2 s=none): ∀ (j:Nat) y,S.Z4[j]? =some y->y.1≠s:=by
 unfold BS.Y2 at h;rw[List.findIdx?_eq_none_iff]at h;intro j y hj e;have:=h y (List.mem_of_getElem? hj);simp[e]at this
theorem find_eq (hw:W ls S P) {s:ByteArray} {j:Nat} {y:ByteArray × Lb} (hj:S.Z4[j]? =some y) (hy:y.1=s):S.Y2 s=some j:=by
 cases hf:S.Y2 s with
 |none=>exact absurd hy (SV hf j y hj)
 |some j'=>
  obtain⟨y',h1,h2⟩:=V7 hf;rw[hw.labu j' j y' y h1 hj (by rw[h2,hy])]
theorem YP {α:Type} {l:List α} {x:α} {i:Nat} {y:α} (h:(l++ [x])[i]? =some y):l[i]? =some y∨(i=l.length∧y=x):=by
 by_cases hi:i < l.length
 ·rw[List.getElem?_append_left hi]at h;exact .inl h
 ·rw[List.getElem?_append_right (by omega)]at h;have:i -l.length=0:=by
   have:=ZW h;simp at this;omega
  rw[this]at h;simp at h;exact .inr ⟨by omega,h.symm⟩
theorem XB {α:Type} {l:List α} {x:α} {i:Nat} {y:α} (h:l[i]? =some y):(l++ [x])[i]? =some y:=by
 rw[List.getElem?_append_left (ZW h)];exact h
theorem Rs.UH (h:Rs ls D env Ts P m S) {s:ByteArray} (hs:s∈ls) (hf:S.Y2 s=none) (o:Option Int) (hob:OB o) {D':List ByteArray} (hD:D'=if o=none then D else s::D):
  Rs ls D' env Ts P (m+1) ⟨S.bks++ [⟨10,o,[],[],false,false⟩],S.cur,S.Z4++ [(s,⟨S.bks.length,none,none⟩)],S.asked⟩:=by
 have hold: ∀ {i:Nat} {q:Bk},S.bks[i]? =some q->(S.bks++ [⟨10,o,[],[],false,false⟩])[i]? =some q:=fun h=>XB h;have htg: ∀ d,S.tgt d->(⟨S.bks++ [⟨10,o,[],[],false,false⟩],S.cur,S.Z4++ [(s,⟨S.bks.length,none,none⟩)],S.asked⟩:BS).tgt d:=fun d ⟨q,h1,h2⟩=>⟨q,hold h1,h2⟩
 have hlast:(S.bks++ [(⟨10,o,[],[],false,false⟩:Bk)])[S.bks.length]? =some ⟨10,o,[],[],false,false⟩:=by simp
 have hDsub: ∀ x∈D,x∈D':=by
  intro x hx;rw[hD];split
  ·exact hx
  ·exact List.mem_cons_of_mem _ hx
 refine⟨⟨h.w.nd,?_,?_,?_,?_,?_,?_⟩,⟨?_,by simp;exact h.bd.len,?_,Nat.le_succ_of_le h.bd.ask,let⟨k,h1,h2⟩:=h.bd.fst;⟨k,hold h1,h2⟩⟩,?_,(h.env.more hDsub).mo htg (fun _ _ h _=>XB h),fun d hd=>htg d (h.ts d hd)⟩
 ·intro c hc;obtain⟨h1,q,h2,h3⟩:=h.w.cur c hc;exact⟨h1,q,hold h2,h3⟩
 ·intro p hp;obtain⟨q,h1,h2⟩:=h.w.pend p hp;exact⟨q,hold h1,h2⟩
 ·intro j y hj;rcases YP hj with h1|⟨rfl,rfl⟩
  ·obtain⟨h0,q,g1,g2⟩:=h.w.labk j y h1;exact⟨h0,q,hold g1,g2⟩
  ·refine⟨hs,_,hlast,rfl,fun _=>⟨⟨rfl,rfl,rfl⟩,fun e=>?_,rfl,rfl⟩⟩;obtain⟨_,q,h2,_⟩:=h.w.cur _ e;have:=ZW h2;simp at this
 ·intro j j' y y' hj hj' e;rcases YP hj with h1|⟨rfl,rfl⟩<;>rcases YP hj' with h2|⟨rfl,rfl⟩
  ·exact h.w.labu j j' y y' h1 h2 e
  ·exact absurd e (SV hf _ _ h1)
  ·exact absurd e.symm (SV hf _ _ h2)
  ·rfl
 ·intro j j' y y' hj hj' e;rcases YP hj with h1|⟨rfl,rfl⟩<;>rcases YP hj' with h2|⟨rfl,rfl⟩
  ·exact h.w.labg j j' y y' h1 h2 e
  ·obtain⟨_,q,g1,_⟩:=h.w.labk _ _ h1;have:=ZW g1;simp at e;omega
  ·obtain⟨_,q,g1,_⟩:=h.w.labk _ _ h2;have:=ZW g1;simp at e;omega
  ·rfl
 ·intro i q hi;rcases YP hi with h1|⟨rfl,rfl⟩
  ·obtain⟨g1,g2,g3,g4,g5⟩:=h.w.blk i q h1;exact⟨g1,g2,g3,g4,fun s hs=>htg s (g5 s hs)⟩
  ·exact⟨rfl,by show(1:Int)<=10;decide,by show(10:Int)<=19;decide,by simp,by simp⟩
 ·intro i q hi;rcases YP hi with h1|⟨rfl,rfl⟩
  ·exact h.bd.pos i q h1
  ·exact⟨by simp,hob⟩
 ·intro i q hi;rcases YP hi with h1|⟨rfl,rfl⟩
  ·have:=h.bd.nod i q h1;omega
  ·simp
 ·intro x;constructor
  ·rintro⟨j,y,q,g1,g2,g3,g4⟩;rcases YP g1 with h1|⟨rfl,rfl⟩
   ·obtain⟨_,q',f1,_⟩:=h.w.labk j y h1;have f2:=hold f1;rw[f2]at g3;cases g3;exact hDsub _ ((h.df x).1 ⟨j,y,_,h1,g2,f1,g4⟩)
   ·simp at g3;subst g3;rw[hD,if_neg g4];simp at g2;simp[g2]
  ·intro hx;rw[hD]at hx;split at hx
   ·obtain⟨j,y,q,g1,g2,g3,g4⟩:=(h.df x).2 hx;exact⟨j,y,q,XB g1,g2,hold g3,g4⟩
   ·next ho=>
    rcases List.mem_cons.1 hx with rfl|hx
    ·exact⟨S.Z4.length,(x,⟨S.bks.length,none,none⟩),⟨10,o,[],[],false,false⟩,by simp,rfl,by simp,ho⟩
    ·obtain⟨j,y,q,g1,g2,g3,g4⟩:=(h.df x).2 hx;exact⟨j,y,q,XB g1,g2,hold g3,g4⟩
theorem Rs.define (h:Rs ls D env Ts P m S) {s:ByteArray} {j:Nat} {y:ByteArray × Lb} {k:Bk} (hj:S.Z4[j]? =some y) (hy:y.1=s) (hk:S.bks[y.2.go]? =some k) (ho:k.of=none):
  Rs ls (s::D) env Ts P m (S.set y.2.go { k with of:=some 0 }):=by
 have hc:=ZW hk;have hg: ∀ i,(S.set y.2.go { k with of:=some 0 }).bks[i]? =if i=y.2.go then some { k with of:=some 0 } else S.bks[i]? :=fun i=>Zt hc
 obtain⟨_,q0,hq0,hk10,hpd⟩:=h.w.labk j y hj;rw[hk]at hq0;cases hq0;obtain⟨hfr,hncur,_⟩:=hpd ho;have htg: ∀ d,S.tgt d->(S.set y.2.go { k with of:=some 0 }).tgt d:=by
  rintro d ⟨q,g1,g2⟩;by_cases e:d=y.2.go
  ·rw[e,hk]at g1;cases g1;exact⟨{ k with of:=some 0 },by rw[hg,if_pos e],g2⟩
  ·exact⟨q,by rw[hg,if_neg e];exact g1,g2⟩
 refine⟨⟨h.w.nd,?_,?_,?_,h.w.labu,h.w.labg,?_⟩,⟨?_,by simp[BS.set];exact h.bd.len,?_,h.bd.ask,let⟨k0,h1,h2,h3⟩:=h.bd.fst;⟨k0,by rw[hg,if_neg (fun e=>by rw[e,hk]at h1;cases h1;rw[hk10]at h2;exact absurd h2 (by decide))];exact h1,h2,h3⟩⟩,?_,(h.env.more (fun _=>List.mem_cons_of_mem _)).mo htg (fun _ _ h _=>h),fun d hd=>htg d (h.ts d hd)⟩
 ·intro c hc';obtain⟨h1,q,h2,h3⟩:=h.w.cur c hc';refine⟨h1,q,?_,h3⟩;rw[hg,if_neg (fun e=>hncur (by rw[<-e];exact hc'))];exact h2
 ·intro p hp;obtain⟨q,h1,h2,h3,h4⟩:=h.w.pend p hp;refine⟨q,?_,h2,h3,h4⟩;rw[hg,if_neg (fun e=>by rw[e,hk]at h1;cases h1;exact h4 hk10)];exact h1
 ·intro j' y' hj';obtain⟨h0,q,g1,g2,g3⟩:=h.w.labk j' y' hj';by_cases e:y'.2.go=y.2.go
  ·rw[e,hk]at g1;cases g1;exact⟨h0,{ k with of:=some 0 },by rw[hg,if_pos e],hk10,fun hn=>by cases hn⟩
  ·exact⟨h0,q,by rw[hg,if_neg e];exact g1,g2,g3⟩
 ·intro i q hi;rw[hg]at hi;split at hi
  ·cases hi;obtain⟨g1,g2,g3,g4,g5⟩:=h.w.blk _ k hk;exact⟨g1,g2,g3,g4,fun s hs=>htg s (g5 s hs)⟩
  ·obtain⟨g1,g2,g3,g4,g5⟩:=h.w.blk i q hi;exact⟨g1,g2,g3,g4,fun s hs=>htg s (g5 s hs)⟩
 ·intro i q hi;rw[hg]at hi;split at hi
  ·cases hi;exact⟨(h.bd.pos _ k hk).1,sO⟩
  ·exact h.bd.pos i q hi
 ·intro i q hi;rw[hg]at hi;split at hi
  ·cases hi;exact h.bd.nod _ k hk
  ·exact h.bd.nod i q hi
 ·intro x;constructor
  ·rintro⟨j',y',q,g1,g2,g3,g4⟩;by_cases e:y'.2.go=y.2.go
   ·have:=h.w.labg j' j y' y g1 hj e;subst this;have e2:y'=y:=Option.some.inj ((show S.Z4[j']? =some y' from g1).symm.trans hj);rw[<-g2,e2,hy];simp
   ·rw[hg,if_neg e]at g3;exact List.mem_cons_of_mem _ ((h.df x).1 ⟨j',y',q,g1,g2,g3,g4⟩)
  ·intro hx;rcases List.mem_cons.1 hx with rfl|hx
   ·exact⟨j,y,_,hj,hy,by rw[hg,if_pos rfl],by simp⟩
   ·obtain⟨j',y',q,g1,g2,g3,g4⟩:=(h.df x).2 hx;by_cases e:y'.2.go=y.2.go
    ·exact⟨j',y',_,g1,g2,by rw[hg,if_pos e],by simp⟩
    ·exact⟨j',y',q,g1,g2,by rw[hg,if_neg e];exact g3,g4⟩
theorem Rs.goto (h:Rs ls D env Ts P m S) (hm:m<=50000) {s:ByteArray} (hs:s∈ls): ∃ r y,S.VN s false=some r∧r.2.Z4[r.1]? =some y∧Rs ls D env Ts P (m+1) r.2∧r.2.cur=S.cur∧r.2.tgt y.2.go:=by
 unfold BS.VN;cases hf:S.Y2 s with
 |some j=>
  obtain⟨y,h1,h2⟩:=V7 hf;obtain⟨_,q,g1,g2,_⟩:=h.w.labk j y h1;exact⟨(j,S),y,rfl,h1,h.le (Nat.le_succ _),rfl,q,g1,by rw[g2];decide⟩
 |none=>
  have hl:=h.bd.len;refine⟨(S.Z4.length,⟨S.bks++ [⟨10,none,[],[],false,false⟩],S.cur,S.Z4++ [(s,⟨S.bks.length,none,none⟩)],S.asked⟩),(s,⟨S.bks.length,none,none⟩),?_,by simp,h.UH hs hf none (by intro p hp;cases hp) (by rw[if_pos rfl]),rfl,⟨10,none,[],[],false,false⟩,by simp,by show(10:Int)≠1;decide⟩
  ·unfold BS.newP;rw[if_pos (by omega)];rfl
theorem Rs.look (h:Rs ls D env Ts P m S) {f:DF} (hf:f∈env) (hs:0 < f.s.lab.size): ∃ j y,S.VN f.s.lab false=some (j,S)∧S.Z4[j]? =some y∧y.2.brk=f.t.brk∧y.2.cnt=f.t.cnt:=by
 obtain⟨h0,j,y,h1,h2,h3,h4⟩:=h.env.lab f hf hs;refine⟨j,y,?_,h1,h3,h4⟩;unfold BS.VN;rw[find_eq h.w h1 h2];rfl
theorem Rs.label (h:Rs ls D env Ts P m S) (hm:m<=40000) {s:ByteArray} (hs:s∈ls) (hD:s∉D) {c:Nat} (hc:S.cur=some c):
  ∃ r y S2,S.VN s true=some r∧r.2.Z4[r.1]? =some y∧r.2.Zm y.2.go=some S2∧Rs ls (s::D) env Ts P (m+2) (S2.at y.2.go)∧(S2.at y.2.go).Z4[r.1]? =some y∧y.1=s∧y.2.brk=none∧y.2.cnt=none:=by
 have key: ∃ r y k,S.VN s true=some r∧r.2.Z4[r.1]? =some y∧Rs ls (s::D) env Ts P (m+1) r.2∧r.2.cur=some c∧y.2.go≠c∧r.2.bks[y.2.go]? =some k∧k.fresh∧k.kind=10∧k.of≠none∧y.1=s∧y.2.brk=none∧y.2.cnt=none:=by
  unfold BS.VN;cases hf:S.Y2 s with
  |some j=>
   obtain⟨y,h1,h2⟩:=V7 hf;obtain⟨_,k,g1,g2,g3⟩:=h.w.labk j y h1;have ho:k.of=none:=by
    cases hko:k.of with
    |none=>rfl
    |some o=>exact absurd ((h.df s).1 ⟨j,y,k,h1,h2,g1,by simp[hko]⟩) hD
   obtain⟨f1,f2,f3,f4⟩:=g3 ho;refine⟨(j,S.set y.2.go { k with of:=some 0 }),y,{ k with of:=some 0 },?_,h1,(h.define h1 h2 g1 ho).le (Nat.le_succ _),hc,fun e=>f2 (by rw[hc,e]),?_,f1,g2,by simp,h2,f3,f4⟩
   ·simp[h1,g1,ho]
   ·rw[Zt (ZW g1),if_pos rfl]
  |none=>
   have hl:=h.bd.len;have hcl:c < S.bks.length:=let⟨_,k,h1,_⟩:=h.w.cur c hc;ZW h1;refine⟨(S.Z4.length,⟨S.bks++ [⟨10,some 0,[],[],false,false⟩],S.cur,S.Z4++ [(s,⟨S.bks.length,none,none⟩)],S.asked⟩),(s,⟨S.bks.length,none,none⟩),⟨10,some 0,[],[],false,false⟩,?_,by simp,h.UH hs hf (some 0) sO (by simp),hc,by simp;omega,by simp,⟨rfl,rfl,rfl⟩,rfl,by simp,rfl,rfl,rfl⟩
   ·unfold BS.newP;rw[if_pos (by omega)];simp only[Option.map_some,if_true,Option.some.injEq,Prod.mk.injEq,true_and];simp[BS.lab,BS.set,BS.new]
 obtain⟨r,y,k,h1,h2,h3,h4,h5,h6,h7,h8,h9,h10,h11,h12⟩:=key;obtain⟨S2,j1,j2,j3,j4,j5⟩:=h3.jump h4 (t:=y.2.go) ⟨k,h6,by rw[h8];decide⟩;have hgo:S2.bks[y.2.go]? =some k:=by
  unfold BS.Zm at j1;obtain⟨kc,hkc,hsc⟩:=h3.PZ h4;rw[YC h4 hkc,if_pos ⟨hsc,ZW h6⟩]at j1;simp at j1;subst j1;show(r.2.set c _).bks[_]? =_;rw[Zt (ZW hkc),if_neg h5];exact h6
 refine⟨r,y,S2,h1,h2,j1,⟨⟨j2.w.nd,?_,j2.w.pend,?_,j2.w.labu,j2.w.labg,j2.w.blk⟩,⟨j2.bd.pos,j2.bd.len,j2.bd.nod,j2.bd.ask,j2.bd.fst⟩,j2.df,j2.env.mo (fun _ h=>h) (fun _ _ h _=>h),j2.ts⟩,by show S2.Z4[_]? =_;rw[j5];exact h2,h10,h11,h12⟩
 ·intro c' hc';have e:y.2.go=c':=Option.some.inj hc';rw[<-e];refine⟨fun hp=>?_,k,hgo,h7.2.1⟩;obtain⟨q,g1,_,_,g4⟩:=j2.w.pend _ hp;rw[hgo]at g1;cases g1;exact g4 h8
 ·intro j' y' hj';obtain⟨h0,q,g1,g2,g3⟩:=j2.w.labk j' y' hj';refine⟨h0,q,g1,g2,fun hn=>?_⟩;obtain⟨f1,f2,f3⟩:=g3 hn;refine⟨f1,fun e=>?_,f3⟩;have e':y.2.go=y'.2.go:=Option.some.inj e;rw[<-e',hgo]at g1;cases g1;exact h9 hn
end
section
variable {ls D:List ByteArray} {env:List DF} {Ts P:List Nat} {m:Nat} {S S':BS}
theorem Rs.perm (h:Rs ls D env Ts P m S) {D':List ByteArray} (hD: ∀ s,s∈D↔s∈D'):Rs ls D' env Ts P m S:=
 ⟨h.w,h.bd,fun s=>(h.df s).trans (hD s),h.env.more (fun s hs=>(hD s).1 hs),h.ts⟩
def LC (ls D l:List ByteArray):Prop:=(∀ s∈l,s∈ls∧s∉D)∧l.Nodup
theorem LC.app {a b:List ByteArray} (h:LC ls D (a++b)):LC ls D a∧LC ls (a++D) b:=by
 obtain⟨h1,h2⟩:=h;rw[List.nodup_append]at h2;obtain⟨h3,h4,h5⟩:=h2;refine⟨⟨fun s hs=>h1 s (List.mem_append_left _ hs),h3⟩,⟨fun s hs=>⟨(h1 s (List.mem_append_right _ hs)).1,?_⟩,h4⟩⟩;intro hc;rcases List.mem_append.1 hc with hc|hc
 ·exact h5 s hc s hs rfl
 ·exact(h1 s (List.mem_append_right _ hs)).2 hc
theorem LC.congr {D' l:List ByteArray} (h:LC ls D l) (hD: ∀ s,s∈D'->s∈D):LC ls D' l:=⟨fun s hs=>⟨(h.1 s hs).1,fun hc=>(h.1 s hs).2 (hD s hc)⟩,h.2⟩
def YA (D:List ByteArray) (S:BS) (env:List DF) (s:ByteArray) (lab:Option Nat):Prop:=
 (lab=none∧s.size=0)∨ ∃ (j:Nat) (y:ByteArray × Lb),lab=some j∧S.Z4[j]? =some y∧y.1=s∧0 < s.size∧s∈D∧y.2.brk=none∧y.2.cnt=none∧ ∀ f∈env,f.s.lab≠s
theorem YA.same {s:ByteArray} {lab:Option Nat} (h:YA D S env s lab) (hl:S'.Z4=S.Z4):YA D S' env s lab:=by
 unfold YA;rw[hl];exact h
theorem WY {α:Type} {l:List α} {j i:Nat} {f:α->α} {y:α} (h:(l.modify j f)[i]? =some y):(i=j∧ ∃ x,l[i]? =some x∧y=f x)∨(i≠j∧l[i]? =some y):=by
 rw[List.getElem?_modify]at h;by_cases e:j=i
 ·subst e;simp at h;obtain⟨x,h1,h2⟩:=h;exact .inl ⟨rfl,x,h1,h2.symm⟩
 ·simp[e]at h;exact .inr ⟨fun h=>e h.symm,h⟩
theorem Uy {α:Type} {l:List α} {j i:Nat} {f:α->α} {x:α} (h:l[i]? =some x) (e:i≠j):(l.modify j f)[i]? =some x:=by
 rw[List.getElem?_modify];have e': ¬ j=i:=fun h=>e h.symm;simp[e',h]
theorem Rs.XV (h:Rs ls D env Ts P m S) {j:Nat} {y:ByteArray × Lb} (hj:S.Z4[j]? =some y) (hD:y.1∈D) (he: ∀ f∈env,f.s.lab≠y.1) (g:Lb->Lb) (hg: ∀ x,(g x).go=x.go):Rs ls D env Ts P m (S.XV j g):=by
 have hy:(S.Z4.modify j fun y=>(y.1,g y.2))[j]? =some (y.1,g y.2):=by rw[List.getElem?_modify];simp[hj]
 obtain⟨j0,y0,k0,f1,f2,f3,f4⟩:=(h.df y.1).2 hD;have:=h.w.labu j0 j y0 y f1 hj f2;subst this;rw[hj]at f1;cases f1;refine⟨⟨h.w.nd,h.w.cur,h.w.pend,?_,?_,?_,h.w.blk⟩,⟨h.bd.pos,h.bd.len,h.bd.nod,h.bd.ask,h.bd.fst⟩,?_,?_,h.ts⟩
 ·intro i z hi;rcases WY hi with⟨rfl,x,h1,rfl⟩ |⟨_,h1⟩
  ·rw[hj]at h1;cases h1;obtain⟨h0,q,g1,g2,g3⟩:=h.w.labk i y hj;refine⟨h0,q,by show S.bks[(g y.2).go]? =_;rw[hg];exact g1,g2,fun hn=>?_⟩;rw[f3]at g1;cases g1;exact absurd hn f4
  ·exact h.w.labk i z h1
 ·intro i i' z z' hi hi' e;have key: ∀ (i:Nat) z,(S.XV j0 g).Z4[i]? =some z-> ∃ x,S.Z4[i]? =some x∧x.1=z.1:=by
   intro i z hi;rcases WY hi with⟨rfl,x,h1,rfl⟩ |⟨_,h1⟩
   ·exact⟨x,h1,rfl⟩
   ·exact⟨z,h1,rfl⟩
  obtain⟨x,h1,h2⟩:=key i z hi;obtain⟨x',h3,h4⟩:=key i' z' hi';exact h.w.labu i i' x x' h1 h3 (by rw[h2,h4,e])
 ·intro i i' z z' hi hi' e;have key: ∀ (i:Nat) z,(S.XV j0 g).Z4[i]? =some z-> ∃ x,S.Z4[i]? =some x∧x.2.go=z.2.go:=by
   intro i z hi;rcases WY hi with⟨rfl,x,h1,rfl⟩ |⟨_,h1⟩
   ·exact⟨x,h1,(hg x.2).symm⟩
   ·exact⟨z,h1,rfl⟩
  obtain⟨x,h1,h2⟩:=key i z hi;obtain⟨x',h3,h4⟩:=key i' z' hi';exact h.w.labg i i' x x' h1 h3 (by rw[h2,h4,e])
 ·intro s;rw[<-h.df s];constructor
  ·rintro⟨i,z,q,g1,g2,g3,g4⟩;rcases WY g1 with⟨rfl,x,h1,rfl⟩ |⟨_,h1⟩
   ·exact⟨i,x,q,h1,g2,by rw[<-hg];exact g3,g4⟩
   ·exact⟨i,z,q,h1,g2,g3,g4⟩
  ·rintro⟨i,z,q,g1,g2,g3,g4⟩;by_cases e:i=j0
   ·subst e;rw[hj]at g1;cases g1;exact⟨i,(y.1,g y.2),q,hy,g2,by show S.bks[(g y.2).go]? =_;rw[hg];exact g3,g4⟩
   ·exact⟨i,z,q,Uy g1 e,g2,g3,g4⟩
 ·refine⟨h.env.brk,h.env.cnt,h.env.cn0,h.env.fal,fun f hf hs=>?_⟩;obtain⟨h0,i,z,g1,g2,g3⟩:=h.env.lab f hf hs;refine⟨h0,i,z,Uy g1 (fun e=>?_),g2,g3⟩;subst e;rw[hj]at g1;cases g1;exact he f hf g2.symm
theorem Rs.brk (h:Rs ls D env Ts P m S) {s:ByteArray} {lab:Option Nat} (hl:YA D S env s lab) (d:Nat):Rs ls D env Ts P m (S.YD lab d)∧(S.YD lab d).cur=S.cur∧(S.YD lab d).bks=S.bks∧
  (0 < s.size->s∈D∧ ∃ (j:Nat) (y:ByteArray × Lb),(S.YD lab d).Z4[j]? =some y∧y.1=s∧y.2.brk=some d∧y.2.cnt=none):=by
 rcases hl with⟨rfl,hs⟩ |⟨j,y,rfl,h1,h2,h3,h4,h5,h6,h7⟩
 ·exact⟨h,rfl,rfl,fun hc=>by omega⟩
 ·refine⟨h.XV h1 (by rw[h2];exact h4) (by rw[h2];exact h7) (fun x=> { x with brk:=some d }) (fun _=>rfl),rfl,rfl,fun _=>⟨h4,j,(y.1,{ y.2 with brk:=some d }),?_,h2,rfl,h6⟩⟩;show(S.Z4.modify j _)[j]? =_;rw[List.getElem?_modify];simp[h1]
theorem Rs.Om (h:Rs ls D env Ts P m S) {s:ByteArray} {lab:Option Nat} (hl:YA D S env s lab) (d e:Nat):Rs ls D env Ts P m ((S.YD lab d).UA lab e)∧((S.YD lab d).UA lab e).cur=S.cur∧((S.YD lab d).UA lab e).bks=S.bks∧
  (0 < s.size->s∈D∧ ∃ (j:Nat) (y:ByteArray × Lb),((S.YD lab d).UA lab e).Z4[j]? =some y∧y.1=s∧y.2.brk=some d∧y.2.cnt=some e):=by
 obtain⟨g1,g2,g3,g4⟩:=h.brk hl d;rcases hl with⟨rfl,hs⟩ |⟨j,y,rfl,h1,h2,h3,h4,h5,h6,h7⟩
 ·exact⟨h,rfl,rfl,fun hc=>by omega⟩
 ·have hj:(S.YD (some j) d).Z4[j]? =some (y.1,{ y.2 with brk:=some d }):=by
   show(S.Z4.modify j _)[j]? =_;rw[List.getElem?_modify];simp[h1]
  refine⟨g1.XV hj (by show y.1∈D;rw[h2];exact h4) (by show ∀ f∈env,f.s.lab≠y.1;rw[h2];exact h7) (fun x=> { x with cnt:=some e }) (fun _=>rfl),g2,g3,fun _=>⟨h4,j,(y.1,{ y.2 with brk:=some d,cnt:=some e }),?_,h2,rfl,rfl⟩⟩;show((S.YD (some j) d).Z4.modify j _)[j]? =_;rw[List.getElem?_modify];simp[hj]
theorem Rs.maybe (h:Rs ls D env Ts P m S) (hm:m<=50000) {c:Nat} (hc:S.cur=some c) (is:Bool) (n:Nat) (hn:n<=40000): ∃ S',S.Yy is n=some S'∧Rs ls D env Ts P (m+1) S'∧S'.cur=some c∧S'.bks.length=S.bks.length∧S'.Z4=S.Z4:=by
 unfold BS.Yy;cases is with
 |false=>exact⟨S,rfl,h.le (Nat.le_succ _),hc,rfl,rfl⟩
 |true=>exact h.add hm hc _ (Wi hn)
theorem Rs.newC (h:Rs ls D env Ts P m S) (hm:m<=50000) {c:Nat} (hc:S.cur=some c) {k:Int} {o:Option Int} (hk:1 < k∧k<=19∧k≠10) (ho:OB o): ∃ S',S.newP k o=some S'∧Rs ls D env Ts (S.bks.length::P) (m+1) S'∧S'.cur=some c∧S'.bks.length=S.bks.length+1∧S'.Z4=S.Z4:=by
 obtain⟨h1,h2⟩:=h.new hm hk ho;exact⟨_,h1,h2,hc,Rj,rfl⟩
theorem Rs.Zf (h:Rs ls D env Ts P m S) (hm:m<=50000) {c:Nat} (hc:S.cur=some c) (is:Bool) {k:Int} (i:Nat) (hk:1 < k∧k<=19∧k≠10) (hi:i<=40000): ∃ S',S.Zf is k i=some S'∧Rs ls D env Ts (if is then S.bks.length::P else P) (m+1) S'∧S'.cur=some c∧S'.bks.length=S.bks.length+(if is then 1 else 0)∧S'.Z4=S.Z4:=by
 unfold BS.Zf;cases is with
 |false=>exact⟨S,rfl,h.le (Nat.le_succ _),hc,rfl,rfl⟩
 |true=>exact h.newC hm hc hk (YH hi)
theorem Rs.lt (h:Rs ls D env Ts P m S) {p:Nat} (hp:p∈P):p < S.bks.length:=h.w.lt hp
def FL (ls:List ByteArray) (t:T):Prop:= ∀ (D:List ByteArray) (env:List DF) (Ts P:List Nat) (m:Nat) (S:BS) (n i:Nat) (fl:Bool),Rs ls D env Ts P m S->(∃ c,S.cur=some c)->t.ok->t.WV ls (env.map DF.s) fl->
 (fl=true-> ∃ f fs d,env=f::fs∧f.t.fal=some d)->LC ls D t.labels->m+16*t.wt<=40000->n+t.lv false<=39000->i+t.it<=40000->
 ∃ S',t.Zu.list n i (env.map DF.t) S=some S'∧Rs ls (t.labels++D) env Ts P (m+16*t.wt) S'∧ ∃ c,S'.cur=some c
theorem Az {h:Hd} {b e:T} (hb:FL ls b) (he:FL ls e) (H:Rs ls D env Ts P m S) {c:Nat} (hc:S.cur=some c) (bo:b.ok) (eo:e.ok) (hbb:b.WV ls (env.map DF.s) false) (heb:e.WV ls (env.map DF.s) false) (hl:LC ls D (b.labels++e.labels)) (hne:h.hasElse=false->e=.nil)
  (hm:m+14+16*(b.wt+e.wt)<=40000) (n i n1 n2 i1 i2:Nat) (h1:n1+b.lv false<=39000) (h2:n2+e.lv false<=39000) (h0:n+2<=40000) (hi:i<=40000) (hi1:i1+b.it<=40000) (hi2:i2+e.it<=40000):
  ∃ S',yG h n i (env.map DF.t) (b.Zu.list n1 i1) (e.Zu.list n2 i2) S=some S'∧Rs ls (e.labels++(b.labels++D)) env Ts P (m+14+16*(b.wt+e.wt)) S'∧ ∃ c,S'.cur=some c:=by
 obtain⟨l1,l2⟩:=hl.app;obtain⟨S0,e0,H0,c0,q0,_⟩:=H.maybe (by omega) hc h.init n (by omega);have lP: ∀ p∈P,p < S.bks.length:=fun p hp=>H.lt hp;obtain⟨S1,e1,H1,c1,q1,_⟩:=H0.newC (by omega) c0 (k:=9) (o:=some (ip i)) (by decide) (YH (by omega));obtain⟨S2,e2,H2,c2,q2,_⟩:=H1.newC (by omega) c1 (k:=7) (o:=some (ip i)) (by decide) (YH (by omega));obtain⟨S3,e3,H3,c3,q3,_⟩:=H2.Zf (by omega) c2 h.hasElse (k:=8) i (by decide) (by omega);obtain⟨S4,e4,H4,c4,q4,_⟩:=H3.add (by omega) c3 ⟨lp (n+h.init.toNat),false⟩ (Wi (by have:=Bool.toNat_le h.init;omega));have t1:S0.bks.length∈(if h.hasElse then S2.bks.length::S1.bks.length::S0.bks.length::P else S1.bks.length::S0.bks.length::P):=by split<;>simp
 have t2:(if h.hasElse then S2.bks.length else S1.bks.length)∈(if h.hasElse then S2.bks.length::S1.bks.length::S0.bks.length::P else S1.bks.length::S0.bks.length::P):=by split<;>simp
 obtain⟨S5,e5,H5,c5,q5,_⟩:=H4.ifs c4 (H4.pt t1) (H4.pt t2);have H5':=H5.at (P':=if h.hasElse then S2.bks.length::S1.bks.length::P else S1.bks.length::P) t1 (by split<;>simp<;>intro p hp<;>simp[hp]) (by
   have h3:S1.bks.length∉P:=fun hp=>by have:=lP _ hp;omega
   have h4:S2.bks.length∉P:=fun hp=>by have:=lP _ hp;omega
   split
   ·exact List.nodup_cons.2 ⟨by simp;exact⟨by omega,h4⟩,List.nodup_cons.2 ⟨h3,H.w.nd⟩⟩
   ·exact List.nodup_cons.2 ⟨h3,H.w.nd⟩) (by
   have h3:S0.bks.length∉P:=fun hp=>by have:=lP _ hp;omega
   split<;>simp[h3]<;>omega)
 obtain⟨S6,e6,H6,c',c6⟩:=hb D env Ts _ _ (S5.at S0.bks.length) n1 i1 false H5' ⟨_,rfl⟩ bo hbb (by simp) l1 (by omega) h1 hi1;have t3:S1.bks.length∈(if h.hasElse then S2.bks.length::S1.bks.length::P else S1.bks.length::P):=by split<;>simp
 obtain⟨S7,e7,H7,c7,q7,_⟩:=H6.jump c6 (H6.pt t3);have h3:S1.bks.length∉P:=fun hp=>by have:=lP _ hp;omega
 cases hh:h.hasElse with
 |false=>
  rw[hh]at H7 t3 e3 e5;simp only[Bool.false_eq_true,if_false]at H7 t3 e5;have hen:=hne hh;subst hen;refine⟨S7.at S1.bks.length,?_,(H7.at t3 (P':=P) (by simp;intro p hp;simp[hp]) H.w.nd h3).le (by simp[T.wt];omega) |>.perm (by simp[T.labels]),_,rfl⟩;unfold yG;simp only[hh,e0,e1,e2,e3,e4,e5,e6,e7,Option.bind_some,Bool.false_eq_true,if_false,Option.map_some]
 |true=>
  rw[hh]at H7 t3 e3 e5;simp only[if_true]at H7 t3 e5;have H7':=H7.at (d:=S2.bks.length) (P':=S1.bks.length::P) (by simp) (by simp;intro p hp;simp[hp]) (List.nodup_cons.2 ⟨h3,H.w.nd⟩) (by simp;exact⟨by omega,fun hp=>by have:=lP _ hp;omega⟩)
  obtain⟨S8,e8,H8,c'',c8⟩:=he _ env Ts _ _ (S7.at S2.bks.length) n2 i2 false H7' ⟨_,rfl⟩ eo heb (by simp) l2 (by omega) h2 hi2;obtain⟨S9,e9,H9,c9,q9,_⟩:=H8.jump c8 (H8.pt (d:=S1.bks.length) (by simp));refine⟨S9.at S1.bks.length,?_,(H9.at (d:=S1.bks.length) (P':=P) (by simp) (by intro p hp;simp[hp]) H.w.nd h3).le (by omega),_,rfl⟩;unfold yG;simp only[hh,e0,e1,e2,e3,e4,e5,e6,e7,e8,e9,Option.bind_some,if_true,Option.map_some]
end
section
variable {ls D:List ByteArray} {env:List DF} {Ts P:List Nat} {m:Nat} {S S':BS}
def RY (D:List ByteArray) (S:BS) (f:DF):Prop:=0 < f.s.lab.size->f.s.lab∈D∧ ∃ (j:Nat) (y:ByteArray × Lb),S.Z4[j]? =some y∧y.1=f.s.lab∧y.2.brk=f.t.brk∧y.2.cnt=f.t.cnt
theorem RY.same {f:DF} (h:RY D S f) (hl:S'.Z4=S.Z4):RY D S' f:=by
 unfold RY;rw[hl];exact h
theorem Ls {b:T} (hb:FL ls b) {s:ByteArray} {post:Bool} {loop cont done p:Nat} (H:Rs ls D env Ts ((if post then [cont]else [])++(done::P)) m S) {c:Nat} (hc:S.cur=some c) (t1:loop∈Ts) (t2:cont∈Ts)
  (hf:RY D S ⟨⟨s,true⟩,⟨some done,some cont,none⟩⟩) (bo:b.ok) (hbb:b.WV ls (⟨s,true⟩::env.map DF.s) false) (hl:LC ls D b.labels) (hm:m+16*b.wt+4<=40000) (n1 i1:Nat) (h1:n1+b.lv false<=39000) (hi1:i1+b.it<=40000) (hp:post=true->p<=40000):
  ∃ S9 S10 S12,b.Zu.list n1 i1 (⟨some done,some cont,none⟩::env.map DF.t) S=some S9∧S9.Zm cont=some S10∧(if post then((S10.at cont).Zc ⟨lp p,false⟩).bind fun S11=>S11.Zm loop else some S10)=some S12∧Rs ls (b.labels++D) env Ts P (m+16*b.wt+4) (S12.at done):=by
 have hdP:done∈(if post then [cont]else [])++(done::P):=by simp
 have hnd:=H.w.nd;have hnd1:(done::P).Nodup:=(List.nodup_append.1 hnd).2.1;have hnd2:done∉P∧P.Nodup:=List.nodup_cons.1 hnd1;have H1:Rs ls D (⟨⟨s,true⟩,⟨some done,some cont,none⟩⟩::env) Ts _ m S:=H.push (d:=done) rfl (H.pt hdP) (fun _=>⟨cont,rfl,H.ts _ t2⟩) (fun h=>by cases h) (fun e he=>by cases he) hf;obtain⟨S9,e9,H9,c',c9⟩:=hb D _ Ts _ _ S n1 i1 false H1 ⟨c,hc⟩ bo hbb (by simp) hl (by omega) h1 hi1;have H9':=H9.pop (env':=env) (fun f hf=>List.mem_cons_of_mem _ hf);obtain⟨S10,e10,H10,c10,q10,_⟩:=H9'.jump c9 (H9'.ts _ t2);cases post with
 |false=>
  exact⟨S9,S10,S10,e9,e10,by simp,(H10.at (d:=done) (P':=P) (by simp) (by intro p hp;simp[hp]) hnd2.2 hnd2.1).le (by omega)⟩
 |true=>
  have hnd3:cont∉done::P:=by
   simp only[if_true,List.singleton_append]at hnd;exact(List.nodup_cons.1 hnd).1
  have H11:=H10.at (d:=cont) (P':=done::P) (by simp) (by simp;intro p hp;simp[hp]) hnd1 hnd3;obtain⟨S11,e11,H12,c12,q12,_⟩:=H11.add (by omega) (c:=cont) rfl ⟨lp p,false⟩ (Wi (hp rfl));obtain⟨S12,e12,H13,c13,q13,_⟩:=H12.jump c12 (H12.ts _ t1);exact⟨S9,S10,S12,e9,e10,by simp[e11,e12],(H13.at (d:=done) (P':=P) (by simp) (by intro p hp;simp[hp]) hnd2.2 hnd2.1).le (by omega)⟩
theorem tK {h:Hd} {b:T} (hb:FL ls b) (H:Rs ls D env Ts P m S) {c:Nat} (hc:S.cur=some c) {lab:Option Nat} (hlab:YA D S env h.label lab) (bo:b.ok) (hbb:b.WV ls (⟨h.label,true⟩::env.map DF.s) false) (hl:LC ls D b.labels)
  (hm:m+14+16*b.wt<=40000) (n i n1 i1:Nat) (h1:n1+b.lv false<=39000) (h0:n+3<=40000) (hi:i<=40000) (hi1:i1+b.it<=40000):
  ∃ S',Le h n i lab (env.map DF.t) (b.Zu.list n1 i1) S=some S'∧Rs ls (b.labels++D) env Ts P (m+14+16*b.wt) S'∧ ∃ c,S'.cur=some c:=by
 obtain⟨S0,e0,H0,c0,q0,r0⟩:=H.maybe (by omega) hc h.init n (by omega);have lP: ∀ p∈P,p < S.bks.length:=fun p hp=>H.lt hp;obtain⟨S1,e1,H1,c1,q1,r1⟩:=H0.newC (by omega) c0 (k:=3) (o:=some (ip i)) (by decide) (YH (by omega));obtain⟨S2,e2,H2,c2,q2,r2⟩:=H1.newC (by omega) c1 (k:=4) (o:=some (ip i)) (by decide) (YH (by omega));obtain⟨S3,e3,H3,c3,q3,r3⟩:=H2.Zf (by omega) c2 h.cond (k:=5) i (by decide) (by omega);obtain⟨S4,e4,H4,c4,q4,r4⟩:=H3.Zf (by omega) c3 h.post (k:=6) i (by decide) (by omega);have lab4:YA D S4 env h.label lab:=hlab.same (by rw[r4,r3,r2,r1,r0]);have nP: ∀ x,S0.bks.length<=x->x∉P:=fun x hx hp=>by have:=lP _ hp;omega
 have key: ∀ loop cont,loop=(if h.cond then S2.bks.length else S0.bks.length)->cont=(if h.post then S3.bks.length else loop)->
   ∃ S6 S8,((S4.YD lab S1.bks.length).UA lab cont).Zm loop=some S6∧
    (if h.cond then((S6.at loop).Zc ⟨lp (n+h.init.toNat),false⟩).bind fun S7=>(S7.LD S0.bks.length S1.bks.length).map fun S8=>S8.at S0.bks.length else some (S6.at loop))=some S8∧
    Rs ls D env (loop::cont::Ts) ((if h.post then [cont]else [])++(S1.bks.length::P)) (m+10) S8∧S8.cur=some S0.bks.length∧RY D S8 ⟨⟨h.label,true⟩,⟨some S1.bks.length,some cont,none⟩⟩:=by
  intro loop cont hloop hcont;obtain⟨H5,c5,b5,l5⟩:=H4.Om lab4 S1.bks.length cont;rw[c4]at c5;have len3:S3.bks.length=S2.bks.length+(if h.cond then 1 else 0):=q3
  have nN: ∀ x,S0.bks.length<=x->x≠S1.bks.length->(x::S1.bks.length::P).Nodup:=fun x h1 h2=>
   List.nodup_cons.2 ⟨by simp;exact⟨h2,nP _ h1⟩,List.nodup_cons.2 ⟨nP _ (by omega),H.w.nd⟩⟩
  have mloop:loop∈(if h.post then S3.bks.length::(if h.cond then S2.bks.length::S1.bks.length::S0.bks.length::P else S1.bks.length::S0.bks.length::P)else(if h.cond then S2.bks.length::S1.bks.length::S0.bks.length::P else S1.bks.length::S0.bks.length::P)):=by
   rw[hloop];cases h.cond<;>cases h.post<;>simp
  have mcont:cont∈(if h.post then S3.bks.length::(if h.cond then S2.bks.length::S1.bks.length::S0.bks.length::P else S1.bks.length::S0.bks.length::P)else(if h.cond then S2.bks.length::S1.bks.length::S0.bks.length::P else S1.bks.length::S0.bks.length::P)):=by
   rw[hcont];cases hpo:h.post with
   |true=>simp
   |false=>
    rw[hpo]at mloop;simpa using mloop
  have H5w:=(H5.watch mcont).watch mloop;obtain⟨S6,e6,H6,c6,q6,r6⟩:=H5w.jump c5 (H5w.ts loop (by simp));have hlab6:RY D S6 ⟨⟨h.label,true⟩,⟨some S1.bks.length,some cont,none⟩⟩:=RY.same (f:=⟨⟨h.label,true⟩,⟨some S1.bks.length,some cont,none⟩⟩) l5 r6;have aux: ∀ (x:Nat) (Q:List Nat),(if h.post then [x]else [])++Q=if h.post then x::Q else Q:=by intro x Q;cases h.post<;>rfl
  cases hcd:h.cond with
  |false=>
   rw[hcd]at hloop H6 len3;simp only[Bool.false_eq_true,if_false]at hloop H6 len3;refine⟨S6,S6.at loop,e6,by simp,?_,by rw[hloop];rfl,hlab6.same rfl⟩;rw[aux,hloop];rw[hloop]at H6;refine(H6.at (d:=S0.bks.length) ?_ ?_ ?_ ?_).le (by omega)
   ·split<;>simp
   ·rw[hcont];cases h.post<;>simp<;>intro p hp<;>simp[hp]
   ·rw[hcont];cases h.post with
    |false=>exact List.nodup_cons.2 ⟨nP _ (by omega),H.w.nd⟩
    |true=>exact nN _ (by simp;omega) (by simp;omega)
   ·rw[hcont];cases h.post with
    |false=>simp;exact⟨by omega,nP _ (by omega)⟩
    |true=>simp;exact⟨by omega,by omega,nP _ (by omega)⟩
  |true=>
   rw[hcd]at hloop H6 len3;simp only[if_true]at hloop H6 len3;have H7:=H6.at (d:=loop) (P':=(if h.post then [cont]else [])++(S1.bks.length::S0.bks.length::P)) (by rw[hloop];split<;>simp) (by
    rw[hcont];cases h.post<;>simp<;>intro p hp<;>simp[hp]) (by
    have hn:(S1.bks.length::S0.bks.length::P).Nodup:=List.nodup_cons.2 ⟨by simp;exact⟨by omega,nP _ (by omega)⟩,List.nodup_cons.2 ⟨nP _ (by omega),H.w.nd⟩⟩;rw[hcont];cases h.post with
    |false=>exact hn
    |true=>exact List.nodup_cons.2 ⟨by simp;exact⟨by omega,by omega,nP _ (by omega)⟩,hn⟩) (by
    rw[hcont,hloop];cases h.post with
    |false=>simp;exact⟨by omega,by omega,nP _ (by omega)⟩
    |true=>simp;exact⟨by omega,by omega,by omega,nP _ (by omega)⟩)
   obtain⟨S7,e7,H8,c8,q8,r8⟩:=H7.add (by omega) (c:=loop) rfl ⟨lp (n+h.init.toNat),false⟩ (Wi (by have:=Bool.toNat_le h.init;omega));obtain⟨S8,e8,H9,c9,q9,r9⟩:=H8.ifs c8 (t:=S0.bks.length) (t2:=S1.bks.length) (H8.pt (by simp)) (H8.pt (by simp));refine⟨S6,S8.at S0.bks.length,e6,by simp[e7,e8],(H9.at (d:=S0.bks.length) (by simp) (by cases h.post<;>simp<;>intro p hp<;>simp[hp]) ?_ ?_).le (by omega),rfl,hlab6.same (by show S8.Z4=_;rw[r9,r8];rfl)⟩
   ·rw[hcont];cases h.post with
    |false=>exact List.nodup_cons.2 ⟨nP _ (by omega),H.w.nd⟩
    |true=>exact nN _ (by simp;omega) (by simp;omega)
   ·rw[hcont];cases h.post with
    |false=>simp;exact⟨by omega,nP _ (by omega)⟩
    |true=>simp;exact⟨by omega,by omega,nP _ (by omega)⟩
 obtain⟨S6,S8,e6,e8,H8,c8,l8⟩:=key _ _ rfl rfl;obtain⟨S9,S10,S12,e9,e10,e12,H12⟩:=Ls (p:=n+h.init.toNat+h.cond.toNat) (loop:=if h.cond then S2.bks.length else S0.bks.length) hb H8 c8 (by simp) (by simp) l8 bo hbb hl (by omega) n1 i1 h1 hi1 (fun _=>by have:=Bool.toNat_le h.init;have:=Bool.toNat_le h.cond;omega);refine⟨_,?_,(H12.less (Ts':=Ts) (P':=P) (by intro d hd;simp[hd]) (fun _ h=>h) H.w.nd).le (by omega),_,rfl⟩;unfold Le;simp only[e0,e1,e2,e3,e4,e6,e8,e9,e10,e12,Option.bind_some,Option.map_some]
theorem Ei {h:Hd} {b:T} (hb:FL ls b) (H:Rs ls D env Ts P m S) {c:Nat} (hc:S.cur=some c) {lab:Option Nat} (hlab:YA D S env h.label lab) (bo:b.ok) (hbb:b.WV ls (⟨h.label,true⟩::env.map DF.s) false) (hl:LC ls D b.labels)
  (hm:m+14+16*b.wt<=40000) (n i n1 i1:Nat) (h1:n1+b.lv false<=39000) (h0:n+3<=40000) (hi:i<=40000) (hi1:i1+b.it<=40000):
  ∃ S',Vr n i lab (env.map DF.t) (b.Zu.list n1 i1) S=some S'∧Rs ls (b.labels++D) env Ts P (m+14+16*b.wt) S'∧ ∃ c,S'.cur=some c:=by
 obtain⟨S0,e0,H0,c0,q0,r0⟩:=H.add (by omega) hc ⟨lp n,false⟩ (Wi (by omega));have lP: ∀ p∈P,p < S.bks.length:=fun p hp=>H.lt hp;have nP: ∀ x,S0.bks.length<=x->x∉P:=fun x hx hp=>by have:=lP _ hp;omega
 obtain⟨S1,e1,H1,c1,q1,r1⟩:=H0.newC (by omega) c0 (k:=13) (o:=some (ip i)) (by decide) (YH (by omega));have H1w:=H1.watch (d:=S0.bks.length) (by simp);obtain⟨S2,e2,H2,c2,q2,r2⟩:=H1w.jump c1 (t:=S0.bks.length) (H1w.ts _ (by simp));have H2':=H2.at (d:=S0.bks.length) (P':=P) (by simp) (by intro p hp;simp[hp]) H.w.nd (nP _ (Nat.le_refl _));obtain⟨S3,e3,H3,c3,q3,r3⟩:=H2'.newC (by omega) (c:=S0.bks.length) rfl (k:=11) (o:=some (ip i)) (by decide) (YH (by omega));obtain⟨S4,e4,H4,c4,q4,r4⟩:=H3.newC (by omega) c3 (k:=12) (o:=some (ip i)) (by decide) (YH (by omega));have q3':S3.bks.length=S2.bks.length+1:=q3;obtain⟨S5,e5,H5,c5,q5,r5⟩:=H4.ifs c4 (t:=S2.bks.length) (t2:=S3.bks.length) (H4.pt (by simp[BS.at])) (H4.pt (by simp));have H5':=H5.at (d:=S2.bks.length) (P':=S3.bks.length::P) (by simp[BS.at]) (by intro p hp;simp[BS.at]at hp ⊢;rcases hp with h|h<;>simp[h]) (List.nodup_cons.2 ⟨nP _ (by omega),H.w.nd⟩) (by simp;exact⟨by omega,nP _ (by omega)⟩)
 have lab5:YA D (S5.at S2.bks.length) env h.label lab:=hlab.same (by show S5.Z4=_;rw[r5,r4,r3];show S2.Z4=_;rw[r2,r1,r0]);obtain⟨H6,c6,b6,l6⟩:=H5'.Om lab5 S3.bks.length S0.bks.length;obtain⟨S9,S10,S12,e9,e10,e12,H12⟩:=Ls (post:=false) (P:=P) (p:=0) (done:=S3.bks.length) (loop:=S0.bks.length) (cont:=S0.bks.length) hb (by simpa using H6) c6 (by simp) (by simp) l6 bo hbb hl (by omega) n1 i1 h1 hi1 (by simp);simp at e12;subst e12;refine⟨S10.at S3.bks.length,?_,(H12.less (Ts':=Ts) (P':=P) (by intro d hd;simp[hd]) (fun _ h=>h) H.w.nd).le (by omega),_,rfl⟩;unfold Vr;simp only[e0,e1,e2,e3,e4,e5,e9,e10,Option.bind_some,Option.map_some]
theorem FV {k:Int} {target:ByteArray} (H:Rs ls D env Ts P m S) {c:Nat} (hc:S.cur=some c) (hm:m+10<=40000) (hk:k=17∨k=18∨k=19∨k=20)
  (h17:k=17-> ∃ f∈env,target.size=0∨f.s.lab=target) (h18:k=18-> ∃ f∈env,f.s.loop=true∧(target.size=0∨f.s.lab=target)) (h19:k=19->target∈ls∧0 < target.size) (h20:k=20->target.size=0∧ ∃ f fs d,env=f::fs∧f.t.fal=some d):
  ∃ S',S.Zg k target (env.map DF.t)=some S'∧Rs ls D env Ts P (m+10) S'∧ ∃ c,S'.cur=some c:=by
 have key: ∃ d S1,S.aim k target (env.map DF.t)=some (some d,S1)∧Rs ls D env Ts P (m+1) S1∧S1.cur=some c∧S1.tgt d:=by
  unfold BS.aim;by_cases ht:0 < target.size
  ·rw[if_pos ht];rcases hk with rfl|rfl|rfl|rfl
   ·obtain⟨f,hf,he⟩:=h17 rfl;have he:f.s.lab=target:=he.elim (fun h=>by omega) id;subst he;obtain⟨j,y,g1,g2,g3,g4⟩:=H.look hf ht;obtain⟨d,g5,g6⟩:=H.env.brk f hf;exact⟨d,S,by simp[g1,g2,g3,g5],H.le (Nat.le_succ _),hc,g6⟩
   ·obtain⟨f,hf,hlp,he⟩:=h18 rfl;have he:f.s.lab=target:=he.elim (fun h=>by omega) id;subst he;obtain⟨j,y,g1,g2,g3,g4⟩:=H.look hf ht;obtain⟨d,g5,g6⟩:=H.env.cnt f hf hlp;exact⟨d,S,by simp[g1,g2,g4,g5],H.le (Nat.le_succ _),hc,g6⟩
   ·obtain⟨⟨j,S1⟩,y,g1,g2,g3,g4,g5⟩:=H.goto (by omega) (h19 rfl).1;exact⟨y.2.go,S1,by simp only[g1,Option.bind_some];rw[g2];simp,g3,by rw[<-hc];exact g4,g5⟩
   ·have:=(h20 rfl).1;omega
  ·rw[if_neg ht];rcases hk with rfl|rfl|rfl|rfl
   ·obtain⟨f,hf,he⟩:=h17 rfl;cases env with
    |nil=>simp at hf
    |cons f0 fs=>
     obtain⟨d,g5,g6⟩:=H.env.brk f0 (by simp);exact⟨d,S,by simp[g5],H.le (Nat.le_succ _),hc,g6⟩
   ·obtain⟨f,hf,hlp,he⟩:=h18 rfl;have: ∃ d,(env.map DF.t).findSome? Tg.cnt=some d∧S.tgt d:=by
     have hcnt:=H.env.cnt;have hcn0:=H.env.cn0;clear H h17 h18 h19 h20
     induction env with
     |nil=>simp at hf
     |cons f0 fs ih=>
      cases hl0:f0.s.loop with
      |true=>
       obtain⟨d,g1,g2⟩:=hcnt f0 (by simp) hl0;exact⟨d,by simp[g1],g2⟩
      |false=>
       have g1:=hcn0 f0 (by simp) hl0;rcases List.mem_cons.1 hf with rfl|hf'
       ·rw[hlp]at hl0;cases hl0
       ·obtain⟨d,g2,g3⟩:=ih hf' (fun f hf=>hcnt f (List.mem_cons_of_mem _ hf)) (fun f hf=>hcn0 f (List.mem_cons_of_mem _ hf));exact⟨d,by simp[g1];simpa using g2,g3⟩
    obtain⟨d,g1,g2⟩:=this;exact⟨d,S,by simp[g1],H.le (Nat.le_succ _),hc,g2⟩
   ·have:=(h19 rfl).2;omega
   ·obtain⟨_,f,fs,d,rfl,g1⟩:=h20 rfl;exact⟨d,S,by simp[g1],H.le (Nat.le_succ _),hc,H.env.fal f (by simp) d g1⟩
 obtain⟨d,S1,e1,H1,c1,t1⟩:=key;obtain⟨S2,e2,H2,c2,q2,_⟩:=H1.jump c1 t1;obtain⟨S3,e3,H3,c3⟩:=H2.newAt (by omega) (o:=some 0) sO;refine⟨S3,?_,H3.le (by omega),_,c3⟩;unfold BS.Zg;simp only[e1,Option.bind_some,BS.aimed,e2,e3]
end
section
variable {ls D:List ByteArray} {env:List DF} {Ts P:List Nat} {m:Nat} {S S':BS}
def T.Yr:T->Bool->Prop
 | .nil,_=>True
 | .st _ b e c tl,k=>k=true∧b.Yr true∧e.Yr true∧c.Yr false∧tl.Yr true
 | .cl _ b tl,k=>k=false∧b.Yr true∧tl.Yr false
theorem Rs.swap (h:Rs ls D env Ts P m S) {c d:Nat} {k:Bk} (hc:S.cur=some c) (hk:S.bks[c]? =some k) (hf:k.fresh) (h1:k.kind≠1) (h10:k.kind≠10) {P':List Nat} (hd:d∈P) (hP: ∀ p∈P',p∈c::P) (hn:P'.Nodup) (hdP:d∉P'):Rs ls D env Ts P' m (S.at d):=by
 obtain⟨kd,hkd,hfd,hk1,hk10⟩:=h.w.pend d hd;refine⟨⟨hn,?_,fun p hp=>?_,?_,h.w.labu,h.w.labg,h.w.blk⟩,⟨h.bd.pos,h.bd.len,h.bd.nod,h.bd.ask,h.bd.fst⟩,h.df,h.env.mo (fun _ h=>h) (fun _ _ h _=>h),h.ts⟩
 ·intro c' hc';cases hc';exact⟨hdP,kd,hkd,hfd.2.1⟩
 ·rcases List.mem_cons.1 (hP p hp)with rfl|hp'
  ·exact⟨k,hk,hf,h1,h10⟩
  ·exact h.w.pend p hp'
 ·intro j y hj;obtain⟨h0,q,g1,g2,g3⟩:=h.w.labk j y hj;refine⟨h0,q,g1,g2,fun hn=>?_⟩;obtain⟨f1,f2,f3⟩:=g3 hn;refine⟨f1,fun e=>?_,f3⟩;have e':d=y.2.go:=Option.some.inj e;rw[e']at hkd;rw[g1]at hkd;cases hkd;exact hk10 g2
theorem ni (h:Rs ls D env Ts P m S) {d:Nat} (hd:d∈P): ∃ k,(S.at d).bks[d]? =some k∧k.fresh:=by
 obtain⟨k,h1,h2,_⟩:=h.w.pend d hd;exact⟨k,h1,h2⟩
theorem Md {body:Nat} {p:Int} (hp:OB (some p)): ∀ (k:Nat) (n m:Nat) (S:BS) (c:Nat),Rs ls D env Ts P m S->S.cur=some c->body∈Ts->m+3*k<=40000->n+k<=40000->
  ∃ S',Yg body p k n S=some S'∧Rs ls D env Ts P (m+3*k) S'∧S.bks.length<=S'.bks.length∧((k=0∧S'=S)∨ ∃ c' q,S'.cur=some c'∧S.bks.length<=c'∧c' < S'.bks.length∧S'.bks[c']? =some q∧q.fresh∧q.kind≠1∧q.kind≠10):=by
 intro k
 induction k with
 |zero=>intro n m S c H hc hb hm hn;exact⟨S,rfl,H,Nat.le_refl _,.inl ⟨rfl,rfl⟩⟩
 |succ k ih=>
  intro n m S c H hc hb hm hn;obtain⟨S1,e1,H1,c1,q1,_⟩:=H.newC (by omega) hc (k:=19) (o:=some p) (by decide) hp;obtain⟨S2,e2,H2,c2,q2,_⟩:=H1.add (by omega) c1 ⟨lp n,false⟩ (Wi (by omega));obtain⟨S3,e3,H3,c3,q3,_⟩:=H2.ifs c2 (H2.ts _ hb) (H2.pt (d:=S.bks.length) (by simp));have hnP:S.bks.length∉P:=fun hp=>by have:=H.lt hp;omega
  have H4:=H3.at (d:=S.bks.length) (P':=P) (by simp) (by intro x hx;simp[hx]) H.w.nd hnP;obtain⟨kq,hkq,hkf,hk1,hk10⟩:=H3.w.pend S.bks.length (by simp);obtain⟨S',e',H',hl',hr⟩:=ih (n+1) (m+3) (S3.at S.bks.length) S.bks.length (H4.le (by omega)) rfl hb (by omega) (by omega);have hl3:(S3.at S.bks.length).bks.length=S.bks.length+1:=by show S3.bks.length=_;omega
  refine⟨S',?_,H'.le (by omega),by omega,.inr ?_⟩
  ·unfold Yg;simp only[e1,e2,e3,Option.bind_some,e']
  ·rcases hr with⟨rfl,rfl⟩ |⟨c',q,g1,g2,g3,g4⟩
   ·exact⟨S.bks.length,kq,rfl,Nat.le_refl _,by omega,hkq,hkf,hk1,hk10⟩
   ·exact⟨c',q,g1,by omega,g3,g4⟩
theorem Me {body:Nat} {p:Int} (hp:OB (some p)): ∀ (k:Nat) (m:Nat) (S:BS) (c:Nat),Rs ls D env Ts P m S->S.cur=some c->body∈Ts->m+3*k<=40000->
  ∃ S',X0 body p k S=some S'∧Rs ls D env Ts P (m+3*k) S'∧S.bks.length<=S'.bks.length∧((k=0∧S'=S)∨ ∃ c' q,S'.cur=some c'∧S.bks.length<=c'∧c' < S'.bks.length∧S'.bks[c']? =some q∧q.fresh∧q.kind≠1∧q.kind≠10):=by
 intro k
 induction k with
 |zero=>intro m S c H hc hb hm;exact⟨S,rfl,H,Nat.le_refl _,.inl ⟨rfl,rfl⟩⟩
 |succ k ih=>
  intro m S c H hc hb hm;obtain⟨S1,e1,H1,c1,q1,_⟩:=H.newC (by omega) hc (k:=19) (o:=some p) (by decide) hp;obtain⟨S3,e3,H3,c3,q3,_⟩:=H1.ifs c1 (H1.ts _ hb) (H1.pt (d:=S.bks.length) (by simp));have hnP:S.bks.length∉P:=fun hp=>by have:=H.lt hp;omega
  have H4:=H3.at (d:=S.bks.length) (P':=P) (by simp) (by intro x hx;simp[hx]) H.w.nd hnP;obtain⟨kq,hkq,hkf,hk1,hk10⟩:=H3.w.pend S.bks.length (by simp);obtain⟨S',e',H',hl',hr⟩:=ih (m+3) (S3.at S.bks.length) S.bks.length (H4.le (by omega)) rfl hb (by omega);have hl3:(S3.at S.bks.length).bks.length=S.bks.length+1:=by show S3.bks.length=_;omega
  refine⟨S',?_,H'.le (by omega),by omega,.inr ?_⟩
  ·unfold X0;simp only[e1,e3,Option.bind_some,e']
  ·rcases hr with⟨rfl,rfl⟩ |⟨c',q,g1,g2,g3,g4⟩
   ·exact⟨S.bks.length,kq,rfl,Nat.le_refl _,by omega,hkq,hkf,hk1,hk10⟩
   ·exact⟨c',q,g1,by omega,g3,g4⟩
def LZ (ls:List ByteArray) (t:T):Prop:=t.Yr true->FL ls t
structure U2 where
 b:T
 n:Nat
 i:Nat
 blk:Nat
 fal:Nat
def U2.df (d:U2):Df:=⟨d.blk,d.b.Zu.list d.n d.i,d.fal⟩
def VH:Option U2->Nat
 |none=>0
 |some d=>d.b.wt
def Wy:Option U2->List ByteArray
 |none=> []
 |some d=>d.b.labels
def Xo:Option U2->List Nat
 |none=> []
 |some d=> [d.blk]
def qH (ls:List ByteArray) (env:List DF) (Ts:List Nat) (s:ByteArray) (d:U2):Prop:=
 FL ls d.b∧d.b.ok∧(∃ fl,d.b.WV ls (⟨s,false⟩::env.map DF.s) fl)∧d.fal∈Ts∧d.n+d.b.lv false<=39000∧d.i+d.b.it<=40000
theorem LC.comm {a b:List ByteArray} (h:LC ls D (a++b)):LC ls D (b++a):=
 ⟨fun s hs=>h.1 s (by simp at hs ⊢;exact hs.symm),by
  have:=h.2;rw[List.nodup_append]at this ⊢;exact⟨this.2.1,this.1,fun x hx y hy e=>this.2.2 y hy x hx e.symm⟩⟩
def Vp (s:ByteArray) (done:Nat) (fal:Option Nat):DF:=⟨⟨s,false⟩,⟨some done,none,fal⟩⟩
theorem Rs.frame {s:ByteArray} {done:Nat} {fal0:Option Nat} (h:Rs ls D (Vp s done fal0::env) Ts P m S) (fal:Option Nat) (hf: ∀ d,fal=some d->S.tgt d):Rs ls D (Vp s done fal::env) Ts P m S:=by
 obtain⟨d,h1,h2⟩:=h.env.brk (Vp s done fal0) (by simp);cases h1;exact(h.pop (env':=env) (fun f hf=>List.mem_cons_of_mem _ hf)).push (f:=Vp s done fal) rfl h2 (fun h=>by cases h) (fun _=>rfl) hf (h.env.lab (Vp s done fal0) (by simp))
theorem TN {b:T} (hb:FL ls b) {s:ByteArray} {done:Nat} (H:Rs ls D (Vp s done none::env) Ts P m S) {c:Nat} (hc:S.cur=some c) {fal:Option Nat} (hfal: ∀ d,fal=some d->d∈Ts) (bo:b.ok) {fl:Bool} (hbb:b.WV ls (⟨s,false⟩::env.map DF.s) fl) (hfl:fl=true-> ∃ d,fal=some d)
  (hl:LC ls D b.labels) (hdn:done∈P) (hm:m+16*b.wt+1<=40000) (n1 i1:Nat) (h1:n1+b.lv false<=39000) (hi1:i1+b.it<=40000):
  ∃ S1 S2,b.Zu.list n1 i1 (⟨some done,none,fal⟩::env.map DF.t) S=some S1∧S1.Zm done=some S2∧Rs ls (b.labels++D) (Vp s done none::env) Ts P (m+16*b.wt+1) S2∧S2.cur=none:=by
 have Hf:=H.frame fal (fun d hd=>H.ts d (hfal d hd));obtain⟨S1,e1,H1,c',c1⟩:=hb D _ Ts P m S n1 i1 fl Hf ⟨c,hc⟩ bo hbb (fun h=>let⟨d,hd⟩:=hfl h;⟨_,_,d,rfl,hd⟩) hl (by omega) h1 hi1;obtain⟨S2,e2,H2,c2,q2,_⟩:=H1.jump c1 (H1.pt hdn);exact⟨S1,S2,e1,e2,H2.frame none (fun d hd=>by cases hd),c2⟩
theorem uO {s:ByteArray} {done:Nat} {df:Option U2} (H:Rs ls D (Vp s done none::env) Ts (Xo df++(done::P)) m S) {c:Nat} (hc:S.cur=some c) (hdf: ∀ d,df=some d->qH ls env Ts s d) (hl:LC ls D (Wy df)) (hm:m+16*VH df+8<=40000):
  ∃ S',Uf (env.map DF.t) done (df.map U2.df) S=some S'∧Rs ls (Wy df++D) env Ts P (m+16*VH df+8) S'∧S'.cur=some done:=by
 cases df with
 |none=>
  have hnd:done∉P∧P.Nodup:=List.nodup_cons.1 H.w.nd;obtain⟨S1,e1,H1,c1,_⟩:=H.jump hc (H.pt (d:=done) (by simp[Xo]));refine⟨S1.at done,by simp[Uf,e1],?_,rfl⟩;exact((H1.at (d:=done) (P':=P) (by simp[Xo]) (by intro p hp;simp[hp]) hnd.2 hnd.1).pop (env':=env) (fun f hf=>List.mem_cons_of_mem _ hf)).le (by omega)
 |some d=>
  obtain⟨g1,g2,⟨fl,g3⟩,g4,g5,g6⟩:=hdf d rfl;simp only[Xo,List.singleton_append]at H;have hn1:=List.nodup_cons.1 H.w.nd;have hnd:=List.nodup_cons.1 hn1.2;obtain⟨S1,e1,H1,c1,_⟩:=H.jump hc (H.pt (d:=d.blk) (by simp));have H1':=H1.at (d:=d.blk) (P':=done::P) (by simp) (by simp;intro p hp;simp[hp]) hn1.2 hn1.1;obtain⟨S2,S3,e2,e3,H3,c3⟩:=TN g1 H1' rfl (fal:=some d.fal) (by intro x hx;cases hx;exact g4) g2 g3 (fun _=>⟨_,rfl⟩) hl (by simp) (by simp[VH]at hm;omega) d.n d.i g5 g6;refine⟨S3.at done,?_,?_,rfl⟩
  ·simp only[Uf,Option.map_some,U2.df,e1,Option.bind_some,e2,e3]
  ·exact((H3.at (d:=done) (P':=P) (by simp) (by intro p hp;simp[hp]) hnd.2 hnd.1).pop (env':=env) (fun f hf=>List.mem_cons_of_mem _ hf)).le (by simp[VH];omega)
theorem O6 (tl:Bool) (q:Nat):(if tl then []else(some q).toList)=(if tl then []else [q]):=by cases tl<;>rfl
theorem uM: ∀ c:T,c.All (LZ ls)-> ∀ (D:List ByteArray) (env:List DF) (Ts P:List Nat) (m:Nat) (S:BS) (n i:Nat) (s:ByteArray) (done:Nat) (fall:Option Nat) (df:Option U2),
  Rs ls D (Vp s done none::env) Ts ((if c.isNil then []else fall.toList)++(Xo df++(done::P))) m S->(∃ c0,S.cur=some c0)->c.ok->c.Yr false->c.WV ls (⟨s,false⟩::env.map DF.s) true->done∈Ts->(∀ d,df=some d->qH ls env Ts s d)->
  c.ZF+(Xo df).length<=1->LC ls D (c.labels++Wy df)->m+16*(c.wt+VH df)+8<=40000->n+c.lv true<=39000->i+c.it<=40000->
  ∃ S',c.Zu.sw n i (env.map DF.t) done fall (df.map U2.df) S=some S'∧Rs ls (Wy df++(c.labels++D)) env Ts P (m+16*(c.wt+VH df)+8) S'∧S'.cur=some done:=by
 intro c
 induction c with
 |nil=>
  intro _ D env Ts P m S n i s done fall df H ⟨c0,hc⟩ _ _ _ hdT hdf _ hl hm _ _;obtain⟨S',e1,H1,c1⟩:=uO (by simpa [T.isNil]using H) hc hdf (by simpa [T.labels]using hl) (by simp[T.wt]at hm;omega);exact⟨S',e1,by simpa [T.labels,T.wt]using H1,c1⟩
 |st h b e c tl=>intro _ D env Ts P m S n i s done fall df H _ _ hs;exact absurd hs.1 (by simp)
 |cl x b tl _ ih=>
  intro⟨hQ,hall⟩ D env Ts P m S n i s done fall df H ⟨c0,hc⟩ ⟨hx0,hx3,bo,to⟩ ⟨_,bs,ts⟩ ⟨hbb,htb⟩ hdT hdf hpl hl hm hn hi;have hbFL:=hQ bs;simp only[T.wt]at hm;simp only[T.lv,if_true]at hn;simp only[T.it]at hi;simp only[T.labels,List.append_assoc]at hl;have key1: ∃ body S1,S.UF fall i=some (body,S1)∧Rs ls D (Vp s done none::env) (body::Ts) (body::(Xo df++(done::P))) (m+1) S1∧S1.cur=some c0:=by
   cases fall with
   |none=>
    obtain⟨S1,e1,H1,c1,q1,_⟩:=H.newC (by omega) hc (k:=17) (o:=some (ip i)) (by decide) (YH (by omega));refine⟨S.bks.length,S1,by simp[BS.UF,e1],?_,c1⟩;have:(if(T.cl x b tl).isNil=true then([]:List Nat)else(none:Option Nat).toList)= []:=by simp
    rw[this]at H1;exact H1.watch (by simp)
   |some f=>
    have:(if(T.cl x b tl).isNil=true then([]:List Nat)else(some f).toList)= [f]:=by simp[T.isNil]
    rw[this]at H;exact⟨f,S,rfl,(H.watch (d:=f) (by simp)).le (by omega),hc⟩
  obtain⟨body,S1,e1,H1,c1⟩:=key1;have key2: ∃ q S2,S1.UJ tl.isNil done (i+1+b.it)=some (q,S2)∧Rs ls D (Vp s done none::env) (q::body::Ts) ((if tl.isNil then []else [q])++(body::(Xo df++(done::P)))) (m+2) S2∧S2.cur=some c0:=by
   unfold BS.UJ;cases htn:tl.isNil with
   |true=>exact⟨done,S1,rfl,⟨H1.w,(H1.le (by omega)).bd,H1.df,H1.env,fun d hd=>by
     rcases List.mem_cons.1 hd with rfl|hd
     ·exact H1.ts d (by simp[hdT])
     ·exact H1.ts d hd⟩,c1⟩
   |false=>
    obtain⟨S2,e2,H2,c2,q2,_⟩:=H1.newC (by omega) c1 (k:=17) (o:=some (ip (i+1+b.it))) (by decide) (YH (by omega));exact⟨S1.bks.length,S2,by simp[e2],H2.watch (by simp),c2⟩
  obtain⟨q,S2,e2,H2,c2⟩:=key2
  have hbld:(T.cl x b tl).Zu.sw n i (env.map DF.t) done fall (df.map U2.df) S=if x<=0 then tl.Zu.sw (n+x.toNat+b.lv false) (i+1+b.it) (env.map DF.t) done (some q) (some ⟨body,b.Zu.list (n+x.toNat) (i+1),q⟩) S2
   else(Yg body (ip i) x.toNat n S2).bind fun S3=>(b.Zu.list (n+x.toNat) (i+1) (⟨some done,none,some q⟩::env.map DF.t) (S3.at body)).bind fun S4=>(S4.Zm done).bind fun S5=>
    tl.Zu.sw (n+x.toNat+b.lv false) (i+1+b.it) (env.map DF.t) done (some q) (df.map U2.df) { S5 with cur:=S3.cur } :=by
   simp only[T.Zu,e1,e2,Option.bind_some]
  rw[hbld];by_cases hx:x<=0
  ·rw[if_pos hx];have hx':x=0:=by omega
   have hdn:df=none:=by
    cases df with
    |none=>rfl
    |some d=>simp[T.ZF,hx',Xo]at hpl
   subst hdn
   obtain⟨S',e3,H3,c3⟩:=ih hall D env (q::body::Ts) P (m+2) S2 (n+x.toNat+b.lv false) (i+1+b.it) s done (some q) (some ⟨b,n+x.toNat,i+1,body,q⟩) (by rw[O6];exact H2) ⟨c0,c2⟩ to ts htb (by simp[hdT])
    (fun d hd=>by cases hd;exact⟨hbFL,bo,⟨_,hbb⟩,by simp,by show n+x.toNat+b.lv false<=39000;omega,by show i+1+b.it<=40000;omega⟩) (by simp[T.ZF,hx',Xo]at hpl ⊢;omega) (by simp only[Wy,List.append_nil]at hl ⊢;exact hl.comm) (by simp only[VH]at hm ⊢;omega) (by omega) (by omega)
   refine⟨S',e3,?_,c3⟩;refine((H3.less (Ts':=Ts) (P':=P) (by intro d hd;simp[hd]) (fun _ h=>h) (List.nodup_cons.1 (List.nodup_append.1 (List.nodup_append.1 H.w.nd).2.1).2.1).2).le (by simp only[VH,T.wt];omega)).perm ?_;intro z;simp[Wy,T.labels]
  ·rw[if_neg hx];have hPn:=H2.w.nd;have hfl:=(List.nodup_append.1 hPn)
   have hbn:=List.nodup_cons.1 hfl.2.1;obtain⟨S3,e3,H3,hl3,hr⟩:=Md (D:=D) (env:=Vp s done none::env) (P:=(if tl.isNil then []else [q])++(body::(Xo df++(done::P)))) (Ts:=q::body::Ts) (body:=body) (p:=ip i) (YH (by omega)) x.toNat n (m+2) S2 c0 H2 c2 (by simp) (by omega) (by omega);have hrr: ∃ c' kq,S3.cur=some c'∧S2.bks.length<=c'∧c' < S3.bks.length∧S3.bks[c']? =some kq∧kq.fresh∧kq.kind≠1∧kq.kind≠10:=by
    rcases hr with⟨h0,_⟩ |h0
    ·omega
    ·exact h0
   obtain⟨c',kq,c3,hc'1,hc'2,hkq,hkf,hk1,hk10⟩:=hrr;have lt2: ∀ p∈(if tl.isNil then []else [q])++(body::(Xo df++(done::P))),p < S2.bks.length:=fun p hp=>H2.lt hp;have c'n:c'∉(if tl.isNil then []else [q])++(body::(Xo df++(done::P))):=fun hp=>by have:=lt2 _ hp;omega
   have nd4:((if tl.isNil then []else [q])++(Xo df++(done::P))).Nodup:=by
    rw[List.nodup_append];exact⟨hfl.1,hbn.2,fun a ha b hb=>hfl.2.2 a ha b (List.mem_cons_of_mem _ hb)⟩
   have bn4:body∉(if tl.isNil then []else [q])++(Xo df++(done::P)):=by
    intro hp;rcases List.mem_append.1 hp with hp|hp
    ·exact hfl.2.2 body hp body (by simp) rfl
    ·exact hbn.1 hp
   have sub4: ∀ p∈(if tl.isNil then []else [q])++(Xo df++(done::P)),p∈(if tl.isNil then []else [q])++(body::(Xo df++(done::P))):=by
    intro p hp;rcases List.mem_append.1 hp with hp|hp
    ·exact List.mem_append_left _ hp
    ·exact List.mem_append_right _ (List.mem_cons_of_mem _ hp)
   have H4:=H3.swap (d:=body) (P':=c'::((if tl.isNil then []else [q])++(Xo df++(done::P)))) c3 hkq hkf hk1 hk10 (by simp) (by
    intro p hp;rcases List.mem_cons.1 hp with rfl|hp
    ·simp
    ·exact List.mem_cons_of_mem _ (sub4 p hp)) (List.nodup_cons.2 ⟨fun hp=>c'n (sub4 _ hp),nd4⟩) (by
    intro hp;rcases List.mem_cons.1 hp with rfl|hp
    ·exact c'n (by simp)
    ·exact bn4 hp)
   obtain⟨l1,l2⟩:=LC.app (a:=b.labels) (b:=tl.labels++Wy df) hl;obtain⟨S4,S5,e4,e5,H5,c5⟩:=TN hbFL H4 rfl (fal:=some q) (by intro d hd;cases hd;simp) bo hbb (fun _=>⟨_,rfl⟩) l1 (by simp) (by omega) (n+x.toNat) (i+1) (by omega) (by omega);have H6:=H5.at (d:=c') (P':=(if tl.isNil then []else [q])++(Xo df++(done::P))) (by simp) (by intro p hp;exact List.mem_cons_of_mem _ hp) nd4 (fun hp=>c'n (sub4 _ hp))
   obtain⟨S',e6,H7,c7⟩:=ih hall _ env (q::body::Ts) P _ (S5.at c') (n+x.toNat+b.lv false) (i+1+b.it) s done (some q) df (by rw[O6];exact H6) ⟨c',rfl⟩ to ts htb (by simp[hdT])
    (fun d hd=>let⟨g1,g2,g3,g4,g5,g6⟩:=hdf d hd;⟨g1,g2,g3,by simp[g4],g5,g6⟩) (by simp[T.ZF]at hpl;omega) l2 (by omega) (by omega) (by omega)
   refine⟨S',?_,?_,c7⟩
   ·simp only[e3,Option.bind_some,e4,e5,c3];exact e6
   ·refine((H7.less (Ts':=Ts) (P':=P) (by intro d hd;simp[hd]) (fun _ h=>h) (List.nodup_cons.1 (List.nodup_append.1 hbn.2).2.1).2).le (by simp only[T.wt];omega)).perm ?_;intro z;simp[T.labels];constructor
    ·intro h;rcases h with h|h|h|h<;>simp[h]
    ·intro h;rcases h with h|h|h|h<;>simp[h]
end
section
variable {ls D:List ByteArray} {env:List DF} {Ts P:List Nat} {m:Nat} {S S':BS}
theorem T.Ti: ∀ c:T,c.len<=c.wt:=by
 intro c
 induction c with
 |nil=>simp[T.len,T.wt]
 |st h b e c tl _ _ _ ih=>simp only[T.len,T.wt];omega
 |cl x b tl _ ih=>simp only[T.len,T.wt];omega
def U2.lr (d:U2):Lr:=d.b.Zu.list d.n d.i
def RZ (ls:List ByteArray) (env:List DF) (s:ByteArray) (d:U2):Prop:=
 FL ls d.b∧d.b.ok∧d.b.WV ls (⟨s,false⟩::env.map DF.s) false∧d.n+d.b.lv false<=39000∧d.i+d.b.it<=40000
theorem Fg {s:ByteArray} {done:Nat} {d:U2} (H:Rs ls D (Vp s done none::env) Ts (done::P) m S) {c:Nat} (hc:S.cur=some c) (hdf:RZ ls env s d) (hl:LC ls D d.b.labels) (hm:m+16*d.b.wt+8<=40000):
  ∃ S2 S3,d.lr (⟨some done,none,none⟩::env.map DF.t) S=some S2∧S2.Zm done=some S3∧Rs ls (d.b.labels++D) env Ts P (m+16*d.b.wt+8) (S3.at done):=by
 obtain⟨g1,g2,g3,g5,g6⟩:=hdf;have hnd:=List.nodup_cons.1 H.w.nd;obtain⟨S2,S3,e2,e3,H3,c3⟩:=TN g1 H hc (fal:=none) (by intro x hx;cases hx) g2 g3 (by simp) hl (by simp) (by omega) d.n d.i g5 g6;exact⟨S2,S3,e2,e3,((H3.at (d:=done) (P':=P) (by simp) (by intro p hp;simp[hp]) hnd.2 hnd.1).pop (env':=env) (fun f hf=>List.mem_cons_of_mem _ hf)).le (by omega)⟩
theorem uy {s:ByteArray} {done:Nat} {df:Option U2} (H:Rs ls D (Vp s done none::env) Ts (done::P) m S) {c:Nat} (hc:S.cur=some c) (hdf: ∀ d,df=some d->RZ ls env s d) (hl:LC ls D (Wy df)) (hm:m+16*VH df+8<=40000):
  ∃ S',Ul (env.map DF.t) done (df.map U2.lr) S=some S'∧Rs ls (Wy df++D) env Ts P (m+16*VH df+8) S'∧S'.cur=some done:=by
 cases df with
 |none=>
  have hnd:done∉P∧P.Nodup:=List.nodup_cons.1 H.w.nd;obtain⟨S1,e1,H1,c1,_⟩:=H.jump hc (H.pt (d:=done) (by simp));refine⟨S1.at done,by simp[Ul,e1],?_,rfl⟩;exact((H1.at (d:=done) (P':=P) (by simp) (by intro p hp;simp[hp]) hnd.2 hnd.1).pop (env':=env) (fun f hf=>List.mem_cons_of_mem _ hf)).le (by omega)
 |some d=>
  obtain⟨S2,S3,e2,e3,H3⟩:=Fg H hc (hdf d rfl) hl hm;exact⟨S3.at done,by simp only[Ul,Option.map_some,e2,Option.bind_some,e3],H3,rfl⟩
theorem zC {s:ByteArray} {done:Nat} {df:Option U2} (H:Rs ls D (Vp s done none::env) Ts (done::P) m S) {c:Nat} (hc:S.cur=some c) (hdf: ∀ d,df=some d->RZ ls env s d) (hl:LC ls D (Wy df)) (hm:m+16*VH df+8<=40000):
  ∃ S',Vz (env.map DF.t) done (df.map U2.lr) S=some S'∧Rs ls (Wy df++D) env Ts P (m+16*VH df+8) S'∧S'.cur=some done:=by
 cases df with
 |none=>
  have hnd:done∉P∧P.Nodup:=List.nodup_cons.1 H.w.nd;refine⟨S.at done,rfl,?_,rfl⟩;exact((H.at (d:=done) (P':=P) (by simp) (by intro p hp;simp[hp]) hnd.2 hnd.1).pop (env':=env) (fun f hf=>List.mem_cons_of_mem _ hf)).le (by omega)
 |some d=>
  obtain⟨S2,S3,e2,e3,H3⟩:=Fg H hc (hdf d rfl) hl hm;exact⟨S3.at done,by simp only[Vz,Option.map_some,e2,Option.bind_some,e3],H3,rfl⟩
theorem vw: ∀ c:T,c.All (LZ ls)-> ∀ (D:List ByteArray) (env:List DF) (Ts P:List Nat) (m:Nat) (S:BS) (n i:Nat) (s:ByteArray) (done:Nat) (df:Option U2),
  Rs ls D (Vp s done none::env) Ts (done::P) m S->(∃ c0,S.cur=some c0)->c.ok->c.Yr false->c.WV ls (⟨s,false⟩::env.map DF.s) false->(∀ d,df=some d->RZ ls env s d)->
  c.ZF+df.toList.length<=1->LC ls D (c.labels++Wy df)->m+16*(c.wt+VH df)+8<=40000->n+c.lv false<=39000->i+c.it<=40000->
  ∃ S',c.Zu.ty n i (env.map DF.t) done (df.map U2.lr) S=some S'∧Rs ls (Wy df++(c.labels++D)) env Ts P (m+16*(c.wt+VH df)+8) S'∧S'.cur=some done:=by
 intro c
 induction c with
 |nil=>
  intro _ D env Ts P m S n i s done df H ⟨c0,hc⟩ _ _ _ hdf _ hl hm _ _;obtain⟨S',e1,H1,c1⟩:=uy H hc hdf (by simpa [T.labels]using hl) (by simp[T.wt]at hm;omega);exact⟨S',e1,by simpa [T.labels,T.wt]using H1,c1⟩
 |st h b e c tl=>intro _ D env Ts P m S n i s done df H _ _ hs;exact absurd hs.1 (by simp)
 |cl x b tl _ ih=>
  intro⟨hQ,hall⟩ D env Ts P m S n i s done df H ⟨c0,hc⟩ ⟨hx0,hx3,bo,to⟩ ⟨_,bs,ts⟩ ⟨hbb,htb⟩ hdf hpl hl hm hn hi;have hbFL:=hQ bs;simp only[T.wt]at hm;simp only[T.lv,Bool.false_eq_true,if_false,Nat.zero_add]at hn;simp only[T.it]at hi;simp only[T.labels,List.append_assoc]at hl;simp only[Bool.false_and]at hbb;have hnd:=List.nodup_cons.1 H.w.nd;simp only[T.Zu];by_cases hx:x<=0
  ·rw[if_pos hx];have hx':x=0:=by omega
   have hdn:df=none:=by
    cases df with
    |none=>rfl
    |some d=>simp[T.ZF,hx']at hpl
   subst hdn
   obtain⟨S',e3,H3,c3⟩:=ih hall D env Ts P m S (n+b.lv false) (i+1+b.it) s done (some ⟨b,n,i+1,0,0⟩) H ⟨c0,hc⟩ to ts htb
    (fun d hd=>by cases hd;exact⟨hbFL,bo,hbb,by show n+b.lv false<=39000;omega,by show i+1+b.it<=40000;omega⟩) (by simp[T.ZF,hx']at hpl ⊢;omega) (by simp only[Wy,List.append_nil]at hl ⊢;exact hl.comm) (by simp only[VH]at hm ⊢;omega) (by omega) (by omega)
   refine⟨S',e3,?_,c3⟩;refine(H3.le (by simp only[VH,T.wt];omega)).perm ?_;intro z;simp[Wy,T.labels]
  ·rw[if_neg hx];obtain⟨S1,e1,H1,c1,q1,_⟩:=H.newC (by omega) hc (k:=17) (o:=some (ip i)) (by decide) (YH (by omega));have hnb:S.bks.length∉done::P:=fun hp=>by have:=H.lt hp;omega
   have H1w:=H1.watch (d:=S.bks.length) (by simp);obtain⟨S3,e3,H3,hl3,hr⟩:=Me (body:=S.bks.length) (p:=ip i) (YH (by omega)) x.toNat (m+1) S1 c0 H1w c1 (by simp) (by omega);have hrr: ∃ c' kq,S3.cur=some c'∧S1.bks.length<=c'∧c' < S3.bks.length∧S3.bks[c']? =some kq∧kq.fresh∧kq.kind≠1∧kq.kind≠10:=by
    rcases hr with⟨h0,_⟩ |h0
    ·omega
    ·exact h0
   obtain⟨c',kq,c3,hc'1,hc'2,hkq,hkf,hk1,hk10⟩:=hrr;have c'n:c'∉S.bks.length::done::P:=fun hp=>by have:=H1.lt hp;omega
   have H4:=H3.swap (d:=S.bks.length) (P':=c'::done::P) c3 hkq hkf hk1 hk10 (by simp) (by
    intro p hp;rcases List.mem_cons.1 hp with rfl|hp
    ·simp
    ·exact List.mem_cons_of_mem _ (List.mem_cons_of_mem _ hp)) (List.nodup_cons.2 ⟨fun hp=>c'n (List.mem_cons_of_mem _ hp),H.w.nd⟩) (by
    intro hp;rcases List.mem_cons.1 hp with h|hp
    ·exact c'n (by simp[h])
    ·exact hnb hp)
   obtain⟨l1,l2⟩:=LC.app (a:=b.labels) (b:=tl.labels++Wy df) hl;obtain⟨S4,S5,e4,e5,H5,c5⟩:=TN hbFL H4 rfl (fal:=none) (by intro d hd;cases hd) bo hbb (by simp) l1 (by simp) (by omega) n (i+1) (by omega) (by omega);have H6:=H5.at (d:=c') (P':=done::P) (by simp) (by intro p hp;exact List.mem_cons_of_mem _ hp) H.w.nd (fun hp=>c'n (List.mem_cons_of_mem _ hp));obtain⟨S',e6,H7,c7⟩:=ih hall _ env _ P _ (S5.at c') (n+b.lv false) (i+1+b.it) s done df H6 ⟨c',rfl⟩ to ts htb hdf (by simp[T.ZF]at hpl ⊢;omega) l2 (by omega) (by omega) (by omega);refine⟨S',?_,?_,c7⟩
   ·simp only[e1,e3,Option.bind_some,e4,e5,c3];exact e6
   ·refine((H7.less (Ts':=Ts) (P':=P) (by intro d hd;simp[hd]) (fun _ h=>h) hnd.2).le (by simp only[T.wt];omega)).perm ?_;intro z;simp[T.labels];constructor
    ·intro h;rcases h with h|h|h|h<;>simp[h]
    ·intro h;rcases h with h|h|h|h<;>simp[h]
theorem yt: ∀ c:T,c.All (LZ ls)-> ∀ (D:List ByteArray) (env:List DF) (Ts P:List Nat) (m m0:Nat) (S:BS) (n i:Nat) (s:ByteArray) (done:Nat) (df:Option U2),
  Rs ls D (Vp s done none::env) Ts (done::P) m S->(∃ c0,S.cur=some c0)->c.ok->c.Yr false->c.WV ls (⟨s,false⟩::env.map DF.s) false->(∀ d,df=some d->RZ ls env s d)->
  c.ZF+df.toList.length<=1->LC ls D (c.labels++Wy df)->m+16*(c.wt+VH df)+8<=m0+c.len->m0<=40000->n+c.lv false<=39000->i+c.it<=40000->
  ∃ S',c.Zu.sel n i (env.map DF.t) done (df.map U2.lr) S=some S'∧Rs ls (Wy df++(c.labels++D)) env Ts P m0 S'∧S'.cur=some done:=by
 intro c
 induction c with
 |nil=>
  intro _ D env Ts P m m0 S n i s done df H ⟨c0,hc⟩ _ _ _ hdf _ hl hm hm0 _ _;obtain⟨S',e1,H1,c1⟩:=zC H hc hdf (by simpa [T.labels]using hl) (by simp[T.wt,T.len]at hm;omega);exact⟨S',e1,by simpa [T.labels]using H1.le (by simp[T.wt,T.len]at hm;omega),c1⟩
 |st h b e c tl=>intro _ D env Ts P m m0 S n i s done df H _ _ hs;exact absurd hs.1 (by simp)
 |cl x b tl _ ih=>
  intro⟨hQ,hall⟩ D env Ts P m m0 S n i s done df H ⟨c0,hc⟩ ⟨hx0,hx3,bo,to⟩ ⟨_,bs,ts⟩ ⟨hbb,htb⟩ hdf hpl hl hm hm0 hn hi;have hbFL:=hQ bs;simp only[T.wt,T.len]at hm;simp only[T.lv,Bool.false_eq_true,if_false,Nat.zero_add]at hn;simp only[T.it]at hi;simp only[T.labels,List.append_assoc]at hl;simp only[Bool.false_and]at hbb;have hnd:=List.nodup_cons.1 H.w.nd;have hlt:=T.Ti tl;simp only[T.Zu];by_cases hx:x<=0
  ·rw[if_pos hx];have hx':x=0:=by omega
   have hdn:df=none:=by
    cases df with
    |none=>rfl
    |some d=>simp[T.ZF,hx']at hpl
   subst hdn
   obtain⟨S',e3,H3,c3⟩:=ih hall D env Ts P m m0 S (n+b.lv false) (i+1+b.it) s done (some ⟨b,n,i+1,0,0⟩) H ⟨c0,hc⟩ to ts htb
    (fun d hd=>by cases hd;exact⟨hbFL,bo,hbb,by show n+b.lv false<=39000;omega,by show i+1+b.it<=40000;omega⟩) (by simp[T.ZF,hx']at hpl ⊢;omega) (by simp only[Wy,List.append_nil]at hl ⊢;exact hl.comm) (by simp only[VH]at hm ⊢;omega) hm0 (by omega) (by omega)
   refine⟨S',e3,?_,c3⟩;refine H3.perm ?_;intro z;simp[Wy,T.labels]
  ·rw[if_neg hx];obtain⟨S1,e1,H1,c1,q1,_⟩:=H.newC (by omega) hc (k:=14) (o:=some (ip i)) (by decide) (YH (by omega));obtain⟨S2,e2,H2,c2,q2,_⟩:=H1.newC (by omega) c1 (k:=16) (o:=some (ip i)) (by decide) (YH (by omega));have hnb:S.bks.length∉done::P:=fun hp=>by have:=H.lt hp;omega
   have hnc:S1.bks.length∉done::P:=fun hp=>by have:=H.lt hp;omega
   obtain⟨S3,e3,H3,c3,q3,_⟩:=H2.ifs c2 (t:=S.bks.length) (t2:=S1.bks.length) (H2.pt (by simp)) (H2.pt (by simp));have H4:=H3.at (d:=S.bks.length) (P':=S1.bks.length::done::P) (by simp) (by intro p hp;simp at hp ⊢;rcases hp with h|h|h<;>simp[h]) (List.nodup_cons.2 ⟨hnc,H.w.nd⟩) (by
    intro hp;rcases List.mem_cons.1 hp with h|hp
    ·omega
    ·exact hnb hp)
   obtain⟨l1,l2⟩:=LC.app (a:=b.labels) (b:=tl.labels++Wy df) hl;obtain⟨S4,S5,e4,e5,H5,c5⟩:=TN hbFL H4 rfl (fal:=none) (by intro d hd;cases hd) bo hbb (by simp) l1 (by simp) (by omega) n (i+1) (by omega) (by omega);have H6:=H5.at (d:=S1.bks.length) (P':=done::P) (by simp) (by intro p hp;exact List.mem_cons_of_mem _ hp) H.w.nd hnc;obtain⟨S',e6,H7,c7⟩:=ih hall _ env _ P _ m0 (S5.at S1.bks.length) (n+b.lv false) (i+1+b.it) s done df H6 ⟨_,rfl⟩ to ts htb hdf (by simp[T.ZF]at hpl ⊢;omega) l2 (by omega) hm0 (by omega) (by omega);refine⟨S',?_,?_,c7⟩
   ·simp only[e1,e2,e3,Option.bind_some,e4,e5];exact e6
   ·refine((H7.less (Ts':=Ts) (P':=P) (by intro d hd;simp[hd]) (fun _ h=>h) hnd.2)).perm ?_;intro z;simp[T.labels];constructor
    ·intro h;rcases h with h|h|h|h<;>simp[h]
    ·intro h;rcases h with h|h|h|h<;>simp[h]
theorem KZ: ∀ c:T,∀ (m:Nat) (S:BS) (c0:Nat),Rs ls D env Ts P m S->S.cur=some c0->c.Yr false->m+c.len<=40000-> ∃ S',c.Zu.comms S=some S'∧Rs ls D env Ts P (m+c.len) S'∧S'.cur=some c0∧S'.Z4=S.Z4:=by
 intro c
 induction c with
 |nil=>intro m S c0 H hc _ _;exact⟨S,rfl,H,hc,rfl⟩
 |st h b e c tl=>intro m S c0 H hc hs;exact absurd hs.1 (by simp)
 |cl x b tl _ ih=>
  intro m S c0 H hc ⟨_,_,ts⟩ hm;simp only[T.len]at hm;simp only[T.Zu];by_cases hx:0 < x
  ·rw[if_pos hx];obtain⟨S1,e1,H1,c1,q1,r1⟩:=H.add (by omega) hc ⟨0,false⟩ Hg;obtain⟨S',e2,H2,c2,r2⟩:=ih (m+1) S1 c0 H1 c1 ts (by omega);exact⟨S',by simp[e1,e2],H2.le (by simp only[T.len];omega),c2,by rw[r2,r1]⟩
  ·rw[if_neg hx];obtain⟨S',e2,H2,c2,r2⟩:=ih m S c0 H hc ts (by omega);exact⟨S',e2,H2.le (by simp only[T.len];omega),c2,r2⟩
end
section
variable {ls D:List ByteArray} {env:List DF} {Ts P:List Nat} {m:Nat} {S S':BS}
theorem Wv {h:Hd} (hk:h.kind≠11∧h.kind≠12∧h.kind≠13∧h.kind≠14∧h.kind≠15):h.frame= []:=by
 unfold Hd.frame;rw[if_neg (by omega),if_neg (by omega)]
theorem Ro {s:ByteArray} (H:Rs ls D env Ts P m S) {c:Nat} (hc:S.cur=some c) {lab:Option Nat} (hlab:YA D S env s lab) {k:Int} (hk:1 < k∧k<=19∧k≠10) {o:Option Int} (ho:OB o) (hm:m+2<=40000):
  ∃ S1,S.newP k o=some S1∧Rs ls D (Vp s S.bks.length none::env) (S.bks.length::Ts) (S.bks.length::P) (m+1) (S1.YD lab S.bks.length)∧(S1.YD lab S.bks.length).cur=some c:=by
 obtain⟨S1,e1,H1,c1,q1,r1⟩:=H.newC (by omega) hc (k:=k) (o:=o) hk ho;obtain⟨H2,c2,b2,l2⟩:=H1.brk (hlab.same r1) S.bks.length;refine⟨S1,e1,?_,by rw[c2,c1]⟩;exact(H2.push (f:=Vp s S.bks.length none) (d:=S.bks.length) rfl (H2.pt (by simp)) (fun h=>by cases h) (fun _=>rfl) (fun e he=>by cases he) l2).watch (by simp)
theorem RQ {h:Hd} {b e c:T} (hb:FL ls b) (he:FL ls e) (hc:c.All (LZ ls)) (hf:Fm h b e c) (bo:b.ok) (eo:e.ok) (co:c.ok) (cs:c.Yr false) (H:Rs ls D env Ts P m S) {c0:Nat} (hcur:S.cur=some c0) {lab:Option Nat} (hlab:YA D S env h.label lab)
  {fl:Bool} {tl:T} (hbr:(T.st h b e c tl).WV ls (env.map DF.s) fl) (hfl:fl=true-> ∃ f fs d,env=f::fs∧f.t.fal=some d) (hl:LC ls D (b.labels++(e.labels++c.labels))) (hm':m+14+16*(b.wt+e.wt+c.wt)<=40000) (n i:Nat) (hn:n+h.own+b.lv false+e.lv false+c.lv (h.kind==13)<=39000) (hi:i+1+b.it+e.it+c.it<=40000):
  ∃ S',Y8 h n i lab (env.map DF.t) (b.Zu.list (n+h.own) (i+1)) (e.Zu.list (n+h.own+b.lv false) (i+1+b.it)) (fun done=>c.Zu.sw (n+h.own+b.lv false+e.lv false) (i+1+b.it+e.it) (env.map DF.t) done none none)
   (fun done=>c.Zu.ty (n+h.own+b.lv false+e.lv false) (i+1+b.it+e.it) (env.map DF.t) done none) (fun done=>c.Zu.sel (n+h.own+b.lv false+e.lv false) (i+1+b.it+e.it) (env.map DF.t) done none) c.Zu.comms S=some S'∧
   Rs ls (b.labels++(e.labels++(c.labels++D))) env Ts P (m+14+16*(b.wt+e.wt+c.wt)) S'∧ ∃ c,S'.cur=some c:=by
 obtain⟨b17,b18,b19,b20,bb,be,bc,_⟩:=hbr;have hkr:=hf.k;unfold Y8;have leafy:h.kind≠10->h.kind≠11->h.kind≠12->h.kind≠13->h.kind≠14->h.kind≠15->h.kind≠16->b=.nil∧e=.nil∧c=.nil:=by
  intro h1 h2 h3 h4 h5 h6 h7;refine⟨hf.nb h1 h2 h3 h7,hf.ne ?_,hf.nc h4 h5 h6⟩;cases he:h.hasElse with
  |false=>rfl
  |true=>exact absurd (hf.els he) h1
 have noels:h.kind≠10->e=.nil:=fun h1=>hf.ne (by
  cases he:h.hasElse with
  |false=>rfl
  |true=>exact absurd (hf.els he) h1)
 have fin: ∀ S',Rs ls D env Ts P (m+14) S'->b=.nil->e=.nil->c=.nil->Rs ls (b.labels++(e.labels++(c.labels++D))) env Ts P (m+14+16*(b.wt+e.wt+c.wt)) S':=by
  rintro S' H' rfl rfl rfl;exact H'.le (by simp[T.wt])
 by_cases h1:h.kind=1
 ·rw[if_pos h1];obtain⟨rfl,rfl,rfl⟩:=leafy (by omega) (by omega) (by omega) (by omega) (by omega) (by omega) (by omega);obtain⟨S1,e1,H1,c1,_⟩:=H.add (by omega) hcur ⟨lp n,false⟩ (Wi (by omega));obtain⟨S2,e2,H2,c2,_⟩:=H1.ask (by omega) (n:=n) (by omega);exact⟨S2,by simp[e1,e2],fin _ (H2.le (by omega)) rfl rfl rfl,_,by rw[c2,c1]⟩
 rw[if_neg h1];by_cases h2:h.kind=2
 ·rw[if_pos h2];obtain⟨rfl,rfl,rfl⟩:=leafy (by omega) (by omega) (by omega) (by omega) (by omega) (by omega) (by omega);obtain⟨S1,e1,H1,c1,_⟩:=H.add (by omega) hcur ⟨lp n,false⟩ (Wi (by omega));obtain⟨S2,e2,H2,c2,_⟩:=H1.ask (by omega) (n:=n) (by omega);obtain⟨S3,e3,H3,c3⟩:=H2.newAt (by omega) (o:=some (lp n)) (oG (by omega));exact⟨S3,by simp[e1,e2,e3],fin _ (H3.le (by omega)) rfl rfl rfl,_,c3⟩
 rw[if_neg h2];by_cases h7:h.kind=7
 ·rw[if_pos h7];obtain⟨rfl,rfl,rfl⟩:=leafy (by omega) (by omega) (by omega) (by omega) (by omega) (by omega) (by omega);obtain⟨S1,e1,H1,c1,_⟩:=H.add (by omega) hcur ⟨lp n,false⟩ (Wi (by omega));obtain⟨S2,e2,H2,c2,_⟩:=H1.ret c1;exact⟨S2,by simp[e1,e2],fin _ (H2.le (by omega)) rfl rfl rfl,_,c2⟩
 rw[if_neg h7];by_cases h9:h.kind=9
 ·rw[if_pos h9];obtain⟨rfl,rfl,rfl⟩:=leafy (by omega) (by omega) (by omega) (by omega) (by omega) (by omega) (by omega);obtain⟨S1,e1,H1,c1,_⟩:=H.ret hcur;obtain⟨S2,e2,H2,c2,_⟩:=H1.add (by omega) c1 ⟨lp n,true⟩ (Wi (by omega));obtain⟨S3,e3,H3,c3⟩:=H2.newAt (by omega) (o:=some (lp n)) (oG (by omega));exact⟨S3,by simp[e1,e2,e3],fin _ (H3.le (by omega)) rfl rfl rfl,_,c3⟩
 rw[if_neg h9];by_cases h8:h.kind<=8
 ·rw[if_pos h8];obtain⟨rfl,rfl,rfl⟩:=leafy (by omega) (by omega) (by omega) (by omega) (by omega) (by omega) (by omega);obtain⟨S1,e1,H1,c1,_⟩:=H.add (by omega) hcur ⟨lp n,false⟩ (Wi (by omega));exact⟨S1,e1,fin _ (H1.le (by omega)) rfl rfl rfl,_,c1⟩
 rw[if_neg h8];by_cases h10:h.kind=10
 ·rw[if_pos h10];have hcn:=hf.nc (by omega) (by omega) (by omega);subst hcn;have hfr:=Wv (h:=h) (by omega);rw[hfr]at bb be;obtain⟨S',e1,H1,hc1⟩:=Az hb he H hcur bo eo bb be (by simpa [T.labels]using hl) hf.ne (by simp[T.wt]at hm';omega) n i (n+h.own) (n+h.own+b.lv false) (i+1) (i+1+b.it) (by omega) (by omega) (by omega) (by omega) (by omega) (by omega);refine⟨S',e1,(H1.le (by simp[T.wt])).perm ?_,hc1⟩;intro z;simp[T.labels];constructor
  ·intro h;rcases h with h|h|h<;>simp[h]
  ·intro h;rcases h with h|h|h<;>simp[h]
 rw[if_neg h10];have hen:=noels h10;subst hen;by_cases h11:h.kind=11
 ·rw[if_pos h11];have hcn:=hf.nc (by omega) (by omega) (by omega);subst hcn;have hfr:h.frame= [⟨h.label,true⟩]:=by unfold Hd.frame;rw[if_pos (by omega)]
  rw[hfr]at bb;obtain⟨S',e1,H1,hc1⟩:=tK hb H hcur hlab bo bb (by simpa [T.labels]using hl) (by simp[T.wt]at hm';omega) n i (n+h.own) (i+1) (by omega) (by omega) (by omega) (by omega);exact⟨S',e1,(H1.le (by simp[T.wt])).perm (by intro z;simp[T.labels]),hc1⟩
 rw[if_neg h11];by_cases h12:h.kind=12
 ·rw[if_pos h12];have hcn:=hf.nc (by omega) (by omega) (by omega);subst hcn;have hfr:h.frame= [⟨h.label,true⟩]:=by unfold Hd.frame;rw[if_pos (by omega)]
  rw[hfr]at bb;obtain⟨S',e1,H1,hc1⟩:=Ei hb H hcur hlab bo bb (by simpa [T.labels]using hl) (by simp[T.wt]at hm';omega) n i (n+h.own) (i+1) (by omega) (by omega) (by omega) (by omega);exact⟨S',e1,(H1.le (by simp[T.wt])).perm (by intro z;simp[T.labels]),hc1⟩
 rw[if_neg h12];by_cases h13:h.kind=13
 ·rw[if_pos h13];have hbn:=hf.nb (by omega) (by omega) (by omega) (by omega);subst hbn;have hfr:h.frame= [⟨h.label,false⟩]:=by unfold Hd.frame;rw[if_neg (by omega),if_pos (by omega)]
  rw[hfr,show(h.kind==13)=true by simp[h13]]at bc;rw[show(h.kind==13)=true by simp[h13]]at hn;simp only[T.wt]at hm';obtain⟨S1,e1,H1,c1,q1,r1⟩:=H.maybe (by omega) hcur h.init n (by omega);obtain⟨S2,e2,H2,c2,q2,r2⟩:=H1.maybe (by omega) c1 h.cond (n+h.init.toNat) (by have:=Bool.toNat_le h.init;omega);obtain⟨S3,e3,H3,c3⟩:=Ro H2 c2 (hlab.same (by rw[r2,r1])) (k:=18) (o:=some (ip i)) (by decide) (YH (by omega)) (by omega);obtain⟨S',e4,H4,c4⟩:=uM c hc D env (S2.bks.length::Ts) P (m+4) _ (n+h.own+T.lv false .nil+T.lv false .nil) (i+1+T.nil.it+T.nil.it) h.label S2.bks.length none none (by simpa [Xo]using H3.le (by omega)) ⟨_,c3⟩ co cs bc (by simp) (by simp) (by have:=hf.pl;simp[Xo];omega) (by simpa [T.labels,Wy]using hl) (by simp only[VH];omega) (by omega) (by simp only[T.it]at hi ⊢;omega);refine⟨S',?_,?_,_,c4⟩
  ·unfold U1;simp only[e1,e2,e3,Option.bind_some];exact e4
  ·exact((H4.less (Ts':=Ts) (P':=P) (by intro d hd;simp[hd]) (fun _ h=>h) H.w.nd).le (by simp only[VH,T.wt];omega)).perm (by intro z;simp[T.labels,Wy])
 rw[if_neg h13];by_cases h14:h.kind=14
 ·rw[if_pos h14];have hbn:=hf.nb (by omega) (by omega) (by omega) (by omega);subst hbn;have hfr:h.frame= [⟨h.label,false⟩]:=by unfold Hd.frame;rw[if_neg (by omega),if_pos (by omega)]
  rw[hfr,show(h.kind==13)=false by simp[h14]]at bc;rw[show(h.kind==13)=false by simp[h14]]at hn;simp only[T.wt]at hm';obtain⟨S1,e1,H1,c1,q1,r1⟩:=H.maybe (by omega) hcur h.init n (by omega);obtain⟨S2,e2,H2,c2,q2,r2⟩:=H1.add (by omega) c1 ⟨0,false⟩ Hg;obtain⟨S3,e3,H3,c3⟩:=Ro H2 c2 (hlab.same (by rw[r2,r1])) (k:=18) (o:=some (ip i)) (by decide) (YH (by omega)) (by omega);obtain⟨S',e4,H4,c4⟩:=vw c hc D env (S2.bks.length::Ts) P (m+4) _ (n+h.own+T.lv false .nil+T.lv false .nil) (i+1+T.nil.it+T.nil.it) h.label S2.bks.length none (H3.le (by omega)) ⟨_,c3⟩ co cs bc (by simp) (by have:=hf.pl;simp;omega) (by simpa [T.labels,Wy]using hl) (by simp only[VH];omega) (by omega) (by simp only[T.it]at hi ⊢;omega);refine⟨S',?_,?_,_,c4⟩
  ·unfold TI;simp only[e1,e2,e3,Option.bind_some];exact e4
  ·exact((H4.less (Ts':=Ts) (P':=P) (by intro d hd;simp[hd]) (fun _ h=>h) H.w.nd).le (by simp only[VH,T.wt];omega)).perm (by intro z;simp[T.labels,Wy])
 rw[if_neg h14];by_cases h15:h.kind=15
 ·rw[if_pos h15];have hbn:=hf.nb (by omega) (by omega) (by omega) (by omega);subst hbn;have hfr:h.frame= [⟨h.label,false⟩]:=by unfold Hd.frame;rw[if_neg (by omega),if_pos (by omega)]
  rw[hfr,show(h.kind==13)=false by simp[h15]]at bc;rw[show(h.kind==13)=false by simp[h15]]at hn;simp only[T.wt]at hm';have hlw:=T.Ti c;obtain⟨S2,e2,H2,c2,r2⟩:=KZ c m S c0 H hcur cs (by omega);obtain⟨S3,e3,H3,c3⟩:=Ro H2 c2 (hlab.same r2) (k:=15) (o:=some (ip i)) (by decide) (YH (by omega)) (by omega);obtain⟨S',e4,H4,c4⟩:=yt c hc D env (S2.bks.length::Ts) P (m+c.len+1) (m+14+16*c.wt) _ (n+h.own+T.lv false .nil+T.lv false .nil) (i+1+T.nil.it+T.nil.it) h.label S2.bks.length none (H3.le (by omega)) ⟨_,c3⟩ co cs bc (by simp) (by have:=hf.pl;simp;omega) (by simpa [T.labels,Wy]using hl) (by simp only[VH];omega) (by omega) (by omega) (by simp only[T.it]at hi ⊢;omega);refine⟨S',?_,?_,_,c4⟩
  ·unfold U4;simp only[e2,e3,Option.bind_some];exact e4
  ·exact((H4.less (Ts':=Ts) (P':=P) (by intro d hd;simp[hd]) (fun _ h=>h) H.w.nd).le (by simp only[T.wt];omega)).perm (by intro z;simp[T.labels,Wy])
 rw[if_neg h15];have hcn:=hf.nc h13 h14 h15;subst hcn;have hfr:=Wv (h:=h) (by omega);rw[hfr]at bb;by_cases h16:h.kind=16
 ·rw[if_pos h16];obtain⟨S',e1,H1,hc1⟩:=hb D env Ts P m S (n+h.own) (i+1) false H ⟨c0,hcur⟩ bo bb (by simp) (by simpa [T.labels]using hl) (by simp[T.wt]at hm';omega) (by omega) (by omega);exact⟨S',e1,(H1.le (by simp[T.wt])).perm (by intro z;simp[T.labels]),hc1⟩
 rw[if_neg h16];have hbn:=hf.nb h10 h11 h12 h16;subst hbn;by_cases h21:h.kind=21
 ·rw[if_pos h21];obtain⟨S1,e1,H1,c1,_⟩:=H.add (by omega) hcur ⟨0,false⟩ Hg;exact⟨S1,e1,fin _ (H1.le (by omega)) rfl rfl rfl,_,c1⟩
 rw[if_neg h21]
 obtain⟨S1,e1,H1,hc1⟩:=FV (k:=h.kind) (target:=h.target) H hcur (by omega) (by omega)
  (fun hk=>let⟨f,hf1,hf2⟩:=b17 hk;let⟨g,hg1,hg2⟩:=List.mem_map.1 hf1;⟨g,hg1,by rw[hg2];exact hf2⟩)
  (fun hk=>let⟨f,hf1,hf2⟩:=b18 hk;let⟨g,hg1,hg2⟩:=List.mem_map.1 hf1;⟨g,hg1,by rw[hg2];exact hf2⟩)
  (fun hk=>⟨b19 hk,hf.gt hk⟩)
  (fun hk=>⟨by
   rcases Nat.eq_zero_or_pos h.target.size with h0|h0
   ·exact h0
   ·have:=hf.tg h0;omega,hfl (b20 hk).1⟩)
 exact⟨S1,e1,fin _ (H1.le (by omega)) rfl rfl rfl,hc1⟩
theorem IL {h:Hd} {b e c tl:T} {n i:Nat} {tg:List Tg} {S:BS} :(T.st h b e c tl).Zu.list n i tg S=
  (OA h.label (fun lab=>Y8 h n i lab tg (b.Zu.list (n+h.own) (i+1)) (e.Zu.list (n+h.own+b.lv false) (i+1+b.it))
    (fun done=>c.Zu.sw (n+h.own+b.lv false+e.lv false) (i+1+b.it+e.it) tg done none none) (fun done=>c.Zu.ty (n+h.own+b.lv false+e.lv false) (i+1+b.it+e.it) tg done none)
    (fun done=>c.Zu.sel (n+h.own+b.lv false+e.lv false) (i+1+b.it+e.it) tg done none) c.Zu.comms) S).bind fun S1=>
   tl.Zu.list (n+h.own+b.lv false+e.lv false+c.lv (h.kind==13)) (i+1+b.it+e.it+c.it) tg S1:=rfl
theorem T.kL {Q Q':T->Prop} (hQ: ∀ t,Q t->Q' t): ∀ t:T,t.All Q->t.All Q':=by
 intro t
 induction t with
 |nil=>intro _;trivial
 |st h b e c tl _ _ ih3 ih4=>intro⟨h1,h2,h3,h4⟩;exact⟨hQ _ h1,hQ _ h2,ih3 h3,ih4 h4⟩
 |cl x b tl _ ih2=>intro⟨h1,h2⟩;exact⟨hQ _ h1,ih2 h2⟩
theorem LW: ∀ t:T,t.All (LZ ls)->LZ ls t:=by
 intro t
 induction t with
 |nil=>
  intro _ _ D env Ts P m S n i fl H hc _ _ _ _ _ _ _;exact⟨S,rfl,by simpa [T.labels,T.wt]using H,hc⟩
 |cl x b tl=>intro _ hs;exact absurd hs.1 (by simp)
 |st h b e c tl _ _ _ ih=>
  intro⟨q1,q2,q3,q4⟩ ⟨_,s1,s2,s3,s4⟩ D env Ts P m S n i fl H ⟨c0,hc⟩ ⟨p0,p1,p2,p3,p4⟩ hbr hfl hl hm hn hi;have htl:=ih q4 s4;simp only[T.wt]at hm;simp only[T.lv]at hn;simp only[T.it]at hi;obtain⟨l0,l1⟩:=LC.app (a:=if h.label.size=0 then []else [h.label]) (b:=b.labels++(e.labels++(c.labels++tl.labels))) (by simpa [T.labels]using hl);rw[show b.labels++(e.labels++(c.labels++tl.labels))=(b.labels++(e.labels++c.labels))++tl.labels by simp]at l1;obtain⟨l2,l3⟩:=l1.app
  have key: ∃ S1,OA h.label (fun lab=>Y8 h n i lab (env.map DF.t) (b.Zu.list (n+h.own) (i+1)) (e.Zu.list (n+h.own+b.lv false) (i+1+b.it))
    (fun done=>c.Zu.sw (n+h.own+b.lv false+e.lv false) (i+1+b.it+e.it) (env.map DF.t) done none none) (fun done=>c.Zu.ty (n+h.own+b.lv false+e.lv false) (i+1+b.it+e.it) (env.map DF.t) done none)
    (fun done=>c.Zu.sel (n+h.own+b.lv false+e.lv false) (i+1+b.it+e.it) (env.map DF.t) done none) c.Zu.comms) S=some S1∧
    Rs ls ((b.labels++(e.labels++c.labels))++((if h.label.size=0 then []else [h.label])++D)) env Ts P (m+16+16*(b.wt+e.wt+c.wt)) S1∧ ∃ c,S1.cur=some c:=by
   unfold OA;by_cases hz:h.label.size=0
   ·rw[if_pos hz];rw[if_pos hz]at l2;obtain⟨S1,e1,H1,hc1⟩:=RQ (q1 s1) (q2 s2) q3 p0 p1 p2 p3 s3 H hc (lab:=none) (.inl ⟨rfl,hz⟩) hbr hfl l2 (by omega) n i (by omega) (by omega);exact⟨S1,e1,(H1.le (by omega)).perm (by intro z;simp[hz]),hc1⟩
   ·rw[if_neg hz];rw[if_neg hz]at l0 l2;obtain⟨r,y,S2,f1,f2,f3,H2,f4,f5,f6,f7⟩:=H.label (by omega) (s:=h.label) (l0.1 _ (by simp)).1 (l0.1 _ (by simp)).2 hc;obtain⟨S1,e1,H1,hc1⟩:=RQ (q1 s1) (q2 s2) q3 p0 p1 p2 p3 s3 H2 rfl (lab:=some r.1) (.inr ⟨r.1,y,rfl,f4,f5,by omega,by simp,f6,f7,fun f hf he=>by
     have h0:=(H.env.lab f hf (by rw[he];omega)).1;rw[he]at h0;exact(l0.1 _ (by simp)).2 h0⟩) hbr hfl (l2.congr (by intro s hs;simpa using hs)) (by omega) n i (by omega) (by omega)
    refine⟨S1,by simp only[f1,Option.bind_some,f2,f3,e1],(H1.le (by omega)).perm (by intro z;simp[hz]),hc1⟩
  obtain⟨S1,e1,H1,hc1⟩:=key;obtain⟨S2,e2,H2,hc2⟩:=htl _ env Ts P _ S1 (n+h.own+b.lv false+e.lv false+c.lv (h.kind==13)) (i+1+b.it+e.it+c.it) fl H1 hc1 p4 hbr.2.2.2.2.2.2.2 hfl l3 (by omega) (by omega) (by omega);refine⟨S2,by rw[IL,e1];exact e2,(H2.le (by simp only[T.wt];omega)).perm ?_,hc2⟩;intro z;by_cases hz:h.label.size=0<;>simp[T.labels,hz]
  ·constructor
   ·intro h;rcases h with h|h|h|h|h<;>simp[h]
   ·intro h;rcases h with h|h|h|h|h<;>simp[h]
  ·constructor
   ·intro h;rcases h with h|h|h|h|h|h<;>simp[h]
   ·intro h;rcases h with h|h|h|h|h|h<;>simp[h]
end
end Go.Proofs.YteedbaejpdjilaaGreat
