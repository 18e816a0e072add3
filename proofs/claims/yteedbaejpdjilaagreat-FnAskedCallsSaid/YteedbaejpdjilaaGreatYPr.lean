/- Part of the proof: Pur. -/
import Derived.Test.YteedbaejpdjilaaGreatYPh
set_option linter.all false
set_option maxRecDepth 100000
set_option maxHeartbeats 40000000
namespace Go.Proofs.YteedbaejpdjilaaGreat
open Go.RowKit Tryz
section
def T.labels:T->List ByteArray
 | .nil=> []
 | .st h b e c tl=>(if h.label.size=0 then []else [h.label])++(b.labels++(e.labels++(c.labels++tl.labels)))
 | .cl _ b tl=>b.labels++tl.labels
def T.wt:T->Nat
 | .nil=>0
 | .st _ b e c tl=>1+b.wt+e.wt+c.wt+tl.wt
 | .cl x b tl=>1+x.toNat+b.wt+tl.wt
structure SF where
 lab:ByteArray
 loop:Bool
def Hd.frame (h:Hd):List SF:=
 if h.kind=11\/h.kind=12 then [⟨h.label,true⟩]else if h.kind=13\/h.kind=14\/h.kind=15 then [⟨h.label,false⟩]else []
def T.VN (ls:List ByteArray):T->List SF->Bool->Prop
 | .nil,_,_=>True
 | .st h b e c tl,en,fl=>
  (h.kind=17-> ∃ f∈en,h.target.size=0\/f.lab=h.target)/\(h.kind=18-> ∃ f∈en,f.loop=true/\(h.target.size=0\/f.lab=h.target))/\(h.kind=19->h.target∈ls)/\(h.kind=20->fl=true/\tl=.nil)/\
  b.VN ls (h.frame++en) false/\e.VN ls (h.frame++en) false/\c.VN ls (h.frame++en) (h.kind==13)/\tl.VN ls en fl
 | .cl _ b tl,en,sw=>b.VN ls en (sw&&!tl.isNil)/\tl.VN ls en sw
def Bk.fresh (k:Bk):Prop:=k.nodes= []/\k.succs= []/\k.Yz=false
def BS.tgt (S:BS) (d:Nat):Prop:= ∃ k,S.Z6[d]? =some k/\k.kind≠1
structure W (ls:List ByteArray) (S:BS) (P:List Nat):Prop where
 nd:P.Nodup
 cur: ∀ c,S.cur=some c->c∉P/\ ∃ k,S.Z6[c]? =some k/\k.succs= []
 pend: ∀ p∈P,∃ k,S.Z6[p]? =some k/\k.fresh/\k.kind≠1/\k.kind≠10
 V8: ∀ (j:Nat) y,S.ZT[j]? =some y->y.1∈ls/\ ∃ k,S.Z6[y.2.go]? =some k/\k.kind=10/\(k.of=none->k.fresh/\S.cur≠some y.2.go/\y.2.brk=none/\y.2.cnt=none)
 Sg: ∀ (j j':Nat) y y',S.ZT[j]? =some y->S.ZT[j']? =some y'->y.1=y'.1->j=j'
 PV: ∀ (j j':Nat) y y',S.ZT[j]? =some y->S.ZT[j']? =some y'->y.2.go=y'.2.go->j=j'
 blk: ∀ (i:Nat) k,S.Z6[i]? =some k->k.live=false/\1<=k.kind/\k.kind<=19/\k.succs.length<=2/\ ∀ s∈k.succs,S.tgt s
def BS.cg (S:BS) (s:ByteArray):Prop:= ∃ (j:Nat) (y:ByteArray × Lb) (k:Bk),S.ZT[j]? =some y/\y.1=s/\S.Z6[y.2.go]? =some k/\k.of≠none
def PB (p:Int):Prop:=0<=p/\p<=200000
def OB (o:Option Int):Prop:= ∀ p,o=some p->PB p
theorem Vk {n:Nat} (h:n<=40000):PB (lp n):=by unfold PB lp;omega
theorem XK {n:Nat} (h:n<=40000):OB (some (ip n)):=by intro p hp;cases hp;unfold PB ip;omega
theorem lA {n:Nat} (h:n<=40000):OB (some (lp n)):=by intro p hp;cases hp;exact Vk h
theorem Fw:PB 0:=by unfold PB;omega
theorem tF:OB (some 0):=by intro p hp;cases hp;exact Fw
structure Bd (S:BS) (m:Nat):Prop where
 pos: ∀ (i:Nat) k,S.Z6[i]? =some k->(∀ x∈k.nodes,PB x.pos)/\OB k.of
 len:S.Z6.length<=m
 Ru: ∀ (i:Nat) k,S.Z6[i]? =some k->k.nodes.length<=m
 ask:S.asked.length<=m
 fst: ∃ k,S.Z6[0]? =some k/\k.kind=2/\k.of=some 3
structure DF where
 s:SF
 t:Tg
structure Ow (D:List ByteArray) (S:BS) (env:List DF):Prop where
 brk: ∀ f∈env,∃ d,f.t.brk=some d/\S.tgt d
 cnt: ∀ f∈env,f.s.loop=true-> ∃ d,f.t.cnt=some d/\S.tgt d
 wm: ∀ f∈env,f.s.loop=false->f.t.cnt=none
 Xw: ∀ f∈env,∀ d,f.t.Xw=some d->S.tgt d
 lab: ∀ f∈env,0 < f.s.lab.size->f.s.lab∈D/\ ∃ (j:Nat) (y:ByteArray × Lb),S.ZT[j]? =some y/\y.1=f.s.lab/\y.2.brk=f.t.brk/\y.2.cnt=f.t.cnt
structure Rs (ls D:List ByteArray) (env:List DF) (Ts P:List Nat) (m:Nat) (S:BS):Prop where
 w:W ls S P
 bd:Bd S m
 df: ∀ s,S.cg s↔s∈D
 env:Ow D S env
 ts: ∀ d∈Ts,S.tgt d
variable {ls D:List ByteArray} {env:List DF} {Ts P:List Nat} {m:Nat} {S S':BS}
def Mo (S S':BS):Prop:= ∀ (i:Nat) k,S.Z6[i]? =some k-> ∃ k',S'.Z6[i]? =some k'/\k'.kind=k.kind/\k'.of=k.of
theorem Mo.tgt (h:Mo S S') {d:Nat} (hd:S.tgt d):S'.tgt d:=by
 obtain⟨k,h1,h2⟩:=hd;obtain⟨k',h3,h4,_⟩:=h d k h1;exact⟨k',h3,by rw[h4];exact h2⟩
theorem Ow.mo (h:Ow D S env) (hm: ∀ d,S.tgt d->S'.tgt d) (hl: ∀ (j:Nat) y,S.ZT[j]? =some y->y.1∈D->S'.ZT[j]? =some y):Ow D S' env:=
 ⟨fun f hf=>let⟨d,h1,h2⟩:=h.brk f hf;⟨d,h1,hm _ h2⟩,fun f hf hl=>let⟨d,h1,h2⟩:=h.cnt f hf hl;⟨d,h1,hm _ h2⟩,h.wm,fun f hf d hd=>hm _ (h.Xw f hf d hd),
  fun f hf hs=>by
   obtain⟨h0,j,y,h1,h2,h3⟩:=h.lab f hf hs;exact⟨h0,j,y,hl j y h1 (by rw[h2];exact h0),h2,h3⟩⟩
theorem Ow.more (h:Ow D S env) {D':List ByteArray} (hD: ∀ s∈D,s∈D'):Ow D' S env:=
 ⟨h.brk,h.cnt,h.wm,h.Xw,fun f hf hs=>let⟨h0,h1⟩:=h.lab f hf hs;⟨hD _ h0,h1⟩⟩
theorem Mq (S:BS) (k:Int) (o:Option Int) (i:Nat):(S.new k o).Z6[i]? =if i < S.Z6.length then S.Z6[i]? else if i=S.Z6.length then some ⟨k,o,[],[],false,false⟩else none:=by
 unfold BS.new;simp only[];by_cases h:i < S.Z6.length
 .rw[ZP h,if_pos h]
 .rw[Zj (by omega),if_neg h];by_cases h2:i=S.Z6.length
  .subst h2;simp
  .rw[if_neg h2,Y6 (by simp;omega)]
theorem ZH {α:Type} {l:List α} {i:Nat} {k:α} (h:l[i]? =some k):i < l.length:=(Z1.1 h).1
theorem XS {k:Int} {o:Option Int} {i:Nat} {q:Bk} (h:S.Z6[i]? =some q):(S.new k o).Z6[i]? =some q:=by
 rw[Mq,if_pos (ZH h)];exact h
theorem Rr {k:Int} {o:Option Int} :(S.new k o).Z6[S.Z6.length]? =some ⟨k,o,[],[],false,false⟩:=by
 rw[Mq,if_neg (by omega),if_pos rfl]
theorem WH {k:Int} {o:Option Int} {i:Nat} {q:Bk} (h:(S.new k o).Z6[i]? =some q):S.Z6[i]? =some q\/(i=S.Z6.length/\q=⟨k,o,[],[],false,false⟩):=by
 rw[Mq]at h;split at h
 .exact .inl h
 .split at h
  .next h2=>cases h;exact .inr ⟨h2,rfl⟩
  .cases h
theorem TB {k:Int} {o:Option Int} {d:Nat} (h:S.tgt d):(S.new k o).tgt d:=let⟨q,h1,h2⟩:=h;⟨q,XS h1,h2⟩
theorem W.lt (h:W ls S P) {p:Nat} (hp:p∈P):p < S.Z6.length:=by
 obtain⟨k,h1,_⟩:=h.pend p hp;exact ZH h1
theorem Pw {k:Int} {o:Option Int} :(S.new k o).Z6.length=S.Z6.length+1:=by simp[BS.new]
theorem GN {k:Int} {o:Option Int} (h:W ls S P) (s:ByteArray):(S.new k o).cg s↔S.cg s:=by
 constructor
 .rintro⟨j,y,q,h1,h2,h3,h4⟩;obtain⟨_,q',g1,_⟩:=h.V8 j y h1;rw[XS g1]at h3;cases h3;exact⟨j,y,_,h1,h2,g1,h4⟩
 .rintro⟨j,y,q,h1,h2,h3,h4⟩;exact⟨j,y,q,h1,h2,XS h3,h4⟩
theorem Rs.new (h:Rs ls D env Ts P m S) (hm:m<=50000) {k:Int} {o:Option Int} (hk:1 < k/\k<=19/\k≠10) (ho:OB o):
  S.newP k o=some (S.new k o)/\Rs ls D env Ts (S.Z6.length::P) (m+1) (S.new k o):=by
 have hl:=h.bd.len;have hnp:S.Z6.length∉P:=fun hc=>by have:=h.w.lt hc;omega
 refine⟨by unfold BS.newP;rw[if_pos (by omega)],⟨ZS.2 ⟨hnp,h.w.nd⟩,?_,?_,?_,h.w.Sg,h.w.PV,?_⟩,⟨?_,by rw[Pw];omega,?_,Nat.le_succ_of_le h.bd.ask,let⟨k,h1,h2⟩:=h.bd.fst;⟨k,XS h1,h2⟩⟩,fun s=>(GN h.w s).trans (h.df s),h.env.mo (fun _=>TB) (fun _ _ h _=>h),fun d hd=>TB (h.ts d hd)⟩
 .intro c hc;obtain⟨h1,q,h2,h3⟩:=h.w.cur c hc;refine⟨?_,q,XS h2,h3⟩;intro hcc;rcases ZO.1 hcc with h4|h4
  .have:=ZH h2;omega
  .exact h1 h4
 .intro p hp;rcases ZO.1 hp with rfl|h4
  .exact⟨_,Rr,⟨rfl,rfl,rfl⟩,by show k≠1;omega,by show k≠10;omega⟩
  .obtain⟨q,h1,h2⟩:=h.w.pend p h4;exact⟨q,XS h1,h2⟩
 .intro j y hj;obtain⟨h0,q,h1,h2⟩:=h.w.V8 j y hj;exact⟨h0,q,XS h1,h2⟩
 .intro i q hi;rcases WH hi with h1|⟨rfl,rfl⟩
  .obtain⟨g1,g2,g3,g4,g5⟩:=h.w.blk i q h1;exact⟨g1,g2,g3,g4,fun s hs=>TB (g5 s hs)⟩
  .exact⟨rfl,by show 1<=k;omega,by show k<=19;omega,by simp,by simp⟩
 .intro i q hi;rcases WH hi with h1|⟨rfl,rfl⟩
  .exact h.bd.pos i q h1
  .exact⟨by simp,ho⟩
 .intro i q hi;rcases WH hi with h1|⟨rfl,rfl⟩
  .have:=h.bd.Ru i q h1;omega
  .simp
theorem Rs.newAt (h:Rs ls D env Ts P m S) (hm:m<=50000) {o:Option Int} (ho:OB o): ∃ S',S.newAt 1 o=some S'/\Rs ls D env Ts P (m+1) S'/\S'.cur=some S.Z6.length:=by
 have hl:=h.bd.len;refine⟨(S.new 1 o).at S.Z6.length,by unfold BS.newAt BS.newP;rw[if_pos (by omega)];rfl,⟨⟨h.w.nd,?_,?_,?_,h.w.Sg,h.w.PV,?_⟩,⟨?_,by show(S.new 1 o).Z6.length<=_;rw[Pw];omega,?_,Nat.le_succ_of_le h.bd.ask,let⟨k,h1,h2⟩:=h.bd.fst;⟨k,XS h1,h2⟩⟩,fun s=>(GN h.w s).trans (h.df s),h.env.mo (fun _=>TB) (fun _ _ h _=>h),fun d hd=>TB (h.ts d hd)⟩,rfl⟩
 .intro c hc;cases hc;exact⟨fun hc=>by have:=h.w.lt hc;omega,_,Rr,rfl⟩
 .intro p hp;obtain⟨q,h1,h2⟩:=h.w.pend p hp;exact⟨q,XS h1,h2⟩
 .intro j y hj;obtain⟨h0,q,h1,h2,h3⟩:=h.w.V8 j y hj;refine⟨h0,q,XS h1,h2,fun ho=>?_⟩;obtain⟨g1,g2,g3⟩:=h3 ho;refine⟨g1,fun e=>?_,g3⟩;have:=ZH h1;have e':S.Z6.length=y.2.go:=Y0 e;omega
 .intro i q hi;rcases WH hi with h1|⟨rfl,rfl⟩
  .obtain⟨g1,g2,g3,g4,g5⟩:=h.w.blk i q h1;exact⟨g1,g2,g3,g4,fun s hs=>TB (g5 s hs)⟩
  .exact⟨rfl,by show(1:Int)<=1;decide,by show(1:Int)<=19;decide,by simp,by simp⟩
 .intro i q hi;rcases WH hi with h1|⟨rfl,rfl⟩
  .exact h.bd.pos i q h1
  .exact⟨by simp,ho⟩
 .intro i q hi;rcases WH hi with h1|⟨rfl,rfl⟩
  .have:=h.bd.Ru i q h1;omega
  .simp
theorem YN {c i:Nat} {k':Bk} (hc:c < S.Z6.length):(S.set c k').Z6[i]? =if i=c then some k' else S.Z6[i]? :=by
 unfold BS.set;by_cases h:i=c
 .subst h;rw[if_pos rfl,YQ hc]
 .rw[if_neg h,YM (by omega)]
theorem Rs.upd (h:Rs ls D env Ts P m S) {c:Nat} {k k':Bk} (hk:S.Z6[c]? =some k) (hcur:S.cur=some c) (h1:k'.kind=k.kind) (h2:k'.of=k.of) (h3:k'.live=k.live) (h4:k'.nodes.length<=m+1) (h7: ∀ x∈k'.nodes,PB x.pos) (h5:k'.succs.length<=2) (h6: ∀ s∈k'.succs,S.tgt s) {o:Option Nat} (ho:o=none\/(o=S.cur/\k'.succs= [])) (hS:S'=⟨(S.set c k').Z6,o,S.ZT,S.asked⟩):
  Rs ls D env Ts P (m+1) S':=by
 subst hS;have hc:=ZH hk;have hg: ∀ i,(⟨(S.set c k').Z6,o,S.ZT,S.asked⟩:BS).Z6[i]? =if i=c then some k' else S.Z6[i]? :=fun i=>YN hc
 have hmo: ∀ (i:Nat) q,S.Z6[i]? =some q-> ∃ q',(⟨(S.set c k').Z6,o,S.ZT,S.asked⟩:BS).Z6[i]? =some q'/\q'.kind=q.kind/\q'.of=q.of:=by
  intro i q hi;rw[hg];by_cases e:i=c
  .subst e;rw[hk]at hi;cases hi;exact⟨k',by rw[if_pos rfl],h1,h2⟩
  .exact⟨q,by rw[if_neg e];exact hi,rfl,rfl⟩
 have SC: ∀ d,S.tgt d->(⟨(S.set c k').Z6,o,S.ZT,S.asked⟩:BS).tgt d:=by
  rintro d ⟨q,g1,g2⟩;obtain⟨q',g3,g4,_⟩:=hmo d q g1;exact⟨q',g3,by rw[g4];exact g2⟩
 obtain⟨hcP,q0,hq0,hs0⟩:=h.w.cur c hcur;rw[hk]at hq0;cases hq0;refine⟨⟨h.w.nd,?_,?_,?_,h.w.Sg,h.w.PV,?_⟩,⟨?_,by show(S.set c k').Z6.length<=_;simp[BS.set];have:=h.bd.len;omega,?_,Nat.le_succ_of_le h.bd.ask,let⟨k,g1,g2,g3⟩:=h.bd.fst;let⟨k',g4,g5,g6⟩:=hmo 0 k g1;⟨k',g4,by rw[g5];exact g2,by rw[g6];exact g3⟩⟩,?_,h.env.mo SC (fun _ _ h _=>h),fun d hd=>SC d (h.ts d hd)⟩
 .intro c' hc';rcases ho with rfl|⟨rfl,ho⟩
  .cases hc'
  .have:some c=some c':=by rw[<-hcur];exact hc'
   cases this;exact⟨hcP,k',by rw[hg,if_pos rfl],ho⟩
 .intro p hp;obtain⟨q,g1,g2⟩:=h.w.pend p hp;exact⟨q,by rw[hg,if_neg (fun e:p=c=>hcP (by rw[<-e];exact hp))];exact g1,g2⟩
 .intro j y hj;obtain⟨h0,q,g1,g2,g3⟩:=h.w.V8 j y hj;by_cases e:y.2.go=c
  .have hq:q=k:=by rw[e,hk]at g1;cases g1;rfl
   subst hq;refine⟨h0,k',by rw[hg,if_pos e],by rw[h1];exact g2,fun hn=>?_⟩;rw[h2]at hn;exact absurd (by rw[hcur,e]) (g3 hn).2.1
  .refine⟨h0,q,by rw[hg,if_neg e];exact g1,g2,fun hn=>?_⟩;obtain⟨f1,f2,f3⟩:=g3 hn;refine⟨f1,?_,f3⟩;rcases ho with rfl|⟨rfl,ho⟩
   .simp
   .exact f2
 .intro i q hi;rw[hg]at hi;split at hi
  .cases hi;obtain⟨g1,g2,g3,g4,g5⟩:=h.w.blk c k hk;exact⟨by rw[h3];exact g1,by rw[h1];exact g2,by rw[h1];exact g3,h5,fun s hs=>SC s (h6 s hs)⟩
  .obtain⟨g1,g2,g3,g4,g5⟩:=h.w.blk i q hi;exact⟨g1,g2,g3,g4,fun s hs=>SC s (g5 s hs)⟩
 .intro i q hi;rw[hg]at hi;split at hi
  .cases hi;exact⟨h7,by rw[h2];exact(h.bd.pos c k hk).2⟩
  .exact h.bd.pos i q hi
 .intro i q hi;rw[hg]at hi;split at hi
  .cases hi;exact h4
  .have:=h.bd.Ru i q hi;omega
 .intro s;rw[<-h.df s];constructor
  .rintro⟨j,y,q,g1,g2,g3,g4⟩;obtain⟨_,q1,f1,_⟩:=h.w.V8 j y g1;obtain⟨q2,f2,_,f3⟩:=hmo _ q1 f1;rw[f2]at g3;cases g3;exact⟨j,y,q1,g1,g2,f1,by rw[<-f3];exact g4⟩
  .rintro⟨j,y,q,g1,g2,g3,g4⟩;obtain⟨q2,f2,_,f3⟩:=hmo _ q g3;exact⟨j,y,q2,g1,g2,f2,by rw[f3];exact g4⟩
theorem Rs.Ov (h:Rs ls D env Ts P m S) {c:Nat} (hc:S.cur=some c): ∃ k,S.Z6[c]? =some k/\k.succs= []:=(h.w.cur c hc).2
theorem Xz {c:Nat} {k:Bk} (hc:S.cur=some c) (hk:S.Z6[c]? =some k) (f:Bk->Option Bk):S.Qs f=(f k).map (S.set c):=by
 unfold BS.Qs;rw[hc];simp[hk]
theorem Rs.add (h:Rs ls D env Ts P m S) (hm:m<=50000) {c:Nat} (hc:S.cur=some c) (n:Vt) (hp:PB n.pos): ∃ S',S.Yk n=some S'/\Rs ls D env Ts P (m+1) S'/\S'.cur=some c/\S'.Z6.length=S.Z6.length/\S'.ZT=S.ZT:=by
 obtain⟨k,hk,hs⟩:=h.Ov hc;have hn:=h.bd.Ru c k hk;refine⟨S.set c { k with nodes:=k.nodes++ [n] },by unfold BS.Yk;rw[Xz hc hk,if_pos (by omega)];rfl,?_,hc,by simp[BS.set],rfl⟩;exact h.upd (k':= { k with nodes:=k.nodes++ [n] }) hk hc rfl rfl rfl (by simp;exact hn) (fun x hx=>(ZM.1 hx).elim (fun hx=>(h.bd.pos c k hk).1 x hx) (fun hx=>by simp at hx;subst hx;exact hp)) (by simp[hs]) (by simp[hs]) (.inr ⟨rfl,hs⟩) rfl
theorem Rs.ret (h:Rs ls D env Ts P m S) {c:Nat} (hc:S.cur=some c): ∃ S',S.UG=some S'/\Rs ls D env Ts P (m+1) S'/\S'.cur=some c/\S'.Z6.length=S.Z6.length/\S'.ZT=S.ZT:=by
 obtain⟨k,hk,hs⟩:=h.Ov hc;have hn:=h.bd.Ru c k hk;refine⟨S.set c { k with Yz:=true },by unfold BS.UG;rw[Xz hc hk];rfl,?_,hc,by simp[BS.set],rfl⟩;exact h.upd (k':= { k with Yz:=true }) hk hc rfl rfl rfl (by show k.nodes.length<=_;omega) (h.bd.pos c k hk).1 (by simp[hs]) (by simp[hs]) (.inr ⟨rfl,hs⟩) rfl
theorem Rs.jump (h:Rs ls D env Ts P m S) {c:Nat} (hc:S.cur=some c) {t:Nat} (ht:S.tgt t): ∃ S',S.YG t=some S'/\Rs ls D env Ts P (m+1) S'/\S'.cur=none/\S'.Z6.length=S.Z6.length/\S'.ZT=S.ZT:=by
 obtain⟨k,hk,hs⟩:=h.Ov hc;have hn:=h.bd.Ru c k hk;have htl:t < S.Z6.length:=by obtain⟨q,h1,_⟩:=ht;exact ZH h1
 refine⟨{ S.set c { k with succs:= [t] } with cur:=none },by unfold BS.YG;rw[Xz hc hk,if_pos ⟨hs,htl⟩];rfl,?_,rfl,by simp[BS.set],rfl⟩;exact h.upd (k':= { k with succs:= [t] }) hk hc rfl rfl rfl (by show k.nodes.length<=_;omega) (h.bd.pos c k hk).1 (by simp) (by simpa using ht) (.inl rfl) rfl
theorem Rs.ifs (h:Rs ls D env Ts P m S) {c:Nat} (hc:S.cur=some c) {t t2:Nat} (ht:S.tgt t) (ht2:S.tgt t2): ∃ S',S.Lx t t2=some S'/\Rs ls D env Ts P (m+1) S'/\S'.cur=none/\S'.Z6.length=S.Z6.length/\S'.ZT=S.ZT:=by
 obtain⟨k,hk,hs⟩:=h.Ov hc;have hn:=h.bd.Ru c k hk;have htl:t < S.Z6.length:=by obtain⟨q,h1,_⟩:=ht;exact ZH h1
 have ce:t2 < S.Z6.length:=by obtain⟨q,h1,_⟩:=ht2;exact ZH h1
 refine⟨{ S.set c { k with succs:= [t,t2] } with cur:=none },by unfold BS.Lx;rw[Xz hc hk,if_pos ⟨hs,htl,ce⟩];rfl,?_,rfl,by simp[BS.set],rfl⟩;refine h.upd (k':= { k with succs:= [t,t2] }) hk hc rfl rfl rfl (by show k.nodes.length<=_;omega) (h.bd.pos c k hk).1 (by simp) ?_ (.inl rfl) rfl;intro s hs;simp at hs;rcases hs with rfl|rfl
 .exact ht
 .exact ht2
theorem Rs.ask (h:Rs ls D env Ts P m S) (hm:m<=50000) {n:Nat} (hn:n<=50000): ∃ S',S.RN n=some S'/\Rs ls D env Ts P (m+1) S'/\S'.cur=S.cur/\S'.Z6=S.Z6/\S'.ZT=S.ZT:=by
 have ha:=h.bd.ask;refine⟨S.ask n,by unfold BS.RN;rw[if_pos ⟨by omega,by omega⟩],⟨⟨h.w.nd,h.w.cur,h.w.pend,h.w.V8,h.w.Sg,h.w.PV,h.w.blk⟩,⟨h.bd.pos,Nat.le_succ_of_le h.bd.len,fun i k hk=>Nat.le_succ_of_le (h.bd.Ru i k hk),?_,h.bd.fst⟩,h.df,h.env.mo (fun _ h=>h) (fun _ _ h _=>h),h.ts⟩,rfl,rfl,rfl⟩;simp[BS.ask];omega
theorem Rs.at (h:Rs ls D env Ts P m S) {d:Nat} {P':List Nat} (hd:d∈P) (hP: ∀ p∈P',p∈P) (hn:P'.Nodup) (tE:d∉P'):Rs ls D env Ts P' m (S.at d):=by
 obtain⟨k,hk,hf,hk1,hk10⟩:=h.w.pend d hd;refine⟨⟨hn,?_,fun p hp=>h.w.pend p (hP p hp),?_,h.w.Sg,h.w.PV,h.w.blk⟩,⟨h.bd.pos,h.bd.len,h.bd.Ru,h.bd.ask,h.bd.fst⟩,h.df,h.env.mo (fun _ h=>h) (fun _ _ h _=>h),h.ts⟩
 .intro c hc;cases hc;exact⟨tE,k,hk,hf.2.1⟩
 .intro j y hj;obtain⟨h0,q,g1,g2,g3⟩:=h.w.V8 j y hj;refine⟨h0,q,g1,g2,fun hn=>?_⟩;obtain⟨f1,f2,f3⟩:=g3 hn;refine⟨f1,fun e=>?_,f3⟩;have e':d=y.2.go:=Y0 e;rw[e']at hk;rw[g1]at hk;cases hk;exact hk10 g2
theorem Rs.watch (h:Rs ls D env Ts P m S) {d:Nat} (hd:d∈P):Rs ls D env (d::Ts) P m S:=
 ⟨h.w,h.bd,h.df,h.env,fun x hx=>by
  rcases ZO.1 hx with rfl|hx
  .obtain⟨k,hk,_,hk1,_⟩:=h.w.pend x hd;exact⟨k,hk,hk1⟩
  .exact h.ts x hx⟩
theorem Rs.pt (h:Rs ls D env Ts P m S) {d:Nat} (hd:d∈P):S.tgt d:=by
 obtain⟨k,hk,_,hk1,_⟩:=h.w.pend d hd;exact⟨k,hk,hk1⟩
theorem Rs.le (h:Rs ls D env Ts P m S) {m':Nat} (hm:m<=m'):Rs ls D env Ts P m' S:=
 ⟨h.w,⟨h.bd.pos,ZC h.bd.len hm,fun i k hk=>ZC (h.bd.Ru i k hk) hm,ZC h.bd.ask hm,h.bd.fst⟩,h.df,h.env,h.ts⟩
theorem Rs.less (h:Rs ls D env Ts P m S) {Dn P':List Nat} (hT: ∀ d∈Dn,d∈Ts) (hP: ∀ d∈P',d∈P) (hn:P'.Nodup):Rs ls D env Dn P' m S:=
 ⟨⟨hn,fun c hc=>let⟨h1,h2⟩:=h.w.cur c hc;⟨fun hp=>h1 (hP _ hp),h2⟩,fun p hp=>h.w.pend p (hP p hp),h.w.V8,h.w.Sg,h.w.PV,h.w.blk⟩,h.bd,h.df,h.env,fun d hd=>h.ts d (hT d hd)⟩
theorem Rs.pop (h:Rs ls D env Ts P m S) {env':List DF} (he: ∀ f∈env',f∈env):Rs ls D env' Ts P m S:=
 ⟨h.w,h.bd,h.df,⟨fun f hf=>h.env.brk f (he f hf),fun f hf=>h.env.cnt f (he f hf),fun f hf=>h.env.wm f (he f hf),fun f hf=>h.env.Xw f (he f hf),fun f hf=>h.env.lab f (he f hf)⟩,h.ts⟩
theorem Rs.push (h:Rs ls D env Ts P m S) {f:DF} {d:Nat} (h1:f.t.brk=some d) (h2:S.tgt d) (h3:f.s.loop=true-> ∃ e,f.t.cnt=some e/\S.tgt e) (h4:f.s.loop=false->f.t.cnt=none) (h5: ∀ e,f.t.Xw=some e->S.tgt e)
  (h6:0 < f.s.lab.size->f.s.lab∈D/\ ∃ (j:Nat) (y:ByteArray × Lb),S.ZT[j]? =some y/\y.1=f.s.lab/\y.2.brk=f.t.brk/\y.2.cnt=f.t.cnt):Rs ls D (f::env) Ts P m S:=by
 refine⟨h.w,h.bd,h.df,⟨?_,?_,?_,?_,?_⟩,h.ts⟩
 .intro g hg;rcases ZO.1 hg with rfl|hg
  .exact⟨d,h1,h2⟩
  .exact h.env.brk g hg
 .intro g hg;rcases ZO.1 hg with rfl|hg
  .exact h3
  .exact h.env.cnt g hg
 .intro g hg;rcases ZO.1 hg with rfl|hg
  .exact h4
  .exact h.env.wm g hg
 .intro g hg;rcases ZO.1 hg with rfl|hg
  .exact h5
  .exact h.env.Xw g hg
 .intro g hg;rcases ZO.1 hg with rfl|hg
  .exact h6
  .exact h.env.lab g hg
end
section
variable {ls D:List ByteArray} {env:List DF} {Ts P:List Nat} {m:Nat} {S S':BS}
theorem Dm {a b:ByteArray} (h:a.data=b.data):a=b:=by cases a;cases b;simp at h;rw[h]
theorem Vj {s:ByteArray} {j:Nat} (h:S.Yb s=some j): ∃ y,S.ZT[j]? =some y/\y.1=s:=by
 unfold BS.Yb at h;rw[List.findIdx?_eq_some_iff_getElem]at h;obtain⟨h1,h2,_⟩:=h;exact⟨S.ZT[j],Z9 h1,Dm (by simpa using h2)⟩
theorem QM {s:ByteArray} (h:S.Yb s=none): ∀ (j:Nat) y,S.ZT[j]? =some y->y.1≠s:=by
 unfold BS.Yb at h;rw[List.findIdx?_eq_none_iff]at h;intro j y hj e;have:=h y (ZY hj);simp[e]at this
theorem find_eq (hw:W ls S P) {s:ByteArray} {j:Nat} {y:ByteArray × Lb} (hj:S.ZT[j]? =some y) (hy:y.1=s):S.Yb s=some j:=by
 cases hf:S.Yb s with
 |none=>exact absurd hy (QM hf j y hj)
 |some j'=>
  obtain⟨y',h1,h2⟩:=Vj hf;rw[hw.Sg j' j y' y h1 hj (by rw[h2,hy])]
theorem XX {α:Type} {l:List α} {x:α} {i:Nat} {y:α} (h:(l++ [x])[i]? =some y):l[i]? =some y\/(i=l.length/\y=x):=by
 by_cases hi:i < l.length
 .rw[ZP hi]at h;exact .inl h
 .rw[Zj (by omega)]at h;have:i -l.length=0:=by
   have:=ZH h;simp at this;omega
  rw[this]at h;simp at h;exact .inr ⟨by omega,h.symm⟩
theorem Wz {α:Type} {l:List α} {x:α} {i:Nat} {y:α} (h:l[i]? =some y):(l++ [x])[i]? =some y:=by
 rw[ZP (ZH h)];exact h
theorem Rs.Sf (h:Rs ls D env Ts P m S) {s:ByteArray} (hs:s∈ls) (hf:S.Yb s=none) (o:Option Int) (hob:OB o) {D':List ByteArray} (hD:D'=if o=none then D else s::D):
  Rs ls D' env Ts P (m+1) ⟨S.Z6++ [⟨10,o,[],[],false,false⟩],S.cur,S.ZT++ [(s,⟨S.Z6.length,none,none⟩)],S.asked⟩:=by
 have hold: ∀ {i:Nat} {q:Bk},S.Z6[i]? =some q->(S.Z6++ [⟨10,o,[],[],false,false⟩])[i]? =some q:=fun h=>Wz h;have SC: ∀ d,S.tgt d->(⟨S.Z6++ [⟨10,o,[],[],false,false⟩],S.cur,S.ZT++ [(s,⟨S.Z6.length,none,none⟩)],S.asked⟩:BS).tgt d:=fun d ⟨q,h1,h2⟩=>⟨q,hold h1,h2⟩
 have hlast:(S.Z6++ [(⟨10,o,[],[],false,false⟩:Bk)])[S.Z6.length]? =some ⟨10,o,[],[],false,false⟩:=by simp
 have wl: ∀ x∈D,x∈D':=by
  intro x hx;rw[hD];split
  .exact hx
  .exact Z2 _ hx
 refine⟨⟨h.w.nd,?_,?_,?_,?_,?_,?_⟩,⟨?_,by simp;exact h.bd.len,?_,Nat.le_succ_of_le h.bd.ask,let⟨k,h1,h2⟩:=h.bd.fst;⟨k,hold h1,h2⟩⟩,?_,(h.env.more wl).mo SC (fun _ _ h _=>Wz h),fun d hd=>SC d (h.ts d hd)⟩
 .intro c hc;obtain⟨h1,q,h2,h3⟩:=h.w.cur c hc;exact⟨h1,q,hold h2,h3⟩
 .intro p hp;obtain⟨q,h1,h2⟩:=h.w.pend p hp;exact⟨q,hold h1,h2⟩
 .intro j y hj;rcases XX hj with h1|⟨rfl,rfl⟩
  .obtain⟨h0,q,g1,g2⟩:=h.w.V8 j y h1;exact⟨h0,q,hold g1,g2⟩
  .refine⟨hs,_,hlast,rfl,fun _=>⟨⟨rfl,rfl,rfl⟩,fun e=>?_,rfl,rfl⟩⟩;obtain⟨_,q,h2,_⟩:=h.w.cur _ e;have:=ZH h2;simp at this
 .intro j j' y y' hj hj' e;rcases XX hj with h1|⟨rfl,rfl⟩<;>rcases XX hj' with h2|⟨rfl,rfl⟩
  .exact h.w.Sg j j' y y' h1 h2 e
  .exact absurd e (QM hf _ _ h1)
  .exact absurd e.symm (QM hf _ _ h2)
  .rfl
 .intro j j' y y' hj hj' e;rcases XX hj with h1|⟨rfl,rfl⟩<;>rcases XX hj' with h2|⟨rfl,rfl⟩
  .exact h.w.PV j j' y y' h1 h2 e
  .obtain⟨_,q,g1,_⟩:=h.w.V8 _ _ h1;have:=ZH g1;simp at e;omega
  .obtain⟨_,q,g1,_⟩:=h.w.V8 _ _ h2;have:=ZH g1;simp at e;omega
  .rfl
 .intro i q hi;rcases XX hi with h1|⟨rfl,rfl⟩
  .obtain⟨g1,g2,g3,g4,g5⟩:=h.w.blk i q h1;exact⟨g1,g2,g3,g4,fun s hs=>SC s (g5 s hs)⟩
  .exact⟨rfl,by show(1:Int)<=10;decide,by show(10:Int)<=19;decide,by simp,by simp⟩
 .intro i q hi;rcases XX hi with h1|⟨rfl,rfl⟩
  .exact h.bd.pos i q h1
  .exact⟨by simp,hob⟩
 .intro i q hi;rcases XX hi with h1|⟨rfl,rfl⟩
  .have:=h.bd.Ru i q h1;omega
  .simp
 .intro x;constructor
  .rintro⟨j,y,q,g1,g2,g3,g4⟩;rcases XX g1 with h1|⟨rfl,rfl⟩
   .obtain⟨_,q',f1,_⟩:=h.w.V8 j y h1;have f2:=hold f1;rw[f2]at g3;cases g3;exact wl _ ((h.df x).1 ⟨j,y,_,h1,g2,f1,g4⟩)
   .simp at g3;subst g3;rw[hD,if_neg g4];simp at g2;simp[g2]
  .intro hx;rw[hD]at hx;split at hx
   .obtain⟨j,y,q,g1,g2,g3,g4⟩:=(h.df x).2 hx;exact⟨j,y,q,Wz g1,g2,hold g3,g4⟩
   .next ho=>
    rcases ZO.1 hx with rfl|hx
    .exact⟨S.ZT.length,(x,⟨S.Z6.length,none,none⟩),⟨10,o,[],[],false,false⟩,by simp,rfl,by simp,ho⟩
    .obtain⟨j,y,q,g1,g2,g3,g4⟩:=(h.df x).2 hx;exact⟨j,y,q,Wz g1,g2,hold g3,g4⟩
theorem Rs.define (h:Rs ls D env Ts P m S) {s:ByteArray} {j:Nat} {y:ByteArray × Lb} {k:Bk} (hj:S.ZT[j]? =some y) (hy:y.1=s) (hk:S.Z6[y.2.go]? =some k) (ho:k.of=none):
  Rs ls (s::D) env Ts P m (S.set y.2.go { k with of:=some 0 }):=by
 have hc:=ZH hk;have hg: ∀ i,(S.set y.2.go { k with of:=some 0 }).Z6[i]? =if i=y.2.go then some { k with of:=some 0 } else S.Z6[i]? :=fun i=>YN hc
 obtain⟨_,q0,hq0,hk10,hpd⟩:=h.w.V8 j y hj;rw[hk]at hq0;cases hq0;obtain⟨hfr,lz,_⟩:=hpd ho;have SC: ∀ d,S.tgt d->(S.set y.2.go { k with of:=some 0 }).tgt d:=by
  rintro d ⟨q,g1,g2⟩;by_cases e:d=y.2.go
  .rw[e,hk]at g1;cases g1;exact⟨{ k with of:=some 0 },by rw[hg,if_pos e],g2⟩
  .exact⟨q,by rw[hg,if_neg e];exact g1,g2⟩
 refine⟨⟨h.w.nd,?_,?_,?_,h.w.Sg,h.w.PV,?_⟩,⟨?_,by simp[BS.set];exact h.bd.len,?_,h.bd.ask,let⟨k0,h1,h2,h3⟩:=h.bd.fst;⟨k0,by rw[hg,if_neg (fun e=>by rw[e,hk]at h1;cases h1;rw[hk10]at h2;exact absurd h2 (by decide))];exact h1,h2,h3⟩⟩,?_,(h.env.more (fun _=>Z2 _)).mo SC (fun _ _ h _=>h),fun d hd=>SC d (h.ts d hd)⟩
 .intro c hc';obtain⟨h1,q,h2,h3⟩:=h.w.cur c hc';refine⟨h1,q,?_,h3⟩;rw[hg,if_neg (fun e=>lz (by rw[<-e];exact hc'))];exact h2
 .intro p hp;obtain⟨q,h1,h2,h3,h4⟩:=h.w.pend p hp;refine⟨q,?_,h2,h3,h4⟩;rw[hg,if_neg (fun e=>by rw[e,hk]at h1;cases h1;exact h4 hk10)];exact h1
 .intro j' y' hj';obtain⟨h0,q,g1,g2,g3⟩:=h.w.V8 j' y' hj';by_cases e:y'.2.go=y.2.go
  .rw[e,hk]at g1;cases g1;exact⟨h0,{ k with of:=some 0 },by rw[hg,if_pos e],hk10,fun hn=>by cases hn⟩
  .exact⟨h0,q,by rw[hg,if_neg e];exact g1,g2,g3⟩
 .intro i q hi;rw[hg]at hi;split at hi
  .cases hi;obtain⟨g1,g2,g3,g4,g5⟩:=h.w.blk _ k hk;exact⟨g1,g2,g3,g4,fun s hs=>SC s (g5 s hs)⟩
  .obtain⟨g1,g2,g3,g4,g5⟩:=h.w.blk i q hi;exact⟨g1,g2,g3,g4,fun s hs=>SC s (g5 s hs)⟩
 .intro i q hi;rw[hg]at hi;split at hi
  .cases hi;exact⟨(h.bd.pos _ k hk).1,tF⟩
  .exact h.bd.pos i q hi
 .intro i q hi;rw[hg]at hi;split at hi
  .cases hi;exact h.bd.Ru _ k hk
  .exact h.bd.Ru i q hi
 .intro x;constructor
  .rintro⟨j',y',q,g1,g2,g3,g4⟩;by_cases e:y'.2.go=y.2.go
   .have:=h.w.PV j' j y' y g1 hj e;subst this;have e2:y'=y:=Y0 ((show S.ZT[j']? =some y' from g1).symm.trans hj);rw[<-g2,e2,hy];simp
   .rw[hg,if_neg e]at g3;exact Z2 _ ((h.df x).1 ⟨j',y',q,g1,g2,g3,g4⟩)
  .intro hx;rcases ZO.1 hx with rfl|hx
   .exact⟨j,y,_,hj,hy,by rw[hg,if_pos rfl],by simp⟩
   .obtain⟨j',y',q,g1,g2,g3,g4⟩:=(h.df x).2 hx;by_cases e:y'.2.go=y.2.go
    .exact⟨j',y',_,g1,g2,by rw[hg,if_pos e],by simp⟩
    .exact⟨j',y',q,g1,g2,by rw[hg,if_neg e];exact g3,g4⟩
theorem Rs.goto (h:Rs ls D env Ts P m S) (hm:m<=50000) {s:ByteArray} (hs:s∈ls): ∃ r y,S.UQ s false=some r/\r.2.ZT[r.1]? =some y/\Rs ls D env Ts P (m+1) r.2/\r.2.cur=S.cur/\r.2.tgt y.2.go:=by
 unfold BS.UQ;cases hf:S.Yb s with
 |some j=>
  obtain⟨y,h1,h2⟩:=Vj hf;obtain⟨_,q,g1,g2,_⟩:=h.w.V8 j y h1;exact⟨(j,S),y,rfl,h1,h.le (Nat.le_succ _),rfl,q,g1,by rw[g2];decide⟩
 |none=>
  have hl:=h.bd.len;refine⟨(S.ZT.length,⟨S.Z6++ [⟨10,none,[],[],false,false⟩],S.cur,S.ZT++ [(s,⟨S.Z6.length,none,none⟩)],S.asked⟩),(s,⟨S.Z6.length,none,none⟩),?_,by simp,h.Sf hs hf none (by intro p hp;cases hp) (by rw[if_pos rfl]),rfl,⟨10,none,[],[],false,false⟩,by simp,by show(10:Int)≠1;decide⟩
  .unfold BS.newP;rw[if_pos (by omega)];rfl
theorem Rs.look (h:Rs ls D env Ts P m S) {f:DF} (hf:f∈env) (hs:0 < f.s.lab.size): ∃ j y,S.UQ f.s.lab false=some (j,S)/\S.ZT[j]? =some y/\y.2.brk=f.t.brk/\y.2.cnt=f.t.cnt:=by
 obtain⟨h0,j,y,h1,h2,h3,h4⟩:=h.env.lab f hf hs;refine⟨j,y,?_,h1,h3,h4⟩;unfold BS.UQ;rw[find_eq h.w h1 h2];rfl
theorem Rs.label (h:Rs ls D env Ts P m S) (hm:m<=40000) {s:ByteArray} (hs:s∈ls) (hD:s∉D) {c:Nat} (hc:S.cur=some c):
  ∃ r y S2,S.UQ s true=some r/\r.2.ZT[r.1]? =some y/\r.2.YG y.2.go=some S2/\Rs ls (s::D) env Ts P (m+2) (S2.at y.2.go)/\(S2.at y.2.go).ZT[r.1]? =some y/\y.1=s/\y.2.brk=none/\y.2.cnt=none:=by
 have key: ∃ r y k,S.UQ s true=some r/\r.2.ZT[r.1]? =some y/\Rs ls (s::D) env Ts P (m+1) r.2/\r.2.cur=some c/\y.2.go≠c/\r.2.Z6[y.2.go]? =some k/\k.fresh/\k.kind=10/\k.of≠none/\y.1=s/\y.2.brk=none/\y.2.cnt=none:=by
  unfold BS.UQ;cases hf:S.Yb s with
  |some j=>
   obtain⟨y,h1,h2⟩:=Vj hf;obtain⟨_,k,g1,g2,g3⟩:=h.w.V8 j y h1;have ho:k.of=none:=by
    cases hko:k.of with
    |none=>rfl
    |some o=>exact absurd ((h.df s).1 ⟨j,y,k,h1,h2,g1,by simp[hko]⟩) hD
   obtain⟨f1,f2,f3,f4⟩:=g3 ho;refine⟨(j,S.set y.2.go { k with of:=some 0 }),y,{ k with of:=some 0 },?_,h1,(h.define h1 h2 g1 ho).le (Nat.le_succ _),hc,fun e=>f2 (by rw[hc,e]),?_,f1,g2,by simp,h2,f3,f4⟩
   .simp[h1,g1,ho]
   .rw[YN (ZH g1),if_pos rfl]
  |none=>
   have hl:=h.bd.len;have hcl:c < S.Z6.length:=let⟨_,k,h1,_⟩:=h.w.cur c hc;ZH h1;refine⟨(S.ZT.length,⟨S.Z6++ [⟨10,some 0,[],[],false,false⟩],S.cur,S.ZT++ [(s,⟨S.Z6.length,none,none⟩)],S.asked⟩),(s,⟨S.Z6.length,none,none⟩),⟨10,some 0,[],[],false,false⟩,?_,by simp,h.Sf hs hf (some 0) tF (by simp),hc,by simp;omega,by simp,⟨rfl,rfl,rfl⟩,rfl,by simp,rfl,rfl,rfl⟩
   .unfold BS.newP;rw[if_pos (by omega)];simp only[Y7,if_true,Option.some.injEq,Prod.mk.injEq,true_and];simp[BS.lab,BS.set,BS.new]
 obtain⟨r,y,k,h1,h2,h3,h4,h5,h6,h7,h8,h9,h10,h11,h12⟩:=key;obtain⟨S2,j1,j2,j3,j4,j5⟩:=h3.jump h4 (t:=y.2.go) ⟨k,h6,by rw[h8];decide⟩;have hgo:S2.Z6[y.2.go]? =some k:=by
  unfold BS.YG at j1;obtain⟨kc,hkc,hsc⟩:=h3.Ov h4;rw[Xz h4 hkc,if_pos ⟨hsc,ZH h6⟩]at j1;simp at j1;subst j1;show(r.2.set c _).Z6[_]? =_;rw[YN (ZH hkc),if_neg h5];exact h6
 refine⟨r,y,S2,h1,h2,j1,⟨⟨j2.w.nd,?_,j2.w.pend,?_,j2.w.Sg,j2.w.PV,j2.w.blk⟩,⟨j2.bd.pos,j2.bd.len,j2.bd.Ru,j2.bd.ask,j2.bd.fst⟩,j2.df,j2.env.mo (fun _ h=>h) (fun _ _ h _=>h),j2.ts⟩,by show S2.ZT[_]? =_;rw[j5];exact h2,h10,h11,h12⟩
 .intro c' hc';have e:y.2.go=c':=Y0 hc';rw[<-e];refine⟨fun hp=>?_,k,hgo,h7.2.1⟩;obtain⟨q,g1,_,_,g4⟩:=j2.w.pend _ hp;rw[hgo]at g1;cases g1;exact g4 h8
 .intro j' y' hj';obtain⟨h0,q,g1,g2,g3⟩:=j2.w.V8 j' y' hj';refine⟨h0,q,g1,g2,fun hn=>?_⟩;obtain⟨f1,f2,f3⟩:=g3 hn;refine⟨f1,fun e=>?_,f3⟩;have e':y.2.go=y'.2.go:=Y0 e;rw[<-e',hgo]at g1;cases g1;exact h9 hn
end
section
variable {ls D:List ByteArray} {env:List DF} {Ts P:List Nat} {m:Nat} {S S':BS}
theorem Rs.perm (h:Rs ls D env Ts P m S) {D':List ByteArray} (hD: ∀ s,s∈D↔s∈D'):Rs ls D' env Ts P m S:=
 ⟨h.w,h.bd,fun s=>(h.df s).trans (hD s),h.env.more (fun s hs=>(hD s).1 hs),h.ts⟩
def LC (ls D l:List ByteArray):Prop:=(∀ s∈l,s∈ls/\s∉D)/\l.Nodup
theorem LC.app {a b:List ByteArray} (h:LC ls D (a++b)):LC ls D a/\LC ls (a++D) b:=by
 obtain⟨h1,h2⟩:=h;rw[Y4]at h2;obtain⟨h3,h4,h5⟩:=h2;refine⟨⟨fun s hs=>h1 s (Zd _ hs),h3⟩,⟨fun s hs=>⟨(h1 s (Zr _ hs)).1,?_⟩,h4⟩⟩;intro hc;rcases ZM.1 hc with hc|hc
 .exact h5 s hc s hs rfl
 .exact(h1 s (Zr _ hs)).2 hc
theorem LC.congr {D' l:List ByteArray} (h:LC ls D l) (hD: ∀ s,s∈D'->s∈D):LC ls D' l:=⟨fun s hs=>⟨(h.1 s hs).1,fun hc=>(h.1 s hs).2 (hD s hc)⟩,h.2⟩
def Xy (D:List ByteArray) (S:BS) (env:List DF) (s:ByteArray) (lab:Option Nat):Prop:=
 (lab=none/\s.size=0)\/ ∃ (j:Nat) (y:ByteArray × Lb),lab=some j/\S.ZT[j]? =some y/\y.1=s/\0 < s.size/\s∈D/\y.2.brk=none/\y.2.cnt=none/\ ∀ f∈env,f.s.lab≠s
theorem Xy.same {s:ByteArray} {lab:Option Nat} (h:Xy D S env s lab) (hl:S'.ZT=S.ZT):Xy D S' env s lab:=by
 unfold Xy;rw[hl];exact h
theorem VT {α:Type} {l:List α} {j i:Nat} {f:α->α} {y:α} (h:(l.modify j f)[i]? =some y):(i=j/\ ∃ x,l[i]? =some x/\y=f x)\/(i≠j/\l[i]? =some y):=by
 rw[Y5]at h;by_cases e:j=i
 .subst e;simp at h;obtain⟨x,h1,h2⟩:=h;exact .inl ⟨rfl,x,h1,h2.symm⟩
 .simp[e]at h;exact .inr ⟨fun h=>e h.symm,h⟩
theorem Se {α:Type} {l:List α} {j i:Nat} {f:α->α} {x:α} (h:l[i]? =some x) (e:i≠j):(l.modify j f)[i]? =some x:=by
 rw[Y5];have e': ¬ j=i:=fun h=>e h.symm;simp[e',h]
theorem Rs.W0 (h:Rs ls D env Ts P m S) {j:Nat} {y:ByteArray × Lb} (hj:S.ZT[j]? =some y) (hD:y.1∈D) (he: ∀ f∈env,f.s.lab≠y.1) (g:Lb->Lb) (hg: ∀ x,(g x).go=x.go):Rs ls D env Ts P m (S.W0 j g):=by
 have hy:(S.ZT.modify j fun y=>(y.1,g y.2))[j]? =some (y.1,g y.2):=by rw[Y5];simp[hj]
 obtain⟨j0,y0,k0,f1,f2,f3,f4⟩:=(h.df y.1).2 hD;have:=h.w.Sg j0 j y0 y f1 hj f2;subst this;rw[hj]at f1;cases f1;refine⟨⟨h.w.nd,h.w.cur,h.w.pend,?_,?_,?_,h.w.blk⟩,⟨h.bd.pos,h.bd.len,h.bd.Ru,h.bd.ask,h.bd.fst⟩,?_,?_,h.ts⟩
 .intro i z hi;rcases VT hi with⟨rfl,x,h1,rfl⟩ |⟨_,h1⟩
  .rw[hj]at h1;cases h1;obtain⟨h0,q,g1,g2,g3⟩:=h.w.V8 i y hj;refine⟨h0,q,by show S.Z6[(g y.2).go]? =_;rw[hg];exact g1,g2,fun hn=>?_⟩;rw[f3]at g1;cases g1;exact absurd hn f4
  .exact h.w.V8 i z h1
 .intro i i' z z' hi hi' e;have key: ∀ (i:Nat) z,(S.W0 j0 g).ZT[i]? =some z-> ∃ x,S.ZT[i]? =some x/\x.1=z.1:=by
   intro i z hi;rcases VT hi with⟨rfl,x,h1,rfl⟩ |⟨_,h1⟩
   .exact⟨x,h1,rfl⟩
   .exact⟨z,h1,rfl⟩
  obtain⟨x,h1,h2⟩:=key i z hi;obtain⟨x',h3,h4⟩:=key i' z' hi';exact h.w.Sg i i' x x' h1 h3 (by rw[h2,h4,e])
 .intro i i' z z' hi hi' e;have key: ∀ (i:Nat) z,(S.W0 j0 g).ZT[i]? =some z-> ∃ x,S.ZT[i]? =some x/\x.2.go=z.2.go:=by
   intro i z hi;rcases VT hi with⟨rfl,x,h1,rfl⟩ |⟨_,h1⟩
   .exact⟨x,h1,(hg x.2).symm⟩
   .exact⟨z,h1,rfl⟩
  obtain⟨x,h1,h2⟩:=key i z hi;obtain⟨x',h3,h4⟩:=key i' z' hi';exact h.w.PV i i' x x' h1 h3 (by rw[h2,h4,e])
 .intro s;rw[<-h.df s];constructor
  .rintro⟨i,z,q,g1,g2,g3,g4⟩;rcases VT g1 with⟨rfl,x,h1,rfl⟩ |⟨_,h1⟩
   .exact⟨i,x,q,h1,g2,by rw[<-hg];exact g3,g4⟩
   .exact⟨i,z,q,h1,g2,g3,g4⟩
  .rintro⟨i,z,q,g1,g2,g3,g4⟩;by_cases e:i=j0
   .subst e;rw[hj]at g1;cases g1;exact⟨i,(y.1,g y.2),q,hy,g2,by show S.Z6[(g y.2).go]? =_;rw[hg];exact g3,g4⟩
   .exact⟨i,z,q,Se g1 e,g2,g3,g4⟩
 .refine⟨h.env.brk,h.env.cnt,h.env.wm,h.env.Xw,fun f hf hs=>?_⟩;obtain⟨h0,i,z,g1,g2,g3⟩:=h.env.lab f hf hs;refine⟨h0,i,z,Se g1 (fun e=>?_),g2,g3⟩;subst e;rw[hj]at g1;cases g1;exact he f hf g2.symm
theorem Rs.brk (h:Rs ls D env Ts P m S) {s:ByteArray} {lab:Option Nat} (hl:Xy D S env s lab) (d:Nat):Rs ls D env Ts P m (S.XG lab d)/\(S.XG lab d).cur=S.cur/\(S.XG lab d).Z6=S.Z6/\
  (0 < s.size->s∈D/\ ∃ (j:Nat) (y:ByteArray × Lb),(S.XG lab d).ZT[j]? =some y/\y.1=s/\y.2.brk=some d/\y.2.cnt=none):=by
 rcases hl with⟨rfl,hs⟩ |⟨j,y,rfl,h1,h2,h3,h4,h5,h6,h7⟩
 .exact⟨h,rfl,rfl,fun hc=>by omega⟩
 .refine⟨h.W0 h1 (by rw[h2];exact h4) (by rw[h2];exact h7) (fun x=> { x with brk:=some d }) (fun _=>rfl),rfl,rfl,fun _=>⟨h4,j,(y.1,{ y.2 with brk:=some d }),?_,h2,rfl,h6⟩⟩;show(S.ZT.modify j _)[j]? =_;rw[Y5];simp[h1]
theorem Rs.Mp (h:Rs ls D env Ts P m S) {s:ByteArray} {lab:Option Nat} (hl:Xy D S env s lab) (d e:Nat):Rs ls D env Ts P m ((S.XG lab d).Sl lab e)/\((S.XG lab d).Sl lab e).cur=S.cur/\((S.XG lab d).Sl lab e).Z6=S.Z6/\
  (0 < s.size->s∈D/\ ∃ (j:Nat) (y:ByteArray × Lb),((S.XG lab d).Sl lab e).ZT[j]? =some y/\y.1=s/\y.2.brk=some d/\y.2.cnt=some e):=by
 obtain⟨g1,g2,g3,g4⟩:=h.brk hl d;rcases hl with⟨rfl,hs⟩ |⟨j,y,rfl,h1,h2,h3,h4,h5,h6,h7⟩
 .exact⟨h,rfl,rfl,fun hc=>by omega⟩
 .have hj:(S.XG (some j) d).ZT[j]? =some (y.1,{ y.2 with brk:=some d }):=by
   show(S.ZT.modify j _)[j]? =_;rw[Y5];simp[h1]
  refine⟨g1.W0 hj (by show y.1∈D;rw[h2];exact h4) (by show ∀ f∈env,f.s.lab≠y.1;rw[h2];exact h7) (fun x=> { x with cnt:=some e }) (fun _=>rfl),g2,g3,fun _=>⟨h4,j,(y.1,{ y.2 with brk:=some d,cnt:=some e }),?_,h2,rfl,rfl⟩⟩;show((S.XG (some j) d).ZT.modify j _)[j]? =_;rw[Y5];simp[hj]
theorem Rs.maybe (h:Rs ls D env Ts P m S) (hm:m<=50000) {c:Nat} (hc:S.cur=some c) (is:Bool) (n:Nat) (hn:n<=40000): ∃ S',S.XB is n=some S'/\Rs ls D env Ts P (m+1) S'/\S'.cur=some c/\S'.Z6.length=S.Z6.length/\S'.ZT=S.ZT:=by
 unfold BS.XB;cases is with
 |false=>exact⟨S,rfl,h.le (Nat.le_succ _),hc,rfl,rfl⟩
 |true=>exact h.add hm hc _ (Vk hn)
theorem Rs.newC (h:Rs ls D env Ts P m S) (hm:m<=50000) {c:Nat} (hc:S.cur=some c) {k:Int} {o:Option Int} (hk:1 < k/\k<=19/\k≠10) (ho:OB o): ∃ S',S.newP k o=some S'/\Rs ls D env Ts (S.Z6.length::P) (m+1) S'/\S'.cur=some c/\S'.Z6.length=S.Z6.length+1/\S'.ZT=S.ZT:=by
 obtain⟨h1,h2⟩:=h.new hm hk ho;exact⟨_,h1,h2,hc,Pw,rfl⟩
theorem Rs.Yq (h:Rs ls D env Ts P m S) (hm:m<=50000) {c:Nat} (hc:S.cur=some c) (is:Bool) {k:Int} (i:Nat) (hk:1 < k/\k<=19/\k≠10) (hi:i<=40000): ∃ S',S.Yq is k i=some S'/\Rs ls D env Ts (if is then S.Z6.length::P else P) (m+1) S'/\S'.cur=some c/\S'.Z6.length=S.Z6.length+(if is then 1 else 0)/\S'.ZT=S.ZT:=by
 unfold BS.Yq;cases is with
 |false=>exact⟨S,rfl,h.le (Nat.le_succ _),hc,rfl,rfl⟩
 |true=>exact h.newC hm hc hk (XK hi)
theorem Rs.lt (h:Rs ls D env Ts P m S) {p:Nat} (hp:p∈P):p < S.Z6.length:=h.w.lt hp
def FL (ls:List ByteArray) (t:T):Prop:= ∀ (D:List ByteArray) (env:List DF) (Ts P:List Nat) (m:Nat) (S:BS) (n i:Nat) (fl:Bool),Rs ls D env Ts P m S->(∃ c,S.cur=some c)->t.ok->t.VN ls (env.map DF.s) fl->
 (fl=true-> ∃ f fs d,env=f::fs/\f.t.Xw=some d)->LC ls D t.labels->m+16*t.wt<=40000->n+t.lv false<=39000->i+t.it<=40000->
 ∃ S',t.YO.list n i (env.map DF.t) S=some S'/\Rs ls (t.labels++D) env Ts P (m+16*t.wt) S'/\ ∃ c,S'.cur=some c
theorem zm {h:Hd} {b e:T} (hb:FL ls b) (he:FL ls e) (H:Rs ls D env Ts P m S) {c:Nat} (hc:S.cur=some c) (bo:b.ok) (eo:e.ok) (hbb:b.VN ls (env.map DF.s) false) (heb:e.VN ls (env.map DF.s) false) (hl:LC ls D (b.labels++e.labels)) (hne:h.ZV=false->e=.nil)
  (hm:m+14+16*(b.wt+e.wt)<=40000) (n i n1 n2 i1 i2:Nat) (h1:n1+b.lv false<=39000) (h2:n2+e.lv false<=39000) (h0:n+2<=40000) (hi:i<=40000) (hi1:i1+b.it<=40000) (hi2:i2+e.it<=40000):
  ∃ S',AC h n i (env.map DF.t) (b.YO.list n1 i1) (e.YO.list n2 i2) S=some S'/\Rs ls (e.labels++(b.labels++D)) env Ts P (m+14+16*(b.wt+e.wt)) S'/\ ∃ c,S'.cur=some c:=by
 obtain⟨l1,l2⟩:=hl.app;obtain⟨S0,e0,H0,c0,q0,_⟩:=H.maybe (by omega) hc h.init n (by omega);have lP: ∀ p∈P,p < S.Z6.length:=fun p hp=>H.lt hp;obtain⟨S1,e1,H1,c1,q1,_⟩:=H0.newC (by omega) c0 (k:=9) (o:=some (ip i)) (by decide) (XK (by omega));obtain⟨S2,e2,H2,c2,q2,_⟩:=H1.newC (by omega) c1 (k:=7) (o:=some (ip i)) (by decide) (XK (by omega));obtain⟨S3,e3,H3,c3,q3,_⟩:=H2.Yq (by omega) c2 h.ZV (k:=8) i (by decide) (by omega);obtain⟨S4,e4,H4,c4,q4,_⟩:=H3.add (by omega) c3 ⟨lp (n+h.init.toNat),false⟩ (Vk (by have:=ZG h.init;omega));have t1:S0.Z6.length∈(if h.ZV then S2.Z6.length::S1.Z6.length::S0.Z6.length::P else S1.Z6.length::S0.Z6.length::P):=by split<;>simp
 have t2:(if h.ZV then S2.Z6.length else S1.Z6.length)∈(if h.ZV then S2.Z6.length::S1.Z6.length::S0.Z6.length::P else S1.Z6.length::S0.Z6.length::P):=by split<;>simp
 obtain⟨S5,e5,H5,c5,q5,_⟩:=H4.ifs c4 (H4.pt t1) (H4.pt t2);have wk:=H5.at (P':=if h.ZV then S2.Z6.length::S1.Z6.length::P else S1.Z6.length::P) t1 (by split<;>simp<;>intro p hp<;>simp[hp]) (by
   have h3:S1.Z6.length∉P:=fun hp=>by have:=lP _ hp;omega
   have h4:S2.Z6.length∉P:=fun hp=>by have:=lP _ hp;omega
   split
   .exact ZS.2 ⟨by simp;exact⟨by omega,h4⟩,ZS.2 ⟨h3,H.w.nd⟩⟩
   .exact ZS.2 ⟨h3,H.w.nd⟩) (by
   have h3:S0.Z6.length∉P:=fun hp=>by have:=lP _ hp;omega
   split<;>simp[h3]<;>omega)
 obtain⟨S6,e6,H6,c',c6⟩:=hb D env Ts _ _ (S5.at S0.Z6.length) n1 i1 false wk ⟨_,rfl⟩ bo hbb (by simp) l1 (by omega) h1 hi1;have t3:S1.Z6.length∈(if h.ZV then S2.Z6.length::S1.Z6.length::P else S1.Z6.length::P):=by split<;>simp
 obtain⟨S7,e7,H7,c7,q7,_⟩:=H6.jump c6 (H6.pt t3);have h3:S1.Z6.length∉P:=fun hp=>by have:=lP _ hp;omega
 cases hh:h.ZV with
 |false=>
  rw[hh]at H7 t3 e3 e5;simp only[Zw,if_false]at H7 t3 e5;have hen:=hne hh;subst hen;refine⟨S7.at S1.Z6.length,?_,(H7.at t3 (P':=P) (by simp;intro p hp;simp[hp]) H.w.nd h3).le (by simp[T.wt];omega) |>.perm (by simp[T.labels]),_,rfl⟩;unfold AC;simp only[hh,e0,e1,e2,e3,e4,e5,e6,e7,Zh,Zw,if_false,Y7]
 |true=>
  rw[hh]at H7 t3 e3 e5;simp only[if_true]at H7 t3 e5;have zl:=H7.at (d:=S2.Z6.length) (P':=S1.Z6.length::P) (by simp) (by simp;intro p hp;simp[hp]) (ZS.2 ⟨h3,H.w.nd⟩) (by simp;exact⟨by omega,fun hp=>by have:=lP _ hp;omega⟩)
  obtain⟨S8,e8,H8,c'',c8⟩:=he _ env Ts _ _ (S7.at S2.Z6.length) n2 i2 false zl ⟨_,rfl⟩ eo heb (by simp) l2 (by omega) h2 hi2;obtain⟨S9,e9,H9,c9,q9,_⟩:=H8.jump c8 (H8.pt (d:=S1.Z6.length) (by simp));refine⟨S9.at S1.Z6.length,?_,(H9.at (d:=S1.Z6.length) (P':=P) (by simp) (by intro p hp;simp[hp]) H.w.nd h3).le (by omega),_,rfl⟩;unfold AC;simp only[hh,e0,e1,e2,e3,e4,e5,e6,e7,e8,e9,Zh,if_true,Y7]
end
section
variable {ls D:List ByteArray} {env:List DF} {Ts P:List Nat} {m:Nat} {S S':BS}
def PU (D:List ByteArray) (S:BS) (f:DF):Prop:=0 < f.s.lab.size->f.s.lab∈D/\ ∃ (j:Nat) (y:ByteArray × Lb),S.ZT[j]? =some y/\y.1=f.s.lab/\y.2.brk=f.t.brk/\y.2.cnt=f.t.cnt
theorem PU.same {f:DF} (h:PU D S f) (hl:S'.ZT=S.ZT):PU D S' f:=by
 unfold PU;rw[hl];exact h
theorem La {b:T} (hb:FL ls b) {s:ByteArray} {post:Bool} {loop cont done p:Nat} (H:Rs ls D env Ts ((if post then [cont]else [])++(done::P)) m S) {c:Nat} (hc:S.cur=some c) (t1:loop∈Ts) (t2:cont∈Ts)
  (hf:PU D S ⟨⟨s,true⟩,⟨some done,some cont,none⟩⟩) (bo:b.ok) (hbb:b.VN ls (⟨s,true⟩::env.map DF.s) false) (hl:LC ls D b.labels) (hm:m+16*b.wt+4<=40000) (n1 i1:Nat) (h1:n1+b.lv false<=39000) (hi1:i1+b.it<=40000) (hp:post=true->p<=40000):
  ∃ S9 RM Pa,b.YO.list n1 i1 (⟨some done,some cont,none⟩::env.map DF.t) S=some S9/\S9.YG cont=some RM/\(if post then((RM.at cont).Yk ⟨lp p,false⟩).bind fun EF=>EF.YG loop else some RM)=some Pa/\Rs ls (b.labels++D) env Ts P (m+16*b.wt+4) (Pa.at done):=by
 have tE:done∈(if post then [cont]else [])++(done::P):=by simp
 have hnd:=H.w.nd;have hnd1:(done::P).Nodup:=(Y4.1 hnd).2.1;have Dl:done∉P/\P.Nodup:=ZS.1 hnd1;have H1:Rs ls D (⟨⟨s,true⟩,⟨some done,some cont,none⟩⟩::env) Ts _ m S:=H.push (d:=done) rfl (H.pt tE) (fun _=>⟨cont,rfl,H.ts _ t2⟩) (fun h=>by cases h) (fun e he=>by cases he) hf;obtain⟨S9,e9,H9,c',c9⟩:=hb D _ Ts _ _ S n1 i1 false H1 ⟨c,hc⟩ bo hbb (by simp) hl (by omega) h1 hi1;have qk:=H9.pop (env':=env) (fun f hf=>Z2 _ hf);obtain⟨RM,e10,zk,c10,q10,_⟩:=qk.jump c9 (qk.ts _ t2);cases post with
 |false=>
  exact⟨S9,RM,RM,e9,e10,by simp,(zk.at (d:=done) (P':=P) (by simp) (by intro p hp;simp[hp]) Dl.2 Dl.1).le (by omega)⟩
 |true=>
  have tD:cont∉done::P:=by
   simp only[if_true,List.singleton_append]at hnd;exact(ZS.1 hnd).1
  have gU:=zk.at (d:=cont) (P':=done::P) (by simp) (by simp;intro p hp;simp[hp]) hnd1 tD;obtain⟨EF,e11,zj,c12,q12,_⟩:=gU.add (by omega) (c:=cont) rfl ⟨lp p,false⟩ (Vk (hp rfl));obtain⟨Pa,e12,H13,c13,q13,_⟩:=zj.jump c12 (zj.ts _ t1);exact⟨S9,RM,Pa,e9,e10,by simp[e11,e12],(H13.at (d:=done) (P':=P) (by simp) (by intro p hp;simp[hp]) Dl.2 Dl.1).le (by omega)⟩
theorem tC {h:Hd} {b:T} (hb:FL ls b) (H:Rs ls D env Ts P m S) {c:Nat} (hc:S.cur=some c) {lab:Option Nat} (hlab:Xy D S env h.label lab) (bo:b.ok) (hbb:b.VN ls (⟨h.label,true⟩::env.map DF.s) false) (hl:LC ls D b.labels)
  (hm:m+14+16*b.wt<=40000) (n i n1 i1:Nat) (h1:n1+b.lv false<=39000) (h0:n+3<=40000) (hi:i<=40000) (hi1:i1+b.it<=40000):
  ∃ S',Lw h n i lab (env.map DF.t) (b.YO.list n1 i1) S=some S'/\Rs ls (b.labels++D) env Ts P (m+14+16*b.wt) S'/\ ∃ c,S'.cur=some c:=by
 obtain⟨S0,e0,H0,c0,q0,r0⟩:=H.maybe (by omega) hc h.init n (by omega);have lP: ∀ p∈P,p < S.Z6.length:=fun p hp=>H.lt hp;obtain⟨S1,e1,H1,c1,q1,r1⟩:=H0.newC (by omega) c0 (k:=3) (o:=some (ip i)) (by decide) (XK (by omega));obtain⟨S2,e2,H2,c2,q2,r2⟩:=H1.newC (by omega) c1 (k:=4) (o:=some (ip i)) (by decide) (XK (by omega));obtain⟨S3,e3,H3,c3,q3,r3⟩:=H2.Yq (by omega) c2 h.cond (k:=5) i (by decide) (by omega);obtain⟨S4,e4,H4,c4,q4,r4⟩:=H3.Yq (by omega) c3 h.post (k:=6) i (by decide) (by omega);have tB:Xy D S4 env h.label lab:=hlab.same (by rw[r4,r3,r2,r1,r0]);have nP: ∀ x,S0.Z6.length<=x->x∉P:=fun x hx hp=>by have:=lP _ hp;omega
 have key: ∀ loop cont,loop=(if h.cond then S2.Z6.length else S0.Z6.length)->cont=(if h.post then S3.Z6.length else loop)->
   ∃ S6 S8,((S4.XG lab S1.Z6.length).Sl lab cont).YG loop=some S6/\
    (if h.cond then((S6.at loop).Yk ⟨lp (n+h.init.toNat),false⟩).bind fun S7=>(S7.Lx S0.Z6.length S1.Z6.length).map fun S8=>S8.at S0.Z6.length else some (S6.at loop))=some S8/\
    Rs ls D env (loop::cont::Ts) ((if h.post then [cont]else [])++(S1.Z6.length::P)) (m+10) S8/\S8.cur=some S0.Z6.length/\PU D S8 ⟨⟨h.label,true⟩,⟨some S1.Z6.length,some cont,none⟩⟩:=by
  intro loop cont hloop hcont;obtain⟨H5,c5,b5,l5⟩:=H4.Mp tB S1.Z6.length cont;rw[c4]at c5;have zi:S3.Z6.length=S2.Z6.length+(if h.cond then 1 else 0):=q3
  have nN: ∀ x,S0.Z6.length<=x->x≠S1.Z6.length->(x::S1.Z6.length::P).Nodup:=fun x h1 h2=>
   ZS.2 ⟨by simp;exact⟨h2,nP _ h1⟩,ZS.2 ⟨nP _ (by omega),H.w.nd⟩⟩
  have Ou:loop∈(if h.post then S3.Z6.length::(if h.cond then S2.Z6.length::S1.Z6.length::S0.Z6.length::P else S1.Z6.length::S0.Z6.length::P)else(if h.cond then S2.Z6.length::S1.Z6.length::S0.Z6.length::P else S1.Z6.length::S0.Z6.length::P)):=by
   rw[hloop];cases h.cond<;>cases h.post<;>simp
  have Dk:cont∈(if h.post then S3.Z6.length::(if h.cond then S2.Z6.length::S1.Z6.length::S0.Z6.length::P else S1.Z6.length::S0.Z6.length::P)else(if h.cond then S2.Z6.length::S1.Z6.length::S0.Z6.length::P else S1.Z6.length::S0.Z6.length::P)):=by
   rw[hcont];cases hpo:h.post with
   |true=>simp
   |false=>
    rw[hpo]at Ou;simpa using Ou
  have qj:=(H5.watch Dk).watch Ou;obtain⟨S6,e6,H6,c6,q6,r6⟩:=qj.jump c5 (qj.ts loop (by simp));have K9:PU D S6 ⟨⟨h.label,true⟩,⟨some S1.Z6.length,some cont,none⟩⟩:=PU.same (f:=⟨⟨h.label,true⟩,⟨some S1.Z6.length,some cont,none⟩⟩) l5 r6;have aux: ∀ (x:Nat) (Q:List Nat),(if h.post then [x]else [])++Q=if h.post then x::Q else Q:=by intro x Q;cases h.post<;>rfl
  cases hcd:h.cond with
  |false=>
   rw[hcd]at hloop H6 zi;simp only[Zw,if_false]at hloop H6 zi;refine⟨S6,S6.at loop,e6,by simp,?_,by rw[hloop];rfl,K9.same rfl⟩;rw[aux,hloop];rw[hloop]at H6;refine(H6.at (d:=S0.Z6.length) ?_ ?_ ?_ ?_).le (by omega)
   .split<;>simp
   .rw[hcont];cases h.post<;>simp<;>intro p hp<;>simp[hp]
   .rw[hcont];cases h.post with
    |false=>exact ZS.2 ⟨nP _ (by omega),H.w.nd⟩
    |true=>exact nN _ (by simp;omega) (by simp;omega)
   .rw[hcont];cases h.post with
    |false=>simp;exact⟨by omega,nP _ (by omega)⟩
    |true=>simp;exact⟨by omega,by omega,nP _ (by omega)⟩
  |true=>
   rw[hcd]at hloop H6 zi;simp only[if_true]at hloop H6 zi;have H7:=H6.at (d:=loop) (P':=(if h.post then [cont]else [])++(S1.Z6.length::S0.Z6.length::P)) (by rw[hloop];split<;>simp) (by
    rw[hcont];cases h.post<;>simp<;>intro p hp<;>simp[hp]) (by
    have hn:(S1.Z6.length::S0.Z6.length::P).Nodup:=ZS.2 ⟨by simp;exact⟨by omega,nP _ (by omega)⟩,ZS.2 ⟨nP _ (by omega),H.w.nd⟩⟩;rw[hcont];cases h.post with
    |false=>exact hn
    |true=>exact ZS.2 ⟨by simp;exact⟨by omega,by omega,nP _ (by omega)⟩,hn⟩) (by
    rw[hcont,hloop];cases h.post with
    |false=>simp;exact⟨by omega,by omega,nP _ (by omega)⟩
    |true=>simp;exact⟨by omega,by omega,by omega,nP _ (by omega)⟩)
   obtain⟨S7,e7,H8,c8,q8,r8⟩:=H7.add (by omega) (c:=loop) rfl ⟨lp (n+h.init.toNat),false⟩ (Vk (by have:=ZG h.init;omega));obtain⟨S8,e8,H9,c9,q9,r9⟩:=H8.ifs c8 (t:=S0.Z6.length) (t2:=S1.Z6.length) (H8.pt (by simp)) (H8.pt (by simp));refine⟨S6,S8.at S0.Z6.length,e6,by simp[e7,e8],(H9.at (d:=S0.Z6.length) (by simp) (by cases h.post<;>simp<;>intro p hp<;>simp[hp]) ?_ ?_).le (by omega),rfl,K9.same (by show S8.ZT=_;rw[r9,r8];rfl)⟩
   .rw[hcont];cases h.post with
    |false=>exact ZS.2 ⟨nP _ (by omega),H.w.nd⟩
    |true=>exact nN _ (by simp;omega) (by simp;omega)
   .rw[hcont];cases h.post with
    |false=>simp;exact⟨by omega,nP _ (by omega)⟩
    |true=>simp;exact⟨by omega,by omega,nP _ (by omega)⟩
 obtain⟨S6,S8,e6,e8,H8,c8,l8⟩:=key _ _ rfl rfl;obtain⟨S9,RM,Pa,e9,e10,e12,zj⟩:=La (p:=n+h.init.toNat+h.cond.toNat) (loop:=if h.cond then S2.Z6.length else S0.Z6.length) hb H8 c8 (by simp) (by simp) l8 bo hbb hl (by omega) n1 i1 h1 hi1 (fun _=>by have:=ZG h.init;have:=ZG h.cond;omega);refine⟨_,?_,(zj.less (Dn:=Ts) (P':=P) (by intro d hd;simp[hd]) (fun _ h=>h) H.w.nd).le (by omega),_,rfl⟩;unfold Lw;simp only[e0,e1,e2,e3,e4,e6,e8,e9,e10,e12,Zh,Y7]
theorem Dj {h:Hd} {b:T} (hb:FL ls b) (H:Rs ls D env Ts P m S) {c:Nat} (hc:S.cur=some c) {lab:Option Nat} (hlab:Xy D S env h.label lab) (bo:b.ok) (hbb:b.VN ls (⟨h.label,true⟩::env.map DF.s) false) (hl:LC ls D b.labels)
  (hm:m+14+16*b.wt<=40000) (n i n1 i1:Nat) (h1:n1+b.lv false<=39000) (h0:n+3<=40000) (hi:i<=40000) (hi1:i1+b.it<=40000):
  ∃ S',UF n i lab (env.map DF.t) (b.YO.list n1 i1) S=some S'/\Rs ls (b.labels++D) env Ts P (m+14+16*b.wt) S'/\ ∃ c,S'.cur=some c:=by
 obtain⟨S0,e0,H0,c0,q0,r0⟩:=H.add (by omega) hc ⟨lp n,false⟩ (Vk (by omega));have lP: ∀ p∈P,p < S.Z6.length:=fun p hp=>H.lt hp;have nP: ∀ x,S0.Z6.length<=x->x∉P:=fun x hx hp=>by have:=lP _ hp;omega
 obtain⟨S1,e1,H1,c1,q1,r1⟩:=H0.newC (by omega) c0 (k:=13) (o:=some (ip i)) (by decide) (XK (by omega));have Di:=H1.watch (d:=S0.Z6.length) (by simp);obtain⟨S2,e2,H2,c2,q2,r2⟩:=Di.jump c1 (t:=S0.Z6.length) (Di.ts _ (by simp));have b9:=H2.at (d:=S0.Z6.length) (P':=P) (by simp) (by intro p hp;simp[hp]) H.w.nd (nP _ (Z7 _));obtain⟨S3,e3,H3,c3,q3,r3⟩:=b9.newC (by omega) (c:=S0.Z6.length) rfl (k:=11) (o:=some (ip i)) (by decide) (XK (by omega));obtain⟨S4,e4,H4,c4,q4,r4⟩:=H3.newC (by omega) c3 (k:=12) (o:=some (ip i)) (by decide) (XK (by omega));have q3':S3.Z6.length=S2.Z6.length+1:=q3;obtain⟨S5,e5,H5,c5,q5,r5⟩:=H4.ifs c4 (t:=S2.Z6.length) (t2:=S3.Z6.length) (H4.pt (by simp[BS.at])) (H4.pt (by simp));have wk:=H5.at (d:=S2.Z6.length) (P':=S3.Z6.length::P) (by simp[BS.at]) (by intro p hp;simp[BS.at]at hp ⊢;rcases hp with h|h<;>simp[h]) (ZS.2 ⟨nP _ (by omega),H.w.nd⟩) (by simp;exact⟨by omega,nP _ (by omega)⟩)
 have tA:Xy D (S5.at S2.Z6.length) env h.label lab:=hlab.same (by show S5.ZT=_;rw[r5,r4,r3];show S2.ZT=_;rw[r2,r1,r0]);obtain⟨H6,c6,b6,l6⟩:=wk.Mp tA S3.Z6.length S0.Z6.length;obtain⟨S9,RM,Pa,e9,e10,e12,zj⟩:=La (post:=false) (P:=P) (p:=0) (done:=S3.Z6.length) (loop:=S0.Z6.length) (cont:=S0.Z6.length) hb (by simpa using H6) c6 (by simp) (by simp) l6 bo hbb hl (by omega) n1 i1 h1 hi1 (by simp);simp at e12;subst e12;refine⟨RM.at S3.Z6.length,?_,(zj.less (Dn:=Ts) (P':=P) (by intro d hd;simp[hd]) (fun _ h=>h) H.w.nd).le (by omega),_,rfl⟩;unfold UF;simp only[e0,e1,e2,e3,e4,e5,e9,e10,Zh,Y7]
theorem Fv {k:Int} {target:ByteArray} (H:Rs ls D env Ts P m S) {c:Nat} (hc:S.cur=some c) (hm:m+10<=40000) (hk:k=17\/k=18\/k=19\/k=20)
  (h17:k=17-> ∃ f∈env,target.size=0\/f.s.lab=target) (h18:k=18-> ∃ f∈env,f.s.loop=true/\(target.size=0\/f.s.lab=target)) (h19:k=19->target∈ls/\0 < target.size) (h20:k=20->target.size=0/\ ∃ f fs d,env=f::fs/\f.t.Xw=some d):
  ∃ S',S.Ys k target (env.map DF.t)=some S'/\Rs ls D env Ts P (m+10) S'/\ ∃ c,S'.cur=some c:=by
 have key: ∃ d S1,S.aim k target (env.map DF.t)=some (some d,S1)/\Rs ls D env Ts P (m+1) S1/\S1.cur=some c/\S1.tgt d:=by
  unfold BS.aim;by_cases ht:0 < target.size
  .rw[if_pos ht];rcases hk with rfl|rfl|rfl|rfl
   .obtain⟨f,hf,he⟩:=h17 rfl;have he:f.s.lab=target:=he.elim (fun h=>by omega) id;subst he;obtain⟨j,y,g1,g2,g3,g4⟩:=H.look hf ht;obtain⟨d,g5,g6⟩:=H.env.brk f hf;exact⟨d,S,by simp[g1,g2,g3,g5],H.le (Nat.le_succ _),hc,g6⟩
   .obtain⟨f,hf,hlp,he⟩:=h18 rfl;have he:f.s.lab=target:=he.elim (fun h=>by omega) id;subst he;obtain⟨j,y,g1,g2,g3,g4⟩:=H.look hf ht;obtain⟨d,g5,g6⟩:=H.env.cnt f hf hlp;exact⟨d,S,by simp[g1,g2,g4,g5],H.le (Nat.le_succ _),hc,g6⟩
   .obtain⟨⟨j,S1⟩,y,g1,g2,g3,g4,g5⟩:=H.goto (by omega) (h19 rfl).1;exact⟨y.2.go,S1,by simp only[g1,Zh];rw[g2];simp,g3,by rw[<-hc];exact g4,g5⟩
   .have:=(h20 rfl).1;omega
  .rw[if_neg ht];rcases hk with rfl|rfl|rfl|rfl
   .obtain⟨f,hf,he⟩:=h17 rfl;cases env with
    |nil=>simp at hf
    |cons f0 fs=>
     obtain⟨d,g5,g6⟩:=H.env.brk f0 (by simp);exact⟨d,S,by simp[g5],H.le (Nat.le_succ _),hc,g6⟩
   .obtain⟨f,hf,hlp,he⟩:=h18 rfl;have: ∃ d,(env.map DF.t).findSome? Tg.cnt=some d/\S.tgt d:=by
     have hcnt:=H.env.cnt;have ly:=H.env.wm;clear H h17 h18 h19 h20
     induction env with
     |nil=>simp at hf
     |cons f0 fs ih=>
      cases hl0:f0.s.loop with
      |true=>
       obtain⟨d,g1,g2⟩:=hcnt f0 (by simp) hl0;exact⟨d,by simp[g1],g2⟩
      |false=>
       have g1:=ly f0 (by simp) hl0;rcases ZO.1 hf with rfl|hf'
       .rw[hlp]at hl0;cases hl0
       .obtain⟨d,g2,g3⟩:=ih hf' (fun f hf=>hcnt f (Z2 _ hf)) (fun f hf=>ly f (Z2 _ hf));exact⟨d,by simp[g1];simpa using g2,g3⟩
    obtain⟨d,g1,g2⟩:=this;exact⟨d,S,by simp[g1],H.le (Nat.le_succ _),hc,g2⟩
   .have:=(h19 rfl).2;omega
   .obtain⟨_,f,fs,d,rfl,g1⟩:=h20 rfl;exact⟨d,S,by simp[g1],H.le (Nat.le_succ _),hc,H.env.Xw f (by simp) d g1⟩
 obtain⟨d,S1,e1,H1,c1,t1⟩:=key;obtain⟨S2,e2,H2,c2,q2,_⟩:=H1.jump c1 t1;obtain⟨S3,e3,H3,c3⟩:=H2.newAt (by omega) (o:=some 0) tF;refine⟨S3,?_,H3.le (by omega),_,c3⟩;unfold BS.Ys;simp only[e1,Zh,BS.aimed,e2,e3]
end
section
variable {ls D:List ByteArray} {env:List DF} {Ts P:List Nat} {m:Nat} {S S':BS}
def T.Xv:T->Bool->Prop
 | .nil,_=>True
 | .st _ b e c tl,k=>k=true/\b.Xv true/\e.Xv true/\c.Xv false/\tl.Xv true
 | .cl _ b tl,k=>k=false/\b.Xv true/\tl.Xv false
theorem Rs.swap (h:Rs ls D env Ts P m S) {c d:Nat} {k:Bk} (hc:S.cur=some c) (hk:S.Z6[c]? =some k) (hf:k.fresh) (h1:k.kind≠1) (h10:k.kind≠10) {P':List Nat} (hd:d∈P) (hP: ∀ p∈P',p∈c::P) (hn:P'.Nodup) (tE:d∉P'):Rs ls D env Ts P' m (S.at d):=by
 obtain⟨kd,hkd,hfd,hk1,hk10⟩:=h.w.pend d hd;refine⟨⟨hn,?_,fun p hp=>?_,?_,h.w.Sg,h.w.PV,h.w.blk⟩,⟨h.bd.pos,h.bd.len,h.bd.Ru,h.bd.ask,h.bd.fst⟩,h.df,h.env.mo (fun _ h=>h) (fun _ _ h _=>h),h.ts⟩
 .intro c' hc';cases hc';exact⟨tE,kd,hkd,hfd.2.1⟩
 .rcases ZO.1 (hP p hp)with rfl|hp'
  .exact⟨k,hk,hf,h1,h10⟩
  .exact h.w.pend p hp'
 .intro j y hj;obtain⟨h0,q,g1,g2,g3⟩:=h.w.V8 j y hj;refine⟨h0,q,g1,g2,fun hn=>?_⟩;obtain⟨f1,f2,f3⟩:=g3 hn;refine⟨f1,fun e=>?_,f3⟩;have e':d=y.2.go:=Y0 e;rw[e']at hkd;rw[g1]at hkd;cases hkd;exact hk10 g2
theorem K8 {body:Nat} {p:Int} (hp:OB (some p)): ∀ (k:Nat) (n m:Nat) (S:BS) (c:Nat),Rs ls D env Ts P m S->S.cur=some c->body∈Ts->m+3*k<=40000->n+k<=40000->
  ∃ S',Xi body p k n S=some S'/\Rs ls D env Ts P (m+3*k) S'/\S.Z6.length<=S'.Z6.length/\((k=0/\S'=S)\/ ∃ c' q,S'.cur=some c'/\S.Z6.length<=c'/\c' < S'.Z6.length/\S'.Z6[c']? =some q/\q.fresh/\q.kind≠1/\q.kind≠10):=by
 intro k
 induction k with
 |zero=>intro n m S c H hc hb hm hn;exact⟨S,rfl,H,Z7 _,.inl ⟨rfl,rfl⟩⟩
 |succ k ih=>
  intro n m S c H hc hb hm hn;obtain⟨S1,e1,H1,c1,q1,_⟩:=H.newC (by omega) hc (k:=19) (o:=some p) (by decide) hp;obtain⟨S2,e2,H2,c2,q2,_⟩:=H1.add (by omega) c1 ⟨lp n,false⟩ (Vk (by omega));obtain⟨S3,e3,H3,c3,q3,_⟩:=H2.ifs c2 (H2.ts _ hb) (H2.pt (d:=S.Z6.length) (by simp));have tw:S.Z6.length∉P:=fun hp=>by have:=H.lt hp;omega
  have H4:=H3.at (d:=S.Z6.length) (P':=P) (by simp) (by intro x hx;simp[hx]) H.w.nd tw;obtain⟨kq,hkq,Dh,hk1,hk10⟩:=H3.w.pend S.Z6.length (by simp);obtain⟨S',e',H',hl',hr⟩:=ih (n+1) (m+3) (S3.at S.Z6.length) S.Z6.length (H4.le (by omega)) rfl hb (by omega) (by omega);have hl3:(S3.at S.Z6.length).Z6.length=S.Z6.length+1:=by show S3.Z6.length=_;omega
  refine⟨S',?_,H'.le (by omega),by omega,.inr ?_⟩
  .unfold Xi;simp only[e1,e2,e3,Zh,e']
  .rcases hr with⟨rfl,rfl⟩ |⟨c',q,g1,g2,g3,g4⟩
   .exact⟨S.Z6.length,kq,rfl,Z7 _,by omega,hkq,Dh,hk1,hk10⟩
   .exact⟨c',q,g1,by omega,g3,g4⟩
theorem K7 {body:Nat} {p:Int} (hp:OB (some p)): ∀ (k:Nat) (m:Nat) (S:BS) (c:Nat),Rs ls D env Ts P m S->S.cur=some c->body∈Ts->m+3*k<=40000->
  ∃ S',WZ body p k S=some S'/\Rs ls D env Ts P (m+3*k) S'/\S.Z6.length<=S'.Z6.length/\((k=0/\S'=S)\/ ∃ c' q,S'.cur=some c'/\S.Z6.length<=c'/\c' < S'.Z6.length/\S'.Z6[c']? =some q/\q.fresh/\q.kind≠1/\q.kind≠10):=by
 intro k
 induction k with
 |zero=>intro m S c H hc hb hm;exact⟨S,rfl,H,Z7 _,.inl ⟨rfl,rfl⟩⟩
 |succ k ih=>
  intro m S c H hc hb hm;obtain⟨S1,e1,H1,c1,q1,_⟩:=H.newC (by omega) hc (k:=19) (o:=some p) (by decide) hp;obtain⟨S3,e3,H3,c3,q3,_⟩:=H1.ifs c1 (H1.ts _ hb) (H1.pt (d:=S.Z6.length) (by simp));have tw:S.Z6.length∉P:=fun hp=>by have:=H.lt hp;omega
  have H4:=H3.at (d:=S.Z6.length) (P':=P) (by simp) (by intro x hx;simp[hx]) H.w.nd tw;obtain⟨kq,hkq,Dh,hk1,hk10⟩:=H3.w.pend S.Z6.length (by simp);obtain⟨S',e',H',hl',hr⟩:=ih (m+3) (S3.at S.Z6.length) S.Z6.length (H4.le (by omega)) rfl hb (by omega);have hl3:(S3.at S.Z6.length).Z6.length=S.Z6.length+1:=by show S3.Z6.length=_;omega
  refine⟨S',?_,H'.le (by omega),by omega,.inr ?_⟩
  .unfold WZ;simp only[e1,e3,Zh,e']
  .rcases hr with⟨rfl,rfl⟩ |⟨c',q,g1,g2,g3,g4⟩
   .exact⟨S.Z6.length,kq,rfl,Z7 _,by omega,hkq,Dh,hk1,hk10⟩
   .exact⟨c',q,g1,by omega,g3,g4⟩
def K6 (ls:List ByteArray) (t:T):Prop:=t.Xv true->FL ls t
structure Tz where
 b:T
 n:Nat
 i:Nat
 blk:Nat
 Xw:Nat
def Tz.df (d:Tz):Df:=⟨d.blk,d.b.YO.list d.n d.i,d.Xw⟩
def UK:Option Tz->Nat
 |none=>0
 |some d=>d.b.wt
def Vq:Option Tz->List ByteArray
 |none=> []
 |some d=>d.b.labels
def Wj:Option Tz->List Nat
 |none=> []
 |some d=> [d.blk]
def lx (ls:List ByteArray) (env:List DF) (Ts:List Nat) (s:ByteArray) (d:Tz):Prop:=
 FL ls d.b/\d.b.ok/\(∃ fl,d.b.VN ls (⟨s,false⟩::env.map DF.s) fl)/\d.Xw∈Ts/\d.n+d.b.lv false<=39000/\d.i+d.b.it<=40000
theorem LC.comm {a b:List ByteArray} (h:LC ls D (a++b)):LC ls D (b++a):=
 ⟨fun s hs=>h.1 s (by simp at hs ⊢;exact hs.symm),by
  have:=h.2;rw[Y4]at this ⊢;exact⟨this.2.1,this.1,fun x hx y hy e=>this.2.2 y hy x hx e.symm⟩⟩
def Uz (s:ByteArray) (done:Nat) (Xw:Option Nat):DF:=⟨⟨s,false⟩,⟨some done,none,Xw⟩⟩
theorem Rs.frame {s:ByteArray} {done:Nat} {tu:Option Nat} (h:Rs ls D (Uz s done tu::env) Ts P m S) (Xw:Option Nat) (hf: ∀ d,Xw=some d->S.tgt d):Rs ls D (Uz s done Xw::env) Ts P m S:=by
 obtain⟨d,h1,h2⟩:=h.env.brk (Uz s done tu) (by simp);cases h1;exact(h.pop (env':=env) (fun f hf=>Z2 _ hf)).push (f:=Uz s done Xw) rfl h2 (fun h=>by cases h) (fun _=>rfl) hf (h.env.lab (Uz s done tu) (by simp))
theorem Rq {b:T} (hb:FL ls b) {s:ByteArray} {done:Nat} (H:Rs ls D (Uz s done none::env) Ts P m S) {c:Nat} (hc:S.cur=some c) {Xw:Option Nat} (tm: ∀ d,Xw=some d->d∈Ts) (bo:b.ok) {fl:Bool} (hbb:b.VN ls (⟨s,false⟩::env.map DF.s) fl) (hfl:fl=true-> ∃ d,Xw=some d)
  (hl:LC ls D b.labels) (hdn:done∈P) (hm:m+16*b.wt+1<=40000) (n1 i1:Nat) (h1:n1+b.lv false<=39000) (hi1:i1+b.it<=40000):
  ∃ S1 S2,b.YO.list n1 i1 (⟨some done,none,Xw⟩::env.map DF.t) S=some S1/\S1.YG done=some S2/\Rs ls (b.labels++D) (Uz s done none::env) Ts P (m+16*b.wt+1) S2/\S2.cur=none:=by
 have Hf:=H.frame Xw (fun d hd=>H.ts d (tm d hd));obtain⟨S1,e1,H1,c',c1⟩:=hb D _ Ts P m S n1 i1 fl Hf ⟨c,hc⟩ bo hbb (fun h=>let⟨d,hd⟩:=hfl h;⟨_,_,d,rfl,hd⟩) hl (by omega) h1 hi1;obtain⟨S2,e2,H2,c2,q2,_⟩:=H1.jump c1 (H1.pt hdn);exact⟨S1,S2,e1,e2,H2.frame none (fun d hd=>by cases hd),c2⟩
theorem tk {s:ByteArray} {done:Nat} {df:Option Tz} (H:Rs ls D (Uz s done none::env) Ts (Wj df++(done::P)) m S) {c:Nat} (hc:S.cur=some c) (hdf: ∀ d,df=some d->lx ls env Ts s d) (hl:LC ls D (Vq df)) (hm:m+16*UK df+8<=40000):
  ∃ S',RL (env.map DF.t) done (df.map Tz.df) S=some S'/\Rs ls (Vq df++D) env Ts P (m+16*UK df+8) S'/\S'.cur=some done:=by
 cases df with
 |none=>
  have hnd:done∉P/\P.Nodup:=ZS.1 H.w.nd;obtain⟨S1,e1,H1,c1,_⟩:=H.jump hc (H.pt (d:=done) (by simp[Wj]));refine⟨S1.at done,by simp[RL,e1],?_,rfl⟩;exact((H1.at (d:=done) (P':=P) (by simp[Wj]) (by intro p hp;simp[hp]) hnd.2 hnd.1).pop (env':=env) (fun f hf=>Z2 _ hf)).le (by omega)
 |some d=>
  obtain⟨g1,g2,⟨fl,g3⟩,g4,g5,g6⟩:=hdf d rfl;simp only[Wj,List.singleton_append]at H;have hn1:=ZS.1 H.w.nd;have hnd:=ZS.1 hn1.2;obtain⟨S1,e1,H1,c1,_⟩:=H.jump hc (H.pt (d:=d.blk) (by simp));have bZ:=H1.at (d:=d.blk) (P':=done::P) (by simp) (by simp;intro p hp;simp[hp]) hn1.2 hn1.1;obtain⟨S2,S3,e2,e3,H3,c3⟩:=Rq g1 bZ rfl (Xw:=some d.Xw) (by intro x hx;cases hx;exact g4) g2 g3 (fun _=>⟨_,rfl⟩) hl (by simp) (by simp[UK]at hm;omega) d.n d.i g5 g6;refine⟨S3.at done,?_,?_,rfl⟩
  .simp only[RL,Y7,Tz.df,e1,Zh,e2,e3]
  .exact((H3.at (d:=done) (P':=P) (by simp) (by intro p hp;simp[hp]) hnd.2 hnd.1).pop (env':=env) (fun f hf=>Z2 _ hf)).le (by simp[UK];omega)
theorem Na (tl:Bool) (q:Nat):(if tl then []else(some q).toList)=(if tl then []else [q]):=by cases tl<;>rfl
theorem tj: ∀ c:T,c.All (K6 ls)-> ∀ (D:List ByteArray) (env:List DF) (Ts P:List Nat) (m:Nat) (S:BS) (n i:Nat) (s:ByteArray) (done:Nat) (fall:Option Nat) (df:Option Tz),
  Rs ls D (Uz s done none::env) Ts ((if c.isNil then []else fall.toList)++(Wj df++(done::P))) m S->(∃ c0,S.cur=some c0)->c.ok->c.Xv false->c.VN ls (⟨s,false⟩::env.map DF.s) true->done∈Ts->(∀ d,df=some d->lx ls env Ts s d)->
  c.YV+(Wj df).length<=1->LC ls D (c.labels++Vq df)->m+16*(c.wt+UK df)+8<=40000->n+c.lv true<=39000->i+c.it<=40000->
  ∃ S',c.YO.sw n i (env.map DF.t) done fall (df.map Tz.df) S=some S'/\Rs ls (Vq df++(c.labels++D)) env Ts P (m+16*(c.wt+UK df)+8) S'/\S'.cur=some done:=by
 intro c
 induction c with
 |nil=>
  intro _ D env Ts P m S n i s done fall df H ⟨c0,hc⟩ _ _ _ Fu hdf _ hl hm _ _;obtain⟨S',e1,H1,c1⟩:=tk (by simpa [T.isNil]using H) hc hdf (by simpa [T.labels]using hl) (by simp[T.wt]at hm;omega);exact⟨S',e1,by simpa [T.labels,T.wt]using H1,c1⟩
 |st h b e c tl=>intro _ D env Ts P m S n i s done fall df H _ _ hs;exact absurd hs.1 (by simp)
 |cl x b tl _ ih=>
  intro⟨hQ,hall⟩ D env Ts P m S n i s done fall df H ⟨c0,hc⟩ ⟨hx0,hx3,bo,to⟩ ⟨_,bs,ts⟩ ⟨hbb,htb⟩ Fu hdf hpl hl hm hn hi;have Uy:=hQ bs;simp only[T.wt]at hm;simp only[T.lv,if_true]at hn;simp only[T.it]at hi;simp only[T.labels,ZI]at hl;have key1: ∃ body S1,S.Sk fall i=some (body,S1)/\Rs ls D (Uz s done none::env) (body::Ts) (body::(Wj df++(done::P))) (m+1) S1/\S1.cur=some c0:=by
   cases fall with
   |none=>
    obtain⟨S1,e1,H1,c1,q1,_⟩:=H.newC (by omega) hc (k:=17) (o:=some (ip i)) (by decide) (XK (by omega));refine⟨S.Z6.length,S1,by simp[BS.Sk,e1],?_,c1⟩;have:(if(T.cl x b tl).isNil=true then([]:List Nat)else(none:Option Nat).toList)= []:=by simp
    rw[this]at H1;exact H1.watch (by simp)
   |some f=>
    have:(if(T.cl x b tl).isNil=true then([]:List Nat)else(some f).toList)= [f]:=by simp[T.isNil]
    rw[this]at H;exact⟨f,S,rfl,(H.watch (d:=f) (by simp)).le (by omega),hc⟩
  obtain⟨body,S1,e1,H1,c1⟩:=key1;have key2: ∃ q S2,S1.Sj tl.isNil done (i+1+b.it)=some (q,S2)/\Rs ls D (Uz s done none::env) (q::body::Ts) ((if tl.isNil then []else [q])++(body::(Wj df++(done::P)))) (m+2) S2/\S2.cur=some c0:=by
   unfold BS.Sj;cases htn:tl.isNil with
   |true=>exact⟨done,S1,rfl,⟨H1.w,(H1.le (by omega)).bd,H1.df,H1.env,fun d hd=>by
     rcases ZO.1 hd with rfl|hd
     .exact H1.ts d (by simp[Fu])
     .exact H1.ts d hd⟩,c1⟩
   |false=>
    obtain⟨S2,e2,H2,c2,q2,_⟩:=H1.newC (by omega) c1 (k:=17) (o:=some (ip (i+1+b.it))) (by decide) (XK (by omega));exact⟨S1.Z6.length,S2,by simp[e2],H2.watch (by simp),c2⟩
  obtain⟨q,S2,e2,H2,c2⟩:=key2
  have X5:(T.cl x b tl).YO.sw n i (env.map DF.t) done fall (df.map Tz.df) S=if x<=0 then tl.YO.sw (n+x.toNat+b.lv false) (i+1+b.it) (env.map DF.t) done (some q) (some ⟨body,b.YO.list (n+x.toNat) (i+1),q⟩) S2
   else(Xi body (ip i) x.toNat n S2).bind fun S3=>(b.YO.list (n+x.toNat) (i+1) (⟨some done,none,some q⟩::env.map DF.t) (S3.at body)).bind fun S4=>(S4.YG done).bind fun S5=>
    tl.YO.sw (n+x.toNat+b.lv false) (i+1+b.it) (env.map DF.t) done (some q) (df.map Tz.df) { S5 with cur:=S3.cur } :=by
   simp only[T.YO,e1,e2,Zh]
  rw[X5];by_cases hx:x<=0
  .rw[if_pos hx];have hx':x=0:=by omega
   have hdn:df=none:=by
    cases df with
    |none=>rfl
    |some d=>simp[T.YV,hx',Wj]at hpl
   subst hdn
   obtain⟨S',e3,H3,c3⟩:=ih hall D env (q::body::Ts) P (m+2) S2 (n+x.toNat+b.lv false) (i+1+b.it) s done (some q) (some ⟨b,n+x.toNat,i+1,body,q⟩) (by rw[Na];exact H2) ⟨c0,c2⟩ to ts htb (by simp[Fu])
    (fun d hd=>by cases hd;exact⟨Uy,bo,⟨_,hbb⟩,by simp,by show n+x.toNat+b.lv false<=39000;omega,by show i+1+b.it<=40000;omega⟩) (by simp[T.YV,hx',Wj]at hpl ⊢;omega) (by simp only[Vq,Y9]at hl ⊢;exact hl.comm) (by simp only[UK]at hm ⊢;omega) (by omega) (by omega)
   refine⟨S',e3,?_,c3⟩;refine((H3.less (Dn:=Ts) (P':=P) (by intro d hd;simp[hd]) (fun _ h=>h) (ZS.1 (Y4.1 (Y4.1 H.w.nd).2.1).2.1).2).le (by simp only[UK,T.wt];omega)).perm ?_;intro z;simp[Vq,T.labels]
  .rw[if_neg hx];have bY:=H2.w.nd;have hfl:=(Y4.1 bY)
   have hbn:=ZS.1 hfl.2.1;obtain⟨S3,e3,H3,hl3,hr⟩:=K8 (D:=D) (env:=Uz s done none::env) (P:=(if tl.isNil then []else [q])++(body::(Wj df++(done::P)))) (Ts:=q::body::Ts) (body:=body) (p:=ip i) (XK (by omega)) x.toNat n (m+2) S2 c0 H2 c2 (by simp) (by omega) (by omega);have hrr: ∃ c' kq,S3.cur=some c'/\S2.Z6.length<=c'/\c' < S3.Z6.length/\S3.Z6[c']? =some kq/\kq.fresh/\kq.kind≠1/\kq.kind≠10:=by
    rcases hr with⟨h0,_⟩ |h0
    .omega
    .exact h0
   obtain⟨c',kq,c3,td,sZ,hkq,Dh,hk1,hk10⟩:=hrr;have bX: ∀ p∈(if tl.isNil then []else [q])++(body::(Wj df++(done::P))),p < S2.Z6.length:=fun p hp=>H2.lt hp;have I8:c'∉(if tl.isNil then []else [q])++(body::(Wj df++(done::P))):=fun hp=>by have:=bX _ hp;omega
   have sY:((if tl.isNil then []else [q])++(Wj df++(done::P))).Nodup:=by
    rw[Y4];exact⟨hfl.1,hbn.2,fun a ha b hb=>hfl.2.2 a ha b (Z2 _ hb)⟩
   have bW:body∉(if tl.isNil then []else [q])++(Wj df++(done::P)):=by
    intro hp;rcases ZM.1 hp with hp|hp
    .exact hfl.2.2 body hp body (by simp) rfl
    .exact hbn.1 hp
   have K5: ∀ p∈(if tl.isNil then []else [q])++(Wj df++(done::P)),p∈(if tl.isNil then []else [q])++(body::(Wj df++(done::P))):=by
    intro p hp;rcases ZM.1 hp with hp|hp
    .exact Zd _ hp
    .exact Zr _ (Z2 _ hp)
   have H4:=H3.swap (d:=body) (P':=c'::((if tl.isNil then []else [q])++(Wj df++(done::P)))) c3 hkq Dh hk1 hk10 (by simp) (by
    intro p hp;rcases ZO.1 hp with rfl|hp
    .simp
    .exact Z2 _ (K5 p hp)) (ZS.2 ⟨fun hp=>I8 (K5 _ hp),sY⟩) (by
    intro hp;rcases ZO.1 hp with rfl|hp
    .exact I8 (by simp)
    .exact bW hp)
   obtain⟨l1,l2⟩:=LC.app (a:=b.labels) (b:=tl.labels++Vq df) hl;obtain⟨S4,S5,e4,e5,H5,c5⟩:=Rq Uy H4 rfl (Xw:=some q) (by intro d hd;cases hd;simp) bo hbb (fun _=>⟨_,rfl⟩) l1 (by simp) (by omega) (n+x.toNat) (i+1) (by omega) (by omega);have H6:=H5.at (d:=c') (P':=(if tl.isNil then []else [q])++(Wj df++(done::P))) (by simp) (by intro p hp;exact Z2 _ hp) sY (fun hp=>I8 (K5 _ hp))
   obtain⟨S',e6,H7,c7⟩:=ih hall _ env (q::body::Ts) P _ (S5.at c') (n+x.toNat+b.lv false) (i+1+b.it) s done (some q) df (by rw[Na];exact H6) ⟨c',rfl⟩ to ts htb (by simp[Fu])
    (fun d hd=>let⟨g1,g2,g3,g4,g5,g6⟩:=hdf d hd;⟨g1,g2,g3,by simp[g4],g5,g6⟩) (by simp[T.YV]at hpl;omega) l2 (by omega) (by omega) (by omega)
   refine⟨S',?_,?_,c7⟩
   .simp only[e3,Zh,e4,e5,c3];exact e6
   .refine((H7.less (Dn:=Ts) (P':=P) (by intro d hd;simp[hd]) (fun _ h=>h) (ZS.1 (Y4.1 hbn.2).2.1).2).le (by simp only[T.wt];omega)).perm ?_;intro z;simp[T.labels];constructor
    .intro h;rcases h with h|h|h|h<;>simp[h]
    .intro h;rcases h with h|h|h|h<;>simp[h]
end
section
variable {ls D:List ByteArray} {env:List DF} {Ts P:List Nat} {m:Nat} {S S':BS}
theorem T.QK: ∀ c:T,c.len<=c.wt:=by
 intro c
 induction c with
 |nil=>simp[T.len,T.wt]
 |st h b e c tl _ _ _ ih=>simp only[T.len,T.wt];omega
 |cl x b tl _ ih=>simp only[T.len,T.wt];omega
def Tz.lr (d:Tz):Lr:=d.b.YO.list d.n d.i
def PT (ls:List ByteArray) (env:List DF) (s:ByteArray) (d:Tz):Prop:=
 FL ls d.b/\d.b.ok/\d.b.VN ls (⟨s,false⟩::env.map DF.s) false/\d.n+d.b.lv false<=39000/\d.i+d.b.it<=40000
theorem Dg {s:ByteArray} {done:Nat} {d:Tz} (H:Rs ls D (Uz s done none::env) Ts (done::P) m S) {c:Nat} (hc:S.cur=some c) (hdf:PT ls env s d) (hl:LC ls D d.b.labels) (hm:m+16*d.b.wt+8<=40000):
  ∃ S2 S3,d.lr (⟨some done,none,none⟩::env.map DF.t) S=some S2/\S2.YG done=some S3/\Rs ls (d.b.labels++D) env Ts P (m+16*d.b.wt+8) (S3.at done):=by
 obtain⟨g1,g2,g3,g5,g6⟩:=hdf;have hnd:=ZS.1 H.w.nd;obtain⟨S2,S3,e2,e3,H3,c3⟩:=Rq g1 H hc (Xw:=none) (by intro x hx;cases hx) g2 g3 (by simp) hl (by simp) (by omega) d.n d.i g5 g6;exact⟨S2,S3,e2,e3,((H3.at (d:=done) (P':=P) (by simp) (by intro p hp;simp[hp]) hnd.2 hnd.1).pop (env':=env) (fun f hf=>Z2 _ hf)).le (by omega)⟩
theorem sX {s:ByteArray} {done:Nat} {df:Option Tz} (H:Rs ls D (Uz s done none::env) Ts (done::P) m S) {c:Nat} (hc:S.cur=some c) (hdf: ∀ d,df=some d->PT ls env s d) (hl:LC ls D (Vq df)) (hm:m+16*UK df+8<=40000):
  ∃ S',RK (env.map DF.t) done (df.map Tz.lr) S=some S'/\Rs ls (Vq df++D) env Ts P (m+16*UK df+8) S'/\S'.cur=some done:=by
 cases df with
 |none=>
  have hnd:done∉P/\P.Nodup:=ZS.1 H.w.nd;obtain⟨S1,e1,H1,c1,_⟩:=H.jump hc (H.pt (d:=done) (by simp));refine⟨S1.at done,by simp[RK,e1],?_,rfl⟩;exact((H1.at (d:=done) (P':=P) (by simp) (by intro p hp;simp[hp]) hnd.2 hnd.1).pop (env':=env) (fun f hf=>Z2 _ hf)).le (by omega)
 |some d=>
  obtain⟨S2,S3,e2,e3,H3⟩:=Dg H hc (hdf d rfl) hl hm;exact⟨S3.at done,by simp only[RK,Y7,e2,Zh,e3],H3,rfl⟩
theorem zh {s:ByteArray} {done:Nat} {df:Option Tz} (H:Rs ls D (Uz s done none::env) Ts (done::P) m S) {c:Nat} (hc:S.cur=some c) (hdf: ∀ d,df=some d->PT ls env s d) (hl:LC ls D (Vq df)) (hm:m+16*UK df+8<=40000):
  ∃ S',UE (env.map DF.t) done (df.map Tz.lr) S=some S'/\Rs ls (Vq df++D) env Ts P (m+16*UK df+8) S'/\S'.cur=some done:=by
 cases df with
 |none=>
  have hnd:done∉P/\P.Nodup:=ZS.1 H.w.nd;refine⟨S.at done,rfl,?_,rfl⟩;exact((H.at (d:=done) (P':=P) (by simp) (by intro p hp;simp[hp]) hnd.2 hnd.1).pop (env':=env) (fun f hf=>Z2 _ hf)).le (by omega)
 |some d=>
  obtain⟨S2,S3,e2,e3,H3⟩:=Dg H hc (hdf d rfl) hl hm;exact⟨S3.at done,by simp only[UE,Y7,e2,Zh,e3],H3,rfl⟩
theorem sW: ∀ c:T,c.All (K6 ls)-> ∀ (D:List ByteArray) (env:List DF) (Ts P:List Nat) (m:Nat) (S:BS) (n i:Nat) (s:ByteArray) (done:Nat) (df:Option Tz),
  Rs ls D (Uz s done none::env) Ts (done::P) m S->(∃ c0,S.cur=some c0)->c.ok->c.Xv false->c.VN ls (⟨s,false⟩::env.map DF.s) false->(∀ d,df=some d->PT ls env s d)->
  c.YV+df.toList.length<=1->LC ls D (c.labels++Vq df)->m+16*(c.wt+UK df)+8<=40000->n+c.lv false<=39000->i+c.it<=40000->
  ∃ S',c.YO.ty n i (env.map DF.t) done (df.map Tz.lr) S=some S'/\Rs ls (Vq df++(c.labels++D)) env Ts P (m+16*(c.wt+UK df)+8) S'/\S'.cur=some done:=by
 intro c
 induction c with
 |nil=>
  intro _ D env Ts P m S n i s done df H ⟨c0,hc⟩ _ _ _ hdf _ hl hm _ _;obtain⟨S',e1,H1,c1⟩:=sX H hc hdf (by simpa [T.labels]using hl) (by simp[T.wt]at hm;omega);exact⟨S',e1,by simpa [T.labels,T.wt]using H1,c1⟩
 |st h b e c tl=>intro _ D env Ts P m S n i s done df H _ _ hs;exact absurd hs.1 (by simp)
 |cl x b tl _ ih=>
  intro⟨hQ,hall⟩ D env Ts P m S n i s done df H ⟨c0,hc⟩ ⟨hx0,hx3,bo,to⟩ ⟨_,bs,ts⟩ ⟨hbb,htb⟩ hdf hpl hl hm hn hi;have Uy:=hQ bs;simp only[T.wt]at hm;simp only[T.lv,Zw,if_false,YR]at hn;simp only[T.it]at hi;simp only[T.labels,ZI]at hl;simp only[Bool.false_and]at hbb;have hnd:=ZS.1 H.w.nd;simp only[T.YO];by_cases hx:x<=0
  .rw[if_pos hx];have hx':x=0:=by omega
   have hdn:df=none:=by
    cases df with
    |none=>rfl
    |some d=>simp[T.YV,hx']at hpl
   subst hdn
   obtain⟨S',e3,H3,c3⟩:=ih hall D env Ts P m S (n+b.lv false) (i+1+b.it) s done (some ⟨b,n,i+1,0,0⟩) H ⟨c0,hc⟩ to ts htb
    (fun d hd=>by cases hd;exact⟨Uy,bo,hbb,by show n+b.lv false<=39000;omega,by show i+1+b.it<=40000;omega⟩) (by simp[T.YV,hx']at hpl ⊢;omega) (by simp only[Vq,Y9]at hl ⊢;exact hl.comm) (by simp only[UK]at hm ⊢;omega) (by omega) (by omega)
   refine⟨S',e3,?_,c3⟩;refine(H3.le (by simp only[UK,T.wt];omega)).perm ?_;intro z;simp[Vq,T.labels]
  .rw[if_neg hx];obtain⟨S1,e1,H1,c1,q1,_⟩:=H.newC (by omega) hc (k:=17) (o:=some (ip i)) (by decide) (XK (by omega));have hnb:S.Z6.length∉done::P:=fun hp=>by have:=H.lt hp;omega
   have Di:=H1.watch (d:=S.Z6.length) (by simp);obtain⟨S3,e3,H3,hl3,hr⟩:=K7 (body:=S.Z6.length) (p:=ip i) (XK (by omega)) x.toNat (m+1) S1 c0 Di c1 (by simp) (by omega);have hrr: ∃ c' kq,S3.cur=some c'/\S1.Z6.length<=c'/\c' < S3.Z6.length/\S3.Z6[c']? =some kq/\kq.fresh/\kq.kind≠1/\kq.kind≠10:=by
    rcases hr with⟨h0,_⟩ |h0
    .omega
    .exact h0
   obtain⟨c',kq,c3,td,sZ,hkq,Dh,hk1,hk10⟩:=hrr;have I8:c'∉S.Z6.length::done::P:=fun hp=>by have:=H1.lt hp;omega
   have H4:=H3.swap (d:=S.Z6.length) (P':=c'::done::P) c3 hkq Dh hk1 hk10 (by simp) (by
    intro p hp;rcases ZO.1 hp with rfl|hp
    .simp
    .exact Z2 _ (Z2 _ hp)) (ZS.2 ⟨fun hp=>I8 (Z2 _ hp),H.w.nd⟩) (by
    intro hp;rcases ZO.1 hp with h|hp
    .exact I8 (by simp[h])
    .exact hnb hp)
   obtain⟨l1,l2⟩:=LC.app (a:=b.labels) (b:=tl.labels++Vq df) hl;obtain⟨S4,S5,e4,e5,H5,c5⟩:=Rq Uy H4 rfl (Xw:=none) (by intro d hd;cases hd) bo hbb (by simp) l1 (by simp) (by omega) n (i+1) (by omega) (by omega);have H6:=H5.at (d:=c') (P':=done::P) (by simp) (by intro p hp;exact Z2 _ hp) H.w.nd (fun hp=>I8 (Z2 _ hp));obtain⟨S',e6,H7,c7⟩:=ih hall _ env _ P _ (S5.at c') (n+b.lv false) (i+1+b.it) s done df H6 ⟨c',rfl⟩ to ts htb hdf (by simp[T.YV]at hpl ⊢;omega) l2 (by omega) (by omega) (by omega);refine⟨S',?_,?_,c7⟩
   .simp only[e1,e3,Zh,e4,e5,c3];exact e6
   .refine((H7.less (Dn:=Ts) (P':=P) (by intro d hd;simp[hd]) (fun _ h=>h) hnd.2).le (by simp only[T.wt];omega)).perm ?_;intro z;simp[T.labels];constructor
    .intro h;rcases h with h|h|h|h<;>simp[h]
    .intro h;rcases h with h|h|h|h<;>simp[h]
theorem zg: ∀ c:T,c.All (K6 ls)-> ∀ (D:List ByteArray) (env:List DF) (Ts P:List Nat) (m m0:Nat) (S:BS) (n i:Nat) (s:ByteArray) (done:Nat) (df:Option Tz),
  Rs ls D (Uz s done none::env) Ts (done::P) m S->(∃ c0,S.cur=some c0)->c.ok->c.Xv false->c.VN ls (⟨s,false⟩::env.map DF.s) false->(∀ d,df=some d->PT ls env s d)->
  c.YV+df.toList.length<=1->LC ls D (c.labels++Vq df)->m+16*(c.wt+UK df)+8<=m0+c.len->m0<=40000->n+c.lv false<=39000->i+c.it<=40000->
  ∃ S',c.YO.sel n i (env.map DF.t) done (df.map Tz.lr) S=some S'/\Rs ls (Vq df++(c.labels++D)) env Ts P m0 S'/\S'.cur=some done:=by
 intro c
 induction c with
 |nil=>
  intro _ D env Ts P m m0 S n i s done df H ⟨c0,hc⟩ _ _ _ hdf _ hl hm hm0 _ _;obtain⟨S',e1,H1,c1⟩:=zh H hc hdf (by simpa [T.labels]using hl) (by simp[T.wt,T.len]at hm;omega);exact⟨S',e1,by simpa [T.labels]using H1.le (by simp[T.wt,T.len]at hm;omega),c1⟩
 |st h b e c tl=>intro _ D env Ts P m m0 S n i s done df H _ _ hs;exact absurd hs.1 (by simp)
 |cl x b tl _ ih=>
  intro⟨hQ,hall⟩ D env Ts P m m0 S n i s done df H ⟨c0,hc⟩ ⟨hx0,hx3,bo,to⟩ ⟨_,bs,ts⟩ ⟨hbb,htb⟩ hdf hpl hl hm hm0 hn hi;have Uy:=hQ bs;simp only[T.wt,T.len]at hm;simp only[T.lv,Zw,if_false,YR]at hn;simp only[T.it]at hi;simp only[T.labels,ZI]at hl;simp only[Bool.false_and]at hbb;have hnd:=ZS.1 H.w.nd;have hlt:=T.QK tl;simp only[T.YO];by_cases hx:x<=0
  .rw[if_pos hx];have hx':x=0:=by omega
   have hdn:df=none:=by
    cases df with
    |none=>rfl
    |some d=>simp[T.YV,hx']at hpl
   subst hdn
   obtain⟨S',e3,H3,c3⟩:=ih hall D env Ts P m m0 S (n+b.lv false) (i+1+b.it) s done (some ⟨b,n,i+1,0,0⟩) H ⟨c0,hc⟩ to ts htb
    (fun d hd=>by cases hd;exact⟨Uy,bo,hbb,by show n+b.lv false<=39000;omega,by show i+1+b.it<=40000;omega⟩) (by simp[T.YV,hx']at hpl ⊢;omega) (by simp only[Vq,Y9]at hl ⊢;exact hl.comm) (by simp only[UK]at hm ⊢;omega) hm0 (by omega) (by omega)
   refine⟨S',e3,?_,c3⟩;refine H3.perm ?_;intro z;simp[Vq,T.labels]
  .rw[if_neg hx];obtain⟨S1,e1,H1,c1,q1,_⟩:=H.newC (by omega) hc (k:=14) (o:=some (ip i)) (by decide) (XK (by omega));obtain⟨S2,e2,H2,c2,q2,_⟩:=H1.newC (by omega) c1 (k:=16) (o:=some (ip i)) (by decide) (XK (by omega));have hnb:S.Z6.length∉done::P:=fun hp=>by have:=H.lt hp;omega
   have hnc:S1.Z6.length∉done::P:=fun hp=>by have:=H.lt hp;omega
   obtain⟨S3,e3,H3,c3,q3,_⟩:=H2.ifs c2 (t:=S.Z6.length) (t2:=S1.Z6.length) (H2.pt (by simp)) (H2.pt (by simp));have H4:=H3.at (d:=S.Z6.length) (P':=S1.Z6.length::done::P) (by simp) (by intro p hp;simp at hp ⊢;rcases hp with h|h|h<;>simp[h]) (ZS.2 ⟨hnc,H.w.nd⟩) (by
    intro hp;rcases ZO.1 hp with h|hp
    .omega
    .exact hnb hp)
   obtain⟨l1,l2⟩:=LC.app (a:=b.labels) (b:=tl.labels++Vq df) hl;obtain⟨S4,S5,e4,e5,H5,c5⟩:=Rq Uy H4 rfl (Xw:=none) (by intro d hd;cases hd) bo hbb (by simp) l1 (by simp) (by omega) n (i+1) (by omega) (by omega);have H6:=H5.at (d:=S1.Z6.length) (P':=done::P) (by simp) (by intro p hp;exact Z2 _ hp) H.w.nd hnc;obtain⟨S',e6,H7,c7⟩:=ih hall _ env _ P _ m0 (S5.at S1.Z6.length) (n+b.lv false) (i+1+b.it) s done df H6 ⟨_,rfl⟩ to ts htb hdf (by simp[T.YV]at hpl ⊢;omega) l2 (by omega) hm0 (by omega) (by omega);refine⟨S',?_,?_,c7⟩
   .simp only[e1,e2,e3,Zh,e4,e5];exact e6
   .refine((H7.less (Dn:=Ts) (P':=P) (by intro d hd;simp[hd]) (fun _ h=>h) hnd.2)).perm ?_;intro z;simp[T.labels];constructor
    .intro h;rcases h with h|h|h|h<;>simp[h]
    .intro h;rcases h with h|h|h|h<;>simp[h]
theorem K4: ∀ c:T,∀ (m:Nat) (S:BS) (c0:Nat),Rs ls D env Ts P m S->S.cur=some c0->c.Xv false->m+c.len<=40000-> ∃ S',c.YO.comms S=some S'/\Rs ls D env Ts P (m+c.len) S'/\S'.cur=some c0/\S'.ZT=S.ZT:=by
 intro c
 induction c with
 |nil=>intro m S c0 H hc _ _;exact⟨S,rfl,H,hc,rfl⟩
 |st h b e c tl=>intro m S c0 H hc hs;exact absurd hs.1 (by simp)
 |cl x b tl _ ih=>
  intro m S c0 H hc ⟨_,_,ts⟩ hm;simp only[T.len]at hm;simp only[T.YO];by_cases hx:0 < x
  .rw[if_pos hx];obtain⟨S1,e1,H1,c1,q1,r1⟩:=H.add (by omega) hc ⟨0,false⟩ Fw;obtain⟨S',e2,H2,c2,r2⟩:=ih (m+1) S1 c0 H1 c1 ts (by omega);exact⟨S',by simp[e1,e2],H2.le (by simp only[T.len];omega),c2,by rw[r2,r1]⟩
  .rw[if_neg hx];obtain⟨S',e2,H2,c2,r2⟩:=ih m S c0 H hc ts (by omega);exact⟨S',e2,H2.le (by simp only[T.len];omega),c2,r2⟩
end
section
variable {ls D:List ByteArray} {env:List DF} {Ts P:List Nat} {m:Nat} {S S':BS}
theorem Vi {h:Hd} (hk:h.kind≠11/\h.kind≠12/\h.kind≠13/\h.kind≠14/\h.kind≠15):h.frame= []:=by
 unfold Hd.frame;rw[if_neg (by omega),if_neg (by omega)]
theorem Pv {s:ByteArray} (H:Rs ls D env Ts P m S) {c:Nat} (hc:S.cur=some c) {lab:Option Nat} (hlab:Xy D S env s lab) {k:Int} (hk:1 < k/\k<=19/\k≠10) {o:Option Int} (ho:OB o) (hm:m+2<=40000):
  ∃ S1,S.newP k o=some S1/\Rs ls D (Uz s S.Z6.length none::env) (S.Z6.length::Ts) (S.Z6.length::P) (m+1) (S1.XG lab S.Z6.length)/\(S1.XG lab S.Z6.length).cur=some c:=by
 obtain⟨S1,e1,H1,c1,q1,r1⟩:=H.newC (by omega) hc (k:=k) (o:=o) hk ho;obtain⟨H2,c2,b2,l2⟩:=H1.brk (hlab.same r1) S.Z6.length;refine⟨S1,e1,?_,by rw[c2,c1]⟩;exact(H2.push (f:=Uz s S.Z6.length none) (d:=S.Z6.length) rfl (H2.pt (by simp)) (fun h=>by cases h) (fun _=>rfl) (fun e he=>by cases he) l2).watch (by simp)
theorem Pu {h:Hd} {b e c:T} (hb:FL ls b) (he:FL ls e) (hc:c.All (K6 ls)) (hf:Fm h b e c) (bo:b.ok) (eo:e.ok) (co:c.ok) (cs:c.Xv false) (H:Rs ls D env Ts P m S) {c0:Nat} (hcur:S.cur=some c0) {lab:Option Nat} (hlab:Xy D S env h.label lab)
  {fl:Bool} {tl:T} (hbr:(T.st h b e c tl).VN ls (env.map DF.s) fl) (hfl:fl=true-> ∃ f fs d,env=f::fs/\f.t.Xw=some d) (hl:LC ls D (b.labels++(e.labels++c.labels))) (hm':m+14+16*(b.wt+e.wt+c.wt)<=40000) (n i:Nat) (hn:n+h.own+b.lv false+e.lv false+c.lv (h.kind==13)<=39000) (hi:i+1+b.it+e.it+c.it<=40000):
  ∃ S',Yi h n i lab (env.map DF.t) (b.YO.list (n+h.own) (i+1)) (e.YO.list (n+h.own+b.lv false) (i+1+b.it)) (fun done=>c.YO.sw (n+h.own+b.lv false+e.lv false) (i+1+b.it+e.it) (env.map DF.t) done none none)
   (fun done=>c.YO.ty (n+h.own+b.lv false+e.lv false) (i+1+b.it+e.it) (env.map DF.t) done none) (fun done=>c.YO.sel (n+h.own+b.lv false+e.lv false) (i+1+b.it+e.it) (env.map DF.t) done none) c.YO.comms S=some S'/\
   Rs ls (b.labels++(e.labels++(c.labels++D))) env Ts P (m+14+16*(b.wt+e.wt+c.wt)) S'/\ ∃ c,S'.cur=some c:=by
 obtain⟨b17,b18,b19,b20,bb,be,bc,_⟩:=hbr;have hkr:=hf.k;unfold Yi;have K3:h.kind≠10->h.kind≠11->h.kind≠12->h.kind≠13->h.kind≠14->h.kind≠15->h.kind≠16->b=.nil/\e=.nil/\c=.nil:=by
  intro h1 h2 h3 h4 h5 h6 h7;refine⟨hf.nb h1 h2 h3 h7,hf.ne ?_,hf.nc h4 h5 h6⟩;cases he:h.ZV with
  |false=>rfl
  |true=>exact absurd (hf.els he) h1
 have GM:h.kind≠10->e=.nil:=fun h1=>hf.ne (by
  cases he:h.ZV with
  |false=>rfl
  |true=>exact absurd (hf.els he) h1)
 have fin: ∀ S',Rs ls D env Ts P (m+14) S'->b=.nil->e=.nil->c=.nil->Rs ls (b.labels++(e.labels++(c.labels++D))) env Ts P (m+14+16*(b.wt+e.wt+c.wt)) S':=by
  rintro S' H' rfl rfl rfl;exact H'.le (by simp[T.wt])
 by_cases h1:h.kind=1
 .rw[if_pos h1];obtain⟨rfl,rfl,rfl⟩:=K3 (by omega) (by omega) (by omega) (by omega) (by omega) (by omega) (by omega);obtain⟨S1,e1,H1,c1,_⟩:=H.add (by omega) hcur ⟨lp n,false⟩ (Vk (by omega));obtain⟨S2,e2,H2,c2,_⟩:=H1.ask (by omega) (n:=n) (by omega);exact⟨S2,by simp[e1,e2],fin _ (H2.le (by omega)) rfl rfl rfl,_,by rw[c2,c1]⟩
 rw[if_neg h1];by_cases h2:h.kind=2
 .rw[if_pos h2];obtain⟨rfl,rfl,rfl⟩:=K3 (by omega) (by omega) (by omega) (by omega) (by omega) (by omega) (by omega);obtain⟨S1,e1,H1,c1,_⟩:=H.add (by omega) hcur ⟨lp n,false⟩ (Vk (by omega));obtain⟨S2,e2,H2,c2,_⟩:=H1.ask (by omega) (n:=n) (by omega);obtain⟨S3,e3,H3,c3⟩:=H2.newAt (by omega) (o:=some (lp n)) (lA (by omega));exact⟨S3,by simp[e1,e2,e3],fin _ (H3.le (by omega)) rfl rfl rfl,_,c3⟩
 rw[if_neg h2];by_cases h7:h.kind=7
 .rw[if_pos h7];obtain⟨rfl,rfl,rfl⟩:=K3 (by omega) (by omega) (by omega) (by omega) (by omega) (by omega) (by omega);obtain⟨S1,e1,H1,c1,_⟩:=H.add (by omega) hcur ⟨lp n,false⟩ (Vk (by omega));obtain⟨S2,e2,H2,c2,_⟩:=H1.ret c1;exact⟨S2,by simp[e1,e2],fin _ (H2.le (by omega)) rfl rfl rfl,_,c2⟩
 rw[if_neg h7];by_cases h9:h.kind=9
 .rw[if_pos h9];obtain⟨rfl,rfl,rfl⟩:=K3 (by omega) (by omega) (by omega) (by omega) (by omega) (by omega) (by omega);obtain⟨S1,e1,H1,c1,_⟩:=H.ret hcur;obtain⟨S2,e2,H2,c2,_⟩:=H1.add (by omega) c1 ⟨lp n,true⟩ (Vk (by omega));obtain⟨S3,e3,H3,c3⟩:=H2.newAt (by omega) (o:=some (lp n)) (lA (by omega));exact⟨S3,by simp[e1,e2,e3],fin _ (H3.le (by omega)) rfl rfl rfl,_,c3⟩
 rw[if_neg h9];by_cases h8:h.kind<=8
 .rw[if_pos h8];obtain⟨rfl,rfl,rfl⟩:=K3 (by omega) (by omega) (by omega) (by omega) (by omega) (by omega) (by omega);obtain⟨S1,e1,H1,c1,_⟩:=H.add (by omega) hcur ⟨lp n,false⟩ (Vk (by omega));exact⟨S1,e1,fin _ (H1.le (by omega)) rfl rfl rfl,_,c1⟩
 rw[if_neg h8];by_cases h10:h.kind=10
 .rw[if_pos h10];have hcn:=hf.nc (by omega) (by omega) (by omega);subst hcn;have hfr:=Vi (h:=h) (by omega);rw[hfr]at bb be;obtain⟨S',e1,H1,hc1⟩:=zm hb he H hcur bo eo bb be (by simpa [T.labels]using hl) hf.ne (by simp[T.wt]at hm';omega) n i (n+h.own) (n+h.own+b.lv false) (i+1) (i+1+b.it) (by omega) (by omega) (by omega) (by omega) (by omega) (by omega);refine⟨S',e1,(H1.le (by simp[T.wt])).perm ?_,hc1⟩;intro z;simp[T.labels];constructor
  .intro h;rcases h with h|h|h<;>simp[h]
  .intro h;rcases h with h|h|h<;>simp[h]
 rw[if_neg h10];have hen:=GM h10;subst hen;by_cases h11:h.kind=11
 .rw[if_pos h11];have hcn:=hf.nc (by omega) (by omega) (by omega);subst hcn;have hfr:h.frame= [⟨h.label,true⟩]:=by unfold Hd.frame;rw[if_pos (by omega)]
  rw[hfr]at bb;obtain⟨S',e1,H1,hc1⟩:=tC hb H hcur hlab bo bb (by simpa [T.labels]using hl) (by simp[T.wt]at hm';omega) n i (n+h.own) (i+1) (by omega) (by omega) (by omega) (by omega);exact⟨S',e1,(H1.le (by simp[T.wt])).perm (by intro z;simp[T.labels]),hc1⟩
 rw[if_neg h11];by_cases h12:h.kind=12
 .rw[if_pos h12];have hcn:=hf.nc (by omega) (by omega) (by omega);subst hcn;have hfr:h.frame= [⟨h.label,true⟩]:=by unfold Hd.frame;rw[if_pos (by omega)]
  rw[hfr]at bb;obtain⟨S',e1,H1,hc1⟩:=Dj hb H hcur hlab bo bb (by simpa [T.labels]using hl) (by simp[T.wt]at hm';omega) n i (n+h.own) (i+1) (by omega) (by omega) (by omega) (by omega);exact⟨S',e1,(H1.le (by simp[T.wt])).perm (by intro z;simp[T.labels]),hc1⟩
 rw[if_neg h12];by_cases h13:h.kind=13
 .rw[if_pos h13];have hbn:=hf.nb (by omega) (by omega) (by omega) (by omega);subst hbn;have hfr:h.frame= [⟨h.label,false⟩]:=by unfold Hd.frame;rw[if_neg (by omega),if_pos (by omega)]
  rw[hfr,show(h.kind==13)=true by simp[h13]]at bc;rw[show(h.kind==13)=true by simp[h13]]at hn;simp only[T.wt]at hm';obtain⟨S1,e1,H1,c1,q1,r1⟩:=H.maybe (by omega) hcur h.init n (by omega);obtain⟨S2,e2,H2,c2,q2,r2⟩:=H1.maybe (by omega) c1 h.cond (n+h.init.toNat) (by have:=ZG h.init;omega);obtain⟨S3,e3,H3,c3⟩:=Pv H2 c2 (hlab.same (by rw[r2,r1])) (k:=18) (o:=some (ip i)) (by decide) (XK (by omega)) (by omega);obtain⟨S',e4,H4,c4⟩:=tj c hc D env (S2.Z6.length::Ts) P (m+4) _ (n+h.own+T.lv false .nil+T.lv false .nil) (i+1+T.nil.it+T.nil.it) h.label S2.Z6.length none none (by simpa [Wj]using H3.le (by omega)) ⟨_,c3⟩ co cs bc (by simp) (by simp) (by have:=hf.pl;simp[Wj];omega) (by simpa [T.labels,Vq]using hl) (by simp only[UK];omega) (by omega) (by simp only[T.it]at hi ⊢;omega);refine⟨S',?_,?_,_,c4⟩
  .unfold TF;simp only[e1,e2,e3,Zh];exact e4
  .exact((H4.less (Dn:=Ts) (P':=P) (by intro d hd;simp[hd]) (fun _ h=>h) H.w.nd).le (by simp only[UK,T.wt];omega)).perm (by intro z;simp[T.labels,Vq])
 rw[if_neg h13];by_cases JK:h.kind=14
 .rw[if_pos JK];have hbn:=hf.nb (by omega) (by omega) (by omega) (by omega);subst hbn;have hfr:h.frame= [⟨h.label,false⟩]:=by unfold Hd.frame;rw[if_neg (by omega),if_pos (by omega)]
  rw[hfr,show(h.kind==13)=false by simp[JK]]at bc;rw[show(h.kind==13)=false by simp[JK]]at hn;simp only[T.wt]at hm';obtain⟨S1,e1,H1,c1,q1,r1⟩:=H.maybe (by omega) hcur h.init n (by omega);obtain⟨S2,e2,H2,c2,q2,r2⟩:=H1.add (by omega) c1 ⟨0,false⟩ Fw;obtain⟨S3,e3,H3,c3⟩:=Pv H2 c2 (hlab.same (by rw[r2,r1])) (k:=18) (o:=some (ip i)) (by decide) (XK (by omega)) (by omega);obtain⟨S',e4,H4,c4⟩:=sW c hc D env (S2.Z6.length::Ts) P (m+4) _ (n+h.own+T.lv false .nil+T.lv false .nil) (i+1+T.nil.it+T.nil.it) h.label S2.Z6.length none (H3.le (by omega)) ⟨_,c3⟩ co cs bc (by simp) (by have:=hf.pl;simp;omega) (by simpa [T.labels,Vq]using hl) (by simp only[UK];omega) (by omega) (by simp only[T.it]at hi ⊢;omega);refine⟨S',?_,?_,_,c4⟩
  .unfold QQ;simp only[e1,e2,e3,Zh];exact e4
  .exact((H4.less (Dn:=Ts) (P':=P) (by intro d hd;simp[hd]) (fun _ h=>h) H.w.nd).le (by simp only[UK,T.wt];omega)).perm (by intro z;simp[T.labels,Vq])
 rw[if_neg JK];by_cases h15:h.kind=15
 .rw[if_pos h15];have hbn:=hf.nb (by omega) (by omega) (by omega) (by omega);subst hbn;have hfr:h.frame= [⟨h.label,false⟩]:=by unfold Hd.frame;rw[if_neg (by omega),if_pos (by omega)]
  rw[hfr,show(h.kind==13)=false by simp[h15]]at bc;rw[show(h.kind==13)=false by simp[h15]]at hn;simp only[T.wt]at hm';have lw:=T.QK c;obtain⟨S2,e2,H2,c2,r2⟩:=K4 c m S c0 H hcur cs (by omega);obtain⟨S3,e3,H3,c3⟩:=Pv H2 c2 (hlab.same r2) (k:=15) (o:=some (ip i)) (by decide) (XK (by omega)) (by omega);obtain⟨S',e4,H4,c4⟩:=zg c hc D env (S2.Z6.length::Ts) P (m+c.len+1) (m+14+16*c.wt) _ (n+h.own+T.lv false .nil+T.lv false .nil) (i+1+T.nil.it+T.nil.it) h.label S2.Z6.length none (H3.le (by omega)) ⟨_,c3⟩ co cs bc (by simp) (by have:=hf.pl;simp;omega) (by simpa [T.labels,Vq]using hl) (by simp only[UK];omega) (by omega) (by omega) (by simp only[T.it]at hi ⊢;omega);refine⟨S',?_,?_,_,c4⟩
  .unfold TE;simp only[e2,e3,Zh];exact e4
  .exact((H4.less (Dn:=Ts) (P':=P) (by intro d hd;simp[hd]) (fun _ h=>h) H.w.nd).le (by simp only[T.wt];omega)).perm (by intro z;simp[T.labels,Vq])
 rw[if_neg h15];have hcn:=hf.nc h13 JK h15;subst hcn;have hfr:=Vi (h:=h) (by omega);rw[hfr]at bb;by_cases h16:h.kind=16
 .rw[if_pos h16];obtain⟨S',e1,H1,hc1⟩:=hb D env Ts P m S (n+h.own) (i+1) false H ⟨c0,hcur⟩ bo bb (by simp) (by simpa [T.labels]using hl) (by simp[T.wt]at hm';omega) (by omega) (by omega);exact⟨S',e1,(H1.le (by simp[T.wt])).perm (by intro z;simp[T.labels]),hc1⟩
 rw[if_neg h16];have hbn:=hf.nb h10 h11 h12 h16;subst hbn;by_cases h21:h.kind=21
 .rw[if_pos h21];obtain⟨S1,e1,H1,c1,_⟩:=H.add (by omega) hcur ⟨0,false⟩ Fw;exact⟨S1,e1,fin _ (H1.le (by omega)) rfl rfl rfl,_,c1⟩
 rw[if_neg h21]
 obtain⟨S1,e1,H1,hc1⟩:=Fv (k:=h.kind) (target:=h.target) H hcur (by omega) (by omega)
  (fun hk=>let⟨f,hf1,hf2⟩:=b17 hk;let⟨g,hg1,hg2⟩:=Y2.1 hf1;⟨g,hg1,by rw[hg2];exact hf2⟩)
  (fun hk=>let⟨f,hf1,hf2⟩:=b18 hk;let⟨g,hg1,hg2⟩:=Y2.1 hf1;⟨g,hg1,by rw[hg2];exact hf2⟩)
  (fun hk=>⟨b19 hk,hf.gt hk⟩)
  (fun hk=>⟨by
   rcases ZA h.target.size with h0|h0
   .exact h0
   .have:=hf.tg h0;omega,hfl (b20 hk).1⟩)
 exact⟨S1,e1,fin _ (H1.le (by omega)) rfl rfl rfl,hc1⟩
theorem GK {h:Hd} {b e c tl:T} {n i:Nat} {tg:List Tg} {S:BS} :(T.st h b e c tl).YO.list n i tg S=
  (ML h.label (fun lab=>Yi h n i lab tg (b.YO.list (n+h.own) (i+1)) (e.YO.list (n+h.own+b.lv false) (i+1+b.it))
    (fun done=>c.YO.sw (n+h.own+b.lv false+e.lv false) (i+1+b.it+e.it) tg done none none) (fun done=>c.YO.ty (n+h.own+b.lv false+e.lv false) (i+1+b.it+e.it) tg done none)
    (fun done=>c.YO.sel (n+h.own+b.lv false+e.lv false) (i+1+b.it+e.it) tg done none) c.YO.comms) S).bind fun S1=>
   tl.YO.list (n+h.own+b.lv false+e.lv false+c.lv (h.kind==13)) (i+1+b.it+e.it+c.it) tg S1:=rfl
theorem K1: ∀ t:T,t.All (K6 ls)->K6 ls t:=by
 intro t
 induction t with
 |nil=>
  intro _ _ D env Ts P m S n i fl H hc _ _ _ _ _ _ _;exact⟨S,rfl,by simpa [T.labels,T.wt]using H,hc⟩
 |cl x b tl=>intro _ hs;exact absurd hs.1 (by simp)
 |st h b e c tl _ _ _ ih=>
  intro⟨q1,q2,q3,q4⟩ ⟨_,s1,s2,s3,s4⟩ D env Ts P m S n i fl H ⟨c0,hc⟩ ⟨p0,p1,p2,p3,p4⟩ hbr hfl hl hm hn hi;have htl:=ih q4 s4;simp only[T.wt]at hm;simp only[T.lv]at hn;simp only[T.it]at hi;obtain⟨l0,l1⟩:=LC.app (a:=if h.label.size=0 then []else [h.label]) (b:=b.labels++(e.labels++(c.labels++tl.labels))) (by simpa [T.labels]using hl);rw[show b.labels++(e.labels++(c.labels++tl.labels))=(b.labels++(e.labels++c.labels))++tl.labels by simp]at l1;obtain⟨l2,l3⟩:=l1.app
  have key: ∃ S1,ML h.label (fun lab=>Yi h n i lab (env.map DF.t) (b.YO.list (n+h.own) (i+1)) (e.YO.list (n+h.own+b.lv false) (i+1+b.it))
    (fun done=>c.YO.sw (n+h.own+b.lv false+e.lv false) (i+1+b.it+e.it) (env.map DF.t) done none none) (fun done=>c.YO.ty (n+h.own+b.lv false+e.lv false) (i+1+b.it+e.it) (env.map DF.t) done none)
    (fun done=>c.YO.sel (n+h.own+b.lv false+e.lv false) (i+1+b.it+e.it) (env.map DF.t) done none) c.YO.comms) S=some S1/\
    Rs ls ((b.labels++(e.labels++c.labels))++((if h.label.size=0 then []else [h.label])++D)) env Ts P (m+16+16*(b.wt+e.wt+c.wt)) S1/\ ∃ c,S1.cur=some c:=by
   unfold ML;by_cases hz:h.label.size=0
   .rw[if_pos hz];rw[if_pos hz]at l2;obtain⟨S1,e1,H1,hc1⟩:=Pu (q1 s1) (q2 s2) q3 p0 p1 p2 p3 s3 H hc (lab:=none) (.inl ⟨rfl,hz⟩) hbr hfl l2 (by omega) n i (by omega) (by omega);exact⟨S1,e1,(H1.le (by omega)).perm (by intro z;simp[hz]),hc1⟩
   .rw[if_neg hz];rw[if_neg hz]at l0 l2;obtain⟨r,y,S2,f1,f2,f3,H2,f4,f5,f6,f7⟩:=H.label (by omega) (s:=h.label) (l0.1 _ (by simp)).1 (l0.1 _ (by simp)).2 hc;obtain⟨S1,e1,H1,hc1⟩:=Pu (q1 s1) (q2 s2) q3 p0 p1 p2 p3 s3 H2 rfl (lab:=some r.1) (.inr ⟨r.1,y,rfl,f4,f5,by omega,by simp,f6,f7,fun f hf he=>by
     have h0:=(H.env.lab f hf (by rw[he];omega)).1;rw[he]at h0;exact(l0.1 _ (by simp)).2 h0⟩) hbr hfl (l2.congr (by intro s hs;simpa using hs)) (by omega) n i (by omega) (by omega)
    refine⟨S1,by simp only[f1,Zh,f2,f3,e1],(H1.le (by omega)).perm (by intro z;simp[hz]),hc1⟩
  obtain⟨S1,e1,H1,hc1⟩:=key;obtain⟨S2,e2,H2,hc2⟩:=htl _ env Ts P _ S1 (n+h.own+b.lv false+e.lv false+c.lv (h.kind==13)) (i+1+b.it+e.it+c.it) fl H1 hc1 p4 hbr.2.2.2.2.2.2.2 hfl l3 (by omega) (by omega) (by omega);refine⟨S2,by rw[GK,e1];exact e2,(H2.le (by simp only[T.wt];omega)).perm ?_,hc2⟩;intro z;by_cases hz:h.label.size=0<;>simp[T.labels,hz]
  .constructor
   .intro h;rcases h with h|h|h|h|h<;>simp[h]
   .intro h;rcases h with h|h|h|h|h<;>simp[h]
  .constructor
   .intro h;rcases h with h|h|h|h|h|h<;>simp[h]
   .intro h;rcases h with h|h|h|h|h|h<;>simp[h]
end
end Go.Proofs.YteedbaejpdjilaaGreat
