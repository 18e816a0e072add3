/- Part of the proof: SemX. -/
import Derived.Test.YteedbaejpdjilaaGreatYQe
set_option linter.all false
set_option maxRecDepth 100000
set_option maxHeartbeats 40000000
namespace Go.Proofs.YteedbaejpdjilaaGreat
open Go.RowKit Tryz
section
variable {ls D:List ByteArray} {env:List DF} {Ts P P':List Nat} {m:Nat} {S S' S1:BS}
def BS.shut (S:BS) (P:List Nat) (i:Nat) (k:Bk):Prop:=S.cur≠some i/\i∉P/\ ∀ (j:Nat) y,S.ZT[j]? =some y->y.2.go=i->k.of≠Option.none
structure Gr where
 Z6:List Bk
 ZT:List (ByteArray × Lb)
 asked:List Int
structure Ext (S:BS) (P:List Nat) (G:Gr):Prop where
 blk: ∀ (i:Nat) k,S.Z6[i]? =some k-> ∃ k',G.Z6[i]? =some k'/\k'.kind=k.kind/\(k.of≠none->k'.of=k.of)/\k.nodes <+:k'.nodes/\(S.shut P i k->k'.nodes=k.nodes/\k'.succs=k.succs)
 lab: ∀ (j:Nat) y,S.ZT[j]? =some y-> ∃ y',G.ZT[j]? =some y'/\y'.1=y.1/\y'.2.go=y.2.go
 ask: ∀ x∈S.asked,x∈G.asked
variable {G:Gr}
theorem Ext.new {k:Int} {o:Option Int} (h:Ext (S.new k o) (S.Z6.length::P) G):Ext S P G:=by
 refine⟨fun i q hi=>?_,h.lab,h.ask⟩;obtain⟨q',h1,h2,h3,h4,h5⟩:=h.blk i q (XS hi);refine⟨q',h1,h2,h3,h4,fun hs=>h5 ⟨hs.1,fun hp=>?_,hs.2.2⟩⟩;rcases ZO.1 hp with rfl|hp
 .have:=ZH hi;omega
 .exact hs.2.1 hp
theorem Ext.newAt {k:Int} {o:Option Int} (h:Ext ((S.new k o).at S.Z6.length) P G):Ext S P G:=by
 refine⟨fun i q hi=>?_,h.lab,h.ask⟩;obtain⟨q',h1,h2,h3,h4,h5⟩:=h.blk i q (XS hi);refine⟨q',h1,h2,h3,h4,fun hs=>h5 ⟨fun e=>?_,hs.2.1,hs.2.2⟩⟩;have e':S.Z6.length=i:=Y0 e;have:=ZH hi;omega
theorem Ext.turn {o:Option Nat} (h:Ext { S with cur:=o } P' G) (ho: ∀ d,o=some d->d∈P\/S.cur=some d) (hP: ∀ p∈P',p∈P\/S.cur=some p):Ext S P G:=by
 refine⟨fun i q hi=>?_,h.lab,h.ask⟩;obtain⟨q',h1,h2,h3,h4,h5⟩:=h.blk i q hi;refine⟨q',h1,h2,h3,h4,fun hs=>h5 ⟨fun e=>?_,fun hp=>?_,hs.2.2⟩⟩
 .exact(ho i e).elim hs.2.1 hs.1
 .exact(hP i hp).elim hs.2.1 hs.1
theorem Ext.at {d:Nat} (h:Ext (S.at d) P' G) (hd:d∈P\/S.cur=some d) (hP: ∀ p∈P',p∈P\/S.cur=some p):Ext S P G:=
 Ext.turn (o:=some d) h (fun e he=>by cases he;exact hd) hP
theorem Ext.less (h:Ext S P' G) (hP: ∀ p∈P',p∈P):Ext S P G:=Ext.turn (o:=S.cur) h (fun _ he=>.inr he) (fun p hp=>.inl (hP p hp))
theorem Ext.upd {c:Nat} {k k':Bk} {o:Option Nat} {rf:List Int} (h:Ext ⟨(S.set c k').Z6,o,S.ZT,rf⟩ P G) (hk:S.Z6[c]? =some k) (hc:S.cur=some c) (h1:k'.kind=k.kind) (h2:k'.of=k.of) (h3:k.nodes <+:k'.nodes) (ho:o=none\/o=S.cur) (ha: ∀ x∈S.asked,x∈rf):Ext S P G:=by
 have hl:=ZH hk;refine⟨fun i q hi=>?_,h.lab,fun x hx=>h.ask x (ha x hx)⟩;by_cases e:i=c
 .subst e;rw[hk]at hi;cases hi;obtain⟨q',g1,g2,g3,g4,_⟩:=h.blk i k' (by show(S.set i k').Z6[i]? =_;rw[YN hl,if_pos rfl]);exact⟨q',g1,g2.trans h1,fun hn=>(g3 (by rw[h2];exact hn)).trans h2,h3.trans g4,fun hs=>absurd hc hs.1⟩
 .obtain⟨q',g1,g2,g3,g4,g5⟩:=h.blk i q (by show(S.set c k').Z6[i]? =_;rw[YN hl,if_neg e];exact hi);refine⟨q',g1,g2,g3,g4,fun hs=>g5 ⟨?_,hs.2.1,hs.2.2⟩⟩;rcases ho with rfl|rfl
  .simp
  .exact hs.1
theorem Ext.Z9E {c:Nat} {k k':Bk} {o:Option Nat} {rf:List Int} (h:Ext ⟨(S.set c k').Z6,o,S.ZT,rf⟩ P G) (hk:S.Z6[c]? =some k): ∃ B,G.Z6[c]? =some B/\B.kind=k'.kind/\(k'.of≠none->B.of=k'.of)/\k'.nodes <+:B.nodes:=by
 obtain⟨q',g1,g2,g3,g4,_⟩:=h.blk c k' (by show(S.set c k').Z6[c]? =_;rw[YN (ZH hk),if_pos rfl]);exact⟨q',g1,g2,g3,g4⟩
theorem Ext.W0 {j:Nat} {g:Lb->Lb} (h:Ext (S.W0 j g) P G) (hg: ∀ x,(g x).go=x.go):Ext S P G:=by
 have key: ∀ (i:Nat) z,S.ZT[i]? =some z-> ∃ z',(S.W0 j g).ZT[i]? =some z'/\z'.1=z.1/\z'.2.go=z.2.go:=by
  intro i z hi;by_cases e:i=j
  .subst e;refine⟨(z.1,g z.2),?_,rfl,hg z.2⟩;show(S.ZT.modify i _)[i]? =_;rw[Y5];simp[hi]
  .exact⟨z,Se hi e,rfl,rfl⟩
 refine⟨fun i q hi=>?_,fun i z hi=>?_,h.ask⟩
 .obtain⟨q',h1,h2,h3,h4,h5⟩:=h.blk i q hi;refine⟨q',h1,h2,h3,h4,fun hs=>h5 ⟨hs.1,hs.2.1,fun j' y hj hy=>?_⟩⟩;rcases VT hj with⟨rfl,x,f1,rfl⟩ |⟨_,f1⟩
  .exact hs.2.2 j' x f1 (by rw[<-hg];exact hy)
  .exact hs.2.2 j' y f1 hy
 .obtain⟨z',g1,g2,g3⟩:=key i z hi;obtain⟨y',g4,g5,g6⟩:=h.lab i z' g1;exact⟨y',g4,g5.trans g2,g6.trans g3⟩
theorem Ext.brk {lab:Option Nat} {d:Nat} (h:Ext (S.XG lab d) P G):Ext S P G:=by
 cases lab with
 |none=>exact h
 |some j=>exact Ext.W0 (g:=fun x=> { x with brk:=some d }) h (fun _=>rfl)
theorem Ext.cnt {lab:Option Nat} {d:Nat} (h:Ext (S.Sl lab d) P G):Ext S P G:=by
 cases lab with
 |none=>exact h
 |some j=>exact Ext.W0 (g:=fun x=> { x with cnt:=some d }) h (fun _=>rfl)
theorem Ext.define {j:Nat} {y:ByteArray × Lb} {k:Bk} {x:Option Int} (h:Ext (S.set y.2.go { k with of:=x }) P G) (hj:S.ZT[j]? =some y) (hk:S.Z6[y.2.go]? =some k) (ho:k.of=none):Ext S P G:=by
 have hl:=ZH hk;refine⟨fun i q hi=>?_,h.lab,h.ask⟩;by_cases e:i=y.2.go
 .subst e;rw[hk]at hi;cases hi;obtain⟨q',g1,g2,g3,g4,_⟩:=h.blk _ { k with of:=x } (by rw[YN hl,if_pos rfl]);exact⟨q',g1,g2,fun hn=>absurd ho hn,g4,fun hs=>absurd ho (hs.2.2 j y hj rfl)⟩
 .obtain⟨q',g1,g2,g3,g4,g5⟩:=h.blk i q (by rw[YN hl,if_neg e];exact hi);exact⟨q',g1,g2,g3,g4,fun hs=>g5 ⟨hs.1,hs.2.1,hs.2.2⟩⟩
theorem Ext.Sf {s:ByteArray} {k:Bk} (h:Ext ⟨S.Z6++ [k],S.cur,S.ZT++ [(s,⟨S.Z6.length,none,none⟩)],S.asked⟩ P G):Ext S P G:=by
 refine⟨fun i q hi=>?_,fun j y hj=>h.lab j y (Wz hj),h.ask⟩;obtain⟨q',h1,h2,h3,h4,h5⟩:=h.blk i q (Wz hi);refine⟨q',h1,h2,h3,h4,fun hs=>h5 ⟨hs.1,hs.2.1,fun j y hj hy=>?_⟩⟩;rcases XX hj with f1|⟨_,rfl⟩
 .exact hs.2.2 j y f1 hy
 .have:=ZH hi;have hy':S.Z6.length=i:=hy;omega
def Gr.ends (G:Gr) (c j:Nat) (ss:List Nat):Prop:= ∃ B,G.Z6[c]? =some B/\B.nodes.length=j/\B.succs=ss
def Gr.node (G:Gr) (c j:Nat) (x:Vt):Prop:= ∃ B,G.Z6[c]? =some B/\B.nodes[j]? =some x
def Gr.kind (G:Gr) (c:Nat) (k:Int) (o:Option Int):Prop:= ∃ B,G.Z6[c]? =some B/\B.kind=k/\B.of=o
def BS.pt (S:BS) (c j:Nat):Prop:=S.cur=some c/\ ∃ k,S.Z6[c]? =some k/\k.nodes.length=j
structure BI (N:Nat->Nat->Vt->Prop) (opn:Prop) (dl df:Vt->Prop) (cur:Prop) (i:Nat) (k:Bk):Prop where
 Ru: ∀ (j:Nat) x,k.nodes[j]? =some x->N i j x
 two:k.succs.length=2->opn\/ ∃ x,k.nodes.getLast? =some x/\dl x
 ret:k.Yz=true->(∃ x∈k.nodes,df x)\/(k.ends=true/\ ¬ cur)
 rt:(∃ x∈k.nodes,x.ret=true)->k.Yz=true
structure Iv (N:Nat->Nat->Vt->Prop) (opn:Prop) (dl df:Vt->Prop) (aq:Int->Prop) (S:BS):Prop where
 blk: ∀ (i:Nat) k,S.Z6[i]? =some k->BI N opn dl df (S.cur=some i) i k
 ask: ∀ x∈S.asked,aq x
variable {N:Nat->Nat->Vt->Prop} {opn:Prop} {dl df:Vt->Prop} {aq:Int->Prop}
theorem BI.fresh {cur:Prop} {i:Nat} {k:Bk} (h:k.fresh):BI N opn dl df cur i k:=by
 obtain⟨h1,h2,h3⟩:=h;exact⟨fun j x hx=>by rw[h1]at hx;simp at hx,fun ht=>by rw[h2]at ht;simp at ht,fun hr=>absurd hr (by rw[h3];simp),fun⟨x,hx,_⟩=>by rw[h1]at hx;simp at hx⟩
theorem BI.cur {cur cur':Prop} {i:Nat} {k:Bk} (h:BI N opn dl df cur i k) (hc:cur'->cur):BI N opn dl df cur' i k:=⟨h.Ru,h.two,fun hr=>(h.ret hr).imp id fun⟨h1,h2⟩=>⟨h1,fun h=>h2 (hc h)⟩,h.rt⟩
theorem Iv.new (h:Iv N opn dl df aq S) {k:Int} {o:Option Int} :Iv N opn dl df aq (S.new k o):=by
 refine⟨fun i q hi=>?_,h.ask⟩;rcases WH hi with h1|⟨rfl,rfl⟩
 .exact h.blk i q h1
 .exact BI.fresh ⟨rfl,rfl,rfl⟩
theorem Iv.turn (h:Iv N opn dl df aq S) {o:Option Nat} (ho: ∀ d,o=some d-> ∃ k,S.Z6[d]? =some k/\k.fresh):Iv N opn dl df aq { S with cur:=o } :=by
 refine⟨fun i q hi=>?_,h.ask⟩;by_cases e:o=some i
 .obtain⟨k,h1,h2⟩:=ho i e;have hi':S.Z6[i]? =some q:=hi;rw[h1]at hi';cases hi';exact BI.fresh h2
 .exact(h.blk i q hi).cur (fun h=>absurd h e)
theorem Iv.at (h:Iv N opn dl df aq S) {d:Nat} {k:Bk} (hk:S.Z6[d]? =some k) (hf:k.fresh):Iv N opn dl df aq (S.at d):=h.turn (fun e he=>by cases he;exact⟨k,hk,hf⟩)
theorem Iv.newAt (h:Iv N opn dl df aq S) {k:Int} {o:Option Int} :Iv N opn dl df aq ((S.new k o).at S.Z6.length):=h.new.at Rr ⟨rfl,rfl,rfl⟩
theorem Iv.upd (h:Iv N opn dl df aq S) {c:Nat} {k':Bk} {o:Option Nat} {rf:List Int} (hl:c < S.Z6.length) (hk':BI N opn dl df (o=some c) c k') (ho:o=none\/o=S.cur) (ha: ∀ x∈rf,aq x):Iv N opn dl df aq ⟨(S.set c k').Z6,o,S.ZT,rf⟩:=by
 refine⟨fun i q hi=>?_,ha⟩;have hi':(S.set c k').Z6[i]? =some q:=hi;rw[YN hl]at hi';split at hi'
 .next e=>cases hi';subst e;exact hk'
 .refine(h.blk i q hi').cur ?_;rcases ho with rfl|rfl
  .intro h;cases h
  .exact id
theorem Iv.ZT (h:Iv N opn dl df aq S) (l:List (ByteArray × Lb)):Iv N opn dl df aq ⟨S.Z6,S.cur,l,S.asked⟩:=⟨h.blk,h.ask⟩
theorem Iv.brk (h:Iv N opn dl df aq S) {lab:Option Nat} {d:Nat} :Iv N opn dl df aq (S.XG lab d):=by
 cases lab with
 |none=>exact h
 |some j=>exact h.ZT _
theorem Iv.cnt (h:Iv N opn dl df aq S) {lab:Option Nat} {d:Nat} :Iv N opn dl df aq (S.Sl lab d):=by
 cases lab with
 |none=>exact h
 |some j=>exact h.ZT _
theorem Iv.Sf (h:Iv N opn dl df aq S) {k:Bk} (hf:k.fresh) (l:List (ByteArray × Lb)):Iv N opn dl df aq ⟨S.Z6++ [k],S.cur,l,S.asked⟩:=by
 refine⟨fun i q hi=>?_,h.ask⟩;rcases XX hi with h1|⟨rfl,rfl⟩
 .exact h.blk i q h1
 .exact BI.fresh hf
theorem Iv.define (h:Iv N opn dl df aq S) {c:Nat} {k:Bk} {x:Option Int} (hk:S.Z6[c]? =some k):Iv N opn dl df aq (S.set c { k with of:=x }):=by
 refine⟨fun i q hi=>?_,h.ask⟩;rw[YN (ZH hk)]at hi;split at hi
 .next e=>
  cases hi;subst e;obtain⟨h1,h2,h3,h4⟩:=h.blk i k hk;exact⟨h1,h2,h3,h4⟩
 .exact h.blk i q hi
theorem Iv.asks (h:Iv N opn dl df aq S) {x:Int} (hx:aq x):Iv N opn dl df aq (S.ask x):=⟨h.blk,fun y hy=>by
 rcases ZM.1 hy with hy|hy
 .exact h.ask y hy
 .simp at hy;subst hy;exact hx⟩
end
section
variable {ls D:List ByteArray} {env:List DF} {Ts P P':List Nat} {m:Nat} {S S' S1:BS} {G:Gr} {c j:Nat}
theorem Vz {x:Vt} (e:S.Yk x=some S1) (hp:S.pt c j): ∃ k,S.Z6[c]? =some k/\k.nodes.length=j/\S1=S.set c { k with nodes:=k.nodes++ [x] } :=by
 obtain⟨hc,k,hk,hj⟩:=hp;unfold BS.Yk at e;rw[Xz hc hk]at e;split at e
 .simp at e;exact⟨k,hk,hj,e.symm⟩
 .simp at e
theorem Wh {x:Vt} (e:S.Yk x=some S1) (hp:S.pt c j):S1.pt c (j+1)/\ ∀ P G,Ext S1 P G->Ext S P G/\G.node c j x:=by
 obtain⟨k,hk,hj,rfl⟩:=Vz e hp;have hl:=ZH hk;refine⟨⟨hp.1,{ k with nodes:=k.nodes++ [x] },by rw[YN hl,if_pos rfl],by simp[hj]⟩,fun P G h=>?_⟩;have h':Ext ⟨(S.set c { k with nodes:=k.nodes++ [x] }).Z6,S.cur,S.ZT,S.asked⟩ P G:=h;refine⟨h'.upd (k:=k) (c:=c) (k':= { k with nodes:=k.nodes++ [x] }) hk hp.1 rfl rfl (List.prefix_append _ _) (.inr rfl) (fun _ h=>h),?_⟩;obtain⟨B,g1,_,_,g4⟩:=h'.Z9E (k:=k) hk;refine⟨B,g1,?_⟩;obtain⟨r,hr⟩:=g4;have hr':(k.nodes++ [x])++r=B.nodes:=hr;rw[<-hr',ZI,Zj (by omega),hj,Nat.sub_self];rfl
theorem Rf {t:Nat} (e:S.YG t=some S1) (hp:S.pt c j): ∃ k,S.Z6[c]? =some k/\k.nodes.length=j/\k.succs= []/\S1=⟨(S.set c { k with succs:= [t] }).Z6,none,S.ZT,S.asked⟩:=by
 obtain⟨hc,k,hk,hj⟩:=hp;unfold BS.YG at e;rw[Xz hc hk]at e;split at e
 .next hs=>
  simp at e;exact⟨k,hk,hj,hs.1,e.symm⟩
 .simp at e
theorem Cf {t t2:Nat} (e:S.Lx t t2=some S1) (hp:S.pt c j): ∃ k,S.Z6[c]? =some k/\k.nodes.length=j/\k.succs= []/\S1=⟨(S.set c { k with succs:= [t,t2] }).Z6,none,S.ZT,S.asked⟩:=by
 obtain⟨hc,k,hk,hj⟩:=hp;unfold BS.Lx at e;rw[Xz hc hk]at e;split at e
 .next hs=>
  simp at e;exact⟨k,hk,hj,hs.1,e.symm⟩
 .simp at e
theorem W.shuts (H:W ls S P) (hc:S.cur=some c) {k k':Bk} (hk:S.Z6[c]? =some k) (hk':k'.of=k.of):(⟨(S.set c k').Z6,none,S.ZT,S.asked⟩:BS).shut P c k':=by
 refine⟨by simp,(H.cur c hc).1,fun i y hi hy hn=>?_⟩;obtain⟨_,q,h1,_,h3⟩:=H.V8 i y hi;rw[hy,hk]at h1;cases h1;exact(h3 (by rw[<-hk'];exact hn)).2.1 (by rw[hy];exact hc)
theorem Ce {k k':Bk} {ss:List Nat} (H:W ls S P) (hp:S.pt c j) (hk:S.Z6[c]? =some k) (h1:k'= { k with succs:=ss }) (h:Ext ⟨(S.set c k').Z6,none,S.ZT,S.asked⟩ P G):Ext S P G/\G.ends c j ss:=by
 subst h1;refine⟨h.upd (k:=k) (c:=c) (k':= { k with succs:=ss }) hk hp.1 rfl rfl (List.prefix_refl _) (.inl rfl) (fun _ h=>h),?_⟩;obtain⟨q',g1,_,_,_,g5⟩:=h.blk c { k with succs:=ss } (by show(S.set c _).Z6[c]? =_;rw[YN (ZH hk),if_pos rfl]);obtain⟨f1,f2⟩:=g5 (H.shuts hp.1 hk rfl);obtain⟨_,k0,hk0,hj⟩:=hp;rw[hk]at hk0;cases hk0;exact⟨q',g1,by rw[f1];exact hj,f2⟩
theorem VP {t:Nat} (e:S.YG t=some S1) (hp:S.pt c j) (H:Rs ls D env Ts P m S): ∀ G,Ext S1 P G->Ext S P G/\G.ends c j [t]:=by
 obtain⟨k,hk,hj,hs,rfl⟩:=Rf e hp;exact fun G h=>Ce H.w hp hk rfl h
theorem Kb {t t2:Nat} (e:S.Lx t t2=some S1) (hp:S.pt c j) (H:Rs ls D env Ts P m S): ∀ G,Ext S1 P G->Ext S P G/\G.ends c j [t,t2]:=by
 obtain⟨k,hk,hj,hs,rfl⟩:=Cf e hp;exact fun G h=>Ce H.w hp hk rfl h
theorem Tp {k:Int} {o:Option Int} (e:S.newP k o=some S1):S1=S.new k o:=by
 unfold BS.newP at e;split at e
 .exact(Y0 e).symm
 .cases e
theorem WO {k:Int} {p:Int} (e:S.newP k (some p)=some S1) (hp:S.pt c j):S1.pt c j/\ ∀ P G,Ext S1 (S.Z6.length::P) G->Ext S P G/\G.kind S.Z6.length k (some p):=by
 have:=Tp e;subst this;obtain⟨hc,q,hq,hj⟩:=hp;refine⟨⟨hc,q,XS hq,hj⟩,fun P G h=>⟨h.new,?_⟩⟩;obtain⟨B,h1,h2,h3,_⟩:=h.blk _ _ (Rr (S:=S) (k:=k) (o:=some p));exact⟨B,h1,h2,h3 (by simp)⟩
theorem Tn {k:Int} {o:Option Int} (e:S.newAt k o=some S1):S1=(S.new k o).at S.Z6.length:=by
 unfold BS.newAt at e;cases h:S.newP k o with
 |none=>rw[h]at e;simp at e
 |some S2=>
  rw[h]at e;simp at e;rw[<-e,Tp h]
theorem LW {k:Int} {o:Option Int} (e:S.newAt k o=some S1):S1.pt S.Z6.length 0/\ ∀ P G,Ext S1 P G->Ext S P G:=by
 have:=Tn e;subst this;exact⟨⟨rfl,_,Rr,rfl⟩,fun P G h=>h.newAt⟩
theorem Cd {k:Int} {o:Option Int} (e:S.newAt k o=some S1) (hp:S.pt c j) (H:Rs ls D env Ts P m S): ∀ G,Ext S1 P G->G.ends c j []:=by
 have:=Tn e;subst this;intro G h;obtain⟨hc,q,hq,hj⟩:=hp;obtain⟨hcP,q0,hq0,hs0⟩:=H.w.cur c hc;rw[hq]at hq0;cases hq0;obtain⟨q',g1,_,_,_,g5⟩:=h.blk c q (XS hq);have hl:=ZH hq;obtain⟨f1,f2⟩:=g5 ⟨fun e=>by
  have e':S.Z6.length=c:=Y0 e;omega,hcP,fun i y hi hy hn=>by
  obtain⟨_,r,h1,_,h3⟩:=H.w.V8 i y hi;rw[hy,hq]at h1;cases h1;exact(h3 hn).2.1 (by rw[hy];exact hc)⟩
 exact⟨q',g1,by rw[f1];exact hj,by rw[f2];exact hs0⟩
theorem WR {d:Nat} (H:Rs ls D env Ts P m S) (hd:d∈P) (hP: ∀ p∈P',p∈P):(S.at d).pt d 0/\ ∀ G,Ext (S.at d) P' G->Ext S P G:=by
 obtain⟨k,hk,hf,_⟩:=H.w.pend d hd;exact⟨⟨rfl,k,hk,by rw[hf.1];rfl⟩,fun G h=>h.at (.inl hd) (fun p hp=>.inl (hP p hp))⟩
theorem LV (e:S.UG=some S1) (hp:S.pt c j): ∃ k,S.Z6[c]? =some k/\k.nodes.length=j/\S1=S.set c { k with Yz:=true } :=by
 obtain⟨hc,k,hk,hj⟩:=hp;unfold BS.UG at e;rw[Xz hc hk]at e;simp at e;exact⟨k,hk,hj,e.symm⟩
theorem Cc (e:S.UG=some S1) (hp:S.pt c j):S1.pt c j/\ ∀ P G,Ext S1 P G->Ext S P G:=by
 obtain⟨k,hk,hj,rfl⟩:=LV e hp;refine⟨⟨hp.1,{ k with Yz:=true },by rw[YN (ZH hk),if_pos rfl],hj⟩,fun P G h=>?_⟩;have h':Ext ⟨(S.set c { k with Yz:=true }).Z6,S.cur,S.ZT,S.asked⟩ P G:=h;exact h'.upd (k:=k) (c:=c) (k':= { k with Yz:=true }) hk hp.1 rfl rfl (List.prefix_refl _) (.inr rfl) (fun _ h=>h)
theorem Gu {n:Nat} (e:S.RN n=some S1):S1=S.ask n:=by
 unfold BS.RN at e;split at e
 .exact(Y0 e).symm
 .cases e
theorem vu {n:Nat} (e:S.RN n=some S1) (hp:S.pt c j):S1.pt c j/\ ∀ P G,Ext S1 P G->Ext S P G/\(n:Int)∈G.asked:=by
 have:=Gu e;subst this;exact⟨hp,fun P G h=>⟨⟨h.blk,h.lab,fun x hx=>h.ask x (Zd _ hx)⟩,h.ask _ (Zr _ (Zk.2 rfl))⟩⟩
structure Cx where
 A:Tr
 G:Gr
 L:List (Pl × Pt)
abbrev Cx.R (X:Cx):Pl->Pt->Prop:=fun p q=>(p,q)∈X.L
abbrev Cx.ob (X:Cx) (fs fg:Bool) (P:List Pl) (q:Pt):Prop:=Ob X.A.mv (nx X.G.Z6) X.R fs fg P q
def Gr.Qi (G:Gr) (b:Nat) (k:Int) (n:Int):Prop:= ∃ i:Nat,n=i/\G.kind b k (some (ip i))
structure vt (X:Cx) (x b t f:Nat):Prop where
 ifs:X.A.kd (X.A.lf x).of=10->X.G.Qi t 9 (X.A.nd (X.A.lf x).of).number/\X.G.Qi f (if(X.A.nd (X.A.lf x).of).h.ZV=true then 8 else 7) (X.A.nd (X.A.lf x).of).number
 for':X.A.kd (X.A.lf x).of=11->X.G.Qi b 5 (X.A.nd (X.A.lf x).of).number/\X.G.Qi t 3 (X.A.nd (X.A.lf x).of).number/\X.G.Qi f 4 (X.A.nd (X.A.lf x).of).number
 test:(X.A.lf x).what=5->X.G.Qi t 17 (X.A.ch (X.A.lf x).of ((X.A.nd (X.A.lf x).of).YY.getD (X.A.lf x).index.toNat 0)).number
structure LG (X:Cx) (b k x:Nat) (ret:Bool):Prop where
 ret:ret=true↔X.A.Yh x=9
 stop:X.A.Yh x=2\/X.A.Yh x=9->X.G.ends b (k+1) []
 next:X.A.Tw x=false->X.A.Yh x≠2->X.A.Yh x≠9-> ∀ v,X.ob true true (X.A.Nu x v) (b,k+1)
 two:X.A.Tw x=true-> ∃ t f,X.G.ends b (k+1) [t,f]/\X.ob true true (X.A.Nu x true) (t,0)/\X.ob true true (X.A.Nu x false) (f,0)/\vt X x b t f
 post:(X.A.lf x).what=4->k=0/\X.G.Qi b 6 (X.A.nd (X.A.lf x).of).number
 rng:(X.A.lf x).what=3->X.A.kd (X.A.lf x).of=12-> ∃ h t f,X.G.ends b (k+1) [h]/\X.G.ends h 0 [t,f]/\X.G.Qi h 13 (X.A.nd (X.A.lf x).of).number/\X.G.Qi t 11 (X.A.nd (X.A.lf x).of).number/\X.G.Qi f 12 (X.A.nd (X.A.lf x).of).number
 cls:(X.A.lf x).what=1->(X.A.nd (X.A.lf x).of).place=0->(X.A.rw (X.A.nd (X.A.lf x).of).list).clause≠ -1->(X.A.nd (X.A.lf x).of).h.label.size=0->
  ∀ o l,o=(X.A.rw (X.A.nd (X.A.lf x).of).list).owner->l=X.A.ch o (X.A.rw (X.A.nd (X.A.lf x).of).list).clause->(X.A.kd o=13\/l.plain=false)->k=0/\(X.A.kd o=15-> ∃ p,X.G.kind b 14 p)/\(X.A.kd o≠15->X.G.Qi b 17 l.number)
def Cx.ng (X:Cx) (b k:Nat) (x:Vt):Prop:=(YS x.pos= -1/\x.ret=false)\/ ∃ y:Nat,x.pos=lp y/\y < X.A.ls.length/\LG X b k y x.ret
def Cx.dl (X:Cx) (x:Vt):Prop:= ∃ y:Nat,x.pos=lp y/\X.A.Tw y=true
def Cx.df (X:Cx) (x:Vt):Prop:= ∃ y:Nat,x.pos=lp y/\X.A.Yh y=7
def Cx.aq (X:Cx) (x:Int):Prop:= ∃ y:Nat,x=y/\y < X.A.ls.length/\(X.A.Yh y=1\/X.A.Yh y=2)
abbrev Cx.iv (X:Cx) (opn:Prop) (S:BS):Prop:=Iv X.ng opn X.dl X.df X.aq S
def Cx.Vc (X:Cx) (n m:Nat):Prop:= ∀ x:Nat,n<=x->x < m->(∃ b k y,X.G.node b k y/\y.pos=lp x)/\(X.A.Yh x=1\/X.A.Yh x=2->(x:Int)∈X.G.asked)
theorem Cx.Vc.app {X:Cx} {n k m:Nat} (h1:X.Vc n k) (h2:X.Vc k m):X.Vc n m:=fun x hn hm=>if h:x < k then h1 x hn h else h2 x (by omega) hm
theorem Cx.Vc.nil {X:Cx} {n:Nat} :X.Vc n n:=fun x h1 h2=>by omega
variable {X:Cx} {opn:Prop}
theorem WW {x:Vt} (e:S.Yk x=some S1) (hp:S.pt c j) (H:Rs ls D env Ts P m S) (hN:X.ng c j x) (h:X.iv opn S) (hr0:x.ret=false:=by rfl):X.iv opn S1:=by
 obtain⟨k,hk,hj,rfl⟩:=Vz e hp;obtain⟨k0,hk0,hs0⟩:=H.Ov hp.1;rw[hk]at hk0;cases hk0;have hb:=h.blk c k hk;refine h.upd (k':= { k with nodes:=k.nodes++ [x] }) (ZH hk) ⟨fun i y hy=>?_,fun ht=>?_,fun hr=>?_,fun⟨y,hy,pS⟩=>hb.rt ((ZM.1 hy).elim (fun h=>⟨y,h,pS⟩) (fun h=>by simp at h;rw[h,hr0]at pS;cases pS))⟩ (.inr rfl) h.ask
 .rcases XX hy with h1|⟨h1,rfl⟩
  .exact hb.Ru i y h1
  .rw[h1,hj];exact hN
 .exact absurd ht (by simp[hs0])
 .rcases hb.ret hr with⟨y,h1,h2⟩ |⟨_,h2⟩
  .exact .inl ⟨y,Zd _ h1,h2⟩
  .exact absurd hp.1 h2
theorem Xg {t:Nat} (e:S.YG t=some S1) (hp:S.pt c j) (h:X.iv opn S):X.iv opn S1:=by
 obtain⟨k,hk,hj,hs,rfl⟩:=Rf e hp;have hb:=h.blk c k hk;refine h.upd (k':= { k with succs:= [t] }) (ZH hk) ⟨hb.Ru,fun ht=>absurd ht (by simp),fun hr=>?_,hb.rt⟩ (.inl rfl) h.ask;rcases hb.ret hr with h1|⟨_,h2⟩
 .exact .inl h1
 .exact absurd hp.1 h2
theorem Qh {t t2:Nat} (e:S.Lx t t2=some S1) (hp:S.pt c j) (hd:opn\/ ∃ k x,S.Z6[c]? =some k/\k.nodes.getLast? =some x/\X.dl x) (h:X.iv opn S):X.iv opn S1:=by
 obtain⟨k,hk,hj,hs,rfl⟩:=Cf e hp;have hb:=h.blk c k hk;refine h.upd (k':= { k with succs:= [t,t2] }) (ZH hk) ⟨hb.Ru,fun _=>?_,fun hr=>?_,hb.rt⟩ (.inl rfl) h.ask
 .rcases hd with hd|⟨q,x,h1,h2,h3⟩
  .exact .inl hd
  .rw[hk]at h1;cases h1;exact .inr ⟨x,h2,h3⟩
 .rcases hb.ret hr with h1|⟨_,h2⟩
  .exact .inl h1
  .exact absurd hp.1 h2
theorem TU {x:Vt} (e:S.Yk x=some S1) (hp:S.pt c j): ∃ k,S1.Z6[c]? =some k/\k.nodes.getLast? =some x:=by
 obtain⟨k,hk,hj,rfl⟩:=Vz e hp;exact⟨_,by rw[YN (ZH hk),if_pos rfl],by simp⟩
theorem XJ {k:Int} {o:Option Int} (e:S.newP k o=some S1) (h:X.iv opn S):X.iv opn S1:=by
 have:=Tp e;subst this;exact h.new
theorem Ka {k:Int} {o:Option Int} (e:S.newAt k o=some S1) (h:X.iv opn S):X.iv opn S1:=by
 have:=Tn e;subst this;exact h.newAt
theorem XZ {d:Nat} (H:Rs ls D env Ts P m S) (hd:d∈P) (h:X.iv opn S):X.iv opn (S.at d):=by
 obtain⟨k,hk,hf,_⟩:=H.w.pend d hd;exact h.at hk hf
theorem Cb {n:Nat} (e:S.RN n=some S1) (hn:X.aq n) (h:X.iv opn S):X.iv opn S1:=by
 have:=Gu e;subst this;exact h.asks hn
theorem Ca {x:Vt} {S2:BS} (e:S.Yk x=some S1) (e2:S1.UG=some S2) (hp:S.pt c j) (H:Rs ls D env Ts P m S) (hN:X.ng c j x) (hd:X.df x) (h:X.iv opn S) (hr0:x.ret=false:=by rfl):X.iv opn S2:=by
 have h1:=WW e hp H hN h hr0;have hp1:=(Wh e hp).1;obtain⟨k,hk,hl⟩:=TU e hp;obtain⟨k',hk',_,rfl⟩:=LV e2 hp1;rw[hk]at hk';cases hk';have hb:=h1.blk c k hk;exact h1.upd (k':= { k with Yz:=true }) (ZH hk) ⟨hb.Ru,hb.two,fun _=>.inl ⟨x,List.mem_of_getLast? hl,hd⟩,fun _=>rfl⟩ (.inr rfl) h1.ask
theorem E1 {x:Vt} {S2 S3:BS} {k:Int} {o:Option Int} (e:S.UG=some S1) (e2:S1.Yk x=some S2) (e3:S2.newAt k o=some S3) (hp:S.pt c j) (H:Rs ls D env Ts P m S) (hN:X.ng c j x) (hx:x.ret=true) (h:X.iv opn S):X.iv opn S3:=by
 obtain⟨q,hq,hj,rfl⟩:=LV e hp;obtain⟨q0,hq0,hs0⟩:=H.Ov hp.1;rw[hq]at hq0;cases hq0;have hl:=ZH hq;have hp1:=(Cc e hp).1;obtain⟨q1,hq1,hj1,rfl⟩:=Vz e2 hp1;rw[YN hl,if_pos rfl]at hq1;cases hq1;have hb:=h.blk c q hq;have h2:X.iv opn ⟨(((S.set c { q with Yz:=true }).set c { q with Yz:=true,nodes:=q.nodes++ [x] })).Z6,none,S.ZT,S.asked⟩:=by
  refine⟨fun i y hi=>?_,h.ask⟩;have hi':((S.set c { q with Yz:=true }).set c { q with Yz:=true,nodes:=q.nodes++ [x] }).Z6[i]? =some y:=hi;rw[YN (by simp[BS.set];exact hl),YN hl]at hi';split at hi'
  .next ei=>
   cases hi';subst ei;refine⟨fun i' y hy=>?_,fun ht=>?_,fun _=>.inr ⟨by simp[Bk.ends,hx],by simp⟩,fun _=>rfl⟩
   .rcases XX hy with h1|⟨h1,rfl⟩
    .exact hb.Ru i' y h1
    .rw[h1,hj];exact hN
   .exact absurd ht (by simp[hs0])
  .exact(h.blk i y hi').cur (by simp)
 have:=Tn e3;subst this;have h3:=h2.newAt (k:=k) (o:=o);exact h3
theorem TT (x:Nat):YS (lp x)=x:=by
 unfold YS lp;rw[if_neg (by omega),if_pos (by omega)];omega
theorem J9 {G:Gr} {x:Vt} (h:G.node c j x) (hx:YS x.pos= -1):nx G.Z6 (c,j)=([(c,j+1)],none):=by
 obtain⟨B,h1,h2⟩:=h;simp[nx,h1,h2,hx]
theorem Gt {G:Gr} {x:Vt} (h:G.node c j x) {y:Nat} (hx:x.pos=lp y):nx G.Z6 (c,j)=([],some (y:Int)):=by
 obtain⟨B,h1,h2⟩:=h;have h3:YS x.pos=y:=by rw[hx,TT]
 simp only[nx,h1,h2,h3];rw[if_neg (by omega)]
theorem U0 {G:Gr} {ss:List Nat} (h:G.ends c j ss):nx G.Z6 (c,j)=(ss.map fun s=>(s,0),none):=by
 obtain⟨B,h1,h2,h3⟩:=h;have h4:B.nodes[j]? =none:=Y6 (by omega);simp[nx,h1,h4,h3]
variable {fs fg:Bool} {Q Q1 Q2:List Pl} {p:Pl}
theorem Rb {x:Vt} (h:X.G.node c j x) (hx:YS x.pos= -1) (hq:X.ob fs true Q (c,j+1)):X.ob fs fg Q (c,j):=.one (J9 h hx) hq
theorem Wy {x:Vt} (h:X.G.node c j x) {y:Nat} (hx:x.pos=lp y) (hm:X.A.mv p=([],some (y:Int))):X.ob fs fg [p] (c,j):=.leaf hm (Gt h hx)
theorem Xr {t:Nat} (h:X.G.ends c j [t]) (hq:X.ob fs true Q (t,0)):X.ob fs fg Q (c,j):=.one (U0 h) hq
theorem LU {t f:Nat} (h:X.G.ends c j [t,f]) (hQ: ∀ p,p∈Q↔p∈Q1\/p∈Q2) (h1:X.ob fs true Q1 (t,0)) (h2:X.ob fs true Q2 (f,0)):X.ob fs fg Q (c,j):=.two (U0 h) hQ h1 h2
theorem xV (h:X.G.ends c j []):X.ob fs fg [] (c,j):=.dead (U0 h)
theorem V6 {p':Pl} (hm:X.A.mv p=([p'],none)) (h:X.ob true fg [p'] (c,j)):X.ob fs fg [p] (c,j):=.sp hm h
theorem IN (h:(p,(c,j))∈X.L):X.ob true true [p] (c,j):=.rel h
end
section
variable {ls D:List ByteArray} {env:List DF} {Ts P P':List Nat} {m:Nat} {S S' S1:BS} {G:Gr} {c j:Nat} {A:Tr} {X:Cx}
def T.opn:T->Prop
 | .nil=>False
 | .st h b e c tl=>(h.kind=12\/h.kind=14\/h.kind=15)\/b.opn\/e.opn\/c.opn\/tl.opn
 | .cl _ b tl=>b.opn\/tl.opn
structure jm (A:Tr):Prop where
 around: ∀ (N:Nat) x,A.ns[N]? =some x->x.h.kind=17\/x.h.kind=18->A.tgt N=A.WT x.h.kind x.h.target (A.ns.length+1) (A.rw x.list).owner
 jump: ∀ (N:Nat) x,A.ns[N]? =some x->x.h.kind=19->A.tgt N=A.Wo x.h.target
 fall: ∀ (N:Nat) x,A.ns[N]? =some x->x.h.kind=20->A.tgt N=(A.rw x.list).owner
def XF (A:Tr) (G:Gr) (N1 N2:Nat) (new:List (Pl × Pt)):Prop:=
 ∀ (N:Nat) x,N1<=N->N < N2->A.ns[N]? =some x->0 < x.h.label.size-> ∃ (j:Nat) (y:ByteArray × Lb),G.ZT[j]? =some y/\y.1=x.h.label/\(⟨1,x.list,x.place⟩,(y.2.go,0))∈new
theorem XF.nil {N:Nat} {new:List (Pl × Pt)} :XF A G N N new:=fun k x h1 h2=>by omega
theorem XF.app {N1 N2 N3:Nat} {new new':List (Pl × Pt)} (h1:XF A G N1 N2 new) (h2:XF A G N2 N3 new'):XF A G N1 N3 (new++new'):=by
 intro k x g1 g2 g3 g4;by_cases h:k < N2
 .obtain⟨j,y,f1,f2,f3⟩:=h1 k x g1 h g3 g4;exact⟨j,y,f1,f2,Zd _ f3⟩
 .obtain⟨j,y,f1,f2,f3⟩:=h2 k x (by omega) g2 g3 g4;exact⟨j,y,f1,f2,Zr _ f3⟩
theorem XF.more {N1 N2:Nat} {new new':List (Pl × Pt)} (h1:XF A G N1 N2 new) (h: ∀ x∈new,x∈new'):XF A G N1 N2 new':=by
 intro k x g1 g2 g3 g4;obtain⟨j,y,f1,f2,f3⟩:=h1 k x g1 g2 g3 g4;exact⟨j,y,f1,f2,h _ f3⟩
def GL (X:Cx):Prop:= ∀ (N:Nat) x,X.A.ns[N]? =some x->0 < x.h.label.size-> ∀ (j:Nat) y,X.G.ZT[j]? =some y->y.1=x.h.label->(⟨1,x.list,x.place⟩,(y.2.go,0))∈X.L
inductive EX (X:Cx):List Nat->List DF->Prop
 |nil:EX X [] []
 |skip {o:Nat} {os:List Nat} {env:List DF} :(X.A.nd o).h.frame= []->EX X os env->EX X (o::os) env
 |cons {o:Nat} {os:List Nat} {f:DF} {env:List DF} :(X.A.nd o).h.frame= [f.s]->(∀ d,f.t.brk=some d->X.ob true true [X.A.behind o] (d,0))->(∀ d,f.t.cnt=some d->X.ob true true [X.A.again o] (d,0))->EX X os env->EX X (o::os) (f::env)
def LT (A:Tr) (P:List Nat) (S S':BS) (N1 N2 n1 n2:Nat) (os:List Nat) (env:List DF) (ent:Pl) (c j:Nat) (ext:Pl) (opq:Prop) (Hyp:Cx->Prop):Prop:=
 ∃ c' j' new,S'.pt c' j'/\(∀ G,Ext S' P G->Ext S P G/\XF A G N1 N2 new)/\
  ∀ (X:Cx) (opn:Prop),X.A=A->Ext S' P X.G->(∀ x∈new,x∈X.L)->GL X->EX X os env->(opq->opn)->Hyp X->X.ob false false [ext] (c',j')->
   X.ob false false [ent] (c,j)/\(∀ x∈new,X.ob false false [x.1] x.2)/\(X.iv opn S->X.iv opn S')/\X.Vc n1 n2
def SH (A:Tr) (a:Nat) (env:List DF) (fl:Bool) (X:Cx):Prop:=fl=true-> ∃ f fs d,env=f::fs/\f.t.Xw=some d/\X.ob true true [A.next a (A.rw a).owner] (d,0)
def TS (A:Tr) (a p c j:Nat) (X:Cx):Prop:=p=0->(A.rw a).clause≠ -1-> ∀ l,l=A.ch (A.rw a).owner (A.rw a).clause->(A.kd (A.rw a).owner=13\/l.plain=false)->j=0/\(A.kd (A.rw a).owner=15-> ∃ q,X.G.kind c 14 q)/\(A.kd (A.rw a).owner≠15->X.G.Qi c 17 l.number)
def VK (A:Tr) (ls:List ByteArray) (t:T):Prop:=
 ∀ (D:List ByteArray) (env:List DF) (Ts P:List Nat) (m:Nat) (S S':BS) (n i:Nat) (fl:Bool) (N R a p:Nat) (os:List Nat) (c j:Nat),
  Rs ls D env Ts P m S->S.pt c j->t.Xv true->t.ok->t.fA->t.VN ls (env.map DF.s) fl->(fl=true-> ∃ f fs d,env=f::fs/\f.t.Xw=some d)->LC ls D t.labels->m+16*t.wt<=40000->n+t.lv false<=39000->i+t.it<=40000->
  t.YO.list n i (env.map DF.t) S=some S'->
  Sub A N R n (t.rd.l N R n i a p).ls (t.rd.l N R n i a p).ns (t.rd.l N R n i a p).rs->Seg (A.rw a).nodes p (t.rd.l N R n i a p).ids->QF A a os->os.length<=N->((A.rw a).clause≠ -1->t.ft (fl=true))->
  LT A P S S' N (N+(t.rd.l N R n i a p).ns.length) n (n+t.lv false) os env ⟨1,a,p⟩ c j ⟨1,a,(p:Int)+t.len⟩ t.opn (fun X=>SH A a env fl X/\TS A a p c j X)
structure Vy (A:Tr) (h:Hd) (N i a p n R R2:Nat) (oc:WG):Prop where
 nd:A.ns[N]? =some (T.UM h i a p n R R2 oc)
 lf:Seg A.ls n (h.Yl N)
 row:(A.rw a).nodes[p]? =some (N:Int)
theorem Wm {n:Nat} {b:Bool} (h:b=true):YL b n=n:=by unfold YL;rw[if_pos h]
theorem IL {n:Nat} {b:Bool} (h:b=false):YL b n= -1:=by unfold YL;rw[if_neg (by simp[h])]
theorem V5 {n:Nat} {b:Bool} :YL b n≠ -1↔b=true:=by
 cases b with
 |false=>simp[YL]
 |true=>simp[YL]
namespace Vy
variable {h:Hd} {N i a p n R R2:Nat} {oc:WG}
theorem eq (H:Vy A h N i a p n R R2 oc):A.nd N=T.UM h i a p n R R2 oc:=W8 H.nd
theorem kd (H:Vy A h N i a p n R R2 oc):A.kd N=h.kind:=by unfold Tr.kd;rw[H.eq];rfl
theorem behind (H:Vy A h N i a p n R R2 oc):A.behind N=⟨1,a,(p:Int)+1⟩:=by unfold Tr.behind;rw[H.eq];rfl
theorem at' (H:Vy A h N i a p n R R2 oc):A.mv ⟨1,a,p⟩=([A.begun N],none):=by
 have hl:=ZH H.row;unfold Tr.mv;rw[if_pos rfl,if_pos (show(p:Int) < ((A.rw a).nodes.length:Int)by omega)];show([A.begun ((A.rw a).nodes.getD (p:Int).toNat 0)],_)=_;rw[Y1,Zy,H.row];rfl
theorem IK (H:Vy A h N i a p n R R2 oc) (hl:h.Zu=true):A.begun N=⟨6,n,0⟩:=by
 unfold Tr.begun;rw[H.eq];show(if YL h.Zu n≠ -1 then _ else _)=_;rw[if_pos (V5.2 hl)];show(⟨6,YL h.Zu n,0⟩:Pl)=_;rw[Wm hl]
theorem M0 (H:Vy A h N i a p n R R2 oc) (hl:h.Zu=false) (hi:h.init=true):A.begun N=⟨6,n,0⟩:=by
 unfold Tr.begun;rw[H.eq];show(if YL h.Zu n≠ -1 then _ else if YL h.init (n+h.Zu.toNat)≠ -1 then(⟨6,YL h.init (n+h.Zu.toNat),0⟩:Pl)else _)=_;rw[if_neg (by rw[V5,hl];simp),if_pos (V5.2 hi),Wm hi,hl];rfl
theorem WD (H:Vy A h N i a p n R R2 oc) (hl:h.Zu=false) (hi:h.init=false):A.begun N=A.entered N:=by
 unfold Tr.begun;rw[H.eq];show(if YL h.Zu n≠ -1 then _ else if YL h.init (n+h.Zu.toNat)≠ -1 then(⟨6,YL h.init (n+h.Zu.toNat),0⟩:Pl)else _)=_;rw[if_neg (by rw[V5,hl];simp),if_neg (by rw[V5,hi];simp)]
theorem WB (H:Vy A h N i a p n R R2 oc) {k:Nat} {x:Lf} (hx:(h.Yl N)[k]? =some x):A.lf ((n+k:Nat):Int)=x/\n+k < A.ls.length:=by
 have hl:=ZH hx;have:=H.lf k hl;rw[hx]at this;exact⟨Gw this,ZH this⟩
end Vy
theorem Tm (x:Int):A.mv ⟨6,x,0⟩=([],some x):=by
 unfold Tr.mv;simp
theorem Oa {h:Hd} :h.Zu=true↔1<=h.kind/\h.kind<=9:=by unfold Hd.Zu;simp
theorem Gs {r:Nat} {o:Nat} {l:Nat} (ho:(A.rw r).owner=o) (hl:(A.rw r).nodes.length=l):A.mv ⟨1,r,l⟩=([A.left r],none):=by
 unfold Tr.mv;rw[if_pos rfl,if_neg (show ¬ (l:Int) < ((A.rw r).nodes.length:Int)by omega),if_neg (show(A.rw r).owner≠ -1 by rw[ho];omega)]
theorem J8 {r:Nat} {o:Nat} (ho:(A.rw r).owner=o) (hk:A.kd o≠11/\A.kd o≠12):A.left r=A.behind o:=by
 unfold Tr.left;rw[ho,if_neg (by omega)]
theorem IJ {r:Nat} {o:Nat} (ho:(A.rw r).owner=o) (hk:A.kd o=11\/A.kd o=12):A.left r=A.again o:=by
 unfold Tr.left;rw[ho,if_pos hk]
theorem II: ∀ t:T,t.Xv true-> ∀ N R n i a p,(t.rd.l N R n i a p).ids.length=t.len:=by
 intro t
 induction t with
 |nil=>intro _ N R n i a p;rfl
 |st h b e c tl _ _ _ ih=>intro⟨_,_,_,_,s4⟩ N R n i a p;simp only[T.rd,ZJ,T.len,ih s4]
 |cl x b tl=>intro hs;exact absurd hs.1 (by simp)
theorem Qg: ∀ t:T,(t.Xv true->t.fA-> ∀ N R n i a p,(t.rd.l N R n i a p).ls.length=t.lv false/\(t.rd.l N R n i a p).it=t.it)/\(t.Xv false->t.fA-> ∀ sw N0 N R n i j k,(t.rd.c sw N0 N R n i j k).ls.length=t.lv sw/\(t.rd.c sw N0 N R n i j k).it=t.it):=by
 intro t
 induction t with
 |nil=>exact⟨fun _ _ _ _ _ _ _ _=>⟨rfl,rfl⟩,fun _ _ _ _ _ _ _ _ _ _=>⟨rfl,rfl⟩⟩
 |st h b e c tl ih1 ih2 ih3 ih4=>
  refine⟨fun⟨_,s1,s2,s3,s4⟩ ⟨f0,f1,f2,f3,f4⟩ N R n i a p=>?_,fun hs=>absurd hs.1 (by simp)⟩;have h1: ∀ N R n i a p,((if h.Zz=true then b.rd.l N R n i a p else .none):Out).ls.length=b.lv false/\((if h.Zz=true then b.rd.l N R n i a p else .none):Out).it=b.it:=by
   intro N R n i a p;split
   .next hb=>exact ih1.1 s1 (f1 hb) N R n i a p
   .next hb=>rw[f0.RZ hb];exact⟨rfl,rfl⟩
  have h2: ∀ N R n i a p,((if h.ZV=true then e.rd.l N R n i a p else .none):Out).ls.length=e.lv false/\((if h.ZV=true then e.rd.l N R n i a p else .none):Out).it=e.it:=by
   intro N R n i a p;split
   .next hb=>exact ih2.1 s2 (f2 hb) N R n i a p
   .next hb=>rw[f0.TW hb];exact⟨rfl,rfl⟩
  have h0:(h.Yl N).length=h.own:=Yj.1;simp only[T.rd,Z4,h1,h2,ih3.2 s3 f3,ih4.1 s4 f4,h0,T.lv,T.it];exact⟨by simp only[Z3],trivial⟩
 |cl x b tl ih1 ih2=>
  refine⟨fun hs=>absurd hs.1 (by simp),fun⟨_,s1,s2⟩ ⟨f1,f2⟩ sw N0 N R n i j k=>?_⟩;simp only[T.rd,Z4,Y8,Zf,ih1.1 s1 f1,ih2.2 s2 f2,T.lv,T.it,Z3];try trivial
theorem LR {h:Hd} {N i a p n R R2:Nat} {oc:WG} {tl:T} (H:Vy X.A h N i a p n R R2 oc) (hl:h.Zu=true) (hk:h.kind≠2/\h.kind≠9) (hcl:h.label.size=0->TS X.A a p c j X) (hK:X.ob true true [⟨1,a,(p:Int)+1⟩] (c,j+1)):LG X c j n false:=by
 have hx:(h.Yl N)[0]? =some ⟨N,1,0⟩:=by unfold Hd.Yl;rw[if_pos hl];rfl
 have hlf:=(H.WB hx).1;simp only[Zn]at hlf;have hkd:X.A.Yh n=h.kind:=by unfold Tr.Yh;rw[hlf,if_pos rfl];exact H.kd
 have hdc:X.A.Tw n=false:=by unfold Tr.Tw;rw[hlf];simp
 refine⟨⟨fun hc=>absurd hc (by simp),fun hc=>by omega⟩,fun hc=>by omega,fun _ _ _ v=>?_,fun hc=>(by rw[hdc]at hc;cases hc),fun hc=>?_,fun hc=>?_,fun _ h2 h3 h4 o l ho hl' h5=>?_⟩
 .unfold Tr.Nu;rw[hlf,if_pos rfl];have Z5x:X.A.kd ((N:Nat):Int)=h.kind:=H.kd;rw[if_neg (show ¬ (X.A.kd ((N:Nat):Int)=2\/X.A.kd ((N:Nat):Int)=9)by omega)];show X.ob true true [X.A.behind ((N:Nat):Int)] _;rw[H.behind];exact hK
 .rw[hlf]at hc;exact absurd hc (by show(1:Int)≠4;decide)
 .rw[hlf]at hc;exact absurd hc (by show(1:Int)≠3;decide)
 .rw[hlf]at h2 h3 h4 ho hl';change(X.A.nd ((N:Nat):Int)).place=0 at h2;change(X.A.rw (X.A.nd ((N:Nat):Int)).list).clause≠ -1 at h3;change(X.A.nd ((N:Nat):Int)).h.label.size=0 at h4;rw[H.eq]at h2 h3 h4;have ho':o=(X.A.rw (a:Int)).owner:=by rw[ho];show(X.A.rw (X.A.nd ((N:Nat):Int)).list).owner=_;rw[H.eq];rfl
  have hl'':l=X.A.ch o (X.A.rw (a:Int)).clause:=by rw[hl'];show X.A.ch o (X.A.rw (X.A.nd ((N:Nat):Int)).list).clause=_;rw[H.eq];rfl
  subst ho';have hp0:p=0:=by have:((p:Nat):Int)=0:=h2;omega
  exact hcl h4 hp0 h3 l hl'' h5
end
section
variable {ls D:List ByteArray} {env:List DF} {Ts P P':List Nat} {m:Nat} {S S' S1:BS} {G:Gr} {c0 j0:Nat} {A:Tr} {X:Cx} {h:Hd} {b e c tl:T} {N i a p n R R2 N2:Nat} {oc:WG} {os:List Nat} {opq:Prop} {Hyp:Cx->Prop} {fl:Bool}
theorem Rs.Nr (H:Rs ls D env Ts P m S) (hm:m<=50000) {c:Nat} (hc:S.cur=some c) {x:Vt} (hx:PB x.pos) (e:S.Yk x=some S1):Rs ls D env Ts P (m+1) S1:=by
 obtain⟨S',e',H',_⟩:=H.add hm hc x hx;rw[e]at e';cases e';exact H'
theorem Rs.St (H:Rs ls D env Ts P m S) {c:Nat} (hc:S.cur=some c) {t:Nat} (ht:S.tgt t) (e:S.YG t=some S1):Rs ls D env Ts P (m+1) S1/\S1.cur=none/\S1.Z6.length=S.Z6.length/\S1.ZT=S.ZT:=by
 obtain⟨S',e',H',h1⟩:=H.jump hc ht;rw[e]at e';cases e';exact⟨H',h1⟩
theorem Rs.vr (H:Rs ls D env Ts P m S) {c:Nat} (hc:S.cur=some c) {t t2:Nat} (ht:S.tgt t) (ht2:S.tgt t2) (e:S.Lx t t2=some S1):Rs ls D env Ts P (m+1) S1/\S1.cur=none/\S1.Z6.length=S.Z6.length/\S1.ZT=S.ZT:=by
 obtain⟨S',e',H',h1⟩:=H.ifs hc ht ht2;rw[e]at e';cases e';exact⟨H',h1⟩
theorem Rs.newE (H:Rs ls D env Ts P m S) (hm:m<=50000) {c:Nat} (hc:S.cur=some c) {k:Int} {o:Option Int} (hk:1 < k/\k<=19/\k≠10) (ho:OB o) (e:S.newP k o=some S1):Rs ls D env Ts (S.Z6.length::P) (m+1) S1/\S1.cur=some c/\S1.Z6.length=S.Z6.length+1/\S1.ZT=S.ZT:=by
 obtain⟨S',e',H',h1⟩:=H.newC hm hc hk ho;rw[e]at e';cases e';exact⟨H',h1⟩
theorem Rs.Z9D (H:Rs ls D env Ts P m S) {c:Nat} (hc:S.cur=some c) (e:S.UG=some S1):Rs ls D env Ts P (m+1) S1:=by
 obtain⟨S',e',H',_⟩:=H.ret hc;rw[e]at e';cases e';exact H'
theorem Rs.Z9C (H:Rs ls D env Ts P m S) (hm:m<=50000) (hn:n<=50000) (e:S.RN n=some S1):Rs ls D env Ts P (m+1) S1:=by
 obtain⟨S',e',H',_⟩:=H.ask hm hn;rw[e]at e';cases e';exact H'
theorem UZ {b k:Nat} {y:Vt} (hn:X.G.node b k y) (hy:y.pos=lp n) (hq:X.A.Yh n=1\/X.A.Yh n=2->(n:Int)∈X.G.asked):X.Vc n (n+1):=by
 intro x h1 h2;have:x=n:=by omega
 subst this;exact⟨⟨b,k,y,hn,hy⟩,hq⟩
theorem Gq (H:Vy X.A h N i a p n R R2 oc) (hl:h.Zu=true) (hk:h.kind=2\/h.kind=9) {c j:Nat} (hcl:h.label.size=0->TS X.A a p c j X) (hK:X.G.ends c (j+1) []):LG X c j n (h.kind==9):=by
 have hx:(h.Yl N)[0]? =some ⟨N,1,0⟩:=by unfold Hd.Yl;rw[if_pos hl];rfl
 have hlf:=(H.WB hx).1;simp only[Zn]at hlf;have hkd:X.A.Yh n=h.kind:=by unfold Tr.Yh;rw[hlf,if_pos rfl];exact H.kd
 have hdc:X.A.Tw n=false:=by unfold Tr.Tw;rw[hlf];simp
 refine⟨by rw[hkd,beq_iff_eq],fun _=>hK,fun _ h2 h9=>by omega,fun hc=>(by rw[hdc]at hc;cases hc),fun hc=>?_,fun hc=>?_,fun _ h2 h3 h4 o l ho hl' h5=>?_⟩
 .rw[hlf]at hc;exact absurd hc (by show(1:Int)≠4;decide)
 .rw[hlf]at hc;exact absurd hc (by show(1:Int)≠3;decide)
 .rw[hlf]at h2 h3 h4 ho hl';change(X.A.nd ((N:Nat):Int)).place=0 at h2;change(X.A.rw (X.A.nd ((N:Nat):Int)).list).clause≠ -1 at h3;change(X.A.nd ((N:Nat):Int)).h.label.size=0 at h4;rw[H.eq]at h2 h3 h4;have ho':o=(X.A.rw (a:Int)).owner:=by rw[ho];show(X.A.rw (X.A.nd ((N:Nat):Int)).list).owner=_;rw[H.eq];rfl
  have hl'':l=X.A.ch o (X.A.rw (a:Int)).clause:=by rw[hl'];show X.A.ch o (X.A.rw (X.A.nd ((N:Nat):Int)).list).clause=_;rw[H.eq];rfl
  subst ho';have hp0:p=0:=by have:((p:Nat):Int)=0:=h2;omega
  exact hcl h4 hp0 h3 l hl'' h5
theorem IG (H:Vy A h N i a p n R R2 oc) (hl:h.Zu=true):n < A.ls.length/\A.Yh n=h.kind:=by
 have hx:(h.Yl N)[0]? =some ⟨N,1,0⟩:=by unfold Hd.Yl;rw[if_pos hl];rfl
 have hlf:=H.WB hx;simp only[Zn]at hlf;refine⟨hlf.2,?_⟩;unfold Tr.Yh;rw[hlf.1,if_pos rfl];exact H.kd
theorem Ra {fs fg:Bool} (H:Vy X.A h N i a p n R R2 oc) (hl:h.Zu=true) {r:Bool} (hn:X.G.node c0 j0 ⟨lp n,r⟩):X.ob fs fg [⟨1,a,p⟩] (c0,j0):=
 V6 H.at' (by rw[H.IK hl];exact Wy hn rfl (Tm _))
theorem B9 (H:Rs ls D env Ts P m S) (hp:S.pt c0 j0) (I:Vy A h N i a p n R R2 oc) (hl:h.Zu=true) (hm:m<=40000) (hn:n<=40000) {lab:Option Nat} {tg:List Tg} {B E:Lr} {Sw Ty eE:Nat->BS->Option BS} {comms:BS->Option BS}
  (e:Yi h n i lab tg B E Sw Ty eE comms S=some S'):
  LT A P S S' (N+1) (N+1) n (n+1) os env ⟨1,a,p⟩ c0 j0 ⟨1,a,(p:Int)+1⟩ opq (fun X=>Hyp X/\(h.label.size=0->TS A a p c0 j0 X)):=by
 have hk:=Oa.1 hl;obtain⟨hlt,hkd⟩:=IG I hl;unfold Yi at e;by_cases h1:h.kind=1
 .rw[if_pos h1]at e;obtain⟨S1,e1,e2⟩:=Z8.1 e;obtain⟨p1,x1⟩:=Wh e1 hp;obtain⟨p2,x2⟩:=vu e2 p1;refine⟨c0,j0+1,[],p2,fun G hG=>⟨(x1 P G (x2 P G hG).1).1,XF.nil⟩,fun X opn hA hE _ _ _ _ ⟨_,hcl⟩ hK=>?_⟩;subst hA;have hn:=(x1 P X.G (x2 P X.G hE).1).2;exact⟨Ra I hl hn,by simp,fun hiv=>Cb e2 ⟨n,rfl,hlt,by omega⟩ (WW e1 hp H (.inr ⟨n,rfl,hlt,LR (tl:=.nil) I hl (by omega) hcl hK.any⟩) hiv),UZ hn rfl (fun _=>(x2 P X.G hE).2)⟩
 rw[if_neg h1]at e;by_cases h2:h.kind=2
 .rw[if_pos h2]at e;obtain⟨S1,e1,e2⟩:=Z8.1 e;obtain⟨S2,e2,e3⟩:=Z8.1 e2;obtain⟨p1,x1⟩:=Wh e1 hp;obtain⟨p2,x2⟩:=vu e2 p1;obtain⟨p3,x3⟩:=LW e3;have H1:=H.Nr (by omega) hp.1 (Vk (by omega)) e1;have H2:=H1.Z9C (by omega) (by omega) e2;have xs:=Cd e3 p2 H2;refine⟨_,_,[],p3,fun G hG=>⟨(x1 P G (x2 P G (x3 P G hG)).1).1,XF.nil⟩,fun X opn hA hE _ _ _ _ ⟨_,hcl⟩ hK=>?_⟩;subst hA;have hE2:=x2 P X.G (x3 P X.G hE);have hn:=(x1 P X.G hE2.1).2;have hg:=Gq I hl (by omega) hcl (xs X.G hE);rw[show(h.kind==9)=false by simp[h2]]at hg;exact⟨Ra I hl hn,by simp,fun hiv=>Ka e3 (Cb e2 ⟨n,rfl,hlt,by omega⟩ (WW e1 hp H (.inr ⟨n,rfl,hlt,hg⟩) hiv)),UZ hn rfl (fun _=>hE2.2)⟩
 rw[if_neg h2]at e;by_cases h7:h.kind=7
 .rw[if_pos h7]at e;obtain⟨S1,e1,e2⟩:=Z8.1 e;obtain⟨p1,x1⟩:=Wh e1 hp;obtain⟨p2,x2⟩:=Cc e2 p1;refine⟨_,_,[],p2,fun G hG=>⟨(x1 P G (x2 P G hG)).1,XF.nil⟩,fun X opn hA hE _ _ _ _ ⟨_,hcl⟩ hK=>?_⟩;subst hA;have hn:=(x1 P X.G (x2 P X.G hE)).2;exact⟨Ra I hl hn,by simp,fun hiv=>Ca e1 e2 hp H (.inr ⟨n,rfl,hlt,LR (tl:=.nil) I hl (by omega) hcl hK.any⟩) ⟨n,rfl,by omega⟩ hiv,UZ hn rfl (fun hq=>by omega)⟩
 rw[if_neg h7]at e;by_cases h9:h.kind=9
 .rw[if_pos h9]at e;obtain⟨S1,e1,e2⟩:=Z8.1 e;obtain⟨S2,e2,e3⟩:=Z8.1 e2;obtain⟨p1,x1⟩:=Cc e1 hp;obtain⟨p2,x2⟩:=Wh e2 p1;obtain⟨p3,x3⟩:=LW e3;have H1:=H.Z9D hp.1 e1;have H2:=H1.Nr (by omega) p1.1 (Vk (by omega)) e2;have xs:=Cd e3 p2 H2;refine⟨_,_,[],p3,fun G hG=>⟨x1 P G (x2 P G (x3 P G hG)).1,XF.nil⟩,fun X opn hA hE _ _ _ _ ⟨_,hcl⟩ hK=>?_⟩;subst hA;have hn:=(x2 P X.G (x3 P X.G hE)).2;have hg:=Gq I hl (by omega) hcl (xs X.G hE);rw[show(h.kind==9)=true by simp[h9]]at hg;exact⟨Ra I hl hn,by simp,fun hiv=>E1 e1 e2 e3 hp H (.inr ⟨n,rfl,hlt,hg⟩) rfl hiv,UZ hn rfl (fun hq=>by omega)⟩
 rw[if_neg h9,if_pos (by omega)]at e;obtain⟨p1,x1⟩:=Wh e hp;refine⟨_,_,[],p1,fun G hG=>⟨(x1 P G hG).1,XF.nil⟩,fun X opn hA hE _ _ _ _ ⟨_,hcl⟩ hK=>?_⟩;subst hA;have hn:=(x1 P X.G hE).2;exact⟨Ra I hl hn,by simp,fun hiv=>WW e hp H (.inr ⟨n,rfl,hlt,LR (tl:=.nil) I hl (by omega) hcl hK.any⟩) hiv,UZ hn rfl (fun hq=>by omega)⟩
end
section
variable {ls D:List ByteArray} {env:List DF} {Ts P P':List Nat} {m:Nat} {S S' S1:BS} {G:Gr} {c0 j0 cc jj:Nat} {A:Tr} {X:Cx} {h:Hd} {b e c tl:T} {N i a p n R R2 N2:Nat} {oc:WG} {os:List Nat} {opq:Prop} {Hyp:Cx->Prop} {fl:Bool} {opn:Prop}
theorem Gp (hl:h.Zu=false) (hi:h.init=true):(h.Yl N)[0]? =some ⟨N,2,0⟩:=by
 unfold Hd.Yl;rw[hl,hi];rfl
theorem Tl (hl:h.Zu=false) (hc:h.hasCond=true):(h.Yl N)[h.init.toNat]? =some ⟨N,3,0⟩:=by
 unfold Hd.Yl;rw[hl,hc];cases h.init<;>rfl
theorem Gn (hl:h.Zu=false) (hp:h.post=true):(h.Yl N)[h.init.toNat+h.hasCond.toNat]? =some ⟨N,4,0⟩:=by
 unfold Hd.Yl;rw[hl,hp];cases h.init<;>cases h.hasCond<;>rfl
theorem WV {x:Int} (h:(A.lf x).what≠1):A.Yh x=0:=by unfold Tr.Yh;rw[if_neg h]
theorem Gm {x:Nat} (hlf:X.A.lf x=⟨N,2,0⟩) (hK:X.ob true true [X.A.entered N] (cc,jj+1)):LG X cc jj x false:=by
 have hk:X.A.Yh x=0:=WV (by rw[hlf];show(2:Int)≠1;decide);have hd:X.A.Tw x=false:=by unfold Tr.Tw;rw[hlf];simp
 refine⟨by rw[hk];simp,by rw[hk];simp,fun _ _ _ v=>?_,fun hc=>(by rw[hd]at hc;cases hc),fun hc=>?_,fun hc=>?_,fun hc=>?_⟩
 .unfold Tr.Nu;rw[hlf];exact hK
 .rw[hlf]at hc;exact absurd hc (by show(2:Int)≠4;decide)
 .rw[hlf]at hc;exact absurd hc (by show(2:Int)≠3;decide)
 .rw[hlf]at hc;exact absurd hc (by show(2:Int)≠1;decide)
theorem xU {x:Nat} (hlf:X.A.lf x=⟨N,4,0⟩) (hj:jj=0) (hb:X.G.Qi cc 6 (X.A.nd N).number) (hK:X.ob true true [⟨2,N,0⟩] (cc,jj+1)):LG X cc jj x false:=by
 have hk:X.A.Yh x=0:=WV (by rw[hlf];show(4:Int)≠1;decide);have hd:X.A.Tw x=false:=by unfold Tr.Tw;rw[hlf];simp
 refine⟨by rw[hk];simp,by rw[hk];simp,fun _ _ _ v=>?_,fun hc=>(by rw[hd]at hc;cases hc),fun _=>⟨hj,?_⟩,fun hc=>?_,fun hc=>?_⟩
 .unfold Tr.Nu;rw[hlf];exact hK
 .rw[hlf];exact hb
 .rw[hlf]at hc;exact absurd hc (by show(4:Int)≠3;decide)
 .rw[hlf]at hc;exact absurd hc (by show(4:Int)≠1;decide)
theorem Q9 {x:Nat} (hlf:A.lf x=⟨N,3,0⟩) (v:Bool):A.Nu x v= [A.decided N v]:=by
 unfold Tr.Nu;rw[hlf];rfl
theorem Gl {x t f:Nat} (hlf:X.A.lf x=⟨N,3,0⟩) (hN:X.A.kd N=10\/X.A.kd N=11) (he:X.G.ends cc (jj+1) [t,f]) (ht:X.ob true true [X.A.decided N true] (t,0)) (hf:X.ob true true [X.A.decided N false] (f,0)) (hT:vt X x cc t f):LG X cc jj x false:=by
 have hk:X.A.Yh x=0:=WV (by rw[hlf];show(3:Int)≠1;decide);have hd:X.A.Tw x=true:=by unfold Tr.Tw;rw[hlf];simpa using hN
 refine⟨by rw[hk];simp,by rw[hk];simp,fun hc=>(by rw[hd]at hc;cases hc),fun _=>⟨t,f,he,by rw[Q9 hlf];exact ht,by rw[Q9 hlf];exact hf,hT⟩,fun hc=>?_,fun _ hc=>?_,fun hc=>?_⟩
 .rw[hlf]at hc;exact absurd hc (by show(3:Int)≠4;decide)
 .rw[hlf]at hc;have hc':X.A.kd N=12:=hc;omega
 .rw[hlf]at hc;exact absurd hc (by show(3:Int)≠1;decide)
theorem qZ {x:Nat} (hlf:X.A.lf x=⟨N,3,0⟩) (hN:X.A.kd N=13) (hK:X.ob true true [⟨3,N,0⟩] (cc,jj+1)):LG X cc jj x false:=by
 have hk:X.A.Yh x=0:=WV (by rw[hlf];show(3:Int)≠1;decide);have hd:X.A.Tw x=false:=by unfold Tr.Tw;rw[hlf];simp[hN]
 refine⟨by rw[hk];simp,by rw[hk];simp,fun _ _ _ v=>?_,fun hc=>(by rw[hd]at hc;cases hc),fun hc=>?_,fun _ hc=>?_,fun hc=>?_⟩
 .rw[Q9 hlf];unfold Tr.decided;rw[if_neg (by omega),if_pos hN];exact hK
 .rw[hlf]at hc;exact absurd hc (by show(3:Int)≠4;decide)
 .rw[hlf]at hc;have hc':X.A.kd N=12:=hc;omega
 .rw[hlf]at hc;exact absurd hc (by show(3:Int)≠1;decide)
theorem qY {x hd t f:Nat} (hlf:X.A.lf x=⟨N,3,0⟩) (hN:X.A.kd N=12) (he:X.G.ends cc (jj+1) [hd]) (he2:X.G.ends hd 0 [t,f]) (k1:X.G.Qi hd 13 (X.A.nd N).number) (k2:X.G.Qi t 11 (X.A.nd N).number) (k3:X.G.Qi f 12 (X.A.nd N).number) (hK:X.ob true true [⟨5,N,0⟩] (cc,jj+1)):LG X cc jj x false:=by
 have hk:X.A.Yh x=0:=WV (by rw[hlf];show(3:Int)≠1;decide);have hd:X.A.Tw x=false:=by unfold Tr.Tw;rw[hlf];simp[hN]
 refine⟨by rw[hk];simp,by rw[hk];simp,fun _ _ _ v=>?_,fun hc=>(by rw[hd]at hc;cases hc),fun hc=>?_,fun _ _=>?_,fun hc=>?_⟩
 .rw[Q9 hlf];unfold Tr.decided;rw[if_pos hN];exact hK
 .rw[hlf]at hc;exact absurd hc (by show(3:Int)≠4;decide)
 .rw[hlf];exact⟨_,_,_,he,he2,k1,k2,k3⟩
 .rw[hlf]at hc;exact absurd hc (by show(3:Int)≠1;decide)
theorem Gk {x k t f:Nat} (hlf:X.A.lf x=⟨N,5,k⟩) (hN:X.A.kd N=13) {q:Int} (hq:(X.A.nd N).YY[k]? =some q) (he:X.G.ends cc (jj+1) [t,f]) (ht:X.ob true true [⟨1,(X.A.ch N q).list,0⟩] (t,0)) (hf:X.ob true true [⟨3,N,(k:Int)+1⟩] (f,0)) (kt:X.G.Qi t 17 (X.A.ch N q).number):LG X cc jj x false:=by
 have hk:X.A.Yh x=0:=WV (by rw[hlf];show(5:Int)≠1;decide);have hd:X.A.Tw x=true:=by unfold Tr.Tw;rw[hlf];simp
 have hq':(X.A.nd N).YY.getD ((k:Nat):Int).toNat 0=q:=by rw[Y1,Zy,hq];rfl
 refine⟨by rw[hk];simp,by rw[hk];simp,fun hc=>(by rw[hd]at hc;cases hc),fun _=>⟨t,f,he,?_,?_,⟨fun hc=>?_,fun hc=>?_,fun _=>?_⟩⟩,fun hc=>?_,fun hc=>?_,fun hc=>?_⟩
 .unfold Tr.Nu;rw[hlf];show X.ob true true [⟨1,(X.A.ch N ((X.A.nd N).YY.getD ((k:Nat):Int).toNat 0)).list,0⟩] _;rw[hq'];exact ht
 .unfold Tr.Nu;rw[hlf];exact hf
 .rw[hlf]at hc;have hc':X.A.kd N=10:=hc;omega
 .rw[hlf]at hc;have hc':X.A.kd N=11:=hc;omega
 .rw[hlf];show X.G.Qi t 17 (X.A.ch N ((X.A.nd N).YY.getD ((k:Nat):Int).toNat 0)).number;rw[hq'];exact kt
 .rw[hlf]at hc;exact absurd hc (by show(5:Int)≠4;decide)
 .rw[hlf]at hc;exact absurd hc (by show(5:Int)≠3;decide)
 .rw[hlf]at hc;exact absurd hc (by show(5:Int)≠1;decide)
theorem Q8 {is:Bool} (e:S.XB is n=some S1) (hp:S.pt cc jj):S1.pt cc (jj+is.toNat)/\ ∀ P G,Ext S1 P G->Ext S P G/\(is=true->G.node cc jj ⟨lp n,false⟩):=by
 unfold BS.XB at e;cases is with
 |false=>
  simp at e;subst e;exact⟨hp,fun P G h=>⟨h,fun h=>by cases h⟩⟩
 |true=>
  simp only[if_true]at e;obtain⟨h1,h2⟩:=Wh e hp;exact⟨h1,fun P G h=>⟨(h2 P G h).1,fun _=>(h2 P G h).2⟩⟩
theorem TR {is:Bool} (e:S.XB is n=some S1) (hp:S.pt cc jj) (H:Rs ls D env Ts P m S) (hN:is=true->X.ng cc jj ⟨lp n,false⟩) (h:X.iv opn S):X.iv opn S1:=by
 unfold BS.XB at e;cases is with
 |false=>simp at e;subst e;exact h
 |true=>simp only[if_true]at e;exact WW e hp H (hN rfl) h
theorem Rs.N9 (H:Rs ls D env Ts P m S) (hm:m<=50000) {cc:Nat} (hc:S.cur=some cc) {is:Bool} (hn:n<=40000) (e:S.XB is n=some S1):Rs ls D env Ts P (m+1) S1/\S1.Z6.length=S.Z6.length/\S1.ZT=S.ZT:=by
 obtain⟨S',e',H',_,h1⟩:=H.maybe hm hc is n hn;rw[e]at e';cases e';exact⟨H',h1⟩
theorem RX {is:Bool} {k:Int} (e:S.Yq is k i=some S1) (hp:S.pt cc jj):S1.pt cc jj/\S1.Z6.length=S.Z6.length+is.toNat/\ ∀ P G,Ext S1 (if is then S.Z6.length::P else P) G->Ext S P G/\(is=true->G.kind S.Z6.length k (some (ip i))):=by
 unfold BS.Yq at e;cases is with
 |false=>
  simp at e;subst e;exact⟨hp,rfl,fun P G h=>⟨h,fun h=>by cases h⟩⟩
 |true=>
  simp only[if_true]at e;obtain⟨h1,h2⟩:=WO e hp;have:=Tp e;exact⟨h1,by rw[this,Pw];rfl,fun P G h=>⟨(h2 P G h).1,fun _=>(h2 P G h).2⟩⟩
theorem TP {is:Bool} {k:Int} (e:S.Yq is k i=some S1) (h:X.iv opn S):X.iv opn S1:=by
 unfold BS.Yq at e;cases is with
 |false=>simp at e;subst e;exact h
 |true=>simp only[if_true]at e;exact XJ e h
theorem Rs.QA (H:Rs ls D env Ts P m S) (hm:m<=50000) {cc:Nat} (hc:S.cur=some cc) {is:Bool} {k:Int} (hk:1 < k/\k<=19/\k≠10) (hi:i<=40000) (e:S.Yq is k i=some S1):Rs ls D env Ts (if is then S.Z6.length::P else P) (m+1) S1/\S1.cur=some cc/\S1.ZT=S.ZT:=by
 obtain⟨S',e',H',h1,_,h2⟩:=H.Yq hm hc is i hk hi (P:=P);rw[e]at e';cases e';exact⟨H',h1,h2⟩
theorem Pn {b:T} (hb:VK A ls b) (H:Rs ls D env Ts P m S) (hp:S.pt cc jj) (bs:b.Xv true) (bo:b.ok) (bf:b.fA) (bb:b.VN ls (env.map DF.s) false) (hl:LC ls D b.labels) {n1 i1 N1 r:Nat} (hm:m+16*b.wt<=40000) (hn:n1+b.lv false<=39000) (hi:i1+b.it<=40000)
  (e:b.YO.list n1 i1 (env.map DF.t) S=some S') {o:Out} (ho:o=b.rd.l N1 (r+1) n1 i1 r 0) (hrw:A.rs[r]? =some ⟨N,-1,o.ids⟩) (hsub:Sub A N1 (r+1) n1 o.ls o.ns o.rs) (hch:QF A (A.nd N).list os) (hos:os.length+1<=N1):
  LT A P S S' N1 (N1+o.ns.length) n1 (n1+b.lv false) (N::os) env ⟨1,r,0⟩ cc jj ⟨1,r,b.len⟩ b.opn (fun _=>True)/\(A.rw r).owner=N/\(A.rw r).nodes.length=b.len:=by
 subst ho;have hr:=WY hrw;have h1:=hb D env Ts P m S S' n1 i1 false N1 (r+1) r 0 (N::os) cc jj H hp bs bo bf bb (by simp) hl hm hn hi e hsub (by rw[hr];exact Seg.self _) ⟨by rw[hr],hch⟩ (by simp;omega) (fun hc=>absurd (by rw[hr]) hc);refine⟨?_,by rw[hr],by rw[hr];exact II b bs _ _ _ _ _ _⟩;obtain⟨c',j',new,g1,g2,g3⟩:=h1;refine⟨c',j',new,g1,g2,fun X opn hA hE hL hG hX ho _ hK=>?_⟩;refine g3 X opn hA hE hL hG hX ho ⟨fun hc=>absurd hc (by simp),fun _ hc=>absurd (by rw[hr]) hc⟩ ?_;have e1:(((0:Nat):Int)+(b.len:Int))=(b.len:Int):=by omega
 rw[e1];exact hK
theorem Q7 {r l:Nat} {fs fg:Bool} {q:Pt} (ho:(X.A.rw r).owner=N) (hl:(X.A.rw r).nodes.length=l) (hk:X.A.kd N≠11/\X.A.kd N≠12) (h:X.ob true fg [X.A.behind N] q):X.ob fs fg [⟨1,r,l⟩] q:=
 .sp (Gs ho hl) (by rw[J8 ho hk];exact h)
theorem xT {r l:Nat} {fs fg:Bool} {q:Pt} (ho:(X.A.rw r).owner=N) (hl:(X.A.rw r).nodes.length=l) (hk:X.A.kd N=11\/X.A.kd N=12) (h:X.ob true fg [X.A.again N] q):X.ob fs fg [⟨1,r,l⟩] q:=
 .sp (Gs ho hl) (by rw[IJ ho hk];exact h)
end
section
variable {ls D:List ByteArray} {env:List DF} {Ts P P':List Nat} {m:Nat} {S S' S1:BS} {G:Gr} {c0 j0 cc jj:Nat} {A:Tr} {X:Cx} {h:Hd} {b e c tl:T} {N i a p n R R2 R3 N2:Nat} {ob oe:Out} {oc:WG} {ot:Out} {os:List Nat} {opq:Prop} {Hyp:Cx->Prop} {fl:Bool} {opn:Prop}
theorem IF (H:Vy A h N i a p n R R2 oc) (hk:h.kind=21):A.entered N=A.behind N:=by
 unfold Tr.entered;rw[H.kd,hk];rfl
theorem IE (H:Vy A h N i a p n R R2 oc) (hk:h.kind=16):A.entered N=⟨1,R,0⟩:=by
 unfold Tr.entered;rw[H.kd,hk];show(⟨1,(A.nd N).body,0⟩:Pl)=_;rw[H.eq];show(⟨1,YL h.Zz R,0⟩:Pl)=_;rw[Wm (Yo.2 (by omega))]
theorem N8 (H:Vy A h N i a p n R R2 oc) (hk:h.kind=10\/h.kind=11):A.entered N=⟨2,N,0⟩:=by
 unfold Tr.entered;rw[H.kd,if_pos hk]
theorem IC (H:Vy A h N i a p n R R2 oc) (hk:h.kind=12):A.entered N=⟨6,(A.nd N).cnd,0⟩:=by
 unfold Tr.entered;rw[H.kd,hk];rfl
theorem IB (H:Vy A h N i a p n R R2 oc) (hk:h.kind=13):A.entered N=if(A.nd N).cnd≠ -1 then⟨6,(A.nd N).cnd,0⟩else⟨3,N,0⟩:=by
 unfold Tr.entered;rw[H.kd,hk];rfl
theorem N7 (H:Vy A h N i a p n R R2 oc) (hk:h.kind=14\/h.kind=15):A.entered N=⟨4,N,0⟩:=by
 unfold Tr.entered;rw[H.kd];rw[if_neg (by omega),if_neg (by omega),if_neg (by omega),if_pos hk]
theorem IA (H:Vy A h N i a p n R R2 oc) (hk:h.kind=17\/h.kind=18\/h.kind=19\/h.kind=20):A.entered N=
  if h.kind=17 then A.behind (A.tgt N)else if h.kind=18 then A.again (A.tgt N)else if h.kind=19 then⟨1,(A.nd (A.tgt N)).list,(A.nd (A.tgt N)).place⟩else A.next a (A.tgt N):=by
 unfold Tr.entered;rw[H.kd];rw[if_neg (by omega),if_neg (by omega),if_neg (by omega),if_neg (by omega),if_neg (by omega)];rcases hk with hk|hk|hk|hk
 .rw[hk];rfl
 .rw[hk];rfl
 .rw[hk];rfl
 .rw[hk];show A.next (A.nd N).list (A.tgt N)=A.next a (A.tgt N);rw[H.eq];rfl
theorem Wx {h:Hd} (hk:10<=h.kind):h.Zu=false:=by
 unfold Hd.Zu;simp;omega
theorem EZ (H:Rs ls D env Ts P m S) (hp:S.pt c0 j0) (I:Vy A h N i a p n R R2 oc) (hk:h.kind=21) (hf:Ql h b e c) (e:S.Yk ⟨0,false⟩=some S'):
  LT A P S S' N2 N2 n n os env ⟨1,a,p⟩ c0 j0 ⟨1,a,(p:Int)+1⟩ opq Hyp:=by
 obtain⟨p1,x1⟩:=Wh e hp;refine⟨_,_,[],p1,fun G hG=>⟨(x1 P G hG).1,XF.nil⟩,fun X opn hA hE _ _ _ _ _ hK=>?_⟩;subst hA;have hn:=(x1 P X.G hE).2;have hi:h.init=false:=by
  cases hi:h.init with
  |false=>rfl
  |true=>have:=hf.1.ini hi;omega
 refine⟨V6 I.at' ?_,by simp,fun hiv=>WW e hp H (.inl ⟨rfl,rfl⟩) hiv,Cx.Vc.nil⟩;rw[I.WD (Wx (by omega)) hi,IF I hk,I.behind];exact Rb hn rfl hK.any
theorem EY (hb:VK A ls b) (H:Rs ls D env Ts P m S) (hp:S.pt c0 j0) (I:Nv A h b e c tl N R n i a p ob oe oc ot R2 R3) (In:Vy A h N i a p n R R2 oc) (hf:Ql h b e c) (hk:h.kind=16) (bs:b.Xv true) (bo:b.ok) (bf:b.fA) (bb:b.VN ls (env.map DF.s) false) (hl:LC ls D b.labels)
  (hm:m+16*b.wt<=40000) (hn:n+h.own+b.lv false<=39000) (hi:i+1+b.it<=40000) (hch:QF A a os) (hos:os.length<=N) (e':b.YO.list (n+h.own) (i+1) (env.map DF.t) S=some S'):
  LT A P S S' (N+1) (N+1+ob.ns.length) n (n+h.own+b.lv false) os env ⟨1,a,p⟩ c0 j0 ⟨1,a,(p:Int)+1⟩ b.opn Hyp:=by
 have hown:h.own=(h.Yl N).length:=Yj.1.symm;have hi0:h.init=false:=by
  cases hi:h.init with
  |false=>rfl
  |true=>have:=hf.1.ini hi;omega
 have hc0:h.cond=false:=by
  cases hi:h.cond with
  |false=>rfl
  |true=>have:=hf.1.cnd hi;omega
 have hp0:h.post=false:=by
  cases hi:h.post with
  |false=>rfl
  |true=>have:=hf.1.Ym hi;omega
 have hlf:h.Zu=false:=Wx (by omega);have hcc:h.hasCond=false:=by unfold Hd.hasCond;rw[hc0,hk];rfl
 have h0:h.own=0:=by rw[hown,(Yj (h:=h) (N:=N)).1,hi0,hlf,hp0,hcc];rfl
 have hbd:h.Zz=true:=Yo.2 (by omega);obtain⟨r1,r2⟩:=I.sb hbd;have heb:ob=b.rd.l (N+1) (R+1) (n+h.own) (i+1) R 0:=by rw[I.eb,QE hf,hown]
 rw[<-hown]at r2;have LJ:(A.nd N).list=a:=by rw[In.eq];rfl
 obtain⟨⟨c',j',new,g1,g2,g3⟩,q1,q2⟩:=Pn hb H hp bs bo bf bb hl (n1:=n+h.own) (i1:=i+1) (N1:=N+1) (r:=R) hm hn hi e' heb r1 r2 (by rw[LJ];exact hch) (by omega);refine⟨c',j',new,g1,g2,fun X opn hA hE hL hG hX ho _ hK=>?_⟩;subst hA;have hkd:X.A.kd N=16:=by rw[In.kd];exact hk
 have hfr:(X.A.nd N).h.frame= []:=by rw[In.eq];exact Vi (h:=h) (by omega)
 obtain⟨k1,k2,k3,k4⟩:=g3 X opn rfl hE hL hG (.skip hfr hX) ho trivial (Q7 (N:=N) q1 q2 (by rw[hkd];decide) (by rw[In.behind];exact hK.any));refine⟨V6 In.at' ?_,k2,k3,?_⟩
 .rw[In.WD hlf hi0,IE In hk];exact k1.any
 .rw[h0,Zn]at k4 ⊢;exact k4
theorem Gj (H:Vy A h N i a p n R R2 oc) (hl:h.Zu=false) (hc:h.hasCond=true):A.mv ⟨2,N,0⟩=([],some ((n+h.init.toNat:Nat):Int)):=by
 unfold Tr.mv;rw[if_neg (by show(2:Int)≠1;decide),if_pos rfl];have hcnd:(A.nd N).cnd=((n+h.init.toNat:Nat):Int):=by
  rw[H.eq];show YL h.hasCond (n+h.Zu.toNat+h.init.toNat)=_;rw[Wm hc,hl];rfl
 show(if(A.nd N).cnd= -1 then _ else(([]:List Pl),some (A.nd N).cnd))=_;rw[hcnd,if_neg (by omega)]
theorem qX (hb:VK A ls b) (he:VK A ls e) (fb:FL ls b) (fe:FL ls e) (H:Rs ls D env Ts P m S) (hp:S.pt c0 j0) (I:Nv A h b e c tl N R n i a p ob oe oc ot R2 R3) (In:Vy A h N i a p n R R2 oc) (hf:Ql h b e c) (hk:h.kind=10) (bs:b.Xv true) (es:e.Xv true) (bo:b.ok) (eo:e.ok)
  (bf:b.fA) (ef:h.ZV=true->e.fA) (bb:b.VN ls (env.map DF.s) false) (be:e.VN ls (env.map DF.s) false) (hl:LC ls D (b.labels++e.labels))
  (hm:m+14+16*(b.wt+e.wt)<=40000) (hn:n+h.own+b.lv false+e.lv false<=39000) (hi:i+1+b.it+e.it<=40000) (hch:QF A a os) (hos:os.length<=N)
  (e':AC h n i (env.map DF.t) (b.YO.list (n+h.own) (i+1)) (e.YO.list (n+h.own+b.lv false) (i+1+b.it)) S=some S'):
  LT A P S S' (N+1) (N+1+ob.ns.length+oe.ns.length) n (n+h.own+b.lv false+e.lv false) os env ⟨1,a,p⟩ c0 j0 ⟨1,a,(p:Int)+1⟩ (b.opn\/e.opn) Hyp:=by
 have hown:h.own=(h.Yl N).length:=Yj.1.symm;have hc0:h.cond=false:=by
  cases hi:h.cond with
  |false=>rfl
  |true=>have:=hf.1.cnd hi;omega
 have hp0:h.post=false:=by
  cases hi:h.post with
  |false=>rfl
  |true=>have:=hf.1.Ym hi;omega
 have hlf:h.Zu=false:=Wx (by omega);have hcc:h.hasCond=true:=by unfold Hd.hasCond;rw[hk];simp
 have h0:h.own=h.init.toNat+1:=by rw[hown,(Yj (h:=h) (N:=N)).1,hlf,hp0,hcc];simp
 have hin:h.init.toNat<=1:=ZG h.init;have hbd:h.Zz=true:=Yo.2 (by omega);obtain⟨r1,r2⟩:=I.sb hbd;have heb:ob=b.rd.l (N+1) (R+1) (n+h.own) (i+1) R 0:=by rw[I.eb,QE hf,hown]
 rw[<-hown]at r2;have LJ:(A.nd N).list=a:=by rw[In.eq];rfl
 have hlv:=(Qg b).1 bs bf (N+1) (R+1) (n+h.own) (i+1) R 0;rw[<-heb]at hlv;obtain⟨l1,l2⟩:=hl.app;have lP: ∀ p∈P,p < S.Z6.length:=fun p hp=>H.lt hp;unfold AC at e';obtain⟨S0,e0,e'⟩:=Z8.1 e';obtain⟨S1,e1,e'⟩:=Z8.1 e';obtain⟨S2,e2,e'⟩:=Z8.1 e';obtain⟨S3,e3,e'⟩:=Z8.1 e';obtain⟨S4,e4,e'⟩:=Z8.1 e';obtain⟨S5,e5,e'⟩:=Z8.1 e';obtain⟨S6,e6,e'⟩:=Z8.1 e';obtain⟨S7,e7,e'⟩:=Z8.1 e';obtain⟨S9,e9,e'⟩:=ZX.1 e';subst e';obtain⟨H0,q0,_⟩:=H.N9 (by omega) hp.1 (by omega) e0;obtain⟨p0,x0⟩:=Q8 e0 hp;obtain⟨H1,c1,q1,_⟩:=H0.newE (by omega) p0.1 (by decide) (XK (by omega)) e1;obtain⟨p1,x1⟩:=WO e1 p0;obtain⟨H2,c2,q2,_⟩:=H1.newE (by omega) p1.1 (by decide) (XK (by omega)) e2;obtain⟨p2,x2⟩:=WO e2 p1;obtain⟨H3,c3,_⟩:=H2.QA (by omega) p2.1 (by decide) (by omega) e3;obtain⟨p3,q3,x3⟩:=RX e3 p2;have H4:=H3.Nr (by omega) p3.1 (Vk (by omega)) e4;obtain⟨p4,x4⟩:=Wh e4 p3;have sY:=TU e4 p3;have Z5w:S4.Z6.length=S3.Z6.length:=by
  obtain⟨k,_,_,hS⟩:=Vz e4 p3;rw[hS];simp[BS.set]
 have t1:S0.Z6.length∈(if h.ZV then S2.Z6.length::S1.Z6.length::S0.Z6.length::P else S1.Z6.length::S0.Z6.length::P):=by split<;>simp
 have t2:(if h.ZV then S2.Z6.length else S1.Z6.length)∈(if h.ZV then S2.Z6.length::S1.Z6.length::S0.Z6.length::P else S1.Z6.length::S0.Z6.length::P):=by split<;>simp
 obtain⟨H5,c5,q5,_⟩:=H4.vr p4.1 (H4.pt t1) (H4.pt t2) e5;have x5:=Kb e5 p4 H4;have h3:S1.Z6.length∉P:=fun hp=>by have:=lP _ hp;omega
 have h4:S2.Z6.length∉P:=fun hp=>by have:=lP _ hp;omega
 have h5:S0.Z6.length∉P:=fun hp=>by have:=lP _ hp;omega
 have jl: ∀ p∈(if h.ZV then S2.Z6.length::S1.Z6.length::P else S1.Z6.length::P),p∈(if h.ZV then S2.Z6.length::S1.Z6.length::S0.Z6.length::P else S1.Z6.length::S0.Z6.length::P):=by
  split<;>simp<;>intro p hp<;>simp[hp]
 have wk:=H5.at (P':=if h.ZV then S2.Z6.length::S1.Z6.length::P else S1.Z6.length::P) t1 jl (by
   split
   .exact ZS.2 ⟨by simp;exact⟨by omega,h4⟩,ZS.2 ⟨h3,H.w.nd⟩⟩
   .exact ZS.2 ⟨h3,H.w.nd⟩) (by split<;>simp[h5]<;>omega)
 obtain⟨p5,qW⟩:=WR (P':=if h.ZV then S2.Z6.length::S1.Z6.length::P else S1.Z6.length::P) H5 t1 jl;obtain⟨S6',f6,H6,_⟩:=fb D env Ts _ _ (S5.at S0.Z6.length) (n+h.own) (i+1) false wk ⟨_,rfl⟩ bo bb (by simp) l1 (by omega) (by omega) (by omega);rw[e6]at f6;cases f6;obtain⟨⟨c6,j6,new,p6,g2,g3⟩,w1,w2⟩:=Pn hb wk p5 bs bo bf bb l1 (n1:=n+h.own) (i1:=i+1) (N1:=N+1) (r:=R) (by omega) (by omega) (by omega) e6 heb r1 r2 (by rw[LJ];exact hch) (by omega);have t3:S1.Z6.length∈(if h.ZV then S2.Z6.length::S1.Z6.length::P else S1.Z6.length::P):=by split<;>simp
 obtain⟨H7,c7,q7,_⟩:=H6.St p6.1 (H6.pt t3) e7;have x7:=VP e7 p6 H6
 have back: ∀ G,Ext (S5.at S0.Z6.length) (if h.ZV then S2.Z6.length::S1.Z6.length::P else S1.Z6.length::P) G->Ext S P G/\(h.init=true->G.node c0 j0 ⟨lp n,false⟩)/\G.node c0 (j0+h.init.toNat) ⟨lp (n+h.init.toNat),false⟩/\
   G.ends c0 (j0+h.init.toNat+1) [S0.Z6.length,if h.ZV then S2.Z6.length else S1.Z6.length]/\G.kind S0.Z6.length 9 (some (ip i))/\G.kind (if h.ZV then S2.Z6.length else S1.Z6.length) (if h.ZV then 8 else 7) (some (ip i)):=by
  intro G hG;obtain⟨y4,z5⟩:=x5 G (qW G hG);obtain⟨y3,z4⟩:=x4 _ G y4;obtain⟨y2,z3⟩:=x3 _ G y3;obtain⟨y1,z2⟩:=x2 _ G y2;obtain⟨y0,z1⟩:=x1 _ G y1;obtain⟨y,z0⟩:=x0 _ G y0;refine⟨y,z0,z4,z5,z1,?_⟩;cases hh:h.ZV with
  |true=>simp only[if_true];exact z3 hh
  |false=>simp only[Zw,if_false];exact z2
 have hnlt:n+h.init.toNat < A.ls.length/\A.lf ((n+h.init.toNat:Nat):Int)=⟨N,3,0⟩:=⟨(In.WB (Tl hlf hcc)).2,(In.WB (Tl hlf hcc)).1⟩
 have hkd:A.kd N=10:=by rw[In.kd];exact hk
 have hnum:(A.nd N).number=(i:Int):=by rw[In.eq];rfl
 have hels:(A.nd N).h.ZV=h.ZV:=by rw[In.eq];rfl
 have ent:A.entered N=⟨2,N,0⟩:=N8 In (.inl hk);have qV:h.init=true->n < A.ls.length/\A.lf ((n:Nat):Int)=⟨N,2,0⟩:=fun hi=>by
  have:=In.WB (Gp (N:=N) hlf hi);simp only[Zn]at this;exact⟨this.2,this.1⟩
 have head: ∀ (X:Cx) (opn:Prop),X.A=A->Ext (S5.at S0.Z6.length) (if h.ZV then S2.Z6.length::S1.Z6.length::P else S1.Z6.length::P) X.G->X.ob true true [⟨1,R,0⟩] (S0.Z6.length,0)->X.ob true true [A.decided N false] ((if h.ZV then S2.Z6.length else S1.Z6.length),0)->
   X.ob false false [⟨1,a,p⟩] (c0,j0)/\(X.iv opn S->X.iv opn (S5.at S0.Z6.length))/\X.Vc n (n+h.own):=by
  intro X opn hA hE hT hF;subst hA;obtain⟨y,z0,z4,z5,k1,k2⟩:=back X.G hE;have Fu:X.A.decided N true=⟨1,R,0⟩:=by
   unfold Tr.decided;rw[hkd,if_neg (by decide),if_neg (by decide),if_pos rfl,In.eq];show(⟨1,YL h.Zz R,0⟩:Pl)=_;rw[Wm hbd]
  have lgc:LG X c0 (j0+h.init.toNat) (n+h.init.toNat) false:=Gl hnlt.2 (.inl hkd) z5 (by rw[Fu];exact hT) hF ⟨fun _=>?_,fun hc=>?_,fun hc=>?_⟩
  rotate_left
  .rw[hnlt.2];show X.G.Qi _ 9 (X.A.nd N).number/\X.G.Qi _ (if(X.A.nd N).h.ZV=true then 8 else 7) (X.A.nd N).number;rw[hnum,hels];exact⟨⟨i,rfl,k1⟩,⟨i,rfl,k2⟩⟩
  .rw[hnlt.2]at hc;have hc':X.A.kd N=11:=hc;omega
  .rw[hnlt.2]at hc;exact absurd hc (by show(3:Int)≠5;decide)
  have obc: ∀ fs fg,X.ob fs fg [⟨2,N,0⟩] (c0,j0+h.init.toNat):=fun fs fg=>Wy z4 rfl (Gj In hlf hcc);refine⟨V6 In.at' ?_,fun hiv=>?_,?_⟩
  .cases hi:h.init with
   |true=>
    rw[In.M0 hlf hi];exact Wy (z0 hi) rfl (Tm _)
   |false=>
    rw[In.WD hlf hi,ent];have:=obc true false;rw[hi]at this;simpa using this
  .refine XZ H5 t1 (Qh e5 p4 (.inr ?_) (WW e4 p3 H3 (.inr ⟨_,rfl,hnlt.1,lgc⟩) (TP e3 (XJ e2 (XJ e1 (TR e0 hp H (fun hi=>.inr ⟨n,rfl,(qV hi).1,Gm (qV hi).2 ?_⟩) hiv))))))
   .obtain⟨k,hk1,hk2⟩:=sY;exact⟨k,_,hk1,hk2,n+h.init.toNat,rfl,by unfold Tr.Tw;rw[hnlt.2];simp[hkd]⟩
   .rw[ent];have:=obc true true;rw[hi]at this;exact this
  .rw[h0];intro x hx1 hx2;by_cases hx:x=n+h.init.toNat
   .subst hx;exact⟨⟨_,_,_,z4,rfl⟩,fun hq=>by rw[WV (by rw[hnlt.2];show(3:Int)≠1;decide)]at hq;omega⟩
   .have hi:h.init=true:=by
     cases hi:h.init with
     |true=>rfl
     |false=>rw[hi]at hx hx2;simp at hx hx2;omega
    have:x=n:=by rw[hi]at hx hx2;simp at hx hx2;omega
    subst this;exact⟨⟨_,_,_,z0 hi,rfl⟩,fun hq=>by rw[WV (by rw[(qV hi).2];show(2:Int)≠1;decide)]at hq;omega⟩
 have fr: ∀ X:Cx,X.A=A->EX X os env->EX X (N::os) env:=fun X hA hX=>.skip (by subst hA;rw[In.eq];exact Vi (h:=h) (by omega)) hX;have lenb:n+h.own+b.lv false=n+h.own+b.lv false:=rfl;cases hh:h.ZV with
 |false=>
  rw[hh]at H7 t3 e9 x7 g2 g3 back head qW;simp only[Zw,if_false]at H7 t3 e9 x7 g2 g3 back head qW;cases e9;have hen:=hf.TW (by rw[hh];simp);subst hen;obtain⟨p9,x9⟩:=WR (P':=P) H7 t3 (by intro p hp;simp[hp]);have hoe:oe.ns.length=0:=by rw[I.ee,L7 hf];rfl
  refine⟨_,_,new,p9,fun G hG=>?_,fun X opn hA hE hL hG hX ho _ hK=>?_⟩
  .obtain⟨y6,_⟩:=x7 G (x9 G hG);obtain⟨y5,l5⟩:=g2 G y6;exact⟨(back G y5).1,by rw[hoe];exact l5⟩
  .obtain⟨y6,z7⟩:=x7 X.G (x9 X.G hE);obtain⟨y5,_⟩:=g2 X.G y6;have hkX:X.A.kd N≠11/\X.A.kd N≠12:=by rw[hA,hkd];decide
   have gd:X.A.behind N=⟨1,a,(p:Int)+1⟩:=by rw[hA,In.behind]
   obtain⟨k1,k2,k3,k4⟩:=g3 X opn hA y6 hL hG (fr X hA hX) (fun h=>ho (.inl h)) trivial (Q7 (N:=N) (by rw[hA];exact w1) (by rw[hA];exact w2) hkX (by rw[gd];exact Xr z7 hK.any));have hdF:A.decided N false=⟨1,a,(p:Int)+1⟩:=by
    unfold Tr.decided;rw[hkd,if_neg (by decide),if_neg (by decide),if_neg (by simp),In.eq];show(if YL h.ZV R2≠ -1 then _ else A.behind N)=_;rw[IL hh,if_neg (by simp),In.behind]
   obtain⟨m1,m2,m3⟩:=head X opn hA y5 k1.any (by rw[hdF];exact hK.any);refine⟨m1,k2,fun hiv=>XZ H7 t3 (Xg e7 p6 (k3 (m2 hiv))),?_⟩;simpa [T.lv]using m3.app k4
 |true=>
  rw[hh]at H7 t3 e9 x7 g2 g3 back head qW;simp only[if_true]at H7 t3 e9 x7 g2 g3 back head qW;obtain⟨S8,e8,e9⟩:=Z8.1 e9;obtain⟨r3,r4⟩:=I.se hh;have ef':=ef hh;have hee:oe=e.rd.l (N+1+ob.ns.length) (R2+1) (n+h.own+b.lv false) (i+1+b.it) R2 0:=by rw[I.ee,L7 hf,hlv.1,hlv.2,<-hown]
  rw[<-hown,hlv.1]at r4;have jk: ∀ p∈S1.Z6.length::P,p∈S2.Z6.length::S1.Z6.length::P:=by intro p hp;exact Z2 _ hp
  have zl:=H7.at (d:=S2.Z6.length) (P':=S1.Z6.length::P) (by simp) jk (ZS.2 ⟨h3,H.w.nd⟩) (by simp;exact⟨by omega,h4⟩);obtain⟨p7,fZ⟩:=WR (P':=S1.Z6.length::P) (d:=S2.Z6.length) H7 (by simp) jk;obtain⟨S8',f8,H8,_⟩:=fe _ env Ts _ _ (S7.at S2.Z6.length) (n+h.own+b.lv false) (i+1+b.it) false zl ⟨_,rfl⟩ eo be (by simp) l2 (by omega) (by omega) (by omega);rw[e8]at f8;cases f8;obtain⟨⟨c8,j8,new2,p8,g4,g5⟩,w3,w4⟩:=Pn he zl p7 es eo ef' be l2 (n1:=n+h.own+b.lv false) (i1:=i+1+b.it) (N1:=N+1+ob.ns.length) (r:=R2) (by omega) (by omega) (by omega) e8 hee r3 r4 (by rw[LJ];exact hch) (by omega);have t4:S1.Z6.length∈S1.Z6.length::P:=by simp
  obtain⟨H9,c9,q9,_⟩:=H8.St p8.1 (H8.pt t4) e9;have x8:=VP e9 p8 H8;obtain⟨p9,x9⟩:=WR (P':=P) H9 t4 (by intro p hp;simp[hp]);refine⟨_,_,new++new2,p9,fun G hG=>?_,fun X opn hA hE hL hG hX ho _ hK=>?_⟩
  .obtain⟨y8,_⟩:=x8 G (x9 G hG);obtain⟨y7,l7⟩:=g4 G y8;obtain⟨y6,_⟩:=x7 G (fZ G y7);obtain⟨y5,l5⟩:=g2 G y6;exact⟨(back G y5).1,l5.app l7⟩
  .obtain⟨y8,z9⟩:=x8 X.G (x9 X.G hE);obtain⟨y7,_⟩:=g4 X.G y8;obtain⟨y6,z7⟩:=x7 X.G (fZ X.G y7);obtain⟨y5,_⟩:=g2 X.G y6;have hkX:X.A.kd N≠11/\X.A.kd N≠12:=by rw[hA,hkd];decide
   have gd:X.A.behind N=⟨1,a,(p:Int)+1⟩:=by rw[hA,In.behind]
   obtain⟨k1,k2,k3,k4⟩:=g3 X opn hA y6 (fun x hx=>hL x (Zd _ hx)) hG (fr X hA hX) (fun h=>ho (.inl h)) trivial (Q7 (N:=N) (by rw[hA];exact w1) (by rw[hA];exact w2) hkX (by rw[gd];exact Xr z7 hK.any));obtain⟨u1,u2,u3,u4⟩:=g5 X opn hA y8 (fun x hx=>hL x (Zr _ hx)) hG (fr X hA hX) (fun h=>ho (.inr h)) trivial (Q7 (N:=N) (by rw[hA];exact w3) (by rw[hA];exact w4) hkX (by rw[gd];exact Xr z9 hK.any));have hdF:A.decided N false=⟨1,R2,0⟩:=by
    unfold Tr.decided;rw[hkd,if_neg (by decide),if_neg (by decide),if_neg (by simp),In.eq];show(if YL h.ZV R2≠ -1 then(⟨1,YL h.ZV R2,0⟩:Pl)else _)=_;rw[Wm hh,if_pos (by omega)]
   obtain⟨m1,m2,m3⟩:=head X opn hA y5 k1.any (by rw[hdF];exact u1.any);refine⟨m1,fun x hx=>(ZM.1 hx).elim (k2 x) (u2 x),fun hiv=>XZ H9 t4 (Xg e9 p8 (u3 (XZ H7 (by simp) (Xg e7 p6 (k3 (m2 hiv)))))),?_⟩;exact(m3.app k4).app u4
end
section
variable {ls D:List ByteArray} {env:List DF} {Ts P P':List Nat} {m:Nat} {S S' S1:BS} {G:Gr} {c0 j0 cc jj:Nat} {A:Tr} {X:Cx} {h:Hd} {b e c tl:T} {N i a p n R R2 R3 N2:Nat} {ob oe:Out} {oc:WG} {ot:Out} {os:List Nat} {opq:Prop} {Hyp:Cx->Prop} {fl:Bool} {opn:Prop}
theorem N6 {h:Hd} {f:SF} (hf:h.frame= [f]):f.lab=h.label/\((h.kind=11\/h.kind=12)/\f.loop=true\/(h.kind=13\/h.kind=14\/h.kind=15)/\f.loop=false):=by
 unfold Hd.frame at hf;split at hf
 .next hk=>cases hf;exact⟨rfl,.inl ⟨hk,rfl⟩⟩
 .split at hf
  .next hk=>cases hf;exact⟨rfl,.inr ⟨hk,rfl⟩⟩
  .cases hf
theorem MZ {h:Hd} (hf:h.frame= []):h.kind≠11/\h.kind≠12/\h.kind≠13/\h.kind≠14/\h.kind≠15:=by
 unfold Hd.frame at hf;split at hf
 .cases hf
 .split at hf
  .cases hf
  .omega
theorem B8 (hE:EX X os env): ∀ {s:ByteArray} {o:Nat},os.find? (fun o:Nat=>aims 17 s (X.A.nd o).h)=some o-> ∃ f∈env,(s.size=0\/f.s.lab=s)/\(s.size=0-> ∃ fs,env=f::fs)/\ ∀ d,f.t.brk=some d->X.ob true true [X.A.behind o] (d,0):=by
 induction hE with
 |nil=>intro s o h;simp at h
 | @skip o0 os env h1 _ ih=>
  intro s o h;rw[List.find?_cons]at h;have hk:=MZ h1;have ha: ∀ s,aims 17 s (X.A.nd o0).h=false:=fun s=>by unfold aims;rw[decide_eq_false_iff_not];rintro⟨h,_⟩;omega
  rw[ha]at h;exact ih h
 | @cons o0 os f env h1 h2 h3 hE ih=>
  intro s o h;rw[List.find?_cons]at h;obtain⟨hk1,hk2⟩:=N6 h1;cases ha:aims 17 s (X.A.nd o0).h with
  |true=>
   rw[ha]at h;cases h;unfold aims at ha;rw[decide_eq_true_eq]at ha;exact⟨f,by simp,ha.2.imp id fun h=>by rw[hk1,h],fun _=>⟨env,rfl⟩,h2⟩
  |false=>
   rw[ha]at h;obtain⟨g,g1,g2,g3,g4⟩:=ih h;have hs:s.size≠0:=by
    intro hs;unfold aims at ha;rw[decide_eq_false_iff_not]at ha;exact ha ⟨by rcases hk2 with⟨hk,_⟩ |⟨hk,_⟩<;>omega,.inl hs⟩
   exact⟨g,Z2 _ g1,g2,fun h=>absurd h hs,g4⟩
theorem B7 (hE:EX X os env): ∀ {s:ByteArray} {o:Nat},os.find? (fun o:Nat=>aims 18 s (X.A.nd o).h)=some o-> ∃ f∈env,(s.size=0\/f.s.lab=s)/\f.s.loop=true/\(s.size=0-> ∃ pre fs,env=pre++f::fs/\ ∀ g∈pre,g.s.loop=false)/\ ∀ d,f.t.cnt=some d->X.ob true true [X.A.again o] (d,0):=by
 induction hE with
 |nil=>intro s o h;simp at h
 | @skip o0 os env h1 _ ih=>
  intro s o h;rw[List.find?_cons]at h;have hk:=MZ h1;have ha: ∀ s,aims 18 s (X.A.nd o0).h=false:=fun s=>by unfold aims;rw[decide_eq_false_iff_not];rintro⟨h,_⟩;omega
  rw[ha]at h;exact ih h
 | @cons o0 os f env h1 h2 h3 hE ih=>
  intro s o h;rw[List.find?_cons]at h;obtain⟨hk1,hk2⟩:=N6 h1;cases ha:aims 18 s (X.A.nd o0).h with
  |true=>
   rw[ha]at h;cases h;unfold aims at ha;rw[decide_eq_true_eq]at ha;refine⟨f,by simp,ha.2.imp id fun h=>by rw[hk1,h],?_,fun _=>⟨[],env,rfl,by simp⟩,h3⟩;rcases hk2 with⟨_,hk⟩ |⟨hk,_⟩
   .exact hk
   .have:=ha.1;omega
  |false=>
   rw[ha]at h;obtain⟨g,g1,g2,g5,g3,g4⟩:=ih h;refine⟨g,Z2 _ g1,g2,g5,fun hs=>?_,g4⟩;obtain⟨pre,fs,q1,q2⟩:=g3 hs;refine⟨f::pre,fs,by rw[q1];rfl,fun x hx=>?_⟩;rcases ZO.1 hx with rfl|hx
   .rcases hk2 with⟨hk,_⟩ |⟨_,hk⟩
    .exfalso;unfold aims at ha;rw[decide_eq_false_iff_not]at ha;exact ha ⟨by omega,.inl hs⟩
    .exact hk
   .exact q2 x hx
theorem J7 {pre fs:List DF} {f:DF} {d:Nat} (hp: ∀ g∈pre,g.t.cnt=none) (hf:f.t.cnt=some d):((pre++f::fs).map DF.t).findSome? Tg.cnt=some d:=by
 induction pre with
 |nil=>simp[hf]
 |cons g pre ih=>
  have h1:=hp g (by simp);have h2:=ih (fun g hg=>hp g (Z2 _ hg));simp only[List.cons_append,List.map_cons,List.findSome?_cons,h1];exact h2
theorem J6 (H:Rs ls D env Ts P m S) {f g:DF} (hf:f∈env) (hg:g∈env) (hs:0 < f.s.lab.size) (e:f.s.lab=g.s.lab):f.t.brk=g.t.brk/\f.t.cnt=g.t.cnt:=by
 obtain⟨_,j,y,h1,h2,h3,h4⟩:=H.env.lab f hf hs;obtain⟨_,j',y',g1,g2,g3,g4⟩:=H.env.lab g hg (by rw[<-e];exact hs);have:=H.w.Sg j j' y y' h1 g1 (by rw[h2,g2,e]);subst this;rw[h1]at g1;cases g1;exact⟨h3.symm.trans g3,h4.symm.trans g4⟩
theorem MY {k:Int} {s:ByteArray} {o:Int} (hch:QF A a os) (hos:os.length < A.ns.length+1) (h:A.WT k s (A.ns.length+1) (A.rw a).owner=o) (hne:o≠ -1): ∃ q:Nat,o=q/\os.find? (fun o:Nat=>aims k s (A.nd o).h)=some q:=by
 rw[Ma os _ _ hch hos]at h;split at h
 .next q hq=>exact⟨q,h.symm,hq⟩
 .exact absurd h.symm hne
theorem EW {s:ByteArray} {r:Nat × BS} (e:S.UQ s false=some r):(r.2.cur=S.cur/\(∀ P G,Ext r.2 P G->Ext S P G)/\(∀ X opn,Cx.iv X opn S->X.iv opn r.2)/\(∀ c j,S.pt c j->r.2.pt c j))/\ ∀ y,r.2.ZT[r.1]? =some y->y.1=s:=by
 unfold BS.UQ at e;cases hf:S.Yb s with
 |some j=>
  rw[hf]at e;simp at e;subst e;obtain⟨y,h1,h2⟩:=Vj hf;refine⟨⟨rfl,fun _ _ h=>h,fun _ _ h=>h,fun _ _ h=>h⟩,fun z hz=>?_⟩;change S.ZT[j]? =some z at hz;rw[h1]at hz;cases hz;exact h2
 |none=>
  rw[hf]at e;obtain⟨S1,e1,e2⟩:=ZX.1 e;have:=Tp e1;subst this;subst e2;refine⟨⟨rfl,fun P G h=>?_,fun X opn h=>?_,fun c j ⟨h1,k,h2,h3⟩=>⟨h1,k,XS h2,h3⟩⟩,fun z hz=>?_⟩
  .exact Ext.Sf (s:=s) (k:=⟨10,none,[],[],false,false⟩) h
  .exact h.Sf (k:=⟨10,none,[],[],false,false⟩) ⟨rfl,rfl,rfl⟩ _
  .have hz':(S.ZT++ [(s,(⟨S.Z6.length,none,none⟩:Lb))])[S.ZT.length]? =some z:=hz;simp at hz';rw[<-hz']
theorem xS (RA:Wn A) (TA:jm A) (H:Rs ls D env Ts P m S) (hp:S.pt c0 j0) (In:Vy A h N i a p n R R2 oc) (hk:h.kind=17\/h.kind=18\/h.kind=19\/h.kind=20) (hm:m+10<=40000) (hch:QF A a os) (hos:os.length<=N)
  (h17:h.kind=17-> ∃ f∈env,h.target.size=0\/f.s.lab=h.target) (h18:h.kind=18-> ∃ f∈env,f.s.loop=true/\(h.target.size=0\/f.s.lab=h.target)) (h19:h.kind=19->h.target∈ls/\0 < h.target.size) (h20:h.kind=20->h.target.size=0/\fl=true) (hfl:fl=true-> ∃ f fs d,env=f::fs/\f.t.Xw=some d):
  ∃ d S1,S.aim h.kind h.target (env.map DF.t)=some (some d,S1)/\Rs ls D env Ts P (m+1) S1/\S1.pt c0 j0/\S1.tgt d/\(∀ G,Ext S1 P G->Ext S P G)/\(∀ X opn,Cx.iv X opn S->X.iv opn S1)/\
   ∀ X:Cx,X.A=A->Ext S1 P X.G->GL X->EX X os env->SH A a env fl X->X.ob true true [A.entered N] (d,0):=by
 have hNl:N < A.ns.length:=ZH In.nd;have hent:=IA In hk;have LJ:(T.UM h i a p n R R2 oc).list=a:=rfl;have hhd:(T.UM h i a p n R R2 oc).h=h:=rfl;rcases hk with hk|hk|hk|hk
 ·
  have t1:=TA.around N _ In.nd (.inl hk);have t2:=RA.around N _ In.nd (.inl hk);rw[LJ,hhd]at t1 t2;obtain⟨o,ho1,ho2⟩:=MY (o:=A.tgt N) hch (by omega) t1.symm (by rw[t1];exact t2);rw[hk]at ho2;rw[hk]at hent;simp only[if_true]at hent;rw[ho1]at hent;obtain⟨f,hf,he⟩:=h17 hk;unfold BS.aim;by_cases ht:0 < h.target.size
  .rw[if_pos ht];have he:f.s.lab=h.target:=he.elim (fun h=>by omega) id;obtain⟨j,y,g1,g2,g3,g4⟩:=H.look hf (by rw[he];exact ht);rw[he]at g1;obtain⟨d,g5,g6⟩:=H.env.brk f hf;refine⟨d,S,by simp[g1,g2,g3,g5,hk],H.le (Nat.le_succ _),hp,g6,fun _ h=>h,fun _ _ h=>h,fun X hA hE hG hX _=>?_⟩;subst hA;obtain⟨f',q1,q2,_,q4⟩:=B8 hX ho2;have q2:f'.s.lab=h.target:=q2.elim (fun h=>by omega) id;rw[hent];exact q4 d (by rw[<-(J6 H hf q1 (by rw[he];exact ht) (by rw[he,q2])).1];exact g5)
  .rw[if_neg ht];cases env with
   |nil=>simp at hf
   |cons f0 fs=>
    obtain⟨d,g5,g6⟩:=H.env.brk f0 (by simp);refine⟨d,S,by simp[g5,hk],H.le (Nat.le_succ _),hp,g6,fun _ h=>h,fun _ _ h=>h,fun X hA hE hG hX _=>?_⟩;subst hA;obtain⟨f',q1,q2,q3,q4⟩:=B8 hX ho2;obtain⟨fs',e⟩:=q3 (by omega);cases e;rw[hent];exact q4 d g5
 ·
  have t1:=TA.around N _ In.nd (.inr hk);have t2:=RA.around N _ In.nd (.inr hk);rw[LJ,hhd]at t1 t2;obtain⟨o,ho1,ho2⟩:=MY (o:=A.tgt N) hch (by omega) t1.symm (by rw[t1];exact t2);rw[hk]at ho2;rw[hk]at hent;rw[if_neg (by decide),if_pos rfl,ho1]at hent;obtain⟨f,hf,hlp,he⟩:=h18 hk;unfold BS.aim;by_cases ht:0 < h.target.size
  .rw[if_pos ht];have he:f.s.lab=h.target:=he.elim (fun h=>by omega) id;obtain⟨j,y,g1,g2,g3,g4⟩:=H.look hf (by rw[he];exact ht);rw[he]at g1;obtain⟨d,g5,g6⟩:=H.env.cnt f hf hlp;refine⟨d,S,by simp[g1,g2,g4,g5,hk],H.le (Nat.le_succ _),hp,g6,fun _ h=>h,fun _ _ h=>h,fun X hA hE hG hX _=>?_⟩;subst hA;obtain⟨f',q1,q2,_,_,q4⟩:=B7 hX ho2;have q2:f'.s.lab=h.target:=q2.elim (fun h=>by omega) id;rw[hent];exact q4 d (by rw[<-(J6 H hf q1 (by rw[he];exact ht) (by rw[he,q2])).2];exact g5)
  .rw[if_neg ht];have key: ∃ pre f0 fs,env=pre++f0::fs/\(∀ g∈pre,g.s.loop=false)/\f0.s.loop=true:=by
    clear H h17 h18 hfl
    induction env with
    |nil=>simp at hf
    |cons g env ih=>
     cases hg:g.s.loop with
     |true=>exact⟨[],g,env,rfl,by simp,hg⟩
     |false=>
      rcases ZO.1 hf with rfl|hf
      .rw[hlp]at hg;cases hg
      .obtain⟨pre,f0,fs,h1,h2,h3⟩:=ih hf;refine⟨g::pre,f0,fs,by rw[h1];rfl,fun x hx=>?_,h3⟩;rcases ZO.1 hx with rfl|hx
       .exact hg
       .exact h2 x hx
   obtain⟨pre,f0,fs,he1,he2,he3⟩:=key;obtain⟨d,g5,g6⟩:=H.env.cnt f0 (by rw[he1];simp) he3;have hfc:(env.map DF.t).findSome? Tg.cnt=some d:=by
    rw[he1];exact J7 (fun g hg=>H.env.wm g (by rw[he1];simp[hg]) (he2 g hg)) g5
   refine⟨d,S,by rw[hk,if_neg (by decide),if_pos rfl,hfc],H.le (Nat.le_succ _),hp,g6,fun _ h=>h,fun _ _ h=>h,fun X hA hE hG hX _=>?_⟩;subst hA;obtain⟨f',q1,q2,q5,q3,q4⟩:=B7 hX ho2;obtain⟨pre',fs',e1,e2⟩:=q3 (by omega);rw[hent];refine q4 d ?_;obtain⟨d',g7,_⟩:=H.env.cnt f' q1 q5;have ji:(env.map DF.t).findSome? Tg.cnt=some d':=by
    rw[e1];exact J7 (fun g hg=>H.env.wm g (by rw[e1];simp[hg]) (e2 g hg)) g7
   rw[hfc]at ji;rw[g7,ji]
 ·
  have t1:=TA.jump N _ In.nd hk;have t2:=RA.jump N _ In.nd hk;rw[hhd]at t1 t2;obtain⟨q,x,x1,x2,x3⟩:=RY t2;rw[hk]at hent;rw[if_neg (by decide),if_neg (by decide),if_pos rfl,t1,x3]at hent;have hxq:A.nd q=x:=W8 x1;rw[hxq]at hent;unfold BS.aim;rw[if_pos (h19 hk).2];obtain⟨r,y,g1,g2,g3,g4,g5⟩:=H.goto (by omega) (h19 hk).1;obtain⟨⟨f1,f2,f3,f4⟩,f5⟩:=EW g1;refine⟨y.2.go,r.2,by simp only[g1,Zh,g2,Y7,hk];rfl,g3,f4 _ _ hp,g5,f2 P,f3,fun X hA hE hG hX _=>?_⟩;subst hA;obtain⟨y',z1,z2,z3⟩:=hE.lab r.1 y g2;have:=hG q x x1 (by rw[x2];exact(h19 hk).2) r.1 y' z1 (by rw[z2,f5 y g2,x2]);rw[z3]at this;rw[hent];exact IN this
 ·
  have t1:=TA.fall N _ In.nd hk;rw[LJ]at t1;rw[hk]at hent;rw[if_neg (by decide),if_neg (by decide),if_neg (by decide),t1]at hent;obtain⟨hz,jh⟩:=h20 hk;obtain⟨f,fs,d,e1,e2⟩:=hfl jh;unfold BS.aim;rw[if_neg (by omega)];refine⟨d,S,by rw[hk,if_neg (by decide),if_neg (by decide),e1];simp[e2],H.le (Nat.le_succ _),hp,H.env.Xw f (by rw[e1];simp) d e2,fun _ h=>h,fun _ _ h=>h,fun X hA hE hG hX hF=>?_⟩;subst hA;obtain⟨f',fs',d',q1,q2,q3⟩:=hF jh;rw[e1]at q1;cases q1;rw[e2]at q2;cases q2;rw[hent];exact q3
theorem Iz (RA:Wn A) (TA:jm A) (H:Rs ls D env Ts P m S) (hp:S.pt c0 j0) (In:Vy A h N i a p n R R2 oc) (hf:Ql h b e c) (hk:h.kind=17\/h.kind=18\/h.kind=19\/h.kind=20) (hm:m+10<=40000) (hch:QF A a os) (hos:os.length<=N)
  (h17:h.kind=17-> ∃ f∈env,h.target.size=0\/f.s.lab=h.target) (h18:h.kind=18-> ∃ f∈env,f.s.loop=true/\(h.target.size=0\/f.s.lab=h.target)) (h19:h.kind=19->h.target∈ls/\0 < h.target.size) (h20:h.kind=20->h.target.size=0/\fl=true) (hfl:fl=true-> ∃ f fs d,env=f::fs/\f.t.Xw=some d)
  (e':S.Ys h.kind h.target (env.map DF.t)=some S'):
  LT A P S S' N2 N2 n n os env ⟨1,a,p⟩ c0 j0 ⟨1,a,(p:Int)+1⟩ opq (fun X=>SH A a env fl X/\(h.label.size=0->TS A a p c0 j0 X)):=by
 obtain⟨d,S1,e1,H1,p1,t1,x1,v1,o1⟩:=xS RA TA H hp In hk hm hch hos h17 h18 h19 h20 hfl;unfold BS.Ys at e';rw[e1]at e';simp only[Zh,BS.aimed]at e';obtain⟨S3,e3,e4⟩:=Z8.1 e';have x3:=VP e3 p1 H1;obtain⟨p4,x4⟩:=LW e4;have hi:h.init=false:=by
  cases hi:h.init with
  |false=>rfl
  |true=>have:=hf.1.ini hi;omega
 refine⟨_,_,[],p4,fun G hG=>⟨x1 G (x3 G (x4 P G hG)).1,XF.nil⟩,fun X opn hA hE _ hG hX _ ⟨hF,_⟩ hK=>?_⟩;obtain⟨y1,z3⟩:=x3 X.G (x4 P X.G hE);have:=o1 X hA y1 hG hX hF;subst hA;refine⟨V6 In.at' ?_,by simp,fun hiv=>Ka e4 (Xg e3 p1 (v1 X opn hiv)),Cx.Vc.nil⟩;rw[In.WD (Wx (by omega)) hi];exact Xr z3 this
end
section
variable {ls D:List ByteArray} {env:List DF} {Ts P P':List Nat} {m:Nat} {S S' S1:BS} {G:Gr} {c0 j0 cc jj:Nat} {A:Tr} {X:Cx} {h:Hd} {b e c tl:T} {N i a p n R R2 R3 N2:Nat} {ob oe:Out} {oc:WG} {ot:Out} {os:List Nat} {opq:Prop} {Hyp:Cx->Prop} {fl:Bool} {opn:Prop}
theorem Iy {lab:Option Nat} {d:Nat} (hp:S.pt cc jj):(S.XG lab d).pt cc jj:=by
 cases lab<;>exact hp
theorem B6 {lab:Option Nat} {d:Nat} (hp:S.pt cc jj):(S.Sl lab d).pt cc jj:=by
 cases lab<;>exact hp
theorem MX (hb:VK A ls b) (fb:FL ls b) {s:ByteArray} {post:Bool} {loop cont done q:Nat} (H:Rs ls D env Ts ((if post then [cont]else [])++(done::P)) m S) (hp:S.pt cc jj) (t1:loop∈Ts) (t2:cont∈Ts)
  (hf:PU D S ⟨⟨s,true⟩,⟨some done,some cont,none⟩⟩) (bs:b.Xv true) (bo:b.ok) (bf:b.fA) (hbb:b.VN ls (⟨s,true⟩::env.map DF.s) false) (hl:LC ls D b.labels) (hm:m+16*b.wt+4<=40000) {n1 i1 N1 r:Nat} (h1:n1+b.lv false<=39000) (hi1:i1+b.it<=40000) (hq:post=true->q<=40000)
  {o:Out} (ho:o=b.rd.l N1 (r+1) n1 i1 r 0) (hrw:A.rs[r]? =some ⟨N,-1,o.ids⟩) (hsub:Sub A N1 (r+1) n1 o.ls o.ns o.rs) (hch:QF A (A.nd N).list os) (hos:os.length+1<=N1) (hN:A.kd N=11\/A.kd N=12) (hfr:(A.nd N).h.frame= [⟨s,true⟩])
  {S9 RM Pa:BS} (e9:b.YO.list n1 i1 (⟨some done,some cont,none⟩::env.map DF.t) S=some S9) (e10:S9.YG cont=some RM) (e12:(if post then((RM.at cont).Yk ⟨lp q,false⟩).bind fun EF=>EF.YG loop else some RM)=some Pa):
  ∃ new,(Pa.at done).pt done 0/\(∀ G,Ext (Pa.at done) P G->Ext S ((if post then [cont]else [])++(done::P)) G/\XF A G N1 (N1+o.ns.length) new/\(post=true->G.node cont 0 ⟨lp q,false⟩/\G.ends cont 1 [loop]))/\
   ∀ (X:Cx) (opn:Prop),X.A=A->Ext (Pa.at done) P X.G->(∀ x∈new,x∈X.L)->GL X->EX X os env->(b.opn->opn)->X.ob true true [A.behind N] (done,0)->X.ob true true [A.again N] (cont,0)->
    X.ob false false [⟨1,r,0⟩] (cc,jj)/\(∀ x∈new,X.ob false false [x.1] x.2)/\((post=true->X.ng cont 0 ⟨lp q,false⟩)->X.iv opn S->X.iv opn (Pa.at done))/\X.Vc n1 (n1+b.lv false):=by
 have tE:done∈(if post then [cont]else [])++(done::P):=by simp
 have hnd:=H.w.nd;have hnd1:(done::P).Nodup:=(Y4.1 hnd).2.1;have Dl:done∉P/\P.Nodup:=ZS.1 hnd1;have H1:Rs ls D (⟨⟨s,true⟩,⟨some done,some cont,none⟩⟩::env) Ts _ m S:=H.push (d:=done) rfl (H.pt tE) (fun _=>⟨cont,rfl,H.ts _ t2⟩) (fun h=>by cases h) (fun e he=>by cases he) hf;obtain⟨S9',f9,H9,_⟩:=fb D _ Ts _ _ S n1 i1 false H1 ⟨cc,hp.1⟩ bo hbb (by simp) hl (by omega) h1 hi1;have e9':b.YO.list n1 i1 ((⟨⟨s,true⟩,⟨some done,some cont,none⟩⟩::env:List DF).map DF.t) S=some S9:=e9;rw[e9']at f9;cases f9;obtain⟨⟨c9,j9,new,p9,g2,g3⟩,w1,w2⟩:=Pn hb H1 hp bs bo bf hbb hl (by omega) h1 hi1 e9' ho hrw hsub hch hos;have qk:=H9.pop (env':=env) (fun f hf=>Z2 _ hf);obtain⟨zk,c10,q10,_⟩:=qk.St p9.1 (qk.ts _ t2) e10;have x10:=VP e10 p9 qk;have back: ∃ (hiv: ∀ X opn,Cx.iv X opn RM->(post=true->X.ng cont 0 ⟨lp q,false⟩)->X.iv opn (Pa.at done)),(Pa.at done).pt done 0/\ ∀ G,Ext (Pa.at done) P G->Ext RM ((if post then [cont]else [])++(done::P)) G/\(post=true->G.node cont 0 ⟨lp q,false⟩/\G.ends cont 1 [loop]):=by
  cases post with
  |false=>
   simp at e12;subst e12;obtain⟨p12,x12⟩:=WR (P':=P) (d:=done) zk (by simp) (by intro p hp;simp[hp]);exact⟨fun X opn hiv _=>XZ zk (by simp) hiv,p12,fun G hG=>⟨x12 G hG,fun h=>by cases h⟩⟩
  |true=>
   simp only[if_true]at e12 zk ⊢;obtain⟨EF,e11,e12⟩:=Z8.1 e12;have tD:cont∉done::P:=by
    simp only[if_true,List.singleton_append]at hnd;exact(ZS.1 hnd).1
   have gU:=zk.at (d:=cont) (P':=done::P) (by simp) (by simp;intro p hp;simp[hp]) hnd1 tD;obtain⟨p11,x11⟩:=WR (d:=cont) (P':=done::P) zk (by simp) (by simp;intro p hp;simp[hp]);have qU:=gU.Nr (by omega) p11.1 (Vk (hq rfl)) e11;obtain⟨qT,Z9B⟩:=Wh e11 p11;obtain⟨zj,c12,q12,_⟩:=qU.St qT.1 (qU.ts _ t1) e12;have x12:=VP e12 qT qU;obtain⟨p12,Z9A⟩:=WR (P':=P) (d:=done) zj (by simp) (by intro p hp;simp[hp]);refine⟨fun X opn hiv vq=>XZ zj (by simp) (Xg e12 qT (WW e11 p11 gU (vq trivial) (XZ zk (by simp) hiv))),p12,fun G hG=>?_⟩;obtain⟨y1,z1⟩:=x12 G (Z9A G hG);obtain⟨y2,z2⟩:=Z9B _ G y1;exact⟨x11 G y2,fun _=>⟨z2,z1⟩⟩
 obtain⟨jg,p12,x12⟩:=back;refine⟨new,p12,fun G hG=>?_,fun X opn hA hE hL hG hX ho hB hC=>?_⟩
 .obtain⟨y1,z1⟩:=x12 G hG;obtain⟨y2,z2⟩:=x10 G y1;obtain⟨y3,z3⟩:=g2 G y2;exact⟨y3,z3,z1⟩
 .subst hA;obtain⟨y1,z1⟩:=x12 X.G hE;obtain⟨y2,z2⟩:=x10 X.G y1;have hX':EX X (N::os) (⟨⟨s,true⟩,⟨some done,some cont,none⟩⟩::env):=.cons hfr (fun d hd=>by cases hd;exact hB) (fun d hd=>by cases hd;exact hC) hX;obtain⟨k1,k2,k3,k4⟩:=g3 X opn rfl y2 hL hG hX' ho trivial (xT (N:=N) w1 w2 hN (Xr z2 hC));exact⟨k1,k2,fun vq hiv=>jg X opn (Xg e10 p9 (k3 hiv)) vq,k4⟩
theorem Qz {fs fg:Bool} (In:Vy X.A h N i a p n R R2 oc) (hl:h.Zu=false) (h1:h.init=true->X.G.node c0 j0 ⟨lp n,false⟩) (h2: ∀ fs fg,X.ob fs fg [X.A.entered N] (c0,j0+h.init.toNat)):X.ob fs fg [⟨1,a,p⟩] (c0,j0):=by
 refine V6 In.at' ?_;cases hi:h.init with
 |true=>
  rw[In.M0 hl hi];exact Wy (h1 hi) rfl (Tm _)
 |false=>
  rw[In.WD hl hi];have:=h2 true fg;rw[hi]at this;simpa using this
theorem J5 (In:Vy A h N i a p n R R2 oc) (hl:h.Zu=false) (hi:h.init=true):n < A.ls.length/\A.lf ((n:Nat):Int)=⟨N,2,0⟩:=by
 have:=In.WB (Gp (N:=N) hl hi);simp only[Zn]at this;exact⟨this.2,this.1⟩
theorem Ix (In:Vy X.A h N i a p n R R2 oc) (hl:h.Zu=false) (h2: ∀ fs fg,X.ob fs fg [X.A.entered N] (c0,j0+h.init.toNat)) (hi:h.init=true):X.ng c0 j0 ⟨lp n,false⟩:=by
 obtain⟨h3,h4⟩:=J5 In hl hi;refine .inr ⟨n,rfl,h3,Gm h4 ?_⟩;have:=h2 true true;rw[hi]at this;exact this
theorem Q6 (In:Vy X.A h N i a p n R R2 oc) (hl:h.Zu=false) (h1:h.init=true-> ∃ b k,X.G.node b k ⟨lp n,false⟩) (h2:h.hasCond=true-> ∃ b k,X.G.node b k ⟨lp (n+h.init.toNat),false⟩) (h3:h.post=true-> ∃ b k,X.G.node b k ⟨lp (n+h.init.toNat+h.hasCond.toNat),false⟩):X.Vc n (n+h.own):=by
 have hown:h.own=(h.Yl N).length:=Yj.1.symm;rw[hown,(Yj (h:=h) (N:=N)).1,hl];intro x hx1 hx2;simp only[Bool.toNat_false,YR]at hx2;by_cases hx:x < n+h.init.toNat
 .have hi:h.init=true:=by
   cases hi:h.init with
   |true=>rfl
   |false=>rw[hi]at hx;simp at hx;omega
  have:x=n:=by rw[hi]at hx;simp at hx;omega
  subst this;obtain⟨b,k,hn⟩:=h1 hi;exact⟨⟨b,k,_,hn,rfl⟩,fun hq=>by rw[WV (by rw[(J5 In hl hi).2];show(2:Int)≠1;decide)]at hq;omega⟩
 .by_cases hx':x < n+h.init.toNat+h.hasCond.toNat
  .have hi:h.hasCond=true:=by
    cases hi:h.hasCond with
    |true=>rfl
    |false=>rw[hi]at hx';simp at hx';omega
   have:x=n+h.init.toNat:=by rw[hi]at hx';simp at hx';omega
   subst this;obtain⟨b,k,hn⟩:=h2 hi;exact⟨⟨b,k,_,hn,rfl⟩,fun hq=>by rw[WV (by rw[(In.WB (Tl hl hi)).1];show(3:Int)≠1;decide)]at hq;omega⟩
  .have hi:h.post=true:=by
    cases hi:h.post with
    |true=>rfl
    |false=>rw[hi]at hx2;simp at hx2;omega
   have:x=n+h.init.toNat+h.hasCond.toNat:=by rw[hi]at hx2;simp at hx2;omega
   subst this;obtain⟨b,k,hn⟩:=h3 hi;refine⟨⟨b,k,_,hn,rfl⟩,fun hq=>?_⟩;have:=(In.WB (Gn hl hi)).1;rw[<-Z3]at this;rw[WV (by rw[this];show(4:Int)≠1;decide)]at hq;omega
end
section
variable {ls D:List ByteArray} {env:List DF} {Ts P P':List Nat} {m:Nat} {S S' S1:BS} {G:Gr} {c0 j0 cc jj:Nat} {A:Tr} {X:Cx} {h:Hd} {b e c tl:T} {N i a p n R R2 R3 N2:Nat} {ob oe:Out} {oc:WG} {ot:Out} {os:List Nat} {opq:Prop} {Hyp:Cx->Prop} {fl:Bool} {opn:Prop}
theorem qS (H:Vy A h N i a p n R R2 oc) (hl:h.Zu=false) (hc:h.hasCond=false) (hb:h.Zz=true):A.mv ⟨2,N,0⟩=([⟨1,R,0⟩],none):=by
 unfold Tr.mv;rw[if_neg (by show(2:Int)≠1;decide),if_pos rfl];have hcnd:(A.nd N).cnd= -1:=by
  rw[H.eq];show YL h.hasCond (n+h.Zu.toNat+h.init.toNat)=_;rw[IL hc]
 have hbd:(A.nd N).body=R:=by
  rw[H.eq];show YL h.Zz R=_;rw[Wm hb]
 show(if(A.nd N).cnd= -1 then([(⟨1,(A.nd N).body,0⟩:Pl)],(none:Option Int))else _)=_;rw[if_pos hcnd,hbd]
theorem xR (hb:VK A ls b) (fb:FL ls b) (H:Rs ls D env Ts P m S) (hp:S.pt c0 j0) (I:Nv A h b e c tl N R n i a p ob oe oc ot R2 R3) (In:Vy A h N i a p n R R2 oc) (hf:Ql h b e c) (hk:h.kind=11) {lab:Option Nat} (hlab:Xy D S env h.label lab) (bs:b.Xv true) (bo:b.ok) (bf:b.fA)
  (bb:b.VN ls (⟨h.label,true⟩::env.map DF.s) false) (hl:LC ls D b.labels) (hm:m+14+16*b.wt<=40000) (hn:n+h.own+b.lv false<=39000) (hi:i+1+b.it<=40000) (hch:QF A a os) (hos:os.length<=N)
  (e':Lw h n i lab (env.map DF.t) (b.YO.list (n+h.own) (i+1)) S=some S'):
  LT A P S S' (N+1) (N+1+ob.ns.length) n (n+h.own+b.lv false) os env ⟨1,a,p⟩ c0 j0 ⟨1,a,(p:Int)+1⟩ b.opn Hyp:=by
 have hown:h.own=(h.Yl N).length:=Yj.1.symm;have hlf:h.Zu=false:=Wx (by omega);have hcc:h.hasCond=h.cond:=by unfold Hd.hasCond;rw[hk];cases h.cond<;>rfl
 have h0:h.own=h.init.toNat+h.cond.toNat+h.post.toNat:=by rw[hown,(Yj (h:=h) (N:=N)).1,hlf,hcc];simp
 have hin:h.init.toNat<=1:=ZG h.init;have hcn:h.cond.toNat<=1:=ZG h.cond;have hpn:h.post.toNat<=1:=ZG h.post;have hbd:h.Zz=true:=Yo.2 (by omega);have hel:h.ZV=false:=by
  cases hi:h.ZV with
  |false=>rfl
  |true=>have:=hf.1.els hi;omega
 obtain⟨r1,r2⟩:=I.sb hbd;have heb:ob=b.rd.l (N+1) (R+1) (n+h.own) (i+1) R 0:=by rw[I.eb,QE hf,hown]
 rw[<-hown]at r2;have LJ:(A.nd N).list=a:=by rw[In.eq];rfl
 have lP: ∀ p∈P,p < S.Z6.length:=fun p hp=>H.lt hp;unfold Lw at e';obtain⟨S0,e0,e'⟩:=Z8.1 e';obtain⟨S1,e1,e'⟩:=Z8.1 e';obtain⟨S2,e2,e'⟩:=Z8.1 e';obtain⟨S3,e3,e'⟩:=Z8.1 e';obtain⟨S4,e4,e'⟩:=Z8.1 e';obtain⟨S6,e6,e'⟩:=Z8.1 e';obtain⟨S8,e8,e'⟩:=Z8.1 e';obtain⟨S9,e9,e'⟩:=Z8.1 e';obtain⟨RM,e10,e'⟩:=Z8.1 e';obtain⟨Pa,e12,e'⟩:=ZX.1 e';subst e';obtain⟨H0,q0,w0⟩:=H.N9 (by omega) hp.1 (by omega) e0;obtain⟨p0,x0⟩:=Q8 e0 hp;obtain⟨H1,c1,q1,w1⟩:=H0.newE (by omega) p0.1 (by decide) (XK (by omega)) e1;obtain⟨p1,x1⟩:=WO e1 p0;obtain⟨H2,c2,q2,w2⟩:=H1.newE (by omega) p1.1 (by decide) (XK (by omega)) e2;obtain⟨p2,x2⟩:=WO e2 p1;obtain⟨H3,c3,w3⟩:=H2.QA (by omega) p2.1 (by decide) (by omega) e3;obtain⟨p3,q3,x3⟩:=RX e3 p2;obtain⟨H4,c4,w4⟩:=H3.QA (by omega) p3.1 (by decide) (by omega) e4;obtain⟨p4,q4,x4⟩:=RX e4 p3;have tB:Xy D S4 env h.label lab:=hlab.same (by rw[w4,w3,w2,w1,w0]);have nP: ∀ x,S0.Z6.length<=x->x∉P:=fun x hx hp=>by have:=lP _ hp;omega
 obtain⟨loop,hloop⟩: ∃ loop,loop=(if h.cond then S2.Z6.length else S0.Z6.length):=⟨_,rfl⟩
 obtain⟨cont,hcont⟩: ∃ cont,cont=(if h.post then S3.Z6.length else loop):=⟨_,rfl⟩
 rw[<-hloop,<-hcont]at e6 e9 e10 e12;rw[<-hloop]at e8
 have nN: ∀ x,S0.Z6.length<=x->x≠S1.Z6.length->(x::S1.Z6.length::P).Nodup:=fun x h1 h2=>
  ZS.2 ⟨by simp;exact⟨h2,nP _ h1⟩,ZS.2 ⟨nP _ (by omega),H.w.nd⟩⟩
 have Ou:loop∈(if h.post then S3.Z6.length::(if h.cond then S2.Z6.length::S1.Z6.length::S0.Z6.length::P else S1.Z6.length::S0.Z6.length::P)else(if h.cond then S2.Z6.length::S1.Z6.length::S0.Z6.length::P else S1.Z6.length::S0.Z6.length::P)):=by
  rw[hloop];cases h.cond<;>cases h.post<;>simp
 have Dk:cont∈(if h.post then S3.Z6.length::(if h.cond then S2.Z6.length::S1.Z6.length::S0.Z6.length::P else S1.Z6.length::S0.Z6.length::P)else(if h.cond then S2.Z6.length::S1.Z6.length::S0.Z6.length::P else S1.Z6.length::S0.Z6.length::P)):=by
  rw[hcont];cases hpo:h.post with
  |true=>simp
  |false=>
   rw[hpo]at Ou;simpa using Ou
 obtain⟨H5,c5,b5,l5⟩:=H4.Mp tB S1.Z6.length cont;have p5:((S4.XG lab S1.Z6.length).Sl lab cont).pt c0 (j0+h.init.toNat):=B6 (Iy p4);have qj:=(H5.watch Dk).watch Ou;obtain⟨H6,c6,q6,w6⟩:=qj.St p5.1 (qj.ts loop (by simp)) e6;have x6:=VP e6 p5 qj;have K9:PU D S6 ⟨⟨h.label,true⟩,⟨some S1.Z6.length,some cont,none⟩⟩:=PU.same (f:=⟨⟨h.label,true⟩,⟨some S1.Z6.length,some cont,none⟩⟩) l5 w6;have aux: ∀ (x:Nat) (Q:List Nat),(if h.post then [x]else [])++Q=if h.post then x::Q else Q:=by intro x Q;cases h.post<;>rfl
 have key:Rs ls D env (loop::cont::Ts) ((if h.post then [cont]else [])++(S1.Z6.length::P)) (m+10) S8/\S8.pt S0.Z6.length 0/\PU D S8 ⟨⟨h.label,true⟩,⟨some S1.Z6.length,some cont,none⟩⟩/\
   (∀ G,Ext S8 ((if h.post then [cont]else [])++(S1.Z6.length::P)) G->Ext S6 (if h.post then S3.Z6.length::(if h.cond then S2.Z6.length::S1.Z6.length::S0.Z6.length::P else S1.Z6.length::S0.Z6.length::P)else(if h.cond then S2.Z6.length::S1.Z6.length::S0.Z6.length::P else S1.Z6.length::S0.Z6.length::P)) G/\
    (h.cond=true->G.node loop 0 ⟨lp (n+h.init.toNat),false⟩/\G.ends loop 1 [S0.Z6.length,S1.Z6.length]))/\
   (∀ X opn,Cx.iv X opn S6->(h.cond=true->X.ng loop 0 ⟨lp (n+h.init.toNat),false⟩/\X.A.Tw ((n+h.init.toNat:Nat):Int)=true)->X.iv opn S8):=by
  cases hcd:h.cond with
  |false=>
   rw[hcd]at e8 hloop H6 q3;simp only[Zw,if_false,Bool.toNat_false,Zn]at e8 hloop H6 q3;cases e8;have m1:S0.Z6.length∈(if h.post then S3.Z6.length::S1.Z6.length::S0.Z6.length::P else S1.Z6.length::S0.Z6.length::P):=by split<;>simp
   have m2: ∀ p∈(if h.post then [cont]else [])++(S1.Z6.length::P),p∈(if h.post then S3.Z6.length::S1.Z6.length::S0.Z6.length::P else S1.Z6.length::S0.Z6.length::P):=by
    rw[hcont];cases h.post<;>simp<;>intro p hp<;>simp[hp]
   have m3:((if h.post then [cont]else [])++(S1.Z6.length::P)).Nodup:=by
    rw[aux,hcont];cases h.post with
    |false=>exact ZS.2 ⟨nP _ (by omega),H.w.nd⟩
    |true=>exact nN _ (by simp;omega) (by simp;omega)
   have m4:S0.Z6.length∉(if h.post then [cont]else [])++(S1.Z6.length::P):=by
    rw[aux,hcont];cases h.post with
    |false=>simp;exact⟨by omega,nP _ (by omega)⟩
    |true=>simp;exact⟨by omega,by omega,nP _ (by omega)⟩
   rw[hloop]at H6 ⊢;obtain⟨p8,x8⟩:=WR H6 m1 m2;exact⟨(H6.at m1 m2 m3 m4).le (by omega),p8,K9.same rfl,fun G hG=>⟨by simpa using x8 G hG,fun h=>by cases h⟩,fun X opn hiv _=>XZ H6 m1 hiv⟩
  |true=>
   rw[hcd]at e8 hloop H6 q3;simp only[if_true,Bool.toNat_true]at e8 hloop H6 q3;obtain⟨S7,e7,e8⟩:=Z8.1 e8;obtain⟨S7',e7',e8⟩:=ZX.1 e8;subst e8;have m1:loop∈(if h.post then S3.Z6.length::S2.Z6.length::S1.Z6.length::S0.Z6.length::P else S2.Z6.length::S1.Z6.length::S0.Z6.length::P):=by rw[hloop];split<;>simp
   have m2: ∀ p∈(if h.post then [cont]else [])++(S1.Z6.length::S0.Z6.length::P),p∈(if h.post then S3.Z6.length::S2.Z6.length::S1.Z6.length::S0.Z6.length::P else S2.Z6.length::S1.Z6.length::S0.Z6.length::P):=by
    rw[hcont];cases h.post<;>simp<;>intro p hp<;>simp[hp]
   have hn0:(S1.Z6.length::S0.Z6.length::P).Nodup:=ZS.2 ⟨by simp;exact⟨by omega,nP _ (by omega)⟩,ZS.2 ⟨nP _ (by omega),H.w.nd⟩⟩;have m3:((if h.post then [cont]else [])++(S1.Z6.length::S0.Z6.length::P)).Nodup:=by
    rw[aux,hcont];cases h.post with
    |false=>exact hn0
    |true=>exact ZS.2 ⟨by simp;exact⟨by omega,by omega,nP _ (by omega)⟩,hn0⟩
   have m4:loop∉(if h.post then [cont]else [])++(S1.Z6.length::S0.Z6.length::P):=by
    rw[aux,hcont,hloop];cases h.post with
    |false=>simp;exact⟨by omega,by omega,nP _ (by omega)⟩
    |true=>simp;exact⟨by omega,by omega,by omega,nP _ (by omega)⟩
   have H7:=H6.at m1 m2 m3 m4;obtain⟨p7,x7⟩:=WR H6 m1 m2;have zl:=H7.Nr (by omega) p7.1 (Vk (by omega)) e7;obtain⟨p7',fZ⟩:=Wh e7 p7;have nd7:=TU e7 p7;obtain⟨H8,c8,q8,w8⟩:=zl.vr p7'.1 (zl.pt (by simp)) (zl.pt (by simp)) e7';have x8:=Kb e7' p7' zl;have k2: ∀ p∈(if h.post then [cont]else [])++(S1.Z6.length::P),p∈(if h.post then [cont]else [])++(S1.Z6.length::S0.Z6.length::P):=by
    cases h.post<;>simp<;>intro p hp<;>simp[hp]
   have k3:((if h.post then [cont]else [])++(S1.Z6.length::P)).Nodup:=by
    rw[aux,hcont];cases h.post with
    |false=>exact ZS.2 ⟨nP _ (by omega),H.w.nd⟩
    |true=>exact nN _ (by simp;omega) (by simp;omega)
   have k4:S0.Z6.length∉(if h.post then [cont]else [])++(S1.Z6.length::P):=by
    rw[aux,hcont];cases h.post with
    |false=>simp;exact⟨by omega,nP _ (by omega)⟩
    |true=>simp;exact⟨by omega,by omega,nP _ (by omega)⟩
   obtain⟨p9,x9⟩:=WR (d:=S0.Z6.length) (P':=(if h.post then [cont]else [])++(S1.Z6.length::P)) H8 (by simp) k2;have w7:S7.ZT=S6.ZT:=by
    obtain⟨k,_,_,hS⟩:=Vz e7 p7;rw[hS];rfl
   refine⟨(H8.at (by simp) k2 k3 k4).le (by omega),p9,K9.same (by show S7'.ZT=_;rw[w8,w7]),fun G hG=>?_,fun X opn hiv vq=>?_⟩
   .obtain⟨y8,z8⟩:=x8 G (x9 G hG);obtain⟨y7,z7⟩:=fZ _ G y8;exact⟨by simpa using x7 G y7,fun _=>⟨z7,z8⟩⟩
   .refine XZ H8 (by simp) (Qh e7' p7' (.inr ?_) (WW e7 p7 H7 (vq rfl).1 (XZ H6 m1 hiv)));obtain⟨k,hk1,hk2⟩:=nd7;exact⟨k,_,hk1,hk2,n+h.init.toNat,rfl,(vq rfl).2⟩
 obtain⟨H8,p8,l8,x8,v8⟩:=key;have hfr:(A.nd N).h.frame= [⟨h.label,true⟩]:=by rw[In.eq];show h.frame=_;unfold Hd.frame;rw[if_pos (by omega)]
 have hkd:A.kd N=11:=by rw[In.kd];exact hk
 obtain⟨new,p12,x12,s12⟩:=MX hb fb (q:=n+h.init.toNat+h.cond.toNat) H8 p8 (by simp) (by simp) l8 bs bo bf bb hl (by omega) (n1:=n+h.own) (i1:=i+1) (N1:=N+1) (r:=R) (by omega) (by omega) (fun _=>by omega) heb r1 r2 (by rw[LJ];exact hch) (by omega) (.inl hkd) hfr e9 e10 e12
 have back: ∀ G,Ext (Pa.at S1.Z6.length) P G->Ext S P G/\XF A G (N+1) (N+1+ob.ns.length) new/\(h.init=true->G.node c0 j0 ⟨lp n,false⟩)/\G.ends c0 (j0+h.init.toNat) [loop]/\(h.cond=true->G.node loop 0 ⟨lp (n+h.init.toNat),false⟩/\G.ends loop 1 [S0.Z6.length,S1.Z6.length])/\
   (h.post=true->G.node cont 0 ⟨lp (n+h.init.toNat+h.cond.toNat),false⟩/\G.ends cont 1 [loop])/\G.kind S0.Z6.length 3 (some (ip i))/\G.kind S1.Z6.length 4 (some (ip i))/\(h.cond=true->G.kind loop 5 (some (ip i)))/\(h.post=true->G.kind cont 6 (some (ip i))):=by
  intro G hG;obtain⟨nM,z12,Z9z⟩:=x12 G hG;obtain⟨y8,z8⟩:=x8 G (nM.less (fun _ h=>h));obtain⟨y6,z6⟩:=x6 G y8;obtain⟨y4,z4⟩:=x4 _ G y6.cnt.brk;obtain⟨y3,z3⟩:=x3 _ G y4;obtain⟨y2,z2⟩:=x2 _ G y3;obtain⟨y1,z1⟩:=x1 _ G y2;obtain⟨y0,z0⟩:=x0 _ G y1;refine⟨y0,z12,z0,z6,z8,Z9z,z1,z2,fun hc=>?_,fun hp=>?_⟩
  .rw[hloop,if_pos hc];exact z3 hc
  .rw[hcont,if_pos hp];exact z4 hp
 refine⟨_,_,(⟨2,N,0⟩,(loop,0))::new,p12,fun G hG=>⟨(back G hG).1,(back G hG).2.1.more (fun x hx=>Z2 _ hx)⟩,fun X opn hA hE hL hG hX ho _ hK=>?_⟩;subst hA;obtain⟨_,_,z0,z6,z7,z8,k3,k4,k5,k6⟩:=back X.G hE;have hrel:X.ob true true [⟨2,N,0⟩] (loop,0):=IN (hL _ (by simp));have Z9y:(X.A.nd N).Ym=YL h.post (n+h.init.toNat+h.cond.toNat):=by
  rw[In.eq];show YL h.post (n+h.Zu.toNat+h.init.toNat+h.hasCond.toNat)=_;rw[hlf,hcc];rfl
 have Iw:X.ob true true [X.A.again N] (cont,0):=by
  unfold Tr.again;rw[if_neg (by omega),Z9y];cases hp:h.post with
  |true=>
   rw[if_pos (V5.2 rfl),Wm rfl];exact Wy (z8 hp).1 rfl (Tm _)
  |false=>
   rw[if_neg (by rw[V5];simp),hcont,hp];simpa using hrel
 have hB:X.ob true true [X.A.behind N] (S1.Z6.length,0):=by rw[In.behind];exact hK.any
 obtain⟨k1,k2,v12,cv⟩:=s12 X opn rfl hE (fun x hx=>hL x (Z2 _ hx)) hG hX ho hB Iw;have head:X.ob false false [⟨2,N,0⟩] (loop,0):=by
  cases hc:h.cond with
  |true=>exact Wy (z7 hc).1 rfl (Gj In hlf (by rw[hcc];exact hc))
  |false=>
   refine V6 (qS In hlf (by rw[hcc];exact hc) hbd) ?_;rw[hloop,hc];exact k1.any
 have ent: ∀ fs fg,X.ob fs fg [X.A.entered N] (c0,j0+h.init.toNat):=fun fs fg=>by
  rw[N8 In (.inr hk)];exact Xr z6 head.any
 have hnum:(X.A.nd N).number=(i:Int):=by rw[In.eq];rfl
 refine⟨Qz In hlf z0 ent,fun x hx=>?_,fun hiv=>?_,?_⟩
 .rcases ZO.1 hx with rfl|hx
  .exact head
  .exact k2 x hx
 .refine v12 (fun hp=>?_) (v8 X opn (Xg e6 p5 ((Iv.brk (TP e4 (TP e3 (XJ e2 (XJ e1 (TR e0 hp H (Ix In hlf ent) hiv)))))).cnt)) (fun hc=>?_))
  .have hlp:=In.WB (Gn (N:=N) hlf hp);rw[<-Z3,hcc]at hlp;exact .inr ⟨_,rfl,hlp.2,xU hlp.1 rfl (by rw[hnum];exact⟨i,rfl,k6 hp⟩) (Xr (z8 hp).2 hrel)⟩
  .have hlc:=In.WB (Tl (N:=N) hlf (by rw[hcc];exact hc));have Fu:X.A.decided N true=⟨1,R,0⟩:=by
    unfold Tr.decided;rw[hkd,if_neg (by decide),if_neg (by decide),if_pos rfl,In.eq];show(⟨1,YL h.Zz R,0⟩:Pl)=_;rw[Wm hbd]
   have hdF:X.A.decided N false=X.A.behind N:=by
    unfold Tr.decided;rw[hkd,if_neg (by decide),if_neg (by decide),if_neg (by simp),In.eq];show(if YL h.ZV R2≠ -1 then _ else X.A.behind N)=_;rw[IL hel,if_neg (by simp)]
   refine⟨.inr ⟨_,rfl,hlc.2,Gl hlc.1 (.inr hkd) (z7 hc).2 (by rw[Fu];exact k1.any) (by rw[hdF];exact hB) ⟨fun h10=>?_,fun _=>?_,fun h5=>?_⟩⟩,?_⟩
   .rw[hlc.1]at h10;have Z5v:X.A.kd N=10:=h10;omega
   .rw[hlc.1];show X.G.Qi _ 5 (X.A.nd N).number/\X.G.Qi _ 3 (X.A.nd N).number/\X.G.Qi _ 4 (X.A.nd N).number;rw[hnum];exact⟨⟨i,rfl,k5 hc⟩,⟨i,rfl,k3⟩,⟨i,rfl,k4⟩⟩
   .rw[hlc.1]at h5;exact absurd h5 (by show(3:Int)≠5;decide)
   .unfold Tr.Tw;rw[hlc.1];simp[hkd]
 .refine Cx.Vc.app (Q6 In hlf (fun hi=>⟨_,_,z0 hi⟩) (fun hc=>⟨_,_,(z7 (by rw[<-hcc];exact hc)).1⟩) (fun hp=>?_)) cv;rw[hcc];exact⟨_,_,(z8 hp).1⟩
end
section
variable {ls D:List ByteArray} {env:List DF} {Ts P P':List Nat} {m:Nat} {S S' S1:BS} {G:Gr} {c0 j0 cc jj:Nat} {A:Tr} {X:Cx} {h:Hd} {b e c tl:T} {N i a p n R R2 R3 N2:Nat} {ob oe:Out} {oc:WG} {ot:Out} {os:List Nat} {opq:Prop} {Hyp:Cx->Prop} {fl:Bool} {opn:Prop}
theorem xQ (H:Vy A h N i a p n R R2 oc) (hb:h.Zz=true):A.mv ⟨5,N,0⟩=([⟨1,R,0⟩,A.behind N],none):=by
 unfold Tr.mv;rw[if_neg (by show(5:Int)≠1;decide),if_neg (by show(5:Int)≠2;decide),if_neg (by show(5:Int)≠3;decide),if_neg (by show(5:Int)≠4;decide),if_pos rfl];have hbd:(A.nd N).body=R:=by
  rw[H.eq];show YL h.Zz R=_;rw[Wm hb]
 show([(⟨1,(A.nd N).body,0⟩:Pl),A.behind N],_)=_;rw[hbd]
theorem EV (hb:VK A ls b) (fb:FL ls b) (H:Rs ls D env Ts P m S) (hp:S.pt c0 j0) (I:Nv A h b e c tl N R n i a p ob oe oc ot R2 R3) (In:Vy A h N i a p n R R2 oc) (hf:Ql h b e c) (hk:h.kind=12) {lab:Option Nat} (hlab:Xy D S env h.label lab) (bs:b.Xv true) (bo:b.ok) (bf:b.fA)
  (bb:b.VN ls (⟨h.label,true⟩::env.map DF.s) false) (hl:LC ls D b.labels) (hm:m+14+16*b.wt<=40000) (hn:n+h.own+b.lv false<=39000) (hi:i+1+b.it<=40000) (hch:QF A a os) (hos:os.length<=N)
  (e':UF n i lab (env.map DF.t) (b.YO.list (n+h.own) (i+1)) S=some S') (Iu:opq) (hbq:b.opn->opq):
  LT A P S S' (N+1) (N+1+ob.ns.length) n (n+h.own+b.lv false) os env ⟨1,a,p⟩ c0 j0 ⟨1,a,(p:Int)+1⟩ opq Hyp:=by
 have hown:h.own=(h.Yl N).length:=Yj.1.symm;have hlf:h.Zu=false:=Wx (by omega);have hi0:h.init=false:=by
  cases hi:h.init with
  |false=>rfl
  |true=>have:=hf.1.ini hi;omega
 have hp0:h.post=false:=by
  cases hi:h.post with
  |false=>rfl
  |true=>have:=hf.1.Ym hi;omega
 have hcc:h.hasCond=true:=by unfold Hd.hasCond;rw[hk];simp
 have h0:h.own=1:=by rw[hown,(Yj (h:=h) (N:=N)).1,hlf,hcc,hi0,hp0];rfl
 have hbd:h.Zz=true:=Yo.2 (by omega);obtain⟨r1,r2⟩:=I.sb hbd;have heb:ob=b.rd.l (N+1) (R+1) (n+h.own) (i+1) R 0:=by rw[I.eb,QE hf,hown]
 rw[<-hown]at r2;have LJ:(A.nd N).list=a:=by rw[In.eq];rfl
 have lP: ∀ p∈P,p < S.Z6.length:=fun p hp=>H.lt hp;unfold UF at e';obtain⟨S0,e0,e'⟩:=Z8.1 e';obtain⟨S1,e1,e'⟩:=Z8.1 e';obtain⟨S2,e2,e'⟩:=Z8.1 e';obtain⟨S3,e3,e'⟩:=Z8.1 e';obtain⟨S4,e4,e'⟩:=Z8.1 e';obtain⟨S5,e5,e'⟩:=Z8.1 e';obtain⟨S9,e9,e'⟩:=Z8.1 e';obtain⟨RM,e10,e'⟩:=ZX.1 e';subst e';have H0:=H.Nr (by omega) hp.1 (Vk (by omega)) e0;obtain⟨p0,x0⟩:=Wh e0 hp;have w0:S0.ZT=S.ZT/\S0.Z6.length=S.Z6.length:=by
  obtain⟨k,_,_,hS⟩:=Vz e0 hp;rw[hS];exact⟨rfl,by simp[BS.set]⟩
 have nP: ∀ x,S0.Z6.length<=x->x∉P:=fun x hx hp=>by have:=lP _ hp;omega
 obtain⟨H1,c1,q1,w1⟩:=H0.newE (by omega) p0.1 (by decide) (XK (by omega)) e1;obtain⟨p1,x1⟩:=WO e1 p0;have Di:=H1.watch (d:=S0.Z6.length) (by simp);obtain⟨H2,c2,q2,w2⟩:=Di.St p1.1 (Di.ts _ (by simp)) e2;have x2:=VP e2 p1 Di;have m2: ∀ p∈P,p∈S0.Z6.length::P:=fun p hp=>Z2 _ hp;have b9:=H2.at (d:=S0.Z6.length) (P':=P) (by simp) m2 H.w.nd (nP _ (Z7 _));obtain⟨p2,x2'⟩:=WR (d:=S0.Z6.length) (P':=P) H2 (by simp) m2;obtain⟨H3,c3,q3,w3⟩:=b9.newE (by omega) p2.1 (by decide) (XK (by omega)) e3;obtain⟨p3,x3⟩:=WO e3 p2;obtain⟨H4,c4,q4,w4⟩:=H3.newE (by omega) p3.1 (by decide) (XK (by omega)) e4;obtain⟨p4,x4⟩:=WO e4 p3;have q3':S3.Z6.length=S2.Z6.length+1:=q3;have m5:S2.Z6.length∈S3.Z6.length::(S2.at S0.Z6.length).Z6.length::P:=by simp[BS.at]
 obtain⟨H5,c5,q5,w5⟩:=H4.vr (t:=S2.Z6.length) (t2:=S3.Z6.length) p4.1 (H4.pt m5) (H4.pt (by simp)) e5;have x5:=Kb e5 p4 H4;have m5': ∀ p∈S3.Z6.length::P,p∈S3.Z6.length::(S2.at S0.Z6.length).Z6.length::P:=by
  intro p hp;rcases ZO.1 hp with rfl|hp
  .simp
  .simp[hp]
 have wk:=H5.at (d:=S2.Z6.length) (P':=S3.Z6.length::P) m5 m5' (ZS.2 ⟨nP _ (by omega),H.w.nd⟩) (by simp;exact⟨by omega,nP _ (by omega)⟩);obtain⟨p5,qW⟩:=WR (d:=S2.Z6.length) (P':=S3.Z6.length::P) H5 m5 m5';have tA:Xy D (S5.at S2.Z6.length) env h.label lab:=hlab.same (by show S5.ZT=_;rw[w5,w4,w3];show S2.ZT=_;rw[w2,w1,w0.1]);obtain⟨H6,c6,b6,l6⟩:=wk.Mp tA S3.Z6.length S0.Z6.length;have p6:(((S5.at S2.Z6.length).XG lab S3.Z6.length).Sl lab S0.Z6.length).pt S2.Z6.length 0:=B6 (Iy p5);have hfr:(A.nd N).h.frame= [⟨h.label,true⟩]:=by rw[In.eq];show h.frame=_;unfold Hd.frame;rw[if_pos (by omega)]
 have hkd:A.kd N=12:=by rw[In.kd];exact hk
 obtain⟨new,p12,x12,s12⟩:=MX hb fb (post:=false) (P:=P) (q:=0) (done:=S3.Z6.length) (loop:=S0.Z6.length) (cont:=S0.Z6.length) (by simpa using H6) p6 (by simp) (by simp) l6 bs bo bf bb hl (by omega) (n1:=n+h.own) (i1:=i+1) (N1:=N+1) (r:=R) (by omega) (by omega) (by simp) heb r1 r2 (by rw[LJ];exact hch) (by omega) (.inr hkd) hfr e9 e10 (Pa:=RM) (by simp);have back: ∀ G,Ext (RM.at S3.Z6.length) P G->Ext S P G/\XF A G (N+1) (N+1+ob.ns.length) new/\G.node c0 j0 ⟨lp n,false⟩/\G.ends c0 (j0+1) [S0.Z6.length]/\G.ends S0.Z6.length 0 [S2.Z6.length,S3.Z6.length]/\G.kind S0.Z6.length 13 (some (ip i))/\G.kind S2.Z6.length 11 (some (ip i))/\G.kind S3.Z6.length 12 (some (ip i)):=by
  intro G hG;obtain⟨nM,z12,_⟩:=x12 G hG;have Z9x:Ext (((S5.at S2.Z6.length).XG lab S3.Z6.length).Sl lab S0.Z6.length) (S3.Z6.length::P) G:=by simpa using nM
  obtain⟨y4,z5⟩:=x5 G (qW G Z9x.cnt.brk);obtain⟨y3,z4⟩:=x4 _ G y4;obtain⟨y2,z3⟩:=x3 _ G y3;obtain⟨y1,z2⟩:=x2 G (x2' G y2);obtain⟨y0,z1⟩:=x1 _ G y1;obtain⟨y,z0⟩:=x0 _ G y0;exact⟨y,z12,z0,z2,z5,z1,z3,z4⟩
 refine⟨_,_,(⟨5,N,0⟩,(S0.Z6.length,0))::new,p12,fun G hG=>⟨(back G hG).1,(back G hG).2.1.more (fun x hx=>Z2 _ hx)⟩,fun X opn hA hE hL hG hX ho _ hK=>?_⟩;subst hA;obtain⟨_,_,z0,z2,z5,k3,k4,k5⟩:=back X.G hE;have hrel:X.ob true true [⟨5,N,0⟩] (S0.Z6.length,0):=IN (hL _ (by simp));have Iw:X.ob true true [X.A.again N] (S0.Z6.length,0):=by
  unfold Tr.again;rw[if_pos hkd];exact hrel
 have hB:X.ob true true [X.A.behind N] (S3.Z6.length,0):=by rw[In.behind];exact hK.any
 obtain⟨k1,k2,v12,cv⟩:=s12 X opn rfl hE (fun x hx=>hL x (Z2 _ hx)) hG hX (fun h=>ho (hbq h)) hB Iw
 have head:X.ob false false [⟨5,N,0⟩] (S0.Z6.length,0):=
  .sp (xQ In hbd) (LU z5 (Q1:= [⟨1,R,0⟩]) (Q2:= [X.A.behind N]) (by intro p;simp) k1.any (by rw[In.behind];exact hK.any))
 have hnum:(X.A.nd N).number=(i:Int):=by rw[In.eq];rfl
 have hlc:=In.WB (Tl (N:=N) hlf hcc);rw[hi0]at hlc;simp only[Bool.toNat_false,Zn]at hlc;have hcnd:(X.A.nd N).cnd=(n:Int):=by
  rw[In.eq];show YL h.hasCond (n+h.Zu.toNat+h.init.toNat)=_;rw[Wm hcc,hlf,hi0];rfl
 refine⟨V6 In.at' ?_,fun x hx=>?_,fun hiv=>?_,?_⟩
 .rw[In.WD hlf hi0,IC In hk,hcnd];exact Wy z0 rfl (Tm _)
 .rcases ZO.1 hx with rfl|hx
  .exact head
  .exact k2 x hx
 .refine v12 (fun h=>by cases h) (Iv.cnt (Iv.brk (XZ H5 m5 (Qh e5 p4 (.inl (ho Iu)) (XJ e4 (XJ e3 (XZ H2 (by simp) (Xg e2 p1 (XJ e1 (WW e0 hp H ?_ hiv))))))))));exact .inr ⟨n,rfl,hlc.2,qY hlc.1 hkd z2 z5 (by rw[hnum];exact⟨i,rfl,k3⟩) (by rw[hnum];exact⟨i,rfl,k4⟩) (by rw[hnum];exact⟨i,rfl,k5⟩) (Xr z2 hrel)⟩
 .refine Cx.Vc.app (Q6 In hlf (fun hi=>by rw[hi0]at hi;cases hi) (fun hc=>⟨_,_,by rw[hi0];exact z0⟩) (fun hp=>by rw[hp0]at hp;cases hp)) cv
end
end Go.Proofs.YteedbaejpdjilaaGreat
