/- Part of the proof: BldI BldJ BldK BldL BldM BldN BldO. -/
import Derived.Test.YteedbaejpdjilaaGreatPh
import Derived.Deep.LoopGhost
import Derived.BigFrame
import Derived.ScopeJumps
set_option linter.unusedSimpArgs false
set_option linter.unusedVariables false
set_option maxRecDepth 100000
set_option maxHeartbeats 40000000
namespace Go.Proofs.YteedbaejpdjilaaGreat
open Go.RowKit
section
theorem pre_get {A A':List Nat} (h:A <+:A') {i a:Nat} (ha:A[i]? =some a):A'[i]? =some a:=by
 obtain⟨r,rfl⟩:=h;rw[List.getElem?_append_left (List.getElem?_eq_some_iff.1 ha).1];exact ha
theorem BAt.setTg {w:World} {B b b0:Nat} {A:List Nat} {NV:List Value} {L:List Nat} {S:BS} {tg tg':List Tg} {M:Mk} (h:BAt w B b b0 A NV L S tg M) {v:Value} (hv:TgAt (Hv w 0) A tg' v):
  BAt (w.setCell ⟨b,4,none⟩ v) B b b0 A NV L S tg' M∧Fr bT B w (w.setCell ⟨b,4,none⟩ v):=by
 obtain⟨bv,cv,mv,tv,hb,hbv,hcv,hlv,htv⟩:=h.self;have f:Fr [136] B w (w.setCell ⟨b,4,none⟩ v):=(Fr.refl _ _ _).setT _ _ hb.ty (by decide) h.hB;have f2:Fr bT B w (w.setCell ⟨b,4,none⟩ v):=f.mono (by decide) (Nat.le_refl _);have o:Only [b] w (w.setCell ⟨b,4,none⟩ v):=(Only.refl _ _).set _ _ (.inl (by simp));have hA:A <+:A:=⟨[],by simp⟩
 have nX: ∀ x t,TyAt w x t->t≠136->x∉ [b]:=by
  intro x t hx h1 hc;simp at hc;exact TyAt.ne hx hb.ty h1 hc
 refine⟨⟨h.hB,h.lenA,h.lenN,h.nodup,h.base,h.apart,fun i k nv hk hn=>?_,h.mak.fr f (by decide),?_⟩,f2⟩
 ·exact(h.bks i k nv hk hn).only o f2 hA (fun a ha=>nX a 99 (h.tyA a (List.mem_of_getElem? ha)) (by decide)) (fun g hg=>nX g 104 (h.tyN nv (List.mem_of_getElem? hn) g hg) (by decide))
 ·refine⟨bv,cv,mv,v,hb.set 4 v,own_fr f hbv (by decide),hcv,hlv.only o hA (fun l hl=>nX l 193 (hlv.ty l hl) (by decide)) (fun mb hmb hc=>?_),hv.mono (Hv.bT f2) hA⟩;simp at hc;exact hlv.notCells hmb hb.ty hc
theorem BAt.leB {w:World} {B b b0:Nat} {A:List Nat} {NV:List Value} {L:List Nat} {S:BS} {tg:List Tg} {M:Mk} (h:BAt w B b b0 A NV L S tg M):B<=w.heap.size∧b < w.heap.size:=by
 obtain⟨bv,cv,mv,tv,hb,_⟩:=h.self;have:=hb.lt;have:=h.hB;omega
theorem BAt.alloc {w:World} {B b b0:Nat} {A:List Nat} {NV:List Value} {L:List Nat} {S:BS} {tg:List Tg} {M:Mk} (h:BAt w B b b0 A NV L S tg M) (o:Obj):BAt (w.alloc o) B b b0 A NV L S tg M∧Fr bT B w (w.alloc o):=
 have f:=(Fr.refl bT B w).alloc h.leB.1 o
 ⟨h.same ((Only.refl _ _).alloc _) f,f⟩
theorem set_alloc (w:World) (o:Obj) (p:Addr) (v:Value) (h:p.block < w.heap.size):(w.alloc o).setCell p v=(w.setCell p v).alloc o:=by
 simp only[World.alloc,World.setCell];congr 1;apply Array.ext_getElem?;intro i;simp only[Array.getElem?_modify,Array.getElem?_push,Array.size_modify];by_cases h1:p.block=i
 ·subst h1;have: ¬ p.block=w.heap.size:=by omega
  simp[this]
 ·simp[h1]
theorem BAt.push {w:World} {B b b0:Nat} {A:List Nat} {NV:List Value} {L:List Nat} {S:BS} {tg:List Tg} {M:Mk} (h:BAt w B b b0 A NV L S tg M) {bv mk cv mv tv:Value} (hb:Blk w b [bv,mk,cv,mv,tv] 136) {t:Tg} {v1 v2 v3:Value} (h1:PtrAt A v1 t.brk) (h2:PtrAt A v2 t.cnt) (h3:PtrAt A v3 t.fal):
  BAt ((w.setCell ⟨b,4,none⟩ (.pointer (some ⟨w.heap.size,0,none⟩))).alloc (.cells [tv,v1,v2,v3].toArray 223)) B b b0 A NV L S (t::tg) M∧Fr bT B w ((w.setCell ⟨b,4,none⟩ (.pointer (some ⟨w.heap.size,0,none⟩))).alloc (.cells [tv,v1,v2,v3].toArray 223)):=by
 obtain⟨bv',cv',mv',tv',hb',_,_,_,htv⟩:=h.self;obtain⟨he,_⟩:=hb.inj hb';obtain rfl:tv=tv':=by simp at he;exact he.2.2.2.2
 obtain⟨ha,fa⟩:=h.alloc (.cells [tv,v1,v2,v3].toArray 223);rw[<-set_alloc w _ _ _ hb.lt];obtain⟨hs,fs⟩:=ha.setTg (tg':=t::tg) (v:=.pointer (some ⟨w.heap.size,0,none⟩)) ⟨w.heap.size,tv,v1,v2,v3,rfl,⟨Nat.zero_le _,by decide,Blk.new w _ _⟩,h1,h2,h3,htv.mono (Hv.bT fa) ⟨[],by simp⟩⟩;exact⟨hs,fa.trans fs⟩
theorem BAt.setRet {w:World} {B b b0:Nat} {A:List Nat} {NV:List Value} {L:List Nat} {S:BS} {tg:List Tg} {M:Mk} (h:BAt w B b b0 A NV L S tg M) {g ga:Nat} {k:Bk} (hk:S.bks[g]? =some k) (hga:A[g]? =some ga):
  BAt (w.setCell ⟨ga,4,none⟩ (.bool true)) B b b0 A NV L (S.set g { k with rets:=true }) tg M∧Fr bT B w (w.setCell ⟨ga,4,none⟩ (.bool true)):=by
 have hlt:=(List.getElem?_eq_some_iff.1 hk).1;have hln:g < NV.length:=by have:=h.lenN;omega
 have hnv:NV[g]? =some NV[g]:=List.getElem?_eq_getElem hln;obtain⟨a',sv,p0,p1,ns,g1,g2,g3,g4,g5,g6,g7,g8,g9⟩:=h.bks g k _ hk hnv;rw[hga]at g1;cases g1;have hBa:=h.base ga (List.mem_of_getElem? hga);have f2:Fr bT B w (w.setCell ⟨ga,4,none⟩ (.bool true)):=(Fr.refl _ _ _).setT _ _ g2.ty (by decide) hBa;have o2:Only [ga] w (w.setCell ⟨ga,4,none⟩ (.bool true)):=(Only.refl _ _).set _ _ (.inl (by simp))
 have hU:=h.upd (nv':=NV[g]) hga hnv o2 f2 (fun x hx=>.inl (by simpa using hx)) (k':= { k with rets:=true })
  ⟨ga,sv,p0,p1,ns,hga,g2.set 4 (.bool true),own_only o2 g3 (fun x hx hc=>TyAt.ne (h.tyN _ (List.mem_of_getElem? hnv) x hx) g2.ty (by decide) (by simpa using hc)),g4,fun j v n e1 e2=>(g5 j v n e1 e2).mono (Hv.bT f2),g6.mono (Hv.bT f2),g7,g8,g9⟩ (fun x hx=>.inl hx)
 have eN:NV.set g NV[g]=NV:=by simp
 rw[eN]at hU;exact⟨hU,f2⟩
theorem BAt.setLab {w:World} {B b b0:Nat} {A:List Nat} {NV:List Value} {L:List Nat} {S:BS} {tg:List Tg} {M:Mk} (h:BAt w B b b0 A NV L S tg M) {j l:Nat} {s:ByteArray} {x:Lb} (hj:S.labs[j]? =some (s,x)) (hl:L[j]? =some l) {o:Nat} {v:Value} {f:Lb->Lb}
  (hf: ∀ gv bv cv,PtrAt A gv (some x.go)->PtrAt A bv x.brk->PtrAt A cv x.cnt-> ∃ gv' bv' cv',[gv,bv,cv].set o v= [gv',bv',cv']∧PtrAt A gv' (some (f x).go)∧PtrAt A bv' (f x).brk∧PtrAt A cv' (f x).cnt):
  BAt (w.setCell ⟨l,o,none⟩ v) B b b0 A NV L (S.setLb j f) tg M∧Fr bT B w (w.setCell ⟨l,o,none⟩ v):=by
 obtain⟨bv,cv,mv,tv,hb,hbv,hcv,hlv,htv⟩:=h.self;have hlm:=List.mem_of_getElem? hl;have hlt:=hlv.ty l hlm;obtain⟨l1,l2,l3,l4,l5⟩:=hlv;have f1:Fr [193] B w (w.setCell ⟨l,o,none⟩ v):=(Fr.refl _ _ _).setT _ _ hlt (by decide) (l3 l hlm);have f2:Fr bT B w (w.setCell ⟨l,o,none⟩ v):=f1.mono (by decide) (Nat.le_refl _);have oo:Only [l] w (w.setCell ⟨l,o,none⟩ v):=(Only.refl _ _).set _ _ (.inl (by simp));have hA:A <+:A:=⟨[],by simp⟩
 have nX: ∀ x t,TyAt w x t->t≠193->x∉ [l]:=by
  intro x t hx h1 hc;simp at hc;exact TyAt.ne hx hlt h1 hc
 refine⟨⟨h.hB,h.lenA,h.lenN,h.nodup,h.base,h.apart,fun i k nv hk hn=>?_,h.mak.fr f1 (by decide),?_⟩,f2⟩
 ·exact(h.bks i k nv hk hn).only oo f2 hA (fun a ha=>nX a 99 (h.tyA a (List.mem_of_getElem? ha)) (by decide)) (fun g hg=>nX g 104 (h.tyN nv (List.mem_of_getElem? hn) g hg) (by decide))
 ·refine⟨bv,cv,mv,tv,hb.fr f1 (by decide),own_fr f1 hbv (by decide),hcv,⟨by simpa [BS.setLb]using l1,l2,l3,?_,?_⟩,htv.mono (Hv.bT f2) hA⟩
  ·intro j' l' s' x' e1 e2;by_cases hjj:j'=j
   ·subst hjj;rw[hl]at e1;cases e1;simp only[BS.setLb,List.getElem?_modify,hj]at e2;simp at e2;obtain⟨rfl,rfl⟩:=e2;obtain⟨gv,bv2,cv2,q1,q2,q3,q4⟩:=l4 j' l s x hl hj;obtain⟨gv',bv',cv',r1,r2,r3,r4⟩:=hf gv bv2 cv2 q2 q3 q4;have:=q1.set o v;rw[r1]at this;exact⟨gv',bv',cv',this,r2,r3,r4⟩
   ·have e2':S.labs[j']? =some (s',x'):=by
     simp only[BS.setLb,List.getElem?_modify]at e2;have: ¬ j=j':=fun e=>hjj e.symm;simpa [this]using e2
    obtain⟨gv,bv2,cv2,q1,q2,q3,q4⟩:=l4 j' l' s' x' e1 e2';have hne:l'≠l:=fun e=>hjj (by
     subst e;exact(List.getElem?_inj (List.getElem?_eq_some_iff.1 e1).1 l2).1 (e1.trans hl.symm))
    exact⟨gv,bv2,cv2,q1.only oo (by simpa using hne),q2,q3,q4⟩
  ·rcases l5 with⟨r1,r2⟩ |⟨mb,es,ck,r1,r2,r3,r4⟩
   ·refine .inl ⟨r1,?_⟩;simp[BS.setLb,r2]
   ·refine .inr ⟨mb,es,ck,r1,r2,?_,?_⟩
    ·rw[Below.heap_setCell _ _ _ _ ?_]
     ·exact r3
     ·intro e;obtain⟨cs,ff,hc⟩:=hlt;simp at e;subst e;rw[r3]at hc;cases hc
    ·rw[r4];apply List.ext_getElem?;intro q;simp only[BS.setLb,List.getElem?_map,List.zip,List.getElem?_zipWith,List.getElem?_modify];cases S.labs[q]? with
     |none=>simp
     |some y=>
      cases L[q]? with
      |none=>simp
      |some z=>
       by_cases hq:j=q<;>simp[hq]
def BX (w:World) (B b b0:Nat) (A L:List Nat) (S:BS) (tg:List Tg) (M:Mk):Prop:= ∃ NV,BAt w B b b0 A NV L S tg M
def Aft (w w':World) (B b b0:Nat) (A L:List Nat) (S:BS) (tg:List Tg) (M:Mk):Prop:= ∃ A' L',A <+:A'∧L <+:L'∧BX w' B b b0 A' L' S tg M∧Fr bT B w w'
theorem pre_refl (A:List Nat):A <+:A:=⟨[],by simp⟩
theorem onCur_some {S S':BS} {f:Bk->Option Bk} (h:S.onCur f=some S'): ∃ c k k',S.cur=some c∧S.bks[c]? =some k∧f k=some k'∧S'=S.set c k':=by
 unfold BS.onCur at h;simp only[Option.bind_eq_some_iff,Option.map_eq_some_iff]at h;obtain⟨c,hc,k,hk,k',hk',rfl⟩:=h;exact⟨c,k,k',hc,hk,hk',rfl⟩
theorem newP_some {S S':BS} {k:Int} {o:Option Int} (h:S.newP k o=some S'):S.bks.length<=100000∧S'=S.new k o:=by
 unfold BS.newP at h;split at h
 ·next hn=>exact⟨hn,by simpa using h.symm⟩
 ·cases h
theorem addP_some {S S':BS} {n:Nod} (h:S.addP n=some S'): ∃ c k,S.cur=some c∧S.bks[c]? =some k∧k.nodes.length<=100000∧S'=S.set c { k with nodes:=k.nodes++ [n] } :=by
 obtain⟨c,k,k',hc,hk,hf,rfl⟩:=onCur_some h;split at hf
 ·next hn=>exact⟨c,k,hc,hk,hn,by simp at hf;rw[hf]⟩
 ·cases hf
theorem retP_some {S S':BS} (h:S.retP=some S'): ∃ c k,S.cur=some c∧S.bks[c]? =some k∧S'=S.set c { k with rets:=true } :=by
 obtain⟨c,k,k',hc,hk,hf,rfl⟩:=onCur_some h;exact⟨c,k,hc,hk,by simp at hf;rw[hf]⟩
theorem jumpP_some {S S':BS} {t:Nat} (h:S.jumpP t=some S'): ∃ c k,S.cur=some c∧S.bks[c]? =some k∧k.succs= []∧t < S.bks.length∧S'=(S.set c { k with succs:= [t] }).noCur:=by
 unfold BS.jumpP at h;rw[Option.map_eq_some_iff]at h;obtain⟨S1,h1,rfl⟩:=h;obtain⟨c,k,k',hc,hk,hf,rfl⟩:=onCur_some h1;split at hf
 ·next hn=>exact⟨c,k,hc,hk,hn.1,hn.2,by simp at hf;rw[hf]⟩
 ·cases hf
theorem ifP_some {S S':BS} {t t2:Nat} (h:S.ifP t t2=some S'): ∃ c k,S.cur=some c∧S.bks[c]? =some k∧k.succs= []∧t < S.bks.length∧t2 < S.bks.length∧S'=(S.set c { k with succs:= [t,t2] }).noCur:=by
 unfold BS.ifP at h;rw[Option.map_eq_some_iff]at h;obtain⟨S1,h1,rfl⟩:=h;obtain⟨c,k,k',hc,hk,hf,rfl⟩:=onCur_some h1;split at hf
 ·next hn=>exact⟨c,k,hc,hk,hn.1,hn.2.1,hn.2.2,by simp at hf;rw[hf]⟩
 ·cases hf
theorem new_st {w:World} {B b b0:Nat} {A L:List Nat} {S S':BS} {tg:List Tg} {M:Mk} (h:BX w B b b0 A L S tg M) {k:Int} {o:Option Int} (hs:S.newP k o=some S') {sv:Value} (hv:StmtOf (Hv w 0) sv o):
  Calls Tryz.prog 84 #[b,.int .u8 k,sv] w fun e w'=> ∃ a,e=.returned (.pointer (some ⟨a,0,none⟩))∧ ∃ A',A <+:A'∧A'[S.bks.length]? =some a∧BX w' B b b0 A' L S' tg M∧Fr bT B w w':=by
 obtain⟨NV,h⟩:=h;obtain⟨hn,rfl⟩:=newP_some hs;refine(newBlock_any h hn k sv o hv).mono ?_;rintro e w' ⟨a,rfl,h1,f1⟩;exact⟨a,rfl,A++ [a],⟨_,rfl⟩,by rw[<-h.lenA];simp,⟨_,h1⟩,f1⟩
theorem add_st {w:World} {B b b0:Nat} {A L:List Nat} {S S':BS} {tg:List Tg} {M:Mk} (h:BX w B b b0 A L S tg M) {n:Nod} (hs:S.addP n=some S') {v:Value} (hv:NodeAt (Hv w 0) v n):
  Calls Tryz.prog 86 #[b,v] w fun e w'=>e=.returned (.tuple #[])∧BX w' B b b0 A L S' tg M∧Fr bT B w w':=by
 obtain⟨NV,h⟩:=h;obtain⟨c,k,hc,hk,hn,rfl⟩:=addP_some hs;refine(add_any h hc hk hn v n hv).mono ?_;rintro e w' ⟨rfl,NV',h1,f1⟩;exact⟨rfl,⟨_,h1⟩,f1⟩
theorem jump_st {w:World} {B b b0:Nat} {A L:List Nat} {S S':BS} {tg:List Tg} {M:Mk} (h:BX w B b b0 A L S tg M) {t at1:Nat} (hs:S.jumpP t=some S') (ht:A[t]? =some at1):
  Calls Tryz.prog 99 #[b,at1] w fun e w'=>e=.returned (.tuple #[])∧BX w' B b b0 A L S' tg M∧Fr bT B w w':=by
 obtain⟨NV,h⟩:=h;obtain⟨c,k,hc,hk,hn,_,rfl⟩:=jumpP_some hs;refine(jump_any h hc hk hn ht).mono ?_;rintro e w' ⟨rfl,h1,f1⟩;exact⟨rfl,⟨_,h1⟩,f1⟩
theorem if_st {w:World} {B b b0:Nat} {A L:List Nat} {S S':BS} {tg:List Tg} {M:Mk} (h:BX w B b b0 A L S tg M) {t at1 t2 at2:Nat} (hs:S.ifP t t2=some S') (ht:A[t]? =some at1) (ht2:A[t2]? =some at2):
  Calls Tryz.prog 102 #[b,at1,at2] w fun e w'=>e=.returned (.tuple #[])∧BX w' B b b0 A L S' tg M∧Fr bT B w w':=by
 obtain⟨NV,h⟩:=h;obtain⟨c,k,hc,hk,hn,_,_,rfl⟩:=ifP_some hs;refine(ifelse_any h hc hk hn ht ht2).mono ?_;rintro e w' ⟨rfl,h1,f1⟩;exact⟨rfl,⟨_,h1⟩,f1⟩
end
section
theorem findLab_some {S:BS} {s:ByteArray} {j:Nat} (h:S.findLab s=some j): ∃ x,S.labs[j]? =some (s,x)∧ ∀ (q:Nat) (y:ByteArray × Lb),q < j->S.labs[q]? =some y->y.1≠s:=by
 unfold BS.findLab at h;rw[List.findIdx?_eq_some_iff_getElem]at h;obtain⟨hlt,h1,h2⟩:=h;simp at h1;refine⟨S.labs[j].2,?_,?_⟩
 ·rw[List.getElem?_eq_getElem hlt];congr 1;rw[<-ByteArray.ext h1]
 ·intro q y hq hy e;have hq2:q < S.labs.length:=by omega
  have:=h2 q hq;rw[List.getElem?_eq_getElem hq2]at hy;simp at hy this;subst hy;exact this (by rw[e])
theorem findLab_none {S:BS} {s:ByteArray} (h:S.findLab s=none): ∀ y∈S.labs,y.1≠s:=by
 unfold BS.findLab at h;rw[List.findIdx?_eq_none_iff]at h;intro y hy e;have:=h y hy;simp at this;exact this (by rw[e])
theorem lab_st {w:World} {B b b0:Nat} {A L:List Nat} {S:BS} {tg:List Tg} {M:Mk} (h:BX w B b b0 A L S tg M) {s:ByteArray} {r:Nat × BS} (hs:S.labP s false=some r) {lv:Value} (hlv:LabAt (Hv w 0) lv s):
  Calls Tryz.prog 98 #[b,lv,.pointer none] w fun e w'=> ∃ l,e=.returned (.pointer (some ⟨l,0,none⟩))∧ ∃ A' L',A <+:A'∧L <+:L'∧L'[r.1]? =some l∧BX w' B b b0 A' L' r.2 tg M∧Fr bT B w w':=by
 obtain⟨NV,h⟩:=h;unfold BS.labP at hs;have hl1:L.length=S.labs.length:=by
  obtain⟨_,_,_,_,_,_,_,hl,_⟩:=h.self;exact hl.1
 cases hf:S.findLab s with
 |some j=>
  rw[hf]at hs;simp at hs;subst hs;obtain⟨x,hx,hq⟩:=findLab_some hf;have hjl:j < L.length:=by
   have:=(List.getElem?_eq_some_iff.1 hx).1;omega
  refine(labeled_found h hx (List.getElem?_eq_getElem hjl) hq hlv).mono ?_;rintro e w' ⟨rfl,h1,f1⟩;exact⟨_,rfl,A,L,pre_refl A,pre_refl L,List.getElem?_eq_getElem hjl,⟨_,h1⟩,f1⟩
 |none=>
  rw[hf]at hs;simp at hs;obtain⟨S1,h1,rfl⟩:=hs;obtain⟨hn,rfl⟩:=newP_some h1;refine(labeled_new h hn (findLab_none hf) hlv).mono ?_;rintro e w' ⟨a,l,rfl,h1,f1⟩;exact⟨l,rfl,A++ [a],L++ [l],⟨_,rfl⟩,⟨_,rfl⟩,by rw[<-hl1];simp,⟨_,h1⟩,f1⟩
theorem lab_set_st {w:World} {B b b0:Nat} {A L:List Nat} {S:BS} {tg:List Tg} {M:Mk} (h:BX w B b b0 A L S tg M) {s:ByteArray} {r:Nat × BS} (hs:S.labP s true=some r) {lv:Value} (hlv:LabAt (Hv w 0) lv s) {sa:Nat} {lv2 u2:Value} {s2:ByteArray} (hsa:Hv w 0 sa [lv2,.int .i64 0,u2] 190) (hlv2:LabAt (Hv w 0) lv2 s2):
  Calls Tryz.prog 98 #[b,lv,sa] w fun e w'=> ∃ l,e=.returned (.pointer (some ⟨l,0,none⟩))∧ ∃ A' L',A <+:A'∧L <+:L'∧L'[r.1]? =some l∧BX w' B b b0 A' L' r.2 tg M∧Fr bT B w w':=by
 obtain⟨NV,h⟩:=h;unfold BS.labP at hs;have hl1:L.length=S.labs.length:=by
  obtain⟨_,_,_,_,_,_,_,hl,_⟩:=h.self;exact hl.1
 cases hf:S.findLab s with
 |some j=>
  rw[hf]at hs;simp at hs;obtain⟨x,hx,hq⟩:=findLab_some hf;rw[hx]at hs;simp at hs;rw[Option.bind_eq_some_iff]at hs;obtain⟨k,hk,hs⟩:=hs;split at hs
  ·next hof=>
   simp at hs;subst hs;have hjl:j < L.length:=by
    have:=(List.getElem?_eq_some_iff.1 hx).1;omega
   refine(labeled_found_set h hx (List.getElem?_eq_getElem hjl) hq hlv hk hof hsa hlv2).mono ?_;rintro e w' ⟨rfl,h1,f1⟩;exact⟨_,rfl,A,L,pre_refl A,pre_refl L,List.getElem?_eq_getElem hjl,⟨_,h1⟩,f1⟩
  ·cases hs
 |none=>
  rw[hf]at hs;simp at hs;obtain⟨S1,h1,rfl⟩:=hs;obtain⟨hn,rfl⟩:=newP_some h1;refine(labeled_new_set h hn (findLab_none hf) hlv hsa hlv2).mono ?_;rintro e w' ⟨a,l,rfl,h1,f1⟩;exact⟨l,rfl,A++ [a],L++ [l],⟨_,rfl⟩,⟨_,rfl⟩,by rw[<-hl1];simp,⟨_,h1⟩,f1⟩
end
section
theorem BAt.remak {w w':World} {B b b0:Nat} {A:List Nat} {NV:List Value} {L:List Nat} {S:BS} {tg:List Tg} {M:Mk} (h:BAt w B b b0 A NV L S tg M) {X:List Nat} (ho:Only X w w') (hf:Fr bT B w w')
  (hX: ∀ x∈X,∃ t,TyAt w x t∧(t=83∨t=3)) {l:List Int} (hm:MakerAt w' B b0 (M.ask l)):BAt w' B b b0 A NV L { S with asked:=l } tg M:=by
 have nX: ∀ x t,TyAt w x t->t≠83->t≠3->x∉X:=by
  intro x t hx h1 h2 hc;obtain⟨t',h3,h4⟩:=hX x hc;have:=TyAt.inj hx h3;subst this;rcases h4 with h4|h4
  ·exact h1 h4
  ·exact h2 h4
 have hA:A <+:A:=⟨[],by simp⟩
 obtain⟨bv,cv,mv,tv,hb,hbv,hcv,hlv,htv⟩:=h.self
 exact⟨h.hB,h.lenA,h.lenN,h.nodup,h.base,h.apart,fun i k nv hk hn=>(h.bks i k nv hk hn).only ho hf hA (fun a ha=>nX a 99 (h.tyA a (List.mem_of_getElem? ha)) (by decide) (by decide)) (fun g hg=>nX g 104 (h.tyN nv (List.mem_of_getElem? hn) g hg) (by decide) (by decide)),
  hm,⟨bv,cv,mv,tv,hb.only ho (nX _ _ hb.ty (by decide) (by decide)),own_only ho hbv (fun k hk=>nX k 92 (own_ty hbv hk) (by decide) (by decide)),hcv,hlv.only ho hA (fun l hl=>nX l 193 (hlv.ty l hl) (by decide) (by decide)) (fun mb hmb hc=>by
   obtain⟨t,h1,_⟩:=hX mb hc;exact hlv.notCells hmb h1 rfl),htv.mono (Hv.bT hf) hA⟩⟩
theorem info3:(Tryz.prog.info? 3).map (fun i=>(i.zero,i.size,i.bytes))=some (some (.int .i64 0),1,8):=by kernel_rfl
theorem mayReturn_any {w:World} {B b b0:Nat} {A:List Nat} {NV:List Value} {L:List Nat} {S:BS} {tg:List Tg} {M:Mk} (h:BAt w B b b0 A NV L S tg M) {c n:Nat} (hc:CallAt (Hv w 0) c (lp n)) (hn:n<=100000) {s:Bool} (hs:M.stops[n]? =some s) (hl:(M.asked++S.asked).length<=100000):
  Calls Tryz.prog 67 #[b0,c] w fun e w'=>e=.returned (.bool (!s))∧BAt w' B b b0 A NV L (S.ask n) tg M∧Fr bT B w w':=by
 obtain⟨sv,lv,av,ps,hB,hb,hsv,hlv,hps,hnl,hav⟩:=h.mak;have hnl2:n < M.stops.length:=(List.getElem?_eq_some_iff.1 hs).1;obtain⟨g0,cap0,rfl⟩: ∃ g0 cap0,sv=.slice (some ⟨g0,0,none⟩) M.stops.length cap0:=by
  rcases hsv.2 with⟨_,h0⟩ |⟨g,cap,cur,hv,_⟩
  ·have:M.stops.length=0:=h0;omega
  ·exact⟨_,_,hv⟩
 have hcs:w.cell? ⟨g0,n,none⟩=some (.bool s):=by
  have:=World.ownsRow.cellAt hsv n (by show n < M.stops.length*1;omega);rw[this];show(M.stops.map Value.bool)[n]? =_;simp[hs]
 have c4:=hb.cell 4 rfl;have c2:=hb.cell 2 rfl;have f4:=hb.free 4;have hlt:=hb.lt;have hlp:lp n=10+2*(n:Int):=rfl;have hq:(10+2*(n:Int) -10).tdiv 2=n:=by
  rw[Int.tdiv_eq_ediv_of_nonneg (by omega)];omega
 have Hl:=hid3 hs hl hlp;clear hs hl;go_enter Tryz.func67,Tryz.ntmps67;go_wp2_with fail
 refine(callPos_any hc).mono ?_;rintro e w' ⟨rfl,rfl⟩;rw[hlp];clear hlp;have hal:(M.asked++S.asked).length<=100000:=Hl.out.2.1;go_wp2_with (at_builtin;refine wpList_app1 w rfl _ _ 31 rfl B 3 (.int .i64 0) 1 8 Tryz.underlying31 info3 rfl (by decide) (by decide) hav (by rfl) [.int .i64 n] rfl ?c1 (by rfl) (by show(M.asked++S.asked).length<=1000000;omega) (by omega) ?_)
 case c1=>simp[Value.oneCell']
 intro g cap w1 h1 hg hat hg1;have hb1:=hb.grown hg (own_ne hav hb.ty (by decide));have hsv1:w1.cell? ⟨g0,n,none⟩=some (.bool s):=by
  have hty:=own_ty hsv (g:=g0) rfl;have hne:=own_ne hav hty (by decide);have hlt0:=hty.lt;unfold World.cell? at hcs ⊢;rw[hg.block g0 hlt0 hne];exact hcs
 clear c4 c2 f4 hcs;have c4:=hb1.cell 4 rfl;have f4:=hb1.free 4;have hb2:=hb1.set 4 (.slice (some ⟨g,0,none⟩) ((M.ask S.asked).asked.length+1) cap);have c2:=hb2.cell 2 rfl;have hg0b:g0≠b0:=TyAt.ne (own_ty hsv (g:=g0) rfl) hb.ty (by decide);have hsv2:(w1.setCell ⟨b0,4,none⟩ (.slice (some ⟨g,0,none⟩) ((M.ask S.asked).asked.length+1) cap)).cell? ⟨g0,n,none⟩=some (.bool s):=by
  unfold World.cell? at hsv1 ⊢;rw[Below.heap_setCell _ _ _ _ (by simpa using hg0b)];exact hsv1
 go_wp2_with fail
 go_ret;have f1:Fr bT B w w1:=(Fr.refl bT B w).grown hav hg (by omega) (Nat.le_refl _) (.inl (by decide));have f2:Fr bT B w (w1.setCell ⟨b0,4,none⟩ (.slice (some ⟨g,0,none⟩) ((M.ask S.asked).asked.length+1) cap)):=f1.setT _ _ hb1.ty (by decide) hB;have o2:Only ([b0]++av.ownBlock.toList) w (w1.setCell ⟨b0,4,none⟩ (.slice (some ⟨g,0,none⟩) ((M.ask S.asked).asked.length+1) cap)):=((Only.refl _ w).grown hg (fun k hk=>.inl (by simp[hk]))).set _ _ (.inl (by simp));have hX: ∀ x∈ [b0]++av.ownBlock.toList,∃ t,TyAt w x t∧(t=83∨t=3):=by
  intro x hx;simp at hx;rcases hx with rfl|hx
  ·exact⟨83,hb.ty,.inl rfl⟩
  ·exact⟨3,own_ty hav hx,.inr rfl⟩
 have nX: ∀ x t,TyAt w x t->t≠83->t≠3->x∉ [b0]++av.ownBlock.toList:=by
  intro x t hx h1 h2 hc;obtain⟨t',h3,h4⟩:=hX x hc;have:=TyAt.inj hx h3;subst this;rcases h4 with h4|h4
  ·exact h1 h4
  ·exact h2 h4
 refine⟨rfl,h.remak o2 f2 hX (l:=S.asked++ [(n:Int)]) ⟨_,lv,_,ps,hB,hb2,own_only o2 hsv (fun k hk=>nX k 4 (own_ty hsv hk) (by decide) (by decide)),own_only o2 hlv (fun k hk=>nX k 217 (own_ty hlv hk) (by decide) (by decide)),fun p hp=>?_,hnl,?_⟩,f2⟩
 ·obtain⟨q,hq⟩:=hps p hp;exact⟨q,hq.only o2 (nX p 265 hq.ty (by decide) (by decide))⟩
 ·have:=own_setCell h1 ⟨b0,4,none⟩ (.slice (some ⟨g,0,none⟩) ((M.ask S.asked).asked.length+1) cap) (own_ne h1 hb1.ty (by decide));simpa [Mk.ask,Nat.add_assoc]using this
end
section
theorem BX.lab {w:World} {B b b0:Nat} {A L:List Nat} {S:BS} {tg:List Tg} {M:Mk} (h:BX w B b b0 A L S tg M) {j l:Nat} {y:ByteArray × Lb} (hl:L[j]? =some l) (hj:S.labs[j]? =some y):
  ∃ gv bv cv,Blk w l [gv,bv,cv] 193∧PtrAt A gv (some y.2.go)∧PtrAt A bv y.2.brk∧PtrAt A cv y.2.cnt:=by
 obtain⟨NV,h⟩:=h;obtain⟨_,_,_,_,_,_,_,hlv,_⟩:=h.self;exact hlv.2.2.2.1 j l y.1 y.2 hl (by rw[hj])
theorem BX.blk {w:World} {B b b0:Nat} {A L:List Nat} {S:BS} {tg:List Tg} {M:Mk} (h:BX w B b b0 A L S tg M):
  ∃ bv cv mv tv,Blk w b [bv,.func (.func 67) #[b0] #[],cv,mv,tv] 136∧PtrAt A cv S.cur∧TgAt (Hv w 0) A tg tv:=by
 obtain⟨NV,h⟩:=h;obtain⟨bv,cv,mv,tv,hb,_,hc,_,ht⟩:=h.self;exact⟨bv,cv,mv,tv,hb,hc,ht⟩
theorem BX.setCur {w:World} {B b b0:Nat} {A L:List Nat} {S:BS} {tg:List Tg} {M:Mk} (h:BX w B b b0 A L S tg M) {a c:Nat} (ha:A[c]? =some a):
  BX (w.setCell ⟨b,2,none⟩ (.pointer (some ⟨a,0,none⟩))) B b b0 A L (S.at c) tg M∧Fr bT B w (w.setCell ⟨b,2,none⟩ (.pointer (some ⟨a,0,none⟩))):=by
 obtain⟨NV,h⟩:=h;obtain⟨h1,f1⟩:=h.setCur (v:=.pointer (some ⟨a,0,none⟩)) (c:=some c) ⟨a,ha,rfl⟩;exact⟨⟨NV,h1⟩,f1.mono (by decide) (Nat.le_refl _)⟩
theorem Aft.of {w w':World} {B b b0:Nat} {A A' L L':List Nat} {S:BS} {tg:List Tg} {M:Mk} (hA:A <+:A') (hL:L <+:L') (h:BX w' B b b0 A' L' S tg M) (f:Fr bT B w w'):Aft w w' B b b0 A L S tg M:=⟨A',L',hA,hL,h,f⟩
theorem pre_trans {A A' A'':List Nat} (h:A <+:A') (h':A' <+:A''):A <+:A'':=List.IsPrefix.trans h h'
theorem hv_fr {w w':World} {B:Nat} (f:Fr bT B w w') {a:Nat} {cs:List Value} {t:Nat} (h:Hv w 0 a cs t):Hv w' 0 a cs t:=Hv.bT f _ _ _ h
theorem of_branch {H:Hp} {a:Nat} {t1 l1:Value} (h:H a [.int .i64 0,t1,l1] 221):StmtOf H (.iface 194 (.pointer (some ⟨a,0,none⟩))) (some 0):=
 .inl ⟨a,194,221,_,rfl,by decide,h⟩
theorem branch_lab_brk {w:World} {B b b0:Nat} {A L:List Nat} {S S':BS} {tg:List Tg} {M:Mk} (h:BX w B b b0 A L S tg M) {s:ByteArray} (hs0:0 < s.size) {lv:Value} (hlv:LabAt (Hv w 0) lv s) {a:Nat} (ha:Hv w 0 a [.int .i64 0,.int .i64 61,lv] 221) (hs:S.branchP 17 s tg=some S'):
  Calls Tryz.prog 100 #[b,a] w fun e w'=>e=.returned (.tuple #[])∧Aft w w' B b b0 A L S' tg M:=by
 unfold BS.branchP BS.aim at hs;rw[if_pos hs0]at hs;simp only[Option.bind_eq_some_iff,Option.map_eq_some_iff]at hs;obtain⟨r,⟨q,hq,y,hy,rfl⟩,t,ht,S3,h3,h4⟩:=hs;have hlv':=hlv;obtain⟨la,lo,rfl,_⟩:=hlv;have c1:=ha.2.2.cell 1 rfl;have c2:=ha.2.2.cell 2 rfl;have Hq:=hid5 hq hy ht h3 h4;clear hq hy ht h3 h4;go_enter Tryz.func100,Tryz.ntmps100;go_wp2_with fail
 refine(lab_st h Hq.out.1 hlv').mono ?_;rintro e w1 ⟨l,rfl,A1,L1,hA1,hL1,hl1,hC,f1⟩;obtain⟨hq,hy,ht,h3,h4⟩:=Hq.out;clear Hq;obtain⟨gv,bv,cv,hbl,hg,hb1,hc1⟩:=hC.lab hl1 hy;have d1:=hbl.cell 1 rfl;have haC:=hv_fr f1 ha;have HX:=hid2 hA1 hL1;have HF:=hidf f1;clear hl1 hA1 hL1 f1 c1 c2;unfold BS.newAt at h4;rw[Option.map_eq_some_iff]at h4;cases hbr:y.2.brk with
 |none=>
  rw[hbr]at hb1;obtain rfl:=hb1;have Ht: ∃ Sn,q.2.newP 1 (some 0)=some Sn∧t=(q.2.bks.length,Sn):=by
   simp[BS.aimed,hbr]at ht;obtain⟨Sn,h1,h2⟩:=ht;exact⟨Sn,h1,h2.symm⟩
  obtain⟨Sn,hSn,rfl⟩:=Ht;have Hq:=hid3 (show ∃ S0,q.2.newP 1 (some 0)=some S0∧S0=Sn from⟨Sn,hSn,rfl⟩) h3 h4;clear hq hy ht h3 h4 hbr hSn;go_wp2_with fail
  obtain⟨Sn,hSn,rfl⟩:=Hq.out.1;refine(new_st hC hSn (of_branch haC)).mono ?_;rintro e wM ⟨aM,rfl,AM,hAM,hgM,hM,fM⟩;have haM:=hv_fr fM haC;have HM:=hid2 hAM hgM;clear hAM hgM;go_wp2_with fail
  refine(jump_st hM Hq.out.2.1 HM.out.2).mono ?_;rintro e wJ ⟨rfl,hJ,fJ⟩;have haJ:=hv_fr fJ haM;go_wp2_with fail
  obtain⟨S4,hS4,rfl⟩:=Hq.out.2.2;refine(new_st hJ hS4 (of_branch haJ)).mono ?_;rintro e wN ⟨aN,rfl,AN,hAN,hgN,hN,fN⟩;obtain⟨bvN,cvN,mvN,tvN,hbN,_,_⟩:=hN.blk;have cN:=hbN.cell 2 rfl;have zN:=hbN.free 2;have HN:=hid2 hAN hgN;clear hAN hgN;go_wp2_with fail
  go_end0
  obtain⟨h5,f5⟩:=hN.setCur HN.out.2;exact⟨rfl,Aft.of (pre_trans HX.out.1 (pre_trans HM.out.1 HN.out.1)) HX.out.2 h5 (HF.out.trans (fM.trans (fJ.trans (fN.trans f5))))⟩
 |some d=>
  rw[hbr]at hb1;obtain⟨da,hda,rfl⟩:=hb1;have Ht:t=(d,q.2):=by
   simp[BS.aimed,hbr]at ht;exact ht.symm
  subst Ht;have Hbr:=hidf hda;have Hq:=hid4 hq hy h3 h4;clear hq hy ht h3 h4 hbr hda;go_wp2_with fail
  refine(jump_st hC Hq.out.2.2.1 Hbr.out).mono ?_;rintro e wJ ⟨rfl,hJ,fJ⟩;have haJ:=hv_fr fJ haC;go_wp2_with fail
  obtain⟨S4,hS4,rfl⟩:=Hq.out.2.2.2;refine(new_st hJ hS4 (of_branch haJ)).mono ?_;rintro e wN ⟨aN,rfl,AN,hAN,hgN,hN,fN⟩;obtain⟨bvN,cvN,mvN,tvN,hbN,_,_⟩:=hN.blk;have cN:=hbN.cell 2 rfl;have zN:=hbN.free 2;have HN:=hid2 hAN hgN;clear hAN hgN;go_wp2_with fail
  go_end0
  obtain⟨h5,f5⟩:=hN.setCur HN.out.2;exact⟨rfl,Aft.of (pre_trans HX.out.1 HN.out.1) HX.out.2 h5 (HF.out.trans (fJ.trans (fN.trans f5)))⟩
theorem branch_lab_cnt {w:World} {B b b0:Nat} {A L:List Nat} {S S':BS} {tg:List Tg} {M:Mk} (h:BX w B b b0 A L S tg M) {s:ByteArray} (hs0:0 < s.size) {lv:Value} (hlv:LabAt (Hv w 0) lv s) {a:Nat} (ha:Hv w 0 a [.int .i64 0,.int .i64 65,lv] 221) (hs:S.branchP 18 s tg=some S'):
  Calls Tryz.prog 100 #[b,a] w fun e w'=>e=.returned (.tuple #[])∧Aft w w' B b b0 A L S' tg M:=by
 unfold BS.branchP BS.aim at hs;rw[if_pos hs0]at hs;simp only[Option.bind_eq_some_iff,Option.map_eq_some_iff]at hs;obtain⟨r,⟨q,hq,y,hy,rfl⟩,t,ht,S3,h3,h4⟩:=hs;have hlv':=hlv;obtain⟨la,lo,rfl,_⟩:=hlv;have c1:=ha.2.2.cell 1 rfl;have c2:=ha.2.2.cell 2 rfl;have Hq:=hid5 hq hy ht h3 h4;clear hq hy ht h3 h4;go_enter Tryz.func100,Tryz.ntmps100;go_wp2_with fail
 refine(lab_st h Hq.out.1 hlv').mono ?_;rintro e w1 ⟨l,rfl,A1,L1,hA1,hL1,hl1,hC,f1⟩;obtain⟨hq,hy,ht,h3,h4⟩:=Hq.out;clear Hq;obtain⟨gv,bv,cv,hbl,hg,hb1,hc1⟩:=hC.lab hl1 hy;have d1:=hbl.cell 2 rfl;have haC:=hv_fr f1 ha;have HX:=hid2 hA1 hL1;have HF:=hidf f1;clear hl1 hA1 hL1 f1 c1 c2;unfold BS.newAt at h4;rw[Option.map_eq_some_iff]at h4;cases hbr:y.2.cnt with
 |none=>
  rw[hbr]at hc1;obtain rfl:=hc1;have Ht: ∃ Sn,q.2.newP 1 (some 0)=some Sn∧t=(q.2.bks.length,Sn):=by
   simp[BS.aimed,hbr]at ht;obtain⟨Sn,h1,h2⟩:=ht;exact⟨Sn,h1,h2.symm⟩
  obtain⟨Sn,hSn,rfl⟩:=Ht;have Hq:=hid3 (show ∃ S0,q.2.newP 1 (some 0)=some S0∧S0=Sn from⟨Sn,hSn,rfl⟩) h3 h4;clear hq hy ht h3 h4 hbr hSn;go_wp2_with fail
  obtain⟨Sn,hSn,rfl⟩:=Hq.out.1;refine(new_st hC hSn (of_branch haC)).mono ?_;rintro e wM ⟨aM,rfl,AM,hAM,hgM,hM,fM⟩;have haM:=hv_fr fM haC;have HM:=hid2 hAM hgM;clear hAM hgM;go_wp2_with fail
  refine(jump_st hM Hq.out.2.1 HM.out.2).mono ?_;rintro e wJ ⟨rfl,hJ,fJ⟩;have haJ:=hv_fr fJ haM;go_wp2_with fail
  obtain⟨S4,hS4,rfl⟩:=Hq.out.2.2;refine(new_st hJ hS4 (of_branch haJ)).mono ?_;rintro e wN ⟨aN,rfl,AN,hAN,hgN,hN,fN⟩;obtain⟨bvN,cvN,mvN,tvN,hbN,_,_⟩:=hN.blk;have cN:=hbN.cell 2 rfl;have zN:=hbN.free 2;have HN:=hid2 hAN hgN;clear hAN hgN;go_wp2_with fail
  go_end0
  obtain⟨h5,f5⟩:=hN.setCur HN.out.2;exact⟨rfl,Aft.of (pre_trans HX.out.1 (pre_trans HM.out.1 HN.out.1)) HX.out.2 h5 (HF.out.trans (fM.trans (fJ.trans (fN.trans f5))))⟩
 |some d=>
  rw[hbr]at hc1;obtain⟨da,hda,rfl⟩:=hc1;have Ht:t=(d,q.2):=by
   simp[BS.aimed,hbr]at ht;exact ht.symm
  subst Ht;have Hbr:=hidf hda;have Hq:=hid4 hq hy h3 h4;clear hq hy ht h3 h4 hbr hda;go_wp2_with fail
  refine(jump_st hC Hq.out.2.2.1 Hbr.out).mono ?_;rintro e wJ ⟨rfl,hJ,fJ⟩;have haJ:=hv_fr fJ haC;go_wp2_with fail
  obtain⟨S4,hS4,rfl⟩:=Hq.out.2.2.2;refine(new_st hJ hS4 (of_branch haJ)).mono ?_;rintro e wN ⟨aN,rfl,AN,hAN,hgN,hN,fN⟩;obtain⟨bvN,cvN,mvN,tvN,hbN,_,_⟩:=hN.blk;have cN:=hbN.cell 2 rfl;have zN:=hbN.free 2;have HN:=hid2 hAN hgN;clear hAN hgN;go_wp2_with fail
  go_end0
  obtain⟨h5,f5⟩:=hN.setCur HN.out.2;exact⟨rfl,Aft.of (pre_trans HX.out.1 HN.out.1) HX.out.2 h5 (HF.out.trans (fJ.trans (fN.trans f5)))⟩
theorem branch_lab_go {w:World} {B b b0:Nat} {A L:List Nat} {S S':BS} {tg:List Tg} {M:Mk} (h:BX w B b b0 A L S tg M) {s:ByteArray} (hs0:0 < s.size) {lv:Value} (hlv:LabAt (Hv w 0) lv s) {a:Nat} (ha:Hv w 0 a [.int .i64 0,.int .i64 73,lv] 221) (hs:S.branchP 19 s tg=some S'):
  Calls Tryz.prog 100 #[b,a] w fun e w'=>e=.returned (.tuple #[])∧Aft w w' B b b0 A L S' tg M:=by
 unfold BS.branchP BS.aim at hs;rw[if_pos hs0]at hs;simp only[Option.bind_eq_some_iff,Option.map_eq_some_iff]at hs;obtain⟨r,⟨q,hq,y,hy,rfl⟩,t,ht,S3,h3,h4⟩:=hs;have hlv':=hlv;obtain⟨la,lo,rfl,_⟩:=hlv;have c1:=ha.2.2.cell 1 rfl;have c2:=ha.2.2.cell 2 rfl;have Hq:=hid5 hq hy ht h3 h4;clear hq hy ht h3 h4;go_enter Tryz.func100,Tryz.ntmps100;go_wp2_with fail
 refine(lab_st h Hq.out.1 hlv').mono ?_;rintro e w1 ⟨l,rfl,A1,L1,hA1,hL1,hl1,hC,f1⟩;obtain⟨hq,hy,ht,h3,h4⟩:=Hq.out;clear Hq;obtain⟨gv,bv,cv,hbl,hg,hb1,hc1⟩:=hC.lab hl1 hy;have d1:=hbl.cell 0 rfl;have haC:=hv_fr f1 ha;have HX:=hid2 hA1 hL1;have HF:=hidf f1;clear hl1 hA1 hL1 f1 c1 c2;unfold BS.newAt at h4;rw[Option.map_eq_some_iff]at h4;have Ht:t=(y.2.go,q.2):=by
  simp[BS.aimed]at ht;exact ht.symm
 subst Ht;clear ht;obtain⟨da,hda,rfl⟩:=hg;have Hbr:=hidf hda;have Hq:=hid4 hq hy h3 h4;clear hq hy h3 h4 hda;go_wp2_with fail
 refine(jump_st hC Hq.out.2.2.1 Hbr.out).mono ?_;rintro e wJ ⟨rfl,hJ,fJ⟩;have haJ:=hv_fr fJ haC;go_wp2_with fail
 obtain⟨S4,hS4,rfl⟩:=Hq.out.2.2.2;refine(new_st hJ hS4 (of_branch haJ)).mono ?_;rintro e wN ⟨aN,rfl,AN,hAN,hgN,hN,fN⟩;obtain⟨bvN,cvN,mvN,tvN,hbN,_,_⟩:=hN.blk;have cN:=hbN.cell 2 rfl;have zN:=hbN.free 2;have HN:=hid2 hAN hgN;clear hAN hgN;go_wp2_with fail
 go_end0
 obtain⟨h5,f5⟩:=hN.setCur HN.out.2;exact⟨rfl,Aft.of (pre_trans HX.out.1 HN.out.1) HX.out.2 h5 (HF.out.trans (fJ.trans (fN.trans f5)))⟩
section
variable {w w':World} {B b b0:Nat} {A L:List Nat} {S S':BS} {tg:List Tg} {M:Mk}
theorem new_s (h:BX w B b b0 A L S tg M) {k:Int} {o:Option Int} (hs:S.newP k o=some S') {sv:Value} (hv:StmtOf (Hv w 0) sv o):
  Calls Tryz.prog 84 #[b,.int .u8 k,sv] w fun e w'=> ∃ a,e=.returned (.pointer (some ⟨a,0,none⟩))∧ ∃ A',Hid (A <+:A'∧A'[S.bks.length]? =some a)∧BX w' B b b0 A' L S' tg M∧Fr bT B w w':=
 (new_st h hs hv).mono fun _ _ ⟨a,e,A',h1,h2,h3⟩=>⟨a,e,A',⟨h1,h2⟩,h3⟩
theorem Aft.hd (h:Aft w w' B b b0 A L S tg M): ∃ A' L',Hid (A <+:A'∧L <+:L')∧BX w' B b b0 A' L' S tg M∧Fr bT B w w':=
 let⟨A',L',h1,h2,h3⟩:=h;⟨A',L',⟨h1,h2⟩,h3⟩
theorem BX.sc (h:BX w B b b0 A L S tg M) {a c:Nat} (ha:A[c]? =some a): ∃ v,w.cell? ⟨b,2,none⟩=some v∧w.frozen? ⟨b,2,none⟩=false∧
  BX (w.setCell ⟨b,2,none⟩ (.pointer (some ⟨a,0,none⟩))) B b b0 A L (S.at c) tg M∧Fr bT B w (w.setCell ⟨b,2,none⟩ (.pointer (some ⟨a,0,none⟩))):=
 let⟨_,v,_,_,hb,_⟩:=h.blk;⟨v,hb.cell 2 rfl,hb.free 2,h.setCur ha⟩
theorem hv5 {B:Nat} (f:Fr bT B w w') {a:Nat} {c0 c1 c2 c3 c4:Value} {t:Nat} (h:Hv w 0 a [c0,c1,c2,c3,c4] t):Hv w' 0 a [c0,c1,c2,c3,c4] t∧w'.cell? ⟨a,1,none⟩=some c1∧w'.cell? ⟨a,2,none⟩=some c2∧w'.cell? ⟨a,3,none⟩=some c3∧w'.cell? ⟨a,4,none⟩=some c4:=
 have h:=hv_fr f h;⟨h,h.2.2.cell 1 rfl,h.2.2.cell 2 rfl,h.2.2.cell 3 rfl,h.2.2.cell 4 rfl⟩
theorem hv8 {B:Nat} (f:Fr bT B w w') {a:Nat} {c0 c1 c2 c3 c4 c5 c6 c7:Value} {t:Nat} (h:Hv w 0 a [c0,c1,c2,c3,c4,c5,c6,c7] t):Hv w' 0 a [c0,c1,c2,c3,c4,c5,c6,c7] t∧w'.cell? ⟨a,1,none⟩=some c1∧w'.cell? ⟨a,2,none⟩=some c2∧w'.cell? ⟨a,6,none⟩=some c6∧w'.cell? ⟨a,7,none⟩=some c7:=
 have h:=hv_fr f h;⟨h,h.2.2.cell 1 rfl,h.2.2.cell 2 rfl,h.2.2.cell 6 rfl,h.2.2.cell 7 rfl⟩
end
end
section
def SRel (w:World) (A:List Nat) (f:Tg->Option Nat) (tg:List Tg) (k:Nat) (bv tv:Value) (w':World):Prop:=w'=w∧ ∃ (ts:List Tg) (o:Option Nat),ts.length=k∧TgAt (Hv w 0) A ts tv∧PtrAt A bv o∧o.or (ts.findSome? f)=tg.findSome? f
theorem SRel.ptr {w:World} {A:List Nat} {f:Tg->Option Nat} {tg:List Tg} {k:Nat} {bv tv:Value} {w':World} (h:SRel w A f tg k bv tv w'): ∃ pa pb,bv=.pointer pa∧tv=.pointer pb:=by
 obtain⟨_,ts,o,_,ht,ho,_⟩:=h;have h1: ∃ pa,bv=.pointer pa:=by
  cases o with
  |none=>exact⟨_,ho⟩
  |some d=>obtain⟨a,_,rfl⟩:=ho;exact⟨_,rfl⟩
 have h2: ∃ pb,tv=.pointer pb:=by
  cases ts with
  |nil=>exact⟨_,ht⟩
  |cons t ts=>obtain⟨a,tl,b1,c1,f1,rfl,_⟩:=ht;exact⟨_,rfl⟩
 obtain⟨pa,rfl⟩:=h1;obtain⟨pb,rfl⟩:=h2;exact⟨pa,pb,rfl,rfl⟩
theorem findSome_none {f:Tg->Option Nat} {t:Tg} {ts:List Tg} {o:Option Nat} {k:Option Nat} (h:(none:Option Nat).or ((t::ts).findSome? f)=k) (ho:f t=o):o.or (ts.findSome? f)=k:=by
 subst ho;rw[List.findSome?_cons]at h;cases hf:f t with
 |none=>simpa [hf]using h
 |some d=>simpa [hf]using h
theorem PtrAt.ptr {A:List Nat} {v:Value} {o:Option Nat} (h:PtrAt A v o): ∃ p,v=.pointer p:=by
 cases o with
 |none=>exact⟨_,h⟩
 |some d=>obtain⟨a,_,rfl⟩:=h;exact⟨_,rfl⟩
theorem TgAt.ptr {H:Hp} {A:List Nat} {ts:List Tg} {v:Value} (h:TgAt H A ts v): ∃ p,v=.pointer p:=by
 cases ts with
 |nil=>exact⟨_,h⟩
 |cons t ts=>obtain⟨a,tl,b1,c1,f1,rfl,_⟩:=h;exact⟨_,rfl⟩
theorem branch_no_brk {w:World} {B b b0:Nat} {A L:List Nat} {S S':BS} {tg:List Tg} {M:Mk} (h:BX w B b b0 A L S tg M) {s:ByteArray} (hs0:s.size=0) {a:Nat} (ha:Hv w 0 a [.int .i64 0,.int .i64 61,.pointer none] 221) (hs:S.branchP 17 s tg=some S'):
  Calls Tryz.prog 100 #[b,a] w fun e w'=>e=.returned (.tuple #[])∧Aft w w' B b b0 A L S' tg M:=by
 unfold BS.branchP BS.aim at hs;rw[if_neg (by omega)]at hs;simp only[Option.bind_eq_some_iff,Option.some.injEq,exists_eq_left']at hs;obtain⟨t,ht,S3,h3,h4⟩:=hs;unfold BS.newAt at h4;rw[Option.map_eq_some_iff]at h4;have ht:BS.aimed (tg.findSome? Tg.brk,S)=some t:=by simpa using ht
 have c1:=ha.2.2.cell 1 rfl;have c2:=ha.2.2.cell 2 rfl;obtain⟨bv,cv,mv,tv,hb,_,htg⟩:=h.blk;have c4:=hb.cell 4 rfl;have Hq:=hid3 ht h3 h4;clear ht h3 h4;go_enter Tryz.func100,Tryz.ntmps100;go_wp2_with fail
 go_loopg [4,6] (tg.length) (fun k bv tv wr=>SRel w A Tg.brk tg k bv tv wr)
 case atStart=>exact⟨rfl,tg,none,rfl,htg,rfl,by simp⟩
 case round=>
  obtain⟨rfl,ts,o,hk,hts,ho,hor⟩:=hrel;obtain⟨ht,h3,h4⟩:=Hq.out;clear Hq;have hC:=h;have haC:=ha;cases o with
  |some d=>
   obtain⟨da,hda,rfl⟩:=ho;obtain⟨pb,rfl⟩:=hts.ptr;have Ht:t=(d,S):=by
    simp at hor;rw[<-hor]at ht;simp[BS.aimed]at ht;exact ht.symm
   subst Ht;have Hbr:=hidf hda;have Hq:=hid4 ht ht h3 h4;clear ht h3 h4 hda hor hk hts;cases pb with
   |none=>
    go_wp2_with fail
    refine(jump_st hC Hq.out.2.2.1 Hbr.out).mono ?_;rintro e wJ ⟨rfl,hJ,fJ⟩;have haJ:=hv_fr fJ haC;go_wp2_with fail
    obtain⟨S4,hS4,rfl⟩:=Hq.out.2.2.2;refine(new_st hJ hS4 (of_branch haJ)).mono ?_;rintro e wN ⟨aN,rfl,AN,hAN,hgN,hN,fN⟩;obtain⟨bvN,cvN,mvN,tvN,hbN,_,_⟩:=hN.blk;have cN:=hbN.cell 2 rfl;have zN:=hbN.free 2;have HN:=hid2 hAN hgN;clear hAN hgN;go_wp2_with fail
    go_end0
    obtain⟨h5,f5⟩:=hN.setCur HN.out.2;exact⟨rfl,Aft.of HN.out.1 (pre_refl _) h5 (fJ.trans (fN.trans f5))⟩
   |some pb=>
    go_wp2_with fail
    refine(jump_st hC Hq.out.2.2.1 Hbr.out).mono ?_;rintro e wJ ⟨rfl,hJ,fJ⟩;have haJ:=hv_fr fJ haC;go_wp2_with fail
    obtain⟨S4,hS4,rfl⟩:=Hq.out.2.2.2;refine(new_st hJ hS4 (of_branch haJ)).mono ?_;rintro e wN ⟨aN,rfl,AN,hAN,hgN,hN,fN⟩;obtain⟨bvN,cvN,mvN,tvN,hbN,_,_⟩:=hN.blk;have cN:=hbN.cell 2 rfl;have zN:=hbN.free 2;have HN:=hid2 hAN hgN;clear hAN hgN;go_wp2_with fail
    go_end0
    obtain⟨h5,f5⟩:=hN.setCur HN.out.2;exact⟨rfl,Aft.of HN.out.1 (pre_refl _) h5 (fJ.trans (fN.trans f5))⟩
  |none=>
   obtain rfl:=ho;cases ts with
   |nil=>
    obtain rfl:=hts;have Ht: ∃ Sn,S.newP 1 (some 0)=some Sn∧t=(S.bks.length,Sn):=by
     simp at hor;rw[<-hor]at ht;simp[BS.aimed]at ht;obtain⟨Sn,h1,h2⟩:=ht;exact⟨Sn,h1,h2.symm⟩
    obtain⟨Sn,hSn,rfl⟩:=Ht;have Hq:=hid3 (show ∃ S0,S.newP 1 (some 0)=some S0∧S0=Sn from⟨Sn,hSn,rfl⟩) h3 h4;clear ht h3 h4 hor hk hSn;go_wp2_with fail
    obtain⟨Sn,hSn,rfl⟩:=Hq.out.1;refine(new_st hC hSn (of_branch haC)).mono ?_;rintro e wM ⟨aM,rfl,AM,hAM,hgM,hM,fM⟩;have haM:=hv_fr fM haC;have HM:=hid2 hAM hgM;clear hAM hgM;go_wp2_with fail
    refine(jump_st hM Hq.out.2.1 HM.out.2).mono ?_;rintro e wJ ⟨rfl,hJ,fJ⟩;have haJ:=hv_fr fJ haM;go_wp2_with fail
    obtain⟨S4,hS4,rfl⟩:=Hq.out.2.2;refine(new_st hJ hS4 (of_branch haJ)).mono ?_;rintro e wN ⟨aN,rfl,AN,hAN,hgN,hN,fN⟩;obtain⟨bvN,cvN,mvN,tvN,hbN,_,_⟩:=hN.blk;have cN:=hbN.cell 2 rfl;have zN:=hbN.free 2;have HN:=hid2 hAN hgN;clear hAN hgN;go_wp2_with fail
    go_end0
    obtain⟨h5,f5⟩:=hN.setCur HN.out.2;exact⟨rfl,Aft.of (pre_trans HM.out.1 HN.out.1) (pre_refl _) h5 (fM.trans (fJ.trans (fN.trans f5)))⟩
   |cons t1 ts=>
    obtain⟨ta,tl,b1,cc1,f1,rfl,hta,hb1,hcc1,hf1,htl⟩:=hts;obtain⟨p1,rfl⟩:=hb1.ptr;obtain⟨p2,rfl⟩:=hcc1.ptr;obtain⟨p3,rfl⟩:=hf1.ptr;obtain⟨p4,rfl⟩:=htl.ptr;have e0:=hta.2.2.cell 0 rfl;have e1:=hta.2.2.cell 1 rfl;have hR:SRel wr A Tg.brk tg ts.length (.pointer p1) (.pointer p4) wr:=⟨rfl,ts,_,rfl,htl,hb1,findSome_none hor rfl⟩
    have HR:=hid2 hR hk;clear hor hR hk ht h3 h4;go_wp2_with fail
    go_roundg ts.length
    case rel=>exact HR.out.1
    case measure=>have:=HR.out.2;simp at this;omega
theorem branch_no_cnt {w:World} {B b b0:Nat} {A L:List Nat} {S S':BS} {tg:List Tg} {M:Mk} (h:BX w B b b0 A L S tg M) {s:ByteArray} (hs0:s.size=0) {a:Nat} (ha:Hv w 0 a [.int .i64 0,.int .i64 65,.pointer none] 221) (hs:S.branchP 18 s tg=some S'):
  Calls Tryz.prog 100 #[b,a] w fun e w'=>e=.returned (.tuple #[])∧Aft w w' B b b0 A L S' tg M:=by
 unfold BS.branchP BS.aim at hs;rw[if_neg (by omega)]at hs;simp only[Option.bind_eq_some_iff,Option.some.injEq,exists_eq_left']at hs;obtain⟨t,ht,S3,h3,h4⟩:=hs;unfold BS.newAt at h4;rw[Option.map_eq_some_iff]at h4;have ht:BS.aimed (tg.findSome? Tg.cnt,S)=some t:=by simpa using ht
 have c1:=ha.2.2.cell 1 rfl;have c2:=ha.2.2.cell 2 rfl;obtain⟨bv,cv,mv,tv,hb,_,htg⟩:=h.blk;have c4:=hb.cell 4 rfl;have Hq:=hid3 ht h3 h4;clear ht h3 h4;go_enter Tryz.func100,Tryz.ntmps100;go_wp2_with fail
 go_loopg [4,8] (tg.length) (fun k bv tv wr=>SRel w A Tg.cnt tg k bv tv wr)
 case atStart=>exact⟨rfl,tg,none,rfl,htg,rfl,by simp⟩
 case round=>
  obtain⟨rfl,ts,o,hk,hts,ho,hor⟩:=hrel;obtain⟨ht,h3,h4⟩:=Hq.out;clear Hq;have hC:=h;have haC:=ha;cases o with
  |some d=>
   obtain⟨da,hda,rfl⟩:=ho;obtain⟨pb,rfl⟩:=hts.ptr;have Ht:t=(d,S):=by
    simp at hor;rw[<-hor]at ht;simp[BS.aimed]at ht;exact ht.symm
   subst Ht;have Hbr:=hidf hda;have Hq:=hid4 ht ht h3 h4;clear ht h3 h4 hda hor hk hts;cases pb with
   |none=>
    go_wp2_with fail
    refine(jump_st hC Hq.out.2.2.1 Hbr.out).mono ?_;rintro e wJ ⟨rfl,hJ,fJ⟩;have haJ:=hv_fr fJ haC;go_wp2_with fail
    obtain⟨S4,hS4,rfl⟩:=Hq.out.2.2.2;refine(new_st hJ hS4 (of_branch haJ)).mono ?_;rintro e wN ⟨aN,rfl,AN,hAN,hgN,hN,fN⟩;obtain⟨bvN,cvN,mvN,tvN,hbN,_,_⟩:=hN.blk;have cN:=hbN.cell 2 rfl;have zN:=hbN.free 2;have HN:=hid2 hAN hgN;clear hAN hgN;go_wp2_with fail
    go_end0
    obtain⟨h5,f5⟩:=hN.setCur HN.out.2;exact⟨rfl,Aft.of HN.out.1 (pre_refl _) h5 (fJ.trans (fN.trans f5))⟩
   |some pb=>
    go_wp2_with fail
    refine(jump_st hC Hq.out.2.2.1 Hbr.out).mono ?_;rintro e wJ ⟨rfl,hJ,fJ⟩;have haJ:=hv_fr fJ haC;go_wp2_with fail
    obtain⟨S4,hS4,rfl⟩:=Hq.out.2.2.2;refine(new_st hJ hS4 (of_branch haJ)).mono ?_;rintro e wN ⟨aN,rfl,AN,hAN,hgN,hN,fN⟩;obtain⟨bvN,cvN,mvN,tvN,hbN,_,_⟩:=hN.blk;have cN:=hbN.cell 2 rfl;have zN:=hbN.free 2;have HN:=hid2 hAN hgN;clear hAN hgN;go_wp2_with fail
    go_end0
    obtain⟨h5,f5⟩:=hN.setCur HN.out.2;exact⟨rfl,Aft.of HN.out.1 (pre_refl _) h5 (fJ.trans (fN.trans f5))⟩
  |none=>
   obtain rfl:=ho;cases ts with
   |nil=>
    obtain rfl:=hts;have Ht: ∃ Sn,S.newP 1 (some 0)=some Sn∧t=(S.bks.length,Sn):=by
     simp at hor;rw[<-hor]at ht;simp[BS.aimed]at ht;obtain⟨Sn,h1,h2⟩:=ht;exact⟨Sn,h1,h2.symm⟩
    obtain⟨Sn,hSn,rfl⟩:=Ht;have Hq:=hid3 (show ∃ S0,S.newP 1 (some 0)=some S0∧S0=Sn from⟨Sn,hSn,rfl⟩) h3 h4;clear ht h3 h4 hor hk hSn;go_wp2_with fail
    obtain⟨Sn,hSn,rfl⟩:=Hq.out.1;refine(new_st hC hSn (of_branch haC)).mono ?_;rintro e wM ⟨aM,rfl,AM,hAM,hgM,hM,fM⟩;have haM:=hv_fr fM haC;have HM:=hid2 hAM hgM;clear hAM hgM;go_wp2_with fail
    refine(jump_st hM Hq.out.2.1 HM.out.2).mono ?_;rintro e wJ ⟨rfl,hJ,fJ⟩;have haJ:=hv_fr fJ haM;go_wp2_with fail
    obtain⟨S4,hS4,rfl⟩:=Hq.out.2.2;refine(new_st hJ hS4 (of_branch haJ)).mono ?_;rintro e wN ⟨aN,rfl,AN,hAN,hgN,hN,fN⟩;obtain⟨bvN,cvN,mvN,tvN,hbN,_,_⟩:=hN.blk;have cN:=hbN.cell 2 rfl;have zN:=hbN.free 2;have HN:=hid2 hAN hgN;clear hAN hgN;go_wp2_with fail
    go_end0
    obtain⟨h5,f5⟩:=hN.setCur HN.out.2;exact⟨rfl,Aft.of (pre_trans HM.out.1 HN.out.1) (pre_refl _) h5 (fM.trans (fJ.trans (fN.trans f5)))⟩
   |cons t1 ts=>
    obtain⟨ta,tl,b1,cc1,f1,rfl,hta,hb1,hcc1,hf1,htl⟩:=hts;obtain⟨p1,rfl⟩:=hb1.ptr;obtain⟨p2,rfl⟩:=hcc1.ptr;obtain⟨p3,rfl⟩:=hf1.ptr;obtain⟨p4,rfl⟩:=htl.ptr;have e0:=hta.2.2.cell 0 rfl;have e1:=hta.2.2.cell 2 rfl;have hR:SRel wr A Tg.cnt tg ts.length (.pointer p2) (.pointer p4) wr:=⟨rfl,ts,_,rfl,htl,hcc1,findSome_none hor rfl⟩
    have HR:=hid2 hR hk;clear hor hR hk ht h3 h4;go_wp2_with fail
    go_roundg ts.length
    case rel=>exact HR.out.1
    case measure=>have:=HR.out.2;simp at this;omega
theorem branch_no_fal {w:World} {B b b0:Nat} {A L:List Nat} {S S':BS} {tg:List Tg} {M:Mk} (h:BX w B b b0 A L S tg M) {s:ByteArray} (hs0:s.size=0) {a:Nat} (ha:Hv w 0 a [.int .i64 0,.int .i64 69,.pointer none] 221) (hs:S.branchP 20 s tg=some S'):
  Calls Tryz.prog 100 #[b,a] w fun e w'=>e=.returned (.tuple #[])∧Aft w w' B b b0 A L S' tg M:=by
 unfold BS.branchP BS.aim at hs;rw[if_neg (by omega)]at hs;simp only[Option.bind_eq_some_iff,Option.some.injEq,exists_eq_left']at hs;obtain⟨t,ht,S3,h3,h4⟩:=hs;unfold BS.newAt at h4;rw[Option.map_eq_some_iff]at h4;have ht:BS.aimed (tg.findSome? Tg.fal,S)=some t:=by simpa using ht
 have c1:=ha.2.2.cell 1 rfl;have c2:=ha.2.2.cell 2 rfl;obtain⟨bv,cv,mv,tv,hb,_,htg⟩:=h.blk;have c4:=hb.cell 4 rfl;have Hq:=hid3 ht h3 h4;clear ht h3 h4;go_enter Tryz.func100,Tryz.ntmps100;go_wp2_with fail
 go_loopg [4,9] (tg.length) (fun k bv tv wr=>SRel w A Tg.fal tg k bv tv wr)
 case atStart=>exact⟨rfl,tg,none,rfl,htg,rfl,by simp⟩
 case round=>
  obtain⟨rfl,ts,o,hk,hts,ho,hor⟩:=hrel;obtain⟨ht,h3,h4⟩:=Hq.out;clear Hq;have hC:=h;have haC:=ha;cases o with
  |some d=>
   obtain⟨da,hda,rfl⟩:=ho;obtain⟨pb,rfl⟩:=hts.ptr;have Ht:t=(d,S):=by
    simp at hor;rw[<-hor]at ht;simp[BS.aimed]at ht;exact ht.symm
   subst Ht;have Hbr:=hidf hda;have Hq:=hid4 ht ht h3 h4;clear ht h3 h4 hda hor hk hts;cases pb with
   |none=>
    go_wp2_with fail
    refine(jump_st hC Hq.out.2.2.1 Hbr.out).mono ?_;rintro e wJ ⟨rfl,hJ,fJ⟩;have haJ:=hv_fr fJ haC;go_wp2_with fail
    obtain⟨S4,hS4,rfl⟩:=Hq.out.2.2.2;refine(new_st hJ hS4 (of_branch haJ)).mono ?_;rintro e wN ⟨aN,rfl,AN,hAN,hgN,hN,fN⟩;obtain⟨bvN,cvN,mvN,tvN,hbN,_,_⟩:=hN.blk;have cN:=hbN.cell 2 rfl;have zN:=hbN.free 2;have HN:=hid2 hAN hgN;clear hAN hgN;go_wp2_with fail
    go_end0
    obtain⟨h5,f5⟩:=hN.setCur HN.out.2;exact⟨rfl,Aft.of HN.out.1 (pre_refl _) h5 (fJ.trans (fN.trans f5))⟩
   |some pb=>
    go_wp2_with fail
    refine(jump_st hC Hq.out.2.2.1 Hbr.out).mono ?_;rintro e wJ ⟨rfl,hJ,fJ⟩;have haJ:=hv_fr fJ haC;go_wp2_with fail
    obtain⟨S4,hS4,rfl⟩:=Hq.out.2.2.2;refine(new_st hJ hS4 (of_branch haJ)).mono ?_;rintro e wN ⟨aN,rfl,AN,hAN,hgN,hN,fN⟩;obtain⟨bvN,cvN,mvN,tvN,hbN,_,_⟩:=hN.blk;have cN:=hbN.cell 2 rfl;have zN:=hbN.free 2;have HN:=hid2 hAN hgN;clear hAN hgN;go_wp2_with fail
    go_end0
    obtain⟨h5,f5⟩:=hN.setCur HN.out.2;exact⟨rfl,Aft.of HN.out.1 (pre_refl _) h5 (fJ.trans (fN.trans f5))⟩
  |none=>
   obtain rfl:=ho;cases ts with
   |nil=>
    obtain rfl:=hts;have Ht: ∃ Sn,S.newP 1 (some 0)=some Sn∧t=(S.bks.length,Sn):=by
     simp at hor;rw[<-hor]at ht;simp[BS.aimed]at ht;obtain⟨Sn,h1,h2⟩:=ht;exact⟨Sn,h1,h2.symm⟩
    obtain⟨Sn,hSn,rfl⟩:=Ht;have Hq:=hid3 (show ∃ S0,S.newP 1 (some 0)=some S0∧S0=Sn from⟨Sn,hSn,rfl⟩) h3 h4;clear ht h3 h4 hor hk hSn;go_wp2_with fail
    obtain⟨Sn,hSn,rfl⟩:=Hq.out.1;refine(new_st hC hSn (of_branch haC)).mono ?_;rintro e wM ⟨aM,rfl,AM,hAM,hgM,hM,fM⟩;have haM:=hv_fr fM haC;have HM:=hid2 hAM hgM;clear hAM hgM;go_wp2_with fail
    refine(jump_st hM Hq.out.2.1 HM.out.2).mono ?_;rintro e wJ ⟨rfl,hJ,fJ⟩;have haJ:=hv_fr fJ haM;go_wp2_with fail
    obtain⟨S4,hS4,rfl⟩:=Hq.out.2.2;refine(new_st hJ hS4 (of_branch haJ)).mono ?_;rintro e wN ⟨aN,rfl,AN,hAN,hgN,hN,fN⟩;obtain⟨bvN,cvN,mvN,tvN,hbN,_,_⟩:=hN.blk;have cN:=hbN.cell 2 rfl;have zN:=hbN.free 2;have HN:=hid2 hAN hgN;clear hAN hgN;go_wp2_with fail
    go_end0
    obtain⟨h5,f5⟩:=hN.setCur HN.out.2;exact⟨rfl,Aft.of (pre_trans HM.out.1 HN.out.1) (pre_refl _) h5 (fM.trans (fJ.trans (fN.trans f5)))⟩
   |cons t1 ts=>
    obtain⟨ta,tl,b1,cc1,f1,rfl,hta,hb1,hcc1,hf1,htl⟩:=hts;obtain⟨p1,rfl⟩:=hb1.ptr;obtain⟨p2,rfl⟩:=hcc1.ptr;obtain⟨p3,rfl⟩:=hf1.ptr;obtain⟨p4,rfl⟩:=htl.ptr;have e0:=hta.2.2.cell 0 rfl;have e1:=hta.2.2.cell 3 rfl;have hR:SRel wr A Tg.fal tg ts.length (.pointer p3) (.pointer p4) wr:=⟨rfl,ts,_,rfl,htl,hf1,findSome_none hor rfl⟩
    have HR:=hid2 hR hk;clear hor hR hk ht h3 h4;go_wp2_with fail
    go_roundg ts.length
    case rel=>exact HR.out.1
    case measure=>have:=HR.out.2;simp at this;omega
end
section
theorem ta_no {q e:Nat} (hq:Tryz.prog.underlying q=some (.pointer e)) (hz: ∀ w,(zeroValue q).run Tryz.prog w=.ok (.pointer none) w) (x t:Nat) (v:Value) (w:World) (h:t≠q):
  (Instr.typeAssert (.iface t v) x q true).run Tryz.prog w=.ok (.tuple #[.pointer none,false]) w:=by
 unfold Instr.typeAssert;simp[run_underlying hq,hz,h]
theorem ta_yes {q e:Nat} (hq:Tryz.prog.underlying q=some (.pointer e)) (x:Nat) (v:Value) (w:World):
  (Instr.typeAssert (.iface q v) x q true).run Tryz.prog w=.ok (.tuple #[v,true]) w:=by
 unfold Instr.typeAssert;simp[run_underlying hq]
theorem ta_yes1 {q e:Nat} (hq:Tryz.prog.underlying q=some (.pointer e)) (x:Nat) (v:Value) (w:World):
  (Instr.typeAssert (.iface q v) x q false).run Tryz.prog w=.ok v w:=by
 unfold Instr.typeAssert;simp[run_underlying hq]
theorem zero158 (w:World):(zeroValue 158).run Tryz.prog w=.ok (.pointer none) w:=by kernel_rfl
theorem tano158 (x t:Nat) (v:Value) (w:World) (h:t≠158):(Instr.typeAssert (.iface t v) x 158 true).run Tryz.prog w=.ok (.tuple #[.pointer none,false]) w:=ta_no Tryz.underlying158 zero158 x t v w h
theorem tayes158 (x:Nat) (v:Value) (w:World):(Instr.typeAssert (.iface 158 v) x 158 true).run Tryz.prog w=.ok (.tuple #[v,true]) w:=ta_yes Tryz.underlying158 x v w
theorem zero159 (w:World):(zeroValue 159).run Tryz.prog w=.ok (.pointer none) w:=by kernel_rfl
theorem tano159 (x t:Nat) (v:Value) (w:World) (h:t≠159):(Instr.typeAssert (.iface t v) x 159 true).run Tryz.prog w=.ok (.tuple #[.pointer none,false]) w:=ta_no Tryz.underlying159 zero159 x t v w h
theorem tayes159 (x:Nat) (v:Value) (w:World):(Instr.typeAssert (.iface 159 v) x 159 true).run Tryz.prog w=.ok (.tuple #[v,true]) w:=ta_yes Tryz.underlying159 x v w
theorem zero160 (w:World):(zeroValue 160).run Tryz.prog w=.ok (.pointer none) w:=by kernel_rfl
theorem tano160 (x t:Nat) (v:Value) (w:World) (h:t≠160):(Instr.typeAssert (.iface t v) x 160 true).run Tryz.prog w=.ok (.tuple #[.pointer none,false]) w:=ta_no Tryz.underlying160 zero160 x t v w h
theorem tayes160 (x:Nat) (v:Value) (w:World):(Instr.typeAssert (.iface 160 v) x 160 true).run Tryz.prog w=.ok (.tuple #[v,true]) w:=ta_yes Tryz.underlying160 x v w
theorem zero161 (w:World):(zeroValue 161).run Tryz.prog w=.ok (.pointer none) w:=by kernel_rfl
theorem tano161 (x t:Nat) (v:Value) (w:World) (h:t≠161):(Instr.typeAssert (.iface t v) x 161 true).run Tryz.prog w=.ok (.tuple #[.pointer none,false]) w:=ta_no Tryz.underlying161 zero161 x t v w h
theorem tayes161 (x:Nat) (v:Value) (w:World):(Instr.typeAssert (.iface 161 v) x 161 true).run Tryz.prog w=.ok (.tuple #[v,true]) w:=ta_yes Tryz.underlying161 x v w
theorem zero162 (w:World):(zeroValue 162).run Tryz.prog w=.ok (.pointer none) w:=by kernel_rfl
theorem tano162 (x t:Nat) (v:Value) (w:World) (h:t≠162):(Instr.typeAssert (.iface t v) x 162 true).run Tryz.prog w=.ok (.tuple #[.pointer none,false]) w:=ta_no Tryz.underlying162 zero162 x t v w h
theorem tayes162 (x:Nat) (v:Value) (w:World):(Instr.typeAssert (.iface 162 v) x 162 true).run Tryz.prog w=.ok (.tuple #[v,true]) w:=ta_yes Tryz.underlying162 x v w
theorem zero163 (w:World):(zeroValue 163).run Tryz.prog w=.ok (.pointer none) w:=by kernel_rfl
theorem tano163 (x t:Nat) (v:Value) (w:World) (h:t≠163):(Instr.typeAssert (.iface t v) x 163 true).run Tryz.prog w=.ok (.tuple #[.pointer none,false]) w:=ta_no Tryz.underlying163 zero163 x t v w h
theorem tayes163 (x:Nat) (v:Value) (w:World):(Instr.typeAssert (.iface 163 v) x 163 true).run Tryz.prog w=.ok (.tuple #[v,true]) w:=ta_yes Tryz.underlying163 x v w
theorem zero164 (w:World):(zeroValue 164).run Tryz.prog w=.ok (.pointer none) w:=by kernel_rfl
theorem tano164 (x t:Nat) (v:Value) (w:World) (h:t≠164):(Instr.typeAssert (.iface t v) x 164 true).run Tryz.prog w=.ok (.tuple #[.pointer none,false]) w:=ta_no Tryz.underlying164 zero164 x t v w h
theorem tayes164 (x:Nat) (v:Value) (w:World):(Instr.typeAssert (.iface 164 v) x 164 true).run Tryz.prog w=.ok (.tuple #[v,true]) w:=ta_yes Tryz.underlying164 x v w
theorem zero165 (w:World):(zeroValue 165).run Tryz.prog w=.ok (.pointer none) w:=by kernel_rfl
theorem tano165 (x t:Nat) (v:Value) (w:World) (h:t≠165):(Instr.typeAssert (.iface t v) x 165 true).run Tryz.prog w=.ok (.tuple #[.pointer none,false]) w:=ta_no Tryz.underlying165 zero165 x t v w h
theorem tayes165 (x:Nat) (v:Value) (w:World):(Instr.typeAssert (.iface 165 v) x 165 true).run Tryz.prog w=.ok (.tuple #[v,true]) w:=ta_yes Tryz.underlying165 x v w
theorem zero171 (w:World):(zeroValue 171).run Tryz.prog w=.ok (.pointer none) w:=by kernel_rfl
theorem tano171 (x t:Nat) (v:Value) (w:World) (h:t≠171):(Instr.typeAssert (.iface t v) x 171 true).run Tryz.prog w=.ok (.tuple #[.pointer none,false]) w:=ta_no Tryz.underlying171 zero171 x t v w h
theorem tayes171 (x:Nat) (v:Value) (w:World):(Instr.typeAssert (.iface 171 v) x 171 true).run Tryz.prog w=.ok (.tuple #[v,true]) w:=ta_yes Tryz.underlying171 x v w
theorem zero186 (w:World):(zeroValue 186).run Tryz.prog w=.ok (.pointer none) w:=by kernel_rfl
theorem tano186 (x t:Nat) (v:Value) (w:World) (h:t≠186):(Instr.typeAssert (.iface t v) x 186 true).run Tryz.prog w=.ok (.tuple #[.pointer none,false]) w:=ta_no Tryz.underlying186 zero186 x t v w h
theorem tayes186 (x:Nat) (v:Value) (w:World):(Instr.typeAssert (.iface 186 v) x 186 true).run Tryz.prog w=.ok (.tuple #[v,true]) w:=ta_yes Tryz.underlying186 x v w
theorem zero101 (w:World):(zeroValue 101).run Tryz.prog w=.ok (.pointer none) w:=by kernel_rfl
theorem tano101 (x t:Nat) (v:Value) (w:World) (h:t≠101):(Instr.typeAssert (.iface t v) x 101 true).run Tryz.prog w=.ok (.tuple #[.pointer none,false]) w:=ta_no Tryz.underlying101 zero101 x t v w h
theorem tayes101 (x:Nat) (v:Value) (w:World):(Instr.typeAssert (.iface 101 v) x 101 true).run Tryz.prog w=.ok (.tuple #[v,true]) w:=ta_yes Tryz.underlying101 x v w
theorem zero194 (w:World):(zeroValue 194).run Tryz.prog w=.ok (.pointer none) w:=by kernel_rfl
theorem tano194 (x t:Nat) (v:Value) (w:World) (h:t≠194):(Instr.typeAssert (.iface t v) x 194 true).run Tryz.prog w=.ok (.tuple #[.pointer none,false]) w:=ta_no Tryz.underlying194 zero194 x t v w h
theorem tayes194 (x:Nat) (v:Value) (w:World):(Instr.typeAssert (.iface 194 v) x 194 true).run Tryz.prog w=.ok (.tuple #[v,true]) w:=ta_yes Tryz.underlying194 x v w
theorem zero86 (w:World):(zeroValue 86).run Tryz.prog w=.ok (.pointer none) w:=by kernel_rfl
theorem tano86 (x t:Nat) (v:Value) (w:World) (h:t≠86):(Instr.typeAssert (.iface t v) x 86 true).run Tryz.prog w=.ok (.tuple #[.pointer none,false]) w:=ta_no Tryz.underlying86 zero86 x t v w h
theorem tayes86 (x:Nat) (v:Value) (w:World):(Instr.typeAssert (.iface 86 v) x 86 true).run Tryz.prog w=.ok (.tuple #[v,true]) w:=ta_yes Tryz.underlying86 x v w
theorem zero197 (w:World):(zeroValue 197).run Tryz.prog w=.ok (.pointer none) w:=by kernel_rfl
theorem tano197 (x t:Nat) (v:Value) (w:World) (h:t≠197):(Instr.typeAssert (.iface t v) x 197 true).run Tryz.prog w=.ok (.tuple #[.pointer none,false]) w:=ta_no Tryz.underlying197 zero197 x t v w h
theorem tayes197 (x:Nat) (v:Value) (w:World):(Instr.typeAssert (.iface 197 v) x 197 true).run Tryz.prog w=.ok (.tuple #[v,true]) w:=ta_yes Tryz.underlying197 x v w
theorem zero201 (w:World):(zeroValue 201).run Tryz.prog w=.ok (.pointer none) w:=by kernel_rfl
theorem tano201 (x t:Nat) (v:Value) (w:World) (h:t≠201):(Instr.typeAssert (.iface t v) x 201 true).run Tryz.prog w=.ok (.tuple #[.pointer none,false]) w:=ta_no Tryz.underlying201 zero201 x t v w h
theorem tayes201 (x:Nat) (v:Value) (w:World):(Instr.typeAssert (.iface 201 v) x 201 true).run Tryz.prog w=.ok (.tuple #[v,true]) w:=ta_yes Tryz.underlying201 x v w
theorem zero203 (w:World):(zeroValue 203).run Tryz.prog w=.ok (.pointer none) w:=by kernel_rfl
theorem tano203 (x t:Nat) (v:Value) (w:World) (h:t≠203):(Instr.typeAssert (.iface t v) x 203 true).run Tryz.prog w=.ok (.tuple #[.pointer none,false]) w:=ta_no Tryz.underlying203 zero203 x t v w h
theorem tayes203 (x:Nat) (v:Value) (w:World):(Instr.typeAssert (.iface 203 v) x 203 true).run Tryz.prog w=.ok (.tuple #[v,true]) w:=ta_yes Tryz.underlying203 x v w
theorem zero205 (w:World):(zeroValue 205).run Tryz.prog w=.ok (.pointer none) w:=by kernel_rfl
theorem tano205 (x t:Nat) (v:Value) (w:World) (h:t≠205):(Instr.typeAssert (.iface t v) x 205 true).run Tryz.prog w=.ok (.tuple #[.pointer none,false]) w:=ta_no Tryz.underlying205 zero205 x t v w h
theorem tayes205 (x:Nat) (v:Value) (w:World):(Instr.typeAssert (.iface 205 v) x 205 true).run Tryz.prog w=.ok (.tuple #[v,true]) w:=ta_yes Tryz.underlying205 x v w
theorem zero207 (w:World):(zeroValue 207).run Tryz.prog w=.ok (.pointer none) w:=by kernel_rfl
theorem tano207 (x t:Nat) (v:Value) (w:World) (h:t≠207):(Instr.typeAssert (.iface t v) x 207 true).run Tryz.prog w=.ok (.tuple #[.pointer none,false]) w:=ta_no Tryz.underlying207 zero207 x t v w h
theorem tayes207 (x:Nat) (v:Value) (w:World):(Instr.typeAssert (.iface 207 v) x 207 true).run Tryz.prog w=.ok (.tuple #[v,true]) w:=ta_yes Tryz.underlying207 x v w
theorem zero209 (w:World):(zeroValue 209).run Tryz.prog w=.ok (.pointer none) w:=by kernel_rfl
theorem tano209 (x t:Nat) (v:Value) (w:World) (h:t≠209):(Instr.typeAssert (.iface t v) x 209 true).run Tryz.prog w=.ok (.tuple #[.pointer none,false]) w:=ta_no Tryz.underlying209 zero209 x t v w h
theorem tayes209 (x:Nat) (v:Value) (w:World):(Instr.typeAssert (.iface 209 v) x 209 true).run Tryz.prog w=.ok (.tuple #[v,true]) w:=ta_yes Tryz.underlying209 x v w
theorem zero147 (w:World):(zeroValue 147).run Tryz.prog w=.ok (.pointer none) w:=by kernel_rfl
theorem tano147 (x t:Nat) (v:Value) (w:World) (h:t≠147):(Instr.typeAssert (.iface t v) x 147 true).run Tryz.prog w=.ok (.tuple #[.pointer none,false]) w:=ta_no Tryz.underlying147 zero147 x t v w h
theorem tayes147 (x:Nat) (v:Value) (w:World):(Instr.typeAssert (.iface 147 v) x 147 true).run Tryz.prog w=.ok (.tuple #[v,true]) w:=ta_yes Tryz.underlying147 x v w
theorem zero184 (w:World):(zeroValue 184).run Tryz.prog w=.ok (.pointer none) w:=by kernel_rfl
theorem tano184 (x t:Nat) (v:Value) (w:World) (h:t≠184):(Instr.typeAssert (.iface t v) x 184 true).run Tryz.prog w=.ok (.tuple #[.pointer none,false]) w:=ta_no Tryz.underlying184 zero184 x t v w h
theorem tayes184 (x:Nat) (v:Value) (w:World):(Instr.typeAssert (.iface 184 v) x 184 true).run Tryz.prog w=.ok (.tuple #[v,true]) w:=ta_yes Tryz.underlying184 x v w
theorem taget172 (x:Nat) (v:Value) (w:World):(Instr.typeAssert (.iface 172 v) x 172 false).run Tryz.prog w=.ok v w:=ta_yes1 Tryz.underlying172 x v w
theorem taget227 (x:Nat) (v:Value) (w:World):(Instr.typeAssert (.iface 227 v) x 227 false).run Tryz.prog w=.ok v w:=ta_yes1 Tryz.underlying227 x v w
theorem taget237 (x:Nat) (v:Value) (w:World):(Instr.typeAssert (.iface 237 v) x 237 false).run Tryz.prog w=.ok v w:=ta_yes1 Tryz.underlying237 x v w
end
section
def scopeC:Code->Option Code
 | .scope c=>some c
 | .seq a b=>match scopeC a with
  |some c=>some c
  |none=>scopeC b
 |_=>none
def unskip:Code->Code
 | .seq .skip c=>c
 |c=>c
noncomputable def restC:Code:=unskip (((Tryz.f85.body.bind scopeC).bind (findLabel · 0)).getD .skip)
def fr0 (b:Nat) (u:Value):Array Value:= #[Value.pointer (some ⟨b,0,none⟩),u,Go.undef,Go.undef,Value.pointer none,Go.undef,Go.undef,Go.undef,Go.undef,Go.undef,Go.undef,Go.undef,Go.undef,Go.undef,Go.undef,Go.undef,Go.undef,Go.undef,Go.undef,Go.undef,Go.undef,Go.undef,Go.undef,Go.undef,Go.undef,Go.undef,Go.undef,Go.undef,Go.undef,Go.undef,Go.undef,Go.undef,Go.undef,Go.undef,Go.undef,Go.undef,Go.undef,Go.undef,Go.undef,Go.undef,Go.undef,Go.undef,Go.undef,Go.undef,Go.undef,Go.undef,Go.undef,Go.undef,Go.undef,Go.undef,Go.undef,Go.undef,Go.undef,Go.undef,Go.undef,Go.undef,Go.undef,Go.undef,Go.undef,Go.undef,Go.undef,Go.undef,Go.undef,Go.undef,Go.undef,Go.undef,Go.undef,Go.undef,Go.undef,Go.undef,Go.undef,Go.undef,Go.undef,Go.undef,Go.undef,Go.undef,Go.undef,Go.undef,Go.undef,Go.undef,Go.undef,Go.undef,Go.undef,Go.undef,Go.undef,Go.undef,Go.undef,Go.undef,Go.undef,Go.undef,Go.undef,Go.undef,Go.undef,Go.undef,Go.undef,Go.undef,Go.undef,Go.undef,Go.undef,Go.undef,Go.undef,Go.undef,Go.undef,Go.undef,Go.undef,Go.undef,Go.undef,Go.undef,Go.undef,Go.undef,Go.undef,Go.undef,Go.undef,Go.undef,Go.undef,Go.undef,Go.undef,Go.undef,Go.undef,Go.undef,Go.undef,Go.undef,Go.undef,Go.undef,Go.undef,Go.undef,Go.undef,Go.undef,Go.undef,Go.undef,Go.undef,Go.undef,Go.undef,Go.undef,Go.undef,Go.undef,Go.undef,Go.undef,Go.undef,Go.undef,Go.undef,Go.undef,Go.undef,Go.undef,Go.undef,Go.undef,Go.undef,Go.undef,Go.undef,Go.undef,Go.undef,Go.undef,Go.undef,Go.undef,Go.undef,Go.undef,Go.undef,Go.undef,Go.undef,Go.undef,Go.undef,Go.undef,Go.undef,Go.undef,Go.undef,Go.undef,Go.undef,Go.undef,Go.undef,Go.undef,Go.undef,Go.undef,Go.undef,Go.undef,Go.undef,Go.undef,Go.undef,Go.undef,Go.undef,Go.undef,Go.undef,Go.undef,Go.undef,Go.undef,Go.undef,Go.undef,Go.undef,Go.undef,Go.undef,Go.undef,Go.undef,Go.undef,Go.undef,Go.undef,Go.undef,Go.undef,Go.undef,Go.undef,Go.undef,Go.undef,Go.undef,Go.undef,Go.undef,Go.undef,Go.undef,Go.undef,Go.undef,Go.undef,Go.undef,Go.undef,Go.undef,Go.undef,Go.undef,Go.undef,Go.undef,Go.undef,Go.undef,Go.undef,Go.undef,Go.undef,Go.undef,Go.undef,Go.undef,Go.undef,Go.undef,Go.undef,Go.undef,Go.undef,Go.undef,Go.undef,Go.undef,Go.undef,Go.undef,Go.undef,Go.undef,Go.undef,Go.undef,Go.undef,Go.undef,Go.undef,Go.undef,Go.undef,Go.undef,Go.undef,Go.undef,Go.undef,Go.undef,Go.undef,Go.undef,Go.undef,Go.undef,Go.undef,Go.undef,Go.undef,Go.undef,Go.undef,Go.undef,Go.undef,Go.undef,Go.undef,Go.undef,Go.undef,Go.undef,Go.undef,Go.undef,Go.undef,Go.undef,Go.undef,Go.undef,Go.undef,Go.undef,Go.undef,Go.undef,Go.undef,Go.undef,Go.undef,Go.undef,Go.undef,Go.undef,Go.undef,Go.undef,Go.undef,Go.undef,Go.undef,Go.undef,Go.undef,Go.undef,Go.undef,Go.undef,Go.undef,Go.undef,Go.undef,Go.undef,Go.undef,Go.undef,Go.undef,Go.undef,Go.undef,Go.undef,Go.undef,Go.undef,Go.undef,Go.undef,Go.undef,Go.undef,Go.undef,Go.undef,Go.undef,Go.undef,Go.undef,Go.undef]
def fr1 (b a l ga la:Nat) (u:Value):Array Value:= #[Value.pointer (some ⟨b,0,none⟩),u,Go.undef,Go.undef,Value.pointer (some ⟨l,0,none⟩),Go.undef,Go.undef,Go.undef,Go.undef,Go.undef,Go.undef,Go.undef,Go.undef,Go.undef,Go.undef,Go.undef,Value.pointer (some ⟨a,0,none⟩),Go.undef,Go.undef,Go.undef,Go.undef,Go.undef,Go.undef,Go.undef,Go.undef,Go.undef,Go.undef,Go.undef,Go.undef,Go.undef,Value.iface 186 (Value.pointer (some ⟨a,0,none⟩)),Go.undef,Value.tuple #[Value.pointer none,Value.bool false],Value.bool false,Value.pointer none,Value.tuple #[Value.pointer none,Value.bool false],Value.bool false,Value.pointer none,Value.tuple #[Value.pointer none,Value.bool false],Value.bool false,Value.pointer none,Value.tuple #[Value.pointer none,Value.bool false],Value.bool false,Value.pointer none,Value.tuple #[Value.pointer none,Value.bool false],Value.bool false,Value.pointer none,Value.tuple #[Value.pointer none,Value.bool false],Value.bool false,Value.pointer none,Value.bool false,Value.bool false,Value.bool false,Value.bool false,Value.bool false,Go.undef,Go.undef,Go.undef,Value.tuple #[Value.pointer none,Value.bool false],Value.bool false,Value.pointer none,Go.undef,Go.undef,Go.undef,Go.undef,Go.undef,Go.undef,Go.undef,Go.undef,Go.undef,Go.undef,Value.tuple #[Value.pointer none,Value.bool false],Value.bool false,Value.pointer none,Go.undef,Go.undef,Go.undef,Go.undef,Go.undef,Go.undef,Go.undef,Go.undef,Go.undef,Go.undef,Go.undef,Go.undef,Go.undef,Go.undef,Go.undef,Go.undef,Go.undef,Go.undef,Go.undef,Go.undef,Go.undef,Go.undef,Go.undef,Go.undef,Go.undef,Go.undef,Go.undef,Go.undef,Go.undef,Value.tuple #[Value.pointer none,Value.bool false],Value.bool false,Value.pointer none,Go.undef,Go.undef,Go.undef,Go.undef,Go.undef,Go.undef,Go.undef,Go.undef,Go.undef,Go.undef,Go.undef,Go.undef,Go.undef,Go.undef,Go.undef,Go.undef,Go.undef,Go.undef,Go.undef,Go.undef,Go.undef,Go.undef,Go.undef,Go.undef,Go.undef,Go.undef,Go.undef,Go.undef,Go.undef,Go.undef,Value.tuple #[Value.pointer (some ⟨a,0,none⟩),Value.bool true],Value.bool true,Value.pointer (some ⟨a,0,none⟩),Value.pointer (some ⟨b,0,none⟩),Value.pointer (some ⟨a,0,none⟩),Value.pointer (some ⟨a,0,none⟩),Value.pointer (some ⟨a,0,none⟩),Value.pointer (some ⟨la,0,none⟩),Value.pointer (some ⟨a,0,none⟩),Value.pointer (some ⟨l,0,none⟩),Value.pointer (some ⟨b,0,none⟩),Value.pointer (some ⟨l,0,none⟩),Value.pointer (some ⟨l,0,none⟩),Value.pointer (some ⟨l,0,none⟩),Value.pointer (some ⟨ga,0,none⟩),Value.tuple #[],Value.pointer (some ⟨b,0,none⟩),Value.pointer (some ⟨l,0,none⟩),Value.pointer (some ⟨l,0,none⟩),Value.pointer (some ⟨l,0,none⟩),Value.pointer (some ⟨ga,0,none⟩),Value.pointer (some ⟨b,0,none⟩),Value.pointer (some ⟨b,2,none⟩),Value.pointer (some ⟨a,0,none⟩),Value.pointer (some ⟨a,0,none⟩),Value.pointer (some ⟨a,2,none⟩),u,Go.undef,Go.undef,Go.undef,Go.undef,Go.undef,Go.undef,Go.undef,Go.undef,Go.undef,Go.undef,Go.undef,Go.undef,Go.undef,Go.undef,Go.undef,Go.undef,Go.undef,Go.undef,Go.undef,Go.undef,Go.undef,Go.undef,Go.undef,Go.undef,Go.undef,Go.undef,Go.undef,Go.undef,Go.undef,Go.undef,Go.undef,Go.undef,Go.undef,Go.undef,Go.undef,Go.undef,Go.undef,Go.undef,Go.undef,Go.undef,Go.undef,Go.undef,Go.undef,Go.undef,Go.undef,Go.undef,Go.undef,Go.undef,Go.undef,Go.undef,Go.undef,Go.undef,Go.undef,Go.undef,Go.undef,Go.undef,Go.undef,Go.undef,Go.undef,Go.undef,Go.undef,Go.undef,Go.undef,Go.undef,Go.undef,Go.undef,Go.undef,Go.undef,Go.undef,Go.undef,Go.undef,Go.undef,Go.undef,Go.undef,Go.undef,Go.undef,Go.undef,Go.undef,Go.undef,Go.undef,Go.undef,Go.undef,Go.undef,Go.undef,Go.undef,Go.undef,Go.undef,Go.undef,Go.undef,Go.undef,Go.undef,Go.undef,Go.undef,Go.undef,Go.undef,Go.undef,Go.undef,Go.undef,Go.undef,Go.undef,Go.undef,Go.undef,Go.undef,Go.undef,Go.undef,Go.undef,Go.undef,Go.undef,Go.undef,Go.undef,Go.undef,Go.undef,Go.undef,Go.undef,Go.undef,Go.undef,Go.undef,Go.undef,Go.undef,Go.undef,Go.undef,Go.undef,Go.undef,Go.undef,Go.undef,Go.undef,Go.undef,Go.undef,Go.undef,Go.undef,Go.undef,Go.undef,Go.undef,Go.undef,Go.undef,Go.undef,Go.undef,Go.undef,Go.undef,Go.undef,Go.undef,Go.undef,Go.undef,Go.undef,Go.undef,Go.undef,Go.undef,Go.undef]
def LabV (L:List Nat) (v:Value) (lab:Option Nat):Prop:=(lab=none∧v=.pointer none)∨ ∃ j l,lab=some j∧v=.pointer (some ⟨l,0,none⟩)∧L[j]? =some l
theorem stmt_wrap {b:Nat} {w:World} {Post:World->Prop} {u:Value} (hu: ∃ t p,u=.iface t p)
  (hw: ∀ Q:Exit->Act->World->Prop,(∀ a w',a.defers= []->Post w'->Q .normal a w')->Code.wp Tryz.prog restC Q ⟨fr0 b u,[]⟩ w):
  Calls Tryz.prog 85 #[b,u] w fun e w'=>e=.returned (.tuple #[])∧Post w':=by
 obtain⟨t,p,rfl⟩:=hu;have Hw:=hidf hw;clear hw;go_enter Tryz.func85,Tryz.ntmps85;go_wp2_with fail
 go_step3
 go_wp2_with fail
 go_step3
 rename_i K hK;have key:=Hw.out;unfold fr0 at key;conv at key=>enter [Q,h];arg 2;whnf
 refine hK _ _ (key _ ?_);intro a w' hd hp;exact(show bodyPost Tryz.prog Tryz.f85 (fun e w'=>e=.returned (.tuple #[])∧Post w') .normal a w' from bodyPost_end (v:=.tuple #[]) (results_none rfl _ _ _) hd ⟨rfl,hp⟩)
end
end Go.Proofs.YteedbaejpdjilaaGreat
