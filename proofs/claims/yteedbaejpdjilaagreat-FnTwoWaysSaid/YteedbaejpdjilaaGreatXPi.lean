/- Part of the proof: BldI BldJ BldK BldL BldM BldN BldO. -/
import Derived.Test.YteedbaejpdjilaaGreatXPh
import Derived.Deep.LoopGhost
import Derived.BigFrame
import Derived.ScopeJumps
set_option linter.all false
set_option maxRecDepth 100000
set_option maxHeartbeats 40000000
namespace Go.Proofs.YteedbaejpdjilaaGreat
open Go.RowKit
section
theorem ZQ {A A':List Nat} (h:A <+:A') {i a:Nat} (ha:A[i]? =some a):A'[i]? =some a:=by
 obtain⟨r,rfl⟩:=h;rw[List.getElem?_append_left (List.getElem?_eq_some_iff.1 ha).1];exact ha
theorem Ye.wS {w:World} {B b b0:Nat} {A:List Nat} {NV:List Value} {L:List Nat} {S:BS} {tg tg':List Tg} {M:Mk} (h:Ye w B b b0 A NV L S tg M) {v:Value} (hv:Sr (Hv w 0) A tg' v):
  Ye (w.setCell ⟨b,4,none⟩ v) B b b0 A NV L S tg' M∧Fr bT B w (w.setCell ⟨b,4,none⟩ v):=by
 obtain⟨bv,cv,mv,tv,hb,hbv,hcv,hlv,htv⟩:=h.self;have f:Fr [136] B w (w.setCell ⟨b,4,none⟩ v):=(Fr.refl _ _ _).Y1 _ _ hb.ty (by decide) h.hB;have f2:Fr bT B w (w.setCell ⟨b,4,none⟩ v):=f.mono (by decide) (Nat.le_refl _);have o:Only [b] w (w.setCell ⟨b,4,none⟩ v):=(Only.refl _ _).set _ _ (.inl (by simp));have hA:A <+:A:=⟨[],by simp⟩
 have nX: ∀ x t,ZN w x t->t≠136->x∉ [b]:=by
  intro x t hx h1 hc;simp at hc;exact ZN.ne hx hb.ty h1 hc
 refine⟨⟨h.hB,h.lenA,h.lenN,h.nodup,h.base,h.apart,fun i k nv hk hn=>?_,h.mak.fr f (by decide),?_⟩,f2⟩
 ·exact(h.bks i k nv hk hn).only o f2 hA (fun a ha=>nX a 99 (h.BR a (List.mem_of_getElem? ha)) (by decide)) (fun g hg=>nX g 104 (h.Jo nv (List.mem_of_getElem? hn) g hg) (by decide))
 ·refine⟨bv,cv,mv,v,hb.set 4 v,ZU f hbv (by decide),hcv,hlv.only o hA (fun l hl=>nX l 193 (hlv.ty l hl) (by decide)) (fun mb hmb hc=>?_),hv.mono (Hv.bT f2) hA⟩;simp at hc;exact hlv.XY hmb hb.ty hc
theorem Ye.leB {w:World} {B b b0:Nat} {A:List Nat} {NV:List Value} {L:List Nat} {S:BS} {tg:List Tg} {M:Mk} (h:Ye w B b b0 A NV L S tg M):B<=w.heap.size∧b < w.heap.size:=by
 obtain⟨bv,cv,mv,tv,hb,_⟩:=h.self;have:=hb.lt;have:=h.hB;omega
theorem Ye.alloc {w:World} {B b b0:Nat} {A:List Nat} {NV:List Value} {L:List Nat} {S:BS} {tg:List Tg} {M:Mk} (h:Ye w B b b0 A NV L S tg M) (o:Obj):Ye (w.alloc o) B b b0 A NV L S tg M∧Fr bT B w (w.alloc o):=
 have f:=(Fr.refl bT B w).alloc h.leB.1 o
 ⟨h.same ((Only.refl _ _).alloc _) f,f⟩
theorem F6 (w:World) (o:Obj) (p:Addr) (v:Value) (h:p.block < w.heap.size):(w.alloc o).setCell p v=(w.setCell p v).alloc o:=by
 simp only[World.alloc,World.setCell];congr 1;apply Array.ext_getElem?;intro i;simp only[Array.getElem?_modify,Array.getElem?_push,Array.size_modify];by_cases h1:p.block=i
 ·subst h1;have: ¬ p.block=w.heap.size:=by omega
  simp[this]
 ·simp[h1]
theorem Ye.push {w:World} {B b b0:Nat} {A:List Nat} {NV:List Value} {L:List Nat} {S:BS} {tg:List Tg} {M:Mk} (h:Ye w B b b0 A NV L S tg M) {bv mk cv mv tv:Value} (hb:ZV w b [bv,mk,cv,mv,tv] 136) {t:Tg} {v1 v2 v3:Value} (h1:ZI A v1 t.brk) (h2:ZI A v2 t.cnt) (h3:ZI A v3 t.fal):
  Ye ((w.setCell ⟨b,4,none⟩ (.pointer (some ⟨w.heap.size,0,none⟩))).alloc (.cells [tv,v1,v2,v3].toArray 223)) B b b0 A NV L S (t::tg) M∧Fr bT B w ((w.setCell ⟨b,4,none⟩ (.pointer (some ⟨w.heap.size,0,none⟩))).alloc (.cells [tv,v1,v2,v3].toArray 223)):=by
 obtain⟨bv',cv',mv',tv',hb',_,_,_,htv⟩:=h.self;obtain⟨he,_⟩:=hb.inj hb';obtain rfl:tv=tv':=by simp at he;exact he.2.2.2.2
 obtain⟨ha,fa⟩:=h.alloc (.cells [tv,v1,v2,v3].toArray 223);rw[<-F6 w _ _ _ hb.lt];obtain⟨hs,fs⟩:=ha.wS (tg':=t::tg) (v:=.pointer (some ⟨w.heap.size,0,none⟩)) ⟨w.heap.size,tv,v1,v2,v3,rfl,⟨Nat.zero_le _,by decide,ZV.new w _ _⟩,h1,h2,h3,htv.mono (Hv.bT fa) ⟨[],by simp⟩⟩;exact⟨hs,fa.trans fs⟩
theorem Ye.QV {w:World} {B b b0:Nat} {A:List Nat} {NV:List Value} {L:List Nat} {S:BS} {tg:List Tg} {M:Mk} (h:Ye w B b b0 A NV L S tg M) {g ga:Nat} {k:Bk} (hk:S.bks[g]? =some k) (hga:A[g]? =some ga):
  Ye (w.setCell ⟨ga,4,none⟩ (.bool true)) B b b0 A NV L (S.set g { k with Zn:=true }) tg M∧Fr bT B w (w.setCell ⟨ga,4,none⟩ (.bool true)):=by
 have hlt:=(List.getElem?_eq_some_iff.1 hk).1;have hln:g < NV.length:=by have:=h.lenN;omega
 have hnv:NV[g]? =some NV[g]:=List.getElem?_eq_getElem hln;obtain⟨a',sv,p0,p1,ns,g1,g2,g3,g4,g5,g6,g7,g8,g9⟩:=h.bks g k _ hk hnv;rw[hga]at g1;cases g1;have hBa:=h.base ga (List.mem_of_getElem? hga);have f2:Fr bT B w (w.setCell ⟨ga,4,none⟩ (.bool true)):=(Fr.refl _ _ _).Y1 _ _ g2.ty (by decide) hBa;have o2:Only [ga] w (w.setCell ⟨ga,4,none⟩ (.bool true)):=(Only.refl _ _).set _ _ (.inl (by simp))
 have hU:=h.upd (nv':=NV[g]) hga hnv o2 f2 (fun x hx=>.inl (by simpa using hx)) (k':= { k with Zn:=true })
  ⟨ga,sv,p0,p1,ns,hga,g2.set 4 (.bool true),ZA o2 g3 (fun x hx hc=>ZN.ne (h.Jo _ (List.mem_of_getElem? hnv) x hx) g2.ty (by decide) (by simpa using hc)),g4,fun j v n e1 e2=>(g5 j v n e1 e2).mono (Hv.bT f2),g6.mono (Hv.bT f2),g7,g8,g9⟩ (fun x hx=>.inl hx)
 have eN:NV.set g NV[g]=NV:=by simp
 rw[eN]at hU;exact⟨hU,f2⟩
theorem Ye.Ci {w:World} {B b b0:Nat} {A:List Nat} {NV:List Value} {L:List Nat} {S:BS} {tg:List Tg} {M:Mk} (h:Ye w B b b0 A NV L S tg M) {j l:Nat} {s:ByteArray} {x:Lb} (hj:S.Z4[j]? =some (s,x)) (hl:L[j]? =some l) {o:Nat} {v:Value} {f:Lb->Lb}
  (hf: ∀ gv bv cv,ZI A gv (some x.go)->ZI A bv x.brk->ZI A cv x.cnt-> ∃ gv' bv' cv',[gv,bv,cv].set o v= [gv',bv',cv']∧ZI A gv' (some (f x).go)∧ZI A bv' (f x).brk∧ZI A cv' (f x).cnt):
  Ye (w.setCell ⟨l,o,none⟩ v) B b b0 A NV L (S.XV j f) tg M∧Fr bT B w (w.setCell ⟨l,o,none⟩ v):=by
 obtain⟨bv,cv,mv,tv,hb,hbv,hcv,hlv,htv⟩:=h.self;have hlm:=List.mem_of_getElem? hl;have hlt:=hlv.ty l hlm;obtain⟨l1,l2,l3,l4,l5⟩:=hlv;have f1:Fr [193] B w (w.setCell ⟨l,o,none⟩ v):=(Fr.refl _ _ _).Y1 _ _ hlt (by decide) (l3 l hlm);have f2:Fr bT B w (w.setCell ⟨l,o,none⟩ v):=f1.mono (by decide) (Nat.le_refl _);have oo:Only [l] w (w.setCell ⟨l,o,none⟩ v):=(Only.refl _ _).set _ _ (.inl (by simp));have hA:A <+:A:=⟨[],by simp⟩
 have nX: ∀ x t,ZN w x t->t≠193->x∉ [l]:=by
  intro x t hx h1 hc;simp at hc;exact ZN.ne hx hlt h1 hc
 refine⟨⟨h.hB,h.lenA,h.lenN,h.nodup,h.base,h.apart,fun i k nv hk hn=>?_,h.mak.fr f1 (by decide),?_⟩,f2⟩
 ·exact(h.bks i k nv hk hn).only oo f2 hA (fun a ha=>nX a 99 (h.BR a (List.mem_of_getElem? ha)) (by decide)) (fun g hg=>nX g 104 (h.Jo nv (List.mem_of_getElem? hn) g hg) (by decide))
 ·refine⟨bv,cv,mv,tv,hb.fr f1 (by decide),ZU f1 hbv (by decide),hcv,⟨by simpa [BS.XV]using l1,l2,l3,?_,?_⟩,htv.mono (Hv.bT f2) hA⟩
  ·intro j' l' s' x' e1 e2;by_cases hjj:j'=j
   ·subst hjj;rw[hl]at e1;cases e1;simp only[BS.XV,List.getElem?_modify,hj]at e2;simp at e2;obtain⟨rfl,rfl⟩:=e2;obtain⟨gv,bv2,cv2,q1,q2,q3,q4⟩:=l4 j' l s x hl hj;obtain⟨gv',bv',cv',r1,r2,r3,r4⟩:=hf gv bv2 cv2 q2 q3 q4;have:=q1.set o v;rw[r1]at this;exact⟨gv',bv',cv',this,r2,r3,r4⟩
   ·have e2':S.Z4[j']? =some (s',x'):=by
     simp only[BS.XV,List.getElem?_modify]at e2;have: ¬ j=j':=fun e=>hjj e.symm;simpa [this]using e2
    obtain⟨gv,bv2,cv2,q1,q2,q3,q4⟩:=l4 j' l' s' x' e1 e2';have hne:l'≠l:=fun e=>hjj (by
     subst e;exact(List.getElem?_inj (List.getElem?_eq_some_iff.1 e1).1 l2).1 (e1.trans hl.symm))
    exact⟨gv,bv2,cv2,q1.only oo (by simpa using hne),q2,q3,q4⟩
  ·rcases l5 with⟨r1,r2⟩ |⟨mb,es,ck,r1,r2,r3,r4⟩
   ·refine .inl ⟨r1,?_⟩;simp[BS.XV,r2]
   ·refine .inr ⟨mb,es,ck,r1,r2,?_,?_⟩
    ·rw[Below.heap_setCell _ _ _ _ ?_]
     ·exact r3
     ·intro e;obtain⟨cs,ff,hc⟩:=hlt;simp at e;subst e;rw[r3]at hc;cases hc
    ·rw[r4];apply List.ext_getElem?;intro q;simp only[BS.XV,List.getElem?_map,List.zip,List.getElem?_zipWith,List.getElem?_modify];cases S.Z4[q]? with
     |none=>simp
     |some y=>
      cases L[q]? with
      |none=>simp
      |some z=>
       by_cases hq:j=q<;>simp[hq]
def BX (w:World) (B b b0:Nat) (A L:List Nat) (S:BS) (tg:List Tg) (M:Mk):Prop:= ∃ NV,Ye w B b b0 A NV L S tg M
def YX (w w':World) (B b b0:Nat) (A L:List Nat) (S:BS) (tg:List Tg) (M:Mk):Prop:= ∃ A' L',A <+:A'∧L <+:L'∧BX w' B b b0 A' L' S tg M∧Fr bT B w w'
theorem ZT (A:List Nat):A <+:A:=⟨[],by simp⟩
theorem VT {S S':BS} {f:Bk->Option Bk} (h:S.SS f=some S'): ∃ c k k',S.cur=some c∧S.bks[c]? =some k∧f k=some k'∧S'=S.set c k':=by
 unfold BS.SS at h;simp only[Option.bind_eq_some_iff,Option.map_eq_some_iff]at h;obtain⟨c,hc,k,hk,k',hk',rfl⟩:=h;exact⟨c,k,k',hc,hk,hk',rfl⟩
theorem UZ {S S':BS} {k:Int} {o:Option Int} (h:S.newP k o=some S'):S.bks.length<=100000∧S'=S.new k o:=by
 unfold BS.newP at h;split at h
 ·next hn=>exact⟨hn,by simpa using h.symm⟩
 ·cases h
theorem OG {S S':BS} {n:WW} (h:S.Zc n=some S'): ∃ c k,S.cur=some c∧S.bks[c]? =some k∧k.nodes.length<=100000∧S'=S.set c { k with nodes:=k.nodes++ [n] } :=by
 obtain⟨c,k,k',hc,hk,hf,rfl⟩:=VT h;split at hf
 ·next hn=>exact⟨c,k,hc,hk,hn,by simp at hf;rw[hf]⟩
 ·cases hf
theorem Tz {S S':BS} (h:S.Vl=some S'): ∃ c k,S.cur=some c∧S.bks[c]? =some k∧S'=S.set c { k with Zn:=true } :=by
 obtain⟨c,k,k',hc,hk,hf,rfl⟩:=VT h;exact⟨c,k,hc,hk,by simp at hf;rw[hf]⟩
theorem Rf {S S':BS} {t:Nat} (h:S.Zm t=some S'): ∃ c k,S.cur=some c∧S.bks[c]? =some k∧k.succs= []∧t < S.bks.length∧S'=(S.set c { k with succs:= [t] }).O9:=by
 unfold BS.Zm at h;rw[Option.map_eq_some_iff]at h;obtain⟨S1,h1,rfl⟩:=h;obtain⟨c,k,k',hc,hk,hf,rfl⟩:=VT h1;split at hf
 ·next hn=>exact⟨c,k,hc,hk,hn.1,hn.2,by simp at hf;rw[hf]⟩
 ·cases hf
theorem D8 {S S':BS} {t t2:Nat} (h:S.LD t t2=some S'): ∃ c k,S.cur=some c∧S.bks[c]? =some k∧k.succs= []∧t < S.bks.length∧t2 < S.bks.length∧S'=(S.set c { k with succs:= [t,t2] }).O9:=by
 unfold BS.LD at h;rw[Option.map_eq_some_iff]at h;obtain⟨S1,h1,rfl⟩:=h;obtain⟨c,k,k',hc,hk,hf,rfl⟩:=VT h1;split at hf
 ·next hn=>exact⟨c,k,hc,hk,hn.1,hn.2.1,hn.2.2,by simp at hf;rw[hf]⟩
 ·cases hf
theorem Zo {w:World} {B b b0:Nat} {A L:List Nat} {S S':BS} {tg:List Tg} {M:Mk} (h:BX w B b b0 A L S tg M) {k:Int} {o:Option Int} (hs:S.newP k o=some S') {sv:Value} (hv:YR (Hv w 0) sv o):
  Calls Tryz.prog 84 #[b,.int .u8 k,sv] w fun e w'=> ∃ a,e=.returned (.pointer (some ⟨a,0,none⟩))∧ ∃ A',A <+:A'∧A'[S.bks.length]? =some a∧BX w' B b b0 A' L S' tg M∧Fr bT B w w':=by
 obtain⟨NV,h⟩:=h;obtain⟨hn,rfl⟩:=UZ hs;refine(V5 h hn k sv o hv).mono ?_;rintro e w' ⟨a,rfl,h1,f1⟩;exact⟨a,rfl,A++ [a],⟨_,rfl⟩,by rw[<-h.lenA];simp,⟨_,h1⟩,f1⟩
theorem YI {w:World} {B b b0:Nat} {A L:List Nat} {S S':BS} {tg:List Tg} {M:Mk} (h:BX w B b b0 A L S tg M) {n:WW} (hs:S.Zc n=some S') {v:Value} (hv:XH (Hv w 0) v n):
  Calls Tryz.prog 86 #[b,v] w fun e w'=>e=.returned (.tuple #[])∧BX w' B b b0 A L S' tg M∧Fr bT B w w':=by
 obtain⟨NV,h⟩:=h;obtain⟨c,k,hc,hk,hn,rfl⟩:=OG hs;refine(add_any h hc hk hn v n hv).mono ?_;rintro e w' ⟨rfl,NV',h1,f1⟩;exact⟨rfl,⟨_,h1⟩,f1⟩
theorem Zx {w:World} {B b b0:Nat} {A L:List Nat} {S S':BS} {tg:List Tg} {M:Mk} (h:BX w B b b0 A L S tg M) {t at1:Nat} (hs:S.Zm t=some S') (ht:A[t]? =some at1):
  Calls Tryz.prog 99 #[b,at1] w fun e w'=>e=.returned (.tuple #[])∧BX w' B b b0 A L S' tg M∧Fr bT B w w':=by
 obtain⟨NV,h⟩:=h;obtain⟨c,k,hc,hk,hn,_,rfl⟩:=Rf hs;refine(DW h hc hk hn ht).mono ?_;rintro e w' ⟨rfl,h1,f1⟩;exact⟨rfl,⟨_,h1⟩,f1⟩
theorem OO {w:World} {B b b0:Nat} {A L:List Nat} {S S':BS} {tg:List Tg} {M:Mk} (h:BX w B b b0 A L S tg M) {t at1 t2 at2:Nat} (hs:S.LD t t2=some S') (ht:A[t]? =some at1) (ht2:A[t2]? =some at2):
  Calls Tryz.prog 102 #[b,at1,at2] w fun e w'=>e=.returned (.tuple #[])∧BX w' B b b0 A L S' tg M∧Fr bT B w w':=by
 obtain⟨NV,h⟩:=h;obtain⟨c,k,hc,hk,hn,_,_,rfl⟩:=D8 hs;refine(Jt h hc hk hn ht ht2).mono ?_;rintro e w' ⟨rfl,h1,f1⟩;exact⟨rfl,⟨_,h1⟩,f1⟩
end
section
theorem Ui {S:BS} {s:ByteArray} {j:Nat} (h:S.Y2 s=some j): ∃ x,S.Z4[j]? =some (s,x)∧ ∀ (q:Nat) (y:ByteArray × Lb),q < j->S.Z4[q]? =some y->y.1≠s:=by
 unfold BS.Y2 at h;rw[List.findIdx?_eq_some_iff_getElem]at h;obtain⟨hlt,h1,h2⟩:=h;simp at h1;refine⟨S.Z4[j].2,?_,?_⟩
 ·rw[List.getElem?_eq_getElem hlt];congr 1;rw[<-ByteArray.ext h1]
 ·intro q y hq hy e;have hq2:q < S.Z4.length:=by omega
  have:=h2 q hq;rw[List.getElem?_eq_getElem hq2]at hy;simp at hy this;subst hy;exact this (by rw[e])
theorem Ur {S:BS} {s:ByteArray} (h:S.Y2 s=none): ∀ y∈S.Z4,y.1≠s:=by
 unfold BS.Y2 at h;rw[List.findIdx?_eq_none_iff]at h;intro y hy e;have:=h y hy;simp at this;exact this (by rw[e])
theorem Kr {w:World} {B b b0:Nat} {A L:List Nat} {S:BS} {tg:List Tg} {M:Mk} (h:BX w B b b0 A L S tg M) {s:ByteArray} {r:Nat × BS} (hs:S.VN s false=some r) {lv:Value} (hlv:Yk (Hv w 0) lv s):
  Calls Tryz.prog 98 #[b,lv,.pointer none] w fun e w'=> ∃ l,e=.returned (.pointer (some ⟨l,0,none⟩))∧ ∃ A' L',A <+:A'∧L <+:L'∧L'[r.1]? =some l∧BX w' B b b0 A' L' r.2 tg M∧Fr bT B w w':=by
 obtain⟨NV,h⟩:=h;unfold BS.VN at hs;have hl1:L.length=S.Z4.length:=by
  obtain⟨_,_,_,_,_,_,_,hl,_⟩:=h.self;exact hl.1
 cases hf:S.Y2 s with
 |some j=>
  rw[hf]at hs;simp at hs;subst hs;obtain⟨x,hx,hq⟩:=Ui hf;have hjl:j < L.length:=by
   have:=(List.getElem?_eq_some_iff.1 hx).1;omega
  refine(Py h hx (List.getElem?_eq_getElem hjl) hq hlv).mono ?_;rintro e w' ⟨rfl,h1,f1⟩;exact⟨_,rfl,A,L,ZT A,ZT L,List.getElem?_eq_getElem hjl,⟨_,h1⟩,f1⟩
 |none=>
  rw[hf]at hs;simp at hs;obtain⟨S1,h1,rfl⟩:=hs;obtain⟨hn,rfl⟩:=UZ h1;refine(MR h hn (Ur hf) hlv).mono ?_;rintro e w' ⟨a,l,rfl,h1,f1⟩;exact⟨l,rfl,A++ [a],L++ [l],⟨_,rfl⟩,⟨_,rfl⟩,by rw[<-hl1];simp,⟨_,h1⟩,f1⟩
theorem KG {w:World} {B b b0:Nat} {A L:List Nat} {S:BS} {tg:List Tg} {M:Mk} (h:BX w B b b0 A L S tg M) {s:ByteArray} {r:Nat × BS} (hs:S.VN s true=some r) {lv:Value} (hlv:Yk (Hv w 0) lv s) {sa:Nat} {lv2 u2:Value} {s2:ByteArray} (hsa:Hv w 0 sa [lv2,.int .i64 0,u2] 190) (hlv2:Yk (Hv w 0) lv2 s2):
  Calls Tryz.prog 98 #[b,lv,sa] w fun e w'=> ∃ l,e=.returned (.pointer (some ⟨l,0,none⟩))∧ ∃ A' L',A <+:A'∧L <+:L'∧L'[r.1]? =some l∧BX w' B b b0 A' L' r.2 tg M∧Fr bT B w w':=by
 obtain⟨NV,h⟩:=h;unfold BS.VN at hs;have hl1:L.length=S.Z4.length:=by
  obtain⟨_,_,_,_,_,_,_,hl,_⟩:=h.self;exact hl.1
 cases hf:S.Y2 s with
 |some j=>
  rw[hf]at hs;simp at hs;obtain⟨x,hx,hq⟩:=Ui hf;rw[hx]at hs;simp at hs;rw[Option.bind_eq_some_iff]at hs;obtain⟨k,hk,hs⟩:=hs;split at hs
  ·next hof=>
   simp at hs;subst hs;have hjl:j < L.length:=by
    have:=(List.getElem?_eq_some_iff.1 hx).1;omega
   refine(Un h hx (List.getElem?_eq_getElem hjl) hq hlv hk hof hsa hlv2).mono ?_;rintro e w' ⟨rfl,h1,f1⟩;exact⟨_,rfl,A,L,ZT A,ZT L,List.getElem?_eq_getElem hjl,⟨_,h1⟩,f1⟩
  ·cases hs
 |none=>
  rw[hf]at hs;simp at hs;obtain⟨S1,h1,rfl⟩:=hs;obtain⟨hn,rfl⟩:=UZ h1;refine(Sj h hn (Ur hf) hlv hsa hlv2).mono ?_;rintro e w' ⟨a,l,rfl,h1,f1⟩;exact⟨l,rfl,A++ [a],L++ [l],⟨_,rfl⟩,⟨_,rfl⟩,by rw[<-hl1];simp,⟨_,h1⟩,f1⟩
end
section
theorem Ye.oJ {w w':World} {B b b0:Nat} {A:List Nat} {NV:List Value} {L:List Nat} {S:BS} {tg:List Tg} {M:Mk} (h:Ye w B b b0 A NV L S tg M) {X:List Nat} (ho:Only X w w') (hf:Fr bT B w w')
  (hX: ∀ x∈X,∃ t,ZN w x t∧(t=83∨t=3)) {l:List Int} (hm:Z8 w' B b0 (M.ask l)):Ye w' B b b0 A NV L { S with asked:=l } tg M:=by
 have nX: ∀ x t,ZN w x t->t≠83->t≠3->x∉X:=by
  intro x t hx h1 h2 hc;obtain⟨t',h3,h4⟩:=hX x hc;have:=ZN.inj hx h3;subst this;rcases h4 with h4|h4
  ·exact h1 h4
  ·exact h2 h4
 have hA:A <+:A:=⟨[],by simp⟩
 obtain⟨bv,cv,mv,tv,hb,hbv,hcv,hlv,htv⟩:=h.self
 exact⟨h.hB,h.lenA,h.lenN,h.nodup,h.base,h.apart,fun i k nv hk hn=>(h.bks i k nv hk hn).only ho hf hA (fun a ha=>nX a 99 (h.BR a (List.mem_of_getElem? ha)) (by decide) (by decide)) (fun g hg=>nX g 104 (h.Jo nv (List.mem_of_getElem? hn) g hg) (by decide) (by decide)),
  hm,⟨bv,cv,mv,tv,hb.only ho (nX _ _ hb.ty (by decide) (by decide)),ZA ho hbv (fun k hk=>nX k 92 (ZK hbv hk) (by decide) (by decide)),hcv,hlv.only ho hA (fun l hl=>nX l 193 (hlv.ty l hl) (by decide) (by decide)) (fun mb hmb hc=>by
   obtain⟨t,h1,_⟩:=hX mb hc;exact hlv.XY hmb h1 rfl),htv.mono (Hv.bT hf) hA⟩⟩
theorem info3:(Tryz.prog.info? 3).map (fun i=>(i.zero,i.size,i.bytes))=some (some (.int .i64 0),1,8):=by kernel_rfl
theorem Pm {w:World} {B b b0:Nat} {A:List Nat} {NV:List Value} {L:List Nat} {S:BS} {tg:List Tg} {M:Mk} (h:Ye w B b b0 A NV L S tg M) {c n:Nat} (hc:VX (Hv w 0) c (lp n)) (hn:n<=100000) {s:Bool} (hs:M.stops[n]? =some s) (hl:(M.asked++S.asked).length<=100000):
  Calls Tryz.prog 67 #[b0,c] w fun e w'=>e=.returned (.bool (!s))∧Ye w' B b b0 A NV L (S.ask n) tg M∧Fr bT B w w':=by
 obtain⟨sv,lv,av,ps,hB,hb,hsv,hlv,hps,hnl,hav⟩:=h.mak;have hnl2:n < M.stops.length:=(List.getElem?_eq_some_iff.1 hs).1;obtain⟨g0,cap0,rfl⟩: ∃ g0 cap0,sv=.slice (some ⟨g0,0,none⟩) M.stops.length cap0:=by
  rcases hsv.2 with⟨_,h0⟩ |⟨g,cap,cur,hv,_⟩
  ·have:M.stops.length=0:=h0;omega
  ·exact⟨_,_,hv⟩
 have hcs:w.cell? ⟨g0,n,none⟩=some (.bool s):=by
  have:=World.ownsRow.cellAt hsv n (by show n < M.stops.length*1;omega);rw[this];show(M.stops.map Value.bool)[n]? =_;simp[hs]
 have c4:=hb.cell 4 rfl;have c2:=hb.cell 2 rfl;have f4:=hb.free 4;have hlt:=hb.lt;have hlp:lp n=10+2*(n:Int):=rfl;have hq:(10+2*(n:Int) -10).tdiv 2=n:=by
  rw[Int.tdiv_eq_ediv_of_nonneg (by omega)];omega
 have Hl:=Za hs hl hlp;clear hs hl;go_enter Tryz.func67,Tryz.ntmps67;go_wp2_with fail
 refine(SH hc).mono ?_;rintro e w' ⟨rfl,rfl⟩;rw[hlp];clear hlp;have hal:(M.asked++S.asked).length<=100000:=Hl.out.2.1;go_wp2_with (at_builtin;refine ZG w rfl _ _ 31 rfl B 3 (.int .i64 0) 1 8 Tryz.underlying31 info3 rfl (by decide) (by decide) hav (by rfl) [.int .i64 n] rfl ?c1 (by rfl) (by show(M.asked++S.asked).length<=1000000;omega) (by omega) ?_)
 case c1=>simp[Value.oneCell']
 intro g cap w1 h1 hg hat hg1;have hb1:=hb.grown hg (own_ne hav hb.ty (by decide));have hsv1:w1.cell? ⟨g0,n,none⟩=some (.bool s):=by
  have hty:=ZK hsv (g:=g0) rfl;have hne:=own_ne hav hty (by decide);have hlt0:=hty.lt;unfold World.cell? at hcs ⊢;rw[hg.block g0 hlt0 hne];exact hcs
 clear c4 c2 f4 hcs;have c4:=hb1.cell 4 rfl;have f4:=hb1.free 4;have hb2:=hb1.set 4 (.slice (some ⟨g,0,none⟩) ((M.ask S.asked).asked.length+1) cap);have c2:=hb2.cell 2 rfl;have hg0b:g0≠b0:=ZN.ne (ZK hsv (g:=g0) rfl) hb.ty (by decide);have hsv2:(w1.setCell ⟨b0,4,none⟩ (.slice (some ⟨g,0,none⟩) ((M.ask S.asked).asked.length+1) cap)).cell? ⟨g0,n,none⟩=some (.bool s):=by
  unfold World.cell? at hsv1 ⊢;rw[Below.heap_setCell _ _ _ _ (by simpa using hg0b)];exact hsv1
 go_wp2_with fail
 go_ret;have f1:Fr bT B w w1:=(Fr.refl bT B w).grown hav hg (by omega) (Nat.le_refl _) (.inl (by decide));have f2:Fr bT B w (w1.setCell ⟨b0,4,none⟩ (.slice (some ⟨g,0,none⟩) ((M.ask S.asked).asked.length+1) cap)):=f1.Y1 _ _ hb1.ty (by decide) hB;have o2:Only ([b0]++av.ownBlock.toList) w (w1.setCell ⟨b0,4,none⟩ (.slice (some ⟨g,0,none⟩) ((M.ask S.asked).asked.length+1) cap)):=((Only.refl _ w).grown hg (fun k hk=>.inl (by simp[hk]))).set _ _ (.inl (by simp));have hX: ∀ x∈ [b0]++av.ownBlock.toList,∃ t,ZN w x t∧(t=83∨t=3):=by
  intro x hx;simp at hx;rcases hx with rfl|hx
  ·exact⟨83,hb.ty,.inl rfl⟩
  ·exact⟨3,ZK hav hx,.inr rfl⟩
 have nX: ∀ x t,ZN w x t->t≠83->t≠3->x∉ [b0]++av.ownBlock.toList:=by
  intro x t hx h1 h2 hc;obtain⟨t',h3,h4⟩:=hX x hc;have:=ZN.inj hx h3;subst this;rcases h4 with h4|h4
  ·exact h1 h4
  ·exact h2 h4
 refine⟨rfl,h.oJ o2 f2 hX (l:=S.asked++ [(n:Int)]) ⟨_,lv,_,ps,hB,hb2,ZA o2 hsv (fun k hk=>nX k 4 (ZK hsv hk) (by decide) (by decide)),ZA o2 hlv (fun k hk=>nX k 217 (ZK hlv hk) (by decide) (by decide)),fun p hp=>?_,hnl,?_⟩,f2⟩
 ·obtain⟨q,hq⟩:=hps p hp;exact⟨q,hq.only o2 (nX p 265 hq.ty (by decide) (by decide))⟩
 ·have:=ZH h1 ⟨b0,4,none⟩ (.slice (some ⟨g,0,none⟩) ((M.ask S.asked).asked.length+1) cap) (own_ne h1 hb1.ty (by decide));simpa [Mk.ask,Nat.add_assoc]using this
end
section
theorem BX.lab {w:World} {B b b0:Nat} {A L:List Nat} {S:BS} {tg:List Tg} {M:Mk} (h:BX w B b b0 A L S tg M) {j l:Nat} {y:ByteArray × Lb} (hl:L[j]? =some l) (hj:S.Z4[j]? =some y):
  ∃ gv bv cv,ZV w l [gv,bv,cv] 193∧ZI A gv (some y.2.go)∧ZI A bv y.2.brk∧ZI A cv y.2.cnt:=by
 obtain⟨NV,h⟩:=h;obtain⟨_,_,_,_,_,_,_,hlv,_⟩:=h.self;exact hlv.2.2.2.1 j l y.1 y.2 hl (by rw[hj])
theorem BX.blk {w:World} {B b b0:Nat} {A L:List Nat} {S:BS} {tg:List Tg} {M:Mk} (h:BX w B b b0 A L S tg M):
  ∃ bv cv mv tv,ZV w b [bv,.func (.func 67) #[b0] #[],cv,mv,tv] 136∧ZI A cv S.cur∧Sr (Hv w 0) A tg tv:=by
 obtain⟨NV,h⟩:=h;obtain⟨bv,cv,mv,tv,hb,_,hc,_,ht⟩:=h.self;exact⟨bv,cv,mv,tv,hb,hc,ht⟩
theorem BX.setCur {w:World} {B b b0:Nat} {A L:List Nat} {S:BS} {tg:List Tg} {M:Mk} (h:BX w B b b0 A L S tg M) {a c:Nat} (ha:A[c]? =some a):
  BX (w.setCell ⟨b,2,none⟩ (.pointer (some ⟨a,0,none⟩))) B b b0 A L (S.at c) tg M∧Fr bT B w (w.setCell ⟨b,2,none⟩ (.pointer (some ⟨a,0,none⟩))):=by
 obtain⟨NV,h⟩:=h;obtain⟨h1,f1⟩:=h.setCur (v:=.pointer (some ⟨a,0,none⟩)) (c:=some c) ⟨a,ha,rfl⟩;exact⟨⟨NV,h1⟩,f1.mono (by decide) (Nat.le_refl _)⟩
theorem YX.of {w w':World} {B b b0:Nat} {A A' L L':List Nat} {S:BS} {tg:List Tg} {M:Mk} (hA:A <+:A') (hL:L <+:L') (h:BX w' B b b0 A' L' S tg M) (f:Fr bT B w w'):YX w w' B b b0 A L S tg M:=⟨A',L',hA,hL,h,f⟩
theorem Z7 {A A' A'':List Nat} (h:A <+:A') (h':A' <+:A''):A <+:A'':=List.IsPrefix.trans h h'
theorem ZO {w w':World} {B:Nat} (f:Fr bT B w w') {a:Nat} {cs:List Value} {t:Nat} (h:Hv w 0 a cs t):Hv w' 0 a cs t:=Hv.bT f _ _ _ h
theorem Zq {H:Hp} {a:Nat} {t1 l1:Value} (h:H a [.int .i64 0,t1,l1] 221):YR H (.iface 194 (.pointer (some ⟨a,0,none⟩))) (some 0):=
 .inl ⟨a,194,221,_,rfl,by decide,h⟩
theorem QZ {w:World} {B b b0:Nat} {A L:List Nat} {S S':BS} {tg:List Tg} {M:Mk} (h:BX w B b b0 A L S tg M) {s:ByteArray} (hs0:0 < s.size) {lv:Value} (hlv:Yk (Hv w 0) lv s) {a:Nat} (ha:Hv w 0 a [.int .i64 0,.int .i64 61,lv] 221) (hs:S.Zg 17 s tg=some S'):
  Calls Tryz.prog 100 #[b,a] w fun e w'=>e=.returned (.tuple #[])∧YX w w' B b b0 A L S' tg M:=by
 unfold BS.Zg BS.aim at hs;rw[if_pos hs0]at hs;simp only[Option.bind_eq_some_iff,Option.map_eq_some_iff]at hs;obtain⟨r,⟨q,hq,y,hy,rfl⟩,t,ht,S3,h3,h4⟩:=hs;have hlv':=hlv;obtain⟨la,lo,rfl,_⟩:=hlv;have c1:=ha.2.2.cell 1 rfl;have c2:=ha.2.2.cell 2 rfl;have Hq:=XG hq hy ht h3 h4;clear hq hy ht h3 h4;go_enter Tryz.func100,Tryz.ntmps100;go_wp2_with fail
 refine(Kr h Hq.out.1 hlv').mono ?_;rintro e w1 ⟨l,rfl,A1,L1,hA1,hL1,hl1,hC,f1⟩;obtain⟨hq,hy,ht,h3,h4⟩:=Hq.out;clear Hq;obtain⟨gv,bv,cv,hbl,hg,hb1,hc1⟩:=hC.lab hl1 hy;have d1:=hbl.cell 1 rfl;have haC:=ZO f1 ha;have HX:=ZL hA1 hL1;have HF:=Z9 f1;clear hl1 hA1 hL1 f1 c1 c2;unfold BS.newAt at h4;rw[Option.map_eq_some_iff]at h4;cases hbr:y.2.brk with
 |none=>
  rw[hbr]at hb1;obtain rfl:=hb1;have Ht: ∃ Sn,q.2.newP 1 (some 0)=some Sn∧t=(q.2.bks.length,Sn):=by
   simp[BS.aimed,hbr]at ht;obtain⟨Sn,h1,h2⟩:=ht;exact⟨Sn,h1,h2.symm⟩
  obtain⟨Sn,hSn,rfl⟩:=Ht;have Hq:=Za (show ∃ S0,q.2.newP 1 (some 0)=some S0∧S0=Sn from⟨Sn,hSn,rfl⟩) h3 h4;clear hq hy ht h3 h4 hbr hSn;go_wp2_with fail
  obtain⟨Sn,hSn,rfl⟩:=Hq.out.1;refine(Zo hC hSn (Zq haC)).mono ?_;rintro e wM ⟨aM,rfl,AM,hAM,hgM,hM,fM⟩;have haM:=ZO fM haC;have HM:=ZL hAM hgM;clear hAM hgM;go_wp2_with fail
  refine(Zx hM Hq.out.2.1 HM.out.2).mono ?_;rintro e wJ ⟨rfl,hJ,fJ⟩;have haJ:=ZO fJ haM;go_wp2_with fail
  obtain⟨S4,hS4,rfl⟩:=Hq.out.2.2;refine(Zo hJ hS4 (Zq haJ)).mono ?_;rintro e wN ⟨aN,rfl,AN,hAN,hgN,hN,fN⟩;obtain⟨bvN,cvN,mvN,tvN,hbN,_,_⟩:=hN.blk;have cN:=hbN.cell 2 rfl;have zN:=hbN.free 2;have HN:=ZL hAN hgN;clear hAN hgN;go_wp2_with fail
  go_end0
  obtain⟨h5,f5⟩:=hN.setCur HN.out.2;exact⟨rfl,YX.of (Z7 HX.out.1 (Z7 HM.out.1 HN.out.1)) HX.out.2 h5 (HF.out.trans (fM.trans (fJ.trans (fN.trans f5))))⟩
 |some d=>
  rw[hbr]at hb1;obtain⟨da,hda,rfl⟩:=hb1;have Ht:t=(d,q.2):=by
   simp[BS.aimed,hbr]at ht;exact ht.symm
  subst Ht;have Hbr:=Z9 hda;have Hq:=Yt hq hy h3 h4;clear hq hy ht h3 h4 hbr hda;go_wp2_with fail
  refine(Zx hC Hq.out.2.2.1 Hbr.out).mono ?_;rintro e wJ ⟨rfl,hJ,fJ⟩;have haJ:=ZO fJ haC;go_wp2_with fail
  obtain⟨S4,hS4,rfl⟩:=Hq.out.2.2.2;refine(Zo hJ hS4 (Zq haJ)).mono ?_;rintro e wN ⟨aN,rfl,AN,hAN,hgN,hN,fN⟩;obtain⟨bvN,cvN,mvN,tvN,hbN,_,_⟩:=hN.blk;have cN:=hbN.cell 2 rfl;have zN:=hbN.free 2;have HN:=ZL hAN hgN;clear hAN hgN;go_wp2_with fail
  go_end0
  obtain⟨h5,f5⟩:=hN.setCur HN.out.2;exact⟨rfl,YX.of (Z7 HX.out.1 HN.out.1) HX.out.2 h5 (HF.out.trans (fJ.trans (fN.trans f5)))⟩
theorem PY {w:World} {B b b0:Nat} {A L:List Nat} {S S':BS} {tg:List Tg} {M:Mk} (h:BX w B b b0 A L S tg M) {s:ByteArray} (hs0:0 < s.size) {lv:Value} (hlv:Yk (Hv w 0) lv s) {a:Nat} (ha:Hv w 0 a [.int .i64 0,.int .i64 65,lv] 221) (hs:S.Zg 18 s tg=some S'):
  Calls Tryz.prog 100 #[b,a] w fun e w'=>e=.returned (.tuple #[])∧YX w w' B b b0 A L S' tg M:=by
 unfold BS.Zg BS.aim at hs;rw[if_pos hs0]at hs;simp only[Option.bind_eq_some_iff,Option.map_eq_some_iff]at hs;obtain⟨r,⟨q,hq,y,hy,rfl⟩,t,ht,S3,h3,h4⟩:=hs;have hlv':=hlv;obtain⟨la,lo,rfl,_⟩:=hlv;have c1:=ha.2.2.cell 1 rfl;have c2:=ha.2.2.cell 2 rfl;have Hq:=XG hq hy ht h3 h4;clear hq hy ht h3 h4;go_enter Tryz.func100,Tryz.ntmps100;go_wp2_with fail
 refine(Kr h Hq.out.1 hlv').mono ?_;rintro e w1 ⟨l,rfl,A1,L1,hA1,hL1,hl1,hC,f1⟩;obtain⟨hq,hy,ht,h3,h4⟩:=Hq.out;clear Hq;obtain⟨gv,bv,cv,hbl,hg,hb1,hc1⟩:=hC.lab hl1 hy;have d1:=hbl.cell 2 rfl;have haC:=ZO f1 ha;have HX:=ZL hA1 hL1;have HF:=Z9 f1;clear hl1 hA1 hL1 f1 c1 c2;unfold BS.newAt at h4;rw[Option.map_eq_some_iff]at h4;cases hbr:y.2.cnt with
 |none=>
  rw[hbr]at hc1;obtain rfl:=hc1;have Ht: ∃ Sn,q.2.newP 1 (some 0)=some Sn∧t=(q.2.bks.length,Sn):=by
   simp[BS.aimed,hbr]at ht;obtain⟨Sn,h1,h2⟩:=ht;exact⟨Sn,h1,h2.symm⟩
  obtain⟨Sn,hSn,rfl⟩:=Ht;have Hq:=Za (show ∃ S0,q.2.newP 1 (some 0)=some S0∧S0=Sn from⟨Sn,hSn,rfl⟩) h3 h4;clear hq hy ht h3 h4 hbr hSn;go_wp2_with fail
  obtain⟨Sn,hSn,rfl⟩:=Hq.out.1;refine(Zo hC hSn (Zq haC)).mono ?_;rintro e wM ⟨aM,rfl,AM,hAM,hgM,hM,fM⟩;have haM:=ZO fM haC;have HM:=ZL hAM hgM;clear hAM hgM;go_wp2_with fail
  refine(Zx hM Hq.out.2.1 HM.out.2).mono ?_;rintro e wJ ⟨rfl,hJ,fJ⟩;have haJ:=ZO fJ haM;go_wp2_with fail
  obtain⟨S4,hS4,rfl⟩:=Hq.out.2.2;refine(Zo hJ hS4 (Zq haJ)).mono ?_;rintro e wN ⟨aN,rfl,AN,hAN,hgN,hN,fN⟩;obtain⟨bvN,cvN,mvN,tvN,hbN,_,_⟩:=hN.blk;have cN:=hbN.cell 2 rfl;have zN:=hbN.free 2;have HN:=ZL hAN hgN;clear hAN hgN;go_wp2_with fail
  go_end0
  obtain⟨h5,f5⟩:=hN.setCur HN.out.2;exact⟨rfl,YX.of (Z7 HX.out.1 (Z7 HM.out.1 HN.out.1)) HX.out.2 h5 (HF.out.trans (fM.trans (fJ.trans (fN.trans f5))))⟩
 |some d=>
  rw[hbr]at hc1;obtain⟨da,hda,rfl⟩:=hc1;have Ht:t=(d,q.2):=by
   simp[BS.aimed,hbr]at ht;exact ht.symm
  subst Ht;have Hbr:=Z9 hda;have Hq:=Yt hq hy h3 h4;clear hq hy ht h3 h4 hbr hda;go_wp2_with fail
  refine(Zx hC Hq.out.2.2.1 Hbr.out).mono ?_;rintro e wJ ⟨rfl,hJ,fJ⟩;have haJ:=ZO fJ haC;go_wp2_with fail
  obtain⟨S4,hS4,rfl⟩:=Hq.out.2.2.2;refine(Zo hJ hS4 (Zq haJ)).mono ?_;rintro e wN ⟨aN,rfl,AN,hAN,hgN,hN,fN⟩;obtain⟨bvN,cvN,mvN,tvN,hbN,_,_⟩:=hN.blk;have cN:=hbN.cell 2 rfl;have zN:=hbN.free 2;have HN:=ZL hAN hgN;clear hAN hgN;go_wp2_with fail
  go_end0
  obtain⟨h5,f5⟩:=hN.setCur HN.out.2;exact⟨rfl,YX.of (Z7 HX.out.1 HN.out.1) HX.out.2 h5 (HF.out.trans (fJ.trans (fN.trans f5)))⟩
theorem PK {w:World} {B b b0:Nat} {A L:List Nat} {S S':BS} {tg:List Tg} {M:Mk} (h:BX w B b b0 A L S tg M) {s:ByteArray} (hs0:0 < s.size) {lv:Value} (hlv:Yk (Hv w 0) lv s) {a:Nat} (ha:Hv w 0 a [.int .i64 0,.int .i64 73,lv] 221) (hs:S.Zg 19 s tg=some S'):
  Calls Tryz.prog 100 #[b,a] w fun e w'=>e=.returned (.tuple #[])∧YX w w' B b b0 A L S' tg M:=by
 unfold BS.Zg BS.aim at hs;rw[if_pos hs0]at hs;simp only[Option.bind_eq_some_iff,Option.map_eq_some_iff]at hs;obtain⟨r,⟨q,hq,y,hy,rfl⟩,t,ht,S3,h3,h4⟩:=hs;have hlv':=hlv;obtain⟨la,lo,rfl,_⟩:=hlv;have c1:=ha.2.2.cell 1 rfl;have c2:=ha.2.2.cell 2 rfl;have Hq:=XG hq hy ht h3 h4;clear hq hy ht h3 h4;go_enter Tryz.func100,Tryz.ntmps100;go_wp2_with fail
 refine(Kr h Hq.out.1 hlv').mono ?_;rintro e w1 ⟨l,rfl,A1,L1,hA1,hL1,hl1,hC,f1⟩;obtain⟨hq,hy,ht,h3,h4⟩:=Hq.out;clear Hq;obtain⟨gv,bv,cv,hbl,hg,hb1,hc1⟩:=hC.lab hl1 hy;have d1:=hbl.cell 0 rfl;have haC:=ZO f1 ha;have HX:=ZL hA1 hL1;have HF:=Z9 f1;clear hl1 hA1 hL1 f1 c1 c2;unfold BS.newAt at h4;rw[Option.map_eq_some_iff]at h4;have Ht:t=(y.2.go,q.2):=by
  simp[BS.aimed]at ht;exact ht.symm
 subst Ht;clear ht;obtain⟨da,hda,rfl⟩:=hg;have Hbr:=Z9 hda;have Hq:=Yt hq hy h3 h4;clear hq hy h3 h4 hda;go_wp2_with fail
 refine(Zx hC Hq.out.2.2.1 Hbr.out).mono ?_;rintro e wJ ⟨rfl,hJ,fJ⟩;have haJ:=ZO fJ haC;go_wp2_with fail
 obtain⟨S4,hS4,rfl⟩:=Hq.out.2.2.2;refine(Zo hJ hS4 (Zq haJ)).mono ?_;rintro e wN ⟨aN,rfl,AN,hAN,hgN,hN,fN⟩;obtain⟨bvN,cvN,mvN,tvN,hbN,_,_⟩:=hN.blk;have cN:=hbN.cell 2 rfl;have zN:=hbN.free 2;have HN:=ZL hAN hgN;clear hAN hgN;go_wp2_with fail
 go_end0
 obtain⟨h5,f5⟩:=hN.setCur HN.out.2;exact⟨rfl,YX.of (Z7 HX.out.1 HN.out.1) HX.out.2 h5 (HF.out.trans (fJ.trans (fN.trans f5)))⟩
section
variable {w w':World} {B b b0:Nat} {A L:List Nat} {S S':BS} {tg:List Tg} {M:Mk}
theorem UO (h:BX w B b b0 A L S tg M) {k:Int} {o:Option Int} (hs:S.newP k o=some S') {sv:Value} (hv:YR (Hv w 0) sv o):
  Calls Tryz.prog 84 #[b,.int .u8 k,sv] w fun e w'=> ∃ a,e=.returned (.pointer (some ⟨a,0,none⟩))∧ ∃ A',Hid (A <+:A'∧A'[S.bks.length]? =some a)∧BX w' B b b0 A' L S' tg M∧Fr bT B w w':=
 (Zo h hs hv).mono fun _ _ ⟨a,e,A',h1,h2,h3⟩=>⟨a,e,A',⟨h1,h2⟩,h3⟩
theorem YX.hd (h:YX w w' B b b0 A L S tg M): ∃ A' L',Hid (A <+:A'∧L <+:L')∧BX w' B b b0 A' L' S tg M∧Fr bT B w w':=
 let⟨A',L',h1,h2,h3⟩:=h;⟨A',L',⟨h1,h2⟩,h3⟩
theorem BX.sc (h:BX w B b b0 A L S tg M) {a c:Nat} (ha:A[c]? =some a): ∃ v,w.cell? ⟨b,2,none⟩=some v∧w.frozen? ⟨b,2,none⟩=false∧
  BX (w.setCell ⟨b,2,none⟩ (.pointer (some ⟨a,0,none⟩))) B b b0 A L (S.at c) tg M∧Fr bT B w (w.setCell ⟨b,2,none⟩ (.pointer (some ⟨a,0,none⟩))):=
 let⟨_,v,_,_,hb,_⟩:=h.blk;⟨v,hb.cell 2 rfl,hb.free 2,h.setCur ha⟩
theorem hv5 {B:Nat} (f:Fr bT B w w') {a:Nat} {c0 c1 c2 c3 c4:Value} {t:Nat} (h:Hv w 0 a [c0,c1,c2,c3,c4] t):Hv w' 0 a [c0,c1,c2,c3,c4] t∧w'.cell? ⟨a,1,none⟩=some c1∧w'.cell? ⟨a,2,none⟩=some c2∧w'.cell? ⟨a,3,none⟩=some c3∧w'.cell? ⟨a,4,none⟩=some c4:=
 have h:=ZO f h;⟨h,h.2.2.cell 1 rfl,h.2.2.cell 2 rfl,h.2.2.cell 3 rfl,h.2.2.cell 4 rfl⟩
theorem KU {B:Nat} (f:Fr bT B w w') {a:Nat} {c0 c1 c2 c3 c4 c5 c6 c7:Value} {t:Nat} (h:Hv w 0 a [c0,c1,c2,c3,c4,c5,c6,c7] t):Hv w' 0 a [c0,c1,c2,c3,c4,c5,c6,c7] t∧w'.cell? ⟨a,1,none⟩=some c1∧w'.cell? ⟨a,2,none⟩=some c2∧w'.cell? ⟨a,6,none⟩=some c6∧w'.cell? ⟨a,7,none⟩=some c7:=
 have h:=ZO f h;⟨h,h.2.2.cell 1 rfl,h.2.2.cell 2 rfl,h.2.2.cell 6 rfl,h.2.2.cell 7 rfl⟩
end
end
section
def MK (w:World) (A:List Nat) (f:Tg->Option Nat) (tg:List Tg) (k:Nat) (bv tv:Value) (w':World):Prop:=w'=w∧ ∃ (ts:List Tg) (o:Option Nat),ts.length=k∧Sr (Hv w 0) A ts tv∧ZI A bv o∧o.or (ts.findSome? f)=tg.findSome? f
theorem MK.ptr {w:World} {A:List Nat} {f:Tg->Option Nat} {tg:List Tg} {k:Nat} {bv tv:Value} {w':World} (h:MK w A f tg k bv tv w'): ∃ pa pb,bv=.pointer pa∧tv=.pointer pb:=by
 obtain⟨_,ts,o,_,ht,ho,_⟩:=h;have h1: ∃ pa,bv=.pointer pa:=by
  cases o with
  |none=>exact⟨_,ho⟩
  |some d=>obtain⟨a,_,rfl⟩:=ho;exact⟨_,rfl⟩
 have h2: ∃ pb,tv=.pointer pb:=by
  cases ts with
  |nil=>exact⟨_,ht⟩
  |cons t ts=>obtain⟨a,tl,b1,c1,f1,rfl,_⟩:=ht;exact⟨_,rfl⟩
 obtain⟨pa,rfl⟩:=h1;obtain⟨pb,rfl⟩:=h2;exact⟨pa,pb,rfl,rfl⟩
theorem WE {f:Tg->Option Nat} {t:Tg} {ts:List Tg} {o:Option Nat} {k:Option Nat} (h:(none:Option Nat).or ((t::ts).findSome? f)=k) (ho:f t=o):o.or (ts.findSome? f)=k:=by
 subst ho;rw[List.findSome?_cons]at h;cases hf:f t with
 |none=>simpa [hf]using h
 |some d=>simpa [hf]using h
theorem ZI.ptr {A:List Nat} {v:Value} {o:Option Nat} (h:ZI A v o): ∃ p,v=.pointer p:=by
 cases o with
 |none=>exact⟨_,h⟩
 |some d=>obtain⟨a,_,rfl⟩:=h;exact⟨_,rfl⟩
theorem Sr.ptr {H:Hp} {A:List Nat} {ts:List Tg} {v:Value} (h:Sr H A ts v): ∃ p,v=.pointer p:=by
 cases ts with
 |nil=>exact⟨_,h⟩
 |cons t ts=>obtain⟨a,tl,b1,c1,f1,rfl,_⟩:=h;exact⟨_,rfl⟩
theorem Pj {w:World} {B b b0:Nat} {A L:List Nat} {S S':BS} {tg:List Tg} {M:Mk} (h:BX w B b b0 A L S tg M) {s:ByteArray} (hs0:s.size=0) {a:Nat} (ha:Hv w 0 a [.int .i64 0,.int .i64 61,.pointer none] 221) (hs:S.Zg 17 s tg=some S'):
  Calls Tryz.prog 100 #[b,a] w fun e w'=>e=.returned (.tuple #[])∧YX w w' B b b0 A L S' tg M:=by
 unfold BS.Zg BS.aim at hs;rw[if_neg (by omega)]at hs;simp only[Option.bind_eq_some_iff,Option.some.injEq,exists_eq_left']at hs;obtain⟨t,ht,S3,h3,h4⟩:=hs;unfold BS.newAt at h4;rw[Option.map_eq_some_iff]at h4;have ht:BS.aimed (tg.findSome? Tg.brk,S)=some t:=by simpa using ht
 have c1:=ha.2.2.cell 1 rfl;have c2:=ha.2.2.cell 2 rfl;obtain⟨bv,cv,mv,tv,hb,_,htg⟩:=h.blk;have c4:=hb.cell 4 rfl;have Hq:=Za ht h3 h4;clear ht h3 h4;go_enter Tryz.func100,Tryz.ntmps100;go_wp2_with fail
 go_loopg [4,6] (tg.length) (fun k bv tv wr=>MK w A Tg.brk tg k bv tv wr)
 case atStart=>exact⟨rfl,tg,none,rfl,htg,rfl,by simp⟩
 case round=>
  obtain⟨rfl,ts,o,hk,hts,ho,hor⟩:=hrel;obtain⟨ht,h3,h4⟩:=Hq.out;clear Hq;have hC:=h;have haC:=ha;cases o with
  |some d=>
   obtain⟨da,hda,rfl⟩:=ho;obtain⟨pb,rfl⟩:=hts.ptr;have Ht:t=(d,S):=by
    simp at hor;rw[<-hor]at ht;simp[BS.aimed]at ht;exact ht.symm
   subst Ht;have Hbr:=Z9 hda;have Hq:=Yt ht ht h3 h4;clear ht h3 h4 hda hor hk hts;cases pb with
   |none=>
    go_wp2_with fail
    refine(Zx hC Hq.out.2.2.1 Hbr.out).mono ?_;rintro e wJ ⟨rfl,hJ,fJ⟩;have haJ:=ZO fJ haC;go_wp2_with fail
    obtain⟨S4,hS4,rfl⟩:=Hq.out.2.2.2;refine(Zo hJ hS4 (Zq haJ)).mono ?_;rintro e wN ⟨aN,rfl,AN,hAN,hgN,hN,fN⟩;obtain⟨bvN,cvN,mvN,tvN,hbN,_,_⟩:=hN.blk;have cN:=hbN.cell 2 rfl;have zN:=hbN.free 2;have HN:=ZL hAN hgN;clear hAN hgN;go_wp2_with fail
    go_end0
    obtain⟨h5,f5⟩:=hN.setCur HN.out.2;exact⟨rfl,YX.of HN.out.1 (ZT _) h5 (fJ.trans (fN.trans f5))⟩
   |some pb=>
    go_wp2_with fail
    refine(Zx hC Hq.out.2.2.1 Hbr.out).mono ?_;rintro e wJ ⟨rfl,hJ,fJ⟩;have haJ:=ZO fJ haC;go_wp2_with fail
    obtain⟨S4,hS4,rfl⟩:=Hq.out.2.2.2;refine(Zo hJ hS4 (Zq haJ)).mono ?_;rintro e wN ⟨aN,rfl,AN,hAN,hgN,hN,fN⟩;obtain⟨bvN,cvN,mvN,tvN,hbN,_,_⟩:=hN.blk;have cN:=hbN.cell 2 rfl;have zN:=hbN.free 2;have HN:=ZL hAN hgN;clear hAN hgN;go_wp2_with fail
    go_end0
    obtain⟨h5,f5⟩:=hN.setCur HN.out.2;exact⟨rfl,YX.of HN.out.1 (ZT _) h5 (fJ.trans (fN.trans f5))⟩
  |none=>
   obtain rfl:=ho;cases ts with
   |nil=>
    obtain rfl:=hts;have Ht: ∃ Sn,S.newP 1 (some 0)=some Sn∧t=(S.bks.length,Sn):=by
     simp at hor;rw[<-hor]at ht;simp[BS.aimed]at ht;obtain⟨Sn,h1,h2⟩:=ht;exact⟨Sn,h1,h2.symm⟩
    obtain⟨Sn,hSn,rfl⟩:=Ht;have Hq:=Za (show ∃ S0,S.newP 1 (some 0)=some S0∧S0=Sn from⟨Sn,hSn,rfl⟩) h3 h4;clear ht h3 h4 hor hk hSn;go_wp2_with fail
    obtain⟨Sn,hSn,rfl⟩:=Hq.out.1;refine(Zo hC hSn (Zq haC)).mono ?_;rintro e wM ⟨aM,rfl,AM,hAM,hgM,hM,fM⟩;have haM:=ZO fM haC;have HM:=ZL hAM hgM;clear hAM hgM;go_wp2_with fail
    refine(Zx hM Hq.out.2.1 HM.out.2).mono ?_;rintro e wJ ⟨rfl,hJ,fJ⟩;have haJ:=ZO fJ haM;go_wp2_with fail
    obtain⟨S4,hS4,rfl⟩:=Hq.out.2.2;refine(Zo hJ hS4 (Zq haJ)).mono ?_;rintro e wN ⟨aN,rfl,AN,hAN,hgN,hN,fN⟩;obtain⟨bvN,cvN,mvN,tvN,hbN,_,_⟩:=hN.blk;have cN:=hbN.cell 2 rfl;have zN:=hbN.free 2;have HN:=ZL hAN hgN;clear hAN hgN;go_wp2_with fail
    go_end0
    obtain⟨h5,f5⟩:=hN.setCur HN.out.2;exact⟨rfl,YX.of (Z7 HM.out.1 HN.out.1) (ZT _) h5 (fM.trans (fJ.trans (fN.trans f5)))⟩
   |cons t1 ts=>
    obtain⟨ta,tl,b1,cc1,f1,rfl,hta,hb1,hcc1,hf1,htl⟩:=hts;obtain⟨p1,rfl⟩:=hb1.ptr;obtain⟨p2,rfl⟩:=hcc1.ptr;obtain⟨p3,rfl⟩:=hf1.ptr;obtain⟨p4,rfl⟩:=htl.ptr;have e0:=hta.2.2.cell 0 rfl;have e1:=hta.2.2.cell 1 rfl;have hR:MK wr A Tg.brk tg ts.length (.pointer p1) (.pointer p4) wr:=⟨rfl,ts,_,rfl,htl,hb1,WE hor rfl⟩
    have HR:=ZL hR hk;clear hor hR hk ht h3 h4;go_wp2_with fail
    go_roundg ts.length
    case rel=>exact HR.out.1
    case measure=>have:=HR.out.2;simp at this;omega
theorem Pv {w:World} {B b b0:Nat} {A L:List Nat} {S S':BS} {tg:List Tg} {M:Mk} (h:BX w B b b0 A L S tg M) {s:ByteArray} (hs0:s.size=0) {a:Nat} (ha:Hv w 0 a [.int .i64 0,.int .i64 65,.pointer none] 221) (hs:S.Zg 18 s tg=some S'):
  Calls Tryz.prog 100 #[b,a] w fun e w'=>e=.returned (.tuple #[])∧YX w w' B b b0 A L S' tg M:=by
 unfold BS.Zg BS.aim at hs;rw[if_neg (by omega)]at hs;simp only[Option.bind_eq_some_iff,Option.some.injEq,exists_eq_left']at hs;obtain⟨t,ht,S3,h3,h4⟩:=hs;unfold BS.newAt at h4;rw[Option.map_eq_some_iff]at h4;have ht:BS.aimed (tg.findSome? Tg.cnt,S)=some t:=by simpa using ht
 have c1:=ha.2.2.cell 1 rfl;have c2:=ha.2.2.cell 2 rfl;obtain⟨bv,cv,mv,tv,hb,_,htg⟩:=h.blk;have c4:=hb.cell 4 rfl;have Hq:=Za ht h3 h4;clear ht h3 h4;go_enter Tryz.func100,Tryz.ntmps100;go_wp2_with fail
 go_loopg [4,8] (tg.length) (fun k bv tv wr=>MK w A Tg.cnt tg k bv tv wr)
 case atStart=>exact⟨rfl,tg,none,rfl,htg,rfl,by simp⟩
 case round=>
  obtain⟨rfl,ts,o,hk,hts,ho,hor⟩:=hrel;obtain⟨ht,h3,h4⟩:=Hq.out;clear Hq;have hC:=h;have haC:=ha;cases o with
  |some d=>
   obtain⟨da,hda,rfl⟩:=ho;obtain⟨pb,rfl⟩:=hts.ptr;have Ht:t=(d,S):=by
    simp at hor;rw[<-hor]at ht;simp[BS.aimed]at ht;exact ht.symm
   subst Ht;have Hbr:=Z9 hda;have Hq:=Yt ht ht h3 h4;clear ht h3 h4 hda hor hk hts;cases pb with
   |none=>
    go_wp2_with fail
    refine(Zx hC Hq.out.2.2.1 Hbr.out).mono ?_;rintro e wJ ⟨rfl,hJ,fJ⟩;have haJ:=ZO fJ haC;go_wp2_with fail
    obtain⟨S4,hS4,rfl⟩:=Hq.out.2.2.2;refine(Zo hJ hS4 (Zq haJ)).mono ?_;rintro e wN ⟨aN,rfl,AN,hAN,hgN,hN,fN⟩;obtain⟨bvN,cvN,mvN,tvN,hbN,_,_⟩:=hN.blk;have cN:=hbN.cell 2 rfl;have zN:=hbN.free 2;have HN:=ZL hAN hgN;clear hAN hgN;go_wp2_with fail
    go_end0
    obtain⟨h5,f5⟩:=hN.setCur HN.out.2;exact⟨rfl,YX.of HN.out.1 (ZT _) h5 (fJ.trans (fN.trans f5))⟩
   |some pb=>
    go_wp2_with fail
    refine(Zx hC Hq.out.2.2.1 Hbr.out).mono ?_;rintro e wJ ⟨rfl,hJ,fJ⟩;have haJ:=ZO fJ haC;go_wp2_with fail
    obtain⟨S4,hS4,rfl⟩:=Hq.out.2.2.2;refine(Zo hJ hS4 (Zq haJ)).mono ?_;rintro e wN ⟨aN,rfl,AN,hAN,hgN,hN,fN⟩;obtain⟨bvN,cvN,mvN,tvN,hbN,_,_⟩:=hN.blk;have cN:=hbN.cell 2 rfl;have zN:=hbN.free 2;have HN:=ZL hAN hgN;clear hAN hgN;go_wp2_with fail
    go_end0
    obtain⟨h5,f5⟩:=hN.setCur HN.out.2;exact⟨rfl,YX.of HN.out.1 (ZT _) h5 (fJ.trans (fN.trans f5))⟩
  |none=>
   obtain rfl:=ho;cases ts with
   |nil=>
    obtain rfl:=hts;have Ht: ∃ Sn,S.newP 1 (some 0)=some Sn∧t=(S.bks.length,Sn):=by
     simp at hor;rw[<-hor]at ht;simp[BS.aimed]at ht;obtain⟨Sn,h1,h2⟩:=ht;exact⟨Sn,h1,h2.symm⟩
    obtain⟨Sn,hSn,rfl⟩:=Ht;have Hq:=Za (show ∃ S0,S.newP 1 (some 0)=some S0∧S0=Sn from⟨Sn,hSn,rfl⟩) h3 h4;clear ht h3 h4 hor hk hSn;go_wp2_with fail
    obtain⟨Sn,hSn,rfl⟩:=Hq.out.1;refine(Zo hC hSn (Zq haC)).mono ?_;rintro e wM ⟨aM,rfl,AM,hAM,hgM,hM,fM⟩;have haM:=ZO fM haC;have HM:=ZL hAM hgM;clear hAM hgM;go_wp2_with fail
    refine(Zx hM Hq.out.2.1 HM.out.2).mono ?_;rintro e wJ ⟨rfl,hJ,fJ⟩;have haJ:=ZO fJ haM;go_wp2_with fail
    obtain⟨S4,hS4,rfl⟩:=Hq.out.2.2;refine(Zo hJ hS4 (Zq haJ)).mono ?_;rintro e wN ⟨aN,rfl,AN,hAN,hgN,hN,fN⟩;obtain⟨bvN,cvN,mvN,tvN,hbN,_,_⟩:=hN.blk;have cN:=hbN.cell 2 rfl;have zN:=hbN.free 2;have HN:=ZL hAN hgN;clear hAN hgN;go_wp2_with fail
    go_end0
    obtain⟨h5,f5⟩:=hN.setCur HN.out.2;exact⟨rfl,YX.of (Z7 HM.out.1 HN.out.1) (ZT _) h5 (fM.trans (fJ.trans (fN.trans f5)))⟩
   |cons t1 ts=>
    obtain⟨ta,tl,b1,cc1,f1,rfl,hta,hb1,hcc1,hf1,htl⟩:=hts;obtain⟨p1,rfl⟩:=hb1.ptr;obtain⟨p2,rfl⟩:=hcc1.ptr;obtain⟨p3,rfl⟩:=hf1.ptr;obtain⟨p4,rfl⟩:=htl.ptr;have e0:=hta.2.2.cell 0 rfl;have e1:=hta.2.2.cell 2 rfl;have hR:MK wr A Tg.cnt tg ts.length (.pointer p2) (.pointer p4) wr:=⟨rfl,ts,_,rfl,htl,hcc1,WE hor rfl⟩
    have HR:=ZL hR hk;clear hor hR hk ht h3 h4;go_wp2_with fail
    go_roundg ts.length
    case rel=>exact HR.out.1
    case measure=>have:=HR.out.2;simp at this;omega
theorem Px {w:World} {B b b0:Nat} {A L:List Nat} {S S':BS} {tg:List Tg} {M:Mk} (h:BX w B b b0 A L S tg M) {s:ByteArray} (hs0:s.size=0) {a:Nat} (ha:Hv w 0 a [.int .i64 0,.int .i64 69,.pointer none] 221) (hs:S.Zg 20 s tg=some S'):
  Calls Tryz.prog 100 #[b,a] w fun e w'=>e=.returned (.tuple #[])∧YX w w' B b b0 A L S' tg M:=by
 unfold BS.Zg BS.aim at hs;rw[if_neg (by omega)]at hs;simp only[Option.bind_eq_some_iff,Option.some.injEq,exists_eq_left']at hs;obtain⟨t,ht,S3,h3,h4⟩:=hs;unfold BS.newAt at h4;rw[Option.map_eq_some_iff]at h4;have ht:BS.aimed (tg.findSome? Tg.fal,S)=some t:=by simpa using ht
 have c1:=ha.2.2.cell 1 rfl;have c2:=ha.2.2.cell 2 rfl;obtain⟨bv,cv,mv,tv,hb,_,htg⟩:=h.blk;have c4:=hb.cell 4 rfl;have Hq:=Za ht h3 h4;clear ht h3 h4;go_enter Tryz.func100,Tryz.ntmps100;go_wp2_with fail
 go_loopg [4,9] (tg.length) (fun k bv tv wr=>MK w A Tg.fal tg k bv tv wr)
 case atStart=>exact⟨rfl,tg,none,rfl,htg,rfl,by simp⟩
 case round=>
  obtain⟨rfl,ts,o,hk,hts,ho,hor⟩:=hrel;obtain⟨ht,h3,h4⟩:=Hq.out;clear Hq;have hC:=h;have haC:=ha;cases o with
  |some d=>
   obtain⟨da,hda,rfl⟩:=ho;obtain⟨pb,rfl⟩:=hts.ptr;have Ht:t=(d,S):=by
    simp at hor;rw[<-hor]at ht;simp[BS.aimed]at ht;exact ht.symm
   subst Ht;have Hbr:=Z9 hda;have Hq:=Yt ht ht h3 h4;clear ht h3 h4 hda hor hk hts;cases pb with
   |none=>
    go_wp2_with fail
    refine(Zx hC Hq.out.2.2.1 Hbr.out).mono ?_;rintro e wJ ⟨rfl,hJ,fJ⟩;have haJ:=ZO fJ haC;go_wp2_with fail
    obtain⟨S4,hS4,rfl⟩:=Hq.out.2.2.2;refine(Zo hJ hS4 (Zq haJ)).mono ?_;rintro e wN ⟨aN,rfl,AN,hAN,hgN,hN,fN⟩;obtain⟨bvN,cvN,mvN,tvN,hbN,_,_⟩:=hN.blk;have cN:=hbN.cell 2 rfl;have zN:=hbN.free 2;have HN:=ZL hAN hgN;clear hAN hgN;go_wp2_with fail
    go_end0
    obtain⟨h5,f5⟩:=hN.setCur HN.out.2;exact⟨rfl,YX.of HN.out.1 (ZT _) h5 (fJ.trans (fN.trans f5))⟩
   |some pb=>
    go_wp2_with fail
    refine(Zx hC Hq.out.2.2.1 Hbr.out).mono ?_;rintro e wJ ⟨rfl,hJ,fJ⟩;have haJ:=ZO fJ haC;go_wp2_with fail
    obtain⟨S4,hS4,rfl⟩:=Hq.out.2.2.2;refine(Zo hJ hS4 (Zq haJ)).mono ?_;rintro e wN ⟨aN,rfl,AN,hAN,hgN,hN,fN⟩;obtain⟨bvN,cvN,mvN,tvN,hbN,_,_⟩:=hN.blk;have cN:=hbN.cell 2 rfl;have zN:=hbN.free 2;have HN:=ZL hAN hgN;clear hAN hgN;go_wp2_with fail
    go_end0
    obtain⟨h5,f5⟩:=hN.setCur HN.out.2;exact⟨rfl,YX.of HN.out.1 (ZT _) h5 (fJ.trans (fN.trans f5))⟩
  |none=>
   obtain rfl:=ho;cases ts with
   |nil=>
    obtain rfl:=hts;have Ht: ∃ Sn,S.newP 1 (some 0)=some Sn∧t=(S.bks.length,Sn):=by
     simp at hor;rw[<-hor]at ht;simp[BS.aimed]at ht;obtain⟨Sn,h1,h2⟩:=ht;exact⟨Sn,h1,h2.symm⟩
    obtain⟨Sn,hSn,rfl⟩:=Ht;have Hq:=Za (show ∃ S0,S.newP 1 (some 0)=some S0∧S0=Sn from⟨Sn,hSn,rfl⟩) h3 h4;clear ht h3 h4 hor hk hSn;go_wp2_with fail
    obtain⟨Sn,hSn,rfl⟩:=Hq.out.1;refine(Zo hC hSn (Zq haC)).mono ?_;rintro e wM ⟨aM,rfl,AM,hAM,hgM,hM,fM⟩;have haM:=ZO fM haC;have HM:=ZL hAM hgM;clear hAM hgM;go_wp2_with fail
    refine(Zx hM Hq.out.2.1 HM.out.2).mono ?_;rintro e wJ ⟨rfl,hJ,fJ⟩;have haJ:=ZO fJ haM;go_wp2_with fail
    obtain⟨S4,hS4,rfl⟩:=Hq.out.2.2;refine(Zo hJ hS4 (Zq haJ)).mono ?_;rintro e wN ⟨aN,rfl,AN,hAN,hgN,hN,fN⟩;obtain⟨bvN,cvN,mvN,tvN,hbN,_,_⟩:=hN.blk;have cN:=hbN.cell 2 rfl;have zN:=hbN.free 2;have HN:=ZL hAN hgN;clear hAN hgN;go_wp2_with fail
    go_end0
    obtain⟨h5,f5⟩:=hN.setCur HN.out.2;exact⟨rfl,YX.of (Z7 HM.out.1 HN.out.1) (ZT _) h5 (fM.trans (fJ.trans (fN.trans f5)))⟩
   |cons t1 ts=>
    obtain⟨ta,tl,b1,cc1,f1,rfl,hta,hb1,hcc1,hf1,htl⟩:=hts;obtain⟨p1,rfl⟩:=hb1.ptr;obtain⟨p2,rfl⟩:=hcc1.ptr;obtain⟨p3,rfl⟩:=hf1.ptr;obtain⟨p4,rfl⟩:=htl.ptr;have e0:=hta.2.2.cell 0 rfl;have e1:=hta.2.2.cell 3 rfl;have hR:MK wr A Tg.fal tg ts.length (.pointer p3) (.pointer p4) wr:=⟨rfl,ts,_,rfl,htl,hf1,WE hor rfl⟩
    have HR:=ZL hR hk;clear hor hR hk ht h3 h4;go_wp2_with fail
    go_roundg ts.length
    case rel=>exact HR.out.1
    case measure=>have:=HR.out.2;simp at this;omega
end
section
theorem Yj {q e:Nat} (hq:Tryz.prog.underlying q=some (.pointer e)) (hz: ∀ w,(zeroValue q).run Tryz.prog w=.ok (.pointer none) w) (x t:Nat) (v:Value) (w:World) (h:t≠q):
  (Instr.typeAssert (.iface t v) x q true).run Tryz.prog w=.ok (.tuple #[.pointer none,false]) w:=by
 unfold Instr.typeAssert;simp[run_underlying hq,hz,h]
theorem YS {q e:Nat} (hq:Tryz.prog.underlying q=some (.pointer e)) (x:Nat) (v:Value) (w:World):
  (Instr.typeAssert (.iface q v) x q true).run Tryz.prog w=.ok (.tuple #[v,true]) w:=by
 unfold Instr.typeAssert;simp[run_underlying hq]
theorem NP {q e:Nat} (hq:Tryz.prog.underlying q=some (.pointer e)) (x:Nat) (v:Value) (w:World):
  (Instr.typeAssert (.iface q v) x q false).run Tryz.prog w=.ok v w:=by
 unfold Instr.typeAssert;simp[run_underlying hq]
theorem Af (w:World):(zeroValue 158).run Tryz.prog w=.ok (.pointer none) w:=by kernel_rfl
theorem RI (x t:Nat) (v:Value) (w:World) (h:t≠158):(Instr.typeAssert (.iface t v) x 158 true).run Tryz.prog w=.ok (.tuple #[.pointer none,false]) w:=Yj Tryz.underlying158 Af x t v w h
theorem QF (x:Nat) (v:Value) (w:World):(Instr.typeAssert (.iface 158 v) x 158 true).run Tryz.prog w=.ok (.tuple #[v,true]) w:=YS Tryz.underlying158 x v w
theorem Ad (w:World):(zeroValue 159).run Tryz.prog w=.ok (.pointer none) w:=by kernel_rfl
theorem Rq (x t:Nat) (v:Value) (w:World) (h:t≠159):(Instr.typeAssert (.iface t v) x 159 true).run Tryz.prog w=.ok (.tuple #[.pointer none,false]) w:=Yj Tryz.underlying159 Ad x t v w h
theorem QN (x:Nat) (v:Value) (w:World):(Instr.typeAssert (.iface 159 v) x 159 true).run Tryz.prog w=.ok (.tuple #[v,true]) w:=YS Tryz.underlying159 x v w
theorem AO (w:World):(zeroValue 160).run Tryz.prog w=.ok (.pointer none) w:=by kernel_rfl
theorem Rz (x t:Nat) (v:Value) (w:World) (h:t≠160):(Instr.typeAssert (.iface t v) x 160 true).run Tryz.prog w=.ok (.tuple #[.pointer none,false]) w:=Yj Tryz.underlying160 AO x t v w h
theorem PV (x:Nat) (v:Value) (w:World):(Instr.typeAssert (.iface 160 v) x 160 true).run Tryz.prog w=.ok (.tuple #[v,true]) w:=YS Tryz.underlying160 x v w
theorem yP (w:World):(zeroValue 161).run Tryz.prog w=.ok (.pointer none) w:=by kernel_rfl
theorem Rl (x t:Nat) (v:Value) (w:World) (h:t≠161):(Instr.typeAssert (.iface t v) x 161 true).run Tryz.prog w=.ok (.tuple #[.pointer none,false]) w:=Yj Tryz.underlying161 yP x t v w h
theorem Qo (x:Nat) (v:Value) (w:World):(Instr.typeAssert (.iface 161 v) x 161 true).run Tryz.prog w=.ok (.tuple #[v,true]) w:=YS Tryz.underlying161 x v w
theorem BD (w:World):(zeroValue 162).run Tryz.prog w=.ok (.pointer none) w:=by kernel_rfl
theorem RN (x t:Nat) (v:Value) (w:World) (h:t≠162):(Instr.typeAssert (.iface t v) x 162 true).run Tryz.prog w=.ok (.tuple #[.pointer none,false]) w:=Yj Tryz.underlying162 BD x t v w h
theorem Qh (x:Nat) (v:Value) (w:World):(Instr.typeAssert (.iface 162 v) x 162 true).run Tryz.prog w=.ok (.tuple #[v,true]) w:=YS Tryz.underlying162 x v w
theorem xY (w:World):(zeroValue 163).run Tryz.prog w=.ok (.pointer none) w:=by kernel_rfl
theorem Ri (x t:Nat) (v:Value) (w:World) (h:t≠163):(Instr.typeAssert (.iface t v) x 163 true).run Tryz.prog w=.ok (.tuple #[.pointer none,false]) w:=Yj Tryz.underlying163 xY x t v w h
theorem Qc (x:Nat) (v:Value) (w:World):(Instr.typeAssert (.iface 163 v) x 163 true).run Tryz.prog w=.ok (.tuple #[v,true]) w:=YS Tryz.underlying163 x v w
theorem AL (w:World):(zeroValue 164).run Tryz.prog w=.ok (.pointer none) w:=by kernel_rfl
theorem RD (x t:Nat) (v:Value) (w:World) (h:t≠164):(Instr.typeAssert (.iface t v) x 164 true).run Tryz.prog w=.ok (.tuple #[.pointer none,false]) w:=Yj Tryz.underlying164 AL x t v w h
theorem Qn (x:Nat) (v:Value) (w:World):(Instr.typeAssert (.iface 164 v) x 164 true).run Tryz.prog w=.ok (.tuple #[v,true]) w:=YS Tryz.underlying164 x v w
theorem yD (w:World):(zeroValue 165).run Tryz.prog w=.ok (.pointer none) w:=by kernel_rfl
theorem TW (x t:Nat) (v:Value) (w:World) (h:t≠165):(Instr.typeAssert (.iface t v) x 165 true).run Tryz.prog w=.ok (.tuple #[.pointer none,false]) w:=Yj Tryz.underlying165 yD x t v w h
theorem Uc (x:Nat) (v:Value) (w:World):(Instr.typeAssert (.iface 165 v) x 165 true).run Tryz.prog w=.ok (.tuple #[v,true]) w:=YS Tryz.underlying165 x v w
theorem xq (w:World):(zeroValue 171).run Tryz.prog w=.ok (.pointer none) w:=by kernel_rfl
theorem RP (x t:Nat) (v:Value) (w:World) (h:t≠171):(Instr.typeAssert (.iface t v) x 171 true).run Tryz.prog w=.ok (.tuple #[.pointer none,false]) w:=Yj Tryz.underlying171 xq x t v w h
theorem QG (x:Nat) (v:Value) (w:World):(Instr.typeAssert (.iface 171 v) x 171 true).run Tryz.prog w=.ok (.tuple #[v,true]) w:=YS Tryz.underlying171 x v w
theorem yY (w:World):(zeroValue 186).run Tryz.prog w=.ok (.pointer none) w:=by kernel_rfl
theorem NG (x t:Nat) (v:Value) (w:World) (h:t≠186):(Instr.typeAssert (.iface t v) x 186 true).run Tryz.prog w=.ok (.tuple #[.pointer none,false]) w:=Yj Tryz.underlying186 yY x t v w h
theorem Ue (x:Nat) (v:Value) (w:World):(Instr.typeAssert (.iface 186 v) x 186 true).run Tryz.prog w=.ok (.tuple #[v,true]) w:=YS Tryz.underlying186 x v w
theorem zV (w:World):(zeroValue 101).run Tryz.prog w=.ok (.pointer none) w:=by kernel_rfl
theorem Ux (x t:Nat) (v:Value) (w:World) (h:t≠101):(Instr.typeAssert (.iface t v) x 101 true).run Tryz.prog w=.ok (.tuple #[.pointer none,false]) w:=Yj Tryz.underlying101 zV x t v w h
theorem Vy (x:Nat) (v:Value) (w:World):(Instr.typeAssert (.iface 101 v) x 101 true).run Tryz.prog w=.ok (.tuple #[v,true]) w:=YS Tryz.underlying101 x v w
theorem zW (w:World):(zeroValue 194).run Tryz.prog w=.ok (.pointer none) w:=by kernel_rfl
theorem NZ (x t:Nat) (v:Value) (w:World) (h:t≠194):(Instr.typeAssert (.iface t v) x 194 true).run Tryz.prog w=.ok (.tuple #[.pointer none,false]) w:=Yj Tryz.underlying194 zW x t v w h
theorem Qx (x:Nat) (v:Value) (w:World):(Instr.typeAssert (.iface 194 v) x 194 true).run Tryz.prog w=.ok (.tuple #[v,true]) w:=YS Tryz.underlying194 x v w
theorem tV (w:World):(zeroValue 86).run Tryz.prog w=.ok (.pointer none) w:=by kernel_rfl
theorem Jy (x t:Nat) (v:Value) (w:World) (h:t≠86):(Instr.typeAssert (.iface t v) x 86 true).run Tryz.prog w=.ok (.tuple #[.pointer none,false]) w:=Yj Tryz.underlying86 tV x t v w h
theorem Oe (x:Nat) (v:Value) (w:World):(Instr.typeAssert (.iface 86 v) x 86 true).run Tryz.prog w=.ok (.tuple #[v,true]) w:=YS Tryz.underlying86 x v w
theorem yH (w:World):(zeroValue 197).run Tryz.prog w=.ok (.pointer none) w:=by kernel_rfl
theorem Ny (x t:Nat) (v:Value) (w:World) (h:t≠197):(Instr.typeAssert (.iface t v) x 197 true).run Tryz.prog w=.ok (.tuple #[.pointer none,false]) w:=Yj Tryz.underlying197 yH x t v w h
theorem PU (x:Nat) (v:Value) (w:World):(Instr.typeAssert (.iface 197 v) x 197 true).run Tryz.prog w=.ok (.tuple #[v,true]) w:=YS Tryz.underlying197 x v w
theorem BM (w:World):(zeroValue 201).run Tryz.prog w=.ok (.pointer none) w:=by kernel_rfl
theorem Oa (x t:Nat) (v:Value) (w:World) (h:t≠201):(Instr.typeAssert (.iface t v) x 201 true).run Tryz.prog w=.ok (.tuple #[.pointer none,false]) w:=Yj Tryz.underlying201 BM x t v w h
theorem Qk (x:Nat) (v:Value) (w:World):(Instr.typeAssert (.iface 201 v) x 201 true).run Tryz.prog w=.ok (.tuple #[v,true]) w:=YS Tryz.underlying201 x v w
theorem zl (w:World):(zeroValue 203).run Tryz.prog w=.ok (.pointer none) w:=by kernel_rfl
theorem NY (x t:Nat) (v:Value) (w:World) (h:t≠203):(Instr.typeAssert (.iface t v) x 203 true).run Tryz.prog w=.ok (.tuple #[.pointer none,false]) w:=Yj Tryz.underlying203 zl x t v w h
theorem Qs (x:Nat) (v:Value) (w:World):(Instr.typeAssert (.iface 203 v) x 203 true).run Tryz.prog w=.ok (.tuple #[v,true]) w:=YS Tryz.underlying203 x v w
theorem xU (w:World):(zeroValue 205).run Tryz.prog w=.ok (.pointer none) w:=by kernel_rfl
theorem Oh (x t:Nat) (v:Value) (w:World) (h:t≠205):(Instr.typeAssert (.iface t v) x 205 true).run Tryz.prog w=.ok (.tuple #[.pointer none,false]) w:=Yj Tryz.underlying205 xU x t v w h
theorem Qm (x:Nat) (v:Value) (w:World):(Instr.typeAssert (.iface 205 v) x 205 true).run Tryz.prog w=.ok (.tuple #[v,true]) w:=YS Tryz.underlying205 x v w
theorem xJ (w:World):(zeroValue 207).run Tryz.prog w=.ok (.pointer none) w:=by kernel_rfl
theorem Oo (x t:Nat) (v:Value) (w:World) (h:t≠207):(Instr.typeAssert (.iface t v) x 207 true).run Tryz.prog w=.ok (.tuple #[.pointer none,false]) w:=Yj Tryz.underlying207 xJ x t v w h
theorem Qq (x:Nat) (v:Value) (w:World):(Instr.typeAssert (.iface 207 v) x 207 true).run Tryz.prog w=.ok (.tuple #[v,true]) w:=YS Tryz.underlying207 x v w
theorem BH (w:World):(zeroValue 209).run Tryz.prog w=.ok (.pointer none) w:=by kernel_rfl
theorem N7 (x t:Nat) (v:Value) (w:World) (h:t≠209):(Instr.typeAssert (.iface t v) x 209 true).run Tryz.prog w=.ok (.tuple #[.pointer none,false]) w:=Yj Tryz.underlying209 BH x t v w h
theorem QI (x:Nat) (v:Value) (w:World):(Instr.typeAssert (.iface 209 v) x 209 true).run Tryz.prog w=.ok (.tuple #[v,true]) w:=YS Tryz.underlying209 x v w
theorem AP (w:World):(zeroValue 147).run Tryz.prog w=.ok (.pointer none) w:=by kernel_rfl
theorem RU (x t:Nat) (v:Value) (w:World) (h:t≠147):(Instr.typeAssert (.iface t v) x 147 true).run Tryz.prog w=.ok (.tuple #[.pointer none,false]) w:=Yj Tryz.underlying147 AP x t v w h
theorem QO (x:Nat) (v:Value) (w:World):(Instr.typeAssert (.iface 147 v) x 147 true).run Tryz.prog w=.ok (.tuple #[v,true]) w:=YS Tryz.underlying147 x v w
theorem xM (w:World):(zeroValue 184).run Tryz.prog w=.ok (.pointer none) w:=by kernel_rfl
theorem Ox (x t:Nat) (v:Value) (w:World) (h:t≠184):(Instr.typeAssert (.iface t v) x 184 true).run Tryz.prog w=.ok (.tuple #[.pointer none,false]) w:=Yj Tryz.underlying184 xM x t v w h
theorem PS (x:Nat) (v:Value) (w:World):(Instr.typeAssert (.iface 184 v) x 184 true).run Tryz.prog w=.ok (.tuple #[v,true]) w:=YS Tryz.underlying184 x v w
theorem QY (x:Nat) (v:Value) (w:World):(Instr.typeAssert (.iface 172 v) x 172 false).run Tryz.prog w=.ok v w:=NP Tryz.underlying172 x v w
theorem Vu (x:Nat) (v:Value) (w:World):(Instr.typeAssert (.iface 227 v) x 227 false).run Tryz.prog w=.ok v w:=NP Tryz.underlying227 x v w
theorem Ub (x:Nat) (v:Value) (w:World):(Instr.typeAssert (.iface 237 v) x 237 false).run Tryz.prog w=.ok v w:=NP Tryz.underlying237 x v w
end
section
def JK:Code->Option Code
 | .scope c=>some c
 | .seq a b=>match JK a with
  |some c=>some c
  |none=>JK b
 |_=>none
def qN:Code->Code
 | .seq .skip c=>c
 |c=>c
noncomputable def Yo:Code:=qN (((Tryz.f85.body.bind JK).bind (findLabel · 0)).getD .skip)
def PO (b:Nat) (u:Value):Array Value:= #[Value.pointer (some ⟨b,0,none⟩),u,Go.undef,Go.undef,Value.pointer none,Go.undef,Go.undef,Go.undef,Go.undef,Go.undef,Go.undef,Go.undef,Go.undef,Go.undef,Go.undef,Go.undef,Go.undef,Go.undef,Go.undef,Go.undef,Go.undef,Go.undef,Go.undef,Go.undef,Go.undef,Go.undef,Go.undef,Go.undef,Go.undef,Go.undef,Go.undef,Go.undef,Go.undef,Go.undef,Go.undef,Go.undef,Go.undef,Go.undef,Go.undef,Go.undef,Go.undef,Go.undef,Go.undef,Go.undef,Go.undef,Go.undef,Go.undef,Go.undef,Go.undef,Go.undef,Go.undef,Go.undef,Go.undef,Go.undef,Go.undef,Go.undef,Go.undef,Go.undef,Go.undef,Go.undef,Go.undef,Go.undef,Go.undef,Go.undef,Go.undef,Go.undef,Go.undef,Go.undef,Go.undef,Go.undef,Go.undef,Go.undef,Go.undef,Go.undef,Go.undef,Go.undef,Go.undef,Go.undef,Go.undef,Go.undef,Go.undef,Go.undef,Go.undef,Go.undef,Go.undef,Go.undef,Go.undef,Go.undef,Go.undef,Go.undef,Go.undef,Go.undef,Go.undef,Go.undef,Go.undef,Go.undef,Go.undef,Go.undef,Go.undef,Go.undef,Go.undef,Go.undef,Go.undef,Go.undef,Go.undef,Go.undef,Go.undef,Go.undef,Go.undef,Go.undef,Go.undef,Go.undef,Go.undef,Go.undef,Go.undef,Go.undef,Go.undef,Go.undef,Go.undef,Go.undef,Go.undef,Go.undef,Go.undef,Go.undef,Go.undef,Go.undef,Go.undef,Go.undef,Go.undef,Go.undef,Go.undef,Go.undef,Go.undef,Go.undef,Go.undef,Go.undef,Go.undef,Go.undef,Go.undef,Go.undef,Go.undef,Go.undef,Go.undef,Go.undef,Go.undef,Go.undef,Go.undef,Go.undef,Go.undef,Go.undef,Go.undef,Go.undef,Go.undef,Go.undef,Go.undef,Go.undef,Go.undef,Go.undef,Go.undef,Go.undef,Go.undef,Go.undef,Go.undef,Go.undef,Go.undef,Go.undef,Go.undef,Go.undef,Go.undef,Go.undef,Go.undef,Go.undef,Go.undef,Go.undef,Go.undef,Go.undef,Go.undef,Go.undef,Go.undef,Go.undef,Go.undef,Go.undef,Go.undef,Go.undef,Go.undef,Go.undef,Go.undef,Go.undef,Go.undef,Go.undef,Go.undef,Go.undef,Go.undef,Go.undef,Go.undef,Go.undef,Go.undef,Go.undef,Go.undef,Go.undef,Go.undef,Go.undef,Go.undef,Go.undef,Go.undef,Go.undef,Go.undef,Go.undef,Go.undef,Go.undef,Go.undef,Go.undef,Go.undef,Go.undef,Go.undef,Go.undef,Go.undef,Go.undef,Go.undef,Go.undef,Go.undef,Go.undef,Go.undef,Go.undef,Go.undef,Go.undef,Go.undef,Go.undef,Go.undef,Go.undef,Go.undef,Go.undef,Go.undef,Go.undef,Go.undef,Go.undef,Go.undef,Go.undef,Go.undef,Go.undef,Go.undef,Go.undef,Go.undef,Go.undef,Go.undef,Go.undef,Go.undef,Go.undef,Go.undef,Go.undef,Go.undef,Go.undef,Go.undef,Go.undef,Go.undef,Go.undef,Go.undef,Go.undef,Go.undef,Go.undef,Go.undef,Go.undef,Go.undef,Go.undef,Go.undef,Go.undef,Go.undef,Go.undef,Go.undef,Go.undef,Go.undef,Go.undef,Go.undef,Go.undef,Go.undef,Go.undef,Go.undef,Go.undef,Go.undef,Go.undef,Go.undef,Go.undef,Go.undef,Go.undef,Go.undef,Go.undef,Go.undef,Go.undef,Go.undef,Go.undef,Go.undef,Go.undef,Go.undef,Go.undef,Go.undef,Go.undef,Go.undef,Go.undef,Go.undef,Go.undef,Go.undef,Go.undef,Go.undef,Go.undef,Go.undef,Go.undef,Go.undef,Go.undef,Go.undef,Go.undef,Go.undef]
def WI (b a l ga la:Nat) (u:Value):Array Value:= #[Value.pointer (some ⟨b,0,none⟩),u,Go.undef,Go.undef,Value.pointer (some ⟨l,0,none⟩),Go.undef,Go.undef,Go.undef,Go.undef,Go.undef,Go.undef,Go.undef,Go.undef,Go.undef,Go.undef,Go.undef,Value.pointer (some ⟨a,0,none⟩),Go.undef,Go.undef,Go.undef,Go.undef,Go.undef,Go.undef,Go.undef,Go.undef,Go.undef,Go.undef,Go.undef,Go.undef,Go.undef,Value.iface 186 (Value.pointer (some ⟨a,0,none⟩)),Go.undef,Value.tuple #[Value.pointer none,Value.bool false],Value.bool false,Value.pointer none,Value.tuple #[Value.pointer none,Value.bool false],Value.bool false,Value.pointer none,Value.tuple #[Value.pointer none,Value.bool false],Value.bool false,Value.pointer none,Value.tuple #[Value.pointer none,Value.bool false],Value.bool false,Value.pointer none,Value.tuple #[Value.pointer none,Value.bool false],Value.bool false,Value.pointer none,Value.tuple #[Value.pointer none,Value.bool false],Value.bool false,Value.pointer none,Value.bool false,Value.bool false,Value.bool false,Value.bool false,Value.bool false,Go.undef,Go.undef,Go.undef,Value.tuple #[Value.pointer none,Value.bool false],Value.bool false,Value.pointer none,Go.undef,Go.undef,Go.undef,Go.undef,Go.undef,Go.undef,Go.undef,Go.undef,Go.undef,Go.undef,Value.tuple #[Value.pointer none,Value.bool false],Value.bool false,Value.pointer none,Go.undef,Go.undef,Go.undef,Go.undef,Go.undef,Go.undef,Go.undef,Go.undef,Go.undef,Go.undef,Go.undef,Go.undef,Go.undef,Go.undef,Go.undef,Go.undef,Go.undef,Go.undef,Go.undef,Go.undef,Go.undef,Go.undef,Go.undef,Go.undef,Go.undef,Go.undef,Go.undef,Go.undef,Go.undef,Value.tuple #[Value.pointer none,Value.bool false],Value.bool false,Value.pointer none,Go.undef,Go.undef,Go.undef,Go.undef,Go.undef,Go.undef,Go.undef,Go.undef,Go.undef,Go.undef,Go.undef,Go.undef,Go.undef,Go.undef,Go.undef,Go.undef,Go.undef,Go.undef,Go.undef,Go.undef,Go.undef,Go.undef,Go.undef,Go.undef,Go.undef,Go.undef,Go.undef,Go.undef,Go.undef,Go.undef,Value.tuple #[Value.pointer (some ⟨a,0,none⟩),Value.bool true],Value.bool true,Value.pointer (some ⟨a,0,none⟩),Value.pointer (some ⟨b,0,none⟩),Value.pointer (some ⟨a,0,none⟩),Value.pointer (some ⟨a,0,none⟩),Value.pointer (some ⟨a,0,none⟩),Value.pointer (some ⟨la,0,none⟩),Value.pointer (some ⟨a,0,none⟩),Value.pointer (some ⟨l,0,none⟩),Value.pointer (some ⟨b,0,none⟩),Value.pointer (some ⟨l,0,none⟩),Value.pointer (some ⟨l,0,none⟩),Value.pointer (some ⟨l,0,none⟩),Value.pointer (some ⟨ga,0,none⟩),Value.tuple #[],Value.pointer (some ⟨b,0,none⟩),Value.pointer (some ⟨l,0,none⟩),Value.pointer (some ⟨l,0,none⟩),Value.pointer (some ⟨l,0,none⟩),Value.pointer (some ⟨ga,0,none⟩),Value.pointer (some ⟨b,0,none⟩),Value.pointer (some ⟨b,2,none⟩),Value.pointer (some ⟨a,0,none⟩),Value.pointer (some ⟨a,0,none⟩),Value.pointer (some ⟨a,2,none⟩),u,Go.undef,Go.undef,Go.undef,Go.undef,Go.undef,Go.undef,Go.undef,Go.undef,Go.undef,Go.undef,Go.undef,Go.undef,Go.undef,Go.undef,Go.undef,Go.undef,Go.undef,Go.undef,Go.undef,Go.undef,Go.undef,Go.undef,Go.undef,Go.undef,Go.undef,Go.undef,Go.undef,Go.undef,Go.undef,Go.undef,Go.undef,Go.undef,Go.undef,Go.undef,Go.undef,Go.undef,Go.undef,Go.undef,Go.undef,Go.undef,Go.undef,Go.undef,Go.undef,Go.undef,Go.undef,Go.undef,Go.undef,Go.undef,Go.undef,Go.undef,Go.undef,Go.undef,Go.undef,Go.undef,Go.undef,Go.undef,Go.undef,Go.undef,Go.undef,Go.undef,Go.undef,Go.undef,Go.undef,Go.undef,Go.undef,Go.undef,Go.undef,Go.undef,Go.undef,Go.undef,Go.undef,Go.undef,Go.undef,Go.undef,Go.undef,Go.undef,Go.undef,Go.undef,Go.undef,Go.undef,Go.undef,Go.undef,Go.undef,Go.undef,Go.undef,Go.undef,Go.undef,Go.undef,Go.undef,Go.undef,Go.undef,Go.undef,Go.undef,Go.undef,Go.undef,Go.undef,Go.undef,Go.undef,Go.undef,Go.undef,Go.undef,Go.undef,Go.undef,Go.undef,Go.undef,Go.undef,Go.undef,Go.undef,Go.undef,Go.undef,Go.undef,Go.undef,Go.undef,Go.undef,Go.undef,Go.undef,Go.undef,Go.undef,Go.undef,Go.undef,Go.undef,Go.undef,Go.undef,Go.undef,Go.undef,Go.undef,Go.undef,Go.undef,Go.undef,Go.undef,Go.undef,Go.undef,Go.undef,Go.undef,Go.undef,Go.undef,Go.undef,Go.undef,Go.undef,Go.undef,Go.undef,Go.undef,Go.undef,Go.undef,Go.undef,Go.undef,Go.undef,Go.undef]
def Lj (L:List Nat) (v:Value) (lab:Option Nat):Prop:=(lab=none∧v=.pointer none)∨ ∃ j l,lab=some j∧v=.pointer (some ⟨l,0,none⟩)∧L[j]? =some l
theorem U3 {b:Nat} {w:World} {Post:World->Prop} {u:Value} (hu: ∃ t p,u=.iface t p)
  (hw: ∀ Q:Exit->Act->World->Prop,(∀ a w',a.defers= []->Post w'->Q .normal a w')->Code.wp Tryz.prog Yo Q ⟨PO b u,[]⟩ w):
  Calls Tryz.prog 85 #[b,u] w fun e w'=>e=.returned (.tuple #[])∧Post w':=by
 obtain⟨t,p,rfl⟩:=hu;have Hw:=Z9 hw;clear hw;go_enter Tryz.func85,Tryz.ntmps85;go_wp2_with fail
 go_step3
 go_wp2_with fail
 go_step3
 rename_i K hK;have key:=Hw.out;unfold PO at key;conv at key=>enter [Q,h];arg 2;whnf
 refine hK _ _ (key _ ?_);intro a w' hd hp;exact(show bodyPost Tryz.prog Tryz.f85 (fun e w'=>e=.returned (.tuple #[])∧Post w') .normal a w' from bodyPost_end (v:=.tuple #[]) (results_none rfl _ _ _) hd ⟨rfl,hp⟩)
end
end Go.Proofs.YteedbaejpdjilaaGreat
