/- Part of the proof: BldI BldJ BldK BldL BldM BldN BldO. -/
import Derived.Test.YteedbaejpdjilaaGreatYPh
import Derived.Deep.LoopGhost
import Derived.BigFrame
import Derived.ScopeJumps
set_option linter.all false
set_option maxRecDepth 100000
set_option maxHeartbeats 40000000
namespace Go.Proofs.YteedbaejpdjilaaGreat
open Go.RowKit Tryz
section
theorem Zx {A A':List Nat} (h:A <+:A') {i a:Nat} (ha:A[i]? =some a):A'[i]? =some a:=by
 obtain⟨r,rfl⟩:=h;rw[ZP (Z1.1 ha).1];exact ha
theorem Xd.xt {w:World} {B b b0:Nat} {A:List Nat} {NV:List Value} {L:List Nat} {S:BS} {tg uB:List Tg} {M:Mk} (h:Xd w B b b0 A NV L S tg M) {v:Value} (hv:Qa (Hv w 0) A uB v):
  Xd (w.setCell ⟨b,4,none⟩ v) B b b0 A NV L S uB M/\Fr bT B w (w.setCell ⟨b,4,none⟩ v):=by
 obtain⟨bv,cv,mv,tv,hb,hbv,hcv,hlv,UH⟩:=h.self;have f:Fr [136] B w (w.setCell ⟨b,4,none⟩ v):=(Fr.refl _ _ _).X9 _ _ hb.ty (by decide) h.hB;have f2:Fr bT B w (w.setCell ⟨b,4,none⟩ v):=f.mono (by decide) (Z7 _);have o:Only [b] w (w.setCell ⟨b,4,none⟩ v):=(Only.refl _ _).set _ _ (.inl (by simp));have hA:A <+:A:=⟨[],by simp⟩
 have nX: ∀ x t,Zq w x t->t≠136->x∉ [b]:=by
  intro x t hx h1 hc;simp at hc;exact Zq.ne hx hb.ty h1 hc
 refine⟨⟨h.hB,h.US,h.VU,h.nodup,h.base,h.apart,fun i k nv hk hn=>?_,h.Bw.fr f (by decide),?_⟩,f2⟩
 .exact(h.Z6 i k nv hk hn).only o f2 hA (fun a ha=>nX a 99 (h.Bv a (ZY ha)) (by decide)) (fun g hg=>nX g 104 (h.Jx nv (ZY hn) g hg) (by decide))
 .refine⟨bv,cv,mv,v,hb.set 4 v,ZE f hbv (by decide),hcv,hlv.only o hA (fun l hl=>nX l 193 (hlv.ty l hl) (by decide)) (fun mb hmb hc=>?_),hv.mono (Hv.bT f2) hA⟩;simp at hc;exact hlv.W5 hmb hb.ty hc
theorem Xd.leB {w:World} {B b b0:Nat} {A:List Nat} {NV:List Value} {L:List Nat} {S:BS} {tg:List Tg} {M:Mk} (h:Xd w B b b0 A NV L S tg M):B<=w.heap.size/\b < w.heap.size:=by
 obtain⟨bv,cv,mv,tv,hb,_⟩:=h.self;have:=hb.lt;have:=h.hB;omega
theorem Xd.alloc {w:World} {B b b0:Nat} {A:List Nat} {NV:List Value} {L:List Nat} {S:BS} {tg:List Tg} {M:Mk} (h:Xd w B b b0 A NV L S tg M) (o:Obj):Xd (w.alloc o) B b b0 A NV L S tg M/\Fr bT B w (w.alloc o):=
 have f:=(Fr.refl bT B w).alloc h.leB.1 o
 ⟨h.same ((Only.refl _ _).alloc _) f,f⟩
theorem FT (w:World) (o:Obj) (p:Addr) (v:Value) (h:p.block < w.heap.size):(w.alloc o).setCell p v=(w.setCell p v).alloc o:=by
 simp only[World.alloc,World.setCell];congr 1;apply Array.ext_getElem?;intro i;simp only[Array.getElem?_modify,Array.getElem?_push,Array.size_modify];by_cases h1:p.block=i
 .subst h1;have: ¬ p.block=w.heap.size:=by omega
  simp[this]
 .simp[h1]
theorem Xd.push {w:World} {B b b0:Nat} {A:List Nat} {NV:List Value} {L:List Nat} {S:BS} {tg:List Tg} {M:Mk} (h:Xd w B b b0 A NV L S tg M) {bv mk cv mv tv:Value} (hb:ZD w b [bv,mk,cv,mv,tv] 136) {t:Tg} {v1 v2 v3:Value} (h1:Zc A v1 t.brk) (h2:Zc A v2 t.cnt) (h3:Zc A v3 t.Xw):
  Xd ((w.setCell ⟨b,4,none⟩ (.pointer (some ⟨w.heap.size,0,none⟩))).alloc (.cells [tv,v1,v2,v3].toArray 223)) B b b0 A NV L S (t::tg) M/\Fr bT B w ((w.setCell ⟨b,4,none⟩ (.pointer (some ⟨w.heap.size,0,none⟩))).alloc (.cells [tv,v1,v2,v3].toArray 223)):=by
 obtain⟨AB,AA,mv',oS,hb',_,_,_,UH⟩:=h.self;obtain⟨he,_⟩:=hb.inj hb';obtain rfl:tv=oS:=by simp at he;exact he.2.2.2.2
 obtain⟨ha,fa⟩:=h.alloc (.cells [tv,v1,v2,v3].toArray 223);rw[<-FT w _ _ _ hb.lt];obtain⟨hs,fs⟩:=ha.xt (uB:=t::tg) (v:=.pointer (some ⟨w.heap.size,0,none⟩)) ⟨w.heap.size,tv,v1,v2,v3,rfl,⟨Nat.zero_le _,by decide,ZD.new w _ _⟩,h1,h2,h3,UH.mono (Hv.bT fa) ⟨[],by simp⟩⟩;exact⟨hs,fa.trans fs⟩
theorem Xd.O9 {w:World} {B b b0:Nat} {A:List Nat} {NV:List Value} {L:List Nat} {S:BS} {tg:List Tg} {M:Mk} (h:Xd w B b b0 A NV L S tg M) {g ga:Nat} {k:Bk} (hk:S.Z6[g]? =some k) (hga:A[g]? =some ga):
  Xd (w.setCell ⟨ga,4,none⟩ (.bool true)) B b b0 A NV L (S.set g { k with Yz:=true }) tg M/\Fr bT B w (w.setCell ⟨ga,4,none⟩ (.bool true)):=by
 have hlt:=(Z1.1 hk).1;have hln:g < NV.length:=by have:=h.VU;omega
 have V9:NV[g]? =some NV[g]:=Z9 hln;obtain⟨a',sv,p0,p1,ns,g1,g2,g3,g4,g5,g6,g7,g8,g9⟩:=h.Z6 g k _ hk V9;rw[hga]at g1;cases g1;have hBa:=h.base ga (ZY hga);have f2:Fr bT B w (w.setCell ⟨ga,4,none⟩ (.bool true)):=(Fr.refl _ _ _).X9 _ _ g2.ty (by decide) hBa;have o2:Only [ga] w (w.setCell ⟨ga,4,none⟩ (.bool true)):=(Only.refl _ _).set _ _ (.inl (by simp))
 have hU:=h.upd (UR:=NV[g]) hga V9 o2 f2 (fun x hx=>.inl (by simpa using hx)) (k':= { k with Yz:=true })
  ⟨ga,sv,p0,p1,ns,hga,g2.set 4 (.bool true),YX o2 g3 (fun x hx hc=>Zq.ne (h.Jx _ (ZY V9) x hx) g2.ty (by decide) (by simpa using hc)),g4,fun j v n e1 e2=>(g5 j v n e1 e2).mono (Hv.bT f2),g6.mono (Hv.bT f2),g7,g8,g9⟩ (fun x hx=>.inl hx)
 have eN:NV.set g NV[g]=NV:=by simp
 rw[eN]at hU;exact⟨hU,f2⟩
theorem Xd.D6 {w:World} {B b b0:Nat} {A:List Nat} {NV:List Value} {L:List Nat} {S:BS} {tg:List Tg} {M:Mk} (h:Xd w B b b0 A NV L S tg M) {j l:Nat} {s:ByteArray} {x:Lb} (hj:S.ZT[j]? =some (s,x)) (hl:L[j]? =some l) {o:Nat} {v:Value} {f:Lb->Lb}
  (hf: ∀ gv bv cv,Zc A gv (some x.go)->Zc A bv x.brk->Zc A cv x.cnt-> ∃ ie AB AA,[gv,bv,cv].set o v= [ie,AB,AA]/\Zc A ie (some (f x).go)/\Zc A AB (f x).brk/\Zc A AA (f x).cnt):
  Xd (w.setCell ⟨l,o,none⟩ v) B b b0 A NV L (S.W0 j f) tg M/\Fr bT B w (w.setCell ⟨l,o,none⟩ v):=by
 obtain⟨bv,cv,mv,tv,hb,hbv,hcv,hlv,UH⟩:=h.self;have hlm:=ZY hl;have hlt:=hlv.ty l hlm;obtain⟨l1,l2,l3,l4,l5⟩:=hlv;have f1:Fr [193] B w (w.setCell ⟨l,o,none⟩ v):=(Fr.refl _ _ _).X9 _ _ hlt (by decide) (l3 l hlm);have f2:Fr bT B w (w.setCell ⟨l,o,none⟩ v):=f1.mono (by decide) (Z7 _);have oo:Only [l] w (w.setCell ⟨l,o,none⟩ v):=(Only.refl _ _).set _ _ (.inl (by simp));have hA:A <+:A:=⟨[],by simp⟩
 have nX: ∀ x t,Zq w x t->t≠193->x∉ [l]:=by
  intro x t hx h1 hc;simp at hc;exact Zq.ne hx hlt h1 hc
 refine⟨⟨h.hB,h.US,h.VU,h.nodup,h.base,h.apart,fun i k nv hk hn=>?_,h.Bw.fr f1 (by decide),?_⟩,f2⟩
 .exact(h.Z6 i k nv hk hn).only oo f2 hA (fun a ha=>nX a 99 (h.Bv a (ZY ha)) (by decide)) (fun g hg=>nX g 104 (h.Jx nv (ZY hn) g hg) (by decide))
 .refine⟨bv,cv,mv,tv,hb.fr f1 (by decide),ZE f1 hbv (by decide),hcv,⟨by simpa [BS.W0]using l1,l2,l3,?_,?_⟩,UH.mono (Hv.bT f2) hA⟩
  .intro j' l' s' x' e1 e2;by_cases hjj:j'=j
   .subst hjj;rw[hl]at e1;cases e1;simp only[BS.W0,Y5,hj]at e2;simp at e2;obtain⟨rfl,rfl⟩:=e2;obtain⟨gv,o9,qw,q1,q2,q3,q4⟩:=l4 j' l s x hl hj;obtain⟨ie,AB,AA,r1,r2,r3,r4⟩:=hf gv o9 qw q2 q3 q4;have:=q1.set o v;rw[r1]at this;exact⟨ie,AB,AA,this,r2,r3,r4⟩
   .have e2':S.ZT[j']? =some (s',x'):=by
     simp only[BS.W0,Y5]at e2;have: ¬ j=j':=fun e=>hjj e.symm;simpa [this]using e2
    obtain⟨gv,o9,qw,q1,q2,q3,q4⟩:=l4 j' l' s' x' e1 e2';have hne:l'≠l:=fun e=>hjj (by
     subst e;exact(List.getElem?_inj (Z1.1 e1).1 l2).1 (e1.trans hl.symm))
    exact⟨gv,o9,qw,q1.only oo (by simpa using hne),q2,q3,q4⟩
  .rcases l5 with⟨r1,r2⟩ |⟨mb,es,ck,r1,r2,r3,r4⟩
   .refine .inl ⟨r1,?_⟩;simp[BS.W0,r2]
   .refine .inr ⟨mb,es,ck,r1,r2,?_,?_⟩
    .rw[Below.heap_setCell _ _ _ _ ?_]
     .exact r3
     .intro e;obtain⟨cs,ff,hc⟩:=hlt;simp at e;subst e;rw[r3]at hc;cases hc
    .rw[r4];apply List.ext_getElem?;intro q;simp only[BS.W0,Yt,List.zip,List.getElem?_zipWith,Y5];cases S.ZT[q]? with
     |none=>simp
     |some y=>
      cases L[q]? with
      |none=>simp
      |some z=>
       by_cases hq:j=q<;>simp[hq]
def BX (w:World) (B b b0:Nat) (A L:List Nat) (S:BS) (tg:List Tg) (M:Mk):Prop:= ∃ NV,Xd w B b b0 A NV L S tg M
def X8 (w w':World) (B b b0:Nat) (A L:List Nat) (S:BS) (tg:List Tg) (M:Mk):Prop:= ∃ A' L',A <+:A'/\L <+:L'/\BX w' B b b0 A' L' S tg M/\Fr bT B w w'
theorem ZB (A:List Nat):A <+:A:=⟨[],by simp⟩
theorem U7 {S S':BS} {f:Bk->Option Bk} (h:S.Qs f=some S'): ∃ c k k',S.cur=some c/\S.Z6[c]? =some k/\f k=some k'/\S'=S.set c k':=by
 unfold BS.Qs at h;simp only[Z8,ZX]at h;obtain⟨c,hc,k,hk,k',hk',rfl⟩:=h;exact⟨c,k,k',hc,hk,hk',rfl⟩
theorem TD {S S':BS} {k:Int} {o:Option Int} (h:S.newP k o=some S'):S.Z6.length<=100000/\S'=S.new k o:=by
 unfold BS.newP at h;split at h
 .next hn=>exact⟨hn,by simpa using h.symm⟩
 .cases h
theorem F' {S S':BS} {n:Vt} (h:S.Yk n=some S'): ∃ c k,S.cur=some c/\S.Z6[c]? =some k/\k.nodes.length<=100000/\S'=S.set c { k with nodes:=k.nodes++ [n] } :=by
 obtain⟨c,k,k',hc,hk,hf,rfl⟩:=U7 h;split at hf
 .next hn=>exact⟨c,k,hc,hk,hn,by simp at hf;rw[hf]⟩
 .cases hf
theorem QP {S S':BS} (h:S.UG=some S'): ∃ c k,S.cur=some c/\S.Z6[c]? =some k/\S'=S.set c { k with Yz:=true } :=by
 obtain⟨c,k,k',hc,hk,hf,rfl⟩:=U7 h;exact⟨c,k,hc,hk,by simp at hf;rw[hf]⟩
theorem O8 {S S':BS} {t:Nat} (h:S.YG t=some S'): ∃ c k,S.cur=some c/\S.Z6[c]? =some k/\k.succs= []/\t < S.Z6.length/\S'=(S.set c { k with succs:= [t] }).Nh:=by
 unfold BS.YG at h;rw[ZX]at h;obtain⟨S1,h1,rfl⟩:=h;obtain⟨c,k,k',hc,hk,hf,rfl⟩:=U7 h1;split at hf
 .next hn=>exact⟨c,k,hc,hk,hn.1,hn.2,by simp at hf;rw[hf]⟩
 .cases hf
theorem D5 {S S':BS} {t t2:Nat} (h:S.Lx t t2=some S'): ∃ c k,S.cur=some c/\S.Z6[c]? =some k/\k.succs= []/\t < S.Z6.length/\t2 < S.Z6.length/\S'=(S.set c { k with succs:= [t,t2] }).Nh:=by
 unfold BS.Lx at h;rw[ZX]at h;obtain⟨S1,h1,rfl⟩:=h;obtain⟨c,k,k',hc,hk,hf,rfl⟩:=U7 h1;split at hf
 .next hn=>exact⟨c,k,hc,hk,hn.1,hn.2.1,hn.2.2,by simp at hf;rw[hf]⟩
 .cases hf
theorem YH {w:World} {B b b0:Nat} {A L:List Nat} {S S':BS} {tg:List Tg} {M:Mk} (h:BX w B b b0 A L S tg M) {k:Int} {o:Option Int} (hs:S.newP k o=some S') {sv:Value} (hv:X4 (Hv w 0) sv o):
  Calls prog 84 #[b,.int .u8 k,sv] w fun e w'=> ∃ a,e=.returned (.pointer (some ⟨a,0,none⟩))/\ ∃ A',A <+:A'/\A'[S.Z6.length]? =some a/\BX w' B b b0 A' L S' tg M/\Fr bT B w w':=by
 obtain⟨NV,h⟩:=h;obtain⟨hn,rfl⟩:=TD hs;refine(U8 h hn k sv o hv).mono ?_;rintro e w' ⟨a,rfl,h1,f1⟩;exact⟨a,rfl,A++ [a],⟨_,rfl⟩,by rw[<-h.US];simp,⟨_,h1⟩,f1⟩
theorem XL {w:World} {B b b0:Nat} {A L:List Nat} {S S':BS} {tg:List Tg} {M:Mk} (h:BX w B b b0 A L S tg M) {n:Vt} (hs:S.Yk n=some S') {v:Value} (hv:WL (Hv w 0) v n):
  Calls prog 86 #[b,v] w fun e w'=>e=.returned (.tuple #[])/\BX w' B b b0 A L S' tg M/\Fr bT B w w':=by
 obtain⟨NV,h⟩:=h;obtain⟨c,k,hc,hk,hn,rfl⟩:=F' hs;refine(add_any h hc hk hn v n hv).mono ?_;rintro e w' ⟨rfl,NV',h1,f1⟩;exact⟨rfl,⟨_,h1⟩,f1⟩
theorem YT {w:World} {B b b0:Nat} {A L:List Nat} {S S':BS} {tg:List Tg} {M:Mk} (h:BX w B b b0 A L S tg M) {t MO:Nat} (hs:S.YG t=some S') (ht:A[t]? =some MO):
  Calls prog 99 #[b,MO] w fun e w'=>e=.returned (.tuple #[])/\BX w' B b b0 A L S' tg M/\Fr bT B w w':=by
 obtain⟨NV,h⟩:=h;obtain⟨c,k,hc,hk,hn,_,rfl⟩:=O8 hs;refine(Eb h hc hk hn ht).mono ?_;rintro e w' ⟨rfl,h1,f1⟩;exact⟨rfl,⟨_,h1⟩,f1⟩
theorem Nb {w:World} {B b b0:Nat} {A L:List Nat} {S S':BS} {tg:List Tg} {M:Mk} (h:BX w B b b0 A L S tg M) {t MO t2 at2:Nat} (hs:S.Lx t t2=some S') (ht:A[t]? =some MO) (ht2:A[t2]? =some at2):
  Calls prog 102 #[b,MO,at2] w fun e w'=>e=.returned (.tuple #[])/\BX w' B b b0 A L S' tg M/\Fr bT B w w':=by
 obtain⟨NV,h⟩:=h;obtain⟨c,k,hc,hk,hn,_,_,rfl⟩:=D5 hs;refine(Jw h hc hk hn ht ht2).mono ?_;rintro e w' ⟨rfl,h1,f1⟩;exact⟨rfl,⟨_,h1⟩,f1⟩
end
section
theorem RJ {S:BS} {s:ByteArray} {j:Nat} (h:S.Yb s=some j): ∃ x,S.ZT[j]? =some (s,x)/\ ∀ (q:Nat) (y:ByteArray × Lb),q < j->S.ZT[q]? =some y->y.1≠s:=by
 unfold BS.Yb at h;rw[List.findIdx?_eq_some_iff_getElem]at h;obtain⟨hlt,h1,h2⟩:=h;simp at h1;refine⟨S.ZT[j].2,?_,?_⟩
 .rw[Z9 hlt];congr 1;rw[<-ByteArray.ext h1]
 .intro q y hq hy e;have hq2:q < S.ZT.length:=by omega
  have:=h2 q hq;rw[Z9 hq2]at hy;simp at hy this;subst hy;exact this (by rw[e])
theorem RI {S:BS} {s:ByteArray} (h:S.Yb s=none): ∀ y∈S.ZT,y.1≠s:=by
 unfold BS.Yb at h;rw[List.findIdx?_eq_none_iff]at h;intro y hy e;have:=h y hy;simp at this;exact this (by rw[e])
theorem Ju {w:World} {B b b0:Nat} {A L:List Nat} {S:BS} {tg:List Tg} {M:Mk} (h:BX w B b b0 A L S tg M) {s:ByteArray} {r:Nat × BS} (hs:S.UQ s false=some r) {lv:Value} (hlv:Xo (Hv w 0) lv s):
  Calls prog 98 #[b,lv,.pointer none] w fun e w'=> ∃ l,e=.returned (.pointer (some ⟨l,0,none⟩))/\ ∃ A' L',A <+:A'/\L <+:L'/\L'[r.1]? =some l/\BX w' B b b0 A' L' r.2 tg M/\Fr bT B w w':=by
 obtain⟨NV,h⟩:=h;unfold BS.UQ at hs;have hl1:L.length=S.ZT.length:=by
  obtain⟨_,_,_,_,_,_,_,hl,_⟩:=h.self;exact hl.1
 cases hf:S.Yb s with
 |some j=>
  rw[hf]at hs;simp at hs;subst hs;obtain⟨x,hx,hq⟩:=RJ hf;have hjl:j < L.length:=by
   have:=(Z1.1 hx).1;omega
  refine(NK h hx (Z9 hjl) hq hlv).mono ?_;rintro e w' ⟨rfl,h1,f1⟩;exact⟨_,rfl,A,L,ZB A,ZB L,Z9 hjl,⟨_,h1⟩,f1⟩
 |none=>
  rw[hf]at hs;simp at hs;obtain⟨S1,h1,rfl⟩:=hs;obtain⟨hn,rfl⟩:=TD h1;refine(Ly h hn (RI hf) hlv).mono ?_;rintro e w' ⟨a,l,rfl,h1,f1⟩;exact⟨l,rfl,A++ [a],L++ [l],⟨_,rfl⟩,⟨_,rfl⟩,by rw[<-hl1];simp,⟨_,h1⟩,f1⟩
theorem Jt {w:World} {B b b0:Nat} {A L:List Nat} {S:BS} {tg:List Tg} {M:Mk} (h:BX w B b b0 A L S tg M) {s:ByteArray} {r:Nat × BS} (hs:S.UQ s true=some r) {lv:Value} (hlv:Xo (Hv w 0) lv s) {sa:Nat} {XH u2:Value} {s2:ByteArray} (hsa:Hv w 0 sa [XH,.int .i64 0,u2] 190) (hlv2:Xo (Hv w 0) XH s2):
  Calls prog 98 #[b,lv,sa] w fun e w'=> ∃ l,e=.returned (.pointer (some ⟨l,0,none⟩))/\ ∃ A' L',A <+:A'/\L <+:L'/\L'[r.1]? =some l/\BX w' B b b0 A' L' r.2 tg M/\Fr bT B w w':=by
 obtain⟨NV,h⟩:=h;unfold BS.UQ at hs;have hl1:L.length=S.ZT.length:=by
  obtain⟨_,_,_,_,_,_,_,hl,_⟩:=h.self;exact hl.1
 cases hf:S.Yb s with
 |some j=>
  rw[hf]at hs;simp at hs;obtain⟨x,hx,hq⟩:=RJ hf;rw[hx]at hs;simp at hs;rw[Z8]at hs;obtain⟨k,hk,hs⟩:=hs;split at hs
  .next hof=>
   simp at hs;subst hs;have hjl:j < L.length:=by
    have:=(Z1.1 hx).1;omega
   refine(RO h hx (Z9 hjl) hq hlv hk hof hsa hlv2).mono ?_;rintro e w' ⟨rfl,h1,f1⟩;exact⟨_,rfl,A,L,ZB A,ZB L,Z9 hjl,⟨_,h1⟩,f1⟩
  .cases hs
 |none=>
  rw[hf]at hs;simp at hs;obtain⟨S1,h1,rfl⟩:=hs;obtain⟨hn,rfl⟩:=TD h1;refine(PZ h hn (RI hf) hlv hsa hlv2).mono ?_;rintro e w' ⟨a,l,rfl,h1,f1⟩;exact⟨l,rfl,A++ [a],L++ [l],⟨_,rfl⟩,⟨_,rfl⟩,by rw[<-hl1];simp,⟨_,h1⟩,f1⟩
end
section
theorem Xd.oR {w w':World} {B b b0:Nat} {A:List Nat} {NV:List Value} {L:List Nat} {S:BS} {tg:List Tg} {M:Mk} (h:Xd w B b b0 A NV L S tg M) {X:List Nat} (ho:Only X w w') (hf:Fr bT B w w')
  (hX: ∀ x∈X,∃ t,Zq w x t/\(t=83\/t=3)) {l:List Int} (hm:ZZ w' B b0 (M.ask l)):Xd w' B b b0 A NV L { S with asked:=l } tg M:=by
 have nX: ∀ x t,Zq w x t->t≠83->t≠3->x∉X:=by
  intro x t hx h1 h2 hc;obtain⟨t',h3,h4⟩:=hX x hc;have:=Zq.inj hx h3;subst this;rcases h4 with h4|h4
  .exact h1 h4
  .exact h2 h4
 have hA:A <+:A:=⟨[],by simp⟩
 obtain⟨bv,cv,mv,tv,hb,hbv,hcv,hlv,UH⟩:=h.self
 exact⟨h.hB,h.US,h.VU,h.nodup,h.base,h.apart,fun i k nv hk hn=>(h.Z6 i k nv hk hn).only ho hf hA (fun a ha=>nX a 99 (h.Bv a (ZY ha)) (by decide) (by decide)) (fun g hg=>nX g 104 (h.Jx nv (ZY hn) g hg) (by decide) (by decide)),
  hm,⟨bv,cv,mv,tv,hb.only ho (nX _ _ hb.ty (by decide) (by decide)),YX ho hbv (fun k hk=>nX k 92 (Zg hbv hk) (by decide) (by decide)),hcv,hlv.only ho hA (fun l hl=>nX l 193 (hlv.ty l hl) (by decide) (by decide)) (fun mb hmb hc=>by
   obtain⟨t,h1,_⟩:=hX mb hc;exact hlv.W5 hmb h1 rfl),UH.mono (Hv.bT hf) hA⟩⟩
theorem info3:(prog.info? 3).map (fun i=>(i.zero,i.size,i.bytes))=some (some (.int .i64 0),1,8):=by kernel_rfl
theorem NJ {w:World} {B b b0:Nat} {A:List Nat} {NV:List Value} {L:List Nat} {S:BS} {tg:List Tg} {M:Mk} (h:Xd w B b b0 A NV L S tg M) {c n:Nat} (hc:Vb (Hv w 0) c (lp n)) (hn:n<=100000) {s:Bool} (hs:M.stops[n]? =some s) (hl:(M.asked++S.asked).length<=100000):
  Calls prog 67 #[b0,c] w fun e w'=>e=.returned (.bool (!s))/\Xd w' B b b0 A NV L (S.ask n) tg M/\Fr bT B w w':=by
 obtain⟨sv,lv,av,ps,hB,hb,hsv,hlv,hps,hnl,hav⟩:=h.Bw;have Z7H:n < M.stops.length:=(Z1.1 hs).1;obtain⟨g0,cap0,rfl⟩: ∃ g0 cap0,sv=.slice (some ⟨g0,0,none⟩) M.stops.length cap0:=by
  rcases hsv.2 with⟨_,h0⟩ |⟨g,cap,cur,hv,_⟩
  .have:M.stops.length=0:=h0;omega
  .exact⟨_,_,hv⟩
 have hcs:w.cell? ⟨g0,n,none⟩=some (.bool s):=by
  have:=ZF hsv n (by show n < M.stops.length*1;omega);rw[this];show(M.stops.map Value.bool)[n]? =_;simp[hs]
 have c4:=hb.cell 4 rfl;have c2:=hb.cell 2 rfl;have f4:=hb.free 4;have hlt:=hb.lt;have hlp:lp n=10+2*(n:Int):=rfl;have hq:(10+2*(n:Int) -10).tdiv 2=n:=by
  rw[Int.tdiv_eq_ediv_of_nonneg (by omega)];omega
 have Hl:=X7 hs hl hlp;clear hs hl;go_enter func67,ntmps67;go_wp2_with fail
 refine(Qt hc).mono ?_;rintro e w' ⟨rfl,rfl⟩;rw[hlp];clear hlp;have hal:(M.asked++S.asked).length<=100000:=Hl.out.2.1;go_wp2_with (at_builtin;refine Ze w rfl _ _ 31 rfl B 3 (.int .i64 0) 1 8 underlying31 info3 rfl (by decide) (by decide) hav (by rfl) [.int .i64 n] rfl ?c1 (by rfl) (by show(M.asked++S.asked).length<=1000000;omega) (by omega) ?_)
 case c1=>simp[Value.oneCell']
 intro g cap w1 h1 hg hat hg1;have hb1:=hb.grown hg (own_ne hav hb.ty (by decide));have oQ:w1.cell? ⟨g0,n,none⟩=some (.bool s):=by
  have hty:=Zg hsv (g:=g0) rfl;have hne:=own_ne hav hty (by decide);have hlt0:=hty.lt;unfold World.cell? at hcs ⊢;rw[hg.block g0 hlt0 hne];exact hcs
 clear c4 c2 f4 hcs;have c4:=hb1.cell 4 rfl;have f4:=hb1.free 4;have hb2:=hb1.set 4 (.slice (some ⟨g,0,none⟩) ((M.ask S.asked).asked.length+1) cap);have c2:=hb2.cell 2 rfl;have ez:g0≠b0:=Zq.ne (Zg hsv (g:=g0) rfl) hb.ty (by decide);have Z7G:(w1.setCell ⟨b0,4,none⟩ (.slice (some ⟨g,0,none⟩) ((M.ask S.asked).asked.length+1) cap)).cell? ⟨g0,n,none⟩=some (.bool s):=by
  unfold World.cell? at oQ ⊢;rw[Below.heap_setCell _ _ _ _ (by simpa using ez)];exact oQ
 go_wp2_with fail
 go_ret;have f1:Fr bT B w w1:=(Fr.refl bT B w).grown hav hg (by omega) (Z7 _) (.inl (by decide));have f2:Fr bT B w (w1.setCell ⟨b0,4,none⟩ (.slice (some ⟨g,0,none⟩) ((M.ask S.asked).asked.length+1) cap)):=f1.X9 _ _ hb1.ty (by decide) hB;have o2:Only ([b0]++av.ownBlock.toList) w (w1.setCell ⟨b0,4,none⟩ (.slice (some ⟨g,0,none⟩) ((M.ask S.asked).asked.length+1) cap)):=((Only.refl _ w).grown hg (fun k hk=>.inl (by simp[hk]))).set _ _ (.inl (by simp));have hX: ∀ x∈ [b0]++av.ownBlock.toList,∃ t,Zq w x t/\(t=83\/t=3):=by
  intro x hx;simp at hx;rcases hx with rfl|hx
  .exact⟨83,hb.ty,.inl rfl⟩
  .exact⟨3,Zg hav hx,.inr rfl⟩
 have nX: ∀ x t,Zq w x t->t≠83->t≠3->x∉ [b0]++av.ownBlock.toList:=by
  intro x t hx h1 h2 hc;obtain⟨t',h3,h4⟩:=hX x hc;have:=Zq.inj hx h3;subst this;rcases h4 with h4|h4
  .exact h1 h4
  .exact h2 h4
 refine⟨rfl,h.oR o2 f2 hX (l:=S.asked++ [(n:Int)]) ⟨_,lv,_,ps,hB,hb2,YX o2 hsv (fun k hk=>nX k 4 (Zg hsv hk) (by decide) (by decide)),YX o2 hlv (fun k hk=>nX k 217 (Zg hlv hk) (by decide) (by decide)),fun p hp=>?_,hnl,?_⟩,f2⟩
 .obtain⟨q,hq⟩:=hps p hp;exact⟨q,hq.only o2 (nX p 265 hq.ty (by decide) (by decide))⟩
 .have:=Y3 h1 ⟨b0,4,none⟩ (.slice (some ⟨g,0,none⟩) ((M.ask S.asked).asked.length+1) cap) (own_ne h1 hb1.ty (by decide));simpa [Mk.ask,Z3]using this
end
section
theorem BX.lab {w:World} {B b b0:Nat} {A L:List Nat} {S:BS} {tg:List Tg} {M:Mk} (h:BX w B b b0 A L S tg M) {j l:Nat} {y:ByteArray × Lb} (hl:L[j]? =some l) (hj:S.ZT[j]? =some y):
  ∃ gv bv cv,ZD w l [gv,bv,cv] 193/\Zc A gv (some y.2.go)/\Zc A bv y.2.brk/\Zc A cv y.2.cnt:=by
 obtain⟨NV,h⟩:=h;obtain⟨_,_,_,_,_,_,_,hlv,_⟩:=h.self;exact hlv.2.2.2.1 j l y.1 y.2 hl (by rw[hj])
theorem BX.blk {w:World} {B b b0:Nat} {A L:List Nat} {S:BS} {tg:List Tg} {M:Mk} (h:BX w B b b0 A L S tg M):
  ∃ bv cv mv tv,ZD w b [bv,.func (.func 67) #[b0] #[],cv,mv,tv] 136/\Zc A cv S.cur/\Qa (Hv w 0) A tg tv:=by
 obtain⟨NV,h⟩:=h;obtain⟨bv,cv,mv,tv,hb,_,hc,_,ht⟩:=h.self;exact⟨bv,cv,mv,tv,hb,hc,ht⟩
theorem BX.setCur {w:World} {B b b0:Nat} {A L:List Nat} {S:BS} {tg:List Tg} {M:Mk} (h:BX w B b b0 A L S tg M) {a c:Nat} (ha:A[c]? =some a):
  BX (w.setCell ⟨b,2,none⟩ (.pointer (some ⟨a,0,none⟩))) B b b0 A L (S.at c) tg M/\Fr bT B w (w.setCell ⟨b,2,none⟩ (.pointer (some ⟨a,0,none⟩))):=by
 obtain⟨NV,h⟩:=h;obtain⟨h1,f1⟩:=h.setCur (v:=.pointer (some ⟨a,0,none⟩)) (c:=some c) ⟨a,ha,rfl⟩;exact⟨⟨NV,h1⟩,f1.mono (by decide) (Z7 _)⟩
theorem X8.of {w w':World} {B b b0:Nat} {A A' L L':List Nat} {S:BS} {tg:List Tg} {M:Mk} (hA:A <+:A') (hL:L <+:L') (h:BX w' B b b0 A' L' S tg M) (f:Fr bT B w w'):X8 w w' B b b0 A L S tg M:=⟨A',L',hA,hL,h,f⟩
theorem ZW {A A' A'':List Nat} (h:A <+:A') (h':A' <+:A''):A <+:A'':=List.IsPrefix.trans h h'
theorem Zt {w w':World} {B:Nat} (f:Fr bT B w w') {a:Nat} {cs:List Value} {t:Nat} (h:Hv w 0 a cs t):Hv w' 0 a cs t:=Hv.bT f _ _ _ h
theorem YK {H:Hp} {a:Nat} {t1 l1:Value} (h:H a [.int .i64 0,t1,l1] 221):X4 H (.iface 194 (.pointer (some ⟨a,0,none⟩))) (some 0):=
 .inl ⟨a,194,221,_,rfl,by decide,h⟩
theorem O7 {w:World} {B b b0:Nat} {A L:List Nat} {S S':BS} {tg:List Tg} {M:Mk} (h:BX w B b b0 A L S tg M) {s:ByteArray} (hs0:0 < s.size) {lv:Value} (hlv:Xo (Hv w 0) lv s) {a:Nat} (ha:Hv w 0 a [.int .i64 0,.int .i64 61,lv] 221) (hs:S.Ys 17 s tg=some S'):
  Calls prog 100 #[b,a] w fun e w'=>e=.returned (.tuple #[])/\X8 w w' B b b0 A L S' tg M:=by
 unfold BS.Ys BS.aim at hs;rw[if_pos hs0]at hs;simp only[Z8,ZX]at hs;obtain⟨r,⟨q,hq,y,hy,rfl⟩,t,ht,S3,h3,h4⟩:=hs;have Lu:=hlv;obtain⟨la,lo,rfl,_⟩:=hlv;have c1:=ha.2.2.cell 1 rfl;have c2:=ha.2.2.cell 2 rfl;have Hq:=Wp hq hy ht h3 h4;clear hq hy ht h3 h4;go_enter func100,ntmps100;go_wp2_with fail
 refine(Ju h Hq.out.1 Lu).mono ?_;rintro e w1 ⟨l,rfl,A1,L1,hA1,hL1,hl1,hC,f1⟩;obtain⟨hq,hy,ht,h3,h4⟩:=Hq.out;clear Hq;obtain⟨gv,bv,cv,hbl,hg,hb1,hc1⟩:=hC.lab hl1 hy;have d1:=hbl.cell 1 rfl;have Qr:=Zt f1 ha;have HX:=Zl hA1 hL1;have HF:=Z5 f1;clear hl1 hA1 hL1 f1 c1 c2;unfold BS.newAt at h4;rw[ZX]at h4;cases hbr:y.2.brk with
 |none=>
  rw[hbr]at hb1;obtain rfl:=hb1;have Ht: ∃ Sn,q.2.newP 1 (some 0)=some Sn/\t=(q.2.Z6.length,Sn):=by
   simp[BS.aimed,hbr]at ht;obtain⟨Sn,h1,h2⟩:=ht;exact⟨Sn,h1,h2.symm⟩
  obtain⟨Sn,PK,rfl⟩:=Ht;have Hq:=X7 (show ∃ S0,q.2.newP 1 (some 0)=some S0/\S0=Sn from⟨Sn,PK,rfl⟩) h3 h4;clear hq hy ht h3 h4 hbr PK;go_wp2_with fail
  obtain⟨Sn,PK,rfl⟩:=Hq.out.1;refine(YH hC PK (YK Qr)).mono ?_;rintro e wM ⟨aM,rfl,AM,G8,hgM,hM,fM⟩;have Az:=Zt fM Qr;have HM:=Zl G8 hgM;clear G8 hgM;go_wp2_with fail
  refine(YT hM Hq.out.2.1 HM.out.2).mono ?_;rintro e wJ ⟨rfl,hJ,fJ⟩;have RW:=Zt fJ Az;go_wp2_with fail
  obtain⟨S4,hS4,rfl⟩:=Hq.out.2.2;refine(YH hJ hS4 (YK RW)).mono ?_;rintro e wN ⟨aN,rfl,AN,Vn,hgN,hN,fN⟩;obtain⟨JP,JO,JN,JM,hbN,_,_⟩:=hN.blk;have cN:=hbN.cell 2 rfl;have zN:=hbN.free 2;have HN:=Zl Vn hgN;clear Vn hgN;go_wp2_with fail
  go_end0
  obtain⟨h5,f5⟩:=hN.setCur HN.out.2;exact⟨rfl,X8.of (ZW HX.out.1 (ZW HM.out.1 HN.out.1)) HX.out.2 h5 (HF.out.trans (fM.trans (fJ.trans (fN.trans f5))))⟩
 |some d=>
  rw[hbr]at hb1;obtain⟨da,hda,rfl⟩:=hb1;have Ht:t=(d,q.2):=by
   simp[BS.aimed,hbr]at ht;exact ht.symm
  subst Ht;have G5:=Z5 hda;have Hq:=Xp hq hy h3 h4;clear hq hy ht h3 h4 hbr hda;go_wp2_with fail
  refine(YT hC Hq.out.2.2.1 G5.out).mono ?_;rintro e wJ ⟨rfl,hJ,fJ⟩;have RW:=Zt fJ Qr;go_wp2_with fail
  obtain⟨S4,hS4,rfl⟩:=Hq.out.2.2.2;refine(YH hJ hS4 (YK RW)).mono ?_;rintro e wN ⟨aN,rfl,AN,Vn,hgN,hN,fN⟩;obtain⟨JP,JO,JN,JM,hbN,_,_⟩:=hN.blk;have cN:=hbN.cell 2 rfl;have zN:=hbN.free 2;have HN:=Zl Vn hgN;clear Vn hgN;go_wp2_with fail
  go_end0
  obtain⟨h5,f5⟩:=hN.setCur HN.out.2;exact⟨rfl,X8.of (ZW HX.out.1 HN.out.1) HX.out.2 h5 (HF.out.trans (fJ.trans (fN.trans f5)))⟩
theorem O6 {w:World} {B b b0:Nat} {A L:List Nat} {S S':BS} {tg:List Tg} {M:Mk} (h:BX w B b b0 A L S tg M) {s:ByteArray} (hs0:0 < s.size) {lv:Value} (hlv:Xo (Hv w 0) lv s) {a:Nat} (ha:Hv w 0 a [.int .i64 0,.int .i64 65,lv] 221) (hs:S.Ys 18 s tg=some S'):
  Calls prog 100 #[b,a] w fun e w'=>e=.returned (.tuple #[])/\X8 w w' B b b0 A L S' tg M:=by
 unfold BS.Ys BS.aim at hs;rw[if_pos hs0]at hs;simp only[Z8,ZX]at hs;obtain⟨r,⟨q,hq,y,hy,rfl⟩,t,ht,S3,h3,h4⟩:=hs;have Lu:=hlv;obtain⟨la,lo,rfl,_⟩:=hlv;have c1:=ha.2.2.cell 1 rfl;have c2:=ha.2.2.cell 2 rfl;have Hq:=Wp hq hy ht h3 h4;clear hq hy ht h3 h4;go_enter func100,ntmps100;go_wp2_with fail
 refine(Ju h Hq.out.1 Lu).mono ?_;rintro e w1 ⟨l,rfl,A1,L1,hA1,hL1,hl1,hC,f1⟩;obtain⟨hq,hy,ht,h3,h4⟩:=Hq.out;clear Hq;obtain⟨gv,bv,cv,hbl,hg,hb1,hc1⟩:=hC.lab hl1 hy;have d1:=hbl.cell 2 rfl;have Qr:=Zt f1 ha;have HX:=Zl hA1 hL1;have HF:=Z5 f1;clear hl1 hA1 hL1 f1 c1 c2;unfold BS.newAt at h4;rw[ZX]at h4;cases hbr:y.2.cnt with
 |none=>
  rw[hbr]at hc1;obtain rfl:=hc1;have Ht: ∃ Sn,q.2.newP 1 (some 0)=some Sn/\t=(q.2.Z6.length,Sn):=by
   simp[BS.aimed,hbr]at ht;obtain⟨Sn,h1,h2⟩:=ht;exact⟨Sn,h1,h2.symm⟩
  obtain⟨Sn,PK,rfl⟩:=Ht;have Hq:=X7 (show ∃ S0,q.2.newP 1 (some 0)=some S0/\S0=Sn from⟨Sn,PK,rfl⟩) h3 h4;clear hq hy ht h3 h4 hbr PK;go_wp2_with fail
  obtain⟨Sn,PK,rfl⟩:=Hq.out.1;refine(YH hC PK (YK Qr)).mono ?_;rintro e wM ⟨aM,rfl,AM,G8,hgM,hM,fM⟩;have Az:=Zt fM Qr;have HM:=Zl G8 hgM;clear G8 hgM;go_wp2_with fail
  refine(YT hM Hq.out.2.1 HM.out.2).mono ?_;rintro e wJ ⟨rfl,hJ,fJ⟩;have RW:=Zt fJ Az;go_wp2_with fail
  obtain⟨S4,hS4,rfl⟩:=Hq.out.2.2;refine(YH hJ hS4 (YK RW)).mono ?_;rintro e wN ⟨aN,rfl,AN,Vn,hgN,hN,fN⟩;obtain⟨JP,JO,JN,JM,hbN,_,_⟩:=hN.blk;have cN:=hbN.cell 2 rfl;have zN:=hbN.free 2;have HN:=Zl Vn hgN;clear Vn hgN;go_wp2_with fail
  go_end0
  obtain⟨h5,f5⟩:=hN.setCur HN.out.2;exact⟨rfl,X8.of (ZW HX.out.1 (ZW HM.out.1 HN.out.1)) HX.out.2 h5 (HF.out.trans (fM.trans (fJ.trans (fN.trans f5))))⟩
 |some d=>
  rw[hbr]at hc1;obtain⟨da,hda,rfl⟩:=hc1;have Ht:t=(d,q.2):=by
   simp[BS.aimed,hbr]at ht;exact ht.symm
  subst Ht;have G5:=Z5 hda;have Hq:=Xp hq hy h3 h4;clear hq hy ht h3 h4 hbr hda;go_wp2_with fail
  refine(YT hC Hq.out.2.2.1 G5.out).mono ?_;rintro e wJ ⟨rfl,hJ,fJ⟩;have RW:=Zt fJ Qr;go_wp2_with fail
  obtain⟨S4,hS4,rfl⟩:=Hq.out.2.2.2;refine(YH hJ hS4 (YK RW)).mono ?_;rintro e wN ⟨aN,rfl,AN,Vn,hgN,hN,fN⟩;obtain⟨JP,JO,JN,JM,hbN,_,_⟩:=hN.blk;have cN:=hbN.cell 2 rfl;have zN:=hbN.free 2;have HN:=Zl Vn hgN;clear Vn hgN;go_wp2_with fail
  go_end0
  obtain⟨h5,f5⟩:=hN.setCur HN.out.2;exact⟨rfl,X8.of (ZW HX.out.1 HN.out.1) HX.out.2 h5 (HF.out.trans (fJ.trans (fN.trans f5)))⟩
theorem NI {w:World} {B b b0:Nat} {A L:List Nat} {S S':BS} {tg:List Tg} {M:Mk} (h:BX w B b b0 A L S tg M) {s:ByteArray} (hs0:0 < s.size) {lv:Value} (hlv:Xo (Hv w 0) lv s) {a:Nat} (ha:Hv w 0 a [.int .i64 0,.int .i64 73,lv] 221) (hs:S.Ys 19 s tg=some S'):
  Calls prog 100 #[b,a] w fun e w'=>e=.returned (.tuple #[])/\X8 w w' B b b0 A L S' tg M:=by
 unfold BS.Ys BS.aim at hs;rw[if_pos hs0]at hs;simp only[Z8,ZX]at hs;obtain⟨r,⟨q,hq,y,hy,rfl⟩,t,ht,S3,h3,h4⟩:=hs;have Lu:=hlv;obtain⟨la,lo,rfl,_⟩:=hlv;have c1:=ha.2.2.cell 1 rfl;have c2:=ha.2.2.cell 2 rfl;have Hq:=Wp hq hy ht h3 h4;clear hq hy ht h3 h4;go_enter func100,ntmps100;go_wp2_with fail
 refine(Ju h Hq.out.1 Lu).mono ?_;rintro e w1 ⟨l,rfl,A1,L1,hA1,hL1,hl1,hC,f1⟩;obtain⟨hq,hy,ht,h3,h4⟩:=Hq.out;clear Hq;obtain⟨gv,bv,cv,hbl,hg,hb1,hc1⟩:=hC.lab hl1 hy;have d1:=hbl.cell 0 rfl;have Qr:=Zt f1 ha;have HX:=Zl hA1 hL1;have HF:=Z5 f1;clear hl1 hA1 hL1 f1 c1 c2;unfold BS.newAt at h4;rw[ZX]at h4;have Ht:t=(y.2.go,q.2):=by
  simp[BS.aimed]at ht;exact ht.symm
 subst Ht;clear ht;obtain⟨da,hda,rfl⟩:=hg;have G5:=Z5 hda;have Hq:=Xp hq hy h3 h4;clear hq hy h3 h4 hda;go_wp2_with fail
 refine(YT hC Hq.out.2.2.1 G5.out).mono ?_;rintro e wJ ⟨rfl,hJ,fJ⟩;have RW:=Zt fJ Qr;go_wp2_with fail
 obtain⟨S4,hS4,rfl⟩:=Hq.out.2.2.2;refine(YH hJ hS4 (YK RW)).mono ?_;rintro e wN ⟨aN,rfl,AN,Vn,hgN,hN,fN⟩;obtain⟨JP,JO,JN,JM,hbN,_,_⟩:=hN.blk;have cN:=hbN.cell 2 rfl;have zN:=hbN.free 2;have HN:=Zl Vn hgN;clear Vn hgN;go_wp2_with fail
 go_end0
 obtain⟨h5,f5⟩:=hN.setCur HN.out.2;exact⟨rfl,X8.of (ZW HX.out.1 HN.out.1) HX.out.2 h5 (HF.out.trans (fJ.trans (fN.trans f5)))⟩
section
variable {w w':World} {B b b0:Nat} {A L:List Nat} {S S':BS} {tg:List Tg} {M:Mk}
theorem SD (h:BX w B b b0 A L S tg M) {k:Int} {o:Option Int} (hs:S.newP k o=some S') {sv:Value} (hv:X4 (Hv w 0) sv o):
  Calls prog 84 #[b,.int .u8 k,sv] w fun e w'=> ∃ a,e=.returned (.pointer (some ⟨a,0,none⟩))/\ ∃ A',Hid (A <+:A'/\A'[S.Z6.length]? =some a)/\BX w' B b b0 A' L S' tg M/\Fr bT B w w':=
 (YH h hs hv).mono fun _ _ ⟨a,e,A',h1,h2,h3⟩=>⟨a,e,A',⟨h1,h2⟩,h3⟩
theorem X8.hd (h:X8 w w' B b b0 A L S tg M): ∃ A' L',Hid (A <+:A'/\L <+:L')/\BX w' B b b0 A' L' S tg M/\Fr bT B w w':=
 let⟨A',L',h1,h2,h3⟩:=h;⟨A',L',⟨h1,h2⟩,h3⟩
theorem BX.sc (h:BX w B b b0 A L S tg M) {a c:Nat} (ha:A[c]? =some a): ∃ v,w.cell? ⟨b,2,none⟩=some v/\w.frozen? ⟨b,2,none⟩=false/\
  BX (w.setCell ⟨b,2,none⟩ (.pointer (some ⟨a,0,none⟩))) B b b0 A L (S.at c) tg M/\Fr bT B w (w.setCell ⟨b,2,none⟩ (.pointer (some ⟨a,0,none⟩))):=
 let⟨_,v,_,_,hb,_⟩:=h.blk;⟨v,hb.cell 2 rfl,hb.free 2,h.setCur ha⟩
theorem hv5 {B:Nat} (f:Fr bT B w w') {a:Nat} {c0 c1 c2 c3 c4:Value} {t:Nat} (h:Hv w 0 a [c0,c1,c2,c3,c4] t):Hv w' 0 a [c0,c1,c2,c3,c4] t/\w'.cell? ⟨a,1,none⟩=some c1/\w'.cell? ⟨a,2,none⟩=some c2/\w'.cell? ⟨a,3,none⟩=some c3/\w'.cell? ⟨a,4,none⟩=some c4:=
 have h:=Zt f h;⟨h,h.2.2.cell 1 rfl,h.2.2.cell 2 rfl,h.2.2.cell 3 rfl,h.2.2.cell 4 rfl⟩
theorem JL {B:Nat} (f:Fr bT B w w') {a:Nat} {c0 c1 c2 c3 c4 c5 c6 c7:Value} {t:Nat} (h:Hv w 0 a [c0,c1,c2,c3,c4,c5,c6,c7] t):Hv w' 0 a [c0,c1,c2,c3,c4,c5,c6,c7] t/\w'.cell? ⟨a,1,none⟩=some c1/\w'.cell? ⟨a,2,none⟩=some c2/\w'.cell? ⟨a,6,none⟩=some c6/\w'.cell? ⟨a,7,none⟩=some c7:=
 have h:=Zt f h;⟨h,h.2.2.cell 1 rfl,h.2.2.cell 2 rfl,h.2.2.cell 6 rfl,h.2.2.cell 7 rfl⟩
end
end
section
def Lt (w:World) (A:List Nat) (f:Tg->Option Nat) (tg:List Tg) (k:Nat) (bv tv:Value) (w':World):Prop:=w'=w/\ ∃ (ts:List Tg) (o:Option Nat),ts.length=k/\Qa (Hv w 0) A ts tv/\Zc A bv o/\o.or (ts.findSome? f)=tg.findSome? f
theorem Lt.ptr {w:World} {A:List Nat} {f:Tg->Option Nat} {tg:List Tg} {k:Nat} {bv tv:Value} {w':World} (h:Lt w A f tg k bv tv w'): ∃ pa pb,bv=.pointer pa/\tv=.pointer pb:=by
 obtain⟨_,ts,o,_,ht,ho,_⟩:=h;have h1: ∃ pa,bv=.pointer pa:=by
  cases o with
  |none=>exact⟨_,ho⟩
  |some d=>obtain⟨a,_,rfl⟩:=ho;exact⟨_,rfl⟩
 have h2: ∃ pb,tv=.pointer pb:=by
  cases ts with
  |nil=>exact⟨_,ht⟩
  |cons t ts=>obtain⟨a,tl,b1,c1,f1,rfl,_⟩:=ht;exact⟨_,rfl⟩
 obtain⟨pa,rfl⟩:=h1;obtain⟨pb,rfl⟩:=h2;exact⟨pa,pb,rfl,rfl⟩
theorem Vs {f:Tg->Option Nat} {t:Tg} {ts:List Tg} {o:Option Nat} {k:Option Nat} (h:(none:Option Nat).or ((t::ts).findSome? f)=k) (ho:f t=o):o.or (ts.findSome? f)=k:=by
 subst ho;rw[List.findSome?_cons]at h;cases hf:f t with
 |none=>simpa [hf]using h
 |some d=>simpa [hf]using h
theorem Zc.ptr {A:List Nat} {v:Value} {o:Option Nat} (h:Zc A v o): ∃ p,v=.pointer p:=by
 cases o with
 |none=>exact⟨_,h⟩
 |some d=>obtain⟨a,_,rfl⟩:=h;exact⟨_,rfl⟩
theorem Qa.ptr {H:Hp} {A:List Nat} {ts:List Tg} {v:Value} (h:Qa H A ts v): ∃ p,v=.pointer p:=by
 cases ts with
 |nil=>exact⟨_,h⟩
 |cons t ts=>obtain⟨a,tl,b1,c1,f1,rfl,_⟩:=h;exact⟨_,rfl⟩
theorem NH {w:World} {B b b0:Nat} {A L:List Nat} {S S':BS} {tg:List Tg} {M:Mk} (h:BX w B b b0 A L S tg M) {s:ByteArray} (hs0:s.size=0) {a:Nat} (ha:Hv w 0 a [.int .i64 0,.int .i64 61,.pointer none] 221) (hs:S.Ys 17 s tg=some S'):
  Calls prog 100 #[b,a] w fun e w'=>e=.returned (.tuple #[])/\X8 w w' B b b0 A L S' tg M:=by
 unfold BS.Ys BS.aim at hs;rw[if_neg (by omega)]at hs;simp only[Z8,Option.some.injEq,exists_eq_left']at hs;obtain⟨t,ht,S3,h3,h4⟩:=hs;unfold BS.newAt at h4;rw[ZX]at h4;have ht:BS.aimed (tg.findSome? Tg.brk,S)=some t:=by simpa using ht
 have c1:=ha.2.2.cell 1 rfl;have c2:=ha.2.2.cell 2 rfl;obtain⟨bv,cv,mv,tv,hb,_,SC⟩:=h.blk;have c4:=hb.cell 4 rfl;have Hq:=X7 ht h3 h4;clear ht h3 h4;go_enter func100,ntmps100;go_wp2_with fail
 go_loopg [4,6] (tg.length) (fun k bv tv wr=>Lt w A Tg.brk tg k bv tv wr)
 case atStart=>exact⟨rfl,tg,none,rfl,SC,rfl,by simp⟩
 case round=>
  obtain⟨rfl,ts,o,hk,hts,ho,hor⟩:=hrel;obtain⟨ht,h3,h4⟩:=Hq.out;clear Hq;have hC:=h;have Qr:=ha;cases o with
  |some d=>
   obtain⟨da,hda,rfl⟩:=ho;obtain⟨pb,rfl⟩:=hts.ptr;have Ht:t=(d,S):=by
    simp at hor;rw[<-hor]at ht;simp[BS.aimed]at ht;exact ht.symm
   subst Ht;have G5:=Z5 hda;have Hq:=Xp ht ht h3 h4;clear ht h3 h4 hda hor hk hts;cases pb with
   |none=>
    go_wp2_with fail
    refine(YT hC Hq.out.2.2.1 G5.out).mono ?_;rintro e wJ ⟨rfl,hJ,fJ⟩;have RW:=Zt fJ Qr;go_wp2_with fail
    obtain⟨S4,hS4,rfl⟩:=Hq.out.2.2.2;refine(YH hJ hS4 (YK RW)).mono ?_;rintro e wN ⟨aN,rfl,AN,Vn,hgN,hN,fN⟩;obtain⟨JP,JO,JN,JM,hbN,_,_⟩:=hN.blk;have cN:=hbN.cell 2 rfl;have zN:=hbN.free 2;have HN:=Zl Vn hgN;clear Vn hgN;go_wp2_with fail
    go_end0
    obtain⟨h5,f5⟩:=hN.setCur HN.out.2;exact⟨rfl,X8.of HN.out.1 (ZB _) h5 (fJ.trans (fN.trans f5))⟩
   |some pb=>
    go_wp2_with fail
    refine(YT hC Hq.out.2.2.1 G5.out).mono ?_;rintro e wJ ⟨rfl,hJ,fJ⟩;have RW:=Zt fJ Qr;go_wp2_with fail
    obtain⟨S4,hS4,rfl⟩:=Hq.out.2.2.2;refine(YH hJ hS4 (YK RW)).mono ?_;rintro e wN ⟨aN,rfl,AN,Vn,hgN,hN,fN⟩;obtain⟨JP,JO,JN,JM,hbN,_,_⟩:=hN.blk;have cN:=hbN.cell 2 rfl;have zN:=hbN.free 2;have HN:=Zl Vn hgN;clear Vn hgN;go_wp2_with fail
    go_end0
    obtain⟨h5,f5⟩:=hN.setCur HN.out.2;exact⟨rfl,X8.of HN.out.1 (ZB _) h5 (fJ.trans (fN.trans f5))⟩
  |none=>
   obtain rfl:=ho;cases ts with
   |nil=>
    obtain rfl:=hts;have Ht: ∃ Sn,S.newP 1 (some 0)=some Sn/\t=(S.Z6.length,Sn):=by
     simp at hor;rw[<-hor]at ht;simp[BS.aimed]at ht;obtain⟨Sn,h1,h2⟩:=ht;exact⟨Sn,h1,h2.symm⟩
    obtain⟨Sn,PK,rfl⟩:=Ht;have Hq:=X7 (show ∃ S0,S.newP 1 (some 0)=some S0/\S0=Sn from⟨Sn,PK,rfl⟩) h3 h4;clear ht h3 h4 hor hk PK;go_wp2_with fail
    obtain⟨Sn,PK,rfl⟩:=Hq.out.1;refine(YH hC PK (YK Qr)).mono ?_;rintro e wM ⟨aM,rfl,AM,G8,hgM,hM,fM⟩;have Az:=Zt fM Qr;have HM:=Zl G8 hgM;clear G8 hgM;go_wp2_with fail
    refine(YT hM Hq.out.2.1 HM.out.2).mono ?_;rintro e wJ ⟨rfl,hJ,fJ⟩;have RW:=Zt fJ Az;go_wp2_with fail
    obtain⟨S4,hS4,rfl⟩:=Hq.out.2.2;refine(YH hJ hS4 (YK RW)).mono ?_;rintro e wN ⟨aN,rfl,AN,Vn,hgN,hN,fN⟩;obtain⟨JP,JO,JN,JM,hbN,_,_⟩:=hN.blk;have cN:=hbN.cell 2 rfl;have zN:=hbN.free 2;have HN:=Zl Vn hgN;clear Vn hgN;go_wp2_with fail
    go_end0
    obtain⟨h5,f5⟩:=hN.setCur HN.out.2;exact⟨rfl,X8.of (ZW HM.out.1 HN.out.1) (ZB _) h5 (fM.trans (fJ.trans (fN.trans f5)))⟩
   |cons t1 ts=>
    obtain⟨ta,tl,b1,cc1,f1,rfl,hta,hb1,FR,hf1,htl⟩:=hts;obtain⟨p1,rfl⟩:=hb1.ptr;obtain⟨p2,rfl⟩:=FR.ptr;obtain⟨p3,rfl⟩:=hf1.ptr;obtain⟨p4,rfl⟩:=htl.ptr;have e0:=hta.2.2.cell 0 rfl;have e1:=hta.2.2.cell 1 rfl;have hR:Lt wr A Tg.brk tg ts.length (.pointer p1) (.pointer p4) wr:=⟨rfl,ts,_,rfl,htl,hb1,Vs hor rfl⟩
    have HR:=Zl hR hk;clear hor hR hk ht h3 h4;go_wp2_with fail
    go_roundg ts.length
    case rel=>exact HR.out.1
    case measure=>have:=HR.out.2;simp at this;omega
theorem NG {w:World} {B b b0:Nat} {A L:List Nat} {S S':BS} {tg:List Tg} {M:Mk} (h:BX w B b b0 A L S tg M) {s:ByteArray} (hs0:s.size=0) {a:Nat} (ha:Hv w 0 a [.int .i64 0,.int .i64 65,.pointer none] 221) (hs:S.Ys 18 s tg=some S'):
  Calls prog 100 #[b,a] w fun e w'=>e=.returned (.tuple #[])/\X8 w w' B b b0 A L S' tg M:=by
 unfold BS.Ys BS.aim at hs;rw[if_neg (by omega)]at hs;simp only[Z8,Option.some.injEq,exists_eq_left']at hs;obtain⟨t,ht,S3,h3,h4⟩:=hs;unfold BS.newAt at h4;rw[ZX]at h4;have ht:BS.aimed (tg.findSome? Tg.cnt,S)=some t:=by simpa using ht
 have c1:=ha.2.2.cell 1 rfl;have c2:=ha.2.2.cell 2 rfl;obtain⟨bv,cv,mv,tv,hb,_,SC⟩:=h.blk;have c4:=hb.cell 4 rfl;have Hq:=X7 ht h3 h4;clear ht h3 h4;go_enter func100,ntmps100;go_wp2_with fail
 go_loopg [4,8] (tg.length) (fun k bv tv wr=>Lt w A Tg.cnt tg k bv tv wr)
 case atStart=>exact⟨rfl,tg,none,rfl,SC,rfl,by simp⟩
 case round=>
  obtain⟨rfl,ts,o,hk,hts,ho,hor⟩:=hrel;obtain⟨ht,h3,h4⟩:=Hq.out;clear Hq;have hC:=h;have Qr:=ha;cases o with
  |some d=>
   obtain⟨da,hda,rfl⟩:=ho;obtain⟨pb,rfl⟩:=hts.ptr;have Ht:t=(d,S):=by
    simp at hor;rw[<-hor]at ht;simp[BS.aimed]at ht;exact ht.symm
   subst Ht;have G5:=Z5 hda;have Hq:=Xp ht ht h3 h4;clear ht h3 h4 hda hor hk hts;cases pb with
   |none=>
    go_wp2_with fail
    refine(YT hC Hq.out.2.2.1 G5.out).mono ?_;rintro e wJ ⟨rfl,hJ,fJ⟩;have RW:=Zt fJ Qr;go_wp2_with fail
    obtain⟨S4,hS4,rfl⟩:=Hq.out.2.2.2;refine(YH hJ hS4 (YK RW)).mono ?_;rintro e wN ⟨aN,rfl,AN,Vn,hgN,hN,fN⟩;obtain⟨JP,JO,JN,JM,hbN,_,_⟩:=hN.blk;have cN:=hbN.cell 2 rfl;have zN:=hbN.free 2;have HN:=Zl Vn hgN;clear Vn hgN;go_wp2_with fail
    go_end0
    obtain⟨h5,f5⟩:=hN.setCur HN.out.2;exact⟨rfl,X8.of HN.out.1 (ZB _) h5 (fJ.trans (fN.trans f5))⟩
   |some pb=>
    go_wp2_with fail
    refine(YT hC Hq.out.2.2.1 G5.out).mono ?_;rintro e wJ ⟨rfl,hJ,fJ⟩;have RW:=Zt fJ Qr;go_wp2_with fail
    obtain⟨S4,hS4,rfl⟩:=Hq.out.2.2.2;refine(YH hJ hS4 (YK RW)).mono ?_;rintro e wN ⟨aN,rfl,AN,Vn,hgN,hN,fN⟩;obtain⟨JP,JO,JN,JM,hbN,_,_⟩:=hN.blk;have cN:=hbN.cell 2 rfl;have zN:=hbN.free 2;have HN:=Zl Vn hgN;clear Vn hgN;go_wp2_with fail
    go_end0
    obtain⟨h5,f5⟩:=hN.setCur HN.out.2;exact⟨rfl,X8.of HN.out.1 (ZB _) h5 (fJ.trans (fN.trans f5))⟩
  |none=>
   obtain rfl:=ho;cases ts with
   |nil=>
    obtain rfl:=hts;have Ht: ∃ Sn,S.newP 1 (some 0)=some Sn/\t=(S.Z6.length,Sn):=by
     simp at hor;rw[<-hor]at ht;simp[BS.aimed]at ht;obtain⟨Sn,h1,h2⟩:=ht;exact⟨Sn,h1,h2.symm⟩
    obtain⟨Sn,PK,rfl⟩:=Ht;have Hq:=X7 (show ∃ S0,S.newP 1 (some 0)=some S0/\S0=Sn from⟨Sn,PK,rfl⟩) h3 h4;clear ht h3 h4 hor hk PK;go_wp2_with fail
    obtain⟨Sn,PK,rfl⟩:=Hq.out.1;refine(YH hC PK (YK Qr)).mono ?_;rintro e wM ⟨aM,rfl,AM,G8,hgM,hM,fM⟩;have Az:=Zt fM Qr;have HM:=Zl G8 hgM;clear G8 hgM;go_wp2_with fail
    refine(YT hM Hq.out.2.1 HM.out.2).mono ?_;rintro e wJ ⟨rfl,hJ,fJ⟩;have RW:=Zt fJ Az;go_wp2_with fail
    obtain⟨S4,hS4,rfl⟩:=Hq.out.2.2;refine(YH hJ hS4 (YK RW)).mono ?_;rintro e wN ⟨aN,rfl,AN,Vn,hgN,hN,fN⟩;obtain⟨JP,JO,JN,JM,hbN,_,_⟩:=hN.blk;have cN:=hbN.cell 2 rfl;have zN:=hbN.free 2;have HN:=Zl Vn hgN;clear Vn hgN;go_wp2_with fail
    go_end0
    obtain⟨h5,f5⟩:=hN.setCur HN.out.2;exact⟨rfl,X8.of (ZW HM.out.1 HN.out.1) (ZB _) h5 (fM.trans (fJ.trans (fN.trans f5)))⟩
   |cons t1 ts=>
    obtain⟨ta,tl,b1,cc1,f1,rfl,hta,hb1,FR,hf1,htl⟩:=hts;obtain⟨p1,rfl⟩:=hb1.ptr;obtain⟨p2,rfl⟩:=FR.ptr;obtain⟨p3,rfl⟩:=hf1.ptr;obtain⟨p4,rfl⟩:=htl.ptr;have e0:=hta.2.2.cell 0 rfl;have e1:=hta.2.2.cell 2 rfl;have hR:Lt wr A Tg.cnt tg ts.length (.pointer p2) (.pointer p4) wr:=⟨rfl,ts,_,rfl,htl,FR,Vs hor rfl⟩
    have HR:=Zl hR hk;clear hor hR hk ht h3 h4;go_wp2_with fail
    go_roundg ts.length
    case rel=>exact HR.out.1
    case measure=>have:=HR.out.2;simp at this;omega
theorem NF {w:World} {B b b0:Nat} {A L:List Nat} {S S':BS} {tg:List Tg} {M:Mk} (h:BX w B b b0 A L S tg M) {s:ByteArray} (hs0:s.size=0) {a:Nat} (ha:Hv w 0 a [.int .i64 0,.int .i64 69,.pointer none] 221) (hs:S.Ys 20 s tg=some S'):
  Calls prog 100 #[b,a] w fun e w'=>e=.returned (.tuple #[])/\X8 w w' B b b0 A L S' tg M:=by
 unfold BS.Ys BS.aim at hs;rw[if_neg (by omega)]at hs;simp only[Z8,Option.some.injEq,exists_eq_left']at hs;obtain⟨t,ht,S3,h3,h4⟩:=hs;unfold BS.newAt at h4;rw[ZX]at h4;have ht:BS.aimed (tg.findSome? Tg.Xw,S)=some t:=by simpa using ht
 have c1:=ha.2.2.cell 1 rfl;have c2:=ha.2.2.cell 2 rfl;obtain⟨bv,cv,mv,tv,hb,_,SC⟩:=h.blk;have c4:=hb.cell 4 rfl;have Hq:=X7 ht h3 h4;clear ht h3 h4;go_enter func100,ntmps100;go_wp2_with fail
 go_loopg [4,9] (tg.length) (fun k bv tv wr=>Lt w A Tg.Xw tg k bv tv wr)
 case atStart=>exact⟨rfl,tg,none,rfl,SC,rfl,by simp⟩
 case round=>
  obtain⟨rfl,ts,o,hk,hts,ho,hor⟩:=hrel;obtain⟨ht,h3,h4⟩:=Hq.out;clear Hq;have hC:=h;have Qr:=ha;cases o with
  |some d=>
   obtain⟨da,hda,rfl⟩:=ho;obtain⟨pb,rfl⟩:=hts.ptr;have Ht:t=(d,S):=by
    simp at hor;rw[<-hor]at ht;simp[BS.aimed]at ht;exact ht.symm
   subst Ht;have G5:=Z5 hda;have Hq:=Xp ht ht h3 h4;clear ht h3 h4 hda hor hk hts;cases pb with
   |none=>
    go_wp2_with fail
    refine(YT hC Hq.out.2.2.1 G5.out).mono ?_;rintro e wJ ⟨rfl,hJ,fJ⟩;have RW:=Zt fJ Qr;go_wp2_with fail
    obtain⟨S4,hS4,rfl⟩:=Hq.out.2.2.2;refine(YH hJ hS4 (YK RW)).mono ?_;rintro e wN ⟨aN,rfl,AN,Vn,hgN,hN,fN⟩;obtain⟨JP,JO,JN,JM,hbN,_,_⟩:=hN.blk;have cN:=hbN.cell 2 rfl;have zN:=hbN.free 2;have HN:=Zl Vn hgN;clear Vn hgN;go_wp2_with fail
    go_end0
    obtain⟨h5,f5⟩:=hN.setCur HN.out.2;exact⟨rfl,X8.of HN.out.1 (ZB _) h5 (fJ.trans (fN.trans f5))⟩
   |some pb=>
    go_wp2_with fail
    refine(YT hC Hq.out.2.2.1 G5.out).mono ?_;rintro e wJ ⟨rfl,hJ,fJ⟩;have RW:=Zt fJ Qr;go_wp2_with fail
    obtain⟨S4,hS4,rfl⟩:=Hq.out.2.2.2;refine(YH hJ hS4 (YK RW)).mono ?_;rintro e wN ⟨aN,rfl,AN,Vn,hgN,hN,fN⟩;obtain⟨JP,JO,JN,JM,hbN,_,_⟩:=hN.blk;have cN:=hbN.cell 2 rfl;have zN:=hbN.free 2;have HN:=Zl Vn hgN;clear Vn hgN;go_wp2_with fail
    go_end0
    obtain⟨h5,f5⟩:=hN.setCur HN.out.2;exact⟨rfl,X8.of HN.out.1 (ZB _) h5 (fJ.trans (fN.trans f5))⟩
  |none=>
   obtain rfl:=ho;cases ts with
   |nil=>
    obtain rfl:=hts;have Ht: ∃ Sn,S.newP 1 (some 0)=some Sn/\t=(S.Z6.length,Sn):=by
     simp at hor;rw[<-hor]at ht;simp[BS.aimed]at ht;obtain⟨Sn,h1,h2⟩:=ht;exact⟨Sn,h1,h2.symm⟩
    obtain⟨Sn,PK,rfl⟩:=Ht;have Hq:=X7 (show ∃ S0,S.newP 1 (some 0)=some S0/\S0=Sn from⟨Sn,PK,rfl⟩) h3 h4;clear ht h3 h4 hor hk PK;go_wp2_with fail
    obtain⟨Sn,PK,rfl⟩:=Hq.out.1;refine(YH hC PK (YK Qr)).mono ?_;rintro e wM ⟨aM,rfl,AM,G8,hgM,hM,fM⟩;have Az:=Zt fM Qr;have HM:=Zl G8 hgM;clear G8 hgM;go_wp2_with fail
    refine(YT hM Hq.out.2.1 HM.out.2).mono ?_;rintro e wJ ⟨rfl,hJ,fJ⟩;have RW:=Zt fJ Az;go_wp2_with fail
    obtain⟨S4,hS4,rfl⟩:=Hq.out.2.2;refine(YH hJ hS4 (YK RW)).mono ?_;rintro e wN ⟨aN,rfl,AN,Vn,hgN,hN,fN⟩;obtain⟨JP,JO,JN,JM,hbN,_,_⟩:=hN.blk;have cN:=hbN.cell 2 rfl;have zN:=hbN.free 2;have HN:=Zl Vn hgN;clear Vn hgN;go_wp2_with fail
    go_end0
    obtain⟨h5,f5⟩:=hN.setCur HN.out.2;exact⟨rfl,X8.of (ZW HM.out.1 HN.out.1) (ZB _) h5 (fM.trans (fJ.trans (fN.trans f5)))⟩
   |cons t1 ts=>
    obtain⟨ta,tl,b1,cc1,f1,rfl,hta,hb1,FR,hf1,htl⟩:=hts;obtain⟨p1,rfl⟩:=hb1.ptr;obtain⟨p2,rfl⟩:=FR.ptr;obtain⟨p3,rfl⟩:=hf1.ptr;obtain⟨p4,rfl⟩:=htl.ptr;have e0:=hta.2.2.cell 0 rfl;have e1:=hta.2.2.cell 3 rfl;have hR:Lt wr A Tg.Xw tg ts.length (.pointer p3) (.pointer p4) wr:=⟨rfl,ts,_,rfl,htl,hf1,Vs hor rfl⟩
    have HR:=Zl hR hk;clear hor hR hk ht h3 h4;go_wp2_with fail
    go_roundg ts.length
    case rel=>exact HR.out.1
    case measure=>have:=HR.out.2;simp at this;omega
end
section
theorem Xl {q e:Nat} (hq:prog.underlying q=some (.pointer e)) (hz: ∀ w,(zeroValue q).run prog w=.ok (.pointer none) w) (x t:Nat) (v:Value) (w:World) (h:t≠q):
  (Instr.typeAssert (.iface t v) x q true).run prog w=.ok (.tuple #[.pointer none,false]) w:=by
 unfold Instr.typeAssert;simp[run_underlying hq,hz,h]
theorem X3 {q e:Nat} (hq:prog.underlying q=some (.pointer e)) (x:Nat) (v:Value) (w:World):
  (Instr.typeAssert (.iface q v) x q true).run prog w=.ok (.tuple #[v,true]) w:=by
 unfold Instr.typeAssert;simp[run_underlying hq]
theorem MK {q e:Nat} (hq:prog.underlying q=some (.pointer e)) (x:Nat) (v:Value) (w:World):
  (Instr.typeAssert (.iface q v) x q false).run prog w=.ok v w:=by
 unfold Instr.typeAssert;simp[run_underlying hq]
theorem Ay (w:World):(zeroValue 158).run prog w=.ok (.pointer none) w:=by kernel_rfl
theorem PJ (x t:Nat) (v:Value) (w:World) (h:t≠158):(Instr.typeAssert (.iface t v) x 158 true).run prog w=.ok (.tuple #[.pointer none,false]) w:=Xl underlying158 Ay x t v w h
theorem O5 (x:Nat) (v:Value) (w:World):(Instr.typeAssert (.iface 158 v) x 158 true).run prog w=.ok (.tuple #[v,true]) w:=X3 underlying158 x v w
theorem Ax (w:World):(zeroValue 159).run prog w=.ok (.pointer none) w:=by kernel_rfl
theorem PI (x t:Nat) (v:Value) (w:World) (h:t≠159):(Instr.typeAssert (.iface t v) x 159 true).run prog w=.ok (.tuple #[.pointer none,false]) w:=Xl underlying159 Ax x t v w h
theorem O4 (x:Nat) (v:Value) (w:World):(Instr.typeAssert (.iface 159 v) x 159 true).run prog w=.ok (.tuple #[v,true]) w:=X3 underlying159 x v w
theorem Aw (w:World):(zeroValue 160).run prog w=.ok (.pointer none) w:=by kernel_rfl
theorem PH (x t:Nat) (v:Value) (w:World) (h:t≠160):(Instr.typeAssert (.iface t v) x 160 true).run prog w=.ok (.tuple #[.pointer none,false]) w:=Xl underlying160 Aw x t v w h
theorem O2 (x:Nat) (v:Value) (w:World):(Instr.typeAssert (.iface 160 v) x 160 true).run prog w=.ok (.tuple #[v,true]) w:=X3 underlying160 x v w
theorem Av (w:World):(zeroValue 161).run prog w=.ok (.pointer none) w:=by kernel_rfl
theorem PG (x t:Nat) (v:Value) (w:World) (h:t≠161):(Instr.typeAssert (.iface t v) x 161 true).run prog w=.ok (.tuple #[.pointer none,false]) w:=Xl underlying161 Av x t v w h
theorem O1 (x:Nat) (v:Value) (w:World):(Instr.typeAssert (.iface 161 v) x 161 true).run prog w=.ok (.tuple #[v,true]) w:=X3 underlying161 x v w
theorem Au (w:World):(zeroValue 162).run prog w=.ok (.pointer none) w:=by kernel_rfl
theorem PF (x t:Nat) (v:Value) (w:World) (h:t≠162):(Instr.typeAssert (.iface t v) x 162 true).run prog w=.ok (.tuple #[.pointer none,false]) w:=Xl underlying162 Au x t v w h
theorem OZ (x:Nat) (v:Value) (w:World):(Instr.typeAssert (.iface 162 v) x 162 true).run prog w=.ok (.tuple #[v,true]) w:=X3 underlying162 x v w
theorem As (w:World):(zeroValue 163).run prog w=.ok (.pointer none) w:=by kernel_rfl
theorem PD (x t:Nat) (v:Value) (w:World) (h:t≠163):(Instr.typeAssert (.iface t v) x 163 true).run prog w=.ok (.tuple #[.pointer none,false]) w:=Xl underlying163 As x t v w h
theorem OY (x:Nat) (v:Value) (w:World):(Instr.typeAssert (.iface 163 v) x 163 true).run prog w=.ok (.tuple #[v,true]) w:=X3 underlying163 x v w
theorem Ar (w:World):(zeroValue 164).run prog w=.ok (.pointer none) w:=by kernel_rfl
theorem PA (x t:Nat) (v:Value) (w:World) (h:t≠164):(Instr.typeAssert (.iface t v) x 164 true).run prog w=.ok (.tuple #[.pointer none,false]) w:=Xl underlying164 Ar x t v w h
theorem OX (x:Nat) (v:Value) (w:World):(Instr.typeAssert (.iface 164 v) x 164 true).run prog w=.ok (.tuple #[v,true]) w:=X3 underlying164 x v w
theorem Aq (w:World):(zeroValue 165).run prog w=.ok (.pointer none) w:=by kernel_rfl
theorem RH (x t:Nat) (v:Value) (w:World) (h:t≠165):(Instr.typeAssert (.iface t v) x 165 true).run prog w=.ok (.tuple #[.pointer none,false]) w:=Xl underlying165 Aq x t v w h
theorem RG (x:Nat) (v:Value) (w:World):(Instr.typeAssert (.iface 165 v) x 165 true).run prog w=.ok (.tuple #[v,true]) w:=X3 underlying165 x v w
theorem Ap (w:World):(zeroValue 171).run prog w=.ok (.pointer none) w:=by kernel_rfl
theorem Pz (x t:Nat) (v:Value) (w:World) (h:t≠171):(Instr.typeAssert (.iface t v) x 171 true).run prog w=.ok (.tuple #[.pointer none,false]) w:=Xl underlying171 Ap x t v w h
theorem OW (x:Nat) (v:Value) (w:World):(Instr.typeAssert (.iface 171 v) x 171 true).run prog w=.ok (.tuple #[v,true]) w:=X3 underlying171 x v w
theorem Ao (w:World):(zeroValue 186).run prog w=.ok (.pointer none) w:=by kernel_rfl
theorem MJ (x t:Nat) (v:Value) (w:World) (h:t≠186):(Instr.typeAssert (.iface t v) x 186 true).run prog w=.ok (.tuple #[.pointer none,false]) w:=Xl underlying186 Ao x t v w h
theorem RF (x:Nat) (v:Value) (w:World):(Instr.typeAssert (.iface 186 v) x 186 true).run prog w=.ok (.tuple #[v,true]) w:=X3 underlying186 x v w
theorem An (w:World):(zeroValue 101).run prog w=.ok (.pointer none) w:=by kernel_rfl
theorem RD (x t:Nat) (v:Value) (w:World) (h:t≠101):(Instr.typeAssert (.iface t v) x 101 true).run prog w=.ok (.tuple #[.pointer none,false]) w:=Xl underlying101 An x t v w h
theorem UD (x:Nat) (v:Value) (w:World):(Instr.typeAssert (.iface 101 v) x 101 true).run prog w=.ok (.tuple #[v,true]) w:=X3 underlying101 x v w
theorem Am (w:World):(zeroValue 194).run prog w=.ok (.pointer none) w:=by kernel_rfl
theorem MI (x t:Nat) (v:Value) (w:World) (h:t≠194):(Instr.typeAssert (.iface t v) x 194 true).run prog w=.ok (.tuple #[.pointer none,false]) w:=Xl underlying194 Am x t v w h
theorem OV (x:Nat) (v:Value) (w:World):(Instr.typeAssert (.iface 194 v) x 194 true).run prog w=.ok (.tuple #[v,true]) w:=X3 underlying194 x v w
theorem uA (w:World):(zeroValue 86).run prog w=.ok (.pointer none) w:=by kernel_rfl
theorem Js (x t:Nat) (v:Value) (w:World) (h:t≠86):(Instr.typeAssert (.iface t v) x 86 true).run prog w=.ok (.tuple #[.pointer none,false]) w:=Xl underlying86 uA x t v w h
theorem MH (x:Nat) (v:Value) (w:World):(Instr.typeAssert (.iface 86 v) x 86 true).run prog w=.ok (.tuple #[v,true]) w:=X3 underlying86 x v w
theorem Al (w:World):(zeroValue 197).run prog w=.ok (.pointer none) w:=by kernel_rfl
theorem MF (x t:Nat) (v:Value) (w:World) (h:t≠197):(Instr.typeAssert (.iface t v) x 197 true).run prog w=.ok (.tuple #[.pointer none,false]) w:=Xl underlying197 Al x t v w h
theorem OU (x:Nat) (v:Value) (w:World):(Instr.typeAssert (.iface 197 v) x 197 true).run prog w=.ok (.tuple #[v,true]) w:=X3 underlying197 x v w
theorem Ak (w:World):(zeroValue 201).run prog w=.ok (.pointer none) w:=by kernel_rfl
theorem ME (x t:Nat) (v:Value) (w:World) (h:t≠201):(Instr.typeAssert (.iface t v) x 201 true).run prog w=.ok (.tuple #[.pointer none,false]) w:=Xl underlying201 Ak x t v w h
theorem OT (x:Nat) (v:Value) (w:World):(Instr.typeAssert (.iface 201 v) x 201 true).run prog w=.ok (.tuple #[v,true]) w:=X3 underlying201 x v w
theorem Aj (w:World):(zeroValue 203).run prog w=.ok (.pointer none) w:=by kernel_rfl
theorem MD (x t:Nat) (v:Value) (w:World) (h:t≠203):(Instr.typeAssert (.iface t v) x 203 true).run prog w=.ok (.tuple #[.pointer none,false]) w:=Xl underlying203 Aj x t v w h
theorem OS (x:Nat) (v:Value) (w:World):(Instr.typeAssert (.iface 203 v) x 203 true).run prog w=.ok (.tuple #[v,true]) w:=X3 underlying203 x v w
theorem Ai (w:World):(zeroValue 205).run prog w=.ok (.pointer none) w:=by kernel_rfl
theorem MC (x t:Nat) (v:Value) (w:World) (h:t≠205):(Instr.typeAssert (.iface t v) x 205 true).run prog w=.ok (.tuple #[.pointer none,false]) w:=Xl underlying205 Ai x t v w h
theorem OP (x:Nat) (v:Value) (w:World):(Instr.typeAssert (.iface 205 v) x 205 true).run prog w=.ok (.tuple #[v,true]) w:=X3 underlying205 x v w
theorem Ah (w:World):(zeroValue 207).run prog w=.ok (.pointer none) w:=by kernel_rfl
theorem MB (x t:Nat) (v:Value) (w:World) (h:t≠207):(Instr.typeAssert (.iface t v) x 207 true).run prog w=.ok (.tuple #[.pointer none,false]) w:=Xl underlying207 Ah x t v w h
theorem OO (x:Nat) (v:Value) (w:World):(Instr.typeAssert (.iface 207 v) x 207 true).run prog w=.ok (.tuple #[v,true]) w:=X3 underlying207 x v w
theorem Ag (w:World):(zeroValue 209).run prog w=.ok (.pointer none) w:=by kernel_rfl
theorem MA (x t:Nat) (v:Value) (w:World) (h:t≠209):(Instr.typeAssert (.iface t v) x 209 true).run prog w=.ok (.tuple #[.pointer none,false]) w:=Xl underlying209 Ag x t v w h
theorem OM (x:Nat) (v:Value) (w:World):(Instr.typeAssert (.iface 209 v) x 209 true).run prog w=.ok (.tuple #[v,true]) w:=X3 underlying209 x v w
theorem Af (w:World):(zeroValue 147).run prog w=.ok (.pointer none) w:=by kernel_rfl
theorem Py (x t:Nat) (v:Value) (w:World) (h:t≠147):(Instr.typeAssert (.iface t v) x 147 true).run prog w=.ok (.tuple #[.pointer none,false]) w:=Xl underlying147 Af x t v w h
theorem OL (x:Nat) (v:Value) (w:World):(Instr.typeAssert (.iface 147 v) x 147 true).run prog w=.ok (.tuple #[v,true]) w:=X3 underlying147 x v w
theorem Ae (w:World):(zeroValue 184).run prog w=.ok (.pointer none) w:=by kernel_rfl
theorem Mz (x t:Nat) (v:Value) (w:World) (h:t≠184):(Instr.typeAssert (.iface t v) x 184 true).run prog w=.ok (.tuple #[.pointer none,false]) w:=Xl underlying184 Ae x t v w h
theorem OJ (x:Nat) (v:Value) (w:World):(Instr.typeAssert (.iface 184 v) x 184 true).run prog w=.ok (.tuple #[v,true]) w:=X3 underlying184 x v w
theorem OI (x:Nat) (v:Value) (w:World):(Instr.typeAssert (.iface 172 v) x 172 false).run prog w=.ok v w:=MK underlying172 x v w
theorem UC (x:Nat) (v:Value) (w:World):(Instr.typeAssert (.iface 227 v) x 227 false).run prog w=.ok v w:=MK underlying227 x v w
theorem Rz (x:Nat) (v:Value) (w:World):(Instr.typeAssert (.iface 237 v) x 237 false).run prog w=.ok v w:=MK underlying237 x v w
end
section
def Jr:Code->Option Code
 | .scope c=>some c
 | .seq a b=>match Jr a with
  |some c=>some c
  |none=>Jr b
 |_=>none
def uz:Code->Code
 | .seq .skip c=>c
 |c=>c
noncomputable def Xq:Code:=uz (((Tryz.f85.body.bind Jr).bind (findLabel · 0)).getD .skip)
def NN (b:Nat) (u:Value) (U:Value:=Go.undef):Array Value:= #[Value.pointer (some ⟨b,0,none⟩),u,U,U,Value.pointer none,U,U,U,U,U,U,U,U,U,U,U,U,U,U,U,U,U,U,U,U,U,U,U,U,U,U,U,U,U,U,U,U,U,U,U,U,U,U,U,U,U,U,U,U,U,U,U,U,U,U,U,U,U,U,U,U,U,U,U,U,U,U,U,U,U,U,U,U,U,U,U,U,U,U,U,U,U,U,U,U,U,U,U,U,U,U,U,U,U,U,U,U,U,U,U,U,U,U,U,U,U,U,U,U,U,U,U,U,U,U,U,U,U,U,U,U,U,U,U,U,U,U,U,U,U,U,U,U,U,U,U,U,U,U,U,U,U,U,U,U,U,U,U,U,U,U,U,U,U,U,U,U,U,U,U,U,U,U,U,U,U,U,U,U,U,U,U,U,U,U,U,U,U,U,U,U,U,U,U,U,U,U,U,U,U,U,U,U,U,U,U,U,U,U,U,U,U,U,U,U,U,U,U,U,U,U,U,U,U,U,U,U,U,U,U,U,U,U,U,U,U,U,U,U,U,U,U,U,U,U,U,U,U,U,U,U,U,U,U,U,U,U,U,U,U,U,U,U,U,U,U,U,U,U,U,U,U,U,U,U,U,U,U,U,U,U,U,U,U,U,U,U,U,U,U,U,U,U,U,U,U,U,U,U,U,U,U,U,U,U,U,U,U,U,U,U,U,U,U,U,U,U,U,U,U,U]
def Vv (b a l ga la:Nat) (u:Value) (U:Value:=Go.undef):Array Value:= #[Value.pointer (some ⟨b,0,none⟩),u,U,U,Value.pointer (some ⟨l,0,none⟩),U,U,U,U,U,U,U,U,U,U,U,Value.pointer (some ⟨a,0,none⟩),U,U,U,U,U,U,U,U,U,U,U,U,U,Value.iface 186 (Value.pointer (some ⟨a,0,none⟩)),U,Value.tuple #[Value.pointer none,Value.bool false],Value.bool false,Value.pointer none,Value.tuple #[Value.pointer none,Value.bool false],Value.bool false,Value.pointer none,Value.tuple #[Value.pointer none,Value.bool false],Value.bool false,Value.pointer none,Value.tuple #[Value.pointer none,Value.bool false],Value.bool false,Value.pointer none,Value.tuple #[Value.pointer none,Value.bool false],Value.bool false,Value.pointer none,Value.tuple #[Value.pointer none,Value.bool false],Value.bool false,Value.pointer none,Value.bool false,Value.bool false,Value.bool false,Value.bool false,Value.bool false,U,U,U,Value.tuple #[Value.pointer none,Value.bool false],Value.bool false,Value.pointer none,U,U,U,U,U,U,U,U,U,U,Value.tuple #[Value.pointer none,Value.bool false],Value.bool false,Value.pointer none,U,U,U,U,U,U,U,U,U,U,U,U,U,U,U,U,U,U,U,U,U,U,U,U,U,U,U,U,U,Value.tuple #[Value.pointer none,Value.bool false],Value.bool false,Value.pointer none,U,U,U,U,U,U,U,U,U,U,U,U,U,U,U,U,U,U,U,U,U,U,U,U,U,U,U,U,U,U,Value.tuple #[Value.pointer (some ⟨a,0,none⟩),Value.bool true],Value.bool true,Value.pointer (some ⟨a,0,none⟩),Value.pointer (some ⟨b,0,none⟩),Value.pointer (some ⟨a,0,none⟩),Value.pointer (some ⟨a,0,none⟩),Value.pointer (some ⟨a,0,none⟩),Value.pointer (some ⟨la,0,none⟩),Value.pointer (some ⟨a,0,none⟩),Value.pointer (some ⟨l,0,none⟩),Value.pointer (some ⟨b,0,none⟩),Value.pointer (some ⟨l,0,none⟩),Value.pointer (some ⟨l,0,none⟩),Value.pointer (some ⟨l,0,none⟩),Value.pointer (some ⟨ga,0,none⟩),Value.tuple #[],Value.pointer (some ⟨b,0,none⟩),Value.pointer (some ⟨l,0,none⟩),Value.pointer (some ⟨l,0,none⟩),Value.pointer (some ⟨l,0,none⟩),Value.pointer (some ⟨ga,0,none⟩),Value.pointer (some ⟨b,0,none⟩),Value.pointer (some ⟨b,2,none⟩),Value.pointer (some ⟨a,0,none⟩),Value.pointer (some ⟨a,0,none⟩),Value.pointer (some ⟨a,2,none⟩),u,U,U,U,U,U,U,U,U,U,U,U,U,U,U,U,U,U,U,U,U,U,U,U,U,U,U,U,U,U,U,U,U,U,U,U,U,U,U,U,U,U,U,U,U,U,U,U,U,U,U,U,U,U,U,U,U,U,U,U,U,U,U,U,U,U,U,U,U,U,U,U,U,U,U,U,U,U,U,U,U,U,U,U,U,U,U,U,U,U,U,U,U,U,U,U,U,U,U,U,U,U,U,U,U,U,U,U,U,U,U,U,U,U,U,U,U,U,U,U,U,U,U,U,U,U,U,U,U,U,U,U,U,U,U,U,U,U,U,U,U,U,U,U,U,U,U,U,U]
def Ls (L:List Nat) (v:Value) (lab:Option Nat):Prop:=(lab=none/\v=.pointer none)\/ ∃ j l,lab=some j/\v=.pointer (some ⟨l,0,none⟩)/\L[j]? =some l
theorem TC {b:Nat} {w:World} {Post:World->Prop} {u:Value} (hu: ∃ t p,u=.iface t p)
  (hw: ∀ Q:Exit->Act->World->Prop,(∀ a w',a.defers= []->Post w'->Q .normal a w')->Code.wp prog Xq Q ⟨NN b u,[]⟩ w):
  Calls prog 85 #[b,u] w fun e w'=>e=.returned (.tuple #[])/\Post w':=by
 obtain⟨t,p,rfl⟩:=hu;have Hw:=Z5 hw;clear hw;go_enter func85,ntmps85;go_wp2_with fail
 go_step3
 go_wp2_with fail
 go_step3
 rename_i K hK;have key:=Hw.out;unfold NN at key;conv at key=>enter [Q,h];arg 2;whnf
 refine hK _ _ (key _ ?_);intro a w' hd hp;exact(show bodyPost prog Tryz.f85 (fun e w'=>e=.returned (.tuple #[])/\Post w') .normal a w' from bodyPost_end (v:=.tuple #[]) (results_none rfl _ _ _) hd ⟨rfl,hp⟩)
end
end Go.Proofs.YteedbaejpdjilaaGreat
