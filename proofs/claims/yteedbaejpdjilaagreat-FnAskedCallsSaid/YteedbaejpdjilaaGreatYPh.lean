/- Part of the proof: BldD BldE BldF BldG BldH BldP. -/
import Derived.Test.YteedbaejpdjilaaGreatYPg
import Derived.StillTailTactics
import Derived.Deep.QuietTactic
import Derived.BigQuiet
set_option linter.all false
set_option maxRecDepth 100000
set_option maxHeartbeats 40000000
namespace Go.Proofs.YteedbaejpdjilaaGreat
open Go.RowKit Tryz
section
theorem Ng {a b:ByteArray} (h:a≠b):(a==b)=false:=by
 cases hb:(a==b)
 .rfl
 .exact absurd (by rw[beq_toListBytes,beq_iff_eq,ByteArray.toList_eq,ByteArray.toList_eq]at hb;exact ByteArray.ext (Array.toList_inj.1 hb)) h
theorem LA (a:ByteArray):(a==a)=true:=by rw[beq_toListBytes];simp
theorem RT (s:ByteArray): ∀ (es:List MapEntry) (i:Nat),(∀ e∈es,∃ k,e.key=.string k/\k≠s)->Instr.findNow .string (.string s) es i=some none
 | [],_,_=>rfl
 |e::es,i,h=>by
  obtain⟨k,h1,h2⟩:=h e (by simp);have:(s==k)=false:=Ng (Ne.symm h2);simp only[Instr.findNow,Instr.sameNow,h1,this];exact RT s es (i+1) (fun e' he'=>h e' (by simp[he']))
theorem RQ (s:ByteArray) (v:Value): ∀ (es:List MapEntry) (i j:Nat),(∃ e,es[j]? =some e/\e.key=.string s/\e.val=v)->(∀ (q:Nat) e,q < j->es[q]? =some e-> ∃ k,e.key=.string k/\k≠s)-> ∃ r,Instr.findNow .string (.string s) es i=some (some (r,v))
 | [],_,_,⟨e,h,_⟩,_=>by simp at h
 |e::es,i,0,⟨e',h,h1,h2⟩,_=>by
  simp at h;subst h;refine⟨i,?_⟩;simp[Instr.findNow,Instr.sameNow,h1,h2,LA]
 |e::es,i,j+1,⟨e',h,h1,h2⟩,hq=>by
  obtain⟨k,g1,g2⟩:=hq 0 e (by omega) rfl;have:(s==k)=false:=Ng (Ne.symm g2);simp only[Instr.findNow,Instr.sameNow,g1,this];exact RQ s v es (i+1) j ⟨e',by simpa using h,h1,h2⟩ (fun q e2 hlt he2=>hq (q+1) e2 (by omega) (by simpa using he2))
theorem look_nil (s:ByteArray) (w:World):(Instr.lookup 133 (.map none) (.string s) false).run prog w=.ok (.pointer none) w:=by kernel_rfl
theorem Nf (e:Bool) (s:ByteArray) (w:World):(Instr.checkKey e 10000 9 (.string s)).run prog w=.ok () w:=by kernel_rfl
theorem AH (w:World):(zeroValue 157).run prog w=.ok (.pointer none) w:=by kernel_rfl
theorem Lz {s:ByteArray} {es:List MapEntry} {r:Option (Nat × Value)} (hf:Instr.findNow .string (.string s) es 0=some r) (w:World):(Instr.findKey 9 (.string s) es).run prog w=.ok r w:=by
 unfold Instr.findKey;simp[run_underlying underlying9,hf]
theorem Hb {w:World} {mb:Nat} {es:Array MapEntry} {ck:Nat} (hm:w.heap[mb]? =some (.map es ck)):(getObj mb).run prog w=.ok (.map es ck) w:=by
 simp[getObj,Sem.run,hm]
theorem Nc {w:World} {mb:Nat} {es:Array MapEntry} {ck:Nat} (hm:w.heap[mb]? =some (.map es ck)) (s:ByteArray) (r:Option (Nat × Value)) (hf:Instr.findNow .string (.string s) es.toList 0=some r):
  (Instr.lookup 133 (.map (some mb)) (.string s) false).run prog w=.ok ((r.map (·.2)).getD (.pointer none)) w:=by
 have h1:=Hb hm;have h2:=Nf es.isEmpty s w;have h3:=Lz hf w;have h4:=AH w;unfold Instr.lookup;go_simp;cases r with
 |none=>simp[h4]
 |some p=>simp
def putObj (w:World) (mb:Nat) (o:Obj):World:= { w with heap:=w.heap.setIfInBounds mb o }
theorem RP {w:World} {mb:Nat} {es:Array MapEntry} {ck:Nat} (hm:w.heap[mb]? =some (.map es ck)) (s:ByteArray) (v:Value) (hf:Instr.findNow .string (.string s) es.toList 0=some none):
  (Instr.mapUpdate 133 (.map (some mb)) (.string s) v).run prog w=.ok () (putObj w mb (.map (es.push ⟨.string s,v,ck⟩) (ck+1))):=by
 have h1:=Hb hm;have h2:=Nf false s w;have h3:=Lz hf w;unfold Instr.mapUpdate;go_simp;simp[setObj,Sem.run,hm,putObj]
theorem Ws (w:World) (mb:Nat) (o:Obj):Only [mb] w (putObj w mb o):=⟨by simp[putObj],fun k hk hx=>by
 simp[putObj];rw[Array.getElem?_setIfInBounds_ne];intro e;apply hx;simp[e]⟩
theorem TI {w:World} {mb:Nat} (h:mb < w.heap.size) (o:Obj):(putObj w mb o).heap[mb]? =some o:=by
 simp[putObj,h]
theorem TH {w:World} {mb:Nat} {es:Array MapEntry} {ck:Nat} (hm:w.heap[mb]? =some (.map es ck)) {B:Nat} (hB:B<=mb) (Tt:List Nat) (o:Obj):Fr Tt B w (putObj w mb o):=by
 have h:=Ws w mb o;refine⟨⟨rfl,rfl,rfl,h.size,fun k hk=>?_⟩,fun k c e f hk _=>?_⟩
 .by_cases hlt:k < w.heap.size
  .exact h.block k hlt (by simp;omega)
  .rw[Array.getElem?_eq_none (by simp[putObj];omega),Array.getElem?_eq_none (by omega)]
 .rw[h.block k (Zq.lt ⟨_,_,hk⟩) ?_]
  .exact hk
  .simp;intro e';subst e';rw[hm]at hk;cases hk
theorem V2 {w:World} {B:Nat} {A:List Nat} {ZT:List (ByteArray × Lb)} {L:List Nat} {mv:Value} (h:Xe w B A ZT L mv) (s:ByteArray):
  (∀ (j l:Nat) (x:Lb),ZT[j]? =some (s,x)->L[j]? =some l->(∀ (q:Nat) (y:ByteArray × Lb),q < j->ZT[q]? =some y->y.1≠s)-> ∀ w',w'.heap=w.heap->(Instr.lookup 133 mv (.string s) false).run prog w'=.ok (.pointer (some ⟨l,0,none⟩)) w')/\
  ((∀ y∈ZT,y.1≠s)-> ∀ w',w'.heap=w.heap->(Instr.lookup 133 mv (.string s) false).run prog w'=.ok (.pointer none) w')/\
  ((∀ y∈ZT,y.1≠s)-> ∀ mb es ck,mv=.map (some mb)->w.heap[mb]? =some (.map es ck)->Instr.findNow .string (.string s) es.toList 0=some none):=by
 obtain⟨h1,h2,h3,h4,h5⟩:=h;have key: ∀ (es:Array MapEntry),es.toList.map (fun e=>(e.key,e.val))=(ZT.zip L).map (fun x=>(Value.string x.1.1,Value.pointer (some ⟨x.2,0,none⟩)))-> ∀ (q:Nat) e,es.toList[q]? =some e-> ∃ y l,ZT[q]? =some y/\L[q]? =some l/\e.key=.string y.1/\e.val=.pointer (some ⟨l,0,none⟩):=by
  intro es he q e hq;have h6:(es.toList.map (fun e=>(e.key,e.val)))[q]? =some (e.key,e.val):=by simp[hq]
  rw[he]at h6;simp[Yt,List.getElem?_zip_eq_some]at h6;obtain⟨y1,y2,l,⟨h7,h8⟩,h9,h10⟩:=h6;exact⟨(y1,y2),l,h7,h8,h9.symm,h10.symm⟩
 have Ha: ∀ (es:Array MapEntry),es.toList.map (fun e=>(e.key,e.val))=(ZT.zip L).map (fun x=>(Value.string x.1.1,Value.pointer (some ⟨x.2,0,none⟩)))->(∀ y∈ZT,y.1≠s)->Instr.findNow .string (.string s) es.toList 0=some none:=by
  intro es he hy;refine RT s es.toList 0 (fun e hm=>?_);obtain⟨q,hq⟩:=List.getElem?_of_mem hm;obtain⟨y,l,g1,g2,g3,g4⟩:=key es he q e hq;exact⟨y.1,g3,hy y (ZY g1)⟩
 refine⟨?_,?_,?_⟩
 .intro j l x hj hl hq w' hw;rcases h5 with⟨rfl,rfl⟩ |⟨mb,es,ck,rfl,g2,g3,g4⟩
  .simp at hj
  .have hlen:es.toList.length=ZT.length:=by
    have:=congrArg List.length g4;simp[h1]at this;simpa using this
   have hj2:j < es.toList.length:=by
    have:=(Z1.1 hj).1;omega
   obtain⟨y,l',k1,k2,k3,k4⟩:=key es g4 j _ (Z9 hj2);rw[hj]at k1;cases k1;rw[hl]at k2;cases k2;obtain⟨r,hr⟩:=RQ s (.pointer (some ⟨l,0,none⟩)) es.toList 0 j ⟨_,Z9 hj2,k3,k4⟩ (fun q e hlt he=>by
    obtain⟨y,l2,m1,m2,m3,m4⟩:=key es g4 q e he;exact⟨y.1,m3,hq q y hlt m1⟩)
   have:=Nc (w:=w') (by rw[hw];exact g3) s _ hr;simpa using this
 .intro hy w' hw;rcases h5 with⟨rfl,rfl⟩ |⟨mb,es,ck,rfl,g2,g3,g4⟩
  .exact look_nil s w'
  .have:=Nc (w:=w') (by rw[hw];exact g3) s _ (Ha es g4 hy);simpa using this
 .intro hy mb es ck hmv hm;rcases h5 with⟨rfl,rfl⟩ |⟨mb',es',ck',g1,g2,g3,g4⟩
  .cases hmv
  .rw[g1]at hmv;cases hmv;rw[hm]at g3;cases g3;exact Ha es g4 hy
end
section
theorem Xd.same {w w':World} {B b b0:Nat} {A:List Nat} {NV:List Value} {L:List Nat} {S:BS} {tg:List Tg} {M:Mk} (h:Xd w B b b0 A NV L S tg M) (o:Only [] w w') (f:Fr bT B w w'):Xd w' B b b0 A NV L S tg M:=by
 obtain⟨bv,cv,mv,tv,hb,hbv,hcv,hlv,UH⟩:=h.self;have hA:A <+:A:=⟨[],by simp⟩
 exact⟨h.hB,h.US,h.VU,h.nodup,h.base,h.apart,fun i k nv hk hn=>(h.Z6 i k nv hk hn).only o f hA (fun _ _=>by simp) (fun _ _=>by simp),h.Bw.only o (by simp),
  ⟨bv,cv,mv,tv,hb.only o (by simp),YX o hbv (fun _ _=>by simp),hcv,hlv.only o hA (fun _ _=>by simp) (fun _ _=>by simp),UH.mono (Hv.bT f) hA⟩⟩
theorem Only.drewN {X:List Nat} {a b:World} (h:Only X a b) (n:Nat):Only X a (b.drewN n):=⟨by simpa using h.size,fun k hk hx=>by simpa using h.block k hk hx⟩
theorem Fr.drewN {Tt:List Nat} {B:Nat} {a b:World} (h:Fr Tt B a b) (n:Nat):Fr Tt B a (b.drewN n):=by
 induction n with
 |zero=>exact h
 |succ n ih=>exact ih.drew
theorem Xd.drewN {w:World} {B b b0:Nat} {A:List Nat} {NV:List Value} {L:List Nat} {S:BS} {tg:List Tg} {M:Mk} (h:Xd w B b b0 A NV L S tg M) (n:Nat):Xd (w.drewN n) B b b0 A NV L S tg M:=
 h.same ((Only.refl _ _).drewN n) ((Fr.refl _ _ _).drewN n)
theorem NK {w:World} {B b b0:Nat} {A:List Nat} {NV:List Value} {L:List Nat} {S:BS} {tg:List Tg} {M:Mk} (h:Xd w B b b0 A NV L S tg M) {s:ByteArray} {j l:Nat} {x:Lb} (hj:S.ZT[j]? =some (s,x)) (hl:L[j]? =some l)
  (hq: ∀ (q:Nat) (y:ByteArray × Lb),q < j->S.ZT[q]? =some y->y.1≠s) {lv:Value} (hlv:Xo (Hv w 0) lv s):
  Calls prog 98 #[b,lv,.pointer none] w fun e w'=>e=.returned (.pointer (some ⟨l,0,none⟩))/\Xd w' B b b0 A NV L S tg M/\Fr bT B w w':=by
 obtain⟨la,lo,rfl,_,_,hla⟩:=hlv;obtain⟨bv,cv,mv,tv,hb,hbv,hcv,hlb,UH⟩:=h.self;have hlook: ∀ n,(Instr.lookup 133 mv (.string s) false).run prog (w.drewN n)=.ok (.pointer (some ⟨l,0,none⟩)) (w.drewN n):=fun n=>(V2 hlb s).1 j l x hj hl hq _ (by simp);have c3:=hb.cell 3 rfl;have d1:=hla.cell 1 rfl;obtain⟨mo,rfl⟩: ∃ mo,mv=.map mo:=by
  rcases hlb.2.2.2.2 with⟨rfl,_⟩ |⟨mb,es,ck,rfl,_⟩
  .exact⟨_,rfl⟩
  .exact⟨_,rfl⟩
 have Hx:=X7 hj hl hq;clear hj hl hq;go_enter func98,ntmps98;go_wp2_with fail
 go_quiet (fail)
 go_wp2_with fail
 go_ret;exact⟨rfl,h.drewN nq,(Fr.refl _ _ _).drewN nq⟩
theorem Xd.setOf {w:World} {B b b0:Nat} {A:List Nat} {NV:List Value} {L:List Nat} {S:BS} {tg:List Tg} {M:Mk} (h:Xd w B b b0 A NV L S tg M) {g ga:Nat} {k:Bk} (hk:S.Z6[g]? =some k) (hga:A[g]? =some ga) {v:Value} {p:Int} (hv:X4 (Hv w 0) v (some p)):
  Xd (w.setCell ⟨ga,6,none⟩ v) B b b0 A NV L (S.set g { k with of:=some p }) tg M/\Fr bT B w (w.setCell ⟨ga,6,none⟩ v):=by
 have hlt:=(Z1.1 hk).1;have hln:g < NV.length:=by have:=h.VU;omega
 have V9:NV[g]? =some NV[g]:=Z9 hln;obtain⟨a',sv,p0,p1,ns,g1,g2,g3,g4,g5,g6,g7,g8,g9⟩:=h.Z6 g k _ hk V9;rw[hga]at g1;cases g1;have hBa:=h.base ga (ZY hga);have f2:Fr bT B w (w.setCell ⟨ga,6,none⟩ v):=(Fr.refl _ _ _).X9 _ _ g2.ty (by decide) hBa;have o2:Only [ga] w (w.setCell ⟨ga,6,none⟩ v):=(Only.refl _ _).set _ _ (.inl (by simp))
 have hU:=h.upd (UR:=NV[g]) hga V9 o2 f2 (fun x hx=>.inl (by simpa using hx)) (k':= { k with of:=some p })
  ⟨ga,v,p0,p1,ns,hga,g2.set 6 v,YX o2 g3 (fun x hx hc=>Zq.ne (h.Jx _ (ZY V9) x hx) g2.ty (by decide) (by simpa using hc)),g4,fun j v n e1 e2=>(g5 j v n e1 e2).mono (Hv.bT f2),hv.mono (Hv.bT f2),g7,g8,g9⟩ (fun x hx=>.inl hx)
 have eN:NV.set g NV[g]=NV:=by simp
 rw[eN]at hU;exact⟨hU,f2⟩
theorem RO {w:World} {B b b0:Nat} {A:List Nat} {NV:List Value} {L:List Nat} {S:BS} {tg:List Tg} {M:Mk} (h:Xd w B b b0 A NV L S tg M) {s:ByteArray} {j l:Nat} {x:Lb} (hj:S.ZT[j]? =some (s,x)) (hl:L[j]? =some l)
  (hq: ∀ (q:Nat) (y:ByteArray × Lb),q < j->S.ZT[q]? =some y->y.1≠s) {lv:Value} (hlv:Xo (Hv w 0) lv s) {k:Bk} (hk:S.Z6[x.go]? =some k) (hof:k.of=none) {sa:Nat} {XH u2:Value} {s2:ByteArray} (hsa:Hv w 0 sa [XH,.int .i64 0,u2] 190) (hlv2:Xo (Hv w 0) XH s2):
  Calls prog 98 #[b,lv,sa] w fun e w'=>e=.returned (.pointer (some ⟨l,0,none⟩))/\Xd w' B b b0 A NV L (S.set x.go { k with of:=some 0 }) tg M/\Fr bT B w w':=by
 obtain⟨la,lo,rfl,_,_,hla⟩:=hlv;obtain⟨bv,cv,mv,tv,hb,hbv,hcv,hlb,UH⟩:=h.self;have hlook: ∀ n,(Instr.lookup 133 mv (.string s) false).run prog (w.drewN n)=.ok (.pointer (some ⟨l,0,none⟩)) (w.drewN n):=fun n=>(V2 hlb s).1 j l x hj hl hq _ (by simp);have c3:=hb.cell 3 rfl;have d1:=hla.cell 1 rfl;obtain⟨gv,o9,qw,hL,⟨ga,hga,rfl⟩,_,_⟩:=hlb.2.2.2.1 j l s x hl hj;have e0:=hL.cell 0 rfl;have hlt:=(Z1.1 hk).1;have hln:x.go < NV.length:=by have:=h.VU;omega
 obtain⟨a',sv,p0,p1,ns,g1,g2,g3,g4,g5,g6,g7,g8,g9⟩:=h.Z6 x.go k _ hk (Z9 hln);rw[hga]at g1;cases g1;rw[hof]at g6;obtain rfl:=g6;have e6:=g2.cell 6 rfl;have f6:=g2.free 6;obtain⟨mo,rfl⟩: ∃ mo,mv=.map mo:=by
  rcases hlb.2.2.2.2 with⟨rfl,_⟩ |⟨mb,es,ck,rfl,_⟩
  .exact⟨_,rfl⟩
  .exact⟨_,rfl⟩
 have Hx:=Qd hj hl hq hk hof hga;clear hj hl hq hk hof hga;go_enter func98,ntmps98;go_wp2_with fail
 go_quiet (fail)
 go_wp2_with fail
 go_ret;obtain⟨hj,hl,hq,hk,hof,hga⟩:=Hx.out;have hd:=h.drewN nq;obtain⟨h1,h2⟩:=hd.setOf hk hga (v:=.iface 186 (.pointer (some ⟨sa,0,none⟩))) (p:=0) ((show X4 (Hv w 0) _ (some 0)from .inr (.inl ⟨rfl,sa,XH,u2,s2,rfl,hsa,hlv2⟩)).mono (Hv.bT ((Fr.refl bT B w).drewN nq)));exact⟨rfl,h1,((Fr.refl _ _ _).drewN nq).trans h2⟩
end
section
theorem Xd.G9 {w w':World} {B b b0:Nat} {A:List Nat} {NV:List Value} {L:List Nat} {S:BS} {tg:List Tg} {M:Mk} (h:Xd w B b b0 A NV L S tg M) {bv cv mv tv:Value} (hb:ZD w b [bv,.func (.func 67) #[b0] #[],cv,mv,tv] 136)
  (hbv:w.ownsRow B 92 1 bv A.length (A.map fun a=>.pointer (some ⟨a,0,none⟩))) (hcv:Zc A cv S.cur) (UH:Qa (Hv w 0) A tg tv) {X:List Nat} (ho:Only X w w') (hf:Fr bT B w w') (hX: ∀ x∈X,x=b\/ ∀ t,¬ Zq w x t)
  {mv':Value} (hb':ZD w' b [bv,.func (.func 67) #[b0] #[],cv,mv',tv] 136) {xu:List (ByteArray × Lb)} {L':List Nat} (hl':Xe w' B A xu L' mv'):
  Xd w' B b b0 A NV L' { S with ZT:=xu } tg M:=by
 have nX: ∀ x t,Zq w x t->t≠136->x∉X:=by
  intro x t hx h1 hc;rcases hX x hc with rfl|h2
  .exact Zq.ne hx hb.ty h1 rfl
  .exact h2 t hx
 have hA:A <+:A:=⟨[],by simp⟩
 obtain⟨sv,lv,av,ps,hB2,hm,hsv,hlv,hps,hn,hav⟩:=h.Bw
 exact⟨h.hB,h.US,h.VU,h.nodup,h.base,h.apart,fun i k nv hk hn=>(h.Z6 i k nv hk hn).only ho hf hA (fun a ha=>nX a 99 (h.Bv a (ZY ha)) (by decide)) (fun g hg=>nX g 104 (h.Jx nv (ZY hn) g hg) (by decide)),
  ⟨sv,lv,av,ps,hB2,hm.only ho (nX _ _ hm.ty (by decide)),YX ho hsv (fun k hk=>nX _ _ (Zg hsv hk) (by decide)),YX ho hlv (fun k hk=>nX _ _ (Zg hlv hk) (by decide)),fun p hp=>let⟨s,hs⟩:=hps p hp;⟨s,hs.only ho (nX _ _ hs.ty (by decide))⟩,hn,YX ho hav (fun k hk=>nX _ _ (Zg hav hk) (by decide))⟩,
  ⟨bv,cv,mv',tv,hb',YX ho hbv (fun k hk=>nX k 92 (Zg hbv hk) (by decide)),hcv,hl',UH.mono (Hv.bT hf) hA⟩⟩
def BS.lab (S:BS) (s:ByteArray) (x:Lb):BS:= { S with ZT:=S.ZT++ [(s,x)] }
theorem Xe.push {X:List Nat} {w w':World} (ho:Only X w w') {B:Nat} {A:List Nat} {ZT:List (ByteArray × Lb)} {L:List Nat} {mv:Value} (h:Xe w B A ZT L mv) (hX: ∀ l∈L,l∉X) (hBw:B<=w.heap.size) {l a g mb:Nat} (hl0:w.heap.size<=l) (hl:ZD w' l [a,.pointer none,.pointer none] 193) (ha:A[g]? =some a)
  {es:Array MapEntry} {ck ck2:Nat} {s:ByteArray} (hes:es.toList.map (fun e=>(e.key,e.val))=(ZT.zip L).map (fun x=>(Value.string x.1.1,Value.pointer (some ⟨x.2,0,none⟩)))) (hB:B<=mb) (hm:w'.heap[mb]? =some (.map (es.push ⟨.string s,.pointer (some ⟨l,0,none⟩),ck⟩) ck2)):
  Xe w' B A (ZT++ [(s,⟨g,none,none⟩)]) (L++ [l]) (.map (some mb)):=by
 have hty:=h.ty;obtain⟨h1,h2,h3,h4,h5⟩:=h;refine⟨by simp[h1],?_,?_,?_,.inr ⟨mb,_,_,rfl,hB,hm,?_⟩⟩
 .rw[Y4];refine⟨h2,by simp,fun x hx y hy=>?_⟩;simp at hy;subst hy;have:=(hty x hx).lt;omega
 .intro x hx;rcases ZM.1 hx with hx|hx
  .exact h3 x hx
  .simp at hx;omega
 .intro j l' s' x' e1 e2;by_cases hj:j < L.length
  .rw[ZP hj]at e1;rw[ZP (by omega)]at e2;obtain⟨gv,bv,cv,g1,g2,g3,g4⟩:=h4 j l' s' x' e1 e2;exact⟨gv,bv,cv,g1.only ho (hX l' (ZY e1)),g2,g3,g4⟩
  .have hj2:j=L.length:=by
    have:=(Z1.1 e1).1;simp at this;omega
   subst hj2;simp at e1;rw[h1]at e2;simp at e2;obtain⟨rfl,rfl⟩:=e2;subst e1;exact⟨_,_,_,hl,⟨a,ha,rfl⟩,rfl,rfl⟩
 .simp[hes,List.zip_append h1.symm]
theorem Ly {w:World} {B b b0:Nat} {A:List Nat} {NV:List Value} {L:List Nat} {S:BS} {tg:List Tg} {M:Mk} (h:Xd w B b b0 A NV L S tg M) (hn:S.Z6.length<=100000) {s:ByteArray} (hq: ∀ y∈S.ZT,y.1≠s) {lv:Value} (hlv:Xo (Hv w 0) lv s):
  Calls prog 98 #[b,lv,.pointer none] w fun e w'=> ∃ a l,e=.returned (.pointer (some ⟨l,0,none⟩))/\Xd w' B b b0 (A++ [a]) (NV++ [.slice none 0 0]) (L++ [l]) ((S.new 10 none).lab s ⟨S.Z6.length,none,none⟩) tg M/\Fr bT B w w':=by
 obtain⟨la,lo,rfl,hla0,eI,hla⟩:=hlv;obtain⟨bv,cv,mv,tv,hb,hbv,hcv,hlb,UH⟩:=h.self;have hlook: ∀ n,(Instr.lookup 133 mv (.string s) false).run prog (w.drewN n)=.ok (.pointer none) (w.drewN n):=fun n=>(V2 hlb s).2.1 hq _ (by simp);have c3:=hb.cell 3 rfl;have d1:=hla.cell 1 rfl;have Hq:=Z5 hq;clear hq;obtain⟨mo,rfl⟩: ∃ mo,mv=.map mo:=by
  rcases hlb.2.2.2.2 with⟨rfl,_⟩ |⟨mb,es,ck,rfl,_⟩
  .exact⟨_,rfl⟩
  .exact⟨_,rfl⟩
 have hmm:= @run_makeMap prog;go_enter func98,ntmps98;go_wp2_with fail
 go_quiet (fail)
 go_wp2_with fail
 refine(U8 (h.drewN nq) hn 10 .nilIface none rfl).mono ?_;rintro e w1 ⟨a,rfl,h1,f1⟩;clear hlook c3 d1 hb hbv hcv hlb UH;obtain⟨bv,cv,mv,tv,hb,hbv,hcv,hlb,UH⟩:=h1.self;have hs1:=f1.size;simp at hs1;have Pb:=(hla.fr ((Fr.refl bT B w).drewN nq) (by decide)).fr f1 (by decide);rcases hlb.2.2.2.2 with⟨rfl,hnil⟩ |⟨mb,es,ck,rfl,hBm,hmb,hes⟩
 .have FU:=(hb.alloc (.cells [.pointer (some ⟨a,0,none⟩),.pointer none,.pointer none].toArray 193)).alloc (.map #[] 0);have eH:=(hb.alloc (.cells [.pointer (some ⟨a,0,none⟩),.pointer none,.pointer none].toArray 193)).cell 3 rfl;have c3:=FU.cell 3 rfl;have AG:=FU.free 3;have hBb:=h.hB;have hblt:=hb.lt;have o6:=Pb.lt;have Jv:(w1.setCell ⟨b,3,none⟩ (.map (some (w1.heap.size+1)))).heap.size=w1.heap.size:=by simp[World.setCell]
  have hbW:=((hb.set 3 (.map (some (w1.heap.size+1)))).alloc (.cells [.pointer (some ⟨a,0,none⟩),.pointer none,.pointer none].toArray 193)).alloc (.map #[] 0);have MN:=((Pb.setOther ⟨b,3,none⟩ (.map (some (w1.heap.size+1))) (Zq.ne Pb.ty hb.ty (by decide))).alloc (.cells [.pointer (some ⟨a,0,none⟩),.pointer none,.pointer none].toArray 193)).alloc (.map #[] 0);have d3:=hbW.cell 3 rfl;have d1:=MN.cell 1 rfl;have QS:(((w1.setCell ⟨b,3,none⟩ (.map (some (w1.heap.size+1)))).alloc (.cells [.pointer (some ⟨a,0,none⟩),.pointer none,.pointer none].toArray 193)).alloc (.map #[] 0)).drew.heap[w1.heap.size+1]? =some (.map #[] 0):=by
   have:=heap_alloc_new ((w1.setCell ⟨b,3,none⟩ (.map (some (w1.heap.size+1)))).alloc (.cells [.pointer (some ⟨a,0,none⟩),.pointer none,.pointer none].toArray 193)) (.map #[] 0);rw[show((w1.setCell ⟨b,3,none⟩ (.map (some (w1.heap.size+1)))).alloc (.cells [.pointer (some ⟨a,0,none⟩),.pointer none,.pointer none].toArray 193)).heap.size=w1.heap.size+1 by simp[World.setCell]]at this;exact this
  have Ea:_=Result.ok () (putObj _ (w1.heap.size+1) (.map #[⟨.string s,.pointer (some ⟨w1.heap.size,0,none⟩),0⟩] 1)):=RP QS s (.pointer (some ⟨w1.heap.size,0,none⟩)) rfl;have hne: ∀ w:World,(binOp .eql 133 (.map none) (.map none)).run prog w=.ok (.bool true) w:=fun w=>by
   have:=run_eql_map_nil (P:=prog) w 133 9 157 none underlying133;simpa using this
  have hpo:=Ws (((w1.setCell ⟨b,3,none⟩ (.map (some (w1.heap.size+1)))).alloc (.cells [.pointer (some ⟨a,0,none⟩),.pointer none,.pointer none].toArray 193)).alloc (.map #[] 0)).drew (w1.heap.size+1) (.map #[⟨.string s,.pointer (some ⟨w1.heap.size,0,none⟩),0⟩] 1);have D9:=hbW.drew.only hpo (by simp;omega);have AF:=MN.drew.only hpo (by simp;omega);have uF:=D9.cell 3 rfl;have uE:=AF.cell 1 rfl;have eG:=hbW.drew.cell 3 rfl;have eF:=MN.drew.cell 1 rfl;clear Jv;go_wp2_with fail
  go_region_held3 (fun w'=>w'.cell? ⟨b,3,none⟩=some (.map (some (w1.heap.size+1)))/\w'.cell? ⟨la,1,none⟩=some (.string s)) (first|go_keep) (fail)
  go_wp2_with fail
  go_ret;have Jv:(w1.setCell ⟨b,3,none⟩ (.map (some (w1.heap.size+1)))).heap.size=w1.heap.size:=by simp[World.setCell]
  have fW:Fr bT B w1 (((w1.setCell ⟨b,3,none⟩ (.map (some (w1.heap.size+1)))).alloc (.cells [.pointer (some ⟨a,0,none⟩),.pointer none,.pointer none].toArray 193)).alloc (.map #[] 0)):=(((Fr.refl bT B w1).X9 ⟨b,3,none⟩ (.map (some (w1.heap.size+1))) hb.ty (by decide) hBb).alloc (by omega) _).alloc (by simp;omega) _;have fP:Fr bT B w1 (putObj (((w1.setCell ⟨b,3,none⟩ (.map (some (w1.heap.size+1)))).alloc (.cells [.pointer (some ⟨a,0,none⟩),.pointer none,.pointer none].toArray 193)).alloc (.map #[] 0)).drew (w1.heap.size+1) (.map #[⟨.string s,.pointer (some ⟨w1.heap.size,0,none⟩),0⟩] 1)):=fW.drew.trans (TH QS (by omega) bT _);have oP:Only [b,w1.heap.size+1] w1 (putObj (((w1.setCell ⟨b,3,none⟩ (.map (some (w1.heap.size+1)))).alloc (.cells [.pointer (some ⟨a,0,none⟩),.pointer none,.pointer none].toArray 193)).alloc (.map #[] 0)).drew (w1.heap.size+1) (.map #[⟨.string s,.pointer (some ⟨w1.heap.size,0,none⟩),0⟩] 1)):=((((Only.refl [b,w1.heap.size+1] w1).set ⟨b,3,none⟩ (.map (some (w1.heap.size+1))) (.inl (by simp))).alloc _).alloc _).drew.trans (hpo.mono (by simp));have AE:ZD (putObj (((w1.setCell ⟨b,3,none⟩ (.map (some (w1.heap.size+1)))).alloc (.cells [.pointer (some ⟨a,0,none⟩),.pointer none,.pointer none].toArray 193)).alloc (.map #[] 0)).drew (w1.heap.size+1) (.map #[⟨.string s,.pointer (some ⟨w1.heap.size,0,none⟩),0⟩] 1)) w1.heap.size _ _:=(((ZD.new' Jv.symm [.pointer (some ⟨a,0,none⟩),.pointer none,.pointer none] 193).alloc (.map #[] 0)).drew).only hpo (by simp);have hes:(#[]:Array MapEntry).toList.map (fun e=>(e.key,e.val))=((S.new 10 none).ZT.zip L).map (fun x=>(Value.string x.1.1,Value.pointer (some ⟨x.2,0,none⟩))):=by rw[hnil];simp
  have hszW:w1.heap.size+1 < (((w1.setCell ⟨b,3,none⟩ (.map (some (w1.heap.size+1)))).alloc (.cells [.pointer (some ⟨a,0,none⟩),.pointer none,.pointer none].toArray 193)).alloc (.map #[] 0)).drew.heap.size:=by
   show _ < (((w1.setCell ⟨b,3,none⟩ (.map (some (w1.heap.size+1)))).alloc (.cells [.pointer (some ⟨a,0,none⟩),.pointer none,.pointer none].toArray 193)).alloc (.map #[] 0)).heap.size;simp[World.setCell]
  have D8:=TI hszW (.map #[⟨.string s,.pointer (some ⟨w1.heap.size,0,none⟩),0⟩] 1);have D7:(#[⟨.string s,.pointer (some ⟨w1.heap.size,0,none⟩),0⟩]:Array MapEntry)=(#[]:Array MapEntry).push ⟨.string s,.pointer (some ⟨w1.heap.size,0,none⟩),0⟩:=rfl;refine⟨a,w1.heap.size,rfl,?_⟩;clear Ea hpo AF uF uE eG eF fW QS hszW hne eH c3 AG FU hbW MN d3 d1;generalize(putObj (((w1.setCell ⟨b,3,none⟩ (.map (some (w1.heap.size+1)))).alloc (.cells [.pointer (some ⟨a,0,none⟩),.pointer none,.pointer none].toArray 193)).alloc (.map #[] 0)).drew (w1.heap.size+1) (.map #[⟨.string s,.pointer (some ⟨w1.heap.size,0,none⟩),0⟩] 1))=wP at*;rw[D7]at D8;have hL:=hlb.push oP (fun l hl hc=>by
   have h2:=hlb.ty l hl;have h3:=h2.lt;simp at hc;rcases hc with rfl|rfl
   .exact Zq.ne h2 hb.ty (by decide) rfl
   .omega) (by omega) (Z7 _) AE (g:=S.Z6.length) (by rw[<-h.US];simp) hes (by omega) D8
  exact⟨h1.G9 hb hbv hcv UH oP fP (fun x hx=>by
   simp at hx;rcases hx with rfl|rfl
   .exact .inl rfl
   .exact .inr (fun t ht=>by have:=ht.lt;omega)) D9 hL,((Fr.refl bT B w).drewN nq).trans (f1.trans fP)⟩
 .have uD:=hlb.mlt rfl;have FU:=hb.alloc (.cells [.pointer (some ⟨a,0,none⟩),.pointer none,.pointer none].toArray 193);have hlA:=Pb.alloc (.cells [.pointer (some ⟨a,0,none⟩),.pointer none,.pointer none].toArray 193);have c3:=FU.cell 3 rfl;have d1:=hlA.cell 1 rfl;have QS:(w1.alloc (.cells [.pointer (some ⟨a,0,none⟩),.pointer none,.pointer none].toArray 193)).drew.heap[mb]? =some (.map es ck):=(Below.heap_alloc _ _ _ uD).trans hmb;have Ea:=RP QS s (.pointer (some ⟨w1.heap.size,0,none⟩)) ((V2 hlb s).2.2 Hq.out mb es ck rfl hmb);have hne: ∀ w:World,(binOp .eql 133 (.map (some mb)) (.map none)).run prog w=.ok (.bool false) w:=fun w=>by
   have:=run_eql_map_nil (P:=prog) w 133 9 157 (some mb) underlying133;simpa using this
  have hpo:=Ws (w1.alloc (.cells [.pointer (some ⟨a,0,none⟩),.pointer none,.pointer none].toArray 193)).drew mb (.map (es.push ⟨.string s,.pointer (some ⟨w1.heap.size,0,none⟩),ck⟩) (ck+1));have Bu: ∀ x t,Zq w1 x t->x∉ [mb]:=fun x t hx hc=>hlb.W5 rfl hx (by simpa using Eq.symm (by simpa using hc));have D9:=FU.drew.only hpo (Bu b 136 hb.ty);have AF:=hlA.drew.only hpo (Bu la 219 Pb.ty);have uF:=D9.cell 3 rfl;have uE:=AF.cell 1 rfl;go_wp2_with fail
  go_region_held3 (fun w'=>w'.cell? ⟨b,3,none⟩=some (.map (some mb))/\w'.cell? ⟨la,1,none⟩=some (.string s)) (first|go_keep|exact⟨uF,uE⟩) (fail)
  go_wp2_with fail
  go_ret;have hsz:(w1.alloc (.cells [.pointer (some ⟨a,0,none⟩),.pointer none,.pointer none].toArray 193)).drew.heap.size=w1.heap.size+1:=by simp[World.drew]
  have hBb:=h.hB;have hblt:=hb.lt
  have fP:Fr bT B w1 (putObj (w1.alloc (.cells [.pointer (some ⟨a,0,none⟩),.pointer none,.pointer none].toArray 193)).drew mb (.map (es.push ⟨.string s,.pointer (some ⟨w1.heap.size,0,none⟩),ck⟩) (ck+1))):=
   (((Fr.refl bT B w1).alloc (by omega) _).drew).trans (TH QS hBm bT _)
  have oP:Only [mb] w1 (putObj (w1.alloc (.cells [.pointer (some ⟨a,0,none⟩),.pointer none,.pointer none].toArray 193)).drew mb (.map (es.push ⟨.string s,.pointer (some ⟨w1.heap.size,0,none⟩),ck⟩) (ck+1))):=
   ((Only.refl [mb] w1).alloc _).drew.trans hpo
  have AE:=((ZD.new w1 [.pointer (some ⟨a,0,none⟩),.pointer none,.pointer none] 193).drew).only hpo (by simp;omega);have hL:=hlb.push oP (fun l hl=>Bu l 193 (hlb.ty l hl)) (by omega) (Z7 _) AE (g:=S.Z6.length) (by rw[<-h.US];simp) hes hBm (TI (by omega) _);exact⟨a,w1.heap.size,rfl,h1.G9 hb hbv hcv UH oP fP (fun x hx=>.inr (fun t ht=>Bu x t ht hx)) D9 hL,((Fr.refl bT B w).drewN nq).trans (f1.trans fP)⟩
end
section
theorem PZ {w:World} {B b b0:Nat} {A:List Nat} {NV:List Value} {L:List Nat} {S:BS} {tg:List Tg} {M:Mk} (h:Xd w B b b0 A NV L S tg M) (hn:S.Z6.length<=100000) {s:ByteArray} (hq: ∀ y∈S.ZT,y.1≠s) {lv:Value} (hlv:Xo (Hv w 0) lv s) {sa:Nat} {XH u2:Value} {s2:ByteArray} (hsa:Hv w 0 sa [XH,.int .i64 0,u2] 190) (hlv2:Xo (Hv w 0) XH s2):
  Calls prog 98 #[b,lv,sa] w fun e w'=> ∃ a l,e=.returned (.pointer (some ⟨l,0,none⟩))/\Xd w' B b b0 (A++ [a]) (NV++ [.slice none 0 0]) (L++ [l]) (((S.new 10 none).lab s ⟨S.Z6.length,none,none⟩).set S.Z6.length ⟨10,some 0,[],[],false,false⟩) tg M/\Fr bT B w w':=by
 obtain⟨la,lo,rfl,hla0,eI,hla⟩:=hlv;obtain⟨bv,cv,mv,tv,hb,hbv,hcv,hlb,UH⟩:=h.self;have hlook: ∀ n,(Instr.lookup 133 mv (.string s) false).run prog (w.drewN n)=.ok (.pointer none) (w.drewN n):=fun n=>(V2 hlb s).2.1 hq _ (by simp);have c3:=hb.cell 3 rfl;have d1:=hla.cell 1 rfl;have Hq:=Z5 hq;clear hq;obtain⟨mo,rfl⟩: ∃ mo,mv=.map mo:=by
  rcases hlb.2.2.2.2 with⟨rfl,_⟩ |⟨mb,es,ck,rfl,_⟩
  .exact⟨_,rfl⟩
  .exact⟨_,rfl⟩
 have hmm:= @run_makeMap prog;go_enter func98,ntmps98;go_wp2_with fail
 go_quiet (fail)
 go_wp2_with fail
 refine(U8 (h.drewN nq) hn 10 .nilIface none rfl).mono ?_;rintro e w1 ⟨a,rfl,h1,f1⟩;clear hlook c3 d1 hb hbv hcv hlb UH;obtain⟨bv,cv,mv,tv,hb,hbv,hcv,hlb,UH⟩:=h1.self;have hs1:=f1.size;simp at hs1;have Pb:=(hla.fr ((Fr.refl bT B w).drewN nq) (by decide)).fr f1 (by decide);have hgA:(A++ [a])[S.Z6.length]? =some a:=by rw[<-h.US];simp
 have hkN:(S.new 10 none).Z6[S.Z6.length]? =some ⟨10,none,[],[],false,false⟩:=by simp[BS.new]
 have oZ:(NV++ [Value.slice none 0 0])[S.Z6.length]? =some (.slice none 0 0):=by rw[<-h.VU];simp
 obtain⟨a',sv,p0,p1,ns,g1,g2,g3,g4,g5,g6,g7,g8,g9⟩:=h1.Z6 S.Z6.length _ _ hkN oZ;rw[hgA]at g1;cases g1;obtain rfl:=g6;have HG:=X7 hgA hkN oZ;clear hgA hkN oZ;have oY:X4 (Hv w1 0) (.iface 186 (.pointer (some ⟨sa,0,none⟩))) (some 0):=(show X4 (Hv w 0) _ (some 0)from .inr (.inl ⟨rfl,sa,XH,u2,s2,rfl,hsa,hlv2⟩)).mono (Hv.bT (((Fr.refl bT B w).drewN nq).trans f1));have halt:=g2.lt;rcases hlb.2.2.2.2 with⟨rfl,hnil⟩ |⟨mb,es,ck,rfl,hBm,hmb,hes⟩
 .have FU:=(hb.alloc (.cells [.pointer (some ⟨a,0,none⟩),.pointer none,.pointer none].toArray 193)).alloc (.map #[] 0);have eH:=(hb.alloc (.cells [.pointer (some ⟨a,0,none⟩),.pointer none,.pointer none].toArray 193)).cell 3 rfl;have c3:=FU.cell 3 rfl;have AG:=FU.free 3;have hBb:=h.hB;have hblt:=hb.lt;have o6:=Pb.lt;have Jv:(w1.setCell ⟨b,3,none⟩ (.map (some (w1.heap.size+1)))).heap.size=w1.heap.size:=by simp[World.setCell]
  have hbW:=((hb.set 3 (.map (some (w1.heap.size+1)))).alloc (.cells [.pointer (some ⟨a,0,none⟩),.pointer none,.pointer none].toArray 193)).alloc (.map #[] 0);have MN:=((Pb.setOther ⟨b,3,none⟩ (.map (some (w1.heap.size+1))) (Zq.ne Pb.ty hb.ty (by decide))).alloc (.cells [.pointer (some ⟨a,0,none⟩),.pointer none,.pointer none].toArray 193)).alloc (.map #[] 0);have d3:=hbW.cell 3 rfl;have d1:=MN.cell 1 rfl;have QS:(((w1.setCell ⟨b,3,none⟩ (.map (some (w1.heap.size+1)))).alloc (.cells [.pointer (some ⟨a,0,none⟩),.pointer none,.pointer none].toArray 193)).alloc (.map #[] 0)).drew.heap[w1.heap.size+1]? =some (.map #[] 0):=by
   have:=heap_alloc_new ((w1.setCell ⟨b,3,none⟩ (.map (some (w1.heap.size+1)))).alloc (.cells [.pointer (some ⟨a,0,none⟩),.pointer none,.pointer none].toArray 193)) (.map #[] 0);rw[show((w1.setCell ⟨b,3,none⟩ (.map (some (w1.heap.size+1)))).alloc (.cells [.pointer (some ⟨a,0,none⟩),.pointer none,.pointer none].toArray 193)).heap.size=w1.heap.size+1 by simp[World.setCell]]at this;exact this
  have Ea:_=Result.ok () (putObj _ (w1.heap.size+1) (.map #[⟨.string s,.pointer (some ⟨w1.heap.size,0,none⟩),0⟩] 1)):=RP QS s (.pointer (some ⟨w1.heap.size,0,none⟩)) rfl;have hne: ∀ w:World,(binOp .eql 133 (.map none) (.map none)).run prog w=.ok (.bool true) w:=fun w=>by
   have:=run_eql_map_nil (P:=prog) w 133 9 157 none underlying133;simpa using this
  have hpo:=Ws (((w1.setCell ⟨b,3,none⟩ (.map (some (w1.heap.size+1)))).alloc (.cells [.pointer (some ⟨a,0,none⟩),.pointer none,.pointer none].toArray 193)).alloc (.map #[] 0)).drew (w1.heap.size+1) (.map #[⟨.string s,.pointer (some ⟨w1.heap.size,0,none⟩),0⟩] 1);have D9:=hbW.drew.only hpo (by simp;omega);have AF:=MN.drew.only hpo (by simp;omega);have uF:=D9.cell 3 rfl;have uE:=AF.cell 1 rfl;have eG:=hbW.drew.cell 3 rfl;have eF:=MN.drew.cell 1 rfl;have oU:ZD (putObj (((w1.setCell ⟨b,3,none⟩ (.map (some (w1.heap.size+1)))).alloc (.cells [.pointer (some ⟨a,0,none⟩),.pointer none,.pointer none].toArray 193)).alloc (.map #[] 0)).drew (w1.heap.size+1) (.map #[⟨.string s,.pointer (some ⟨w1.heap.size,0,none⟩),0⟩] 1)) a _ _:=(((g2.setOther ⟨b,3,none⟩ (.map (some (w1.heap.size+1))) (Zq.ne g2.ty hb.ty (by decide))).alloc (.cells [.pointer (some ⟨a,0,none⟩),.pointer none,.pointer none].toArray 193)).alloc (.map #[] 0)).drew.only hpo (by simp;omega);have AE:ZD (putObj (((w1.setCell ⟨b,3,none⟩ (.map (some (w1.heap.size+1)))).alloc (.cells [.pointer (some ⟨a,0,none⟩),.pointer none,.pointer none].toArray 193)).alloc (.map #[] 0)).drew (w1.heap.size+1) (.map #[⟨.string s,.pointer (some ⟨w1.heap.size,0,none⟩),0⟩] 1)) w1.heap.size _ _:=(((ZD.new' Jv.symm [.pointer (some ⟨a,0,none⟩),.pointer none,.pointer none] 193).alloc (.map #[] 0)).drew).only hpo (by simp);have k0:=AE.cell 0 rfl;have k6:=oU.cell 6 rfl;have kf:=oU.free 6;clear Jv;go_wp2_with fail
  go_region_held3 (fun w'=>w'.cell? ⟨b,3,none⟩=some (.map (some (w1.heap.size+1)))/\w'.cell? ⟨la,1,none⟩=some (.string s)) (first|go_keep) (fail)
  go_wp2_with fail
  go_ret;have Jv:(w1.setCell ⟨b,3,none⟩ (.map (some (w1.heap.size+1)))).heap.size=w1.heap.size:=by simp[World.setCell]
  have fW:Fr bT B w1 (((w1.setCell ⟨b,3,none⟩ (.map (some (w1.heap.size+1)))).alloc (.cells [.pointer (some ⟨a,0,none⟩),.pointer none,.pointer none].toArray 193)).alloc (.map #[] 0)):=(((Fr.refl bT B w1).X9 ⟨b,3,none⟩ (.map (some (w1.heap.size+1))) hb.ty (by decide) hBb).alloc (by omega) _).alloc (by simp;omega) _;have fP:Fr bT B w1 (putObj (((w1.setCell ⟨b,3,none⟩ (.map (some (w1.heap.size+1)))).alloc (.cells [.pointer (some ⟨a,0,none⟩),.pointer none,.pointer none].toArray 193)).alloc (.map #[] 0)).drew (w1.heap.size+1) (.map #[⟨.string s,.pointer (some ⟨w1.heap.size,0,none⟩),0⟩] 1)):=fW.drew.trans (TH QS (by omega) bT _);have oP:Only [b,w1.heap.size+1] w1 (putObj (((w1.setCell ⟨b,3,none⟩ (.map (some (w1.heap.size+1)))).alloc (.cells [.pointer (some ⟨a,0,none⟩),.pointer none,.pointer none].toArray 193)).alloc (.map #[] 0)).drew (w1.heap.size+1) (.map #[⟨.string s,.pointer (some ⟨w1.heap.size,0,none⟩),0⟩] 1)):=((((Only.refl [b,w1.heap.size+1] w1).set ⟨b,3,none⟩ (.map (some (w1.heap.size+1))) (.inl (by simp))).alloc _).alloc _).drew.trans (hpo.mono (by simp));have hes:(#[]:Array MapEntry).toList.map (fun e=>(e.key,e.val))=((S.new 10 none).ZT.zip L).map (fun x=>(Value.string x.1.1,Value.pointer (some ⟨x.2,0,none⟩))):=by rw[hnil];simp
  have hszW:w1.heap.size+1 < (((w1.setCell ⟨b,3,none⟩ (.map (some (w1.heap.size+1)))).alloc (.cells [.pointer (some ⟨a,0,none⟩),.pointer none,.pointer none].toArray 193)).alloc (.map #[] 0)).drew.heap.size:=by
   show _ < (((w1.setCell ⟨b,3,none⟩ (.map (some (w1.heap.size+1)))).alloc (.cells [.pointer (some ⟨a,0,none⟩),.pointer none,.pointer none].toArray 193)).alloc (.map #[] 0)).heap.size;simp[World.setCell]
  have D8:=TI hszW (.map #[⟨.string s,.pointer (some ⟨w1.heap.size,0,none⟩),0⟩] 1);have D7:(#[⟨.string s,.pointer (some ⟨w1.heap.size,0,none⟩),0⟩]:Array MapEntry)=(#[]:Array MapEntry).push ⟨.string s,.pointer (some ⟨w1.heap.size,0,none⟩),0⟩:=rfl;refine⟨a,w1.heap.size,rfl,?_⟩;clear Ea hpo AF uF uE eG eF fW QS hszW hne eH c3 AG FU hbW MN d3 d1 k0 k6 kf;generalize(putObj (((w1.setCell ⟨b,3,none⟩ (.map (some (w1.heap.size+1)))).alloc (.cells [.pointer (some ⟨a,0,none⟩),.pointer none,.pointer none].toArray 193)).alloc (.map #[] 0)).drew (w1.heap.size+1) (.map #[⟨.string s,.pointer (some ⟨w1.heap.size,0,none⟩),0⟩] 1))=wP at*;rw[D7]at D8;have hL:=hlb.push oP (fun l hl hc=>by
   have h2:=hlb.ty l hl;have h3:=h2.lt;simp at hc;rcases hc with rfl|rfl
   .exact Zq.ne h2 hb.ty (by decide) rfl
   .omega) (by omega) (Z7 _) AE (g:=S.Z6.length) (by rw[<-h.US];simp) hes (by omega) D8
  obtain⟨hgA,hkN,oZ⟩:=HG.out;have uC:=h1.G9 hb hbv hcv UH oP fP (fun x hx=>by
   simp at hx;rcases hx with rfl|rfl
   .exact .inl rfl
   .exact .inr (fun t ht=>by have:=ht.lt;omega)) D9 hL
  obtain⟨hO,fO⟩:=uC.setOf (g:=S.Z6.length) (k:=⟨10,none,[],[],false,false⟩) hkN hgA (oY.mono (Hv.bT fP));exact⟨hO,((Fr.refl bT B w).drewN nq).trans (f1.trans (fP.trans fO))⟩
 .have uD:=hlb.mlt rfl;have FU:=hb.alloc (.cells [.pointer (some ⟨a,0,none⟩),.pointer none,.pointer none].toArray 193);have hlA:=Pb.alloc (.cells [.pointer (some ⟨a,0,none⟩),.pointer none,.pointer none].toArray 193);have c3:=FU.cell 3 rfl;have d1:=hlA.cell 1 rfl;have QS:(w1.alloc (.cells [.pointer (some ⟨a,0,none⟩),.pointer none,.pointer none].toArray 193)).drew.heap[mb]? =some (.map es ck):=(Below.heap_alloc _ _ _ uD).trans hmb;have Ea:=RP QS s (.pointer (some ⟨w1.heap.size,0,none⟩)) ((V2 hlb s).2.2 Hq.out mb es ck rfl hmb);have hne: ∀ w:World,(binOp .eql 133 (.map (some mb)) (.map none)).run prog w=.ok (.bool false) w:=fun w=>by
   have:=run_eql_map_nil (P:=prog) w 133 9 157 (some mb) underlying133;simpa using this
  have hpo:=Ws (w1.alloc (.cells [.pointer (some ⟨a,0,none⟩),.pointer none,.pointer none].toArray 193)).drew mb (.map (es.push ⟨.string s,.pointer (some ⟨w1.heap.size,0,none⟩),ck⟩) (ck+1));have Bu: ∀ x t,Zq w1 x t->x∉ [mb]:=fun x t hx hc=>hlb.W5 rfl hx (by simpa using Eq.symm (by simpa using hc));have D9:=FU.drew.only hpo (Bu b 136 hb.ty);have AF:=hlA.drew.only hpo (Bu la 219 Pb.ty);have uF:=D9.cell 3 rfl;have uE:=AF.cell 1 rfl;have oU:=(g2.alloc (.cells [.pointer (some ⟨a,0,none⟩),.pointer none,.pointer none].toArray 193)).drew.only hpo (Bu a 99 g2.ty);have AE:=((ZD.new w1 [.pointer (some ⟨a,0,none⟩),.pointer none,.pointer none] 193).drew).only hpo (by simp;omega);have k0:=AE.cell 0 rfl;have k6:=oU.cell 6 rfl;have kf:=oU.free 6;go_wp2_with fail
  go_region_held3 (fun w'=>w'.cell? ⟨b,3,none⟩=some (.map (some mb))/\w'.cell? ⟨la,1,none⟩=some (.string s)) (first|go_keep|exact⟨uF,uE⟩) (fail)
  go_wp2_with fail
  go_ret;have hsz:(w1.alloc (.cells [.pointer (some ⟨a,0,none⟩),.pointer none,.pointer none].toArray 193)).drew.heap.size=w1.heap.size+1:=by simp[World.drew]
  have hBb:=h.hB;have hblt:=hb.lt
  have fP:Fr bT B w1 (putObj (w1.alloc (.cells [.pointer (some ⟨a,0,none⟩),.pointer none,.pointer none].toArray 193)).drew mb (.map (es.push ⟨.string s,.pointer (some ⟨w1.heap.size,0,none⟩),ck⟩) (ck+1))):=
   (((Fr.refl bT B w1).alloc (by omega) _).drew).trans (TH QS hBm bT _)
  have oP:Only [mb] w1 (putObj (w1.alloc (.cells [.pointer (some ⟨a,0,none⟩),.pointer none,.pointer none].toArray 193)).drew mb (.map (es.push ⟨.string s,.pointer (some ⟨w1.heap.size,0,none⟩),ck⟩) (ck+1))):=
   ((Only.refl [mb] w1).alloc _).drew.trans hpo
  have hL:=hlb.push oP (fun l hl=>Bu l 193 (hlb.ty l hl)) (by omega) (Z7 _) AE (g:=S.Z6.length) (by rw[<-h.US];simp) hes hBm (TI (by omega) _);obtain⟨hgA,hkN,oZ⟩:=HG.out;have uC:=h1.G9 hb hbv hcv UH oP fP (fun x hx=>.inr (fun t ht=>Bu x t ht hx)) D9 hL;obtain⟨hO,fO⟩:=uC.setOf (g:=S.Z6.length) (k:=⟨10,none,[],[],false,false⟩) hkN hgA (oY.mono (Hv.bT fP));exact⟨a,w1.heap.size,rfl,hO,((Fr.refl bT B w).drewN nq).trans (f1.trans (fP.trans fO))⟩
end
section
theorem X6 {a:Nat} {pos:Int} {w:World} (h:VI (Hv w 0) a pos):
  Calls prog 201 #[a] w fun e w'=>e=.returned (.int .i64 pos)/\w=w':=by
 obtain⟨s,o,_,_,hb⟩:=h;have c0:=hb.cell 0 rfl;go_enter func201,ntmps201
 go_wp2
 go_ret;exact⟨rfl,rfl⟩
theorem QR (a:Addr) (w:World):(method 447 188 (.pointer (some a)) "Pos").run prog w=.ok (201,.pointer (some a)) w:=by kernel_rfl
theorem Qt {a:Nat} {pos:Int} {w:World} (h:Vb (Hv w 0) a pos):
  Calls prog 89 #[a] w fun e w'=>e=.returned (.int .i64 pos)/\w=w':=by
 obtain⟨f,⟨_,_,hb⟩,ia,rfl,hi⟩:=h;have c0:=hb.cell 0 rfl;have hp:=QR ⟨ia,0,none⟩ w;go_enter func89,ntmps89;go_wp2_with fail
 refine(X6 hi).mono ?_;rintro e w' ⟨rfl,rfl⟩;go_wp2_with fail
 go_ret;exact⟨rfl,rfl⟩
end
section
def BS.newP (S:BS) (k:Int) (o:Option Int):Option BS:=if S.Z6.length<=100000 then some (S.new k o)else none
def BS.Qs (S:BS) (f:Bk->Option Bk):Option BS:=S.cur.bind fun c=>S.Z6[c]?.bind fun k=>(f k).map (S.set c)
def BS.Yk (S:BS) (n:Vt):Option BS:=S.Qs fun k=>if k.nodes.length<=100000 then some { k with nodes:=k.nodes++ [n] } else none
def BS.YG (S:BS) (t:Nat):Option BS:=(S.Qs fun k=>if k.succs= []/\t < S.Z6.length then some { k with succs:= [t] } else none).map BS.Nh
def BS.Lx (S:BS) (t t2:Nat):Option BS:=(S.Qs fun k=>if k.succs= []/\t < S.Z6.length/\t2 < S.Z6.length then some { k with succs:= [t,t2] } else none).map BS.Nh
def BS.UG (S:BS):Option BS:=S.Qs fun k=>some { k with Yz:=true }
def BS.ask (S:BS) (x:Int):BS:= { S with asked:=S.asked++ [x] }
def BS.RN (S:BS) (n:Nat):Option BS:=if S.asked.length<=50000/\n<=100000 then some (S.ask n)else none
def BS.Yb (S:BS) (s:ByteArray):Option Nat:=S.ZT.findIdx? fun y=>decide (y.1.data=s.data)
def BS.UQ (S:BS) (s:ByteArray) (st:Bool):Option (Nat × BS):=
 match S.Yb s with
 |some j=>if st then S.ZT[j]?.bind fun y=>S.Z6[y.2.go]?.bind fun k=>if k.of=none then some (j,S.set y.2.go { k with of:=some 0 })else none else some (j,S)
 |none=>(S.newP 10 none).map fun S1=>(S.ZT.length,if st then(S1.lab s ⟨S.Z6.length,none,none⟩).set S.Z6.length ⟨10,some 0,[],[],false,false⟩else S1.lab s ⟨S.Z6.length,none,none⟩)
def BS.W0 (S:BS) (j:Nat) (f:Lb->Lb):BS:= { S with ZT:=S.ZT.modify j fun y=>(y.1,f y.2) }
def BS.XG (S:BS) (lab:Option Nat) (d:Nat):BS:=match lab with
 |none=>S
 |some j=>S.W0 j fun x=> { x with brk:=some d }
def BS.Sl (S:BS) (lab:Option Nat) (d:Nat):BS:=match lab with
 |none=>S
 |some j=>S.W0 j fun x=> { x with cnt:=some d }
def BS.newAt (S:BS) (k:Int) (o:Option Int):Option BS:=(S.newP k o).map fun S1=>S1.at S.Z6.length
def BS.aim (S:BS) (kind:Int) (target:ByteArray) (tg:List Tg):Option (Option Nat × BS):=
 if 0 < target.size then(S.UQ target false).bind fun r=>r.2.ZT[r.1]?.map fun y=>(if kind=17 then y.2.brk else if kind=18 then y.2.cnt else some y.2.go,r.2)
 else some (if kind=17 then tg.findSome? Tg.brk else if kind=18 then tg.findSome? Tg.cnt else tg.findSome? Tg.Xw,S)
def BS.aimed (r:Option Nat × BS):Option (Nat × BS):=match r.1 with
 |some t=>some (t,r.2)
 |none=>(r.2.newP 1 (some 0)).map fun S2=>(r.2.Z6.length,S2)
def BS.Ys (S:BS) (kind:Int) (target:ByteArray) (tg:List Tg):Option BS:=
 (S.aim kind target tg).bind fun r=>(BS.aimed r).bind fun q=>(q.2.YG q.1).bind fun S3=>S3.newAt 1 (some 0)
def BS.XB (S:BS) (is:Bool) (n:Nat):Option BS:=if is then S.Yk ⟨lp n,false⟩else some S
def BS.Yq (S:BS) (is:Bool) (k:Int) (i:Nat):Option BS:=if is then S.newP k (some (ip i))else some S
abbrev Lr:=List Tg->BS->Option BS
def AC (h:Hd) (n i:Nat) (tg:List Tg) (B E:Lr) (S:BS):Option BS:=
 (S.XB h.init n).bind fun S=>(S.newP 9 (some (ip i))).bind fun S1=>(S1.newP 7 (some (ip i))).bind fun S2=>(S2.Yq h.ZV 8 i).bind fun S3=>
 (S3.Yk ⟨lp (n+h.init.toNat),false⟩).bind fun S4=>(S4.Lx S.Z6.length (if h.ZV then S2.Z6.length else S1.Z6.length)).bind fun S5=>
 (B tg (S5.at S.Z6.length)).bind fun S6=>(S6.YG S1.Z6.length).bind fun S7=>
 (if h.ZV then(E tg (S7.at S2.Z6.length)).bind fun S8=>S8.YG S1.Z6.length else some S7).map fun S9=>S9.at S1.Z6.length
def Lw (h:Hd) (n i:Nat) (lab:Option Nat) (tg:List Tg) (B:Lr) (S:BS):Option BS:=
 (S.XB h.init n).bind fun S=>(S.newP 3 (some (ip i))).bind fun S1=>(S1.newP 4 (some (ip i))).bind fun S2=>(S2.Yq h.cond 5 i).bind fun S3=>(S3.Yq h.post 6 i).bind fun S4=>
 let loop:=if h.cond then S2.Z6.length else S.Z6.length
 let cont:=if h.post then S3.Z6.length else loop
 (((S4.XG lab S1.Z6.length).Sl lab cont).YG loop).bind fun S6=>
 (if h.cond then((S6.at loop).Yk ⟨lp (n+h.init.toNat),false⟩).bind fun S7=>(S7.Lx S.Z6.length S1.Z6.length).map fun S8=>S8.at S.Z6.length else some (S6.at loop)).bind fun S8=>
 (B (⟨some S1.Z6.length,some cont,none⟩::tg) S8).bind fun S9=>(S9.YG cont).bind fun RM=>
 (if h.post then((RM.at cont).Yk ⟨lp (n+h.init.toNat+h.cond.toNat),false⟩).bind fun EF=>EF.YG loop else some RM).map fun Pa=>Pa.at S1.Z6.length
def UF (n i:Nat) (lab:Option Nat) (tg:List Tg) (B:Lr) (S:BS):Option BS:=
 (S.Yk ⟨lp n,false⟩).bind fun S=>(S.newP 13 (some (ip i))).bind fun S1=>(S1.YG S.Z6.length).bind fun S2=>
 ((S2.at S.Z6.length).newP 11 (some (ip i))).bind fun S3=>(S3.newP 12 (some (ip i))).bind fun S4=>(S4.Lx S2.Z6.length S3.Z6.length).bind fun S5=>
 (B (⟨some S3.Z6.length,some S.Z6.length,none⟩::tg) (((S5.at S2.Z6.length).XG lab S3.Z6.length).Sl lab S.Z6.length)).bind fun S6=>(S6.YG S.Z6.length).map fun S7=>S7.at S3.Z6.length
def Xi (body:Nat) (p:Int):Nat->Nat->BS->Option BS
 |0,_,S=>some S
 |k+1,n,S=>(S.newP 19 (some p)).bind fun S1=>(S1.Yk ⟨lp n,false⟩).bind fun S2=>(S2.Lx body S.Z6.length).bind fun S3=>Xi body p k (n+1) (S3.at S.Z6.length)
def WZ (body:Nat) (p:Int):Nat->BS->Option BS
 |0,S=>some S
 |k+1,S=>(S.newP 19 (some p)).bind fun S1=>(S1.Lx body S.Z6.length).bind fun S3=>WZ body p k (S3.at S.Z6.length)
structure Df where
 blk:Nat
 run:Lr
 Xw:Nat
structure Bl where
 list:Nat->Nat->Lr
 sw:Nat->Nat->List Tg->Nat->Option Nat->Option Df->BS->Option BS
 ty:Nat->Nat->List Tg->Nat->Option Lr->BS->Option BS
 sel:Nat->Nat->List Tg->Nat->Option Lr->BS->Option BS
 comms:BS->Option BS
def RL (tg:List Tg) (done:Nat) (df:Option Df) (S:BS):Option BS:=match df with
 |none=>(S.YG done).map fun S1=>S1.at done
 |some d=>(S.YG d.blk).bind fun S1=>(d.run (⟨some done,none,some d.Xw⟩::tg) (S1.at d.blk)).bind fun S2=>(S2.YG done).map fun S3=>S3.at done
def RK (tg:List Tg) (done:Nat) (df:Option Lr) (S:BS):Option BS:=match df with
 |none=>(S.YG done).map fun S1=>S1.at done
 |some r=>(r (⟨some done,none,none⟩::tg) S).bind fun S2=>(S2.YG done).map fun S3=>S3.at done
def UE (tg:List Tg) (done:Nat) (df:Option Lr) (S:BS):Option BS:=match df with
 |none=>some (S.at done)
 |some r=>(r (⟨some done,none,none⟩::tg) S).bind fun S2=>(S2.YG done).map fun S3=>S3.at done
def BS.Sk (S:BS) (fall:Option Nat) (i:Nat):Option (Nat × BS):=match fall with
 |some f=>some (f,S)
 |none=>(S.newP 17 (some (ip i))).map fun S1=>(S.Z6.length,S1)
def BS.Sj (S:BS) (last:Bool) (done i:Nat):Option (Nat × BS):=if last then some (done,S)else(S.newP 17 (some (ip i))).map fun S1=>(S.Z6.length,S1)
def T.isNil:T->Bool
 | .nil=>true
 |_=>false
def TF (h:Hd) (n i:Nat) (lab:Option Nat) (C:Nat->BS->Option BS) (S:BS):Option BS:=
 (S.XB h.init n).bind fun S=>(S.XB h.cond (n+h.init.toNat)).bind fun S=>(S.newP 18 (some (ip i))).bind fun S1=>C S.Z6.length (S1.XG lab S.Z6.length)
def QQ (h:Hd) (n i:Nat) (lab:Option Nat) (C:Nat->BS->Option BS) (S:BS):Option BS:=
 (S.XB h.init n).bind fun S=>(S.Yk ⟨0,false⟩).bind fun S=>(S.newP 18 (some (ip i))).bind fun S1=>C S.Z6.length (S1.XG lab S.Z6.length)
def TE (i:Nat) (lab:Option Nat) (comms:BS->Option BS) (C:Nat->BS->Option BS) (S:BS):Option BS:=
 (comms S).bind fun S=>(S.newP 15 (some (ip i))).bind fun S1=>C S.Z6.length (S1.XG lab S.Z6.length)
def Yi (h:Hd) (n i:Nat) (lab:Option Nat) (tg:List Tg) (B E:Lr) (Sw Ty eE:Nat->BS->Option BS) (comms:BS->Option BS) (S:BS):Option BS:=
 if h.kind=1 then(S.Yk ⟨lp n,false⟩).bind fun S=>S.RN n
 else if h.kind=2 then(S.Yk ⟨lp n,false⟩).bind fun S=>(S.RN n).bind fun S=>S.newAt 1 (some (lp n))
 else if h.kind=7 then(S.Yk ⟨lp n,false⟩).bind BS.UG
 else if h.kind=9 then S.UG.bind fun S=>(S.Yk ⟨lp n,true⟩).bind fun S=>S.newAt 1 (some (lp n))
 else if h.kind<=8 then S.Yk ⟨lp n,false⟩
 else if h.kind=10 then AC h n i tg B E S
 else if h.kind=11 then Lw h n i lab tg B S
 else if h.kind=12 then UF n i lab tg B S
 else if h.kind=13 then TF h n i lab Sw S
 else if h.kind=14 then QQ h n i lab Ty S
 else if h.kind=15 then TE i lab comms eE S
 else if h.kind=16 then B tg S
 else if h.kind=21 then S.Yk ⟨0,false⟩
 else S.Ys h.kind h.target tg
def ML (s:ByteArray) (core:Option Nat->BS->Option BS) (S:BS):Option BS:=
 if s.size=0 then core none S
 else(S.UQ s true).bind fun r=>r.2.ZT[r.1]?.bind fun y=>(r.2.YG y.2.go).bind fun S2=>core (some r.1) (S2.at y.2.go)
def T.YO:T->Bl
 | .nil=>⟨fun _ _ _ S=>some S,fun _ _ tg done _ df S=>RL tg done df S,fun _ _ tg done df S=>RK tg done df S,fun _ _ tg done df S=>UE tg done df S,some⟩
 | .st h b e c tl=>
  ⟨fun n i tg S=>
   (ML h.label (fun lab=>Yi h n i lab tg (b.YO.list (n+h.own) (i+1)) (e.YO.list (n+h.own+b.lv false) (i+1+b.it))
    (fun done=>c.YO.sw (n+h.own+b.lv false+e.lv false) (i+1+b.it+e.it) tg done none none) (fun done=>c.YO.ty (n+h.own+b.lv false+e.lv false) (i+1+b.it+e.it) tg done none)
    (fun done=>c.YO.sel (n+h.own+b.lv false+e.lv false) (i+1+b.it+e.it) tg done none) c.YO.comms) S).bind fun S1=>
   tl.YO.list (n+h.own+b.lv false+e.lv false+c.lv (h.kind==13)) (i+1+b.it+e.it+c.it) tg S1,
   fun _ _ _ _ _ _ _=>none,fun _ _ _ _ _ _=>none,fun _ _ _ _ _ _=>none,fun _=>none⟩
 | .cl x b tl=>
  ⟨fun _ _ _ _=>none,
  fun n i tg done fall df S=>
   (S.Sk fall i).bind fun r=>(r.2.Sj tl.isNil done (i+1+b.it)).bind fun q=>
   if x<=0 then tl.YO.sw (n+x.toNat+b.lv false) (i+1+b.it) tg done (some q.1) (some ⟨r.1,b.YO.list (n+x.toNat) (i+1),q.1⟩) q.2
   else(Xi r.1 (ip i) x.toNat n q.2).bind fun S3=>(b.YO.list (n+x.toNat) (i+1) (⟨some done,none,some q.1⟩::tg) (S3.at r.1)).bind fun S4=>(S4.YG done).bind fun S5=>
    tl.YO.sw (n+x.toNat+b.lv false) (i+1+b.it) tg done (some q.1) df { S5 with cur:=S3.cur },
  fun n i tg done df S=>
   if x<=0 then tl.YO.ty (n+b.lv false) (i+1+b.it) tg done (some (b.YO.list n (i+1))) S
   else(S.newP 17 (some (ip i))).bind fun S1=>(WZ S.Z6.length (ip i) x.toNat S1).bind fun S3=>(b.YO.list n (i+1) (⟨some done,none,none⟩::tg) (S3.at S.Z6.length)).bind fun S4=>(S4.YG done).bind fun S5=>
    tl.YO.ty (n+b.lv false) (i+1+b.it) tg done df { S5 with cur:=S3.cur },
  fun n i tg done df S=>
   if x<=0 then tl.YO.sel (n+b.lv false) (i+1+b.it) tg done (some (b.YO.list n (i+1))) S
   else(S.newP 14 (some (ip i))).bind fun S1=>(S1.newP 16 (some (ip i))).bind fun S2=>(S2.Lx S.Z6.length S1.Z6.length).bind fun S3=>
    (b.YO.list n (i+1) (⟨some done,none,none⟩::tg) (S3.at S.Z6.length)).bind fun S4=>(S4.YG done).bind fun S5=>
    tl.YO.sel (n+b.lv false) (i+1+b.it) tg done df (S5.at S1.Z6.length),
  fun S=>if 0 < x then(S.Yk ⟨0,false⟩).bind tl.YO.comms else tl.YO.comms S⟩
end
end Go.Proofs.YteedbaejpdjilaaGreat
