/- Part of the proof: BldD BldE BldF BldG BldH BldP. -/
import Derived.Test.YteedbaejpdjilaaGreatXPg
import Derived.StillTailTactics
import Derived.Deep.QuietTactic
import Derived.BigQuiet
set_option linter.all false
set_option maxRecDepth 100000
set_option maxHeartbeats 40000000
namespace Go.Proofs.YteedbaejpdjilaaGreat
open Go.RowKit
section
theorem Pg {a b:ByteArray} (h:a≠b):(a==b)=false:=by
 cases hb:(a==b)
 ·rfl
 ·exact absurd (by rw[beq_toListBytes,beq_iff_eq,ByteArray.toList_eq,ByteArray.toList_eq]at hb;exact ByteArray.ext (Array.toList_inj.1 hb)) h
theorem Nc (a:ByteArray):(a==a)=true:=by rw[beq_toListBytes];simp
theorem TY (s:ByteArray): ∀ (es:List MapEntry) (i:Nat),(∀ e∈es,∃ k,e.key=.string k∧k≠s)->Instr.findNow .string (.string s) es i=some none
 | [],_,_=>rfl
 |e::es,i,h=>by
  obtain⟨k,h1,h2⟩:=h e (by simp);have:(s==k)=false:=Pg (Ne.symm h2);simp only[Instr.findNow,Instr.sameNow,h1,this];exact TY s es (i+1) (fun e' he'=>h e' (by simp[he']))
theorem TU (s:ByteArray) (v:Value): ∀ (es:List MapEntry) (i j:Nat),(∃ e,es[j]? =some e∧e.key=.string s∧e.val=v)->(∀ (q:Nat) e,q < j->es[q]? =some e-> ∃ k,e.key=.string k∧k≠s)-> ∃ r,Instr.findNow .string (.string s) es i=some (some (r,v))
 | [],_,_,⟨e,h,_⟩,_=>by simp at h
 |e::es,i,0,⟨e',h,h1,h2⟩,_=>by
  simp at h;subst h;refine⟨i,?_⟩;simp[Instr.findNow,Instr.sameNow,h1,h2,Nc]
 |e::es,i,j+1,⟨e',h,h1,h2⟩,hq=>by
  obtain⟨k,g1,g2⟩:=hq 0 e (by omega) rfl;have:(s==k)=false:=Pg (Ne.symm g2);simp only[Instr.findNow,Instr.sameNow,g1,this];exact TU s v es (i+1) j ⟨e',by simpa using h,h1,h2⟩ (fun q e2 hlt he2=>hq (q+1) e2 (by omega) (by simpa using he2))
theorem look_nil (s:ByteArray) (w:World):(Instr.lookup 133 (.map none) (.string s) false).run Tryz.prog w=.ok (.pointer none) w:=by kernel_rfl
theorem OD (e:Bool) (s:ByteArray) (w:World):(Instr.checkKey e 10000 9 (.string s)).run Tryz.prog w=.ok () w:=by kernel_rfl
theorem yX (w:World):(zeroValue 157).run Tryz.prog w=.ok (.pointer none) w:=by kernel_rfl
theorem Nk {s:ByteArray} {es:List MapEntry} {r:Option (Nat × Value)} (hf:Instr.findNow .string (.string s) es 0=some r) (w:World):(Instr.findKey 9 (.string s) es).run Tryz.prog w=.ok r w:=by
 unfold Instr.findKey;simp[run_underlying Tryz.underlying9,hf]
theorem IB {w:World} {mb:Nat} {es:Array MapEntry} {ck:Nat} (hm:w.heap[mb]? =some (.map es ck)):(getObj mb).run Tryz.prog w=.ok (.map es ck) w:=by
 simp[getObj,Sem.run,hm]
theorem OE {w:World} {mb:Nat} {es:Array MapEntry} {ck:Nat} (hm:w.heap[mb]? =some (.map es ck)) (s:ByteArray) (r:Option (Nat × Value)) (hf:Instr.findNow .string (.string s) es.toList 0=some r):
  (Instr.lookup 133 (.map (some mb)) (.string s) false).run Tryz.prog w=.ok ((r.map (·.2)).getD (.pointer none)) w:=by
 have h1:=IB hm;have h2:=OD es.isEmpty s w;have h3:=Nk hf w;have h4:=yX w;unfold Instr.lookup;go_simp;cases r with
 |none=>simp[h4]
 |some p=>simp
def putObj (w:World) (mb:Nat) (o:Obj):World:= { w with heap:=w.heap.setIfInBounds mb o }
theorem TT {w:World} {mb:Nat} {es:Array MapEntry} {ck:Nat} (hm:w.heap[mb]? =some (.map es ck)) (s:ByteArray) (v:Value) (hf:Instr.findNow .string (.string s) es.toList 0=some none):
  (Instr.mapUpdate 133 (.map (some mb)) (.string s) v).run Tryz.prog w=.ok () (putObj w mb (.map (es.push ⟨.string s,v,ck⟩) (ck+1))):=by
 have h1:=IB hm;have h2:=OD false s w;have h3:=Nk hf w;unfold Instr.mapUpdate;go_simp;simp[setObj,Sem.run,hm,putObj]
theorem Xw (w:World) (mb:Nat) (o:Obj):Only [mb] w (putObj w mb o):=⟨by simp[putObj],fun k hk hx=>by
 simp[putObj];rw[Array.getElem?_setIfInBounds_ne];intro e;apply hx;simp[e]⟩
theorem U5 {w:World} {mb:Nat} (h:mb < w.heap.size) (o:Obj):(putObj w mb o).heap[mb]? =some o:=by
 simp[putObj,h]
theorem Va {w:World} {mb:Nat} {es:Array MapEntry} {ck:Nat} (hm:w.heap[mb]? =some (.map es ck)) {B:Nat} (hB:B<=mb) (Tt:List Nat) (o:Obj):Fr Tt B w (putObj w mb o):=by
 have h:=Xw w mb o;refine⟨⟨rfl,rfl,rfl,h.size,fun k hk=>?_⟩,fun k c e f hk _=>?_⟩
 ·by_cases hlt:k < w.heap.size
  ·exact h.block k hlt (by simp;omega)
  ·rw[Array.getElem?_eq_none (by simp[putObj];omega),Array.getElem?_eq_none (by omega)]
 ·rw[h.block k (ZN.lt ⟨_,_,hk⟩) ?_]
  ·exact hk
  ·simp;intro e';subst e';rw[hm]at hk;cases hk
theorem Xf {w:World} {B:Nat} {A:List Nat} {Z4:List (ByteArray × Lb)} {L:List Nat} {mv:Value} (h:Yc w B A Z4 L mv) (s:ByteArray):
  (∀ (j l:Nat) (x:Lb),Z4[j]? =some (s,x)->L[j]? =some l->(∀ (q:Nat) (y:ByteArray × Lb),q < j->Z4[q]? =some y->y.1≠s)-> ∀ w',w'.heap=w.heap->(Instr.lookup 133 mv (.string s) false).run Tryz.prog w'=.ok (.pointer (some ⟨l,0,none⟩)) w')∧
  ((∀ y∈Z4,y.1≠s)-> ∀ w',w'.heap=w.heap->(Instr.lookup 133 mv (.string s) false).run Tryz.prog w'=.ok (.pointer none) w')∧
  ((∀ y∈Z4,y.1≠s)-> ∀ mb es ck,mv=.map (some mb)->w.heap[mb]? =some (.map es ck)->Instr.findNow .string (.string s) es.toList 0=some none):=by
 obtain⟨h1,h2,h3,h4,h5⟩:=h;have key: ∀ (es:Array MapEntry),es.toList.map (fun e=>(e.key,e.val))=(Z4.zip L).map (fun x=>(Value.string x.1.1,Value.pointer (some ⟨x.2,0,none⟩)))-> ∀ (q:Nat) e,es.toList[q]? =some e-> ∃ y l,Z4[q]? =some y∧L[q]? =some l∧e.key=.string y.1∧e.val=.pointer (some ⟨l,0,none⟩):=by
  intro es he q e hq;have h6:(es.toList.map (fun e=>(e.key,e.val)))[q]? =some (e.key,e.val):=by simp[hq]
  rw[he]at h6;simp[List.getElem?_map,List.getElem?_zip_eq_some]at h6;obtain⟨y1,y2,l,⟨h7,h8⟩,h9,h10⟩:=h6;exact⟨(y1,y2),l,h7,h8,h9.symm,h10.symm⟩
 have none_of: ∀ (es:Array MapEntry),es.toList.map (fun e=>(e.key,e.val))=(Z4.zip L).map (fun x=>(Value.string x.1.1,Value.pointer (some ⟨x.2,0,none⟩)))->(∀ y∈Z4,y.1≠s)->Instr.findNow .string (.string s) es.toList 0=some none:=by
  intro es he hy;refine TY s es.toList 0 (fun e hm=>?_);obtain⟨q,hq⟩:=List.getElem?_of_mem hm;obtain⟨y,l,g1,g2,g3,g4⟩:=key es he q e hq;exact⟨y.1,g3,hy y (List.mem_of_getElem? g1)⟩
 refine⟨?_,?_,?_⟩
 ·intro j l x hj hl hq w' hw;rcases h5 with⟨rfl,rfl⟩ |⟨mb,es,ck,rfl,g2,g3,g4⟩
  ·simp at hj
  ·have hlen:es.toList.length=Z4.length:=by
    have:=congrArg List.length g4;simp[h1]at this;simpa using this
   have hj2:j < es.toList.length:=by
    have:=(List.getElem?_eq_some_iff.1 hj).1;omega
   obtain⟨y,l',k1,k2,k3,k4⟩:=key es g4 j _ (List.getElem?_eq_getElem hj2);rw[hj]at k1;cases k1;rw[hl]at k2;cases k2;obtain⟨r,hr⟩:=TU s (.pointer (some ⟨l,0,none⟩)) es.toList 0 j ⟨_,List.getElem?_eq_getElem hj2,k3,k4⟩ (fun q e hlt he=>by
    obtain⟨y,l2,m1,m2,m3,m4⟩:=key es g4 q e he;exact⟨y.1,m3,hq q y hlt m1⟩)
   have:=OE (w:=w') (by rw[hw];exact g3) s _ hr;simpa using this
 ·intro hy w' hw;rcases h5 with⟨rfl,rfl⟩ |⟨mb,es,ck,rfl,g2,g3,g4⟩
  ·exact look_nil s w'
  ·have:=OE (w:=w') (by rw[hw];exact g3) s _ (none_of es g4 hy);simpa using this
 ·intro hy mb es ck hmv hm;rcases h5 with⟨rfl,rfl⟩ |⟨mb',es',ck',g1,g2,g3,g4⟩
  ·cases hmv
  ·rw[g1]at hmv;cases hmv;rw[hm]at g3;cases g3;exact none_of es g4 hy
end
section
theorem Ye.same {w w':World} {B b b0:Nat} {A:List Nat} {NV:List Value} {L:List Nat} {S:BS} {tg:List Tg} {M:Mk} (h:Ye w B b b0 A NV L S tg M) (o:Only [] w w') (f:Fr bT B w w'):Ye w' B b b0 A NV L S tg M:=by
 obtain⟨bv,cv,mv,tv,hb,hbv,hcv,hlv,htv⟩:=h.self;have hA:A <+:A:=⟨[],by simp⟩
 exact⟨h.hB,h.lenA,h.lenN,h.nodup,h.base,h.apart,fun i k nv hk hn=>(h.bks i k nv hk hn).only o f hA (fun _ _=>by simp) (fun _ _=>by simp),h.mak.only o (by simp),
  ⟨bv,cv,mv,tv,hb.only o (by simp),ZA o hbv (fun _ _=>by simp),hcv,hlv.only o hA (fun _ _=>by simp) (fun _ _=>by simp),htv.mono (Hv.bT f) hA⟩⟩
theorem Only.drewN {X:List Nat} {a b:World} (h:Only X a b) (n:Nat):Only X a (b.drewN n):=⟨by simpa using h.size,fun k hk hx=>by simpa using h.block k hk hx⟩
theorem Fr.drewN {Tt:List Nat} {B:Nat} {a b:World} (h:Fr Tt B a b) (n:Nat):Fr Tt B a (b.drewN n):=by
 induction n with
 |zero=>exact h
 |succ n ih=>exact ih.drew
theorem Ye.drewN {w:World} {B b b0:Nat} {A:List Nat} {NV:List Value} {L:List Nat} {S:BS} {tg:List Tg} {M:Mk} (h:Ye w B b b0 A NV L S tg M) (n:Nat):Ye (w.drewN n) B b b0 A NV L S tg M:=
 h.same ((Only.refl _ _).drewN n) ((Fr.refl _ _ _).drewN n)
theorem Py {w:World} {B b b0:Nat} {A:List Nat} {NV:List Value} {L:List Nat} {S:BS} {tg:List Tg} {M:Mk} (h:Ye w B b b0 A NV L S tg M) {s:ByteArray} {j l:Nat} {x:Lb} (hj:S.Z4[j]? =some (s,x)) (hl:L[j]? =some l)
  (hq: ∀ (q:Nat) (y:ByteArray × Lb),q < j->S.Z4[q]? =some y->y.1≠s) {lv:Value} (hlv:Yk (Hv w 0) lv s):
  Calls Tryz.prog 98 #[b,lv,.pointer none] w fun e w'=>e=.returned (.pointer (some ⟨l,0,none⟩))∧Ye w' B b b0 A NV L S tg M∧Fr bT B w w':=by
 obtain⟨la,lo,rfl,_,_,hla⟩:=hlv;obtain⟨bv,cv,mv,tv,hb,hbv,hcv,hlb,htv⟩:=h.self;have hlook: ∀ n,(Instr.lookup 133 mv (.string s) false).run Tryz.prog (w.drewN n)=.ok (.pointer (some ⟨l,0,none⟩)) (w.drewN n):=fun n=>(Xf hlb s).1 j l x hj hl hq _ (by simp);have c3:=hb.cell 3 rfl;have d1:=hla.cell 1 rfl;obtain⟨mo,rfl⟩: ∃ mo,mv=.map mo:=by
  rcases hlb.2.2.2.2 with⟨rfl,_⟩ |⟨mb,es,ck,rfl,_⟩
  ·exact⟨_,rfl⟩
  ·exact⟨_,rfl⟩
 have Hx:=Za hj hl hq;clear hj hl hq;go_enter Tryz.func98,Tryz.ntmps98;go_wp2_with fail
 go_quiet (fail)
 go_wp2_with fail
 go_ret;exact⟨rfl,h.drewN nq,(Fr.refl _ _ _).drewN nq⟩
theorem Ye.setOf {w:World} {B b b0:Nat} {A:List Nat} {NV:List Value} {L:List Nat} {S:BS} {tg:List Tg} {M:Mk} (h:Ye w B b b0 A NV L S tg M) {g ga:Nat} {k:Bk} (hk:S.bks[g]? =some k) (hga:A[g]? =some ga) {v:Value} {p:Int} (hv:YR (Hv w 0) v (some p)):
  Ye (w.setCell ⟨ga,6,none⟩ v) B b b0 A NV L (S.set g { k with of:=some p }) tg M∧Fr bT B w (w.setCell ⟨ga,6,none⟩ v):=by
 have hlt:=(List.getElem?_eq_some_iff.1 hk).1;have hln:g < NV.length:=by have:=h.lenN;omega
 have hnv:NV[g]? =some NV[g]:=List.getElem?_eq_getElem hln;obtain⟨a',sv,p0,p1,ns,g1,g2,g3,g4,g5,g6,g7,g8,g9⟩:=h.bks g k _ hk hnv;rw[hga]at g1;cases g1;have hBa:=h.base ga (List.mem_of_getElem? hga);have f2:Fr bT B w (w.setCell ⟨ga,6,none⟩ v):=(Fr.refl _ _ _).Y1 _ _ g2.ty (by decide) hBa;have o2:Only [ga] w (w.setCell ⟨ga,6,none⟩ v):=(Only.refl _ _).set _ _ (.inl (by simp))
 have hU:=h.upd (nv':=NV[g]) hga hnv o2 f2 (fun x hx=>.inl (by simpa using hx)) (k':= { k with of:=some p })
  ⟨ga,v,p0,p1,ns,hga,g2.set 6 v,ZA o2 g3 (fun x hx hc=>ZN.ne (h.Jo _ (List.mem_of_getElem? hnv) x hx) g2.ty (by decide) (by simpa using hc)),g4,fun j v n e1 e2=>(g5 j v n e1 e2).mono (Hv.bT f2),hv.mono (Hv.bT f2),g7,g8,g9⟩ (fun x hx=>.inl hx)
 have eN:NV.set g NV[g]=NV:=by simp
 rw[eN]at hU;exact⟨hU,f2⟩
theorem Un {w:World} {B b b0:Nat} {A:List Nat} {NV:List Value} {L:List Nat} {S:BS} {tg:List Tg} {M:Mk} (h:Ye w B b b0 A NV L S tg M) {s:ByteArray} {j l:Nat} {x:Lb} (hj:S.Z4[j]? =some (s,x)) (hl:L[j]? =some l)
  (hq: ∀ (q:Nat) (y:ByteArray × Lb),q < j->S.Z4[q]? =some y->y.1≠s) {lv:Value} (hlv:Yk (Hv w 0) lv s) {k:Bk} (hk:S.bks[x.go]? =some k) (hof:k.of=none) {sa:Nat} {lv2 u2:Value} {s2:ByteArray} (hsa:Hv w 0 sa [lv2,.int .i64 0,u2] 190) (hlv2:Yk (Hv w 0) lv2 s2):
  Calls Tryz.prog 98 #[b,lv,sa] w fun e w'=>e=.returned (.pointer (some ⟨l,0,none⟩))∧Ye w' B b b0 A NV L (S.set x.go { k with of:=some 0 }) tg M∧Fr bT B w w':=by
 obtain⟨la,lo,rfl,_,_,hla⟩:=hlv;obtain⟨bv,cv,mv,tv,hb,hbv,hcv,hlb,htv⟩:=h.self;have hlook: ∀ n,(Instr.lookup 133 mv (.string s) false).run Tryz.prog (w.drewN n)=.ok (.pointer (some ⟨l,0,none⟩)) (w.drewN n):=fun n=>(Xf hlb s).1 j l x hj hl hq _ (by simp);have c3:=hb.cell 3 rfl;have d1:=hla.cell 1 rfl;obtain⟨gv,bv2,cv2,hL,⟨ga,hga,rfl⟩,_,_⟩:=hlb.2.2.2.1 j l s x hl hj;have e0:=hL.cell 0 rfl;have hlt:=(List.getElem?_eq_some_iff.1 hk).1;have hln:x.go < NV.length:=by have:=h.lenN;omega
 obtain⟨a',sv,p0,p1,ns,g1,g2,g3,g4,g5,g6,g7,g8,g9⟩:=h.bks x.go k _ hk (List.getElem?_eq_getElem hln);rw[hga]at g1;cases g1;rw[hof]at g6;obtain rfl:=g6;have e6:=g2.cell 6 rfl;have f6:=g2.free 6;obtain⟨mo,rfl⟩: ∃ mo,mv=.map mo:=by
  rcases hlb.2.2.2.2 with⟨rfl,_⟩ |⟨mb,es,ck,rfl,_⟩
  ·exact⟨_,rfl⟩
  ·exact⟨_,rfl⟩
 have Hx:=Sl hj hl hq hk hof hga;clear hj hl hq hk hof hga;go_enter Tryz.func98,Tryz.ntmps98;go_wp2_with fail
 go_quiet (fail)
 go_wp2_with fail
 go_ret;obtain⟨hj,hl,hq,hk,hof,hga⟩:=Hx.out;have hd:=h.drewN nq;obtain⟨h1,h2⟩:=hd.setOf hk hga (v:=.iface 186 (.pointer (some ⟨sa,0,none⟩))) (p:=0) ((show YR (Hv w 0) _ (some 0)from .inr (.inl ⟨rfl,sa,lv2,u2,s2,rfl,hsa,hlv2⟩)).mono (Hv.bT ((Fr.refl bT B w).drewN nq)));exact⟨rfl,h1,((Fr.refl _ _ _).drewN nq).trans h2⟩
end
section
theorem Ye.IQ {w w':World} {B b b0:Nat} {A:List Nat} {NV:List Value} {L:List Nat} {S:BS} {tg:List Tg} {M:Mk} (h:Ye w B b b0 A NV L S tg M) {bv cv mv tv:Value} (hb:ZV w b [bv,.func (.func 67) #[b0] #[],cv,mv,tv] 136)
  (hbv:w.ownsRow B 92 1 bv A.length (A.map fun a=>.pointer (some ⟨a,0,none⟩))) (hcv:ZI A cv S.cur) (htv:Sr (Hv w 0) A tg tv) {X:List Nat} (ho:Only X w w') (hf:Fr bT B w w') (hX: ∀ x∈X,x=b∨ ∀ t,¬ ZN w x t)
  {mv':Value} (hb':ZV w' b [bv,.func (.func 67) #[b0] #[],cv,mv',tv] 136) {labs':List (ByteArray × Lb)} {L':List Nat} (hl':Yc w' B A labs' L' mv'):
  Ye w' B b b0 A NV L' { S with Z4:=labs' } tg M:=by
 have nX: ∀ x t,ZN w x t->t≠136->x∉X:=by
  intro x t hx h1 hc;rcases hX x hc with rfl|h2
  ·exact ZN.ne hx hb.ty h1 rfl
  ·exact h2 t hx
 have hA:A <+:A:=⟨[],by simp⟩
 obtain⟨sv,lv,av,ps,hB2,hm,hsv,hlv,hps,hn,hav⟩:=h.mak
 exact⟨h.hB,h.lenA,h.lenN,h.nodup,h.base,h.apart,fun i k nv hk hn=>(h.bks i k nv hk hn).only ho hf hA (fun a ha=>nX a 99 (h.BR a (List.mem_of_getElem? ha)) (by decide)) (fun g hg=>nX g 104 (h.Jo nv (List.mem_of_getElem? hn) g hg) (by decide)),
  ⟨sv,lv,av,ps,hB2,hm.only ho (nX _ _ hm.ty (by decide)),ZA ho hsv (fun k hk=>nX _ _ (ZK hsv hk) (by decide)),ZA ho hlv (fun k hk=>nX _ _ (ZK hlv hk) (by decide)),fun p hp=>let⟨s,hs⟩:=hps p hp;⟨s,hs.only ho (nX _ _ hs.ty (by decide))⟩,hn,ZA ho hav (fun k hk=>nX _ _ (ZK hav hk) (by decide))⟩,
  ⟨bv,cv,mv',tv,hb',ZA ho hbv (fun k hk=>nX k 92 (ZK hbv hk) (by decide)),hcv,hl',htv.mono (Hv.bT hf) hA⟩⟩
def BS.lab (S:BS) (s:ByteArray) (x:Lb):BS:= { S with Z4:=S.Z4++ [(s,x)] }
theorem Yc.push {X:List Nat} {w w':World} (ho:Only X w w') {B:Nat} {A:List Nat} {Z4:List (ByteArray × Lb)} {L:List Nat} {mv:Value} (h:Yc w B A Z4 L mv) (hX: ∀ l∈L,l∉X) (hBw:B<=w.heap.size) {l a g mb:Nat} (hl0:w.heap.size<=l) (hl:ZV w' l [a,.pointer none,.pointer none] 193) (ha:A[g]? =some a)
  {es:Array MapEntry} {ck ck2:Nat} {s:ByteArray} (hes:es.toList.map (fun e=>(e.key,e.val))=(Z4.zip L).map (fun x=>(Value.string x.1.1,Value.pointer (some ⟨x.2,0,none⟩)))) (hB:B<=mb) (hm:w'.heap[mb]? =some (.map (es.push ⟨.string s,.pointer (some ⟨l,0,none⟩),ck⟩) ck2)):
  Yc w' B A (Z4++ [(s,⟨g,none,none⟩)]) (L++ [l]) (.map (some mb)):=by
 have hty:=h.ty;obtain⟨h1,h2,h3,h4,h5⟩:=h;refine⟨by simp[h1],?_,?_,?_,.inr ⟨mb,_,_,rfl,hB,hm,?_⟩⟩
 ·rw[List.nodup_append];refine⟨h2,by simp,fun x hx y hy=>?_⟩;simp at hy;subst hy;have:=(hty x hx).lt;omega
 ·intro x hx;rcases List.mem_append.1 hx with hx|hx
  ·exact h3 x hx
  ·simp at hx;omega
 ·intro j l' s' x' e1 e2;by_cases hj:j < L.length
  ·rw[List.getElem?_append_left hj]at e1;rw[List.getElem?_append_left (by omega)]at e2;obtain⟨gv,bv,cv,g1,g2,g3,g4⟩:=h4 j l' s' x' e1 e2;exact⟨gv,bv,cv,g1.only ho (hX l' (List.mem_of_getElem? e1)),g2,g3,g4⟩
  ·have hj2:j=L.length:=by
    have:=(List.getElem?_eq_some_iff.1 e1).1;simp at this;omega
   subst hj2;simp at e1;rw[h1]at e2;simp at e2;obtain⟨rfl,rfl⟩:=e2;subst e1;exact⟨_,_,_,hl,⟨a,ha,rfl⟩,rfl,rfl⟩
 ·simp[hes,List.zip_append h1.symm]
theorem MR {w:World} {B b b0:Nat} {A:List Nat} {NV:List Value} {L:List Nat} {S:BS} {tg:List Tg} {M:Mk} (h:Ye w B b b0 A NV L S tg M) (hn:S.bks.length<=100000) {s:ByteArray} (hq: ∀ y∈S.Z4,y.1≠s) {lv:Value} (hlv:Yk (Hv w 0) lv s):
  Calls Tryz.prog 98 #[b,lv,.pointer none] w fun e w'=> ∃ a l,e=.returned (.pointer (some ⟨l,0,none⟩))∧Ye w' B b b0 (A++ [a]) (NV++ [.slice none 0 0]) (L++ [l]) ((S.new 10 none).lab s ⟨S.bks.length,none,none⟩) tg M∧Fr bT B w w':=by
 obtain⟨la,lo,rfl,hla0,hla1,hla⟩:=hlv;obtain⟨bv,cv,mv,tv,hb,hbv,hcv,hlb,htv⟩:=h.self;have hlook: ∀ n,(Instr.lookup 133 mv (.string s) false).run Tryz.prog (w.drewN n)=.ok (.pointer none) (w.drewN n):=fun n=>(Xf hlb s).2.1 hq _ (by simp);have c3:=hb.cell 3 rfl;have d1:=hla.cell 1 rfl;have Hq:=Z9 hq;clear hq;obtain⟨mo,rfl⟩: ∃ mo,mv=.map mo:=by
  rcases hlb.2.2.2.2 with⟨rfl,_⟩ |⟨mb,es,ck,rfl,_⟩
  ·exact⟨_,rfl⟩
  ·exact⟨_,rfl⟩
 have hmm:= @run_makeMap Tryz.prog;go_enter Tryz.func98,Tryz.ntmps98;go_wp2_with fail
 go_quiet (fail)
 go_wp2_with fail
 refine(V5 (h.drewN nq) hn 10 .nilIface none rfl).mono ?_;rintro e w1 ⟨a,rfl,h1,f1⟩;clear hlook c3 d1 hb hbv hcv hlb htv;obtain⟨bv,cv,mv,tv,hb,hbv,hcv,hlb,htv⟩:=h1.self;have hs1:=f1.size;simp at hs1;have hla2:=(hla.fr ((Fr.refl bT B w).drewN nq) (by decide)).fr f1 (by decide);rcases hlb.2.2.2.2 with⟨rfl,hnil⟩ |⟨mb,es,ck,rfl,hBm,hmb,hes⟩
 ·have hbA:=(hb.alloc (.cells [.pointer (some ⟨a,0,none⟩),.pointer none,.pointer none].toArray 193)).alloc (.map #[] 0);have c30:=(hb.alloc (.cells [.pointer (some ⟨a,0,none⟩),.pointer none,.pointer none].toArray 193)).cell 3 rfl;have c3:=hbA.cell 3 rfl;have c3f:=hbA.free 3;have hBb:=h.hB;have hblt:=hb.lt;have hlalt:=hla2.lt;have hszS:(w1.setCell ⟨b,3,none⟩ (.map (some (w1.heap.size+1)))).heap.size=w1.heap.size:=by simp[World.setCell]
  have hbW:=((hb.set 3 (.map (some (w1.heap.size+1)))).alloc (.cells [.pointer (some ⟨a,0,none⟩),.pointer none,.pointer none].toArray 193)).alloc (.map #[] 0);have hlaW:=((hla2.setOther ⟨b,3,none⟩ (.map (some (w1.heap.size+1))) (ZN.ne hla2.ty hb.ty (by decide))).alloc (.cells [.pointer (some ⟨a,0,none⟩),.pointer none,.pointer none].toArray 193)).alloc (.map #[] 0);have d3:=hbW.cell 3 rfl;have d1:=hlaW.cell 1 rfl;have hmbA:(((w1.setCell ⟨b,3,none⟩ (.map (some (w1.heap.size+1)))).alloc (.cells [.pointer (some ⟨a,0,none⟩),.pointer none,.pointer none].toArray 193)).alloc (.map #[] 0)).drew.heap[w1.heap.size+1]? =some (.map #[] 0):=by
   have:=heap_alloc_new ((w1.setCell ⟨b,3,none⟩ (.map (some (w1.heap.size+1)))).alloc (.cells [.pointer (some ⟨a,0,none⟩),.pointer none,.pointer none].toArray 193)) (.map #[] 0);rw[show((w1.setCell ⟨b,3,none⟩ (.map (some (w1.heap.size+1)))).alloc (.cells [.pointer (some ⟨a,0,none⟩),.pointer none,.pointer none].toArray 193)).heap.size=w1.heap.size+1 by simp[World.setCell]]at this;exact this
  have hupd:_=Result.ok () (putObj _ (w1.heap.size+1) (.map #[⟨.string s,.pointer (some ⟨w1.heap.size,0,none⟩),0⟩] 1)):=TT hmbA s (.pointer (some ⟨w1.heap.size,0,none⟩)) rfl;have hne: ∀ w:World,(binOp .eql 133 (.map none) (.map none)).run Tryz.prog w=.ok (.bool true) w:=fun w=>by
   have:=run_eql_map_nil (P:=Tryz.prog) w 133 9 157 none Tryz.underlying133;simpa using this
  have hpo:=Xw (((w1.setCell ⟨b,3,none⟩ (.map (some (w1.heap.size+1)))).alloc (.cells [.pointer (some ⟨a,0,none⟩),.pointer none,.pointer none].toArray 193)).alloc (.map #[] 0)).drew (w1.heap.size+1) (.map #[⟨.string s,.pointer (some ⟨w1.heap.size,0,none⟩),0⟩] 1);have hbP:=hbW.drew.only hpo (by simp;omega);have hlP:=hlaW.drew.only hpo (by simp;omega);have c3p:=hbP.cell 3 rfl;have d1p:=hlP.cell 1 rfl;have d3d:=hbW.drew.cell 3 rfl;have d1d:=hlaW.drew.cell 1 rfl;clear hszS;go_wp2_with fail
  go_region_held3 (fun w'=>w'.cell? ⟨b,3,none⟩=some (.map (some (w1.heap.size+1)))∧w'.cell? ⟨la,1,none⟩=some (.string s)) (first|go_keep) (fail)
  go_wp2_with fail
  go_ret;have hszS:(w1.setCell ⟨b,3,none⟩ (.map (some (w1.heap.size+1)))).heap.size=w1.heap.size:=by simp[World.setCell]
  have fW:Fr bT B w1 (((w1.setCell ⟨b,3,none⟩ (.map (some (w1.heap.size+1)))).alloc (.cells [.pointer (some ⟨a,0,none⟩),.pointer none,.pointer none].toArray 193)).alloc (.map #[] 0)):=(((Fr.refl bT B w1).Y1 ⟨b,3,none⟩ (.map (some (w1.heap.size+1))) hb.ty (by decide) hBb).alloc (by omega) _).alloc (by simp;omega) _;have fP:Fr bT B w1 (putObj (((w1.setCell ⟨b,3,none⟩ (.map (some (w1.heap.size+1)))).alloc (.cells [.pointer (some ⟨a,0,none⟩),.pointer none,.pointer none].toArray 193)).alloc (.map #[] 0)).drew (w1.heap.size+1) (.map #[⟨.string s,.pointer (some ⟨w1.heap.size,0,none⟩),0⟩] 1)):=fW.drew.trans (Va hmbA (by omega) bT _);have oP:Only [b,w1.heap.size+1] w1 (putObj (((w1.setCell ⟨b,3,none⟩ (.map (some (w1.heap.size+1)))).alloc (.cells [.pointer (some ⟨a,0,none⟩),.pointer none,.pointer none].toArray 193)).alloc (.map #[] 0)).drew (w1.heap.size+1) (.map #[⟨.string s,.pointer (some ⟨w1.heap.size,0,none⟩),0⟩] 1)):=((((Only.refl [b,w1.heap.size+1] w1).set ⟨b,3,none⟩ (.map (some (w1.heap.size+1))) (.inl (by simp))).alloc _).alloc _).drew.trans (hpo.mono (by simp));have hlN:ZV (putObj (((w1.setCell ⟨b,3,none⟩ (.map (some (w1.heap.size+1)))).alloc (.cells [.pointer (some ⟨a,0,none⟩),.pointer none,.pointer none].toArray 193)).alloc (.map #[] 0)).drew (w1.heap.size+1) (.map #[⟨.string s,.pointer (some ⟨w1.heap.size,0,none⟩),0⟩] 1)) w1.heap.size _ _:=(((ZV.new' hszS.symm [.pointer (some ⟨a,0,none⟩),.pointer none,.pointer none] 193).alloc (.map #[] 0)).drew).only hpo (by simp);have hes:(#[]:Array MapEntry).toList.map (fun e=>(e.key,e.val))=((S.new 10 none).Z4.zip L).map (fun x=>(Value.string x.1.1,Value.pointer (some ⟨x.2,0,none⟩))):=by rw[hnil];simp
  have hszW:w1.heap.size+1 < (((w1.setCell ⟨b,3,none⟩ (.map (some (w1.heap.size+1)))).alloc (.cells [.pointer (some ⟨a,0,none⟩),.pointer none,.pointer none].toArray 193)).alloc (.map #[] 0)).drew.heap.size:=by
   show _ < (((w1.setCell ⟨b,3,none⟩ (.map (some (w1.heap.size+1)))).alloc (.cells [.pointer (some ⟨a,0,none⟩),.pointer none,.pointer none].toArray 193)).alloc (.map #[] 0)).heap.size;simp[World.setCell]
  have hmP0:=U5 hszW (.map #[⟨.string s,.pointer (some ⟨w1.heap.size,0,none⟩),0⟩] 1);have epush:(#[⟨.string s,.pointer (some ⟨w1.heap.size,0,none⟩),0⟩]:Array MapEntry)=(#[]:Array MapEntry).push ⟨.string s,.pointer (some ⟨w1.heap.size,0,none⟩),0⟩:=rfl;refine⟨a,w1.heap.size,rfl,?_⟩;clear hupd hpo hlP c3p d1p d3d d1d fW hmbA hszW hne c30 c3 c3f hbA hbW hlaW d3 d1;generalize(putObj (((w1.setCell ⟨b,3,none⟩ (.map (some (w1.heap.size+1)))).alloc (.cells [.pointer (some ⟨a,0,none⟩),.pointer none,.pointer none].toArray 193)).alloc (.map #[] 0)).drew (w1.heap.size+1) (.map #[⟨.string s,.pointer (some ⟨w1.heap.size,0,none⟩),0⟩] 1))=wP at*;rw[epush]at hmP0;have hL:=hlb.push oP (fun l hl hc=>by
   have h2:=hlb.ty l hl;have h3:=h2.lt;simp at hc;rcases hc with rfl|rfl
   ·exact ZN.ne h2 hb.ty (by decide) rfl
   ·omega) (by omega) (Nat.le_refl _) hlN (g:=S.bks.length) (by rw[<-h.lenA];simp) hes (by omega) hmP0
  exact⟨h1.IQ hb hbv hcv htv oP fP (fun x hx=>by
   simp at hx;rcases hx with rfl|rfl
   ·exact .inl rfl
   ·exact .inr (fun t ht=>by have:=ht.lt;omega)) hbP hL,((Fr.refl bT B w).drewN nq).trans (f1.trans fP)⟩
 ·have hmlt:=hlb.mlt rfl;have hbA:=hb.alloc (.cells [.pointer (some ⟨a,0,none⟩),.pointer none,.pointer none].toArray 193);have hlA:=hla2.alloc (.cells [.pointer (some ⟨a,0,none⟩),.pointer none,.pointer none].toArray 193);have c3:=hbA.cell 3 rfl;have d1:=hlA.cell 1 rfl;have hmbA:(w1.alloc (.cells [.pointer (some ⟨a,0,none⟩),.pointer none,.pointer none].toArray 193)).drew.heap[mb]? =some (.map es ck):=(Below.heap_alloc _ _ _ hmlt).trans hmb;have hupd:=TT hmbA s (.pointer (some ⟨w1.heap.size,0,none⟩)) ((Xf hlb s).2.2 Hq.out mb es ck rfl hmb);have hne: ∀ w:World,(binOp .eql 133 (.map (some mb)) (.map none)).run Tryz.prog w=.ok (.bool false) w:=fun w=>by
   have:=run_eql_map_nil (P:=Tryz.prog) w 133 9 157 (some mb) Tryz.underlying133;simpa using this
  have hpo:=Xw (w1.alloc (.cells [.pointer (some ⟨a,0,none⟩),.pointer none,.pointer none].toArray 193)).drew mb (.map (es.push ⟨.string s,.pointer (some ⟨w1.heap.size,0,none⟩),ck⟩) (ck+1));have nmb: ∀ x t,ZN w1 x t->x∉ [mb]:=fun x t hx hc=>hlb.XY rfl hx (by simpa using Eq.symm (by simpa using hc));have hbP:=hbA.drew.only hpo (nmb b 136 hb.ty);have hlP:=hlA.drew.only hpo (nmb la 219 hla2.ty);have c3p:=hbP.cell 3 rfl;have d1p:=hlP.cell 1 rfl;go_wp2_with fail
  go_region_held3 (fun w'=>w'.cell? ⟨b,3,none⟩=some (.map (some mb))∧w'.cell? ⟨la,1,none⟩=some (.string s)) (first|go_keep|exact⟨c3p,d1p⟩) (fail)
  go_wp2_with fail
  go_ret;have hsz:(w1.alloc (.cells [.pointer (some ⟨a,0,none⟩),.pointer none,.pointer none].toArray 193)).drew.heap.size=w1.heap.size+1:=by simp[World.drew]
  have hBb:=h.hB;have hblt:=hb.lt
  have fP:Fr bT B w1 (putObj (w1.alloc (.cells [.pointer (some ⟨a,0,none⟩),.pointer none,.pointer none].toArray 193)).drew mb (.map (es.push ⟨.string s,.pointer (some ⟨w1.heap.size,0,none⟩),ck⟩) (ck+1))):=
   (((Fr.refl bT B w1).alloc (by omega) _).drew).trans (Va hmbA hBm bT _)
  have oP:Only [mb] w1 (putObj (w1.alloc (.cells [.pointer (some ⟨a,0,none⟩),.pointer none,.pointer none].toArray 193)).drew mb (.map (es.push ⟨.string s,.pointer (some ⟨w1.heap.size,0,none⟩),ck⟩) (ck+1))):=
   ((Only.refl [mb] w1).alloc _).drew.trans hpo
  have hlN:=((ZV.new w1 [.pointer (some ⟨a,0,none⟩),.pointer none,.pointer none] 193).drew).only hpo (by simp;omega);have hL:=hlb.push oP (fun l hl=>nmb l 193 (hlb.ty l hl)) (by omega) (Nat.le_refl _) hlN (g:=S.bks.length) (by rw[<-h.lenA];simp) hes hBm (U5 (by omega) _);exact⟨a,w1.heap.size,rfl,h1.IQ hb hbv hcv htv oP fP (fun x hx=>.inr (fun t ht=>nmb x t ht hx)) hbP hL,((Fr.refl bT B w).drewN nq).trans (f1.trans fP)⟩
end
section
theorem Sj {w:World} {B b b0:Nat} {A:List Nat} {NV:List Value} {L:List Nat} {S:BS} {tg:List Tg} {M:Mk} (h:Ye w B b b0 A NV L S tg M) (hn:S.bks.length<=100000) {s:ByteArray} (hq: ∀ y∈S.Z4,y.1≠s) {lv:Value} (hlv:Yk (Hv w 0) lv s) {sa:Nat} {lv2 u2:Value} {s2:ByteArray} (hsa:Hv w 0 sa [lv2,.int .i64 0,u2] 190) (hlv2:Yk (Hv w 0) lv2 s2):
  Calls Tryz.prog 98 #[b,lv,sa] w fun e w'=> ∃ a l,e=.returned (.pointer (some ⟨l,0,none⟩))∧Ye w' B b b0 (A++ [a]) (NV++ [.slice none 0 0]) (L++ [l]) (((S.new 10 none).lab s ⟨S.bks.length,none,none⟩).set S.bks.length ⟨10,some 0,[],[],false,false⟩) tg M∧Fr bT B w w':=by
 obtain⟨la,lo,rfl,hla0,hla1,hla⟩:=hlv;obtain⟨bv,cv,mv,tv,hb,hbv,hcv,hlb,htv⟩:=h.self;have hlook: ∀ n,(Instr.lookup 133 mv (.string s) false).run Tryz.prog (w.drewN n)=.ok (.pointer none) (w.drewN n):=fun n=>(Xf hlb s).2.1 hq _ (by simp);have c3:=hb.cell 3 rfl;have d1:=hla.cell 1 rfl;have Hq:=Z9 hq;clear hq;obtain⟨mo,rfl⟩: ∃ mo,mv=.map mo:=by
  rcases hlb.2.2.2.2 with⟨rfl,_⟩ |⟨mb,es,ck,rfl,_⟩
  ·exact⟨_,rfl⟩
  ·exact⟨_,rfl⟩
 have hmm:= @run_makeMap Tryz.prog;go_enter Tryz.func98,Tryz.ntmps98;go_wp2_with fail
 go_quiet (fail)
 go_wp2_with fail
 refine(V5 (h.drewN nq) hn 10 .nilIface none rfl).mono ?_;rintro e w1 ⟨a,rfl,h1,f1⟩;clear hlook c3 d1 hb hbv hcv hlb htv;obtain⟨bv,cv,mv,tv,hb,hbv,hcv,hlb,htv⟩:=h1.self;have hs1:=f1.size;simp at hs1;have hla2:=(hla.fr ((Fr.refl bT B w).drewN nq) (by decide)).fr f1 (by decide);have hgA:(A++ [a])[S.bks.length]? =some a:=by rw[<-h.lenA];simp
 have hkN:(S.new 10 none).bks[S.bks.length]? =some ⟨10,none,[],[],false,false⟩:=by simp[BS.new]
 have hnN:(NV++ [Value.slice none 0 0])[S.bks.length]? =some (.slice none 0 0):=by rw[<-h.lenN];simp
 obtain⟨a',sv,p0,p1,ns,g1,g2,g3,g4,g5,g6,g7,g8,g9⟩:=h1.bks S.bks.length _ _ hkN hnN;rw[hgA]at g1;cases g1;obtain rfl:=g6;have HG:=Za hgA hkN hnN;clear hgA hkN hnN;have hStm:YR (Hv w1 0) (.iface 186 (.pointer (some ⟨sa,0,none⟩))) (some 0):=(show YR (Hv w 0) _ (some 0)from .inr (.inl ⟨rfl,sa,lv2,u2,s2,rfl,hsa,hlv2⟩)).mono (Hv.bT (((Fr.refl bT B w).drewN nq).trans f1));have halt:=g2.lt;rcases hlb.2.2.2.2 with⟨rfl,hnil⟩ |⟨mb,es,ck,rfl,hBm,hmb,hes⟩
 ·have hbA:=(hb.alloc (.cells [.pointer (some ⟨a,0,none⟩),.pointer none,.pointer none].toArray 193)).alloc (.map #[] 0);have c30:=(hb.alloc (.cells [.pointer (some ⟨a,0,none⟩),.pointer none,.pointer none].toArray 193)).cell 3 rfl;have c3:=hbA.cell 3 rfl;have c3f:=hbA.free 3;have hBb:=h.hB;have hblt:=hb.lt;have hlalt:=hla2.lt;have hszS:(w1.setCell ⟨b,3,none⟩ (.map (some (w1.heap.size+1)))).heap.size=w1.heap.size:=by simp[World.setCell]
  have hbW:=((hb.set 3 (.map (some (w1.heap.size+1)))).alloc (.cells [.pointer (some ⟨a,0,none⟩),.pointer none,.pointer none].toArray 193)).alloc (.map #[] 0);have hlaW:=((hla2.setOther ⟨b,3,none⟩ (.map (some (w1.heap.size+1))) (ZN.ne hla2.ty hb.ty (by decide))).alloc (.cells [.pointer (some ⟨a,0,none⟩),.pointer none,.pointer none].toArray 193)).alloc (.map #[] 0);have d3:=hbW.cell 3 rfl;have d1:=hlaW.cell 1 rfl;have hmbA:(((w1.setCell ⟨b,3,none⟩ (.map (some (w1.heap.size+1)))).alloc (.cells [.pointer (some ⟨a,0,none⟩),.pointer none,.pointer none].toArray 193)).alloc (.map #[] 0)).drew.heap[w1.heap.size+1]? =some (.map #[] 0):=by
   have:=heap_alloc_new ((w1.setCell ⟨b,3,none⟩ (.map (some (w1.heap.size+1)))).alloc (.cells [.pointer (some ⟨a,0,none⟩),.pointer none,.pointer none].toArray 193)) (.map #[] 0);rw[show((w1.setCell ⟨b,3,none⟩ (.map (some (w1.heap.size+1)))).alloc (.cells [.pointer (some ⟨a,0,none⟩),.pointer none,.pointer none].toArray 193)).heap.size=w1.heap.size+1 by simp[World.setCell]]at this;exact this
  have hupd:_=Result.ok () (putObj _ (w1.heap.size+1) (.map #[⟨.string s,.pointer (some ⟨w1.heap.size,0,none⟩),0⟩] 1)):=TT hmbA s (.pointer (some ⟨w1.heap.size,0,none⟩)) rfl;have hne: ∀ w:World,(binOp .eql 133 (.map none) (.map none)).run Tryz.prog w=.ok (.bool true) w:=fun w=>by
   have:=run_eql_map_nil (P:=Tryz.prog) w 133 9 157 none Tryz.underlying133;simpa using this
  have hpo:=Xw (((w1.setCell ⟨b,3,none⟩ (.map (some (w1.heap.size+1)))).alloc (.cells [.pointer (some ⟨a,0,none⟩),.pointer none,.pointer none].toArray 193)).alloc (.map #[] 0)).drew (w1.heap.size+1) (.map #[⟨.string s,.pointer (some ⟨w1.heap.size,0,none⟩),0⟩] 1);have hbP:=hbW.drew.only hpo (by simp;omega);have hlP:=hlaW.drew.only hpo (by simp;omega);have c3p:=hbP.cell 3 rfl;have d1p:=hlP.cell 1 rfl;have d3d:=hbW.drew.cell 3 rfl;have d1d:=hlaW.drew.cell 1 rfl;have haP:ZV (putObj (((w1.setCell ⟨b,3,none⟩ (.map (some (w1.heap.size+1)))).alloc (.cells [.pointer (some ⟨a,0,none⟩),.pointer none,.pointer none].toArray 193)).alloc (.map #[] 0)).drew (w1.heap.size+1) (.map #[⟨.string s,.pointer (some ⟨w1.heap.size,0,none⟩),0⟩] 1)) a _ _:=(((g2.setOther ⟨b,3,none⟩ (.map (some (w1.heap.size+1))) (ZN.ne g2.ty hb.ty (by decide))).alloc (.cells [.pointer (some ⟨a,0,none⟩),.pointer none,.pointer none].toArray 193)).alloc (.map #[] 0)).drew.only hpo (by simp;omega);have hlN:ZV (putObj (((w1.setCell ⟨b,3,none⟩ (.map (some (w1.heap.size+1)))).alloc (.cells [.pointer (some ⟨a,0,none⟩),.pointer none,.pointer none].toArray 193)).alloc (.map #[] 0)).drew (w1.heap.size+1) (.map #[⟨.string s,.pointer (some ⟨w1.heap.size,0,none⟩),0⟩] 1)) w1.heap.size _ _:=(((ZV.new' hszS.symm [.pointer (some ⟨a,0,none⟩),.pointer none,.pointer none] 193).alloc (.map #[] 0)).drew).only hpo (by simp);have k0:=hlN.cell 0 rfl;have k6:=haP.cell 6 rfl;have kf:=haP.free 6;clear hszS;go_wp2_with fail
  go_region_held3 (fun w'=>w'.cell? ⟨b,3,none⟩=some (.map (some (w1.heap.size+1)))∧w'.cell? ⟨la,1,none⟩=some (.string s)) (first|go_keep) (fail)
  go_wp2_with fail
  go_ret;have hszS:(w1.setCell ⟨b,3,none⟩ (.map (some (w1.heap.size+1)))).heap.size=w1.heap.size:=by simp[World.setCell]
  have fW:Fr bT B w1 (((w1.setCell ⟨b,3,none⟩ (.map (some (w1.heap.size+1)))).alloc (.cells [.pointer (some ⟨a,0,none⟩),.pointer none,.pointer none].toArray 193)).alloc (.map #[] 0)):=(((Fr.refl bT B w1).Y1 ⟨b,3,none⟩ (.map (some (w1.heap.size+1))) hb.ty (by decide) hBb).alloc (by omega) _).alloc (by simp;omega) _;have fP:Fr bT B w1 (putObj (((w1.setCell ⟨b,3,none⟩ (.map (some (w1.heap.size+1)))).alloc (.cells [.pointer (some ⟨a,0,none⟩),.pointer none,.pointer none].toArray 193)).alloc (.map #[] 0)).drew (w1.heap.size+1) (.map #[⟨.string s,.pointer (some ⟨w1.heap.size,0,none⟩),0⟩] 1)):=fW.drew.trans (Va hmbA (by omega) bT _);have oP:Only [b,w1.heap.size+1] w1 (putObj (((w1.setCell ⟨b,3,none⟩ (.map (some (w1.heap.size+1)))).alloc (.cells [.pointer (some ⟨a,0,none⟩),.pointer none,.pointer none].toArray 193)).alloc (.map #[] 0)).drew (w1.heap.size+1) (.map #[⟨.string s,.pointer (some ⟨w1.heap.size,0,none⟩),0⟩] 1)):=((((Only.refl [b,w1.heap.size+1] w1).set ⟨b,3,none⟩ (.map (some (w1.heap.size+1))) (.inl (by simp))).alloc _).alloc _).drew.trans (hpo.mono (by simp));have hes:(#[]:Array MapEntry).toList.map (fun e=>(e.key,e.val))=((S.new 10 none).Z4.zip L).map (fun x=>(Value.string x.1.1,Value.pointer (some ⟨x.2,0,none⟩))):=by rw[hnil];simp
  have hszW:w1.heap.size+1 < (((w1.setCell ⟨b,3,none⟩ (.map (some (w1.heap.size+1)))).alloc (.cells [.pointer (some ⟨a,0,none⟩),.pointer none,.pointer none].toArray 193)).alloc (.map #[] 0)).drew.heap.size:=by
   show _ < (((w1.setCell ⟨b,3,none⟩ (.map (some (w1.heap.size+1)))).alloc (.cells [.pointer (some ⟨a,0,none⟩),.pointer none,.pointer none].toArray 193)).alloc (.map #[] 0)).heap.size;simp[World.setCell]
  have hmP0:=U5 hszW (.map #[⟨.string s,.pointer (some ⟨w1.heap.size,0,none⟩),0⟩] 1);have epush:(#[⟨.string s,.pointer (some ⟨w1.heap.size,0,none⟩),0⟩]:Array MapEntry)=(#[]:Array MapEntry).push ⟨.string s,.pointer (some ⟨w1.heap.size,0,none⟩),0⟩:=rfl;refine⟨a,w1.heap.size,rfl,?_⟩;clear hupd hpo hlP c3p d1p d3d d1d fW hmbA hszW hne c30 c3 c3f hbA hbW hlaW d3 d1 k0 k6 kf;generalize(putObj (((w1.setCell ⟨b,3,none⟩ (.map (some (w1.heap.size+1)))).alloc (.cells [.pointer (some ⟨a,0,none⟩),.pointer none,.pointer none].toArray 193)).alloc (.map #[] 0)).drew (w1.heap.size+1) (.map #[⟨.string s,.pointer (some ⟨w1.heap.size,0,none⟩),0⟩] 1))=wP at*;rw[epush]at hmP0;have hL:=hlb.push oP (fun l hl hc=>by
   have h2:=hlb.ty l hl;have h3:=h2.lt;simp at hc;rcases hc with rfl|rfl
   ·exact ZN.ne h2 hb.ty (by decide) rfl
   ·omega) (by omega) (Nat.le_refl _) hlN (g:=S.bks.length) (by rw[<-h.lenA];simp) hes (by omega) hmP0
  obtain⟨hgA,hkN,hnN⟩:=HG.out;have hFin:=h1.IQ hb hbv hcv htv oP fP (fun x hx=>by
   simp at hx;rcases hx with rfl|rfl
   ·exact .inl rfl
   ·exact .inr (fun t ht=>by have:=ht.lt;omega)) hbP hL
  obtain⟨hO,fO⟩:=hFin.setOf (g:=S.bks.length) (k:=⟨10,none,[],[],false,false⟩) hkN hgA (hStm.mono (Hv.bT fP));exact⟨hO,((Fr.refl bT B w).drewN nq).trans (f1.trans (fP.trans fO))⟩
 ·have hmlt:=hlb.mlt rfl;have hbA:=hb.alloc (.cells [.pointer (some ⟨a,0,none⟩),.pointer none,.pointer none].toArray 193);have hlA:=hla2.alloc (.cells [.pointer (some ⟨a,0,none⟩),.pointer none,.pointer none].toArray 193);have c3:=hbA.cell 3 rfl;have d1:=hlA.cell 1 rfl;have hmbA:(w1.alloc (.cells [.pointer (some ⟨a,0,none⟩),.pointer none,.pointer none].toArray 193)).drew.heap[mb]? =some (.map es ck):=(Below.heap_alloc _ _ _ hmlt).trans hmb;have hupd:=TT hmbA s (.pointer (some ⟨w1.heap.size,0,none⟩)) ((Xf hlb s).2.2 Hq.out mb es ck rfl hmb);have hne: ∀ w:World,(binOp .eql 133 (.map (some mb)) (.map none)).run Tryz.prog w=.ok (.bool false) w:=fun w=>by
   have:=run_eql_map_nil (P:=Tryz.prog) w 133 9 157 (some mb) Tryz.underlying133;simpa using this
  have hpo:=Xw (w1.alloc (.cells [.pointer (some ⟨a,0,none⟩),.pointer none,.pointer none].toArray 193)).drew mb (.map (es.push ⟨.string s,.pointer (some ⟨w1.heap.size,0,none⟩),ck⟩) (ck+1));have nmb: ∀ x t,ZN w1 x t->x∉ [mb]:=fun x t hx hc=>hlb.XY rfl hx (by simpa using Eq.symm (by simpa using hc));have hbP:=hbA.drew.only hpo (nmb b 136 hb.ty);have hlP:=hlA.drew.only hpo (nmb la 219 hla2.ty);have c3p:=hbP.cell 3 rfl;have d1p:=hlP.cell 1 rfl;have haP:=(g2.alloc (.cells [.pointer (some ⟨a,0,none⟩),.pointer none,.pointer none].toArray 193)).drew.only hpo (nmb a 99 g2.ty);have hlN:=((ZV.new w1 [.pointer (some ⟨a,0,none⟩),.pointer none,.pointer none] 193).drew).only hpo (by simp;omega);have k0:=hlN.cell 0 rfl;have k6:=haP.cell 6 rfl;have kf:=haP.free 6;go_wp2_with fail
  go_region_held3 (fun w'=>w'.cell? ⟨b,3,none⟩=some (.map (some mb))∧w'.cell? ⟨la,1,none⟩=some (.string s)) (first|go_keep|exact⟨c3p,d1p⟩) (fail)
  go_wp2_with fail
  go_ret;have hsz:(w1.alloc (.cells [.pointer (some ⟨a,0,none⟩),.pointer none,.pointer none].toArray 193)).drew.heap.size=w1.heap.size+1:=by simp[World.drew]
  have hBb:=h.hB;have hblt:=hb.lt
  have fP:Fr bT B w1 (putObj (w1.alloc (.cells [.pointer (some ⟨a,0,none⟩),.pointer none,.pointer none].toArray 193)).drew mb (.map (es.push ⟨.string s,.pointer (some ⟨w1.heap.size,0,none⟩),ck⟩) (ck+1))):=
   (((Fr.refl bT B w1).alloc (by omega) _).drew).trans (Va hmbA hBm bT _)
  have oP:Only [mb] w1 (putObj (w1.alloc (.cells [.pointer (some ⟨a,0,none⟩),.pointer none,.pointer none].toArray 193)).drew mb (.map (es.push ⟨.string s,.pointer (some ⟨w1.heap.size,0,none⟩),ck⟩) (ck+1))):=
   ((Only.refl [mb] w1).alloc _).drew.trans hpo
  have hL:=hlb.push oP (fun l hl=>nmb l 193 (hlb.ty l hl)) (by omega) (Nat.le_refl _) hlN (g:=S.bks.length) (by rw[<-h.lenA];simp) hes hBm (U5 (by omega) _);obtain⟨hgA,hkN,hnN⟩:=HG.out;have hFin:=h1.IQ hb hbv hcv htv oP fP (fun x hx=>.inr (fun t ht=>nmb x t ht hx)) hbP hL;obtain⟨hO,fO⟩:=hFin.setOf (g:=S.bks.length) (k:=⟨10,none,[],[],false,false⟩) hkN hgA (hStm.mono (Hv.bT fP));exact⟨a,w1.heap.size,rfl,hO,((Fr.refl bT B w).drewN nq).trans (f1.trans (fP.trans fO))⟩
end
section
theorem YV {a:Nat} {pos:Int} {w:World} (h:WJ (Hv w 0) a pos):
  Calls Tryz.prog 201 #[a] w fun e w'=>e=.returned (.int .i64 pos)∧w=w':=by
 obtain⟨s,o,_,_,hb⟩:=h;have c0:=hb.cell 0 rfl;go_enter Tryz.func201,Tryz.ntmps201
 go_wp2
 go_ret;exact⟨rfl,rfl⟩
theorem SY (a:Addr) (w:World):(method 447 188 (.pointer (some a)) "Pos").run Tryz.prog w=.ok (201,.pointer (some a)) w:=by kernel_rfl
theorem SH {a:Nat} {pos:Int} {w:World} (h:VX (Hv w 0) a pos):
  Calls Tryz.prog 89 #[a] w fun e w'=>e=.returned (.int .i64 pos)∧w=w':=by
 obtain⟨f,⟨_,_,hb⟩,ia,rfl,hi⟩:=h;have c0:=hb.cell 0 rfl;have hp:=SY ⟨ia,0,none⟩ w;go_enter Tryz.func89,Tryz.ntmps89;go_wp2_with fail
 refine(YV hi).mono ?_;rintro e w' ⟨rfl,rfl⟩;go_wp2_with fail
 go_ret;exact⟨rfl,rfl⟩
end
section
def BS.newP (S:BS) (k:Int) (o:Option Int):Option BS:=if S.bks.length<=100000 then some (S.new k o)else none
def BS.SS (S:BS) (f:Bk->Option Bk):Option BS:=S.cur.bind fun c=>S.bks[c]?.bind fun k=>(f k).map (S.set c)
def BS.Zc (S:BS) (n:WW):Option BS:=S.SS fun k=>if k.nodes.length<=100000 then some { k with nodes:=k.nodes++ [n] } else none
def BS.Zm (S:BS) (t:Nat):Option BS:=(S.SS fun k=>if k.succs= []∧t < S.bks.length then some { k with succs:= [t] } else none).map BS.O9
def BS.LD (S:BS) (t t2:Nat):Option BS:=(S.SS fun k=>if k.succs= []∧t < S.bks.length∧t2 < S.bks.length then some { k with succs:= [t,t2] } else none).map BS.O9
def BS.Vl (S:BS):Option BS:=S.SS fun k=>some { k with Zn:=true }
def BS.ask (S:BS) (x:Int):BS:= { S with asked:=S.asked++ [x] }
def BS.Uo (S:BS) (n:Nat):Option BS:=if S.asked.length<=50000∧n<=100000 then some (S.ask n)else none
def BS.Y2 (S:BS) (s:ByteArray):Option Nat:=S.Z4.findIdx? fun y=>decide (y.1.data=s.data)
def BS.VN (S:BS) (s:ByteArray) (st:Bool):Option (Nat × BS):=
 match S.Y2 s with
 |some j=>if st then S.Z4[j]?.bind fun y=>S.bks[y.2.go]?.bind fun k=>if k.of=none then some (j,S.set y.2.go { k with of:=some 0 })else none else some (j,S)
 |none=>(S.newP 10 none).map fun S1=>(S.Z4.length,if st then(S1.lab s ⟨S.bks.length,none,none⟩).set S.bks.length ⟨10,some 0,[],[],false,false⟩else S1.lab s ⟨S.bks.length,none,none⟩)
def BS.XV (S:BS) (j:Nat) (f:Lb->Lb):BS:= { S with Z4:=S.Z4.modify j fun y=>(y.1,f y.2) }
def BS.YD (S:BS) (lab:Option Nat) (d:Nat):BS:=match lab with
 |none=>S
 |some j=>S.XV j fun x=> { x with brk:=some d }
def BS.UA (S:BS) (lab:Option Nat) (d:Nat):BS:=match lab with
 |none=>S
 |some j=>S.XV j fun x=> { x with cnt:=some d }
def BS.newAt (S:BS) (k:Int) (o:Option Int):Option BS:=(S.newP k o).map fun S1=>S1.at S.bks.length
def BS.aim (S:BS) (kind:Int) (target:ByteArray) (tg:List Tg):Option (Option Nat × BS):=
 if 0 < target.size then(S.VN target false).bind fun r=>r.2.Z4[r.1]?.map fun y=>(if kind=17 then y.2.brk else if kind=18 then y.2.cnt else some y.2.go,r.2)
 else some (if kind=17 then tg.findSome? Tg.brk else if kind=18 then tg.findSome? Tg.cnt else tg.findSome? Tg.fal,S)
def BS.aimed (r:Option Nat × BS):Option (Nat × BS):=match r.1 with
 |some t=>some (t,r.2)
 |none=>(r.2.newP 1 (some 0)).map fun S2=>(r.2.bks.length,S2)
def BS.Zg (S:BS) (kind:Int) (target:ByteArray) (tg:List Tg):Option BS:=
 (S.aim kind target tg).bind fun r=>(BS.aimed r).bind fun q=>(q.2.Zm q.1).bind fun S3=>S3.newAt 1 (some 0)
def BS.Yy (S:BS) (is:Bool) (n:Nat):Option BS:=if is then S.Zc ⟨lp n,false⟩else some S
def BS.Zf (S:BS) (is:Bool) (k:Int) (i:Nat):Option BS:=if is then S.newP k (some (ip i))else some S
abbrev Lr:=List Tg->BS->Option BS
def yG (h:Hd) (n i:Nat) (tg:List Tg) (B E:Lr) (S:BS):Option BS:=
 (S.Yy h.init n).bind fun S=>(S.newP 9 (some (ip i))).bind fun S1=>(S1.newP 7 (some (ip i))).bind fun S2=>(S2.Zf h.hasElse 8 i).bind fun S3=>
 (S3.Zc ⟨lp (n+h.init.toNat),false⟩).bind fun S4=>(S4.LD S.bks.length (if h.hasElse then S2.bks.length else S1.bks.length)).bind fun S5=>
 (B tg (S5.at S.bks.length)).bind fun S6=>(S6.Zm S1.bks.length).bind fun S7=>
 (if h.hasElse then(E tg (S7.at S2.bks.length)).bind fun S8=>S8.Zm S1.bks.length else some S7).map fun S9=>S9.at S1.bks.length
def Le (h:Hd) (n i:Nat) (lab:Option Nat) (tg:List Tg) (B:Lr) (S:BS):Option BS:=
 (S.Yy h.init n).bind fun S=>(S.newP 3 (some (ip i))).bind fun S1=>(S1.newP 4 (some (ip i))).bind fun S2=>(S2.Zf h.cond 5 i).bind fun S3=>(S3.Zf h.post 6 i).bind fun S4=>
 let loop:=if h.cond then S2.bks.length else S.bks.length
 let cont:=if h.post then S3.bks.length else loop
 (((S4.YD lab S1.bks.length).UA lab cont).Zm loop).bind fun S6=>
 (if h.cond then((S6.at loop).Zc ⟨lp (n+h.init.toNat),false⟩).bind fun S7=>(S7.LD S.bks.length S1.bks.length).map fun S8=>S8.at S.bks.length else some (S6.at loop)).bind fun S8=>
 (B (⟨some S1.bks.length,some cont,none⟩::tg) S8).bind fun S9=>(S9.Zm cont).bind fun S10=>
 (if h.post then((S10.at cont).Zc ⟨lp (n+h.init.toNat+h.cond.toNat),false⟩).bind fun S11=>S11.Zm loop else some S10).map fun S12=>S12.at S1.bks.length
def Vr (n i:Nat) (lab:Option Nat) (tg:List Tg) (B:Lr) (S:BS):Option BS:=
 (S.Zc ⟨lp n,false⟩).bind fun S=>(S.newP 13 (some (ip i))).bind fun S1=>(S1.Zm S.bks.length).bind fun S2=>
 ((S2.at S.bks.length).newP 11 (some (ip i))).bind fun S3=>(S3.newP 12 (some (ip i))).bind fun S4=>(S4.LD S2.bks.length S3.bks.length).bind fun S5=>
 (B (⟨some S3.bks.length,some S.bks.length,none⟩::tg) (((S5.at S2.bks.length).YD lab S3.bks.length).UA lab S.bks.length)).bind fun S6=>(S6.Zm S.bks.length).map fun S7=>S7.at S3.bks.length
def Yg (body:Nat) (p:Int):Nat->Nat->BS->Option BS
 |0,_,S=>some S
 |k+1,n,S=>(S.newP 19 (some p)).bind fun S1=>(S1.Zc ⟨lp n,false⟩).bind fun S2=>(S2.LD body S.bks.length).bind fun S3=>Yg body p k (n+1) (S3.at S.bks.length)
def X0 (body:Nat) (p:Int):Nat->BS->Option BS
 |0,S=>some S
 |k+1,S=>(S.newP 19 (some p)).bind fun S1=>(S1.LD body S.bks.length).bind fun S3=>X0 body p k (S3.at S.bks.length)
structure Df where
 blk:Nat
 run:Lr
 fal:Nat
structure Bl where
 list:Nat->Nat->Lr
 sw:Nat->Nat->List Tg->Nat->Option Nat->Option Df->BS->Option BS
 ty:Nat->Nat->List Tg->Nat->Option Lr->BS->Option BS
 sel:Nat->Nat->List Tg->Nat->Option Lr->BS->Option BS
 comms:BS->Option BS
def Uf (tg:List Tg) (done:Nat) (df:Option Df) (S:BS):Option BS:=match df with
 |none=>(S.Zm done).map fun S1=>S1.at done
 |some d=>(S.Zm d.blk).bind fun S1=>(d.run (⟨some done,none,some d.fal⟩::tg) (S1.at d.blk)).bind fun S2=>(S2.Zm done).map fun S3=>S3.at done
def Ul (tg:List Tg) (done:Nat) (df:Option Lr) (S:BS):Option BS:=match df with
 |none=>(S.Zm done).map fun S1=>S1.at done
 |some r=>(r (⟨some done,none,none⟩::tg) S).bind fun S2=>(S2.Zm done).map fun S3=>S3.at done
def Vz (tg:List Tg) (done:Nat) (df:Option Lr) (S:BS):Option BS:=match df with
 |none=>some (S.at done)
 |some r=>(r (⟨some done,none,none⟩::tg) S).bind fun S2=>(S2.Zm done).map fun S3=>S3.at done
def BS.UF (S:BS) (fall:Option Nat) (i:Nat):Option (Nat × BS):=match fall with
 |some f=>some (f,S)
 |none=>(S.newP 17 (some (ip i))).map fun S1=>(S.bks.length,S1)
def BS.UJ (S:BS) (last:Bool) (done i:Nat):Option (Nat × BS):=if last then some (done,S)else(S.newP 17 (some (ip i))).map fun S1=>(S.bks.length,S1)
def T.isNil:T->Bool
 | .nil=>true
 |_=>false
def U1 (h:Hd) (n i:Nat) (lab:Option Nat) (C:Nat->BS->Option BS) (S:BS):Option BS:=
 (S.Yy h.init n).bind fun S=>(S.Yy h.cond (n+h.init.toNat)).bind fun S=>(S.newP 18 (some (ip i))).bind fun S1=>C S.bks.length (S1.YD lab S.bks.length)
def TI (h:Hd) (n i:Nat) (lab:Option Nat) (C:Nat->BS->Option BS) (S:BS):Option BS:=
 (S.Yy h.init n).bind fun S=>(S.Zc ⟨0,false⟩).bind fun S=>(S.newP 18 (some (ip i))).bind fun S1=>C S.bks.length (S1.YD lab S.bks.length)
def U4 (i:Nat) (lab:Option Nat) (comms:BS->Option BS) (C:Nat->BS->Option BS) (S:BS):Option BS:=
 (comms S).bind fun S=>(S.newP 15 (some (ip i))).bind fun S1=>C S.bks.length (S1.YD lab S.bks.length)
def Y8 (h:Hd) (n i:Nat) (lab:Option Nat) (tg:List Tg) (B E:Lr) (Sw Ty Sel:Nat->BS->Option BS) (comms:BS->Option BS) (S:BS):Option BS:=
 if h.kind=1 then(S.Zc ⟨lp n,false⟩).bind fun S=>S.Uo n
 else if h.kind=2 then(S.Zc ⟨lp n,false⟩).bind fun S=>(S.Uo n).bind fun S=>S.newAt 1 (some (lp n))
 else if h.kind=7 then(S.Zc ⟨lp n,false⟩).bind BS.Vl
 else if h.kind=9 then S.Vl.bind fun S=>(S.Zc ⟨lp n,true⟩).bind fun S=>S.newAt 1 (some (lp n))
 else if h.kind<=8 then S.Zc ⟨lp n,false⟩
 else if h.kind=10 then yG h n i tg B E S
 else if h.kind=11 then Le h n i lab tg B S
 else if h.kind=12 then Vr n i lab tg B S
 else if h.kind=13 then U1 h n i lab Sw S
 else if h.kind=14 then TI h n i lab Ty S
 else if h.kind=15 then U4 i lab comms Sel S
 else if h.kind=16 then B tg S
 else if h.kind=21 then S.Zc ⟨0,false⟩
 else S.Zg h.kind h.target tg
def OA (s:ByteArray) (core:Option Nat->BS->Option BS) (S:BS):Option BS:=
 if s.size=0 then core none S
 else(S.VN s true).bind fun r=>r.2.Z4[r.1]?.bind fun y=>(r.2.Zm y.2.go).bind fun S2=>core (some r.1) (S2.at y.2.go)
def T.Zu:T->Bl
 | .nil=>⟨fun _ _ _ S=>some S,fun _ _ tg done _ df S=>Uf tg done df S,fun _ _ tg done df S=>Ul tg done df S,fun _ _ tg done df S=>Vz tg done df S,some⟩
 | .st h b e c tl=>
  ⟨fun n i tg S=>
   (OA h.label (fun lab=>Y8 h n i lab tg (b.Zu.list (n+h.own) (i+1)) (e.Zu.list (n+h.own+b.lv false) (i+1+b.it))
    (fun done=>c.Zu.sw (n+h.own+b.lv false+e.lv false) (i+1+b.it+e.it) tg done none none) (fun done=>c.Zu.ty (n+h.own+b.lv false+e.lv false) (i+1+b.it+e.it) tg done none)
    (fun done=>c.Zu.sel (n+h.own+b.lv false+e.lv false) (i+1+b.it+e.it) tg done none) c.Zu.comms) S).bind fun S1=>
   tl.Zu.list (n+h.own+b.lv false+e.lv false+c.lv (h.kind==13)) (i+1+b.it+e.it+c.it) tg S1,
   fun _ _ _ _ _ _ _=>none,fun _ _ _ _ _ _=>none,fun _ _ _ _ _ _=>none,fun _=>none⟩
 | .cl x b tl=>
  ⟨fun _ _ _ _=>none,
  fun n i tg done fall df S=>
   (S.UF fall i).bind fun r=>(r.2.UJ tl.isNil done (i+1+b.it)).bind fun q=>
   if x<=0 then tl.Zu.sw (n+x.toNat+b.lv false) (i+1+b.it) tg done (some q.1) (some ⟨r.1,b.Zu.list (n+x.toNat) (i+1),q.1⟩) q.2
   else(Yg r.1 (ip i) x.toNat n q.2).bind fun S3=>(b.Zu.list (n+x.toNat) (i+1) (⟨some done,none,some q.1⟩::tg) (S3.at r.1)).bind fun S4=>(S4.Zm done).bind fun S5=>
    tl.Zu.sw (n+x.toNat+b.lv false) (i+1+b.it) tg done (some q.1) df { S5 with cur:=S3.cur },
  fun n i tg done df S=>
   if x<=0 then tl.Zu.ty (n+b.lv false) (i+1+b.it) tg done (some (b.Zu.list n (i+1))) S
   else(S.newP 17 (some (ip i))).bind fun S1=>(X0 S.bks.length (ip i) x.toNat S1).bind fun S3=>(b.Zu.list n (i+1) (⟨some done,none,none⟩::tg) (S3.at S.bks.length)).bind fun S4=>(S4.Zm done).bind fun S5=>
    tl.Zu.ty (n+b.lv false) (i+1+b.it) tg done df { S5 with cur:=S3.cur },
  fun n i tg done df S=>
   if x<=0 then tl.Zu.sel (n+b.lv false) (i+1+b.it) tg done (some (b.Zu.list n (i+1))) S
   else(S.newP 14 (some (ip i))).bind fun S1=>(S1.newP 16 (some (ip i))).bind fun S2=>(S2.LD S.bks.length S1.bks.length).bind fun S3=>
    (b.Zu.list n (i+1) (⟨some done,none,none⟩::tg) (S3.at S.bks.length)).bind fun S4=>(S4.Zm done).bind fun S5=>
    tl.Zu.sel (n+b.lv false) (i+1+b.it) tg done df (S5.at S1.bks.length),
  fun S=>if 0 < x then(S.Zc ⟨0,false⟩).bind tl.Zu.comms else tl.Zu.comms S⟩
end
end Go.Proofs.YteedbaejpdjilaaGreat
