/- Part of the proof: BldA BldB. -/
import Derived.Test.YteedbaejpdjilaaGreatYPe
set_option linter.all false
set_option maxRecDepth 100000
set_option maxHeartbeats 40000000
namespace Go.Proofs.YteedbaejpdjilaaGreat
open Go.RowKit Tryz
section
structure Vt where
 pos:Int
 ret:Bool
structure Bk where
 kind:Int
 of:Option Int
 nodes:List Vt
 succs:List Nat
 live:Bool
 Yz:Bool
structure Lb where
 go:Nat
 brk:Option Nat
 cnt:Option Nat
structure BS where
 Z6:List Bk
 cur:Option Nat
 ZT:List (ByteArray × Lb)
 asked:List Int
def Mk.ask (M:Mk) (l:List Int):Mk:= { M with asked:=M.asked++l }
structure Tg where
 brk:Option Nat
 cnt:Option Nat
 Xw:Option Nat
section
variable (H:Hp)
def WL (v:Value) (n:Vt):Prop:=(n.ret=true/\Wc H v n.pos)\/(n.ret=false/\(YI H v n.pos\/VH H v n.pos\/XI H v n.pos\/JG H v n.pos\/Pm H v n.pos\/uS H v n.pos\/Sr H v n.pos\/LE H v n.pos\/(Sp H v/\n.pos=0)\/(XE H v/\n.pos=0)))
def Jy:List (Nat × Nat):= [(86,146),(197,199),(207,241),(209,243),(201,225),(203,231),(205,234),(227,229),(237,236),(194,221),(101,142)]
def X4 (v:Value):Option Int->Prop
 |none=>v=.nilIface
 |some p=>(∃ a ty t0 rest,v=.iface ty (.pointer (some ⟨a,0,none⟩))/\(ty,t0)∈Jy/\H a (.int .i64 p::rest) t0)\/
   (p=0/\ ∃ a lv u s,v=.iface 186 (.pointer (some ⟨a,0,none⟩))/\H a [lv,.int .i64 0,u] 190/\Xo H lv s)\/VH H v p\/(XE H v/\p=0)
def Zc (A:List Nat) (v:Value):Option Nat->Prop
 |none=>v=.pointer none
 |some i=> ∃ a,A[i]? =some a/\v=.pointer (some ⟨a,0,none⟩)
def Qa (A:List Nat):List Tg->Value->Prop
 | [],v=>v=.pointer none
 |t::ts,v=> ∃ a tl bv cv fv,v=.pointer (some ⟨a,0,none⟩)/\H a [tl,bv,cv,fv] 223/\Zc A bv t.brk/\Zc A cv t.cnt/\Zc A fv t.Xw/\Qa A ts tl
end
theorem WL.mono {H H':Hp} (hH: ∀ b cs t,H b cs t->H' b cs t) {v:Value} {n:Vt} :WL H v n->WL H' v n:=by
 rintro(⟨h1,h2⟩ |⟨h1,h2⟩)
 .exact .inl ⟨h1,h2.mono hH⟩
 .refine .inr ⟨h1,?_⟩;rcases h2 with h|h|h|h|h|h|h|h|h|h
  .exact .inl (h.mono hH)
  .exact .inr (.inl (h.mono hH))
  .exact .inr (.inr (.inl (h.mono hH)))
  .exact .inr (.inr (.inr (.inl (h.mono hH))))
  .exact .inr (.inr (.inr (.inr (.inl (h.mono hH)))))
  .exact .inr (.inr (.inr (.inr (.inr (.inl (h.mono hH))))))
  .exact .inr (.inr (.inr (.inr (.inr (.inr (.inl (h.mono hH)))))))
  .exact .inr (.inr (.inr (.inr (.inr (.inr (.inr (.inl (h.mono hH))))))))
  .exact .inr (.inr (.inr (.inr (.inr (.inr (.inr (.inr (.inl ⟨h.1.mono hH,h.2⟩))))))))
  .exact .inr (.inr (.inr (.inr (.inr (.inr (.inr (.inr (.inr ⟨h.1.mono hH,h.2⟩))))))))
theorem X4.mono {H H':Hp} (hH: ∀ b cs t,H b cs t->H' b cs t) {v:Value} {o:Option Int} :X4 H v o->X4 H' v o:=by
 cases o with
 |none=>exact id
 |some p=>
  rintro(⟨a,ty,t0,rest,h1,h2,h3⟩ |⟨hp,a,lv,u,s,h1,h2,h3⟩ |h|h)
  .exact .inl ⟨a,ty,t0,rest,h1,h2,hH _ _ _ h3⟩
  .exact .inr (.inl ⟨hp,a,lv,u,s,h1,hH _ _ _ h2,h3.mono hH⟩)
  .exact .inr (.inr (.inl (h.mono hH)))
  .exact .inr (.inr (.inr ⟨h.1.mono hH,h.2⟩))
theorem Zc.mono {A A':List Nat} (hA:A <+:A') {v:Value} {o:Option Nat} :Zc A v o->Zc A' v o:=by
 cases o with
 |none=>exact id
 |some i=>
  rintro⟨a,h1,h2⟩;obtain⟨r,rfl⟩:=hA;exact⟨a,by rw[ZP (Z1.1 h1).1];exact h1,h2⟩
theorem Qa.mono {H H':Hp} (hH: ∀ b cs t,H b cs t->H' b cs t) {A A':List Nat} (hA:A <+:A'): ∀ {ts:List Tg} {v:Value},Qa H A ts v->Qa H' A' ts v
 | [],_,h=>h
 |_::_,_,⟨a,tl,bv,cv,fv,h1,h2,h3,h4,h5,h6⟩=>⟨a,tl,bv,cv,fv,h1,hH _ _ _ h2,h3.mono hA,h4.mono hA,h5.mono hA,Qa.mono hH hA h6⟩
structure Only (X:List Nat) (w w':World):Prop where
 size:w.heap.size<=w'.heap.size
 block: ∀ k,k < w.heap.size->k∉X->w'.heap[k]? =w.heap[k]?
theorem Only.refl (X:List Nat) (w:World):Only X w w:=⟨Z7 _,fun _ _ _=>rfl⟩
theorem Only.trans {X:List Nat} {a b c:World} (h:Only X a b) (k:Only X b c):Only X a c:=
 ⟨ZC h.size k.size,fun i hi hx=>(k.block i (Nat.lt_of_lt_of_le hi h.size) hx).trans (h.block i hi hx)⟩
theorem Only.mono {X X':List Nat} {a b:World} (h:Only X a b) (hX: ∀ x∈X,x∈X'):Only X' a b:=⟨h.size,fun i hi hx=>h.block i hi (fun hc=>hx (hX _ hc))⟩
theorem Only.alloc {X:List Nat} {a b:World} (h:Only X a b) (o:Obj):Only X a (b.alloc o):=
 h.trans ⟨by simp,fun _ hk _=>Below.heap_alloc _ _ _ hk⟩
theorem Only.set {X:List Nat} {a b:World} (h:Only X a b) (p:Addr) (v:Value) (hp:p.block∈X\/a.heap.size<=p.block):Only X a (b.setCell p v):=
 ⟨by simpa [World.setCell]using h.size,fun k hk hx=>by
  rw[Below.heap_setCell _ _ _ _ ?_]
  .exact h.block k hk hx
  .intro e;subst e;rcases hp with hp|hp
   .exact hx hp
   .omega⟩
theorem Only.drew {X:List Nat} {a b:World} (h:Only X a b):Only X a b.drew:=⟨h.size,h.block⟩
theorem Only.grown {X:List Nat} {a b c:World} {row:Option Nat} (h:Only X a b) (hg:b.grownBy c row) (hr: ∀ k,row=some k->k∈X\/a.heap.size<=k):Only X a c:=
 ⟨ZC h.size hg.size,fun k hk hx=>by
  rw[hg.block k (Nat.lt_of_lt_of_le hk h.size) ?_]
  .exact h.block k hk hx
  .intro e;rcases hr k e.symm with h1|h1
   .exact hx h1
   .omega⟩
theorem ZD.only {X:List Nat} {w w':World} {b:Nat} {cs:List Value} {t:TypeId} (h:ZD w b cs t) (ho:Only X w w') (hx:b∉X):ZD w' b cs t:=by
 have:=h.lt;unfold ZD at*;rw[ho.block b this hx];exact h
theorem YX {X:List Nat} {w w':World} (ho:Only X w w') {base:Nat} {e:TypeId} {size:Nat} {v:Value} {n:Nat} {xs:List Value} (h:w.ownsRow base e size v n xs) (hx: ∀ k,v.ownBlock=some k->k∉X):w'.ownsRow base e size v n xs:=by
 have hlt:=h.lt;obtain⟨h1,h2⟩:=h;refine⟨h1,?_⟩;rcases h2 with h2|⟨g,cap,cur,hv,hg,hh,r⟩
 .exact Or.inl h2
 .have hgb:v.ownBlock=some g:=by rw[hv];rfl
  exact Or.inr ⟨g,cap,cur,hv,hg,by rw[ho.block g (hlt g hgb).2 (hx g hgb)];exact hh,r⟩
def FV (w:World) (B:Nat) (A:List Nat) (i:Nat) (k:Bk) (nv:Value):Prop:= ∃ a sv p0 p1 ns,
 A[i]? =some a/\ZD w a [nv,.slice (some ⟨a,7,none⟩) k.succs.length 2,.int .i32 i,k.live,k.Yz,.int .u8 k.kind,sv,p0,p1] 99/\
 w.ownsRow B 104 1 nv ns.length ns/\ns.length=k.nodes.length/\(∀ (j:Nat) v n,ns[j]? =some v->k.nodes[j]? =some n->WL (Hv w 0) v n)/\X4 (Hv w 0) sv k.of/\
 (∃ q0,Zc A p0 q0/\ ∀ s,k.succs[0]? =some s->q0=some s)/\(∃ q1,Zc A p1 q1/\ ∀ s,k.succs[1]? =some s->q1=some s)/\k.succs.length<=2
def Xe (w:World) (B:Nat) (A:List Nat) (ZT:List (ByteArray × Lb)) (L:List Nat) (mv:Value):Prop:=
 L.length=ZT.length/\L.Nodup/\(∀ l∈L,B<=l)/\
 (∀ (j:Nat) l s x,L[j]? =some l->ZT[j]? =some (s,x)-> ∃ gv bv cv,ZD w l [gv,bv,cv] 193/\Zc A gv (some x.go)/\Zc A bv x.brk/\Zc A cv x.cnt)/\
 ((mv=.map none/\ZT= [])\/ ∃ mb es ck,mv=.map (some mb)/\B<=mb/\w.heap[mb]? =some (.map es ck)/\es.toList.map (fun e=>(e.key,e.val))=(ZT.zip L).map (fun x=>(.string x.1.1,.pointer (some ⟨x.2,0,none⟩))))
structure Xd (w:World) (B b b0:Nat) (A:List Nat) (NV:List Value) (L:List Nat) (S:BS) (tg:List Tg) (M:Mk):Prop where
 hB:B<=b
 US:A.length=S.Z6.length
 VU:NV.length=S.Z6.length
 nodup:A.Nodup
 base: ∀ a∈A,B<=a
 apart: ∀ (i j:Nat) vi vj g,i≠j->NV[i]? =some vi->NV[j]? =some vj->vi.ownBlock=some g->vj.ownBlock≠some g
 Z6: ∀ (i:Nat) k nv,S.Z6[i]? =some k->NV[i]? =some nv->FV w B A i k nv
 Bw:ZZ w B b0 (M.ask S.asked)
 self: ∃ bv cv mv tv,ZD w b [bv,.func (.func 67) #[b0] #[],cv,mv,tv] 136/\
  w.ownsRow B 92 1 bv A.length (A.map fun a=>.pointer (some ⟨a,0,none⟩))/\Zc A cv S.cur/\Xe w B A S.ZT L mv/\Qa (Hv w 0) A tg tv
def bT:List Nat:= [136,99,92,104,193,83,3]
def BS.new (S:BS) (k:Int) (o:Option Int):BS:= { S with Z6:=S.Z6++ [⟨k,o,[],[],false,false⟩] }
theorem MP:(prog.info? 92).map (fun i=>(i.zero,i.size,i.bytes))=some (some (.pointer none),1,8):=by kernel_rfl
theorem AJ:(prog.info? 104).map (fun i=>(i.zero,i.size,i.bytes))=some (some .nilIface,1,16):=by kernel_rfl
theorem X4.one {H:Hp} {v:Value} {o:Option Int} (h:X4 H v o):v.cells= #[v]/\v.oneCell'=true:=by
 cases o with
 |none=>obtain rfl:=h;exact⟨rfl,rfl⟩
 |some p=>
  rcases h with⟨a,ty,t0,rest,rfl,_⟩ |⟨_,a,lv,u,s,rfl,_⟩ |⟨a,c,rfl,_⟩ |⟨⟨a,x,rfl,_⟩,_⟩<;>exact⟨rfl,rfl⟩
theorem Hv.bT {B:Nat} {w w':World} (hf:Fr bT B w w'): ∀ b cs t,Hv w 0 b cs t->Hv w' 0 b cs t:=Hv.fr hf (by decide) (Z7 _)
theorem FV.only {X:List Nat} {w w':World} (ho:Only X w w') {B:Nat} (hf:Fr bT B w w') {A A':List Nat} (hA:A <+:A') {i:Nat} {k:Bk} {nv:Value} (h:FV w B A i k nv) (ha: ∀ a,A[i]? =some a->a∉X) (hn: ∀ g,nv.ownBlock=some g->g∉X):FV w' B A' i k nv:=by
 obtain⟨a,sv,p0,p1,ns,h1,h2,h3,h4,h5,h6,⟨q0,h7,h8⟩,⟨q1,h9,h10⟩,h11⟩:=h;have h1':A'[i]? =some a:=by
  obtain⟨r,rfl⟩:=hA;rw[ZP (Z1.1 h1).1];exact h1
 exact⟨a,sv,p0,p1,ns,h1',h2.only ho (ha a h1),YX ho h3 hn,h4,fun j v n e1 e2=>(h5 j v n e1 e2).mono (Hv.bT hf),h6.mono (Hv.bT hf),⟨q0,h7.mono hA,h8⟩,⟨q1,h9.mono hA,h10⟩,h11⟩
theorem Xe.only {X:List Nat} {w w':World} (ho:Only X w w') {B:Nat} {A A':List Nat} (hA:A <+:A') {ZT:List (ByteArray × Lb)} {L:List Nat} {mv:Value} (h:Xe w B A ZT L mv) (hl: ∀ l∈L,l∉X) (hm: ∀ mb,mv=.map (some mb)->mb∉X):Xe w' B A' ZT L mv:=by
 obtain⟨h1,h2,h3,h4,h5⟩:=h;refine⟨h1,h2,h3,fun j l s x e1 e2=>?_,?_⟩
 .obtain⟨gv,bv,cv,g1,g2,g3,g4⟩:=h4 j l s x e1 e2;exact⟨gv,bv,cv,g1.only ho (hl l (ZY e1)),g2.mono hA,g3.mono hA,g4.mono hA⟩
 .rcases h5 with h5|⟨mb,es,ck,g1,g2,g3,g4⟩
  .exact .inl h5
  .refine .inr ⟨mb,es,ck,g1,g2,?_,g4⟩;rw[ho.block mb ?_ (hm mb g1)]
   .exact g3
   .rcases Nat.lt_or_ge mb w.heap.size with hlt|hge
    .exact hlt
    .rw[Array.getElem?_eq_none hge]at g3;cases g3
theorem Xe.ty {w:World} {B:Nat} {A:List Nat} {ZT:List (ByteArray × Lb)} {L:List Nat} {mv:Value} (h:Xe w B A ZT L mv): ∀ l∈L,Zq w l 193:=by
 obtain⟨h1,h2,h3,h4,h5⟩:=h;intro l hl;obtain⟨j,hj,rfl⟩:=List.getElem_of_mem hl;have hj2:j < ZT.length:=by omega
 obtain⟨gv,bv,cv,g1,_⟩:=h4 j L[j] ZT[j].1 ZT[j].2 (Z9 hj) (by rw[Z9 hj2]);exact g1.ty
theorem Xe.W5 {w:World} {B:Nat} {A:List Nat} {ZT:List (ByteArray × Lb)} {L:List Nat} {mv:Value} (h:Xe w B A ZT L mv) {mb:Nat} (hm:mv=.map (some mb)) {x t:Nat} (ht:Zq w x t):mb≠x:=by
 obtain⟨h1,h2,h3,h4,h5⟩:=h;rcases h5 with⟨h5,_⟩ |⟨mb',es,ck,g1,g2,g3,g4⟩
 .rw[h5]at hm;cases hm
 .rw[g1]at hm;cases hm;intro e;subst e;obtain⟨cs,f,hc⟩:=ht;rw[g3]at hc;cases hc
theorem Xe.mlt {w:World} {B:Nat} {A:List Nat} {ZT:List (ByteArray × Lb)} {L:List Nat} {mv:Value} (h:Xe w B A ZT L mv) {mb:Nat} (hm:mv=.map (some mb)):mb < w.heap.size:=by
 obtain⟨h1,h2,h3,h4,h5⟩:=h;rcases h5 with⟨h5,_⟩ |⟨mb',es,ck,g1,g2,g3,g4⟩
 .rw[h5]at hm;cases hm
 .rw[g1]at hm;cases hm;rcases Nat.lt_or_ge mb w.heap.size with hlt|hge
  .exact hlt
  .rw[Array.getElem?_eq_none hge]at g3;cases g3
theorem Xd.Bv {w:World} {B b b0:Nat} {A:List Nat} {NV:List Value} {L:List Nat} {S:BS} {tg:List Tg} {M:Mk} (h:Xd w B b b0 A NV L S tg M): ∀ a∈A,Zq w a 99:=by
 intro a ha;obtain⟨i,hi,rfl⟩:=List.getElem_of_mem ha;have h1:i < S.Z6.length:=by have:=h.US;omega
 have h2:i < NV.length:=by have:=h.VU;omega
 obtain⟨a',sv,p0,p1,ns,g1,g2,_⟩:=h.Z6 i S.Z6[i] NV[i] (Z9 h1) (Z9 h2);rw[Z9 hi]at g1;cases g1;exact g2.ty
theorem Xd.Jx {w:World} {B b b0:Nat} {A:List Nat} {NV:List Value} {L:List Nat} {S:BS} {tg:List Tg} {M:Mk} (h:Xd w B b b0 A NV L S tg M): ∀ v∈NV,∀ g,v.ownBlock=some g->Zq w g 104:=by
 intro v hv g hg;obtain⟨i,hi,rfl⟩:=List.getElem_of_mem hv;have h1:i < S.Z6.length:=by have:=h.VU;omega
 obtain⟨a',sv,p0,p1,ns,g1,g2,g3,_⟩:=h.Z6 i S.Z6[i] NV[i] (Z9 h1) (Z9 hi);exact Zg g3 hg
theorem U8 {w:World} {B b b0:Nat} {A:List Nat} {NV:List Value} {L:List Nat} {S:BS} {tg:List Tg} {M:Mk} (h:Xd w B b b0 A NV L S tg M) (hn:S.Z6.length<=100000) (k:Int) (sv:Value) (o:Option Int) (hs:X4 (Hv w 0) sv o):
  Calls prog 84 #[b,.int .u8 k,sv] w fun e w'=> ∃ a,e=.returned (.pointer (some ⟨a,0,none⟩))/\Xd w' B b b0 (A++ [a]) (NV++ [.slice none 0 0]) L (S.new k o) tg M/\Fr bT B w w':=by
 obtain⟨ig,svo⟩:=hs.one;unfold Value.cells at ig;obtain⟨bv,cv,mv,tv,hb,hbv,hcv,hlv,UH⟩:=h.self;have hlA:=h.US;have hBb:=h.hB;have hlt:=hb.lt;have c0:=hb.cell 0 rfl;obtain⟨ba,bn,bc,rfl,rfl⟩: ∃ a n c,bv=.slice a n c/\n=A.length:=by
  rcases hbv.2 with⟨rfl,h0⟩ |⟨g,cap,cur,rfl,_⟩
  .exact⟨_,_,_,rfl,h0.symm⟩
  .exact⟨_,_,_,rfl,rfl⟩
 have hA1:A.length<=100000:=by omega
 have HlA:=Z5 hlA;clear hlA;have hbN:=hb.alloc (.cells [.slice none 0 0,.slice (some ⟨w.heap.size,7,none⟩) 0 2,.int .i32 A.length,.bool false,.bool false,.int .u8 k,sv,.pointer none,.pointer none].toArray 99);have d0:=hbN.cell 0 rfl;have Ec:=hbv.alloc (.cells [.slice none 0 0,.slice (some ⟨w.heap.size,7,none⟩) 0 2,.int .i32 A.length,.bool false,.bool false,.int .u8 k,sv,.pointer none,.pointer none].toArray 99);have hnew:=ZD.new w [.slice none 0 0,.slice (some ⟨w.heap.size,7,none⟩) 0 2,.int .i32 A.length,false,false,.int .u8 k,sv,.pointer none,.pointer none] 99;have sN:w.heap.size+1<=(w.alloc (.cells [.slice none 0 0,.slice (some ⟨w.heap.size,7,none⟩) 0 2,.int .i32 A.length,.bool false,.bool false,.int .u8 k,sv,.pointer none,.pointer none].toArray 99)).heap.size:=by simp
 have sN':(w.alloc (.cells [.slice none 0 0,.slice (some ⟨w.heap.size,7,none⟩) 0 2,.int .i32 A.length,.bool false,.bool false,.int .u8 k,sv,.pointer none,.pointer none].toArray 99)).heap.size<=w.heap.size+1:=by simp
 have fN:Fr bT B w (w.alloc (.cells [.slice none 0 0,.slice (some ⟨w.heap.size,7,none⟩) 0 2,.int .i32 A.length,.bool false,.bool false,.int .u8 k,sv,.pointer none,.pointer none].toArray 99)):=(Fr.refl _ _ _).alloc (by omega) _;have oN:Only ([b]++(Value.slice ba A.length bc).ownBlock.toList) w (w.alloc (.cells [.slice none 0 0,.slice (some ⟨w.heap.size,7,none⟩) 0 2,.int .i32 A.length,.bool false,.bool false,.int .u8 k,sv,.pointer none,.pointer none].toArray 99)):=(Only.refl _ _).alloc _;go_enter func84,ntmps84;go_wp2_with (at_builtin;refine Ze (w.alloc _) rfl _ _ 89 rfl B 92 (.pointer none) 1 8 underlying89 MP rfl (by decide) (by decide) Ec (by rfl) [w.heap.size] rfl ?c1 (by simp;rfl) (by omega) (by omega) ?_)
 case c1=>simp[Value.oneCell']
 intro g cap w1 h1 hg hat hg1;have hb1:=hbN.grown hg (own_ne Ec hbN.ty (by decide));have hn1:=hnew.grown hg (own_ne Ec hnew.ty (by decide));clear c0 d0;have e0:=hb1.cell 0 rfl;have ef:=hb1.free 0;have hb2:=hb1.set 0 (.slice (some ⟨g,0,none⟩) (A.length+1) cap);have f1:Fr bT B w w1:=fN.grown Ec hg (by omega) (Z7 _) (.inl (by decide));have f2:Fr bT B w (w1.setCell ⟨b,0,none⟩ (.slice (some ⟨g,0,none⟩) (A.length+1) cap)):=f1.X9 _ _ hb1.ty (by decide) hBb;have o1:=oN.grown hg (fun k hk=>.inl (by simp[hk]));have o2:=o1.set ⟨b,0,none⟩ (.slice (some ⟨g,0,none⟩) (A.length+1) cap) (.inl (by simp));go_wp2_with fail
 go_ret;have hlA:=HlA.out;have hA:A <+:A++ [w.heap.size]:=⟨_,rfl⟩
 have nX: ∀ x t,Zq w x t->t≠136->t≠92->x∉([b]++(Value.slice ba A.length bc).ownBlock.toList):=by
  intro x t hx h1 h2 hc;simp at hc;rcases hc with rfl|hc
  .exact Zq.ne hx hb.ty h1 rfl
  .exact Zq.ne hx (Zg hbv hc) h2 rfl
 have hn2:ZD (w1.setCell ⟨b,0,none⟩ (.slice (some ⟨g,0,none⟩) (A.length+1) cap)) w.heap.size _ _:=hn1.setOther ⟨b,0,none⟩ _ (by show w.heap.size≠b;omega);refine⟨w.heap.size,rfl,⟨hBb,?_,?_,?_,?_,?_,?_,?_,?_⟩,f2⟩
 .simp[BS.new,hlA]
 .simp[BS.new,h.VU]
 .rw[Y4];refine⟨h.nodup,by simp,fun a ha c hc=>?_⟩;simp at hc;subst hc;have:=(h.Bv a ha).lt;omega
 .intro a ha;rcases ZM.1 ha with ha|ha
  .exact h.base a ha
  .simp at ha;omega
 .intro i j vi vj g' hij hi hj hgi;by_cases hi1:i < NV.length
  .rw[ZP hi1]at hi;by_cases hj1:j < NV.length
   .rw[ZP hj1]at hj;exact h.apart i j vi vj g' hij hi hj hgi
   .rw[Zj (by omega)]at hj;have:=ZY hj;simp at this;subst this;simp[Value.ownBlock]
  .rw[Zj (by omega)]at hi;have:=ZY hi;simp at this;subst this;simp[Value.ownBlock]at hgi
 .intro i k' nv hk hv;by_cases hi:i < S.Z6.length
  .have hk':S.Z6[i]? =some k':=by simpa [BS.new,ZP hi]using hk
   have hv':NV[i]? =some nv:=by rwa [ZP (by have:=h.VU;omega)]at hv
   exact(h.Z6 i k' nv hk' hv').only o2 f2 hA (fun a ha=>nX a 99 (h.Bv a (ZY ha)) (by decide) (by decide)) (fun g' hg'=>nX g' 104 (h.Jx nv (ZY hv') g' hg') (by decide) (by decide))
  .have hi2:i=S.Z6.length:=by
    have:=(Z1.1 hk).1;simp[BS.new]at this;omega
   subst hi2;simp[BS.new]at hk;subst hk;have hv2:nv=.slice none 0 0:=by
    rw[Zj (by have:=h.VU;omega)]at hv;have:=ZY hv;simpa using this
   subst hv2;exact⟨w.heap.size,sv,.pointer none,.pointer none,[],by rw[<-hlA];simp,by rw[<-hlA];exact hn2,Zs _ _ _ _,rfl,fun j v n e1=>by simp at e1,hs.mono (Hv.bT f2),⟨none,rfl,fun s hs=>by simp at hs⟩,⟨none,rfl,fun s hs=>by simp at hs⟩,by simp⟩
 .exact h.Bw.fr (Tt:= [136,92]) (B':=B) (by
   have g1:Fr [136,92] B w w1:=((Fr.refl [136,92] B w).alloc (by omega) _).grown Ec hg (by omega) (Z7 _) (.inl (by decide));exact g1.X9 _ _ hb1.ty (by decide) hBb) (by decide)
 .refine⟨_,cv,mv,tv,hb2,?_,hcv.mono hA,hlv.only o2 hA (fun l hl=>nX l 193 (hlv.ty l hl) (by decide) (by decide)) ?_,UH.mono (Hv.bT f2) hA⟩
  .have:=Y3 h1 ⟨b,0,none⟩ (.slice (some ⟨g,0,none⟩) (A.length+1) cap) (own_ne h1 hb1.ty (by decide));simpa using this
  .intro mb hmb hc;simp at hc;rcases hc with rfl|hc
   .exact hlv.W5 hmb hb.ty rfl
   .exact hlv.W5 hmb (Zg hbv hc) rfl
end
section
def oT:List Nat:= [136,99,92,104,193]
theorem ZZ.only {X:List Nat} {w w':World} (ho:Only X w w') (hX: ∀ x∈X,∃ t,Zq w x t/\t∈oT) {B b:Nat} {M:Mk} (h:ZZ w B b M):ZZ w' B b M:=by
 have nX: ∀ x t,Zq w x t->t∉oT->x∉X:=by
  intro x t hx ht hc;obtain⟨t',h1,h2⟩:=hX x hc;exact ht (Zq.inj hx h1 ▸ h2)
 obtain⟨sv,lv,av,ps,hB,hb,hsv,hlv,hps,hn,hav⟩:=h
 exact⟨sv,lv,av,ps,hB,hb.only ho (nX _ _ hb.ty (by decide)),YX ho hsv (fun k hk=>nX _ _ (Zg hsv hk) (by decide)),YX ho hlv (fun k hk=>nX _ _ (Zg hlv hk) (by decide)),
  fun p hp=>let⟨s,hs⟩:=hps p hp;⟨s,hs.only ho (nX _ _ hs.ty (by decide))⟩,hn,YX ho hav (fun k hk=>nX _ _ (Zg hav hk) (by decide))⟩
def BS.set (S:BS) (c:Nat) (k:Bk):BS:= { S with Z6:=S.Z6.set c k }
theorem Xd.upd {w w':World} {B b b0:Nat} {A:List Nat} {NV:List Value} {L:List Nat} {S:BS} {tg:List Tg} {M:Mk} (h:Xd w B b b0 A NV L S tg M) {c a:Nat} {nv UR:Value} {k':Bk} (ha:A[c]? =some a) (V9:NV[c]? =some nv)
  {X:List Nat} (ho:Only X w w') (hf:Fr bT B w w') (hX: ∀ x∈X,x=a\/nv.ownBlock=some x) (hbk:FV w' B A c k' UR) (hfresh: ∀ g,UR.ownBlock=some g->nv.ownBlock=some g\/w.heap.size<=g):
  Xd w' B b b0 A (NV.set c UR) L (S.set c k') tg M:=by
 have tya:=h.Bv a (ZY ha);have tyn:=h.Jx nv (ZY V9);have eK: ∀ x∈X,∃ t,Zq w x t/\(t=99\/t=104):=by
  intro x hx;rcases hX x hx with rfl|hx
  .exact⟨_,tya,.inl rfl⟩
  .exact⟨_,tyn x hx,.inr rfl⟩
 have nX: ∀ x t,Zq w x t->t≠99->t≠104->x∉X:=by
  intro x t hx h1 h2 hc;obtain⟨t',h3,h4⟩:=eK x hc;have:=Zq.inj hx h3;subst this;rcases h4 with h4|h4
  .exact h1 h4
  .exact h2 h4
 obtain⟨bv,cv,mv,tv,hb,hbv,hcv,hlv,UH⟩:=h.self;have hA:A <+:A:=⟨[],by simp⟩
 refine⟨h.hB,by simp[BS.set,h.US],by simp[BS.set,h.VU],h.nodup,h.base,?_,?_,h.Bw.only ho (fun x hx=>let⟨t,h1,h2⟩:=eK x hx;⟨t,h1,by rcases h2 with rfl|rfl<;>decide⟩),?_⟩
 .intro i j vi vj g hij hi hj hgi hgj;have key: ∀ (i:Nat) vi,i≠c->NV[i]? =some vi-> ∀ g,vi.ownBlock=some g->UR.ownBlock≠some g:=by
   intro i vi hic hi g hgi hg;rcases hfresh g hg with h1|h1
   .exact h.apart i c vi nv g hic hi V9 hgi h1
   .have:=(h.Jx vi (ZY hi) g hgi).lt;omega
  by_cases hic:i=c
  .subst hic;have hlt:=(Z1.1 V9).1;rw[YQ hlt]at hi;cases hi;rw[YM hij]at hj;exact key j vj (Ne.symm hij) hj g hgj hgi
  .rw[YM (Ne.symm hic)]at hi;by_cases hjc:j=c
   .subst hjc;have hlt:=(Z1.1 V9).1;rw[YQ hlt]at hj;cases hj;exact key i vi hic hi g hgi hgj
   .rw[YM (Ne.symm hjc)]at hj;exact h.apart i j vi vj g hij hi hj hgi hgj
 .intro i k VO hk hv;by_cases hic:i=c
  .subst hic;have hlt:=(Z1.1 V9).1;rw[YQ hlt]at hv;cases hv;have hlt2:i < S.Z6.length:=by have:=h.VU;omega
   have hk2:(S.Z6.set i k')[i]? =some k:=hk;rw[YQ hlt2]at hk2;cases hk2;exact hbk
  .rw[YM (Ne.symm hic)]at hv;have hk2:(S.Z6.set c k')[i]? =some k:=hk;rw[YM (Ne.symm hic)]at hk2;refine(h.Z6 i k VO hk2 hv).only ho hf hA ?_ ?_
   .intro a' ha' hc;rcases hX a' hc with h1|h1
    .subst h1;exact hic ((List.getElem?_inj (Z1.1 ha').1 h.nodup).1 (ha'.trans ha.symm))
    .exact Zq.ne (h.Bv a' (ZY ha')) (tyn a' h1) (by decide) rfl
   .intro g hg hc;rcases hX g hc with h1|h1
    .subst h1;exact Zq.ne (h.Jx VO (ZY hv) g hg) tya (by decide) rfl
    .exact h.apart i c VO nv g hic hv V9 hg h1
 .refine⟨bv,cv,mv,tv,hb.only ho (nX b 136 hb.ty (by decide) (by decide)),YX ho hbv (fun k hk=>nX k 92 (Zg hbv hk) (by decide) (by decide)),hcv,hlv.only ho hA (fun l hl=>nX l 193 (hlv.ty l hl) (by decide) (by decide)) ?_,UH.mono (Hv.bT hf) hA⟩;intro mb hmb hc;obtain⟨t,h1,_⟩:=eK mb hc;exact hlv.W5 hmb h1 rfl
theorem Xd.Hc {w:World} {B b b0:Nat} {A:List Nat} {NV:List Value} {L:List Nat} {S:BS} {tg:List Tg} {M:Mk} (h:Xd w B b b0 A NV L S tg M) {c:Nat} {k:Bk} (hc:S.cur=some c) (hk:S.Z6[c]? =some k):
  ∃ a nv bv mv tv,A[c]? =some a/\NV[c]? =some nv/\FV w B A c k nv/\ZD w b [bv,.func (.func 67) #[b0] #[],.pointer (some ⟨a,0,none⟩),mv,tv] 136:=by
 obtain⟨bv,cv,mv,tv,hb,hbv,hcv,hlv,UH⟩:=h.self;rw[hc]at hcv;obtain⟨a,h1,rfl⟩:=hcv;have hlt:=(Z1.1 hk).1;have hln:c < NV.length:=by have:=h.VU;omega
 exact⟨a,NV[c],bv,mv,tv,h1,Z9 hln,h.Z6 c k _ hk (Z9 hln),hb⟩
theorem WL.iface {H:Hp} {v:Value} {n:Vt} (h:WL H v n): ∃ tt pp,v=.iface tt pp:=by
 rcases h with⟨_,a,rfl,_⟩ |⟨_,⟨a,rfl,_⟩ |⟨a,c,rfl,_⟩ |⟨a,l,x,r,rfl,_⟩ |⟨a,x,rfl,_⟩ |⟨a,x,y,rfl,_⟩ |⟨a,c,rfl,_⟩ |⟨a,c,rfl,_⟩ |⟨a,l,d,r,rfl,_⟩ |⟨⟨a,rfl,_⟩,_⟩ |⟨⟨a,x,rfl,_⟩,_⟩⟩<;>exact⟨_,_,rfl⟩
theorem add_any {w:World} {B b b0:Nat} {A:List Nat} {NV:List Value} {L:List Nat} {S:BS} {tg:List Tg} {M:Mk} (h:Xd w B b b0 A NV L S tg M) {c:Nat} {k:Bk} (hc:S.cur=some c) (hk:S.Z6[c]? =some k) (hn:k.nodes.length<=100000) (v:Value) (n:Vt) (hv:WL (Hv w 0) v n):
  Calls prog 86 #[b,v] w fun e w'=>e=.returned (.tuple #[])/\ ∃ NV',Xd w' B b b0 A NV' L (S.set c { k with nodes:=k.nodes++ [n] }) tg M/\Fr bT B w w':=by
 obtain⟨tt,pp,rfl⟩:=hv.iface;obtain⟨a,nv,bv,mv,tv,ha,V9,hbk,hb⟩:=h.Hc hc hk;obtain⟨a',sv,p0,p1,ns,g1,g2,g3,g4,g5,g6,g7,g8,g9⟩:=hbk;rw[ha]at g1;cases g1;have hBb:=h.hB;have hBa:=h.base a (ZY ha);have hlt:=hb.lt;have pf:=g2.lt;have c2:=hb.cell 2 rfl;have d0:=g2.cell 0 rfl;have hns:ns.length<=100000:=by omega
 have hcd:=(g2.alloc (.cells [.iface tt pp].toArray 104)).drew.cell 0 rfl;have hcb:=(hb.alloc (.cells [.iface tt pp].toArray 104)).drew.cell 2 rfl;have Hx:=Wp hc hk ha V9 g4;clear hc hk ha V9 g4;go_enter func86,ntmps86
 go_region_law (refine XQ w _ rfl _ _ 93 rfl B 104 .nilIface 1 16 underlying93 AJ rfl (by decide) (by decide) g3 (by rfl) [.iface tt pp] rfl (by simp[Value.oneCell']) (by rfl) (by omega) (by omega) (by first|exact .inl rfl|exact .inr rfl) ?_;intro g cap w1 h1 hg hat hg1;have hA1:=g2.grown hg (own_ne g3 g2.ty (by decide));have e0:=hA1.cell 0 rfl;have ef:=hA1.free 0;have hb1:=hb.grown hg (own_ne g3 hb.ty (by decide));have b2:=hb1.cell 2 rfl)
 all_goals
  have f1:Fr bT B w w1:=(Fr.refl bT B w).grown g3 hg (by omega) (Z7 _) (.inl (by decide));have f2:Fr bT B w (w1.setCell ⟨a,0,none⟩ (.slice (some ⟨g,0,none⟩) (ns.length+1) cap)):=f1.X9 _ _ hA1.ty (by decide) hBa;have o2:Only ([a]++nv.ownBlock.toList) w (w1.setCell ⟨a,0,none⟩ (.slice (some ⟨g,0,none⟩) (ns.length+1) cap)):=((Only.refl _ w).grown hg (fun k hk=>.inl (by simp[hk]))).set _ _ (.inl (by simp));have hA2:=hA1.set 0 (.slice (some ⟨g,0,none⟩) (ns.length+1) cap);have eJ:=Y3 h1 ⟨a,0,none⟩ (.slice (some ⟨g,0,none⟩) (ns.length+1) cap) (own_ne h1 hA1.ty (by decide));go_wp2_with fail
  go_end0
  obtain⟨hc,hk,ha,V9,g4⟩:=Hx.out;refine⟨rfl,NV.set c (.slice (some ⟨g,0,none⟩) (ns.length+1) cap),h.upd ha V9 o2 f2 (fun x hx=>by simpa using hx) ⟨a,sv,p0,p1,ns++ [.iface tt pp],ha,hA2,by simpa using eJ,by simp[g4],?_,g6.mono (Hv.bT f2),g7,g8,g9⟩ ?_,f2⟩
  .intro j u m hu hm;by_cases hj:j < ns.length
   .rw[ZP hj]at hu;rw[ZP (by omega)]at hm;exact(g5 j u m hu hm).mono (Hv.bT f2)
   .have hj2:j=ns.length:=by
     have:=(Z1.1 hu).1;simp at this;omega
    subst hj2;simp at hu;rw[g4]at hm;simp at hm;subst hu hm;exact hv.mono (Hv.bT f2)
  .intro x hx;simp[Value.ownBlock]at hx;subst hx;rcases hat with h2|⟨_,h2⟩
   .exact .inl h2
   .exact .inr (by omega)
end
end Go.Proofs.YteedbaejpdjilaaGreat
