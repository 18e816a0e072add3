/- Part of the proof: Mem Base Form. -/
import Derived.Test.YteedbaejpdjilaaGreatProg
import Derived.WalkKit
import Derived.WalkSpells
import Derived.WalkLawsBesides
import Derived.Deep.RegionHeld3
import Derived.Deep.AppendLies
set_option linter.all false
set_option maxRecDepth 100000
set_option maxHeartbeats 40000000
namespace Go.Proofs.YteedbaejpdjilaaGreat
open Go.RowKit Tryz
def Z9:=@List.getElem?_eq_getElem
def Z8:=@Option.bind_eq_some_iff
def Z7:=@Nat.le_refl
def Z4:=@List.length_append
def Z2:=@List.mem_cons_of_mem
def Z1:=@List.getElem?_eq_some_iff
def Z3:=@Nat.add_assoc
def ZX:=@Option.map_eq_some_iff
def ZY:=@List.mem_of_getElem?
def ZN:=@Below.refl
def ZS:=@List.nodup_cons
def ZO:=@List.mem_cons
def ZP:=@List.getElem?_append_left
def ZG:=@Bool.toNat_le
def ZM:=@List.mem_append
def ZI:=@List.append_assoc
def ZL:=@List.replicate_append_replicate
def Zy:=@List.getD_eq_getElem?_getD
def ZJ:=@List.length_cons
def ZA:=@Nat.eq_zero_or_pos
def ZC:=@Nat.le_trans
def Zp:=@List.set_cons_zero
def Zo:=@List.set_cons_succ
def Zw:=@Bool.false_eq_true
def Zv:=@Nat.add_comm
def ZK:=@List.setIfInBounds_toArray
def Zs:=@World.ownsRow_nil
def Zh:=@Option.bind_some
def Zr:=@List.mem_append_right
def Zn:=@Nat.add_zero
def Y7:=@Option.map_some
def Zm:=@List.replicate_succ'
def Y0:=@Option.some.inj
def Zj:=@List.getElem?_append_right
def Zd:=@List.mem_append_left
def Y2:=@List.mem_map
def Zf:=@List.length_range
def Y6:=@List.getElem?_eq_none
def Y8:=@List.length_map
def Y9:=@List.append_nil
def Y5:=@List.getElem?_modify
def Y4:=@List.nodup_append
def Zk:=@List.mem_singleton
def YR:=@Nat.zero_add
def Yt:=@List.getElem?_map
def Y1:=@Int.toNat_natCast
def YM:=@List.getElem?_set_ne
def YQ:=@List.getElem?_set_self
def Yv:=@Option.map_none
def ZF:=@World.ownsRow.cellAt
section
instance:Coe Nat Value:=⟨fun b=>.pointer (some ⟨b,0,none⟩)⟩
instance:Coe Int Value:=⟨.int .i64⟩
instance:Coe Bool Value:=⟨.bool⟩
instance:Coe ByteArray Value:=⟨.string⟩
def ZD (w:World) (b:Nat) (cs:List Value) (t:TypeId):Prop:=w.heap[b]? =some (.cells cs.toArray t (0,0))
theorem ZD.cell {w:World} {b:Nat} {cs:List Value} {t:TypeId} (h:ZD w b cs t) (o:Nat) {v:Value} (hv:cs[o]? =some v):w.cell? ⟨b,o,none⟩=some v:=by
 unfold ZD at h;simp[World.cell?,h,hv]
theorem ZD.free {w:World} {b:Nat} {cs:List Value} {t:TypeId} (h:ZD w b cs t) (o:Nat):w.frozen? ⟨b,o,none⟩=false:=by
 unfold ZD at h;simp[World.frozen?,h]
theorem ZD.lt {w:World} {b:Nat} {cs:List Value} {t:TypeId} (h:ZD w b cs t):b < w.heap.size:=by
 unfold ZD at h;rcases Nat.lt_or_ge b w.heap.size with hlt|hge
 .exact hlt
 .rw[Array.getElem?_eq_none hge]at h;cases h
theorem ZD.drew {w:World} {b:Nat} {cs:List Value} {t:TypeId} (h:ZD w b cs t):ZD w.drew b cs t:=h
theorem ZD.alloc {w:World} {b:Nat} {cs:List Value} {t:TypeId} (h:ZD w b cs t) (o:Obj):ZD (w.alloc o) b cs t:=by
 have hlt:=h.lt;unfold ZD at*;rw[Below.heap_alloc _ _ _ hlt];exact h
theorem ZD.new (w:World) (cs:List Value) (t:TypeId):ZD (w.alloc (.cells cs.toArray t)) w.heap.size cs t:=heap_alloc_new w _
theorem ZD.setOther {w:World} {b:Nat} {cs:List Value} {t:TypeId} (h:ZD w b cs t) (a:Addr) (v:Value) (hne:b≠a.block):ZD (w.setCell a v) b cs t:=by
 unfold ZD at*;rw[Below.heap_setCell _ _ _ _ hne];exact h
theorem ZD.set {w:World} {b:Nat} {cs:List Value} {t:TypeId} (h:ZD w b cs t) (o:Nat) (v:Value):ZD (w.setCell ⟨b,o,none⟩ v) b (cs.set o v) t:=by
 unfold ZD at*;simp only[World.setCell,Array.getElem?_modify,if_pos,h,Y7];simp
theorem ZD.grown {w w':World} {b:Nat} {cs:List Value} {t:TypeId} {row:Option Nat} (h:ZD w b cs t) (hg:w.grownBy w' row) (hne:some b≠row):ZD w' b cs t:=by
 have hlt:=h.lt;unfold ZD at*;rw[hg.block _ hlt hne];exact h
theorem ZD.inj {w:World} {b:Nat} {cs cs':List Value} {t t':TypeId} (h:ZD w b cs t) (h':ZD w b cs' t'):cs=cs'/\t=t':=by
 unfold ZD at*;rw[h]at h';simp at h';exact h'
def Zq (w:World) (b:Nat) (t:TypeId):Prop:= ∃ cs f,w.heap[b]? =some (.cells cs t f)
theorem ZD.ty {w:World} {b:Nat} {cs:List Value} {t:TypeId} (h:ZD w b cs t):Zq w b t:=⟨_,_,h⟩
theorem Zq.inj {w:World} {b:Nat} {t t':TypeId} (h:Zq w b t) (h':Zq w b t'):t=t':=by
 obtain⟨cs,f,h⟩:=h;obtain⟨cs',f',h'⟩:=h';rw[h]at h';simp at h';exact h'.2.1
theorem Zq.ne {w:World} {b b':Nat} {t t':TypeId} (h:Zq w b t) (h':Zq w b' t') (hne:t≠t':=by decide):b≠b':=fun e=>hne (Zq.inj h (e ▸ h'))
theorem Zg {w:World} {base:Nat} {e:TypeId} {size:Nat} {v:Value} {n:Nat} {xs:List Value} (h:w.ownsRow base e size v n xs) {g:Nat} (hg:v.ownBlock=some g):Zq w g e:=by
 rcases h.2 with⟨hv,_⟩ |⟨g',cap,cur,hv,_,hh,_⟩
 .subst hv;simp[Value.ownBlock]at hg
 .subst hv;simp[Value.ownBlock]at hg;subst hg;exact⟨_,_,hh⟩
theorem own_ne {w:World} {base:Nat} {e:TypeId} {size:Nat} {v:Value} {n:Nat} {xs:List Value} (h:w.ownsRow base e size v n xs) {b:Nat} {t:TypeId} (hb:Zq w b t) (hne:t≠e:=by decide):some b≠v.ownBlock:=by
 intro e';exact Zq.ne hb (Zg h e'.symm) hne rfl
structure Fr (T:List Nat) (B:Nat) (w w':World):Prop where
 below:Below B w w'
 keep: ∀ (k:Nat) c e f,w.heap[k]? =some (.cells c e f)->e∉T->w'.heap[k]? =some (.cells c e f)
theorem Fr.refl (T:List Nat) (B:Nat) (w:World):Fr T B w w:=⟨ZN _ _,fun _ _ _ _ h _=>h⟩
theorem Fr.trans {T:List Nat} {B:Nat} {a b c:World} (h:Fr T B a b) (k:Fr T B b c):Fr T B a c:=
 ⟨h.below.trans k.below,fun i _ _ _ hi ht=>k.keep i _ _ _ (h.keep i _ _ _ hi ht) ht⟩
theorem Fr.mono {T T':List Nat} {B B':Nat} {a b:World} (h:Fr T B a b) (hT: ∀ t∈T,t∈T') (hB:B'<=B):Fr T' B' a b:=
 ⟨h.below.mono hB,fun i _ _ _ hi ht=>h.keep i _ _ _ hi (fun hc=>ht (hT _ hc))⟩
theorem Fr.size {T:List Nat} {B:Nat} {a b:World} (h:Fr T B a b):a.heap.size<=b.heap.size:=h.below.size
theorem Fr.drew {T:List Nat} {B:Nat} {a b:World} (h:Fr T B a b):Fr T B a b.drew:=⟨h.below.drew,h.keep⟩
theorem Zq.alloc {w:World} {b:Nat} {t:TypeId} (h:Zq w b t) (o:Obj):Zq (w.alloc o) b t:=by
 obtain⟨cs,f,h⟩:=h;refine⟨cs,f,?_⟩;rw[Below.heap_alloc _ _ _ ?_];exact h;rcases Nat.lt_or_ge b w.heap.size with hlt|hge
 .exact hlt
 .rw[Array.getElem?_eq_none hge]at h;cases h
theorem Zq.lt {w:World} {b:Nat} {t:TypeId} (h:Zq w b t):b < w.heap.size:=by
 obtain⟨cs,f,h⟩:=h;rcases Nat.lt_or_ge b w.heap.size with hlt|hge
 .exact hlt
 .rw[Array.getElem?_eq_none hge]at h;cases h
theorem Zq.setCell {w:World} {b:Nat} {t:TypeId} (h:Zq w b t) (a:Addr) (v:Value):Zq (w.setCell a v) b t:=by
 obtain⟨cs,f,h⟩:=h;by_cases e:b=a.block
 .subst e;refine⟨if a.spot.isSome then cs else cs.setIfInBounds a.off v,f,?_⟩;simp[World.setCell,Array.getElem?_modify,h]
 .exact⟨cs,f,by rw[Below.heap_setCell _ _ _ _ e];exact h⟩
theorem Fr.alloc {T:List Nat} {B:Nat} {a b:World} (h:Fr T B a b) (hB:B<=b.heap.size) (o:Obj):Fr T B a (b.alloc o):=
 h.trans ⟨(ZN _ _).alloc hB o,fun k c e f hk _=>by
  rw[Below.heap_alloc _ _ _ (Zq.lt ⟨_,_,hk⟩)];exact hk⟩
theorem Fr.XW {T:List Nat} {B:Nat} {a b:World} (h:Fr T B a b) (hB:B<=a.heap.size) (p:Addr) (v:Value) (hp:a.heap.size<=p.block):Fr T B a (b.setCell p v):=
 ⟨h.below.setCell (by omega) v,fun k c e f hk ht=>by
  have hlt:=Zq.lt ⟨_,_,hk⟩;rw[Below.heap_setCell _ _ _ _ (by omega)];exact h.keep k c e f hk ht⟩
theorem Fr.X9 {T:List Nat} {B:Nat} {a b:World} (h:Fr T B a b) (p:Addr) (v:Value) {t:TypeId} (ht:Zq b p.block t) (hT:t∈T) (hB:B<=p.block):Fr T B a (b.setCell p v):=
 ⟨h.below.setCell hB v,fun k c e f hk he=>by
  have hb:=h.keep k c e f hk he;rw[Below.heap_setCell _ _ _ _ ?_]
  .exact hb
  .intro e';subst e';exact he (Zq.inj ⟨_,_,hb⟩ ht ▸ hT)⟩
theorem Fr.grown {T:List Nat} {B:Nat} {a b c:World} (h:Fr T B a b) {base:Nat} {e:TypeId} {size:Nat} {v:Value} {n:Nat} {xs:List Value} (hown:b.ownsRow base e size v n xs)
  (hg:b.grownBy c v.ownBlock) (hB:B<=b.heap.size) (hb:B<=base) (hr:e∈T\/ ∀ k,v.ownBlock=some k->a.heap.size<=k):Fr T B a c:=by
 refine⟨h.below.grown hg hB (fun k hk=>ZC hb (hown.lt k hk).1),fun k cs t f hk ht=>?_⟩;have hb:=h.keep k cs t f hk ht;have hlt:=Zq.lt ⟨_,_,hb⟩;rw[hg.block k hlt ?_]
 .exact hb
 .intro e';have h1:=Zg hown e'.symm;have h2:=Zq.inj ⟨_,_,hb⟩ h1;rcases hr with h3|h3
  .exact ht (h2 ▸ h3)
  .have:=h3 k e'.symm;have:=Zq.lt ⟨_,_,hk⟩;omega
theorem ZE {T:List Nat} {B:Nat} {w w':World} (hf:Fr T B w w') {base:Nat} {e:TypeId} {size:Nat} {v:Value} {n:Nat} {xs:List Value} (h:w.ownsRow base e size v n xs) (ht:e∉T:=by decide):w'.ownsRow base e size v n xs:=by
 obtain⟨h1,h2⟩:=h;refine⟨h1,?_⟩;rcases h2 with h2|⟨g,cap,cur,hv,hg,hh,r⟩
 .exact Or.inl h2
 .exact Or.inr ⟨g,cap,cur,hv,hg,hf.keep g _ _ _ hh ht,r⟩
theorem Y3 {w:World} {base:Nat} {e:TypeId} {size:Nat} {v:Value} {n:Nat} {xs:List Value} (h:w.ownsRow base e size v n xs) (p:Addr) (u:Value) (hp:some p.block≠v.ownBlock):(w.setCell p u).ownsRow base e size v n xs:=by
 obtain⟨h1,h2⟩:=h;refine⟨h1,?_⟩;rcases h2 with h2|⟨g,cap,cur,hv,hg,hh,r⟩
 .exact Or.inl h2
 .refine Or.inr ⟨g,cap,cur,hv,hg,?_,r⟩;rw[Below.heap_setCell _ _ _ _ ?_]
  .exact hh
  .intro e';apply hp;rw[hv,<-e'];rfl
theorem ZD.fr {T:List Nat} {B:Nat} {w w':World} {b:Nat} {cs:List Value} {t:TypeId} (h:ZD w b cs t) (hf:Fr T B w w') (ht:t∉T:=by decide):ZD w' b cs t:=hf.keep b _ t _ h ht
theorem Ze {P:Program} {ops:Array Oper} {rest:List Oper} {o:Oper} {a:Act} {Q:Exit->Act->World->Prop} (w:World) (hgd:o.guard=none) (s x:Operand) (t:TypeId)
  (ho:o.op=.call { callee:=.builtin .append,args:= #[s,x],argTypes:= #[t,t] }) (base:Nat) (e:TypeId) (z:Value) (size bytes:Nat) (ht:P.underlying t=some (.slice e))
  (hinfo:(P.info? e).map (fun i=>(i.zero,i.size,i.bytes))=some (some z,size,bytes)) (hzs:z.cells.size=size) (hsz:0 < size) (hby:bytes<=100000)
  {v:Value} {n:Nat} {xs:List Value} (hown:w.ownsRow base e size v n xs) (hs:a.eval s=v) (ys:List Value) (hyl:ys.length=size) (hy: ∀ u∈ys,u.oneCell'=true)
  (hx:a.eval x=.slice (some ⟨w.heap.size,0,none⟩) 1 1) (hn:n<=1000000) (hbase:base<=w.heap.size)
  (h: ∀ g cap w',w'.ownsRow base e size (.slice (some ⟨g,0,none⟩) (n+1) cap) (n+1) (xs++ys)->w.grownBy w' v.ownBlock->(v.ownBlock=some g\/(v.ownBlock≠some g/\g=w.heap.size+1))->g < w'.heap.size->
   wpList P ops Q rest (a.put o.dst (.slice (some ⟨g,0,none⟩) (n+1) cap)) w'):wpList P ops Q (o::rest) a (w.alloc (.cells ys.toArray e)):=by
 obtain⟨i0,hi,hz0,hz1,hz2⟩:=info_parts hinfo
 refine wpList_append_lies _ hgd s x t ho base e i0 z size bytes ht hi hz0 hz1 hz2 hzs hsz v n xs hs (hown.alloc _) ⟨w.heap.size,0,none⟩ 1 1 ys hx (by omega)
  (World.news_of_block (cs:=ys.toArray) (t:=e) (fr:=(0,0)) (heap_alloc_new w _)) hy (by omega) (by unfold maxLen;omega) ?_ (by simp;omega) (w.heap.size+1) (by simp) ?_
 .have:(n+1)*bytes<=1000001*100000:=Nat.mul_le_mul (by omega) hby;omega
 .intro g cap w' h1 h2 h3 h4;refine h g cap w' h1 ⟨h2.os,h2.tape,h2.output,by have:=h2.size;simp at this;omega,fun k hk hne=>?_⟩ ?_ h4
  .rw[h2.block k (by simp;omega) hne,Below.heap_alloc _ _ _ hk]
  .rcases h3 with h3|h3
   .exact .inl h3
   .by_cases h5:v.ownBlock=some g
    .exact .inl h5
    .exact .inr ⟨h5,h3⟩
theorem Fr.back {Tt T':List Nat} {B B':Nat} {a b c:World} (k:Fr T' B' b c) (hT: ∀ t∈T',t∈Tt) (hB:B<=B') (h:Fr Tt B a b):Fr Tt B a c:=h.trans (k.mono hT hB)
theorem ZD.new' {w:World} {n:Nat} (h:n=w.heap.size) (cs:List Value) (t:TypeId):ZD (w.alloc (.cells cs.toArray t)) n cs t:=by
 subst h;exact ZD.new w cs t
theorem Z5 {p:Prop} (h:p):Hid p:=h
theorem Zl {p0 p1:Prop} (x0:p0) (x1:p1):Hid (p0/\p1):=⟨x0,x1⟩
theorem X7 {p0 p1 p2:Prop} (x0:p0) (x1:p1) (x2:p2):Hid (p0/\p1/\p2):=⟨x0,x1,x2⟩
theorem Xp {p0 p1 p2 p3:Prop} (x0:p0) (x1:p1) (x2:p2) (x3:p3):Hid (p0/\p1/\p2/\p3):=⟨x0,x1,x2,x3⟩
theorem Wp {p0 p1 p2 p3 p4:Prop} (x0:p0) (x1:p1) (x2:p2) (x3:p3) (x4:p4):Hid (p0/\p1/\p2/\p3/\p4):=⟨x0,x1,x2,x3,x4⟩
theorem Qd {p0 p1 p2 p3 p4 p5:Prop} (x0:p0) (x1:p1) (x2:p2) (x3:p3) (x4:p4) (x5:p5):Hid (p0/\p1/\p2/\p3/\p4/\p5):=⟨x0,x1,x2,x3,x4,x5⟩
theorem Ev {p0 p1 p2 p3 p4 p5 p6:Prop} (x0:p0) (x1:p1) (x2:p2) (x3:p3) (x4:p4) (x5:p5) (x6:p6):Hid (p0/\p1/\p2/\p3/\p4/\p5/\p6):=⟨x0,x1,x2,x3,x4,x5,x6⟩
theorem F6 {p0 p1 p2 p3 p4 p5 p6 p7:Prop} (x0:p0) (x1:p1) (x2:p2) (x3:p3) (x4:p4) (x5:p5) (x6:p6) (x7:p7):Hid (p0/\p1/\p2/\p3/\p4/\p5/\p6/\p7):=⟨x0,x1,x2,x3,x4,x5,x6,x7⟩
end
section
structure Hd where
 kind:Int
 label:ByteArray
 target:ByteArray
 init:Bool
 cond:Bool
 post:Bool
 ZV:Bool
 chain:Bool
inductive T where
 |nil
 |st (h:Hd) (body els cls tl:T)
 |cl (exprs:Int) (body tl:T)
def T.len:T->Nat
 | .nil=>0
 | .st _ _ _ _ tl=>tl.len+1
 | .cl _ _ tl=>tl.len+1
def Hd.own (h:Hd):Nat:=
 (decide (1<=h.kind/\h.kind<=9)).toNat+h.init.toNat+(h.cond||h.kind==10||h.kind==12).toNat+h.post.toNat
def T.lv:Bool->T->Nat
 |_,.nil=>0
 |_,.st h b e c tl=>h.own+b.lv false+e.lv false+c.lv (h.kind==13)+tl.lv false
 |sw,.cl x b tl=>(if sw then x.toNat else 0)+b.lv false+tl.lv sw
def T.it:T->Nat
 | .nil=>0
 | .st _ b e c tl=>1+b.it+e.it+c.it+tl.it
 | .cl _ b tl=>1+b.it+tl.it
abbrev Cv:=Nat->Nat->Value->Prop
def Zi (v:Value) (b o n:Nat):Prop:=
 (n=0/\ ∃ a c,v=.slice a 0 c)\/ ∃ cap,0 < n/\n<=cap/\n<=35184372088832/\v=.slice (some ⟨b,o,none⟩) n cap
structure uT (C:Cv) (b o:Nat) (h:Hd) (vb ve vc:Value):Prop where
 c0:C b o (.int .i64 h.kind)
 c1:C b (o+1) (.string h.label)
 c2:C b (o+2) (.string h.target)
 c3:C b (o+3) (.bool h.init)
 c4:C b (o+4) (.bool h.cond)
 c5:C b (o+5) (.bool h.post)
 c6:C b (o+6) (.bool h.ZV)
 c7:C b (o+7) (.bool h.chain)
 c8:C b (o+8) vb
 c9:C b (o+9) ve
 c10:C b (o+10) vc
def T.At (C:Cv):T->Bool->Nat->Nat->Prop
 | .nil,_,_,_=>True
 | .st h bd el cs tl,k,b,o=>k=true/\ ∃ vb b1 o1 ve b2 o2 vc b3 o3,uT C b o h vb ve vc/\Zi vb b1 o1 bd.len/\bd.At C true b1 o1/\
   Zi ve b2 o2 el.len/\el.At C true b2 o2/\Zi vc b3 o3 cs.len/\cs.At C false b3 o3/\tl.At C true b (o+11)
 | .cl e bd tl,k,b,o=>k=false/\ ∃ vb b1 o1,C b o (.int .i64 e)/\C b (o+1) vb/\Zi vb b1 o1 bd.len/\bd.At C true b1 o1/\tl.At C false b (o+2)
theorem T.At.mono {C C':Cv} (hC: ∀ b o v,C b o v->C' b o v): ∀ {t:T} {k:Bool} {b o:Nat},t.At C k b o->t.At C' k b o:=by
 intro t
 induction t with
 |nil=>intro k b o _;trivial
 |st h bd el cs tl ih1 ih2 ih3 ih4=>
  intro k b o ⟨hk,vb,b1,o1,ve,b2,o2,vc,b3,o3,hh,s1,a1,s2,a2,s3,a3,a4⟩
  exact⟨hk,vb,b1,o1,ve,b2,o2,vc,b3,o3,⟨hC _ _ _ hh.c0,hC _ _ _ hh.c1,hC _ _ _ hh.c2,hC _ _ _ hh.c3,hC _ _ _ hh.c4,hC _ _ _ hh.c5,hC _ _ _ hh.c6,hC _ _ _ hh.c7,hC _ _ _ hh.c8,hC _ _ _ hh.c9,hC _ _ _ hh.c10⟩,
   s1,ih1 a1,s2,ih2 a2,s3,ih3 a3,ih4 a4⟩
 |cl e bd tl ih1 ih2=>
  intro k b o ⟨hk,vb,b1,o1,h0,h1,s1,a1,a2⟩;exact⟨hk,vb,b1,o1,hC _ _ _ h0,hC _ _ _ h1,s1,ih1 a1,ih2 a2⟩
def YB (w:World) (B:Nat):Cv:=fun b o v=>b < B/\w.cell? ⟨b,o,none⟩=some v
theorem YB.below {w w':World} {B:Nat} (h:Below B w w'): ∀ b o v,YB w B b o v->YB w' B b o v:=
 fun _ _ _ ⟨hb,hc⟩=>⟨hb,(h.cell hb).trans hc⟩
def T.drop:Nat->T->T
 |0,t=>t
 |_+1,.nil=>.nil
 |k+1,.st _ _ _ _ tl=>tl.drop k
 |k+1,.cl _ _ tl=>tl.drop k
def T.All (Q:T->Prop):T->Prop
 | .nil=>True
 | .st _ b e c tl=>Q b/\Q e/\c.All Q/\tl.All Q
 | .cl _ b tl=>Q b/\tl.All Q
theorem T.Wg {Q:T->Prop} (H: ∀ t:T,t.All Q->Q t): ∀ t:T,Q t:=by
 have h: ∀ t:T,t.All Q:=by
  intro t
  induction t with
  |nil=>trivial
  |st h b e c tl ih1 ih2 ih3 ih4=>exact⟨H _ ih1,H _ ih2,ih3,ih4⟩
  |cl x b tl ih1 ih2=>exact⟨H _ ih1,ih2⟩
 exact fun t=>H t (h t)
abbrev Hp:=Nat->List Value->Nat->Prop
def JH:List Nat:= [83,4,217,3,136,99,92,104,193]
def Hv (w:World) (lo:Nat):Hp:=fun b cs t=>lo<=b/\t∉JH/\ZD w b cs t
theorem Hv.fr {Tt:List Nat} {B:Nat} {w w':World} (hf:Fr Tt B w w') (hT: ∀ t∈Tt,t∈JH) {lo lo':Nat} (hlo:lo'<=lo): ∀ b cs t,Hv w lo b cs t->Hv w' lo' b cs t:=
 fun _ _ _ ⟨h1,h2,h3⟩=>⟨ZC hlo h1,h2,h3.fr hf (fun hc=>h2 (hT _ hc))⟩
def lp (n:Nat):Int:=10+2*(n:Int)
def ip (i:Nat):Int:=10+2*(i:Int)+1
section
variable (H:Hp)
def NP (v:Value) (xs:List Value) (t:Nat):Prop:=
 (xs= []/\v=.slice none 0 0)\/ ∃ g cap rest,0 < xs.length/\xs.length<=cap/\xs.length<=2000000/\v=.slice (some ⟨g,0,none⟩) xs.length cap/\H g (xs++rest) t
def VI (a:Nat) (pos:Int):Prop:= ∃ s o,H a [.int .i64 pos,.string s,o] 219
def YI (v:Value) (pos:Int):Prop:= ∃ a,v=.iface 188 (.pointer (some ⟨a,0,none⟩))/\VI H a pos
def Xo (v:Value) (s:ByteArray):Prop:= ∃ a o,v=.pointer (some ⟨a,0,none⟩)/\H a [.int .i64 0,s,o] 219
def Vb (a:Nat) (pos:Int):Prop:= ∃ f,H a [f,.int .i64 0,.slice none 0 0,.int .i64 0,.int .i64 0] 214/\YI H f pos
def VH (v:Value) (pos:Int):Prop:= ∃ a c,v=.iface 165 (.pointer (some ⟨a,0,none⟩))/\H a [.iface 147 (.pointer (some ⟨c,0,none⟩))] 170/\Vb H c pos
def XI (v:Value) (pos:Int):Prop:= ∃ a l x r,v=.iface 163 (.pointer (some ⟨a,0,none⟩))/\H a [.slice (some ⟨l,0,none⟩) 1 1,.int .i64 0,.int .i64 42,r] 239/\H l [x] 168/\YI H x pos
def JG (v:Value) (pos:Int):Prop:= ∃ a x,v=.iface 160 (.pointer (some ⟨a,0,none⟩))/\H a [x,.int .i64 0,.int .i64 37] 249/\YI H x pos
def Pm (v:Value) (pos:Int):Prop:= ∃ a x y,v=.iface 159 (.pointer (some ⟨a,0,none⟩))/\H a [x,.int .i64 0,y] 251/\YI H x pos
def uS (v:Value) (pos:Int):Prop:= ∃ a c,v=.iface 161 (.pointer (some ⟨a,0,none⟩))/\H a [.int .i64 pos,c] 253
def Sr (v:Value) (pos:Int):Prop:= ∃ a c,v=.iface 164 (.pointer (some ⟨a,0,none⟩))/\H a [.int .i64 pos,c] 255
def LE (v:Value) (pos:Int):Prop:= ∃ a l d r,v=.iface 184 (.pointer (some ⟨a,0,none⟩))/\H a [.pointer none,.slice (some ⟨l,0,none⟩) 1 1,.nilIface,r,.pointer none] 258/\H l [.pointer (some ⟨d,0,none⟩)] 188/\VI H d pos
def F5 (v:Value) (pos:Int):Prop:= ∃ a g l x,v=.iface 171 (.pointer (some ⟨a,0,none⟩))/\H a [.iface 172 (.pointer (some ⟨g,0,none⟩))] 176/\
 H g [.pointer none,.int .i64 0,.int .i64 85,.int .i64 0,.slice (some ⟨l,0,none⟩) 1 1,.int .i64 0] 181/\H l [x] 183/\LE H x pos
def Wc (v:Value) (pos:Int):Prop:= ∃ a,v=.iface 101 (.pointer (some ⟨a,0,none⟩))/\H a [.int .i64 pos,.slice none 0 0] 142
def Sp (v:Value):Prop:= ∃ a,v=.iface 162 (.pointer (some ⟨a,0,none⟩))/\H a [.int .i64 0,false] 261
def Xj (v:Value) (tok:Int) (s:ByteArray):Prop:= ∃ a lv,v=.iface 194 (.pointer (some ⟨a,0,none⟩))/\H a [.int .i64 0,.int .i64 tok,lv] 221/\
 ((s.size=0/\lv=.pointer none)\/(0 < s.size/\Xo H lv s))
def XE (v:Value):Prop:= ∃ a x,v=.iface 165 (.pointer (some ⟨a,0,none⟩))/\H a [x] 170/\
 ((∃ c y,x=.iface 271 (.pointer (some ⟨c,0,none⟩))/\H c [y,.int .i64 0,.nilIface,.int .i64 0] 273/\YI H y 0)\/(∃ c y,x=.iface 275 (.pointer (some ⟨c,0,none⟩))/\H c [.int .i64 0,.int .i64 36,y] 277))
def YA (is:Bool) (v:Value) (pos:Int):Prop:=(is=false/\v=.nilIface)\/(is=true/\XI H v pos)
def Wv (is:Bool) (v:Value) (pos:Int):Prop:=(is=false/\v=.nilIface)\/(is=true/\YI H v pos)
def YW (a:Nat) (lb rb:Int) (vs:List Value):Prop:= ∃ lv,H a [.int .i64 lb,lv,.int .i64 rb] 146/\NP H lv vs 96
def Wb (v:Value) (k:Nat) (p:Nat->Int):Prop:= ∃ xs,NP H v xs 168/\xs.length=k/\ ∀ (j:Nat) x,xs[j]? =some x->YI H x (p j)
def VZ (h:Hd) (n i:Nat) (B E:List Value->Prop) (C:Nat->List Value->Prop) (u:Value):Prop:=
 ((h.kind=1\/h.kind=2)/\VH H u (lp n))\/(h.kind=3/\XI H u (lp n))\/(h.kind=4/\JG H u (lp n))\/(h.kind=5/\Pm H u (lp n))\/(h.kind=6/\uS H u (lp n))\/
 (h.kind=7/\Sr H u (lp n))\/(h.kind=8/\F5 H u (lp n))\/(h.kind=9/\Wc H u (lp n))\/
 (h.kind=10/\ ∃ a iv cv bb vs ev,u=.iface 197 (.pointer (some ⟨a,0,none⟩))/\H a [.int .i64 (ip i),iv,cv,.pointer (some ⟨bb,0,none⟩),ev] 199/\YA H h.init iv (lp n)/\YI H cv (lp (n+h.init.toNat))/\
  YW H bb 0 0 vs/\B vs/\((h.ZV=false/\ev=.nilIface)\/(h.ZV=true/\h.chain=true/\E [ev])\/
   (h.ZV=true/\h.chain=false/\ ∃ eb es,ev=.iface 86 (.pointer (some ⟨eb,0,none⟩))/\YW H eb 0 0 es/\E es)))\/
 (h.kind=11/\ ∃ a iv cv pv bb vs,u=.iface 207 (.pointer (some ⟨a,0,none⟩))/\H a [.int .i64 (ip i),iv,cv,pv,.pointer (some ⟨bb,0,none⟩)] 241/\YA H h.init iv (lp n)/\Wv H h.cond cv (lp (n+h.init.toNat))/\
  YA H h.post pv (lp (n+h.init.toNat+h.cond.toNat))/\YW H bb 0 0 vs/\B vs)\/
 (h.kind=12/\ ∃ a cv bb vs,u=.iface 209 (.pointer (some ⟨a,0,none⟩))/\H a [.int .i64 (ip i),.nilIface,.nilIface,.int .i64 0,.int .i64 0,.int .i64 0,cv,.pointer (some ⟨bb,0,none⟩)] 243/\YI H cv (lp n)/\YW H bb 0 0 vs/\B vs)\/
 (h.kind=13/\ ∃ a iv cv bb vs,u=.iface 201 (.pointer (some ⟨a,0,none⟩))/\H a [.int .i64 (ip i),iv,cv,.pointer (some ⟨bb,0,none⟩)] 225/\YA H h.init iv (lp n)/\Wv H h.cond cv (lp (n+h.init.toNat))/\YW H bb 0 0 vs/\C 1 vs)\/
 (h.kind=14/\ ∃ a iv gv bb vs,u=.iface 203 (.pointer (some ⟨a,0,none⟩))/\H a [.int .i64 (ip i),iv,gv,.pointer (some ⟨bb,0,none⟩)] 231/\YA H h.init iv (lp n)/\XE H gv/\YW H bb 0 0 vs/\C 2 vs)\/
 (h.kind=15/\ ∃ a bb vs,u=.iface 205 (.pointer (some ⟨a,0,none⟩))/\H a [.int .i64 (ip i),.pointer (some ⟨bb,0,none⟩)] 234/\YW H bb 0 0 vs/\C 3 vs)\/
 (h.kind=16/\ ∃ a vs,u=.iface 86 (.pointer (some ⟨a,0,none⟩))/\YW H a (ip i) 0 vs/\B vs)\/
 (h.kind=17/\Xj H u 61 h.target)\/(h.kind=18/\Xj H u 65 h.target)\/(h.kind=19/\Xj H u 73 h.target)\/(h.kind=20/\Xj H u 69 ByteArray.empty)\/(h.kind=21/\Sp H u)
def WN (s:ByteArray) (P:Value->Prop) (v:Value):Prop:=
 (s.size=0/\P v)\/(0 < s.size/\ ∃ a lv u,v=.iface 186 (.pointer (some ⟨a,0,none⟩))/\H a [lv,.int .i64 0,u] 190/\Xo H lv s/\P u)
def XD (m:Nat) (x:Int) (n i:Nat) (B:List Value->Prop) (v:Value):Prop:=
 (m=1/\ ∃ a ev bv vs,v=.iface 227 (.pointer (some ⟨a,0,none⟩))/\H a [.int .i64 (ip i),ev,.int .i64 0,bv] 229/\Wb H ev x.toNat (fun j=>lp (n+j))/\NP H bv vs 96/\B vs)\/
 (m=2/\ ∃ a ev bv vs,v=.iface 227 (.pointer (some ⟨a,0,none⟩))/\H a [.int .i64 (ip i),ev,.int .i64 0,bv] 229/\Wb H ev x.toNat (fun _=>0)/\NP H bv vs 96/\B vs)\/
 (m=3/\ ∃ a cv bv vs,v=.iface 237 (.pointer (some ⟨a,0,none⟩))/\H a [.int .i64 (ip i),cv,.int .i64 0,bv] 236/\((x<=0/\cv=.nilIface)\/(0 < x/\XE H cv))/\NP H bv vs 96/\B vs)
def T.Ast:T->Nat->Nat->Nat->List Value->Prop
 | .nil,_,_,_,vs=>vs= []
 | .st h b e c tl,m,n,i,vs=>m=0/\ ∃ v vs',vs=v::vs'/\
   WN H h.label (VZ H h n i (b.Ast 0 (n+h.own) (i+1)) (e.Ast 0 (n+h.own+b.lv false) (i+1+b.it))
    (fun m'=>c.Ast m' (n+h.own+b.lv false+e.lv false) (i+1+b.it+e.it))) v/\
   tl.Ast 0 (n+h.own+b.lv false+e.lv false+c.lv (h.kind==13)) (i+1+b.it+e.it+c.it) vs'
 | .cl x b tl,m,n,i,vs=> ∃ v vs',vs=v::vs'/\XD H m x n i (b.Ast 0 (n+(if m=1 then x.toNat else 0)) (i+1)) v/\
   tl.Ast m (n+(if m=1 then x.toNat else 0)+b.lv false) (i+1+b.it) vs'
end
section
variable {H H':Hp} (hH: ∀ b cs t,H b cs t->H' b cs t)
include hH
theorem NP.mono {v:Value} {xs:List Value} {t:Nat} :NP H v xs t->NP H' v xs t
 | .inl h=>.inl h
 | .inr ⟨g,cap,rest,h1,h2,h3,h4,h5⟩=>.inr ⟨g,cap,rest,h1,h2,h3,h4,hH _ _ _ h5⟩
theorem VI.mono {a:Nat} {pos:Int} :VI H a pos->VI H' a pos:=fun⟨s,o,h⟩=>⟨s,o,hH _ _ _ h⟩
theorem YI.mono {v:Value} {pos:Int} :YI H v pos->YI H' v pos:=fun⟨a,hv,h⟩=>⟨a,hv,h.mono hH⟩
theorem Xo.mono {v:Value} {s:ByteArray} :Xo H v s->Xo H' v s:=fun⟨a,o,hv,h⟩=>⟨a,o,hv,hH _ _ _ h⟩
theorem Vb.mono {a:Nat} {pos:Int} :Vb H a pos->Vb H' a pos:=fun⟨f,h,k⟩=>⟨f,hH _ _ _ h,k.mono hH⟩
theorem VH.mono {v:Value} {pos:Int} :VH H v pos->VH H' v pos:=fun⟨a,c,hv,h,k⟩=>⟨a,c,hv,hH _ _ _ h,k.mono hH⟩
theorem XI.mono {v:Value} {pos:Int} :XI H v pos->XI H' v pos:=fun⟨a,l,x,r,hv,h,h1,k⟩=>⟨a,l,x,r,hv,hH _ _ _ h,hH _ _ _ h1,k.mono hH⟩
theorem JG.mono {v:Value} {pos:Int} :JG H v pos->JG H' v pos:=fun⟨a,x,hv,h,k⟩=>⟨a,x,hv,hH _ _ _ h,k.mono hH⟩
theorem Pm.mono {v:Value} {pos:Int} :Pm H v pos->Pm H' v pos:=fun⟨a,x,y,hv,h,k⟩=>⟨a,x,y,hv,hH _ _ _ h,k.mono hH⟩
theorem uS.mono {v:Value} {pos:Int} :uS H v pos->uS H' v pos:=fun⟨a,c,hv,h⟩=>⟨a,c,hv,hH _ _ _ h⟩
theorem Sr.mono {v:Value} {pos:Int} :Sr H v pos->Sr H' v pos:=fun⟨a,c,hv,h⟩=>⟨a,c,hv,hH _ _ _ h⟩
theorem LE.mono {v:Value} {pos:Int} :LE H v pos->LE H' v pos:=fun⟨a,l,d,r,hv,h,h1,k⟩=>⟨a,l,d,r,hv,hH _ _ _ h,hH _ _ _ h1,k.mono hH⟩
theorem F5.mono {v:Value} {pos:Int} :F5 H v pos->F5 H' v pos:=fun⟨a,g,l,x,hv,h,h1,h2,k⟩=>⟨a,g,l,x,hv,hH _ _ _ h,hH _ _ _ h1,hH _ _ _ h2,k.mono hH⟩
theorem Wc.mono {v:Value} {pos:Int} :Wc H v pos->Wc H' v pos:=fun⟨a,hv,h⟩=>⟨a,hv,hH _ _ _ h⟩
theorem Sp.mono {v:Value} :Sp H v->Sp H' v:=fun⟨a,hv,h⟩=>⟨a,hv,hH _ _ _ h⟩
theorem Xj.mono {v:Value} {tok:Int} {s:ByteArray} :Xj H v tok s->Xj H' v tok s:=fun⟨a,lv,hv,h,k⟩=>
 ⟨a,lv,hv,hH _ _ _ h,k.elim .inl fun⟨h1,h2⟩=>.inr ⟨h1,h2.mono hH⟩⟩
theorem XE.mono {v:Value} :XE H v->XE H' v:=fun⟨a,x,hv,h,k⟩=>
 ⟨a,x,hv,hH _ _ _ h,k.elim (fun⟨c,y,h1,h2,h3⟩=>.inl ⟨c,y,h1,hH _ _ _ h2,h3.mono hH⟩) fun⟨c,y,h1,h2⟩=>.inr ⟨c,y,h1,hH _ _ _ h2⟩⟩
theorem YA.mono {is:Bool} {v:Value} {pos:Int} :YA H is v pos->YA H' is v pos:=fun h=>h.elim .inl fun⟨h1,h2⟩=>.inr ⟨h1,h2.mono hH⟩
theorem Wv.mono {is:Bool} {v:Value} {pos:Int} :Wv H is v pos->Wv H' is v pos:=fun h=>h.elim .inl fun⟨h1,h2⟩=>.inr ⟨h1,h2.mono hH⟩
theorem YW.mono {a:Nat} {lb rb:Int} {vs:List Value} :YW H a lb rb vs->YW H' a lb rb vs:=fun⟨lv,h,k⟩=>⟨lv,hH _ _ _ h,k.mono hH⟩
theorem Wb.mono {v:Value} {k:Nat} {p:Nat->Int} :Wb H v k p->Wb H' v k p:=fun⟨xs,h1,h2,h3⟩=>⟨xs,h1.mono hH,h2,fun j x hx=>(h3 j x hx).mono hH⟩
theorem VZ.mono {h:Hd} {n i:Nat} {B E B' E':List Value->Prop} {C C':Nat->List Value->Prop} (hB: ∀ vs,B vs->B' vs) (hE: ∀ vs,E vs->E' vs) (hC: ∀ m vs,C m vs->C' m vs) {u:Value} :
  VZ H h n i B E C u->VZ H' h n i B' E' C' u:=by
 rintro(⟨h1,h2⟩ |⟨h1,h2⟩ |⟨h1,h2⟩ |⟨h1,h2⟩ |⟨h1,h2⟩ |⟨h1,h2⟩ |⟨h1,h2⟩ |⟨h1,h2⟩ |⟨hk,a,iv,cv,bb,vs,ev,hu,h1,h2,h3,h4,h5,h6⟩ |⟨hk,a,iv,cv,pv,bb,vs,hu,h1,h2,h3,h4,h5,h6⟩ |⟨hk,a,cv,bb,vs,hu,h1,h2,h3,h4⟩ |
  ⟨hk,a,iv,cv,bb,vs,hu,h1,h2,h3,h4,h5⟩ |⟨hk,a,iv,gv,bb,vs,hu,h1,h2,h3,h4,h5⟩ |⟨hk,a,bb,vs,hu,h1,h2,h3⟩ |⟨hk,a,vs,hu,h1,h2⟩ |⟨h1,h2⟩ |⟨h1,h2⟩ |⟨h1,h2⟩ |⟨h1,h2⟩ |⟨h1,h2⟩)
 .exact .inl ⟨h1,h2.mono hH⟩
 .exact .inr (.inl ⟨h1,h2.mono hH⟩)
 .exact .inr (.inr (.inl ⟨h1,h2.mono hH⟩))
 .exact .inr (.inr (.inr (.inl ⟨h1,h2.mono hH⟩)))
 .exact .inr (.inr (.inr (.inr (.inl ⟨h1,h2.mono hH⟩))))
 .exact .inr (.inr (.inr (.inr (.inr (.inl ⟨h1,h2.mono hH⟩)))))
 .exact .inr (.inr (.inr (.inr (.inr (.inr (.inl ⟨h1,h2.mono hH⟩))))))
 .exact .inr (.inr (.inr (.inr (.inr (.inr (.inr (.inl ⟨h1,h2.mono hH⟩)))))))
 .refine .inr (.inr (.inr (.inr (.inr (.inr (.inr (.inr (.inl ⟨hk,a,iv,cv,bb,vs,ev,hu,hH _ _ _ h1,h2.mono hH,h3.mono hH,h4.mono hH,hB _ h5,?_⟩))))))));rcases h6 with h6|⟨h6,h7,h8⟩ |⟨h6,h7,eb,es,h8,h9,h10⟩
  .exact .inl h6
  .exact .inr (.inl ⟨h6,h7,hE _ h8⟩)
  .exact .inr (.inr ⟨h6,h7,eb,es,h8,h9.mono hH,hE _ h10⟩)
 .exact .inr (.inr (.inr (.inr (.inr (.inr (.inr (.inr (.inr (.inl ⟨hk,a,iv,cv,pv,bb,vs,hu,hH _ _ _ h1,h2.mono hH,h3.mono hH,h4.mono hH,h5.mono hH,hB _ h6⟩)))))))))
 .exact .inr (.inr (.inr (.inr (.inr (.inr (.inr (.inr (.inr (.inr (.inl ⟨hk,a,cv,bb,vs,hu,hH _ _ _ h1,h2.mono hH,h3.mono hH,hB _ h4⟩))))))))))
 .exact .inr (.inr (.inr (.inr (.inr (.inr (.inr (.inr (.inr (.inr (.inr (.inl ⟨hk,a,iv,cv,bb,vs,hu,hH _ _ _ h1,h2.mono hH,h3.mono hH,h4.mono hH,hC _ _ h5⟩)))))))))))
 .exact .inr (.inr (.inr (.inr (.inr (.inr (.inr (.inr (.inr (.inr (.inr (.inr (.inl ⟨hk,a,iv,gv,bb,vs,hu,hH _ _ _ h1,h2.mono hH,h3.mono hH,h4.mono hH,hC _ _ h5⟩))))))))))))
 .exact .inr (.inr (.inr (.inr (.inr (.inr (.inr (.inr (.inr (.inr (.inr (.inr (.inr (.inl ⟨hk,a,bb,vs,hu,hH _ _ _ h1,h2.mono hH,hC _ _ h3⟩)))))))))))))
 .exact .inr (.inr (.inr (.inr (.inr (.inr (.inr (.inr (.inr (.inr (.inr (.inr (.inr (.inr (.inl ⟨hk,a,vs,hu,h1.mono hH,hB _ h2⟩))))))))))))))
 .exact .inr (.inr (.inr (.inr (.inr (.inr (.inr (.inr (.inr (.inr (.inr (.inr (.inr (.inr (.inr (.inl ⟨h1,h2.mono hH⟩)))))))))))))))
 .exact .inr (.inr (.inr (.inr (.inr (.inr (.inr (.inr (.inr (.inr (.inr (.inr (.inr (.inr (.inr (.inr (.inl ⟨h1,h2.mono hH⟩))))))))))))))))
 .exact .inr (.inr (.inr (.inr (.inr (.inr (.inr (.inr (.inr (.inr (.inr (.inr (.inr (.inr (.inr (.inr (.inr (.inl ⟨h1,h2.mono hH⟩)))))))))))))))))
 .exact .inr (.inr (.inr (.inr (.inr (.inr (.inr (.inr (.inr (.inr (.inr (.inr (.inr (.inr (.inr (.inr (.inr (.inr (.inl ⟨h1,h2.mono hH⟩))))))))))))))))))
 .exact .inr (.inr (.inr (.inr (.inr (.inr (.inr (.inr (.inr (.inr (.inr (.inr (.inr (.inr (.inr (.inr (.inr (.inr (.inr ⟨h1,h2.mono hH⟩))))))))))))))))))
theorem WN.mono {s:ByteArray} {P P':Value->Prop} (hP: ∀ v,P v->P' v) {v:Value} :WN H s P v->WN H' s P' v
 | .inl ⟨h1,h2⟩=>.inl ⟨h1,hP _ h2⟩
 | .inr ⟨h1,a,lv,u,h2,h3,h4,h5⟩=>.inr ⟨h1,a,lv,u,h2,hH _ _ _ h3,h4.mono hH,hP _ h5⟩
theorem XD.mono {m:Nat} {x:Int} {n i:Nat} {B B':List Value->Prop} (hB: ∀ vs,B vs->B' vs) {v:Value} :XD H m x n i B v->XD H' m x n i B' v
 | .inl ⟨hm,a,ev,bv,vs,h1,h2,h3,h4,h5⟩=>.inl ⟨hm,a,ev,bv,vs,h1,hH _ _ _ h2,h3.mono hH,h4.mono hH,hB _ h5⟩
 | .inr (.inl ⟨hm,a,ev,bv,vs,h1,h2,h3,h4,h5⟩)=>.inr (.inl ⟨hm,a,ev,bv,vs,h1,hH _ _ _ h2,h3.mono hH,h4.mono hH,hB _ h5⟩)
 | .inr (.inr ⟨hm,a,cv,bv,vs,h1,h2,h3,h4,h5⟩)=>.inr (.inr ⟨hm,a,cv,bv,vs,h1,hH _ _ _ h2,h3.elim .inl (fun⟨g1,g2⟩=>.inr ⟨g1,g2.mono hH⟩),h4.mono hH,hB _ h5⟩)
theorem T.Ast.mono: ∀ {t:T} {m n i:Nat} {vs:List Value},t.Ast H m n i vs->t.Ast H' m n i vs:=by
 intro t
 induction t with
 |nil=>intro m n i vs h;exact h
 |st h b e c tl ih1 ih2 ih3 ih4=>
  intro m n i vs ⟨hm,v,vs',hv,h1,h2⟩;exact⟨hm,v,vs',hv,h1.mono hH (fun u hu=>hu.mono hH (fun _=>ih1) (fun _=>ih2) (fun _ _=>ih3)),ih4 h2⟩
 |cl x b tl ih1 ih2=>
  intro m n i vs ⟨v,vs',hv,h1,h2⟩;exact⟨v,vs',hv,h1.mono hH (fun _=>ih1),ih2 h2⟩
end
end
section
def T.YV:T->Nat
 | .nil=>0
 | .st _ _ _ _ tl=>tl.YV
 | .cl x _ tl=>(decide (x=0)).toNat+tl.YV
structure Fm (h:Hd) (b e c:T):Prop where
 k:1<=h.kind/\h.kind<=21
 ini:h.init=true->h.kind=10\/h.kind=11\/h.kind=13\/h.kind=14
 cnd:h.cond=true->h.kind=11\/h.kind=13
 Ym:h.post=true->h.kind=11
 els:h.ZV=true->h.kind=10
 ch:h.chain=true->h.ZV=true/\ ∃ h' b' e' c',e=.st h' b' e' c' .nil/\h'.kind=10/\h'.label.size=0
 nb:h.kind≠10->h.kind≠11->h.kind≠12->h.kind≠16->b=.nil
 ne:h.ZV=false->e=.nil
 nc:h.kind≠13->h.kind≠14->h.kind≠15->c=.nil
 tg:0 < h.target.size->h.kind=17\/h.kind=18\/h.kind=19
 gt:h.kind=19->0 < h.target.size
 pl:c.YV<=1
 sel:h.kind=15->0 < c.len
def T.ok:T->Prop
 | .nil=>True
 | .st h b e c tl=>Fm h b e c/\b.ok/\e.ok/\c.ok/\tl.ok
 | .cl x b tl=>0<=x/\x<=300/\b.ok/\tl.ok
def T.ZT:T->Nat
 | .nil=>0
 | .st h b e c tl=>(decide (0 < h.target.size)).toNat+b.ZT+e.ZT+c.ZT+(decide (0 < h.label.size)).toNat+tl.ZT
 | .cl _ b tl=>b.ZT+tl.ZT
def Hd.stop (h:Hd):List Bool:=if h.kind=2 then [true]else List.replicate h.own false
def T.stops:Bool->T->List Bool
 |_,.nil=> []
 |_,.st h b e c tl=>h.stop++b.stops false++e.stops false++c.stops (h.kind==13)++tl.stops false
 |sw,.cl x b tl=>List.replicate (if sw then x.toNat else 0) false++b.stops false++tl.stops sw
theorem Fm.Vo {h:Hd} {b e c:T} (hf:Fm h b e c):h.stop.length=h.own:=by
 unfold Hd.stop;split
 .next hk=>
  have h1:h.init=false:=by
   cases hi:h.init
   .rfl
   .have:=hf.ini hi;omega
  have h2:h.cond=false:=by
   cases hi:h.cond
   .rfl
   .have:=hf.cnd hi;omega
  have h3:h.post=false:=by
   cases hi:h.post
   .rfl
   .have:=hf.Ym hi;omega
  simp[Hd.own,hk,h1,h2,h3]
 .simp
theorem T.Xx: ∀ {t:T} {sw:Bool},t.ok->(t.stops sw).length=t.lv sw:=by
 intro t
 induction t with
 |nil=>intro sw _;rfl
 |st h b e c tl ih1 ih2 ih3 ih4=>
  intro sw ⟨hf,h1,h2,h3,h4⟩;simp[T.stops,T.lv,hf.Vo,ih1 h1,ih2 h2,ih3 h3,ih4 h4,Z3]
 |cl x b tl ih1 ih2=>
  intro sw ⟨_,_,h1,h2⟩;simp[T.stops,T.lv,ih1 h1,ih2 h2,Z3]
end
end Go.Proofs.YteedbaejpdjilaaGreat
