/- Part of the proof: ReaE ReaF ReaG ReaH ReaS. -/
import Derived.Test.YteedbaejpdjilaaGreatYPw
import Derived.Deep.MidRow
set_option linter.all false
set_option maxRecDepth 100000
set_option maxHeartbeats 40000000
namespace Go.Proofs.YteedbaejpdjilaaGreat
open Go.RowKit Tryz
section
structure Lf where
 of:Int
 what:Int
 index:Int
structure V1 where
 number:Int
 list:Int
 plain:Bool
structure Nd where
 h:Hd
 number:Int
 list:Int
 place:Int
 self:Int
 ini:Int
 cnd:Int
 Ym:Int
 body:Int
 other:Int
 choices:List V1
 tests:List Int
 YY:List Int
 target:Int
structure Rw where
 owner:Int
 clause:Int
 nodes:List Int
structure Out where
 ls:List Lf
 ns:List Nd
 rs:List Rw
 ids:List Int
 it:Nat
structure WG where
 ls:List Lf
 ns:List Nd
 rs:List Rw
 Yn:List V1
 tests:List Int
 YY:List Int
 it:Nat
def Out.none:Out:=⟨[],[],[],[],0⟩
def Hd.Zz (h:Hd):Bool:=h.kind==10||h.kind==11||h.kind==12||h.kind==16
def Hd.Zu (h:Hd):Bool:=decide (1<=h.kind/\h.kind<=9)
def Hd.hasCond (h:Hd):Bool:=h.cond||h.kind==10||h.kind==12
def YL (is:Bool) (n:Nat):Int:=if is then n else -1
def Hd.Yl (h:Hd) (N:Nat):List Lf:=
 (if h.Zu then [⟨N,1,0⟩]else [])++((if h.init then [⟨N,2,0⟩]else [])++((if h.hasCond then [⟨N,3,0⟩]else [])++(if h.post then [⟨N,4,0⟩]else [])))
structure Rdr where
 l:Nat->Nat->Nat->Nat->Nat->Nat->Out
 c:Bool->Nat->Nat->Nat->Nat->Nat->Nat->Nat->WG
def rowOf (is:Bool) (owner clause:Int) (o:Out):List Rw:=if is then⟨owner,clause,o.ids⟩::o.rs else []
def T.rd:T->Rdr
 | .nil=>⟨fun _ _ _ _ _ _=>.none,fun _ _ _ _ _ _ _ _=>⟨[],[],[],[],[],[],0⟩⟩
 | .st h b e c tl=>⟨fun N R n i a p=>
   let n1:=n+(h.Yl N).length
   let ob:=if h.Zz then b.rd.l (N+1) (R+1) n1 (i+1) R 0 else .none
   let rb:=rowOf h.Zz N (-1) ob
   let N2:=N+1+ob.ns.length
   let R2:=R+rb.length
   let n2:=n1+ob.ls.length
   let i2:=i+1+ob.it
   let oe:=if h.ZV then e.rd.l N2 (R2+1) n2 i2 R2 0 else .none
   let re:=rowOf h.ZV N (-1) oe
   let N3:=N2+oe.ns.length
   let R3:=R2+re.length
   let n3:=n2+oe.ls.length
   let i3:=i2+oe.it
   let oc:=c.rd.c (h.kind==13) N N3 R3 n3 i3 0 0
   let ot:=tl.rd.l (N3+oc.ns.length) (R3+oc.rs.length) (n3+oc.ls.length) (i3+oc.it) a (p+1)
   ⟨h.Yl N++(ob.ls++(oe.ls++(oc.ls++ot.ls))),
    ⟨h,i,a,p,YL h.Zu n,YL h.init (n+h.Zu.toNat),YL h.hasCond (n+h.Zu.toNat+h.init.toNat),YL h.post (n+h.Zu.toNat+h.init.toNat+h.hasCond.toNat),YL h.Zz R,YL h.ZV R2,oc.Yn,oc.tests,oc.YY,-1⟩::(ob.ns++(oe.ns++(oc.ns++ot.ns))),
    rb++(re++(oc.rs++ot.rs)),(N:Int)::ot.ids,1+ob.it+oe.it+oc.it+ot.it⟩,
   fun _ _ _ _ _ _ _ _=>⟨[],[],[],[],[],[],0⟩⟩
 | .cl x b tl=>⟨fun _ _ _ _ _ _=>.none,fun sw N0 N R n i j k=>
   let ts:=if sw then x.toNat else 0
   let ob:=b.rd.l N (R+1) (n+ts) (i+1) R 0
   let ot:=tl.rd.c sw N0 (N+ob.ns.length) (R+1+ob.rs.length) (n+ts+ob.ls.length) (i+1+ob.it) (j+1) (k+ts)
   ⟨(List.range ts).map (fun q=>⟨N0,5,(k+q:Nat)⟩)++(ob.ls++ot.ls),ob.ns++ot.ns,⟨N0,j,ob.ids⟩::(ob.rs++ot.rs),⟨i,R,decide (x=0)⟩::ot.Yn,
    (List.range ts).map (fun q=>((n+q:Nat):Int))++ot.tests,List.replicate ts (j:Int)++ot.YY,1+ob.it+ot.it⟩⟩
def T.fA:T->Prop
 | .nil=>True
 | .st h b e c tl=>Ql h b e c/\(h.Zz=true->b.fA)/\(h.ZV=true->e.fA)/\c.fA/\tl.fA
 | .cl _ b tl=>b.fA/\tl.fA
def Lf.cells (x:Lf):List Value:= [.int .i64 x.of,.int .i64 x.what,.int .i64 x.index]
structure TM (w:World) (B p:Nat) (ls:List Lf) (NR RR:List (List Value)) (num:Int) (rt:Bool) (lv nv rv:Value):Prop where
 hB:B<=p
 blk:ZD w p [lv,nv,rv,.int .i64 num,rt] 71
 l:w.ownsRow B 73 3 lv ls.length (ls.map Lf.cells).flatten
 n:w.ownsRow B 79 24 nv NR.length NR.flatten
 r:w.ownsRow B 114 3 rv RR.length RR.flatten
 nl: ∀ r∈NR,r.length=24
 rl: ∀ r∈RR,r.length=3
theorem TM.fr {T:List Nat} {B0:Nat} {w w':World} {B p:Nat} {ls:List Lf} {NR RR:List (List Value)} {num:Int} {rt:Bool} {lv nv rv:Value} (h:TM w B p ls NR RR num rt lv nv rv) (hf:Fr T B0 w w') (hT:71∉T/\73∉T/\79∉T/\114∉T):TM w' B p ls NR RR num rt lv nv rv:=
 ⟨h.hB,h.blk.fr hf hT.1,ZE hf h.l hT.2.1,ZE hf h.n hT.2.2.1,ZE hf h.r hT.2.2.2,h.nl,h.rl⟩
def tX (p:Nat) (lv nv rv:Value):List Nat:=p::(lv.ownBlock.toList++(nv.ownBlock.toList++rv.ownBlock.toList))
def Nw (w:World) (v v':Value):Prop:= ∀ g,v'.ownBlock=some g->v.ownBlock=some g\/w.heap.size<=g
theorem Nw.refl (w:World) (v:Value):Nw w v v:=fun _ h=>.inl h
theorem Nw.trans {w w':World} {v v' v'':Value} (h:Nw w v v') (k:Nw w' v' v'') (hs:w.heap.size<=w'.heap.size):Nw w v v'':=fun g hg=>(k g hg).elim (fun h1=>h g h1) (fun h1=>.inr (by omega))
theorem VS {p:Nat} {lv nv rv:Value} {x:Nat} :x∈tX p lv nv rv↔x=p\/lv.ownBlock=some x\/nv.ownBlock=some x\/rv.ownBlock=some x:=by
 simp[tX,Option.mem_toList]
theorem Only.tX {w w' w'':World} {p:Nat} {lv nv rv Tx UR rv':Value} (h:Only (tX p lv nv rv) w w') (k:Only (tX p Tx UR rv') w' w'') (h1:Nw w lv Tx) (h2:Nw w nv UR) (h3:Nw w rv rv'):Only (tX p lv nv rv) w w'':=by
 refine⟨ZC h.size k.size,fun i hi hx=>?_⟩;rw[k.block i (Nat.lt_of_lt_of_le hi h.size) (fun hc=>hx ?_)]
 .exact h.block i hi hx
 .rw[VS]at hc ⊢;rcases hc with hc|hc|hc|hc
  .exact .inl hc
  .exact(h1 i hc).elim (fun h=>.inr (.inl h)) (fun h=>by omega)
  .exact(h2 i hc).elim (fun h=>.inr (.inr (.inl h))) (fun h=>by omega)
  .exact(h3 i hc).elim (fun h=>.inr (.inr (.inr h))) (fun h=>by omega)
theorem sG:(prog.info? 73).map (fun i=>(i.zero,i.size,i.bytes))=some (some (.agg #[.int .i64 0,.int .i64 0,.int .i64 0]),3,24):=by kernel_rfl
theorem I2 (k:Int) (w:World):Calls prog 117 #[.int .i64 k] w fun e w'=>e=.returned (.bool (decide (1<=k/\k<=9)))/\w=w':=by
 by_cases h1:1<=k
 .by_cases h9:k<=9
  .rw[show decide (1<=k/\k<=9)=true by simp;omega];go_enter func117,ntmps117;go_wp2_with fail
   go_ret;exact⟨rfl,rfl⟩
  .rw[show decide (1<=k/\k<=9)=false by simp;omega];go_enter func117,ntmps117;go_wp2_with fail
   go_ret;exact⟨rfl,rfl⟩
 .rw[show decide (1<=k/\k<=9)=false by simp;omega];go_enter func117,ntmps117;go_wp2_with fail
  go_ret;exact⟨rfl,rfl⟩
theorem Vg {w:World} {B p:Nat} {ls:List Lf} {NR RR:List (List Value)} {num:Int} {rt:Bool} {lv nv rv:Value} (h:TM w B p ls NR RR num rt lv nv rv) (hn:0<=num/\num<=1000000):
  Calls prog 115 #[p] w fun e w'=>e=.returned (.int .i64 num)/\TM w' B p ls NR RR (num+1) rt lv nv rv/\Fr [71] B w w'/\Only (tX p lv nv rv) w w':=by
 have c3:=h.blk.cell 3 rfl;have AG:=h.blk.free 3;have hb:=h.blk.set 3 (.int .i64 (num+1));have k3:=hb.cell 3 rfl;have f1:Fr [71] B w (w.setCell ⟨p,3,none⟩ (.int .i64 (num+1))):=(Fr.refl _ _ _).X9 _ _ h.blk.ty (by decide) h.hB;have hT:TM (w.setCell ⟨p,3,none⟩ (.int .i64 (num+1))) B p ls NR RR (num+1) rt lv nv rv:=⟨h.hB,hb,ZE f1 h.l (by decide),ZE f1 h.n (by decide),ZE f1 h.r (by decide),h.nl,h.rl⟩
 have HT:=Z5 hT;clear hT hb;go_enter func115,ntmps115;go_wp2_with fail
 go_ret;exact⟨by simp,HT.out,f1,(Only.refl _ _).set _ _ (.inl (by simp[tX]))⟩
theorem Xa {w:World} {B p:Nat} {ls:List Lf} {NR RR:List (List Value)} {num:Int} {rt:Bool} {lv nv rv:Value} (h:TM w B p ls NR RR num rt lv nv rv) (hl:ls.length<=100000) (x:Lf) (is:Bool):
  Calls prog 116 #[p,.int .i64 x.of,.int .i64 x.what,.int .i64 x.index,is] w fun e w'=> ∃ Tx,e=.returned (.int .i64 (YL is ls.length))/\TM w' B p (ls++if is then [x]else []) NR RR num rt Tx nv rv/\Fr [71,73] B w w'/\Only (tX p lv nv rv) w w'/\Nw w lv Tx:=by
 cases is with
 |false=>
  have hT:TM w B p (ls++ []) NR RR num rt lv nv rv:=by simpa using h
  have HT:=Z5 hT;clear hT h;go_enter func116,ntmps116;go_wp2_with fail
  go_ret;exact⟨by rfl,lv,by simpa using HT.out,Fr.refl _ _ _,Only.refl _ _,Nw.refl _ _⟩
 |true=>
  have hpl:=h.blk.lt;have hBw:B<=w.heap.size:=by have:=h.hB;omega
  obtain⟨la,lc,rfl⟩:=ZR h.l;obtain⟨na,nc,rfl⟩:=ZR h.n;obtain⟨ra,rc,rfl⟩:=ZR h.r;have c0:=h.blk.cell 0 rfl;obtain⟨xo,xw,xi⟩:=x;have H:=Z5 h;have hll:=h.l;have hblk:=h.blk;clear h;go_enter func116,ntmps116;go_wp2_with (at_builtin;refine Ze w rfl _ _ 67 rfl B 73 (.agg #[.int .i64 0,.int .i64 0,.int .i64 0]) 3 24 underlying67 sG rfl (by decide) (by decide) hll (by rfl) [.int .i64 xo,.int .i64 xw,.int .i64 xi] rfl ?c1 (by rfl) (by omega) (by omega) ?_)
  case c1=>simp[Value.oneCell']
  intro g cap w6 hown6 UT VW Mm;have hb6:=hblk.grown UT (own_ne hll hblk.ty (by decide));have c6f:=hb6.free 0;have c60:=hb6.cell 0 rfl;have hb7:=hb6.set 0 (.slice (some ⟨g,0,none⟩) (ls.length+1) cap);have k7:=hb7.cell 0 rfl;have f6:Fr [71,73] B w w6:=(Fr.refl _ _ _).grown hll UT hBw (Z7 _) (.inl (by decide));have f7:Fr [71,73] B w (w6.setCell ⟨p,0,none⟩ (.slice (some ⟨g,0,none⟩) (ls.length+1) cap)):=f6.X9 _ _ hb6.ty (by decide) H.out.hB
  have o7:Only (tX p (.slice la ls.length lc) (.slice na NR.length nc) (.slice ra RR.length rc)) w (w6.setCell ⟨p,0,none⟩ (.slice (some ⟨g,0,none⟩) (ls.length+1) cap)):=
   ((Only.refl _ _).grown UT (fun k hk=>.inl (VS.2 (.inr (.inl hk))))).set _ _ (.inl (VS.2 (.inl rfl)))
  have hT:TM (w6.setCell ⟨p,0,none⟩ (.slice (some ⟨g,0,none⟩) (ls.length+1) cap)) B p (ls++ [⟨xo,xw,xi⟩]) NR RR num rt (.slice (some ⟨g,0,none⟩) (ls.length+1) cap) (.slice na NR.length nc) (.slice ra RR.length rc):=by
   refine⟨H.out.hB,hb7,?_,ZE f7 H.out.n (by decide),ZE f7 H.out.r (by decide),H.out.nl,H.out.rl⟩;have h1:w6.ownsRow B 73 3 (.slice (some ⟨g,0,none⟩) (ls.length+1) cap) (ls++ [(⟨xo,xw,xi⟩:Lf)]).length ((ls++ [(⟨xo,xw,xi⟩:Lf)]).map Lf.cells).flatten:=by simpa [Lf.cells]using hown6
   exact Y3 h1 _ _ (fun e=>own_ne h1 hb6.ty (by decide) e)
  have hN:Nw w (.slice la ls.length lc) (.slice (some ⟨g,0,none⟩) (ls.length+1) cap):=by
   intro g' e;have:g=g':=by simpa [Value.ownBlock]using e
   subst this;rcases VW with h2|⟨_,h2⟩
   .exact .inl h2
   .exact .inr (by omega)
  have HT:=Xp hT f7 o7 hN;clear hT f7 o7 hN f6 hb7;go_wp2_with fail
  go_ret;exact⟨by rfl,.slice (some ⟨g,0,none⟩) (ls.length+1) cap,by simpa using HT.out.1,HT.out.2.1,HT.out.2.2.1,HT.out.2.2.2⟩
end
section
def V1.cells (x:V1):List Value:= [.int .i64 x.number,.int .i64 x.list,.bool x.plain]
def UP (w:World) (lo:Nat) (ex:Option Nat) (v:Value) (l:List Int):Prop:=w.ownsRow lo 3 1 v l.length (l.map (Value.int .i64))/\ ∀ g,v.ownBlock=some g->ex≠some g
def ZQ (nd:Nd) (vb ve vc cv tv ov:Value):List Value:= [.int .i64 nd.h.kind,.string nd.h.label,.string nd.h.target,.bool nd.h.init,.bool nd.h.cond,.bool nd.h.post,.bool nd.h.ZV,.bool nd.h.chain,vb,ve,vc,
 .int .i64 nd.number,.int .i64 nd.list,.int .i64 nd.place,.int .i64 nd.self,.int .i64 nd.ini,.int .i64 nd.cnd,.int .i64 nd.Ym,.int .i64 nd.body,.int .i64 nd.other,cv,tv,ov,.int .i64 nd.target]
def Xt (w:World) (lo:Nat) (ex:Option Nat) (nd:Nd) (row:List Value):Prop:= ∃ vb ve vc cv tv ov,row=ZQ nd vb ve vc cv tv ov/\(∃ a n c,vb=.slice a n c)/\(∃ a n c,ve=.slice a n c)/\(∃ a n c,vc=.slice a n c)/\
 w.ownsRow lo 110 3 cv nd.choices.length (nd.choices.map V1.cells).flatten/\UP w lo ex tv nd.tests/\UP w lo ex ov nd.YY
def W7 (w:World) (lo:Nat) (ex:Option Nat) (r:Rw) (row:List Value):Prop:= ∃ iv,row= [.int .i64 r.owner,.int .i64 r.clause,iv]/\UP w lo ex iv r.nodes
inductive YZ {α:Type} (P:α->List Value->Prop):List α->List (List Value)->Prop
 |nil:YZ P [] []
 |cons {x:α} {r:List Value} {xs:List α} {rs:List (List Value)} :P x r->YZ P xs rs->YZ P (x::xs) (r::rs)
theorem YZ.mono {α:Type} {P Q:α->List Value->Prop} (h: ∀ x r,P x r->Q x r) {xs:List α} {rs:List (List Value)} (k:YZ P xs rs):YZ Q xs rs:=by
 induction k with
 |nil=>exact .nil
 |cons h1 _ ih=>exact .cons (h _ _ h1) ih
theorem YZ.app {α:Type} {P:α->List Value->Prop} {xs ys:List α} {rs qs:List (List Value)} (h:YZ P xs rs) (k:YZ P ys qs):YZ P (xs++ys) (rs++qs):=by
 induction h with
 |nil=>exact k
 |cons h1 _ ih=>exact .cons h1 ih
theorem YZ.len {α:Type} {P:α->List Value->Prop} {xs:List α} {rs:List (List Value)} (h:YZ P xs rs):xs.length=rs.length:=by
 induction h with
 |nil=>rfl
 |cons _ _ ih=>simp[ih]
def tT:List Nat:= [71,73,79,114]
theorem UP.fr {T:List Nat} {B:Nat} {w w':World} {lo lo':Nat} {ex:Option Nat} {v:Value} {l:List Int} (h:UP w lo ex v l) (hf:Fr T B w w') (hT:3∉T) (hl:lo'<=lo):UP w' lo' ex v l:=⟨Yp (ZE hf h.1 hT) hl,h.2⟩
theorem UP.grown {w w':World} {lo:Nat} {ex yK:Option Nat} {v:Value} {l:List Int} (h:UP w lo ex v l) (hg:w.grownBy w' ex) (hx: ∀ g,yK=some g->ex=some g\/w.heap.size<=g):UP w' lo yK v l:=by
 refine⟨h.1.kept hg ?_,fun g hg' e=>?_⟩
 .cases hv:v.ownBlock with
  |none=>exact .inl rfl
  |some x=>exact .inr (fun e=>h.2 x hv e.symm)
 .rcases hx g e with h1|h1
  .exact h.2 g hg' h1
  .have:=(h.1.lt g hg').2;omega
theorem Xt.fr {T:List Nat} {B:Nat} {w w':World} {lo lo':Nat} {ex:Option Nat} {nd:Nd} {row:List Value} (h:Xt w lo ex nd row) (hf:Fr T B w w') (hT:3∉T) (hT2:110∉T) (hl:lo'<=lo):Xt w' lo' ex nd row:=by
 obtain⟨vb,ve,vc,cv,tv,ov,h1,h2,h3,h4,h5,h6,h7⟩:=h;exact⟨vb,ve,vc,cv,tv,ov,h1,h2,h3,h4,Yp (ZE hf h5 hT2) hl,h6.fr hf hT hl,h7.fr hf hT hl⟩
theorem Xt.grown {w w':World} {lo:Nat} {ex yK:Option Nat} {nd:Nd} {row:List Value} (h:Xt w lo ex nd row) (hg:w.grownBy w' ex) (h3: ∀ g,ex=some g->Zq w g 3) (hx: ∀ g,yK=some g->ex=some g\/w.heap.size<=g):Xt w' lo yK nd row:=by
 obtain⟨vb,ve,vc,cv,tv,ov,h1,h2,h3',h4,h5,h6,h7⟩:=h;refine⟨vb,ve,vc,cv,tv,ov,h1,h2,h3',h4,h5.kept hg ?_,h6.grown hg hx,h7.grown hg hx⟩;cases hv:cv.ownBlock with
 |none=>exact .inl rfl
 |some x=>exact .inr (fun e=>Zq.ne (Zg h5 hv) (h3 x e.symm) (by decide) rfl)
theorem W7.fr {T:List Nat} {B:Nat} {w w':World} {lo lo':Nat} {ex:Option Nat} {r:Rw} {row:List Value} (h:W7 w lo ex r row) (hf:Fr T B w w') (hT:3∉T) (hl:lo'<=lo):W7 w' lo' ex r row:=let⟨iv,h1,h2⟩:=h;⟨iv,h1,h2.fr hf hT hl⟩
theorem W7.grown {w w':World} {lo:Nat} {ex yK:Option Nat} {r:Rw} {row:List Value} (h:W7 w lo ex r row) (hg:w.grownBy w' ex) (hx: ∀ g,yK=some g->ex=some g\/w.heap.size<=g):W7 w' lo yK r row:=let⟨iv,h1,h2⟩:=h;⟨iv,h1,h2.grown hg hx⟩
def Sz (m:Nat) (ls:List Lf) (NR RR:List (List Value)) (num:Nat):Prop:=ls.length<=m/\NR.length<=m/\RR.length<=m/\num<=m
def Oh (w:World) (B p:Nat) (ls:List Lf) (NR RR:List (List Value)) (num:Nat) (rt:Bool) (lv nv rv:Value) (ol:List Lf) (on:List Nd) (or:List Rw) (it:Nat) (F:Prop) (w':World):Prop:= ∃ Tx UR rv' WF WU EC,TM w' B p (ls++ol) (NR++WF) (RR++WU) ((num+it:Nat):Int) EC Tx UR rv'/\
 YZ (Xt w' w.heap.size none) on WF/\YZ (W7 w' w.heap.size none) or WU/\Fr tT B w w'/\Only (tX p lv nv rv) w w'/\Nw w lv Tx/\Nw w nv UR/\Nw w rv rv'/\(EC=true->rt=true/\F)
def Ti (t:T):Prop:= ∀ (w:World) (B p m:Nat) (ls:List Lf) (NR RR:List (List Value)) (num:Nat) (rt:Bool) (lv nv rv v:Value) (bb o:Nat) (ow cz:Int),TM w B p ls NR RR num rt lv nv rv->Sz m ls NR RR num->m+7*t.wt+4<=90000->Zi v bb o t.len->t.At (YB w B) true bb o->
 Calls prog 81 #[p,v,.int .i64 ow,.int .i64 cz] w fun e w'=>e=.returned (.int .i64 RR.length)/\
  Oh w B p ls NR RR num rt lv nv rv (t.rd.l NR.length (RR.length+1) ls.length num RR.length 0).ls (t.rd.l NR.length (RR.length+1) ls.length num RR.length 0).ns (⟨ow,cz,(t.rd.l NR.length (RR.length+1) ls.length num RR.length 0).ids⟩::(t.rd.l NR.length (RR.length+1) ls.length num RR.length 0).rs) (t.rd.l NR.length (RR.length+1) ls.length num RR.length 0).it t.fA w'
def vN (h:Hd) (b e c:T):Prop:= ∀ (w:World) (B p m:Nat) (ls:List Lf) (NR RR:List (List Value)) (num:Nat) (rt:Bool) (lv nv rv vb ve vc:Value) (b1 o1 b2 o2 b3 o3 a pl:Nat),TM w B p ls NR RR num rt lv nv rv->Sz m ls NR RR num->m+7*(1+b.wt+e.wt+c.wt)+3<=90000->
 Zi vb b1 o1 b.len->b.At (YB w B) true b1 o1->Zi ve b2 o2 e.len->e.At (YB w B) true b2 o2->Zi vc b3 o3 c.len->c.At (YB w B) false b3 o3->
 Calls prog 93 #[p,M9 h vb ve vc,.int .i64 a,.int .i64 pl] w fun e' w'=>e'=.returned (.int .i64 NR.length)/\
  Oh w B p ls NR RR num rt lv nv rv ((T.st h b e c .nil).rd.l NR.length RR.length ls.length num a pl).ls ((T.st h b e c .nil).rd.l NR.length RR.length ls.length num a pl).ns ((T.st h b e c .nil).rd.l NR.length RR.length ls.length num a pl).rs ((T.st h b e c .nil).rd.l NR.length RR.length ls.length num a pl).it
   (Ql h b e c/\(h.Zz=true->b.fA)/\(h.ZV=true->e.fA)/\c.fA) w'
theorem Yj {h:Hd} {N:Nat} :(h.Yl N).length=h.Zu.toNat+h.init.toNat+h.hasCond.toNat+h.post.toNat/\(h.Yl N).length<=4:=by
 unfold Hd.Yl;cases h.Zu<;>cases h.init<;>cases h.hasCond<;>cases h.post<;>simp
theorem V0 {is:Bool} {a b:Int} {o:Out} :(rowOf is a b o).length=if is then 1+o.rs.length else 0:=by
 unfold rowOf;cases is<;>simp<;>omega
theorem QI: ∀ t:T,(∀ N R n i a p,(t.rd.l N R n i a p).ls.length<=4*t.wt/\(t.rd.l N R n i a p).ns.length<=t.wt/\(t.rd.l N R n i a p).rs.length<=2*t.wt/\(t.rd.l N R n i a p).it<=t.wt)/\
  (∀ sw N0 N R n i j k,(t.rd.c sw N0 N R n i j k).ls.length<=4*t.wt/\(t.rd.c sw N0 N R n i j k).ns.length<=t.wt/\(t.rd.c sw N0 N R n i j k).rs.length<=2*t.wt/\(t.rd.c sw N0 N R n i j k).it<=t.wt):=by
 intro t
 induction t with
 |nil=>exact⟨fun _ _ _ _ _ _=>⟨by simp[T.rd,Out.none],by simp[T.rd,Out.none],by simp[T.rd,Out.none],by simp[T.rd,Out.none]⟩,fun _ _ _ _ _ _ _ _=>⟨by simp[T.rd],by simp[T.rd],by simp[T.rd],by simp[T.rd]⟩⟩
 |st h b e c tl ih1 ih2 ih3 ih4=>
  refine⟨fun N R n i a p=>?_,fun _ _ _ _ _ _ _ _=>⟨by simp[T.rd],by simp[T.rd],by simp[T.rd],by simp[T.rd]⟩⟩;have hl:=(Yj (h:=h) (N:=N)).2;simp only[T.rd,Z4,ZJ,T.wt,V0]
  have aux: ∀ (is:Bool) (t:T) (ih: ∀ N R n i a p,(t.rd.l N R n i a p).ls.length<=4*t.wt/\(t.rd.l N R n i a p).ns.length<=t.wt/\(t.rd.l N R n i a p).rs.length<=2*t.wt/\(t.rd.l N R n i a p).it<=t.wt) N R n i a p,
    (if is=true then t.rd.l N R n i a p else .none).ls.length<=4*t.wt/\(if is=true then t.rd.l N R n i a p else .none).ns.length<=t.wt/\(if is=true then t.rd.l N R n i a p else .none).rs.length<=2*t.wt/\(if is=true then t.rd.l N R n i a p else .none).it<=t.wt:=by
   intro is t ih N R n i a p;cases is
   .simp[Out.none]
   .exact ih N R n i a p
  have h1:=fun N R n i a p=>aux h.Zz b ih1.1 N R n i a p;have h2:=fun N R n i a p=>aux h.ZV e ih2.1 N R n i a p;clear aux;have g1:=h1 (N+1) (R+1) (n+(h.Yl N).length) (i+1) R 0;generalize(if h.Zz=true then b.rd.l (N+1) (R+1) (n+(h.Yl N).length) (i+1) R 0 else Out.none)=ob at*;obtain⟨rb,hrb⟩: ∃ rb:Nat,rb=if h.Zz=true then 1+ob.rs.length else 0:=⟨_,rfl⟩
  rw[<-hrb];have g2:=h2 (N+1+ob.ns.length) (R+rb+1) (n+(h.Yl N).length+ob.ls.length) (i+1+ob.it) (R+rb) 0;generalize(if h.ZV=true then e.rd.l (N+1+ob.ns.length) (R+rb+1) (n+(h.Yl N).length+ob.ls.length) (i+1+ob.it) (R+rb) 0 else Out.none)=oe at*;obtain⟨re,hre⟩: ∃ re:Nat,re=if h.ZV=true then 1+oe.rs.length else 0:=⟨_,rfl⟩
  rw[<-hre];have g3:=ih3.2 (h.kind==13) N (N+1+ob.ns.length+oe.ns.length) (R+rb+re) (n+(h.Yl N).length+ob.ls.length+oe.ls.length) (i+1+ob.it+oe.it) 0 0;generalize c.rd.c (h.kind==13) N (N+1+ob.ns.length+oe.ns.length) (R+rb+re) (n+(h.Yl N).length+ob.ls.length+oe.ls.length) (i+1+ob.it+oe.it) 0 0=oc at*;have g4:=ih4.1 (N+1+ob.ns.length+oe.ns.length+oc.ns.length) (R+rb+re+oc.rs.length) (n+(h.Yl N).length+ob.ls.length+oe.ls.length+oc.ls.length) (i+1+ob.it+oe.it+oc.it) a (p+1);generalize tl.rd.l (N+1+ob.ns.length+oe.ns.length+oc.ns.length) (R+rb+re+oc.rs.length) (n+(h.Yl N).length+ob.ls.length+oe.ls.length+oc.ls.length) (i+1+ob.it+oe.it+oc.it) a (p+1)=ot at*;have Z6e:rb<=1+ob.rs.length:=by rw[hrb];split<;>omega
  have Z6d:re<=1+oe.rs.length:=by rw[hre];split<;>omega
  clear ih1 ih2 ih3 ih4 h1 h2 hrb hre;omega
 |cl x b tl ih1 ih2=>
  refine⟨fun _ _ _ _ _ _=>⟨by simp[T.rd,Out.none],by simp[T.rd,Out.none],by simp[T.rd,Out.none],by simp[T.rd,Out.none]⟩,fun sw N0 N R n i j k=>?_⟩;simp only[T.rd,Z4,ZJ,Y8,Zf,T.wt];have h1:=ih1.1 N (R+1) (n+if sw=true then x.toNat else 0) (i+1) R 0;generalize b.rd.l N (R+1) (n+if sw=true then x.toNat else 0) (i+1) R 0=ob at*;have h2:=ih2.2 sw N0 (N+ob.ns.length) (R+1+ob.rs.length) (n+(if sw=true then x.toNat else 0)+ob.ls.length) (i+1+ob.it) (j+1) (k+if sw=true then x.toNat else 0);generalize tl.rd.c sw N0 (N+ob.ns.length) (R+1+ob.rs.length) (n+(if sw=true then x.toNat else 0)+ob.ls.length) (i+1+ob.it) (j+1) (k+if sw=true then x.toNat else 0)=ot at*;cases sw<;>simp only[if_true,Zw,if_false]at* <;>omega
end
section
theorem flat_get {n:Nat} : ∀ {rs:List (List Value)} {i j:Nat} {r:List Value},(∀ r∈rs,r.length=n)->rs[i]? =some r->j < n->rs.flatten[i*n+j]? =r[j]? :=by
 intro rs
 induction rs with
 |nil=>intro i j r _ hi;simp at hi
 |cons q rs ih=>
  intro i j r h hi hj;have hq:=h q (by simp);cases i with
  |zero=>
   simp at hi;subst hi;simp only[List.flatten_cons,Nat.zero_mul,YR];rw[ZP (by omega)]
  |succ i=>
   simp only[List.getElem?_cons_succ]at hi;simp only[List.flatten_cons];rw[Zj (by rw[hq,Nat.add_mul];omega),hq,show(i+1)*n+j -n=i*n+j by rw[Nat.add_mul];omega];exact ih (fun r hr=>h r (by simp[hr])) hi hj
theorem KR {n:Nat} {u:Value} : ∀ {rs:List (List Value)} {i j:Nat} {r:List Value},(∀ r∈rs,r.length=n)->rs[i]? =some r->j < n->rs.flatten.set (i*n+j) u=(rs.set i (r.set j u)).flatten:=by
 intro rs
 induction rs with
 |nil=>intro i j r _ hi;simp at hi
 |cons q rs ih=>
  intro i j r h hi hj;have hq:=h q (by simp);cases i with
  |zero=>
   simp at hi;subst hi;simp only[List.flatten_cons,Nat.zero_mul,YR,Zp];rw[List.set_append_left _ _ (by omega)]
  |succ i=>
   simp only[List.getElem?_cons_succ]at hi;simp only[List.flatten_cons,Zo];rw[List.set_append_right _ _ (by rw[hq,Nat.add_mul];omega),hq,show(i+1)*n+j -n=i*n+j by rw[Nat.add_mul];omega,ih (fun r hr=>h r (by simp[hr])) hi hj]
theorem yJ {h:Hd} {b e c tl:T} (N R n i a p:Nat) {o1 ot:Out} (h1:o1=(T.st h b e c .nil).rd.l N R n i a p) (h2:ot=tl.rd.l (N+o1.ns.length) (R+o1.rs.length) (n+o1.ls.length) (i+o1.it) a (p+1)):
  ((T.st h b e c tl).rd.l N R n i a p).ls=o1.ls++ot.ls/\((T.st h b e c tl).rd.l N R n i a p).ns=o1.ns++ot.ns/\((T.st h b e c tl).rd.l N R n i a p).rs=o1.rs++ot.rs/\((T.st h b e c tl).rd.l N R n i a p).ids=(N:Int)::ot.ids/\((T.st h b e c tl).rd.l N R n i a p).it=o1.it+ot.it:=by
 subst h1;subst h2;simp only[T.rd,Out.none,Y9,Z4,ZJ,Zn];generalize(if h.Zz=true then b.rd.l (N+1) (R+1) (n+(h.Yl N).length) (i+1) R 0 else Out.mk [] [] [] [] 0)=ob;generalize hrb:(rowOf h.Zz (N:Int) (-1) ob)=rb;generalize(if h.ZV=true then e.rd.l (N+1+ob.ns.length) (R+rb.length+1) (n+(h.Yl N).length+ob.ls.length) (i+1+ob.it) (R+rb.length) 0 else Out.mk [] [] [] [] 0)=oe;generalize hre:(rowOf h.ZV (N:Int) (-1) oe)=re;generalize c.rd.c (h.kind==13) N (N+1+ob.ns.length+oe.ns.length) (R+rb.length+re.length) (n+(h.Yl N).length+ob.ls.length+oe.ls.length) (i+1+ob.it+oe.it) 0 0=oc
 rw[show N+(ob.ns.length+(oe.ns.length+oc.ns.length)+1)=N+1+ob.ns.length+oe.ns.length+oc.ns.length by omega,show R+(rb.length+(re.length+oc.rs.length))=R+rb.length+re.length+oc.rs.length by omega,
  show n+((h.Yl N).length+(ob.ls.length+(oe.ls.length+oc.ls.length)))=n+(h.Yl N).length+ob.ls.length+oe.ls.length+oc.ls.length by omega,show i+(1+ob.it+oe.it+oc.it)=i+1+ob.it+oe.it+oc.it by omega]
 simp
theorem yI:(prog.info? 114).map (fun i=>(i.zero,i.size,i.bytes))=some (some (.agg #[.int .i64 0,.int .i64 0,.slice none 0 0]),3,40):=by kernel_rfl
theorem UP.ex {w:World} {lo:Nat} {ex:Option Nat} {v:Value} {l:List Int} (h:UP w lo none v l) (hx: ∀ g,ex=some g->g < lo):UP w lo ex v l:=⟨h.1,fun g hg e=>by have:=hx g e;have:=(h.1.lt g hg).1;omega⟩
theorem Xt.ex {w:World} {lo:Nat} {ex:Option Nat} {nd:Nd} {row:List Value} (h:Xt w lo none nd row) (hx: ∀ g,ex=some g->g < lo):Xt w lo ex nd row:=by
 obtain⟨vb,ve,vc,cv,tv,ov,h1,h2,h3,h4,h5,h6,h7⟩:=h;exact⟨vb,ve,vc,cv,tv,ov,h1,h2,h3,h4,h5,h6.ex hx,h7.ex hx⟩
theorem W7.ex {w:World} {lo:Nat} {ex:Option Nat} {r:Rw} {row:List Value} (h:W7 w lo none r row) (hx: ∀ g,ex=some g->g < lo):W7 w lo ex r row:=let⟨iv,h1,h2⟩:=h;⟨iv,h1,h2.ex hx⟩
def GE (t:T) (w:World) (B p m:Nat) (ls:List Lf) (NR RR:List (List Value)) (num:Nat) (rt:Bool) (lv nv rv:Value) (bb o:Nat) (ow cz:Int) (ix:Value) (wr:World):Prop:= ∃ (k:Nat) (rest:T) (WP:List Lf) (Uu:List Nd) (UO:List Rw) (PQ:List Int) (VR m1:Nat) (XO Yu XY iv:Value) (U3 V7:List (List Value)) (M4:Bool),
 ix=.int .i64 k/\rest.All Ti/\rest.At (YB w B) true bb (o+k*11)/\k+rest.len=t.len/\PQ.length=k/\TM wr B p (ls++WP) (NR++U3) (RR++([.int .i64 ow,.int .i64 cz,iv]::V7)) ((num+VR:Nat):Int) M4 XO Yu XY/\
 wr.ownsRow w.heap.size 3 1 iv k (PQ.map (Value.int .i64))/\YZ (Xt wr w.heap.size iv.ownBlock) Uu U3/\YZ (W7 wr w.heap.size iv.ownBlock) UO V7/\Fr tT B w wr/\Only (tX p lv nv rv) w wr/\Nw w lv XO/\Nw w nv Yu/\Nw w rv XY/\(M4=true->rt=true/\(rest.fA->t.fA))/\
 Sz m1 (ls++WP) (NR++U3) (RR++([.int .i64 ow,.int .i64 cz,iv]::V7)) (num+VR)/\m1+7*rest.wt<=m+7*t.wt+1/\
 (t.rd.l NR.length (RR.length+1) ls.length num RR.length 0).ls=WP++(rest.rd.l (NR.length+Uu.length) (RR.length+1+UO.length) (ls.length+WP.length) (num+VR) RR.length k).ls/\
 (t.rd.l NR.length (RR.length+1) ls.length num RR.length 0).ns=Uu++(rest.rd.l (NR.length+Uu.length) (RR.length+1+UO.length) (ls.length+WP.length) (num+VR) RR.length k).ns/\
 (t.rd.l NR.length (RR.length+1) ls.length num RR.length 0).rs=UO++(rest.rd.l (NR.length+Uu.length) (RR.length+1+UO.length) (ls.length+WP.length) (num+VR) RR.length k).rs/\
 (t.rd.l NR.length (RR.length+1) ls.length num RR.length 0).ids=PQ++(rest.rd.l (NR.length+Uu.length) (RR.length+1+UO.length) (ls.length+WP.length) (num+VR) RR.length k).ids/\
 (t.rd.l NR.length (RR.length+1) ls.length num RR.length 0).it=VR+(rest.rd.l (NR.length+Uu.length) (RR.length+1+UO.length) (ls.length+WP.length) (num+VR) RR.length k).it
theorem yH {t tl b e c:T} {h:Hd} {w wr wA w2 w3:World} {B p m:Nat} {ls:List Lf} {NR RR:List (List Value)} {num:Nat} {rt:Bool} {lv nv rv:Value} {bb o k:Nat} {ow cz:Int} {WP:List Lf} {Uu:List Nd} {UO:List Rw} {PQ:List Int} {VR m1:Nat} {XO Yu XY iv:Value} {U3 V7:List (List Value)} {M4:Bool}
  (hq:tl.All Ti) (ha:tl.At (YB w B) true bb (o+k*11+11)) (hlen:k+(T.st h b e c tl).len=t.len) (hid:PQ.length=k) (hpl:p < w.heap.size) (Bj:B<=p)
  (hT1:TM wr B p (ls++WP) (NR++U3) (RR++([.int .i64 ow,.int .i64 cz,iv]::V7)) ((num+VR:Nat):Int) M4 XO Yu XY) (hiv:wr.ownsRow w.heap.size 3 1 iv k (PQ.map (Value.int .i64)))
  (hns:YZ (Xt wr w.heap.size iv.ownBlock) Uu U3) (hrs:YZ (W7 wr w.heap.size iv.ownBlock) UO V7) (hF:Fr tT B w wr) (hO:Only (tX p lv nv rv) w wr) (hn1:Nw w lv XO) (hn2:Nw w nv Yu) (hn3:Nw w rv XY) (hrt:M4=true->rt=true/\((T.st h b e c tl).fA->t.fA))
  (hSz:Sz m1 (ls++WP) (NR++U3) (RR++([.int .i64 ow,.int .i64 cz,iv]::V7)) (num+VR)) (hm1:m1+7*(T.st h b e c tl).wt<=m+7*t.wt+1)
  (e1:(t.rd.l NR.length (RR.length+1) ls.length num RR.length 0).ls=WP++((T.st h b e c tl).rd.l (NR.length+Uu.length) (RR.length+1+UO.length) (ls.length+WP.length) (num+VR) RR.length k).ls)
  (e2:(t.rd.l NR.length (RR.length+1) ls.length num RR.length 0).ns=Uu++((T.st h b e c tl).rd.l (NR.length+Uu.length) (RR.length+1+UO.length) (ls.length+WP.length) (num+VR) RR.length k).ns)
  (e3:(t.rd.l NR.length (RR.length+1) ls.length num RR.length 0).rs=UO++((T.st h b e c tl).rd.l (NR.length+Uu.length) (RR.length+1+UO.length) (ls.length+WP.length) (num+VR) RR.length k).rs)
  (e4:(t.rd.l NR.length (RR.length+1) ls.length num RR.length 0).ids=PQ++((T.st h b e c tl).rd.l (NR.length+Uu.length) (RR.length+1+UO.length) (ls.length+WP.length) (num+VR) RR.length k).ids)
  (e5:(t.rd.l NR.length (RR.length+1) ls.length num RR.length 0).it=VR+((T.st h b e c tl).rd.l (NR.length+Uu.length) (RR.length+1+UO.length) (ls.length+WP.length) (num+VR) RR.length k).it)
  (fA:Fr [] B wr wA) (oA:Only [] wr wA) {N Rn n i:Nat} (hN:N=(NR++U3).length) (hRn:Rn=(RR++([Value.int .i64 ow,Value.int .i64 cz,iv]::V7)).length) (hn:n=(ls++WP).length) (hi:i=num+VR) {o1:Out} (ho1:o1=(T.st h b e c .nil).rd.l N Rn n i RR.length k)
  {XH VO VM:Value} {WF WU:List (List Value)} {VD:Bool} (hT2:TM w2 B p ((ls++WP)++o1.ls) ((NR++U3)++WF) ((RR++([.int .i64 ow,.int .i64 cz,iv]::V7))++WU) ((num+VR+o1.it:Nat):Int) VD XH VO VM)
  (CV:YZ (Xt w2 wA.heap.size none) o1.ns WF) (CU:YZ (W7 w2 wA.heap.size none) o1.rs WU) (f2:Fr tT B wA w2) (o2:Only (tX p XO Yu XY) wA w2) (g1:Nw wA XO XH) (g2:Nw wA Yu VO) (g3:Nw wA XY VM) (Me:VD=true->M4=true/\(Ql h b e c/\(h.Zz=true->b.fA)/\(h.ZV=true->e.fA)/\c.fA))
  {g cap NL vM pZ:Nat} (aY:VM=.slice (some ⟨NL,0,none⟩) vM pZ) (h3:w3.ownsRow w.heap.size 3 1 (.slice (some ⟨g,0,none⟩) (k+1) cap) (k+1) (PQ.map (Value.int .i64)++ [.int .i64 N])) (hg:w2.grownBy w3 iv.ownBlock) (hat:iv.ownBlock=some g\/(iv.ownBlock≠some g/\w2.heap.size<=g)):
  GE t w B p m ls NR RR num rt lv nv rv bb o ow cz (.int .i64 ((k:Int)+1)) (w3.setCell ⟨NL,RR.length*3+2,none⟩ (.slice (some ⟨g,0,none⟩) (k+1) cap)):=by
 subst aY;have sF:=hF.size;have sA:=fA.size;have s2:=f2.size;have s3:=hg.size;have hwA:w.heap.size<=wA.heap.size:=by omega
 have ln:=hns.len;have lr:=hrs.len;have pY:N=NR.length+Uu.length:=by rw[hN,Z4,ln]
 have hRr:Rn=RR.length+1+UO.length:=by rw[hRn,Z4,ZJ,lr];omega
 have hnn:n=ls.length+WP.length:=by rw[hn,Z4]
 have hBw:B<=w.heap.size:=by omega
 have I1:Fr tT B wr w2:=(fA.mono (by simp) (Z7 _)).trans f2;have oA2:Only (tX p XO Yu XY) wr w2:=(oA.mono (by simp)).trans o2;have Fb:w2.ownsRow w.heap.size 3 1 iv k (PQ.map (Value.int .i64)):=ZE I1 hiv (by decide);have hne: ∀ x,iv.ownBlock=some x->w.heap.size<=x/\x < wr.heap.size:=fun x hx=>hiv.lt x hx;have hgx: ∀ g',(Value.slice (some ⟨g,0,none⟩) (k+1) cap).ownBlock=some g'->iv.ownBlock=some g'\/w2.heap.size<=g':=by
  intro g' e;have:g=g':=by simpa [Value.ownBlock]using e
  subst this;rcases hat with h2|⟨_,h2⟩
  .exact .inl h2
  .exact .inr h2
 have hi3: ∀ g,iv.ownBlock=some g->Zq w2 g 3:=fun g hg=>Zg Fb hg;have hrow3:w3.ownsRow B 114 3 (.slice (some ⟨NL,0,none⟩) vM pZ) ((RR++([Value.int .i64 ow,Value.int .i64 cz,iv]::V7))++WU).length ((RR++([Value.int .i64 ow,Value.int .i64 cz,iv]::V7))++WU).flatten:=by
  refine hT2.r.kept hg (.inr (fun e=>?_));exact Zq.ne (Zg hT2.r rfl) (hi3 NL (by simpa [Value.ownBlock]using e.symm)) (by decide) rfl
 have Fa:vM=((RR++([Value.int .i64 ow,Value.int .i64 cz,iv]::V7))++WU).length:=by
  rcases hrow3.2 with⟨h0,_⟩ |⟨_,_,_,h0,_⟩
  .simp at h0
  .simp at h0;simpa using h0.2.1
 rw[<-Fa]at hrow3;have ph:Fr [3] B w2 w3:=(Fr.refl [3] B w2).grown Fb hg (by omega) hBw (.inl (by simp));have hgr:=hrow3.lt NL rfl;have tgr:Zq w3 NL 114:=Zg hrow3 rfl;have Bx:Fr [114] B w3 (w3.setCell ⟨NL,RR.length*3+2,none⟩ (.slice (some ⟨g,0,none⟩) (k+1) cap)):=(Fr.refl _ _ _).X9 _ _ tgr (by simp) hgr.1;have f3w:Fr tT B w w3:=(hF.trans I1).SB hg (by omega) (fun x hx=>⟨(hne x hx).1,by have:=(hne x hx).1;omega⟩);have f4w:Fr tT B w (w3.setCell ⟨NL,RR.length*3+2,none⟩ (.slice (some ⟨g,0,none⟩) (k+1) cap)):=f3w.trans (Bx.mono (by decide) (Z7 _));have n1:=hn1.trans g1 hwA;have n2:=hn2.trans g2 hwA;have n3:=hn3.trans g3 hwA;have o4w:Only (tX p lv nv rv) w (w3.setCell ⟨NL,RR.length*3+2,none⟩ (.slice (some ⟨g,0,none⟩) (k+1) cap)):=by
  refine((hO.tX oA2 hn1 hn2 hn3).grown hg (fun x hx=>.inr (hne x hx).1)).set _ _ ?_;rcases n3 NL rfl with h1|h1
  .exact .inl (VS.2 (.inr (.inr (.inr h1))))
  .exact .inr h1
 have hst:=(hrow3.stored (RR.length*3+2) (.slice (some ⟨g,0,none⟩) (k+1) cap)).1;have hrr:((RR++([Value.int .i64 ow,Value.int .i64 cz,iv]::V7))++WU)[RR.length]? =some [Value.int .i64 ow,Value.int .i64 cz,iv]:=by simp
 rw[KR (n:=3) hT2.rl hrr (by decide)]at hst;have hset:((RR++([Value.int .i64 ow,Value.int .i64 cz,iv]::V7))++WU).set RR.length ([Value.int .i64 ow,Value.int .i64 cz,iv].set 2 (.slice (some ⟨g,0,none⟩) (k+1) cap))=RR++([Value.int .i64 ow,Value.int .i64 cz,.slice (some ⟨g,0,none⟩) (k+1) cap]::(V7++WU)):=by
  rw[ZI,List.set_append_right _ _ (Z7 _),Nat.sub_self];rfl
 rw[hset]at hst;have kF:((RR++([Value.int .i64 ow,Value.int .i64 cz,iv]::V7))++WU).length=(RR++([Value.int .i64 ow,Value.int .i64 cz,.slice (some ⟨g,0,none⟩) (k+1) cap]::(V7++WU))).length:=by simp
 have kE: ∀ g,iv.ownBlock=some g->g < wA.heap.size:=fun g hg=>by have:=(hne g hg).2;omega
 have hc:=yJ (h:=h) (b:=b) (e:=e) (c:=c) (tl:=tl) N Rn n i RR.length k ho1 rfl;rw[<-pY,<-hRr,<-hnn,<-hi]at e1 e2 e3 e4 e5;obtain⟨c1,c2,c3,c4,c5⟩:=hc;rw[c1]at e1;rw[c2]at e2;rw[c3]at e3;rw[c4]at e4;rw[c5]at e5;have hl:=(QI (T.st h b e c .nil)).1 N Rn n i RR.length k;rw[<-ho1]at hl;obtain⟨z1,z2,z3,z4⟩:=hSz;have ln2:=CV.len;have lr2:=CU.len;have harg:tl.rd.l (NR.length+(Uu++o1.ns).length) (RR.length+1+(UO++o1.rs).length) (ls.length+(WP++o1.ls).length) (num+(VR+o1.it)) RR.length (k+1)=tl.rd.l (N+o1.ns.length) (Rn+o1.rs.length) (n+o1.ls.length) (i+o1.it) RR.length (k+1):=by
  rw[pY,hRr,hnn,hi];simp only[Z4,Z3]
 refine⟨k+1,tl,WP++o1.ls,Uu++o1.ns,UO++o1.rs,PQ++ [(N:Int)],VR+o1.it,m1+4*(1+b.wt+e.wt+c.wt),XH,VO,.slice (some ⟨NL,0,none⟩) vM pZ,.slice (some ⟨g,0,none⟩) (k+1) cap,U3++WF,V7++WU,VD,by simp,hq,by rw[show o+(k+1)*11=o+k*11+11 by omega];exact ha,by simp[T.len]at hlen;omega,by simp[hid],?_,?_,?_,?_,f4w,o4w,n1,n2,n3,?_,?_,?_,?_,?_,?_,?_,?_⟩
 .have hb4:=(hT2.blk.fr ph (by decide)).fr Bx (by decide);refine⟨Bj,by simpa [Z3]using hb4,by simpa [ZI]using ZE Bx (ZE ph hT2.l (by decide)) (by decide),by simpa [ZI]using ZE Bx (ZE ph hT2.n (by decide)) (by decide),by rw[<-kF,<-Fa];exact hst,by simpa [ZI]using hT2.nl,?_⟩;intro r hr;have:=hT2.rl;simp only[ZM,ZO]at hr this;rcases hr with hr|rfl|hr|hr
  .exact this r (.inl (.inl hr))
  .rfl
  .exact this r (.inl (.inr (.inr hr)))
  .exact this r (.inr hr)
 .have h4:=Y3 h3 ⟨NL,RR.length*3+2,none⟩ (.slice (some ⟨g,0,none⟩) (k+1) cap) (fun e=>own_ne h3 tgr (by decide) e);simpa using h4
 .refine YZ.app (hns.mono (fun x r hx=>(((hx.fr I1 (by decide) (by decide) (Z7 _)).grown hg hi3 hgx).fr Bx (by decide) (by decide) (Z7 _)))) (CV.mono (fun x r hx=>?_));exact((hx.ex kE).grown hg hi3 hgx).fr Bx (by decide) (by decide) hwA
 .refine YZ.app (hrs.mono (fun x r hx=>(((hx.fr I1 (by decide) (Z7 _)).grown hg hgx).fr Bx (by decide) (Z7 _)))) (CU.mono (fun x r hx=>?_));exact((hx.ex kE).grown hg hgx).fr Bx (by decide) hwA
 .intro hr2;obtain⟨p1,p2,p3,p4,p5⟩:=Me hr2;obtain⟨r1,r2⟩:=hrt p1;exact⟨r1,fun ht=>r2 ⟨p2,p3,p4,p5,ht⟩⟩
 .simp only[T.wt,Zn]at hl;refine⟨by simp at z1 ⊢;omega,by simp at z2 ⊢;omega,by simp at z3 ⊢;omega,by omega⟩
 .simp only[T.wt]at hm1;omega
 .rw[harg,e1,ZI]
 .rw[harg,e2,ZI]
 .rw[harg,e3,ZI]
 .rw[harg,e4,ZI];rfl
 .rw[harg,e5,Z3]
theorem sE (hN: ∀ h b e c,Ti b->Ti e->c.All Ti->vN h b e c) (t:T) (hall:t.All Ti):Ti t:=by
 intro w B p m ls NR RR num rt lv nv rv v bb o ow cz hT hS hm hs hat;obtain⟨av,cv,rfl,hlen,hav⟩:=ZU hs;have hav:=Z5 hav;clear hs;obtain⟨ra,rc,rfl⟩:=ZR hT.r;have hpl:=hT.blk.lt;have Bj:=hT.hB;have hBw:B<=w.heap.size:=by omega
 have c2:=hT.blk.cell 2 rfl;have hrr:=hT.r;have hblk:=hT.blk;have HT:=Zl hT hS;have hRl:RR.length<=90000:=by have:=hS.2.2.1;omega
 clear hT hS;go_enter func81,ntmps81;go_wp2_with (at_builtin;refine Ze w rfl _ _ 69 rfl B 114 (.agg #[.int .i64 0,.int .i64 0,.slice none 0 0]) 3 40 underlying69 yI rfl (by decide) (by decide) hrr (by rfl) [.int .i64 ow,.int .i64 cz,.slice none 0 0] rfl ?c1 (by rfl) (by omega) (by omega) ?_)
 case c1=>simp[Value.oneCell']
 intro g cap w6 hown6 UT VW Mm;have hb6:=hblk.grown UT (own_ne hrr hblk.ty (by decide));have c6f:=hb6.free 2;have c62:=hb6.cell 2 rfl;have f6:Fr tT B w w6:=(Fr.refl _ _ _).grown hrr UT hBw (Z7 _) (.inl (by decide));have f7:Fr tT B w (w6.setCell ⟨p,2,none⟩ (.slice (some ⟨g,0,none⟩) (RR.length+1) cap)):=f6.X9 _ _ hb6.ty (by decide) Bj;have hS0:GE t w B p m ls NR RR num rt lv nv (.slice ra RR.length rc) bb o ow cz (.int .i64 0) (w6.setCell ⟨p,2,none⟩ (.slice (some ⟨g,0,none⟩) (RR.length+1) cap)):=by
  obtain⟨hT,hS⟩:=HT.out;have f6':Fr [114] B w w6:=(Fr.refl _ _ _).grown hrr UT hBw (Z7 _) (.inl (by decide));have f71:Fr [71] B w6 (w6.setCell ⟨p,2,none⟩ (.slice (some ⟨g,0,none⟩) (RR.length+1) cap)):=(Fr.refl _ _ _).X9 _ _ hb6.ty (by decide) Bj;have h1:w6.ownsRow B 114 3 (.slice (some ⟨g,0,none⟩) (RR.length+1) cap) (RR++ [[Value.int .i64 ow,Value.int .i64 cz,Value.slice none 0 0]]).length (RR++ [[Value.int .i64 ow,Value.int .i64 cz,Value.slice none 0 0]]).flatten:=by simpa using hown6
  refine⟨0,t,[],[],[],[],0,m+1,lv,nv,.slice (some ⟨g,0,none⟩) (RR.length+1) cap,.slice none 0 0,[],[],rt,rfl,hall,by simpa using hat,by simp,rfl,?_,Zs _ _ _ _,.nil,.nil,f7,?_,Nw.refl _ _,Nw.refl _ _,?_,fun h=>⟨h,id⟩,?_,by omega,by simp,by simp,by simp,by simp,by simp⟩
  .refine⟨Bj,hb6.set 2 _,by simpa using ZE f71 (ZE f6' hT.l (by decide)) (by decide),by simpa using ZE f71 (ZE f6' hT.n (by decide)) (by decide),ZE f71 h1 (by decide),by simpa using hT.nl,?_⟩;intro r hr;simp at hr;rcases hr with hr|rfl
   .exact hT.rl r hr
   .rfl
  .exact((Only.refl _ _).grown UT (fun k hk=>.inl (VS.2 (.inr (.inr (.inr hk)))))).set _ _ (.inl (VS.2 (.inl rfl)))
  .intro g' e;have:g=g':=by simpa [Value.ownBlock]using e
   subst this;rcases VW with h2|⟨_,h2⟩
   .exact .inl h2
   .exact .inr (by omega)
  .obtain⟨s1,s2,s3,s4⟩:=hS;exact⟨by simp;omega,by simp;omega,by simp;omega,by omega⟩
 have aX:=Z5 hS0;clear hS0 f6 f7;go_wp2_with fail
 go_loopw [32] (fun ix wr=>GE t w B p m ls NR RR num rt lv nv (.slice ra RR.length rc) bb o ow cz ix wr) (fun ix _=>t.len -(intOf ix).toNat)
 case atStart=>exact aX.out
 case round=>
  obtain⟨k,rest,WP,Uu,UO,PQ,VR,m1,XO,Yu,XY,iv,U3,V7,M4,rfl,XC,hat',hlen',hid,hT1,hiv,hns,hrs,hF,hO,hn1,hn2,hn3,hrt,hSz,hm1,e1,e2,e3,e4,e5⟩:=hrel;have sF:=hF.size;cases rest with
  |nil=>
   have hk: ¬ k < t.len:=by simp[T.len]at hlen';omega
   have HX:=Z5 (And.intro hT1 (And.intro hiv (And.intro hns (And.intro hrs (And.intro hF (And.intro hO (And.intro hn1 (And.intro hn2 (And.intro hn3 (And.intro hrt (And.intro e1 (And.intro e2 (And.intro e3 (And.intro e4 (And.intro e5 hid)))))))))))))));clear hT1 hiv hns hrs hF hO hn1 hn2 hn3 hrt e1 e2 e3 e4 e5 hlen' hid hSz hm1;go_wp2_with fail
   go_ret;obtain⟨hT1,hiv,hns,hrs,hF,hO,hn1,hn2,hn3,hrt,e1,e2,e3,e4,e5,hid⟩:=HX.out;simp only[T.rd,Out.none,Y9,Zn]at e1 e2 e3 e4 e5;rw[e1,e2,e3,e4,e5];refine⟨rfl,XO,Yu,XY,U3,_,M4,hT1,hns.mono (fun x r ⟨vb,ve,vc,cv,tv,ov,g1,g2,g3,g4,g5,g6,g7⟩=>⟨vb,ve,vc,cv,tv,ov,g1,g2,g3,g4,g5,⟨g6.1,by simp⟩,⟨g7.1,by simp⟩⟩),.cons ⟨iv,rfl,by subst hid;exact hiv,by simp⟩ (hrs.mono (fun x r ⟨iv,g1,g2⟩=>⟨iv,g1,g2.1,by simp⟩)),hF,hO,hn1,hn2,hn3,fun h=>⟨(hrt h).1,(hrt h).2 trivial⟩⟩
  |cl=>exact absurd hat'.1 (by simp)
  |st h b e c tl=>
   have hk:k < t.len:=by simp[T.len]at hlen';omega
   obtain rfl:=hav.out (by omega);obtain⟨_,vb,b1,o1,ve,b2,o2,vc,b3,o3,hh,s1,a1,s2,a2,s3,a3,a4⟩:=hat';obtain⟨d0,d1,d2,d3,d4,d5,d6,d7,d8,d9,d10⟩:=hh.cells hF.below;obtain⟨ba,bc,rfl,_⟩:=ZU s1;obtain⟨ea,ec,rfl,_⟩:=ZU s2;obtain⟨ca,cc,rfl,_⟩:=ZU s3;obtain⟨q1,q2,q3,q4⟩:=XC;have hND:=hN h b e c q1 q2 q3;have hwt:m1+7*(1+b.wt+e.wt+c.wt)+3<=90000:=by simp only[T.wt]at hm1;omega
   have hcell:=hT1.blk.cell 2 rfl;obtain⟨ia,ic,rfl⟩:=ZR hiv;have hrl2: ∃ r:List Value,(RR++([Value.int .i64 ow,Value.int .i64 cz,.slice ia k ic]::V7))[RR.length]? =some r:=⟨_,by simp;rfl⟩
   have HX:=Z5 (And.intro hT1 (And.intro hiv (And.intro hns (And.intro hrs (And.intro hF (And.intro hO (And.intro hn1 (And.intro hn2 (And.intro hn3 (And.intro hrt (And.intro hSz (And.intro hm1 (And.intro e1 (And.intro e2 (And.intro e3 (And.intro e4 (And.intro e5 (And.intro hid (And.intro hlen' (And.intro q4 a4))))))))))))))))))));have HA:=Qd s1 a1 s2 a2 s3 a3;obtain⟨hk0,hk1,hk2,hk3,hk4,hk5,hk6,YJ⟩:=h;have fA:Fr [] B wr (wr.alloc (.cells [.int .i64 hk0,.string hk1,.string hk2,.bool hk3,.bool hk4,.bool hk5,.bool hk6,.bool YJ,.slice ba b.len bc,.slice ea e.len ec,.slice ca c.len cc].toArray 76)):=(Fr.refl _ _ _).alloc (by omega) _;have oA:Only [] wr (wr.alloc (.cells [.int .i64 hk0,.string hk1,.string hk2,.bool hk3,.bool hk4,.bool hk5,.bool hk6,.bool YJ,.slice ba b.len bc,.slice ea e.len ec,.slice ca c.len cc].toArray 76)):=(Only.refl _ _).alloc _;have xA:=ZD.new wr [.int .i64 hk0,hk1,hk2,hk3,hk4,hk5,hk6,YJ,.slice ba b.len bc,.slice ea e.len ec,.slice ca c.len cc] 76;clear hT1 hiv hns hrs hO hn1 hn2 hn3 hrt hSz hm1 e1 e2 e3 e4 e5 hid hlen' q4 a4 q1 q2 q3 s1 a1 s2 a2 s3 a3 hh;have hcv: ∀ x y z,YB w B x y z->YB (wr.alloc (.cells [.int .i64 hk0,.string hk1,.string hk2,.bool hk3,.bool hk4,.bool hk5,.bool hk6,.bool YJ,.slice ba b.len bc,.slice ea e.len ec,.slice ca c.len cc].toArray 76)) B x y z:=fun x y z h=>YB.below (hF.below.trans fA.below) x y z h;have GD:=Z5 (hND (wr.alloc (.cells [.int .i64 hk0,.string hk1,.string hk2,.bool hk3,.bool hk4,.bool hk5,.bool hk6,.bool YJ,.slice ba b.len bc,.slice ea e.len ec,.slice ca c.len cc].toArray 76)) B p m1 _ _ _ _ M4 XO Yu XY _ _ _ b1 o1 b2 o2 b3 o3 RR.length k (HX.out.1.fr fA (by decide)) HX.out.2.2.2.2.2.2.2.2.2.2.1 hwt HA.out.1 (HA.out.2.1.mono hcv) HA.out.2.2.1 (HA.out.2.2.2.1.mono hcv) HA.out.2.2.2.2.1 (HA.out.2.2.2.2.2.mono hcv));obtain⟨Nn,pY⟩: ∃ Nn:Nat,Nn=(NR++U3).length:=⟨_,rfl⟩
   rw[<-pY]at GD;have HNn:=Z5 pY;have hNb:Nn<=90000:=by have:=HX.out.2.2.2.2.2.2.2.2.2.2.1.2.1;omega
   unfold M9 at GD;clear pY hND;go_wp2_with fail
   refine GD.out.mono ?_;rintro e' w2 ⟨rfl,XH,VO,VM,WF,WU,VD,hT2,CV,CU,f2,aZ,g1,g2,g3,Me⟩;obtain⟨NL,pZ,rfl⟩: ∃ NL pZ,VM=.slice (some ⟨NL,0,none⟩) ((RR++([Value.int .i64 ow,Value.int .i64 cz,.slice ia k ic]::V7))++WU).length pZ:=by
    rcases hT2.r.2 with⟨_,h0⟩ |⟨g,cap,cur,hv,_⟩
    .simp at h0
    .exact⟨g,cap,hv⟩
   have I1:Fr tT B wr w2:=(fA.mono (by simp) (Z7 _)).trans f2;have Fb:=ZE I1 HX.out.2.1 (by decide);have p2:=hT2.blk.cell 2 rfl;have hr2:=hT2.r;have ci:w2.cell? ⟨NL,RR.length*3+2,none⟩=some (.slice ia k ic):=by
    rw[ZF hr2 (RR.length*3+2) (by simp only[Z4,ZJ];omega),flat_get (n:=3) hT2.rl (r:= [Value.int .i64 ow,Value.int .i64 cz,.slice ia k ic]) (by simp) (by decide)];rfl
   have hgr:=(hr2.lt NL rfl)
   have aW:RR.length < ((RR++([Value.int .i64 ow,Value.int .i64 cz,.slice ia k ic]::V7))++WU).length:=by simp only[Z4,ZJ];omega
   obtain⟨vM,Fa⟩: ∃ vM:Nat,vM=((RR++([Value.int .i64 ow,Value.int .i64 cz,.slice ia k ic]::V7))++WU).length:=⟨_,rfl⟩
   rw[<-Fa]at p2 hr2 aW;have s2:=f2.size;have hw2:w.heap.size<=w2.heap.size:=by have:=fA.size;omega
   have hk9:k<=90000:=by have:=T.QK t;omega
   have hpb:=hT2.blk;have HZ:=Z5 (And.intro hT2 (And.intro CV (And.intro CU (And.intro f2 (And.intro aZ (And.intro g1 (And.intro g2 (And.intro g3 (And.intro Me Fa)))))))));clear hT2 CV CU f2 aZ g1 g2 g3 Me Fa I1 GD;go_wp2_with fail
   have stp: ∀ (g cap:Nat) (w3:World),w3.ownsRow w.heap.size 3 1 (.slice (some ⟨g,0,none⟩) (k+1) cap) (k+1) (PQ.map (Value.int .i64)++ [.int .i64 Nn])->w2.grownBy w3 (Value.slice ia k ic).ownBlock->((Value.slice ia k ic).ownBlock=some g\/((Value.slice ia k ic).ownBlock≠some g/\g=w2.heap.size+1))->
     GE t w B p m ls NR RR num rt lv nv (.slice ra RR.length rc) bb o ow cz (.int .i64 ((k:Int)+1)) (w3.setCell ⟨NL,RR.length*3+2,none⟩ (.slice (some ⟨g,0,none⟩) (k+1) cap)):=by
    intro g cap w3 h3 hg3 So;obtain⟨x1,x2,x3,x4,x5,x6,x7,x8,x9,x10,x11,x12,gE,x14,x15,x16,x17,x18,x19,x20,x21⟩:=HX.out;obtain⟨y1,y2,y3,y4,y5,y6,y7,y8,y9,LL⟩:=HZ.out;exact yH (h:=⟨hk0,hk1,hk2,hk3,hk4,hk5,hk6,YJ⟩) x20 x21 x19 x18 hpl Bj x1 x2 x3 x4 x5 x6 x7 x8 x9 x10 x11 x12 gE x14 x15 x16 x17 fA oA (N:=Nn) (Rn:=(RR++([Value.int .i64 ow,Value.int .i64 cz,.slice ia k ic]::V7)).length) (n:=(ls++WP).length) (i:=num+VR) HNn.out rfl rfl rfl (by rw[HNn.out]) y1 y2 y3 y4 y5 y6 y7 y8 y9 (NL:=NL) rfl h3 hg3 (So.imp id (fun h=>⟨h.1,by omega⟩))
   have aV:=Z5 stp;clear stp;have aU:=ZF hr2 (RR.length*3+2) (by omega);have p2a:=(hpb.alloc (.cells [.int .i64 Nn].toArray 3)).cell 2 rfl;have cia:=(ZF (hr2.alloc (.cells [.int .i64 Nn].toArray 3)) (RR.length*3+2) (by omega)).trans (aU.symm.trans ci);have Dw: ∀ g,(Value.slice ia k ic).ownBlock=some g->NL≠g:=fun g hg=>Zq.ne (Zg hr2 rfl) (Zg Fb hg) (by decide);have HCI:=Zl aU Dw;clear aU Dw;have hil:(RR.length:Int) < RR.length+(V7.length+WU.length+1):=by omega
   have Z6c:(RR.length:Int) < vM:=by omega
   go_region_law (first
    |(refine XQ w2 _ rfl _ _ 31 rfl w.heap.size 3 (.int .i64 0) 1 8 underlying31 info3 rfl (by decide) (by decide) Fb (by rfl) [.int .i64 Nn] rfl (by simp[Value.oneCell']) (by rfl) (by omega) (by omega) (by first|exact .inl rfl|exact .inr rfl) ?_;intro g cap w3 hown3 hg3 So hlt3;have hr3:=hr2.kept hg3 (.inr (fun e=>HCI.out.2 NL (by simpa [Value.ownBlock]using e.symm) rfl));have AG:=World.ownsRow.frozenAt hr3 (RR.length*3+2);have hb3:=hpb.grown hg3 (own_ne Fb hpb.ty (by decide));have p3:=hb3.cell 2 rfl;have c3:=(ZF hr3 (RR.length*3+2) (by omega)).trans (HCI.out.1.symm.trans ci)))
   all_goals
    have hS:=Z5 (aV.out g cap w3 hown3 hg3 So);go_wp2_with fail
    exact⟨hS.out,by simp[intOf];omega⟩
end
section
def Gz (h:Hd) (vb ve vc:Value):List Value:= [.int .i64 h.kind,.string h.label,.string h.target,.bool h.init,.bool h.cond,.bool h.post,.bool h.ZV,.bool h.chain,vb,ve,vc]
def Nd.raw (h:Hd) (a pl:Int):Nd:=⟨h,0,a,pl,0,0,0,0,-1,-1,[],[],[],-1⟩
def z79:Value:=.agg #[.int .i64 0,ByteArray.empty,ByteArray.empty,false,false,false,false,false,.slice none 0 0,.slice none 0 0,.slice none 0 0,.int .i64 0,.int .i64 0,.int .i64 0,.int .i64 0,.int .i64 0,.int .i64 0,.int .i64 0,.int .i64 0,.int .i64 0,.slice none 0 0,.slice none 0 0,.slice none 0 0,.int .i64 0]
theorem sD:(prog.info? 79).map (fun i=>(i.zero,i.size,i.bytes))=some (some z79,24,272):=by kernel_rfl
def N2 (w:World) (B p:Nat) (ls:List Lf) (NR RR:List (List Value)) (num:Nat) (rt:Bool) (lv nv rv:Value) (h:Hd) (vb ve vc:Value) (a pl:Nat) (wx:World):Prop:= ∃ Yu,TM wx B p ls (NR++ [ZQ (Nd.raw h a pl) vb ve vc (.slice none 0 0) (.slice none 0 0) (.slice none 0 0)]) RR num rt lv Yu rv/\
 ZD wx w.heap.size (Gz h vb ve vc) 76/\Fr tT B w wx/\Only (tX p lv nv rv) w wx/\Nw w nv Yu
theorem CT {w wA w3:World} {B p:Nat} {ls:List Lf} {NR RR:List (List Value)} {num:Nat} {rt:Bool} {lv rv vb ve vc:Value} {na:Option Addr} {nc g cap:Nat} {h:Hd} {a pl:Nat}
  (TA:TM wA B p ls NR RR num rt lv (.slice na NR.length nc) rv) (fA:Fr [] B w wA) (oA:Only [] w wA) (xA:ZD wA w.heap.size (Gz h vb ve vc) 76) (hpl:p < w.heap.size) (hsA:wA.heap.size=w.heap.size+1)
  (hown3:w3.ownsRow B 79 24 (.slice (some ⟨g,0,none⟩) (NR.length+1) cap) (NR.length+1) (NR.flatten++ZQ (Nd.raw h a pl) vb ve vc (.slice none 0 0) (.slice none 0 0) (.slice none 0 0)))
  (hg3:wA.grownBy w3 (Value.slice na NR.length nc).ownBlock) (So:(Value.slice na NR.length nc).ownBlock=some g\/((Value.slice na NR.length nc).ownBlock≠some g/\g=wA.heap.size+1)):
  N2 w B p ls NR RR num rt lv (.slice na NR.length nc) rv h vb ve vc a pl (w3.setCell ⟨p,1,none⟩ (.slice (some ⟨g,0,none⟩) (NR.length+1) cap)):=by
 have Bj:=TA.hB;have hBA:B<=wA.heap.size:=by omega
 have hb3:=TA.blk.grown hg3 (own_ne TA.n TA.blk.ty (by decide));have f3:Fr [79] B wA w3:=(Fr.refl _ _ _).grown TA.n hg3 hBA (Z7 _) (.inl (by decide));have f4:Fr [71] B w3 (w3.setCell ⟨p,1,none⟩ (.slice (some ⟨g,0,none⟩) (NR.length+1) cap)):=(Fr.refl _ _ _).X9 _ _ hb3.ty (by decide) Bj;have h1:w3.ownsRow B 79 24 (.slice (some ⟨g,0,none⟩) (NR.length+1) cap) (NR++ [ZQ (Nd.raw h a pl) vb ve vc (.slice none 0 0) (.slice none 0 0) (.slice none 0 0)]).length (NR++ [ZQ (Nd.raw h a pl) vb ve vc (.slice none 0 0) (.slice none 0 0) (.slice none 0 0)]).flatten:=by simpa using hown3
 refine⟨.slice (some ⟨g,0,none⟩) (NR.length+1) cap,⟨Bj,hb3.set 1 _,ZE f4 (ZE f3 TA.l (by decide)) (by decide),ZE f4 h1 (by decide),ZE f4 (ZE f3 TA.r (by decide)) (by decide),?_,TA.rl⟩,(xA.fr f3 (by decide)).fr f4 (by decide),(fA.mono (by simp) (Z7 _)).trans ((f3.mono (by decide) (Z7 _)).trans (f4.mono (by decide) (Z7 _))),?_,?_⟩
 .intro r hr;simp at hr;rcases hr with hr|rfl
  .exact TA.nl r hr
  .rfl
 .exact((oA.mono (by simp)).grown hg3 (fun k hk=>.inl (VS.2 (.inr (.inr (.inl hk)))))).set _ _ (.inl (VS.2 (.inl rfl)))
 .intro g' e;have:g=g':=by simpa [Value.ownBlock]using e
  subst this;rcases So with h2|⟨_,h2⟩
  .exact .inl h2
  .exact .inr (by omega)
structure NX (w:World) (B p:Nat) (lv nv rv:Value) (sc:List Value) (x:Nat) (xc:List Value) (ls:List Lf) (NR RR:List (List Value)) (num:Int) (rt:Bool) (Tx UR rv':Value) (wx:World):Prop where
 t:TM wx B p ls NR RR num rt Tx UR rv'
 s:ZD wx w.heap.size sc 76
 xb:ZD wx x xc 79
 hx:w.heap.size < x
 hB:B<=w.heap.size
 ne:UR.ownBlock≠some x
 f:Fr tT B w wx
 o:Only (tX p lv nv rv) w wx
 n1:Nw w lv Tx
 n2:Nw w nv UR
 n3:Nw w rv rv'
theorem NX.call {w wx w':World} {B p:Nat} {lv nv rv:Value} {sc:List Value} {x:Nat} {xc:List Value} {ls ls2:List Lf} {NR RR I0 RR2:List (List Value)} {num kD:Int} {rt VD:Bool} {Tx UR rv' XH VO VM:Value}
  (h:NX w B p lv nv rv sc x xc ls NR RR num rt Tx UR rv' wx) (hT:TM w' B p ls2 I0 RR2 kD VD XH VO VM) (hF:Fr tT B wx w') (hO:Only (tX p Tx UR rv') wx w') (g1:Nw wx Tx XH) (g2:Nw wx UR VO) (g3:Nw wx rv' VM):
  NX w B p lv nv rv sc x xc ls2 I0 RR2 kD VD XH VO VM w':=by
 have sF:=h.f.size;have hxl:=h.xb.lt;refine⟨hT,h.s.fr hF (by decide),?_,h.hx,h.hB,fun e=>?_,h.f.trans hF,h.o.tX hO h.n1 h.n2 h.n3,h.n1.trans g1 sF,h.n2.trans g2 sF,h.n3.trans g3 sF⟩
 .have hk:=hO.block x hxl (fun hc=>?_)
  .have:=h.xb;unfold ZD at this ⊢;rw[hk];exact this
  .rcases VS.1 hc with e|e|e|e
   .subst e;exact Zq.ne h.xb.ty h.t.blk.ty (by decide) rfl
   .exact Zq.ne h.xb.ty (Zg h.t.l e) (by decide) rfl
   .exact h.ne e
   .exact Zq.ne h.xb.ty (Zg h.t.r e) (by decide) rfl
 .rcases g2 x e with h1|h1
  .exact h.ne h1
  .omega
theorem NX.store {w wx:World} {B p:Nat} {lv nv rv:Value} {sc:List Value} {x:Nat} {xc:List Value} {ls:List Lf} {NR RR:List (List Value)} {num:Int} {rt:Bool} {Tx UR rv':Value}
  (h:NX w B p lv nv rv sc x xc ls NR RR num rt Tx UR rv' wx) (i:Nat) (u:Value):NX w B p lv nv rv sc x (xc.set i u) ls NR RR num rt Tx UR rv' (wx.setCell ⟨x,i,none⟩ u):=by
 have hxl:=h.xb.lt;have hx:=h.hx;have hB:=h.hB;have f79:Fr [79] B wx (wx.setCell ⟨x,i,none⟩ u):=(Fr.refl _ _ _).X9 _ _ h.xb.ty (by decide) (by simp;omega);refine⟨⟨h.t.hB,h.t.blk.fr f79 (by decide),ZE f79 h.t.l (by decide),Y3 h.t.n _ _ (fun e=>h.ne e.symm),ZE f79 h.t.r (by decide),h.t.nl,h.t.rl⟩,h.s.fr f79 (by decide),h.xb.set i u,hx,hB,h.ne,h.f.trans (f79.mono (by decide) (Z7 _)),h.o.set _ _ (.inr (by simp;omega)),h.n1,h.n2,h.n3⟩
end
section
theorem ZD.rangeAt {w:World} {b:Nat} {cs:List Value} {t:TypeId} (h:ZD w b cs t):w.rangeAt b 0 cs:=fun j v hv=>by
 rw[YR];exact h.cell j hv
theorem ZD.there {w:World} {b:Nat} {cs:List Value} {t:TypeId} (h:ZD w b cs t):w.there b 0 cs.length:=fun j hj=>by
 rw[YR,h.cell j (Z9 hj)];exact⟨rfl,h.free j⟩
theorem KQ: ∀ {ys pre cs:List Value},cs.length=ys.length->Xm (pre++cs) pre.length ys=pre++ys:=by
 intro ys
 induction ys with
 |nil=>
  intro pre cs h;have:cs= []:=List.eq_nil_of_length_eq_zero (by simpa using h);subst this;rfl
 |cons y ys ih=>
  intro pre cs h;cases cs with
  |nil=>simp at h
  |cons c cs=>
   have h1:=ih (pre:=pre++ [y]) (cs:=cs) (by simpa using h);simp only[Xm];rw[List.set_append_right _ _ (Z7 _),Nat.sub_self];simpa using h1
theorem X0 {P:Program} {ops:Array Oper} {o:Oper} {a:Act} {w:World} {K:Act->World->Prop} {Q:Exit->Act->World->Prop} {E:Prop} (hgd:o.guard=none) (ty:TypeId) (x:Operand) (ho:o.op=.load ty x)
  {b:Nat} {cs:List Value} {t:TypeId} (hx:a.eval x=.pointer (some ⟨b,0,none⟩)) (hb:ZD w b cs t) (d:TypeDesc) (hu:P.underlying ty=some d) (hd:d.isRow=true) (hi:(P.info? ty).map (·.size)=some cs.length)
  (h:K (a.put o.dst (.agg cs.toArray)) w):if Region.wanted o (yielded ops a.tmps)=true then Oper.wp P o a w K Q else E:=by
 have hw:Region.wanted o (yielded ops a.tmps)=true:=by simp[Region.wanted,hgd]
 rw[if_pos hw];exact wp_load_mid ty x ho b 0 hx cs d hb.rangeAt hu hd hi h
theorem Yc {P:Program} {ops:Array Oper} {o:Oper} {a:Act} {w:World} {K:Act->World->Prop} {Q:Exit->Act->World->Prop} {E:Prop} (hgd:o.guard=none) (ty:TypeId) (x y:Operand) (ho:o.op=.store ty x y)
  {b:Nat} {cs:List Value} {t:TypeId} (hx:a.eval x=.pointer (some ⟨b,0,none⟩)) (hb:ZD w b cs t) (ys:List Value) (hy:a.eval y=.agg ys.toArray) (hl:ys.length=cs.length) (hi:(P.info? ty).map (·.size)=some ys.length) (h1: ∀ v∈ys,v.oneCell'=true)
  (h: ∀ w',ZD w' b ys t->Only [b] w w'->(∀ B,B<=b->Fr [t] B w w')->K (a.put o.dst undef) w'):if Region.wanted o (yielded ops a.tmps)=true then Oper.wp P o a w K Q else E:=by
 have hw:Region.wanted o (yielded ops a.tmps)=true:=by simp[Region.wanted,hgd]
 rw[if_pos hw];refine wp_store_mid ty x y ho b 0 ys.toArray hx hy (by simpa [hl]using hb.there) (by simpa using hi) (all_oneCell_toArray h1) ?_;have hs:=hb.Xm (ys:=ys) (o:=0);rw[show Xm cs 0 ys=ys from KQ (pre:= []) hl.symm]at hs;exact h _ hs ((Only.refl _ _).Xm (by simp)) (fun B hB=>(Fr.refl _ _ _).Xm (by simp) hB hb.ty)
end
end Go.Proofs.YteedbaejpdjilaaGreat
