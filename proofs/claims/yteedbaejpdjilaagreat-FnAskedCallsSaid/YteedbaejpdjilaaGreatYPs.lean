/- Part of the proof: BuiI BuiJ LawX LawA. -/
import Derived.Test.YteedbaejpdjilaaGreatYPq
import Derived.Test.YteedbaejpdjilaaGreatYPr
set_option linter.all false
set_option maxRecDepth 100000
set_option maxHeartbeats 40000000
namespace Go.Proofs.YteedbaejpdjilaaGreat
open Go.RowKit Tryz
section
variable {w w':World} {B b b0:Nat} {A L:List Nat} {S S':BS} {tg:List Tg} {M:Mk}
structure Pc where
 leaves:List Int
 succs:List Int
 index:Int
 live:Bool
 kind:Int
 of:Int
 Yz:Bool
def Bk.pc (i:Nat) (k:Bk):Pc:=⟨k.nodes.map fun n=>YS n.pos,k.succs.map fun s:Nat=>(s:Int),i,k.live,k.kind,Wq k.of,k.ends⟩
def I7 (w:World) (base:Nat) (cs:List Value) (p:Pc):Prop:= ∃ lv sv,cs= [lv,sv,.int .i64 p.index,.bool p.live,.int .i64 p.kind,.int .i64 p.of,.bool p.Yz]/\
 w.ownsRow base 3 1 lv p.leaves.length (p.leaves.map (Value.int .i64))/\w.ownsRow base 3 1 sv p.succs.length (p.succs.map (Value.int .i64))
def Mn (w:World) (base:Nat) (gv:Value) (ps:List Pc):Prop:= ∃ rows:List (List Value),rows.length=ps.length/\w.ownsRow base 45 7 gv ps.length rows.flatten/\
 ∀ (i:Nat) cs p,rows[i]? =some cs->ps[i]? =some p->I7 w base cs p
theorem own_below {w w':World} {base e size n:Nat} {v:Value} {xs:List Value} {B:Nat} (h:w.ownsRow base e size v n xs) (hb:Below B w w') (hB: ∀ g,v.ownBlock=some g->g < B):w'.ownsRow base e size v n xs:=by
 obtain⟨h1,h2⟩:=h;refine⟨h1,?_⟩;rcases h2 with h2|⟨g,cap,cur,hv,hg,hh,r⟩
 .exact Or.inl h2
 .exact Or.inr ⟨g,cap,cur,hv,hg,by rw[hb.block g (hB g (by rw[hv];rfl))];exact hh,r⟩
theorem Yp {w:World} {base base' e size n:Nat} {v:Value} {xs:List Value} (h:w.ownsRow base e size v n xs) (hb:base'<=base):w.ownsRow base' e size v n xs:=
 ⟨h.1,h.2.imp id (fun⟨g,cap,cur,hv,hg,r⟩=>⟨g,cap,cur,hv,ZC hb hg,r⟩)⟩
theorem Only.of_below {w w':World} (h:Below w.heap.size w w'):Only [] w w':=⟨h.size,fun k hk _=>h.block k hk⟩
theorem Fr.of_below {T:List Nat} {B:Nat} {w w':World} (h:Below w.heap.size w w') (hB:B<=w.heap.size):Fr T B w w':=
 ⟨h.mono hB,fun k c e f hk _=>by rw[h.block k (Zq.lt ⟨_,_,hk⟩)];exact hk⟩
theorem BX.below (h:BX w B b b0 A L S tg M) (hb:Below w.heap.size w w'):BX w' B b b0 A L S tg M:=by
 have hB:B<=w.heap.size:=h.choose_spec.leB.1;obtain⟨bv,cv,mv,tv,hbl,_⟩:=h.list;exact h.keep (Only.of_below hb) (Fr.of_below hb hB) hbl (by simp)
theorem Xu {w w':World} {B b:Nat} {cs:List Value} {t:Nat} (h:ZD w b cs t) (hb:Below B w w') (hB:b < B):ZD w' b cs t:=by
 unfold ZD at*;rw[hb.block b hB];exact h
theorem K0 (w:World) (n:Nat) (o:Obj):(w.drewN n).alloc o=(w.alloc o).drewN n:=rfl
theorem Nz (w:World) (n:Nat) (a:Addr) (v:Value):(w.drewN n).setCell a v=(w.setCell a v).drewN n:=rfl
attribute [local go_sem] K0 Nz
theorem De {ops:Array Oper} {o:Oper} {a:Act} {w:World} {K:Act->World->Prop} {Q:Exit->Act->World->Prop} {E:Prop} (hgd:o.guard=none) (x:Operand)
  (ho:o.op=.call { callee:=.invoke x "Pos",args:= #[],argTypes:= #[] }) {ty N:Nat} {q:Addr} (hx:a.eval x=.iface ty (.pointer (some q)))
  (hm: ∀ w,(method 447 ty (.pointer (some q)) "Pos").run prog w=.ok (N,.pointer (some q)) w)
  (hcall: ∀ (args:Array Value) (w:World),(callFunc N args).run prog w=.ok (.enter N args) w)
  (h:Calls prog N #[.pointer (some q)] w fun e w'=> ∃ v,e=.returned v/\K (a.put o.dst v) w'):
  if Region.wanted o (yielded ops a.tmps)=true then Oper.wp prog o a w K Q else E:=by
 have hw:Region.wanted o (yielded ops a.tmps)=true:=by simp[Region.wanted,hgd]
 rw[if_pos hw];have hcm:(callMethod (.iface ty (.pointer (some q))) "Pos" #[]).run prog w=.ok (.enter N #[.pointer (some q)]) w:=by
  have e:(callMethod (.iface ty (.pointer (some q))) "Pos" #[]).run prog w=((method 447 ty (.pointer (some q)) "Pos")>>=fun p=>callFunc p.1 (#[p.2]++ #[])).run prog w:=by kernel_rfl
  rw[e];simp[hm,hcall]
 unfold Oper.wp execOp;simp[ho,resolve,invoke,hx,Oper.upon,hcm];refine Calls.mono h ?_;rintro e w' ⟨v,rfl,hv⟩;exact hv
theorem zf (args:Array Value) (w:World):(callFunc 70 args).run prog w=.ok (.enter 70 args) w:=by kernel_rfl
theorem ze (args:Array Value) (w:World):(callFunc 71 args).run prog w=.ok (.enter 71 args) w:=by kernel_rfl
theorem sU (r:Option Addr) (w:World):(binOp .neq 101 (.pointer r) (.pointer none)).run prog w=.ok (.bool r.isSome) w:=by
 cases r<;>kernel_rfl
theorem sT:(prog.info? 45).map (fun i=>(i.zero,i.size,i.bytes))=some (some (.agg #[.slice none 0 0,.slice none 0 0,.int .i64 0,false,.int .i64 0,.int .i64 0,false]),7,88):=by kernel_rfl
def Fine (S:BS):Prop:= ∀ (i:Nat) k,S.Z6[i]? =some k->(∀ n∈k.nodes,PB n.pos)/\OB k.of/\k.nodes.length<=100000/\ ∀ s∈k.succs,s < S.Z6.length
theorem Ot {v:Value} {o:Option Int} (h:X4 (Hv w 0) v o) (ho:OB o):Calls prog 68 #[v] w fun e w'=>e=.returned (.int .i64 (Wq o))/\w=w':=by
 cases o with
 |none=>obtain rfl:=h;exact I9
 |some p=>
  have hp:=ho p rfl;exact Le h.pos hp.1 (by have:=hp.2;omega)
def lu (S:BS) (w2:World) (ix:Value) (wr:World):Prop:= ∃ (k:Nat) (gv:Value) (rows:List (List Value)),ix=.int .i64 k/\k<=S.Z6.length/\rows.length=k/\ZD wr w2.heap.size [gv] 39/\wr.ownsRow (w2.heap.size+1) 45 7 gv k rows.flatten/\
 (∀ (i:Nat) cs kb,rows[i]? =some cs->S.Z6[i]? =some kb->I7 wr (w2.heap.size+1) cs (kb.pc i))/\Below w2.heap.size w2 wr
def wj (wi:World) (k:Bk) (i:Nat) (ix:Value) (wr:World):Prop:= ∃ (j:Nat) (lv:Value),ix=.int .i64 j/\j<=k.nodes.length/\
 ZD wr wi.heap.size [lv,.slice none 0 0,.int .i64 i,k.live,.int .i64 k.kind,.int .i64 (Wq k.of),k.ends] 45/\wr.ownsRow (wi.heap.size+1) 3 1 lv j ((k.nodes.take j).map fun n=>.int .i64 (YS n.pos))/\Below wi.heap.size wi wr
def vZ (wi:World) (k:Bk) (i:Nat) (lv:Value) (ix:Value) (wr:World):Prop:= ∃ (j:Nat) (sv:Value),ix=.int .i64 j/\j<=k.succs.length/\
 ZD wr wi.heap.size [lv,sv,.int .i64 i,k.live,.int .i64 k.kind,.int .i64 (Wq k.of),k.ends] 45/\wr.ownsRow (wi.heap.size+1) 3 1 sv j ((k.succs.take j).map fun s:Nat=>.int .i64 (s:Int))/\
 wr.ownsRow (wi.heap.size+1) 3 1 lv k.nodes.length (k.nodes.map fun n=>.int .i64 (YS n.pos))/\(∀ g g',lv.ownBlock=some g->sv.ownBlock=some g'->g≠g')/\Below wi.heap.size wi wr
theorem KZ {α β:Type} {l:List α} {j:Nat} {x:α} (f:α->β) (h:l[j]? =some x):(l.take j).map f++ [f x]=(l.take (j+1)).map f:=by
 rw[List.take_add_one,h];simp
theorem ZR {w:World} {base e n:Nat} {v:Value} {size:Nat} {xs:List Value} (h:w.ownsRow base e size v n xs): ∃ a c,v=.slice a n c:=by
 rcases h.2 with⟨rfl,h0⟩ |⟨g,cap,cur,rfl,_⟩
 .subst h0;exact⟨_,_,rfl⟩
 .exact⟨_,_,rfl⟩
theorem zd {wi:World} {k:Bk} {i j:Nat} {lv:Value} {wr w3:World} {n:Vt} (hxb:ZD wr wi.heap.size [lv,.slice none 0 0,.int .i64 i,k.live,.int .i64 k.kind,.int .i64 (Wq k.of),k.ends] 45)
  (hlo:wr.ownsRow (wi.heap.size+1) 3 1 lv j ((k.nodes.take j).map fun n=>.int .i64 (YS n.pos))) (hb:Below wi.heap.size wi wr) (hn:k.nodes[j]? =some n) {g cap:Nat}
  (h1:w3.ownsRow (wi.heap.size+1) 3 1 (.slice (some ⟨g,0,none⟩) (j+1) cap) (j+1) (((k.nodes.take j).map fun n=>Value.int .i64 (YS n.pos))++ [.int .i64 (YS n.pos)])) (hg:wr.grownBy w3 lv.ownBlock):
  wj wi k i (.int .i64 ((j:Int)+1)) (w3.setCell ⟨wi.heap.size,0,none⟩ (.slice (some ⟨g,0,none⟩) (j+1) cap)):=by
 have Vu:=hxb.grown hg (own_ne hlo hxb.ty (by decide));have hlt:=hxb.lt;have hgx:Zq w3 g 3:=Zg h1 rfl;refine⟨j+1,.slice (some ⟨g,0,none⟩) (j+1) cap,by simp,by have:=ZH hn;omega,Vu.set 0 _,?_,(hb.grown hg (by omega) (fun x hx=>by have:=(hlo.lt x hx).1;omega)).setCell (Z7 _) _⟩;rw[<-KZ (fun n:Vt=>Value.int .i64 (YS n.pos)) hn];refine Y3 h1 _ _ ?_;simp only[Value.ownBlock];intro e;exact Zq.ne Vu.ty hgx (by decide) (by simpa using e)
theorem zc {wi:World} {k:Bk} {i j:Nat} {lv sv:Value} {wr w3:World} {s:Nat} (hxb:ZD wr wi.heap.size [lv,sv,.int .i64 i,k.live,.int .i64 k.kind,.int .i64 (Wq k.of),k.ends] 45)
  (hso:wr.ownsRow (wi.heap.size+1) 3 1 sv j ((k.succs.take j).map fun s:Nat=>.int .i64 (s:Int))) (hlo:wr.ownsRow (wi.heap.size+1) 3 1 lv k.nodes.length (k.nodes.map fun n=>.int .i64 (YS n.pos))) (hap: ∀ g g',lv.ownBlock=some g->sv.ownBlock=some g'->g≠g')
  (hb:Below wi.heap.size wi wr) (hn:k.succs[j]? =some s) {g cap:Nat}
  (h1:w3.ownsRow (wi.heap.size+1) 3 1 (.slice (some ⟨g,0,none⟩) (j+1) cap) (j+1) (((k.succs.take j).map fun s:Nat=>Value.int .i64 (s:Int))++ [.int .i64 (s:Int)])) (hg:wr.grownBy w3 sv.ownBlock) (hat:sv.ownBlock=some g\/(sv.ownBlock≠some g/\wr.heap.size<=g)):
  vZ wi k i lv (.int .i64 ((j:Int)+1)) (w3.setCell ⟨wi.heap.size,1,none⟩ (.slice (some ⟨g,0,none⟩) (j+1) cap)):=by
 have Vu:=hxb.grown hg (own_ne hso hxb.ty (by decide));have hlt:=hxb.lt;have hgx:Zq w3 g 3:=Zg h1 rfl;have hlo3:w3.ownsRow (wi.heap.size+1) 3 1 lv k.nodes.length (k.nodes.map fun n=>.int .i64 (YS n.pos)):=by
  refine hlo.kept hg ?_;cases hl:lv.ownBlock with
  |none=>exact .inl rfl
  |some gl=>
   right;intro e;exact hap gl gl hl e.symm rfl
 refine⟨j+1,.slice (some ⟨g,0,none⟩) (j+1) cap,by simp,by have:=ZH hn;omega,Vu.set 1 _,?_,?_,?_,(hb.grown hg (by omega) (fun x hx=>by have:=(hso.lt x hx).1;omega)).setCell (Z7 _) _⟩
 .rw[<-KZ (fun s:Nat=>Value.int .i64 (s:Int)) hn];refine Y3 h1 _ _ ?_;simp only[Value.ownBlock];intro e;exact Zq.ne Vu.ty hgx (by decide) (by simpa using e)
 .refine Y3 hlo3 _ _ ?_;intro e;exact own_ne hlo3 Vu.ty (by decide) e
 .intro g1 g2 e1 e2;simp only[Value.ownBlock,Option.some.injEq]at e2;subst e2;rcases hat with h2|⟨_,h2⟩
  .exact hap g1 g e1 h2
  .have:=(hlo.lt g1 e1).2;omega
theorem I7.frame {w w':World} {base:Nat} {cs:List Value} {p:Pc} (h:I7 w base cs p) (hf: ∀ v n xs,w.ownsRow base 3 1 v n xs->w'.ownsRow base 3 1 v n xs):I7 w' base cs p:=by
 obtain⟨lv,sv,h1,h2,h3⟩:=h;exact⟨lv,sv,h1,hf _ _ _ h2,hf _ _ _ h3⟩
theorem za {S:BS} {w2 wo wr w6:World} {k:Nat} {gv:Value} {rows:List (List Value)} {kk:Bk} {lv sv:Value} (hk:S.Z6[k]? =some kk) (hrl:rows.length=k) (hg:ZD wo w2.heap.size [gv] 39) (hgo:wo.ownsRow (w2.heap.size+1) 45 7 gv k rows.flatten)
  (hpc: ∀ (i:Nat) cs kb,rows[i]? =some cs->S.Z6[i]? =some kb->I7 wo (w2.heap.size+1) cs (kb.pc i)) (hbw:Below w2.heap.size w2 wo) (hbx:Below wo.heap.size wo wr)
  (hlo:wr.ownsRow (wo.heap.size+1) 3 1 lv kk.nodes.length (kk.nodes.map fun n=>.int .i64 (YS n.pos))) (hso:wr.ownsRow (wo.heap.size+1) 3 1 sv kk.succs.length (kk.succs.map fun s:Nat=>.int .i64 (s:Int))) {g cap:Nat}
  (h6:w6.ownsRow (w2.heap.size+1) 45 7 (.slice (some ⟨g,0,none⟩) (k+1) cap) (k+1) (rows.flatten++ [lv,sv,.int .i64 k,.bool kk.live,.int .i64 kk.kind,.int .i64 (Wq kk.of),.bool kk.ends])) (UT:wr.grownBy w6 gv.ownBlock):
  lu S w2 (.int .i64 ((k:Int)+1)) (w6.setCell ⟨w2.heap.size,0,none⟩ (.slice (some ⟨g,0,none⟩) (k+1) cap)):=by
 have hlt:=hg.lt;have sz:=hbw.size;have hgr:ZD wr w2.heap.size [gv] 39:=Xu hg hbx hlt;have Ft:wr.ownsRow (w2.heap.size+1) 45 7 gv k rows.flatten:=own_below hgo hbx (fun g hg=>(hgo.lt g hg).2);have qh:=hgr.grown UT (own_ne Ft hgr.ty (by decide));have keep: ∀ base v n xs,wr.ownsRow base 3 1 v n xs->(w6.setCell ⟨w2.heap.size,0,none⟩ (.slice (some ⟨g,0,none⟩) (k+1) cap)).ownsRow base 3 1 v n xs:=by
  intro base v n xs h;have h1:w6.ownsRow base 3 1 v n xs:=by
   refine h.kept UT ?_;cases hv:v.ownBlock with
   |none=>exact .inl rfl
   |some x=>
    right;intro e;exact Zq.ne (Zg h hv) (Zg Ft e.symm) (by decide) rfl
  exact Y3 h1 _ _ (fun e=>own_ne h1 qh.ty (by decide) e)
 refine⟨k+1,.slice (some ⟨g,0,none⟩) (k+1) cap,rows++ [[lv,sv,.int .i64 k,.bool kk.live,.int .i64 kk.kind,.int .i64 (Wq kk.of),.bool kk.ends]],by simp,ZH hk,by simp[hrl],qh.set 0 _,?_,?_,?_⟩
 .refine Y3 (by simpa using h6) _ _ ?_;simp only[Value.ownBlock];intro e;exact Zq.ne qh.ty (Zg h6 rfl) (by decide) (by simpa using e)
 .intro i cs kb hi hb;rcases XX hi with h1|⟨rfl,rfl⟩
  .refine I7.frame ((hpc i cs kb h1 hb).frame (w':=wr) (fun v n xs h=>own_below h hbx (fun g hg=>(h.lt g hg).2))) (keep _)
  .rw[hrl,hk]at hb;cases hb;subst hrl;refine⟨lv,sv,rfl,?_,?_⟩
   .have h1:=keep _ _ _ _ (Yp hlo (show w2.heap.size+1<=wo.heap.size+1 by omega));simpa [Bk.pc,List.map_map,Function.comp_def]using h1
   .have h1:=keep _ _ _ _ (Yp hso (show w2.heap.size+1<=wo.heap.size+1 by omega));simpa [Bk.pc,List.map_map,Function.comp_def]using h1
 .exact Below.setCell (B:=w2.heap.size) (p:=⟨w2.heap.size,0,none⟩) ((hbw.trans (hbx.mono (by omega))).grown UT (by have:=hbx.size;omega) (fun x hx=>by have:=(Ft.lt x hx).1;omega)) (Z7 _) _
theorem Fs {t:T} {S S3:BS} {c:Nat} (hb:Built t S S3 c) {v:Value} (hv:Body w t v) (hf:Fine S3) (hlen:S3.Z6.length<=100000) (lq:0 < S3.Z6.length) (hkd: ∀ (i:Nat) k,S3.Z6[i]? =some k->0<=k.kind/\k.kind<=19):
  Calls prog 38 #[v] w fun e w'=> ∃ gv,e=.returned (.agg #[gv])/\Mn w' w.heap.size gv (S3.Z6.mapIdx Bk.pc)/\Below w.heap.size w w':=by
 have hB0:Below w.heap.size w (w.alloc (.cells [.slice .none 0 0].toArray 39)):=(ZN _ _).alloc (Z7 _) _;have hB1:Below w.heap.size w ((w.alloc (.cells [.slice .none 0 0].toArray 39)).alloc (.cells [.int .i64 0,.int .i64 0,.slice .none 0 0,.slice .none 0 0,.slice .none 0 0].toArray 83)):=hB0.alloc (by simp) _;have hsz:(w.alloc (.cells [.slice .none 0 0].toArray 39)).heap.size=w.heap.size+1:=by simp
 have hm:=Sh (w:=w.alloc (.cells [.slice .none 0 0].toArray 39));rw[hsz]at hm;obtain⟨bb,o,hs,hat⟩:=hv.data;have hat:=hat.mono (C':=YB ((w.alloc (.cells [.slice .none 0 0].toArray 39)).alloc (.cells [.int .i64 0,.int .i64 0,.slice .none 0 0,.slice .none 0 0,.slice .none 0 0].toArray 83)) (w.heap.size+1)) (fun b o v h=>let⟨h1,h2⟩:=YB.below hB1 b o v h;⟨by omega,h2⟩);obtain⟨⟨va,vn,vc,rfl⟩,_⟩:=Za hs;have HS:=Xp hs hat hv.small hb;have hok:=hv.ok;have hr0:ZD (w.alloc (.cells [.slice .none 0 0].toArray 39)) w.heap.size [.slice .none 0 0] 39:=ZD.new w _ _;clear hs hat hb hv hsz;go_enter func38,ntmps38;go_wp2_with fail
 refine(U5 t hm HS.out.2.2.1 hok HS.out.1 HS.out.2.1).mono ?_;rintro e w1 ⟨a,vs,rfl,hbl,YD,hM1,f1⟩;go_wp2_with fail
 refine(QN HS.out.2.2.2 hM1 hok hbl YD).mono ?_;rintro e w2 ⟨ga,bb2,bv,A,L,mk,cv,mv,tv,rfl,hga,hb2,hX,f2⟩;have F2:Below w.heap.size w w2:=hB1.trans ((f1.below.mono (by omega)).trans (f2.below.mono (by omega)));have hr2:ZD w2 w.heap.size [.slice .none 0 0] 39:=by
  have h1:=(hr0.alloc (.cells [.int .i64 0,.int .i64 0,.slice .none 0 0,.slice .none 0 0,.slice .none 0 0].toArray 83))
  exact(h1.fr f1 (by decide)).fr f2 (by decide)
 have hlA:=hX.len;obtain⟨AB,AA,mv',oS,hb2',_,hown⟩:=hX.list;obtain⟨hbe,_⟩:=hb2.inj hb2';obtain rfl:bv=AB:=by simp at hbe;exact hbe.1
 have hpos:0 < A.length:=by rw[hlA];exact lq
 obtain⟨gb,Jb,rfl⟩: ∃ g cap,bv=.slice (some ⟨g,0,none⟩) A.length cap:=by
  rcases hown.2 with⟨_,h0⟩ |⟨g,cap,cur,hv,_⟩
  .omega
  .exact⟨g,cap,hv⟩
 have Z6u:=hga.cell 0 rfl;have lm:=hga.lt;have HL:=Zl hlA hlen;have hAl:A.length<=100000:=by omega
 clear hlA hlen hbe;go_wp2_with fail
 have hg5:ZD (w2.alloc (.cells [.slice none 0 0].toArray 39)) w2.heap.size [.slice none 0 0] 39:=ZD.new w2 _ _;have vY:Below w2.heap.size w2 (w2.alloc (.cells [.slice none 0 0].toArray 39)):=(ZN _ _).alloc (Z7 _) _
 go_loopw [26] (fun ix wr=>lu S3 w2 ix wr) (fun ix _=>A.length -(intOf ix).toNat)
 case atStart=>exact⟨0,_,[],rfl,Nat.zero_le _,rfl,hg5,Zs _ _ _ _,fun i cs kb h=>by simp at h,vY⟩
 case round=>
  obtain⟨k,gv,rows,rfl,hk,hrl,hg,hgo,hpc,hbw⟩:=hrel;by_cases hkl:k < A.length
  .have sS:=hX.below hbw;have hak:=Z9 hkl;generalize A[k]=ak at hak;have hkb:k < S3.Z6.length:=by have:=HL.out.1;omega
   have hkk:=Z9 hkb;generalize S3.Z6[k]=kk at hkk;have hck:wr.cell? ⟨gb,k,none⟩=some (.pointer (some ⟨ak,0,none⟩)):=by
    have h1:w2.cell? ⟨gb,k,none⟩=some (.pointer (some ⟨ak,0,none⟩)):=by
     rw[ZF hown k (by omega)];simp[hak]
    rw[hbw.cell (p:=⟨gb,k,none⟩) (hown.lt gb rfl).2];exact h1
   have hXd:BX wr.drew _ _ _ A L S3 [] _:=sS.below (ZN _ _).drew;obtain⟨nv,ns,sv,p0,p1,hbk,GJ,hnl,hnd,hst⟩:=sS.nodes hkk hak;obtain⟨fn,fo,fl,fs⟩:=hf k kk hkk;have yZ:=hbk.lt;have Z6t:ak≠wr.heap.size:=by omega
   have d2:=hbk.cell 2 rfl;have d3:=hbk.cell 3 rfl;have d5:=hbk.cell 5 rfl;have d6:=hbk.cell 6 rfl;have hwk:=IntWalk.i64_in (k:Int) (by omega);have Z6s:0<=kk.kind/\kk.kind<=19:=hkd k kk hkk;have hwd:=IntWalk.i64_in kk.kind (by omega);obtain⟨ig,svo⟩:=hst.one;unfold Value.cells at ig;have HR:=Qd hrl hpc hgo hnd hkk hak;clear hrl hpc hgo hnd hkk hak;go_upto_region 7 with fail
   go_cut [8] (fun p8 wx=>p8=.pointer (some ⟨wr.heap.size,0,none⟩)/\ZD wx wr.heap.size [.slice none 0 0,.slice none 0 0,.int .i64 k,kk.live,.int .i64 kk.kind,.int .i64 (Wq kk.of),kk.ends] 45/\Below wr.heap.size wr wx)
   case first=>
    go_region_held3 (fun w'=>w'.cell? ⟨ak,2,none⟩=some (.int .i32 k)/\w'.cell? ⟨ak,3,none⟩=some (.bool kk.live)/\w'.cell? ⟨ak,5,none⟩=some (.int .u8 kk.kind)/\w'.cell? ⟨ak,6,none⟩=some sv)
     (first|go_keep)
     (first
      |(go_at_call 68;refine(Ot (w:=wr.drew) hst fo).mono ?_;rintro e w4 ⟨rfl,rfl⟩)
      |(go_at_call 68;refine(Ot (hst.mono (Hv.fr (Fr.of_below (T:= []) (B:=0) (w:=wr) ?hb (Nat.zero_le _)) (by simp) (Z7 _))) fo).mono ?_;(case hb=>(first|exact((ZN _ _).alloc (Z7 _) _).drew));rintro e w4 ⟨rfl,rfl⟩)
      |(go_at_call 69;refine(NA (sS.below ?hb) HR.out.2.2.2.2.1 HR.out.2.2.2.2.2 (by omega)).mono ?_;(case hb=>(first|exact(ZN _ _).drew|exact((ZN _ _).alloc (Z7 _) _).drew));rintro e w4 ⟨⟨r,rfl,hre⟩,n,rfl⟩;have hnq: ∀ w,_:=sU r;rw[hre]at hnq))
    all_goals
     go_wp2_with fail
     go_meet;exact⟨rfl,ZD.new wr _ _,((ZN _ _).alloc (Z7 _) _).trans ⟨rfl,rfl,rfl,Z7 _,fun _ _=>rfl⟩⟩
   case rest=>
    obtain⟨rfl,hxb,hbx⟩:=hcut;obtain⟨wo,hwo⟩: ∃ wo:World,wo=wr:=⟨_,rfl⟩
    subst hwo;have hbk1:=Xu hbk hbx yZ;obtain⟨na,nc,rfl⟩:=ZR GJ;have q0:=hbk1.cell 0 rfl;have HY:=Z5 hnl;have Z6r:ns.length<=100000:=by omega
    clear hnl;go_wp2_with fail
    go_loopw [58] (fun ix wx=>wj wo kk k ix wx) (fun ix _=>ns.length -(intOf ix).toNat)
    case atStart=>exact⟨0,_,rfl,Nat.zero_le _,hxb,Zs _ _ _ _,hbx⟩
    case round=>
     obtain⟨j,lv,rfl,hj,hxb,hlo,hbx⟩:=hrel;by_cases hjl:j < ns.length
     .have Bp:=Z9 hjl;generalize ns[j]=nv at Bp;have hjk:j < kk.nodes.length:=by have:=HY.out;omega
      have hnk:=Z9 hjk;generalize hnn:kk.nodes[j]=nn at hnk;have hpb:=fn nn (ZY hnk);obtain⟨ty,q,N,rfl,hm,hcf,Mr⟩:=(HR.out.2.2.2.1 j nv nn Bp hnk).pos;have Mr:=Mr wr.drew (fun b cs t h=>Hv.fr (Fr.of_below (T:= []) (B:=0) (w:=wo) hbx.drew (Nat.zero_le _)) (by simp) (Z7 _) b cs t h);obtain⟨gn,hna,hgn⟩: ∃ gn,na=some ⟨gn,0,none⟩/\gn < wo.heap.size:=by
       rcases GJ.2 with⟨_,h0⟩ |⟨g,cap,cur,hv,_⟩
       .omega
       .have hv':na=some ⟨g,0,none⟩:=by simpa using(Value.slice.inj hv).1
        subst hv';exact⟨g,rfl,(GJ.lt g rfl).2⟩
      subst hna;have hcn:wr.cell? ⟨gn,j,none⟩=some (.iface ty (.pointer (some ⟨q,0,none⟩))):=by
       rw[hbx.cell (p:=⟨gn,j,none⟩) hgn,ZF GJ j (by omega)];exact Bp
      have y0:=hxb.cell 0 rfl;have hjn:j<=100000:=by omega
      have HZ:=Zl hnk Mr;clear hnk Mr hnn Bp;have sx:=hxb.lt;have sb:=hbx.size;obtain⟨bV,Z6q⟩:=hpb;go_wp2_with fail
      go_region_law (first
       |(refine De rfl (.tmp 64) (by rfl) (by rfl) hm hcf (HZ.out.2.mono ?_);rintro e wx ⟨rfl,rfl⟩;refine⟨_,rfl,?_⟩)
       |(refine Yy rfl 70 _ _ (by rfl) [.int .i64 nn.pos] (by rfl) zf ((Ja nn.pos bV (by omega)).mono ?_);rintro e wx ⟨rfl,rfl⟩;refine⟨_,rfl,?_⟩)
       |(refine XQ wr _ rfl _ _ 31 rfl (wo.heap.size+1) 3 (.int .i64 0) 1 8 underlying31 info3 rfl (by decide) (by decide) hlo (by rfl) [.int .i64 (YS nn.pos)] rfl (by simp[Value.oneCell']) (by rfl) (by omega) (by omega) (by first|exact .inl rfl|exact .inr rfl) ?_;intro g cap w3 hown4 hg4 LD hlt4;have Vu:=hxb.grown hg4 (own_ne hlo hxb.ty (by decide));have c0:=Vu.cell 0 rfl;have cf:=Vu.free 0))
      all_goals
       have hS:=zd hxb hlo hbx HZ.out.1 hown4 hg4;go_wp2_with fail
       exact⟨hS,by simp[intOf];omega⟩
     .have hjn:j=kk.nodes.length:=by have:=HY.out;omega
      subst hjn;have hlo:wr.ownsRow (wo.heap.size+1) 3 1 lv kk.nodes.length (kk.nodes.map fun n=>.int .i64 (YS n.pos)):=by simpa using hlo
      obtain⟨VO,sv2,p02,p12,hbk2,hs2,hsu⟩:=sS.at HR.out.2.2.2.2.1 HR.out.2.2.2.2.2;have bU:=Xu hbk2 hbx yZ;have r1:=bU.cell 1 rfl;have sR: ∀ (j s:Nat),kk.succs[j]? =some s-> ∃ q,A[s]? =some q/\wr.cell? ⟨ak,7+j,none⟩=some (.pointer (some ⟨q,0,none⟩)):=fun j s hs=>let⟨q,h1,h2⟩:=hsu j s hs;⟨q,h1,(hbx.cell (p:=⟨ak,7+j,none⟩) yZ).trans h2⟩;have sQ:ZD wr ga _ _:=Xu (Xu hga hbw lm) hbx (by have:=hbw.size;omega);have Z7Y:=sQ.lt;have hXw:=sS.below hbx;obtain⟨w5,hw5⟩: ∃ w5:World,w5=wr:=⟨_,rfl⟩
      subst hw5;obtain⟨la,lc,rfl⟩:=ZR hlo;clear hbk2 hsu;go_wp2_with fail
      go_loopw [76] (fun ix wx=>vZ wo kk k (.slice la kk.nodes.length lc) ix wx) (fun ix _=>kk.succs.length -(intOf ix).toNat)
      case atStart=>exact⟨0,_,rfl,Nat.zero_le _,hxb,Zs _ _ _ _,hlo,by simp[Value.ownBlock],hbx⟩
      case round=>
       obtain⟨j,sv3,rfl,hj,hxb,hso,hlo,hap,hbx⟩:=hrel;have sQ:ZD wr ga _ _:=Xu (Xu hga hbw lm) hbx (by have:=hbw.size;omega);have ga0:=sQ.cell 0 rfl;have sb:=hbx.size;by_cases hjl:j < kk.succs.length
       .have Bp:=Z9 hjl;generalize kk.succs[j]=sn at Bp;obtain⟨q,hq1,hq2⟩:=sR j sn Bp;have hcs:wr.cell? ⟨ak,7+j,none⟩=some (.pointer (some ⟨q,0,none⟩)):=by
         have h1:wo.cell? ⟨ak,7+j,none⟩=some (.pointer (some ⟨q,0,none⟩)):=by
          obtain⟨_,_,_,_,_,_,bS⟩:=sS.at HR.out.2.2.2.2.1 HR.out.2.2.2.2.2;obtain⟨q',g1,g2⟩:=bS j sn Bp;rw[hq1]at g1;cases g1;exact g2
         exact(hbx.cell (p:=⟨ak,7+j,none⟩) yZ).trans h1
        have bR:BX wr.drew _ _ _ A L S3 [] _:=sS.below hbx.drew
        have hownd:wr.drew.ownsRow (w.heap.size+1) 92 1 (.slice (some ⟨gb,0,none⟩) A.length Jb) A.length (A.map fun a=>.pointer (some ⟨a,0,none⟩)):=
         own_below (own_below hown hbw (fun g hg=>by simp[Value.ownBlock]at hg;subst hg;exact(hown.lt gb rfl).2)) hbx.drew (fun g hg=>by simp[Value.ownBlock]at hg;subst hg;have:=(hown.lt gb rfl).2;have:=hbw.size;omega)
        have y0:=hxb.cell 1 rfl;have sx:=hxb.lt;have HZ:=Xp Bp hq1 hap hlo;clear Bp hq1 hap hlo sR;go_wp2_with fail
        go_region_law (first
         |(refine Yy rfl 71 _ _ (by rfl) [.slice (some ⟨gb,0,none⟩) A.length Jb,.pointer (some ⟨q,0,none⟩)] (by rfl) ze ((Ld bR (by omega) hownd HZ.out.2.1).mono ?_);rintro e wx ⟨rfl,rfl⟩;refine⟨_,rfl,?_⟩)
         |(refine XQ wr _ rfl _ _ 31 rfl (wo.heap.size+1) 3 (.int .i64 0) 1 8 underlying31 info3 rfl (by decide) (by decide) hso (by rfl) [.int .i64 sn] rfl (by simp[Value.oneCell']) (by rfl) (by omega) (by omega) (by first|exact .inl rfl|exact .inr rfl) ?_;intro g cap w3 hown4 hg4 LD hlt4;have Vu:=hxb.grown hg4 (own_ne hso hxb.ty (by decide));have c0:=Vu.cell 1 rfl;have cf:=Vu.free 1))
        all_goals
         have hS:=zc hxb hso HZ.out.2.2.2 HZ.out.2.2.1 hbx HZ.out.1 hown4 hg4 (LD.imp id (fun h=>⟨h.1,by omega⟩));go_wp2_with fail
         exact⟨hS,by simp[intOf];omega⟩
       .have hjn:j=kk.succs.length:=by omega
        subst hjn;have hso:wr.ownsRow (wo.heap.size+1) 3 1 sv3 kk.succs.length (kk.succs.map fun s:Nat=>.int .i64 (s:Int)):=by simpa using hso
        obtain⟨sa,sc,rfl⟩:=ZR hso;obtain⟨gT,gS,rfl⟩:=ZR HR.out.2.2.1;have hgr:ZD wr w2.heap.size _ _:=Xu hg hbx hg.lt;have Ft:wr.ownsRow (w2.heap.size+1) 45 7 _ k rows.flatten:=own_below HR.out.2.2.1 hbx (fun g hg=>(HR.out.2.2.1.lt g hg).2);have g0:=hgr.cell 0 rfl;have x0:=hxb.cell 0 rfl;have x1:=hxb.cell 1 rfl;have x2:=hxb.cell 2 rfl;have x3:=hxb.cell 3 rfl;have x4:=hxb.cell 4 rfl;have x5:=hxb.cell 5 rfl;have x6:=hxb.cell 6 rfl;have sw:=hbw.size;have hgl:=hg.lt;have hk1:k<=100000:=by omega
        have HZ:=X7 hap hlo hso;clear hap hlo hso sR;go_wp2_with (at_builtin;go_loud (refine Ze wr rfl _ _ 37 rfl (w2.heap.size+1) 45 (.agg #[.slice none 0 0,.slice none 0 0,.int .i64 0,false,.int .i64 0,.int .i64 0,false]) 7 88 underlying37 sT rfl (by decide) (by decide) Ft (by rfl) [.slice la kk.nodes.length lc,.slice sa kk.succs.length sc,.int .i64 k,kk.live,.int .i64 kk.kind,.int .i64 (Wq kk.of),kk.ends] rfl ?c1 (by rfl) (by omega) (by omega) ?_))
        case c1=>simp[Value.oneCell']
        intro g cap w6 hown6 UT VW Mm;have qh:=hgr.grown UT (own_ne Ft hgr.ty (by decide));have u0:=qh.cell 0 rfl;have u0f:=qh.free 0;have hS:=za HR.out.2.2.2.2.1 HR.out.1 hg HR.out.2.2.1 HR.out.2.1 hbw hbx HZ.out.2.1 HZ.out.2.2 hown6 UT;go_wp2_with fail
        exact⟨hS,by simp[intOf];omega⟩
  .have hkn:k=S3.Z6.length:=by have:=HL.out.1;omega
   have HKN:=Z5 hkn;obtain⟨gT,gS,rfl⟩:=ZR hgo;have g0:=hg.cell 0 rfl;have hb0:Below w.heap.size w wr:=F2.trans (hbw.mono F2.size);have hrw:ZD wr w.heap.size [.slice none 0 0] 39:=Xu hr2 hbw hr2.lt;have v0:=hrw.cell 0 rfl;have v0f:=hrw.free 0;have sw:=hbw.size;have HR:=X7 hrl hpc hgo;clear hrl hpc hgo hkn;go_wp2_with fail
   have hrw2:=hrw.set 0 (.slice gT k gS)
   ((try simp only[Exit.inBlock,Exit.then]);refine bodyPost_ret (results_cell_row (P:=prog) rfl _ _ w.heap.size 39 #[.slice gT k gS] (0,0) _ rfl hrw2 underlying39 rfl (by kernel_rfl)) rfl ?_)
   refine⟨_,rfl,⟨rows,by simp[HR.out.1,HKN.out],?_,?_⟩,hb0.setCell (Z7 _) _⟩
   .have h1:=Y3 HR.out.2.2 ⟨w.heap.size,0,none⟩ (.slice gT k gS) (fun e=>own_ne HR.out.2.2 hrw.ty (by decide) e);rw[show(S3.Z6.mapIdx Bk.pc).length=k by simp[HKN.out]];exact Yp h1 (by have:=F2.size;omega)
   .intro i cs p hi hp;rw[List.getElem?_mapIdx,ZX]at hp;obtain⟨kb,h1,rfl⟩:=hp;obtain⟨lv,sv,e1,e2,e3⟩:=HR.out.2.1 i cs kb hi h1;have hm:w.heap.size<=w2.heap.size+1:=by have:=F2.size;omega
    exact⟨lv,sv,e1,Yp (Y3 e2 _ _ (fun e=>own_ne e2 hrw.ty (by decide) e)) hm,Yp (Y3 e3 _ _ (fun e=>own_ne e3 hrw.ty (by decide) e)) hm⟩
end
section
structure Rt (t:T):Prop where
 Xv:t.Xv true
 ok:t.ok
 VN:t.VN t.labels [] false
 nodup:t.labels.Nodup
 lab: ∀ s∈t.labels,0 < s.size
 wt:t.wt<=1000
 lv:t.lv false<=30000
 it:t.it<=30000
def BS.start:BS:=(BS.none.new 2 (some 3)).at 0
theorem QJ {i:Nat} {k:Bk} (h:BS.start.Z6[i]? =some k):i=0/\k=⟨2,some 3,[],[],false,false⟩:=by
 have h':([⟨2,some 3,[],[],false,false⟩]:List Bk)[i]? =some k:=h;cases i with
 |zero=>simp at h';exact⟨rfl,h'.symm⟩
 |succ i=>simp at h'
theorem KY (ls:List ByteArray):Rs ls [] [] [] [] 1 BS.start:=by
 refine⟨⟨List.nodup_nil,fun c hc=>?_,fun p hp=>by simp at hp,fun j y hj=>by simp[BS.start,BS.none,BS.new,BS.at]at hj,fun j j' y y' hj=>by simp[BS.start,BS.none,BS.new,BS.at]at hj,fun j j' y y' hj=>by simp[BS.start,BS.none,BS.new,BS.at]at hj,fun i k hk=>?_⟩,⟨fun i k hk=>?_,by simp[BS.start,BS.none,BS.new,BS.at],fun i k hk=>?_,by simp[BS.start,BS.none,BS.new,BS.at],⟨_,rfl,rfl,rfl⟩⟩,fun s=>⟨?_,fun h=>by simp at h⟩,⟨fun f hf=>by simp at hf,fun f hf=>by simp at hf,fun f hf=>by simp at hf,fun f hf=>by simp at hf,fun f hf=>by simp at hf⟩,fun d hd=>by simp at hd⟩
 .have:c=0:=by
   have h:(some 0:Option Nat)=some c:=hc;exact(Y0 h).symm
  subst this;exact⟨by simp,_,rfl,rfl⟩
 .obtain⟨rfl,rfl⟩:=QJ hk;exact⟨rfl,by show(1:Int)<=2;decide,by show(2:Int)<=19;decide,by simp,by simp⟩
 .obtain⟨rfl,rfl⟩:=QJ hk;refine⟨by simp,fun p hp=>?_⟩;cases hp;unfold PB;omega
 .obtain⟨rfl,rfl⟩:=QJ hk;simp
 .rintro⟨j,y,k,h1,_⟩;simp[BS.start,BS.none,BS.new,BS.at]at h1
structure Fin (t:T) (S S3:BS) (c:Nat):Prop where
 built:Built t S S3 c
 rs:Rs t.labels t.labels [] [] [] (1+16*t.wt) S
 cur:S.cur=some c
 first: ∃ k,S.Z6[0]? =some k/\k.kind=2/\k.of=some 3
 get: ∀ (i:Nat) k,S.Z6[i]? =some k->S3.Z6[i]? =some (if i=c/\YU S.Z6 c=true then { k with live:=true,Yz:=true,nodes:=k.nodes++ [⟨2,true⟩] } else { k with live:=YU S.Z6 i })
 len:S3.Z6.length=S.Z6.length
 asked:S3.asked=S.asked
theorem yY {t:T} (h:Rt t): ∃ S S3 c,Fin t S S3 c:=by
 have hall:=T.Wg (Q:=K6 t.labels) (fun t=>K1 t) t;obtain⟨S,e1,H,c,hc⟩:=hall h.Xv [] [] [] [] 1 BS.start 0 0 false (KY _) ⟨0,rfl⟩ h.ok h.VN (by simp) ⟨fun s hs=>⟨hs,by simp⟩,h.nodup⟩ (by have:=h.wt;omega) (by have:=h.lv;omega) (by have:=h.it;omega);have H':Rs t.labels t.labels [] [] [] (1+16*t.wt) S:=H.perm (by intro s;simp);have hw:=h.wt;have hlen:S.Z6.length<=20000:=by have:=H.bd.len;omega
 obtain⟨k0,hk0,bQ,bP⟩:=H.bd.fst;have hpos:0 < S.Z6.length:=ZH hk0;obtain⟨hcP,kc,hkc,hks⟩:=H.w.cur c hc;have hcl:=ZH hkc;have Z6o:=H.bd.Ru c kc hkc;have hlive: ∀ k∈S.Z6,k.live=false:=fun k hk=>by
  obtain⟨i,hi⟩:=List.getElem?_of_mem hk;exact(H.w.blk i k hi).1
 have hrange: ∀ (i:Nat) (k:Bk),S.Z6[i]? =some k-> ∀ s∈k.succs,s < S.Z6.length:=fun i k hk s hs=>by
  obtain⟨q,h1,_⟩:=(H.w.blk i k hk).2.2.2.2 s hs;exact ZH h1
 have hkl:=WI (f:=YU S.Z6) hkc;have hcl':(S.lived (YU S.Z6)).cur=some c:=hc;have key: ∃ S3,S.Dx (YU S.Z6) c=some S3/\(∀ (i:Nat) k,S.Z6[i]? =some k->S3.Z6[i]? =some (if i=c/\YU S.Z6 c=true then { k with live:=true,Yz:=true,nodes:=k.nodes++ [⟨2,true⟩] } else { k with live:=YU S.Z6 i }))/\S3.Z6.length=S.Z6.length/\S3.asked=S.asked:=by
  unfold BS.Dx;cases hf:YU S.Z6 c with
  |false=>
   refine⟨S.lived (YU S.Z6),by simp,fun i k hk=>?_,Vl,rfl⟩;rw[if_neg (by simp)];exact WI hk
  |true=>
   have e2:(S.lived (YU S.Z6)).UG=some ((S.lived (YU S.Z6)).set c { kc with live:=YU S.Z6 c,Yz:=true }):=by
    unfold BS.UG;rw[Xz hcl' hkl];rfl
   have hk2:((S.lived (YU S.Z6)).set c { kc with live:=YU S.Z6 c,Yz:=true }).Z6[c]? =some { kc with live:=YU S.Z6 c,Yz:=true } :=by
    rw[YN (by rw[Vl];exact hcl),if_pos rfl]
   have e3:((S.lived (YU S.Z6)).set c { kc with live:=YU S.Z6 c,Yz:=true }).Yk ⟨2,true⟩=some (((S.lived (YU S.Z6)).set c { kc with live:=YU S.Z6 c,Yz:=true }).set c { kc with live:=YU S.Z6 c,Yz:=true,nodes:=kc.nodes++ [⟨2,true⟩] }):=by
    unfold BS.Yk;rw[Xz (show((S.lived (YU S.Z6)).set c { kc with live:=YU S.Z6 c,Yz:=true }).cur=some c from hc) hk2,if_pos (by show kc.nodes.length<=100000;omega)];rfl
   refine⟨((S.lived (YU S.Z6)).set c { kc with live:=YU S.Z6 c,Yz:=true }).set c { kc with live:=YU S.Z6 c,Yz:=true,nodes:=kc.nodes++ [⟨2,true⟩] },by simp[e2,e3],fun i k hk=>?_,by simp[BS.set,Vl],rfl⟩;have hl2:c < ((S.lived (YU S.Z6)).set c { kc with live:=YU S.Z6 c,Yz:=true }).Z6.length:=by simp only[BS.set,List.length_set];rw[Vl];exact hcl
   rw[YN hl2];by_cases e:i=c
   .subst e;rw[hkc]at hk;cases hk;rw[if_pos rfl,if_pos ⟨rfl,rfl⟩,hf]
   .rw[if_neg e,YN (by rw[Vl];exact hcl),if_neg e,if_neg (fun h=>e h.1)];exact WI hk
 obtain⟨S3,g1,g2,g3,g4⟩:=key;exact⟨S,S3,c,⟨e1,hc,hlive,hrange,by omega,hpos,g1⟩,H',hc,⟨k0,hk0,bQ,bP⟩,g2,g3,g4⟩
theorem Fin.bk {t:T} {S S3:BS} {c:Nat} (h:Fin t S S3 c) {i:Nat} {k3:Bk} (hk:S3.Z6[i]? =some k3): ∃ k,S.Z6[i]? =some k/\k3.kind=k.kind/\k3.of=k.of/\k3.succs=k.succs/\k3.live=YU S.Z6 i/\((k3.nodes=k.nodes/\k3.Yz=k.Yz)\/(i=c/\YU S.Z6 c=true/\k3.nodes=k.nodes++ [⟨2,true⟩]/\k3.Yz=true)):=by
 have hi:i < S.Z6.length:=by rw[<-h.len];exact ZH hk
 have hk0:=Z9 hi;generalize S.Z6[i]=k at hk0;have:=h.get i k hk0;rw[hk]at this;refine⟨k,hk0,?_⟩;split at this
 .next hc=>
  cases this;exact⟨rfl,rfl,rfl,by rw[hc.1];exact hc.2.symm,.inr ⟨hc.1,hc.2,rfl,rfl⟩⟩
 .cases this;exact⟨rfl,rfl,rfl,rfl,.inl ⟨rfl,rfl⟩⟩
theorem Fin.fine {t:T} {S S3:BS} {c:Nat} (h:Fin t S S3 c) (hw:t.wt<=1000):Fine S3/\S3.Z6.length<=100000/\0 < S3.Z6.length/\ ∀ (i:Nat) k,S3.Z6[i]? =some k->0<=k.kind/\k.kind<=19:=by
 have hl:=h.rs.bd.len;refine⟨fun i k3 hk=>?_,by rw[h.len];omega,by rw[h.len];exact h.built.pos,fun i k3 hk=>?_⟩
 .obtain⟨k,h1,h2,h3,h4,h5,h6⟩:=h.bk hk;obtain⟨p1,p2⟩:=h.rs.bd.pos i k h1;have p3:=h.rs.bd.Ru i k h1;refine⟨?_,by rw[h3];exact p2,?_,by rw[h4,h.len];exact h.built.range i k h1⟩
  .intro n hn;rcases h6 with⟨e1,_⟩ |⟨_,_,e1,_⟩
   .rw[e1]at hn;exact p1 n hn
   .rw[e1]at hn;rcases ZM.1 hn with hn|hn
    .exact p1 n hn
    .simp at hn;subst hn;unfold PB;simp
  .rcases h6 with⟨e1,_⟩ |⟨_,_,e1,_⟩
   .rw[e1];omega
   .rw[e1];simp;omega
 .obtain⟨k,h1,h2,_⟩:=h.bk hk;have:=h.rs.w.blk i k h1;rw[h2];omega
end
section
section
theorem Dd {S3:BS} {i:Nat} {p:Pc} (h:(S3.Z6.mapIdx Bk.pc)[i]? =some p): ∃ k,S3.Z6[i]? =some k/\p=k.pc i:=by
 rw[List.getElem?_mapIdx]at h;cases hk:S3.Z6[i]? with
 |none=>rw[hk]at h;simp at h
 |some k=>rw[hk]at h;exact⟨k,rfl,by simpa using h.symm⟩
section
variable {t:T} {S S3:BS} {c:Nat} (F:Fin t S S3 c)
include F
theorem Fin.W3 {i:Nat} {k3:Bk} (h:S3.Z6[i]? =some k3):1<=k3.kind/\k3.kind<=19/\k3.succs.length<=2/\(∀ s∈k3.succs,s < S3.Z6.length)/\k3.live=YU S.Z6 i/\(k3.kind=1->k3.live=false):=by
 obtain⟨k,g1,g2,g3,g4,g5,_⟩:=F.bk h;obtain⟨f1,f2,f3,f4,f5⟩:=F.rs.w.blk i k g1;refine⟨by rw[g2];exact f2,by rw[g2];exact f3,by rw[g4];exact f4,fun s hs=>?_,g5,fun hk=>?_⟩
 .rw[g4]at hs;obtain⟨q,hq,_⟩:=f5 s hs;rw[F.len];exact ZH hq
 .rw[g5];cases hl:YU S.Z6 i with
  |false=>rfl
  |true=>
   exfalso;unfold YU at hl;simp only[decide_eq_true_eq]at hl;rw[g2]at hk;cases hl with
   |zero=>
    obtain⟨q,hq,hq2,_⟩:=F.first;rw[g1]at hq;cases hq;omega
   |step h1 h2 h3=>
    obtain⟨q,hq,hq2⟩:=(F.rs.w.blk _ _ h2).2.2.2.2 _ h3;rw[g1]at hq;cases hq;exact hq2 hk
theorem Fin.sP {i:Nat} {p:Pc} (h:(S3.Z6.mapIdx Bk.pc)[i]? =some p):p.index=i/\0<=p.kind/\p.kind<=19/\p.succs.length<=2/\(∀ s∈p.succs,0<=s/\s < ((S3.Z6.mapIdx Bk.pc).length:Int))/\(p.kind=1->p.live=false)/\p.live=YU S.Z6 i:=by
 obtain⟨k,hk,rfl⟩:=Dd h;obtain⟨f1,f2,f3,f4,f5,f6⟩:=F.W3 hk;refine⟨rfl,by simp only[Bk.pc];omega,f2,by simpa [Bk.pc]using f3,fun s hs=>?_,f6,f5⟩;obtain⟨u,hu,rfl⟩:=Y2.1 hs;have:=f4 u hu;simp only[List.length_mapIdx];omega
theorem Fin.live {i:Nat} {p:Pc} (h:(S3.Z6.mapIdx Bk.pc)[i]? =some p):p.live=true↔Reach S3.Z6 i:=by
 rw[(F.sP h).2.2.2.2.2.2];clear h;unfold YU;simp only[decide_eq_true_eq];have e: ∀ {i:Nat} {k:Bk},S.Z6[i]? =some k-> ∃ k3,S3.Z6[i]? =some k3/\k3.succs=k.succs:=by
  intro i k hk;have hl:i < S3.Z6.length:=by rw[F.len];exact ZH hk
  have h3:=Z9 hl;obtain⟨k',g1,g2,g3,g4,_⟩:=F.bk h3;rw[hk]at g1;cases g1;exact⟨_,h3,g4⟩
 constructor
 .intro h
  induction h with
  |zero=>exact .zero
  |step _ h2 h3 ih=>
   obtain⟨k3,g1,g2⟩:=e h2;exact .step ih g1 (by rw[g2];exact h3)
 .intro h
  induction h with
  |zero=>exact .zero
  |step _ h2 h3 ih=>
   obtain⟨k,g1,g2,g3,g4,_⟩:=F.bk h2;exact .step ih g1 (by rw[<-g4];exact h3)
end
end
end
section
structure Src (w:World) (t:T) (v:Value):Prop where
 data: ∃ bb o,Zi v bb o t.len/\t.At (YB w w.heap.size) true bb o
theorem Src.low {w w':World} {t:T} {v:Value} (h:Src w t v) (hb:Below w.heap.size w w'):Src w' t v:=by
 obtain⟨bb,o,h1,h2⟩:=h.data;refine⟨bb,o,h1,h2.mono fun b o v hc=>?_⟩;have:=YB.below hb b o v hc;exact⟨by have:=this.1;have:=hb.size;omega,this.2⟩
theorem yX: ∀ t:T,t.ZT<=2*t.it:=by
 intro t
 induction t with
 |nil=>simp[T.ZT]
 |st h b e c tl ih1 ih2 ih3 ih4=>
  have h1: ∀ p:Bool,p.toNat<=1:=fun p=>by cases p<;>simp
  have:=h1 (decide (0 < h.target.size));have:=h1 (decide (0 < h.label.size));simp only[T.ZT,T.it];omega
 |cl x b tl ih1 ih2=>simp only[T.ZT,T.it];omega
theorem Dc: ∀ (t:T) (sw:Bool),t.ok->(t.stops sw).length=t.lv sw:=by
 intro t
 induction t with
 |nil=>intro sw _;rfl
 |st h b e c tl ih1 ih2 ih3 ih4=>
  intro sw ⟨h0,h1,h2,h3,h4⟩;simp only[T.stops,T.lv,Z4,ih1 _ h1,ih2 _ h2,ih3 _ h3,ih4 _ h4,h0.Vo]
 |cl x b tl ih1 ih2=>
  intro sw ⟨_,_,h1,h2⟩;simp only[T.stops,T.lv,Z4,List.length_replicate,ih1 _ h1,ih2 _ h2]
theorem Src.body {w:World} {t:T} {v:Value} (h:Src w t v) (r:Rt t):Body w t v:=by
 have h1:=r.lv;have h2:=r.it;have h3:=yX t;have h4:=Dc t false r.ok;refine⟨?_,r.ok,h.data⟩;unfold T.Yg Mk.add Mk.none Mk.small;simp only[List.nil_append,List.length_nil];omega
theorem ll {n:Nat} : ∀ {rs:List (List Value)} {i j:Nat} {r:List Value},(∀ r∈rs,r.length=n)->rs[i]? =some r->j < n->rs.flatten[i*n+j]? =r[j]? :=by
 intro rs
 induction rs with
 |nil=>intro i j r _ hi;simp at hi
 |cons q rs ih=>
  intro i j r h hi hj;have hq:=h q (by simp);cases i with
  |zero=>
   simp at hi;subst hi;simp only[List.flatten_cons,Nat.zero_mul,YR];rw[ZP (by omega)]
  |succ i=>
   simp only[List.getElem?_cons_succ]at hi;simp only[List.flatten_cons];rw[Zj (by rw[hq,Nat.add_mul];omega),hq,show(i+1)*n+j -n=i*n+j by rw[Nat.add_mul];omega];exact ih (fun r hr=>h r (by simp[hr])) hi hj
structure qg (w:World) (lo g i:Nat) (p:Pc) (la:Option Addr) (lc:Nat) (sa:Option Addr) (sc:Nat):Prop where
 cell: ∀ (j:Nat) (u:Value),([.slice la p.leaves.length lc,.slice sa p.succs.length sc,.int .i64 p.index,p.live,.int .i64 p.kind,.int .i64 p.of,p.Yz]:List Value)[j]? =some u->w.cell? ⟨g,i*7+j,none⟩=some u
 lv:w.ownsRow lo 3 1 (.slice la p.leaves.length lc) p.leaves.length (p.leaves.map (Value.int .i64))
 sv:w.ownsRow lo 3 1 (.slice sa p.succs.length sc) p.succs.length (p.succs.map (Value.int .i64))
theorem qg.all {w:World} {lo g i:Nat} {p:Pc} {la sa:Option Addr} {lc sc:Nat} (h:qg w lo g i p la lc sa sc):
  w.cell? ⟨g,i*7,none⟩=some (.slice la p.leaves.length lc)/\w.cell? ⟨g,i*7+1,none⟩=some (.slice sa p.succs.length sc)/\w.cell? ⟨g,i*7+2,none⟩=some (.int .i64 p.index)/\w.cell? ⟨g,i*7+3,none⟩=some (.bool p.live)/\
  w.cell? ⟨g,i*7+4,none⟩=some (.int .i64 p.kind)/\w.cell? ⟨g,i*7+5,none⟩=some (.int .i64 p.of)/\w.cell? ⟨g,i*7+6,none⟩=some (.bool p.Yz):=
 ⟨h.cell 0 _ rfl,h.cell 1 _ rfl,h.cell 2 _ rfl,h.cell 3 _ rfl,h.cell 4 _ rfl,h.cell 5 _ rfl,h.cell 6 _ rfl⟩
structure qe (w:World) (lo g:Nat) (ps:List Pc):Prop where
 pc: ∀ (i:Nat) p,ps[i]? =some p-> ∃ la lc sa sc,qg w lo g i p la lc sa sc
 lt:lo<=g/\g < w.heap.size
theorem Mn.row {w:World} {base:Nat} {gv:Value} {ps:List Pc} (h:Mn w base gv ps) (hp:0 < ps.length): ∃ g cap,gv=.slice (some ⟨g,0,none⟩) ps.length cap/\qe w base g ps:=by
 obtain⟨rows,h1,h2,h3⟩:=h;have hv: ∃ g cap,gv=.slice (some ⟨g,0,none⟩) ps.length cap:=by
  rcases h2.2 with⟨_,h0⟩ |⟨g,cap,cur,hv,_⟩
  .omega
  .exact⟨g,cap,hv⟩
 obtain⟨g,cap,rfl⟩:=hv;have h7: ∀ r∈rows,r.length=7:=by
  intro r hr;obtain⟨i,hi,rfl⟩:=List.getElem_of_mem hr;obtain⟨lv,sv,e,_⟩:=h3 i rows[i] ps[i] (Z9 hi) (Z9 (by omega));rw[e];rfl
 refine⟨g,cap,rfl,fun i p hi=>?_,h2.lt g rfl⟩;have hil:=ZH hi;have hr:=Z9 (l:=rows) (i:=i) (by omega);obtain⟨lv,sv,e,e1,e2⟩:=h3 i _ p hr hi;rw[e]at hr;obtain⟨la,lc,rfl⟩:=ZR e1;obtain⟨sa,sc,rfl⟩:=ZR e2;refine⟨la,lc,sa,sc,fun j u hu=>?_,e1,e2⟩;have hj:j < 7:=by have:=ZH hu;simpa using this
 have key:rows.flatten[i*7+j]? =([.slice la p.leaves.length lc,.slice sa p.succs.length sc,.int .i64 p.index,p.live,.int .i64 p.kind,.int .i64 p.of,p.Yz]:List Value)[j]? :=ll h7 hr hj;rw[ZF h2 (i*7+j) (by omega),key];exact hu
theorem qg.low {w w':World} {lo g i:Nat} {p:Pc} {la sa:Option Addr} {lc sc:Nat} (h:qg w lo g i p la lc sa sc) (hb:Below w.heap.size w w') (hg:g < w.heap.size):qg w' lo g i p la lc sa sc:=
 ⟨fun j u hu=>(hb.cell (p:=⟨g,i*7+j,none⟩) hg).trans (h.cell j u hu),own_below h.lv hb (fun k hk=>(h.lv.lt k hk).2),own_below h.sv hb (fun k hk=>(h.sv.lt k hk).2)⟩
theorem qe.low {w w':World} {lo g:Nat} {ps:List Pc} (h:qe w lo g ps) (hb:Below w.heap.size w w'):qe w' lo g ps:=
 ⟨fun i p hp=>let⟨la,lc,sa,sc,k⟩:=h.pc i p hp;⟨la,lc,sa,sc,k.low hb h.lt.2⟩,h.lt.1,by have:=h.lt.2;have:=hb.size;omega⟩
theorem U4 {w w':World} {b:Nat} {cs:List Value} {t:Nat} (h:ZD w b cs t) (hb:Below w.heap.size w w'):ZD w' b cs t:=by
 have:=h.lt;unfold ZD at*;rw[hb.block b this];exact h
theorem qd {p:Nat} {r:Bool} {w:World} (h:w.cell? ⟨p,4,none⟩=some (.bool r)):Calls prog 30 #[p] w fun e w'=>e=.returned (.bool r)/\w=w':=by
 go_enter func30,ntmps30;go_wp2_with fail
 go_ret;exact⟨rfl,rfl⟩
end
end Go.Proofs.YteedbaejpdjilaaGreat
