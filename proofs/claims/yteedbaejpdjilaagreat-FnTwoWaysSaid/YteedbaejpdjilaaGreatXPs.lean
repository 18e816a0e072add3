/- Part of the proof: BuiI BuiJ LawX LawA. -/
import Derived.Test.YteedbaejpdjilaaGreatXPq
import Derived.Test.YteedbaejpdjilaaGreatXPr
set_option linter.all false
set_option maxRecDepth 100000
set_option maxHeartbeats 40000000
namespace Go.Proofs.YteedbaejpdjilaaGreat
open Go.RowKit
section
variable {w w':World} {B b b0:Nat} {A L:List Nat} {S S':BS} {tg:List Tg} {M:Mk}
structure Pc where
 leaves:List Int
 succs:List Int
 index:Int
 live:Bool
 kind:Int
 of:Int
 Zn:Bool
def Bk.pc (i:Nat) (k:Bk):Pc:=⟨k.nodes.map fun n=>Zy n.pos,k.succs.map fun s:Nat=>(s:Int),i,k.live,k.kind,X9 k.of,k.ends⟩
def KJ (w:World) (base:Nat) (cs:List Value) (p:Pc):Prop:= ∃ lv sv,cs= [lv,sv,.int .i64 p.index,.bool p.live,.int .i64 p.kind,.int .i64 p.of,.bool p.Zn]∧
 w.ownsRow base 3 1 lv p.leaves.length (p.leaves.map (Value.int .i64))∧w.ownsRow base 3 1 sv p.succs.length (p.succs.map (Value.int .i64))
def ND (w:World) (base:Nat) (gv:Value) (ps:List Pc):Prop:= ∃ rows:List (List Value),rows.length=ps.length∧w.ownsRow base 45 7 gv ps.length rows.flatten∧
 ∀ (i:Nat) cs p,rows[i]? =some cs->ps[i]? =some p->KJ w base cs p
theorem own_below {w w':World} {base e size n:Nat} {v:Value} {xs:List Value} {B:Nat} (h:w.ownsRow base e size v n xs) (hb:Below B w w') (hB: ∀ g,v.ownBlock=some g->g < B):w'.ownsRow base e size v n xs:=by
 obtain⟨h1,h2⟩:=h;refine⟨h1,?_⟩;rcases h2 with h2|⟨g,cap,cur,hv,hg,hh,r⟩
 ·exact Or.inl h2
 ·exact Or.inr ⟨g,cap,cur,hv,hg,by rw[hb.block g (hB g (by rw[hv];rfl))];exact hh,r⟩
theorem YW {w:World} {base base' e size n:Nat} {v:Value} {xs:List Value} (h:w.ownsRow base e size v n xs) (hb:base'<=base):w.ownsRow base' e size v n xs:=
 ⟨h.1,h.2.imp id (fun⟨g,cap,cur,hv,hg,r⟩=>⟨g,cap,cur,hv,Nat.le_trans hb hg,r⟩)⟩
theorem Only.of_below {w w':World} (h:Below w.heap.size w w'):Only [] w w':=⟨h.size,fun k hk _=>h.block k hk⟩
theorem Fr.of_below {T:List Nat} {B:Nat} {w w':World} (h:Below w.heap.size w w') (hB:B<=w.heap.size):Fr T B w w':=
 ⟨h.mono hB,fun k c e f hk _=>by rw[h.block k (ZN.lt ⟨_,_,hk⟩)];exact hk⟩
theorem BX.below (h:BX w B b b0 A L S tg M) (hb:Below w.heap.size w w'):BX w' B b b0 A L S tg M:=by
 have hB:B<=w.heap.size:=h.choose_spec.leB.1;obtain⟨bv,cv,mv,tv,hbl,_⟩:=h.list;exact h.keep (Only.of_below hb) (Fr.of_below hb hB) hbl (by simp)
theorem below_drewN (w:World) (n:Nat):Below w.heap.size w (w.drew.drewN n):=by
 exact⟨rfl,rfl,rfl,Nat.le_refl _,fun _ _=>rfl⟩
theorem Yq {w w':World} {B b:Nat} {cs:List Value} {t:Nat} (h:ZV w b cs t) (hb:Below B w w') (hB:b < B):ZV w' b cs t:=by
 unfold ZV at*;rw[hb.block b hB];exact h
theorem MS (w:World) (n:Nat) (o:Obj):(w.drewN n).alloc o=(w.alloc o).drewN n:=rfl
theorem Pq (w:World) (n:Nat) (a:Addr) (v:Value):(w.drewN n).setCell a v=(w.setCell a v).drewN n:=rfl
attribute [local go_sem] MS Pq
theorem Fb {ops:Array Oper} {o:Oper} {a:Act} {w:World} {K:Act->World->Prop} {Q:Exit->Act->World->Prop} {E:Prop} (hgd:o.guard=none) (x:Operand)
  (ho:o.op=.call { callee:=.invoke x "Pos",args:= #[],argTypes:= #[] }) {ty N:Nat} {q:Addr} (hx:a.eval x=.iface ty (.pointer (some q)))
  (hm: ∀ w,(method 447 ty (.pointer (some q)) "Pos").run Tryz.prog w=.ok (N,.pointer (some q)) w)
  (hcall: ∀ (args:Array Value) (w:World),(callFunc N args).run Tryz.prog w=.ok (.enter N args) w)
  (h:Calls Tryz.prog N #[.pointer (some q)] w fun e w'=> ∃ v,e=.returned v∧K (a.put o.dst v) w'):
  if Region.wanted o (yielded ops a.tmps)=true then Oper.wp Tryz.prog o a w K Q else E:=by
 have hw:Region.wanted o (yielded ops a.tmps)=true:=by simp[Region.wanted,hgd]
 rw[if_pos hw];have hcm:(callMethod (.iface ty (.pointer (some q))) "Pos" #[]).run Tryz.prog w=.ok (.enter N #[.pointer (some q)]) w:=by
  have e:(callMethod (.iface ty (.pointer (some q))) "Pos" #[]).run Tryz.prog w=((method 447 ty (.pointer (some q)) "Pos")>>=fun p=>callFunc p.1 (#[p.2]++ #[])).run Tryz.prog w:=by kernel_rfl
  rw[e];simp[hm,hcall]
 unfold Oper.wp execOp;simp[ho,resolve,invoke,hx,Oper.upon,hcm];refine Calls.mono h ?_;rintro e w' ⟨v,rfl,hv⟩;exact hv
theorem kN (args:Array Value) (w:World):(callFunc 68 args).run Tryz.prog w=.ok (.enter 68 args) w:=by kernel_rfl
theorem kR (args:Array Value) (w:World):(callFunc 69 args).run Tryz.prog w=.ok (.enter 69 args) w:=by kernel_rfl
theorem xk (args:Array Value) (w:World):(callFunc 70 args).run Tryz.prog w=.ok (.enter 70 args) w:=by kernel_rfl
theorem yZ (args:Array Value) (w:World):(callFunc 71 args).run Tryz.prog w=.ok (.enter 71 args) w:=by kernel_rfl
theorem rQ (r:Option Addr) (w:World):(binOp .neq 101 (.pointer r) (.pointer none)).run Tryz.prog w=.ok (.bool r.isSome) w:=by
 cases r<;>kernel_rfl
theorem vk:(Tryz.prog.info? 45).map (fun i=>(i.zero,i.size,i.bytes))=some (some (.agg #[.slice none 0 0,.slice none 0 0,.int .i64 0,false,.int .i64 0,.int .i64 0,false]),7,88):=by kernel_rfl
def Fine (S:BS):Prop:= ∀ (i:Nat) k,S.bks[i]? =some k->(∀ n∈k.nodes,PB n.pos)∧OB k.of∧k.nodes.length<=100000∧ ∀ s∈k.succs,s < S.bks.length
theorem Qj {v:Value} {o:Option Int} (h:YR (Hv w 0) v o) (ho:OB o):Calls Tryz.prog 68 #[v] w fun e w'=>e=.returned (.int .i64 (X9 o))∧w=w':=by
 cases o with
 |none=>obtain rfl:=h;exact Ku
 |some p=>
  have hp:=ho p rfl;exact Nh h.pos hp.1 (by have:=hp.2;omega)
def oZ (S:BS) (w2:World) (ix:Value) (wr:World):Prop:= ∃ (k:Nat) (gv:Value) (rows:List (List Value)),ix=.int .i64 k∧k<=S.bks.length∧rows.length=k∧ZV wr w2.heap.size [gv] 39∧wr.ownsRow (w2.heap.size+1) 45 7 gv k rows.flatten∧
 (∀ (i:Nat) cs kb,rows[i]? =some cs->S.bks[i]? =some kb->KJ wr (w2.heap.size+1) cs (kb.pc i))∧Below w2.heap.size w2 wr
def vP (wi:World) (k:Bk) (i:Nat) (ix:Value) (wr:World):Prop:= ∃ (j:Nat) (lv:Value),ix=.int .i64 j∧j<=k.nodes.length∧
 ZV wr wi.heap.size [lv,.slice none 0 0,.int .i64 i,k.live,.int .i64 k.kind,.int .i64 (X9 k.of),k.ends] 45∧wr.ownsRow (wi.heap.size+1) 3 1 lv j ((k.nodes.take j).map fun n=>.int .i64 (Zy n.pos))∧Below wi.heap.size wi wr
def wG (wi:World) (k:Bk) (i:Nat) (lv:Value) (ix:Value) (wr:World):Prop:= ∃ (j:Nat) (sv:Value),ix=.int .i64 j∧j<=k.succs.length∧
 ZV wr wi.heap.size [lv,sv,.int .i64 i,k.live,.int .i64 k.kind,.int .i64 (X9 k.of),k.ends] 45∧wr.ownsRow (wi.heap.size+1) 3 1 sv j ((k.succs.take j).map fun s:Nat=>.int .i64 (s:Int))∧
 wr.ownsRow (wi.heap.size+1) 3 1 lv k.nodes.length (k.nodes.map fun n=>.int .i64 (Zy n.pos))∧(∀ g g',lv.ownBlock=some g->sv.ownBlock=some g'->g≠g')∧Below wi.heap.size wi wr
theorem LM {α β:Type} {l:List α} {j:Nat} {x:α} (f:α->β) (h:l[j]? =some x):(l.take j).map f++ [f x]=(l.take (j+1)).map f:=by
 rw[List.take_add_one,h];simp
theorem ZX {w:World} {base e n:Nat} {v:Value} {size:Nat} {xs:List Value} (h:w.ownsRow base e size v n xs): ∃ a c,v=.slice a n c:=by
 rcases h.2 with⟨rfl,h0⟩ |⟨g,cap,cur,rfl,_⟩
 ·subst h0;exact⟨_,_,rfl⟩
 ·exact⟨_,_,rfl⟩
theorem BK {wi:World} {k:Bk} {i j:Nat} {lv:Value} {wr w3:World} {n:WW} (hxb:ZV wr wi.heap.size [lv,.slice none 0 0,.int .i64 i,k.live,.int .i64 k.kind,.int .i64 (X9 k.of),k.ends] 45)
  (hlo:wr.ownsRow (wi.heap.size+1) 3 1 lv j ((k.nodes.take j).map fun n=>.int .i64 (Zy n.pos))) (hb:Below wi.heap.size wi wr) (hn:k.nodes[j]? =some n) {g cap:Nat}
  (h1:w3.ownsRow (wi.heap.size+1) 3 1 (.slice (some ⟨g,0,none⟩) (j+1) cap) (j+1) (((k.nodes.take j).map fun n=>Value.int .i64 (Zy n.pos))++ [.int .i64 (Zy n.pos)])) (hg:wr.grownBy w3 lv.ownBlock):
  vP wi k i (.int .i64 ((j:Int)+1)) (w3.setCell ⟨wi.heap.size,0,none⟩ (.slice (some ⟨g,0,none⟩) (j+1) cap)):=by
 have hxb3:=hxb.grown hg (own_ne hlo hxb.ty (by decide));have hlt:=hxb.lt;have hgx:ZN w3 g 3:=ZK h1 rfl;refine⟨j+1,.slice (some ⟨g,0,none⟩) (j+1) cap,by simp,by have:=ZW hn;omega,hxb3.set 0 _,?_,(hb.grown hg (by omega) (fun x hx=>by have:=(hlo.lt x hx).1;omega)).setCell (Nat.le_refl _) _⟩;rw[<-LM (fun n:WW=>Value.int .i64 (Zy n.pos)) hn];refine ZH h1 _ _ ?_;simp only[Value.ownBlock];intro e;exact ZN.ne hxb3.ty hgx (by decide) (by simpa using e)
theorem AY {wi:World} {k:Bk} {i j:Nat} {lv sv:Value} {wr w3:World} {s:Nat} (hxb:ZV wr wi.heap.size [lv,sv,.int .i64 i,k.live,.int .i64 k.kind,.int .i64 (X9 k.of),k.ends] 45)
  (hso:wr.ownsRow (wi.heap.size+1) 3 1 sv j ((k.succs.take j).map fun s:Nat=>.int .i64 (s:Int))) (hlo:wr.ownsRow (wi.heap.size+1) 3 1 lv k.nodes.length (k.nodes.map fun n=>.int .i64 (Zy n.pos))) (hap: ∀ g g',lv.ownBlock=some g->sv.ownBlock=some g'->g≠g')
  (hb:Below wi.heap.size wi wr) (hn:k.succs[j]? =some s) {g cap:Nat}
  (h1:w3.ownsRow (wi.heap.size+1) 3 1 (.slice (some ⟨g,0,none⟩) (j+1) cap) (j+1) (((k.succs.take j).map fun s:Nat=>Value.int .i64 (s:Int))++ [.int .i64 (s:Int)])) (hg:wr.grownBy w3 sv.ownBlock) (hat:sv.ownBlock=some g∨(sv.ownBlock≠some g∧wr.heap.size<=g)):
  wG wi k i lv (.int .i64 ((j:Int)+1)) (w3.setCell ⟨wi.heap.size,1,none⟩ (.slice (some ⟨g,0,none⟩) (j+1) cap)):=by
 have hxb3:=hxb.grown hg (own_ne hso hxb.ty (by decide));have hlt:=hxb.lt;have hgx:ZN w3 g 3:=ZK h1 rfl;have hlo3:w3.ownsRow (wi.heap.size+1) 3 1 lv k.nodes.length (k.nodes.map fun n=>.int .i64 (Zy n.pos)):=by
  refine hlo.kept hg ?_;cases hl:lv.ownBlock with
  |none=>exact .inl rfl
  |some gl=>
   right;intro e;exact hap gl gl hl e.symm rfl
 refine⟨j+1,.slice (some ⟨g,0,none⟩) (j+1) cap,by simp,by have:=ZW hn;omega,hxb3.set 1 _,?_,?_,?_,(hb.grown hg (by omega) (fun x hx=>by have:=(hso.lt x hx).1;omega)).setCell (Nat.le_refl _) _⟩
 ·rw[<-LM (fun s:Nat=>Value.int .i64 (s:Int)) hn];refine ZH h1 _ _ ?_;simp only[Value.ownBlock];intro e;exact ZN.ne hxb3.ty hgx (by decide) (by simpa using e)
 ·refine ZH hlo3 _ _ ?_;intro e;exact own_ne hlo3 hxb3.ty (by decide) e
 ·intro g1 g2 e1 e2;simp only[Value.ownBlock,Option.some.injEq]at e2;subst e2;rcases hat with h2|⟨_,h2⟩
  ·exact hap g1 g e1 h2
  ·have:=(hlo.lt g1 e1).2;omega
theorem KJ.frame {w w':World} {base:Nat} {cs:List Value} {p:Pc} (h:KJ w base cs p) (hf: ∀ v n xs,w.ownsRow base 3 1 v n xs->w'.ownsRow base 3 1 v n xs):KJ w' base cs p:=by
 obtain⟨lv,sv,h1,h2,h3⟩:=h;exact⟨lv,sv,h1,hf _ _ _ h2,hf _ _ _ h3⟩
theorem xC {S:BS} {w2 wo wr w6:World} {k:Nat} {gv:Value} {rows:List (List Value)} {kk:Bk} {lv sv:Value} (hk:S.bks[k]? =some kk) (hrl:rows.length=k) (hg:ZV wo w2.heap.size [gv] 39) (hgo:wo.ownsRow (w2.heap.size+1) 45 7 gv k rows.flatten)
  (hpc: ∀ (i:Nat) cs kb,rows[i]? =some cs->S.bks[i]? =some kb->KJ wo (w2.heap.size+1) cs (kb.pc i)) (hbw:Below w2.heap.size w2 wo) (hbx:Below wo.heap.size wo wr)
  (hlo:wr.ownsRow (wo.heap.size+1) 3 1 lv kk.nodes.length (kk.nodes.map fun n=>.int .i64 (Zy n.pos))) (hso:wr.ownsRow (wo.heap.size+1) 3 1 sv kk.succs.length (kk.succs.map fun s:Nat=>.int .i64 (s:Int))) {g cap:Nat}
  (h6:w6.ownsRow (w2.heap.size+1) 45 7 (.slice (some ⟨g,0,none⟩) (k+1) cap) (k+1) (rows.flatten++ [lv,sv,.int .i64 k,.bool kk.live,.int .i64 kk.kind,.int .i64 (X9 kk.of),.bool kk.ends])) (hg6:wr.grownBy w6 gv.ownBlock):
  oZ S w2 (.int .i64 ((k:Int)+1)) (w6.setCell ⟨w2.heap.size,0,none⟩ (.slice (some ⟨g,0,none⟩) (k+1) cap)):=by
 have hlt:=hg.lt;have sz:=hbw.size;have hgr:ZV wr w2.heap.size [gv] 39:=Yq hg hbx hlt;have hgo2:wr.ownsRow (w2.heap.size+1) 45 7 gv k rows.flatten:=own_below hgo hbx (fun g hg=>(hgo.lt g hg).2);have hg7:=hgr.grown hg6 (own_ne hgo2 hgr.ty (by decide));have keep: ∀ base v n xs,wr.ownsRow base 3 1 v n xs->(w6.setCell ⟨w2.heap.size,0,none⟩ (.slice (some ⟨g,0,none⟩) (k+1) cap)).ownsRow base 3 1 v n xs:=by
  intro base v n xs h;have h1:w6.ownsRow base 3 1 v n xs:=by
   refine h.kept hg6 ?_;cases hv:v.ownBlock with
   |none=>exact .inl rfl
   |some x=>
    right;intro e;exact ZN.ne (ZK h hv) (ZK hgo2 e.symm) (by decide) rfl
  exact ZH h1 _ _ (fun e=>own_ne h1 hg7.ty (by decide) e)
 refine⟨k+1,.slice (some ⟨g,0,none⟩) (k+1) cap,rows++ [[lv,sv,.int .i64 k,.bool kk.live,.int .i64 kk.kind,.int .i64 (X9 kk.of),.bool kk.ends]],by simp,ZW hk,by simp[hrl],hg7.set 0 _,?_,?_,?_⟩
 ·refine ZH (by simpa using h6) _ _ ?_;simp only[Value.ownBlock];intro e;exact ZN.ne hg7.ty (ZK h6 rfl) (by decide) (by simpa using e)
 ·intro i cs kb hi hb;rcases YP hi with h1|⟨rfl,rfl⟩
  ·refine KJ.frame ((hpc i cs kb h1 hb).frame (w':=wr) (fun v n xs h=>own_below h hbx (fun g hg=>(h.lt g hg).2))) (keep _)
  ·rw[hrl,hk]at hb;cases hb;subst hrl;refine⟨lv,sv,rfl,?_,?_⟩
   ·have h1:=keep _ _ _ _ (YW hlo (show w2.heap.size+1<=wo.heap.size+1 by omega));simpa [Bk.pc,List.map_map,Function.comp_def]using h1
   ·have h1:=keep _ _ _ _ (YW hso (show w2.heap.size+1<=wo.heap.size+1 by omega));simpa [Bk.pc,List.map_map,Function.comp_def]using h1
 ·exact Below.setCell (B:=w2.heap.size) (p:=⟨w2.heap.size,0,none⟩) ((hbw.trans (hbx.mono (by omega))).grown hg6 (by have:=hbx.size;omega) (fun x hx=>by have:=(hgo2.lt x hx).1;omega)) (Nat.le_refl _) _
theorem Xe {t:T} {S S3:BS} {c:Nat} (hb:Built t S S3 c) {v:Value} (hv:Body w t v) (hf:Fine S3) (hlen:S3.bks.length<=100000) (hpos3:0 < S3.bks.length) (hkd: ∀ (i:Nat) k,S3.bks[i]? =some k->0<=k.kind∧k.kind<=19):
  Calls Tryz.prog 38 #[v] w fun e w'=> ∃ gv,e=.returned (.agg #[gv])∧ND w' w.heap.size gv (S3.bks.mapIdx Bk.pc)∧Below w.heap.size w w':=by
 have hB0:Below w.heap.size w (w.alloc (.cells [.slice .none 0 0].toArray 39)):=(Below.refl _ _).alloc (Nat.le_refl _) _;have hB1:Below w.heap.size w ((w.alloc (.cells [.slice .none 0 0].toArray 39)).alloc (.cells [.int .i64 0,.int .i64 0,.slice .none 0 0,.slice .none 0 0,.slice .none 0 0].toArray 83)):=hB0.alloc (by simp) _;have hsz:(w.alloc (.cells [.slice .none 0 0].toArray 39)).heap.size=w.heap.size+1:=by simp
 have hm:=UE (w:=w.alloc (.cells [.slice .none 0 0].toArray 39));rw[hsz]at hm;obtain⟨bb,o,hs,hat⟩:=hv.data;have hat:=hat.mono (C':=Zl ((w.alloc (.cells [.slice .none 0 0].toArray 39)).alloc (.cells [.int .i64 0,.int .i64 0,.slice .none 0 0,.slice .none 0 0,.slice .none 0 0].toArray 83)) (w.heap.size+1)) (fun b o v h=>let⟨h1,h2⟩:=Zl.below hB1 b o v h;⟨by omega,h2⟩);obtain⟨⟨va,vn,vc,rfl⟩,_⟩:=ZJ hs;have HS:=Yt hs hat hv.small hb;have hok:=hv.ok;have hr0:ZV (w.alloc (.cells [.slice .none 0 0].toArray 39)) w.heap.size [.slice .none 0 0] 39:=ZV.new w _ _;clear hs hat hb hv hsz;go_enter Tryz.func38,Tryz.ntmps38;go_wp2_with fail
 refine(VP t hm HS.out.2.2.1 hok HS.out.1 HS.out.2.1).mono ?_;rintro e w1 ⟨a,vs,rfl,hbl,hast,hM1,f1⟩;go_wp2_with fail
 refine(TD HS.out.2.2.2 hM1 hok hbl hast).mono ?_;rintro e w2 ⟨ga,bb2,bv,A,L,mk,cv,mv,tv,rfl,hga,hb2,hX,f2⟩;have F2:Below w.heap.size w w2:=hB1.trans ((f1.below.mono (by omega)).trans (f2.below.mono (by omega)));have hr2:ZV w2 w.heap.size [.slice .none 0 0] 39:=by
  have h1:=(hr0.alloc (.cells [.int .i64 0,.int .i64 0,.slice .none 0 0,.slice .none 0 0,.slice .none 0 0].toArray 83))
  exact(h1.fr f1 (by decide)).fr f2 (by decide)
 have hlA:=hX.len;obtain⟨bv',cv',mv',tv',hb2',_,hown⟩:=hX.list;obtain⟨hbe,_⟩:=hb2.inj hb2';obtain rfl:bv=bv':=by simp at hbe;exact hbe.1
 have hpos:0 < A.length:=by rw[hlA];exact hpos3
 obtain⟨gb,capb,rfl⟩: ∃ g cap,bv=.slice (some ⟨g,0,none⟩) A.length cap:=by
  rcases hown.2 with⟨_,h0⟩ |⟨g,cap,cur,hv,_⟩
  ·omega
  ·exact⟨g,cap,hv⟩
 have hga0:=hga.cell 0 rfl;have hgal:=hga.lt;have HL:=ZL hlA hlen;have hAl:A.length<=100000:=by omega
 clear hlA hlen hbe;go_wp2_with fail
 have hg5:ZV (w2.alloc (.cells [.slice none 0 0].toArray 39)) w2.heap.size [.slice none 0 0] 39:=ZV.new w2 _ _;have hB5:Below w2.heap.size w2 (w2.alloc (.cells [.slice none 0 0].toArray 39)):=(Below.refl _ _).alloc (Nat.le_refl _) _
 go_loopw [26] (fun ix wr=>oZ S3 w2 ix wr) (fun ix _=>A.length -(intOf ix).toNat)
 case atStart=>exact⟨0,_,[],rfl,Nat.zero_le _,rfl,hg5,World.ownsRow_nil _ _ _ _,fun i cs kb h=>by simp at h,hB5⟩
 case round=>
  obtain⟨k,gv,rows,rfl,hk,hrl,hg,hgo,hpc,hbw⟩:=hrel;by_cases hkl:k < A.length
  ·have hXr:=hX.below hbw;have hak:=List.getElem?_eq_getElem hkl;generalize A[k]=ak at hak;have hkb:k < S3.bks.length:=by have:=HL.out.1;omega
   have hkk:=List.getElem?_eq_getElem hkb;generalize S3.bks[k]=kk at hkk;have hck:wr.cell? ⟨gb,k,none⟩=some (.pointer (some ⟨ak,0,none⟩)):=by
    have h1:w2.cell? ⟨gb,k,none⟩=some (.pointer (some ⟨ak,0,none⟩)):=by
     rw[World.ownsRow.cellAt hown k (by omega)];simp[hak]
    rw[hbw.cell (p:=⟨gb,k,none⟩) (hown.lt gb rfl).2];exact h1
   have hXd:BX wr.drew _ _ _ A L S3 [] _:=hXr.below (Below.refl _ _).drew;obtain⟨nv,ns,sv,p0,p1,hbk,hnown,hnl,hnd,hst⟩:=hXr.nodes hkk hak;obtain⟨fn,fo,fl,fs⟩:=hf k kk hkk;have hakl:=hbk.lt;have hane:ak≠wr.heap.size:=by omega
   have d2:=hbk.cell 2 rfl;have d3:=hbk.cell 3 rfl;have d5:=hbk.cell 5 rfl;have d6:=hbk.cell 6 rfl;have hwk:=IntWalk.i64_in (k:Int) (by omega);have kk19:0<=kk.kind∧kk.kind<=19:=hkd k kk hkk;have hwd:=IntWalk.i64_in kk.kind (by omega);obtain⟨svc,svo⟩:=hst.one;unfold Value.cells at svc;have HR:=Sl hrl hpc hgo hnd hkk hak;clear hrl hpc hgo hnd hkk hak;go_upto_region 7 with fail
   go_cut [8] (fun p8 wx=>p8=.pointer (some ⟨wr.heap.size,0,none⟩)∧ZV wx wr.heap.size [.slice none 0 0,.slice none 0 0,.int .i64 k,kk.live,.int .i64 kk.kind,.int .i64 (X9 kk.of),kk.ends] 45∧Below wr.heap.size wr wx)
   case first=>
    go_region_held3 (fun w'=>w'.cell? ⟨ak,2,none⟩=some (.int .i32 k)∧w'.cell? ⟨ak,3,none⟩=some (.bool kk.live)∧w'.cell? ⟨ak,5,none⟩=some (.int .u8 kk.kind)∧w'.cell? ⟨ak,6,none⟩=some sv)
     (first|go_keep)
     (first
      |(go_at_call 68;refine(Qj (w:=wr.drew) hst fo).mono ?_;rintro e w4 ⟨rfl,rfl⟩)
      |(go_at_call 68;refine(Qj (hst.mono (Hv.fr (Fr.of_below (T:= []) (B:=0) (w:=wr) ?hb (Nat.zero_le _)) (by simp) (Nat.le_refl _))) fo).mono ?_;(case hb=>(first|exact((Below.refl _ _).alloc (Nat.le_refl _) _).drew));rintro e w4 ⟨rfl,rfl⟩)
      |(go_at_call 69;refine(PD (hXr.below ?hb) HR.out.2.2.2.2.1 HR.out.2.2.2.2.2 (by omega)).mono ?_;(case hb=>(first|exact(Below.refl _ _).drew|exact((Below.refl _ _).alloc (Nat.le_refl _) _).drew));rintro e w4 ⟨⟨r,rfl,hre⟩,n,rfl⟩;have hnq: ∀ w,_:=rQ r;rw[hre]at hnq))
    all_goals
     go_wp2_with fail
     go_meet;exact⟨rfl,ZV.new wr _ _,((Below.refl _ _).alloc (Nat.le_refl _) _).trans ⟨rfl,rfl,rfl,Nat.le_refl _,fun _ _=>rfl⟩⟩
   case rest=>
    obtain⟨rfl,hxb,hbx⟩:=hcut;obtain⟨wo,hwo⟩: ∃ wo:World,wo=wr:=⟨_,rfl⟩
    subst hwo;have hbk1:=Yq hbk hbx hakl;obtain⟨na,nc,rfl⟩:=ZX hnown;have q0:=hbk1.cell 0 rfl;have HY:=Z9 hnl;have hnl1:ns.length<=100000:=by omega
    clear hnl;go_wp2_with fail
    go_loopw [58] (fun ix wx=>vP wo kk k ix wx) (fun ix _=>ns.length -(intOf ix).toNat)
    case atStart=>exact⟨0,_,rfl,Nat.zero_le _,hxb,World.ownsRow_nil _ _ _ _,hbx⟩
    case round=>
     obtain⟨j,lv,rfl,hj,hxb,hlo,hbx⟩:=hrel;by_cases hjl:j < ns.length
     ·have hnj:=List.getElem?_eq_getElem hjl;generalize ns[j]=nv at hnj;have hjk:j < kk.nodes.length:=by have:=HY.out;omega
      have hnk:=List.getElem?_eq_getElem hjk;generalize hnn:kk.nodes[j]=nn at hnk;have hpb:=fn nn (List.mem_of_getElem? hnk);obtain⟨ty,q,N,rfl,hm,hcf,hcal⟩:=(HR.out.2.2.2.1 j nv nn hnj hnk).pos;have hcal:=hcal wr.drew (fun b cs t h=>Hv.fr (Fr.of_below (T:= []) (B:=0) (w:=wo) hbx.drew (Nat.zero_le _)) (by simp) (Nat.le_refl _) b cs t h);obtain⟨gn,hna,hgn⟩: ∃ gn,na=some ⟨gn,0,none⟩∧gn < wo.heap.size:=by
       rcases hnown.2 with⟨_,h0⟩ |⟨g,cap,cur,hv,_⟩
       ·omega
       ·have hv':na=some ⟨g,0,none⟩:=by simpa using(Value.slice.inj hv).1
        subst hv';exact⟨g,rfl,(hnown.lt g rfl).2⟩
      subst hna;have hcn:wr.cell? ⟨gn,j,none⟩=some (.iface ty (.pointer (some ⟨q,0,none⟩))):=by
       rw[hbx.cell (p:=⟨gn,j,none⟩) hgn,World.ownsRow.cellAt hnown j (by omega)];exact hnj
      have y0:=hxb.cell 0 rfl;have hjn:j<=100000:=by omega
      have HZ:=ZL hnk hcal;clear hnk hcal hnn hnj;have sx:=hxb.lt;have sb:=hbx.size;obtain⟨hpb0,hpb1⟩:=hpb;go_wp2_with fail
      go_region_law (first
       |(refine Fb rfl (.tmp 64) (by rfl) (by rfl) hm hcf (HZ.out.2.mono ?_);rintro e wx ⟨rfl,rfl⟩;refine⟨_,rfl,?_⟩)
       |(refine Zj rfl 70 _ _ (by rfl) [.int .i64 nn.pos] (by rfl) xk ((KI nn.pos hpb0 (by omega)).mono ?_);rintro e wx ⟨rfl,rfl⟩;refine⟨_,rfl,?_⟩)
       |(refine YL wr _ rfl _ _ 31 rfl (wo.heap.size+1) 3 (.int .i64 0) 1 8 Tryz.underlying31 info3 rfl (by decide) (by decide) hlo (by rfl) [.int .i64 (Zy nn.pos)] rfl (by simp[Value.oneCell']) (by rfl) (by omega) (by omega) (by first|exact .inl rfl|exact .inr rfl) ?_;intro g cap w3 hown4 hg4 hat4 hlt4;have hxb3:=hxb.grown hg4 (own_ne hlo hxb.ty (by decide));have c0:=hxb3.cell 0 rfl;have cf:=hxb3.free 0))
      all_goals
       have hS:=BK hxb hlo hbx HZ.out.1 hown4 hg4;go_wp2_with fail
       exact⟨hS,by simp[intOf];omega⟩
     ·have hjn:j=kk.nodes.length:=by have:=HY.out;omega
      subst hjn;have hlo:wr.ownsRow (wo.heap.size+1) 3 1 lv kk.nodes.length (kk.nodes.map fun n=>.int .i64 (Zy n.pos)):=by simpa using hlo
      obtain⟨nv2,sv2,p02,p12,hbk2,hs2,hsu⟩:=hXr.at HR.out.2.2.2.2.1 HR.out.2.2.2.2.2;have hbk3:=Yq hbk2 hbx hakl;have r1:=hbk3.cell 1 rfl;have hsu3: ∀ (j s:Nat),kk.succs[j]? =some s-> ∃ q,A[s]? =some q∧wr.cell? ⟨ak,7+j,none⟩=some (.pointer (some ⟨q,0,none⟩)):=fun j s hs=>let⟨q,h1,h2⟩:=hsu j s hs;⟨q,h1,(hbx.cell (p:=⟨ak,7+j,none⟩) hakl).trans h2⟩;have hga3:ZV wr ga _ _:=Yq (Yq hga hbw hgal) hbx (by have:=hbw.size;omega);have hgal3:=hga3.lt;have hXw:=hXr.below hbx;obtain⟨w5,hw5⟩: ∃ w5:World,w5=wr:=⟨_,rfl⟩
      subst hw5;obtain⟨la,lc,rfl⟩:=ZX hlo;clear hbk2 hsu;go_wp2_with fail
      go_loopw [76] (fun ix wx=>wG wo kk k (.slice la kk.nodes.length lc) ix wx) (fun ix _=>kk.succs.length -(intOf ix).toNat)
      case atStart=>exact⟨0,_,rfl,Nat.zero_le _,hxb,World.ownsRow_nil _ _ _ _,hlo,by simp[Value.ownBlock],hbx⟩
      case round=>
       obtain⟨j,sv3,rfl,hj,hxb,hso,hlo,hap,hbx⟩:=hrel;have hga3:ZV wr ga _ _:=Yq (Yq hga hbw hgal) hbx (by have:=hbw.size;omega);have ga0:=hga3.cell 0 rfl;have sb:=hbx.size;by_cases hjl:j < kk.succs.length
       ·have hnj:=List.getElem?_eq_getElem hjl;generalize kk.succs[j]=sn at hnj;obtain⟨q,hq1,hq2⟩:=hsu3 j sn hnj;have hcs:wr.cell? ⟨ak,7+j,none⟩=some (.pointer (some ⟨q,0,none⟩)):=by
         have h1:wo.cell? ⟨ak,7+j,none⟩=some (.pointer (some ⟨q,0,none⟩)):=by
          obtain⟨_,_,_,_,_,_,hsu0⟩:=hXr.at HR.out.2.2.2.2.1 HR.out.2.2.2.2.2;obtain⟨q',g1,g2⟩:=hsu0 j sn hnj;rw[hq1]at g1;cases g1;exact g2
         exact(hbx.cell (p:=⟨ak,7+j,none⟩) hakl).trans h1
        have hXd2:BX wr.drew _ _ _ A L S3 [] _:=hXr.below hbx.drew
        have hownd:wr.drew.ownsRow (w.heap.size+1) 92 1 (.slice (some ⟨gb,0,none⟩) A.length capb) A.length (A.map fun a=>.pointer (some ⟨a,0,none⟩)):=
         own_below (own_below hown hbw (fun g hg=>by simp[Value.ownBlock]at hg;subst hg;exact(hown.lt gb rfl).2)) hbx.drew (fun g hg=>by simp[Value.ownBlock]at hg;subst hg;have:=(hown.lt gb rfl).2;have:=hbw.size;omega)
        have y0:=hxb.cell 1 rfl;have sx:=hxb.lt;have HZ:=Yt hnj hq1 hap hlo;clear hnj hq1 hap hlo hsu3;go_wp2_with fail
        go_region_law (first
         |(refine Zj rfl 71 _ _ (by rfl) [.slice (some ⟨gb,0,none⟩) A.length capb,.pointer (some ⟨q,0,none⟩)] (by rfl) yZ ((La hXd2 (by omega) hownd HZ.out.2.1).mono ?_);rintro e wx ⟨rfl,rfl⟩;refine⟨_,rfl,?_⟩)
         |(refine YL wr _ rfl _ _ 31 rfl (wo.heap.size+1) 3 (.int .i64 0) 1 8 Tryz.underlying31 info3 rfl (by decide) (by decide) hso (by rfl) [.int .i64 sn] rfl (by simp[Value.oneCell']) (by rfl) (by omega) (by omega) (by first|exact .inl rfl|exact .inr rfl) ?_;intro g cap w3 hown4 hg4 hat4 hlt4;have hxb3:=hxb.grown hg4 (own_ne hso hxb.ty (by decide));have c0:=hxb3.cell 1 rfl;have cf:=hxb3.free 1))
        all_goals
         have hS:=AY hxb hso HZ.out.2.2.2 HZ.out.2.2.1 hbx HZ.out.1 hown4 hg4 (hat4.imp id (fun h=>⟨h.1,by omega⟩));go_wp2_with fail
         exact⟨hS,by simp[intOf];omega⟩
       ·have hjn:j=kk.succs.length:=by omega
        subst hjn;have hso:wr.ownsRow (wo.heap.size+1) 3 1 sv3 kk.succs.length (kk.succs.map fun s:Nat=>.int .i64 (s:Int)):=by simpa using hso
        obtain⟨sa,sc,rfl⟩:=ZX hso;obtain⟨gva,gvc,rfl⟩:=ZX HR.out.2.2.1;have hgr:ZV wr w2.heap.size _ _:=Yq hg hbx hg.lt;have hgo2:wr.ownsRow (w2.heap.size+1) 45 7 _ k rows.flatten:=own_below HR.out.2.2.1 hbx (fun g hg=>(HR.out.2.2.1.lt g hg).2);have g0:=hgr.cell 0 rfl;have x0:=hxb.cell 0 rfl;have x1:=hxb.cell 1 rfl;have x2:=hxb.cell 2 rfl;have x3:=hxb.cell 3 rfl;have x4:=hxb.cell 4 rfl;have x5:=hxb.cell 5 rfl;have x6:=hxb.cell 6 rfl;have sw:=hbw.size;have hgl:=hg.lt;have hk1:k<=100000:=by omega
        have HZ:=Za hap hlo hso;clear hap hlo hso hsu3;go_wp2_with (at_builtin;go_loud (refine ZG wr rfl _ _ 37 rfl (w2.heap.size+1) 45 (.agg #[.slice none 0 0,.slice none 0 0,.int .i64 0,false,.int .i64 0,.int .i64 0,false]) 7 88 Tryz.underlying37 vk rfl (by decide) (by decide) hgo2 (by rfl) [.slice la kk.nodes.length lc,.slice sa kk.succs.length sc,.int .i64 k,kk.live,.int .i64 kk.kind,.int .i64 (X9 kk.of),kk.ends] rfl ?c1 (by rfl) (by omega) (by omega) ?_))
        case c1=>simp[Value.oneCell']
        intro g cap w6 hown6 hg6 hat6 hlt6;have hg7:=hgr.grown hg6 (own_ne hgo2 hgr.ty (by decide));have u0:=hg7.cell 0 rfl;have u0f:=hg7.free 0;have hS:=xC HR.out.2.2.2.2.1 HR.out.1 hg HR.out.2.2.1 HR.out.2.1 hbw hbx HZ.out.2.1 HZ.out.2.2 hown6 hg6;go_wp2_with fail
        exact⟨hS,by simp[intOf];omega⟩
  ·have hkn:k=S3.bks.length:=by have:=HL.out.1;omega
   have HKN:=Z9 hkn;obtain⟨gva,gvc,rfl⟩:=ZX hgo;have g0:=hg.cell 0 rfl;have hb0:Below w.heap.size w wr:=F2.trans (hbw.mono F2.size);have hrw:ZV wr w.heap.size [.slice none 0 0] 39:=Yq hr2 hbw hr2.lt;have v0:=hrw.cell 0 rfl;have v0f:=hrw.free 0;have sw:=hbw.size;have HR:=Za hrl hpc hgo;clear hrl hpc hgo hkn;go_wp2_with fail
   have hrw2:=hrw.set 0 (.slice gva k gvc)
   ((try simp only[Exit.inBlock,Exit.then]);refine bodyPost_ret (results_cell_row (P:=Tryz.prog) rfl _ _ w.heap.size 39 #[.slice gva k gvc] (0,0) _ rfl hrw2 Tryz.underlying39 rfl (by kernel_rfl)) rfl ?_)
   refine⟨_,rfl,⟨rows,by simp[HR.out.1,HKN.out],?_,?_⟩,hb0.setCell (Nat.le_refl _) _⟩
   ·have h1:=ZH HR.out.2.2 ⟨w.heap.size,0,none⟩ (.slice gva k gvc) (fun e=>own_ne HR.out.2.2 hrw.ty (by decide) e);rw[show(S3.bks.mapIdx Bk.pc).length=k by simp[HKN.out]];exact YW h1 (by have:=F2.size;omega)
   ·intro i cs p hi hp;rw[List.getElem?_mapIdx,Option.map_eq_some_iff]at hp;obtain⟨kb,h1,rfl⟩:=hp;obtain⟨lv,sv,e1,e2,e3⟩:=HR.out.2.1 i cs kb hi h1;have hm:w.heap.size<=w2.heap.size+1:=by have:=F2.size;omega
    exact⟨lv,sv,e1,YW (ZH e2 _ _ (fun e=>own_ne e2 hrw.ty (by decide) e)) hm,YW (ZH e3 _ _ (fun e=>own_ne e3 hrw.ty (by decide) e)) hm⟩
end
section
structure Rt (t:T):Prop where
 Yr:t.Yr true
 ok:t.ok
 WV:t.WV t.labels [] false
 nodup:t.labels.Nodup
 lab: ∀ s∈t.labels,0 < s.size
 wt:t.wt<=1000
 lv:t.lv false<=30000
 it:t.it<=30000
def BS.start:BS:=(BS.none.new 2 (some 3)).at 0
theorem Tj {i:Nat} {k:Bk} (h:BS.start.bks[i]? =some k):i=0∧k=⟨2,some 3,[],[],false,false⟩:=by
 have h':([⟨2,some 3,[],[],false,false⟩]:List Bk)[i]? =some k:=h;cases i with
 |zero=>simp at h';exact⟨rfl,h'.symm⟩
 |succ i=>simp at h'
theorem LK (ls:List ByteArray):Rs ls [] [] [] [] 1 BS.start:=by
 refine⟨⟨List.nodup_nil,fun c hc=>?_,fun p hp=>by simp at hp,fun j y hj=>by simp[BS.start,BS.none,BS.new,BS.at]at hj,fun j j' y y' hj=>by simp[BS.start,BS.none,BS.new,BS.at]at hj,fun j j' y y' hj=>by simp[BS.start,BS.none,BS.new,BS.at]at hj,fun i k hk=>?_⟩,⟨fun i k hk=>?_,by simp[BS.start,BS.none,BS.new,BS.at],fun i k hk=>?_,by simp[BS.start,BS.none,BS.new,BS.at],⟨_,rfl,rfl,rfl⟩⟩,fun s=>⟨?_,fun h=>by simp at h⟩,⟨fun f hf=>by simp at hf,fun f hf=>by simp at hf,fun f hf=>by simp at hf,fun f hf=>by simp at hf,fun f hf=>by simp at hf⟩,fun d hd=>by simp at hd⟩
 ·have:c=0:=by
   have h:(some 0:Option Nat)=some c:=hc;exact(Option.some.inj h).symm
  subst this;exact⟨by simp,_,rfl,rfl⟩
 ·obtain⟨rfl,rfl⟩:=Tj hk;exact⟨rfl,by show(1:Int)<=2;decide,by show(2:Int)<=19;decide,by simp,by simp⟩
 ·obtain⟨rfl,rfl⟩:=Tj hk;refine⟨by simp,fun p hp=>?_⟩;cases hp;unfold PB;omega
 ·obtain⟨rfl,rfl⟩:=Tj hk;simp
 ·rintro⟨j,y,k,h1,_⟩;simp[BS.start,BS.none,BS.new,BS.at]at h1
structure Fin (t:T) (S S3:BS) (c:Nat):Prop where
 built:Built t S S3 c
 rs:Rs t.labels t.labels [] [] [] (1+16*t.wt) S
 cur:S.cur=some c
 first: ∃ k,S.bks[0]? =some k∧k.kind=2∧k.of=some 3
 get: ∀ (i:Nat) k,S.bks[i]? =some k->S3.bks[i]? =some (if i=c∧ZB S.bks c=true then { k with live:=true,Zn:=true,nodes:=k.nodes++ [⟨2,true⟩] } else { k with live:=ZB S.bks i })
 len:S3.bks.length=S.bks.length
 asked:S3.asked=S.asked
theorem Vb {t:T} (h:Rt t): ∃ S S3 c,Fin t S S3 c:=by
 have hall:=T.Xl (Q:=LZ t.labels) (fun t=>LW t) t;obtain⟨S,e1,H,c,hc⟩:=hall h.Yr [] [] [] [] 1 BS.start 0 0 false (LK _) ⟨0,rfl⟩ h.ok h.WV (by simp) ⟨fun s hs=>⟨hs,by simp⟩,h.nodup⟩ (by have:=h.wt;omega) (by have:=h.lv;omega) (by have:=h.it;omega);have H':Rs t.labels t.labels [] [] [] (1+16*t.wt) S:=H.perm (by intro s;simp);have hw:=h.wt;have hlen:S.bks.length<=20000:=by have:=H.bd.len;omega
 obtain⟨k0,hk0,hk01,hk02⟩:=H.bd.fst;have hpos:0 < S.bks.length:=ZW hk0;obtain⟨hcP,kc,hkc,hks⟩:=H.w.cur c hc;have hcl:=ZW hkc;have hnod:=H.bd.nod c kc hkc;have hlive: ∀ k∈S.bks,k.live=false:=fun k hk=>by
  obtain⟨i,hi⟩:=List.getElem?_of_mem hk;exact(H.w.blk i k hi).1
 have hrange: ∀ (i:Nat) (k:Bk),S.bks[i]? =some k-> ∀ s∈k.succs,s < S.bks.length:=fun i k hk s hs=>by
  obtain⟨q,h1,_⟩:=(H.w.blk i k hk).2.2.2.2 s hs;exact ZW h1
 have hkl:=XO (f:=ZB S.bks) hkc;have hcl':(S.lived (ZB S.bks)).cur=some c:=hc;have key: ∃ S3,S.FB (ZB S.bks) c=some S3∧(∀ (i:Nat) k,S.bks[i]? =some k->S3.bks[i]? =some (if i=c∧ZB S.bks c=true then { k with live:=true,Zn:=true,nodes:=k.nodes++ [⟨2,true⟩] } else { k with live:=ZB S.bks i }))∧S3.bks.length=S.bks.length∧S3.asked=S.asked:=by
  unfold BS.FB;cases hf:ZB S.bks c with
  |false=>
   refine⟨S.lived (ZB S.bks),by simp,fun i k hk=>?_,Wp,rfl⟩;rw[if_neg (by simp)];exact XO hk
  |true=>
   have e2:(S.lived (ZB S.bks)).Vl=some ((S.lived (ZB S.bks)).set c { kc with live:=ZB S.bks c,Zn:=true }):=by
    unfold BS.Vl;rw[YC hcl' hkl];rfl
   have hk2:((S.lived (ZB S.bks)).set c { kc with live:=ZB S.bks c,Zn:=true }).bks[c]? =some { kc with live:=ZB S.bks c,Zn:=true } :=by
    rw[Zt (by rw[Wp];exact hcl),if_pos rfl]
   have e3:((S.lived (ZB S.bks)).set c { kc with live:=ZB S.bks c,Zn:=true }).Zc ⟨2,true⟩=some (((S.lived (ZB S.bks)).set c { kc with live:=ZB S.bks c,Zn:=true }).set c { kc with live:=ZB S.bks c,Zn:=true,nodes:=kc.nodes++ [⟨2,true⟩] }):=by
    unfold BS.Zc;rw[YC (show((S.lived (ZB S.bks)).set c { kc with live:=ZB S.bks c,Zn:=true }).cur=some c from hc) hk2,if_pos (by show kc.nodes.length<=100000;omega)];rfl
   refine⟨((S.lived (ZB S.bks)).set c { kc with live:=ZB S.bks c,Zn:=true }).set c { kc with live:=ZB S.bks c,Zn:=true,nodes:=kc.nodes++ [⟨2,true⟩] },by simp[e2,e3],fun i k hk=>?_,by simp[BS.set,Wp],rfl⟩;have hl2:c < ((S.lived (ZB S.bks)).set c { kc with live:=ZB S.bks c,Zn:=true }).bks.length:=by simp only[BS.set,List.length_set];rw[Wp];exact hcl
   rw[Zt hl2];by_cases e:i=c
   ·subst e;rw[hkc]at hk;cases hk;rw[if_pos rfl,if_pos ⟨rfl,rfl⟩,hf]
   ·rw[if_neg e,Zt (by rw[Wp];exact hcl),if_neg e,if_neg (fun h=>e h.1)];exact XO hk
 obtain⟨S3,g1,g2,g3,g4⟩:=key;exact⟨S,S3,c,⟨e1,hc,hlive,hrange,by omega,hpos,g1⟩,H',hc,⟨k0,hk0,hk01,hk02⟩,g2,g3,g4⟩
theorem Fin.bk {t:T} {S S3:BS} {c:Nat} (h:Fin t S S3 c) {i:Nat} {k3:Bk} (hk:S3.bks[i]? =some k3): ∃ k,S.bks[i]? =some k∧k3.kind=k.kind∧k3.of=k.of∧k3.succs=k.succs∧k3.live=ZB S.bks i∧((k3.nodes=k.nodes∧k3.Zn=k.Zn)∨(i=c∧ZB S.bks c=true∧k3.nodes=k.nodes++ [⟨2,true⟩]∧k3.Zn=true)):=by
 have hi:i < S.bks.length:=by rw[<-h.len];exact ZW hk
 have hk0:=List.getElem?_eq_getElem hi;generalize S.bks[i]=k at hk0;have:=h.get i k hk0;rw[hk]at this;refine⟨k,hk0,?_⟩;split at this
 ·next hc=>
  cases this;exact⟨rfl,rfl,rfl,by rw[hc.1];exact hc.2.symm,.inr ⟨hc.1,hc.2,rfl,rfl⟩⟩
 ·cases this;exact⟨rfl,rfl,rfl,rfl,.inl ⟨rfl,rfl⟩⟩
theorem Fin.fine {t:T} {S S3:BS} {c:Nat} (h:Fin t S S3 c) (hw:t.wt<=1000):Fine S3∧S3.bks.length<=100000∧0 < S3.bks.length∧ ∀ (i:Nat) k,S3.bks[i]? =some k->0<=k.kind∧k.kind<=19:=by
 have hl:=h.rs.bd.len;refine⟨fun i k3 hk=>?_,by rw[h.len];omega,by rw[h.len];exact h.built.pos,fun i k3 hk=>?_⟩
 ·obtain⟨k,h1,h2,h3,h4,h5,h6⟩:=h.bk hk;obtain⟨p1,p2⟩:=h.rs.bd.pos i k h1;have p3:=h.rs.bd.nod i k h1;refine⟨?_,by rw[h3];exact p2,?_,by rw[h4,h.len];exact h.built.range i k h1⟩
  ·intro n hn;rcases h6 with⟨e1,_⟩ |⟨_,_,e1,_⟩
   ·rw[e1]at hn;exact p1 n hn
   ·rw[e1]at hn;rcases List.mem_append.1 hn with hn|hn
    ·exact p1 n hn
    ·simp at hn;subst hn;unfold PB;simp
  ·rcases h6 with⟨e1,_⟩ |⟨_,_,e1,_⟩
   ·rw[e1];omega
   ·rw[e1];simp;omega
 ·obtain⟨k,h1,h2,_⟩:=h.bk hk;have:=h.rs.w.blk i k h1;rw[h2];omega
end
section
section
theorem JH {S3:BS} {i:Nat} {p:Pc} (h:(S3.bks.mapIdx Bk.pc)[i]? =some p): ∃ k,S3.bks[i]? =some k∧p=k.pc i:=by
 rw[List.getElem?_mapIdx]at h;cases hk:S3.bks[i]? with
 |none=>rw[hk]at h;simp at h
 |some k=>rw[hk]at h;exact⟨k,rfl,by simpa using h.symm⟩
theorem N9 {S3:BS} {i:Nat} {k:Bk} (h:S3.bks[i]? =some k):(S3.bks.mapIdx Bk.pc)[i]? =some (k.pc i):=by
 rw[List.getElem?_mapIdx,h];rfl
section
variable {t:T} {S S3:BS} {c:Nat} (F:Fin t S S3 c)
include F
theorem Fin.W3 {i:Nat} {k3:Bk} (h:S3.bks[i]? =some k3):1<=k3.kind∧k3.kind<=19∧k3.succs.length<=2∧(∀ s∈k3.succs,s < S3.bks.length)∧k3.live=ZB S.bks i∧(k3.kind=1->k3.live=false):=by
 obtain⟨k,g1,g2,g3,g4,g5,_⟩:=F.bk h;obtain⟨f1,f2,f3,f4,f5⟩:=F.rs.w.blk i k g1;refine⟨by rw[g2];exact f2,by rw[g2];exact f3,by rw[g4];exact f4,fun s hs=>?_,g5,fun hk=>?_⟩
 ·rw[g4]at hs;obtain⟨q,hq,_⟩:=f5 s hs;rw[F.len];exact ZW hq
 ·rw[g5];cases hl:ZB S.bks i with
  |false=>rfl
  |true=>
   exfalso;unfold ZB at hl;simp only[decide_eq_true_eq]at hl;rw[g2]at hk;cases hl with
   |zero=>
    obtain⟨q,hq,hq2,_⟩:=F.first;rw[g1]at hq;cases hq;omega
   |step h1 h2 h3=>
    obtain⟨q,hq,hq2⟩:=(F.rs.w.blk _ _ h2).2.2.2.2 _ h3;rw[g1]at hq;cases hq;exact hq2 hk
theorem Fin.WG {i:Nat} {p:Pc} (h:(S3.bks.mapIdx Bk.pc)[i]? =some p):p.index=i∧0<=p.kind∧p.kind<=19∧p.succs.length<=2∧(∀ s∈p.succs,0<=s∧s < ((S3.bks.mapIdx Bk.pc).length:Int))∧(p.kind=1->p.live=false)∧p.live=ZB S.bks i:=by
 obtain⟨k,hk,rfl⟩:=JH h;obtain⟨f1,f2,f3,f4,f5,f6⟩:=F.W3 hk;refine⟨rfl,by simp only[Bk.pc];omega,f2,by simpa [Bk.pc]using f3,fun s hs=>?_,f6,f5⟩;obtain⟨u,hu,rfl⟩:=List.mem_map.1 hs;have:=f4 u hu;simp only[List.length_mapIdx];omega
theorem Fin.iU: ∃ p,(S3.bks.mapIdx Bk.pc)[0]? =some p∧p.live=true∧p.kind=2∧p.of= -3:=by
 obtain⟨k,hk,hk2,hk3⟩:=F.first;have hl:0 < S3.bks.length:=by rw[F.len];exact ZW hk
 have h3:=List.getElem?_eq_getElem hl;generalize S3.bks[0]=k3 at h3;obtain⟨k',g1,g2,g3,g4,g5,_⟩:=F.bk h3;rw[hk]at g1;cases g1;refine⟨_,N9 h3,?_,by simp only[Bk.pc];rw[g2,hk2],by simp only[Bk.pc];rw[g3,hk3];rfl⟩;show k3.live=true;rw[g5];unfold ZB;simp[Reach.zero]
theorem Fin.live {i:Nat} {p:Pc} (h:(S3.bks.mapIdx Bk.pc)[i]? =some p):p.live=true↔Reach S3.bks i:=by
 rw[(F.WG h).2.2.2.2.2.2];clear h;unfold ZB;simp only[decide_eq_true_eq];have e: ∀ {i:Nat} {k:Bk},S.bks[i]? =some k-> ∃ k3,S3.bks[i]? =some k3∧k3.succs=k.succs:=by
  intro i k hk;have hl:i < S3.bks.length:=by rw[F.len];exact ZW hk
  have h3:=List.getElem?_eq_getElem hl;obtain⟨k',g1,g2,g3,g4,_⟩:=F.bk h3;rw[hk]at g1;cases g1;exact⟨_,h3,g4⟩
 constructor
 ·intro h
  induction h with
  |zero=>exact .zero
  |step _ h2 h3 ih=>
   obtain⟨k3,g1,g2⟩:=e h2;exact .step ih g1 (by rw[g2];exact h3)
 ·intro h
  induction h with
  |zero=>exact .zero
  |step _ h2 h3 ih=>
   obtain⟨k,g1,g2,g3,g4,_⟩:=F.bk h2;exact .step ih g1 (by rw[<-g4];exact h3)
end
end
end
section
structure Src (w:World) (t:T) (v:Value):Prop where
 data: ∃ bb o,ZM v bb o t.len∧t.At (Zl w w.heap.size) true bb o
theorem Src.low {w w':World} {t:T} {v:Value} (h:Src w t v) (hb:Below w.heap.size w w'):Src w' t v:=by
 obtain⟨bb,o,h1,h2⟩:=h.data;refine⟨bb,o,h1,h2.mono fun b o v hc=>?_⟩;have:=Zl.below hb b o v hc;exact⟨by have:=this.1;have:=hb.size;omega,this.2⟩
theorem yA: ∀ t:T,t.Z4<=2*t.it:=by
 intro t
 induction t with
 |nil=>simp[T.Z4]
 |st h b e c tl ih1 ih2 ih3 ih4=>
  have h1: ∀ p:Bool,p.toNat<=1:=fun p=>by cases p<;>simp
  have:=h1 (decide (0 < h.target.size));have:=h1 (decide (0 < h.label.size));simp only[T.Z4,T.it];omega
 |cl x b tl ih1 ih2=>simp only[T.Z4,T.it];omega
theorem CU: ∀ (t:T) (sw:Bool),t.ok->(t.stops sw).length=t.lv sw:=by
 intro t
 induction t with
 |nil=>intro sw _;rfl
 |st h b e c tl ih1 ih2 ih3 ih4=>
  intro sw ⟨h0,h1,h2,h3,h4⟩;simp only[T.stops,T.lv,List.length_append,ih1 _ h1,ih2 _ h2,ih3 _ h3,ih4 _ h4,h0.Wq]
 |cl x b tl ih1 ih2=>
  intro sw ⟨_,_,h1,h2⟩;simp only[T.stops,T.lv,List.length_append,List.length_replicate,ih1 _ h1,ih2 _ h2]
theorem Src.body {w:World} {t:T} {v:Value} (h:Src w t v) (r:Rt t):Body w t v:=by
 have h1:=r.lv;have h2:=r.it;have h3:=yA t;have h4:=CU t false r.ok;refine⟨?_,r.ok,h.data⟩;unfold T.Y5 Mk.add Mk.none Mk.small;simp only[List.nil_append,List.length_nil];omega
theorem oK {n:Nat} : ∀ {rs:List (List Value)} {i j:Nat} {r:List Value},(∀ r∈rs,r.length=n)->rs[i]? =some r->j < n->rs.flatten[i*n+j]? =r[j]? :=by
 intro rs
 induction rs with
 |nil=>intro i j r _ hi;simp at hi
 |cons q rs ih=>
  intro i j r h hi hj;have hq:=h q (by simp);cases i with
  |zero=>
   simp at hi;subst hi;simp only[List.flatten_cons,Nat.zero_mul,Nat.zero_add];rw[List.getElem?_append_left (by omega)]
  |succ i=>
   simp only[List.getElem?_cons_succ]at hi;simp only[List.flatten_cons];rw[List.getElem?_append_right (by rw[hq,Nat.add_mul];omega),hq,show(i+1)*n+j -n=i*n+j by rw[Nat.add_mul];omega];exact ih (fun r hr=>h r (by simp[hr])) hi hj
structure yB (w:World) (lo g i:Nat) (p:Pc) (la:Option Addr) (lc:Nat) (sa:Option Addr) (sc:Nat):Prop where
 cell: ∀ (j:Nat) (u:Value),([.slice la p.leaves.length lc,.slice sa p.succs.length sc,.int .i64 p.index,p.live,.int .i64 p.kind,.int .i64 p.of,p.Zn]:List Value)[j]? =some u->w.cell? ⟨g,i*7+j,none⟩=some u
 lv:w.ownsRow lo 3 1 (.slice la p.leaves.length lc) p.leaves.length (p.leaves.map (Value.int .i64))
 sv:w.ownsRow lo 3 1 (.slice sa p.succs.length sc) p.succs.length (p.succs.map (Value.int .i64))
theorem yB.all {w:World} {lo g i:Nat} {p:Pc} {la sa:Option Addr} {lc sc:Nat} (h:yB w lo g i p la lc sa sc):
  w.cell? ⟨g,i*7,none⟩=some (.slice la p.leaves.length lc)∧w.cell? ⟨g,i*7+1,none⟩=some (.slice sa p.succs.length sc)∧w.cell? ⟨g,i*7+2,none⟩=some (.int .i64 p.index)∧w.cell? ⟨g,i*7+3,none⟩=some (.bool p.live)∧
  w.cell? ⟨g,i*7+4,none⟩=some (.int .i64 p.kind)∧w.cell? ⟨g,i*7+5,none⟩=some (.int .i64 p.of)∧w.cell? ⟨g,i*7+6,none⟩=some (.bool p.Zn):=
 ⟨h.cell 0 _ rfl,h.cell 1 _ rfl,h.cell 2 _ rfl,h.cell 3 _ rfl,h.cell 4 _ rfl,h.cell 5 _ rfl,h.cell 6 _ rfl⟩
structure BO (w:World) (lo g:Nat) (ps:List Pc):Prop where
 pc: ∀ (i:Nat) p,ps[i]? =some p-> ∃ la lc sa sc,yB w lo g i p la lc sa sc
 lt:lo<=g∧g < w.heap.size
theorem ND.row {w:World} {base:Nat} {gv:Value} {ps:List Pc} (h:ND w base gv ps) (hp:0 < ps.length): ∃ g cap,gv=.slice (some ⟨g,0,none⟩) ps.length cap∧BO w base g ps:=by
 obtain⟨rows,h1,h2,h3⟩:=h;have hv: ∃ g cap,gv=.slice (some ⟨g,0,none⟩) ps.length cap:=by
  rcases h2.2 with⟨_,h0⟩ |⟨g,cap,cur,hv,_⟩
  ·omega
  ·exact⟨g,cap,hv⟩
 obtain⟨g,cap,rfl⟩:=hv;have h7: ∀ r∈rows,r.length=7:=by
  intro r hr;obtain⟨i,hi,rfl⟩:=List.getElem_of_mem hr;obtain⟨lv,sv,e,_⟩:=h3 i rows[i] ps[i] (List.getElem?_eq_getElem hi) (List.getElem?_eq_getElem (by omega));rw[e];rfl
 refine⟨g,cap,rfl,fun i p hi=>?_,h2.lt g rfl⟩;have hil:=ZW hi;have hr:=List.getElem?_eq_getElem (l:=rows) (i:=i) (by omega);obtain⟨lv,sv,e,e1,e2⟩:=h3 i _ p hr hi;rw[e]at hr;obtain⟨la,lc,rfl⟩:=ZX e1;obtain⟨sa,sc,rfl⟩:=ZX e2;refine⟨la,lc,sa,sc,fun j u hu=>?_,e1,e2⟩;have hj:j < 7:=by have:=ZW hu;simpa using this
 have key:rows.flatten[i*7+j]? =([.slice la p.leaves.length lc,.slice sa p.succs.length sc,.int .i64 p.index,p.live,.int .i64 p.kind,.int .i64 p.of,p.Zn]:List Value)[j]? :=oK h7 hr hj;rw[World.ownsRow.cellAt h2 (i*7+j) (by omega),key];exact hu
theorem yB.low {w w':World} {lo g i:Nat} {p:Pc} {la sa:Option Addr} {lc sc:Nat} (h:yB w lo g i p la lc sa sc) (hb:Below w.heap.size w w') (hg:g < w.heap.size):yB w' lo g i p la lc sa sc:=
 ⟨fun j u hu=>(hb.cell (p:=⟨g,i*7+j,none⟩) hg).trans (h.cell j u hu),own_below h.lv hb (fun k hk=>(h.lv.lt k hk).2),own_below h.sv hb (fun k hk=>(h.sv.lt k hk).2)⟩
theorem BO.low {w w':World} {lo g:Nat} {ps:List Pc} (h:BO w lo g ps) (hb:Below w.heap.size w w'):BO w' lo g ps:=
 ⟨fun i p hp=>let⟨la,lc,sa,sc,k⟩:=h.pc i p hp;⟨la,lc,sa,sc,k.low hb h.lt.2⟩,h.lt.1,by have:=h.lt.2;have:=hb.size;omega⟩
theorem ZC {w w':World} {b:Nat} {cs:List Value} {t:Nat} (h:ZV w b cs t) (hb:Below w.heap.size w w'):ZV w' b cs t:=by
 have:=h.lt;unfold ZV at*;rw[hb.block b this];exact h
theorem YT (i n:Int) (w:World):Calls Tryz.prog 35 #[.int .i64 i,.int .i64 n] w fun e w'=>e=.returned (.bool (decide (0<=i∧i < n)))∧w=w':=by
 by_cases h1:0<=i
 ·by_cases h2:i < n
  ·rw[show decide (0<=i∧i < n)=true by simp[h1,h2]];go_enter Tryz.func35,Tryz.ntmps35;go_wp2_with fail
   go_ret;exact⟨by simp,rfl⟩
  ·rw[show decide (0<=i∧i < n)=false by simp[h2]];go_enter Tryz.func35,Tryz.ntmps35;go_wp2_with fail
   go_ret;exact⟨by simp,rfl⟩
 ·rw[show decide (0<=i∧i < n)=false by simp[h1]];go_enter Tryz.func35,Tryz.ntmps35;go_wp2_with fail
  go_ret;exact⟨by simp,rfl⟩
theorem YZ {p:Nat} {r:Bool} {w:World} (h:w.cell? ⟨p,4,none⟩=some (.bool r)):Calls Tryz.prog 30 #[p] w fun e w'=>e=.returned (.bool r)∧w=w':=by
 go_enter Tryz.func30,Tryz.ntmps30;go_wp2_with fail
 go_ret;exact⟨rfl,rfl⟩
end
end Go.Proofs.YteedbaejpdjilaaGreat
