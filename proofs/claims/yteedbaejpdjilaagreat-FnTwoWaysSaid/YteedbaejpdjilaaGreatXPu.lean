/- Part of the proof: CutB. -/
import Derived.Test.YteedbaejpdjilaaGreatXPt
import Derived.Test.YteedbaejpdjilaaGreatXPs
set_option linter.all false
set_option maxRecDepth 100000
set_option maxHeartbeats 40000000
namespace Go.Proofs.YteedbaejpdjilaaGreat
open Go.RowKit
def Q5 (t:T):Prop:= ∀ (B cb:Nat) (L:Int) (d:Nat) (dz:Int) (w:World) (v:Value) (b o:Nat),dz=d->B<=cb->ZV w cb [.int .i64 L] 63-> -300<=L->L<=500->1<=d->d<=41->ZM v b o t.len->t.At (Zl w B) true b o->
 Calls Tryz.prog 64 #[cb,v,.int .i64 dz] w fun e w'=> ∃ v',e=.returned v'∧Vm (Vw w' w.heap.size none) (t.ct.l d L).1 true v'∧ZV w' cb [.int .i64 (t.ct.l d L).2] 63∧Fr [63] B w w'∧Only [cb] w w'
def wQ (t:T) (B cb:Nat) (w:World) (bb o d:Nat) (L0:Int) (ov ix:Value) (wr:World):Prop:= ∃ (k:Nat) (rest:T) (rows:List (List Value)) (L:Int),ix=.int .i64 k∧rest.All Q5∧rest.At (Zl w B) true bb (o+k*11)∧k+rest.len=t.len∧rows.length=k∧
 wr.ownsRow w.heap.size 76 11 ov k rows.flatten∧ZV wr cb [.int .i64 L] 63∧ -300<=L∧L+k<=500∧Fr [63] B w wr∧Only [cb] w wr∧(t.ct.l d L0).2=(rest.ct.l d L).2∧
 ∀ C':Cv,(∀ b o v,Vw wr w.heap.size ov.ownBlock b o v->C' b o v)-> ∀ rs',(rest.ct.l d L).1.Y3 C' true rs'->(t.ct.l d L0).1.Y3 C' true (rows++rs')
def Pz:List Value:= [.int .i64 0,.string ByteArray.empty,.string ByteArray.empty,.bool false,.bool false,.bool false,.bool false,.bool false,.slice none 0 0,.slice none 0 0,.slice none 0 0]
def z76:Value:=.agg #[.int .i64 0,ByteArray.empty,ByteArray.empty,false,false,false,false,false,.slice none 0 0,.slice none 0 0,.slice none 0 0]
theorem NJ:(Tryz.prog.info? 76).map (fun i=>(i.zero,i.size,i.bytes))=some (some z76,11,120):=by kernel_rfl
theorem Ij {C:Cv} :T.zero.Y3 C true [Pz]:=
 ⟨rfl,.slice none 0 0,0,0,.slice none 0 0,0,0,.slice none 0 0,0,0,[],rfl,.inl ⟨rfl,_,_,rfl⟩,trivial,.inl ⟨rfl,_,_,rfl⟩,trivial,.inl ⟨rfl,_,_,rfl⟩,trivial,rfl⟩
theorem QH {w:World} {lo n:Nat} {t:T} {k:Bool} {v:Value} {e:Nat} {rows:List (List Value)} (h:w.ownsRow lo e (if k then 11 else 2) v n rows.flatten) (hn:n<=100000) {C:Cv} (hC: ∀ b o v,Vw w lo none b o v->C b o v) (hr:t.Y3 C k rows) (hl:rows.length=n):Vm C t k v:=by
 have htl:=hr.len.1;rcases h.2 with⟨rfl,h0⟩ |⟨g,cap,cur,rfl,hg,hh,hc,hm,_⟩
 ·refine⟨0,0,.inl ⟨by omega,_,_,rfl⟩,hr.at (g:=0) (o:=0) (fun j v hj=>?_)⟩;have:rows= []:=List.length_eq_zero_iff.1 (by omega);subst this;simp at hj
 ·have hgl:=(h.lt g rfl).2;have hat:t.At C k g 0:=hr.at (fun j v hj=>by
   refine hC _ _ _ ⟨hg,hgl,by simp,?_⟩;have hj':=ZW hj;rw[World.ownsRow.cellAt h (0+j) (by rw[h.1]at hj';omega)];simpa using hj)
  rcases Nat.eq_zero_or_pos n with h0|h0
  ·exact⟨g,0,.inl ⟨by omega,some ⟨g,0,none⟩,cap,by rw[h0]⟩,hat⟩
  ·exact⟨g,0,.inr ⟨cap,by omega,by omega,by omega,by rw[<-htl,hl]⟩,hat⟩
theorem LX {w w':World} {lo:Nat} {X:List Nat} {own:Option Nat} (h:Only X w w') (hc: ∀ x∈X,x < lo): ∀ b o v,Vw w lo own b o v->Vw w' lo own b o v:=by
 intro b o v ⟨h1,h2,h3,h4⟩;refine⟨h1,by have:=h.size;omega,h3,?_⟩;rw[World.cell?_of_block (w:=w) (h.block b h2 (fun hb=>by have:=hc b hb;omega))];exact h4
theorem Uw {w w':World} {lo cb:Nat} {own:Option Nat} (h:Only [cb] w w') (hc:cb < lo): ∀ b o v,Vw w lo own b o v->Vw w' lo own b o v:=by
 intro b o v ⟨h1,h2,h3,h4⟩;refine⟨h1,by have:=h.size;omega,h3,?_⟩;rw[World.cell?_of_block (w:=w) (h.block b h2 (by simp;omega))];exact h4
theorem Uk {w w':World} {lo:Nat} {own own':Option Nat} (h:w.grownBy w' own) (hn: ∀ g,own'=some g->own=some g∨w.heap.size<=g): ∀ b o v,Vw w lo own b o v->Vw w' lo own' b o v:=by
 intro b o v ⟨h1,h2,h3,h4⟩;refine⟨h1,by have:=h.size;omega,?_,?_⟩
 ·intro e;rcases hn b e.symm with h5|h5
  ·exact h3 h5.symm
  ·omega
 ·rw[World.cell?_of_block (w:=w) (h.block b h2 h3)];exact h4
theorem Vw.none {w:World} {lo:Nat} {own:Option Nat} : ∀ b o v,Vw w lo own b o v->Vw w lo none b o v:=fun _ _ _ ⟨h1,h2,_,h4⟩=>⟨h1,h2,by simp,h4⟩
theorem Ot {t rest:T} {B cb d k:Nat} {L0 L L':Int} {w wr wX w6:World} {ov:Value} {rows:List (List Value)} {g cap:Nat} (hcl:cb < w.heap.size) (hB:B<=cb) (rl:rows.length=k) (hk:k<=800) (hF:Fr [63] B w wr) (hO:Only [cb] w wr)
  (hsnd:(t.ct.l d L0).2=(rest.ct.l d L).2) (hprev: ∀ C':Cv,(∀ b o v,Vw wr w.heap.size ov.ownBlock b o v->C' b o v)-> ∀ rs',(rest.ct.l d L).1.Y3 C' true rs'->(t.ct.l d L0).1.Y3 C' true (rows++rs'))
  (he:rest.ct.l d L=(.zero,L')) (fX:Fr [63] B wr wX) (oX:Only [cb] wr wX) (hX:wX.ownsRow w.heap.size 76 11 ov k rows.flatten) (hcX:ZV wX cb [.int .i64 L'] 63)
  (h6:w6.ownsRow w.heap.size 76 11 (.slice (some ⟨g,0,none⟩) (k+1) cap) (k+1) (rows.flatten++Pz)) (hg:wX.grownBy w6 ov.ownBlock):
  Vm (Vw w6 w.heap.size none) (t.ct.l d L0).1 true (.slice (some ⟨g,0,none⟩) (k+1) cap)∧ZV w6 cb [.int .i64 (t.ct.l d L0).2] 63∧Fr [63] B w w6∧Only [cb] w w6:=by
 have s1:=hF.size;have s2:=fX.size;have hne: ∀ x,ov.ownBlock=some x->w.heap.size<=x:=fun x hx=>(hX.lt x hx).1;refine⟨QH (k:=true) (rows:=rows++ [Pz]) (n:=k+1) (by simpa using h6) (by omega) (fun _ _ _ h=>h) ?_ (by simp[rl]),?_,?_,?_⟩
 ·refine hprev _ (fun b o v h=>Uk hg (by simp) b o v (Uw oX hcl b o v h)) [Pz] ?_;rw[he];exact Ij
 ·rw[hsnd,he];exact hcX.grown hg (fun e=>by have:=hne cb e.symm;omega)
 ·exact(hF.trans fX).UL hg (by omega) (fun x hx=>⟨hne x hx,by have:=hne x hx;omega⟩)
 ·exact(hO.trans oX).grown hg (fun x hx=>.inr (hne x hx))
theorem NW (args:Array Value) (w:World):(callFunc 64 args).run Tryz.prog w=.ok (.enter 64 args) w:=by kernel_rfl
def nM (h:Hd) (b' e':T) (B cb:Nat) (wr:World) (d:Nat) (L:Int) (bv ev cv:Value) (wx:World):Prop:= ∃ v1 v2,ZV wx wr.heap.size [.int .i64 h.kind,h.label,h.target,h.init,h.cond,h.post,h.hasElse,h.chain,bv,ev,cv] 125∧
 ZV wx (wr.heap.size+1) [.int .i64 h.kind,h.label,h.target,h.init,h.cond,h.post,h.hasElse,h.chain,v1,v2,.slice none 0 0] 76∧
 Vm (Vw wx (wr.heap.size+2) none) (b'.ct.l (d+1) (L -1)).1 true v1∧Vm (Vw wx (wr.heap.size+2) none) (e'.ct.l (d+1) (b'.ct.l (d+1) (L -1)).2).1 true v2∧
 ZV wx cb [.int .i64 (e'.ct.l (d+1) (b'.ct.l (d+1) (L -1)).2).2] 63∧Fr [63] B wr wx∧Only [cb] wr wx
theorem Qw {w:World} {lo:Nat} {own:Option Nat} (p:Addr) (u:Value) (hp:p.block < lo): ∀ b o v,Vw w lo own b o v->Vw (w.setCell p u) lo own b o v:=by
 intro b o v ⟨h1,h2,h3,h4⟩;refine⟨h1,by simpa [World.setCell]using h2,h3,?_⟩;rw[World.cell?_of_block (w:=w) (Below.heap_setCell w p u b (by omega))];exact h4
theorem wC {w:World} {lo lo':Nat} {own:Option Nat} (h:lo'<=lo): ∀ b o v,Vw w lo own b o v->Vw w lo' own b o v:=fun _ _ _ ⟨h1,h2,h3,h4⟩=>⟨by omega,h2,h3,h4⟩
theorem mid_step {h:Hd} {b' e':T} {B cb:Nat} {wr W3 w4 w5:World} {d:Nat} {L:Int} {bv ev cv v1 v2:Value} {b4 o4 b5 o5:Nat} (hcl:cb < wr.heap.size) (hB:B<=cb) (sW3:W3.heap.size=wr.heap.size+2) (fW3:Fr [63] B wr W3) (oW3:Only [cb] wr W3) (f4:Fr [63] B W3.drew w4) (o4':Only [cb] W3.drew w4) (f5:Fr [63] B w4 w5) (o5':Only [cb] w4 w5)
  (hx:ZV w5 wr.heap.size [.int .i64 h.kind,h.label,h.target,h.init,h.cond,h.post,h.hasElse,h.chain,bv,ev,cv] 125) (hy:ZV w5 (wr.heap.size+1) [.int .i64 h.kind,h.label,h.target,h.init,h.cond,h.post,h.hasElse,h.chain,.slice none 0 0,.slice none 0 0,.slice none 0 0] 76)
  (hs4:ZM v1 b4 o4 (b'.ct.l (d+1) (L -1)).1.len) (ha4:(b'.ct.l (d+1) (L -1)).1.At (Vw w4 W3.drew.heap.size none) true b4 o4) (hs5:ZM v2 b5 o5 (e'.ct.l (d+1) (b'.ct.l (d+1) (L -1)).2).1.len) (ha5:(e'.ct.l (d+1) (b'.ct.l (d+1) (L -1)).2).1.At (Vw w5 w4.heap.size none) true b5 o5)
  (hc5:ZV w5 cb [.int .i64 (e'.ct.l (d+1) (b'.ct.l (d+1) (L -1)).2).2] 63):
  nM h b' e' B cb wr d L bv ev cv ((w5.setCell ⟨wr.heap.size+1,8,none⟩ v1).setCell ⟨wr.heap.size+1,9,none⟩ v2):=by
 have s4:W3.heap.size<=w4.heap.size:=f4.size;refine⟨v1,v2,(hx.setOther _ _ (by show wr.heap.size≠wr.heap.size+1;omega)).setOther _ _ (by show wr.heap.size≠wr.heap.size+1;omega),(hy.set 8 v1).set 9 v2,⟨b4,o4,hs4,ha4.mono (fun b o v h=>?_)⟩,⟨b5,o5,hs5,ha5.mono (fun b o v h=>?_)⟩,(hc5.setOther _ _ (by show cb≠wr.heap.size+1;omega)).setOther _ _ (by show cb≠wr.heap.size+1;omega),?_,?_⟩
 ·exact Qw _ _ (by show wr.heap.size+1 < _;omega) _ _ _ (Qw _ _ (by show wr.heap.size+1 < _;omega) _ _ _ (Uw o5' (by omega) _ _ _ (wC (show wr.heap.size+2<=W3.drew.heap.size by simp;omega) _ _ _ h)))
 ·exact Qw _ _ (by show wr.heap.size+1 < _;omega) _ _ _ (Qw _ _ (by show wr.heap.size+1 < _;omega) _ _ _ (wC (by omega) _ _ _ h))
 ·exact((fW3.drew.trans (f4.trans f5)).YN (by omega) _ _ (by show wr.heap.size<=wr.heap.size+1;omega)).YN (by omega) _ _ (by show wr.heap.size<=wr.heap.size+1;omega)
 ·exact((oW3.drew.trans (o4'.trans o5')).set _ _ (.inr (by show wr.heap.size<=wr.heap.size+1;omega))).set _ _ (.inr (by show wr.heap.size<=wr.heap.size+1;omega))
def vV (h:Hd) (c:T) (B cb:Nat) (w wo wc:World) (b3 o3 d:Nat) (L2:Int) (v1 v2:Value) (ix:Value) (wx:World):Prop:= ∃ (m:Nat) (restc:T) (rowsc:List (List Value)) (Lc:Int) (cv:Value),ix=.int .i64 m∧restc.All Q5∧
 restc.At (Zl w B) false b3 (o3+m*2)∧m+restc.len=c.len∧rowsc.length=m∧ZV wx (wo.heap.size+1) [.int .i64 h.kind,h.label,h.target,h.init,h.cond,h.post,h.hasElse,h.chain,v1,v2,cv] 76∧
 wx.ownsRow wc.heap.size 132 2 cv m rowsc.flatten∧ZV wx cb [.int .i64 Lc] 63∧ -300<=Lc∧Lc+m<=500∧Fr [63] B wo wx∧Only [cb] wo wx∧Only [cb,wo.heap.size+1] wc wx∧(c.ct.c (d+1) L2).2=(restc.ct.c (d+1) Lc).2∧((restc.ct.c (d+1) Lc).1=none->(c.ct.c (d+1) L2).1=none)∧
 ∀ c',(restc.ct.c (d+1) Lc).1=some c'-> ∃ cw,(c.ct.c (d+1) L2).1=some cw∧ ∀ C':Cv,(∀ b o v,Vw wx wc.heap.size cv.ownBlock b o v->C' b o v)-> ∀ rs',c'.Y3 C' false rs'->cw.Y3 C' false (rowsc++rs')
theorem yK:(Tryz.prog.info? 132).map (fun i=>(i.zero,i.size,i.bytes))=some (some (.agg #[.int .i64 0,.slice none 0 0]),2,32):=by kernel_rfl
theorem zL {h:Hd} {c b6 tl6:T} {B cb:Nat} {w wo wc wi V3 w7 w8:World} {b3 o3 d m:Nat} {L2 Lc xe:Int} {v1 v2 cvv v7:Value} {rowsc:List (List Value)} {b8 o8 g cap:Nat} (hcl:cb < wo.heap.size) (hwc:wo.heap.size+1 < wc.heap.size) (hB:B<=cb) (hd:d+1<=41) (hL: ¬ Lc -1 < 0) (hLm:Lc+m<=500)
  (hlen:m+(T.cl xe b6 tl6).len=c.len) (rl:rowsc.length=m) (hq:tl6.All Q5) (ha:tl6.At (Zl w B) false b3 (o3+m*2+2)) (hcown:wi.ownsRow wc.heap.size 132 2 cvv m rowsc.flatten) (hFx:Fr [63] B wo wi) (hOx:Only [cb] wo wi) (hOc:Only [cb,wo.heap.size+1] wc wi)
  (hsnd:(c.ct.c (d+1) L2).2=((T.cl xe b6 tl6).ct.c (d+1) Lc).2) (hnone:((T.cl xe b6 tl6).ct.c (d+1) Lc).1=none->(c.ct.c (d+1) L2).1=none)
  (hsome: ∀ c',((T.cl xe b6 tl6).ct.c (d+1) Lc).1=some c'-> ∃ cw,(c.ct.c (d+1) L2).1=some cw∧ ∀ C':Cv,(∀ b o v,Vw wi wc.heap.size cvv.ownBlock b o v->C' b o v)-> ∀ rs',c'.Y3 C' false rs'->cw.Y3 C' false (rowsc++rs'))
  (fV:Fr [63] B wi V3) (oV:Only [cb] wi V3) (f7:Fr [63] B V3.drew w7) (o7:Only [cb] V3.drew w7) (hc7:ZV w7 cb [.int .i64 (b6.ct.l (d+1) (Lc -1)).2] 63) (hs7:ZM v7 b8 o8 (b6.ct.l (d+1) (Lc -1)).1.len) (ha7:(b6.ct.l (d+1) (Lc -1)).1.At (Vw w7 V3.drew.heap.size none) true b8 o8)
  (h8:w8.ownsRow wc.heap.size 132 2 (.slice (some ⟨g,0,none⟩) (m+1) cap) (m+1) (rowsc.flatten++ [.int .i64 xe,v7])) (hg:w7.grownBy w8 cvv.ownBlock) (hat:cvv.ownBlock=some g∨(cvv.ownBlock≠some g∧g=w7.heap.size+1))
  (hy:ZV w8 (wo.heap.size+1) [.int .i64 h.kind,h.label,h.target,h.init,h.cond,h.post,h.hasElse,h.chain,v1,v2,cvv] 76):
  vV h c B cb w wo wc b3 o3 d L2 v1 v2 (.int .i64 ((m:Int)+1)) (w8.setCell ⟨wo.heap.size+1,10,none⟩ (.slice (some ⟨g,0,none⟩) (m+1) cap)):=by
 have sV:wi.heap.size<=V3.heap.size:=fV.size;have s7:V3.heap.size<=w7.heap.size:=f7.size;have s8:=hg.size;have sx:=hFx.size;have sc:=hOc.size;have hlow:=(QU b6).1 (d+1) (Lc -1) hd;have hl1:=hlow.1 (by omega);have hl2:=hlow.2.2;have hl3: -126<=low (d+1):=by unfold low;omega
 have hne: ∀ x,cvv.ownBlock=some x->wc.heap.size<=x∧x < wi.heap.size:=fun x hx=>hcown.lt x hx;have hcut:(T.cl xe b6 tl6).ct.c (d+1) Lc=((tl6.ct.c (d+1) (b6.ct.l (d+1) (Lc -1)).2).1.map (.cl xe (b6.ct.l (d+1) (Lc -1)).1),(tl6.ct.c (d+1) (b6.ct.l (d+1) (Lc -1)).2).2):=by
  simp only[T.ct];rw[if_neg hL]
 rw[hcut]at hsnd hnone hsome;have hyb:some (wo.heap.size+1)≠(Value.slice (some ⟨g,0,none⟩) (m+1) cap).ownBlock:=by
  simp only[Value.ownBlock];intro e;have:wo.heap.size+1=g:=by simpa using e
  rcases hat with h1|⟨_,h1⟩
  ·have:=(hne g h1).1;omega
  ·omega
 have oT:Only [cb,wo.heap.size+1] wc (w8.setCell ⟨wo.heap.size+1,10,none⟩ (.slice (some ⟨g,0,none⟩) (m+1) cap)):=by
  refine(((hOc.trans (oV.mono (by simp))).trans ((Only.refl _ _).drew.trans (o7.mono (by simp)))).grown hg (fun x hx=>.inr (by have:=(hne x hx).1;omega))).set _ _ (.inl (by simp))
 have oW:Only [cb] wo (w8.setCell ⟨wo.heap.size+1,10,none⟩ (.slice (some ⟨g,0,none⟩) (m+1) cap)):=by
  refine(((hOx.trans oV).trans ((Only.refl _ _).drew.trans o7)).grown hg (fun x hx=>.inr (by have:=(hne x hx).1;omega))).set _ _ (.inr (by show wo.heap.size<=wo.heap.size+1;omega))
 have fT:Fr [63] B wo (w8.setCell ⟨wo.heap.size+1,10,none⟩ (.slice (some ⟨g,0,none⟩) (m+1) cap)):=by
  refine((hFx.trans (fV.drew.trans f7)).UL hg (by omega) (fun x hx=>⟨by have:=(hne x hx).1;omega,by have:=(hne x hx).1;omega⟩)).YN (by omega) _ _ (by show wo.heap.size<=wo.heap.size+1;omega)
 refine⟨m+1,tl6,rowsc++ [[.int .i64 xe,v7]],(b6.ct.l (d+1) (Lc -1)).2,_,by simp,hq,by rw[show o3+(m+1)*2=o3+m*2+2 by omega];exact ha,by simp[T.len]at hlen;omega,by simp[rl],hy.set 10 _,ZH (by simpa using h8) _ _ hyb,?_,by omega,by omega,fT,oW,oT,hsnd,fun h1=>hnone (by rw[h1];rfl),fun c1 h1=>?_⟩
 ·exact(hc7.grown hg (fun e=>by have:=(hne cb e.symm).1;omega)).setOther _ _ (by show cb≠wo.heap.size+1;omega)
 ·obtain⟨cw,g1,g2⟩:=hsome (.cl xe (b6.ct.l (d+1) (Lc -1)).1 c1) (by rw[h1];rfl);refine⟨cw,g1,fun C' hC rs' hr=>?_⟩;have hgn: ∀ g1,(Value.slice (some ⟨g,0,none⟩) (m+1) cap).ownBlock=some g1->cvv.ownBlock=some g1∨w7.heap.size<=g1:=by
   intro g1 e;have:g=g1:=by simpa [Value.ownBlock]using e
   subst this;rcases hat with h2|⟨_,h2⟩
   ·exact .inl h2
   ·exact .inr (by omega)
  have hv: ∀ b o v,Vw w7 wc.heap.size cvv.ownBlock b o v->C' b o v:=fun b o v hb=>hC b o v (Qw _ _ (by show wo.heap.size+1 < _;omega) b o v (Uk hg hgn b o v hb));rw[List.append_assoc];refine g2 C' (fun b o v hb=>hv b o v (Uw o7 (by omega) b o v (Uw oV (by omega) b o v hb))) _ ⟨rfl,v7,b8,o8,rs',rfl,hs7,ha7.mono (fun b o v ⟨e1,e2,e3,e4⟩=>hv b o v ⟨?_,e2,?_,e4⟩),hr⟩
  ·have e1':V3.heap.size<=b:=e1;omega
  ·intro e;have:=(hne b e.symm).2;have e1':V3.heap.size<=b:=e1;omega
theorem wZ {t c' b' e' tl':T} {h:Hd} {B cb:Nat} {w wo wc wi w6:World} {bb o d k:Nat} {L0 L L2 Lc:Int} {v1 v2 cvv ov:Value} {rows rowsc:List (List Value)} {g cap:Nat} {oo:Nat} (hcl:cb < w.heap.size) (hB:B<=cb) (hd1:1<=d) (hd:d+1<=41) (hL: ¬ (L -1 < 0∨40 < d)) (hLk:L+k<=500) (hwc:wo.heap.size+1 < wc.heap.size)
  (hlen:k+(T.st h b' e' c' tl').len=t.len) (rl:rows.length=k) (hq:tl'.All Q5) (ha:tl'.At (Zl w B) true bb oo) (hoo:oo=o+k*11+11) (hown:wo.ownsRow w.heap.size 76 11 ov k rows.flatten) (hF:Fr [63] B w wo) (hO:Only [cb] w wo)
  (hsnd:(t.ct.l d L0).2=((T.st h b' e' c' tl').ct.l d L).2) (hprev: ∀ C':Cv,(∀ b o v,Vw wo w.heap.size ov.ownBlock b o v->C' b o v)-> ∀ rs',((T.st h b' e' c' tl').ct.l d L).1.Y3 C' true rs'->(t.ct.l d L0).1.Y3 C' true (rows++rs'))
  (ht1:Vm (Vw wc (wo.heap.size+2) none) (b'.ct.l (d+1) (L -1)).1 true v1) (ht2:Vm (Vw wc (wo.heap.size+2) none) (e'.ct.l (d+1) (b'.ct.l (d+1) (L -1)).2).1 true v2) (hL2:L2=(e'.ct.l (d+1) (b'.ct.l (d+1) (L -1)).2).2) (hL2c:L2<=L -1)
  (hFx:Fr [63] B wo wi) (hOx:Only [cb] wo wi) (hOc:Only [cb,wo.heap.size+1] wc wi) (hcown:wi.ownsRow wc.heap.size 132 2 cvv c'.len rowsc.flatten) (rlc:rowsc.length=c'.len) (hcl8:c'.len<=100000) (hc:ZV wi cb [.int .i64 Lc] 63) (hLa: -300<=Lc)
  (hsndc:(c'.ct.c (d+1) L2).2=Lc) {cw:T} (hcw:(c'.ct.c (d+1) L2).1=some cw) (hrc: ∀ C':Cv,(∀ b o v,Vw wi wc.heap.size cvv.ownBlock b o v->C' b o v)-> ∀ rs',T.nil.Y3 C' false rs'->cw.Y3 C' false (rowsc++rs'))
  (h6:w6.ownsRow w.heap.size 76 11 (.slice (some ⟨g,0,none⟩) (k+1) cap) (k+1) (rows.flatten++ [.int .i64 h.kind,.string h.label,.string h.target,.bool h.init,.bool h.cond,.bool h.post,.bool h.hasElse,.bool h.chain,v1,v2,cvv])) (hg:wi.grownBy w6 ov.ownBlock) (hat:ov.ownBlock=some g∨(ov.ownBlock≠some g∧g=wi.heap.size+1)):
  wQ t B cb w bb o d L0 (.slice (some ⟨g,0,none⟩) (k+1) cap) (.int .i64 ((k:Int)+1)) w6:=by
 have sx:=hFx.size;have sw:=hF.size;have sc:=hOc.size;have s6:=hg.size;have hne: ∀ x,ov.ownBlock=some x->w.heap.size<=x∧x < wo.heap.size:=fun x hx=>hown.lt x hx;have hlow:=(QU c').2 (d+1) L2 (by omega) hd;have hl2:=hlow.2.2;have hcut:(T.st h b' e' c' tl').ct.l d L=(.st h (b'.ct.l (d+1) (L -1)).1 (e'.ct.l (d+1) (b'.ct.l (d+1) (L -1)).2).1 cw (tl'.ct.l d Lc).1,(tl'.ct.l d Lc).2):=by
  rw[hL2]at hcw hsndc;simp only[T.ct];rw[if_neg hL,hcw,hsndc]
 have hgn: ∀ g1,(Value.slice (some ⟨g,0,none⟩) (k+1) cap).ownBlock=some g1->ov.ownBlock=some g1∨wi.heap.size<=g1:=by
  intro g1 e;have:g=g1:=by simpa [Value.ownBlock]using e
  subst this;rcases hat with h2|⟨_,h2⟩
  ·exact .inl h2
  ·exact .inr (by omega)
 rw[hcut]at hsnd hprev;refine⟨k+1,tl',rows++ [[.int .i64 h.kind,.string h.label,.string h.target,.bool h.init,.bool h.cond,.bool h.post,.bool h.hasElse,.bool h.chain,v1,v2,cvv]],Lc,by simp,hq,by rw[show o+(k+1)*11=oo by omega];exact ha,by simp[T.len]at hlen;omega,by simp[rl],by simpa using h6,?_,hLa,by omega,?_,?_,hsnd,fun C' hC rs' hr=>?_⟩
 ·exact hc.grown hg (fun e=>by have:=(hne cb e.symm).1;omega)
 ·exact(hF.trans hFx).UL hg (by omega) (fun x hx=>⟨(hne x hx).1,by have:=(hne x hx).1;omega⟩)
 ·exact(hO.trans hOx).grown hg (fun x hx=>.inr (hne x hx).1)
 ·have hv: ∀ lo,wo.heap.size<=lo-> ∀ b o v,Vw wi lo none b o v->C' b o v:=by
   intro lo hlo b o v ⟨e1,e2,e3,e4⟩;refine hC b o v (Uk hg hgn b o v ⟨by omega,e2,fun e=>?_,e4⟩);have:=(hne b e.symm).2;omega
  have hx: ∀ x∈ [cb,wo.heap.size+1],x < wo.heap.size+2:=by
   intro x hx;simp at hx;rcases hx with rfl|rfl<;>omega
  have hcv:Vm (Vw wi wc.heap.size none) cw false cvv:=QH (k:=false) hcown hcl8 (fun _ _ _ h=>h) (by simpa using hrc (Vw wi wc.heap.size none) (fun b o v h=>Vw.none b o v h) [] rfl) rlc;obtain⟨b1,o1,g1,g2⟩:=ht1.mono (fun b o v h=>hv _ (by omega) b o v (LX hOc hx b o v h));obtain⟨b2,o2,g3,g4⟩:=ht2.mono (fun b o v h=>hv _ (by omega) b o v (LX hOc hx b o v h));obtain⟨b3,o3,g5,g6⟩:=hcv.mono (fun b o v h=>hv _ (by omega) b o v h);rw[List.append_assoc];refine hprev C' (fun b o v hb=>hC b o v (Uk hg hgn b o v (Uw hOx hcl b o v hb))) _ ⟨rfl,v1,b1,o1,v2,b2,o2,cvv,b3,o3,rs',rfl,g1,g2,g3,g4,g5,g6,hr⟩
theorem qO (t:T) (hall:t.All Q5):Q5 t:=by
 intro B cb L0 d dz w v bb o hdz hB hcb hL1 hL2 hd1 hd2 hs hat;obtain⟨av,cv,rfl⟩: ∃ a c,v=.slice a t.len c:=by
  rcases hs with⟨h0,a,c,rfl⟩ |⟨cap,_,_,_,rfl⟩
  ·exact⟨a,c,by rw[h0]⟩
  ·exact⟨_,_,rfl⟩
 have hlen:t.len<=35184372088832:=by
  rcases hs with⟨h0,_⟩ |⟨cap,_,_,hn,_⟩<;>omega
 have hav:Hid (0 < t.len->av=some ⟨bb,o,none⟩):=by
  intro hp;rcases hs with⟨h0,_⟩ |⟨cap,_,_,_,he⟩
  ·omega
  ·simp at he;exact he.1
 have hcl:=hcb.lt;clear hs;subst hdz;go_enter Tryz.func64,Tryz.ntmps64;go_wp2_with fail
 go_loopw [7,15] (fun ov ix wr=>wQ t B cb w bb o d L0 ov ix wr) (fun _ ix _=>t.len -(intOf ix).toNat)
 case atStart=>exact⟨0,t,[],L0,rfl,hall,by simpa using hat,by simp,rfl,World.ownsRow_nil _ _ _ _,hcb,hL1,by omega,Fr.refl _ _ _,Only.refl _ _,rfl,fun C' _ rs' h=>by simpa using h⟩
 case round=>
  obtain⟨k,rest,rows,L,rfl,hall',hat',hlen',rl,hown,hcb',hLa,hLb,hF,hO,hsnd,hprev⟩:=hrel;obtain⟨oa,oc,rfl⟩:=ZX hown;have sr:=hF.size;cases rest with
  |nil=>
   have hk: ¬ k < t.len:=by simp[T.len]at hlen';omega
   have HX:=ZL hsnd hprev;have HO:=Z9 hown;clear hlen' hsnd hprev hown;go_wp2_with fail
   go_ret;refine⟨_,rfl,QH (k:=true) HO.out (by omega) (fun _ _ _ h=>h) ?_ rl,by rw[HX.out.1];exact hcb',hF,hO⟩;simpa [T.ct]using HX.out.2 (Vw wr w.heap.size none) (fun b o v ⟨h1,h2,_,h4⟩=>⟨h1,h2,by simp,h4⟩) [] rfl
  |cl x b' tl'=>exact absurd hat'.1 (by simp)
  |st hd b' e' c' tl'=>
   have hk:k < t.len:=by simp[T.len]at hlen';omega
   obtain rfl:=hav.out (by omega);obtain⟨_,vb,b1,o1,ve,b2,o2,vc,b3,o3,hh,s1,a1,s2,a2,s3,a3,a4⟩:=hat';obtain⟨⟨ba,bn,bc,rfl⟩,_⟩:=ZJ s1;obtain⟨⟨ea,en,ec,rfl⟩,_⟩:=ZJ s2;obtain⟨⟨ca,cn,cc,rfl⟩,_⟩:=ZJ s3;have cell: ∀ (j:Nat) u,Zl w B bb (o+k*11+j) u->wr.cell? ⟨bb,o+k*11+j,none⟩=some u:=fun j u h=>(hF.below.cell (p:=⟨bb,o+k*11+j,none⟩) h.1).trans h.2;have d0:wr.cell? ⟨bb,o+k*11,none⟩=some (.int .i64 hd.kind):=cell 0 _ hh.c0;have d1:=cell 1 _ hh.c1;have d2:=cell 2 _ hh.c2;have d3:=cell 3 _ hh.c3;have d4:=cell 4 _ hh.c4;have d5:=cell 5 _ hh.c5;have d6:=cell 6 _ hh.c6;have d7:=cell 7 _ hh.c7;have d8:=cell 8 _ hh.c8;have d9:=cell 9 _ hh.c9;have d10:=cell 10 _ hh.c10;obtain⟨q1,q2,q3,q4⟩:=hall';have e0:=hcb'.cell 0 rfl;have e0f:=hcb'.free 0;have hcbl:=hcb'.lt;have HX:=XG hlen' hsnd hprev hown rl;have HA:=Fh s1 a1 s2 a2 s3 a3 a4;have HQ:=Yt q1 q2 q3 q4;clear hlen' hsnd hprev hown rl s1 a1 s2 a2 s3 a3 a4 q1 q2 q3 q4 hh cell;obtain⟨hk0,hk1,hk2,hk3,hk4,hk5,hk6,hk7⟩:=hd;simp only at*;obtain⟨X,hX⟩: ∃ X:List Value,X= [.int .i64 hk0,.string hk1,.string hk2,.bool hk3,.bool hk4,.bool hk5,.bool hk6,.bool hk7,.slice ba bn bc,.slice ea en ec,.slice ca cn cc]:=⟨_,rfl⟩
   have hW1:ZV (wr.setCell ⟨cb,0,none⟩ (.int .i64 (L -1))) cb [.int .i64 (L -1)] 63:=hcb'.set 0 _;have fW1:Fr [63] B wr (wr.setCell ⟨cb,0,none⟩ (.int .i64 (L -1))):=(Fr.refl _ _ _).Y1 _ _ hcb'.ty (by decide) hB;have oW1:(wr.setCell ⟨cb,0,none⟩ (.int .i64 (L -1))).ownsRow w.heap.size 76 11 (.slice oa k oc) k rows.flatten:=ZH HX.out.2.2.2.1 _ _ (fun e=>own_ne HX.out.2.2.2.1 hcb'.ty (by decide) e);have sW1:(wr.setCell ⟨cb,0,none⟩ (.int .i64 (L -1))).heap.size=wr.heap.size:=by simp[World.setCell]
   have hBw:B<=wr.heap.size:=by omega
   have hW2:=hW1.alloc (.cells X.toArray 125);have oO2:Only [cb] wr ((wr.setCell ⟨cb,0,none⟩ (.int .i64 (L -1))).alloc (.cells X.toArray 125)):=((Only.refl _ _).set _ _ (.inl (by simp))).alloc _;have fW2:=fW1.alloc (by omega) (.cells X.toArray 125);have oW2:=oW1.alloc (.cells X.toArray 125);have xW2:=ZV.new' sW1.symm X 125;have hk700:k<=800:=by omega
   have HW:=Z9 sW1;clear sW1;by_cases hL:L -1 < 0
   ·subst hX;have he:((T.st ⟨hk0,hk1,hk2,hk3,hk4,hk5,hk6,hk7⟩ b' e' c' tl').ct.l d L)=(.zero,L -1):=by simp only[T.ct];rw[if_pos (.inl hL)]
    have HE:=Z9 he;clear he;go_wp2_with (at_builtin;(refine ZG _ rfl _ _ 65 rfl w.heap.size 76 z76 11 120 Tryz.underlying65 NJ rfl (by decide) (by decide) oW2 (by rfl) Pz rfl ?c1 (by simp[World.setCell];rfl) (by omega) (by simp;omega) ?_))
    case c1=>simp[Value.oneCell',Pz]
    intro g cap w6 hown6 hg6 hat6 hlt6;have hS:=Z9 (Ot hcl hB HX.out.2.2.2.2 hk700 hF hO HX.out.2.1 HX.out.2.2.1 HE.out fW2 oO2 oW2 hW2 hown6 hg6);go_wp2_with fail
    go_ret;exact⟨_,rfl,hS.out⟩
   ·by_cases hd:40 < d
    ·subst hX;have he:((T.st ⟨hk0,hk1,hk2,hk3,hk4,hk5,hk6,hk7⟩ b' e' c' tl').ct.l d L)=(.zero,L -1):=by simp only[T.ct];rw[if_pos (.inr hd)]
     have HE:=Z9 he;clear he;go_wp2_with (at_builtin;(refine ZG _ rfl _ _ 65 rfl w.heap.size 76 z76 11 120 Tryz.underlying65 NJ rfl (by decide) (by decide) oW2 (by rfl) Pz rfl ?c1 (by simp[World.setCell];rfl) (by omega) (by simp;omega) ?_))
     case c1=>simp[Value.oneCell',Pz]
     intro g cap w6 hown6 hg6 hat6 hlt6;have hS:=Z9 (Ot hcl hB HX.out.2.2.2.2 hk700 hF hO HX.out.2.1 HX.out.2.2.1 HE.out fW2 oO2 oW2 hW2 hown6 hg6);go_wp2_with fail
     go_ret;exact⟨_,rfl,hS.out⟩
    ·have hY:=ZV.new ((wr.setCell ⟨cb,0,none⟩ (.int .i64 (L -1))).alloc (.cells X.toArray 125)) [.int .i64 hk0,hk1,hk2,hk3,hk4,hk5,hk6,hk7,.slice none 0 0,.slice none 0 0,.slice none 0 0] 76;have hW3:=hW2.alloc (.cells [.int .i64 hk0,.string hk1,.string hk2,.bool hk3,.bool hk4,.bool hk5,.bool hk6,.bool hk7,.slice none 0 0,.slice none 0 0,.slice none 0 0].toArray 76);have fW3:=fW2.alloc (by simp;have:=HW.out;omega) (.cells [.int .i64 hk0,.string hk1,.string hk2,.bool hk3,.bool hk4,.bool hk5,.bool hk6,.bool hk7,.slice none 0 0,.slice none 0 0,.slice none 0 0].toArray 76);have oO3:=oO2.alloc (.cells [.int .i64 hk0,.string hk1,.string hk2,.bool hk3,.bool hk4,.bool hk5,.bool hk6,.bool hk7,.slice none 0 0,.slice none 0 0,.slice none 0 0].toArray 76);have xW3:=xW2.alloc (.cells [.int .i64 hk0,.string hk1,.string hk2,.bool hk3,.bool hk4,.bool hk5,.bool hk6,.bool hk7,.slice none 0 0,.slice none 0 0,.slice none 0 0].toArray 76);subst hX;have x8:=xW3.cell 8 rfl;have x9:=xW3.cell 9 rfl;go_upto_region 9 with fail
     obtain⟨W3,hW3d⟩: ∃ W3:World,W3=((wr.setCell ⟨cb,0,none⟩ (.int .i64 (L -1))).alloc (.cells [.int .i64 hk0,.string hk1,.string hk2,.bool hk3,.bool hk4,.bool hk5,.bool hk6,.bool hk7,.slice ba bn bc,.slice ea en ec,.slice ca cn cc].toArray 125)).alloc (.cells [.int .i64 hk0,.string hk1,.string hk2,.bool hk3,.bool hk4,.bool hk5,.bool hk6,.bool hk7,.slice none 0 0,.slice none 0 0,.slice none 0 0].toArray 76):=⟨_,rfl⟩
     have sW3:W3.heap.size=wr.heap.size+2:=by rw[hW3d];simp
     have hyb:((wr.setCell ⟨cb,0,none⟩ (.int .i64 (L -1))).alloc (.cells [.int .i64 hk0,.string hk1,.string hk2,.bool hk3,.bool hk4,.bool hk5,.bool hk6,.bool hk7,.slice ba bn bc,.slice ea en ec,.slice ca cn cc].toArray 125)).heap.size=wr.heap.size+1:=by simp
     rw[hyb]at hY;rw[<-hW3d]at hY hW3 fW3 oO3 xW3 x8 x9;rw[<-hW3d];have a1':=HA.out.2.1.mono (Zl.below (hF.trans fW3).below);have a2':=HA.out.2.2.2.1.mono (Zl.below (hF.trans fW3).below);have hdw:=IntWalk.i64_in ((d:Int)+1) (by omega);have HW3:=Z9 hW3d;have hlo1:=(QU b').1 (d+1) (L -1) (by omega);have hlo1a:=hlo1.1 (by omega);have hlo1b:=hlo1.2.2;have hlo1c: -126<=low (d+1):=by unfold low;omega
     clear hlo1;clear hW3d hyb;go_cut [] (fun wx=>nM ⟨hk0,hk1,hk2,hk3,hk4,hk5,hk6,hk7⟩ b' e' B cb wr d L (.slice ba bn bc) (.slice ea en ec) (.slice ca cn cc) wx)
     case first=>
      go_region_law (first
       |(refine Zj rfl 64 _ _ (by rfl) [cb,.slice ba bn bc,.int .i64 ((d:Int)+1)] (by rfl) NW ((HQ.out.1 B cb (L -1) (d+1) _ W3.drew _ b1 o1 (by simp) hB hW3 (by omega) (by omega) (by omega) (by omega) HA.out.1 a1').mono ?_);rintro e w4 ⟨v1,rfl,hv1,hc4,f4,o4⟩;refine⟨_,rfl,?_⟩;have xw4:=xW3.drew.only o4 (by simp;omega);have y8:=xw4.cell 8 rfl;have y9:=xw4.cell 9 rfl;have yb4:=hY.drew.only o4 (by simp;omega);have z8:=yb4.cell 8 rfl;obtain⟨b4,o4',hs4,hat4⟩:=hv1;obtain⟨⟨v1a,v1n,v1c,rfl⟩,_⟩:=ZJ hs4)
       |(refine Zj rfl 64 _ _ (by rfl) [cb,.slice ea en ec,.int .i64 ((d:Int)+1)] (by rfl) NW ((HQ.out.2.1 B cb (b'.ct.l (d+1) (L -1)).2 (d+1) _ w4 _ b2 o2 (by simp) hB hc4 (by omega) (by omega) (by omega) (by omega) HA.out.2.2.1 (HA.out.2.2.2.1.mono (Zl.below (hF.trans (fW3.drew.trans f4)).below))).mono ?_);rintro e w5 ⟨v2,rfl,hv2,hc5,f5,o5⟩;refine⟨_,rfl,?_⟩;have s4:=f4.size;have xw5:=xw4.only o5 (by simp;omega);have yb5:=yb4.only o5 (by simp;omega);have z8:=yb5.cell 8 rfl;have z9:=yb5.cell 9 rfl;have z8f:=yb5.free 8;have z9f:=yb5.free 9;obtain⟨b5,o5',hs5,hat5⟩:=hv2;obtain⟨⟨v2a,v2n,v2c,rfl⟩,_⟩:=ZJ hs5))
      all_goals
       go_wp2_with fail
       go_meet;exact mid_step hcbl hB sW3 fW3 oO3 f4 o4 f5 o5 xw5 yb5 hs4 hat4 hs5 hat5 hc5
     case rest=>
      clear x8 x9 hW3 fW3 oO3 xW3 hY a1' a2' sW3 HW3;obtain⟨v1,v2,hxb,hyb,ht1,ht2,hcc,fM,oM⟩:=hcut;have hlo2:=(QU e').1 (d+1) (b'.ct.l (d+1) (L -1)).2 (by omega);have hL2a: -300<=(e'.ct.l (d+1) (b'.ct.l (d+1) (L -1)).2).2:=by
       rcases Int.lt_or_le (b'.ct.l (d+1) (L -1)).2 0 with h|h
       ·have:=hlo2.2.1 h;omega
       ·have:=hlo2.1 h;omega
      have hL2b:=hlo2.2.2;clear hlo2;obtain⟨L2,hL2e⟩: ∃ L2:Int,L2=(e'.ct.l (d+1) (b'.ct.l (d+1) (L -1)).2).2:=⟨_,rfl⟩
      rw[<-hL2e]at hcc hL2a hL2b;have hL2c:L2<=L -1:=by omega
      have HT:=Za ht1 ht2 hL2e;have hLb0:=hLb;obtain⟨⟨v1a,v1n,v1c,rfl⟩,_⟩:(∃ a n c,v1=.slice a n c)∧True:=⟨let⟨_,_,h,_⟩:=ht1;(ZJ h).1,trivial⟩
      obtain⟨⟨v2a,v2n,v2c,rfl⟩,_⟩:(∃ a n c,v2=.slice a n c)∧True:=⟨let⟨_,_,h,_⟩:=ht2;(ZJ h).1,trivial⟩
      have hk10:=hxb.cell 10 rfl;have sM:=fM.size;have syb:=hyb.lt;have sxb:=hxb.lt;obtain⟨wo,hwo⟩: ∃ wo:World,wo=wr:=⟨_,rfl⟩
      subst hwo;have HOut:=Z9 oW1;have hcn:cn=c'.len:=by
       rcases HA.out.2.2.2.2.1 with⟨h0,a,c,he⟩ |⟨cap,_,_,_,he⟩
       ·cases he;omega
       ·cases he;rfl
      subst hcn;have hcl35:c'.len<=35184372088832:=by
       rcases HA.out.2.2.2.2.1 with⟨h0,_⟩ |⟨cap,_,_,hn,_⟩<;>omega
      have hca:Hid (0 < c'.len->ca=some ⟨b3,o3,none⟩):=by
       intro hp;rcases HA.out.2.2.2.2.1 with⟨h0,_⟩ |⟨cap,_,_,_,he⟩
       ·omega
       ·simp at he;exact he.1
      clear ht1 ht2 hL2e hlo1a hlo1b hlo1c oW1 oW2 hW1 hW2 fW1 fW2 oO2 xW2 hcb' e0 e0f d0 d1 d2 d3 d4 d5 d6 d7 d8 d9 d10;go_wp2_with fail
      go_loopw [73] (fun ix wx=>vV ⟨hk0,hk1,hk2,hk3,hk4,hk5,hk6,hk7⟩ c' B cb w wo wc b3 o3 d L2 (.slice v1a v1n v1c) (.slice v2a v2n v2c) ix wx) (fun ix _=>c'.len -(intOf ix).toNat)
      case atStart=>exact⟨0,c',[],L2,.slice none 0 0,rfl,HQ.out.2.2.1,by simpa using HA.out.2.2.2.2.2.1,by simp,rfl,hyb,World.ownsRow_nil _ _ _ _,hcc,hL2a,by omega,fM,oM,Only.refl _ _,rfl,id,fun c1 h1=>⟨c1,h1,fun C' _ rs' h=>by simpa using h⟩⟩
      case round=>
       obtain⟨m,restc,rowsc,Lc,cvv,rfl,hallc,hatc,hlenc,rlc,hyb,hcown,hcb',hLa,hLb,hFx,hOx,hOc,hsndc,hnonec,hsomec⟩:=hrel;obtain⟨wi,hwi⟩: ∃ wi:World,wi=wr:=⟨_,rfl⟩
       subst hwi;have sx:=hFx.size;have sOc:=hOc.size;have hcbl2:=hcb'.lt;have hybl:=hyb.lt;have e0:=hcb'.cell 0 rfl;have e0f:=hcb'.free 0;have hm800:m<=800:=by omega
       have HC:=Sl hlenc rlc hsndc hnonec hsomec hcown;clear rlc hsndc hnonec hsomec hcown;cases restc with
       |nil=>
        have hmk: ¬ m < c'.len:=by simp[T.len]at hlenc;omega
        have hmc:c'.len=m:=by simp[T.len]at hlenc;omega
        obtain⟨hlenc2,rlc,hsndc,_,hsomec,hcown⟩:=HC.out;obtain⟨cw,hcw,hrc⟩:=hsomec .nil rfl;obtain⟨cva,cvc,rfl⟩:=ZX hcown;have hlow2:=((QU c').2 (d+1) L2 (by omega) (by omega)).2.2;have owi:wi.ownsRow w.heap.size 76 11 (.slice oa k oc) k rows.flatten:=ZA hOx HX.out.2.2.2.1 (fun g hg=>by have:=(HX.out.2.2.2.1.lt g hg).1;simp;omega);have y0:=hyb.cell 0 rfl;have y1:=hyb.cell 1 rfl;have y2:=hyb.cell 2 rfl;have y3:=hyb.cell 3 rfl;have y4:=hyb.cell 4 rfl;have y5:=hyb.cell 5 rfl;have y6:=hyb.cell 6 rfl;have y7:=hyb.cell 7 rfl;have y8:=hyb.cell 8 rfl;have y9:=hyb.cell 9 rfl;have y10:=hyb.cell 10 rfl;have HR2:=Fh hmc rlc hsndc hcw hrc hcown HC.out.1;have hw1:w.heap.size<=wi.heap.size:=by omega
        clear hlenc hlenc2 rlc hsndc hsomec hcown hcw hrc hlow2 hmc;go_wp2_with (at_builtin;(refine ZG wi rfl _ _ 65 rfl w.heap.size 76 z76 11 120 Tryz.underlying65 NJ rfl (by decide) (by decide) owi (by rfl) [.int .i64 hk0,hk1,hk2,hk3,hk4,hk5,hk6,hk7,.slice v1a v1n v1c,.slice v2a v2n v2c,.slice cva m cvc] rfl ?c1 (by rfl) (by omega) (by omega) ?_))
        case c1=>simp[Value.oneCell']
        intro g cap w6 hown6 hg6 hat6 hlt6;obtain⟨hmc,rlc,hsndc,hcw,hrc,hcown,hlenc2⟩:=HR2.out;have hS:=wZ (h:=⟨hk0,hk1,hk2,hk3,hk4,hk5,hk6,hk7⟩) (oo:=o+k*11+11) hcl hB hd1 (by omega) (by omega) hLb0 (by omega) HX.out.1 HX.out.2.2.2.2 HQ.out.2.2.2 HA.out.2.2.2.2.2.2 rfl HX.out.2.2.2.1 hF hO HX.out.2.1 HX.out.2.2.1 HT.out.1 HT.out.2.1 HT.out.2.2 hL2c hFx hOx hOc (by rw[hmc];exact hcown) (by rw[hmc];exact rlc) (by omega) hcb' hLa hsndc hcw hrc hown6 hg6 hat6;have hSS:=Z9 hS;clear hS hmc rlc hsndc hcw hrc hcown hlenc2;go_wp2_with fail
        exact⟨hSS.out,by simp[intOf];omega⟩
       |st=>exact absurd hatc.1 (by simp)
       |cl xe b6 tl6=>
        have hmk:m < c'.len:=by simp[T.len]at hlenc;omega
        have hmk':=HC.out.1;obtain rfl:=hca.out (by omega);obtain⟨_,vb6,b7,o7,hc0,hc1,s6,a6,a7⟩:=hatc;obtain⟨⟨va6,vn6,vc6,rfl⟩,_⟩:=ZJ s6;have d0:wi.cell? ⟨b3,o3+m*2,none⟩=some (.int .i64 xe):=((hF.trans hFx).below.cell (p:=⟨b3,o3+m*2,none⟩) hc0.1).trans hc0.2;have d1:wi.cell? ⟨b3,o3+m*2+1,none⟩=some (.slice va6 vn6 vc6):=((hF.trans hFx).below.cell (p:=⟨b3,o3+m*2+1,none⟩) hc1.1).trans hc1.2;obtain⟨q6,q7⟩:=hallc;have HB:=XG s6 a6 a7 q6 q7;clear s6 a6 a7 q6 q7 hc0 hc1 hlenc;have hV1:ZV (wi.setCell ⟨cb,0,none⟩ (.int .i64 (Lc -1))) cb [.int .i64 (Lc -1)] 63:=hcb'.set 0 _;have fV1:Fr [63] B wi (wi.setCell ⟨cb,0,none⟩ (.int .i64 (Lc -1))):=(Fr.refl _ _ _).Y1 _ _ hcb'.ty (by decide) hB;have hV2:=hV1.alloc (.cells [.int .i64 xe,.slice va6 vn6 vc6].toArray 127);have fV2:=fV1.alloc (by simp[World.setCell];omega) (.cells [.int .i64 xe,.slice va6 vn6 vc6].toArray 127);have oV2:Only [cb] wi ((wi.setCell ⟨cb,0,none⟩ (.int .i64 (Lc -1))).alloc (.cells [.int .i64 xe,.slice va6 vn6 vc6].toArray 127)):=((Only.refl _ _).set _ _ (.inl (by simp))).alloc _;have zV2:=ZV.new' (show wi.heap.size=(wi.setCell ⟨cb,0,none⟩ (.int .i64 (Lc -1))).heap.size by simp[World.setCell]) [.int .i64 xe,.slice va6 vn6 vc6] 127;by_cases hLc:Lc -1 < 0
        ·have hnone:((T.cl xe b6 tl6).ct.c (d+1) Lc).1=none∧((T.cl xe b6 tl6).ct.c (d+1) Lc).2=Lc -1:=by simp only[T.ct];rw[if_pos hLc];exact⟨rfl,rfl⟩
         have he:((T.st ⟨hk0,hk1,hk2,hk3,hk4,hk5,hk6,hk7⟩ b' e' c' tl').ct.l d L)=(.zero,Lc -1):=by
          have h1:=HC.out.2.2.2.1 hnone.1;have h2:=HC.out.2.2.1.trans hnone.2;rw[HT.out.2.2]at h1 h2;simp only[T.ct];rw[if_neg (by omega),h1];simp only[h2]
         have HE:=Z9 he;clear he hnone;have oFin:Only [cb] wo ((wi.setCell ⟨cb,0,none⟩ (.int .i64 (Lc -1))).alloc (.cells [.int .i64 xe,.slice va6 vn6 vc6].toArray 127)):=hOx.trans oV2;have oWF:((wi.setCell ⟨cb,0,none⟩ (.int .i64 (Lc -1))).alloc (.cells [.int .i64 xe,.slice va6 vn6 vc6].toArray 127)).ownsRow w.heap.size 76 11 (.slice oa k oc) k rows.flatten:=by
          refine ZA oFin HX.out.2.2.2.1 (fun g hg=>?_);simp;intro e;have:=(HX.out.2.2.2.1.lt g hg).1;omega
         go_wp2_with (at_builtin;(refine ZG _ rfl _ _ 65 rfl w.heap.size 76 z76 11 120 Tryz.underlying65 NJ rfl (by decide) (by decide) oWF (by rfl) Pz rfl ?c1 (by simp[World.setCell];rfl) (by omega) (by simp[World.setCell];omega) ?_))
         case c1=>simp[Value.oneCell',Pz]
         intro g cap w6 hown6 hg6 hat6 hlt6;have hS:=Z9 (Ot hcl hB HX.out.2.2.2.2 hk700 hF hO HX.out.2.1 HX.out.2.2.1 HE.out (hFx.trans fV2) oFin oWF hV2 hown6 hg6);go_wp2_with fail
         go_ret;exact⟨_,rfl,hS.out⟩
        ·have ybV2:ZV ((wi.setCell ⟨cb,0,none⟩ (.int .i64 (Lc -1))).alloc (.cells [.int .i64 xe,.slice va6 vn6 vc6].toArray 127)) (wo.heap.size+1) _ _:=hyb.only oV2 (by simp;omega);obtain⟨cva,cvc,rfl⟩:=ZX HC.out.2.2.2.2.2;have coV2:=ZA oV2 HC.out.2.2.2.2.2 (fun g hg=>by have:=(HC.out.2.2.2.2.2.lt g hg).1;simp;omega);have y10:=ybV2.cell 10 rfl;have z0:=zV2.cell 0 rfl;have z1:=zV2.cell 1 rfl;go_upto_region 16 with fail
         obtain⟨V3,hV3d⟩: ∃ V3:World,V3=(wi.setCell ⟨cb,0,none⟩ (.int .i64 (Lc -1))).alloc (.cells [.int .i64 xe,.slice va6 vn6 vc6].toArray 127):=⟨_,rfl⟩
         have sV3:V3.heap.size=wi.heap.size+1:=by rw[hV3d];simp[World.setCell]
         rw[<-hV3d]at hV2 fV2 oV2 zV2 ybV2 coV2 y10 z0 z1;rw[<-hV3d];have hdw:=IntWalk.i64_in ((d:Int)+1) (by omega);have HV3:=Z9 hV3d;clear hV3d;have a6':=HB.out.2.1.mono (Zl.below ((hF.trans hFx).trans fV2.drew).below)
         go_region_law (first
          |(refine Zj rfl 64 _ _ (by rfl) [cb,.slice va6 vn6 vc6,.int .i64 ((d:Int)+1)] (by rfl) NW ((HB.out.2.2.2.1 B cb (Lc -1) (d+1) _ V3.drew _ b7 o7 (by simp) hB hV2 (by omega) (by omega) (by omega) (by omega) HB.out.1 a6').mono ?_);rintro e w7 ⟨v7,rfl,hv7,hc7,f7,o7'⟩;refine⟨_,rfl,?_⟩;have s7:V3.heap.size<=w7.heap.size:=f7.size;have yb7:=ybV2.drew.only o7' (by simp;omega);have y7:=yb7.cell 10 rfl;have zb7:=zV2.drew.only o7' (by simp;omega);have z70:=zb7.cell 0 rfl;have co7:=ZA o7' coV2.drew (fun g hg=>by have:=(coV2.lt g hg).1;simp;omega);obtain⟨b8,o8,hs7,hat7⟩:=hv7;obtain⟨⟨v7a,v7n,v7c,rfl⟩,_⟩:=ZJ hs7;have y7a:=(yb7.alloc (.cells [.int .i64 xe,.slice v7a v7n v7c].toArray 132)).cell 10 rfl)
          |(refine YL w7 _ rfl _ _ 74 rfl wc.heap.size 132 (.agg #[.int .i64 0,.slice none 0 0]) 2 32 Tryz.underlying74 yK rfl (by decide) (by decide) co7 (by rfl) [.int .i64 xe,.slice v7a v7n v7c] rfl (by simp[Value.oneCell']) (by rfl) (by omega) (by omega) (by first|exact .inl rfl|exact .inr rfl) ?_;intro g cap w8 hown8 hg8 hat8 hlt8;have yb8:=yb7.grown hg8 (own_ne co7 yb7.ty (by decide));have y8:=yb8.cell 10 rfl;have y8f:=yb8.free 10))
         all_goals
          have hS:=zL (h:=⟨hk0,hk1,hk2,hk3,hk4,hk5,hk6,hk7⟩) (w:=w) hcbl (by omega) hB (by omega) hLc hLb hmk' HC.out.2.1 HB.out.2.2.2.2 HB.out.2.2.1 HC.out.2.2.2.2.2 hFx hOx hOc HC.out.2.2.1 HC.out.2.2.2.1 HC.out.2.2.2.2.1 fV2 oV2 f7 o7' hc7 hs7 hat7 hown8 hg8 hat8 yb8;go_wp2_with fail
          exact⟨hS,by simp[intOf];omega⟩
theorem Bh: ∀ t:T,Q5 t:=T.Xl qO
end Go.Proofs.YteedbaejpdjilaaGreat
