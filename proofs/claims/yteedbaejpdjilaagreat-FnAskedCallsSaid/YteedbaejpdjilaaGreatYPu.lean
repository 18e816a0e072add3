/- Part of the proof: CutB. -/
import Derived.Test.YteedbaejpdjilaaGreatYPt
import Derived.Test.YteedbaejpdjilaaGreatYPs
set_option linter.all false
set_option maxRecDepth 100000
set_option maxHeartbeats 40000000
namespace Go.Proofs.YteedbaejpdjilaaGreat
open Go.RowKit Tryz
def Om (t:T):Prop:= ∀ (B cb:Nat) (L:Int) (d:Nat) (dz:Int) (w:World) (v:Value) (b o:Nat),dz=d->B<=cb->ZD w cb [.int .i64 L] 63-> -300<=L->L<=500->1<=d->d<=41->Zi v b o t.len->t.At (YB w B) true b o->
 Calls prog 64 #[cb,v,.int .i64 dz] w fun e w'=> ∃ v',e=.returned v'/\Ux (Vw w' w.heap.size none) (t.ct.l d L).1 true v'/\ZD w' cb [.int .i64 (t.ct.l d L).2] 63/\Fr [63] B w w'/\Only [cb] w w'
def vV (t:T) (B cb:Nat) (w:World) (bb o d:Nat) (L0:Int) (ov ix:Value) (wr:World):Prop:= ∃ (k:Nat) (rest:T) (rows:List (List Value)) (L:Int),ix=.int .i64 k/\rest.All Om/\rest.At (YB w B) true bb (o+k*11)/\k+rest.len=t.len/\rows.length=k/\
 wr.ownsRow w.heap.size 76 11 ov k rows.flatten/\ZD wr cb [.int .i64 L] 63/\ -300<=L/\L+k<=500/\Fr [63] B w wr/\Only [cb] w wr/\(t.ct.l d L0).2=(rest.ct.l d L).2/\
 ∀ C':Cv,(∀ b o v,Vw wr w.heap.size ov.ownBlock b o v->C' b o v)-> ∀ rs',(rest.ct.l d L).1.Yd C' true rs'->(t.ct.l d L0).1.Yd C' true (rows++rs')
def Ny:List Value:= [.int .i64 0,.string ByteArray.empty,.string ByteArray.empty,.bool false,.bool false,.bool false,.bool false,.bool false,.slice none 0 0,.slice none 0 0,.slice none 0 0]
def z76:Value:=.agg #[.int .i64 0,ByteArray.empty,ByteArray.empty,false,false,false,false,false,.slice none 0 0,.slice none 0 0,.slice none 0 0]
theorem Mj:(prog.info? 76).map (fun i=>(i.zero,i.size,i.bytes))=some (some z76,11,120):=by kernel_rfl
theorem Fo {C:Cv} :T.zero.Yd C true [Ny]:=
 ⟨rfl,.slice none 0 0,0,0,.slice none 0 0,0,0,.slice none 0 0,0,0,[],rfl,.inl ⟨rfl,_,_,rfl⟩,trivial,.inl ⟨rfl,_,_,rfl⟩,trivial,.inl ⟨rfl,_,_,rfl⟩,trivial,rfl⟩
theorem Ol {w:World} {lo n:Nat} {t:T} {k:Bool} {v:Value} {e:Nat} {rows:List (List Value)} (h:w.ownsRow lo e (if k then 11 else 2) v n rows.flatten) (hn:n<=100000) {C:Cv} (hC: ∀ b o v,Vw w lo none b o v->C b o v) (hr:t.Yd C k rows) (hl:rows.length=n):Ux C t k v:=by
 have htl:=hr.len.1;rcases h.2 with⟨rfl,h0⟩ |⟨g,cap,cur,rfl,hg,hh,hc,hm,_⟩
 .refine⟨0,0,.inl ⟨by omega,_,_,rfl⟩,hr.at (g:=0) (o:=0) (fun j v hj=>?_)⟩;have:rows= []:=List.length_eq_zero_iff.1 (by omega);subst this;simp at hj
 .have hgl:=(h.lt g rfl).2;have hat:t.At C k g 0:=hr.at (fun j v hj=>by
   refine hC _ _ _ ⟨hg,hgl,by simp,?_⟩;have hj':=ZH hj;rw[ZF h (0+j) (by rw[h.1]at hj';omega)];simpa using hj)
  rcases ZA n with h0|h0
  .exact⟨g,0,.inl ⟨by omega,some ⟨g,0,none⟩,cap,by rw[h0]⟩,hat⟩
  .exact⟨g,0,.inr ⟨cap,by omega,by omega,by omega,by rw[<-htl,hl]⟩,hat⟩
theorem KT {w w':World} {lo:Nat} {X:List Nat} {own:Option Nat} (h:Only X w w') (hc: ∀ x∈X,x < lo): ∀ b o v,Vw w lo own b o v->Vw w' lo own b o v:=by
 intro b o v ⟨h1,h2,h3,h4⟩;refine⟨h1,by have:=h.size;omega,h3,?_⟩;rw[World.cell?_of_block (w:=w) (h.block b h2 (fun hb=>by have:=hc b hb;omega))];exact h4
theorem Rp {w w':World} {lo cb:Nat} {own:Option Nat} (h:Only [cb] w w') (hc:cb < lo): ∀ b o v,Vw w lo own b o v->Vw w' lo own b o v:=by
 intro b o v ⟨h1,h2,h3,h4⟩;refine⟨h1,by have:=h.size;omega,h3,?_⟩;rw[World.cell?_of_block (w:=w) (h.block b h2 (by simp;omega))];exact h4
theorem Ro {w w':World} {lo:Nat} {own own':Option Nat} (h:w.grownBy w' own) (hn: ∀ g,own'=some g->own=some g\/w.heap.size<=g): ∀ b o v,Vw w lo own b o v->Vw w' lo own' b o v:=by
 intro b o v ⟨h1,h2,h3,h4⟩;refine⟨h1,by have:=h.size;omega,?_,?_⟩
 .intro e;rcases hn b e.symm with h5|h5
  .exact h3 h5.symm
  .omega
 .rw[World.cell?_of_block (w:=w) (h.block b h2 h3)];exact h4
theorem Vw.none {w:World} {lo:Nat} {own:Option Nat} : ∀ b o v,Vw w lo own b o v->Vw w lo none b o v:=fun _ _ _ ⟨h1,h2,_,h4⟩=>⟨h1,h2,by simp,h4⟩
theorem Mi {t rest:T} {B cb d k:Nat} {L0 L L':Int} {w wr wX w6:World} {ov:Value} {rows:List (List Value)} {g cap:Nat} (hcl:cb < w.heap.size) (hB:B<=cb) (rl:rows.length=k) (hk:k<=800) (hF:Fr [63] B w wr) (hO:Only [cb] w wr)
  (PR:(t.ct.l d L0).2=(rest.ct.l d L).2) (Yx: ∀ C':Cv,(∀ b o v,Vw wr w.heap.size ov.ownBlock b o v->C' b o v)-> ∀ rs',(rest.ct.l d L).1.Yd C' true rs'->(t.ct.l d L0).1.Yd C' true (rows++rs'))
  (he:rest.ct.l d L=(.zero,L')) (fX:Fr [63] B wr wX) (oX:Only [cb] wr wX) (hX:wX.ownsRow w.heap.size 76 11 ov k rows.flatten) (hcX:ZD wX cb [.int .i64 L'] 63)
  (h6:w6.ownsRow w.heap.size 76 11 (.slice (some ⟨g,0,none⟩) (k+1) cap) (k+1) (rows.flatten++Ny)) (hg:wX.grownBy w6 ov.ownBlock):
  Ux (Vw w6 w.heap.size none) (t.ct.l d L0).1 true (.slice (some ⟨g,0,none⟩) (k+1) cap)/\ZD w6 cb [.int .i64 (t.ct.l d L0).2] 63/\Fr [63] B w w6/\Only [cb] w w6:=by
 have s1:=hF.size;have s2:=fX.size;have hne: ∀ x,ov.ownBlock=some x->w.heap.size<=x:=fun x hx=>(hX.lt x hx).1;refine⟨Ol (k:=true) (rows:=rows++ [Ny]) (n:=k+1) (by simpa using h6) (by omega) (fun _ _ _ h=>h) ?_ (by simp[rl]),?_,?_,?_⟩
 .refine Yx _ (fun b o v h=>Ro hg (by simp) b o v (Rp oX hcl b o v h)) [Ny] ?_;rw[he];exact Fo
 .rw[PR,he];exact hcX.grown hg (fun e=>by have:=hne cb e.symm;omega)
 .exact(hF.trans fX).SB hg (by omega) (fun x hx=>⟨hne x hx,by have:=hne x hx;omega⟩)
 .exact(hO.trans oX).grown hg (fun x hx=>.inr (hne x hx))
theorem Mh (args:Array Value) (w:World):(callFunc 64 args).run prog w=.ok (.enter 64 args) w:=by kernel_rfl
def kZ (h:Hd) (b' e':T) (B cb:Nat) (wr:World) (d:Nat) (L:Int) (bv ev cv:Value) (wx:World):Prop:= ∃ v1 v2,ZD wx wr.heap.size [.int .i64 h.kind,h.label,h.target,h.init,h.cond,h.post,h.ZV,h.chain,bv,ev,cv] 125/\
 ZD wx (wr.heap.size+1) [.int .i64 h.kind,h.label,h.target,h.init,h.cond,h.post,h.ZV,h.chain,v1,v2,.slice none 0 0] 76/\
 Ux (Vw wx (wr.heap.size+2) none) (b'.ct.l (d+1) (L -1)).1 true v1/\Ux (Vw wx (wr.heap.size+2) none) (e'.ct.l (d+1) (b'.ct.l (d+1) (L -1)).2).1 true v2/\
 ZD wx cb [.int .i64 (e'.ct.l (d+1) (b'.ct.l (d+1) (L -1)).2).2] 63/\Fr [63] B wr wx/\Only [cb] wr wx
theorem Oj {w:World} {lo:Nat} {own:Option Nat} (p:Addr) (u:Value) (hp:p.block < lo): ∀ b o v,Vw w lo own b o v->Vw (w.setCell p u) lo own b o v:=by
 intro b o v ⟨h1,h2,h3,h4⟩;refine⟨h1,by simpa [World.setCell]using h2,h3,?_⟩;rw[World.cell?_of_block (w:=w) (Below.heap_setCell w p u b (by omega))];exact h4
theorem vU {w:World} {lo lo':Nat} {own:Option Nat} (h:lo'<=lo): ∀ b o v,Vw w lo own b o v->Vw w lo' own b o v:=fun _ _ _ ⟨h1,h2,h3,h4⟩=>⟨by omega,h2,h3,h4⟩
theorem mid_step {h:Hd} {b' e':T} {B cb:Nat} {wr W3 w4 w5:World} {d:Nat} {L:Int} {bv ev cv v1 v2:Value} {b4 o4 b5 o5:Nat} (hcl:cb < wr.heap.size) (hB:B<=cb) (bN:W3.heap.size=wr.heap.size+2) (vT:Fr [63] B wr W3) (oW3:Only [cb] wr W3) (f4:Fr [63] B W3.drew w4) (o4':Only [cb] W3.drew w4) (f5:Fr [63] B w4 w5) (bM:Only [cb] w4 w5)
  (hx:ZD w5 wr.heap.size [.int .i64 h.kind,h.label,h.target,h.init,h.cond,h.post,h.ZV,h.chain,bv,ev,cv] 125) (hy:ZD w5 (wr.heap.size+1) [.int .i64 h.kind,h.label,h.target,h.init,h.cond,h.post,h.ZV,h.chain,.slice none 0 0,.slice none 0 0,.slice none 0 0] 76)
  (hs4:Zi v1 b4 o4 (b'.ct.l (d+1) (L -1)).1.len) (ND:(b'.ct.l (d+1) (L -1)).1.At (Vw w4 W3.drew.heap.size none) true b4 o4) (hs5:Zi v2 b5 o5 (e'.ct.l (d+1) (b'.ct.l (d+1) (L -1)).2).1.len) (Bt:(e'.ct.l (d+1) (b'.ct.l (d+1) (L -1)).2).1.At (Vw w5 w4.heap.size none) true b5 o5)
  (hc5:ZD w5 cb [.int .i64 (e'.ct.l (d+1) (b'.ct.l (d+1) (L -1)).2).2] 63):
  kZ h b' e' B cb wr d L bv ev cv ((w5.setCell ⟨wr.heap.size+1,8,none⟩ v1).setCell ⟨wr.heap.size+1,9,none⟩ v2):=by
 have s4:W3.heap.size<=w4.heap.size:=f4.size;refine⟨v1,v2,(hx.setOther _ _ (by show wr.heap.size≠wr.heap.size+1;omega)).setOther _ _ (by show wr.heap.size≠wr.heap.size+1;omega),(hy.set 8 v1).set 9 v2,⟨b4,o4,hs4,ND.mono (fun b o v h=>?_)⟩,⟨b5,o5,hs5,Bt.mono (fun b o v h=>?_)⟩,(hc5.setOther _ _ (by show cb≠wr.heap.size+1;omega)).setOther _ _ (by show cb≠wr.heap.size+1;omega),?_,?_⟩
 .exact Oj _ _ (by show wr.heap.size+1 < _;omega) _ _ _ (Oj _ _ (by show wr.heap.size+1 < _;omega) _ _ _ (Rp bM (by omega) _ _ _ (vU (show wr.heap.size+2<=W3.drew.heap.size by simp;omega) _ _ _ h)))
 .exact Oj _ _ (by show wr.heap.size+1 < _;omega) _ _ _ (Oj _ _ (by show wr.heap.size+1 < _;omega) _ _ _ (vU (by omega) _ _ _ h))
 .exact((vT.drew.trans (f4.trans f5)).XW (by omega) _ _ (by show wr.heap.size<=wr.heap.size+1;omega)).XW (by omega) _ _ (by show wr.heap.size<=wr.heap.size+1;omega)
 .exact((oW3.drew.trans (o4'.trans bM)).set _ _ (.inr (by show wr.heap.size<=wr.heap.size+1;omega))).set _ _ (.inr (by show wr.heap.size<=wr.heap.size+1;omega))
def vS (h:Hd) (c:T) (B cb:Nat) (w wo wc:World) (b3 o3 d:Nat) (L2:Int) (v1 v2:Value) (ix:Value) (wx:World):Prop:= ∃ (m:Nat) (UV:T) (VE:List (List Value)) (Lc:Int) (cv:Value),ix=.int .i64 m/\UV.All Om/\
 UV.At (YB w B) false b3 (o3+m*2)/\m+UV.len=c.len/\VE.length=m/\ZD wx (wo.heap.size+1) [.int .i64 h.kind,h.label,h.target,h.init,h.cond,h.post,h.ZV,h.chain,v1,v2,cv] 76/\
 wx.ownsRow wc.heap.size 132 2 cv m VE.flatten/\ZD wx cb [.int .i64 Lc] 63/\ -300<=Lc/\Lc+m<=500/\Fr [63] B wo wx/\Only [cb] wo wx/\Only [cb,wo.heap.size+1] wc wx/\(c.ct.c (d+1) L2).2=(UV.ct.c (d+1) Lc).2/\((UV.ct.c (d+1) Lc).1=none->(c.ct.c (d+1) L2).1=none)/\
 ∀ c',(UV.ct.c (d+1) Lc).1=some c'-> ∃ cw,(c.ct.c (d+1) L2).1=some cw/\ ∀ C':Cv,(∀ b o v,Vw wx wc.heap.size cv.ownBlock b o v->C' b o v)-> ∀ rs',c'.Yd C' false rs'->cw.Yd C' false (VE++rs')
theorem yR:(prog.info? 132).map (fun i=>(i.zero,i.size,i.bytes))=some (some (.agg #[.int .i64 0,.slice none 0 0]),2,32):=by kernel_rfl
theorem yQ {h:Hd} {c b6 KU:T} {B cb:Nat} {w wo wc wi V3 w7 w8:World} {b3 o3 d m:Nat} {L2 Lc xe:Int} {v1 v2 cvv v7:Value} {VE:List (List Value)} {b8 o8 g cap:Nat} (hcl:cb < wo.heap.size) (hwc:wo.heap.size+1 < wc.heap.size) (hB:B<=cb) (hd:d+1<=41) (hL: ¬ Lc -1 < 0) (hLm:Lc+m<=500)
  (hlen:m+(T.cl xe b6 KU).len=c.len) (rl:VE.length=m) (hq:KU.All Om) (ha:KU.At (YB w B) false b3 (o3+m*2+2)) (Vh:wi.ownsRow wc.heap.size 132 2 cvv m VE.flatten) (hFx:Fr [63] B wo wi) (yP:Only [cb] wo wi) (Bo:Only [cb,wo.heap.size+1] wc wi)
  (PR:(c.ct.c (d+1) L2).2=((T.cl xe b6 KU).ct.c (d+1) Lc).2) (hnone:((T.cl xe b6 KU).ct.c (d+1) Lc).1=none->(c.ct.c (d+1) L2).1=none)
  (hsome: ∀ c',((T.cl xe b6 KU).ct.c (d+1) Lc).1=some c'-> ∃ cw,(c.ct.c (d+1) L2).1=some cw/\ ∀ C':Cv,(∀ b o v,Vw wi wc.heap.size cvv.ownBlock b o v->C' b o v)-> ∀ rs',c'.Yd C' false rs'->cw.Yd C' false (VE++rs'))
  (fV:Fr [63] B wi V3) (oV:Only [cb] wi V3) (f7:Fr [63] B V3.drew w7) (o7:Only [cb] V3.drew w7) (bL:ZD w7 cb [.int .i64 (b6.ct.l (d+1) (Lc -1)).2] 63) (hs7:Zi v7 b8 o8 (b6.ct.l (d+1) (Lc -1)).1.len) (Bs:(b6.ct.l (d+1) (Lc -1)).1.At (Vw w7 V3.drew.heap.size none) true b8 o8)
  (h8:w8.ownsRow wc.heap.size 132 2 (.slice (some ⟨g,0,none⟩) (m+1) cap) (m+1) (VE.flatten++ [.int .i64 xe,v7])) (hg:w7.grownBy w8 cvv.ownBlock) (hat:cvv.ownBlock=some g\/(cvv.ownBlock≠some g/\g=w7.heap.size+1))
  (hy:ZD w8 (wo.heap.size+1) [.int .i64 h.kind,h.label,h.target,h.init,h.cond,h.post,h.ZV,h.chain,v1,v2,cvv] 76):
  vS h c B cb w wo wc b3 o3 d L2 v1 v2 (.int .i64 ((m:Int)+1)) (w8.setCell ⟨wo.heap.size+1,10,none⟩ (.slice (some ⟨g,0,none⟩) (m+1) cap)):=by
 have sV:wi.heap.size<=V3.heap.size:=fV.size;have s7:V3.heap.size<=w7.heap.size:=f7.size;have s8:=hg.size;have sx:=hFx.size;have sc:=Bo.size;have hlow:=(Oq b6).1 (d+1) (Lc -1) hd;have hl1:=hlow.1 (by omega);have hl2:=hlow.2.2;have hl3: -126<=low (d+1):=by unfold low;omega
 have hne: ∀ x,cvv.ownBlock=some x->wc.heap.size<=x/\x < wi.heap.size:=fun x hx=>Vh.lt x hx;have hcut:(T.cl xe b6 KU).ct.c (d+1) Lc=((KU.ct.c (d+1) (b6.ct.l (d+1) (Lc -1)).2).1.map (.cl xe (b6.ct.l (d+1) (Lc -1)).1),(KU.ct.c (d+1) (b6.ct.l (d+1) (Lc -1)).2).2):=by
  simp only[T.ct];rw[if_neg hL]
 rw[hcut]at PR hnone hsome;have hyb:some (wo.heap.size+1)≠(Value.slice (some ⟨g,0,none⟩) (m+1) cap).ownBlock:=by
  simp only[Value.ownBlock];intro e;have:wo.heap.size+1=g:=by simpa using e
  rcases hat with h1|⟨_,h1⟩
  .have:=(hne g h1).1;omega
  .omega
 have oT:Only [cb,wo.heap.size+1] wc (w8.setCell ⟨wo.heap.size+1,10,none⟩ (.slice (some ⟨g,0,none⟩) (m+1) cap)):=by
  refine(((Bo.trans (oV.mono (by simp))).trans ((Only.refl _ _).drew.trans (o7.mono (by simp)))).grown hg (fun x hx=>.inr (by have:=(hne x hx).1;omega))).set _ _ (.inl (by simp))
 have oW:Only [cb] wo (w8.setCell ⟨wo.heap.size+1,10,none⟩ (.slice (some ⟨g,0,none⟩) (m+1) cap)):=by
  refine(((yP.trans oV).trans ((Only.refl _ _).drew.trans o7)).grown hg (fun x hx=>.inr (by have:=(hne x hx).1;omega))).set _ _ (.inr (by show wo.heap.size<=wo.heap.size+1;omega))
 have fT:Fr [63] B wo (w8.setCell ⟨wo.heap.size+1,10,none⟩ (.slice (some ⟨g,0,none⟩) (m+1) cap)):=by
  refine((hFx.trans (fV.drew.trans f7)).SB hg (by omega) (fun x hx=>⟨by have:=(hne x hx).1;omega,by have:=(hne x hx).1;omega⟩)).XW (by omega) _ _ (by show wo.heap.size<=wo.heap.size+1;omega)
 refine⟨m+1,KU,VE++ [[.int .i64 xe,v7]],(b6.ct.l (d+1) (Lc -1)).2,_,by simp,hq,by rw[show o3+(m+1)*2=o3+m*2+2 by omega];exact ha,by simp[T.len]at hlen;omega,by simp[rl],hy.set 10 _,Y3 (by simpa using h8) _ _ hyb,?_,by omega,by omega,fT,oW,oT,PR,fun h1=>hnone (by rw[h1];rfl),fun c1 h1=>?_⟩
 .exact(bL.grown hg (fun e=>by have:=(hne cb e.symm).1;omega)).setOther _ _ (by show cb≠wo.heap.size+1;omega)
 .obtain⟨cw,g1,g2⟩:=hsome (.cl xe (b6.ct.l (d+1) (Lc -1)).1 c1) (by rw[h1];rfl);refine⟨cw,g1,fun C' hC rs' hr=>?_⟩;have hgn: ∀ g1,(Value.slice (some ⟨g,0,none⟩) (m+1) cap).ownBlock=some g1->cvv.ownBlock=some g1\/w7.heap.size<=g1:=by
   intro g1 e;have:g=g1:=by simpa [Value.ownBlock]using e
   subst this;rcases hat with h2|⟨_,h2⟩
   .exact .inl h2
   .exact .inr (by omega)
  have hv: ∀ b o v,Vw w7 wc.heap.size cvv.ownBlock b o v->C' b o v:=fun b o v hb=>hC b o v (Oj _ _ (by show wo.heap.size+1 < _;omega) b o v (Ro hg hgn b o v hb));rw[ZI];refine g2 C' (fun b o v hb=>hv b o v (Rp o7 (by omega) b o v (Rp oV (by omega) b o v hb))) _ ⟨rfl,v7,b8,o8,rs',rfl,hs7,Bs.mono (fun b o v ⟨e1,e2,e3,e4⟩=>hv b o v ⟨?_,e2,?_,e4⟩),hr⟩
  .have e1':V3.heap.size<=b:=e1;omega
  .intro e;have:=(hne b e.symm).2;have e1':V3.heap.size<=b:=e1;omega
theorem yO {t c' b' e' tl':T} {h:Hd} {B cb:Nat} {w wo wc wi w6:World} {bb o d k:Nat} {L0 L L2 Lc:Int} {v1 v2 cvv ov:Value} {rows VE:List (List Value)} {g cap:Nat} {oo:Nat} (hcl:cb < w.heap.size) (hB:B<=cb) (hd1:1<=d) (hd:d+1<=41) (hL: ¬ (L -1 < 0\/40 < d)) (hLk:L+k<=500) (hwc:wo.heap.size+1 < wc.heap.size)
  (hlen:k+(T.st h b' e' c' tl').len=t.len) (rl:rows.length=k) (hq:tl'.All Om) (ha:tl'.At (YB w B) true bb oo) (hoo:oo=o+k*11+11) (hown:wo.ownsRow w.heap.size 76 11 ov k rows.flatten) (hF:Fr [63] B w wo) (hO:Only [cb] w wo)
  (PR:(t.ct.l d L0).2=((T.st h b' e' c' tl').ct.l d L).2) (Yx: ∀ C':Cv,(∀ b o v,Vw wo w.heap.size ov.ownBlock b o v->C' b o v)-> ∀ rs',((T.st h b' e' c' tl').ct.l d L).1.Yd C' true rs'->(t.ct.l d L0).1.Yd C' true (rows++rs'))
  (ht1:Ux (Vw wc (wo.heap.size+2) none) (b'.ct.l (d+1) (L -1)).1 true v1) (ht2:Ux (Vw wc (wo.heap.size+2) none) (e'.ct.l (d+1) (b'.ct.l (d+1) (L -1)).2).1 true v2) (hL2:L2=(e'.ct.l (d+1) (b'.ct.l (d+1) (L -1)).2).2) (kY:L2<=L -1)
  (hFx:Fr [63] B wo wi) (yP:Only [cb] wo wi) (Bo:Only [cb,wo.heap.size+1] wc wi) (Vh:wi.ownsRow wc.heap.size 132 2 cvv c'.len VE.flatten) (Bn:VE.length=c'.len) (bK:c'.len<=100000) (hc:ZD wi cb [.int .i64 Lc] 63) (hLa: -300<=Lc)
  (Uw:(c'.ct.c (d+1) L2).2=Lc) {cw:T} (hcw:(c'.ct.c (d+1) L2).1=some cw) (hrc: ∀ C':Cv,(∀ b o v,Vw wi wc.heap.size cvv.ownBlock b o v->C' b o v)-> ∀ rs',T.nil.Yd C' false rs'->cw.Yd C' false (VE++rs'))
  (h6:w6.ownsRow w.heap.size 76 11 (.slice (some ⟨g,0,none⟩) (k+1) cap) (k+1) (rows.flatten++ [.int .i64 h.kind,.string h.label,.string h.target,.bool h.init,.bool h.cond,.bool h.post,.bool h.ZV,.bool h.chain,v1,v2,cvv])) (hg:wi.grownBy w6 ov.ownBlock) (hat:ov.ownBlock=some g\/(ov.ownBlock≠some g/\g=wi.heap.size+1)):
  vV t B cb w bb o d L0 (.slice (some ⟨g,0,none⟩) (k+1) cap) (.int .i64 ((k:Int)+1)) w6:=by
 have sx:=hFx.size;have sw:=hF.size;have sc:=Bo.size;have s6:=hg.size;have hne: ∀ x,ov.ownBlock=some x->w.heap.size<=x/\x < wo.heap.size:=fun x hx=>hown.lt x hx;have hlow:=(Oq c').2 (d+1) L2 (by omega) hd;have hl2:=hlow.2.2;have hcut:(T.st h b' e' c' tl').ct.l d L=(.st h (b'.ct.l (d+1) (L -1)).1 (e'.ct.l (d+1) (b'.ct.l (d+1) (L -1)).2).1 cw (tl'.ct.l d Lc).1,(tl'.ct.l d Lc).2):=by
  rw[hL2]at hcw Uw;simp only[T.ct];rw[if_neg hL,hcw,Uw]
 have hgn: ∀ g1,(Value.slice (some ⟨g,0,none⟩) (k+1) cap).ownBlock=some g1->ov.ownBlock=some g1\/wi.heap.size<=g1:=by
  intro g1 e;have:g=g1:=by simpa [Value.ownBlock]using e
  subst this;rcases hat with h2|⟨_,h2⟩
  .exact .inl h2
  .exact .inr (by omega)
 rw[hcut]at PR Yx;refine⟨k+1,tl',rows++ [[.int .i64 h.kind,.string h.label,.string h.target,.bool h.init,.bool h.cond,.bool h.post,.bool h.ZV,.bool h.chain,v1,v2,cvv]],Lc,by simp,hq,by rw[show o+(k+1)*11=oo by omega];exact ha,by simp[T.len]at hlen;omega,by simp[rl],by simpa using h6,?_,hLa,by omega,?_,?_,PR,fun C' hC rs' hr=>?_⟩
 .exact hc.grown hg (fun e=>by have:=(hne cb e.symm).1;omega)
 .exact(hF.trans hFx).SB hg (by omega) (fun x hx=>⟨(hne x hx).1,by have:=(hne x hx).1;omega⟩)
 .exact(hO.trans yP).grown hg (fun x hx=>.inr (hne x hx).1)
 .have hv: ∀ lo,wo.heap.size<=lo-> ∀ b o v,Vw wi lo none b o v->C' b o v:=by
   intro lo hlo b o v ⟨e1,e2,e3,e4⟩;refine hC b o v (Ro hg hgn b o v ⟨by omega,e2,fun e=>?_,e4⟩);have:=(hne b e.symm).2;omega
  have hx: ∀ x∈ [cb,wo.heap.size+1],x < wo.heap.size+2:=by
   intro x hx;simp at hx;rcases hx with rfl|rfl<;>omega
  have hcv:Ux (Vw wi wc.heap.size none) cw false cvv:=Ol (k:=false) Vh bK (fun _ _ _ h=>h) (by simpa using hrc (Vw wi wc.heap.size none) (fun b o v h=>Vw.none b o v h) [] rfl) Bn;obtain⟨b1,o1,g1,g2⟩:=ht1.mono (fun b o v h=>hv _ (by omega) b o v (KT Bo hx b o v h));obtain⟨b2,o2,g3,g4⟩:=ht2.mono (fun b o v h=>hv _ (by omega) b o v (KT Bo hx b o v h));obtain⟨b3,o3,g5,g6⟩:=hcv.mono (fun b o v h=>hv _ (by omega) b o v h);rw[ZI];refine Yx C' (fun b o v hb=>hC b o v (Ro hg hgn b o v (Rp yP hcl b o v hb))) _ ⟨rfl,v1,b1,o1,v2,b2,o2,cvv,b3,o3,rs',rfl,g1,g2,g3,g4,g5,g6,hr⟩
theorem sL (t:T) (hall:t.All Om):Om t:=by
 intro B cb L0 d dz w v bb o hdz hB hcb hL1 hL2 hd1 hd2 hs hat;obtain⟨av,cv,rfl⟩: ∃ a c,v=.slice a t.len c:=by
  rcases hs with⟨h0,a,c,rfl⟩ |⟨cap,_,_,_,rfl⟩
  .exact⟨a,c,by rw[h0]⟩
  .exact⟨_,_,rfl⟩
 have hlen:t.len<=35184372088832:=by
  rcases hs with⟨h0,_⟩ |⟨cap,_,_,hn,_⟩<;>omega
 have hav:Hid (0 < t.len->av=some ⟨bb,o,none⟩):=by
  intro hp;rcases hs with⟨h0,_⟩ |⟨cap,_,_,_,he⟩
  .omega
  .simp at he;exact he.1
 have hcl:=hcb.lt;clear hs;subst hdz;go_enter func64,ntmps64;go_wp2_with fail
 go_loopw [7,15] (fun ov ix wr=>vV t B cb w bb o d L0 ov ix wr) (fun _ ix _=>t.len -(intOf ix).toNat)
 case atStart=>exact⟨0,t,[],L0,rfl,hall,by simpa using hat,by simp,rfl,Zs _ _ _ _,hcb,hL1,by omega,Fr.refl _ _ _,Only.refl _ _,rfl,fun C' _ rs' h=>by simpa using h⟩
 case round=>
  obtain⟨k,rest,rows,L,rfl,XC,hat',hlen',rl,hown,hcb',hLa,hLb,hF,hO,PR,Yx⟩:=hrel;obtain⟨oa,oc,rfl⟩:=ZR hown;have sr:=hF.size;cases rest with
  |nil=>
   have hk: ¬ k < t.len:=by simp[T.len]at hlen';omega
   have HX:=Zl PR Yx;have HO:=Z5 hown;clear hlen' PR Yx hown;go_wp2_with fail
   go_ret;refine⟨_,rfl,Ol (k:=true) HO.out (by omega) (fun _ _ _ h=>h) ?_ rl,by rw[HX.out.1];exact hcb',hF,hO⟩;simpa [T.ct]using HX.out.2 (Vw wr w.heap.size none) (fun b o v ⟨h1,h2,_,h4⟩=>⟨h1,h2,by simp,h4⟩) [] rfl
  |cl x b' tl'=>exact absurd hat'.1 (by simp)
  |st hd b' e' c' tl'=>
   have hk:k < t.len:=by simp[T.len]at hlen';omega
   obtain rfl:=hav.out (by omega);obtain⟨_,vb,b1,o1,ve,b2,o2,vc,b3,o3,hh,s1,a1,s2,a2,s3,a3,a4⟩:=hat';obtain⟨⟨ba,bn,bc,rfl⟩,_⟩:=Za s1;obtain⟨⟨ea,en,ec,rfl⟩,_⟩:=Za s2;obtain⟨⟨ca,cn,cc,rfl⟩,_⟩:=Za s3;have cell: ∀ (j:Nat) u,YB w B bb (o+k*11+j) u->wr.cell? ⟨bb,o+k*11+j,none⟩=some u:=fun j u h=>(hF.below.cell (p:=⟨bb,o+k*11+j,none⟩) h.1).trans h.2;have d0:wr.cell? ⟨bb,o+k*11,none⟩=some (.int .i64 hd.kind):=cell 0 _ hh.c0;have d1:=cell 1 _ hh.c1;have d2:=cell 2 _ hh.c2;have d3:=cell 3 _ hh.c3;have d4:=cell 4 _ hh.c4;have d5:=cell 5 _ hh.c5;have d6:=cell 6 _ hh.c6;have d7:=cell 7 _ hh.c7;have d8:=cell 8 _ hh.c8;have d9:=cell 9 _ hh.c9;have d10:=cell 10 _ hh.c10;obtain⟨q1,q2,q3,q4⟩:=XC;have e0:=hcb'.cell 0 rfl;have e0f:=hcb'.free 0;have hcbl:=hcb'.lt;have HX:=Wp hlen' PR Yx hown rl;have HA:=Ev s1 a1 s2 a2 s3 a3 a4;have HQ:=Xp q1 q2 q3 q4;clear hlen' PR Yx hown rl s1 a1 s2 a2 s3 a3 a4 q1 q2 q3 q4 hh cell;obtain⟨hk0,hk1,hk2,hk3,hk4,hk5,hk6,YJ⟩:=hd;simp only at*;obtain⟨X,hX⟩: ∃ X:List Value,X= [.int .i64 hk0,.string hk1,.string hk2,.bool hk3,.bool hk4,.bool hk5,.bool hk6,.bool YJ,.slice ba bn bc,.slice ea en ec,.slice ca cn cc]:=⟨_,rfl⟩
   have hW1:ZD (wr.setCell ⟨cb,0,none⟩ (.int .i64 (L -1))) cb [.int .i64 (L -1)] 63:=hcb'.set 0 _;have fW1:Fr [63] B wr (wr.setCell ⟨cb,0,none⟩ (.int .i64 (L -1))):=(Fr.refl _ _ _).X9 _ _ hcb'.ty (by decide) hB;have bJ:(wr.setCell ⟨cb,0,none⟩ (.int .i64 (L -1))).ownsRow w.heap.size 76 11 (.slice oa k oc) k rows.flatten:=Y3 HX.out.2.2.2.1 _ _ (fun e=>own_ne HX.out.2.2.2.1 hcb'.ty (by decide) e);have bI:(wr.setCell ⟨cb,0,none⟩ (.int .i64 (L -1))).heap.size=wr.heap.size:=by simp[World.setCell]
   have hBw:B<=wr.heap.size:=by omega
   have hW2:=hW1.alloc (.cells X.toArray 125);have gR:Only [cb] wr ((wr.setCell ⟨cb,0,none⟩ (.int .i64 (L -1))).alloc (.cells X.toArray 125)):=((Only.refl _ _).set _ _ (.inl (by simp))).alloc _;have fW2:=fW1.alloc (by omega) (.cells X.toArray 125);have kX:=bJ.alloc (.cells X.toArray 125);have xW2:=ZD.new' bI.symm X 125;have C5:k<=800:=by omega
   have HW:=Z5 bI;clear bI;by_cases hL:L -1 < 0
   .subst hX;have he:((T.st ⟨hk0,hk1,hk2,hk3,hk4,hk5,hk6,YJ⟩ b' e' c' tl').ct.l d L)=(.zero,L -1):=by simp only[T.ct];rw[if_pos (.inl hL)]
    have HE:=Z5 he;clear he;go_wp2_with (at_builtin;(refine Ze _ rfl _ _ 65 rfl w.heap.size 76 z76 11 120 underlying65 Mj rfl (by decide) (by decide) kX (by rfl) Ny rfl ?c1 (by simp[World.setCell];rfl) (by omega) (by simp;omega) ?_))
    case c1=>simp[Value.oneCell',Ny]
    intro g cap w6 hown6 UT VW Mm;have hS:=Z5 (Mi hcl hB HX.out.2.2.2.2 C5 hF hO HX.out.2.1 HX.out.2.2.1 HE.out fW2 gR kX hW2 hown6 UT);go_wp2_with fail
    go_ret;exact⟨_,rfl,hS.out⟩
   .by_cases hd:40 < d
    .subst hX;have he:((T.st ⟨hk0,hk1,hk2,hk3,hk4,hk5,hk6,YJ⟩ b' e' c' tl').ct.l d L)=(.zero,L -1):=by simp only[T.ct];rw[if_pos (.inr hd)]
     have HE:=Z5 he;clear he;go_wp2_with (at_builtin;(refine Ze _ rfl _ _ 65 rfl w.heap.size 76 z76 11 120 underlying65 Mj rfl (by decide) (by decide) kX (by rfl) Ny rfl ?c1 (by simp[World.setCell];rfl) (by omega) (by simp;omega) ?_))
     case c1=>simp[Value.oneCell',Ny]
     intro g cap w6 hown6 UT VW Mm;have hS:=Z5 (Mi hcl hB HX.out.2.2.2.2 C5 hF hO HX.out.2.1 HX.out.2.2.1 HE.out fW2 gR kX hW2 hown6 UT);go_wp2_with fail
     go_ret;exact⟨_,rfl,hS.out⟩
    .have hY:=ZD.new ((wr.setCell ⟨cb,0,none⟩ (.int .i64 (L -1))).alloc (.cells X.toArray 125)) [.int .i64 hk0,hk1,hk2,hk3,hk4,hk5,hk6,YJ,.slice none 0 0,.slice none 0 0,.slice none 0 0] 76;have hW3:=hW2.alloc (.cells [.int .i64 hk0,.string hk1,.string hk2,.bool hk3,.bool hk4,.bool hk5,.bool hk6,.bool YJ,.slice none 0 0,.slice none 0 0,.slice none 0 0].toArray 76);have vT:=fW2.alloc (by simp;have:=HW.out;omega) (.cells [.int .i64 hk0,.string hk1,.string hk2,.bool hk3,.bool hk4,.bool hk5,.bool hk6,.bool YJ,.slice none 0 0,.slice none 0 0,.slice none 0 0].toArray 76);have bH:=gR.alloc (.cells [.int .i64 hk0,.string hk1,.string hk2,.bool hk3,.bool hk4,.bool hk5,.bool hk6,.bool YJ,.slice none 0 0,.slice none 0 0,.slice none 0 0].toArray 76);have kW:=xW2.alloc (.cells [.int .i64 hk0,.string hk1,.string hk2,.bool hk3,.bool hk4,.bool hk5,.bool hk6,.bool YJ,.slice none 0 0,.slice none 0 0,.slice none 0 0].toArray 76);subst hX;have x8:=kW.cell 8 rfl;have x9:=kW.cell 9 rfl;go_upto_region 9 with fail
     obtain⟨W3,Nx⟩: ∃ W3:World,W3=((wr.setCell ⟨cb,0,none⟩ (.int .i64 (L -1))).alloc (.cells [.int .i64 hk0,.string hk1,.string hk2,.bool hk3,.bool hk4,.bool hk5,.bool hk6,.bool YJ,.slice ba bn bc,.slice ea en ec,.slice ca cn cc].toArray 125)).alloc (.cells [.int .i64 hk0,.string hk1,.string hk2,.bool hk3,.bool hk4,.bool hk5,.bool hk6,.bool YJ,.slice none 0 0,.slice none 0 0,.slice none 0 0].toArray 76):=⟨_,rfl⟩
     have bN:W3.heap.size=wr.heap.size+2:=by rw[Nx];simp
     have hyb:((wr.setCell ⟨cb,0,none⟩ (.int .i64 (L -1))).alloc (.cells [.int .i64 hk0,.string hk1,.string hk2,.bool hk3,.bool hk4,.bool hk5,.bool hk6,.bool YJ,.slice ba bn bc,.slice ea en ec,.slice ca cn cc].toArray 125)).heap.size=wr.heap.size+1:=by simp
     rw[hyb]at hY;rw[<-Nx]at hY hW3 vT bH kW x8 x9;rw[<-Nx];have a1':=HA.out.2.1.mono (YB.below (hF.trans vT).below);have a2':=HA.out.2.2.2.1.mono (YB.below (hF.trans vT).below);have hdw:=IntWalk.i64_in ((d:Int)+1) (by omega);have HW3:=Z5 Nx;have hlo1:=(Oq b').1 (d+1) (L -1) (by omega);have kV:=hlo1.1 (by omega);have kU:=hlo1.2.2;have kT: -126<=low (d+1):=by unfold low;omega
     clear hlo1;clear Nx hyb;go_cut [] (fun wx=>kZ ⟨hk0,hk1,hk2,hk3,hk4,hk5,hk6,YJ⟩ b' e' B cb wr d L (.slice ba bn bc) (.slice ea en ec) (.slice ca cn cc) wx)
     case first=>
      go_region_law (first
       |(refine Yy rfl 64 _ _ (by rfl) [cb,.slice ba bn bc,.int .i64 ((d:Int)+1)] (by rfl) Mh ((HQ.out.1 B cb (L -1) (d+1) _ W3.drew _ b1 o1 (by simp) hB hW3 (by omega) (by omega) (by omega) (by omega) HA.out.1 a1').mono ?_);rintro e w4 ⟨v1,rfl,hv1,hc4,f4,o4⟩;refine⟨_,rfl,?_⟩;have bG:=kW.drew.only o4 (by simp;omega);have y8:=bG.cell 8 rfl;have y9:=bG.cell 9 rfl;have yb4:=hY.drew.only o4 (by simp;omega);have z8:=yb4.cell 8 rfl;obtain⟨b4,o4',hs4,LD⟩:=hv1;obtain⟨⟨bF,bE,bD,rfl⟩,_⟩:=Za hs4)
       |(refine Yy rfl 64 _ _ (by rfl) [cb,.slice ea en ec,.int .i64 ((d:Int)+1)] (by rfl) Mh ((HQ.out.2.1 B cb (b'.ct.l (d+1) (L -1)).2 (d+1) _ w4 _ b2 o2 (by simp) hB hc4 (by omega) (by omega) (by omega) (by omega) HA.out.2.2.1 (HA.out.2.2.2.1.mono (YB.below (hF.trans (vT.drew.trans f4)).below))).mono ?_);rintro e w5 ⟨v2,rfl,hv2,hc5,f5,o5⟩;refine⟨_,rfl,?_⟩;have s4:=f4.size;have xw5:=bG.only o5 (by simp;omega);have kS:=yb4.only o5 (by simp;omega);have z8:=kS.cell 8 rfl;have z9:=kS.cell 9 rfl;have z8f:=kS.free 8;have z9f:=kS.free 9;obtain⟨b5,bM,hs5,lZ⟩:=hv2;obtain⟨⟨bC,bB,bA,rfl⟩,_⟩:=Za hs5))
      all_goals
       go_wp2_with fail
       go_meet;exact mid_step hcbl hB bN vT bH f4 o4 f5 o5 xw5 kS hs4 LD hs5 lZ hc5
     case rest=>
      clear x8 x9 hW3 vT bH kW hY a1' a2' bN HW3;obtain⟨v1,v2,hxb,hyb,ht1,ht2,hcc,fM,oM⟩:=hcut;have hlo2:=(Oq e').1 (d+1) (b'.ct.l (d+1) (L -1)).2 (by omega);have kR: -300<=(e'.ct.l (d+1) (b'.ct.l (d+1) (L -1)).2).2:=by
       rcases Int.lt_or_le (b'.ct.l (d+1) (L -1)).2 0 with h|h
       .have:=hlo2.2.1 h;omega
       .have:=hlo2.1 h;omega
      have bz:=hlo2.2.2;clear hlo2;obtain⟨L2,sK⟩: ∃ L2:Int,L2=(e'.ct.l (d+1) (b'.ct.l (d+1) (L -1)).2).2:=⟨_,rfl⟩
      rw[<-sK]at hcc kR bz;have kY:L2<=L -1:=by omega
      have HT:=X7 ht1 ht2 sK;have bw:=hLb;obtain⟨⟨bF,bE,bD,rfl⟩,_⟩:(∃ a n c,v1=.slice a n c)/\True:=⟨let⟨_,_,h,_⟩:=ht1;(Za h).1,trivial⟩
      obtain⟨⟨bC,bB,bA,rfl⟩,_⟩:(∃ a n c,v2=.slice a n c)/\True:=⟨let⟨_,_,h,_⟩:=ht2;(Za h).1,trivial⟩
      have hk10:=hxb.cell 10 rfl;have sM:=fM.size;have syb:=hyb.lt;have sxb:=hxb.lt;obtain⟨wo,hwo⟩: ∃ wo:World,wo=wr:=⟨_,rfl⟩
      subst hwo;have Z6m:=Z5 bJ;have hcn:cn=c'.len:=by
       rcases HA.out.2.2.2.2.1 with⟨h0,a,c,he⟩ |⟨cap,_,_,_,he⟩
       .cases he;omega
       .cases he;rfl
      subst hcn;have Z7X:c'.len<=35184372088832:=by
       rcases HA.out.2.2.2.2.1 with⟨h0,_⟩ |⟨cap,_,_,hn,_⟩<;>omega
      have hca:Hid (0 < c'.len->ca=some ⟨b3,o3,none⟩):=by
       intro hp;rcases HA.out.2.2.2.2.1 with⟨h0,_⟩ |⟨cap,_,_,_,he⟩
       .omega
       .simp at he;exact he.1
      clear ht1 ht2 sK kV kU kT bJ kX hW1 hW2 fW1 fW2 gR xW2 hcb' e0 e0f d0 d1 d2 d3 d4 d5 d6 d7 d8 d9 d10;go_wp2_with fail
      go_loopw [73] (fun ix wx=>vS ⟨hk0,hk1,hk2,hk3,hk4,hk5,hk6,YJ⟩ c' B cb w wo wc b3 o3 d L2 (.slice bF bE bD) (.slice bC bB bA) ix wx) (fun ix _=>c'.len -(intOf ix).toNat)
      case atStart=>exact⟨0,c',[],L2,.slice none 0 0,rfl,HQ.out.2.2.1,by simpa using HA.out.2.2.2.2.2.1,by simp,rfl,hyb,Zs _ _ _ _,hcc,kR,by omega,fM,oM,Only.refl _ _,rfl,id,fun c1 h1=>⟨c1,h1,fun C' _ rs' h=>by simpa using h⟩⟩
      case round=>
       obtain⟨m,UV,VE,Lc,cvv,rfl,KX,KW,WQ,Bn,hyb,Vh,hcb',hLa,hLb,hFx,yP,Bo,Uw,C4,Oi⟩:=hrel;obtain⟨wi,hwi⟩: ∃ wi:World,wi=wr:=⟨_,rfl⟩
       subst hwi;have sx:=hFx.size;have sOc:=Bo.size;have Z7W:=hcb'.lt;have Z6l:=hyb.lt;have e0:=hcb'.cell 0 rfl;have e0f:=hcb'.free 0;have Z7V:m<=800:=by omega
       have HC:=Qd WQ Bn Uw C4 Oi Vh;clear Bn Uw C4 Oi Vh;cases UV with
       |nil=>
        have hmk: ¬ m < c'.len:=by simp[T.len]at WQ;omega
        have hmc:c'.len=m:=by simp[T.len]at WQ;omega
        obtain⟨I5,Bn,Uw,_,Oi,Vh⟩:=HC.out;obtain⟨cw,hcw,hrc⟩:=Oi .nil rfl;obtain⟨dm,Hn,rfl⟩:=ZR Vh;have hlow2:=((Oq c').2 (d+1) L2 (by omega) (by omega)).2.2;have owi:wi.ownsRow w.heap.size 76 11 (.slice oa k oc) k rows.flatten:=YX yP HX.out.2.2.2.1 (fun g hg=>by have:=(HX.out.2.2.2.1.lt g hg).1;simp;omega);have y0:=hyb.cell 0 rfl;have y1:=hyb.cell 1 rfl;have y2:=hyb.cell 2 rfl;have y3:=hyb.cell 3 rfl;have y4:=hyb.cell 4 rfl;have y5:=hyb.cell 5 rfl;have y6:=hyb.cell 6 rfl;have y7:=hyb.cell 7 rfl;have y8:=hyb.cell 8 rfl;have y9:=hyb.cell 9 rfl;have LL:=hyb.cell 10 rfl;have HR2:=Ev hmc Bn Uw hcw hrc Vh HC.out.1;have hw1:w.heap.size<=wi.heap.size:=by omega
        clear WQ I5 Bn Uw Oi Vh hcw hrc hlow2 hmc;go_wp2_with (at_builtin;(refine Ze wi rfl _ _ 65 rfl w.heap.size 76 z76 11 120 underlying65 Mj rfl (by decide) (by decide) owi (by rfl) [.int .i64 hk0,hk1,hk2,hk3,hk4,hk5,hk6,YJ,.slice bF bE bD,.slice bC bB bA,.slice dm m Hn] rfl ?c1 (by rfl) (by omega) (by omega) ?_))
        case c1=>simp[Value.oneCell']
        intro g cap w6 hown6 UT VW Mm;obtain⟨hmc,Bn,Uw,hcw,hrc,Vh,I5⟩:=HR2.out;have hS:=yO (h:=⟨hk0,hk1,hk2,hk3,hk4,hk5,hk6,YJ⟩) (oo:=o+k*11+11) hcl hB hd1 (by omega) (by omega) bw (by omega) HX.out.1 HX.out.2.2.2.2 HQ.out.2.2.2 HA.out.2.2.2.2.2.2 rfl HX.out.2.2.2.1 hF hO HX.out.2.1 HX.out.2.2.1 HT.out.1 HT.out.2.1 HT.out.2.2 kY hFx yP Bo (by rw[hmc];exact Vh) (by rw[hmc];exact Bn) (by omega) hcb' hLa Uw hcw hrc hown6 UT VW;have hSS:=Z5 hS;clear hS hmc Bn Uw hcw hrc Vh I5;go_wp2_with fail
        exact⟨hSS.out,by simp[intOf];omega⟩
       |st=>exact absurd KW.1 (by simp)
       |cl xe b6 KU=>
        have hmk:m < c'.len:=by simp[T.len]at WQ;omega
        have hmk':=HC.out.1;obtain rfl:=hca.out (by omega);obtain⟨_,vb6,b7,o7,hc0,hc1,s6,a6,a7⟩:=KW;obtain⟨⟨RV,Bm,SA,rfl⟩,_⟩:=Za s6;have d0:wi.cell? ⟨b3,o3+m*2,none⟩=some (.int .i64 xe):=((hF.trans hFx).below.cell (p:=⟨b3,o3+m*2,none⟩) hc0.1).trans hc0.2;have d1:wi.cell? ⟨b3,o3+m*2+1,none⟩=some (.slice RV Bm SA):=((hF.trans hFx).below.cell (p:=⟨b3,o3+m*2+1,none⟩) hc1.1).trans hc1.2;obtain⟨q6,q7⟩:=KX;have HB:=Wp s6 a6 a7 q6 q7;clear s6 a6 a7 q6 q7 hc0 hc1 WQ;have hV1:ZD (wi.setCell ⟨cb,0,none⟩ (.int .i64 (Lc -1))) cb [.int .i64 (Lc -1)] 63:=hcb'.set 0 _;have fV1:Fr [63] B wi (wi.setCell ⟨cb,0,none⟩ (.int .i64 (Lc -1))):=(Fr.refl _ _ _).X9 _ _ hcb'.ty (by decide) hB;have hV2:=hV1.alloc (.cells [.int .i64 xe,.slice RV Bm SA].toArray 127);have gQ:=fV1.alloc (by simp[World.setCell];omega) (.cells [.int .i64 xe,.slice RV Bm SA].toArray 127);have kQ:Only [cb] wi ((wi.setCell ⟨cb,0,none⟩ (.int .i64 (Lc -1))).alloc (.cells [.int .i64 xe,.slice RV Bm SA].toArray 127)):=((Only.refl _ _).set _ _ (.inl (by simp))).alloc _;have gP:=ZD.new' (show wi.heap.size=(wi.setCell ⟨cb,0,none⟩ (.int .i64 (Lc -1))).heap.size by simp[World.setCell]) [.int .i64 xe,.slice RV Bm SA] 127;by_cases hLc:Lc -1 < 0
        .have hnone:((T.cl xe b6 KU).ct.c (d+1) Lc).1=none/\((T.cl xe b6 KU).ct.c (d+1) Lc).2=Lc -1:=by simp only[T.ct];rw[if_pos hLc];exact⟨rfl,rfl⟩
         have he:((T.st ⟨hk0,hk1,hk2,hk3,hk4,hk5,hk6,YJ⟩ b' e' c' tl').ct.l d L)=(.zero,Lc -1):=by
          have h1:=HC.out.2.2.2.1 hnone.1;have h2:=HC.out.2.2.1.trans hnone.2;rw[HT.out.2.2]at h1 h2;simp only[T.ct];rw[if_neg (by omega),h1];simp only[h2]
         have HE:=Z5 he;clear he hnone;have kP:Only [cb] wo ((wi.setCell ⟨cb,0,none⟩ (.int .i64 (Lc -1))).alloc (.cells [.int .i64 xe,.slice RV Bm SA].toArray 127)):=yP.trans kQ;have oWF:((wi.setCell ⟨cb,0,none⟩ (.int .i64 (Lc -1))).alloc (.cells [.int .i64 xe,.slice RV Bm SA].toArray 127)).ownsRow w.heap.size 76 11 (.slice oa k oc) k rows.flatten:=by
          refine YX kP HX.out.2.2.2.1 (fun g hg=>?_);simp;intro e;have:=(HX.out.2.2.2.1.lt g hg).1;omega
         go_wp2_with (at_builtin;(refine Ze _ rfl _ _ 65 rfl w.heap.size 76 z76 11 120 underlying65 Mj rfl (by decide) (by decide) oWF (by rfl) Ny rfl ?c1 (by simp[World.setCell];rfl) (by omega) (by simp[World.setCell];omega) ?_))
         case c1=>simp[Value.oneCell',Ny]
         intro g cap w6 hown6 UT VW Mm;have hS:=Z5 (Mi hcl hB HX.out.2.2.2.2 C5 hF hO HX.out.2.1 HX.out.2.2.1 HE.out (hFx.trans gQ) kP oWF hV2 hown6 UT);go_wp2_with fail
         go_ret;exact⟨_,rfl,hS.out⟩
        .have sJ:ZD ((wi.setCell ⟨cb,0,none⟩ (.int .i64 (Lc -1))).alloc (.cells [.int .i64 xe,.slice RV Bm SA].toArray 127)) (wo.heap.size+1) _ _:=hyb.only kQ (by simp;omega);obtain⟨dm,Hn,rfl⟩:=ZR HC.out.2.2.2.2.2;have sI:=YX kQ HC.out.2.2.2.2.2 (fun g hg=>by have:=(HC.out.2.2.2.2.2.lt g hg).1;simp;omega);have LL:=sJ.cell 10 rfl;have z0:=gP.cell 0 rfl;have z1:=gP.cell 1 rfl;go_upto_region 16 with fail
         obtain⟨V3,C2⟩: ∃ V3:World,V3=(wi.setCell ⟨cb,0,none⟩ (.int .i64 (Lc -1))).alloc (.cells [.int .i64 xe,.slice RV Bm SA].toArray 127):=⟨_,rfl⟩
         have sV3:V3.heap.size=wi.heap.size+1:=by rw[C2];simp[World.setCell]
         rw[<-C2]at hV2 gQ kQ gP sJ sI LL z0 z1;rw[<-C2];have hdw:=IntWalk.i64_in ((d:Int)+1) (by omega);have HV3:=Z5 C2;clear C2;have a6':=HB.out.2.1.mono (YB.below ((hF.trans hFx).trans gQ.drew).below)
         go_region_law (first
          |(refine Yy rfl 64 _ _ (by rfl) [cb,.slice RV Bm SA,.int .i64 ((d:Int)+1)] (by rfl) Mh ((HB.out.2.2.2.1 B cb (Lc -1) (d+1) _ V3.drew _ b7 o7 (by simp) hB hV2 (by omega) (by omega) (by omega) (by omega) HB.out.1 a6').mono ?_);rintro e w7 ⟨v7,rfl,hv7,bL,f7,gO⟩;refine⟨_,rfl,?_⟩;have s7:V3.heap.size<=w7.heap.size:=f7.size;have gN:=sJ.drew.only gO (by simp;omega);have y7:=gN.cell 10 rfl;have zb7:=gP.drew.only gO (by simp;omega);have z70:=zb7.cell 0 rfl;have co7:=YX gO sI.drew (fun g hg=>by have:=(sI.lt g hg).1;simp;omega);obtain⟨b8,o8,hs7,bu⟩:=hv7;obtain⟨⟨v7a,v7n,v7c,rfl⟩,_⟩:=Za hs7;have y7a:=(gN.alloc (.cells [.int .i64 xe,.slice v7a v7n v7c].toArray 132)).cell 10 rfl)
          |(refine XQ w7 _ rfl _ _ 74 rfl wc.heap.size 132 (.agg #[.int .i64 0,.slice none 0 0]) 2 32 underlying74 yR rfl (by decide) (by decide) co7 (by rfl) [.int .i64 xe,.slice v7a v7n v7c] rfl (by simp[Value.oneCell']) (by rfl) (by omega) (by omega) (by first|exact .inl rfl|exact .inr rfl) ?_;intro g cap w8 Dt lW bt Z6k;have br:=gN.grown lW (own_ne co7 gN.ty (by decide));have y8:=br.cell 10 rfl;have y8f:=br.free 10))
         all_goals
          have hS:=yQ (h:=⟨hk0,hk1,hk2,hk3,hk4,hk5,hk6,YJ⟩) (w:=w) hcbl (by omega) hB (by omega) hLc hLb hmk' HC.out.2.1 HB.out.2.2.2.2 HB.out.2.2.1 HC.out.2.2.2.2.2 hFx yP Bo HC.out.2.2.1 HC.out.2.2.2.1 HC.out.2.2.2.2.1 gQ kQ f7 gO bL hs7 bu Dt lW bt br;go_wp2_with fail
          exact⟨hS,by simp[intOf];omega⟩
theorem yN: ∀ t:T,Om t:=T.Wg sL
end Go.Proofs.YteedbaejpdjilaaGreat
