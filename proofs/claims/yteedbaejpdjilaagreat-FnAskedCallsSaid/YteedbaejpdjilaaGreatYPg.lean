/- Part of the proof: BldC. -/
import Derived.Test.YteedbaejpdjilaaGreatYPf
set_option linter.all false
set_option maxRecDepth 100000
set_option maxHeartbeats 40000000
namespace Go.Proofs.YteedbaejpdjilaaGreat
open Go.RowKit Tryz
def Xm:List Value->Nat->List Value->List Value
 |cs,_,[]=>cs
 |cs,o,y::ys=>Xm (cs.set o y) (o+1) ys
theorem ZD.Xm {b:Nat} {t:TypeId} : ∀ {ys:List Value} {w:World} {cs:List Value} {o:Nat},ZD w b cs t->ZD (w.setCells b o ys) b (Xm cs o ys) t
 | [],_,_,_,h=>h
 |y::ys,_,_,o,h=>ZD.Xm (ys:=ys) (h.set o y)
theorem Only.Xm {X:List Nat} {b:Nat} (hb:b∈X): ∀ {ys:List Value} {w w0:World} {o:Nat},Only X w0 w->Only X w0 (w.setCells b o ys)
 | [],_,_,_,h=>h
 |y::ys,_,_,o,h=>Only.Xm hb (ys:=ys) (h.set ⟨b,o,none⟩ y (.inl hb))
theorem Fr.Xm {Tt:List Nat} {B b:Nat} {t:TypeId} (hT:t∈Tt) (hB:B<=b): ∀ {ys:List Value} {w w0:World} {o:Nat},Zq w b t->Fr Tt B w0 w->Fr Tt B w0 (w.setCells b o ys)
 | [],_,_,_,_,h=>h
 |y::ys,_,_,o,ht,h=>Fr.Xm hT hB (ys:=ys) (ht.setCell ⟨b,o,none⟩ y) (h.X9 ⟨b,o,none⟩ y ht hT hB)
theorem AI: ∃ i,prog.info? 92=some i/\i.size=1:=by
 obtain⟨i0,hi,hz0,hz1,hz2⟩:=info_parts MP;exact⟨i0,hi,hz1⟩
theorem Ni {ops:Array Oper} {o:Oper} {a:Act} {K:Act->World->Prop} {Q:Exit->Act->World->Prop} {E:Prop} (w wN:World) (hgd:o.guard=none) (s x:Operand)
  (ho:o.op=.call { callee:=.builtin .append,args:= #[s,x],argTypes:= #[89,89] }) {ad B:Nat} {cs:List Value} (hblk:ZD w ad cs 99) (hcs:cs.length=9) (hB:B<=ad) (hBw:B<=w.heap.size)
  (hs:a.eval s=.slice (some ⟨ad,7,none⟩) 0 2) (ys:List Value) (m:Nat) (hm:ys.length=m) (hm2:m<=2) (hy: ∀ u∈ys,u.oneCell'=true)
  (hx:a.eval x=.slice (some ⟨w.heap.size,0,none⟩) m m) (EG:wN=w.alloc (.cells ys.toArray 92)\/wN=(w.alloc (.cells ys.toArray 92)).drew)
  (h: ∀ w1,ZD w1 ad (Xm cs 7 ys) 99->Only [ad] w w1->Fr [99] B w w1->K (a.put o.dst (.slice (some ⟨ad,7,none⟩) m 2)) w1):if Region.wanted o (yielded ops a.tmps)=true then Oper.wp prog o a wN K Q else E:=by
 obtain⟨i0,hi,hz1⟩:=AI;have hnew:wN.heap[w.heap.size]? =some (.cells ys.toArray 92 (0,0)):=by
  rcases EG with rfl|rfl<;>exact heap_alloc_new w _
 have hbN:ZD wN ad cs 99:=by
  rcases EG with rfl|rfl
  .exact hblk.alloc _
  .exact(hblk.alloc _).drew
 have hoN:Only [ad] w wN:=by
  rcases EG with rfl|rfl
  .exact(Only.refl _ _).alloc _
  .exact((Only.refl _ _).alloc _).drew
 have hfN:Fr [99] B w wN:=by
  rcases EG with rfl|rfl
  .exact(Fr.refl _ _ _).alloc hBw _
  .exact((Fr.refl _ _ _).alloc hBw _).drew
 refine step_append_room hgd s x 89 ho 92 i0 1 underlying89 hi hz1 ad 7 0 2 hs ⟨w.heap.size,0,none⟩ m m ys hx (by omega) (World.news_of_block (cs:=ys.toArray) (t:=92) (fr:=(0,0)) hnew) hy (by omega) ?_ ?_
 .intro j hj;refine⟨?_,hbN.free _⟩;have:7+0*1+j < cs.length:=by omega
  rw[hbN.cell (7+0*1+j) (Z9 this)];rfl
 .rw[YR];exact h _ hbN.Xm (hoN.Xm (by simp)) (hfN.Xm (by decide) hB hbN.ty)
def BS.Nh (S:BS):BS:= { S with cur:=none }
def BS.at (S:BS) (c:Nat):BS:= { S with cur:=some c }
theorem Xd.setCur {w:World} {B b b0:Nat} {A:List Nat} {NV:List Value} {L:List Nat} {S:BS} {tg:List Tg} {M:Mk} (h:Xd w B b b0 A NV L S tg M) {v:Value} {c:Option Nat} (hv:Zc A v c):
  Xd (w.setCell ⟨b,2,none⟩ v) B b b0 A NV L { S with cur:=c } tg M/\Fr [136] B w (w.setCell ⟨b,2,none⟩ v):=by
 obtain⟨bv,cv,mv,tv,hb,hbv,hcv,hlv,UH⟩:=h.self;have f:Fr [136] B w (w.setCell ⟨b,2,none⟩ v):=(Fr.refl _ _ _).X9 _ _ hb.ty (by decide) h.hB;have f2:Fr bT B w (w.setCell ⟨b,2,none⟩ v):=f.mono (by decide) (Z7 _);have o:Only [b] w (w.setCell ⟨b,2,none⟩ v):=(Only.refl _ _).set _ _ (.inl (by simp));have hA:A <+:A:=⟨[],by simp⟩
 have nX: ∀ x t,Zq w x t->t≠136->x∉ [b]:=by
  intro x t hx h1 hc;simp at hc;exact Zq.ne hx hb.ty h1 hc
 refine⟨⟨h.hB,h.US,h.VU,h.nodup,h.base,h.apart,fun i k nv hk hn=>?_,h.Bw.fr f (by decide),?_⟩,f⟩
 .exact(h.Z6 i k nv hk hn).only o f2 hA (fun a ha=>nX a 99 (h.Bv a (ZY ha)) (by decide)) (fun g hg=>nX g 104 (h.Jx nv (ZY hn) g hg) (by decide))
 .refine⟨bv,v,mv,tv,hb.set 2 v,ZE f hbv (by decide),hv,hlv.only o hA (fun l hl=>nX l 193 (hlv.ty l hl) (by decide)) (fun mb hmb hc=>?_),UH.mono (Hv.bT f2) hA⟩;simp at hc;exact hlv.W5 hmb hb.ty hc
theorem Eb {w:World} {B b b0:Nat} {A:List Nat} {NV:List Value} {L:List Nat} {S:BS} {tg:List Tg} {M:Mk} (h:Xd w B b b0 A NV L S tg M) {c:Nat} {k:Bk} (hc:S.cur=some c) (hk:S.Z6[c]? =some k) (hn:k.succs= []) {t MO:Nat} (ht:A[t]? =some MO):
  Calls prog 99 #[b,MO] w fun e w'=>e=.returned (.tuple #[])/\Xd w' B b b0 A NV L ((S.set c { k with succs:= [t] }).Nh) tg M/\Fr bT B w w':=by
 obtain⟨a,nv,bv,mv,tv,ha,V9,hbk,hb⟩:=h.Hc hc hk;obtain⟨a',sv,p0,p1,ns,g1,g2,g3,g4,g5,g6,g7,g8,g9⟩:=hbk;rw[ha]at g1;cases g1;rw[hn]at g2;have hBb:=h.hB;have hBa:=h.base a (ZY ha);have hlt:=hb.lt;have pf:=g2.lt;have c2:=hb.cell 2 rfl;have d0:=g2.cell 1 rfl;have hcd:=(g2.alloc (.cells [.pointer (some ⟨MO,0,none⟩)].toArray 92)).drew.cell 1 rfl;have hcb:=(hb.alloc (.cells [.pointer (some ⟨MO,0,none⟩)].toArray 92)).drew.cell 2 rfl;have hab:b≠a:=Zq.ne hb.ty g2.ty (by decide);have Hx:=Ev hc hk ha V9 g4 hn ht;clear hc hk ha V9 g4 hn ht;go_enter func99,ntmps99;go_wp2_with fail
 go_region_law (refine Ni w _ rfl _ _ rfl g2 (by rfl) hBa (by omega) (by rfl) [MO] 1 rfl (by decide) (by simp[Value.oneCell']) (by rfl) (by first|exact .inl rfl|exact .inr rfl) ?_;intro w1 h1 o1 f1;have e0:=h1.cell 1 rfl;have ef:=h1.free 1;have hb1:=hb.only o1 (by simpa using hab);have b2:=hb1.cell 2 rfl;have bf:=hb1.free 2)
 all_goals
  have hA2:=h1.set 1 (.slice (some ⟨a,7,none⟩) 1 2);have f2:Fr bT B w (w1.setCell ⟨a,1,none⟩ (.slice (some ⟨a,7,none⟩) 1 2)):=(f1.X9 _ _ h1.ty (by decide) hBa).mono (by decide) (Z7 _);have o2:Only [a] w (w1.setCell ⟨a,1,none⟩ (.slice (some ⟨a,7,none⟩) 1 2)):=o1.set _ _ (.inl (by simp));have hb2:=hb1.setOther ⟨a,1,none⟩ (.slice (some ⟨a,7,none⟩) 1 2) hab;have b3:=hb2.cell 2 rfl;have bf3:=hb2.free 2;go_wp2_with fail
  go_end0
  obtain⟨hc,hk,ha,V9,g4,hn,ht⟩:=Hx.out;have hA:A <+:A:=⟨[],by simp⟩
  have hU:=h.upd (UR:=nv) ha V9 o2 f2 (fun x hx=>.inl (by simpa using hx)) (k':= { k with succs:= [t] })
   ⟨a,sv,_,p1,ns,ha,hA2,YX o2 g3 (fun g hg hx=>Zq.ne (h.Jx nv (ZY V9) g hg) g2.ty (by decide) (by simpa using hx)),g4,fun j v n e1 e2=>(g5 j v n e1 e2).mono (Hv.bT f2),g6.mono (Hv.bT f2),⟨some t,⟨MO,ht,rfl⟩,fun s hs=>by simpa using hs⟩,⟨g8.choose,g8.choose_spec.1,fun s hs=>by simp at hs⟩,by simp⟩
   (fun g hg=>.inl hg)
  obtain⟨pe,fU⟩:=hU.setCur (v:=.pointer none) (c:=none) rfl;have eN:NV.set c nv=NV:=by
   apply List.ext_getElem?;intro i;by_cases hi:i=c
   .subst hi;rw[YQ (Z1.1 V9).1,V9]
   .rw[YM (Ne.symm hi)]
  rw[eN]at pe;exact⟨rfl,pe,f2.trans (fU.mono (by decide) (Z7 _))⟩
theorem Jw {w:World} {B b b0:Nat} {A:List Nat} {NV:List Value} {L:List Nat} {S:BS} {tg:List Tg} {M:Mk} (h:Xd w B b b0 A NV L S tg M) {c:Nat} {k:Bk} (hc:S.cur=some c) (hk:S.Z6[c]? =some k) (hn:k.succs= []) {t MO t2 at2:Nat} (ht:A[t]? =some MO) (ht2:A[t2]? =some at2):
  Calls prog 102 #[b,MO,at2] w fun e w'=>e=.returned (.tuple #[])/\Xd w' B b b0 A NV L ((S.set c { k with succs:= [t,t2] }).Nh) tg M/\Fr bT B w w':=by
 obtain⟨a,nv,bv,mv,tv,ha,V9,hbk,hb⟩:=h.Hc hc hk;obtain⟨a',sv,p0,p1,ns,g1,g2,g3,g4,g5,g6,g7,g8,g9⟩:=hbk;rw[ha]at g1;cases g1;rw[hn]at g2;have hBb:=h.hB;have hBa:=h.base a (ZY ha);have hlt:=hb.lt;have pf:=g2.lt;have c2:=hb.cell 2 rfl;have d0:=g2.cell 1 rfl;have hcd:=(g2.alloc (.cells [.pointer (some ⟨MO,0,none⟩),.pointer (some ⟨at2,0,none⟩)].toArray 92)).drew.cell 1 rfl;have hcb:=(hb.alloc (.cells [.pointer (some ⟨MO,0,none⟩),.pointer (some ⟨at2,0,none⟩)].toArray 92)).drew.cell 2 rfl;have hab:b≠a:=Zq.ne hb.ty g2.ty (by decide);have Hx:=F6 hc hk ha V9 g4 hn ht ht2;clear hc hk ha V9 g4 hn ht ht2;go_enter func102,ntmps102;go_wp2_with fail
 go_region_law (refine Ni w _ rfl _ _ rfl g2 (by rfl) hBa (by omega) (by rfl) [MO,at2] 2 rfl (by decide) (by simp[Value.oneCell']) (by rfl) (by first|exact .inl rfl|exact .inr rfl) ?_;intro w1 h1 o1 f1;have e0:=h1.cell 1 rfl;have ef:=h1.free 1;have hb1:=hb.only o1 (by simpa using hab);have b2:=hb1.cell 2 rfl;have bf:=hb1.free 2)
 all_goals
  have hA2:=h1.set 1 (.slice (some ⟨a,7,none⟩) 2 2);have f2:Fr bT B w (w1.setCell ⟨a,1,none⟩ (.slice (some ⟨a,7,none⟩) 2 2)):=(f1.X9 _ _ h1.ty (by decide) hBa).mono (by decide) (Z7 _);have o2:Only [a] w (w1.setCell ⟨a,1,none⟩ (.slice (some ⟨a,7,none⟩) 2 2)):=o1.set _ _ (.inl (by simp));have hb2:=hb1.setOther ⟨a,1,none⟩ (.slice (some ⟨a,7,none⟩) 2 2) hab;have b3:=hb2.cell 2 rfl;have bf3:=hb2.free 2;go_wp2_with fail
  go_end0
  obtain⟨hc,hk,ha,V9,g4,hn,ht,ht2⟩:=Hx.out;have hA:A <+:A:=⟨[],by simp⟩
  have hU:=h.upd (UR:=nv) ha V9 o2 f2 (fun x hx=>.inl (by simpa using hx)) (k':= { k with succs:= [t,t2] })
   ⟨a,sv,_,_,ns,ha,hA2,YX o2 g3 (fun g hg hx=>Zq.ne (h.Jx nv (ZY V9) g hg) g2.ty (by decide) (by simpa using hx)),g4,fun j v n e1 e2=>(g5 j v n e1 e2).mono (Hv.bT f2),g6.mono (Hv.bT f2),⟨some t,⟨MO,ht,rfl⟩,fun s hs=>by simpa using hs⟩,⟨some t2,⟨at2,ht2,rfl⟩,fun s hs=>by simpa using hs⟩,by simp⟩
   (fun g hg=>.inl hg)
  obtain⟨pe,fU⟩:=hU.setCur (v:=.pointer none) (c:=none) rfl;have eN:NV.set c nv=NV:=by
   apply List.ext_getElem?;intro i;by_cases hi:i=c
   .subst hi;rw[YQ (Z1.1 V9).1,V9]
   .rw[YM (Ne.symm hi)]
  rw[eN]at pe;exact⟨rfl,pe,f2.trans (fU.mono (by decide) (Z7 _))⟩
end Go.Proofs.YteedbaejpdjilaaGreat
