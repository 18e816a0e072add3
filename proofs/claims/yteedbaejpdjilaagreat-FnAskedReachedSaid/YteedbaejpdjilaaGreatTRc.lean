/- Part of the proof: LawT. -/
import Derived.Test.YteedbaejpdjilaaGreatYQf
import Derived.Test.YteedbaejpdjilaaGreatYPx
import Derived.Test.YteedbaejpdjilaaGreatYPy
import Derived.BigQuiet
import Derived.StillTailTactics
set_option linter.all false
set_option maxRecDepth 100000
set_option maxHeartbeats 4000000
namespace Go.Proofs.YteedbaejpdjilaaGreat
open Go.RowKit Tryz
def QW (w:World) (lo p:Nat) (A:Tr):Prop:= ∃ num lv nv rv NR RR,Wi w lo p A num true lv nv rv NR RR
theorem QW.low {w w':World} {lo p:Nat} {A:Tr} (h:QW w lo p A) (hb:Below w.heap.size w w'):QW w' lo p A:=let⟨n,l,v,r,N,R,M⟩:=h;⟨n,l,v,r,N,R,M.low hb⟩
section
variable {w w':World} {lo p:Nat} {A:Tr} {num:Int} {rt:Bool} {lv nv rv:Value} {NR RR:List (List Value)}
theorem Wi.iM (M:Wi w lo p A num rt lv nv rv NR RR) (hn:0 < A.ls.length): ∃ g cap,lv=.slice (some ⟨g,0,none⟩) A.ls.length cap:=XM M.t.l hn
theorem Wi.lf3 {g cap:Nat} (M:Wi w lo p A num rt (.slice (some ⟨g,0,none⟩) A.ls.length cap) nv rv NR RR) {m:Nat} (hm:m < A.ls.length):w.cell? ⟨g,m*3,none⟩=some (.int .i64 (A.lf m).of)/\w.cell? ⟨g,m*3+1,none⟩=some (.int .i64 (A.lf m).what)/\w.cell? ⟨g,m*3+2,none⟩=some (.int .i64 (A.lf m).index):=
 ⟨M.lf hm 0 _ rfl,M.lf hm 1 _ rfl,M.lf hm 2 _ rfl⟩
def Ie (P:Program) (ops:Array Oper) (S:World->Prop) (K:Act->Prop) (s:Nat):Nat->Nat->Act->Prop
 |0,_,a=>K a
 |k+1,i,a=> ∃ (oi:Oper) (v:Value),ops[i]? =some oi/\oi.dst=some (s+i)/\YieldsIf P ops S oi v a/\Ie P ops S K s k (i+1) (a.put (some (s+i)) v)
def Gd (md:Region.Mode) (ops:Array Oper):Nat->Nat->Array Bool->Bool
 |0,_,_=>true
 |k+1,i,l=>Region.free md ops l i&&(Region.ready md ops l).contains i&&Gd md ops k (i+1) (l.setIfInBounds i true)
def iL:Nat->Nat->Array Bool->Array Bool
 |0,_,l=>l
 |k+1,i,l=>iL k (i+1) (l.setIfInBounds i true)
theorem EN {P:Program} {ops:Array Oper} {S:World->Prop} {K K':Act->Prop} {s:Nat} (h: ∀ a,K a->K' a): ∀ (k i:Nat) (a:Act),Ie P ops S K s k i a->Ie P ops S K' s k i a:=by
 intro k
 induction k with
 |zero=>intro i a g;exact h a g
 |succ k ih=>intro i a ⟨oi,v,h1,hd,h2,h3⟩;exact⟨oi,v,h1,hd,h2,ih _ _ h3⟩
theorem BE {P:Program} {md:Region.Mode} {ops:Array Oper} {Q:Exit->Act->World->Prop} {S:World->Prop} {w:World} {fuel s:Nat} (hs:Region.noSelect ops=true) (hQ: ∀ d v c a w,Q (.panic c) (Act.put a d v) w->Q (.panic c) a w) (hS:S w):
  ∀ (k i:Nat) (listed:Array Bool) (a:Act),Gd md ops k i listed=true->Ie P ops S (fun a'=>wpAnyH P md ops Q S fuel (iL k i listed) a' w) s k i a->wpAnyH P md ops Q S (fuel+k) listed a w:=by
 intro k
 induction k with
 |zero=>intro i l a _ h;exact h
 |succ k ih=>
  intro i l a ho h;obtain⟨oi,v,h1,hd,h2,h3⟩:=h;rw[<-hd]at h3;simp only[Gd,Bool.and_eq_true]at ho;exact wpAnyH_take h1 hs ho.1.1 ho.1.2 (fun c a w=>hQ oi.dst v c a w) h2 hS (ih (i+1) _ _ ho.2 h3)
theorem EM {P:Program} {md:Region.Mode} {ops:Array Oper} {Q:Exit->Act->World->Prop} {W:World} (i j k:Nat) {fuel:Nat} {listed:Array Bool} {a:Act} {w:World} (ty:TypeId) (zs ys:List Value) {oi oj:Oper} {x y:Operand}
  (hi:ops[i]? =some oi) (hoi:oi.op=.alloc ty) (hgi:oi.guard=none) (hdi:oi.dst=some k) (hj:ops[j]? =some oj) (hoj:oj.op=.store ty x y) (hgj:oj.guard=none) (hdj:oj.dst=none) (hW:Below W.heap.size W w)
  (hal: ∀ w:World,(Instr.alloc ty true (.tuple #[])).run P w=.ok (.pointer (some ⟨w.heap.size,0,none⟩)) (w.alloc (.cells zs.toArray ty)))
  (hx:(a.put (some k) (.pointer (some ⟨w.heap.size,0,none⟩))).eval x=.pointer (some ⟨w.heap.size,0,none⟩)) (hy:(a.put (some k) (.pointer (some ⟨w.heap.size,0,none⟩))).eval y=.agg ys.toArray) (hl:ys.length=zs.length) (hsz:(P.info? ty).map (·.size)=some ys.length) (h1: ∀ v∈ys,v.oneCell'=true)
  (h: ∀ w',ZD w' w.heap.size ys ty->Below w.heap.size w w'->Q .normal (a.put (some k) (.pointer (some ⟨w.heap.size,0,none⟩))) w')
  (r1:Region.ready md ops listed= [i]:=by kernel_rfl) (r2:Region.ready md ops (listed.setIfInBounds i true)= [j]:=by kernel_rfl) (r3:Region.ready md ops ((listed.setIfInBounds i true).setIfInBounds j true)= []:=by kernel_rfl):
  wpAnyH P md ops Q (Below W.heap.size W) (fuel+2) listed a w:=by
 refine wpAnyH_all r1 (by simp) ?_;intro q hq;obtain rfl:q=i:=by simpa using hq
 unfold wpOp;simp only[hi];have hw:Region.wanted oi (yielded ops a.tmps)=true:=by simp[Region.wanted,hgi]
 rw[if_pos hw];refine .inl ?_;have hs:=hW.size;have hgo:=XV (P:=P) (ops:=ops) (o:=oi) (a:=a) (w:=w) (Q:=Q) (E:=True) (K:=fun a' w'=>Below W.heap.size W w'/\wpAnyH P md ops Q (Below W.heap.size W) (fuel+1) (listed.setIfInBounds q true) a' w') hgi ty hoi zs (hal w) (fun w1 hb hf _=>by
  have hWs:Below W.heap.size W w1:=hW.trans (hf.below.mono hs);refine⟨hWs,?_⟩;rw[hdi];refine wpAnyH_all r2 (by simp) ?_;intro q' hq';obtain rfl:q'=j:=by simpa using hq'
  unfold wpOp;simp only[hj];have hw2:Region.wanted oj (yielded ops (a.put (some k) (.pointer (some ⟨w.heap.size,0,none⟩))).tmps)=true:=by simp[Region.wanted,hgj]
  rw[if_pos hw2];refine .inl ?_;have hg2:=Yc (P:=P) (ops:=ops) (o:=oj) (a:=a.put (some k) (.pointer (some ⟨w.heap.size,0,none⟩))) (w:=w1) (Q:=Q) (E:=True) (K:=fun a' w'=>Below W.heap.size W w'/\wpAnyH P md ops Q (Below W.heap.size W) fuel ((listed.setIfInBounds q true).setIfInBounds q' true) a' w') hgj ty x y hoj hx hb ys hy hl hsz h1 (fun w2 hb2 _ hf2=>by
   have hf3:Below w.heap.size w w2:=hf.below.trans (hf2 w.heap.size (Z7 _)).below;refine⟨hW.trans (hf3.mono hs),?_⟩;rw[hdj];exact wpAnyH_done r3 (h w2 hb2 hf3) fuel)
  rw[if_pos hw2]at hg2;exact hg2)
 rw[if_pos hw]at hgo;exact hgo
theorem Qe {P:Program} {id:Nat} {ops:Array Oper} {Q:Exit->Act->World->Prop} {W:World} (n k s:Nat) {a:Act} (ty:TypeId) (zs ys:List Value) {oi oj:Oper} {x y:Operand}
  (hQ: ∀ d v c a w,Q (.panic c) (Act.put a d v) w->Q (.panic c) a w) (hi:ops[n]? =some oi) (hoi:oi.op=.alloc ty) (hgi:oi.guard=none) (hdi:oi.dst=some k) (hj:ops[n+1]? =some oj) (hoj:oj.op=.store ty x y) (hgj:oj.guard=none) (hdj:oj.dst=none)
  (hal: ∀ w:World,(Instr.alloc ty true (.tuple #[])).run P w=.ok (.pointer (some ⟨w.heap.size,0,none⟩)) (w.alloc (.cells zs.toArray ty))) (hl:ys.length=zs.length) (hsz:(P.info? ty).map (·.size)=some ys.length) (h1: ∀ v∈ys,v.oneCell'=true)
  (h:Ie P ops (Below W.heap.size W) (fun a'=>(a'.put (some k) (.pointer (some ⟨W.heap.size,0,none⟩))).eval x=.pointer (some ⟨W.heap.size,0,none⟩)/\(a'.put (some k) (.pointer (some ⟨W.heap.size,0,none⟩))).eval y=.agg ys.toArray/\ ∀ w',ZD w' W.heap.size ys ty->Below W.heap.size W w'->Q .normal (a'.put (some k) (.pointer (some ⟨W.heap.size,0,none⟩))) w') s n 0 a)
  (hm:P.follows .mixedOrders=true:=by kernel_rfl) (hz:ops.size=n+2:=by rfl) (hns:Region.noSelect ops=true:=by kernel_rfl) (hok:Gd .any ops n 0 (Array.replicate (n+2) false)=true:=by kernel_rfl) (r1:Region.ready .any ops (iL n 0 (Array.replicate (n+2) false))= [n]:=by kernel_rfl)
  (r2:Region.ready .any ops ((iL n 0 (Array.replicate (n+2) false)).setIfInBounds n true)= [n+1]:=by kernel_rfl) (r3:Region.ready .any ops (((iL n 0 (Array.replicate (n+2) false)).setIfInBounds n true).setIfInBounds (n+1) true)= []:=by kernel_rfl):(Code.region id ops true).wp P Q a W:=by
 refine wp_region_held (S:=Below W.heap.size W) hm ?_;rw[hz,show n+2=2+n from Zv _ _];rw[show n+2=2+n from Zv _ _]at hok r1 r2 r3;have hS0:Below W.heap.size W W.drew:=(ZN _ _).drew;refine BE hns hQ hS0 n 0 _ a hok (EN ?_ n 0 a h);rintro a' ⟨h2,h3,h4⟩;exact EM (w:=W.drew) n (n+1) k ty zs ys hi hoi hgi hdi hj hoj hgj hdj hS0 hal h2 h3 hl hsz h1 (fun w' b1 b2=>h4 w' b1 (hS0.trans b2)) r1 r2 r3
theorem rJ.one {g m:Nat} {X:Nd} {vb ve vc cv tv ov:Value} (h:rJ w lo g m X vb ve vc cv tv ov):vb.oneCell'=true/\ve.oneCell'=true/\vc.oneCell'=true/\cv.oneCell'=true/\tv.oneCell'=true/\ov.oneCell'=true:=by
 obtain⟨b0,b1,b2,rfl⟩:=h.vb;obtain⟨e0,e1,e2,rfl⟩:=h.ve;obtain⟨c0,c1,c2,rfl⟩:=h.vc;obtain⟨v0,v2,rfl⟩:=ZR h.cv;obtain⟨t0,t2,rfl⟩:=ZR h.tv;obtain⟨o0,o2,rfl⟩:=ZR h.ov;exact⟨rfl,rfl,rfl,rfl,rfl,rfl⟩
theorem BD {g m:Nat} {X:Nd} {vb ve vc cv tv ov:Value} (h:rJ w lo g m X vb ve vc cv tv ov):w.rangeAt g (m*24) (ZQ X vb ve vc cv tv ov):=fun j u hu=>h.cell j u hu
theorem qH (X:Nd) (vb ve vc cv tv ov:Value) (h:vb.oneCell'=true/\ve.oneCell'=true/\vc.oneCell'=true/\cv.oneCell'=true/\tv.oneCell'=true/\ov.oneCell'=true): ∀ v∈ZQ X vb ve vc cv tv ov,v.oneCell'=true:=by
 obtain⟨h1,h2,h3,h4,h5,h6⟩:=h;intro v hv;simp only[ZQ,ZO,List.not_mem_nil,or_false]at hv;rcases hv with rfl|rfl|rfl|rfl|rfl|rfl|rfl|rfl|rfl|rfl|rfl|rfl|rfl|rfl|rfl|rfl|rfl|rfl|rfl|rfl|rfl|rfl|rfl|rfl<;>first|rfl|assumption
theorem Wk:(prog.info? 79).map (·.size)=some 24:=by kernel_rfl
end
end Go.Proofs.YteedbaejpdjilaaGreat
