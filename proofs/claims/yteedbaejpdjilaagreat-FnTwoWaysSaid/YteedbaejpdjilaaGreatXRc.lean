/- Part of the proof: LawT. -/
import Derived.Test.YteedbaejpdjilaaGreatXQf
import Derived.Test.YteedbaejpdjilaaGreatXPx
import Derived.Test.YteedbaejpdjilaaGreatXPy
import Derived.BigQuiet
import Derived.StillTailTactics
set_option linter.all false
set_option maxRecDepth 100000
set_option maxHeartbeats 4000000
namespace Go.Proofs.YteedbaejpdjilaaGreat
open Go.RowKit
def Aw (w:World) (lo p:Nat) (A:Tr):Prop:= ∃ num lv nv rv NR RR,Xt w lo p A num true lv nv rv NR RR
theorem Aw.low {w w':World} {lo p:Nat} {A:Tr} (h:Aw w lo p A) (hb:Below w.heap.size w w'):Aw w' lo p A:=let⟨n,l,v,r,N,R,M⟩:=h;⟨n,l,v,r,N,R,M.low hb⟩
section
variable {w w':World} {lo p:Nat} {A:Tr} {num:Int} {rt:Bool} {lv nv rv:Value} {NR RR:List (List Value)}
theorem Xt.yM (M:Xt w lo p A num rt lv nv rv NR RR) (hn:0 < A.ls.length): ∃ g cap,lv=.slice (some ⟨g,0,none⟩) A.ls.length cap:=Xc M.t.l hn
theorem Xt.lf3 {g cap:Nat} (M:Xt w lo p A num rt (.slice (some ⟨g,0,none⟩) A.ls.length cap) nv rv NR RR) {m:Nat} (hm:m < A.ls.length):w.cell? ⟨g,m*3,none⟩=some (.int .i64 (A.lf m).of)∧w.cell? ⟨g,m*3+1,none⟩=some (.int .i64 (A.lf m).what)∧w.cell? ⟨g,m*3+2,none⟩=some (.int .i64 (A.lf m).index):=
 ⟨M.lf hm 0 _ rfl,M.lf hm 1 _ rfl,M.lf hm 2 _ rfl⟩
def Fz (P:Program) (ops:Array Oper) (S:World->Prop) (K:Act->Prop) (s:Nat):Nat->Nat->Act->Prop
 |0,_,a=>K a
 |k+1,i,a=> ∃ (oi:Oper) (v:Value),ops[i]? =some oi∧oi.dst=some (s+i)∧YieldsIf P ops S oi v a∧Fz P ops S K s k (i+1) (a.put (some (s+i)) v)
def I4 (md:Region.Mode) (ops:Array Oper):Nat->Nat->Array Bool->Bool
 |0,_,_=>true
 |k+1,i,l=>Region.free md ops l i&&(Region.ready md ops l).contains i&&I4 md ops k (i+1) (l.setIfInBounds i true)
def nS:Nat->Nat->Array Bool->Array Bool
 |0,_,l=>l
 |k+1,i,l=>nS k (i+1) (l.setIfInBounds i true)
theorem Gf {P:Program} {ops:Array Oper} {S:World->Prop} {K K':Act->Prop} {s:Nat} (h: ∀ a,K a->K' a): ∀ (k i:Nat) (a:Act),Fz P ops S K s k i a->Fz P ops S K' s k i a:=by
 intro k
 induction k with
 |zero=>intro i a g;exact h a g
 |succ k ih=>intro i a ⟨oi,v,h1,hd,h2,h3⟩;exact⟨oi,v,h1,hd,h2,ih _ _ h3⟩
theorem CW {P:Program} {md:Region.Mode} {ops:Array Oper} {Q:Exit->Act->World->Prop} {S:World->Prop} {w:World} {fuel s:Nat} (hs:Region.noSelect ops=true) (hQ: ∀ d v c a w,Q (.panic c) (Act.put a d v) w->Q (.panic c) a w) (hS:S w):
  ∀ (k i:Nat) (listed:Array Bool) (a:Act),I4 md ops k i listed=true->Fz P ops S (fun a'=>wpAnyH P md ops Q S fuel (nS k i listed) a' w) s k i a->wpAnyH P md ops Q S (fuel+k) listed a w:=by
 intro k
 induction k with
 |zero=>intro i l a _ h;exact h
 |succ k ih=>
  intro i l a ho h;obtain⟨oi,v,h1,hd,h2,h3⟩:=h;rw[<-hd]at h3;simp only[I4,Bool.and_eq_true]at ho;exact wpAnyH_take h1 hs ho.1.1 ho.1.2 (fun c a w=>hQ oi.dst v c a w) h2 hS (ih (i+1) _ _ ho.2 h3)
theorem Ie {P:Program} {md:Region.Mode} {ops:Array Oper} {Q:Exit->Act->World->Prop} {W:World} (i j k:Nat) {fuel:Nat} {listed:Array Bool} {a:Act} {w:World} (ty:TypeId) (zs ys:List Value) {oi oj:Oper} {x y:Operand}
  (hi:ops[i]? =some oi) (hoi:oi.op=.alloc ty) (hgi:oi.guard=none) (hdi:oi.dst=some k) (hj:ops[j]? =some oj) (hoj:oj.op=.store ty x y) (hgj:oj.guard=none) (hdj:oj.dst=none) (hW:Below W.heap.size W w)
  (hal: ∀ w:World,(Instr.alloc ty true (.tuple #[])).run P w=.ok (.pointer (some ⟨w.heap.size,0,none⟩)) (w.alloc (.cells zs.toArray ty)))
  (hx:(a.put (some k) (.pointer (some ⟨w.heap.size,0,none⟩))).eval x=.pointer (some ⟨w.heap.size,0,none⟩)) (hy:(a.put (some k) (.pointer (some ⟨w.heap.size,0,none⟩))).eval y=.agg ys.toArray) (hl:ys.length=zs.length) (hsz:(P.info? ty).map (·.size)=some ys.length) (h1: ∀ v∈ys,v.oneCell'=true)
  (h: ∀ w',ZV w' w.heap.size ys ty->Below w.heap.size w w'->Q .normal (a.put (some k) (.pointer (some ⟨w.heap.size,0,none⟩))) w')
  (r1:Region.ready md ops listed= [i]:=by kernel_rfl) (r2:Region.ready md ops (listed.setIfInBounds i true)= [j]:=by kernel_rfl) (r3:Region.ready md ops ((listed.setIfInBounds i true).setIfInBounds j true)= []:=by kernel_rfl):
  wpAnyH P md ops Q (Below W.heap.size W) (fuel+2) listed a w:=by
 refine wpAnyH_all r1 (by simp) ?_;intro q hq;obtain rfl:q=i:=by simpa using hq
 unfold wpOp;simp only[hi];have hw:Region.wanted oi (yielded ops a.tmps)=true:=by simp[Region.wanted,hgi]
 rw[if_pos hw];refine .inl ?_;have hs:=hW.size;have hgo:=YO (P:=P) (ops:=ops) (o:=oi) (a:=a) (w:=w) (Q:=Q) (E:=True) (K:=fun a' w'=>Below W.heap.size W w'∧wpAnyH P md ops Q (Below W.heap.size W) (fuel+1) (listed.setIfInBounds q true) a' w') hgi ty hoi zs (hal w) (fun w1 hb hf _=>by
  have hWs:Below W.heap.size W w1:=hW.trans (hf.below.mono hs);refine⟨hWs,?_⟩;rw[hdi];refine wpAnyH_all r2 (by simp) ?_;intro q' hq';obtain rfl:q'=j:=by simpa using hq'
  unfold wpOp;simp only[hj];have hw2:Region.wanted oj (yielded ops (a.put (some k) (.pointer (some ⟨w.heap.size,0,none⟩))).tmps)=true:=by simp[Region.wanted,hgj]
  rw[if_pos hw2];refine .inl ?_;have hg2:=Y7 (P:=P) (ops:=ops) (o:=oj) (a:=a.put (some k) (.pointer (some ⟨w.heap.size,0,none⟩))) (w:=w1) (Q:=Q) (E:=True) (K:=fun a' w'=>Below W.heap.size W w'∧wpAnyH P md ops Q (Below W.heap.size W) fuel ((listed.setIfInBounds q true).setIfInBounds q' true) a' w') hgj ty x y hoj hx hb ys hy hl hsz h1 (fun w2 hb2 _ hf2=>by
   have hf3:Below w.heap.size w w2:=hf.below.trans (hf2 w.heap.size (Nat.le_refl _)).below;refine⟨hW.trans (hf3.mono hs),?_⟩;rw[hdj];exact wpAnyH_done r3 (h w2 hb2 hf3) fuel)
  rw[if_pos hw2]at hg2;exact hg2)
 rw[if_pos hw]at hgo;exact hgo
theorem Sv {P:Program} {id:Nat} {ops:Array Oper} {Q:Exit->Act->World->Prop} {W:World} (n k s:Nat) {a:Act} (ty:TypeId) (zs ys:List Value) {oi oj:Oper} {x y:Operand}
  (hQ: ∀ d v c a w,Q (.panic c) (Act.put a d v) w->Q (.panic c) a w) (hi:ops[n]? =some oi) (hoi:oi.op=.alloc ty) (hgi:oi.guard=none) (hdi:oi.dst=some k) (hj:ops[n+1]? =some oj) (hoj:oj.op=.store ty x y) (hgj:oj.guard=none) (hdj:oj.dst=none)
  (hal: ∀ w:World,(Instr.alloc ty true (.tuple #[])).run P w=.ok (.pointer (some ⟨w.heap.size,0,none⟩)) (w.alloc (.cells zs.toArray ty))) (hl:ys.length=zs.length) (hsz:(P.info? ty).map (·.size)=some ys.length) (h1: ∀ v∈ys,v.oneCell'=true)
  (h:Fz P ops (Below W.heap.size W) (fun a'=>(a'.put (some k) (.pointer (some ⟨W.heap.size,0,none⟩))).eval x=.pointer (some ⟨W.heap.size,0,none⟩)∧(a'.put (some k) (.pointer (some ⟨W.heap.size,0,none⟩))).eval y=.agg ys.toArray∧ ∀ w',ZV w' W.heap.size ys ty->Below W.heap.size W w'->Q .normal (a'.put (some k) (.pointer (some ⟨W.heap.size,0,none⟩))) w') s n 0 a)
  (hm:P.follows .mixedOrders=true:=by kernel_rfl) (hz:ops.size=n+2:=by rfl) (hns:Region.noSelect ops=true:=by kernel_rfl) (hok:I4 .any ops n 0 (Array.replicate (n+2) false)=true:=by kernel_rfl) (r1:Region.ready .any ops (nS n 0 (Array.replicate (n+2) false))= [n]:=by kernel_rfl)
  (r2:Region.ready .any ops ((nS n 0 (Array.replicate (n+2) false)).setIfInBounds n true)= [n+1]:=by kernel_rfl) (r3:Region.ready .any ops (((nS n 0 (Array.replicate (n+2) false)).setIfInBounds n true).setIfInBounds (n+1) true)= []:=by kernel_rfl):(Code.region id ops true).wp P Q a W:=by
 refine wp_region_held (S:=Below W.heap.size W) hm ?_;rw[hz,show n+2=2+n from Nat.add_comm _ _];rw[show n+2=2+n from Nat.add_comm _ _]at hok r1 r2 r3;have hS0:Below W.heap.size W W.drew:=(Below.refl _ _).drew;refine CW hns hQ hS0 n 0 _ a hok (Gf ?_ n 0 a h);rintro a' ⟨h2,h3,h4⟩;exact Ie (w:=W.drew) n (n+1) k ty zs ys hi hoi hgi hdi hj hoj hgj hdj hS0 hal h2 h3 hl hsz h1 (fun w' b1 b2=>h4 w' b1 (hS0.trans b2)) r1 r2 r3
theorem qo.one {g m:Nat} {X:Nd} {vb ve vc cv tv ov:Value} (h:qo w lo g m X vb ve vc cv tv ov):vb.oneCell'=true∧ve.oneCell'=true∧vc.oneCell'=true∧cv.oneCell'=true∧tv.oneCell'=true∧ov.oneCell'=true:=by
 obtain⟨b0,b1,b2,rfl⟩:=h.vb;obtain⟨e0,e1,e2,rfl⟩:=h.ve;obtain⟨c0,c1,c2,rfl⟩:=h.vc;obtain⟨v0,v2,rfl⟩:=ZX h.cv;obtain⟨t0,t2,rfl⟩:=ZX h.tv;obtain⟨o0,o2,rfl⟩:=ZX h.ov;exact⟨rfl,rfl,rfl,rfl,rfl,rfl⟩
theorem Ll {g m:Nat} {X:Nd} {vb ve vc cv tv ov:Value} (h:qo w lo g m X vb ve vc cv tv ov):w.rangeAt g (m*24) (ZY X vb ve vc cv tv ov):=fun j u hu=>h.cell j u hu
theorem Ey (X:Nd) (vb ve vc cv tv ov:Value) (h:vb.oneCell'=true∧ve.oneCell'=true∧vc.oneCell'=true∧cv.oneCell'=true∧tv.oneCell'=true∧ov.oneCell'=true): ∀ v∈ZY X vb ve vc cv tv ov,v.oneCell'=true:=by
 obtain⟨h1,h2,h3,h4,h5,h6⟩:=h;intro v hv;simp only[ZY,List.mem_cons,List.not_mem_nil,or_false]at hv;rcases hv with rfl|rfl|rfl|rfl|rfl|rfl|rfl|rfl|rfl|rfl|rfl|rfl|rfl|rfl|rfl|rfl|rfl|rfl|rfl|rfl|rfl|rfl|rfl|rfl<;>first|rfl|assumption
theorem xH: ∃ d,Tryz.prog.underlying 79=some d∧d.isRow=true:=⟨_,Tryz.underlying79,rfl⟩
theorem QM:(Tryz.prog.info? 79).map (·.size)=some 24:=by kernel_rfl
theorem jX {w':World} {g m:Nat} {X:Nd} {vb ve vc cv tv ov:Value} (h:w'.rangeAt g (m*24) (ZY X vb ve vc cv tv ov)):(Instr.loadAt 79 (.pointer (some ⟨g,m*24,none⟩))).run Tryz.prog w'=.ok (.agg (ZY X vb ve vc cv tv ov).toArray) w':=by
 obtain⟨d,h1,h2⟩:=xH;exact run_loadAt_mid w' g (m*24) 79 _ d h h1 h2 QM
theorem EU (M:Aw w lo p A) (W:Wf A) {n:Nat} (hn:n < A.ls.length):Calls Tryz.prog 51 #[p,.int .i64 n] w fun e w'=>e=.returned (.tuple #[.int .i64 (A.kd (A.lf n).of),.int .i64 (A.nd (A.lf n).of).number,.bool (A.nd (A.lf n).of).h.hasElse])∧Below w.heap.size w w':=by
 obtain⟨_,_,_,_,_,_,M⟩:=M;obtain⟨gl,capl,rfl⟩:=M.yM (by omega);have hok:Ok (n:Int) A.ls.length:=⟨by omega,by omega⟩
 have hlf:=W.lf hok;obtain⟨m,hm,hml⟩:=hlf.of.cast;obtain⟨g,cap,rfl⟩:=M.NM (by omega);obtain⟨vb,ve,vc,cv,tv,ov,hX⟩:=M.nd hml;have hrg:=Ll hX;have hone:=hX.one;have Hone:=Z9 hone;clear hone;obtain⟨l0,l1,l2⟩:=M.lf3 hn;rw[hm]at l0;have q0:=M.t.blk.cell 0 rfl;have q1:=M.t.blk.cell 1 rfl;have hnb:=M.b;have hpl:=M.t.blk.lt;have hgl:=(M.t.n.lt g rfl).2;have hgll:=(M.t.l.lt gl rfl).2;have hm:=Z9 hm;obtain⟨X,hXe⟩: ∃ X:Nd,X= { A.nd (m:Int)with target:=A.tgt (m:Int) } :=⟨_,rfl⟩
 rw[<-hXe]at hrg;have HX:=Z9 hXe
 have hfx: ∀ w':World,Below w.heap.size w w'->w'.cell? ⟨p,0,none⟩=some (.slice (some ⟨gl,0,none⟩) A.ls.length capl)∧w'.cell? ⟨p,1,none⟩=some (.slice (some ⟨g,0,none⟩) A.ns.length cap)∧w'.cell? ⟨gl,n*3,none⟩=some (.int .i64 m)∧w'.rangeAt g (m*24) (ZY X vb ve vc cv tv ov):=fun w' hb=>
  ⟨(hb.cell (p:=⟨p,0,none⟩) hpl).trans q0,(hb.cell (p:=⟨p,1,none⟩) hpl).trans q1,(hb.cell (p:=⟨gl,n*3,none⟩) hgll).trans l0,fun j u hu=>(hb.cell (p:=⟨g,m*24+j,none⟩) hgl).trans (hrg j u hu)⟩
 have Hfx:=Z9 hfx;clear hfx hrg hX hlf hok M hXe;go_enter Tryz.func51,Tryz.ntmps51;go_wp2_with fail
 refine Sv 14 7 8 79 RX (ZY X vb ve vc cv tv ov) (by intro d _ _ _ _ h;cases d<;>exact h) rfl rfl rfl rfl rfl rfl rfl rfl XU rfl QM (Ey _ _ _ _ _ _ _ Hone.out) ?_
 iterate 13
  refine⟨_,?_,rfl,rfl,.inl ⟨by rfl,fun w' hb=>?_⟩,?_⟩
  rotate_left
  ·obtain⟨e0,e1,e2,_⟩:=Hfx.out w' hb;go_simp;try with_reducible rfl
  simp only[Act.put,List.setIfInBounds_toArray,List.set_cons_zero,List.set_cons_succ]
 refine⟨_,_,rfl,rfl,yieldsIf_load_mid (by rfl) 79 _ rfl g (m*24) rfl _ _ (fun w' hb=>(Hfx.out w' hb).2.2.2) Tryz.underlying79 rfl QM,?_⟩;simp only[Act.put,List.setIfInBounds_toArray,List.set_cons_zero,List.set_cons_succ];refine⟨rfl,rfl,fun w2 hb2 hf2=>?_⟩;have e0:=hb2.cell 0 rfl;have e6:=hb2.cell 6 rfl;have e11:=hb2.cell 11 rfl;have HB:=Z9 hf2;clear hb2 hf2;simp only[Act.put,List.setIfInBounds_toArray,List.set_cons_zero,List.set_cons_succ];go_wp2_with fail
 go_quiet (fail)
 go_wp2_with fail
 go_ret3
 rw[hm.out,HX.out];exact⟨rfl,Zv HB.out _⟩
def Tr.SG (A:Tr) (i:Int):Int:=if(A.lf i).what=5 then(A.ch (A.lf i).of ((A.nd (A.lf i).of).testOf.getD (A.lf i).index.toNat 0)).number else(A.nd (A.lf i).of).number
theorem Nb (M:Aw w lo p A) (W:Wf A) {n:Nat} (hn:n < A.ls.length):Calls Tryz.prog 41 #[p,.int .i64 n] w fun e w'=>e=.returned (.tuple #[.int .i64 (A.SG n),.int .i64 (A.lf n).what])∧Below w.heap.size w w':=by
 obtain⟨_,_,_,_,_,_,M⟩:=M;obtain⟨gl,capl,rfl⟩:=M.yM (by omega);have hok:Ok (n:Int) A.ls.length:=⟨by omega,by omega⟩
 have hlf:=W.lf hok;obtain⟨m,hm,hml⟩:=hlf.of.cast;obtain⟨g,cap,rfl⟩:=M.NM (by omega);obtain⟨vb,ve,vc,cv,tv,ov,hX⟩:=M.nd hml;have hrg:=Ll hX;have hone:=hX.one;have Hone:=Z9 hone;clear hone;obtain⟨l0,l1,l2⟩:=M.lf3 hn;rw[hm]at l0;have q0:=M.t.blk.cell 0 rfl;have q1:=M.t.blk.cell 1 rfl;have hnb:=M.b;have hpl:=M.t.blk.lt;have hgl:=(M.t.n.lt g rfl).2;have hgll:=(M.t.l.lt gl rfl).2;have h5:=hlf.five;rw[hm]at h5;have hcv:=hX.cv;have hov:=hX.ov;have hwn:=W.nd ⟨by omega,by omega⟩ (n:=(m:Int));have htof:=hwn.tof;obtain⟨X,hXe⟩: ∃ X:Nd,X= { A.nd (m:Int)with target:=A.tgt (m:Int) } :=⟨_,rfl⟩
 have hpn:A.SG n=if(A.lf n).what=5 then(X.choices.getD (X.testOf.getD (A.lf n).index.toNat 0).toNat rJ).number else X.number:=by
  unfold Tr.SG Tr.ch;rw[hm,hXe]
 obtain⟨N,hN⟩: ∃ N,N=A.SG n:=⟨_,rfl⟩
 rw[<-hN];rw[hpn]at hN;have h5:(A.lf n).what=5->Ok (A.lf n).index X.testOf.length:=by rw[hXe];exact h5
 have htof: ∀ q∈X.testOf,Ok q X.choices.length:=by rw[hXe];exact htof
 rw[<-hXe]at hrg hcv hov;clear hpn hXe hwn;generalize(A.lf n).what=wh at*;generalize(A.lf n).index=ix at*;obtain⟨w1,hw1⟩: ∃ w1,w1=w.alloc (.cells [.int .i64 m,.int .i64 wh,.int .i64 ix].toArray 73):=⟨_,rfl⟩
 have hb1:Below w.heap.size w w1:=by rw[hw1];exact(Below.refl _ _).alloc (Nat.le_refl _) _
 have hk1:ZV w1 w.heap.size [.int .i64 m,.int .i64 wh,.int .i64 ix] 73:=by rw[hw1];exact ZV.new w _ 73
 have hz1:w1.heap.size=w.heap.size+1:=by rw[hw1];simp
 have hfx: ∀ w':World,Below w1.heap.size w1 w'->w'.cell? ⟨p,1,none⟩=some (.slice (some ⟨g,0,none⟩) A.ns.length cap)∧w'.cell? ⟨w.heap.size,0,none⟩=some (.int .i64 m)∧w'.rangeAt g (m*24) (ZY X vb ve vc cv tv ov):=fun w' hb=>by
  have hb2:=hb1.trans (hb.mono (by omega));exact⟨(hb2.cell (p:=⟨p,1,none⟩) hpl).trans q1,(hb.cell (p:=⟨w.heap.size,0,none⟩) (by show w.heap.size < _;omega)).trans (hk1.cell 0 rfl),fun j u hu=>(hb2.cell (p:=⟨g,m*24+j,none⟩) hgl).trans (hrg j u hu)⟩
 have HB1:=Yt hb1 hk1 hcv hov;have hN:=Z9 hN;have Hfx:=Z9 hfx;clear hfx hrg hX hlf hok M hb1 hk1 hcv hov;subst hw1;go_enter Tryz.func41,Tryz.ntmps41;go_wp2_with fail
 refine Sv 8 7 15 79 RX (ZY X vb ve vc cv tv ov) (by intro d _ _ _ _ h;cases d<;>exact h) rfl rfl rfl rfl rfl rfl rfl rfl XU rfl QM (Ey _ _ _ _ _ _ _ Hone.out) ?_
 iterate 7
  refine⟨_,?_,rfl,rfl,.inl ⟨by rfl,fun w' hb=>?_⟩,?_⟩
  rotate_left
  ·obtain⟨e0,e1,_⟩:=Hfx.out w' hb;go_simp;try with_reducible rfl
  simp only[Act.put,List.setIfInBounds_toArray,List.set_cons_zero,List.set_cons_succ]
 refine⟨_,_,rfl,rfl,yieldsIf_load_mid (by rfl) 79 _ rfl g (m*24) rfl _ _ (fun w' hb=>(Hfx.out w' hb).2.2) Tryz.underlying79 rfl QM,?_⟩;simp only[Act.put,List.setIfInBounds_toArray,List.set_cons_zero,List.set_cons_succ];refine⟨rfl,rfl,fun w2 hb2 hf2=>?_⟩;simp only[Act.put,List.setIfInBounds_toArray,List.set_cons_zero,List.set_cons_succ];rw[hz1]at hb2 ⊢;obtain⟨hb1,hk1,hcv,hov⟩:=HB1.out;have hbw:Below w.heap.size w w2:=hb1.trans (hf2.mono (by omega));have c1:=(hf2.cell (p:=⟨w.heap.size,1,none⟩) (by show w.heap.size < _;omega)).trans (hk1.cell 1 rfl);have c2:=(hf2.cell (p:=⟨w.heap.size,2,none⟩) (by show w.heap.size < _;omega)).trans (hk1.cell 2 rfl);have d11:=hb2.cell 11 rfl;have d20:=hb2.cell 20 rfl;have d22:=hb2.cell 22 rfl;have HB:=Z9 hbw;by_cases hw5:wh=5
 ·subst hw5;obtain⟨k,rfl,hk⟩:=(h5 rfl).cast;obtain⟨go,oc,rfl⟩:=Xc hov (by omega);obtain⟨r,hr,hrl⟩:=(htof (X.testOf[k]) (List.getElem_mem hk)).cast;obtain⟨gc,cc,rfl⟩:=Xc hcv (by omega);have t1:w2.cell? ⟨go,k,none⟩=some (.int .i64 r):=(hbw.cell (p:=⟨go,k,none⟩) (hov.lt go rfl).2).trans (by rw[World.ownsRow.cellAt hov k (by omega),List.getElem?_map,List.getElem?_eq_getElem hk,hr];rfl);have t2:w2.cell? ⟨gc,r*3,none⟩=some (.int .i64 (X.choices[r]).number):=(hbw.cell (p:=⟨gc,r*3,none⟩) (hcv.lt gc rfl).2).trans (by
   have h1:=World.ownsRow.cellAt hcv (r*3) (by omega);have h2:=KW (n:=3) (f:=VK.cells) (fun _=>rfl) (List.getElem?_eq_getElem hrl) (j:=0) (by decide);rw[h1];exact h2)
  have he:(X.choices.getD (X.testOf.getD ((k:Int)).toNat 0).toNat rJ).number=(X.choices[r]).number:=by
   have e1:X.testOf.getD k 0=(r:Int):=by
    rw[List.getD_eq_getElem?_getD,List.getElem?_eq_getElem hk];exact hr
   rw[show((k:Int)).toNat=k from rfl,e1,show((r:Int)).toNat=r from rfl,List.getD_eq_getElem?_getD,List.getElem?_eq_getElem hrl,Option.getD_some]
  have hN2:N=(X.choices[r]).number:=by have h:=hN.out;rw[he]at h;simpa using h
  have he:=Z9 hN2;clear hN hN2;clear hb2 hf2 hb1 hk1 hcv hov hbw hr;go_wp2_with fail
  go_quiet (fail)
  go_wp2_with fail
  go_ret2
  rw[he.out];exact⟨rfl,Zv HB.out _⟩
 ·have hq:(wh==5)=false:=by simpa using hw5
  have hN2:N=X.number:=by have h:=hN.out;rw[if_neg hw5]at h;exact h
  have he:=Z9 hN2;clear hN hN2 hw5;clear hb2 hf2 hb1 hk1 hcv hov hbw;go_wp2_with fail
  go_quiet (fail)
  go_wp2_with fail
  go_ret2
  rw[he.out];exact⟨rfl,Zv HB.out _⟩
end
end Go.Proofs.YteedbaejpdjilaaGreat
