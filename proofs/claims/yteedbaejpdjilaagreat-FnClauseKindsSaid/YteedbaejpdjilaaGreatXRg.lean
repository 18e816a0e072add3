/- Part of the proof: LawC. -/
import Derived.Test.YteedbaejpdjilaaGreatXRe
set_option linter.all false
set_option maxRecDepth 100000
set_option maxHeartbeats 4000000
namespace Go.Proofs.YteedbaejpdjilaaGreat
open Go.RowKit
theorem rw_rd: ∀ t:T,(∀ N R n i a p,∀ x∈(t.rd.l N R n i a p).rs,0<=x.owner)∧(∀ sw N0 N R n i j k,∀ x∈(t.rd.c sw N0 N R n i j k).rs,0<=x.owner):=by
 intro t
 induction t with
 |nil=>exact⟨fun _ _ _ _ _ _ x hx=>by simp[T.rd,Out.none]at hx,fun _ _ _ _ _ _ _ _ x hx=>by simp[T.rd]at hx⟩
 |st h b e c tl ih1 ih2 ih3 ih4=>
  refine⟨fun N R n i a p x hx=>?_,fun _ _ _ _ _ _ _ _ x hx=>by simp[T.rd]at hx⟩;have key: ∀ {is:Bool} {o:Out} {x:Rw},(∀ y∈o.rs,0<=y.owner)->x∈rowOf is N (-1) o->0<=x.owner:=by
   intro is o x ho hx;unfold rowOf at hx;split at hx
   ·rcases List.mem_cons.1 hx with rfl|hx
    ·exact Int.natCast_nonneg _
    ·exact ho x hx
   ·simp at hx
  simp only[T.rd,List.mem_append]at hx;rcases hx with hx|hx|hx|hx
  ·refine key (fun y hy=>?_) hx;split at hy
   ·exact ih1.1 _ _ _ _ _ _ y hy
   ·simp[Out.none]at hy
  ·refine key (fun y hy=>?_) hx;split at hy
   ·exact ih2.1 _ _ _ _ _ _ y hy
   ·simp[Out.none]at hy
  ·exact ih3.2 _ _ _ _ _ _ _ _ x hx
  ·exact ih4.1 _ _ _ _ _ _ x hx
 |cl y b tl ih1 ih2=>
  refine⟨fun _ _ _ _ _ _ x hx=>by simp[T.rd,Out.none]at hx,fun sw N0 N R n i j k x hx=>?_⟩;simp only[T.rd,List.mem_cons,List.mem_append]at hx;rcases hx with rfl|hx|hx
  ·exact Int.natCast_nonneg _
  ·exact ih1.1 _ _ _ _ _ _ x hx
  ·exact ih2.2 _ _ _ _ _ _ _ _ x hx
theorem RB.owner {t:T} {A:Tr} {S S3:BS} {c:Nat} {X:Cx} (R:RB t A S S3 c X) {r:Nat} (hr:r < A.rs.length) (hc:(A.rw r).clause≠ -1):Ok (A.rw r).owner A.ns.length∧Ok (A.rw r).clause (A.nd (A.rw r).owner).choices.length:=by
 have hw:=R.wf.rw (n:=(r:Int)) ⟨by omega,by omega⟩;refine⟨hw.owner.elim (fun e=>?_) id,hw.clause.elim (fun e=>absurd e hc) id⟩;exfalso;obtain⟨tg,rfl,hs,hf⟩:=R.tr;have h1:=List.getElem?_eq_getElem hr;rw[X5 h1]at e hc;have h2:(t.tr tg).rs=⟨-1,-1,(t.rd.l 0 1 0 0 0 0).ids⟩::(t.rd.l 0 1 0 0 0 0).rs:=rfl;have h3:=List.mem_of_getElem? h1;generalize(t.tr tg).rs[r]=y at*;rw[h2,List.mem_cons]at h3;rcases h3 with rfl|h3
 ·exact hc rfl
 ·have:=(rw_rd t).1 _ _ _ _ _ _ _ h3;omega
theorem size114:(Tryz.prog.info? 114).map (·.size)=some 3:=by kernel_rfl
theorem alloc114 (w:World):(Instr.alloc 114 true (.tuple #[])).run Tryz.prog w=.ok (.pointer (some ⟨w.heap.size,0,none⟩)) (w.alloc (.cells [.int .i64 0,.int .i64 0,.slice none 0 0].toArray 114)):=by
 kernel_rfl
def ClsR (A:Tr) (x:Int) (a b:Int) (c:Bool):Prop:=c=true->(A.lf x).what=1∧(A.nd (A.lf x).of).place=0∧(A.rw (A.nd (A.lf x).of).list).clause≠ -1∧(A.nd (A.lf x).of).h.label.size=0∧
 (A.kd (A.rw (A.nd (A.lf x).of).list).owner=13∨(A.ch (A.rw (A.nd (A.lf x).of).list).owner (A.rw (A.nd (A.lf x).of).list).clause).plain=false)∧a=(A.ch (A.rw (A.nd (A.lf x).of).list).owner (A.rw (A.nd (A.lf x).of).list).clause).number∧b=A.kd (A.rw (A.nd (A.lf x).of).list).owner
def ClsQ (W0:World) (R:Int->Int->Bool->Prop) (e:Ending) (w':World):Prop:= ∃ a b c,e=.returned (.tuple #[.int .i64 a,.int .i64 b,.bool c])∧R a b c∧Below W0.heap.size W0 w'
theorem clause_any {t:T} {A:Tr} {S S3:BS} {c:Nat} {X0:Cx} (R:RB t A S S3 c X0) {w:World} {lo p:Nat} (M:Aw w lo p A) {n:Nat} (hn:n < A.ls.length):Calls Tryz.prog 44 #[p,.int .i64 n] w (ClsQ w (ClsR A n)):=by
 obtain⟨_,_,_,_,_,_,M⟩:=M;obtain⟨gl,capl,rfl⟩:=M.yM (by omega);have hok:Ok (n:Int) A.ls.length:=⟨by omega,by omega⟩
 have hlf:=R.wf.lf hok;obtain⟨m,hm,hml⟩:=hlf.of.cast;obtain⟨g,cap,rfl⟩:=M.NM (by omega);obtain⟨vb,ve,vc,cv,tv,ov,hX⟩:=M.nd hml;have hrg:=Ll hX;have Hone:=Z9 hX.one;obtain⟨l0,l1,l2⟩:=M.lf3 hn;rw[hm]at l0;have hnd:=R.wf.nd (n:=(m:Int)) ⟨by omega,by omega⟩;obtain⟨r,hr,hrl⟩:=hnd.list.cast;have hpl0:=hnd.place;obtain⟨gr,capr,rfl⟩:=M.sK (by omega);obtain⟨iv,hRw⟩:=M.rw hrl;obtain⟨iva,ivc,rfl⟩:=ZX hRw.iv;have hRng:w.rangeAt gr (r*3) [.int .i64 (A.rw r).owner,.int .i64 (A.rw r).clause,.slice iva (A.rw r).nodes.length ivc]:=fun j u hu=>hRw.cell j u hu;have q0:=M.t.blk.cell 0 rfl;have q1:=M.t.blk.cell 1 rfl;have q2:=M.t.blk.cell 2 rfl;have hpl:=M.t.blk.lt;have hgl:=(M.t.n.lt g rfl).2;have hgr:=(M.t.r.lt gr rfl).2;have hnb:=M.b;have hcls:ClsR A n=fun a b c=>c=true->(A.lf n).what=1∧(A.nd m).place=0∧(A.rw r).clause≠ -1∧(A.nd m).h.label.size=0∧(A.kd (A.rw r).owner=13∨(A.ch (A.rw r).owner (A.rw r).clause).plain=false)∧a=(A.ch (A.rw r).owner (A.rw r).clause).number∧b=A.kd (A.rw r).owner:=by
  unfold ClsR;rw[hm,hr]
 obtain⟨X,hXe⟩: ∃ X:Nd,Hid (X= { A.nd (m:Int)with target:=A.tgt (m:Int) }):=⟨_,Z9 rfl⟩
 rw[<-hXe.out]at hrg;have e1:(A.nd (m:Int)).place=X.place:=by rw[hXe.out]
 have e2:(A.nd (m:Int)).h=X.h:=by rw[hXe.out]
 have e3:(r:Int)=X.list:=by rw[hXe.out];exact hr.symm
 rw[e1]at hpl0;rw[e1,e2]at hcls;obtain⟨RR,hRR⟩: ∃ RR,RR=ClsR A n:=⟨_,rfl⟩
 rw[<-hRR];have hR0: ∀ a b,RR a b false:=fun a b=>by rw[hRR,hcls];exact fun h=>absurd h (by simp)
 have hR1:(A.lf n).what=1->X.place=0->(A.rw r).clause≠ -1->X.h.label.size=0->(A.kd (A.rw r).owner=13∨(A.ch (A.rw r).owner (A.rw r).clause).plain=false)->RR (A.ch (A.rw r).owner (A.rw r).clause).number (A.kd (A.rw r).owner) true:=fun h1 h2 h3 h4 h5=>by
  rw[hRR,hcls];exact fun _=>⟨h1,h2,h3,h4,h5,rfl,rfl⟩
 clear hRR;have hown:=R.owner hrl
 have hO:(A.rw r).clause≠ -1-> ∃ (o:Nat) (q:Nat) (Y:Nd) (yb ye yc ycv yt yo:Value) (gc cc:Nat),(A.rw r).owner=o∧o < A.ns.length∧(A.rw r).clause=q∧q < Y.choices.length∧w.rangeAt g (o*24) (ZY Y yb ye yc (.slice (some ⟨gc,0,none⟩) Y.choices.length cc) yt yo)∧(∀ v∈ZY Y yb ye yc (.slice (some ⟨gc,0,none⟩) Y.choices.length cc) yt yo,v.oneCell'=true)∧
   gc < w.heap.size∧w.cell? ⟨gc,q*3,none⟩=some (.int .i64 (A.ch (A.rw r).owner (A.rw r).clause).number)∧w.cell? ⟨gc,q*3+2,none⟩=some (.bool (A.ch (A.rw r).owner (A.rw r).clause).plain)∧Y.h.kind=A.kd (A.rw r).owner:=fun hc=>by
  obtain⟨h1,h2⟩:=hown hc;obtain⟨o,ho,hol⟩:=h1.cast;obtain⟨q,hq,hql⟩:=h2.cast;obtain⟨yb,ye,yc,ycv,yt,yo,hY⟩:=M.nd hol;have hYr:=Ll hY;have hY1:=Ey { A.nd (o:Int)with target:=A.tgt (o:Int) } yb ye yc ycv yt yo hY.one;have hcv:=hY.cv;rw[ho]at hql;obtain⟨gc,cc,rfl⟩:=Xc hcv (show 0 < (A.nd (o:Int)).choices.length by omega);have hch:A.ch (A.rw r).owner (A.rw r).clause=(A.nd (o:Int)).choices[q]:=by
   unfold Tr.ch;rw[ho,hq,show((q:Int)).toNat=q from rfl,List.getD_eq_getElem?_getD,List.getElem?_eq_getElem hql,Option.getD_some]
  have hcell: ∀ j u,(VK.cells ((A.nd (o:Int)).choices[q]))[j]? =some u->j < 3->w.cell? ⟨gc,q*3+j,none⟩=some u:=fun j u hu hj=>by
   have h2:=KW (n:=3) (f:=VK.cells) (fun _=>rfl) (List.getElem?_eq_getElem hql) hj;rw[World.ownsRow.cellAt hcv (q*3+j) (by show _ < (A.nd (o:Int)).choices.length*3;omega)];exact h2.trans hu
  refine⟨o,q,{ A.nd (o:Int)with target:=A.tgt (o:Int) },yb,ye,yc,.slice none 0 0,yt,yo,gc,cc,ho,hol,hq,hql,hYr,hY1,(hcv.lt gc rfl).2,?_,?_,?_⟩
  ·rw[hch];exact hcell 0 _ rfl (by decide)
  ·rw[hch];exact hcell 2 _ rfl (by decide)
  ·rw[ho];rfl
 generalize(A.lf n).what=wh at*;generalize(A.lf n).index=ix at*;have HO:=Z9 hO;have hiX:X.list=r:=e3.symm
 have hKF: ∀ w':World,Below w.heap.size w w'->w'.cell? ⟨p,1,none⟩=some (.slice (some ⟨g,0,none⟩) A.ns.length cap)∧w'.cell? ⟨p,2,none⟩=some (.slice (some ⟨gr,0,none⟩) A.rs.length capr)∧w'.rangeAt g (m*24) (ZY X vb ve vc cv tv ov)∧w'.rangeAt gr (r*3) [.int .i64 (A.rw r).owner,.int .i64 (A.rw r).clause,.slice iva (A.rw r).nodes.length ivc]:=fun w' hb=>
  ⟨(hb.cell (p:=⟨p,1,none⟩) hpl).trans q1,(hb.cell (p:=⟨p,2,none⟩) hpl).trans q2,fun j u hu=>(hb.cell (p:=⟨g,m*24+j,none⟩) hgl).trans (hrg j u hu),fun j u hu=>(hb.cell (p:=⟨gr,r*3+j,none⟩) hgr).trans (hRng j u hu)⟩
 have KF:=Z9 hKF;clear hcls hown hO hXe e1 e2 e3 hX hlf hok hnd hRw hRng hrg hm hr M q1 q2 hKF;generalize(A.rw r).nodes.length=nl at*;obtain⟨ow,how⟩: ∃ ow,Hid (ow=(A.rw (r:Int)).owner):=⟨_,Z9 rfl⟩
 obtain⟨cl,hcl⟩: ∃ cl,Hid (cl=(A.rw (r:Int)).clause):=⟨_,Z9 rfl⟩
 rw[<-how.out,<-hcl.out]at HO;rw[<-how.out,<-hcl.out]at KF;rw[<-how.out,<-hcl.out]at hR1;have HR1:=Z9 hR1;have HR0:=Z9 hR0;clear hR0 hR1;obtain⟨w1,hw1⟩: ∃ w1,w1=w.alloc (.cells [.int .i64 m,.int .i64 wh,.int .i64 ix].toArray 73):=⟨_,rfl⟩
 have hb1:Below w.heap.size w w1:=by rw[hw1];exact(Below.refl _ _).alloc (Nat.le_refl _) _
 have hk1:ZV w1 w.heap.size [.int .i64 m,.int .i64 wh,.int .i64 ix] 73:=by rw[hw1];exact ZV.new w _ 73
 have hz1:w1.heap.size=w.heap.size+1:=by rw[hw1];simp
 have H1:=ZL hb1 hk1;have hf1: ∀ w':World,Below w1.heap.size w1 w'->w'.cell? ⟨p,1,none⟩=some (.slice (some ⟨g,0,none⟩) A.ns.length cap)∧w'.cell? ⟨w.heap.size,0,none⟩=some (.int .i64 m)∧w'.rangeAt g (m*24) (ZY X vb ve vc cv tv ov):=fun w' hb=>by
  obtain⟨k1,_,k3,_⟩:=KF.out w' (hb1.trans (hb.mono (by omega)));exact⟨k1,(hb.cell (p:=⟨w.heap.size,0,none⟩) (by show w.heap.size < _;omega)).trans (hk1.cell 0 rfl),k3⟩
 have Hf1:=Z9 hf1;clear hf1 hb1 hk1;subst hw1;go_enter Tryz.func44,Tryz.ntmps44;go_wp2_with fail
 refine Sv 8 8 18 79 RX (ZY X vb ve vc cv tv ov) (by intro d _ _ _ _ h;cases d<;>exact h) rfl rfl rfl rfl rfl rfl rfl rfl XU rfl QM (Ey _ _ _ _ _ _ _ Hone.out) ?_
 iterate 7
  refine⟨_,?_,rfl,rfl,.inl ⟨by rfl,fun w' hb=>?_⟩,?_⟩
  rotate_left
  ·obtain⟨e0,e1,_⟩:=Hf1.out w' hb;go_simp;try with_reducible rfl
  simp only[Act.put,List.setIfInBounds_toArray,List.set_cons_zero,List.set_cons_succ]
 refine⟨_,_,rfl,rfl,yieldsIf_load_mid (by rfl) 79 _ rfl g (m*24) rfl _ _ (fun w' hb=>(Hf1.out w' hb).2.2) Tryz.underlying79 rfl QM,?_⟩;simp only[Act.put,List.setIfInBounds_toArray,List.set_cons_zero,List.set_cons_succ];refine⟨rfl,rfl,fun w2 hb2 hf2=>?_⟩;simp only[Act.put,List.setIfInBounds_toArray,List.set_cons_zero,List.set_cons_succ];rw[hz1]at hb2 hf2 ⊢;have hz2:=hf2.size;simp only[hz1]at hz2;have hb2w:Below w.heap.size w w2:=H1.out.1.trans (hf2.mono (by omega));have H2:=Za hb2 hb2w (Yq H1.out.2 hf2 (by omega));have hlt2:=hb2.lt;have hf2': ∀ w':World,Below w2.heap.size w2 w'->w'.cell? ⟨p,2,none⟩=some (.slice (some ⟨gr,0,none⟩) A.rs.length capr)∧w'.cell? ⟨w.heap.size+1,12,none⟩=some (.int .i64 r)∧w'.rangeAt gr (r*3) [.int .i64 ow,.int .i64 cl,.slice iva nl ivc]:=fun w' hb=>by
  obtain⟨_,k2,_,k4⟩:=KF.out w' (hb2w.trans (hb.mono hb2w.size));exact⟨k2,((ZC hb2 hb).cell 12 rfl).trans (by rw[hiX]),k4⟩
 have Hf2:=Z9 hf2';clear hb2 hf2 hb2w hf2';go_wp2_with fail
 refine Sv 8 9 26 114 [.int .i64 0,.int .i64 0,.slice none 0 0] [.int .i64 ow,.int .i64 cl,.slice iva nl ivc] (by intro d _ _ _ _ h;cases d<;>exact h) rfl rfl rfl rfl rfl rfl rfl rfl alloc114 rfl size114 (by simp[Value.oneCell']) ?_
 iterate 7
  refine⟨_,?_,rfl,rfl,.inl ⟨by rfl,fun w' hb=>?_⟩,?_⟩
  rotate_left
  ·obtain⟨e0,e1,_⟩:=Hf2.out w' hb;go_simp;try with_reducible rfl
  simp only[Act.put,List.setIfInBounds_toArray,List.set_cons_zero,List.set_cons_succ]
 refine⟨_,_,rfl,rfl,yieldsIf_load_mid (by rfl) 114 _ rfl gr (r*3) rfl _ _ (fun w' hb=>(Hf2.out w' hb).2.2) Tryz.underlying114 rfl size114,?_⟩;simp only[Act.put,List.setIfInBounds_toArray,List.set_cons_zero,List.set_cons_succ];refine⟨rfl,rfl,fun w3 hb3 hf3=>?_⟩;simp only[Act.put,List.setIfInBounds_toArray,List.set_cons_zero,List.set_cons_succ];have hz3:=hf3.size;have hb3w:Below w.heap.size w w3:=H2.out.2.1.trans (hf3.mono H2.out.2.1.size);have c1:=(ZC H2.out.2.2 hf3).cell 1 rfl;have y1:=(ZC H2.out.1 hf3).cell 1 rfl;have y13:=(ZC H2.out.1 hf3).cell 13 rfl;have z0:=hb3.cell 0 rfl;have z1:=hb3.cell 1 rfl;have H3:=Za hb3 hf3 hb3w;clear hb3 hf3 hb3w;by_cases k1:wh=1
 ·subst k1;by_cases k2:X.place=0
  ·rw[k2]at y13;have k2:=Z9 k2;by_cases k3:cl= -1
   ·have k3':(cl== -1)=true:=by simpa using k3
    clear k3;go_wp2_with fail
    go_ret3
    exact⟨0,0,false,rfl,HR0.out _ _,H3.out.2.2⟩
   ·have k3':(cl== -1)=false:=by simpa using k3
    have k3:=Z9 k3;by_cases k4:X.h.label.size=0
    ·have l1:X.h.label.toList= []:=OM k4;have l2:X.h.label.toList.isEmpty=true:=by rw[l1];rfl
     have l3:(X.h.label.toList== [])=true:=by rw[l1];rfl
     have k4:=Z9 k4;obtain⟨o,q,Y,yb,ye,yc,_,yt,yo,gc,cc,ho,hol,hq,hql,hYr,hY1,hgc,hc0,hc2,hkd⟩:=HO.out k3.out;subst ho hq;have hf4: ∀ w':World,Below w3.heap.size w3 w'->w'.cell? ⟨p,1,none⟩=some (.slice (some ⟨g,0,none⟩) A.ns.length cap)∧w'.cell? ⟨w2.heap.size,0,none⟩=some (.int .i64 o)∧w'.rangeAt g (o*24) (ZY Y yb ye yc (.slice (some ⟨gc,0,none⟩) Y.choices.length cc) yt yo):=fun w' hb=>by
      have hbw:=H3.out.2.2.trans (hb.mono H3.out.2.2.size);exact⟨(KF.out w' hbw).1,(ZC H3.out.1 hb).cell 0 rfl,fun j u hu=>(hbw.cell (p:=⟨g,o*24+j,none⟩) hgl).trans (hYr j u hu)⟩
     have Hf4:=Z9 hf4;have HY:=Yt hY1 hc0 hc2 hkd;have hzz:=H3.out.2.2.size;clear hf4 hYr hY1 hc0 hc2 hkd;go_wp2_with fail
     refine Sv 8 10 53 79 RX (ZY Y yb ye yc (.slice (some ⟨gc,0,none⟩) Y.choices.length cc) yt yo) (by intro d _ _ _ _ h;cases d<;>exact h) rfl rfl rfl rfl rfl rfl rfl rfl XU rfl QM HY.out.1 ?_
     iterate 7
      refine⟨_,?_,rfl,rfl,.inl ⟨by rfl,fun w' hb=>?_⟩,?_⟩
      rotate_left
      ·obtain⟨e0,e1,_⟩:=Hf4.out w' hb;go_simp;try with_reducible rfl
      simp only[Act.put,List.setIfInBounds_toArray,List.set_cons_zero,List.set_cons_succ]
     refine⟨_,_,rfl,rfl,yieldsIf_load_mid (by rfl) 79 _ rfl g (o*24) rfl _ _ (fun w' hb=>(Hf4.out w' hb).2.2) Tryz.underlying79 rfl QM,?_⟩;simp only[Act.put,List.setIfInBounds_toArray,List.set_cons_zero,List.set_cons_succ];refine⟨rfl,rfl,fun w4 hb4 hf4=>?_⟩;simp only[Act.put,List.setIfInBounds_toArray,List.set_cons_zero,List.set_cons_succ];obtain⟨_,h0,h2,h3⟩:=HY.out;have hbw:=H3.out.2.2.trans (hf4.mono hzz);have x0:=hb4.cell 0 rfl;have x20:=hb4.cell 20 rfl;have v1:=(ZC H3.out.1 hf4).cell 1 rfl;have g0:=(hbw.cell (p:=⟨gc,q*3,none⟩) hgc).trans h0;have g2:=(hbw.cell (p:=⟨gc,q*3+2,none⟩) hgc).trans h2;rw[h3]at x0;have HB:=Z9 hbw;generalize hnn:(A.ch (o:Int) (q:Int)).number=nn at*;generalize hpp:(A.ch (o:Int) (q:Int)).plain=pp at*;generalize hkk:A.kd (o:Int)=kk at*;clear h0 h2 h3 hb4 hf4 hbw hnn hpp hkk;by_cases j1:kk=13
     ·subst j1;go_wp2_with fail
      go_quiet (fail)
      go_wp2_with fail
      go_ret3
      exact⟨_,_,true,rfl,HR1.out (by first|rfl|trivial) k2.out k3.out k4.out (.inl (by first|rfl|trivial)),Zv HB.out _⟩
     ·have j1':(kk !=13)=true:=by simpa using j1
      cases pp with
      |true=>
       go_wp2_with fail
       go_ret3
       exact⟨0,0,false,rfl,HR0.out _ _,HB.out⟩
      |false=>
       go_wp2_with fail
       go_quiet (fail)
       go_wp2_with fail
       go_ret3
       exact⟨_,_,true,rfl,HR1.out (by first|rfl|trivial) k2.out k3.out k4.out (.inr (by first|rfl|trivial)),Zv HB.out _⟩
    ·have n1:=Xi k4;have n2:=Xy k4;clear k4;go_wp2_with fail
     go_ret3
     exact⟨0,0,false,rfl,HR0.out _ _,H3.out.2.2⟩
  ·have k2':0 < X.place:=by omega
   clear k2;go_wp2_with fail
   go_ret3
   exact⟨0,0,false,rfl,HR0.out _ _,H3.out.2.2⟩
 ·have k1':(wh !=1)=true:=by simpa using k1
  clear k1;go_wp2_with fail
  go_ret3
  exact⟨0,0,false,rfl,HR0.out _ _,H3.out.2.2⟩
end Go.Proofs.YteedbaejpdjilaaGreat
