/- Part of the proof: PlcA PlcB PlcC PlcD. -/
import Derived.Test.YteedbaejpdjilaaGreatTRc
import Derived.Test.YteedbaejpdjilaaGreatYQe
import Derived.Test.YteedbaejpdjilaaGreatTQl
set_option linter.all false
set_option maxRecDepth 100000
set_option maxHeartbeats 4000000
namespace Go.Proofs.YteedbaejpdjilaaGreat
open Go.RowKit Tryz
section
theorem EL {P:Program} {ops:Array Oper} {Q:Exit->Act->World->Prop} {S:World->Prop} {K:Act->Prop} {w:World} {s:Nat} (hS:S w): ∀ (k i:Nat) (a:Act),Ie P ops S K s k i a->(∀ a',K a'->wpList P ops Q (ops.toList.drop (i+k)) a' w)->wpList P ops Q (ops.toList.drop i) a w:=by
 intro k
 induction k with
 |zero=>intro i a h hK;exact hK a h
 |succ k ih=>
  intro i a h hK;obtain⟨oi,v,h1,hd,h2,h3⟩:=h;have hd':ops.toList.drop i=oi::ops.toList.drop (i+1):=by
   have h1':ops.toList[i]? =some oi:=by simpa using h1
   obtain⟨hl,he⟩:=Z1.1 h1';rw[<-he];exact List.drop_eq_getElem_cons hl
  rw[hd'];have ih':=ih (i+1) _ h3 (fun a' ha=>by rw[show i+1+k=i+(k+1)by omega];exact hK a' ha);rw[<-hd]at ih';unfold wpList;rcases h2 with⟨hw,hv⟩ |⟨hw,rfl⟩
  .rw[if_pos hw];refine .inl ?_;unfold Oper.wp;rw[hv w hS];exact ih'
  .rw[if_neg (by rw[hw];simp)];exact ih'
theorem Tj {P:Program} {id:Nat} {ops:Array Oper} {Q:Exit->Act->World->Prop} {W:World} (n k s:Nat) {a:Act} (ty:TypeId) (zs ys:List Value) {oi oj:Oper} {x y:Operand}
  (hi:ops[n]? =some oi) (hoi:oi.op=.alloc ty) (hgi:oi.guard=none) (hdi:oi.dst=some k) (hj:ops[n+1]? =some oj) (hoj:oj.op=.store ty x y) (hgj:oj.guard=none) (hdj:oj.dst=none)
  (hal: ∀ w:World,(Instr.alloc ty true (.tuple #[])).run P w=.ok (.pointer (some ⟨w.heap.size,0,none⟩)) (w.alloc (.cells zs.toArray ty))) (hl:ys.length=zs.length) (hsz:(P.info? ty).map (·.size)=some ys.length) (h1: ∀ v∈ys,v.oneCell'=true)
  (h:Ie P ops (Below W.heap.size W) (fun a'=>(a'.put (some k) (.pointer (some ⟨W.heap.size,0,none⟩))).eval x=.pointer (some ⟨W.heap.size,0,none⟩)/\(a'.put (some k) (.pointer (some ⟨W.heap.size,0,none⟩))).eval y=.agg ys.toArray/\ ∀ w',ZD w' W.heap.size ys ty->Below W.heap.size W w'->Q .normal (a'.put (some k) (.pointer (some ⟨W.heap.size,0,none⟩))) w') s n 0 a)
  (hz:ops.size=n+2:=by rfl):(Code.region id ops false).wp P Q a W:=by
 have e:ops=ops.toList.toArray:=by simp
 rw[e];refine wp_region_lit ?_;rw[<-e];refine EL (ZN _ _) n 0 a h ?_;rintro a' ⟨h2,h3,h4⟩;have hi':ops.toList[n]? =some oi:=by simpa using hi
 have hj':ops.toList[n+1]? =some oj:=by simpa using hj
 have hd:ops.toList.drop (0+n)= [oi,oj]:=by
  rw[YR];obtain⟨l1,e1⟩:=Z1.1 hi';obtain⟨l2,e2⟩:=Z1.1 hj';rw[List.drop_eq_getElem_cons l1,List.drop_eq_getElem_cons l2,e1,e2,List.drop_eq_nil_of_le (by simp;omega)]
 rw[hd];refine XU hgi ty hoi zs (hal W) ?_;intro w1 hb1 hf1;rw[hdi];refine XT hgj ty x y hoj h2 hb1 ys h3 hl hsz h1 ?_;intro w2 hb2 hf2;rw[hdj];exact h4 w2 hb2 (hf1.trans hf2)
def Np (p:Pl):Value:=.agg #[.int .i64 p.op,.int .i64 p.a,.int .i64 p.b]
theorem QX (w:World):Below w.heap.size w (w.alloc (.cells [.int .i64 0,.int .i64 0,.int .i64 0].toArray 118))/\ZD (w.alloc (.cells [.int .i64 0,.int .i64 0,.int .i64 0].toArray 118)) w.heap.size [.int .i64 0,.int .i64 0,.int .i64 0] 118:=⟨(ZN _ _).alloc (Z7 _) _,ZD.new w _ 118⟩
section
variable {w w':World} {lo p:Nat} {A:Tr}
theorem QW.Qx (M:QW w lo p A) {m:Nat} (hm:m < A.ns.length): ∃ (g cap:Nat) (X:Nd) (vb ve vc cv tv ov:Value),Hid (X= { A.nd (m:Int)with target:=A.tgt (m:Int) })/\g < w.heap.size/\p < w.heap.size/\(∀ v∈ZQ X vb ve vc cv tv ov,v.oneCell'=true)/\rJ w lo g m X vb ve vc cv tv ov/\
  ∀ w':World,Below w.heap.size w w'->w'.cell? ⟨p,1,none⟩=some (.slice (some ⟨g,0,none⟩) A.ns.length cap)/\w'.rangeAt g (m*24) (ZQ X vb ve vc cv tv ov):=by
 obtain⟨_,_,_,_,_,_,M⟩:=M;obtain⟨g,cap,rfl⟩:=M.Kd (by omega);obtain⟨vb,ve,vc,cv,tv,ov,hX⟩:=M.nd hm;have q1:=M.t.blk.cell 1 rfl;have hpl:=M.t.blk.lt;have hgl:=(M.t.n.lt g rfl).2;refine⟨g,cap,_,vb,ve,vc,cv,tv,ov,Z5 rfl,hgl,hpl,qH _ _ _ _ _ _ _ hX.one,hX,fun w' hb=>⟨(hb.cell (p:=⟨p,1,none⟩) hpl).trans q1,fun j u hu=>(hb.cell (p:=⟨g,m*24+j,none⟩) hgl).trans (BD hX j u hu)⟩⟩
theorem Xb (M:QW w lo p A) {n:Nat} (hn:n < A.ns.length) (hpn:0<=(A.nd n).place/\(A.nd n).place<=100000):Calls prog 76 #[p,.int .i64 n] w fun e w'=>e=.returned (Np (A.behind n))/\Below w.heap.size w w':=by
 obtain⟨g,cap,X,vb,ve,vc,cv,tv,ov,UX,hgl,hpl,hone,hX,hfx⟩:=M.Qx hn;have hpl2:X.place=(A.nd n).place:=by rw[UX.out]
 have iH:X.list=(A.nd n).list:=by rw[UX.out]
 have hA:A.behind n=⟨1,X.list,X.place+1⟩:=by unfold Tr.behind;rw[hpl2,iH]
 rw[hA];rw[<-hpl2]at hpn;have hwr:=IntWalk.i64_in (X.place+1) (by omega);obtain⟨hp0,hp1⟩:=hpn;have hz:=QX w;have hk: ∀ w':World,Below w.heap.size w w'->w'.cell? ⟨p,1,none⟩=some (.slice (some ⟨g,0,none⟩) A.ns.length cap)/\w'.cell? ⟨g,n*24+12,none⟩=some (.int .i64 X.list)/\w'.cell? ⟨g,n*24+13,none⟩=some (.int .i64 X.place):=fun w' hb=>⟨(hfx w' hb).1,(hfx w' hb).2 12 _ rfl,(hfx w' hb).2 13 _ rfl⟩
 have hS0:=hk _ hz.1.drew;have hb1:Below w.heap.size w (w.alloc (.cells [.int .i64 1,.int .i64 X.list,.int .i64 (X.place+1)].toArray 118)):=(ZN _ _).alloc (Z7 _) _;have hS1:=hk _ hb1.drew;have HZ:=Zl hb1 (ZD.new w [.int .i64 1,.int .i64 X.list,.int .i64 (X.place+1)] 118);clear UX hfx hX hone M hpl2 iH hA hk hz hb1;unfold Np;go_enter func76,ntmps76;go_wp2_with fail
 go_region_held3 (fun w':World=>w'.cell? ⟨p,1,none⟩=some (.slice (some ⟨g,0,none⟩) A.ns.length cap)/\w'.cell? ⟨g,n*24+12,none⟩=some (.int .i64 X.list)/\w'.cell? ⟨g,n*24+13,none⟩=some (.int .i64 X.place)) (first|exact hS0|exact hS1|go_keep) (fail)
 go_wp2_with fail
 ((try simp only[Exit.inBlock,Exit.then]);refine bodyPost_ret (results_cell_row (P:=prog) rfl _ _ w.heap.size 118 #[.int .i64 1,.int .i64 X.list,.int .i64 (X.place+1)] (0,0) _ rfl HZ.out.2.drew underlying118 rfl (by kernel_rfl)) rfl ?_)
 exact⟨rfl,HZ.out.1.drew⟩
theorem Qw {w:World} {b:Nat} {x y z:Value} (h:ZD w b [x,y,z] 118) (a c d:Value):ZD (((w.setCell ⟨b,0,none⟩ a).setCell ⟨b,1,none⟩ c).setCell ⟨b,2,none⟩ d) b [a,c,d] 118/\ ∀ B:Nat,B<=b->Below B w (((w.setCell ⟨b,0,none⟩ a).setCell ⟨b,1,none⟩ c).setCell ⟨b,2,none⟩ d):=
 ⟨((h.set 0 a).set 1 c).set 2 d,fun B hB=>(((ZN B w).setCell hB a).setCell hB c).setCell hB d⟩
theorem MU (M:QW w lo p A) {n:Nat} (hn:n < A.ns.length):Calls prog 92 #[p,.int .i64 n] w fun e w'=>e=.returned (Np (A.again n))/\Below w.heap.size w w':=by
 obtain⟨g,cap,X,vb,ve,vc,cv,tv,ov,UX,hgl,hpl,hone,hX,hfx⟩:=M.Qx hn;have hA:A.again n=if X.h.kind=12 then⟨5,n,0⟩else if X.Ym≠ -1 then⟨6,X.Ym,0⟩else⟨2,n,0⟩:=by unfold Tr.again Tr.kd;rw[UX.out]
 obtain⟨R,hR⟩: ∃ R:Pl,R=A.again n:=⟨_,rfl⟩
 rw[<-hR];rw[hA]at hR;have HR:=Z5 hR;clear hR;obtain⟨w1,hw1⟩: ∃ w1,w1=w.alloc (.cells [.int .i64 0,.int .i64 0,.int .i64 0].toArray 118):=⟨_,rfl⟩
 have hz1:w1.heap.size=w.heap.size+1:=by rw[hw1];simp
 have hz:=QX w;rw[<-hw1]at hz;obtain⟨hbz,hkz⟩:=hz;have Gf: ∀ w':World,Below w1.heap.size w1 w'->w'.cell? ⟨p,1,none⟩=some (.slice (some ⟨g,0,none⟩) A.ns.length cap)/\w'.rangeAt g (n*24) (ZQ X vb ve vc cv tv ov):=fun w' hb=>hfx w' (hbz.trans (hb.mono (by omega)));have JJ:=Z5 Gf;have HF:=X7 hone hbz hkz;clear hfx hone hX UX hA hbz hkz M Gf;unfold Np;subst hw1;go_enter func92,ntmps92;go_upto_region 1 with fail
 refine Tj 7 5 6 79 Tf (ZQ X vb ve vc cv tv ov) rfl rfl rfl rfl rfl rfl rfl rfl XR rfl Wk HF.out.1 ?_
 iterate 6
  refine⟨_,?_,rfl,rfl,.inl ⟨by rfl,fun w' hb=>?_⟩,?_⟩
  rotate_left
  .obtain⟨e0,e1⟩:=JJ.out w' hb;go_simp;try with_reducible rfl
  simp only[Act.put,ZK,Zp,Zo]
 refine⟨_,_,rfl,rfl,yieldsIf_load_mid (by rfl) 79 _ rfl g (n*24) rfl _ _ (fun w' hb=>(JJ.out w' hb).2) underlying79 rfl Wk,?_⟩;simp only[Act.put,ZK,Zp,Zo];refine⟨rfl,rfl,fun w2 hb2 hf2=>?_⟩;simp only[Act.put,ZK,Zp,Zo];clear JJ;obtain⟨hbz,hkz⟩:=HF.out.2;rw[hz1]at hb2 hf2 ⊢;have hbw:Below w.heap.size w w2:=hbz.trans (hf2.mono (by omega));have hk2:ZD w2 w.heap.size [.int .i64 0,.int .i64 0,.int .i64 0] 118:=(hf2.block _ (by omega)).trans hkz;have d0:=hb2.cell 0 rfl;have d17:=hb2.cell 17 rfl;have f0:=hk2.free 0;have f1:=hk2.free 1;have f2:=hk2.free 2;have c0:=hk2.cell 0 rfl;have c1:=hk2.cell 1 rfl;have c2:=hk2.cell 2 rfl;have HK:=Zl hbw hk2;have HS:=Z5 (fun a c d=>Qw hk2 a c d);clear HF hbz hkz hb2 hf2 hbw hk2 hz1 hgl hpl;generalize X.h.kind=kd at*;generalize X.Ym=ps at*;by_cases h12:kd=12
 .subst h12;have HR:=Z5 (show R=⟨5,n,0⟩by rw[HR.out,if_pos rfl]);go_wp2_with fail
  ((try simp only[Exit.inBlock,Exit.then]);refine bodyPost_ret (results_cell_row (P:=prog) rfl _ _ w.heap.size 118 #[.int .i64 5,.int .i64 n,.int .i64 0] (0,0) _ rfl (HS.out _ _ _).1 underlying118 rfl (by kernel_rfl)) rfl ?_)
  rw[HR.out];exact⟨rfl,HK.out.1.trans ((HS.out _ _ _).2 _ (Z7 _))⟩
 .have HR:=Z5 (show R=if ps≠ -1 then⟨6,ps,0⟩else⟨2,n,0⟩by rw[HR.out,if_neg h12]);by_cases hp:ps= -1
  .subst hp;have HR:=Z5 (show R=⟨2,n,0⟩by rw[HR.out,if_neg (by simp)]);go_wp2_with fail
   ((try simp only[Exit.inBlock,Exit.then]);refine bodyPost_ret (results_cell_row (P:=prog) rfl _ _ w.heap.size 118 #[.int .i64 2,.int .i64 n,.int .i64 0] (0,0) _ rfl (HS.out _ _ _).1 underlying118 rfl (by kernel_rfl)) rfl ?_)
   rw[HR.out];exact⟨rfl,HK.out.1.trans ((HS.out _ _ _).2 _ (Z7 _))⟩
  .have HR:=Z5 (show R=⟨6,ps,0⟩by rw[HR.out,if_pos hp]);go_wp2_with fail
   ((try simp only[Exit.inBlock,Exit.then]);refine bodyPost_ret (results_cell_row (P:=prog) rfl _ _ w.heap.size 118 #[.int .i64 6,.int .i64 ps,.int .i64 0] (0,0) _ rfl (HS.out _ _ _).1 underlying118 rfl (by kernel_rfl)) rfl ?_)
   rw[HR.out];exact⟨rfl,HK.out.1.trans ((HS.out _ _ _).2 _ (Z7 _))⟩
theorem QW.NT (M:QW w lo p A) (W:Wf A) {n:Nat} (hn:n < A.ns.length):0<=(A.nd n).place/\(A.nd n).place<=100000:=by
 obtain⟨_,_,_,_,_,_,M⟩:=M;have h:=W.nd (n:=(n:Int)) ⟨by omega,by omega⟩;obtain⟨l1,_⟩:=Z1.1 h.here;have l2:=(W.rw h.list).len;have l3:=M.b;have l4:=h.place;exact⟨l4,by omega⟩
theorem QW.qF (M:QW w lo p A) {m:Nat} (hm:m < A.rs.length): ∃ (g cap:Nat) (iv:Value),g < w.heap.size/\p < w.heap.size/\RwM w lo g m (A.rw m) iv/\ ∀ w':World,Below w.heap.size w w'->w'.cell? ⟨p,2,none⟩=some (.slice (some ⟨g,0,none⟩) A.rs.length cap)/\w'.rangeAt g (m*3) [.int .i64 (A.rw m).owner,.int .i64 (A.rw m).clause,iv]:=by
 obtain⟨_,_,_,_,_,_,M⟩:=M;obtain⟨g,cap,rfl⟩:=M.yh (by omega);obtain⟨iv,hX⟩:=M.rw hm;have q1:=M.t.blk.cell 2 rfl;have hpl:=M.t.blk.lt;have hgl:=(M.t.r.lt g rfl).2;exact⟨g,cap,iv,hgl,hpl,hX,fun w' hb=>⟨(hb.cell (p:=⟨p,2,none⟩) hpl).trans q1,fun j u hu=>(hb.cell (p:=⟨g,m*3+j,none⟩) hgl).trans (hX.cell j u hu)⟩⟩
theorem BB (M:QW w lo p A) (W:Wf A) {l:Nat} (hl:l < A.rs.length) (ho:0<=(A.rw l).owner):Calls prog 112 #[p,.int .i64 l] w fun e w'=>e=.returned (Np (A.left l))/\Below w.heap.size w w':=by
 obtain⟨k,hk,hkl⟩: ∃ k:Nat,(A.rw l).owner=k/\k < A.ns.length:=by
  rcases(W.rw (n:=(l:Int)) ⟨by omega,by omega⟩).owner with h|h
  .omega
  .exact h.cast
 obtain⟨gr,cr,iv,hgr,-,-,hfr⟩:=M.qF hl;obtain⟨g,cap,X,vb,ve,vc,cv,tv,ov,UX,hgl,hpl,hone,hX,hfx⟩:=M.Qx hkl;have hkd:A.kd k=X.h.kind:=by unfold Tr.kd;rw[UX.out]
 rw[hk]at hfr;obtain⟨R,hR⟩: ∃ R:Pl,Hid (R=A.left l):=⟨_,Z5 rfl⟩
 have HR:=Z5 (show R=if X.h.kind=11\/X.h.kind=12 then A.again k else A.behind k by rw[hR.out];unfold Tr.left;rw[hk,hkd]);rw[<-hR.out];obtain⟨w1,hw1⟩: ∃ w1,w1=w.alloc (.cells [.int .i64 0,.int .i64 0,.int .i64 0].toArray 118):=⟨_,rfl⟩
 have hz1:w1.heap.size=w.heap.size+1:=by rw[hw1];simp
 have hz:=QX w;rw[<-hw1]at hz;obtain⟨hbz,hkz⟩:=hz;obtain⟨r0,r1⟩:=hfr w1 hbz;have r1:w1.cell? ⟨gr,l*3,none⟩=some (.int .i64 k):=r1 0 _ rfl;obtain⟨e0,e1⟩:=hfx w1 hbz;have e1:w1.cell? ⟨g,k*24,none⟩=some (.int .i64 X.h.kind):=e1 0 _ rfl;have HC:=Zl (MU (M.low hbz) hkl) (Xb (M.low hbz) hkl (M.NT W hkl));have HF:=Zl hbz hkz;have HS:=Z5 (fun(w2:World) (hb:Below w1.heap.size w1 w2) a c d=>Qw (show ZD w2 w.heap.size [.int .i64 0,.int .i64 0,.int .i64 0] 118 from(hb.block _ (by omega)).trans hkz) a c d);have HK:=Z5 (fun(w2:World) (hb:Below w1.heap.size w1 w2)=>(show ZD w2 w.heap.size [.int .i64 0,.int .i64 0,.int .i64 0] 118 from(hb.block _ (by omega)).trans hkz));have HB:=Z5 (fun(w2:World) (hb:Below w1.heap.size w1 w2)=>hbz.trans (hb.mono (by omega)));clear hR hfx hfr hone hX UX hbz hkz M W ho hk hkd;unfold Np at*;generalize X.h.kind=kd at*;subst hw1;go_enter func112,ntmps112;by_cases h11:kd=11
 .subst h11;have HR:=Z5 (show R=A.again k by rw[HR.out,if_pos (.inl rfl)]);go_wp2_with fail
  refine HC.out.1.mono ?_;rintro e w2 ⟨rfl,hb2⟩;have HW:=Z5 (HK.out w2 hb2);have hb2':=Z5 hb2;have d0:=HW.out.free 0;have d1:=HW.out.free 1;have d2:=HW.out.free 2;have c0:=HW.out.cell 0 rfl;have c1:=HW.out.cell 1 rfl;have c2:=HW.out.cell 2 rfl;clear hb2;go_wp2_with fail
  ((try simp only[Exit.inBlock,Exit.then]);refine bodyPost_ret (results_cell_row (P:=prog) rfl _ _ w.heap.size 118 #[.int .i64 (A.again k).op,.int .i64 (A.again k).a,.int .i64 (A.again k).b] (0,0) _ rfl (HS.out w2 hb2'.out _ _ _).1 underlying118 rfl (by kernel_rfl)) rfl ?_)
  rw[HR.out];exact⟨rfl,(HB.out w2 hb2'.out).trans ((HS.out w2 hb2'.out _ _ _).2 _ (Z7 _))⟩
 .by_cases h12:kd=12
  .subst h12;have HR:=Z5 (show R=A.again k by rw[HR.out,if_pos (.inr rfl)]);go_wp2_with fail
   refine HC.out.1.mono ?_;rintro e w2 ⟨rfl,hb2⟩;have HW:=Z5 (HK.out w2 hb2);have hb2':=Z5 hb2;have d0:=HW.out.free 0;have d1:=HW.out.free 1;have d2:=HW.out.free 2;have c0:=HW.out.cell 0 rfl;have c1:=HW.out.cell 1 rfl;have c2:=HW.out.cell 2 rfl;clear hb2;go_wp2_with fail
   ((try simp only[Exit.inBlock,Exit.then]);refine bodyPost_ret (results_cell_row (P:=prog) rfl _ _ w.heap.size 118 #[.int .i64 (A.again k).op,.int .i64 (A.again k).a,.int .i64 (A.again k).b] (0,0) _ rfl (HS.out w2 hb2'.out _ _ _).1 underlying118 rfl (by kernel_rfl)) rfl ?_)
   rw[HR.out];exact⟨rfl,(HB.out w2 hb2'.out).trans ((HS.out w2 hb2'.out _ _ _).2 _ (Z7 _))⟩
  .have HR:=Z5 (show R=A.behind k by rw[HR.out,if_neg (by rintro(h|h);exact h11 h;exact h12 h)]);have hor:(kd==11||kd==12)=false:=by simp[h11,h12]
   go_wp2_with fail
   refine HC.out.2.mono ?_;rintro e w2 ⟨rfl,hb2⟩;have HW:=Z5 (HK.out w2 hb2);have hb2':=Z5 hb2;have d0:=HW.out.free 0;have d1:=HW.out.free 1;have d2:=HW.out.free 2;have c0:=HW.out.cell 0 rfl;have c1:=HW.out.cell 1 rfl;have c2:=HW.out.cell 2 rfl;clear hb2;go_wp2_with fail
   ((try simp only[Exit.inBlock,Exit.then]);refine bodyPost_ret (results_cell_row (P:=prog) rfl _ _ w.heap.size 118 #[.int .i64 (A.behind k).op,.int .i64 (A.behind k).a,.int .i64 (A.behind k).b] (0,0) _ rfl (HS.out w2 hb2'.out _ _ _).1 underlying118 rfl (by kernel_rfl)) rfl ?_)
   rw[HR.out];exact⟨rfl,(HB.out w2 hb2'.out).trans ((HS.out w2 hb2'.out _ _ _).2 _ (Z7 _))⟩
def iG (w:World) (cs:List V1) (ix:Value) (wr:World):Prop:= ∃ k:Nat,ix=.int .i64 k/\k<=cs.length/\(∀ (x:Nat) c,x < k->cs[x]? =some c->c.plain=false)/\Below w.heap.size w wr/\ZD wr w.heap.size [.int .i64 0,.int .i64 0,.int .i64 0] 118
theorem NQ {cs:List V1} {k:Nat} (hn: ∀ (x:Nat) c,x < k->cs[x]? =some c->c.plain=false):(∀ c,cs[k]? =some c->c.plain=true->cs.find? (fun c=>c.plain)=some c)/\(cs.length<=k->cs.find? (fun c=>c.plain)=none):=by
 constructor
 .intro c hc hp;obtain⟨hl,he⟩:=Z1.1 hc;rw[List.find?_eq_some_iff_getElem];exact⟨hp,k,hl,he,fun j hj=>by simp[hn j _ hj (Z9 (by omega))]⟩
 .intro hl;rw[List.find?_eq_none];intro c hc;obtain⟨j,hj,he⟩:=List.getElem_of_mem hc;simp[hn j c (by omega) (by rw[<-he];exact Z9 hj)]
theorem Ic (M:QW w lo p A) (W:Wf A) {n:Nat} (hn:n < A.ns.length) (hnc:(A.nd n).choices.length<=200000):Calls prog 113 #[p,.int .i64 n] w fun e w'=>e=.returned (Np (A.failed n))/\Below w.heap.size w w':=by
 obtain⟨g,cap,X,vb,ve,vc,cv,tv,ov,UX,hgl,hpl,hone,hX,hfx⟩:=M.Qx hn;have hcv:=hX.cv;obtain⟨ac,cc,rfl⟩:=ZR hcv;have hch:(A.nd n).choices=X.choices:=by rw[UX.out]
 obtain⟨R,hR⟩: ∃ R:Pl,Hid (R=A.failed n):=⟨_,Z5 rfl⟩
 have HR:=Z5 (show R=match X.choices.find? (fun c=>c.plain)with|some c=>⟨1,c.list,0⟩ |none=>A.behind n by rw[hR.out];unfold Tr.failed;rw[hch];cases X.choices.find? (fun c=>c.plain)<;>rfl);rw[<-hR.out];have hz:=QX w;obtain⟨hbz,hkz⟩:=hz;obtain⟨e0,e1⟩:=hfx _ hbz;have e1:(w.alloc (.cells [.int .i64 0,.int .i64 0,.int .i64 0].toArray 118)).cell? ⟨g,n*24+20,none⟩=some (.slice ac X.choices.length cc):=e1 20 _ rfl;have HF:=Zl hbz hkz;have HC:=Xp hcv M hn (M.NT W hn);rw[hch]at hnc;clear hR hfx hone hX UX hbz hkz M W hch hcv;unfold Np;go_enter func113,ntmps113;go_wp2_with fail
 go_loopw [16] (fun ix wr=>iG w X.choices ix wr) (fun ix _=>X.choices.length -(intOf ix).toNat)
 case atStart=>exact⟨0,rfl,by omega,fun x c hx=>by omega,HF.out.1,HF.out.2⟩
 case round=>
  obtain⟨k,rfl,hk,hno,hbw,hkw⟩:=hrel;have hno:=Z5 hno;have d0:=hkw.free 0;have d1:=hkw.free 1;have d2:=hkw.free 2;have c0:=hkw.cell 0 rfl;have c1:=hkw.cell 1 rfl;have c2:=hkw.cell 2 rfl;have hsz:=hkw.lt;have hne:w.heap.size≠wr.heap.size:=by omega
  have HW:=Zl hbw hkw;by_cases hlt:k < X.choices.length
  .obtain⟨gc,cc',hgc⟩:=XM HC.out.1 (by omega);cases hgc;have hc:X.choices[k]? =some (X.choices[k]):=Z9 hlt;obtain⟨C,hC⟩: ∃ C:V1,C=X.choices[k]:=⟨_,rfl⟩
   rw[<-hC]at hc;have hq: ∀ j v,C.cells[j]? =some v->wr.cell? ⟨gc,k*3+j,none⟩=some v:=by
    intro j v hv;have hj:j < 3:=by obtain⟨h,_⟩:=Z1.1 hv;exact h
    have h1:=ZF HC.out.1 (k*3+j) (by omega);rw[(hbw.cell (p:=⟨gc,k*3+j,none⟩) (HC.out.1.lt gc rfl).2).trans h1,Rh (n:=3) (f:=V1.cells) (fun _=>rfl) hc hj,hv]
   have q0:wr.cell? ⟨gc,k*3,none⟩=some (.int .i64 C.number):=hq 0 _ rfl;have q1:wr.cell? ⟨gc,k*3+1,none⟩=some (.int .i64 C.list):=hq 1 _ rfl;have q2:wr.cell? ⟨gc,k*3+2,none⟩=some (.bool C.plain):=hq 2 _ rfl;have jU:=Z5 hc;clear hc hC hq hbw hkw;generalize hcp:C.plain=cp at*;cases cp
   .have hcp:=Z5 hcp;go_wp2_with fail
    refine⟨⟨k+1,by simp,by omega,fun x c hx hc=>?_,HW.out.1.alloc (Nat.le_of_lt hsz) _,HW.out.2.alloc _⟩,by simp[intOf];omega⟩;by_cases e:x < k
    .exact hno.out x c e hc
    .obtain rfl:x=k:=by omega
     rw[jU.out]at hc;cases hc;exact hcp.out
   .have hcp:=Z5 hcp;have HS:=Z5 (Qw HW.out.2 (.int .i64 1) (.int .i64 C.list) (.int .i64 0));go_wp2_with fail
    ((try simp only[Exit.inBlock,Exit.then]);refine bodyPost_ret (results_cell_row (P:=prog) rfl _ _ w.heap.size 118 #[.int .i64 1,.int .i64 C.list,.int .i64 0] (0,0) _ rfl (HS.out.1.alloc _) underlying118 rfl (by kernel_rfl)) rfl ?_)
    rw[HR.out,(NQ hno.out).1 C jU.out hcp.out];exact⟨rfl,(HW.out.1.trans (HS.out.2 _ (Z7 _))).alloc (by simp;omega) _⟩
  .have:k=X.choices.length:=by omega
   clear hbw hkw;have HR:=Z5 (show R=A.behind n by rw[HR.out,(NQ hno.out).2 (by omega)]);go_wp2_with fail
   refine(Xb (HC.out.2.1.low HW.out.1) HC.out.2.2.1 HC.out.2.2.2).mono ?_;rintro e w2 ⟨rfl,hb2⟩;have HV:=Z5 (U4 HW.out.2 hb2);have hbb:=Z5 (HW.out.1.trans (hb2.mono HW.out.1.size));have d0:=HV.out.free 0;have d1:=HV.out.free 1;have d2:=HV.out.free 2;have c0:=HV.out.cell 0 rfl;have c1:=HV.out.cell 1 rfl;have c2:=HV.out.cell 2 rfl;have HS:=Z5 (Qw HV.out (.int .i64 (A.behind n).op) (.int .i64 (A.behind n).a) (.int .i64 (A.behind n).b));unfold Np;clear hb2;go_wp2_with fail
   ((try simp only[Exit.inBlock,Exit.then]);refine bodyPost_ret (results_cell_row (P:=prog) rfl _ _ w.heap.size 118 #[.int .i64 (A.behind n).op,.int .i64 (A.behind n).a,.int .i64 (A.behind n).b] (0,0) _ rfl HS.out.1 underlying118 rfl (by kernel_rfl)) rfl ?_)
   rw[HR.out];exact⟨rfl,hbb.out.trans (HS.out.2 _ (Z7 _))⟩
end
end
section
section
variable {w w':World} {lo p:Nat} {A:Tr}
theorem vd (M:QW w lo p A) (W:Wf A) {n:Nat} (hn:n < A.ns.length) (v:Bool):Calls prog 78 #[p,.int .i64 n,v] w fun e w'=>e=.returned (Np (A.decided n v))/\Below w.heap.size w w':=by
 have hpn:=M.NT W hn;have HM:=Z5 M;obtain⟨g,cap,X,vb,ve,vc,cv,tv,ov,UX,hgl,hpl,hone,hX,hfx⟩:=M.Qx hn;have hA:A.decided n v=if X.h.kind=12 then⟨5,n,0⟩else if X.h.kind=13 then⟨3,n,0⟩else if v=true then⟨1,X.body,0⟩else if X.other≠ -1 then⟨1,X.other,0⟩else A.behind n:=by unfold Tr.decided Tr.kd;rw[UX.out]
 obtain⟨R,hR⟩: ∃ R:Pl,R=A.decided n v:=⟨_,rfl⟩
 rw[<-hR];rw[hA]at hR;have HR:=Z5 hR;clear hR;obtain⟨w1,hw1⟩: ∃ w1,w1=w.alloc (.cells [.int .i64 0,.int .i64 0,.int .i64 0].toArray 118):=⟨_,rfl⟩
 have hz1:w1.heap.size=w.heap.size+1:=by rw[hw1];simp
 have hz:=QX w;rw[<-hw1]at hz;obtain⟨hbz,hkz⟩:=hz;have Gf: ∀ w':World,Below w1.heap.size w1 w'->w'.cell? ⟨p,1,none⟩=some (.slice (some ⟨g,0,none⟩) A.ns.length cap)/\w'.rangeAt g (n*24) (ZQ X vb ve vc cv tv ov):=fun w' hb=>hfx w' (hbz.trans (hb.mono (by omega)));have JJ:=Z5 Gf;have HF:=X7 hone hbz hkz;clear hfx hone hX UX hA hbz hkz M Gf W;have hpn:=Z5 hpn;unfold Np;subst hw1;go_enter func78,ntmps78;go_upto_region 1 with fail
 refine Tj 7 7 8 79 Tf (ZQ X vb ve vc cv tv ov) rfl rfl rfl rfl rfl rfl rfl rfl XR rfl Wk HF.out.1 ?_
 iterate 6
  refine⟨_,?_,rfl,rfl,.inl ⟨by rfl,fun w' hb=>?_⟩,?_⟩
  rotate_left
  .obtain⟨e0,e1⟩:=JJ.out w' hb;go_simp;try with_reducible rfl
  simp only[Act.put,ZK,Zp,Zo]
 refine⟨_,_,rfl,rfl,yieldsIf_load_mid (by rfl) 79 _ rfl g (n*24) rfl _ _ (fun w' hb=>(JJ.out w' hb).2) underlying79 rfl Wk,?_⟩;simp only[Act.put,ZK,Zp,Zo];refine⟨rfl,rfl,fun w2 hb2 hf2=>?_⟩;simp only[Act.put,ZK,Zp,Zo];clear JJ;obtain⟨hbz,hkz⟩:=HF.out.2;rw[hz1]at hb2 hf2 ⊢;have hbw:Below w.heap.size w w2:=hbz.trans (hf2.mono (by omega));have hk2:ZD w2 w.heap.size [.int .i64 0,.int .i64 0,.int .i64 0] 118:=(hf2.block _ (by omega)).trans hkz;have d0:=hb2.cell 0 rfl;have fI:=hb2.cell 18 rfl;have d19:=hb2.cell 19 rfl;have f0:=hk2.free 0;have f1:=hk2.free 1;have f2:=hk2.free 2;have c0:=hk2.cell 0 rfl;have c1:=hk2.cell 1 rfl;have c2:=hk2.cell 2 rfl;have HK:=Zl hbw hk2;have HS:=Z5 (fun a c d=>Qw hk2 a c d);clear HF hbz hkz hb2 hf2 hbw hk2 hz1 hgl hpl;generalize X.h.kind=kd at*;generalize X.body=bd at*;generalize X.other=ot at*;by_cases h12:kd=12
 .subst h12;have HR:=Z5 (show R=⟨5,n,0⟩by rw[HR.out,if_pos rfl]);go_wp2_with fail
  ((try simp only[Exit.inBlock,Exit.then]);refine bodyPost_ret (results_cell_row (P:=prog) rfl _ _ w.heap.size 118 #[.int .i64 5,.int .i64 n,.int .i64 0] (0,0) _ rfl (HS.out _ _ _).1 underlying118 rfl (by kernel_rfl)) rfl ?_)
  rw[HR.out];exact⟨rfl,HK.out.1.trans ((HS.out _ _ _).2 _ (Z7 _))⟩
 .by_cases h13:kd=13
  .subst h13;have HR:=Z5 (show R=⟨3,n,0⟩by rw[HR.out,if_neg (by decide),if_pos rfl]);go_wp2_with fail
   ((try simp only[Exit.inBlock,Exit.then]);refine bodyPost_ret (results_cell_row (P:=prog) rfl _ _ w.heap.size 118 #[.int .i64 3,.int .i64 n,.int .i64 0] (0,0) _ rfl (HS.out _ _ _).1 underlying118 rfl (by kernel_rfl)) rfl ?_)
   rw[HR.out];exact⟨rfl,HK.out.1.trans ((HS.out _ _ _).2 _ (Z7 _))⟩
  .have HR:=Z5 (show R=if v=true then⟨1,bd,0⟩else if ot≠ -1 then⟨1,ot,0⟩else A.behind n by rw[HR.out,if_neg h12,if_neg h13]);have k12:(kd==12)=false:=by simp[h12]
   have k13:(kd==13)=false:=by simp[h13]
   cases v
   .by_cases ho:ot= -1
    .subst ho;have HR:=Z5 (show R=A.behind n by rw[HR.out,if_neg (by simp),if_neg (by simp)]);go_wp2_with fail
     refine(Xb (HM.out.low HK.out.1) hn hpn.out).mono ?_;rintro e w3 ⟨rfl,hb3⟩;have HV:=Z5 (U4 HK.out.2 hb3);have hbb:=Z5 (HK.out.1.trans (hb3.mono HK.out.1.size));have d0:=HV.out.free 0;have d1:=HV.out.free 1;have d2:=HV.out.free 2;have c0:=HV.out.cell 0 rfl;have c1:=HV.out.cell 1 rfl;have c2:=HV.out.cell 2 rfl;have HS:=Z5 (Qw HV.out (.int .i64 (A.behind n).op) (.int .i64 (A.behind n).a) (.int .i64 (A.behind n).b));unfold Np;clear hb3;go_wp2_with fail
     ((try simp only[Exit.inBlock,Exit.then]);refine bodyPost_ret (results_cell_row (P:=prog) rfl _ _ w.heap.size 118 #[.int .i64 (A.behind n).op,.int .i64 (A.behind n).a,.int .i64 (A.behind n).b] (0,0) _ rfl HS.out.1 underlying118 rfl (by kernel_rfl)) rfl ?_)
     rw[HR.out];exact⟨rfl,hbb.out.trans (HS.out.2 _ (Z7 _))⟩
    .have HR:=Z5 (show R=⟨1,ot,0⟩by rw[HR.out,if_neg (by simp),if_pos ho]);have ko:(ot != -1)=true:=by simp[ho]
     go_wp2_with fail
     ((try simp only[Exit.inBlock,Exit.then]);refine bodyPost_ret (results_cell_row (P:=prog) rfl _ _ w.heap.size 118 #[.int .i64 1,.int .i64 ot,.int .i64 0] (0,0) _ rfl (HS.out _ _ _).1 underlying118 rfl (by kernel_rfl)) rfl ?_)
     rw[HR.out];exact⟨rfl,HK.out.1.trans ((HS.out _ _ _).2 _ (Z7 _))⟩
   .have HR:=Z5 (show R=⟨1,bd,0⟩by rw[HR.out,if_pos rfl]);go_wp2_with fail
    ((try simp only[Exit.inBlock,Exit.then]);refine bodyPost_ret (results_cell_row (P:=prog) rfl _ _ w.heap.size 118 #[.int .i64 1,.int .i64 bd,.int .i64 0] (0,0) _ rfl (HS.out _ _ _).1 underlying118 rfl (by kernel_rfl)) rfl ?_)
    rw[HR.out];exact⟨rfl,HK.out.1.trans ((HS.out _ _ _).2 _ (Z7 _))⟩
end
end
section
def Pl.cl (p:Pl):List Value:= [.int .i64 p.op,.int .i64 p.a,.int .i64 p.b]
def Qv (qs:List Pl) (W:World) (e:Ending) (w':World):Prop:= ∃ v,e=.returned v/\w'.ownsRow W.heap.size 118 3 v qs.length (qs.map Pl.cl).flatten/\Below W.heap.size W w'
theorem xD {w:World} {base e size n:Nat} {v:Value} {xs:List Value} (h:w.ownsRow base e size v n xs):n<=9223372036854775807:=by
 rcases h.2 with⟨_,h⟩ |⟨_,_,_,_,_,_,h1,h2,_⟩
 .omega
 .have:maxLen=9223372036854775807:=by decide
  omega
theorem Ya {W w:World} (h:Below W.heap.size W w) (p:Pl):Qv [p] W (.returned (.slice (some ⟨w.heap.size,0,none⟩) 1 1)) (w.alloc (.cells #[.int .i64 p.op,.int .i64 p.a,.int .i64 p.b] 118)):=
 ⟨_,rfl,⟨rfl,.inr ⟨w.heap.size,1,_,rfl,h.size,heap_alloc_new w _,by simp,by decide,rfl,rfl⟩⟩,h.alloc h.size _⟩
theorem xC {W w:World} {o:Obj} (h:Below W.heap.size W (w.alloc o)) (p:Pl):Qv [p] W (.returned (.slice (some ⟨w.heap.size+1,0,none⟩) 1 1)) ((w.alloc o).alloc (.cells #[.int .i64 p.op,.int .i64 p.a,.int .i64 p.b] 118)):=by
 have h1:=Ya h p;rwa [show(w.alloc o).heap.size=w.heap.size+1 by simp]at h1
theorem Qv.drew {qs:List Pl} {W w:World} {e:Ending} (h:Qv qs W e w):Qv qs W e w.drew:=let⟨v,h1,h2,h3⟩:=h;⟨v,h1,h2.drew,h3.drew⟩
section
variable {w w':World} {lo p:Nat} {A:Tr}
theorem JQ (M:QW w lo p A) (W:Wf A) {n:Nat} (hn:n < A.ns.length):Calls prog 77 #[p,.int .i64 n] w (Qv [A.entered n] w):=by
 obtain⟨g,cap,X,vb,ve,vc,cv,tv,ov,UX,hgl,hpl,hone,hX,hfx⟩:=M.Qx hn;have hA:A.entered n=A.entered n:=rfl;obtain⟨R,hR⟩: ∃ R:Pl,R=A.entered n:=⟨_,rfl⟩
 rw[<-hR];have HR:=Z5 hR;clear hR;have Ib:=Z5 hone;have JJ:=Z5 hfx;have HM:=Xp M W hX UX;have hk0:X.h.kind=A.kd n:=by rw[UX.out];rfl
 have hx16:X.cnd=(A.nd n).cnd:=by rw[UX.out]
 have iF:X.body=(A.nd n).body:=by rw[UX.out]
 have iE:X.target=A.tgt n:=by rw[UX.out]
 clear hfx hone hX UX hA M W;go_enter func77,ntmps77;go_upto_region 1 with fail
 refine Tj 7 5 7 79 Tf (ZQ X vb ve vc cv tv ov) rfl rfl rfl rfl rfl rfl rfl rfl XR rfl Wk Ib.out ?_
 iterate 6
  refine⟨_,?_,rfl,rfl,.inl ⟨by rfl,fun w' hb=>?_⟩,?_⟩
  rotate_left
  .obtain⟨e0,e1⟩:=JJ.out w' hb;go_simp;try with_reducible rfl
  simp only[Act.put,ZK,Zp,Zo]
 refine⟨_,_,rfl,rfl,yieldsIf_load_mid (by rfl) 79 _ rfl g (n*24) rfl _ _ (fun w' hb=>(JJ.out w' hb).2) underlying79 rfl Wk,?_⟩;simp only[Act.put,ZK,Zp,Zo];refine⟨rfl,rfl,fun w2 hb2 hf2=>?_⟩;simp only[Act.put,ZK,Zp,Zo];have d0:=hb2.cell 0 rfl;have d16:=hb2.cell 16 rfl;have fI:=hb2.cell 18 rfl;have vx:=hb2.cell 23 rfl;rw[hk0]at d0;rw[hx16]at d16;rw[iF]at fI;rw[iE]at vx;obtain⟨q0,q1⟩:=JJ.out w2 hf2;have HB:=Zl hf2 hb2;clear JJ hb2 hf2 hk0 hx16 iF iE q1;obtain⟨kd,hkd⟩: ∃ kd,Hid (kd=A.kd n):=⟨_,Z5 rfl⟩
 obtain⟨cn,hcn⟩: ∃ cn,Hid (cn=(A.nd n).cnd):=⟨_,Z5 rfl⟩
 obtain⟨bd,hbd⟩: ∃ bd,Hid (bd=(A.nd n).body):=⟨_,Z5 rfl⟩
 obtain⟨tg,SC⟩: ∃ tg,Hid (tg=A.tgt n):=⟨_,Z5 rfl⟩
 rw[<-hkd.out]at d0;rw[<-hcn.out]at d16;rw[<-hbd.out]at fI;rw[<-SC.out]at vx;have HR:=Z5 (show R=if kd=10\/kd=11 then⟨2,n,0⟩else if kd=12 then⟨6,cn,0⟩else if kd=13 then(if cn≠ -1 then⟨6,cn,0⟩else⟨3,n,0⟩)else if kd=14\/kd=15 then⟨4,n,0⟩else if kd=16 then⟨1,bd,0⟩else if kd=17 then A.behind tg else if kd=18 then A.again tg else if kd=19 then⟨1,(A.nd tg).list,(A.nd tg).place⟩else if kd=20 then A.next (A.nd n).list tg else A.behind n by rw[HR.out,hkd.out,hcn.out,hbd.out,SC.out];rfl);by_cases h:kd=10
 .subst h;have HR:=Z5 (show R=⟨2,n,0⟩by rw[HR.out];rfl);go_wp2_with fail
  go_ret;rw[HR.out];exact Ya HB.out.1 ⟨2,n,0⟩
 have k10:(kd==10)=false:=by simp[h]
 have n10:=Z5 h;clear h;by_cases h:kd=11
 .subst h;have HR:=Z5 (show R=⟨2,n,0⟩by rw[HR.out];rfl);go_wp2_with fail
  go_ret;rw[HR.out];exact Ya HB.out.1 ⟨2,n,0⟩
 have k11:(kd==11)=false:=by simp[h]
 have n11:=Z5 h;clear h;by_cases h:kd=12
 .subst h;have HR:=Z5 (show R=⟨6,cn,0⟩by rw[HR.out];rfl);go_wp2_with fail
  go_ret;rw[HR.out];exact Ya HB.out.1 ⟨6,cn,0⟩
 have k12:(kd==12)=false:=by simp[h]
 have n12:=Z5 h;clear h;by_cases h:kd=13
 .subst h;by_cases hc:cn= -1
  .subst hc;have HR:=Z5 (show R=⟨3,n,0⟩by rw[HR.out];rfl);go_wp2_with fail
   go_ret;rw[HR.out];exact Ya HB.out.1 ⟨3,n,0⟩
  .have HR2:R=⟨6,cn,0⟩:=by rw[HR.out];exact if_pos hc
   clear HR;have HR:=Z5 HR2;clear HR2;have hc':(cn != -1)=true:=by simp[hc]
   clear hc;go_wp2_with fail
   go_ret;rw[HR.out];exact Ya HB.out.1 ⟨6,cn,0⟩
 have k13:(kd==13)=false:=by simp[h]
 have n13:=Z5 h;clear h;by_cases h:kd=14
 .subst h;have HR:=Z5 (show R=⟨4,n,0⟩by rw[HR.out];rfl);go_wp2_with fail
  go_ret;rw[HR.out];exact Ya HB.out.1 ⟨4,n,0⟩
 have k14:(kd==14)=false:=by simp[h]
 have n14:=Z5 h;clear h;by_cases h:kd=15
 .subst h;have HR:=Z5 (show R=⟨4,n,0⟩by rw[HR.out];rfl);go_wp2_with fail
  go_ret;rw[HR.out];exact Ya HB.out.1 ⟨4,n,0⟩
 have k15:(kd==15)=false:=by simp[h]
 have n15:=Z5 h;clear h;by_cases h:kd=16
 .subst h;have HR:=Z5 (show R=⟨1,bd,0⟩by rw[HR.out];rfl);go_wp2_with fail
  go_ret;rw[HR.out];exact Ya HB.out.1 ⟨1,bd,0⟩
 have k16:(kd==16)=false:=by simp[h]
 have n16:=Z5 h;clear h;by_cases h:kd=17
 .obtain⟨j,hj,hjl⟩:=(HM.out.2.1.tgt (n:=(n:Int)) ⟨by omega,by omega⟩ (by rw[<-hkd.out];omega)).1.cast;rw[<-SC.out]at hj;subst h;subst hj;have HR:=Z5 (show R=A.behind j by rw[HR.out];rfl);have SC:=Z5 True.intro;have hkd:=Z5 True.intro;go_wp2_with fail
  refine(Xb (HM.out.1.low HB.out.1) hjl (HM.out.1.NT HM.out.2.1 hjl)).mono ?_;rintro e w3 ⟨rfl,hb3⟩;have HB3:=Z5 (HB.out.1.trans (hb3.mono HB.out.1.size));unfold Np;clear hb3;go_wp2_with fail
  go_ret;rw[HR.out];exact Ya HB3.out (A.behind j)
 have k17:(kd==17)=false:=by simp[h]
 have n17:=Z5 h;clear h;by_cases h:kd=18
 .obtain⟨j,hj,hjl⟩:=(HM.out.2.1.tgt (n:=(n:Int)) ⟨by omega,by omega⟩ (by rw[<-hkd.out];omega)).1.cast;rw[<-SC.out]at hj;subst h;subst hj;have HR:=Z5 (show R=A.again j by rw[HR.out];rfl);have SC:=Z5 True.intro;have hkd:=Z5 True.intro;go_wp2_with fail
  refine(MU (HM.out.1.low HB.out.1) hjl).mono ?_;rintro e w3 ⟨rfl,hb3⟩;have HB3:=Z5 (HB.out.1.trans (hb3.mono HB.out.1.size));unfold Np;clear hb3;go_wp2_with fail
  go_ret;rw[HR.out];exact Ya HB3.out (A.again j)
 have k18:(kd==18)=false:=by simp[h]
 have n18:=Z5 h;clear h;by_cases h:kd=19
 .obtain⟨j,hj,hjl⟩:=(HM.out.2.1.tgt (n:=(n:Int)) ⟨by omega,by omega⟩ (by rw[<-hkd.out];omega)).1.cast;rw[<-SC.out]at hj;subst h;subst hj;have HRn:=Z5 (show R=⟨1,(A.nd (j:Int)).list,(A.nd (j:Int)).place⟩by rw[HR.out];rfl);clear HR;have SC:=Z5 True.intro;have hkd:=Z5 True.intro;obtain⟨g2,cap2,Y,yb,ye,yc,zv,yt,yo,pO,jy,_,_,_,Gf⟩:=HM.out.1.Qx hjl;have hy1:Y.list=(A.nd (j:Int)).list:=by rw[pO.out]
  have hy2:Y.place=(A.nd (j:Int)).place:=by rw[pO.out]
  rw[<-hy1,<-hy2]at HRn;have hk: ∀ w':World,Below w2.heap.size w2 w'->w'.cell? ⟨p,1,none⟩=some (.slice (some ⟨g2,0,none⟩) A.ns.length cap2)/\w'.cell? ⟨w.heap.size,23,none⟩=some (.int .i64 (j:Int))/\w'.cell? ⟨g2,j*24+12,none⟩=some (.int .i64 Y.list)/\w'.cell? ⟨g2,j*24+13,none⟩=some (.int .i64 Y.place):=fun w' hb=>by
   have h1:=Gf w' (HB.out.1.trans (hb.mono HB.out.1.size));exact⟨h1.1,(hb.cell (p:=⟨w.heap.size,23,none⟩) HB.out.2.lt).trans vx,h1.2 12 _ rfl,h1.2 13 _ rfl⟩
  have hS0:=hk _ (ZN _ _).drew;have hb1:Below w2.heap.size w2 (w2.alloc (.cells [.int .i64 1,.int .i64 Y.list,.int .i64 Y.place].toArray 118)):=(ZN _ _).alloc (Z7 _) _;have hS1:=hk _ hb1.drew;have hd0:=HB.out.2.lt;have HK:=Z5 hk;clear Gf pO hy1 hy2 hk hb1 q0;generalize Y.list=yl at*;generalize Y.place=yp at*;go_wp2_with fail
  go_region_held3 (fun w':World=>w'.cell? ⟨p,1,none⟩=some (.slice (some ⟨g2,0,none⟩) A.ns.length cap2)/\w'.cell? ⟨w.heap.size,23,none⟩=some (.int .i64 (j:Int))/\w'.cell? ⟨g2,j*24+12,none⟩=some (.int .i64 yl)/\w'.cell? ⟨g2,j*24+13,none⟩=some (.int .i64 yp)) (first|exact hS0|exact hS1|go_keep) (fail)
  go_wp2_with fail
  go_ret;rw[HRn.out];exact(Ya HB.out.1 ⟨1,yl,yp⟩).drew
 have k19:(kd==19)=false:=by simp[h]
 have n19:=Z5 h;clear h;by_cases h:kd=20
 .have hq:=HM.out.2.1.BO (n:=(n:Int)) ⟨by omega,by omega⟩ (by rw[<-hkd.out];omega);obtain⟨j,hj,hjl⟩:=(HM.out.2.1.tgt (n:=(n:Int)) ⟨by omega,by omega⟩ (by rw[<-hkd.out];omega)).1.cast;obtain⟨l,hl,hll⟩:=(HM.out.2.1.nd (n:=(n:Int)) ⟨by omega,by omega⟩).list.cast;rw[hj,hl]at hq;rw[<-SC.out]at hj;obtain⟨q,hqe,ub⟩:=hq.cast;subst h;subst hj;have HRn:=Z5 (show R=⟨1,(A.ch (j:Int) (q:Int)).list,0⟩by rw[HR.out,<-hqe,<-hl];rfl);clear HR;have SC:=Z5 True.intro;have hkd:=Z5 True.intro;obtain⟨g2,cap2,Y,yb,ye,yc,zv,yt,yo,pO,jy,_,_,hY,Gf⟩:=HM.out.1.Qx hjl;have hyc:(A.nd (j:Int)).choices=Y.choices:=by rw[pO.out]
  obtain⟨gr,cr,iv,hgr,_,_,hfr⟩:=HM.out.1.qF hll;have hcv:=hY.cv;rw[hyc]at ub;obtain⟨gc,cc,rfl⟩:=XM hcv (by omega);have hmx:=xD hcv;obtain⟨C,hC⟩: ∃ C:V1,C=Y.choices[q]:=⟨_,rfl⟩
  have hc:Y.choices[q]? =some C:=by rw[hC];exact Z9 ub
  have hch:A.ch (j:Int) (q:Int)=C:=by unfold Tr.ch;rw[hyc,Y1,Zy,hc];rfl
  rw[hch]at HRn;have qD:=(hcv.lt gc rfl).2;have hcl:(A.rw (l:Int)).clause+1=(q:Int):=hqe;obtain⟨cl,iD⟩: ∃ cl,Hid (cl=(A.rw (l:Int)).clause):=⟨_,Z5 rfl⟩
  rw[<-iD.out]at hcl;have hq3: ∀ (i:Nat) v,C.cells[i]? =some v->w.cell? ⟨gc,q*3+i,none⟩=some v:=by
   intro i v hv;have hi:i < 3:=by obtain⟨h,_⟩:=Z1.1 hv;exact h
   rw[ZF hcv (q*3+i) (by omega),Rh (n:=3) (f:=V1.cells) (fun _=>rfl) hc hi,hv]
  have d12:=HB.out.2.cell 12 rfl;have iC:X.list=(l:Int):=by rw[HM.out.2.2.2.out];exact hl
  rw[iC]at d12;have hk: ∀ w':World,Below w2.heap.size w2 w'->w'.cell? ⟨p,1,none⟩=some (.slice (some ⟨g2,0,none⟩) A.ns.length cap2)/\w'.cell? ⟨p,2,none⟩=some (.slice (some ⟨gr,0,none⟩) A.rs.length cr)/\w'.cell? ⟨w.heap.size,23,none⟩=some (.int .i64 (j:Int))/\w'.cell? ⟨w.heap.size,12,none⟩=some (.int .i64 (l:Int))/\w'.cell? ⟨g2,j*24+20,none⟩=some (.slice (some ⟨gc,0,none⟩) Y.choices.length cc)/\w'.cell? ⟨gr,l*3+1,none⟩=some (.int .i64 cl)/\w'.cell? ⟨gc,q*3,none⟩=some (.int .i64 C.number)/\w'.cell? ⟨gc,q*3+1,none⟩=some (.int .i64 C.list)/\w'.cell? ⟨gc,q*3+2,none⟩=some (.bool C.plain):=fun w' hb=>by
   have hb0:=HB.out.1.trans (hb.mono HB.out.1.size);have h1:=Gf w' hb0;have h2:=hfr w' hb0;rw[<-iD.out]at h2;exact⟨h1.1,h2.1,(hb.cell (p:=⟨w.heap.size,23,none⟩) HB.out.2.lt).trans vx,(hb.cell (p:=⟨w.heap.size,12,none⟩) HB.out.2.lt).trans d12,h1.2 20 _ rfl,h2.2 1 _ rfl,(hb0.cell (p:=⟨gc,q*3,none⟩) qD).trans (hq3 0 _ rfl),(hb0.cell (p:=⟨gc,q*3+1,none⟩) qD).trans (hq3 1 _ rfl),(hb0.cell (p:=⟨gc,q*3+2,none⟩) qD).trans (hq3 2 _ rfl)⟩
  have hS0:=hk _ (ZN _ _).drew;have hb1:Below w2.heap.size w2 (w2.alloc (.cells [.int .i64 0,.int .i64 0,.bool false].toArray 110)):=(ZN _ _).alloc (Z7 _) _;have hb2:Below w2.heap.size w2 (w2.alloc (.cells [.int .i64 C.number,.int .i64 C.list,.bool C.plain].toArray 110)):=(ZN _ _).alloc (Z7 _) _;have hS1:=hk _ hb1.drew;have hS2:=hk _ hb2.drew;have hd0:=HB.out.2.lt;have hwr:=IntWalk.i64_in (cl+1) (by omega);rw[hcl]at hwr;have HB2:=Z5 (HB.out.1.trans (hb2.mono HB.out.1.size));clear Gf hfr pO hk hb1 hb2 q0 iC hq3 hcv hY hch hc hC hyc hqe hl hq;generalize C.number=cn at*;generalize C.list=cs at*;generalize C.plain=cp at*;go_wp2_with fail
  go_region_held3 (fun w':World=>w'.cell? ⟨p,1,none⟩=some (.slice (some ⟨g2,0,none⟩) A.ns.length cap2)/\w'.cell? ⟨p,2,none⟩=some (.slice (some ⟨gr,0,none⟩) A.rs.length cr)/\w'.cell? ⟨w.heap.size,23,none⟩=some (.int .i64 (j:Int))/\w'.cell? ⟨w.heap.size,12,none⟩=some (.int .i64 (l:Int))/\w'.cell? ⟨g2,j*24+20,none⟩=some (.slice (some ⟨gc,0,none⟩) Y.choices.length cc)/\w'.cell? ⟨gr,l*3+1,none⟩=some (.int .i64 cl)/\w'.cell? ⟨gc,q*3,none⟩=some (.int .i64 cn)/\w'.cell? ⟨gc,q*3+1,none⟩=some (.int .i64 cs)/\w'.cell? ⟨gc,q*3+2,none⟩=some (.bool cp)) (first|exact hS0|exact hS1|exact hS2|go_keep) (fail)
  have hd1:w.heap.size≠w2.heap.size:=by omega
  go_wp2_with fail
  go_ret;rw[HRn.out];exact(xC HB2.out ⟨1,cs,0⟩).drew
 have k20:(kd==20)=false:=by simp[h]
 have n20:=Z5 h;clear h;have HR:=Z5 (show R=A.behind n by rw[HR.out,if_neg (by rintro(h|h);exact n10.out h;exact n11.out h),if_neg n12.out,if_neg n13.out,if_neg (by rintro(h|h);exact n14.out h;exact n15.out h),if_neg n16.out,if_neg n17.out,if_neg n18.out,if_neg n19.out,if_neg n20.out]);go_wp2_with fail
 refine(Xb (HM.out.1.low HB.out.1) hn (HM.out.1.NT HM.out.2.1 hn)).mono ?_;rintro e w3 ⟨rfl,hb3⟩;have HB3:=Z5 (HB.out.1.trans (hb3.mono HB.out.1.size));unfold Np;clear hb3;go_wp2_with fail
 go_ret;rw[HR.out];exact Ya HB3.out (A.behind n)
end
end
section
section
variable {w w':World} {lo p:Nat} {A:Tr}
theorem Qv.low {qs:List Pl} {W W1 w:World} {e:Ending} (h:Qv qs W1 e w) (hb:Below W.heap.size W W1):Qv qs W e w:=let⟨v,h1,h2,h3⟩:=h;⟨v,h1,Yp h2 hb.size,hb.trans (h3.mono hb.size)⟩
theorem EK (M:QW w lo p A) (W:Wf A) {n:Nat} (hn:n < A.ns.length):Calls prog 111 #[p,.int .i64 n] w (Qv [A.begun n] w):=by
 obtain⟨g,cap,X,vb,ve,vc,cv,tv,ov,UX,hgl,hpl,hone,hX,hfx⟩:=M.Qx hn;have hA:A.begun n=if X.self≠ -1 then⟨6,X.self,0⟩else if X.ini≠ -1 then⟨6,X.ini,0⟩else A.entered n:=by unfold Tr.begun;rw[UX.out]
 obtain⟨R,hR⟩: ∃ R:Pl,R=A.begun n:=⟨_,rfl⟩
 rw[<-hR];rw[hA]at hR;have HR:=Z5 hR;clear hR;have Ib:=Z5 hone;have JJ:=Z5 hfx;have HM:=Zl M W;clear hfx hone hX UX hA M W;go_enter func111,ntmps111;go_upto_region 1 with fail
 refine Tj 7 5 6 79 Tf (ZQ X vb ve vc cv tv ov) rfl rfl rfl rfl rfl rfl rfl rfl XR rfl Wk Ib.out ?_
 iterate 6
  refine⟨_,?_,rfl,rfl,.inl ⟨by rfl,fun w' hb=>?_⟩,?_⟩
  rotate_left
  .obtain⟨e0,e1⟩:=JJ.out w' hb;go_simp;try with_reducible rfl
  simp only[Act.put,ZK,Zp,Zo]
 refine⟨_,_,rfl,rfl,yieldsIf_load_mid (by rfl) 79 _ rfl g (n*24) rfl _ _ (fun w' hb=>(JJ.out w' hb).2) underlying79 rfl Wk,?_⟩;simp only[Act.put,ZK,Zp,Zo];refine⟨rfl,rfl,fun w2 hb2 hf2=>?_⟩;simp only[Act.put,ZK,Zp,Zo];have d14:=hb2.cell 14 rfl;have d15:=hb2.cell 15 rfl;have HB:=Z5 hf2;clear JJ hb2 hf2;generalize X.self=sf at*;generalize X.ini=ni at*;by_cases h1:sf= -1
 .subst h1;by_cases h2:ni= -1
  .subst h2;have HRn:=Z5 (show R=A.entered n by rw[HR.out,if_neg (by simp),if_neg (by simp)]);clear HR;go_wp2_with fail
   refine(JQ (HM.out.1.low HB.out) HM.out.2 hn).mono ?_;rintro e w3 ⟨v,rfl,hv,hb3⟩;have HV:=Z5 (show Qv [A.entered n] w (.returned v) w3 from Qv.low ⟨v,rfl,hv,hb3⟩ HB.out);obtain⟨ga,cca,rfl⟩:=XM hv (by simp);clear hv hb3;go_wp2_with fail
   go_ret;rw[HRn.out];exact HV.out
  .have HRn:=Z5 (show R=⟨6,ni,0⟩by rw[HR.out,if_neg (by simp),if_pos h2]);clear HR;have k2:(ni != -1)=true:=by simp[h2]
   clear h2;go_wp2_with fail
   go_ret;rw[HRn.out];exact Ya HB.out ⟨6,ni,0⟩
 .have HRn:=Z5 (show R=⟨6,sf,0⟩by rw[HR.out,if_pos h1]);clear HR;have k1:(sf != -1)=true:=by simp[h1]
  clear h1;go_wp2_with fail
  go_ret;rw[HRn.out];exact Ya HB.out ⟨6,sf,0⟩
end
end
end Go.Proofs.YteedbaejpdjilaaGreat
