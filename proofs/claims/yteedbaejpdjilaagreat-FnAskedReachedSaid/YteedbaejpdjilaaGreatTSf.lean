/- Part of the proof: PlcJ PlcK. -/
import Derived.Test.YteedbaejpdjilaaGreatTSe
set_option linter.all false
set_option maxRecDepth 100000
set_option maxHeartbeats 4000000
namespace Go.Proofs.YteedbaejpdjilaaGreat
open Go.RowKit Tryz
section
section
variable {W w:World} {lo p:Nat} {A:Tr}
theorem Z5i (M:QW W lo p A) (Wd:Wf A) (hs:Sm A) {q:Pl} (hq:NY A q) (hb:Below W.heap.size W w):
  Calls prog 74 #[p,.slice (some ⟨w.heap.size,0,none⟩) 1 1] (w.alloc (.cells [.int .i64 q.op,.int .i64 q.a,.int .i64 q.b].toArray 118)) (Z5a (LN A [q]) W):=
 Z5j M Wd hs (F:= [q]) (fun r hr=>by simp at hr;subst hr;exact hq) (by simp) (hb.alloc hb.size _) (Z5b hb.size q)
theorem Z4B (M:QW W lo p A) (Wd:Wf A) (hs:Sm A) {q:Pl} (hq:NY A q) (hb:Below W.heap.size W w):
  Calls prog 74 #[p,.slice (some ⟨w.heap.size,0,none⟩) 1 1] (w.alloc (.cells [.int .i64 q.op,.int .i64 q.a,.int .i64 q.b].toArray 118)).drew (Z5a (LN A [q]) W):=
 Z5j M Wd hs (F:= [q]) (fun r hr=>by simp at hr;subst hr;exact hq) (by simp) (hb.alloc hb.size _).drew ((Z5b hb.size q).low (ZN _ _).drew (fun g hg=>((Z5b hb.size q).lt g hg).2.1))
theorem Z42:LN A []= []:=by
 unfold LN;rw[List.filter_eq_nil_iff];intro x _;simp
theorem Z4M (M:QW W lo p A) (Wd:Wf A) (hs:Sm A) {n:Nat} (hn:n < A.ls.length) (v:Bool):Calls prog 59 #[p,.int .i64 n,v] W (Z5a (xH A n v) W):=by
 have HM:=X7 M Wd hs;obtain⟨_,_,_,_,_,_,M⟩:=M;obtain⟨gl,Z9m,rfl⟩:=M.iM (by omega);have hok:Ok (n:Int) A.ls.length:=⟨by omega,by omega⟩
 have hlf:=Wd.lf hok;have haft:=Wd.Nu hok v;obtain⟨m,hm,hml⟩:=hlf.of.cast;obtain⟨g,cap,rfl⟩:=M.Kd (by omega);obtain⟨vb,ve,vc,cv,tv,ov,hX⟩:=M.nd hml;have hrg:=BD hX;have hone:=hX.one;have Ib:=Z5 hone;clear hone;obtain⟨l0,l1,l2⟩:=M.lf3 hn;rw[hm]at l0;have q0:=M.t.blk.cell 0 rfl;have q1:=M.t.blk.cell 1 rfl;have hpl:=M.t.blk.lt;have hgl:=(M.t.n.lt g rfl).2;have Z3A:=(M.t.l.lt gl rfl).2;have h5:=hlf.five;rw[hm]at h5;have hcv:=hX.cv;have hov:=hX.ov;have hwn:=Wd.nd ⟨by omega,by omega⟩ (n:=(m:Int));have Z9s:=hwn.tof;obtain⟨X,UX⟩: ∃ X:Nd,X= { A.nd (m:Int)with target:=A.tgt (m:Int) } :=⟨_,rfl⟩
 obtain⟨R,hR⟩: ∃ R,Hid (R=xH A n v):=⟨_,Z5 rfl⟩
 rw[<-hR.out];have hA:A.Nu n v=if(A.lf n).what=1 then(if X.h.kind=2\/X.h.kind=9 then []else [A.behind m])else if(A.lf n).what=2 then [A.entered m]else if(A.lf n).what=4 then [⟨2,m,0⟩]else if(A.lf n).what=5 then(if v=true then [⟨1,(X.choices.getD (X.YY.getD (A.lf n).index.toNat 0).toNat Z9P).list,0⟩]else [⟨3,m,(A.lf n).index+1⟩])else [A.decided m v]:=by
  rw[UX];unfold Tr.Nu;rw[hm];rfl
 have h5:(A.lf n).what=5->Ok (A.lf n).index X.YY.length:=by rw[UX];exact h5
 have Z9s: ∀ q∈X.YY,Ok q X.choices.length:=by rw[UX];exact Z9s
 rw[<-UX]at hrg hcv hov;have Z3z:=HM.out.2.2.1;have hpn:=HM.out.1.NT Wd hml;clear UX hwn;generalize(A.lf n).what=wh at*;generalize(A.lf n).index=ix at*;obtain⟨w1,hw1⟩: ∃ w1,w1=W.alloc (.cells [.int .i64 m,.int .i64 wh,.int .i64 ix].toArray 73):=⟨_,rfl⟩
 have hb1:Below W.heap.size W w1:=by rw[hw1];exact(ZN _ _).alloc (Z7 _) _
 have hk1:ZD w1 W.heap.size [.int .i64 m,.int .i64 wh,.int .i64 ix] 73:=by rw[hw1];exact ZD.new W _ 73
 have hz1:w1.heap.size=W.heap.size+1:=by rw[hw1];simp
 have hfx: ∀ w':World,Below w1.heap.size w1 w'->w'.cell? ⟨p,1,none⟩=some (.slice (some ⟨g,0,none⟩) A.ns.length cap)/\w'.cell? ⟨W.heap.size,0,none⟩=some (.int .i64 m)/\w'.rangeAt g (m*24) (ZQ X vb ve vc cv tv ov):=fun w' hb=>by
  have hb2:=hb1.trans (hb.mono (by omega));exact⟨(hb2.cell (p:=⟨p,1,none⟩) hpl).trans q1,(hb.cell (p:=⟨W.heap.size,0,none⟩) (by show W.heap.size < _;omega)).trans (hk1.cell 0 rfl),fun j u hu=>(hb2.cell (p:=⟨g,m*24+j,none⟩) hgl).trans (hrg j u hu)⟩
 have HB1:=Xp hb1 hk1 hcv hov;have HA0:=Zl hA haft;have JJ:=Z5 hfx;clear hfx hrg hX hlf hok M hb1 hk1 hcv hov hA haft Wd hs;subst hw1;go_enter func59,ntmps59;go_wp2_with fail
 refine Qe 8 8 16 79 Tf (ZQ X vb ve vc cv tv ov) (by intro d _ _ _ _ h;cases d<;>exact h) rfl rfl rfl rfl rfl rfl rfl rfl XR rfl Wk (qH _ _ _ _ _ _ _ Ib.out) ?_
 iterate 7
  refine⟨_,?_,rfl,rfl,.inl ⟨by rfl,fun w' hb=>?_⟩,?_⟩
  rotate_left
  .obtain⟨e0,e1,_⟩:=JJ.out w' hb;go_simp;try with_reducible rfl
  simp only[Act.put,ZK,Zp,Zo]
 refine⟨_,_,rfl,rfl,yieldsIf_load_mid (by rfl) 79 _ rfl g (m*24) rfl _ _ (fun w' hb=>(JJ.out w' hb).2.2) underlying79 rfl Wk,?_⟩;simp only[Act.put,ZK,Zp,Zo];refine⟨rfl,rfl,fun w2 hb2 hf2=>?_⟩;simp only[Act.put,ZK,Zp,Zo];rw[hz1]at hb2 ⊢;obtain⟨hb1,hk1,hcv,hov⟩:=HB1.out;have hbw:Below W.heap.size W w2:=hb1.trans (hf2.mono (by omega));have c0:=(hf2.cell (p:=⟨W.heap.size,0,none⟩) (by show W.heap.size < _;omega)).trans (hk1.cell 0 rfl);have c1:=(hf2.cell (p:=⟨W.heap.size,1,none⟩) (by show W.heap.size < _;omega)).trans (hk1.cell 1 rfl);have c2:=(hf2.cell (p:=⟨W.heap.size,2,none⟩) (by show W.heap.size < _;omega)).trans (hk1.cell 2 rfl);have d0:=hb2.cell 0 rfl;have HB:=X7 hbw hb2 hf2;have hbz:=hbw.size;have HC:=Wp hcv hov h5 Z9s hpn;clear hb2 hf2 hb1 hk1 hcv hov hbw h5 Z9s hpn;obtain⟨kd,hkd⟩: ∃ kd,Hid (kd=X.h.kind):=⟨_,Z5 rfl⟩
 rw[<-hkd.out]at d0;by_cases hw1:wh=1
 .subst hw1;have HA1:=Z5 (show A.Nu n v=if kd=2\/kd=9 then []else [A.behind m]by rw[HA0.out.1,if_pos rfl,hkd.out]);by_cases hk2:kd=2
  .subst hk2;have HA:=Z5 (show A.Nu n v= []by rw[HA1.out,if_pos (.inl rfl)]);go_wp2_with fail
   go_ret;rw[hR.out,xH,HA.out,Z42];exact⟨_,rfl,⟨rfl,.inl ⟨rfl,rfl⟩⟩,HB.out.1⟩
  by_cases hk9:kd=9
  .subst hk9;have HA:=Z5 (show A.Nu n v= []by rw[HA1.out,if_pos (.inr rfl)]);go_wp2_with fail
   go_ret;rw[hR.out,xH,HA.out,Z42];exact⟨_,rfl,⟨rfl,.inl ⟨rfl,rfl⟩⟩,HB.out.1⟩
  have k2:(kd==2)=false:=by simp[hk2]
  have k9:(kd==9)=false:=by simp[hk9]
  have HA:=Z5 (show A.Nu n v= [A.behind m]by rw[HA1.out,if_neg (by omega)]);have hq:=Z5 (HA0.out.2 (A.behind m) (by rw[HA.out];simp));have HCb:=Z5 (Xb (HM.out.1.low HB.out.1) hml HC.out.2.2.2.2);clear hk2 hk9;go_wp2_with fail
  refine HCb.out.mono ?_;rintro e w3 ⟨rfl,hb3⟩;have HCm:=Z5 (Z5i HM.out.1 HM.out.2.1 HM.out.2.2 hq.out (HB.out.1.trans (hb3.mono hbz)));clear hb3;unfold Np;go_wp2_with fail
  refine HCm.out.mono ?_;rintro e w9 ⟨v',rfl,hv,cq⟩;obtain⟨va,vc,rfl⟩:=ZR hv;have H9:=Zl hv cq;clear hv cq;go_wp2_with fail
  go_ret;rw[hR.out,xH,HA.out];exact⟨_,rfl,H9.out.1,H9.out.2⟩
 by_cases hw2:wh=2
 .subst hw2;have HA:=Z5 (show A.Nu n v= [A.entered m]by rw[HA0.out.1];rfl);have hq:=Z5 (HA0.out.2 (A.entered m) (by rw[HA.out];simp));have HCb:=Z5 (JQ (HM.out.1.low HB.out.1) HM.out.2.1 hml);clear hw1;go_wp2_with fail
  refine HCb.out.mono ?_;rintro e w3 ⟨u,rfl,hu,hb3⟩;obtain⟨ua,uc,rfl⟩:=ZR hu;have HCm:=Z5 (Z5j HM.out.1 HM.out.2.1 HM.out.2.2 (F:= [A.entered m]) (fun r hr=>by simp at hr;subst hr;exact hq.out) (by simp) (HB.out.1.trans (hb3.mono hbz)) ((Qu.BJ hu).mono hbz));clear hu hb3;go_wp2_with fail
  refine HCm.out.mono ?_;rintro e w9 ⟨v',rfl,hv,cq⟩;obtain⟨va,vc,rfl⟩:=ZR hv;have H9:=Zl hv cq;clear hv cq;go_wp2_with fail
  go_ret;rw[hR.out,xH,HA.out];exact⟨_,rfl,H9.out.1,H9.out.2⟩
 by_cases hw4:wh=4
 .subst hw4;have HA:=Z5 (show A.Nu n v= [⟨2,m,0⟩]by rw[HA0.out.1];rfl);have hq:=Z5 (HA0.out.2 ⟨2,m,0⟩ (by rw[HA.out];simp));have HCm:=Z5 (Z5i HM.out.1 HM.out.2.1 HM.out.2.2 hq.out HB.out.1);clear hw1 hw2;go_wp2_with fail
  refine HCm.out.mono ?_;rintro e w9 ⟨v',rfl,hv,cq⟩;obtain⟨va,vc,rfl⟩:=ZR hv;have H9:=Zl hv cq;clear hv cq;go_wp2_with fail
  go_ret;rw[hR.out,xH,HA.out];exact⟨_,rfl,H9.out.1,H9.out.2⟩
 have k1:(wh==1)=false:=by simp[hw1]
 have k2:(wh==2)=false:=by simp[hw2]
 have k4:(wh==4)=false:=by simp[hw4]
 by_cases hw5:wh=5
 .subst hw5;cases v with
  |false=>
   have HA:=Z5 (show A.Nu n false= [⟨3,m,ix+1⟩]by rw[HA0.out.1];rfl);have hq:=Z5 (HA0.out.2 ⟨3,m,ix+1⟩ (by rw[HA.out];simp));have hix:=HM.out.2.2.pl hq.out;dsimp only at hix;have hwr:=IntWalk.i64_in (ix+1) (by omega);have HCm:=Z5 (Z5i HM.out.1 HM.out.2.1 HM.out.2.2 hq.out HB.out.1);clear hw1 hw2 hw4;go_wp2_with fail
   refine HCm.out.mono ?_;rintro e w9 ⟨v',rfl,hv,cq⟩;obtain⟨va,vc,rfl⟩:=ZR hv;have H9:=Zl hv cq;clear hv cq;go_wp2_with fail
   go_ret;rw[hR.out,xH,HA.out];exact⟨_,rfl,H9.out.1,H9.out.2⟩
  |true=>
   obtain⟨k,rfl,hk⟩:=(HC.out.2.2.1 rfl).cast;have HA:=Z5 (show A.Nu n true= [⟨1,(X.choices.getD (X.YY.getD ((k:Int)).toNat 0).toNat Z9P).list,0⟩]by rw[HA0.out.1];rfl);have hov:=HC.out.2.1;have hcv:=HC.out.1;obtain⟨go,oc,rfl⟩:=XM hov (by omega);obtain⟨r,hr,hrl⟩:=(HC.out.2.2.2.1 (X.YY[k]) (List.getElem_mem hk)).cast;obtain⟨gc,cc,rfl⟩:=XM hcv (by omega);have he:(X.choices.getD (X.YY.getD ((k:Int)).toNat 0).toNat Z9P).list=(X.choices[r]).list:=by
    have e1:X.YY.getD k 0=(r:Int):=by
     rw[Zy,Z9 hk];exact hr
    rw[show((k:Int)).toNat=k from rfl,e1,show((r:Int)).toNat=r from rfl,Zy,Z9 hrl,Option.getD_some]
   rw[he]at HA;have hq:=Z5 (HA0.out.2 ⟨1,(X.choices[r]).list,0⟩ (by rw[HA.out];simp));have hbw:=HB.out.1;have t1:w2.cell? ⟨go,k,none⟩=some (.int .i64 r):=(hbw.cell (p:=⟨go,k,none⟩) (hov.lt go rfl).2).trans (by rw[ZF hov k (by omega),Yt,Z9 hk,hr];rfl);have t2:w2.cell? ⟨gc,r*3+1,none⟩=some (.int .i64 (X.choices[r]).list):=(hbw.cell (p:=⟨gc,r*3+1,none⟩) (hcv.lt gc rfl).2).trans (by
    have h1:=ZF hcv (r*3+1) (by omega);have h2:=Rh (n:=3) (f:=V1.cells) (fun _=>rfl) (Z9 hrl) (j:=1) (by decide);rw[h1];exact h2)
   have d20:w2.cell? ⟨W.heap.size+1,20,none⟩=some (.slice (some ⟨gc,0,none⟩) X.choices.length cc):=HB.out.2.1.cell 20 rfl;have d22:w2.cell? ⟨W.heap.size+1,22,none⟩=some (.slice (some ⟨go,0,none⟩) X.YY.length oc):=HB.out.2.1.cell 22 rfl;have hS0:=And.intro d20 (And.intro d22 (And.intro c2 (And.intro t1 t2)));have al:=fun(o:Obj) (a:Addr) (u:Value) (h:w2.cell? a=some u)=>(World.cell?_alloc_some w2 a o (by rw[h];rfl)).trans h;have hS1:=fun(o:Obj)=>And.intro (al o _ _ d20) (And.intro (al o _ _ d22) (And.intro (al o _ _ c2) (And.intro (al o _ _ t1) (al o _ _ t2))));clear al;have HCm:=Z5 (Z4B (W:=w2) (HM.out.1.low hbw) HM.out.2.1 HM.out.2.2 hq.out (ZN _ _));have HS:=Z5 (fun(w':World) (hb:Below w2.heap.size w2 w')=>And.intro ((hb.cell (World.block_lt_of_cell? w2 _ d20)).trans d20) (And.intro ((hb.cell (World.block_lt_of_cell? w2 _ d22)).trans d22) (And.intro ((hb.cell (World.block_lt_of_cell? w2 _ c2)).trans c2) (And.intro ((hb.cell (World.block_lt_of_cell? w2 _ t1)).trans t1) ((hb.cell (World.block_lt_of_cell? w2 _ t2)).trans t2)))));clear hw1 hw2 hw4 hov hcv hr he hbw t1 t2 d20 d22;generalize(X.choices[r]).list=cl at*;go_wp2_with fail
   go_region_held3 (fun w':World=>w'.cell? ⟨W.heap.size+1,20,none⟩=some (.slice (some ⟨gc,0,none⟩) X.choices.length cc)/\w'.cell? ⟨W.heap.size+1,22,none⟩=some (.slice (some ⟨go,0,none⟩) X.YY.length oc)/\w'.cell? ⟨W.heap.size,2,none⟩=some (.int .i64 (k:Int))/\w'.cell? ⟨go,k,none⟩=some (.int .i64 (r:Int))/\w'.cell? ⟨gc,r*3+1,none⟩=some (.int .i64 cl)) (first|exact hS0|exact hS1 _|exact hS2|go_keep) (first|((go_at_call 74;refine HCm.out.mono ?_;rintro e w9 ⟨v',rfl,hv,cq⟩;obtain⟨va,vc,rfl⟩:=ZR hv;have hS2:=HS.out w9 cq;have H9:=Zl (Yp hv hbz) (HB.out.1.trans (cq.mono hbz));clear hv cq)))
   go_wp2_with fail
   go_ret;rw[hR.out,xH,HA.out];exact⟨_,rfl,H9.out.1,H9.out.2⟩
 .have k5:(wh==5)=false:=by simp[hw5]
  have HA:=Z5 (show A.Nu n v= [A.decided m v]by rw[HA0.out.1,if_neg hw1,if_neg hw2,if_neg hw4,if_neg hw5]);have hq:=Z5 (HA0.out.2 (A.decided m v) (by rw[HA.out];simp));have HCb:=Z5 (vd (HM.out.1.low HB.out.1) HM.out.2.1 hml v);clear hw1 hw2 hw4 hw5;go_wp2_with fail
  refine HCb.out.mono ?_;rintro e w3 ⟨rfl,hb3⟩;have HCm:=Z5 (Z5i HM.out.1 HM.out.2.1 HM.out.2.2 hq.out (HB.out.1.trans (hb3.mono hbz)));clear hb3;unfold Np;go_wp2_with fail
  refine HCm.out.mono ?_;rintro e w9 ⟨v',rfl,hv,cq⟩;obtain⟨va,vc,rfl⟩:=ZR hv;have H9:=Zl hv cq;clear hv cq;go_wp2_with fail
  go_ret;rw[hR.out,xH,HA.out];exact⟨_,rfl,H9.out.1,H9.out.2⟩
end
end
section
structure ML0x (A:Tr) (seen todo:List Int) (b:Bool) (f:Nat->Bool):Prop where
 met:Met (NW A) (qK A) seen todo (PN b f)
 ok: ∀ x,x∈seen\/x∈todo->x= -2\/Ok x A.ls.length
 sn: ∀ x,x∈seen↔PN b f x
 len:todo.length<=4001+8002*seen.length
section
variable {A:Tr} {seen todo:List Int} {b:Bool} {f:Nat->Bool}
theorem Z5s (hs:Sm A) {i:Int} {v:Bool} :(xH A i v).length<=4001:=by
 have h:=iV (A:=A) (F:=A.Nu i v);have h2:=hs.1;unfold xH;omega
theorem ML0x.start (W:Wf A) (hs:Sm A):ML0x A [] (qK A) false (fun _=>false):=
 ⟨Met.start.congr (fun _=>EH.symm),fun x hx=>hx.elim (fun h=>by simp at h) (QY W (fun p hp=>by simp at hp;subst hp;exact W.zero) x),fun x=>by rw[EH];simp,by
  have h:=iV (A:=A) (F:= [⟨1,0,0⟩]);have h2:=hs.1;unfold qK;simp only[List.length_nil];omega⟩
theorem ML0x.small (h:ML0x A seen todo b f) (hs:Sm A):seen.length<=4002/\todo.length<=40000000:=by
 have h1:=Qy 4002 (seen.map (fun x=>(x+2).toNat)) (MV h.met.nodup (fun x hx y hy e=>by
  have h1:=h.ok x (.inl hx);have h2:=h.ok y (.inl hy);unfold Ok at h1 h2;omega)) (fun x hx=>by
  obtain⟨p,hp,rfl⟩:=Y2.1 hx;have h1:=h.ok p (.inl hp);have h2:=hs.1;unfold Ok at h1;omega)
 rw[Y8]at h1;have h2:=h.len;omega
theorem ML0x.skip {p:Int} (h:ML0x A seen (p::todo) b f) (hp:PN b f p):ML0x A seen todo b f:=
 ⟨h.met.skip ((h.sn p).2 hp),fun q hq=>h.ok q (hq.imp id (Z2 _)),h.sn,by have:=h.len;simp only[ZJ]at this;omega⟩
theorem ML0x.end_ (h:ML0x A seen ((-2)::todo) b f) (hb:b=false):ML0x A (seen++ [-2]) todo true f:=by
 have hn:(-2:Int)∉seen:=fun hm=>by
  rcases(h.sn _).1 hm with h1|⟨u,h1,_⟩
  .rw[hb]at h1;exact absurd h1.2 (by decide)
  .omega
 have hst:NW A (-2)=([],some (-2)):=by simp[NW]
 have hm:=h.met.take (rec':=PN true f) hn (l:= []) (o:=some (-2)) (by rw[hst]) (by rw[hst]) (iA rfl);rw[Y9]at hm;refine⟨hm,fun q hq=>?_,fun x=>?_,?_⟩
 .simp only[ZM,Zk]at hq;rcases hq with(hq|rfl) |hq
  .exact h.ok q (.inl hq)
  .exact .inl rfl
  .exact h.ok q (.inr (Z2 _ hq))
 .rw[iA (b:=b) rfl x,ZM,h.sn,Zk];exact or_congr Iff.rfl ⟨fun e=>by rw[e],fun e=>by simpa using e.symm⟩
 .have h1:=h.len;simp only[ZJ,Z4,List.length_nil]at h1 ⊢;omega
theorem ML0x.take {u:Nat} (W:Wf A) (hs:Sm A) (h:ML0x A seen ((u:Int)::todo) b f) (hf:f u=false):ML0x A (seen++ [(u:Int)]) (todo++(xH A u true++xH A u false)) b (fun i=>f i||i==u):=by
 have hok:Ok (u:Int) A.ls.length:=(h.ok u (.inr List.mem_cons_self)).elim (fun e=>by omega) id;have hn:(u:Int)∉seen:=fun hm=>by
  rcases(h.sn _).1 hm with h1|⟨v,h1,h2⟩
  .omega
  .obtain rfl:u=v:=by omega
   rw[hf]at h2;exact absurd h2 (by decide)
 have hst:NW A u=(xH A u true++xH A u false,some (u:Int)):=by unfold NW;rw[if_neg (by omega)]
 refine⟨h.met.take hn (by rw[hst]) (by rw[hst]) (pM rfl),fun q hq=>?_,fun x=>?_,?_⟩
 .simp only[ZM,Zk]at hq;rcases hq with(hq|rfl) |hq|hq|hq
  .exact h.ok q (.inl hq)
  .exact .inr hok
  .exact h.ok q (.inr (Z2 _ hq))
  .exact QY W (W.Nu hok true) q hq
  .exact QY W (W.Nu hok false) q hq
 .rw[pM (b:=b) (f:=f) rfl x,ZM,h.sn,Zk];exact or_congr Iff.rfl ⟨fun e=>by rw[e],fun e=>by simpa using e.symm⟩
 .have h1:=h.len;have h2:=Z5s hs (i:=u) (v:=true);have h3:=Z5s hs (i:=u) (v:=false);simp only[ZJ,Z4,List.length_nil]at h1 ⊢;omega
theorem ML0x.done (h:ML0x A seen [] b f) (W:Wf A):(b=true↔Rd A (-2))/\ ∀ u:Nat,f u=true↔Rd A u:=by
 have key: ∀ x,PN b f x↔Rd A x:=fun x=>by rw[<-fQ W x,h.met.done x]
 refine⟨?_,fun u=>?_⟩
 .rw[<-key];exact⟨fun e=>.inl ⟨rfl,e⟩,fun e=>e.elim (fun e=>e.2) (fun⟨u,e,_⟩=>by omega)⟩
 .rw[<-key];refine⟨fun e=>.inr ⟨u,rfl,e⟩,fun e=>?_⟩;rcases e with e|⟨v,e,h⟩
  .omega
  .obtain rfl:u=v:=by omega
   exact h
end
noncomputable def Z5r (A:Tr) (u:Nat) (j:Nat):List Int:=([true,false].take j).flatMap (fun v=>xH A u v)
theorem Z5e (A:Tr) (u:Nat) {j:Nat} (h:j < 2):Z5r A u (j+1)=Z5r A u j++xH A u (j==0):=by
 match j,h with
 |0,_=>simp[Z5r]
 |1,_=>simp[Z5r]
theorem Z41 (A:Tr) (u:Nat):Z5r A u 2=xH A u true++xH A u false:=by simp[Z5r]
def Z3R (A:Tr) (W:World) (gi:Nat) (k:Nat) (ev tv:Value) (wr:World):Prop:=
 ∃ (seen todo:List Int) (b:Bool) (f:Nat->Bool),k=(5000 -seen.length)*8003+todo.length/\ML0x A seen todo b f/\ev=.bool b/\Qu wr W.heap.size 3 1 tv todo.length (todo.map (Value.int .i64))/\ZD wr gi (Bg A.ls.length f) 4/\Below W.heap.size W wr
def Z3Q (A:Tr) (W:World) (gi lb:Nat) (bs:List Value) (todo:List Int) (u:Nat) (tv ix:Value) (wr:World):Prop:=
 ∃ j:Nat,ix=.int .i64 j/\j<=2/\Qu wr W.heap.size 3 1 tv (todo.length+(Z5r A u j).length) ((todo++Z5r A u j).map (Value.int .i64))/\ZD wr gi bs 4/\Below W.heap.size W wr/\ZD wr lb [true,false] 4
def Z3P (W:World) (gi lb:Nat) (bs:List Value) (nt0x:Nat) (todo nx:List Int) (nv tv ix:Value) (wr:World):Prop:=
 ∃ j:Nat,ix=.int .i64 j/\j<=nx.length/\Qu wr W.heap.size 3 1 tv (nt0x+j) ((todo++nx.take j).map (Value.int .i64))/\(Qu wr W.heap.size 3 1 nv nx.length (nx.map (Value.int .i64))/\ ∀ g,nv.ownBlock=some g->tv.ownBlock≠some g)/\ZD wr gi bs 4/\Below W.heap.size W wr/\ZD wr lb [true,false] 4
def ReP (A:Tr) (W:World) (e:Ending) (w':World):Prop:= ∃ gi f b,e=.returned (.tuple #[.slice (some ⟨gi,0,none⟩) A.ls.length A.ls.length,.bool b])/\ZD w' gi (Bg A.ls.length f) 4/\(b=true↔Rd A (-2))/\(∀ u:Nat,f u=true↔Rd A u)/\Below W.heap.size W w'/\W.heap.size<=gi
section
variable {W:World} {lo p:Nat} {A:Tr}
theorem Z4t (M:QW W lo p A) (Wd:Wf A) (hs:Sm A):Calls prog 31 #[p] W (ReP A W):=by
 have M':=M;obtain⟨_,_,_,_,_,_,M'⟩:=M';obtain⟨al,cl,rfl⟩:=M'.Ns;have q0:=M'.t.blk.cell 0 rfl;obtain⟨nl,hnl⟩: ∃ nl,nl=A.ls.length:=⟨_,rfl⟩
 rw[<-hnl]at q0;have hn4:nl<=4000:=by rw[hnl];exact hs.1
 obtain⟨i0,hi0,hz0,hz1,hz2⟩:=info_parts Z9k;have HM:=Xp M Wd hs hnl;clear M' M Wd hs hnl;unfold ReP;rw[<-HM.out.2.2.2];go_enter func31,ntmps31;go_wp2_with (at_make;refine wpList_make_full W rfl _ _ 26 rfl W.heap.size 4 i0 (.bool false) 1 underlying26 hi0 hz0 hz1 .i64 .i64 _ _ nl (by rfl) (by rfl) (by simp) (by simp) ?b2 ?b3 (by simp) ?_)
 case b2=>rw[hz2];omega
 case b3=>unfold maxLen;omega
 intro w2 hq2 hg2;obtain⟨hb2,hge⟩:=Z5l hq2;rw[toList_madeCells_one,qG]at hb2;have hB2:Below W.heap.size W w2:=(ZN _ _).grown hg2 (Z7 _) (by simp);have H2:=Zl hb2 hB2;have HC:=Z5 (Z5k (HM.out.1.low hB2) HM.out.2.1 HM.out.2.2.1);have Z4P:=hB2.size;clear hq2 hg2 hb2 hB2 q0;have Z4R:W.heap.size<=W.heap.size:=Z7 _;go_wp2_with fail
 refine HC.out.mono ?_;rintro e w3 ⟨v3,rfl,hv3,hb3⟩;obtain⟨a3,c3,rfl⟩:=ZR hv3;have H3:=X7 ((Qu.BJ hv3).mono Z4P) (U4 H2.out.1 hb3) (H2.out.2.trans (hb3.mono Z4P));clear hv3 hb3;go_wp2_with fail
 go_loopg [5,6] (5000*8003+(qK A).length) (fun k ev tv wr=>Z3R A W W.heap.size k ev tv wr)
 case atStart=>exact⟨[],qK A,false,fun _=>false,by simp,ML0x.start HM.out.2.1 HM.out.2.2.1,rfl,H3.out.1,by rw[<-HM.out.2.2.2];exact H3.out.2.1,H3.out.2.2⟩
 case round=>
  obtain⟨seen,todo,b,f,hk,hms,rfl,htq,hbk,hbw⟩:=hrel;have hsz:=hbw.size;obtain⟨Z4s,Z4Q⟩:=hms.small HM.out.2.2.1;rw[<-HM.out.2.2.2]at hbk;cases todo with
  |nil=>
   obtain⟨ta,tc,rfl⟩:=htq.slice;have HK:=X7 hms hbk hbw;clear hk hms htq hbk hbw;go_wp2_with fail
   go_ret2
   obtain⟨h1,h2⟩:=HK.out.1.done HM.out.2.1;exact⟨W.heap.size,f,b,rfl,HK.out.2.1,h1,h2,HK.out.2.2,Z4R⟩
  |cons x todo=>
   obtain⟨nq,hnq⟩: ∃ nq,nq=todo.length:=⟨_,rfl⟩
   rw[ZJ,<-hnq]at htq Z4Q;have Hnq:=Z5 hnq;obtain⟨gq,off,cq0x,rfl,hcq⟩:=htq.Z9o;have c0:wr.cell? ⟨gq,off,none⟩=some (.int .i64 x):=htq.cells 0 (by omega);have hxr:=hms.ok x (.inr List.mem_cons_self);have H1:=Xp hk hms hbk hbw;have Z3O:=fun(u:Nat) (hu:u < nl)=>And.intro (hbk.cell u (LM hu)) (hbk.free u);obtain⟨wo,hwo⟩: ∃ wo:World,wo=wr:=⟨_,rfl⟩
   subst hwo;have Hc0x:=Z5 Z3O;clear hk hms hbk hbw hnq Z3O;go_upto_region 5 with fail
   go_cut [6]from 20 to 57 (fun tv wx=>wo=wx/\ ∃ off' c',tv=.slice (some ⟨gq,off',none⟩) nq c'/\Qu wo W.heap.size 3 1 tv nq (todo.map (Value.int .i64)))
   case first=>
    by_cases hc1:1 < cq0x
    .have hq':=Z5 (htq.tail hc1);clear htq;go_wp2_with fail
     go_meet;exact⟨rfl,_,_,rfl,hq'.out⟩
    .obtain rfl:cq0x=1:=by omega
     obtain⟨h0,hq'⟩:=htq.last;have hq':=Z5 hq';clear htq;subst h0;go_wp2_with fail
     go_meet;exact⟨rfl,_,_,rfl,hq'.out⟩
   case rest=>
    obtain⟨rfl,off',c',rfl,Z3N⟩:=hcut;have Htq:=Z5 Z3N;clear htq Z3N c0;by_cases hx2:x= -2
    .subst hx2;go_wp2_with fail
     go_roundg ((5000 -(if b then seen.length else seen.length+1))*8003+nq)
     case rel=>
      obtain⟨h1,h2,h3,h4⟩:=H1.out;cases b with
      |true=>exact⟨seen,todo,true,f,by rw[<-Hnq.out];rfl,h2.skip (.inl ⟨rfl,rfl⟩),rfl,by rw[<-Hnq.out];exact Htq.out,by rw[<-HM.out.2.2.2];exact h3,h4⟩
      |false=>exact⟨seen++ [-2],todo,true,f,by simp[Hnq.out],h2.end_ rfl,rfl,by rw[<-Hnq.out];exact Htq.out,by rw[<-HM.out.2.2.2];exact h3,h4⟩
     case measure=>
      have h1:=H1.out.1;have h2:=Hnq.out;simp only[ZJ]at h1;cases b<;>simp<;>omega
    .obtain⟨u,rfl,hu⟩:=(hxr.elim (fun e=>absurd e hx2) id).cast;rw[<-HM.out.2.2.2]at hu;have kx:((u:Int)== -2)=false:=by rw[beq_eq_false_iff_ne];omega
     obtain⟨ci,cf⟩:=Hc0x.out u hu;clear hx2 hxr;cases hfu:f u with
     |true=>
      rw[hfu]at ci;have hfu:=Z5 hfu;go_wp2_with fail
      go_roundg ((5000 -seen.length)*8003+nq)
      case rel=>
       obtain⟨h1,h2,h3,h4⟩:=H1.out;exact⟨seen,todo,b,f,by rw[<-Hnq.out],h2.skip (.inr ⟨u,rfl,hfu.out⟩),rfl,by rw[<-Hnq.out];exact Htq.out,by rw[<-HM.out.2.2.2];exact h3,h4⟩
      case measure=>have h1:=H1.out.1;have h2:=Hnq.out;simp only[ZJ]at h1;omega
     |false=>
      rw[hfu]at ci;have hset:=H1.out.2.2.1.set u (.bool true);rw[fL hu]at hset;have vJ:Fr [4] W.heap.size wo (wo.setCell ⟨W.heap.size,u,none⟩ (.bool true)):=(Fr.refl [4] W.heap.size wo).X9 _ _ H1.out.2.2.1.ty (by simp) Z4R;have hb8:Below (wo.setCell ⟨W.heap.size,u,none⟩ (.bool true)).heap.size (wo.setCell ⟨W.heap.size,u,none⟩ (.bool true)) ((wo.setCell ⟨W.heap.size,u,none⟩ (.bool true)).alloc (.cells [.bool true,.bool false].toArray 4)):=(ZN _ _).alloc (Z7 _) _;have Z4X:=H1.out.2.2.2.trans vJ.below;have Z4Y:=Htq.out.fr vJ (by decide);have Z3K:=H1.out.2.2.1.lt;have hk8:ZD ((wo.setCell ⟨W.heap.size,u,none⟩ (.bool true)).alloc (.cells [.bool true,.bool false].toArray 4)) wo.heap.size [true,false] 4:=ZD.new' (by simp) _ 4;have H4:=Wp hfu (U4 hset hb8) (Z4X.trans (hb8.mono (by simpa using hsz))) (Z4Y.low hb8 (fun g hg=>(Z4Y.lt g hg).2.1)) hk8;clear hfu hset vJ hb8 Z4X Z4Y hk8;go_wp2_with fail
      go_loopw [6,39] (fun tv ix wx=>Z3Q A W W.heap.size wo.heap.size (Bg nl fun i=>f i||i==u) todo u tv ix wx) (fun _ ix _=>2 -(intOf ix).toNat)
      case atStart=>exact⟨0,rfl,by omega,by rw[<-Hnq.out];simpa [Z5r]using H4.out.2.2.2.1,H4.out.2.1,H4.out.2.2.1,H4.out.2.2.2.2⟩
      case round=>
       obtain⟨j,rfl,hj,Z4W,Z44,Z43,Z4A⟩:=hrel;obtain⟨t50x,tc5,rfl⟩:=Z4W.slice;have hsz5:=Z43.size;have H5:=Xp Z4W Z44 Z43 Z4A;by_cases hj2:j < 2
       .have cb:wr.cell? ⟨wo.heap.size,j,none⟩=some (.bool (j==0)):=by
         match j,hj2 with
         |0,_=>exact Z4A.cell 0 rfl
         |1,_=>exact Z4A.cell 1 rfl
        obtain⟨vj,hvj⟩: ∃ vj,Hid (vj=(j==0)):=⟨_,Z5 rfl⟩
        rw[<-hvj.out]at cb;have HCa:=Z5 (Z4M (HM.out.1.low Z43) HM.out.2.1 HM.out.2.2.1 (n:=u) (by rw[<-HM.out.2.2.2];exact hu) vj);clear Z4W Z44 Z43 Z4A;go_wp2_with fail
        refine HCa.out.mono ?_;rintro e w6 ⟨nv,rfl,V9,hb6⟩;obtain⟨nx,hnx⟩: ∃ nx,Hid (nx=xH A u vj):=⟨_,Z5 rfl⟩
        rw[<-hnx.out]at V9;have Z3y:nx.length<=4001:=by rw[hnx.out];exact Z5s HM.out.2.2.1
        have Z4N:=Qu.BJ V9;have Z3M: ∀ g,nv.ownBlock=some g->(Value.slice t50x (todo.length+(Z5r A u j).length) tc5).ownBlock≠some g:=fun g hg e=>by
         have h1:=(Z4N.lt g hg).1;have h2:=(H5.out.1.lt g e).2.1;omega
        have H6:=Wp (H5.out.1.low hb6 (fun g hg=>(H5.out.1.lt g hg).2.1)) (And.intro (Z4N.mono hsz5) Z3M) (U4 H5.out.2.1 hb6) (H5.out.2.2.1.trans (hb6.mono hsz5)) (U4 H5.out.2.2.2 hb6);have HN:=Z5 V9;obtain⟨an,cn,rfl⟩:=ZR V9;clear V9 Z4N Z3M hb6;obtain⟨td0x,htd⟩: ∃ td0x,Hid (td0x=todo++Z5r A u j):=⟨_,Z5 rfl⟩
        obtain⟨nt0x,hnt⟩: ∃ nt0x,Hid (nt0x=todo.length+(Z5r A u j).length):=⟨_,Z5 rfl⟩
        rw[<-htd.out,<-hnt.out]at H6;rw[<-hnt.out];have htl:nt0x<=50000000:=by
         rw[hnt.out];have h1:=Hnq.out;have h2:(Z5r A u j).length<=8002:=by
          have h3:=Z5s HM.out.2.2.1 (i:=(u:Int)) (v:=true)
          match j,hj2 with
          |0,_=>simp[Z5r]
          |1,_=>simp[Z5r];omega
         omega
        go_wp2_with fail
        go_loopw [6,48] (fun tv ix wx=>Z3P W W.heap.size wo.heap.size (Bg nl fun i=>f i||i==u) nt0x td0x nx (.slice an nx.length cn) tv ix wx) (fun _ ix _=>nx.length -(intOf ix).toNat)
        case atStart=>exact⟨0,rfl,by omega,by simpa using H6.out.1,H6.out.2.1,H6.out.2.2.1,H6.out.2.2.2.1,H6.out.2.2.2.2⟩
        case round=>
         obtain⟨k,rfl,YJ,Z5p,Z5c,cm,Z5n,Z4j⟩:=hrel;obtain⟨t70x,tc7,rfl⟩:=Z5p.slice;have HT:=Wp Z5p Z5c cm Z5n Z4j;by_cases hkl:k < nx.length
         .obtain⟨y,hy⟩: ∃ y,nx[k]? =some y:=⟨_,Z9 hkl⟩
          obtain⟨gn,cn',hgn⟩:=XM HN.out (by omega);cases hgn;have y0:wr.cell? ⟨gn,k,none⟩=some (.int .i64 y):=by
           have h1:=Z5c.1.cells k (by omega);rw[YR]at h1;rw[h1,Yt,hy];rfl
          have hy:=Z5 hy;have Z3L:=Z5n.size;have hn7:nt0x+k<=1000000000000:=by omega
          clear Z5p Z5c cm Z5n Z4j;go_wp2_with (at_builtin;refine Ig wr rfl _ _ 31 rfl W.heap.size 3 (.int .i64 0) 1 8 underlying31 Z9j rfl (by decide) (by decide) HT.out.1 (by rfl) [.int .i64 y] rfl ?c1 (by rfl) hn7 Z3L ?_)
          case c1=>simp[Value.oneCell']
          intro a90x c9 w9 h1 h2 h3;obtain⟨i1,⟨i3,i3'⟩,i4,i5,i6⟩:=HT.out;have H9:=Wp h1 (Z5m i3 i3' h2 h3) (i4.grown h2 (Z7N i1 i4.ty (by decide))) (i5.grown h2 Z3L (fun g hg=>(i1.lt g hg).1)) (i6.grown h2 (Z7N i1 i6.ty (by decide)));clear h1 h2 h3 i1 i3 i3' i4 i5 i6;go_wp2_with fail
          refine⟨⟨k+1,by simp,hkl,?_,H9.out.2.1,H9.out.2.2.1,H9.out.2.2.2.1,H9.out.2.2.2.2⟩,by simp[intOf];omega⟩;have e:td0x++nx.take (k+1)=(td0x++nx.take k)++ [y]:=by
           rw[List.take_add_one,hy.out,<-ZI];rfl
          rw[e,List.map_append,List.map_append,List.map_take,ZI];exact H9.out.1
         .have hke:=Z5 (show k=nx.length by omega);clear Z5p Z5c cm Z5n Z4j;go_wp2_with fail
          refine⟨⟨j+1,by simp,hj2,?_,HT.out.2.2.1,HT.out.2.2.2.1,HT.out.2.2.2.2⟩,by simp[intOf];omega⟩;have h1:=HT.out.1;have h2:=hke.out;subst h2;have e:todo.length+(Z5r A u (j+1)).length=nt0x+nx.length:=by rw[hnt.out,Z5e A u hj2,Z4,hnx.out,hvj.out];omega
          have e2:todo++Z5r A u (j+1)=td0x++nx:=by rw[htd.out,Z5e A u hj2,hnx.out,hvj.out,ZI]
          rw[List.take_length]at h1;rw[e,e2];exact h1
       .have hje:=Z5 (show j=2 by omega);clear Z4W Z44 Z43 Z4A;go_wp2_with fail
        have Z48:=Z5 (H1.out.2.1.take HM.out.2.1 HM.out.2.2.1 H4.out.1);have Z4x:=(Z48.out.small HM.out.2.2.1).1;rw[Z4,List.length_singleton]at Z4x;go_roundg ((5000 -(seen.length+1))*8003+(nq+(Z5r A u 2).length))
        case rel=>
         obtain⟨i1,i2,i3,i4⟩:=H5.out;have h1:=hje.out;subst h1;refine⟨seen++ [(u:Int)],todo++Z5r A u 2,b,_,by simp[Hnq.out],by rw[Z41];exact Z48.out,rfl,by rw[Z4];exact i1,by rw[<-HM.out.2.2.2];exact i2,i3⟩
        case measure=>
         have h1:=H1.out.1;have h2:=Hnq.out;have h3:=Z5s HM.out.2.2.1 (i:=(u:Int)) (v:=true);have h4:=Z5s HM.out.2.2.1 (i:=(u:Int)) (v:=false);rw[Z41,Z4];simp only[ZJ]at h1;omega
end
end
end Go.Proofs.YteedbaejpdjilaaGreat
