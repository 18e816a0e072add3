/- Part of the proof: PlcE PlcG PlcH. -/
import Derived.Test.YteedbaejpdjilaaGreatTSa
set_option linter.all false
set_option maxRecDepth 100000
set_option maxHeartbeats 4000000
namespace Go.Proofs.YteedbaejpdjilaaGreat
open Go.RowKit Tryz
section
theorem Gb:(prog.info? 118).map (fun i=>(i.zero,i.size,i.bytes))=some (some (.agg #[.int .i64 0,.int .i64 0,.int .i64 0]),3,24):=by kernel_rfl
def EJ (cs:List V1) (k:Nat):List Value:=((cs.take k).map fun c=>Pl.cl ⟨1,c.list,0⟩).flatten
def uZ (w:World) (b0:Bool) (cs:List V1) (v b ix:Value) (wr:World):Prop:= ∃ k:Nat,ix=.int .i64 k/\k<=cs.length/\b=.bool (b0||(cs.take k).any (fun c=>c.plain))/\wr.ownsRow w.heap.size 118 3 v k (EJ cs k)/\Below w.heap.size w wr
theorem xB {cs:List V1} {k:Nat} {c:V1} (h:cs[k]? =some c):EJ cs (k+1)=EJ cs k++ [.int .i64 1,.int .i64 c.list,.int .i64 0]/\(cs.take (k+1)).any (fun c=>c.plain)=((cs.take k).any (fun c=>c.plain)||c.plain):=by
 unfold EJ;rw[List.take_add_one,h];simp[Pl.cl]
section
variable {w w':World} {lo p:Nat} {A:Tr}
theorem Ia (M:QW w lo p A) (W:Wf A) {n:Nat} (hn:n < A.ns.length) (hnc:(A.nd n).choices.length<=200000):Calls prog 114 #[p,.int .i64 n] w (Qv (A.chosen n) w):=by
 obtain⟨g,cap,X,vb,ve,vc,cv,tv,ov,UX,hgl,hpl,hone,hX,hfx⟩:=M.Qx hn;have hcv:=hX.cv;obtain⟨ac,cc,rfl⟩:=ZR hcv;have hch:(A.nd n).choices=X.choices:=by rw[UX.out]
 have hkd:A.kd n=X.h.kind:=by rw[UX.out];rfl
 have HR:=Z5 (show A.chosen n=X.choices.map (fun c=>(⟨1,c.list,0⟩:Pl))++(if X.h.kind=15\/X.choices.any (fun c=>c.plain)=true then []else [A.behind n])by unfold Tr.chosen;rw[hch,hkd]);obtain⟨R,hR⟩: ∃ R:List Pl,Hid (R=A.chosen n):=⟨_,Z5 rfl⟩
 rw[<-hR.out];rw[hch]at hnc;obtain⟨e0,e1⟩:=hfx w (ZN _ _);have e2:w.cell? ⟨g,n*24,none⟩=some (.int .i64 X.h.kind):=e1 0 _ rfl;have e1:w.cell? ⟨g,n*24+20,none⟩=some (.slice ac X.choices.length cc):=e1 20 _ rfl;have HC:=Xp hcv M hn (M.NT W hn);clear hfx hone hX UX M W hch hcv hkd;generalize X.h.kind=kd at*;obtain⟨cs,hcs⟩: ∃ cs,cs=X.choices:=⟨_,rfl⟩
 rw[<-hcs]at e1 hnc HC HR;clear hcs;obtain⟨b0,hb0⟩: ∃ b0,Hid (b0=(kd==15)):=⟨_,Z5 rfl⟩
 go_enter func114,ntmps114;go_wp2_with fail
 rw[<-hb0.out]
 go_loopw [5,6,28] (fun v b ix wr=>uZ w b0 cs v b ix wr) (fun _ _ ix _=>cs.length -(intOf ix).toNat)
 case atStart=>exact⟨0,rfl,by omega,by simp,⟨rfl,.inl ⟨rfl,rfl⟩⟩,ZN _ _⟩
 case round=>
  obtain⟨k,rfl,hk,rfl,hown,hbw⟩:=hrel;have hsz:=hbw.size;by_cases hlt:k < cs.length
  .obtain⟨gc,cc',hgc⟩:=XM HC.out.1 (by omega);cases hgc;obtain⟨C,hC⟩: ∃ C:V1,C=cs[k]:=⟨_,rfl⟩
   have hc:cs[k]? =some C:=by rw[hC];exact Z9 hlt
   have hq: ∀ j v,C.cells[j]? =some v->wr.cell? ⟨gc,k*3+j,none⟩=some v:=by
    intro j v hv;have hj:j < 3:=by obtain⟨h,_⟩:=Z1.1 hv;exact h
    have h1:=ZF HC.out.1 (k*3+j) (by omega);rw[(hbw.cell (p:=⟨gc,k*3+j,none⟩) (HC.out.1.lt gc rfl).2).trans h1,Rh (n:=3) (f:=V1.cells) (fun _=>rfl) hc hj,hv]
   have q0:wr.cell? ⟨gc,k*3,none⟩=some (.int .i64 C.number):=hq 0 _ rfl;have q1:wr.cell? ⟨gc,k*3+1,none⟩=some (.int .i64 C.list):=hq 1 _ rfl;have q2:wr.cell? ⟨gc,k*3+2,none⟩=some (.bool C.plain):=hq 2 _ rfl;have HT:=Z5 (xB hc);have HO:=Zl hown hbw;have ho2:=Z5 (hown.alloc (.cells [.int .i64 C.number,.int .i64 C.list,.bool C.plain].toArray 110));have hbk:=Z5 (ZD.new wr [.int .i64 C.number,.int .i64 C.list,C.plain] 110);obtain⟨av,cpv,rfl⟩:=ZR hown;clear hc hC hq hown hbw;generalize C.number=cn at*;generalize C.list=cl at*;generalize C.plain=cp at*;obtain⟨bk,BA⟩: ∃ bk,Hid (bk=(b0||(cs.take k).any (fun c=>c.plain))):=⟨_,Z5 rfl⟩
   rw[<-BA.out];go_wp2_with (at_builtin;go_loud (refine Ze (wr.alloc _) rfl _ _ 119 rfl w.heap.size 118 (.agg #[.int .i64 0,.int .i64 0,.int .i64 0]) 3 24 underlying119 Gb rfl (by decide) (by decide) ho2.out (by rfl) [.int .i64 1,.int .i64 cl,.int .i64 0] rfl ?c1 (by simp;rfl) (by omega) (by simp;omega) ?_))
   case c1=>simp[Value.oneCell']
   intro g6 cap6 w6 hown6 UT VW Mm;have hb6:=hbk.out.grown UT (own_ne ho2.out hbk.out.ty (by decide));have u2:=hb6.cell 2 rfl;have HW:=Zl hown6 UT;clear hown6 UT VW hb6;have uY: ∀ b,b=(bk||cp)->uZ w b0 cs (.slice (some ⟨g6,0,none⟩) (k+1) cap6) (.bool b) (.int .i64 ((k:Int)+1)) w6:=fun b hb=>⟨k+1,by simp,by omega,by rw[hb,BA.out,HT.out.2,Bool.or_assoc],by rw[HT.out.1];exact HW.out.1,(HO.out.2.alloc hsz _).grown HW.out.2 (by simp;omega) (fun x hx=>(HO.out.1.lt x hx).1)⟩
   have HR2:=Z5 uY;clear uY;cases bk
   .go_wp2_with fail
    exact⟨HR2.out cp rfl,by simp[intOf];omega⟩
   .go_wp2_with fail
    exact⟨HR2.out true rfl,by simp[intOf];omega⟩
  .obtain rfl:k=cs.length:=by omega
   have hal:EJ cs cs.length=((cs.map (fun c=>(⟨1,c.list,0⟩:Pl))).map Pl.cl).flatten:=by simp[EJ,List.map_map,Function.comp_def]
   have HO:=X7 hown hbw hal;obtain⟨av,cpv,rfl⟩:=ZR hown;rw[List.take_length];have hP:(b0||cs.any (fun c=>c.plain))=true↔(kd=15\/cs.any (fun c=>c.plain)=true):=by rw[hb0.out];simp
   obtain⟨bk,BA⟩: ∃ bk,bk=(b0||cs.any (fun c=>c.plain)):=⟨_,rfl⟩
   rw[<-BA]at hP ⊢;have HP:=Z5 hP;clear hP BA hown hbw hal;cases bk
   .have HRn:=Z5 (show R=cs.map (fun c=>(⟨1,c.list,0⟩:Pl))++ [A.behind n]by rw[hR.out,HR.out,if_neg (fun h=>absurd (HP.out.2 h) (by decide))]);go_wp2_with fail
    refine(Xb (HC.out.2.1.low HO.out.2.1) HC.out.2.2.1 HC.out.2.2.2).mono ?_;rintro e w3 ⟨rfl,hb3⟩;have ho3:=Z5 (own_below HO.out.1 hb3 (fun x hx=>(HO.out.1.lt x hx).2));have hs3:=hb3.size;have HB3:=Z5 (HO.out.2.1.trans (hb3.mono hsz));unfold Np;clear hb3;go_wp2_with (at_builtin;go_loud (refine Ze w3 rfl _ _ 119 rfl w.heap.size 118 (.agg #[.int .i64 0,.int .i64 0,.int .i64 0]) 3 24 underlying119 Gb rfl (by decide) (by decide) ho3.out (by rfl) [.int .i64 (A.behind n).op,.int .i64 (A.behind n).a,.int .i64 (A.behind n).b] rfl ?c1 (by rfl) (by omega) (by omega) ?_))
    case c1=>simp[Value.oneCell']
    intro g6 cap6 w6 hown6 UT VW Mm;have HW:=Zl hown6 UT;clear hown6 UT VW;go_wp2_with fail
    go_ret;rw[HRn.out];refine⟨_,rfl,?_,HB3.out.grown HW.out.2 (by omega) (fun x hx=>(ho3.out.lt x hx).1)⟩;have h1:=HW.out.1;rw[HO.out.2.2]at h1;simpa [Pl.cl]using h1
   .have HRn:=Z5 (show R=cs.map (fun c=>(⟨1,c.list,0⟩:Pl))by rw[hR.out,HR.out,if_pos (HP.out.1 rfl),Y9]);go_wp2_with fail
    go_ret;rw[HRn.out];refine⟨_,rfl,?_,HO.out.2.1⟩;have h1:=HO.out.1;rw[HO.out.2.2]at h1;simpa using h1
end
end
section
def qA (r:List Pl × Option Int) (W:World) (e:Ending) (w':World):Prop:= ∃ v,e=.returned (.tuple #[v,.int .i64 (r.2.getD (-1))])/\w'.ownsRow W.heap.size 118 3 v r.1.length (r.1.map Pl.cl).flatten/\Below W.heap.size W w'
section
variable {w w':World} {lo p:Nat} {A:Tr}
theorem HU (M:QW w lo p A) (W:Wf A) {n:Nat} (hn:n < A.ns.length) (hnc:(A.nd n).choices.length<=200000):Calls prog 91 #[p,.agg #[.int .i64 4,.int .i64 n,.int .i64 0]] w (qA (A.mv ⟨4,n,0⟩) w):=by
 have HM:=X7 M W hnc;have hb1:Below w.heap.size w (w.alloc (.cells [.int .i64 4,.int .i64 n,.int .i64 0].toArray 118)):=(ZN _ _).alloc (Z7 _) _;have HB:=Z5 hb1;obtain⟨r,hr⟩: ∃ r,Hid (r=A.mv ⟨4,n,0⟩):=⟨_,Z5 rfl⟩
 rw[<-hr.out];have HR:=Z5 (show r=(A.chosen n,none)by rw[hr.out];rfl);clear M W hnc hb1;go_enter func91,ntmps91;go_wp2_with fail
 refine(Ia (HM.out.1.low HB.out) HM.out.2.1 hn HM.out.2.2).mono ?_;rintro e w3 ⟨v,rfl,hv,hb3⟩;have HV:=Zl hv hb3;obtain⟨ga,cca,rfl⟩:=ZR hv;clear hv hb3;go_wp2_with fail
 go_ret2
 rw[HR.out];exact⟨_,rfl,Yp HV.out.1 (by simp),HB.out.trans (HV.out.2.mono (by simp))⟩
theorem HJ (n:Nat):Calls prog 91 #[p,.agg #[.int .i64 6,.int .i64 n,.int .i64 0]] w (qA (A.mv ⟨6,n,0⟩) w):=by
 have hb1:Below w.heap.size w (w.alloc (.cells [.int .i64 6,.int .i64 n,.int .i64 0].toArray 118)):=(ZN _ _).alloc (Z7 _) _;have HB:=Z5 hb1;obtain⟨r,hr⟩: ∃ r,Hid (r=A.mv ⟨6,n,0⟩):=⟨_,Z5 rfl⟩
 rw[<-hr.out];have HR:=Z5 (show r=([],some (n:Int))by rw[hr.out];rfl);have hS:=fun w' (hb:Below (w.heap.size+1) (w.alloc (.cells [.int .i64 6,.int .i64 n,.int .i64 0].toArray 118)) w')=>(hb.cell (p:=⟨w.heap.size,1,none⟩) (by simp)).trans ((ZD.new w [.int .i64 6,.int .i64 n,.int .i64 0] 118).cell 1 rfl);have hS0:=hS _ (ZN _ _).drew;clear hb1 hS;go_enter func91,ntmps91;go_wp2_with fail
 go_region_held3 (fun w':World=>w'.cell? ⟨w.heap.size,1,none⟩=some (.int .i64 (n:Int))) (first|exact hS0|go_keep) (fail)
 go_wp2_with fail
 go_ret2
 rw[HR.out];exact⟨_,rfl,⟨rfl,.inl ⟨rfl,rfl⟩⟩,HB.out.drew⟩
theorem Bz {W w:World} (h:Below W.heap.size W w) (p q:Pl):w.alloc (.cells #[.int .i64 p.op,.int .i64 p.a,.int .i64 p.b,.int .i64 q.op,.int .i64 q.a,.int .i64 q.b] 118) |>.ownsRow W.heap.size 118 3 (.slice (some ⟨w.heap.size,0,none⟩) 2 2) 2 ([p,q].map Pl.cl).flatten:=
 ⟨rfl,.inr ⟨w.heap.size,2,_,rfl,h.size,heap_alloc_new w _,by simp,by decide,rfl,rfl⟩⟩
theorem Hz (M:QW w lo p A) (W:Wf A) {n:Nat} (hn:n < A.ns.length):Calls prog 91 #[p,.agg #[.int .i64 5,.int .i64 n,.int .i64 0]] w (qA (A.mv ⟨5,n,0⟩) w):=by
 obtain⟨g,cap,X,vb,ve,vc,cv,tv,ov,UX,hgl,hpl,hone,hX,hfx⟩:=M.Qx hn;have hb1:Below w.heap.size w (w.alloc (.cells [.int .i64 5,.int .i64 n,.int .i64 0].toArray 118)):=(ZN _ _).alloc (Z7 _) _;have HB:=Z5 hb1;have hbd:X.body=(A.nd n).body:=by rw[UX.out]
 obtain⟨r,hr⟩: ∃ r,Hid (r=A.mv ⟨5,n,0⟩):=⟨_,Z5 rfl⟩
 rw[<-hr.out];have HR:=Z5 (show r=([⟨1,X.body,0⟩,A.behind n],none)by rw[hr.out,hbd];rfl);have hS:=fun w' (hb:Below (w.heap.size+1) (w.alloc (.cells [.int .i64 5,.int .i64 n,.int .i64 0].toArray 118)) w')=>(And.intro ((hb.cell (p:=⟨w.heap.size,1,none⟩) (by simp)).trans ((ZD.new w [.int .i64 5,.int .i64 n,.int .i64 0] 118).cell 1 rfl)) (And.intro (hfx w' (hb1.trans (hb.mono (by omega)))).1 ((hfx w' (hb1.trans (hb.mono (by omega)))).2 18 _ rfl)))
 have hS0:=hS _ (ZN _ _).drew;have HS:=Z5 hS;have HC:=Z5 (Xb ((M.low hb1).low (ZN _ _).drew) hn (M.NT W hn));clear hb1 hS hfx hX hone UX hbd M W;generalize X.body=bd at*;go_enter func91,ntmps91;go_wp2_with fail
 go_region_held3 (fun w':World=>w'.cell? ⟨w.heap.size,1,none⟩=some (.int .i64 (n:Int))/\w'.cell? ⟨p,1,none⟩=some (.slice (some ⟨g,0,none⟩) A.ns.length cap)/\w'.cell? ⟨g,n*24+18,none⟩=some (.int .i64 bd)) (first|exact hS0|exact hS2|go_keep) (first|((go_at_call 76;refine HC.out.mono ?_;unfold Np;rintro e wx ⟨rfl,hbx⟩;have hbx2:=(ZN _ _).drew.trans hbx;have hS2:=HS.out wx (hbx2.mono (by simp));have HX:=Z5 (HB.out.trans (hbx2.mono (by simp))))))
 go_wp2_with fail
 go_ret2
 rw[HR.out];exact⟨_,rfl,Bz HX.out ⟨1,bd,0⟩ (A.behind n),HX.out.alloc HX.out.size _⟩
theorem Hy (M:QW w lo p A) {n:Nat} (hn:n < A.ns.length):Calls prog 91 #[p,.agg #[.int .i64 2,.int .i64 n,.int .i64 0]] w (qA (A.mv ⟨2,n,0⟩) w):=by
 obtain⟨g,cap,X,vb,ve,vc,cv,tv,ov,UX,hgl,hpl,hone,hX,hfx⟩:=M.Qx hn;have hb1:Below w.heap.size w (w.alloc (.cells [.int .i64 2,.int .i64 n,.int .i64 0].toArray 118)):=(ZN _ _).alloc (Z7 _) _;have HB:=Z5 hb1;have hbd:X.body=(A.nd n).body:=by rw[UX.out]
 have hcd:X.cnd=(A.nd n).cnd:=by rw[UX.out]
 obtain⟨r,hr⟩: ∃ r,Hid (r=A.mv ⟨2,n,0⟩):=⟨_,Z5 rfl⟩
 rw[<-hr.out];have HR:=Z5 (show r=if X.cnd= -1 then([⟨1,X.body,0⟩],none)else([],some X.cnd)by rw[hr.out,hbd,hcd];rfl);have hz1:(w.alloc (.cells [.int .i64 2,.int .i64 n,.int .i64 0].toArray 118)).heap.size=w.heap.size+1:=by simp
 have hS:=fun w' (hb:Below (w.heap.size+1) (w.alloc (.cells [.int .i64 2,.int .i64 n,.int .i64 0].toArray 118)) w')=>(And.intro ((hb.cell (p:=⟨w.heap.size,1,none⟩) (by simp)).trans ((ZD.new w [.int .i64 2,.int .i64 n,.int .i64 0] 118).cell 1 rfl)) (And.intro (hfx w' (hb1.trans (hb.mono (by omega)))).1 ((hfx w' (hb1.trans (hb.mono (by omega)))).2)))
 have HS:=Z5 hS;have Ib:=Z5 hone;clear hb1 hS hfx hX hone UX hbd hcd M;go_enter func91,ntmps91;go_wp2_with fail
 refine Qe 8 6 57 79 Tf (ZQ X vb ve vc cv tv ov) (by intro d _ _ _ _ h;cases d<;>exact h) rfl rfl rfl rfl rfl rfl rfl rfl XR rfl Wk Ib.out ?_
 iterate 7
  refine⟨_,?_,rfl,rfl,.inl ⟨by rfl,fun w' hb=>?_⟩,?_⟩
  rotate_left
  .obtain⟨e0,e1,_⟩:=HS.out w' (hb.mono (by simp));go_simp;try with_reducible rfl
  simp only[Act.put,ZK,Zp,Zo]
 refine⟨_,_,rfl,rfl,yieldsIf_load_mid (by rfl) 79 _ rfl g (n*24) rfl _ _ (fun w' hb=>(HS.out w' (hb.mono (by simp))).2.2) underlying79 rfl Wk,?_⟩;simp only[Act.put,ZK,Zp,Zo];refine⟨rfl,rfl,fun w2 hb2 hf2=>?_⟩;simp only[Act.put,ZK,Zp,Zo];rw[hz1]at hb2 hf2 ⊢;have hW:=HB.out.trans (hf2.mono (by omega));have HW:=Z5 hW;have d16:=hb2.cell 16 rfl;have fI:=hb2.cell 18 rfl;obtain⟨x0,x1,x2⟩:=HS.out w2.drew hf2.drew;have x2:w2.drew.cell? ⟨g,n*24+16,none⟩=some (.int .i64 X.cnd):=x2 16 _ rfl;have hS0:=And.intro x0 (And.intro x1 x2);clear x0 x1 x2 hb2 hf2 hW hz1;generalize X.cnd=cd at*;generalize X.body=bd at*;by_cases hc:cd= -1
 .subst hc;have HRn:=Z5 (show r=([⟨1,bd,0⟩],none)by rw[HR.out,if_pos rfl]);clear HR;go_wp2_with fail
  go_ret2
  rw[HRn.out];obtain⟨v,h1,h2,h3⟩:=Ya HW.out ⟨1,bd,0⟩;cases h1;exact⟨_,rfl,h2,h3⟩
 .have HRn:=Z5 (show r=([],some cd)by rw[HR.out,if_neg hc]);clear HR;have kc:(cd== -1)=false:=by simp[hc]
  clear hc;go_wp2_with fail
  go_region_held3 (fun w':World=>w'.cell? ⟨w.heap.size,1,none⟩=some (.int .i64 (n:Int))/\w'.cell? ⟨p,1,none⟩=some (.slice (some ⟨g,0,none⟩) A.ns.length cap)/\w'.cell? ⟨g,n*24+16,none⟩=some (.int .i64 cd)) (first|exact hS0|go_keep) (fail)
  go_wp2_with fail
  go_ret2
  rw[HRn.out];exact⟨_,rfl,⟨rfl,.inl ⟨rfl,rfl⟩⟩,HW.out.drew⟩
theorem Hu (M:QW w lo p A) (W:Wf A) {n b:Nat} (hn:n < A.ns.length) (hnc:(A.nd n).choices.length<=200000):Calls prog 91 #[p,.agg #[.int .i64 3,.int .i64 n,.int .i64 b]] w (qA (A.mv ⟨3,n,b⟩) w):=by
 obtain⟨g,cap,X,vb,ve,vc,cv,tv,ov,UX,hgl,hpl,hone,hX,hfx⟩:=M.Qx hn;have hb1:Below w.heap.size w (w.alloc (.cells [.int .i64 3,.int .i64 n,.int .i64 b].toArray 118)):=(ZN _ _).alloc (Z7 _) _;have HB:=Z5 hb1;have hte:X.tests=(A.nd n).tests:=by rw[UX.out]
 have UH:=hX.tv;obtain⟨at',ct,rfl⟩:=ZR UH;obtain⟨r,hr⟩: ∃ r,Hid (r=A.mv ⟨3,n,b⟩):=⟨_,Z5 rfl⟩
 rw[<-hr.out];have HR:=Z5 (show r=if(b:Int) < (X.tests.length:Int)then([],some (X.tests.getD b 0))else([A.failed n],none)by rw[hr.out,hte];rfl);have hz1:(w.alloc (.cells [.int .i64 3,.int .i64 n,.int .i64 b].toArray 118)).heap.size=w.heap.size+1:=by simp
 have hS:=fun w' (hb:Below (w.heap.size+1) (w.alloc (.cells [.int .i64 3,.int .i64 n,.int .i64 b].toArray 118)) w')=>(And.intro ((hb.cell (p:=⟨w.heap.size,1,none⟩) (by simp)).trans ((ZD.new w [.int .i64 3,.int .i64 n,.int .i64 b] 118).cell 1 rfl)) (And.intro (hfx w' (hb1.trans (hb.mono (by omega)))).1 ((hfx w' (hb1.trans (hb.mono (by omega)))).2)))
 have HS:=Z5 hS;have Ib:=Z5 hone;have HM:=Xp M W hnc UH;have hbx:=Z5 (fun w' (hb:Below (w.heap.size+1) (w.alloc (.cells [.int .i64 3,.int .i64 n,.int .i64 b].toArray 118)) w')=>(hb.cell (p:=⟨w.heap.size,2,none⟩) (by simp)).trans ((ZD.new w [.int .i64 3,.int .i64 n,.int .i64 b] 118).cell 2 rfl));clear hb1 hS hfx hX hone UX hte M W hnc UH;go_enter func91,ntmps91;go_wp2_with fail
 refine Qe 8 7 83 79 Tf (ZQ X vb ve vc cv (.slice at' X.tests.length ct) ov) (by intro d _ _ _ _ h;cases d<;>exact h) rfl rfl rfl rfl rfl rfl rfl rfl XR rfl Wk Ib.out ?_
 iterate 7
  refine⟨_,?_,rfl,rfl,.inl ⟨by rfl,fun w' hb=>?_⟩,?_⟩
  rotate_left
  .obtain⟨e0,e1,_⟩:=HS.out w' (hb.mono (by simp));go_simp;try with_reducible rfl
  simp only[Act.put,ZK,Zp,Zo]
 refine⟨_,_,rfl,rfl,yieldsIf_load_mid (by rfl) 79 _ rfl g (n*24) rfl _ _ (fun w' hb=>(HS.out w' (hb.mono (by simp))).2.2) underlying79 rfl Wk,?_⟩;simp only[Act.put,ZK,Zp,Zo];refine⟨rfl,rfl,fun w2 hb2 hf2=>?_⟩;simp only[Act.put,ZK,Zp,Zo];rw[hz1]at hb2 hf2 ⊢;have HW:=Z5 (HB.out.trans (hf2.mono (by omega)));have d21:=hb2.cell 21 rfl;have x2:=hbx.out w2 hf2;have HK:=Zl hf2 hb2;have hne:=hb2.lt;by_cases hlt:b < X.tests.length
 .obtain⟨gt,ct',hgt⟩:=XM HM.out.2.2.2 (by omega);cases hgt;have hv:X.tests.getD b 0=X.tests[b]:=by rw[Zy,Z9 hlt];rfl
  have HRn:=Z5 (show r=([],some X.tests[b])by rw[HR.out,if_pos (by omega),hv]);clear HR hv;have t1:w2.drew.cell? ⟨gt,b,none⟩=some (.int .i64 X.tests[b]):=(HW.out.drew.cell (p:=⟨gt,b,none⟩) (HM.out.2.2.2.lt gt rfl).2).trans (by rw[ZF HM.out.2.2.2 b (by omega),Yt,Z9 hlt];rfl);have x3:=hbx.out w2.drew hf2.drew;have x4:w2.drew.cell? ⟨w.heap.size+1,21,none⟩=_:=hb2.drew.cell 21 rfl;have hS0:=And.intro x3 (And.intro x4 t1);clear x3 x4 t1 hb2 hf2 hz1;generalize X.tests[b]=tb at*;go_wp2_with fail
  go_region_held3 (fun w':World=>w'.cell? ⟨w.heap.size,2,none⟩=some (.int .i64 (b:Int))/\w'.cell? ⟨w.heap.size+1,21,none⟩=some (.slice (some ⟨gt,0,none⟩) X.tests.length ct)/\w'.cell? ⟨gt,b,none⟩=some (.int .i64 tb)) (first|exact hS0|go_keep) (fail)
  go_wp2_with fail
  go_ret2
  rw[HRn.out];exact⟨_,rfl,⟨rfl,.inl ⟨rfl,rfl⟩⟩,HW.out.drew⟩
 .have HRn:=Z5 (show r=([A.failed n],none)by rw[HR.out,if_neg (by omega)]);clear HR;have x1:=(HS.out w2 hf2).1;have HC:=Z5 (Ic (HM.out.1.low HW.out) HM.out.2.1 hn HM.out.2.2.1);clear hb2 hf2 hz1;go_wp2_with fail
  refine HC.out.mono ?_;unfold Np;rintro e w3 ⟨rfl,hb3⟩;have HX:=Z5 (HW.out.trans (hb3.mono HW.out.size));clear hb3;go_wp2_with fail
  go_ret2
  rw[HRn.out];obtain⟨v,h1,h2,h3⟩:=Ya HX.out (A.failed n);cases h1;exact⟨_,rfl,h2,h3⟩
end
end
section
section
variable {w w':World} {lo p:Nat} {A:Tr}
theorem Ho (M:QW w lo p A) (W:Wf A) {l b:Nat} (hl:l < A.rs.length):Calls prog 91 #[p,.agg #[.int .i64 1,.int .i64 l,.int .i64 b]] w (qA (A.mv ⟨1,l,b⟩) w):=by
 obtain⟨gr,cr,iv,hgr,hpl,hX,hfr⟩:=M.qF hl;have hiv:=hX.iv;obtain⟨ai,ci,rfl⟩:=ZR hiv;obtain⟨w1,hw1⟩: ∃ w1,w1=w.alloc (.cells [.int .i64 1,.int .i64 l,.int .i64 b].toArray 118):=⟨_,rfl⟩
 have hb1:Below w.heap.size w w1:=by rw[hw1];exact(ZN _ _).alloc (Z7 _) _
 have hk1:ZD w1 w.heap.size [.int .i64 1,.int .i64 l,.int .i64 b] 118:=by rw[hw1];exact ZD.new w _ 118
 have hz1:w1.heap.size=w.heap.size+1:=by rw[hw1];simp
 have hS:=fun w' (hb:Below w1.heap.size w1 w')=>(show(w'.cell? ⟨w.heap.size,1,none⟩=some (.int .i64 (l:Int))/\w'.cell? ⟨w.heap.size,2,none⟩=some (.int .i64 (b:Int))/\w'.cell? ⟨p,2,none⟩=some (.slice (some ⟨gr,0,none⟩) A.rs.length cr)/\w'.cell? ⟨gr,l*3,none⟩=some (.int .i64 (A.rw l).owner)/\w'.cell? ⟨gr,l*3+2,none⟩=some (.slice ai (A.rw l).nodes.length ci))by
  have h1:=hfr w' (hb1.trans (hb.mono (by omega)));exact⟨(hb.cell (p:=⟨w.heap.size,1,none⟩) hk1.lt).trans (hk1.cell 1 rfl),(hb.cell (p:=⟨w.heap.size,2,none⟩) hk1.lt).trans (hk1.cell 2 rfl),h1.1,h1.2 0 _ rfl,h1.2 2 _ rfl⟩)
 obtain⟨r,hr⟩: ∃ r,Hid (r=A.mv ⟨1,l,b⟩):=⟨_,Z5 rfl⟩
 rw[<-hr.out];have HR:=Z5 (show r=if(b:Int) < ((A.rw l).nodes.length:Int)then([A.begun ((A.rw l).nodes.getD b 0)],none)else if(A.rw l).owner= -1 then([],some (-2))else([A.left l],none)by rw[hr.out];rfl);have hd1:Below w1.heap.size w1 w1.drew:=(ZN _ _).drew;have hS0:=hS _ hd1;have hS1:=hS _ hd1.drew;have HB:=Z5 hb1;have HS:=Z5 hS;have HM:=X7 M W hiv;have hbz:=Z5 hz1;clear hb1 hk1 hS hfr hX M W hiv hd1 hz1;subst hw1;go_enter func91,ntmps91;by_cases hlt:b < (A.rw l).nodes.length
 .obtain⟨gi,ci',hgi⟩:=XM HM.out.2.2 (by omega);cases hgi;obtain⟨k,hk,hkl⟩:=((HM.out.2.1.rw (n:=(l:Int)) ⟨by omega,by omega⟩).nodes _ (List.getElem_mem hlt)).cast;have hv:(A.rw l).nodes.getD b 0=(k:Int):=by rw[Zy,Z9 hlt];exact hk
  have HRn:=Z5 (show r=([A.begun k],none)by rw[HR.out,if_pos (by omega),hv]);clear HR hv;have HT:=Z5 (fun w' (hb:Below w.heap.size w w')=>(show w'.cell? ⟨gi,b,none⟩=some (.int .i64 (k:Int))from(hb.cell (p:=⟨gi,b,none⟩) (HM.out.2.2.lt gi rfl).2).trans (by rw[ZF HM.out.2.2 b (by omega),Yt,Z9 hlt,<-hk];rfl)));have hT1:=HT.out _ HB.out.drew.drew;have Z9i:=And.intro hS1.1 (And.intro hS1.2.1 (And.intro hS1.2.2.1 (And.intro hS1.2.2.2.2 hT1)));have Z9h:=And.intro hS0.1 (And.intro hS0.2.1 (And.intro hS0.2.2.1 hS0.2.2.2.2));clear hS0 hS1 hT1;have HC:=Z5 (EK ((HM.out.1.low HB.out).low ((ZN _ _).drew.drew)) HM.out.2.1 hkl);have hki:=Z5 hk;clear hk;go_wp2_with fail
  go_region_held3 (fun w':World=>w'.cell? ⟨w.heap.size,1,none⟩=some (.int .i64 (l:Int))/\w'.cell? ⟨w.heap.size,2,none⟩=some (.int .i64 (b:Int))/\w'.cell? ⟨p,2,none⟩=some (.slice (some ⟨gr,0,none⟩) A.rs.length cr)/\w'.cell? ⟨gr,l*3+2,none⟩=some (.slice (some ⟨gi,0,none⟩) (A.rw (l:Int)).nodes.length ci)) (first|exact Z9h|go_keep) (fail)
  go_wp2_with fail
  go_region_held3 (fun w':World=>w'.cell? ⟨w.heap.size,1,none⟩=some (.int .i64 (l:Int))/\w'.cell? ⟨w.heap.size,2,none⟩=some (.int .i64 (b:Int))/\w'.cell? ⟨p,2,none⟩=some (.slice (some ⟨gr,0,none⟩) A.rs.length cr)/\w'.cell? ⟨gr,l*3+2,none⟩=some (.slice (some ⟨gi,0,none⟩) (A.rw (l:Int)).nodes.length ci)/\w'.cell? ⟨gi,b,none⟩=some (.int .i64 (k:Int))) (first|exact Z9i|exact hS2|go_keep) (first|((go_at_call 111;refine HC.out.mono ?_;rintro e wx ⟨v,rfl,hv,hbx⟩;obtain⟨av,cv,rfl⟩:=ZR hv;have hbx2:=(ZN _ _).drew.drew.trans hbx;have hS3:=HS.out wx hbx2;have hS2:=And.intro hS3.1 (And.intro hS3.2.1 (And.intro hS3.2.2.1 (And.intro hS3.2.2.2.2 (HT.out wx (HB.out.trans (hbx2.mono HB.out.size))))));have HX:=Zl hv hbx2;clear hv hbx hbx2 hS3)))
  go_wp2_with fail
  go_ret2
  rw[HRn.out];exact⟨_,rfl,Yp HX.out.1 HB.out.size,HB.out.trans (HX.out.2.mono HB.out.size)⟩
 .have HR2:=Z5 (show r=if(A.rw l).owner= -1 then([],some (-2))else([A.left l],none)by rw[HR.out,if_neg (by omega)]);clear HR;generalize(A.rw (l:Int)).nodes.length=nl at*;have how:=Z5 (show(A.rw (l:Int)).owner=(A.rw (l:Int)).owner from rfl);by_cases ho:(A.rw (l:Int)).owner= -1
  .have HRn:=Z5 (show r=([],some (-2))by rw[HR2.out,if_pos ho]);clear HR2;rw[ho]at hS0 hS1;clear ho how;go_wp2_with fail
   go_region_held3 (fun w':World=>w'.cell? ⟨w.heap.size,1,none⟩=some (.int .i64 (l:Int))/\w'.cell? ⟨w.heap.size,2,none⟩=some (.int .i64 (b:Int))/\w'.cell? ⟨p,2,none⟩=some (.slice (some ⟨gr,0,none⟩) A.rs.length cr)/\w'.cell? ⟨gr,l*3,none⟩=some (.int .i64 (-1))/\w'.cell? ⟨gr,l*3+2,none⟩=some (.slice ai nl ci)) (first|exact hS0|go_keep) (fail)
   go_wp2_with fail
   go_region_held3 (fun w':World=>w'.cell? ⟨w.heap.size,1,none⟩=some (.int .i64 (l:Int))/\w'.cell? ⟨w.heap.size,2,none⟩=some (.int .i64 (b:Int))/\w'.cell? ⟨p,2,none⟩=some (.slice (some ⟨gr,0,none⟩) A.rs.length cr)/\w'.cell? ⟨gr,l*3,none⟩=some (.int .i64 (-1))/\w'.cell? ⟨gr,l*3+2,none⟩=some (.slice ai nl ci)) (first|exact hS1|go_keep) (fail)
   go_wp2_with fail
   go_ret2
   rw[HRn.out];exact⟨_,rfl,⟨rfl,.inl ⟨rfl,rfl⟩⟩,HB.out.drew.drew⟩
  .have HRn:=Z5 (show r=([A.left l],none)by rw[HR2.out,if_neg ho]);clear HR2;have ho0:0<=(A.rw (l:Int)).owner:=by
    rcases(HM.out.2.1.rw (n:=(l:Int)) ⟨by omega,by omega⟩).owner with h|h
    .exact absurd h ho
    .exact h.1
   have HC:=Z5 (BB ((HM.out.1.low HB.out).low ((ZN _ _).drew.drew)) HM.out.2.1 hl ho0);have HD:=Z5 (HB.out.drew.drew);clear how ho0;generalize(A.rw (l:Int)).owner=ow at*;have ko:(ow== -1)=false:=by simp[ho]
   clear ho;go_wp2_with fail
   go_region_held3 (fun w':World=>w'.cell? ⟨w.heap.size,1,none⟩=some (.int .i64 (l:Int))/\w'.cell? ⟨w.heap.size,2,none⟩=some (.int .i64 (b:Int))/\w'.cell? ⟨p,2,none⟩=some (.slice (some ⟨gr,0,none⟩) A.rs.length cr)/\w'.cell? ⟨gr,l*3,none⟩=some (.int .i64 ow)/\w'.cell? ⟨gr,l*3+2,none⟩=some (.slice ai nl ci)) (first|exact hS0|go_keep) (fail)
   go_wp2_with fail
   go_region_held3 (fun w':World=>w'.cell? ⟨w.heap.size,1,none⟩=some (.int .i64 (l:Int))/\w'.cell? ⟨w.heap.size,2,none⟩=some (.int .i64 (b:Int))/\w'.cell? ⟨p,2,none⟩=some (.slice (some ⟨gr,0,none⟩) A.rs.length cr)/\w'.cell? ⟨gr,l*3,none⟩=some (.int .i64 ow)/\w'.cell? ⟨gr,l*3+2,none⟩=some (.slice ai nl ci)) (first|exact hS1|go_keep) (fail)
   go_wp2_with fail
   refine HC.out.mono ?_;unfold Np;rintro e w3 ⟨rfl,hb3⟩;have HX:=Z5 (HD.out.trans (hb3.mono HD.out.size));clear hb3;go_wp2_with fail
   go_ret2
   rw[HRn.out];obtain⟨v,h1,h2,h3⟩:=Ya HX.out (A.left l);cases h1;exact⟨_,rfl,h2,h3⟩
theorem pN (M:QW w lo p A) (W:Wf A) (hnc: ∀ n:Nat,n < A.ns.length->(A.nd n).choices.length<=200000) {q:Pl} (hq:NY A q):Calls prog 91 #[p,Np q] w (qA (A.mv q) w):=by
 obtain⟨o,a,b⟩:=q;unfold Np;rcases hq with⟨h1,h2,h3,_⟩ |⟨h1,h2,_,h3⟩ |⟨h1,h2,h3,_⟩ |⟨h1,h2,h3⟩ |⟨h1,h2,_,h3⟩ |⟨h1,h2,h3⟩;all_goals dsimp only at h1 h2 h3
 all_goals subst h1
 all_goals obtain⟨k,rfl,hk⟩:=h2.cast
 .obtain⟨j,rfl⟩:=Int.eq_ofNat_of_zero_le h3;exact Ho M W hk
 .subst h3;exact Hy M hk
 .obtain⟨j,rfl⟩:=Int.eq_ofNat_of_zero_le h3;exact Hu M W hk (hnc k hk)
 .subst h3;exact HU M W hk (hnc k hk)
 .subst h3;exact Hz M W hk
 .subst h3;exact HJ k
end
end
end Go.Proofs.YteedbaejpdjilaaGreat
