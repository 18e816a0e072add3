/- Part of the proof: TreB TreC TreD TreE. -/
import Derived.Test.YteedbaejpdjilaaGreatXQe
import Derived.Test.YteedbaejpdjilaaGreatXPy
import Derived.Test.YteedbaejpdjilaaGreatXPs
import Derived.Deep.QuietTactic
import Derived.BigQuiet
import Derived.Test.YteedbaejpdjilaaGreatXPt
set_option linter.all false
set_option maxRecDepth 100000
set_option maxHeartbeats 40000000
namespace Go.Proofs.YteedbaejpdjilaaGreat
open Go.RowKit
section
variable {w w':World} {lo p:Nat} {A:Tr} {num:Int} {rt:Bool} {lv nv rv:Value} {NR RR:List (List Value)}
theorem qo.all {w:World} {lo g m:Nat} {x:Nd} {va ve' vc' cv tv ov:Value} (h:qo w lo g m x va ve' vc' cv tv ov):
  w.cell? ⟨g,m*24,none⟩=some (.int .i64 x.h.kind)∧w.cell? ⟨g,m*24+1,none⟩=some (.string x.h.label)∧w.cell? ⟨g,m*24+2,none⟩=some (.string x.h.target)∧w.cell? ⟨g,m*24+3,none⟩=some (.bool x.h.init)∧w.cell? ⟨g,m*24+4,none⟩=some (.bool x.h.cond)∧w.cell? ⟨g,m*24+5,none⟩=some (.bool x.h.post)∧w.cell? ⟨g,m*24+6,none⟩=some (.bool x.h.hasElse)∧w.cell? ⟨g,m*24+7,none⟩=some (.bool x.h.chain)∧
  w.cell? ⟨g,m*24+8,none⟩=some va∧w.cell? ⟨g,m*24+9,none⟩=some ve'∧w.cell? ⟨g,m*24+10,none⟩=some vc'∧w.cell? ⟨g,m*24+11,none⟩=some (.int .i64 x.number)∧w.cell? ⟨g,m*24+12,none⟩=some (.int .i64 x.list)∧w.cell? ⟨g,m*24+13,none⟩=some (.int .i64 x.place)∧w.cell? ⟨g,m*24+14,none⟩=some (.int .i64 x.self)∧w.cell? ⟨g,m*24+15,none⟩=some (.int .i64 x.ini)∧w.cell? ⟨g,m*24+16,none⟩=some (.int .i64 x.cnd)∧w.cell? ⟨g,m*24+17,none⟩=some (.int .i64 x.pst)∧w.cell? ⟨g,m*24+18,none⟩=some (.int .i64 x.body)∧w.cell? ⟨g,m*24+19,none⟩=some (.int .i64 x.other)∧
  w.cell? ⟨g,m*24+20,none⟩=some cv∧w.cell? ⟨g,m*24+21,none⟩=some tv∧w.cell? ⟨g,m*24+22,none⟩=some ov∧w.cell? ⟨g,m*24+23,none⟩=some (.int .i64 x.target):=
 ⟨h.cell 0 _ rfl,h.cell 1 _ rfl,h.cell 2 _ rfl,h.cell 3 _ rfl,h.cell 4 _ rfl,h.cell 5 _ rfl,h.cell 6 _ rfl,h.cell 7 _ rfl,h.cell 8 _ rfl,h.cell 9 _ rfl,h.cell 10 _ rfl,h.cell 11 _ rfl,h.cell 12 _ rfl,h.cell 13 _ rfl,h.cell 14 _ rfl,h.cell 15 _ rfl,h.cell 16 _ rfl,h.cell 17 _ rfl,h.cell 18 _ rfl,h.cell 19 _ rfl,h.cell 20 _ rfl,h.cell 21 _ rfl,h.cell 22 _ rfl,h.cell 23 _ rfl⟩
theorem bytes_inj {a b:ByteArray} (h:a.toList=b.toList):a=b:=by
 rw[ByteArray.toList_eq,ByteArray.toList_eq]at h;exact ByteArray.ext (Array.toList_inj.1 h)
def kT (A:Tr) (s:ByteArray) (W:World) (ix:Value) (wr:World):Prop:= ∃ k:Nat,ix=.int .i64 k∧k<=A.ns.length∧(∀ j:Nat,j < k->(A.nd j).h.label.data≠s.data)∧Below W.heap.size W wr
theorem Gv {A:Tr} {s:ByteArray} (h: ∀ j:Nat,j < A.ns.length->(A.nd j).h.label.data≠s.data):A.Xq s= -1:=by
 unfold Tr.Xq;have:A.ns.findIdx? (fun x=>decide (x.h.label.data=s.data))=none:=by
  rw[List.findIdx?_eq_none_iff];intro x hx;obtain⟨i,hi,rfl⟩:=List.getElem_of_mem hx;have:=h i hi;rw[Ya (List.getElem?_eq_getElem hi)]at this;simpa using this
 rw[this]
theorem Kv {A:Tr} {s:ByteArray} {k:Nat} (hk:k < A.ns.length) (h: ∀ j:Nat,j < k->(A.nd j).h.label.data≠s.data) (he:(A.nd k).h.label.data=s.data):A.Xq s=k:=by
 unfold Tr.Xq;have:A.ns.findIdx? (fun x=>decide (x.h.label.data=s.data))=some k:=by
  rw[List.findIdx?_eq_some_iff_getElem];refine⟨hk,?_,fun j hj=>?_⟩
  ·rw[Ya (List.getElem?_eq_getElem hk)]at he;simpa using he
  ·have:=h j hj;rw[Ya (List.getElem?_eq_getElem (by omega))]at this;simpa using this
 rw[this]
theorem Uu (M:Xt w lo p A num rt lv nv rv NR RR) (s:ByteArray):Calls Tryz.prog 95 #[p,s] w fun e w'=>e=.returned (.int .i64 (A.Xq s))∧Below w.heap.size w w':=by
 obtain⟨na,nc,rfl⟩:=M.kE;have c1:=M.t.blk.cell 1 rfl;have hb2:=M.b.2.1;have HM:=Z9 M;clear M;go_enter Tryz.func95,Tryz.ntmps95;go_wp2_with fail
 go_loopw [12] (fun ix wr=>kT A s w ix wr) (fun ix _=>A.ns.length -(intOf ix).toNat)
 case atStart=>exact⟨0,rfl,by omega,fun j hj=>by omega,Below.refl _ _⟩
 case round=>
  obtain⟨k,rfl,hk,hno,hbw⟩:=hrel;have hno:=Z9 hno;have hsz:=hbw.size;by_cases hlt:k < A.ns.length
  ·obtain⟨g,cap,hnv⟩:=HM.out.NM (by omega);simp only[Value.slice.injEq,true_and]at hnv;obtain⟨rfl,rfl⟩:=hnv;obtain⟨X,hX0⟩: ∃ X:Nd,X= { A.nd (k:Int)with target:=A.tgt (k:Int) } :=⟨_,rfl⟩
   obtain⟨Xvb,Xve,Xvc,Xcv,Xtv,Xov,hX⟩:=(HM.out.low hbw).nd hlt;rw[<-hX0]at hX;have HX0:=Z9 hX0;clear hX0;obtain⟨Xb0,Xb1,Xb2,rfl⟩:=hX.vb;obtain⟨Xe0,Xe1,Xe2,rfl⟩:=hX.ve;obtain⟨Xc0,Xc1,Xc2,rfl⟩:=hX.vc;obtain⟨Xf0,Xf2,rfl⟩:=ZX hX.cv;obtain⟨Xt0,Xt2,rfl⟩:=ZX hX.tv;obtain⟨Xo0,Xo2,rfl⟩:=ZX hX.ov;have HX:=Z9 hX;clear hX;by_cases heq:(X.h.label.toList==s.toList)=true
   ·go_upto_region 3 with fail
    refine wp_region_lit ?_;refine wpList_plain rfl fun K hK=>?_;go_simp;refine hK _ _ ?_;clear hK K;refine wpList_plain rfl fun K hK=>?_;go_simp;refine hK _ _ ?_;clear hK K;refine XZ rfl 79 (.tmp 15) rfl (g:=g) (o:=k*24) rfl (ZY X (.slice Xb0 Xb1 Xb2) (.slice Xe0 Xe1 Xe2) (.slice Xc0 Xc1 Xc2) (.slice Xf0 X.choices.length Xf2) (.slice Xt0 X.tests.length Xt2) (.slice Xo0 X.testOf.length Xo2)) HX.out.cell _ Tryz.underlying79 rfl (by kernel_rfl) ?_;refine Yw rfl 79 rfl RX (XU _) ?_;intro wa hza hba;refine wpList_plain rfl fun K hK=>?_;go_simp;refine hK _ _ ?_;clear hK K;refine Yx rfl 79 (.tmp 6) (.tmp 16) rfl rfl hza (ZY X (.slice Xb0 Xb1 Xb2) (.slice Xe0 Xe1 Xe2) (.slice Xc0 Xc1 Xc2) (.slice Xf0 X.choices.length Xf2) (.slice Xt0 X.tests.length Xt2) (.slice Xo0 X.testOf.length Xo2)) rfl rfl (by kernel_rfl) (by simp[Value.oneCell',ZY]) ?_;intro wb hzb hbb;have e1:=hzb.cell 1 rfl;go_wp2_with fail
    have hres:A.Xq s=k:=Kv hlt hno.out (by
     have h1:=bytes_inj (eq_of_beq heq);rw[HX0.out]at h1;exact congrArg ByteArray.data h1)
    have hres:=Z9 hres;have hend:=Z9 ((hbw.trans (hba.mono hsz)).trans (hbb.mono hsz));go_ret;exact⟨by rw[hres.out];rfl,hend.out⟩
   ·have heq':(X.h.label.toList==s.toList)=false:=by simpa using heq
    clear heq;go_upto_region 3 with fail
    refine wp_region_lit ?_;refine wpList_plain rfl fun K hK=>?_;go_simp;refine hK _ _ ?_;clear hK K;refine wpList_plain rfl fun K hK=>?_;go_simp;refine hK _ _ ?_;clear hK K;refine XZ rfl 79 (.tmp 15) rfl (g:=g) (o:=k*24) rfl (ZY X (.slice Xb0 Xb1 Xb2) (.slice Xe0 Xe1 Xe2) (.slice Xc0 Xc1 Xc2) (.slice Xf0 X.choices.length Xf2) (.slice Xt0 X.tests.length Xt2) (.slice Xo0 X.testOf.length Xo2)) HX.out.cell _ Tryz.underlying79 rfl (by kernel_rfl) ?_;refine Yw rfl 79 rfl RX (XU _) ?_;intro wa hza hba;refine wpList_plain rfl fun K hK=>?_;go_simp;refine hK _ _ ?_;clear hK K;refine Yx rfl 79 (.tmp 6) (.tmp 16) rfl rfl hza (ZY X (.slice Xb0 Xb1 Xb2) (.slice Xe0 Xe1 Xe2) (.slice Xc0 Xc1 Xc2) (.slice Xf0 X.choices.length Xf2) (.slice Xt0 X.tests.length Xt2) (.slice Xo0 X.testOf.length Xo2)) rfl rfl (by kernel_rfl) (by simp[Value.oneCell',ZY]) ?_;intro wb hzb hbb;have e1:=hzb.cell 1 rfl;go_wp2_with fail
    exact⟨⟨k+1,by simp,by omega,fun j hj=>by
     by_cases e:j < k
     ·exact hno.out j e
     ·have:j=k:=by omega
      subst this;intro h;rw[HX0.out]at heq';have:(A.nd (j:Int)).h.label=s:=ByteArray.ext h;simp[this]at heq',(hbw.trans (hba.mono hsz)).trans (hbb.mono hsz)⟩,by simp[intOf];omega⟩
  ·have hres:=Z9 (Gv (A:=A) (s:=s) (fun j hj=>hno.out j (by omega)));go_wp2_with fail
   go_ret;exact⟨by rw[hres.out];rfl,hbw⟩
end
section
variable {w w':World} {lo p:Nat} {A:Tr} {num:Int} {rt:Bool} {lv nv rv:Value} {NR RR:List (List Value)}
theorem VY {P:Program} {f:FuncId} {args:Array Value} {w:World} {n:Nat} {v:Value} (h:Calls P f args (w.drewN n) fun e w'=>e=.returned v∧w.drewN n=w'):Calls P f args (w.drewN n) fun e w''=>e=.returned v∧ ∃ m,w''=w.drewN m:=
 h.mono fun _ _ ⟨he,hm⟩=>⟨he,n,hm.symm⟩
theorem qI {n:Int} {k:Nat} (h:Q8 n k):n < ((k+1:Nat):Int):=by
 rcases h with h|h
 ·omega
 ·have:=h.2;omega
theorem Q8.ge {n:Int} {k:Nat} (h:Q8 n k): -1<=n:=by
 rcases h with h|h
 ·omega
 ·have:=h.1;omega
theorem RV {k o:Int} {b:Bool} (h:WB k o=b) (w:World):Calls Tryz.prog 119 #[.int .i64 k,.int .i64 o] w fun e w'=>e=.returned (.bool b)∧w=w':=h ▸ Gh k o w
theorem Zv {B:Nat} {a w:World} (h:Below B a w) (n:Nat):Below B a (w.drewN n):=⟨h.os,h.tape,h.output,h.size,h.block⟩
def oh (A:Tr) (k:Int) (s:ByteArray) (R:Int) (W:World) (ix:Value) (wr:World):Prop:= ∃ (f:Nat) (ov:Int),ix=.int .i64 ov∧Q8 ov A.ns.length∧ov < f∧A.XT k s f ov=R∧Below W.heap.size W wr
theorem KE (M:Xt w lo p A num rt lv nv rv NR RR) (W:G9 A) {n:Nat} (hn:n < A.ns.length):Calls Tryz.prog 96 #[p,.int .i64 n] w fun e w'=>e=.returned (.int .i64 (A.XT (A.kd n) (A.nd n).h.target (A.ns.length+1) (A.rw (A.nd n).list).owner))∧Below w.heap.size w w':=by
 obtain⟨g,cap,rfl⟩:=M.NM (by omega);obtain⟨gr,capr,rfl⟩:=M.sK W.one;have hok:Ok (n:Int) A.ns.length:=⟨by omega,by omega⟩
 obtain⟨l,hl,hll⟩:=(W.list hok).cast;obtain⟨X,hX0⟩: ∃ X:Nd,X= { A.nd (n:Int)with target:=A.tgt (n:Int) } :=⟨_,rfl⟩
 obtain⟨Xvb,Xve,Xvc,Xcv,Xtv,Xov,hX⟩:=M.nd hn;obtain⟨Xb0,Xb1,Xb2,rfl⟩:=hX.vb;obtain⟨Xe0,Xe1,Xe2,rfl⟩:=hX.ve;obtain⟨Xc0,Xc1,Xc2,rfl⟩:=hX.vc;obtain⟨d0,d1,d2,d3,d4,d5,d6,d7,d8,d9,d10,d11,d12,_,_,_,_,_,_,_,_,_,_,_⟩:=hX.all;dsimp only at d0 d1 d2 d3 d4 d5 d6 d7 d8 d9 d10 d11 d12;rw[hl]at d12;obtain⟨iv,hR⟩:=M.rw hll;have r0:=hR.cell 0 _ rfl;simp only[Nat.add_zero]at r0;have q1:=M.t.blk.cell 1 rfl;have q2:=M.t.blk.cell 2 rfl;have hlo:=M.t.blk.lt;have hgl:=(M.t.n.lt g rfl).2;have hgrl:=(M.t.r.lt gr rfl).2;have HM:=Z9 M;rw[hl];unfold Tr.kd;generalize hH:(A.nd (n:Int)).h=H at d0 d1 d2 d3 d4 d5 d6 d7 ⊢;have HH:=Za hX0 hl hH;have howner:=W.owner (n:=(l:Int)) ⟨by omega,by omega⟩;have hup:=W.up hok;rw[hl]at hup;obtain⟨ow,how⟩: ∃ ow:Int,ow=(A.rw (l:Int)).owner:=⟨_,rfl⟩
 rw[<-how]at r0 howner hup ⊢;have HW:=Z9 W;clear hX0 hl hH M hX hR how W;obtain⟨hk0,hk1,hk2,hk3,hk4,hk5,hk6,hk7⟩:=H;dsimp only at d0 d1 d2 d3 d4 d5 d6 d7 ⊢;have hxb:=ZV.new w [.int .i64 hk0,hk1,hk2,hk3,hk4,hk5,hk6,hk7,.slice Xb0 Xb1 Xb2,.slice Xe0 Xe1 Xe2,.slice Xc0 Xc1 Xc2] 76;have hb1:Below w.heap.size w (w.alloc (.cells [.int .i64 hk0,.string hk1,.string hk2,.bool hk3,.bool hk4,.bool hk5,.bool hk6,.bool hk7,.slice Xb0 Xb1 Xb2,.slice Xe0 Xe1 Xe2,.slice Xc0 Xc1 Xc2].toArray 76)):=(Below.refl _ _).alloc (Nat.le_refl _) _;have HB:=ZL hxb hb1;clear hxb hb1;go_enter Tryz.func96,Tryz.ntmps96;go_wp2_with fail
 go_quiet (fail)
 go_wp2_with fail
 go_loopw [6] (fun ix wr=>oh A hk0 hk2 (A.XT hk0 hk2 (A.ns.length+1) ow) (w.alloc (.cells [.int .i64 hk0,.string hk1,.string hk2,.bool hk3,.bool hk4,.bool hk5,.bool hk6,.bool hk7,.slice Xb0 Xb1 Xb2,.slice Xe0 Xe1 Xe2,.slice Xc0 Xc1 Xc2].toArray 76)) ix wr) (fun ix _=>(intOf ix+1).toNat)
 case atStart=>exact⟨A.ns.length+1,ow,rfl,howner,qI howner,rfl,Zv (Below.refl _ _) _⟩
 case round=>
  obtain⟨f,ov,rfl,hO,hlt,hres,hbw⟩:=hrel;have hres:=Z9 hres;have hsz:w.heap.size+1<=wr.heap.size:=by have:=hbw.size;simpa using this
  have hbw0:=HB.out.2.trans (hbw.mono HB.out.2.size);by_cases hov:ov= -1
  ·subst hov;have he:A.XT hk0 hk2 (A.ns.length+1) ow= -1:=by rw[<-hres.out];cases f<;>simp[Tr.XT]
   have he:=Z9 he;have hbw0:=Z9 hbw0;clear hbw;go_wp2_with fail
   go_ret;exact⟨by rw[he.out];rfl,hbw0.out⟩
  ·obtain⟨o,rfl,ho⟩:=(hO.ok hov).cast;obtain⟨f,rfl⟩: ∃ f',f=f'+1:=⟨f -1,by omega⟩
   have hokO:Ok (o:Int) A.ns.length:=⟨by omega,by omega⟩
   obtain⟨l2,hl2,hll2⟩:=(HW.out.list hokO).cast;have hup2:=HW.out.up hokO;have how2:=HW.out.owner (n:=(l2:Int)) ⟨by omega,by omega⟩;rw[hl2]at hup2;obtain⟨Yvb,Yve,Yvc,Ycv,Ytv,Yov,hY⟩:=(HM.out.low hbw0).nd ho;obtain⟨e0,e1,_,_,_,_,_,_,_,_,_,_,e12,_,_,_,_,_,_,_,_,_,_,_⟩:=hY.all;dsimp only at e0 e1 e12;rw[hl2]at e12;obtain⟨iv2,hR2⟩:=(HM.out.low hbw0).rw hll2;have r2:=hR2.cell 0 _ rfl;simp only[Nat.add_zero]at r2;have p1:=(HM.out.low hbw0).t.blk.cell 1 rfl;have p2:=(HM.out.low hbw0).t.blk.cell 2 rfl;have x0:=(ZC HB.out.1 hbw).cell 0 rfl;have x2:=(ZC HB.out.1 hbw).cell 2 rfl;have hgl2:g < wr.heap.size:=by omega
   have hgrl2:gr < wr.heap.size:=by omega
   have hlo2:p < wr.heap.size:=by omega
   have hal:aims hk0 hk2 (A.nd (o:Int)).h=(WB hk0 (A.nd (o:Int)).h.kind&&(decide (hk2.size=0)||decide (hk2=(A.nd (o:Int)).h.label))):=by
    unfold aims WB;simp only[Bool.decide_and,Bool.decide_or]
   have hstep:A.XT hk0 hk2 (f+1) (o:Int)=if aims hk0 hk2 (A.nd (o:Int)).h=true then(o:Int)else A.XT hk0 hk2 f (A.rw (A.nd (o:Int)).list).owner:=by
    conv=>lhs;unfold Tr.XT
    rw[if_neg (by omega)]
   rw[hl2]at hstep;obtain⟨ow2,how2'⟩: ∃ ow2:Int,ow2=(A.rw (l2:Int)).owner:=⟨_,rfl⟩
   rw[<-how2']at r2 how2 hup2 hstep;generalize(A.nd (o:Int)).h=H2 at e0 e1 hal hstep;obtain⟨m0,m1,m2,m3,m4,m5,m6,m7⟩:=H2;dsimp only at e0 e1 hal;have HS:=ZL hal hstep;have HBW:=ZL hbw hbw0;clear hal hstep hbw hbw0 hY hR2 how2' hl2 d0 d1 d2 d3 d4 d5 d6 d7 d8 d9 d10 d11 d12 r0 q1 q2;cases hai:WB hk0 m0 with
   |false=>
    have hai:=Z9 hai;have hna: ¬ aims hk0 hk2 ⟨m0,m1,m2,m3,m4,m5,m6,m7⟩=true:=by rw[HS.out.1,hai.out];simp
    have hna:=Z9 hna;go_wp2_with fail
    go_quiet ((go_at_call 119;exact VY (RV hai.out _)))
    go_wp2_with fail
    go_quiet (fail)
    go_wp2_with fail
    exact⟨⟨f,ow2,rfl,how2,by omega,by rw[<-hres.out,HS.out.2,if_neg hna.out],by first|exact Zv HBW.out.1 _|exact Zv (Zv HBW.out.1 _) _⟩,by simp[intOf];have:=Q8.ge how2;omega⟩
   |true=>
    have hai:=Z9 hai;by_cases h0:hk2.size=0
    ·obtain rfl:=WH h0;have he:A.XT hk0 ByteArray.empty (A.ns.length+1) ow=(o:Int):=by rw[<-hres.out,HS.out.2,if_pos (by rw[HS.out.1,hai.out];rfl)]
     have he:=Z9 he;go_wp2_with fail
     go_quiet ((go_at_call 119;exact VY (RV hai.out _)))
     go_wp2_with fail
     go_ret;exact⟨by rw[he.out];rfl,Zv HBW.out.2 _⟩
    ·have n1:=Xi h0;have n2:=Xy h0;by_cases heq:(hk2.toList==m1.toList)=true
     ·have hq:hk2=m1:=bytes_inj (eq_of_beq heq);have he:A.XT hk0 hk2 (A.ns.length+1) ow=(o:Int):=by rw[<-hres.out,HS.out.2,if_pos (by rw[HS.out.1,hai.out];simp[hq])]
      have he:=Z9 he;clear hq;go_wp2_with fail
      go_quiet ((go_at_call 119;exact VY (RV hai.out _)))
      go_wp2_with fail
      go_ret;exact⟨by rw[he.out];rfl,Zv HBW.out.2 _⟩
     ·have heq':(hk2.toList==m1.toList)=false:=by simpa using heq
      have hna: ¬ aims hk0 hk2 ⟨m0,m1,m2,m3,m4,m5,m6,m7⟩=true:=by
       rw[HS.out.1,hai.out];have hq: ¬ hk2=m1:=fun h=>heq (by rw[h];simp);simp[h0,hq]
      have hna:=Z9 hna;clear heq;go_wp2_with fail
      go_quiet ((go_at_call 119;exact VY (RV hai.out _)))
      go_wp2_with fail
      go_quiet (fail)
      go_wp2_with fail
      exact⟨⟨f,ow2,rfl,how2,by omega,by rw[<-hres.out,HS.out.2,if_neg hna.out],by first|exact Zv HBW.out.1 _|exact Zv (Zv HBW.out.1 _) _⟩,by simp[intOf];have:=Q8.ge how2;omega⟩
end
section
variable {w w':World} {lo p:Nat} {A:Tr} {num:Int} {rt:Bool} {lv nv rv:Value} {NR RR:List (List Value)}
def su (A:Tr) (s:ByteArray) (W:World) (e:Ending) (w':World):Prop:= ∃ r:Int,e=.returned (.int .i64 r)∧(r= -1∨r=A.Xq s)∧Below W.heap.size W w'
def lu (A:Tr) (W:World) (ix:Value) (wr:World):Prop:= ∃ ov:Int,ix=.int .i64 ov∧Q8 ov A.ns.length∧Below W.heap.size W wr
def nD (b:Nat) (W:World) (ix:Value) (wr:World):Prop:= ∃ k:Nat,ix=.int .i64 k∧(k<=b∨True)∧Below W.heap.size W wr
theorem W9 {a b c:World} (h:Below a.heap.size a b) (k:Below b.heap.size b c):Below a.heap.size a c:=h.trans (k.mono h.size)
theorem G9.CJ {A:Tr} (W:G9 A) {n:Nat} (hn:n < A.ns.length): ∃ l pl:Nat,(A.nd n).list=l∧(A.nd n).place=pl∧l < A.rs.length∧pl < (A.rw l).nodes.length∧(A.rw l).nodes.length<=A.ns.length∧(∀ q∈(A.rw l).nodes,Ok q A.ns.length)∧Q8 (A.rw l).owner A.ns.length∧(A.rw l).owner < n:=by
 have hx:=List.getElem?_eq_getElem hn;have hN:=W.n n _ hx;rw[<-Ya hx]at hN;obtain⟨l,hl,hll⟩:=hN.list.cast;have hp:=hN.place;have hh:=ZW hN.here;have hr:=W.r l _ (List.getElem?_eq_getElem hll);rw[<-X5 (List.getElem?_eq_getElem hll)]at hr;have hu:=hN.up;rw[hl]at hh hu;exact⟨l,(A.nd n).place.toNat,hl,by omega,hll,hh,hr.len,hr.nodes,hr.owner,hu⟩
theorem Ip (M:Xt w lo p A num rt lv nv rv NR RR) (W:G9 A) {n:Nat} (hn:n < A.ns.length):Calls Tryz.prog 97 #[p,.int .i64 n] w (su A (A.nd n).h.target w):=by
 obtain⟨g,cap,rfl⟩:=M.NM (by omega);obtain⟨gr,capr,rfl⟩:=M.sK W.one;obtain⟨_,_,_,_,_,_,hdY⟩:=M.nd hn;obtain⟨_,_,d2,_,_,_,_,_,_,_,_,_,_,_,_,_,_,_,_,_,_,_,_,_⟩:=hdY.all;dsimp only at d2;have q1:=M.t.blk.cell 1 rfl;have HM:=Z9 M;have HW:=Z9 W;have hnl:=M.b.2.1;obtain⟨s,hs⟩: ∃ s:ByteArray,s=(A.nd (n:Int)).h.target:=⟨_,rfl⟩
 rw[<-hs]at d2 ⊢;have hlab:=Uu M s;obtain⟨tq,hto⟩: ∃ tq:Int,tq=A.Xq s:=⟨_,rfl⟩
 rw[<-hto]at hlab;have HL:=ZL hlab hto;have hOto:tq= -1∨Ok tq A.ns.length:=by
  by_cases h:tq= -1
  ·exact .inl h
  ·exact .inr (hto ▸ IU (hto ▸ h))
 clear M W hdY hs hlab hto;go_enter Tryz.func97,Tryz.ntmps97;go_wp2_with fail
 refine HL.out.1.mono ?_;rintro e' w1 ⟨rfl,hb1⟩;rcases hOto with h1|h1
 ·subst h1;go_wp2_with fail
  go_ret;exact⟨-1,rfl,.inl rfl,hb1⟩
 ·obtain⟨tn,rfl,htn⟩:=h1.cast;obtain⟨lt',pt,hlt1,hpt,hltl,hptl,hnn,hnq,hown,hupt⟩:=HW.out.CJ htn;have HT:=Yt hlt1 hpt hnq hown;clear hlt1 hpt hnq hown h1;have hptb:pt<=90000:=by omega
  clear q1 d2;go_wp2_with fail
  go_loopw [6] (fun ix wr=>lu A w1 ix wr) (fun ix _=>(intOf ix+1).toNat)
  case atStart=>exact⟨n,rfl,.inr ⟨by omega,by omega⟩,Below.refl _ _⟩
  case round=>
   obtain⟨ov,rfl,hO,hbw⟩:=hrel;have hbw0:=W9 hb1 hbw;by_cases hov:ov= -1
   ·subst hov;go_wp2_with fail
    go_ret;exact⟨-1,rfl,.inl rfl,hbw0⟩
   ·obtain⟨o,rfl,ho⟩:=(hO.ok hov).cast;obtain⟨l2,p2,hl2,hp2,hll2,hpl2,hnn2,hnq2,how2,hup2⟩:=HW.out.CJ ho;have M2:=HM.out.low hbw0;obtain⟨_,_,_,_,_,_,heY⟩:=M2.nd ho;obtain⟨_,_,_,_,_,_,_,_,_,_,_,_,e12,e13,_,_,_,_,_,_,_,_,_,_⟩:=heY.all;dsimp only at e12 e13;obtain⟨_,_,_,_,_,_,hfY⟩:=M2.nd htn;obtain⟨_,_,_,_,_,_,_,_,_,_,_,_,f12,f13,_,_,_,_,_,_,_,_,_,_⟩:=hfY.all;dsimp only at f12 f13;rw[hl2]at e12;rw[hp2]at e13;rw[HT.out.1]at f12;rw[HT.out.2.1]at f13;obtain⟨iv2,hR2⟩:=M2.rw hll2;have r2:=hR2.cell 0 _ rfl;simp only[Nat.add_zero]at r2;have b1:=M2.t.blk.cell 1 rfl;have b2:=M2.t.blk.cell 2 rfl;obtain⟨ow2,how2'⟩: ∃ ow2:Int,ow2=(A.rw (l2:Int)).owner:=⟨_,rfl⟩
    rw[<-how2']at r2 how2 hup2;have hgl:=(M2.t.n.lt g rfl).2;have hgrl:=(M2.t.r.lt gr rfl).2;have hpl:=M2.t.blk.lt;have HM2:=Z9 M2;have hpb:p2<=90000:=by omega
    clear M2 hR2 how2' hl2 hp2 hnq2 heY hfY hov hO;by_cases hll:l2=lt'
    ·subst hll;go_wp2_with fail
     go_quiet (fail)
     go_wp2_with fail
     obtain⟨wo,hwo⟩: ∃ wo:World,wo=wr:=⟨_,rfl⟩
     subst hwo
     go_loopw [7] (fun ix wr=>nD pt wo ix wr) (fun ix _=>pt -(intOf ix).toNat)
     case atStart=>exact⟨p2+1,by simp,.inr trivial,Zv (Below.refl _ _) _⟩
     case round=>
      obtain⟨k,rfl,_,hbi⟩:=hrel;have hbi0:=W9 hbw0 hbi;have M3:=HM.out.low hbi0;obtain⟨_,_,_,_,_,_,hxY⟩:=M3.nd htn;obtain⟨_,_,_,_,_,_,_,_,_,_,_,_,x12,x13,_,_,_,_,_,_,_,_,_,_⟩:=hxY.all;dsimp only at x12 x13;rw[HT.out.1]at x12;rw[HT.out.2.1]at x13;have c1:=M3.t.blk.cell 1 rfl;have c2:=M3.t.blk.cell 2 rfl;have hgl3:=(M3.t.n.lt g rfl).2;have hgrl3:=(M3.t.r.lt gr rfl).2;have hpl3:=M3.t.blk.lt;by_cases hk:k < pt
      ·obtain⟨iv3,hR3⟩:=M3.rw hltl;obtain⟨gi,ci,rfl⟩:=Xc hR3.iv (by omega);have r3:=hR3.cell 2 _ rfl;have hkl:k < (A.rw (l2:Int)).nodes.length:=by omega
       have hkk:=World.ownsRow.cellAt hR3.iv k (by omega);rw[List.getElem?_map,List.getElem?_eq_getElem hkl]at hkk;have hq:=HT.out.2.2.1 _ (List.getElem_mem hkl);obtain⟨q,hqe,hql⟩:=hq.cast;simp only[Option.map_some]at hkk;rw[hqe]at hkk;have hgi:=(hR3.iv.lt gi rfl).2;obtain⟨_,_,_,_,_,_,hzY⟩:=M3.nd hql;obtain⟨z0,_,_,_,_,_,_,_,_,_,_,_,_,_,_,_,_,_,_,_,_,_,_,_⟩:=hzY.all;dsimp only at z0;generalize(A.nd (q:Int)).h.kind=kq at z0;clear hzY hxY hqe hq hR3 M3 e12 e13 f12 f13 r2 b1 b2;by_cases h8:kq=8
       ·subst h8;go_wp2_with fail
        go_quiet (fail)
        go_wp2_with fail
        go_ret;exact⟨-1,rfl,.inl rfl,Zv hbi0 _⟩
       ·go_wp2_with fail
        go_quiet (fail)
        go_wp2_with fail
        exact⟨⟨k+1,by simp,.inr trivial,Zv hbi _⟩,by simp[intOf];omega⟩
      ·clear hxY e12 e13 f12 f13 r2 b1 b2;have HM3:=Z9 M3;clear M3;go_wp2_with fail
       go_ret;exact⟨_,rfl,.inr HL.out.2,hbi0⟩
    ·go_wp2_with fail
     go_quiet (fail)
     go_wp2_with fail
     go_quiet (fail)
     go_wp2_with fail
     refine⟨?_,by simp[intOf];have:=Q8.ge how2;omega⟩
     (repeat apply Exists.intro)
     exact⟨⟨ow2,rfl,how2,by first|exact Zv hbw _|exact Zv (Zv hbw _) _⟩,rfl⟩
end
section
variable {w w':World} {lo p:Nat} {A:Tr} {num:Int} {rt:Bool} {lv nv rv:Value} {NR RR:List (List Value)}
def ug (A:Tr) (W:World) (e:Ending) (w':World):Prop:= ∃ r:Bool,e=.returned (.bool r)∧(r=true-> ∀ i:Nat,i < A.ns.length->0 < (A.nd i).h.label.size->A.Xq (A.nd i).h.label=i)∧Below W.heap.size W w'
def uG (A:Tr) (W:World) (ix:Value) (wr:World):Prop:= ∃ k:Nat,ix=.int .i64 k∧k<=A.ns.length∧(∀ i:Nat,i < k->0 < (A.nd i).h.label.size->A.Xq (A.nd i).h.label=i)∧Below W.heap.size W wr
def lZ (n:Nat) (W:World) (ux ix:Value) (wr:World):Prop:= ∃ (k:Nat) (u:Bool),ux=.bool u∧ix=.int .i64 k∧k<=n∧Below W.heap.size W wr
theorem FW (M:Xt w lo p A num rt lv nv rv NR RR) (hlim: ∀ i:Nat,i < A.ns.length->(A.nd i).h.label.size<=9223372036854775807):Calls Tryz.prog 82 #[p] w (ug A w):=by
 obtain⟨na,nc,rfl⟩:=M.kE;have c1:=M.t.blk.cell 1 rfl;have hb2:=M.b.2.1;have HM:=Z9 M;have HLim:=Z9 hlim;clear M hlim;go_enter Tryz.func82,Tryz.ntmps82;go_wp2_with fail
 go_loopw [13] (fun ix wr=>uG A w ix wr) (fun ix _=>A.ns.length -(intOf ix).toNat)
 case atStart=>exact⟨0,rfl,by omega,fun i hi=>by omega,Below.refl _ _⟩
 case round=>
  obtain⟨k,rfl,hk,hno,hbw⟩:=hrel;have hno:=Z9 hno;have hsz:=hbw.size;by_cases hlt:k < A.ns.length
  ·obtain⟨g,cap,hnv⟩:=HM.out.NM (by omega);simp only[Value.slice.injEq,true_and]at hnv;obtain⟨rfl,rfl⟩:=hnv;obtain⟨X,hX0⟩: ∃ X:Nd,X= { A.nd (k:Int)with target:=A.tgt (k:Int) } :=⟨_,rfl⟩
   obtain⟨Xvb,Xve,Xvc,Xcv,Xtv,Xov,hX⟩:=(HM.out.low hbw).nd hlt;rw[<-hX0]at hX;have HX0:=Z9 hX0;clear hX0;obtain⟨Xb0,Xb1,Xb2,rfl⟩:=hX.vb;obtain⟨Xe0,Xe1,Xe2,rfl⟩:=hX.ve;obtain⟨Xc0,Xc1,Xc2,rfl⟩:=hX.vc;obtain⟨Xf0,Xf2,rfl⟩:=ZX hX.cv;obtain⟨Xt0,Xt2,rfl⟩:=ZX hX.tv;obtain⟨Xo0,Xo2,rfl⟩:=ZX hX.ov;have HX:=Z9 hX;clear hX;have hXl:=HLim.out k hlt;have hXh:X.h=(A.nd (k:Int)).h:=by rw[HX0.out]
   have HXh:=Z9 hXh;rw[<-hXh]at hXl;clear hXh;go_upto_region 3 with fail
   refine wp_region_lit ?_;refine wpList_plain rfl fun K hK=>?_;go_simp;refine hK _ _ ?_;clear hK K;refine wpList_plain rfl fun K hK=>?_;go_simp;refine hK _ _ ?_;clear hK K;refine XZ rfl 79 (.tmp 16) rfl (g:=g) (o:=k*24) rfl (ZY X (.slice Xb0 Xb1 Xb2) (.slice Xe0 Xe1 Xe2) (.slice Xc0 Xc1 Xc2) (.slice Xf0 X.choices.length Xf2) (.slice Xt0 X.tests.length Xt2) (.slice Xo0 X.testOf.length Xo2)) HX.out.cell _ Tryz.underlying79 rfl (by kernel_rfl) ?_;refine Yw rfl 79 rfl RX (XU _) ?_;intro wa hza hba;refine wpList_plain rfl fun K hK=>?_;go_simp;refine hK _ _ ?_;clear hK K;refine Yx rfl 79 (.tmp 4) (.tmp 17) rfl rfl hza (ZY X (.slice Xb0 Xb1 Xb2) (.slice Xe0 Xe1 Xe2) (.slice Xc0 Xc1 Xc2) (.slice Xf0 X.choices.length Xf2) (.slice Xt0 X.tests.length Xt2) (.slice Xo0 X.testOf.length Xo2)) rfl rfl (by kernel_rfl) (by simp[Value.oneCell',ZY]) ?_;intro wb hzb hbb;have e1:=hzb.cell 1 rfl;have hbb2:Below w.heap.size w wb:=(hbw.trans (hba.mono hsz)).trans (hbb.mono hsz);have hsb:=hbb2.size;have hgw:=(HM.out.t.n.lt g rfl).2;have HB:=ZL hbb2 hzb;have M2:=HM.out.low hbb2;have c12:=M2.t.blk.cell 1 rfl;have HM2:=Z9 M2;clear M2 hba hza hbb hzb hbb2;by_cases h0:X.h.label.size=0
   ·have hle:X.h.label.toList= []:=OM h0;have hle2:X.h.label.toList.isEmpty=true:=by rw[hle];rfl
    have hle3:(X.h.label.toList== [])=true:=by rw[hle];rfl
    go_wp2_with fail
    exact⟨⟨k+1,by simp,by omega,fun i hi hl=>by
     by_cases e:i < k
     ·exact hno.out i e hl
     ·have:i=k:=by omega
      subst this;rw[<-HXh.out]at hl;omega,HB.out.1⟩,by simp[intOf];omega⟩
   ·have n1:=Xi h0;have n2:=Xy h0;go_wp2_with fail
    refine(J4 _ hXl _).mono ?_;rintro e' w5 ⟨⟨r,rfl⟩,rfl⟩;cases r with
    |false=>
     go_wp2_with fail
     go_ret;exact⟨false,rfl,fun h=>absurd h (by decide),HB.out.1⟩
    |true=>
     have hlab:=Z9 (Uu HM2.out X.h.label);obtain⟨q,hq⟩: ∃ q:Int,q=A.Xq X.h.label:=⟨_,rfl⟩
     rw[<-hq]at hlab;have hq:=Z9 hq;go_wp2_with fail
     refine hlab.out.mono ?_;rintro e' w6 ⟨rfl,hb6⟩;by_cases hqk:q=(k:Int)
     ·have hqk':(q !=(k:Int))=false:=by simpa using hqk
      have hqk:=Z9 hqk;have hb60:=W9 HB.out.1 hb6;have M6:=HM.out.low hb60;have c16:=M6.t.blk.cell 1 rfl;have hx6:=ZC HB.out.2 hb6;have HX6:=Za hx6 M6 hb60;clear hx6 M6 hb60;go_wp2_with fail
      go_loopw [5,41] (fun ux ix wr=>lZ A.ns.length w6 ux ix wr) (fun _ ix _=>A.ns.length -(intOf ix).toNat)
      case atStart=>exact⟨0,false,rfl,rfl,by omega,Below.refl _ _⟩
      case round=>
       obtain⟨j,u,rfl,rfl,hj,hbi⟩:=hrel;have hsz2:=hbi.size;have hx7:=(ZC HX6.out.1 hbi).cell 1 rfl;by_cases hjl:j < A.ns.length
       ·skip
        obtain⟨Y,hY0⟩: ∃ X:Nd,X= { A.nd (j:Int)with target:=A.tgt (j:Int) } :=⟨_,rfl⟩
        obtain⟨Yvb,Yve,Yvc,Ycv,Ytv,Yov,hY⟩:=(HX6.out.2.1.low hbi).nd hjl;rw[<-hY0]at hY;have HY0:=Z9 hY0;clear hY0;obtain⟨Yb0,Yb1,Yb2,rfl⟩:=hY.vb;obtain⟨Ye0,Ye1,Ye2,rfl⟩:=hY.ve;obtain⟨Yc0,Yc1,Yc2,rfl⟩:=hY.vc;obtain⟨Yf0,Yf2,rfl⟩:=ZX hY.cv;obtain⟨Yt0,Yt2,rfl⟩:=ZX hY.tv;obtain⟨Yo0,Yo2,rfl⟩:=ZX hY.ov;have HY:=Z9 hY;clear hY;go_upto_region 10 with fail
        refine wp_region_lit ?_;refine wpList_plain rfl fun K hK=>?_;go_simp;refine hK _ _ ?_;clear hK K;refine XZ rfl 79 (.tmp 43) rfl (g:=g) (o:=j*24) rfl (ZY Y (.slice Yb0 Yb1 Yb2) (.slice Ye0 Ye1 Ye2) (.slice Yc0 Yc1 Yc2) (.slice Yf0 Y.choices.length Yf2) (.slice Yt0 Y.tests.length Yt2) (.slice Yo0 Y.testOf.length Yo2)) HY.out.cell _ Tryz.underlying79 rfl (by kernel_rfl) ?_;refine Yw rfl 79 rfl RX (XU _) ?_;intro wc hzc hbc;refine Yx rfl 79 (.tmp 7) (.tmp 44) rfl rfl hzc (ZY Y (.slice Yb0 Yb1 Yb2) (.slice Ye0 Ye1 Ye2) (.slice Yc0 Yc1 Yc2) (.slice Yf0 Y.choices.length Yf2) (.slice Yt0 Y.tests.length Yt2) (.slice Yo0 Y.testOf.length Yo2)) rfl rfl (by kernel_rfl) (by simp[Value.oneCell',ZY]) ?_;intro wd hzd hbd;have e2:=hzd.cell 2 rfl;have hbi2:Below w6.heap.size w6 wd:=(hbi.trans (hbc.mono hsz2)).trans (hbd.mono hsz2);have hx8:=(ZC HX6.out.1 hbi2).cell 1 rfl;have HI:=Z9 hbi2;have hsi:=hbi2.size;clear hx7 hbi2 hbc hzc hbd;cases u with
        |true=>
         go_wp2_with fail
         exact⟨⟨_,_,_,⟨j+1,true,rfl,by simp,by omega,HI.out⟩,rfl,rfl,rfl⟩,by simp[intOf];omega⟩
        |false=>
         obtain⟨q2,hq2⟩: ∃ q2:Bool,(Y.h.target.toList==X.h.label.toList)=q2:=⟨_,rfl⟩
         cases q2 with
         |true=>
          go_wp2_with fail
          exact⟨⟨_,_,_,⟨j+1,true,rfl,by simp,by omega,HI.out⟩,rfl,rfl,rfl⟩,by simp[intOf];omega⟩
         |false=>
          go_wp2_with fail
          exact⟨⟨_,_,_,⟨j+1,false,rfl,by simp,by omega,HI.out⟩,rfl,rfl,rfl⟩,by simp[intOf];omega⟩
       ·cases u with
        |false=>
         go_wp2_with fail
         go_ret;exact⟨false,rfl,fun h=>absurd h (by decide),W9 HX6.out.2.2 hbi⟩
        |true=>
         go_wp2_with fail
         exact⟨⟨k+1,by simp,by omega,fun i hi hl=>by
          by_cases e:i < k
          ·exact hno.out i e hl
          ·have:i=k:=by omega
           subst this;rw[<-HXh.out];exact hq.out.symm.trans hqk.out,W9 HX6.out.2.2 hbi⟩,by simp[intOf];omega⟩
     ·have hqk':(q !=(k:Int))=true:=by simpa using hqk
      go_wp2_with fail
      go_ret;exact⟨false,rfl,fun h=>absurd h (by decide),W9 HB.out.1 hb6⟩
  ·go_wp2_with fail
   go_ret;exact⟨true,rfl,fun _ i hi=>hno.out i (by omega),hbw⟩
end
end Go.Proofs.YteedbaejpdjilaaGreat
