/- Part of the proof: TreB TreC TreD TreE. -/
import Derived.Test.YteedbaejpdjilaaGreatYQe
import Derived.Test.YteedbaejpdjilaaGreatYPy
import Derived.Test.YteedbaejpdjilaaGreatYPs
import Derived.Deep.QuietTactic
import Derived.BigQuiet
import Derived.Test.YteedbaejpdjilaaGreatYPt
set_option linter.all false
set_option maxRecDepth 100000
set_option maxHeartbeats 40000000
namespace Go.Proofs.YteedbaejpdjilaaGreat
open Go.RowKit Tryz
section
variable {w w':World} {lo p:Nat} {A:Tr} {num:Int} {rt:Bool} {lv nv rv:Value} {NR RR:List (List Value)}
theorem rJ.all {w:World} {lo g m:Nat} {x:Nd} {va ve' sH cv tv ov:Value} (h:rJ w lo g m x va ve' sH cv tv ov):
  w.cell? ⟨g,m*24,none⟩=some (.int .i64 x.h.kind)/\w.cell? ⟨g,m*24+1,none⟩=some (.string x.h.label)/\w.cell? ⟨g,m*24+2,none⟩=some (.string x.h.target)/\w.cell? ⟨g,m*24+3,none⟩=some (.bool x.h.init)/\w.cell? ⟨g,m*24+4,none⟩=some (.bool x.h.cond)/\w.cell? ⟨g,m*24+5,none⟩=some (.bool x.h.post)/\w.cell? ⟨g,m*24+6,none⟩=some (.bool x.h.ZV)/\w.cell? ⟨g,m*24+7,none⟩=some (.bool x.h.chain)/\
  w.cell? ⟨g,m*24+8,none⟩=some va/\w.cell? ⟨g,m*24+9,none⟩=some ve'/\w.cell? ⟨g,m*24+10,none⟩=some sH/\w.cell? ⟨g,m*24+11,none⟩=some (.int .i64 x.number)/\w.cell? ⟨g,m*24+12,none⟩=some (.int .i64 x.list)/\w.cell? ⟨g,m*24+13,none⟩=some (.int .i64 x.place)/\w.cell? ⟨g,m*24+14,none⟩=some (.int .i64 x.self)/\w.cell? ⟨g,m*24+15,none⟩=some (.int .i64 x.ini)/\w.cell? ⟨g,m*24+16,none⟩=some (.int .i64 x.cnd)/\w.cell? ⟨g,m*24+17,none⟩=some (.int .i64 x.Ym)/\w.cell? ⟨g,m*24+18,none⟩=some (.int .i64 x.body)/\w.cell? ⟨g,m*24+19,none⟩=some (.int .i64 x.other)/\
  w.cell? ⟨g,m*24+20,none⟩=some cv/\w.cell? ⟨g,m*24+21,none⟩=some tv/\w.cell? ⟨g,m*24+22,none⟩=some ov/\w.cell? ⟨g,m*24+23,none⟩=some (.int .i64 x.target):=
 ⟨h.cell 0 _ rfl,h.cell 1 _ rfl,h.cell 2 _ rfl,h.cell 3 _ rfl,h.cell 4 _ rfl,h.cell 5 _ rfl,h.cell 6 _ rfl,h.cell 7 _ rfl,h.cell 8 _ rfl,h.cell 9 _ rfl,h.cell 10 _ rfl,h.cell 11 _ rfl,h.cell 12 _ rfl,h.cell 13 _ rfl,h.cell 14 _ rfl,h.cell 15 _ rfl,h.cell 16 _ rfl,h.cell 17 _ rfl,h.cell 18 _ rfl,h.cell 19 _ rfl,h.cell 20 _ rfl,h.cell 21 _ rfl,h.cell 22 _ rfl,h.cell 23 _ rfl⟩
theorem bytes_inj {a b:ByteArray} (h:a.toList=b.toList):a=b:=by
 rw[ByteArray.toList_eq,ByteArray.toList_eq]at h;exact ByteArray.ext (Array.toList_inj.1 h)
def jB (A:Tr) (s:ByteArray) (W:World) (ix:Value) (wr:World):Prop:= ∃ k:Nat,ix=.int .i64 k/\k<=A.ns.length/\(∀ j:Nat,j < k->(A.nd j).h.label.data≠s.data)/\Below W.heap.size W wr
theorem E5 {A:Tr} {s:ByteArray} (h: ∀ j:Nat,j < A.ns.length->(A.nd j).h.label.data≠s.data):A.Wo s= -1:=by
 unfold Tr.Wo;have:A.ns.findIdx? (fun x=>decide (x.h.label.data=s.data))=none:=by
  rw[List.findIdx?_eq_none_iff];intro x hx;obtain⟨i,hi,rfl⟩:=List.getElem_of_mem hx;have:=h i hi;rw[W8 (Z9 hi)]at this;simpa using this
 rw[this]
theorem IV {A:Tr} {s:ByteArray} {k:Nat} (hk:k < A.ns.length) (h: ∀ j:Nat,j < k->(A.nd j).h.label.data≠s.data) (he:(A.nd k).h.label.data=s.data):A.Wo s=k:=by
 unfold Tr.Wo;have:A.ns.findIdx? (fun x=>decide (x.h.label.data=s.data))=some k:=by
  rw[List.findIdx?_eq_some_iff_getElem];refine⟨hk,?_,fun j hj=>?_⟩
  .rw[W8 (Z9 hk)]at he;simpa using he
  .have:=h j hj;rw[W8 (Z9 (by omega))]at this;simpa using this
 rw[this]
theorem Rg (M:Wi w lo p A num rt lv nv rv NR RR) (s:ByteArray):Calls prog 95 #[p,s] w fun e w'=>e=.returned (.int .i64 (A.Wo s))/\Below w.heap.size w w':=by
 obtain⟨na,nc,rfl⟩:=M.nvs;have c1:=M.t.blk.cell 1 rfl;have hb2:=M.b.2.1;have HM:=Z5 M;clear M;go_enter func95,ntmps95;go_wp2_with fail
 go_loopw [12] (fun ix wr=>jB A s w ix wr) (fun ix _=>A.ns.length -(intOf ix).toNat)
 case atStart=>exact⟨0,rfl,by omega,fun j hj=>by omega,ZN _ _⟩
 case round=>
  obtain⟨k,rfl,hk,hno,hbw⟩:=hrel;have hno:=Z5 hno;have hsz:=hbw.size;by_cases hlt:k < A.ns.length
  .obtain⟨g,cap,V9⟩:=HM.out.Kd (by omega);simp only[Value.slice.injEq,true_and]at V9;obtain⟨rfl,rfl⟩:=V9;obtain⟨X,hX0⟩: ∃ X:Nd,X= { A.nd (k:Int)with target:=A.tgt (k:Int) } :=⟨_,rfl⟩
   obtain⟨Xvb,Xve,Xvc,Xcv,Xtv,Xov,hX⟩:=(HM.out.low hbw).nd hlt;rw[<-hX0]at hX;have HX0:=Z5 hX0;clear hX0;obtain⟨CA,Cz,Cy,rfl⟩:=hX.vb;obtain⟨Cw,Cu,Cs,rfl⟩:=hX.ve;obtain⟨Cr,Cq,Cp,rfl⟩:=hX.vc;obtain⟨rH,rG,rfl⟩:=ZR hX.cv;obtain⟨rF,rD,rfl⟩:=ZR hX.tv;obtain⟨rz,ry,rfl⟩:=ZR hX.ov;have HX:=Z5 hX;clear hX;by_cases heq:(X.h.label.toList==s.toList)=true
   .go_upto_region 3 with fail
    refine wp_region_lit ?_;refine wpList_plain rfl fun K hK=>?_;go_simp;refine hK _ _ ?_;clear hK K;refine wpList_plain rfl fun K hK=>?_;go_simp;refine hK _ _ ?_;clear hK K;refine WX rfl 79 (.tmp 15) rfl (g:=g) (o:=k*24) rfl (ZQ X (.slice CA Cz Cy) (.slice Cw Cu Cs) (.slice Cr Cq Cp) (.slice rH X.choices.length rG) (.slice rF X.tests.length rD) (.slice rz X.YY.length ry)) HX.out.cell _ underlying79 rfl (by kernel_rfl) ?_;refine XU rfl 79 rfl Tf (XR _) ?_;intro wa hza hba;refine wpList_plain rfl fun K hK=>?_;go_simp;refine hK _ _ ?_;clear hK K;refine XT rfl 79 (.tmp 6) (.tmp 16) rfl rfl hza (ZQ X (.slice CA Cz Cy) (.slice Cw Cu Cs) (.slice Cr Cq Cp) (.slice rH X.choices.length rG) (.slice rF X.tests.length rD) (.slice rz X.YY.length ry)) rfl rfl (by kernel_rfl) (by simp[Value.oneCell',ZQ]) ?_;intro wb hzb hbb;have e1:=hzb.cell 1 rfl;go_wp2_with fail
    have hres:A.Wo s=k:=IV hlt hno.out (by
     have h1:=bytes_inj (eq_of_beq heq);rw[HX0.out]at h1;exact congrArg ByteArray.data h1)
    have hres:=Z5 hres;have hend:=Z5 ((hbw.trans (hba.mono hsz)).trans (hbb.mono hsz));go_ret;exact⟨by rw[hres.out];rfl,hend.out⟩
   .have heq':(X.h.label.toList==s.toList)=false:=by simpa using heq
    clear heq;go_upto_region 3 with fail
    refine wp_region_lit ?_;refine wpList_plain rfl fun K hK=>?_;go_simp;refine hK _ _ ?_;clear hK K;refine wpList_plain rfl fun K hK=>?_;go_simp;refine hK _ _ ?_;clear hK K;refine WX rfl 79 (.tmp 15) rfl (g:=g) (o:=k*24) rfl (ZQ X (.slice CA Cz Cy) (.slice Cw Cu Cs) (.slice Cr Cq Cp) (.slice rH X.choices.length rG) (.slice rF X.tests.length rD) (.slice rz X.YY.length ry)) HX.out.cell _ underlying79 rfl (by kernel_rfl) ?_;refine XU rfl 79 rfl Tf (XR _) ?_;intro wa hza hba;refine wpList_plain rfl fun K hK=>?_;go_simp;refine hK _ _ ?_;clear hK K;refine XT rfl 79 (.tmp 6) (.tmp 16) rfl rfl hza (ZQ X (.slice CA Cz Cy) (.slice Cw Cu Cs) (.slice Cr Cq Cp) (.slice rH X.choices.length rG) (.slice rF X.tests.length rD) (.slice rz X.YY.length ry)) rfl rfl (by kernel_rfl) (by simp[Value.oneCell',ZQ]) ?_;intro wb hzb hbb;have e1:=hzb.cell 1 rfl;go_wp2_with fail
    exact⟨⟨k+1,by simp,by omega,fun j hj=>by
     by_cases e:j < k
     .exact hno.out j e
     .have:j=k:=by omega
      subst this;intro h;rw[HX0.out]at heq';have:(A.nd (j:Int)).h.label=s:=ByteArray.ext h;simp[this]at heq',(hbw.trans (hba.mono hsz)).trans (hbb.mono hsz)⟩,by simp[intOf];omega⟩
  .have hres:=Z5 (E5 (A:=A) (s:=s) (fun j hj=>hno.out j (by omega)));go_wp2_with fail
   go_ret;exact⟨by rw[hres.out];rfl,hbw⟩
end
section
variable {w w':World} {lo p:Nat} {A:Tr} {num:Int} {rt:Bool} {lv nv rv:Value} {NR RR:List (List Value)}
theorem U1 {P:Program} {f:FuncId} {args:Array Value} {w:World} {n:Nat} {v:Value} (h:Calls P f args (w.drewN n) fun e w'=>e=.returned v/\w.drewN n=w'):Calls P f args (w.drewN n) fun e w''=>e=.returned v/\ ∃ m,w''=w.drewN m:=
 h.mono fun _ _ ⟨he,hm⟩=>⟨he,n,hm.symm⟩
theorem rx {n:Int} {k:Nat} (h:Od n k):n < ((k+1:Nat):Int):=by
 rcases h with h|h
 .omega
 .have:=h.2;omega
theorem Od.ge {n:Int} {k:Nat} (h:Od n k): -1<=n:=by
 rcases h with h|h
 .omega
 .have:=h.1;omega
theorem Po {k o:Int} {b:Bool} (h:Vr k o=b) (w:World):Calls prog 119 #[.int .i64 k,.int .i64 o] w fun e w'=>e=.returned (.bool b)/\w=w':=h ▸ Fp k o w
theorem YE {B:Nat} {a w:World} (h:Below B a w) (n:Nat):Below B a (w.drewN n):=⟨h.os,h.tape,h.output,h.size,h.block⟩
def jA (A:Tr) (k:Int) (s:ByteArray) (R:Int) (W:World) (ix:Value) (wr:World):Prop:= ∃ (f:Nat) (ov:Int),ix=.int .i64 ov/\Od ov A.ns.length/\ov < f/\A.WT k s f ov=R/\Below W.heap.size W wr
theorem IU (M:Wi w lo p A num rt lv nv rv NR RR) (W:E6 A) {n:Nat} (hn:n < A.ns.length):Calls prog 96 #[p,.int .i64 n] w fun e w'=>e=.returned (.int .i64 (A.WT (A.kd n) (A.nd n).h.target (A.ns.length+1) (A.rw (A.nd n).list).owner))/\Below w.heap.size w w':=by
 obtain⟨g,cap,rfl⟩:=M.Kd (by omega);obtain⟨gr,ru,rfl⟩:=M.yh W.one;have hok:Ok (n:Int) A.ns.length:=⟨by omega,by omega⟩
 obtain⟨l,hl,hll⟩:=(W.list hok).cast;obtain⟨X,hX0⟩: ∃ X:Nd,X= { A.nd (n:Int)with target:=A.tgt (n:Int) } :=⟨_,rfl⟩
 obtain⟨Xvb,Xve,Xvc,Xcv,Xtv,Xov,hX⟩:=M.nd hn;obtain⟨CA,Cz,Cy,rfl⟩:=hX.vb;obtain⟨Cw,Cu,Cs,rfl⟩:=hX.ve;obtain⟨Cr,Cq,Cp,rfl⟩:=hX.vc;obtain⟨d0,d1,d2,d3,d4,d5,d6,d7,d8,d9,d10,d11,d12,_,_,_,_,_,_,_,_,_,_,_⟩:=hX.all;dsimp only at d0 d1 d2 d3 d4 d5 d6 d7 d8 d9 d10 d11 d12;rw[hl]at d12;obtain⟨iv,hR⟩:=M.rw hll;have r0:=hR.cell 0 _ rfl;simp only[Zn]at r0;have q1:=M.t.blk.cell 1 rfl;have q2:=M.t.blk.cell 2 rfl;have hlo:=M.t.blk.lt;have hgl:=(M.t.n.lt g rfl).2;have Z9O:=(M.t.r.lt gr rfl).2;have HM:=Z5 M;rw[hl];unfold Tr.kd;generalize hH:(A.nd (n:Int)).h=H at d0 d1 d2 d3 d4 d5 d6 d7 ⊢;have HH:=X7 hX0 hl hH;have IQ:=W.owner (n:=(l:Int)) ⟨by omega,by omega⟩;have hup:=W.up hok;rw[hl]at hup;obtain⟨ow,how⟩: ∃ ow:Int,ow=(A.rw (l:Int)).owner:=⟨_,rfl⟩
 rw[<-how]at r0 IQ hup ⊢;have HW:=Z5 W;clear hX0 hl hH M hX hR how W;obtain⟨hk0,hk1,hk2,hk3,hk4,hk5,hk6,YJ⟩:=H;dsimp only at d0 d1 d2 d3 d4 d5 d6 d7 ⊢;have hxb:=ZD.new w [.int .i64 hk0,hk1,hk2,hk3,hk4,hk5,hk6,YJ,.slice CA Cz Cy,.slice Cw Cu Cs,.slice Cr Cq Cp] 76;have hb1:Below w.heap.size w (w.alloc (.cells [.int .i64 hk0,.string hk1,.string hk2,.bool hk3,.bool hk4,.bool hk5,.bool hk6,.bool YJ,.slice CA Cz Cy,.slice Cw Cu Cs,.slice Cr Cq Cp].toArray 76)):=(ZN _ _).alloc (Z7 _) _;have HB:=Zl hxb hb1;clear hxb hb1;go_enter func96,ntmps96;go_wp2_with fail
 go_quiet (fail)
 go_wp2_with fail
 go_loopw [6] (fun ix wr=>jA A hk0 hk2 (A.WT hk0 hk2 (A.ns.length+1) ow) (w.alloc (.cells [.int .i64 hk0,.string hk1,.string hk2,.bool hk3,.bool hk4,.bool hk5,.bool hk6,.bool YJ,.slice CA Cz Cy,.slice Cw Cu Cs,.slice Cr Cq Cp].toArray 76)) ix wr) (fun ix _=>(intOf ix+1).toNat)
 case atStart=>exact⟨A.ns.length+1,ow,rfl,IQ,rx IQ,rfl,YE (ZN _ _) _⟩
 case round=>
  obtain⟨f,ov,rfl,hO,hlt,hres,hbw⟩:=hrel;have hres:=Z5 hres;have hsz:w.heap.size+1<=wr.heap.size:=by have:=hbw.size;simpa using this
  have hbw0:=HB.out.2.trans (hbw.mono HB.out.2.size);by_cases hov:ov= -1
  .subst hov;have he:A.WT hk0 hk2 (A.ns.length+1) ow= -1:=by rw[<-hres.out];cases f<;>simp[Tr.WT]
   have he:=Z5 he;have hbw0:=Z5 hbw0;clear hbw;go_wp2_with fail
   go_ret;exact⟨by rw[he.out];rfl,hbw0.out⟩
  .obtain⟨o,rfl,ho⟩:=(hO.ok hov).cast;obtain⟨f,rfl⟩: ∃ f',f=f'+1:=⟨f -1,by omega⟩
   have jz:Ok (o:Int) A.ns.length:=⟨by omega,by omega⟩
   obtain⟨l2,hl2,rr⟩:=(HW.out.list jz).cast;have yg:=HW.out.up jz;have LZ:=HW.out.owner (n:=(l2:Int)) ⟨by omega,by omega⟩;rw[hl2]at yg;obtain⟨Yvb,Yve,Yvc,Ycv,Ytv,Yov,hY⟩:=(HM.out.low hbw0).nd ho;obtain⟨e0,e1,_,_,_,_,_,_,_,_,_,_,e12,_,_,_,_,_,_,_,_,_,_,_⟩:=hY.all;dsimp only at e0 e1 e12;rw[hl2]at e12;obtain⟨iv2,hR2⟩:=(HM.out.low hbw0).rw rr;have r2:=hR2.cell 0 _ rfl;simp only[Zn]at r2;have p1:=(HM.out.low hbw0).t.blk.cell 1 rfl;have p2:=(HM.out.low hbw0).t.blk.cell 2 rfl;have x0:=(U4 HB.out.1 hbw).cell 0 rfl;have x2:=(U4 HB.out.1 hbw).cell 2 rfl;have jy:g < wr.heap.size:=by omega
   have Z7Q:gr < wr.heap.size:=by omega
   have hlo2:p < wr.heap.size:=by omega
   have hal:aims hk0 hk2 (A.nd (o:Int)).h=(Vr hk0 (A.nd (o:Int)).h.kind&&(decide (hk2.size=0)||decide (hk2=(A.nd (o:Int)).h.label))):=by
    unfold aims Vr;simp only[Bool.decide_and,Bool.decide_or]
   have hstep:A.WT hk0 hk2 (f+1) (o:Int)=if aims hk0 hk2 (A.nd (o:Int)).h=true then(o:Int)else A.WT hk0 hk2 f (A.rw (A.nd (o:Int)).list).owner:=by
    conv=>lhs;unfold Tr.WT
    rw[if_neg (by omega)]
   rw[hl2]at hstep;obtain⟨vy,Kc⟩: ∃ vy:Int,vy=(A.rw (l2:Int)).owner:=⟨_,rfl⟩
   rw[<-Kc]at r2 LZ yg hstep;generalize(A.nd (o:Int)).h=H2 at e0 e1 hal hstep;obtain⟨m0,m1,m2,m3,m4,m5,m6,m7⟩:=H2;dsimp only at e0 e1 hal;have HS:=Zl hal hstep;have pW:=Zl hbw hbw0;clear hal hstep hbw hbw0 hY hR2 Kc hl2 d0 d1 d2 d3 d4 d5 d6 d7 d8 d9 d10 d11 d12 r0 q1 q2;cases hai:Vr hk0 m0 with
   |false=>
    have hai:=Z5 hai;have hna: ¬ aims hk0 hk2 ⟨m0,m1,m2,m3,m4,m5,m6,m7⟩=true:=by rw[HS.out.1,hai.out];simp
    have hna:=Z5 hna;go_wp2_with fail
    go_quiet ((go_at_call 119;exact U1 (Po hai.out _)))
    go_wp2_with fail
    go_quiet (fail)
    go_wp2_with fail
    exact⟨⟨f,vy,rfl,LZ,by omega,by rw[<-hres.out,HS.out.2,if_neg hna.out],by first|exact YE pW.out.1 _|exact YE (YE pW.out.1 _) _⟩,by simp[intOf];have:=Od.ge LZ;omega⟩
   |true=>
    have hai:=Z5 hai;by_cases h0:hk2.size=0
    .obtain rfl:=Vx h0;have he:A.WT hk0 ByteArray.empty (A.ns.length+1) ow=(o:Int):=by rw[<-hres.out,HS.out.2,if_pos (by rw[HS.out.1,hai.out];rfl)]
     have he:=Z5 he;go_wp2_with fail
     go_quiet ((go_at_call 119;exact U1 (Po hai.out _)))
     go_wp2_with fail
     go_ret;exact⟨by rw[he.out];rfl,YE pW.out.2 _⟩
    .have n1:=Wa h0;have n2:=Wu h0;by_cases heq:(hk2.toList==m1.toList)=true
     .have hq:hk2=m1:=bytes_inj (eq_of_beq heq);have he:A.WT hk0 hk2 (A.ns.length+1) ow=(o:Int):=by rw[<-hres.out,HS.out.2,if_pos (by rw[HS.out.1,hai.out];simp[hq])]
      have he:=Z5 he;clear hq;go_wp2_with fail
      go_quiet ((go_at_call 119;exact U1 (Po hai.out _)))
      go_wp2_with fail
      go_ret;exact⟨by rw[he.out];rfl,YE pW.out.2 _⟩
     .have heq':(hk2.toList==m1.toList)=false:=by simpa using heq
      have hna: ¬ aims hk0 hk2 ⟨m0,m1,m2,m3,m4,m5,m6,m7⟩=true:=by
       rw[HS.out.1,hai.out];have hq: ¬ hk2=m1:=fun h=>heq (by rw[h];simp);simp[h0,hq]
      have hna:=Z5 hna;clear heq;go_wp2_with fail
      go_quiet ((go_at_call 119;exact U1 (Po hai.out _)))
      go_wp2_with fail
      go_quiet (fail)
      go_wp2_with fail
      exact⟨⟨f,vy,rfl,LZ,by omega,by rw[<-hres.out,HS.out.2,if_neg hna.out],by first|exact YE pW.out.1 _|exact YE (YE pW.out.1 _) _⟩,by simp[intOf];have:=Od.ge LZ;omega⟩
end
section
variable {w w':World} {lo p:Nat} {A:Tr} {num:Int} {rt:Bool} {lv nv rv:Value} {NR RR:List (List Value)}
def rq (A:Tr) (s:ByteArray) (W:World) (e:Ending) (w':World):Prop:= ∃ r:Int,e=.returned (.int .i64 r)/\(r= -1\/r=A.Wo s)/\Below W.heap.size W w'
def jw (A:Tr) (W:World) (ix:Value) (wr:World):Prop:= ∃ ov:Int,ix=.int .i64 ov/\Od ov A.ns.length/\Below W.heap.size W wr
def jv (b:Nat) (W:World) (ix:Value) (wr:World):Prop:= ∃ k:Nat,ix=.int .i64 k/\(k<=b\/True)/\Below W.heap.size W wr
theorem VQ {a b c:World} (h:Below a.heap.size a b) (k:Below b.heap.size b c):Below a.heap.size a c:=h.trans (k.mono h.size)
theorem E6.Co {A:Tr} (W:E6 A) {n:Nat} (hn:n < A.ns.length): ∃ l pl:Nat,(A.nd n).list=l/\(A.nd n).place=pl/\l < A.rs.length/\pl < (A.rw l).nodes.length/\(A.rw l).nodes.length<=A.ns.length/\(∀ q∈(A.rw l).nodes,Ok q A.ns.length)/\Od (A.rw l).owner A.ns.length/\(A.rw l).owner < n:=by
 have hx:=Z9 hn;have hN:=W.n n _ hx;rw[<-W8 hx]at hN;obtain⟨l,hl,hll⟩:=hN.list.cast;have hp:=hN.place;have hh:=ZH hN.here;have hr:=W.r l _ (Z9 hll);rw[<-WY (Z9 hll)]at hr;have hu:=hN.up;rw[hl]at hh hu;exact⟨l,(A.nd n).place.toNat,hl,by omega,hll,hh,hr.len,hr.nodes,hr.owner,hu⟩
theorem E4 (M:Wi w lo p A num rt lv nv rv NR RR) (W:E6 A) {n:Nat} (hn:n < A.ns.length):Calls prog 97 #[p,.int .i64 n] w (rq A (A.nd n).h.target w):=by
 obtain⟨g,cap,rfl⟩:=M.Kd (by omega);obtain⟨gr,ru,rfl⟩:=M.yh W.one;obtain⟨_,_,_,_,_,_,pV⟩:=M.nd hn;obtain⟨_,_,d2,_,_,_,_,_,_,_,_,_,_,_,_,_,_,_,_,_,_,_,_,_⟩:=pV.all;dsimp only at d2;have q1:=M.t.blk.cell 1 rfl;have HM:=Z5 M;have HW:=Z5 W;have hnl:=M.b.2.1;obtain⟨s,hs⟩: ∃ s:ByteArray,s=(A.nd (n:Int)).h.target:=⟨_,rfl⟩
 rw[<-hs]at d2 ⊢;have hlab:=Rg M s;obtain⟨tq,hto⟩: ∃ tq:Int,tq=A.Wo s:=⟨_,rfl⟩
 rw[<-hto]at hlab;have HL:=Zl hlab hto;have Z9N:tq= -1\/Ok tq A.ns.length:=by
  by_cases h:tq= -1
  .exact .inl h
  .exact .inr (hto ▸ Gv (hto ▸ h))
 clear M W pV hs hlab hto;go_enter func97,ntmps97;go_wp2_with fail
 refine HL.out.1.mono ?_;rintro e' w1 ⟨rfl,hb1⟩;rcases Z9N with h1|h1
 .subst h1;go_wp2_with fail
  go_ret;exact⟨-1,rfl,.inl rfl,hb1⟩
 .obtain⟨tn,rfl,htn⟩:=h1.cast;obtain⟨lt',pt,hlt1,hpt,Z9M,Z5F,hnn,hnq,hown,Z5E⟩:=HW.out.Co htn;have HT:=Xp hlt1 hpt hnq hown;clear hlt1 hpt hnq hown h1;have Z5D:pt<=90000:=by omega
  clear q1 d2;go_wp2_with fail
  go_loopw [6] (fun ix wr=>jw A w1 ix wr) (fun ix _=>(intOf ix+1).toNat)
  case atStart=>exact⟨n,rfl,.inr ⟨by omega,by omega⟩,ZN _ _⟩
  case round=>
   obtain⟨ov,rfl,hO,hbw⟩:=hrel;have hbw0:=VQ hb1 hbw;by_cases hov:ov= -1
   .subst hov;go_wp2_with fail
    go_ret;exact⟨-1,rfl,.inl rfl,hbw0⟩
   .obtain⟨o,rfl,ho⟩:=(hO.ok hov).cast;obtain⟨l2,p2,hl2,hp2,rr,hpl2,Z5C,Z9L,LZ,yg⟩:=HW.out.Co ho;have M2:=HM.out.low hbw0;obtain⟨_,_,_,_,_,_,heY⟩:=M2.nd ho;obtain⟨_,_,_,_,_,_,_,_,_,_,_,_,e12,e13,_,_,_,_,_,_,_,_,_,_⟩:=heY.all;dsimp only at e12 e13;obtain⟨_,_,_,_,_,_,hfY⟩:=M2.nd htn;obtain⟨_,_,_,_,_,_,_,_,_,_,_,_,f12,f13,_,_,_,_,_,_,_,_,_,_⟩:=hfY.all;dsimp only at f12 f13;rw[hl2]at e12;rw[hp2]at e13;rw[HT.out.1]at f12;rw[HT.out.2.1]at f13;obtain⟨iv2,hR2⟩:=M2.rw rr;have r2:=hR2.cell 0 _ rfl;simp only[Zn]at r2;have b1:=M2.t.blk.cell 1 rfl;have b2:=M2.t.blk.cell 2 rfl;obtain⟨vy,Kc⟩: ∃ vy:Int,vy=(A.rw (l2:Int)).owner:=⟨_,rfl⟩
    rw[<-Kc]at r2 LZ yg;have hgl:=(M2.t.n.lt g rfl).2;have Z9O:=(M2.t.r.lt gr rfl).2;have hpl:=M2.t.blk.lt;have HM2:=Z5 M2;have hpb:p2<=90000:=by omega
    clear M2 hR2 Kc hl2 hp2 Z9L heY hfY hov hO;by_cases hll:l2=lt'
    .subst hll;go_wp2_with fail
     go_quiet (fail)
     go_wp2_with fail
     obtain⟨wo,hwo⟩: ∃ wo:World,wo=wr:=⟨_,rfl⟩
     subst hwo
     go_loopw [7] (fun ix wr=>jv pt wo ix wr) (fun ix _=>pt -(intOf ix).toNat)
     case atStart=>exact⟨p2+1,by simp,.inr trivial,YE (ZN _ _) _⟩
     case round=>
      obtain⟨k,rfl,_,hbi⟩:=hrel;have rp:=VQ hbw0 hbi;have M3:=HM.out.low rp;obtain⟨_,_,_,_,_,_,hxY⟩:=M3.nd htn;obtain⟨_,_,_,_,_,_,_,_,_,_,_,_,x12,gE,_,_,_,_,_,_,_,_,_,_⟩:=hxY.all;dsimp only at x12 gE;rw[HT.out.1]at x12;rw[HT.out.2.1]at gE;have c1:=M3.t.blk.cell 1 rfl;have c2:=M3.t.blk.cell 2 rfl;have Z5B:=(M3.t.n.lt g rfl).2;have Z7P:=(M3.t.r.lt gr rfl).2;have Z5A:=M3.t.blk.lt;by_cases hk:k < pt
      .obtain⟨iv3,CD⟩:=M3.rw Z9M;obtain⟨gi,ci,rfl⟩:=XM CD.iv (by omega);have r3:=CD.cell 2 _ rfl;have hkl:k < (A.rw (l2:Int)).nodes.length:=by omega
       have hkk:=ZF CD.iv k (by omega);rw[Yt,Z9 hkl]at hkk;have hq:=HT.out.2.2.1 _ (List.getElem_mem hkl);obtain⟨q,hqe,ub⟩:=hq.cast;simp only[Y7]at hkk;rw[hqe]at hkk;have hgi:=(CD.iv.lt gi rfl).2;obtain⟨_,_,_,_,_,_,hzY⟩:=M3.nd ub;obtain⟨z0,_,_,_,_,_,_,_,_,_,_,_,_,_,_,_,_,_,_,_,_,_,_,_⟩:=hzY.all;dsimp only at z0;generalize(A.nd (q:Int)).h.kind=kq at z0;clear hzY hxY hqe hq CD M3 e12 e13 f12 f13 r2 b1 b2;by_cases h8:kq=8
       .subst h8;go_wp2_with fail
        go_quiet (fail)
        go_wp2_with fail
        go_ret;exact⟨-1,rfl,.inl rfl,YE rp _⟩
       .go_wp2_with fail
        go_quiet (fail)
        go_wp2_with fail
        exact⟨⟨k+1,by simp,.inr trivial,YE hbi _⟩,by simp[intOf];omega⟩
      .clear hxY e12 e13 f12 f13 r2 b1 b2;have HM3:=Z5 M3;clear M3;go_wp2_with fail
       go_ret;exact⟨_,rfl,.inr HL.out.2,rp⟩
    .go_wp2_with fail
     go_quiet (fail)
     go_wp2_with fail
     go_quiet (fail)
     go_wp2_with fail
     refine⟨?_,by simp[intOf];have:=Od.ge LZ;omega⟩
     (repeat apply Exists.intro)
     exact⟨⟨vy,rfl,LZ,by first|exact YE hbw _|exact YE (YE hbw _) _⟩,rfl⟩
end
section
variable {w w':World} {lo p:Nat} {A:Tr} {num:Int} {rt:Bool} {lv nv rv:Value} {NR RR:List (List Value)}
def ro (A:Tr) (W:World) (e:Ending) (w':World):Prop:= ∃ r:Bool,e=.returned (.bool r)/\(r=true-> ∀ i:Nat,i < A.ns.length->0 < (A.nd i).h.label.size->A.Wo (A.nd i).h.label=i)/\Below W.heap.size W w'
def rm (A:Tr) (W:World) (ix:Value) (wr:World):Prop:= ∃ k:Nat,ix=.int .i64 k/\k<=A.ns.length/\(∀ i:Nat,i < k->0 < (A.nd i).h.label.size->A.Wo (A.nd i).h.label=i)/\Below W.heap.size W wr
def ju (n:Nat) (W:World) (ux ix:Value) (wr:World):Prop:= ∃ (k:Nat) (u:Bool),ux=.bool u/\ix=.int .i64 k/\k<=n/\Below W.heap.size W wr
theorem E3 (M:Wi w lo p A num rt lv nv rv NR RR) (hlim: ∀ i:Nat,i < A.ns.length->(A.nd i).h.label.size<=9223372036854775807):Calls prog 82 #[p] w (ro A w):=by
 obtain⟨na,nc,rfl⟩:=M.nvs;have c1:=M.t.blk.cell 1 rfl;have hb2:=M.b.2.1;have HM:=Z5 M;have Z9K:=Z5 hlim;clear M hlim;go_enter func82,ntmps82;go_wp2_with fail
 go_loopw [13] (fun ix wr=>rm A w ix wr) (fun ix _=>A.ns.length -(intOf ix).toNat)
 case atStart=>exact⟨0,rfl,by omega,fun i hi=>by omega,ZN _ _⟩
 case round=>
  obtain⟨k,rfl,hk,hno,hbw⟩:=hrel;have hno:=Z5 hno;have hsz:=hbw.size;by_cases hlt:k < A.ns.length
  .obtain⟨g,cap,V9⟩:=HM.out.Kd (by omega);simp only[Value.slice.injEq,true_and]at V9;obtain⟨rfl,rfl⟩:=V9;obtain⟨X,hX0⟩: ∃ X:Nd,X= { A.nd (k:Int)with target:=A.tgt (k:Int) } :=⟨_,rfl⟩
   obtain⟨Xvb,Xve,Xvc,Xcv,Xtv,Xov,hX⟩:=(HM.out.low hbw).nd hlt;rw[<-hX0]at hX;have HX0:=Z5 hX0;clear hX0;obtain⟨CA,Cz,Cy,rfl⟩:=hX.vb;obtain⟨Cw,Cu,Cs,rfl⟩:=hX.ve;obtain⟨Cr,Cq,Cp,rfl⟩:=hX.vc;obtain⟨rH,rG,rfl⟩:=ZR hX.cv;obtain⟨rF,rD,rfl⟩:=ZR hX.tv;obtain⟨rz,ry,rfl⟩:=ZR hX.ov;have HX:=Z5 hX;clear hX;have hXl:=Z9K.out k hlt;have hXh:X.h=(A.nd (k:Int)).h:=by rw[HX0.out]
   have HXh:=Z5 hXh;rw[<-hXh]at hXl;clear hXh;go_upto_region 3 with fail
   refine wp_region_lit ?_;refine wpList_plain rfl fun K hK=>?_;go_simp;refine hK _ _ ?_;clear hK K;refine wpList_plain rfl fun K hK=>?_;go_simp;refine hK _ _ ?_;clear hK K;refine WX rfl 79 (.tmp 16) rfl (g:=g) (o:=k*24) rfl (ZQ X (.slice CA Cz Cy) (.slice Cw Cu Cs) (.slice Cr Cq Cp) (.slice rH X.choices.length rG) (.slice rF X.tests.length rD) (.slice rz X.YY.length ry)) HX.out.cell _ underlying79 rfl (by kernel_rfl) ?_;refine XU rfl 79 rfl Tf (XR _) ?_;intro wa hza hba;refine wpList_plain rfl fun K hK=>?_;go_simp;refine hK _ _ ?_;clear hK K;refine XT rfl 79 (.tmp 4) (.tmp 17) rfl rfl hza (ZQ X (.slice CA Cz Cy) (.slice Cw Cu Cs) (.slice Cr Cq Cp) (.slice rH X.choices.length rG) (.slice rF X.tests.length rD) (.slice rz X.YY.length ry)) rfl rfl (by kernel_rfl) (by simp[Value.oneCell',ZQ]) ?_;intro wb hzb hbb;have e1:=hzb.cell 1 rfl;have yd:Below w.heap.size w wb:=(hbw.trans (hba.mono hsz)).trans (hbb.mono hsz);have hsb:=yd.size;have hgw:=(HM.out.t.n.lt g rfl).2;have HB:=Zl yd hzb;have M2:=HM.out.low yd;have c12:=M2.t.blk.cell 1 rfl;have HM2:=Z5 M2;clear M2 hba hza hbb hzb yd;by_cases h0:X.h.label.size=0
   .have hle:X.h.label.toList= []:=M8 h0;have hle2:X.h.label.toList.isEmpty=true:=by rw[hle];rfl
    have hle3:(X.h.label.toList== [])=true:=by rw[hle];rfl
    go_wp2_with fail
    exact⟨⟨k+1,by simp,by omega,fun i hi hl=>by
     by_cases e:i < k
     .exact hno.out i e hl
     .have:i=k:=by omega
      subst this;rw[<-HXh.out]at hl;omega,HB.out.1⟩,by simp[intOf];omega⟩
   .have n1:=Wa h0;have n2:=Wu h0;go_wp2_with fail
    refine(I6 _ hXl _).mono ?_;rintro e' w5 ⟨⟨r,rfl⟩,rfl⟩;cases r with
    |false=>
     go_wp2_with fail
     go_ret;exact⟨false,rfl,fun h=>absurd h (by decide),HB.out.1⟩
    |true=>
     have hlab:=Z5 (Rg HM2.out X.h.label);obtain⟨q,hq⟩: ∃ q:Int,q=A.Wo X.h.label:=⟨_,rfl⟩
     rw[<-hq]at hlab;have hq:=Z5 hq;go_wp2_with fail
     refine hlab.out.mono ?_;rintro e' w6 ⟨rfl,hb6⟩;by_cases hqk:q=(k:Int)
     .have Z9J:(q !=(k:Int))=false:=by simpa using hqk
      have hqk:=Z5 hqk;have rk:=VQ HB.out.1 hb6;have M6:=HM.out.low rk;have c16:=M6.t.blk.cell 1 rfl;have hx6:=U4 HB.out.2 hb6;have jt:=X7 hx6 M6 rk;clear hx6 M6 rk;go_wp2_with fail
      go_loopw [5,41] (fun ux ix wr=>ju A.ns.length w6 ux ix wr) (fun _ ix _=>A.ns.length -(intOf ix).toNat)
      case atStart=>exact⟨0,false,rfl,rfl,by omega,ZN _ _⟩
      case round=>
       obtain⟨j,u,rfl,rfl,hj,hbi⟩:=hrel;have hsz2:=hbi.size;have hx7:=(U4 jt.out.1 hbi).cell 1 rfl;by_cases hjl:j < A.ns.length
       .skip
        obtain⟨Y,hY0⟩: ∃ X:Nd,X= { A.nd (j:Int)with target:=A.tgt (j:Int) } :=⟨_,rfl⟩
        obtain⟨Yvb,Yve,Yvc,Ycv,Ytv,Yov,hY⟩:=(jt.out.2.1.low hbi).nd hjl;rw[<-hY0]at hY;have HY0:=Z5 hY0;clear hY0;obtain⟨Yb0,Yb1,Yb2,rfl⟩:=hY.vb;obtain⟨Ye0,Ye1,Ye2,rfl⟩:=hY.ve;obtain⟨Yc0,Yc1,Yc2,rfl⟩:=hY.vc;obtain⟨Yf0,Yf2,rfl⟩:=ZR hY.cv;obtain⟨Yt0,Yt2,rfl⟩:=ZR hY.tv;obtain⟨Yo0,Yo2,rfl⟩:=ZR hY.ov;have HY:=Z5 hY;clear hY;go_upto_region 10 with fail
        refine wp_region_lit ?_;refine wpList_plain rfl fun K hK=>?_;go_simp;refine hK _ _ ?_;clear hK K;refine WX rfl 79 (.tmp 43) rfl (g:=g) (o:=j*24) rfl (ZQ Y (.slice Yb0 Yb1 Yb2) (.slice Ye0 Ye1 Ye2) (.slice Yc0 Yc1 Yc2) (.slice Yf0 Y.choices.length Yf2) (.slice Yt0 Y.tests.length Yt2) (.slice Yo0 Y.YY.length Yo2)) HY.out.cell _ underlying79 rfl (by kernel_rfl) ?_;refine XU rfl 79 rfl Tf (XR _) ?_;intro wc hzc hbc;refine XT rfl 79 (.tmp 7) (.tmp 44) rfl rfl hzc (ZQ Y (.slice Yb0 Yb1 Yb2) (.slice Ye0 Ye1 Ye2) (.slice Yc0 Yc1 Yc2) (.slice Yf0 Y.choices.length Yf2) (.slice Yt0 Y.tests.length Yt2) (.slice Yo0 Y.YY.length Yo2)) rfl rfl (by kernel_rfl) (by simp[Value.oneCell',ZQ]) ?_;intro wd hzd hbd;have e2:=hzd.cell 2 rfl;have xZ:Below w6.heap.size w6 wd:=(hbi.trans (hbc.mono hsz2)).trans (hbd.mono hsz2);have hx8:=(U4 jt.out.1 xZ).cell 1 rfl;have HI:=Z5 xZ;have hsi:=xZ.size;clear hx7 xZ hbc hzc hbd;cases u with
        |true=>
         go_wp2_with fail
         exact⟨⟨_,_,_,⟨j+1,true,rfl,by simp,by omega,HI.out⟩,rfl,rfl,rfl⟩,by simp[intOf];omega⟩
        |false=>
         obtain⟨q2,hq2⟩: ∃ q2:Bool,(Y.h.target.toList==X.h.label.toList)=q2:=⟨_,rfl⟩
         cases q2 with
         |true=>
          go_wp2_with fail
          exact⟨⟨_,_,_,⟨j+1,true,rfl,by simp,by omega,HI.out⟩,rfl,rfl,rfl⟩,by simp[intOf];omega⟩
         |false=>
          go_wp2_with fail
          exact⟨⟨_,_,_,⟨j+1,false,rfl,by simp,by omega,HI.out⟩,rfl,rfl,rfl⟩,by simp[intOf];omega⟩
       .cases u with
        |false=>
         go_wp2_with fail
         go_ret;exact⟨false,rfl,fun h=>absurd h (by decide),VQ jt.out.2.2 hbi⟩
        |true=>
         go_wp2_with fail
         exact⟨⟨k+1,by simp,by omega,fun i hi hl=>by
          by_cases e:i < k
          .exact hno.out i e hl
          .have:i=k:=by omega
           subst this;rw[<-HXh.out];exact hq.out.symm.trans hqk.out,VQ jt.out.2.2 hbi⟩,by simp[intOf];omega⟩
     .have Z9J:(q !=(k:Int))=true:=by simpa using hqk
      go_wp2_with fail
      go_ret;exact⟨false,rfl,fun h=>absurd h (by decide),VQ HB.out.1 hb6⟩
  .go_wp2_with fail
   go_ret;exact⟨true,rfl,fun _ i hi=>hno.out i (by omega),hbw⟩
end
end Go.Proofs.YteedbaejpdjilaaGreat
