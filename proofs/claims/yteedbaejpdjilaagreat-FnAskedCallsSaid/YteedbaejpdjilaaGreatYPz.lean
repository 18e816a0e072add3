/- Part of the proof: NodB NodC. -/
import Derived.Test.YteedbaejpdjilaaGreatYPy
set_option linter.all false
set_option maxRecDepth 100000
set_option maxHeartbeats 40000000
namespace Go.Proofs.YteedbaejpdjilaaGreat
open Go.RowKit Tryz
section
variable {w:World} {B p m:Nat} {LS:List Lf} {VL Xh:List (List Value)} {num:Int} {rt:Bool} {lv nv rv XO Yu XY:Value} {a pl x N0:Nat} {b e c:T} {ba ea ca:Option Addr} {bc ec cc:Nat} {hk0:Int} {hk1 hk2:ByteArray} {hk3 hk4 hk5 hk6 YJ:Bool} {Q:Exit->Act->World->Prop} {nd:Nd} {cv tv ov:Value} {wx:World}
theorem rV {hc:Bool} (vH:hc=(hk4||hk0==10||hk0==12)) (hX:NX w B p lv nv rv [.int .i64 hk0,hk1,hk2,hk3,hk4,hk5,hk6,YJ,.slice ba b.len bc,.slice ea e.len ec,.slice ca c.len cc] x (ZQ nd (.slice ba b.len bc) (.slice ea e.len ec) (.slice ca c.len cc) cv tv ov) LS VL Xh num rt XO Yu XY wx) (hl:LS.length<=90000)
  (hK: ∀ wy XH (A:Act),Og p a pl w.heap.size N0 x A->NX w B p lv nv rv [.int .i64 hk0,hk1,hk2,hk3,hk4,hk5,hk6,YJ,.slice ba b.len bc,.slice ea e.len ec,.slice ca c.len cc] x (ZQ { nd with cnd:=YL (hc) LS.length } (.slice ba b.len bc) (.slice ea e.len ec) (.slice ca c.len cc) cv tv ov) (LS++if(hc)then [⟨N0,3,0⟩]else []) VL Xh num rt XH Yu XY wy->Code.wp prog (W9 7) Q A wy) {A:Act} (hA:Og p a pl w.heap.size N0 x A:=by assumption):Code.wp prog (W9 6) Q A wx:=by
 obtain⟨u,rfl⟩:=hA.out;have d0:=hX.s.cell 0 rfl;have d4:=hX.s.cell 4 rfl;have HX:=Z5 hX;clear hX;have HK:=Z5 hK;clear hK;conv=>arg 2;whnf
 refine wp_seq_k (fun K Rl=>?_);have HKK:=Z5 Rl;clear Rl;cases hk4 with
 |true=>
  obtain rfl:hc=true:=by simp[vH]
  clear vH;go_wp2_with fail
  refine(Xa HX.out.t (ZC hl (by decide)) ⟨N0,3,0⟩ true).mono ?_;rintro e' w5 ⟨XH,rfl,hT,hF,hO,hn⟩;have h5:=HX.out.call hT (hF.mono (by decide) (Z7 _)) hO hn (Nw.refl _ _) (Nw.refl _ _);have e5:=h5.xb.cell 16 rfl;have f5:=h5.xb.free 16;have H5:=Z5 h5;clear hT hF hO hn h5;go_wp2_with fail
  refine HKK.out _ _ ?_;refine HK.out _ XH _ Md ?_;exact H5.out.store 16 _
 |false=>
  by_cases h10:hk0=10
  .obtain rfl:hc=true:=by simp[vH,h10]
   clear vH;subst h10;go_wp2_with fail
   refine(Xa HX.out.t (ZC hl (by decide)) ⟨N0,3,0⟩ true).mono ?_;rintro e' w5 ⟨XH,rfl,hT,hF,hO,hn⟩;have h5:=HX.out.call hT (hF.mono (by decide) (Z7 _)) hO hn (Nw.refl _ _) (Nw.refl _ _);have e5:=h5.xb.cell 16 rfl;have f5:=h5.xb.free 16;have H5:=Z5 h5;clear hT hF hO hn h5;go_wp2_with fail
   refine HKK.out _ _ ?_;refine HK.out _ XH _ Md ?_;exact H5.out.store 16 _
  by_cases h12:hk0=12
  .obtain rfl:hc=true:=by simp[vH,h12]
   clear vH;subst h12;clear h10;go_wp2_with fail
   refine(Xa HX.out.t (ZC hl (by decide)) ⟨N0,3,0⟩ true).mono ?_;rintro e' w5 ⟨XH,rfl,hT,hF,hO,hn⟩;have h5:=HX.out.call hT (hF.mono (by decide) (Z7 _)) hO hn (Nw.refl _ _) (Nw.refl _ _);have e5:=h5.xb.cell 16 rfl;have f5:=h5.xb.free 16;have H5:=Z5 h5;clear hT hF hO hn h5;go_wp2_with fail
   refine HKK.out _ _ ?_;refine HK.out _ XH _ Md ?_;exact H5.out.store 16 _
  .obtain rfl:hc=false:=by simp[vH,h10,h12]
   clear vH;go_wp2_with fail
   rw[show(hk0==10||hk0==12)=false by simp[h10,h12]];refine(Xa HX.out.t (ZC hl (by decide)) ⟨N0,3,0⟩ false).mono ?_;rintro e' w5 ⟨XH,rfl,hT,hF,hO,hn⟩;have h5:=HX.out.call hT (hF.mono (by decide) (Z7 _)) hO hn (Nw.refl _ _) (Nw.refl _ _);have e5:=h5.xb.cell 16 rfl;have f5:=h5.xb.free 16;have H5:=Z5 h5;clear hT hF hO hn h5;go_wp2_with fail
   refine HKK.out _ _ ?_;refine HK.out _ XH _ Md ?_;exact H5.out.store 16 _
theorem rU {b1 o1 b2 o2 b3 o3:Nat} (hX:NX w B p lv nv rv [.int .i64 hk0,hk1,hk2,hk3,hk4,hk5,hk6,YJ,.slice ba b.len bc,.slice ea e.len ec,.slice ca c.len cc] x (ZQ nd (.slice ba b.len bc) (.slice ea e.len ec) (.slice ca c.len cc) cv tv ov) LS VL Xh num rt XO Yu XY wx) (s1:Zi (.slice ba b.len bc) b1 o1 b.len) (a1:b.At (YB w B) true b1 o1) (s2:Zi (.slice ea e.len ec) b2 o2 e.len) (a2:e.At (YB w B) true b2 o2) (s3:Zi (.slice ca c.len cc) b3 o3 c.len) (a3:c.At (YB w B) false b3 o3)
  (hK: ∀ wy VD (A:Act),Og p a pl w.heap.size N0 x A->(VD=true->rt=true/\Ql ⟨hk0,hk1,hk2,hk3,hk4,hk5,hk6,YJ⟩ b e c)->NX w B p lv nv rv [.int .i64 hk0,hk1,hk2,hk3,hk4,hk5,hk6,YJ,.slice ba b.len bc,.slice ea e.len ec,.slice ca c.len cc] x (ZQ nd (.slice ba b.len bc) (.slice ea e.len ec) (.slice ca c.len cc) cv tv ov) LS VL Xh num VD XO Yu XY wy->Code.wp prog (W9 9) Q A wy) {A:Act} (hA:Og p a pl w.heap.size N0 x A:=by assumption):Code.wp prog (W9 8) Q A wx:=by
 obtain⟨u,rfl⟩:=hA.out;have hcv: ∀ x y z,YB w B x y z->YB wx wx.heap.size x y z:=fun x y z h=>by
  have h1:=YB.below hX.f.below x y z h;have:=hX.hB;have:=hX.f.size;exact⟨by have:=h1.1;omega,h1.2⟩
 have HF:=Z5 (I3 ⟨hk0,hk1,hk2,hk3,hk4,hk5,hk6,YJ⟩ b e c wx _ _ _ b1 o1 b2 o2 b3 o3 s1 s2 (a2.mono hcv) s3 (a3.mono hcv));clear s1 a1 s2 a2 s3 a3 hcv;have d0:=hX.s.cell 0 rfl;have d1:=hX.s.cell 1 rfl;have d2:=hX.s.cell 2 rfl;have d3:=hX.s.cell 3 rfl;have d4:=hX.s.cell 4 rfl;have d5:=hX.s.cell 5 rfl;have d6:=hX.s.cell 6 rfl;have d7:=hX.s.cell 7 rfl;have d8:=hX.s.cell 8 rfl;have d9:=hX.s.cell 9 rfl;have d10:=hX.s.cell 10 rfl;have p4:=hX.t.blk.cell 4 rfl;have f4:=hX.t.blk.free 4;have HX:=Z5 hX;clear hX;have HK:=Z5 hK;clear hK;conv=>arg 2;whnf
 refine wp_seq_k (fun K Rl=>?_);have HKK:=Z5 Rl;clear Rl;cases rt with
 |false=>
  go_wp2_with fail
  refine HKK.out _ _ ?_;exact HK.out _ false _ Md (fun h=>absurd h (by decide)) (HX.out.mark false)
 |true=>
  go_wp2_with fail
  refine HF.out.mono ?_;rintro e' w5 ⟨⟨r,rfl,hr⟩,hbl⟩;have h5:=HX.out.low hbl;have e5:=h5.t.blk.cell 4 rfl;have f5:=h5.t.blk.free 4;have H5:=Z5 h5;have HR:=Z5 hr;clear hbl h5 hr p4 f4 d0 d1 d2 d3 d4 d5 d6 d7 d8 d9 d10;go_wp2_with fail
  refine HKK.out _ _ ?_;exact HK.out _ r _ Md (fun h=>⟨by trivial,HR.out h⟩) (H5.out.mark r)
end
section
variable {w:World} {B p m:Nat} {LS:List Lf} {VL Xh:List (List Value)} {num:Int} {rt:Bool} {lv nv rv XO Yu XY:Value} {a pl x N0:Nat} {b e c:T} {ba ea ca:Option Addr} {bc ec cc:Nat} {hk0:Int} {hk1 hk2:ByteArray} {hk3 hk4 hk5 hk6 YJ:Bool} {Q:Exit->Act->World->Prop} {nd:Nd} {cv tv ov:Value} {wx:World}
theorem rT {nm mm b1 o1:Nat} {hbf:Bool} (hhb:hbf=(hk0==10||hk0==11||hk0==12||hk0==16)) (hb:Ti b) (ho:nd.body= -1) (hX:NX w B p lv nv rv [.int .i64 hk0,hk1,hk2,hk3,hk4,hk5,hk6,YJ,.slice ba b.len bc,.slice ea e.len ec,.slice ca c.len cc] x (ZQ nd (.slice ba b.len bc) (.slice ea e.len ec) (.slice ca c.len cc) cv tv ov) LS VL Xh (nm:Int) rt XO Yu XY wx) (hSz:Sz mm LS VL Xh nm) (hm:mm+7*b.wt+4<=90000) (s1:Zi (.slice ba b.len bc) b1 o1 b.len) (a1:b.At (YB w B) true b1 o1)
  (hK: ∀ wy XH VO VM WF WU VD (A:Act),Og p a pl w.heap.size N0 x A->NX w B p lv nv rv [.int .i64 hk0,hk1,hk2,hk3,hk4,hk5,hk6,YJ,.slice ba b.len bc,.slice ea e.len ec,.slice ca c.len cc] x (ZQ { nd with body:=YL hbf Xh.length } (.slice ba b.len bc) (.slice ea e.len ec) (.slice ca c.len cc) cv tv ov) (LS++(if hbf then b.rd.l VL.length (Xh.length+1) LS.length nm Xh.length 0 else .none).ls) (VL++WF) (Xh++WU) ((nm+(if hbf then b.rd.l VL.length (Xh.length+1) LS.length nm Xh.length 0 else .none).it:Nat):Int) VD XH VO VM wy->YZ (Xt wy w.heap.size none) (if hbf then b.rd.l VL.length (Xh.length+1) LS.length nm Xh.length 0 else .none).ns WF->YZ (W7 wy w.heap.size none) (rowOf hbf N0 (-1) (if hbf then b.rd.l VL.length (Xh.length+1) LS.length nm Xh.length 0 else .none)) WU->Fr tT B wx wy->(VD=true->rt=true/\(hbf=true->b.fA))->Code.wp prog (W9 10) Q A wy) {A:Act} (hA:Og p a pl w.heap.size N0 x A:=by assumption):Code.wp prog (W9 9) Q A wx:=by
 obtain⟨u,rfl⟩:=hA.out;have HO:=Z5 ho;clear ho;have hcv: ∀ x y z,YB w B x y z->YB wx B x y z:=fun x y z h=>YB.below hX.f.below x y z h;have hwl:=hX.f.size;have HB:=Z5 (hb wx B p mm LS VL Xh nm rt XO Yu XY _ b1 o1 N0 (-1) hX.t hSz hm s1 (a1.mono hcv));clear s1 a1 hcv hSz hm hb;have d0:=hX.s.cell 0 rfl;have d8:=hX.s.cell 8 rfl;have HX:=Z5 hX;clear hX;have HK:=Z5 hK;clear hK;have CM:=Z5 hwl;clear hwl;conv=>arg 2;whnf
 refine wp_seq_k (fun K Rl=>?_);have HKK:=Z5 Rl;clear Rl;by_cases h10:hk0=10
 .obtain rfl:hbf=true:=by simp[hhb,h10]
  clear hhb;subst h10;go_wp2_with fail
  refine HB.out.mono ?_;rintro e' w5 ⟨rfl,hP⟩;obtain⟨XH,VO,VM,WF,WU,VD,h5,hn,hr,hF,hrt⟩:=HX.out.row hP;have e5:=h5.xb.cell 18 rfl;have f5:=h5.xb.free 18;have H5:=Wp h5 hn hr hF hrt;clear h5 hn hr hF hrt hP;go_wp2_with fail
  refine HKK.out _ _ ?_;obtain⟨h5,hn,hr,hF,hrt⟩:=H5.out;have hG:=h5.CQ 18 (.int .i64 Xh.length);exact HK.out _ XH VO VM WF WU VD _ Md (h5.store 18 _) (hn.nd hG (by decide) (by decide) CM.out) (hr.rw hG (by decide) CM.out) (hF.trans (hG.mono (by decide) (Z7 _))) (fun h=>⟨(hrt h).1,fun _=>(hrt h).2⟩)
 by_cases h11:hk0=11
 .obtain rfl:hbf=true:=by simp[hhb,h11]
  clear hhb;subst h11;clear h10;go_wp2_with fail
  refine HB.out.mono ?_;rintro e' w5 ⟨rfl,hP⟩;obtain⟨XH,VO,VM,WF,WU,VD,h5,hn,hr,hF,hrt⟩:=HX.out.row hP;have e5:=h5.xb.cell 18 rfl;have f5:=h5.xb.free 18;have H5:=Wp h5 hn hr hF hrt;clear h5 hn hr hF hrt hP;go_wp2_with fail
  refine HKK.out _ _ ?_;obtain⟨h5,hn,hr,hF,hrt⟩:=H5.out;have hG:=h5.CQ 18 (.int .i64 Xh.length);exact HK.out _ XH VO VM WF WU VD _ Md (h5.store 18 _) (hn.nd hG (by decide) (by decide) CM.out) (hr.rw hG (by decide) CM.out) (hF.trans (hG.mono (by decide) (Z7 _))) (fun h=>⟨(hrt h).1,fun _=>(hrt h).2⟩)
 by_cases h12:hk0=12
 .obtain rfl:hbf=true:=by simp[hhb,h12]
  clear hhb;subst h12;clear h10;clear h11;go_wp2_with fail
  refine HB.out.mono ?_;rintro e' w5 ⟨rfl,hP⟩;obtain⟨XH,VO,VM,WF,WU,VD,h5,hn,hr,hF,hrt⟩:=HX.out.row hP;have e5:=h5.xb.cell 18 rfl;have f5:=h5.xb.free 18;have H5:=Wp h5 hn hr hF hrt;clear h5 hn hr hF hrt hP;go_wp2_with fail
  refine HKK.out _ _ ?_;obtain⟨h5,hn,hr,hF,hrt⟩:=H5.out;have hG:=h5.CQ 18 (.int .i64 Xh.length);exact HK.out _ XH VO VM WF WU VD _ Md (h5.store 18 _) (hn.nd hG (by decide) (by decide) CM.out) (hr.rw hG (by decide) CM.out) (hF.trans (hG.mono (by decide) (Z7 _))) (fun h=>⟨(hrt h).1,fun _=>(hrt h).2⟩)
 by_cases h16:hk0=16
 .obtain rfl:hbf=true:=by simp[hhb,h16]
  clear hhb;subst h16;clear h10;clear h11;clear h12;go_wp2_with fail
  refine HB.out.mono ?_;rintro e' w5 ⟨rfl,hP⟩;obtain⟨XH,VO,VM,WF,WU,VD,h5,hn,hr,hF,hrt⟩:=HX.out.row hP;have e5:=h5.xb.cell 18 rfl;have f5:=h5.xb.free 18;have H5:=Wp h5 hn hr hF hrt;clear h5 hn hr hF hrt hP;go_wp2_with fail
  refine HKK.out _ _ ?_;obtain⟨h5,hn,hr,hF,hrt⟩:=H5.out;have hG:=h5.CQ 18 (.int .i64 Xh.length);exact HK.out _ XH VO VM WF WU VD _ Md (h5.store 18 _) (hn.nd hG (by decide) (by decide) CM.out) (hr.rw hG (by decide) CM.out) (hF.trans (hG.mono (by decide) (Z7 _))) (fun h=>⟨(hrt h).1,fun _=>(hrt h).2⟩)
 obtain rfl:hbf=false:=by simp[hhb,h10,h11,h12,h16]
 clear hhb;have q10:(hk0==10)=false:=by simpa using h10
 have q11:(hk0==11)=false:=by simpa using h11
 have q12:(hk0==12)=false:=by simpa using h12
 have q16:(hk0==16)=false:=by simpa using h16
 go_wp2_with fail
 refine HKK.out _ _ ?_;refine HK.out _ XO Yu XY [] [] rt _ Md ?_ .nil .nil (Fr.refl _ _ _) (fun h=>⟨h,fun h=>absurd h (by decide)⟩);have hq:=HX.out;simp only[Out.none,Zw,if_false,Y9,Zn];rw[show({ nd with body:=YL false Xh.length } :Nd)=nd by rw[show YL false Xh.length=nd.body from HO.out.symm]];exact hq
theorem yz {nm mm b2 o2:Nat} (hb:Ti e) (ho:nd.other= -1) (hX:NX w B p lv nv rv [.int .i64 hk0,hk1,hk2,hk3,hk4,hk5,hk6,YJ,.slice ba b.len bc,.slice ea e.len ec,.slice ca c.len cc] x (ZQ nd (.slice ba b.len bc) (.slice ea e.len ec) (.slice ca c.len cc) cv tv ov) LS VL Xh (nm:Int) rt XO Yu XY wx) (hSz:Sz mm LS VL Xh nm) (hm:mm+7*e.wt+4<=90000) (s2:Zi (.slice ea e.len ec) b2 o2 e.len) (a2:e.At (YB w B) true b2 o2)
  (hK: ∀ wy XH VO VM WF WU VD (A:Act),Og p a pl w.heap.size N0 x A->NX w B p lv nv rv [.int .i64 hk0,hk1,hk2,hk3,hk4,hk5,hk6,YJ,.slice ba b.len bc,.slice ea e.len ec,.slice ca c.len cc] x (ZQ { nd with other:=YL hk6 Xh.length } (.slice ba b.len bc) (.slice ea e.len ec) (.slice ca c.len cc) cv tv ov) (LS++(if hk6 then e.rd.l VL.length (Xh.length+1) LS.length nm Xh.length 0 else .none).ls) (VL++WF) (Xh++WU) ((nm+(if hk6 then e.rd.l VL.length (Xh.length+1) LS.length nm Xh.length 0 else .none).it:Nat):Int) VD XH VO VM wy->YZ (Xt wy w.heap.size none) (if hk6 then e.rd.l VL.length (Xh.length+1) LS.length nm Xh.length 0 else .none).ns WF->YZ (W7 wy w.heap.size none) (rowOf hk6 N0 (-1) (if hk6 then e.rd.l VL.length (Xh.length+1) LS.length nm Xh.length 0 else .none)) WU->Fr tT B wx wy->(VD=true->rt=true/\(hk6=true->e.fA))->Code.wp prog (W9 11) Q A wy) {A:Act} (hA:Og p a pl w.heap.size N0 x A:=by assumption):Code.wp prog (W9 10) Q A wx:=by
 obtain⟨u,rfl⟩:=hA.out;have HO:=Z5 ho;clear ho;have hcv: ∀ x y z,YB w B x y z->YB wx B x y z:=fun x y z h=>YB.below hX.f.below x y z h;have hwl:=hX.f.size;have HB:=Z5 (hb wx B p mm LS VL Xh nm rt XO Yu XY _ b2 o2 N0 (-1) hX.t hSz hm s2 (a2.mono hcv));clear s2 a2 hcv hSz hm hb;have d6:=hX.s.cell 6 rfl;have d9:=hX.s.cell 9 rfl;have HX:=Z5 hX;clear hX;have HK:=Z5 hK;clear hK;have CM:=Z5 hwl;clear hwl;conv=>arg 2;whnf
 refine wp_seq_k (fun K Rl=>?_);have HKK:=Z5 Rl;clear Rl;cases hk6 with
 |true=>
  go_wp2_with fail
  refine HB.out.mono ?_;rintro e' w5 ⟨rfl,hP⟩;obtain⟨XH,VO,VM,WF,WU,VD,h5,hn,hr,hF,hrt⟩:=HX.out.row hP;have e5:=h5.xb.cell 19 rfl;have f5:=h5.xb.free 19;have H5:=Wp h5 hn hr hF hrt;clear h5 hn hr hF hrt hP;go_wp2_with fail
  refine HKK.out _ _ ?_;obtain⟨h5,hn,hr,hF,hrt⟩:=H5.out;have hG:=h5.CQ 19 (.int .i64 Xh.length);exact HK.out _ XH VO VM WF WU VD _ Md (h5.store 19 _) (hn.nd hG (by decide) (by decide) CM.out) (hr.rw hG (by decide) CM.out) (hF.trans (hG.mono (by decide) (Z7 _))) (fun h=>⟨(hrt h).1,fun _=>(hrt h).2⟩)
 |false=>
  go_wp2_with fail
  refine HKK.out _ _ ?_;refine HK.out _ XO Yu XY [] [] rt _ Md ?_ .nil .nil (Fr.refl _ _ _) (fun h=>⟨h,fun h=>absurd h (by decide)⟩);have hq:=HX.out;simp only[Out.none,Zw,if_false,Y9,Zn];rw[show({ nd with other:=YL false Xh.length } :Nd)=nd by rw[show YL false Xh.length=nd.other from HO.out.symm]];exact hq
end
end Go.Proofs.YteedbaejpdjilaaGreat
