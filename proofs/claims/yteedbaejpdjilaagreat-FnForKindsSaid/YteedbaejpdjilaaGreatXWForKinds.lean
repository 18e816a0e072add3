/- Part of the proof: WForKinds. -/
import Derived.Test.YteedbaejpdjilaaGreatXEnd
import Derived.Test.YteedbaejpdjilaaGreatXRe
import Derived.Test.YteedbaejpdjilaaGreatXRf
set_option linter.all false
set_option maxRecDepth 100000
set_option maxHeartbeats 4000000
namespace Go.Proofs.YteedbaejpdjilaaGreat
open Go.RowKit
theorem AV (args:Array Value) (w:World):(callFunc 52 args).run Tryz.prog w=.ok (.enter 52 args) w:=by kernel_rfl
theorem jc {W:World} {P:Pc} {la sa:Option Addr} {lc sc j b:Nat} {n:Int} (h1:P.kind=5) (h2:P.of=n) (hb:ZV W b [.int .i64 n] 3):Calls Tryz.prog 52 (#[Ir P la sa lc sc,.int .i64 j]++ #[.pointer (some ⟨b,0,none⟩)]) W fun e w'=>e=.returned (.bool true)∧Below W.heap.size W w':=by
 unfold Ir;rw[h1,h2];have HB:=Z9 (Wj (W:=W) [.slice la P.leaves.length lc,.slice sa P.succs.length sc,.int .i64 P.index,P.live,.int .i64 5,.int .i64 n,P.Zn]);have hbc:=(HB.out.cell (p:=⟨b,0,none⟩) hb.lt).trans (hb.cell 0 rfl);go_enter Tryz.func52,Tryz.ntmps52;go_wp2_with fail
 go_ret;exact⟨by simp,HB.out⟩
theorem zK:ML 12:=by
 intro t hl w v n hn h;have HR:=Z9 (readB hl h);have HS:=Z9 h;obtain⟨va,vn,vc,rfl⟩:=h.sl;clear h hl;go_enter Tryz.func12,Tryz.ntmps12;go_wp2_with fail
 refine HR.out.mono ?_;rintro e' w1 ⟨p,rt,lo,rfl,hc,hb,hg⟩;have hg:=Z9 hg;go_wp2_with fail
 refine(YZ hc).mono ?_;rintro e' w2 ⟨rfl,rfl⟩;cases rt with
 |false=>
  go_wp2_with fail
  go_ret;exact⟨rfl,hb⟩
 |true=>
  obtain⟨A,S,S3,c,X,R,hT⟩:=hg.out rfl;have hT:=Z9 hT;clear hg;go_wp2_with fail
  refine(Yf hT.out).mono ?_;rintro e' w2 ⟨rfl,rfl⟩;go_wp2_with fail
  refine(YT _ _ _).mono ?_;rintro e' w2 ⟨rfl,rfl⟩;by_cases hin:0<=n∧n < (A.ls.length:Int)
  ·obtain⟨x,rfl,hx⟩:=Ok.cast hin;rw[decide_eq_true hin];clear hin;go_wp2_with fail
   refine(EU hT.out R.wf hx).mono ?_;rintro e' w2 ⟨rfl,hb2⟩;have hT2:=Z9 (hT.out.low hb2);have hb4:=hb.trans (hb2.mono hb.size);obtain⟨kd,hkd⟩: ∃ kd,Hid (kd=A.kd (A.lf x).of):=⟨_,Z9 rfl⟩
   obtain⟨nb,hnb⟩: ∃ nb,Hid (nb=(A.nd (A.lf x).of).number):=⟨_,Z9 rfl⟩
   obtain⟨he,hhe⟩: ∃ he,Hid (he=(A.nd (A.lf x).of).h.hasElse):=⟨_,Z9 rfl⟩
   rw[<-hkd.out,<-hnb.out,<-hhe.out];have HN:=ZL (hb4.alloc hb4.size (.cells [.int .i64 nb].toArray 3)) (ZV.new w2 [.int .i64 nb] 3);have n0:=HN.out.2.cell 0 rfl;by_cases hk:kd=11
   ·subst hk;go_wp2_with fail
    refine(Vh (hT2.out.low (RG [.int .i64 nb] 3)) R.wf hx).mono ?_;rintro e' w5 ⟨rfl,hb5⟩;have hz5:=hb5.size;have HN5:=ZL (HN.out.1.trans (hb5.mono HN.out.1.size)) (ZC HN.out.2 hb5);have n5:=HN5.out.2.cell 0 rfl;cases hd:A.Ws x with
    |false=>
     go_wp2_with fail
     go_ret;exact⟨rfl,HN5.out.1⟩
    |true=>
     have hd:=Z9 hd;go_wp2_with fail
     refine(VB R (HS.out.low HN5.out.1)).mono ?_;rintro e' w3 ⟨g,cap,rfl,hG,hb3⟩;have hbz:=HN5.out.1.size;have hW3:=HN5.out.1.trans (hb3.mono hbz);have hbz3:=hb3.size;have hbn:=ZC HN5.out.2 hb3;have hal:Below w.heap.size w (w3.alloc (.cells [.slice (some ⟨g,0,none⟩) S3.WG.length cap].toArray 39)):=hW3.alloc (by omega) _;have hGA:=hG.low (w':=w3.alloc (.cells [.slice (some ⟨g,0,none⟩) S3.WG.length cap].toArray 39)) ((Below.refl _ _).alloc (Nat.le_refl _) _);have HG:=Yt hal hGA (ZV.new w3 [.slice (some ⟨g,0,none⟩) S3.WG.length cap] 39) (XJ hbn (.cells [.slice (some ⟨g,0,none⟩) S3.WG.length cap].toArray 39));have g0:=HG.out.2.2.1.cell 0 rfl;clear hbn hal hGA hG hW3 hb3;have n6:=HG.out.2.2.2.cell 0 rfl;go_wp2_with fail
     refine(V9 HG.out.2.1 R.few.1 (R.stands hx) AV ?_).mono ?_
     ·intro i j P W la lc sa sc hP hx' hW hM;obtain⟨_,e1,e2⟩:=R.Em hP hx' hkd.out.symm hd.out;exact jc e1 (by rw[e2,hnb.out]) (ZC HG.out.2.2.2 hW)
     rintro e' w9 ⟨rfl,hb9⟩;have g9:=(ZC HG.out.2.2.1 hb9).cell 0 rfl;have n9:=(ZC HG.out.2.2.2 hb9).cell 0 rfl;have s9:=HG.out.1.size;have z9:=hb9.size;have H9:=Za (HG.out.1.trans (hb9.mono s9)) (HG.out.2.1.low hb9) hb9;have n10:=(XJ (ZC HG.out.2.2.2 hb9) (.cells [.int .i64 3,.int .i64 4].toArray 3)).cell 0 rfl;clear hb9;go_wp2_with fail
     refine(SX (H9.out.2.1.low (RG [.int .i64 3,.int .i64 4] 3)) R.few.1 (R.stands hx) (ZV.new w9 [.int .i64 3,.int .i64 4] 3) ?_).mono ?_
     ·intro i j P hP hx';have:=(R.Em hP hx' hkd.out.symm hd.out).1;rw[<-hnb.out]at this;exact this
     rintro e' w10 ⟨rfl,hb10⟩;go_wp2_with fail
     go_ret;exact⟨rfl,(H9.out.1.alloc H9.out.1.size _).trans (hb10.mono (by have:=H9.out.1.size;simp;omega))⟩
   ·have hq:(kd !=11)=true:=by simpa using hk
    clear hk;go_wp2_with fail
    go_ret;exact⟨rfl,HN.out.1⟩
  ·rw[decide_eq_false hin];go_wp2_with fail
   go_ret;exact⟨rfl,hb⟩
end Go.Proofs.YteedbaejpdjilaaGreat
