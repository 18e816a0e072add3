/- Part of the proof: WPostKind. -/
import Derived.Test.YteedbaejpdjilaaGreatXEnd
import Derived.Test.YteedbaejpdjilaaGreatXRe
import Derived.Test.YteedbaejpdjilaaGreatXRf
set_option linter.all false
set_option maxRecDepth 100000
set_option maxHeartbeats 4000000
namespace Go.Proofs.YteedbaejpdjilaaGreat
open Go.RowKit
theorem BF (args:Array Value) (w:World):(callFunc 56 args).run Tryz.prog w=.ok (.enter 56 args) w:=by kernel_rfl
theorem iW {W:World} {P:Pc} {la sa:Option Addr} {lc sc b:Nat} {n:Int} (h1:P.kind=6) (h2:P.of=n) (hb:ZV W b [.int .i64 n] 3):Calls Tryz.prog 56 (#[Ir P la sa lc sc,.int .i64 (0:Nat)]++ #[.pointer (some ⟨b,0,none⟩)]) W fun e w'=>e=.returned (.bool true)∧Below W.heap.size W w':=by
 unfold Ir;rw[h1,h2];have HB:=Z9 (Wj (W:=W) [.slice la P.leaves.length lc,.slice sa P.succs.length sc,.int .i64 P.index,P.live,.int .i64 6,.int .i64 n,P.Zn]);have hbc:=(HB.out.cell (p:=⟨b,0,none⟩) hb.lt).trans (hb.cell 0 rfl);go_enter Tryz.func56,Tryz.ntmps56;go_wp2_with fail
 go_ret;exact⟨by simp,HB.out⟩
theorem xX:ML 20:=by
 intro t hl w v n hn h;have HR:=Z9 (readB hl h);have HS:=Z9 h;obtain⟨va,vn,vc,rfl⟩:=h.sl;clear h hl;go_enter Tryz.func20,Tryz.ntmps20;go_wp2_with fail
 refine HR.out.mono ?_;rintro e' w1 ⟨p,rt,lo,rfl,hc,hb,hg⟩;have hg:=Z9 hg;go_wp2_with fail
 refine(YZ hc).mono ?_;rintro e' w2 ⟨rfl,rfl⟩;cases rt with
 |false=>
  go_wp2_with fail
  go_ret;exact⟨rfl,hb⟩
 |true=>
  obtain⟨A,S,S3,c,X,R,hT⟩:=hg.out rfl;have hT:=Z9 hT;clear hg;go_wp2_with fail
  refine(Yf hT.out).mono ?_;rintro e' w2 ⟨rfl,rfl⟩;go_wp2_with fail
  refine(YT _ _ _).mono ?_;rintro e' w2 ⟨rfl,rfl⟩;by_cases hin:0<=n∧n < (A.ls.length:Int)
  ·obtain⟨x,rfl,hx⟩:=Ok.cast hin;rw[decide_eq_true hin];clear hin;go_wp2_with fail
   refine(Nb hT.out R.wf hx).mono ?_;rintro e' w2 ⟨rfl,hb2⟩;have hb4:=hb.trans (hb2.mono hb.size);obtain⟨wh,hwh⟩: ∃ wh,Hid (wh=(A.lf x).what):=⟨_,Z9 rfl⟩
   obtain⟨nb,hnb⟩: ∃ nb,Hid (nb=A.SG x):=⟨_,Z9 rfl⟩
   rw[<-hwh.out,<-hnb.out];have HN:=ZL (hb4.alloc hb4.size (.cells [.int .i64 nb].toArray 3)) (ZV.new w2 [.int .i64 nb] 3);have n0:=HN.out.2.cell 0 rfl;by_cases hk:wh=4
   ·subst hk;go_wp2_with fail
    refine(VB R (HS.out.low HN.out.1)).mono ?_;rintro e' w3 ⟨g,cap,rfl,hG,hb3⟩;have hbz:=HN.out.1.size;have hW3:=HN.out.1.trans (hb3.mono hbz);have hbz3:=hb3.size;have hbn:=ZC HN.out.2 hb3;have hw2z:=hb4.size;have hbz4:w2.heap.size+1<=w3.heap.size:=by simpa using hbz3
    have hal:Below w.heap.size w (w3.alloc (.cells [.slice (some ⟨g,0,none⟩) S3.WG.length cap].toArray 39)):=hW3.alloc (by omega) _;have hGA:=hG.low (w':=w3.alloc (.cells [.slice (some ⟨g,0,none⟩) S3.WG.length cap].toArray 39)) ((Below.refl _ _).alloc (Nat.le_refl _) _);have HG:=Yt hal hGA (ZV.new w3 [.slice (some ⟨g,0,none⟩) S3.WG.length cap] 39) (XJ hbn (.cells [.slice (some ⟨g,0,none⟩) S3.WG.length cap].toArray 39));have g0:=HG.out.2.2.1.cell 0 rfl;clear hbn hal hGA hG hW3 hb3;go_wp2_with fail
    refine(V9 HG.out.2.1 R.few.1 (R.stands hx) BF ?_).mono ?_
    ·intro i j P W la lc sa sc hP hx' hW hM;obtain⟨e0,e1,e2⟩:=R.post hP hx' hwh.out.symm;subst e0;refine iW e1 ?_ (ZC HG.out.2.2.2 hW);rw[e2,hnb.out];unfold Tr.SG;rw[<-hwh.out];rfl
    rintro e' w9 ⟨rfl,hb9⟩;go_wp2_with fail
    go_ret;exact⟨rfl,HG.out.1.trans (hb9.mono HG.out.1.size)⟩
   ·have hq:(wh !=4)=true:=by simpa using hk
    clear hk;go_wp2_with fail
    go_ret;exact⟨rfl,HN.out.1⟩
  ·rw[decide_eq_false hin];go_wp2_with fail
   go_ret;exact⟨rfl,hb⟩
end Go.Proofs.YteedbaejpdjilaaGreat
