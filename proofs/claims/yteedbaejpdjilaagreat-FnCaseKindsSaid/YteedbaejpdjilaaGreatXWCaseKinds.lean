/- Part of the proof: WCaseKinds. -/
import Derived.Test.YteedbaejpdjilaaGreatXEnd
import Derived.Test.YteedbaejpdjilaaGreatXRe
import Derived.Test.YteedbaejpdjilaaGreatXRf
set_option linter.all false
set_option maxRecDepth 100000
set_option maxHeartbeats 4000000
namespace Go.Proofs.YteedbaejpdjilaaGreat
open Go.RowKit
theorem AQ (args:Array Value) (w:World):(callFunc 43 args).run Tryz.prog w=.ok (.enter 43 args) w:=by kernel_rfl
theorem jh {W:World} {P P0:Pc} {ps:List Pc} {la sa:Option Addr} {lc sc j b bg lo g i cap s0:Nat} {s1 n:Int} (hM:yB W lo g i P la lc sa sc) (hG:BO W lo g ps) (h1:P.succs= [(s0:Int),s1]) (h2:ps[s0]? =some P0) (h3:P0.kind=17) (h4:P0.of=n)
  (hb:ZV W b [.int .i64 n] 3) (hbg:ZV W bg [.slice (some ⟨g,0,none⟩) ps.length cap] 39):Calls Tryz.prog 43 (#[Ir P la sa lc sc,.int .i64 j]++ #[.pointer (some ⟨bg,0,none⟩),.pointer (some ⟨b,0,none⟩)]) W fun e w'=>e=.returned (.bool true)∧Below W.heap.size W w':=by
 have hsv:=hM.sv;obtain⟨pl,psu,pi,pv,pk,po,pr⟩:=P;dsimp only at h1 hsv;subst h1;obtain⟨sb,rfl,hsl,hsc⟩:=DU hsv (by simp);have HB:=Z9 (Wj (W:=W) [.slice la pl.length lc,.slice (some ⟨sb,0,none⟩) 2 sc,.int .i64 pi,pv,.int .i64 pk,.int .i64 po,pr]);have hbc:=(HB.out.cell (p:=⟨b,0,none⟩) hb.lt).trans (hb.cell 0 rfl);have hgc:=(HB.out.cell (p:=⟨bg,0,none⟩) hbg.lt).trans (hbg.cell 0 rfl);have hs0:=(HB.out.cell (p:=⟨sb,0,none⟩) hsl).trans (hsc 0 _ rfl);obtain⟨la2,lc2,sa2,sc2,hM2⟩:=(hG.low HB.out).pc s0 P0 h2;obtain⟨_,_,_,_,d4,d5,_⟩:=hM2.all;rw[h3]at d4;rw[h4]at d5;have hil:=ZW h2;have hi2:(0:Int)<=s0∧(s0:Int) < ps.length:=by omega
 clear hsv hsc hM hG hM2 h2;unfold Ir;go_enter Tryz.func43,Tryz.ntmps43;go_wp2_with fail
 go_quiet ((go_at_call 35;exact Np hi2 _ _))
 go_wp2_with fail
 go_ret;exact⟨by simp,below_drewN' HB.out _⟩
theorem BQ:ML 6:=by
 intro t hl w v n hn h;have HR:=Z9 (readB hl h);have HS:=Z9 h;obtain⟨va,vn,vc,rfl⟩:=h.sl;clear h hl;go_enter Tryz.func6,Tryz.ntmps6;go_wp2_with fail
 refine HR.out.mono ?_;rintro e' w1 ⟨p,rt,lo,rfl,hc,hb,hg⟩;have hg:=Z9 hg;go_wp2_with fail
 refine(YZ hc).mono ?_;rintro e' w2 ⟨rfl,rfl⟩;cases rt with
 |false=>
  go_wp2_with fail
  go_ret;exact⟨rfl,hb⟩
 |true=>
  obtain⟨A,S,S3,c,X,R,hT⟩:=hg.out rfl;have hT:=Z9 hT;clear hg;go_wp2_with fail
  refine(Yf hT.out).mono ?_;rintro e' w2 ⟨rfl,rfl⟩;go_wp2_with fail
  refine(YT _ _ _).mono ?_;rintro e' w2 ⟨rfl,rfl⟩;by_cases hin:0<=n∧n < (A.ls.length:Int)
  ·obtain⟨x,rfl,hx⟩:=Ok.cast hin;rw[decide_eq_true hin];clear hin;go_wp2_with fail
   refine(Nb hT.out R.wf hx).mono ?_;rintro e' w2 ⟨rfl,hb2⟩;have hb4:=hb.trans (hb2.mono hb.size);obtain⟨wh,hwh⟩: ∃ wh,Hid (wh=(A.lf x).what):=⟨_,Z9 rfl⟩
   obtain⟨nb,hnb⟩: ∃ nb,Hid (nb=A.SG x):=⟨_,Z9 rfl⟩
   rw[<-hwh.out,<-hnb.out];have HN:=ZL (hb4.alloc hb4.size (.cells [.int .i64 nb].toArray 3)) (ZV.new w2 [.int .i64 nb] 3);have n0:=HN.out.2.cell 0 rfl;by_cases hk:wh=5
   ·subst hk;go_wp2_with fail
    refine(VB R (HS.out.low HN.out.1)).mono ?_;rintro e' w3 ⟨g,cap,rfl,hG,hb3⟩;have hbz:=HN.out.1.size;have hW3:=HN.out.1.trans (hb3.mono hbz);have hbz3:=hb3.size;have hbn:=ZC HN.out.2 hb3;have hw2z:=hb4.size;have hbz4:w2.heap.size+1<=w3.heap.size:=by simpa using hbz3
    have hal:Below w.heap.size w (w3.alloc (.cells [.slice (some ⟨g,0,none⟩) S3.WG.length cap].toArray 39)):=hW3.alloc (by omega) _;have hGA:=hG.low (w':=w3.alloc (.cells [.slice (some ⟨g,0,none⟩) S3.WG.length cap].toArray 39)) ((Below.refl _ _).alloc (Nat.le_refl _) _);have HG:=Yt hal hGA (ZV.new w3 [.slice (some ⟨g,0,none⟩) S3.WG.length cap] 39) (XJ hbn (.cells [.slice (some ⟨g,0,none⟩) S3.WG.length cap].toArray 39));have g0:=HG.out.2.2.1.cell 0 rfl;clear hbn hal hGA hG hW3 hb3;go_wp2_with fail
    refine(V9 HG.out.2.1 R.few.1 (R.stands hx) AQ ?_).mono ?_
    ·intro i j P W la lc sa sc hP hx' hW hM;obtain⟨a,b,P0,e1,e2,e3,e4⟩:=R.test hP hx' hwh.out.symm;refine jh hM (HG.out.2.1.low hW) e1 e2 e3 ?_ (ZC HG.out.2.2.2 hW) (ZC HG.out.2.2.1 hW);rw[e4,hnb.out];unfold Tr.SG;rw[<-hwh.out];rfl
    rintro e' w9 ⟨rfl,hb9⟩;go_wp2_with fail
    go_ret;exact⟨rfl,HG.out.1.trans (hb9.mono HG.out.1.size)⟩
   ·have hq:(wh !=5)=true:=by simpa using hk
    clear hk;go_wp2_with fail
    go_ret;exact⟨rfl,HN.out.1⟩
  ·rw[decide_eq_false hin];go_wp2_with fail
   go_ret;exact⟨rfl,hb⟩
end Go.Proofs.YteedbaejpdjilaaGreat
