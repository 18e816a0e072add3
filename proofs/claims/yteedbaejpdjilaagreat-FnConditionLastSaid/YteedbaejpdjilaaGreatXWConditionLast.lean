/- Part of the proof: WConditionLast. -/
import Derived.Test.YteedbaejpdjilaaGreatXEnd
import Derived.Test.YteedbaejpdjilaaGreatXRe
import Derived.Test.YteedbaejpdjilaaGreatXRf
set_option linter.all false
set_option maxRecDepth 100000
set_option maxHeartbeats 4000000
namespace Go.Proofs.YteedbaejpdjilaaGreat
open Go.RowKit
theorem zq (args:Array Value) (w:World):(callFunc 47 args).run Tryz.prog w=.ok (.enter 47 args) w:=by kernel_rfl
theorem jd {W:World} {P:Pc} {la sa:Option Addr} {lc sc j:Nat} (h1:P.leaves.length=j+1) (hj:j<=100000) (h2:P.succs.length=2):Calls Tryz.prog 47 (#[Ir P la sa lc sc,.int .i64 j]++ #[]) W fun e w'=>e=.returned (.bool true)∧Below W.heap.size W w':=by
 unfold Ir;rw[h2];generalize P.leaves.length=m at*;have HB:=Z9 (Wj (W:=W) [.slice la m lc,.slice sa 2 sc,.int .i64 P.index,P.live,.int .i64 P.kind,.int .i64 P.of,P.Zn]);have hq:((j:Int)==(m:Int) -1)=true:=by simp;omega
 have hm1:m<=100001:=by omega
 clear h1;go_enter Tryz.func47,Tryz.ntmps47;go_wp2_with fail
 go_ret;exact⟨by simp,HB.out⟩
theorem Iu:ML 9:=by
 intro t hl w v n hn h;have HR:=Z9 (readB hl h);have HS:=Z9 h;obtain⟨va,vn,vc,rfl⟩:=h.sl;clear h hl;go_enter Tryz.func9,Tryz.ntmps9;go_wp2_with fail
 refine HR.out.mono ?_;rintro e' w1 ⟨p,rt,lo,rfl,hc,hb,hg⟩;have hg:=Z9 hg;go_wp2_with fail
 refine(YZ hc).mono ?_;rintro e' w2 ⟨rfl,rfl⟩;cases rt with
 |false=>
  go_wp2_with fail
  go_ret;exact⟨rfl,hb⟩
 |true=>
  obtain⟨A,S,S3,c,X,R,hT⟩:=hg.out rfl;have hT:=Z9 hT;clear hg;go_wp2_with fail
  refine(Yf hT.out).mono ?_;rintro e' w2 ⟨rfl,rfl⟩;go_wp2_with fail
  refine(YT _ _ _).mono ?_;rintro e' w2 ⟨rfl,rfl⟩;by_cases hin:0<=n∧n < (A.ls.length:Int)
  ·obtain⟨x,rfl,hx⟩:=Ok.cast hin;rw[decide_eq_true hin];clear hin;go_wp2_with fail
   refine(Vh hT.out R.wf hx).mono ?_;rintro e' w2 ⟨rfl,hb2⟩;have hb4:=hb.trans (hb2.mono hb.size);cases hd:A.Ws x with
   |false=>
    go_wp2_with fail
    go_ret;exact⟨rfl,hb4⟩
   |true=>
    have hd:=Z9 hd;go_wp2_with fail
    refine(VB R (HS.out.low hb4)).mono ?_;rintro e' w3 ⟨g,cap,rfl,hG,hb3⟩;have hbz:=hb4.size;have hW3:=hb4.trans (hb3.mono hbz);have hbz3:=hb3.size;have hal:Below w.heap.size w (w3.alloc (.cells [.slice (some ⟨g,0,none⟩) S3.WG.length cap].toArray 39)):=hW3.alloc (by omega) _;have hGA:=hG.low (w':=w3.alloc (.cells [.slice (some ⟨g,0,none⟩) S3.WG.length cap].toArray 39)) ((Below.refl _ _).alloc (Nat.le_refl _) _);have HG:=Za hal hGA (ZV.new w3 [.slice (some ⟨g,0,none⟩) S3.WG.length cap] 39);have g0:=HG.out.2.2.cell 0 rfl;clear hal hGA hG hW3 hb3;go_wp2_with fail
    refine(V9 HG.out.2.1 R.few.1 (R.stands hx) zq ?_).mono ?_
    ·intro i j P W la lc sa sc hP hx' hW hM;obtain⟨r,L,E⟩:=R.spot hP hx';obtain⟨t1,f1,q1,_⟩:=L.two (by rw[R.xa];exact hd.out);obtain⟨e1,e2⟩:=E _ q1;have:=R.few.1.2 i P hP;exact jd e1 (by omega) (by rw[e2];rfl)
    rintro e' w9 ⟨rfl,hb9⟩;go_wp2_with fail
    go_ret;exact⟨rfl,HG.out.1.trans (hb9.mono HG.out.1.size)⟩
  ·rw[decide_eq_false hin];go_wp2_with fail
   go_ret;exact⟨rfl,hb⟩
end Go.Proofs.YteedbaejpdjilaaGreat
