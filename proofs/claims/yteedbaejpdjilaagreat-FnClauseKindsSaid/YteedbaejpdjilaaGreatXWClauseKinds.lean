/- Part of the proof: WClauseKinds. -/
import Derived.Test.YteedbaejpdjilaaGreatXEnd
import Derived.Test.YteedbaejpdjilaaGreatXRg
import Derived.Test.YteedbaejpdjilaaGreatXRe
import Derived.Test.YteedbaejpdjilaaGreatXRf
set_option linter.all false
set_option maxRecDepth 100000
set_option maxHeartbeats 4000000
namespace Go.Proofs.YteedbaejpdjilaaGreat
open Go.RowKit
theorem callf45 (args:Array Value) (w:World):(callFunc 45 args).run Tryz.prog w=.ok (.enter 45 args) w:=by kernel_rfl
theorem c45 {W:World} {P:Pc} {la sa:Option Addr} {lc sc b1 b2 lo g i:Nat} {k n:Int} (hM:yB W lo g i P la lc sa sc) (hl:0 < P.leaves.length) (hb1:ZV W b1 [.int .i64 k] 3) (hb2:ZV W b2 [.int .i64 n] 3) (h1:k=15->P.kind=14) (h2:k≠15->P.kind=17∧P.of=n):
  Calls Tryz.prog 45 (#[Ir P la sa lc sc,.int .i64 (0:Nat)]++ #[.pointer (some ⟨b1,0,none⟩),.pointer (some ⟨b2,0,none⟩)]) W fun e w'=>e=.returned (.bool true)∧Below W.heap.size W w':=by
 have hlv:=hM.lv;obtain⟨pl,psu,pi,pv,pk,po,pr⟩:=P;dsimp only at hlv hl h1 h2;obtain⟨lb,rfl,hll,_⟩:=DU hlv hl;have hcap:pl.length<=lc:=by
  rcases hlv.2 with⟨h,_⟩ |⟨_,_,_,h,_,_,h4,_⟩
  ·simp at h
  ·simp only[Value.slice.injEq]at h;omega
 have hc0:0 < lc:=by omega
 have HB:=Z9 (Wj (W:=W) [.slice (some ⟨lb,0,none⟩) pl.length lc,.slice sa psu.length sc,.int .i64 pi,pv,.int .i64 pk,.int .i64 po,pr]);have k1:=(HB.out.cell (p:=⟨b1,0,none⟩) hb1.lt).trans (hb1.cell 0 rfl);have k2:=(HB.out.cell (p:=⟨b2,0,none⟩) hb2.lt).trans (hb2.cell 0 rfl);clear hlv hM;unfold Ir;by_cases hk:k=15
 ·subst hk;have:=h1 rfl;subst this;clear h1 h2;go_enter Tryz.func45,Tryz.ntmps45;go_wp2_with fail
  refine wp_loop_rounds 1 ?_;rw[rounds_succ];go_wp2_with fail
  go_ret;exact⟨by simp,HB.out⟩
 ·obtain⟨h3,h4⟩:=h2 hk;subst h3 h4;have hq:(k==15)=false:=by simpa using hk
  clear h1 h2 hk;go_enter Tryz.func45,Tryz.ntmps45;go_wp2_with fail
  refine wp_loop_rounds 1 ?_;rw[rounds_succ];go_wp2_with fail
  go_ret;exact⟨by simp,HB.out⟩
theorem RB.cls {t:T} {A:Tr} {S S3:BS} {c:Nat} {X:Cx} (R:RB t A S S3 c X) {i j x:Nat} {P:Pc} (hP:S3.WG[i]? =some P) (hx:P.leaves[j]? =some (x:Int)) {a b:Int} (h:ClsR A x a b true):j=0∧(b=15->P.kind=14)∧(b≠15->P.kind=17∧P.of=a):=by
 obtain⟨h1,h2,h3,h4,h5,rfl,rfl⟩:=h rfl;obtain⟨r,L,E⟩:=R.spot hP hx;have hA:=R.xa;subst hA;obtain⟨g1,g2,g3⟩:=L.cls h1 h2 h3 h4 _ _ rfl rfl h5;refine⟨g1,fun hk=>?_,fun hk=>?_⟩
 ·obtain⟨p,g4⟩:=g2 hk;obtain⟨P0,a1,a2⟩:=R.kind g4;rw[hP]at a1;cases a1;exact a2
 ·obtain⟨P0,a1,a2,a3⟩:=R.VI (g3 hk);rw[hP]at a1;cases a1;exact⟨a2,a3⟩
theorem walkClauseKinds:ML 8:=by
 intro t hl w v n hn h;have HR:=Z9 (readB hl h);have HS:=Z9 h;obtain⟨va,vn,vc,rfl⟩:=h.sl;clear h hl;go_enter Tryz.func8,Tryz.ntmps8;go_wp2_with fail
 refine HR.out.mono ?_;rintro e' w1 ⟨p,rt,lo,rfl,hc,hb,hg⟩;have hg:=Z9 hg;go_wp2_with fail
 refine(YZ hc).mono ?_;rintro e' w2 ⟨rfl,rfl⟩;cases rt with
 |false=>
  go_wp2_with fail
  go_ret;exact⟨rfl,hb⟩
 |true=>
  obtain⟨A,S,S3,c,X,R,hT⟩:=hg.out rfl;have hT:=Z9 hT;clear hg;go_wp2_with fail
  refine(Yf hT.out).mono ?_;rintro e' w2 ⟨rfl,rfl⟩;go_wp2_with fail
  refine(YT _ _ _).mono ?_;rintro e' w2 ⟨rfl,rfl⟩;by_cases hin:0<=n∧n < (A.ls.length:Int)
  ·obtain⟨x,rfl,hx⟩:=Ok.cast hin;rw[decide_eq_true hin];clear hin;go_wp2_with fail
   refine(clause_any R hT.out hx).mono ?_;rintro e' w2 ⟨na,nb,is,rfl,hcr,hb2⟩;have hb2:Below w1.heap.size w1 w2:=hb2;have hb4:=hb.trans (hb2.mono hb.size);have hcr:=Z9 hcr;have HN:=Za ((hb4.alloc hb4.size (.cells [.int .i64 na].toArray 3)).alloc (by have:=hb4.size;simp;omega) (.cells [.int .i64 nb].toArray 3)) (XJ (ZV.new w2 [.int .i64 na] 3) (.cells [.int .i64 nb].toArray 3)) (ZV.new' (w:=w2.alloc (.cells [.int .i64 na].toArray 3)) (n:=w2.heap.size+1) (by simp) [.int .i64 nb] 3);cases is with
   |false=>
    go_wp2_with fail
    go_ret;exact⟨rfl,HN.out.1⟩
   |true=>
    go_wp2_with fail
    refine(VB R (HS.out.low HN.out.1)).mono ?_;rintro e' w3 ⟨g,cap,rfl,hG,hb3⟩;have hbz:=HN.out.1.size;have hW3:=HN.out.1.trans (hb3.mono hbz);have hbz3:=hb3.size;have hbz4:w2.heap.size+1+1<=w3.heap.size:=by simpa using hbz3
    have hw2z:=hb4.size;have hN1:=ZC HN.out.2.1 hb3;have hN2:=ZC HN.out.2.2 hb3;have hal:Below w.heap.size w (w3.alloc (.cells [.slice (some ⟨g,0,none⟩) S3.WG.length cap].toArray 39)):=hW3.alloc (by omega) _;have hGA:=hG.low (w':=w3.alloc (.cells [.slice (some ⟨g,0,none⟩) S3.WG.length cap].toArray 39)) ((Below.refl _ _).alloc (Nat.le_refl _) _);have HG:=XG hal hGA (ZV.new w3 [.slice (some ⟨g,0,none⟩) S3.WG.length cap] 39) (XJ hN1 (.cells [.slice (some ⟨g,0,none⟩) S3.WG.length cap].toArray 39)) (XJ hN2 (.cells [.slice (some ⟨g,0,none⟩) S3.WG.length cap].toArray 39));have g0:=HG.out.2.2.1.cell 0 rfl;clear hal hGA hG hW3 hb3 hN1 hN2;go_wp2_with fail
    refine(V9 HG.out.2.1 R.few.1 (R.stands hx) callf45 ?_).mono ?_
    ·intro i j P W la lc sa sc hP hx' hW hM;obtain⟨e0,e1,e2⟩:=R.cls hP hx' hcr.out;subst e0;exact c45 hM (ZW hx') (ZC HG.out.2.2.2.2 hW) (ZC HG.out.2.2.2.1 hW) e1 e2
    rintro e' w9 ⟨rfl,hb9⟩;go_wp2_with fail
    go_ret;exact⟨rfl,HG.out.1.trans (hb9.mono HG.out.1.size)⟩
  ·rw[decide_eq_false hin];go_wp2_with fail
   go_ret;exact⟨rfl,hb⟩
end Go.Proofs.YteedbaejpdjilaaGreat
