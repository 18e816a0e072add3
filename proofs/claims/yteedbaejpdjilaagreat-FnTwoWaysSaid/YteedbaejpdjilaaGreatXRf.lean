/- Part of the proof: LawQ. -/
import Derived.Test.YteedbaejpdjilaaGreatXRd
import Derived.BigQuiet
set_option linter.all false
set_option maxRecDepth 100000
set_option maxHeartbeats 4000000
namespace Go.Proofs.YteedbaejpdjilaaGreat
open Go.RowKit
theorem below_drewN' {B:Nat} {a w:World} (h:Below B a w) (q:Nat):Below B a (w.drewN q):=⟨h.os,h.tape,h.output,h.size,h.block⟩
theorem Wj {W:World} (cs:List Value):Below W.heap.size W (W.alloc (.cells cs.toArray 45)):=(Below.refl _ _).alloc (Nat.le_refl _) _
theorem DU {w:World} {lo n cap:Nat} {a:Option Addr} {xs:List Int} (h:w.ownsRow lo 3 1 (.slice a n cap) n (xs.map (Value.int .i64))) (hn:0 < n): ∃ b,a=some ⟨b,0,none⟩∧b < w.heap.size∧ ∀ (j:Nat) x,xs[j]? =some x->w.cell? ⟨b,j,none⟩=some (.int .i64 x):=by
 obtain⟨b,c,hb⟩: ∃ g cap',(.slice a n cap:Value)=.slice (some ⟨g,0,none⟩) n cap':=by
  rcases h.2 with⟨_,h0⟩ |⟨g,cap,cur,hv,_⟩
  ·omega
  ·exact⟨g,cap,hv⟩
 simp only[Value.slice.injEq]at hb;obtain⟨rfl,_,rfl⟩:=hb;refine⟨b,rfl,(h.lt b rfl).2,fun j x hj=>?_⟩;have hl:=ZW hj;have h1:=h.1;rw[List.length_map]at h1;rw[World.ownsRow.cellAt h j (by omega),List.getElem?_map,hj];rfl
theorem Np {i n:Int} (h:0<=i∧i < n) (w:World) (k:Nat):Calls Tryz.prog 35 #[.int .i64 i,.int .i64 n] (w.drewN k) fun e w'=>e=.returned (.bool true)∧ ∃ m,w'=w.drewN m:=(YT i n _).mono fun e w' ⟨h1,h2⟩=>⟨by rw[h1,decide_eq_true h],k,h2.symm⟩
theorem zh (args:Array Value) (w:World):(callFunc 75 args).run Tryz.prog w=.ok (.enter 75 args) w:=by kernel_rfl
theorem c75 {W:World} {P:Pc} {ps:List Pc} {la sa:Option Addr} {lc sc j b bg bk kb kc lo g i cap:Nat} {k0 k1 n:Int} (hM:yB W lo g i P la lc sa sc) (hG:BO W lo g ps) (hL:oI ps P k0 k1 n)
  (hb:ZV W b [.int .i64 n] 3) (hbg:ZV W bg [.slice (some ⟨g,0,none⟩) ps.length cap] 39) (hbk:ZV W bk [.slice (some ⟨kb,0,none⟩) 2 kc] 31) (hkb:ZV W kb [.int .i64 k0,.int .i64 k1] 3):
  Calls Tryz.prog 75 (#[Ir P la sa lc sc,.int .i64 j]++ #[.pointer (some ⟨bg,0,none⟩),.pointer (some ⟨bk,0,none⟩),.pointer (some ⟨b,0,none⟩)]) W fun e w'=>e=.returned (.bool true)∧Below W.heap.size W w':=by
 have hsv:=hM.sv;obtain⟨pl,psu,pi,pv,pk,po,pr⟩:=P;obtain⟨a0,a1,P0,P1,h1,g0,g1,q0,q1,q2,q3⟩:=hL;dsimp only at h1 hsv;subst h1;obtain⟨sb,rfl,hsl,hsc⟩:=DU hsv (by simp);have HB:=Z9 (Wj (W:=W) [.slice la pl.length lc,.slice (some ⟨sb,0,none⟩) 2 sc,.int .i64 pi,pv,.int .i64 pk,.int .i64 po,pr]);have hbc:=(HB.out.cell (p:=⟨b,0,none⟩) hb.lt).trans (hb.cell 0 rfl);have hgc:=(HB.out.cell (p:=⟨bg,0,none⟩) hbg.lt).trans (hbg.cell 0 rfl);have hkc:=(HB.out.cell (p:=⟨bk,0,none⟩) hbk.lt).trans (hbk.cell 0 rfl);have hk0:=(HB.out.cell (p:=⟨kb,0,none⟩) hkb.lt).trans (hkb.cell 0 rfl);have hk1:=(HB.out.cell (p:=⟨kb,1,none⟩) hkb.lt).trans (hkb.cell 1 rfl);have hs0:=(HB.out.cell (p:=⟨sb,0,none⟩) hsl).trans (hsc 0 _ rfl);have hs1:=(HB.out.cell (p:=⟨sb,1,none⟩) hsl).trans (hsc 1 _ rfl);obtain⟨_,_,_,_,hM2⟩:=(hG.low HB.out).pc a0 P0 g0;obtain⟨_,_,_,_,d4,d5,_⟩:=hM2.all;obtain⟨_,_,_,_,hM3⟩:=(hG.low HB.out).pc a1 P1 g1;obtain⟨_,_,_,_,e4,e5,_⟩:=hM3.all;rw[q0]at d4;rw[q1]at d5;rw[q2]at e4;rw[q3]at e5;have hil:=ZW g0;have hil1:=ZW g1;have hi2:(0:Int)<=a0∧(a0:Int) < ps.length:=by omega
 have hi3:(0:Int)<=a1∧(a1:Int) < ps.length:=by omega
 clear hsv hsc hM hG hM2 hM3 g0 g1;unfold Ir;go_enter Tryz.func75,Tryz.ntmps75;go_wp2_with fail
 refine wp_loop_rounds 3 ?_;rw[rounds_succ];go_wp2_with fail
 go_quiet ((go_at_call 35;exact Np hi2 _ _))
 go_wp2_with fail
 rw[rounds_succ];go_wp2_with fail
 go_quiet ((go_at_call 35;refine(YT _ _ _).mono ?_;rintro e w' ⟨rfl,rfl⟩;rw[decide_eq_true hi3];exact⟨rfl,_,rfl⟩))
 go_wp2_with fail
 rw[rounds_succ];go_wp2_with fail
 go_ret;exact⟨by simp,below_drewN' HB.out _⟩
theorem RG {W:World} (cs:List Value) (ty:TypeId):Below W.heap.size W (W.alloc (.cells cs.toArray ty)):=(Below.refl _ _).alloc (Nat.le_refl _) _
theorem XJ {W:World} {b:Nat} {cs:List Value} {t:TypeId} (h:ZV W b cs t) (o:Obj):ZV (W.alloc o) b cs t:=ZC h ((Below.refl _ _).alloc (Nat.le_refl _) _)
theorem SX {w:World} {lo g cap kb kc:Nat} {ps:List Pc} {x n k0 k1:Int} (hg:BO w lo g ps) (hf:kS ps) (hx: ∃ q,AtS ps x q) (hkb:ZV w kb [.int .i64 k0,.int .i64 k1] 3)
  (hL: ∀ (i j:Nat) P,ps[i]? =some P->P.leaves[j]? =some x->oI ps P k0 k1 n):
  Calls Tryz.prog 53 #[.agg #[.slice (some ⟨g,0,none⟩) ps.length cap],.int .i64 x,.slice (some ⟨kb,0,none⟩) 2 kc,.int .i64 n] w fun e w'=>e=.returned (.bool true)∧Below w.heap.size w w':=by
 obtain⟨w1,hw1⟩: ∃ w1,w1=w.alloc (.cells [.slice (some ⟨g,0,none⟩) ps.length cap].toArray 39):=⟨_,rfl⟩
 obtain⟨w2,hw2⟩: ∃ w2,w2=w1.alloc (.cells [.slice (some ⟨kb,0,none⟩) 2 kc].toArray 31):=⟨_,rfl⟩
 obtain⟨w3,hw3⟩: ∃ w3,w3=w2.alloc (.cells [.int .i64 n].toArray 3):=⟨_,rfl⟩
 have hb3:Below w.heap.size w w3:=by
  subst hw3 hw2 hw1;exact(((Below.refl _ _).alloc (by simp) _).alloc (by simp) _).alloc (by simp;omega) _
 have f0:ZV w3 w.heap.size [.slice (some ⟨g,0,none⟩) ps.length cap] 39:=by
  rw[hw3,hw2,hw1];exact XJ (XJ (ZV.new w [.slice (some ⟨g,0,none⟩) ps.length cap] 39) _) _
 have f1:ZV w3 (w.heap.size+1) [.slice (some ⟨kb,0,none⟩) 2 kc] 31:=by
  rw[hw3,hw2];exact XJ (ZV.new' (by rw[hw1];simp) [.slice (some ⟨kb,0,none⟩) 2 kc] 31) _
 have f2:ZV w3 (w.heap.size+1+1) [.int .i64 n] 3:=by
  rw[hw3];exact ZV.new' (by rw[hw2,hw1];simp) [.int .i64 n] 3
 have H:=XG hb3 f0 f1 f2 hL;subst hw3 hw2 hw1;have g0:=f0.cell 0 rfl;have HG:=Yt hg hf hx hkb;clear hb3 f0 f1 f2 hL hg hf hx hkb;go_enter Tryz.func53,Tryz.ntmps53;go_wp2_with fail
 refine(V9 (HG.out.1.low H.out.1) HG.out.2.1 HG.out.2.2.1 zh ?_).mono ?_
 ·intro i j P W la lc sa sc hP hx hW hM;exact c75 hM ((HG.out.1.low H.out.1).low hW) (H.out.2.2.2.2 i j P hP hx) (ZC H.out.2.2.2.1 hW) (ZC H.out.2.1 hW) (ZC H.out.2.2.1 hW) (ZC (ZC HG.out.2.2.2 H.out.1) hW)
 rintro e w4 ⟨rfl,hb4⟩;go_wp2_with fail
 go_ret;exact⟨rfl,H.out.1.trans (hb4.mono H.out.1.size)⟩
end Go.Proofs.YteedbaejpdjilaaGreat
