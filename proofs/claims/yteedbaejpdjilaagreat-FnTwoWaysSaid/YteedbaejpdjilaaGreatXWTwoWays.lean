/- Part of the proof: WTwoWays. -/
import Derived.Test.YteedbaejpdjilaaGreatXEnd
import Derived.Test.YteedbaejpdjilaaGreatXRe
import Derived.Test.YteedbaejpdjilaaGreatXRf
import Derived.Test.YteedbaejpdjilaaGreatXRj
set_option linter.all false
set_option maxRecDepth 100000
set_option maxHeartbeats 4000000
namespace Go.Proofs.YteedbaejpdjilaaGreat
open Go.RowKit
theorem RB.two {t:T} {A:Tr} {S S3:BS} {c:Nat} {X:Cx} (R:RB t A S S3 c X) (ho: ¬ t.opn) {i:Nat} {P:Pc} (hP:S3.WG[i]? =some P) (h2:P.succs.length=2): ∃ m x:Nat,P.leaves.length=m+1∧P.leaves[m]? =some (x:Int)∧x < A.ls.length∧A.Ws x=true:=by
 obtain⟨k3,hk,rfl⟩:=JH hP;have hA:=R.xa;subst hA;obtain⟨y,x,h1,h3,h4,h5⟩:=R.sem.kK R.fin ho hk (by simpa [Bk.pc]using h2);rw[List.getLast?_eq_getElem?]at h1;have hl:=ZW h1;refine⟨k3.nodes.length -1,x,by simp[Bk.pc];omega,by simp[Bk.pc,h1,h3],h4,h5⟩
theorem walkTwoWays:jE 27:=by
 intro t hl w v h;have HR:=Z9 (readB hl h);have HS:=Z9 h;obtain⟨va,vn,vc,rfl⟩:=h.sl;clear h hl;go_enter Tryz.func27,Tryz.ntmps27;go_wp2_with fail
 refine HR.out.mono ?_;rintro e' w1 ⟨p,rt,lo,rfl,hc,hb,hg⟩;have hg:=Z9 hg;go_wp2_with fail
 refine(YZ hc).mono ?_;rintro e' w2 ⟨rfl,rfl⟩;cases rt with
 |false=>
  go_wp2_with fail
  go_ret;exact⟨rfl,hb⟩
 |true=>
  obtain⟨A,S,S3,c,X,R,hT0⟩:=hg.out rfl;have hT:=Z9 hT0;clear hg hT0;go_wp2_with fail
  refine(opn_any (HS.out.low hb)).mono ?_;rintro e' w2 ⟨rfl,hb2⟩;have hb0:=hb;have hT1:=Z9 (hT.out.low hb2);have hb:=hb0.trans (hb2.mono hb0.size);clear hb0;cases hop:t.op with
  |true=>
   go_wp2_with fail
   go_ret;exact⟨rfl,hb⟩
  |false=>
   have ho:=Z9 (op_opn t hop);clear hop;go_wp2_with fail
   refine(VB R (HS.out.low hb)).mono ?_;rintro e' w3 ⟨g,cap,rfl,hG,hb3⟩;have hbz:=hb.size;have hW3:=hb.trans (hb3.mono hbz);have hbz3:=hb3.size;have hT3:=Z9 ((hT1.out.low hb3).low (RG (W:=w3) [.slice (some ⟨g,0,none⟩) S3.WG.length cap] 39));have hal:Below w.heap.size w (w3.alloc (.cells [.slice (some ⟨g,0,none⟩) S3.WG.length cap].toArray 39)):=hW3.alloc (by omega) _;have hGA:=hG.low (w':=w3.alloc (.cells [.slice (some ⟨g,0,none⟩) S3.WG.length cap].toArray 39)) ((Below.refl _ _).alloc (Nat.le_refl _) _);have HG:=Za hal hGA (ZV.new w3 [.slice (some ⟨g,0,none⟩) S3.WG.length cap] 39);have g0:=HG.out.2.2.cell 0 rfl;clear hal hGA hG hW3 hb3;have hpl:S3.WG.length<=100000:=R.few.1.1;have hpl0:=R.few.2;go_wp2_with fail
   go_loopw [22] (fun ix wr=>iT S3.WG.length (w3.alloc (.cells [.slice (some ⟨g,0,none⟩) S3.WG.length cap].toArray 39)) ix wr) (fun ix _=>S3.WG.length -(intOf ix).toNat)
   case atStart=>exact⟨0,rfl,by omega,Below.refl _ _⟩
   case round=>
    obtain⟨k,rfl,hk,hbw⟩:=hrel;have hgr:=(ZC HG.out.2.2 hbw).cell 0 rfl;by_cases hlt:k < S3.WG.length
    ·obtain⟨P,hP⟩: ∃ P,S3.WG[k]? =some P:=⟨_,List.getElem?_eq_getElem hlt⟩
     have hPl:=R.few.1.2 k P hP;obtain⟨la,lc,sa,sc,hM⟩:=(HG.out.2.1.low hbw).pc k P hP;have hlv:=Z9 hM.lv;have htw:=Z9 (fun h=>R.two ho.out hP h);obtain⟨d0,d1,d2,d3,d4,d5,d6⟩:=hM.all;obtain⟨pl,psu,pi,pv,pk,po,pr⟩:=P;dsimp only at hlv d0 d1 d2 d3 d4 d5 d6 hPl;have hP:=Z9 hP;have hTr:=Z9 (hT3.out.low hbw);clear hM;have hwr0:=hbw.size;have hxb:=ZV.new wr [.slice la pl.length lc,.slice sa psu.length sc,.int .i64 pi,pv,.int .i64 pk,.int .i64 po,pr] 45;have hb1:=Z9 ((Below.refl wr.heap.size wr).alloc (Nat.le_refl _) (.cells [.slice la pl.length lc,.slice sa psu.length sc,.int .i64 pi,.bool pv,.int .i64 pk,.int .i64 po,.bool pr].toArray 45));by_cases h2:psu.length=2
     ·obtain⟨m,x,t1,t2,t3,t4⟩:=htw.out h2;dsimp only at t1 t2;have hlm:((pl.length:Int) -1)=(m:Int):=by omega
      obtain⟨lb,rfl⟩: ∃ lb,la=some ⟨lb,0,none⟩:=by
       rcases hlv.out.2 with⟨_,h0⟩ |⟨gg,_,_,hv,_⟩
       ·omega
       ·simp only[Value.slice.injEq]at hv;exact⟨gg,hv.1⟩
      have e1:wr.cell? ⟨lb,m,none⟩=some (.int .i64 x):=by
       rw[World.ownsRow.cellAt hlv.out m (by omega),List.getElem?_map,t2];rfl
      have hll:=(hlv.out.lt lb rfl).2;have hmk:(m:Int) < (pl.length:Int):=by omega
      have hxa:decide ((A.ls.length:Int)<=(x:Int))=false:=by simp;omega
      have hxa2:decide (A.ls.length<=x)=false:=by simp;omega
      have hxa3: ¬ (A.ls.length<=x):=by omega
      have hkeep: ∀ wx:World,Below (wr.heap.size+1) (wr.alloc (.cells [.slice (some ⟨lb,0,none⟩) pl.length lc,.slice sa psu.length sc,.int .i64 pi,.bool pv,.int .i64 pk,.int .i64 po,.bool pr].toArray 45)) wx->wx.cell? ⟨wr.heap.size,0,none⟩=some (.slice (some ⟨lb,0,none⟩) pl.length lc)∧wx.cell? ⟨wr.heap.size,1,none⟩=some (.slice sa psu.length sc)∧wx.cell? ⟨lb,m,none⟩=some (.int .i64 x):=fun wx hbx=>by
       refine⟨(hbx.cell (p:=⟨wr.heap.size,0,none⟩) (by show wr.heap.size < _;omega)).trans (hxb.cell 0 rfl),(hbx.cell (p:=⟨wr.heap.size,1,none⟩) (by show wr.heap.size < _;omega)).trans (hxb.cell 1 rfl),((hb1.out.trans (hbx.mono (by omega))).cell (p:=⟨lb,m,none⟩) hll).trans e1⟩
      have hS0:=hkeep _ (Below.refl _ _).drew;have HK:=Za hkeep t3 t4;clear t1 t2 t3 t4 hkeep e1;have hq:((psu.length:Int)==2)=true:=by simp;omega
      clear h2;go_wp2_with fail
      go_region_held3 (fun wx:World=>wx.cell? ⟨wr.heap.size,0,none⟩=some (.slice (some ⟨lb,0,none⟩) pl.length lc)∧wx.cell? ⟨wr.heap.size,1,none⟩=some (.slice sa psu.length sc)∧wx.cell? ⟨lb,m,none⟩=some (.int .i64 x)) (first|exact hS2|exact hS0|go_keep)
       (first
        |((go_at_call 32;refine(Yf ((hTr.out.low hb1.out).low (Below.refl _ _).drew)).mono ?_;rintro e wx ⟨rfl,rfl⟩))
        |((go_at_call 46;refine(Vh ((hTr.out.low hb1.out).low (Below.refl _ _).drew) R.wf HK.out.2.1).mono ?_;rintro e wx ⟨rfl,hbx⟩;rw[HK.out.2.2];have hbx2:=(Below.refl _ _).drew.trans hbx;have hS2:=HK.out.1 wx (hbx2.mono (by simp)))))
      go_wp2_with fail
      exact⟨⟨k+1,by simp,by omega,hbw.trans ((hb1.out.trans (hbx2.mono (by simp))).mono hwr0)⟩,by simp[intOf];omega⟩
     ·have hq:((psu.length:Int)==2)=false:=by simp;omega
      clear h2;go_wp2_with fail
      go_quiet (fail)
      go_wp2_with fail
      exact⟨⟨k+1,by simp,by omega,Zv (hbw.trans (hb1.out.mono hwr0)) _⟩,by simp[intOf];omega⟩
    ·go_wp2_with fail
     go_ret;exact⟨by simp[R.few.2],HG.out.1.trans (hbw.mono (by have:=HG.out.1.size;omega))⟩
end Go.Proofs.YteedbaejpdjilaaGreat
