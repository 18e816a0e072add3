/- Part of the proof: WNothingElse. -/
import Derived.Test.YteedbaejpdjilaaGreatXEnd
import Derived.Test.YteedbaejpdjilaaGreatXRe
import Derived.Test.YteedbaejpdjilaaGreatXRf
set_option linter.all false
set_option maxRecDepth 100000
set_option maxHeartbeats 4000000
namespace Go.Proofs.YteedbaejpdjilaaGreat
open Go.RowKit
theorem walkNothingElse:jE 19:=by
 intro t hl w v h;have HR:=Z9 (readB hl h);have HS:=Z9 h;obtain⟨va,vn,vc,rfl⟩:=h.sl;clear h hl;go_enter Tryz.func19,Tryz.ntmps19;go_wp2_with fail
 refine HR.out.mono ?_;rintro e' w1 ⟨p,rt,lo,rfl,hc,hb,hg⟩;have hg:=Z9 hg;go_wp2_with fail
 refine(YZ hc).mono ?_;rintro e' w2 ⟨rfl,rfl⟩;cases rt with
 |false=>
  go_wp2_with fail
  go_ret;exact⟨rfl,hb⟩
 |true=>
  obtain⟨A,S,S3,c,X,R,hT0⟩:=hg.out rfl;have hT:=Z9 hT0;clear hg hT0;go_wp2_with fail
  refine(VB R (HS.out.low hb)).mono ?_;rintro e' w3 ⟨g,cap,rfl,hG,hb3⟩;have hbz:=hb.size;have hW3:=hb.trans (hb3.mono hbz);have hbz3:=hb3.size;have hT3:=Z9 ((hT.out.low hb3).low (RG (W:=w3) [.slice (some ⟨g,0,none⟩) S3.WG.length cap] 39));have hal:Below w.heap.size w (w3.alloc (.cells [.slice (some ⟨g,0,none⟩) S3.WG.length cap].toArray 39)):=hW3.alloc (by omega) _;have hGA:=hG.low (w':=w3.alloc (.cells [.slice (some ⟨g,0,none⟩) S3.WG.length cap].toArray 39)) ((Below.refl _ _).alloc (Nat.le_refl _) _);have HG:=Za hal hGA (ZV.new w3 [.slice (some ⟨g,0,none⟩) S3.WG.length cap] 39);have g0:=HG.out.2.2.cell 0 rfl;clear hal hGA hG hW3 hb3;have hpl:S3.WG.length<=100000:=R.few.1.1;have hpl0:=R.few.2;go_wp2_with fail
  go_loopw [19] (fun ix wr=>iT S3.WG.length (w3.alloc (.cells [.slice (some ⟨g,0,none⟩) S3.WG.length cap].toArray 39)) ix wr) (fun ix _=>S3.WG.length -(intOf ix).toNat)
  case atStart=>exact⟨0,rfl,by omega,Below.refl _ _⟩
  case round=>
   obtain⟨k,rfl,hk,hbw⟩:=hrel;have hgr:=(ZC HG.out.2.2 hbw).cell 0 rfl;by_cases hlt:k < S3.WG.length
   ·obtain⟨P,hP⟩: ∃ P,S3.WG[k]? =some P:=⟨_,List.getElem?_eq_getElem hlt⟩
    have hPl:=R.few.1.2 k P hP;obtain⟨la,lc,sa,sc,hM⟩:=(HG.out.2.1.low hbw).pc k P hP;have hlv:=Z9 hM.lv;have hnod:=Z9 (fun j y (h:P.leaves[j]? =some y)=>R.nodes hP h);obtain⟨d0,d1,d2,d3,d4,d5,d6⟩:=hM.all;obtain⟨pl,psu,pi,pv,pk,po,pr⟩:=P;dsimp only at hlv hnod d0 d1 d2 d3 d4 d5 d6 hPl;have hP:=Z9 hP;have hTr:=Z9 (hT3.out.low hbw);clear hM;have hb1:=Z9 ((Below.refl wr.heap.size wr).alloc (Nat.le_refl _) (.cells [.slice la pl.length lc,.slice sa psu.length sc,.int .i64 pi,.bool pv,.int .i64 pk,.int .i64 po,.bool pr].toArray 45));obtain⟨wo,hwo⟩: ∃ wo:World,wo=wr:=⟨_,rfl⟩
    subst hwo;have hwr0:=hbw.size;go_wp2_with fail
    go_loopw [26] (fun ix wr=>iT pl.length (wo.alloc (.cells [.slice la pl.length lc,.slice sa psu.length sc,.int .i64 pi,.bool pv,.int .i64 pk,.int .i64 po,.bool pr].toArray 45)) ix wr) (fun ix _=>pl.length -(intOf ix).toNat)
    case atStart=>exact⟨0,rfl,by omega,Below.refl _ _⟩
    case round=>
     obtain⟨j,rfl,hj,hbi⟩:=hrel;have hbA:=hb1.out.trans (hbi.mono hb1.out.size);by_cases hjl:j < pl.length
     ·obtain⟨y,hy⟩: ∃ y,pl[j]? =some y:=⟨_,List.getElem?_eq_getElem hjl⟩
      obtain⟨lb,rfl⟩: ∃ lb,la=some ⟨lb,0,none⟩:=by
       rcases hlv.out.2 with⟨_,h0⟩ |⟨gg,_,_,hv,_⟩
       ·omega
       ·simp only[Value.slice.injEq]at hv;exact⟨gg,hv.1⟩
      have e1:wr.cell? ⟨lb,j,none⟩=some (.int .i64 y):=by
       have hs':=own_below hlv.out hbA (fun k hk=>(hlv.out.lt k hk).2);rw[World.ownsRow.cellAt hs' j (by omega),List.getElem?_map,hy];rfl
      rcases hnod.out j y hy with rfl|⟨rfl,_⟩ |⟨x,rfl,hx⟩
      ·go_wp2_with fail
       exact⟨⟨j+1,by simp,by omega,hbi⟩,by simp[intOf];omega⟩
      ·go_wp2_with fail
       exact⟨⟨j+1,by simp,by omega,hbi⟩,by simp[intOf];omega⟩
      ·have n1:((x:Int)!= -1)=true:=by first|(simp;done) |(simp;omega)
       have n2:((x:Int)!= -2)=true:=by first|(simp;done) |(simp;omega)
       go_wp2_with fail
       refine(Yf (hTr.out.low hbA)).mono ?_;rintro e' w5 ⟨rfl,rfl⟩;go_wp2_with fail
       refine(YT _ _ _).mono ?_;rintro e' w5 ⟨rfl,rfl⟩;rw[show decide (0<=(x:Int)∧(x:Int) < (A.ls.length:Int))=true by simp;omega];go_wp2_with fail
       exact⟨⟨j+1,by simp,by omega,hbi⟩,by simp[intOf];omega⟩
     ·go_wp2_with fail
      exact⟨⟨k+1,by simp,by omega,hbw.trans (hbA.mono hwr0)⟩,by simp[intOf];omega⟩
   ·go_wp2_with fail
    go_ret;exact⟨by simp[R.few.2],HG.out.1.trans (hbw.mono (by have:=HG.out.1.size;omega))⟩
end Go.Proofs.YteedbaejpdjilaaGreat
