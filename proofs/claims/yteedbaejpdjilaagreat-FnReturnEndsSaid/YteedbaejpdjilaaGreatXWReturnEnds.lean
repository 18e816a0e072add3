/- Part of the proof: WReturnEnds. -/
import Derived.Test.YteedbaejpdjilaaGreatXEnd
import Derived.Test.YteedbaejpdjilaaGreatXRe
import Derived.Test.YteedbaejpdjilaaGreatXRf
set_option linter.all false
set_option maxRecDepth 100000
set_option maxHeartbeats 4000000
namespace Go.Proofs.YteedbaejpdjilaaGreat
open Go.RowKit
theorem RB.ret {t:T} {A:Tr} {S S3:BS} {c:Nat} {X:Cx} (R:RB t A S S3 c X) {i j:Nat} {P:Pc} {y:Int} (hP:S3.WG[i]? =some P) (hy:P.leaves[j]? =some y):(y= -2∨(∃ x:Nat,y=x∧A.Y0 x=9)->P.leaves.length=j+1∧P.Zn=true∧P.succs= [])∧(¬ (y= -2∨(∃ x:Nat,y=x∧A.Y0 x=9))->P.leaves.length=j+1->P.Zn=false):=by
 obtain⟨k3,hk,rfl⟩:=JH hP;simp only[Bk.pc,List.getElem?_map,Option.map_eq_some_iff]at hy;obtain⟨z,hz,rfl⟩:=hy;have hlast:k3.nodes.length=j+1->k3.ends=z.ret:=fun h=>by
  have:k3.nodes.getLast? =some z:=by rw[List.getLast?_eq_getElem?,h];simpa using hz
  unfold Bk.ends;rw[this];rfl
 simp only[Bk.pc,List.length_map];rcases R.sem.EG R.fin hk hz with⟨h1,h2⟩ |⟨h1,h2,h3,h4,_⟩ |⟨x,h1,h2⟩
 ·rw[h1];refine⟨fun h=>?_,fun _ h=>(hlast h).trans h2⟩;rcases h with h|⟨x,h,_⟩
  ·exact absurd h (by decide)
  ·omega
 ·rw[h1];refine⟨fun _=>⟨h3,(hlast h3).trans h2,by rw[h4];rfl⟩,fun h=>absurd (.inl rfl) h⟩
 ·obtain⟨L,_,E⟩:=R.sem.spot R.fin hk hz h1;have hA:=R.xa;subst hA;rw[h1];refine⟨fun h=>?_,fun h hl=>?_⟩
  ·have hk9:X.A.Y0 x=9:=by
    rcases h with h|⟨x',h,h9⟩
    ·omega
    ·have:x=x':=by omega
     rw[this];exact h9
   obtain⟨e1,e2⟩:=E [] (L.stop (.inr hk9));exact⟨e1,(hlast e1).trans (L.ret.2 hk9),by rw[e2];rfl⟩
  ·have h9:X.A.Y0 x≠9:=fun e=>h (.inr ⟨x,rfl,e⟩);refine(hlast hl).trans ?_;cases hr:z.ret with
   |false=>rfl
   |true=>exact absurd (L.ret.1 hr) h9
theorem RB.ret0 {S3:BS} {i:Nat} {P:Pc} (hP:S3.WG[i]? =some P) (h:P.leaves= []):P.Zn=false:=by
 obtain⟨k3,hk,rfl⟩:=JH hP;have:k3.nodes= []:=by simpa [Bk.pc]using h
 simp[Bk.pc,Bk.ends,this]
theorem walkReturnEnds:jE 22:=by
 intro t hl w v h;have HR:=Z9 (readB hl h);have HS:=Z9 h;obtain⟨va,vn,vc,rfl⟩:=h.sl;clear h hl;go_enter Tryz.func22,Tryz.ntmps22;go_wp2_with fail
 refine HR.out.mono ?_;rintro e' w1 ⟨p,rt,lo,rfl,hc,hb,hg⟩;have hg:=Z9 hg;go_wp2_with fail
 refine(YZ hc).mono ?_;rintro e' w2 ⟨rfl,rfl⟩;cases rt with
 |false=>
  go_wp2_with fail
  go_ret;exact⟨rfl,hb⟩
 |true=>
  obtain⟨A,S,S3,c,X,R,hT0⟩:=hg.out rfl;have hT:=Z9 hT0;clear hg hT0;go_wp2_with fail
  refine(VB R (HS.out.low hb)).mono ?_;rintro e' w3 ⟨g,cap,rfl,hG,hb3⟩;have hbz:=hb.size;have hW3:=hb.trans (hb3.mono hbz);have hbz3:=hb3.size;have hT3:=Z9 ((hT.out.low hb3).low (RG (W:=w3) [.slice (some ⟨g,0,none⟩) S3.WG.length cap] 39));have hal:Below w.heap.size w (w3.alloc (.cells [.slice (some ⟨g,0,none⟩) S3.WG.length cap].toArray 39)):=hW3.alloc (by omega) _;have hGA:=hG.low (w':=w3.alloc (.cells [.slice (some ⟨g,0,none⟩) S3.WG.length cap].toArray 39)) ((Below.refl _ _).alloc (Nat.le_refl _) _);have HG:=Za hal hGA (ZV.new w3 [.slice (some ⟨g,0,none⟩) S3.WG.length cap] 39);have g0:=HG.out.2.2.cell 0 rfl;clear hal hGA hG hW3 hb3;have hpl:S3.WG.length<=100000:=R.few.1.1;have hpl0:=R.few.2;go_wp2_with fail
  go_loopw [20] (fun ix wr=>iT S3.WG.length (w3.alloc (.cells [.slice (some ⟨g,0,none⟩) S3.WG.length cap].toArray 39)) ix wr) (fun ix _=>S3.WG.length -(intOf ix).toNat)
  case atStart=>exact⟨0,rfl,by omega,Below.refl _ _⟩
  case round=>
   obtain⟨k,rfl,hk,hbw⟩:=hrel;have hgr:=(ZC HG.out.2.2 hbw).cell 0 rfl;by_cases hlt:k < S3.WG.length
   ·obtain⟨P,hP⟩: ∃ P,S3.WG[k]? =some P:=⟨_,List.getElem?_eq_getElem hlt⟩
    have hPl:=R.few.1.2 k P hP;obtain⟨la,lc,sa,sc,hM⟩:=(HG.out.2.1.low hbw).pc k P hP;have hlv:=Z9 hM.lv;have hret:=Z9 (fun j y (h:P.leaves[j]? =some y)=>R.ret hP h);have hret0:=Z9 (fun h=>RB.ret0 hP h);have hnod:=Z9 (fun j y (h:P.leaves[j]? =some y)=>R.nodes hP h);obtain⟨d0,d1,d2,d3,d4,d5,d6⟩:=hM.all;obtain⟨pl,psu,pi,pv,pk,po,pr⟩:=P;dsimp only at hlv hnod hret0 d0 d1 d2 d3 d4 d5 d6 hPl;have hP:=Z9 hP;have hTr:=Z9 (hT3.out.low hbw);clear hM;have hb1:=Z9 ((Below.refl wr.heap.size wr).alloc (Nat.le_refl _) (.cells [.slice la pl.length lc,.slice sa psu.length sc,.int .i64 pi,.bool pv,.int .i64 pk,.int .i64 po,.bool pr].toArray 45));have hbP:=Z9 (ZV.new wr [.slice la pl.length lc,.slice sa psu.length sc,.int .i64 pi,pv,.int .i64 pk,.int .i64 po,pr] 45);obtain⟨wo,hwo⟩: ∃ wo:World,wo=wr:=⟨_,rfl⟩
    subst hwo;have hwr0:=hbw.size;go_wp2_with fail
    go_loopw [27] (fun ix wr=>iT pl.length (wo.alloc (.cells [.slice la pl.length lc,.slice sa psu.length sc,.int .i64 pi,.bool pv,.int .i64 pk,.int .i64 po,.bool pr].toArray 45)) ix wr) (fun ix _=>pl.length -(intOf ix).toNat)
    case atStart=>exact⟨0,rfl,by omega,Below.refl _ _⟩
    case round=>
     obtain⟨j,rfl,hj,hbi⟩:=hrel;have hbA:=hb1.out.trans (hbi.mono hb1.out.size);have b0:=(ZC hbP.out hbi).cell 0 rfl;have b1:=(ZC hbP.out hbi).cell 1 rfl;have b6:=(ZC hbP.out hbi).cell 6 rfl;by_cases hjl:j < pl.length
     ·obtain⟨y,hy⟩: ∃ y,pl[j]? =some y:=⟨_,List.getElem?_eq_getElem hjl⟩
      obtain⟨lb,rfl⟩: ∃ lb,la=some ⟨lb,0,none⟩:=by
       rcases hlv.out.2 with⟨_,h0⟩ |⟨gg,_,_,hv,_⟩
       ·omega
       ·simp only[Value.slice.injEq]at hv;exact⟨gg,hv.1⟩
      have e1:wr.cell? ⟨lb,j,none⟩=some (.int .i64 y):=by
       have hs':=own_below hlv.out hbA (fun k hk=>(hlv.out.lt k hk).2);rw[World.ownsRow.cellAt hs' j (by omega),List.getElem?_map,hy];rfl
      rcases hnod.out j y hy with rfl|⟨rfl,_⟩ |⟨x,rfl,hx⟩
      ·have e1:=(hret.out j _ hy).2 (by rintro(h|⟨x,h,_⟩)<;>omega);try dsimp only at e1
       by_cases hl:pl.length=j+1
       ·have e2:=e1 hl;subst e2;clear e1;have q2:((j:Int)==(pl.length:Int) -1)=true:=by simp;omega
        clear hl;go_wp2_with fail
        exact⟨⟨j+1,by simp,by omega,hbi⟩,by simp[intOf];omega⟩
       ·have q2:((j:Int)==(pl.length:Int) -1)=false:=by simp;omega
        clear e1;go_wp2_with fail
        exact⟨⟨j+1,by simp,by omega,hbi⟩,by simp[intOf];omega⟩
      ·obtain⟨e1,e2,e3⟩:=(hret.out j _ hy).1 (.inl rfl);try dsimp only at e1 e2 e3
       subst e2 e3;have q1:decide ((j:Int) < (pl.length:Int) -1)=false:=by simp;omega
       clear e1;go_wp2_with fail
       exact⟨⟨j+1,by simp,by omega,hbi⟩,by simp[intOf];omega⟩
      ·have n2:((x:Int)== -2)=false:=by first|(simp;done) |(simp;omega)
       by_cases h9:A.Y0 x=9
       ·obtain⟨e1,e2,e3⟩:=(hret.out j _ hy).1 (.inr ⟨x,rfl,h9⟩);try dsimp only at e1 e2 e3
        subst e2 e3;have q1:decide ((j:Int) < (pl.length:Int) -1)=false:=by simp;omega
        clear e1;go_wp2_with fail
        refine(Dq (hTr.out.low hbA) R.wf hx).mono ?_;rintro e' w5 ⟨rfl,hb5⟩;have hbi:=hbi.trans (hb5.mono hbi.size);have c0:=(ZC hbP.out hbi).cell 0 rfl;have c1:=(ZC hbP.out hbi).cell 1 rfl;have c6:=(ZC hbP.out hbi).cell 6 rfl;rw[h9];go_wp2_with fail
        refine⟨?_,by simp[intOf];omega⟩
        (iterate 60 (try apply Exists.intro))
        refine⟨?_,rfl⟩;exact⟨j+1,by simp,by omega,by simpa using hbi⟩
       ·have n9:(A.Y0 x==9)=false:=by simpa using h9
        have e1:=(hret.out j _ hy).2 (fun h=>h.elim (fun h=>by omega) (fun⟨x',h,h'⟩=>h9 (by rw[show x=x' from by omega];exact h')));try dsimp only at e1
        by_cases hl:pl.length=j+1
        ·have e2:=e1 hl;subst e2;clear e1;have q2:((j:Int)==(pl.length:Int) -1)=true:=by simp;omega
         clear hl;have h9:=Z9 h9;go_wp2_with fail
         refine(Dq (hTr.out.low hbA) R.wf hx).mono ?_;rintro e' w5 ⟨rfl,hb5⟩;have hbi:=hbi.trans (hb5.mono hbi.size);have c0:=(ZC hbP.out hbi).cell 0 rfl;have c1:=(ZC hbP.out hbi).cell 1 rfl;have c6:=(ZC hbP.out hbi).cell 6 rfl;go_wp2_with fail
         first
          |exact⟨⟨j+1,by simp,by omega,hbi⟩,by simp[intOf];omega⟩
          |(refine⟨?_,by simp[intOf];omega⟩;(iterate 60 (try apply Exists.intro));refine⟨?_,rfl⟩;exact⟨j+1,by simp,by omega,by simpa using hbi⟩)
        ·have q2:((j:Int)==(pl.length:Int) -1)=false:=by simp;omega
         clear e1;have h9:=Z9 h9;go_wp2_with fail
         refine(Dq (hTr.out.low hbA) R.wf hx).mono ?_;rintro e' w5 ⟨rfl,hb5⟩;have hbi:=hbi.trans (hb5.mono hbi.size);have c0:=(ZC hbP.out hbi).cell 0 rfl;have c1:=(ZC hbP.out hbi).cell 1 rfl;have c6:=(ZC hbP.out hbi).cell 6 rfl;go_wp2_with fail
         first
          |exact⟨⟨j+1,by simp,by omega,hbi⟩,by simp[intOf];omega⟩
          |(refine⟨?_,by simp[intOf];omega⟩;(iterate 60 (try apply Exists.intro));refine⟨?_,rfl⟩;exact⟨j+1,by simp,by omega,by simpa using hbi⟩)
     ·by_cases hl0:pl= []
      ·have e2:=hret0.out hl0;subst hl0 e2;go_wp2_with fail
       exact⟨⟨k+1,by simp,by omega,hbw.trans (hbA.mono hwr0)⟩,by simp[intOf];omega⟩
      ·have e3:((pl.length:Int)==0)=false:=by
        have:=List.length_pos_iff.2 hl0;simp;omega
       go_wp2_with fail
       exact⟨⟨k+1,by simp,by omega,hbw.trans (hbA.mono hwr0)⟩,by simp[intOf];omega⟩
   ·go_wp2_with fail
    go_ret;exact⟨by simp[R.few.2],HG.out.1.trans (hbw.mono (by have:=HG.out.1.size;omega))⟩
end Go.Proofs.YteedbaejpdjilaaGreat
