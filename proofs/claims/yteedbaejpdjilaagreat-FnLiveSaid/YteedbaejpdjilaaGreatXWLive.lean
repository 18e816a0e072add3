/- Part of the proof: WLive. -/
import Derived.Test.YteedbaejpdjilaaGreatXEnd
import Derived.Test.YteedbaejpdjilaaGreatXRe
import Derived.Test.YteedbaejpdjilaaGreatXRf
import Derived.Test.YteedbaejpdjilaaGreatXRi
set_option linter.all false
set_option maxRecDepth 100000
set_option maxHeartbeats 4000000
namespace Go.Proofs.YteedbaejpdjilaaGreat
open Go.RowKit
theorem walkLive:jE 16:=by
 intro t hl w v h;have HR:=Z9 (readB hl h);have HS:=Z9 h;obtain⟨va,vn,vc,rfl⟩:=h.sl;clear h hl;go_enter Tryz.func16,Tryz.ntmps16;go_wp2_with fail
 refine HR.out.mono ?_;rintro e' w1 ⟨p,rt,lo,rfl,hc,hb,hg⟩;have hg:=Z9 hg;go_wp2_with fail
 refine(YZ hc).mono ?_;rintro e' w2 ⟨rfl,rfl⟩;cases rt with
 |false=>
  go_wp2_with fail
  go_ret;exact⟨rfl,hb⟩
 |true=>
  obtain⟨A,S,S3,c,X,R,hT0⟩:=hg.out rfl;have hT:=Z9 hT0;clear hg hT0;go_wp2_with fail
  refine(VB R (HS.out.low hb)).mono ?_;rintro e' w3 ⟨g,cap,rfl,hG,hb3⟩;have hbz:=hb.size;have hW3:=hb.trans (hb3.mono hbz);have hbz3:=hb3.size;have hal:Below w.heap.size w (w3.alloc (.cells [.slice (some ⟨g,0,none⟩) S3.WG.length cap].toArray 39)):=hW3.alloc (by omega) _;have hGA:=hG.low (w':=w3.alloc (.cells [.slice (some ⟨g,0,none⟩) S3.WG.length cap].toArray 39)) ((Below.refl _ _).alloc (Nat.le_refl _) _);have HG:=Za hal hGA (ZV.new w3 [.slice (some ⟨g,0,none⟩) S3.WG.length cap] 39);have g0:=HG.out.2.2.cell 0 rfl;clear hal hGA hG hW3 hb3;have hpl:S3.WG.length<=100000:=R.few.1.1;have hpl0:=R.few.2;have hpe:S3.WG.length=S3.bks.length:=by simp[BS.WG]
  have hRe:=reachable_any (bks:=S3.bks) (cap:=cap) HG.out.2.1 (by omega) (by omega) (fun i k hk=>⟨(R.fin.W3 hk).2.2.1,(R.fin.W3 hk).2.2.2.1⟩);rw[<-hpe]at hRe;have hRe:=Z9 hRe;clear hpe;go_wp2_with fail
  refine hRe.out.mono ?_;rintro e' w4 ⟨gi,f,rfl,hgi,hbl,hf,hb4⟩;have hW4:=HG.out.1.trans (hb4.mono HG.out.1.size);have hG4:=HG.out.2.1.low hb4;have hk4:=ZC HG.out.2.2 hb4;have g4:=hk4.cell 0 rfl;have H4:=XG hW4 hG4 hk4 hbl hf;clear hW4 hG4 hk4 hbl hf hb4 g0;go_wp2_with fail
  go_loopw [18] (fun ix wr=>iT S3.WG.length w4 ix wr) (fun ix _=>S3.WG.length -(intOf ix).toNat)
  case atStart=>exact⟨0,rfl,by omega,Below.refl _ _⟩
  case round=>
   obtain⟨k,rfl,hk,hbw⟩:=hrel;have hgr:=(ZC H4.out.2.2.1 hbw).cell 0 rfl;by_cases hlt:k < S3.WG.length
   ·obtain⟨P,hP⟩: ∃ P,S3.WG[k]? =some P:=⟨_,List.getElem?_eq_getElem hlt⟩
    obtain⟨la,lc,sa,sc,hM⟩:=(H4.out.2.1.low hbw).pc k P hP;have hpe:S3.WG.length=S3.bks.length:=by simp[BS.WG]
    have hfk:f k=P.live:=by
     rw[Bool.eq_iff_iff,H4.out.2.2.2.2 k];exact(R.fin.live hP).symm
    have c0:=(ZC H4.out.2.2.2.1 hbw).cell k (mkB_get hlt);rw[hfk]at c0;obtain⟨d0,d1,d2,d3,d4,d5,d6⟩:=hM.all;obtain⟨pl,psu,pi,pv,pk,po,pr⟩:=P;dsimp only at d0 d1 d2 d3 d4 d5 d6 c0;have hP:=Z9 hP;have hwr0:=hbw.size;have hgl:=(ZC H4.out.2.2.2.1 hbw).lt;have c1:=(XJ (ZC H4.out.2.2.2.1 hbw) (.cells [.slice la pl.length lc,.slice sa psu.length sc,.int .i64 pi,.bool pv,.int .i64 pk,.int .i64 po,.bool pr].toArray 45)).cell k (mkB_get (f:=f) hlt);rw[hfk]at c1;clear hM hpe hfk;go_wp2_with fail
    go_quiet (fail)
    cases pv
    all_goals
     go_wp2_with fail
     exact⟨⟨k+1,by simp,by omega,Zv (hbw.alloc hwr0 _) _⟩,by simp[intOf];omega⟩
   ·go_wp2_with fail
    go_ret;exact⟨by simp[R.few.2],H4.out.1.trans (hbw.mono H4.out.1.size)⟩
end Go.Proofs.YteedbaejpdjilaaGreat
