/- Part of the proof: WLiveLeaf. -/
import Derived.Test.YteedbaejpdjilaaGreatYEnd
import Derived.Test.YteedbaejpdjilaaGreatUSh
import Derived.Test.YteedbaejpdjilaaGreatUSf
set_option linter.all false
set_option maxRecDepth 100000
set_option maxHeartbeats 4000000
namespace Go.Proofs.YteedbaejpdjilaaGreat
open Go.RowKit
theorem Z3c:fF 18:=by
 intro t hl w v n hn h;have HR:=Z5 (readB hl h);have HS:=Z5 h;obtain⟨va,vn,vc,rfl⟩:=h.sl;clear h hl;go_enter Tryz.func18,Tryz.ntmps18;go_wp2_with fail
 refine HR.out.mono ?_;rintro e' w1 ⟨p,rt,lo,rfl,hc,hb,hg⟩;have hg:=Z5 hg;go_wp2_with fail
 refine(qd hc).mono ?_;rintro e' w2 ⟨rfl,rfl⟩;cases rt with
 |false=>
  go_wp2_with fail
  go_ret;exact⟨rfl,hb⟩
 |true=>
  obtain⟨A,S,S3,c,X,R,hT0⟩:=hg.out rfl;have hT:=Z5 hT0;clear hg hT0;have hbz:=hb.size;go_wp2_with fail
  refine(If hT.out).mono ?_;rintro e' w2 ⟨rfl,rfl⟩;go_wp2_with fail
  refine(Z3q _ _ _).mono ?_;rintro e' w2 ⟨rfl,rfl⟩;by_cases hin:0<=n/\n < A.ls.length
  .obtain⟨m,rfl,hm⟩:=Ok.cast hin;rw[show decide ((0:Int)<=m/\(m:Int) < A.ls.length)=true by simp;omega];clear hin;go_wp2_with fail
   refine(Z9n R (HS.out.low hb)).mono ?_;rintro e' w3 ⟨g,cap,rfl,hG,hb3⟩;have Z3x:=hb3.size;have hal:Below w1.heap.size w1 (w3.alloc (.cells [.slice (some ⟨g,0,none⟩) S3.sP.length cap].toArray 39)):=hb3.alloc (by omega) _;have hGA:=hG.low (w':=w3.alloc (.cells [.slice (some ⟨g,0,none⟩) S3.sP.length cap].toArray 39)) ((ZN _ _).alloc (Z7 _) _);have HG:=Xp (hb.trans (hal.mono hbz)) hal (ZD.new w3 [.slice (some ⟨g,0,none⟩) S3.sP.length cap] 39) hGA;have hpl0:=R.few.2;have hpl:S3.sP.length<=100000:=R.few.1.1;clear hal hGA hG hb3;go_wp2_with fail
   refine(Z4t (hT.out.low HG.out.2.1) R.wf R.sm).mono ?_;rintro e' w4 ⟨gi,f,b0,rfl,hbl,hb0,hf,hb4,hgi⟩;have vR:=HG.out.2.1.size;have H4:=Qd hbl hb0 hf (HG.out.1.trans (hb4.mono HG.out.1.size)) (U4 HG.out.2.2.1 hb4) (HG.out.2.2.2.low hb4);have g4:=H4.out.2.2.2.2.1.cell 0 rfl;clear hbl hb0 hf hb4;obtain⟨fm,hfm⟩: ∃ fm,Hid (fm=f m):=⟨_,Z5 rfl⟩
   have c4:=H4.out.1.cell m (LM (f:=f) hm);rw[<-hfm.out]at c4;have HL:=Z5 ((Z3t (cap:=cap) (x:=(m:Int)) (H4.out.2.2.2.2.2.low (ZN _ _).drew) R.few.1).mono (fun e w' ⟨d,h1,h2,h3⟩=>show e=Ending.returned (.bool fm)/\Below w4.heap.size w4 w' from by
    have he:d=fm:=by rw[hfm.out,Bool.eq_iff_iff,h2,R.lvb (by omega)];exact(H4.out.2.2.1 m).symm
    exact⟨by rw[h1,he],(ZN _ _).drew.trans h3⟩))
   have HS2:=Z5 (fun(w':World) (hb:Below w4.heap.size w4 w')=>And.intro ((hb.cell (World.block_lt_of_cell? w4 _ g4)).trans g4) ((hb.cell (World.block_lt_of_cell? w4 _ c4)).trans c4));have hS0:=HS2.out _ (ZN _ _).drew;have hlp:decide (0 < (S3.sP.length:Int))=true:=by simp;omega
   go_wp2_with fail
   cases fm with
   |false=>
    go_region_held3 (fun w':World=>w'.cell? ⟨w3.heap.size,0,none⟩=some (.slice (some ⟨g,0,none⟩) S3.sP.length cap)/\w'.cell? ⟨gi,m,none⟩=some (.bool false)) (first|exact hS0|exact hS2|go_keep) (first|((go_at_call 55;refine HL.out.mono ?_;rintro e' w9 ⟨rfl,cq⟩;have hS2:=HS2.out w9 cq;have H9:=Z5 (H4.out.2.2.2.1.trans (cq.mono H4.out.2.2.2.1.size));clear cq)))
    go_wp2_with fail
    go_ret;exact⟨rfl,H9.out⟩
   |true=>
    go_region_held3 (fun w':World=>w'.cell? ⟨w3.heap.size,0,none⟩=some (.slice (some ⟨g,0,none⟩) S3.sP.length cap)/\w'.cell? ⟨gi,m,none⟩=some (.bool true)) (first|exact hS0|exact hS2|go_keep) (first|((go_at_call 55;refine HL.out.mono ?_;rintro e' w9 ⟨rfl,cq⟩;have hS2:=HS2.out w9 cq;have H9:=Z5 (H4.out.2.2.2.1.trans (cq.mono H4.out.2.2.2.1.size));clear cq)))
    go_wp2_with fail
    go_ret;exact⟨rfl,H9.out⟩
  .rw[decide_eq_false hin];go_wp2_with fail
   go_ret;exact⟨rfl,hb⟩
end Go.Proofs.YteedbaejpdjilaaGreat
