/- Part of the proof: WLiveEnd. -/
import Derived.Test.YteedbaejpdjilaaGreatYEnd
import Derived.Test.YteedbaejpdjilaaGreatUSh
import Derived.Test.YteedbaejpdjilaaGreatUSf
set_option linter.all false
set_option maxRecDepth 100000
set_option maxHeartbeats 4000000
namespace Go.Proofs.YteedbaejpdjilaaGreat
open Go.RowKit
theorem Z3v:fG 17:=by
 intro t hl w v h;have HR:=Z5 (readB hl h);have HS:=Z5 h;obtain⟨va,vn,vc,rfl⟩:=h.sl;clear h hl;go_enter Tryz.func17,Tryz.ntmps17;go_wp2_with fail
 refine HR.out.mono ?_;rintro e' w1 ⟨p,rt,lo,rfl,hc,hb,hg⟩;have hg:=Z5 hg;go_wp2_with fail
 refine(qd hc).mono ?_;rintro e' w2 ⟨rfl,rfl⟩;cases rt with
 |false=>
  go_wp2_with fail
  go_ret;exact⟨rfl,hb⟩
 |true=>
  obtain⟨A,S,S3,c,X,R,hT0⟩:=hg.out rfl;have hT:=Z5 hT0;clear hg hT0;go_wp2_with fail
  refine(Z9n R (HS.out.low hb)).mono ?_;rintro e' w3 ⟨g,cap,rfl,hG,hb3⟩;have hbz:=hb.size;have Z3x:=hb3.size;have hal:Below w1.heap.size w1 (w3.alloc (.cells [.slice (some ⟨g,0,none⟩) S3.sP.length cap].toArray 39)):=hb3.alloc (by omega) _;have hGA:=hG.low (w':=w3.alloc (.cells [.slice (some ⟨g,0,none⟩) S3.sP.length cap].toArray 39)) ((ZN _ _).alloc (Z7 _) _);have HG:=Xp (hb.trans (hal.mono hbz)) hal (ZD.new w3 [.slice (some ⟨g,0,none⟩) S3.sP.length cap] 39) hGA;have hpl0:=R.few.2;have hpl:S3.sP.length<=100000:=R.few.1.1;clear hal hGA hG hb3;go_wp2_with fail
  refine(Z4t (hT.out.low HG.out.2.1) R.wf R.sm).mono ?_;rintro e' w4 ⟨gi,f,b0,rfl,hbl,hb0,hf,hb4,hgi⟩;have vR:=HG.out.2.1.size;have H4:=Qd hbl hb0 hf (HG.out.1.trans (hb4.mono HG.out.1.size)) (U4 HG.out.2.2.1 hb4) (HG.out.2.2.2.low hb4);have g4:=H4.out.2.2.2.2.1.cell 0 rfl;clear hbl hb0 hf hb4;have HL:=Z5 (Z3t (cap:=cap) (x:= -2) H4.out.2.2.2.2.2 R.few.1);go_wp2_with fail
  refine HL.out.mono ?_;rintro e' w5 ⟨d,rfl,hd,hb5⟩;have he:b0=d:=by rw[Bool.eq_iff_iff,hd,R.lvb (by decide)];exact H4.out.2.1
  subst he;have H5:=Z5 (H4.out.2.2.2.1.trans (hb5.mono H4.out.2.2.2.1.size));clear hd hb5;cases b0
  all_goals
   go_wp2_with fail
   go_ret;exact⟨rfl,H5.out⟩
end Go.Proofs.YteedbaejpdjilaaGreat
