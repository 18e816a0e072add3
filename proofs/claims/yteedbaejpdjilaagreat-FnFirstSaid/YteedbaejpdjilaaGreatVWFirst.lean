/- Part of the proof: WFirst. -/
import Derived.Test.YteedbaejpdjilaaGreatYEnd
import Derived.Test.YteedbaejpdjilaaGreatVSd
import Derived.Test.YteedbaejpdjilaaGreatVSe
set_option linter.all false
set_option maxRecDepth 100000
set_option maxHeartbeats 4000000
namespace Go.Proofs.YteedbaejpdjilaaGreat
open Go.RowKit
theorem Z4g:fG 11:=by
 intro t hl w v h;have HR:=Z5 (readB hl h);have HS:=Z5 h;obtain⟨va,vn,vc,rfl⟩:=h.sl;clear h hl;go_enter Tryz.func11,Tryz.ntmps11;go_wp2_with fail
 refine HR.out.mono ?_;rintro e' w1 ⟨p,rt,lo,rfl,hc,hb,hg⟩;have hg:=Z5 hg;go_wp2_with fail
 refine(qd hc).mono ?_;rintro e' w2 ⟨rfl,rfl⟩;cases rt with
 |false=>
  go_wp2_with fail
  go_ret;exact⟨rfl,hb⟩
 |true=>
  obtain⟨A,S,S3,c,X,R,hT0⟩:=hg.out rfl;have hT:=Z5 hT0;clear hg hT0;go_wp2_with fail
  refine(Z9n R (HS.out.low hb)).mono ?_;rintro e' w3 ⟨g,cap,rfl,hG,hb3⟩;have hbz:=hb.size;have hW3:=hb.trans (hb3.mono hbz);have Z3x:=hb3.size;have hal:Below w1.heap.size w1 (w3.alloc (.cells [.slice (some ⟨g,0,none⟩) S3.sP.length cap].toArray 39)):=hb3.alloc (by omega) _;have hGA:=hG.low (w':=w3.alloc (.cells [.slice (some ⟨g,0,none⟩) S3.sP.length cap].toArray 39)) ((ZN _ _).alloc (Z7 _) _);have HG:=X7 (hb.trans (hal.mono hbz)) hal (ZD.new w3 [.slice (some ⟨g,0,none⟩) S3.sP.length cap] 39);have g0:=HG.out.2.2.cell 0 rfl;have hpl0:=R.few.2;have hpe:S3.sP.length=S3.Z6.length:=by simp[BS.sP]
  have hC:=Z4Z (cap:=cap) (G:=S3.Z6) hGA R.few.1 (by omega) (fun i k hk=>⟨(R.fin.W3 hk).2.2.1,(R.fin.W3 hk).2.2.2.1⟩);rw[<-hpe]at hC;have HC:=Z5 hC;clear hal hGA hG hW3 hb3 hC hpe;go_wp2_with fail
  refine HC.out.mono ?_;rintro e' w4 ⟨l,v4,rfl,hv4,hr4,hm4,hb4⟩;have hB4:=HG.out.2.1.trans (hb4.mono HG.out.2.1.size);obtain⟨a4,c4,rfl⟩:=ZR hv4;have H4:=Xp hv4 hr4 hm4 (HG.out.1.trans (hb4.mono HG.out.1.size));have HF:=Z5 (Z5k (hT.out.low hB4) R.wf R.sm);clear hv4 hr4 hm4 hb4 hB4 g0;go_wp2_with fail
  refine HF.out.mono ?_;rintro e' w5 ⟨v5,rfl,hv5,hb5⟩;obtain⟨a5,c5,rfl⟩:=ZR hv5;have HM:=Z5 (Z4K (own_below H4.out.1 hb5 (fun g hg=>(H4.out.1.lt g hg).2)) hv5);have H5:=Z5 (H4.out.2.2.2.trans (hb5.mono H4.out.2.2.2.size));clear hv5 hb5;go_wp2_with fail
  refine HM.out.mono ?_;rintro e' w6 ⟨d,rfl,hd,hb6⟩;have he:l=qK A:=xI H4.out.2.1 EO (fun x=>by
   unfold qK;rw[H4.out.2.2.1 x,Vd R.wf (fun q hq=>by simp at hq;subst hq;exact R.wf.zero),Z9p,R.sem.first R.fin x];simp)
  have hdt:=hd.2 he;subst hdt;have H6:=Z5 (H5.out.trans (hb6.mono H5.out.size));clear hd he hb6;go_wp2_with fail
  go_ret;exact⟨rfl,H6.out⟩
end Go.Proofs.YteedbaejpdjilaaGreat
