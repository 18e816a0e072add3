/- Part of the proof: WNoReturn. -/
import Derived.Test.YteedbaejpdjilaaGreatYEnd
import Derived.Test.YteedbaejpdjilaaGreatUSg
import Derived.Test.YteedbaejpdjilaaGreatURh
set_option linter.all false
set_option maxRecDepth 100000
set_option maxHeartbeats 4000000
namespace Go.Proofs.YteedbaejpdjilaaGreat
open Go.RowKit
theorem Z3w:fG 5:=by
 intro t hl w v h;have HR:=Z5 (readB hl h);have HS:=Z5 h;obtain⟨va,vn,vc,rfl⟩:=h.sl;clear h hl;go_enter Tryz.func5,Tryz.ntmps5;go_wp2_with fail
 refine HR.out.mono ?_;rintro e' w1 ⟨p,rt,lo,rfl,hc,hb,hg⟩;have hg:=Z5 hg;go_wp2_with fail
 refine(qd hc).mono ?_;rintro e' w2 ⟨rfl,rfl⟩;cases rt with
 |false=>
  go_wp2_with fail
  go_ret;exact⟨rfl,hb⟩
 |true=>
  obtain⟨A,S,S3,c,X,R,hT0⟩:=hg.out rfl;have hT:=Z5 hT0;clear hg hT0;go_wp2_with fail
  refine(xE hT.out R.wf).mono ?_;rintro e' w2 ⟨d,rfl,hd,hb2⟩;have HT2:=Z5 (hT.out.low hb2);have hb:=hb.trans (hb2.mono hb.size);cases d with
  |true=>
   go_wp2_with fail
   go_ret;exact⟨rfl,hb⟩
  |false=>
   have hdf:=Z5 (hd rfl);clear hd hb2;go_wp2_with fail
   refine(Z9n R (HS.out.low hb)).mono ?_;rintro e' w3 ⟨g,cap,rfl,hG,hb3⟩;have hpl0:=R.few.2;have HB:=Zl hb hb3;have hW3:=Z5 (hb.trans (hb3.mono hb.size));clear hG hb hb3;have hfld:(Instr.field 39 (.agg #[.slice (some ⟨g,0,none⟩) S3.sP.length cap]) 0).run Tryz.prog w3=.ok (.slice (some ⟨g,0,none⟩) S3.sP.length cap) w3:=by rfl
   go_wp2_with fail
   refine(zK R.fin.built ((HS.out.low hW3.out).body R.rt)).mono ?_;rintro e' w4 ⟨rfl,hb4⟩;have hT4:=Z5 ((HT2.out.low HB.out.2).low hb4);have hW4:=Z5 (hW3.out.trans (hb4.mono hW3.out.size));clear hb4;go_wp2_with fail
   refine(Z3u hT4.out R.wf R.sm).mono ?_;rintro e' w5 ⟨d,rfl,hd,hb5⟩;have he:d=S3.Z6.any fun k=>k.live&&k.Yz:=by
    have hA:X.A=A:=R.sem.A;have h1:=R.sem.returns R.fin (by rw[hA];exact hdf.out);rw[Bool.eq_iff_iff,hd,<-h1,List.any_eq_true];constructor
    .rintro⟨i,k3,hk,a,b⟩;exact⟨k3,ZY hk,by rw[a,b];rfl⟩
    .rintro⟨k3,hk,h⟩;obtain⟨i,hi⟩:=List.getElem?_of_mem hk;rw[Bool.and_eq_true]at h;exact⟨i,k3,hi,h⟩
   rw[<-he];have H5:=Z5 (hW4.out.trans (hb5.mono hW4.out.size));clear hd he hb5;cases d
   all_goals
    go_wp2_with fail
    go_ret;exact⟨rfl,H5.out⟩
end Go.Proofs.YteedbaejpdjilaaGreat
