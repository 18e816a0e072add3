/- Part of the proof: WStands. -/
import Derived.Test.YteedbaejpdjilaaGreatXEnd
import Derived.Test.YteedbaejpdjilaaGreatXRe
set_option linter.all false
set_option maxRecDepth 100000
set_option maxHeartbeats 4000000
namespace Go.Proofs.YteedbaejpdjilaaGreat
open Go.RowKit
theorem uK:ML 24:=by
 intro t hl w v n hn h;have HR:=Z9 (readB hl h);have HS:=Z9 h;obtain⟨va,vn,vc,rfl⟩:=h.sl;clear h hl;go_enter Tryz.func24,Tryz.ntmps24;go_wp2_with fail
 refine HR.out.mono ?_;rintro e' w1 ⟨p,rt,lo,rfl,hc,hb,hg⟩;have hg:=Z9 hg;go_wp2_with fail
 refine(YZ hc).mono ?_;rintro e' w2 ⟨rfl,rfl⟩;cases rt with
 |false=>
  go_wp2_with fail
  go_ret;exact⟨rfl,hb⟩
 |true=>
  obtain⟨A,S,S3,c,X,R,hT⟩:=hg.out rfl;have hT:=Z9 hT;clear hg;go_wp2_with fail
  refine(Yf hT.out).mono ?_;rintro e' w2 ⟨rfl,rfl⟩;go_wp2_with fail
  refine(YT _ _ _).mono ?_;rintro e' w2 ⟨rfl,rfl⟩;by_cases hin:0<=n∧n < (A.ls.length:Int)
  ·obtain⟨x,rfl,hx⟩:=Ok.cast hin;rw[decide_eq_true hin];clear hin;go_wp2_with fail
   refine(VB R (HS.out.low hb)).mono ?_;rintro e' w3 ⟨g,cap,rfl,hG,hb3⟩;have hbz:=hb.size;have hW3:=hb.trans (hb3.mono hbz);have hbz3:=hb3.size;have hG:=Z9 hG;go_wp2_with fail
   refine(O1 hG.out R.few.1).mono ?_;rintro e' w4 ⟨v4,sp,rfl,hsp,hb4⟩;obtain⟨sa,sc,rfl⟩:=hsp.q.slice;have hpos:0 < sp.length:=by
    obtain⟨q,hq⟩:=R.stands hx;exact List.length_pos_of_mem ((hsp.mem q).2 hq)
   have HB:=Z9 (hW3.trans (hb4.mono hW3.size));clear hsp hb4 hW3 hb3;go_wp2_with fail
   go_ret;exact⟨by simp[hpos],HB.out⟩
  ·rw[decide_eq_false hin];go_wp2_with fail
   go_ret;exact⟨rfl,hb⟩
end Go.Proofs.YteedbaejpdjilaaGreat
