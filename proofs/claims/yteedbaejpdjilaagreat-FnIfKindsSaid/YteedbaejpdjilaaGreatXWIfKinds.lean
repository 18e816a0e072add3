/- Part of the proof: WIfKinds. -/
import Derived.Test.YteedbaejpdjilaaGreatXEnd
import Derived.Test.YteedbaejpdjilaaGreatXRe
import Derived.Test.YteedbaejpdjilaaGreatXRf
set_option linter.all false
set_option maxRecDepth 100000
set_option maxHeartbeats 4000000
namespace Go.Proofs.YteedbaejpdjilaaGreat
open Go.RowKit
theorem vX:ML 13:=by
 intro t hl w v n hn h;have HR:=Z9 (readB hl h);have HS:=Z9 h;obtain⟨va,vn,vc,rfl⟩:=h.sl;clear h hl;go_enter Tryz.func13,Tryz.ntmps13;go_wp2_with fail
 refine HR.out.mono ?_;rintro e' w1 ⟨p,rt,lo,rfl,hc,hb,hg⟩;have hg:=Z9 hg;go_wp2_with fail
 refine(YZ hc).mono ?_;rintro e' w2 ⟨rfl,rfl⟩;cases rt with
 |false=>
  go_wp2_with fail
  go_ret;exact⟨rfl,hb⟩
 |true=>
  obtain⟨A,S,S3,c,X,R,hT⟩:=hg.out rfl;have hT:=Z9 hT;clear hg;go_wp2_with fail
  refine(Yf hT.out).mono ?_;rintro e' w2 ⟨rfl,rfl⟩;go_wp2_with fail
  refine(YT _ _ _).mono ?_;rintro e' w2 ⟨rfl,rfl⟩;by_cases hin:0<=n∧n < (A.ls.length:Int)
  ·obtain⟨x,rfl,hx⟩:=Ok.cast hin;rw[decide_eq_true hin];clear hin;go_wp2_with fail
   refine(EU hT.out R.wf hx).mono ?_;rintro e' w2 ⟨rfl,hb2⟩;have hT2:=Z9 (hT.out.low hb2);have hb4:=hb.trans (hb2.mono hb.size);obtain⟨kd,hkd⟩: ∃ kd,Hid (kd=A.kd (A.lf x).of):=⟨_,Z9 rfl⟩
   obtain⟨nb,hnb⟩: ∃ nb,Hid (nb=(A.nd (A.lf x).of).number):=⟨_,Z9 rfl⟩
   obtain⟨he,hhe⟩: ∃ he,Hid (he=(A.nd (A.lf x).of).h.hasElse):=⟨_,Z9 rfl⟩
   rw[<-hkd.out,<-hnb.out,<-hhe.out];by_cases hk:kd=10
   ·subst hk;go_wp2_with fail
    refine(Vh hT2.out R.wf hx).mono ?_;rintro e' w5 ⟨rfl,hb5⟩;have hb6:=hb4.trans (hb5.mono hb4.size);cases hd:A.Ws x with
    |false=>
     go_wp2_with fail
     go_ret;exact⟨rfl,hb6⟩
    |true=>
     have hd:=Z9 hd;cases he with
     |false=>
      go_wp2_with fail
      refine(VB R (HS.out.low hb6)).mono ?_;rintro e' w3 ⟨g,cap,rfl,hG,hb3⟩;have hbz:=hb6.size;have hW3:=hb6.trans (hb3.mono hbz);have hbz3:=hb3.size;have HG:=ZL (hW3.alloc (by omega) (.cells [.int .i64 9,.int .i64 7].toArray 3)) hG;clear hW3 hG hb3;go_wp2_with fail
      refine(SX (HG.out.2.low (RG [.int .i64 9,.int .i64 7] 3)) R.few.1 (R.stands hx) (ZV.new w3 [.int .i64 9,.int .i64 7] 3) ?_).mono ?_
      ·intro i j P hP hx';have:=R.wK hP hx' hkd.out.symm hd.out;rw[<-hnb.out,<-hhe.out]at this;exact this
      rintro e' w9 ⟨rfl,hb9⟩;go_wp2_with fail
      go_ret;exact⟨rfl,HG.out.1.trans (hb9.mono HG.out.1.size)⟩
     |true=>
      go_wp2_with fail
      refine(VB R (HS.out.low hb6)).mono ?_;rintro e' w3 ⟨g,cap,rfl,hG,hb3⟩;have hbz:=hb6.size;have hW3:=hb6.trans (hb3.mono hbz);have hbz3:=hb3.size;have HG:=ZL (hW3.alloc (by omega) (.cells [.int .i64 9,.int .i64 8].toArray 3)) hG;clear hW3 hG hb3;go_wp2_with fail
      refine(SX (HG.out.2.low (RG [.int .i64 9,.int .i64 8] 3)) R.few.1 (R.stands hx) (ZV.new w3 [.int .i64 9,.int .i64 8] 3) ?_).mono ?_
      ·intro i j P hP hx';have:=R.wK hP hx' hkd.out.symm hd.out;rw[<-hnb.out,<-hhe.out]at this;exact this
      rintro e' w9 ⟨rfl,hb9⟩;go_wp2_with fail
      go_ret;exact⟨rfl,HG.out.1.trans (hb9.mono HG.out.1.size)⟩
   ·have hq:(kd !=10)=true:=by simpa using hk
    clear hk;go_wp2_with fail
    go_ret;exact⟨rfl,hb4⟩
  ·rw[decide_eq_false hin];go_wp2_with fail
   go_ret;exact⟨rfl,hb⟩
end Go.Proofs.YteedbaejpdjilaaGreat
