/- Part of the proof: WAskedReached. -/
import Derived.Test.YteedbaejpdjilaaGreatYEnd
import Derived.Test.YteedbaejpdjilaaGreatTSd
import Derived.Test.YteedbaejpdjilaaGreatTSf
set_option linter.all false
set_option maxRecDepth 100000
set_option maxHeartbeats 4000000
namespace Go.Proofs.YteedbaejpdjilaaGreat
open Go.RowKit
def Z28 (n:Nat) (W:World) (ix:Value) (wr:World):Prop:= ∃ k:Nat,ix=.int .i64 k/\k<=n/\Below W.heap.size W wr
def Z3a (l:List Int) (x:Int) (W:World) (bv ix:Value) (wr:World):Prop:= ∃ (k:Nat) (b:Bool),ix=.int .i64 k/\k<=l.length/\bv=.bool b/\(b=true↔x∈l.take k)/\Below W.heap.size W wr
theorem Z3o {l:List Int} {x y:Int} {k:Nat} {b b':Bool} (h:b=true↔x∈l.take k) (hy:l[k]? =some y) (hb:b'=(b||y==x)):b'=true↔x∈l.take (k+1):=by
 rw[hb,Bool.or_eq_true,h,List.take_add_one,hy,ZM,beq_iff_eq];simp[eq_comm]
theorem Z3l {t:T} {A:Tr} {S S3:BS} {c:Nat} {X:Cx} (R:RB t A S S3 c X):S3.asked.length<=900000:=by
 rw[R.fin.asked];have h1:=R.fin.rs.bd.ask;have h2:=R.rt.wt;omega
theorem Z3h:fG 4:=by
 intro t hl w v h;have HR:=Z5 (readB hl h);have HS:=Z5 h;obtain⟨va,vn,vc,rfl⟩:=h.sl;clear h hl;go_enter Tryz.func4,Tryz.ntmps4;go_wp2_with fail
 refine HR.out.mono ?_;rintro e' w1 ⟨p,rt,lo,rfl,hc,hb,hg⟩;have hg:=Z5 hg;go_wp2_with fail
 refine(qd hc).mono ?_;rintro e' w2 ⟨rfl,rfl⟩;cases rt with
 |false=>
  go_wp2_with fail
  go_ret;exact⟨rfl,hb⟩
 |true=>
  obtain⟨A,S,S3,c,X,R,hT0⟩:=hg.out rfl;have hT:=Z5 hT0;clear hg hT0;have hbz:=hb.size;have hls:=R.sm.1;go_wp2_with fail
  refine(ql R.fin.built ((HS.out.low hb).body R.rt)).mono ?_;rintro e' w3 ⟨av,rfl,hav,hb3⟩;obtain⟨aa,ac,rfl⟩:=ZR hav;have H3:=X7 (Yp hav hbz) (hb.trans (hb3.mono hbz)) (hT.out.low hb3);have hal:=Z3l R;have hask:=R.sem.asked R.fin;have hA:X.A=A:=R.sem.A;rw[hA]at hask;have HA:=Z5 hask.2;clear hav hb3 hask hA;go_wp2_with fail
  refine(Z4t H3.out.2.2 R.wf R.sm).mono ?_;rintro e' w4 ⟨gi,f,b0,rfl,hbl,-,-,hb4,hgi⟩;have hz3:=H3.out.2.1.size;have H4:=Xp hbl (H3.out.2.1.trans (hb4.mono hz3)) (H3.out.2.2.low hb4) (own_below H3.out.1 hb4 (fun g hg=>(H3.out.1.lt g hg).2));clear hbl hb4;go_wp2_with fail
  go_loopw [26] (fun ix wr=>Z28 A.ls.length w4 ix wr) (fun ix _=>A.ls.length -(intOf ix).toNat)
  case atStart=>exact⟨0,rfl,by omega,ZN _ _⟩
  case round=>
   obtain⟨k,rfl,hk,hbw⟩:=hrel;have HR:=Z5 hbw;by_cases hkl:k < A.ls.length
   .have ci:=(U4 H4.out.1 hbw).cell k (LM (f:=f) hkl);have HC:=Z5 (BF (H4.out.2.2.1.low hbw) R.wf hkl);clear hbw;cases hfk:f k with
    |false=>
     rw[hfk]at ci;clear hfk;go_wp2_with fail
     exact⟨⟨k+1,by simp,hkl,HR.out⟩,by simp[intOf];omega⟩
    |true=>
     rw[hfk]at ci;clear hfk;go_wp2_with fail
     refine HC.out.mono ?_;rintro e w5 ⟨rfl,hb5⟩;have H5:=Z5 (HR.out.trans (hb5.mono HR.out.size));have HC2:=Z5 (BF (H4.out.2.2.1.low H5.out) R.wf hkl);clear hb5;by_cases h1:A.Yh k=1
     .have hin:=Z5 (HA.out k (by rw[<-R.len];exact hkl) (.inl h1));rw[h1];clear h1;go_wp2_with fail
      go_loopw [9,47] (fun bv ix wr=>Z3a S3.asked k w4 bv ix wr) (fun _ ix _=>S3.asked.length -(intOf ix).toNat)
      case atStart=>exact⟨0,false,rfl,by omega,rfl,by simp,H5.out⟩
      case round=>
       obtain⟨j,b,rfl,hj,rfl,hbe,hbx⟩:=hrel;have HX:=Zl hbe hbx;by_cases hjl:j < S3.asked.length
       .obtain⟨bo,hbo,cx0x⟩:=Z5q H4.out.2.2.2 hjl;subst hbo;have e1:=(hbx.cell (p:=⟨bo,j,none⟩) (H4.out.2.2.2.lt bo rfl).2).trans (cx0x j hjl);have hst:=Z5 (fun b'=>Z3o (b':=b') hbe (Z9 hjl));generalize S3.asked[j]=y at*;clear cx0x hbe hbx;cases b with
        |true=>
         go_wp2_with fail
         exact⟨⟨j+1,true,by simp,hjl,rfl,hst.out _ (by simp),HX.out.2⟩,by simp[intOf];omega⟩
        |false=>
         go_wp2_with fail
         exact⟨⟨j+1,y==(k:Int),by simp,hjl,rfl,hst.out _ (by simp),HX.out.2⟩,by simp[intOf];omega⟩
       .have hje:j=S3.asked.length:=by omega
        have hbt:b=true:=by rw[hbe,hje,List.take_length];exact hin.out
        clear hbe hbx hje;subst hbt;go_wp2_with fail
        exact⟨⟨k+1,by simp,hkl,HX.out.2⟩,by simp[intOf];omega⟩
     .have k1:(A.Yh k !=1)=true:=by simp[h1]
      go_wp2_with fail
      refine HC2.out.mono ?_;rintro e w6 ⟨rfl,hb6⟩;have H5:=Z5 (H5.out.trans (hb6.mono H5.out.size));clear hb6 k1;by_cases h2:A.Yh k=2
      .have hin:=Z5 (HA.out k (by rw[<-R.len];exact hkl) (.inr h2));rw[h2];clear h1 h2;go_wp2_with fail
       go_loopw [9,47] (fun bv ix wr=>Z3a S3.asked k w4 bv ix wr) (fun _ ix _=>S3.asked.length -(intOf ix).toNat)
       case atStart=>exact⟨0,false,rfl,by omega,rfl,by simp,H5.out⟩
       case round=>
        obtain⟨j,b,rfl,hj,rfl,hbe,hbx⟩:=hrel;have HX:=Zl hbe hbx;by_cases hjl:j < S3.asked.length
        .obtain⟨bo,hbo,cx0x⟩:=Z5q H4.out.2.2.2 hjl;subst hbo;have e1:=(hbx.cell (p:=⟨bo,j,none⟩) (H4.out.2.2.2.lt bo rfl).2).trans (cx0x j hjl);have hst:=Z5 (fun b'=>Z3o (b':=b') hbe (Z9 hjl));generalize S3.asked[j]=y at*;clear cx0x hbe hbx;cases b with
         |true=>
          go_wp2_with fail
          exact⟨⟨j+1,true,by simp,hjl,rfl,hst.out _ (by simp),HX.out.2⟩,by simp[intOf];omega⟩
         |false=>
          go_wp2_with fail
          exact⟨⟨j+1,y==(k:Int),by simp,hjl,rfl,hst.out _ (by simp),HX.out.2⟩,by simp[intOf];omega⟩
        .have hje:j=S3.asked.length:=by omega
         have hbt:b=true:=by rw[hbe,hje,List.take_length];exact hin.out
         clear hbe hbx hje;subst hbt;go_wp2_with fail
         exact⟨⟨k+1,by simp,hkl,HX.out.2⟩,by simp[intOf];omega⟩
      .have k2:(A.Yh k !=2)=true:=by simp[h2]
       clear h1 h2;go_wp2_with fail
       exact⟨⟨k+1,by simp,hkl,H5.out⟩,by simp[intOf];omega⟩
   .clear hbw;go_wp2_with fail
    go_ret;exact⟨rfl,H4.out.2.1.trans (HR.out.mono H4.out.2.1.size)⟩
end Go.Proofs.YteedbaejpdjilaaGreat
