/- Part of the proof: WNoReturnGraph. -/
import Derived.Test.YteedbaejpdjilaaGreatXEnd
import Derived.Test.YteedbaejpdjilaaGreatXRe
import Derived.Test.YteedbaejpdjilaaGreatXRf
import Derived.Test.YteedbaejpdjilaaGreatXRh
set_option linter.all false
set_option maxRecDepth 100000
set_option maxHeartbeats 4000000
namespace Go.Proofs.YteedbaejpdjilaaGreat
open Go.RowKit
def NgRel (ps:List Pc) (W:World) (sv ix:Value) (wr:World):Prop:= ∃ (k:Nat) (b:Bool),ix=.int .i64 k∧k<=ps.length∧sv=.bool b∧b=(ps.take k).any (fun P=>P.live&&P.Zn)∧Below W.heap.size W wr
theorem ng_step {ps:List Pc} {k:Nat} {P:Pc} (hP:ps[k]? =some P):(ps.take (k+1)).any (fun P=>P.live&&P.Zn)=((ps.take k).any (fun P=>P.live&&P.Zn)||(P.live&&P.Zn)):=by
 rw[List.take_add_one,hP,List.any_append];simp
theorem RB.anyRets {t:T} {A:Tr} {S S3:BS} {c:Nat} {X:Cx} (R:RB t A S S3 c X) (hd: ∀ x:Nat,x < A.ls.length->A.Y0 x≠7):(S3.bks.any fun k=>k.live&&k.Zn)=S3.WG.any fun P=>P.live&&P.Zn:=by
 have hA:=R.xa;subst hA;have key: ∀ {i:Nat} {k3:Bk},S3.bks[i]? =some k3->k3.Zn=k3.ends:=fun h=>Bool.eq_iff_iff.2 (R.sem.Zn R.fin hd h);rw[Bool.eq_iff_iff,List.any_eq_true,List.any_eq_true];constructor
 ·rintro⟨k3,hk,h⟩;obtain⟨i,hi⟩:=List.getElem?_of_mem hk;refine⟨_,List.mem_of_getElem? (N9 hi),?_⟩;show(k3.live&&k3.ends)=true;rw[<-key hi];exact h
 ·rintro⟨P,hP,h⟩;obtain⟨i,hi⟩:=List.getElem?_of_mem hP;obtain⟨k3,hk,rfl⟩:=JH hi;refine⟨k3,List.mem_of_getElem? hk,?_⟩;rw[key hk];exact h
theorem walkNoReturnGraph:jE 7:=by
 intro t hl w v h;have HR:=Z9 (readB hl h);have HS:=Z9 h;obtain⟨va,vn,vc,rfl⟩:=h.sl;clear h hl;go_enter Tryz.func7,Tryz.ntmps7;go_wp2_with fail
 refine HR.out.mono ?_;rintro e' w1 ⟨p,rt,lo,rfl,hc,hb,hg⟩;have hg:=Z9 hg;go_wp2_with fail
 refine(YZ hc).mono ?_;rintro e' w2 ⟨rfl,rfl⟩;cases rt with
 |false=>
  go_wp2_with fail
  go_ret;exact⟨rfl,hb⟩
 |true=>
  obtain⟨A,S,S3,c,X,R,hT0⟩:=hg.out rfl;have hT:=Z9 hT0;clear hg hT0;go_wp2_with fail
  refine(deferred_any hT.out R.wf).mono ?_;rintro e' w2 ⟨d,rfl,hd,hb2⟩;have hb:=hb.trans (hb2.mono hb.size);cases d with
  |true=>
   go_wp2_with fail
   go_ret;exact⟨rfl,hb⟩
  |false=>
   have hdf:=Z9 (hd rfl);clear hd;go_wp2_with fail
   refine(VB R (HS.out.low hb)).mono ?_;rintro e' w3 ⟨g,cap,rfl,hG,hb3⟩;have hbz:=hb.size;have hW3:=hb.trans (hb3.mono hbz);have hbz3:=hb3.size;have hal:Below w.heap.size w (w3.alloc (.cells [.slice (some ⟨g,0,none⟩) S3.WG.length cap].toArray 39)):=hW3.alloc (by omega) _;have hGA:=hG.low (w':=w3.alloc (.cells [.slice (some ⟨g,0,none⟩) S3.WG.length cap].toArray 39)) ((Below.refl _ _).alloc (Nat.le_refl _) _);have HG:=Za hal hGA (ZV.new w3 [.slice (some ⟨g,0,none⟩) S3.WG.length cap] 39);have g0:=HG.out.2.2.cell 0 rfl;clear hal hGA hG hW3 hb3;have hpl:S3.WG.length<=100000:=R.few.1.1;have hpl0:=R.few.2;go_wp2_with fail
   go_loopw [5,22] (fun sv ix wr=>NgRel S3.WG (w3.alloc (.cells [.slice (some ⟨g,0,none⟩) S3.WG.length cap].toArray 39)) sv ix wr) (fun _ ix _=>S3.WG.length -(intOf ix).toNat)
   case atStart=>exact⟨0,false,rfl,by omega,rfl,by simp,Below.refl _ _⟩
   case round=>
    obtain⟨k,b,rfl,hk,rfl,hbb0,hbw⟩:=hrel;have hgr:=(ZC HG.out.2.2 hbw).cell 0 rfl;have hbb:=Z9 hbb0;clear hbb0;by_cases hlt:k < S3.WG.length
    ·obtain⟨P,hP⟩: ∃ P,S3.WG[k]? =some P:=⟨_,List.getElem?_eq_getElem hlt⟩
     obtain⟨la,lc,sa,sc,hM⟩:=(HG.out.2.1.low hbw).pc k P hP;have hst0:=ng_step hP;rw[<-hbb.out]at hst0;obtain⟨d0,d1,d2,d3,d4,d5,d6⟩:=hM.all;obtain⟨pl,psu,pi,pv,pk,po,pr⟩:=P;dsimp only at d0 d1 d2 d3 d4 d5 d6 hst0;have hP:=Z9 hP;have hst:=Z9 hst0;clear hM hst0;have hwr0:=hbw.size;cases b with
     |true=>
      go_wp2_with fail
      exact⟨⟨k+1,true,by simp,by omega,rfl,by rw[hst.out];simp,hbw.alloc hwr0 _⟩,by simp[intOf];omega⟩
     |false=>
      cases pv with
      |false=>
       go_wp2_with fail
       exact⟨⟨k+1,false,by simp,by omega,rfl,by rw[hst.out];simp,hbw.alloc hwr0 _⟩,by simp[intOf];omega⟩
      |true=>
       go_wp2_with fail
       exact⟨⟨k+1,pr,by simp,by omega,rfl,by rw[hst.out];simp,hbw.alloc hwr0 _⟩,by simp[intOf];omega⟩
    ·have hke:k=S3.WG.length:=by omega
     have hall0:b=S3.bks.any fun k=>k.live&&k.Zn:=by rw[R.anyRets hdf.out,hbb.out,hke,List.take_length]
     have hall:=Z9 hall0;have hWr:=Z9 (HG.out.1.trans (hbw.mono HG.out.1.size));clear hke hall0;have hlp:decide (0 < (S3.WG.length:Int))=true:=by simp;omega
     go_wp2_with fail
     refine(xK R.fin.built ((HS.out.low hWr.out).body R.rt)).mono ?_;rintro e' w9 ⟨rfl,hb9⟩;rw[<-hall.out];have hW9:=Z9 (hWr.out.trans (hb9.mono hWr.out.size));cases b
     all_goals
      go_wp2_with fail
      go_ret;exact⟨by simp,hW9.out⟩
end Go.Proofs.YteedbaejpdjilaaGreat
