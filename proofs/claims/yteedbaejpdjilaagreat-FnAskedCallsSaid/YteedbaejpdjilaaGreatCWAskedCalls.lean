/- Part of the proof: WAskedCalls. -/
import Derived.Test.YteedbaejpdjilaaGreatCAll
import Derived.Test.YteedbaejpdjilaaGreatCEnd
set_option linter.all false
set_option maxRecDepth 100000
set_option maxHeartbeats 4000000
namespace Go.Proofs.YteedbaejpdjilaaGreat
open Go.RowKit
theorem Z3p: ∀ {L l:List Int},L.Nodup->(∀ x∈L,x∈l)->L.length<=l.length:=by
 intro L
 induction L with
 |nil=>intro l _ _;simp
 |cons x L ih=>
  intro l h1 h2;obtain⟨g1,g2⟩:=ZS.1 h1;obtain⟨a,b,e⟩:=List.append_of_mem (h2 x List.mem_cons_self);have:=ih (l:=a++b) g2 (fun y hy=>by
   have h3:=h2 y (Z2 _ hy);rw[e,ZM,ZO]at h3;rw[ZM];rcases h3 with h3|h3|h3
   .exact .inl h3
   .exact absurd (h3 ▸ hy) g1
   .exact .inr h3)
  rw[e,Z4,ZJ];rw[Z4]at this;rw[ZJ];omega
def Z22 (A:Tr) (f:Nat->Bool) (W:World) (cv ix:Value) (wr:World):Prop:= ∃ (k:Nat) (L:List Int),ix=.int .i64 k/\k<=A.ls.length/\cv=.int .i64 (L.length:Int)/\L.Nodup/\(∀ x∈L,∃ u:Nat,x=u/\u < k/\(A.Yh u=1\/A.Yh u=2))/\Below W.heap.size W wr
def Z21 (n:Nat) (W:World) (ix:Value) (wr:World):Prop:= ∃ k:Nat,ix=.int .i64 k/\k<=n/\Below W.heap.size W wr
theorem Z3j {A:Tr} {k:Nat} {L:List Int} (h1:L.Nodup) (h2: ∀ x∈L,∃ u:Nat,x=u/\u < k/\(A.Yh u=1\/A.Yh u=2)) (hk:A.Yh k=1\/A.Yh k=2):(L++ [(k:Int)]).Nodup/\(∀ x∈L++ [(k:Int)],∃ u:Nat,x=u/\u < k+1/\(A.Yh u=1\/A.Yh u=2)):=by
 refine⟨?_,fun x hx=>?_⟩
 .rw[Y4];refine⟨h1,by simp,fun a ha b hb e=>?_⟩;simp at hb;subst hb;subst e;obtain⟨u,h3,h4,_⟩:=h2 _ ha;omega
 .rw[ZM,Zk]at hx;rcases hx with hx|rfl
  .obtain⟨u,h3,h4,h5⟩:=h2 x hx;exact⟨u,h3,by omega,h5⟩
  .exact⟨k,rfl,by omega,hk⟩
theorem Z3m {A:Tr} {k:Nat} {L:List Int} (h1:L.Nodup) (h2: ∀ x∈L,∃ u:Nat,x=u/\u < k/\(A.Yh u=1\/A.Yh u=2)):L.length<=k:=by
 have:=Z3p (l:=(List.range k).map Int.ofNat) h1 (fun x hx=>by
  obtain⟨u,rfl,h3,_⟩:=h2 x hx;exact Y2.2 ⟨u,List.mem_range.2 h3,rfl⟩)
 simpa using this
theorem Z3i {t:T} {A:Tr} {S S3:BS} {c:Nat} {X:Cx} (R:RB t A S S3 c X):S3.asked.length<=900000:=by
 rw[R.fin.asked];have h1:=R.fin.rs.bd.ask;have h2:=R.rt.wt;omega
theorem Z29 {A:Tr} {L l:List Int} (h1:L.Nodup) (h2: ∀ x∈L,∃ u:Nat,x=u/\u < A.ls.length/\(A.Yh u=1\/A.Yh u=2)) (h3: ∀ u:Nat,u < A.ls.length->(A.Yh u=1\/A.Yh u=2)->(u:Int)∈l):L.length<=(qL l).length:=by
 refine Z3p h1 (fun x hx=>?_);obtain⟨u,rfl,h4,h5⟩:=h2 x hx;exact iW.2 (h3 u h4 h5)
theorem Z3f:fG 3:=by
 intro t hl w v h;have HR:=Z5 (readB hl h);have HS:=Z5 h;obtain⟨va,vn,vc,rfl⟩:=h.sl;clear h hl;go_enter Tryz.func3,Tryz.ntmps3;go_wp2_with fail
 refine HR.out.mono ?_;rintro e' w1 ⟨p,rt,lo,rfl,hc,hb,hg⟩;have hg:=Z5 hg;go_wp2_with fail
 refine(qd hc).mono ?_;rintro e' w2 ⟨rfl,rfl⟩;cases rt with
 |false=>
  go_wp2_with fail
  go_ret;exact⟨rfl,hb⟩
 |true=>
  obtain⟨A,S,S3,c,X,R,hT0⟩:=hg.out rfl;have hT:=Z5 hT0;clear hg hT0;have hbz:=hb.size;have hls:=R.sm.1;go_wp2_with fail
  refine(Z4t hT.out R.wf R.sm).mono ?_;rintro e' w4 ⟨gi,f,b0,rfl,hbl,-,-,hb4,hgi⟩;have H4:=X7 hbl (hb.trans (hb4.mono hbz)) (hT.out.low hb4);clear hbl hb4;go_wp2_with fail
  refine(If H4.out.2.2).mono ?_;rintro e' w2 ⟨rfl,rfl⟩;go_wp2_with fail
  go_loopw [4,23] (fun cv ix wr=>Z22 A f w4 cv ix wr) (fun _ ix _=>A.ls.length -(intOf ix).toNat)
  case atStart=>exact⟨0,[],rfl,by omega,rfl,by simp,by simp,ZN _ _⟩
  case round=>
   obtain⟨k,L,rfl,hk,rfl,hL1,hL2,hbw⟩:=hrel;have HR:=X7 hL1 hL2 hbw;have hLl:=Z3m hL1 hL2;by_cases hkl:k < A.ls.length
   .have ci:=(U4 H4.out.1 hbw).cell k (LM (f:=f) hkl);have HC:=Z5 (BF (H4.out.2.2.low hbw) R.wf hkl);clear hL1 hL2 hbw;cases hfk:f k with
    |false=>
     rw[hfk]at ci;have hfk:=Z5 hfk;go_wp2_with fail
     exact⟨⟨k+1,L,by simp,hkl,rfl,HR.out.1,fun x hx=>let⟨u,a,b,c⟩:=HR.out.2.1 x hx;⟨u,a,by omega,c⟩,HR.out.2.2⟩,by simp[intOf];omega⟩
    |true=>
     rw[hfk]at ci;have hfk:=Z5 hfk;go_wp2_with fail
     refine HC.out.mono ?_;rintro e w5 ⟨rfl,hb5⟩;have H5:=Zl (HR.out.2.2.trans (hb5.mono HR.out.2.2.size)) hb5;clear hb5;by_cases h1:A.Yh k=1
     .have hs:=Z5 (Z3j HR.out.1 HR.out.2.1 (.inl h1));rw[h1];clear h1;go_wp2_with fail
      exact⟨⟨k+1,L++ [(k:Int)],by simp,hkl,by simp,hs.out.1,hs.out.2,H5.out.1⟩,by simp[intOf];omega⟩
     .have k1:(A.Yh k==1)=false:=by simp[h1]
      have HC2:=Z5 (BF (H4.out.2.2.low H5.out.1) R.wf hkl);go_wp2_with fail
      refine HC2.out.mono ?_;rintro e w6 ⟨rfl,hb6⟩;have H6:=Z5 (H5.out.1.trans (hb6.mono H5.out.1.size));clear hb6;by_cases h2:A.Yh k=2
      .have hs:=Z5 (Z3j HR.out.1 HR.out.2.1 (.inr h2));rw[h2];clear h1 h2;go_wp2_with fail
       exact⟨⟨k+1,L++ [(k:Int)],by simp,hkl,by simp,hs.out.1,hs.out.2,H6.out⟩,by simp[intOf];omega⟩
      .have k2:(A.Yh k==2)=false:=by simp[h2]
       clear h1 h2;go_wp2_with fail
       exact⟨⟨k+1,L,by simp,hkl,rfl,HR.out.1,fun x hx=>let⟨u,a,b,c⟩:=HR.out.2.1 x hx;⟨u,a,by omega,c⟩,H6.out⟩,by simp[intOf];omega⟩
   .have hke:=Z5 (show k=A.ls.length by omega);clear hL1 hL2 hbw;have HB:=Z5 (H4.out.2.1.trans (HR.out.2.2.mono H4.out.2.1.size));go_wp2_with fail
    refine(ql R.fin.built ((HS.out.low HB.out).body R.rt)).mono ?_;rintro e' w7 ⟨av,rfl,hav,hb7⟩;obtain⟨aa,ac,rfl⟩:=ZR hav;have hW4:Below w4.heap.size w4 w7:=HR.out.2.2.trans (hb7.mono HR.out.2.2.size);have H7:=X7 hav hW4 (HB.out.trans (hb7.mono HB.out.size));have hask:=R.sem.asked R.fin;have hA:X.A=A:=R.sem.A;rw[hA]at hask;have HA:=Z5 hask;have hal:=Z3i R;clear hav hb7 hW4 hask hA;go_wp2_with fail
    go_loopw [49] (fun ix wr=>Z21 S3.asked.length w7 ix wr) (fun ix _=>S3.asked.length -(intOf ix).toNat)
    case atStart=>exact⟨0,rfl,by omega,ZN _ _⟩
    case round=>
     obtain⟨i,rfl,hi,hbx⟩:=hrel;have Z3e:=Z5 hbx;by_cases hil:i < S3.asked.length
     .obtain⟨bo,rfl,cx0x⟩:=Z5q H7.out.1 hil;have e1:=(hbx.cell (p:=⟨bo,i,none⟩) (H7.out.1.lt bo rfl).2).trans (cx0x i hil);obtain⟨u,hu,hul,huk⟩:=HA.out.1 _ (List.getElem_mem hil);rw[hu]at e1;have HT:=Z5 (H4.out.2.2.low (H7.out.2.1.trans (hbx.mono H7.out.2.1.size)));clear cx0x hbx hu;have huk:=Z5 huk;go_wp2_with fail
      refine(If HT.out).mono ?_;rintro e' w8 ⟨rfl,rfl⟩;go_wp2_with fail
      refine(Z3q _ _ _).mono ?_;rintro e' w8 ⟨rfl,rfl⟩;rw[show decide ((0:Int)<=u/\(u:Int) < A.ls.length)=true by simp;omega];have HC:=Z5 (BF HT.out R.wf hul);go_wp2_with fail
      refine HC.out.mono ?_;rintro e w8 ⟨rfl,hb8⟩;have H8:=Z5 (Z3e.out.trans (hb8.mono Z3e.out.size));have HC2:=Z5 (BF (HT.out.low hb8) R.wf hul);clear hb8;by_cases h1:A.Yh u=1
      .rw[h1];clear h1;go_wp2_with fail
       exact⟨⟨i+1,by simp,hil,H8.out⟩,by simp[intOf];omega⟩
      .have h2:=huk.out.elim (fun e=>absurd e h1) id;have k1:(A.Yh u !=1)=true:=by simp[h1]
       clear h1;go_wp2_with fail
       refine HC2.out.mono ?_;rintro e w9 ⟨rfl,cq⟩;have H9:=Z5 (H8.out.trans (cq.mono H8.out.size));clear cq k1;rw[h2];clear h2;go_wp2_with fail
       exact⟨⟨i+1,by simp,hil,H9.out⟩,by simp[intOf];omega⟩
     .clear hbx;go_wp2_with fail
      refine(Z40 (own_below H7.out.1 Z3e.out (fun g hg=>(H7.out.1.lt g hg).2)) hal).mono ?_;rintro e' w8 ⟨v8,rfl,JL,hb8⟩;obtain⟨a8,c8,rfl⟩:=ZR JL;have H8:=Z5 (H7.out.2.2.trans ((Z3e.out.trans (hb8.mono Z3e.out.size)).mono H7.out.2.2.size));have hge:=Z29 (l:=S3.asked) HR.out.1 (fun x hx=>by rw[<-hke.out];exact HR.out.2.1 x hx) (fun u h1 h2=>HA.out.2 u (by rw[<-R.len];exact h1) h2);clear JL hb8;have Z2Z:((L.length:Int)<=((qL S3.asked).length:Int)):=by omega
      go_wp2_with fail
      go_ret;exact⟨by first|(simp;done) |(simp;omega),H8.out⟩
end Go.Proofs.YteedbaejpdjilaaGreat
