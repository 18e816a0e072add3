/- Part of the proof: GrD. -/
import Derived.Test.YteedbaejpdjilaaGreatUSd
import Derived.Test.YteedbaejpdjilaaGreatURb
set_option linter.all false
set_option maxRecDepth 100000
set_option maxHeartbeats 4000000
namespace Go.Proofs.YteedbaejpdjilaaGreat
open Go.RowKit Tryz
theorem Z3q (i n:Int) (w:World):Calls prog 35 #[.int .i64 i,.int .i64 n] w fun e w'=>e=.returned (.bool (decide (0<=i/\i < n)))/\w=w':=by
 by_cases h1:0<=i
 .by_cases h2:i < n
  .rw[show decide (0<=i/\i < n)=true by simp[h1,h2]];go_enter func35,ntmps35;go_wp2_with fail
   go_ret;exact⟨by simp,rfl⟩
  .rw[show decide (0<=i/\i < n)=false by simp[h2]];go_enter func35,ntmps35;go_wp2_with fail
   go_ret;exact⟨by simp,rfl⟩
 .rw[show decide (0<=i/\i < n)=false by simp[h1]];go_enter func35,ntmps35;go_wp2_with fail
  go_ret;exact⟨by simp,rfl⟩
def LvB (ps:List Pc) (x:Int):Prop:= ∃ (q:Nat × Nat) (P:Pc),ps[q.1]? =some P/\P.leaves[q.2]? =some x/\P.live=true
def LvK (ps:List Pc) (sp:List (Nat × Nat)) (k:Nat):Prop:= ∃ (j:Nat) (q:Nat × Nat) (P:Pc),j < k/\sp[j]? =some q/\ps[q.1]? =some P/\P.live=true
def Z23 (ps:List Pc) (sp:List (Nat × Nat)) (w1:World) (bv ix:Value) (wr:World):Prop:= ∃ (k:Nat) (b:Bool),ix=.int .i64 k/\k<=sp.length/\bv=.bool b/\(b=true↔LvK ps sp k)/\Below w1.heap.size w1 wr
theorem Z3g {ps:List Pc} {sp:List (Nat × Nat)} {k:Nat} {b b':Bool} {q:Nat × Nat} {P:Pc} (h:b=true↔LvK ps sp k) (hq:sp[k]? =some q) (hP:ps[q.1]? =some P) (hb:b'=(b||P.live)):b'=true↔LvK ps sp (k+1):=by
 rw[hb,Bool.or_eq_true,h];constructor
 .rintro(⟨j,q',P',h1,h2⟩ |h1)
  .exact⟨j,q',P',by omega,h2⟩
  .exact⟨k,q,P,by omega,hq,hP,h1⟩
 .rintro⟨j,q',P',h1,h2,h3,h4⟩;by_cases e:j < k
  .exact .inl ⟨j,q',P',e,h2,h3,h4⟩
  .obtain rfl:j=k:=by omega
   rw[hq]at h2;cases h2;rw[hP]at h3;cases h3;exact .inr h4
theorem Z3t {w:World} {lo g cap:Nat} {ps:List Pc} {x:Int} (hg:qe w lo g ps) (hf:Few ps):Calls prog 55 #[.agg #[.slice (some ⟨g,0,none⟩) ps.length cap],.int .i64 x] w fun e w'=> ∃ d:Bool,e=.returned (.bool d)/\(d=true↔LvB ps x)/\Below w.heap.size w w':=by
 have hb1:Below w.heap.size w (w.alloc (.cells [.slice (some ⟨g,0,none⟩) ps.length cap].toArray 39)):=(ZN _ _).alloc (Z7 _) _;have hnb:=ZD.new w [.slice (some ⟨g,0,none⟩) ps.length cap] 39;have g0:=hnb.cell 0 rfl;have HG:=X7 hg hb1 hnb;have HF:=Z5 hf;have hgw:=hg.lt.2;clear hg hb1 hnb hf;go_enter func55,ntmps55;go_wp2_with fail
 refine(pP (HG.out.1.low HG.out.2.1) HF.out).mono ?_;rintro e w1 ⟨v,sp,rfl,hsp,hb⟩;obtain⟨sa,sc,rfl⟩:=hsp.q.slice;have hw1:Below w.heap.size w w1:=HG.out.2.1.trans (hb.mono (by simp));have hbs:=hb.size;have hsn:=hsp.len;have HS:=X7 hsp hw1 (U4 HG.out.2.2 hb);clear hsp hw1 hb g0;simp at hbs;go_wp2_with fail
 go_loopw [5,12] (fun bv ix wr=>Z23 ps sp w1 bv ix wr) (fun _ ix _=>sp.length -(intOf ix).toNat)
 case atStart=>exact⟨0,false,rfl,by omega,rfl,⟨fun h=>by simp at h,fun⟨j,_,_,h,_⟩=>by omega⟩,ZN _ _⟩
 case round=>
  obtain⟨k,b,rfl,hk,rfl,hbe,hbw⟩:=hrel;have hgr:=(U4 HS.out.2.2 hbw).cell 0 rfl;have hbz:=hbw.size;have HR:=Zl hbe hbw;by_cases hlt:k < sp.length
  .obtain⟨q,hq⟩: ∃ q,sp[k]? =some q:=⟨_,Z9 hlt⟩
   obtain⟨gs,off,cs,hv,hcs⟩: ∃ gs off cs,sa=some ⟨gs,off,none⟩/\cs=sc:=by
    rcases HS.out.1.q.2 with⟨h1,h2⟩ |⟨gs,off,cp,cs,h1,_⟩
    .omega
    .simp only[Value.slice.injEq]at h1;exact⟨gs,off,_,h1.1,rfl⟩
   subst hv hcs;have hat:=((HS.out.1.mem q).1 (ZY hq))
   have hQ:=HS.out.1.q.low hbw (fun g hg=>(HS.out.1.q.lt g hg).2.1);obtain⟨c0,c1⟩:=iR hq;have s0:=(hQ.cells (k*2) (by omega)).trans c0;have s1:=(hQ.cells (k*2+1) (by omega)).trans c1;have ub:=(hQ.lt gs rfl).2.1;obtain⟨qi,qj0x⟩:=q;obtain⟨P,hP,hPx⟩:=hat;dsimp only at hP hPx s0 s1;rw[<-Z3]at s1;have hil:=ZH hP;have hwr:Below w.heap.size w wr:=HS.out.2.1.trans (hbw.mono (by omega));obtain⟨la,lc,sa2,sc2,hM0⟩:=HG.out.1.pc qi P hP;have hW4:Below w.heap.size w (wr.alloc (.cells [.int .i64 qi,.int .i64 qj0x].toArray 112)):=hwr.alloc (by omega) _;have hM:=hM0.low hW4 HG.out.1.lt.2;obtain⟨d0,d1,d2,d3,d4,d5,d6⟩:=hM.all;have hst:=Z5 (fun b'=>Z3g (b':=b') hbe hq hP);have hb4:=Z5 (hbw.alloc hbz (.cells [.int .i64 qi,.int .i64 qj0x].toArray 112));have hne:w.heap.size≠wr.heap.size:=by omega
   have g4:=(U4 (U4 HS.out.2.2 hbw) ((ZN wr.heap.size wr).alloc (Z7 _) (.cells [.int .i64 qi,.int .i64 qj0x].toArray 112))).cell 0 rfl;clear hM hM0 hQ c0 c1 hbe hbw hwr hW4 d0 d1 d2 d4 d5 d6 hP hPx hq;generalize P.live=pv at*;cases b with
   |true=>
    go_wp2_with fail
    exact⟨⟨k+1,true,by simp,hlt,rfl,hst.out _ (by simp),hb4.out⟩,by simp[intOf];omega⟩
   |false=>
    go_wp2_with fail
    exact⟨⟨k+1,pv,by simp,hlt,rfl,hst.out _ (by simp),hb4.out⟩,by simp[intOf];omega⟩
  .have hke:=Z5 (show k=sp.length by omega);clear hbe hbw;go_wp2_with fail
   go_ret;refine⟨b,rfl,?_,HS.out.2.1.trans (HR.out.2.mono (by omega))⟩;rw[HR.out.1,hke.out];constructor
   .rintro⟨j,q,P,h1,h2,h3,h4⟩;obtain⟨P',h5,h6⟩:=(HS.out.1.mem q).1 (ZY h2);rw[h3]at h5;cases h5;exact⟨q,P,h3,h6,h4⟩
   .rintro⟨q,P,h1,h2,h3⟩;obtain⟨j,hj⟩:=List.getElem?_of_mem ((HS.out.1.mem q).2 ⟨P,h1,h2⟩);exact⟨j,q,P,ZH hj,hj,h1,h3⟩
theorem RB.lvb {t:T} {A:Tr} {S S3:BS} {c:Nat} {X:Cx} (R:RB t A S S3 c X) {x:Int} (hx:x≠ -1):LvB S3.sP x↔Rd A x:=by
 rw[R.sem.BP R.fin hx];constructor
 .rintro⟨⟨i,k⟩,P,h1,h2,h3⟩;obtain⟨k3,hk,rfl⟩:=Dd h1;simp only[Bk.pc,Yt,ZX]at h2;obtain⟨y,hy,e⟩:=h2;exact⟨i,k,k3,y,hk,h3,hy,e⟩
 .rintro⟨i,k,k3,y,h1,h2,h3,h4⟩;refine⟨(i,k),k3.pc i,by rw[BS.sP,List.getElem?_mapIdx,h1];rfl,?_,h2⟩;simp only[Bk.pc,Yt,h3,Y7,h4]
end Go.Proofs.YteedbaejpdjilaaGreat
