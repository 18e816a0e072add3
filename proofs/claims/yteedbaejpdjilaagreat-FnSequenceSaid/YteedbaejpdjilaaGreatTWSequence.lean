/- Part of the proof: WSequence. -/
import Derived.Test.YteedbaejpdjilaaGreatYEnd
import Derived.Test.YteedbaejpdjilaaGreatTSd
import Derived.Test.YteedbaejpdjilaaGreatTSf
set_option linter.all false
set_option maxRecDepth 100000
set_option maxHeartbeats 4000000
namespace Go.Proofs.YteedbaejpdjilaaGreat
open Go.RowKit
def Z3n (pl:List Int) (j:Nat) (la:Int):Prop:=(la= -1/\ ∀ r,r < j->pl[r]? =some (-1))\/ ∃ i,i < j/\pl[i]? =some la/\la≠ -1/\ ∀ r,i < r->r < j->pl[r]? =some (-1)
theorem Z3k {pl:List Int} {j:Nat} {la:Int} (h:Z3n pl j la) (hy:pl[j]? =some (-1)):Z3n pl (j+1) la:=by
 rcases h with⟨h1,h2⟩ |⟨i,h1,h2,h3,h4⟩
 .refine .inl ⟨h1,fun r hr=>?_⟩;by_cases e:r < j
  .exact h2 r e
  .obtain rfl:r=j:=by omega
   exact hy
 .refine .inr ⟨i,by omega,h2,h3,fun r hr1 hr2=>?_⟩;by_cases e:r < j
  .exact h4 r hr1 e
  .obtain rfl:r=j:=by omega
   exact hy
theorem Z3r {pl:List Int} {j:Nat} {y:Int} (hy:pl[j]? =some y) (hne:y≠ -1):Z3n pl (j+1) y:=.inr ⟨j,by omega,hy,hne,fun r h1 h2=>by omega⟩
theorem RB.Z20 {t:T} {A:Tr} {S S3:BS} {c:Nat} {X:Cx} (R:RB t A S S3 c X) {i:Nat} {P:Pc} (hP:S3.sP[i]? =some P) (hlv:P.live=true) {j:Nat} {la y:Int} (h:Z3n P.leaves j la) (hy:P.leaves[j]? =some y) (hne:y≠ -1):la= -1\/ ∃ u:Nat,la=u/\u < A.ls.length/\A.Tw u=false/\xH A u true= [y]:=by
 rcases h with⟨h1,_⟩ |⟨i0,h1,h2,h3,h4⟩
 .exact .inl h1
 .obtain⟨k3,hk,rfl⟩:=Dd hP;have hA:X.A=A:=R.sem.A;have hlen:=ZH hy;simp only[Bk.pc,Yt,ZX]at h2 hy;obtain⟨z,hz,hz2⟩:=h2;obtain⟨z',hz',Z4P⟩:=hy;rcases R.sem.BQ R.fin hk hz with⟨g1,_⟩ |⟨_,_,g2,_⟩ |⟨u,g1,g2⟩
  .exact absurd (hz2 ▸ g1) h3
  .simp only[Bk.pc,Y8]at hlen;omega
  .rw[hA]at g2;have hok:Ok (u:Int) A.ls.length:=⟨by omega,by omega⟩
   obtain⟨s1,s2⟩:=R.sem.sequence R.fin hk hlv hz g1 h1 hz' Z4P hne (fun r w hr1 hr2 hw=>by
    have h5:=h4 r hr1 hr2;simp only[Bk.pc,Yt,hw,Y7,Option.some.injEq]at h5;exact h5)
   refine .inr ⟨u,by rw[<-hz2,g1],g2,s1,xI EO (by simp[SG]) (fun x=>?_)⟩;show x∈LN A (A.Nu (u:Int) true)↔_;rw[Vd R.wf (R.wf.Nu hok true),s2 x];simp
def SqB (n:Nat) (W:World) (ix:Value) (wr:World):Prop:= ∃ k:Nat,ix=.int .i64 k/\k<=n/\Below W.heap.size W wr
def SqL (pl:List Int) (lv:Bool) (W:World) (lav ix:Value) (wr:World):Prop:= ∃ (j:Nat) (la:Int),ix=.int .i64 j/\j<=pl.length/\lav=.int .i64 la/\(lv=true->Z3n pl j la)/\Below W.heap.size W wr
theorem Z3d {W w:World} (hb:W.heap.size<=w.heap.size) (y:Int):(w.alloc (.cells #[.int .i64 y] 3)).ownsRow W.heap.size 3 1 (.slice (some ⟨w.heap.size,0,none⟩) 1 1) [y].length ([y].map (Value.int .i64)):=
 ⟨rfl,.inr ⟨w.heap.size,1,_,rfl,hb,heap_alloc_new w _,by simp,by decide,rfl,rfl⟩⟩
theorem Z3b:fG 23:=by
 intro t hl w v h;have HR:=Z5 (readB hl h);have HS:=Z5 h;obtain⟨va,vn,vc,rfl⟩:=h.sl;clear h hl;go_enter Tryz.func23,Tryz.ntmps23;go_wp2_with fail
 refine HR.out.mono ?_;rintro e' w1 ⟨p,rt,lo,rfl,hc,hb,hg⟩;have hg:=Z5 hg;go_wp2_with fail
 refine(qd hc).mono ?_;rintro e' w2 ⟨rfl,rfl⟩;cases rt with
 |false=>
  go_wp2_with fail
  go_ret;exact⟨rfl,hb⟩
 |true=>
  obtain⟨A,S,S3,c,X,R,hT0⟩:=hg.out rfl;have hT:=Z5 hT0;clear hg hT0;go_wp2_with fail
  refine(Z9n R (HS.out.low hb)).mono ?_;rintro e' w3 ⟨g,cap,rfl,hG,hb3⟩;have hbz:=hb.size;have Z3x:=hb3.size;have hal:Below w1.heap.size w1 (w3.alloc (.cells [.slice (some ⟨g,0,none⟩) S3.sP.length cap].toArray 39)):=hb3.alloc (by omega) _;have hGA:=hG.low (w':=w3.alloc (.cells [.slice (some ⟨g,0,none⟩) S3.sP.length cap].toArray 39)) ((ZN _ _).alloc (Z7 _) _);have HG:=Xp (hb.trans (hal.mono hbz)) hal (ZD.new w3 [.slice (some ⟨g,0,none⟩) S3.sP.length cap] 39) hGA;have hpl0:=R.few.2;have hpl:S3.sP.length<=100000:=R.few.1.1;clear hal hGA hG hb3;have g0:=HG.out.2.2.1.cell 0 rfl;go_wp2_with fail
  go_loopw [20] (fun ix wr=>SqB S3.sP.length (w3.alloc (.cells [.slice (some ⟨g,0,none⟩) S3.sP.length cap].toArray 39)) ix wr) (fun ix _=>S3.sP.length -(intOf ix).toNat)
  case atStart=>exact⟨0,rfl,by omega,ZN _ _⟩
  case round=>
   obtain⟨k,rfl,hk,hbw⟩:=hrel;have HR:=Z5 hbw;have hgr:=(U4 HG.out.2.2.1 hbw).cell 0 rfl;by_cases hlt:k < S3.sP.length
   .obtain⟨P,hP⟩: ∃ P,S3.sP[k]? =some P:=⟨_,Z9 hlt⟩
    obtain⟨la,lc,sa,sc,hM⟩:=(HG.out.2.2.2.low hbw).pc k P hP;have Z3J:P.leaves.length<=100000:=R.few.1.2 k P hP;have Z27:=hM.lv;obtain⟨d0,d1,d2,d3,d4,d5,d6⟩:=hM.all;have HP:=Z5 (fun(hl:P.live=true) {j:Nat} {l y:Int} =>R.Z20 hP hl (j:=j) (la:=l) (y:=y));obtain⟨pl,psu,pi,pv,pk,po,pr⟩:=P;dsimp only at d0 d1 d2 d3 d4 d5 d6 Z27 Z3J;have HLv:=Z5 Z27;have hz:=hbw.size;obtain⟨wo,hwo⟩: ∃ wo:World,wo=wr:=⟨_,rfl⟩
    subst hwo;have hb5:=Z5 ((ZN wo.heap.size wo).alloc (Z7 _) (.cells [.slice la pl.length lc,.slice sa psu.length sc,.int .i64 pi,.bool pv,.int .i64 pk,.int .i64 po,.bool pr].toArray 45));have hk5:=Z5 (ZD.new wo [.slice la pl.length lc,.slice sa psu.length sc,.int .i64 pi,pv,.int .i64 pk,.int .i64 po,pr] 45);clear hM Z27 hbw;go_wp2_with fail
    go_loopw [7,27] (fun lav ix wx=>SqL pl pv (wo.alloc (.cells [.slice la pl.length lc,.slice sa psu.length sc,.int .i64 pi,.bool pv,.int .i64 pk,.int .i64 po,.bool pr].toArray 45)) lav ix wx) (fun _ ix _=>pl.length -(intOf ix).toNat)
    case atStart=>exact⟨0,-1,rfl,by omega,rfl,fun _=>.inl ⟨rfl,fun r hr=>by omega⟩,ZN _ _⟩
    case round=>
     obtain⟨j,l,rfl,hj,rfl,hla,hbx⟩:=hrel;have HX:=Zl hla hbx;have hbb:=U4 hk5.out hbx;have b0:=hbb.cell 0 rfl;have b3:=hbb.cell 3 rfl;have hBo:=hb5.out.trans (hbx.mono (by simp));have HBo:=Z5 hBo;have hxz:=hBo.size;by_cases hjl:j < pl.length
     .obtain⟨y,hy⟩: ∃ y,pl[j]? =some y:=⟨_,Z9 hjl⟩
      obtain⟨lb,hlb,cx0x⟩:=Z5q HLv.out hjl;subst hlb;have e1:wr.cell? ⟨lb,j,none⟩=some (.int .i64 y):=by
       rw[(hBo.cell (p:=⟨lb,j,none⟩) (HLv.out.lt lb rfl).2).trans (cx0x j hjl)];rw[(Z1.1 hy).2]
      have hy:=Z5 hy;clear cx0x hla hbx hbb hBo;cases pv with
      |false=>
       go_wp2_with fail
       exact⟨⟨j+1,l,by simp,hjl,rfl,fun h=>by simp at h,HX.out.2⟩,by simp[intOf];omega⟩
      |true=>
       by_cases hy1:y= -1
       .subst hy1;go_wp2_with fail
        exact⟨⟨j+1,l,by simp,hjl,rfl,fun h=>Z3k (HX.out.1 h) hy.out,HX.out.2⟩,by simp[intOf];omega⟩
       .have k1:(y== -1)=false:=by simp[hy1]
        have hne:=Z5 hy1;have hsq:=HP.out rfl (HX.out.1 (by first|rfl|trivial)) hy.out hy1;clear hy1;rcases hsq with rfl|⟨u,rfl,hul,hud,hua⟩
        .go_wp2_with fail
         exact⟨⟨j+1,y,by simp,hjl,rfl,fun h=>Z3r hy.out hne.out,HX.out.2⟩,by simp[intOf];omega⟩
        .have ku0x:((u:Int)== -2)=false:=by rw[beq_eq_false_iff_ne];omega
         have hT4:=(hT.out.low HG.out.2.1).low (HR.out.trans (HBo.out.mono hz));have HD:=Z5 (vg hT4 R.wf hul);have hTh:=Z5 hT4;have Hua:=Z5 hua;clear hT4 hua;go_wp2_with fail
         refine HD.out.mono ?_;rintro e w6 ⟨rfl,hb6⟩;rw[hud];have HAf:=Z5 (Z4M (hTh.out.low hb6) R.wf R.sm hul true);have h6:=Z5 hb6;have hz6:=hb6.size;clear hb6 hud;go_wp2_with fail
         refine HAf.out.mono ?_;rintro e w7 ⟨v7,rfl,hv7,hb7⟩;rw[Hua.out]at hv7;obtain⟨a7,c7,rfl⟩:=ZR hv7;have hz7:=hb7.size;have Z26:=(ZN w7.heap.size w7).alloc (Z7 _) (.cells #[.int .i64 y] 3);have HSm:=Z5 (Z4K (own_below hv7 Z26 (fun g hg=>(hv7.lt g hg).2)) (Z3d (W:=w7) (Z7 _) y));have H7:=Z5 (HX.out.2.trans (((h6.out.trans (hb7.mono hz6)).trans (Z26.mono (by omega))).mono HX.out.2.size));clear hv7 hb7 Z26;go_wp2_with fail
         refine HSm.out.mono ?_;rintro e w8 ⟨d,rfl,hd,hb8⟩;obtain rfl:d=true:=hd.2 (by first|rfl|trivial);have H8:=Z5 (H7.out.trans (hb8.mono H7.out.size));clear hd hb8;go_wp2_with fail
         exact⟨⟨j+1,y,by simp,hjl,rfl,fun h=>Z3r hy.out hne.out,H8.out⟩,by simp[intOf];omega⟩
     .clear hla hbx hbb hBo;go_wp2_with fail
      exact⟨⟨k+1,by simp,hlt,HR.out.trans (HBo.out.mono hz)⟩,by simp[intOf];omega⟩
   .clear hbw;have hlp:decide (0 < (S3.sP.length:Int))=true:=by simp;omega
    go_wp2_with fail
    go_ret;exact⟨by first|(simp;done) |(simp;omega),HG.out.1.trans (HR.out.mono HG.out.1.size)⟩
end Go.Proofs.YteedbaejpdjilaaGreat
