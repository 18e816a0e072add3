/- Part of the proof: LawK. -/
import Derived.Test.YteedbaejpdjilaaGreatQg
set_option linter.all false
set_option maxRecDepth 100000
set_option maxHeartbeats 40000000
namespace Go.Proofs.YteedbaejpdjilaaGreat
open Go.RowKit
def ReadS (t:T):Prop:= ∀ (w:World) (v:Value),Src w t v->Calls Tryz.prog 29 #[v] w fun e w'=> ∃ p rt,e=.returned (.pointer (some ⟨p,0,none⟩))∧w'.cell? ⟨p,4,none⟩=some (.bool rt)∧Below w.heap.size w w'∧(rt=true->Rt t)
def GRel (n:Nat) (W:World) (ix:Value) (wr:World):Prop:= ∃ k:Nat,ix=.int .i64 k∧k<=n∧Below W.heap.size W wr
theorem Src.slice {w:World} {t:T} {v:Value} (h:Src w t v): ∃ a n c,v=.slice a n c:=by
 obtain⟨bb,o,hs,_⟩:=h.data;obtain⟨⟨a,n,c,rfl⟩,_⟩:=sliceV_one hs;exact⟨a,n,c,rfl⟩
theorem readS {t:T} (hl:t.lim):ReadS t:=fun _ _ h=>(read_any hl h).mono (by
 rintro e w' ⟨p,rt,lo,h1,h2,_,h3,_,h4⟩;refine⟨p,rt,h1,h3,h2,fun hr=>?_⟩;obtain⟨hf,hs,hw,tg,_,_,_,_,_,_,_,hR,_⟩:=h4 hr;exact(rt_of hs hf hw hR).1)
theorem kinds_any {t:T} (R:ReadS t) {w:World} {v:Value} (h:Src w t v):Calls Tryz.prog 15 #[v] w fun e w'=>e=.returned (.bool true)∧Below w.heap.size w w':=by
 have HR:=hidf (R w v h);have HS:=hidf h;obtain⟨va,vn,vc,rfl⟩:=h.slice;clear h R;go_enter Tryz.func15,Tryz.ntmps15;go_wp2_with fail
 refine HR.out.mono ?_;rintro e' w1 ⟨p,rt,rfl,hc,hb,hg⟩;have hg:=hidf hg;go_wp2_with fail
 refine(right_any hc).mono ?_;rintro e' w2 ⟨rfl,rfl⟩;cases rt with
 |false=>
  go_wp2_with fail
  go_ret;exact⟨rfl,hb⟩
 |true=>
  have hRt:=hg.out rfl;obtain⟨S,S3,c,F⟩:=fin_any hRt;obtain⟨f1,f2,f3,f4⟩:=F.fine hRt.wt;have HB:=hidf (build_any F.built ((HS.out.low hb).body hRt) f1 f2 f3 f4);have HF:=hidf F;clear f1 f4 F hg;go_wp2_with fail
  refine HB.out.mono ?_;rintro e' w3 ⟨gv,rfl,hG,hb3⟩;obtain⟨ps,hps⟩: ∃ ps,ps=S3.bks.mapIdx Bk.pc:=⟨_,rfl⟩
  rw[<-hps]at hG;have hpl:0 < ps.length:=by rw[hps,List.length_mapIdx];exact f3
  have hpl2:ps.length<=100000:=by rw[hps,List.length_mapIdx];exact f2
  obtain⟨g,cap,rfl,hGr⟩:=hG.row hpl;have HP:Hid (∀ (i:Nat) p,ps[i]? =some p->0<=p.kind∧p.kind<=19):=by
   subst hps;exact fun i p hp=>⟨(HF.out.pcs hp).2.1,(HF.out.pcs hp).2.2.1⟩
  clear hps f2 f3 HB;have hWb:Below w.heap.size w (w3.alloc (.cells [.slice (some ⟨g,0,none⟩) ps.length cap].toArray 39)):=(hb.trans (hb3.mono hb.size)).alloc (by have:=hb.size;have:=hb3.size;omega) _;have hGA:=hGr.low (w':=w3.alloc (.cells [.slice (some ⟨g,0,none⟩) ps.length cap].toArray 39)) ((Below.refl _ _).alloc (Nat.le_refl _) _);have hgb:=Blk.new w3 [.slice (some ⟨g,0,none⟩) ps.length cap] 39;obtain⟨wg,hwg⟩: ∃ wg:Nat,wg=w3.heap.size:=⟨_,rfl⟩
  have g0:=hgb.cell 0 rfl;have HG:=hid3 hWb hGA hgb;clear hG hGr hGA hWb hb hb3 hgb hwg;go_wp2_with fail
  go_loopw [15] (fun ix wr=>GRel ps.length (w3.alloc (.cells [.slice (some ⟨g,0,none⟩) ps.length cap].toArray 39)) ix wr) (fun ix _=>ps.length -(intOf ix).toNat)
  case atStart=>exact⟨0,rfl,by omega,Below.refl _ _⟩
  case round=>
   obtain⟨k,rfl,hk,hbw⟩:=hrel;have hgr:=(blk_low HG.out.2.2 hbw).cell 0 rfl;by_cases hlt:k < ps.length
   ·obtain⟨P,hP⟩: ∃ P,ps[k]? =some P:=⟨_,List.getElem?_eq_getElem hlt⟩
    obtain⟨la,lc,sa,sc,hM⟩:=(HG.out.2.1.low hbw).pc k P hP;have hq:=HP.out k P hP;have hlv:=hM.lv;have hsv:=hM.sv;obtain⟨d0,d1,d2,d3,d4,d5,d6⟩:=hM.all;obtain⟨pl,psu,pi,pv,pk,po,pr⟩:=P;dsimp only at hlv hsv d0 d1 d2 d3 d4 d5 d6 hq;have hP:=hidf hP;clear hM;obtain⟨hq1,hq2⟩:=hq;go_wp2_with fail
    exact⟨⟨k+1,by simp,by omega,hbw.alloc (by have:=hbw.size;omega) _⟩,by simp[intOf];omega⟩
   ·go_wp2_with fail
    go_ret;exact⟨by simp[hpl],HG.out.1.trans (hbw.mono (by have:=HG.out.1.size;omega))⟩
theorem index_any {t:T} (R:ReadS t) {w:World} {v:Value} (h:Src w t v):Calls Tryz.prog 14 #[v] w fun e w'=>e=.returned (.bool true)∧Below w.heap.size w w':=by
 have HR:=hidf (R w v h);have HS:=hidf h;obtain⟨va,vn,vc,rfl⟩:=h.slice;clear h R;go_enter Tryz.func14,Tryz.ntmps14;go_wp2_with fail
 refine HR.out.mono ?_;rintro e' w1 ⟨p,rt,rfl,hc,hb,hg⟩;have hg:=hidf hg;go_wp2_with fail
 refine(right_any hc).mono ?_;rintro e' w2 ⟨rfl,rfl⟩;cases rt with
 |false=>
  go_wp2_with fail
  go_ret;exact⟨rfl,hb⟩
 |true=>
  have hRt:=hg.out rfl;obtain⟨S,S3,c,F⟩:=fin_any hRt;obtain⟨f1,f2,f3,f4⟩:=F.fine hRt.wt;have HB:=hidf (build_any F.built ((HS.out.low hb).body hRt) f1 f2 f3 f4);have HF:=hidf F;clear f1 f4 F hg;go_wp2_with fail
  refine HB.out.mono ?_;rintro e' w3 ⟨gv,rfl,hG,hb3⟩;obtain⟨ps,hps⟩: ∃ ps,ps=S3.bks.mapIdx Bk.pc:=⟨_,rfl⟩
  rw[<-hps]at hG;have hpl:0 < ps.length:=by rw[hps,List.length_mapIdx];exact f3
  have hpl2:ps.length<=100000:=by rw[hps,List.length_mapIdx];exact f2
  obtain⟨g,cap,rfl,hGr⟩:=hG.row hpl;have HP:Hid (∀ (i:Nat) p,ps[i]? =some p->p.index=i):=by
   subst hps;exact fun i p hp=>(HF.out.pcs hp).1
  clear hps f2 f3 HB;have hWb:Below w.heap.size w (w3.alloc (.cells [.slice (some ⟨g,0,none⟩) ps.length cap].toArray 39)):=(hb.trans (hb3.mono hb.size)).alloc (by have:=hb.size;have:=hb3.size;omega) _;have hGA:=hGr.low (w':=w3.alloc (.cells [.slice (some ⟨g,0,none⟩) ps.length cap].toArray 39)) ((Below.refl _ _).alloc (Nat.le_refl _) _);have hgb:=Blk.new w3 [.slice (some ⟨g,0,none⟩) ps.length cap] 39;obtain⟨wg,hwg⟩: ∃ wg:Nat,wg=w3.heap.size:=⟨_,rfl⟩
  have g0:=hgb.cell 0 rfl;have HG:=hid3 hWb hGA hgb;clear hG hGr hGA hWb hb hb3 hgb hwg;go_wp2_with fail
  go_loopw [15] (fun ix wr=>GRel ps.length (w3.alloc (.cells [.slice (some ⟨g,0,none⟩) ps.length cap].toArray 39)) ix wr) (fun ix _=>ps.length -(intOf ix).toNat)
  case atStart=>exact⟨0,rfl,by omega,Below.refl _ _⟩
  case round=>
   obtain⟨k,rfl,hk,hbw⟩:=hrel;have hgr:=(blk_low HG.out.2.2 hbw).cell 0 rfl;by_cases hlt:k < ps.length
   ·obtain⟨P,hP⟩: ∃ P,ps[k]? =some P:=⟨_,List.getElem?_eq_getElem hlt⟩
    obtain⟨la,lc,sa,sc,hM⟩:=(HG.out.2.1.low hbw).pc k P hP;have hq:=HP.out k P hP;have hlv:=hM.lv;have hsv:=hM.sv;obtain⟨d0,d1,d2,d3,d4,d5,d6⟩:=hM.all;obtain⟨pl,psu,pi,pv,pk,po,pr⟩:=P;dsimp only at hlv hsv d0 d1 d2 d3 d4 d5 d6 hq;have hP:=hidf hP;clear hM;subst hq;go_wp2_with fail
    exact⟨⟨k+1,by simp,by omega,hbw.alloc (by have:=hbw.size;omega) _⟩,by simp[intOf];omega⟩
   ·go_wp2_with fail
    go_ret;exact⟨by simp[hpl],HG.out.1.trans (hbw.mono (by have:=HG.out.1.size;omega))⟩
theorem unreachable_any {t:T} (R:ReadS t) {w:World} {v:Value} (h:Src w t v):Calls Tryz.prog 28 #[v] w fun e w'=>e=.returned (.bool true)∧Below w.heap.size w w':=by
 have HR:=hidf (R w v h);have HS:=hidf h;obtain⟨va,vn,vc,rfl⟩:=h.slice;clear h R;go_enter Tryz.func28,Tryz.ntmps28;go_wp2_with fail
 refine HR.out.mono ?_;rintro e' w1 ⟨p,rt,rfl,hc,hb,hg⟩;have hg:=hidf hg;go_wp2_with fail
 refine(right_any hc).mono ?_;rintro e' w2 ⟨rfl,rfl⟩;cases rt with
 |false=>
  go_wp2_with fail
  go_ret;exact⟨rfl,hb⟩
 |true=>
  have hRt:=hg.out rfl;obtain⟨S,S3,c,F⟩:=fin_any hRt;obtain⟨f1,f2,f3,f4⟩:=F.fine hRt.wt;have HB:=hidf (build_any F.built ((HS.out.low hb).body hRt) f1 f2 f3 f4);have HF:=hidf F;clear f1 f4 F hg;go_wp2_with fail
  refine HB.out.mono ?_;rintro e' w3 ⟨gv,rfl,hG,hb3⟩;obtain⟨ps,hps⟩: ∃ ps,ps=S3.bks.mapIdx Bk.pc:=⟨_,rfl⟩
  rw[<-hps]at hG;have hpl:0 < ps.length:=by rw[hps,List.length_mapIdx];exact f3
  have hpl2:ps.length<=100000:=by rw[hps,List.length_mapIdx];exact f2
  obtain⟨g,cap,rfl,hGr⟩:=hG.row hpl;have HP:Hid (∀ (i:Nat) p,ps[i]? =some p->p.kind=1->p.live=false):=by
   subst hps;exact fun i p hp=>(HF.out.pcs hp).2.2.2.2.2.1
  clear hps f2 f3 HB;have hWb:Below w.heap.size w (w3.alloc (.cells [.slice (some ⟨g,0,none⟩) ps.length cap].toArray 39)):=(hb.trans (hb3.mono hb.size)).alloc (by have:=hb.size;have:=hb3.size;omega) _;have hGA:=hGr.low (w':=w3.alloc (.cells [.slice (some ⟨g,0,none⟩) ps.length cap].toArray 39)) ((Below.refl _ _).alloc (Nat.le_refl _) _);have hgb:=Blk.new w3 [.slice (some ⟨g,0,none⟩) ps.length cap] 39;obtain⟨wg,hwg⟩: ∃ wg:Nat,wg=w3.heap.size:=⟨_,rfl⟩
  have g0:=hgb.cell 0 rfl;have HG:=hid3 hWb hGA hgb;clear hG hGr hGA hWb hb hb3 hgb hwg;go_wp2_with fail
  go_loopw [15] (fun ix wr=>GRel ps.length (w3.alloc (.cells [.slice (some ⟨g,0,none⟩) ps.length cap].toArray 39)) ix wr) (fun ix _=>ps.length -(intOf ix).toNat)
  case atStart=>exact⟨0,rfl,by omega,Below.refl _ _⟩
  case round=>
   obtain⟨k,rfl,hk,hbw⟩:=hrel;have hgr:=(blk_low HG.out.2.2 hbw).cell 0 rfl;by_cases hlt:k < ps.length
   ·obtain⟨P,hP⟩: ∃ P,ps[k]? =some P:=⟨_,List.getElem?_eq_getElem hlt⟩
    obtain⟨la,lc,sa,sc,hM⟩:=(HG.out.2.1.low hbw).pc k P hP;have hq:=HP.out k P hP;have hlv:=hM.lv;have hsv:=hM.sv;obtain⟨d0,d1,d2,d3,d4,d5,d6⟩:=hM.all;obtain⟨pl,psu,pi,pv,pk,po,pr⟩:=P;dsimp only at hlv hsv d0 d1 d2 d3 d4 d5 d6 hq;have hP:=hidf hP;clear hM;have hq:=hidf hq;by_cases h1:pk=1
    ·obtain rfl:=hq.out h1;go_wp2_with fail
     exact⟨⟨k+1,by simp,by omega,hbw.alloc (by have:=hbw.size;omega) _⟩,by simp[intOf];omega⟩
    ·go_wp2_with fail
     exact⟨⟨k+1,by simp,by omega,hbw.alloc (by have:=hbw.size;omega) _⟩,by simp[intOf];omega⟩
   ·go_wp2_with fail
    go_ret;exact⟨by simp[hpl],HG.out.1.trans (hbw.mono (by have:=HG.out.1.size;omega))⟩
theorem succs_any {t:T} (R:ReadS t) {w:World} {v:Value} (h:Src w t v):Calls Tryz.prog 26 #[v] w fun e w'=>e=.returned (.bool true)∧Below w.heap.size w w':=by
 have HR:=hidf (R w v h);have HS:=hidf h;obtain⟨va,vn,vc,rfl⟩:=h.slice;clear h R;go_enter Tryz.func26,Tryz.ntmps26;go_wp2_with fail
 refine HR.out.mono ?_;rintro e' w1 ⟨p,rt,rfl,hc,hb,hg⟩;have hg:=hidf hg;go_wp2_with fail
 refine(right_any hc).mono ?_;rintro e' w2 ⟨rfl,rfl⟩;cases rt with
 |false=>
  go_wp2_with fail
  go_ret;exact⟨rfl,hb⟩
 |true=>
  have hRt:=hg.out rfl;obtain⟨S,S3,c,F⟩:=fin_any hRt;obtain⟨f1,f2,f3,f4⟩:=F.fine hRt.wt;have HB:=hidf (build_any F.built ((HS.out.low hb).body hRt) f1 f2 f3 f4);have HF:=hidf F;clear f1 f4 F hg;go_wp2_with fail
  refine HB.out.mono ?_;rintro e' w3 ⟨gv,rfl,hG,hb3⟩;obtain⟨ps,hps⟩: ∃ ps,ps=S3.bks.mapIdx Bk.pc:=⟨_,rfl⟩
  rw[<-hps]at hG;have hpl:0 < ps.length:=by rw[hps,List.length_mapIdx];exact f3
  have hpl2:ps.length<=100000:=by rw[hps,List.length_mapIdx];exact f2
  obtain⟨g,cap,rfl,hGr⟩:=hG.row hpl;have HP:Hid (∀ (i:Nat) p,ps[i]? =some p->p.succs.length<=2∧ ∀ s∈p.succs,0<=s∧s < (ps.length:Int)):=by
   subst hps;exact fun i p hp=>⟨(HF.out.pcs hp).2.2.2.1,(HF.out.pcs hp).2.2.2.2.1⟩
  clear hps f2 f3 HB;have hWb:Below w.heap.size w (w3.alloc (.cells [.slice (some ⟨g,0,none⟩) ps.length cap].toArray 39)):=(hb.trans (hb3.mono hb.size)).alloc (by have:=hb.size;have:=hb3.size;omega) _;have hGA:=hGr.low (w':=w3.alloc (.cells [.slice (some ⟨g,0,none⟩) ps.length cap].toArray 39)) ((Below.refl _ _).alloc (Nat.le_refl _) _);have hgb:=Blk.new w3 [.slice (some ⟨g,0,none⟩) ps.length cap] 39;obtain⟨wg,hwg⟩: ∃ wg:Nat,wg=w3.heap.size:=⟨_,rfl⟩
  have g0:=hgb.cell 0 rfl;have HG:=hid3 hWb hGA hgb;clear hG hGr hGA hWb hb hb3 hgb hwg;go_wp2_with fail
  go_loopw [17] (fun ix wr=>GRel ps.length (w3.alloc (.cells [.slice (some ⟨g,0,none⟩) ps.length cap].toArray 39)) ix wr) (fun ix _=>ps.length -(intOf ix).toNat)
  case atStart=>exact⟨0,rfl,by omega,Below.refl _ _⟩
  case round=>
   obtain⟨k,rfl,hk,hbw⟩:=hrel;have hgr:=(blk_low HG.out.2.2 hbw).cell 0 rfl;by_cases hlt:k < ps.length
   ·obtain⟨P,hP⟩: ∃ P,ps[k]? =some P:=⟨_,List.getElem?_eq_getElem hlt⟩
    obtain⟨la,lc,sa,sc,hM⟩:=(HG.out.2.1.low hbw).pc k P hP;have hq:=HP.out k P hP;have hlv:=hM.lv;have hsv:=hM.sv;obtain⟨d0,d1,d2,d3,d4,d5,d6⟩:=hM.all;obtain⟨pl,psu,pi,pv,pk,po,pr⟩:=P;dsimp only at hlv hsv d0 d1 d2 d3 d4 d5 d6 hq;have hP:=hidf hP;clear hM;obtain⟨hq1,hq2⟩:=hq;have hq2:=hidf hq2;have hsv:=hidf hsv;have hlv:=hidf hlv;have hb1:Below wr.heap.size wr (wr.alloc (.cells [.slice la pl.length lc,.slice sa psu.length sc,.int .i64 pi,.bool pv,.int .i64 pk,.int .i64 po,.bool pr].toArray 45)):=(Below.refl _ _).alloc (Nat.le_refl _) _;have hb1:=hidf hb1;obtain⟨wo,hwo⟩: ∃ wo:World,wo=wr:=⟨_,rfl⟩
    subst hwo;go_wp2_with fail
    go_loopw [28] (fun ix wr=>GRel psu.length (wo.alloc (.cells [.slice la pl.length lc,.slice sa psu.length sc,.int .i64 pi,.bool pv,.int .i64 pk,.int .i64 po,.bool pr].toArray 45)) ix wr) (fun ix _=>psu.length -(intOf ix).toNat)
    case atStart=>exact⟨0,rfl,by omega,Below.refl _ _⟩
    case round=>
     obtain⟨j,rfl,hj,hbi⟩:=hrel;have hbA:=hb1.out.trans (hbi.mono hb1.out.size);by_cases hjl:j < psu.length
     ·obtain⟨x,hx⟩: ∃ x,psu[j]? =some x:=⟨_,List.getElem?_eq_getElem hjl⟩
      obtain⟨sb,rfl⟩: ∃ sb,sa=some ⟨sb,0,none⟩:=by
       rcases hsv.out.2 with⟨_,h0⟩ |⟨gg,_,_,hv,_⟩
       ·omega
       ·simp only[Value.slice.injEq]at hv;exact⟨gg,hv.1⟩
      have e1:wr.cell? ⟨sb,j,none⟩=some (.int .i64 x):=by
       have hs':=own_below hsv.out hbA (fun k hk=>(hsv.out.lt k hk).2);rw[World.ownsRow.cellAt hs' j (by omega),List.getElem?_map,hx];rfl
      have hxr:=hq2.out x (List.mem_of_getElem? hx);have hgr2:=(blk_low HG.out.2.2 (hbw.trans (hbA.mono hbw.size))).cell 0 rfl;have hx:=hidf hx;go_wp2_with fail
      refine(inside_any _ _ _).mono ?_;rw[show decide (0<=x∧x < (ps.length:Int))=true by simpa using hxr];rintro e' wz ⟨rfl,rfl⟩;go_wp2_with fail
      exact⟨⟨j+1,by simp,by omega,hbi⟩,by simp[intOf];omega⟩
     ·go_wp2_with fail
      exact⟨⟨k+1,by simp,by omega,hbw.trans (hbA.mono hbw.size)⟩,by simp[intOf];omega⟩
   ·go_wp2_with fail
    go_ret;exact⟨by simp[hpl],HG.out.1.trans (hbw.mono (by have:=HG.out.1.size;omega))⟩
theorem entry_any {t:T} (R:ReadS t) {w:World} {v:Value} (h:Src w t v):Calls Tryz.prog 10 #[v] w fun e w'=>e=.returned (.bool true)∧Below w.heap.size w w':=by
 have HR:=hidf (R w v h);have HS:=hidf h;obtain⟨va,vn,vc,rfl⟩:=h.slice;clear h R;go_enter Tryz.func10,Tryz.ntmps10;go_wp2_with fail
 refine HR.out.mono ?_;rintro e' w1 ⟨p,rt,rfl,hc,hb,hg⟩;have hg:=hidf hg;go_wp2_with fail
 refine(right_any hc).mono ?_;rintro e' w2 ⟨rfl,rfl⟩;cases rt with
 |false=>
  go_wp2_with fail
  go_ret;exact⟨rfl,hb⟩
 |true=>
  have hRt:=hg.out rfl;obtain⟨S,S3,c,F⟩:=fin_any hRt;obtain⟨f1,f2,f3,f4⟩:=F.fine hRt.wt;have HB:=hidf (build_any F.built ((HS.out.low hb).body hRt) f1 f2 f3 f4);have HF:=hidf F;clear f1 f4 F hg;go_wp2_with fail
  refine HB.out.mono ?_;rintro e' w3 ⟨gv,rfl,hG,hb3⟩;obtain⟨ps,hps⟩: ∃ ps,ps=S3.bks.mapIdx Bk.pc:=⟨_,rfl⟩
  rw[<-hps]at hG;have hpl:0 < ps.length:=by rw[hps,List.length_mapIdx];exact f3
  have hpl2:ps.length<=100000:=by rw[hps,List.length_mapIdx];exact f2
  obtain⟨g,cap,rfl,hGr⟩:=hG.row hpl;have HP:Hid (∃ p,ps[0]? =some p∧p.live=true∧p.kind=2∧p.of= -3):=by
   subst hps;exact HF.out.pc0
  clear hps f2 f3 HB;have hWb:Below w.heap.size w (w3.alloc (.cells [.slice (some ⟨g,0,none⟩) ps.length cap].toArray 39)):=(hb.trans (hb3.mono hb.size)).alloc (by have:=hb.size;have:=hb3.size;omega) _;have hGA:=hGr.low (w':=w3.alloc (.cells [.slice (some ⟨g,0,none⟩) ps.length cap].toArray 39)) ((Below.refl _ _).alloc (Nat.le_refl _) _);have hgb:=Blk.new w3 [.slice (some ⟨g,0,none⟩) ps.length cap] 39;obtain⟨wg,hwg⟩: ∃ wg:Nat,wg=w3.heap.size:=⟨_,rfl⟩
  have g0:=hgb.cell 0 rfl;have HG:=hid3 hWb hGA hgb;clear hG hGr hGA hWb hb hb3 hgb hwg;obtain⟨P,hP,q1,q2,q3⟩:=HP.out;obtain⟨la,lc,sa,sc,hM⟩:=HG.out.2.1.pc 0 P hP;have d3:=hM.cell 3 _ rfl;have d4:=hM.cell 4 _ rfl;have d5:=hM.cell 5 _ rfl;rw[q1]at d3;rw[q2]at d4;rw[q3]at d5;simp only[Nat.zero_mul,Nat.zero_add]at d3 d4 d5;have hP:=hidf hP;clear hM q1 q2 q3;go_wp2_with fail
  go_ret;exact⟨rfl,HG.out.1⟩
end Go.Proofs.YteedbaejpdjilaaGreat
