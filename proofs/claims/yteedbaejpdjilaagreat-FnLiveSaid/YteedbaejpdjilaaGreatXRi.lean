/- Part of the proof: LawN. -/
import Derived.Test.YteedbaejpdjilaaGreatXRa
set_option linter.all false
set_option maxRecDepth 100000
set_option maxHeartbeats 4000000
namespace Go.Proofs.YteedbaejpdjilaaGreat
open Go.RowKit
theorem Lv.rot {bks:List Bk} {f:Nat->Bool} {c:Nat} {qs:List Nat} (h:Lv bks f (c::qs)):Lv bks f (qs++ [c]):=
 ⟨h.mark,fun i hi=>h.queue i (by simp at hi ⊢;exact hi.symm),fun i k hi hk s hs=>(h.next i k hi hk s hs).imp id (fun h=>by simp at h ⊢;exact h.symm),h.first.imp id (fun h=>by simp at h ⊢;exact h.symm)⟩
def mkB (n:Nat) (f:Nat->Bool):List Value:=(List.range n).map fun i=>.bool (f i)
theorem mkB_len (n:Nat) (f:Nat->Bool):(mkB n f).length=n:=by simp[mkB]
theorem mkB_get {n i:Nat} {f:Nat->Bool} (h:i < n):(mkB n f)[i]? =some (.bool (f i)):=by simp[mkB,h]
theorem mkB_set {n c:Nat} {f:Nat->Bool} (h:c < n):(mkB n f).set c (.bool true)=mkB n (fun i=>f i||i==c):=by
 apply List.ext_getElem?;intro i;rw[List.getElem?_set];by_cases hi:i < n
 ·rw[mkB_get hi];by_cases hc:c=i
  ·subst hc;rw[if_pos rfl,mkB_len,if_pos hi,mkB_get hi];simp
  ·rw[if_neg hc,mkB_get hi];have:(i==c)=false:=by simpa using fun e=>hc e.symm
   rw[this,Bool.or_false]
 ·have h1:n<=i:=by omega
  have h2: ∀ g,(mkB n g)[i]? =none:=fun g=>List.getElem?_eq_none (by rw[mkB_len];exact h1);rw[h2,if_neg (by omega),h2]
def qC0x (qs:List Nat):List Value:=qs.map fun s:Nat=>.int .i64 (s:Int)
theorem qu_ne {w:World} {lo e size n:Nat} {v:Value} {xs:List Value} (h:Qu w lo e size v n xs) {b t:Nat} (hb:ZN w b t) (hne:t≠e):some b≠v.ownBlock:=fun e'=>hne (ZN.inj hb (h.lt b e'.symm).2.2)
def RcRel (bks:List Bk) (W:World) (gv:Value) (gi:Nat) (k:Nat) (qv:Value) (wr:World):Prop:=
 ∃ (qs:List Nat) (f:Nat->Bool),k=3*left bks.length f+qs.length∧qs.length+2*left bks.length f<=2*bks.length+1∧Lv bks f qs∧Qu wr W.heap.size 3 1 qv qs.length (qC0x qs)∧ZV wr gi (mkB bks.length f) 4∧Below W.heap.size W wr∧ZV wr W.heap.size [gv] 39
def RdRel (W:World) (gv:Value) (gi:Nat) (bs:List Value) (qs ss:List Nat) (qv ix:Value) (wr:World):Prop:=
 ∃ j:Nat,ix=.int .i64 j∧j<=ss.length∧Qu wr W.heap.size 3 1 qv (qs.length+j) (qC0x (qs++ss.take j))∧ZV wr gi bs 4∧Below W.heap.size W wr∧ZV wr W.heap.size [gv] 39
theorem info4b:(Tryz.prog.info? 4).map (fun i=>(i.zero,i.size,i.bytes))=some (some (.bool false),1,1):=by kernel_rfl
theorem info3b:(Tryz.prog.info? 3).map (fun i=>(i.zero,i.size,i.bytes))=some (some (.int .i64 0),1,8):=by kernel_rfl
theorem own_full {w:World} {base e n g:Nat} {xs:List Value} (h:w.ownsRow base e 1 (.slice (some ⟨g,0,none⟩) n n) n xs) (hn:0 < n):ZV w g xs e∧base<=g:=by
 rcases h.2 with⟨_,h0⟩ |⟨g',cap,cur,h1,h2,h3,h4,h5,h6,h7⟩
 ·omega
 ·simp only[Value.slice.injEq,Option.some.injEq,Addr.mk.injEq,and_true,true_and]at h1;obtain⟨rfl,rfl⟩:=h1;refine⟨?_,h2⟩;have hl:cur.size=n:=by omega
  unfold ZV;rw[h3,<-h7];congr 2;rw[List.take_of_length_le (by simp;omega)]
theorem made_false (n:Nat):(List.replicate n (.bool false):List Value)=mkB n (fun _=>false):=by
 unfold mkB;rw[List.map_const',List.length_range]
theorem left_all (n:Nat):left n (fun _=>false)=n:=by
 unfold left;have:(List.range n).filter (fun i=>!(fun _:Nat=>false) i)=List.range n:=List.filter_eq_self.2 (fun _ _=>rfl);rw[this,List.length_range]
theorem reachable_any {w:World} {lo g cap:Nat} {bks:List Bk} (hg:BO w lo g (bks.mapIdx Bk.pc)) (hn0:0 < bks.length) (hn:bks.length<=100000) (hs2: ∀ (i:Nat) k,bks[i]? =some k->k.succs.length<=2∧ ∀ s∈k.succs,s < bks.length):
  Calls Tryz.prog 54 #[.agg #[.slice (some ⟨g,0,none⟩) bks.length cap]] w fun e w'=> ∃ gi f,e=.returned (.slice (some ⟨gi,0,none⟩) bks.length bks.length)∧w.heap.size<=gi∧ZV w' gi (mkB bks.length f) 4∧(∀ i,f i=true↔Reach bks i)∧Below w.heap.size w w':=by
 have hb1:Below w.heap.size w (w.alloc (.cells [.slice (some ⟨g,0,none⟩) bks.length cap].toArray 39)):=(Below.refl _ _).alloc (Nat.le_refl _) _;have hnb:=ZV.new w [.slice (some ⟨g,0,none⟩) bks.length cap] 39;have g0:=hnb.cell 0 rfl;obtain⟨i0,hi0,hz0,hz1,hz2⟩:=info_parts info4b;have HG:=Za hg hb1 hnb;have HS:=Z9 hs2;clear hg hb1 hnb hs2;go_enter Tryz.func54,Tryz.ntmps54;go_wp2_with (at_make;refine wpList_make_full (w.alloc _) rfl _ _ 26 rfl (w.heap.size+1) 4 i0 (.bool false) 1 Tryz.underlying26 hi0 hz0 hz1 .i64 .i64 _ _ bks.length (by rfl) (by rfl) (by simp) (by simp) ?b2 ?b3 (by simp) ?_)
 case b2=>rw[hz2];omega
 case b3=>unfold maxLen;omega
 intro w2 hq2 hg2;obtain⟨hb2,_⟩:=own_full hq2 hn0;rw[toList_madeCells_one,made_false]at hb2;have hB2:Below w.heap.size w w2:=HG.out.2.1.grown hg2 (by simp) (by simp);have hn2:=HG.out.2.2.grown hg2 (by simp);have e0:=hn2.cell 0 rfl;have hW2:=hB2.size;have H2:=Za hb2 hB2 hn2;clear hq2 hg2 hb2 hB2 hn2 g0;have hlv0:Lv bks (fun _=>false) [0]:=⟨fun i hi=>by simp at hi,fun i hi=>by simp at hi;subst hi;exact⟨.zero,hn0⟩,fun i k hi=>by simp at hi,.inr (by simp)⟩
 have HL0:=Z9 hlv0;clear hlv0;obtain⟨gi,hgi⟩: ∃ gi:Nat,gi=w.heap.size+1:=⟨_,rfl⟩
 have hgi0:w.heap.size<=gi:=by omega
 simp only[<-hgi]at*;clear hgi;go_wp2_with fail
 go_loopg [4] (3*left bks.length (fun _=>false)+1) (fun k qv wr=>RcRel bks w (.slice (some ⟨g,0,none⟩) bks.length cap) gi k qv wr)
 case atStart=>
  exact⟨[0],fun _=>false,rfl,by rw[left_all];simp;omega,HL0.out,⟨rfl,.inr ⟨w2.heap.size,0,1,[.int .i64 0],rfl,hW2,ZV.new w2 _ _,by decide,by decide,by simp,rfl⟩⟩,H2.out.1.alloc _,H2.out.2.1.alloc hW2 _,H2.out.2.2.alloc _⟩
 case round=>
  obtain⟨qs,f,hk,hbd,hlv,hq,hb,hbw,hg39⟩:=hrel;have hgr:=hg39.cell 0 rfl;have hsz:=hbw.size;cases qs with
  |nil=>
   obtain⟨qa,qc,rfl⟩:=hq.slice;have HK:=Za hlv hb hbw;clear hk hbd hlv hq hb hbw hg39;go_wp2_with fail
   go_ret;exact⟨gi,f,rfl,hgi0,HK.out.2.1,HK.out.1.done (fun i k hk=>(HS.out i k hk).2),HK.out.2.2⟩
  |cons i qs=>
   obtain⟨nq,hnq⟩: ∃ nq,nq=qs.length:=⟨_,rfl⟩
   rw[List.length_cons,<-hnq]at hq;have Hnq:=Z9 hnq;obtain⟨gq,off,cq,rfl,hcq⟩:=hq.jQ;have c0:wr.cell? ⟨gq,off,none⟩=some (.int .i64 i):=by
    have:=hq.cells 0 (by omega);simpa [qC0x]using this
   obtain⟨hri,hil⟩:=hlv.queue i (by simp);have hil2:decide ((0:Int)<=i∧(i:Int) < bks.length)=true:=by simp;omega
   have ci:=hb.cell i (mkB_get hil);have cif:=hb.free i;have hki:=List.getElem?_eq_getElem hil;generalize bks[i]=ki at hki;have hql:nq+1<=200002:=by simp at hbd;omega
   clear hnq;have HK:=XG hk hbd hlv.rot hri hki;have hrs:=HS.out i ki hki;have hrs0:=Z9 hrs;have Hb:=Za hb hbw hg39;have hfc:=mkB_set (f:=f) hil;have hlm:=fun h=>FT hil (f:=f) h;have HF:=ZL hfc hlm;clear hk hbd hlv hri hki hfc hlm;go_upto_region 5 with fail
   go_cut [4]from 13 to 50 (fun tv wx=>wr=wx∧ ∃ off' c',tv=.slice (some ⟨gq,off',none⟩) nq c'∧Qu wr w.heap.size 3 1 tv nq (qC0x qs))
   case first=>
    by_cases hc1:1 < cq
    ·have hq':=Z9 (hq.tail hc1);clear hq;go_wp2_with fail
     go_meet;exact⟨rfl,_,_,rfl,hq'.out⟩
    ·obtain rfl:cq=1:=by omega
     obtain⟨h0,hq'⟩:=hq.last;have hq':=Z9 hq';clear hq;subst h0;go_wp2_with fail
     go_meet;exact⟨rfl,_,_,rfl,hq'.out⟩
   case rest=>
    obtain⟨rfl,off',c',rfl,hq'⟩:=hcut;have hq':=Z9 hq';clear hq c0;go_wp2_with fail
    refine(YT _ _ _).mono ?_;rintro e' w3 ⟨rfl,rfl⟩;rw[hil2];cases hfi:f i with
    |true=>
     rw[hfi]at ci;have hfi:=Z9 hfi;go_wp2_with fail
     go_roundg (3*left bks.length f+nq)
     case rel=>
      obtain⟨hk,hbd,hlv,hri,hki⟩:=HK.out;exact⟨qs,f,by rw[<-Hnq.out],by simp at hbd;omega,hlv.skip hfi.out,by rw[<-Hnq.out];exact hq'.out,Hb.out.1,Hb.out.2.1,Hb.out.2.2⟩
     case measure=>have h1:=HK.out.1;have h2:=Hnq.out;simp at h1;omega
    |false=>
     rw[hfi]at ci;obtain⟨P,hP⟩: ∃ P,P=ki.pc i:=⟨_,rfl⟩
     have hPc:(bks.mapIdx Bk.pc)[i]? =some P:=by rw[List.getElem?_mapIdx,HK.out.2.2.2.2,hP];rfl
     have hps:P.succs=ki.succs.map (fun s:Nat=>(s:Int)):=by rw[hP];rfl
     obtain⟨la,lc,sa,sc,hM0⟩:=HG.out.1.pc i P hPc;have hset:=Hb.out.1.set i (.bool true);rw[HF.out.1]at hset;have hF4:Fr [4] w.heap.size wr (wr.setCell ⟨gi,i,none⟩ (.bool true)):=(Fr.refl [4] w.heap.size wr).Y1 _ _ Hb.out.1.ty (by simp) (by omega);have hB4:Below w.heap.size w (wr.setCell ⟨gi,i,none⟩ (.bool true)):=Hb.out.2.1.trans hF4.below;have hM:=hM0.low hB4 HG.out.1.lt.2;obtain⟨_,d1,_⟩:=hM.all;have hsv:=hM0.sv;rw[hps]at hsv d1;simp only[List.length_map]at hsv d1;have hq4:=hq'.out.fr hF4 (by decide);have hg4:=(Hb.out.2.2.fr hF4 (by decide)).cell 0 rfl;obtain⟨ss,hss⟩: ∃ ss,Hid (ss=ki.succs):=⟨_,Z9 rfl⟩
     rw[<-hss.out]at hsv d1;have hs2:ss.length<=2∧ ∀ s∈ss,s < bks.length:=by rw[hss.out];exact hrs
     obtain⟨w4,hw4⟩: ∃ w4,w4=wr.setCell ⟨gi,i,none⟩ (.bool true):=⟨_,rfl⟩
     rw[<-hw4]at hset hB4 hM d1 hq4 hg4;have hg39:ZV w4 w.heap.size [.slice (some ⟨g,0,none⟩) bks.length cap] 39:=by rw[hw4];exact Hb.out.2.2.fr hF4 (by decide)
     have H4:=Fh hset hB4 hq4 hg39 hsv hs2 hfi;have hs20:=hs2.1;have hz4:=hB4.size;clear hset hB4 hM hsv hq4 hg39 hps hPc hP hM0 hF4 hs2 hrs;subst hw4;obtain⟨W4,hW4⟩: ∃ W4,Hid (W4=wr.setCell ⟨gi,i,none⟩ (.bool true)):=⟨_,Z9 rfl⟩
     go_wp2_with fail
     go_loopw [4,42] (fun qv ix wx=>RdRel w (.slice (some ⟨g,0,none⟩) bks.length cap) gi (mkB bks.length fun j=>f j||j==i) qs ss qv ix wx) (fun _ ix _=>ss.length -(intOf ix).toNat)
     case atStart=>
      obtain⟨a1,a2,a3,a4,_⟩:=H4.out;exact⟨0,rfl,by omega,by rw[<-Hnq.out];simpa using a3,a1,a2,a4⟩
     case round=>
      obtain⟨j,rfl,hj,hq5,hb5,hw5,hg5⟩:=hrel;obtain⟨sa5,sc5,rfl⟩:=hq5.slice;by_cases hjl:j < ss.length
      ·obtain⟨y,hy⟩: ∃ y,ss[j]? =some y:=⟨_,List.getElem?_eq_getElem hjl⟩
       obtain⟨sb,rfl⟩: ∃ sb,sa=some ⟨sb,0,none⟩:=by
        rcases H4.out.2.2.2.2.1.2 with⟨_,h0⟩ |⟨gg,_,_,hv,_⟩
        ·omega
        ·simp only[Value.slice.injEq]at hv;exact⟨gg,hv.1⟩
       have hsv5:=own_below H4.out.2.2.2.2.1 hw5 (fun k hk=>(H4.out.2.2.2.2.1.lt k hk).2);have e1:wr.cell? ⟨sb,j,none⟩=some (.int .i64 y):=by
        rw[World.ownsRow.cellAt hsv5 j (by omega),List.getElem?_map,List.getElem?_map,hy];rfl
       have hyl:y < bks.length:=H4.out.2.2.2.2.2.1.2 y (List.mem_of_getElem? hy);have hlo:w.heap.size<=wr.heap.size:=hw5.size;have HQ:=XG hq5 hb5 hw5 hg5 hy;clear hq5 hb5 hw5 hg5 hy hsv5;have hn5:qs.length+j<=1000000000000:=by have:=Hnq.out;omega
       go_wp2_with (at_builtin;refine KD wr rfl _ _ 31 rfl w.heap.size 3 (.int .i64 0) 1 8 Tryz.underlying31 info3b rfl (by decide) (by decide) HQ.out.1 (by rfl) [.int .i64 y] rfl ?c1 (by rfl) hn5 hlo ?_)
       case c1=>simp[Value.oneCell']
       intro a' c' w' h1 h2 h3;obtain⟨i1,i2,i3,i4,i5⟩:=HQ.out;have H:=Yt h1 (i2.grown h2 (qu_ne i1 i2.ty (by decide))) (i3.grown h2 hlo (fun g hg=>(i1.lt g hg).1)) (i4.grown h2 (qu_ne i1 i4.ty (by decide)));have hj0:=(H.out.2.2.2).cell 0 rfl;clear h1 h2 h3 i1 i2 i3 i4;have i5:=Z9 i5;go_wp2_with fail
       refine⟨⟨j+1,by simp,hjl,?_,H.out.2.1,H.out.2.2.1,H.out.2.2.2⟩,by simp[intOf];omega⟩;have e:qC0x (qs++ss.take (j+1))=qC0x (qs++ss.take j)++ [.int .i64 y]:=by
        rw[List.take_add_one,i5.out,<-List.append_assoc];simp[qC0x]
       rw[e];exact H.out.1
      ·have hje:j=ss.length:=by omega
       have HQ:=Yt hq5 hb5 hw5 hg5;have hje:=Z9 hje;clear hq5 hb5 hw5 hg5;have hlm:=HF.out.2 H4.out.2.2.2.2.2.2;go_wp2_with fail
       go_roundg (3*left bks.length (fun j=>f j||j==i)+(nq+ss.length))
       case rel=>
        obtain⟨i1,i2,i3,i4⟩:=HQ.out;obtain⟨k1,k2,k3,k4,k5⟩:=HK.out;have hlq:=Hnq.out;simp only[List.length_cons]at k1 k2;refine⟨qs++ss,fun j=>f j||j==i,by simp[hlq],by simp;omega,?_,?_,i2,i3,i4⟩
        ·rw[hss.out];exact k3.take k5 (fun s hs=>hrs0.out.2 s hs)
        ·have hj':=hje.out;subst hj';rw[List.take_length]at i1;simpa using i1
       case measure=>have h1:=HK.out.1;have h2:=Hnq.out;simp at h1;omega
end Go.Proofs.YteedbaejpdjilaaGreat
