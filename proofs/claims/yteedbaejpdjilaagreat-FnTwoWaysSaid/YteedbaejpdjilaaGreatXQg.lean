/- Part of the proof: TreG TreH TreI. -/
import Derived.Test.YteedbaejpdjilaaGreatXQf
import Derived.Test.YteedbaejpdjilaaGreatXQe
import Derived.StillTailTactics
import Derived.Test.YteedbaejpdjilaaGreatXQd
import Derived.Test.YteedbaejpdjilaaGreatXPt
import Derived.Test.YteedbaejpdjilaaGreatXPs
set_option linter.all false
set_option maxRecDepth 100000
set_option maxHeartbeats 40000000
namespace Go.Proofs.YteedbaejpdjilaaGreat
open Go.RowKit
section
variable {w w':World} {lo p:Nat} {A:Tr} {num:Int} {rt:Bool} {lv nv rv:Value} {NR RR:List (List Value)}
theorem Oz {A:Tr} {tg:List Int} {k:Int} {s:ByteArray} : ∀ (f:Nat) (o:Int),({ A with tg:=tg } :Tr).XT k s f o=A.XT k s f o:=by
 intro f
 induction f with
 |zero=>intro o;rfl
 |succ f ih=>
  intro o;unfold Tr.XT;rw[ih];rfl
def pU (A:Tr) (k:Nat):Prop:= ∀ i:Nat,i < k->
 ((A.nd i).h.kind=17∨(A.nd i).h.kind=18->A.tgt i=A.XT (A.nd i).h.kind (A.nd i).h.target (A.ns.length+1) (A.rw (A.nd i).list).owner∧A.tgt i≠ -1)∧
 ((A.nd i).h.kind=19->A.tgt i=A.Xq (A.nd i).h.target∧A.tgt i≠ -1)∧
 ((A.nd i).h.kind=20->A.tgt i=(A.rw (A.nd i).list).owner∧A.tgt i≠ -1∧(A.rw (A.nd i).list).clause≠ -1)
theorem pU.more {A:Tr} {tg:List Int} {k:Nat} {v:Int} (h:pU { A with tg:=tg } k) (hl:tg.length=k)
  (h17:(A.nd k).h.kind=17∨(A.nd k).h.kind=18->v=A.XT (A.nd k).h.kind (A.nd k).h.target (A.ns.length+1) (A.rw (A.nd k).list).owner∧v≠ -1)
  (h19:(A.nd k).h.kind=19->v=A.Xq (A.nd k).h.target∧v≠ -1)
  (h20:(A.nd k).h.kind=20->v=(A.rw (A.nd k).list).owner∧v≠ -1∧(A.rw (A.nd k).list).clause≠ -1):pU { A with tg:=tg++ [v] } (k+1):=by
 obtain⟨e1,e2⟩:=UY (A:=A) (v:=v) hl;intro i hi;by_cases e:i < k
 ·have:=h i e;simp only[Oz]at this ⊢;rw[e1 i (by omega)];exact this
 ·have:i=k:=by omega
  subst this;simp only[Oz];rw[e2];exact⟨h17,h19,h20⟩
theorem Xt.jL {A:Tr} {tg tg':List Int} (M:Xt w lo p { A with tg:=tg } num rt lv nv rv NR RR) (h: ∀ i:Nat,({ A with tg:=tg' } :Tr).tgt i=({ A with tg:=tg } :Tr).tgt i):Xt w lo p { A with tg:=tg' } num rt lv nv rv NR RR:=by
 have e:({ A with tg:=tg' } :Tr).zF=({ A with tg:=tg } :Tr).zF:=by
  unfold Tr.zF;simp only[h]
 exact⟨M.t,by rw[e];exact M.n,M.r,M.b⟩
theorem Fe {A:Tr} {tg:List Int} (i:Nat):({ A with tg:=tg++ [-1] } :Tr).tgt i=({ A with tg:=tg } :Tr).tgt i:=by
 by_cases e:i=tg.length
 ·rw[e,(UY (A:=A) (v:= -1) rfl).2,Ve (A:= { A with tg:=tg }) (Nat.le_refl _)]
 ·exact(UY (A:=A) (v:= -1) rfl).1 i e
theorem Xt.aim {A:Tr} {tg:List Int} {g cap k:Nat} (M:Xt w lo p { A with tg:=tg } num rt lv (.slice (some ⟨g,0,none⟩) A.ns.length cap) rv NR RR) (hk:k < A.ns.length) (hl:tg.length=k) (v:Int):
  (∃ NR',Xt (w.setCell ⟨g,k*24+23,none⟩ (.int .i64 v)) lo p { A with tg:=tg++ [v] } num rt lv (.slice (some ⟨g,0,none⟩) A.ns.length cap) rv NR' RR)∧Fr [79] lo w (w.setCell ⟨g,k*24+23,none⟩ (.int .i64 v)):=
 M.set (A:= { A with tg:=tg }) hk v (tg++ [v]) (UY hl).1 (UY hl).2
def rP (A:Tr) (W:World) (lo p:Nat) (num:Int) (rt:Bool) (lv nv rv:Value) (RR:List (List Value)) (e:Ending) (w':World):Prop:= ∃ r:Bool,e=.returned (.bool r)∧Fr [79] lo W w'∧(r=true-> ∃ tg NR',Xt w' lo p { A with tg:=tg } num rt lv nv rv NR' RR∧pU { A with tg:=tg } A.ns.length)
def nK (A:Tr) (W:World) (lo p:Nat) (num:Int) (rt:Bool) (lv nv rv:Value) (RR:List (List Value)) (ix:Value) (wr:World):Prop:= ∃ (k:Nat) (tg:List Int) (NR':List (List Value)),ix=.int .i64 k∧k<=A.ns.length∧tg.length=k∧Fr [79] lo W wr∧Xt wr lo p { A with tg:=tg } num rt lv nv rv NR' RR∧pU { A with tg:=tg } k
theorem Io (M:Xt w lo p { A with tg:= [] } num rt lv nv rv NR RR) (W: ∀ tg,G9 { A with tg:=tg }):Calls Tryz.prog 83 #[p] w (rP A w lo p num rt lv nv rv RR):=by
 obtain⟨na,nc,rfl⟩:=M.kE;obtain⟨gr,capr,rfl⟩:=M.sK (W []).one;have c1:=M.t.blk.cell 1 rfl;have hb2:A.ns.length<=90000:=M.b.2.1;have hb3:A.rs.length<=90000:=M.b.2.2;have HM:=Z9 M;have HW:=Z9 W;clear M W;go_enter Tryz.func83,Tryz.ntmps83;go_wp2_with fail
 go_loopw [10] (fun ix wr=>nK A w lo p num rt lv (.slice na A.ns.length nc) (.slice (some ⟨gr,0,none⟩) A.rs.length capr) RR ix wr) (fun ix _=>A.ns.length -(intOf ix).toNat)
 case atStart=>exact⟨0,[],NR,rfl,by omega,rfl,Fr.refl _ _ _,HM.out,fun i hi=>by omega⟩
 case round=>
  obtain⟨k,tg,NR1,rfl,hk,hl,hf,M,hA⟩:=hrel;have HA:=Z9 hA;have HF0:=Z9 hf;have hsz:=hf.size;have hlw:lo<=wr.heap.size:=by have:=M.t.hB;have:=M.t.blk.lt;omega
  clear hA;by_cases hlt:k < A.ns.length
  ·obtain⟨g,cap,hnv⟩:=M.NM (A:= { A with tg:=tg }) (by show 0 < A.ns.length;omega);simp only[Value.slice.injEq,true_and]at hnv;obtain⟨rfl,rfl⟩:=hnv;obtain⟨_,_,_,_,_,_,hdY⟩:=M.nd (A:= { A with tg:=tg }) hlt;obtain⟨d0,_,_,_,_,_,_,_,_,_,_,_,d12,_,_,_,_,_,_,_,_,_,_,d23⟩:=hdY.all;dsimp only at d0 d12 d23;rw[Ve (A:= { A with tg:=tg }) (k:=k) (by show tg.length<=k;omega)]at d23;have z1:=M.t.blk.cell 1 rfl;have hgl:=(M.t.n.lt g rfl).2;have hrow:=M.t.n;rw[show NR1.length=A.ns.length from M.Po]at hrow;have hfz:=World.ownsRow.frozenAt hrow (k*24+23);have hlo:=(M.t.n.lt g rfl).1;obtain⟨kd,hkd⟩: ∃ kd:Int,kd=(A.nd (k:Int)).h.kind:=⟨_,rfl⟩
   rw[show(({ A with tg:=tg } :Tr).nd (k:Int)).h.kind=kd from hkd.symm]at d0;have HK:=Z9 hkd;have HMr:=Z9 M;have HY:=Z9 hdY;clear hkd M hdY hf hrow;have hWl:=HW.out tg
   have hcall: ∃ v:Int,v=A.XT (A.nd (k:Int)).h.kind (A.nd (k:Int)).h.target (A.ns.length+1) (A.rw (A.nd (k:Int)).list).owner∧Calls Tryz.prog 96 #[p,.int .i64 k] wr fun e w'=>e=.returned (.int .i64 v)∧Below wr.heap.size wr w':=
    ⟨_,rfl,by
     have:=KE HMr.out hWl (n:=k) hlt;rw[Oz]at this;exact this⟩
   have hcall2:=Ip HMr.out hWl (n:=k) hlt;have HC:=Za hcall hcall2 hWl;clear hcall hcall2 hWl;by_cases h17:kd=17∨kd=18
   ·obtain⟨v,hv0,hca⟩:=HC.out.1;have Hv0:=Z9 hv0;clear hv0;have hk2:kd≠19∧kd≠20:=by omega
    have Hca:=Z9 hca;clear hca;rcases h17 with rfl|rfl
    ·go_wp2_with fail
     refine Hca.out.mono ?_;rintro e' w6 ⟨rfl,hb6⟩;have M6:=HMr.out.low hb6;have hF6:=HF0.out.trans (Fr.of_below (T:= [79]) hb6 hlw);obtain⟨_,_,_,_,_,_,hsY⟩:=M6.nd (A:= { A with tg:=tg }) hlt;obtain⟨_,_,_,_,_,_,_,_,_,_,_,_,_,_,_,_,_,_,_,_,_,_,_,s23⟩:=hsY.all;dsimp only at s23;rw[Ve (A:= { A with tg:=tg }) (k:=k) (by show tg.length<=k;omega)]at s23;have srow:=M6.t.n;rw[show NR1.length=A.ns.length from M6.Po]at srow;have sfz:=World.ownsRow.frozenAt srow (k*24+23);have sgl:=(M6.t.n.lt g rfl).2;obtain⟨⟨NR2,M7⟩,hF7⟩:=M6.aim hlt hl v;have HR:=ZL M7 (hF6.trans hF7);clear M7 hF7 hF6 M6 hsY srow;by_cases hv:v= -1
     ·subst hv;go_wp2_with fail
      go_ret;exact⟨false,rfl,HR.out.2,fun h=>absurd h (by decide)⟩
     ·go_wp2_with fail
      exact⟨⟨k+1,tg++ [v],NR2,by simp,by omega,by simp[hl],HR.out.2,HR.out.1,HA.out.more hl (fun _=>⟨Hv0.out,hv⟩) (fun h=>absurd (HK.out.trans h) (by decide)) (fun h=>absurd (HK.out.trans h) (by decide))⟩,by simp[intOf];omega⟩
    ·go_wp2_with fail
     refine Hca.out.mono ?_;rintro e' w6 ⟨rfl,hb6⟩;have M6:=HMr.out.low hb6;have hF6:=HF0.out.trans (Fr.of_below (T:= [79]) hb6 hlw);obtain⟨_,_,_,_,_,_,hsY⟩:=M6.nd (A:= { A with tg:=tg }) hlt;obtain⟨_,_,_,_,_,_,_,_,_,_,_,_,_,_,_,_,_,_,_,_,_,_,_,s23⟩:=hsY.all;dsimp only at s23;rw[Ve (A:= { A with tg:=tg }) (k:=k) (by show tg.length<=k;omega)]at s23;have srow:=M6.t.n;rw[show NR1.length=A.ns.length from M6.Po]at srow;have sfz:=World.ownsRow.frozenAt srow (k*24+23);have sgl:=(M6.t.n.lt g rfl).2;obtain⟨⟨NR2,M7⟩,hF7⟩:=M6.aim hlt hl v;have HR:=ZL M7 (hF6.trans hF7);clear M7 hF7 hF6 M6 hsY srow;by_cases hv:v= -1
     ·subst hv;go_wp2_with fail
      go_ret;exact⟨false,rfl,HR.out.2,fun h=>absurd h (by decide)⟩
     ·go_wp2_with fail
      exact⟨⟨k+1,tg++ [v],NR2,by simp,by omega,by simp[hl],HR.out.2,HR.out.1,HA.out.more hl (fun _=>⟨Hv0.out,hv⟩) (fun h=>absurd (HK.out.trans h) (by decide)) (fun h=>absurd (HK.out.trans h) (by decide))⟩,by simp[intOf];omega⟩
   ·by_cases h19:kd=19
    ·subst h19;have Hca:=Z9 HC.out.2.1;go_wp2_with fail
     refine Hca.out.mono ?_;rintro e' w6 ⟨v,rfl,hv1,hb6⟩;have Hv1:=Z9 hv1;clear hv1;have M6:=HMr.out.low hb6;have hF6:=HF0.out.trans (Fr.of_below (T:= [79]) hb6 hlw);obtain⟨_,_,_,_,_,_,hsY⟩:=M6.nd (A:= { A with tg:=tg }) hlt;obtain⟨_,_,_,_,_,_,_,_,_,_,_,_,_,_,_,_,_,_,_,_,_,_,_,s23⟩:=hsY.all;dsimp only at s23;rw[Ve (A:= { A with tg:=tg }) (k:=k) (by show tg.length<=k;omega)]at s23;have srow:=M6.t.n;rw[show NR1.length=A.ns.length from M6.Po]at srow;have sfz:=World.ownsRow.frozenAt srow (k*24+23);have sgl:=(M6.t.n.lt g rfl).2;obtain⟨⟨NR2,M7⟩,hF7⟩:=M6.aim hlt hl v;have HR:=ZL M7 (hF6.trans hF7);clear M7 hF7 hF6 M6 hsY srow;by_cases hv:v= -1
     ·subst hv;go_wp2_with fail
      go_ret;exact⟨false,rfl,HR.out.2,fun h=>absurd h (by decide)⟩
     ·go_wp2_with fail
      exact⟨⟨k+1,tg++ [v],NR2,by simp,by omega,by simp[hl],HR.out.2,HR.out.1,HA.out.more hl (fun h=>absurd (HK.out ▸ h) (by decide)) (fun _=>⟨Hv1.out.resolve_left hv,hv⟩) (fun h=>absurd (HK.out.trans h) (by decide))⟩,by simp[intOf];omega⟩
    ·by_cases h20:kd=20
     ·subst h20;obtain⟨l,hll,hlr⟩:=(HC.out.2.2.list (n:=(k:Int)) ⟨by omega,by show(k:Int) < ((A.ns.length:Nat):Int);omega⟩).cast
      replace hll:(A.nd (k:Int)).list=l:=hll
      rw[show(({ A with tg:=tg } :Tr).nd (k:Int)).list=l from hll]at d12;obtain⟨iv,hR⟩:=HMr.out.rw (A:= { A with tg:=tg }) hlr;have r0:=hR.cell 0 _ rfl;have r1:=hR.cell 1 _ rfl;simp only[Nat.add_zero]at r0;have z2:=HMr.out.t.blk.cell 2 rfl;have hgr:=(HMr.out.t.r.lt gr rfl).2;have hlr':l < A.rs.length:=hlr;obtain⟨v,hv0⟩: ∃ v:Int,v=(A.rw (l:Int)).owner:=⟨_,rfl⟩
      rw[show(({ A with tg:=tg } :Tr).rw (l:Int)).owner=v from hv0.symm]at r0;obtain⟨cz,hcz⟩: ∃ cz:Int,cz=(A.rw (l:Int)).clause:=⟨_,rfl⟩
      rw[show(({ A with tg:=tg } :Tr).rw (l:Int)).clause=cz from hcz.symm]at r1;have HV:=Za hv0 hcz hll;clear hv0 hcz hll hR hlr;go_wp2_with fail
      obtain⟨⟨NR2,M7⟩,hF7⟩:=HMr.out.aim hlt hl v;have HR:=ZL (M7.low (Zv (Below.refl _ _) 1)) (HF0.out.trans hF7).drew;clear M7 hF7
      go_still_tail 14,(by kernel_rfl)
      change wpList _ _ _ _ _ wr.drew;go_wp2_with fail
      change Hid (Xt (wr.setCell ⟨g,k*24+23,none⟩ (.int .i64 v)).drew _ _ _ _ _ _ _ _ _ _∧_)at HR;generalize(wr.setCell ⟨g,k*24+23,none⟩ (.int .i64 v)).drew=W2 at HR ⊢;have HRa:=Z9 HR.out.1;obtain⟨_,_,_,_,_,_,htY⟩:=HRa.out.nd (A:= { A with tg:=tg++ [v] }) hlt;obtain⟨_,_,_,_,_,_,_,_,_,_,_,_,t12,_,_,_,_,_,_,_,_,_,_,t23⟩:=htY.all;dsimp only at t12 t23;rw[(UY (A:=A) hl).2]at t23;rw[show(({ A with tg:=tg++ [v] } :Tr).nd (k:Int)).list=l from HV.out.2.2]at t12;obtain⟨iv2,hR2⟩:=HRa.out.rw (A:= { A with tg:=tg++ [v] }) hlr';have u1:=hR2.cell 1 _ rfl;rw[show(({ A with tg:=tg++ [v] } :Tr).rw (l:Int)).clause=cz from HV.out.2.1.symm]at u1;have y2:=HRa.out.t.blk.cell 2 rfl;have ygr:=(HRa.out.t.r.lt gr rfl).2;have ygl:=(HRa.out.t.n.lt g rfl).2;have ypl:=HRa.out.t.blk.lt;have yrow:=HRa.out.t.n;rw[show NR2.length=A.ns.length from HRa.out.Po]at yrow;have yfz:=World.ownsRow.frozenAt yrow (k*24+23);have yF:Fr [79] lo W2 (W2.setCell ⟨g,k*24+23,none⟩ (.int .i64 (-1))):=(Fr.refl [79] lo W2).Y1 _ _ (ZK yrow (g:=g) rfl) (by simp) (HRa.out.t.n.lt g rfl).1;have YF:=Z9 yF;clear yF yrow hR2 htY d0 d12 d23 z1 z2 r0 r1;by_cases hv:v= -1
      ·subst hv
       go_quiet (fail)
       go_wp2_with fail
       go_ret;exact⟨false,rfl,HR.out.2.drewN _,fun h=>absurd h (by decide)⟩
      ·by_cases hc:cz= -1
       ·subst hc
        go_quiet (fail)
        go_wp2_with fail
        go_ret;exact⟨false,rfl,by first|exact(HR.out.2.trans YF.out).drewN _|exact HR.out.2.trans ((Fr.refl [79] lo W2).drewN _ |>.trans (by exact YF.out)),fun h=>absurd h (by decide)⟩
       ·have hc':(cz== -1)=false:=by simpa using hc
        go_quiet (fail)
        go_wp2_with fail
        exact⟨⟨k+1,tg++ [v],NR2,by simp,by omega,by simp[hl],HR.out.2.drewN _,HR.out.1.low (Zv (Below.refl _ _) _),HA.out.more hl (fun h=>absurd (HK.out ▸ h) (by decide)) (fun h=>absurd (HK.out.trans h) (by decide)) (fun _=>⟨by rw[HV.out.2.2];exact HV.out.1,hv,by rw[HV.out.2.2,<-HV.out.2.1];exact hc⟩)⟩,by simp[intOf];omega⟩
     ·have h17a:kd≠17:=fun e=>h17 (.inl e);have h18a:kd≠18:=fun e=>h17 (.inr e);go_wp2_with fail
      exact⟨⟨k+1,tg++ [-1],NR1,by simp,by omega,by simp[hl],HF0.out,HMr.out.jL Fe,HA.out.more hl (fun h=>absurd (HK.out ▸ h) h17) (fun h=>absurd (HK.out.trans h) h19) (fun h=>absurd (HK.out.trans h) h20)⟩,by simp[intOf];omega⟩
  ·go_wp2_with fail
   go_ret;have:k=A.ns.length:=by omega
   subst this;exact⟨true,rfl,HF0.out,fun _=>⟨tg,NR1,M,HA.out⟩⟩
end
section
theorem Bf: ∀ t:T,∀ n,t.Yd n<=300->t.Yd n=n+t.wt:=by
 intro t
 induction t with
 |nil=>intro n _;simp[T.Yd,T.wt]
 |st h b e c tl ih1 ih2 ih3 ih4=>
  intro n hn;simp only[T.Yd]at hn ⊢;split at hn
  ·omega
  ·next hc=>
   rw[if_neg hc];have g4:=ih4 (c.Yd (n+1+b.Yd 0+e.Yd 0)) hn;have g3:=ih3 (n+1+b.Yd 0+e.Yd 0) (by omega);have g1:=ih1 0 (by omega);have g2:=ih2 0 (by omega);simp only[T.wt];omega
 |cl x b tl ih1 ih2=>
  intro n hn;simp only[T.Yd]at hn ⊢;have g2:=ih2 _ hn;have g1:=ih1 0 (by omega);simp only[T.wt];omega
def jq (x:Nd):Prop:=x.h.label.size<=140737488355328∧x.target= -1
theorem Dw: ∀ t:T,t.lim->(∀ N R n i a p,∀ x∈(t.rd.l N R n i a p).ns,jq x)∧(∀ sw N0 N R n i j k,∀ x∈(t.rd.c sw N0 N R n i j k).ns,jq x):=by
 intro t
 induction t with
 |nil=>intro _;exact⟨fun _ _ _ _ _ _ x hx=>by simp[T.rd,Out.none]at hx,fun _ _ _ _ _ _ _ _ x hx=>by simp[T.rd]at hx⟩
 |st h b e c tl ih1 ih2 ih3 ih4=>
  intro⟨k1,_,k3,k4,k5,k6⟩;refine⟨fun N R n i a p x hx=>?_,fun _ _ _ _ _ _ _ _ x hx=>by simp[T.rd]at hx⟩;simp only[T.rd,List.mem_cons,List.mem_append]at hx;rcases hx with rfl|hx|hx|hx|hx
  ·exact⟨k1,rfl⟩
  ·split at hx
   ·exact(ih1 k3).1 _ _ _ _ _ _ x hx
   ·simp[Out.none]at hx
  ·split at hx
   ·exact(ih2 k4).1 _ _ _ _ _ _ x hx
   ·simp[Out.none]at hx
  ·exact(ih3 k5).2 _ _ _ _ _ _ _ _ x hx
  ·exact(ih4 k6).1 _ _ _ _ _ _ x hx
 |cl y b tl ih1 ih2=>
  intro⟨k1,k2⟩;refine⟨fun _ _ _ _ _ _ x hx=>by simp[T.rd,Out.none]at hx,fun sw N0 N R n i j k x hx=>?_⟩;simp only[T.rd,List.mem_append]at hx;rcases hx with hx|hx
  ·exact(ih1 k1).1 _ _ _ _ _ _ x hx
  ·exact(ih2 k2).2 _ _ _ _ _ _ _ _ x hx
theorem qG: ∀ t:T,t.lim->(∀ d L,(t.ct.l d L).1.lim)∧(∀ d L c,(t.ct.c d L).1=some c->c.lim):=by
 have z:T.zero.lim:=⟨by decide,by decide,trivial,trivial,trivial,trivial⟩
 intro t
 induction t with
 |nil=>intro _;exact⟨fun _ _=>trivial,fun _ _ c h=>by simp[T.ct]at h;subst h;trivial⟩
 |st h b e c tl ih1 ih2 ih3 ih4=>
  intro⟨k1,k2,k3,k4,k5,k6⟩;refine⟨fun d L=>?_,fun _ _ c h=>by simp[T.ct]at h⟩;simp only[T.ct];split
  ·exact z
  ·split
   ·exact z
   ·next c' hc=>exact⟨k1,k2,(ih1 k3).1 _ _,(ih2 k4).1 _ _,(ih3 k5).2 _ _ _ hc,(ih4 k6).1 _ _⟩
 |cl y b tl ih1 ih2=>
  intro⟨k1,k2⟩;refine⟨fun _ _=>trivial,fun d L c h=>?_⟩;simp only[T.ct]at h;split at h
  ·cases h
  ·simp only[Option.map_eq_some_iff]at h;obtain⟨c',h1,rfl⟩:=h;exact⟨(ih1 k1).1 _ _,(ih2 k2).2 _ _ _ h1⟩
theorem Eu {t:T} (h:t.lim):(t.tr []).zF=(t.rd.l 0 1 0 0 0 0).ns:=by
 apply List.ext_getElem?;intro i;by_cases hi:i < (t.tr []).ns.length
 ·rw[TL hi];have h0:=List.getElem?_eq_getElem hi;have h1:(t.rd.l 0 1 0 0 0 0).ns[i]? =some ((t.tr []).ns[i]):=h0;rw[h1,Ya h0];have h2:=((Dw t h).1 0 1 0 0 0 0 _ (List.mem_of_getElem? h1)).2;have h3:(t.tr []).tgt i= -1:=Ve (by simp[T.tr]);rw[h3,<-h2]
 ·rw[List.getElem?_eq_none (by rw[Ru];omega),List.getElem?_eq_none (by show(t.tr []).ns.length<=i;omega)]
section
variable {w w':World} {lo p:Nat} {A:Tr} {num:Int} {rt:Bool} {lv nv rv:Value} {NR RR:List (List Value)}
theorem Xt.Dc (M:Xt w lo p A num rt lv nv rv NR RR) (b:Bool):Xt (w.setCell ⟨p,4,none⟩ (.bool b)) lo p A num b lv nv rv NR RR∧Fr [71] lo w (w.setCell ⟨p,4,none⟩ (.bool b)):=by
 have hF:Fr [71] lo w (w.setCell ⟨p,4,none⟩ (.bool b)):=(Fr.refl [71] lo w).Y1 _ _ M.t.blk.ty (by simp) M.t.hB;exact⟨⟨⟨M.t.hB,M.t.blk.set 4 (.bool b),ZU hF M.t.l (by decide),ZU hF M.t.n (by decide),ZU hF M.t.r (by decide),M.t.nl,M.t.rl⟩,M.n.mono fun _ _ k=>k.fr hF (by simp) (by simp) (Nat.le_refl _),M.r.mono fun _ _ k=>k.fr hF (by simp) (Nat.le_refl _),M.b⟩,hF⟩
theorem Xt.read {W w':World} {t:T} {rt':Bool} (hl:t.lim) (hw:t.wt<=300) (hlo:lo<=W.heap.size)
  (h:TM w' lo p ([]++(t.rd.l 0 1 0 0 0 0).ls) ([]++NR) ([]++RR) num rt' lv nv rv)
  (hn:ZE (Yv w' W.heap.size none) (t.rd.l 0 1 0 0 0 0).ns NR) (hr:ZE (X6 w' W.heap.size none) (⟨-1,-1,(t.rd.l 0 1 0 0 0 0).ids⟩::(t.rd.l 0 1 0 0 0 0).rs) RR):Xt w' lo p (t.tr []) num rt' lv nv rv NR RR:=by
 have h1:=(PX t).1 0 1 0 0 0 0;refine⟨h,?_,?_,?_⟩
 ·rw[Eu hl];exact hn.mono fun _ _ k=>k.fr (Fr.refl [] 0 w') (by simp) (by simp) hlo
 ·exact hr.mono fun _ _ k=>k.fr (Fr.refl [] 0 w') (by simp) hlo
 ·refine⟨?_,?_,?_⟩
  ·show(t.rd.l 0 1 0 0 0 0).ls.length<=90000;omega
  ·show(t.rd.l 0 1 0 0 0 0).ns.length<=90000;omega
  ·show(_::(t.rd.l 0 1 0 0 0 0).rs:List Rw).length<=90000;simp;omega
end
def vS (w':World) (lo p:Nat) (t:T) (rt:Bool):Prop:=w'.cell? ⟨p,4,none⟩=some (.bool rt)∧lo<=p∧
 (rt=true->t.fA∧t.Yr true∧t.Yd 0<=300∧ ∃ tg num lv nv rv NR RR,Xt w' lo p (t.tr tg) num true lv nv rv NR RR∧Xr (t.tr tg)∧kM (t.tr tg))
theorem JI {t:T} {tg:List Int} (h1: ∀ i:Nat,i < (t.tr []).ns.length->0 < ((t.tr []).nd i).h.label.size->(t.tr []).Xq ((t.tr []).nd i).h.label=i) (h2:pU (t.tr tg) (t.tr tg).ns.length):Xr (t.tr tg)∧kM (t.tr tg):=by
 have key: ∀ (i:Nat) x,(t.tr tg).ns[i]? =some x->i < (t.tr tg).ns.length∧(t.tr tg).nd i=x:=fun i x hx=>⟨ZW hx,Ya hx⟩
 refine⟨⟨fun i x hx hs=>?_,fun i x hx hk=>?_,fun i x hx hk=>?_,fun i x hx hk=>?_⟩,⟨fun i x hx hk=>?_,fun i x hx hk=>?_,fun i x hx hk=>?_⟩⟩<;>obtain⟨hi,rfl⟩:=key i x hx<;>have h3:=h2 i hi
 ·exact h1 i hi hs
 ·obtain⟨a,b⟩:=h3.1 hk;rw[<-a];exact b
 ·obtain⟨a,b⟩:=h3.2.1 hk;rw[<-a];exact b
 ·obtain⟨a,b,c⟩:=h3.2.2 hk;exact⟨c,by rw[<-a];exact b⟩
 ·exact(h3.1 hk).1
 ·exact(h3.2.1 hk).1
 ·exact(h3.2.2 hk).1
end
section
theorem EH {t:T} (hlim:t.lim) {w:World} {v:Value} {bb o:Nat} (hs:ZM v bb o t.len) (ha:t.At (Zl w w.heap.size) true bb o):Calls Tryz.prog 63 #[v] w fun e w'=> ∃ p rt,e=.returned (.pointer (some ⟨p,0,none⟩))∧Below w.heap.size w w'∧vS w' w.heap.size p t rt:=by
 have HS:=ZL hs ha;obtain⟨⟨va,vn,vc,rfl⟩,_⟩:=ZJ hs;have hsrt:=Z9 ha.Yr;have hsml:=Z9 (GR t w _ bb o 0 0 rfl (by omega) hs ha);have HL:=Z9 hlim;clear hs ha hlim;go_enter Tryz.func63,Tryz.ntmps63;go_wp2_with fail
 refine hsml.out.mono ?_;rintro e' w1 ⟨rfl,hb1⟩;have hb1s:=hb1.size;obtain⟨sm,hsm⟩: ∃ sm:Bool,sm=t.Si 0:=⟨_,rfl⟩
 rw[<-hsm];have Hsm:=Z9 hsm;clear hsm;cases sm with
 |false=>
  have HN:=ZL (ZV.new w1 [.slice none 0 0,.slice none 0 0,.slice none 0 0,.int .i64 0,false] 71) (hb1.alloc hb1s (.cells [.slice none 0 0,.slice none 0 0,.slice none 0 0,.int .i64 0,.bool false].toArray 71));go_wp2_with fail
  go_ret;exact⟨_,false,rfl,HN.out.2,HN.out.1.cell 4 rfl,hb1s,fun h=>absurd h (by decide)⟩
 |true=>
  have hwg:=JC t w1 (.slice va vn vc) bb o HS.out.1 (HS.out.2.mono (Zl.at hb1));obtain⟨wg,hwg2⟩: ∃ wg:Nat,wg=t.Yd 0:=⟨_,rfl⟩
  rw[<-hwg2]at hwg;have Hwg:=Z9 hwg;have Hwg2:=Z9 hwg2;clear hwg hwg2;go_wp2_with fail
  refine Hwg.out.mono ?_;rintro e' w2 ⟨rfl,hb2⟩;have hb3:=W9 hb1 hb2;have hb3s:=hb3.size;by_cases h300:(wg:Int)<=300
  ·have hwt:t.wt<=300:=by
    have:=Bf t 0 (by rw[<-Hwg2.out];omega);rw[<-Hwg2.out]at this;omega
   have hTM:TM (w2.alloc (.cells [.slice none 0 0,.slice none 0 0,.slice none 0 0,.int .i64 0,.bool true].toArray 71)) w.heap.size w2.heap.size [] [] [] ((0:Nat):Int) true (.slice none 0 0) (.slice none 0 0) (.slice none 0 0):=
    ⟨hb3s,ZV.new w2 _ 71,World.ownsRow_nil _ _ _ _,World.ownsRow_nil _ _ _ _,World.ownsRow_nil _ _ _ _,by simp,by simp⟩
   have hnw:=hb3.alloc hb3s (.cells [.slice none 0 0,.slice none 0 0,.slice none 0 0,.int .i64 0,.bool true].toArray 71);have HR:=Z9 (xW t _ _ _ 0 [] [] [] 0 true _ _ _ (.slice va vn vc) bb o (-1) (-1) hTM ⟨by simp,by simp,by simp,by omega⟩ (by omega) HS.out.1 (HS.out.2.mono (Zl.below hnw)));have HN:=Z9 hnw;clear hTM hnw;go_wp2_with fail
   refine HR.out.mono ?_;rintro e' w4 ⟨rfl,lv,nv,rv,NR,RR,rt',k1,k2,k3,k4,_,_,_,_,k5⟩;have c4:=k1.blk.cell 4 rfl;have z4:=k1.blk.free 4;have hM:=Xt.read HL.out hwt (by simp;omega) k1 k2 k3;have HF:=Za hM k5 (HN.out.trans k4.below);clear hM k1 k2 k3 k4 k5;cases rt' with
   |false=>
    go_wp2_with fail
    go_ret;have h6:=HF.out.1.Dc false;exact⟨_,false,rfl,HF.out.2.2.trans h6.2.below,h6.1.t.blk.cell 4 rfl,hb3s,fun h=>absurd h (by decide)⟩
   |true=>
    have hcall:=FW HF.out.1 fun i hi=>by
     have h0:=((Dw t HL.out).1 0 1 0 0 0 0 _ (List.mem_of_getElem? (List.getElem?_eq_getElem hi))).1;rw[Ya (List.getElem?_eq_getElem hi)];have:(140737488355328:Nat)<=9223372036854775807:=by decide
     exact Nat.le_trans h0 this
    have HC:=Z9 hcall;clear hcall;go_wp2_with fail
    refine HC.out.mono ?_;rintro e' w5 ⟨r1,rfl,hr1,hb5⟩;have M5:=HF.out.1.low hb5;have c5:=M5.t.blk.cell 4 rfl;have z5:=M5.t.blk.free 4;have hfr5:Fr [71] w.heap.size w4 w5:=Fr.of_below hb5 (by have:=M5.t.hB;have:=HF.out.1.t.blk.lt;omega);have H5:=Za M5 hr1 (HF.out.2.2.trans hfr5.below);clear M5 hr1 hfr5;cases r1 with
    |false=>
     go_wp2_with fail
     go_ret;have h6:=H5.out.1.Dc false;exact⟨_,false,rfl,H5.out.2.2.trans h6.2.below,h6.1.t.blk.cell 4 rfl,hb3s,fun h=>absurd h (by decide)⟩
    |true=>
     have hfA:t.fA:=(HF.out.2.1 (by simp)).2;have hcall:=Io (A:=t.tr []) H5.out.1 fun tg=>Ee (t:=t) (tg:=tg) hsrt.out hfA;have HC2:=Z9 hcall;have HfA:=Z9 hfA;clear hcall hfA;go_wp2_with fail
     refine HC2.out.mono ?_;rintro e' w6 ⟨r2,rfl,hf6,hr2⟩;have b6:=H5.out.1.t.blk.fr hf6 (by decide);have c6:=b6.cell 4 rfl;have z6:=b6.free 4;have hf7: ∀ b:Bool,Fr [71] w.heap.size w6 (w6.setCell ⟨w2.heap.size,4,none⟩ (.bool b)):=fun b=>(Fr.refl [71] _ w6).Y1 _ _ b6.ty (by simp) hb3s;have H6:=Yt b6 hr2 (H5.out.2.2.trans hf6.below) hf7;clear b6 hr2 hf7;cases r2 with
     |false=>
      go_wp2_with fail
      go_ret;exact⟨_,false,rfl,H6.out.2.2.1.trans (H6.out.2.2.2 false).below,(H6.out.1.set 4 _).cell 4 rfl,hb3s,fun h=>absurd h (by decide)⟩
     |true=>
      go_wp2_with fail
      go_ret;obtain⟨tg,NR',M6,hA⟩:=H6.out.2.1 (by simp);have h6:=M6.Dc true;obtain⟨g1,g2⟩:=JI (t:=t) (tg:=tg) (H5.out.2.1 (by simp)) hA;exact⟨_,true,rfl,H6.out.2.2.1.trans (H6.out.2.2.2 true).below,h6.1.t.blk.cell 4 rfl,hb3s,fun _=>⟨HfA.out,hsrt.out,by rw[<-Hwg2.out];omega,tg,_,_,_,_,_,_,h6.1,g1,g2⟩⟩
  ·have e0:decide ((wg:Int)<=300)=false:=decide_eq_false h300;have HN:=ZL (ZV.new w2 [.slice none 0 0,.slice none 0 0,.slice none 0 0,.int .i64 0,.bool (decide ((wg:Int)<=300))] 71) (hb3.alloc hb3s (.cells [.slice none 0 0,.slice none 0 0,.slice none 0 0,.int .i64 0,.bool (decide ((wg:Int)<=300))].toArray 71));have E0:=Z9 e0;clear e0;go_wp2_with fail
   go_ret;exact⟨_,false,rfl,HN.out.2,(HN.out.1.cell 4 rfl).trans (by rw[E0.out]),hb3s,fun h=>absurd h (by decide)⟩
def nI (t:T) (W:World) (e:Ending) (w':World):Prop:= ∃ p rt lo,e=.returned (.pointer (some ⟨p,0,none⟩))∧Below W.heap.size W w'∧W.heap.size<=lo∧vS w' lo p t rt
theorem MW {t:T} (hlim:t.lim) {w:World} {v:Value} (h:Src w t v):Calls Tryz.prog 29 #[v] w (nI t w):=by
 obtain⟨bb,o,hs,ha⟩:=h.data;have hb1:Below w.heap.size w (w.alloc (.cells [.int .i64 500].toArray 63)):=(Below.refl _ _).alloc (Nat.le_refl _) _;have HC:=Z9 (Bh t w.heap.size w.heap.size 500 1 1 _ v bb o rfl (Nat.le_refl _) (ZV.new w [.int .i64 500] 63) (by decide) (by decide) (by decide) (by decide) hs (ha.mono (Zl.below hb1)));have HB:=Z9 hb1;have hsrt:=Z9 ha.Yr;have HL:=Z9 hlim;obtain⟨⟨va,vn,vc,rfl⟩,_⟩:=ZJ hs;clear hb1 hs ha h hlim;go_enter Tryz.func29,Tryz.ntmps29;go_wp2_with fail
 refine HC.out.mono ?_;rintro e' w2 ⟨v',rfl,⟨b',o',hs2,ha2⟩,_,hf2,_⟩;have hsz:w.heap.size+1<=w2.heap.size:=by have:=hf2.size;simpa using this
 have HS:=Z9 (EH ((qG t HL.out).1 1 500) hs2 (ha2.mono fun b o v h=>⟨h.2.1,h.2.2.2⟩));have HF:=Z9 (HB.out.trans hf2.below);obtain⟨⟨ua,un,uc,rfl⟩,_⟩:=ZJ hs2;clear hs2 ha2 hf2;go_wp2_with fail
 refine HS.out.mono ?_;rintro e' w3 ⟨p,rt,rfl,hb3,hsp⟩;have HP:=ZL hb3 hsp;clear hb3 hsp;go_wp2_with fail
 go_ret;obtain⟨h1,h2,h3⟩:=HP.out.2;refine⟨p,rt,w2.heap.size,rfl,HF.out.trans (HP.out.1.mono (by omega)),by omega,h1,h2,fun hr=>?_⟩;have h4:=h3 hr;rw[(mF t).1 hsrt.out 1 500 (vM h4.1)]at h4;exact h4
end
end Go.Proofs.YteedbaejpdjilaaGreat
