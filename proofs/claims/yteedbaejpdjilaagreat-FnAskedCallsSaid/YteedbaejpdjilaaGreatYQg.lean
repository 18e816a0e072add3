/- Part of the proof: TreG TreH TreI. -/
import Derived.Test.YteedbaejpdjilaaGreatYQf
import Derived.Test.YteedbaejpdjilaaGreatYQe
import Derived.StillTailTactics
import Derived.Test.YteedbaejpdjilaaGreatYQd
import Derived.Test.YteedbaejpdjilaaGreatYPt
import Derived.Test.YteedbaejpdjilaaGreatYPs
set_option linter.all false
set_option maxRecDepth 100000
set_option maxHeartbeats 40000000
namespace Go.Proofs.YteedbaejpdjilaaGreat
open Go.RowKit Tryz
section
variable {w w':World} {lo p:Nat} {A:Tr} {num:Int} {rt:Bool} {lv nv rv:Value} {NR RR:List (List Value)}
theorem LY {A:Tr} {tg:List Int} {k:Int} {s:ByteArray} : ∀ (f:Nat) (o:Int),({ A with tg:=tg } :Tr).WT k s f o=A.WT k s f o:=by
 intro f
 induction f with
 |zero=>intro o;rfl
 |succ f ih=>
  intro o;unfold Tr.WT;rw[ih];rfl
def pU (A:Tr) (k:Nat):Prop:= ∀ i:Nat,i < k->
 ((A.nd i).h.kind=17\/(A.nd i).h.kind=18->A.tgt i=A.WT (A.nd i).h.kind (A.nd i).h.target (A.ns.length+1) (A.rw (A.nd i).list).owner/\A.tgt i≠ -1)/\
 ((A.nd i).h.kind=19->A.tgt i=A.Wo (A.nd i).h.target/\A.tgt i≠ -1)/\
 ((A.nd i).h.kind=20->A.tgt i=(A.rw (A.nd i).list).owner/\A.tgt i≠ -1/\(A.rw (A.nd i).list).clause≠ -1)
theorem pU.more {A:Tr} {tg:List Int} {k:Nat} {v:Int} (h:pU { A with tg:=tg } k) (hl:tg.length=k)
  (h17:(A.nd k).h.kind=17\/(A.nd k).h.kind=18->v=A.WT (A.nd k).h.kind (A.nd k).h.target (A.ns.length+1) (A.rw (A.nd k).list).owner/\v≠ -1)
  (h19:(A.nd k).h.kind=19->v=A.Wo (A.nd k).h.target/\v≠ -1)
  (h20:(A.nd k).h.kind=20->v=(A.rw (A.nd k).list).owner/\v≠ -1/\(A.rw (A.nd k).list).clause≠ -1):pU { A with tg:=tg++ [v] } (k+1):=by
 obtain⟨e1,e2⟩:=Tv (A:=A) (v:=v) hl;intro i hi;by_cases e:i < k
 .have:=h i e;simp only[LY]at this ⊢;rw[e1 i (by omega)];exact this
 .have:i=k:=by omega
  subst this;simp only[LY];rw[e2];exact⟨h17,h19,h20⟩
theorem Wi.Z9I {A:Tr} {tg uB:List Int} (M:Wi w lo p { A with tg:=tg } num rt lv nv rv NR RR) (h: ∀ i:Nat,({ A with tg:=uB } :Tr).tgt i=({ A with tg:=tg } :Tr).tgt i):Wi w lo p { A with tg:=uB } num rt lv nv rv NR RR:=by
 have e:({ A with tg:=uB } :Tr).yi=({ A with tg:=tg } :Tr).yi:=by
  unfold Tr.yi;simp only[h]
 exact⟨M.t,by rw[e];exact M.n,M.r,M.b⟩
theorem Cn {A:Tr} {tg:List Int} (i:Nat):({ A with tg:=tg++ [-1] } :Tr).tgt i=({ A with tg:=tg } :Tr).tgt i:=by
 by_cases e:i=tg.length
 .rw[e,(Tv (A:=A) (v:= -1) rfl).2,Tq (A:= { A with tg:=tg }) (Z7 _)]
 .exact(Tv (A:=A) (v:= -1) rfl).1 i e
theorem Wi.aim {A:Tr} {tg:List Int} {g cap k:Nat} (M:Wi w lo p { A with tg:=tg } num rt lv (.slice (some ⟨g,0,none⟩) A.ns.length cap) rv NR RR) (hk:k < A.ns.length) (hl:tg.length=k) (v:Int):
  (∃ WF,Wi (w.setCell ⟨g,k*24+23,none⟩ (.int .i64 v)) lo p { A with tg:=tg++ [v] } num rt lv (.slice (some ⟨g,0,none⟩) A.ns.length cap) rv WF RR)/\Fr [79] lo w (w.setCell ⟨g,k*24+23,none⟩ (.int .i64 v)):=
 M.set (A:= { A with tg:=tg }) hk v (tg++ [v]) (Tv hl).1 (Tv hl).2
def rj (A:Tr) (W:World) (lo p:Nat) (num:Int) (rt:Bool) (lv nv rv:Value) (RR:List (List Value)) (e:Ending) (w':World):Prop:= ∃ r:Bool,e=.returned (.bool r)/\Fr [79] lo W w'/\(r=true-> ∃ tg WF,Wi w' lo p { A with tg:=tg } num rt lv nv rv WF RR/\pU { A with tg:=tg } A.ns.length)
def jr (A:Tr) (W:World) (lo p:Nat) (num:Int) (rt:Bool) (lv nv rv:Value) (RR:List (List Value)) (ix:Value) (wr:World):Prop:= ∃ (k:Nat) (tg:List Int) (WF:List (List Value)),ix=.int .i64 k/\k<=A.ns.length/\tg.length=k/\Fr [79] lo W wr/\Wi wr lo p { A with tg:=tg } num rt lv nv rv WF RR/\pU { A with tg:=tg } k
theorem E2 (M:Wi w lo p { A with tg:= [] } num rt lv nv rv NR RR) (W: ∀ tg,E6 { A with tg:=tg }):Calls prog 83 #[p] w (rj A w lo p num rt lv nv rv RR):=by
 obtain⟨na,nc,rfl⟩:=M.nvs;obtain⟨gr,ru,rfl⟩:=M.yh (W []).one;have c1:=M.t.blk.cell 1 rfl;have hb2:A.ns.length<=90000:=M.b.2.1;have hb3:A.rs.length<=90000:=M.b.2.2;have HM:=Z5 M;have HW:=Z5 W;clear M W;go_enter func83,ntmps83;go_wp2_with fail
 go_loopw [10] (fun ix wr=>jr A w lo p num rt lv (.slice na A.ns.length nc) (.slice (some ⟨gr,0,none⟩) A.rs.length ru) RR ix wr) (fun ix _=>A.ns.length -(intOf ix).toNat)
 case atStart=>exact⟨0,[],NR,rfl,by omega,rfl,Fr.refl _ _ _,HM.out,fun i hi=>by omega⟩
 case round=>
  obtain⟨k,tg,U3,rfl,hk,hl,hf,M,hA⟩:=hrel;have HA:=Z5 hA;have pT:=Z5 hf;have hsz:=hf.size;have lw:lo<=wr.heap.size:=by have:=M.t.hB;have:=M.t.blk.lt;omega
  clear hA;by_cases hlt:k < A.ns.length
  .obtain⟨g,cap,V9⟩:=M.Kd (A:= { A with tg:=tg }) (by show 0 < A.ns.length;omega);simp only[Value.slice.injEq,true_and]at V9;obtain⟨rfl,rfl⟩:=V9;obtain⟨_,_,_,_,_,_,pV⟩:=M.nd (A:= { A with tg:=tg }) hlt;obtain⟨d0,_,_,_,_,_,_,_,_,_,_,_,d12,_,_,_,_,_,_,_,_,_,_,vx⟩:=pV.all;dsimp only at d0 d12 vx;rw[Tq (A:= { A with tg:=tg }) (k:=k) (by show tg.length<=k;omega)]at vx;have z1:=M.t.blk.cell 1 rfl;have hgl:=(M.t.n.lt g rfl).2;have hrow:=M.t.n;rw[show U3.length=A.ns.length from M.Nt]at hrow;have hfz:=World.ownsRow.frozenAt hrow (k*24+23);have hlo:=(M.t.n.lt g rfl).1;obtain⟨kd,hkd⟩: ∃ kd:Int,kd=(A.nd (k:Int)).h.kind:=⟨_,rfl⟩
   rw[show(({ A with tg:=tg } :Tr).nd (k:Int)).h.kind=kd from hkd.symm]at d0;have HK:=Z5 hkd;have Bh:=Z5 M;have HY:=Z5 pV;clear hkd M pV hf hrow;have gk:=HW.out tg
   have hcall: ∃ v:Int,v=A.WT (A.nd (k:Int)).h.kind (A.nd (k:Int)).h.target (A.ns.length+1) (A.rw (A.nd (k:Int)).list).owner/\Calls prog 96 #[p,.int .i64 k] wr fun e w'=>e=.returned (.int .i64 v)/\Below wr.heap.size wr w':=
    ⟨_,rfl,by
     have:=IU Bh.out gk (n:=k) hlt;rw[LY]at this;exact this⟩
   have Cm:=E4 Bh.out gk (n:=k) hlt;have HC:=X7 hcall Cm gk;clear hcall Cm gk;by_cases h17:kd=17\/kd=18
   .obtain⟨v,hv0,hca⟩:=HC.out.1;have Hv0:=Z5 hv0;clear hv0;have hk2:kd≠19/\kd≠20:=by omega
    have gj:=Z5 hca;clear hca;rcases h17 with rfl|rfl
    .go_wp2_with fail
     refine gj.out.mono ?_;rintro e' w6 ⟨rfl,hb6⟩;have M6:=Bh.out.low hb6;have GT:=pT.out.trans (Fr.of_below (T:= [79]) hb6 lw);obtain⟨_,_,_,_,_,_,vw⟩:=M6.nd (A:= { A with tg:=tg }) hlt;obtain⟨_,_,_,_,_,_,_,_,_,_,_,_,_,_,_,_,_,_,_,_,_,_,_,s23⟩:=vw.all;dsimp only at s23;rw[Tq (A:= { A with tg:=tg }) (k:=k) (by show tg.length<=k;omega)]at s23;have Oc:=M6.t.n;rw[show U3.length=A.ns.length from M6.Nt]at Oc;have sfz:=World.ownsRow.frozenAt Oc (k*24+23);have sgl:=(M6.t.n.lt g rfl).2;obtain⟨⟨I0,M7⟩,Cl⟩:=M6.aim hlt hl v;have HR:=Zl M7 (GT.trans Cl);clear M7 Cl GT M6 vw Oc;by_cases hv:v= -1
     .subst hv;go_wp2_with fail
      go_ret;exact⟨false,rfl,HR.out.2,fun h=>absurd h (by decide)⟩
     .go_wp2_with fail
      exact⟨⟨k+1,tg++ [v],I0,by simp,by omega,by simp[hl],HR.out.2,HR.out.1,HA.out.more hl (fun _=>⟨Hv0.out,hv⟩) (fun h=>absurd (HK.out.trans h) (by decide)) (fun h=>absurd (HK.out.trans h) (by decide))⟩,by simp[intOf];omega⟩
    .go_wp2_with fail
     refine gj.out.mono ?_;rintro e' w6 ⟨rfl,hb6⟩;have M6:=Bh.out.low hb6;have GT:=pT.out.trans (Fr.of_below (T:= [79]) hb6 lw);obtain⟨_,_,_,_,_,_,vw⟩:=M6.nd (A:= { A with tg:=tg }) hlt;obtain⟨_,_,_,_,_,_,_,_,_,_,_,_,_,_,_,_,_,_,_,_,_,_,_,s23⟩:=vw.all;dsimp only at s23;rw[Tq (A:= { A with tg:=tg }) (k:=k) (by show tg.length<=k;omega)]at s23;have Oc:=M6.t.n;rw[show U3.length=A.ns.length from M6.Nt]at Oc;have sfz:=World.ownsRow.frozenAt Oc (k*24+23);have sgl:=(M6.t.n.lt g rfl).2;obtain⟨⟨I0,M7⟩,Cl⟩:=M6.aim hlt hl v;have HR:=Zl M7 (GT.trans Cl);clear M7 Cl GT M6 vw Oc;by_cases hv:v= -1
     .subst hv;go_wp2_with fail
      go_ret;exact⟨false,rfl,HR.out.2,fun h=>absurd h (by decide)⟩
     .go_wp2_with fail
      exact⟨⟨k+1,tg++ [v],I0,by simp,by omega,by simp[hl],HR.out.2,HR.out.1,HA.out.more hl (fun _=>⟨Hv0.out,hv⟩) (fun h=>absurd (HK.out.trans h) (by decide)) (fun h=>absurd (HK.out.trans h) (by decide))⟩,by simp[intOf];omega⟩
   .by_cases h19:kd=19
    .subst h19;have gj:=Z5 HC.out.2.1;go_wp2_with fail
     refine gj.out.mono ?_;rintro e' w6 ⟨v,rfl,hv1,hb6⟩;have Hv1:=Z5 hv1;clear hv1;have M6:=Bh.out.low hb6;have GT:=pT.out.trans (Fr.of_below (T:= [79]) hb6 lw);obtain⟨_,_,_,_,_,_,vw⟩:=M6.nd (A:= { A with tg:=tg }) hlt;obtain⟨_,_,_,_,_,_,_,_,_,_,_,_,_,_,_,_,_,_,_,_,_,_,_,s23⟩:=vw.all;dsimp only at s23;rw[Tq (A:= { A with tg:=tg }) (k:=k) (by show tg.length<=k;omega)]at s23;have Oc:=M6.t.n;rw[show U3.length=A.ns.length from M6.Nt]at Oc;have sfz:=World.ownsRow.frozenAt Oc (k*24+23);have sgl:=(M6.t.n.lt g rfl).2;obtain⟨⟨I0,M7⟩,Cl⟩:=M6.aim hlt hl v;have HR:=Zl M7 (GT.trans Cl);clear M7 Cl GT M6 vw Oc;by_cases hv:v= -1
     .subst hv;go_wp2_with fail
      go_ret;exact⟨false,rfl,HR.out.2,fun h=>absurd h (by decide)⟩
     .go_wp2_with fail
      exact⟨⟨k+1,tg++ [v],I0,by simp,by omega,by simp[hl],HR.out.2,HR.out.1,HA.out.more hl (fun h=>absurd (HK.out ▸ h) (by decide)) (fun _=>⟨Hv1.out.resolve_left hv,hv⟩) (fun h=>absurd (HK.out.trans h) (by decide))⟩,by simp[intOf];omega⟩
    .by_cases h20:kd=20
     .subst h20;obtain⟨l,hll,hlr⟩:=(HC.out.2.2.list (n:=(k:Int)) ⟨by omega,by show(k:Int) < ((A.ns.length:Nat):Int);omega⟩).cast
      replace hll:(A.nd (k:Int)).list=l:=hll
      rw[show(({ A with tg:=tg } :Tr).nd (k:Int)).list=l from hll]at d12;obtain⟨iv,hR⟩:=Bh.out.rw (A:= { A with tg:=tg }) hlr;have r0:=hR.cell 0 _ rfl;have r1:=hR.cell 1 _ rfl;simp only[Zn]at r0;have z2:=Bh.out.t.blk.cell 2 rfl;have hgr:=(Bh.out.t.r.lt gr rfl).2;have Z9H:l < A.rs.length:=hlr;obtain⟨v,hv0⟩: ∃ v:Int,v=(A.rw (l:Int)).owner:=⟨_,rfl⟩
      rw[show(({ A with tg:=tg } :Tr).rw (l:Int)).owner=v from hv0.symm]at r0;obtain⟨cz,hcz⟩: ∃ cz:Int,cz=(A.rw (l:Int)).clause:=⟨_,rfl⟩
      rw[show(({ A with tg:=tg } :Tr).rw (l:Int)).clause=cz from hcz.symm]at r1;have HV:=X7 hv0 hcz hll;clear hv0 hcz hll hR hlr;go_wp2_with fail
      obtain⟨⟨I0,M7⟩,Cl⟩:=Bh.out.aim hlt hl v;have HR:=Zl (M7.low (YE (ZN _ _) 1)) (pT.out.trans Cl).drew;clear M7 Cl
      go_still_tail 14,(by kernel_rfl)
      change wpList _ _ _ _ _ wr.drew;go_wp2_with fail
      change Hid (Wi (wr.setCell ⟨g,k*24+23,none⟩ (.int .i64 v)).drew _ _ _ _ _ _ _ _ _ _/\_)at HR;generalize(wr.setCell ⟨g,k*24+23,none⟩ (.int .i64 v)).drew=W2 at HR ⊢;have xY:=Z5 HR.out.1;obtain⟨_,_,_,_,_,_,htY⟩:=xY.out.nd (A:= { A with tg:=tg++ [v] }) hlt;obtain⟨_,_,_,_,_,_,_,_,_,_,_,_,t12,_,_,_,_,_,_,_,_,_,_,t23⟩:=htY.all;dsimp only at t12 t23;rw[(Tv (A:=A) hl).2]at t23;rw[show(({ A with tg:=tg++ [v] } :Tr).nd (k:Int)).list=l from HV.out.2.2]at t12;obtain⟨iv2,hR2⟩:=xY.out.rw (A:= { A with tg:=tg++ [v] }) Z9H;have u1:=hR2.cell 1 _ rfl;rw[show(({ A with tg:=tg++ [v] } :Tr).rw (l:Int)).clause=cz from HV.out.2.1.symm]at u1;have y2:=xY.out.t.blk.cell 2 rfl;have ygr:=(xY.out.t.r.lt gr rfl).2;have ygl:=(xY.out.t.n.lt g rfl).2;have ypl:=xY.out.t.blk.lt;have xX:=xY.out.t.n;rw[show I0.length=A.ns.length from xY.out.Nt]at xX;have yfz:=World.ownsRow.frozenAt xX (k*24+23);have yF:Fr [79] lo W2 (W2.setCell ⟨g,k*24+23,none⟩ (.int .i64 (-1))):=(Fr.refl [79] lo W2).X9 _ _ (Zg xX (g:=g) rfl) (by simp) (xY.out.t.n.lt g rfl).1;have YF:=Z5 yF;clear yF xX hR2 htY d0 d12 vx z1 z2 r0 r1;by_cases hv:v= -1
      .subst hv
       go_quiet (fail)
       go_wp2_with fail
       go_ret;exact⟨false,rfl,HR.out.2.drewN _,fun h=>absurd h (by decide)⟩
      .by_cases hc:cz= -1
       .subst hc
        go_quiet (fail)
        go_wp2_with fail
        go_ret;exact⟨false,rfl,by first|exact(HR.out.2.trans YF.out).drewN _|exact HR.out.2.trans ((Fr.refl [79] lo W2).drewN _ |>.trans (by exact YF.out)),fun h=>absurd h (by decide)⟩
       .have hc':(cz== -1)=false:=by simpa using hc
        go_quiet (fail)
        go_wp2_with fail
        exact⟨⟨k+1,tg++ [v],I0,by simp,by omega,by simp[hl],HR.out.2.drewN _,HR.out.1.low (YE (ZN _ _) _),HA.out.more hl (fun h=>absurd (HK.out ▸ h) (by decide)) (fun h=>absurd (HK.out.trans h) (by decide)) (fun _=>⟨by rw[HV.out.2.2];exact HV.out.1,hv,by rw[HV.out.2.2,<-HV.out.2.1];exact hc⟩)⟩,by simp[intOf];omega⟩
     .have Z5z:kd≠17:=fun e=>h17 (.inl e);have Z5y:kd≠18:=fun e=>h17 (.inr e);go_wp2_with fail
      exact⟨⟨k+1,tg++ [-1],U3,by simp,by omega,by simp[hl],pT.out,Bh.out.Z9I Cn,HA.out.more hl (fun h=>absurd (HK.out ▸ h) h17) (fun h=>absurd (HK.out.trans h) h19) (fun h=>absurd (HK.out.trans h) h20)⟩,by simp[intOf];omega⟩
  .go_wp2_with fail
   go_ret;have:k=A.ns.length:=by omega
   subst this;exact⟨true,rfl,pT.out,fun _=>⟨tg,U3,M,HA.out⟩⟩
end
section
theorem xW: ∀ t:T,∀ n,t.Xc n<=300->t.Xc n=n+t.wt:=by
 intro t
 induction t with
 |nil=>intro n _;simp[T.Xc,T.wt]
 |st h b e c tl ih1 ih2 ih3 ih4=>
  intro n hn;simp only[T.Xc]at hn ⊢;split at hn
  .omega
  .next hc=>
   rw[if_neg hc];have g4:=ih4 (c.Xc (n+1+b.Xc 0+e.Xc 0)) hn;have g3:=ih3 (n+1+b.Xc 0+e.Xc 0) (by omega);have g1:=ih1 0 (by omega);have g2:=ih2 0 (by omega);simp only[T.wt];omega
 |cl x b tl ih1 ih2=>
  intro n hn;simp only[T.Xc]at hn ⊢;have g2:=ih2 _ hn;have g1:=ih1 0 (by omega);simp only[T.wt];omega
def NdL (x:Nd):Prop:=x.h.label.size<=140737488355328/\x.target= -1
theorem Ck: ∀ t:T,t.lim->(∀ N R n i a p,∀ x∈(t.rd.l N R n i a p).ns,NdL x)/\(∀ sw N0 N R n i j k,∀ x∈(t.rd.c sw N0 N R n i j k).ns,NdL x):=by
 intro t
 induction t with
 |nil=>intro _;exact⟨fun _ _ _ _ _ _ x hx=>by simp[T.rd,Out.none]at hx,fun _ _ _ _ _ _ _ _ x hx=>by simp[T.rd]at hx⟩
 |st h b e c tl ih1 ih2 ih3 ih4=>
  intro⟨k1,_,k3,k4,k5,k6⟩;refine⟨fun N R n i a p x hx=>?_,fun _ _ _ _ _ _ _ _ x hx=>by simp[T.rd]at hx⟩;simp only[T.rd,ZO,ZM]at hx;rcases hx with rfl|hx|hx|hx|hx
  .exact⟨k1,rfl⟩
  .split at hx
   .exact(ih1 k3).1 _ _ _ _ _ _ x hx
   .simp[Out.none]at hx
  .split at hx
   .exact(ih2 k4).1 _ _ _ _ _ _ x hx
   .simp[Out.none]at hx
  .exact(ih3 k5).2 _ _ _ _ _ _ _ _ x hx
  .exact(ih4 k6).1 _ _ _ _ _ _ x hx
 |cl y b tl ih1 ih2=>
  intro⟨k1,k2⟩;refine⟨fun _ _ _ _ _ _ x hx=>by simp[T.rd,Out.none]at hx,fun sw N0 N R n i j k x hx=>?_⟩;simp only[T.rd,ZM]at hx;rcases hx with hx|hx
  .exact(ih1 k1).1 _ _ _ _ _ _ x hx
  .exact(ih2 k2).2 _ _ _ _ _ _ _ _ x hx
theorem ri: ∀ t:T,t.lim->(∀ d L,(t.ct.l d L).1.lim)/\(∀ d L c,(t.ct.c d L).1=some c->c.lim):=by
 have z:T.zero.lim:=⟨by decide,by decide,trivial,trivial,trivial,trivial⟩
 intro t
 induction t with
 |nil=>intro _;exact⟨fun _ _=>trivial,fun _ _ c h=>by simp[T.ct]at h;subst h;trivial⟩
 |st h b e c tl ih1 ih2 ih3 ih4=>
  intro⟨k1,k2,k3,k4,k5,k6⟩;refine⟨fun d L=>?_,fun _ _ c h=>by simp[T.ct]at h⟩;simp only[T.ct];split
  .exact z
  .split
   .exact z
   .next c' hc=>exact⟨k1,k2,(ih1 k3).1 _ _,(ih2 k4).1 _ _,(ih3 k5).2 _ _ _ hc,(ih4 k6).1 _ _⟩
 |cl y b tl ih1 ih2=>
  intro⟨k1,k2⟩;refine⟨fun _ _=>trivial,fun d L c h=>?_⟩;simp only[T.ct]at h;split at h
  .cases h
  .simp only[ZX]at h;obtain⟨c',h1,rfl⟩:=h;exact⟨(ih1 k1).1 _ _,(ih2 k2).2 _ _ _ h1⟩
theorem Cj {t:T} (h:t.lim):(t.tr []).yi=(t.rd.l 0 1 0 0 0 0).ns:=by
 apply List.ext_getElem?;intro i;by_cases hi:i < (t.tr []).ns.length
 .rw[Ri hi];have h0:=Z9 hi;have h1:(t.rd.l 0 1 0 0 0 0).ns[i]? =some ((t.tr []).ns[i]):=h0;rw[h1,W8 h0];have h2:=((Ck t h).1 0 1 0 0 0 0 _ (ZY h1)).2;have h3:(t.tr []).tgt i= -1:=Tq (by simp[T.tr]);rw[h3,<-h2]
 .rw[Y6 (by rw[Pp];omega),Y6 (by show(t.tr []).ns.length<=i;omega)]
section
variable {w w':World} {lo p:Nat} {A:Tr} {num:Int} {rt:Bool} {lv nv rv:Value} {NR RR:List (List Value)}
theorem Wi.Ci (M:Wi w lo p A num rt lv nv rv NR RR) (b:Bool):Wi (w.setCell ⟨p,4,none⟩ (.bool b)) lo p A num b lv nv rv NR RR/\Fr [71] lo w (w.setCell ⟨p,4,none⟩ (.bool b)):=by
 have hF:Fr [71] lo w (w.setCell ⟨p,4,none⟩ (.bool b)):=(Fr.refl [71] lo w).X9 _ _ M.t.blk.ty (by simp) M.t.hB;exact⟨⟨⟨M.t.hB,M.t.blk.set 4 (.bool b),ZE hF M.t.l (by decide),ZE hF M.t.n (by decide),ZE hF M.t.r (by decide),M.t.nl,M.t.rl⟩,M.n.mono fun _ _ k=>k.fr hF (by simp) (by simp) (Z7 _),M.r.mono fun _ _ k=>k.fr hF (by simp) (Z7 _),M.b⟩,hF⟩
theorem Wi.read {W w':World} {t:T} {EC:Bool} (hl:t.lim) (hw:t.wt<=300) (hlo:lo<=W.heap.size)
  (h:TM w' lo p ([]++(t.rd.l 0 1 0 0 0 0).ls) ([]++NR) ([]++RR) num EC lv nv rv)
  (hn:YZ (Xt w' W.heap.size none) (t.rd.l 0 1 0 0 0 0).ns NR) (hr:YZ (W7 w' W.heap.size none) (⟨-1,-1,(t.rd.l 0 1 0 0 0 0).ids⟩::(t.rd.l 0 1 0 0 0 0).rs) RR):Wi w' lo p (t.tr []) num EC lv nv rv NR RR:=by
 have h1:=(QI t).1 0 1 0 0 0 0;refine⟨h,?_,?_,?_⟩
 .rw[Cj hl];exact hn.mono fun _ _ k=>k.fr (Fr.refl [] 0 w') (by simp) (by simp) hlo
 .exact hr.mono fun _ _ k=>k.fr (Fr.refl [] 0 w') (by simp) hlo
 .refine⟨?_,?_,?_⟩
  .show(t.rd.l 0 1 0 0 0 0).ls.length<=90000;omega
  .show(t.rd.l 0 1 0 0 0 0).ns.length<=90000;omega
  .show(_::(t.rd.l 0 1 0 0 0 0).rs:List Rw).length<=90000;simp;omega
end
def vv (w':World) (lo p:Nat) (t:T) (rt:Bool):Prop:=w'.cell? ⟨p,4,none⟩=some (.bool rt)/\lo<=p/\
 (rt=true->t.fA/\t.Xv true/\t.Xc 0<=300/\ ∃ tg num lv nv rv NR RR,Wi w' lo p (t.tr tg) num true lv nv rv NR RR/\Wn (t.tr tg)/\gm (t.tr tg))
theorem IP {t:T} {tg:List Int} (h1: ∀ i:Nat,i < (t.tr []).ns.length->0 < ((t.tr []).nd i).h.label.size->(t.tr []).Wo ((t.tr []).nd i).h.label=i) (h2:pU (t.tr tg) (t.tr tg).ns.length):Wn (t.tr tg)/\gm (t.tr tg):=by
 have key: ∀ (i:Nat) x,(t.tr tg).ns[i]? =some x->i < (t.tr tg).ns.length/\(t.tr tg).nd i=x:=fun i x hx=>⟨ZH hx,W8 hx⟩
 refine⟨⟨fun i x hx hs=>?_,fun i x hx hk=>?_,fun i x hx hk=>?_,fun i x hx hk=>?_⟩,⟨fun i x hx hk=>?_,fun i x hx hk=>?_,fun i x hx hk=>?_⟩⟩<;>obtain⟨hi,rfl⟩:=key i x hx<;>have h3:=h2 i hi
 .exact h1 i hi hs
 .obtain⟨a,b⟩:=h3.1 hk;rw[<-a];exact b
 .obtain⟨a,b⟩:=h3.2.1 hk;rw[<-a];exact b
 .obtain⟨a,b,c⟩:=h3.2.2 hk;exact⟨c,by rw[<-a];exact b⟩
 .exact(h3.1 hk).1
 .exact(h3.2.1 hk).1
 .exact(h3.2.2 hk).1
end
section
theorem Ch {t:T} (hlim:t.lim) {w:World} {v:Value} {bb o:Nat} (hs:Zi v bb o t.len) (ha:t.At (YB w w.heap.size) true bb o):Calls prog 63 #[v] w fun e w'=> ∃ p rt,e=.returned (.pointer (some ⟨p,0,none⟩))/\Below w.heap.size w w'/\vv w' w.heap.size p t rt:=by
 have HS:=Zl hs ha;obtain⟨⟨va,vn,vc,rfl⟩,_⟩:=Za hs;have hsrt:=Z5 ha.Xv;have Z9G:=Z5 (Fq t w _ bb o 0 0 rfl (by omega) hs ha);have HL:=Z5 hlim;clear hs ha hlim;go_enter func63,ntmps63;go_wp2_with fail
 refine Z9G.out.mono ?_;rintro e' w1 ⟨rfl,hb1⟩;have jq:=hb1.size;obtain⟨sm,hsm⟩: ∃ sm:Bool,sm=t.PS 0:=⟨_,rfl⟩
 rw[<-hsm];have Hsm:=Z5 hsm;clear hsm;cases sm with
 |false=>
  have HN:=Zl (ZD.new w1 [.slice none 0 0,.slice none 0 0,.slice none 0 0,.int .i64 0,false] 71) (hb1.alloc jq (.cells [.slice none 0 0,.slice none 0 0,.slice none 0 0,.int .i64 0,.bool false].toArray 71));go_wp2_with fail
  go_ret;exact⟨_,false,rfl,HN.out.2,HN.out.1.cell 4 rfl,jq,fun h=>absurd h (by decide)⟩
 |true=>
  have hwg:=I4 t w1 (.slice va vn vc) bb o HS.out.1 (HS.out.2.mono (YB.at hb1));obtain⟨wg,rh⟩: ∃ wg:Nat,wg=t.Xc 0:=⟨_,rfl⟩
  rw[<-rh]at hwg;have Hwg:=Z5 hwg;have rg:=Z5 rh;clear hwg rh;go_wp2_with fail
  refine Hwg.out.mono ?_;rintro e' w2 ⟨rfl,hb2⟩;have hb3:=VQ hb1 hb2;have LX:=hb3.size;by_cases Z9F:(wg:Int)<=300
  .have hwt:t.wt<=300:=by
    have:=xW t 0 (by rw[<-rg.out];omega);rw[<-rg.out]at this;omega
   have hTM:TM (w2.alloc (.cells [.slice none 0 0,.slice none 0 0,.slice none 0 0,.int .i64 0,.bool true].toArray 71)) w.heap.size w2.heap.size [] [] [] ((0:Nat):Int) true (.slice none 0 0) (.slice none 0 0) (.slice none 0 0):=
    ⟨LX,ZD.new w2 _ 71,Zs _ _ _ _,Zs _ _ _ _,Zs _ _ _ _,by simp,by simp⟩
   have hnw:=hb3.alloc LX (.cells [.slice none 0 0,.slice none 0 0,.slice none 0 0,.int .i64 0,.bool true].toArray 71);have HR:=Z5 (yr t _ _ _ 0 [] [] [] 0 true _ _ _ (.slice va vn vc) bb o (-1) (-1) hTM ⟨by simp,by simp,by simp,by omega⟩ (by omega) HS.out.1 (HS.out.2.mono (YB.below hnw)));have HN:=Z5 hnw;clear hTM hnw;go_wp2_with fail
   refine HR.out.mono ?_;rintro e' w4 ⟨rfl,lv,nv,rv,NR,RR,EC,k1,k2,k3,k4,_,_,_,_,k5⟩;have c4:=k1.blk.cell 4 rfl;have z4:=k1.blk.free 4;have hM:=Wi.read HL.out hwt (by simp;omega) k1 k2 k3;have HF:=X7 hM k5 (HN.out.trans k4.below);clear hM k1 k2 k3 k4 k5;cases EC with
   |false=>
    go_wp2_with fail
    go_ret;have h6:=HF.out.1.Ci false;exact⟨_,false,rfl,HF.out.2.2.trans h6.2.below,h6.1.t.blk.cell 4 rfl,LX,fun h=>absurd h (by decide)⟩
   |true=>
    have hcall:=E3 HF.out.1 fun i hi=>by
     have h0:=((Ck t HL.out).1 0 1 0 0 0 0 _ (ZY (Z9 hi))).1;rw[W8 (Z9 hi)];have:(140737488355328:Nat)<=9223372036854775807:=by decide
     exact ZC h0 this
    have HC:=Z5 hcall;clear hcall;go_wp2_with fail
    refine HC.out.mono ?_;rintro e' w5 ⟨r1,rfl,hr1,hb5⟩;have M5:=HF.out.1.low hb5;have c5:=M5.t.blk.cell 4 rfl;have z5:=M5.t.blk.free 4;have jo:Fr [71] w.heap.size w4 w5:=Fr.of_below hb5 (by have:=M5.t.hB;have:=HF.out.1.t.blk.lt;omega);have H5:=X7 M5 hr1 (HF.out.2.2.trans jo.below);clear M5 hr1 jo;cases r1 with
    |false=>
     go_wp2_with fail
     go_ret;have h6:=H5.out.1.Ci false;exact⟨_,false,rfl,H5.out.2.2.trans h6.2.below,h6.1.t.blk.cell 4 rfl,LX,fun h=>absurd h (by decide)⟩
    |true=>
     have hfA:t.fA:=(HF.out.2.1 (by simp)).2;have hcall:=E2 (A:=t.tr []) H5.out.1 fun tg=>CB (t:=t) (tg:=tg) hsrt.out hfA;have HC2:=Z5 hcall;have HfA:=Z5 hfA;clear hcall hfA;go_wp2_with fail
     refine HC2.out.mono ?_;rintro e' w6 ⟨r2,rfl,hf6,hr2⟩;have b6:=H5.out.1.t.blk.fr hf6 (by decide);have c6:=b6.cell 4 rfl;have z6:=b6.free 4;have hf7: ∀ b:Bool,Fr [71] w.heap.size w6 (w6.setCell ⟨w2.heap.size,4,none⟩ (.bool b)):=fun b=>(Fr.refl [71] _ w6).X9 _ _ b6.ty (by simp) LX;have H6:=Xp b6 hr2 (H5.out.2.2.trans hf6.below) hf7;clear b6 hr2 hf7;cases r2 with
     |false=>
      go_wp2_with fail
      go_ret;exact⟨_,false,rfl,H6.out.2.2.1.trans (H6.out.2.2.2 false).below,(H6.out.1.set 4 _).cell 4 rfl,LX,fun h=>absurd h (by decide)⟩
     |true=>
      go_wp2_with fail
      go_ret;obtain⟨tg,WF,M6,hA⟩:=H6.out.2.1 (by simp);have h6:=M6.Ci true;obtain⟨g1,g2⟩:=IP (t:=t) (tg:=tg) (H5.out.2.1 (by simp)) hA;exact⟨_,true,rfl,H6.out.2.2.1.trans (H6.out.2.2.2 true).below,h6.1.t.blk.cell 4 rfl,LX,fun _=>⟨HfA.out,hsrt.out,by rw[<-rg.out];omega,tg,_,_,_,_,_,_,h6.1,g1,g2⟩⟩
  .have e0:decide ((wg:Int)<=300)=false:=decide_eq_false Z9F;have HN:=Zl (ZD.new w2 [.slice none 0 0,.slice none 0 0,.slice none 0 0,.int .i64 0,.bool (decide ((wg:Int)<=300))] 71) (hb3.alloc LX (.cells [.slice none 0 0,.slice none 0 0,.slice none 0 0,.int .i64 0,.bool (decide ((wg:Int)<=300))].toArray 71));have E0:=Z5 e0;clear e0;go_wp2_with fail
   go_ret;exact⟨_,false,rfl,HN.out.2,(HN.out.1.cell 4 rfl).trans (by rw[E0.out]),LX,fun h=>absurd h (by decide)⟩
def jn (t:T) (W:World) (e:Ending) (w':World):Prop:= ∃ p rt lo,e=.returned (.pointer (some ⟨p,0,none⟩))/\Below W.heap.size W w'/\W.heap.size<=lo/\vv w' lo p t rt
theorem Cg {t:T} (hlim:t.lim) {w:World} {v:Value} (h:Src w t v):Calls prog 29 #[v] w (jn t w):=by
 obtain⟨bb,o,hs,ha⟩:=h.data;have hb1:Below w.heap.size w (w.alloc (.cells [.int .i64 500].toArray 63)):=(ZN _ _).alloc (Z7 _) _;have HC:=Z5 (yN t w.heap.size w.heap.size 500 1 1 _ v bb o rfl (Z7 _) (ZD.new w [.int .i64 500] 63) (by decide) (by decide) (by decide) (by decide) hs (ha.mono (YB.below hb1)));have HB:=Z5 hb1;have hsrt:=Z5 ha.Xv;have HL:=Z5 hlim;obtain⟨⟨va,vn,vc,rfl⟩,_⟩:=Za hs;clear hb1 hs ha h hlim;go_enter func29,ntmps29;go_wp2_with fail
 refine HC.out.mono ?_;rintro e' w2 ⟨v',rfl,⟨b',o',hs2,ha2⟩,_,hf2,_⟩;have hsz:w.heap.size+1<=w2.heap.size:=by have:=hf2.size;simpa using this
 have HS:=Z5 (Ch ((ri t HL.out).1 1 500) hs2 (ha2.mono fun b o v h=>⟨h.2.1,h.2.2.2⟩));have HF:=Z5 (HB.out.trans hf2.below);obtain⟨⟨ua,un,uc,rfl⟩,_⟩:=Za hs2;clear hs2 ha2 hf2;go_wp2_with fail
 refine HS.out.mono ?_;rintro e' w3 ⟨p,rt,rfl,hb3,hsp⟩;have HP:=Zl hb3 hsp;clear hb3 hsp;go_wp2_with fail
 go_ret;obtain⟨h1,h2,h3⟩:=HP.out.2;refine⟨p,rt,w2.heap.size,rfl,HF.out.trans (HP.out.1.mono (by omega)),by omega,h1,h2,fun hr=>?_⟩;have h4:=h3 hr;rw[(jG t).1 hsrt.out 1 500 (vz h4.1)]at h4;exact h4
end
end Go.Proofs.YteedbaejpdjilaaGreat
