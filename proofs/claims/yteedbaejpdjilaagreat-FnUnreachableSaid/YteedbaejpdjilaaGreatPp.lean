/- Part of the proof: BldZ BuiA BuiB BuiC. -/
import Derived.Test.YteedbaejpdjilaaGreatPi
import Derived.Test.YteedbaejpdjilaaGreatPl
import Derived.Test.YteedbaejpdjilaaGreatPm
import Derived.Test.YteedbaejpdjilaaGreatPn
import Derived.Test.YteedbaejpdjilaaGreatPo
import Derived.OwnWalk
import Derived.Laws.EntriesVeiled
import Derived.Deep.LoopGhost
import Derived.Deep.DeepCutAuto
set_option linter.unusedSimpArgs false
set_option linter.unusedVariables false
set_option maxRecDepth 100000
set_option maxHeartbeats 40000000
namespace Go.Proofs.YteedbaejpdjilaaGreat
open Go.RowKit
section
variable {w:World} {B b0:Nat} {A L:List Nat} {S S':BS} {tg:List Tg} {M:Mk}
theorem block_st {t:T} {n i a:Nat} {lb rb:Int} {vs:List Value} (h: ∀ lv,ListC M (fun H=>Arr H lv vs 96∧t.Ast H 0 n i vs) lv (t.bld.list n i)):
  StmtC M (fun H=>BlockAt H a lb rb vs∧t.Ast H 0 n i vs) (.iface 86 (.pointer (some ⟨a,0,none⟩))) (t.bld.list n i):=by
 intro w B b b0 A L S S' tg hX hp hs;exact stmt_wrap ⟨_,_,rfl⟩ fun Q hQ=>core_block (f:=none) hX rfl hp.1 (fun lv hlv=>h lv w B b b0 A L S S' tg hX ⟨hlv,hp.2⟩ hs) Q hQ
theorem grows_block {t:T} {a n i:Nat} {lb rb:Int} {vs:List Value} :Grows (fun H=>BlockAt H a lb rb vs∧t.Ast H 0 n i vs):=fun _ _ hH h=>⟨h.1.mono hH,h.2.mono hH⟩
def stC (h:Hd) (b e c:T) (n i:Nat) (lab:Option Nat) (tg:List Tg) (S:BS):Option BS:=
 coreR h n i lab tg (b.bld.list (n+h.own) (i+1)) (e.bld.list (n+h.own+b.lv false) (i+1+b.it))
  (fun done=>c.bld.sw (n+h.own+b.lv false+e.lv false) (i+1+b.it+e.it) tg done none none) (fun done=>c.bld.ty (n+h.own+b.lv false+e.lv false) (i+1+b.it+e.it) tg done none)
  (fun done=>c.bld.sel (n+h.own+b.lv false+e.lv false) (i+1+b.it+e.it) tg done none) c.bld.comms S
def stR (h:Hd) (b e c:T) (n i:Nat):Lr:=fun tg=>labR h.label (fun lab=>stC h b e c n i lab tg)
def CoreT (H:Hp) (h:Hd) (b e c:T) (n i:Nat) (u:Value):Prop:=CoreAt H h n i (b.Ast H 0 (n+h.own) (i+1)) (e.Ast H 0 (n+h.own+b.lv false) (i+1+b.it)) (fun m'=>c.Ast H m' (n+h.own+b.lv false+e.lv false) (i+1+b.it+e.it)) u
theorem CoreT.iface {H:Hp} {h:Hd} {b e c:T} {n i:Nat} {u:Value} (hu:CoreT H h b e c n i u): ∃ t p,u=.iface t p:=by
 rcases hu with⟨_,a,c,rfl,_⟩ |⟨_,a,l,x,r,rfl,_⟩ |⟨_,a,x,rfl,_⟩ |⟨_,a,x,y,rfl,_⟩ |⟨_,a,c,rfl,_⟩ |⟨_,a,c,rfl,_⟩ |⟨_,a,g,l,x,rfl,_⟩ |⟨_,a,rfl,_⟩ |⟨_,a,iv,cv,bb,vs,ev,rfl,_⟩ |⟨_,a,iv,cv,pv,bb,vs,rfl,_⟩ |⟨_,a,cv,bb,vs,rfl,_⟩ |
  ⟨_,a,iv,cv,bb,vs,rfl,_⟩ |⟨_,a,iv,gv,bb,vs,rfl,_⟩ |⟨_,a,bb,vs,rfl,_⟩ |⟨_,a,vs,rfl,_⟩ |⟨_,a,lv,rfl,_⟩ |⟨_,a,lv,rfl,_⟩ |⟨_,a,lv,rfl,_⟩ |⟨_,a,lv,rfl,_⟩ |⟨_,a,rfl,_⟩<;>exact⟨_,_,rfl⟩
theorem CoreT.mono {H H':Hp} (hH: ∀ b cs t,H b cs t->H' b cs t) {h:Hd} {b e c:T} {n i:Nat} {u:Value} (hu:CoreT H h b e c n i u):CoreT H' h b e c n i u:=
 CoreAt.mono hH (fun _ k=>k.mono hH) (fun _ k=>k.mono hH) (fun _ _ k=>k.mono hH) hu
theorem core_any {f:Fro} {lab:Option Nat} {bq:Nat} (hX:BX w B bq b0 A L S tg M) (hlab:LabV L (frl f) lab) {h:Hd} {b e c:T} {n i:Nat} {u:Value} (hb:BL M b) (he:BL M e) (hc:c.All (BL M)) (hf:Fm h b e c) (bo:b.ok) (eo:e.ok) (co:c.ok)
  (fit:Fit M n (h.stop++b.stops false++e.stops false++c.stops (h.kind==13))) (hM:M.asked.length<=1000) (hu:CoreT (Hv w 0) h b e c n i u) (hs:stC h b e c n i lab tg S=some S')
  (Q:Exit->Act->World->Prop) (hQ: ∀ a w',a.defers= []->Aft w w' B bq b0 A L S' tg M->Q .normal a w'):Code.wp Tryz.prog restC Q ⟨frM f bq u,[]⟩ w:=by
 have fs:Fit M n h.stop:=fit.left.left.left;have fb:Fit M (n+h.own) (b.stops false):=fit.left.left.right hf.stop_len;have fe:Fit M (n+h.own+b.lv false) (e.stops false):=by
  have:=fit.left.right (k:=h.own+b.lv false) (by simp[hf.stop_len,T.stops_len bo]);rwa [<-Nat.add_assoc]at this
 have fc:Fit M (n+h.own+b.lv false+e.lv false) (c.stops (h.kind==13)):=by
  have:=fit.right (k:=h.own+b.lv false+e.lv false) (by simp[hf.stop_len,T.stops_len bo,T.stops_len eo,Nat.add_assoc]);rwa [<-Nat.add_assoc,<-Nat.add_assoc]at this
 clear fit;obtain⟨hbL,hbS⟩:=hb bo _ (i+1) fb;obtain⟨heL,heS⟩:=he eo _ (i+1+b.it) fe;unfold stC at hs
 rcases hu with⟨hk,hu⟩ |⟨hk,hu⟩ |⟨hk,hu⟩ |⟨hk,hu⟩ |⟨hk,hu⟩ |⟨hk,hu⟩ |⟨hk,hu⟩ |⟨hk,hu⟩ |⟨hk,a,iv,cv,bb,vs,ev,hu,h1,h2,h3,h4,h5,h6⟩ |⟨hk,a,iv,cv,pv,bb,vs,hu,h1,h2,h3,h4,h5,h6⟩ |⟨hk,a,cv,bb,vs,hu,h1,h2,h3,h4⟩ |
  ⟨hk,a,iv,cv,bb,vs,hu,h1,h2,h3,h4,h5⟩ |⟨hk,a,iv,gv,bb,vs,hu,h1,h2,h3,h4,h5⟩ |⟨hk,a,bb,vs,hu,h1,h2,h3⟩ |⟨hk,a,vs,hu,h1,h2⟩ |⟨hk,hu⟩ |⟨hk,hu⟩ |⟨hk,hu⟩ |⟨hk,hu⟩ |⟨hk,hu⟩
 ·rcases hk with hk|hk
  ·have own:1<=h.own:=by simp[Hd.own,hk];omega
   have hst:M.stops[n]? =some false:=by
    have:=fs 0 false (by unfold Hd.stop;rw[if_neg (by omega),List.getElem?_replicate,if_pos (by omega)]);simpa using this
   exact core_call hX hu hst hM (by simpa [coreR,hk]using hs) Q hQ
  ·have hst:M.stops[n]? =some true:=by
    have:=fs 0 true (by simp[Hd.stop,hk]);simpa using this
   exact core_stop hX hu hst hM (by simpa [coreR,hk]using hs) Q hQ
 ·exact core_assign hX hu (by simpa [coreR,hk]using hs) Q hQ
 ·exact core_inc hX hu (by simpa [coreR,hk]using hs) Q hQ
 ·exact core_send hX hu (by simpa [coreR,hk]using hs) Q hQ
 ·exact core_go hX hu (by simpa [coreR,hk]using hs) Q hQ
 ·exact core_defer hX hu (by simpa [coreR,hk]using hs) Q hQ
 ·exact core_var hX hu (by simpa [coreR,hk]using hs) Q hQ
 ·exact core_return hX hu (by simpa [coreR,hk]using hs) Q hQ
 ·replace hs:ifR h n i tg (b.bld.list (n+h.own) (i+1)) (e.bld.list (n+h.own+b.lv false) (i+1+b.it)) S=some S':=by simpa [coreR,hk]using hs
  have hBS:=block_st (a:=bb) (lb:=0) (rb:=0) (hbL vs);refine core_if hX hu h1 h2 h3 grows_block ⟨h4,h5⟩ hBS ?_ hs Q hQ;rcases h6 with⟨hel,rfl⟩ |⟨hel,hch,hE⟩ |⟨hel,hch,eb,es,rfl,h7,h8⟩
  ·exact .inl ⟨hel,rfl⟩
  ·obtain⟨ev',hev,tt,pp,rfl⟩:=chain_one hf hch hE;obtain rfl:ev=.iface tt pp:=by simpa using hev
   exact .inr ⟨hel,_,grows_ast (t:=e),hE,⟨_,_,rfl⟩,heS _⟩
  ·exact .inr ⟨hel,_,grows_block (t:=e),⟨h7,h8⟩,⟨_,_,rfl⟩,block_st (heL es)⟩
 ·replace hs:forR h n i lab tg (b.bld.list (n+h.own) (i+1)) S=some S':=by simpa [coreR,hk]using hs
  have hBS:=block_st (a:=bb) (lb:=0) (rb:=0) (hbL vs);exact core_to106 hu (for_any hX hlab h1 h2 h3 h4 grows_block ⟨h5,h6⟩ hBS hs) Q hQ
 ·replace hs:rangeR n i lab tg (b.bld.list (n+h.own) (i+1)) S=some S':=by simpa [coreR,hk]using hs
  have hBS:=block_st (a:=bb) (lb:=0) (rb:=0) (hbL vs);exact core_to107 hu (range_any hX hlab h1 h2 grows_block ⟨h3,h4⟩ hBS hs) Q hQ
 ·have hk13:(h.kind==13)=true:=by simp[hk]
  rw[hk13]at fc;exact core_to103 hu (switch_any hX hlab h1 h2 h3 h4 h5 co hc fc (by simpa [coreR,hk]using hs)) Q hQ
 ·have hk13:(h.kind==13)=false:=by simp[hk]
  rw[hk13]at fc;exact core_to104 hu (types_any hX hlab h1 h2 h3 h4 h5 co hc fc (by simpa [coreR,hk]using hs)) Q hQ
 ·have hk13:(h.kind==13)=false:=by simp[hk]
  rw[hk13]at fc;exact core_to105 hu (select_any hX hlab h1 h2 h3 co hc fc (by simpa [coreR,hk]using hs)) Q hQ
 ·exact core_block hX hu h1 (fun lv hlv=>hbL vs lv w B bq b0 A L S S' tg hX ⟨hlv,h2⟩ (by simpa [coreR,hk]using hs)) Q hQ
 ·obtain⟨a,lv,hu,ha,hlv⟩:=hu;have hs':S.branchP 17 h.target tg=some S':=by simpa [coreR,hk]using hs
  rcases hlv with⟨hz,rfl⟩ |⟨hz,hlv⟩
  ·exact core_to100 hu (branch_no_brk hX hz ha hs') Q hQ
  ·exact core_to100 hu (branch_lab_brk hX hz hlv ha hs') Q hQ
 ·obtain⟨a,lv,hu,ha,hlv⟩:=hu;have hs':S.branchP 18 h.target tg=some S':=by simpa [coreR,hk]using hs
  rcases hlv with⟨hz,rfl⟩ |⟨hz,hlv⟩
  ·exact core_to100 hu (branch_no_cnt hX hz ha hs') Q hQ
  ·exact core_to100 hu (branch_lab_cnt hX hz hlv ha hs') Q hQ
 ·obtain⟨a,lv,hu,ha,hlv⟩:=hu;have hs':S.branchP 19 h.target tg=some S':=by simpa [coreR,hk]using hs
  have hz:=hf.gt hk;rcases hlv with⟨hz',rfl⟩ |⟨hz,hlv⟩
  ·omega
  ·exact core_to100 hu (branch_lab_go hX hz hlv ha hs') Q hQ
 ·obtain⟨a,lv,hu,ha,hlv⟩:=hu;have hs':S.branchP 20 h.target tg=some S':=by simpa [coreR,hk]using hs
  have hz:h.target.size=0:=by
   rcases Nat.eq_zero_or_pos h.target.size with h0|h0
   ·exact h0
   ·have:=hf.tg h0;omega
  rcases hlv with⟨hz',rfl⟩ |⟨hz',hlv⟩
  ·exact core_to100 hu (branch_no_fal hX hz ha hs') Q hQ
  ·exact absurd hz' (by decide)
 ·exact core_empty hX hu (by simpa [coreR,hk]using hs) Q hQ
end
section
attribute [local go_sem] tano158 tano159 tano160 tano161 tano162 tano163 tano164 tano165 tano171 tayes186
variable {w:World} {B b b0:Nat} {A L:List Nat} {S S':BS} {tg:List Tg} {M:Mk}
theorem skip_seq {P:Program} {c:Code} {Q:Exit->Act->World->Prop} {a:Act} {w:World} (h:c.wp P Q a w):(Code.skip.seq c).wp P Q a w:=wp_seq (wp_skip h)
theorem labeled_any (h:BX w B b b0 A L S tg M) {a:Nat} {lv u:Value} {s:ByteArray} (ha:Hv w 0 a [lv,.int .i64 0,u] 190) (hlv:LabAt (Hv w 0) lv s) {r:Nat × BS} (hs:S.labP s true=some r) {y:ByteArray × Lb} (hy:r.2.labs[r.1]? =some y) {S2:BS} (h2:r.2.jumpP y.2.go=some S2)
  (hu: ∃ tt pp,u=.iface tt pp) {P:Hp->Prop} (hP:Grows P) (hp:P (Hv w 0))
  (hcore: ∀ (w1:World) (A1 L1:List Nat) (la l ga:Nat),BX w1 B b b0 A1 L1 (S2.at y.2.go) tg M->L1[r.1]? =some l->P (Hv w1 0)-> ∀ Q:Exit->Act->World->Prop,(∀ a' w',a'.defers= []->Aft w1 w' B b b0 A1 L1 S' tg M->Q .normal a' w')->Code.wp Tryz.prog restC Q ⟨fr1 b a l ga la u,[]⟩ w1):
  Calls Tryz.prog 85 #[b,.iface 186 (.pointer (some ⟨a,0,none⟩))] w fun e w'=>e=.returned (.tuple #[])∧Aft w w' B b b0 A L S' tg M:=by
 obtain⟨tt,pp,rfl⟩:=hu;have hlv':=hlv;obtain⟨la,lo,rfl,_⟩:=hlv;have c0:=ha.2.2.cell 0 rfl;have c2:=ha.2.2.cell 2 rfl;have Hcore:=hidf hcore;clear hcore;go_enter Tryz.func85,Tryz.ntmps85;go_wp2_with fail
 refine wp_scope_jumps 0 (fun a' w'=> ∃ (A1 L1:List Nat) (l ga:Nat),a'=⟨fr1 b a l ga la (.iface tt pp),[]⟩∧A <+:A1∧L <+:L1∧BX w' B b b0 A1 L1 (S2.at y.2.go) tg M∧L1[r.1]? =some l∧Fr bT B w w') (fun _ _=>0) rfl ?_ ?_
 ·go_wp2_with fail
  go_step3
  have Hq:=hid3 hs hy h2;clear hs hy h2;go_wp2_with fail
  refine(lab_set_st h Hq.out.1 hlv' ha hlv').mono ?_;rintro e w1 ⟨l,rfl,A1,L1,hA1,hL1,hl1,hC,f1⟩;obtain⟨hs,hy,h2⟩:=Hq.out;clear Hq;obtain⟨gv,bv,cv,hbl,⟨ga,hga,rfl⟩,_,_⟩:=hC.lab hl1 hy;have d1:=hbl.cell 0 rfl;have haC:=hv_fr f1 ha;have HX:=hid2 hA1 hL1;have HG:=hid4 hga hs hy h2;have HF:=hid2 hl1 f1;clear hl1 hA1 hL1 f1 c0 c2 hga hs hy h2;go_wp2_with fail
  refine(jump_st hC HG.out.2.2.2 HG.out.1).mono ?_;rintro e w2 ⟨rfl,hJ,fJ⟩;have hlabs:S2.labs=r.2.labs:=by
   obtain⟨c,k,_,_,_,_,rfl⟩:=jumpP_some HG.out.2.2.2;rfl
  obtain⟨gv,bv,cv,hbl2,⟨ga',hga',rfl⟩,_,_⟩:=hJ.lab HF.out.1 (show S2.labs[r.1]? =some y from by rw[hlabs];exact HG.out.2.2.1);obtain rfl:ga'=ga:=by
   have:=HG.out.1;rw[this]at hga';exact(Option.some.inj hga').symm
  have d2:=hbl2.cell 0 rfl;have haJ:=hv_fr fJ haC;have c2:=haJ.2.2.cell 2 rfl;obtain⟨bvN,cvN,mvN,tvN,hbN,_,_⟩:=hJ.blk;have c3:=hbN.cell 2 rfl;have c3f:=hbN.free 2;obtain⟨hK,fK⟩:=hJ.setCur hga';have haK:=hv_fr fK haJ;have c2':=haK.2.2.cell 2 rfl;clear d1 hga' hlabs;go_wp2_with fail
  go_step3
  exact⟨rfl,A1,L1,l,ga',rfl,HX.out.1,HX.out.2,hK,HF.out.1,HF.out.2.trans (fJ.trans fK)⟩
 ·rintro a' w1 ⟨A1,L1,l,ga,rfl,hA1,hL1,hK,hl,f1⟩;refine skip_seq ?_;have key:=Hcore.out w1 A1 L1 la l ga hK hl (hP _ _ (Hv.bT f1) hp);unfold fr1 at key ⊢;conv at key=>enter [Q,h];arg 2;whnf
  refine key _ ?_;rintro a2 w2 hd ⟨A2,L2,hA2,hL2,h2',f2⟩;exact(show bodyPost Tryz.prog Tryz.f85 (fun e w'=>e=.returned (.tuple #[])∧Aft w w' B b b0 A L S' tg M) .normal a2 w2 from bodyPost_end (v:=.tuple #[]) (results_none rfl _ _ _) hd ⟨rfl,A2,L2,pre_trans hA1 hA2,pre_trans hL1 hL2,h2',f1.trans f2⟩)
def StT (H:Hp) (h:Hd) (b e c:T) (n i:Nat) (v:Value):Prop:=LabeledAt H h.label (CoreT H h b e c n i) v
theorem StT.mono {H H':Hp} (hH: ∀ b cs t,H b cs t->H' b cs t) {h:Hd} {b e c:T} {n i:Nat} {v:Value} (hv:StT H h b e c n i v):StT H' h b e c n i v:=
 LabeledAt.mono hH (fun _ k=>CoreT.mono hH k) hv
theorem one_any {h:Hd} {b e c:T} (hb:BL M b) (he:BL M e) (hc:c.All (BL M)) (hf:Fm h b e c) (bo:b.ok) (eo:e.ok) (co:c.ok) {n i:Nat} (fit:Fit M n (h.stop++b.stops false++e.stops false++c.stops (h.kind==13))) (hM:M.asked.length<=1000) (v:Value):
  StmtC M (fun H=>StT H h b e c n i v) v (stR h b e c n i):=by
 intro w B bq b0 A L S S' tg hX hv hs;unfold stR labR at hs;rcases hv with⟨hz,hu⟩ |⟨hz,a,lv,u,rfl,ha,hlv,hu⟩
 ·rw[if_pos hz]at hs;exact stmt_wrap hu.iface fun Q hQ=>core_any (f:=none) hX (.inl ⟨rfl,rfl⟩) hb he hc hf bo eo co fit hM hu hs Q hQ
 ·rw[if_neg (by omega)]at hs;simp only[Option.bind_eq_some_iff]at hs;obtain⟨r,h1,y,h2,S2,h3,h4⟩:=hs;exact labeled_any hX ha hlv h1 h2 h3 hu.iface (P:=fun H=>CoreT H h b e c n i u) (fun _ _ hH k=>CoreT.mono hH k) hu (fun w1 A1 L1 la l ga h5 h6 h7 Q hQ=>core_any (f:=some (_,_,_,_)) h5 (.inr ⟨_,_,rfl,rfl,h6⟩) hb he hc hf bo eo co fit hM h7 h4 Q hQ)
def LsRel (M:Mk) (w:World) (B b b0:Nat) (A L:List Nat) (tg:List Tg) (t:T) (vs:List Value) (S':BS) (ix:Value) (wr:World):Prop:=
 ∃ (k:Nat) (rest:T) (n i:Nat) (A1 L1:List Nat) (S1:BS),ix=.int .i64 k∧k+rest.len=t.len∧rest.All (BL M)∧rest.ok∧Fit M n (rest.stops false)∧A <+:A1∧L <+:L1∧
  BX wr B b b0 A1 L1 S1 tg M∧Fr bT B w wr∧rest.Ast (Hv wr 0) 0 n i (vs.drop k)∧rest.bld.list n i tg S1=some S'
theorem bld_st {h:Hd} {b e c tl:T} {n i:Nat} {tg:List Tg} {S:BS} :(T.st h b e c tl).bld.list n i tg S=(stR h b e c n i tg S).bind fun S1=>tl.bld.list (n+h.own+b.lv false+e.lv false+c.lv (h.kind==13)) (i+1+b.it+e.it+c.it) tg S1:=rfl
theorem fit_st {h:Hd} {b e c tl:T} {n:Nat} (hf:Fm h b e c) (bo:b.ok) (eo:e.ok) (co:c.ok) (fit:Fit M n ((T.st h b e c tl).stops false)):
  Fit M n (h.stop++b.stops false++e.stops false++c.stops (h.kind==13))∧Fit M (n+h.own+b.lv false+e.lv false+c.lv (h.kind==13)) (tl.stops false):=by
 simp only[T.stops]at fit;refine⟨fit.left,?_⟩;have:=fit.right (k:=h.own+b.lv false+e.lv false+c.lv (h.kind==13)) (by simp[hf.stop_len,T.stops_len bo,T.stops_len eo,T.stops_len co,Nat.add_assoc]);simpa [Nat.add_assoc]using this
theorem list_st (hM:M.asked.length<=1000) (t:T) (hall:t.All (BL M)) (hok:t.ok) (n i:Nat) (hfit:Fit M n (t.stops false)) (vs:List Value) (lv:Value):ListC M (fun H=>Arr H lv vs 96∧t.Ast H 0 n i vs) lv (t.bld.list n i):=by
 intro w B b b0 A L S S' tg hX ⟨harr,hast⟩ hs;have hlen:=Ast_len hast;obtain⟨la,lcap,rfl⟩: ∃ la lcap,lv=.slice la vs.length lcap:=by
  rcases harr with⟨rfl,rfl⟩ |⟨g,cap,rest,h1,h2,h3,rfl,h4⟩
  ·exact⟨_,_,rfl⟩
  ·exact⟨_,_,rfl⟩
 have hvl:vs.length<=2000000:=by
  rcases harr with⟨rfl,_⟩ |⟨g,cap,rest,h1,h2,h3,_,h4⟩
  ·simp
  ·exact h3
 have HG:=hid2 hs hlen;clear hs hlen;have HC:=hid4 hast hok hall hfit;clear hast hok hall hfit;go_enter Tryz.func101,Tryz.ntmps101;go_wp2_with fail
 go_loopw [8] (fun ix wr=>LsRel M w B b b0 A L tg t vs S' ix wr) (fun ix _=>vs.length -(intOf ix).toNat)
 case atStart=>exact⟨0,t,n,i,A,L,S,rfl,by simp,HC.out.2.2.1,HC.out.2.1,HC.out.2.2.2,pre_refl _,pre_refl _,hX,Fr.refl _ _ _,by simpa using HC.out.1,HG.out.1⟩
 case round=>
  obtain⟨k,rest,n1,i1,A1,L1,S1,rfl,hlen',hall',hok',hfit',hA1,hL1,h1,f1,hast,hbld⟩:=hrel;have hlen:=HG.out.2;cases rest with
  |cl x bd tl=>
   obtain⟨v,vs',_,hcl,_⟩:=hast;rcases hcl with⟨hm,_⟩ |⟨hm,_⟩ |⟨hm,_⟩<;>omega
  |nil=>
   have hk: ¬ k < vs.length:=by rw[hlen];simp[T.len]at hlen';omega
   have hbld:S1=S':=by simpa [T.bld]using hbld
   subst hbld;have P1:=hid2 hA1 hL1;clear hlen hlen' hA1 hL1 hast;go_wp2_with fail
   go_end0
   exact⟨rfl,Aft.of P1.out.1 P1.out.2 h1 f1⟩
  |st hd b1 e1 c1 tl=>
   have hk:k < vs.length:=by rw[hlen];simp[T.len]at hlen';omega
   obtain⟨_,v,vs',hdrop,hst,htl⟩:=hast;obtain⟨hvk,hdrop'⟩:=drop_cons hdrop;obtain⟨ga,gcap,hlv,hcell0⟩:=(harr.mono (Hv.bT f1)).cell hvk;obtain rfl:la=some ⟨ga,0,none⟩:=by simp at hlv;exact hlv.1
   obtain⟨q1,q2,q3,q4⟩:=hall';obtain⟨p0,p1,p2,p3,p4⟩:=hok';obtain⟨hfs,hft⟩:=fit_st p0 p1 p2 p3 hfit';have hone:=one_any q1 q2 q3 p0 p1 p2 p3 (n:=n1) (i:=i1) hfs hM v;rw[bld_st,Option.bind_eq_some_iff]at hbld;obtain⟨S2,g2,g3⟩:=hbld;have htl':tl.Ast (Hv wr 0) 0 (n1+hd.own+b1.lv false+e1.lv false+c1.lv (hd.kind==13)) (i1+1+b1.it+e1.it+c1.it) (vs.drop (k+1)):=by rw[hdrop'];exact htl
   have hv1:StT (Hv wr 0) hd b1 e1 c1 n1 i1 v:=hst;obtain⟨tv,pv,rfl⟩: ∃ tv pv,v=.iface tv pv:=by
    rcases hst with⟨_,hu⟩ |⟨_,a,lv,u,rfl,_⟩
    ·exact CoreT.iface hu
    ·exact⟨_,_,rfl⟩
   have HQ:=hid5 hA1 hL1 hlen' g2 g3;have HO:=hidf hone;clear hlv hlen hlen' hA1 hL1 g2 g3 hvk hdrop hdrop' htl hone hst hfit' hfs;go_wp2_with fail
   refine(HO.out _ _ _ _ _ _ _ _ _ h1 hv1 HQ.out.2.2.2.1).mono ?_;rintro e w3 ⟨rfl,A3,L3,hA3,hL3,h3,f3⟩
   have hR:LsRel M w B b b0 A L tg t vs S' (.int .i64 ((k:Int)+1)) w3:=
    ⟨k+1,tl,_,_,A3,L3,S2,by simp,by have:=HQ.out.2.2.1;simp[T.len]at this;omega,q4,p4,hft,pre_trans HQ.out.1 hA3,pre_trans HQ.out.2.1 hL3,h3,f1.trans f3,htl'.mono (Hv.bT f3),HQ.out.2.2.2.2⟩
   have HR:=hidf hR;clear hR hA3 hL3;go_wp2_with fail
   exact⟨HR.out,by simp[intOf];omega⟩
theorem build_all (hM:M.asked.length<=1000): ∀ t:T,BL M t:=T.rec_all fun t hall hok n i hfit=>by
 refine⟨list_st hM t hall hok n i hfit,fun v=>?_⟩;cases t with
 |nil=>intro w B b b0 A L S S' tg hX hast hs;cases(show [v]= []from hast)
 |cl x bd tl=>
  intro w B b b0 A L S S' tg hX hast hs;obtain⟨v,vs',_,hcl,_⟩:=hast;rcases hcl with⟨hm,_⟩ |⟨hm,_⟩ |⟨hm,_⟩<;>omega
 |st hd b1 e1 c1 tl=>
  intro w B b b0 A L S S' tg hX hast hs;obtain⟨_,v',vs',hv,hst,htl⟩:=hast;cases hv;obtain⟨q1,q2,q3,q4⟩:=hall;obtain⟨p0,p1,p2,p3,p4⟩:=hok;obtain⟨hfs,hft⟩:=fit_st p0 p1 p2 p3 hfit;have hnil:tl=.nil:=by
   cases tl with
   |nil=>rfl
   |st=>obtain⟨_,v,vs',hv,_⟩:=htl;cases hv
   |cl=>obtain⟨v,vs',hv,_⟩:=htl;cases hv
  subst hnil;rw[bld_st,Option.bind_eq_some_iff]at hs;obtain⟨S2,g2,g3⟩:=hs;have:S2=S':=by simpa [T.bld]using g3
  subst this;exact one_any q1 q2 q3 p0 p1 p2 p3 hfs hM v w B b b0 A L S S2 tg hX hst g2
end
section
variable {w w':World} {B b b0:Nat} {A L:List Nat} {S S':BS} {tg:List Tg} {M:Mk}
inductive Reach (bks:List Bk):Nat->Prop
 |zero:Reach bks 0
 |step {i s:Nat} {k:Bk} :Reach bks i->bks[i]? =some k->s∈k.succs->Reach bks s
def BS.lived (S:BS) (f:Nat->Bool):BS:= { S with bks:=S.bks.mapIdx fun i k=> { k with live:=f i } }
theorem lived_get {f:Nat->Bool} {i:Nat} {k:Bk} (h:S.bks[i]? =some k):(S.lived f).bks[i]? =some { k with live:=f i } :=by
 simp[BS.lived,h]
theorem lived_get' {f:Nat->Bool} {i:Nat} {k:Bk} (h:(S.lived f).bks[i]? =some k): ∃ k0,S.bks[i]? =some k0∧k= { k0 with live:=f i } :=by
 simp only[BS.lived,List.getElem?_mapIdx,Option.map_eq_some_iff]at h;obtain⟨k0,h1,rfl⟩:=h;exact⟨k0,h1,rfl⟩
theorem lived_none (h: ∀ k∈S.bks,k.live=false):S.lived (fun _=>false)=S:=by
 unfold BS.lived;have:(S.bks.mapIdx fun _ k=>({ k with live:=false } :Bk))=S.bks:=by
  apply List.ext_getElem?;intro i;simp only[List.getElem?_mapIdx];cases hk:S.bks[i]? with
  |none=>rfl
  |some k=>
   have:=h k (List.mem_of_getElem? hk);cases k;simp at this;subst this;rfl
 rw[this]
theorem lived_len {f:Nat->Bool} :(S.lived f).bks.length=S.bks.length:=by simp[BS.lived]
theorem BX.setLive {f:Nat->Bool} (h:BX w B b b0 A L (S.lived f) tg M) {c a:Nat} {k:Bk} (hk:S.bks[c]? =some k) (ha:A[c]? =some a):
  BX (w.setCell ⟨a,3,none⟩ (.bool true)) B b b0 A L (S.lived fun i=>f i||i==c) tg M∧Fr bT B w (w.setCell ⟨a,3,none⟩ (.bool true)):=by
 obtain⟨NV,h⟩:=h;have hk':=lived_get (f:=f) hk;have hlt:=(List.getElem?_eq_some_iff.1 hk').1;have hln:c < NV.length:=by have:=h.lenN;omega
 have hnv:NV[c]? =some NV[c]:=List.getElem?_eq_getElem hln;obtain⟨a',sv,p0,p1,ns,g1,g2,g3,g4,g5,g6,g7,g8,g9⟩:=h.bks c _ _ hk' hnv;rw[ha]at g1;cases g1;have hBa:=h.base a (List.mem_of_getElem? ha);have f2:Fr bT B w (w.setCell ⟨a,3,none⟩ (.bool true)):=(Fr.refl _ _ _).setT _ _ g2.ty (by decide) hBa;have o2:Only [a] w (w.setCell ⟨a,3,none⟩ (.bool true)):=(Only.refl _ _).set _ _ (.inl (by simp))
 have hU:=h.upd (nv':=NV[c]) ha hnv o2 f2 (fun x hx=>.inl (by simpa using hx)) (k':= { k with live:=true })
  ⟨a,sv,p0,p1,ns,ha,g2.set 3 (.bool true),own_only o2 g3 (fun x hx hc=>TyAt.ne (h.tyN _ (List.mem_of_getElem? hnv) x hx) g2.ty (by decide) (by simpa using hc)),g4,fun j v n e1 e2=>(g5 j v n e1 e2).mono (Hv.bT f2),g6.mono (Hv.bT f2),g7,g8,g9⟩ (fun x hx=>.inl hx)
 have eN:NV.set c NV[c]=NV:=by simp
 rw[eN]at hU;have eS:(S.lived f).set c { k with live:=true } =S.lived fun i=>f i||i==c:=by
  unfold BS.set BS.lived;simp only[BS.mk.injEq,and_true];apply List.ext_getElem?;intro i;by_cases hi:c=i
  ·subst hi;have hc:c < S.bks.length:=by simpa [BS.lived]using hlt
   rw[List.getElem?_set_self (by simpa using hc)];simp[hk]
  ·rw[List.getElem?_set_ne hi];simp only[List.getElem?_mapIdx];cases S.bks[i]? with
   |none=>rfl
   |some k2=>simp[show(i==c)=false by simp;omega]
 rw[eS]at hU;exact⟨⟨NV,hU⟩,f2⟩
theorem BX.keep (h:BX w B b b0 A L S tg M) {X:List Nat} (ho:Only X w w') (hf:Fr bT B w w') {bv mk cv mv tv:Value} (hb:Blk w b [bv,mk,cv,mv,tv] 136) (hX: ∀ x∈X,TyAt w x 92∧bv.ownBlock≠some x):BX w' B b b0 A L S tg M:=by
 obtain⟨NV,h⟩:=h;have nX: ∀ x t,TyAt w x t->t≠92->x∉X:=by
  intro x t hx h1 hc;exact TyAt.ne hx (hX x hc).1 h1 rfl
 have hA:A <+:A:=⟨[],by simp⟩
 obtain⟨bv',cv',mv',tv',hb',hbv,hcv,hlv,htv⟩:=h.self;obtain⟨he,_⟩:=hb.inj hb';obtain rfl:bv=bv':=by simp at he;exact he.1
 have hbX: ∀ k,bv.ownBlock=some k->k∉X:=by
  intro k hk hc;exact(hX k hc).2 hk
 obtain⟨sv,lv,av,ps,hB2,hm,hsv,hlvm,hps,hn,hav⟩:=h.mak
 exact⟨NV,h.hB,h.lenA,h.lenN,h.nodup,h.base,h.apart,fun i k nv hk hn=>(h.bks i k nv hk hn).only ho hf hA (fun a ha=>nX a 99 (h.tyA a (List.mem_of_getElem? ha)) (by decide)) (fun g hg=>nX g 104 (h.tyN nv (List.mem_of_getElem? hn) g hg) (by decide)),
  ⟨sv,lv,av,ps,hB2,hm.only ho (nX _ _ hm.ty (by decide)),own_only ho hsv (fun k hk=>nX _ _ (own_ty hsv hk) (by decide)),own_only ho hlvm (fun k hk=>nX _ _ (own_ty hlvm hk) (by decide)),fun p hp=>let⟨s,hs⟩:=hps p hp;⟨s,hs.only ho (nX _ _ hs.ty (by decide))⟩,hn,own_only ho hav (fun k hk=>nX _ _ (own_ty hav hk) (by decide))⟩,
  ⟨bv,cv',mv',tv',hb'.only ho (nX _ _ hb'.ty (by decide)),own_only ho hbv hbX,hcv,hlv.only ho hA (fun l hl=>nX l 193 (hlv.ty l hl) (by decide)) (fun mb hmb hc=>hlv.notCells hmb (hX mb hc).1 rfl),htv.mono (Hv.bT hf) hA⟩⟩
theorem BX.at (h:BX w B b b0 A L S tg M) {i a:Nat} {k:Bk} (hk:S.bks[i]? =some k) (ha:A[i]? =some a):
  ∃ nv sv p0 p1,Blk w a [nv,.slice (some ⟨a,7,none⟩) k.succs.length 2,.int .i32 i,k.live,k.rets,.int .u8 k.kind,sv,p0,p1] 99∧k.succs.length<=2∧
   ∀ (j s:Nat),k.succs[j]? =some s-> ∃ q,A[s]? =some q∧w.cell? ⟨a,7+j,none⟩=some (.pointer (some ⟨q,0,none⟩)):=by
 obtain⟨NV,h⟩:=h;have hlt:=(List.getElem?_eq_some_iff.1 hk).1;have hln:i < NV.length:=by have:=h.lenN;omega
 obtain⟨a',sv,p0,p1,ns,g1,g2,g3,g4,g5,g6,⟨q0,g7,g8⟩,⟨q1,g9,g10⟩,g11⟩:=h.bks i _ _ hk (List.getElem?_eq_getElem hln);rw[ha]at g1;cases g1;refine⟨_,sv,p0,p1,g2,g11,fun j s hs=>?_⟩;have hj:=(List.getElem?_eq_some_iff.1 hs).1;rcases(show j=0∨j=1 by omega)with rfl|rfl
 ·have:=g8 s hs;subst this;obtain⟨q,hq,rfl⟩:=g7;exact⟨q,hq,g2.cell 7 rfl⟩
 ·have:=g10 s hs;subst this;obtain⟨q,hq,rfl⟩:=g9;exact⟨q,hq,g2.cell 8 rfl⟩
theorem BX.len (h:BX w B b b0 A L S tg M):A.length=S.bks.length:=by
 obtain⟨NV,h⟩:=h;exact h.lenA
theorem BX.list (h:BX w B b b0 A L S tg M): ∃ bv cv mv tv,Blk w b [bv,.func (.func 67) #[b0] #[],cv,mv,tv] 136∧PtrAt A cv S.cur∧w.ownsRow B 92 1 bv A.length (A.map fun a=>.pointer (some ⟨a,0,none⟩)):=by
 obtain⟨NV,h⟩:=h;obtain⟨bv,cv,mv,tv,hb,hbv,hcv,_⟩:=h.self;exact⟨bv,cv,mv,tv,hb,hcv,hbv⟩
def ptrOf (A:List Nat) (i:Nat):Value:=.pointer (some ⟨A.getD i 0,0,none⟩)
theorem ptrOf_eq {i a:Nat} (h:A[i]? =some a):ptrOf A i=.pointer (some ⟨a,0,none⟩):=by simp[ptrOf,h]
theorem own_pop {base e:Nat} {g cap n:Nat} {xs:List Value} (h:w.ownsRow base e 1 (.slice (some ⟨g,0,none⟩) (n+1) cap) (n+1) xs):w.ownsRow base e 1 (.slice (some ⟨g,0,none⟩) n cap) n (xs.take n):=by
 obtain⟨h1,h2⟩:=h;rcases h2 with⟨h2,_⟩ |⟨g',cap',cur,hv,hg,hh,hc,hm,hs,hx⟩
 ·simp at h2
 ·cases hv;refine⟨by simp;omega,.inr ⟨g,cap,cur,rfl,hg,hh,by omega,hm,hs,?_⟩⟩;rw[<-hx,List.take_take];congr 1;omega
def left (n:Nat) (f:Nat->Bool):Nat:=((List.range n).filter fun i=>!f i).length
theorem left_mark {n:Nat} {f:Nat->Bool} {c:Nat} (hc:c < n) (hf:f c=false):left n (fun i=>f i||i==c)+1=left n f:=by
 unfold left;have key: ∀ n,((List.range n).filter fun i=>!(f i||i==c)).length+(if c < n then 1 else 0)=((List.range n).filter fun i=>!f i).length:=by
  intro n
  induction n with
  |zero=>simp
  |succ n ih=>
   rw[List.range_succ,List.filter_append,List.filter_append,List.length_append,List.length_append];by_cases h1:c=n
   ·subst h1;rw[if_neg (Nat.lt_irrefl c)]at ih;simp[hf]at ih ⊢;omega
   ·have h2:(n==c)=false:=by simp;omega
    by_cases h3:c < n
    ·rw[if_pos h3]at ih;rw[if_pos (by omega),show(List.filter (fun i=>!(f i||i==c)) [n])=List.filter (fun i=>!f i) [n]by simp[List.filter_cons,h2]];omega
    ·rw[if_neg h3]at ih;rw[if_neg (by omega),show(List.filter (fun i=>!(f i||i==c)) [n])=List.filter (fun i=>!f i) [n]by simp[List.filter_cons,h2]];omega
 have:=key n;rw[if_pos hc]at this;exact this
structure Lv (bks:List Bk) (f:Nat->Bool) (qs:List Nat):Prop where
 mark: ∀ i,f i=true->Reach bks i∧i < bks.length
 queue: ∀ i∈qs,Reach bks i∧i < bks.length
 next: ∀ (i:Nat) (k:Bk),f i=true->bks[i]? =some k-> ∀ s∈k.succs,f s=true∨s∈qs
 first:f 0=true∨0∈qs
theorem Lv.done {bks:List Bk} {f:Nat->Bool} (h:Lv bks f []) (hr: ∀ (i:Nat) (k:Bk),bks[i]? =some k-> ∀ s∈k.succs,s < bks.length): ∀ i,f i=true↔Reach bks i:=by
 intro i;refine⟨fun hi=>(h.mark i hi).1,fun hi=>?_⟩
 induction hi with
 |zero=>simpa using h.first
 |step _ hk hs ih=>simpa using h.next _ _ ih hk _ hs
theorem Lv.skip {bks:List Bk} {f:Nat->Bool} {qs:List Nat} {c:Nat} (h:Lv bks f (qs++ [c])) (hc:f c=true):Lv bks f qs:=by
 refine⟨h.mark,fun i hi=>h.queue i (by simp[hi]),fun i k hi hk s hs=>?_,?_⟩
 ·rcases h.next i k hi hk s hs with h1|h1
  ·exact .inl h1
  ·simp at h1;rcases h1 with h1|rfl
   ·exact .inr h1
   ·exact .inl hc
 ·rcases h.first with h1|h1
  ·exact .inl h1
  ·simp at h1;rcases h1 with h1|rfl
   ·exact .inr h1
   ·exact .inl hc
theorem Lv.take {bks:List Bk} {f:Nat->Bool} {qs:List Nat} {c:Nat} {k:Bk} (h:Lv bks f (qs++ [c])) (hk:bks[c]? =some k) (hr: ∀ s∈k.succs,s < bks.length):Lv bks (fun i=>f i||i==c) (qs++k.succs):=by
 have hc:=(h.queue c (by simp)).1;have hlt:=(List.getElem?_eq_some_iff.1 hk).1;refine⟨fun i hi=>?_,fun i hi=>?_,fun i k' hi hk' s hs=>?_,?_⟩
 ·simp at hi;rcases hi with hi|rfl
  ·exact h.mark i hi
  ·exact⟨hc,hlt⟩
 ·simp at hi;rcases hi with hi|hi
  ·exact h.queue i (by simp[hi])
  ·exact⟨.step hc hk hi,hr i hi⟩
 ·simp at hi;rcases hi with hi|rfl
  ·rcases h.next i k' hi hk' s hs with h1|h1
   ·exact .inl (by simp[h1])
   ·simp at h1;rcases h1 with h1|rfl
    ·exact .inr (by simp[h1])
    ·exact .inl (by simp)
  ·rw[hk]at hk';cases hk';exact .inr (by simp[hs])
 ·rcases h.first with h1|h1
  ·exact .inl (by simp[h1])
  ·simp at h1;rcases h1 with h1|rfl
   ·exact .inr (by simp[h1])
   ·exact .inl (by simp)
theorem Fr.growN {T:List Nat} {B:Nat} {a b c:World} (h:Fr T B a b) {row:Option Nat} (hg:b.grownBy c row) (hB:B<=b.heap.size) (hr: ∀ k,row=some k->a.heap.size<=k∧B<=k):Fr T B a c:=by
 refine⟨h.below.grown hg hB (fun k hk=>(hr k hk).2),fun k cs t f hk ht=>?_⟩;have hb:=h.keep k cs t f hk ht;have hlt:=TyAt.lt ⟨_,_,hb⟩;rw[hg.block k hlt ?_]
 ·exact hb
 ·intro e';have:=(hr k e'.symm).1;have:=TyAt.lt ⟨_,_,hk⟩;omega
noncomputable def liveF (bks:List Bk) (i:Nat):Bool:= @decide (Reach bks i) (Classical.propDecidable _)
theorem liveF_eq {bks:List Bk} {f:Nat->Bool} (h: ∀ i,f i=true↔Reach bks i):f=liveF bks:=by
 funext i;unfold liveF;have:=h i;cases hf:f i
 ·simp[hf]at this;simp[this]
 ·simp[hf]at this;simp[this]
def BS.finP (S:BS) (f:Nat->Bool) (c:Nat):Option BS:=if f c then(S.lived f).retP.bind fun S1=>S1.addP ⟨2,true⟩else some (S.lived f)
theorem own_slice {base e n:Nat} {v:Value} {xs:List Value} (h:w.ownsRow base e 1 v n xs) (hv:v≠ .slice none 0 0): ∃ g cap,v=.slice (some ⟨g,0,none⟩) n cap∧base<=g∧g < w.heap.size∧n<=cap:=by
 have hlt:=h.lt;rcases h.2 with⟨h1,_⟩ |⟨g,cap,cur,rfl,hg,_,hc,_⟩
 ·exact absurd h1 hv
 ·exact⟨g,cap,rfl,hg,(hlt g rfl).2,hc⟩
theorem BX.alloc (h:BX w B b b0 A L S tg M) (o:Obj):BX (w.alloc o) B b b0 A L S tg M∧Fr bT B w (w.alloc o):=by
 obtain⟨NV,h⟩:=h;obtain⟨h1,f1⟩:=h.alloc o;exact⟨⟨NV,h1⟩,f1⟩
end
section
variable {w w':World} {B b b0:Nat} {A L:List Nat} {S S':BS} {tg:List Tg} {M:Mk}
def BS.none:BS:=⟨[],Option.none,[],[]⟩
theorem BX.init (hm:MakerAt w B b0 M) (hB:B<=w.heap.size):BX (w.alloc (.cells [.slice .none 0 0,.func (.func 67) #[.pointer (some ⟨b0,0,.none⟩)] #[],.pointer .none,.map .none,.pointer .none].toArray 136)) B w.heap.size b0 [] [] BS.none [] M:=by
 have f:Fr bT B w (w.alloc (.cells [.slice .none 0 0,.func (.func 67) #[.pointer (some ⟨b0,0,.none⟩)] #[],.pointer .none,.map .none,.pointer .none].toArray 136)):=(Fr.refl _ _ _).alloc hB _;have f0:Fr [] B w (w.alloc (.cells [.slice .none 0 0,.func (.func 67) #[.pointer (some ⟨b0,0,.none⟩)] #[],.pointer .none,.map .none,.pointer .none].toArray 136)):=(Fr.refl _ _ _).alloc hB _;have hma:M.ask []=M:=by simp[Mk.ask]
 refine⟨[],hB,rfl,rfl,List.nodup_nil,by simp,fun i j vi vj g _ hi=>by simp at hi,fun i k nv hk=>by simp[BS.none]at hk,?_,_,_,_,_,Blk.new w _ _,World.ownsRow_nil _ _ _ _,rfl,⟨rfl,List.nodup_nil,by simp,fun j l s x hl=>by simp at hl,.inl ⟨rfl,rfl⟩⟩,rfl⟩;show MakerAt _ B b0 (M.ask []);rw[hma];exact hm.fr f0 (by simp)
theorem endBlock_any {a:Nat} {lv:Value} (ha:Hv w 0 a [.int .i64 3,lv,.int .i64 2] 146):
  Calls Tryz.prog 87 #[a] w fun e w'=>e=.returned (.int .i64 3)∧w=w':=by
 have c2:=ha.2.2.cell 2 rfl;go_enter Tryz.func87,Tryz.ntmps87
 go_wp2
 go_ret;exact⟨rfl,rfl⟩
def NvRel (w:World) (B b b0:Nat) (A L:List Nat) (S:BS) (M:Mk) (base:Nat) (bv0:Value) (k:Nat) (qv:Value) (wr:World):Prop:=
 ∃ (qs:List Nat) (f:Nat->Bool),k=3*left S.bks.length f+qs.length∧qs.length+2*left S.bks.length f<=2*S.bks.length+1∧Lv S.bks f qs∧wr.ownsRow base 92 1 qv qs.length (qs.map (ptrOf A))∧qv≠ .slice none 0 0∧
  BX wr B b b0 A L (S.lived f) [] M∧Fr bT B w wr∧(∃ mk cv mv tv,Blk wr b [bv0,mk,cv,mv,tv] 136)
def NrRel (S:BS) (w:World) (v8 ix:Value) (wr:World):Prop:=wr=w∧ ∃ k:Nat,ix=.int .i64 k∧v8=.bool true∧ ∀ (j:Nat) (kj:Bk),j < k->S.bks[j]? =some kj->(kj.live&&kj.rets)=false
theorem new_any (hm:MakerAt w B b0 M) (hMa:M.asked.length<=1000) (hB:B<=w.heap.size) {t:T} (hok:t.ok) (hfit:Fit M 0 (t.stops false)) {a:Nat} {vs:List Value} (hbl:BlockAt (Hv w 0) a 3 2 vs) (hast:t.Ast (Hv w 0) 0 0 0 vs)
  (hbld:t.bld.list 0 0 [] ((BS.none.new 2 (some 3)).at 0)=some S) {c:Nat} (hcur:S.cur=some c) (hlive: ∀ k∈S.bks,k.live=false) (hr: ∀ (i:Nat) (k:Bk),S.bks[i]? =some k-> ∀ s∈k.succs,s < S.bks.length) (hlen:S.bks.length<=100000) (hpos:0 < S.bks.length) {S3:BS} (hfin:S.finP (liveF S.bks) c=some S3):
  Calls Tryz.prog 65 #[a,.func (.func 67) #[b0] #[]] w fun e w'=> ∃ ga b bv A' L' mk cv mv tv,e=.returned (.pointer (some ⟨ga,0,none⟩))∧Blk w' ga [bv,!S3.bks.any fun k=>k.live&&k.rets] 91∧Blk w' b [bv,mk,cv,mv,tv] 136∧BX w' B b b0 A' L' S3 [] M∧Fr bT B w w':=by
 obtain⟨lv,ha,harr⟩:=hbl;have hX:=BX.init hm hB;have fX:Fr bT B w (w.alloc (.cells [.slice .none 0 0,.func (.func 67) #[.pointer (some ⟨b0,0,.none⟩)] #[],.pointer .none,.map .none,.pointer .none].toArray 136)):=(Fr.refl _ _ _).alloc hB _;have haX:=hv_fr fX ha;have hS1:BS.none.newP 2 (some 3)=some (BS.none.new 2 (some 3)):=by simp[BS.newP,BS.none]
 have HG:=hid6 hbld hcur hlive hr hpos hfin;clear hbld hcur hlive hr hpos hfin;go_enter Tryz.func65,Tryz.ntmps65;go_wp2_with fail
 refine(new_st hX hS1 (of_head (ty:=86) (t0:=146) (by decide) haX)).mono ?_;rintro e w1 ⟨a1,rfl,A1,hA1,ha1,h1,f1⟩;have P1:=hid2 hA1 ha1;clear hA1 ha1 hS1;obtain⟨bv1,cv1,mv1,tv1,hb1,_,_⟩:=h1.blk;have y1:=hb1.cell 2 rfl;have z1:=hb1.free 2;obtain⟨h2,f2⟩:=h1.setCur P1.out.2;have F2:=fX.trans (f1.trans f2);go_wp2_with fail
 refine((block_st (a:=a) (lb:=3) (rb:=2) ((build_all hMa t hok 0 0 hfit).1 vs)) _ _ _ _ _ _ _ _ _ h2 ⟨⟨lv,hv_fr F2 ha,harr.mono (Hv.bT F2)⟩,hast.mono (Hv.bT F2)⟩ HG.out.1).mono ?_;rintro e w3 ⟨rfl,A3,L3,hA3,hL3,h3,f3⟩;have F3:=F2.trans f3;obtain⟨bv3,cv3,mv3,tv3,hb3,hcv3,hown3⟩:=h3.list;have hA3l:=h3.len;have hne3:bv3.ownBlock≠none∧ ∃ gb cap,bv3=.slice (some ⟨gb,0,none⟩) A3.length cap:=by
  rcases hown3.2 with⟨_,h0⟩ |⟨g,cap,cur,hv,_⟩
  ·have:=HG.out.2.2.2.2.1;omega
  ·subst hv;exact⟨by simp[Value.ownBlock],g,cap,rfl⟩
 obtain⟨hne3,gb,capb,rfl⟩:=hne3;have hgb:=(hown3.lt gb rfl).2;have ha30: ∃ a30,A3[0]? =some a30:=⟨A3[0]'(by have:=HG.out.2.2.2.2.1;omega),List.getElem?_eq_getElem _⟩
 obtain⟨a30,ha30⟩:=ha30;have hc0:w3.cell? ⟨gb,0,none⟩=some (.pointer (some ⟨a30,0,none⟩)):=by
  rw[World.ownsRow.cellAt hown3 0 (by have:=HG.out.2.2.2.2.1;omega)];simp[ha30]
 have d0:=hb3.cell 0 rfl;obtain⟨i0,hi0,hz0,hz1,hz2⟩:=info_parts info92;have HP:=hid5 hA3 hL3 hA3l ha30 hcv3;clear hA3 hL3 hA3l ha30 hcv3;have hAl:A3.length<=100000:=by have:=HP.out.2.2.1;omega
 have hApos:0 < A3.length:=by have:=HP.out.2.2.1;have:=HG.out.2.2.2.2.1;omega
 go_wp2_with (at_make;refine wpList_make_own w3 rfl _ _ 89 rfl w3.heap.size 92 i0 (.pointer none) 1 Tryz.underlying89 hi0 hz0 hz1 .i64 .i64 _ A3.length (by rfl) (by rfl) rfl ?b2 ?b3 (Nat.le_refl _) ?_)
 case b2=>rw[hz2];omega
 case b3=>unfold maxLen;omega
 intro w4 hq4 hg4;have hb4:=hb3.grown hg4 (by simp);have e0:=hb4.cell 0 rfl;have hc4:w4.cell? ⟨gb,0,none⟩=some (.pointer (some ⟨a30,0,none⟩)):=by
  unfold World.cell? at hc0 ⊢;rw[hg4.block gb hgb (by simp)];exact hc0
 have sz4:=hg4.size;clear d0 hc0;go_wp2_with (at_builtin;refine wpList_app1 w4 rfl _ _ 89 rfl w3.heap.size 92 (.pointer none) 1 8 Tryz.underlying89 info92 rfl (by decide) (by decide) hq4 (by rfl) [.pointer (some ⟨a30,0,none⟩)] rfl ?c1 (by rfl) (by omega) (by omega) ?_)
 case c1=>simp[Value.oneCell']
 intro g5 cap5 w5 hq5 hg5 hat5 hlt5;have F35:Fr bT B w3 w5:=((Fr.refl bT B w3).growN hg4 (by have:=h3.choose_spec.leB;omega) (by simp)).growN hg5 (by have:=h3.choose_spec.leB;omega) (fun k hk=>by simp[Value.ownBlock]at hk;have:=h3.choose_spec.leB;omega);have O35:Only [] w3 w5:=((Only.refl [] w3).grown hg4 (by simp)).grown hg5 (fun k hk=>by simp[Value.ownBlock]at hk;omega);have h5:=h3.keep O35 F35 hb3 (by simp);have hb5:=hb3.only O35 (by simp);rw[<-lived_none HG.out.2.2.1]at h5;have hlv0:Lv S.bks (fun _=>false) [0]:=⟨fun i hi=>by simp at hi,fun i hi=>by simp at hi;subst hi;exact⟨.zero,HG.out.2.2.2.2.1⟩,fun i k hi=>by simp at hi,.inr (by simp)⟩
 have hl0:left S.bks.length (fun _=>false)<=S.bks.length:=by
  unfold left;have:=List.length_filter_le (fun i:Nat=>!(fun _=>false) i) (List.range S.bks.length);simpa using this
 have hR0:NvRel w B w.heap.size b0 A3 L3 S M w3.heap.size (.slice (some ⟨gb,0,none⟩) A3.length capb) (3*left S.bks.length (fun _=>false)+1) (.slice (some ⟨g5,0,none⟩) 1 cap5) w5:=
  ⟨[0],fun _=>false,rfl,by simp;omega,hlv0,by simpa [ptrOf_eq HP.out.2.2.2.1]using hq5,by simp,h5,F3.trans F35,_,_,_,_,hb5⟩
 have HR0:=hidf hR0;clear hR0 hlv0 hl0 hq5 e0 hc4;go_wp2_with fail
 go_loopg [6] (3*left S.bks.length (fun _=>false)+1) (fun k qv wr=>NvRel w B w.heap.size b0 A3 L3 S M w3.heap.size (.slice (some ⟨gb,0,none⟩) A3.length capb) k qv wr)
 case atStart=>exact HR0.out
 case round=>
  obtain⟨qs,f,hk,hbd,hlv,hown,hnn,hX6,hF6,mk6,cv6,mv6,tv6,hb6⟩:=hrel;obtain⟨nq,hnq⟩: ∃ nq,nq=qs.length:=⟨_,rfl⟩
  rw[<-hnq]at hown;obtain⟨gq,capq,rfl,hgq,hgq2,hcq⟩:=own_slice hown hnn;rcases List.eq_nil_or_concat qs with rfl|⟨qs',i,rfl⟩
  ·obtain rfl:nq=0:=hnq;have hf:f=liveF S.bks:=liveF_eq (hlv.done HG.out.2.2.2.1);subst hf;obtain⟨bv7,cv7,mv7,tv7,hb7,hcv7,htv7⟩:=hX6.blk;have hcur:(S.lived (liveF S.bks)).cur=some c:=HG.out.2.1;rw[hcur]at hcv7;obtain⟨ac,hac,rfl⟩:=hcv7;have hcl:c < S.bks.length:=by have:=(List.getElem?_eq_some_iff.1 hac).1;have:=HP.out.2.2.1;omega
   have hkc:=List.getElem?_eq_getElem hcl;generalize S.bks[c]=kc at hkc;obtain⟨nvc,svc,p0c,p1c,hbc,_,_⟩:=hX6.at (lived_get hkc) hac;have u2:=hb7.cell 2 rfl;have u0:=hb6.cell 0 rfl;have v3:=hbc.cell 3 rfl;have hfin:=HG.out.2.2.2.2.2;have HK:=hid4 hac hkc hcur hfin;clear hnn hown hk hbd hlv hcur hac hkc hfin hcl hcq;go_upto_if 68 with(fail)
   go_cut [] (fun wx=>BX wx B w.heap.size b0 A3 L3 S3 [] M∧Fr bT B w wx)
   case first=>
    obtain⟨hac,hkc,hcur,hfin⟩:=HK.out;unfold BS.finP at hfin;cases hfc:liveF S.bks c with
    |false=>
     rw[hfc]at hfin v3;obtain rfl:S.lived (liveF S.bks)=S3:=by simpa using hfin
     clear hac hkc hcur hfin hfc;go_wp2_with fail
     go_meet;exact⟨hX6,hF6⟩
    |true=>
     rw[hfc]at hfin v3;simp only[if_true,Option.bind_eq_some_iff]at hfin;obtain⟨S4,g4,g5'⟩:=hfin;obtain⟨hX7,f7⟩:=hX6.setRet g4 hcur hac;have v4:=hbc.cell 4 rfl;have v4f:=hbc.free 4;have ha7:=hv_fr (hF6.trans f7) ha;have hb77:=hb6.setOther ⟨ac,4,none⟩ (.bool true) (TyAt.ne hb6.ty hbc.ty (by decide));have HK2:=hidf g5';clear hac hkc hcur hfc g4 g5';go_wp2_with fail
     refine(endBlock_any ha7).mono ?_;rintro e w7 ⟨rfl,rfl⟩;obtain⟨hX8,f8⟩:=hX7.alloc (.cells [.int .i64 2,.slice none 0 0].toArray 142);have hnw:=Blk.new (wr.setCell ⟨ac,4,none⟩ (.bool true)) [.int .i64 2,.slice none 0 0] 142;have hsz:(wr.setCell ⟨ac,4,none⟩ (.bool true)).heap.size=wr.heap.size:=by simp[World.setCell]
     rw[hsz]at hnw;have hrt:ReturnS (Hv ((wr.setCell ⟨ac,4,none⟩ (.bool true)).alloc (.cells [.int .i64 2,.slice none 0 0].toArray 142)) 0) (.iface 101 (.pointer (some ⟨wr.heap.size,0,none⟩))) 2:=⟨wr.heap.size,rfl,Nat.zero_le _,by decide,hnw⟩
     clear hsz;go_wp2_with fail
     refine(add_st hX8 HK2.out (.inl ⟨rfl,hrt⟩)).mono ?_;rintro e w9 ⟨rfl,hX9,f9⟩;go_wp2_with fail
     go_meet;exact⟨hX9,hF6.trans (f7.trans (f8.trans f9))⟩
   case rest=>
    obtain⟨hX9,hF9⟩:=hcut;obtain⟨bv9,cv9,mv9,tv9,hb9,_,hown9⟩:=hX9.list;have hA9:=hX9.len;obtain⟨gb9,cap9,rfl⟩: ∃ gb cap,bv9=.slice (some ⟨gb,0,none⟩) A3.length cap:=by
     rcases hown9.2 with⟨_,h0⟩ |⟨g,cap,cur,hv,_⟩
     ·omega
     ·exact⟨g,cap,hv⟩
    have y0:=hb9.cell 0 rfl;have HA9:=hidf hA9;clear hA9;go_wp2_with fail
    go_loopw [8,83] (fun v8 ix wr=>NrRel S3 wc v8 ix wr) (fun _ ix _=>A3.length -(intOf ix).toNat)
    case atStart=>exact⟨rfl,0,rfl,rfl,fun j kj hj=>by omega⟩
    case round=>
     obtain⟨rfl,k,rfl,rfl,hall⟩:=hrel;by_cases hkl:k < A3.length
     ·have hak: ∃ ak,A3[k]? =some ak:=⟨_,List.getElem?_eq_getElem hkl⟩
      obtain⟨ak,hak⟩:=hak;have hkb:k < S3.bks.length:=by have:=HA9.out;omega
      have hkk:=List.getElem?_eq_getElem hkb;generalize S3.bks[k]=kk at hkk;obtain⟨nvk,svk,p0k,p1k,hbk,_,_⟩:=hX9.at hkk hak;have q3:=hbk.cell 3 rfl;have q4:=hbk.cell 4 rfl;have hck:wr.cell? ⟨gb9,k,none⟩=some (.pointer (some ⟨ak,0,none⟩)):=by
       rw[World.ownsRow.cellAt hown9 k (by omega)];simp[hak]
      have HK:=hid3 hall hkk hak;clear hall hkk hak hkb;by_cases hlr:(kk.live&&kk.rets)=true
      ·obtain⟨e1,e2⟩:kk.live=true∧kk.rets=true:=by simpa using hlr
       rw[e1]at q3;rw[e2]at q4;clear e1 e2;have Hany:Hid ((S3.bks.any fun k=>k.live&&k.rets)=true):=hidf (List.any_eq_true.2 ⟨kk,List.mem_of_getElem? HK.out.2.1,hlr⟩);obtain⟨hX10,f10⟩:=hX9.alloc (.cells [.slice (some ⟨gb9,0,none⟩) A3.length cap9,.bool false].toArray 91);have hb10:=hb9.alloc (.cells [.slice (some ⟨gb9,0,none⟩) A3.length cap9,.bool false].toArray 91);clear hlr;go_wp2_with fail
       go_ret;exact⟨wr.heap.size,w.heap.size,_,A3,L3,_,_,_,_,rfl,by rw[Hany.out];exact Blk.new wr _ _,hb10,hX10,hF9.trans f10⟩
      ·have hR:NrRel S3 wr (.bool true) (.int .i64 ((k:Int)+1)) wr:=⟨rfl,k+1,by simp,rfl,fun j kj hj hkj=>by
        by_cases hjk:j=k
        ·subst hjk;rw[HK.out.2.1]at hkj;cases hkj;simpa using hlr
        ·exact HK.out.1 j kj (by omega) hkj⟩
       have HR:=hidf hR;clear hR;cases hl:kk.live with
       |false=>
        rw[hl]at q3;clear hlr hl;go_wp2_with fail
        exact⟨HR.out,by simp[intOf];omega⟩
       |true=>
        have hrr:kk.rets=false:=by
         rw[hl]at hlr;simpa using hlr
        rw[hl]at q3;rw[hrr]at q4;clear hlr hl hrr;go_wp2_with fail
        exact⟨HR.out,by simp[intOf];omega⟩
     ·have Hany:Hid ((S3.bks.any fun k=>k.live&&k.rets)=false):=hidf (by
       rw[List.any_eq_false];intro kj hkj;obtain⟨j,hj,rfl⟩:=List.getElem_of_mem hkj;have:=hall j S3.bks[j] (by have:=HA9.out;omega) (List.getElem?_eq_getElem hj);simpa using this)
      obtain⟨hX10,f10⟩:=hX9.alloc (.cells [.slice (some ⟨gb9,0,none⟩) A3.length cap9,.bool true].toArray 91);have hb10:=hb9.alloc (.cells [.slice (some ⟨gb9,0,none⟩) A3.length cap9,.bool true].toArray 91);clear hall;go_wp2_with fail
      go_ret;exact⟨wr.heap.size,w.heap.size,_,A3,L3,_,_,_,_,rfl,by rw[Hany.out];exact Blk.new wr _ _,hb10,hX10,hF9.trans f10⟩
  ·simp only[List.concat_eq_append]at hk hbd hlv hown hnq;obtain rfl:nq=qs'.length+1:=by simpa using hnq
   clear hnq;obtain⟨hri,hil⟩:=hlv.queue i (by simp);have hki:=List.getElem?_eq_getElem hil;generalize S.bks[i]=ki at hki;have hai: ∃ ai,A3[i]? =some ai:=⟨A3[i]'(by have:=HP.out.2.2.1;omega),List.getElem?_eq_getElem _⟩
   obtain⟨ai,hai⟩:=hai;have hci:wr.cell? ⟨gq,qs'.length,none⟩=some (.pointer (some ⟨ai,0,none⟩)):=by
    rw[World.ownsRow.cellAt hown qs'.length (by omega)];simp[ptrOf_eq hai]
   obtain⟨nv6,sv6,p06,p16,hbk6,hs2,hsu⟩:=hX6.at (lived_get hki) hai;have t3:=hbk6.cell 3 rfl;have t3f:=hbk6.free 3;have hown':wr.ownsRow w3.heap.size 92 1 (.slice (some ⟨gq,0,none⟩) qs'.length capq) qs'.length (qs'.map (ptrOf A3)):=by
    have:=own_pop hown;simpa using this
   have hql:qs'.length+1<=200002:=by simp at hbd;omega
   have hcq2:qs'.length<=capq:=by omega
   have hcq1:(qs'.length:Int)<=capq:=by omega
   clear hcq;cases hfi:f i with
   |true=>
    have hR:NvRel w B w.heap.size b0 A3 L3 S M w3.heap.size (.slice (some ⟨gb,0,none⟩) A3.length capb) (3*left S.bks.length f+qs'.length) (.slice (some ⟨gq,0,none⟩) qs'.length capq) wr:=
     ⟨qs',f,rfl,by simp at hbd;omega,hlv.skip hfi,hown',by simp,hX6,hF6,_,_,_,_,hb6⟩
    have HR:=hid2 hR hk;rw[hfi]at t3;simp only[List.length_append,List.length_singleton,List.concat_eq_append]at*;clear hR hk hlv hown hnn hri hki hai hfi hsu hbd;go_wp2_with fail
    go_roundg (3*left S.bks.length f+qs'.length)
    case rel=>exact HR.out.1
    case measure=>have:=HR.out.2;omega
   |false=>
    rw[hfi]at t3;obtain⟨hX7,f7⟩:=hX6.setLive hki hai;have hbk7:=hbk6.set 3 (.bool true);have r1:=hbk7.cell 1 rfl;have hb7:=hb6.setOther ⟨ai,3,none⟩ (.bool true) (TyAt.ne hb6.ty hbk6.ty (by decide));have hgqt:TyAt wr gq 92:=own_ty hown' rfl;have hown7:=own_setCell hown' ⟨ai,3,none⟩ (.bool true) (by simp only[Value.ownBlock];exact fun e=>TyAt.ne hbk6.ty hgqt (by decide) (by simpa using e));have hnews: ∀ (j:Nat) u,(ki.succs.map (ptrOf A3))[j]? =some u->(wr.setCell ⟨ai,3,none⟩ (.bool true)).cell? (Addr.add ⟨ai,7,none⟩ j)=some u:=by
     intro j u hu;rw[List.getElem?_map,Option.map_eq_some_iff]at hu;obtain⟨s,hs,rfl⟩:=hu;obtain⟨nv8,sv8,p08,p18,hbk8,_,hsu8⟩:=hX7.at (lived_get hki) hai;obtain⟨q,hq,hc⟩:=hsu8 j s hs;rw[ptrOf_eq hq];by_cases hj0:j=0
     ·subst hj0;simpa [Addr.add]using hc
     ·simpa [Addr.add,hj0]using hc
    have hones: ∀ u∈ki.succs.map (ptrOf A3),u.oneCell'=true:=by
     intro u hu;simp only[List.mem_map]at hu;obtain⟨s,_,rfl⟩:=hu;rfl
    have hk2:ki.succs.length<=2:=hs2;have hrs:=HG.out.2.2.2.1 i ki hki;have hlm:=left_mark hil hfi;have HK:=hid4 hk hbd (hlv.take hki hrs) hlm;have HNW:=hidf hnews;have HON:=hidf hones;have sz7:(wr.setCell ⟨ai,3,none⟩ (.bool true)).heap.size=wr.heap.size:=by simp[World.setCell]
    have Hsz:=hidf sz7;have hw3:w3.heap.size<=wr.heap.size:=by omega
    simp only[List.length_append,List.length_singleton,List.concat_eq_append]at*;clear hk hbd hlv hown hnn hri hki hai hfi hsu hrs hlm hnews hones sz7 hil;go_wp2_with (at_builtin;refine wpList_append_own _ rfl _ _ 89 rfl w3.heap.size 92 i0 (.pointer none) 1 8 Tryz.underlying89 hi0 hz0 hz1 hz2 rfl (by decide) _ qs'.length (qs'.map (ptrOf A3)) (by rfl) hown7 ⟨ai,7,none⟩ ki.succs.length 2 (ki.succs.map (ptrOf A3)) (by rfl) (by simp) HNW.out HON.out ?c1 ?c2 ?c3 ?_)
    case c1=>unfold maxLen;omega
    case c2=>omega
    case c3=>rw[Hsz.out];omega
    intro v8 w8 hown8 hg8 hnil8;obtain⟨hk,hbd,hlv8,hlm⟩:=HK.out;have f78:Fr bT B (wr.setCell ⟨ai,3,none⟩ (.bool true)) w8:=(Fr.refl bT B _).grown hown7 hg8 (by rw[Hsz.out];have:=hX6.choose_spec.leB;omega) (by have:=h3.choose_spec.leB;omega) (.inl (by decide));have o78:Only [gq] (wr.setCell ⟨ai,3,none⟩ (.bool true)) w8:=(Only.refl _ _).grown hg8 (fun k hk=>.inl (by simpa [Value.ownBlock]using hk.symm));have hX8:=hX7.keep o78 f78 hb7 (by
     intro x hx;simp at hx;subst hx;exact⟨hgqt.setCell _ _,by simp[Value.ownBlock];omega⟩)
    have hb8:=hb7.only o78 (by simpa using TyAt.ne hb6.ty hgqt (by decide))
    have hR:NvRel w B w.heap.size b0 A3 L3 S M w3.heap.size (.slice (some ⟨gb,0,none⟩) A3.length capb) (3*left S.bks.length (fun x=>f x||x==i)+(qs'++ki.succs).length) v8 w8:=
     ⟨qs'++ki.succs,_,rfl,by simp;omega,hlv8,by simpa using hown8,by intro e;exact hnil8 e,hX8,hF6.trans (f7.trans f78),_,_,_,_,hb8⟩
    have HR:=hid3 hR hk hlm;clear hR hk hbd hlv8 hlm hnil8;go_wp2_with fail
    go_roundg (3*left S.bks.length (fun x=>f x||x==i)+(qs'++ki.succs).length)
    case rel=>exact HR.out.1
    case measure=>have h1:=HR.out.2.1;have h2:=HR.out.2.2;simp;omega
end
end Go.Proofs.YteedbaejpdjilaaGreat
