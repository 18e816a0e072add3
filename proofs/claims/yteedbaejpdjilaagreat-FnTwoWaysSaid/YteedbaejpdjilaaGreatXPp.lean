/- Part of the proof: BldZ BuiA BuiB BuiC. -/
import Derived.Test.YteedbaejpdjilaaGreatXPi
import Derived.Test.YteedbaejpdjilaaGreatXPl
import Derived.Test.YteedbaejpdjilaaGreatXPm
import Derived.Test.YteedbaejpdjilaaGreatXPn
import Derived.Test.YteedbaejpdjilaaGreatXPo
import Derived.OwnWalk
import Derived.Laws.EntriesVeiled
import Derived.Deep.LoopGhost
import Derived.Deep.DeepCutAuto
set_option linter.all false
set_option maxRecDepth 100000
set_option maxHeartbeats 40000000
namespace Go.Proofs.YteedbaejpdjilaaGreat
open Go.RowKit
section
variable {w:World} {B b0:Nat} {A L:List Nat} {S S':BS} {tg:List Tg} {M:Mk}
theorem Vt {t:T} {n i a:Nat} {lb rb:Int} {vs:List Value} (h: ∀ lv,Qg M (fun H=>PN H lv vs 96∧t.Ast H 0 n i vs) lv (t.Zu.list n i)):
  SE M (fun H=>Zz H a lb rb vs∧t.Ast H 0 n i vs) (.iface 86 (.pointer (some ⟨a,0,none⟩))) (t.Zu.list n i):=by
 intro w B b b0 A L S S' tg hX hp hs;exact U3 ⟨_,_,rfl⟩ fun Q hQ=>Qe (f:=none) hX rfl hp.1 (fun lv hlv=>h lv w B b b0 A L S S' tg hX ⟨hlv,hp.2⟩ hs) Q hQ
theorem WM {t:T} {a n i:Nat} {lb rb:Int} {vs:List Value} :Wu (fun H=>Zz H a lb rb vs∧t.Ast H 0 n i vs):=fun _ _ hH h=>⟨h.1.mono hH,h.2.mono hH⟩
def jZ (h:Hd) (b e c:T) (n i:Nat) (lab:Option Nat) (tg:List Tg) (S:BS):Option BS:=
 Y8 h n i lab tg (b.Zu.list (n+h.own) (i+1)) (e.Zu.list (n+h.own+b.lv false) (i+1+b.it))
  (fun done=>c.Zu.sw (n+h.own+b.lv false+e.lv false) (i+1+b.it+e.it) tg done none none) (fun done=>c.Zu.ty (n+h.own+b.lv false+e.lv false) (i+1+b.it+e.it) tg done none)
  (fun done=>c.Zu.sel (n+h.own+b.lv false+e.lv false) (i+1+b.it+e.it) tg done none) c.Zu.comms S
def jB (h:Hd) (b e c:T) (n i:Nat):Lr:=fun tg=>OA h.label (fun lab=>jZ h b e c n i lab tg)
def VD (H:Hp) (h:Hd) (b e c:T) (n i:Nat) (u:Value):Prop:=WZ H h n i (b.Ast H 0 (n+h.own) (i+1)) (e.Ast H 0 (n+h.own+b.lv false) (i+1+b.it)) (fun m'=>c.Ast H m' (n+h.own+b.lv false+e.lv false) (i+1+b.it+e.it)) u
theorem VD.iface {H:Hp} {h:Hd} {b e c:T} {n i:Nat} {u:Value} (hu:VD H h b e c n i u): ∃ t p,u=.iface t p:=by
 rcases hu with⟨_,a,c,rfl,_⟩ |⟨_,a,l,x,r,rfl,_⟩ |⟨_,a,x,rfl,_⟩ |⟨_,a,x,y,rfl,_⟩ |⟨_,a,c,rfl,_⟩ |⟨_,a,c,rfl,_⟩ |⟨_,a,g,l,x,rfl,_⟩ |⟨_,a,rfl,_⟩ |⟨_,a,iv,cv,bb,vs,ev,rfl,_⟩ |⟨_,a,iv,cv,pv,bb,vs,rfl,_⟩ |⟨_,a,cv,bb,vs,rfl,_⟩ |
  ⟨_,a,iv,cv,bb,vs,rfl,_⟩ |⟨_,a,iv,gv,bb,vs,rfl,_⟩ |⟨_,a,bb,vs,rfl,_⟩ |⟨_,a,vs,rfl,_⟩ |⟨_,a,lv,rfl,_⟩ |⟨_,a,lv,rfl,_⟩ |⟨_,a,lv,rfl,_⟩ |⟨_,a,lv,rfl,_⟩ |⟨_,a,rfl,_⟩<;>exact⟨_,_,rfl⟩
theorem VD.mono {H H':Hp} (hH: ∀ b cs t,H b cs t->H' b cs t) {h:Hd} {b e c:T} {n i:Nat} {u:Value} (hu:VD H h b e c n i u):VD H' h b e c n i u:=
 WZ.mono hH (fun _ k=>k.mono hH) (fun _ k=>k.mono hH) (fun _ _ k=>k.mono hH) hu
theorem MP {f:PL} {lab:Option Nat} {bq:Nat} (hX:BX w B bq b0 A L S tg M) (hlab:Lj L (Et f) lab) {h:Hd} {b e c:T} {n i:Nat} {u:Value} (hb:BL M b) (he:BL M e) (hc:c.All (BL M)) (hf:Fm h b e c) (bo:b.ok) (eo:e.ok) (co:c.ok)
  (fit:Fit M n (h.stop++b.stops false++e.stops false++c.stops (h.kind==13))) (hM:M.asked.length<=1000) (hu:VD (Hv w 0) h b e c n i u) (hs:jZ h b e c n i lab tg S=some S')
  (Q:Exit->Act->World->Prop) (hQ: ∀ a w',a.defers= []->YX w w' B bq b0 A L S' tg M->Q .normal a w'):Code.wp Tryz.prog Yo Q ⟨VW f bq u,[]⟩ w:=by
 have fs:Fit M n h.stop:=fit.left.left.left;have fb:Fit M (n+h.own) (b.stops false):=fit.left.left.right hf.Wq;have fe:Fit M (n+h.own+b.lv false) (e.stops false):=by
  have:=fit.left.right (k:=h.own+b.lv false) (by simp[hf.Wq,T.Yp bo]);rwa [<-Nat.add_assoc]at this
 have fc:Fit M (n+h.own+b.lv false+e.lv false) (c.stops (h.kind==13)):=by
  have:=fit.right (k:=h.own+b.lv false+e.lv false) (by simp[hf.Wq,T.Yp bo,T.Yp eo,Nat.add_assoc]);rwa [<-Nat.add_assoc,<-Nat.add_assoc]at this
 clear fit;obtain⟨hbL,hbS⟩:=hb bo _ (i+1) fb;obtain⟨heL,heS⟩:=he eo _ (i+1+b.it) fe;unfold jZ at hs
 rcases hu with⟨hk,hu⟩ |⟨hk,hu⟩ |⟨hk,hu⟩ |⟨hk,hu⟩ |⟨hk,hu⟩ |⟨hk,hu⟩ |⟨hk,hu⟩ |⟨hk,hu⟩ |⟨hk,a,iv,cv,bb,vs,ev,hu,h1,h2,h3,h4,h5,h6⟩ |⟨hk,a,iv,cv,pv,bb,vs,hu,h1,h2,h3,h4,h5,h6⟩ |⟨hk,a,cv,bb,vs,hu,h1,h2,h3,h4⟩ |
  ⟨hk,a,iv,cv,bb,vs,hu,h1,h2,h3,h4,h5⟩ |⟨hk,a,iv,gv,bb,vs,hu,h1,h2,h3,h4,h5⟩ |⟨hk,a,bb,vs,hu,h1,h2,h3⟩ |⟨hk,a,vs,hu,h1,h2⟩ |⟨hk,hu⟩ |⟨hk,hu⟩ |⟨hk,hu⟩ |⟨hk,hu⟩ |⟨hk,hu⟩
 ·rcases hk with hk|hk
  ·have own:1<=h.own:=by simp[Hd.own,hk];omega
   have hst:M.stops[n]? =some false:=by
    have:=fs 0 false (by unfold Hd.stop;rw[if_neg (by omega),List.getElem?_replicate,if_pos (by omega)]);simpa using this
   exact Ic hX hu hst hM (by simpa [Y8,hk]using hs) Q hQ
  ·have hst:M.stops[n]? =some true:=by
    have:=fs 0 true (by simp[Hd.stop,hk]);simpa using this
   exact F5 hX hu hst hM (by simpa [Y8,hk]using hs) Q hQ
 ·exact SQ hX hu (by simpa [Y8,hk]using hs) Q hQ
 ·exact Cc hX hu (by simpa [Y8,hk]using hs) Q hQ
 ·exact FP hX hu (by simpa [Y8,hk]using hs) Q hQ
 ·exact Ag hX hu (by simpa [Y8,hk]using hs) Q hQ
 ·exact Kz hX hu (by simpa [Y8,hk]using hs) Q hQ
 ·exact FI hX hu (by simpa [Y8,hk]using hs) Q hQ
 ·exact MN hX hu (by simpa [Y8,hk]using hs) Q hQ
 ·replace hs:yG h n i tg (b.Zu.list (n+h.own) (i+1)) (e.Zu.list (n+h.own+b.lv false) (i+1+b.it)) S=some S':=by simpa [Y8,hk]using hs
  have hBS:=Vt (a:=bb) (lb:=0) (rb:=0) (hbL vs);refine Aj hX hu h1 h2 h3 WM ⟨h4,h5⟩ hBS ?_ hs Q hQ;rcases h6 with⟨hel,rfl⟩ |⟨hel,hch,hE⟩ |⟨hel,hch,eb,es,rfl,h7,h8⟩
  ·exact .inl ⟨hel,rfl⟩
  ·obtain⟨ev',hev,tt,pp,rfl⟩:=OL hf hch hE;obtain rfl:ev=.iface tt pp:=by simpa using hev
   exact .inr ⟨hel,_,Hy (t:=e),hE,⟨_,_,rfl⟩,heS _⟩
  ·exact .inr ⟨hel,_,WM (t:=e),⟨h7,h8⟩,⟨_,_,rfl⟩,Vt (heL es)⟩
 ·replace hs:Le h n i lab tg (b.Zu.list (n+h.own) (i+1)) S=some S':=by simpa [Y8,hk]using hs
  have hBS:=Vt (a:=bb) (lb:=0) (rb:=0) (hbL vs);exact KN hu (yN hX hlab h1 h2 h3 h4 WM ⟨h5,h6⟩ hBS hs) Q hQ
 ·replace hs:Vr n i lab tg (b.Zu.list (n+h.own) (i+1)) S=some S':=by simpa [Y8,hk]using hs
  have hBS:=Vt (a:=bb) (lb:=0) (rb:=0) (hbL vs);exact J5 hu (range_any hX hlab h1 h2 WM ⟨h3,h4⟩ hBS hs) Q hQ
 ·have hk13:(h.kind==13)=true:=by simp[hk]
  rw[hk13]at fc;exact JO hu (JG hX hlab h1 h2 h3 h4 h5 co hc fc (by simpa [Y8,hk]using hs)) Q hQ
 ·have hk13:(h.kind==13)=false:=by simp[hk]
  rw[hk13]at fc;exact Jq hu (Gq hX hlab h1 h2 h3 h4 h5 co hc fc (by simpa [Y8,hk]using hs)) Q hQ
 ·have hk13:(h.kind==13)=false:=by simp[hk]
  rw[hk13]at fc;exact Ko hu (JX hX hlab h1 h2 h3 co hc fc (by simpa [Y8,hk]using hs)) Q hQ
 ·exact Qe hX hu h1 (fun lv hlv=>hbL vs lv w B bq b0 A L S S' tg hX ⟨hlv,h2⟩ (by simpa [Y8,hk]using hs)) Q hQ
 ·obtain⟨a,lv,hu,ha,hlv⟩:=hu;have hs':S.Zg 17 h.target tg=some S':=by simpa [Y8,hk]using hs
  rcases hlv with⟨hz,rfl⟩ |⟨hz,hlv⟩
  ·exact XM hu (Pj hX hz ha hs') Q hQ
  ·exact XM hu (QZ hX hz hlv ha hs') Q hQ
 ·obtain⟨a,lv,hu,ha,hlv⟩:=hu;have hs':S.Zg 18 h.target tg=some S':=by simpa [Y8,hk]using hs
  rcases hlv with⟨hz,rfl⟩ |⟨hz,hlv⟩
  ·exact XM hu (Pv hX hz ha hs') Q hQ
  ·exact XM hu (PY hX hz hlv ha hs') Q hQ
 ·obtain⟨a,lv,hu,ha,hlv⟩:=hu;have hs':S.Zg 19 h.target tg=some S':=by simpa [Y8,hk]using hs
  have hz:=hf.gt hk;rcases hlv with⟨hz',rfl⟩ |⟨hz,hlv⟩
  ·omega
  ·exact XM hu (PK hX hz hlv ha hs') Q hQ
 ·obtain⟨a,lv,hu,ha,hlv⟩:=hu;have hs':S.Zg 20 h.target tg=some S':=by simpa [Y8,hk]using hs
  have hz:h.target.size=0:=by
   rcases Nat.eq_zero_or_pos h.target.size with h0|h0
   ·exact h0
   ·have:=hf.tg h0;omega
  rcases hlv with⟨hz',rfl⟩ |⟨hz',hlv⟩
  ·exact XM hu (Px hX hz ha hs') Q hQ
  ·exact absurd hz' (by decide)
 ·exact JL hX hu (by simpa [Y8,hk]using hs) Q hQ
end
section
attribute [local go_sem] RI Rq Rz Rl RN Ri RD TW RP Ue
variable {w:World} {B b b0:Nat} {A L:List Nat} {S S':BS} {tg:List Tg} {M:Mk}
theorem Dn {P:Program} {c:Code} {Q:Exit->Act->World->Prop} {a:Act} {w:World} (h:c.wp P Q a w):(Code.skip.seq c).wp P Q a w:=wp_seq (wp_skip h)
theorem Lm (h:BX w B b b0 A L S tg M) {a:Nat} {lv u:Value} {s:ByteArray} (ha:Hv w 0 a [lv,.int .i64 0,u] 190) (hlv:Yk (Hv w 0) lv s) {r:Nat × BS} (hs:S.VN s true=some r) {y:ByteArray × Lb} (hy:r.2.Z4[r.1]? =some y) {S2:BS} (h2:r.2.Zm y.2.go=some S2)
  (hu: ∃ tt pp,u=.iface tt pp) {P:Hp->Prop} (hP:Wu P) (hp:P (Hv w 0))
  (hcore: ∀ (w1:World) (A1 L1:List Nat) (la l ga:Nat),BX w1 B b b0 A1 L1 (S2.at y.2.go) tg M->L1[r.1]? =some l->P (Hv w1 0)-> ∀ Q:Exit->Act->World->Prop,(∀ a' w',a'.defers= []->YX w1 w' B b b0 A1 L1 S' tg M->Q .normal a' w')->Code.wp Tryz.prog Yo Q ⟨WI b a l ga la u,[]⟩ w1):
  Calls Tryz.prog 85 #[b,.iface 186 (.pointer (some ⟨a,0,none⟩))] w fun e w'=>e=.returned (.tuple #[])∧YX w w' B b b0 A L S' tg M:=by
 obtain⟨tt,pp,rfl⟩:=hu;have hlv':=hlv;obtain⟨la,lo,rfl,_⟩:=hlv;have c0:=ha.2.2.cell 0 rfl;have c2:=ha.2.2.cell 2 rfl;have Hcore:=Z9 hcore;clear hcore;go_enter Tryz.func85,Tryz.ntmps85;go_wp2_with fail
 refine wp_scope_jumps 0 (fun a' w'=> ∃ (A1 L1:List Nat) (l ga:Nat),a'=⟨WI b a l ga la (.iface tt pp),[]⟩∧A <+:A1∧L <+:L1∧BX w' B b b0 A1 L1 (S2.at y.2.go) tg M∧L1[r.1]? =some l∧Fr bT B w w') (fun _ _=>0) rfl ?_ ?_
 ·go_wp2_with fail
  go_step3
  have Hq:=Za hs hy h2;clear hs hy h2;go_wp2_with fail
  refine(KG h Hq.out.1 hlv' ha hlv').mono ?_;rintro e w1 ⟨l,rfl,A1,L1,hA1,hL1,hl1,hC,f1⟩;obtain⟨hs,hy,h2⟩:=Hq.out;clear Hq;obtain⟨gv,bv,cv,hbl,⟨ga,hga,rfl⟩,_,_⟩:=hC.lab hl1 hy;have d1:=hbl.cell 0 rfl;have haC:=ZO f1 ha;have HX:=ZL hA1 hL1;have HG:=Yt hga hs hy h2;have HF:=ZL hl1 f1;clear hl1 hA1 hL1 f1 c0 c2 hga hs hy h2;go_wp2_with fail
  refine(Zx hC HG.out.2.2.2 HG.out.1).mono ?_;rintro e w2 ⟨rfl,hJ,fJ⟩;have hlabs:S2.Z4=r.2.Z4:=by
   obtain⟨c,k,_,_,_,_,rfl⟩:=Rf HG.out.2.2.2;rfl
  obtain⟨gv,bv,cv,hbl2,⟨ga',hga',rfl⟩,_,_⟩:=hJ.lab HF.out.1 (show S2.Z4[r.1]? =some y from by rw[hlabs];exact HG.out.2.2.1);obtain rfl:ga'=ga:=by
   have:=HG.out.1;rw[this]at hga';exact(Option.some.inj hga').symm
  have d2:=hbl2.cell 0 rfl;have haJ:=ZO fJ haC;have c2:=haJ.2.2.cell 2 rfl;obtain⟨bvN,cvN,mvN,tvN,hbN,_,_⟩:=hJ.blk;have c3:=hbN.cell 2 rfl;have c3f:=hbN.free 2;obtain⟨hK,fK⟩:=hJ.setCur hga';have haK:=ZO fK haJ;have c2':=haK.2.2.cell 2 rfl;clear d1 hga' hlabs;go_wp2_with fail
  go_step3
  exact⟨rfl,A1,L1,l,ga',rfl,HX.out.1,HX.out.2,hK,HF.out.1,HF.out.2.trans (fJ.trans fK)⟩
 ·rintro a' w1 ⟨A1,L1,l,ga,rfl,hA1,hL1,hK,hl,f1⟩;refine Dn ?_;have key:=Hcore.out w1 A1 L1 la l ga hK hl (hP _ _ (Hv.bT f1) hp);unfold WI at key ⊢;conv at key=>enter [Q,h];arg 2;whnf
  refine key _ ?_;rintro a2 w2 hd ⟨A2,L2,hA2,hL2,h2',f2⟩;exact(show bodyPost Tryz.prog Tryz.f85 (fun e w'=>e=.returned (.tuple #[])∧YX w w' B b b0 A L S' tg M) .normal a2 w2 from bodyPost_end (v:=.tuple #[]) (results_none rfl _ _ _) hd ⟨rfl,A2,L2,Z7 hA1 hA2,Z7 hL1 hL2,h2',f1.trans f2⟩)
def lX (H:Hp) (h:Hd) (b e c:T) (n i:Nat) (v:Value):Prop:=XK H h.label (VD H h b e c n i) v
theorem lX.mono {H H':Hp} (hH: ∀ b cs t,H b cs t->H' b cs t) {h:Hd} {b e c:T} {n i:Nat} {v:Value} (hv:lX H h b e c n i v):lX H' h b e c n i v:=
 XK.mono hH (fun _ k=>VD.mono hH k) hv
theorem one_any {h:Hd} {b e c:T} (hb:BL M b) (he:BL M e) (hc:c.All (BL M)) (hf:Fm h b e c) (bo:b.ok) (eo:e.ok) (co:c.ok) {n i:Nat} (fit:Fit M n (h.stop++b.stops false++e.stops false++c.stops (h.kind==13))) (hM:M.asked.length<=1000) (v:Value):
  SE M (fun H=>lX H h b e c n i v) v (jB h b e c n i):=by
 intro w B bq b0 A L S S' tg hX hv hs;unfold jB OA at hs;rcases hv with⟨hz,hu⟩ |⟨hz,a,lv,u,rfl,ha,hlv,hu⟩
 ·rw[if_pos hz]at hs;exact U3 hu.iface fun Q hQ=>MP (f:=none) hX (.inl ⟨rfl,rfl⟩) hb he hc hf bo eo co fit hM hu hs Q hQ
 ·rw[if_neg (by omega)]at hs;simp only[Option.bind_eq_some_iff]at hs;obtain⟨r,h1,y,h2,S2,h3,h4⟩:=hs;exact Lm hX ha hlv h1 h2 h3 hu.iface (P:=fun H=>VD H h b e c n i u) (fun _ _ hH k=>VD.mono hH k) hu (fun w1 A1 L1 la l ga h5 h6 h7 Q hQ=>MP (f:=some (_,_,_,_)) h5 (.inr ⟨_,_,rfl,rfl,h6⟩) hb he hc hf bo eo co fit hM h7 h4 Q hQ)
def wW (M:Mk) (w:World) (B b b0:Nat) (A L:List Nat) (tg:List Tg) (t:T) (vs:List Value) (S':BS) (ix:Value) (wr:World):Prop:=
 ∃ (k:Nat) (rest:T) (n i:Nat) (A1 L1:List Nat) (S1:BS),ix=.int .i64 k∧k+rest.len=t.len∧rest.All (BL M)∧rest.ok∧Fit M n (rest.stops false)∧A <+:A1∧L <+:L1∧
  BX wr B b b0 A1 L1 S1 tg M∧Fr bT B w wr∧rest.Ast (Hv wr 0) 0 n i (vs.drop k)∧rest.Zu.list n i tg S1=some S'
theorem Cj {h:Hd} {b e c tl:T} {n i:Nat} {tg:List Tg} {S:BS} :(T.st h b e c tl).Zu.list n i tg S=(jB h b e c n i tg S).bind fun S1=>tl.Zu.list (n+h.own+b.lv false+e.lv false+c.lv (h.kind==13)) (i+1+b.it+e.it+c.it) tg S1:=rfl
theorem Dj {h:Hd} {b e c tl:T} {n:Nat} (hf:Fm h b e c) (bo:b.ok) (eo:e.ok) (co:c.ok) (fit:Fit M n ((T.st h b e c tl).stops false)):
  Fit M n (h.stop++b.stops false++e.stops false++c.stops (h.kind==13))∧Fit M (n+h.own+b.lv false+e.lv false+c.lv (h.kind==13)) (tl.stops false):=by
 simp only[T.stops]at fit;refine⟨fit.left,?_⟩;have:=fit.right (k:=h.own+b.lv false+e.lv false+c.lv (h.kind==13)) (by simp[hf.Wq,T.Yp bo,T.Yp eo,T.Yp co,Nat.add_assoc]);simpa [Nat.add_assoc]using this
theorem Ai (hM:M.asked.length<=1000) (t:T) (hall:t.All (BL M)) (hok:t.ok) (n i:Nat) (hfit:Fit M n (t.stops false)) (vs:List Value) (lv:Value):Qg M (fun H=>PN H lv vs 96∧t.Ast H 0 n i vs) lv (t.Zu.list n i):=by
 intro w B b b0 A L S S' tg hX ⟨harr,hast⟩ hs;have hlen:=RF hast;obtain⟨la,lcap,rfl⟩: ∃ la lcap,lv=.slice la vs.length lcap:=by
  rcases harr with⟨rfl,rfl⟩ |⟨g,cap,rest,h1,h2,h3,rfl,h4⟩
  ·exact⟨_,_,rfl⟩
  ·exact⟨_,_,rfl⟩
 have hvl:vs.length<=2000000:=by
  rcases harr with⟨rfl,_⟩ |⟨g,cap,rest,h1,h2,h3,_,h4⟩
  ·simp
  ·exact h3
 have HG:=ZL hs hlen;clear hs hlen;have HC:=Yt hast hok hall hfit;clear hast hok hall hfit;go_enter Tryz.func101,Tryz.ntmps101;go_wp2_with fail
 go_loopw [8] (fun ix wr=>wW M w B b b0 A L tg t vs S' ix wr) (fun ix _=>vs.length -(intOf ix).toNat)
 case atStart=>exact⟨0,t,n,i,A,L,S,rfl,by simp,HC.out.2.2.1,HC.out.2.1,HC.out.2.2.2,ZT _,ZT _,hX,Fr.refl _ _ _,by simpa using HC.out.1,HG.out.1⟩
 case round=>
  obtain⟨k,rest,n1,i1,A1,L1,S1,rfl,hlen',hall',hok',hfit',hA1,hL1,h1,f1,hast,hbld⟩:=hrel;have hlen:=HG.out.2;cases rest with
  |cl x bd tl=>
   obtain⟨v,vs',_,hcl,_⟩:=hast;rcases hcl with⟨hm,_⟩ |⟨hm,_⟩ |⟨hm,_⟩<;>omega
  |nil=>
   have hk: ¬ k < vs.length:=by rw[hlen];simp[T.len]at hlen';omega
   have hbld:S1=S':=by simpa [T.Zu]using hbld
   subst hbld;have P1:=ZL hA1 hL1;clear hlen hlen' hA1 hL1 hast;go_wp2_with fail
   go_end0
   exact⟨rfl,YX.of P1.out.1 P1.out.2 h1 f1⟩
  |st hd b1 e1 c1 tl=>
   have hk:k < vs.length:=by rw[hlen];simp[T.len]at hlen';omega
   obtain⟨_,v,vs',hdrop,hst,htl⟩:=hast;obtain⟨hvk,hdrop'⟩:=drop_cons hdrop;obtain⟨ga,gcap,hlv,hcell0⟩:=(harr.mono (Hv.bT f1)).cell hvk;obtain rfl:la=some ⟨ga,0,none⟩:=by simp at hlv;exact hlv.1
   obtain⟨q1,q2,q3,q4⟩:=hall';obtain⟨p0,p1,p2,p3,p4⟩:=hok';obtain⟨hfs,hft⟩:=Dj p0 p1 p2 p3 hfit';have hone:=one_any q1 q2 q3 p0 p1 p2 p3 (n:=n1) (i:=i1) hfs hM v;rw[Cj,Option.bind_eq_some_iff]at hbld;obtain⟨S2,g2,g3⟩:=hbld;have htl':tl.Ast (Hv wr 0) 0 (n1+hd.own+b1.lv false+e1.lv false+c1.lv (hd.kind==13)) (i1+1+b1.it+e1.it+c1.it) (vs.drop (k+1)):=by rw[hdrop'];exact htl
   have hv1:lX (Hv wr 0) hd b1 e1 c1 n1 i1 v:=hst;obtain⟨tv,pv,rfl⟩: ∃ tv pv,v=.iface tv pv:=by
    rcases hst with⟨_,hu⟩ |⟨_,a,lv,u,rfl,_⟩
    ·exact VD.iface hu
    ·exact⟨_,_,rfl⟩
   have HQ:=XG hA1 hL1 hlen' g2 g3;have HO:=Z9 hone;clear hlv hlen hlen' hA1 hL1 g2 g3 hvk hdrop hdrop' htl hone hst hfit' hfs;go_wp2_with fail
   refine(HO.out _ _ _ _ _ _ _ _ _ h1 hv1 HQ.out.2.2.2.1).mono ?_;rintro e w3 ⟨rfl,A3,L3,hA3,hL3,h3,f3⟩
   have hR:wW M w B b b0 A L tg t vs S' (.int .i64 ((k:Int)+1)) w3:=
    ⟨k+1,tl,_,_,A3,L3,S2,by simp,by have:=HQ.out.2.2.1;simp[T.len]at this;omega,q4,p4,hft,Z7 HQ.out.1 hA3,Z7 HQ.out.2.1 hL3,h3,f1.trans f3,htl'.mono (Hv.bT f3),HQ.out.2.2.2.2⟩
   have HR:=Z9 hR;clear hR hA3 hL3;go_wp2_with fail
   exact⟨HR.out,by simp[intOf];omega⟩
theorem Gs (hM:M.asked.length<=1000): ∀ t:T,BL M t:=T.Xl fun t hall hok n i hfit=>by
 refine⟨Ai hM t hall hok n i hfit,fun v=>?_⟩;cases t with
 |nil=>intro w B b b0 A L S S' tg hX hast hs;cases(show [v]= []from hast)
 |cl x bd tl=>
  intro w B b b0 A L S S' tg hX hast hs;obtain⟨v,vs',_,hcl,_⟩:=hast;rcases hcl with⟨hm,_⟩ |⟨hm,_⟩ |⟨hm,_⟩<;>omega
 |st hd b1 e1 c1 tl=>
  intro w B b b0 A L S S' tg hX hast hs;obtain⟨_,v',vs',hv,hst,htl⟩:=hast;cases hv;obtain⟨q1,q2,q3,q4⟩:=hall;obtain⟨p0,p1,p2,p3,p4⟩:=hok;obtain⟨hfs,hft⟩:=Dj p0 p1 p2 p3 hfit;have hnil:tl=.nil:=by
   cases tl with
   |nil=>rfl
   |st=>obtain⟨_,v,vs',hv,_⟩:=htl;cases hv
   |cl=>obtain⟨v,vs',hv,_⟩:=htl;cases hv
  subst hnil;rw[Cj,Option.bind_eq_some_iff]at hs;obtain⟨S2,g2,g3⟩:=hs;have:S2=S':=by simpa [T.Zu]using g3
  subst this;exact one_any q1 q2 q3 p0 p1 p2 p3 hfs hM v w B b b0 A L S S2 tg hX hst g2
end
section
variable {w w':World} {B b b0:Nat} {A L:List Nat} {S S':BS} {tg:List Tg} {M:Mk}
inductive Reach (bks:List Bk):Nat->Prop
 |zero:Reach bks 0
 |step {i s:Nat} {k:Bk} :Reach bks i->bks[i]? =some k->s∈k.succs->Reach bks s
def BS.lived (S:BS) (f:Nat->Bool):BS:= { S with bks:=S.bks.mapIdx fun i k=> { k with live:=f i } }
theorem XO {f:Nat->Bool} {i:Nat} {k:Bk} (h:S.bks[i]? =some k):(S.lived f).bks[i]? =some { k with live:=f i } :=by
 simp[BS.lived,h]
theorem sJ {f:Nat->Bool} {i:Nat} {k:Bk} (h:(S.lived f).bks[i]? =some k): ∃ k0,S.bks[i]? =some k0∧k= { k0 with live:=f i } :=by
 simp only[BS.lived,List.getElem?_mapIdx,Option.map_eq_some_iff]at h;obtain⟨k0,h1,rfl⟩:=h;exact⟨k0,h1,rfl⟩
theorem JJ (h: ∀ k∈S.bks,k.live=false):S.lived (fun _=>false)=S:=by
 unfold BS.lived;have:(S.bks.mapIdx fun _ k=>({ k with live:=false } :Bk))=S.bks:=by
  apply List.ext_getElem?;intro i;simp only[List.getElem?_mapIdx];cases hk:S.bks[i]? with
  |none=>rfl
  |some k=>
   have:=h k (List.mem_of_getElem? hk);cases k;simp at this;subst this;rfl
 rw[this]
theorem Wp {f:Nat->Bool} :(S.lived f).bks.length=S.bks.length:=by simp[BS.lived]
theorem BX.zT {f:Nat->Bool} (h:BX w B b b0 A L (S.lived f) tg M) {c a:Nat} {k:Bk} (hk:S.bks[c]? =some k) (ha:A[c]? =some a):
  BX (w.setCell ⟨a,3,none⟩ (.bool true)) B b b0 A L (S.lived fun i=>f i||i==c) tg M∧Fr bT B w (w.setCell ⟨a,3,none⟩ (.bool true)):=by
 obtain⟨NV,h⟩:=h;have hk':=XO (f:=f) hk;have hlt:=(List.getElem?_eq_some_iff.1 hk').1;have hln:c < NV.length:=by have:=h.lenN;omega
 have hnv:NV[c]? =some NV[c]:=List.getElem?_eq_getElem hln;obtain⟨a',sv,p0,p1,ns,g1,g2,g3,g4,g5,g6,g7,g8,g9⟩:=h.bks c _ _ hk' hnv;rw[ha]at g1;cases g1;have hBa:=h.base a (List.mem_of_getElem? ha);have f2:Fr bT B w (w.setCell ⟨a,3,none⟩ (.bool true)):=(Fr.refl _ _ _).Y1 _ _ g2.ty (by decide) hBa;have o2:Only [a] w (w.setCell ⟨a,3,none⟩ (.bool true)):=(Only.refl _ _).set _ _ (.inl (by simp))
 have hU:=h.upd (nv':=NV[c]) ha hnv o2 f2 (fun x hx=>.inl (by simpa using hx)) (k':= { k with live:=true })
  ⟨a,sv,p0,p1,ns,ha,g2.set 3 (.bool true),ZA o2 g3 (fun x hx hc=>ZN.ne (h.Jo _ (List.mem_of_getElem? hnv) x hx) g2.ty (by decide) (by simpa using hc)),g4,fun j v n e1 e2=>(g5 j v n e1 e2).mono (Hv.bT f2),g6.mono (Hv.bT f2),g7,g8,g9⟩ (fun x hx=>.inl hx)
 have eN:NV.set c NV[c]=NV:=by simp
 rw[eN]at hU;have eS:(S.lived f).set c { k with live:=true } =S.lived fun i=>f i||i==c:=by
  unfold BS.set BS.lived;simp only[BS.mk.injEq,and_true];apply List.ext_getElem?;intro i;by_cases hi:c=i
  ·subst hi;have hc:c < S.bks.length:=by simpa [BS.lived]using hlt
   rw[List.getElem?_set_self (by simpa using hc)];simp[hk]
  ·rw[List.getElem?_set_ne hi];simp only[List.getElem?_mapIdx];cases S.bks[i]? with
   |none=>rfl
   |some k2=>simp[show(i==c)=false by simp;omega]
 rw[eS]at hU;exact⟨⟨NV,hU⟩,f2⟩
theorem BX.keep (h:BX w B b b0 A L S tg M) {X:List Nat} (ho:Only X w w') (hf:Fr bT B w w') {bv mk cv mv tv:Value} (hb:ZV w b [bv,mk,cv,mv,tv] 136) (hX: ∀ x∈X,ZN w x 92∧bv.ownBlock≠some x):BX w' B b b0 A L S tg M:=by
 obtain⟨NV,h⟩:=h;have nX: ∀ x t,ZN w x t->t≠92->x∉X:=by
  intro x t hx h1 hc;exact ZN.ne hx (hX x hc).1 h1 rfl
 have hA:A <+:A:=⟨[],by simp⟩
 obtain⟨bv',cv',mv',tv',hb',hbv,hcv,hlv,htv⟩:=h.self;obtain⟨he,_⟩:=hb.inj hb';obtain rfl:bv=bv':=by simp at he;exact he.1
 have hbX: ∀ k,bv.ownBlock=some k->k∉X:=by
  intro k hk hc;exact(hX k hc).2 hk
 obtain⟨sv,lv,av,ps,hB2,hm,hsv,hlvm,hps,hn,hav⟩:=h.mak
 exact⟨NV,h.hB,h.lenA,h.lenN,h.nodup,h.base,h.apart,fun i k nv hk hn=>(h.bks i k nv hk hn).only ho hf hA (fun a ha=>nX a 99 (h.BR a (List.mem_of_getElem? ha)) (by decide)) (fun g hg=>nX g 104 (h.Jo nv (List.mem_of_getElem? hn) g hg) (by decide)),
  ⟨sv,lv,av,ps,hB2,hm.only ho (nX _ _ hm.ty (by decide)),ZA ho hsv (fun k hk=>nX _ _ (ZK hsv hk) (by decide)),ZA ho hlvm (fun k hk=>nX _ _ (ZK hlvm hk) (by decide)),fun p hp=>let⟨s,hs⟩:=hps p hp;⟨s,hs.only ho (nX _ _ hs.ty (by decide))⟩,hn,ZA ho hav (fun k hk=>nX _ _ (ZK hav hk) (by decide))⟩,
  ⟨bv,cv',mv',tv',hb'.only ho (nX _ _ hb'.ty (by decide)),ZA ho hbv hbX,hcv,hlv.only ho hA (fun l hl=>nX l 193 (hlv.ty l hl) (by decide)) (fun mb hmb hc=>hlv.XY hmb (hX mb hc).1 rfl),htv.mono (Hv.bT hf) hA⟩⟩
theorem BX.at (h:BX w B b b0 A L S tg M) {i a:Nat} {k:Bk} (hk:S.bks[i]? =some k) (ha:A[i]? =some a):
  ∃ nv sv p0 p1,ZV w a [nv,.slice (some ⟨a,7,none⟩) k.succs.length 2,.int .i32 i,k.live,k.Zn,.int .u8 k.kind,sv,p0,p1] 99∧k.succs.length<=2∧
   ∀ (j s:Nat),k.succs[j]? =some s-> ∃ q,A[s]? =some q∧w.cell? ⟨a,7+j,none⟩=some (.pointer (some ⟨q,0,none⟩)):=by
 obtain⟨NV,h⟩:=h;have hlt:=(List.getElem?_eq_some_iff.1 hk).1;have hln:i < NV.length:=by have:=h.lenN;omega
 obtain⟨a',sv,p0,p1,ns,g1,g2,g3,g4,g5,g6,⟨q0,g7,g8⟩,⟨q1,g9,g10⟩,g11⟩:=h.bks i _ _ hk (List.getElem?_eq_getElem hln);rw[ha]at g1;cases g1;refine⟨_,sv,p0,p1,g2,g11,fun j s hs=>?_⟩;have hj:=(List.getElem?_eq_some_iff.1 hs).1;rcases(show j=0∨j=1 by omega)with rfl|rfl
 ·have:=g8 s hs;subst this;obtain⟨q,hq,rfl⟩:=g7;exact⟨q,hq,g2.cell 7 rfl⟩
 ·have:=g10 s hs;subst this;obtain⟨q,hq,rfl⟩:=g9;exact⟨q,hq,g2.cell 8 rfl⟩
theorem BX.len (h:BX w B b b0 A L S tg M):A.length=S.bks.length:=by
 obtain⟨NV,h⟩:=h;exact h.lenA
theorem BX.list (h:BX w B b b0 A L S tg M): ∃ bv cv mv tv,ZV w b [bv,.func (.func 67) #[b0] #[],cv,mv,tv] 136∧ZI A cv S.cur∧w.ownsRow B 92 1 bv A.length (A.map fun a=>.pointer (some ⟨a,0,none⟩)):=by
 obtain⟨NV,h⟩:=h;obtain⟨bv,cv,mv,tv,hb,hbv,hcv,_⟩:=h.self;exact⟨bv,cv,mv,tv,hb,hcv,hbv⟩
def SN (A:List Nat) (i:Nat):Value:=.pointer (some ⟨A.getD i 0,0,none⟩)
theorem QS {i a:Nat} (h:A[i]? =some a):SN A i=.pointer (some ⟨a,0,none⟩):=by simp[SN,h]
theorem Aq {base e:Nat} {g cap n:Nat} {xs:List Value} (h:w.ownsRow base e 1 (.slice (some ⟨g,0,none⟩) (n+1) cap) (n+1) xs):w.ownsRow base e 1 (.slice (some ⟨g,0,none⟩) n cap) n (xs.take n):=by
 obtain⟨h1,h2⟩:=h;rcases h2 with⟨h2,_⟩ |⟨g',cap',cur,hv,hg,hh,hc,hm,hs,hx⟩
 ·simp at h2
 ·cases hv;refine⟨by simp;omega,.inr ⟨g,cap,cur,rfl,hg,hh,by omega,hm,hs,?_⟩⟩;rw[<-hx,List.take_take];congr 1;omega
def left (n:Nat) (f:Nat->Bool):Nat:=((List.range n).filter fun i=>!f i).length
theorem FT {n:Nat} {f:Nat->Bool} {c:Nat} (hc:c < n) (hf:f c=false):left n (fun i=>f i||i==c)+1=left n f:=by
 unfold left;have key: ∀ n,((List.range n).filter fun i=>!(f i||i==c)).length+(if c < n then 1 else 0)=((List.range n).filter fun i=>!f i).length:=by
  intro n
  induction n with
  |zero=>simp
  |succ n ih=>
   rw[List.range_succ,List.filter_append,List.filter_append,List.length_append,List.length_append];by_cases h1:c=n
   ·subst h1;rw[if_neg (Nat.lt_irrefl c)]at ih;simp[hf]at ih ⊢;omega
   ·have h2:(n==c)=false:=by simp;omega
    by_cases h3:c < n
    ·rw[if_pos h3]at ih;rw[if_pos (by omega),show(List.filter (fun i=>!(f i||i==c)) [n])=List.filter (fun i=>!f i) [n]by simp[List.filter_cons,h2]];omega
    ·rw[if_neg h3]at ih;rw[if_neg (by omega),show(List.filter (fun i=>!(f i||i==c)) [n])=List.filter (fun i=>!f i) [n]by simp[List.filter_cons,h2]];omega
 have:=key n;rw[if_pos hc]at this;exact this
structure Lv (bks:List Bk) (f:Nat->Bool) (qs:List Nat):Prop where
 mark: ∀ i,f i=true->Reach bks i∧i < bks.length
 queue: ∀ i∈qs,Reach bks i∧i < bks.length
 next: ∀ (i:Nat) (k:Bk),f i=true->bks[i]? =some k-> ∀ s∈k.succs,f s=true∨s∈qs
 first:f 0=true∨0∈qs
theorem Lv.done {bks:List Bk} {f:Nat->Bool} (h:Lv bks f []) (hr: ∀ (i:Nat) (k:Bk),bks[i]? =some k-> ∀ s∈k.succs,s < bks.length): ∀ i,f i=true↔Reach bks i:=by
 intro i;refine⟨fun hi=>(h.mark i hi).1,fun hi=>?_⟩
 induction hi with
 |zero=>simpa using h.first
 |step _ hk hs ih=>simpa using h.next _ _ ih hk _ hs
theorem Lv.skip {bks:List Bk} {f:Nat->Bool} {qs:List Nat} {c:Nat} (h:Lv bks f (qs++ [c])) (hc:f c=true):Lv bks f qs:=by
 refine⟨h.mark,fun i hi=>h.queue i (by simp[hi]),fun i k hi hk s hs=>?_,?_⟩
 ·rcases h.next i k hi hk s hs with h1|h1
  ·exact .inl h1
  ·simp at h1;rcases h1 with h1|rfl
   ·exact .inr h1
   ·exact .inl hc
 ·rcases h.first with h1|h1
  ·exact .inl h1
  ·simp at h1;rcases h1 with h1|rfl
   ·exact .inr h1
   ·exact .inl hc
theorem Lv.take {bks:List Bk} {f:Nat->Bool} {qs:List Nat} {c:Nat} {k:Bk} (h:Lv bks f (qs++ [c])) (hk:bks[c]? =some k) (hr: ∀ s∈k.succs,s < bks.length):Lv bks (fun i=>f i||i==c) (qs++k.succs):=by
 have hc:=(h.queue c (by simp)).1;have hlt:=(List.getElem?_eq_some_iff.1 hk).1;refine⟨fun i hi=>?_,fun i hi=>?_,fun i k' hi hk' s hs=>?_,?_⟩
 ·simp at hi;rcases hi with hi|rfl
  ·exact h.mark i hi
  ·exact⟨hc,hlt⟩
 ·simp at hi;rcases hi with hi|hi
  ·exact h.queue i (by simp[hi])
  ·exact⟨.step hc hk hi,hr i hi⟩
 ·simp at hi;rcases hi with hi|rfl
  ·rcases h.next i k' hi hk' s hs with h1|h1
   ·exact .inl (by simp[h1])
   ·simp at h1;rcases h1 with h1|rfl
    ·exact .inr (by simp[h1])
    ·exact .inl (by simp)
  ·rw[hk]at hk';cases hk';exact .inr (by simp[hs])
 ·rcases h.first with h1|h1
  ·exact .inl (by simp[h1])
  ·simp at h1;rcases h1 with h1|rfl
   ·exact .inr (by simp[h1])
   ·exact .inl (by simp)
theorem Fr.UL {T:List Nat} {B:Nat} {a b c:World} (h:Fr T B a b) {row:Option Nat} (hg:b.grownBy c row) (hB:B<=b.heap.size) (hr: ∀ k,row=some k->a.heap.size<=k∧B<=k):Fr T B a c:=by
 refine⟨h.below.grown hg hB (fun k hk=>(hr k hk).2),fun k cs t f hk ht=>?_⟩;have hb:=h.keep k cs t f hk ht;have hlt:=ZN.lt ⟨_,_,hb⟩;rw[hg.block k hlt ?_]
 ·exact hb
 ·intro e';have:=(hr k e'.symm).1;have:=ZN.lt ⟨_,_,hk⟩;omega
noncomputable def ZB (bks:List Bk) (i:Nat):Bool:= @decide (Reach bks i) (Classical.propDecidable _)
theorem DI {bks:List Bk} {f:Nat->Bool} (h: ∀ i,f i=true↔Reach bks i):f=ZB bks:=by
 funext i;unfold ZB;have:=h i;cases hf:f i
 ·simp[hf]at this;simp[this]
 ·simp[hf]at this;simp[this]
def BS.FB (S:BS) (f:Nat->Bool) (c:Nat):Option BS:=if f c then(S.lived f).Vl.bind fun S1=>S1.Zc ⟨2,true⟩else some (S.lived f)
theorem FU {base e n:Nat} {v:Value} {xs:List Value} (h:w.ownsRow base e 1 v n xs) (hv:v≠ .slice none 0 0): ∃ g cap,v=.slice (some ⟨g,0,none⟩) n cap∧base<=g∧g < w.heap.size∧n<=cap:=by
 have hlt:=h.lt;rcases h.2 with⟨h1,_⟩ |⟨g,cap,cur,rfl,hg,_,hc,_⟩
 ·exact absurd h1 hv
 ·exact⟨g,cap,rfl,hg,(hlt g rfl).2,hc⟩
theorem BX.alloc (h:BX w B b b0 A L S tg M) (o:Obj):BX (w.alloc o) B b b0 A L S tg M∧Fr bT B w (w.alloc o):=by
 obtain⟨NV,h⟩:=h;obtain⟨h1,f1⟩:=h.alloc o;exact⟨⟨NV,h1⟩,f1⟩
end
section
variable {w w':World} {B b b0:Nat} {A L:List Nat} {S S':BS} {tg:List Tg} {M:Mk}
def BS.none:BS:=⟨[],Option.none,[],[]⟩
theorem BX.init (hm:Z8 w B b0 M) (hB:B<=w.heap.size):BX (w.alloc (.cells [.slice .none 0 0,.func (.func 67) #[.pointer (some ⟨b0,0,.none⟩)] #[],.pointer .none,.map .none,.pointer .none].toArray 136)) B w.heap.size b0 [] [] BS.none [] M:=by
 have f:Fr bT B w (w.alloc (.cells [.slice .none 0 0,.func (.func 67) #[.pointer (some ⟨b0,0,.none⟩)] #[],.pointer .none,.map .none,.pointer .none].toArray 136)):=(Fr.refl _ _ _).alloc hB _;have f0:Fr [] B w (w.alloc (.cells [.slice .none 0 0,.func (.func 67) #[.pointer (some ⟨b0,0,.none⟩)] #[],.pointer .none,.map .none,.pointer .none].toArray 136)):=(Fr.refl _ _ _).alloc hB _;have hma:M.ask []=M:=by simp[Mk.ask]
 refine⟨[],hB,rfl,rfl,List.nodup_nil,by simp,fun i j vi vj g _ hi=>by simp at hi,fun i k nv hk=>by simp[BS.none]at hk,?_,_,_,_,_,ZV.new w _ _,World.ownsRow_nil _ _ _ _,rfl,⟨rfl,List.nodup_nil,by simp,fun j l s x hl=>by simp at hl,.inl ⟨rfl,rfl⟩⟩,rfl⟩;show Z8 _ B b0 (M.ask []);rw[hma];exact hm.fr f0 (by simp)
theorem Nu {a:Nat} {lv:Value} (ha:Hv w 0 a [.int .i64 3,lv,.int .i64 2] 146):
  Calls Tryz.prog 87 #[a] w fun e w'=>e=.returned (.int .i64 3)∧w=w':=by
 have c2:=ha.2.2.cell 2 rfl;go_enter Tryz.func87,Tryz.ntmps87
 go_wp2
 go_ret;exact⟨rfl,rfl⟩
def Iw (w:World) (B b b0:Nat) (A L:List Nat) (S:BS) (M:Mk) (base:Nat) (bv0:Value) (k:Nat) (qv:Value) (wr:World):Prop:=
 ∃ (qs:List Nat) (f:Nat->Bool),k=3*left S.bks.length f+qs.length∧qs.length+2*left S.bks.length f<=2*S.bks.length+1∧Lv S.bks f qs∧wr.ownsRow base 92 1 qv qs.length (qs.map (SN A))∧qv≠ .slice none 0 0∧
  BX wr B b b0 A L (S.lived f) [] M∧Fr bT B w wr∧(∃ mk cv mv tv,ZV wr b [bv0,mk,cv,mv,tv] 136)
def vH (S:BS) (w:World) (v8 ix:Value) (wr:World):Prop:=wr=w∧ ∃ k:Nat,ix=.int .i64 k∧v8=.bool true∧ ∀ (j:Nat) (kj:Bk),j < k->S.bks[j]? =some kj->(kj.live&&kj.Zn)=false
theorem new_any (hm:Z8 w B b0 M) (hMa:M.asked.length<=1000) (hB:B<=w.heap.size) {t:T} (hok:t.ok) (hfit:Fit M 0 (t.stops false)) {a:Nat} {vs:List Value} (hbl:Zz (Hv w 0) a 3 2 vs) (hast:t.Ast (Hv w 0) 0 0 0 vs)
  (hbld:t.Zu.list 0 0 [] ((BS.none.new 2 (some 3)).at 0)=some S) {c:Nat} (hcur:S.cur=some c) (hlive: ∀ k∈S.bks,k.live=false) (hr: ∀ (i:Nat) (k:Bk),S.bks[i]? =some k-> ∀ s∈k.succs,s < S.bks.length) (hlen:S.bks.length<=100000) (hpos:0 < S.bks.length) {S3:BS} (hfin:S.FB (ZB S.bks) c=some S3):
  Calls Tryz.prog 65 #[a,.func (.func 67) #[b0] #[]] w fun e w'=> ∃ ga b bv A' L' mk cv mv tv,e=.returned (.pointer (some ⟨ga,0,none⟩))∧ZV w' ga [bv,!S3.bks.any fun k=>k.live&&k.Zn] 91∧ZV w' b [bv,mk,cv,mv,tv] 136∧BX w' B b b0 A' L' S3 [] M∧Fr bT B w w':=by
 obtain⟨lv,ha,harr⟩:=hbl;have hX:=BX.init hm hB;have fX:Fr bT B w (w.alloc (.cells [.slice .none 0 0,.func (.func 67) #[.pointer (some ⟨b0,0,.none⟩)] #[],.pointer .none,.map .none,.pointer .none].toArray 136)):=(Fr.refl _ _ _).alloc hB _;have haX:=ZO fX ha;have hS1:BS.none.newP 2 (some 3)=some (BS.none.new 2 (some 3)):=by simp[BS.newP,BS.none]
 have HG:=Sl hbld hcur hlive hr hpos hfin;clear hbld hcur hlive hr hpos hfin;go_enter Tryz.func65,Tryz.ntmps65;go_wp2_with fail
 refine(Zo hX hS1 (Zh (ty:=86) (t0:=146) (by decide) haX)).mono ?_;rintro e w1 ⟨a1,rfl,A1,hA1,ha1,h1,f1⟩;have P1:=ZL hA1 ha1;clear hA1 ha1 hS1;obtain⟨bv1,cv1,mv1,tv1,hb1,_,_⟩:=h1.blk;have y1:=hb1.cell 2 rfl;have z1:=hb1.free 2;obtain⟨h2,f2⟩:=h1.setCur P1.out.2;have F2:=fX.trans (f1.trans f2);go_wp2_with fail
 refine((Vt (a:=a) (lb:=3) (rb:=2) ((Gs hMa t hok 0 0 hfit).1 vs)) _ _ _ _ _ _ _ _ _ h2 ⟨⟨lv,ZO F2 ha,harr.mono (Hv.bT F2)⟩,hast.mono (Hv.bT F2)⟩ HG.out.1).mono ?_;rintro e w3 ⟨rfl,A3,L3,hA3,hL3,h3,f3⟩;have F3:=F2.trans f3;obtain⟨bv3,cv3,mv3,tv3,hb3,hcv3,hown3⟩:=h3.list;have hA3l:=h3.len;have hne3:bv3.ownBlock≠none∧ ∃ gb cap,bv3=.slice (some ⟨gb,0,none⟩) A3.length cap:=by
  rcases hown3.2 with⟨_,h0⟩ |⟨g,cap,cur,hv,_⟩
  ·have:=HG.out.2.2.2.2.1;omega
  ·subst hv;exact⟨by simp[Value.ownBlock],g,cap,rfl⟩
 obtain⟨hne3,gb,capb,rfl⟩:=hne3;have hgb:=(hown3.lt gb rfl).2;have ha30: ∃ a30,A3[0]? =some a30:=⟨A3[0]'(by have:=HG.out.2.2.2.2.1;omega),List.getElem?_eq_getElem _⟩
 obtain⟨a30,ha30⟩:=ha30;have hc0:w3.cell? ⟨gb,0,none⟩=some (.pointer (some ⟨a30,0,none⟩)):=by
  rw[World.ownsRow.cellAt hown3 0 (by have:=HG.out.2.2.2.2.1;omega)];simp[ha30]
 have d0:=hb3.cell 0 rfl;obtain⟨i0,hi0,hz0,hz1,hz2⟩:=info_parts NT;have HP:=XG hA3 hL3 hA3l ha30 hcv3;clear hA3 hL3 hA3l ha30 hcv3;have hAl:A3.length<=100000:=by have:=HP.out.2.2.1;omega
 have hApos:0 < A3.length:=by have:=HP.out.2.2.1;have:=HG.out.2.2.2.2.1;omega
 go_wp2_with (at_make;refine wpList_make_own w3 rfl _ _ 89 rfl w3.heap.size 92 i0 (.pointer none) 1 Tryz.underlying89 hi0 hz0 hz1 .i64 .i64 _ A3.length (by rfl) (by rfl) rfl ?b2 ?b3 (Nat.le_refl _) ?_)
 case b2=>rw[hz2];omega
 case b3=>unfold maxLen;omega
 intro w4 hq4 hg4;have hb4:=hb3.grown hg4 (by simp);have e0:=hb4.cell 0 rfl;have hc4:w4.cell? ⟨gb,0,none⟩=some (.pointer (some ⟨a30,0,none⟩)):=by
  unfold World.cell? at hc0 ⊢;rw[hg4.block gb hgb (by simp)];exact hc0
 have sz4:=hg4.size;clear d0 hc0;go_wp2_with (at_builtin;refine ZG w4 rfl _ _ 89 rfl w3.heap.size 92 (.pointer none) 1 8 Tryz.underlying89 NT rfl (by decide) (by decide) hq4 (by rfl) [.pointer (some ⟨a30,0,none⟩)] rfl ?c1 (by rfl) (by omega) (by omega) ?_)
 case c1=>simp[Value.oneCell']
 intro g5 cap5 w5 hq5 hg5 hat5 hlt5;have F35:Fr bT B w3 w5:=((Fr.refl bT B w3).UL hg4 (by have:=h3.choose_spec.leB;omega) (by simp)).UL hg5 (by have:=h3.choose_spec.leB;omega) (fun k hk=>by simp[Value.ownBlock]at hk;have:=h3.choose_spec.leB;omega);have O35:Only [] w3 w5:=((Only.refl [] w3).grown hg4 (by simp)).grown hg5 (fun k hk=>by simp[Value.ownBlock]at hk;omega);have h5:=h3.keep O35 F35 hb3 (by simp);have hb5:=hb3.only O35 (by simp);rw[<-JJ HG.out.2.2.1]at h5;have hlv0:Lv S.bks (fun _=>false) [0]:=⟨fun i hi=>by simp at hi,fun i hi=>by simp at hi;subst hi;exact⟨.zero,HG.out.2.2.2.2.1⟩,fun i k hi=>by simp at hi,.inr (by simp)⟩
 have hl0:left S.bks.length (fun _=>false)<=S.bks.length:=by
  unfold left;have:=List.length_filter_le (fun i:Nat=>!(fun _=>false) i) (List.range S.bks.length);simpa using this
 have hR0:Iw w B w.heap.size b0 A3 L3 S M w3.heap.size (.slice (some ⟨gb,0,none⟩) A3.length capb) (3*left S.bks.length (fun _=>false)+1) (.slice (some ⟨g5,0,none⟩) 1 cap5) w5:=
  ⟨[0],fun _=>false,rfl,by simp;omega,hlv0,by simpa [QS HP.out.2.2.2.1]using hq5,by simp,h5,F3.trans F35,_,_,_,_,hb5⟩
 have HR0:=Z9 hR0;clear hR0 hlv0 hl0 hq5 e0 hc4;go_wp2_with fail
 go_loopg [6] (3*left S.bks.length (fun _=>false)+1) (fun k qv wr=>Iw w B w.heap.size b0 A3 L3 S M w3.heap.size (.slice (some ⟨gb,0,none⟩) A3.length capb) k qv wr)
 case atStart=>exact HR0.out
 case round=>
  obtain⟨qs,f,hk,hbd,hlv,hown,hnn,hX6,hF6,mk6,cv6,mv6,tv6,hb6⟩:=hrel;obtain⟨nq,hnq⟩: ∃ nq,nq=qs.length:=⟨_,rfl⟩
  rw[<-hnq]at hown;obtain⟨gq,capq,rfl,hgq,hgq2,hcq⟩:=FU hown hnn;rcases List.eq_nil_or_concat qs with rfl|⟨qs',i,rfl⟩
  ·obtain rfl:nq=0:=hnq;have hf:f=ZB S.bks:=DI (hlv.done HG.out.2.2.2.1);subst hf;obtain⟨bv7,cv7,mv7,tv7,hb7,hcv7,htv7⟩:=hX6.blk;have hcur:(S.lived (ZB S.bks)).cur=some c:=HG.out.2.1;rw[hcur]at hcv7;obtain⟨ac,hac,rfl⟩:=hcv7;have hcl:c < S.bks.length:=by have:=(List.getElem?_eq_some_iff.1 hac).1;have:=HP.out.2.2.1;omega
   have hkc:=List.getElem?_eq_getElem hcl;generalize S.bks[c]=kc at hkc;obtain⟨nvc,svc,p0c,p1c,hbc,_,_⟩:=hX6.at (XO hkc) hac;have u2:=hb7.cell 2 rfl;have u0:=hb6.cell 0 rfl;have v3:=hbc.cell 3 rfl;have hfin:=HG.out.2.2.2.2.2;have HK:=Yt hac hkc hcur hfin;clear hnn hown hk hbd hlv hcur hac hkc hfin hcl hcq;go_upto_if 68 with(fail)
   go_cut [] (fun wx=>BX wx B w.heap.size b0 A3 L3 S3 [] M∧Fr bT B w wx)
   case first=>
    obtain⟨hac,hkc,hcur,hfin⟩:=HK.out;unfold BS.FB at hfin;cases hfc:ZB S.bks c with
    |false=>
     rw[hfc]at hfin v3;obtain rfl:S.lived (ZB S.bks)=S3:=by simpa using hfin
     clear hac hkc hcur hfin hfc;go_wp2_with fail
     go_meet;exact⟨hX6,hF6⟩
    |true=>
     rw[hfc]at hfin v3;simp only[if_true,Option.bind_eq_some_iff]at hfin;obtain⟨S4,g4,g5'⟩:=hfin;obtain⟨hX7,f7⟩:=hX6.QV g4 hcur hac;have v4:=hbc.cell 4 rfl;have v4f:=hbc.free 4;have ha7:=ZO (hF6.trans f7) ha;have hb77:=hb6.setOther ⟨ac,4,none⟩ (.bool true) (ZN.ne hb6.ty hbc.ty (by decide));have HK2:=Z9 g5';clear hac hkc hcur hfc g4 g5';go_wp2_with fail
     refine(Nu ha7).mono ?_;rintro e w7 ⟨rfl,rfl⟩;obtain⟨hX8,f8⟩:=hX7.alloc (.cells [.int .i64 2,.slice none 0 0].toArray 142);have hnw:=ZV.new (wr.setCell ⟨ac,4,none⟩ (.bool true)) [.int .i64 2,.slice none 0 0] 142;have hsz:(wr.setCell ⟨ac,4,none⟩ (.bool true)).heap.size=wr.heap.size:=by simp[World.setCell]
     rw[hsz]at hnw;have hrt:Xh (Hv ((wr.setCell ⟨ac,4,none⟩ (.bool true)).alloc (.cells [.int .i64 2,.slice none 0 0].toArray 142)) 0) (.iface 101 (.pointer (some ⟨wr.heap.size,0,none⟩))) 2:=⟨wr.heap.size,rfl,Nat.zero_le _,by decide,hnw⟩
     clear hsz;go_wp2_with fail
     refine(YI hX8 HK2.out (.inl ⟨rfl,hrt⟩)).mono ?_;rintro e w9 ⟨rfl,hX9,f9⟩;go_wp2_with fail
     go_meet;exact⟨hX9,hF6.trans (f7.trans (f8.trans f9))⟩
   case rest=>
    obtain⟨hX9,hF9⟩:=hcut;obtain⟨bv9,cv9,mv9,tv9,hb9,_,hown9⟩:=hX9.list;have hA9:=hX9.len;obtain⟨gb9,cap9,rfl⟩: ∃ gb cap,bv9=.slice (some ⟨gb,0,none⟩) A3.length cap:=by
     rcases hown9.2 with⟨_,h0⟩ |⟨g,cap,cur,hv,_⟩
     ·omega
     ·exact⟨g,cap,hv⟩
    have y0:=hb9.cell 0 rfl;have HA9:=Z9 hA9;clear hA9;go_wp2_with fail
    go_loopw [8,83] (fun v8 ix wr=>vH S3 wc v8 ix wr) (fun _ ix _=>A3.length -(intOf ix).toNat)
    case atStart=>exact⟨rfl,0,rfl,rfl,fun j kj hj=>by omega⟩
    case round=>
     obtain⟨rfl,k,rfl,rfl,hall⟩:=hrel;by_cases hkl:k < A3.length
     ·have hak: ∃ ak,A3[k]? =some ak:=⟨_,List.getElem?_eq_getElem hkl⟩
      obtain⟨ak,hak⟩:=hak;have hkb:k < S3.bks.length:=by have:=HA9.out;omega
      have hkk:=List.getElem?_eq_getElem hkb;generalize S3.bks[k]=kk at hkk;obtain⟨nvk,svk,p0k,p1k,hbk,_,_⟩:=hX9.at hkk hak;have q3:=hbk.cell 3 rfl;have q4:=hbk.cell 4 rfl;have hck:wr.cell? ⟨gb9,k,none⟩=some (.pointer (some ⟨ak,0,none⟩)):=by
       rw[World.ownsRow.cellAt hown9 k (by omega)];simp[hak]
      have HK:=Za hall hkk hak;clear hall hkk hak hkb;by_cases hlr:(kk.live&&kk.Zn)=true
      ·obtain⟨e1,e2⟩:kk.live=true∧kk.Zn=true:=by simpa using hlr
       rw[e1]at q3;rw[e2]at q4;clear e1 e2;have Hany:Hid ((S3.bks.any fun k=>k.live&&k.Zn)=true):=Z9 (List.any_eq_true.2 ⟨kk,List.mem_of_getElem? HK.out.2.1,hlr⟩);obtain⟨hX10,f10⟩:=hX9.alloc (.cells [.slice (some ⟨gb9,0,none⟩) A3.length cap9,.bool false].toArray 91);have hb10:=hb9.alloc (.cells [.slice (some ⟨gb9,0,none⟩) A3.length cap9,.bool false].toArray 91);clear hlr;go_wp2_with fail
       go_ret;exact⟨wr.heap.size,w.heap.size,_,A3,L3,_,_,_,_,rfl,by rw[Hany.out];exact ZV.new wr _ _,hb10,hX10,hF9.trans f10⟩
      ·have hR:vH S3 wr (.bool true) (.int .i64 ((k:Int)+1)) wr:=⟨rfl,k+1,by simp,rfl,fun j kj hj hkj=>by
        by_cases hjk:j=k
        ·subst hjk;rw[HK.out.2.1]at hkj;cases hkj;simpa using hlr
        ·exact HK.out.1 j kj (by omega) hkj⟩
       have HR:=Z9 hR;clear hR;cases hl:kk.live with
       |false=>
        rw[hl]at q3;clear hlr hl;go_wp2_with fail
        exact⟨HR.out,by simp[intOf];omega⟩
       |true=>
        have hrr:kk.Zn=false:=by
         rw[hl]at hlr;simpa using hlr
        rw[hl]at q3;rw[hrr]at q4;clear hlr hl hrr;go_wp2_with fail
        exact⟨HR.out,by simp[intOf];omega⟩
     ·have Hany:Hid ((S3.bks.any fun k=>k.live&&k.Zn)=false):=Z9 (by
       rw[List.any_eq_false];intro kj hkj;obtain⟨j,hj,rfl⟩:=List.getElem_of_mem hkj;have:=hall j S3.bks[j] (by have:=HA9.out;omega) (List.getElem?_eq_getElem hj);simpa using this)
      obtain⟨hX10,f10⟩:=hX9.alloc (.cells [.slice (some ⟨gb9,0,none⟩) A3.length cap9,.bool true].toArray 91);have hb10:=hb9.alloc (.cells [.slice (some ⟨gb9,0,none⟩) A3.length cap9,.bool true].toArray 91);clear hall;go_wp2_with fail
      go_ret;exact⟨wr.heap.size,w.heap.size,_,A3,L3,_,_,_,_,rfl,by rw[Hany.out];exact ZV.new wr _ _,hb10,hX10,hF9.trans f10⟩
  ·simp only[List.concat_eq_append]at hk hbd hlv hown hnq;obtain rfl:nq=qs'.length+1:=by simpa using hnq
   clear hnq;obtain⟨hri,hil⟩:=hlv.queue i (by simp);have hki:=List.getElem?_eq_getElem hil;generalize S.bks[i]=ki at hki;have hai: ∃ ai,A3[i]? =some ai:=⟨A3[i]'(by have:=HP.out.2.2.1;omega),List.getElem?_eq_getElem _⟩
   obtain⟨ai,hai⟩:=hai;have hci:wr.cell? ⟨gq,qs'.length,none⟩=some (.pointer (some ⟨ai,0,none⟩)):=by
    rw[World.ownsRow.cellAt hown qs'.length (by omega)];simp[QS hai]
   obtain⟨nv6,sv6,p06,p16,hbk6,hs2,hsu⟩:=hX6.at (XO hki) hai;have t3:=hbk6.cell 3 rfl;have t3f:=hbk6.free 3;have hown':wr.ownsRow w3.heap.size 92 1 (.slice (some ⟨gq,0,none⟩) qs'.length capq) qs'.length (qs'.map (SN A3)):=by
    have:=Aq hown;simpa using this
   have hql:qs'.length+1<=200002:=by simp at hbd;omega
   have hcq2:qs'.length<=capq:=by omega
   have hcq1:(qs'.length:Int)<=capq:=by omega
   clear hcq;cases hfi:f i with
   |true=>
    have hR:Iw w B w.heap.size b0 A3 L3 S M w3.heap.size (.slice (some ⟨gb,0,none⟩) A3.length capb) (3*left S.bks.length f+qs'.length) (.slice (some ⟨gq,0,none⟩) qs'.length capq) wr:=
     ⟨qs',f,rfl,by simp at hbd;omega,hlv.skip hfi,hown',by simp,hX6,hF6,_,_,_,_,hb6⟩
    have HR:=ZL hR hk;rw[hfi]at t3;simp only[List.length_append,List.length_singleton,List.concat_eq_append]at*;clear hR hk hlv hown hnn hri hki hai hfi hsu hbd;go_wp2_with fail
    go_roundg (3*left S.bks.length f+qs'.length)
    case rel=>exact HR.out.1
    case measure=>have:=HR.out.2;omega
   |false=>
    rw[hfi]at t3;obtain⟨hX7,f7⟩:=hX6.zT hki hai;have hbk7:=hbk6.set 3 (.bool true);have r1:=hbk7.cell 1 rfl;have hb7:=hb6.setOther ⟨ai,3,none⟩ (.bool true) (ZN.ne hb6.ty hbk6.ty (by decide));have hgqt:ZN wr gq 92:=ZK hown' rfl;have hown7:=ZH hown' ⟨ai,3,none⟩ (.bool true) (by simp only[Value.ownBlock];exact fun e=>ZN.ne hbk6.ty hgqt (by decide) (by simpa using e));have hnews: ∀ (j:Nat) u,(ki.succs.map (SN A3))[j]? =some u->(wr.setCell ⟨ai,3,none⟩ (.bool true)).cell? (Addr.add ⟨ai,7,none⟩ j)=some u:=by
     intro j u hu;rw[List.getElem?_map,Option.map_eq_some_iff]at hu;obtain⟨s,hs,rfl⟩:=hu;obtain⟨nv8,sv8,p08,p18,hbk8,_,hsu8⟩:=hX7.at (XO hki) hai;obtain⟨q,hq,hc⟩:=hsu8 j s hs;rw[QS hq];by_cases hj0:j=0
     ·subst hj0;simpa [Addr.add]using hc
     ·simpa [Addr.add,hj0]using hc
    have hones: ∀ u∈ki.succs.map (SN A3),u.oneCell'=true:=by
     intro u hu;simp only[List.mem_map]at hu;obtain⟨s,_,rfl⟩:=hu;rfl
    have hk2:ki.succs.length<=2:=hs2;have hrs:=HG.out.2.2.2.1 i ki hki;have hlm:=FT hil hfi;have HK:=Yt hk hbd (hlv.take hki hrs) hlm;have HNW:=Z9 hnews;have HON:=Z9 hones;have sz7:(wr.setCell ⟨ai,3,none⟩ (.bool true)).heap.size=wr.heap.size:=by simp[World.setCell]
    have Hsz:=Z9 sz7;have hw3:w3.heap.size<=wr.heap.size:=by omega
    simp only[List.length_append,List.length_singleton,List.concat_eq_append]at*;clear hk hbd hlv hown hnn hri hki hai hfi hsu hrs hlm hnews hones sz7 hil;go_wp2_with (at_builtin;refine wpList_append_own _ rfl _ _ 89 rfl w3.heap.size 92 i0 (.pointer none) 1 8 Tryz.underlying89 hi0 hz0 hz1 hz2 rfl (by decide) _ qs'.length (qs'.map (SN A3)) (by rfl) hown7 ⟨ai,7,none⟩ ki.succs.length 2 (ki.succs.map (SN A3)) (by rfl) (by simp) HNW.out HON.out ?c1 ?c2 ?c3 ?_)
    case c1=>unfold maxLen;omega
    case c2=>omega
    case c3=>rw[Hsz.out];omega
    intro v8 w8 hown8 hg8 hnil8;obtain⟨hk,hbd,hlv8,hlm⟩:=HK.out;have f78:Fr bT B (wr.setCell ⟨ai,3,none⟩ (.bool true)) w8:=(Fr.refl bT B _).grown hown7 hg8 (by rw[Hsz.out];have:=hX6.choose_spec.leB;omega) (by have:=h3.choose_spec.leB;omega) (.inl (by decide));have o78:Only [gq] (wr.setCell ⟨ai,3,none⟩ (.bool true)) w8:=(Only.refl _ _).grown hg8 (fun k hk=>.inl (by simpa [Value.ownBlock]using hk.symm));have hX8:=hX7.keep o78 f78 hb7 (by
     intro x hx;simp at hx;subst hx;exact⟨hgqt.setCell _ _,by simp[Value.ownBlock];omega⟩)
    have hb8:=hb7.only o78 (by simpa using ZN.ne hb6.ty hgqt (by decide))
    have hR:Iw w B w.heap.size b0 A3 L3 S M w3.heap.size (.slice (some ⟨gb,0,none⟩) A3.length capb) (3*left S.bks.length (fun x=>f x||x==i)+(qs'++ki.succs).length) v8 w8:=
     ⟨qs'++ki.succs,_,rfl,by simp;omega,hlv8,by simpa using hown8,by intro e;exact hnil8 e,hX8,hF6.trans (f7.trans f78),_,_,_,_,hb8⟩
    have HR:=Za hR hk hlm;clear hR hk hbd hlv8 hlm hnil8;go_wp2_with fail
    go_roundg (3*left S.bks.length (fun x=>f x||x==i)+(qs'++ki.succs).length)
    case rel=>exact HR.out.1
    case measure=>have h1:=HR.out.2.1;have h2:=HR.out.2.2;simp;omega
end
end Go.Proofs.YteedbaejpdjilaaGreat
