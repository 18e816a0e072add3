/- Part of the proof: BldZ BuiA BuiB BuiC. -/
import Derived.Test.YteedbaejpdjilaaGreatYPi
import Derived.Test.YteedbaejpdjilaaGreatYPl
import Derived.Test.YteedbaejpdjilaaGreatYPm
import Derived.Test.YteedbaejpdjilaaGreatYPn
import Derived.Test.YteedbaejpdjilaaGreatYPo
import Derived.OwnWalk
import Derived.Laws.EntriesVeiled
import Derived.Deep.LoopGhost
import Derived.Deep.DeepCutAuto
set_option linter.all false
set_option maxRecDepth 100000
set_option maxHeartbeats 40000000
namespace Go.Proofs.YteedbaejpdjilaaGreat
open Go.RowKit Tryz
section
variable {w:World} {B b0:Nat} {A L:List Nat} {S S':BS} {tg:List Tg} {M:Mk}
theorem UB {t:T} {n i a:Nat} {lb rb:Int} {vs:List Value} (h: ∀ lv,OD M (fun H=>NP H lv vs 96/\t.Ast H 0 n i vs) lv (t.YO.list n i)):
  Qp M (fun H=>YW H a lb rb vs/\t.Ast H 0 n i vs) (.iface 86 (.pointer (some ⟨a,0,none⟩))) (t.YO.list n i):=by
 intro w B b b0 A L S S' tg hX hp hs;exact TC ⟨_,_,rfl⟩ fun Q hQ=>OG (f:=none) hX rfl hp.1 (fun lv hlv=>h lv w B b b0 A L S S' tg hX ⟨hlv,hp.2⟩ hs) Q hQ
theorem VF {t:T} {a n i:Nat} {lb rb:Int} {vs:List Value} :Vm (fun H=>YW H a lb rb vs/\t.Ast H 0 n i vs):=fun _ _ hH h=>⟨h.1.mono hH,h.2.mono hH⟩
def cA (h:Hd) (b e c:T) (n i:Nat) (lab:Option Nat) (tg:List Tg) (S:BS):Option BS:=
 Yi h n i lab tg (b.YO.list (n+h.own) (i+1)) (e.YO.list (n+h.own+b.lv false) (i+1+b.it))
  (fun done=>c.YO.sw (n+h.own+b.lv false+e.lv false) (i+1+b.it+e.it) tg done none none) (fun done=>c.YO.ty (n+h.own+b.lv false+e.lv false) (i+1+b.it+e.it) tg done none)
  (fun done=>c.YO.sel (n+h.own+b.lv false+e.lv false) (i+1+b.it+e.it) tg done none) c.YO.comms S
def cy (h:Hd) (b e c:T) (n i:Nat):Lr:=fun tg=>ML h.label (fun lab=>cA h b e c n i lab tg)
def UA (H:Hp) (h:Hd) (b e c:T) (n i:Nat) (u:Value):Prop:=VZ H h n i (b.Ast H 0 (n+h.own) (i+1)) (e.Ast H 0 (n+h.own+b.lv false) (i+1+b.it)) (fun m'=>c.Ast H m' (n+h.own+b.lv false+e.lv false) (i+1+b.it+e.it)) u
theorem UA.iface {H:Hp} {h:Hd} {b e c:T} {n i:Nat} {u:Value} (hu:UA H h b e c n i u): ∃ t p,u=.iface t p:=by
 rcases hu with⟨_,a,c,rfl,_⟩ |⟨_,a,l,x,r,rfl,_⟩ |⟨_,a,x,rfl,_⟩ |⟨_,a,x,y,rfl,_⟩ |⟨_,a,c,rfl,_⟩ |⟨_,a,c,rfl,_⟩ |⟨_,a,g,l,x,rfl,_⟩ |⟨_,a,rfl,_⟩ |⟨_,a,iv,cv,bb,vs,ev,rfl,_⟩ |⟨_,a,iv,cv,pv,bb,vs,rfl,_⟩ |⟨_,a,cv,bb,vs,rfl,_⟩ |
  ⟨_,a,iv,cv,bb,vs,rfl,_⟩ |⟨_,a,iv,gv,bb,vs,rfl,_⟩ |⟨_,a,bb,vs,rfl,_⟩ |⟨_,a,vs,rfl,_⟩ |⟨_,a,lv,rfl,_⟩ |⟨_,a,lv,rfl,_⟩ |⟨_,a,lv,rfl,_⟩ |⟨_,a,lv,rfl,_⟩ |⟨_,a,rfl,_⟩<;>exact⟨_,_,rfl⟩
theorem UA.mono {H H':Hp} (hH: ∀ b cs t,H b cs t->H' b cs t) {h:Hd} {b e c:T} {n i:Nat} {u:Value} (hu:UA H h b e c n i u):UA H' h b e c n i u:=
 VZ.mono hH (fun _ k=>k.mono hH) (fun _ k=>k.mono hH) (fun _ _ k=>k.mono hH) hu
theorem Li {f:NM} {lab:Option Nat} {bq:Nat} (hX:BX w B bq b0 A L S tg M) (hlab:Ls L (D4 f) lab) {h:Hd} {b e c:T} {n i:Nat} {u:Value} (hb:BL M b) (he:BL M e) (hc:c.All (BL M)) (hf:Fm h b e c) (bo:b.ok) (eo:e.ok) (co:c.ok)
  (fit:Fit M n (h.stop++b.stops false++e.stops false++c.stops (h.kind==13))) (hM:M.asked.length<=1000) (hu:UA (Hv w 0) h b e c n i u) (hs:cA h b e c n i lab tg S=some S')
  (Q:Exit->Act->World->Prop) (hQ: ∀ a w',a.defers= []->X8 w w' B bq b0 A L S' tg M->Q .normal a w'):Code.wp prog Xq Q ⟨U6 f bq u,[]⟩ w:=by
 have fs:Fit M n h.stop:=fit.left.left.left;have fb:Fit M (n+h.own) (b.stops false):=fit.left.left.right hf.Vo;have fe:Fit M (n+h.own+b.lv false) (e.stops false):=by
  have:=fit.left.right (k:=h.own+b.lv false) (by simp[hf.Vo,T.Xx bo]);rwa [<-Z3]at this
 have fc:Fit M (n+h.own+b.lv false+e.lv false) (c.stops (h.kind==13)):=by
  have:=fit.right (k:=h.own+b.lv false+e.lv false) (by simp[hf.Vo,T.Xx bo,T.Xx eo,Z3]);rwa [<-Z3,<-Z3]at this
 clear fit;obtain⟨hbL,hbS⟩:=hb bo _ (i+1) fb;obtain⟨heL,heS⟩:=he eo _ (i+1+b.it) fe;unfold cA at hs
 rcases hu with⟨hk,hu⟩ |⟨hk,hu⟩ |⟨hk,hu⟩ |⟨hk,hu⟩ |⟨hk,hu⟩ |⟨hk,hu⟩ |⟨hk,hu⟩ |⟨hk,hu⟩ |⟨hk,a,iv,cv,bb,vs,ev,hu,h1,h2,h3,h4,h5,h6⟩ |⟨hk,a,iv,cv,pv,bb,vs,hu,h1,h2,h3,h4,h5,h6⟩ |⟨hk,a,cv,bb,vs,hu,h1,h2,h3,h4⟩ |
  ⟨hk,a,iv,cv,bb,vs,hu,h1,h2,h3,h4,h5⟩ |⟨hk,a,iv,gv,bb,vs,hu,h1,h2,h3,h4,h5⟩ |⟨hk,a,bb,vs,hu,h1,h2,h3⟩ |⟨hk,a,vs,hu,h1,h2⟩ |⟨hk,hu⟩ |⟨hk,hu⟩ |⟨hk,hu⟩ |⟨hk,hu⟩ |⟨hk,hu⟩
 .rcases hk with hk|hk
  .have own:1<=h.own:=by simp[Hd.own,hk];omega
   have hst:M.stops[n]? =some false:=by
    have:=fs 0 false (by unfold Hd.stop;rw[if_neg (by omega),List.getElem?_replicate,if_pos (by omega)]);simpa using this
   exact FN hX hu hst hM (by simpa [Yi,hk]using hs) Q hQ
  .have hst:M.stops[n]? =some true:=by
    have:=fs 0 true (by simp[Hd.stop,hk]);simpa using this
   exact FM hX hu hst hM (by simpa [Yi,hk]using hs) Q hQ
 .exact Qq hX hu (by simpa [Yi,hk]using hs) Q hQ
 .exact D2 hX hu (by simpa [Yi,hk]using hs) Q hQ
 .exact FO hX hu (by simpa [Yi,hk]using hs) Q hQ
 .exact Ad hX hu (by simpa [Yi,hk]using hs) Q hQ
 .exact Jp hX hu (by simpa [Yi,hk]using hs) Q hQ
 .exact DE hX hu (by simpa [Yi,hk]using hs) Q hQ
 .exact Lq hX hu (by simpa [Yi,hk]using hs) Q hQ
 .replace hs:AC h n i tg (b.YO.list (n+h.own) (i+1)) (e.YO.list (n+h.own+b.lv false) (i+1+b.it)) S=some S':=by simpa [Yi,hk]using hs
  have hBS:=UB (a:=bb) (lb:=0) (rb:=0) (hbL vs);refine Ac hX hu h1 h2 h3 VF ⟨h4,h5⟩ hBS ?_ hs Q hQ;rcases h6 with⟨hel,rfl⟩ |⟨hel,hch,hE⟩ |⟨hel,hch,eb,es,rfl,h7,h8⟩
  .exact .inl ⟨hel,rfl⟩
  .obtain⟨ev',hev,tt,pp,rfl⟩:=Nl hf hch hE;obtain rfl:ev=.iface tt pp:=by simpa using hev
   exact .inr ⟨hel,_,FJ (t:=e),hE,⟨_,_,rfl⟩,heS _⟩
  .exact .inr ⟨hel,_,VF (t:=e),⟨h7,h8⟩,⟨_,_,rfl⟩,UB (heL es)⟩
 .replace hs:Lw h n i lab tg (b.YO.list (n+h.own) (i+1)) S=some S':=by simpa [Yi,hk]using hs
  have hBS:=UB (a:=bb) (lb:=0) (rb:=0) (hbL vs);exact Je hu (zZ hX hlab h1 h2 h3 h4 VF ⟨h5,h6⟩ hBS hs) Q hQ
 .replace hs:UF n i lab tg (b.YO.list (n+h.own) (i+1)) S=some S':=by simpa [Yi,hk]using hs
  have hBS:=UB (a:=bb) (lb:=0) (rb:=0) (hbL vs);exact Jd hu (range_any hX hlab h1 h2 VF ⟨h3,h4⟩ hBS hs) Q hQ
 .have DC:(h.kind==13)=true:=by simp[hk]
  rw[DC]at fc;exact Jh hu (Ji hX hlab h1 h2 h3 h4 h5 co hc fc (by simpa [Yi,hk]using hs)) Q hQ
 .have DC:(h.kind==13)=false:=by simp[hk]
  rw[DC]at fc;exact Jg hu (FI hX hlab h1 h2 h3 h4 h5 co hc fc (by simpa [Yi,hk]using hs)) Q hQ
 .have DC:(h.kind==13)=false:=by simp[hk]
  rw[DC]at fc;exact Jf hu (Jj hX hlab h1 h2 h3 co hc fc (by simpa [Yi,hk]using hs)) Q hQ
 .exact OG hX hu h1 (fun lv hlv=>hbL vs lv w B bq b0 A L S S' tg hX ⟨hlv,h2⟩ (by simpa [Yi,hk]using hs)) Q hQ
 .obtain⟨a,lv,hu,ha,hlv⟩:=hu;have hs':S.Ys 17 h.target tg=some S':=by simpa [Yi,hk]using hs
  rcases hlv with⟨hz,rfl⟩ |⟨hz,hlv⟩
  .exact WJ hu (NH hX hz ha hs') Q hQ
  .exact WJ hu (O7 hX hz hlv ha hs') Q hQ
 .obtain⟨a,lv,hu,ha,hlv⟩:=hu;have hs':S.Ys 18 h.target tg=some S':=by simpa [Yi,hk]using hs
  rcases hlv with⟨hz,rfl⟩ |⟨hz,hlv⟩
  .exact WJ hu (NG hX hz ha hs') Q hQ
  .exact WJ hu (O6 hX hz hlv ha hs') Q hQ
 .obtain⟨a,lv,hu,ha,hlv⟩:=hu;have hs':S.Ys 19 h.target tg=some S':=by simpa [Yi,hk]using hs
  have hz:=hf.gt hk;rcases hlv with⟨hz',rfl⟩ |⟨hz,hlv⟩
  .omega
  .exact WJ hu (NI hX hz hlv ha hs') Q hQ
 .obtain⟨a,lv,hu,ha,hlv⟩:=hu;have hs':S.Ys 20 h.target tg=some S':=by simpa [Yi,hk]using hs
  have hz:h.target.size=0:=by
   rcases ZA h.target.size with h0|h0
   .exact h0
   .have:=hf.tg h0;omega
  rcases hlv with⟨hz',rfl⟩ |⟨hz',hlv⟩
  .exact WJ hu (NF hX hz ha hs') Q hQ
  .exact absurd hz' (by decide)
 .exact Jq hX hu (by simpa [Yi,hk]using hs) Q hQ
end
section
attribute [local go_sem] PJ PI PH PG PF PD PA RH Pz RF
variable {w:World} {B b b0:Nat} {A L:List Nat} {S S':BS} {tg:List Tg} {M:Mk}
theorem DB {P:Program} {c:Code} {Q:Exit->Act->World->Prop} {a:Act} {w:World} (h:c.wp P Q a w):(Code.skip.seq c).wp P Q a w:=wp_seq (wp_skip h)
theorem Lh (h:BX w B b b0 A L S tg M) {a:Nat} {lv u:Value} {s:ByteArray} (ha:Hv w 0 a [lv,.int .i64 0,u] 190) (hlv:Xo (Hv w 0) lv s) {r:Nat × BS} (hs:S.UQ s true=some r) {y:ByteArray × Lb} (hy:r.2.ZT[r.1]? =some y) {S2:BS} (h2:r.2.YG y.2.go=some S2)
  (hu: ∃ tt pp,u=.iface tt pp) {P:Hp->Prop} (hP:Vm P) (hp:P (Hv w 0))
  (hcore: ∀ (w1:World) (A1 L1:List Nat) (la l ga:Nat),BX w1 B b b0 A1 L1 (S2.at y.2.go) tg M->L1[r.1]? =some l->P (Hv w1 0)-> ∀ Q:Exit->Act->World->Prop,(∀ a' w',a'.defers= []->X8 w1 w' B b b0 A1 L1 S' tg M->Q .normal a' w')->Code.wp prog Xq Q ⟨Vv b a l ga la u,[]⟩ w1):
  Calls prog 85 #[b,.iface 186 (.pointer (some ⟨a,0,none⟩))] w fun e w'=>e=.returned (.tuple #[])/\X8 w w' B b b0 A L S' tg M:=by
 obtain⟨tt,pp,rfl⟩:=hu;have Lu:=hlv;obtain⟨la,lo,rfl,_⟩:=hlv;have c0:=ha.2.2.cell 0 rfl;have c2:=ha.2.2.cell 2 rfl;have mg:=Z5 hcore;clear hcore;go_enter func85,ntmps85;go_wp2_with fail
 refine wp_scope_jumps 0 (fun a' w'=> ∃ (A1 L1:List Nat) (l ga:Nat),a'=⟨Vv b a l ga la (.iface tt pp),[]⟩/\A <+:A1/\L <+:L1/\BX w' B b b0 A1 L1 (S2.at y.2.go) tg M/\L1[r.1]? =some l/\Fr bT B w w') (fun _ _=>0) rfl ?_ ?_
 .go_wp2_with fail
  go_step3
  have Hq:=X7 hs hy h2;clear hs hy h2;go_wp2_with fail
  refine(Jt h Hq.out.1 Lu ha Lu).mono ?_;rintro e w1 ⟨l,rfl,A1,L1,hA1,hL1,hl1,hC,f1⟩;obtain⟨hs,hy,h2⟩:=Hq.out;clear Hq;obtain⟨gv,bv,cv,hbl,⟨ga,hga,rfl⟩,_,_⟩:=hC.lab hl1 hy;have d1:=hbl.cell 0 rfl;have Qr:=Zt f1 ha;have HX:=Zl hA1 hL1;have HG:=Xp hga hs hy h2;have HF:=Zl hl1 f1;clear hl1 hA1 hL1 f1 c0 c2 hga hs hy h2;go_wp2_with fail
  refine(YT hC HG.out.2.2.2 HG.out.1).mono ?_;rintro e w2 ⟨rfl,hJ,fJ⟩;have wH:S2.ZT=r.2.ZT:=by
   obtain⟨c,k,_,_,_,_,rfl⟩:=O8 HG.out.2.2.2;rfl
  obtain⟨gv,bv,cv,cx,⟨ga',zS,rfl⟩,_,_⟩:=hJ.lab HF.out.1 (show S2.ZT[r.1]? =some y from by rw[wH];exact HG.out.2.2.1);obtain rfl:ga'=ga:=by
   have:=HG.out.1;rw[this]at zS;exact(Y0 zS).symm
  have d2:=cx.cell 0 rfl;have RW:=Zt fJ Qr;have c2:=RW.2.2.cell 2 rfl;obtain⟨JP,JO,JN,JM,hbN,_,_⟩:=hJ.blk;have c3:=hbN.cell 2 rfl;have AG:=hbN.free 2;obtain⟨hK,fK⟩:=hJ.setCur zS;have haK:=Zt fK RW;have c2':=haK.2.2.cell 2 rfl;clear d1 zS wH;go_wp2_with fail
  go_step3
  exact⟨rfl,A1,L1,l,ga',rfl,HX.out.1,HX.out.2,hK,HF.out.1,HF.out.2.trans (fJ.trans fK)⟩
 .rintro a' w1 ⟨A1,L1,l,ga,rfl,hA1,hL1,hK,hl,f1⟩;refine DB ?_;have key:=mg.out w1 A1 L1 la l ga hK hl (hP _ _ (Hv.bT f1) hp);unfold Vv at key ⊢;conv at key=>enter [Q,h];arg 2;whnf
  refine key _ ?_;rintro a2 w2 hd ⟨A2,L2,hA2,hL2,h2',f2⟩;exact(show bodyPost prog Tryz.f85 (fun e w'=>e=.returned (.tuple #[])/\X8 w w' B b b0 A L S' tg M) .normal a2 w2 from bodyPost_end (v:=.tuple #[]) (results_none rfl _ _ _) hd ⟨rfl,A2,L2,ZW hA1 hA2,ZW hL1 hL2,h2',f1.trans f2⟩)
def mf (H:Hp) (h:Hd) (b e c:T) (n i:Nat) (v:Value):Prop:=WN H h.label (UA H h b e c n i) v
theorem mf.mono {H H':Hp} (hH: ∀ b cs t,H b cs t->H' b cs t) {h:Hd} {b e c:T} {n i:Nat} {v:Value} (hv:mf H h b e c n i v):mf H' h b e c n i v:=
 WN.mono hH (fun _ k=>UA.mono hH k) hv
theorem one_any {h:Hd} {b e c:T} (hb:BL M b) (he:BL M e) (hc:c.All (BL M)) (hf:Fm h b e c) (bo:b.ok) (eo:e.ok) (co:c.ok) {n i:Nat} (fit:Fit M n (h.stop++b.stops false++e.stops false++c.stops (h.kind==13))) (hM:M.asked.length<=1000) (v:Value):
  Qp M (fun H=>mf H h b e c n i v) v (cy h b e c n i):=by
 intro w B bq b0 A L S S' tg hX hv hs;unfold cy ML at hs;rcases hv with⟨hz,hu⟩ |⟨hz,a,lv,u,rfl,ha,hlv,hu⟩
 .rw[if_pos hz]at hs;exact TC hu.iface fun Q hQ=>Li (f:=none) hX (.inl ⟨rfl,rfl⟩) hb he hc hf bo eo co fit hM hu hs Q hQ
 .rw[if_neg (by omega)]at hs;simp only[Z8]at hs;obtain⟨r,h1,y,h2,S2,h3,h4⟩:=hs;exact Lh hX ha hlv h1 h2 h3 hu.iface (P:=fun H=>UA H h b e c n i u) (fun _ _ hH k=>UA.mono hH k) hu (fun w1 A1 L1 la l ga h5 h6 h7 Q hQ=>Li (f:=some (_,_,_,_)) h5 (.inr ⟨_,_,rfl,rfl,h6⟩) hb he hc hf bo eo co fit hM h7 h4 Q hQ)
def wG (M:Mk) (w:World) (B b b0:Nat) (A L:List Nat) (tg:List Tg) (t:T) (vs:List Value) (S':BS) (ix:Value) (wr:World):Prop:=
 ∃ (k:Nat) (rest:T) (n i:Nat) (A1 L1:List Nat) (S1:BS),ix=.int .i64 k/\k+rest.len=t.len/\rest.All (BL M)/\rest.ok/\Fit M n (rest.stops false)/\A <+:A1/\L <+:L1/\
  BX wr B b b0 A1 L1 S1 tg M/\Fr bT B w wr/\rest.Ast (Hv wr 0) 0 n i (vs.drop k)/\rest.YO.list n i tg S1=some S'
theorem DA {h:Hd} {b e c tl:T} {n i:Nat} {tg:List Tg} {S:BS} :(T.st h b e c tl).YO.list n i tg S=(cy h b e c n i tg S).bind fun S1=>tl.YO.list (n+h.own+b.lv false+e.lv false+c.lv (h.kind==13)) (i+1+b.it+e.it+c.it) tg S1:=rfl
theorem Dz {h:Hd} {b e c tl:T} {n:Nat} (hf:Fm h b e c) (bo:b.ok) (eo:e.ok) (co:c.ok) (fit:Fit M n ((T.st h b e c tl).stops false)):
  Fit M n (h.stop++b.stops false++e.stops false++c.stops (h.kind==13))/\Fit M (n+h.own+b.lv false+e.lv false+c.lv (h.kind==13)) (tl.stops false):=by
 simp only[T.stops]at fit;refine⟨fit.left,?_⟩;have:=fit.right (k:=h.own+b.lv false+e.lv false+c.lv (h.kind==13)) (by simp[hf.Vo,T.Xx bo,T.Xx eo,T.Xx co,Z3]);simpa [Z3]using this
theorem zR (hM:M.asked.length<=1000) (t:T) (hall:t.All (BL M)) (hok:t.ok) (n i:Nat) (hfit:Fit M n (t.stops false)) (vs:List Value) (lv:Value):OD M (fun H=>NP H lv vs 96/\t.Ast H 0 n i vs) lv (t.YO.list n i):=by
 intro w B b b0 A L S S' tg hX ⟨harr,YD⟩ hs;have hlen:=Px YD;obtain⟨la,OA,rfl⟩: ∃ la OA,lv=.slice la vs.length OA:=by
  rcases harr with⟨rfl,rfl⟩ |⟨g,cap,rest,h1,h2,h3,rfl,h4⟩
  .exact⟨_,_,rfl⟩
  .exact⟨_,_,rfl⟩
 have hvl:vs.length<=2000000:=by
  rcases harr with⟨rfl,_⟩ |⟨g,cap,rest,h1,h2,h3,_,h4⟩
  .simp
  .exact h3
 have HG:=Zl hs hlen;clear hs hlen;have HC:=Xp YD hok hall hfit;clear YD hok hall hfit;go_enter func101,ntmps101;go_wp2_with fail
 go_loopw [8] (fun ix wr=>wG M w B b b0 A L tg t vs S' ix wr) (fun ix _=>vs.length -(intOf ix).toNat)
 case atStart=>exact⟨0,t,n,i,A,L,S,rfl,by simp,HC.out.2.2.1,HC.out.2.1,HC.out.2.2.2,ZB _,ZB _,hX,Fr.refl _ _ _,by simpa using HC.out.1,HG.out.1⟩
 case round=>
  obtain⟨k,rest,n1,i1,A1,L1,S1,rfl,hlen',XC,hok',VG,hA1,hL1,h1,f1,YD,X5⟩:=hrel;have hlen:=HG.out.2;cases rest with
  |cl x bd tl=>
   obtain⟨v,vs',_,hcl,_⟩:=YD;rcases hcl with⟨hm,_⟩ |⟨hm,_⟩ |⟨hm,_⟩<;>omega
  |nil=>
   have hk: ¬ k < vs.length:=by rw[hlen];simp[T.len]at hlen';omega
   have X5:S1=S':=by simpa [T.YO]using X5
   subst X5;have P1:=Zl hA1 hL1;clear hlen hlen' hA1 hL1 YD;go_wp2_with fail
   go_end0
   exact⟨rfl,X8.of P1.out.1 P1.out.2 h1 f1⟩
  |st hd b1 e1 c1 tl=>
   have hk:k < vs.length:=by rw[hlen];simp[T.len]at hlen';omega
   obtain⟨_,v,vs',hdrop,hst,htl⟩:=YD;obtain⟨hvk,XA⟩:=drop_cons hdrop;obtain⟨ga,zW,hlv,hcell0⟩:=(harr.mono (Hv.bT f1)).cell hvk;obtain rfl:la=some ⟨ga,0,none⟩:=by simp at hlv;exact hlv.1
   obtain⟨q1,q2,q3,q4⟩:=XC;obtain⟨p0,p1,p2,p3,p4⟩:=hok';obtain⟨hfs,hft⟩:=Dz p0 p1 p2 p3 VG;have hone:=one_any q1 q2 q3 p0 p1 p2 p3 (n:=n1) (i:=i1) hfs hM v;rw[DA,Z8]at X5;obtain⟨S2,g2,g3⟩:=X5;have Si:tl.Ast (Hv wr 0) 0 (n1+hd.own+b1.lv false+e1.lv false+c1.lv (hd.kind==13)) (i1+1+b1.it+e1.it+c1.it) (vs.drop (k+1)):=by rw[XA];exact htl
   have hv1:mf (Hv wr 0) hd b1 e1 c1 n1 i1 v:=hst;obtain⟨tv,pv,rfl⟩: ∃ tv pv,v=.iface tv pv:=by
    rcases hst with⟨_,hu⟩ |⟨_,a,lv,u,rfl,_⟩
    .exact UA.iface hu
    .exact⟨_,_,rfl⟩
   have HQ:=Wp hA1 hL1 hlen' g2 g3;have HO:=Z5 hone;clear hlv hlen hlen' hA1 hL1 g2 g3 hvk hdrop XA htl hone hst VG hfs;go_wp2_with fail
   refine(HO.out _ _ _ _ _ _ _ _ _ h1 hv1 HQ.out.2.2.2.1).mono ?_;rintro e w3 ⟨rfl,A3,L3,hA3,hL3,h3,f3⟩
   have hR:wG M w B b b0 A L tg t vs S' (.int .i64 ((k:Int)+1)) w3:=
    ⟨k+1,tl,_,_,A3,L3,S2,by simp,by have:=HQ.out.2.2.1;simp[T.len]at this;omega,q4,p4,hft,ZW HQ.out.1 hA3,ZW HQ.out.2.1 hL3,h3,f1.trans f3,Si.mono (Hv.bT f3),HQ.out.2.2.2.2⟩
   have HR:=Z5 hR;clear hR hA3 hL3;go_wp2_with fail
   exact⟨HR.out,by simp[intOf];omega⟩
theorem FA (hM:M.asked.length<=1000): ∀ t:T,BL M t:=T.Wg fun t hall hok n i hfit=>by
 refine⟨zR hM t hall hok n i hfit,fun v=>?_⟩;cases t with
 |nil=>intro w B b b0 A L S S' tg hX YD hs;cases(show [v]= []from YD)
 |cl x bd tl=>
  intro w B b b0 A L S S' tg hX YD hs;obtain⟨v,vs',_,hcl,_⟩:=YD;rcases hcl with⟨hm,_⟩ |⟨hm,_⟩ |⟨hm,_⟩<;>omega
 |st hd b1 e1 c1 tl=>
  intro w B b b0 A L S S' tg hX YD hs;obtain⟨_,v',vs',hv,hst,htl⟩:=YD;cases hv;obtain⟨q1,q2,q3,q4⟩:=hall;obtain⟨p0,p1,p2,p3,p4⟩:=hok;obtain⟨hfs,hft⟩:=Dz p0 p1 p2 p3 hfit;have hnil:tl=.nil:=by
   cases tl with
   |nil=>rfl
   |st=>obtain⟨_,v,vs',hv,_⟩:=htl;cases hv
   |cl=>obtain⟨v,vs',hv,_⟩:=htl;cases hv
  subst hnil;rw[DA,Z8]at hs;obtain⟨S2,g2,g3⟩:=hs;have:S2=S':=by simpa [T.YO]using g3
  subst this;exact one_any q1 q2 q3 p0 p1 p2 p3 hfs hM v w B b b0 A L S S2 tg hX hst g2
end
section
variable {w w':World} {B b b0:Nat} {A L:List Nat} {S S':BS} {tg:List Tg} {M:Mk}
inductive Reach (Z6:List Bk):Nat->Prop
 |zero:Reach Z6 0
 |step {i s:Nat} {k:Bk} :Reach Z6 i->Z6[i]? =some k->s∈k.succs->Reach Z6 s
def BS.lived (S:BS) (f:Nat->Bool):BS:= { S with Z6:=S.Z6.mapIdx fun i k=> { k with live:=f i } }
theorem WI {f:Nat->Bool} {i:Nat} {k:Bk} (h:S.Z6[i]? =some k):(S.lived f).Z6[i]? =some { k with live:=f i } :=by
 simp[BS.lived,h]
theorem Jc (h: ∀ k∈S.Z6,k.live=false):S.lived (fun _=>false)=S:=by
 unfold BS.lived;have:(S.Z6.mapIdx fun _ k=>({ k with live:=false } :Bk))=S.Z6:=by
  apply List.ext_getElem?;intro i;simp only[List.getElem?_mapIdx];cases hk:S.Z6[i]? with
  |none=>rfl
  |some k=>
   have:=h k (ZY hk);cases k;simp at this;subst this;rfl
 rw[this]
theorem Vl {f:Nat->Bool} :(S.lived f).Z6.length=S.Z6.length:=by simp[BS.lived]
theorem BX.zQ {f:Nat->Bool} (h:BX w B b b0 A L (S.lived f) tg M) {c a:Nat} {k:Bk} (hk:S.Z6[c]? =some k) (ha:A[c]? =some a):
  BX (w.setCell ⟨a,3,none⟩ (.bool true)) B b b0 A L (S.lived fun i=>f i||i==c) tg M/\Fr bT B w (w.setCell ⟨a,3,none⟩ (.bool true)):=by
 obtain⟨NV,h⟩:=h;have hk':=WI (f:=f) hk;have hlt:=(Z1.1 hk').1;have hln:c < NV.length:=by have:=h.VU;omega
 have V9:NV[c]? =some NV[c]:=Z9 hln;obtain⟨a',sv,p0,p1,ns,g1,g2,g3,g4,g5,g6,g7,g8,g9⟩:=h.Z6 c _ _ hk' V9;rw[ha]at g1;cases g1;have hBa:=h.base a (ZY ha);have f2:Fr bT B w (w.setCell ⟨a,3,none⟩ (.bool true)):=(Fr.refl _ _ _).X9 _ _ g2.ty (by decide) hBa;have o2:Only [a] w (w.setCell ⟨a,3,none⟩ (.bool true)):=(Only.refl _ _).set _ _ (.inl (by simp))
 have hU:=h.upd (UR:=NV[c]) ha V9 o2 f2 (fun x hx=>.inl (by simpa using hx)) (k':= { k with live:=true })
  ⟨a,sv,p0,p1,ns,ha,g2.set 3 (.bool true),YX o2 g3 (fun x hx hc=>Zq.ne (h.Jx _ (ZY V9) x hx) g2.ty (by decide) (by simpa using hc)),g4,fun j v n e1 e2=>(g5 j v n e1 e2).mono (Hv.bT f2),g6.mono (Hv.bT f2),g7,g8,g9⟩ (fun x hx=>.inl hx)
 have eN:NV.set c NV[c]=NV:=by simp
 rw[eN]at hU;have eS:(S.lived f).set c { k with live:=true } =S.lived fun i=>f i||i==c:=by
  unfold BS.set BS.lived;simp only[BS.mk.injEq,and_true];apply List.ext_getElem?;intro i;by_cases hi:c=i
  .subst hi;have hc:c < S.Z6.length:=by simpa [BS.lived]using hlt
   rw[YQ (by simpa using hc)];simp[hk]
  .rw[YM hi];simp only[List.getElem?_mapIdx];cases S.Z6[i]? with
   |none=>rfl
   |some k2=>simp[show(i==c)=false by simp;omega]
 rw[eS]at hU;exact⟨⟨NV,hU⟩,f2⟩
theorem BX.keep (h:BX w B b b0 A L S tg M) {X:List Nat} (ho:Only X w w') (hf:Fr bT B w w') {bv mk cv mv tv:Value} (hb:ZD w b [bv,mk,cv,mv,tv] 136) (hX: ∀ x∈X,Zq w x 92/\bv.ownBlock≠some x):BX w' B b b0 A L S tg M:=by
 obtain⟨NV,h⟩:=h;have nX: ∀ x t,Zq w x t->t≠92->x∉X:=by
  intro x t hx h1 hc;exact Zq.ne hx (hX x hc).1 h1 rfl
 have hA:A <+:A:=⟨[],by simp⟩
 obtain⟨AB,AA,mv',oS,hb',hbv,hcv,hlv,UH⟩:=h.self;obtain⟨he,_⟩:=hb.inj hb';obtain rfl:bv=AB:=by simp at he;exact he.1
 have hbX: ∀ k,bv.ownBlock=some k->k∉X:=by
  intro k hk hc;exact(hX k hc).2 hk
 obtain⟨sv,lv,av,ps,hB2,hm,hsv,me,hps,hn,hav⟩:=h.Bw
 exact⟨NV,h.hB,h.US,h.VU,h.nodup,h.base,h.apart,fun i k nv hk hn=>(h.Z6 i k nv hk hn).only ho hf hA (fun a ha=>nX a 99 (h.Bv a (ZY ha)) (by decide)) (fun g hg=>nX g 104 (h.Jx nv (ZY hn) g hg) (by decide)),
  ⟨sv,lv,av,ps,hB2,hm.only ho (nX _ _ hm.ty (by decide)),YX ho hsv (fun k hk=>nX _ _ (Zg hsv hk) (by decide)),YX ho me (fun k hk=>nX _ _ (Zg me hk) (by decide)),fun p hp=>let⟨s,hs⟩:=hps p hp;⟨s,hs.only ho (nX _ _ hs.ty (by decide))⟩,hn,YX ho hav (fun k hk=>nX _ _ (Zg hav hk) (by decide))⟩,
  ⟨bv,AA,mv',oS,hb'.only ho (nX _ _ hb'.ty (by decide)),YX ho hbv hbX,hcv,hlv.only ho hA (fun l hl=>nX l 193 (hlv.ty l hl) (by decide)) (fun mb hmb hc=>hlv.W5 hmb (hX mb hc).1 rfl),UH.mono (Hv.bT hf) hA⟩⟩
theorem BX.at (h:BX w B b b0 A L S tg M) {i a:Nat} {k:Bk} (hk:S.Z6[i]? =some k) (ha:A[i]? =some a):
  ∃ nv sv p0 p1,ZD w a [nv,.slice (some ⟨a,7,none⟩) k.succs.length 2,.int .i32 i,k.live,k.Yz,.int .u8 k.kind,sv,p0,p1] 99/\k.succs.length<=2/\
   ∀ (j s:Nat),k.succs[j]? =some s-> ∃ q,A[s]? =some q/\w.cell? ⟨a,7+j,none⟩=some (.pointer (some ⟨q,0,none⟩)):=by
 obtain⟨NV,h⟩:=h;have hlt:=(Z1.1 hk).1;have hln:i < NV.length:=by have:=h.VU;omega
 obtain⟨a',sv,p0,p1,ns,g1,g2,g3,g4,g5,g6,⟨q0,g7,g8⟩,⟨q1,g9,g10⟩,g11⟩:=h.Z6 i _ _ hk (Z9 hln);rw[ha]at g1;cases g1;refine⟨_,sv,p0,p1,g2,g11,fun j s hs=>?_⟩;have hj:=(Z1.1 hs).1;rcases(show j=0\/j=1 by omega)with rfl|rfl
 .have:=g8 s hs;subst this;obtain⟨q,hq,rfl⟩:=g7;exact⟨q,hq,g2.cell 7 rfl⟩
 .have:=g10 s hs;subst this;obtain⟨q,hq,rfl⟩:=g9;exact⟨q,hq,g2.cell 8 rfl⟩
theorem BX.len (h:BX w B b b0 A L S tg M):A.length=S.Z6.length:=by
 obtain⟨NV,h⟩:=h;exact h.US
theorem BX.list (h:BX w B b b0 A L S tg M): ∃ bv cv mv tv,ZD w b [bv,.func (.func 67) #[b0] #[],cv,mv,tv] 136/\Zc A cv S.cur/\w.ownsRow B 92 1 bv A.length (A.map fun a=>.pointer (some ⟨a,0,none⟩)):=by
 obtain⟨NV,h⟩:=h;obtain⟨bv,cv,mv,tv,hb,hbv,hcv,_⟩:=h.self;exact⟨bv,cv,mv,tv,hb,hcv,hbv⟩
def Qm (A:List Nat) (i:Nat):Value:=.pointer (some ⟨A.getD i 0,0,none⟩)
theorem Ox {i a:Nat} (h:A[i]? =some a):Qm A i=.pointer (some ⟨a,0,none⟩):=by simp[Qm,h]
theorem zP {base e:Nat} {g cap n:Nat} {xs:List Value} (h:w.ownsRow base e 1 (.slice (some ⟨g,0,none⟩) (n+1) cap) (n+1) xs):w.ownsRow base e 1 (.slice (some ⟨g,0,none⟩) n cap) n (xs.take n):=by
 obtain⟨h1,h2⟩:=h;rcases h2 with⟨h2,_⟩ |⟨g',cap',cur,hv,hg,hh,hc,hm,hs,hx⟩
 .simp at h2
 .cases hv;refine⟨by simp;omega,.inr ⟨g,cap,cur,rfl,hg,hh,by omega,hm,hs,?_⟩⟩;rw[<-hx,List.take_take];congr 1;omega
def left (n:Nat) (f:Nat->Bool):Nat:=((List.range n).filter fun i=>!f i).length
theorem Fz {n:Nat} {f:Nat->Bool} {c:Nat} (hc:c < n) (hf:f c=false):left n (fun i=>f i||i==c)+1=left n f:=by
 unfold left;have key: ∀ n,((List.range n).filter fun i=>!(f i||i==c)).length+(if c < n then 1 else 0)=((List.range n).filter fun i=>!f i).length:=by
  intro n
  induction n with
  |zero=>simp
  |succ n ih=>
   rw[List.range_succ,List.filter_append,List.filter_append,Z4,Z4];by_cases h1:c=n
   .subst h1;rw[if_neg (Nat.lt_irrefl c)]at ih;simp[hf]at ih ⊢;omega
   .have h2:(n==c)=false:=by simp;omega
    by_cases h3:c < n
    .rw[if_pos h3]at ih;rw[if_pos (by omega),show(List.filter (fun i=>!(f i||i==c)) [n])=List.filter (fun i=>!f i) [n]by simp[List.filter_cons,h2]];omega
    .rw[if_neg h3]at ih;rw[if_neg (by omega),show(List.filter (fun i=>!(f i||i==c)) [n])=List.filter (fun i=>!f i) [n]by simp[List.filter_cons,h2]];omega
 have:=key n;rw[if_pos hc]at this;exact this
structure Lv (Z6:List Bk) (f:Nat->Bool) (qs:List Nat):Prop where
 mark: ∀ i,f i=true->Reach Z6 i/\i < Z6.length
 queue: ∀ i∈qs,Reach Z6 i/\i < Z6.length
 next: ∀ (i:Nat) (k:Bk),f i=true->Z6[i]? =some k-> ∀ s∈k.succs,f s=true\/s∈qs
 first:f 0=true\/0∈qs
theorem Lv.done {Z6:List Bk} {f:Nat->Bool} (h:Lv Z6 f []) (hr: ∀ (i:Nat) (k:Bk),Z6[i]? =some k-> ∀ s∈k.succs,s < Z6.length): ∀ i,f i=true↔Reach Z6 i:=by
 intro i;refine⟨fun hi=>(h.mark i hi).1,fun hi=>?_⟩
 induction hi with
 |zero=>simpa using h.first
 |step _ hk hs ih=>simpa using h.next _ _ ih hk _ hs
theorem Lv.skip {Z6:List Bk} {f:Nat->Bool} {qs:List Nat} {c:Nat} (h:Lv Z6 f (qs++ [c])) (hc:f c=true):Lv Z6 f qs:=by
 refine⟨h.mark,fun i hi=>h.queue i (by simp[hi]),fun i k hi hk s hs=>?_,?_⟩
 .rcases h.next i k hi hk s hs with h1|h1
  .exact .inl h1
  .simp at h1;rcases h1 with h1|rfl
   .exact .inr h1
   .exact .inl hc
 .rcases h.first with h1|h1
  .exact .inl h1
  .simp at h1;rcases h1 with h1|rfl
   .exact .inr h1
   .exact .inl hc
theorem Lv.take {Z6:List Bk} {f:Nat->Bool} {qs:List Nat} {c:Nat} {k:Bk} (h:Lv Z6 f (qs++ [c])) (hk:Z6[c]? =some k) (hr: ∀ s∈k.succs,s < Z6.length):Lv Z6 (fun i=>f i||i==c) (qs++k.succs):=by
 have hc:=(h.queue c (by simp)).1;have hlt:=(Z1.1 hk).1;refine⟨fun i hi=>?_,fun i hi=>?_,fun i k' hi hk' s hs=>?_,?_⟩
 .simp at hi;rcases hi with hi|rfl
  .exact h.mark i hi
  .exact⟨hc,hlt⟩
 .simp at hi;rcases hi with hi|hi
  .exact h.queue i (by simp[hi])
  .exact⟨.step hc hk hi,hr i hi⟩
 .simp at hi;rcases hi with hi|rfl
  .rcases h.next i k' hi hk' s hs with h1|h1
   .exact .inl (by simp[h1])
   .simp at h1;rcases h1 with h1|rfl
    .exact .inr (by simp[h1])
    .exact .inl (by simp)
  .rw[hk]at hk';cases hk';exact .inr (by simp[hs])
 .rcases h.first with h1|h1
  .exact .inl (by simp[h1])
  .simp at h1;rcases h1 with h1|rfl
   .exact .inr (by simp[h1])
   .exact .inl (by simp)
theorem Fr.SB {T:List Nat} {B:Nat} {a b c:World} (h:Fr T B a b) {row:Option Nat} (hg:b.grownBy c row) (hB:B<=b.heap.size) (hr: ∀ k,row=some k->a.heap.size<=k/\B<=k):Fr T B a c:=by
 refine⟨h.below.grown hg hB (fun k hk=>(hr k hk).2),fun k cs t f hk ht=>?_⟩;have hb:=h.keep k cs t f hk ht;have hlt:=Zq.lt ⟨_,_,hb⟩;rw[hg.block k hlt ?_]
 .exact hb
 .intro e';have:=(hr k e'.symm).1;have:=Zq.lt ⟨_,_,hk⟩;omega
noncomputable def YU (Z6:List Bk) (i:Nat):Bool:= @decide (Reach Z6 i) (Classical.propDecidable _)
theorem Dy {Z6:List Bk} {f:Nat->Bool} (h: ∀ i,f i=true↔Reach Z6 i):f=YU Z6:=by
 funext i;unfold YU;have:=h i;cases hf:f i
 .simp[hf]at this;simp[this]
 .simp[hf]at this;simp[this]
def BS.Dx (S:BS) (f:Nat->Bool) (c:Nat):Option BS:=if f c then(S.lived f).UG.bind fun S1=>S1.Yk ⟨2,true⟩else some (S.lived f)
theorem Fy {base e n:Nat} {v:Value} {xs:List Value} (h:w.ownsRow base e 1 v n xs) (hv:v≠ .slice none 0 0): ∃ g cap,v=.slice (some ⟨g,0,none⟩) n cap/\base<=g/\g < w.heap.size/\n<=cap:=by
 have hlt:=h.lt;rcases h.2 with⟨h1,_⟩ |⟨g,cap,cur,rfl,hg,_,hc,_⟩
 .exact absurd h1 hv
 .exact⟨g,cap,rfl,hg,(hlt g rfl).2,hc⟩
theorem BX.alloc (h:BX w B b b0 A L S tg M) (o:Obj):BX (w.alloc o) B b b0 A L S tg M/\Fr bT B w (w.alloc o):=by
 obtain⟨NV,h⟩:=h;obtain⟨h1,f1⟩:=h.alloc o;exact⟨⟨NV,h1⟩,f1⟩
end
section
variable {w w':World} {B b b0:Nat} {A L:List Nat} {S S':BS} {tg:List Tg} {M:Mk}
def BS.none:BS:=⟨[],Option.none,[],[]⟩
theorem BX.init (hm:ZZ w B b0 M) (hB:B<=w.heap.size):BX (w.alloc (.cells [.slice .none 0 0,.func (.func 67) #[.pointer (some ⟨b0,0,.none⟩)] #[],.pointer .none,.map .none,.pointer .none].toArray 136)) B w.heap.size b0 [] [] BS.none [] M:=by
 have f:Fr bT B w (w.alloc (.cells [.slice .none 0 0,.func (.func 67) #[.pointer (some ⟨b0,0,.none⟩)] #[],.pointer .none,.map .none,.pointer .none].toArray 136)):=(Fr.refl _ _ _).alloc hB _;have f0:Fr [] B w (w.alloc (.cells [.slice .none 0 0,.func (.func 67) #[.pointer (some ⟨b0,0,.none⟩)] #[],.pointer .none,.map .none,.pointer .none].toArray 136)):=(Fr.refl _ _ _).alloc hB _;have hma:M.ask []=M:=by simp[Mk.ask]
 refine⟨[],hB,rfl,rfl,List.nodup_nil,by simp,fun i j vi vj g _ hi=>by simp at hi,fun i k nv hk=>by simp[BS.none]at hk,?_,_,_,_,_,ZD.new w _ _,Zs _ _ _ _,rfl,⟨rfl,List.nodup_nil,by simp,fun j l s x hl=>by simp at hl,.inl ⟨rfl,rfl⟩⟩,rfl⟩;show ZZ _ B b0 (M.ask []);rw[hma];exact hm.fr f0 (by simp)
theorem Mu {a:Nat} {lv:Value} (ha:Hv w 0 a [.int .i64 3,lv,.int .i64 2] 146):
  Calls prog 87 #[a] w fun e w'=>e=.returned (.int .i64 3)/\w=w':=by
 have c2:=ha.2.2.cell 2 rfl;go_enter func87,ntmps87
 go_wp2
 go_ret;exact⟨rfl,rfl⟩
def GU (w:World) (B b b0:Nat) (A L:List Nat) (S:BS) (M:Mk) (base:Nat) (bv0:Value) (k:Nat) (qv:Value) (wr:World):Prop:=
 ∃ (qs:List Nat) (f:Nat->Bool),k=3*left S.Z6.length f+qs.length/\qs.length+2*left S.Z6.length f<=2*S.Z6.length+1/\Lv S.Z6 f qs/\wr.ownsRow base 92 1 qv qs.length (qs.map (Qm A))/\qv≠ .slice none 0 0/\
  BX wr B b b0 A L (S.lived f) [] M/\Fr bT B w wr/\(∃ mk cv mv tv,ZD wr b [bv0,mk,cv,mv,tv] 136)
def wF (S:BS) (w:World) (v8 ix:Value) (wr:World):Prop:=wr=w/\ ∃ k:Nat,ix=.int .i64 k/\v8=.bool true/\ ∀ (j:Nat) (kj:Bk),j < k->S.Z6[j]? =some kj->(kj.live&&kj.Yz)=false
theorem new_any (hm:ZZ w B b0 M) (hMa:M.asked.length<=1000) (hB:B<=w.heap.size) {t:T} (hok:t.ok) (hfit:Fit M 0 (t.stops false)) {a:Nat} {vs:List Value} (hbl:YW (Hv w 0) a 3 2 vs) (YD:t.Ast (Hv w 0) 0 0 0 vs)
  (X5:t.YO.list 0 0 [] ((BS.none.new 2 (some 3)).at 0)=some S) {c:Nat} (hcur:S.cur=some c) (hlive: ∀ k∈S.Z6,k.live=false) (hr: ∀ (i:Nat) (k:Bk),S.Z6[i]? =some k-> ∀ s∈k.succs,s < S.Z6.length) (hlen:S.Z6.length<=100000) (hpos:0 < S.Z6.length) {S3:BS} (hfin:S.Dx (YU S.Z6) c=some S3):
  Calls prog 65 #[a,.func (.func 67) #[b0] #[]] w fun e w'=> ∃ ga b bv A' L' mk cv mv tv,e=.returned (.pointer (some ⟨ga,0,none⟩))/\ZD w' ga [bv,!S3.Z6.any fun k=>k.live&&k.Yz] 91/\ZD w' b [bv,mk,cv,mv,tv] 136/\BX w' B b b0 A' L' S3 [] M/\Fr bT B w w':=by
 obtain⟨lv,ha,harr⟩:=hbl;have hX:=BX.init hm hB;have fX:Fr bT B w (w.alloc (.cells [.slice .none 0 0,.func (.func 67) #[.pointer (some ⟨b0,0,.none⟩)] #[],.pointer .none,.map .none,.pointer .none].toArray 136)):=(Fr.refl _ _ _).alloc hB _;have haX:=Zt fX ha;have hS1:BS.none.newP 2 (some 3)=some (BS.none.new 2 (some 3)):=by simp[BS.newP,BS.none]
 have HG:=Qd X5 hcur hlive hr hpos hfin;clear X5 hcur hlive hr hpos hfin;go_enter func65,ntmps65;go_wp2_with fail
 refine(YH hX hS1 (Yr (ty:=86) (t0:=146) (by decide) haX)).mono ?_;rintro e w1 ⟨a1,rfl,A1,hA1,ha1,h1,f1⟩;have P1:=Zl hA1 ha1;clear hA1 ha1 hS1;obtain⟨bv1,cv1,mv1,tv1,hb1,_,_⟩:=h1.blk;have y1:=hb1.cell 2 rfl;have z1:=hb1.free 2;obtain⟨h2,f2⟩:=h1.setCur P1.out.2;have F2:=fX.trans (f1.trans f2);go_wp2_with fail
 refine((UB (a:=a) (lb:=3) (rb:=2) ((FA hMa t hok 0 0 hfit).1 vs)) _ _ _ _ _ _ _ _ _ h2 ⟨⟨lv,Zt F2 ha,harr.mono (Hv.bT F2)⟩,YD.mono (Hv.bT F2)⟩ HG.out.1).mono ?_;rintro e w3 ⟨rfl,A3,L3,hA3,hL3,h3,f3⟩;have F3:=F2.trans f3;obtain⟨dM,cv3,mv3,gW,hb3,mc,hown3⟩:=h3.list;have l9:=h3.len;have Dw:dM.ownBlock≠none/\ ∃ gb cap,dM=.slice (some ⟨gb,0,none⟩) A3.length cap:=by
  rcases hown3.2 with⟨_,h0⟩ |⟨g,cap,cur,hv,_⟩
  .have:=HG.out.2.2.2.2.1;omega
  .subst hv;exact⟨by simp[Value.ownBlock],g,cap,rfl⟩
 obtain⟨Dw,gb,Jb,rfl⟩:=Dw;have hgb:=(hown3.lt gb rfl).2;have Dv: ∃ a30,A3[0]? =some a30:=⟨A3[0]'(by have:=HG.out.2.2.2.2.1;omega),Z9 _⟩
 obtain⟨a30,Dv⟩:=Dv;have hc0:w3.cell? ⟨gb,0,none⟩=some (.pointer (some ⟨a30,0,none⟩)):=by
  rw[ZF hown3 0 (by have:=HG.out.2.2.2.2.1;omega)];simp[Dv]
 have d0:=hb3.cell 0 rfl;obtain⟨i0,hi0,hz0,hz1,hz2⟩:=info_parts MP;have HP:=Wp hA3 hL3 l9 Dv mc;clear hA3 hL3 l9 Dv mc;have hAl:A3.length<=100000:=by have:=HP.out.2.2.1;omega
 have Z7Z:0 < A3.length:=by have:=HP.out.2.2.1;have:=HG.out.2.2.2.2.1;omega
 go_wp2_with (at_make;refine wpList_make_own w3 rfl _ _ 89 rfl w3.heap.size 92 i0 (.pointer none) 1 underlying89 hi0 hz0 hz1 .i64 .i64 _ A3.length (by rfl) (by rfl) rfl ?b2 ?b3 (Z7 _) ?_)
 case b2=>rw[hz2];omega
 case b3=>unfold maxLen;omega
 intro w4 hq4 hg4;have hb4:=hb3.grown hg4 (by simp);have e0:=hb4.cell 0 rfl;have hc4:w4.cell? ⟨gb,0,none⟩=some (.pointer (some ⟨a30,0,none⟩)):=by
  unfold World.cell? at hc0 ⊢;rw[hg4.block gb hgb (by simp)];exact hc0
 have sz4:=hg4.size;clear d0 hc0;go_wp2_with (at_builtin;refine Ze w4 rfl _ _ 89 rfl w3.heap.size 92 (.pointer none) 1 8 underlying89 MP rfl (by decide) (by decide) hq4 (by rfl) [.pointer (some ⟨a30,0,none⟩)] rfl ?c1 (by rfl) (by omega) (by omega) ?_)
 case c1=>simp[Value.oneCell']
 intro g5 cap5 w5 hq5 hg5 lZ Z6B;have F35:Fr bT B w3 w5:=((Fr.refl bT B w3).SB hg4 (by have:=h3.choose_spec.leB;omega) (by simp)).SB hg5 (by have:=h3.choose_spec.leB;omega) (fun k hk=>by simp[Value.ownBlock]at hk;have:=h3.choose_spec.leB;omega);have O35:Only [] w3 w5:=((Only.refl [] w3).grown hg4 (by simp)).grown hg5 (fun k hk=>by simp[Value.ownBlock]at hk;omega);have h5:=h3.keep O35 F35 hb3 (by simp);have hb5:=hb3.only O35 (by simp);rw[<-Jc HG.out.2.2.1]at h5;have lY:Lv S.Z6 (fun _=>false) [0]:=⟨fun i hi=>by simp at hi,fun i hi=>by simp at hi;subst hi;exact⟨.zero,HG.out.2.2.2.2.1⟩,fun i k hi=>by simp at hi,.inr (by simp)⟩
 have hl0:left S.Z6.length (fun _=>false)<=S.Z6.length:=by
  unfold left;have:=List.length_filter_le (fun i:Nat=>!(fun _=>false) i) (List.range S.Z6.length);simpa using this
 have hR0:GU w B w.heap.size b0 A3 L3 S M w3.heap.size (.slice (some ⟨gb,0,none⟩) A3.length Jb) (3*left S.Z6.length (fun _=>false)+1) (.slice (some ⟨g5,0,none⟩) 1 cap5) w5:=
  ⟨[0],fun _=>false,rfl,by simp;omega,lY,by simpa [Ox HP.out.2.2.2.1]using hq5,by simp,h5,F3.trans F35,_,_,_,_,hb5⟩
 have HR0:=Z5 hR0;clear hR0 lY hl0 hq5 e0 hc4;go_wp2_with fail
 go_loopg [6] (3*left S.Z6.length (fun _=>false)+1) (fun k qv wr=>GU w B w.heap.size b0 A3 L3 S M w3.heap.size (.slice (some ⟨gb,0,none⟩) A3.length Jb) k qv wr)
 case atStart=>exact HR0.out
 case round=>
  obtain⟨qs,f,hk,hbd,hlv,hown,hnn,wE,GT,mk6,cv6,mv6,tv6,hb6⟩:=hrel;obtain⟨nq,hnq⟩: ∃ nq,nq=qs.length:=⟨_,rfl⟩
  rw[<-hnq]at hown;obtain⟨gq,zO,rfl,hgq,Z6A,hcq⟩:=Fy hown hnn;rcases List.eq_nil_or_concat qs with rfl|⟨LK,i,rfl⟩
  .obtain rfl:nq=0:=hnq;have hf:f=YU S.Z6:=Dy (hlv.done HG.out.2.2.2.1);subst hf;obtain⟨ib,hZ,hI,gZ,hb7,lX,Z6z⟩:=wE.blk;have hcur:(S.lived (YU S.Z6)).cur=some c:=HG.out.2.1;rw[hcur]at lX;obtain⟨ac,hac,rfl⟩:=lX;have hcl:c < S.Z6.length:=by have:=(Z1.1 hac).1;have:=HP.out.2.2.1;omega
   have hkc:=Z9 hcl;generalize S.Z6[c]=kc at hkc;obtain⟨nvc,ig,p0c,p1c,hbc,_,_⟩:=wE.at (WI hkc) hac;have u2:=hb7.cell 2 rfl;have u0:=hb6.cell 0 rfl;have v3:=hbc.cell 3 rfl;have hfin:=HG.out.2.2.2.2.2;have HK:=Xp hac hkc hcur hfin;clear hnn hown hk hbd hlv hcur hac hkc hfin hcl hcq;go_upto_if 68 with(fail)
   go_cut [] (fun wx=>BX wx B w.heap.size b0 A3 L3 S3 [] M/\Fr bT B w wx)
   case first=>
    obtain⟨hac,hkc,hcur,hfin⟩:=HK.out;unfold BS.Dx at hfin;cases hfc:YU S.Z6 c with
    |false=>
     rw[hfc]at hfin v3;obtain rfl:S.lived (YU S.Z6)=S3:=by simpa using hfin
     clear hac hkc hcur hfin hfc;go_wp2_with fail
     go_meet;exact⟨wE,GT⟩
    |true=>
     rw[hfc]at hfin v3;simp only[if_true,Z8]at hfin;obtain⟨S4,g4,g5'⟩:=hfin;obtain⟨gV,f7⟩:=wE.O9 g4 hcur hac;have v4:=hbc.cell 4 rfl;have v4f:=hbc.free 4;have Bs:=Zt (GT.trans f7) ha;have Z6y:=hb6.setOther ⟨ac,4,none⟩ (.bool true) (Zq.ne hb6.ty hbc.ty (by decide));have HK2:=Z5 g5';clear hac hkc hcur hfc g4 g5';go_wp2_with fail
     refine(Mu Bs).mono ?_;rintro e w7 ⟨rfl,rfl⟩;obtain⟨cu,f8⟩:=gV.alloc (.cells [.int .i64 2,.slice none 0 0].toArray 142);have hnw:=ZD.new (wr.setCell ⟨ac,4,none⟩ (.bool true)) [.int .i64 2,.slice none 0 0] 142;have hsz:(wr.setCell ⟨ac,4,none⟩ (.bool true)).heap.size=wr.heap.size:=by simp[World.setCell]
     rw[hsz]at hnw;have hrt:Wc (Hv ((wr.setCell ⟨ac,4,none⟩ (.bool true)).alloc (.cells [.int .i64 2,.slice none 0 0].toArray 142)) 0) (.iface 101 (.pointer (some ⟨wr.heap.size,0,none⟩))) 2:=⟨wr.heap.size,rfl,Nat.zero_le _,by decide,hnw⟩
     clear hsz;go_wp2_with fail
     refine(XL cu HK2.out (.inl ⟨rfl,hrt⟩)).mono ?_;rintro e w9 ⟨rfl,uf,f9⟩;go_wp2_with fail
     go_meet;exact⟨uf,GT.trans (f7.trans (f8.trans f9))⟩
   case rest=>
    obtain⟨uf,hF9⟩:=hcut;obtain⟨bv9,cv9,mv9,tv9,cq,_,wD⟩:=uf.list;have wV:=uf.len;obtain⟨gb9,zM,rfl⟩: ∃ gb cap,bv9=.slice (some ⟨gb,0,none⟩) A3.length cap:=by
     rcases wD.2 with⟨_,h0⟩ |⟨g,cap,cur,hv,_⟩
     .omega
     .exact⟨g,cap,hv⟩
    have y0:=cq.cell 0 rfl;have HA9:=Z5 wV;clear wV;go_wp2_with fail
    go_loopw [8,83] (fun v8 ix wr=>wF S3 wc v8 ix wr) (fun _ ix _=>A3.length -(intOf ix).toNat)
    case atStart=>exact⟨rfl,0,rfl,rfl,fun j kj hj=>by omega⟩
    case round=>
     obtain⟨rfl,k,rfl,rfl,hall⟩:=hrel;by_cases hkl:k < A3.length
     .have hak: ∃ ak,A3[k]? =some ak:=⟨_,Z9 hkl⟩
      obtain⟨ak,hak⟩:=hak;have hkb:k < S3.Z6.length:=by have:=HA9.out;omega
      have hkk:=Z9 hkb;generalize S3.Z6[k]=kk at hkk;obtain⟨nvk,svk,p0k,p1k,hbk,_,_⟩:=uf.at hkk hak;have q3:=hbk.cell 3 rfl;have q4:=hbk.cell 4 rfl;have hck:wr.cell? ⟨gb9,k,none⟩=some (.pointer (some ⟨ak,0,none⟩)):=by
       rw[ZF wD k (by omega)];simp[hak]
      have HK:=X7 hall hkk hak;clear hall hkk hak hkb;by_cases hlr:(kk.live&&kk.Yz)=true
      .obtain⟨e1,e2⟩:kk.live=true/\kk.Yz=true:=by simpa using hlr
       rw[e1]at q3;rw[e2]at q4;clear e1 e2;have ue:Hid ((S3.Z6.any fun k=>k.live&&k.Yz)=true):=Z5 (List.any_eq_true.2 ⟨kk,ZY HK.out.2.1,hlr⟩);obtain⟨ud,f10⟩:=uf.alloc (.cells [.slice (some ⟨gb9,0,none⟩) A3.length zM,.bool false].toArray 91);have Mv:=cq.alloc (.cells [.slice (some ⟨gb9,0,none⟩) A3.length zM,.bool false].toArray 91);clear hlr;go_wp2_with fail
       go_ret;exact⟨wr.heap.size,w.heap.size,_,A3,L3,_,_,_,_,rfl,by rw[ue.out];exact ZD.new wr _ _,Mv,ud,hF9.trans f10⟩
      .have hR:wF S3 wr (.bool true) (.int .i64 ((k:Int)+1)) wr:=⟨rfl,k+1,by simp,rfl,fun j kj hj hkj=>by
        by_cases hjk:j=k
        .subst hjk;rw[HK.out.2.1]at hkj;cases hkj;simpa using hlr
        .exact HK.out.1 j kj (by omega) hkj⟩
       have HR:=Z5 hR;clear hR;cases hl:kk.live with
       |false=>
        rw[hl]at q3;clear hlr hl;go_wp2_with fail
        exact⟨HR.out,by simp[intOf];omega⟩
       |true=>
        have hrr:kk.Yz=false:=by
         rw[hl]at hlr;simpa using hlr
        rw[hl]at q3;rw[hrr]at q4;clear hlr hl hrr;go_wp2_with fail
        exact⟨HR.out,by simp[intOf];omega⟩
     .have ue:Hid ((S3.Z6.any fun k=>k.live&&k.Yz)=false):=Z5 (by
       rw[List.any_eq_false];intro kj hkj;obtain⟨j,hj,rfl⟩:=List.getElem_of_mem hkj;have:=hall j S3.Z6[j] (by have:=HA9.out;omega) (Z9 hj);simpa using this)
      obtain⟨ud,f10⟩:=uf.alloc (.cells [.slice (some ⟨gb9,0,none⟩) A3.length zM,.bool true].toArray 91);have Mv:=cq.alloc (.cells [.slice (some ⟨gb9,0,none⟩) A3.length zM,.bool true].toArray 91);clear hall;go_wp2_with fail
      go_ret;exact⟨wr.heap.size,w.heap.size,_,A3,L3,_,_,_,_,rfl,by rw[ue.out];exact ZD.new wr _ _,Mv,ud,hF9.trans f10⟩
  .simp only[List.concat_eq_append]at hk hbd hlv hown hnq;obtain rfl:nq=LK.length+1:=by simpa using hnq
   clear hnq;obtain⟨hri,hil⟩:=hlv.queue i (by simp);have hki:=Z9 hil;generalize S.Z6[i]=ki at hki;have hai: ∃ ai,A3[i]? =some ai:=⟨A3[i]'(by have:=HP.out.2.2.1;omega),Z9 _⟩
   obtain⟨ai,hai⟩:=hai;have hci:wr.cell? ⟨gq,LK.length,none⟩=some (.pointer (some ⟨ai,0,none⟩)):=by
    rw[ZF hown LK.length (by omega)];simp[Ox hai]
   obtain⟨nv6,sv6,p06,p16,Du,hs2,hsu⟩:=wE.at (WI hki) hai;have t3:=Du.cell 3 rfl;have t3f:=Du.free 3;have hown':wr.ownsRow w3.heap.size 92 1 (.slice (some ⟨gq,0,none⟩) LK.length zO) LK.length (LK.map (Qm A3)):=by
    have:=zP hown;simpa using this
   have ub:LK.length+1<=200002:=by simp at hbd;omega
   have Z6x:LK.length<=zO:=by omega
   have hcq1:(LK.length:Int)<=zO:=by omega
   clear hcq;cases hfi:f i with
   |true=>
    have hR:GU w B w.heap.size b0 A3 L3 S M w3.heap.size (.slice (some ⟨gb,0,none⟩) A3.length Jb) (3*left S.Z6.length f+LK.length) (.slice (some ⟨gq,0,none⟩) LK.length zO) wr:=
     ⟨LK,f,rfl,by simp at hbd;omega,hlv.skip hfi,hown',by simp,wE,GT,_,_,_,_,hb6⟩
    have HR:=Zl hR hk;rw[hfi]at t3;simp only[Z4,List.length_singleton,List.concat_eq_append]at*;clear hR hk hlv hown hnn hri hki hai hfi hsu hbd;go_wp2_with fail
    go_roundg (3*left S.Z6.length f+LK.length)
    case rel=>exact HR.out.1
    case measure=>have:=HR.out.2;omega
   |false=>
    rw[hfi]at t3;obtain⟨gV,f7⟩:=wE.zQ hki hai;have cm:=Du.set 3 (.bool true);have r1:=cm.cell 1 rfl;have hb7:=hb6.setOther ⟨ai,3,none⟩ (.bool true) (Zq.ne hb6.ty Du.ty (by decide));have t9:Zq wr gq 92:=Zg hown' rfl;have wC:=Y3 hown' ⟨ai,3,none⟩ (.bool true) (by simp only[Value.ownBlock];exact fun e=>Zq.ne Du.ty t9 (by decide) (by simpa using e));have hnews: ∀ (j:Nat) u,(ki.succs.map (Qm A3))[j]? =some u->(wr.setCell ⟨ai,3,none⟩ (.bool true)).cell? (Addr.add ⟨ai,7,none⟩ j)=some u:=by
     intro j u hu;rw[Yt,ZX]at hu;obtain⟨s,hs,rfl⟩:=hu;obtain⟨nv8,sv8,p08,p18,Z6w,_,cj⟩:=gV.at (WI hki) hai;obtain⟨q,hq,hc⟩:=cj j s hs;rw[Ox hq];by_cases hj0:j=0
     .subst hj0;simpa [Addr.add]using hc
     .simpa [Addr.add,hj0]using hc
    have wB: ∀ u∈ki.succs.map (Qm A3),u.oneCell'=true:=by
     intro u hu;simp only[Y2]at hu;obtain⟨s,_,rfl⟩:=hu;rfl
    have hk2:ki.succs.length<=2:=hs2;have hrs:=HG.out.2.2.2.1 i ki hki;have hlm:=Fz hil hfi;have HK:=Xp hk hbd (hlv.take hki hrs) hlm;have HNW:=Z5 hnews;have HON:=Z5 wB;have sz7:(wr.setCell ⟨ai,3,none⟩ (.bool true)).heap.size=wr.heap.size:=by simp[World.setCell]
    have Hsz:=Z5 sz7;have hw3:w3.heap.size<=wr.heap.size:=by omega
    simp only[Z4,List.length_singleton,List.concat_eq_append]at*;clear hk hbd hlv hown hnn hri hki hai hfi hsu hrs hlm hnews wB sz7 hil;go_wp2_with (at_builtin;refine wpList_append_own _ rfl _ _ 89 rfl w3.heap.size 92 i0 (.pointer none) 1 8 underlying89 hi0 hz0 hz1 hz2 rfl (by decide) _ LK.length (LK.map (Qm A3)) (by rfl) wC ⟨ai,7,none⟩ ki.succs.length 2 (ki.succs.map (Qm A3)) (by rfl) (by simp) HNW.out HON.out ?c1 ?c2 ?c3 ?_)
    case c1=>unfold maxLen;omega
    case c2=>omega
    case c3=>rw[Hsz.out];omega
    intro v8 w8 Dt lW ww;obtain⟨hk,hbd,lV,hlm⟩:=HK.out;have f78:Fr bT B (wr.setCell ⟨ai,3,none⟩ (.bool true)) w8:=(Fr.refl bT B _).grown wC lW (by rw[Hsz.out];have:=wE.choose_spec.leB;omega) (by have:=h3.choose_spec.leB;omega) (.inl (by decide));have o78:Only [gq] (wr.setCell ⟨ai,3,none⟩ (.bool true)) w8:=(Only.refl _ _).grown lW (fun k hk=>.inl (by simpa [Value.ownBlock]using hk.symm));have cu:=gV.keep o78 f78 hb7 (by
     intro x hx;simp at hx;subst hx;exact⟨t9.setCell _ _,by simp[Value.ownBlock];omega⟩)
    have hb8:=hb7.only o78 (by simpa using Zq.ne hb6.ty t9 (by decide))
    have hR:GU w B w.heap.size b0 A3 L3 S M w3.heap.size (.slice (some ⟨gb,0,none⟩) A3.length Jb) (3*left S.Z6.length (fun x=>f x||x==i)+(LK++ki.succs).length) v8 w8:=
     ⟨LK++ki.succs,_,rfl,by simp;omega,lV,by simpa using Dt,by intro e;exact ww e,cu,GT.trans (f7.trans f78),_,_,_,_,hb8⟩
    have HR:=X7 hR hk hlm;clear hR hk hbd lV hlm ww;go_wp2_with fail
    go_roundg (3*left S.Z6.length (fun x=>f x||x==i)+(LK++ki.succs).length)
    case rel=>exact HR.out.1
    case measure=>have h1:=HR.out.2.1;have h2:=HR.out.2.2;simp;omega
end
end Go.Proofs.YteedbaejpdjilaaGreat
