/- Part of the proof: BldV BldW. -/
import Derived.Test.YteedbaejpdjilaaGreatYPk
import Derived.Deep.DeepCutAuto
set_option linter.all false
set_option maxRecDepth 100000
set_option maxHeartbeats 40000000
namespace Go.Proofs.YteedbaejpdjilaaGreat
open Go.RowKit Tryz
section
attribute [local go_sem] UC
variable {w:World} {B b b0:Nat} {A L:List Nat} {S S':BS} {tg:List Tg} {M:Mk}
def OD (M:Mk) (P:Hp->Prop) (lv:Value) (run:Lr):Prop:= ∀ (w:World) (B b b0:Nat) (A L:List Nat) (S S':BS) (tg:List Tg),BX w B b b0 A L S tg M->P (Hv w 0)->run tg S=some S'->
 Calls prog 101 #[b,lv] w fun e w'=>e=.returned (.tuple #[])/\X8 w w' B b b0 A L S' tg M
def Fit (M:Mk) (n:Nat) (l:List Bool):Prop:= ∀ (j:Nat) s,l[j]? =some s->M.stops[n+j]? =some s
theorem Fit.left {n:Nat} {l l':List Bool} (h:Fit M n (l++l')):Fit M n l:=fun j s hj=>h j s (by rw[ZP (Z1.1 hj).1];exact hj)
theorem Fit.right {n k:Nat} {l l':List Bool} (h:Fit M n (l++l')) (hk:l.length=k):Fit M (n+k) l':=fun j s hj=>by
 have:=h (k+j) s (by rw[Zj (by omega),show k+j -l.length=j by omega];exact hj);rwa [<-Z3]at this
def BL (M:Mk) (t:T):Prop:=t.ok-> ∀ (n i:Nat),Fit M n (t.stops false)->
 (∀ (vs:List Value) (lv:Value),OD M (fun H=>NP H lv vs 96/\t.Ast H 0 n i vs) lv (t.YO.list n i))/\
 (∀ v:Value,Qp M (fun H=>t.Ast H 0 n i [v]) v (t.YO.list n i))
theorem WK {t:T} {lv:Value} {vs:List Value} {m n i:Nat} :Vm (fun H=>NP H lv vs 96/\t.Ast H m n i vs):=fun _ _ hH h=>⟨h.1.mono hH,h.2.mono hH⟩
theorem FJ {t:T} {vs:List Value} {m n i:Nat} :Vm (fun H=>t.Ast H m n i vs):=fun _ _ hH h=>h.mono hH
theorem DZ (a:Addr) (n c:Nat) (w:World):(binOp .eql 140 (.slice (some a) n c) (.slice none 0 0)).run prog w=.ok (.bool false) w:=by kernel_rfl
theorem G4 (w:World):(binOp .eql 140 (.slice none 0 0) (.slice none 0 0)).run prog w=.ok (.bool true) w:=by kernel_rfl
theorem Px {H:Hp} : ∀ {t:T} {m n i:Nat} {vs:List Value},t.Ast H m n i vs->vs.length=t.len:=by
 intro t
 induction t with
 |nil=>intro m n i vs h;simp[show vs= []from h,T.len]
 |st h b e c tl _ _ _ ih=>intro m n i vs ⟨_,v,vs',hv,_,h2⟩;subst hv;simp[T.len,ih h2]
 |cl x b tl _ ih=>intro m n i vs ⟨v,vs',hv,_,h2⟩;subst hv;simp[T.len,ih h2]
theorem NP.cell {vs:List Value} {t:Nat} {lv:Value} (h:NP (Hv w 0) lv vs t) {k:Nat} {v:Value} (hv:vs[k]? =some v): ∃ g cap,lv=.slice (some ⟨g,0,none⟩) vs.length cap/\w.cell? ⟨g,k,none⟩=some v:=by
 rcases h with⟨rfl,rfl⟩ |⟨g,cap,rest,h1,h2,h3,rfl,h4⟩
 .simp at hv
 .refine⟨g,cap,rfl,h4.2.2.cell k ?_⟩;rw[ZP (Z1.1 hv).1];exact hv
theorem drop_cons {vs vs':List Value} {k:Nat} {v:Value} (h:vs.drop k=v::vs'):vs[k]? =some v/\vs.drop (k+1)=vs':=by
 have h1:(vs.drop k)[0]? =some v:=by rw[h];rfl
 have h2:(vs.drop k).drop 1=vs':=by rw[h];rfl
 rw[List.drop_drop]at h2;exact⟨by simpa using h1,h2⟩
def qt (M:Mk) (H:Hp) (v:Value):Option Lr->Prop
 |none=>v=.pointer none
 |some run=> ∃ ca p0 ev c0 bv P,v=.pointer (some ⟨ca,0,none⟩)/\H ca [p0,ev,c0,bv] 229/\Vm P/\P H/\OD M P bv run
theorem qt.mono {H H':Hp} (hH: ∀ b cs t,H b cs t->H' b cs t) {v:Value} {o:Option Lr} (h:qt M H v o):qt M H' v o:=by
 cases o with
 |none=>exact h
 |some run=>
  obtain⟨ca,p0,ev,c0,bv,P,h1,h2,h3,h4,h5⟩:=h;exact⟨ca,p0,ev,c0,bv,P,h1,hH _ _ _ h2,h3,h3 _ _ hH h4,h5⟩
def DY (M:Mk) (w:World) (B b b0:Nat) (A L:List Nat) (tg:List Tg) (c:T) (vs:List Value) (S':BS) (done dn:Nat) (i7 ix:Value) (wr:World):Prop:=
 ∃ (k:Nat) (rest:T) (n i:Nat) (A1 L1:List Nat) (S1:BS) (df:Option Lr),ix=.int .i64 k/\k+rest.len=c.len/\rest.All (BL M)/\rest.ok/\Fit M n (rest.stops false)/\A <+:A1/\L <+:L1/\A1[done]? =some dn/\
  BX wr B b b0 A1 L1 S1 tg M/\Fr bT B w wr/\rest.Ast (Hv wr 0) 2 n i (vs.drop k)/\qt M (Hv wr 0) i7 df/\rest.YO.ty n i tg done df S1=some S'
def wZ (M:Mk) (w:World) (B b b0:Nat) (A L:List Nat) (tg:List Tg) (x body:Nat) (p:Int) (S3:BS) (i12 ix:Value) (wr:World):Prop:=
 ∃ (j:Nat) (A1:List Nat) (S2:BS),ix=.int .i64 j/\j<=x/\A <+:A1/\BX wr B b b0 A1 L S2 tg M/\Fr bT B w wr/\(0 < j-> ∃ q a,S2.cur=some q/\A1[q]? =some a/\i12=.pointer (some ⟨a,0,none⟩))/\WZ body p (x -j) S2=some S3
theorem nC (t:Nat) (q:Value) (w:World):(binOp .neq 96 (.iface t q) .nilIface).run prog w=.ok (.bool true) w:=by kernel_rfl
theorem uu (w:World):(binOp .neq 96 .nilIface .nilIface).run prog w=.ok (.bool false) w:=by kernel_rfl
theorem zY (x:Nat) (t:Nat) (q:Value) (w:World):(eqGuard .neq 96 (.tmp x) (.const .nilIface) (.iface t q) .nilIface).run prog w=.ok () w:=by kernel_rfl
theorem DX (x:Nat) (w:World):(eqGuard .neq 96 (.tmp x) (.const .nilIface) .nilIface .nilIface).run prog w=.ok () w:=by kernel_rfl
theorem OC {H:Hp} {is:Bool} {v:Value} {p:Int} (h:YA H is v p):(∀ w,(binOp .neq 96 v .nilIface).run prog w=.ok (.bool is) w)/\v.cells= #[v]/\ ∀ x w,(eqGuard .neq 96 (.tmp x) (.const .nilIface) v .nilIface).run prog w=.ok () w:=by
 rcases h with⟨rfl,rfl⟩ |⟨rfl,a,l,x,r,rfl,_⟩
 .exact⟨uu,rfl,fun x=>DX x⟩
 .exact⟨nC _ _,rfl,fun x=>zY x _ _⟩
theorem Ls.ptr {L:List Nat} {v:Value} {lab:Option Nat} (h:Ls L v lab): ∃ p,v=.pointer p:=by
 rcases h with⟨_,rfl⟩ |⟨j,l,_,rfl,_⟩<;>exact⟨_,rfl⟩
theorem Qo (h:BX w B b b0 A L S tg M) {ca done dn:Nat} {p0 ev c0 bv:Value} (hca:Hv w 0 ca [p0,ev,c0,bv] 229) (hdn:A[done]? =some dn) {P:Hp->Prop} (hP:Vm P) (hp:P (Hv w 0)) {run:Lr} (hB:OD M P bv run)
  {S1:BS} (g1:run (⟨some done,none,none⟩::tg) S=some S1) (g2:S1.YG done=some S'):
  Calls prog 120 #[b,ca,dn] w fun e w'=>e=.returned (.tuple #[])/\X8 w w' B b b0 A L S' tg M:=by
 have HG:=X7 g1 g2 hdn;clear g1 g2 hdn;have HB:=Z5 hB;clear hB;go_enter func120,ntmps120;obtain⟨bv1,cv1,mv1,tv1,hb1,dN,nA⟩:=h.blk;obtain⟨tp1,rfl⟩:=nA.ptr;clear dN nA;have Z7e:=hb1.cell 4 rfl;have Z7d:=hb1.free 4;have hlt1:b < w.heap.size:=by simpa [World.setCell]using hb1.lt
 have nz:=hb1.alloc (.cells [.pointer tp1,.pointer (some ⟨dn,0,none⟩),.pointer none,.pointer none].toArray 223);have Z8H:=nz.cell 4 rfl;have Z8G:=nz.free 4;obtain⟨h1,f1⟩:=h.push (N:=w.heap.size) (by simp[World.setCell]) hb1 (t:=⟨(some _),none,none⟩) (Zc.of HG.out.2.2) Zc.nil Zc.nil;have ha1:=Zt f1 hca;have oH:=ha1.2.2.cell 3 rfl;go_wp2_with fail
 refine(HB.out _ _ _ _ _ _ _ _ _ h1 (hP _ _ (Hv.bT f1) hp) HG.out.1).mono ?_;rintro e w2 ⟨rfl,A2,L2,hA2,hL2,h2,f2⟩;have P2:=Zl hA2 hL2;clear hA2 hL2;have ha2:=Zt f2 ha1;have oE:=ha2.2.2.cell 3 rfl;obtain⟨dM,cv3,mv3,ta3,tl3,tb3,tc3,tf3,hb3,ht3,h3,f3⟩:=h2.pop;have Z7c:=hb3.cell 4 rfl;have Z7b:=hb3.free 4;have Z7a:=ht3.cell 0 rfl;have EE:=Zt f3 ha2;have oB:=EE.2.2.cell 3 rfl;go_wp2_with fail
 refine(YT h3 HG.out.2.1 (Zx P2.out.1 HG.out.2.2)).mono ?_;rintro e w4 ⟨rfl,h4,f4⟩;have ND:=Zt f4 EE;have ox:=ND.2.2.cell 3 rfl;go_wp2_with fail
 go_end0
 exact⟨rfl,(X8.of P2.out.1 P2.out.2 h4 (f1.trans (f2.trans (f3.trans f4))))⟩
theorem FI (h:BX w B b b0 A L S tg M) {wY:Value} {lab:Option Nat} (hlab:Ls L wY lab) {hd:Hd} {n i a bb n' i':Nat} {iv gv:Value} {vs:List Value} {c:T} (ha:Hv w 0 a [.int .i64 (ip i),iv,gv,bb] 231)
  (hiv:YA (Hv w 0) hd.init iv (lp n)) (hgv:XE (Hv w 0) gv) (hbl:YW (Hv w 0) bb 0 0 vs) (hc:c.Ast (Hv w 0) 2 n' i' vs) (hok:c.ok) (hall:c.All (BL M)) (hfit:Fit M n' (c.stops false))
  (hs:QQ hd n i lab (fun done=>c.YO.ty n' i' tg done none) S=some S'):
  Calls prog 104 #[b,a,wY] w fun e w'=>e=.returned (.tuple #[])/\X8 w w' B b b0 A L S' tg M:=by
 unfold QQ at hs;generalize hd.init=ini at hs hiv;simp only[Z8]at hs;obtain⟨S0,g0,S1,g1,S2,g2,g3⟩:=hs;obtain⟨lv,hbb,harr⟩:=hbl;obtain⟨VX,qg0,rfl⟩:=hgv.iface;obtain⟨pl,rfl⟩:=hlab.ptr;have x1:=ha.2.2.cell 1 rfl;have x2:=ha.2.2.cell 2 rfl;have hlen:=Px hc;obtain⟨la,OA,rfl⟩: ∃ la OA,lv=.slice la vs.length OA:=by
  rcases harr with⟨rfl,rfl⟩ |⟨g,cap,rest,h1,h2,h3,rfl,h4⟩
  .exact⟨_,_,rfl⟩
  .exact⟨_,_,rfl⟩
 have hvl:vs.length<=2000000:=by
  rcases harr with⟨rfl,_⟩ |⟨g,cap,rest,h1,h2,h3,_,h4⟩
  .simp
  .exact h3
 have HG:=Wp g0 g1 g2 g3 hlen;clear g0 g1 g2 g3 hlen;have HC:=Xp hc hok hall hfit;clear hc hok hall hfit;go_enter func104,ntmps104;obtain⟨hne,Jl,zX⟩:=OC hiv;unfold Value.cells at Jl;go_upto_if 19 with(fail)
 go_cut [] (fun wx=>X8 w wx B b b0 A L S0 tg M)
 case first=>
  have g0:=HG.out.1;unfold BS.XB at g0;rcases hiv with⟨rfl,rfl⟩ |⟨rfl,hiv⟩
  .obtain rfl:S=S0:=by simpa using g0
   clear g0;go_wp2_with fail
   go_meet;exact X8.of (ZB _) (ZB _) h (Fr.refl _ _ _)
  .have g0:S.Yk ⟨lp n,false⟩=some S0:=by simpa using g0
   have ut:=hiv;obtain⟨ti,qi,rfl⟩:=hiv.iface;have G0:=Z5 g0;clear g0;go_wp2_with fail
   refine(Wr h ut G0.out).mono ?_;rintro e w1 ⟨rfl,h1⟩;go_wp2_with fail
   go_meet;exact h1
 case rest=>
  obtain⟨A1,L1,hA1,hL1,h1,f1⟩:=hcut;have P1:=Zl hA1 hL1;clear hA1 hL1 x1 x2;have ha1:=Zt f1 ha;have x2:=ha1.2.2.cell 2 rfl;go_wp2_with fail
  refine(XL h1 HG.out.2.1 (.inr ⟨rfl,.inr (.inr (.inr (.inr (.inr (.inr (.inr (.inr (.inr ⟨hgv.mono (Hv.bT f1),rfl⟩))))))))⟩)).mono ?_;rintro e w2 ⟨rfl,h2,f2⟩;have ha2:=Zt f2 ha1;go_wp2_with fail
  refine(YH h2 HG.out.2.2.1 (Yr (ty:=203) (t0:=231) (by decide) ha2)).mono ?_;rintro e w3 ⟨dn,rfl,A3,hA3,hdn,h3,f3⟩;have P3:=Zl hA3 hdn;clear hA3 hdn x2;go_upto_if 42 with(fail)
  go_cut [] (fun wx=>BX wx B b b0 A3 L1 (S2.XG lab S1.Z6.length) tg M/\Fr bT B w3 wx)
  case first=>
   rcases hlab with⟨rfl,hpl⟩ |⟨j,l,rfl,hpl,hl⟩;all_goals cases hpl
   .go_wp2_with fail
    go_meet;exact⟨h3,Fr.refl _ _ _⟩
   .have hl1:=Zx P1.out.2 hl;obtain⟨yy,gv4,bv4,cv4,ny,Ln⟩:=h3.OE hl1;have y4:=Ln.cell 1 rfl;have z4:=Ln.free 1;have hK:=h3.Mx hl1 P3.out.2;clear ny hl1 hl;go_wp2_with fail
    go_meet;exact hK
  case rest=>
   obtain⟨h4,f4⟩:=hcut;have F4:Fr bT B w wc:=f1.trans (f2.trans (f3.trans f4));have ND:=Zt F4 ha;have x3:=ND.2.2.cell 3 rfl;have FH:=Zt F4 hbb;have u1:=FH.2.2.cell 1 rfl;obtain⟨wo,hwo⟩: ∃ wo:World,wo=wc:=⟨_,rfl⟩
   subst hwo;go_wp2_with fail
   go_loopw [7,55] (fun i7 ix wr=>DY M w B b b0 A L tg c vs S' S1.Z6.length dn i7 ix wr) (fun _ ix _=>vs.length -(intOf ix).toNat)
   case atStart=>
    obtain⟨hc,hok,hall,hfit⟩:=HC.out;exact⟨0,c,n',i',A3,L1,S2.XG lab S1.Z6.length,none,rfl,by simp,hall,hok,hfit,ZW P1.out.1 P3.out.1,P1.out.2,P3.out.2,h4,F4,by simpa using hc.mono (Hv.bT F4),rfl,HG.out.2.2.2.1⟩
   case round=>
    obtain⟨k,rest,n1,i1,A5,L5,S5,df,rfl,hlen',XC,hok',VG,G3,hL5,Rx,h5,f5,YD,hdf,X5⟩:=hrel;have hlen:=HG.out.2.2.2.2;cases rest with
    |st hd' b' e' c' tl'=>exact absurd YD.1 (by simp)
    |nil=>
     have hk: ¬ k < vs.length:=by rw[hlen];simp[T.len]at hlen';omega
     have HQ:=X7 G3 hL5 Rx;clear hlen hlen' G3 hL5 Rx;cases df with
     |none=>
      simp only[qt]at hdf;subst hdf;simp only[T.YO,RK,ZX]at X5;obtain⟨S6,g6,rfl⟩:=X5;have G6:=Z5 g6;clear g6;go_wp2_with fail
      refine(YT h5 G6.out HQ.out.2.2).mono ?_;rintro e w6 ⟨rfl,h6,f6⟩;obtain⟨ib,hZ,hI,gZ,hb7,_,_⟩:=h6.blk;have y7:=hb7.cell 2 rfl;have z7:=hb7.free 2;obtain⟨h7,f7⟩:=h6.setCur HQ.out.2.2;go_wp2_with fail
      go_end0
      exact⟨rfl,X8.of HQ.out.1 HQ.out.2.1 h7 (f5.trans (f6.trans f7))⟩
     |some run=>
      obtain⟨ca,p0,ev,c0,bv,P,rfl,hca,hP,hp,hLC⟩:=hdf;simp only[T.YO,RK,ZX,Z8]at X5;obtain⟨S6,g6,S7,g7,rfl⟩:=X5;have G6:=Zl g6 g7;clear g6 g7;have nw:=Z5 hLC;clear hLC;go_wp2_with fail
      refine(Qo h5 hca HQ.out.2.2 hP hp nw.out G6.out.1 G6.out.2).mono ?_;rintro e w6 ⟨rfl,A6,L6,Bq,hL6,h6,f6⟩;have P6:=Zl Bq hL6;clear Bq hL6;obtain⟨ib,hZ,hI,gZ,hb7,_,_⟩:=h6.blk;have y7:=hb7.cell 2 rfl;have z7:=hb7.free 2;obtain⟨h7,f7⟩:=h6.setCur (Zx P6.out.1 HQ.out.2.2);go_wp2_with fail
      go_end0
      exact⟨rfl,X8.of (ZW HQ.out.1 P6.out.1) (ZW HQ.out.2.1 P6.out.2) h7 (f5.trans (f6.trans f7))⟩
    |cl x bd tl=>
     have hk:k < vs.length:=by rw[hlen];simp[T.len]at hlen';omega
     obtain⟨v,vs',hdrop,hcl,htl⟩:=YD;obtain⟨hvk,XA⟩:=drop_cons hdrop;obtain⟨ca,ev,bv,bvs,rfl,hca,hex,Qn,UW⟩: ∃ ca ev bv bvs,v=.iface 227 (.pointer (some ⟨ca,0,none⟩))/\Hv wr 0 ca [.int .i64 (ip i1),ev,.int .i64 0,bv] 229/\Wb (Hv wr 0) ev x.toNat (fun _=>0)/\NP (Hv wr 0) bv bvs 96/\bd.Ast (Hv wr 0) 0 n1 (i1+1) bvs:=by
      rcases hcl with⟨hm,_⟩ |⟨_,a1,e1,b1,v1,h1,h2,h3,h4,h5⟩ |⟨hm,_⟩
      .omega
      .exact⟨a1,e1,b1,v1,h1,h2,h3,h4,by simpa using h5⟩
      .omega
     obtain⟨ga,zW,hlv,hcell0⟩:=(harr.mono (Hv.bT f5)).cell hvk;obtain rfl:la=some ⟨ga,0,none⟩:=by simp at hlv;exact hlv.1
     clear hlv;have d1:=hca.2.2.cell 1 rfl;obtain⟨p0,p00,p1,p2⟩:=hok';obtain⟨q1,q2⟩:=XC;have Si:tl.Ast (Hv wr 0) 2 (n1+bd.lv false) (i1+1+bd.it) (vs.drop (k+1)):=by rw[XA];simpa using htl
     have hfb:Fit M n1 (bd.stops false):=by
      have:=VG;simp only[T.stops,Zw,if_false,List.replicate_zero,List.nil_append]at this;exact this.left
     have hft:Fit M (n1+bd.lv false) (tl.stops false):=by
      have:=VG;simp only[T.stops,Zw,if_false,List.replicate_zero,List.nil_append]at this;exact this.right (T.Xx p1)
     obtain⟨hLb,_⟩:=q1 p1 n1 (i1+1) hfb;have hlb:=hLb bvs bv;simp only[T.YO]at X5;have HQ:=F6 G3 hL5 Rx hlen' X5 hvk hdrop XA;clear hlen hlen' G3 hL5 Rx X5 hvk hdrop XA VG hcl htl;have wW:=Z5 hlb;clear hlb hLb;by_cases hx:x<=0
     .obtain rfl:ev=.slice none 0 0:=by
       obtain⟨xs,hx1,hx2,_⟩:=hex;rcases hx1 with⟨_,hv⟩ |⟨g,cap,r,h1,_⟩
       .exact hv
       .omega
      have hR:DY M w B b b0 A L tg c vs S' S1.Z6.length dn (.pointer (some ⟨ca,0,none⟩)) (.int .i64 ((k:Int)+1)) wr:=by
       have hb:=HQ.out.2.2.2.2.1;rw[if_pos hx]at hb;exact⟨k+1,tl,n1+bd.lv false,i1+1+bd.it,A5,L5,S5,_,by simp,by have:=HQ.out.2.2.2.1;simp[T.len]at this;omega,q2,p2,hft,HQ.out.1,HQ.out.2.1,HQ.out.2.2.1,h5,f5,Si,(show qt M (Hv wr 0) _ (some (bd.YO.list n1 (i1+1)))from⟨ca,_,_,_,bv,_,rfl,hca,WK,⟨Qn,UW⟩,wW.out⟩),hb⟩
      have HR:=Z5 hR;have he1:=G4;clear hR hx;go_wp2_with fail
      exact⟨HR.out,by simp[intOf];omega⟩
     .obtain⟨xs,hxs,hxl,hxe⟩:=hex;obtain⟨ge,Jk,er,rfl,hge⟩: ∃ ge Jk er,ev=.slice (some ⟨ge,0,none⟩) x.toNat Jk/\Hv wr 0 ge (xs++er) 168:=by
       rcases hxs with⟨rfl,_⟩ |⟨g,cap,r,_,_,_,hv,hg⟩
       .simp at hxl;omega
       .exact⟨g,cap,r,by rw[hv,hxl],hg⟩
      have hb:=HQ.out.2.2.2.2.1;rw[if_neg hx]at hb;simp only[Z8]at hb;obtain⟨S6,g6,S7,g7,S8,g8,S9,g9,g10⟩:=hb;have HB:=Qd g6 g7 g8 g9 g10 hxl;clear g6 g7 g8 g9 g10 hxl hxs hxe;have nu:x.toNat<=300:=by omega
      have hx0:0 < x.toNat:=by omega
      obtain⟨wq,hwq⟩: ∃ wq:World,wq=wr:=⟨_,rfl⟩
      subst hwq;have he1:=DZ ⟨ge,0,none⟩ x.toNat Jk;go_wp2_with fail
      refine(YH h5 HB.out.1 (Yr (ty:=227) (t0:=229) (by decide) hca)).mono ?_;rintro e w6 ⟨ab,rfl,A6,Bq,hab,h6,f6⟩;have P6:=Zl Bq hab;clear Bq hab;have nt:=Zt f6 hca;have dL:=Zt f6 hge;have d61:=nt.2.2.cell 1 rfl;go_wp2_with fail
      go_loopw [12,76] (fun i12 jx wi=>wZ M w6 B b b0 A6 L5 tg x.toNat S5.Z6.length (ip i1) S7 i12 jx wi) (fun _ jx _=>x.toNat -(intOf jx).toNat)
      case atStart=>exact⟨0,A6,S6,rfl,Nat.zero_le _,ZB _,h6,Fr.refl _ _ _,fun h=>absurd h (Nat.lt_irrefl 0),by simpa using HB.out.2.1⟩
      case round=>
       obtain⟨j,A7,RM,rfl,hj,zV,h7,f7,hnx,htt⟩:=hrel;have FG:=Zt f7 nt;by_cases eP:j < x.toNat
       .have hj2:j < xs.length:=by have:=HB.out.2.2.2.2.2;omega
        have e1:wr.cell? ⟨ge,j,none⟩=some xs[j]:=(Zt f7 dL).2.2.cell j (by rw[ZP hj2];exact Z9 hj2);rw[show x.toNat -j=(x.toNat -j -1)+1 by omega]at htt;simp only[WZ,Z8]at htt;obtain⟨EF,g11,Pa,g12,g13⟩:=htt;have HT:=Xp g11 g12 g13 zV;clear g11 g12 g13 zV hnx;go_wp2_with fail
        refine(YH h7 HT.out.1 (Yr (ty:=227) (t0:=229) (by decide) FG)).mono ?_;rintro e w8 ⟨an,rfl,A8,ur,han,h8,f8⟩;have P8:=Zl ur han;clear ur han;go_wp2_with fail
        refine(Nb h8 HT.out.2.1 (Zx (ZW HT.out.2.2.2 P8.out.1) P6.out.2) P8.out.2).mono ?_;rintro e w9 ⟨rfl,h9,f9⟩;obtain⟨dK,dJ,dI,dH,Mv,_,_⟩:=h9.blk;have LL:=Mv.cell 2 rfl;have z10:=Mv.free 2;obtain⟨h10,f10⟩:=h9.setCur P8.out.2
        have hR:wZ M w6 B b b0 A6 L5 tg x.toNat S5.Z6.length (ip i1) S7 (.pointer (some ⟨an,0,none⟩)) (.int .i64 ((j:Int)+1)) (w9.setCell ⟨b,2,none⟩ (.pointer (some ⟨an,0,none⟩))):=
         ⟨j+1,A8,_,by simp,by omega,ZW HT.out.2.2.2 P8.out.1,h10,f7.trans (f8.trans (f9.trans f10)),fun _=>⟨RM.Z6.length,an,rfl,P8.out.2,rfl⟩,by rw[show x.toNat -(j+1)=x.toNat -j -1 by omega];exact HT.out.2.2.1⟩
        have HR:=Z5 hR;clear hR;go_wp2_with fail
        exact⟨HR.out,by simp[intOf];omega⟩
       .obtain rfl:j=x.toNat:=by omega
        have uq:RM=S7:=by simpa [WZ]using htt
        subst uq;obtain⟨q,qa,hq1,hq2,rfl⟩:=hnx hx0;have uo:=Qn.mono (Hv.bT (f6.trans f7));have um:=UW.mono (Hv.bT (f6.trans f7));have HT:=X7 hq1 hq2 zV;clear hq1 hq2 zV hnx htt;obtain⟨bv8,cv8,mv8,tv8,hb8,_,_⟩:=h7.blk;have y8:=hb8.cell 2 rfl;have z8:=hb8.free 2;obtain⟨h8,f8⟩:=h7.setCur (Zx HT.out.2.2 P6.out.2);go_wp2_with fail
        refine(Qo h8 (Zt f8 FG) (Zx (ZW P6.out.1 HT.out.2.2) HQ.out.2.2.1) WK ⟨uo.mono (Hv.bT f8),um.mono (Hv.bT f8)⟩ wW.out HB.out.2.2.1 HB.out.2.2.2.1).mono ?_;rintro e w9 ⟨rfl,A9,L9,wV,hL9,h9,f9⟩;have P9:=Zl wV hL9;clear wV hL9;obtain⟨dK,dJ,dI,dH,Mv,_,_⟩:=h9.blk;have LL:=Mv.cell 2 rfl;have z10:=Mv.free 2;obtain⟨h10,f10⟩:=h9.setCur (Zx P9.out.1 HT.out.2.1);have FF:Fr bT B wq (w9.setCell ⟨b,2,none⟩ (.pointer (some ⟨qa,0,none⟩))):=f6.trans (f7.trans (f8.trans (f9.trans f10)))
        have hR:DY M w B b b0 A L tg c vs S' S1.Z6.length dn _ (.int .i64 ((k:Int)+1)) (w9.setCell ⟨b,2,none⟩ (.pointer (some ⟨qa,0,none⟩))):=
         ⟨k+1,tl,n1+bd.lv false,i1+1+bd.it,A9,L9,S9.at q,df,by simp,by have:=HQ.out.2.2.2.1;simp[T.len]at this;omega,q2,p2,hft,
          ZW HQ.out.1 (ZW P6.out.1 (ZW HT.out.2.2 P9.out.1)),ZW HQ.out.2.1 P9.out.2,Zx (ZW P6.out.1 (ZW HT.out.2.2 P9.out.1)) HQ.out.2.2.1,h10,f5.trans FF,Si.mono (Hv.bT FF),hdf.mono (Hv.bT FF),
          by have:=HB.out.2.2.2.2.1;rw[HT.out.1]at this;exact this⟩
        have HR:=Z5 hR;clear hR;go_wp2_with fail
        exact⟨HR.out,by simp[intOf];omega⟩
end
section
attribute [local go_sem] Rz RG RH
variable {w:World} {B b b0:Nat} {A L:List Nat} {S S':BS} {tg:List Tg} {M:Mk}
def qr (M:Mk) (t:Nat) (H:Hp) (v:Value):Option Lr->Prop
 |none=>v=.pointer none
 |some run=> ∃ ca p0 ev c0 bv P,v=.pointer (some ⟨ca,3,none⟩)/\H ca [p0,ev,c0,bv] t/\Vm P/\P H/\OD M P bv run
theorem qr.mono {t:Nat} {H H':Hp} (hH: ∀ b cs t,H b cs t->H' b cs t) {v:Value} {o:Option Lr} (h:qr M t H v o):qr M t H' v o:=by
 cases o with
 |none=>exact h
 |some run=>
  obtain⟨ca,p0,ev,c0,bv,P,h1,h2,h3,h4,h5⟩:=h;exact⟨ca,p0,ev,c0,bv,P,h1,hH _ _ _ h2,h3,h3 _ _ hH h4,h5⟩
def DW (M:Mk) (w:World) (B b b0:Nat) (A L:List Nat) (tg:List Tg) (c:T) (vs:List Value) (S0:BS) (ix:Value) (wr:World):Prop:=
 ∃ (k:Nat) (rest:T) (n i:Nat) (A1 L1:List Nat) (S1:BS),ix=.int .i64 k/\k+rest.len=c.len/\A <+:A1/\L <+:L1/\
  BX wr B b b0 A1 L1 S1 tg M/\Fr bT B w wr/\rest.Ast (Hv wr 0) 3 n i (vs.drop k)/\rest.YO.comms S1=some S0
def DV (M:Mk) (w:World) (B b b0:Nat) (A L:List Nat) (tg:List Tg) (c:T) (vs:List Value) (S':BS) (done dn:Nat) (dG ix:Value) (wr:World):Prop:=
 ∃ (k:Nat) (rest:T) (n i:Nat) (A1 L1:List Nat) (S1:BS) (df:Option Lr),ix=.int .i64 k/\k+rest.len=c.len/\rest.All (BL M)/\rest.ok/\Fit M n (rest.stops false)/\A <+:A1/\L <+:L1/\A1[done]? =some dn/\
  BX wr B b b0 A1 L1 S1 tg M/\Fr bT B w wr/\rest.Ast (Hv wr 0) 3 n i (vs.drop k)/\qr M 236 (Hv wr 0) dG df/\rest.YO.sel n i tg done df S1=some S'
theorem G2 {H:Hp} {x:Int} {n i:Nat} {P:List Value->Prop} {v:Value} (h:XD H 3 x n i P v): ∃ ca cv bv bvs,v=.iface 237 (.pointer (some ⟨ca,0,none⟩))/\H ca [.int .i64 (ip i),cv,.int .i64 0,bv] 236/\((x<=0/\cv=.nilIface)\/(0 < x/\XE H cv))/\NP H bv bvs 96/\P bvs:=by
 rcases h with⟨hm,_⟩ |⟨hm,_⟩ |⟨_,a1,e1,b1,v1,h1,h2,h3,h4,h5⟩
 .omega
 .omega
 .exact⟨a1,e1,b1,v1,h1,h2,h3,h4,h5⟩
theorem Jj (h:BX w B b b0 A L S tg M) {wY:Value} {lab:Option Nat} (hlab:Ls L wY lab) {i a bb n' i':Nat} {vs:List Value} {c:T} (ha:Hv w 0 a [.int .i64 (ip i),bb] 234)
  (hbl:YW (Hv w 0) bb 0 0 vs) (hc:c.Ast (Hv w 0) 3 n' i' vs) (hok:c.ok) (hall:c.All (BL M)) (hfit:Fit M n' (c.stops false))
  (hs:TE i lab c.YO.comms (fun done=>c.YO.sel n' i' tg done none) S=some S'):
  Calls prog 105 #[b,a,wY] w fun e w'=>e=.returned (.tuple #[])/\X8 w w' B b b0 A L S' tg M:=by
 unfold TE at hs;simp only[Z8]at hs;obtain⟨S0,g0,S2,g2,g3⟩:=hs;obtain⟨lv,hbb,harr⟩:=hbl;obtain⟨pl,rfl⟩:=hlab.ptr;have x1:=ha.2.2.cell 1 rfl;have u1:=hbb.2.2.cell 1 rfl;have hlen:=Px hc;obtain⟨la,OA,rfl⟩: ∃ la OA,lv=.slice la vs.length OA:=by
  rcases harr with⟨rfl,rfl⟩ |⟨g,cap,rest,h1,h2,h3,rfl,h4⟩
  .exact⟨_,_,rfl⟩
  .exact⟨_,_,rfl⟩
 have hvl:vs.length<=2000000:=by
  rcases harr with⟨rfl,_⟩ |⟨g,cap,rest,h1,h2,h3,_,h4⟩
  .simp
  .exact h3
 have HG:=Xp g0 g2 g3 hlen;clear g0 g2 g3 hlen;have HC:=Xp hc hok hall hfit;clear hc hok hall hfit;go_enter func105,ntmps105;go_wp2_with fail
 go_loopw [26] (fun ix wr=>DW M w B b b0 A L tg c vs S0 ix wr) (fun ix _=>vs.length -(intOf ix).toNat)
 case atStart=>exact⟨0,c,n',i',A,L,S,rfl,by simp,ZB _,ZB _,h,Fr.refl _ _ _,by simpa using HC.out.1,HG.out.1⟩
 case round=>
  obtain⟨k,rest,n1,i1,A1,L1,S1,rfl,hlen',hA1,hL1,h1,f1,YD,X5⟩:=hrel;have hlen:=HG.out.2.2.2;cases rest with
  |st hd' b' e' c' tl'=>exact absurd YD.1 (by simp)
  |cl x bd tl=>
   have hk:k < vs.length:=by rw[hlen];simp[T.len]at hlen';omega
   obtain⟨v,vs',hdrop,hcl,htl⟩:=YD;obtain⟨hvk,XA⟩:=drop_cons hdrop;obtain⟨ca,cv,bv,bvs,rfl,hca,hcv,_,_⟩:=G2 hcl;obtain⟨ga,zW,hlv,hcell0⟩:=(harr.mono (Hv.bT f1)).cell hvk;obtain rfl:la=some ⟨ga,0,none⟩:=by simp at hlv;exact hlv.1
   have d1:=hca.2.2.cell 1 rfl;have Si:tl.Ast (Hv wr 0) 3 (n1+bd.lv false) (i1+1+bd.it) (vs.drop (k+1)):=by rw[XA];simpa using htl
   simp only[T.YO]at X5;have HQ:=Xp hA1 hL1 hlen' X5;clear hlv hlen hlen' hA1 hL1 X5 hvk hdrop XA hcl htl;rcases hcv with⟨hx,rfl⟩ |⟨hx,hcv⟩
   .have hR:DW M w B b b0 A L tg c vs S0 (.int .i64 ((k:Int)+1)) wr:=by
     have hb:=HQ.out.2.2.2;rw[if_neg (by omega)]at hb;exact⟨k+1,tl,_,_,A1,L1,S1,by simp,by have:=HQ.out.2.2.1;simp[T.len]at this;omega,HQ.out.1,HQ.out.2.1,h1,f1,Si,hb⟩
    have HR:=Z5 hR;clear hR hx;go_wp2_with fail
    exact⟨HR.out,by simp[intOf];omega⟩
   .have hb:=HQ.out.2.2.2;rw[if_pos hx,Z8]at hb;obtain⟨S3,g3,g4⟩:=hb;have HB:=Zl g3 g4;clear g3 g4;have nr:=hcv;obtain⟨tc,qc,rfl⟩:=hcv.iface;go_wp2_with fail
    refine(Jn h1 nr HB.out.1).mono ?_;rintro e w3 ⟨rfl,A3,L3,hA3,hL3,h3,f3⟩
    have hR:DW M w B b b0 A L tg c vs S0 (.int .i64 ((k:Int)+1)) w3:=
     ⟨k+1,tl,_,_,A3,L3,S3,by simp,by have:=HQ.out.2.2.1;simp[T.len]at this;omega,ZW HQ.out.1 hA3,ZW HQ.out.2.1 hL3,h3,f1.trans f3,Si.mono (Hv.bT f3),HB.out.2⟩
    have HR:=Z5 hR;clear hR hA3 hL3;go_wp2_with fail
    exact⟨HR.out,by simp[intOf];omega⟩
  |nil=>
   have hk: ¬ k < vs.length:=by rw[hlen];simp[T.len]at hlen';omega
   have X5:S1=S0:=by simpa [T.YO]using X5
   subst X5;have P1:=Zl hA1 hL1;clear hlen hlen' hA1 hL1 YD;have ha1:=Zt f1 ha;have x11:=ha1.2.2.cell 1 rfl;go_wp2_with fail
   refine(YH h1 HG.out.2.1 (Yr (ty:=205) (t0:=234) (by decide) ha1)).mono ?_;rintro e w3 ⟨dn,rfl,A3,hA3,hdn,h3,f3⟩;have P3:=Zl hA3 hdn;clear hA3 hdn;go_upto_if 46 with(fail)
   go_cut [] (fun wx=>BX wx B b b0 A3 L1 (S2.XG lab S1.Z6.length) tg M/\Fr bT B w3 wx)
   case first=>
    rcases hlab with⟨rfl,hpl⟩ |⟨j,l,rfl,hpl,hl⟩;all_goals cases hpl
    .go_wp2_with fail
     go_meet;exact⟨h3,Fr.refl _ _ _⟩
    .have hl1:=Zx P1.out.2 hl;obtain⟨yy,gv4,bv4,cv4,ny,Ln⟩:=h3.OE hl1;have y4:=Ln.cell 1 rfl;have z4:=Ln.free 1;have hK:=h3.Mx hl1 P3.out.2;clear ny hl1 hl;go_wp2_with fail
     go_meet;exact hK
   case rest=>
    obtain⟨h4,f4⟩:=hcut;have F4:Fr bT B w wc:=f1.trans (f3.trans f4);have ND:=Zt F4 ha;have x3:=ND.2.2.cell 1 rfl;have FH:=Zt F4 hbb;have u4:=FH.2.2.cell 1 rfl;obtain⟨wo,hwo⟩: ∃ wo:World,wo=wc:=⟨_,rfl⟩
    subst hwo;obtain⟨wo2,dF⟩: ∃ wo:World,wo=wr:=⟨_,rfl⟩
    subst dF;go_wp2_with fail
    go_loopw [10,59] (fun dG ix wr=>DV M w B b b0 A L tg c vs S' S1.Z6.length dn dG ix wr) (fun _ ix _=>vs.length -(intOf ix).toNat)
    case atStart=>
     obtain⟨hc,hok,hall,hfit⟩:=HC.out;exact⟨0,c,n',i',A3,L1,S2.XG lab S1.Z6.length,none,rfl,by simp,hall,hok,hfit,ZW P1.out.1 P3.out.1,P1.out.2,P3.out.2,h4,F4,by simpa using hc.mono (Hv.bT F4),rfl,HG.out.2.2.1⟩
    case round=>
     obtain⟨k,rest,n1,i1,A5,L5,S5,df,rfl,hlen',XC,hok',VG,G3,hL5,Rx,h5,f5,YD,hdf,X5⟩:=hrel;have hlen:=HG.out.2.2.2;cases rest with
     |st hd' b' e' c' tl'=>exact absurd YD.1 (by simp)
     |nil=>
      have hk2: ¬ k < vs.length:=by rw[hlen];simp[T.len]at hlen';omega
      have HQ:=X7 G3 hL5 Rx;clear hlen hlen' G3 hL5 Rx hk;cases df with
      |none=>
       simp only[qr]at hdf;subst hdf;have X5:S5.at S1.Z6.length=S':=by simpa [T.YO,UE]using X5
       subst X5;obtain⟨ib,hZ,hI,gZ,hb7,_,_⟩:=h5.blk;have y7:=hb7.cell 2 rfl;have z7:=hb7.free 2;obtain⟨h7,f7⟩:=h5.setCur HQ.out.2.2;go_wp2_with fail
       go_end0
       exact⟨rfl,X8.of HQ.out.1 HQ.out.2.1 h7 (f5.trans f7)⟩
      |some run=>
       obtain⟨ca,p0,ev,c0,bv,P,rfl,hca,hP,hp,hLC⟩:=hdf;simp only[T.YO,UE,ZX,Z8]at X5;obtain⟨S6,g6,S7,g7,rfl⟩:=X5;have HG2:=Zl g6 g7;clear g6 g7;have nw:=Z5 hLC;clear hLC;have nD:=hca.2.2.cell 3 rfl;obtain⟨dE,dD,dC,dB,Lm,DU,GZ⟩:=h5.blk;obtain⟨dA,rfl⟩:=GZ.ptr;clear DU GZ;have Z8F:=Lm.cell 4 rfl;have Z8E:=Lm.free 4;have Z8D:b < wr.heap.size:=by simpa [World.setCell]using Lm.lt
       have wU:=Lm.alloc (.cells [.pointer dA,.pointer (some ⟨dn,0,none⟩),.pointer none,.pointer none].toArray 223);have dw:=wU.cell 4 rfl;have dv:=wU.free 4;obtain⟨h21,f21⟩:=h5.push (N:=wr.heap.size) (by simp[World.setCell]) Lm (t:=⟨(some _),none,none⟩) (Zc.of HQ.out.2.2) Zc.nil Zc.nil;have QO:=Zt f21 hca;have DT:=QO.2.2.cell 3 rfl;go_wp2_with fail
       refine(nw.out _ _ _ _ _ _ _ _ _ h21 (hP _ _ (Hv.bT f21) hp) HG2.out.1).mono ?_;rintro e w22 ⟨rfl,A22,L22,DS,np,h22,f22⟩;have FE:=Zl DS np;clear DS np;have PY:=Zt f22 QO;have DR:=PY.2.2.cell 3 rfl;obtain⟨du,dt,dr,Z69,Z68,Z67,Z66,Z65,Ll,dq,h23,f23⟩:=h22.pop;have nk:=Ll.cell 4 rfl;have nj:=Ll.free 4;have Z8C:=dq.cell 0 rfl;have PX:=Zt f23 PY;have DQ:=PX.2.2.cell 3 rfl;go_wp2_with fail
       refine(YT h23 HG2.out.2 (Zx FE.out.1 HQ.out.2.2)).mono ?_;rintro e w24 ⟨rfl,zU,f24⟩;have PW:=Zt f24 PX;have DP:=PW.2.2.cell 3 rfl;obtain⟨nh,m9,m8,dp,Oz,DO,GY⟩:=zU.blk;have Z8B:=Oz.cell 2 rfl;have Z8A:=Oz.free 2;clear DO GY;obtain⟨wT,f25⟩:=zU.setCur (Zx FE.out.1 HQ.out.2.2);have Oy:=Zt f25 PW;have DN:=Oy.2.2.cell 3 rfl;go_wp2_with fail
       go_end0
       exact⟨rfl,X8.of (ZW HQ.out.1 FE.out.1) (ZW HQ.out.2.1 FE.out.2) wT (f5.trans (f21.trans (f22.trans (f23.trans (f24.trans f25)))))⟩
     |cl x bd tl=>
      have hk2:k < vs.length:=by rw[hlen];simp[T.len]at hlen';omega
      obtain⟨v,vs',hdrop,hcl,htl⟩:=YD;obtain⟨hvk,XA⟩:=drop_cons hdrop;obtain⟨ca,cv,bv,bvs,rfl,hca,hcv,Qn,UW⟩:=G2 hcl
      replace UW:bd.Ast (Hv wr 0) 0 n1 (i1+1) bvs:=by simpa using UW
      obtain⟨ga,zW,hlv,hcell0⟩:=(harr.mono (Hv.bT f5)).cell hvk;obtain rfl:la=some ⟨ga,0,none⟩:=by simp at hlv;exact hlv.1
      clear hlv hk;have d1:=hca.2.2.cell 1 rfl;obtain⟨p0,p00,p1,p2⟩:=hok';obtain⟨q1,q2⟩:=XC;have Si:tl.Ast (Hv wr 0) 3 (n1+bd.lv false) (i1+1+bd.it) (vs.drop (k+1)):=by rw[XA];simpa using htl
      have hfb:Fit M n1 (bd.stops false):=by
       have:=VG;simp only[T.stops,Zw,if_false,List.replicate_zero,List.nil_append]at this;exact this.left
      have hft:Fit M (n1+bd.lv false) (tl.stops false):=by
       have:=VG;simp only[T.stops,Zw,if_false,List.replicate_zero,List.nil_append]at this;exact this.right (T.Xx p1)
      obtain⟨hLb,_⟩:=q1 p1 n1 (i1+1) hfb;have hlb:=hLb bvs bv;simp only[T.YO]at X5;have HQ:=F6 G3 hL5 Rx hlen' X5 hvk hdrop XA;clear hlen hlen' G3 hL5 Rx X5 hvk hdrop XA VG hcl htl;have wW:=Z5 hlb;clear hlb hLb;rcases hcv with⟨hx,rfl⟩ |⟨hx,hcv⟩
      .have hR:DV M w B b b0 A L tg c vs S' S1.Z6.length dn (.pointer (some ⟨ca,3,none⟩)) (.int .i64 ((k:Int)+1)) wr:=by
        have hb:=HQ.out.2.2.2.2.1;rw[if_pos hx]at hb;exact⟨k+1,tl,n1+bd.lv false,i1+1+bd.it,A5,L5,S5,_,by simp,by have:=HQ.out.2.2.2.1;simp[T.len]at this;omega,q2,p2,hft,HQ.out.1,HQ.out.2.1,HQ.out.2.2.1,h5,f5,Si,(show qr M 236 (Hv wr 0) _ (some (bd.YO.list n1 (i1+1)))from⟨ca,_,_,_,bv,_,rfl,hca,WK,⟨Qn,UW⟩,wW.out⟩),hb⟩
       have HR:=Z5 hR;clear hR hx;go_wp2_with fail
       exact⟨HR.out,by simp[intOf];omega⟩
      .have hb:=HQ.out.2.2.2.2.1;rw[if_neg (by omega)]at hb;simp only[Z8]at hb;obtain⟨S6,g6,S7,g7,S8,g8,S9,g9,RM,g10,g11⟩:=hb;have HG2:=Qd g6 g7 g8 g9 g10 g11;clear g6 g7 g8 g9 g10 g11;have nr:=hcv;obtain⟨dm,cvx,rfl,_⟩:=hcv;go_wp2_with fail
       refine(YH h5 HG2.out.1 (Yr (ty:=237) (t0:=236) (by decide) hca)).mono ?_;rintro e dk ⟨a21,rfl,A21,mZ,mY,h21,f21⟩;have qo:=Zl mZ mY;clear mZ mY;have QO:=Zt f21 hca;have Z8z:=QO.2.2.cell 1 rfl;have DT:=QO.2.2.cell 3 rfl;go_wp2_with fail
       refine(YH h21 HG2.out.2.1 (Yr (ty:=237) (t0:=236) (by decide) QO)).mono ?_;rintro e w22 ⟨a22,rfl,A22,DS,mX,h22,f22⟩;have FE:=Zl DS mX;clear DS mX;have PY:=Zt f22 QO;have Z8y:=PY.2.2.cell 1 rfl;have DR:=PY.2.2.cell 3 rfl;go_wp2_with fail
       refine(Nb h22 HG2.out.2.2.1 (Zx FE.out.1 qo.out.2) FE.out.2).mono ?_;rintro e dj ⟨rfl,h23,f23⟩;have PX:=Zt f23 PY;have Z8x:=PX.2.2.cell 1 rfl;have DQ:=PX.2.2.cell 3 rfl;obtain⟨di,dh,dg,Z64,DM,mW,mV⟩:=h23.blk;have Z8w:=DM.cell 2 rfl;have Z8v:=DM.free 2;clear mW mV;obtain⟨zU,f24⟩:=h23.setCur (Zx FE.out.1 qo.out.2);have PW:=Zt f24 PX;have Z8u:=PW.2.2.cell 1 rfl;have DP:=PW.2.2.cell 3 rfl;obtain⟨nh,m9,m8,dp,Oz,DO,GY⟩:=zU.blk;obtain⟨de,rfl⟩:=GY.ptr;clear DO GY;have mU:=Oz.cell 4 rfl;have mT:=Oz.free 4;have Z8t:b < dj.heap.size:=by simpa [World.setCell]using Oz.lt
       have wS:=Oz.alloc (.cells [.pointer de,.pointer (some ⟨dn,0,none⟩),.pointer none,.pointer none].toArray 223);have dc:=wS.cell 4 rfl;have db:=wS.free 4;obtain⟨wT,f25⟩:=zU.push (N:=dj.heap.size) (by simp[World.setCell]) Oz (t:=⟨(some _),none,none⟩) (Zc.of (Zx (ZW qo.out.1 FE.out.1) HQ.out.2.2.1)) Zc.nil Zc.nil;have Oy:=Zt f25 PW;have Z8s:=Oy.2.2.cell 1 rfl;have DN:=Oy.2.2.cell 3 rfl;go_wp2_with fail
       refine(wW.out _ _ _ _ _ _ _ _ _ wT (WK _ _ (Hv.bT (f21.trans (f22.trans (f23.trans (f24.trans f25))))) ⟨Qn,UW⟩) HG2.out.2.2.2.1).mono ?_;rintro e w26 ⟨rfl,A26,L26,mS,mR,qn,f26⟩;have mQ:=Zl mS mR;clear mS mR;have Lk:=Zt f26 Oy;have Z8r:=Lk.2.2.cell 1 rfl;have wR:=Lk.2.2.cell 3 rfl;obtain⟨cZ,cY,cX,Z63,Z62,Z61,Z60,Z6Z,DL,cW,h27,f27⟩:=qn.pop;have Z8q:=DL.cell 4 rfl;have Z8p:=DL.free 4;have Z8o:=cW.cell 0 rfl;have DK:=Zt f27 Lk;have Z8n:=DK.2.2.cell 1 rfl;have mP:=DK.2.2.cell 3 rfl;go_wp2_with fail
       refine(YT h27 HG2.out.2.2.2.2.1 (Zx (ZW (ZW qo.out.1 FE.out.1) mQ.out.1) HQ.out.2.2.1)).mono ?_;rintro e w28 ⟨rfl,h28,f28⟩;have uk:=Zt f28 DK;have Z8m:=uk.2.2.cell 1 rfl;have Z8l:=uk.2.2.cell 3 rfl;obtain⟨Z6Y,Z6X,Z6W,Z6V,mO,mN,mM⟩:=h28.blk;have Z8k:=mO.cell 2 rfl;have Z8j:=mO.free 2;clear mN mM;obtain⟨h29,f29⟩:=h28.setCur (Zx mQ.out.1 FE.out.2);have mL:=Zt f29 uk;have Z8i:=mL.2.2.cell 1 rfl;have Z8h:=mL.2.2.cell 3 rfl;have FF:Fr bT B wr (w28.setCell ⟨b,2,none⟩ (.pointer (some ⟨a22,0,none⟩))):=(f21.trans (f22.trans (f23.trans (f24.trans (f25.trans (f26.trans (f27.trans (f28.trans f29))))))))
       have hR:DV M w B b b0 A L tg c vs S' S1.Z6.length dn _ (.int .i64 ((k:Int)+1)) (w28.setCell ⟨b,2,none⟩ (.pointer (some ⟨a22,0,none⟩))):=
        ⟨k+1,tl,n1+bd.lv false,i1+1+bd.it,A26,L26,_,df,by simp,by have:=HQ.out.2.2.2.1;simp[T.len]at this;omega,q2,p2,hft,ZW HQ.out.1 (ZW (ZW qo.out.1 FE.out.1) mQ.out.1),ZW HQ.out.2.1 mQ.out.2,(Zx (ZW (ZW qo.out.1 FE.out.1) mQ.out.1) HQ.out.2.2.1),h29,f5.trans FF,Si.mono (Hv.bT FF),hdf.mono (Hv.bT FF),HG2.out.2.2.2.2.2⟩
       have HR:=Z5 hR;clear hR;go_wp2_with fail
       exact⟨HR.out,by simp[intOf];omega⟩
end
end Go.Proofs.YteedbaejpdjilaaGreat
