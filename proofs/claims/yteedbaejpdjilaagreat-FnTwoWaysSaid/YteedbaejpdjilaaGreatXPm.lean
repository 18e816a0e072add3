/- Part of the proof: BldV BldW. -/
import Derived.Test.YteedbaejpdjilaaGreatXPk
import Derived.Deep.DeepCutAuto
set_option linter.all false
set_option maxRecDepth 100000
set_option maxHeartbeats 40000000
namespace Go.Proofs.YteedbaejpdjilaaGreat
open Go.RowKit
section
attribute [local go_sem] Vu
variable {w:World} {B b b0:Nat} {A L:List Nat} {S S':BS} {tg:List Tg} {M:Mk}
def Qg (M:Mk) (P:Hp->Prop) (lv:Value) (run:Lr):Prop:= ∀ (w:World) (B b b0:Nat) (A L:List Nat) (S S':BS) (tg:List Tg),BX w B b b0 A L S tg M->P (Hv w 0)->run tg S=some S'->
 Calls Tryz.prog 101 #[b,lv] w fun e w'=>e=.returned (.tuple #[])∧YX w w' B b b0 A L S' tg M
def Fit (M:Mk) (n:Nat) (l:List Bool):Prop:= ∀ (j:Nat) s,l[j]? =some s->M.stops[n+j]? =some s
theorem Fit.left {n:Nat} {l l':List Bool} (h:Fit M n (l++l')):Fit M n l:=fun j s hj=>h j s (by rw[List.getElem?_append_left (List.getElem?_eq_some_iff.1 hj).1];exact hj)
theorem Fit.right {n k:Nat} {l l':List Bool} (h:Fit M n (l++l')) (hk:l.length=k):Fit M (n+k) l':=fun j s hj=>by
 have:=h (k+j) s (by rw[List.getElem?_append_right (by omega),show k+j -l.length=j by omega];exact hj);rwa [<-Nat.add_assoc]at this
def BL (M:Mk) (t:T):Prop:=t.ok-> ∀ (n i:Nat),Fit M n (t.stops false)->
 (∀ (vs:List Value) (lv:Value),Qg M (fun H=>PN H lv vs 96∧t.Ast H 0 n i vs) lv (t.Zu.list n i))∧
 (∀ v:Value,SE M (fun H=>t.Ast H 0 n i [v]) v (t.Zu.list n i))
theorem XE {t:T} {lv:Value} {vs:List Value} {m n i:Nat} :Wu (fun H=>PN H lv vs 96∧t.Ast H m n i vs):=fun _ _ hH h=>⟨h.1.mono hH,h.2.mono hH⟩
theorem Hy {t:T} {vs:List Value} {m n i:Nat} :Wu (fun H=>t.Ast H m n i vs):=fun _ _ hH h=>h.mono hH
theorem CB (a:Addr) (n c:Nat) (w:World):(binOp .eql 140 (.slice (some a) n c) (.slice none 0 0)).run Tryz.prog w=.ok (.bool false) w:=by kernel_rfl
theorem IC (w:World):(binOp .eql 140 (.slice none 0 0) (.slice none 0 0)).run Tryz.prog w=.ok (.bool true) w:=by kernel_rfl
theorem RF {H:Hp} : ∀ {t:T} {m n i:Nat} {vs:List Value},t.Ast H m n i vs->vs.length=t.len:=by
 intro t
 induction t with
 |nil=>intro m n i vs h;simp[show vs= []from h,T.len]
 |st h b e c tl _ _ _ ih=>intro m n i vs ⟨_,v,vs',hv,_,h2⟩;subst hv;simp[T.len,ih h2]
 |cl x b tl _ ih=>intro m n i vs ⟨v,vs',hv,_,h2⟩;subst hv;simp[T.len,ih h2]
theorem PN.cell {vs:List Value} {t:Nat} {lv:Value} (h:PN (Hv w 0) lv vs t) {k:Nat} {v:Value} (hv:vs[k]? =some v): ∃ g cap,lv=.slice (some ⟨g,0,none⟩) vs.length cap∧w.cell? ⟨g,k,none⟩=some v:=by
 rcases h with⟨rfl,rfl⟩ |⟨g,cap,rest,h1,h2,h3,rfl,h4⟩
 ·simp at hv
 ·refine⟨g,cap,rfl,h4.2.2.cell k ?_⟩;rw[List.getElem?_append_left (List.getElem?_eq_some_iff.1 hv).1];exact hv
theorem drop_cons {vs vs':List Value} {k:Nat} {v:Value} (h:vs.drop k=v::vs'):vs[k]? =some v∧vs.drop (k+1)=vs':=by
 have h1:(vs.drop k)[0]? =some v:=by rw[h];rfl
 have h2:(vs.drop k).drop 1=vs':=by rw[h];rfl
 rw[List.drop_drop]at h2;exact⟨by simpa using h1,h2⟩
def pW (M:Mk) (H:Hp) (v:Value):Option Lr->Prop
 |none=>v=.pointer none
 |some run=> ∃ ca p0 ev c0 bv P,v=.pointer (some ⟨ca,0,none⟩)∧H ca [p0,ev,c0,bv] 229∧Wu P∧P H∧Qg M P bv run
theorem pW.mono {H H':Hp} (hH: ∀ b cs t,H b cs t->H' b cs t) {v:Value} {o:Option Lr} (h:pW M H v o):pW M H' v o:=by
 cases o with
 |none=>exact h
 |some run=>
  obtain⟨ca,p0,ev,c0,bv,P,h1,h2,h3,h4,h5⟩:=h;exact⟨ca,p0,ev,c0,bv,P,h1,hH _ _ _ h2,h3,h3 _ _ hH h4,h5⟩
def D7 (M:Mk) (w:World) (B b b0:Nat) (A L:List Nat) (tg:List Tg) (c:T) (vs:List Value) (S':BS) (done dn:Nat) (i7 ix:Value) (wr:World):Prop:=
 ∃ (k:Nat) (rest:T) (n i:Nat) (A1 L1:List Nat) (S1:BS) (df:Option Lr),ix=.int .i64 k∧k+rest.len=c.len∧rest.All (BL M)∧rest.ok∧Fit M n (rest.stops false)∧A <+:A1∧L <+:L1∧A1[done]? =some dn∧
  BX wr B b b0 A1 L1 S1 tg M∧Fr bT B w wr∧rest.Ast (Hv wr 0) 2 n i (vs.drop k)∧pW M (Hv wr 0) i7 df∧rest.Zu.ty n i tg done df S1=some S'
def vC (M:Mk) (w:World) (B b b0:Nat) (A L:List Nat) (tg:List Tg) (x body:Nat) (p:Int) (S3:BS) (i12 ix:Value) (wr:World):Prop:=
 ∃ (j:Nat) (A1:List Nat) (S2:BS),ix=.int .i64 j∧j<=x∧A <+:A1∧BX wr B b b0 A1 L S2 tg M∧Fr bT B w wr∧(0 < j-> ∃ q a,S2.cur=some q∧A1[q]? =some a∧i12=.pointer (some ⟨a,0,none⟩))∧X0 body p (x -j) S2=some S3
theorem nC (t:Nat) (q:Value) (w:World):(binOp .neq 96 (.iface t q) .nilIface).run Tryz.prog w=.ok (.bool true) w:=by kernel_rfl
theorem uI (w:World):(binOp .neq 96 .nilIface .nilIface).run Tryz.prog w=.ok (.bool false) w:=by kernel_rfl
theorem Bj (x:Nat) (t:Nat) (q:Value) (w:World):(eqGuard .neq 96 (.tmp x) (.const .nilIface) (.iface t q) .nilIface).run Tryz.prog w=.ok () w:=by kernel_rfl
theorem Ep (x:Nat) (w:World):(eqGuard .neq 96 (.tmp x) (.const .nilIface) .nilIface .nilIface).run Tryz.prog w=.ok () w:=by kernel_rfl
theorem Qy {H:Hp} {is:Bool} {v:Value} {p:Int} (h:Zk H is v p):(∀ w,(binOp .neq 96 v .nilIface).run Tryz.prog w=.ok (.bool is) w)∧v.cells= #[v]∧ ∀ x w,(eqGuard .neq 96 (.tmp x) (.const .nilIface) v .nilIface).run Tryz.prog w=.ok () w:=by
 rcases h with⟨rfl,rfl⟩ |⟨rfl,a,l,x,r,rfl,_⟩
 ·exact⟨uI,rfl,fun x=>Ep x⟩
 ·exact⟨nC _ _,rfl,fun x=>Bj x _ _⟩
theorem Lj.ptr {L:List Nat} {v:Value} {lab:Option Nat} (h:Lj L v lab): ∃ p,v=.pointer p:=by
 rcases h with⟨_,rfl⟩ |⟨j,l,_,rfl,_⟩<;>exact⟨_,rfl⟩
theorem SK (h:BX w B b b0 A L S tg M) {ca done dn:Nat} {p0 ev c0 bv:Value} (hca:Hv w 0 ca [p0,ev,c0,bv] 229) (hdn:A[done]? =some dn) {P:Hp->Prop} (hP:Wu P) (hp:P (Hv w 0)) {run:Lr} (hB:Qg M P bv run)
  {S1:BS} (g1:run (⟨some done,none,none⟩::tg) S=some S1) (g2:S1.Zm done=some S'):
  Calls Tryz.prog 120 #[b,ca,dn] w fun e w'=>e=.returned (.tuple #[])∧YX w w' B b b0 A L S' tg M:=by
 have HG:=Za g1 g2 hdn;clear g1 g2 hdn;have HB:=Z9 hB;clear hB;go_enter Tryz.func120,Tryz.ntmps120;obtain⟨bv1,cv1,mv1,tv1,hb1,hbc1,hbt1⟩:=h.blk;obtain⟨tp1,rfl⟩:=hbt1.ptr;clear hbc1 hbt1;have y1_4:=hb1.cell 4 rfl;have z1_4:=hb1.free 4;have hlt1:b < w.heap.size:=by simpa [World.setCell]using hb1.lt
 have hbA1:=hb1.alloc (.cells [.pointer tp1,.pointer (some ⟨dn,0,none⟩),.pointer none,.pointer none].toArray 223);have yA1_4:=hbA1.cell 4 rfl;have zA1_4:=hbA1.free 4;obtain⟨h1,f1⟩:=h.push (N:=w.heap.size) (by simp[World.setCell]) hb1 (t:=⟨(some _),none,none⟩) (ZI.of HG.out.2.2) ZI.nil ZI.nil;have ha1:=ZO f1 hca;have x1_3:=ha1.2.2.cell 3 rfl;go_wp2_with fail
 refine(HB.out _ _ _ _ _ _ _ _ _ h1 (hP _ _ (Hv.bT f1) hp) HG.out.1).mono ?_;rintro e w2 ⟨rfl,A2,L2,hA2,hL2,h2,f2⟩;have P2:=ZL hA2 hL2;clear hA2 hL2;have ha2:=ZO f2 ha1;have x2_3:=ha2.2.2.cell 3 rfl;obtain⟨bv3,cv3,mv3,ta3,tl3,tb3,tc3,tf3,hb3,ht3,h3,f3⟩:=h2.pop;have y3_4:=hb3.cell 4 rfl;have z3_4:=hb3.free 4;have y3_0:=ht3.cell 0 rfl;have ha3:=ZO f3 ha2;have x3_3:=ha3.2.2.cell 3 rfl;go_wp2_with fail
 refine(Zx h3 HG.out.2.1 (ZQ P2.out.1 HG.out.2.2)).mono ?_;rintro e w4 ⟨rfl,h4,f4⟩;have ha4:=ZO f4 ha3;have x4_3:=ha4.2.2.cell 3 rfl;go_wp2_with fail
 go_end0
 exact⟨rfl,(YX.of P2.out.1 P2.out.2 h4 (f1.trans (f2.trans (f3.trans f4))))⟩
theorem Gq (h:BX w B b b0 A L S tg M) {lvv:Value} {lab:Option Nat} (hlab:Lj L lvv lab) {hd:Hd} {n i a bb n' i':Nat} {iv gv:Value} {vs:List Value} {c:T} (ha:Hv w 0 a [.int .i64 (ip i),iv,gv,bb] 231)
  (hiv:Zk (Hv w 0) hd.init iv (lp n)) (hgv:Yz (Hv w 0) gv) (hbl:Zz (Hv w 0) bb 0 0 vs) (hc:c.Ast (Hv w 0) 2 n' i' vs) (hok:c.ok) (hall:c.All (BL M)) (hfit:Fit M n' (c.stops false))
  (hs:TI hd n i lab (fun done=>c.Zu.ty n' i' tg done none) S=some S'):
  Calls Tryz.prog 104 #[b,a,lvv] w fun e w'=>e=.returned (.tuple #[])∧YX w w' B b b0 A L S' tg M:=by
 unfold TI at hs;generalize hd.init=ini at hs hiv;simp only[Option.bind_eq_some_iff]at hs;obtain⟨S0,g0,S1,g1,S2,g2,g3⟩:=hs;obtain⟨lv,hbb,harr⟩:=hbl;obtain⟨tg0,qg0,rfl⟩:=hgv.iface;obtain⟨pl,rfl⟩:=hlab.ptr;have x1:=ha.2.2.cell 1 rfl;have x2:=ha.2.2.cell 2 rfl;have hlen:=RF hc;obtain⟨la,lcap,rfl⟩: ∃ la lcap,lv=.slice la vs.length lcap:=by
  rcases harr with⟨rfl,rfl⟩ |⟨g,cap,rest,h1,h2,h3,rfl,h4⟩
  ·exact⟨_,_,rfl⟩
  ·exact⟨_,_,rfl⟩
 have hvl:vs.length<=2000000:=by
  rcases harr with⟨rfl,_⟩ |⟨g,cap,rest,h1,h2,h3,_,h4⟩
  ·simp
  ·exact h3
 have HG:=XG g0 g1 g2 g3 hlen;clear g0 g1 g2 g3 hlen;have HC:=Yt hc hok hall hfit;clear hc hok hall hfit;go_enter Tryz.func104,Tryz.ntmps104;obtain⟨hne,hcel,hegd⟩:=Qy hiv;unfold Value.cells at hcel;go_upto_if 19 with(fail)
 go_cut [] (fun wx=>YX w wx B b b0 A L S0 tg M)
 case first=>
  have g0:=HG.out.1;unfold BS.Yy at g0;rcases hiv with⟨rfl,rfl⟩ |⟨rfl,hiv⟩
  ·obtain rfl:S=S0:=by simpa using g0
   clear g0;go_wp2_with fail
   go_meet;exact YX.of (ZT _) (ZT _) h (Fr.refl _ _ _)
  ·have g0:S.Zc ⟨lp n,false⟩=some S0:=by simpa using g0
   have hiv':=hiv;obtain⟨ti,qi,rfl⟩:=hiv.iface;have G0:=Z9 g0;clear g0;go_wp2_with fail
   refine(Xu h hiv' G0.out).mono ?_;rintro e w1 ⟨rfl,h1⟩;go_wp2_with fail
   go_meet;exact h1
 case rest=>
  obtain⟨A1,L1,hA1,hL1,h1,f1⟩:=hcut;have P1:=ZL hA1 hL1;clear hA1 hL1 x1 x2;have ha1:=ZO f1 ha;have x2:=ha1.2.2.cell 2 rfl;go_wp2_with fail
  refine(YI h1 HG.out.2.1 (.inr ⟨rfl,.inr (.inr (.inr (.inr (.inr (.inr (.inr (.inr (.inr ⟨hgv.mono (Hv.bT f1),rfl⟩))))))))⟩)).mono ?_;rintro e w2 ⟨rfl,h2,f2⟩;have ha2:=ZO f2 ha1;go_wp2_with fail
  refine(Zo h2 HG.out.2.2.1 (Zh (ty:=203) (t0:=231) (by decide) ha2)).mono ?_;rintro e w3 ⟨dn,rfl,A3,hA3,hdn,h3,f3⟩;have P3:=ZL hA3 hdn;clear hA3 hdn x2;go_upto_if 42 with(fail)
  go_cut [] (fun wx=>BX wx B b b0 A3 L1 (S2.YD lab S1.bks.length) tg M∧Fr bT B w3 wx)
  case first=>
   rcases hlab with⟨rfl,hpl⟩ |⟨j,l,rfl,hpl,hl⟩;all_goals cases hpl
   ·go_wp2_with fail
    go_meet;exact⟨h3,Fr.refl _ _ _⟩
   ·have hl1:=ZQ P1.out.2 hl;obtain⟨yy,gv4,bv4,cv4,hyy,hbl4⟩:=h3.Qr hl1;have y4:=hbl4.cell 1 rfl;have z4:=hbl4.free 1;have hK:=h3.Og hl1 P3.out.2;clear hyy hl1 hl;go_wp2_with fail
    go_meet;exact hK
  case rest=>
   obtain⟨h4,f4⟩:=hcut;have F4:Fr bT B w wc:=f1.trans (f2.trans (f3.trans f4));have ha4:=ZO F4 ha;have x3:=ha4.2.2.cell 3 rfl;have hbb4:=ZO F4 hbb;have u1:=hbb4.2.2.cell 1 rfl;obtain⟨wo,hwo⟩: ∃ wo:World,wo=wc:=⟨_,rfl⟩
   subst hwo;go_wp2_with fail
   go_loopw [7,55] (fun i7 ix wr=>D7 M w B b b0 A L tg c vs S' S1.bks.length dn i7 ix wr) (fun _ ix _=>vs.length -(intOf ix).toNat)
   case atStart=>
    obtain⟨hc,hok,hall,hfit⟩:=HC.out;exact⟨0,c,n',i',A3,L1,S2.YD lab S1.bks.length,none,rfl,by simp,hall,hok,hfit,Z7 P1.out.1 P3.out.1,P1.out.2,P3.out.2,h4,F4,by simpa using hc.mono (Hv.bT F4),rfl,HG.out.2.2.2.1⟩
   case round=>
    obtain⟨k,rest,n1,i1,A5,L5,S5,df,rfl,hlen',hall',hok',hfit',hA5,hL5,hdn5,h5,f5,hast,hdf,hbld⟩:=hrel;have hlen:=HG.out.2.2.2.2;cases rest with
    |st hd' b' e' c' tl'=>exact absurd hast.1 (by simp)
    |nil=>
     have hk: ¬ k < vs.length:=by rw[hlen];simp[T.len]at hlen';omega
     have HQ:=Za hA5 hL5 hdn5;clear hlen hlen' hA5 hL5 hdn5;cases df with
     |none=>
      simp only[pW]at hdf;subst hdf;simp only[T.Zu,Ul,Option.map_eq_some_iff]at hbld;obtain⟨S6,g6,rfl⟩:=hbld;have G6:=Z9 g6;clear g6;go_wp2_with fail
      refine(Zx h5 G6.out HQ.out.2.2).mono ?_;rintro e w6 ⟨rfl,h6,f6⟩;obtain⟨bv7,cv7,mv7,tv7,hb7,_,_⟩:=h6.blk;have y7:=hb7.cell 2 rfl;have z7:=hb7.free 2;obtain⟨h7,f7⟩:=h6.setCur HQ.out.2.2;go_wp2_with fail
      go_end0
      exact⟨rfl,YX.of HQ.out.1 HQ.out.2.1 h7 (f5.trans (f6.trans f7))⟩
     |some run=>
      obtain⟨ca,p0,ev,c0,bv,P,rfl,hca,hP,hp,hLC⟩:=hdf;simp only[T.Zu,Ul,Option.map_eq_some_iff,Option.bind_eq_some_iff]at hbld;obtain⟨S6,g6,S7,g7,rfl⟩:=hbld;have G6:=ZL g6 g7;clear g6 g7;have HLC:=Z9 hLC;clear hLC;go_wp2_with fail
      refine(SK h5 hca HQ.out.2.2 hP hp HLC.out G6.out.1 G6.out.2).mono ?_;rintro e w6 ⟨rfl,A6,L6,hA6,hL6,h6,f6⟩;have P6:=ZL hA6 hL6;clear hA6 hL6;obtain⟨bv7,cv7,mv7,tv7,hb7,_,_⟩:=h6.blk;have y7:=hb7.cell 2 rfl;have z7:=hb7.free 2;obtain⟨h7,f7⟩:=h6.setCur (ZQ P6.out.1 HQ.out.2.2);go_wp2_with fail
      go_end0
      exact⟨rfl,YX.of (Z7 HQ.out.1 P6.out.1) (Z7 HQ.out.2.1 P6.out.2) h7 (f5.trans (f6.trans f7))⟩
    |cl x bd tl=>
     have hk:k < vs.length:=by rw[hlen];simp[T.len]at hlen';omega
     obtain⟨v,vs',hdrop,hcl,htl⟩:=hast;obtain⟨hvk,hdrop'⟩:=drop_cons hdrop;obtain⟨ca,ev,bv,bvs,rfl,hca,hex,hbarr,hbast⟩: ∃ ca ev bv bvs,v=.iface 227 (.pointer (some ⟨ca,0,none⟩))∧Hv wr 0 ca [.int .i64 (ip i1),ev,.int .i64 0,bv] 229∧Xj (Hv wr 0) ev x.toNat (fun _=>0)∧PN (Hv wr 0) bv bvs 96∧bd.Ast (Hv wr 0) 0 n1 (i1+1) bvs:=by
      rcases hcl with⟨hm,_⟩ |⟨_,a1,e1,b1,v1,h1,h2,h3,h4,h5⟩ |⟨hm,_⟩
      ·omega
      ·exact⟨a1,e1,b1,v1,h1,h2,h3,h4,by simpa using h5⟩
      ·omega
     obtain⟨ga,gcap,hlv,hcell0⟩:=(harr.mono (Hv.bT f5)).cell hvk;obtain rfl:la=some ⟨ga,0,none⟩:=by simp at hlv;exact hlv.1
     clear hlv;have d1:=hca.2.2.cell 1 rfl;obtain⟨p0,p00,p1,p2⟩:=hok';obtain⟨q1,q2⟩:=hall';have htl':tl.Ast (Hv wr 0) 2 (n1+bd.lv false) (i1+1+bd.it) (vs.drop (k+1)):=by rw[hdrop'];simpa using htl
     have hfb:Fit M n1 (bd.stops false):=by
      have:=hfit';simp only[T.stops,Bool.false_eq_true,if_false,List.replicate_zero,List.nil_append]at this;exact this.left
     have hft:Fit M (n1+bd.lv false) (tl.stops false):=by
      have:=hfit';simp only[T.stops,Bool.false_eq_true,if_false,List.replicate_zero,List.nil_append]at this;exact this.right (T.Yp p1)
     obtain⟨hLb,_⟩:=q1 p1 n1 (i1+1) hfb;have hlb:=hLb bvs bv;simp only[T.Zu]at hbld;have HQ:=Gx hA5 hL5 hdn5 hlen' hbld hvk hdrop hdrop';clear hlen hlen' hA5 hL5 hdn5 hbld hvk hdrop hdrop' hfit' hcl htl;have HLB:=Z9 hlb;clear hlb hLb;by_cases hx:x<=0
     ·obtain rfl:ev=.slice none 0 0:=by
       obtain⟨xs,hx1,hx2,_⟩:=hex;rcases hx1 with⟨_,hv⟩ |⟨g,cap,r,h1,_⟩
       ·exact hv
       ·omega
      have hR:D7 M w B b b0 A L tg c vs S' S1.bks.length dn (.pointer (some ⟨ca,0,none⟩)) (.int .i64 ((k:Int)+1)) wr:=by
       have hb:=HQ.out.2.2.2.2.1;rw[if_pos hx]at hb;exact⟨k+1,tl,n1+bd.lv false,i1+1+bd.it,A5,L5,S5,_,by simp,by have:=HQ.out.2.2.2.1;simp[T.len]at this;omega,q2,p2,hft,HQ.out.1,HQ.out.2.1,HQ.out.2.2.1,h5,f5,htl',(show pW M (Hv wr 0) _ (some (bd.Zu.list n1 (i1+1)))from⟨ca,_,_,_,bv,_,rfl,hca,XE,⟨hbarr,hbast⟩,HLB.out⟩),hb⟩
      have HR:=Z9 hR;have he1:=IC;clear hR hx;go_wp2_with fail
      exact⟨HR.out,by simp[intOf];omega⟩
     ·obtain⟨xs,hxs,hxl,hxe⟩:=hex;obtain⟨ge,ecap,er,rfl,hge⟩: ∃ ge ecap er,ev=.slice (some ⟨ge,0,none⟩) x.toNat ecap∧Hv wr 0 ge (xs++er) 168:=by
       rcases hxs with⟨rfl,_⟩ |⟨g,cap,r,_,_,_,hv,hg⟩
       ·simp at hxl;omega
       ·exact⟨g,cap,r,by rw[hv,hxl],hg⟩
      have hb:=HQ.out.2.2.2.2.1;rw[if_neg hx]at hb;simp only[Option.bind_eq_some_iff]at hb;obtain⟨S6,g6,S7,g7,S8,g8,S9,g9,g10⟩:=hb;have HB:=Sl g6 g7 g8 g9 g10 hxl;clear g6 g7 g8 g9 g10 hxl hxs hxe;have hx300:x.toNat<=300:=by omega
      have hx0:0 < x.toNat:=by omega
      obtain⟨wq,hwq⟩: ∃ wq:World,wq=wr:=⟨_,rfl⟩
      subst hwq;have he1:=CB ⟨ge,0,none⟩ x.toNat ecap;go_wp2_with fail
      refine(Zo h5 HB.out.1 (Zh (ty:=227) (t0:=229) (by decide) hca)).mono ?_;rintro e w6 ⟨ab,rfl,A6,hA6,hab,h6,f6⟩;have P6:=ZL hA6 hab;clear hA6 hab;have hca6:=ZO f6 hca;have hge6:=ZO f6 hge;have d61:=hca6.2.2.cell 1 rfl;go_wp2_with fail
      go_loopw [12,76] (fun i12 jx wi=>vC M w6 B b b0 A6 L5 tg x.toNat S5.bks.length (ip i1) S7 i12 jx wi) (fun _ jx _=>x.toNat -(intOf jx).toNat)
      case atStart=>exact⟨0,A6,S6,rfl,Nat.zero_le _,ZT _,h6,Fr.refl _ _ _,fun h=>absurd h (Nat.lt_irrefl 0),by simpa using HB.out.2.1⟩
      case round=>
       obtain⟨j,A7,S10,rfl,hj,hA7,h7,f7,hnx,htt⟩:=hrel;have hca7:=ZO f7 hca6;by_cases hjx:j < x.toNat
       ·have hj2:j < xs.length:=by have:=HB.out.2.2.2.2.2;omega
        have e1:wr.cell? ⟨ge,j,none⟩=some xs[j]:=(ZO f7 hge6).2.2.cell j (by rw[List.getElem?_append_left hj2];exact List.getElem?_eq_getElem hj2);rw[show x.toNat -j=(x.toNat -j -1)+1 by omega]at htt;simp only[X0,Option.bind_eq_some_iff]at htt;obtain⟨S11,g11,S12,g12,g13⟩:=htt;have HT:=Yt g11 g12 g13 hA7;clear g11 g12 g13 hA7 hnx;go_wp2_with fail
        refine(Zo h7 HT.out.1 (Zh (ty:=227) (t0:=229) (by decide) hca7)).mono ?_;rintro e w8 ⟨an,rfl,A8,hA8,han,h8,f8⟩;have P8:=ZL hA8 han;clear hA8 han;go_wp2_with fail
        refine(OO h8 HT.out.2.1 (ZQ (Z7 HT.out.2.2.2 P8.out.1) P6.out.2) P8.out.2).mono ?_;rintro e w9 ⟨rfl,h9,f9⟩;obtain⟨bv10,cv10,mv10,tv10,hb10,_,_⟩:=h9.blk;have y10:=hb10.cell 2 rfl;have z10:=hb10.free 2;obtain⟨h10,f10⟩:=h9.setCur P8.out.2
        have hR:vC M w6 B b b0 A6 L5 tg x.toNat S5.bks.length (ip i1) S7 (.pointer (some ⟨an,0,none⟩)) (.int .i64 ((j:Int)+1)) (w9.setCell ⟨b,2,none⟩ (.pointer (some ⟨an,0,none⟩))):=
         ⟨j+1,A8,_,by simp,by omega,Z7 HT.out.2.2.2 P8.out.1,h10,f7.trans (f8.trans (f9.trans f10)),fun _=>⟨S10.bks.length,an,rfl,P8.out.2,rfl⟩,by rw[show x.toNat -(j+1)=x.toNat -j -1 by omega];exact HT.out.2.2.1⟩
        have HR:=Z9 hR;clear hR;go_wp2_with fail
        exact⟨HR.out,by simp[intOf];omega⟩
       ·obtain rfl:j=x.toNat:=by omega
        have htt0:S10=S7:=by simpa [X0]using htt
        subst htt0;obtain⟨q,qa,hq1,hq2,rfl⟩:=hnx hx0;have hbarr7:=hbarr.mono (Hv.bT (f6.trans f7));have hbast7:=hbast.mono (Hv.bT (f6.trans f7));have HT:=Za hq1 hq2 hA7;clear hq1 hq2 hA7 hnx htt;obtain⟨bv8,cv8,mv8,tv8,hb8,_,_⟩:=h7.blk;have y8:=hb8.cell 2 rfl;have z8:=hb8.free 2;obtain⟨h8,f8⟩:=h7.setCur (ZQ HT.out.2.2 P6.out.2);go_wp2_with fail
        refine(SK h8 (ZO f8 hca7) (ZQ (Z7 P6.out.1 HT.out.2.2) HQ.out.2.2.1) XE ⟨hbarr7.mono (Hv.bT f8),hbast7.mono (Hv.bT f8)⟩ HLB.out HB.out.2.2.1 HB.out.2.2.2.1).mono ?_;rintro e w9 ⟨rfl,A9,L9,hA9,hL9,h9,f9⟩;have P9:=ZL hA9 hL9;clear hA9 hL9;obtain⟨bv10,cv10,mv10,tv10,hb10,_,_⟩:=h9.blk;have y10:=hb10.cell 2 rfl;have z10:=hb10.free 2;obtain⟨h10,f10⟩:=h9.setCur (ZQ P9.out.1 HT.out.2.1);have FF:Fr bT B wq (w9.setCell ⟨b,2,none⟩ (.pointer (some ⟨qa,0,none⟩))):=f6.trans (f7.trans (f8.trans (f9.trans f10)))
        have hR:D7 M w B b b0 A L tg c vs S' S1.bks.length dn _ (.int .i64 ((k:Int)+1)) (w9.setCell ⟨b,2,none⟩ (.pointer (some ⟨qa,0,none⟩))):=
         ⟨k+1,tl,n1+bd.lv false,i1+1+bd.it,A9,L9,S9.at q,df,by simp,by have:=HQ.out.2.2.2.1;simp[T.len]at this;omega,q2,p2,hft,
          Z7 HQ.out.1 (Z7 P6.out.1 (Z7 HT.out.2.2 P9.out.1)),Z7 HQ.out.2.1 P9.out.2,ZQ (Z7 P6.out.1 (Z7 HT.out.2.2 P9.out.1)) HQ.out.2.2.1,h10,f5.trans FF,htl'.mono (Hv.bT FF),hdf.mono (Hv.bT FF),
          by have:=HB.out.2.2.2.2.1;rw[HT.out.1]at this;exact this⟩
        have HR:=Z9 hR;clear hR;go_wp2_with fail
        exact⟨HR.out,by simp[intOf];omega⟩
end
section
attribute [local go_sem] Ub Uc TW
variable {w:World} {B b b0:Nat} {A L:List Nat} {S S':BS} {tg:List Tg} {M:Mk}
def qF (M:Mk) (t:Nat) (H:Hp) (v:Value):Option Lr->Prop
 |none=>v=.pointer none
 |some run=> ∃ ca p0 ev c0 bv P,v=.pointer (some ⟨ca,3,none⟩)∧H ca [p0,ev,c0,bv] t∧Wu P∧P H∧Qg M P bv run
theorem qF.mono {t:Nat} {H H':Hp} (hH: ∀ b cs t,H b cs t->H' b cs t) {v:Value} {o:Option Lr} (h:qF M t H v o):qF M t H' v o:=by
 cases o with
 |none=>exact h
 |some run=>
  obtain⟨ca,p0,ev,c0,bv,P,h1,h2,h3,h4,h5⟩:=h;exact⟨ca,p0,ev,c0,bv,P,h1,hH _ _ _ h2,h3,h3 _ _ hH h4,h5⟩
def EC (M:Mk) (w:World) (B b b0:Nat) (A L:List Nat) (tg:List Tg) (c:T) (vs:List Value) (S0:BS) (ix:Value) (wr:World):Prop:=
 ∃ (k:Nat) (rest:T) (n i:Nat) (A1 L1:List Nat) (S1:BS),ix=.int .i64 k∧k+rest.len=c.len∧A <+:A1∧L <+:L1∧
  BX wr B b b0 A1 L1 S1 tg M∧Fr bT B w wr∧rest.Ast (Hv wr 0) 3 n i (vs.drop k)∧rest.Zu.comms S1=some S0
def Ej (M:Mk) (w:World) (B b b0:Nat) (A L:List Nat) (tg:List Tg) (c:T) (vs:List Value) (S':BS) (done dn:Nat) (i10 ix:Value) (wr:World):Prop:=
 ∃ (k:Nat) (rest:T) (n i:Nat) (A1 L1:List Nat) (S1:BS) (df:Option Lr),ix=.int .i64 k∧k+rest.len=c.len∧rest.All (BL M)∧rest.ok∧Fit M n (rest.stops false)∧A <+:A1∧L <+:L1∧A1[done]? =some dn∧
  BX wr B b b0 A1 L1 S1 tg M∧Fr bT B w wr∧rest.Ast (Hv wr 0) 3 n i (vs.drop k)∧qF M 236 (Hv wr 0) i10 df∧rest.Zu.sel n i tg done df S1=some S'
theorem IZ {H:Hp} {x:Int} {n i:Nat} {P:List Value->Prop} {v:Value} (h:YB H 3 x n i P v): ∃ ca cv bv bvs,v=.iface 237 (.pointer (some ⟨ca,0,none⟩))∧H ca [.int .i64 (ip i),cv,.int .i64 0,bv] 236∧((x<=0∧cv=.nilIface)∨(0 < x∧Yz H cv))∧PN H bv bvs 96∧P bvs:=by
 rcases h with⟨hm,_⟩ |⟨hm,_⟩ |⟨_,a1,e1,b1,v1,h1,h2,h3,h4,h5⟩
 ·omega
 ·omega
 ·exact⟨a1,e1,b1,v1,h1,h2,h3,h4,h5⟩
theorem JX (h:BX w B b b0 A L S tg M) {lvv:Value} {lab:Option Nat} (hlab:Lj L lvv lab) {i a bb n' i':Nat} {vs:List Value} {c:T} (ha:Hv w 0 a [.int .i64 (ip i),bb] 234)
  (hbl:Zz (Hv w 0) bb 0 0 vs) (hc:c.Ast (Hv w 0) 3 n' i' vs) (hok:c.ok) (hall:c.All (BL M)) (hfit:Fit M n' (c.stops false))
  (hs:U4 i lab c.Zu.comms (fun done=>c.Zu.sel n' i' tg done none) S=some S'):
  Calls Tryz.prog 105 #[b,a,lvv] w fun e w'=>e=.returned (.tuple #[])∧YX w w' B b b0 A L S' tg M:=by
 unfold U4 at hs;simp only[Option.bind_eq_some_iff]at hs;obtain⟨S0,g0,S2,g2,g3⟩:=hs;obtain⟨lv,hbb,harr⟩:=hbl;obtain⟨pl,rfl⟩:=hlab.ptr;have x1:=ha.2.2.cell 1 rfl;have u1:=hbb.2.2.cell 1 rfl;have hlen:=RF hc;obtain⟨la,lcap,rfl⟩: ∃ la lcap,lv=.slice la vs.length lcap:=by
  rcases harr with⟨rfl,rfl⟩ |⟨g,cap,rest,h1,h2,h3,rfl,h4⟩
  ·exact⟨_,_,rfl⟩
  ·exact⟨_,_,rfl⟩
 have hvl:vs.length<=2000000:=by
  rcases harr with⟨rfl,_⟩ |⟨g,cap,rest,h1,h2,h3,_,h4⟩
  ·simp
  ·exact h3
 have HG:=Yt g0 g2 g3 hlen;clear g0 g2 g3 hlen;have HC:=Yt hc hok hall hfit;clear hc hok hall hfit;go_enter Tryz.func105,Tryz.ntmps105;go_wp2_with fail
 go_loopw [26] (fun ix wr=>EC M w B b b0 A L tg c vs S0 ix wr) (fun ix _=>vs.length -(intOf ix).toNat)
 case atStart=>exact⟨0,c,n',i',A,L,S,rfl,by simp,ZT _,ZT _,h,Fr.refl _ _ _,by simpa using HC.out.1,HG.out.1⟩
 case round=>
  obtain⟨k,rest,n1,i1,A1,L1,S1,rfl,hlen',hA1,hL1,h1,f1,hast,hbld⟩:=hrel;have hlen:=HG.out.2.2.2;cases rest with
  |st hd' b' e' c' tl'=>exact absurd hast.1 (by simp)
  |cl x bd tl=>
   have hk:k < vs.length:=by rw[hlen];simp[T.len]at hlen';omega
   obtain⟨v,vs',hdrop,hcl,htl⟩:=hast;obtain⟨hvk,hdrop'⟩:=drop_cons hdrop;obtain⟨ca,cv,bv,bvs,rfl,hca,hcv,_,_⟩:=IZ hcl;obtain⟨ga,gcap,hlv,hcell0⟩:=(harr.mono (Hv.bT f1)).cell hvk;obtain rfl:la=some ⟨ga,0,none⟩:=by simp at hlv;exact hlv.1
   have d1:=hca.2.2.cell 1 rfl;have htl':tl.Ast (Hv wr 0) 3 (n1+bd.lv false) (i1+1+bd.it) (vs.drop (k+1)):=by rw[hdrop'];simpa using htl
   simp only[T.Zu]at hbld;have HQ:=Yt hA1 hL1 hlen' hbld;clear hlv hlen hlen' hA1 hL1 hbld hvk hdrop hdrop' hcl htl;rcases hcv with⟨hx,rfl⟩ |⟨hx,hcv⟩
   ·have hR:EC M w B b b0 A L tg c vs S0 (.int .i64 ((k:Int)+1)) wr:=by
     have hb:=HQ.out.2.2.2;rw[if_neg (by omega)]at hb;exact⟨k+1,tl,_,_,A1,L1,S1,by simp,by have:=HQ.out.2.2.1;simp[T.len]at this;omega,HQ.out.1,HQ.out.2.1,h1,f1,htl',hb⟩
    have HR:=Z9 hR;clear hR hx;go_wp2_with fail
    exact⟨HR.out,by simp[intOf];omega⟩
   ·have hb:=HQ.out.2.2.2;rw[if_pos hx,Option.bind_eq_some_iff]at hb;obtain⟨S3,g3,g4⟩:=hb;have HB:=ZL g3 g4;clear g3 g4;have hcv':=hcv;obtain⟨tc,qc,rfl⟩:=hcv.iface;go_wp2_with fail
    refine(JR h1 hcv' HB.out.1).mono ?_;rintro e w3 ⟨rfl,A3,L3,hA3,hL3,h3,f3⟩
    have hR:EC M w B b b0 A L tg c vs S0 (.int .i64 ((k:Int)+1)) w3:=
     ⟨k+1,tl,_,_,A3,L3,S3,by simp,by have:=HQ.out.2.2.1;simp[T.len]at this;omega,Z7 HQ.out.1 hA3,Z7 HQ.out.2.1 hL3,h3,f1.trans f3,htl'.mono (Hv.bT f3),HB.out.2⟩
    have HR:=Z9 hR;clear hR hA3 hL3;go_wp2_with fail
    exact⟨HR.out,by simp[intOf];omega⟩
  |nil=>
   have hk: ¬ k < vs.length:=by rw[hlen];simp[T.len]at hlen';omega
   have hbld:S1=S0:=by simpa [T.Zu]using hbld
   subst hbld;have P1:=ZL hA1 hL1;clear hlen hlen' hA1 hL1 hast;have ha1:=ZO f1 ha;have x11:=ha1.2.2.cell 1 rfl;go_wp2_with fail
   refine(Zo h1 HG.out.2.1 (Zh (ty:=205) (t0:=234) (by decide) ha1)).mono ?_;rintro e w3 ⟨dn,rfl,A3,hA3,hdn,h3,f3⟩;have P3:=ZL hA3 hdn;clear hA3 hdn;go_upto_if 46 with(fail)
   go_cut [] (fun wx=>BX wx B b b0 A3 L1 (S2.YD lab S1.bks.length) tg M∧Fr bT B w3 wx)
   case first=>
    rcases hlab with⟨rfl,hpl⟩ |⟨j,l,rfl,hpl,hl⟩;all_goals cases hpl
    ·go_wp2_with fail
     go_meet;exact⟨h3,Fr.refl _ _ _⟩
    ·have hl1:=ZQ P1.out.2 hl;obtain⟨yy,gv4,bv4,cv4,hyy,hbl4⟩:=h3.Qr hl1;have y4:=hbl4.cell 1 rfl;have z4:=hbl4.free 1;have hK:=h3.Og hl1 P3.out.2;clear hyy hl1 hl;go_wp2_with fail
     go_meet;exact hK
   case rest=>
    obtain⟨h4,f4⟩:=hcut;have F4:Fr bT B w wc:=f1.trans (f3.trans f4);have ha4:=ZO F4 ha;have x3:=ha4.2.2.cell 1 rfl;have hbb4:=ZO F4 hbb;have u4:=hbb4.2.2.cell 1 rfl;obtain⟨wo,hwo⟩: ∃ wo:World,wo=wc:=⟨_,rfl⟩
    subst hwo;obtain⟨wo2,hwo2⟩: ∃ wo:World,wo=wr:=⟨_,rfl⟩
    subst hwo2;go_wp2_with fail
    go_loopw [10,59] (fun i10 ix wr=>Ej M w B b b0 A L tg c vs S' S1.bks.length dn i10 ix wr) (fun _ ix _=>vs.length -(intOf ix).toNat)
    case atStart=>
     obtain⟨hc,hok,hall,hfit⟩:=HC.out;exact⟨0,c,n',i',A3,L1,S2.YD lab S1.bks.length,none,rfl,by simp,hall,hok,hfit,Z7 P1.out.1 P3.out.1,P1.out.2,P3.out.2,h4,F4,by simpa using hc.mono (Hv.bT F4),rfl,HG.out.2.2.1⟩
    case round=>
     obtain⟨k,rest,n1,i1,A5,L5,S5,df,rfl,hlen',hall',hok',hfit',hA5,hL5,hdn5,h5,f5,hast,hdf,hbld⟩:=hrel;have hlen:=HG.out.2.2.2;cases rest with
     |st hd' b' e' c' tl'=>exact absurd hast.1 (by simp)
     |nil=>
      have hk2: ¬ k < vs.length:=by rw[hlen];simp[T.len]at hlen';omega
      have HQ:=Za hA5 hL5 hdn5;clear hlen hlen' hA5 hL5 hdn5 hk;cases df with
      |none=>
       simp only[qF]at hdf;subst hdf;have hbld:S5.at S1.bks.length=S':=by simpa [T.Zu,Vz]using hbld
       subst hbld;obtain⟨bv7,cv7,mv7,tv7,hb7,_,_⟩:=h5.blk;have y7:=hb7.cell 2 rfl;have z7:=hb7.free 2;obtain⟨h7,f7⟩:=h5.setCur HQ.out.2.2;go_wp2_with fail
       go_end0
       exact⟨rfl,YX.of HQ.out.1 HQ.out.2.1 h7 (f5.trans f7)⟩
      |some run=>
       obtain⟨ca,p0,ev,c0,bv,P,rfl,hca,hP,hp,hLC⟩:=hdf;simp only[T.Zu,Vz,Option.map_eq_some_iff,Option.bind_eq_some_iff]at hbld;obtain⟨S6,g6,S7,g7,rfl⟩:=hbld;have HG2:=ZL g6 g7;clear g6 g7;have HLC:=Z9 hLC;clear hLC;have x20_3:=hca.2.2.cell 3 rfl;obtain⟨bv21,cv21,mv21,tv21,hb21,hbc21,hbt21⟩:=h5.blk;obtain⟨tp21,rfl⟩:=hbt21.ptr;clear hbc21 hbt21;have y21_4:=hb21.cell 4 rfl;have z21_4:=hb21.free 4;have hlt21:b < wr.heap.size:=by simpa [World.setCell]using hb21.lt
       have hbA21:=hb21.alloc (.cells [.pointer tp21,.pointer (some ⟨dn,0,none⟩),.pointer none,.pointer none].toArray 223);have yA21_4:=hbA21.cell 4 rfl;have zA21_4:=hbA21.free 4;obtain⟨h21,f21⟩:=h5.push (N:=wr.heap.size) (by simp[World.setCell]) hb21 (t:=⟨(some _),none,none⟩) (ZI.of HQ.out.2.2) ZI.nil ZI.nil;have ha21:=ZO f21 hca;have x21_3:=ha21.2.2.cell 3 rfl;go_wp2_with fail
       refine(HLC.out _ _ _ _ _ _ _ _ _ h21 (hP _ _ (Hv.bT f21) hp) HG2.out.1).mono ?_;rintro e w22 ⟨rfl,A22,L22,hA22,hL22,h22,f22⟩;have P22:=ZL hA22 hL22;clear hA22 hL22;have ha22:=ZO f22 ha21;have x22_3:=ha22.2.2.cell 3 rfl;obtain⟨bv23,cv23,mv23,ta23,tl23,tb23,tc23,tf23,hb23,ht23,h23,f23⟩:=h22.pop;have y23_4:=hb23.cell 4 rfl;have z23_4:=hb23.free 4;have y23_0:=ht23.cell 0 rfl;have ha23:=ZO f23 ha22;have x23_3:=ha23.2.2.cell 3 rfl;go_wp2_with fail
       refine(Zx h23 HG2.out.2 (ZQ P22.out.1 HQ.out.2.2)).mono ?_;rintro e w24 ⟨rfl,h24,f24⟩;have ha24:=ZO f24 ha23;have x24_3:=ha24.2.2.cell 3 rfl;obtain⟨bv25,cv25,mv25,tv25,hb25,hbc25,hbt25⟩:=h24.blk;have y25_2:=hb25.cell 2 rfl;have z25_2:=hb25.free 2;clear hbc25 hbt25;obtain⟨h25,f25⟩:=h24.setCur (ZQ P22.out.1 HQ.out.2.2);have ha25:=ZO f25 ha24;have x25_3:=ha25.2.2.cell 3 rfl;go_wp2_with fail
       go_end0
       exact⟨rfl,YX.of (Z7 HQ.out.1 P22.out.1) (Z7 HQ.out.2.1 P22.out.2) h25 (f5.trans (f21.trans (f22.trans (f23.trans (f24.trans f25)))))⟩
     |cl x bd tl=>
      have hk2:k < vs.length:=by rw[hlen];simp[T.len]at hlen';omega
      obtain⟨v,vs',hdrop,hcl,htl⟩:=hast;obtain⟨hvk,hdrop'⟩:=drop_cons hdrop;obtain⟨ca,cv,bv,bvs,rfl,hca,hcv,hbarr,hbast⟩:=IZ hcl
      replace hbast:bd.Ast (Hv wr 0) 0 n1 (i1+1) bvs:=by simpa using hbast
      obtain⟨ga,gcap,hlv,hcell0⟩:=(harr.mono (Hv.bT f5)).cell hvk;obtain rfl:la=some ⟨ga,0,none⟩:=by simp at hlv;exact hlv.1
      clear hlv hk;have d1:=hca.2.2.cell 1 rfl;obtain⟨p0,p00,p1,p2⟩:=hok';obtain⟨q1,q2⟩:=hall';have htl':tl.Ast (Hv wr 0) 3 (n1+bd.lv false) (i1+1+bd.it) (vs.drop (k+1)):=by rw[hdrop'];simpa using htl
      have hfb:Fit M n1 (bd.stops false):=by
       have:=hfit';simp only[T.stops,Bool.false_eq_true,if_false,List.replicate_zero,List.nil_append]at this;exact this.left
      have hft:Fit M (n1+bd.lv false) (tl.stops false):=by
       have:=hfit';simp only[T.stops,Bool.false_eq_true,if_false,List.replicate_zero,List.nil_append]at this;exact this.right (T.Yp p1)
      obtain⟨hLb,_⟩:=q1 p1 n1 (i1+1) hfb;have hlb:=hLb bvs bv;simp only[T.Zu]at hbld;have HQ:=Gx hA5 hL5 hdn5 hlen' hbld hvk hdrop hdrop';clear hlen hlen' hA5 hL5 hdn5 hbld hvk hdrop hdrop' hfit' hcl htl;have HLB:=Z9 hlb;clear hlb hLb;rcases hcv with⟨hx,rfl⟩ |⟨hx,hcv⟩
      ·have hR:Ej M w B b b0 A L tg c vs S' S1.bks.length dn (.pointer (some ⟨ca,3,none⟩)) (.int .i64 ((k:Int)+1)) wr:=by
        have hb:=HQ.out.2.2.2.2.1;rw[if_pos hx]at hb;exact⟨k+1,tl,n1+bd.lv false,i1+1+bd.it,A5,L5,S5,_,by simp,by have:=HQ.out.2.2.2.1;simp[T.len]at this;omega,q2,p2,hft,HQ.out.1,HQ.out.2.1,HQ.out.2.2.1,h5,f5,htl',(show qF M 236 (Hv wr 0) _ (some (bd.Zu.list n1 (i1+1)))from⟨ca,_,_,_,bv,_,rfl,hca,XE,⟨hbarr,hbast⟩,HLB.out⟩),hb⟩
       have HR:=Z9 hR;clear hR hx;go_wp2_with fail
       exact⟨HR.out,by simp[intOf];omega⟩
      ·have hb:=HQ.out.2.2.2.2.1;rw[if_neg (by omega)]at hb;simp only[Option.bind_eq_some_iff]at hb;obtain⟨S6,g6,S7,g7,S8,g8,S9,g9,S10,g10,g11⟩:=hb;have HG2:=Sl g6 g7 g8 g9 g10 g11;clear g6 g7 g8 g9 g10 g11;have hcv':=hcv;obtain⟨cva,cvx,rfl,_⟩:=hcv;go_wp2_with fail
       refine(Zo h5 HG2.out.1 (Zh (ty:=237) (t0:=236) (by decide) hca)).mono ?_;rintro e w21 ⟨a21,rfl,A21,hA21,hg21,h21,f21⟩;have P21:=ZL hA21 hg21;clear hA21 hg21;have ha21:=ZO f21 hca;have x21_1:=ha21.2.2.cell 1 rfl;have x21_3:=ha21.2.2.cell 3 rfl;go_wp2_with fail
       refine(Zo h21 HG2.out.2.1 (Zh (ty:=237) (t0:=236) (by decide) ha21)).mono ?_;rintro e w22 ⟨a22,rfl,A22,hA22,hg22,h22,f22⟩;have P22:=ZL hA22 hg22;clear hA22 hg22;have ha22:=ZO f22 ha21;have x22_1:=ha22.2.2.cell 1 rfl;have x22_3:=ha22.2.2.cell 3 rfl;go_wp2_with fail
       refine(OO h22 HG2.out.2.2.1 (ZQ P22.out.1 P21.out.2) P22.out.2).mono ?_;rintro e w23 ⟨rfl,h23,f23⟩;have ha23:=ZO f23 ha22;have x23_1:=ha23.2.2.cell 1 rfl;have x23_3:=ha23.2.2.cell 3 rfl;obtain⟨bv24,cv24,mv24,tv24,hb24,hbc24,hbt24⟩:=h23.blk;have y24_2:=hb24.cell 2 rfl;have z24_2:=hb24.free 2;clear hbc24 hbt24;obtain⟨h24,f24⟩:=h23.setCur (ZQ P22.out.1 P21.out.2);have ha24:=ZO f24 ha23;have x24_1:=ha24.2.2.cell 1 rfl;have x24_3:=ha24.2.2.cell 3 rfl;obtain⟨bv25,cv25,mv25,tv25,hb25,hbc25,hbt25⟩:=h24.blk;obtain⟨tp25,rfl⟩:=hbt25.ptr;clear hbc25 hbt25;have y25_4:=hb25.cell 4 rfl;have z25_4:=hb25.free 4;have hlt25:b < w23.heap.size:=by simpa [World.setCell]using hb25.lt
       have hbA25:=hb25.alloc (.cells [.pointer tp25,.pointer (some ⟨dn,0,none⟩),.pointer none,.pointer none].toArray 223);have yA25_4:=hbA25.cell 4 rfl;have zA25_4:=hbA25.free 4;obtain⟨h25,f25⟩:=h24.push (N:=w23.heap.size) (by simp[World.setCell]) hb25 (t:=⟨(some _),none,none⟩) (ZI.of (ZQ (Z7 P21.out.1 P22.out.1) HQ.out.2.2.1)) ZI.nil ZI.nil;have ha25:=ZO f25 ha24;have x25_1:=ha25.2.2.cell 1 rfl;have x25_3:=ha25.2.2.cell 3 rfl;go_wp2_with fail
       refine(HLB.out _ _ _ _ _ _ _ _ _ h25 (XE _ _ (Hv.bT (f21.trans (f22.trans (f23.trans (f24.trans f25))))) ⟨hbarr,hbast⟩) HG2.out.2.2.2.1).mono ?_;rintro e w26 ⟨rfl,A26,L26,hA26,hL26,h26,f26⟩;have P26:=ZL hA26 hL26;clear hA26 hL26;have ha26:=ZO f26 ha25;have x26_1:=ha26.2.2.cell 1 rfl;have x26_3:=ha26.2.2.cell 3 rfl;obtain⟨bv27,cv27,mv27,ta27,tl27,tb27,tc27,tf27,hb27,ht27,h27,f27⟩:=h26.pop;have y27_4:=hb27.cell 4 rfl;have z27_4:=hb27.free 4;have y27_0:=ht27.cell 0 rfl;have ha27:=ZO f27 ha26;have x27_1:=ha27.2.2.cell 1 rfl;have x27_3:=ha27.2.2.cell 3 rfl;go_wp2_with fail
       refine(Zx h27 HG2.out.2.2.2.2.1 (ZQ (Z7 (Z7 P21.out.1 P22.out.1) P26.out.1) HQ.out.2.2.1)).mono ?_;rintro e w28 ⟨rfl,h28,f28⟩;have ha28:=ZO f28 ha27;have x28_1:=ha28.2.2.cell 1 rfl;have x28_3:=ha28.2.2.cell 3 rfl;obtain⟨bv29,cv29,mv29,tv29,hb29,hbc29,hbt29⟩:=h28.blk;have y29_2:=hb29.cell 2 rfl;have z29_2:=hb29.free 2;clear hbc29 hbt29;obtain⟨h29,f29⟩:=h28.setCur (ZQ P26.out.1 P22.out.2);have ha29:=ZO f29 ha28;have x29_1:=ha29.2.2.cell 1 rfl;have x29_3:=ha29.2.2.cell 3 rfl;have FF:Fr bT B wr (w28.setCell ⟨b,2,none⟩ (.pointer (some ⟨a22,0,none⟩))):=(f21.trans (f22.trans (f23.trans (f24.trans (f25.trans (f26.trans (f27.trans (f28.trans f29))))))))
       have hR:Ej M w B b b0 A L tg c vs S' S1.bks.length dn _ (.int .i64 ((k:Int)+1)) (w28.setCell ⟨b,2,none⟩ (.pointer (some ⟨a22,0,none⟩))):=
        ⟨k+1,tl,n1+bd.lv false,i1+1+bd.it,A26,L26,_,df,by simp,by have:=HQ.out.2.2.2.1;simp[T.len]at this;omega,q2,p2,hft,Z7 HQ.out.1 (Z7 (Z7 P21.out.1 P22.out.1) P26.out.1),Z7 HQ.out.2.1 P26.out.2,(ZQ (Z7 (Z7 P21.out.1 P22.out.1) P26.out.1) HQ.out.2.2.1),h29,f5.trans FF,htl'.mono (Hv.bT FF),hdf.mono (Hv.bT FF),HG2.out.2.2.2.2.2⟩
       have HR:=Z9 hR;clear hR;go_wp2_with fail
       exact⟨HR.out,by simp[intOf];omega⟩
end
end Go.Proofs.YteedbaejpdjilaaGreat
