/- Part of the proof: BldX. -/
import Derived.Test.YteedbaejpdjilaaGreatXPm
set_option linter.all false
set_option maxRecDepth 100000
set_option maxHeartbeats 40000000
namespace Go.Proofs.YteedbaejpdjilaaGreat
open Go.RowKit
attribute [local go_sem] Vu
variable {w:World} {B b b0:Nat} {A L:List Nat} {S S':BS} {tg:List Tg} {M:Mk}
def qh (M:Mk) (H:Hp) (A:List Nat) (v7 v8 v10:Value):Option Df->Prop
 |none=>v7=.pointer none∧v8=.pointer none∧v10=.pointer none
 |some d=> ∃ ca p0 ev c0 bv P a8 a10,v7=.pointer (some ⟨ca,3,none⟩)∧H ca [p0,ev,c0,bv] 229∧Wu P∧P H∧Qg M P bv d.run∧A[d.fal]? =some a8∧v8=.pointer (some ⟨a8,0,none⟩)∧A[d.blk]? =some a10∧v10=.pointer (some ⟨a10,0,none⟩)
theorem qh.mono {H H':Hp} (hH: ∀ b cs t,H b cs t->H' b cs t) {A A':List Nat} (hA:A <+:A') {v7 v8 v10:Value} {o:Option Df} (h:qh M H A v7 v8 v10 o):qh M H' A' v7 v8 v10 o:=by
 cases o with
 |none=>exact h
 |some d=>
  obtain⟨ca,p0,ev,c0,bv,P,a8,a10,h1,h2,h3,h4,h5,h6,h7,h8,h9⟩:=h;exact⟨ca,p0,ev,c0,bv,P,a8,a10,h1,hH _ _ _ h2,h3,h3 _ _ hH h4,h5,ZQ hA h6,h7,ZQ hA h8,h9⟩
theorem qh.ptr {H:Hp} {A:List Nat} {v7 v8 v10:Value} {o:Option Df} (h:qh M H A v7 v8 v10 o): ∃ p7 p8 p10,v7=.pointer p7∧v8=.pointer p8∧v10=.pointer p10:=by
 cases o with
 |none=>obtain⟨rfl,rfl,rfl⟩:=h;exact⟨_,_,_,rfl,rfl,rfl⟩
 |some d=>
  obtain⟨ca,p0,ev,c0,bv,P,a8,a10,rfl,h2,h3,h4,h5,h6,rfl,h8,rfl⟩:=h;exact⟨_,_,_,rfl,rfl,rfl⟩
def Cm (M:Mk) (w:World) (B b b0:Nat) (A L:List Nat) (tg:List Tg) (c:T) (vs:List Value) (S':BS) (done dn:Nat) (v7 v8 v9 v10 ix:Value) (wr:World):Prop:=
 ∃ (k:Nat) (rest:T) (n i:Nat) (A1 L1:List Nat) (S1:BS) (df:Option Df) (fall:Option Nat),ix=.int .i64 k∧k+rest.len=c.len∧rest.All (BL M)∧rest.ok∧Fit M n (rest.stops true)∧A <+:A1∧L <+:L1∧A1[done]? =some dn∧
  BX wr B b b0 A1 L1 S1 tg M∧Fr bT B w wr∧rest.Ast (Hv wr 0) 1 n i (vs.drop k)∧ZI A1 v9 fall∧qh M (Hv wr 0) A1 v7 v8 v10 df∧rest.Zu.sw n i tg done fall df S1=some S'
def vZ (M:Mk) (w:World) (B b b0:Nat) (A L:List Nat) (tg:List Tg) (x body:Nat) (p:Int) (n:Nat) (S3:BS) (v16 ix:Value) (wr:World):Prop:=
 ∃ (j:Nat) (A1:List Nat) (S2:BS),ix=.int .i64 j∧j<=x∧A <+:A1∧BX wr B b b0 A1 L S2 tg M∧Fr bT B w wr∧(0 < j-> ∃ q a,S2.cur=some q∧A1[q]? =some a∧v16=.pointer (some ⟨a,0,none⟩))∧Yg body p (x -j) (n+j) S2=some S3
theorem uF (t:Nat) (q:Value) (w:World):(binOp .neq 168 (.iface t q) .nilIface).run Tryz.prog w=.ok (.bool true) w:=by kernel_rfl
theorem zn (w:World):(binOp .neq 168 .nilIface .nilIface).run Tryz.prog w=.ok (.bool false) w:=by kernel_rfl
theorem Ec (x:Nat) (t:Nat) (q:Value) (w:World):(eqGuard .neq 168 (.tmp x) (.const .nilIface) (.iface t q) .nilIface).run Tryz.prog w=.ok () w:=by kernel_rfl
theorem Ib (x:Nat) (w:World):(eqGuard .neq 168 (.tmp x) (.const .nilIface) .nilIface .nilIface).run Tryz.prog w=.ok () w:=by kernel_rfl
theorem FQ {H:Hp} {is:Bool} {v:Value} {p:Int} (h:Xv H is v p):(∀ w,(binOp .neq 168 v .nilIface).run Tryz.prog w=.ok (.bool is) w)∧v.cells= #[v]∧ ∀ x w,(eqGuard .neq 168 (.tmp x) (.const .nilIface) v .nilIface).run Tryz.prog w=.ok () w:=by
 rcases h with⟨rfl,rfl⟩ |⟨rfl,a,rfl,_⟩
 ·exact⟨zn,rfl,fun x=>Ib x⟩
 ·exact⟨uF _ _,rfl,fun x=>Ec x _ _⟩
theorem Jm {H:Hp} {x:Int} {n i:Nat} {P:List Value->Prop} {v:Value} (h:YB H 1 x n i P v): ∃ ca ev bv bvs,v=.iface 227 (.pointer (some ⟨ca,0,none⟩))∧H ca [.int .i64 (ip i),ev,.int .i64 0,bv] 229∧Xj H ev x.toNat (fun j=>lp (n+j))∧PN H bv bvs 96∧P bvs:=by
 rcases h with⟨_,a1,e1,b1,v1,h1,h2,h3,h4,h5⟩ |⟨hm,_⟩ |⟨hm,_⟩
 ·exact⟨a1,e1,b1,v1,h1,h2,h3,h4,h5⟩
 ·omega
 ·omega
theorem JG (h:BX w B b b0 A L S tg M) {lvv:Value} {lab:Option Nat} (hlab:Lj L lvv lab) {hd:Hd} {n i a bb n' i':Nat} {iv gv:Value} {vs:List Value} {c:T} (ha:Hv w 0 a [.int .i64 (ip i),iv,gv,bb] 225)
  (hiv:Zk (Hv w 0) hd.init iv (lp n)) (hgv:Xv (Hv w 0) hd.cond gv (lp (n+hd.init.toNat))) (hbl:Zz (Hv w 0) bb 0 0 vs) (hc:c.Ast (Hv w 0) 1 n' i' vs) (hok:c.ok) (hall:c.All (BL M)) (hfit:Fit M n' (c.stops true))
  (hs:U1 hd n i lab (fun done=>c.Zu.sw n' i' tg done none none) S=some S'):
  Calls Tryz.prog 103 #[b,a,lvv] w fun e w'=>e=.returned (.tuple #[])∧YX w w' B b b0 A L S' tg M:=by
 unfold U1 at hs;generalize hd.init=ini at hs hiv hgv;generalize hd.cond=con at hs hgv;simp only[Option.bind_eq_some_iff]at hs;obtain⟨S0,g0,S1,g1,S2,g2,g3⟩:=hs;obtain⟨lv,hbb,harr⟩:=hbl;obtain⟨pl,rfl⟩:=hlab.ptr;have x1:=ha.2.2.cell 1 rfl;have x2:=ha.2.2.cell 2 rfl;have hlen:=RF hc;obtain⟨la,lcap,rfl⟩: ∃ la lcap,lv=.slice la vs.length lcap:=by
  rcases harr with⟨rfl,rfl⟩ |⟨g,cap,rest,h1,h2,h3,rfl,h4⟩
  ·exact⟨_,_,rfl⟩
  ·exact⟨_,_,rfl⟩
 have hvl:vs.length<=2000000:=by
  rcases harr with⟨rfl,_⟩ |⟨g,cap,rest,h1,h2,h3,_,h4⟩
  ·simp
  ·exact h3
 have HG:=XG g0 g1 g2 g3 hlen;clear g0 g1 g2 g3 hlen;have HC:=Yt hc hok hall hfit;clear hc hok hall hfit;go_enter Tryz.func103,Tryz.ntmps103;obtain⟨hne,hcel,hegd⟩:=Qy hiv;unfold Value.cells at hcel;go_upto_if 23 with(fail)
 go_cut [] (fun wx=>YX w wx B b b0 A L S0 tg M)
 case first=>
  have g0:=HG.out.1;unfold BS.Yy at g0;rcases hiv with⟨rfl,rfl⟩ |⟨rfl,hiv⟩
  ·obtain rfl:S=S0:=by simpa using g0
   clear g0;go_wp2_with fail
   go_meet;exact YX.of (ZT _) (ZT _) h (Fr.refl _ _ _)
  ·have g0:S.Zc ⟨lp n,false⟩=some S0:=by simpa using g0
   have hiv':=hiv;obtain⟨ti,qi,rfl⟩:=hiv.iface;have G0:=Z9 g0;clear g0;go_wp2_with fail
   refine(Xu h hiv' G0.out).mono ?_;rintro e w1 ⟨rfl,h1⟩;go_wp2_with fail
   go_meet;exact h1
 case rest=>
  clear hne hcel hegd hiv;obtain⟨A1,L1,hA1,hL1,h1,f1⟩:=hcut;have P1:=ZL hA1 hL1;clear hA1 hL1 x1 x2;have ha1:=ZO f1 ha;have x2:=ha1.2.2.cell 2 rfl;have hgv1:Xv (Hv wc 0) con gv (lp (n+ini.toNat)):=hgv.mono (Hv.bT f1);obtain⟨hne,hcel,hegd⟩:=FQ hgv1;unfold Value.cells at hcel;go_upto_if 34 with(fail)
  go_cut [] (fun wx=>BX wx B b b0 A1 L1 S1 tg M∧Fr bT B w wx)
  case first=>
   have g1:=HG.out.2.1;unfold BS.Yy at g1;rcases hgv1 with⟨rfl,rfl⟩ |⟨rfl,hgv1⟩
   ·obtain rfl:S0=S1:=by simpa using g1
    clear g1;go_wp2_with fail
    go_meet;exact⟨h1,f1⟩
   ·have g1:S0.Zc ⟨lp (n+ini.toNat),false⟩=some S1:=by simpa using g1
    have hgv':=hgv1;obtain⟨qi,rfl⟩:=hgv1.iface;have G1:=Z9 g1;clear g1;go_wp2_with fail
    refine(YI h1 G1.out (.inr ⟨rfl,.inl hgv'⟩)).mono ?_;rintro e w2 ⟨rfl,h2,f2⟩;go_wp2_with fail
    go_meet;exact⟨h2,f1.trans f2⟩
  case rest=>
   clear hne hcel hegd hgv1 x2 h1 ha1 f1;obtain⟨h2,f2⟩:=hcut;have ha2:=ZO f2 ha;go_wp2_with fail
   refine(Zo h2 HG.out.2.2.1 (Zh (ty:=201) (t0:=225) (by decide) ha2)).mono ?_;rintro e w3 ⟨dn,rfl,A3,hA3,hdn,h3,f3⟩;have P3:=ZL hA3 hdn;clear hA3 hdn;go_upto_if 46 with(fail)
   go_cut [] (fun wx=>BX wx B b b0 A3 L1 (S2.YD lab S1.bks.length) tg M∧Fr bT B w3 wx)
   case first=>
    rcases hlab with⟨rfl,hpl⟩ |⟨j,l,rfl,hpl,hl⟩;all_goals cases hpl
    ·go_wp2_with fail
     go_meet;exact⟨h3,Fr.refl _ _ _⟩
    ·have hl1:=ZQ P1.out.2 hl;obtain⟨yy,gv4,bv4,cv4,hyy,hbl4⟩:=h3.Qr hl1;have y4:=hbl4.cell 1 rfl;have z4:=hbl4.free 1;have hK:=h3.Og hl1 P3.out.2;clear hyy hl1 hl;go_wp2_with fail
     go_meet;exact hK
   case rest=>
    obtain⟨h4,f4⟩:=hcut;have F4:Fr bT B w wc:=f2.trans (f3.trans f4);have ha4:=ZO F4 ha;have x3:=ha4.2.2.cell 3 rfl;have hbb4:=ZO F4 hbb;have u1:=hbb4.2.2.cell 1 rfl;obtain⟨wo,hwo⟩: ∃ wo:World,wo=wc:=⟨_,rfl⟩
    subst hwo;go_wp2_with fail
    go_loopw [7,8,9,10,67] (fun v7 v8 v9 v10 ix wr=>Cm M w B b b0 A L tg c vs S' S1.bks.length dn v7 v8 v9 v10 ix wr) (fun _ _ _ _ ix _=>vs.length -(intOf ix).toNat)
    case atStart=>
     obtain⟨hc,hok,hall,hfit⟩:=HC.out;exact⟨0,c,n',i',A3,L1,S2.YD lab S1.bks.length,none,none,rfl,by simp,hall,hok,hfit,Z7 P1.out.1 P3.out.1,P1.out.2,P3.out.2,h4,F4,by simpa using hc.mono (Hv.bT F4),rfl,⟨rfl,rfl,rfl⟩,HG.out.2.2.2.1⟩
    case round=>
     clear x3 u1 ha4 hbb4;obtain⟨k,rest,n1,i1,A5,L5,S5,df,fall,rfl,hlen',hall',hok',hfit',hA5,hL5,hdn5,h5,f5,hast,hfall,hdf,hbld⟩:=hrel;have hlen:=HG.out.2.2.2.2;cases rest with
     |st hd' b' e' c' tl'=>exact absurd hast.1 (by simp)
     |nil=>
      have hk: ¬ k < vs.length:=by rw[hlen];simp[T.len]at hlen';omega
      obtain⟨p9,rfl⟩:=hfall.ptr;have HQ:=Za hA5 hL5 hdn5;clear hlen hlen' hA5 hL5 hdn5 hfall;cases df with
      |none=>
       obtain⟨rfl,rfl,rfl⟩:=(show _=Value.pointer none∧_=Value.pointer none∧_=Value.pointer none from hdf)
       simp only[T.Zu,Uf,Option.map_eq_some_iff]at hbld;obtain⟨S6,g6,rfl⟩:=hbld;have G6:=Z9 g6;clear g6;go_wp2_with fail
       refine(Zx h5 G6.out HQ.out.2.2).mono ?_;rintro e w6 ⟨rfl,h6,f6⟩;obtain⟨bv7,cv7,mv7,tv7,hb7,_,_⟩:=h6.blk;have y7:=hb7.cell 2 rfl;have z7:=hb7.free 2;obtain⟨h7,f7⟩:=h6.setCur HQ.out.2.2;go_wp2_with fail
       go_end0
       exact⟨rfl,YX.of HQ.out.1 HQ.out.2.1 h7 (f5.trans (f6.trans f7))⟩
      |some d=>
       obtain⟨ca,p0,ev,c0,bv,P,a8,a10,rfl,hca,hP,hp,hLC,ha8,rfl,ha10,rfl⟩:=hdf;simp only[T.Zu,Uf,Option.map_eq_some_iff,Option.bind_eq_some_iff]at hbld;obtain⟨S6,g6,S7,g7,S8,g8,rfl⟩:=hbld;have HG2:=XG g6 g7 g8 ha8 ha10;clear g6 g7 g8 ha8 ha10;have HLC:=Z9 hLC;clear hLC;go_wp2_with fail
       refine(Zx h5 HG2.out.1 HG2.out.2.2.2.2).mono ?_;rintro e w21 ⟨rfl,h21,f21⟩;have ha21:=ZO f21 hca;have x21_3:=ha21.2.2.cell 3 rfl;obtain⟨bv22,cv22,mv22,tv22,hb22,hbc22,hbt22⟩:=h21.blk;have y22_2:=hb22.cell 2 rfl;have z22_2:=hb22.free 2;clear hbc22 hbt22;obtain⟨h22,f22⟩:=h21.setCur HG2.out.2.2.2.2;have ha22:=ZO f22 ha21;have x22_3:=ha22.2.2.cell 3 rfl;obtain⟨bv23,cv23,mv23,tv23,hb23,hbc23,hbt23⟩:=h22.blk;obtain⟨tp23,rfl⟩:=hbt23.ptr;clear hbc23 hbt23;have y23_4:=hb23.cell 4 rfl;have z23_4:=hb23.free 4;have hlt23:b < w21.heap.size:=by simpa [World.setCell]using hb23.lt
       have hbA23:=hb23.alloc (.cells [.pointer tp23,.pointer (some ⟨dn,0,none⟩),.pointer none,.pointer (some ⟨a8,0,none⟩)].toArray 223);have yA23_4:=hbA23.cell 4 rfl;have zA23_4:=hbA23.free 4;obtain⟨h23,f23⟩:=h22.push (N:=w21.heap.size) (by simp[World.setCell]) hb23 (t:=⟨(some _),none,(some _)⟩) (ZI.of HQ.out.2.2) ZI.nil (ZI.of HG2.out.2.2.2.1);have ha23:=ZO f23 ha22;have x23_3:=ha23.2.2.cell 3 rfl;go_wp2_with fail
       refine(HLC.out _ _ _ _ _ _ _ _ _ h23 (hP _ _ (Hv.bT (f21.trans (f22.trans f23))) hp) HG2.out.2.1).mono ?_;rintro e w24 ⟨rfl,A24,L24,hA24,hL24,h24,f24⟩;have P24:=ZL hA24 hL24;clear hA24 hL24;have ha24:=ZO f24 ha23;have x24_3:=ha24.2.2.cell 3 rfl;obtain⟨bv25,cv25,mv25,ta25,tl25,tb25,tc25,tf25,hb25,ht25,h25,f25⟩:=h24.pop;have y25_4:=hb25.cell 4 rfl;have z25_4:=hb25.free 4;have y25_0:=ht25.cell 0 rfl;have ha25:=ZO f25 ha24;have x25_3:=ha25.2.2.cell 3 rfl;go_wp2_with fail
       refine(Zx h25 HG2.out.2.2.1 (ZQ P24.out.1 HQ.out.2.2)).mono ?_;rintro e w26 ⟨rfl,h26,f26⟩;have ha26:=ZO f26 ha25;have x26_3:=ha26.2.2.cell 3 rfl;obtain⟨bv27,cv27,mv27,tv27,hb27,hbc27,hbt27⟩:=h26.blk;have y27_2:=hb27.cell 2 rfl;have z27_2:=hb27.free 2;clear hbc27 hbt27;obtain⟨h27,f27⟩:=h26.setCur (ZQ P24.out.1 HQ.out.2.2);have ha27:=ZO f27 ha26;have x27_3:=ha27.2.2.cell 3 rfl;go_wp2_with fail
       go_end0
       exact⟨rfl,YX.of (Z7 HQ.out.1 P24.out.1) (Z7 HQ.out.2.1 P24.out.2) h27 (f5.trans (f21.trans (f22.trans (f23.trans (f24.trans (f25.trans (f26.trans f27)))))))⟩
     |cl x bd tl=>
      have hk:k < vs.length:=by rw[hlen];simp[T.len]at hlen';omega
      obtain⟨v,vs',hdrop,hcl,htl⟩:=hast;obtain⟨hvk,hdrop'⟩:=drop_cons hdrop;obtain⟨ca,ev,bv,bvs,rfl,hca,hex,hbarr,hbast⟩:=Jm hcl
      replace hbast:bd.Ast (Hv wr 0) 0 (n1+x.toNat) (i1+1) bvs:=by simpa using hbast
      obtain⟨ga,gcap,hlv,hcell0⟩:=(harr.mono (Hv.bT f5)).cell hvk;obtain rfl:la=some ⟨ga,0,none⟩:=by simp at hlv;exact hlv.1
      clear hlv;obtain⟨p0,p00,p1,p2⟩:=hok';obtain⟨q1,q2⟩:=hall';have htl':tl.Ast (Hv wr 0) 1 (n1+x.toNat+bd.lv false) (i1+1+bd.it) (vs.drop (k+1)):=by rw[hdrop'];simpa using htl
      have hfb:Fit M (n1+x.toNat) (bd.stops false):=by
       have:=hfit';simp only[T.stops,if_true,List.append_assoc]at this;exact(this.right (by simp)).left
      have hft:Fit M (n1+x.toNat+bd.lv false) (tl.stops true):=by
       have:=hfit';simp only[T.stops,if_true,List.append_assoc]at this;exact(this.right (k:=x.toNat) (by simp)).right (T.Yp p1)
      obtain⟨hLb,_⟩:=q1 p1 (n1+x.toNat) (i1+1) hfb;have hlb:=hLb bvs bv;simp only[T.Zu,Option.bind_eq_some_iff]at hbld;obtain⟨r,gr,q,gq,hbld⟩:=hbld;have HQ:=Gx hA5 hL5 hdn5 hlen' hbld hvk hdrop hdrop';have HR0:=ZL gr gq;have HF:=Z9 hfall;have HD:=Z9 hdf;clear hlen hlen' hA5 hL5 hdn5 hbld hvk hdrop hdrop' hfit' hcl htl gr gq;have HLB:=Z9 hlb;clear hlb hLb;obtain⟨p9,rfl⟩:=hfall.ptr;obtain⟨p7,p8,p10,rfl,rfl,rfl⟩:=hdf.ptr;clear hfall hdf;obtain⟨wq,hwq⟩: ∃ wq:World,wq=wr:=⟨_,rfl⟩
      subst hwq;go_upto_if 74 with(fail)
      go_cut [14] (fun s14 wx=> ∃ ab A6,s14=.pointer (some ⟨ab,0,none⟩)∧A5 <+:A6∧A6[r.1]? =some ab∧BX wx B b b0 A6 L5 r.2 tg M∧Fr bT B wq wx)
      case first=>
       have gr:=HR0.out.1;have hfall:=HF.out;unfold BS.UF at gr;cases fall with
       |none=>
        obtain rfl:p9=none:=by simpa [ZI]using hfall
        simp only[Option.map_eq_some_iff]at gr;obtain⟨S6,g6,rfl⟩:=gr;have G6:=Z9 g6;clear g6 hfall;go_wp2_with fail
        refine(Zo h5 G6.out (Zh (ty:=227) (t0:=229) (by decide) hca)).mono ?_;rintro e w6 ⟨ab,rfl,A6,hA6,hab,h6,f6⟩;go_wp2_with fail
        go_meet;exact⟨ab,A6,rfl,hA6,hab,h6,f6⟩
       |some f=>
        obtain⟨ab,hab,hp9⟩:=hfall;cases hp9;obtain rfl:(f,S5)=r:=by simpa using gr
        clear gr hab;go_wp2_with fail
        go_meet;obtain⟨ab',hab',hp9'⟩:=HF.out;cases hp9';exact⟨_,A5,rfl,ZT _,hab',h5,Fr.refl _ _ _⟩
      case rest=>
       obtain⟨ab,A6,rfl,hA6,hab,h6,f6⟩:=hcut;have P6:=ZL hA6 hab;clear hA6 hab;go_upto_if 82 with(fail)
       go_cut [9] (fun s9 wx=> ∃ af A7,s9=.pointer (some ⟨af,0,none⟩)∧A6 <+:A7∧A7[q.1]? =some af∧BX wx B b b0 A7 L5 q.2 tg M∧Fr bT B wq wx)
       case first=>
        have gq:=HR0.out.2;unfold BS.UJ at gq;cases tl with
        |st hd' b' e' c' tl'=>exact absurd htl'.1 (by simp)
        |nil=>
         have hk1: ¬ (k:Int)+1 < vs.length:=by have e1:=HQ.out.2.2.2.1;have e2:=HG.out.2.2.2.2;simp only[T.len]at e1;omega
         obtain rfl:(S1.bks.length,r.2)=q:=by simpa [T.isNil]using gq
         clear gq;go_wp2_with fail
         go_meet;exact⟨dn,A6,rfl,ZT _,ZQ P6.out.1 HQ.out.2.2.1,h6,f6⟩
        |cl x2 bd2 tl2=>
         have hk1:(k:Int)+1 < vs.length:=by have e1:=HQ.out.2.2.2.1;have e2:=HG.out.2.2.2.2;simp only[T.len]at e1;omega
         simp only[T.isNil,Bool.false_eq_true,if_false,Option.map_eq_some_iff]at gq;obtain⟨S7,g7,rfl⟩:=gq;obtain⟨v2,vs2,hdrop2,hcl2,_⟩:=htl';obtain⟨hvk2,_⟩:=drop_cons hdrop2;obtain⟨ca2,ev2,bv2,bvs2,rfl,hca2,_,_,_⟩:=Jm hcl2;obtain⟨ga2,gcap2,hlv2,hcell2⟩:=(harr.mono (Hv.bT (f5.trans f6))).cell hvk2;obtain rfl:ga=ga2:=by simp at hlv2;exact hlv2.1
         have ha6:=ZO (f5.trans f6) ha;have x3:=ha6.2.2.cell 3 rfl;have hbb6:=ZO (f5.trans f6) hbb;have u1:=hbb6.2.2.cell 1 rfl;have G7:=Z9 g7;clear hlv2 g7 hdrop2 hcl2 hvk2;go_wp2_with fail
         refine(Zo h6 G7.out (Zh (ty:=227) (t0:=229) (by decide) (ZO f6 hca2))).mono ?_;rintro e w7 ⟨af,rfl,A7,hA7,haf,h7,f7⟩;go_wp2_with fail
         go_meet;exact⟨af,A7,rfl,hA7,haf,h7,f6.trans f7⟩
       case rest=>
        clear h6 f6;obtain⟨af,A7,rfl,hA7,haf,h7,f7⟩:=hcut;have P7:=ZL hA7 haf;clear hA7 haf;have hca7:=ZO f7 hca;have d1:=hca7.2.2.cell 1 rfl;by_cases hx:x<=0
        ·obtain rfl:ev=.slice none 0 0:=by
          obtain⟨xs,hx1,hx2,_⟩:=hex;rcases hx1 with⟨_,hv⟩ |⟨g,cap,r,h1,_⟩
          ·exact hv
          ·omega
         have hR:Cm M w B b b0 A L tg c vs S' S1.bks.length dn (.pointer (some ⟨ca,3,none⟩)) (.pointer (some ⟨af,0,none⟩)) (.pointer (some ⟨af,0,none⟩)) (.pointer (some ⟨ab,0,none⟩)) (.int .i64 ((k:Int)+1)) wc:=by
          have hb:=HQ.out.2.2.2.2.1;rw[if_pos hx]at hb
          exact⟨k+1,tl,n1+x.toNat+bd.lv false,i1+1+bd.it,A7,L5,q.2,some ⟨r.1,bd.Zu.list (n1+x.toNat) (i1+1),q.1⟩,some q.1,by simp,by have:=HQ.out.2.2.2.1;simp[T.len]at this;omega,q2,p2,hft,
           Z7 HQ.out.1 (Z7 P6.out.1 P7.out.1),HQ.out.2.1,ZQ (Z7 P6.out.1 P7.out.1) HQ.out.2.2.1,h7,f5.trans f7,htl'.mono (Hv.bT f7),⟨af,P7.out.2,rfl⟩,
           ⟨ca,_,_,_,bv,_,af,ab,rfl,hca7,XE,⟨hbarr.mono (Hv.bT f7),hbast.mono (Hv.bT f7)⟩,HLB.out,P7.out.2,rfl,ZQ P7.out.1 P6.out.2,rfl⟩,hb⟩
         have HR:=Z9 hR;have he1:=IC;clear hR hx;go_wp2_with fail
         exact⟨HR.out,by simp[intOf];omega⟩
        ·obtain⟨xs,hxs,hxl,hxe⟩:=hex;obtain⟨ge,ecap,er,rfl,hge⟩: ∃ ge ecap er,ev=.slice (some ⟨ge,0,none⟩) x.toNat ecap∧Hv wq 0 ge (xs++er) 168:=by
          rcases hxs with⟨rfl,_⟩ |⟨g,cap,r,_,_,_,hv,hg⟩
          ·simp at hxl;omega
          ·exact⟨g,cap,r,by rw[hv,hxl],hg⟩
         have hb:=HQ.out.2.2.2.2.1;rw[if_neg hx]at hb;simp only[Option.bind_eq_some_iff]at hb;obtain⟨S8,g8,S9,g9,S10,g10,g11⟩:=hb;have HB:=Sl g8 g9 g10 g11 hxl hxe;clear g8 g9 g10 g11 hxl hxs hxe;have hx300:x.toNat<=300:=by omega
         have hx0:0 < x.toNat:=by omega
         have hge7:=ZO f7 hge;have he1:=CB ⟨ge,0,none⟩ x.toNat ecap;obtain⟨wu,hwu⟩: ∃ wu:World,wu=wc:=⟨_,rfl⟩
         subst hwu;go_wp2_with fail
         go_loopw [16,113] (fun v16 jx wi=>vZ M wu B b b0 A7 L5 tg x.toNat r.1 (ip i1) n1 S8 v16 jx wi) (fun _ jx _=>x.toNat -(intOf jx).toNat)
         case atStart=>exact⟨0,A7,q.2,rfl,Nat.zero_le _,ZT _,h7,Fr.refl _ _ _,fun h=>absurd h (Nat.lt_irrefl 0),by simpa using HB.out.1⟩
         case round=>
          obtain⟨j,A8,S11,rfl,hj,hA8,h8,f8,hnx,htt⟩:=hrel;have hca8:=ZO f8 hca7;by_cases hjx:j < x.toNat
          ·have hj2:j < xs.length:=by have:=HB.out.2.2.2.2.1;omega
           have hxj:=(HB.out.2.2.2.2.2 j xs[j] (List.getElem?_eq_getElem hj2))
           have e1:wr.cell? ⟨ge,j,none⟩=some xs[j]:=(ZO f8 hge7).2.2.cell j (by rw[List.getElem?_append_left hj2];exact List.getElem?_eq_getElem hj2);generalize xs[j]=xj at hxj e1;have hxj8:Zp (Hv wr 0) xj (lp (n1+j)):=(hxj.mono (Hv.bT f7)).mono (Hv.bT f8);obtain⟨qx,rfl⟩:=hxj.iface;rw[show x.toNat -j=(x.toNat -j -1)+1 by omega]at htt;simp only[Yg,Option.bind_eq_some_iff]at htt;obtain⟨S12,g12,S13,g13,S14,g14,g15⟩:=htt;have HT:=XG g12 g13 g14 g15 hA8;clear g12 g13 g14 g15 hA8 hnx;go_wp2_with fail
           refine(Zo h8 HT.out.1 (Zh (ty:=227) (t0:=229) (by decide) hca8)).mono ?_;rintro e w9 ⟨an,rfl,A9,hA9,han,h9,f9⟩;have P9:=ZL hA9 han;clear hA9 han;go_wp2_with fail
           refine(YI h9 HT.out.2.1 (.inr ⟨rfl,.inl (hxj8.mono (Hv.bT f9))⟩)).mono ?_;rintro e w10 ⟨rfl,h10,f10⟩;go_wp2_with fail
           refine(OO h10 HT.out.2.2.1 (ZQ (Z7 P7.out.1 (Z7 HT.out.2.2.2.2 P9.out.1)) P6.out.2) P9.out.2).mono ?_;rintro e w11 ⟨rfl,h11,f11⟩;obtain⟨bv12,cv12,mv12,tv12,hb12,_,_⟩:=h11.blk;have y12:=hb12.cell 2 rfl;have z12:=hb12.free 2;obtain⟨h12,f12⟩:=h11.setCur P9.out.2
           have hR:vZ M wu B b b0 A7 L5 tg x.toNat r.1 (ip i1) n1 S8 (.pointer (some ⟨an,0,none⟩)) (.int .i64 ((j:Int)+1)) (w11.setCell ⟨b,2,none⟩ (.pointer (some ⟨an,0,none⟩))):=
            ⟨j+1,A9,_,by simp,by omega,Z7 HT.out.2.2.2.2 P9.out.1,h12,f8.trans (f9.trans (f10.trans (f11.trans f12))),fun _=>⟨S11.bks.length,an,rfl,P9.out.2,rfl⟩,by rw[show x.toNat -(j+1)=x.toNat -j -1 by omega];exact HT.out.2.2.2.1⟩
           have HR:=Z9 hR;clear hR;go_wp2_with fail
           exact⟨HR.out,by simp[intOf];omega⟩
          ·obtain rfl:j=x.toNat:=by omega
           have htt0:S11=S8:=by simpa [Yg]using htt
           subst htt0;obtain⟨qq,qa,hq1,hq2,rfl⟩:=hnx hx0;have hbarr8:=hbarr.mono (Hv.bT (f7.trans f8));have hbast8:=hbast.mono (Hv.bT (f7.trans f8));have HT:=Za hq1 hq2 hA8;clear hq1 hq2 hA8 hnx htt;obtain⟨bv21,cv21,mv21,tv21,hb21,hbc21,hbt21⟩:=h8.blk;have y21_2:=hb21.cell 2 rfl;have z21_2:=hb21.free 2;clear hbc21 hbt21;obtain⟨h21,f21⟩:=h8.setCur (ZQ (Z7 P7.out.1 HT.out.2.2) P6.out.2);have ha21:=ZO f21 hca8;have x21_3:=ha21.2.2.cell 3 rfl;obtain⟨bv22,cv22,mv22,tv22,hb22,hbc22,hbt22⟩:=h21.blk;obtain⟨tp22,rfl⟩:=hbt22.ptr;clear hbc22 hbt22;have y22_4:=hb22.cell 4 rfl;have z22_4:=hb22.free 4;have hlt22:b < wr.heap.size:=by simpa [World.setCell]using hb22.lt
           have hbA22:=hb22.alloc (.cells [.pointer tp22,.pointer (some ⟨dn,0,none⟩),.pointer none,.pointer (some ⟨af,0,none⟩)].toArray 223);have yA22_4:=hbA22.cell 4 rfl;have zA22_4:=hbA22.free 4;obtain⟨h22,f22⟩:=h21.push (N:=wr.heap.size) (by simp[World.setCell]) hb22 (t:=⟨(some _),none,(some _)⟩) (ZI.of (ZQ (Z7 P6.out.1 (Z7 P7.out.1 HT.out.2.2)) HQ.out.2.2.1)) ZI.nil (ZI.of (ZQ HT.out.2.2 P7.out.2));have ha22:=ZO f22 ha21;have x22_3:=ha22.2.2.cell 3 rfl;go_wp2_with fail
           refine(HLB.out _ _ _ _ _ _ _ _ _ h22 (XE _ _ (Hv.bT (f21.trans f22)) ⟨hbarr8,hbast8⟩) HB.out.2.1).mono ?_;rintro e w23 ⟨rfl,A23,L23,hA23,hL23,h23,f23⟩;have P23:=ZL hA23 hL23;clear hA23 hL23;have ha23:=ZO f23 ha22;have x23_3:=ha23.2.2.cell 3 rfl;obtain⟨bv24,cv24,mv24,ta24,tl24,tb24,tc24,tf24,hb24,ht24,h24,f24⟩:=h23.pop;have y24_4:=hb24.cell 4 rfl;have z24_4:=hb24.free 4;have y24_0:=ht24.cell 0 rfl;have ha24:=ZO f24 ha23;have x24_3:=ha24.2.2.cell 3 rfl;go_wp2_with fail
           refine(Zx h24 HB.out.2.2.1 (ZQ P23.out.1 (ZQ (Z7 P6.out.1 (Z7 P7.out.1 HT.out.2.2)) HQ.out.2.2.1))).mono ?_;rintro e w25 ⟨rfl,h25,f25⟩;have ha25:=ZO f25 ha24;have x25_3:=ha25.2.2.cell 3 rfl;obtain⟨bv26,cv26,mv26,tv26,hb26,hbc26,hbt26⟩:=h25.blk;have y26_2:=hb26.cell 2 rfl;have z26_2:=hb26.free 2;clear hbc26 hbt26;obtain⟨h26,f26⟩:=h25.setCur (ZQ P23.out.1 HT.out.2.1);have ha26:=ZO f26 ha25;have x26_3:=ha26.2.2.cell 3 rfl;have FF:Fr bT B wq (w25.setCell ⟨b,2,none⟩ (.pointer (some ⟨qa,0,none⟩))):=f7.trans (f8.trans (f21.trans (f22.trans (f23.trans (f24.trans (f25.trans f26))))))
           have hR:Cm M w B b b0 A L tg c vs S' S1.bks.length dn (.pointer p7) (.pointer p8) (.pointer (some ⟨af,0,none⟩)) (.pointer p10) (.int .i64 ((k:Int)+1)) (w25.setCell ⟨b,2,none⟩ (.pointer (some ⟨qa,0,none⟩))):=
            ⟨k+1,tl,n1+x.toNat+bd.lv false,i1+1+bd.it,A23,L23,_,df,some q.1,by simp,by have:=HQ.out.2.2.2.1;simp[T.len]at this;omega,q2,p2,hft,Z7 HQ.out.1 (Z7 P6.out.1 (Z7 (Z7 P7.out.1 HT.out.2.2) P23.out.1)),Z7 HQ.out.2.1 P23.out.2,(ZQ P23.out.1 (ZQ (Z7 P6.out.1 (Z7 P7.out.1 HT.out.2.2)) HQ.out.2.2.1)),h26,f5.trans FF,htl'.mono (Hv.bT FF),⟨af,(ZQ P23.out.1 (ZQ HT.out.2.2 P7.out.2)),rfl⟩,HD.out.mono (Hv.bT FF) (Z7 P6.out.1 (Z7 (Z7 P7.out.1 HT.out.2.2) P23.out.1)),by have:=HB.out.2.2.2.1;rw[HT.out.1]at this;exact this⟩
           have HR:=Z9 hR;clear hR;go_wp2_with fail
           exact⟨HR.out,by simp[intOf];omega⟩
end Go.Proofs.YteedbaejpdjilaaGreat
