/- Part of the proof: BldX. -/
import Derived.Test.YteedbaejpdjilaaGreatYPm
set_option linter.all false
set_option maxRecDepth 100000
set_option maxHeartbeats 40000000
namespace Go.Proofs.YteedbaejpdjilaaGreat
open Go.RowKit Tryz
attribute [local go_sem] UC
variable {w:World} {B b b0:Nat} {A L:List Nat} {S S':BS} {tg:List Tg} {M:Mk}
def qm (M:Mk) (H:Hp) (A:List Nat) (v7 v8 v10:Value):Option Df->Prop
 |none=>v7=.pointer none/\v8=.pointer none/\v10=.pointer none
 |some d=> ∃ ca p0 ev c0 bv P a8 a10,v7=.pointer (some ⟨ca,3,none⟩)/\H ca [p0,ev,c0,bv] 229/\Vm P/\P H/\OD M P bv d.run/\A[d.Xw]? =some a8/\v8=.pointer (some ⟨a8,0,none⟩)/\A[d.blk]? =some a10/\v10=.pointer (some ⟨a10,0,none⟩)
theorem qm.mono {H H':Hp} (hH: ∀ b cs t,H b cs t->H' b cs t) {A A':List Nat} (hA:A <+:A') {v7 v8 v10:Value} {o:Option Df} (h:qm M H A v7 v8 v10 o):qm M H' A' v7 v8 v10 o:=by
 cases o with
 |none=>exact h
 |some d=>
  obtain⟨ca,p0,ev,c0,bv,P,a8,a10,h1,h2,h3,h4,h5,h6,h7,h8,h9⟩:=h;exact⟨ca,p0,ev,c0,bv,P,a8,a10,h1,hH _ _ _ h2,h3,h3 _ _ hH h4,h5,Zx hA h6,h7,Zx hA h8,h9⟩
theorem qm.ptr {H:Hp} {A:List Nat} {v7 v8 v10:Value} {o:Option Df} (h:qm M H A v7 v8 v10 o): ∃ p7 p8 p10,v7=.pointer p7/\v8=.pointer p8/\v10=.pointer p10:=by
 cases o with
 |none=>obtain⟨rfl,rfl,rfl⟩:=h;exact⟨_,_,_,rfl,rfl,rfl⟩
 |some d=>
  obtain⟨ca,p0,ev,c0,bv,P,a8,a10,rfl,h2,h3,h4,h5,h6,rfl,h8,rfl⟩:=h;exact⟨_,_,_,rfl,rfl,rfl⟩
def DJ (M:Mk) (w:World) (B b b0:Nat) (A L:List Nat) (tg:List Tg) (c:T) (vs:List Value) (S':BS) (done dn:Nat) (v7 v8 v9 v10 ix:Value) (wr:World):Prop:=
 ∃ (k:Nat) (rest:T) (n i:Nat) (A1 L1:List Nat) (S1:BS) (df:Option Df) (fall:Option Nat),ix=.int .i64 k/\k+rest.len=c.len/\rest.All (BL M)/\rest.ok/\Fit M n (rest.stops true)/\A <+:A1/\L <+:L1/\A1[done]? =some dn/\
  BX wr B b b0 A1 L1 S1 tg M/\Fr bT B w wr/\rest.Ast (Hv wr 0) 1 n i (vs.drop k)/\Zc A1 v9 fall/\qm M (Hv wr 0) A1 v7 v8 v10 df/\rest.YO.sw n i tg done fall df S1=some S'
def wQ (M:Mk) (w:World) (B b b0:Nat) (A L:List Nat) (tg:List Tg) (x body:Nat) (p:Int) (n:Nat) (S3:BS) (v16 ix:Value) (wr:World):Prop:=
 ∃ (j:Nat) (A1:List Nat) (S2:BS),ix=.int .i64 j/\j<=x/\A <+:A1/\BX wr B b b0 A1 L S2 tg M/\Fr bT B w wr/\(0 < j-> ∃ q a,S2.cur=some q/\A1[q]? =some a/\v16=.pointer (some ⟨a,0,none⟩))/\Xi body p (x -j) (n+j) S2=some S3
theorem uj (t:Nat) (q:Value) (w:World):(binOp .neq 168 (.iface t q) .nilIface).run prog w=.ok (.bool true) w:=by kernel_rfl
theorem zT (w:World):(binOp .neq 168 .nilIface .nilIface).run prog w=.ok (.bool false) w:=by kernel_rfl
theorem DI (x:Nat) (t:Nat) (q:Value) (w:World):(eqGuard .neq 168 (.tmp x) (.const .nilIface) (.iface t q) .nilIface).run prog w=.ok () w:=by kernel_rfl
theorem FD (x:Nat) (w:World):(eqGuard .neq 168 (.tmp x) (.const .nilIface) .nilIface .nilIface).run prog w=.ok () w:=by kernel_rfl
theorem FC {H:Hp} {is:Bool} {v:Value} {p:Int} (h:Wv H is v p):(∀ w,(binOp .neq 168 v .nilIface).run prog w=.ok (.bool is) w)/\v.cells= #[v]/\ ∀ x w,(eqGuard .neq 168 (.tmp x) (.const .nilIface) v .nilIface).run prog w=.ok () w:=by
 rcases h with⟨rfl,rfl⟩ |⟨rfl,a,rfl,_⟩
 .exact⟨zT,rfl,fun x=>FD x⟩
 .exact⟨uj _ _,rfl,fun x=>DI x _ _⟩
theorem GX {H:Hp} {x:Int} {n i:Nat} {P:List Value->Prop} {v:Value} (h:XD H 1 x n i P v): ∃ ca ev bv bvs,v=.iface 227 (.pointer (some ⟨ca,0,none⟩))/\H ca [.int .i64 (ip i),ev,.int .i64 0,bv] 229/\Wb H ev x.toNat (fun j=>lp (n+j))/\NP H bv bvs 96/\P bvs:=by
 rcases h with⟨_,a1,e1,b1,v1,h1,h2,h3,h4,h5⟩ |⟨hm,_⟩ |⟨hm,_⟩
 .exact⟨a1,e1,b1,v1,h1,h2,h3,h4,h5⟩
 .omega
 .omega
theorem Ji (h:BX w B b b0 A L S tg M) {wY:Value} {lab:Option Nat} (hlab:Ls L wY lab) {hd:Hd} {n i a bb n' i':Nat} {iv gv:Value} {vs:List Value} {c:T} (ha:Hv w 0 a [.int .i64 (ip i),iv,gv,bb] 225)
  (hiv:YA (Hv w 0) hd.init iv (lp n)) (hgv:Wv (Hv w 0) hd.cond gv (lp (n+hd.init.toNat))) (hbl:YW (Hv w 0) bb 0 0 vs) (hc:c.Ast (Hv w 0) 1 n' i' vs) (hok:c.ok) (hall:c.All (BL M)) (hfit:Fit M n' (c.stops true))
  (hs:TF hd n i lab (fun done=>c.YO.sw n' i' tg done none none) S=some S'):
  Calls prog 103 #[b,a,wY] w fun e w'=>e=.returned (.tuple #[])/\X8 w w' B b b0 A L S' tg M:=by
 unfold TF at hs;generalize hd.init=ini at hs hiv hgv;generalize hd.cond=con at hs hgv;simp only[Z8]at hs;obtain⟨S0,g0,S1,g1,S2,g2,g3⟩:=hs;obtain⟨lv,hbb,harr⟩:=hbl;obtain⟨pl,rfl⟩:=hlab.ptr;have x1:=ha.2.2.cell 1 rfl;have x2:=ha.2.2.cell 2 rfl;have hlen:=Px hc;obtain⟨la,OA,rfl⟩: ∃ la OA,lv=.slice la vs.length OA:=by
  rcases harr with⟨rfl,rfl⟩ |⟨g,cap,rest,h1,h2,h3,rfl,h4⟩
  .exact⟨_,_,rfl⟩
  .exact⟨_,_,rfl⟩
 have hvl:vs.length<=2000000:=by
  rcases harr with⟨rfl,_⟩ |⟨g,cap,rest,h1,h2,h3,_,h4⟩
  .simp
  .exact h3
 have HG:=Wp g0 g1 g2 g3 hlen;clear g0 g1 g2 g3 hlen;have HC:=Xp hc hok hall hfit;clear hc hok hall hfit;go_enter func103,ntmps103;obtain⟨hne,Jl,zX⟩:=OC hiv;unfold Value.cells at Jl;go_upto_if 23 with(fail)
 go_cut [] (fun wx=>X8 w wx B b b0 A L S0 tg M)
 case first=>
  have g0:=HG.out.1;unfold BS.XB at g0;rcases hiv with⟨rfl,rfl⟩ |⟨rfl,hiv⟩
  .obtain rfl:S=S0:=by simpa using g0
   clear g0;go_wp2_with fail
   go_meet;exact X8.of (ZB _) (ZB _) h (Fr.refl _ _ _)
  .have g0:S.Yk ⟨lp n,false⟩=some S0:=by simpa using g0
   have ut:=hiv;obtain⟨ti,qi,rfl⟩:=hiv.iface;have G0:=Z5 g0;clear g0;go_wp2_with fail
   refine(Wr h ut G0.out).mono ?_;rintro e w1 ⟨rfl,h1⟩;go_wp2_with fail
   go_meet;exact h1
 case rest=>
  clear hne Jl zX hiv;obtain⟨A1,L1,hA1,hL1,h1,f1⟩:=hcut;have P1:=Zl hA1 hL1;clear hA1 hL1 x1 x2;have ha1:=Zt f1 ha;have x2:=ha1.2.2.cell 2 rfl;have FB:Wv (Hv wc 0) con gv (lp (n+ini.toNat)):=hgv.mono (Hv.bT f1);obtain⟨hne,Jl,zX⟩:=FC FB;unfold Value.cells at Jl;go_upto_if 34 with(fail)
  go_cut [] (fun wx=>BX wx B b b0 A1 L1 S1 tg M/\Fr bT B w wx)
  case first=>
   have g1:=HG.out.2.1;unfold BS.XB at g1;rcases FB with⟨rfl,rfl⟩ |⟨rfl,FB⟩
   .obtain rfl:S0=S1:=by simpa using g1
    clear g1;go_wp2_with fail
    go_meet;exact⟨h1,f1⟩
   .have g1:S0.Yk ⟨lp (n+ini.toNat),false⟩=some S1:=by simpa using g1
    have cV:=FB;obtain⟨qi,rfl⟩:=FB.iface;have G1:=Z5 g1;clear g1;go_wp2_with fail
    refine(XL h1 G1.out (.inr ⟨rfl,.inl cV⟩)).mono ?_;rintro e w2 ⟨rfl,h2,f2⟩;go_wp2_with fail
    go_meet;exact⟨h2,f1.trans f2⟩
  case rest=>
   clear hne Jl zX FB x2 h1 ha1 f1;obtain⟨h2,f2⟩:=hcut;have ha2:=Zt f2 ha;go_wp2_with fail
   refine(YH h2 HG.out.2.2.1 (Yr (ty:=201) (t0:=225) (by decide) ha2)).mono ?_;rintro e w3 ⟨dn,rfl,A3,hA3,hdn,h3,f3⟩;have P3:=Zl hA3 hdn;clear hA3 hdn;go_upto_if 46 with(fail)
   go_cut [] (fun wx=>BX wx B b b0 A3 L1 (S2.XG lab S1.Z6.length) tg M/\Fr bT B w3 wx)
   case first=>
    rcases hlab with⟨rfl,hpl⟩ |⟨j,l,rfl,hpl,hl⟩;all_goals cases hpl
    .go_wp2_with fail
     go_meet;exact⟨h3,Fr.refl _ _ _⟩
    .have hl1:=Zx P1.out.2 hl;obtain⟨yy,gv4,bv4,cv4,ny,Ln⟩:=h3.OE hl1;have y4:=Ln.cell 1 rfl;have z4:=Ln.free 1;have hK:=h3.Mx hl1 P3.out.2;clear ny hl1 hl;go_wp2_with fail
     go_meet;exact hK
   case rest=>
    obtain⟨h4,f4⟩:=hcut;have F4:Fr bT B w wc:=f2.trans (f3.trans f4);have ND:=Zt F4 ha;have x3:=ND.2.2.cell 3 rfl;have FH:=Zt F4 hbb;have u1:=FH.2.2.cell 1 rfl;obtain⟨wo,hwo⟩: ∃ wo:World,wo=wc:=⟨_,rfl⟩
    subst hwo;go_wp2_with fail
    go_loopw [7,8,9,10,67] (fun v7 v8 v9 v10 ix wr=>DJ M w B b b0 A L tg c vs S' S1.Z6.length dn v7 v8 v9 v10 ix wr) (fun _ _ _ _ ix _=>vs.length -(intOf ix).toNat)
    case atStart=>
     obtain⟨hc,hok,hall,hfit⟩:=HC.out;exact⟨0,c,n',i',A3,L1,S2.XG lab S1.Z6.length,none,none,rfl,by simp,hall,hok,hfit,ZW P1.out.1 P3.out.1,P1.out.2,P3.out.2,h4,F4,by simpa using hc.mono (Hv.bT F4),rfl,⟨rfl,rfl,rfl⟩,HG.out.2.2.2.1⟩
    case round=>
     clear x3 u1 ND FH;obtain⟨k,rest,n1,i1,A5,L5,S5,df,fall,rfl,hlen',XC,hok',VG,G3,hL5,Rx,h5,f5,YD,Rv,hdf,X5⟩:=hrel;have hlen:=HG.out.2.2.2.2;cases rest with
     |st hd' b' e' c' tl'=>exact absurd YD.1 (by simp)
     |nil=>
      have hk: ¬ k < vs.length:=by rw[hlen];simp[T.len]at hlen';omega
      obtain⟨p9,rfl⟩:=Rv.ptr;have HQ:=X7 G3 hL5 Rx;clear hlen hlen' G3 hL5 Rx Rv;cases df with
      |none=>
       obtain⟨rfl,rfl,rfl⟩:=(show _=Value.pointer none/\_=Value.pointer none/\_=Value.pointer none from hdf)
       simp only[T.YO,RL,ZX]at X5;obtain⟨S6,g6,rfl⟩:=X5;have G6:=Z5 g6;clear g6;go_wp2_with fail
       refine(YT h5 G6.out HQ.out.2.2).mono ?_;rintro e w6 ⟨rfl,h6,f6⟩;obtain⟨ib,hZ,hI,gZ,hb7,_,_⟩:=h6.blk;have y7:=hb7.cell 2 rfl;have z7:=hb7.free 2;obtain⟨h7,f7⟩:=h6.setCur HQ.out.2.2;go_wp2_with fail
       go_end0
       exact⟨rfl,X8.of HQ.out.1 HQ.out.2.1 h7 (f5.trans (f6.trans f7))⟩
      |some d=>
       obtain⟨ca,p0,ev,c0,bv,P,a8,a10,rfl,hca,hP,hp,hLC,Ab,rfl,My,rfl⟩:=hdf;simp only[T.YO,RL,ZX,Z8]at X5;obtain⟨S6,g6,S7,g7,S8,g8,rfl⟩:=X5;have HG2:=Wp g6 g7 g8 Ab My;clear g6 g7 g8 Ab My;have nw:=Z5 hLC;clear hLC;go_wp2_with fail
       refine(YT h5 HG2.out.1 HG2.out.2.2.2.2).mono ?_;rintro e dk ⟨rfl,h21,f21⟩;have QO:=Zt f21 hca;have DT:=QO.2.2.cell 3 rfl;obtain⟨cU,cT,cS,cR,Lj,DH,GV⟩:=h21.blk;have Z8g:=Lj.cell 2 rfl;have Z8f:=Lj.free 2;clear DH GV;obtain⟨h22,f22⟩:=h21.setCur HG2.out.2.2.2.2;have PY:=Zt f22 QO;have DR:=PY.2.2.cell 3 rfl;obtain⟨du,dt,dr,Z6U,Ll,mK,wO⟩:=h22.blk;obtain⟨cQ,rfl⟩:=wO.ptr;clear mK wO;have nk:=Ll.cell 4 rfl;have nj:=Ll.free 4;have Z8e:b < dk.heap.size:=by simpa [World.setCell]using Ll.lt
       have wL:=Ll.alloc (.cells [.pointer cQ,.pointer (some ⟨dn,0,none⟩),.pointer none,.pointer (some ⟨a8,0,none⟩)].toArray 223);have cP:=wL.cell 4 rfl;have cO:=wL.free 4;obtain⟨h23,f23⟩:=h22.push (N:=dk.heap.size) (by simp[World.setCell]) Ll (t:=⟨(some _),none,(some _)⟩) (Zc.of HQ.out.2.2) Zc.nil (Zc.of HG2.out.2.2.2.1);have PX:=Zt f23 PY;have DQ:=PX.2.2.cell 3 rfl;go_wp2_with fail
       refine(nw.out _ _ _ _ _ _ _ _ _ h23 (hP _ _ (Hv.bT (f21.trans (f22.trans f23))) hp) HG2.out.2.1).mono ?_;rintro e w24 ⟨rfl,A24,L24,mJ,mI,zU,f24⟩;have gY:=Zl mJ mI;clear mJ mI;have PW:=Zt f24 PX;have DP:=PW.2.2.cell 3 rfl;obtain⟨nh,m9,m8,Z6T,Z6S,Z6R,Z6Q,Z6P,Oz,cM,wT,f25⟩:=zU.pop;have mU:=Oz.cell 4 rfl;have mT:=Oz.free 4;have Z8d:=cM.cell 0 rfl;have Oy:=Zt f25 PW;have DN:=Oy.2.2.cell 3 rfl;go_wp2_with fail
       refine(YT wT HG2.out.2.2.1 (Zx gY.out.1 HQ.out.2.2)).mono ?_;rintro e w26 ⟨rfl,qn,f26⟩;have Lk:=Zt f26 Oy;have wR:=Lk.2.2.cell 3 rfl;obtain⟨cZ,cY,cX,Z6O,DL,mH,mG⟩:=qn.blk;have Z8c:=DL.cell 2 rfl;have Z8b:=DL.free 2;clear mH mG;obtain⟨h27,f27⟩:=qn.setCur (Zx gY.out.1 HQ.out.2.2);have DK:=Zt f27 Lk;have mP:=DK.2.2.cell 3 rfl;go_wp2_with fail
       go_end0
       exact⟨rfl,X8.of (ZW HQ.out.1 gY.out.1) (ZW HQ.out.2.1 gY.out.2) h27 (f5.trans (f21.trans (f22.trans (f23.trans (f24.trans (f25.trans (f26.trans f27)))))))⟩
     |cl x bd tl=>
      have hk:k < vs.length:=by rw[hlen];simp[T.len]at hlen';omega
      obtain⟨v,vs',hdrop,hcl,htl⟩:=YD;obtain⟨hvk,XA⟩:=drop_cons hdrop;obtain⟨ca,ev,bv,bvs,rfl,hca,hex,Qn,UW⟩:=GX hcl
      replace UW:bd.Ast (Hv wr 0) 0 (n1+x.toNat) (i1+1) bvs:=by simpa using UW
      obtain⟨ga,zW,hlv,hcell0⟩:=(harr.mono (Hv.bT f5)).cell hvk;obtain rfl:la=some ⟨ga,0,none⟩:=by simp at hlv;exact hlv.1
      clear hlv;obtain⟨p0,p00,p1,p2⟩:=hok';obtain⟨q1,q2⟩:=XC;have Si:tl.Ast (Hv wr 0) 1 (n1+x.toNat+bd.lv false) (i1+1+bd.it) (vs.drop (k+1)):=by rw[XA];simpa using htl
      have hfb:Fit M (n1+x.toNat) (bd.stops false):=by
       have:=VG;simp only[T.stops,if_true,ZI]at this;exact(this.right (by simp)).left
      have hft:Fit M (n1+x.toNat+bd.lv false) (tl.stops true):=by
       have:=VG;simp only[T.stops,if_true,ZI]at this;exact(this.right (k:=x.toNat) (by simp)).right (T.Xx p1)
      obtain⟨hLb,_⟩:=q1 p1 (n1+x.toNat) (i1+1) hfb;have hlb:=hLb bvs bv;simp only[T.YO,Z8]at X5;obtain⟨r,gr,q,gq,X5⟩:=X5;have HQ:=F6 G3 hL5 Rx hlen' X5 hvk hdrop XA;have HR0:=Zl gr gq;have HF:=Z5 Rv;have HD:=Z5 hdf;clear hlen hlen' G3 hL5 Rx X5 hvk hdrop XA VG hcl htl gr gq;have wW:=Z5 hlb;clear hlb hLb;obtain⟨p9,rfl⟩:=Rv.ptr;obtain⟨p7,p8,p10,rfl,rfl,rfl⟩:=hdf.ptr;clear Rv hdf;obtain⟨wq,hwq⟩: ∃ wq:World,wq=wr:=⟨_,rfl⟩
      subst hwq;go_upto_if 74 with(fail)
      go_cut [14] (fun s14 wx=> ∃ ab A6,s14=.pointer (some ⟨ab,0,none⟩)/\A5 <+:A6/\A6[r.1]? =some ab/\BX wx B b b0 A6 L5 r.2 tg M/\Fr bT B wq wx)
      case first=>
       have gr:=HR0.out.1;have Rv:=HF.out;unfold BS.Sk at gr;cases fall with
       |none=>
        obtain rfl:p9=none:=by simpa [Zc]using Rv
        simp only[ZX]at gr;obtain⟨S6,g6,rfl⟩:=gr;have G6:=Z5 g6;clear g6 Rv;go_wp2_with fail
        refine(YH h5 G6.out (Yr (ty:=227) (t0:=229) (by decide) hca)).mono ?_;rintro e w6 ⟨ab,rfl,A6,Bq,hab,h6,f6⟩;go_wp2_with fail
        go_meet;exact⟨ab,A6,rfl,Bq,hab,h6,f6⟩
       |some f=>
        obtain⟨ab,hab,hp9⟩:=Rv;cases hp9;obtain rfl:(f,S5)=r:=by simpa using gr
        clear gr hab;go_wp2_with fail
        go_meet;obtain⟨ab',hab',cL⟩:=HF.out;cases cL;exact⟨_,A5,rfl,ZB _,hab',h5,Fr.refl _ _ _⟩
      case rest=>
       obtain⟨ab,A6,rfl,Bq,hab,h6,f6⟩:=hcut;have P6:=Zl Bq hab;clear Bq hab;go_upto_if 82 with(fail)
       go_cut [9] (fun s9 wx=> ∃ af A7,s9=.pointer (some ⟨af,0,none⟩)/\A6 <+:A7/\A7[q.1]? =some af/\BX wx B b b0 A7 L5 q.2 tg M/\Fr bT B wq wx)
       case first=>
        have gq:=HR0.out.2;unfold BS.Sj at gq;cases tl with
        |st hd' b' e' c' tl'=>exact absurd Si.1 (by simp)
        |nil=>
         have hk1: ¬ (k:Int)+1 < vs.length:=by have e1:=HQ.out.2.2.2.1;have e2:=HG.out.2.2.2.2;simp only[T.len]at e1;omega
         obtain rfl:(S1.Z6.length,r.2)=q:=by simpa [T.isNil]using gq
         clear gq;go_wp2_with fail
         go_meet;exact⟨dn,A6,rfl,ZB _,Zx P6.out.1 HQ.out.2.2.1,h6,f6⟩
        |cl x2 bd2 tl2=>
         have hk1:(k:Int)+1 < vs.length:=by have e1:=HQ.out.2.2.2.1;have e2:=HG.out.2.2.2.2;simp only[T.len]at e1;omega
         simp only[T.isNil,Zw,if_false,ZX]at gq;obtain⟨S7,g7,rfl⟩:=gq;obtain⟨v2,vs2,DG,mF,_⟩:=Si;obtain⟨mE,_⟩:=drop_cons DG;obtain⟨ca2,ev2,o9,Z6N,rfl,cK,_,_,_⟩:=GX mF;obtain⟨ga2,Z8a,hlv2,hcell2⟩:=(harr.mono (Hv.bT (f5.trans f6))).cell mE;obtain rfl:ga=ga2:=by simp at hlv2;exact hlv2.1
         have ha6:=Zt (f5.trans f6) ha;have x3:=ha6.2.2.cell 3 rfl;have cJ:=Zt (f5.trans f6) hbb;have u1:=cJ.2.2.cell 1 rfl;have G7:=Z5 g7;clear hlv2 g7 DG mF mE;go_wp2_with fail
         refine(YH h6 G7.out (Yr (ty:=227) (t0:=229) (by decide) (Zt f6 cK))).mono ?_;rintro e w7 ⟨af,rfl,A7,zV,gX,h7,f7⟩;go_wp2_with fail
         go_meet;exact⟨af,A7,rfl,zV,gX,h7,f6.trans f7⟩
       case rest=>
        clear h6 f6;obtain⟨af,A7,rfl,zV,gX,h7,f7⟩:=hcut;have P7:=Zl zV gX;clear zV gX;have FG:=Zt f7 hca;have d1:=FG.2.2.cell 1 rfl;by_cases hx:x<=0
        .obtain rfl:ev=.slice none 0 0:=by
          obtain⟨xs,hx1,hx2,_⟩:=hex;rcases hx1 with⟨_,hv⟩ |⟨g,cap,r,h1,_⟩
          .exact hv
          .omega
         have hR:DJ M w B b b0 A L tg c vs S' S1.Z6.length dn (.pointer (some ⟨ca,3,none⟩)) (.pointer (some ⟨af,0,none⟩)) (.pointer (some ⟨af,0,none⟩)) (.pointer (some ⟨ab,0,none⟩)) (.int .i64 ((k:Int)+1)) wc:=by
          have hb:=HQ.out.2.2.2.2.1;rw[if_pos hx]at hb
          exact⟨k+1,tl,n1+x.toNat+bd.lv false,i1+1+bd.it,A7,L5,q.2,some ⟨r.1,bd.YO.list (n1+x.toNat) (i1+1),q.1⟩,some q.1,by simp,by have:=HQ.out.2.2.2.1;simp[T.len]at this;omega,q2,p2,hft,
           ZW HQ.out.1 (ZW P6.out.1 P7.out.1),HQ.out.2.1,Zx (ZW P6.out.1 P7.out.1) HQ.out.2.2.1,h7,f5.trans f7,Si.mono (Hv.bT f7),⟨af,P7.out.2,rfl⟩,
           ⟨ca,_,_,_,bv,_,af,ab,rfl,FG,WK,⟨Qn.mono (Hv.bT f7),UW.mono (Hv.bT f7)⟩,wW.out,P7.out.2,rfl,Zx P7.out.1 P6.out.2,rfl⟩,hb⟩
         have HR:=Z5 hR;have he1:=G4;clear hR hx;go_wp2_with fail
         exact⟨HR.out,by simp[intOf];omega⟩
        .obtain⟨xs,hxs,hxl,hxe⟩:=hex;obtain⟨ge,Jk,er,rfl,hge⟩: ∃ ge Jk er,ev=.slice (some ⟨ge,0,none⟩) x.toNat Jk/\Hv wq 0 ge (xs++er) 168:=by
          rcases hxs with⟨rfl,_⟩ |⟨g,cap,r,_,_,_,hv,hg⟩
          .simp at hxl;omega
          .exact⟨g,cap,r,by rw[hv,hxl],hg⟩
         have hb:=HQ.out.2.2.2.2.1;rw[if_neg hx]at hb;simp only[Z8]at hb;obtain⟨S8,g8,S9,g9,RM,g10,g11⟩:=hb;have HB:=Qd g8 g9 g10 g11 hxl hxe;clear g8 g9 g10 g11 hxl hxs hxe;have nu:x.toNat<=300:=by omega
         have hx0:0 < x.toNat:=by omega
         have cI:=Zt f7 hge;have he1:=DZ ⟨ge,0,none⟩ x.toNat Jk;obtain⟨wu,hwu⟩: ∃ wu:World,wu=wc:=⟨_,rfl⟩
         subst hwu;go_wp2_with fail
         go_loopw [16,113] (fun v16 jx wi=>wQ M wu B b b0 A7 L5 tg x.toNat r.1 (ip i1) n1 S8 v16 jx wi) (fun _ jx _=>x.toNat -(intOf jx).toNat)
         case atStart=>exact⟨0,A7,q.2,rfl,Nat.zero_le _,ZB _,h7,Fr.refl _ _ _,fun h=>absurd h (Nat.lt_irrefl 0),by simpa using HB.out.1⟩
         case round=>
          obtain⟨j,A8,EF,rfl,hj,ur,h8,f8,hnx,htt⟩:=hrel;have mD:=Zt f8 FG;by_cases eP:j < x.toNat
          .have hj2:j < xs.length:=by have:=HB.out.2.2.2.2.1;omega
           have hxj:=(HB.out.2.2.2.2.2 j xs[j] (Z9 hj2))
           have e1:wr.cell? ⟨ge,j,none⟩=some xs[j]:=(Zt f8 cI).2.2.cell j (by rw[ZP hj2];exact Z9 hj2);generalize xs[j]=xj at hxj e1;have cH:YI (Hv wr 0) xj (lp (n1+j)):=(hxj.mono (Hv.bT f7)).mono (Hv.bT f8);obtain⟨qx,rfl⟩:=hxj.iface;rw[show x.toNat -j=(x.toNat -j -1)+1 by omega]at htt;simp only[Xi,Z8]at htt;obtain⟨Pa,g12,S13,g13,S14,g14,g15⟩:=htt;have HT:=Wp g12 g13 g14 g15 ur;clear g12 g13 g14 g15 ur hnx;go_wp2_with fail
           refine(YH h8 HT.out.1 (Yr (ty:=227) (t0:=229) (by decide) mD)).mono ?_;rintro e w9 ⟨an,rfl,A9,wV,han,h9,f9⟩;have P9:=Zl wV han;clear wV han;go_wp2_with fail
           refine(XL h9 HT.out.2.1 (.inr ⟨rfl,.inl (cH.mono (Hv.bT f9))⟩)).mono ?_;rintro e w10 ⟨rfl,h10,f10⟩;go_wp2_with fail
           refine(Nb h10 HT.out.2.2.1 (Zx (ZW P7.out.1 (ZW HT.out.2.2.2.2 P9.out.1)) P6.out.2) P9.out.2).mono ?_;rintro e dR ⟨rfl,h11,f11⟩;obtain⟨Z6M,cG,Z6L,cF,mC,_,_⟩:=h11.blk;have nM:=mC.cell 2 rfl;have z12:=mC.free 2;obtain⟨h12,f12⟩:=h11.setCur P9.out.2
           have hR:wQ M wu B b b0 A7 L5 tg x.toNat r.1 (ip i1) n1 S8 (.pointer (some ⟨an,0,none⟩)) (.int .i64 ((j:Int)+1)) (dR.setCell ⟨b,2,none⟩ (.pointer (some ⟨an,0,none⟩))):=
            ⟨j+1,A9,_,by simp,by omega,ZW HT.out.2.2.2.2 P9.out.1,h12,f8.trans (f9.trans (f10.trans (f11.trans f12))),fun _=>⟨EF.Z6.length,an,rfl,P9.out.2,rfl⟩,by rw[show x.toNat -(j+1)=x.toNat -j -1 by omega];exact HT.out.2.2.2.1⟩
           have HR:=Z5 hR;clear hR;go_wp2_with fail
           exact⟨HR.out,by simp[intOf];omega⟩
          .obtain rfl:j=x.toNat:=by omega
           have uq:EF=S8:=by simpa [Xi]using htt
           subst uq;obtain⟨qq,qa,hq1,hq2,rfl⟩:=hnx hx0;have ui:=Qn.mono (Hv.bT (f7.trans f8));have uh:=UW.mono (Hv.bT (f7.trans f8));have HT:=X7 hq1 hq2 ur;clear hq1 hq2 ur hnx htt;obtain⟨dE,dD,dC,dB,Lm,DU,GZ⟩:=h8.blk;have Z79:=Lm.cell 2 rfl;have Z78:=Lm.free 2;clear DU GZ;obtain⟨h21,f21⟩:=h8.setCur (Zx (ZW P7.out.1 HT.out.2.2) P6.out.2);have QO:=Zt f21 mD;have DT:=QO.2.2.cell 3 rfl;obtain⟨cU,cT,cS,cR,Lj,DH,GV⟩:=h21.blk;obtain⟨cE,rfl⟩:=GV.ptr;clear DH GV;have Z77:=Lj.cell 4 rfl;have Z76:=Lj.free 4;have Z75:b < wr.heap.size:=by simpa [World.setCell]using Lj.lt
           have wK:=Lj.alloc (.cells [.pointer cE,.pointer (some ⟨dn,0,none⟩),.pointer none,.pointer (some ⟨af,0,none⟩)].toArray 223);have cD:=wK.cell 4 rfl;have cC:=wK.free 4;obtain⟨h22,f22⟩:=h21.push (N:=wr.heap.size) (by simp[World.setCell]) Lj (t:=⟨(some _),none,(some _)⟩) (Zc.of (Zx (ZW P6.out.1 (ZW P7.out.1 HT.out.2.2)) HQ.out.2.2.1)) Zc.nil (Zc.of (Zx HT.out.2.2 P7.out.2));have PY:=Zt f22 QO;have DR:=PY.2.2.cell 3 rfl;go_wp2_with fail
           refine(wW.out _ _ _ _ _ _ _ _ _ h22 (WK _ _ (Hv.bT (f21.trans f22)) ⟨ui,uh⟩) HB.out.2.1).mono ?_;rintro e dj ⟨rfl,A23,L23,mB,mA,h23,f23⟩;have ug:=Zl mB mA;clear mB mA;have PX:=Zt f23 PY;have DQ:=PX.2.2.cell 3 rfl;obtain⟨di,dh,dg,Z6K,Z6J,Z6I,Z6H,Z6G,DM,cB,zU,f24⟩:=h23.pop;have Z74:=DM.cell 4 rfl;have Z73:=DM.free 4;have Z72:=cB.cell 0 rfl;have PW:=Zt f24 PX;have DP:=PW.2.2.cell 3 rfl;go_wp2_with fail
           refine(YT zU HB.out.2.2.1 (Zx ug.out.1 (Zx (ZW P6.out.1 (ZW P7.out.1 HT.out.2.2)) HQ.out.2.2.1))).mono ?_;rintro e w25 ⟨rfl,wT,f25⟩;have Oy:=Zt f25 PW;have DN:=Oy.2.2.cell 3 rfl;obtain⟨Z6F,Z6E,Z6D,Z6C,mx,mt,mr⟩:=wT.blk;have Z71:=mx.cell 2 rfl;have Z70:=mx.free 2;clear mt mr;obtain⟨qn,f26⟩:=wT.setCur (Zx ug.out.1 HT.out.2.1);have Lk:=Zt f26 Oy;have wR:=Lk.2.2.cell 3 rfl;have FF:Fr bT B wq (w25.setCell ⟨b,2,none⟩ (.pointer (some ⟨qa,0,none⟩))):=f7.trans (f8.trans (f21.trans (f22.trans (f23.trans (f24.trans (f25.trans f26))))))
           have hR:DJ M w B b b0 A L tg c vs S' S1.Z6.length dn (.pointer p7) (.pointer p8) (.pointer (some ⟨af,0,none⟩)) (.pointer p10) (.int .i64 ((k:Int)+1)) (w25.setCell ⟨b,2,none⟩ (.pointer (some ⟨qa,0,none⟩))):=
            ⟨k+1,tl,n1+x.toNat+bd.lv false,i1+1+bd.it,A23,L23,_,df,some q.1,by simp,by have:=HQ.out.2.2.2.1;simp[T.len]at this;omega,q2,p2,hft,ZW HQ.out.1 (ZW P6.out.1 (ZW (ZW P7.out.1 HT.out.2.2) ug.out.1)),ZW HQ.out.2.1 ug.out.2,(Zx ug.out.1 (Zx (ZW P6.out.1 (ZW P7.out.1 HT.out.2.2)) HQ.out.2.2.1)),qn,f5.trans FF,Si.mono (Hv.bT FF),⟨af,(Zx ug.out.1 (Zx HT.out.2.2 P7.out.2)),rfl⟩,HD.out.mono (Hv.bT FF) (ZW P6.out.1 (ZW (ZW P7.out.1 HT.out.2.2) ug.out.1)),by have:=HB.out.2.2.2.1;rw[HT.out.1]at this;exact this⟩
           have HR:=Z5 hR;clear hR;go_wp2_with fail
           exact⟨HR.out,by simp[intOf];omega⟩
end Go.Proofs.YteedbaejpdjilaaGreat
