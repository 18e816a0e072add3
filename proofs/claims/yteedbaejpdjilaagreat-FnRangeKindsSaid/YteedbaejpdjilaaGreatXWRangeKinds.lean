/- Part of the proof: WRangeKinds. -/
import Derived.Test.YteedbaejpdjilaaGreatXEnd
import Derived.Test.YteedbaejpdjilaaGreatXRe
import Derived.Test.YteedbaejpdjilaaGreatXRf
set_option linter.all false
set_option maxRecDepth 100000
set_option maxHeartbeats 4000000
namespace Go.Proofs.YteedbaejpdjilaaGreat
open Go.RowKit
def LK1 (ns:List Nd) (N:Nat) (x:Lf):Prop:= ∃ (j:Nat) (nd:Nd),ns[j]? =some nd∧x.of=((N+j:Nat):Int)∧(nd.h.kind=12->x.what=3)
theorem LK1.left {ns ms:List Nd} {N:Nat} {x:Lf} (h:LK1 ns N x):LK1 (ns++ms) N x:=by
 obtain⟨j,nd,h1,h2⟩:=h;exact⟨j,nd,by rw[List.getElem?_append_left (ZW h1)];exact h1,h2⟩
theorem LK1.right {ns ms:List Nd} {N:Nat} {x:Lf} (h:LK1 ms (N+ns.length) x):LK1 (ns++ms) N x:=by
 obtain⟨j,nd,h1,h2,h3⟩:=h;exact⟨ns.length+j,nd,by rw[List.getElem?_append_right (by omega),Nat.add_sub_cancel_left];exact h1,by rw[h2,Nat.add_assoc],h3⟩
theorem lk_rd: ∀ t:T,(t.Yr true->t.fA-> ∀ N R n i a p,∀ x∈(t.rd.l N R n i a p).ls,LK1 (t.rd.l N R n i a p).ns N x)∧
  (t.Yr false->t.fA-> ∀ sw N0 N R n i j k,∀ x∈(t.rd.c sw N0 N R n i j k).ls,(x.of=N0∧sw=true)∨LK1 (t.rd.c sw N0 N R n i j k).ns N x):=by
 intro t
 induction t with
 |nil=>exact⟨fun _ _ _ _ _ _ _ _ x hx=>by simp[T.rd,Out.none]at hx,fun _ _ _ _ _ _ _ _ _ _ x hx=>by simp[T.rd]at hx⟩
 |st h b e c tl ih1 ih2 ih3 ih4=>
  refine⟨fun⟨_,s1,s2,s3,s4⟩ ⟨f0,f1,f2,f3,f4⟩ N R n i a p x hx=>?_,fun hs=>absurd hs.1 (by simp)⟩;have h1: ∀ N R n i a p,∀ x∈((if h.ZR=true then b.rd.l N R n i a p else .none):Out).ls,LK1 ((if h.ZR=true then b.rd.l N R n i a p else .none):Out).ns N x:=by
   intro N R n i a p;split
   ·next hb=>exact ih1.1 s1 (f1 hb) N R n i a p
   ·intro x hx;simp[Out.none]at hx
  have h2: ∀ N R n i a p,∀ x∈((if h.hasElse=true then e.rd.l N R n i a p else .none):Out).ls,LK1 ((if h.hasElse=true then e.rd.l N R n i a p else .none):Out).ns N x:=by
   intro N R n i a p;split
   ·next hb=>exact ih2.1 s2 (f2 hb) N R n i a p
   ·intro x hx;simp[Out.none]at hx
  simp only[T.rd]at hx ⊢;simp only[List.mem_append]at hx;have hd0: ∀ {ns:List Nd} {nd:Nd} {x:Lf},x.of=(N:Int)->(nd.h.kind=12->x.what=3)->LK1 (nd::ns) N x:=fun h1 h2=>⟨0,_,rfl,by simpa using h1,h2⟩
  have hcons: ∀ {ns:List Nd} {nd:Nd} {x:Lf},LK1 ns (N+1) x->LK1 (nd::ns) N x:=fun h=>LK1.right (ns:= [_]) h;rcases hx with hx|hx|hx|hx|hx
  ·have hf:=f0.1;refine hd0 ?_ ?_
   ·unfold Hd.Zd at hx;revert hx;cases h.ZP<;>cases h.init<;>cases h.hasCond<;>cases h.post<;>simp<;>(try intro hx)<;>(try rcases hx with hx|hx)<;>(try rcases hx with hx|hx)<;>(try rcases hx with hx|hx)<;>(try subst hx)<;>simp
   ·intro hk;have hk:h.kind=12:=hk;have e1:h.ZP=false:=by unfold Hd.ZP;simp[hk]
    have e2:h.init=false:=by cases hi:h.init with|false=>rfl|true=>have:=hf.ini hi;omega
    have e3:h.post=false:=by cases hi:h.post with|false=>rfl|true=>have:=hf.pst hi;omega
    unfold Hd.Zd at hx;rw[e1,e2,e3]at hx;revert hx;cases h.hasCond<;>simp<;>(intro hx;subst hx;rfl)
  ·exact hcons (LK1.left (h1 _ _ _ _ _ _ x hx))
  ·exact hcons (LK1.right (LK1.left (h2 _ _ _ _ _ _ x hx)))
  ·rcases ih3.2 s3 f3 _ _ _ _ _ _ _ _ x hx with⟨k1,k2⟩ |k1
   ·refine hd0 k1 fun hk=>?_;have hk:h.kind=12:=hk;simp[hk]at k2
   ·exact hcons (LK1.right (LK1.right (LK1.left k1)))
  ·exact hcons (LK1.right (LK1.right (LK1.right (ih4.1 s4 f4 _ _ _ _ _ _ x hx))))
 |cl y b tl ih1 ih2=>
  refine⟨fun hs=>absurd hs.1 (by simp),fun⟨_,s1,s2⟩ ⟨f1,f2⟩ sw N0 N R n i j k x hx=>?_⟩;simp only[T.rd]at hx ⊢;simp only[List.mem_append]at hx;rcases hx with hx|hx|hx
  ·left;cases sw with
   |false=>simp at hx
   |true=>
    obtain⟨q,_,rfl⟩:=List.mem_map.1 hx;exact⟨rfl,rfl⟩
  ·exact .inr (LK1.left (ih1.1 s1 f1 _ _ _ _ _ _ x hx))
  ·rcases ih2.2 s2 f2 _ _ _ _ _ _ _ _ x hx with k1|k1
   ·exact .inl k1
   ·exact .inr (LK1.right k1)
theorem c58 {W:World} {P:Pc} {ps:List Pc} {la sa:Option Addr} {lc sc lo g i cap:Nat} {n:Int} (hM:yB W lo g i P la lc sa sc) (hG:BO W lo g ps) (hL:oI ps P 11 12 n) (hk:P.kind=13) (ho:P.of=n):
  Calls Tryz.prog 58 #[.agg #[.slice (some ⟨g,0,none⟩) ps.length cap],Ir P la sa lc sc,.int .i64 n] W fun e w'=>e=.returned (.bool true)∧Below W.heap.size W w':=by
 have hsv:=hM.sv;obtain⟨pl,psu,pi,pv,pk,po,pr⟩:=P;obtain⟨a0,a1,P0,P1,h1,g0,g1,q0,q1,q2,q3⟩:=hL;dsimp only at h1 hsv hk ho;subst h1 hk ho;obtain⟨sb,rfl,hsl,hsc⟩:=DU hsv (by simp);obtain⟨W1,hW1⟩: ∃ W1,W1=(W.alloc (.cells [.slice (some ⟨g,0,none⟩) ps.length cap].toArray 39)).alloc (.cells [.slice la pl.length lc,.slice (some ⟨sb,0,none⟩) 2 sc,.int .i64 pi,.bool pv,.int .i64 13,.int .i64 po,.bool pr].toArray 45):=⟨_,rfl⟩
 have hb:Below W.heap.size W W1:=by rw[hW1];exact((Below.refl _ _).alloc (Nat.le_refl _) _).alloc (by simp) _
 have HB:=Z9 hb;have hs0:=(hb.cell (p:=⟨sb,0,none⟩) hsl).trans (hsc 0 _ rfl);have hs1:=(hb.cell (p:=⟨sb,1,none⟩) hsl).trans (hsc 1 _ rfl);obtain⟨_,_,_,_,hM2⟩:=(hG.low hb).pc a0 P0 g0;obtain⟨_,_,_,_,d4,d5,_⟩:=hM2.all;obtain⟨_,_,_,_,hM3⟩:=(hG.low hb).pc a1 P1 g1;obtain⟨_,_,_,_,e4,e5,_⟩:=hM3.all;rw[q0]at d4;rw[q1]at d5;rw[q2]at e4;rw[q3]at e5;have hil:=ZW g0;have hil1:=ZW g1;have hi2:(0:Int)<=a0∧(a0:Int) < ps.length:=by omega
 have hi3:(0:Int)<=a1∧(a1:Int) < ps.length:=by omega
 clear hsv hsc hM hG hM2 hM3 g0 g1 hb;subst hW1;unfold Ir;go_enter Tryz.func58,Tryz.ntmps58;go_wp2_with fail
 refine wp_loop_rounds 3 ?_;rw[rounds_succ];go_wp2_with (go_at_call 35;refine(YT _ _ _).mono ?_;rintro e w' ⟨rfl,rfl⟩;rw[decide_eq_true hi2])
 go_wp2_with fail
 rw[rounds_succ];go_wp2_with (go_at_call 35;refine(YT _ _ _).mono ?_;rintro e w' ⟨rfl,rfl⟩;rw[decide_eq_true hi3])
 go_wp2_with fail
 rw[rounds_succ];go_wp2_with fail
 go_ret;exact⟨by simp,HB.out⟩
theorem callf57 (args:Array Value) (w:World):(callFunc 57 args).run Tryz.prog w=.ok (.enter 57 args) w:=by kernel_rfl
theorem c57 {W:World} {P P0:Pc} {ps:List Pc} {la sa:Option Addr} {lc sc j b bg lo g i cap h:Nat} {n:Int} (hM:yB W lo g i P la lc sa sc) (hG:BO W lo g ps) (h1:P.succs= [(h:Int)]) (h2:ps[h]? =some P0) (hL:oI ps P0 11 12 n) (hk:P0.kind=13) (ho:P0.of=n)
  (hb:ZV W b [.int .i64 n] 3) (hbg:ZV W bg [.slice (some ⟨g,0,none⟩) ps.length cap] 39):Calls Tryz.prog 57 (#[Ir P la sa lc sc,.int .i64 j]++ #[.pointer (some ⟨bg,0,none⟩),.pointer (some ⟨b,0,none⟩)]) W fun e w'=>e=.returned (.bool true)∧Below W.heap.size W w':=by
 have hsv:=hM.sv;obtain⟨pl,psu,pi,pv,pk,po,pr⟩:=P;obtain⟨ql,qs,qi,qv,qk,qo,qr⟩:=P0;dsimp only at h1 hsv hk ho;subst h1 hk ho;obtain⟨sb,rfl,hsl,hsc⟩:=DU hsv (by simp);obtain⟨la2,lc2,sa2,sc2,hM2⟩:=hG.pc h _ h2;have hgl:=hG.lt.2;have hW1:Below W.heap.size W (W.alloc (.cells [.slice la pl.length lc,.slice (some ⟨sb,0,none⟩) 1 sc,.int .i64 pi,.bool pv,.int .i64 pk,.int .i64 po,.bool pr].toArray 45)):=Wj _;have hk1:=ZV.new W [.slice la pl.length lc,.slice (some ⟨sb,0,none⟩) 1 sc,.int .i64 pi,pv,.int .i64 pk,.int .i64 po,pr] 45
 have hkeep: ∀ wx:World,Below (W.heap.size+1) (W.alloc (.cells [.slice la pl.length lc,.slice (some ⟨sb,0,none⟩) 1 sc,.int .i64 pi,.bool pv,.int .i64 pk,.int .i64 po,.bool pr].toArray 45)) wx->wx.cell? ⟨W.heap.size,1,none⟩=some (.slice (some ⟨sb,0,none⟩) 1 sc)∧wx.cell? ⟨sb,0,none⟩=some (.int .i64 h)∧wx.cell? ⟨bg,0,none⟩=some (.slice (some ⟨g,0,none⟩) ps.length cap)∧wx.cell? ⟨b,0,none⟩=some (.int .i64 qo)∧
   wx.cell? ⟨g,h*7,none⟩=some (.slice la2 ql.length lc2)∧wx.cell? ⟨g,h*7+1,none⟩=some (.slice sa2 qs.length sc2)∧wx.cell? ⟨g,h*7+2,none⟩=some (.int .i64 qi)∧wx.cell? ⟨g,h*7+3,none⟩=some (.bool qv)∧wx.cell? ⟨g,h*7+4,none⟩=some (.int .i64 13)∧wx.cell? ⟨g,h*7+5,none⟩=some (.int .i64 qo)∧wx.cell? ⟨g,h*7+6,none⟩=some (.bool qr):=fun wx hbx=>by
  have hbx2:Below W.heap.size W wx:=hW1.trans (hbx.mono (by omega));exact⟨(hbx.cell (p:=⟨W.heap.size,1,none⟩) (by show W.heap.size < _;omega)).trans (hk1.cell 1 rfl),(hbx2.cell (p:=⟨sb,0,none⟩) hsl).trans (hsc 0 _ rfl),(hbx2.cell (p:=⟨bg,0,none⟩) hbg.lt).trans (hbg.cell 0 rfl),(hbx2.cell (p:=⟨b,0,none⟩) hb.lt).trans (hb.cell 0 rfl),(hM2.low hbx2 hgl).all⟩
 have hil:=ZW h2;have hi2:(0:Int)<=h∧(h:Int) < ps.length:=by omega
 have hS0:=hkeep _ (Below.refl _ _).drew;have HP:=XG hW1 hM2 hG hL hkeep;have hc0:=(hkeep _ (Below.refl _ _)).1;clear hsv hsc hM hM2 hG hL h2 hW1 hk1 hkeep hb hbg;unfold Ir;go_enter Tryz.func57,Tryz.ntmps57;go_wp2_with fail
 go_region_held3 (fun wx:World=>wx.cell? ⟨W.heap.size,1,none⟩=some (.slice (some ⟨sb,0,none⟩) 1 sc)∧wx.cell? ⟨sb,0,none⟩=some (.int .i64 h)∧wx.cell? ⟨bg,0,none⟩=some (.slice (some ⟨g,0,none⟩) ps.length cap)∧wx.cell? ⟨b,0,none⟩=some (.int .i64 qo)∧
   wx.cell? ⟨g,h*7,none⟩=some (.slice la2 ql.length lc2)∧wx.cell? ⟨g,h*7+1,none⟩=some (.slice sa2 qs.length sc2)∧wx.cell? ⟨g,h*7+2,none⟩=some (.int .i64 qi)∧wx.cell? ⟨g,h*7+3,none⟩=some (.bool qv)∧wx.cell? ⟨g,h*7+4,none⟩=some (.int .i64 13)∧wx.cell? ⟨g,h*7+5,none⟩=some (.int .i64 qo)∧wx.cell? ⟨g,h*7+6,none⟩=some (.bool qr)) (first|exact hS2|exact hS0|go_keep)
  (first
   |((go_at_call 35;refine(YT _ _ _).mono ?_;rintro e wx ⟨rfl,rfl⟩;rw[decide_eq_true hi2]))
   |((go_at_call 58;refine(c58 (HP.out.2.1.low HP.out.1.drew (by omega)) (HP.out.2.2.1.low HP.out.1.drew) HP.out.2.2.2.1 rfl rfl).mono ?_;rintro e wx ⟨rfl,hbx⟩;have hS2:=HP.out.2.2.2.2 wx ((Below.refl _ _).drew.trans (hbx.mono (by simp))))))
 go_wp2_with fail
 go_ret;exact⟨by simp,HP.out.1.drew.trans (hbx.mono (by simp))⟩
theorem RB.what3 {t:T} {A:Tr} {S S3:BS} {c:Nat} {X:Cx} (R:RB t A S S3 c X) {x:Nat} (hx:x < A.ls.length) (hk:A.kd (A.lf x).of=12):(A.lf x).what=3:=by
 obtain⟨tg,rfl,hs,hf⟩:=R.tr;have h1:=List.getElem?_eq_getElem hx;rw[Jg h1]at hk ⊢;obtain⟨j,nd,g1,g2,g3⟩:=(lk_rd t).1 hs hf 0 1 0 0 0 0 _ (List.mem_of_getElem? h1);refine g3 ?_;rw[g2,Nat.zero_add]at hk;have h2:(t.tr tg).ns[j]? =some nd:=g1;unfold Tr.kd at hk;rw[Ya h2]at hk;exact hk
theorem RB.rng {t:T} {A:Tr} {S S3:BS} {c:Nat} {X:Cx} (R:RB t A S S3 c X) {i j x:Nat} {P:Pc} (hx0:x < A.ls.length) (hP:S3.WG[i]? =some P) (hx:P.leaves[j]? =some (x:Int)) (hk:A.kd (A.lf x).of=12):
  ∃ (h:Nat) (P0:Pc),P.succs= [(h:Int)]∧S3.WG[h]? =some P0∧oI S3.WG P0 11 12 (A.nd (A.lf x).of).number∧P0.kind=13∧P0.of=(A.nd (A.lf x).of).number:=by
 obtain⟨r,L,E⟩:=R.spot hP hx;obtain⟨h,t1,f1,q1,q2,q3,q4,q5⟩:=L.rng (by rw[R.xa];exact R.what3 hx0 hk) (by rw[R.xa];exact hk);rw[R.xa]at q3 q4 q5;obtain⟨P0,a1,a2,a3⟩:=R.VI q3;obtain⟨k3,b1,b2⟩:=JH a1;obtain⟨g3,c1,c2,c3⟩:=R.sem.vW R.fin q2 (fun _ _=>Nat.zero_le _);rw[b1]at c1;cases c1;refine⟨h,P0,(E _ q1).2,a1,R.jl (a:=t1) (b:=f1) ?_ q4 q5,a2,a3⟩;rw[b2];simp[Bk.pc,c3]
theorem walkRangeKinds:ML 21:=by
 intro t hl w v n hn h;have HR:=Z9 (readB hl h);have HS:=Z9 h;obtain⟨va,vn,vc,rfl⟩:=h.sl;clear h hl;go_enter Tryz.func21,Tryz.ntmps21;go_wp2_with fail
 refine HR.out.mono ?_;rintro e' w1 ⟨p,rt,lo,rfl,hc,hb,hg⟩;have hg:=Z9 hg;go_wp2_with fail
 refine(YZ hc).mono ?_;rintro e' w2 ⟨rfl,rfl⟩;cases rt with
 |false=>
  go_wp2_with fail
  go_ret;exact⟨rfl,hb⟩
 |true=>
  obtain⟨A,S,S3,c,X,R,hT⟩:=hg.out rfl;have hT:=Z9 hT;clear hg;go_wp2_with fail
  refine(Yf hT.out).mono ?_;rintro e' w2 ⟨rfl,rfl⟩;go_wp2_with fail
  refine(YT _ _ _).mono ?_;rintro e' w2 ⟨rfl,rfl⟩;by_cases hin:0<=n∧n < (A.ls.length:Int)
  ·obtain⟨x,rfl,hx⟩:=Ok.cast hin;rw[decide_eq_true hin];clear hin;go_wp2_with fail
   refine(EU hT.out R.wf hx).mono ?_;rintro e' w2 ⟨rfl,hb2⟩;have hT2:=Z9 (hT.out.low hb2);have hb4:=hb.trans (hb2.mono hb.size);obtain⟨kd,hkd⟩: ∃ kd,Hid (kd=A.kd (A.lf x).of):=⟨_,Z9 rfl⟩
   obtain⟨nb,hnb⟩: ∃ nb,Hid (nb=(A.nd (A.lf x).of).number):=⟨_,Z9 rfl⟩
   obtain⟨he,hhe⟩: ∃ he,Hid (he=(A.nd (A.lf x).of).h.hasElse):=⟨_,Z9 rfl⟩
   rw[<-hkd.out,<-hnb.out,<-hhe.out];have HN:=ZL (hb4.alloc hb4.size (.cells [.int .i64 nb].toArray 3)) (ZV.new w2 [.int .i64 nb] 3);have n0:=HN.out.2.cell 0 rfl;by_cases hk:kd=12
   ·subst hk;go_wp2_with fail
    refine(VB R (HS.out.low HN.out.1)).mono ?_;rintro e' w3 ⟨g,cap,rfl,hG,hb3⟩;have hbz:=HN.out.1.size;have hW3:=HN.out.1.trans (hb3.mono hbz);have hbz3:=hb3.size;have hbn:=ZC HN.out.2 hb3;have hw2z:=hb4.size;have hbz4:w2.heap.size+1<=w3.heap.size:=by simpa using hbz3
    have hal:Below w.heap.size w (w3.alloc (.cells [.slice (some ⟨g,0,none⟩) S3.WG.length cap].toArray 39)):=hW3.alloc (by omega) _;have hGA:=hG.low (w':=w3.alloc (.cells [.slice (some ⟨g,0,none⟩) S3.WG.length cap].toArray 39)) ((Below.refl _ _).alloc (Nat.le_refl _) _);have HG:=Yt hal hGA (ZV.new w3 [.slice (some ⟨g,0,none⟩) S3.WG.length cap] 39) (XJ hbn (.cells [.slice (some ⟨g,0,none⟩) S3.WG.length cap].toArray 39));have g0:=HG.out.2.2.1.cell 0 rfl;clear hbn hal hGA hG hW3 hb3;go_wp2_with fail
    refine(V9 HG.out.2.1 R.few.1 (R.stands hx) callf57 ?_).mono ?_
    ·intro i j P W la lc sa sc hP hx' hW hM;obtain⟨h,P0,e1,e2,e3,e4,e5⟩:=R.rng hx hP hx' hkd.out.symm;rw[<-hnb.out]at e3 e5;exact c57 hM (HG.out.2.1.low hW) e1 e2 e3 e4 e5 (ZC HG.out.2.2.2 hW) (ZC HG.out.2.2.1 hW)
    rintro e' w9 ⟨rfl,hb9⟩;go_wp2_with fail
    go_ret;exact⟨rfl,HG.out.1.trans (hb9.mono HG.out.1.size)⟩
   ·have hq:(kd !=12)=true:=by simpa using hk
    clear hk;go_wp2_with fail
    go_ret;exact⟨rfl,HN.out.1⟩
  ·rw[decide_eq_false hin];go_wp2_with fail
   go_ret;exact⟨rfl,hb⟩
end Go.Proofs.YteedbaejpdjilaaGreat
