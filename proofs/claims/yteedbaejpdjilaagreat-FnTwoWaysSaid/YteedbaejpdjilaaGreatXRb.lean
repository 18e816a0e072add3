/- Part of the proof: LawM. -/
import Derived.Test.YteedbaejpdjilaaGreatXQg
import Derived.Test.YteedbaejpdjilaaGreatXQk
import Derived.Test.YteedbaejpdjilaaGreatXRa
import Derived.Test.YteedbaejpdjilaaGreatXRc
set_option linter.all false
set_option maxRecDepth 100000
set_option maxHeartbeats 4000000
namespace Go.Proofs.YteedbaejpdjilaaGreat
open Go.RowKit
structure RB (t:T) (A:Tr) (S S3:BS) (c:Nat) (X:Cx):Prop where
 fin:Fin t S S3 c
 sem:Sem t A S c X
 wf:Wf A
 rt:Rt t
 len:A.ls.length=t.lv false
 tr: ∃ tg,A=t.tr tg∧t.Yr true∧t.fA
theorem lC {t:T} {tg:List Int} (hf:t.fA) (hs:t.Yr true) (hw:t.Yd 0<=300) (R:Xr (t.tr tg)) (TG:kM (t.tr tg)): ∃ S S3 c X,RB t (t.tr tg) S S3 c X:=by
 have hr:=(vU hs hf hw R).1;obtain⟨S,S3,c,F⟩:=Vb hr;obtain⟨X,hX⟩:=yj rfl hr hf R ⟨TG.around,TG.jump,TG.fall⟩ F (LK _);exact⟨S,S3,c,X,F,hX,kV (Ee hs hf) R TG,hr,((SC t).1 hs hf 0 1 0 0 0 0).1,tg,rfl,hs,hf⟩
def BS.WG (S3:BS):List Pc:=S3.bks.mapIdx Bk.pc
theorem RB.few {t:T} {A:Tr} {S S3:BS} {c:Nat} {X:Cx} (h:RB t A S S3 c X):kS S3.WG∧0 < S3.WG.length:=by
 obtain⟨f1,f2,f3,f4⟩:=h.fin.fine (Nat.le_trans h.rt.wt (by decide));refine⟨⟨by simpa [BS.WG]using f2,fun i p hp=>?_⟩,by simpa [BS.WG]using f3⟩;obtain⟨k,hk,rfl⟩:=JH hp;simpa [Bk.pc]using(f1 i k hk).2.2.1
theorem Src.sl {w:World} {t:T} {v:Value} (h:Src w t v): ∃ a n c,v=.slice a n c:=by
 obtain⟨bb,o,hs,_⟩:=h.data;obtain⟨⟨a,n,c,rfl⟩,_⟩:=ZJ hs;exact⟨a,n,c,rfl⟩
def oC (t:T) (W:World) (e:Ending) (w':World):Prop:= ∃ p rt lo,e=.returned (.pointer (some ⟨p,0,none⟩))∧w'.cell? ⟨p,4,none⟩=some (.bool rt)∧Below W.heap.size W w'∧(rt=true-> ∃ A S S3 c X,RB t A S S3 c X∧Aw w' lo p A)
theorem readB {t:T} (hl:t.lim) {w:World} {v:Value} (h:Src w t v):Calls Tryz.prog 29 #[v] w (oC t w):=(MW hl h).mono (by
 rintro e w' ⟨p,rt,lo,h1,h2,_,h3,_,h4⟩;refine⟨p,rt,lo,h1,h3,h2,fun hr=>?_⟩;obtain⟨hf,hs,hw,tg,num,lv,nv,rv,NR,RR,M,hR,hT⟩:=h4 hr;obtain⟨S,S3,c,X,hB⟩:=lC hf hs hw hR hT;exact⟨_,S,S3,c,X,hB,num,lv,nv,rv,NR,RR,M⟩)
def ru (ps:List Pc) (w:World) (e:Ending) (w':World):Prop:= ∃ g cap,e=.returned (.agg #[.slice (some ⟨g,0,none⟩) ps.length cap])∧BO w' w.heap.size g ps∧Below w.heap.size w w'
theorem VB {t:T} {A:Tr} {S S3:BS} {c:Nat} {X:Cx} (R:RB t A S S3 c X) {w:World} {v:Value} (h:Src w t v):Calls Tryz.prog 38 #[v] w (ru S3.WG w):=by
 obtain⟨f1,f2,f3,f4⟩:=R.fin.fine (Nat.le_trans R.rt.wt (by decide));refine(Xe R.fin.built (h.body R.rt) f1 f2 f3 f4).mono ?_;rintro e w' ⟨gv,rfl,hG,hb⟩;obtain⟨g,cap,rfl,hGr⟩:=hG.row (by rw[List.length_mapIdx];exact f3);exact⟨g,cap,rfl,hGr,hb⟩
section
variable {w w':World} {lo p:Nat} {A:Tr} {num:Int} {rt:Bool} {lv nv rv:Value} {NR RR:List (List Value)}
theorem Yf (M:Aw w lo p A):Calls Tryz.prog 32 #[p] w fun e w'=>e=.returned (.int .i64 A.ls.length)∧w=w':=by
 obtain⟨_,_,_,_,_,_,M⟩:=M;obtain⟨a,cap,rfl⟩:=M.N8;have q0:=M.t.blk.cell 0 rfl;go_enter Tryz.func32,Tryz.ntmps32;go_wp2_with fail
 go_ret;exact⟨rfl,rfl⟩
theorem Dq (M:Aw w lo p A) (W:Wf A) {n:Nat} (hn:n < A.ls.length):Calls Tryz.prog 33 #[p,.int .i64 n] w fun e w'=>e=.returned (.int .i64 (A.Y0 n))∧Below w.heap.size w w':=by
 obtain⟨_,_,_,_,_,_,M⟩:=M;obtain⟨gl,capl,rfl⟩:=M.yM (by omega);have hok:Ok (n:Int) A.ls.length:=⟨by omega,by omega⟩
 have hlf:=W.lf hok;obtain⟨m,hm,hml⟩:=hlf.of.cast;obtain⟨g,cap,rfl⟩:=M.NM (by omega);obtain⟨_,_,_,_,_,_,hX⟩:=M.nd hml;obtain⟨d0,_,_,_,_,_,_,_,_,_,_,_,_,_,_,_,_,_,_,_,_,_,_,_⟩:=hX.all;dsimp only at d0;obtain⟨l0,l1,_⟩:=M.lf3 hn;rw[hm]at l0;have q0:=M.t.blk.cell 0 rfl;have q1:=M.t.blk.cell 1 rfl;have hnb:=M.b;unfold Tr.Y0 Tr.kd;rw[hm];generalize(A.lf n).what=wh at*;generalize(A.nd m).h.kind=kd at*;have hm:=Z9 hm;clear hX hlf hok M;go_enter Tryz.func33,Tryz.ntmps33;by_cases h1:wh=1
 ·subst h1;go_wp2_with fail
  go_quiet (fail)
  go_wp2_with fail
  go_ret;exact⟨rfl,Zv (Below.refl _ _) _⟩
 ·have hq:(wh==1)=false:=by simpa using h1
  have hne:=Z9 h1;go_wp2_with fail
  go_ret;exact⟨by simp[hne.out],Below.refl _ _⟩
theorem Vh (M:Aw w lo p A) (W:Wf A) {n:Nat} (hn:n < A.ls.length):Calls Tryz.prog 46 #[p,.int .i64 n] w fun e w'=>e=.returned (.bool (A.Ws n))∧Below w.heap.size w w':=by
 obtain⟨_,_,_,_,_,_,M⟩:=M;obtain⟨gl,capl,rfl⟩:=M.yM (by omega);have hok:Ok (n:Int) A.ls.length:=⟨by omega,by omega⟩
 have hlf:=W.lf hok;obtain⟨m,hm,hml⟩:=hlf.of.cast;obtain⟨g,cap,rfl⟩:=M.NM (by omega);obtain⟨_,_,_,_,_,_,hX⟩:=M.nd hml;obtain⟨d0,_,_,_,_,_,_,_,_,_,_,_,_,_,_,_,_,_,_,_,_,_,_,_⟩:=hX.all;dsimp only at d0;obtain⟨l0,l1,l2⟩:=M.lf3 hn;rw[hm]at l0;have q0:=M.t.blk.cell 0 rfl;have q1:=M.t.blk.cell 1 rfl;have hnb:=M.b;have hpl:=M.t.blk.lt;have hgl:=(M.t.n.lt g rfl).2;have hdc:A.Ws n=decide ((A.lf n).what=5∨((A.lf n).what=3∧((A.nd m).h.kind=10∨(A.nd m).h.kind=11))):=by unfold Tr.Ws Tr.kd;rw[hm]
 rw[hdc];generalize(A.lf n).what=wh at*;generalize(A.nd m).h.kind=kd at*;generalize(A.lf n).index=ix at*;have hm:=Z9 hm;have hb1:Below w.heap.size w (w.alloc (.cells [.int .i64 m,.int .i64 wh,.int .i64 ix].toArray 73)):=(Below.refl _ _).alloc (Nat.le_refl _) _;have HB:=Z9 hb1;clear hX hlf hok M hdc hb1;go_enter Tryz.func46,Tryz.ntmps46;by_cases h5:wh=5
 ·subst h5;go_wp2_with fail
  go_quiet (fail)
  go_wp2_with fail
  go_ret;exact⟨by simp,Zv HB.out _⟩
 ·have q5:(wh==5)=false:=by simpa using h5
  by_cases h3:wh=3
  ·subst h3;go_wp2_with fail
   go_quiet (fail)
   go_wp2_with fail
   all_goals
    go_ret;refine⟨?_,Zv HB.out _⟩;by_cases k0:kd=10<;>by_cases k1:kd=11<;>simp_all
  ·have q3:(wh==3)=false:=by simpa using h3
   have H5:=ZL h5 h3;clear h5 h3;go_wp2_with fail
   go_quiet (fail)
   go_wp2_with fail
   go_ret;exact⟨by simp[H5.out.1,H5.out.2],Zv HB.out _⟩
end
end Go.Proofs.YteedbaejpdjilaaGreat
