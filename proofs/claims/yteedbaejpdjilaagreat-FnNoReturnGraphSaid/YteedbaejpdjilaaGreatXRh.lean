/- Part of the proof: LawD. -/
import Derived.Test.YteedbaejpdjilaaGreatXRe
set_option linter.all false
set_option maxRecDepth 100000
set_option maxHeartbeats 4000000
namespace Go.Proofs.YteedbaejpdjilaaGreat
open Go.RowKit
def DefP (A:Tr) (W:World) (e:Ending) (w':World):Prop:= ∃ d:Bool,e=.returned (.bool d)∧(d=false-> ∀ x:Nat,x < A.ls.length->A.Y0 x≠7)∧Below W.heap.size W w'
def DfRel (A:Tr) (W:World) (ix:Value) (wr:World):Prop:= ∃ k:Nat,ix=.int .i64 k∧k<=A.ls.length∧(∀ x:Nat,x < k->A.Y0 x≠7)∧Below W.heap.size W wr
theorem deferred_any {w:World} {lo p:Nat} {A:Tr} (M:Aw w lo p A) (W:Wf A):Calls Tryz.prog 37 #[p] w (DefP A w):=by
 have HM:=Z9 M;have hnb:A.ls.length<=90000:=by obtain⟨_,_,_,_,_,_,M⟩:=M;exact M.b.1
 clear M;go_enter Tryz.func37,Tryz.ntmps37;go_wp2_with fail
 refine(Yf HM.out).mono ?_;rintro e w1 ⟨rfl,rfl⟩;go_wp2_with fail
 go_loopw [6] (fun ix wr=>DfRel A w ix wr) (fun ix _=>A.ls.length -(intOf ix).toNat)
 case atStart=>exact⟨0,rfl,by omega,fun x hx=>by omega,Below.refl _ _⟩
 case round=>
  obtain⟨k,rfl,hk,hno,hbw⟩:=hrel;have hno:=Z9 hno;by_cases hlt:k < A.ls.length
  ·go_wp2_with fail
   refine(Dq (HM.out.low hbw) W hlt).mono ?_;rintro e w2 ⟨rfl,hb2⟩;by_cases h7:A.Y0 k=7
   ·rw[h7];go_wp2_with fail
    go_ret;exact⟨true,rfl,fun h=>absurd h (by simp),hbw.trans (hb2.mono hbw.size)⟩
   ·have hq:(A.Y0 k==7)=false:=by simpa using h7
    have h7:=Z9 h7;go_wp2_with fail
    exact⟨⟨k+1,by simp,by omega,fun x hx=>by
     by_cases e:x < k
     ·exact hno.out x e
     ·have:x=k:=by omega
      rw[this];exact h7.out,hbw.trans (hb2.mono hbw.size)⟩,by simp[intOf];omega⟩
  ·have:k=A.ls.length:=by omega
   go_wp2_with fail
   go_ret;exact⟨false,rfl,fun _ x hx=>hno.out x (by omega),hbw⟩
end Go.Proofs.YteedbaejpdjilaaGreat
