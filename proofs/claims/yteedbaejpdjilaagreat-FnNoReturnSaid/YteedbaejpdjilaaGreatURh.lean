/- Part of the proof: LawD. -/
import Derived.Test.YteedbaejpdjilaaGreatURb
set_option linter.all false
set_option maxRecDepth 100000
set_option maxHeartbeats 4000000
namespace Go.Proofs.YteedbaejpdjilaaGreat
open Go.RowKit Tryz
def Z9l (A:Tr) (W:World) (e:Ending) (w':World):Prop:= ∃ d:Bool,e=.returned (.bool d)/\(d=false-> ∀ x:Nat,x < A.ls.length->A.Yh x≠7)/\Below W.heap.size W w'
def iK (A:Tr) (W:World) (ix:Value) (wr:World):Prop:= ∃ k:Nat,ix=.int .i64 k/\k<=A.ls.length/\(∀ x:Nat,x < k->A.Yh x≠7)/\Below W.heap.size W wr
theorem xE {w:World} {lo p:Nat} {A:Tr} (M:QW w lo p A) (W:Wf A):Calls prog 37 #[p] w (Z9l A w):=by
 have HM:=Z5 M;have hnb:A.ls.length<=90000:=by obtain⟨_,_,_,_,_,_,M⟩:=M;exact M.b.1
 clear M;go_enter func37,ntmps37;go_wp2_with fail
 refine(If HM.out).mono ?_;rintro e w1 ⟨rfl,rfl⟩;go_wp2_with fail
 go_loopw [6] (fun ix wr=>iK A w ix wr) (fun ix _=>A.ls.length -(intOf ix).toNat)
 case atStart=>exact⟨0,rfl,by omega,fun x hx=>by omega,ZN _ _⟩
 case round=>
  obtain⟨k,rfl,hk,hno,hbw⟩:=hrel;have hno:=Z5 hno;by_cases hlt:k < A.ls.length
  .go_wp2_with fail
   refine(BF (HM.out.low hbw) W hlt).mono ?_;rintro e w2 ⟨rfl,hb2⟩;by_cases h7:A.Yh k=7
   .rw[h7];go_wp2_with fail
    go_ret;exact⟨true,rfl,fun h=>absurd h (by simp),hbw.trans (hb2.mono hbw.size)⟩
   .have hq:(A.Yh k==7)=false:=by simpa using h7
    have h7:=Z5 h7;go_wp2_with fail
    exact⟨⟨k+1,by simp,by omega,fun x hx=>by
     by_cases e:x < k
     .exact hno.out x e
     .have:x=k:=by omega
      rw[this];exact h7.out,hbw.trans (hb2.mono hbw.size)⟩,by simp[intOf];omega⟩
  .have:k=A.ls.length:=by omega
   go_wp2_with fail
   go_ret;exact⟨false,rfl,fun _ x hx=>hno.out x (by omega),hbw⟩
end Go.Proofs.YteedbaejpdjilaaGreat
