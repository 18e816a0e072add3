/- Part of the proof: PlcL. -/
import Derived.Test.YteedbaejpdjilaaGreatUSf
set_option linter.all false
set_option maxRecDepth 100000
set_option maxHeartbeats 4000000
namespace Go.Proofs.YteedbaejpdjilaaGreat
open Go.RowKit Tryz
def Z24 (A:Tr) (W:World) (gi:Nat) (f:Nat->Bool) (b0:Bool) (ev ix:Value) (wr:World):Prop:=
 ∃ (k:Nat) (b:Bool),ix=.int .i64 k/\k<=A.ls.length/\ev=.bool b/\(b=true↔(b0=true\/ ∃ x:Nat,x < k/\A.Yh x=9/\f x=true))/\ZD wr gi (Bg A.ls.length f) 4/\Below W.heap.size W wr
theorem Z3s {A:Tr} {f:Nat->Bool} {b0 b b':Bool} {k:Nat} (h:b=true↔(b0=true\/ ∃ x:Nat,x < k/\A.Yh x=9/\f x=true)) (hb:b'=true↔(b=true\/(A.Yh k=9/\f k=true))):b'=true↔(b0=true\/ ∃ x:Nat,x < k+1/\A.Yh x=9/\f x=true):=by
 rw[hb,h];constructor
 .rintro((h1|⟨x,h1,h2⟩) |h1)
  .exact .inl h1
  .exact .inr ⟨x,by omega,h2⟩
  .exact .inr ⟨k,by omega,h1⟩
 .rintro(h1|⟨x,h1,h2⟩)
  .exact .inl (.inl h1)
  .by_cases e:x < k
   .exact .inl (.inr ⟨x,e,h2⟩)
   .obtain rfl:x=k:=by omega
    exact .inr h2
section
variable {W:World} {lo p:Nat} {A:Tr}
theorem Z3u (M:QW W lo p A) (Wd:Wf A) (hs:Sm A):Calls prog 40 #[p] W fun e w'=> ∃ d:Bool,e=.returned (.bool d)/\(d=true↔(Rd A (-2)\/ ∃ x:Nat,x < A.ls.length/\A.Yh x=9/\Rd A x))/\Below W.heap.size W w':=by
 have HM:=X7 M Wd hs;have hn4:A.ls.length<=4000:=hs.1;clear M Wd hs;go_enter func40,ntmps40;go_wp2_with fail
 refine(Z4t HM.out.1 HM.out.2.1 HM.out.2.2).mono ?_;rintro e w1 ⟨gi,f,b0,rfl,hbl,hb0,hf,hb1,hgi⟩;have H1:=Xp hbl hb0 hf hb1;clear hbl hb0 hf hb1;go_wp2_with fail
 go_loopw [4,14] (fun ev ix wr=>Z24 A W gi f b0 ev ix wr) (fun _ ix _=>A.ls.length -(intOf ix).toNat)
 case atStart=>exact⟨0,b0,rfl,by omega,rfl,⟨fun h=>.inl h,fun h=>h.elim id (fun⟨x,h,_⟩=>by omega)⟩,H1.out.1,H1.out.2.2.2⟩
 case round=>
  obtain⟨k,b,rfl,hk,rfl,hb,hbk,hbw⟩:=hrel;have HR:=X7 hb hbk hbw;by_cases hkl:k < A.ls.length
  .have ci:=hbk.cell k (LM hkl);have HC:=Z5 (BF (HM.out.1.low hbw) HM.out.2.1 hkl);clear hb hbk hbw;cases b with
   |true=>
    go_wp2_with fail
    exact⟨⟨k+1,true,by simp,hkl,rfl,Z3s HR.out.1 (by simp),HR.out.2.1,HR.out.2.2⟩,by simp[intOf];omega⟩
   |false=>
    cases hfk:f k with
    |false=>
     rw[hfk]at ci;have hfk:=Z5 hfk;go_wp2_with fail
     exact⟨⟨k+1,false,by simp,hkl,rfl,Z3s HR.out.1 (by rw[hfk.out];simp),HR.out.2.1,HR.out.2.2⟩,by simp[intOf];omega⟩
    |true=>
     rw[hfk]at ci;have hfk:=Z5 hfk;go_wp2_with fail
     refine HC.out.mono ?_;rintro e w3 ⟨rfl,hb3⟩;have H3:=Zl (U4 HR.out.2.1 hb3) (HR.out.2.2.trans (hb3.mono HR.out.2.2.size));clear hb3;by_cases h9:A.Yh k=9
     .have h9':=Z5 h9;rw[h9];clear h9;go_wp2_with fail
      exact⟨⟨k+1,true,by simp,hkl,rfl,Z3s HR.out.1 (by rw[hfk.out,h9'.out];simp),H3.out.1,H3.out.2⟩,by simp[intOf];omega⟩
     .have k9:(A.Yh k==9)=false:=by simp[h9]
      have h9':=Z5 h9;clear h9;go_wp2_with fail
      exact⟨⟨k+1,false,by simp,hkl,rfl,Z3s HR.out.1 (by simp[h9'.out]),H3.out.1,H3.out.2⟩,by simp[intOf];omega⟩
  .have hke:=Z5 (show k=A.ls.length by omega);clear hb hbk hbw;go_wp2_with fail
   go_ret;refine⟨b,rfl,?_,HR.out.2.2⟩;rw[HR.out.1,hke.out,H1.out.2.1];refine or_congr Iff.rfl ⟨fun⟨x,h1,h2,h3⟩=>⟨x,h1,h2,(H1.out.2.2.1 x).1 h3⟩,fun⟨x,h1,h2,h3⟩=>⟨x,h1,h2,(H1.out.2.2.1 x).2 h3⟩⟩
end
end Go.Proofs.YteedbaejpdjilaaGreat
