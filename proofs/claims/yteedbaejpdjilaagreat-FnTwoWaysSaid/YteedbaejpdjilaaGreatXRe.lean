/- Part of the proof: LawR. -/
import Derived.Test.YteedbaejpdjilaaGreatXRb
import Derived.Test.YteedbaejpdjilaaGreatXRd
set_option linter.all false
set_option maxRecDepth 100000
set_option maxHeartbeats 4000000
namespace Go.Proofs.YteedbaejpdjilaaGreat
open Go.RowKit
section
variable {t:T} {A:Tr} {S S3:BS} {c:Nat} {X:Cx}
theorem RB.xa (R:RB t A S S3 c X):X.A=A:=R.sem.A
theorem RB.spot (R:RB t A S S3 c X) {i j x:Nat} {P:Pc} (hP:S3.WG[i]? =some P) (hx:P.leaves[j]? =some (x:Int)):
  ∃ r,LG X i j x r∧ ∀ ss,X.G.ends i (j+1) ss->P.leaves.length=j+1∧P.succs=ss.map fun s:Nat=>(s:Int):=by
 obtain⟨k3,hk,rfl⟩:=JH hP;simp only[Bk.pc,List.getElem?_map,Option.map_eq_some_iff]at hx;obtain⟨y,hy,hyx⟩:=hx;obtain⟨h1,_,h3⟩:=R.sem.spot R.fin hk hy hyx;refine⟨_,h1,fun ss hs=>?_⟩;obtain⟨g1,g2⟩:=h3 ss hs;exact⟨by simpa [Bk.pc]using g1,by simp[Bk.pc,g2]⟩
theorem RB.stands (R:RB t A S S3 c X) {x:Nat} (hx:x < A.ls.length): ∃ q,AtS S3.WG x q:=by
 obtain⟨i,k,k3,y,h1,h2,h3⟩:=R.sem.stands R.fin (x:=x) (by rw[<-R.len];exact hx);exact⟨(i,k),_,N9 h1,by simp[Bk.pc,h2,h3]⟩
theorem RB.VI (R:RB t A S S3 c X) {b:Nat} {k n:Int} (h:X.G.VI b k n): ∃ P,S3.WG[b]? =some P∧P.kind=k∧P.of=n:=by
 obtain⟨k3,h1,h2,h3⟩:=R.sem.kG R.fin h;exact⟨_,N9 h1,h2,h3⟩
theorem RB.kind (R:RB t A S S3 c X) {b:Nat} {k:Int} {o:Option Int} (h:X.G.kind b k o): ∃ P,S3.WG[b]? =some P∧P.kind=k:=by
 obtain⟨k3,h1,h2,h3⟩:=R.sem.vY R.fin h;exact⟨_,N9 h1,h2⟩
theorem RB.jl (R:RB t A S S3 c X) {a b:Nat} {P:Pc} {k0 k1 n:Int} (e:P.succs= [(a:Int),(b:Int)]) (h1:X.G.VI a k0 n) (h2:X.G.VI b k1 n):oI S3.WG P k0 k1 n:=by
 obtain⟨Pa,a1,a2,a3⟩:=R.VI h1;obtain⟨Pb,b1,b2,b3⟩:=R.VI h2;exact⟨a,b,Pa,Pb,e,a1,b1,a2,a3,b2,b3⟩
theorem RB.wK (R:RB t A S S3 c X) {i j x:Nat} {P:Pc} (hP:S3.WG[i]? =some P) (hx:P.leaves[j]? =some (x:Int)) (hk:A.kd (A.lf x).of=10) (hd:A.Ws x=true):oI S3.WG P 9 (if(A.nd (A.lf x).of).h.hasElse=true then 8 else 7) (A.nd (A.lf x).of).number:=by
 obtain⟨r,L,E⟩:=R.spot hP hx;obtain⟨t1,f1,q1,_,_,q2⟩:=L.two (by rw[R.xa];exact hd);obtain⟨i1,i2⟩:=q2.ifs (by rw[R.xa];exact hk);rw[R.xa]at i1 i2;exact R.jl (E _ q1).2 i1 i2
theorem RB.Em (R:RB t A S S3 c X) {i j x:Nat} {P:Pc} (hP:S3.WG[i]? =some P) (hx:P.leaves[j]? =some (x:Int)) (hk:A.kd (A.lf x).of=11) (hd:A.Ws x=true):oI S3.WG P 3 4 (A.nd (A.lf x).of).number∧P.kind=5∧P.of=(A.nd (A.lf x).of).number:=by
 obtain⟨r,L,E⟩:=R.spot hP hx;obtain⟨t1,f1,q1,_,_,q2⟩:=L.two (by rw[R.xa];exact hd);obtain⟨i0,i1,i2⟩:=q2.for' (by rw[R.xa];exact hk);rw[R.xa]at i0 i1 i2;refine⟨R.jl (E _ q1).2 i1 i2,?_⟩;obtain⟨P0,a1,a2,a3⟩:=R.VI i0;rw[hP]at a1;cases a1;exact⟨a2,a3⟩
theorem RB.post (R:RB t A S S3 c X) {i j x:Nat} {P:Pc} (hP:S3.WG[i]? =some P) (hx:P.leaves[j]? =some (x:Int)) (hw:(A.lf x).what=4):j=0∧P.kind=6∧P.of=(A.nd (A.lf x).of).number:=by
 obtain⟨r,L,E⟩:=R.spot hP hx;obtain⟨h1,h2⟩:=L.post (by rw[R.xa];exact hw);rw[R.xa]at h2;obtain⟨P0,a1,a2,a3⟩:=R.VI h2;rw[hP]at a1;cases a1;exact⟨h1,a2,a3⟩
theorem RB.test (R:RB t A S S3 c X) {i j x:Nat} {P:Pc} (hP:S3.WG[i]? =some P) (hx:P.leaves[j]? =some (x:Int)) (hw:(A.lf x).what=5): ∃ (a b:Nat) (P0:Pc),P.succs= [(a:Int),(b:Int)]∧S3.WG[a]? =some P0∧P0.kind=17∧P0.of=(A.ch (A.lf x).of ((A.nd (A.lf x).of).testOf.getD (A.lf x).index.toNat 0)).number:=by
 obtain⟨r,L,E⟩:=R.spot hP hx;obtain⟨t1,f1,q1,_,_,q2⟩:=L.two (by rw[R.xa];unfold Tr.Ws;simp[hw]);have h2:=q2.test (by rw[R.xa];exact hw);rw[R.xa]at h2;obtain⟨P0,a1,a2,a3⟩:=R.VI h2;exact⟨t1,f1,P0,(E _ q1).2,a1,a2,a3⟩
theorem RB.nodes (R:RB t A S S3 c X) {i j:Nat} {P:Pc} {y:Int} (hP:S3.WG[i]? =some P) (hy:P.leaves[j]? =some y):y= -1∨(y= -2∧P.leaves.length=j+1∧P.succs= [])∨ ∃ x:Nat,y=x∧x < A.ls.length:=by
 obtain⟨k3,hk,rfl⟩:=JH hP;simp only[Bk.pc,List.getElem?_map,Option.map_eq_some_iff]at hy;obtain⟨z,hz,rfl⟩:=hy;rcases R.sem.EG R.fin hk hz with⟨h1,_⟩ |⟨h1,_,h2,h3,_⟩ |⟨x,h1,h2⟩
 ·exact .inl h1
 ·exact .inr (.inl ⟨h1,by simpa [Bk.pc]using h2,by simp[Bk.pc,h3]⟩)
 ·exact .inr (.inr ⟨x,h1,by rw[<-R.xa];exact h2⟩)
end
end Go.Proofs.YteedbaejpdjilaaGreat
