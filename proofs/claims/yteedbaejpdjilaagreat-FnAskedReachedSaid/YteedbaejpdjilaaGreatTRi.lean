/- Part of the proof: LawN. -/
import Derived.Test.YteedbaejpdjilaaGreatTRa
set_option linter.all false
set_option maxRecDepth 100000
set_option maxHeartbeats 4000000
namespace Go.Proofs.YteedbaejpdjilaaGreat
open Go.RowKit Tryz
def Bg (n:Nat) (f:Nat->Bool):List Value:=(List.range n).map fun i=>.bool (f i)
theorem Gc (n:Nat) (f:Nat->Bool):(Bg n f).length=n:=by simp[Bg]
theorem LM {n i:Nat} {f:Nat->Bool} (h:i < n):(Bg n f)[i]? =some (.bool (f i)):=by simp[Bg,h]
theorem fL {n c:Nat} {f:Nat->Bool} (h:c < n):(Bg n f).set c (.bool true)=Bg n (fun i=>f i||i==c):=by
 apply List.ext_getElem?;intro i;rw[List.getElem?_set];by_cases hi:i < n
 .rw[LM hi];by_cases hc:c=i
  .subst hc;rw[if_pos rfl,Gc,if_pos hi,LM hi];simp
  .rw[if_neg hc,LM hi];have:(i==c)=false:=by simpa using fun e=>hc e.symm
   rw[this,Bool.or_false]
 .have h1:n<=i:=by omega
  have h2: ∀ g,(Bg n g)[i]? =none:=fun g=>Y6 (by rw[Gc];exact h1);rw[h2,if_neg (by omega),h2]
theorem Z7N {w:World} {lo e size n:Nat} {v:Value} {xs:List Value} (h:Qu w lo e size v n xs) {b t:Nat} (hb:Zq w b t) (hne:t≠e):some b≠v.ownBlock:=fun e'=>hne (Zq.inj hb (h.lt b e'.symm).2.2)
theorem Z9k:(prog.info? 4).map (fun i=>(i.zero,i.size,i.bytes))=some (some (.bool false),1,1):=by kernel_rfl
theorem Z9j:(prog.info? 3).map (fun i=>(i.zero,i.size,i.bytes))=some (some (.int .i64 0),1,8):=by kernel_rfl
theorem qG (n:Nat):(List.replicate n (.bool false):List Value)=Bg n (fun _=>false):=by
 unfold Bg;rw[List.map_const',Zf]
end Go.Proofs.YteedbaejpdjilaaGreat
