/- Part of the proof: GrA GrC GrB. -/
import Derived.Test.YteedbaejpdjilaaGreatUQl
import Derived.Test.YteedbaejpdjilaaGreatURi
import Derived.Test.YteedbaejpdjilaaGreatYQf
import Derived.Laws.CopyOwn
import Derived.StillTailTactics
import Derived.Test.YteedbaejpdjilaaGreatUSc
set_option linter.all false
set_option maxRecDepth 100000
set_option maxHeartbeats 4000000
namespace Go.Proofs.YteedbaejpdjilaaGreat
open Go.RowKit Tryz
section
theorem Z5l {w:World} {base e n g:Nat} {xs:List Value} (h:w.ownsRow base e 1 (.slice (some ⟨g,0,none⟩) n n) n xs):ZD w g xs e/\base<=g:=by
 rcases h.2 with⟨h0,_⟩ |⟨g',cap,cur,h1,h2,h3,h4,h5,h6,h7⟩
 .cases h0
 .simp only[Value.slice.injEq,Option.some.injEq,Addr.mk.injEq,and_true,true_and]at h1;obtain⟨rfl,rfl⟩:=h1;refine⟨?_,h2⟩;unfold ZD;rw[h3,<-h7];congr 2;rw[List.take_of_length_le (by simp;omega)]
def Z5a (l:List Int) (W:World) (e:Ending) (w':World):Prop:= ∃ v,e=.returned v/\w'.ownsRow W.heap.size 3 1 v l.length (l.map (Value.int .i64))/\Below W.heap.size W w'
end
section
end
section
end
end Go.Proofs.YteedbaejpdjilaaGreat
