/- Part of the proof: GrA GrC GrB. -/
import Derived.Test.YteedbaejpdjilaaGreatTQl
import Derived.Test.YteedbaejpdjilaaGreatTRi
import Derived.Test.YteedbaejpdjilaaGreatYQf
import Derived.Laws.CopyOwn
import Derived.StillTailTactics
import Derived.Test.YteedbaejpdjilaaGreatTSc
set_option linter.all false
set_option maxRecDepth 100000
set_option maxHeartbeats 4000000
namespace Go.Proofs.YteedbaejpdjilaaGreat
open Go.RowKit Tryz
section
theorem Z5l {w:World} {base e n g:Nat} {xs:List Value} (h:w.ownsRow base e 1 (.slice (some ⟨g,0,none⟩) n n) n xs):ZD w g xs e/\base<=g:=by
 rcases h.2 with⟨h0,_⟩ |⟨g',cap,cur,h1,h2,h3,h4,h5,h6,h7⟩
 .cases h0
 .simp only[Value.slice.injEq,Option.some.injEq,Addr.mk.injEq,and_true,true_and]at h1;obtain⟨rfl,rfl⟩:=h1;refine⟨?_,h2⟩;unfold ZD;rw[h3,<-h7];congr 2;rw[List.take_of_length_le (by simp;omega)]
theorem Z4L {w:World} {base e size n:Nat} {v:Value} {xs:List Value} (h:w.ownsRow base e size v n xs):n<=9223372036854775807:=by
 rcases h.2 with⟨_,h⟩ |⟨_,_,_,_,_,_,h1,h2,_⟩
 .omega
 .have:maxLen=9223372036854775807:=by decide
  omega
def Z5a (l:List Int) (W:World) (e:Ending) (w':World):Prop:= ∃ v,e=.returned v/\w'.ownsRow W.heap.size 3 1 v l.length (l.map (Value.int .i64))/\Below W.heap.size W w'
theorem Z5q {w:World} {lo n cap:Nat} {a:Option Addr} {xs:List Int} (h:w.ownsRow lo 3 1 (.slice a n cap) n (xs.map (Value.int .i64))) {k:Nat} (hk:k < xs.length): ∃ b,a=some ⟨b,0,none⟩/\ ∀ j (hj:j < xs.length),w.cell? ⟨b,j,none⟩=some (.int .i64 xs[j]):=by
 have hl:=h.1;rw[Y8]at hl;obtain⟨g,c,e⟩:=XM h (by omega);cases e;refine⟨g,rfl,fun j hj=>?_⟩;rw[ZF h j (by omega),Yt,Z9 hj];rfl
theorem Z4K {w:World} {l1 l2:Nat} {u v:Value} {xs ys:List Int} (hx:w.ownsRow l1 3 1 u xs.length (xs.map (Value.int .i64))) (hy:w.ownsRow l2 3 1 v ys.length (ys.map (Value.int .i64))):Calls prog 48 #[u,v] w fun e w'=> ∃ d:Bool,e=.returned (.bool d)/\(d=true↔xs=ys)/\Below w.heap.size w w':=by
 obtain⟨ua,uc,rfl⟩:=ZR hx;obtain⟨va,vc,rfl⟩:=ZR hy;have hmx:=Z4L hx;have HX:=Zl hx hy;clear hx hy;obtain⟨nx,hnx⟩: ∃ nx,Hid (nx=xs.length):=⟨_,Z5 rfl⟩
 obtain⟨ny0x,hny⟩: ∃ ny0x,Hid (ny0x=ys.length):=⟨_,Z5 rfl⟩
 rw[<-hnx.out]at hmx;rw[<-hnx.out,<-hny.out]at HX ⊢;go_enter func48,ntmps48;by_cases hl:nx=ny0x
 .subst hl;go_wp2_with fail
  go_loopw [13] (fun ix wr=> ∃ k:Nat,ix=.int .i64 k/\k<=nx/\(∀ i,i < k->xs[i]? =ys[i]?)/\Below w.heap.size w wr) (fun ix _=>nx -(intOf ix).toNat)
  case atStart=>exact⟨0,rfl,by omega,fun i hi=>by omega,ZN _ _⟩
  case round=>
   obtain⟨k,rfl,hk,hsm,hbw⟩:=hrel;have HR:=Zl hsm hbw;by_cases hkl:k < nx
   .obtain⟨bx,rfl,cx0x⟩:=Z5q HX.out.1 (k:=k) (by have:=hnx.out;omega);obtain⟨by',rfl,cy0x⟩:=Z5q HX.out.2 (k:=k) (by have:=hny.out;omega);have e1:=(hbw.cell (p:=⟨bx,k,none⟩) (HX.out.1.lt bx rfl).2).trans (cx0x k (by have:=hnx.out;omega));have e2:=(hbw.cell (p:=⟨by',k,none⟩) (HX.out.2.lt by' rfl).2).trans (cy0x k (by have:=hny.out;omega));have g1:=Z5 (Z9 (l:=xs) (i:=k) (by have:=hnx.out;omega));have g2:=Z5 (Z9 (l:=ys) (i:=k) (by have:=hny.out;omega));generalize xs[k]'(_)=x at*;generalize ys[k]'(_)=y at*;clear cx0x cy0x hsm hbw;by_cases e:x=y
    .subst e;go_wp2_with fail
     go_quiet (fail)
     go_wp2_with fail
     refine⟨⟨k+1,by simp,by omega,fun i hi=>?_,YE HR.out.2 _⟩,by simp[intOf];omega⟩;by_cases h:i < k
     .exact HR.out.1 i h
     .obtain rfl:i=k:=by omega
      rw[g1.out,g2.out]
    .have hne:(x !=y)=true:=by simp[e]
     have he:=Z5 e;clear e;go_wp2_with fail
     go_quiet (fail)
     go_wp2_with fail
     go_ret;refine⟨false,rfl,⟨fun h=>by simp at h,fun h=>?_⟩,YE HR.out.2 _⟩;have h1:=g1.out;rw[h,g2.out]at h1;simp at h1;exact absurd h1.symm he.out
   .have hke:=Z5 (show k=nx by omega);clear hsm hbw;go_wp2_with fail
    go_ret;refine⟨true,rfl,⟨fun _=>List.ext_getElem? (fun i=>?_),fun _=>rfl⟩,HR.out.2⟩;by_cases h:i < nx
    .exact HR.out.1 i (by have:=hke.out;omega)
    .rw[Y6 (by have:=hnx.out;omega),Y6 (by have:=hny.out;omega)]
 .have hne:((nx:Int)!=ny0x)=true:=by simp;omega
  have hl:=Z5 hl;go_wp2_with fail
  go_ret;refine⟨false,rfl,⟨fun h=>by simp at h,fun h=>?_⟩,ZN _ _⟩;exact absurd (by rw[hnx.out,hny.out,h]) hl.out
end
section
end
section
end
end Go.Proofs.YteedbaejpdjilaaGreat
