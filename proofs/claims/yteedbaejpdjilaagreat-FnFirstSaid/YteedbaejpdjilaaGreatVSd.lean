/- Part of the proof: GrA GrC GrB. -/
import Derived.Test.YteedbaejpdjilaaGreatVQl
import Derived.Test.YteedbaejpdjilaaGreatVRi
import Derived.Test.YteedbaejpdjilaaGreatYQf
import Derived.Laws.CopyOwn
import Derived.StillTailTactics
import Derived.Test.YteedbaejpdjilaaGreatVSc
set_option linter.all false
set_option maxRecDepth 100000
set_option maxHeartbeats 4000000
namespace Go.Proofs.YteedbaejpdjilaaGreat
open Go.RowKit Tryz
section
theorem Z5l {w:World} {base e n g:Nat} {xs:List Value} (h:w.ownsRow base e 1 (.slice (some ⟨g,0,none⟩) n n) n xs):ZD w g xs e/\base<=g:=by
 rcases h.2 with⟨h0,_⟩ |⟨g',cap,cur,h1,h2,h3,h4,h5,h6,h7⟩
 .cases h0
 .simp only[Value.slice.injEq,Option.some.injEq,Addr.mk.injEq,and_true,true_and]at h1;obtain⟨rfl,rfl⟩:=h1;refine⟨?_,h2⟩;unfold ZD;rw[h3,<-h7];congr 2;rw[List.take_of_length_le (by simp;omega)]
theorem Z4L {w:World} {base e size n:Nat} {v:Value} {xs:List Value} (h:w.ownsRow base e size v n xs):n<=9223372036854775807:=by
 rcases h.2 with⟨_,h⟩ |⟨_,_,_,_,_,_,h1,h2,_⟩
 .omega
 .have:maxLen=9223372036854775807:=by decide
  omega
def Z5a (l:List Int) (W:World) (e:Ending) (w':World):Prop:= ∃ v,e=.returned v/\w'.ownsRow W.heap.size 3 1 v l.length (l.map (Value.int .i64))/\Below W.heap.size W w'
theorem Z5q {w:World} {lo n cap:Nat} {a:Option Addr} {xs:List Int} (h:w.ownsRow lo 3 1 (.slice a n cap) n (xs.map (Value.int .i64))) {k:Nat} (hk:k < xs.length): ∃ b,a=some ⟨b,0,none⟩/\ ∀ j (hj:j < xs.length),w.cell? ⟨b,j,none⟩=some (.int .i64 xs[j]):=by
 have hl:=h.1;rw[Y8]at hl;obtain⟨g,c,e⟩:=XM h (by omega);cases e;refine⟨g,rfl,fun j hj=>?_⟩;rw[ZF h j (by omega),Yt,Z9 hj];rfl
theorem Z4K {w:World} {l1 l2:Nat} {u v:Value} {xs ys:List Int} (hx:w.ownsRow l1 3 1 u xs.length (xs.map (Value.int .i64))) (hy:w.ownsRow l2 3 1 v ys.length (ys.map (Value.int .i64))):Calls prog 48 #[u,v] w fun e w'=> ∃ d:Bool,e=.returned (.bool d)/\(d=true↔xs=ys)/\Below w.heap.size w w':=by
 obtain⟨ua,uc,rfl⟩:=ZR hx;obtain⟨va,vc,rfl⟩:=ZR hy;have hmx:=Z4L hx;have HX:=Zl hx hy;clear hx hy;obtain⟨nx,hnx⟩: ∃ nx,Hid (nx=xs.length):=⟨_,Z5 rfl⟩
 obtain⟨ny0x,hny⟩: ∃ ny0x,Hid (ny0x=ys.length):=⟨_,Z5 rfl⟩
 rw[<-hnx.out]at hmx;rw[<-hnx.out,<-hny.out]at HX ⊢;go_enter func48,ntmps48;by_cases hl:nx=ny0x
 .subst hl;go_wp2_with fail
  go_loopw [13] (fun ix wr=> ∃ k:Nat,ix=.int .i64 k/\k<=nx/\(∀ i,i < k->xs[i]? =ys[i]?)/\Below w.heap.size w wr) (fun ix _=>nx -(intOf ix).toNat)
  case atStart=>exact⟨0,rfl,by omega,fun i hi=>by omega,ZN _ _⟩
  case round=>
   obtain⟨k,rfl,hk,hsm,hbw⟩:=hrel;have HR:=Zl hsm hbw;by_cases hkl:k < nx
   .obtain⟨bx,rfl,cx0x⟩:=Z5q HX.out.1 (k:=k) (by have:=hnx.out;omega);obtain⟨by',rfl,cy0x⟩:=Z5q HX.out.2 (k:=k) (by have:=hny.out;omega);have e1:=(hbw.cell (p:=⟨bx,k,none⟩) (HX.out.1.lt bx rfl).2).trans (cx0x k (by have:=hnx.out;omega));have e2:=(hbw.cell (p:=⟨by',k,none⟩) (HX.out.2.lt by' rfl).2).trans (cy0x k (by have:=hny.out;omega));have g1:=Z5 (Z9 (l:=xs) (i:=k) (by have:=hnx.out;omega));have g2:=Z5 (Z9 (l:=ys) (i:=k) (by have:=hny.out;omega));generalize xs[k]'(_)=x at*;generalize ys[k]'(_)=y at*;clear cx0x cy0x hsm hbw;by_cases e:x=y
    .subst e;go_wp2_with fail
     go_quiet (fail)
     go_wp2_with fail
     refine⟨⟨k+1,by simp,by omega,fun i hi=>?_,YE HR.out.2 _⟩,by simp[intOf];omega⟩;by_cases h:i < k
     .exact HR.out.1 i h
     .obtain rfl:i=k:=by omega
      rw[g1.out,g2.out]
    .have hne:(x !=y)=true:=by simp[e]
     have he:=Z5 e;clear e;go_wp2_with fail
     go_quiet (fail)
     go_wp2_with fail
     go_ret;refine⟨false,rfl,⟨fun h=>by simp at h,fun h=>?_⟩,YE HR.out.2 _⟩;have h1:=g1.out;rw[h,g2.out]at h1;simp at h1;exact absurd h1.symm he.out
   .have hke:=Z5 (show k=nx by omega);clear hsm hbw;go_wp2_with fail
    go_ret;refine⟨true,rfl,⟨fun _=>List.ext_getElem? (fun i=>?_),fun _=>rfl⟩,HR.out.2⟩;by_cases h:i < nx
    .exact HR.out.1 i (by have:=hke.out;omega)
    .rw[Y6 (by have:=hnx.out;omega),Y6 (by have:=hny.out;omega)]
 .have hne:((nx:Int)!=ny0x)=true:=by simp;omega
  have hl:=Z5 hl;go_wp2_with fail
  go_ret;refine⟨false,rfl,⟨fun h=>by simp at h,fun h=>?_⟩,ZN _ _⟩;exact absurd (by rw[hnx.out,hny.out,h]) hl.out
end
section
theorem Z4J {x:Int} : ∀ {a:Nat} {L:List Int},a<=L.length->(∀ i (h:i < L.length),i < a->L[i] < x)->(∀ (h:a < L.length),¬ L[a] < x)->L.takeWhile (· < x)=L.take a/\L.dropWhile (· < x)=L.drop a:=by
 intro a
 induction a with
 |zero=>
  intro L _ _ h2;cases L with
  |nil=>simp
  |cons y L=>
   have:=h2 (by simp);simp only[List.getElem_cons_zero]at this;rw[List.takeWhile_cons_of_neg (by simpa using this),List.dropWhile_cons_of_neg (by simpa using this)];simp
 |succ a ih=>
  intro L ha h1 h2;cases L with
  |nil=>simp at ha
  |cons y L=>
   have h0:=h1 0 (by simp) (by omega);simp only[List.getElem_cons_zero]at h0;obtain⟨i1,i2⟩:=ih (L:=L) (by simpa using ha) (fun i h hi=>h1 (i+1) (by rw[ZJ];omega) (by omega)) (fun h=>h2 (by rw[ZJ];omega));rw[List.takeWhile_cons_of_pos (by simpa using h0),List.dropWhile_cons_of_pos (by simpa using h0),i1,i2];simp
theorem Z4U {x:Int} {a:Nat} {L:List Int} (h1: ∀ i (h:i < L.length),i < a->L[i] < x) (ha:a < L.length) (he:L[a]=x):JU x L=L:=by
 obtain⟨e1,e2⟩:=Z4J (x:=x) (Nat.le_of_lt ha) h1 (fun h=>by omega);unfold JU;rw[e1,e2,if_pos,List.take_append_drop];rw[List.drop_eq_getElem_cons ha,List.head?_cons,he]
theorem Z49 {x:Int} {a:Nat} {L:List Int} (ha:a<=L.length) (h1: ∀ i (h:i < L.length),i < a->L[i] < x) (h2: ∀ (h:a < L.length),x < L[a]):JU x L=L.take a++x::L.drop a:=by
 obtain⟨e1,e2⟩:=Z4J (x:=x) ha h1 (fun h=>by have:=h2 h;omega);unfold JU;rw[e1,e2,if_neg];intro h;by_cases hl:a < L.length
 .rw[List.drop_eq_getElem_cons hl,List.head?_cons]at h;have:=h2 hl;simp only[Option.some.injEq]at h;omega
 .rw[List.drop_eq_nil_of_le (by omega)]at h;simp at h
theorem Z5g {xs:List Int} {k:Nat} {x:Int} (h:xs[k]? =some x):qL (xs.take (k+1))=JU x (qL (xs.take k)):=by
 unfold qL;rw[List.take_add_one,h,List.foldl_append];rfl
theorem Z4I (x:Int) (L:List Int):(JU x L).length<=L.length+1:=by
 have h:=congrArg List.length (take_drop x L);unfold JU;rw[Z4]at h ⊢;split
 .omega
 .simp only[ZJ];omega
theorem Z4H: ∀ (xs:List Int) (k:Nat),(qL (xs.take k)).length<=k:=by
 intro xs k
 induction k with
 |zero=>simp[qL]
 |succ k ih=>
  cases h:xs[k]? with
  |none=>
   have h1:xs.length<=k:=by simpa using h
   rw[List.take_of_length_le (by omega),<-List.take_of_length_le h1];omega
  |some x=>
   rw[Z5g h];have:=Z4I x (qL (xs.take k));omega
theorem Z4T {α:Type} (V R:List α) (z x:α) {a:Nat} (ha:a<=V.length):((splice (V++z::R) (a+1) (V.drop a)).set a x).take (V.length+1)=V.take a++x::V.drop a/\((splice (V++z::R) (a+1) (V.drop a)).set a x).length=V.length+(R.length+1):=by
 have hl:(V.drop a).length=V.length -a:=List.length_drop;have h1:(V++z::R).take (a+1)=V.take a++ [(V++z::R)[a]'(by simp;omega)]:=by
  rw[<-List.take_append_getElem (by simp;omega),List.take_append_of_le_length ha]
 have h2:(splice (V++z::R) (a+1) (V.drop a)).set a x=V.take a++(x::(V.drop a++R)):=by
  unfold splice;rw[h1,hl,show a+1+(V.length -a)=V.length+1 by omega];rw[ZI,List.set_append_right _ _ (by simp;omega)];have:a -(V.take a).length=0:=by simp;omega
  rw[this];simp
 rw[h2];constructor
 .rw[<-List.cons_append,<-ZI,List.take_append_of_le_length (by simp;omega),List.take_of_length_le (by simp;omega)]
 .simp;omega
theorem Z4V {w:World} {base g n cap:Nat} {V:List Value} {z:Value} (h:w.ownsRow base 3 1 (.slice (some ⟨g,0,none⟩) (n+1) cap) (n+1) (V++ [z])): ∃ R:List Value,ZD w g (V++z::R) 3/\n+1<=cap/\cap<=maxLen/\V.length=n/\n+1+R.length=cap/\base<=g:=by
 have hl:=h.1;simp only[Z4,List.length_singleton]at hl;rcases h.2 with⟨h0,_⟩ |⟨g',cap',cur,h1,h2,h3,h4,h5,h6,h7⟩
 .cases h0
 .simp only[Value.slice.injEq,Option.some.injEq,Addr.mk.injEq,and_true,true_and]at h1;obtain⟨rfl,rfl⟩:=h1;rw[Nat.mul_one]at h7 hl;have e:cur.toList=V++z::cur.toList.drop (n+1):=by
   have:=(List.take_append_drop (n+1) cur.toList).symm;rw[h7,ZI]at this;exact this
  refine⟨cur.toList.drop (n+1),?_,h4,h5,by omega,?_,h2⟩
  .unfold ZD;rw[<-e,h3]
  .rw[List.length_drop,Array.length_toList];omega
theorem Z5d {w:World} {base g cap a:Nat} {L:List Int} {cur:List Value} {x:Int} {l:List Int} (hl:l=L.take a++x::L.drop a) (ha:a<=L.length) (h:ZD w g ((splice (L.map (Value.int .i64)++ .int .i64 0::cur) (a+1) ((L.drop a).map (Value.int .i64))).set a (.int .i64 x)) 3) (h1:L.length+1+cur.length=cap) (hcm:cap<=maxLen) (hb:base<=g):
  w.ownsRow base 3 1 (.slice (some ⟨g,0,none⟩) (L.length+1) cap) l.length (l.map (Value.int .i64)):=by
 obtain⟨e1,e2⟩:=Z4T (L.map (Value.int .i64)) cur (.int .i64 0) (.int .i64 x) (a:=a) (by simpa using ha);rw[<-List.map_drop]at e1 e2;rw[Y8]at e1 e2;have hn:l.length=L.length+1:=by rw[hl];simp;omega
 rw[hn];refine⟨by rw[Y8,hn];omega,.inr ⟨g,cap,_,rfl,hb,h,by omega,hcm,by rw[List.size_toArray,e2];omega,?_⟩⟩;rw[Nat.mul_one,e1,hl];simp
def Z4f (L:List Int) (x:Int) (w0:World) (av:Value) (wx:World):Prop:= ∃ a:Nat,av=.int .i64 a/\a<=L.length/\(∀ i (h:i < L.length),i < a->L[i] < x)/\wx=w0
def Z4e (xs:List Int) (W:World) (ov ix:Value) (wr:World):Prop:= ∃ k:Nat,ix=.int .i64 k/\k<=xs.length/\wr.ownsRow W.heap.size 3 1 ov (qL (xs.take k)).length ((qL (xs.take k)).map (Value.int .i64))/\Below W.heap.size W wr
theorem Z40 {w:World} {lo:Nat} {v:Value} {xs:List Int} (hx:w.ownsRow lo 3 1 v xs.length (xs.map (Value.int .i64))) (hn:xs.length<=900000):Calls prog 36 #[v] w (Z5a (qL xs) w):=by
 obtain⟨va,vc,rfl⟩:=ZR hx;have HX:=Z5 hx;clear hx;go_enter func36,ntmps36;go_wp2_with fail
 go_loopw [3,9] (fun ov ix wr=>Z4e xs w ov ix wr) (fun _ ix _=>xs.length -(intOf ix).toNat)
 case atStart=>exact⟨0,rfl,by omega,⟨rfl,.inl ⟨rfl,rfl⟩⟩,ZN _ _⟩
 case round=>
  obtain⟨k,rfl,hk,hown,hbw⟩:=hrel;obtain⟨oa,oc,rfl⟩:=ZR hown;have hrl:=Z4H xs k;obtain⟨L,hL⟩: ∃ L,Hid (L=qL (xs.take k)):=⟨_,Z5 rfl⟩
  rw[<-hL.out]at hown hrl ⊢;by_cases hkl:k < xs.length
  .obtain⟨x,hxk⟩: ∃ x,xs[k]? =some x:=⟨_,Z9 hkl⟩
   obtain⟨bx,rfl,cx0x⟩:=Z5q HX.out hkl;have e1:wr.cell? ⟨bx,k,none⟩=some (.int .i64 x):=by
    rw[(hbw.cell (p:=⟨bx,k,none⟩) (HX.out.lt bx rfl).2).trans (cx0x k hkl)];have:=(Z1.1 hxk).2;rw[this]
   have Hxk:=Z5 (Z5g hxk);have HO:=Zl hown hbw;have hsz:=hbw.size;obtain⟨wo,hwo⟩: ∃ wo:World,wo=wr:=⟨_,rfl⟩
   subst hwo;clear cx0x hxk hown hbw;go_wp2_with fail
   go_loopw [6] (fun av wx=>Z4f L x wo av wx) (fun av _=>L.length -(intOf av).toNat)
   case atStart=>exact⟨0,rfl,by omega,fun i h hi=>by omega,rfl⟩
   case round=>
    obtain⟨a,rfl,ha,hls,hwx⟩:=hrel;subst hwx;by_cases hal:a < L.length
    .obtain⟨bo,hbo,cx0x⟩:=Z5q HO.out.1 hal;subst hbo;have e2:=cx0x a hal;obtain⟨y,hy⟩: ∃ y,y=L[a]:=⟨_,rfl⟩
     rw[<-hy]at e2;clear cx0x;by_cases hlt:y < x
     .have hyx:=Z5 hy;have hls:=Z5 hls;clear hy;go_wp2_with fail
      refine⟨⟨a+1,by simp,hal,fun i h hi=>?_,rfl⟩,by simp[intOf];omega⟩;by_cases h':i < a
      .exact hls.out i h h'
      .obtain rfl:i=a:=by omega
       rw[<-hyx.out];exact hlt
     .have hxy:x<=y:=by omega
      clear hlt;by_cases he:y=x
      .have hsame:=Z5 (Z4U hls hal (by rw[<-hy,he]));clear hls hy;subst he;go_wp2_with fail
       refine⟨⟨k+1,by simp,hkl,?_,HO.out.2⟩,by simp[intOf];omega⟩;rw[Hxk.out,<-hL.out,hsame.out];exact HO.out.1
      .have hyx:=Z5 (show x < L[a]by rw[<-hy];omega);have hne:(y==x)=false:=by simpa using he
       clear hy;have hins:=Z5 (Z49 ha hls (fun h=>by exact hyx.out));clear hls;go_wp2_with (at_builtin;go_loud (refine Ze wr rfl _ _ 31 rfl w.heap.size 3 (.int .i64 0) 1 8 underlying31 Z9j rfl (by decide) (by decide) HO.out.1 (by rfl) [.int .i64 0] rfl ?c1 (by rfl) (by omega) hsz ?_))
       case c1=>simp[Value.oneCell']
       intro g6 cap6 w6 hown6 UT VW Mm;obtain⟨cur,hcur,hcap,hcm,hcl,hct,dL⟩:=Z4V hown6;have hb6:=HO.out.2.grown UT hsz (fun x hx=>(HO.out.1.lt x hx).1);have H6:=Wp hcur hcl hct dL hb6;clear hown6 UT VW hcur hcl hct hb6;have hac:a < cap6:=by omega
       go_upto_region 10 with fail
       have hlen:=Z5 (show((L.drop a).map (Value.int .i64)).length=L.length -a by simp);have hcell:=Z5 (show ∀ j v,((L.drop a).map (Value.int .i64))[j]? =some v->w6.cell? ⟨g6,a+j,none⟩=some v by
        intro j v hj;refine H6.out.1.cell (a+j) ?_;have hjl:=ZH hj;rw[hlen.out]at hjl;rw[ZP (by simp;omega)];rw[List.map_drop,List.getElem?_drop]at hj;exact hj)
       have hcl:=Z5 (show(L.map (Value.int .i64)++Value.int .i64 0::cur).length=cap6 by have:=H6.out.2.2.1;simp;omega);have hwr:=IntWalk.i64_in ((a:Int)+1) (by omega);have h0a:(0:Int)<=(a:Int)+1:=by omega
       have h1a:(a:Int)<=(L.length:Int)+1:=by omega
       have hcn: ¬ cap6=a:=by omega
       by_cases hce:cap6=a+1
       .exact absurd hcap (by omega)
       .go_still_tail 7,(by kernel_rfl)
        change wpList _ _ _ _ _ w6.drew;have H6d:=Zl H6.out.1.drew H6.out.2.2.2.2.drew;have hcd:=Z5 (fun j v hj=>(show w6.drew.cell? ⟨g6,a+j,none⟩=some v from hcell.out j v hj));generalize w6.drew=w6d at*;refine wpList_copy_splice rfl (.tmp 45) (.tmp 48) 31 31 rfl 3 underlying31 (by kernel_rfl) _ _ _ _ _ _ (by rfl) (by rfl) g6 (a+1) _ 3 H6d.out.1 ((L.drop a).map (Value.int .i64)) (by rw[hlen.out];simp only[Nat.min_def];first|omega|(split<;>omega)) (fun h=>by first|exact⟨rfl,_,rfl,fun j v hj=>by rw[Addr.add_lit];exact hcd.out j v hj⟩ |(rw[hlen.out]at h;omega)) (by rw[hlen.out,hcl.out];omega) (fun v hv=>by obtain⟨z,_,rfl⟩:=Y2.1 hv;rfl) w.heap.size w H6d.out.2 dL ?_;intro w7 qh hb7;have hB7:=qh.out;have e7:=Z9 (l:=splice (L.map (Value.int .i64)++Value.int .i64 0::cur) (a+1) ((L.drop a).map (Value.int .i64))) (i:=a) (by rw[length_splice _ _ _ (by rw[hlen.out,hcl.out];omega),hcl.out];omega);have c7:=ZD.cell (w:=w7) (b:=g6) (t:=3) hB7 a e7;have f7:=ZD.free (w:=w7) (b:=g6) (t:=3) hB7 a;have H7:=Z5 (ZD.set (w:=w7) (b:=g6) (t:=3) hB7 a (.int .i64 x));have Hb7:=Z5 hb7;generalize(splice (L.map (Value.int .i64)++Value.int .i64 0::cur) (a+1) ((L.drop a).map (Value.int .i64)))[a]'(_)=z7 at c7;clear hB7 e7 hb7 qh;go_wp2_with fail
        refine⟨⟨k+1,by simp,hkl,?_,Hb7.out.setCell dL _⟩,by simp[intOf];omega⟩;rw[Hxk.out,<-hL.out];have h1:=Z5d hins.out ha H7.out H6.out.2.2.1 hcm dL;first|exact h1|(rw[hce]at h1;exact h1)
    .have hal':L.length<=a:=by omega
     clear hal;have hins:=Z5 (Z49 ha hls (fun h=>by omega));clear hls;go_wp2_with (at_builtin;go_loud (refine Ze wr rfl _ _ 31 rfl w.heap.size 3 (.int .i64 0) 1 8 underlying31 Z9j rfl (by decide) (by decide) HO.out.1 (by rfl) [.int .i64 0] rfl ?c1 (by rfl) (by omega) hsz ?_))
     case c1=>simp[Value.oneCell']
     intro g6 cap6 w6 hown6 UT VW Mm;obtain⟨cur,hcur,hcap,hcm,hcl,hct,dL⟩:=Z4V hown6;have hb6:=HO.out.2.grown UT hsz (fun x hx=>(HO.out.1.lt x hx).1);have H6:=Wp hcur hcl hct dL hb6;clear hown6 UT VW hcur hcl hct hb6;have hac:a < cap6:=by omega
     go_upto_region 10 with fail
     have hlen:=Z5 (show((L.drop a).map (Value.int .i64)).length=L.length -a by simp);have hcell:=Z5 (show ∀ j v,((L.drop a).map (Value.int .i64))[j]? =some v->w6.cell? ⟨g6,a+j,none⟩=some v by
      intro j v hj;refine H6.out.1.cell (a+j) ?_;have hjl:=ZH hj;rw[hlen.out]at hjl;rw[ZP (by simp;omega)];rw[List.map_drop,List.getElem?_drop]at hj;exact hj)
     have hcl:=Z5 (show(L.map (Value.int .i64)++Value.int .i64 0::cur).length=cap6 by have:=H6.out.2.2.1;simp;omega);have hwr:=IntWalk.i64_in ((a:Int)+1) (by omega);have h0a:(0:Int)<=(a:Int)+1:=by omega
     have h1a:(a:Int)<=(L.length:Int)+1:=by omega
     have hcn: ¬ cap6=a:=by omega
     by_cases hce:cap6=a+1
     .go_still_tail 7,(by kernel_rfl)
      change wpList _ _ _ _ _ w6.drew;have H6d:=Zl H6.out.1.drew H6.out.2.2.2.2.drew;have hcd:=Z5 (fun j v hj=>(show w6.drew.cell? ⟨g6,a+j,none⟩=some v from hcell.out j v hj));generalize w6.drew=w6d at*;refine wpList_copy_splice rfl (.tmp 45) (.tmp 48) 31 31 rfl 3 underlying31 (by kernel_rfl) _ _ _ _ _ _ (by rfl) (by rfl) g6 (a+1) _ 3 H6d.out.1 ((L.drop a).map (Value.int .i64)) (by rw[hlen.out];simp only[Nat.min_def];first|omega|(split<;>omega)) (fun h=>by first|exact⟨rfl,_,rfl,fun j v hj=>by rw[Addr.add_lit];exact hcd.out j v hj⟩ |(rw[hlen.out]at h;omega)) (by rw[hlen.out,hcl.out];omega) (fun v hv=>by obtain⟨z,_,rfl⟩:=Y2.1 hv;rfl) w.heap.size w H6d.out.2 dL ?_;intro w7 qh hb7;have hB7:=qh.out;have e7:=Z9 (l:=splice (L.map (Value.int .i64)++Value.int .i64 0::cur) (a+1) ((L.drop a).map (Value.int .i64))) (i:=a) (by rw[length_splice _ _ _ (by rw[hlen.out,hcl.out];omega),hcl.out];omega);have c7:=ZD.cell (w:=w7) (b:=g6) (t:=3) hB7 a e7;have f7:=ZD.free (w:=w7) (b:=g6) (t:=3) hB7 a;have H7:=Z5 (ZD.set (w:=w7) (b:=g6) (t:=3) hB7 a (.int .i64 x));have Hb7:=Z5 hb7;generalize(splice (L.map (Value.int .i64)++Value.int .i64 0::cur) (a+1) ((L.drop a).map (Value.int .i64)))[a]'(_)=z7 at c7;clear hB7 e7 hb7 qh;go_wp2_with fail
      refine⟨⟨k+1,by simp,hkl,?_,Hb7.out.setCell dL _⟩,by simp[intOf];omega⟩;rw[Hxk.out,<-hL.out];have h1:=Z5d hins.out ha H7.out H6.out.2.2.1 hcm dL;first|exact h1|(rw[hce]at h1;exact h1)
     .go_still_tail 7,(by kernel_rfl)
      change wpList _ _ _ _ _ w6.drew;have H6d:=Zl H6.out.1.drew H6.out.2.2.2.2.drew;have hcd:=Z5 (fun j v hj=>(show w6.drew.cell? ⟨g6,a+j,none⟩=some v from hcell.out j v hj));generalize w6.drew=w6d at*;refine wpList_copy_splice rfl (.tmp 45) (.tmp 48) 31 31 rfl 3 underlying31 (by kernel_rfl) _ _ _ _ _ _ (by rfl) (by rfl) g6 (a+1) _ 3 H6d.out.1 ((L.drop a).map (Value.int .i64)) (by rw[hlen.out];simp only[Nat.min_def];first|omega|(split<;>omega)) (fun h=>by first|exact⟨rfl,_,rfl,fun j v hj=>by rw[Addr.add_lit];exact hcd.out j v hj⟩ |(rw[hlen.out]at h;omega)) (by rw[hlen.out,hcl.out];omega) (fun v hv=>by obtain⟨z,_,rfl⟩:=Y2.1 hv;rfl) w.heap.size w H6d.out.2 dL ?_;intro w7 qh hb7;have hB7:=qh.out;have e7:=Z9 (l:=splice (L.map (Value.int .i64)++Value.int .i64 0::cur) (a+1) ((L.drop a).map (Value.int .i64))) (i:=a) (by rw[length_splice _ _ _ (by rw[hlen.out,hcl.out];omega),hcl.out];omega);have c7:=ZD.cell (w:=w7) (b:=g6) (t:=3) hB7 a e7;have f7:=ZD.free (w:=w7) (b:=g6) (t:=3) hB7 a;have H7:=Z5 (ZD.set (w:=w7) (b:=g6) (t:=3) hB7 a (.int .i64 x));have Hb7:=Z5 hb7;generalize(splice (L.map (Value.int .i64)++Value.int .i64 0::cur) (a+1) ((L.drop a).map (Value.int .i64)))[a]'(_)=z7 at c7;clear hB7 e7 hb7 qh;go_wp2_with fail
      refine⟨⟨k+1,by simp,hkl,?_,Hb7.out.setCell dL _⟩,by simp[intOf];omega⟩;rw[Hxk.out,<-hL.out];have h1:=Z5d hins.out ha H7.out H6.out.2.2.1 hcm dL;first|exact h1|(rw[hce]at h1;exact h1)
  .have hke:=Z5 (show k=xs.length by omega);have HO:=Zl hown hbw;clear hown hbw;go_wp2_with fail
   go_ret;have e:qL xs=L:=by rw[hL.out,hke.out,List.take_length]
   rw[e];exact⟨_,rfl,HO.out.1,HO.out.2⟩
end
section
def sp0 (l:List Nat):List Value:=l.flatMap fun b:Nat=> [.int .i64 (b:Int),.int .i64 0]
theorem Z4z (l k:List Nat):sp0 (l++k)=sp0 l++sp0 k:=by simp[sp0]
theorem Z4S (i n:Int) (w:World):Calls prog 35 #[.int .i64 i,.int .i64 n] w fun e w'=>e=.returned (.bool (decide (0<=i/\i < n)))/\w=w':=by
 by_cases h1:0<=i
 .by_cases h2:i < n
  .rw[show decide (0<=i/\i < n)=true by simp[h1,h2]];go_enter func35,ntmps35;go_wp2_with fail
   go_ret;exact⟨by simp,rfl⟩
  .rw[show decide (0<=i/\i < n)=false by simp[h2]];go_enter func35,ntmps35;go_wp2_with fail
   go_ret;exact⟨by simp,rfl⟩
 .rw[show decide (0<=i/\i < n)=false by simp[h1]];go_enter func35,ntmps35;go_wp2_with fail
  go_ret;exact⟨by simp,rfl⟩
theorem Z5f {pl:List Int} {j:Nat} (h: ∀ i,i < j->pl[i]? =some (-1)):(∀ y,pl[j]? =some y->y≠ -1->pl.find? (· ≠ -1)=some y)/\(pl.length<=j->pl.find? (· ≠ -1)=none):=by
 constructor
 .intro y hy hne;obtain⟨hl,he⟩:=Z1.1 hy;rw[List.find?_eq_some_iff_getElem];refine⟨by simpa using hne,j,hl,he,fun i hi=>?_⟩;have:=(Z1.1 (h i hi)).2;simp[this]
 .intro hl;rw[List.find?_eq_none];intro x hx;obtain⟨i,hi,he⟩:=List.getElem_of_mem hx;have:=(Z1.1 (h i (by omega))).2;simp[<-he,this]
def Z4d (G:List Bk) (W:World) (gi gb:Nat) (gv:Value) (k:Nat) (fv tv:Value) (wr:World):Prop:=
 ∃ (seen todo:List Nat) (found:List Int),k=3*(G.length -seen.length)+todo.length/\MG G seen todo found/\wr.ownsRow W.heap.size 3 1 fv found.length (found.map (Value.int .i64))/\Qu wr W.heap.size 112 2 tv todo.length (sp0 todo)/\ZD wr gi (Bg G.length (sees seen)) 4/\Below W.heap.size W wr/\ZD wr gb [gv] 39
def Z4c (pl:List Int) (pb c:Nat) (w0:World) (k:Nat) (wx:World):Prop:=
 ∃ j:Nat,k=pl.length -j/\j<=pl.length/\(∀ i,i < j->pl[i]? =some (-1))/\ZD wx pb [.int .i64 (c:Int),.int .i64 (j:Int)] 112/\Fr [112] pb w0 wx
def Z4b (W:World) (gi gb:Nat) (gv:Value) (bs:List Value) (found:List Int) (fv:Value) (todo ss:List Nat) (tv ix:Value) (wr:World):Prop:=
 ∃ j:Nat,ix=.int .i64 j/\j<=ss.length/\Qu wr W.heap.size 112 2 tv (todo.length+j) (sp0 (todo++ss.take j))/\wr.ownsRow W.heap.size 3 1 fv found.length (found.map (Value.int .i64))/\ZD wr gi bs 4/\Below W.heap.size W wr/\ZD wr gb [gv] 39
theorem Z4G {W w:World} {lo g cap:Nat} {G:List Bk} (hb:Below W.heap.size W w) (hg:qe W lo g (G.mapIdx Bk.pc)) (hf:Few (G.mapIdx Bk.pc)) (hn0:0 < G.length) (hs2: ∀ (i:Nat) k,G[i]? =some k->k.succs.length<=2/\ ∀ s∈k.succs,s < G.length) {v:Value} (hq:Qu w W.heap.size 112 2 v 1 (sp0 [0])):
  Calls prog 73 #[.agg #[.slice (some ⟨g,0,none⟩) G.length cap],v] w fun e w'=> ∃ l v',e=.returned v'/\w'.ownsRow W.heap.size 3 1 v' l.length (l.map (Value.int .i64))/\SG l/\(∀ x,x∈l↔ ∃ m,Vp (blk G) m 0 x)/\Below W.heap.size W w':=by
 obtain⟨gv,hgv⟩: ∃ gv,gv=Value.slice (some ⟨g,0,none⟩) G.length cap:=⟨_,rfl⟩
 have hn:G.length<=100000:=by simpa using hf.1
 have hW:=hb.size;have hb1:Below w.heap.size w (w.alloc (.cells [.slice (some ⟨g,0,none⟩) G.length cap].toArray 39)):=(ZN _ _).alloc (Z7 _) _;have hnb:=ZD.new w [.slice (some ⟨g,0,none⟩) G.length cap] 39;have g0:=hnb.cell 0 rfl;obtain⟨av,cv,rfl⟩:=hq.slice;have hq1:=hq.low hb1 (fun g hg=>(hq.lt g hg).2.1);obtain⟨i0,hi0,hz0,hz1,hz2⟩:=info_parts Z9k;have HG:=Xp hg (hb.trans (hb1.mono hW)) hnb hq1;have HS:=Zl hs2 hf;clear hg hb hb1 hnb hs2 hf hq hq1;go_enter func73,ntmps73;go_wp2_with (at_make;refine wpList_make_full (w.alloc _) rfl _ _ 26 rfl (w.heap.size+1) 4 i0 (.bool false) 1 underlying26 hi0 hz0 hz1 .i64 .i64 _ _ G.length (by rfl) (by rfl) (by simp) (by simp) ?b2 ?b3 (by simp) ?_)
 case b2=>rw[hz2];omega
 case b3=>unfold maxLen;omega
 intro w2 hq2 hg2;obtain⟨hb2,_⟩:=Z5l hq2;rw[toList_madeCells_one,qG]at hb2;have hB2:Below W.heap.size W w2:=HG.out.2.1.grown hg2 (by simp;omega) (by simp);have hn2:=HG.out.2.2.1.grown hg2 (by simp);have hq3:=HG.out.2.2.2.kept hg2 (by cases(Value.slice av 1 cv).ownBlock<;>simp);have e0:=hn2.cell 0 rfl;have hf0:(fun _:Nat=>false)=sees []:=by funext i;simp[sees]
 rw[hf0]at hb2;have H2:=Xp hb2 hB2 hn2 hq3;clear hq2 hg2 hb2 hB2 hn2 hq3 g0;obtain⟨gi,hgi⟩: ∃ gi:Nat,gi=w.heap.size+1:=⟨_,rfl⟩
 obtain⟨gb,hgb⟩: ∃ gb:Nat,gb=w.heap.size:=⟨_,rfl⟩
 have Z4R:W.heap.size<=gi:=by omega
 have Z3F:W.heap.size<=gb:=by omega
 simp only[<-hgi]at*;clear hgi;simp only[<-hgb]at*;clear hgb;go_wp2_with fail
 go_loopg [6,7] (3*G.length+1) (fun k fv tv wr=>Z4d G W gi gb (.slice (some ⟨g,0,none⟩) G.length cap) k fv tv wr)
 case atStart=>
  exact⟨[],[0],[],by simp,MG.start hn0,⟨rfl,.inl ⟨rfl,rfl⟩⟩,H2.out.2.2.2,H2.out.1,H2.out.2.1,H2.out.2.2.1⟩
 case round=>
  obtain⟨seen,todo,found,hk,hms,hfo,htq,hbk,hbw,Z4y⟩:=hrel;have hsz:=hbw.size;have hgr:=Z4y.cell 0 rfl;obtain⟨Z4s,Z4Q,Z4x⟩:=hms.small;cases todo with
  |nil=>
   obtain⟨ta,tc,rfl⟩:=htq.slice;have HK:=X7 hms hfo hbw;obtain⟨fa,fc,rfl⟩:=ZR hfo;clear hk hms hfo htq hbk hbw Z4y hgr;go_wp2_with fail
   refine(Z40 HK.out.2.1 (by omega)).mono ?_;rintro e w3 ⟨v',rfl,hv,hb3⟩;have H3:=Zl hv hb3;obtain⟨va,vc,rfl⟩:=ZR hv;clear hv hb3;go_wp2_with fail
   go_ret;refine⟨_,_,rfl,Yp H3.out.1 hsz,pQ _,fun x=>?_,HK.out.2.2.trans (H3.out.2.mono hsz)⟩;rw[iW,HK.out.1.met.done x];simp
  |cons c todo=>
   obtain⟨nq,hnq⟩: ∃ nq,nq=todo.length:=⟨_,rfl⟩
   rw[ZJ,<-hnq]at htq Z4Q;have Hnq:=Z5 hnq;obtain⟨gq,off,cq0x,rfl,hcq⟩:=htq.Z9o;obtain⟨fa,fc,rfl⟩:=ZR hfo;have c0:wr.cell? ⟨gq,off,none⟩=some (.int .i64 (c:Int)):=htq.cells 0 (by omega);have c1:wr.cell? ⟨gq,off+1,none⟩=some (.int .i64 0):=htq.cells 1 (by omega);have hgq:=(htq.lt gq rfl).2.1;have hcl:=hms.ok c (.inr List.mem_cons_self);have Z6c:decide ((0:Int)<=c/\(c:Int) < G.length)=true:=by simp;omega
   have hb1:Below wr.heap.size wr (wr.alloc (.cells [.int .i64 (c:Int),.int .i64 0].toArray 112)):=(ZN _ _).alloc (Z7 _) _;have hk1:=ZD.new wr [.int .i64 (c:Int),.int .i64 0] 112;have Z5o:=htq.low hb1 (fun g hg=>(htq.lt g hg).2.1);have hbk1:=U4 hbk hb1;have Z4F:=U4 Z4y hb1;have p0:=hk1.cell 0 rfl;have p1:=hk1.cell 1 rfl;have ci:=hbk1.cell c (LM hcl);have cf:=hbk1.free c;have gr1:=Z4F.cell 0 rfl;have Z3K:=hbk.lt;have H1:=Qd hk hms (own_below hfo hb1 (fun g hg=>(hfo.lt g hg).2)) hbk1 (hbw.trans (hb1.mono hsz)) Z4F;have Hk1:=Z5 hk1;clear hk hms hbk hbw Z4y hb1 hk1 htq hnq hbk1 Z4F hgr hfo;go_upto_region 6 with fail
   go_cut [7]from 17 to 103 (fun tv wx=>wr.alloc (.cells [.int .i64 (c:Int),.int .i64 0].toArray 112)=wx/\ ∃ off' c',tv=.slice (some ⟨gq,off',none⟩) nq c'/\Qu (wr.alloc (.cells [.int .i64 (c:Int),.int .i64 0].toArray 112)) W.heap.size 112 2 tv nq (sp0 todo))
   case first=>
    by_cases hc1:1 < cq0x
    .have hq':=Z5 (Z5o.tail hc1);clear Z5o;go_wp2_with fail
     go_meet;exact⟨rfl,_,_,rfl,hq'.out⟩
    .obtain rfl:cq0x=1:=by omega
     obtain⟨h0,hq'⟩:=Z5o.last;have hq':=Z5 hq';clear Z5o;subst h0;go_wp2_with fail
     go_meet;exact⟨rfl,_,_,rfl,hq'.out⟩
   case rest=>
    obtain⟨rfl,off',c',rfl,Z5o⟩:=hcut;have Htq:=Z5 Z5o;clear Z5o c0 c1;go_wp2_with fail
    refine(Z4S _ _ _).mono ?_;rintro e' w3 ⟨rfl,rfl⟩;rw[Z6c];cases hfi:sees seen c with
    |true=>
     rw[hfi]at ci;have hfi:=Z5 hfi;go_wp2_with fail
     go_roundg (3*(G.length -seen.length)+nq)
     case rel=>exact⟨seen,todo,found,by rw[<-Hnq.out],H1.out.2.1.skip (by have h:=hfi.out;simpa [sees]using h),H1.out.2.2.1,by rw[<-Hnq.out];exact Htq.out,H1.out.2.2.2.1,H1.out.2.2.2.2.1,H1.out.2.2.2.2.2⟩
     case measure=>have h1:=H1.out.1;have h2:=Hnq.out;simp only[ZJ]at h1;omega
    |false=>
     rw[hfi]at ci;have hnm:=Z5 (show c∉seen by have h:=hfi;simpa [sees]using h);obtain⟨ki,hki⟩: ∃ ki,G[c]? =some ki:=⟨_,Z9 hcl⟩
     obtain⟨P,hP⟩: ∃ P,P=ki.pc c:=⟨_,rfl⟩
     have hPc:(G.mapIdx Bk.pc)[c]? =some P:=by rw[List.getElem?_mapIdx,hki,hP];rfl
     have Z3J:P.leaves.length<=100000:=HS.out.2.2 c P hPc;obtain⟨la,lc,sa,sc,hM0⟩:=HG.out.1.pc c P hPc;obtain⟨w2',hw2⟩: ∃ w2',w2'=(wr.alloc (.cells [.int .i64 (c:Int),.int .i64 0].toArray 112)).setCell ⟨gi,c,none⟩ (.bool true):=⟨_,rfl⟩
     have vJ:Fr [4] W.heap.size (wr.alloc (.cells [.int .i64 (c:Int),.int .i64 0].toArray 112)) w2':=by rw[hw2];exact(Fr.refl [4] W.heap.size _).X9 _ _ H1.out.2.2.2.1.ty (by simp) Z4R
     have hset:ZD w2' gi (Bg G.length (sees (seen++ [c]))) 4:=by
      have h:=H1.out.2.2.2.1.set c (.bool true);rw[fL hcl,iz]at h;rw[hw2];exact h
     have hcm:(wr.alloc (.cells [.int .i64 (c:Int),.int .i64 0].toArray 112)).setCell ⟨gi,c,none⟩ (.bool true)=(wr.setCell ⟨gi,c,none⟩ (.bool true)).alloc (.cells [.int .i64 (c:Int),.int .i64 0].toArray 112):=by
      clear H1 HG HS Hk1 Htq;go_simp
     have hB2:Below W.heap.size W w2':=H1.out.2.2.2.2.1.trans vJ.below;rw[hcm]at hw2;have Z4P:w2'.heap.size=wr.heap.size+1:=by rw[hw2];simp
     have hM:=hM0.low hB2 HG.out.1.lt.2;have hlv:=hM0.lv;have hsv:=hM0.sv;obtain⟨d0,d1,d2,d3,d4,d5,d6⟩:=hM.all;have hpk:=Hk1.out.fr vJ (by decide);have Z4r:=Htq.out.fr vJ (by decide);have Z3E:=Qu.BJ H1.out.2.2.1 |>.fr vJ (by decide)
     obtain⟨pl,psu,pi,pv,pk,po,pr⟩:=P;have hpl:pl=ki.Ns:=congrArg Pc.leaves hP;have hps:psu=ki.succs.map (fun s:Nat=>(s:Int)):=congrArg Pc.succs hP;dsimp only at hlv hsv d0 d1 d2 d3 d4 d5 d6 Z3J;have p0':=hpk.cell 0 rfl;have p1':=hpk.cell 1 rfl;have gr2:=(H1.out.2.2.2.2.2.fr vJ (by decide)).cell 0 rfl;obtain⟨w3,hw3⟩: ∃ w3,w3=w2'.alloc (.cells [.slice la pl.length lc,.slice sa psu.length sc,.int .i64 pi,.bool pv,.int .i64 pk,.int .i64 po,.bool pr].toArray 45):=⟨_,rfl⟩
     have hb3:Below w2'.heap.size w2' w3:=by rw[hw3];exact(ZN _ _).alloc (Z7 _) _
     have hbb:ZD w3 (wr.heap.size+1) [.slice la pl.length lc,.slice sa psu.length sc,.int .i64 pi,pv,.int .i64 pk,.int .i64 po,pr] 45:=by rw[hw3,<-Z4P];exact ZD.new w2' _ 45
     have Z4a:=own_below (ZE vJ H1.out.2.2.1 (by decide)) hb3 (fun g hg=>((ZE vJ H1.out.2.2.1 (by decide)).lt g hg).2);have H3:=Ev (U4 hpk hb3) hbb (U4 hset hb3) (hB2.trans (hb3.mono (by omega))) (Z4r.low hb3 (fun g hg=>(Z4r.lt g hg).2.1)) Z4a (U4 (H1.out.2.2.2.2.2.fr vJ (by decide)) hb3);have HP:=Wp hki hpl hps hlv hsv;have Hz3:=Z5 (show w3.heap.size=wr.heap.size+2 by rw[hw3];simp[Z4P]);have Hlt:=Z5 (fun g (hg:(Value.slice (some ⟨gq,off',none⟩) nq c').ownBlock=some g)=>(show g < wr.heap.size by simp[Value.ownBlock]at hg;omega));clear hM hM0 hlv hsv hpk Z4r hset vJ hB2 hb3 hbb hki hpl hps hPc hP hfi Z4P Z4a;have Hw3:=Z5 hw3;subst hw2;go_wp2_with fail
     rw[<-Hw3.out];clear d0 d1 d2 d3 d4 d5 d6 p0' p1' gr2 ci cf p0 p1 gr1;go_loopg [] (pl.length) (fun k wx=>Z4c pl wr.heap.size c w3 k wx)
     case atStart=>exact⟨0,rfl,by omega,fun i hi=>by omega,H3.out.1,Fr.refl _ _ _⟩
     case round=>
      obtain⟨j,hkj,hj,hno,hpb,hfr⟩:=hrel;have x0:=hpb.cell 0 rfl;have x1:=hpb.cell 1 rfl;have x1f:=hpb.free 1;have hbb:=H3.out.2.1.fr hfr (by decide);have b0:=hbb.cell 0 rfl;have b1:=hbb.cell 1 rfl;have Z3D:=hpb.lt;have Z3I:=hfr.size;rw[Hz3.out]at Z3I;have hbx:=H3.out.2.2.2.1.trans (hfr.below.mono hsz);have Z39:=H3.out.2.2.1.fr hfr (by decide);have UT:=H3.out.2.2.2.2.2.2.fr hfr (by decide);have Z4E:=H3.out.2.2.2.2.1.low hfr.below (fun g hg=>Hlt.out g hg);have Z5h:=ZE hfr H3.out.2.2.2.2.2.1 (by decide);have gr6:=UT.cell 0 rfl;have H6:=Z5 (And.intro hkj (And.intro hno (And.intro hpb (And.intro hfr (And.intro hbx (And.intro Z39 (And.intro UT (And.intro Z4E Z5h))))))));clear hkj hno hpb hfr hbb Z39 UT Z4E;by_cases hjl:j < pl.length
      .obtain⟨y,hy⟩: ∃ y,pl[j]? =some y:=⟨_,Z9 hjl⟩
       obtain⟨lb,hlb⟩: ∃ lb,la=some ⟨lb,0,none⟩:=by
        obtain⟨gg,cc,hv⟩:=XM HP.out.2.2.2.1 (by omega);cases hv;exact⟨gg,rfl⟩
       subst hlb;have e1:wr.cell? ⟨lb,j,none⟩=some (.int .i64 y):=by
        have hs':=own_below HP.out.2.2.2.1 hbx (fun k hk=>(HP.out.2.2.2.1.lt k hk).2);rw[ZF hs' j (by omega),Yt,hy];rfl
       have hy:=Z5 hy;by_cases hy1:y= -1
       .subst hy1;have hset:=H6.out.2.2.1.set 1 (.int .i64 ((j:Int)+1));have hfr2:=H6.out.2.2.2.1.X9 (p:=⟨_,1,none⟩) (.int .i64 ((j:Int)+1)) H6.out.2.2.1.ty (by simp) (Z7 _);have HS2:=Zl hset hfr2;clear hset hfr2 hbx Z5h;go_wp2_with fail
        go_roundg (pl.length -(j+1))
        case rel=>
         refine⟨j+1,rfl,hjl,fun i hi=>?_,HS2.out.1,HS2.out.2⟩;by_cases h:i < j
         .exact H6.out.2.1 i h
         .obtain rfl:i=j:=by omega
          exact hy.out
        case measure=>have:=H6.out.1;omega
       .have hne:(y== -1)=false:=by simp[hy1]
        have hy1:=Z5 hy1;obtain⟨fa',fc',hfe⟩: ∃ a' c',Value.slice fa found.length fc=.slice a' found.length c':=⟨_,_,rfl⟩
        have Z38:W.heap.size<=wr.heap.size:=hbx.size;have hbx:=Z5 hbx;have Z5h:=Z5 Z5h;go_wp2_with (at_builtin;refine Ze wr rfl _ _ 31 rfl W.heap.size 3 (.int .i64 0) 1 8 underlying31 Z9j rfl (by decide) (by decide) Z5h.out (by rfl) [.int .i64 y] rfl ?c1 (by rfl) (by omega) Z38 ?_)
        case c1=>simp[Value.oneCell']
        intro g9 c9 w9 h1 h2 h3 h4;have Z37:=H6.out.2.2.2.2.2.2.2.1.kept h2 (.inr (own_ne Z5h.out (H6.out.2.2.2.2.2.2.2.1.lt gq rfl).2.2 (by decide)));have H9:=Wp h1 Z37 (H6.out.2.2.2.2.2.1.grown h2 (own_ne Z5h.out H6.out.2.2.2.2.2.1.ty)) (hbx.out.grown h2 Z38 (fun g hg=>(Z5h.out.lt g hg).1)) (H6.out.2.2.2.2.2.2.1.grown h2 (own_ne Z5h.out H6.out.2.2.2.2.2.2.1.ty));clear h1 h2 h3 h4 Z37;have hf:=Z5 ((Z5f H6.out.2.1).1 y hy.out hy1.out);go_wp2_with fail
        go_roundg (3*(G.length -(seen.length+1))+nq)
        case rel=>
         refine⟨seen++ [c],todo,found++ [y],by simp[Hnq.out],H1.out.2.1.hit hnm.out HP.out.1 (by rw[<-HP.out.2.1];exact hf.out),?_,by rw[<-Hnq.out];exact H9.out.2.1,H9.out.2.2.1,H9.out.2.2.2.1,H9.out.2.2.2.2⟩;have h:=H9.out.1;rw[List.map_append,Z4];exact h
        case measure=>have h1:=H1.out.1;have h2:=Hnq.out;simp only[ZJ]at h1;omega
      .have hje:=Z5 (show j=pl.length by omega);have hf:=Z5 ((Z5f H6.out.2.1).2 (by omega));obtain⟨ss,hss⟩: ∃ ss,Hid (ss=ki.succs):=⟨_,Z5 rfl⟩
       have hsl:psu.length=ss.length:=by rw[HP.out.2.2.1,hss.out];simp
       rw[hsl]at b1;have Z4w:=HP.out.2.2.2.2;rw[HP.out.2.2.1,<-hss.out]at Z4w;simp only[Y8]at Z4w;have hs2:=HS.out.1 c ki HP.out.1;rw[<-hss.out]at hs2;have Hs2:=Z5 hs2;have Z3B:=hs2.1;have HSv:=Z5 Z4w;have hbx:=Z5 hbx;clear Z4w hs2 Z5h hsl;go_wp2_with fail
       go_loopw [7,94] (fun tv ix wx=>Z4b W gi gb (.slice (some ⟨g,0,none⟩) G.length cap) (Bg G.length (sees (seen++ [c]))) found (.slice fa found.length fc) todo ss tv ix wx) (fun _ ix _=>ss.length -(intOf ix).toNat)
       case atStart=>
        obtain⟨_,_,_,_,i5,i6,i7,i8,i90x⟩:=H6.out;exact⟨0,rfl,by omega,by rw[<-Hnq.out];simpa using i8,i90x,i6,i5,i7⟩
       case round=>
        obtain⟨i,rfl,hi,Z5p,Z4q,cm,Z5n,qh⟩:=hrel;obtain⟨ta,tc,rfl⟩:=Z5p.slice;have HQ:=Wp Z5p Z4q cm Z5n qh;by_cases hil:i < ss.length
        .obtain⟨z,hz⟩: ∃ z,ss[i]? =some z:=⟨_,Z9 hil⟩
         obtain⟨sb,hsb⟩: ∃ sb,sa=some ⟨sb,0,none⟩:=by
          obtain⟨gg,cc,hv⟩:=XM HSv.out (by omega);simp only[Value.slice.injEq]at hv;exact⟨gg,hv.1⟩
         subst hsb;have e1:wr.cell? ⟨sb,i,none⟩=some (.int .i64 (z:Int)):=by
          have hs':=own_below HSv.out Z5n (fun k hk=>(HSv.out.lt k hk).2);rw[ZF hs' i (by omega),Yt,Yt,hz];rfl
         have hz:=Z5 hz;have Z4p:W.heap.size<=wr.heap.size:=Z5n.size;have hn7:todo.length+i<=1000000000000:=by have:=Hnq.out;omega
         clear Z5p Z4q cm Z5n qh;go_wp2_with (at_builtin;refine Ig wr rfl _ _ 59 rfl W.heap.size 112 (.agg #[.int .i64 0,.int .i64 0]) 2 16 underlying59 xG rfl (by decide) (by decide) HQ.out.1 (by rfl) [.int .i64 (z:Int),.int .i64 0] rfl ?c1 (by rfl) hn7 Z4p ?_)
         case c1=>simp[Value.oneCell']
         intro a90x c9 w9 h1 h2 h3;obtain⟨i1,i2,i3,i4,i5⟩:=HQ.out;have Z36:=ZE ((Fr.refl [112] W.heap.size _).qJ i1 h2 Z4p (Z7 _) (by decide)) i2 (by decide);have H9:=Wp h1 Z36 (i3.grown h2 (Z7N i1 i3.ty (by decide))) (i4.grown h2 Z4p (fun g hg=>(i1.lt g hg).1)) (i5.grown h2 (Z7N i1 i5.ty (by decide)));clear h1 h2 h3 i1 i2 i3 i4 i5 Z36;go_wp2_with fail
         refine⟨⟨i+1,by simp,hil,?_,H9.out.2.1,H9.out.2.2.1,H9.out.2.2.2.1,H9.out.2.2.2.2⟩,by simp[intOf];omega⟩;have e:sp0 (todo++ss.take (i+1))=sp0 (todo++ss.take i)++ [.int .i64 (z:Int),.int .i64 0]:=by
          rw[List.take_add_one,hz.out,<-ZI,Z4z];rfl
         rw[e];exact H9.out.1
        .have hie:=Z5 (show i=ss.length by omega);clear Z5p Z4q cm Z5n qh;go_wp2_with fail
         have Z48:=Z5 (H1.out.2.1.next hnm.out HP.out.1 (HS.out.1 c ki HP.out.1) (by rw[<-HP.out.2.1];exact hf.out));have Z3H:=Z48.out.small.1;rw[Z4,List.length_singleton]at Z3H;go_roundg (3*(G.length -(seen.length+1))+(nq+ss.length))
         case rel=>
          obtain⟨i1,i2,i3,i4,i5⟩:=HQ.out;have h1:=hie.out;subst h1;rw[List.take_length]at i1;refine⟨seen++ [c],todo++ss,found,by simp[Hnq.out],by rw[hss.out];exact Z48.out,i2,by rw[Z4];exact i1,i3,i4,i5⟩
         case measure=>have h1:=H1.out.1;have h2:=Hnq.out;simp only[ZJ]at h1;omega
theorem Z4Z {w:World} {lo g cap:Nat} {G:List Bk} (hg:qe w lo g (G.mapIdx Bk.pc)) (hf:Few (G.mapIdx Bk.pc)) (hn0:0 < G.length) (hs2: ∀ (i:Nat) k,G[i]? =some k->k.succs.length<=2/\ ∀ s∈k.succs,s < G.length):
  Calls prog 49 #[.agg #[.slice (some ⟨g,0,none⟩) G.length cap]] w fun e w'=> ∃ l v',e=.returned v'/\w'.ownsRow w.heap.size 3 1 v' l.length (l.map (Value.int .i64))/\SG l/\(∀ x,x∈l↔ ∃ m,Vp (blk G) m 0 x)/\Below w.heap.size w w':=by
 have hb1:Below w.heap.size w (w.alloc (.cells [.slice (some ⟨g,0,none⟩) G.length cap].toArray 39)):=(ZN _ _).alloc (Z7 _) _;have g0:=(ZD.new w [.slice (some ⟨g,0,none⟩) G.length cap] 39).cell 0 rfl;have hb2:Below w.heap.size w ((w.alloc (.cells [.slice (some ⟨g,0,none⟩) G.length cap].toArray 39)).alloc (.cells [.int .i64 0,.int .i64 0].toArray 112)):=hb1.alloc (by simp) _
 have hq:Qu ((w.alloc (.cells [.slice (some ⟨g,0,none⟩) G.length cap].toArray 39)).alloc (.cells [.int .i64 0,.int .i64 0].toArray 112)) w.heap.size 112 2 (.slice (some ⟨w.heap.size+1,0,none⟩) 1 1) 1 (sp0 [0]):=
  ⟨rfl,.inr ⟨w.heap.size+1,0,1,_,rfl,Nat.le_succ _,ZD.new' (by simp) [.int .i64 0,.int .i64 0] 112,by decide,by decide,by decide,rfl⟩⟩
 have HC:=Z5 (Z4G (cap:=cap) hb2 hg hf hn0 hs2 hq);clear hb1 hg hf hn0 hs2 hq hb2;go_enter func49,ntmps49;go_wp2_with fail
 refine HC.out.mono ?_;rintro e w3 ⟨l,v',rfl,hv,h1,h2,hb3⟩;obtain⟨av,cv,rfl⟩:=ZR hv;have H3:=Xp hv h1 h2 hb3;clear hv h1 h2 hb3;go_wp2_with fail
 go_ret;exact⟨l,_,rfl,H3.out⟩
end
end Go.Proofs.YteedbaejpdjilaaGreat
