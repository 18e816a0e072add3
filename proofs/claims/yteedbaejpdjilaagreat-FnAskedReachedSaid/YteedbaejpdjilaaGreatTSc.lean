/- Part of the proof: PlcF MetY. -/
import Derived.Test.YteedbaejpdjilaaGreatTRb
import Derived.Test.YteedbaejpdjilaaGreatTQl
set_option linter.all false
set_option maxRecDepth 100000
set_option maxHeartbeats 4000000
namespace Go.Proofs.YteedbaejpdjilaaGreat
open Go.RowKit Tryz
section
theorem qz: ∀ t:T,(∀ N R n i a p,∀ x∈(t.rd.l N R n i a p).ns,x.choices.length<=t.wt/\x.tests.length<=t.wt)/\(∀ sw N0 N R n i j k,((t.rd.c sw N0 N R n i j k).Yn.length<=t.wt/\(t.rd.c sw N0 N R n i j k).tests.length<=t.wt)/\ ∀ x∈(t.rd.c sw N0 N R n i j k).ns,x.choices.length<=t.wt/\x.tests.length<=t.wt):=by
 intro t
 induction t with
 |nil=>exact⟨fun _ _ _ _ _ _ x hx=>by simp[T.rd,Out.none]at hx,fun _ _ _ _ _ _ _ _=>by simp[T.rd]⟩
 |st h b e c tl ih1 ih2 ih3 ih4=>
  refine⟨fun N R n i a p x hx=>?_,fun _ _ _ _ _ _ _ _=>by simp[T.rd]⟩;simp only[T.rd,ZM,ZO]at hx;unfold T.wt;rcases hx with rfl|hx|hx|hx|hx
  .dsimp only;exact⟨ZC (ih3.2 _ _ _ _ _ _ _ _).1.1 (by omega),ZC (ih3.2 _ _ _ _ _ _ _ _).1.2 (by omega)⟩
  .split at hx
   .have:=ih1.1 _ _ _ _ _ _ x hx;omega
   .simp[Out.none]at hx
  .split at hx
   .have:=ih2.1 _ _ _ _ _ _ x hx;omega
   .simp[Out.none]at hx
  .have:=(ih3.2 _ _ _ _ _ _ _ _).2 x hx;omega
  .have:=ih4.1 _ _ _ _ _ _ x hx;omega
 |cl y b tl ih1 ih2=>
  refine⟨fun _ _ _ _ _ _ x hx=>by simp[T.rd,Out.none]at hx,fun sw N0 N R n i j k=>⟨?_,fun x hx=>?_⟩⟩
  .simp only[T.rd,ZJ,Z4,Y8,Zf];unfold T.wt;have h3:(if sw=true then y.toNat else 0)<=y.toNat:=by split<;>omega
   exact⟨ZC (Nat.succ_le_succ (ih2.2 _ _ _ _ _ _ _ _).1.1) (by omega),ZC (Nat.add_le_add_left (ih2.2 _ _ _ _ _ _ _ _).1.2 _) (by omega)⟩
  .simp only[T.rd,ZM]at hx;unfold T.wt;rcases hx with hx|hx
   .have:=ih1.1 _ _ _ _ _ _ x hx;omega
   .have:=(ih2.2 _ _ _ _ _ _ _ _).2 x hx;omega
def Sm (A:Tr):Prop:=A.ls.length<=4000/\A.ns.length<=1000/\A.rs.length<=2001/\ ∀ m:Nat,m < A.ns.length->(A.nd m).choices.length<=1000/\(A.nd m).tests.length<=1000
theorem RB.sm {t:T} {A:Tr} {S S3:BS} {c:Nat} {X:Cx} (R:RB t A S S3 c X):Sm A:=by
 obtain⟨tg,rfl,hs,hf⟩:=R.tr;have hw:=R.rt.wt;obtain⟨l1,l2,l3,_⟩:=(QI t).1 0 1 0 0 0 0;have e1:(t.tr tg).ls=(t.rd.l 0 1 0 0 0 0).ls:=rfl;have e2:(t.tr tg).ns=(t.rd.l 0 1 0 0 0 0).ns:=rfl;have e3:(t.tr tg).rs=⟨-1,-1,(t.rd.l 0 1 0 0 0 0).ids⟩::(t.rd.l 0 1 0 0 0 0).rs:=rfl;refine⟨by rw[e1];omega,by rw[e2];omega,by rw[e3,ZJ];omega,fun m hm=>?_⟩;rw[W8 (Z9 hm)];have:=(qz t).1 0 1 0 0 0 0 _ (List.getElem_mem (l:=(t.tr tg).ns) hm);omega
theorem Sm.nc {A:Tr} (h:Sm A) (n:Nat) (hn:n < A.ns.length):(A.nd n).choices.length<=200000:=by
 have:=(h.2.2.2 n hn).1;omega
theorem Sm.pl {A:Tr} (h:Sm A) {p:Pl} (hp:NY A p):0<=p.op/\p.op<=6/\0<=p.a/\p.a < 10000/\0<=p.b/\p.b < 10000:=by
 obtain⟨h1,h2,h3,h4⟩:=h;obtain⟨o,a,b⟩:=p;rcases hp with⟨e,k1,k2,k3⟩ |⟨e,k1,_,k3⟩ |⟨e,k1,k2,k3⟩ |⟨e,k1,k3⟩ |⟨e,k1,_,k3⟩ |⟨e,k1,k3⟩;all_goals dsimp only at e k1 k3
 all_goals subst e
 all_goals obtain⟨k,rfl,hk⟩:=k1.cast
 .dsimp only at*;omega
 .dsimp only at*;omega
 .have:=h4 k hk;dsimp only at*;omega
 all_goals dsimp only at*;omega
theorem Sm.mv {A:Tr} (h:Sm A) {p:Pl} (hp:NY A p):(A.mv p).1.length<=1001:=by
 unfold Tr.mv;split
 .split
  .simp
  .split<;>simp
 split
 .split<;>simp
 split
 .split<;>simp
 split
 .next h4=>
  unfold Tr.chosen;rcases hp with⟨e,k1,_⟩ |⟨e,k1,_⟩ |⟨e,k1,_⟩ |⟨e,k1,_⟩ |⟨e,k1,_⟩ |⟨e,k1,_⟩;all_goals rw[h4]at e
  all_goals try(exact absurd e (by decide))
  obtain⟨k,hk,hkl⟩:=k1.cast;rw[hk];have:=(h.2.2.2 k hkl).1;simp only[Z4,Y8];split<;>simp<;>omega
 split
 .simp
 .simp
end
section
def PN (b:Bool) (f:Nat->Bool) (x:Int):Prop:=(x= -2/\b=true)\/ ∃ u:Nat,x=u/\f u=true
def xy (n:Nat) (b:Bool) (f:Nat->Bool):List Int:=(if b then [-2]else [])++((List.range n).filter f).map Int.ofNat
theorem By {n:Nat} {b:Bool} {f:Nat->Bool} {x:Int} :x∈xy n b f↔(x= -2/\b=true)\/ ∃ u:Nat,x=u/\u < n/\f u=true:=by
 unfold xy;rw[ZM,Y2];refine or_congr ?_ ⟨fun⟨u,hu,e⟩=>?_,fun⟨u,e,h1,h2⟩=>⟨u,?_,e.symm⟩⟩
 .cases b<;>simp
 .rw[List.mem_filter,List.mem_range]at hu;exact⟨u,e.symm,hu⟩
 .rw[List.mem_filter,List.mem_range];exact⟨h1,h2⟩
theorem EI {n:Nat} {b:Bool} {f:Nat->Bool} :SG (xy n b f):=by
 have h:SG (((List.range n).filter f).map Int.ofNat):=by
  unfold SG;rw[List.pairwise_map];exact(List.pairwise_lt_range.filter f).imp (fun h=>by simpa using h)
 cases b
 .exact h
 .refine List.pairwise_cons.2 ⟨fun y hy=>?_,h⟩;obtain⟨u,_,rfl⟩:=Y2.1 hy;show -2 < (u:Int);omega
theorem iB {A:Tr} (W:Wf A) {F seen:List Pl} (hF: ∀ p∈F,NY A p) {b:Bool} {f:Nat->Bool} (h:Met A.mv F seen [] (PN b f)):xy A.ls.length b f=LN A F:=by
 refine xI EI EO (fun x=>?_);rw[By,Vd W hF,<-h.done];refine or_congr Iff.rfl ⟨fun⟨u,e,_,h2⟩=>⟨u,e,h2⟩,fun⟨u,e,h2⟩=>⟨u,e,?_,h2⟩⟩;obtain⟨p,hp,m,hr⟩:=h.met x (.inr ⟨u,e,h2⟩);rcases W.rch (hF p hp) hr with h3|h3
 .omega
 .have:=h3.2;omega
structure MS (A:Tr) (F seen todo:List Pl) (rec:Int->Prop):Prop where
 met:Met A.mv F seen todo rec
 ok: ∀ p,p∈seen\/p∈todo->NY A p
 len:todo.length<=1+1001*seen.length
theorem EH {x:Int} :PN false (fun _=>false) x↔False:=by simp[PN]
section
variable {A:Tr} {F seen todo:List Pl} {rec rec':Int->Prop}
theorem MS.start (hF: ∀ p∈F,NY A p) (hl:F.length<=1):MS A F [] F (PN false (fun _=>false)):=
 ⟨Met.start.congr (fun _=>EH.symm),fun p hp=>hp.elim (fun h=>by simp at h) (hF p),by simpa using hl⟩
theorem MS.small (h:MS A F seen todo rec) (hs:Sm A):seen.length<=700000000/\todo.length<=700700000001:=by
 have h1:=BN h.met.nodup (fun p hp=>hs.pl (h.ok p (.inl hp)));have h2:=h.len;exact⟨h1,by omega⟩
theorem MS.skip {p:Pl} (h:MS A F seen (p::todo) rec) (hp:p∈seen):MS A F seen todo rec:=
 ⟨h.met.skip hp,fun q hq=>h.ok q (hq.imp id (Z2 _)),by have:=h.len;simp only[ZJ]at this;omega⟩
theorem MS.take {p:Pl} (W:Wf A) (hs:Sm A) (h:MS A F seen (p::todo) rec) (hp:p∉seen) (hr: ∀ x,rec' x↔rec x\/(A.mv p).2=some x):MS A F (seen++ [p]) (todo++(A.mv p).1) rec':=by
 have hpw:=h.ok p (.inr List.mem_cons_self);refine⟨h.met.take hp rfl rfl hr,fun q hq=>?_,?_⟩
 .simp only[ZM,Zk]at hq;rcases hq with(hq|rfl) |hq|hq
  .exact h.ok q (.inl hq)
  .exact hpw
  .exact h.ok q (.inr (Z2 _ hq))
  .exact(W.mv hpw).1 q hq
 .have h1:=h.len;have h2:=hs.mv hpw;simp only[ZJ,Z4,List.length_nil]at h1 ⊢;omega
end
theorem iA {b:Bool} {f:Nat->Bool} {o:Option Int} (ho:o=some (-2)) (x:Int):PN true f x↔PN b f x\/o=some x:=by
 subst ho;simp only[PN,Option.some.injEq];constructor
 .rintro(h|h)
  .exact .inr h.1.symm
  .exact .inl (.inr h)
 .rintro((h|h) |h)
  .exact .inl ⟨h.1,trivial⟩
  .exact .inr h
  .exact .inl ⟨h.symm,trivial⟩
theorem pM {b:Bool} {f:Nat->Bool} {o:Option Int} {u:Nat} (ho:o=some (u:Int)) (x:Int):PN b (fun i=>f i||i==u) x↔PN b f x\/o=some x:=by
 subst ho;simp only[PN,Option.some.injEq,Bool.or_eq_true,beq_iff_eq];constructor
 .rintro(h|⟨v,e,h|h⟩)
  .exact .inl (.inl h)
  .exact .inl (.inr ⟨v,e,h⟩)
  .subst h;exact .inr e.symm
 .rintro((h|⟨v,e,h⟩) |h)
  .exact .inl h
  .exact .inr ⟨v,e,.inl h⟩
  .exact .inr ⟨u,h.symm,.inr rfl⟩
theorem fH {b:Bool} {f:Nat->Bool} {o:Option Int} (ho:o=none) (x:Int):PN b f x↔PN b f x\/o=some x:=by
 subst ho;simp
structure MG (G:List Bk) (seen todo:List Nat) (found:List Int):Prop where
 met:Met (blk G) [0] seen todo (fun x=>x∈found)
 ok: ∀ p,p∈seen\/p∈todo->p < G.length
 len:todo.length<=1+2*seen.length
 few:found.length<=seen.length
section
variable {G:List Bk} {seen todo:List Nat} {found:List Int}
theorem MG.start (h:0 < G.length):MG G [] [0] []:=
 ⟨Met.start.congr (fun x=>by simp),fun p hp=>by simp at hp;omega,by simp,by simp⟩
theorem MG.small (h:MG G seen todo found):seen.length<=G.length/\todo.length<=1+2*G.length/\found.length<=G.length:=by
 have h1:=Qy G.length seen h.met.nodup (fun p hp=>h.ok p (.inl hp));have h2:=h.len;have h3:=h.few;omega
theorem MG.skip {p:Nat} (h:MG G seen (p::todo) found) (hp:p∈seen):MG G seen todo found:=
 ⟨h.met.skip hp,fun q hq=>h.ok q (hq.imp id (Z2 _)),by have:=h.len;simp only[ZJ]at this;omega,h.few⟩
theorem MG.next {p:Nat} {k:Bk} (h:MG G seen (p::todo) found) (hp:p∉seen) (hk:G[p]? =some k) (hs:k.succs.length<=2/\ ∀ s∈k.succs,s < G.length) (hf:k.Ns.find? (· ≠ -1)=none):MG G (seen++ [p]) (todo++k.succs) found:=by
 have hb:blk G p=(k.succs,none):=by simp only[blk,hk,hf]
 refine⟨h.met.take hp (by rw[hb]) (by rw[hb]) (fun x=>by simp),fun q hq=>?_,?_,?_⟩
 .simp only[ZM,Zk]at hq;rcases hq with(hq|rfl) |hq|hq
  .exact h.ok q (.inl hq)
  .exact h.ok q (.inr List.mem_cons_self)
  .exact h.ok q (.inr (Z2 _ hq))
  .exact hs.2 q hq
 .have h1:=h.len;have h2:=hs.1;simp only[ZJ,Z4,List.length_nil]at h1 ⊢;omega
 .have h1:=h.few;simp only[Z4,ZJ,List.length_nil];omega
end
end
end Go.Proofs.YteedbaejpdjilaaGreat
