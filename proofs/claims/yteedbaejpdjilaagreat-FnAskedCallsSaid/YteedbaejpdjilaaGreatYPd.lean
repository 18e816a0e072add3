/- Part of the proof: MakeE MakeF MakeG. -/
import Derived.Test.YteedbaejpdjilaaGreatYPc
set_option linter.all false
set_option maxRecDepth 100000
set_option maxHeartbeats 40000000
namespace Go.Proofs.YteedbaejpdjilaaGreat
open Go.RowKit Tryz
section
def Em (h:Hd) (b e c:T) (B b0:Nat) (M:Mk) (w:World) (en:Ending) (w':World):Prop:=
 ∃ u tt pp,en=.returned u/\u=.iface tt pp/\VZ (Hv w' w.heap.size) h M.leaves M.items (b.Ast (Hv w' w.heap.size) 0 (M.leaves+h.own) (M.items+1)) (e.Ast (Hv w' w.heap.size) 0 (M.leaves+h.own+b.lv false) (M.items+1+b.it))
  (fun m'=>c.Ast (Hv w' w.heap.size) m' (M.leaves+h.own+b.lv false+e.lv false) (M.items+1+b.it+e.it)) u/\
 ZZ w' B b0 (M.add (h.own+b.lv false+e.lv false+c.lv (h.kind==13)) (1+b.it+e.it+c.it) ((decide (0 < h.target.size)).toNat+b.ZT+e.ZT+c.ZT) (h.stop++b.stops false++e.stops false++c.stops (h.kind==13)))/\
 Fr [83,4,217] B w w'
theorem El {R:World->Value->World->Prop} (B b0:Nat) (M:Mk) (w:World) (h:ZZ w B b0 M) (hm:M.small 100000) (v1 v2 v3 v4 v5 v6 v7 v8 v9 v10:Value)
  (hL: ∀ w1,ZZ w1 B b0 (M.add 0 1 0 [])->Fr [83] B w w1->w.heap.size<=w1.heap.size->Calls prog 127 #[b0,.agg #[.int .i64 10,v1,v2,v3,v4,v5,v6,v7,v8,v9,v10],.int .i64 (ip M.items)] w1 fun e w'=> ∃ u,e=.returned u/\R w1 u w'):
  Calls prog 109 #[b0,.agg #[.int .i64 10,v1,v2,v3,v4,v5,v6,v7,v8,v9,v10]] w fun e w'=> ∃ w1 u,e=.returned u/\R w1 u w'/\Fr [83] B w w1/\w.heap.size<=w1.heap.size:=by
 have hlt:=h.lt;have HL:=Z5 hL;clear hL;go_enter func109,ntmps109;go_wp2_with fail
 refine(YP B b0 M _ (h.fr (Tt:= []) (B':=B) Fr.au (by simp)) hm).mono ?_;rintro e w1 ⟨rfl,h1,f1⟩;have s1:=f1.size;have YC:ZD w1 w.heap.size _ _:=(ZD.new w [.int .i64 10,v1,v2,v3,v4,v5,v6,v7,v8,v9,v10] 125).fr f1 (by decide);simp at s1;have x0:=YC.cell 0 rfl;have x1:=YC.cell 1 rfl;have x2:=YC.cell 2 rfl;have x3:=YC.cell 3 rfl;have x4:=YC.cell 4 rfl;have x5:=YC.cell 5 rfl;have x6:=YC.cell 6 rfl;have x7:=YC.cell 7 rfl;have x8:=YC.cell 8 rfl;have x9:=YC.cell 9 rfl;have x10:=YC.cell 10 rfl;go_wp2_with fail
 refine(HL.out w1 h1 Fr.au (by omega)).mono ?_;rintro e w2 ⟨u,rfl,hu⟩;go_wp2_with fail
 go_ret;exact⟨w1,_,rfl,hu,Fr.au,by omega⟩
theorem pC {R:World->Value->World->Prop} (B b0:Nat) (M:Mk) (w:World) (h:ZZ w B b0 M) (hm:M.small 100000) (v1 v2 v3 v4 v5 v6 v7 v8 v9 v10:Value)
  (hL: ∀ w1,ZZ w1 B b0 (M.add 0 1 0 [])->Fr [83] B w w1->w.heap.size<=w1.heap.size->Calls prog 127 #[b0,.agg #[.int .i64 11,v1,v2,v3,v4,v5,v6,v7,v8,v9,v10],.int .i64 (ip M.items)] w1 fun e w'=> ∃ u,e=.returned u/\R w1 u w'):
  Calls prog 109 #[b0,.agg #[.int .i64 11,v1,v2,v3,v4,v5,v6,v7,v8,v9,v10]] w fun e w'=> ∃ w1 u,e=.returned u/\R w1 u w'/\Fr [83] B w w1/\w.heap.size<=w1.heap.size:=by
 have hlt:=h.lt;have HL:=Z5 hL;clear hL;go_enter func109,ntmps109;go_wp2_with fail
 refine(YP B b0 M _ (h.fr (Tt:= []) (B':=B) Fr.au (by simp)) hm).mono ?_;rintro e w1 ⟨rfl,h1,f1⟩;have s1:=f1.size;have YC:ZD w1 w.heap.size _ _:=(ZD.new w [.int .i64 11,v1,v2,v3,v4,v5,v6,v7,v8,v9,v10] 125).fr f1 (by decide);simp at s1;have x0:=YC.cell 0 rfl;have x1:=YC.cell 1 rfl;have x2:=YC.cell 2 rfl;have x3:=YC.cell 3 rfl;have x4:=YC.cell 4 rfl;have x5:=YC.cell 5 rfl;have x6:=YC.cell 6 rfl;have x7:=YC.cell 7 rfl;have x8:=YC.cell 8 rfl;have x9:=YC.cell 9 rfl;have x10:=YC.cell 10 rfl;go_wp2_with fail
 refine(HL.out w1 h1 Fr.au (by omega)).mono ?_;rintro e w2 ⟨u,rfl,hu⟩;go_wp2_with fail
 go_ret;exact⟨w1,_,rfl,hu,Fr.au,by omega⟩
theorem pB {R:World->Value->World->Prop} (B b0:Nat) (M:Mk) (w:World) (h:ZZ w B b0 M) (hm:M.small 100000) (v1 v2 v3 v4 v5 v6 v7 v8 v9 v10:Value)
  (hL: ∀ w1,ZZ w1 B b0 (M.add 0 1 0 [])->Fr [83] B w w1->w.heap.size<=w1.heap.size->Calls prog 127 #[b0,.agg #[.int .i64 12,v1,v2,v3,v4,v5,v6,v7,v8,v9,v10],.int .i64 (ip M.items)] w1 fun e w'=> ∃ u,e=.returned u/\R w1 u w'):
  Calls prog 109 #[b0,.agg #[.int .i64 12,v1,v2,v3,v4,v5,v6,v7,v8,v9,v10]] w fun e w'=> ∃ w1 u,e=.returned u/\R w1 u w'/\Fr [83] B w w1/\w.heap.size<=w1.heap.size:=by
 have hlt:=h.lt;have HL:=Z5 hL;clear hL;go_enter func109,ntmps109;go_wp2_with fail
 refine(YP B b0 M _ (h.fr (Tt:= []) (B':=B) Fr.au (by simp)) hm).mono ?_;rintro e w1 ⟨rfl,h1,f1⟩;have s1:=f1.size;have YC:ZD w1 w.heap.size _ _:=(ZD.new w [.int .i64 12,v1,v2,v3,v4,v5,v6,v7,v8,v9,v10] 125).fr f1 (by decide);simp at s1;have x0:=YC.cell 0 rfl;have x1:=YC.cell 1 rfl;have x2:=YC.cell 2 rfl;have x3:=YC.cell 3 rfl;have x4:=YC.cell 4 rfl;have x5:=YC.cell 5 rfl;have x6:=YC.cell 6 rfl;have x7:=YC.cell 7 rfl;have x8:=YC.cell 8 rfl;have x9:=YC.cell 9 rfl;have x10:=YC.cell 10 rfl;go_wp2_with fail
 refine(HL.out w1 h1 Fr.au (by omega)).mono ?_;rintro e w2 ⟨u,rfl,hu⟩;go_wp2_with fail
 go_ret;exact⟨w1,_,rfl,hu,Fr.au,by omega⟩
theorem pA {R:World->Value->World->Prop} (B b0:Nat) (M:Mk) (w:World) (h:ZZ w B b0 M) (hm:M.small 100000) (v1 v2 v3 v4 v5 v6 v7 v8 v9 v10:Value)
  (hL: ∀ w1,ZZ w1 B b0 (M.add 0 1 0 [])->Fr [83] B w w1->w.heap.size<=w1.heap.size->Calls prog 127 #[b0,.agg #[.int .i64 13,v1,v2,v3,v4,v5,v6,v7,v8,v9,v10],.int .i64 (ip M.items)] w1 fun e w'=> ∃ u,e=.returned u/\R w1 u w'):
  Calls prog 109 #[b0,.agg #[.int .i64 13,v1,v2,v3,v4,v5,v6,v7,v8,v9,v10]] w fun e w'=> ∃ w1 u,e=.returned u/\R w1 u w'/\Fr [83] B w w1/\w.heap.size<=w1.heap.size:=by
 have hlt:=h.lt;have HL:=Z5 hL;clear hL;go_enter func109,ntmps109;go_wp2_with fail
 refine(YP B b0 M _ (h.fr (Tt:= []) (B':=B) Fr.au (by simp)) hm).mono ?_;rintro e w1 ⟨rfl,h1,f1⟩;have s1:=f1.size;have YC:ZD w1 w.heap.size _ _:=(ZD.new w [.int .i64 13,v1,v2,v3,v4,v5,v6,v7,v8,v9,v10] 125).fr f1 (by decide);simp at s1;have x0:=YC.cell 0 rfl;have x1:=YC.cell 1 rfl;have x2:=YC.cell 2 rfl;have x3:=YC.cell 3 rfl;have x4:=YC.cell 4 rfl;have x5:=YC.cell 5 rfl;have x6:=YC.cell 6 rfl;have x7:=YC.cell 7 rfl;have x8:=YC.cell 8 rfl;have x9:=YC.cell 9 rfl;have x10:=YC.cell 10 rfl;go_wp2_with fail
 refine(HL.out w1 h1 Fr.au (by omega)).mono ?_;rintro e w2 ⟨u,rfl,hu⟩;go_wp2_with fail
 go_ret;exact⟨w1,_,rfl,hu,Fr.au,by omega⟩
theorem pz {R:World->Value->World->Prop} (B b0:Nat) (M:Mk) (w:World) (h:ZZ w B b0 M) (hm:M.small 100000) (v1 v2 v3 v4 v5 v6 v7 v8 v9 v10:Value)
  (hL: ∀ w1,ZZ w1 B b0 (M.add 0 1 0 [])->Fr [83] B w w1->w.heap.size<=w1.heap.size->Calls prog 127 #[b0,.agg #[.int .i64 14,v1,v2,v3,v4,v5,v6,v7,v8,v9,v10],.int .i64 (ip M.items)] w1 fun e w'=> ∃ u,e=.returned u/\R w1 u w'):
  Calls prog 109 #[b0,.agg #[.int .i64 14,v1,v2,v3,v4,v5,v6,v7,v8,v9,v10]] w fun e w'=> ∃ w1 u,e=.returned u/\R w1 u w'/\Fr [83] B w w1/\w.heap.size<=w1.heap.size:=by
 have hlt:=h.lt;have HL:=Z5 hL;clear hL;go_enter func109,ntmps109;go_wp2_with fail
 refine(YP B b0 M _ (h.fr (Tt:= []) (B':=B) Fr.au (by simp)) hm).mono ?_;rintro e w1 ⟨rfl,h1,f1⟩;have s1:=f1.size;have YC:ZD w1 w.heap.size _ _:=(ZD.new w [.int .i64 14,v1,v2,v3,v4,v5,v6,v7,v8,v9,v10] 125).fr f1 (by decide);simp at s1;have x0:=YC.cell 0 rfl;have x1:=YC.cell 1 rfl;have x2:=YC.cell 2 rfl;have x3:=YC.cell 3 rfl;have x4:=YC.cell 4 rfl;have x5:=YC.cell 5 rfl;have x6:=YC.cell 6 rfl;have x7:=YC.cell 7 rfl;have x8:=YC.cell 8 rfl;have x9:=YC.cell 9 rfl;have x10:=YC.cell 10 rfl;go_wp2_with fail
 refine(HL.out w1 h1 Fr.au (by omega)).mono ?_;rintro e w2 ⟨u,rfl,hu⟩;go_wp2_with fail
 go_ret;exact⟨w1,_,rfl,hu,Fr.au,by omega⟩
theorem py {R:World->Value->World->Prop} (B b0:Nat) (M:Mk) (w:World) (h:ZZ w B b0 M) (hm:M.small 100000) (v1 v2 v3 v4 v5 v6 v7 v8 v9 v10:Value)
  (hL: ∀ w1,ZZ w1 B b0 (M.add 0 1 0 [])->Fr [83] B w w1->w.heap.size<=w1.heap.size->Calls prog 127 #[b0,.agg #[.int .i64 15,v1,v2,v3,v4,v5,v6,v7,v8,v9,v10],.int .i64 (ip M.items)] w1 fun e w'=> ∃ u,e=.returned u/\R w1 u w'):
  Calls prog 109 #[b0,.agg #[.int .i64 15,v1,v2,v3,v4,v5,v6,v7,v8,v9,v10]] w fun e w'=> ∃ w1 u,e=.returned u/\R w1 u w'/\Fr [83] B w w1/\w.heap.size<=w1.heap.size:=by
 have hlt:=h.lt;have HL:=Z5 hL;clear hL;go_enter func109,ntmps109;go_wp2_with fail
 refine(YP B b0 M _ (h.fr (Tt:= []) (B':=B) Fr.au (by simp)) hm).mono ?_;rintro e w1 ⟨rfl,h1,f1⟩;have s1:=f1.size;have YC:ZD w1 w.heap.size _ _:=(ZD.new w [.int .i64 15,v1,v2,v3,v4,v5,v6,v7,v8,v9,v10] 125).fr f1 (by decide);simp at s1;have x0:=YC.cell 0 rfl;have x1:=YC.cell 1 rfl;have x2:=YC.cell 2 rfl;have x3:=YC.cell 3 rfl;have x4:=YC.cell 4 rfl;have x5:=YC.cell 5 rfl;have x6:=YC.cell 6 rfl;have x7:=YC.cell 7 rfl;have x8:=YC.cell 8 rfl;have x9:=YC.cell 9 rfl;have x10:=YC.cell 10 rfl;go_wp2_with fail
 refine(HL.out w1 h1 Fr.au (by omega)).mono ?_;rintro e w2 ⟨u,rfl,hu⟩;go_wp2_with fail
 go_ret;exact⟨w1,_,rfl,hu,Fr.au,by omega⟩
theorem pw {R:World->Value->World->Prop} (B b0:Nat) (M:Mk) (w:World) (h:ZZ w B b0 M) (hm:M.small 100000) (v1 v2 v3 v4 v5 v6 v7 v8 v9 v10:Value)
  (hL: ∀ w1,ZZ w1 B b0 (M.add 0 1 0 [])->Fr [83] B w w1->w.heap.size<=w1.heap.size->Calls prog 127 #[b0,.agg #[.int .i64 16,v1,v2,v3,v4,v5,v6,v7,v8,v9,v10],.int .i64 (ip M.items)] w1 fun e w'=> ∃ u,e=.returned u/\R w1 u w'):
  Calls prog 109 #[b0,.agg #[.int .i64 16,v1,v2,v3,v4,v5,v6,v7,v8,v9,v10]] w fun e w'=> ∃ w1 u,e=.returned u/\R w1 u w'/\Fr [83] B w w1/\w.heap.size<=w1.heap.size:=by
 have hlt:=h.lt;have HL:=Z5 hL;clear hL;go_enter func109,ntmps109;go_wp2_with fail
 refine(YP B b0 M _ (h.fr (Tt:= []) (B':=B) Fr.au (by simp)) hm).mono ?_;rintro e w1 ⟨rfl,h1,f1⟩;have s1:=f1.size;have YC:ZD w1 w.heap.size _ _:=(ZD.new w [.int .i64 16,v1,v2,v3,v4,v5,v6,v7,v8,v9,v10] 125).fr f1 (by decide);simp at s1;have x0:=YC.cell 0 rfl;have x1:=YC.cell 1 rfl;have x2:=YC.cell 2 rfl;have x3:=YC.cell 3 rfl;have x4:=YC.cell 4 rfl;have x5:=YC.cell 5 rfl;have x6:=YC.cell 6 rfl;have x7:=YC.cell 7 rfl;have x8:=YC.cell 8 rfl;have x9:=YC.cell 9 rfl;have x10:=YC.cell 10 rfl;go_wp2_with fail
 refine(HL.out w1 h1 Fr.au (by omega)).mono ?_;rintro e w2 ⟨u,rfl,hu⟩;go_wp2_with fail
 go_ret;exact⟨w1,_,rfl,hu,Fr.au,by omega⟩
theorem Fm.plain {h:Hd} {b e c:T} (hf:Fm h b e c) (hk:h.kind < 10\/16 < h.kind):h.init=false/\h.cond=false/\h.post=false/\h.ZV=false/\b=.nil/\e=.nil/\c=.nil:=by
 have h4:h.ZV=false:=by
  cases hi:h.ZV
  .rfl
  .have:=hf.els hi;omega
 refine⟨?_,?_,?_,h4,hf.nb (by omega) (by omega) (by omega) (by omega),hf.ne h4,hf.nc (by omega) (by omega) (by omega)⟩
 .cases hi:h.init
  .rfl
  .have:=hf.ini hi;omega
 .cases hi:h.cond
  .rfl
  .have:=hf.cnd hi;omega
 .cases hi:h.post
  .rfl
  .have:=hf.Ym hi;omega
def Rc (h:Hd) (b e c:T) (B b0:Nat) (M:Mk) (w:World) (u:Value) (w':World):Prop:=
 VZ (Hv w' w.heap.size) h M.leaves M.items (b.Ast (Hv w' w.heap.size) 0 (M.leaves+h.own) (M.items+1)) (e.Ast (Hv w' w.heap.size) 0 (M.leaves+h.own+b.lv false) (M.items+1+b.it))
  (fun m'=>c.Ast (Hv w' w.heap.size) m' (M.leaves+h.own+b.lv false+e.lv false) (M.items+1+b.it+e.it)) u/\(∃ tt pp,u=.iface tt pp)/\
 ZZ w' B b0 (M.add (h.own+b.lv false+e.lv false+c.lv (h.kind==13)) (1+b.it+e.it+c.it) ((decide (0 < h.target.size)).toNat+b.ZT+e.ZT+c.ZT) (h.stop++b.stops false++e.stops false++c.stops (h.kind==13)))/\
 Fr [83,4,217] B w w'
theorem W6 {h:Hd} {b e c:T} {B b0:Nat} {M:Mk} {w:World} {args:Array Value} (H:Calls prog 109 args w fun en w'=> ∃ w1 u,en=.returned u/\Rc h b e c B b0 M w1 u w'/\Fr [83] B w w1/\w.heap.size<=w1.heap.size):
  Calls prog 109 args w (Em h b e c B b0 M w):=by
 refine H.mono ?_;rintro en w' ⟨w1,u,rfl,⟨h1,⟨tt,pp,rfl⟩,h2,h3⟩,f1,sz⟩;have hm:=Hv.fr (lo:=w1.heap.size) (lo':=w.heap.size) (Fr.refl [] 0 w') (by simp) sz;exact⟨_,tt,pp,rfl,rfl,h1.mono hm (fun _ k=>k.mono hm) (fun _ k=>k.mono hm) (fun _ _ k=>k.mono hm),h2,(f1.mono (by decide) (Z7 _)).trans h3⟩
theorem Ek (h:Hd) (b e c:T) (hf:Fm h b e c) (hb:Yf b) (he:Yf e) (hc1:U9 true c) (hc2:U9 false c) (hc3:PL c) (okb:b.ok) (oke:e.ok) (fd:c.ok)
  (hone: ∀ {H:Hp} {n i:Nat} (es:List Value),h.chain=true->e.Ast H 0 n i es-> ∃ ev,es= [ev]/\ ∃ tt pp,ev=.iface tt pp)
  (B b0:Nat) (M:Mk) (w:World) (vb ve vc:Value) (b1 o1 b2 o2 b3 o3:Nat) (hM:ZZ w B b0 M)
  (hm:(M.add (h.own+b.lv false+e.lv false+c.lv (h.kind==13)) (1+b.it+e.it+c.it) ((decide (0 < h.target.size)).toNat+b.ZT+e.ZT+c.ZT) (h.stop++b.stops false++e.stops false++c.stops (h.kind==13))).small 90000)
  (s1:Zi vb b1 o1 b.len) (a1:b.At (YB w B) true b1 o1) (s2:Zi ve b2 o2 e.len) (a2:e.At (YB w B) true b2 o2) (s3:Zi vc b3 o3 c.len) (a3:c.At (YB w B) false b3 o3):
  Calls prog 109 #[b0,.agg #[.int .i64 h.kind,h.label,h.target,h.init,h.cond,h.post,h.ZV,h.chain,vb,ve,vc]] w (Em h b e c B b0 M w):=by
 have hlt:=hM.lt;have hm0:M.small 90000:=hm.add;have hm1:M.small 100000:=Ye hm0 (by omega);have Hh:(M.add 1 1 1 []).small 100000:=Xf hm0 (by omega) (by omega) (by omega) (by simp);obtain⟨kind,label,target,ini,cnd,Ym,hs,UU⟩:=h;have hk:=hf.k;simp only at hk hm hone ⊢;obtain rfl|rfl|rfl|rfl|rfl|rfl|rfl|rfl|rfl|rfl|rfl|rfl|rfl|rfl|rfl|rfl|rfl|rfl|rfl|rfl|rfl:kind=1\/kind=2\/kind=3\/kind=4\/kind=5\/kind=6\/kind=7\/kind=8\/kind=9\/kind=10\/kind=11\/kind=12\/kind=13\/kind=14\/kind=15\/kind=16\/kind=17\/kind=18\/kind=19\/kind=20\/kind=21:=by omega
 .obtain⟨e1,e2,e3,e4,e5,e6,e7⟩:=hf.plain (by simp);simp only at e1 e2 e3 e4;subst e1 e2 e3 e4 e5 e6 e7;have VX:target.size=0:=by
   rcases ZA target.size with h0|h0
   .exact h0
   .have:=hf.tg h0;simp at this
  refine(fD B b0 M w hM Hh _ _ _ _ _ _ _ _ _ _).mono ?_;rintro e w1 ⟨u,rfl,⟨a,cc,rfl,hu⟩,h1,f1⟩;exact⟨_,_,_,rfl,rfl,.inl ⟨.inl rfl,a,cc,rfl,hu⟩,by simpa [Hd.own,Hd.stop,T.lv,T.it,T.ZT,T.stops,VX]using h1,f1⟩
 .obtain⟨e1,e2,e3,e4,e5,e6,e7⟩:=hf.plain (by simp);simp only at e1 e2 e3 e4;subst e1 e2 e3 e4 e5 e6 e7;have VX:target.size=0:=by
   rcases ZA target.size with h0|h0
   .exact h0
   .have:=hf.tg h0;simp at this
  refine(fC B b0 M w hM Hh _ _ _ _ _ _ _ _ _ _).mono ?_;rintro e w1 ⟨u,rfl,⟨a,cc,rfl,hu⟩,h1,f1⟩;exact⟨_,_,_,rfl,rfl,.inl ⟨.inr rfl,a,cc,rfl,hu⟩,by simpa [Hd.own,Hd.stop,T.lv,T.it,T.ZT,T.stops,VX]using h1,f1⟩
 .obtain⟨e1,e2,e3,e4,e5,e6,e7⟩:=hf.plain (by simp);simp only at e1 e2 e3 e4;subst e1 e2 e3 e4 e5 e6 e7;have VX:target.size=0:=by
   rcases ZA target.size with h0|h0
   .exact h0
   .have:=hf.tg h0;simp at this
  refine(fB B b0 M w hM Hh _ _ _ _ _ _ _ _ _ _).mono ?_;rintro e w1 ⟨u,rfl,⟨a,l,x,r,rfl,hu⟩,h1,f1⟩;exact⟨_,_,_,rfl,rfl,.inr (.inl ⟨rfl,a,l,x,r,rfl,hu⟩),by simpa [Hd.own,Hd.stop,T.lv,T.it,T.ZT,T.stops,VX]using h1,f1⟩
 .obtain⟨e1,e2,e3,e4,e5,e6,e7⟩:=hf.plain (by simp);simp only at e1 e2 e3 e4;subst e1 e2 e3 e4 e5 e6 e7;have VX:target.size=0:=by
   rcases ZA target.size with h0|h0
   .exact h0
   .have:=hf.tg h0;simp at this
  refine(fz B b0 M w hM Hh _ _ _ _ _ _ _ _ _ _).mono ?_;rintro e w1 ⟨u,rfl,⟨a,x,rfl,hu⟩,h1,f1⟩;exact⟨_,_,_,rfl,rfl,.inr (.inr (.inl ⟨rfl,a,x,rfl,hu⟩)),by simpa [Hd.own,Hd.stop,T.lv,T.it,T.ZT,T.stops,VX]using h1,f1⟩
 .obtain⟨e1,e2,e3,e4,e5,e6,e7⟩:=hf.plain (by simp);simp only at e1 e2 e3 e4;subst e1 e2 e3 e4 e5 e6 e7;have VX:target.size=0:=by
   rcases ZA target.size with h0|h0
   .exact h0
   .have:=hf.tg h0;simp at this
  refine(fq B b0 M w hM Hh _ _ _ _ _ _ _ _ _ _).mono ?_;rintro e w1 ⟨u,rfl,⟨a,x,y,rfl,hu⟩,h1,f1⟩;exact⟨_,_,_,rfl,rfl,.inr (.inr (.inr (.inl ⟨rfl,a,x,y,rfl,hu⟩))),by simpa [Hd.own,Hd.stop,T.lv,T.it,T.ZT,T.stops,VX]using h1,f1⟩
 .obtain⟨e1,e2,e3,e4,e5,e6,e7⟩:=hf.plain (by simp);simp only at e1 e2 e3 e4;subst e1 e2 e3 e4 e5 e6 e7;have VX:target.size=0:=by
   rcases ZA target.size with h0|h0
   .exact h0
   .have:=hf.tg h0;simp at this
  refine(fp B b0 M w hM Hh _ _ _ _ _ _ _ _ _ _).mono ?_;rintro e w1 ⟨u,rfl,⟨a,cc,rfl,hu⟩,h1,f1⟩;exact⟨_,_,_,rfl,rfl,.inr (.inr (.inr (.inr (.inl ⟨rfl,a,cc,rfl,hu⟩)))),by simpa [Hd.own,Hd.stop,T.lv,T.it,T.ZT,T.stops,VX]using h1,f1⟩
 .obtain⟨e1,e2,e3,e4,e5,e6,e7⟩:=hf.plain (by simp);simp only at e1 e2 e3 e4;subst e1 e2 e3 e4 e5 e6 e7;have VX:target.size=0:=by
   rcases ZA target.size with h0|h0
   .exact h0
   .have:=hf.tg h0;simp at this
  refine(fk B b0 M w hM Hh _ _ _ _ _ _ _ _ _ _).mono ?_;rintro e w1 ⟨u,rfl,⟨a,cc,rfl,hu⟩,h1,f1⟩;exact⟨_,_,_,rfl,rfl,.inr (.inr (.inr (.inr (.inr (.inl ⟨rfl,a,cc,rfl,hu⟩))))),by simpa [Hd.own,Hd.stop,T.lv,T.it,T.ZT,T.stops,VX]using h1,f1⟩
 .obtain⟨e1,e2,e3,e4,e5,e6,e7⟩:=hf.plain (by simp);simp only at e1 e2 e3 e4;subst e1 e2 e3 e4 e5 e6 e7;have VX:target.size=0:=by
   rcases ZA target.size with h0|h0
   .exact h0
   .have:=hf.tg h0;simp at this
  refine(fi B b0 M w hM Hh _ _ _ _ _ _ _ _ _ _).mono ?_;rintro e w1 ⟨u,rfl,⟨a,g,l,x,rfl,hu⟩,h1,f1⟩;exact⟨_,_,_,rfl,rfl,.inr (.inr (.inr (.inr (.inr (.inr (.inl ⟨rfl,a,g,l,x,rfl,hu⟩)))))),by simpa [Hd.own,Hd.stop,T.lv,T.it,T.ZT,T.stops,VX]using h1,f1⟩
 .obtain⟨e1,e2,e3,e4,e5,e6,e7⟩:=hf.plain (by simp);simp only at e1 e2 e3 e4;subst e1 e2 e3 e4 e5 e6 e7;have VX:target.size=0:=by
   rcases ZA target.size with h0|h0
   .exact h0
   .have:=hf.tg h0;simp at this
  refine(fj B b0 M w hM Hh _ _ _ _ _ _ _ _ _ _).mono ?_;rintro e w1 ⟨u,rfl,⟨a,rfl,hu⟩,h1,f1⟩;exact⟨_,_,_,rfl,rfl,.inr (.inr (.inr (.inr (.inr (.inr (.inr (.inl ⟨rfl,a,rfl,hu⟩))))))),by simpa [Hd.own,Hd.stop,T.lv,T.it,T.ZT,T.stops,VX]using h1,f1⟩
 .have VX:target.size=0:=by
   rcases ZA target.size with h0|h0
   .exact h0
   .have:=hf.tg h0;simp at this
  have MR:cnd=false:=by
   cases hi:cnd
   .rfl
   .have:=hf.cnd hi;simp at this
  subst MR;have Pg:Ym=false:=by
   cases hi:Ym
   .rfl
   .have:=hf.Ym hi;simp at this
  subst Pg;obtain rfl:=hf.nc (by simp) (by simp) (by simp);cases hs
  .obtain rfl:=hf.ne rfl;refine W6 (El B b0 M w hM hm1 _ _ _ _ _ _ _ _ _ _ ?_);intro w1 g1 Vv xx;refine(F1 hb B b0 _ w1 M.items _ _ vb _ _ ini _ _ _ b1 o1 g1 ?_ okb s1 (Yw Vv a1)).mono ?_
   .simpa [Hd.own,Hd.stop,T.lv,T.it,T.ZT,T.stops,T.Yg,Mk.add_add,VX,Z3,Zv 1,Zm]using hm
   .rintro e w2 ⟨a,iv,cv,bk,vs,ev,rfl,q1,q2,q3,q4,q5,q6,q7,q8⟩;exact⟨_,rfl,.inr (.inr (.inr (.inr (.inr (.inr (.inr (.inr (.inl ⟨rfl,a,iv,cv,bk,vs,ev,rfl,q1,q2,q3,q4,by simpa [Hd.own,Mk.add,T.Yg,T.lv,T.it,Z3,Zv 1]using q5,.inl ⟨rfl,q6⟩⟩)))))))),⟨_,_,rfl⟩,by simpa [Hd.own,Hd.stop,T.lv,T.it,T.ZT,T.stops,T.Yg,Mk.add_add,VX,Z3,Zv 1,Zm]using q7,q8⟩
  .cases UU
   .refine W6 (El B b0 M w hM hm1 _ _ _ _ _ _ _ _ _ _ ?_);intro w1 g1 Vv xx;refine(F0 hb he B b0 _ w1 M.items _ _ vb ve _ ini _ _ b1 o1 g1 ?_ okb s1 (Yw Vv a1) b2 o2 oke s2 (Yw Vv a2)).mono ?_
    .simpa [Hd.own,Hd.stop,T.lv,T.it,T.ZT,T.stops,T.Yg,Mk.add_add,VX,Z3,Zv 1,Zm]using hm
    .rintro e w2 ⟨a,iv,cv,bk,vs,ev,rfl,q1,q2,q3,q4,q5,⟨eb,es,q6,q9,q10⟩,q7,q8⟩;exact⟨_,rfl,.inr (.inr (.inr (.inr (.inr (.inr (.inr (.inr (.inl ⟨rfl,a,iv,cv,bk,vs,ev,rfl,q1,q2,q3,q4,by simpa [Hd.own,Mk.add,T.Yg,T.lv,T.it,Z3,Zv 1]using q5,.inr (.inr ⟨rfl,rfl,eb,es,q6,q9,by simpa [Hd.own,Mk.add,T.Yg,T.lv,T.it,Z3,Zv 1]using q10⟩)⟩)))))))),⟨_,_,rfl⟩,by simpa [Hd.own,Hd.stop,T.lv,T.it,T.ZT,T.stops,T.Yg,Mk.add_add,VX,Z3,Zv 1,Zm]using q7,q8⟩
   .refine W6 (El B b0 M w hM hm1 _ _ _ _ _ _ _ _ _ _ ?_);intro w1 g1 Vv xx;refine(FZ hb he (fun es hes=>hone es rfl hes) B b0 _ w1 M.items _ _ vb ve _ ini _ _ b1 o1 g1 ?_ okb s1 (Yw Vv a1) b2 o2 oke s2 (Yw Vv a2)).mono ?_
    .simpa [Hd.own,Hd.stop,T.lv,T.it,T.ZT,T.stops,T.Yg,Mk.add_add,VX,Z3,Zv 1,Zm]using hm
    .rintro e w2 ⟨a,iv,cv,bk,vs,ev,rfl,q1,q2,q3,q4,q5,q6,q7,q8⟩;exact⟨_,rfl,.inr (.inr (.inr (.inr (.inr (.inr (.inr (.inr (.inl ⟨rfl,a,iv,cv,bk,vs,ev,rfl,q1,q2,q3,q4,by simpa [Hd.own,Mk.add,T.Yg,T.lv,T.it,Z3,Zv 1]using q5,.inr (.inl ⟨rfl,rfl,by simpa [Hd.own,Mk.add,T.Yg,T.lv,T.it,Z3,Zv 1]using q6⟩)⟩)))))))),⟨_,_,rfl⟩,by simpa [Hd.own,Hd.stop,T.lv,T.it,T.ZT,T.stops,T.Yg,Mk.add_add,VX,Z3,Zv 1,Zm]using q7,q8⟩
 .have VX:target.size=0:=by
   rcases ZA target.size with h0|h0
   .exact h0
   .have:=hf.tg h0;simp at this
  have e4:hs=false:=by
   cases hi:hs
   .rfl
   .have:=hf.els hi;simp at this
  subst e4;obtain rfl:=hf.ne rfl;obtain rfl:=hf.nc (by simp) (by simp) (by simp);refine W6 (pC B b0 M w hM hm1 _ _ _ _ _ _ _ _ _ _ ?_);intro w1 g1 Vv xx;refine(Eu hb B b0 _ w1 M.items _ _ vb _ _ ini cnd Ym _ _ b1 o1 g1 ?_ okb s1 (Yw Vv a1)).mono ?_
  .simpa [Hd.own,Hd.stop,T.lv,T.it,T.ZT,T.stops,T.Yg,Mk.add_add,VX,Z3,Zv 1]using hm
  .rintro e w2 ⟨a,iv,cv,pv,bk,vs,rfl,q1,q2,q3,q4,q5,q6,q7,q8⟩;exact⟨_,rfl,.inr (.inr (.inr (.inr (.inr (.inr (.inr (.inr (.inr (.inl ⟨rfl,a,iv,cv,pv,bk,vs,rfl,q1,q2,q3,q4,q5,by simpa [Hd.own,Mk.add,T.Yg,T.lv,T.it,Z3,Zv 1]using q6⟩))))))))),⟨_,_,rfl⟩,by simpa [Hd.own,Hd.stop,T.lv,T.it,T.ZT,T.stops,T.Yg,Mk.add_add,VX,Z3,Zv 1]using q7,q8⟩
 .have VX:target.size=0:=by
   rcases ZA target.size with h0|h0
   .exact h0
   .have:=hf.tg h0;simp at this
  have e4:hs=false:=by
   cases hi:hs
   .rfl
   .have:=hf.els hi;simp at this
  subst e4;obtain rfl:=hf.ne rfl;have Ej:ini=false:=by
   cases hi:ini
   .rfl
   .have:=hf.ini hi;simp at this
  subst Ej;have MR:cnd=false:=by
   cases hi:cnd
   .rfl
   .have:=hf.cnd hi;simp at this
  subst MR;have Pg:Ym=false:=by
   cases hi:Ym
   .rfl
   .have:=hf.Ym hi;simp at this
  subst Pg;obtain rfl:=hf.nc (by simp) (by simp) (by simp);refine W6 (pB B b0 M w hM hm1 _ _ _ _ _ _ _ _ _ _ ?_);intro w1 g1 Vv xx;refine(Es hb B b0 _ w1 M.items _ _ vb _ _ _ _ _ _ _ b1 o1 g1 ?_ okb s1 (Yw Vv a1)).mono ?_
  .simpa [Hd.own,Hd.stop,T.lv,T.it,T.ZT,T.stops,T.Yg,Mk.add_add,VX,Z3,Zv 1]using hm
  .rintro e w2 ⟨a,cv,bk,vs,rfl,q1,q3,q5,q6,q7,q8⟩;exact⟨_,rfl,.inr (.inr (.inr (.inr (.inr (.inr (.inr (.inr (.inr (.inr (.inl ⟨rfl,a,cv,bk,vs,rfl,q1,q3,q5,by simpa [Hd.own,Mk.add,T.Yg,T.lv,T.it,Z3,Zv 1]using q6⟩)))))))))),⟨_,_,rfl⟩,by simpa [Hd.own,Hd.stop,T.lv,T.it,T.ZT,T.stops,T.Yg,Mk.add_add,VX,Z3,Zv 1]using q7,q8⟩
 .have VX:target.size=0:=by
   rcases ZA target.size with h0|h0
   .exact h0
   .have:=hf.tg h0;simp at this
  have e4:hs=false:=by
   cases hi:hs
   .rfl
   .have:=hf.els hi;simp at this
  subst e4;obtain rfl:=hf.ne rfl;have Pg:Ym=false:=by
   cases hi:Ym
   .rfl
   .have:=hf.Ym hi;simp at this
  subst Pg;obtain rfl:=hf.nb (by simp) (by simp) (by simp) (by simp);refine W6 (pA B b0 M w hM hm1 _ _ _ _ _ _ _ _ _ _ ?_);intro w1 g1 Vv xx;refine(Er hc1 B b0 _ w1 M.items _ _ _ _ vc ini cnd _ _ _ b3 o3 g1 ?_ fd s3 (Yw Vv a3)).mono ?_
  .simpa [Hd.own,Hd.stop,T.lv,T.it,T.ZT,T.stops,T.Yg,Mk.add_add,VX,Z3,Zv 1]using hm
  .rintro e w2 ⟨a,iv,cv,bk,vs,rfl,q1,q2,q3,q5,q6,q7,q8⟩;exact⟨_,rfl,.inr (.inr (.inr (.inr (.inr (.inr (.inr (.inr (.inr (.inr (.inr (.inl ⟨rfl,a,iv,cv,bk,vs,rfl,q1,q2,q3,q5,by simpa [Hd.own,Mk.add,T.Yg,T.lv,T.it,Z3,Zv 1]using q6⟩))))))))))),⟨_,_,rfl⟩,by simpa [Hd.own,Hd.stop,T.lv,T.it,T.ZT,T.stops,T.Yg,Mk.add_add,VX,Z3,Zv 1]using q7,q8⟩
 .have VX:target.size=0:=by
   rcases ZA target.size with h0|h0
   .exact h0
   .have:=hf.tg h0;simp at this
  have e4:hs=false:=by
   cases hi:hs
   .rfl
   .have:=hf.els hi;simp at this
  subst e4;obtain rfl:=hf.ne rfl;have Pg:Ym=false:=by
   cases hi:Ym
   .rfl
   .have:=hf.Ym hi;simp at this
  subst Pg;have MR:cnd=false:=by
   cases hi:cnd
   .rfl
   .have:=hf.cnd hi;simp at this
  subst MR;obtain rfl:=hf.nb (by simp) (by simp) (by simp) (by simp);refine W6 (pz B b0 M w hM hm1 _ _ _ _ _ _ _ _ _ _ ?_);intro w1 g1 Vv xx;refine(Ep hc2 B b0 _ w1 M.items _ _ _ _ vc ini _ _ _ _ b3 o3 g1 ?_ fd s3 (Yw Vv a3)).mono ?_
  .simpa [Hd.own,Hd.stop,T.lv,T.it,T.ZT,T.stops,T.Yg,Mk.add_add,VX,Z3,Zv 1]using hm
  .rintro e w2 ⟨a,iv,gv,bk,vs,rfl,q1,q2,q3,q5,q6,q7,q8⟩;exact⟨_,rfl,.inr (.inr (.inr (.inr (.inr (.inr (.inr (.inr (.inr (.inr (.inr (.inr (.inl ⟨rfl,a,iv,gv,bk,vs,rfl,q1,q2,q3,q5,by simpa [Hd.own,Mk.add,T.Yg,T.lv,T.it,Z3,Zv 1]using q6⟩)))))))))))),⟨_,_,rfl⟩,by simpa [Hd.own,Hd.stop,T.lv,T.it,T.ZT,T.stops,T.Yg,Mk.add_add,VX,Z3,Zv 1]using q7,q8⟩
 .have VX:target.size=0:=by
   rcases ZA target.size with h0|h0
   .exact h0
   .have:=hf.tg h0;simp at this
  have e4:hs=false:=by
   cases hi:hs
   .rfl
   .have:=hf.els hi;simp at this
  subst e4;obtain rfl:=hf.ne rfl;have Ej:ini=false:=by
   cases hi:ini
   .rfl
   .have:=hf.ini hi;simp at this
  subst Ej;have MR:cnd=false:=by
   cases hi:cnd
   .rfl
   .have:=hf.cnd hi;simp at this
  subst MR;have Pg:Ym=false:=by
   cases hi:Ym
   .rfl
   .have:=hf.Ym hi;simp at this
  subst Pg;obtain rfl:=hf.nb (by simp) (by simp) (by simp) (by simp);refine W6 (py B b0 M w hM hm1 _ _ _ _ _ _ _ _ _ _ ?_);intro w1 g1 Vv xx;refine(Eo hc3 B b0 _ w1 M.items _ _ _ _ vc _ _ _ _ _ b3 o3 g1 ?_ fd s3 (Yw Vv a3)).mono ?_
  .simpa [Hd.own,Hd.stop,T.lv,T.it,T.ZT,T.stops,T.Yg,Mk.add_add,VX,Z3,Zv 1]using hm
  .rintro e w2 ⟨a,bk,vs,rfl,q1,q5,q6,q7,q8⟩;exact⟨_,rfl,.inr (.inr (.inr (.inr (.inr (.inr (.inr (.inr (.inr (.inr (.inr (.inr (.inr (.inl ⟨rfl,a,bk,vs,rfl,q1,q5,by simpa [Hd.own,Mk.add,T.Yg,T.lv,T.it,Z3,Zv 1]using q6⟩))))))))))))),⟨_,_,rfl⟩,by simpa [Hd.own,Hd.stop,T.lv,T.it,T.ZT,T.stops,T.Yg,Mk.add_add,VX,Z3,Zv 1]using q7,q8⟩
 .have VX:target.size=0:=by
   rcases ZA target.size with h0|h0
   .exact h0
   .have:=hf.tg h0;simp at this
  have e4:hs=false:=by
   cases hi:hs
   .rfl
   .have:=hf.els hi;simp at this
  subst e4;obtain rfl:=hf.ne rfl;have Ej:ini=false:=by
   cases hi:ini
   .rfl
   .have:=hf.ini hi;simp at this
  subst Ej;have MR:cnd=false:=by
   cases hi:cnd
   .rfl
   .have:=hf.cnd hi;simp at this
  subst MR;have Pg:Ym=false:=by
   cases hi:Ym
   .rfl
   .have:=hf.Ym hi;simp at this
  subst Pg;obtain rfl:=hf.nc (by simp) (by simp) (by simp);refine W6 (pw B b0 M w hM hm1 _ _ _ _ _ _ _ _ _ _ ?_);intro w1 g1 Vv xx;refine(En hb B b0 _ w1 M.items _ _ vb _ _ _ _ _ _ _ b1 o1 g1 ?_ okb s1 (Yw Vv a1)).mono ?_
  .simpa [Hd.own,Hd.stop,T.lv,T.it,T.ZT,T.stops,T.Yg,Mk.add_add,VX,Z3,Zv 1]using hm
  .rintro e w2 ⟨a,vs,rfl,q5,q6,q7,q8⟩;exact⟨_,rfl,.inr (.inr (.inr (.inr (.inr (.inr (.inr (.inr (.inr (.inr (.inr (.inr (.inr (.inr (.inl ⟨rfl,a,vs,rfl,q5,by simpa [Hd.own,Mk.add,T.Yg,T.lv,T.it,Z3,Zv 1]using q6⟩)))))))))))))),⟨_,_,rfl⟩,by simpa [Hd.own,Hd.stop,T.lv,T.it,T.ZT,T.stops,T.Yg,Mk.add_add,VX,Z3,Zv 1]using q7,q8⟩
 .obtain⟨e1,e2,e3,e4,e5,e6,e7⟩:=hf.plain (by simp);simp only at e1 e2 e3 e4;subst e1 e2 e3 e4 e5 e6 e7;refine(pJ B b0 M w hM Hh _ target _ _ _ _ _ _ _ _).mono ?_;rintro e w1 ⟨u,rfl,⟨a,lv,rfl,hu⟩,h1,f1⟩;exact⟨_,_,_,rfl,rfl,.inr (.inr (.inr (.inr (.inr (.inr (.inr (.inr (.inr (.inr (.inr (.inr (.inr (.inr (.inr (.inl ⟨rfl,a,lv,rfl,hu⟩))))))))))))))),by simpa [Hd.own,Hd.stop,T.lv,T.it,T.ZT,T.stops]using h1,f1⟩
 .obtain⟨e1,e2,e3,e4,e5,e6,e7⟩:=hf.plain (by simp);simp only at e1 e2 e3 e4;subst e1 e2 e3 e4 e5 e6 e7;refine(pI B b0 M w hM Hh _ target _ _ _ _ _ _ _ _).mono ?_;rintro e w1 ⟨u,rfl,⟨a,lv,rfl,hu⟩,h1,f1⟩;exact⟨_,_,_,rfl,rfl,.inr (.inr (.inr (.inr (.inr (.inr (.inr (.inr (.inr (.inr (.inr (.inr (.inr (.inr (.inr (.inr (.inl ⟨rfl,a,lv,rfl,hu⟩)))))))))))))))),by simpa [Hd.own,Hd.stop,T.lv,T.it,T.ZT,T.stops]using h1,f1⟩
 .obtain⟨e1,e2,e3,e4,e5,e6,e7⟩:=hf.plain (by simp);simp only at e1 e2 e3 e4;subst e1 e2 e3 e4 e5 e6 e7;refine(pH B b0 M w hM Hh _ target _ _ _ _ _ _ _ _).mono ?_;rintro e w1 ⟨u,rfl,⟨a,lv,rfl,hu⟩,h1,f1⟩;exact⟨_,_,_,rfl,rfl,.inr (.inr (.inr (.inr (.inr (.inr (.inr (.inr (.inr (.inr (.inr (.inr (.inr (.inr (.inr (.inr (.inr (.inl ⟨rfl,a,lv,rfl,hu⟩))))))))))))))))),by simpa [Hd.own,Hd.stop,T.lv,T.it,T.ZT,T.stops]using h1,f1⟩
 .obtain⟨e1,e2,e3,e4,e5,e6,e7⟩:=hf.plain (by simp);simp only at e1 e2 e3 e4;subst e1 e2 e3 e4 e5 e6 e7;have VX:target.size=0:=by
   rcases ZA target.size with h0|h0
   .exact h0
   .have:=hf.tg h0;simp at this
  refine(pG B b0 M w hM Hh _ _ _ _ _ _ _ _ _ _).mono ?_;rintro e w1 ⟨u,rfl,⟨a,lv,rfl,hu⟩,h1,f1⟩;exact⟨_,_,_,rfl,rfl,.inr (.inr (.inr (.inr (.inr (.inr (.inr (.inr (.inr (.inr (.inr (.inr (.inr (.inr (.inr (.inr (.inr (.inr (.inl ⟨rfl,a,lv,rfl,hu⟩)))))))))))))))))),by simpa [Hd.own,Hd.stop,T.lv,T.it,T.ZT,T.stops,VX]using h1,f1⟩
 .obtain⟨e1,e2,e3,e4,e5,e6,e7⟩:=hf.plain (by simp);simp only at e1 e2 e3 e4;subst e1 e2 e3 e4 e5 e6 e7;have VX:target.size=0:=by
   rcases ZA target.size with h0|h0
   .exact h0
   .have:=hf.tg h0;simp at this
  refine(pF B b0 M w hM Hh _ _ _ _ _ _ _ _ _ _).mono ?_;rintro e w1 ⟨u,rfl,⟨a,rfl,hu⟩,h1,f1⟩;exact⟨_,_,_,rfl,rfl,.inr (.inr (.inr (.inr (.inr (.inr (.inr (.inr (.inr (.inr (.inr (.inr (.inr (.inr (.inr (.inr (.inr (.inr (.inr (⟨rfl,a,rfl,hu⟩))))))))))))))))))),by simpa [Hd.own,Hd.stop,T.lv,T.it,T.ZT,T.stops,VX]using h1,f1⟩
end
section
theorem QU:(prog.info? 96).map (fun i=>(i.zero,i.size,i.bytes))=some (some .nilIface,1,16):=by kernel_rfl
theorem TL {w:World} {lo t:Nat} {v:Value} {xs:List Value} (h:w.ownsRow lo t 1 v xs.length xs) (ht:t∉JH) (hn:xs.length<=2000000) (h0:xs= []->v=.slice none 0 0):NP (Hv w lo) v xs t:=by
 rcases h.2 with⟨hv,hx⟩ |⟨g,cap,cur,hv,hg,hh,hc,hm,hs,hx⟩
 .exact .inl ⟨List.length_eq_zero_iff.1 hx,hv⟩
 .by_cases hx0:xs= []
  .exact .inl ⟨hx0,h0 hx0⟩
  .refine .inr ⟨g,cap,cur.toList.drop xs.length,List.length_pos_iff.2 hx0,hc,hn,hv,hg,ht,?_⟩;unfold ZD;rw[hh];rw[Nat.mul_one]at hx;have:xs++cur.toList.drop xs.length=cur.toList:=by
    conv=>lhs;arg 1;rw[<-hx]
    exact List.take_append_drop _ _
   rw[this]
theorem Za {v:Value} {b o n:Nat} (h:Zi v b o n):(∃ a m c,v=.slice a m c)/\v.oneCell'=true:=by
 rcases h with⟨_,a,c,rfl⟩ |⟨cap,_,_,_,rfl⟩
 .exact⟨⟨_,_,_,rfl⟩,rfl⟩
 .exact⟨⟨_,_,_,rfl⟩,rfl⟩
def pq (t:T) (B b0:Nat) (M:Mk) (w:World) (bb o:Nat) (ov i:Value) (wr:World):Prop:= ∃ (k:Nat) (rest:T) (vs:List Value) (M':Mk),
 i=.int .i64 k/\rest.All Yf/\rest.ok/\rest.At (YB w B) true bb (o+k*11)/\k+rest.len=t.len/\vs.length=k/\
 wr.ownsRow w.heap.size 96 1 ov vs.length vs/\(vs= []->ov=.slice none 0 0)/\ZZ wr B b0 M'/\rest.Yg false M'=t.Yg false M/\Fr [83,4,217] B w wr/\
 ∀ H':Hp,(∀ b cs t,some b≠ov.ownBlock->Hv wr w.heap.size b cs t->H' b cs t)-> ∀ vs',rest.Ast H' 0 M'.leaves M'.items vs'->t.Ast H' 0 M.leaves M.items (vs++vs')
theorem JD {H:Hp} {h:Hd} {n i:Nat} {B E:List Value->Prop} {C:Nat->List Value->Prop} {u:Value} (hu:VZ H h n i B E C u) (hk:h.kind=10): ∃ tt pp,u=.iface tt pp:=by
 unfold VZ at hu;simp[hk]at hu;obtain⟨a,hu,_⟩:=hu;exact⟨_,_,hu⟩
theorem T.TK: ∀ t:T,t.len<=t.it:=by
 intro t
 induction t with
 |nil=>simp[T.len]
 |st h b e c tl _ _ _ ih=>simp[T.len,T.it];omega
 |cl x b tl _ ih=>simp[T.len,T.it];omega
theorem Nl {h:Hd} {b e c:T} (hf:Fm h b e c) (hch:h.chain=true) {H:Hp} {n i:Nat} {es:List Value} (hes:e.Ast H 0 n i es): ∃ ev,es= [ev]/\ ∃ tt pp,ev=.iface tt pp:=by
 obtain⟨_,h',b',e',c',rfl,hk,hl⟩:=hf.ch hch;obtain⟨_,v,vs',rfl,hv,hn⟩:=hes;have hn':vs'= []:=hn;subst hn';rcases hv with⟨_,hv⟩ |⟨hl',_⟩
 .exact⟨v,rfl,JD hv hk⟩
 .omega
theorem WM {M:Mk} {n i l n' i' l' k:Nat} {s s':List Bool} (h:(M.add n i l s).small k) (h1:n'<=n) (h2:i'<=i) (h3:l'<=l) (h4:s'.length<=s.length):(M.add n' i' l' s').small k:=by
 obtain⟨g1,g2,g3,g4,g5⟩:=h;simp[Mk.add]at g1 g2 g3 g4 g5;exact⟨by simp[Mk.add];omega,by simp[Mk.add];omega,by simp[Mk.add];omega,by simp[Mk.add];omega,by simp[Mk.add];omega⟩
theorem Nk {t:T} {B b0:Nat} {M:Mk} {w:World} {bb o k:Nat} {hd:Hd} {b' e' c' tl':T} {vs:List Value} {M':Mk} {ov:Value} {wr:World}
  (Hx:k+(T.st hd b' e' c' tl').len=t.len/\vs.length=k/\(T.st hd b' e' c' tl').Yg false M'=t.Yg false M/\
   (∀ H':Hp,(∀ b cs t,some b≠ov.ownBlock->Hv wr w.heap.size b cs t->H' b cs t)-> ∀ vs',(T.st hd b' e' c' tl').Ast H' 0 M'.leaves M'.items vs'->t.Ast H' 0 M.leaves M.items (vs++vs'))/\(vs= []->ov=.slice none 0 0))
  (q4:tl'.All Yf) (p4:tl'.ok) (a4:tl'.At (YB w B) true bb (o+k*11+11)) {wX:World} (fw:Fr [83,4,217] B w wr) (fX:Fr [83,4,217] B wr wX) (hB:B<=w.heap.size)
  (hownr:wr.ownsRow w.heap.size 96 1 ov vs.length vs) {x:Value}
  (hx:WN (Hv wX wr.heap.size) hd.label (VZ (Hv wX wr.heap.size) hd M'.leaves M'.items (b'.Ast (Hv wX wr.heap.size) 0 (M'.leaves+hd.own) (M'.items+1)) (e'.Ast (Hv wX wr.heap.size) 0 (M'.leaves+hd.own+b'.lv false) (M'.items+1+b'.it))
   (fun m'=>c'.Ast (Hv wX wr.heap.size) m' (M'.leaves+hd.own+b'.lv false+e'.lv false) (M'.items+1+b'.it+e'.it))) x)
  (Ei:ZZ wX B b0 (M'.add (hd.own+b'.lv false+e'.lv false+c'.lv (hd.kind==13)) (1+b'.it+e'.it+c'.it) ((decide (0 < hd.target.size)).toNat+b'.ZT+e'.ZT+c'.ZT+(decide (0 < hd.label.size)).toNat) (hd.stop++b'.stops false++e'.stops false++c'.stops (hd.kind==13))))
  {g cap:Nat} {w3:World} (hown3:w3.ownsRow w.heap.size 96 1 (.slice (some ⟨g,0,none⟩) (vs.length+1) cap) (vs.length+1) (vs++ [x])) (hg:wX.grownBy w3 ov.ownBlock) (hat:ov.ownBlock=some g\/(ov.ownBlock≠some g/\g=wX.heap.size+1)):
  pq t B b0 M w bb o (.slice (some ⟨g,0,none⟩) (vs.length+1) cap) (.int .i64 ((k:Int)+1)) w3:=by
 obtain⟨hlen,hvs,hmk,Yx,hnil⟩:=Hx;have Pf:=ZE fX hownr (by decide);have s1:=fw.size;have s2:=fX.size;have f3:Fr [83,4,217] B w w3:=(fw.trans fX).grown Pf hg (by omega) hB (.inr (fun k hk=>(Pf.lt k hk).1));have hblk: ∀ b cs t,some b≠ov.ownBlock->ZD wX b cs t->ZD w3 b cs t:=fun b cs t hne hb=>hb.grown hg hne;refine⟨k+1,tl',vs++ [x],M'.add (hd.own+b'.lv false+e'.lv false+c'.lv (hd.kind==13)) (1+b'.it+e'.it+c'.it) ((decide (0 < hd.target.size)).toNat+b'.ZT+e'.ZT+c'.ZT+(decide (0 < hd.label.size)).toNat) (hd.stop++b'.stops false++e'.stops false++c'.stops (hd.kind==13)),by simp,q4,p4,by rw[show o+(k+1)*11=o+k*11+11 by omega];exact a4,by simp[T.len]at hlen;omega,by simp;omega,by simpa using hown3,by simp,?_,?_,f3,?_⟩
 .have f4:Fr [96] B wX w3:=(Fr.refl [96] B wX).grown Pf hg (by omega) hB (.inl (by decide));exact Ei.fr f4 (by decide)
 .rw[<-hmk];simp[T.Yg,T.lv,T.it,T.ZT,T.stops,Mk.add_add]
 .intro H' hH' vs' hv';have hold: ∀ b cs t,some b≠ov.ownBlock->Hv wr w.heap.size b cs t->H' b cs t:=by
   intro b cs t hne ⟨h1,h2,h3⟩;have h4:=h3.lt;refine hH' b cs t ?_ ⟨h1,h2,hblk b cs t hne (h3.fr fX (fun hc=>h2 ((by decide: ∀ t∈ [83,4,217],t∈JH) _ hc)))⟩;simp[Value.ownBlock];rcases hat with ha|⟨_,ha⟩
   .intro e';apply hne;rw[ha,e']
   .omega
  have hnew: ∀ b cs t,Hv wX wr.heap.size b cs t->H' b cs t:=by
   intro b cs t ⟨h1,h2,h3⟩;have h4:=h3.lt;have hne:some b≠ov.ownBlock:=by
    intro e';have:=(hownr.lt b e'.symm).2;omega
   refine hH' b cs t ?_ ⟨by omega,h2,hblk b cs t hne h3⟩;simp[Value.ownBlock];rcases hat with ha|⟨_,ha⟩
   .intro e';apply hne;rw[ha,e']
   .omega
  have:=Yx H' hold (x::vs') ⟨rfl,x,vs',rfl,hx.mono hnew (fun u hu=>hu.mono hnew (fun _ k=>k.mono hnew) (fun _ k=>k.mono hnew) (fun _ _ k=>k.mono hnew)),?_⟩
  .simpa using this
  .simpa [Mk.add,Z3,Nat.add_left_comm]using hv'
theorem Eh (hcs: ∀ (c:T) (sw:Bool),c.All Yf->U9 sw c) (hcm: ∀ c:T,c.All Yf->PL c) (t:T) (hall:t.All Yf):Yf t:=by
 intro B b0 M w v bb o h hm hok hs hat;have hlt:=h.lt;obtain⟨av,cv,rfl⟩: ∃ a c,v=.slice a t.len c:=by
  rcases hs with⟨h0,a,c,rfl⟩ |⟨cap,_,_,_,rfl⟩
  .exact⟨a,c,by rw[h0]⟩
  .exact⟨_,_,rfl⟩
 have hlen:t.len<=35184372088832:=by
  rcases hs with⟨h0,_⟩ |⟨cap,_,_,hn,_⟩<;>omega
 have hav:Hid (0 < t.len->av=some ⟨bb,o,none⟩):=by
  intro hp;rcases hs with⟨h0,_⟩ |⟨cap,_,_,_,he⟩
  .omega
  .simp at he;exact he.1
 have htl:t.len<=90000:=by
  have g:=hm.2.1;have:=T.TK t;simp[T.Yg,Mk.add]at g;omega
 have Hm:=Z5 hm;clear hm hs;go_enter func88,ntmps88;go_wp2_with fail
 go_loopw [5,11] (fun ov i wr=>pq t B b0 M w bb o ov i wr) (fun _ i _=>t.len -(intOf i).toNat)
 case atStart=>
  exact⟨0,t,[],M,rfl,hall,hok,by simpa using hat,by simp,rfl,Zs _ _ _ _,fun _=>rfl,h,rfl,Fr.refl _ _ _,fun H' _ vs' hv=>by simpa using hv⟩
 case round=>
  obtain⟨k,rest,vs,M',rfl,XC,hok',hat',hlen',hvs,hown,hnil,hM',hmk,hF,Yx⟩:=hrel;cases rest with
  |nil=>
   have hk: ¬ k < t.len:=by simp[T.len]at hlen';omega
   go_wp2_with fail
   go_ret;exact⟨_,vs,rfl,TL hown (by decide) (by omega) hnil,by simpa using Yx (Hv wr w.heap.size) (fun _ _ _ _ h=>h) [] rfl,by rw[<-hmk];simpa [T.Yg,T.lv,T.it,T.ZT,T.stops,Mk.add_zero]using hM',hF⟩
  |cl x b' tl'=>exact absurd hat'.1 (by simp)
  |st hd b' e' c' tl'=>
   have hk:k < t.len:=by simp[T.len]at hlen';omega
   obtain rfl:=hav.out (by omega);obtain⟨_,vb,b1,o1,ve,b2,o2,vc,b3,o3,hh,s1,a1,s2,a2,s3,a3,a4⟩:=hat';obtain⟨⟨va,vn,vm,rfl⟩,_⟩:=Za s1;obtain⟨⟨iy,iw,iu,rfl⟩,_⟩:=Za s2;obtain⟨⟨iq,ik,ij,rfl⟩,_⟩:=Za s3;have dd: ∀ (j:Nat) (x:Value),YB w B bb (o+k*11+j) x->wr.cell? ⟨bb,o+k*11+j,none⟩=some x:=fun j x hx=>(hF.below.cell (p:=⟨bb,o+k*11+j,none⟩) hx.1).trans hx.2;have d0:=dd 0 _ hh.c0;have d1:=dd 1 _ hh.c1;have d2:=dd 2 _ hh.c2;have d3:=dd 3 _ hh.c3;have d4:=dd 4 _ hh.c4;have d5:=dd 5 _ hh.c5;have d6:=dd 6 _ hh.c6;have d7:=dd 7 _ hh.c7;have d8:=dd 8 _ hh.c8;have d9:=dd 9 _ hh.c9;have d10:=dd 10 _ hh.c10;simp only[Zn]at d0;have Hx:=Wp hlen' hvs hmk Yx hnil;clear dd hlen' hvs hmk Yx hnil
   have hsm:(M'.add (hd.own+b'.lv false+e'.lv false+c'.lv (hd.kind==13)+tl'.lv false) (1+b'.it+e'.it+c'.it+tl'.it) ((decide (0 < hd.target.size)).toNat+b'.ZT+e'.ZT+c'.ZT+(decide (0 < hd.label.size)).toNat+tl'.ZT)
     (hd.stop++b'.stops false++e'.stops false++c'.stops (hd.kind==13)++tl'.stops false)).small 90000:=by
    have g:=Hm.out;rw[<-Hx.out.2.2.1]at g;exact g
   have hvn:vs.length<=90000:=by have:=Hx.out.2.1;omega
   have hbx:=ZD.new wr [.int .i64 hd.kind,hd.label,hd.target,hd.init,hd.cond,hd.post,hd.ZV,hd.chain,.slice va vn vm,.slice iy iw iu,.slice iq ik ij] 125;obtain⟨q1,q2,q3,q4⟩:=XC;obtain⟨p0,p1,p2,p3,p4⟩:=hok';have sr:=hF.size;have hM1:ZZ (wr.alloc (.cells [.int .i64 hd.kind,.string hd.label,.string hd.target,.bool hd.init,.bool hd.cond,.bool hd.post,.bool hd.ZV,.bool hd.chain,.slice va vn vm,.slice iy iw iu,.slice iq ik ij].toArray 125)) B b0 M':=hM'.fr (Tt:= []) (B':=B) Fr.av (by simp);have hF2:Fr [83,4,217] B w (wr.alloc (.cells [.int .i64 hd.kind,.string hd.label,.string hd.target,.bool hd.init,.bool hd.cond,.bool hd.post,.bool hd.ZV,.bool hd.chain,.slice va vn vm,.slice iy iw iu,.slice iq ik ij].toArray 125)):=Fr.av;go_wp2_with fail
   refine(Ek hd b' e' c' p0 q1 q2 (hcs c' true q3) (hcs c' false q3) (hcm c' q3) p1 p2 p3 (fun es hch hes=>?_) B b0 M' _ _ _ _ b1 o1 b2 o2 b3 o3 hM1 ?_ s1 (Yw hF2 a1) s2 (Yw hF2 a2) s3 (Yw hF2 a3)).mono ?_
   .exact Nl p0 hch hes
   .exact WM hsm (by omega) (by omega) (by omega) om
   rintro e w1 ⟨u,tt,pp,rfl,rfl,hcore,hM2,f1⟩;rw[show(wr.alloc (.cells [.int .i64 hd.kind,.string hd.label,.string hd.target,.bool hd.init,.bool hd.cond,.bool hd.post,.bool hd.ZV,.bool hd.chain,.slice va vn vm,.slice iy iw iu,.slice iq ik ij].toArray 125)).heap.size=wr.heap.size+1 by simp]at hcore;have s1':=f1.size;simp at s1';have bx1:=hbx.fr f1 (by decide);have g1:=bx1.cell 1 rfl;have f1':Fr [83,4,217] B wr w1:=Fr.av;have hm1:=Hv.fr (lo:=wr.heap.size+1) (lo':=wr.heap.size) (Fr.refl [] 0 w1) (by simp) (by omega);have hown1:=ZE f1' hown (by decide);by_cases hlab:hd.label.size=0
   .have hl1:hd.label=ByteArray.empty:=Vx hlab;have hl2:hd.label.toList= []:=by rw[hl1,ByteArray.toList_eq];rfl
    clear hl1;go_wp2_with (at_builtin;refine Ze w1 rfl _ _ 143 rfl w.heap.size 96 .nilIface 1 16 underlying143 QU rfl (by decide) (by decide) hown1 (by rfl) [.iface tt pp] rfl ?c1 (by rfl) (by omega) (by omega) ?_)
    case c1=>simp[Value.oneCell']
    intro g cap w3 hown3 hg So hg3;have hR:=Nk Hx.out q4 p4 a4 hF f1' (by omega) hown (x:=.iface tt pp) (.inl ⟨hlab,hcore.mono hm1 (fun _ k=>k.mono hm1) (fun _ k=>k.mono hm1) (fun _ _ k=>k.mono hm1)⟩) (by simpa [hlab]using hM2) hown3 hg So;go_wp2_with fail
    exact⟨hR,by simp[intOf];omega⟩
   .have hl1:=Wa hlab;have hl2:=Wu hlab;go_wp2_with fail
    refine(Nm B b0 _ hd.label w1 hM2 ?_).mono ?_
    .exact Ye (WM hsm (by omega) (by omega) (by omega) om) (by omega)
    rintro e w2 ⟨lv,rfl,⟨la,lo,rfl,hla⟩,pn,f2⟩;have s2':=f2.size;have f2':Fr [83,4,217] B wr (w2.alloc (.cells [.pointer (some ⟨la,0,none⟩),.int .i64 0,.iface tt pp].toArray 190)):=Fr.av;have hm2:=Hv.fr (lo:=wr.heap.size+1) (lo':=wr.heap.size) (w:=w1) (w':=w2.alloc (.cells [.pointer (some ⟨la,0,none⟩),.int .i64 0,.iface tt pp].toArray 190)) (Tt:= [83,217]) (B:=B) Fr.av (by decide) (by omega);have hown2:=ZE f2' hown (by decide);have hM4:ZZ (w2.alloc (.cells [.pointer (some ⟨la,0,none⟩),.int .i64 0,.iface tt pp].toArray 190)) B b0 _:=pn.fr (Tt:= []) (B':=B) Fr.av (by simp);have nb:ZD (w2.alloc _) w2.heap.size _ _:=ZD.new w2 [la,.int .i64 0,.iface tt pp] 190;have sz2:w2.heap.size+1<=(w2.alloc (.cells [.pointer (some ⟨la,0,none⟩),.int .i64 0,.iface tt pp].toArray 190)).heap.size:=by simp
    go_wp2_with (at_builtin;refine Ze (w2.alloc _) rfl _ _ 143 rfl w.heap.size 96 .nilIface 1 16 underlying143 QU rfl (by decide) (by decide) hown2 (by rfl) [.iface 186 (.pointer (some ⟨w2.heap.size,0,none⟩))] rfl ?c1 (by simp;rfl) (by omega) (by omega) ?_)
    case c1=>simp[Value.oneCell']
    intro g cap w3 hown3 hg So hg3
    have hR:=Nk Hx.out q4 p4 a4 hF f2' (by omega) hown (x:=.iface 186 (.pointer (some ⟨w2.heap.size,0,none⟩)))
     (.inr ⟨by omega,_,_,_,rfl,⟨by omega,by decide,nb⟩,⟨la,lo,rfl,Hv.fr (Tt:= []) (B:=B) (lo:=w1.heap.size) Fr.av (by simp) (by omega) _ _ _ hla⟩,hcore.mono hm2 (fun _ k=>k.mono hm2) (fun _ k=>k.mono hm2) (fun _ _ k=>k.mono hm2)⟩)
     (by rw[show(decide (0 < hd.label.size)).toNat=1 by simp;omega];simpa [Mk.add_add]using hM4) hown3 hg (by simpa using So)
    go_wp2_with fail
    exact⟨hR,by simp[intOf];omega⟩
end
section
def AL (m:Nat) (sw:Bool) (t:T) (B b0:Nat) (M:Mk) (w:World) (bb o:Nat) (i:Value) (wr:World):Prop:= ∃ (k:Nat) (rest:T) (vs:List Value) (M':Mk) (lv:Value),
 i=.int .i64 k/\rest.All Yf/\rest.ok/\rest.At (YB w B) false bb (o+k*2)/\k+rest.len=t.len/\vs.length=k/\
 ZD wr w.heap.size [.int .i64 0,lv,.int .i64 0] 146/\wr.ownsRow (w.heap.size+1) 96 1 lv vs.length vs/\(vs= []->lv=.slice none 0 0)/\ZZ wr B b0 M'/\rest.Yg sw M'=t.Yg sw M/\Fr [83,4,217] B w wr/\
 ∀ H':Hp,(∀ b cs t,b≠w.heap.size->some b≠lv.ownBlock->Hv wr w.heap.size b cs t->H' b cs t)-> ∀ vs',rest.Ast H' m M'.leaves M'.items vs'->t.Ast H' m M.leaves M.items (vs++vs')
theorem TJ {m:Nat} {sw:Bool} (hms: ∀ x:Int,(if m=1 then x.toNat else 0)=(if sw then x.toNat else 0)) {t:T} {B b0:Nat} {M:Mk} {w:World} {bb o k:Nat} {x:Int} {b' tl':T} {vs:List Value} {M':Mk} {lv:Value} {wr:World}
  (Hx:k+(T.cl x b' tl').len=t.len/\vs.length=k/\(T.cl x b' tl').Yg sw M'=t.Yg sw M/\
   (∀ H':Hp,(∀ b cs t,b≠w.heap.size->some b≠lv.ownBlock->Hv wr w.heap.size b cs t->H' b cs t)-> ∀ vs',(T.cl x b' tl').Ast H' m M'.leaves M'.items vs'->t.Ast H' m M.leaves M.items (vs++vs'))/\(vs= []->lv=.slice none 0 0))
  (q4:tl'.All Yf) (p4:tl'.ok) (a4:tl'.At (YB w B) false bb (o+k*2+2)) {wX:World} (fw:Fr [83,4,217] B w wr) (fX:Fr [83,4,217] B wr wX) (hB:B<=w.heap.size)
  (hob:ZD wr w.heap.size [.int .i64 0,lv,.int .i64 0] 146) (hownr:wr.ownsRow (w.heap.size+1) 96 1 lv vs.length vs) {u:Value}
  (hx:XD (Hv wX wr.heap.size) m x M'.leaves M'.items (b'.Ast (Hv wX wr.heap.size) 0 (M'.leaves+(if m=1 then x.toNat else 0)) (M'.items+1)) u)
  (Ei:ZZ wX B b0 (M'.add ((if sw then x.toNat else 0)+b'.lv false) (1+b'.it) b'.ZT (List.replicate (if sw then x.toNat else 0) false++b'.stops false)))
  {g cap:Nat} {w3:World} (hown3:w3.ownsRow (w.heap.size+1) 96 1 (.slice (some ⟨g,0,none⟩) (vs.length+1) cap) (vs.length+1) (vs++ [u])) (hg:wX.grownBy w3 lv.ownBlock) (hat:lv.ownBlock=some g\/(lv.ownBlock≠some g/\g=wX.heap.size+1)):
  AL m sw t B b0 M w bb o (.int .i64 ((k:Int)+1)) (w3.setCell ⟨w.heap.size,1,none⟩ (.slice (some ⟨g,0,none⟩) (vs.length+1) cap)):=by
 obtain⟨hlen,hvs,hmk,Yx,hnil⟩:=Hx;have Pf:=ZE fX hownr (by decide);have s1:=fw.size;have s2:=fX.size;have s0:=hob.lt;have eZ:=hob.fr fX (by decide);have pm:=eZ.grown hg (by
  intro e';have:=(hownr.lt _ e'.symm).1;omega)
 have eY:=pm.set 1 (.slice (some ⟨g,0,none⟩) (vs.length+1) cap);have f3:Fr [83,4,217] B w w3:=(fw.trans fX).grown Pf hg (by omega) (by omega) (.inr (fun k hk=>by have:=(Pf.lt k hk).1;omega));have f4:Fr [83,4,217] B w (w3.setCell ⟨w.heap.size,1,none⟩ (.slice (some ⟨g,0,none⟩) (vs.length+1) cap)):=f3.XW hB _ _ (Z7 _);have Z7I:g≠w.heap.size:=by
  rcases hat with ha|⟨_,ha⟩
  .have:=(hownr.lt _ ha).1;omega
  .omega
 have hblk: ∀ b cs t,b≠w.heap.size->some b≠lv.ownBlock->ZD wX b cs t->ZD (w3.setCell ⟨w.heap.size,1,none⟩ (.slice (some ⟨g,0,none⟩) (vs.length+1) cap)) b cs t:=fun b cs t hn hne hb=>(hb.grown hg hne).setOther _ _ hn
 refine⟨k+1,tl',vs++ [u],M'.add ((if sw then x.toNat else 0)+b'.lv false) (1+b'.it) b'.ZT (List.replicate (if sw then x.toNat else 0) false++b'.stops false),.slice (some ⟨g,0,none⟩) (vs.length+1) cap,by simp,q4,p4,
  by rw[show o+(k+1)*2=o+k*2+2 by omega];exact a4,by simp[T.len]at hlen;omega,by simp;omega,eY,?_,by simp,?_,?_,f4,?_⟩
 .have:=Y3 hown3 ⟨w.heap.size,1,none⟩ (.slice (some ⟨g,0,none⟩) (vs.length+1) cap) (by simp[Value.ownBlock];omega);simpa using this
 .have f5:Fr [96] B wX w3:=(Fr.refl [96] B wX).grown Pf hg (by omega) (by omega) (.inl (by decide));have f6:Fr [96,146] B wX _:=(f5.mono (by decide) (Z7 _)).X9 ⟨w.heap.size,1,none⟩ (.slice (some ⟨g,0,none⟩) (vs.length+1) cap) pm.ty (by decide) hB;exact Ei.fr f6 (by decide)
 .rw[<-hmk];simp[T.Yg,T.lv,T.it,T.ZT,T.stops,Mk.add_add,Z3]
 .intro H' hH' vs' hv';have hold: ∀ b cs t,b≠w.heap.size->some b≠lv.ownBlock->Hv wr w.heap.size b cs t->H' b cs t:=by
   intro b cs t hn hne ⟨h1,h2,h3⟩;have h4:=h3.lt;refine hH' b cs t hn ?_ ⟨h1,h2,hblk b cs t hn hne (h3.fr fX (fun hc=>h2 ((by decide: ∀ t∈ [83,4,217],t∈JH) _ hc)))⟩;simp[Value.ownBlock];rcases hat with ha|⟨_,ha⟩
   .intro e';apply hne;rw[ha,e']
   .omega
  have hnew: ∀ b cs t,Hv wX wr.heap.size b cs t->H' b cs t:=by
   intro b cs t ⟨h1,h2,h3⟩;have h4:=h3.lt;have hne:some b≠lv.ownBlock:=by
    intro e';have:=(hownr.lt b e'.symm).2;omega
   refine hH' b cs t (by omega) ?_ ⟨by omega,h2,hblk b cs t (by omega) hne h3⟩;simp[Value.ownBlock];rcases hat with ha|⟨_,ha⟩
   .intro e';apply hne;rw[ha,e']
   .omega
  have:=Yx H' hold (u::vs') ⟨u,vs',rfl,hx.mono hnew (fun _ k=>k.mono hnew),?_⟩
  .simpa using this
  .rw[hms];simpa [Mk.add,Z3,Nat.add_left_comm]using hv'
theorem FY (t:T) (hall:t.All Yf):PL t:=by
 intro B b0 M w v bb o h hm hok hs hat;have hlt:=h.lt;obtain⟨av,cv,rfl⟩: ∃ a c,v=.slice a t.len c:=by
  rcases hs with⟨h0,a,c,rfl⟩ |⟨cap,_,_,_,rfl⟩
  .exact⟨a,c,by rw[h0]⟩
  .exact⟨_,_,rfl⟩
 have hlen:t.len<=35184372088832:=by
  rcases hs with⟨h0,_⟩ |⟨cap,_,_,hn,_⟩<;>omega
 have hav:Hid (0 < t.len->av=some ⟨bb,o,none⟩):=by
  intro hp;rcases hs with⟨h0,_⟩ |⟨cap,_,_,_,he⟩
  .omega
  .simp at he;exact he.1
 have htl:t.len<=90000:=by
  have g:=hm.2.1;have:=T.TK t;simp[T.Yg,Mk.add]at g;omega
 have Hm:=Z5 hm;clear hm hs;go_enter func136,ntmps136;go_wp2_with fail
 go_loopw [13] (fun i wr=>AL 3 false t B b0 M w bb o i wr) (fun i _=>t.len -(intOf i).toNat)
 case atStart=>
  exact⟨0,t,[],M,.slice none 0 0,rfl,hall,hok,by simpa using hat,by simp,rfl,ZD.new _ _ _,Zs _ _ _ _,fun _=>rfl,h.fr (Tt:= []) (B':=B) Fr.av (by simp),rfl,Fr.av,fun H' _ vs' hv=>by simpa using hv⟩
 case round=>
  obtain⟨k,rest,vs,M',lv,rfl,XC,hok',hat',hlen',hvs,hob,hown,hnil,hM',hmk,hF,Yx⟩:=hrel;have sr:=hF.size;have s0:=hob.lt;cases rest with
  |nil=>
   have hk: ¬ k < t.len:=by simp[T.len]at hlen';omega
   have hvk:vs.length<=90000:=by omega
   have Hx:=Wp hlen' hvs hmk Yx hnil;clear hlen' hvs hmk Yx hnil;go_wp2_with fail
   go_ret;obtain⟨hlen',hvs,hmk,Yx,hnil⟩:=Hx.out;have hm1: ∀ b cs t,Hv wr (w.heap.size+1) b cs t->Hv wr w.heap.size b cs t:=fun _ _ _ ⟨h1,h2,h3⟩=>⟨by omega,h2,h3⟩
   exact⟨_,vs,rfl,⟨lv,⟨Z7 _,by decide,hob⟩,(TL hown (by decide) (by omega) hnil).mono hm1⟩,by simpa using Yx (Hv wr w.heap.size) (fun _ _ _ _ _ h=>h) [] rfl,by rw[<-hmk];simpa [T.Yg,T.lv,T.it,T.ZT,T.stops,Mk.add_zero]using hM',hF⟩
  |st hd b' e' c' tl'=>exact absurd hat'.1 (by simp)
  |cl x b' tl'=>
   have hk:k < t.len:=by simp[T.len]at hlen';omega
   obtain rfl:=hav.out (by omega);obtain⟨_,vb,b1,o1,hc0,hc1,s1,a1,a4⟩:=hat';obtain⟨⟨va,vn,vm,rfl⟩,_⟩:=Za s1;have d0:wr.cell? ⟨bb,o+k*2,none⟩=some (.int .i64 x):=(hF.below.cell (p:=⟨bb,o+k*2,none⟩) hc0.1).trans hc0.2;have d1:wr.cell? ⟨bb,o+k*2+1,none⟩=some (.slice va vn vm):=(hF.below.cell (p:=⟨bb,o+k*2+1,none⟩) hc1.1).trans hc1.2;obtain⟨q1,q4⟩:=XC;obtain⟨p0,p00,p1,p4⟩:=hok';have Hx:=Wp hlen' hvs hmk Yx hnil;have hvn:vs.length<=90000:=by omega
   clear hlen' hvs hmk Yx hnil;have hsm:(M'.add (0+b'.lv false+tl'.lv false) (1+b'.it+tl'.it) (b'.ZT+tl'.ZT) (List.replicate 0 false++b'.stops false++tl'.stops false)).small 90000:=by
    have g:=Hm.out;rw[<-Hx.out.2.2.1]at g;exact g
   have hbx:=ZD.new wr [.int .i64 x,.slice va vn vm] 127;have hM1:ZZ (wr.alloc (.cells [.int .i64 x,.slice va vn vm].toArray 127)) B b0 M':=hM'.fr (Tt:= []) (B':=B) Fr.av (by simp);go_wp2_with fail
   refine(YP B b0 M' _ hM1 (Ye hsm.add (by omega))).mono ?_;rintro e w1 ⟨rfl,hM2,f1⟩;have s1':=f1.size;simp at s1';have bx1:=hbx.fr f1 (by decide);have UL:=bx1.alloc (.cells [.int .i64 (ip M'.items),.nilIface,.int .i64 0,.slice none 0 0].toArray 236);have xb:ZD (w1.alloc _) w1.heap.size _ _:=ZD.new w1 [.int .i64 (ip M'.items),.nilIface,.int .i64 0,.slice none 0 0] 236;have e0:=UL.cell 0 rfl;have e1:=UL.cell 1 rfl;by_cases hx:0 < x
   .have hxb:decide (0 < x)=true:=by simpa using hx
    go_wp2_with fail
    refine(name_any _ _).mono ?_;rintro e w2 ⟨na,rfl,hna,f2⟩;have s2':=f2.size;simp at s2';have xb2:=(((xb.fr f2 (by decide)).alloc (Obj.cells #[.int .i64 0,.int .i64 36,.iface 188 (.pointer (some ⟨na,0,none⟩))] 277)).alloc (Obj.cells #[.iface 275 (.pointer (some ⟨w2.heap.size,0,none⟩))] 170))
    have uQ:=(((UL.fr f2 (by decide)).alloc (Obj.cells #[.int .i64 0,.int .i64 36,.iface 188 (.pointer (some ⟨na,0,none⟩))] 277)).alloc (Obj.cells #[.iface 275 (.pointer (some ⟨w2.heap.size,0,none⟩))] 170))
    have y1:=xb2.cell 1 rfl;have yf:=xb2.free 1;have fA0:Fr [] B w1 ((w2.alloc (Obj.cells #[.int .i64 0,.int .i64 36,.iface 188 (.pointer (some ⟨na,0,none⟩))] 277)).alloc (Obj.cells #[.iface 275 (.pointer (some ⟨w2.heap.size,0,none⟩))] 170)):=Fr.av;have fA:Fr [236] B w1 (((w2.alloc (Obj.cells #[.int .i64 0,.int .i64 36,.iface 188 (.pointer (some ⟨na,0,none⟩))] 277)).alloc (Obj.cells #[.iface 275 (.pointer (some ⟨w2.heap.size,0,none⟩))] 170)).setCell ⟨w1.heap.size,1,none⟩ (.iface 165 (.pointer (some ⟨w2.heap.size+1,0,none⟩)))):=(fA0.mono (by simp) (Z7 _)).X9 _ _ xb2.ty (by decide) (by show B<=w1.heap.size;omega);have fX0:Fr [83,4,217] B wr ((w2.alloc (Obj.cells #[.int .i64 0,.int .i64 36,.iface 188 (.pointer (some ⟨na,0,none⟩))] 277)).alloc (Obj.cells #[.iface 275 (.pointer (some ⟨w2.heap.size,0,none⟩))] 170)):=Fr.av;have uN:Fr [83,4,217] B wr (((w2.alloc (Obj.cells #[.int .i64 0,.int .i64 36,.iface 188 (.pointer (some ⟨na,0,none⟩))] 277)).alloc (Obj.cells #[.iface 275 (.pointer (some ⟨w2.heap.size,0,none⟩))] 170)).setCell ⟨w1.heap.size,1,none⟩ (.iface 165 (.pointer (some ⟨w2.heap.size+1,0,none⟩)))):=fX0.XW (by omega) _ _ (by show wr.heap.size<=w1.heap.size;omega);have eX:=xb2.set 1 (.iface 165 (.pointer (some ⟨w2.heap.size+1,0,none⟩)));have eW:=uQ.setOther ⟨w1.heap.size,1,none⟩ (.iface 165 (.pointer (some ⟨w2.heap.size+1,0,none⟩))) (by show wr.heap.size≠w1.heap.size;omega);have c2:ZD (((w2.alloc (Obj.cells #[.int .i64 0,.int .i64 36,.iface 188 (.pointer (some ⟨na,0,none⟩))] 277)).alloc (Obj.cells #[.iface 275 (.pointer (some ⟨w2.heap.size,0,none⟩))] 170)).setCell ⟨w1.heap.size,1,none⟩ (.iface 165 (.pointer (some ⟨w2.heap.size+1,0,none⟩)))) (w2.heap.size+1) _ _:=(ZD.new' (by simp) [.iface 275 (.pointer (some ⟨w2.heap.size,0,none⟩))] 170).setOther ⟨w1.heap.size,1,none⟩ (.iface 165 (.pointer (some ⟨w2.heap.size+1,0,none⟩))) (by show w2.heap.size+1≠w1.heap.size;omega);have c1:ZD (((w2.alloc (Obj.cells #[.int .i64 0,.int .i64 36,.iface 188 (.pointer (some ⟨na,0,none⟩))] 277)).alloc (Obj.cells #[.iface 275 (.pointer (some ⟨w2.heap.size,0,none⟩))] 170)).setCell ⟨w1.heap.size,1,none⟩ (.iface 165 (.pointer (some ⟨w2.heap.size+1,0,none⟩)))) w2.heap.size _ _:=((ZD.new w2 [.int .i64 0,.int .i64 36,.iface 188 (.pointer (some ⟨na,0,none⟩))] 277).alloc (Obj.cells #[.iface 275 (.pointer (some ⟨w2.heap.size,0,none⟩))] 170)).setOther ⟨w1.heap.size,1,none⟩ (.iface 165 (.pointer (some ⟨w2.heap.size+1,0,none⟩))) (by show w2.heap.size≠w1.heap.size;omega);have szA:w2.heap.size+2<=(((w2.alloc (Obj.cells #[.int .i64 0,.int .i64 36,.iface 188 (.pointer (some ⟨na,0,none⟩))] 277)).alloc (Obj.cells #[.iface 275 (.pointer (some ⟨w2.heap.size,0,none⟩))] 170)).setCell ⟨w1.heap.size,1,none⟩ (.iface 165 (.pointer (some ⟨w2.heap.size+1,0,none⟩)))).heap.size:=by simp[World.setCell]
    have eV:ZZ (((w2.alloc (Obj.cells #[.int .i64 0,.int .i64 36,.iface 188 (.pointer (some ⟨na,0,none⟩))] 277)).alloc (Obj.cells #[.iface 275 (.pointer (some ⟨w2.heap.size,0,none⟩))] 170)).setCell ⟨w1.heap.size,1,none⟩ (.iface 165 (.pointer (some ⟨w2.heap.size+1,0,none⟩)))) B b0 (M'.add 0 1 0 []):=hM2.fr fA (by decide);have eU:=uN.size;have uM:Fr [83,4,217] B w (((w2.alloc (Obj.cells #[.int .i64 0,.int .i64 36,.iface 188 (.pointer (some ⟨na,0,none⟩))] 277)).alloc (Obj.cells #[.iface 275 (.pointer (some ⟨w2.heap.size,0,none⟩))] 170)).setCell ⟨w1.heap.size,1,none⟩ (.iface 165 (.pointer (some ⟨w2.heap.size+1,0,none⟩)))):=hF.trans uN;have z1:=eW.cell 1 rfl;go_wp2_with fail
    refine(q1 B b0 _ _ _ b1 o1 eV ?_ p1 s1 (Yw uM a1)).mono ?_
    .rw[T.Yg,Mk.add_add];exact WM hsm (by omega) (by omega) (by omega) om
    rintro e w4 ⟨r,bs,rfl,hr,YD,uL,f4⟩;obtain⟨ra,rn,rc,rfl⟩:=hr.slice;have eT:=f4.size;have MQ:=eX.fr f4 (by decide);have uK:=MQ.set 3 (.slice ra rn rc);have v3:=MQ.cell 3 rfl;have vf:=MQ.free 3;have JC:Fr [83,4,217] B wr (w4.setCell ⟨w1.heap.size,3,none⟩ (.slice ra rn rc)):=(uN.trans f4).XW (by omega) _ _ (by show wr.heap.size<=w1.heap.size;omega);have f45:Fr [236] B w4 (w4.setCell ⟨w1.heap.size,3,none⟩ (.slice ra rn rc)):=(Fr.refl _ _ _).X9 _ _ MQ.ty (by decide) (by show B<=w1.heap.size;omega);have eR:=f45.size;have Eg:=hob.fr JC (by decide);have uJ:=Eg.cell 1 rfl;have Pe:=ZE JC hown (by decide);have Ei:=uL.fr f45 (by decide);have Pd: ∀ b cs t,Hv w4 (((w2.alloc (Obj.cells #[.int .i64 0,.int .i64 36,.iface 188 (.pointer (some ⟨na,0,none⟩))] 277)).alloc (Obj.cells #[.iface 275 (.pointer (some ⟨w2.heap.size,0,none⟩))] 170)).setCell ⟨w1.heap.size,1,none⟩ (.iface 165 (.pointer (some ⟨w2.heap.size+1,0,none⟩)))).heap.size b cs t->Hv (w4.setCell ⟨w1.heap.size,3,none⟩ (.slice ra rn rc)) wr.heap.size b cs t:=Hv.XW (by omega) _ _ (by show w1.heap.size < (((w2.alloc (Obj.cells #[.int .i64 0,.int .i64 36,.iface 188 (.pointer (some ⟨na,0,none⟩))] 277)).alloc (Obj.cells #[.iface 275 (.pointer (some ⟨w2.heap.size,0,none⟩))] 170)).setCell ⟨w1.heap.size,1,none⟩ (.iface 165 (.pointer (some ⟨w2.heap.size+1,0,none⟩)))).heap.size;omega)
    have hcl:XD (Hv (w4.setCell ⟨w1.heap.size,3,none⟩ (.slice ra rn rc)) wr.heap.size) 3 x M'.leaves M'.items (b'.Ast (Hv (w4.setCell ⟨w1.heap.size,3,none⟩ (.slice ra rn rc)) wr.heap.size) 0 (M'.leaves+(if 3=1 then x.toNat else 0)) (M'.items+1)) (.iface 237 (.pointer (some ⟨w1.heap.size,0,none⟩))):=
     .inr (.inr ⟨rfl,w1.heap.size,(.iface 165 (.pointer (some ⟨w2.heap.size+1,0,none⟩))),.slice ra rn rc,bs,rfl,⟨by omega,by decide,uK⟩,.inr ⟨hx,_,_,rfl,⟨by omega,by decide,(c2.fr f4 (by decide)).setOther _ _ (by show w2.heap.size+1≠w1.heap.size;omega)⟩,.inr ⟨_,_,rfl,⟨by omega,by decide,(c1.fr f4 (by decide)).setOther _ _ (by show w2.heap.size≠w1.heap.size;omega)⟩⟩⟩,hr.mono Pd,YD.mono Pd⟩)
    have UI:(w4.setCell ⟨w1.heap.size,3,none⟩ (.slice ra rn rc)).heap.size=w4.heap.size:=by simp[World.setCell]
    have ii:=Nat.le_of_eq UI;clear UI;go_wp2_with (at_builtin;refine Ze (w4.setCell _ _) rfl _ _ 143 rfl (w.heap.size+1) 96 .nilIface 1 16 underlying143 QU rfl (by decide) (by decide) Pe (by rfl) [.iface 237 (.pointer (some ⟨w1.heap.size,0,none⟩))] rfl ?c1 (by simp[World.setCell];rfl) (by omega) (by omega) ?_)
    case c1=>simp[Value.oneCell']
    intro g cap w6 hown6 hg VW UT;have Ef:=Eg.grown hg (by
     intro e';have:=(Pe.lt _ e'.symm).1;omega)
    have t1:=Ef.cell 1 rfl;have tf:=Ef.free 1;have hR:=TJ (m:=3) (sw:=false) (by simp) Hx.out q4 p4 a4 hF JC (by omega) hob hown hcl (by simpa [T.Yg,Mk.add_add]using Ei) hown6 hg (by simpa [World.setCell]using VW);clear uJ v3 vf z1;go_wp2_with fail
    exact⟨hR,by simp[intOf];omega⟩
   .have hxb:decide (0 < x)=false:=by simpa using hx
    have fA:Fr [] B w1 (w1.alloc (.cells [.int .i64 (ip M'.items),.nilIface,.int .i64 0,.slice none 0 0].toArray 236)):=Fr.av;have uN:Fr [83,4,217] B wr (w1.alloc (.cells [.int .i64 (ip M'.items),.nilIface,.int .i64 0,.slice none 0 0].toArray 236)):=Fr.av;have eX:=xb;have eW:=UL;have szA:w1.heap.size+1<=(w1.alloc (.cells [.int .i64 (ip M'.items),.nilIface,.int .i64 0,.slice none 0 0].toArray 236)).heap.size:=by simp
    have eV:ZZ (w1.alloc (.cells [.int .i64 (ip M'.items),.nilIface,.int .i64 0,.slice none 0 0].toArray 236)) B b0 (M'.add 0 1 0 []):=hM2.fr fA (by decide);have eU:=uN.size;have uM:Fr [83,4,217] B w (w1.alloc (.cells [.int .i64 (ip M'.items),.nilIface,.int .i64 0,.slice none 0 0].toArray 236)):=hF.trans uN;have z1:=eW.cell 1 rfl;go_wp2_with fail
    refine(q1 B b0 _ _ _ b1 o1 eV ?_ p1 s1 (Yw uM a1)).mono ?_
    .rw[T.Yg,Mk.add_add];exact WM hsm (by omega) (by omega) (by omega) om
    rintro e w4 ⟨r,bs,rfl,hr,YD,uL,f4⟩;obtain⟨ra,rn,rc,rfl⟩:=hr.slice;have eT:=f4.size;have MQ:=eX.fr f4 (by decide);have uK:=MQ.set 3 (.slice ra rn rc);have v3:=MQ.cell 3 rfl;have vf:=MQ.free 3;have JC:Fr [83,4,217] B wr (w4.setCell ⟨w1.heap.size,3,none⟩ (.slice ra rn rc)):=(uN.trans f4).XW (by omega) _ _ (by show wr.heap.size<=w1.heap.size;omega);have f45:Fr [236] B w4 (w4.setCell ⟨w1.heap.size,3,none⟩ (.slice ra rn rc)):=(Fr.refl _ _ _).X9 _ _ MQ.ty (by decide) (by show B<=w1.heap.size;omega);have eR:=f45.size;have Eg:=hob.fr JC (by decide);have uJ:=Eg.cell 1 rfl;have Pe:=ZE JC hown (by decide);have Ei:=uL.fr f45 (by decide);have Pd: ∀ b cs t,Hv w4 (w1.alloc (.cells [.int .i64 (ip M'.items),.nilIface,.int .i64 0,.slice none 0 0].toArray 236)).heap.size b cs t->Hv (w4.setCell ⟨w1.heap.size,3,none⟩ (.slice ra rn rc)) wr.heap.size b cs t:=Hv.XW (by omega) _ _ (by show w1.heap.size < (w1.alloc (.cells [.int .i64 (ip M'.items),.nilIface,.int .i64 0,.slice none 0 0].toArray 236)).heap.size;omega)
    have hcl:XD (Hv (w4.setCell ⟨w1.heap.size,3,none⟩ (.slice ra rn rc)) wr.heap.size) 3 x M'.leaves M'.items (b'.Ast (Hv (w4.setCell ⟨w1.heap.size,3,none⟩ (.slice ra rn rc)) wr.heap.size) 0 (M'.leaves+(if 3=1 then x.toNat else 0)) (M'.items+1)) (.iface 237 (.pointer (some ⟨w1.heap.size,0,none⟩))):=
     .inr (.inr ⟨rfl,w1.heap.size,.nilIface,.slice ra rn rc,bs,rfl,⟨by omega,by decide,uK⟩,.inl ⟨by omega,rfl⟩,hr.mono Pd,YD.mono Pd⟩)
    have UI:(w4.setCell ⟨w1.heap.size,3,none⟩ (.slice ra rn rc)).heap.size=w4.heap.size:=by simp[World.setCell]
    have ii:=Nat.le_of_eq UI;clear UI;go_wp2_with (at_builtin;refine Ze (w4.setCell _ _) rfl _ _ 143 rfl (w.heap.size+1) 96 .nilIface 1 16 underlying143 QU rfl (by decide) (by decide) Pe (by rfl) [.iface 237 (.pointer (some ⟨w1.heap.size,0,none⟩))] rfl ?c1 (by simp[World.setCell];rfl) (by omega) (by omega) ?_)
    case c1=>simp[Value.oneCell']
    intro g cap w6 hown6 hg VW UT;have Ef:=Eg.grown hg (by
     intro e';have:=(Pe.lt _ e'.symm).1;omega)
    have t1:=Ef.cell 1 rfl;have tf:=Ef.free 1;have hR:=TJ (m:=3) (sw:=false) (by simp) Hx.out q4 p4 a4 hF JC (by omega) hob hown hcl (by simpa [T.Yg,Mk.add_add]using Ei) hown6 hg (by simpa [World.setCell]using VW);clear uJ v3 vf z1;go_wp2_with fail
    exact⟨hR,by simp[intOf];omega⟩
end
end Go.Proofs.YteedbaejpdjilaaGreat
