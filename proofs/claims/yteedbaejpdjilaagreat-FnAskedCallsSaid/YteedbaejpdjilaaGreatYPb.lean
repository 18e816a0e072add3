/- Part of the proof: MakeA MakeB MakeC. -/
import Derived.Test.YteedbaejpdjilaaGreatYPa
set_option linter.all false
set_option maxRecDepth 100000
set_option maxHeartbeats 40000000
namespace Go.Proofs.YteedbaejpdjilaaGreat
open Go.RowKit Tryz
section
theorem om {p:Prop} (h:p:=by first|omega|(simp;omega) |simp):p:=h
theorem Fr.av {T:List Nat} {B:Nat} {a b:World} (h:Fr T B a b:=by repeat' (first|exact Fr.refl _ _ _|assumption|(refine Fr.alloc ?_ (by first|omega|(simp;omega)) _) |(refine Fr.drew ?_) |(refine Fr.back (by assumption) (by decide) (by first|omega|(simp;omega)) ?_))):Fr T B a b:=h
theorem Fr.au {T:List Nat} {B:Nat} {a b:World} (h:Fr T B a b:=by repeat' (first|exact Fr.refl _ _ _|assumption|(refine Fr.back (by assumption) (by decide) (by first|omega|(simp;omega)) ?_) |(refine Fr.alloc ?_ (by first|omega|(simp;omega)) _) |(refine Fr.drew ?_))):Fr T B a b:=h
structure Mk where
 leaves:Nat
 items:Nat
 AQ:Nat
 stops:List Bool
 asked:List Int
def Mk.add (M:Mk) (n i l:Nat) (s:List Bool):Mk:= { M with leaves:=M.leaves+n,items:=M.items+i,AQ:=M.AQ+l,stops:=M.stops++s }
theorem Mk.add_add (M:Mk) (n i l n' i' l':Nat) (s s':List Bool):(M.add n i l s).add n' i' l' s'=M.add (n+n') (i+i') (l+l') (s++s'):=by
 simp[Mk.add,Z3]
theorem Mk.add_zero (M:Mk):M.add 0 0 0 []=M:=by simp[Mk.add]
def Mk.small (M:Mk) (k:Nat):Prop:=M.leaves<=k/\M.items<=k/\M.AQ<=k/\M.stops.length<=k/\M.asked.length<=k
def mkT:List Nat:= [83,4,217,3]
def Pk (w:World) (ps:List Nat):Prop:= ∀ p∈ps,∃ s,ZD w p [.int .i64 6,.string s,.nilIface,.nilIface,.nilIface] 265
def ZZ (w:World) (B b:Nat) (M:Mk):Prop:= ∃ (sv lv av:Value) (ps:List Nat),
 B<=b/\ZD w b [.int .i64 M.leaves,.int .i64 M.items,sv,lv,av] 83/\
 w.ownsRow B 4 1 sv M.stops.length (M.stops.map Value.bool)/\
 w.ownsRow B 217 1 lv ps.length (ps.map fun p=>.pointer (some ⟨p,0,none⟩))/\Pk w ps/\ps.length<=M.AQ/\
 w.ownsRow B 3 1 av M.asked.length (M.asked.map (Value.int .i64))
theorem Pk.fr {Tt:List Nat} {B:Nat} {w w':World} (hf:Fr Tt B w w') (ht:265∉Tt) {ps:List Nat} (h:Pk w ps):Pk w' ps:=
 fun p hp=>let⟨s,hs⟩:=h p hp;⟨s,hs.fr hf ht⟩
theorem ZZ.lt {w:World} {B b:Nat} {M:Mk} (h:ZZ w B b M):B<=b/\b < w.heap.size:=by
 obtain⟨sv,lv,av,ps,hB,hb,_⟩:=h;exact⟨hB,hb.lt⟩
theorem ZZ.fr {Tt:List Nat} {B B':Nat} {w w':World} (hf:Fr Tt B' w w') (ht: ∀ t∈ [83,4,217,3,265],t∉Tt) {b:Nat} {M:Mk} (h:ZZ w B b M):ZZ w' B b M:=by
 obtain⟨sv,lv,av,ps,hB,hb,hsv,hlv,hps,hn,hav⟩:=h;exact⟨sv,lv,av,ps,hB,hb.fr hf (ht _ (by simp)),ZE hf hsv (ht _ (by simp)),ZE hf hlv (ht _ (by simp)),hps.fr hf (ht _ (by simp)),hn,ZE hf hav (ht _ (by simp))⟩
theorem info4:(prog.info? 4).map (fun i=>(i.zero,i.size,i.bytes))=some (some (.bool false),1,1):=by kernel_rfl
theorem AP:(prog.info? 217).map (fun i=>(i.zero,i.size,i.bytes))=some (some (.pointer none),1,8):=by kernel_rfl
theorem JF (n:Int) (h0:0<=n) (h1:n<=1000000) (w:World):
  Calls prog 131 #[.int .i64 n] w fun e w'=>e=.returned (.int .i64 (10+2*n))/\w=w':=by
 go_enter func131,ntmps131
 go_wp2
 go_ret;exact⟨rfl,rfl⟩
theorem JE (n:Int) (h0:0<=n) (h1:n<=1000000) (w:World):
  Calls prog 130 #[.int .i64 n] w fun e w'=>e=.returned (.int .i64 (10+2*n+1))/\w=w':=by
 go_enter func130,ntmps130
 go_wp2
 go_ret;exact⟨rfl,rfl⟩
theorem Xn (B b:Nat) (M:Mk) (s:Bool) (w:World) (h:ZZ w B b M) (hm:M.small 100000):
  Calls prog 123 #[b,s] w fun e w'=>e=.returned (.int .i64 (lp M.leaves))/\
   ZZ w' B b (M.add 1 0 0 [s])/\Fr [83,4] B w w':=by
 obtain⟨sv,lv,av,ps,hB,hb,hsv,hlv,hps,hn,hav⟩:=h;obtain⟨hl,_,_,hs,_⟩:=hm;have hlt:=hb.lt;have c0:=hb.cell 0 rfl;have c2:=hb.cell 2 rfl;have f0:=hb.free 0;have f2:=hb.free 2;go_enter func123,ntmps123;go_wp2_with (at_builtin;refine Ze w rfl _ _ 26 rfl B 4 (.bool false) 1 1 underlying26 info4 rfl (by decide) (by decide) hsv (by rfl) [s] rfl ?c1 (by rfl) (by omega) (by omega) ?_)
 case c1=>simp[Value.oneCell']
 intro g cap w1 h1 hg hat hg1;have hb1:=hb.grown hg (own_ne hsv hb.ty (by decide));clear c0 c2 f0 f2;have c0:=hb1.cell 0 rfl;have c2:=hb1.cell 2 rfl;have f0:=hb1.free 0;have f2:=hb1.free 2;have hb2:=(hb1.set 2 (.slice (some ⟨g,0,none⟩) (M.stops.length+1) cap))
 have hb3:=hb2.set 0 (.int .i64 (M.leaves+1));have k1:Fr [83] B w1 _:=((Fr.refl _ _ _).X9 _ _ hb1.ty (by decide) hB).X9 ⟨b,0,none⟩ (.int .i64 (M.leaves+1)) hb2.ty (by decide) hB;have k0:Fr [83,4] B w w1:=(Fr.refl _ _ _).grown hsv hg (by omega) (Z7 _) (.inl (by decide));have K:=k0.trans (k1.mono (by simp) (Z7 _));go_wp2_with fail
 refine(JF _ (by omega) (by omega) _).mono ?_;rintro e w2 ⟨rfl,rfl⟩;go_wp2_with fail
 go_ret;exact⟨rfl,⟨_,lv,av,ps,hB,by simpa [Mk.add]using hb3,by simpa [Mk.add]using ZE k1 h1 (by decide),ZE K hlv (by decide),hps.fr K (by decide),hn,ZE K hav (by decide)⟩,K⟩
theorem YP (B b:Nat) (M:Mk) (w:World) (h:ZZ w B b M) (hm:M.small 100000):
  Calls prog 121 #[b] w fun e w'=>e=.returned (.int .i64 (ip M.items))/\
   ZZ w' B b (M.add 0 1 0 [])/\Fr [83] B w w':=by
 obtain⟨sv,lv,av,ps,hB,hb,hsv,hlv,hps,hn,hav⟩:=h;obtain⟨_,hl,_,hs,_⟩:=hm;have c1:=hb.cell 1 rfl;have f1:=hb.free 1;have hb3:=hb.set 1 (.int .i64 (M.items+1));have K:Fr [83] B w _:=(Fr.refl _ _ _).X9 ⟨b,1,none⟩ (.int .i64 (M.items+1)) hb.ty (by decide) hB;go_enter func121,ntmps121;go_wp2_with fail
 refine(JE _ (by omega) (by omega) _).mono ?_;rintro e w2 ⟨rfl,rfl⟩;go_wp2_with fail
 go_ret;exact⟨rfl,⟨_,lv,av,ps,hB,by simpa [Mk.add]using hb3,by simpa [Mk.add]using ZE K hsv (by decide),ZE K hlv (by decide),hps.fr K (by decide),hn,ZE K hav (by decide)⟩,K⟩
theorem name_any (pos:Int) (w:World):
  Calls prog 125 #[.int .i64 pos] w fun e w'=> ∃ a,e=.returned (.pointer (some ⟨a,0,none⟩))/\VI (Hv w' w.heap.size) a pos/\Fr [] w.heap.size w w':=by
 go_enter func125,ntmps125;go_wp2_with fail
 go_ret;exact⟨_,rfl,⟨_,_,Z7 _,by decide,ZD.new _ _ _⟩,(Fr.refl _ _ _).alloc (Z7 _) _⟩
theorem Hv.nil {B:Nat} {w w':World} (hf:Fr [] B w w') {lo lo':Nat} (hlo:lo'<=lo): ∀ b cs t,Hv w lo b cs t->Hv w' lo' b cs t:=Hv.fr hf (by simp) hlo
theorem Hv.alloc (w:World) (o:Obj) {lo lo':Nat} (hlo:lo'<=lo): ∀ b cs t,Hv w lo b cs t->Hv (w.alloc o) lo' b cs t:=
 fun _ _ _ ⟨h1,h2,h3⟩=>⟨ZC hlo h1,h2,h3.alloc o⟩
theorem Hv.new (w:World) (cs:List Value) (t:Nat) (ht:t∉JH) {lo:Nat} (hlo:lo<=w.heap.size):Hv (w.alloc (.cells cs.toArray t)) lo w.heap.size cs t:=⟨hlo,ht,ZD.new _ _ _⟩
theorem RU (pos:Int) (w:World):
  Calls prog 122 #[.int .i64 pos] w fun e w'=> ∃ a,e=.returned (.pointer (some ⟨a,0,none⟩))/\Vb (Hv w' w.heap.size) a pos/\Fr [] w.heap.size w w':=by
 go_enter func122,ntmps122;go_wp2_with fail
 refine(name_any _ _).mono ?_;rintro e w1 ⟨a,rfl,ha,hf⟩;have hs:=hf.size;go_wp2_with fail
 go_ret;exact⟨_,rfl,⟨_,Hv.new _ _ _ (by decide) hs,⟨a,rfl,ha.mono (Hv.alloc _ _ (Z7 _))⟩⟩,hf.alloc hs _⟩
theorem VY (B b:Nat) (M:Mk) (is:Bool) (w:World) (h:ZZ w B b M) (hm:M.small 100000):
  Calls prog 133 #[b,is] w fun e w'=> ∃ v,e=.returned v/\Wv (Hv w' w.heap.size) is v (lp M.leaves)/\
   ZZ w' B b (M.add is.toNat 0 0 (List.replicate is.toNat false))/\Fr [83,4] B w w':=by
 cases is
 .go_enter func133,ntmps133;go_wp2_with fail
  go_ret;exact⟨_,rfl,.inl ⟨rfl,rfl⟩,by simpa [Mk.add]using h,Fr.refl _ _ _⟩
 .have hlt:=h.lt;go_enter func133,ntmps133;go_wp2_with fail
  refine(Xn B b M false w h hm).mono ?_;rintro e w1 ⟨rfl,h1,f1⟩;go_wp2_with fail
  refine(name_any _ _).mono ?_;rintro e w2 ⟨a,rfl,ha,f2⟩;have s1:=f1.size;go_wp2_with fail
  go_ret;exact⟨_,rfl,.inr ⟨rfl,a,rfl,ha.mono (Hv.fr (Fr.refl [] 0 _) (by simp) s1)⟩,h1.fr f2 (by simp),f1.trans (f2.mono (by simp) (by omega))⟩
theorem Pj (B b:Nat) (M:Mk) (w:World) (h:ZZ w B b M) (hm:M.small 100000):
  Calls prog 124 #[b] w fun e w'=> ∃ v,e=.returned v/\XI (Hv w' w.heap.size) v (lp M.leaves)/\
   ZZ w' B b (M.add 1 0 0 [false])/\Fr [83,4] B w w':=by
 have hlt:=h.lt;go_enter func124,ntmps124;go_wp2_with fail
 refine(Xn B b M false w h hm).mono ?_;rintro e w1 ⟨rfl,h1,f1⟩;go_wp2_with fail
 refine(name_any _ _).mono ?_;rintro e w2 ⟨a,rfl,ha,f2⟩;have s1:=f1.size;have s2:=f2.size;go_wp2_with fail
 refine(name_any _ _).mono ?_;rintro e w3 ⟨a',rfl,ha',f3⟩;have s3:=f3.size;have e3:ZD w3 w2.heap.size [.iface 188 (.pointer (some ⟨a,0,none⟩))] 168:=(ZD.new w2 _ _).fr f3 (by simp);simp at s3;go_wp2_with fail
 go_ret;exact⟨_,rfl,⟨_,w2.heap.size,_,_,rfl,⟨om,by decide,ZD.new' (by simp) _ _⟩,⟨by omega,by decide,(e3.alloc _).alloc _⟩,a,rfl,ha.mono (Hv.fr (Tt:= []) (B:=B) Fr.au (by simp) (by omega))⟩,h1.fr (Tt:= []) (B':=B) Fr.au (by simp),Fr.au⟩
theorem maybe_any (B b:Nat) (M:Mk) (is:Bool) (w:World) (h:ZZ w B b M) (hm:M.small 100000):
  Calls prog 132 #[b,is] w fun e w'=> ∃ v,e=.returned v/\YA (Hv w' w.heap.size) is v (lp M.leaves)/\
   ZZ w' B b (M.add is.toNat 0 0 (List.replicate is.toNat false))/\Fr [83,4] B w w':=by
 cases is
 .go_enter func132,ntmps132;go_wp2_with fail
  go_ret;exact⟨_,rfl,.inl ⟨rfl,rfl⟩,by simpa [Mk.add]using h,Fr.refl _ _ _⟩
 .go_enter func132,ntmps132;go_wp2_with fail
  refine(Pj B b M w h hm).mono ?_;rintro e w1 ⟨v,rfl,hv,h1,f1⟩;go_wp2_with fail
  go_ret;exact⟨_,rfl,.inr ⟨rfl,hv⟩,h1,f1⟩
end
section
theorem Wu {s:ByteArray} (h: ¬ s.size=0):s.toList.isEmpty=false:=by
 rw[ByteArray.toList_eq];simp;intro h';apply h;simp[ByteArray.size,h']
theorem Wa {s:ByteArray} (h: ¬ s.size=0):(s.toList== [])=false:=by
 have:=Wu h;cases hs:s.toList
 .simp[hs]at this
 .rfl
theorem Vx {s:ByteArray} (h:s.size=0):s=ByteArray.empty:=by
 apply ByteArray.ext;apply Array.eq_empty_of_size_eq_zero;exact h
theorem Nm (B b:Nat) (M:Mk) (s:ByteArray) (w:World) (h:ZZ w B b M) (hm:M.small 100000):
  Calls prog 110 #[b,s] w fun e w'=> ∃ v,e=.returned v/\Xo (Hv w' w.heap.size) v s/\
   ZZ w' B b (M.add 0 0 1 [])/\Fr [83,217] B w w':=by
 obtain⟨sv,lv,av,ps,hB,hb,hsv,hlv,hps,hn,hav⟩:=h;obtain⟨_,_,hl,hs,_⟩:=hm;have hlt:=hb.lt;have c3:=hb.cell 3 rfl;obtain⟨av0,n0,cap0,fE⟩: ∃ a n c,lv=.slice a n c/\n=ps.length:=by
  rcases hlv.2 with⟨rfl,h0⟩ |⟨g,cap,cur,rfl,_⟩
  .exact⟨_,_,_,rfl,h0.symm⟩
  .exact⟨_,_,_,rfl,rfl⟩
 obtain⟨rfl,rfl⟩:=fE;have hcells: ∀ k:Nat,k < ps.length-> ∃ g,av0=some ⟨g,0,none⟩/\w.cell? ⟨g,k,none⟩=some (.pointer (some ⟨ps.getD k 0,0,none⟩)):=by
  intro k hk;rcases hlv.2 with⟨hv,h0⟩ |⟨g,cap,cur,hv,_⟩
  .omega
  .simp at hv;obtain⟨rfl,rfl⟩:=hv;refine⟨g,rfl,?_⟩;rw[hlv.cellAt k (by omega)];simp[hk]
 have H1:Hid (∀ k:Nat,k < ps.length-> ∃ g,av0=some ⟨g,0,none⟩/\w.cell? ⟨g,k,none⟩=some (.pointer (some ⟨ps.getD k 0,0,none⟩))):=hcells;clear hcells;go_enter func110,ntmps110
 go_wp2
 go_loop [13] (fun i=> ∃ k:Nat,k<=ps.length/\i=.int .i64 k) (fun i=>ps.length -(intOf i).toNat)
 case atStart=>exact⟨0,Nat.zero_le _,rfl⟩
 case round=>
  obtain⟨k,hk,rfl⟩:=hrel;by_cases hlt2:k < ps.length
  .obtain⟨g,rfl,hc⟩:=H1.out k hlt2;obtain⟨s',hob⟩:=hps (ps.getD k 0) (by simp[Zy,hlt2]);generalize ps.getD k 0=q at*;have d1:=hob.cell 1 rfl
   go_wp2
   .go_ret;exact⟨_,rfl,⟨_,_,rfl,Hv.new _ _ _ (by decide) (Z7 _)⟩,ZZ.fr (Tt:= []) (B':=B) Fr.au (by simp) ⟨sv,_,av,ps,hB,hb,by simpa [Mk.add]using hsv,hlv,hps,by simp[Mk.add];omega,hav⟩,Fr.au⟩
   .go_round
    case rel=>exact⟨k+1,by omega,by go_num⟩
    case measure=>simp[intOf];omega
  .have hlv2:=hlv.alloc (Obj.cells #[Value.int IntKind.i64 6,Value.string s,Value.nilIface,Value.nilIface,Value.nilIface] 265);have hbo:=hb.alloc (Obj.cells #[Value.int IntKind.i64 6,Value.string s,Value.nilIface,Value.nilIface,Value.nilIface] 265);have hob:ZD (w.alloc _) w.heap.size _ _:=ZD.new w [Value.int IntKind.i64 6,Value.string s,Value.nilIface,Value.nilIface,Value.nilIface] 265;have ff:Fr [] B w (w.alloc (Obj.cells #[Value.int IntKind.i64 6,Value.string s,Value.nilIface,Value.nilIface,Value.nilIface] 265)):=Fr.au;have hsa:(w.alloc (Obj.cells #[Value.int IntKind.i64 6,Value.string s,Value.nilIface,Value.nilIface,Value.nilIface] 265)).heap.size=w.heap.size+1:=by simp
   have HS:=Nat.le_of_eq hsa.symm;have HS':=Nat.le_of_eq hsa;clear hsa;go_wp2_with (at_builtin;refine Ze (w.alloc _) rfl _ _ 81 rfl B 217 (.pointer none) 1 8 underlying81 AP rfl (by decide) (by decide) hlv2 (by rfl) [w.heap.size] rfl ?c1 (by simp;rfl) (by omega) (by omega) ?_)
   case c1=>simp[Value.oneCell']
   intro g cap w1 h1 hg hat hg1;have hb1:=hbo.grown hg (own_ne hlv2 hbo.ty (by decide));clear c3;have c3:=hb1.cell 3 rfl;have f3:=hb1.free 3;have hb2:=hb1.set 3 (.slice (some ⟨g,0,none⟩) (ps.length+1) cap);have k1:Fr [83] B w1 _:=(Fr.refl _ _ _).X9 ⟨b,3,none⟩ (.slice (some ⟨g,0,none⟩) (ps.length+1) cap) hb1.ty (by decide) hB;have k0:Fr [83,217] B _ w1:=(Fr.refl [83,217] B _).grown hlv2 hg (by omega) (Z7 _) (.inl (by decide));have K:Fr [83,217] B w _:=(ff.mono (by simp) (Z7 _)).trans (k0.trans (k1.mono (by simp) (Z7 _)));have s1:=hg.size;go_wp2_with fail
   go_ret;have K2:=k1.size;have hps1:Pk (w1.setCell ⟨b,3,none⟩ (.slice (some ⟨g,0,none⟩) (ps.length+1) cap)) (ps++ [w.heap.size]):=by
    intro p hp;rcases ZM.1 hp with hp|hp
    .exact hps.fr K (by decide) p hp
    .simp at hp;subst hp;exact⟨s,(hob.fr k0 (by decide)).fr k1 (by decide)⟩
   exact⟨_,rfl,⟨_,_,rfl,⟨om,by decide,ZD.new' (by simp) _ _⟩⟩,ZZ.fr (Tt:= []) (B':=B) Fr.au (by simp) ⟨sv,_,av,ps++ [w.heap.size],hB,by simpa [Mk.add]using hb2,by simpa [Mk.add]using ZE K hsv (by decide),
    by simpa using ZE k1 h1 (by decide),hps1,by simp[Mk.add];omega,ZE K hav (by decide)⟩,Fr.au⟩
theorem Va (B b:Nat) (M:Mk) (tok:Int) (s:ByteArray) (w:World) (h:ZZ w B b M) (hm:M.small 100000):
  Calls prog 126 #[b,.int .i64 tok,s] w fun e w'=> ∃ v,e=.returned v/\Xj (Hv w' w.heap.size) v tok s/\
   ZZ w' B b (M.add 0 0 (decide (0 < s.size)).toNat [])/\Fr [83,217] B w w':=by
 have hlt:=h.lt;by_cases h0:s.size=0
 .obtain rfl:=Vx h0;go_enter func126,ntmps126;go_wp2_with fail
  go_ret;exact⟨_,rfl,⟨_,_,rfl,Hv.new _ _ _ (by decide) (Z7 _),.inl ⟨rfl,rfl⟩⟩,(by simpa [Mk.add]using h.fr (Tt:= []) (B':=B) Fr.au (by simp)),Fr.au⟩
 .have h1:=Wa h0;have h2:=Wu h0;go_enter func126,ntmps126;go_wp2_with fail
  refine(Nm B b M s w h hm).mono ?_;rintro e w1 ⟨v,rfl,⟨a,o,rfl,hv⟩,h3,f1⟩;have s1:=f1.size;go_wp2_with fail
  go_ret;exact⟨_,rfl,⟨_,_,rfl,Hv.new _ _ _ (by decide) s1,.inr ⟨by omega,a,o,rfl,Hv.alloc _ _ (Z7 _) _ _ _ hv⟩⟩,(by rw[show(decide (0 < s.size)).toNat=1 by simp;omega];exact h3.fr (Tt:= []) (B':=B) Fr.au (by simp)),Fr.au⟩
end
section
theorem Mk.small.add {M:Mk} {k:Nat} {n i l:Nat} {s:List Bool} (h:(M.add n i l s).small k):M.small k:=by
 obtain⟨h1,h2,h3,h4,h5⟩:=h;simp[Mk.add]at h1 h2 h3 h4 h5;exact⟨by omega,by omega,by omega,by omega,h5⟩
theorem fD (B b0:Nat) (M:Mk) (w:World) (h:ZZ w B b0 M) (hm:(M.add 1 1 1 []).small 100000) (v1:Value) (v2:Value) (v3 v4 v5 v6 v7 v8 v9 v10:Value):
  Calls prog 109 #[b0,.agg #[.int .i64 1,v1,v2,v3,v4,v5,v6,v7,v8,v9,v10]] w fun e w'=> ∃ u,e=.returned u/\VH (Hv w' w.heap.size) u (lp M.leaves)/\
   ZZ w' B b0 (M.add 1 1 0 [false])/\Fr [83,4,217] B w w':=by
 have hlt:=h.lt;have hm0:=hm.add;have hm1:(M.add 0 1 0 []).small 100000:=by
  obtain⟨g1,g2,g3,g4,g5⟩:=hm;simp[Mk.add]at g1 g2 g3 g4 g5;exact⟨by simp[Mk.add];omega,by simp[Mk.add];omega,by simp[Mk.add];omega,by simp[Mk.add];omega,g5⟩
 go_enter func109,ntmps109;go_wp2_with fail
 refine(YP B b0 M _ (h.fr (Tt:= []) (B':=B) Fr.au (by simp)) hm0).mono ?_;rintro e w1 ⟨rfl,h1,f1⟩;have s1:=f1.size;have YC:ZD w1 w.heap.size _ _:=(ZD.new w [.int .i64 1,v1,v2,v3,v4,v5,v6,v7,v8,v9,v10] 125).fr f1 (by decide);simp at s1;have x0:=YC.cell 0 rfl;have x2:=YC.cell 2 rfl;go_wp2_with fail
 refine(Xn B b0 _ _ w1 h1 hm1).mono ?_;rintro e w2 ⟨rfl,h2,f2⟩;have s2:=f2.size;go_wp2_with fail
 refine(RU _ _).mono ?_;rintro e w3 ⟨a,rfl,ha,f3⟩;have s3:=f3.size;try simp at s3
 go_wp2_with fail
 go_ret;exact⟨_,rfl,⟨_,a,rfl,⟨om,by decide,ZD.new' (by simp) _ _⟩,ha.mono (Hv.fr (Tt:= []) (B:=B) Fr.au (by simp) (by omega))⟩,(by simpa [Mk.add_add]using h2.fr (Tt:= []) (B':=B) Fr.au (by simp)),Fr.au⟩
theorem fC (B b0:Nat) (M:Mk) (w:World) (h:ZZ w B b0 M) (hm:(M.add 1 1 1 []).small 100000) (v1:Value) (v2:Value) (v3 v4 v5 v6 v7 v8 v9 v10:Value):
  Calls prog 109 #[b0,.agg #[.int .i64 2,v1,v2,v3,v4,v5,v6,v7,v8,v9,v10]] w fun e w'=> ∃ u,e=.returned u/\VH (Hv w' w.heap.size) u (lp M.leaves)/\
   ZZ w' B b0 (M.add 1 1 0 [true])/\Fr [83,4,217] B w w':=by
 have hlt:=h.lt;have hm0:=hm.add;have hm1:(M.add 0 1 0 []).small 100000:=by
  obtain⟨g1,g2,g3,g4,g5⟩:=hm;simp[Mk.add]at g1 g2 g3 g4 g5;exact⟨by simp[Mk.add];omega,by simp[Mk.add];omega,by simp[Mk.add];omega,by simp[Mk.add];omega,g5⟩
 go_enter func109,ntmps109;go_wp2_with fail
 refine(YP B b0 M _ (h.fr (Tt:= []) (B':=B) Fr.au (by simp)) hm0).mono ?_;rintro e w1 ⟨rfl,h1,f1⟩;have s1:=f1.size;have YC:ZD w1 w.heap.size _ _:=(ZD.new w [.int .i64 2,v1,v2,v3,v4,v5,v6,v7,v8,v9,v10] 125).fr f1 (by decide);simp at s1;have x0:=YC.cell 0 rfl;have x2:=YC.cell 2 rfl;go_wp2_with fail
 refine(Xn B b0 _ _ w1 h1 hm1).mono ?_;rintro e w2 ⟨rfl,h2,f2⟩;have s2:=f2.size;go_wp2_with fail
 refine(RU _ _).mono ?_;rintro e w3 ⟨a,rfl,ha,f3⟩;have s3:=f3.size;try simp at s3
 go_wp2_with fail
 go_ret;exact⟨_,rfl,⟨_,a,rfl,⟨om,by decide,ZD.new' (by simp) _ _⟩,ha.mono (Hv.fr (Tt:= []) (B:=B) Fr.au (by simp) (by omega))⟩,(by simpa [Mk.add_add]using h2.fr (Tt:= []) (B':=B) Fr.au (by simp)),Fr.au⟩
theorem fB (B b0:Nat) (M:Mk) (w:World) (h:ZZ w B b0 M) (hm:(M.add 1 1 1 []).small 100000) (v1:Value) (v2:Value) (v3 v4 v5 v6 v7 v8 v9 v10:Value):
  Calls prog 109 #[b0,.agg #[.int .i64 3,v1,v2,v3,v4,v5,v6,v7,v8,v9,v10]] w fun e w'=> ∃ u,e=.returned u/\XI (Hv w' w.heap.size) u (lp M.leaves)/\
   ZZ w' B b0 (M.add 1 1 0 [false])/\Fr [83,4,217] B w w':=by
 have hlt:=h.lt;have hm0:=hm.add;have hm1:(M.add 0 1 0 []).small 100000:=by
  obtain⟨g1,g2,g3,g4,g5⟩:=hm;simp[Mk.add]at g1 g2 g3 g4 g5;exact⟨by simp[Mk.add];omega,by simp[Mk.add];omega,by simp[Mk.add];omega,by simp[Mk.add];omega,g5⟩
 go_enter func109,ntmps109;go_wp2_with fail
 refine(YP B b0 M _ (h.fr (Tt:= []) (B':=B) Fr.au (by simp)) hm0).mono ?_;rintro e w1 ⟨rfl,h1,f1⟩;have s1:=f1.size;have YC:ZD w1 w.heap.size _ _:=(ZD.new w [.int .i64 3,v1,v2,v3,v4,v5,v6,v7,v8,v9,v10] 125).fr f1 (by decide);simp at s1;have x0:=YC.cell 0 rfl;have x2:=YC.cell 2 rfl;go_wp2_with fail
 refine(Pj B b0 _ w1 h1 hm1).mono ?_;rintro e w2 ⟨v,rfl,ha,h2,f2⟩;go_wp2_with fail
 go_ret;exact⟨_,rfl,ha.mono (Hv.fr (Tt:= []) (B:=B) Fr.au (by simp) (by omega)),(by simpa [Mk.add_add]using h2.fr (Tt:= []) (B':=B) Fr.au (by simp)),Fr.au⟩
theorem fz (B b0:Nat) (M:Mk) (w:World) (h:ZZ w B b0 M) (hm:(M.add 1 1 1 []).small 100000) (v1:Value) (v2:Value) (v3 v4 v5 v6 v7 v8 v9 v10:Value):
  Calls prog 109 #[b0,.agg #[.int .i64 4,v1,v2,v3,v4,v5,v6,v7,v8,v9,v10]] w fun e w'=> ∃ u,e=.returned u/\JG (Hv w' w.heap.size) u (lp M.leaves)/\
   ZZ w' B b0 (M.add 1 1 0 [false])/\Fr [83,4,217] B w w':=by
 have hlt:=h.lt;have hm0:=hm.add;have hm1:(M.add 0 1 0 []).small 100000:=by
  obtain⟨g1,g2,g3,g4,g5⟩:=hm;simp[Mk.add]at g1 g2 g3 g4 g5;exact⟨by simp[Mk.add];omega,by simp[Mk.add];omega,by simp[Mk.add];omega,by simp[Mk.add];omega,g5⟩
 go_enter func109,ntmps109;go_wp2_with fail
 refine(YP B b0 M _ (h.fr (Tt:= []) (B':=B) Fr.au (by simp)) hm0).mono ?_;rintro e w1 ⟨rfl,h1,f1⟩;have s1:=f1.size;have YC:ZD w1 w.heap.size _ _:=(ZD.new w [.int .i64 4,v1,v2,v3,v4,v5,v6,v7,v8,v9,v10] 125).fr f1 (by decide);simp at s1;have x0:=YC.cell 0 rfl;have x2:=YC.cell 2 rfl;go_wp2_with fail
 refine(Xn B b0 _ _ w1 h1 hm1).mono ?_;rintro e w2 ⟨rfl,h2,f2⟩;have s2:=f2.size;go_wp2_with fail
 refine(name_any _ _).mono ?_;rintro e w3 ⟨a,rfl,ha,f3⟩;have s3:=f3.size;try simp at s3
 go_wp2_with fail
 go_ret;exact⟨_,rfl,⟨_,_,rfl,⟨om,by decide,ZD.new' (by simp) _ _⟩,a,rfl,ha.mono (Hv.fr (Tt:= []) (B:=B) Fr.au (by simp) (by omega))⟩,(by simpa [Mk.add_add]using h2.fr (Tt:= []) (B':=B) Fr.au (by simp)),Fr.au⟩
theorem fq (B b0:Nat) (M:Mk) (w:World) (h:ZZ w B b0 M) (hm:(M.add 1 1 1 []).small 100000) (v1:Value) (v2:Value) (v3 v4 v5 v6 v7 v8 v9 v10:Value):
  Calls prog 109 #[b0,.agg #[.int .i64 5,v1,v2,v3,v4,v5,v6,v7,v8,v9,v10]] w fun e w'=> ∃ u,e=.returned u/\Pm (Hv w' w.heap.size) u (lp M.leaves)/\
   ZZ w' B b0 (M.add 1 1 0 [false])/\Fr [83,4,217] B w w':=by
 have hlt:=h.lt;have hm0:=hm.add;have hm1:(M.add 0 1 0 []).small 100000:=by
  obtain⟨g1,g2,g3,g4,g5⟩:=hm;simp[Mk.add]at g1 g2 g3 g4 g5;exact⟨by simp[Mk.add];omega,by simp[Mk.add];omega,by simp[Mk.add];omega,by simp[Mk.add];omega,g5⟩
 go_enter func109,ntmps109;go_wp2_with fail
 refine(YP B b0 M _ (h.fr (Tt:= []) (B':=B) Fr.au (by simp)) hm0).mono ?_;rintro e w1 ⟨rfl,h1,f1⟩;have s1:=f1.size;have YC:ZD w1 w.heap.size _ _:=(ZD.new w [.int .i64 5,v1,v2,v3,v4,v5,v6,v7,v8,v9,v10] 125).fr f1 (by decide);simp at s1;have x0:=YC.cell 0 rfl;have x2:=YC.cell 2 rfl;go_wp2_with fail
 refine(Xn B b0 _ _ w1 h1 hm1).mono ?_;rintro e w2 ⟨rfl,h2,f2⟩;have s2:=f2.size;go_wp2_with fail
 refine(name_any _ _).mono ?_;rintro e w3 ⟨a,rfl,ha,f3⟩;have s3:=f3.size;try simp at s3
 go_wp2_with fail
 refine(name_any _ _).mono ?_;rintro e w4 ⟨c,rfl,hc,f4⟩;have s4:=f4.size;try simp at s4
 go_wp2_with fail
 go_ret;exact⟨_,rfl,⟨_,_,_,rfl,⟨om,by decide,ZD.new' (by simp) _ _⟩,a,rfl,ha.mono (Hv.fr (Tt:= []) (B:=B) Fr.au (by simp) (by omega))⟩,(by simpa [Mk.add_add]using h2.fr (Tt:= []) (B':=B) Fr.au (by simp)),Fr.au⟩
theorem fp (B b0:Nat) (M:Mk) (w:World) (h:ZZ w B b0 M) (hm:(M.add 1 1 1 []).small 100000) (v1:Value) (v2:Value) (v3 v4 v5 v6 v7 v8 v9 v10:Value):
  Calls prog 109 #[b0,.agg #[.int .i64 6,v1,v2,v3,v4,v5,v6,v7,v8,v9,v10]] w fun e w'=> ∃ u,e=.returned u/\uS (Hv w' w.heap.size) u (lp M.leaves)/\
   ZZ w' B b0 (M.add 1 1 0 [false])/\Fr [83,4,217] B w w':=by
 have hlt:=h.lt;have hm0:=hm.add;have hm1:(M.add 0 1 0 []).small 100000:=by
  obtain⟨g1,g2,g3,g4,g5⟩:=hm;simp[Mk.add]at g1 g2 g3 g4 g5;exact⟨by simp[Mk.add];omega,by simp[Mk.add];omega,by simp[Mk.add];omega,by simp[Mk.add];omega,g5⟩
 go_enter func109,ntmps109;go_wp2_with fail
 refine(YP B b0 M _ (h.fr (Tt:= []) (B':=B) Fr.au (by simp)) hm0).mono ?_;rintro e w1 ⟨rfl,h1,f1⟩;have s1:=f1.size;have YC:ZD w1 w.heap.size _ _:=(ZD.new w [.int .i64 6,v1,v2,v3,v4,v5,v6,v7,v8,v9,v10] 125).fr f1 (by decide);simp at s1;have x0:=YC.cell 0 rfl;have x2:=YC.cell 2 rfl;go_wp2_with fail
 refine(Xn B b0 _ _ w1 h1 hm1).mono ?_;rintro e w2 ⟨rfl,h2,f2⟩;have s2:=f2.size;go_wp2_with fail
 refine(RU _ _).mono ?_;rintro e w3 ⟨a,rfl,ha,f3⟩;have s3:=f3.size;try simp at s3
 go_wp2_with fail
 go_ret;exact⟨_,rfl,⟨_,_,rfl,⟨om,by decide,ZD.new' (by simp) _ _⟩⟩,(by simpa [Mk.add_add]using h2.fr (Tt:= []) (B':=B) Fr.au (by simp)),Fr.au⟩
theorem fk (B b0:Nat) (M:Mk) (w:World) (h:ZZ w B b0 M) (hm:(M.add 1 1 1 []).small 100000) (v1:Value) (v2:Value) (v3 v4 v5 v6 v7 v8 v9 v10:Value):
  Calls prog 109 #[b0,.agg #[.int .i64 7,v1,v2,v3,v4,v5,v6,v7,v8,v9,v10]] w fun e w'=> ∃ u,e=.returned u/\Sr (Hv w' w.heap.size) u (lp M.leaves)/\
   ZZ w' B b0 (M.add 1 1 0 [false])/\Fr [83,4,217] B w w':=by
 have hlt:=h.lt;have hm0:=hm.add;have hm1:(M.add 0 1 0 []).small 100000:=by
  obtain⟨g1,g2,g3,g4,g5⟩:=hm;simp[Mk.add]at g1 g2 g3 g4 g5;exact⟨by simp[Mk.add];omega,by simp[Mk.add];omega,by simp[Mk.add];omega,by simp[Mk.add];omega,g5⟩
 go_enter func109,ntmps109;go_wp2_with fail
 refine(YP B b0 M _ (h.fr (Tt:= []) (B':=B) Fr.au (by simp)) hm0).mono ?_;rintro e w1 ⟨rfl,h1,f1⟩;have s1:=f1.size;have YC:ZD w1 w.heap.size _ _:=(ZD.new w [.int .i64 7,v1,v2,v3,v4,v5,v6,v7,v8,v9,v10] 125).fr f1 (by decide);simp at s1;have x0:=YC.cell 0 rfl;have x2:=YC.cell 2 rfl;go_wp2_with fail
 refine(Xn B b0 _ _ w1 h1 hm1).mono ?_;rintro e w2 ⟨rfl,h2,f2⟩;have s2:=f2.size;go_wp2_with fail
 refine(RU _ _).mono ?_;rintro e w3 ⟨a,rfl,ha,f3⟩;have s3:=f3.size;try simp at s3
 go_wp2_with fail
 go_ret;exact⟨_,rfl,⟨_,_,rfl,⟨om,by decide,ZD.new' (by simp) _ _⟩⟩,(by simpa [Mk.add_add]using h2.fr (Tt:= []) (B':=B) Fr.au (by simp)),Fr.au⟩
theorem fj (B b0:Nat) (M:Mk) (w:World) (h:ZZ w B b0 M) (hm:(M.add 1 1 1 []).small 100000) (v1:Value) (v2:Value) (v3 v4 v5 v6 v7 v8 v9 v10:Value):
  Calls prog 109 #[b0,.agg #[.int .i64 9,v1,v2,v3,v4,v5,v6,v7,v8,v9,v10]] w fun e w'=> ∃ u,e=.returned u/\Wc (Hv w' w.heap.size) u (lp M.leaves)/\
   ZZ w' B b0 (M.add 1 1 0 [false])/\Fr [83,4,217] B w w':=by
 have hlt:=h.lt;have hm0:=hm.add;have hm1:(M.add 0 1 0 []).small 100000:=by
  obtain⟨g1,g2,g3,g4,g5⟩:=hm;simp[Mk.add]at g1 g2 g3 g4 g5;exact⟨by simp[Mk.add];omega,by simp[Mk.add];omega,by simp[Mk.add];omega,by simp[Mk.add];omega,g5⟩
 go_enter func109,ntmps109;go_wp2_with fail
 refine(YP B b0 M _ (h.fr (Tt:= []) (B':=B) Fr.au (by simp)) hm0).mono ?_;rintro e w1 ⟨rfl,h1,f1⟩;have s1:=f1.size;have YC:ZD w1 w.heap.size _ _:=(ZD.new w [.int .i64 9,v1,v2,v3,v4,v5,v6,v7,v8,v9,v10] 125).fr f1 (by decide);simp at s1;have x0:=YC.cell 0 rfl;have x2:=YC.cell 2 rfl;go_wp2_with fail
 refine(Xn B b0 _ _ w1 h1 hm1).mono ?_;rintro e w2 ⟨rfl,h2,f2⟩;have s2:=f2.size;go_wp2_with fail
 go_ret;exact⟨_,rfl,⟨_,rfl,⟨om,by decide,ZD.new' (by simp) _ _⟩⟩,(by simpa [Mk.add_add]using h2.fr (Tt:= []) (B':=B) Fr.au (by simp)),Fr.au⟩
theorem fi (B b0:Nat) (M:Mk) (w:World) (h:ZZ w B b0 M) (hm:(M.add 1 1 1 []).small 100000) (v1:Value) (v2:Value) (v3 v4 v5 v6 v7 v8 v9 v10:Value):
  Calls prog 109 #[b0,.agg #[.int .i64 8,v1,v2,v3,v4,v5,v6,v7,v8,v9,v10]] w fun e w'=> ∃ u,e=.returned u/\F5 (Hv w' w.heap.size) u (lp M.leaves)/\
   ZZ w' B b0 (M.add 1 1 0 [false])/\Fr [83,4,217] B w w':=by
 have hlt:=h.lt;have hm0:=hm.add;have hm1:(M.add 0 1 0 []).small 100000:=by
  obtain⟨g1,g2,g3,g4,g5⟩:=hm;simp[Mk.add]at g1 g2 g3 g4 g5;exact⟨by simp[Mk.add];omega,by simp[Mk.add];omega,by simp[Mk.add];omega,by simp[Mk.add];omega,g5⟩
 go_enter func109,ntmps109;go_wp2_with fail
 refine(YP B b0 M _ (h.fr (Tt:= []) (B':=B) Fr.au (by simp)) hm0).mono ?_;rintro e w1 ⟨rfl,h1,f1⟩;have s1:=f1.size;have YC:ZD w1 w.heap.size _ _:=(ZD.new w [.int .i64 8,v1,v2,v3,v4,v5,v6,v7,v8,v9,v10] 125).fr f1 (by decide);simp at s1;have x0:=YC.cell 0 rfl;have x2:=YC.cell 2 rfl;go_wp2_with fail
 refine(Xn B b0 _ _ w1 h1 hm1).mono ?_;rintro e w2 ⟨rfl,h2,f2⟩;have s2:=f2.size;go_wp2_with fail
 refine(name_any _ _).mono ?_;rintro e w3 ⟨a,rfl,ha,f3⟩;have s3:=f3.size;try simp at s3
 go_wp2_with fail
 refine(name_any _ _).mono ?_;rintro e w4 ⟨c,rfl,hc,f4⟩;have s4:=f4.size;simp at s4;have e4:ZD w4 w3.heap.size _ _:=(ZD.new w3 [a] 188).fr f4 (by decide);go_wp2_with fail
 go_ret
 exact⟨_,rfl,⟨_,w4.heap.size+1+1+1,w4.heap.size+1+1,_,rfl,⟨om,by decide,ZD.new' (by simp) _ _⟩,⟨om,by decide,(ZD.new' (by simp) _ _).alloc _⟩,⟨om,by decide,((ZD.new' (by simp) _ _).alloc _).alloc _⟩,
  w4.heap.size+1,w3.heap.size,a,.slice (some ⟨w4.heap.size,0,none⟩) 1 1,rfl,⟨om,by decide,(((ZD.new' (by simp) _ _).alloc _).alloc _).alloc _⟩,⟨om,by decide,((((e4.alloc _).alloc _).alloc _).alloc _).alloc _⟩,ha.mono (Hv.fr (Tt:= []) (B:=B) Fr.au (by simp) (by omega))⟩,(by simpa [Mk.add_add]using h2.fr (Tt:= []) (B':=B) Fr.au (by simp)),Fr.au⟩
theorem pJ (B b0:Nat) (M:Mk) (w:World) (h:ZZ w B b0 M) (hm:(M.add 1 1 1 []).small 100000) (v1:Value) (tg:ByteArray) (v3 v4 v5 v6 v7 v8 v9 v10:Value):
  Calls prog 109 #[b0,.agg #[.int .i64 17,v1,tg,v3,v4,v5,v6,v7,v8,v9,v10]] w fun e w'=> ∃ u,e=.returned u/\Xj (Hv w' w.heap.size) u 61 tg/\
   ZZ w' B b0 (M.add 0 1 (decide (0 < tg.size)).toNat [])/\Fr [83,4,217] B w w':=by
 have hlt:=h.lt;have hm0:=hm.add;have hm1:(M.add 0 1 0 []).small 100000:=by
  obtain⟨g1,g2,g3,g4,g5⟩:=hm;simp[Mk.add]at g1 g2 g3 g4 g5;exact⟨by simp[Mk.add];omega,by simp[Mk.add];omega,by simp[Mk.add];omega,by simp[Mk.add];omega,g5⟩
 go_enter func109,ntmps109;go_wp2_with fail
 refine(YP B b0 M _ (h.fr (Tt:= []) (B':=B) Fr.au (by simp)) hm0).mono ?_;rintro e w1 ⟨rfl,h1,f1⟩;have s1:=f1.size;have YC:ZD w1 w.heap.size _ _:=(ZD.new w [.int .i64 17,v1,tg,v3,v4,v5,v6,v7,v8,v9,v10] 125).fr f1 (by decide);simp at s1;have x0:=YC.cell 0 rfl;have x2:=YC.cell 2 rfl;go_wp2_with fail
 refine(Va B b0 _ _ tg w1 h1 hm1).mono ?_;rintro e w2 ⟨v,rfl,ha,h2,f2⟩;go_wp2_with fail
 go_ret;exact⟨_,rfl,ha.mono (Hv.fr (Tt:= []) (B:=B) Fr.au (by simp) (by omega)),(by simpa [Mk.add_add]using h2.fr (Tt:= []) (B':=B) Fr.au (by simp)),Fr.au⟩
theorem pI (B b0:Nat) (M:Mk) (w:World) (h:ZZ w B b0 M) (hm:(M.add 1 1 1 []).small 100000) (v1:Value) (tg:ByteArray) (v3 v4 v5 v6 v7 v8 v9 v10:Value):
  Calls prog 109 #[b0,.agg #[.int .i64 18,v1,tg,v3,v4,v5,v6,v7,v8,v9,v10]] w fun e w'=> ∃ u,e=.returned u/\Xj (Hv w' w.heap.size) u 65 tg/\
   ZZ w' B b0 (M.add 0 1 (decide (0 < tg.size)).toNat [])/\Fr [83,4,217] B w w':=by
 have hlt:=h.lt;have hm0:=hm.add;have hm1:(M.add 0 1 0 []).small 100000:=by
  obtain⟨g1,g2,g3,g4,g5⟩:=hm;simp[Mk.add]at g1 g2 g3 g4 g5;exact⟨by simp[Mk.add];omega,by simp[Mk.add];omega,by simp[Mk.add];omega,by simp[Mk.add];omega,g5⟩
 go_enter func109,ntmps109;go_wp2_with fail
 refine(YP B b0 M _ (h.fr (Tt:= []) (B':=B) Fr.au (by simp)) hm0).mono ?_;rintro e w1 ⟨rfl,h1,f1⟩;have s1:=f1.size;have YC:ZD w1 w.heap.size _ _:=(ZD.new w [.int .i64 18,v1,tg,v3,v4,v5,v6,v7,v8,v9,v10] 125).fr f1 (by decide);simp at s1;have x0:=YC.cell 0 rfl;have x2:=YC.cell 2 rfl;go_wp2_with fail
 refine(Va B b0 _ _ tg w1 h1 hm1).mono ?_;rintro e w2 ⟨v,rfl,ha,h2,f2⟩;go_wp2_with fail
 go_ret;exact⟨_,rfl,ha.mono (Hv.fr (Tt:= []) (B:=B) Fr.au (by simp) (by omega)),(by simpa [Mk.add_add]using h2.fr (Tt:= []) (B':=B) Fr.au (by simp)),Fr.au⟩
theorem pH (B b0:Nat) (M:Mk) (w:World) (h:ZZ w B b0 M) (hm:(M.add 1 1 1 []).small 100000) (v1:Value) (tg:ByteArray) (v3 v4 v5 v6 v7 v8 v9 v10:Value):
  Calls prog 109 #[b0,.agg #[.int .i64 19,v1,tg,v3,v4,v5,v6,v7,v8,v9,v10]] w fun e w'=> ∃ u,e=.returned u/\Xj (Hv w' w.heap.size) u 73 tg/\
   ZZ w' B b0 (M.add 0 1 (decide (0 < tg.size)).toNat [])/\Fr [83,4,217] B w w':=by
 have hlt:=h.lt;have hm0:=hm.add;have hm1:(M.add 0 1 0 []).small 100000:=by
  obtain⟨g1,g2,g3,g4,g5⟩:=hm;simp[Mk.add]at g1 g2 g3 g4 g5;exact⟨by simp[Mk.add];omega,by simp[Mk.add];omega,by simp[Mk.add];omega,by simp[Mk.add];omega,g5⟩
 go_enter func109,ntmps109;go_wp2_with fail
 refine(YP B b0 M _ (h.fr (Tt:= []) (B':=B) Fr.au (by simp)) hm0).mono ?_;rintro e w1 ⟨rfl,h1,f1⟩;have s1:=f1.size;have YC:ZD w1 w.heap.size _ _:=(ZD.new w [.int .i64 19,v1,tg,v3,v4,v5,v6,v7,v8,v9,v10] 125).fr f1 (by decide);simp at s1;have x0:=YC.cell 0 rfl;have x2:=YC.cell 2 rfl;go_wp2_with fail
 refine(Va B b0 _ _ tg w1 h1 hm1).mono ?_;rintro e w2 ⟨v,rfl,ha,h2,f2⟩;go_wp2_with fail
 go_ret;exact⟨_,rfl,ha.mono (Hv.fr (Tt:= []) (B:=B) Fr.au (by simp) (by omega)),(by simpa [Mk.add_add]using h2.fr (Tt:= []) (B':=B) Fr.au (by simp)),Fr.au⟩
theorem pG (B b0:Nat) (M:Mk) (w:World) (h:ZZ w B b0 M) (hm:(M.add 1 1 1 []).small 100000) (v1:Value) (v2:Value) (v3 v4 v5 v6 v7 v8 v9 v10:Value):
  Calls prog 109 #[b0,.agg #[.int .i64 20,v1,v2,v3,v4,v5,v6,v7,v8,v9,v10]] w fun e w'=> ∃ u,e=.returned u/\Xj (Hv w' w.heap.size) u 69 ByteArray.empty/\
   ZZ w' B b0 (M.add 0 1 0 [])/\Fr [83,4,217] B w w':=by
 have hlt:=h.lt;have hm0:=hm.add;have hm1:(M.add 0 1 0 []).small 100000:=by
  obtain⟨g1,g2,g3,g4,g5⟩:=hm;simp[Mk.add]at g1 g2 g3 g4 g5;exact⟨by simp[Mk.add];omega,by simp[Mk.add];omega,by simp[Mk.add];omega,by simp[Mk.add];omega,g5⟩
 go_enter func109,ntmps109;go_wp2_with fail
 refine(YP B b0 M _ (h.fr (Tt:= []) (B':=B) Fr.au (by simp)) hm0).mono ?_;rintro e w1 ⟨rfl,h1,f1⟩;have s1:=f1.size;have YC:ZD w1 w.heap.size _ _:=(ZD.new w [.int .i64 20,v1,v2,v3,v4,v5,v6,v7,v8,v9,v10] 125).fr f1 (by decide);simp at s1;have x0:=YC.cell 0 rfl;have x2:=YC.cell 2 rfl;go_wp2_with fail
 refine(Va B b0 _ _ ByteArray.empty w1 h1 hm1).mono ?_;rintro e w2 ⟨v,rfl,ha,h2,f2⟩;go_wp2_with fail
 go_ret;exact⟨_,rfl,ha.mono (Hv.fr (Tt:= []) (B:=B) Fr.au (by simp) (by omega)),(by simpa [Mk.add_add]using h2.fr (Tt:= []) (B':=B) Fr.au (by simp)),Fr.au⟩
theorem pF (B b0:Nat) (M:Mk) (w:World) (h:ZZ w B b0 M) (hm:(M.add 1 1 1 []).small 100000) (v1:Value) (v2:Value) (v3 v4 v5 v6 v7 v8 v9 v10:Value):
  Calls prog 109 #[b0,.agg #[.int .i64 21,v1,v2,v3,v4,v5,v6,v7,v8,v9,v10]] w fun e w'=> ∃ u,e=.returned u/\Sp (Hv w' w.heap.size) u/\
   ZZ w' B b0 (M.add 0 1 0 [])/\Fr [83,4,217] B w w':=by
 have hlt:=h.lt;have hm0:=hm.add;have hm1:(M.add 0 1 0 []).small 100000:=by
  obtain⟨g1,g2,g3,g4,g5⟩:=hm;simp[Mk.add]at g1 g2 g3 g4 g5;exact⟨by simp[Mk.add];omega,by simp[Mk.add];omega,by simp[Mk.add];omega,by simp[Mk.add];omega,g5⟩
 go_enter func109,ntmps109;go_wp2_with fail
 refine(YP B b0 M _ (h.fr (Tt:= []) (B':=B) Fr.au (by simp)) hm0).mono ?_;rintro e w1 ⟨rfl,h1,f1⟩;have s1:=f1.size;have YC:ZD w1 w.heap.size _ _:=(ZD.new w [.int .i64 21,v1,v2,v3,v4,v5,v6,v7,v8,v9,v10] 125).fr f1 (by decide);simp at s1;have x0:=YC.cell 0 rfl;have x2:=YC.cell 2 rfl;go_wp2_with fail
 go_ret;exact⟨_,rfl,⟨_,rfl,⟨om,by decide,ZD.new' (by simp) _ _⟩⟩,(by simpa [Mk.add_add]using h1.fr (Tt:= []) (B':=B) Fr.au (by simp)),Fr.au⟩
end
end Go.Proofs.YteedbaejpdjilaaGreat
