/- Part of the proof: MakeA MakeB MakeC. -/
import Derived.Test.YteedbaejpdjilaaGreatXPa
set_option linter.all false
set_option maxRecDepth 100000
set_option maxHeartbeats 40000000
namespace Go.Proofs.YteedbaejpdjilaaGreat
open Go.RowKit
section
theorem om {p:Prop} (h:p:=by first|omega|(simp;omega) |simp):p:=h
theorem Fr.av {T:List Nat} {B:Nat} {a b:World} (h:Fr T B a b:=by repeat' (first|exact Fr.refl _ _ _|assumption|(refine Fr.alloc ?_ (by first|omega|(simp;omega)) _) |(refine Fr.drew ?_) |(refine Fr.back (by assumption) (by decide) (by first|omega|(simp;omega)) ?_))):Fr T B a b:=h
theorem Fr.au {T:List Nat} {B:Nat} {a b:World} (h:Fr T B a b:=by repeat' (first|exact Fr.refl _ _ _|assumption|(refine Fr.back (by assumption) (by decide) (by first|omega|(simp;omega)) ?_) |(refine Fr.alloc ?_ (by first|omega|(simp;omega)) _) |(refine Fr.drew ?_))):Fr T B a b:=h
structure Mk where
 leaves:Nat
 items:Nat
 nlab:Nat
 stops:List Bool
 asked:List Int
def Mk.add (M:Mk) (n i l:Nat) (s:List Bool):Mk:= { M with leaves:=M.leaves+n,items:=M.items+i,nlab:=M.nlab+l,stops:=M.stops++s }
theorem Mk.add_add (M:Mk) (n i l n' i' l':Nat) (s s':List Bool):(M.add n i l s).add n' i' l' s'=M.add (n+n') (i+i') (l+l') (s++s'):=by
 simp[Mk.add,Nat.add_assoc]
theorem Mk.add_zero (M:Mk):M.add 0 0 0 []=M:=by simp[Mk.add]
def Mk.small (M:Mk) (k:Nat):Prop:=M.leaves<=k∧M.items<=k∧M.nlab<=k∧M.stops.length<=k∧M.asked.length<=k
def mkT:List Nat:= [83,4,217,3]
def Qp (w:World) (ps:List Nat):Prop:= ∀ p∈ps,∃ s,ZV w p [.int .i64 6,.string s,.nilIface,.nilIface,.nilIface] 265
def Z8 (w:World) (B b:Nat) (M:Mk):Prop:= ∃ (sv lv av:Value) (ps:List Nat),
 B<=b∧ZV w b [.int .i64 M.leaves,.int .i64 M.items,sv,lv,av] 83∧
 w.ownsRow B 4 1 sv M.stops.length (M.stops.map Value.bool)∧
 w.ownsRow B 217 1 lv ps.length (ps.map fun p=>.pointer (some ⟨p,0,none⟩))∧Qp w ps∧ps.length<=M.nlab∧
 w.ownsRow B 3 1 av M.asked.length (M.asked.map (Value.int .i64))
theorem Qp.fr {Tt:List Nat} {B:Nat} {w w':World} (hf:Fr Tt B w w') (ht:265∉Tt) {ps:List Nat} (h:Qp w ps):Qp w' ps:=
 fun p hp=>let⟨s,hs⟩:=h p hp;⟨s,hs.fr hf ht⟩
theorem Z8.lt {w:World} {B b:Nat} {M:Mk} (h:Z8 w B b M):B<=b∧b < w.heap.size:=by
 obtain⟨sv,lv,av,ps,hB,hb,_⟩:=h;exact⟨hB,hb.lt⟩
theorem Z8.fr {Tt:List Nat} {B B':Nat} {w w':World} (hf:Fr Tt B' w w') (ht: ∀ t∈ [83,4,217,3,265],t∉Tt) {b:Nat} {M:Mk} (h:Z8 w B b M):Z8 w' B b M:=by
 obtain⟨sv,lv,av,ps,hB,hb,hsv,hlv,hps,hn,hav⟩:=h;exact⟨sv,lv,av,ps,hB,hb.fr hf (ht _ (by simp)),ZU hf hsv (ht _ (by simp)),ZU hf hlv (ht _ (by simp)),hps.fr hf (ht _ (by simp)),hn,ZU hf hav (ht _ (by simp))⟩
theorem info4:(Tryz.prog.info? 4).map (fun i=>(i.zero,i.size,i.bytes))=some (some (.bool false),1,1):=by kernel_rfl
theorem Bq:(Tryz.prog.info? 217).map (fun i=>(i.zero,i.size,i.bytes))=some (some (.pointer none),1,8):=by kernel_rfl
theorem Jv (n:Int) (h0:0<=n) (h1:n<=1000000) (w:World):
  Calls Tryz.prog 131 #[.int .i64 n] w fun e w'=>e=.returned (.int .i64 (10+2*n))∧w=w':=by
 go_enter Tryz.func131,Tryz.ntmps131
 go_wp2
 go_ret;exact⟨rfl,rfl⟩
theorem Kw (n:Int) (h0:0<=n) (h1:n<=1000000) (w:World):
  Calls Tryz.prog 130 #[.int .i64 n] w fun e w'=>e=.returned (.int .i64 (10+2*n+1))∧w=w':=by
 go_enter Tryz.func130,Tryz.ntmps130
 go_wp2
 go_ret;exact⟨rfl,rfl⟩
theorem Yl (B b:Nat) (M:Mk) (s:Bool) (w:World) (h:Z8 w B b M) (hm:M.small 100000):
  Calls Tryz.prog 123 #[b,s] w fun e w'=>e=.returned (.int .i64 (lp M.leaves))∧
   Z8 w' B b (M.add 1 0 0 [s])∧Fr [83,4] B w w':=by
 obtain⟨sv,lv,av,ps,hB,hb,hsv,hlv,hps,hn,hav⟩:=h;obtain⟨hl,_,_,hs,_⟩:=hm;have hlt:=hb.lt;have c0:=hb.cell 0 rfl;have c2:=hb.cell 2 rfl;have f0:=hb.free 0;have f2:=hb.free 2;go_enter Tryz.func123,Tryz.ntmps123;go_wp2_with (at_builtin;refine ZG w rfl _ _ 26 rfl B 4 (.bool false) 1 1 Tryz.underlying26 info4 rfl (by decide) (by decide) hsv (by rfl) [s] rfl ?c1 (by rfl) (by omega) (by omega) ?_)
 case c1=>simp[Value.oneCell']
 intro g cap w1 h1 hg hat hg1;have hb1:=hb.grown hg (own_ne hsv hb.ty (by decide));clear c0 c2 f0 f2;have c0:=hb1.cell 0 rfl;have c2:=hb1.cell 2 rfl;have f0:=hb1.free 0;have f2:=hb1.free 2;have hb2:=(hb1.set 2 (.slice (some ⟨g,0,none⟩) (M.stops.length+1) cap))
 have hb3:=hb2.set 0 (.int .i64 (M.leaves+1));have k1:Fr [83] B w1 _:=((Fr.refl _ _ _).Y1 _ _ hb1.ty (by decide) hB).Y1 ⟨b,0,none⟩ (.int .i64 (M.leaves+1)) hb2.ty (by decide) hB;have k0:Fr [83,4] B w w1:=(Fr.refl _ _ _).grown hsv hg (by omega) (Nat.le_refl _) (.inl (by decide));have K:=k0.trans (k1.mono (by simp) (Nat.le_refl _));go_wp2_with fail
 refine(Jv _ (by omega) (by omega) _).mono ?_;rintro e w2 ⟨rfl,rfl⟩;go_wp2_with fail
 go_ret;exact⟨rfl,⟨_,lv,av,ps,hB,by simpa [Mk.add]using hb3,by simpa [Mk.add]using ZU k1 h1 (by decide),ZU K hlv (by decide),hps.fr K (by decide),hn,ZU K hav (by decide)⟩,K⟩
theorem Zw (B b:Nat) (M:Mk) (w:World) (h:Z8 w B b M) (hm:M.small 100000):
  Calls Tryz.prog 121 #[b] w fun e w'=>e=.returned (.int .i64 (ip M.items))∧
   Z8 w' B b (M.add 0 1 0 [])∧Fr [83] B w w':=by
 obtain⟨sv,lv,av,ps,hB,hb,hsv,hlv,hps,hn,hav⟩:=h;obtain⟨_,hl,_,hs,_⟩:=hm;have c1:=hb.cell 1 rfl;have f1:=hb.free 1;have hb3:=hb.set 1 (.int .i64 (M.items+1));have K:Fr [83] B w _:=(Fr.refl _ _ _).Y1 ⟨b,1,none⟩ (.int .i64 (M.items+1)) hb.ty (by decide) hB;go_enter Tryz.func121,Tryz.ntmps121;go_wp2_with fail
 refine(Kw _ (by omega) (by omega) _).mono ?_;rintro e w2 ⟨rfl,rfl⟩;go_wp2_with fail
 go_ret;exact⟨rfl,⟨_,lv,av,ps,hB,by simpa [Mk.add]using hb3,by simpa [Mk.add]using ZU K hsv (by decide),ZU K hlv (by decide),hps.fr K (by decide),hn,ZU K hav (by decide)⟩,K⟩
theorem name_any (pos:Int) (w:World):
  Calls Tryz.prog 125 #[.int .i64 pos] w fun e w'=> ∃ a,e=.returned (.pointer (some ⟨a,0,none⟩))∧WJ (Hv w' w.heap.size) a pos∧Fr [] w.heap.size w w':=by
 go_enter Tryz.func125,Tryz.ntmps125;go_wp2_with fail
 go_ret;exact⟨_,rfl,⟨_,_,Nat.le_refl _,by decide,ZV.new _ _ _⟩,(Fr.refl _ _ _).alloc (Nat.le_refl _) _⟩
theorem Hv.nil {B:Nat} {w w':World} (hf:Fr [] B w w') {lo lo':Nat} (hlo:lo'<=lo): ∀ b cs t,Hv w lo b cs t->Hv w' lo' b cs t:=Hv.fr hf (by simp) hlo
theorem Hv.alloc (w:World) (o:Obj) {lo lo':Nat} (hlo:lo'<=lo): ∀ b cs t,Hv w lo b cs t->Hv (w.alloc o) lo' b cs t:=
 fun _ _ _ ⟨h1,h2,h3⟩=>⟨Nat.le_trans hlo h1,h2,h3.alloc o⟩
theorem Hv.new (w:World) (cs:List Value) (t:Nat) (ht:t∉JW) {lo:Nat} (hlo:lo<=w.heap.size):Hv (w.alloc (.cells cs.toArray t)) lo w.heap.size cs t:=⟨hlo,ht,ZV.new _ _ _⟩
theorem TR (pos:Int) (w:World):
  Calls Tryz.prog 122 #[.int .i64 pos] w fun e w'=> ∃ a,e=.returned (.pointer (some ⟨a,0,none⟩))∧VX (Hv w' w.heap.size) a pos∧Fr [] w.heap.size w w':=by
 go_enter Tryz.func122,Tryz.ntmps122;go_wp2_with fail
 refine(name_any _ _).mono ?_;rintro e w1 ⟨a,rfl,ha,hf⟩;have hs:=hf.size;go_wp2_with fail
 go_ret;exact⟨_,rfl,⟨_,Hv.new _ _ _ (by decide) hs,⟨a,rfl,ha.mono (Hv.alloc _ _ (Nat.le_refl _))⟩⟩,hf.alloc hs _⟩
theorem WX (B b:Nat) (M:Mk) (is:Bool) (w:World) (h:Z8 w B b M) (hm:M.small 100000):
  Calls Tryz.prog 133 #[b,is] w fun e w'=> ∃ v,e=.returned v∧Xv (Hv w' w.heap.size) is v (lp M.leaves)∧
   Z8 w' B b (M.add is.toNat 0 0 (List.replicate is.toNat false))∧Fr [83,4] B w w':=by
 cases is
 ·go_enter Tryz.func133,Tryz.ntmps133;go_wp2_with fail
  go_ret;exact⟨_,rfl,.inl ⟨rfl,rfl⟩,by simpa [Mk.add]using h,Fr.refl _ _ _⟩
 ·have hlt:=h.lt;go_enter Tryz.func133,Tryz.ntmps133;go_wp2_with fail
  refine(Yl B b M false w h hm).mono ?_;rintro e w1 ⟨rfl,h1,f1⟩;go_wp2_with fail
  refine(name_any _ _).mono ?_;rintro e w2 ⟨a,rfl,ha,f2⟩;have s1:=f1.size;go_wp2_with fail
  go_ret;exact⟨_,rfl,.inr ⟨rfl,a,rfl,ha.mono (Hv.fr (Fr.refl [] 0 _) (by simp) s1)⟩,h1.fr f2 (by simp),f1.trans (f2.mono (by simp) (by omega))⟩
theorem Q7 (B b:Nat) (M:Mk) (w:World) (h:Z8 w B b M) (hm:M.small 100000):
  Calls Tryz.prog 124 #[b] w fun e w'=> ∃ v,e=.returned v∧YG (Hv w' w.heap.size) v (lp M.leaves)∧
   Z8 w' B b (M.add 1 0 0 [false])∧Fr [83,4] B w w':=by
 have hlt:=h.lt;go_enter Tryz.func124,Tryz.ntmps124;go_wp2_with fail
 refine(Yl B b M false w h hm).mono ?_;rintro e w1 ⟨rfl,h1,f1⟩;go_wp2_with fail
 refine(name_any _ _).mono ?_;rintro e w2 ⟨a,rfl,ha,f2⟩;have s1:=f1.size;have s2:=f2.size;go_wp2_with fail
 refine(name_any _ _).mono ?_;rintro e w3 ⟨a',rfl,ha',f3⟩;have s3:=f3.size;have e3:ZV w3 w2.heap.size [.iface 188 (.pointer (some ⟨a,0,none⟩))] 168:=(ZV.new w2 _ _).fr f3 (by simp);simp at s3;go_wp2_with fail
 go_ret;exact⟨_,rfl,⟨_,w2.heap.size,_,_,rfl,⟨om,by decide,ZV.new' (by simp) _ _⟩,⟨by omega,by decide,(e3.alloc _).alloc _⟩,a,rfl,ha.mono (Hv.fr (Tt:= []) (B:=B) Fr.au (by simp) (by omega))⟩,h1.fr (Tt:= []) (B':=B) Fr.au (by simp),Fr.au⟩
theorem maybe_any (B b:Nat) (M:Mk) (is:Bool) (w:World) (h:Z8 w B b M) (hm:M.small 100000):
  Calls Tryz.prog 132 #[b,is] w fun e w'=> ∃ v,e=.returned v∧Zk (Hv w' w.heap.size) is v (lp M.leaves)∧
   Z8 w' B b (M.add is.toNat 0 0 (List.replicate is.toNat false))∧Fr [83,4] B w w':=by
 cases is
 ·go_enter Tryz.func132,Tryz.ntmps132;go_wp2_with fail
  go_ret;exact⟨_,rfl,.inl ⟨rfl,rfl⟩,by simpa [Mk.add]using h,Fr.refl _ _ _⟩
 ·go_enter Tryz.func132,Tryz.ntmps132;go_wp2_with fail
  refine(Q7 B b M w h hm).mono ?_;rintro e w1 ⟨v,rfl,hv,h1,f1⟩;go_wp2_with fail
  go_ret;exact⟨_,rfl,.inr ⟨rfl,hv⟩,h1,f1⟩
end
section
theorem Xy {s:ByteArray} (h: ¬ s.size=0):s.toList.isEmpty=false:=by
 rw[ByteArray.toList_eq];simp;intro h';apply h;simp[ByteArray.size,h']
theorem Xi {s:ByteArray} (h: ¬ s.size=0):(s.toList== [])=false:=by
 have:=Xy h;cases hs:s.toList
 ·simp[hs]at this
 ·rfl
theorem WH {s:ByteArray} (h:s.size=0):s=ByteArray.empty:=by
 apply ByteArray.ext;apply Array.eq_empty_of_size_eq_zero;exact h
theorem O5 (B b:Nat) (M:Mk) (s:ByteArray) (w:World) (h:Z8 w B b M) (hm:M.small 100000):
  Calls Tryz.prog 110 #[b,s] w fun e w'=> ∃ v,e=.returned v∧Yk (Hv w' w.heap.size) v s∧
   Z8 w' B b (M.add 0 0 1 [])∧Fr [83,217] B w w':=by
 obtain⟨sv,lv,av,ps,hB,hb,hsv,hlv,hps,hn,hav⟩:=h;obtain⟨_,_,hl,hs,_⟩:=hm;have hlt:=hb.lt;have c3:=hb.cell 3 rfl;obtain⟨av0,n0,cap0,hlvf⟩: ∃ a n c,lv=.slice a n c∧n=ps.length:=by
  rcases hlv.2 with⟨rfl,h0⟩ |⟨g,cap,cur,rfl,_⟩
  ·exact⟨_,_,_,rfl,h0.symm⟩
  ·exact⟨_,_,_,rfl,rfl⟩
 obtain⟨rfl,rfl⟩:=hlvf;have hcells: ∀ k:Nat,k < ps.length-> ∃ g,av0=some ⟨g,0,none⟩∧w.cell? ⟨g,k,none⟩=some (.pointer (some ⟨ps.getD k 0,0,none⟩)):=by
  intro k hk;rcases hlv.2 with⟨hv,h0⟩ |⟨g,cap,cur,hv,_⟩
  ·omega
  ·simp at hv;obtain⟨rfl,rfl⟩:=hv;refine⟨g,rfl,?_⟩;rw[hlv.cellAt k (by omega)];simp[hk]
 have H1:Hid (∀ k:Nat,k < ps.length-> ∃ g,av0=some ⟨g,0,none⟩∧w.cell? ⟨g,k,none⟩=some (.pointer (some ⟨ps.getD k 0,0,none⟩))):=hcells;clear hcells;go_enter Tryz.func110,Tryz.ntmps110
 go_wp2
 go_loop [13] (fun i=> ∃ k:Nat,k<=ps.length∧i=.int .i64 k) (fun i=>ps.length -(intOf i).toNat)
 case atStart=>exact⟨0,Nat.zero_le _,rfl⟩
 case round=>
  obtain⟨k,hk,rfl⟩:=hrel;by_cases hlt2:k < ps.length
  ·obtain⟨g,rfl,hc⟩:=H1.out k hlt2;obtain⟨s',hob⟩:=hps (ps.getD k 0) (by simp[List.getD_eq_getElem?_getD,hlt2]);generalize ps.getD k 0=q at*;have d1:=hob.cell 1 rfl
   go_wp2
   ·go_ret;exact⟨_,rfl,⟨_,_,rfl,Hv.new _ _ _ (by decide) (Nat.le_refl _)⟩,Z8.fr (Tt:= []) (B':=B) Fr.au (by simp) ⟨sv,_,av,ps,hB,hb,by simpa [Mk.add]using hsv,hlv,hps,by simp[Mk.add];omega,hav⟩,Fr.au⟩
   ·go_round
    case rel=>exact⟨k+1,by omega,by go_num⟩
    case measure=>simp[intOf];omega
  ·have hlv2:=hlv.alloc (Obj.cells #[Value.int IntKind.i64 6,Value.string s,Value.nilIface,Value.nilIface,Value.nilIface] 265);have hbo:=hb.alloc (Obj.cells #[Value.int IntKind.i64 6,Value.string s,Value.nilIface,Value.nilIface,Value.nilIface] 265);have hob:ZV (w.alloc _) w.heap.size _ _:=ZV.new w [Value.int IntKind.i64 6,Value.string s,Value.nilIface,Value.nilIface,Value.nilIface] 265;have ff:Fr [] B w (w.alloc (Obj.cells #[Value.int IntKind.i64 6,Value.string s,Value.nilIface,Value.nilIface,Value.nilIface] 265)):=Fr.au;have hsa:(w.alloc (Obj.cells #[Value.int IntKind.i64 6,Value.string s,Value.nilIface,Value.nilIface,Value.nilIface] 265)).heap.size=w.heap.size+1:=by simp
   have HS:=Nat.le_of_eq hsa.symm;have HS':=Nat.le_of_eq hsa;clear hsa;go_wp2_with (at_builtin;refine ZG (w.alloc _) rfl _ _ 81 rfl B 217 (.pointer none) 1 8 Tryz.underlying81 Bq rfl (by decide) (by decide) hlv2 (by rfl) [w.heap.size] rfl ?c1 (by simp;rfl) (by omega) (by omega) ?_)
   case c1=>simp[Value.oneCell']
   intro g cap w1 h1 hg hat hg1;have hb1:=hbo.grown hg (own_ne hlv2 hbo.ty (by decide));clear c3;have c3:=hb1.cell 3 rfl;have f3:=hb1.free 3;have hb2:=hb1.set 3 (.slice (some ⟨g,0,none⟩) (ps.length+1) cap);have k1:Fr [83] B w1 _:=(Fr.refl _ _ _).Y1 ⟨b,3,none⟩ (.slice (some ⟨g,0,none⟩) (ps.length+1) cap) hb1.ty (by decide) hB;have k0:Fr [83,217] B _ w1:=(Fr.refl [83,217] B _).grown hlv2 hg (by omega) (Nat.le_refl _) (.inl (by decide));have K:Fr [83,217] B w _:=(ff.mono (by simp) (Nat.le_refl _)).trans (k0.trans (k1.mono (by simp) (Nat.le_refl _)));have s1:=hg.size;go_wp2_with fail
   go_ret;have K2:=k1.size;have hps1:Qp (w1.setCell ⟨b,3,none⟩ (.slice (some ⟨g,0,none⟩) (ps.length+1) cap)) (ps++ [w.heap.size]):=by
    intro p hp;rcases List.mem_append.1 hp with hp|hp
    ·exact hps.fr K (by decide) p hp
    ·simp at hp;subst hp;exact⟨s,(hob.fr k0 (by decide)).fr k1 (by decide)⟩
   exact⟨_,rfl,⟨_,_,rfl,⟨om,by decide,ZV.new' (by simp) _ _⟩⟩,Z8.fr (Tt:= []) (B':=B) Fr.au (by simp) ⟨sv,_,av,ps++ [w.heap.size],hB,by simpa [Mk.add]using hb2,by simpa [Mk.add]using ZU K hsv (by decide),
    by simpa using ZU k1 h1 (by decide),hps1,by simp[Mk.add];omega,ZU K hav (by decide)⟩,Fr.au⟩
theorem VQ (B b:Nat) (M:Mk) (tok:Int) (s:ByteArray) (w:World) (h:Z8 w B b M) (hm:M.small 100000):
  Calls Tryz.prog 126 #[b,.int .i64 tok,s] w fun e w'=> ∃ v,e=.returned v∧Yh (Hv w' w.heap.size) v tok s∧
   Z8 w' B b (M.add 0 0 (decide (0 < s.size)).toNat [])∧Fr [83,217] B w w':=by
 have hlt:=h.lt;by_cases h0:s.size=0
 ·obtain rfl:=WH h0;go_enter Tryz.func126,Tryz.ntmps126;go_wp2_with fail
  go_ret;exact⟨_,rfl,⟨_,_,rfl,Hv.new _ _ _ (by decide) (Nat.le_refl _),.inl ⟨rfl,rfl⟩⟩,(by simpa [Mk.add]using h.fr (Tt:= []) (B':=B) Fr.au (by simp)),Fr.au⟩
 ·have h1:=Xi h0;have h2:=Xy h0;go_enter Tryz.func126,Tryz.ntmps126;go_wp2_with fail
  refine(O5 B b M s w h hm).mono ?_;rintro e w1 ⟨v,rfl,⟨a,o,rfl,hv⟩,h3,f1⟩;have s1:=f1.size;go_wp2_with fail
  go_ret;exact⟨_,rfl,⟨_,_,rfl,Hv.new _ _ _ (by decide) s1,.inr ⟨by omega,a,o,rfl,Hv.alloc _ _ (Nat.le_refl _) _ _ _ hv⟩⟩,(by rw[show(decide (0 < s.size)).toNat=1 by simp;omega];exact h3.fr (Tt:= []) (B':=B) Fr.au (by simp)),Fr.au⟩
end
section
theorem Mk.small.add {M:Mk} {k:Nat} {n i l:Nat} {s:List Bool} (h:(M.add n i l s).small k):M.small k:=by
 obtain⟨h1,h2,h3,h4,h5⟩:=h;simp[Mk.add]at h1 h2 h3 h4 h5;exact⟨by omega,by omega,by omega,by omega,h5⟩
theorem jT (B b0:Nat) (M:Mk) (w:World) (h:Z8 w B b0 M) (hm:(M.add 1 1 1 []).small 100000) (v1:Value) (v2:Value) (v3 v4 v5 v6 v7 v8 v9 v10:Value):
  Calls Tryz.prog 109 #[b0,.agg #[.int .i64 1,v1,v2,v3,v4,v5,v6,v7,v8,v9,v10]] w fun e w'=> ∃ u,e=.returned u∧WQ (Hv w' w.heap.size) u (lp M.leaves)∧
   Z8 w' B b0 (M.add 1 1 0 [false])∧Fr [83,4,217] B w w':=by
 have hlt:=h.lt;have hm0:=hm.add;have hm1:(M.add 0 1 0 []).small 100000:=by
  obtain⟨g1,g2,g3,g4,g5⟩:=hm;simp[Mk.add]at g1 g2 g3 g4 g5;exact⟨by simp[Mk.add];omega,by simp[Mk.add];omega,by simp[Mk.add];omega,by simp[Mk.add];omega,g5⟩
 go_enter Tryz.func109,Tryz.ntmps109;go_wp2_with fail
 refine(Zw B b0 M _ (h.fr (Tt:= []) (B':=B) Fr.au (by simp)) hm0).mono ?_;rintro e w1 ⟨rfl,h1,f1⟩;have s1:=f1.size;have ex1:ZV w1 w.heap.size _ _:=(ZV.new w [.int .i64 1,v1,v2,v3,v4,v5,v6,v7,v8,v9,v10] 125).fr f1 (by decide);simp at s1;have x0:=ex1.cell 0 rfl;have x2:=ex1.cell 2 rfl;go_wp2_with fail
 refine(Yl B b0 _ _ w1 h1 hm1).mono ?_;rintro e w2 ⟨rfl,h2,f2⟩;have s2:=f2.size;go_wp2_with fail
 refine(TR _ _).mono ?_;rintro e w3 ⟨a,rfl,ha,f3⟩;have s3:=f3.size;try simp at s3
 go_wp2_with fail
 go_ret;exact⟨_,rfl,⟨_,a,rfl,⟨om,by decide,ZV.new' (by simp) _ _⟩,ha.mono (Hv.fr (Tt:= []) (B:=B) Fr.au (by simp) (by omega))⟩,(by simpa [Mk.add_add]using h2.fr (Tt:= []) (B':=B) Fr.au (by simp)),Fr.au⟩
theorem jR (B b0:Nat) (M:Mk) (w:World) (h:Z8 w B b0 M) (hm:(M.add 1 1 1 []).small 100000) (v1:Value) (v2:Value) (v3 v4 v5 v6 v7 v8 v9 v10:Value):
  Calls Tryz.prog 109 #[b0,.agg #[.int .i64 2,v1,v2,v3,v4,v5,v6,v7,v8,v9,v10]] w fun e w'=> ∃ u,e=.returned u∧WQ (Hv w' w.heap.size) u (lp M.leaves)∧
   Z8 w' B b0 (M.add 1 1 0 [true])∧Fr [83,4,217] B w w':=by
 have hlt:=h.lt;have hm0:=hm.add;have hm1:(M.add 0 1 0 []).small 100000:=by
  obtain⟨g1,g2,g3,g4,g5⟩:=hm;simp[Mk.add]at g1 g2 g3 g4 g5;exact⟨by simp[Mk.add];omega,by simp[Mk.add];omega,by simp[Mk.add];omega,by simp[Mk.add];omega,g5⟩
 go_enter Tryz.func109,Tryz.ntmps109;go_wp2_with fail
 refine(Zw B b0 M _ (h.fr (Tt:= []) (B':=B) Fr.au (by simp)) hm0).mono ?_;rintro e w1 ⟨rfl,h1,f1⟩;have s1:=f1.size;have ex1:ZV w1 w.heap.size _ _:=(ZV.new w [.int .i64 2,v1,v2,v3,v4,v5,v6,v7,v8,v9,v10] 125).fr f1 (by decide);simp at s1;have x0:=ex1.cell 0 rfl;have x2:=ex1.cell 2 rfl;go_wp2_with fail
 refine(Yl B b0 _ _ w1 h1 hm1).mono ?_;rintro e w2 ⟨rfl,h2,f2⟩;have s2:=f2.size;go_wp2_with fail
 refine(TR _ _).mono ?_;rintro e w3 ⟨a,rfl,ha,f3⟩;have s3:=f3.size;try simp at s3
 go_wp2_with fail
 go_ret;exact⟨_,rfl,⟨_,a,rfl,⟨om,by decide,ZV.new' (by simp) _ _⟩,ha.mono (Hv.fr (Tt:= []) (B:=B) Fr.au (by simp) (by omega))⟩,(by simpa [Mk.add_add]using h2.fr (Tt:= []) (B':=B) Fr.au (by simp)),Fr.au⟩
theorem jM (B b0:Nat) (M:Mk) (w:World) (h:Z8 w B b0 M) (hm:(M.add 1 1 1 []).small 100000) (v1:Value) (v2:Value) (v3 v4 v5 v6 v7 v8 v9 v10:Value):
  Calls Tryz.prog 109 #[b0,.agg #[.int .i64 3,v1,v2,v3,v4,v5,v6,v7,v8,v9,v10]] w fun e w'=> ∃ u,e=.returned u∧YG (Hv w' w.heap.size) u (lp M.leaves)∧
   Z8 w' B b0 (M.add 1 1 0 [false])∧Fr [83,4,217] B w w':=by
 have hlt:=h.lt;have hm0:=hm.add;have hm1:(M.add 0 1 0 []).small 100000:=by
  obtain⟨g1,g2,g3,g4,g5⟩:=hm;simp[Mk.add]at g1 g2 g3 g4 g5;exact⟨by simp[Mk.add];omega,by simp[Mk.add];omega,by simp[Mk.add];omega,by simp[Mk.add];omega,g5⟩
 go_enter Tryz.func109,Tryz.ntmps109;go_wp2_with fail
 refine(Zw B b0 M _ (h.fr (Tt:= []) (B':=B) Fr.au (by simp)) hm0).mono ?_;rintro e w1 ⟨rfl,h1,f1⟩;have s1:=f1.size;have ex1:ZV w1 w.heap.size _ _:=(ZV.new w [.int .i64 3,v1,v2,v3,v4,v5,v6,v7,v8,v9,v10] 125).fr f1 (by decide);simp at s1;have x0:=ex1.cell 0 rfl;have x2:=ex1.cell 2 rfl;go_wp2_with fail
 refine(Q7 B b0 _ w1 h1 hm1).mono ?_;rintro e w2 ⟨v,rfl,ha,h2,f2⟩;go_wp2_with fail
 go_ret;exact⟨_,rfl,ha.mono (Hv.fr (Tt:= []) (B:=B) Fr.au (by simp) (by omega)),(by simpa [Mk.add_add]using h2.fr (Tt:= []) (B':=B) Fr.au (by simp)),Fr.au⟩
theorem kF (B b0:Nat) (M:Mk) (w:World) (h:Z8 w B b0 M) (hm:(M.add 1 1 1 []).small 100000) (v1:Value) (v2:Value) (v3 v4 v5 v6 v7 v8 v9 v10:Value):
  Calls Tryz.prog 109 #[b0,.agg #[.int .i64 4,v1,v2,v3,v4,v5,v6,v7,v8,v9,v10]] w fun e w'=> ∃ u,e=.returned u∧J6 (Hv w' w.heap.size) u (lp M.leaves)∧
   Z8 w' B b0 (M.add 1 1 0 [false])∧Fr [83,4,217] B w w':=by
 have hlt:=h.lt;have hm0:=hm.add;have hm1:(M.add 0 1 0 []).small 100000:=by
  obtain⟨g1,g2,g3,g4,g5⟩:=hm;simp[Mk.add]at g1 g2 g3 g4 g5;exact⟨by simp[Mk.add];omega,by simp[Mk.add];omega,by simp[Mk.add];omega,by simp[Mk.add];omega,g5⟩
 go_enter Tryz.func109,Tryz.ntmps109;go_wp2_with fail
 refine(Zw B b0 M _ (h.fr (Tt:= []) (B':=B) Fr.au (by simp)) hm0).mono ?_;rintro e w1 ⟨rfl,h1,f1⟩;have s1:=f1.size;have ex1:ZV w1 w.heap.size _ _:=(ZV.new w [.int .i64 4,v1,v2,v3,v4,v5,v6,v7,v8,v9,v10] 125).fr f1 (by decide);simp at s1;have x0:=ex1.cell 0 rfl;have x2:=ex1.cell 2 rfl;go_wp2_with fail
 refine(Yl B b0 _ _ w1 h1 hm1).mono ?_;rintro e w2 ⟨rfl,h2,f2⟩;have s2:=f2.size;go_wp2_with fail
 refine(name_any _ _).mono ?_;rintro e w3 ⟨a,rfl,ha,f3⟩;have s3:=f3.size;try simp at s3
 go_wp2_with fail
 go_ret;exact⟨_,rfl,⟨_,_,rfl,⟨om,by decide,ZV.new' (by simp) _ _⟩,a,rfl,ha.mono (Hv.fr (Tt:= []) (B:=B) Fr.au (by simp) (by omega))⟩,(by simpa [Mk.add_add]using h2.fr (Tt:= []) (B':=B) Fr.au (by simp)),Fr.au⟩
theorem kC (B b0:Nat) (M:Mk) (w:World) (h:Z8 w B b0 M) (hm:(M.add 1 1 1 []).small 100000) (v1:Value) (v2:Value) (v3 v4 v5 v6 v7 v8 v9 v10:Value):
  Calls Tryz.prog 109 #[b0,.agg #[.int .i64 5,v1,v2,v3,v4,v5,v6,v7,v8,v9,v10]] w fun e w'=> ∃ u,e=.returned u∧Qv (Hv w' w.heap.size) u (lp M.leaves)∧
   Z8 w' B b0 (M.add 1 1 0 [false])∧Fr [83,4,217] B w w':=by
 have hlt:=h.lt;have hm0:=hm.add;have hm1:(M.add 0 1 0 []).small 100000:=by
  obtain⟨g1,g2,g3,g4,g5⟩:=hm;simp[Mk.add]at g1 g2 g3 g4 g5;exact⟨by simp[Mk.add];omega,by simp[Mk.add];omega,by simp[Mk.add];omega,by simp[Mk.add];omega,g5⟩
 go_enter Tryz.func109,Tryz.ntmps109;go_wp2_with fail
 refine(Zw B b0 M _ (h.fr (Tt:= []) (B':=B) Fr.au (by simp)) hm0).mono ?_;rintro e w1 ⟨rfl,h1,f1⟩;have s1:=f1.size;have ex1:ZV w1 w.heap.size _ _:=(ZV.new w [.int .i64 5,v1,v2,v3,v4,v5,v6,v7,v8,v9,v10] 125).fr f1 (by decide);simp at s1;have x0:=ex1.cell 0 rfl;have x2:=ex1.cell 2 rfl;go_wp2_with fail
 refine(Yl B b0 _ _ w1 h1 hm1).mono ?_;rintro e w2 ⟨rfl,h2,f2⟩;have s2:=f2.size;go_wp2_with fail
 refine(name_any _ _).mono ?_;rintro e w3 ⟨a,rfl,ha,f3⟩;have s3:=f3.size;try simp at s3
 go_wp2_with fail
 refine(name_any _ _).mono ?_;rintro e w4 ⟨c,rfl,hc,f4⟩;have s4:=f4.size;try simp at s4
 go_wp2_with fail
 go_ret;exact⟨_,rfl,⟨_,_,_,rfl,⟨om,by decide,ZV.new' (by simp) _ _⟩,a,rfl,ha.mono (Hv.fr (Tt:= []) (B:=B) Fr.au (by simp) (by omega))⟩,(by simpa [Mk.add_add]using h2.fr (Tt:= []) (B':=B) Fr.au (by simp)),Fr.au⟩
theorem jP (B b0:Nat) (M:Mk) (w:World) (h:Z8 w B b0 M) (hm:(M.add 1 1 1 []).small 100000) (v1:Value) (v2:Value) (v3 v4 v5 v6 v7 v8 v9 v10:Value):
  Calls Tryz.prog 109 #[b0,.agg #[.int .i64 6,v1,v2,v3,v4,v5,v6,v7,v8,v9,v10]] w fun e w'=> ∃ u,e=.returned u∧qU (Hv w' w.heap.size) u (lp M.leaves)∧
   Z8 w' B b0 (M.add 1 1 0 [false])∧Fr [83,4,217] B w w':=by
 have hlt:=h.lt;have hm0:=hm.add;have hm1:(M.add 0 1 0 []).small 100000:=by
  obtain⟨g1,g2,g3,g4,g5⟩:=hm;simp[Mk.add]at g1 g2 g3 g4 g5;exact⟨by simp[Mk.add];omega,by simp[Mk.add];omega,by simp[Mk.add];omega,by simp[Mk.add];omega,g5⟩
 go_enter Tryz.func109,Tryz.ntmps109;go_wp2_with fail
 refine(Zw B b0 M _ (h.fr (Tt:= []) (B':=B) Fr.au (by simp)) hm0).mono ?_;rintro e w1 ⟨rfl,h1,f1⟩;have s1:=f1.size;have ex1:ZV w1 w.heap.size _ _:=(ZV.new w [.int .i64 6,v1,v2,v3,v4,v5,v6,v7,v8,v9,v10] 125).fr f1 (by decide);simp at s1;have x0:=ex1.cell 0 rfl;have x2:=ex1.cell 2 rfl;go_wp2_with fail
 refine(Yl B b0 _ _ w1 h1 hm1).mono ?_;rintro e w2 ⟨rfl,h2,f2⟩;have s2:=f2.size;go_wp2_with fail
 refine(TR _ _).mono ?_;rintro e w3 ⟨a,rfl,ha,f3⟩;have s3:=f3.size;try simp at s3
 go_wp2_with fail
 go_ret;exact⟨_,rfl,⟨_,_,rfl,⟨om,by decide,ZV.new' (by simp) _ _⟩⟩,(by simpa [Mk.add_add]using h2.fr (Tt:= []) (B':=B) Fr.au (by simp)),Fr.au⟩
theorem jG (B b0:Nat) (M:Mk) (w:World) (h:Z8 w B b0 M) (hm:(M.add 1 1 1 []).small 100000) (v1:Value) (v2:Value) (v3 v4 v5 v6 v7 v8 v9 v10:Value):
  Calls Tryz.prog 109 #[b0,.agg #[.int .i64 7,v1,v2,v3,v4,v5,v6,v7,v8,v9,v10]] w fun e w'=> ∃ u,e=.returned u∧UD (Hv w' w.heap.size) u (lp M.leaves)∧
   Z8 w' B b0 (M.add 1 1 0 [false])∧Fr [83,4,217] B w w':=by
 have hlt:=h.lt;have hm0:=hm.add;have hm1:(M.add 0 1 0 []).small 100000:=by
  obtain⟨g1,g2,g3,g4,g5⟩:=hm;simp[Mk.add]at g1 g2 g3 g4 g5;exact⟨by simp[Mk.add];omega,by simp[Mk.add];omega,by simp[Mk.add];omega,by simp[Mk.add];omega,g5⟩
 go_enter Tryz.func109,Tryz.ntmps109;go_wp2_with fail
 refine(Zw B b0 M _ (h.fr (Tt:= []) (B':=B) Fr.au (by simp)) hm0).mono ?_;rintro e w1 ⟨rfl,h1,f1⟩;have s1:=f1.size;have ex1:ZV w1 w.heap.size _ _:=(ZV.new w [.int .i64 7,v1,v2,v3,v4,v5,v6,v7,v8,v9,v10] 125).fr f1 (by decide);simp at s1;have x0:=ex1.cell 0 rfl;have x2:=ex1.cell 2 rfl;go_wp2_with fail
 refine(Yl B b0 _ _ w1 h1 hm1).mono ?_;rintro e w2 ⟨rfl,h2,f2⟩;have s2:=f2.size;go_wp2_with fail
 refine(TR _ _).mono ?_;rintro e w3 ⟨a,rfl,ha,f3⟩;have s3:=f3.size;try simp at s3
 go_wp2_with fail
 go_ret;exact⟨_,rfl,⟨_,_,rfl,⟨om,by decide,ZV.new' (by simp) _ _⟩⟩,(by simpa [Mk.add_add]using h2.fr (Tt:= []) (B':=B) Fr.au (by simp)),Fr.au⟩
theorem jY (B b0:Nat) (M:Mk) (w:World) (h:Z8 w B b0 M) (hm:(M.add 1 1 1 []).small 100000) (v1:Value) (v2:Value) (v3 v4 v5 v6 v7 v8 v9 v10:Value):
  Calls Tryz.prog 109 #[b0,.agg #[.int .i64 9,v1,v2,v3,v4,v5,v6,v7,v8,v9,v10]] w fun e w'=> ∃ u,e=.returned u∧Xh (Hv w' w.heap.size) u (lp M.leaves)∧
   Z8 w' B b0 (M.add 1 1 0 [false])∧Fr [83,4,217] B w w':=by
 have hlt:=h.lt;have hm0:=hm.add;have hm1:(M.add 0 1 0 []).small 100000:=by
  obtain⟨g1,g2,g3,g4,g5⟩:=hm;simp[Mk.add]at g1 g2 g3 g4 g5;exact⟨by simp[Mk.add];omega,by simp[Mk.add];omega,by simp[Mk.add];omega,by simp[Mk.add];omega,g5⟩
 go_enter Tryz.func109,Tryz.ntmps109;go_wp2_with fail
 refine(Zw B b0 M _ (h.fr (Tt:= []) (B':=B) Fr.au (by simp)) hm0).mono ?_;rintro e w1 ⟨rfl,h1,f1⟩;have s1:=f1.size;have ex1:ZV w1 w.heap.size _ _:=(ZV.new w [.int .i64 9,v1,v2,v3,v4,v5,v6,v7,v8,v9,v10] 125).fr f1 (by decide);simp at s1;have x0:=ex1.cell 0 rfl;have x2:=ex1.cell 2 rfl;go_wp2_with fail
 refine(Yl B b0 _ _ w1 h1 hm1).mono ?_;rintro e w2 ⟨rfl,h2,f2⟩;have s2:=f2.size;go_wp2_with fail
 go_ret;exact⟨_,rfl,⟨_,rfl,⟨om,by decide,ZV.new' (by simp) _ _⟩⟩,(by simpa [Mk.add_add]using h2.fr (Tt:= []) (B':=B) Fr.au (by simp)),Fr.au⟩
theorem jA (B b0:Nat) (M:Mk) (w:World) (h:Z8 w B b0 M) (hm:(M.add 1 1 1 []).small 100000) (v1:Value) (v2:Value) (v3 v4 v5 v6 v7 v8 v9 v10:Value):
  Calls Tryz.prog 109 #[b0,.agg #[.int .i64 8,v1,v2,v3,v4,v5,v6,v7,v8,v9,v10]] w fun e w'=> ∃ u,e=.returned u∧Il (Hv w' w.heap.size) u (lp M.leaves)∧
   Z8 w' B b0 (M.add 1 1 0 [false])∧Fr [83,4,217] B w w':=by
 have hlt:=h.lt;have hm0:=hm.add;have hm1:(M.add 0 1 0 []).small 100000:=by
  obtain⟨g1,g2,g3,g4,g5⟩:=hm;simp[Mk.add]at g1 g2 g3 g4 g5;exact⟨by simp[Mk.add];omega,by simp[Mk.add];omega,by simp[Mk.add];omega,by simp[Mk.add];omega,g5⟩
 go_enter Tryz.func109,Tryz.ntmps109;go_wp2_with fail
 refine(Zw B b0 M _ (h.fr (Tt:= []) (B':=B) Fr.au (by simp)) hm0).mono ?_;rintro e w1 ⟨rfl,h1,f1⟩;have s1:=f1.size;have ex1:ZV w1 w.heap.size _ _:=(ZV.new w [.int .i64 8,v1,v2,v3,v4,v5,v6,v7,v8,v9,v10] 125).fr f1 (by decide);simp at s1;have x0:=ex1.cell 0 rfl;have x2:=ex1.cell 2 rfl;go_wp2_with fail
 refine(Yl B b0 _ _ w1 h1 hm1).mono ?_;rintro e w2 ⟨rfl,h2,f2⟩;have s2:=f2.size;go_wp2_with fail
 refine(name_any _ _).mono ?_;rintro e w3 ⟨a,rfl,ha,f3⟩;have s3:=f3.size;try simp at s3
 go_wp2_with fail
 refine(name_any _ _).mono ?_;rintro e w4 ⟨c,rfl,hc,f4⟩;have s4:=f4.size;simp at s4;have e4:ZV w4 w3.heap.size _ _:=(ZV.new w3 [a] 188).fr f4 (by decide);go_wp2_with fail
 go_ret
 exact⟨_,rfl,⟨_,w4.heap.size+1+1+1,w4.heap.size+1+1,_,rfl,⟨om,by decide,ZV.new' (by simp) _ _⟩,⟨om,by decide,(ZV.new' (by simp) _ _).alloc _⟩,⟨om,by decide,((ZV.new' (by simp) _ _).alloc _).alloc _⟩,
  w4.heap.size+1,w3.heap.size,a,.slice (some ⟨w4.heap.size,0,none⟩) 1 1,rfl,⟨om,by decide,(((ZV.new' (by simp) _ _).alloc _).alloc _).alloc _⟩,⟨om,by decide,((((e4.alloc _).alloc _).alloc _).alloc _).alloc _⟩,ha.mono (Hv.fr (Tt:= []) (B:=B) Fr.au (by simp) (by omega))⟩,(by simpa [Mk.add_add]using h2.fr (Tt:= []) (B':=B) Fr.au (by simp)),Fr.au⟩
theorem lN (B b0:Nat) (M:Mk) (w:World) (h:Z8 w B b0 M) (hm:(M.add 1 1 1 []).small 100000) (v1:Value) (tg:ByteArray) (v3 v4 v5 v6 v7 v8 v9 v10:Value):
  Calls Tryz.prog 109 #[b0,.agg #[.int .i64 17,v1,tg,v3,v4,v5,v6,v7,v8,v9,v10]] w fun e w'=> ∃ u,e=.returned u∧Yh (Hv w' w.heap.size) u 61 tg∧
   Z8 w' B b0 (M.add 0 1 (decide (0 < tg.size)).toNat [])∧Fr [83,4,217] B w w':=by
 have hlt:=h.lt;have hm0:=hm.add;have hm1:(M.add 0 1 0 []).small 100000:=by
  obtain⟨g1,g2,g3,g4,g5⟩:=hm;simp[Mk.add]at g1 g2 g3 g4 g5;exact⟨by simp[Mk.add];omega,by simp[Mk.add];omega,by simp[Mk.add];omega,by simp[Mk.add];omega,g5⟩
 go_enter Tryz.func109,Tryz.ntmps109;go_wp2_with fail
 refine(Zw B b0 M _ (h.fr (Tt:= []) (B':=B) Fr.au (by simp)) hm0).mono ?_;rintro e w1 ⟨rfl,h1,f1⟩;have s1:=f1.size;have ex1:ZV w1 w.heap.size _ _:=(ZV.new w [.int .i64 17,v1,tg,v3,v4,v5,v6,v7,v8,v9,v10] 125).fr f1 (by decide);simp at s1;have x0:=ex1.cell 0 rfl;have x2:=ex1.cell 2 rfl;go_wp2_with fail
 refine(VQ B b0 _ _ tg w1 h1 hm1).mono ?_;rintro e w2 ⟨v,rfl,ha,h2,f2⟩;go_wp2_with fail
 go_ret;exact⟨_,rfl,ha.mono (Hv.fr (Tt:= []) (B:=B) Fr.au (by simp) (by omega)),(by simpa [Mk.add_add]using h2.fr (Tt:= []) (B':=B) Fr.au (by simp)),Fr.au⟩
theorem nZ (B b0:Nat) (M:Mk) (w:World) (h:Z8 w B b0 M) (hm:(M.add 1 1 1 []).small 100000) (v1:Value) (tg:ByteArray) (v3 v4 v5 v6 v7 v8 v9 v10:Value):
  Calls Tryz.prog 109 #[b0,.agg #[.int .i64 18,v1,tg,v3,v4,v5,v6,v7,v8,v9,v10]] w fun e w'=> ∃ u,e=.returned u∧Yh (Hv w' w.heap.size) u 65 tg∧
   Z8 w' B b0 (M.add 0 1 (decide (0 < tg.size)).toNat [])∧Fr [83,4,217] B w w':=by
 have hlt:=h.lt;have hm0:=hm.add;have hm1:(M.add 0 1 0 []).small 100000:=by
  obtain⟨g1,g2,g3,g4,g5⟩:=hm;simp[Mk.add]at g1 g2 g3 g4 g5;exact⟨by simp[Mk.add];omega,by simp[Mk.add];omega,by simp[Mk.add];omega,by simp[Mk.add];omega,g5⟩
 go_enter Tryz.func109,Tryz.ntmps109;go_wp2_with fail
 refine(Zw B b0 M _ (h.fr (Tt:= []) (B':=B) Fr.au (by simp)) hm0).mono ?_;rintro e w1 ⟨rfl,h1,f1⟩;have s1:=f1.size;have ex1:ZV w1 w.heap.size _ _:=(ZV.new w [.int .i64 18,v1,tg,v3,v4,v5,v6,v7,v8,v9,v10] 125).fr f1 (by decide);simp at s1;have x0:=ex1.cell 0 rfl;have x2:=ex1.cell 2 rfl;go_wp2_with fail
 refine(VQ B b0 _ _ tg w1 h1 hm1).mono ?_;rintro e w2 ⟨v,rfl,ha,h2,f2⟩;go_wp2_with fail
 go_ret;exact⟨_,rfl,ha.mono (Hv.fr (Tt:= []) (B:=B) Fr.au (by simp) (by omega)),(by simpa [Mk.add_add]using h2.fr (Tt:= []) (B':=B) Fr.au (by simp)),Fr.au⟩
theorem oO (B b0:Nat) (M:Mk) (w:World) (h:Z8 w B b0 M) (hm:(M.add 1 1 1 []).small 100000) (v1:Value) (tg:ByteArray) (v3 v4 v5 v6 v7 v8 v9 v10:Value):
  Calls Tryz.prog 109 #[b0,.agg #[.int .i64 19,v1,tg,v3,v4,v5,v6,v7,v8,v9,v10]] w fun e w'=> ∃ u,e=.returned u∧Yh (Hv w' w.heap.size) u 73 tg∧
   Z8 w' B b0 (M.add 0 1 (decide (0 < tg.size)).toNat [])∧Fr [83,4,217] B w w':=by
 have hlt:=h.lt;have hm0:=hm.add;have hm1:(M.add 0 1 0 []).small 100000:=by
  obtain⟨g1,g2,g3,g4,g5⟩:=hm;simp[Mk.add]at g1 g2 g3 g4 g5;exact⟨by simp[Mk.add];omega,by simp[Mk.add];omega,by simp[Mk.add];omega,by simp[Mk.add];omega,g5⟩
 go_enter Tryz.func109,Tryz.ntmps109;go_wp2_with fail
 refine(Zw B b0 M _ (h.fr (Tt:= []) (B':=B) Fr.au (by simp)) hm0).mono ?_;rintro e w1 ⟨rfl,h1,f1⟩;have s1:=f1.size;have ex1:ZV w1 w.heap.size _ _:=(ZV.new w [.int .i64 19,v1,tg,v3,v4,v5,v6,v7,v8,v9,v10] 125).fr f1 (by decide);simp at s1;have x0:=ex1.cell 0 rfl;have x2:=ex1.cell 2 rfl;go_wp2_with fail
 refine(VQ B b0 _ _ tg w1 h1 hm1).mono ?_;rintro e w2 ⟨v,rfl,ha,h2,f2⟩;go_wp2_with fail
 go_ret;exact⟨_,rfl,ha.mono (Hv.fr (Tt:= []) (B:=B) Fr.au (by simp) (by omega)),(by simpa [Mk.add_add]using h2.fr (Tt:= []) (B':=B) Fr.au (by simp)),Fr.au⟩
theorem ny (B b0:Nat) (M:Mk) (w:World) (h:Z8 w B b0 M) (hm:(M.add 1 1 1 []).small 100000) (v1:Value) (v2:Value) (v3 v4 v5 v6 v7 v8 v9 v10:Value):
  Calls Tryz.prog 109 #[b0,.agg #[.int .i64 20,v1,v2,v3,v4,v5,v6,v7,v8,v9,v10]] w fun e w'=> ∃ u,e=.returned u∧Yh (Hv w' w.heap.size) u 69 ByteArray.empty∧
   Z8 w' B b0 (M.add 0 1 0 [])∧Fr [83,4,217] B w w':=by
 have hlt:=h.lt;have hm0:=hm.add;have hm1:(M.add 0 1 0 []).small 100000:=by
  obtain⟨g1,g2,g3,g4,g5⟩:=hm;simp[Mk.add]at g1 g2 g3 g4 g5;exact⟨by simp[Mk.add];omega,by simp[Mk.add];omega,by simp[Mk.add];omega,by simp[Mk.add];omega,g5⟩
 go_enter Tryz.func109,Tryz.ntmps109;go_wp2_with fail
 refine(Zw B b0 M _ (h.fr (Tt:= []) (B':=B) Fr.au (by simp)) hm0).mono ?_;rintro e w1 ⟨rfl,h1,f1⟩;have s1:=f1.size;have ex1:ZV w1 w.heap.size _ _:=(ZV.new w [.int .i64 20,v1,v2,v3,v4,v5,v6,v7,v8,v9,v10] 125).fr f1 (by decide);simp at s1;have x0:=ex1.cell 0 rfl;have x2:=ex1.cell 2 rfl;go_wp2_with fail
 refine(VQ B b0 _ _ ByteArray.empty w1 h1 hm1).mono ?_;rintro e w2 ⟨v,rfl,ha,h2,f2⟩;go_wp2_with fail
 go_ret;exact⟨_,rfl,ha.mono (Hv.fr (Tt:= []) (B:=B) Fr.au (by simp) (by omega)),(by simpa [Mk.add_add]using h2.fr (Tt:= []) (B':=B) Fr.au (by simp)),Fr.au⟩
theorem mZ (B b0:Nat) (M:Mk) (w:World) (h:Z8 w B b0 M) (hm:(M.add 1 1 1 []).small 100000) (v1:Value) (v2:Value) (v3 v4 v5 v6 v7 v8 v9 v10:Value):
  Calls Tryz.prog 109 #[b0,.agg #[.int .i64 21,v1,v2,v3,v4,v5,v6,v7,v8,v9,v10]] w fun e w'=> ∃ u,e=.returned u∧Uz (Hv w' w.heap.size) u∧
   Z8 w' B b0 (M.add 0 1 0 [])∧Fr [83,4,217] B w w':=by
 have hlt:=h.lt;have hm0:=hm.add;have hm1:(M.add 0 1 0 []).small 100000:=by
  obtain⟨g1,g2,g3,g4,g5⟩:=hm;simp[Mk.add]at g1 g2 g3 g4 g5;exact⟨by simp[Mk.add];omega,by simp[Mk.add];omega,by simp[Mk.add];omega,by simp[Mk.add];omega,g5⟩
 go_enter Tryz.func109,Tryz.ntmps109;go_wp2_with fail
 refine(Zw B b0 M _ (h.fr (Tt:= []) (B':=B) Fr.au (by simp)) hm0).mono ?_;rintro e w1 ⟨rfl,h1,f1⟩;have s1:=f1.size;have ex1:ZV w1 w.heap.size _ _:=(ZV.new w [.int .i64 21,v1,v2,v3,v4,v5,v6,v7,v8,v9,v10] 125).fr f1 (by decide);simp at s1;have x0:=ex1.cell 0 rfl;have x2:=ex1.cell 2 rfl;go_wp2_with fail
 go_ret;exact⟨_,rfl,⟨_,rfl,⟨om,by decide,ZV.new' (by simp) _ _⟩⟩,(by simpa [Mk.add_add]using h1.fr (Tt:= []) (B':=B) Fr.au (by simp)),Fr.au⟩
end
end Go.Proofs.YteedbaejpdjilaaGreat
