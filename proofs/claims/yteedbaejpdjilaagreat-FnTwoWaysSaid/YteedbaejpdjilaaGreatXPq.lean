/- Part of the proof: BuiD BuiE BuiF BuiG BuiH. -/
import Derived.Test.YteedbaejpdjilaaGreatXPp
set_option linter.all false
set_option maxRecDepth 100000
set_option maxHeartbeats 40000000
namespace Go.Proofs.YteedbaejpdjilaaGreat
open Go.RowKit
section
variable {w w':World} {B b b0:Nat} {A L:List Nat} {S S':BS} {tg:List Tg} {M:Mk}
def Mk.none:Mk:=⟨0,0,0,[],[]⟩
theorem UE:Z8 (w.alloc (.cells [.int .i64 0,.int .i64 0,.slice .none 0 0,.slice .none 0 0,.slice .none 0 0].toArray 83)) w.heap.size w.heap.size Mk.none:=
 ⟨_,_,_,[],Nat.le_refl _,ZV.new w _ _,World.ownsRow_nil _ _ _ _,World.ownsRow_nil _ _ _ _,fun p hp=>by simp at hp,Nat.le_refl _,World.ownsRow_nil _ _ _ _⟩
theorem VP (t:T) (hm:Z8 w B b0 M) (hs:(t.Y5 false M).small 90000) (hok:t.ok) {v:Value} {bb o:Nat} (hv:ZM v bb o t.len) (hat:t.At (Zl w B) true bb o):
  Calls Tryz.prog 66 #[b0,v] w fun e w'=> ∃ a vs,e=.returned (.pointer (some ⟨a,0,none⟩))∧Zz (Hv w' w.heap.size) a 3 2 vs∧t.Ast (Hv w' w.heap.size) 0 M.leaves M.items vs∧Z8 w' B b0 (t.Y5 false M)∧Fr [83,4,217] B w w':=by
 have hlt:=hm.lt;have Hall:=Za hs hv hat;clear hs hv hat;obtain⟨⟨va,vn,vc,rfl⟩,_⟩:=ZJ Hall.out.2.1;go_enter Tryz.func66,Tryz.ntmps66;go_wp2_with fail
 refine(Hu t B b0 M w _ bb o hm Hall.out.1 hok Hall.out.2.1 Hall.out.2.2).mono ?_;rintro e w1 ⟨r,vs,rfl,hr,hast,hM1,f1⟩;obtain⟨ra,rn,rc,rfl⟩:=hr.slice;have s1:=f1.size;have nb:ZV (w1.alloc _) w1.heap.size _ _:=ZV.new w1 [.int .i64 3,.slice ra rn rc,.int .i64 2] 146;have f2:Fr [] B w1 (w1.alloc (.cells [.int .i64 3,.slice ra rn rc,.int .i64 2].toArray 146)):=(Fr.refl _ _ _).alloc (by omega) _;have hv2: ∀ b cs t,Hv w1 w.heap.size b cs t->Hv (w1.alloc (.cells [.int .i64 3,.slice ra rn rc,.int .i64 2].toArray 146)) w.heap.size b cs t:=Hv.fr f2 (by simp) (Nat.le_refl _);go_wp2_with fail
 go_ret;exact⟨w1.heap.size,vs,rfl,⟨_,⟨by omega,by decide,nb⟩,hr.mono hv2⟩,hast.mono hv2,hM1.fr f2 (by simp),f1.trans (f2.mono (by simp) (Nat.le_refl _))⟩
structure Built (t:T) (S S3:BS) (c:Nat):Prop where
 Zu:t.Zu.list 0 0 [] ((BS.none.new 2 (some 3)).at 0)=some S
 cur:S.cur=some c
 live: ∀ k∈S.bks,k.live=false
 range: ∀ (i:Nat) (k:Bk),S.bks[i]? =some k-> ∀ s∈k.succs,s < S.bks.length
 len:S.bks.length<=100000
 pos:0 < S.bks.length
 fin:S.FB (ZB S.bks) c=some S3
structure Body (w:World) (t:T) (v:Value):Prop where
 small:(t.Y5 false Mk.none).small 90000
 ok:t.ok
 data: ∃ bb o,ZM v bb o t.len∧t.At (Zl w w.heap.size) true bb o
theorem Body.alloc {t:T} {v:Value} (h:Body w t v) (o:Obj): ∃ bb o',ZM v bb o' t.len∧t.At (Zl (w.alloc o) w.heap.size) true bb o':=by
 obtain⟨bb,o',h1,h2⟩:=h.data;exact⟨bb,o',h1,h2.mono (Zl.below ((Below.refl _ _).alloc (Nat.le_refl _) _))⟩
theorem Ef {t:T} :Fit (t.Y5 false Mk.none) 0 (t.stops false):=fun j s hj=>by
 simpa [T.Y5,Mk.add,Mk.none]using hj
theorem TD {t:T} {S S3:BS} {c:Nat} (hb:Built t S S3 c) (hm:Z8 w B b0 (t.Y5 false Mk.none)) (hok:t.ok) {a:Nat} {vs:List Value} {lo:Nat} (hbl:Zz (Hv w lo) a 3 2 vs) (hast:t.Ast (Hv w lo) 0 0 0 vs):
  Calls Tryz.prog 65 #[a,.func (.func 67) #[b0] #[]] w fun e w'=> ∃ ga b bv A' L' mk cv mv tv,e=.returned (.pointer (some ⟨ga,0,none⟩))∧ZV w' ga [bv,!S3.bks.any fun k=>k.live&&k.Zn] 91∧ZV w' b [bv,mk,cv,mv,tv] 136∧BX w' B b b0 A' L' S3 [] (t.Y5 false Mk.none)∧Fr bT B w w':=by
 have hv0: ∀ b cs t,Hv w lo b cs t->Hv w 0 b cs t:=fun _ _ _ ⟨_,h2,h3⟩=>⟨Nat.zero_le _,h2,h3⟩
 exact new_any hm (by simp[T.Y5,Mk.add,Mk.none]) (by have:=hm.lt;omega) hok Ef (hbl.mono hv0) (hast.mono hv0) hb.Zu hb.cur hb.live hb.range hb.len hb.pos hb.fin
theorem GY {ga:Nat} {bv:Value} {r:Bool} (h:ZV w ga [bv,r] 91):
  Calls Tryz.prog 72 #[ga] w fun e w'=>e=.returned (.bool r)∧w=w':=by
 have c1:=h.cell 1 rfl;go_enter Tryz.func72,Tryz.ntmps72
 go_wp2
 go_ret;exact⟨rfl,rfl⟩
theorem xK {t:T} {S S3:BS} {c:Nat} (hb:Built t S S3 c) {v:Value} (hv:Body w t v):
  Calls Tryz.prog 39 #[v] w fun e w'=>e=.returned (.bool (!S3.bks.any fun k=>k.live&&k.Zn))∧Below w.heap.size w w':=by
 have hm:=UE (w:=w);obtain⟨bb,o,hs,hat⟩:=hv.alloc (.cells [.int .i64 0,.int .i64 0,.slice .none 0 0,.slice .none 0 0,.slice .none 0 0].toArray 83);obtain⟨⟨va,vn,vc,rfl⟩,_⟩:=ZJ hs;have HS:=Yt hs hat hv.small hb;have hok:=hv.ok;clear hs hat hb hv;go_enter Tryz.func39,Tryz.ntmps39;go_wp2_with fail
 refine(VP t hm HS.out.2.2.1 hok HS.out.1 HS.out.2.1).mono ?_;rintro e w1 ⟨a,vs,rfl,hbl,hast,hM1,f1⟩;go_wp2_with fail
 refine(TD HS.out.2.2.2 hM1 hok hbl hast).mono ?_;rintro e w2 ⟨ga,bb2,bv,A',L',mk,cv,mv,tv,rfl,hga,hb2,hX,f2⟩;have Hga:=Z9 hga;clear hga;generalize hr:(S3.bks.any fun k=>k.live&&k.Zn)=r at Hga;have Hr:=Z9 hr;clear hr;go_wp2_with fail
 refine(GY Hga.out).mono ?_;rintro e w3 ⟨rfl,rfl⟩;go_wp2_with fail
 go_ret;exact⟨by rw[Hr.out];rfl,((Below.refl _ _).alloc (Nat.le_refl _) _).trans (f1.below.trans f2.below)⟩
theorem pY {t:T} {S S3:BS} {c:Nat} (hb:Built t S S3 c) {v:Value} (hv:Body w t v):
  Calls Tryz.prog 34 #[v] w fun e w'=> ∃ av,e=.returned av∧w'.ownsRow w.heap.size 3 1 av S3.asked.length (S3.asked.map (Value.int .i64))∧Below w.heap.size w w':=by
 have hm:=UE (w:=w);obtain⟨bb,o,hs,hat⟩:=hv.alloc (.cells [.int .i64 0,.int .i64 0,.slice .none 0 0,.slice .none 0 0,.slice .none 0 0].toArray 83);obtain⟨⟨va,vn,vc,rfl⟩,_⟩:=ZJ hs;have HS:=Yt hs hat hv.small hb;have hok:=hv.ok;clear hs hat hb hv;go_enter Tryz.func34,Tryz.ntmps34;go_wp2_with fail
 refine(VP t hm HS.out.2.2.1 hok HS.out.1 HS.out.2.1).mono ?_;rintro e w1 ⟨a,vs,rfl,hbl,hast,hM1,f1⟩;go_wp2_with fail
 refine(TD HS.out.2.2.2 hM1 hok hbl hast).mono ?_;rintro e w2 ⟨ga,bb2,bv,A',L',mk,cv,mv,tv,rfl,hga,hb2,hX,f2⟩;obtain⟨NV,hX⟩:=hX;obtain⟨sv,lv,av,ps,hB2,hmb,hsv,hlv,hps,hn,hav⟩:=hX.mak;have y4:=hmb.cell 4 rfl;have hav2:w2.ownsRow w.heap.size 3 1 av S3.asked.length (S3.asked.map (Value.int .i64)):=by
  simpa [Mk.ask,T.Y5,Mk.add,Mk.none]using hav
 have Hav:=Z9 hav2;obtain⟨av1,av2,av3,rfl⟩: ∃ a n c,av=.slice a n c:=by
  rcases hav2.2 with⟨rfl,_⟩ |⟨g,cap,cur,rfl,_⟩<;>exact⟨_,_,_,rfl⟩
 clear hav hav2 hb2;go_wp2_with fail
 go_ret;exact⟨_,rfl,Hav.out,((Below.refl _ _).alloc (Nat.le_refl _) _).trans (f1.below.trans f2.below)⟩
end
section
variable {w:World}
def DV (H:Hp) (v:Value) (p:Int):Prop:= ∃ (ty q:Nat) (N:Nat),v=.iface ty (.pointer (some ⟨q,0,none⟩))∧(∀ w,(method 447 ty (.pointer (some ⟨q,0,none⟩)) "Pos").run Tryz.prog w=.ok (N,.pointer (some ⟨q,0,none⟩)) w)∧
 (∀ (args:Array Value) (w:World),(callFunc N args).run Tryz.prog w=.ok (.enter N args) w)∧
 ∀ w:World,(∀ b cs t,H b cs t->Hv w 0 b cs t)->Calls Tryz.prog N #[q] w fun e w'=>e=.returned (.int .i64 p)∧w=w'
theorem Ap (a:Addr) (w:World):(method 447 147 (.pointer (some a)) "Pos").run Tryz.prog w=.ok (89,.pointer (some a)) w:=by kernel_rfl
theorem IY (a:Addr) (w:World):(method 447 165 (.pointer (some a)) "Pos").run Tryz.prog w=.ok (182,.pointer (some a)) w:=by kernel_rfl
theorem yh (a:Addr) (w:World):(method 447 163 (.pointer (some a)) "Pos").run Tryz.prog w=.ok (176,.pointer (some a)) w:=by kernel_rfl
theorem zJ (a:Addr) (w:World):(method 447 160 (.pointer (some a)) "Pos").run Tryz.prog w=.ok (167,.pointer (some a)) w:=by kernel_rfl
theorem xG (a:Addr) (w:World):(method 447 159 (.pointer (some a)) "Pos").run Tryz.prog w=.ok (164,.pointer (some a)) w:=by kernel_rfl
theorem zU (a:Addr) (w:World):(method 447 184 (.pointer (some a)) "Pos").run Tryz.prog w=.ok (198,.pointer (some a)) w:=by kernel_rfl
theorem zx (a:Addr) (w:World):(method 447 271 (.pointer (some a)) "Pos").run Tryz.prog w=.ok (252,.pointer (some a)) w:=by kernel_rfl
theorem zy (a:Addr) (w:World):(method 447 186 (.pointer (some a)) "Pos").run Tryz.prog w=.ok (203,.pointer (some a)) w:=by kernel_rfl
theorem I5 (a:Addr) (w:World):(method 447 101 (.pointer (some a)) "Pos").run Tryz.prog w=.ok (156,.pointer (some a)) w:=by kernel_rfl
theorem Aa (a:Addr) (w:World):(method 447 161 (.pointer (some a)) "Pos").run Tryz.prog w=.ok (170,.pointer (some a)) w:=by kernel_rfl
theorem Bc (a:Addr) (w:World):(method 447 164 (.pointer (some a)) "Pos").run Tryz.prog w=.ok (179,.pointer (some a)) w:=by kernel_rfl
theorem yJ (a:Addr) (w:World):(method 447 162 (.pointer (some a)) "Pos").run Tryz.prog w=.ok (173,.pointer (some a)) w:=by kernel_rfl
theorem zZ (a:Addr) (w:World):(method 447 275 (.pointer (some a)) "Pos").run Tryz.prog w=.ok (255,.pointer (some a)) w:=by kernel_rfl
theorem uP (a:Addr) (w:World):(method 447 86 (.pointer (some a)) "Pos").run Tryz.prog w=.ok (152,.pointer (some a)) w:=by kernel_rfl
theorem yU (a:Addr) (w:World):(method 447 197 (.pointer (some a)) "Pos").run Tryz.prog w=.ok (225,.pointer (some a)) w:=by kernel_rfl
theorem yI (a:Addr) (w:World):(method 447 201 (.pointer (some a)) "Pos").run Tryz.prog w=.ok (228,.pointer (some a)) w:=by kernel_rfl
theorem Ah (a:Addr) (w:World):(method 447 203 (.pointer (some a)) "Pos").run Tryz.prog w=.ok (231,.pointer (some a)) w:=by kernel_rfl
theorem zO (a:Addr) (w:World):(method 447 205 (.pointer (some a)) "Pos").run Tryz.prog w=.ok (234,.pointer (some a)) w:=by kernel_rfl
theorem Bo (a:Addr) (w:World):(method 447 207 (.pointer (some a)) "Pos").run Tryz.prog w=.ok (237,.pointer (some a)) w:=by kernel_rfl
theorem Am (a:Addr) (w:World):(method 447 209 (.pointer (some a)) "Pos").run Tryz.prog w=.ok (240,.pointer (some a)) w:=by kernel_rfl
theorem xQ (a:Addr) (w:World):(method 447 227 (.pointer (some a)) "Pos").run Tryz.prog w=.ok (245,.pointer (some a)) w:=by kernel_rfl
theorem wY (a:Addr) (w:World):(method 447 237 (.pointer (some a)) "Pos").run Tryz.prog w=.ok (248,.pointer (some a)) w:=by kernel_rfl
theorem Ac (a:Addr) (w:World):(method 447 194 (.pointer (some a)) "Pos").run Tryz.prog w=.ok (208,.pointer (some a)) w:=by kernel_rfl
theorem iY (args:Array Value) (w:World):(callFunc 89 args).run Tryz.prog w=.ok (.enter 89 args) w:=by kernel_rfl
theorem lV (args:Array Value) (w:World):(callFunc 152 args).run Tryz.prog w=.ok (.enter 152 args) w:=by kernel_rfl
theorem wH (args:Array Value) (w:World):(callFunc 156 args).run Tryz.prog w=.ok (.enter 156 args) w:=by kernel_rfl
theorem nY (args:Array Value) (w:World):(callFunc 164 args).run Tryz.prog w=.ok (.enter 164 args) w:=by kernel_rfl
theorem lF (args:Array Value) (w:World):(callFunc 167 args).run Tryz.prog w=.ok (.enter 167 args) w:=by kernel_rfl
theorem mM (args:Array Value) (w:World):(callFunc 170 args).run Tryz.prog w=.ok (.enter 170 args) w:=by kernel_rfl
theorem lT (args:Array Value) (w:World):(callFunc 173 args).run Tryz.prog w=.ok (.enter 173 args) w:=by kernel_rfl
theorem nR (args:Array Value) (w:World):(callFunc 176 args).run Tryz.prog w=.ok (.enter 176 args) w:=by kernel_rfl
theorem oQ (args:Array Value) (w:World):(callFunc 179 args).run Tryz.prog w=.ok (.enter 179 args) w:=by kernel_rfl
theorem wI (args:Array Value) (w:World):(callFunc 182 args).run Tryz.prog w=.ok (.enter 182 args) w:=by kernel_rfl
theorem lW (args:Array Value) (w:World):(callFunc 198 args).run Tryz.prog w=.ok (.enter 198 args) w:=by kernel_rfl
theorem nV (args:Array Value) (w:World):(callFunc 201 args).run Tryz.prog w=.ok (.enter 201 args) w:=by kernel_rfl
theorem lD (args:Array Value) (w:World):(callFunc 203 args).run Tryz.prog w=.ok (.enter 203 args) w:=by kernel_rfl
theorem lG (args:Array Value) (w:World):(callFunc 208 args).run Tryz.prog w=.ok (.enter 208 args) w:=by kernel_rfl
theorem oL (args:Array Value) (w:World):(callFunc 225 args).run Tryz.prog w=.ok (.enter 225 args) w:=by kernel_rfl
theorem l9 (args:Array Value) (w:World):(callFunc 228 args).run Tryz.prog w=.ok (.enter 228 args) w:=by kernel_rfl
theorem oq (args:Array Value) (w:World):(callFunc 231 args).run Tryz.prog w=.ok (.enter 231 args) w:=by kernel_rfl
theorem kU (args:Array Value) (w:World):(callFunc 234 args).run Tryz.prog w=.ok (.enter 234 args) w:=by kernel_rfl
theorem kW (args:Array Value) (w:World):(callFunc 237 args).run Tryz.prog w=.ok (.enter 237 args) w:=by kernel_rfl
theorem mP (args:Array Value) (w:World):(callFunc 240 args).run Tryz.prog w=.ok (.enter 240 args) w:=by kernel_rfl
theorem kY (args:Array Value) (w:World):(callFunc 245 args).run Tryz.prog w=.ok (.enter 245 args) w:=by kernel_rfl
theorem lS (args:Array Value) (w:World):(callFunc 248 args).run Tryz.prog w=.ok (.enter 248 args) w:=by kernel_rfl
theorem jo (args:Array Value) (w:World):(callFunc 252 args).run Tryz.prog w=.ok (.enter 252 args) w:=by kernel_rfl
theorem jm (args:Array Value) (w:World):(callFunc 255 args).run Tryz.prog w=.ok (.enter 255 args) w:=by kernel_rfl
theorem Dv {a:Nat} {p:Int} {r:List Value} (h:Hv w 0 a (.int .i64 p::r) 142):Calls Tryz.prog 156 #[a] w fun e w'=>e=.returned (.int .i64 p)∧w=w':=by
 have c0:=h.2.2.cell 0 rfl;go_enter Tryz.func156,Tryz.ntmps156
 go_wp2
 go_ret;exact⟨rfl,rfl⟩
theorem sD {a:Nat} {p:Int} {r:List Value} (h:Hv w 0 a (.int .i64 p::r) 253):Calls Tryz.prog 170 #[a] w fun e w'=>e=.returned (.int .i64 p)∧w=w':=by
 have c0:=h.2.2.cell 0 rfl;go_enter Tryz.func170,Tryz.ntmps170
 go_wp2
 go_ret;exact⟨rfl,rfl⟩
theorem uo {a:Nat} {p:Int} {r:List Value} (h:Hv w 0 a (.int .i64 p::r) 255):Calls Tryz.prog 179 #[a] w fun e w'=>e=.returned (.int .i64 p)∧w=w':=by
 have c0:=h.2.2.cell 0 rfl;go_enter Tryz.func179,Tryz.ntmps179
 go_wp2
 go_ret;exact⟨rfl,rfl⟩
theorem rM {a:Nat} {p:Int} {r:List Value} (h:Hv w 0 a (.int .i64 p::r) 261):Calls Tryz.prog 173 #[a] w fun e w'=>e=.returned (.int .i64 p)∧w=w':=by
 have c0:=h.2.2.cell 0 rfl;go_enter Tryz.func173,Tryz.ntmps173
 go_wp2
 go_ret;exact⟨rfl,rfl⟩
theorem uN {a:Nat} {p:Int} {r:List Value} (h:Hv w 0 a (.int .i64 p::r) 277):Calls Tryz.prog 255 #[a] w fun e w'=>e=.returned (.int .i64 p)∧w=w':=by
 have c0:=h.2.2.cell 0 rfl;go_enter Tryz.func255,Tryz.ntmps255
 go_wp2
 go_ret;exact⟨rfl,rfl⟩
theorem qL {a:Nat} {p:Int} {r:List Value} (h:Hv w 0 a (.int .i64 p::r) 146):Calls Tryz.prog 152 #[a] w fun e w'=>e=.returned (.int .i64 p)∧w=w':=by
 have c0:=h.2.2.cell 0 rfl;go_enter Tryz.func152,Tryz.ntmps152
 go_wp2
 go_ret;exact⟨rfl,rfl⟩
theorem tN {a:Nat} {p:Int} {r:List Value} (h:Hv w 0 a (.int .i64 p::r) 199):Calls Tryz.prog 225 #[a] w fun e w'=>e=.returned (.int .i64 p)∧w=w':=by
 have c0:=h.2.2.cell 0 rfl;go_enter Tryz.func225,Tryz.ntmps225
 go_wp2
 go_ret;exact⟨rfl,rfl⟩
theorem uw {a:Nat} {p:Int} {r:List Value} (h:Hv w 0 a (.int .i64 p::r) 225):Calls Tryz.prog 228 #[a] w fun e w'=>e=.returned (.int .i64 p)∧w=w':=by
 have c0:=h.2.2.cell 0 rfl;go_enter Tryz.func228,Tryz.ntmps228
 go_wp2
 go_ret;exact⟨rfl,rfl⟩
theorem uq {a:Nat} {p:Int} {r:List Value} (h:Hv w 0 a (.int .i64 p::r) 231):Calls Tryz.prog 231 #[a] w fun e w'=>e=.returned (.int .i64 p)∧w=w':=by
 have c0:=h.2.2.cell 0 rfl;go_enter Tryz.func231,Tryz.ntmps231
 go_wp2
 go_ret;exact⟨rfl,rfl⟩
theorem uX {a:Nat} {p:Int} {r:List Value} (h:Hv w 0 a (.int .i64 p::r) 234):Calls Tryz.prog 234 #[a] w fun e w'=>e=.returned (.int .i64 p)∧w=w':=by
 have c0:=h.2.2.cell 0 rfl;go_enter Tryz.func234,Tryz.ntmps234
 go_wp2
 go_ret;exact⟨rfl,rfl⟩
theorem rW {a:Nat} {p:Int} {r:List Value} (h:Hv w 0 a (.int .i64 p::r) 241):Calls Tryz.prog 237 #[a] w fun e w'=>e=.returned (.int .i64 p)∧w=w':=by
 have c0:=h.2.2.cell 0 rfl;go_enter Tryz.func237,Tryz.ntmps237
 go_wp2
 go_ret;exact⟨rfl,rfl⟩
theorem qZ {a:Nat} {p:Int} {r:List Value} (h:Hv w 0 a (.int .i64 p::r) 243):Calls Tryz.prog 240 #[a] w fun e w'=>e=.returned (.int .i64 p)∧w=w':=by
 have c0:=h.2.2.cell 0 rfl;go_enter Tryz.func240,Tryz.ntmps240
 go_wp2
 go_ret;exact⟨rfl,rfl⟩
theorem qK {a:Nat} {p:Int} {r:List Value} (h:Hv w 0 a (.int .i64 p::r) 229):Calls Tryz.prog 245 #[a] w fun e w'=>e=.returned (.int .i64 p)∧w=w':=by
 have c0:=h.2.2.cell 0 rfl;go_enter Tryz.func245,Tryz.ntmps245
 go_wp2
 go_ret;exact⟨rfl,rfl⟩
theorem tH {a:Nat} {p:Int} {r:List Value} (h:Hv w 0 a (.int .i64 p::r) 236):Calls Tryz.prog 248 #[a] w fun e w'=>e=.returned (.int .i64 p)∧w=w':=by
 have c0:=h.2.2.cell 0 rfl;go_enter Tryz.func248,Tryz.ntmps248
 go_wp2
 go_ret;exact⟨rfl,rfl⟩
theorem tZ {a:Nat} {p:Int} {r:List Value} (h:Hv w 0 a (.int .i64 p::r) 221):Calls Tryz.prog 208 #[a] w fun e w'=>e=.returned (.int .i64 p)∧w=w':=by
 have c0:=h.2.2.cell 0 rfl;go_enter Tryz.func208,Tryz.ntmps208
 go_wp2
 go_ret;exact⟨rfl,rfl⟩
theorem sS {a:Nat} {lv u:Value} {s:ByteArray} (h:Hv w 0 a [lv,.int .i64 0,u] 190) (hl:Yk (Hv w 0) lv s):Calls Tryz.prog 203 #[a] w fun e w'=>e=.returned (.int .i64 0)∧w=w':=by
 have c0:=h.2.2.cell 0 rfl;obtain⟨la,o,rfl,hla⟩:=hl;go_enter Tryz.func203,Tryz.ntmps203;go_wp2_with fail
 refine(YV (pos:=0) ⟨s,o,hla⟩).mono ?_;rintro e w' ⟨rfl,rfl⟩;go_wp2_with fail
 go_ret;exact⟨rfl,rfl⟩
theorem rU {a d l:Nat} {p:Int} {x0 r x4:Value} (h:Hv w 0 a [x0,.slice (some ⟨l,0,none⟩) 1 1,.nilIface,r,x4] 258) (hl:Hv w 0 l [d] 188) (hd:WJ (Hv w 0) d p):Calls Tryz.prog 198 #[a] w fun e w'=>e=.returned (.int .i64 p)∧w=w':=by
 have c1:=h.2.2.cell 1 rfl;have c0:=hl.2.2.cell 0 rfl;go_enter Tryz.func198,Tryz.ntmps198;go_wp2_with fail
 refine(YV hd).mono ?_;rintro e w' ⟨rfl,rfl⟩;go_wp2_with fail
 go_ret;exact⟨rfl,rfl⟩
theorem uT {a:Nat} {p:Int} {x:Value} (h:Hv w 0 a [x,.int .i64 0,.int .i64 37] 249) (hx:Zp (Hv w 0) x p):Calls Tryz.prog 167 #[a] w fun e w'=>e=.returned (.int .i64 p)∧w=w':=by
 have c0:=h.2.2.cell 0 rfl;obtain⟨ia,rfl,hi⟩:=hx;have hp:=SY ⟨ia,0,none⟩ w;go_enter Tryz.func167,Tryz.ntmps167;go_wp2_with fail
 refine(YV hi).mono ?_;rintro e w' ⟨rfl,rfl⟩;go_wp2_with fail
 go_ret;exact⟨rfl,rfl⟩
theorem qW {a:Nat} {p:Int} {x y:Value} (h:Hv w 0 a [x,.int .i64 0,y] 251) (hx:Zp (Hv w 0) x p):Calls Tryz.prog 164 #[a] w fun e w'=>e=.returned (.int .i64 p)∧w=w':=by
 have c0:=h.2.2.cell 0 rfl;obtain⟨ia,rfl,hi⟩:=hx;have hp:=SY ⟨ia,0,none⟩ w;go_enter Tryz.func164,Tryz.ntmps164;go_wp2_with fail
 refine(YV hi).mono ?_;rintro e w' ⟨rfl,rfl⟩;go_wp2_with fail
 go_ret;exact⟨rfl,rfl⟩
theorem qP {a:Nat} {p:Int} {x:Value} (h:Hv w 0 a [x,.int .i64 0,.nilIface,.int .i64 0] 273) (hx:Zp (Hv w 0) x p):Calls Tryz.prog 252 #[a] w fun e w'=>e=.returned (.int .i64 p)∧w=w':=by
 have c0:=h.2.2.cell 0 rfl;obtain⟨ia,rfl,hi⟩:=hx;have hp:=SY ⟨ia,0,none⟩ w;go_enter Tryz.func252,Tryz.ntmps252;go_wp2_with fail
 refine(YV hi).mono ?_;rintro e w' ⟨rfl,rfl⟩;go_wp2_with fail
 go_ret;exact⟨rfl,rfl⟩
theorem rF {a l:Nat} {p:Int} {x r y z:Value} (h:Hv w 0 a [.slice (some ⟨l,0,none⟩) 1 1,y,z,r] 239) (hl:Hv w 0 l [x] 168) (hx:Zp (Hv w 0) x p):Calls Tryz.prog 176 #[a] w fun e w'=>e=.returned (.int .i64 p)∧w=w':=by
 have c0:=h.2.2.cell 0 rfl;have c1:=hl.2.2.cell 0 rfl;obtain⟨ia,rfl,hi⟩:=hx;have hp:=SY ⟨ia,0,none⟩ w;go_enter Tryz.func176,Tryz.ntmps176;go_wp2_with fail
 refine(YV hi).mono ?_;rintro e w' ⟨rfl,rfl⟩;go_wp2_with fail
 go_ret;exact⟨rfl,rfl⟩
theorem Lh {a c:Nat} {p:Int} (h:Hv w 0 a [.iface 147 (.pointer (some ⟨c,0,none⟩))] 170) (hc:VX (Hv w 0) c p):Calls Tryz.prog 182 #[a] w fun e w'=>e=.returned (.int .i64 p)∧w=w':=by
 have c0:=h.2.2.cell 0 rfl;have hp:=Ap ⟨c,0,none⟩ w;go_enter Tryz.func182,Tryz.ntmps182;go_wp2_with fail
 refine(SH hc).mono ?_;rintro e w' ⟨rfl,rfl⟩;go_wp2_with fail
 go_ret;exact⟨rfl,rfl⟩
theorem NU {a c:Nat} {y:Value} (h:Hv w 0 a [.iface 271 (.pointer (some ⟨c,0,none⟩))] 170) (hc:Hv w 0 c [y,.int .i64 0,.nilIface,.int .i64 0] 273) (hy:Zp (Hv w 0) y 0):Calls Tryz.prog 182 #[a] w fun e w'=>e=.returned (.int .i64 0)∧w=w':=by
 have c0:=h.2.2.cell 0 rfl;have hp:=zx ⟨c,0,none⟩ w;go_enter Tryz.func182,Tryz.ntmps182;go_wp2_with fail
 refine(qP hc hy).mono ?_;rintro e w' ⟨rfl,rfl⟩;go_wp2_with fail
 go_ret;exact⟨rfl,rfl⟩
theorem Ov {a c:Nat} {y:Value} (h:Hv w 0 a [.iface 275 (.pointer (some ⟨c,0,none⟩))] 170) (hc:Hv w 0 c [.int .i64 0,.int .i64 36,y] 277):Calls Tryz.prog 182 #[a] w fun e w'=>e=.returned (.int .i64 0)∧w=w':=by
 have c0:=h.2.2.cell 0 rfl;have hp:=zZ ⟨c,0,none⟩ w;go_enter Tryz.func182,Tryz.ntmps182;go_wp2_with fail
 refine(uN hc).mono ?_;rintro e w' ⟨rfl,rfl⟩;go_wp2_with fail
 go_ret;exact⟨rfl,rfl⟩
theorem Yz.pos {H:Hp} {v:Value} (h:Yz H v):DV H v 0:=by
 obtain⟨a,x,rfl,ha,hx⟩:=h;refine⟨165,a,182,rfl,IY _,wI,fun w hH=>?_⟩;rcases hx with⟨c,y,rfl,hc,hy⟩ |⟨c,y,rfl,hc⟩
 ·exact NU (hH _ _ _ ha) (hH _ _ _ hc) (hy.mono hH)
 ·exact Ov (hH _ _ _ ha) (hH _ _ _ hc)
theorem WQ.pos {H:Hp} {v:Value} {p:Int} (h:WQ H v p):DV H v p:=by
 obtain⟨a,c,rfl,ha,hc⟩:=h;exact⟨165,a,182,rfl,IY _,wI,fun w hH=>Lh (hH _ _ _ ha) (hc.mono hH)⟩
theorem XH.pos {H:Hp} {v:Value} {n:WW} (h:XH H v n):DV H v n.pos:=by
 rcases h with⟨_,a,rfl,ha⟩ |⟨_,⟨a,rfl,ha⟩ |h|⟨a,l,x,r,rfl,ha,hl,hx⟩ |⟨a,x,rfl,ha,hx⟩ |⟨a,x,y,rfl,ha,hx⟩ |⟨a,c,rfl,ha⟩ |⟨a,c,rfl,ha⟩ |⟨a,l,d,r,rfl,ha,hl,hd⟩ |⟨⟨a,rfl,ha⟩,hp⟩ |⟨h,hp⟩⟩
 ·exact⟨101,a,156,rfl,I5 _,wH,fun w hH=>Dv (hH _ _ _ ha)⟩
 ·exact⟨188,a,201,rfl,SY _,nV,fun w hH=>YV (ha.mono hH)⟩
 ·exact h.pos
 ·exact⟨163,a,176,rfl,yh _,nR,fun w hH=>rF (hH _ _ _ ha) (hH _ _ _ hl) (hx.mono hH)⟩
 ·exact⟨160,a,167,rfl,zJ _,lF,fun w hH=>uT (hH _ _ _ ha) (hx.mono hH)⟩
 ·exact⟨159,a,164,rfl,xG _,nY,fun w hH=>qW (hH _ _ _ ha) (hx.mono hH)⟩
 ·exact⟨161,a,170,rfl,Aa _,mM,fun w hH=>sD (hH _ _ _ ha)⟩
 ·exact⟨164,a,179,rfl,Bc _,oQ,fun w hH=>uo (hH _ _ _ ha)⟩
 ·exact⟨184,a,198,rfl,zU _,lW,fun w hH=>rU (hH _ _ _ ha) (hH _ _ _ hl) (hd.mono hH)⟩
 ·rw[hp];exact⟨162,a,173,rfl,yJ _,lT,fun w hH=>rM (hH _ _ _ ha)⟩
 ·rw[hp];exact h.pos
theorem YR.pos {H:Hp} {v:Value} {p:Int} (h:YR H v (some p)):DV H v p:=by
 rcases h with⟨a,ty,t0,rest,rfl,hm,ha⟩ |⟨hp,a,lv,u,s,rfl,ha,hl⟩ |h|⟨h,hp⟩
 ·simp only[KH,List.mem_cons,Prod.mk.injEq,List.not_mem_nil,or_false]at hm;rcases hm with⟨rfl,rfl⟩ |⟨rfl,rfl⟩ |⟨rfl,rfl⟩ |⟨rfl,rfl⟩ |⟨rfl,rfl⟩ |⟨rfl,rfl⟩ |⟨rfl,rfl⟩ |⟨rfl,rfl⟩ |⟨rfl,rfl⟩ |⟨rfl,rfl⟩ |⟨rfl,rfl⟩
  ·exact⟨86,a,152,rfl,uP _,lV,fun w hH=>qL (hH _ _ _ ha)⟩
  ·exact⟨197,a,225,rfl,yU _,oL,fun w hH=>tN (hH _ _ _ ha)⟩
  ·exact⟨207,a,237,rfl,Bo _,kW,fun w hH=>rW (hH _ _ _ ha)⟩
  ·exact⟨209,a,240,rfl,Am _,mP,fun w hH=>qZ (hH _ _ _ ha)⟩
  ·exact⟨201,a,228,rfl,yI _,l9,fun w hH=>uw (hH _ _ _ ha)⟩
  ·exact⟨203,a,231,rfl,Ah _,oq,fun w hH=>uq (hH _ _ _ ha)⟩
  ·exact⟨205,a,234,rfl,zO _,kU,fun w hH=>uX (hH _ _ _ ha)⟩
  ·exact⟨227,a,245,rfl,xQ _,kY,fun w hH=>qK (hH _ _ _ ha)⟩
  ·exact⟨237,a,248,rfl,wY _,lS,fun w hH=>tH (hH _ _ _ ha)⟩
  ·exact⟨194,a,208,rfl,Ac _,lG,fun w hH=>tZ (hH _ _ _ ha)⟩
  ·exact⟨101,a,156,rfl,I5 _,wH,fun w hH=>Dv (hH _ _ _ ha)⟩
 ·rw[hp];exact⟨186,a,203,rfl,zy _,lD,fun w hH=>sS (hH _ _ _ ha) (hl.mono hH)⟩
 ·exact h.pos
 ·rw[hp];exact h.pos
end
section
variable {w:World} {B b b0:Nat} {A L:List Nat} {S S':BS} {tg:List Tg} {M:Mk}
def Zy (p:Int):Int:=if p=2 then -2 else if 10<=p∧(p -10) % 2=0 then(p -10) / 2 else -1
def X9:Option Int->Int
 |none=> -4
 |some p=>if p=3 then -3 else if 10<=p∧(p -10) % 2=1 then(p -10) / 2 else -1
theorem KI (p:Int) (h0:0<=p) (h1:p<=10000000):Calls Tryz.prog 70 #[.int .i64 p] w fun e w'=>e=.returned (.int .i64 (Zy p))∧w=w':=by
 by_cases h2:p=2
 ·subst h2;go_enter Tryz.func70,Tryz.ntmps70
  go_wp2
  go_ret;exact⟨rfl,rfl⟩
 ·have e2:(p==2)=false:=by simpa using h2
  by_cases h3:10<=p
  ·by_cases h4:(p -10) % 2=0
   ·have e4:((p -10) % 2==0)=true:=by simpa using h4
    have hr:Zy p=(p -10) / 2:=by unfold Zy;rw[if_neg h2,if_pos ⟨h3,h4⟩]
    have Hr:=Z9 hr;clear hr h4 h2;have h5:0<=p -10:=by omega
    go_enter Tryz.func70,Tryz.ntmps70;go_wp2_with fail
    go_ret;exact⟨by rw[Hr.out];rfl,rfl⟩
   ·have e4:((p -10) % 2==0)=false:=by simpa using h4
    have hr:Zy p= -1:=by unfold Zy;rw[if_neg h2,if_neg (by omega)]
    have Hr:=Z9 hr;clear hr h4 h2;have h5:0<=p -10:=by omega
    go_enter Tryz.func70,Tryz.ntmps70;go_wp2_with fail
    go_ret;exact⟨by rw[Hr.out];rfl,rfl⟩
  ·have hr:Zy p= -1:=by unfold Zy;rw[if_neg h2,if_neg (by omega)]
   have Hr:=Z9 hr;clear hr h2;have h5:p < 10:=by omega
   go_enter Tryz.func70,Tryz.ntmps70;go_wp2_with fail
   go_ret;exact⟨by rw[Hr.out];rfl,rfl⟩
theorem jF (w:World):(binOp .eql 96 .nilIface .nilIface).run Tryz.prog w=.ok (.bool true) w:=by kernel_rfl
theorem jw (t:Nat) (q:Value) (w:World):(binOp .eql 96 (.iface t q) .nilIface).run Tryz.prog w=.ok (.bool false) w:=by kernel_rfl
theorem Ku:Calls Tryz.prog 68 #[.nilIface] w fun e w'=>e=.returned (.int .i64 (-4))∧w=w':=by
 go_enter Tryz.func68,Tryz.ntmps68
 go_wp2
 go_ret;exact⟨rfl,rfl⟩
theorem Nh {v:Value} {p:Int} (h:DV (Hv w 0) v p) (h0:0<=p) (h1:p<=10000000):Calls Tryz.prog 68 #[v] w fun e w'=>e=.returned (.int .i64 (X9 (some p)))∧w=w':=by
 obtain⟨ty,q,N,rfl,hm,hcf,hc⟩:=h;have hp:=hm w;have hcf1:=hcf #[q] w;have hcal:=Z9 (hc w (fun _ _ _ h=>h));clear hm hc hcf;by_cases h2:p=3
 ·subst h2;go_enter Tryz.func68,Tryz.ntmps68;go_wp2_with fail
  refine hcal.out.mono ?_;rintro e w' ⟨rfl,rfl⟩;go_wp2_with fail
  go_ret;exact⟨rfl,rfl⟩
 ·have e2:(p==3)=false:=by simpa using h2
  by_cases h3:10<=p
  ·by_cases h4:(p -10) % 2=1
   ·have e4:((p -10) % 2==1)=true:=by simpa using h4
    have hr:X9 (some p)=(p -10) / 2:=by unfold X9;simp only[if_neg h2,if_pos (And.intro h3 h4)]
    have Hr:=Z9 hr;clear hr h4 h2;have h5:0<=p -10:=by omega
    go_enter Tryz.func68,Tryz.ntmps68;go_wp2_with fail
    refine hcal.out.mono ?_;rintro e w' ⟨rfl,rfl⟩;go_wp2_with fail
    go_ret;exact⟨by rw[Hr.out];rfl,rfl⟩
   ·have e4:((p -10) % 2==1)=false:=by simpa using h4
    have hr:X9 (some p)= -1:=by unfold X9;simp only[if_neg h2];rw[if_neg (by omega)]
    have Hr:=Z9 hr;clear hr h4 h2;have h5:0<=p -10:=by omega
    go_enter Tryz.func68,Tryz.ntmps68;go_wp2_with fail
    refine hcal.out.mono ?_;rintro e w' ⟨rfl,rfl⟩;go_wp2_with fail
    go_ret;exact⟨by rw[Hr.out];rfl,rfl⟩
  ·have hr:X9 (some p)= -1:=by unfold X9;simp only[if_neg h2];rw[if_neg (by omega)]
   have Hr:=Z9 hr;clear hr h2;have h5:p < 10:=by omega
   go_enter Tryz.func68,Tryz.ntmps68;go_wp2_with fail
   refine hcal.out.mono ?_;rintro e w' ⟨rfl,rfl⟩;go_wp2_with fail
   go_ret;exact⟨by rw[Hr.out];rfl,rfl⟩
end
section
attribute [local go_sem] Ux Vy
variable {w:World} {B b b0:Nat} {A L:List Nat} {S S':BS} {tg:List Tg} {M:Mk}
theorem BX.nodes (h:BX w B b b0 A L S tg M) {i a:Nat} {k:Bk} (hk:S.bks[i]? =some k) (ha:A[i]? =some a):
  ∃ nv ns sv p0 p1,ZV w a [nv,.slice (some ⟨a,7,none⟩) k.succs.length 2,.int .i32 i,k.live,k.Zn,.int .u8 k.kind,sv,p0,p1] 99∧w.ownsRow B 104 1 nv ns.length ns∧ns.length=k.nodes.length∧
   (∀ (j:Nat) v n,ns[j]? =some v->k.nodes[j]? =some n->XH (Hv w 0) v n)∧YR (Hv w 0) sv k.of:=by
 obtain⟨NV,h⟩:=h;have hlt:=(List.getElem?_eq_some_iff.1 hk).1;have hln:i < NV.length:=by have:=h.lenN;omega
 obtain⟨a',sv,p0,p1,ns,g1,g2,g3,g4,g5,g6,_⟩:=h.bks i _ _ hk (List.getElem?_eq_getElem hln);rw[ha]at g1;cases g1;exact⟨_,ns,sv,p0,p1,g2,g3,g4,g5,g6⟩
def Bk.ends (k:Bk):Bool:=(k.nodes.getLast?.map WW.ret).getD false
theorem XH.assert {H:Hp} {v:Value} {n:WW} (h:XH H v n): ∃ t q,v=.iface t (.pointer (some q))∧(n.ret=true↔t=101):=by
 rcases h with⟨h1,a,rfl,_⟩ |⟨h1,⟨a,rfl,_⟩ |⟨a,c,rfl,_⟩ |⟨a,l,x,r,rfl,_⟩ |⟨a,x,rfl,_⟩ |⟨a,x,y,rfl,_⟩ |⟨a,c,rfl,_⟩ |⟨a,c,rfl,_⟩ |⟨a,l,d,r,rfl,_⟩ |⟨⟨a,rfl,_⟩,_⟩ |⟨⟨a,x,rfl,_⟩,_⟩⟩<;>exact⟨_,_,rfl,by simp[h1]⟩
theorem PD (h:BX w B b b0 A L S tg M) {i a:Nat} {k:Bk} (hk:S.bks[i]? =some k) (ha:A[i]? =some a) (hn:k.nodes.length<=200000):
  Calls Tryz.prog 69 #[.pointer (some ⟨a,0,none⟩)] w fun e w'=>(∃ r,e=.returned (.pointer r)∧(r.isSome=k.ends))∧ ∃ n,w'=w.drewN n:=by
 obtain⟨nv,ns,sv,p0,p1,hb,hown,hl,hnd,_⟩:=h.nodes hk ha;have c0:=hb.cell 0 rfl;rcases List.eq_nil_or_concat ns with rfl|⟨ns',v,rfl⟩
 ·obtain⟨aa,nn,cc,rfl,rfl⟩: ∃ a n c,nv=.slice a n c∧n=0:=by
   rcases hown.2 with⟨rfl,_⟩ |⟨g,cap,cur,rfl,_⟩
   ·exact⟨_,_,_,rfl,rfl⟩
   ·exact⟨_,_,_,rfl,rfl⟩
  have he:k.ends=false:=by
   have:k.nodes= []:=List.length_eq_zero_iff.1 (by simpa using hl.symm);simp[Bk.ends,this]
  have He:=Z9 he;clear he hk ha hl hnd;go_enter Tryz.func69,Tryz.ntmps69;go_wp2_with fail
  go_ret;exact⟨⟨_,rfl,by rw[He.out];rfl⟩,0,rfl⟩
 ·simp only[List.concat_eq_append]at hown hl hnd;obtain⟨g,cap,rfl⟩: ∃ g cap,nv=.slice (some ⟨g,0,none⟩) (ns'.length+1) cap:=by
   rcases hown.2 with⟨_,h0⟩ |⟨g,cap,cur,hv,_⟩
   ·simp at h0
   ·exact⟨g,cap,by simpa using hv⟩
  have hlen:k.nodes.length=ns'.length+1:=by simpa using hl.symm
  have hlt:ns'.length < k.nodes.length:=by omega
  have hcv:w.cell? ⟨g,ns'.length,none⟩=some v:=by
   have hown2:w.ownsRow B 104 1 (.slice (some ⟨g,0,none⟩) (ns'.length+1) cap) (ns'.length+1) (ns'++ [v]):=by simpa using hown
   rw[World.ownsRow.cellAt hown2 ns'.length (by omega)];simp
  obtain⟨t,q,rfl,hr⟩:=(hnd ns'.length v k.nodes[ns'.length] (by simp) (List.getElem?_eq_getElem hlt)).assert;have he:k.ends=k.nodes[ns'.length].ret:=by
   have:k.nodes.getLast? =some k.nodes[ns'.length]:=by
    rw[List.getLast?_eq_getElem?,show k.nodes.length -1=ns'.length by omega,List.getElem?_eq_getElem hlt]
   simp[Bk.ends,this]
  have hn1:ns'.length<=200000:=by omega
  generalize k.nodes[ns'.length].ret=rt at he hr;have He:=ZL he hr;clear he hr hk ha hl hnd hown hlen hlt;by_cases ht:t=101
  ·subst ht;have hta: ∀ w,(Instr.typeAssert (.iface 101 (.pointer (some q))) 104 101 true).run Tryz.prog w=.ok (.tuple #[.pointer (some q),true]) w:=fun w=>Vy 104 _ w;go_enter Tryz.func69,Tryz.ntmps69;go_wp2_with fail
   go_quiet (fail)
   go_wp2_with fail
   go_ret;have hrt:rt=true:=by
    have:=He.out.2;simpa using this
   exact⟨⟨_,rfl,by rw[He.out.1,hrt];rfl⟩,_,rfl⟩
  ·have hta: ∀ w,(Instr.typeAssert (.iface t (.pointer (some q))) 104 101 true).run Tryz.prog w=.ok (.tuple #[.pointer none,false]) w:=fun w=>Ux 104 t _ w ht;have Ht:=Z9 ht;clear ht;go_enter Tryz.func69,Tryz.ntmps69;go_wp2_with fail
   go_quiet (fail)
   go_wp2_with fail
   go_ret;have hf:k.ends=false:=by
    rw[He.out.1];cases hc:rt with
    |false=>rfl
    |true=>exact absurd (He.out.2.1 hc) Ht.out
   exact⟨⟨_,rfl,by rw[hf];rfl⟩,_,rfl⟩
end
section
variable {w:World} {B b b0:Nat} {A L:List Nat} {S S':BS} {tg:List Tg} {M:Mk}
theorem BX.cells (h:BX w B b b0 A L S tg M) {i a:Nat} (hi:A[i]? =some a): ∃ cs,ZV w a cs 99:=by
 have hl:=h.len;have h1:i < S.bks.length:=by have:=(List.getElem?_eq_some_iff.1 hi).1;omega
 obtain⟨nv,sv,p0,p1,hb,_⟩:=h.at (List.getElem?_eq_getElem h1) hi;exact⟨_,hb⟩
theorem BX.eql (h:BX w B b b0 A L S tg M) {i j a c:Nat} (hi:A[i]? =some a) (hj:A[j]? =some c) (hne:i≠j):(binOp .eql 92 (.pointer (some ⟨a,0,none⟩)) (.pointer (some ⟨c,0,none⟩))).run Tryz.prog w=.ok (.bool false) w:=by
 obtain⟨k,hk,hs⟩:=Option.map_eq_some_iff.1 NQ;obtain⟨c1,h1⟩:=h.cells hi;obtain⟨c2,h2⟩:=h.cells hj;have hn:=h.ne hi hj hne;exact run_eql_ptr_other w Tryz.underlying92 hk (by omega) (fun e=>hn (by cases e;rfl)) h1 h2
theorem Dk (a:Nat) (w:World):(binOp .eql 92 (.pointer (some ⟨a,0,none⟩)) (.pointer (some ⟨a,0,none⟩))).run Tryz.prog w=.ok (.bool true) w:=by
 obtain⟨k,hk,hs⟩:=Option.map_eq_some_iff.1 NQ;exact run_eql_ptr_same w _ Tryz.underlying92 hk
theorem La (h:BX w B b b0 A L S tg M) (hA:A.length<=200000) {bv:Value} (hown:w.ownsRow B 92 1 bv A.length (A.map fun a=>.pointer (some ⟨a,0,none⟩))) {i a:Nat} (hi:A[i]? =some a):
  Calls Tryz.prog 71 #[bv,a] w fun e w'=>e=.returned (.int .i64 i)∧w=w':=by
 have hil:=(List.getElem?_eq_some_iff.1 hi).1;obtain⟨g,cap,rfl⟩: ∃ g cap,bv=.slice (some ⟨g,0,none⟩) A.length cap:=by
  rcases hown.2 with⟨_,h0⟩ |⟨g,cap,cur,hv,_⟩
  ·omega
  ·exact⟨g,cap,hv⟩
 have Hi:=Z9 hi;clear hi;go_enter Tryz.func71,Tryz.ntmps71;go_wp2_with fail
 go_loopw [9] (fun ix wr=>wr=w∧ ∃ k:Nat,ix=.int .i64 k∧k<=i) (fun ix _=>A.length -(intOf ix).toNat)
 case atStart=>exact⟨rfl,0,rfl,Nat.zero_le _⟩
 case round=>
  obtain⟨rfl,k,rfl,hk⟩:=hrel;have hkl:k < A.length:=by omega
  have hck:wr.cell? ⟨g,k,none⟩=some (.pointer (some ⟨A[k],0,none⟩)):=by
   rw[World.ownsRow.cellAt hown k (by omega)];simp[hkl]
  have hak:=List.getElem?_eq_getElem hkl;generalize A[k]=ak at hck hak;by_cases hki:k=i
  ·subst hki;obtain rfl:ak=a:=by rw[Hi.out]at hak;exact(Option.some.inj hak).symm
   have he:=Dk ak wr;clear hak;go_wp2_with fail
   go_ret;exact⟨rfl,rfl⟩
  ·have he:=h.eql hak Hi.out hki;have hk1:k+1<=i:=by omega
   clear hak hki;go_wp2_with fail
   first|exact⟨⟨rfl,k+1,by simp,hk1⟩,by simp[intOf];omega⟩ |exact⟨⟨trivial,k+1,by simp,hk1⟩,by simp[intOf];omega⟩
end
end Go.Proofs.YteedbaejpdjilaaGreat
