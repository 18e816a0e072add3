/- Part of the proof: BuiD BuiE BuiF BuiG BuiH. -/
import Derived.Test.YteedbaejpdjilaaGreatYPp
set_option linter.all false
set_option maxRecDepth 100000
set_option maxHeartbeats 40000000
namespace Go.Proofs.YteedbaejpdjilaaGreat
open Go.RowKit Tryz
section
variable {w w':World} {B b b0:Nat} {A L:List Nat} {S S':BS} {tg:List Tg} {M:Mk}
def Mk.none:Mk:=⟨0,0,0,[],[]⟩
theorem Sh:ZZ (w.alloc (.cells [.int .i64 0,.int .i64 0,.slice .none 0 0,.slice .none 0 0,.slice .none 0 0].toArray 83)) w.heap.size w.heap.size Mk.none:=
 ⟨_,_,_,[],Z7 _,ZD.new w _ _,Zs _ _ _ _,Zs _ _ _ _,fun p hp=>by simp at hp,Z7 _,Zs _ _ _ _⟩
theorem U5 (t:T) (hm:ZZ w B b0 M) (hs:(t.Yg false M).small 90000) (hok:t.ok) {v:Value} {bb o:Nat} (hv:Zi v bb o t.len) (hat:t.At (YB w B) true bb o):
  Calls prog 66 #[b0,v] w fun e w'=> ∃ a vs,e=.returned (.pointer (some ⟨a,0,none⟩))/\YW (Hv w' w.heap.size) a 3 2 vs/\t.Ast (Hv w' w.heap.size) 0 M.leaves M.items vs/\ZZ w' B b0 (t.Yg false M)/\Fr [83,4,217] B w w':=by
 have hlt:=hm.lt;have zL:=X7 hs hv hat;clear hs hv hat;obtain⟨⟨va,vn,vc,rfl⟩,_⟩:=Za zL.out.2.1;go_enter func66,ntmps66;go_wp2_with fail
 refine(FW t B b0 M w _ bb o hm zL.out.1 hok zL.out.2.1 zL.out.2.2).mono ?_;rintro e w1 ⟨r,vs,rfl,hr,YD,hM1,f1⟩;obtain⟨ra,rn,rc,rfl⟩:=hr.slice;have s1:=f1.size;have nb:ZD (w1.alloc _) w1.heap.size _ _:=ZD.new w1 [.int .i64 3,.slice ra rn rc,.int .i64 2] 146;have f2:Fr [] B w1 (w1.alloc (.cells [.int .i64 3,.slice ra rn rc,.int .i64 2].toArray 146)):=(Fr.refl _ _ _).alloc (by omega) _;have hv2: ∀ b cs t,Hv w1 w.heap.size b cs t->Hv (w1.alloc (.cells [.int .i64 3,.slice ra rn rc,.int .i64 2].toArray 146)) w.heap.size b cs t:=Hv.fr f2 (by simp) (Z7 _);go_wp2_with fail
 go_ret;exact⟨w1.heap.size,vs,rfl,⟨_,⟨by omega,by decide,nb⟩,hr.mono hv2⟩,YD.mono hv2,hM1.fr f2 (by simp),f1.trans (f2.mono (by simp) (Z7 _))⟩
structure Built (t:T) (S S3:BS) (c:Nat):Prop where
 YO:t.YO.list 0 0 [] ((BS.none.new 2 (some 3)).at 0)=some S
 cur:S.cur=some c
 live: ∀ k∈S.Z6,k.live=false
 range: ∀ (i:Nat) (k:Bk),S.Z6[i]? =some k-> ∀ s∈k.succs,s < S.Z6.length
 len:S.Z6.length<=100000
 pos:0 < S.Z6.length
 fin:S.Dx (YU S.Z6) c=some S3
structure Body (w:World) (t:T) (v:Value):Prop where
 small:(t.Yg false Mk.none).small 90000
 ok:t.ok
 data: ∃ bb o,Zi v bb o t.len/\t.At (YB w w.heap.size) true bb o
theorem Body.alloc {t:T} {v:Value} (h:Body w t v) (o:Obj): ∃ bb o',Zi v bb o' t.len/\t.At (YB (w.alloc o) w.heap.size) true bb o':=by
 obtain⟨bb,o',h1,h2⟩:=h.data;exact⟨bb,o',h1,h2.mono (YB.below ((ZN _ _).alloc (Z7 _) _))⟩
theorem Ds {t:T} :Fit (t.Yg false Mk.none) 0 (t.stops false):=fun j s hj=>by
 simpa [T.Yg,Mk.add,Mk.none]using hj
theorem QN {t:T} {S S3:BS} {c:Nat} (hb:Built t S S3 c) (hm:ZZ w B b0 (t.Yg false Mk.none)) (hok:t.ok) {a:Nat} {vs:List Value} {lo:Nat} (hbl:YW (Hv w lo) a 3 2 vs) (YD:t.Ast (Hv w lo) 0 0 0 vs):
  Calls prog 65 #[a,.func (.func 67) #[b0] #[]] w fun e w'=> ∃ ga b bv A' L' mk cv mv tv,e=.returned (.pointer (some ⟨ga,0,none⟩))/\ZD w' ga [bv,!S3.Z6.any fun k=>k.live&&k.Yz] 91/\ZD w' b [bv,mk,cv,mv,tv] 136/\BX w' B b b0 A' L' S3 [] (t.Yg false Mk.none)/\Fr bT B w w':=by
 have hv0: ∀ b cs t,Hv w lo b cs t->Hv w 0 b cs t:=fun _ _ _ ⟨_,h2,h3⟩=>⟨Nat.zero_le _,h2,h3⟩
 exact new_any hm (by simp[T.Yg,Mk.add,Mk.none]) (by have:=hm.lt;omega) hok Ds (hbl.mono hv0) (YD.mono hv0) hb.YO hb.cur hb.live hb.range hb.len hb.pos hb.fin
theorem Fx {ga:Nat} {bv:Value} {r:Bool} (h:ZD w ga [bv,r] 91):
  Calls prog 72 #[ga] w fun e w'=>e=.returned (.bool r)/\w=w':=by
 have c1:=h.cell 1 rfl;go_enter func72,ntmps72
 go_wp2
 go_ret;exact⟨rfl,rfl⟩
theorem zK {t:T} {S S3:BS} {c:Nat} (hb:Built t S S3 c) {v:Value} (hv:Body w t v):
  Calls prog 39 #[v] w fun e w'=>e=.returned (.bool (!S3.Z6.any fun k=>k.live&&k.Yz))/\Below w.heap.size w w':=by
 have hm:=Sh (w:=w);obtain⟨bb,o,hs,hat⟩:=hv.alloc (.cells [.int .i64 0,.int .i64 0,.slice .none 0 0,.slice .none 0 0,.slice .none 0 0].toArray 83);obtain⟨⟨va,vn,vc,rfl⟩,_⟩:=Za hs;have HS:=Xp hs hat hv.small hb;have hok:=hv.ok;clear hs hat hb hv;go_enter func39,ntmps39;go_wp2_with fail
 refine(U5 t hm HS.out.2.2.1 hok HS.out.1 HS.out.2.1).mono ?_;rintro e w1 ⟨a,vs,rfl,hbl,YD,hM1,f1⟩;go_wp2_with fail
 refine(QN HS.out.2.2.2 hM1 hok hbl YD).mono ?_;rintro e w2 ⟨ga,bb2,bv,A',L',mk,cv,mv,tv,rfl,hga,hb2,hX,f2⟩;have Hga:=Z5 hga;clear hga;generalize hr:(S3.Z6.any fun k=>k.live&&k.Yz)=r at Hga;have Hr:=Z5 hr;clear hr;go_wp2_with fail
 refine(Fx Hga.out).mono ?_;rintro e w3 ⟨rfl,rfl⟩;go_wp2_with fail
 go_ret;exact⟨by rw[Hr.out];rfl,((ZN _ _).alloc (Z7 _) _).trans (f1.below.trans f2.below)⟩
theorem ql {t:T} {S S3:BS} {c:Nat} (hb:Built t S S3 c) {v:Value} (hv:Body w t v):
  Calls prog 34 #[v] w fun e w'=> ∃ av,e=.returned av/\w'.ownsRow w.heap.size 3 1 av S3.asked.length (S3.asked.map (Value.int .i64))/\Below w.heap.size w w':=by
 have hm:=Sh (w:=w);obtain⟨bb,o,hs,hat⟩:=hv.alloc (.cells [.int .i64 0,.int .i64 0,.slice .none 0 0,.slice .none 0 0,.slice .none 0 0].toArray 83);obtain⟨⟨va,vn,vc,rfl⟩,_⟩:=Za hs;have HS:=Xp hs hat hv.small hb;have hok:=hv.ok;clear hs hat hb hv;go_enter func34,ntmps34;go_wp2_with fail
 refine(U5 t hm HS.out.2.2.1 hok HS.out.1 HS.out.2.1).mono ?_;rintro e w1 ⟨a,vs,rfl,hbl,YD,hM1,f1⟩;go_wp2_with fail
 refine(QN HS.out.2.2.2 hM1 hok hbl YD).mono ?_;rintro e w2 ⟨ga,bb2,bv,A',L',mk,cv,mv,tv,rfl,hga,hb2,hX,f2⟩;obtain⟨NV,hX⟩:=hX;obtain⟨sv,lv,av,ps,hB2,hmb,hsv,hlv,hps,hn,hav⟩:=hX.Bw;have y4:=hmb.cell 4 rfl;have t8:w2.ownsRow w.heap.size 3 1 av S3.asked.length (S3.asked.map (Value.int .i64)):=by
  simpa [Mk.ask,T.Yg,Mk.add,Mk.none]using hav
 have Hav:=Z5 t8;obtain⟨av1,av2,av3,rfl⟩: ∃ a n c,av=.slice a n c:=by
  rcases t8.2 with⟨rfl,_⟩ |⟨g,cap,cur,rfl,_⟩<;>exact⟨_,_,_,rfl⟩
 clear hav t8 hb2;go_wp2_with fail
 go_ret;exact⟨_,rfl,Hav.out,((ZN _ _).alloc (Z7 _) _).trans (f1.below.trans f2.below)⟩
end
section
variable {w:World}
def Dr (H:Hp) (v:Value) (p:Int):Prop:= ∃ (ty q:Nat) (N:Nat),v=.iface ty (.pointer (some ⟨q,0,none⟩))/\(∀ w,(method 447 ty (.pointer (some ⟨q,0,none⟩)) "Pos").run prog w=.ok (N,.pointer (some ⟨q,0,none⟩)) w)/\
 (∀ (args:Array Value) (w:World),(callFunc N args).run prog w=.ok (.enter N args) w)/\
 ∀ w:World,(∀ b cs t,H b cs t->Hv w 0 b cs t)->Calls prog N #[q] w fun e w'=>e=.returned (.int .i64 p)/\w=w'
theorem zJ (a:Addr) (w:World):(method 447 147 (.pointer (some a)) "Pos").run prog w=.ok (89,.pointer (some a)) w:=by kernel_rfl
theorem GR (a:Addr) (w:World):(method 447 165 (.pointer (some a)) "Pos").run prog w=.ok (182,.pointer (some a)) w:=by kernel_rfl
theorem zI (a:Addr) (w:World):(method 447 163 (.pointer (some a)) "Pos").run prog w=.ok (176,.pointer (some a)) w:=by kernel_rfl
theorem zH (a:Addr) (w:World):(method 447 160 (.pointer (some a)) "Pos").run prog w=.ok (167,.pointer (some a)) w:=by kernel_rfl
theorem zG (a:Addr) (w:World):(method 447 159 (.pointer (some a)) "Pos").run prog w=.ok (164,.pointer (some a)) w:=by kernel_rfl
theorem zF (a:Addr) (w:World):(method 447 184 (.pointer (some a)) "Pos").run prog w=.ok (198,.pointer (some a)) w:=by kernel_rfl
theorem zE (a:Addr) (w:World):(method 447 271 (.pointer (some a)) "Pos").run prog w=.ok (252,.pointer (some a)) w:=by kernel_rfl
theorem zD (a:Addr) (w:World):(method 447 186 (.pointer (some a)) "Pos").run prog w=.ok (203,.pointer (some a)) w:=by kernel_rfl
theorem GQ (a:Addr) (w:World):(method 447 101 (.pointer (some a)) "Pos").run prog w=.ok (156,.pointer (some a)) w:=by kernel_rfl
theorem zC (a:Addr) (w:World):(method 447 161 (.pointer (some a)) "Pos").run prog w=.ok (170,.pointer (some a)) w:=by kernel_rfl
theorem zB (a:Addr) (w:World):(method 447 164 (.pointer (some a)) "Pos").run prog w=.ok (179,.pointer (some a)) w:=by kernel_rfl
theorem zz (a:Addr) (w:World):(method 447 162 (.pointer (some a)) "Pos").run prog w=.ok (173,.pointer (some a)) w:=by kernel_rfl
theorem zy (a:Addr) (w:World):(method 447 275 (.pointer (some a)) "Pos").run prog w=.ok (255,.pointer (some a)) w:=by kernel_rfl
theorem t7 (a:Addr) (w:World):(method 447 86 (.pointer (some a)) "Pos").run prog w=.ok (152,.pointer (some a)) w:=by kernel_rfl
theorem zx (a:Addr) (w:World):(method 447 197 (.pointer (some a)) "Pos").run prog w=.ok (225,.pointer (some a)) w:=by kernel_rfl
theorem zw (a:Addr) (w:World):(method 447 201 (.pointer (some a)) "Pos").run prog w=.ok (228,.pointer (some a)) w:=by kernel_rfl
theorem zu (a:Addr) (w:World):(method 447 203 (.pointer (some a)) "Pos").run prog w=.ok (231,.pointer (some a)) w:=by kernel_rfl
theorem zt (a:Addr) (w:World):(method 447 205 (.pointer (some a)) "Pos").run prog w=.ok (234,.pointer (some a)) w:=by kernel_rfl
theorem zr (a:Addr) (w:World):(method 447 207 (.pointer (some a)) "Pos").run prog w=.ok (237,.pointer (some a)) w:=by kernel_rfl
theorem zq (a:Addr) (w:World):(method 447 209 (.pointer (some a)) "Pos").run prog w=.ok (240,.pointer (some a)) w:=by kernel_rfl
theorem zp (a:Addr) (w:World):(method 447 227 (.pointer (some a)) "Pos").run prog w=.ok (245,.pointer (some a)) w:=by kernel_rfl
theorem zo (a:Addr) (w:World):(method 447 237 (.pointer (some a)) "Pos").run prog w=.ok (248,.pointer (some a)) w:=by kernel_rfl
theorem zn (a:Addr) (w:World):(method 447 194 (.pointer (some a)) "Pos").run prog w=.ok (208,.pointer (some a)) w:=by kernel_rfl
theorem lU (args:Array Value) (w:World):(callFunc 152 args).run prog w=.ok (.enter 152 args) w:=by kernel_rfl
theorem wv (args:Array Value) (w:World):(callFunc 156 args).run prog w=.ok (.enter 156 args) w:=by kernel_rfl
theorem lT (args:Array Value) (w:World):(callFunc 164 args).run prog w=.ok (.enter 164 args) w:=by kernel_rfl
theorem lS (args:Array Value) (w:World):(callFunc 167 args).run prog w=.ok (.enter 167 args) w:=by kernel_rfl
theorem lR (args:Array Value) (w:World):(callFunc 170 args).run prog w=.ok (.enter 170 args) w:=by kernel_rfl
theorem lQ (args:Array Value) (w:World):(callFunc 173 args).run prog w=.ok (.enter 173 args) w:=by kernel_rfl
theorem lO (args:Array Value) (w:World):(callFunc 176 args).run prog w=.ok (.enter 176 args) w:=by kernel_rfl
theorem lN (args:Array Value) (w:World):(callFunc 179 args).run prog w=.ok (.enter 179 args) w:=by kernel_rfl
theorem wn (args:Array Value) (w:World):(callFunc 182 args).run prog w=.ok (.enter 182 args) w:=by kernel_rfl
theorem lM (args:Array Value) (w:World):(callFunc 198 args).run prog w=.ok (.enter 198 args) w:=by kernel_rfl
theorem lL (args:Array Value) (w:World):(callFunc 201 args).run prog w=.ok (.enter 201 args) w:=by kernel_rfl
theorem lK (args:Array Value) (w:World):(callFunc 203 args).run prog w=.ok (.enter 203 args) w:=by kernel_rfl
theorem lJ (args:Array Value) (w:World):(callFunc 208 args).run prog w=.ok (.enter 208 args) w:=by kernel_rfl
theorem lI (args:Array Value) (w:World):(callFunc 225 args).run prog w=.ok (.enter 225 args) w:=by kernel_rfl
theorem lH (args:Array Value) (w:World):(callFunc 228 args).run prog w=.ok (.enter 228 args) w:=by kernel_rfl
theorem lG (args:Array Value) (w:World):(callFunc 231 args).run prog w=.ok (.enter 231 args) w:=by kernel_rfl
theorem lF (args:Array Value) (w:World):(callFunc 234 args).run prog w=.ok (.enter 234 args) w:=by kernel_rfl
theorem lE (args:Array Value) (w:World):(callFunc 237 args).run prog w=.ok (.enter 237 args) w:=by kernel_rfl
theorem lD (args:Array Value) (w:World):(callFunc 240 args).run prog w=.ok (.enter 240 args) w:=by kernel_rfl
theorem lC (args:Array Value) (w:World):(callFunc 245 args).run prog w=.ok (.enter 245 args) w:=by kernel_rfl
theorem lB (args:Array Value) (w:World):(callFunc 248 args).run prog w=.ok (.enter 248 args) w:=by kernel_rfl
theorem Dq {a:Nat} {p:Int} {r:List Value} (h:Hv w 0 a (.int .i64 p::r) 142):Calls prog 156 #[a] w fun e w'=>e=.returned (.int .i64 p)/\w=w':=by
 have c0:=h.2.2.cell 0 rfl;go_enter func156,ntmps156
 go_wp2
 go_ret;exact⟨rfl,rfl⟩
theorem t6 {a:Nat} {p:Int} {r:List Value} (h:Hv w 0 a (.int .i64 p::r) 253):Calls prog 170 #[a] w fun e w'=>e=.returned (.int .i64 p)/\w=w':=by
 have c0:=h.2.2.cell 0 rfl;go_enter func170,ntmps170
 go_wp2
 go_ret;exact⟨rfl,rfl⟩
theorem t5 {a:Nat} {p:Int} {r:List Value} (h:Hv w 0 a (.int .i64 p::r) 255):Calls prog 179 #[a] w fun e w'=>e=.returned (.int .i64 p)/\w=w':=by
 have c0:=h.2.2.cell 0 rfl;go_enter func179,ntmps179
 go_wp2
 go_ret;exact⟨rfl,rfl⟩
theorem tZ {a:Nat} {p:Int} {r:List Value} (h:Hv w 0 a (.int .i64 p::r) 261):Calls prog 173 #[a] w fun e w'=>e=.returned (.int .i64 p)/\w=w':=by
 have c0:=h.2.2.cell 0 rfl;go_enter func173,ntmps173
 go_wp2
 go_ret;exact⟨rfl,rfl⟩
theorem tY {a:Nat} {p:Int} {r:List Value} (h:Hv w 0 a (.int .i64 p::r) 277):Calls prog 255 #[a] w fun e w'=>e=.returned (.int .i64 p)/\w=w':=by
 have c0:=h.2.2.cell 0 rfl;go_enter func255,ntmps255
 go_wp2
 go_ret;exact⟨rfl,rfl⟩
theorem tW {a:Nat} {p:Int} {r:List Value} (h:Hv w 0 a (.int .i64 p::r) 146):Calls prog 152 #[a] w fun e w'=>e=.returned (.int .i64 p)/\w=w':=by
 have c0:=h.2.2.cell 0 rfl;go_enter func152,ntmps152
 go_wp2
 go_ret;exact⟨rfl,rfl⟩
theorem tV {a:Nat} {p:Int} {r:List Value} (h:Hv w 0 a (.int .i64 p::r) 199):Calls prog 225 #[a] w fun e w'=>e=.returned (.int .i64 p)/\w=w':=by
 have c0:=h.2.2.cell 0 rfl;go_enter func225,ntmps225
 go_wp2
 go_ret;exact⟨rfl,rfl⟩
theorem tU {a:Nat} {p:Int} {r:List Value} (h:Hv w 0 a (.int .i64 p::r) 225):Calls prog 228 #[a] w fun e w'=>e=.returned (.int .i64 p)/\w=w':=by
 have c0:=h.2.2.cell 0 rfl;go_enter func228,ntmps228
 go_wp2
 go_ret;exact⟨rfl,rfl⟩
theorem tS {a:Nat} {p:Int} {r:List Value} (h:Hv w 0 a (.int .i64 p::r) 231):Calls prog 231 #[a] w fun e w'=>e=.returned (.int .i64 p)/\w=w':=by
 have c0:=h.2.2.cell 0 rfl;go_enter func231,ntmps231
 go_wp2
 go_ret;exact⟨rfl,rfl⟩
theorem tR {a:Nat} {p:Int} {r:List Value} (h:Hv w 0 a (.int .i64 p::r) 234):Calls prog 234 #[a] w fun e w'=>e=.returned (.int .i64 p)/\w=w':=by
 have c0:=h.2.2.cell 0 rfl;go_enter func234,ntmps234
 go_wp2
 go_ret;exact⟨rfl,rfl⟩
theorem tQ {a:Nat} {p:Int} {r:List Value} (h:Hv w 0 a (.int .i64 p::r) 241):Calls prog 237 #[a] w fun e w'=>e=.returned (.int .i64 p)/\w=w':=by
 have c0:=h.2.2.cell 0 rfl;go_enter func237,ntmps237
 go_wp2
 go_ret;exact⟨rfl,rfl⟩
theorem tP {a:Nat} {p:Int} {r:List Value} (h:Hv w 0 a (.int .i64 p::r) 243):Calls prog 240 #[a] w fun e w'=>e=.returned (.int .i64 p)/\w=w':=by
 have c0:=h.2.2.cell 0 rfl;go_enter func240,ntmps240
 go_wp2
 go_ret;exact⟨rfl,rfl⟩
theorem tO {a:Nat} {p:Int} {r:List Value} (h:Hv w 0 a (.int .i64 p::r) 229):Calls prog 245 #[a] w fun e w'=>e=.returned (.int .i64 p)/\w=w':=by
 have c0:=h.2.2.cell 0 rfl;go_enter func245,ntmps245
 go_wp2
 go_ret;exact⟨rfl,rfl⟩
theorem tN {a:Nat} {p:Int} {r:List Value} (h:Hv w 0 a (.int .i64 p::r) 236):Calls prog 248 #[a] w fun e w'=>e=.returned (.int .i64 p)/\w=w':=by
 have c0:=h.2.2.cell 0 rfl;go_enter func248,ntmps248
 go_wp2
 go_ret;exact⟨rfl,rfl⟩
theorem tM {a:Nat} {p:Int} {r:List Value} (h:Hv w 0 a (.int .i64 p::r) 221):Calls prog 208 #[a] w fun e w'=>e=.returned (.int .i64 p)/\w=w':=by
 have c0:=h.2.2.cell 0 rfl;go_enter func208,ntmps208
 go_wp2
 go_ret;exact⟨rfl,rfl⟩
theorem tL {a:Nat} {lv u:Value} {s:ByteArray} (h:Hv w 0 a [lv,.int .i64 0,u] 190) (hl:Xo (Hv w 0) lv s):Calls prog 203 #[a] w fun e w'=>e=.returned (.int .i64 0)/\w=w':=by
 have c0:=h.2.2.cell 0 rfl;obtain⟨la,o,rfl,hla⟩:=hl;go_enter func203,ntmps203;go_wp2_with fail
 refine(X6 (pos:=0) ⟨s,o,hla⟩).mono ?_;rintro e w' ⟨rfl,rfl⟩;go_wp2_with fail
 go_ret;exact⟨rfl,rfl⟩
theorem tK {a d l:Nat} {p:Int} {x0 r x4:Value} (h:Hv w 0 a [x0,.slice (some ⟨l,0,none⟩) 1 1,.nilIface,r,x4] 258) (hl:Hv w 0 l [d] 188) (hd:VI (Hv w 0) d p):Calls prog 198 #[a] w fun e w'=>e=.returned (.int .i64 p)/\w=w':=by
 have c1:=h.2.2.cell 1 rfl;have c0:=hl.2.2.cell 0 rfl;go_enter func198,ntmps198;go_wp2_with fail
 refine(X6 hd).mono ?_;rintro e w' ⟨rfl,rfl⟩;go_wp2_with fail
 go_ret;exact⟨rfl,rfl⟩
theorem tJ {a:Nat} {p:Int} {x:Value} (h:Hv w 0 a [x,.int .i64 0,.int .i64 37] 249) (hx:YI (Hv w 0) x p):Calls prog 167 #[a] w fun e w'=>e=.returned (.int .i64 p)/\w=w':=by
 have c0:=h.2.2.cell 0 rfl;obtain⟨ia,rfl,hi⟩:=hx;have hp:=QR ⟨ia,0,none⟩ w;go_enter func167,ntmps167;go_wp2_with fail
 refine(X6 hi).mono ?_;rintro e w' ⟨rfl,rfl⟩;go_wp2_with fail
 go_ret;exact⟨rfl,rfl⟩
theorem tI {a:Nat} {p:Int} {x y:Value} (h:Hv w 0 a [x,.int .i64 0,y] 251) (hx:YI (Hv w 0) x p):Calls prog 164 #[a] w fun e w'=>e=.returned (.int .i64 p)/\w=w':=by
 have c0:=h.2.2.cell 0 rfl;obtain⟨ia,rfl,hi⟩:=hx;have hp:=QR ⟨ia,0,none⟩ w;go_enter func164,ntmps164;go_wp2_with fail
 refine(X6 hi).mono ?_;rintro e w' ⟨rfl,rfl⟩;go_wp2_with fail
 go_ret;exact⟨rfl,rfl⟩
theorem tH {a:Nat} {p:Int} {x:Value} (h:Hv w 0 a [x,.int .i64 0,.nilIface,.int .i64 0] 273) (hx:YI (Hv w 0) x p):Calls prog 252 #[a] w fun e w'=>e=.returned (.int .i64 p)/\w=w':=by
 have c0:=h.2.2.cell 0 rfl;obtain⟨ia,rfl,hi⟩:=hx;have hp:=QR ⟨ia,0,none⟩ w;go_enter func252,ntmps252;go_wp2_with fail
 refine(X6 hi).mono ?_;rintro e w' ⟨rfl,rfl⟩;go_wp2_with fail
 go_ret;exact⟨rfl,rfl⟩
theorem tG {a l:Nat} {p:Int} {x r y z:Value} (h:Hv w 0 a [.slice (some ⟨l,0,none⟩) 1 1,y,z,r] 239) (hl:Hv w 0 l [x] 168) (hx:YI (Hv w 0) x p):Calls prog 176 #[a] w fun e w'=>e=.returned (.int .i64 p)/\w=w':=by
 have c0:=h.2.2.cell 0 rfl;have c1:=hl.2.2.cell 0 rfl;obtain⟨ia,rfl,hi⟩:=hx;have hp:=QR ⟨ia,0,none⟩ w;go_enter func176,ntmps176;go_wp2_with fail
 refine(X6 hi).mono ?_;rintro e w' ⟨rfl,rfl⟩;go_wp2_with fail
 go_ret;exact⟨rfl,rfl⟩
theorem Lg {a c:Nat} {p:Int} (h:Hv w 0 a [.iface 147 (.pointer (some ⟨c,0,none⟩))] 170) (hc:Vb (Hv w 0) c p):Calls prog 182 #[a] w fun e w'=>e=.returned (.int .i64 p)/\w=w':=by
 have c0:=h.2.2.cell 0 rfl;have hp:=zJ ⟨c,0,none⟩ w;go_enter func182,ntmps182;go_wp2_with fail
 refine(Qt hc).mono ?_;rintro e w' ⟨rfl,rfl⟩;go_wp2_with fail
 go_ret;exact⟨rfl,rfl⟩
theorem Mt {a c:Nat} {y:Value} (h:Hv w 0 a [.iface 271 (.pointer (some ⟨c,0,none⟩))] 170) (hc:Hv w 0 c [y,.int .i64 0,.nilIface,.int .i64 0] 273) (hy:YI (Hv w 0) y 0):Calls prog 182 #[a] w fun e w'=>e=.returned (.int .i64 0)/\w=w':=by
 have c0:=h.2.2.cell 0 rfl;have hp:=zE ⟨c,0,none⟩ w;go_enter func182,ntmps182;go_wp2_with fail
 refine(tH hc hy).mono ?_;rintro e w' ⟨rfl,rfl⟩;go_wp2_with fail
 go_ret;exact⟨rfl,rfl⟩
theorem Ms {a c:Nat} {y:Value} (h:Hv w 0 a [.iface 275 (.pointer (some ⟨c,0,none⟩))] 170) (hc:Hv w 0 c [.int .i64 0,.int .i64 36,y] 277):Calls prog 182 #[a] w fun e w'=>e=.returned (.int .i64 0)/\w=w':=by
 have c0:=h.2.2.cell 0 rfl;have hp:=zy ⟨c,0,none⟩ w;go_enter func182,ntmps182;go_wp2_with fail
 refine(tY hc).mono ?_;rintro e w' ⟨rfl,rfl⟩;go_wp2_with fail
 go_ret;exact⟨rfl,rfl⟩
theorem XE.pos {H:Hp} {v:Value} (h:XE H v):Dr H v 0:=by
 obtain⟨a,x,rfl,ha,hx⟩:=h;refine⟨165,a,182,rfl,GR _,wn,fun w hH=>?_⟩;rcases hx with⟨c,y,rfl,hc,hy⟩ |⟨c,y,rfl,hc⟩
 .exact Mt (hH _ _ _ ha) (hH _ _ _ hc) (hy.mono hH)
 .exact Ms (hH _ _ _ ha) (hH _ _ _ hc)
theorem VH.pos {H:Hp} {v:Value} {p:Int} (h:VH H v p):Dr H v p:=by
 obtain⟨a,c,rfl,ha,hc⟩:=h;exact⟨165,a,182,rfl,GR _,wn,fun w hH=>Lg (hH _ _ _ ha) (hc.mono hH)⟩
theorem WL.pos {H:Hp} {v:Value} {n:Vt} (h:WL H v n):Dr H v n.pos:=by
 rcases h with⟨_,a,rfl,ha⟩ |⟨_,⟨a,rfl,ha⟩ |h|⟨a,l,x,r,rfl,ha,hl,hx⟩ |⟨a,x,rfl,ha,hx⟩ |⟨a,x,y,rfl,ha,hx⟩ |⟨a,c,rfl,ha⟩ |⟨a,c,rfl,ha⟩ |⟨a,l,d,r,rfl,ha,hl,hd⟩ |⟨⟨a,rfl,ha⟩,hp⟩ |⟨h,hp⟩⟩
 .exact⟨101,a,156,rfl,GQ _,wv,fun w hH=>Dq (hH _ _ _ ha)⟩
 .exact⟨188,a,201,rfl,QR _,lL,fun w hH=>X6 (ha.mono hH)⟩
 .exact h.pos
 .exact⟨163,a,176,rfl,zI _,lO,fun w hH=>tG (hH _ _ _ ha) (hH _ _ _ hl) (hx.mono hH)⟩
 .exact⟨160,a,167,rfl,zH _,lS,fun w hH=>tJ (hH _ _ _ ha) (hx.mono hH)⟩
 .exact⟨159,a,164,rfl,zG _,lT,fun w hH=>tI (hH _ _ _ ha) (hx.mono hH)⟩
 .exact⟨161,a,170,rfl,zC _,lR,fun w hH=>t6 (hH _ _ _ ha)⟩
 .exact⟨164,a,179,rfl,zB _,lN,fun w hH=>t5 (hH _ _ _ ha)⟩
 .exact⟨184,a,198,rfl,zF _,lM,fun w hH=>tK (hH _ _ _ ha) (hH _ _ _ hl) (hd.mono hH)⟩
 .rw[hp];exact⟨162,a,173,rfl,zz _,lQ,fun w hH=>tZ (hH _ _ _ ha)⟩
 .rw[hp];exact h.pos
theorem X4.pos {H:Hp} {v:Value} {p:Int} (h:X4 H v (some p)):Dr H v p:=by
 rcases h with⟨a,ty,t0,rest,rfl,hm,ha⟩ |⟨hp,a,lv,u,s,rfl,ha,hl⟩ |h|⟨h,hp⟩
 .simp only[Jy,ZO,Prod.mk.injEq,List.not_mem_nil,or_false]at hm;rcases hm with⟨rfl,rfl⟩ |⟨rfl,rfl⟩ |⟨rfl,rfl⟩ |⟨rfl,rfl⟩ |⟨rfl,rfl⟩ |⟨rfl,rfl⟩ |⟨rfl,rfl⟩ |⟨rfl,rfl⟩ |⟨rfl,rfl⟩ |⟨rfl,rfl⟩ |⟨rfl,rfl⟩
  .exact⟨86,a,152,rfl,t7 _,lU,fun w hH=>tW (hH _ _ _ ha)⟩
  .exact⟨197,a,225,rfl,zx _,lI,fun w hH=>tV (hH _ _ _ ha)⟩
  .exact⟨207,a,237,rfl,zr _,lE,fun w hH=>tQ (hH _ _ _ ha)⟩
  .exact⟨209,a,240,rfl,zq _,lD,fun w hH=>tP (hH _ _ _ ha)⟩
  .exact⟨201,a,228,rfl,zw _,lH,fun w hH=>tU (hH _ _ _ ha)⟩
  .exact⟨203,a,231,rfl,zu _,lG,fun w hH=>tS (hH _ _ _ ha)⟩
  .exact⟨205,a,234,rfl,zt _,lF,fun w hH=>tR (hH _ _ _ ha)⟩
  .exact⟨227,a,245,rfl,zp _,lC,fun w hH=>tO (hH _ _ _ ha)⟩
  .exact⟨237,a,248,rfl,zo _,lB,fun w hH=>tN (hH _ _ _ ha)⟩
  .exact⟨194,a,208,rfl,zn _,lJ,fun w hH=>tM (hH _ _ _ ha)⟩
  .exact⟨101,a,156,rfl,GQ _,wv,fun w hH=>Dq (hH _ _ _ ha)⟩
 .rw[hp];exact⟨186,a,203,rfl,zD _,lK,fun w hH=>tL (hH _ _ _ ha) (hl.mono hH)⟩
 .exact h.pos
 .rw[hp];exact h.pos
end
section
variable {w:World} {B b b0:Nat} {A L:List Nat} {S S':BS} {tg:List Tg} {M:Mk}
def YS (p:Int):Int:=if p=2 then -2 else if 10<=p/\(p -10) % 2=0 then(p -10) / 2 else -1
def Wq:Option Int->Int
 |none=> -4
 |some p=>if p=3 then -3 else if 10<=p/\(p -10) % 2=1 then(p -10) / 2 else -1
theorem Ja (p:Int) (h0:0<=p) (h1:p<=10000000):Calls prog 70 #[.int .i64 p] w fun e w'=>e=.returned (.int .i64 (YS p))/\w=w':=by
 by_cases h2:p=2
 .subst h2;go_enter func70,ntmps70
  go_wp2
  go_ret;exact⟨rfl,rfl⟩
 .have e2:(p==2)=false:=by simpa using h2
  by_cases h3:10<=p
  .by_cases h4:(p -10) % 2=0
   .have e4:((p -10) % 2==0)=true:=by simpa using h4
    have hr:YS p=(p -10) / 2:=by unfold YS;rw[if_neg h2,if_pos ⟨h3,h4⟩]
    have Hr:=Z5 hr;clear hr h4 h2;have h5:0<=p -10:=by omega
    go_enter func70,ntmps70;go_wp2_with fail
    go_ret;exact⟨by rw[Hr.out];rfl,rfl⟩
   .have e4:((p -10) % 2==0)=false:=by simpa using h4
    have hr:YS p= -1:=by unfold YS;rw[if_neg h2,if_neg (by omega)]
    have Hr:=Z5 hr;clear hr h4 h2;have h5:0<=p -10:=by omega
    go_enter func70,ntmps70;go_wp2_with fail
    go_ret;exact⟨by rw[Hr.out];rfl,rfl⟩
  .have hr:YS p= -1:=by unfold YS;rw[if_neg h2,if_neg (by omega)]
   have Hr:=Z5 hr;clear hr h2;have h5:p < 10:=by omega
   go_enter func70,ntmps70;go_wp2_with fail
   go_ret;exact⟨by rw[Hr.out];rfl,rfl⟩
theorem I9:Calls prog 68 #[.nilIface] w fun e w'=>e=.returned (.int .i64 (-4))/\w=w':=by
 go_enter func68,ntmps68
 go_wp2
 go_ret;exact⟨rfl,rfl⟩
theorem Le {v:Value} {p:Int} (h:Dr (Hv w 0) v p) (h0:0<=p) (h1:p<=10000000):Calls prog 68 #[v] w fun e w'=>e=.returned (.int .i64 (Wq (some p)))/\w=w':=by
 obtain⟨ty,q,N,rfl,hm,hcf,hc⟩:=h;have hp:=hm w;have Z6v:=hcf #[q] w;have Mr:=Z5 (hc w (fun _ _ _ h=>h));clear hm hc hcf;by_cases h2:p=3
 .subst h2;go_enter func68,ntmps68;go_wp2_with fail
  refine Mr.out.mono ?_;rintro e w' ⟨rfl,rfl⟩;go_wp2_with fail
  go_ret;exact⟨rfl,rfl⟩
 .have e2:(p==3)=false:=by simpa using h2
  by_cases h3:10<=p
  .by_cases h4:(p -10) % 2=1
   .have e4:((p -10) % 2==1)=true:=by simpa using h4
    have hr:Wq (some p)=(p -10) / 2:=by unfold Wq;simp only[if_neg h2,if_pos (And.intro h3 h4)]
    have Hr:=Z5 hr;clear hr h4 h2;have h5:0<=p -10:=by omega
    go_enter func68,ntmps68;go_wp2_with fail
    refine Mr.out.mono ?_;rintro e w' ⟨rfl,rfl⟩;go_wp2_with fail
    go_ret;exact⟨by rw[Hr.out];rfl,rfl⟩
   .have e4:((p -10) % 2==1)=false:=by simpa using h4
    have hr:Wq (some p)= -1:=by unfold Wq;simp only[if_neg h2];rw[if_neg (by omega)]
    have Hr:=Z5 hr;clear hr h4 h2;have h5:0<=p -10:=by omega
    go_enter func68,ntmps68;go_wp2_with fail
    refine Mr.out.mono ?_;rintro e w' ⟨rfl,rfl⟩;go_wp2_with fail
    go_ret;exact⟨by rw[Hr.out];rfl,rfl⟩
  .have hr:Wq (some p)= -1:=by unfold Wq;simp only[if_neg h2];rw[if_neg (by omega)]
   have Hr:=Z5 hr;clear hr h2;have h5:p < 10:=by omega
   go_enter func68,ntmps68;go_wp2_with fail
   refine Mr.out.mono ?_;rintro e w' ⟨rfl,rfl⟩;go_wp2_with fail
   go_ret;exact⟨by rw[Hr.out];rfl,rfl⟩
end
section
attribute [local go_sem] RD UD
variable {w:World} {B b b0:Nat} {A L:List Nat} {S S':BS} {tg:List Tg} {M:Mk}
theorem BX.nodes (h:BX w B b b0 A L S tg M) {i a:Nat} {k:Bk} (hk:S.Z6[i]? =some k) (ha:A[i]? =some a):
  ∃ nv ns sv p0 p1,ZD w a [nv,.slice (some ⟨a,7,none⟩) k.succs.length 2,.int .i32 i,k.live,k.Yz,.int .u8 k.kind,sv,p0,p1] 99/\w.ownsRow B 104 1 nv ns.length ns/\ns.length=k.nodes.length/\
   (∀ (j:Nat) v n,ns[j]? =some v->k.nodes[j]? =some n->WL (Hv w 0) v n)/\X4 (Hv w 0) sv k.of:=by
 obtain⟨NV,h⟩:=h;have hlt:=(Z1.1 hk).1;have hln:i < NV.length:=by have:=h.VU;omega
 obtain⟨a',sv,p0,p1,ns,g1,g2,g3,g4,g5,g6,_⟩:=h.Z6 i _ _ hk (Z9 hln);rw[ha]at g1;cases g1;exact⟨_,ns,sv,p0,p1,g2,g3,g4,g5,g6⟩
def Bk.ends (k:Bk):Bool:=(k.nodes.getLast?.map Vt.ret).getD false
theorem WL.assert {H:Hp} {v:Value} {n:Vt} (h:WL H v n): ∃ t q,v=.iface t (.pointer (some q))/\(n.ret=true↔t=101):=by
 rcases h with⟨h1,a,rfl,_⟩ |⟨h1,⟨a,rfl,_⟩ |⟨a,c,rfl,_⟩ |⟨a,l,x,r,rfl,_⟩ |⟨a,x,rfl,_⟩ |⟨a,x,y,rfl,_⟩ |⟨a,c,rfl,_⟩ |⟨a,c,rfl,_⟩ |⟨a,l,d,r,rfl,_⟩ |⟨⟨a,rfl,_⟩,_⟩ |⟨⟨a,x,rfl,_⟩,_⟩⟩<;>exact⟨_,_,rfl,by simp[h1]⟩
theorem NA (h:BX w B b b0 A L S tg M) {i a:Nat} {k:Bk} (hk:S.Z6[i]? =some k) (ha:A[i]? =some a) (hn:k.nodes.length<=200000):
  Calls prog 69 #[.pointer (some ⟨a,0,none⟩)] w fun e w'=>(∃ r,e=.returned (.pointer r)/\(r.isSome=k.ends))/\ ∃ n,w'=w.drewN n:=by
 obtain⟨nv,ns,sv,p0,p1,hb,hown,hl,hnd,_⟩:=h.nodes hk ha;have c0:=hb.cell 0 rfl;rcases List.eq_nil_or_concat ns with rfl|⟨ns',v,rfl⟩
 .obtain⟨aa,nn,cc,rfl,rfl⟩: ∃ a n c,nv=.slice a n c/\n=0:=by
   rcases hown.2 with⟨rfl,_⟩ |⟨g,cap,cur,rfl,_⟩
   .exact⟨_,_,_,rfl,rfl⟩
   .exact⟨_,_,_,rfl,rfl⟩
  have he:k.ends=false:=by
   have:k.nodes= []:=List.length_eq_zero_iff.1 (by simpa using hl.symm);simp[Bk.ends,this]
  have He:=Z5 he;clear he hk ha hl hnd;go_enter func69,ntmps69;go_wp2_with fail
  go_ret;exact⟨⟨_,rfl,by rw[He.out];rfl⟩,0,rfl⟩
 .simp only[List.concat_eq_append]at hown hl hnd;obtain⟨g,cap,rfl⟩: ∃ g cap,nv=.slice (some ⟨g,0,none⟩) (ns'.length+1) cap:=by
   rcases hown.2 with⟨_,h0⟩ |⟨g,cap,cur,hv,_⟩
   .simp at h0
   .exact⟨g,cap,by simpa using hv⟩
  have hlen:k.nodes.length=ns'.length+1:=by simpa using hl.symm
  have hlt:ns'.length < k.nodes.length:=by omega
  have hcv:w.cell? ⟨g,ns'.length,none⟩=some v:=by
   have hown2:w.ownsRow B 104 1 (.slice (some ⟨g,0,none⟩) (ns'.length+1) cap) (ns'.length+1) (ns'++ [v]):=by simpa using hown
   rw[ZF hown2 ns'.length (by omega)];simp
  obtain⟨t,q,rfl,hr⟩:=(hnd ns'.length v k.nodes[ns'.length] (by simp) (Z9 hlt)).assert;have he:k.ends=k.nodes[ns'.length].ret:=by
   have:k.nodes.getLast? =some k.nodes[ns'.length]:=by
    rw[List.getLast?_eq_getElem?,show k.nodes.length -1=ns'.length by omega,Z9 hlt]
   simp[Bk.ends,this]
  have hn1:ns'.length<=200000:=by omega
  generalize k.nodes[ns'.length].ret=rt at he hr;have He:=Zl he hr;clear he hr hk ha hl hnd hown hlen hlt;by_cases ht:t=101
  .subst ht;have hta: ∀ w,(Instr.typeAssert (.iface 101 (.pointer (some q))) 104 101 true).run prog w=.ok (.tuple #[.pointer (some q),true]) w:=fun w=>UD 104 _ w;go_enter func69,ntmps69;go_wp2_with fail
   go_quiet (fail)
   go_wp2_with fail
   go_ret;have hrt:rt=true:=by
    have:=He.out.2;simpa using this
   exact⟨⟨_,rfl,by rw[He.out.1,hrt];rfl⟩,_,rfl⟩
  .have hta: ∀ w,(Instr.typeAssert (.iface t (.pointer (some q))) 104 101 true).run prog w=.ok (.tuple #[.pointer none,false]) w:=fun w=>RD 104 t _ w ht;have Ht:=Z5 ht;clear ht;go_enter func69,ntmps69;go_wp2_with fail
   go_quiet (fail)
   go_wp2_with fail
   go_ret;have hf:k.ends=false:=by
    rw[He.out.1];cases hc:rt with
    |false=>rfl
    |true=>exact absurd (He.out.2.1 hc) Ht.out
   exact⟨⟨_,rfl,by rw[hf];rfl⟩,_,rfl⟩
end
section
variable {w:World} {B b b0:Nat} {A L:List Nat} {S S':BS} {tg:List Tg} {M:Mk}
theorem BX.cells (h:BX w B b b0 A L S tg M) {i a:Nat} (hi:A[i]? =some a): ∃ cs,ZD w a cs 99:=by
 have hl:=h.len;have h1:i < S.Z6.length:=by have:=(Z1.1 hi).1;omega
 obtain⟨nv,sv,p0,p1,hb,_⟩:=h.at (Z9 h1) hi;exact⟨_,hb⟩
theorem BX.eql (h:BX w B b b0 A L S tg M) {i j a c:Nat} (hi:A[i]? =some a) (hj:A[j]? =some c) (hne:i≠j):(binOp .eql 92 (.pointer (some ⟨a,0,none⟩)) (.pointer (some ⟨c,0,none⟩))).run prog w=.ok (.bool false) w:=by
 obtain⟨k,hk,hs⟩:=ZX.1 Mw;obtain⟨c1,h1⟩:=h.cells hi;obtain⟨c2,h2⟩:=h.cells hj;have hn:=h.ne hi hj hne;exact run_eql_ptr_other w underlying92 hk (by omega) (fun e=>hn (by cases e;rfl)) h1 h2
theorem Dp (a:Nat) (w:World):(binOp .eql 92 (.pointer (some ⟨a,0,none⟩)) (.pointer (some ⟨a,0,none⟩))).run prog w=.ok (.bool true) w:=by
 obtain⟨k,hk,hs⟩:=ZX.1 Mw;exact run_eql_ptr_same w _ underlying92 hk
theorem Ld (h:BX w B b b0 A L S tg M) (hA:A.length<=200000) {bv:Value} (hown:w.ownsRow B 92 1 bv A.length (A.map fun a=>.pointer (some ⟨a,0,none⟩))) {i a:Nat} (hi:A[i]? =some a):
  Calls prog 71 #[bv,a] w fun e w'=>e=.returned (.int .i64 i)/\w=w':=by
 have hil:=(Z1.1 hi).1;obtain⟨g,cap,rfl⟩: ∃ g cap,bv=.slice (some ⟨g,0,none⟩) A.length cap:=by
  rcases hown.2 with⟨_,h0⟩ |⟨g,cap,cur,hv,_⟩
  .omega
  .exact⟨g,cap,hv⟩
 have Hi:=Z5 hi;clear hi;go_enter func71,ntmps71;go_wp2_with fail
 go_loopw [9] (fun ix wr=>wr=w/\ ∃ k:Nat,ix=.int .i64 k/\k<=i) (fun ix _=>A.length -(intOf ix).toNat)
 case atStart=>exact⟨rfl,0,rfl,Nat.zero_le _⟩
 case round=>
  obtain⟨rfl,k,rfl,hk⟩:=hrel;have hkl:k < A.length:=by omega
  have hck:wr.cell? ⟨g,k,none⟩=some (.pointer (some ⟨A[k],0,none⟩)):=by
   rw[ZF hown k (by omega)];simp[hkl]
  have hak:=Z9 hkl;generalize A[k]=ak at hck hak;by_cases hki:k=i
  .subst hki;obtain rfl:ak=a:=by rw[Hi.out]at hak;exact(Y0 hak).symm
   have he:=Dp ak wr;clear hak;go_wp2_with fail
   go_ret;exact⟨rfl,rfl⟩
  .have he:=h.eql hak Hi.out hki;have hk1:k+1<=i:=by omega
   clear hak hki;go_wp2_with fail
   first|exact⟨⟨rfl,k+1,by simp,hk1⟩,by simp[intOf];omega⟩ |exact⟨⟨trivial,k+1,by simp,hk1⟩,by simp[intOf];omega⟩
end
end Go.Proofs.YteedbaejpdjilaaGreat
