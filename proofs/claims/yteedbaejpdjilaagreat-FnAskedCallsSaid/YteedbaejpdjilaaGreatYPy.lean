/- Part of the proof: NodA ReaL NodD. -/
import Derived.Test.YteedbaejpdjilaaGreatYPx
import Derived.Test.YteedbaejpdjilaaGreatYPt
set_option linter.all false
set_option maxRecDepth 100000
set_option maxHeartbeats 40000000
namespace Go.Proofs.YteedbaejpdjilaaGreat
open Go.RowKit Tryz
section
theorem Ut (args:Array Value) (w:World):(callFunc 115 args).run prog w=.ok (.enter 115 args) w:=by kernel_rfl
def Tf:List Value:= [.int .i64 0,.string ⟨#[]⟩,.string ⟨#[]⟩,.bool false,.bool false,.bool false,.bool false,.bool false,.slice none 0 0,.slice none 0 0,.slice none 0 0,.int .i64 0,.int .i64 0,.int .i64 0,.int .i64 0,.int .i64 0,.int .i64 0,.int .i64 0,.int .i64 0,.int .i64 0,.slice none 0 0,.slice none 0 0,.slice none 0 0,.int .i64 0]
theorem XV {P:Program} {ops:Array Oper} {o:Oper} {a:Act} {w:World} {K:Act->World->Prop} {Q:Exit->Act->World->Prop} {E:Prop} (hgd:o.guard=none) (ty:TypeId) (ho:o.op=.alloc ty) (zs:List Value)
  (hr:(Instr.alloc ty true (.tuple #[])).run P w=.ok (.pointer (some ⟨w.heap.size,0,none⟩)) (w.alloc (.cells zs.toArray ty)))
  (h: ∀ w',ZD w' w.heap.size zs ty->Fr [] w.heap.size w w'->Only [] w w'->K (a.put o.dst (.pointer (some ⟨w.heap.size,0,none⟩))) w'):if Region.wanted o (yielded ops a.tmps)=true then Oper.wp P o a w K Q else E:=by
 have hw:Region.wanted o (yielded ops a.tmps)=true:=by simp[Region.wanted,hgd]
 rw[if_pos hw];unfold Oper.wp execOp;simp only[ho];have h2:=h _ (ZD.new w zs ty) ((Fr.refl _ _ _).alloc (Z7 _) _) ((Only.refl _ _).alloc _);simp[hr,Oper.upon,Sem.run_bind,Sem.run_pure,Result.andThen_ok];exact h2
theorem XR (w:World):(Instr.alloc 79 true (.tuple #[])).run prog w=.ok (.pointer (some ⟨w.heap.size,0,none⟩)) (w.alloc (.cells Tf.toArray 79)):=by
 kernel_rfl
theorem CS {w w':World} {X:List Nat} {base e size n:Nat} {v:Value} {xs:List Value} (h:w.ownsRow base e size v n xs) (ho:Only X w w') (hX: ∀ g,v.ownBlock=some g->g∉X):w'.ownsRow base e size v n xs:=by
 have hlt:=h.lt;obtain⟨h1,h2⟩:=h;refine⟨h1,?_⟩;rcases h2 with h2|⟨g,cap,cur,hv,hg,hh,r⟩
 .exact Or.inl h2
 .have hgo:v.ownBlock=some g:=by rw[hv];rfl
  exact Or.inr ⟨g,cap,cur,hv,hg,by rw[ho.block g (hlt g hgo).2 (hX g hgo)];exact hh,r⟩
structure R3 (w:World) (B p:Nat) (lv nv rv:Value) (sc:List Value) (ls:List Lf) (NR RR:List (List Value)) (num:Int) (rt:Bool) (Yu:Value) (W:World):Prop where
 t:TM W B p ls NR RR num rt lv Yu rv
 s:ZD W w.heap.size sc 76
 f:Fr tT B w W
 o:Only (tX p lv nv rv) w W
 n:Nw w nv Yu
 hB:B<=w.heap.size
section
variable {w W W':World} {B p:Nat} {lv nv rv Yu:Value} {sc zs ys:List Value} {ls:List Lf} {NR RR:List (List Value)} {num IZ:Int} {rt:Bool} {z:Nat}
theorem R3.drew (h:R3 w B p lv nv rv sc ls NR RR num rt Yu W):R3 w B p lv nv rv sc ls NR RR num rt Yu W.drew:=
 ⟨h.t.fr ((Fr.refl [] B W).drew) (by decide),h.s.drew,h.f.drew,h.o.drew,h.n,h.hB⟩
theorem R3.call (h:R3 w B p lv nv rv sc ls NR RR num rt Yu W) (hT:TM W' B p ls NR RR IZ rt lv Yu rv) (hF:Fr [71] B W W') (hO:Only (tX p lv Yu rv) W W'):R3 w B p lv nv rv sc ls NR RR IZ rt Yu W':=
 ⟨hT,h.s.fr hF (by decide),h.f.trans (hF.mono (by decide) (Z7 _)),h.o.tX hO (Nw.refl _ _) h.n (Nw.refl _ _),h.n,h.hB⟩
structure Zb (w:World) (Yu:Value) (zs:List Value) (z:Nat) (W:World):Prop where
 b:ZD W z zs 79
 lt:w.heap.size < z
 ne:Yu.ownBlock≠some z
theorem R3.alloc (h:R3 w B p lv nv rv sc ls NR RR num rt Yu W) (hF:Fr [] W.heap.size W W') (hO:Only [] W W') (hz:ZD W' W.heap.size zs 79):R3 w B p lv nv rv sc ls NR RR num rt Yu W'/\Zb w Yu zs W.heap.size W':=by
 have hB:B<=W.heap.size:=ZC h.hB h.f.size;have hF':Fr [] B W W':=hF.mono (by simp) hB;refine⟨⟨h.t.fr hF' (by decide),h.s.fr hF' (by decide),h.f.trans (hF'.mono (by simp) (Z7 _)),h.o.trans (hO.mono (by simp)),h.n,h.hB⟩,hz,h.s.lt,fun e=>?_⟩;have:=(h.t.n.lt _ e).2;omega
theorem Zb.call (h:Zb w Yu zs z W) (hT:TM W B p ls NR RR num rt lv Yu rv) (hF:Fr [71] B W W') (hO:Only (tX p lv Yu rv) W W'):Zb w Yu zs z W':=by
 refine⟨?_,h.lt,h.ne⟩;have hk:=hO.block z h.b.lt (fun hc=>?_)
 .have:=h.b;unfold ZD at this ⊢;rw[hk];exact this
 .rcases VS.1 hc with e|e|e|e
  .subst e;exact Zq.ne h.b.ty hT.blk.ty (by decide) rfl
  .exact Zq.ne h.b.ty (Zg hT.l e) (by decide) rfl
  .exact h.ne e
  .exact Zq.ne h.b.ty (Zg hT.r e) (by decide) rfl
theorem R3.store (h:R3 w B p lv nv rv sc ls NR RR num rt Yu W) (hz:Zb w Yu zs z W) (hb:ZD W' z ys 79) (hO:Only [z] W W') (hF: ∀ B,B<=z->Fr [79] B W W'):NX w B p lv nv rv sc z ys ls NR RR num rt lv Yu rv W':=by
 have hlt:=hz.lt;have hB:=h.hB;have hF':=hF B (by omega);refine⟨⟨h.t.hB,h.t.blk.fr hF' (by decide),ZE hF' h.t.l (by decide),CS h.t.n hO (fun g hg hc=>?_),ZE hF' h.t.r (by decide),h.t.nl,h.t.rl⟩,h.s.fr hF' (by decide),hb,hlt,hB,hz.ne,h.f.trans (hF'.mono (by decide) (Z7 _)),?_,Nw.refl _ _,h.n,Nw.refl _ _⟩
 .simp at hc;exact hz.ne (by rw[hg,hc])
 .refine⟨ZC h.o.size hO.size,fun i hi hx=>?_⟩;rw[hO.block i (Nat.lt_of_lt_of_le hi h.o.size) (by simp;omega)];exact h.o.block i hi hx
theorem sC (h:Below W.heap.size W W') (hB:B<=W.heap.size):Fr [] B W W':=
 ⟨h.mono hB,fun k c e f hk _=>by rw[h.block k (Zq.lt ⟨_,_,hk⟩)];exact hk⟩
theorem CR (h:Below W.heap.size W W'):Only [] W W':=⟨h.size,fun k hk _=>h.block k hk⟩
theorem NX.low {wx w':World} {x:Nat} {xc:List Value} {Tx UR rv':Value} (h:NX w B p lv nv rv sc x xc ls NR RR num rt Tx UR rv' wx) (hl:Below wx.heap.size wx w'):NX w B p lv nv rv sc x xc ls NR RR num rt Tx UR rv' w':=by
 have hB:B<=wx.heap.size:=ZC h.hB h.f.size;have hF:=sC hl hB;exact h.call (h.t.fr hF (by decide)) (hF.mono (by simp) (Z7 _)) ((CR hl).mono (by simp)) (Nw.refl _ _) (Nw.refl _ _) (Nw.refl _ _)
theorem NX.mark {wx:World} {x:Nat} {xc:List Value} {Tx UR rv':Value} (h:NX w B p lv nv rv sc x xc ls NR RR num rt Tx UR rv' wx) (r:Bool):NX w B p lv nv rv sc x xc ls NR RR num r Tx UR rv' (wx.setCell ⟨p,4,none⟩ (.bool r)):=by
 have hF:Fr [71] B wx (wx.setCell ⟨p,4,none⟩ (.bool r)):=(Fr.refl _ _ _).X9 _ _ h.t.blk.ty (by decide) h.t.hB;exact h.call ⟨h.t.hB,h.t.blk.set 4 (.bool r),ZE hF h.t.l (by decide),ZE hF h.t.n (by decide),ZE hF h.t.r (by decide),h.t.nl,h.t.rl⟩ (hF.mono (by decide) (Z7 _)) ((Only.refl _ _).set _ _ (.inl (by simp[tX]))) (Nw.refl _ _) (Nw.refl _ _) (Nw.refl _ _)
theorem NX.CQ {wx:World} {x:Nat} {xc:List Value} {Tx UR rv':Value} (h:NX w B p lv nv rv sc x xc ls NR RR num rt Tx UR rv' wx) (i:Nat) (u:Value):Fr [79] B wx (wx.setCell ⟨x,i,none⟩ u):=
 (Fr.refl _ _ _).X9 _ _ h.xb.ty (by decide) (by have:=h.hB;have:=h.hx;simp;omega)
theorem NX.row {wx w':World} {x nm it:Nat} {xc:List Value} {XO Yu XY:Value} {ol:List Lf} {on:List Nd} {or:List Rw} {F:Prop} (h:NX w B p lv nv rv sc x xc ls NR RR (nm:Int) rt XO Yu XY wx) (hP:Oh wx B p ls NR RR nm rt XO Yu XY ol on or it F w'):
  ∃ XH VO VM WF WU VD,NX w B p lv nv rv sc x xc (ls++ol) (NR++WF) (RR++WU) ((nm+it:Nat):Int) VD XH VO VM w'/\YZ (Xt w' wx.heap.size none) on WF/\YZ (W7 w' wx.heap.size none) or WU/\Fr tT B wx w'/\(VD=true->rt=true/\F):=by
 obtain⟨XH,VO,VM,WF,WU,VD,hT,hn,hr,hF,hO,g1,g2,g3,hrt⟩:=hP;exact⟨XH,VO,VM,WF,WU,VD,h.call hT hF hO g1 g2 g3,hn,hr,hF,hrt⟩
theorem YZ.nd {T:List Nat} {B:Nat} {w w':World} {lo lo':Nat} {ex:Option Nat} {ns:List Nd} {R:List (List Value)} (h:YZ (Xt w lo ex) ns R) (hf:Fr T B w w') (hT:3∉T) (hT2:110∉T) (hl:lo'<=lo):YZ (Xt w' lo' ex) ns R:=h.mono fun _ _ k=>k.fr hf hT hT2 hl
theorem YZ.rw {T:List Nat} {B:Nat} {w w':World} {lo lo':Nat} {ex:Option Nat} {rs:List Rw} {R:List (List Value)} (h:YZ (W7 w lo ex) rs R) (hf:Fr T B w w') (hT:3∉T) (hl:lo'<=lo):YZ (W7 w' lo' ex) rs R:=h.mono fun _ _ k=>k.fr hf hT hl
end
def Code.rest:Nat->Code->Code
 |0,c=>c
 |k+1,.seq _ b=>Code.rest k b
 |_,c=>c
noncomputable def W9 (k:Nat):Code:=Code.rest k (Tryz.f93.body.getD .skip)
structure Og (p a pl s N0 x:Nat) (A:Act):Prop where
 aT: ∃ l:List Value,A=⟨l.toArray,[]⟩/\l.length=177/\l[0]? =some (.pointer (some ⟨p,0,none⟩))/\l[2]? =some (.int .i64 a)/\l[3]? =some (.int .i64 pl)/\l[5]? =some (.pointer (some ⟨s,0,none⟩))/\l[9]? =some (.int .i64 N0)/\l[10]? =some (.pointer (some ⟨x,0,none⟩))
theorem Md {p a pl s N0 x:Nat} {l:List Value} (h:l.length=177:=by rfl) (h0:l[0]? =some (.pointer (some ⟨p,0,none⟩)):=by rfl) (h2:l[2]? =some (.int .i64 a):=by rfl) (h3:l[3]? =some (.int .i64 pl):=by rfl) (h5:l[5]? =some (.pointer (some ⟨s,0,none⟩)):=by rfl) (h9:l[9]? =some (.int .i64 N0):=by rfl) (h10:l[10]? =some (.pointer (some ⟨x,0,none⟩)):=by rfl):Og p a pl s N0 x ⟨l.toArray,[]⟩:=⟨l,rfl,h,h0,h2,h3,h5,h9,h10⟩
theorem Og.out {p a pl s N0 x:Nat} {A:Act} (h:Og p a pl s N0 x A): ∃ u:Nat->Value,A=⟨#[.pointer (some ⟨p,0,none⟩),u 1,.int .i64 a,.int .i64 pl,u 4,.pointer (some ⟨s,0,none⟩),u 6,u 7,u 8,.int .i64 N0,.pointer (some ⟨x,0,none⟩),u 11,u 12,u 13,u 14,u 15,u 16,u 17,u 18,u 19,u 20,u 21,u 22,u 23,u 24,u 25,u 26,u 27,u 28,u 29,u 30,u 31,u 32,u 33,u 34,u 35,u 36,u 37,u 38,u 39,u 40,u 41,u 42,u 43,u 44,u 45,u 46,u 47,u 48,u 49,u 50,u 51,u 52,u 53,u 54,u 55,u 56,u 57,u 58,u 59,u 60,u 61,u 62,u 63,u 64,u 65,u 66,u 67,u 68,u 69,u 70,u 71,u 72,u 73,u 74,u 75,u 76,u 77,u 78,u 79,u 80,u 81,u 82,u 83,u 84,u 85,u 86,u 87,u 88,u 89,u 90,u 91,u 92,u 93,u 94,u 95,u 96,u 97,u 98,u 99,u 100,u 101,u 102,u 103,u 104,u 105,u 106,u 107,u 108,u 109,u 110,u 111,u 112,u 113,u 114,u 115,u 116,u 117,u 118,u 119,u 120,u 121,u 122,u 123,u 124,u 125,u 126,u 127,u 128,u 129,u 130,u 131,u 132,u 133,u 134,u 135,u 136,u 137,u 138,u 139,u 140,u 141,u 142,u 143,u 144,u 145,u 146,u 147,u 148,u 149,u 150,u 151,u 152,u 153,u 154,u 155,u 156,u 157,u 158,u 159,u 160,u 161,u 162,u 163,u 164,u 165,u 166,u 167,u 168,u 169,u 170,u 171,u 172,u 173,u 174,u 175,u 176],[]⟩:=by
 obtain⟨l,rfl,h,h0,h2,h3,h5,h9,h10⟩:=h.aT;have key:l=(List.range 177).map (fun i=>l[i]!):=by
  refine List.ext_getElem (by simp[h]) fun i h1 h2=>?_;simp[h1]
 have e: ∀ {i:Nat} {v:Value},l[i]? =some v->(fun i:Nat=>l[i]!) i=v:=fun h=>by simp[List.getElem!_eq_getElem?_getD,h]
 have k:=And.intro (e h0) (And.intro (e h2) (And.intro (e h3) (And.intro (e h5) (And.intro (e h9) (e h10)))));revert key k;generalize(fun i:Nat=>l[i]!)=u;rintro rfl ⟨k2,k3,k4,k5,k6,k7⟩;refine⟨u,?_⟩;rw[<-k2,<-k3,<-k4,<-k5,<-k6,<-k7];rfl
variable {w:World} {B p m:Nat} {LS:List Lf} {VL Xh:List (List Value)} {num:Int} {rt:Bool} {lv nv rv XO Yu XY:Value} {a pl x N0:Nat} {b e c:T} {ba ea ca:Option Addr} {bc ec cc:Nat} {hk0:Int} {hk1 hk2:ByteArray} {hk3 hk4 hk5 hk6 YJ:Bool} {Q:Exit->Act->World->Prop} {nd:Nd} {cv tv ov:Value} {wx:World}
theorem sB (hX:NX w B p lv nv rv [.int .i64 hk0,hk1,hk2,hk3,hk4,hk5,hk6,YJ,.slice ba b.len bc,.slice ea e.len ec,.slice ca c.len cc] x (ZQ nd (.slice ba b.len bc) (.slice ea e.len ec) (.slice ca c.len cc) cv tv ov) LS VL Xh num rt XO Yu XY wx) (hl:LS.length<=90000)
  (hK: ∀ wy XH (A:Act),Og p a pl w.heap.size N0 x A->NX w B p lv nv rv [.int .i64 hk0,hk1,hk2,hk3,hk4,hk5,hk6,YJ,.slice ba b.len bc,.slice ea e.len ec,.slice ca c.len cc] x (ZQ { nd with ini:=YL (hk3) LS.length } (.slice ba b.len bc) (.slice ea e.len ec) (.slice ca c.len cc) cv tv ov) (LS++if(hk3)then [⟨N0,2,0⟩]else []) VL Xh num rt XH Yu XY wy->Code.wp prog (W9 6) Q A wy) {A:Act} (hA:Og p a pl w.heap.size N0 x A:=by assumption):Code.wp prog (W9 5) Q A wx:=by
 obtain⟨u,rfl⟩:=hA.out;have d3:=hX.s.cell 3 rfl;have HX:=Z5 hX;clear hX;have HK:=Z5 hK;clear hK;conv=>arg 2;whnf
 refine wp_seq_k (fun K Rl=>?_);have HKK:=Z5 Rl;clear Rl;go_wp2_with fail
 refine(Xa HX.out.t (ZC hl (by decide)) ⟨N0,2,0⟩ hk3).mono ?_;rintro e' w5 ⟨XH,rfl,hT,hF,hO,hn⟩;have h5:=HX.out.call hT (hF.mono (by decide) (Z7 _)) hO hn (Nw.refl _ _) (Nw.refl _ _);have e5:=h5.xb.cell 15 rfl;have f5:=h5.xb.free 15;have H5:=Z5 h5;clear hT hF hO hn h5;go_wp2_with fail
 refine HKK.out _ _ ?_;refine HK.out _ XH _ Md ?_;exact H5.out.store 15 _
theorem sy (hX:NX w B p lv nv rv [.int .i64 hk0,hk1,hk2,hk3,hk4,hk5,hk6,YJ,.slice ba b.len bc,.slice ea e.len ec,.slice ca c.len cc] x (ZQ nd (.slice ba b.len bc) (.slice ea e.len ec) (.slice ca c.len cc) cv tv ov) LS VL Xh num rt XO Yu XY wx) (hl:LS.length<=90000)
  (hK: ∀ wy XH (A:Act),Og p a pl w.heap.size N0 x A->NX w B p lv nv rv [.int .i64 hk0,hk1,hk2,hk3,hk4,hk5,hk6,YJ,.slice ba b.len bc,.slice ea e.len ec,.slice ca c.len cc] x (ZQ { nd with Ym:=YL (hk5) LS.length } (.slice ba b.len bc) (.slice ea e.len ec) (.slice ca c.len cc) cv tv ov) (LS++if(hk5)then [⟨N0,4,0⟩]else []) VL Xh num rt XH Yu XY wy->Code.wp prog (W9 8) Q A wy) {A:Act} (hA:Og p a pl w.heap.size N0 x A:=by assumption):Code.wp prog (W9 7) Q A wx:=by
 obtain⟨u,rfl⟩:=hA.out;have d5:=hX.s.cell 5 rfl;have HX:=Z5 hX;clear hX;have HK:=Z5 hK;clear hK;conv=>arg 2;whnf
 refine wp_seq_k (fun K Rl=>?_);have HKK:=Z5 Rl;clear Rl;go_wp2_with fail
 refine(Xa HX.out.t (ZC hl (by decide)) ⟨N0,4,0⟩ hk5).mono ?_;rintro e' w5 ⟨XH,rfl,hT,hF,hO,hn⟩;have h5:=HX.out.call hT (hF.mono (by decide) (Z7 _)) hO hn (Nw.refl _ _) (Nw.refl _ _);have e5:=h5.xb.cell 17 rfl;have f5:=h5.xb.free 17;have H5:=Z5 h5;clear hT hF hO hn h5;go_wp2_with fail
 refine HKK.out _ _ ?_;refine HK.out _ XH _ Md ?_;exact H5.out.store 17 _
theorem su {il:Bool} (hil:decide (1<=hk0/\hk0<=9)=il) (hX:NX w B p lv nv rv [.int .i64 hk0,hk1,hk2,hk3,hk4,hk5,hk6,YJ,.slice ba b.len bc,.slice ea e.len ec,.slice ca c.len cc] x (ZQ nd (.slice ba b.len bc) (.slice ea e.len ec) (.slice ca c.len cc) cv tv ov) LS VL Xh num rt XO Yu XY wx) (hl:LS.length<=90000)
  (hK: ∀ wy XH (A:Act),Og p a pl w.heap.size N0 x A->NX w B p lv nv rv [.int .i64 hk0,hk1,hk2,hk3,hk4,hk5,hk6,YJ,.slice ba b.len bc,.slice ea e.len ec,.slice ca c.len cc] x (ZQ { nd with self:=YL (il) LS.length } (.slice ba b.len bc) (.slice ea e.len ec) (.slice ca c.len cc) cv tv ov) (LS++if(il)then [⟨N0,1,0⟩]else []) VL Xh num rt XH Yu XY wy->Code.wp prog (W9 5) Q A wy) {A:Act} (hA:Og p a pl w.heap.size N0 x A:=by assumption):Code.wp prog (W9 4) Q A wx:=by
 obtain⟨u,rfl⟩:=hA.out;have d0:=hX.s.cell 0 rfl;have HX:=Z5 hX;clear hX;have HK:=Z5 hK;clear hK;have HIL:=Z5 hil;clear hil;conv=>arg 2;whnf
 refine wp_seq_k (fun K Rl=>?_);have HKK:=Z5 Rl;clear Rl;go_wp2_with fail
 refine(I2 hk0 _).mono ?_;rw[HIL.out];rintro e' wz ⟨rfl,rfl⟩;go_wp2_with fail
 refine(Xa HX.out.t (ZC hl (by decide)) ⟨N0,1,0⟩ il).mono ?_;rintro e' w5 ⟨XH,rfl,hT,hF,hO,hn⟩;have h5:=HX.out.call hT (hF.mono (by decide) (Z7 _)) hO hn (Nw.refl _ _) (Nw.refl _ _);have e5:=h5.xb.cell 14 rfl;have f5:=h5.xb.free 14;have H5:=Z5 h5;clear hT hF hO hn h5;go_wp2_with fail
 refine HKK.out _ _ ?_;refine HK.out _ XH _ Md ?_;exact H5.out.store 14 _
end
section
theorem UP.U2 {w w':World} {lo:Nat} {e1 e2:Option Nat} {v:Value} {l:List Int} (h1:UP w lo e1 v l) (h2:UP w lo e2 v l) (hg:w.grownBy w' e1):UP w' lo e2 v l:=⟨(h1.grown hg (yK:=e1) (fun _ h=>.inl h)).1,h2.2⟩
theorem Xt.U2 {w w':World} {lo:Nat} {e1 e2:Option Nat} {nd:Nd} {row:List Value} (h1:Xt w lo e1 nd row) (h2:Xt w lo e2 nd row) (hg:w.grownBy w' e1) (h3: ∀ g,e1=some g->Zq w g 3):Xt w' lo e2 nd row:=by
 obtain⟨vb,ve,vc,cv,tv,ov,rfl,g2,g3,g4,g5,g6,g7⟩:=h1;obtain⟨kM,ve',sH,AA,oS,ov',hr,k2,k3,k4,k5,k6,k7⟩:=h2;simp[ZQ]at hr;obtain⟨_,_,_,_,rfl,rfl⟩:=hr;refine⟨vb,ve,vc,cv,tv,ov,rfl,g2,g3,g4,g5.kept hg ?_,g6.U2 k6 hg,g7.U2 k7 hg⟩;cases hv:cv.ownBlock with
 |none=>exact .inl rfl
 |some x=>exact .inr (fun e=>Zq.ne (Zg g5 hv) (h3 x e.symm) (by decide) rfl)
theorem W7.U2 {w w':World} {lo:Nat} {e1 e2:Option Nat} {r:Rw} {row:List Value} (h1:W7 w lo e1 r row) (h2:W7 w lo e2 r row) (hg:w.grownBy w' e1):W7 w' lo e2 r row:=by
 obtain⟨iv,rfl,g2⟩:=h1;obtain⟨iv',hr,k2⟩:=h2;simp at hr;subst hr;exact⟨iv,rfl,g2.U2 k2 hg⟩
theorem NX.grown {w wr w3:World} {B p:Nat} {lv nv rv:Value} {sc:List Value} {x:Nat} {xc:List Value} {ls:List Lf} {NR RR:List (List Value)} {num:Int} {rt:Bool} {Tx UR rv':Value} {row:Option Nat} {e:Nat}
  (h:NX w B p lv nv rv sc x xc ls NR RR num rt Tx UR rv' wr) (hg:wr.grownBy w3 row) (hty: ∀ g,row=some g->Zq wr g e) (he:e=3\/e=110) (hlo: ∀ g,row=some g->w.heap.size<=g/\g < wr.heap.size):
  NX w B p lv nv rv sc x xc ls NR RR num rt Tx UR rv' w3:=by
 have hB:=h.hB;have sF:=h.f.size;have ne: ∀ {b t},Zq wr b t->t≠e->some b≠row:=fun hb hne e'=>Zq.ne hb (hty _ e'.symm) hne rfl;have kp: ∀ {t size v n xs},wr.ownsRow B t size v n xs->t≠e->w3.ownsRow B t size v n xs:=by
  intro t size v n xs hv hne;refine hv.kept hg ?_;cases hb:v.ownBlock with
  |none=>exact .inl rfl
  |some g=>exact .inr (ne (Zg hv hb) hne)
 refine⟨⟨h.t.hB,h.t.blk.grown hg (ne h.t.blk.ty (by rcases he with rfl|rfl<;>decide)),kp h.t.l (by rcases he with rfl|rfl<;>decide),kp h.t.n (by rcases he with rfl|rfl<;>decide),kp h.t.r (by rcases he with rfl|rfl<;>decide),h.t.nl,h.t.rl⟩,h.s.grown hg (ne h.s.ty (by rcases he with rfl|rfl<;>decide)),h.xb.grown hg (ne h.xb.ty (by rcases he with rfl|rfl<;>decide)),h.hx,hB,h.ne,h.f.SB hg (by omega) (fun k hk=>⟨(hlo k hk).1,by have:=(hlo k hk).1;omega⟩),h.o.grown hg (fun k hk=>.inr (hlo k hk).1),h.n1,h.n2,h.n3⟩
def kC (e:Option Nat) (r:List Value):Prop:= ∀ v g,r[20]? =some v->v.ownBlock=some g->e≠some g
structure CX (w w0:World) (B p:Nat) (lv nv rv:Value) (sc:List Value) (x:Nat) (nd:Nd) (vb ve vc:Value) (Yn:List V1) (ts os:List Int) (LS:List Lf) (NR RR:List (List Value)) (num:Int) (rt:Bool) (XO Yu XY cv tv ov:Value) (ns:List Nd) (NS:List (List Value)) (rs:List Rw) (RS:List (List Value)) (wr:World):Prop where
 nx:NX w B p lv nv rv sc x (ZQ nd vb ve vc cv tv ov) LS NR RR num rt XO Yu XY wr
 c:wr.ownsRow w0.heap.size 110 3 cv Yn.length (Yn.map V1.cells).flatten
 t:UP wr w0.heap.size ov.ownBlock tv ts
 o:UP wr w0.heap.size tv.ownBlock ov os
 ns:YZ (fun y r=>Xt wr w0.heap.size tv.ownBlock y r/\Xt wr w0.heap.size ov.ownBlock y r/\kC cv.ownBlock r) ns NS
 rs:YZ (fun y r=>W7 wr w0.heap.size tv.ownBlock y r/\W7 wr w0.heap.size ov.ownBlock y r) rs RS
 f:Fr tT B w0 wr
 hx:x < w0.heap.size
 hw:w.heap.size<=w0.heap.size
section
variable {w w0 wr w' w3:World} {B p:Nat} {lv nv rv:Value} {sc:List Value} {x:Nat} {nd:Nd} {vb ve vc:Value} {Yn:List V1} {ts os:List Int} {LS gD:List Lf} {NR RR WF WU:List (List Value)} {num IZ:Int} {rt EC:Bool} {XO Yu XY XH VO VM cv tv ov:Value} {ns ns':List Nd} {NS NS':List (List Value)} {rs rs':List Rw} {RS RS':List (List Value)}
theorem CX.start (h:NX w B p lv nv rv sc x (ZQ nd vb ve vc (.slice none 0 0) (.slice none 0 0) (.slice none 0 0)) LS NR RR num rt XO Yu XY wr):
  CX w wr B p lv nv rv sc x nd vb ve vc [] [] [] LS NR RR num rt XO Yu XY (.slice none 0 0) (.slice none 0 0) (.slice none 0 0) [] [] [] [] wr:=
 ⟨h,Zs _ _ _ _,⟨Zs _ _ _ _,fun g e=>by simp[Value.ownBlock]at e⟩,⟨Zs _ _ _ _,fun g e=>by simp[Value.ownBlock]at e⟩,.nil,.nil,Fr.refl _ _ _,h.xb.lt,h.f.size⟩
theorem CX.call (h:CX w w0 B p lv nv rv sc x nd vb ve vc Yn ts os LS NR RR num rt XO Yu XY cv tv ov ns NS rs RS wr)
  (hX:NX w B p lv nv rv sc x (ZQ nd vb ve vc cv tv ov) gD WF WU IZ EC XH VO VM w') (hF:Fr tT B wr w'):
  CX w w0 B p lv nv rv sc x nd vb ve vc Yn ts os gD WF WU IZ EC XH VO VM cv tv ov ns NS rs RS w':=
 ⟨hX,ZE hF h.c (by decide),h.t.fr hF (by decide) (Z7 _),h.o.fr hF (by decide) (Z7 _),h.ns.mono fun _ _ k=>⟨k.1.fr hF (by decide) (by decide) (Z7 _),k.2.1.fr hF (by decide) (by decide) (Z7 _),k.2.2⟩,
  h.rs.mono fun _ _ k=>⟨k.1.fr hF (by decide) (Z7 _),k.2.fr hF (by decide) (Z7 _)⟩,h.f.trans hF,h.hx,h.hw⟩
theorem CX.low (h:CX w w0 B p lv nv rv sc x nd vb ve vc Yn ts os LS NR RR num rt XO Yu XY cv tv ov ns NS rs RS wr) (hl:Below wr.heap.size wr w'):
  CX w w0 B p lv nv rv sc x nd vb ve vc Yn ts os LS NR RR num rt XO Yu XY cv tv ov ns NS rs RS w':=by
 have hB:B<=wr.heap.size:=ZC h.nx.hB h.nx.f.size;have hF:Fr [] B wr w':=Fr.of_below hl hB;exact h.call (h.nx.call (h.nx.t.fr hF (by decide)) (hF.mono (by simp) (Z7 _)) ((Only.of_below hl).mono (by simp)) (Nw.refl _ _) (Nw.refl _ _) (Nw.refl _ _)) (hF.mono (by simp) (Z7 _))
theorem Xt.aS {w:World} {lo:Nat} {ex e:Option Nat} {nd:Nd} {r:List Value} (k:Xt w lo ex nd r) (he: ∀ g,e=some g->g < lo):kC e r:=by
 obtain⟨vb,ve,vc,cv,tv,ov,rfl,_,_,_,h5,_,_⟩:=k;intro v g hv hg e';have:cv=v:=by simpa [ZQ]using hv
 subst this;have:=(h5.lt g hg).1;have:=he g e';omega
theorem CX.more (h:CX w w0 B p lv nv rv sc x nd vb ve vc Yn ts os LS NR RR num rt XO Yu XY cv tv ov ns NS rs RS wr)
  (hX:NX w B p lv nv rv sc x (ZQ nd vb ve vc cv tv ov) gD WF WU IZ EC XH VO VM w') (hF:Fr tT B wr w') (hn:YZ (Xt w' wr.heap.size none) ns' NS') (hr:YZ (W7 w' wr.heap.size none) rs' RS'):
  CX w w0 B p lv nv rv sc x nd vb ve vc Yn ts os gD WF WU IZ EC XH VO VM cv tv ov (ns++ns') (NS++NS') (rs++rs') (RS++RS') w':=by
 have hc:=h.call hX hF;have ht: ∀ g,tv.ownBlock=some g->g < wr.heap.size:=fun g e=>(h.t.1.lt g e).2;have ho: ∀ g,ov.ownBlock=some g->g < wr.heap.size:=fun g e=>(h.o.1.lt g e).2;have hl:=h.f.size;refine⟨hc.nx,hc.c,hc.t,hc.o,hc.ns.app (hn.mono fun _ _ k=>⟨(k.ex ht).fr (Fr.refl [] 0 _) (by simp) (by simp) hl,(k.ex ho).fr (Fr.refl [] 0 _) (by simp) (by simp) hl,k.aS (fun g e=>(h.c.lt g e).2)⟩),hc.rs.app (hr.mono fun _ _ k=>⟨(k.ex ht).fr (Fr.refl [] 0 _) (by simp) hl,(k.ex ho).fr (Fr.refl [] 0 _) (by simp) hl⟩),hc.f,hc.hx,hc.hw⟩
theorem Mc {wr:World} {v:Value} {g n cap:Nat} (hat:v.ownBlock=some g\/(v.ownBlock≠some g/\wr.heap.size<=g)): ∀ g',(Value.slice (some ⟨g,0,none⟩) n cap).ownBlock=some g'->v.ownBlock=some g'\/wr.heap.size<=g':=by
 intro g' e;have:g=g':=by simpa [Value.ownBlock]using e
 subst this;exact hat.imp id And.right
theorem CX.aR {q:Int} {g n cap:Nat} (h:CX w w0 B p lv nv rv sc x nd vb ve vc Yn ts os LS NR RR num rt XO Yu XY cv tv ov ns NS rs RS wr) (hn:n=ts.length)
  (h3:w3.ownsRow w0.heap.size 3 1 (.slice (some ⟨g,0,none⟩) (n+1) cap) (n+1) (ts.map (Value.int .i64)++ [.int .i64 q])) (hg:wr.grownBy w3 tv.ownBlock) (hat:tv.ownBlock=some g\/(tv.ownBlock≠some g/\wr.heap.size<=g)):
  CX w w0 B p lv nv rv sc x nd vb ve vc Yn (ts++ [q]) os LS NR RR num rt XO Yu XY cv (.slice (some ⟨g,0,none⟩) (n+1) cap) ov ns NS rs RS (w3.setCell ⟨x,21,none⟩ (.slice (some ⟨g,0,none⟩) (n+1) cap)):=by
 subst hn;have hty: ∀ k,tv.ownBlock=some k->Zq wr k 3:=fun k e=>Zg h.t.1 e;have hlo: ∀ k,tv.ownBlock=some k->w0.heap.size<=k/\k < wr.heap.size:=fun k e=>h.t.1.lt k e;have hB:=h.nx.hB;have hw:=h.hw;have hf:=h.f.size;have x3:=h.nx.grown hg hty (.inl rfl) (fun k e=>⟨by have:=(hlo k e).1;omega,(hlo k e).2⟩);have hS:Fr [79] B w3 (w3.setCell ⟨x,21,none⟩ (.slice (some ⟨g,0,none⟩) (ts.length+1) cap)):=(Fr.refl _ _ _).X9 _ _ x3.xb.ty (by decide) (by have:=h.nx.hx;simp;omega);have hnew:=Mc (n:=ts.length+1) (cap:=cap) hat;have ho: ∀ k,ov.ownBlock=some k->k < wr.heap.size:=fun k e=>(h.o.1.lt k e).2
 refine⟨x3.store 21 _,ZE hS (h.c.kept hg ?_) (by decide),⟨?_,fun k e e2=>?_⟩,(h.o.grown hg hnew).fr hS (by decide) (Z7 _),h.ns.mono fun _ _ k=>⟨(k.1.grown hg hty hnew).fr hS (by decide) (by decide) (Z7 _),(k.1.U2 k.2.1 hg hty).fr hS (by decide) (by decide) (Z7 _),k.2.2⟩,
  h.rs.mono fun _ _ k=>⟨(k.1.grown hg hnew).fr hS (by decide) (Z7 _),(k.1.U2 k.2 hg).fr hS (by decide) (Z7 _)⟩,(h.f.SB hg (by omega) (fun k e=>⟨(hlo k e).1,by have:=(hlo k e).1;omega⟩)).trans (hS.mono (by decide) (Z7 _)),h.hx,hw⟩
 .cases hv:cv.ownBlock with
  |none=>exact .inl rfl
  |some k=>exact .inr (fun e=>Zq.ne (Zg h.c hv) (hty k e.symm) (by decide) rfl)
 .have:=ZE hS h3 (by decide);simpa using this
 .rcases hnew k e with h1|h1
  .exact h.t.2 k h1 e2
  .have:=ho k e2;omega
theorem CX.aQ {q:Int} {g n cap:Nat} (h:CX w w0 B p lv nv rv sc x nd vb ve vc Yn ts os LS NR RR num rt XO Yu XY cv tv ov ns NS rs RS wr) (hn:n=os.length)
  (h3:w3.ownsRow w0.heap.size 3 1 (.slice (some ⟨g,0,none⟩) (n+1) cap) (n+1) (os.map (Value.int .i64)++ [.int .i64 q])) (hg:wr.grownBy w3 ov.ownBlock) (hat:ov.ownBlock=some g\/(ov.ownBlock≠some g/\wr.heap.size<=g)):
  CX w w0 B p lv nv rv sc x nd vb ve vc Yn ts (os++ [q]) LS NR RR num rt XO Yu XY cv tv (.slice (some ⟨g,0,none⟩) (n+1) cap) ns NS rs RS (w3.setCell ⟨x,22,none⟩ (.slice (some ⟨g,0,none⟩) (n+1) cap)):=by
 subst hn;have hty: ∀ k,ov.ownBlock=some k->Zq wr k 3:=fun k e=>Zg h.o.1 e;have hlo: ∀ k,ov.ownBlock=some k->w0.heap.size<=k/\k < wr.heap.size:=fun k e=>h.o.1.lt k e;have hB:=h.nx.hB;have hw:=h.hw;have hf:=h.f.size;have x3:=h.nx.grown hg hty (.inl rfl) (fun k e=>⟨by have:=(hlo k e).1;omega,(hlo k e).2⟩);have hS:Fr [79] B w3 (w3.setCell ⟨x,22,none⟩ (.slice (some ⟨g,0,none⟩) (os.length+1) cap)):=(Fr.refl _ _ _).X9 _ _ x3.xb.ty (by decide) (by have:=h.nx.hx;simp;omega);have hnew:=Mc (n:=os.length+1) (cap:=cap) hat;have ho: ∀ k,tv.ownBlock=some k->k < wr.heap.size:=fun k e=>(h.t.1.lt k e).2
 refine⟨x3.store 22 _,ZE hS (h.c.kept hg ?_) (by decide),(h.t.grown hg hnew).fr hS (by decide) (Z7 _),⟨?_,fun k e e2=>?_⟩,h.ns.mono fun _ _ k=>⟨(k.2.1.U2 k.1 hg hty).fr hS (by decide) (by decide) (Z7 _),(k.2.1.grown hg hty hnew).fr hS (by decide) (by decide) (Z7 _),k.2.2⟩,
  h.rs.mono fun _ _ k=>⟨(k.2.U2 k.1 hg).fr hS (by decide) (Z7 _),(k.2.grown hg hnew).fr hS (by decide) (Z7 _)⟩,(h.f.SB hg (by omega) (fun k e=>⟨(hlo k e).1,by have:=(hlo k e).1;omega⟩)).trans (hS.mono (by decide) (Z7 _)),h.hx,hw⟩
 .cases hv:cv.ownBlock with
  |none=>exact .inl rfl
  |some k=>exact .inr (fun e=>Zq.ne (Zg h.c hv) (hty k e.symm) (by decide) rfl)
 .have:=ZE hS h3 (by decide);simpa using this
 .rcases hnew k e with h1|h1
  .exact h.o.2 k h1 e2
  .have:=ho k e2;omega
theorem CX.aP {q:V1} {g n cap:Nat} (h:CX w w0 B p lv nv rv sc x nd vb ve vc Yn ts os LS NR RR num rt XO Yu XY cv tv ov ns NS rs RS wr) (hn:n=Yn.length)
  (h3:w3.ownsRow w0.heap.size 110 3 (.slice (some ⟨g,0,none⟩) (n+1) cap) (n+1) ((Yn.map V1.cells).flatten++q.cells)) (hg:wr.grownBy w3 cv.ownBlock) (hat:cv.ownBlock=some g\/(cv.ownBlock≠some g/\wr.heap.size<=g)):
  CX w w0 B p lv nv rv sc x nd vb ve vc (Yn++ [q]) ts os LS NR RR num rt XO Yu XY (.slice (some ⟨g,0,none⟩) (n+1) cap) tv ov ns NS rs RS (w3.setCell ⟨x,20,none⟩ (.slice (some ⟨g,0,none⟩) (n+1) cap)):=by
 subst hn;have hty: ∀ k,cv.ownBlock=some k->Zq wr k 110:=fun k e=>Zg h.c e;have hlo: ∀ k,cv.ownBlock=some k->w0.heap.size<=k/\k < wr.heap.size:=fun k e=>h.c.lt k e;have hB:=h.nx.hB;have hw:=h.hw;have hf:=h.f.size;have x3:=h.nx.grown hg hty (.inr rfl) (fun k e=>⟨by have:=(hlo k e).1;omega,(hlo k e).2⟩);have hS:Fr [79] B w3 (w3.setCell ⟨x,20,none⟩ (.slice (some ⟨g,0,none⟩) (Yn.length+1) cap)):=(Fr.refl _ _ _).X9 _ _ x3.xb.ty (by decide) (by have:=h.nx.hx;simp;omega);have kp: ∀ {b size v n xs},wr.ownsRow b 3 size v n xs->w3.ownsRow b 3 size v n xs:=by
  intro b size v n xs hv;refine hv.kept hg ?_;cases hb:v.ownBlock with
  |none=>exact .inl rfl
  |some g=>exact .inr (fun e=>Zq.ne (Zg hv hb) (hty g e.symm) (by decide) rfl)
 have hnew:=Mc (n:=Yn.length+1) (cap:=cap) hat;refine⟨x3.store 20 _,?_,⟨ZE hS (kp h.t.1) (by decide),h.t.2⟩,⟨ZE hS (kp h.o.1) (by decide),h.o.2⟩,?_,h.rs.mono fun _ _ k=>⟨?_,?_⟩,(h.f.SB hg (by omega) (fun k e=>⟨(hlo k e).1,by have:=(hlo k e).1;omega⟩)).trans (hS.mono (by decide) (Z7 _)),h.hx,hw⟩
 .have:=ZE hS h3 (by decide);simpa using this
 .refine h.ns.mono fun y r k=>?_;obtain⟨k1,k2,k3⟩:=k;have one: ∀ {e},Xt wr w0.heap.size e y r->Xt (w3.setCell ⟨x,20,none⟩ (.slice (some ⟨g,0,none⟩) (Yn.length+1) cap)) w0.heap.size e y r:=by
   intro e k1;obtain⟨vb,ve,vc,c',t',o',rfl,g2,g3,g4,g5,g6,g7⟩:=k1;refine⟨vb,ve,vc,c',t',o',rfl,g2,g3,g4,ZE hS (g5.kept hg ?_) (by decide),⟨ZE hS (kp g6.1) (by decide),g6.2⟩,⟨ZE hS (kp g7.1) (by decide),g7.2⟩⟩;cases hv:c'.ownBlock with
   |none=>exact .inl rfl
   |some u=>exact .inr (fun e=>k3 c' u rfl hv e.symm)
  refine⟨one k1,one k2,?_⟩;obtain⟨vb,ve,vc,c',t',o',rfl,g2,g3,g4,g5,g6,g7⟩:=k1;intro v u hv hu e;have:c'=v:=by simpa [ZQ]using hv
  subst this;rcases hnew u e with h1|h1
  .exact k3 c' u rfl hu h1
  .have:=(g5.lt u hu).2;omega
 .obtain⟨iv,e1,e2⟩:=k.1;exact⟨iv,e1,ZE hS (kp e2.1) (by decide),e2.2⟩
 .obtain⟨iv,e1,e2⟩:=k.2;exact⟨iv,e1,ZE hS (kp e2.1) (by decide),e2.2⟩
end
end
section
theorem CP (args:Array Value) (w:World):(callFunc 116 args).run prog w=.ok (.enter 116 args) w:=by kernel_rfl
theorem yG (args:Array Value) (w:World):(callFunc 81 args).run prog w=.ok (.enter 81 args) w:=by kernel_rfl
theorem yE:(prog.info? 110).map (fun i=>(i.zero,i.size,i.bytes))=some (some (.agg #[.int .i64 0,.int .i64 0,false]),3,24):=by kernel_rfl
def Gy (w w0:World) (B p:Nat) (lv nv rv:Value) (sc:List Value) (x:Nat) (nd:Nd) (vb ve vc:Value) (Yn:List V1) (T0 O0:List Int) (L1:List Lf) (NR RR:List (List Value)) (num:Int) (rt:Bool) (Yu XY cv:Value) (ns:List Nd) (NS:List (List Value)) (rs:List Rw) (RS:List (List Value)) (N0 k ts cb:Nat) (e:Int) (bv:Value) (ix:Value) (wr:World):Prop:=
 ∃ (q:Nat) (XO tv ov:Value),ix=.int .i64 q/\q<=ts/\
  CX w w0 B p lv nv rv sc x nd vb ve vc Yn (T0++(List.range q).map (fun u=>((L1.length+u:Nat):Int))) (O0++List.replicate q (k:Int)) (L1++(List.range q).map (fun u=>(⟨N0,5,(T0.length+u:Nat)⟩:Lf))) NR RR num rt XO Yu XY cv tv ov ns NS rs RS wr/\ZD wr cb [.int .i64 e,bv] 132
def IY (all rest:WG) (ls:List Lf) (ns:List Nd) (rs:List Rw) (Yn:List V1) (ts os:List Int) (it:Nat):Prop:=
 all=⟨ls++rest.ls,ns++rest.ns,rs++rest.rs,Yn++rest.Yn,ts++rest.tests,os++rest.YY,it+rest.it⟩
def CO (c:T) (w w0:World) (B p m:Nat) (lv nv rv:Value) (sc:List Value) (x:Nat) (nd:Nd) (vb ve vc:Value) (LS:List Lf) (NR RR:List (List Value)) (num:Nat) (rt:Bool) (bb o N0:Nat) (sw:Bool) (ix:Value) (wr:World):Prop:=
 ∃ (k:Nat) (rest:T) (WP:List Lf) (Uu:List Nd) (UO:List Rw) (Yn:List V1) (ts os:List Int) (VR m1:Nat) (XO Yu XY cv tv ov:Value) (U3 V7:List (List Value)) (M4:Bool),
  ix=.int .i64 k/\rest.All Ti/\rest.At (YB w B) false bb (o+k*2)/\k+rest.len=c.len/\
  CX w w0 B p lv nv rv sc x nd vb ve vc Yn ts os (LS++WP) (NR++U3) (RR++V7) ((num+VR:Nat):Int) M4 XO Yu XY cv tv ov Uu U3 UO V7 wr/\Yn.length=k/\os.length=ts.length/\ts.length<=WP.length/\
  (M4=true->rt=true/\(rest.fA->c.fA))/\Sz m1 (LS++WP) (NR++U3) (RR++V7) (num+VR)/\m1+7*rest.wt<=m+7*c.wt/\
  IY (c.rd.c sw N0 NR.length RR.length LS.length num 0 0) (rest.rd.c sw N0 (NR.length+Uu.length) (RR.length+UO.length) (LS.length+WP.length) (num+VR) k ts.length) WP Uu UO Yn ts os VR
theorem E9 {all:WG} {e:Int} {b tl:T} {sw:Bool} {N0 N R n i k t ts:Nat} {ls:List Lf} {ns:List Nd} {rs:List Rw} {Yn:List V1} {tt os:List Int} {it:Nat} (h:IY all ((T.cl e b tl).rd.c sw N0 N R n i k t) ls ns rs Yn tt os it) (hts:ts=if sw then e.toNat else 0) {ob:Out} (hob:ob=b.rd.l N (R+1) (n+ts) (i+1) R 0)
  {N' R' n' i' k' t':Nat} (e1:N'=N+ob.ns.length) (e2:R'=R+1+ob.rs.length) (e3:n'=n+ts+ob.ls.length) (e4:i'=i+1+ob.it) (e5:k'=k+1) (e6:t'=t+ts) {it':Nat} (e7:it'=it+(1+ob.it)):
  IY all (tl.rd.c sw N0 N' R' n' i' k' t') ((ls++(List.range ts).map (fun q=>(⟨N0,5,(t+q:Nat)⟩:Lf)))++ob.ls) (ns++ob.ns) (rs++(⟨N0,k,ob.ids⟩::ob.rs)) (Yn++ [⟨i,R,decide (e=0)⟩]) (tt++(List.range ts).map (fun q=>((n+q:Nat):Int))) (os++List.replicate ts (k:Int)) it':=by
 unfold IY at h ⊢;rw[h];subst e1;subst e2;subst e3;subst e4;subst e5;subst e6;subst e7;simp only[T.rd];rw[<-hts,<-hob];simp[ZI,Z3]
theorem yD {c tl b:T} {e:Int} {w w0 w2:World} {B p m:Nat} {lv nv rv:Value} {sc:List Value} {x:Nat} {nd:Nd} {vb ve vc:Value} {LS:List Lf} {NR RR:List (List Value)} {num:Nat} {rt:Bool} {bb o N0:Nat} {sw:Bool} {k:Nat}
  {WP:List Lf} {Uu:List Nd} {UO:List Rw} {Yn:List V1} {ts os:List Int} {VR m1:Nat} {cv tv ov XH VO VM:Value} {U3 V7 WF WU:List (List Value)} {M4 VD:Bool} {tn:Nat} {ob:Out}
  (hq:tl.All Ti) (ha:tl.At (YB w B) false bb (o+k*2+2)) (hlen:k+(T.cl e b tl).len=c.len) (UN:Yn.length=k) (hos:os.length=ts.length) (htl:ts.length<=WP.length) (hrt:M4=true->rt=true/\((T.cl e b tl).fA->c.fA))
  (hSz:Sz m1 (LS++WP) (NR++U3) (RR++V7) (num+VR)) (hm1:m1+7*(T.cl e b tl).wt<=m+7*c.wt)
  (hEq:IY (c.rd.c sw N0 NR.length RR.length LS.length num 0 0) ((T.cl e b tl).rd.c sw N0 (NR.length+Uu.length) (RR.length+UO.length) (LS.length+WP.length) (num+VR) k ts.length) WP Uu UO Yn ts os VR)
  (n1:Uu.length=U3.length) (r1:UO.length=V7.length) (htn:tn=if sw then e.toNat else 0)
  (hob:ob=b.rd.l (NR++U3).length ((RR++V7).length+1) ((LS++WP)++(List.range tn).map (fun u=>(⟨N0,5,(ts.length+u:Nat)⟩:Lf))).length (num+VR+1) (RR++V7).length 0)
  (hC:CX w w0 B p lv nv rv sc x nd vb ve vc (Yn++ [⟨((num+VR:Nat):Int),(RR++V7).length,decide (e=0)⟩]) (ts++(List.range tn).map (fun u=>(((LS++WP).length+u:Nat):Int))) (os++List.replicate tn (k:Int)) (((LS++WP)++(List.range tn).map (fun u=>(⟨N0,5,(ts.length+u:Nat)⟩:Lf)))++ob.ls) ((NR++U3)++WF) ((RR++V7)++WU) ((num+VR+1+ob.it:Nat):Int) VD XH VO VM cv tv ov (Uu++ob.ns) (U3++WF) (UO++(⟨N0,k,ob.ids⟩::ob.rs)) (V7++WU) w2)
  (Me:VD=true->M4=true/\b.fA):
  CO c w w0 B p m lv nv rv sc x nd vb ve vc LS NR RR num rt bb o N0 sw (.int .i64 ((k:Int)+1)) w2:=by
 have n2:=hC.ns.len;have r2:=hC.rs.len;simp only[Z4,ZJ]at n2 r2;have hl:=(QI b).1 (NR++U3).length ((RR++V7).length+1) ((LS++WP)++(List.range tn).map (fun u=>(⟨N0,5,(ts.length+u:Nat)⟩:Lf))).length (num+VR+1) (RR++V7).length 0;rw[<-hob]at hl;have Z6b:tn<=e.toNat:=by rw[htn];split<;>omega
 have sk:ob=b.rd.l (NR.length+Uu.length) ((RR.length+UO.length)+1) ((LS.length+WP.length)+tn) ((num+VR)+1) (RR.length+UO.length) 0:=by
  rw[hob];simp only[Z4,Y8,Zf,n1,r1]
 obtain⟨z1,z2,z3,z4⟩:=hSz;simp only[Z4]at z1 z2 z3;simp only[T.wt]at hm1;refine⟨k+1,tl,WP++(List.range tn).map (fun u=>(⟨N0,5,(ts.length+u:Nat)⟩:Lf))++ob.ls,Uu++ob.ns,UO++(⟨N0,k,ob.ids⟩::ob.rs),Yn++ [⟨((num+VR:Nat):Int),(RR++V7).length,decide (e=0)⟩],ts++(List.range tn).map (fun u=>(((LS++WP).length+u:Nat):Int)),os++List.replicate tn (k:Int),VR+(1+ob.it),m1+2+e.toNat+4*b.wt,XH,VO,VM,cv,tv,ov,U3++WF,V7++WU,VD,by simp,hq,by rw[show o+(k+1)*2=o+k*2+2 by omega];exact ha,by simp[T.len]at hlen;omega,?_,by simp[UN],by simp[hos],by simp;omega,?_,?_,by omega,?_⟩
 .rw[show num+(VR+(1+ob.it))=num+VR+1+ob.it by omega];simpa [ZI]using hC
 .intro h2;obtain⟨g1,g2⟩:=Me h2;obtain⟨g3,g4⟩:=hrt g1;exact⟨g3,fun ht=>g4 ⟨g2,ht⟩⟩
 .refine⟨?_,?_,?_,by omega⟩
  .simp only[Z4,Y8,Zf];omega
  .simp only[Z4];omega
  .simp only[Z4];omega
 .have h9:=E9 hEq htn sk (N':=NR.length+(Uu++ob.ns).length) (R':=RR.length+(UO++(⟨N0,k,ob.ids⟩::ob.rs:List Rw)).length) (n':=LS.length+(WP++(List.range tn).map (fun u=>(⟨N0,5,(ts.length+u:Nat)⟩:Lf))++ob.ls).length) (i':=num+(VR+(1+ob.it))) (k':=k+1) (t':=(ts++(List.range tn).map (fun u=>(((LS++WP).length+u:Nat):Int))).length) (by simp;omega) (by simp;omega) (by simp;omega) (by omega) rfl (by simp) rfl;rw[show((RR++V7).length:Int)=((RR.length+UO.length:Nat):Int)by rw[Z4,r1]];rw[show(LS++WP).length=LS.length+WP.length by rw[Z4]];rw[show(LS++WP).length=LS.length+WP.length by rw[Z4]]at h9;exact h9
theorem CN {w w0 wr:World} {B p:Nat} {lv nv rv:Value} {sc:List Value} {x:Nat} {nd:Nd} {vb ve vc:Value} {Yn:List V1} {T0 O0:List Int} {L1:List Lf} {NR RR:List (List Value)} {num:Int} {rt:Bool} {XO Yu XY cv tv ov:Value} {ns:List Nd} {NS:List (List Value)} {rs:List Rw} {RS:List (List Value)} {N0 k ts cb:Nat} {e:Int} {bv:Value}
  (h:CX w w0 B p lv nv rv sc x nd vb ve vc Yn T0 O0 L1 NR RR num rt XO Yu XY cv tv ov ns NS rs RS wr) (hb:ZD wr cb [.int .i64 e,bv] 132):Gy w w0 B p lv nv rv sc x nd vb ve vc Yn T0 O0 L1 NR RR num rt Yu XY cv ns NS rs RS N0 k ts cb e bv (.int .i64 0) wr:=
 ⟨0,XO,tv,ov,rfl,Nat.zero_le _,by simpa using h,hb⟩
theorem yC {w w0 wr:World} {B p:Nat} {lv nv rv:Value} {sc:List Value} {x:Nat} {nd:Nd} {vb ve vc:Value} {Yn:List V1} {T0 O0 TQ OQ:List Int} {L1 LQ:List Lf} {NR RR:List (List Value)} {num:Int} {rt:Bool} {XO Yu XY cv tv ov:Value} {ns:List Nd} {NS:List (List Value)} {rs:List Rw} {RS:List (List Value)} {N0 k ts cb q:Nat} {e:Int} {bv:Value}
  (h1:TQ=T0++(List.range q).map (fun u=>((L1.length+u:Nat):Int))) (h2:OQ=O0++List.replicate q (k:Int)) (h3:LQ=L1++(List.range q).map (fun u=>(⟨N0,5,(T0.length+u:Nat)⟩:Lf))) (hq:q < ts)
  (h:CX w w0 B p lv nv rv sc x nd vb ve vc Yn (TQ++ [(LQ.length:Int)]) (OQ++ [(k:Int)]) (LQ++ [⟨N0,5,TQ.length⟩]) NR RR num rt XO Yu XY cv tv ov ns NS rs RS wr) (hb:ZD wr cb [.int .i64 e,bv] 132):
  Gy w w0 B p lv nv rv sc x nd vb ve vc Yn T0 O0 L1 NR RR num rt Yu XY cv ns NS rs RS N0 k ts cb e bv (.int .i64 ((q:Int)+1)) wr:=by
 have e1:LQ.length=L1.length+q:=by rw[h3];simp
 have e2:TQ.length=T0.length+q:=by rw[h1];simp
 refine⟨q+1,XO,tv,ov,by simp,by omega,?_,hb⟩;rw[e1,e2,h1,h2,h3]at h;simpa [List.range_succ,Zm,ZI]using h
theorem yB {w:World} {B p:Nat} {ls:List Lf} {NR RR:List (List Value)} {num:Int} {rt:Bool} {lv nv rv:Value} (h:TM w B p ls NR RR num rt lv nv rv) (hl:ls.length<=100000) (x:Lf):
  Calls prog 116 #[p,.int .i64 x.of,.int .i64 x.what,.int .i64 x.index,true] w fun e w'=> ∃ Tx,e=.returned (.int .i64 ls.length)/\TM w' B p (ls++ [x]) NR RR num rt Tx nv rv/\Fr [71,73] B w w'/\Only (tX p lv nv rv) w w'/\Nw w lv Tx:=
 (Xa h hl x true).mono fun _ _ ⟨Tx,h1,h2,h3,h4,h5⟩=>⟨Tx,h1,by simpa using h2,h3,h4,h5⟩
theorem CX.drew {w w0 wr:World} {B p:Nat} {lv nv rv:Value} {sc:List Value} {x:Nat} {nd:Nd} {vb ve vc:Value} {Yn:List V1} {ts os:List Int} {LS:List Lf} {NR RR:List (List Value)} {num:Int} {rt:Bool} {XO Yu XY cv tv ov:Value} {ns:List Nd} {NS:List (List Value)} {rs:List Rw} {RS:List (List Value)}
  (h:CX w w0 B p lv nv rv sc x nd vb ve vc Yn ts os LS NR RR num rt XO Yu XY cv tv ov ns NS rs RS wr):CX w w0 B p lv nv rv sc x nd vb ve vc Yn ts os LS NR RR num rt XO Yu XY cv tv ov ns NS rs RS wr.drew:=h.low ((ZN _ _).drew)
theorem CX.xg {w w0 wr w3:World} {B p:Nat} {lv nv rv:Value} {sc:List Value} {x:Nat} {nd:Nd} {vb ve vc:Value} {Yn:List V1} {ts os:List Int} {LS:List Lf} {NR RR:List (List Value)} {num:Int} {rt:Bool} {XO Yu XY cv tv ov:Value} {ns:List Nd} {NS:List (List Value)} {rs:List Rw} {RS:List (List Value)}
  (h:CX w w0 B p lv nv rv sc x nd vb ve vc Yn ts os LS NR RR num rt XO Yu XY cv tv ov ns NS rs RS wr) {v:Value} {e:Nat} {size n:Nat} {xs:List Value} (ho:wr.ownsRow w0.heap.size e size v n xs) (he:e=3\/e=110) (hg:wr.grownBy w3 v.ownBlock):
  ZD w3 x (ZQ nd vb ve vc cv tv ov) 79/\ ∀ cb e' bv,ZD wr cb [e',bv] 132->ZD w3 cb [e',bv] 132:=by
 have hw:=h.hw;refine⟨(h.nx.grown hg (fun g hg=>Zg ho hg) he (fun g hg=>⟨by have:=(ho.lt g hg).1;omega,(ho.lt g hg).2⟩)).xb,fun cb e' bv hb=>hb.grown hg (fun e2=>Zq.ne hb.ty (Zg ho e2.symm) (by rcases he with rfl|rfl<;>decide) rfl)⟩
def vL (w w0:World) (B p:Nat) (lv nv rv:Value) (sc:List Value) (x:Nat) (nd:Nd) (vb ve vc:Value) (Yn:List V1) (T0 O0:List Int) (L1:List Lf) (NR RR:List (List Value)) (num:Int) (rt:Bool) (Yu XY cv:Value) (ns:List Nd) (NS:List (List Value)) (rs:List Rw) (RS:List (List Value)) (N0 k ts cb:Nat) (e:Int) (bv:Value) (wr:World):Prop:=
 ∃ (XO tv ov:Value),CX w w0 B p lv nv rv sc x nd vb ve vc Yn (T0++(List.range ts).map (fun u=>((L1.length+u:Nat):Int))) (O0++List.replicate ts (k:Int)) (L1++(List.range ts).map (fun u=>(⟨N0,5,(T0.length+u:Nat)⟩:Lf))) NR RR num rt XO Yu XY cv tv ov ns NS rs RS wr/\ZD wr cb [.int .i64 e,bv] 132
def Qk (n:Nat):Code->Option Code
 | .region i ops d=>if i=n then some (.region i ops d)else none
 | .seq a b=>(Qk n a).or (Qk n b)
 | .cond _ a b=>(Qk n a).or (Qk n b)
 | .block _ c=>Qk n c
 | .loop c=>Qk n c
 | .scope c=>Qk n c
 |_=>none
noncomputable def Gx (n:Nat):Code:=(Qk n (Tryz.f93.body.getD .skip)).getD .skip
def nrm (K:Act->World->Prop):Exit->Act->World->Prop
 | .normal,a,w=>K a w
 |_,_,_=>False
theorem QH {P:Program} {c:Code} {Q:Exit->Act->World->Prop} {a:Act} {w:World} (h:Code.wp P c (nrm fun a w=>Q .normal a w) a w):Code.wp P c Q a w:=
 Code.wp_mono (fun e a w h=>by cases e<;>first|exact h|exact h.elim) h
theorem kB {w w0 wr:World} {B p:Nat} {lv nv rv:Value} {sc:List Value} {x:Nat} {nd:Nd} {vb ve vc:Value} {Yn:List V1} {TQ OQ:List Int} {LQ:List Lf} {NR RR:List (List Value)} {rt:Bool} {XO Yu XY cv tv ov:Value} {ns:List Nd} {NS:List (List Value)} {rs:List Rw} {RS:List (List Value)} {N0 k cb:Nat} {e:Int} {bv:Value} {num:Int} {K:Act->World->Prop} (h:CX w w0 B p lv nv rv sc x nd vb ve vc Yn TQ OQ LQ NR RR num rt XO Yu XY cv tv ov ns NS rs RS wr) (hb:ZD wr cb [.int .i64 e,bv] 132) (hLl:LQ.length<=90000) (hTl:TQ.length<=90000)
  {u1 u2 u3 u4 u5 u6 u7 u8 u11 u12 u13 u14 u15 u16 VC VB VA u20 u21 u22 u23 u24 u25 u26 u27 u28 u29 u30 u31 u32 u33 u34 u35 u36 u37 u38 KP u40 KO u42 KN u44 u45 u46 KM u48 u49 KL u51 KK u53 KJ u55 KI KH u58 u59 u60 u61 KG u63 u64 KF u66 KE u68 u69 u70 KD u72 u73 KC u75 KB KA Kz Ky Kx Kw Kv Ku Kt Ks Kr Kq Kp Ko Kn Km Kl u93 Kk Kj Ki Kh Kg Kf Us Ur Uq Up Uo u105 Un Um Ul Uk Uj Ui Uh Ug Uf Ue Ud Uc Ub u119 Ua T9 T8 T7 u124 T6 T5 u127 T4 T3 T1 u131 Rk Te Sd Sc Sb R9 u138 u139 R8 R7 R6 R5 R4 Td Tc Tb Ta SZ SY SX u152 SW u154 SV SU ST SS SR SQ SP u162 SO u164 SN SM SL TY PP QG Rj SK R0 SJ SI TX:Value} (hK: ∀ (wz:World) (yA:Value) (g cap:Nat) {sj sh sg rZ v138 v139 rY v141 rX v143 rW:Value},CX w w0 B p lv nv rv sc x nd vb ve vc Yn (TQ++ [(LQ.length:Int)]) OQ (LQ++ [⟨N0,5,TQ.length⟩]) NR RR num rt yA Yu XY cv (.slice (some ⟨g,0,none⟩) (TQ.length+1) cap) ov ns NS rs RS wz->ZD wz cb [.int .i64 e,bv] 132->K ⟨#[.pointer (some ⟨p,0,none⟩),u1,u2,u3,u4,u5,u6,u7,u8,.int .i64 N0,.pointer (some ⟨x,0,none⟩),u11,u12,u13,u14,u15,u16,VC,VB,VA,u20,u21,u22,u23,u24,u25,u26,u27,u28,u29,u30,u31,u32,u33,u34,u35,u36,u37,u38,KP,u40,KO,u42,KN,u44,u45,u46,KM,u48,u49,KL,u51,KK,u53,KJ,u55,KI,KH,u58,u59,u60,u61,KG,u63,u64,KF,u66,KE,u68,u69,u70,KD,u72,u73,KC,u75,KB,KA,Kz,Ky,Kx,Kw,Kv,Ku,Kt,Ks,Kr,Kq,Kp,Ko,Kn,Km,Kl,u93,Kk,Kj,Ki,Kh,Kg,Kf,Us,Ur,Uq,Up,Uo,u105,Un,Um,Ul,Uk,Uj,Ui,Uh,Ug,Uf,Ue,Ud,Uc,Ub,u119,Ua,T9,T8,T7,u124,T6,T5,u127,T4,T3,T1,u131,Rk,Te,sj,sh,sg,rZ,v138,v139,rY,v141,rX,v143,rW,Td,Tc,Tb,Ta,SZ,SY,SX,u152,SW,u154,SV,SU,ST,SS,SR,SQ,SP,u162,SO,u164,SN,SM,SL,TY,PP,QG,Rj,SK,R0,SJ,SI,TX],[]⟩ wz):
  Code.wp prog (Gx 20) (nrm K) ⟨#[.pointer (some ⟨p,0,none⟩),u1,u2,u3,u4,u5,u6,u7,u8,.int .i64 N0,.pointer (some ⟨x,0,none⟩),u11,u12,u13,u14,u15,u16,VC,VB,VA,u20,u21,u22,u23,u24,u25,u26,u27,u28,u29,u30,u31,u32,u33,u34,u35,u36,u37,u38,KP,u40,KO,u42,KN,u44,u45,u46,KM,u48,u49,KL,u51,KK,u53,KJ,u55,KI,KH,u58,u59,u60,u61,KG,u63,u64,KF,u66,KE,u68,u69,u70,KD,u72,u73,KC,u75,KB,KA,Kz,Ky,Kx,Kw,Kv,Ku,Kt,Ks,Kr,Kq,Kp,Ko,Kn,Km,Kl,u93,Kk,Kj,Ki,Kh,Kg,Kf,Us,Ur,Uq,Up,Uo,u105,Un,Um,Ul,Uk,Uj,Ui,Uh,Ug,Uf,Ue,Ud,Uc,Ub,u119,Ua,T9,T8,T7,u124,T6,T5,u127,T4,T3,T1,u131,Rk,Te,Sd,Sc,Sb,R9,u138,u139,R8,R7,R6,R5,R4,Td,Tc,Tb,Ta,SZ,SY,SX,u152,SW,u154,SV,SU,ST,SS,SR,SQ,SP,u162,SO,u164,SN,SM,SL,TY,PP,QG,Rj,SK,R0,SJ,SI,TX],[]⟩ wr:=by
 obtain⟨ta,tc,rfl⟩:=ZR h.t.1;have HK:=Z5 hK;have vK:=Zl h.drew hb.drew;have HLf:=Z5 (yB vK.out.1.nx.t (by omega) ⟨N0,5,TQ.length⟩);have x1:=h.nx.xb.cell 21 rfl;clear h hb hK;conv=>arg 2;whnf
 go_region_law (first
  |(refine Yy rfl 116 _ _ (by rfl) [p,.int .i64 N0,.int .i64 5,.int .i64 TQ.length,true] (by rfl) CP (HLf.out.mono ?_);rintro e' w2 ⟨yA,rfl,hT4,vJ,hO4,hn4⟩;refine⟨_,rfl,?_⟩;have E8:=vK.out.1.call (vK.out.1.nx.call hT4 (vJ.mono (by decide) (Z7 _)) hO4 hn4 (Nw.refl _ _) (Nw.refl _ _)) (vJ.mono (by decide) (Z7 _));have hb4:=vK.out.2.fr vJ (by decide);have z1:=E8.nx.xb.cell 21 rfl;have eL:=(E8.nx.xb.alloc (.cells [.int .i64 LQ.length].toArray 3)).cell 21 rfl;have sz4:=E8.f.size;have kA:=E8.t.1;have vI:=Zl E8 hb4;clear E8 hb4 hT4 vJ hO4 hn4)
  |(refine XQ w2 _ rfl _ _ 31 rfl w0.heap.size 3 (.int .i64 0) 1 8 underlying31 info3 rfl (by decide) (by decide) kA (by rfl) [.int .i64 LQ.length] rfl (by simp[Value.oneCell']) (by rfl) (by omega) (by omega) (by first|exact .inl rfl|exact .inr rfl) ?_;intro g cap w3 hown3 hg3 So hlt3;have hxg:=vI.out.1.xg kA (.inl rfl) hg3;have c3:=hxg.1.cell 21 rfl;have AG:=hxg.1.free 21))
 all_goals
  have EB:=vI.out.1.aR (n:=TQ.length) rfl hown3 hg3 (So.imp id (fun h=>⟨h.1,by omega⟩));have hb5:=(hxg.2 _ _ _ vI.out.2).setOther ⟨x,21,none⟩ (.slice (some ⟨g,0,none⟩) (TQ.length+1) cap) (Zq.ne (hxg.2 _ _ _ vI.out.2).ty hxg.1.ty (by decide));exact HK.out _ yA g cap EB hb5
end
end Go.Proofs.YteedbaejpdjilaaGreat
