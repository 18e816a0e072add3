/- Part of the proof: MakeD. -/
import Derived.Test.YteedbaejpdjilaaGreatYPb
set_option linter.all false
set_option maxRecDepth 100000
set_option maxHeartbeats 40000000
namespace Go.Proofs.YteedbaejpdjilaaGreat
open Go.RowKit Tryz
def T.Yg (sw:Bool) (t:T) (M:Mk):Mk:=M.add (t.lv sw) t.it t.ZT (t.stops sw)
def uR (t:T) (B b0:Nat) (M:Mk) (w:World) (e:Ending) (w':World):Prop:=
 ∃ r vs,e=.returned r/\NP (Hv w' w.heap.size) r vs 96/\t.Ast (Hv w' w.heap.size) 0 M.leaves M.items vs/\ZZ w' B b0 (t.Yg false M)/\Fr [83,4,217] B w w'
def Yf (t:T):Prop:= ∀ (B b0:Nat) (M:Mk) (w:World) (v:Value) (bb o:Nat),ZZ w B b0 M->(t.Yg false M).small 90000->t.ok->Zi v bb o t.len->t.At (YB w B) true bb o->
 Calls prog 88 #[b0,v] w (uR t B b0 M w)
def MT (t:T) (m:Nat) (sw:Bool) (B b0:Nat) (M:Mk) (w:World) (e:Ending) (w':World):Prop:=
 ∃ a vs,e=.returned (.pointer (some ⟨a,0,none⟩))/\YW (Hv w' w.heap.size) a 0 0 vs/\t.Ast (Hv w' w.heap.size) m M.leaves M.items vs/\ZZ w' B b0 (t.Yg sw M)/\Fr [83,4,217] B w w'
theorem NP.slice {H:Hp} {v:Value} {xs:List Value} {t:Nat} (h:NP H v xs t): ∃ a n c,v=.slice a n c:=by
 rcases h with⟨_,rfl⟩ |⟨g,cap,rest,_,_,_,rfl,_⟩
 .exact⟨_,_,_,rfl⟩
 .exact⟨_,_,_,rfl⟩
theorem V4 {t:T} (ht:Yf t) (B b0:Nat) (M:Mk) (w:World) (v:Value) (bb o:Nat) (h:ZZ w B b0 M) (hm:(t.Yg false M).small 90000) (hok:t.ok) (hs:Zi v bb o t.len) (hat:t.At (YB w B) true bb o):
  Calls prog 134 #[b0,v] w (MT t 0 false B b0 M w):=by
 have hlt:=h.lt;go_enter func134,ntmps134;go_wp2_with fail
 refine(ht B b0 M w v bb o h hm hok hs hat).mono ?_;rintro e w1 ⟨r,vs,rfl,hr,ha,h1,f1⟩;obtain⟨ra,rn,rc,rfl⟩:=hr.slice;have s1:=f1.size;go_wp2_with fail
 go_ret;exact⟨_,vs,rfl,⟨_,⟨om,by decide,ZD.new' (by simp) _ _⟩,hr.mono (Hv.alloc _ _ (Z7 _))⟩,ha.mono (Hv.alloc _ _ (Z7 _)),h1.fr (Tt:= []) (B':=B) Fr.au (by simp),Fr.au⟩
theorem YA.one {H:Hp} {is:Bool} {v:Value} {p:Int} (h:YA H is v p):v.cells= #[v]/\v.oneCell'=true:=by
 rcases h with⟨_,rfl⟩ |⟨_,a,l,x,r,rfl,_⟩<;>exact⟨rfl,rfl⟩
theorem Wv.one {H:Hp} {is:Bool} {v:Value} {p:Int} (h:Wv H is v p):v.cells= #[v]/\v.oneCell'=true:=by
 rcases h with⟨_,rfl⟩ |⟨_,a,rfl,_⟩<;>exact⟨rfl,rfl⟩
theorem Yw {t:T} {w w':World} {B:Nat} {k:Bool} {bb o:Nat} {Tt:List Nat} (f:Fr Tt B w w') (h:t.At (YB w B) k bb o):t.At (YB w' B) k bb o:=h.mono (YB.below f.below)
theorem Xf {M:Mk} {n i l:Nat} {s:List Bool} (h:M.small 90000) (h1:n<=5000) (h2:i<=5000) (h3:l<=5000) (h4:s.length<=5000):(M.add n i l s).small 100000:=by
 obtain⟨g1,g2,g3,g4,g5⟩:=h;exact⟨by simp[Mk.add];omega,by simp[Mk.add];omega,by simp[Mk.add];omega,by simp[Mk.add];omega,by simp[Mk.add];omega⟩
theorem Ye {M:Mk} {k k':Nat} (h:M.small k) (hk:k<=k'):M.small k':=by
 obtain⟨g1,g2,g3,g4,g5⟩:=h;exact⟨by omega,by omega,by omega,by omega,by omega⟩
theorem Wv.yes {H:Hp} {v:Value} {p:Int} (h:Wv H true v p):YI H v p:=by
 rcases h with⟨hc,_⟩ |⟨_,hc⟩
 .cases hc
 .exact hc
def U9 (sw:Bool) (t:T):Prop:= ∀ (B b0:Nat) (M:Mk) (w:World) (v:Value) (bb o:Nat),ZZ w B b0 M->(t.Yg sw M).small 90000->t.ok->Zi v bb o t.len->t.At (YB w B) false bb o->
 Calls prog 135 #[b0,v,sw] w (MT t (if sw then 1 else 2) sw B b0 M w)
def PL (t:T):Prop:= ∀ (B b0:Nat) (M:Mk) (w:World) (v:Value) (bb o:Nat),ZZ w B b0 M->(t.Yg false M).small 90000->t.ok->Zi v bb o t.len->t.At (YB w B) false bb o->
 Calls prog 136 #[b0,v] w (MT t 3 false B b0 M w)
theorem Hv.UJ {Tt:List Nat} {B:Nat} {w w':World} (hf:Fr Tt B w w') (hT: ∀ t∈Tt,t∈JH) {lo lo':Nat} (hlo:lo'<=lo) (p:Addr) (v:Value) (hp:w.heap.size<=p.block): ∀ b cs t,Hv w lo b cs t->Hv (w'.setCell p v) lo' b cs t:=
 fun _ _ _ ⟨h1,h2,h3⟩=>⟨ZC hlo h1,h2,(h3.fr hf (fun hc=>h2 (hT _ hc))).setOther p v (by have:=h3.lt;omega)⟩
theorem Hv.XW {w:World} {lo lo':Nat} (hlo:lo'<=lo) (p:Addr) (v:Value) (hp:p.block < lo): ∀ b cs t,Hv w lo b cs t->Hv (w.setCell p v) lo' b cs t:=
 fun _ _ _ ⟨h1,h2,h3⟩=>⟨ZC hlo h1,h2,h3.setOther p v (by omega)⟩
theorem Eu {b:T} (hb:Yf b) (B b0:Nat) (M:Mk) (w:World) (i:Nat) (v1 v2 vb ve vc:Value) (ini cnd Ym he UU:Bool) (bb o:Nat) (h:ZZ w B b0 M)
  (hm:(b.Yg false (M.add (ini.toNat+cnd.toNat+Ym.toNat) 0 0 (List.replicate (ini.toNat+cnd.toNat+Ym.toNat) false))).small 90000) (hok:b.ok) (hs:Zi vb bb o b.len) (hat:b.At (YB w B) true bb o):
  Calls prog 127 #[b0,.agg #[.int .i64 11,v1,v2,ini,cnd,Ym,he,UU,vb,ve,vc],.int .i64 (ip i)] w fun e w'=> ∃ a iv cv pv bk vs,
   e=.returned (.iface 207 (.pointer (some ⟨a,0,none⟩)))/\Hv w' w.heap.size a [.int .i64 (ip i),iv,cv,pv,.pointer (some ⟨bk,0,none⟩)] 241/\YA (Hv w' w.heap.size) ini iv (lp M.leaves)/\
   Wv (Hv w' w.heap.size) cnd cv (lp (M.leaves+ini.toNat))/\YA (Hv w' w.heap.size) Ym pv (lp (M.leaves+ini.toNat+cnd.toNat))/\YW (Hv w' w.heap.size) bk 0 0 vs/\
   b.Ast (Hv w' w.heap.size) 0 (M.leaves+(ini.toNat+cnd.toNat+Ym.toNat)) M.items vs/\ZZ w' B b0 (b.Yg false (M.add (ini.toNat+cnd.toNat+Ym.toNat) 0 0 (List.replicate (ini.toNat+cnd.toNat+Ym.toNat) false)))/\Fr [83,4,217] B w w':=by
 have hlt:=h.lt;have hm0:M.small 90000:=hm.add.add;have i1:=ZG ini;have i2:=ZG cnd;have i3:=ZG Ym;have hbx:=ZD.new w [.int .i64 11,v1,v2,ini,cnd,Ym,he,UU,vb,ve,vc] 125;have m0:M.small 100000:=Ye hm0 (by omega);have m1:(M.add ini.toNat 0 0 (List.replicate ini.toNat false)).small 100000:=Xf hm0 (by omega) (by omega) (by omega) (by simp;omega);have m2:((M.add ini.toNat 0 0 (List.replicate ini.toNat false)).add cnd.toNat 0 0 (List.replicate cnd.toNat false)).small 100000:=by
  rw[Mk.add_add];exact Xf hm0 (by omega) (by omega) (by omega) (by simp;omega)
 have h0:ZZ (w.alloc (.cells [.int .i64 11,v1,v2,.bool ini,.bool cnd,.bool Ym,.bool he,.bool UU,vb,ve,vc].toArray 125)).drew B b0 M:=h.fr (Tt:= []) (B':=B) Fr.au (by simp);have Ph:=hbx.drew;have tok1:True:=trivial;go_enter func127,ntmps127;go_wp2_with fail
 go_region_held3 (fun w'=>w'.cell? ⟨w.heap.size,3,none⟩=some (.bool ini)/\w'.cell? ⟨w.heap.size,4,none⟩=some (.bool cnd)/\w'.cell? ⟨w.heap.size,5,none⟩=some (.bool Ym)/\w'.cell? ⟨w.heap.size,8,none⟩=some (vb))
  (first|go_keep)
  (first
   |(go_at_call 132;have _t:=tok1;refine(maybe_any B b0 _ _ _ h0 m0).mono ?_;rintro e w1 ⟨iv,rfl,hiv,h1,f1⟩;clear tok1 _t;have s1:=f1.size;simp at s1;have bx:=Ph.fr f1 (by decide);have x3:=bx.cell 3 rfl;have x4:=bx.cell 4 rfl;have x5:=bx.cell 5 rfl;have x8:=bx.cell 8 rfl;obtain⟨Et,pE⟩:=hiv.one;unfold Value.cells at Et)
   |(go_at_call 133;refine(VY B b0 _ _ _ h1 m1).mono ?_;rintro e w2 ⟨cv,rfl,hcv,h2,f2⟩;have s2:=f2.size;have UL:=bx.fr f2 (by decide);have y3:=UL.cell 3 rfl;have y4:=UL.cell 4 rfl;have y5:=UL.cell 5 rfl;have y8:=UL.cell 8 rfl;obtain⟨Hn,pD⟩:=hcv.one;unfold Value.cells at Hn)
   |(go_at_call 132;refine(maybe_any B b0 _ _ _ h2 m2).mono ?_;rintro e w3 ⟨pv,rfl,hpv,h3,f3⟩;have s3:=f3.size;have uQ:=UL.fr f3 (by decide);have z3:=uQ.cell 3 rfl;have z4:=uQ.cell 4 rfl;have z5:=uQ.cell 5 rfl;have z8:=uQ.cell 8 rfl;obtain⟨pvc,pvo⟩:=hpv.one;unfold Value.cells at pvc)
   |(go_at_call 134;refine(V4 hb B b0 _ _ vb bb o h3 ?_ hok hs ?_).mono ?_;(simpa [Mk.add_add,Z3,ZL]using hm);(exact hat.mono (YB.below (B:=B) (Fr.below (T:= [83,4,217]) Fr.au)));rintro e w4 ⟨bk,vs,rfl,hbk,YD,h4,f4⟩;have s4:=f4.size;have Qc:=uQ.fr f4 (by decide);have u3:=Qc.cell 3 rfl;have u4:=Qc.cell 4 rfl;have u5:=Qc.cell 5 rfl;have u8:=Qc.cell 8 rfl;))
 go_wp2_with fail
 go_ret;exact⟨_,iv,cv,pv,bk,vs,rfl,⟨om,by decide,ZD.new' (by simp) _ _⟩,(hiv.mono (Hv.fr (Tt:= [83,4,217]) (B:=B) Fr.au (by decide) om)),(hcv.mono (Hv.fr (Tt:= [83,4,217]) (B:=B) Fr.au (by decide) om)),by simpa [Mk.add]using(hpv.mono (Hv.fr (Tt:= [83,4,217]) (B:=B) Fr.au (by decide) om)),(hbk.mono (Hv.fr (Tt:= [83,4,217]) (B:=B) Fr.au (by decide) om)),by simpa [Mk.add,Z3]using(YD.mono (Hv.fr (Tt:= [83,4,217]) (B:=B) Fr.au (by decide) om)),by simpa [Mk.add_add,Z3,ZL]using h4.fr (Tt:= []) (B':=B) Fr.au (by simp),Fr.au⟩
theorem Es {b:T} (hb:Yf b) (B b0:Nat) (M:Mk) (w:World) (i:Nat) (v1 v2 vb ve vc:Value) (ini cnd Ym he UU:Bool) (bb o:Nat) (h:ZZ w B b0 M)
  (hm:(b.Yg false (M.add 1 0 0 [false])).small 90000) (hok:b.ok) (hs:Zi vb bb o b.len) (hat:b.At (YB w B) true bb o):
  Calls prog 127 #[b0,.agg #[.int .i64 12,v1,v2,ini,cnd,Ym,he,UU,vb,ve,vc],.int .i64 (ip i)] w fun e w'=> ∃ a cv bk vs,e=.returned (.iface 209 (.pointer (some ⟨a,0,none⟩)))/\Hv w' w.heap.size a [.int .i64 (ip i),.nilIface,.nilIface,.int .i64 0,.int .i64 0,.int .i64 0,cv,.pointer (some ⟨bk,0,none⟩)] 243/\
   YI (Hv w' w.heap.size) cv (lp M.leaves)/\YW (Hv w' w.heap.size) bk 0 0 vs/\b.Ast (Hv w' w.heap.size) 0 (M.leaves+1) M.items vs/\ZZ w' B b0 (b.Yg false (M.add 1 0 0 [false]))/\Fr [83,4,217] B w w':=by
 have hlt:=h.lt;have hm0:M.small 90000:=hm.add.add;have i1:=ZG ini;have i2:=ZG cnd;have i3:=ZG Ym;have hbx:=ZD.new w [.int .i64 12,v1,v2,ini,cnd,Ym,he,UU,vb,ve,vc] 125;have m0:M.small 100000:=Ye hm0 (by omega);have h0:ZZ (w.alloc (.cells [.int .i64 12,v1,v2,.bool ini,.bool cnd,.bool Ym,.bool he,.bool UU,vb,ve,vc].toArray 125)).drew B b0 M:=h.fr (Tt:= []) (B':=B) Fr.au (by simp);have Ph:=hbx.drew;have tok1:True:=trivial;go_enter func127,ntmps127;go_wp2_with fail
 go_region_held3 (fun w'=>w'.cell? ⟨w.heap.size,8,none⟩=some (vb))
  (first|go_keep)
  (first
   |(go_at_call 133;refine(VY B b0 _ _ _ h0 m0).mono ?_;rintro e w2 ⟨cv,rfl,hcv,h2,f2⟩;have s2:=f2.size;simp at s2;have UL:=Ph.fr f2 (by decide);have y8:=UL.cell 8 rfl;obtain⟨Hn,pD⟩:=hcv.one;unfold Value.cells at Hn)
   |(go_at_call 134;refine(V4 hb B b0 _ _ vb bb o h2 ?_ hok hs ?_).mono ?_;(simpa [Mk.add_add,Z3,ZL]using hm);(exact hat.mono (YB.below (B:=B) (Fr.below (T:= [83,4,217]) Fr.au)));rintro e w4 ⟨bk,vs,rfl,hbk,YD,h4,f4⟩;have s4:=f4.size;have Qc:=UL.fr f4 (by decide);have u8:=Qc.cell 8 rfl;))
 go_wp2_with fail
 go_ret;have hcv1:=hcv.yes;exact⟨_,cv,bk,vs,rfl,⟨om,by decide,ZD.new' (by simp) _ _⟩,(hcv1.mono (Hv.fr (Tt:= [83,4,217]) (B:=B) Fr.au (by decide) om)),(hbk.mono (Hv.fr (Tt:= [83,4,217]) (B:=B) Fr.au (by decide) om)),by simpa [Mk.add,Z3]using(YD.mono (Hv.fr (Tt:= [83,4,217]) (B:=B) Fr.au (by decide) om)),by simpa [Mk.add_add,Z3,ZL]using h4.fr (Tt:= []) (B':=B) Fr.au (by simp),Fr.au⟩
theorem F1 {b:T} (hb:Yf b) (B b0:Nat) (M:Mk) (w:World) (i:Nat) (v1 v2 vb ve vc:Value) (ini cnd Ym UU:Bool) (bb o:Nat) (h:ZZ w B b0 M)
  (hm:(b.Yg false (M.add (ini.toNat+1) 0 0 (List.replicate (ini.toNat+1) false))).small 90000) (hok:b.ok) (hs:Zi vb bb o b.len) (hat:b.At (YB w B) true bb o):
  Calls prog 127 #[b0,.agg #[.int .i64 10,v1,v2,ini,cnd,Ym,false,UU,vb,ve,vc],.int .i64 (ip i)] w fun e w'=> ∃ a iv cv bk vs ev,e=.returned (.iface 197 (.pointer (some ⟨a,0,none⟩)))/\Hv w' w.heap.size a [.int .i64 (ip i),iv,cv,.pointer (some ⟨bk,0,none⟩),ev] 199/\YA (Hv w' w.heap.size) ini iv (lp M.leaves)/\
   YI (Hv w' w.heap.size) cv (lp (M.leaves+ini.toNat))/\YW (Hv w' w.heap.size) bk 0 0 vs/\b.Ast (Hv w' w.heap.size) 0 (M.leaves+(ini.toNat+1)) M.items vs/\(ev=.nilIface)/\ZZ w' B b0 (b.Yg false (M.add (ini.toNat+1) 0 0 (List.replicate (ini.toNat+1) false)))/\Fr [83,4,217] B w w':=by
 have hlt:=h.lt;have hm0:M.small 90000:=hm.add.add;have i1:=ZG ini;have i2:=ZG cnd;have i3:=ZG Ym;have hbx:=ZD.new w [.int .i64 10,v1,v2,ini,cnd,Ym,false,UU,vb,ve,vc] 125;have m0:M.small 100000:=Ye hm0 (by omega);have hm1:=hm;have m1:(M.add ini.toNat 0 0 (List.replicate ini.toNat false)).small 100000:=Xf hm0 (by omega) (by omega) (by omega) (by simp;omega);have h0:ZZ (w.alloc (.cells [.int .i64 10,v1,v2,.bool ini,.bool cnd,.bool Ym,.bool false,.bool UU,vb,ve,vc].toArray 125)).drew B b0 M:=h.fr (Tt:= []) (B':=B) Fr.au (by simp);have Ph:=hbx.drew;have tok1:True:=trivial;go_enter func127,ntmps127;go_wp2_with fail
 go_region_held3 (fun w'=>w'.cell? ⟨w.heap.size,3,none⟩=some (.bool ini)/\w'.cell? ⟨w.heap.size,8,none⟩=some (vb))
  (first|go_keep)
  (first
   |(go_at_call 132;refine(maybe_any B b0 _ _ _ h0 m0).mono ?_;rintro e w1 ⟨iv,rfl,hiv,h1,f1⟩;have s1:=f1.size;simp at s1;have bx:=Ph.fr f1 (by decide);have x3:=bx.cell 3 rfl;have x8:=bx.cell 8 rfl;obtain⟨Et,pE⟩:=hiv.one;unfold Value.cells at Et)
   |(go_at_call 133;refine(VY B b0 _ _ _ h1 m1).mono ?_;rintro e w2 ⟨cv,rfl,hcv,h2,f2⟩;have s2:=f2.size;have UL:=bx.fr f2 (by decide);have y3:=UL.cell 3 rfl;have y8:=UL.cell 8 rfl;obtain⟨Hn,pD⟩:=hcv.one;unfold Value.cells at Hn)
   |(go_at_call 134;refine(V4 hb B b0 _ _ vb bb o h2 ?_ hok hs ?_).mono ?_;(simpa [Mk.add_add,Z3,ZL,Zm]using hm1);(exact hat.mono (YB.below (B:=B) (Fr.below (T:= [83,4,217]) Fr.au)));rintro e w4 ⟨bk,vs,rfl,hbk,YD,h4,f4⟩;have s4:=f4.size;have Qc:=UL.fr f4 (by decide);have u3:=Qc.cell 3 rfl;have u8:=Qc.cell 8 rfl;))
 have hcv1:=hcv.yes;have AO:=Qc.alloc (.cells [.int .i64 (ip i),iv,cv,.pointer (some ⟨bk,0,none⟩),.nilIface].toArray 199);have q6:=AO.cell 6 rfl;go_wp2_with fail
 go_ret;exact⟨_,iv,cv,bk,vs,_,rfl,⟨om,by decide,ZD.new' (by simp) _ _⟩,(hiv.mono (Hv.fr (Tt:= [83,4,217]) (B:=B) Fr.au (by decide) om)),(hcv1.mono (Hv.fr (Tt:= [83,4,217]) (B:=B) Fr.au (by decide) om)),(hbk.mono (Hv.fr (Tt:= [83,4,217]) (B:=B) Fr.au (by decide) om)),by simpa [Mk.add,Z3]using(YD.mono (Hv.fr (Tt:= [83,4,217]) (B:=B) Fr.au (by decide) om)),rfl,by simpa [Mk.add_add,Z3,ZL,Zm]using h4.fr (Tt:= []) (B':=B) Fr.au (by simp),Fr.au⟩
theorem F0 {b x:T} (hb:Yf b) (hx:Yf x) (B b0:Nat) (M:Mk) (w:World) (i:Nat) (v1 v2 vb ve vc:Value) (ini cnd Ym:Bool) (bb o:Nat) (h:ZZ w B b0 M)
  (hm:(x.Yg false (b.Yg false (M.add (ini.toNat+1) 0 0 (List.replicate (ini.toNat+1) false)))).small 90000) (hok:b.ok) (hs:Zi vb bb o b.len) (hat:b.At (YB w B) true bb o) (b2 o2:Nat) (uP:x.ok) (hse:Zi ve b2 o2 x.len) (uO:x.At (YB w B) true b2 o2):
  Calls prog 127 #[b0,.agg #[.int .i64 10,v1,v2,ini,cnd,Ym,true,false,vb,ve,vc],.int .i64 (ip i)] w fun e w'=> ∃ a iv cv bk vs ev,e=.returned (.iface 197 (.pointer (some ⟨a,0,none⟩)))/\Hv w' w.heap.size a [.int .i64 (ip i),iv,cv,.pointer (some ⟨bk,0,none⟩),ev] 199/\YA (Hv w' w.heap.size) ini iv (lp M.leaves)/\
   YI (Hv w' w.heap.size) cv (lp (M.leaves+ini.toNat))/\YW (Hv w' w.heap.size) bk 0 0 vs/\b.Ast (Hv w' w.heap.size) 0 (M.leaves+(ini.toNat+1)) M.items vs/\(∃ eb es,ev=.iface 86 (.pointer (some ⟨eb,0,none⟩))/\YW (Hv w' w.heap.size) eb 0 0 es/\x.Ast (Hv w' w.heap.size) 0 (M.leaves+(ini.toNat+1)+b.lv false) (M.items+b.it) es)/\ZZ w' B b0 (x.Yg false (b.Yg false (M.add (ini.toNat+1) 0 0 (List.replicate (ini.toNat+1) false))))/\Fr [83,4,217] B w w':=by
 have hlt:=h.lt;have hm0:M.small 90000:=hm.add.add.add;have i1:=ZG ini;have i2:=ZG cnd;have i3:=ZG Ym;have hbx:=ZD.new w [.int .i64 10,v1,v2,ini,cnd,Ym,true,false,vb,ve,vc] 125;have m0:M.small 100000:=Ye hm0 (by omega);have hm1:=hm.add;have m1:(M.add ini.toNat 0 0 (List.replicate ini.toNat false)).small 100000:=Xf hm0 (by omega) (by omega) (by omega) (by simp;omega);have h0:ZZ (w.alloc (.cells [.int .i64 10,v1,v2,.bool ini,.bool cnd,.bool Ym,.bool true,.bool false,vb,ve,vc].toArray 125)).drew B b0 M:=h.fr (Tt:= []) (B':=B) Fr.au (by simp);have Ph:=hbx.drew;have tok1:True:=trivial;go_enter func127,ntmps127;go_wp2_with fail
 go_region_held3 (fun w'=>w'.cell? ⟨w.heap.size,3,none⟩=some (.bool ini)/\w'.cell? ⟨w.heap.size,8,none⟩=some (vb))
  (first|go_keep)
  (first
   |(go_at_call 132;refine(maybe_any B b0 _ _ _ h0 m0).mono ?_;rintro e w1 ⟨iv,rfl,hiv,h1,f1⟩;have s1:=f1.size;simp at s1;have bx:=Ph.fr f1 (by decide);have x3:=bx.cell 3 rfl;have x8:=bx.cell 8 rfl;obtain⟨Et,pE⟩:=hiv.one;unfold Value.cells at Et)
   |(go_at_call 133;refine(VY B b0 _ _ _ h1 m1).mono ?_;rintro e w2 ⟨cv,rfl,hcv,h2,f2⟩;have s2:=f2.size;have UL:=bx.fr f2 (by decide);have y3:=UL.cell 3 rfl;have y8:=UL.cell 8 rfl;obtain⟨Hn,pD⟩:=hcv.one;unfold Value.cells at Hn)
   |(go_at_call 134;refine(V4 hb B b0 _ _ vb bb o h2 ?_ hok hs ?_).mono ?_;(simpa [Mk.add_add,Z3,ZL,Zm]using hm1);(exact hat.mono (YB.below (B:=B) (Fr.below (T:= [83,4,217]) Fr.au)));rintro e w4 ⟨bk,vs,rfl,hbk,YD,h4,f4⟩;have s4:=f4.size;have Qc:=UL.fr f4 (by decide);have u3:=Qc.cell 3 rfl;have u8:=Qc.cell 8 rfl;))
 have hcv1:=hcv.yes;have AO:=Qc.alloc (.cells [.int .i64 (ip i),iv,cv,.pointer (some ⟨bk,0,none⟩),.nilIface].toArray 199);have q6:=AO.cell 6 rfl;have q7:=AO.cell 7 rfl;have q9:=AO.cell 9 rfl;have a4:ZD (w4.alloc _) w4.heap.size _ _:=ZD.new w4 [.int .i64 (ip i),iv,cv,.pointer (some ⟨bk,0,none⟩),.nilIface] 199;have h4':ZZ (w4.alloc (.cells [.int .i64 (ip i),iv,cv,.pointer (some ⟨bk,0,none⟩),.nilIface].toArray 199)) B b0 _:=h4.fr (Tt:= []) (B':=B) Fr.au (by simp);go_wp2_with fail
 refine(V4 hx B b0 _ _ ve b2 o2 h4' ?_ uP hse ?_).mono ?_
 .simpa [Mk.add_add,Z3,ZL,Zm]using hm
 .exact uO.mono (YB.below (B:=B) (Fr.below (T:= [83,4,217]) Fr.au))
 rintro e w5 ⟨eb,es,rfl,heb,Hk,h5,f5⟩;have s5:=f5.size;simp at s5;have a5:=a4.fr f5 (by decide);have g4:=a5.cell 4 rfl;have gf:=a5.free 4;go_wp2_with fail
 go_ret;have k5:Fr [199] B w5 (w5.setCell ⟨w4.heap.size,4,none⟩ (.iface 86 (.pointer (some ⟨eb,0,none⟩)))):=(Fr.refl _ _ _).X9 _ _ a5.ty (by decide) (by show _<=w4.heap.size;omega);exact⟨_,iv,cv,bk,vs,_,rfl,⟨om,by decide,a5.set 4 _⟩,(hiv.mono (Hv.UJ (Tt:= [83,4,217]) (B:=B) (w':=w5) Fr.au (by decide) om _ _ om)),(hcv1.mono (Hv.UJ (Tt:= [83,4,217]) (B:=B) (w':=w5) Fr.au (by decide) om _ _ om)),(hbk.mono (Hv.UJ (Tt:= [83,4,217]) (B:=B) (w':=w5) Fr.au (by decide) om _ _ om)),by simpa [Mk.add,Z3]using(YD.mono (Hv.UJ (Tt:= [83,4,217]) (B:=B) (w':=w5) Fr.au (by decide) om _ _ om)),⟨eb,es,rfl,(heb.mono (Hv.XW om _ _ om)),by simpa [Mk.add,T.Yg,Z3]using(Hk.mono (Hv.XW om _ _ om))⟩,by simpa [Mk.add_add,Z3,ZL,Zm]using h5.fr k5 (by decide),Fr.XW (by repeat' (first|exact Fr.refl _ _ _|(refine Fr.back (by assumption) (by decide) (by omega) ?_) |(refine Fr.alloc ?_ (by first|omega|(simp;omega)) _) |(refine Fr.drew ?_))) (by omega) _ _ om⟩
theorem FZ {b x:T} (hb:Yf b) (hx:Yf x) (hone: ∀ {H:Hp} {n i:Nat} (es:List Value),x.Ast H 0 n i es-> ∃ ev,es= [ev]/\ ∃ tt pp,ev=.iface tt pp) (B b0:Nat) (M:Mk) (w:World) (i:Nat) (v1 v2 vb ve vc:Value) (ini cnd Ym:Bool) (bb o:Nat) (h:ZZ w B b0 M)
  (hm:(x.Yg false (b.Yg false (M.add (ini.toNat+1) 0 0 (List.replicate (ini.toNat+1) false)))).small 90000) (hok:b.ok) (hs:Zi vb bb o b.len) (hat:b.At (YB w B) true bb o) (b2 o2:Nat) (uP:x.ok) (hse:Zi ve b2 o2 x.len) (uO:x.At (YB w B) true b2 o2):
  Calls prog 127 #[b0,.agg #[.int .i64 10,v1,v2,ini,cnd,Ym,true,true,vb,ve,vc],.int .i64 (ip i)] w fun e w'=> ∃ a iv cv bk vs ev,e=.returned (.iface 197 (.pointer (some ⟨a,0,none⟩)))/\Hv w' w.heap.size a [.int .i64 (ip i),iv,cv,.pointer (some ⟨bk,0,none⟩),ev] 199/\YA (Hv w' w.heap.size) ini iv (lp M.leaves)/\
   YI (Hv w' w.heap.size) cv (lp (M.leaves+ini.toNat))/\YW (Hv w' w.heap.size) bk 0 0 vs/\b.Ast (Hv w' w.heap.size) 0 (M.leaves+(ini.toNat+1)) M.items vs/\(x.Ast (Hv w' w.heap.size) 0 (M.leaves+(ini.toNat+1)+b.lv false) (M.items+b.it) [ev])/\ZZ w' B b0 (x.Yg false (b.Yg false (M.add (ini.toNat+1) 0 0 (List.replicate (ini.toNat+1) false))))/\Fr [83,4,217] B w w':=by
 have hlt:=h.lt;have hm0:M.small 90000:=hm.add.add.add;have i1:=ZG ini;have i2:=ZG cnd;have i3:=ZG Ym;have hbx:=ZD.new w [.int .i64 10,v1,v2,ini,cnd,Ym,true,true,vb,ve,vc] 125;have m0:M.small 100000:=Ye hm0 (by omega);have hm1:=hm.add;have m1:(M.add ini.toNat 0 0 (List.replicate ini.toNat false)).small 100000:=Xf hm0 (by omega) (by omega) (by omega) (by simp;omega);have h0:ZZ (w.alloc (.cells [.int .i64 10,v1,v2,.bool ini,.bool cnd,.bool Ym,.bool true,.bool true,vb,ve,vc].toArray 125)).drew B b0 M:=h.fr (Tt:= []) (B':=B) Fr.au (by simp);have Ph:=hbx.drew;have tok1:True:=trivial;go_enter func127,ntmps127;go_wp2_with fail
 go_region_held3 (fun w'=>w'.cell? ⟨w.heap.size,3,none⟩=some (.bool ini)/\w'.cell? ⟨w.heap.size,8,none⟩=some (vb))
  (first|go_keep)
  (first
   |(go_at_call 132;refine(maybe_any B b0 _ _ _ h0 m0).mono ?_;rintro e w1 ⟨iv,rfl,hiv,h1,f1⟩;have s1:=f1.size;simp at s1;have bx:=Ph.fr f1 (by decide);have x3:=bx.cell 3 rfl;have x8:=bx.cell 8 rfl;obtain⟨Et,pE⟩:=hiv.one;unfold Value.cells at Et)
   |(go_at_call 133;refine(VY B b0 _ _ _ h1 m1).mono ?_;rintro e w2 ⟨cv,rfl,hcv,h2,f2⟩;have s2:=f2.size;have UL:=bx.fr f2 (by decide);have y3:=UL.cell 3 rfl;have y8:=UL.cell 8 rfl;obtain⟨Hn,pD⟩:=hcv.one;unfold Value.cells at Hn)
   |(go_at_call 134;refine(V4 hb B b0 _ _ vb bb o h2 ?_ hok hs ?_).mono ?_;(simpa [Mk.add_add,Z3,ZL,Zm]using hm1);(exact hat.mono (YB.below (B:=B) (Fr.below (T:= [83,4,217]) Fr.au)));rintro e w4 ⟨bk,vs,rfl,hbk,YD,h4,f4⟩;have s4:=f4.size;have Qc:=UL.fr f4 (by decide);have u3:=Qc.cell 3 rfl;have u8:=Qc.cell 8 rfl;))
 have hcv1:=hcv.yes;have AO:=Qc.alloc (.cells [.int .i64 (ip i),iv,cv,.pointer (some ⟨bk,0,none⟩),.nilIface].toArray 199);have q6:=AO.cell 6 rfl;have q7:=AO.cell 7 rfl;have q9:=AO.cell 9 rfl;have a4:ZD (w4.alloc _) w4.heap.size _ _:=ZD.new w4 [.int .i64 (ip i),iv,cv,.pointer (some ⟨bk,0,none⟩),.nilIface] 199;have h4':ZZ (w4.alloc (.cells [.int .i64 (ip i),iv,cv,.pointer (some ⟨bk,0,none⟩),.nilIface].toArray 199)) B b0 _:=h4.fr (Tt:= []) (B':=B) Fr.au (by simp);go_wp2_with fail
 refine(hx B b0 _ _ ve b2 o2 h4' ?_ uP hse ?_).mono ?_
 .simpa [Mk.add_add,Z3,ZL,Zm]using hm
 .exact uO.mono (YB.below (B:=B) (Fr.below (T:= [83,4,217]) Fr.au))
 rintro e w5 ⟨r,es,rfl,hr,Hk,h5,f5⟩;have s5:=f5.size;simp at s5;have a5:=a4.fr f5 (by decide);obtain⟨ev,rfl,tt,pp,rfl⟩:=hone es Hk;obtain⟨g,cap,rest,rfl,hg⟩: ∃ g cap rest,r=.slice (some ⟨g,0,none⟩) 1 cap/\ZD w5 g (.iface tt pp::rest) 96:=by
  rcases hr with⟨hr,_⟩ |⟨g,cap,rest,_,_,_,rfl,_,_,hr⟩
  .cases hr
  .exact⟨g,cap,rest,rfl,hr⟩
 have g0:=hg.cell 0 rfl;have g4:=a5.cell 4 rfl;have gf:=a5.free 4;go_wp2_with fail
 go_ret;have k5:Fr [199] B w5 (w5.setCell ⟨w4.heap.size,4,none⟩ (.iface tt pp)):=(Fr.refl _ _ _).X9 _ _ a5.ty (by decide) (by show _<=w4.heap.size;omega);exact⟨_,iv,cv,bk,vs,_,rfl,⟨om,by decide,a5.set 4 _⟩,(hiv.mono (Hv.UJ (Tt:= [83,4,217]) (B:=B) (w':=w5) Fr.au (by decide) om _ _ om)),(hcv1.mono (Hv.UJ (Tt:= [83,4,217]) (B:=B) (w':=w5) Fr.au (by decide) om _ _ om)),(hbk.mono (Hv.UJ (Tt:= [83,4,217]) (B:=B) (w':=w5) Fr.au (by decide) om _ _ om)),by simpa [Mk.add,Z3]using(YD.mono (Hv.UJ (Tt:= [83,4,217]) (B:=B) (w':=w5) Fr.au (by decide) om _ _ om)),by simpa [Mk.add,T.Yg,Z3]using(Hk.mono (Hv.XW om _ _ om)),by simpa [Mk.add_add,Z3,ZL,Zm]using h5.fr k5 (by decide),Fr.XW (by repeat' (first|exact Fr.refl _ _ _|(refine Fr.back (by assumption) (by decide) (by omega) ?_) |(refine Fr.alloc ?_ (by first|omega|(simp;omega)) _) |(refine Fr.drew ?_))) (by omega) _ _ om⟩
theorem Er {c:T} (hc:U9 true c) (B b0:Nat) (M:Mk) (w:World) (i:Nat) (v1 v2 vb ve vc:Value) (ini cnd Ym he UU:Bool) (bb o:Nat) (h:ZZ w B b0 M)
  (hm:(c.Yg true (M.add (ini.toNat+cnd.toNat) 0 0 (List.replicate (ini.toNat+cnd.toNat) false))).small 90000) (hok:c.ok) (hs:Zi vc bb o c.len) (hat:c.At (YB w B) false bb o):
  Calls prog 127 #[b0,.agg #[.int .i64 13,v1,v2,ini,cnd,Ym,he,UU,vb,ve,vc],.int .i64 (ip i)] w fun e w'=> ∃ a iv cv bk vs,e=.returned (.iface 201 (.pointer (some ⟨a,0,none⟩)))/\Hv w' w.heap.size a [.int .i64 (ip i),iv,cv,.pointer (some ⟨bk,0,none⟩)] 225/\YA (Hv w' w.heap.size) ini iv (lp M.leaves)/\
   Wv (Hv w' w.heap.size) cnd cv (lp (M.leaves+ini.toNat))/\YW (Hv w' w.heap.size) bk 0 0 vs/\c.Ast (Hv w' w.heap.size) 1 (M.leaves+(ini.toNat+cnd.toNat)) M.items vs/\ZZ w' B b0 (c.Yg true (M.add (ini.toNat+cnd.toNat) 0 0 (List.replicate (ini.toNat+cnd.toNat) false)))/\Fr [83,4,217] B w w':=by
 have hlt:=h.lt;have hm0:M.small 90000:=hm.add.add;have i1:=ZG ini;have i2:=ZG cnd;have i3:=ZG Ym;have hbx:=ZD.new w [.int .i64 13,v1,v2,ini,cnd,Ym,he,UU,vb,ve,vc] 125;have m0:M.small 100000:=Ye hm0 (by omega);have m1:(M.add ini.toNat 0 0 (List.replicate ini.toNat false)).small 100000:=Xf hm0 (by omega) (by omega) (by omega) (by simp;omega);have h0:ZZ (w.alloc (.cells [.int .i64 13,v1,v2,.bool ini,.bool cnd,.bool Ym,.bool he,.bool UU,vb,ve,vc].toArray 125)).drew B b0 M:=h.fr (Tt:= []) (B':=B) Fr.au (by simp);have Ph:=hbx.drew;have tok1:True:=trivial;go_enter func127,ntmps127;go_wp2_with fail
 go_region_held3 (fun w'=>w'.cell? ⟨w.heap.size,3,none⟩=some (.bool ini)/\w'.cell? ⟨w.heap.size,4,none⟩=some (.bool cnd)/\w'.cell? ⟨w.heap.size,10,none⟩=some (vc))
  (first|go_keep)
  (first
   |(go_at_call 132;refine(maybe_any B b0 _ _ _ h0 m0).mono ?_;rintro e w1 ⟨iv,rfl,hiv,h1,f1⟩;have s1:=f1.size;simp at s1;have bx:=Ph.fr f1 (by decide);have x3:=bx.cell 3 rfl;have x4:=bx.cell 4 rfl;have x10:=bx.cell 10 rfl;obtain⟨Et,pE⟩:=hiv.one;unfold Value.cells at Et)
   |(go_at_call 133;refine(VY B b0 _ _ _ h1 m1).mono ?_;rintro e w2 ⟨cv,rfl,hcv,h2,f2⟩;have s2:=f2.size;have UL:=bx.fr f2 (by decide);have y3:=UL.cell 3 rfl;have y4:=UL.cell 4 rfl;have LL:=UL.cell 10 rfl;obtain⟨Hn,pD⟩:=hcv.one;unfold Value.cells at Hn)
   |(go_at_call 135;refine(hc B b0 _ _ vc bb o h2 ?_ hok hs ?_).mono ?_;(simpa [Mk.add_add,Z3,ZL]using hm);(exact hat.mono (YB.below (B:=B) (Fr.below (T:= [83,4,217]) Fr.au)));rintro e w4 ⟨bk,vs,rfl,hbk,YD,h4,f4⟩;have s4:=f4.size;have Qc:=UL.fr f4 (by decide);have u3:=Qc.cell 3 rfl;have u4:=Qc.cell 4 rfl;have u10:=Qc.cell 10 rfl;))
 go_wp2_with fail
 go_ret;exact⟨_,iv,cv,bk,vs,rfl,⟨om,by decide,ZD.new' (by simp) _ _⟩,(hiv.mono (Hv.fr (Tt:= [83,4,217]) (B:=B) Fr.au (by decide) om)),(hcv.mono (Hv.fr (Tt:= [83,4,217]) (B:=B) Fr.au (by decide) om)),(hbk.mono (Hv.fr (Tt:= [83,4,217]) (B:=B) Fr.au (by decide) om)),by simpa [Mk.add,Z3]using(YD.mono (Hv.fr (Tt:= [83,4,217]) (B:=B) Fr.au (by decide) om)),by simpa [Mk.add_add,Z3,ZL]using h4.fr (Tt:= []) (B':=B) Fr.au (by simp),Fr.au⟩
theorem Ep {c:T} (hc:U9 false c) (B b0:Nat) (M:Mk) (w:World) (i:Nat) (v1 v2 vb ve vc:Value) (ini cnd Ym he UU:Bool) (bb o:Nat) (h:ZZ w B b0 M)
  (hm:(c.Yg false (M.add ini.toNat 0 0 (List.replicate ini.toNat false))).small 90000) (hok:c.ok) (hs:Zi vc bb o c.len) (hat:c.At (YB w B) false bb o):
  Calls prog 127 #[b0,.agg #[.int .i64 14,v1,v2,ini,cnd,Ym,he,UU,vb,ve,vc],.int .i64 (ip i)] w fun e w'=> ∃ a iv gv bk vs,e=.returned (.iface 203 (.pointer (some ⟨a,0,none⟩)))/\Hv w' w.heap.size a [.int .i64 (ip i),iv,gv,.pointer (some ⟨bk,0,none⟩)] 231/\YA (Hv w' w.heap.size) ini iv (lp M.leaves)/\
   XE (Hv w' w.heap.size) gv/\YW (Hv w' w.heap.size) bk 0 0 vs/\c.Ast (Hv w' w.heap.size) 2 (M.leaves+ini.toNat) M.items vs/\ZZ w' B b0 (c.Yg false (M.add ini.toNat 0 0 (List.replicate ini.toNat false)))/\Fr [83,4,217] B w w':=by
 have hlt:=h.lt;have hm0:M.small 90000:=hm.add.add;have i1:=ZG ini;have i2:=ZG cnd;have i3:=ZG Ym;have hbx:=ZD.new w [.int .i64 14,v1,v2,ini,cnd,Ym,he,UU,vb,ve,vc] 125;have m0:M.small 100000:=Ye hm0 (by omega);have tok1:True:=trivial;go_enter func127,ntmps127;go_wp2_with fail
 refine(name_any _ _).mono ?_;rintro e w0 ⟨na,rfl,hna,f0⟩;have s0:=f0.size;simp at s0;have bx0:=hbx.fr f0 (by decide);have h0:ZZ ((w0.alloc (Obj.cells #[.iface 188 (.pointer (some ⟨na,0,none⟩)),.int .i64 0,.nilIface,.int .i64 0] 273)).alloc (Obj.cells #[.iface 271 (.pointer (some ⟨w0.heap.size,0,none⟩))] 170)).drew B b0 M:=h.fr (Tt:= []) (B':=B) Fr.au (by simp);have fh:=((bx0.alloc (Obj.cells #[.iface 188 (.pointer (some ⟨na,0,none⟩)),.int .i64 0,.nilIface,.int .i64 0] 273)).alloc (Obj.cells #[.iface 271 (.pointer (some ⟨w0.heap.size,0,none⟩))] 170)).drew;have gb1:ZD ((w0.alloc (Obj.cells #[.iface 188 (.pointer (some ⟨na,0,none⟩)),.int .i64 0,.nilIface,.int .i64 0] 273)).alloc (Obj.cells #[.iface 271 (.pointer (some ⟨w0.heap.size,0,none⟩))] 170)).drew w0.heap.size _ _:=((ZD.new w0 [.iface 188 (.pointer (some ⟨na,0,none⟩)),.int .i64 0,.nilIface,.int .i64 0] 273).alloc _).drew;have gb2:ZD ((w0.alloc (Obj.cells #[.iface 188 (.pointer (some ⟨na,0,none⟩)),.int .i64 0,.nilIface,.int .i64 0] 273)).alloc (Obj.cells #[.iface 271 (.pointer (some ⟨w0.heap.size,0,none⟩))] 170)).drew (w0.heap.size+1) _ _:=(ZD.new' (by simp) [.iface 271 (.pointer (some ⟨w0.heap.size,0,none⟩))] 170).drew
 have hga:XE (Hv ((w0.alloc (Obj.cells #[.iface 188 (.pointer (some ⟨na,0,none⟩)),.int .i64 0,.nilIface,.int .i64 0] 273)).alloc (Obj.cells #[.iface 271 (.pointer (some ⟨w0.heap.size,0,none⟩))] 170)).drew w.heap.size) (.iface 165 (.pointer (some ⟨w0.heap.size+1,0,none⟩))):=
  ⟨_,_,rfl,⟨by omega,by decide,gb2⟩,.inl ⟨_,_,rfl,⟨by omega,by decide,gb1⟩,na,rfl,hna.mono (Hv.fr (Tt:= []) (B:=B) Fr.au (by decide) om)⟩⟩
 have e3:=fh.cell 3 rfl;have e10:=fh.cell 10 rfl;go_wp2_with fail
 go_region_held3 (fun w'=>w'.cell? ⟨w.heap.size,3,none⟩=some (.bool ini)/\w'.cell? ⟨w.heap.size,10,none⟩=some (vc))
  (first|go_keep)
  (first
   |(go_at_call 132;refine(maybe_any B b0 _ _ _ h0 m0).mono ?_;rintro e w1 ⟨iv,rfl,hiv,h1,f1⟩;have s1:=f1.size;simp at s1;have bx:=fh.fr f1 (by decide);have x3:=bx.cell 3 rfl;have x10:=bx.cell 10 rfl;obtain⟨Et,pE⟩:=hiv.one;unfold Value.cells at Et)
   |(go_at_call 135;refine(hc B b0 _ _ vc bb o h1 ?_ hok hs ?_).mono ?_;(simpa [Mk.add_add,Z3,ZL]using hm);(exact hat.mono (YB.below (B:=B) (Fr.below (T:= [83,4,217]) Fr.au)));rintro e w4 ⟨bk,vs,rfl,hbk,YD,h4,f4⟩;have s4:=f4.size;have Qc:=bx.fr f4 (by decide);have u3:=Qc.cell 3 rfl;have u10:=Qc.cell 10 rfl;))
 go_wp2_with fail
 go_ret;exact⟨_,iv,_,bk,vs,rfl,⟨om,by decide,ZD.new' (by simp) _ _⟩,(hiv.mono (Hv.fr (Tt:= [83,4,217]) (B:=B) Fr.au (by decide) om)),(hga.mono (Hv.fr (Tt:= [83,4,217]) (B:=B) Fr.au (by decide) om)),(hbk.mono (Hv.fr (Tt:= [83,4,217]) (B:=B) Fr.au (by decide) om)),by simpa [Mk.add,Z3]using(YD.mono (Hv.fr (Tt:= [83,4,217]) (B:=B) Fr.au (by decide) om)),by simpa [Mk.add_add,Z3,ZL]using h4.fr (Tt:= []) (B':=B) Fr.au (by simp),Fr.au⟩
theorem Eo {c:T} (hc:PL c) (B b0:Nat) (M:Mk) (w:World) (i:Nat) (v1 v2 vb ve vc:Value) (ini cnd Ym he UU:Bool) (bb o:Nat) (h:ZZ w B b0 M)
  (hm:(c.Yg false M).small 90000) (hok:c.ok) (hs:Zi vc bb o c.len) (hat:c.At (YB w B) false bb o):
  Calls prog 127 #[b0,.agg #[.int .i64 15,v1,v2,ini,cnd,Ym,he,UU,vb,ve,vc],.int .i64 (ip i)] w fun e w'=> ∃ a bk vs,e=.returned (.iface 205 (.pointer (some ⟨a,0,none⟩)))/\Hv w' w.heap.size a [.int .i64 (ip i),.pointer (some ⟨bk,0,none⟩)] 234/\YW (Hv w' w.heap.size) bk 0 0 vs/\c.Ast (Hv w' w.heap.size) 3 M.leaves M.items vs/\ZZ w' B b0 (c.Yg false M)/\Fr [83,4,217] B w w':=by
 have hlt:=h.lt;have hm0:M.small 90000:=hm.add;have i1:=ZG ini;have i2:=ZG cnd;have i3:=ZG Ym;have hbx:=ZD.new w [.int .i64 15,v1,v2,ini,cnd,Ym,he,UU,vb,ve,vc] 125;have m0:M.small 100000:=Ye hm0 (by omega);have h0:ZZ (w.alloc (.cells [.int .i64 15,v1,v2,.bool ini,.bool cnd,.bool Ym,.bool he,.bool UU,vb,ve,vc].toArray 125)) B b0 M:=h.fr (Tt:= []) (B':=B) Fr.au (by simp);have tok1:True:=trivial;go_enter func127,ntmps127;go_wp2_with fail
 refine(hc B b0 _ _ vc bb o h0 hm hok hs (hat.mono (YB.below (B:=B) (Fr.below (T:= []) Fr.au)))).mono ?_;rintro e w4 ⟨bk,vs,rfl,hbk,YD,h4,f4⟩;have s4:=f4.size;simp at s4;go_wp2_with fail
 go_ret;exact⟨_,bk,vs,rfl,⟨om,by decide,ZD.new' (by simp) _ _⟩,(hbk.mono (Hv.fr (Tt:= [83,4,217]) (B:=B) Fr.au (by decide) om)),(YD.mono (Hv.fr (Tt:= [83,4,217]) (B:=B) Fr.au (by decide) om)),h4.fr (Tt:= []) (B':=B) Fr.au (by simp),Fr.au⟩
theorem En {b:T} (hb:Yf b) (B b0:Nat) (M:Mk) (w:World) (i:Nat) (v1 v2 vb ve vc:Value) (ini cnd Ym he UU:Bool) (bb o:Nat) (h:ZZ w B b0 M)
  (hm:(b.Yg false M).small 90000) (hok:b.ok) (hs:Zi vb bb o b.len) (hat:b.At (YB w B) true bb o):
  Calls prog 127 #[b0,.agg #[.int .i64 16,v1,v2,ini,cnd,Ym,he,UU,vb,ve,vc],.int .i64 (ip i)] w fun e w'=> ∃ a vs,e=.returned (.iface 86 (.pointer (some ⟨a,0,none⟩)))/\YW (Hv w' w.heap.size) a (ip i) 0 vs/\b.Ast (Hv w' w.heap.size) 0 M.leaves M.items vs/\ZZ w' B b0 (b.Yg false M)/\Fr [83,4,217] B w w':=by
 have hlt:=h.lt;have hm0:M.small 90000:=hm.add;have i1:=ZG ini;have i2:=ZG cnd;have i3:=ZG Ym;have hbx:=ZD.new w [.int .i64 16,v1,v2,ini,cnd,Ym,he,UU,vb,ve,vc] 125;have m0:M.small 100000:=Ye hm0 (by omega);have h0:ZZ (w.alloc (.cells [.int .i64 16,v1,v2,.bool ini,.bool cnd,.bool Ym,.bool he,.bool UU,vb,ve,vc].toArray 125)) B b0 M:=h.fr (Tt:= []) (B':=B) Fr.au (by simp);have tok1:True:=trivial;go_enter func127,ntmps127;go_wp2_with fail
 refine(hb B b0 _ _ vb bb o h0 hm hok hs (hat.mono (YB.below (B:=B) (Fr.below (T:= []) Fr.au)))).mono ?_;rintro e w4 ⟨r,vs,rfl,hr,YD,h4,f4⟩;obtain⟨ra,rn,rc,rfl⟩:=hr.slice;have s4:=f4.size;simp at s4;go_wp2_with fail
 go_ret;exact⟨_,vs,rfl,⟨_,⟨om,by decide,ZD.new' (by simp) _ _⟩,(hr.mono (Hv.fr (Tt:= [83,4,217]) (B:=B) Fr.au (by decide) om))⟩,(YD.mono (Hv.fr (Tt:= [83,4,217]) (B:=B) Fr.au (by decide) om)),h4.fr (Tt:= []) (B':=B) Fr.au (by simp),Fr.au⟩
end Go.Proofs.YteedbaejpdjilaaGreat
