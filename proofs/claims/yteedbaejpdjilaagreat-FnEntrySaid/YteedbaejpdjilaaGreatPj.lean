/- Part of the proof: BldQ. -/
import Derived.Test.YteedbaejpdjilaaGreatPi
set_option linter.unusedSimpArgs false
set_option linter.unusedVariables false
set_option maxRecDepth 100000
set_option maxHeartbeats 40000000
namespace Go.Proofs.YteedbaejpdjilaaGreat
open Go.RowKit
attribute [local go_sem] tano158 tayes158 tano159 tayes159 tano160 tayes160 tano161 tayes161 tano162 tayes162 tano163 tayes163 tano164 tayes164 tano165 tayes165 tano171 tayes171 tano186 tayes186 tano101 tayes101 tano194 tayes194 tano86 tayes86 tano197 tayes197 tano201 tayes201 tano203 tayes203 tano205 tayes205 tano207 tayes207 tano209 tayes209 tano147 tayes147 tano184 tayes184 taget172 taget227 taget237
variable {w:World} {B b b0:Nat} {A L:List Nat} {S S':BS} {tg:List Tg} {M:Mk}
abbrev Fro:=Option (Nat × Nat × Nat × Nat)
def frM (f:Fro) (b:Nat) (u:Value):Array Value:=match f with
 |none=>fr0 b u
 |some (a,l,g,la)=>fr1 b a l g la u
def frl (f:Fro):Value:=match f with
 |none=>.pointer none
 |some (_,l,_,_)=>.pointer (some ⟨l,0,none⟩)
theorem BX.cur (h:BX w B b b0 A L S tg M) {c:Nat} {k:Bk} (hc:S.cur=some c) (hk:S.bks[c]? =some k):
  ∃ a nv sv p0 p1 bv mv tv,A[c]? =some a∧Blk w a [nv,.slice (some ⟨a,7,none⟩) k.succs.length 2,.int .i32 c,k.live,k.rets,.int .u8 k.kind,sv,p0,p1] 99∧Blk w b [bv,.func (.func 67) #[b0] #[],.pointer (some ⟨a,0,none⟩),mv,tv] 136:=by
 obtain⟨NV,h⟩:=h;obtain⟨a,nv,bv,mv,tv,ha,hnv,hbk,hb⟩:=h.curAt hc hk;obtain⟨a',sv,p0,p1,ns,g1,g2,_⟩:=hbk;rw[ha]at g1;cases g1;exact⟨a,nv,sv,p0,p1,bv,mv,tv,ha,g2,hb⟩
theorem BX.setRet (h:BX w B b b0 A L S tg M) (hs:S.retP=some S') {c a:Nat} (hc:S.cur=some c) (ha:A[c]? =some a):
  BX (w.setCell ⟨a,4,none⟩ (.bool true)) B b b0 A L S' tg M∧Fr bT B w (w.setCell ⟨a,4,none⟩ (.bool true)):=by
 obtain⟨NV,h⟩:=h;obtain⟨c',k,hc',hk,rfl⟩:=retP_some hs;rw[hc]at hc';cases hc';obtain⟨h1,f1⟩:=h.setRet hk ha;exact⟨⟨NV,h1⟩,f1⟩
theorem of_return {H:Hp} {a:Nat} {p:Int} {r:List Value} (h:H a (.int .i64 p::r) 142):StmtOf H (.iface 101 (.pointer (some ⟨a,0,none⟩))) (some p):=.inl ⟨a,101,142,r,rfl,by decide,h⟩
theorem of_callS {H:Hp} {v:Value} {p:Int} (h:CallS H v p):StmtOf H v (some p):=.inr (.inr (.inl h))
theorem addP_cur {n:Nod} (hs:S.addP n=some S'):S'.cur=S.cur:=by
 obtain⟨c,k,_,_,_,rfl⟩:=addP_some hs;rfl
theorem newAt_some {k:Int} {o:Option Int} (hs:S.newAt k o=some S'): ∃ S1,S.newP k o=some S1∧S'=S1.at S.bks.length:=by
 unfold BS.newAt at hs;rw[Option.map_eq_some_iff]at hs;obtain⟨S1,h1,rfl⟩:=hs;exact⟨S1,h1,rfl⟩
theorem askP_some {n:Nat} (hs:S.askP n=some S'):S.asked.length<=50000∧n<=100000∧S'=S.ask n:=by
 unfold BS.askP at hs;split at hs
 ·next h=>exact⟨h.1,h.2,by simpa using hs.symm⟩
 ·cases hs
theorem mayReturn_st (h:BX w B b b0 A L S tg M) {c n:Nat} (hc:CallAt (Hv w 0) c (lp n)) (hs:S.askP n=some S') {s:Bool} (hst:M.stops[n]? =some s) (hl:M.asked.length<=1000):
  Calls Tryz.prog 67 #[b0,c] w fun e w'=>e=.returned (.bool (!s))∧BX w' B b b0 A L S' tg M∧Fr bT B w w':=by
 obtain⟨NV,h⟩:=h;obtain⟨h1,h2,rfl⟩:=askP_some hs;refine(mayReturn_any h hc h2 hst (by simp;omega)).mono ?_;rintro e w' ⟨rfl,g1,g2⟩;exact⟨rfl,⟨NV,g1⟩,g2⟩
theorem core_assign {f:Fro} (h:BX w B b b0 A L S tg M) {u:Value} {p:Int} (hu:AssignS (Hv w 0) u p) (hs:S.addP ⟨p,false⟩=some S') (Q:Exit->Act->World->Prop) (hQ: ∀ a w',a.defers= []->Aft w w' B b b0 A L S' tg M->Q .normal a w'):Code.wp Tryz.prog restC Q ⟨frM f b u,[]⟩ w:=by
 have hu':=hu;obtain⟨a,l,x,r,rfl,_⟩:=hu;have HQ:=hidf hQ;clear hQ;rcases f with _|⟨q1,q2,q3,q4⟩
 all_goals
  simp only[frM];first|unfold fr0|unfold fr1
  conv=>arg 2;whnf
  go_wp2_with fail
  refine(add_st h hs (.inr ⟨rfl,.inr (.inr (.inl hu'))⟩)).mono ?_;rintro e w1 ⟨rfl,h1,f1⟩;go_wp2_with fail
  exact HQ.out _ _ rfl (Aft.of (pre_refl _) (pre_refl _) h1 f1)
theorem core_inc {f:Fro} (h:BX w B b b0 A L S tg M) {u:Value} {p:Int} (hu:IncS (Hv w 0) u p) (hs:S.addP ⟨p,false⟩=some S') (Q:Exit->Act->World->Prop) (hQ: ∀ a w',a.defers= []->Aft w w' B b b0 A L S' tg M->Q .normal a w'):Code.wp Tryz.prog restC Q ⟨frM f b u,[]⟩ w:=by
 have hu':=hu;obtain⟨a,x,rfl,_⟩:=hu;have HQ:=hidf hQ;clear hQ;rcases f with _|⟨q1,q2,q3,q4⟩
 all_goals
  simp only[frM];first|unfold fr0|unfold fr1
  conv=>arg 2;whnf
  go_wp2_with fail
  refine(add_st h hs (.inr ⟨rfl,.inr (.inr (.inr (.inl hu')))⟩)).mono ?_;rintro e w1 ⟨rfl,h1,f1⟩;go_wp2_with fail
  exact HQ.out _ _ rfl (Aft.of (pre_refl _) (pre_refl _) h1 f1)
theorem core_send {f:Fro} (h:BX w B b b0 A L S tg M) {u:Value} {p:Int} (hu:SendS (Hv w 0) u p) (hs:S.addP ⟨p,false⟩=some S') (Q:Exit->Act->World->Prop) (hQ: ∀ a w',a.defers= []->Aft w w' B b b0 A L S' tg M->Q .normal a w'):Code.wp Tryz.prog restC Q ⟨frM f b u,[]⟩ w:=by
 have hu':=hu;obtain⟨a,x,y,rfl,_⟩:=hu;have HQ:=hidf hQ;clear hQ;rcases f with _|⟨q1,q2,q3,q4⟩
 all_goals
  simp only[frM];first|unfold fr0|unfold fr1
  conv=>arg 2;whnf
  go_wp2_with fail
  refine(add_st h hs (.inr ⟨rfl,.inr (.inr (.inr (.inr (.inl hu'))))⟩)).mono ?_;rintro e w1 ⟨rfl,h1,f1⟩;go_wp2_with fail
  exact HQ.out _ _ rfl (Aft.of (pre_refl _) (pre_refl _) h1 f1)
theorem core_go {f:Fro} (h:BX w B b b0 A L S tg M) {u:Value} {p:Int} (hu:GoS (Hv w 0) u p) (hs:S.addP ⟨p,false⟩=some S') (Q:Exit->Act->World->Prop) (hQ: ∀ a w',a.defers= []->Aft w w' B b b0 A L S' tg M->Q .normal a w'):Code.wp Tryz.prog restC Q ⟨frM f b u,[]⟩ w:=by
 have hu':=hu;obtain⟨a,c,rfl,_⟩:=hu;have HQ:=hidf hQ;clear hQ;rcases f with _|⟨q1,q2,q3,q4⟩
 all_goals
  simp only[frM];first|unfold fr0|unfold fr1
  conv=>arg 2;whnf
  go_wp2_with fail
  refine(add_st h hs (.inr ⟨rfl,.inr (.inr (.inr (.inr (.inr (.inl hu')))))⟩)).mono ?_;rintro e w1 ⟨rfl,h1,f1⟩;go_wp2_with fail
  exact HQ.out _ _ rfl (Aft.of (pre_refl _) (pre_refl _) h1 f1)
theorem core_empty {f:Fro} (h:BX w B b b0 A L S tg M) {u:Value} (hu:EmptyS (Hv w 0) u) (hs:S.addP ⟨0,false⟩=some S') (Q:Exit->Act->World->Prop) (hQ: ∀ a w',a.defers= []->Aft w w' B b b0 A L S' tg M->Q .normal a w'):Code.wp Tryz.prog restC Q ⟨frM f b u,[]⟩ w:=by
 have hu':=hu;obtain⟨a,rfl,_⟩:=hu;have HQ:=hidf hQ;clear hQ;rcases f with _|⟨q1,q2,q3,q4⟩
 all_goals
  simp only[frM];first|unfold fr0|unfold fr1
  conv=>arg 2;whnf
  go_wp2_with fail
  refine(add_st h hs (.inr ⟨rfl,.inr (.inr (.inr (.inr (.inr (.inr (.inr (.inr (.inl ⟨hu',rfl⟩))))))))⟩)).mono ?_;rintro e w1 ⟨rfl,h1,f1⟩;go_wp2_with fail
  exact HQ.out _ _ rfl (Aft.of (pre_refl _) (pre_refl _) h1 f1)
theorem core_defer {f:Fro} (h:BX w B b b0 A L S tg M) {u:Value} {p:Int} (hu:DeferS (Hv w 0) u p) (hs:(S.addP ⟨p,false⟩).bind BS.retP=some S') (Q:Exit->Act->World->Prop) (hQ: ∀ a w',a.defers= []->Aft w w' B b b0 A L S' tg M->Q .normal a w'):Code.wp Tryz.prog restC Q ⟨frM f b u,[]⟩ w:=by
 have hu':=hu;obtain⟨a,c,rfl,_⟩:=hu;rw[Option.bind_eq_some_iff]at hs;obtain⟨S1,hs1,hs2⟩:=hs;have HQ:=hidf hQ;clear hQ;rcases f with _|⟨q1,q2,q3,q4⟩
 all_goals
  simp only[frM];first|unfold fr0|unfold fr1
  conv=>arg 2;whnf
  go_wp2_with fail
  refine(add_st h hs1 (.inr ⟨rfl,.inr (.inr (.inr (.inr (.inr (.inr (.inl hu'))))))⟩)).mono ?_;rintro e w1 ⟨rfl,h1,f1⟩;obtain⟨c,k,hc,hk,_⟩:=retP_some hs2;obtain⟨ca,nv,sv,p0,p1,bv,mv,tv,hca,hcb,hbb⟩:=h1.cur hc hk;obtain⟨h2,f2⟩:=h1.setRet hs2 hc hca;have d2:=hbb.cell 2 rfl;have e4:=hcb.cell 4 rfl;have z4:=hcb.free 4;have Hx:=hid3 hc hk hca;clear hc hk hca;go_wp2_with fail
  exact HQ.out _ _ rfl (Aft.of (pre_refl _) (pre_refl _) h2 (f1.trans f2))
theorem core_return {f:Fro} (h:BX w B b b0 A L S tg M) {u:Value} {p:Int} (hu:ReturnS (Hv w 0) u p) (hs:(S.retP.bind fun S=>(S.addP ⟨p,true⟩).bind fun S=>S.newAt 1 (some p))=some S') (Q:Exit->Act->World->Prop) (hQ: ∀ a w',a.defers= []->Aft w w' B b b0 A L S' tg M->Q .normal a w'):Code.wp Tryz.prog restC Q ⟨frM f b u,[]⟩ w:=by
 have hu':=hu;obtain⟨a,rfl,ha⟩:=hu;simp only[Option.bind_eq_some_iff]at hs;obtain⟨S1,hs1,S2,hs2,hs3⟩:=hs;obtain⟨S3,hs4,rfl⟩:=newAt_some hs3;obtain⟨c,k,hc,hk,_⟩:=retP_some hs1;obtain⟨ca,nv,sv,p0,p1,bv,mv,tv,hca,hcb,hbb⟩:=h.cur hc hk;obtain⟨h1,f1⟩:=h.setRet hs1 hc hca;have d2:=hbb.cell 2 rfl;have e4:=hcb.cell 4 rfl;have z4:=hcb.free 4;have Hx:=hid3 hc hk hca;clear hc hk hca;have HQ:=hidf hQ;clear hQ;rcases f with _|⟨q1,q2,q3,q4⟩
 all_goals
  simp only[frM];first|unfold fr0|unfold fr1
  conv=>arg 2;whnf
  go_wp2_with fail
  have hu1:ReturnS (Hv (w.setCell ⟨ca,4,none⟩ (.bool true)) 0) _ p:=hu'.mono (Hv.bT f1);refine(add_st h1 hs2 (.inl ⟨rfl,hu1⟩)).mono ?_;rintro e w2 ⟨rfl,h2,f2⟩;have ha2:=hv_fr (f1.trans f2) ha;go_wp2_with fail
  refine(new_st h2 hs4 (of_return ha2)).mono ?_;rintro e w3 ⟨a3,rfl,A3,hA3,hg3,h3,f3⟩;obtain⟨bvN,cvN,mvN,tvN,hbN,_,_⟩:=h3.blk;have cN:=hbN.cell 2 rfl;have zN:=hbN.free 2;have HN:=hid2 hA3 hg3;clear hA3 hg3;go_wp2_with fail
  obtain⟨h4,f4⟩:=h3.setCur HN.out.2;exact HQ.out _ _ rfl (Aft.of HN.out.1 (pre_refl _) h4 (f1.trans (f2.trans (f3.trans f4))))
theorem core_other {f:Fro} (h:BX w B b b0 A L S tg M) {u:Value} (hu:OtherS (Hv w 0) u) (hs:S.addP ⟨0,false⟩=some S') (Q:Exit->Act->World->Prop) (hQ: ∀ a w',a.defers= []->Aft w w' B b b0 A L S' tg M->Q .normal a w'):Code.wp Tryz.prog restC Q ⟨frM f b u,[]⟩ w:=by
 have hu':=hu;obtain⟨a,x,rfl,ha,hx⟩:=hu;obtain⟨tx,px,hxe,hx1⟩: ∃ tx px,x=.iface tx px∧tx≠147:=by
  rcases hx with⟨c,y,rfl,_⟩ |⟨c,y,rfl,_⟩<;>exact⟨_,_,rfl,by decide⟩
 subst hxe;have HQ:=hidf hQ;clear hQ;rcases f with _|⟨q1,q2,q3,q4⟩
 all_goals
  simp only[frM];first|unfold fr0|unfold fr1
  conv=>arg 2;whnf
  go_wp2_with fail
  refine(add_st h hs (.inr ⟨rfl,.inr (.inr (.inr (.inr (.inr (.inr (.inr (.inr (.inr (⟨hu',rfl⟩)))))))))⟩)).mono ?_;rintro e w1 ⟨rfl,h1,f1⟩;have ha1:=(hv_fr f1 ha).2.2.cell 0 rfl;have ht: ∀ w,(Instr.typeAssert (.iface tx px) 168 147 true).run Tryz.prog w=.ok (.tuple #[.pointer none,false]) w:=fun w=>tano147 168 tx px w hx1;go_wp2_with fail
  exact HQ.out _ _ rfl (Aft.of (pre_refl _) (pre_refl _) h1 f1)
theorem core_call {f:Fro} (h:BX w B b b0 A L S tg M) {u:Value} {n:Nat} (hu:CallS (Hv w 0) u (lp n)) (hst:M.stops[n]? =some false) (hl:M.asked.length<=1000) (hs:((S.addP ⟨lp n,false⟩).bind fun S=>S.askP n)=some S') (Q:Exit->Act->World->Prop) (hQ: ∀ a w',a.defers= []->Aft w w' B b b0 A L S' tg M->Q .normal a w'):Code.wp Tryz.prog restC Q ⟨frM f b u,[]⟩ w:=by
 have hu':=hu;obtain⟨a,c,rfl,ha,hc⟩:=hu;simp only[Option.bind_eq_some_iff]at hs;obtain⟨S1,hs1,hs2⟩:=hs;have Hst:=hidf hst;clear hst;have HQ:=hidf hQ;clear hQ;rcases f with _|⟨q1,q2,q3,q4⟩
 all_goals
  simp only[frM];first|unfold fr0|unfold fr1
  conv=>arg 2;whnf
  go_wp2_with fail
  refine(add_st h hs1 (.inr ⟨rfl,.inr (.inl hu')⟩)).mono ?_;rintro e w1 ⟨rfl,h1,f1⟩;have ha1:=(hv_fr f1 ha).2.2.cell 0 rfl;have hc1:=hc.mono (Hv.bT f1);obtain⟨bv,cv,mv,tv,hb,_,_⟩:=h1.blk;have d1:=hb.cell 1 rfl;go_wp2_with fail
  refine(mayReturn_st h1 hc1 hs2 Hst.out hl).mono ?_;rintro e w2 ⟨rfl,h2,f2⟩;go_wp2_with fail
  exact HQ.out _ _ rfl (Aft.of (pre_refl _) (pre_refl _) h2 (f1.trans f2))
theorem core_stop {f:Fro} (h:BX w B b b0 A L S tg M) {u:Value} {n:Nat} (hu:CallS (Hv w 0) u (lp n)) (hst:M.stops[n]? =some true) (hl:M.asked.length<=1000) (hs:((S.addP ⟨lp n,false⟩).bind fun S=>(S.askP n).bind fun S=>S.newAt 1 (some (lp n)))=some S') (Q:Exit->Act->World->Prop) (hQ: ∀ a w',a.defers= []->Aft w w' B b b0 A L S' tg M->Q .normal a w'):Code.wp Tryz.prog restC Q ⟨frM f b u,[]⟩ w:=by
 have hu':=hu;obtain⟨a,c,rfl,ha,hc⟩:=hu;simp only[Option.bind_eq_some_iff]at hs;obtain⟨S1,hs1,S2,hs2,hs3⟩:=hs;obtain⟨S3,hs4,rfl⟩:=newAt_some hs3;have Hst:=hidf hst;clear hst;have HQ:=hidf hQ;clear hQ;rcases f with _|⟨q1,q2,q3,q4⟩
 all_goals
  simp only[frM];first|unfold fr0|unfold fr1
  conv=>arg 2;whnf
  go_wp2_with fail
  refine(add_st h hs1 (.inr ⟨rfl,.inr (.inl hu')⟩)).mono ?_;rintro e w1 ⟨rfl,h1,f1⟩;have ha1:=(hv_fr f1 ha).2.2.cell 0 rfl;have hc1:=hc.mono (Hv.bT f1);obtain⟨bv,cv,mv,tv,hb,_,_⟩:=h1.blk;have d1:=hb.cell 1 rfl;go_wp2_with fail
  refine(mayReturn_st h1 hc1 hs2 Hst.out hl).mono ?_;rintro e w2 ⟨rfl,h2,f2⟩;have hu2:CallS (Hv w2 0) _ (lp n):=(hu'.mono (Hv.bT f1)).mono (Hv.bT f2);go_wp2_with fail
  refine(new_st h2 hs4 (of_callS hu2)).mono ?_;rintro e w3 ⟨a3,rfl,A3,hA3,hg3,h3,f3⟩;obtain⟨bvN,cvN,mvN,tvN,hbN,_,_⟩:=h3.blk;have cN:=hbN.cell 2 rfl;have zN:=hbN.free 2;have HN:=hid2 hA3 hg3;clear hA3 hg3;go_wp2_with fail
  obtain⟨h4,f4⟩:=h3.setCur HN.out.2;exact HQ.out _ _ rfl (Aft.of HN.out.1 (pre_refl _) h4 (f1.trans (f2.trans (f3.trans f4))))
end Go.Proofs.YteedbaejpdjilaaGreat
