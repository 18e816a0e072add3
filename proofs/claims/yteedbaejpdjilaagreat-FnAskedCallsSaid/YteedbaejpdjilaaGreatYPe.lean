/- Part of the proof: MakeH. -/
import Derived.Test.YteedbaejpdjilaaGreatYPd
import Derived.Deep.RegionLaw
set_option linter.all false
set_option maxRecDepth 100000
set_option maxHeartbeats 40000000
namespace Go.Proofs.YteedbaejpdjilaaGreat
open Go.RowKit Tryz
theorem XQ {P:Program} {ops:Array Oper} {o:Oper} {a:Act} {K:Act->World->Prop} {Q:Exit->Act->World->Prop} {E:Prop} (w wN:World) (hgd:o.guard=none) (s x:Operand) (t:TypeId)
  (ho:o.op=.call { callee:=.builtin .append,args:= #[s,x],argTypes:= #[t,t] }) (base:Nat) (e:TypeId) (z:Value) (size bytes:Nat) (ht:P.underlying t=some (.slice e))
  (hinfo:(P.info? e).map (fun i=>(i.zero,i.size,i.bytes))=some (some z,size,bytes)) (hzs:z.cells.size=size) (hsz:0 < size) (hby:bytes<=100000)
  {v:Value} {n:Nat} {xs:List Value} (hown:w.ownsRow base e size v n xs) (hs:a.eval s=v) (ys:List Value) (hyl:ys.length=size) (hy: ∀ u∈ys,u.oneCell'=true)
  (hx:a.eval x=.slice (some ⟨w.heap.size,0,none⟩) 1 1) (hn:n<=1000000) (hbase:base<=w.heap.size) (EG:wN=w.alloc (.cells ys.toArray e)\/wN=(w.alloc (.cells ys.toArray e)).drew)
  (h: ∀ g cap w',w'.ownsRow base e size (.slice (some ⟨g,0,none⟩) (n+1) cap) (n+1) (xs++ys)->w.grownBy w' v.ownBlock->(v.ownBlock=some g\/(v.ownBlock≠some g/\g=w.heap.size+1))->g < w'.heap.size->
   K (a.put o.dst (.slice (some ⟨g,0,none⟩) (n+1) cap)) w'):if Region.wanted o (yielded ops a.tmps)=true then Oper.wp P o a wN K Q else E:=by
 obtain⟨i0,hi,hz0,hz1,hz2⟩:=info_parts hinfo;have hnew:wN.heap[w.heap.size]? =some (.cells ys.toArray e (0,0)):=by
  rcases EG with rfl|rfl<;>exact heap_alloc_new w _
 have pj:wN.ownsRow base e size v n xs:=by
  rcases EG with rfl|rfl
  .exact hown.alloc _
  .exact(hown.alloc _).drew
 have hsN:wN.heap.size=w.heap.size+1:=by
  rcases EG with rfl|rfl<;>simp[World.drew]
 refine step_append_lies _ hgd s x t ho base e i0 z size bytes ht hi hz0 hz1 hz2 hzs hsz v n xs hs pj ⟨w.heap.size,0,none⟩ 1 1 ys hx (by omega)
  (World.news_of_block (cs:=ys.toArray) (t:=e) (fr:=(0,0)) hnew) hy (by omega) (by unfold maxLen;omega) ?_ (by omega) (w.heap.size+1) hsN ?_
 .have:(n+1)*bytes<=1000001*100000:=Nat.mul_le_mul (by omega) hby;omega
 .intro g cap w' h1 h2 h3 h4;refine h g cap w' h1 ⟨?_,?_,?_,by have:=h2.size;omega,fun k hk hne=>?_⟩ ?_ h4
  .rw[h2.os];rcases EG with rfl|rfl<;>rfl
  .rw[h2.tape];rcases EG with rfl|rfl<;>rfl
  .rw[h2.output];rcases EG with rfl|rfl<;>rfl
  .rw[h2.block k (by omega) hne];rcases EG with rfl|rfl
   .exact Below.heap_alloc _ _ _ hk
   .exact Below.heap_alloc _ _ _ hk
  .rcases h3 with h3|h3
   .exact .inl h3
   .by_cases h5:v.ownBlock=some g
    .exact .inl h5
    .exact .inr ⟨h5,h3⟩
theorem Yy {P:Program} {ops:Array Oper} {o:Oper} {a:Act} {w:World} {K:Act->World->Prop} {Q:Exit->Act->World->Prop} {E:Prop} (hgd:o.guard=none) (f:FuncId) (xs:List Operand) (ts:Array TypeId)
  (ho:o.op=.call { callee:=.value (.func f),args:=xs.toArray,argTypes:=ts }) (args:List Value) (hargs:xs.map a.eval=args)
  (hcall: ∀ args w,(callFunc f args).run P w=.ok (.enter f args) w)
  (h:Calls P f args.toArray w fun e w'=> ∃ v,e=.returned v/\K (a.put o.dst v) w'):
  if Region.wanted o (yielded ops a.tmps)=true then Oper.wp P o a w K Q else E:=by
 have hw:Region.wanted o (yielded ops a.tmps)=true:=by simp[Region.wanted,hgd]
 rw[if_pos hw];unfold Oper.wp execOp;subst hargs;simp[ho,resolve,invoke,Act.eval,Oper.upon,Deferred.ofValue,hcall];refine Calls.mono h ?_;rintro e w' ⟨v,rfl,hv⟩;exact hv
theorem Ee (args:Array Value) (w:World):(callFunc 133 args).run prog w=.ok (.enter 133 args) w:=by kernel_rfl
theorem Ed (args:Array Value) (w:World):(callFunc 125 args).run prog w=.ok (.enter 125 args) w:=by kernel_rfl
theorem Fr.xv {Tt:List Nat} {B:Nat} {a b:World} (h:Fr Tt B a.drew b):Fr Tt B a b:=(Fr.refl Tt B a).drew.trans h
theorem Hg:(prog.info? 168).map (fun i=>(i.zero,i.size,i.bytes))=some (some .nilIface,1,16):=by kernel_rfl
def Hi (w:World) (lo:Nat):Hp:=fun b cs t=>t=219/\lo<=b/\ZD w b cs t
def uI (sw:Bool) (x:Int) (bv:Value) (B b0:Nat) (M':Mk) (wr:World) (xb:Nat) (i:Value) (wi:World):Prop:= ∃ (j:Nat) (ev:Value) (es:List Value),
 i=.int .i64 j/\j<=x.toNat/\es.length=j/\ZD wi xb [.int .i64 (ip M'.items),ev,.int .i64 0,.slice none 0 0] 229/\wi.ownsRow (xb+1) 168 1 ev es.length es/\(es= []->ev=.slice none 0 0)/\
 ZD wi wr.heap.size [.int .i64 x,bv] 127/\ZZ wi B b0 (M'.add (if sw then j else 0) 1 0 (List.replicate (if sw then j else 0) false))/\Fr [83,4,217] B wr wi/\
 ∀ (q:Nat) v,es[q]? =some v->YI (Hi wi (xb+1)) v (if sw then lp (M'.leaves+q)else 0)
theorem Nj {sw:Bool} {x:Int} {bv:Value} {B b0:Nat} {M':Mk} {wr:World} {xb j:Nat} {ev:Value} {es:List Value} {wi w2:World} (hj:j < x.toNat) (hes:es.length=j)
  (hxb:ZD wi xb [.int .i64 (ip M'.items),ev,.int .i64 0,.slice none 0 0] 229) (hown:wi.ownsRow (xb+1) 168 1 ev es.length es) (hbx:ZD wi wr.heap.size [.int .i64 x,bv] 127) (hxr:wr.heap.size < xb) (hB:B<=wr.heap.size)
  (hF:Fr [83,4,217] B wr wi) (f2:Fr [83,4,217] B wi w2) (hM2:ZZ w2 B b0 (M'.add (if sw then j+1 else 0) 1 0 (List.replicate (if sw then j+1 else 0) false)))
  (hq: ∀ (q:Nat) v,es[q]? =some v->YI (Hi wi (xb+1)) v (if sw then lp (M'.leaves+q)else 0)) {v:Value} (hv:YI (Hv w2 wi.heap.size) v (if sw then lp (M'.leaves+j)else 0))
  {g cap:Nat} {w3:World} (hown3:w3.ownsRow (xb+1) 168 1 (.slice (some ⟨g,0,none⟩) (es.length+1) cap) (es.length+1) (es++ [v])) (hg:w2.grownBy w3 ev.ownBlock) (hat:ev.ownBlock=some g\/(ev.ownBlock≠some g/\g=w2.heap.size+1)):
  uI sw x bv B b0 M' wr xb (.int .i64 ((j:Int)+1)) (w3.setCell ⟨xb,1,none⟩ (.slice (some ⟨g,0,none⟩) (es.length+1) cap)):=by
 subst hes;have s1:=hF.size;have s2:=f2.size;have s0:=hxb.lt;have hown2:=ZE f2 hown (by decide);have Qb:=hxb.fr f2 (by decide);have Vu:=Qb.grown hg (own_ne hown2 Qb.ty (by decide));have f3:Fr [168] B w2 w3:=(Fr.refl [168] B w2).grown hown2 hg (by omega) (by omega) (.inl (by decide));have f4:Fr [229] B w3 (w3.setCell ⟨xb,1,none⟩ (.slice (some ⟨g,0,none⟩) (es.length+1) cap)):=(Fr.refl _ _ _).X9 _ _ Vu.ty (by decide) (by show B<=xb;omega);have f34:Fr [168,229] B w2 (w3.setCell ⟨xb,1,none⟩ (.slice (some ⟨g,0,none⟩) (es.length+1) cap)):=(f3.mono (by decide) (Z7 _)).trans (f4.mono (by decide) (Z7 _));have ph:Fr [83,4,217] B wr w3:=(hF.trans f2).grown hown2 hg (by omega) (by omega) (.inr (fun k hk=>by have:=(hown2.lt k hk).1;omega));have Bx:=ph.XW hB ⟨xb,1,none⟩ (.slice (some ⟨g,0,none⟩) (es.length+1) cap) (by show wr.heap.size<=xb;omega);have hgx:g≠xb:=by
  rcases hat with ha|⟨_,ha⟩
  .have:=(hown2.lt _ ha).1;omega
  .omega
 refine⟨es.length+1,.slice (some ⟨g,0,none⟩) (es.length+1) cap,es++ [v],by simp,by omega,by simp,Vu.set 1 _,?_,by simp,((hbx.fr f2 (by decide)).fr f34 (by decide)),hM2.fr f34 (by decide),Bx,?_⟩
 .have:=Y3 hown3 ⟨xb,1,none⟩ (.slice (some ⟨g,0,none⟩) (es.length+1) cap) (by simp[Value.ownBlock];omega);simpa using this
 .intro q u hu;by_cases hq1:q < es.length
  .rw[ZP hq1]at hu;exact(hq q u hu).mono (fun b cs t ⟨h1,h2,h3⟩=>⟨h1,h2,(h3.fr f2 (by subst h1;decide)).fr f34 (by subst h1;decide)⟩)
  .have hq2:q=es.length:=by
    have:=(Z1.1 hu).1;simp at this;omega
   subst hq2;simp at hu;subst hu;obtain⟨a,rfl,s,o,h1,h2,h3⟩:=hv;exact⟨a,rfl,s,o,rfl,by omega,h3.fr f34 (by decide)⟩
theorem JB (t:T) (hall:t.All Yf):U9 true t:=by
 intro B b0 M w v bb o hM0 hm hok hs hat;have hlt:=hM0.lt;obtain⟨av,cv,rfl⟩: ∃ a c,v=.slice a t.len c:=by
  rcases hs with⟨h0,a,c,rfl⟩ |⟨cap,_,_,_,rfl⟩
  .exact⟨a,c,by rw[h0]⟩
  .exact⟨_,_,rfl⟩
 have hlen:t.len<=35184372088832:=by
  rcases hs with⟨h0,_⟩ |⟨cap,_,_,hn,_⟩<;>omega
 have hav:Hid (0 < t.len->av=some ⟨bb,o,none⟩):=by
  intro hp;rcases hs with⟨h0,_⟩ |⟨cap,_,_,_,he⟩
  .omega
  .simp at he;exact he.1
 have htl:t.len<=90000:=by
  have g:=hm.2.1;have:=T.TK t;simp[T.Yg,Mk.add]at g;omega
 have Hm:=Z5 hm;clear hm hs;go_enter func135,ntmps135;go_wp2_with fail
 go_loopw [15] (fun i wr=>AL 1 true t B b0 M w bb o i wr) (fun i _=>t.len -(intOf i).toNat)
 case atStart=>
  exact⟨0,t,[],M,.slice none 0 0,rfl,hall,hok,by simpa using hat,by simp,rfl,ZD.new _ _ _,Zs _ _ _ _,fun _=>rfl,hM0.fr (Tt:= []) (B':=B) Fr.av (by simp),rfl,Fr.av,fun H' _ vs' hv=>by simpa using hv⟩
 case round=>
  obtain⟨k,rest,vs,M',lv,rfl,XC,hok',hat',hlen',hvs,hob,hown,hnil,hM',hmk,hF,Yx⟩:=hrel;have sr:=hF.size;have s0:=hob.lt;cases rest with
  |nil=>
   have hk: ¬ k < t.len:=by simp[T.len]at hlen';omega
   have hvk:vs.length<=90000:=by omega
   have Hx:=Wp hlen' hvs hmk Yx hnil;clear hlen' hvs hmk Yx hnil;go_wp2_with fail
   go_ret;obtain⟨hlen',hvs,hmk,Yx,hnil⟩:=Hx.out;have hm1: ∀ b cs t,Hv wr (w.heap.size+1) b cs t->Hv wr w.heap.size b cs t:=fun _ _ _ ⟨h1,h2,h3⟩=>⟨by omega,h2,h3⟩
   exact⟨_,vs,rfl,⟨lv,⟨Z7 _,by decide,hob⟩,(TL hown (by decide) (by omega) hnil).mono hm1⟩,by simpa using Yx (Hv wr w.heap.size) (fun _ _ _ _ _ h=>h) [] rfl,by rw[<-hmk];simpa [T.Yg,T.lv,T.it,T.ZT,T.stops,Mk.add_zero]using hM',hF⟩
  |st hd b' e' c' tl'=>exact absurd hat'.1 (by simp)
  |cl x b' tl'=>
   have hk:k < t.len:=by simp[T.len]at hlen';omega
   obtain rfl:=hav.out (by omega);obtain⟨_,vb,b1,o1,hc0,hc1,s1,a1,a4⟩:=hat';obtain⟨⟨va,vn,vm,rfl⟩,_⟩:=Za s1;have d0:wr.cell? ⟨bb,o+k*2,none⟩=some (.int .i64 x):=(hF.below.cell (p:=⟨bb,o+k*2,none⟩) hc0.1).trans hc0.2;have d1:wr.cell? ⟨bb,o+k*2+1,none⟩=some (.slice va vn vm):=(hF.below.cell (p:=⟨bb,o+k*2+1,none⟩) hc1.1).trans hc1.2;obtain⟨q1,q4⟩:=XC;obtain⟨p0,p00,p1,p4⟩:=hok';have Hx:=Wp hlen' hvs hmk Yx hnil;have hvn:vs.length<=90000:=by omega
   clear hlen' hvs hmk Yx hnil;have hsm:(M'.add ((if true then x.toNat else 0)+b'.lv false+tl'.lv true) (1+b'.it+tl'.it) (b'.ZT+tl'.ZT) (List.replicate (if true then x.toNat else 0) false++b'.stops false++tl'.stops true)).small 90000:=by
    have g:=Hm.out;rw[<-Hx.out.2.2.1]at g;exact g
   have hbx:=ZD.new wr [.int .i64 x,.slice va vn vm] 127;have hM1:ZZ (wr.alloc (.cells [.int .i64 x,.slice va vn vm].toArray 127)) B b0 M':=hM'.fr (Tt:= []) (B':=B) Fr.av (by simp);go_wp2_with fail
   refine(YP B b0 M' _ hM1 (Ye hsm.add (by omega))).mono ?_;rintro e w1 ⟨rfl,hM2,f1⟩;have s1':=f1.size;simp at s1';have bx1:=hbx.fr f1 (by decide);have UL:=bx1.alloc (.cells [.int .i64 (ip M'.items),.slice none 0 0,.int .i64 0,.slice none 0 0].toArray 229);have xb:ZD (w1.alloc _) w1.heap.size _ _:=ZD.new w1 [.int .i64 (ip M'.items),.slice none 0 0,.int .i64 0,.slice none 0 0] 229;have e0:=UL.cell 0 rfl;have eQ:Fr [83,4,217] B wr (w1.alloc (.cells [.int .i64 (ip M'.items),.slice none 0 0,.int .i64 0,.slice none 0 0].toArray 229)):=Fr.av;have uH:ZZ (w1.alloc (.cells [.int .i64 (ip M'.items),.slice none 0 0,.int .i64 0,.slice none 0 0].toArray 229)) B b0 (M'.add 0 1 0 []):=hM2.fr (Tt:= []) (B':=B) Fr.av (by simp);obtain⟨wo,hwo⟩: ∃ wo:World,wo=wr:=⟨_,rfl⟩
   subst hwo;go_wp2_with fail
   go_loopw [25] (fun i wi=>uI true x (.slice va vn vm) B b0 M' wo w1.heap.size i wi) (fun i _=>x.toNat -(intOf i).toNat)
   case atStart=>
    exact⟨0,.slice none 0 0,[],rfl,Nat.zero_le _,rfl,xb,Zs _ _ _ _,fun _=>rfl,UL,by simpa using uH,eQ,fun q v hq=>by simp at hq⟩
   case round=>
    obtain⟨j,ev,es,rfl,eP,hes,hxb,hown2,hen,JA,pg,AK,hq⟩:=hrel;have si:=AK.size;have sx:=hxb.lt;have x1:=hxb.cell 1 rfl;have y0:=JA.cell 0 rfl;have y1:=JA.cell 1 rfl;have hx0:(0:Int)<=x:=p0;by_cases hj:j < x.toNat
    .have hji:(j:Int) < x:=by omega
     have eO:ZZ wr.drew B b0 _:=pg.fr (Tt:= []) (B':=B) Fr.av (by simp);have Hj:=X7 hes hen hq;clear hes hen hq;have hje:es.length<=90000:=by
      have g:=Hj.out.1;omega
     have hjb:j<=300:=by omega
     have eM:(M'.add (if true=true then j else 0) 1 0 (List.replicate (if true=true then j else 0) false)).small 100000:=Ye (WM hsm (by simp;omega) (by omega) (by omega) (by simp;omega)) (by omega);go_wp2_with fail
     go_region_law (first
      |(refine Yy rfl 133 _ _ (by rfl) [b0,true] (by rfl) Ee ((VY B b0 _ true _ eO eM).mono ?_);rintro e w2 ⟨v,rfl,hv,pn,f2⟩;obtain⟨na,rfl,hna⟩:=hv.yes;refine⟨_,rfl,?_⟩;have s2:wr.heap.size<=w2.heap.size:=f2.size;have Qb:=hxb.drew.fr f2 (by decide);have z1:=Qb.cell 1 rfl;have hown3:=ZE f2 hown2.drew (by decide);have eL:=(Qb.alloc (.cells [.iface 188 (.pointer (some ⟨na,0,none⟩))].toArray 168)).cell 1 rfl)
      |(refine XQ w2 _ rfl _ _ 140 rfl (w1.heap.size+1) 168 .nilIface 1 16 underlying140 Hg rfl (by decide) (by decide) hown3 (by rfl) [.iface 188 (.pointer (some ⟨na,0,none⟩))] rfl (by simp[Value.oneCell']) (by rfl) (by omega) (by omega) (by first|exact .inl rfl|exact .inr rfl) ?_;intro g cap w3 hown4 hg LD hg4;have Vu:=Qb.grown hg (own_ne hown3 Qb.ty (by decide));have c1:=Vu.cell 1 rfl;have cf:=Vu.free 1))
     all_goals
      have hR:=Nj (sw:=true) hj Hj.out.1 hxb hown2 JA (by omega) (by omega) AK (w2:=w2) (f2.xv.mono (by decide) (Z7 _)) (by simpa [Mk.add_add,Zm]using pn) Hj.out.2.2 (v:=.iface 188 (.pointer (some ⟨na,0,none⟩))) (show YI (Hv w2 wr.heap.size) _ (if true=true then lp (M'.leaves+j)else 0)from⟨na,rfl,by simpa [Mk.add]using hna⟩) hown4 hg LD;go_wp2_with fail
      exact⟨hR,by simp[intOf];omega⟩
    .have hji: ¬ (j:Int) < x:=by omega
     have uG:j=x.toNat:=by omega
     subst uG;have uM:Fr [83,4,217] B w wr:=hF.trans AK;have Hj:=X7 hes hen hq;clear hes hen hq;go_wp2_with fail
     refine(q1 B b0 _ _ _ b1 o1 pg ?_ p1 s1 (Yw uM a1)).mono ?_
     .rw[T.Yg,Mk.add_add];exact WM hsm (by simp) (by omega) (by omega) om
     rintro e w4 ⟨r,bs,rfl,hr,YD,uL,f4⟩;obtain⟨ra,rn,rc,rfl⟩:=hr.slice;have eT:=f4.size;have MQ:=hxb.fr f4 (by decide);have uK:=MQ.set 3 (.slice ra rn rc);have v3:=MQ.cell 3 rfl;have vf:=MQ.free 3;have JC:Fr [83,4,217] B wo (w4.setCell ⟨w1.heap.size,3,none⟩ (.slice ra rn rc)):=(AK.trans f4).XW (by omega) _ _ (by show wo.heap.size<=w1.heap.size;omega);have f45:Fr [229] B w4 (w4.setCell ⟨w1.heap.size,3,none⟩ (.slice ra rn rc)):=(Fr.refl _ _ _).X9 _ _ MQ.ty (by decide) (by show B<=w1.heap.size;omega);have eR:=f45.size;have Eg:=hob.fr JC (by decide);have uJ:=Eg.cell 1 rfl;have Pe:=ZE JC hown (by decide);have Ei:=uL.fr f45 (by decide);have Pd: ∀ b cs t,Hv w4 wr.heap.size b cs t->Hv (w4.setCell ⟨w1.heap.size,3,none⟩ (.slice ra rn rc)) wo.heap.size b cs t:=Hv.XW (by omega) _ _ (by show w1.heap.size < wr.heap.size;omega);have Jz:(w4.setCell ⟨w1.heap.size,3,none⟩ (.slice ra rn rc)).ownsRow (w1.heap.size+1) 168 1 ev es.length es:=ZE f45 (ZE f4 hown2 (by decide)) (by decide)
     have hex:Wb (Hv (w4.setCell ⟨w1.heap.size,3,none⟩ (.slice ra rn rc)) wo.heap.size) ev x.toNat (fun j=>if true=true then lp (M'.leaves+j)else 0):=
      ⟨es,(TL Jz (by decide) (by have:=Hj.out.1;omega) Hj.out.2.1).mono (fun _ _ _ ⟨h1,h2,h3⟩=>⟨by omega,h2,h3⟩),Hj.out.1,fun q u hu=>(Hj.out.2.2 q u hu).mono (fun b cs t ⟨h1,h2,h3⟩=>⟨by omega,by subst h1;decide,(h3.fr f4 (by subst h1;decide)).fr f45 (by subst h1;decide)⟩)⟩
     have hcl:XD (Hv (w4.setCell ⟨w1.heap.size,3,none⟩ (.slice ra rn rc)) wo.heap.size) 1 x M'.leaves M'.items (b'.Ast (Hv (w4.setCell ⟨w1.heap.size,3,none⟩ (.slice ra rn rc)) wo.heap.size) 0 (M'.leaves+(if 1=1 then x.toNat else 0)) (M'.items+1)) (.iface 227 (.pointer (some ⟨w1.heap.size,0,none⟩))):=
      .inl ⟨rfl,w1.heap.size,ev,.slice ra rn rc,bs,rfl,⟨by omega,by decide,uK⟩,hex,hr.mono Pd,YD.mono Pd⟩
     have UI:(w4.setCell ⟨w1.heap.size,3,none⟩ (.slice ra rn rc)).heap.size=w4.heap.size:=by simp[World.setCell]
     have ii:=Nat.le_of_eq UI;clear UI;go_wp2_with (at_builtin;refine Ze (w4.setCell _ _) rfl _ _ 143 rfl (w.heap.size+1) 96 .nilIface 1 16 underlying143 QU rfl (by decide) (by decide) Pe (by rfl) [.iface 227 (.pointer (some ⟨w1.heap.size,0,none⟩))] rfl ?c1 (by simp[World.setCell];rfl) (by omega) (by omega) ?_)
     case c1=>simp[Value.oneCell']
     intro g cap w6 hown6 hg VW UT;have Ef:=Eg.grown hg (by
      intro e';have:=(Pe.lt _ e'.symm).1;omega)
     have t1:=Ef.cell 1 rfl;have tf:=Ef.free 1;have hR:=TJ (m:=1) (sw:=true) (by simp) Hx.out q4 p4 a4 hF JC (by omega) hob hown hcl (by simpa [T.Yg,Mk.add_add]using Ei) hown6 hg (by simpa [World.setCell]using VW);clear uJ v3 vf;go_wp2_with fail
     exact⟨hR,by simp[intOf];omega⟩
theorem LB (t:T) (hall:t.All Yf):U9 false t:=by
 intro B b0 M w v bb o hM0 hm hok hs hat;have hlt:=hM0.lt;obtain⟨av,cv,rfl⟩: ∃ a c,v=.slice a t.len c:=by
  rcases hs with⟨h0,a,c,rfl⟩ |⟨cap,_,_,_,rfl⟩
  .exact⟨a,c,by rw[h0]⟩
  .exact⟨_,_,rfl⟩
 have hlen:t.len<=35184372088832:=by
  rcases hs with⟨h0,_⟩ |⟨cap,_,_,hn,_⟩<;>omega
 have hav:Hid (0 < t.len->av=some ⟨bb,o,none⟩):=by
  intro hp;rcases hs with⟨h0,_⟩ |⟨cap,_,_,_,he⟩
  .omega
  .simp at he;exact he.1
 have htl:t.len<=90000:=by
  have g:=hm.2.1;have:=T.TK t;simp[T.Yg,Mk.add]at g;omega
 have Hm:=Z5 hm;clear hm hs;go_enter func135,ntmps135;go_wp2_with fail
 go_loopw [15] (fun i wr=>AL 2 false t B b0 M w bb o i wr) (fun i _=>t.len -(intOf i).toNat)
 case atStart=>
  exact⟨0,t,[],M,.slice none 0 0,rfl,hall,hok,by simpa using hat,by simp,rfl,ZD.new _ _ _,Zs _ _ _ _,fun _=>rfl,hM0.fr (Tt:= []) (B':=B) Fr.av (by simp),rfl,Fr.av,fun H' _ vs' hv=>by simpa using hv⟩
 case round=>
  obtain⟨k,rest,vs,M',lv,rfl,XC,hok',hat',hlen',hvs,hob,hown,hnil,hM',hmk,hF,Yx⟩:=hrel;have sr:=hF.size;have s0:=hob.lt;cases rest with
  |nil=>
   have hk: ¬ k < t.len:=by simp[T.len]at hlen';omega
   have hvk:vs.length<=90000:=by omega
   have Hx:=Wp hlen' hvs hmk Yx hnil;clear hlen' hvs hmk Yx hnil;go_wp2_with fail
   go_ret;obtain⟨hlen',hvs,hmk,Yx,hnil⟩:=Hx.out;have hm1: ∀ b cs t,Hv wr (w.heap.size+1) b cs t->Hv wr w.heap.size b cs t:=fun _ _ _ ⟨h1,h2,h3⟩=>⟨by omega,h2,h3⟩
   exact⟨_,vs,rfl,⟨lv,⟨Z7 _,by decide,hob⟩,(TL hown (by decide) (by omega) hnil).mono hm1⟩,by simpa using Yx (Hv wr w.heap.size) (fun _ _ _ _ _ h=>h) [] rfl,by rw[<-hmk];simpa [T.Yg,T.lv,T.it,T.ZT,T.stops,Mk.add_zero]using hM',hF⟩
  |st hd b' e' c' tl'=>exact absurd hat'.1 (by simp)
  |cl x b' tl'=>
   have hk:k < t.len:=by simp[T.len]at hlen';omega
   obtain rfl:=hav.out (by omega);obtain⟨_,vb,b1,o1,hc0,hc1,s1,a1,a4⟩:=hat';obtain⟨⟨va,vn,vm,rfl⟩,_⟩:=Za s1;have d0:wr.cell? ⟨bb,o+k*2,none⟩=some (.int .i64 x):=(hF.below.cell (p:=⟨bb,o+k*2,none⟩) hc0.1).trans hc0.2;have d1:wr.cell? ⟨bb,o+k*2+1,none⟩=some (.slice va vn vm):=(hF.below.cell (p:=⟨bb,o+k*2+1,none⟩) hc1.1).trans hc1.2;obtain⟨q1,q4⟩:=XC;obtain⟨p0,p00,p1,p4⟩:=hok';have Hx:=Wp hlen' hvs hmk Yx hnil;have hvn:vs.length<=90000:=by omega
   clear hlen' hvs hmk Yx hnil;have hsm:(M'.add ((if false then x.toNat else 0)+b'.lv false+tl'.lv false) (1+b'.it+tl'.it) (b'.ZT+tl'.ZT) (List.replicate (if false then x.toNat else 0) false++b'.stops false++tl'.stops false)).small 90000:=by
    have g:=Hm.out;rw[<-Hx.out.2.2.1]at g;exact g
   have hbx:=ZD.new wr [.int .i64 x,.slice va vn vm] 127;have hM1:ZZ (wr.alloc (.cells [.int .i64 x,.slice va vn vm].toArray 127)) B b0 M':=hM'.fr (Tt:= []) (B':=B) Fr.av (by simp);go_wp2_with fail
   refine(YP B b0 M' _ hM1 (Ye hsm.add (by omega))).mono ?_;rintro e w1 ⟨rfl,hM2,f1⟩;have s1':=f1.size;simp at s1';have bx1:=hbx.fr f1 (by decide);have UL:=bx1.alloc (.cells [.int .i64 (ip M'.items),.slice none 0 0,.int .i64 0,.slice none 0 0].toArray 229);have xb:ZD (w1.alloc _) w1.heap.size _ _:=ZD.new w1 [.int .i64 (ip M'.items),.slice none 0 0,.int .i64 0,.slice none 0 0] 229;have e0:=UL.cell 0 rfl;have eQ:Fr [83,4,217] B wr (w1.alloc (.cells [.int .i64 (ip M'.items),.slice none 0 0,.int .i64 0,.slice none 0 0].toArray 229)):=Fr.av;have uH:ZZ (w1.alloc (.cells [.int .i64 (ip M'.items),.slice none 0 0,.int .i64 0,.slice none 0 0].toArray 229)) B b0 (M'.add 0 1 0 []):=hM2.fr (Tt:= []) (B':=B) Fr.av (by simp);obtain⟨wo,hwo⟩: ∃ wo:World,wo=wr:=⟨_,rfl⟩
   subst hwo;go_wp2_with fail
   go_loopw [25] (fun i wi=>uI false x (.slice va vn vm) B b0 M' wo w1.heap.size i wi) (fun i _=>x.toNat -(intOf i).toNat)
   case atStart=>
    exact⟨0,.slice none 0 0,[],rfl,Nat.zero_le _,rfl,xb,Zs _ _ _ _,fun _=>rfl,UL,by simpa using uH,eQ,fun q v hq=>by simp at hq⟩
   case round=>
    obtain⟨j,ev,es,rfl,eP,hes,hxb,hown2,hen,JA,pg,AK,hq⟩:=hrel;have si:=AK.size;have sx:=hxb.lt;have x1:=hxb.cell 1 rfl;have y0:=JA.cell 0 rfl;have y1:=JA.cell 1 rfl;have hx0:(0:Int)<=x:=p0;by_cases hj:j < x.toNat
    .have hji:(j:Int) < x:=by omega
     have eO:ZZ wr.drew B b0 _:=pg.fr (Tt:= []) (B':=B) Fr.av (by simp);have Hj:=X7 hes hen hq;clear hes hen hq;have hje:es.length<=90000:=by
      have g:=Hj.out.1;omega
     have hjb:j<=300:=by omega
     go_wp2_with fail
     go_region_law (first
      |(refine Yy rfl 125 _ _ (by rfl) [.int .i64 0] (by rfl) Ed ((name_any _ _).mono ?_);rintro e w2 ⟨na,rfl,hna,f2⟩;refine⟨_,rfl,?_⟩;have pn:=eO.fr f2 (by simp);have s2:wr.heap.size<=w2.heap.size:=f2.size;have Qb:=hxb.drew.fr f2 (by decide);have z1:=Qb.cell 1 rfl;have hown3:=ZE f2 hown2.drew (by decide);have eL:=(Qb.alloc (.cells [.iface 188 (.pointer (some ⟨na,0,none⟩))].toArray 168)).cell 1 rfl)
      |(refine XQ w2 _ rfl _ _ 140 rfl (w1.heap.size+1) 168 .nilIface 1 16 underlying140 Hg rfl (by decide) (by decide) hown3 (by rfl) [.iface 188 (.pointer (some ⟨na,0,none⟩))] rfl (by simp[Value.oneCell']) (by rfl) (by omega) (by omega) (by first|exact .inl rfl|exact .inr rfl) ?_;intro g cap w3 hown4 hg LD hg4;have Vu:=Qb.grown hg (own_ne hown3 Qb.ty (by decide));have c1:=Vu.cell 1 rfl;have cf:=Vu.free 1))
     all_goals
      have hR:=Nj (sw:=false) hj Hj.out.1 hxb hown2 JA (by omega) (by omega) AK (w2:=w2) (Fr.xv (f2.mono (by simp) (by show B<=wr.heap.size;omega))) (by simpa using pn) Hj.out.2.2 (v:=.iface 188 (.pointer (some ⟨na,0,none⟩))) (show YI (Hv w2 wr.heap.size) _ (if false=true then lp (M'.leaves+j)else 0)from⟨na,rfl,by simpa using hna⟩) hown4 hg LD;go_wp2_with fail
      exact⟨hR,by simp[intOf];omega⟩
    .have hji: ¬ (j:Int) < x:=by omega
     have uG:j=x.toNat:=by omega
     subst uG;have uM:Fr [83,4,217] B w wr:=hF.trans AK;have Hj:=X7 hes hen hq;clear hes hen hq;go_wp2_with fail
     refine(q1 B b0 _ _ _ b1 o1 pg ?_ p1 s1 (Yw uM a1)).mono ?_
     .rw[T.Yg,Mk.add_add];exact WM hsm (by simp) (by omega) (by omega) om
     rintro e w4 ⟨r,bs,rfl,hr,YD,uL,f4⟩;obtain⟨ra,rn,rc,rfl⟩:=hr.slice;have eT:=f4.size;have MQ:=hxb.fr f4 (by decide);have uK:=MQ.set 3 (.slice ra rn rc);have v3:=MQ.cell 3 rfl;have vf:=MQ.free 3;have JC:Fr [83,4,217] B wo (w4.setCell ⟨w1.heap.size,3,none⟩ (.slice ra rn rc)):=(AK.trans f4).XW (by omega) _ _ (by show wo.heap.size<=w1.heap.size;omega);have f45:Fr [229] B w4 (w4.setCell ⟨w1.heap.size,3,none⟩ (.slice ra rn rc)):=(Fr.refl _ _ _).X9 _ _ MQ.ty (by decide) (by show B<=w1.heap.size;omega);have eR:=f45.size;have Eg:=hob.fr JC (by decide);have uJ:=Eg.cell 1 rfl;have Pe:=ZE JC hown (by decide);have Ei:=uL.fr f45 (by decide);have Pd: ∀ b cs t,Hv w4 wr.heap.size b cs t->Hv (w4.setCell ⟨w1.heap.size,3,none⟩ (.slice ra rn rc)) wo.heap.size b cs t:=Hv.XW (by omega) _ _ (by show w1.heap.size < wr.heap.size;omega);have Jz:(w4.setCell ⟨w1.heap.size,3,none⟩ (.slice ra rn rc)).ownsRow (w1.heap.size+1) 168 1 ev es.length es:=ZE f45 (ZE f4 hown2 (by decide)) (by decide)
     have hex:Wb (Hv (w4.setCell ⟨w1.heap.size,3,none⟩ (.slice ra rn rc)) wo.heap.size) ev x.toNat (fun j=>if false=true then lp (M'.leaves+j)else 0):=
      ⟨es,(TL Jz (by decide) (by have:=Hj.out.1;omega) Hj.out.2.1).mono (fun _ _ _ ⟨h1,h2,h3⟩=>⟨by omega,h2,h3⟩),Hj.out.1,fun q u hu=>(Hj.out.2.2 q u hu).mono (fun b cs t ⟨h1,h2,h3⟩=>⟨by omega,by subst h1;decide,(h3.fr f4 (by subst h1;decide)).fr f45 (by subst h1;decide)⟩)⟩
     have hcl:XD (Hv (w4.setCell ⟨w1.heap.size,3,none⟩ (.slice ra rn rc)) wo.heap.size) 2 x M'.leaves M'.items (b'.Ast (Hv (w4.setCell ⟨w1.heap.size,3,none⟩ (.slice ra rn rc)) wo.heap.size) 0 (M'.leaves+(if 2=1 then x.toNat else 0)) (M'.items+1)) (.iface 227 (.pointer (some ⟨w1.heap.size,0,none⟩))):=
      .inr (.inl ⟨rfl,w1.heap.size,ev,.slice ra rn rc,bs,rfl,⟨by omega,by decide,uK⟩,hex,hr.mono Pd,YD.mono Pd⟩)
     have UI:(w4.setCell ⟨w1.heap.size,3,none⟩ (.slice ra rn rc)).heap.size=w4.heap.size:=by simp[World.setCell]
     have ii:=Nat.le_of_eq UI;clear UI;go_wp2_with (at_builtin;refine Ze (w4.setCell _ _) rfl _ _ 143 rfl (w.heap.size+1) 96 .nilIface 1 16 underlying143 QU rfl (by decide) (by decide) Pe (by rfl) [.iface 227 (.pointer (some ⟨w1.heap.size,0,none⟩))] rfl ?c1 (by simp[World.setCell];rfl) (by omega) (by omega) ?_)
     case c1=>simp[Value.oneCell']
     intro g cap w6 hown6 hg VW UT;have Ef:=Eg.grown hg (by
      intro e';have:=(Pe.lt _ e'.symm).1;omega)
     have t1:=Ef.cell 1 rfl;have tf:=Ef.free 1;have hR:=TJ (m:=2) (sw:=false) (by simp) Hx.out q4 p4 a4 hF JC (by omega) hob hown hcl (by simpa [T.Yg,Mk.add_add]using Ei) hown6 hg (by simpa [World.setCell]using VW);clear uJ v3 vf;go_wp2_with fail
     exact⟨hR,by simp[intOf];omega⟩
theorem FW: ∀ t:T,Yf t:=T.Wg (Eh (fun c sw hc=>by cases sw;exact LB c hc;exact JB c hc) FY)
end Go.Proofs.YteedbaejpdjilaaGreat
