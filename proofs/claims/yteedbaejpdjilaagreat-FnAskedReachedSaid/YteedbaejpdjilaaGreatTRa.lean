/- Part of the proof: QuA LawL. -/
import Derived.Test.YteedbaejpdjilaaGreatYPs
import Derived.ArgAppend
set_option linter.all false
set_option maxRecDepth 100000
set_option maxHeartbeats 4000000
namespace Go.Proofs.YteedbaejpdjilaaGreat
open Go.RowKit Tryz
section
def Qu (w:World) (lo:Nat) (e:TypeId) (size:Nat) (v:Value) (n:Nat) (xs:List Value):Prop:=
 xs.length=n*size/\((v=.slice none 0 0/\n=0)\/ ∃ g off cap cs,v=.slice (some ⟨g,off,none⟩) n cap/\lo<=g/\ZD w g cs e/\n<=cap/\cap<=maxLen/\off+cap*size<=cs.length/\(cs.drop off).take (n*size)=xs)
section
variable {w w':World} {lo:Nat} {e:TypeId} {size:Nat} {v:Value} {n:Nat} {xs:List Value}
theorem Qu.BJ (h:w.ownsRow lo e size v n xs):Qu w lo e size v n xs:=by
 refine⟨h.1,?_⟩;rcases h.2 with h1|⟨g,cap,cur,h1,h2,h3,h4,h5,h6,h7⟩
 .exact .inl h1
 .exact .inr ⟨g,0,cap,cur.toList,h1,h2,by unfold ZD;simpa using h3,h4,h5,by simp[h6],by simpa using h7⟩
theorem Qu.lt (h:Qu w lo e size v n xs): ∀ g,v.ownBlock=some g->lo<=g/\g < w.heap.size/\Zq w g e:=by
 intro g hg;rcases h.2 with⟨rfl,_⟩ |⟨k,off,cap,cs,rfl,h2,h3,_⟩
 .simp[Value.ownBlock]at hg
 .have:k=g:=by simpa [Value.ownBlock]using hg
  subst this;exact⟨h2,h3.lt,h3.ty⟩
theorem Qu.slice (h:Qu w lo e size v n xs): ∃ a c,v=.slice a n c:=by
 rcases h.2 with⟨rfl,rfl⟩ |⟨k,off,cap,cs,rfl,_⟩
 .exact⟨_,_,rfl⟩
 .exact⟨_,_,rfl⟩
theorem Qu.kept {row:Option Nat} (h:Qu w lo e size v n xs) (hg:w.grownBy w' row) (hne:v.ownBlock=none\/v.ownBlock≠row):Qu w' lo e size v n xs:=by
 refine⟨h.1,?_⟩;rcases h.2 with h1|⟨g,off,cap,cs,rfl,h2,h3,h4⟩
 .exact .inl h1
 .refine .inr ⟨g,off,cap,cs,rfl,h2,h3.grown hg ?_,h4⟩;rcases hne with h5|h5
  .simp[Value.ownBlock]at h5
  .exact h5
theorem Qu.low {B:Nat} (h:Qu w lo e size v n xs) (hb:Below B w w') (hB: ∀ g,v.ownBlock=some g->g < B):Qu w' lo e size v n xs:=by
 refine⟨h.1,?_⟩;rcases h.2 with h1|⟨g,off,cap,cs,rfl,h2,h3,h4⟩
 .exact .inl h1
 .refine .inr ⟨g,off,cap,cs,rfl,h2,?_,h4⟩;unfold ZD at*;rw[hb.block g (hB g rfl)];exact h3
theorem Qu.fr {T:List Nat} {B:Nat} (h:Qu w lo e size v n xs) (hf:Fr T B w w') (ht:e∉T):Qu w' lo e size v n xs:=by
 refine⟨h.1,?_⟩;rcases h.2 with h1|⟨g,off,cap,cs,rfl,h2,h3,h4⟩
 .exact .inl h1
 .exact .inr ⟨g,off,cap,cs,rfl,h2,h3.fr hf ht,h4⟩
theorem Qu.mono {lo':Nat} (h:Qu w lo e size v n xs) (hl:lo'<=lo):Qu w lo' e size v n xs:=
 ⟨h.1,h.2.imp id fun⟨g,off,cap,cs,h1,h2,h3⟩=>⟨g,off,cap,cs,h1,ZC hl h2,h3⟩⟩
theorem Qu.cells {g off cap:Nat} (h:Qu w lo e size (.slice (some ⟨g,off,none⟩) n cap) n xs) (j:Nat) (hj:j < n*size):w.cell? ⟨g,off+j,none⟩=xs[j]? :=by
 rcases h.2 with⟨h1,_⟩ |⟨k,off',cap',cs,h1,h2,h3,h4,h5,h6,h7⟩
 .simp at h1
 .simp only[Value.slice.injEq,Option.some.injEq,Addr.mk.injEq,and_true,true_and]at h1;obtain⟨⟨rfl,rfl⟩,rfl⟩:=h1;have hl:off+j < cs.length:=by
   have:n*size<=cap*size:=Nat.mul_le_mul_right _ h4;omega
  rw[h3.cell (off+j) (Z9 hl),<-h7,List.getElem?_take,if_pos hj,List.getElem?_drop,Z9 hl]
theorem Qu.Z9o (h:Qu w lo e size v (n+1) xs): ∃ g off cap,v=.slice (some ⟨g,off,none⟩) (n+1) cap/\n+1<=cap:=by
 rcases h.2 with⟨_,h0⟩ |⟨k,off,cap,cs,rfl,h2,h3,h4,_⟩
 .omega
 .exact⟨k,off,cap,rfl,h4⟩
theorem Qu.tail {g off cap:Nat} (h:Qu w lo e size (.slice (some ⟨g,off,none⟩) (n+1) cap) (n+1) xs) (hc:1 < cap):Qu w lo e size (.slice (some ⟨g,off+size,none⟩) n (cap -1)) n (xs.drop size):=by
 have hx:=h.1;rcases h.2 with⟨h1,_⟩ |⟨k,off',cap',cs,h1,h2,h3,h4,h5,h6,h7⟩
 .simp at h1
 .simp only[Value.slice.injEq,Option.some.injEq,Addr.mk.injEq,and_true,true_and]at h1;obtain⟨⟨rfl,rfl⟩,rfl⟩:=h1;have hm:cap*size=(cap -1)*size+size:=by
   rw[<-Nat.succ_mul];congr 1;omega
  refine⟨by rw[List.length_drop,hx,Nat.succ_mul];omega,.inr ⟨g,off+size,cap -1,cs,rfl,h2,h3,by omega,by omega,by omega,?_⟩⟩;rw[<-h7,List.drop_take,List.drop_drop,Nat.succ_mul];congr 1;omega
theorem Qu.last {g off:Nat} (h:Qu w lo e size (.slice (some ⟨g,off,none⟩) (n+1) 1) (n+1) xs):n=0/\Qu w lo e size (.slice (some ⟨g,off,none⟩) 0 0) 0 (xs.drop size):=by
 have hx:=h.1;rcases h.2 with⟨h1,_⟩ |⟨k,off',cap',cs,h1,h2,h3,h4,h5,h6,h7⟩
 .simp at h1
 .simp only[Value.slice.injEq,Option.some.injEq,Addr.mk.injEq,and_true,true_and]at h1;obtain⟨⟨rfl,rfl⟩,rfl⟩:=h1;have hn:n=0:=by omega
  subst hn;refine⟨rfl,by rw[List.length_drop,hx];omega,.inr ⟨g,off,0,cs,rfl,h2,h3,by omega,by omega,by omega,?_⟩⟩;rw[Nat.zero_mul,List.take_zero,List.drop_eq_nil_of_le (by omega)]
end
theorem BH: ∀ {ys cs:List Value} {o:Nat},o+ys.length<=cs.length->Xm cs o ys=cs.take o++ys++cs.drop (o+ys.length):=by
 intro ys
 induction ys with
 |nil=>intro cs o _;simp[Xm]
 |cons y ys ih=>
  intro cs o h;simp only[ZJ]at h;simp only[Xm];rw[ih (by simpa using by omega)];have h1:(cs.set o y).take (o+1)=cs.take o++ [y]:=by
   rw[List.take_add_one,List.take_set_of_le (by omega)];simp[List.getElem?_set,show o < cs.length by omega]
  have h2:(cs.set o y).drop (o+1+ys.length)=cs.drop (o+1+ys.length):=List.drop_set_of_lt (by omega);rw[h1,h2,ZJ,show o+(ys.length+1)=o+1+ys.length by omega];simp
theorem NU {w:World} {b:Nat} : ∀ {ys:List Value} {o:Nat} {w0:World},w0.grownBy w (some b)->w0.grownBy (w.setCells b o ys) (some b):=by
 intro ys
 induction ys generalizing w with
 |nil=>intro o w0 h;exact h
 |cons y ys ih=>
  intro o w0 h;refine ih ⟨h.os,h.tape,h.output,by simpa [World.setCell]using h.size,fun k hk hne=>?_⟩;rw[Below.heap_setCell _ _ _ _ (fun e=>hne (by rw[e]))];exact h.block k hk hne
theorem Nq {P:Program} {t ty:TypeId} {w:World} {lo:Nat} {e:TypeId} {z:Value} {size bytes:Nat} (ht:P.underlying t=some (.slice e)) (hinfo:(P.info? e).map (fun i=>(i.zero,i.size,i.bytes))=some (some z,size,bytes))
  (hzs:z.cells.size=size) (hsz:0 < size) (hby:bytes<=100) {v:Value} {n:Nat} {xs:List Value} (h:Qu w lo e size v n xs) {ad:Nat} {c:Nat} {ys:List Value} (hyl:ys.length=size) (hy: ∀ u∈ys,u.oneCell'=true)
  (hb:ZD w ad ys e) (hn:n<=1000000000000) (hlo:lo<=w.heap.size):
  ∃ a' c' w',(Builtin.append_ #[t,t] ty #[v,.slice (some ⟨ad,0,none⟩) 1 c]).run P w=.ok (.slice a' (n+1) c') w'/\Qu w' lo e size (.slice a' (n+1) c') (n+1) (xs++ys)/\w.grownBy w' v.ownBlock/\
   ((Value.slice a' (n+1) c').ownBlock=v.ownBlock\/ ∃ g,(Value.slice a' (n+1) c').ownBlock=some g/\w.heap.size<=g):=by
 obtain⟨i,hi,hz,hs,hbt⟩:=info_parts hinfo;have hnews: ∀ j u,ys[j]? =some u->w.cell? ((⟨ad,0,none⟩:Addr).add j)=some u:=by
  intro j u hu;rw[Addr.add_lit,YR];exact hb.cell j hu
 have hxl:=h.1;have hbytes:(n+1)*bytes<=140737488355328:=by
  have:(n+1)*bytes<=1000000000001*100:=Nat.mul_le_mul (by omega) hby;omega
 have grow: ∀ b cap,(∀ j u,xs[j]? =some u->w.cell? (Addr.add b j)=some u)->cap < n+1->v=.slice (some b) n cap-> ∃ a' c' w',(Builtin.append_ #[t,t] ty #[v,.slice (some ⟨ad,0,none⟩) 1 c]).run P w=.ok (.slice a' (n+1) c') w'/\Qu w' lo e size (.slice a' (n+1) c') (n+1) (xs++ys)/\w.grownBy w' v.ownBlock/\
   ((Value.slice a' (n+1) c').ownBlock=v.ownBlock\/ ∃ g,(Value.slice a' (n+1) c').ownBlock=some g/\w.heap.size<=g):=by
  intro b cap holds hcap hv;obtain⟨v',w',h1,h2,h3⟩:=run_append_arg_grows (P:=P) w t ty e i z size bytes ht hi hz hs hbt hzs hsz b n cap xs hxl holds ⟨ad,0,none⟩ 1 c ys (by rw[hyl,Nat.one_mul]) hnews hcap (by unfold maxLen;omega) hbytes;obtain⟨a',c',rfl⟩:=ZR h2;subst hv;refine⟨a',c',w',h1,(Qu.BJ h2).mono hlo,⟨h3.os,h3.tape,h3.output,h3.size,fun k hk _=>h3.block k hk (by simp)⟩,.inr ?_⟩;rcases h2.2 with⟨h4,h5⟩ |⟨g,cap',cur,h4,h5,_⟩
  .omega
  .rw[h4];exact⟨g,rfl,h5⟩
 rcases h.2 with⟨rfl,rfl⟩ |⟨g,off,cap,cs,rfl,h2,h3,h4,h5,h6,h7⟩
 .have hx0:xs= []:=List.eq_nil_of_length_eq_zero (by simpa using hxl);subst hx0;have hr:=run_append_nil (P:=P) w t ty e i z ht hi hz ⟨ad,0,none⟩ 1 c ys (by rw[hs,hyl,Nat.one_mul]) hnews (by omega) (by omega) (by rw[hbt];omega);have hge:=grownCap_ge w 1 0 e;have hcm:grownCap w 1 0 e<=maxLen:=grownCap_le_maxLen w 1 0 e (by unfold maxLen;omega);refine⟨_,_,_,hr,Qu.BJ ⟨by simp[hyl],.inr ⟨w.heap.size,_,_,rfl,hlo,heap_alloc_new w.drew _,hge,hcm,?_,?_⟩⟩,⟨rfl,rfl,rfl,by simp,fun k hk _=>Below.heap_alloc w.drew _ k hk⟩,.inr ⟨w.heap.size,rfl,Z7 _⟩⟩
  .simp only[Array.size_append,List.size_toArray,size_zeroCells,hzs,hyl];have:grownCap w 1 0 e*size=(grownCap w 1 0 e -1)*size+size:=by
    rw[<-Nat.succ_mul];congr 1;omega
   omega
  .simp only[Array.toList_append,List.nil_append,YR,Nat.one_mul];rw[<-hyl];exact List.take_left
 .have holds: ∀ j u,xs[j]? =some u->w.cell? (Addr.add ⟨g,off,none⟩ j)=some u:=by
   intro j u hu;rw[Addr.add_lit];have hj:=ZH hu;rw[h.cells j (by omega)];exact hu
  by_cases hroom:n+1<=cap
  .have hm:(n+1)*size<=cap*size:=Nat.mul_le_mul_right _ hroom;rw[Nat.succ_mul]at hm;have hr:=run_append_room_cells (P:=P) w t ty e i ht hi g off n cap ⟨ad,0,none⟩ 1 c ys (by rw[hs,hyl,Nat.one_mul]) hnews hy hroom (fun j hj=>by
    rw[hs,h3.cell (off+n*size+j) (Z9 (by omega))];rfl) (fun j _=>h3.free _)
   rw[hs]at hr;have hb':=h3.Xm (o:=off+n*size) (ys:=ys);rw[BH (by omega)]at hb';refine⟨_,_,_,hr,⟨by rw[Z4,hxl,hyl,Nat.succ_mul],.inr ⟨g,off,cap,_,rfl,h2,hb',hroom,h5,by simp;omega,?_⟩⟩,NU ⟨rfl,rfl,rfl,Z7 _,fun _ _ _=>rfl⟩,.inl rfl⟩;rw[ZI,List.drop_append_of_le_length (by simp;omega),Nat.succ_mul,<-ZI,<-List.drop_append_of_le_length (by simp;omega)];rw[List.drop_append_of_le_length (by simp;omega),List.take_append_of_le_length (by simp;omega)];have e1:(cs.take (off+n*size)).drop off=xs:=by
    rw[List.drop_take,show off+n*size -off=n*size by omega];exact h7
   rw[e1,List.take_of_length_le (by simp;omega)]
  .exact grow ⟨g,off,none⟩ cap holds (by omega) rfl
theorem Ig {P:Program} {ops:Array Oper} {rest:List Oper} {o:Oper} {a:Act} {Q:Exit->Act->World->Prop} (w:World) (hgd:o.guard=none) (s x:Operand) (t:TypeId)
  (ho:o.op=.call { callee:=.builtin .append,args:= #[s,x],argTypes:= #[t,t] }) (lo:Nat) (e:TypeId) (z:Value) (size bytes:Nat) (ht:P.underlying t=some (.slice e))
  (hinfo:(P.info? e).map (fun i=>(i.zero,i.size,i.bytes))=some (some z,size,bytes)) (hzs:z.cells.size=size) (hsz:0 < size) (hby:bytes<=100)
  {v:Value} {n:Nat} {xs:List Value} (hq:Qu w lo e size v n xs) (hs:a.eval s=v) (ys:List Value) (hyl:ys.length=size) (hy: ∀ u∈ys,u.oneCell'=true)
  (hx:a.eval x=.slice (some ⟨w.heap.size,0,none⟩) 1 1) (hn:n<=1000000000000) (hlo:lo<=w.heap.size)
  (h: ∀ a' c' w',Qu w' lo e size (.slice a' (n+1) c') (n+1) (xs++ys)->w.grownBy w' v.ownBlock->((Value.slice a' (n+1) c').ownBlock=v.ownBlock\/ ∃ g,(Value.slice a' (n+1) c').ownBlock=some g/\w.heap.size<=g)->
   wpList P ops Q rest (a.put o.dst (.slice a' (n+1) c')) w'):wpList P ops Q (o::rest) a (w.alloc (.cells ys.toArray e)):=by
 refine wpList_plain hgd fun K hK'=>?_;have hg0:w.grownBy (w.alloc (.cells ys.toArray e)) v.ownBlock:=World.grownBy_alloc _ _ _;have hq':Qu (w.alloc (.cells ys.toArray e)) lo e size v n xs:=hq.low ((ZN w.heap.size w).alloc (Z7 _) _) (fun g hg=>(hq.lt g hg).2.1);obtain⟨a',c',w',hrun,h1,h2,h3⟩:=Nq (P:=P) (t:=t) (ty:=o.type) ht hinfo hzs hsz hby hq' hyl hy (ZD.new w ys e) (c:=1) hn (by simp;omega);unfold Oper.wp;simp[execOp,ho,resolve,invoke,builtin,hs,hx,hrun,Result.andThen];refine hK' _ _ (h a' c' w' h1 ⟨h2.os,h2.tape,h2.output,by have:=h2.size;simp at this;omega,fun k hk hne=>?_⟩ (h3.imp id fun⟨g,g1,g2⟩=>⟨g,g1,by simp at g2;omega⟩));rw[h2.block k (by simp;omega) hne,Below.heap_alloc _ _ _ hk]
end
section
def AtS (ps:List Pc) (x:Int) (q:Nat × Nat):Prop:= ∃ p,ps[q.1]? =some p/\p.leaves[q.2]? =some x
def Few (ps:List Pc):Prop:=ps.length<=100000/\ ∀ (i:Nat) p,ps[i]? =some p->p.leaves.length<=100000
theorem Qu.any {w:World} {lo e size n:Nat} {v:Value} {xs:List Value} (h:Qu w lo e size v n xs): ∃ a c,v=.slice a n c:=h.slice
theorem AtS.here {ps:List Pc} {x:Int} {k j:Nat} {P:Pc} (hP:ps[k]? =some P) {y:Int} (hy:P.leaves[j]? =some y):AtS ps x (k,j)↔y=x:=by
 unfold AtS;constructor
 .rintro⟨p,h1,h2⟩;rw[hP]at h1;cases h1;rw[hy]at h2;exact Y0 h2
 .rintro rfl;exact⟨P,hP,hy⟩
end
end Go.Proofs.YteedbaejpdjilaaGreat
