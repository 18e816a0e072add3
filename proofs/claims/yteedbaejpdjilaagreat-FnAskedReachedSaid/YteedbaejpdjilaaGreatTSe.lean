/- Part of the proof: PlcI. -/
import Derived.Test.YteedbaejpdjilaaGreatTSb
import Derived.Test.YteedbaejpdjilaaGreatTSc
import Derived.Test.YteedbaejpdjilaaGreatTSd
import Derived.Deep.CutBlock
set_option linter.all false
set_option maxRecDepth 100000
set_option maxHeartbeats 4000000
namespace Go.Proofs.YteedbaejpdjilaaGreat
open Go.RowKit Tryz
def Z5t (l:List Pl):List Value:=(l.map Pl.cl).flatten
theorem Z47 (l k:List Pl):Z5t (l++k)=Z5t l++Z5t k:=by simp[Z5t]
theorem Z46 {l:List Pl} {k j:Nat} {p:Pl} (h:l[k]? =some p) (hj:j < 3):(Z5t l)[k*3+j]? =p.cl[j]? :=Rh (n:=3) (f:=Pl.cl) (fun _=>rfl) h hj
theorem Qu.most {w:World} {lo e size n:Nat} {v:Value} {xs:List Value} (h:Qu w lo e size v n xs):n<=9223372036854775807:=by
 rcases h.2 with⟨_,h⟩ |⟨_,_,_,_,_,_,_,h1,h2,_⟩
 .omega
 .have:maxLen=9223372036854775807:=by decide
  omega
theorem Z4o {C q:Pl} (h1:C.op=q.op) (h2:C.a=q.a) (h3:C.b=q.b):C=q:=by
 obtain⟨x,y,z⟩:=C;obtain⟨x',y',z'⟩:=q;dsimp only at h1 h2 h3;rw[h1,h2,h3]
def Z4n (w:World) (l:List Pl) (q:Pl) (ix:Value) (wr:World):Prop:= ∃ k:Nat,ix=.int .i64 k/\k<=l.length/\(∀ (x:Nat) y,x < k->l[x]? =some y->y≠q)/\Below w.heap.size w wr/\ZD wr w.heap.size [.int .i64 q.op,.int .i64 q.a,.int .i64 q.b] 118
theorem Z4v {w:World} {lo:Nat} {v:Value} {l:List Pl} (h:Qu w lo 118 3 v l.length (Z5t l)) (q:Pl):Calls prog 90 #[v,Np q] w fun e w'=> ∃ d:Bool,e=.returned (.bool d)/\(d=true↔q∈l)/\Below w.heap.size w w':=by
 have hb1:Below w.heap.size w (w.alloc (.cells [.int .i64 q.op,.int .i64 q.a,.int .i64 q.b].toArray 118)):=(ZN _ _).alloc (Z7 _) _;have HB:=Zl hb1 (ZD.new w [.int .i64 q.op,.int .i64 q.a,.int .i64 q.b] 118);have HQ:=Z5 h;have hmx:=h.most;obtain⟨av,cv,rfl⟩:=h.slice;clear h hb1;unfold Np;go_enter func90,ntmps90;go_wp2_with fail
 go_loopw [9] (fun ix wr=>Z4n w l q ix wr) (fun ix _=>l.length -(intOf ix).toNat)
 case atStart=>exact⟨0,rfl,by omega,fun x y hx=>by omega,HB.out.1,HB.out.2⟩
 case round=>
  obtain⟨k,rfl,hk,hno,hbw,hkw⟩:=hrel;have c0:=hkw.cell 0 rfl;have c1:=hkw.cell 1 rfl;have c2:=hkw.cell 2 rfl;have hsz:=hkw.lt;have hne:w.heap.size≠wr.heap.size:=by omega
  have HW:=X7 hbw hkw hno;by_cases hlt:k < l.length
  .have hqr:=HQ.out.low hbw (fun g hg=>(HQ.out.lt g hg).2.1);obtain⟨gc,off,rfl⟩: ∃ gc off,av=some ⟨gc,off,none⟩:=by
    rcases HQ.out.2 with⟨_,h0⟩ |⟨g,off,cap,cs,e,_⟩
    .omega
    .simp only[Value.slice.injEq]at e;exact⟨g,off,e.1⟩
   obtain⟨C,hC⟩: ∃ C:Pl,C=l[k]:=⟨_,rfl⟩
   have hc:l[k]? =some C:=by rw[hC];exact Z9 hlt
   have hq: ∀ j,j < 3->wr.cell? ⟨gc,off+(k*3+j),none⟩=C.cl[j]? :=fun j hj=>by rw[hqr.cells (k*3+j) (by omega),Z46 hc hj]
   have q0:wr.cell? ⟨gc,off+k*3,none⟩=some (.int .i64 C.op):=hq 0 (by omega);have q1:wr.cell? ⟨gc,off+k*3+1,none⟩=some (.int .i64 C.a):=hq 1 (by omega);have q2:wr.cell? ⟨gc,off+k*3+2,none⟩=some (.int .i64 C.b):=hq 2 (by omega);have hgc:=(HQ.out.lt gc rfl).2.1;have HC:=Z5 hc;clear hC hc hq hqr hbw hkw hno;by_cases e:C=q
   .subst e;go_wp2_with fail
    go_ret;exact⟨true,rfl,⟨fun _=>ZY HC.out,fun _=>rfl⟩,HW.out.1.alloc (Nat.le_of_lt hsz) _⟩
   .have he:=Z5 e;have hne2:((C.op==q.op)&&((C.a==q.a)&&(C.b==q.b)))=false:=by
     obtain⟨x,y,z⟩:=C;obtain⟨x',y',z'⟩:=q;simp only[Pl.mk.injEq]at e;simp only[Bool.and_eq_false_iff,beq_eq_false_iff_ne];omega
    clear e;go_wp2_with fail
    .exact absurd (Z4o ‹_› ‹_› ‹_›) he.out
    all_goals
     refine⟨⟨k+1,by simp,hlt,fun x y hx hy=>?_,HW.out.1.alloc (Nat.le_of_lt hsz) _,HW.out.2.1.alloc _⟩,by simp[intOf];omega⟩;by_cases h:x < k
     .exact HW.out.2.2 x y h hy
     .obtain rfl:x=k:=by omega
      rw[HC.out]at hy;cases hy;exact he.out
  .have hm: ¬ q∈l:=fun hm=>by
    obtain⟨j,hj,e⟩:=List.getElem_of_mem hm;exact HW.out.2.2 j _ (by omega) (Z9 hj) e
   have HM:=Z5 hm;clear hm hbw hkw hno;go_wp2_with fail
   go_ret;exact⟨false,rfl,⟨fun h=>by simp at h,fun h=>absurd h HM.out⟩,HW.out.1⟩
theorem Z5m {w w':World} {lo size n:Nat} {e:TypeId} {sv tv oS:Value} {xs:List Value} (hs:Qu w lo e size sv n xs) (hd: ∀ g,sv.ownBlock=some g->tv.ownBlock≠some g) (h2:w.grownBy w' tv.ownBlock)
  (h3:oS.ownBlock=tv.ownBlock\/ ∃ g,oS.ownBlock=some g/\w.heap.size<=g):Qu w' lo e size sv n xs/\ ∀ g,sv.ownBlock=some g->oS.ownBlock≠some g:=by
 refine⟨hs.kept h2 ?_,fun g hg=>?_⟩
 .cases h:sv.ownBlock with
  |none=>exact .inl rfl
  |some g=>exact .inr (fun e=>hd g h e.symm)
 .rcases h3 with h3|⟨k,h3,h4⟩
  .rw[h3];exact hd g hg
  .rw[h3];intro e;cases e;have:=(hs.lt g hg).2.1;omega
def Z34 (A:Tr) (F:List Pl) (W:World) (gi:Nat) (k:Nat) (sv ev tv:Value) (wr:World):Prop:=
 ∃ (seen todo:List Pl) (b:Bool) (f:Nat->Bool),k=(700000000 -seen.length)*1002+todo.length/\MS A F seen todo (PN b f)/\ev=.bool b/\Qu wr W.heap.size 118 3 sv seen.length (Z5t seen)/\Qu wr W.heap.size 118 3 tv todo.length (Z5t todo)/\(∀ g,sv.ownBlock=some g->tv.ownBlock≠some g)/\ZD wr gi (Bg A.ls.length f) 4/\Below W.heap.size W wr
def Z33 (W:World) (gi:Nat) (bs:List Value) (seen todo nx:List Pl) (sv nv tv ix:Value) (wr:World):Prop:=
 ∃ j:Nat,ix=.int .i64 j/\j<=nx.length/\Qu wr W.heap.size 118 3 tv (todo.length+j) (Z5t (todo++nx.take j))/\(Qu wr W.heap.size 118 3 sv seen.length (Z5t seen)/\ ∀ g,sv.ownBlock=some g->tv.ownBlock≠some g)/\(Qu wr W.heap.size 118 3 nv nx.length (Z5t nx)/\ ∀ g,nv.ownBlock=some g->tv.ownBlock≠some g)/\ZD wr gi bs 4/\Below W.heap.size W wr
def Z32 (W:World) (gi n:Nat) (b:Bool) (f:Nat->Bool) (ov ix:Value) (wr:World):Prop:=
 ∃ j:Nat,ix=.int .i64 j/\j<=n/\wr.ownsRow W.heap.size 3 1 ov (xy j b f).length ((xy j b f).map (Value.int .i64))/\ZD wr gi (Bg n f) 4/\Below W.heap.size W wr
theorem Z4O (j:Nat) (b:Bool) (f:Nat->Bool):xy (j+1) b f=xy j b f++(if f j then [(j:Int)]else []):=by
 unfold xy;rw[List.range_succ,List.filter_append,List.map_append,ZI];cases h:f j<;>simp[h]
theorem Z4C (j:Nat) (b:Bool) (f:Nat->Bool):(xy j b f).length<=j+1:=by
 unfold xy;have:((List.range j).filter f).length<=j:=ZC (List.length_filter_le _ _) (by simp);simp only[Z4,Y8];cases b<;>simp<;>omega
theorem Z45 {sv tv:Value} (h: ∀ g,sv.ownBlock=some g->tv.ownBlock≠some g): ∀ g,tv.ownBlock=some g->sv.ownBlock≠some g:=fun g h1 h2=>h g h2 h1
section
variable {W:World} {lo p:Nat} {A:Tr}
theorem Z5j (M:QW W lo p A) (Wd:Wf A) (hs:Sm A) {F:List Pl} (hF: ∀ q∈F,NY A q) (hl:F.length<=1) {w:World} (hb:Below W.heap.size W w) {v:Value} (hq:Qu w W.heap.size 118 3 v F.length (Z5t F)):
  Calls prog 74 #[p,v] w fun e w'=> ∃ v',e=.returned v'/\w'.ownsRow W.heap.size 3 1 v' (LN A F).length ((LN A F).map (Value.int .i64))/\Below W.heap.size W w':=by
 have M':=M;obtain⟨_,_,_,_,_,_,M'⟩:=M';obtain⟨al,cl,rfl⟩:=M'.Ns;have q0:=(hb.cell (p:=⟨p,0,none⟩) M'.t.blk.lt).trans (M'.t.blk.cell 0 rfl);obtain⟨av,cv,rfl⟩:=hq.slice;obtain⟨nl,hnl⟩: ∃ nl,nl=A.ls.length:=⟨_,rfl⟩
 rw[<-hnl]at q0;have hn4:nl<=4000:=by rw[hnl];exact hs.1
 obtain⟨i0,hi0,hz0,hz1,hz2⟩:=info_parts Z9k;have HM:=X7 M Wd hs;have HF:=X7 hF hl hnl;have HQ:=Zl hq hb;have hW:=hb.size;clear M' M Wd hs hF hl hb hq hnl;go_enter func74,ntmps74;go_wp2_with (at_make;refine wpList_make_full w rfl _ _ 26 rfl w.heap.size 4 i0 (.bool false) 1 underlying26 hi0 hz0 hz1 .i64 .i64 _ _ nl (by rfl) (by rfl) (by simp) (by simp) ?b2 ?b3 (by simp) ?_)
 case b2=>rw[hz2];omega
 case b3=>unfold maxLen;omega
 intro w2 hq2 hg2;obtain⟨hb2,hge⟩:=Z5l hq2;rw[toList_madeCells_one,qG]at hb2;have hB2:Below W.heap.size W w2:=HQ.out.2.grown hg2 hW (by simp);have Z31:=HQ.out.1.kept hg2 (by cases(Value.slice av F.length cv).ownBlock<;>simp);have H2:=X7 hb2 hB2 Z31;have Z4R:W.heap.size<=w.heap.size:=hW;clear hq2 hg2 hb2 hB2 Z31 q0;obtain⟨gi,hgi⟩: ∃ gi:Nat,gi=w.heap.size:=⟨_,rfl⟩
 simp only[<-hgi]at*;clear hgi;go_wp2_with fail
 go_loopg [5,7,8] (700000000*1002+F.length) (fun k sv ev tv wr=>Z34 A F W gi k sv ev tv wr)
 case atStart=>
  exact⟨[],F,false,fun _=>false,by simp,MS.start HF.out.1 HF.out.2.1,rfl,⟨rfl,.inl ⟨rfl,rfl⟩⟩,H2.out.2.2,fun g hg=>by simp[Value.ownBlock]at hg,by rw[<-HF.out.2.2];exact H2.out.1,H2.out.2.1⟩
 case round=>
  obtain⟨seen,todo,b,f,hk,hms,rfl,hsq,htq,hdis,hbk,hbw⟩:=hrel;have hsz:=hbw.size;obtain⟨Z4s,Z4Q⟩:=hms.small HM.out.2.2;rw[<-HF.out.2.2]at hbk;cases todo with
  |nil=>
   rw[List.length_nil]at htq;obtain⟨ta,tc,rfl⟩:=htq.slice;have HK:=Xp hms hbk hbw hsz;have h0:=Z5 (show wr.ownsRow W.heap.size 3 1 (.slice none 0 0) 0 []from⟨rfl,.inl ⟨rfl,rfl⟩⟩);clear hk hms hbk hbw hsq htq hdis Z4s Z4Q;go_upto_if 65 with fail
   go_cut [14]from 65 (fun ov wx=>wx.ownsRow W.heap.size 3 1 ov (xy 0 b f).length ((xy 0 b f).map (Value.int .i64))/\ZD wx gi (Bg nl f) 4/\Below W.heap.size W wx)
   case first=>
    cases b
    .go_wp2_with fail
     go_meet;exact⟨⟨rfl,.inl ⟨rfl,rfl⟩⟩,HK.out.2.1,HK.out.2.2.1⟩
    .go_wp2_with (at_builtin;refine Ze wr rfl _ _ 31 rfl W.heap.size 3 (.int .i64 0) 1 8 underlying31 Z9j rfl (by decide) (by decide) h0.out (by rfl) [.int .i64 (-2)] rfl ?c1 (by rfl) (by omega) hsz ?_)
     case c1=>simp[Value.oneCell']
     intro g6 cap6 w6 hown6 UT VW Mm;have HW:=Zl hown6 UT;clear hown6 UT VW Mm;go_wp2_with fail
     go_meet;exact⟨HW.out.1,HK.out.2.1.grown HW.out.2 (by simp[Value.ownBlock]),HK.out.2.2.1.grown HW.out.2 HK.out.2.2.2 (fun x hx=>by simp[Value.ownBlock]at hx)⟩
   case rest=>
    obtain⟨hown,hbk,hbw⟩:=hcut;have H0:=X7 hown hbk hbw;obtain⟨oa,oc,rfl⟩:=ZR hown;clear hown hbk hbw;go_wp2_with fail
    go_loopw [14,71] (fun ov ix wr=>Z32 W gi nl b f ov ix wr) (fun _ ix _=>nl -(intOf ix).toNat)
    case atStart=>exact⟨0,rfl,by omega,H0.out.1,H0.out.2.1,H0.out.2.2⟩
    case round=>
     obtain⟨j,rfl,hj,hown,hbk,hbw⟩:=hrel;obtain⟨oa,oc,rfl⟩:=ZR hown;have hsz:=hbw.size;have hol:=Z4C j b f;have HO:=X7 hown hbk hbw;by_cases hjl:j < nl
     .have ci:=hbk.cell j (LM hjl);have HS:=Z5 (Z4O j b f);clear hown hbk hbw;cases hfj:f j with
      |true=>
       rw[hfj]at ci;have hfj:=Z5 hfj;go_wp2_with (at_builtin;refine Ze wr rfl _ _ 31 rfl W.heap.size 3 (.int .i64 0) 1 8 underlying31 Z9j rfl (by decide) (by decide) HO.out.1 (by rfl) [.int .i64 (j:Int)] rfl ?c1 (by rfl) (by omega) hsz ?_)
       case c1=>simp[Value.oneCell']
       intro g6 cap6 w6 hown6 UT VW Mm;have HW:=Zl hown6 UT;clear hown6 UT VW Mm;go_wp2_with fail
       refine⟨⟨j+1,by simp,hjl,?_,HO.out.2.1.grown HW.out.2 (own_ne HO.out.1 HO.out.2.1.ty),HO.out.2.2.grown HW.out.2 hsz (fun x hx=>(HO.out.1.lt x hx).1)⟩,by simp[intOf];omega⟩;have h1:=HW.out.1;rw[HS.out,hfj.out];simpa using h1
      |false=>
       rw[hfj]at ci;have hfj:=Z5 hfj;go_wp2_with fail
       refine⟨⟨j+1,by simp,hjl,?_,HO.out.2.1,HO.out.2.2⟩,by simp[intOf];omega⟩;have h1:=HO.out.1;rw[HS.out,hfj.out];simpa using h1
     .obtain rfl:j=nl:=by omega
      clear hown hbk hbw;go_wp2_with fail
      go_ret;have e:LN A F=xy j b f:=by rw[HF.out.2.2,iB HM.out.2.1 HF.out.1 HK.out.1.met]
      rw[e];exact⟨_,rfl,HO.out.1,HO.out.2.2⟩
  |cons q todo=>
   obtain⟨nq,hnq⟩: ∃ nq,nq=todo.length:=⟨_,rfl⟩
   rw[ZJ,<-hnq]at htq Z4Q;have Hnq:=Z5 hnq;obtain⟨gq,off,cq0x,rfl,hcq⟩:=htq.Z9o;obtain⟨sa,sc,rfl⟩:=hsq.slice;have c0:wr.cell? ⟨gq,off,none⟩=some (.int .i64 q.op):=htq.cells 0 (by omega);have c1:wr.cell? ⟨gq,off+1,none⟩=some (.int .i64 q.a):=htq.cells 1 (by omega);have c2:wr.cell? ⟨gq,off+2,none⟩=some (.int .i64 q.b):=htq.cells 2 (by omega);have hgq:=(htq.lt gq rfl).2.1;have hqw:=hms.ok q (.inr List.mem_cons_self);have hb1:Below wr.heap.size wr (wr.alloc (.cells [.int .i64 q.op,.int .i64 q.a,.int .i64 q.b].toArray 118)):=(ZN _ _).alloc (Z7 _) _;have hk1:=ZD.new wr [.int .i64 q.op,.int .i64 q.a,.int .i64 q.b] 118;have Z5o:=htq.low hb1 (fun g hg=>(htq.lt g hg).2.1);have Z30:=hsq.low hb1 (fun g hg=>(hsq.lt g hg).2.1);have H1:=Ev hk hms hqw (hsq.lt) hdis (U4 hbk hb1) (hbw.trans (hb1.mono hsz));have H1q:=Zl Z30 hk1;have H1b:=Z5 hb1;clear hk hms hqw hsq hdis hbk hbw hb1 hk1 htq hnq Z30;go_upto_region 7 with fail
   go_cut [8]from 24 to 64 (fun tv wx=>wr.alloc (.cells [.int .i64 q.op,.int .i64 q.a,.int .i64 q.b].toArray 118)=wx/\ ∃ off' c',tv=.slice (some ⟨gq,off',none⟩) nq c'/\Qu (wr.alloc (.cells [.int .i64 q.op,.int .i64 q.a,.int .i64 q.b].toArray 118)) W.heap.size 118 3 tv nq (Z5t todo))
   case first=>
    by_cases hc1:1 < cq0x
    .have hq':=Z5 (Z5o.tail hc1);clear Z5o;go_wp2_with fail
     go_meet;exact⟨rfl,_,_,rfl,hq'.out⟩
    .obtain rfl:cq0x=1:=by omega
     obtain⟨h0,hq'⟩:=Z5o.last;have hq':=Z5 hq';clear Z5o;subst h0;go_wp2_with fail
     go_meet;exact⟨rfl,_,_,rfl,hq'.out⟩
   case rest=>
    obtain⟨rfl,off',c',rfl,Z5o⟩:=hcut;have Htq:=Z5 Z5o;clear Z5o c0 c1 c2;have HC:=Z5 (Z4v H1q.out.1 q);go_wp2_with fail
    refine HC.out.mono ?_;rintro e w3 ⟨d,rfl,hd,hb3⟩;have hz3:=hb3.size;simp at hz3;have hk3:=U4 H1q.out.2 hb3;have Z3Z:=H1q.out.1.low hb3 (fun g hg=>(H1q.out.1.lt g hg).2.1);have Z3Y:=Htq.out.low hb3 (fun g hg=>(Htq.out.lt g hg).2.1);have bU:=U4 H1.out.2.2.2.2.2.1 hb3;have hbw3:=H1.out.2.2.2.2.2.2.trans (hb3.mono (by simp;omega));have H3:=Wp hk3 Z3Z Z3Y bU hbw3;clear Z3Z Z3Y bU hbw3 hb3;cases d with
    |true=>
     have hmem:=Z5 (hd.1 rfl);clear hd hk3;go_wp2_with fail
     go_roundg ((700000000 -seen.length)*1002+nq)
     case rel=>exact⟨seen,todo,b,f,by rw[<-Hnq.out],H1.out.2.1.skip hmem.out,rfl,H3.out.2.1,by rw[<-Hnq.out];exact H3.out.2.2.1,H1.out.2.2.2.2.1,by rw[<-HF.out.2.2];exact H3.out.2.2.2.1,H3.out.2.2.2.2⟩
     case measure=>have h1:=H1.out.1;have h2:=Hnq.out;simp only[ZJ]at h1;omega
    |false=>
     have hnm:=Z5 (show q∉seen from fun h=>by have:=hd.2 h;simp at this);have d0:=hk3.cell 0 rfl;have d1:=hk3.cell 1 rfl;have d2:=hk3.cell 2 rfl;clear hd hk3;have hlo:W.heap.size<=w3.heap.size:=by omega
     have hn5:seen.length<=1000000000000:=by omega
     go_wp2_with (at_builtin;refine Ig w3 rfl _ _ 119 rfl W.heap.size 118 (.agg #[.int .i64 0,.int .i64 0,.int .i64 0]) 3 24 underlying119 Gb rfl (by decide) (by decide) H3.out.2.1 (by rfl) [.int .i64 q.op,.int .i64 q.a,.int .i64 q.b] rfl ?c1 (by rfl) hn5 hlo ?_)
     case c1=>simp[Value.oneCell']
     intro a4 c4 w4 h1 h2 h3;have hk4:=H3.out.1.grown h2 (fun e=>by have:=(H1.out.2.2.2.1 _ e.symm).2.1;omega);have Z4Y:=Z5m H3.out.2.2.1 (Z45 H1.out.2.2.2.2.1) h2 h3;have Z3X:=H3.out.2.2.2.1.grown h2 (Z7N H3.out.2.1 H3.out.2.2.2.1.ty (by decide));have Z4X:=H3.out.2.2.2.2.grown h2 hlo (fun g hg=>(H3.out.2.1.lt g hg).1);have HCm:=Z5 (pN (HM.out.1.low Z4X) HM.out.2.1 HM.out.2.2.nc H1.out.2.2.1);have H4:=Wp h1 Z4Y.1 (Z45 Z4Y.2) Z3X Z4X;have e0:=hk4.cell 0 rfl;have e1:=hk4.cell 1 rfl;have e2:=hk4.cell 2 rfl;have vR:=Z4X.size;clear h1 h2 h3 hk4 Z4Y Z3X Z4X d0 d1 d2;go_wp2_with fail
     refine HCm.out.mono ?_;rintro e w5 ⟨nv,rfl,V9,hb5⟩;obtain⟨X,hX⟩: ∃ X,Hid (X=(A.mv q).2.getD (-1)):=⟨_,Z5 rfl⟩
     rw[<-hX.out];obtain⟨nx,hnx⟩: ∃ nx,Hid (nx=(A.mv q).1):=⟨_,Z5 rfl⟩
     rw[<-hnx.out]at V9;have Z4m:=Qu.BJ V9;have Z3W: ∀ g,nv.ownBlock=some g->(Value.slice (some ⟨gq,off',none⟩) nq c').ownBlock≠some g:=fun g hg e=>by
      have h1:=(Z4m.lt g hg).1;have h2:=(H4.out.2.1.lt g e).2.1;omega
     have Z3V:=H4.out.1.low hb5 (fun g hg=>(H4.out.1.lt g hg).2.1);have Z4W:=H4.out.2.1.low hb5 (fun g hg=>(H4.out.2.1.lt g hg).2.1);have Z44:=U4 H4.out.2.2.2.1 hb5;have Z43:=H4.out.2.2.2.2.trans (hb5.mono vR);obtain⟨an,cn,rfl⟩:=ZR V9;have H5:=Qd Z3V Z4W H4.out.2.2.1 Z43 (Z4m.mono vR) Z3W;have HN:=Z5 V9;have Z4u:=Z5 Z44;have hf5:=fun(u:Nat) (hu:u < nl)=>And.intro (Z44.cell u (LM hu)) (Z44.free u);have Hf5:=Z5 hf5;clear Z3V Z4W Z44 Z43 Z4m Z3W V9 hb5 e0 e1 e2 hf5
     go_upto_block 2 with fail
     go_cut [7]from 24 to 64 (fun ev wx=> ∃ b' f',ev=.bool b'/\(∀ x,PN b' f' x↔PN b f x\/(A.mv q).2=some x)/\ZD wx gi (Bg nl f') 4/\Fr [4] W.heap.size w5 wx)
     case first=>
      have hx2:=(HM.out.2.1.mv H1.out.2.2.1).2;cases ho:(A.mv q).2 with
      |none=>
       have hx:X= -1:=by rw[hX.out,ho];rfl
       subst hx;have Ho0x:=Z5 ho;clear hx2 ho;go_wp2_with fail
       go_meet;exact⟨b,f,rfl,fH Ho0x.out,Z4u.out,Fr.refl _ _ _⟩
      |some x=>
       rcases hx2 x ho with rfl|hx
       .have hx:X= -2:=by rw[hX.out,ho];rfl
        subst hx;have Ho0x:=Z5 ho;clear hx2 ho;go_wp2_with fail
        go_meet;exact⟨true,f,rfl,iA Ho0x.out,Z4u.out,Fr.refl _ _ _⟩
       .obtain⟨u,rfl,hu⟩:=hx.cast;have hx:X=(u:Int):=by rw[hX.out,ho];rfl
        subst hx;have hun:u < nl:=by rw[HF.out.2.2];exact hu
        obtain⟨ci,cf⟩:=Hf5.out u hun;have k2:((u:Int)== -2)=false:=by rw[beq_eq_false_iff_ne];omega
        have k1:((u:Int)!= -1)=true:=by rw[bne_iff_ne];omega
        have hset:=Z4u.out.set u (.bool true);rw[fL hun]at hset;have HS:=Zl hset ((Fr.refl [4] W.heap.size w5).X9 ⟨gi,u,none⟩ (.bool true) Z4u.out.ty (by simp) Z4R);have Ho0x:=Z5 ho;clear hx2 ho hu hset;go_wp2_with fail
        go_meet;exact⟨b,_,rfl,pM Ho0x.out,HS.out.1,HS.out.2⟩
     case rest=>
      obtain⟨b',f',rfl,hrec,Du,hf6⟩:=hcut;have Z3U:=H5.out.1.fr hf6 (by decide);have Z4E:=H5.out.2.1.fr hf6 (by decide);have Z4N:=H5.out.2.2.2.2.1.fr hf6 (by decide);have Z3T:=H5.out.2.2.2.1.trans hf6.below;have H6:=Wp Z3U Z4E Z4N Du Z3T;have HR:=Z5 hrec;clear hrec Du hf6 Z3U Z4E Z4N Z3T;go_wp2_with fail
      go_loopw [8,56] (fun tv ix wx=>Z33 W gi (Bg nl f') (seen++ [q]) todo nx (.slice a4 (seen.length+1) c4) (.slice an nx.length cn) tv ix wx) (fun _ ix _=>nx.length -(intOf ix).toNat)
      case atStart=>
       refine⟨0,rfl,by omega,?_,⟨?_,H5.out.2.2.1⟩,⟨H6.out.2.2.1,H5.out.2.2.2.2.2⟩,H6.out.2.2.2.1,H6.out.2.2.2.2⟩
       .have h1:=H6.out.2.1;simp only[List.take_zero,Y9,Zn];rw[<-Hnq.out];exact h1
       .have h1:=H6.out.1;rw[Z47,Z4];exact h1
      case round=>
       obtain⟨j,rfl,hj,Z5p,Z4l,Z5c,cm,Z5n⟩:=hrel;obtain⟨ta,tc,rfl⟩:=Z5p.slice;have HT:=Wp Z5p Z4l Z5c cm Z5n;by_cases hjl:j < nx.length
       .obtain⟨y,hy⟩: ∃ y,nx[j]? =some y:=⟨_,Z9 hjl⟩
        obtain⟨gn,cn',hgn⟩:=XM HN.out (by omega);cases hgn;have g0: ∀ i,i < 3->wr.cell? ⟨gn,j*3+i,none⟩=y.cl[i]? :=fun i hi=>by
         have h1:=Z5c.1.cells (j*3+i) (by omega);rw[YR]at h1;rw[h1,Z46 hy hi]
        have y0:wr.cell? ⟨gn,j*3,none⟩=some (.int .i64 y.op):=g0 0 (by omega);have y1:wr.cell? ⟨gn,j*3+1,none⟩=some (.int .i64 y.a):=g0 1 (by omega);have y2:wr.cell? ⟨gn,j*3+2,none⟩=some (.int .i64 y.b):=g0 2 (by omega);have hy:=Z5 hy;have hb8:Below wr.heap.size wr (wr.alloc (.cells [.int .i64 y.op,.int .i64 y.a,.int .i64 y.b].toArray 118)):=(ZN _ _).alloc (Z7 _) _;have Z4k:=Z5 (Z5p.low hb8 (fun g hg=>(Z5p.lt g hg).2.1));have Z3G:=Z5n.size;have hn8:todo.length+j<=1000000000000:=by
         have h1:=Hnq.out;have h2:=HM.out.2.2.mv H1.out.2.2.1;rw[<-hnx.out]at h2;omega
        have Z3S:W.heap.size<=(wr.alloc (.cells [.int .i64 y.op,.int .i64 y.a,.int .i64 y.b].toArray 118)).heap.size:=by simp;omega
        have HB8:=Z5 hb8;clear g0 Z5p Z4l Z5c cm Z5n hb8;go_wp2_with (at_builtin;refine Ig (wr.alloc _) rfl _ _ 119 rfl W.heap.size 118 (.agg #[.int .i64 0,.int .i64 0,.int .i64 0]) 3 24 underlying119 Gb rfl (by decide) (by decide) Z4k.out (by rfl) [.int .i64 y.op,.int .i64 y.a,.int .i64 y.b] rfl ?c1 (by simp;rfl) hn8 Z3S ?_)
        case c1=>simp[Value.oneCell']
        intro a90x c9 w9 h1 h2 h3;have h3:=h3.imp id (fun⟨g,x1,x2⟩=>(⟨g,x1,by simpa using x2⟩: ∃ g,(Value.slice a90x (todo.length+j+1) c9).ownBlock=some g/\(wr.alloc (Obj.cells [Value.int .i64 y.op,Value.int .i64 y.a,Value.int .i64 y.b].toArray 118)).heap.size<=g));obtain⟨i1,⟨i2,i2'⟩,⟨i3,i3'⟩,i4,i5⟩:=HT.out;have l2:=i2.low HB8.out (fun g hg=>(i2.lt g hg).2.1);have l3:=i3.low HB8.out (fun g hg=>(i3.lt g hg).2.1);have H9:=Wp h1 (Z5m l2 i2' h2 h3) (Z5m l3 i3' h2 h3) ((U4 i4 HB8.out).grown h2 (Z7N Z4k.out (U4 i4 HB8.out).ty (by decide))) ((i5.trans (HB8.out.mono Z3G)).grown h2 Z3S (fun g hg=>(Z4k.out.lt g hg).1));clear h1 h2 h3 i1 i2 i2' i3 i3' i4 i5 l2 l3;go_wp2_with fail
        refine⟨⟨j+1,by simp,hjl,?_,H9.out.2.1,H9.out.2.2.1,H9.out.2.2.2.1,H9.out.2.2.2.2⟩,by simp[intOf];omega⟩;have e:Z5t (todo++nx.take (j+1))=Z5t (todo++nx.take j)++ [.int .i64 y.op,.int .i64 y.a,.int .i64 y.b]:=by
         rw[List.take_add_one,hy.out,<-ZI,Z47];rfl
        rw[e];exact H9.out.1
       .have hje:=Z5 (show j=nx.length by omega);clear Z5p Z4l Z5c cm Z5n;go_wp2_with fail
        have Z48:=Z5 (H1.out.2.1.take HM.out.2.1 HM.out.2.2 hnm.out HR.out);have Z4x:=(Z48.out.small HM.out.2.2).1;rw[Z4,List.length_singleton]at Z4x;go_roundg ((700000000 -(seen.length+1))*1002+(nq+nx.length))
        case rel=>
         obtain⟨i1,i2,i3,i4,i5⟩:=HT.out;have h1:=hje.out;subst h1;rw[List.take_length]at i1;refine⟨seen++ [q],todo++nx,b',f',by simp[Hnq.out],by rw[hnx.out];exact Z48.out,rfl,?_,?_,i2.2,by rw[<-HF.out.2.2];exact i4,i5⟩
         .exact i2.1
         .rw[Z4];exact i1
        case measure=>
         have h1:=H1.out.1;have h2:=Hnq.out;have h3:=HM.out.2.2.mv H1.out.2.2.1;rw[<-hnx.out]at h3;simp only[ZJ]at h1;omega
theorem Z5b {W w:World} (hb:W.heap.size<=w.heap.size) (q:Pl):Qu (w.alloc (.cells [.int .i64 q.op,.int .i64 q.a,.int .i64 q.b].toArray 118)) W.heap.size 118 3 (.slice (some ⟨w.heap.size,0,none⟩) 1 1) 1 (Z5t [q]):=
 ⟨rfl,.inr ⟨w.heap.size,0,1,_,rfl,hb,ZD.new w _ 118,by decide,by decide,by simp,rfl⟩⟩
theorem Z5k (M:QW W lo p A) (Wd:Wf A) (hs:Sm A):Calls prog 50 #[p] W (Z5a (qK A) W):=by
 have HC:=Z5 (Z5j M Wd hs (F:= [⟨1,0,0⟩]) (fun q hq=>by simp at hq;subst hq;exact Wd.zero) (by simp) ((ZN _ _).alloc (Z7 _) _) (Z5b (Z7 _) ⟨1,0,0⟩));clear M Wd hs;go_enter func50,ntmps50;go_wp2_with fail
 refine HC.out.mono ?_;rintro e w3 ⟨v',rfl,hv,hb3⟩;obtain⟨av,cv,rfl⟩:=ZR hv;have H3:=Zl hv hb3;clear hv hb3;go_wp2_with fail
 go_ret;exact⟨_,rfl,H3.out.1,H3.out.2⟩
end
end Go.Proofs.YteedbaejpdjilaaGreat
