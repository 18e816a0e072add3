/- Part of the proof: ReaD. -/
import Derived.Test.YteedbaejpdjilaaGreatYPv
set_option linter.all false
set_option maxRecDepth 100000
set_option maxHeartbeats 40000000
namespace Go.Proofs.YteedbaejpdjilaaGreat
open Go.RowKit Tryz
def Ql (h:Hd) (b e c:T):Prop:=Fm h b e c/\(h.kind=13\/h.kind=14\/h.kind=15->c.cf h.kind)
def ED (h:Hd) (b e c:T):Prop:= ∀ (w:World) (vb ve vc:Value) (b1 o1 b2 o2 b3 o3:Nat),Zi vb b1 o1 b.len->Zi ve b2 o2 e.len->e.At (YB w w.heap.size) true b2 o2->Zi vc b3 o3 c.len->c.At (YB w w.heap.size) false b3 o3->
 Calls prog 118 #[M9 h vb ve vc] w fun e' w'=>Says (Ql h b e c) e'/\Below w.heap.size w w'
theorem Xk {s:ByteArray} (h:s.toList= []):s.size=0:=by
 rw[ByteArray.toList_eq]at h;have:s.data= #[]:=Array.toList_inj.1 h;show s.data.size=0;rw[this];rfl
theorem M8 {s:ByteArray} (h:s.size=0):s.toList= []:=by
 rw[ByteArray.toList_eq];have h':s.data.size=0:=h;rw[Array.size_eq_zero_iff.1 h']
theorem CY {h:Hd} {c:T} (hk:h.kind=13\/h.kind=14\/h.kind=15) (h5: ¬ h.post=true) (h6: ¬ h.ZV=true) (h7: ¬ h.chain=true) (hz:h.target.size=0) (p:c.cf h.kind/\c.YV<=1/\(h.kind=13\/(h.kind=14/\h.cond=false)\/(h.kind=15/\0 < c.len/\h.init=false/\h.cond=false))):Ql h .nil .nil c:=by
 obtain⟨p1,p2,p3⟩:=p;refine⟨⟨by omega,fun hi=>?_,fun hi=>?_,fun hi=>absurd hi h5,fun hi=>absurd hi h6,fun hi=>absurd hi h7,fun _ _ _ _=>rfl,fun _=>rfl,fun a1 a2 a3=>by omega,fun ht=>by omega,fun hg=>by omega,p2,fun h15=>?_⟩,fun _=>p1⟩
 .rcases p3 with p|p|p
  .omega
  .omega
  .rw[p.2.2.1]at hi;cases hi
 .rcases p3 with p|p|p
  .omega
  .rw[p.2]at hi;cases hi
  .rw[p.2.2.2]at hi;cases hi
 .rcases p3 with p|p|p
  .omega
  .omega
  .exact p.2.1
theorem Ps {h:Hd} {b e c:T} (hk:1<=h.kind/\h.kind<=21) (hn:h.kind < 10\/16 < h.kind) (p2:h.init=false) (p3:h.cond=false) (p4:h.post=false) (p5:h.ZV=false) (p6:h.chain=false) (n1:b.len=0) (n2:e.len=0) (n3:c.len=0) (ht:0 < h.target.size->h.kind=17\/h.kind=18\/h.kind=19) (hg:h.kind=19->0 < h.target.size):Ql h b e c:=by
 obtain rfl:=T.len_nil n1;obtain rfl:=T.len_nil n2;obtain rfl:=T.len_nil n3;refine⟨⟨hk,fun hi=>?_,fun hi=>?_,fun hi=>?_,fun hi=>?_,fun hi=>?_,fun _ _ _ _=>rfl,fun _=>rfl,fun _ _ _=>rfl,ht,hg,by simp[T.YV],fun h15=>by omega⟩,fun h=>by omega⟩
 .rw[p2]at hi;cases hi
 .rw[p3]at hi;cases hi
 .rw[p4]at hi;cases hi
 .rw[p5]at hi;cases hi
 .rw[p6]at hi;cases hi
theorem vO {h:Hd} {b e c:T} (hk:h.kind=10) (h4: ¬ h.cond=true) (h5: ¬ h.post=true) (hz:h.target.size=0) (n3:c.len=0) (hch:h.chain=true->h.ZV=true/\ ∃ h' b' e' c',e=.st h' b' e' c' .nil/\h'.kind=10/\h'.label.size=0) (he:h.ZV=true\/e.len=0):Ql h b e c:=by
 obtain rfl:=T.len_nil n3;refine⟨⟨by omega,fun _=>.inl hk,fun hi=>absurd hi h4,fun hi=>absurd hi h5,fun _=>hk,hch,fun h10=>absurd hk h10,fun hf=>?_,fun _ _ _=>rfl,fun ht=>by omega,fun hg=>by omega,by simp[T.YV],fun h15=>by omega⟩,fun h=>by omega⟩;rcases he with h1|h1
 .rw[hf]at h1;cases h1
 .exact T.len_nil h1
theorem CW {h:Hd} {b e c:T} (hk:(h.kind < 10\/19 < h.kind)):ED h b e c:=by
 intro w vb ve vc b1 o1 b2 o2 b3 o3 s1 s2 a2 s3 a3;obtain⟨ba,bc,rfl,bl,_⟩:=ZU s1;obtain⟨ea,ec,rfl,el,hea⟩:=ZU s2;obtain⟨ca,cc,rfl,cl,_⟩:=ZU s3;obtain⟨hk0,hk1,hk2,hk3,hk4,hk5,hk6,YJ⟩:=h;simp only at hk;have k10:(hk0==10)=false:=by simp;omega
 have k11:(hk0==11)=false:=by simp;omega
 have k12:(hk0==12)=false:=by simp;omega
 have k13:(hk0==13)=false:=by simp;omega
 have k14:(hk0==14)=false:=by simp;omega
 have k15:(hk0==15)=false:=by simp;omega
 have k16:(hk0==16)=false:=by simp;omega
 have k17:(hk0==17)=false:=by simp;omega
 have k18:(hk0==18)=false:=by simp;omega
 have k19:(hk0==19)=false:=by simp;omega
 have hB:=((ZN w.heap.size w).alloc (Z7 _) (.cells [.int .i64 hk0,.string hk1,.string hk2,.bool hk3,.bool hk4,.bool hk5,.bool hk6,.bool YJ,.slice ba b.len bc,.slice ea e.len ec,.slice ca c.len cc].toArray 76)).alloc (by simp) (.cells [.int .i64 hk0,.string hk1,.string ByteArray.empty,.bool false,.bool false,.bool false,.bool false,.bool false,.slice none 0 0,.slice none 0 0,.slice none 0 0].toArray 76);have hcl:=Z5 (Rm (((w.alloc (.cells [.int .i64 hk0,.string hk1,.string hk2,.bool hk3,.bool hk4,.bool hk5,.bool hk6,.bool YJ,.slice ba b.len bc,.slice ea e.len ec,.slice ca c.len cc].toArray 76)).alloc (.cells [.int .i64 hk0,.string hk1,.string ByteArray.empty,.bool false,.bool false,.bool false,.bool false,.bool false,.slice none 0 0,.slice none 0 0,.slice none 0 0].toArray 76))) ⟨hk0,hk1,hk2,hk3,hk4,hk5,hk6,YJ⟩ ⟨hk0,hk1,ByteArray.empty,false,false,false,false,false⟩ ba ea ca b.len e.len c.len bc ec cc (.slice none 0 0) (.slice none 0 0) (.slice none 0 0) bl el cl ⟨_,_,_,rfl⟩ ⟨_,_,_,rfl⟩ ⟨_,_,_,rfl⟩);unfold M9 at hcl ⊢;clear s1 s2 a2 s3 a3 hea;have HK:=Z5 hk;clear hk;by_cases h1:1<=hk0
 .by_cases h21:hk0<=21
  .have HKK:=Zl h1 h21;go_enter func118,ntmps118;go_wp2_with fail
   refine hcl.out.mono ?_;rintro e' w1 ⟨⟨r,rfl,hP⟩,hb1⟩;have HP:=Z5 hP;have hB1:=hB.trans (hb1.mono hB.size);clear hP hcl;go_wp2_with fail
   go_ret;refine⟨⟨r,rfl,fun hr=>?_⟩,hB1⟩;obtain⟨p0,p1,p2,p3,p4,p5,p6,p7,p8⟩:=HP.out hr;have hk:=HK.out;have hz:hk2.size=0:=by
    have:hk2=ByteArray.empty:=p0;rw[this];rfl
   exact Ps ⟨h1,h21⟩ (by show hk0 < 10\/16 < hk0;omega) p1 p2 p3 p4 p5 p6 p7 p8 (fun ht=>by simp only at ht;omega) (fun hg=>by simp only at hg;omega)
  .go_enter func118,ntmps118;go_wp2_with fail
   go_ret;exact⟨⟨false,rfl,by simp⟩,hB⟩
 .go_enter func118,ntmps118;go_wp2_with fail
  go_ret;exact⟨⟨false,rfl,by simp⟩,hB⟩
theorem Fl {h:Hd} {b e c:T} (hk:h.kind=10):ED h b e c:=by
 intro w vb ve vc b1 o1 b2 o2 b3 o3 s1 s2 a2 s3 a3;obtain⟨ba,bc,rfl,bl,_⟩:=ZU s1;obtain⟨ea,ec,rfl,el,hea⟩:=ZU s2;obtain⟨ca,cc,rfl,cl,_⟩:=ZU s3;obtain⟨hk0,hk1,hk2,hk3,hk4,hk5,hk6,YJ⟩:=h;simp only at hk;subst hk;have hB:=((ZN w.heap.size w).alloc (Z7 _) (.cells [.int .i64 10,.string hk1,.string hk2,.bool hk3,.bool hk4,.bool hk5,.bool hk6,.bool YJ,.slice ba b.len bc,.slice ea e.len ec,.slice ca c.len cc].toArray 76)).alloc (by simp) (.cells [.int .i64 10,.string hk1,.string ByteArray.empty,.bool false,.bool false,.bool false,.bool false,.bool false,.slice none 0 0,.slice none 0 0,.slice none 0 0].toArray 76);unfold M9;by_cases h1:e.len=1
 .obtain⟨h',b',e',c',rfl⟩: ∃ h' b' e' c',e=.st h' b' e' c' .nil:=by
   cases e with
   |nil=>simp[T.len]at h1
   |cl=>exact absurd a2.1 (by simp)
   |st h' b' e' c' tl=>exact⟨h',b',e',c',by rw[T.len_nil (t:=tl) (by simp[T.len]at h1;exact h1)]⟩
  obtain rfl:=hea (by omega);obtain⟨_,kM,b1',o1',ve',b2',aZ,sH,b3',o3',hh,_⟩:=a2;have d0:=hh.c0.2;have d1:=hh.c1.2;have hlt2:=hh.c0.1;have h1i:(((T.st h' b' e' c' .nil).len:Int)==1)=true:=by simp[h1]
  have hlp:0 < (T.st h' b' e' c' .nil).len:=by omega
  clear s1 s2 s3 a3 hea hh h1;go_enter func118,ntmps118;go_wp2_with fail
  all_goals
   go_ret;refine⟨⟨_,rfl,fun hr=>?_⟩,by exact((ZN _ _).alloc (Z7 _) _).alloc (by simp) _⟩
   first
    |(simp at hr;done)
    |exact vO (by simp) (by first|assumption|simp) (by first|assumption|simp) (Xk (by assumption)) (by assumption) (fun hc=>by first|(simp at hc;done) |exact absurd hc (by assumption) |exact⟨by first|rfl|assumption,_,_,_,_,rfl,by assumption,Xk (by assumption)⟩) (by first|exact .inl rfl|exact .inl (by assumption) |(refine .inr ?_;simpa using hr))
 .have h1i:((e.len:Int)==1)=false:=by simp;omega
  clear s1 s2 s3 a3 hea a2;go_enter func118,ntmps118;go_wp2_with fail
  all_goals
   go_ret;refine⟨⟨_,rfl,fun hr=>?_⟩,by exact((ZN _ _).alloc (Z7 _) _).alloc (by simp) _⟩
   first
    |(simp at hr;done)
    |exact vO (by simp) (by first|assumption|simp) (by first|assumption|simp) (Xk (by assumption)) (by assumption) (fun hc=>by first|(simp at hc;done) |exact absurd hc (by assumption) |exact⟨by first|rfl|assumption,_,_,_,_,rfl,by assumption,Xk (by assumption)⟩) (by first|exact .inl rfl|exact .inl (by assumption) |(refine .inr ?_;simpa using hr))
theorem Fk {h:Hd} {b e c:T} (hk:h.kind=11):ED h b e c:=by
 intro w vb ve vc b1 o1 b2 o2 b3 o3 s1 s2 a2 s3 a3;obtain⟨ba,bc,rfl,bl,_⟩:=ZU s1;obtain⟨ea,ec,rfl,el,hea⟩:=ZU s2;obtain⟨ca,cc,rfl,cl,_⟩:=ZU s3;obtain⟨hk0,hk1,hk2,hk3,hk4,hk5,hk6,YJ⟩:=h;simp only at hk;subst hk;unfold M9;clear s1 s2 a2 s3 a3 hea;go_enter func118,ntmps118;go_wp2_with fail
 all_goals
  go_ret;refine⟨⟨_,rfl,fun hr=>?_⟩,by first|exact((ZN _ _).alloc (Z7 _) _).alloc (by simp) _⟩
  first
   |(simp at hr;done)
   |(have hz:hk2.size=0:=Xk (by assumption)
     have hr':(e.len:Int)+c.len=0:=by simpa using hr
     obtain rfl:e=.nil:=T.len_nil (by omega);obtain rfl:c=.nil:=T.len_nil (by omega);refine⟨⟨?_,?_,?_,?_,?_,?_,?_,?_,?_,?_,?_,?_,?_⟩,?_⟩<;>simp_all [T.YV])
theorem Fj {h:Hd} {b e c:T} (hk:h.kind=12):ED h b e c:=by
 intro w vb ve vc b1 o1 b2 o2 b3 o3 s1 s2 a2 s3 a3;obtain⟨ba,bc,rfl,bl,_⟩:=ZU s1;obtain⟨ea,ec,rfl,el,hea⟩:=ZU s2;obtain⟨ca,cc,rfl,cl,_⟩:=ZU s3;obtain⟨hk0,hk1,hk2,hk3,hk4,hk5,hk6,YJ⟩:=h;simp only at hk;subst hk;unfold M9;clear s1 s2 a2 s3 a3 hea;go_enter func118,ntmps118;go_wp2_with fail
 all_goals
  go_ret;refine⟨⟨_,rfl,fun hr=>?_⟩,by first|exact((ZN _ _).alloc (Z7 _) _).alloc (by simp) _⟩
  first
   |(simp at hr;done)
   |(have hz:hk2.size=0:=Xk (by assumption)
     have hr':(e.len:Int)+c.len=0:=by simpa using hr
     obtain rfl:e=.nil:=T.len_nil (by omega);obtain rfl:c=.nil:=T.len_nil (by omega);refine⟨⟨?_,?_,?_,?_,?_,?_,?_,?_,?_,?_,?_,?_,?_⟩,?_⟩<;>simp_all [T.YV])
theorem Fi {h:Hd} {b e c:T} (hk:h.kind=13):ED h b e c:=by
 intro w vb ve vc b1 o1 b2 o2 b3 o3 s1 s2 a2 s3 a3;obtain⟨ba,bc,rfl,bl,_⟩:=ZU s1;obtain⟨ea,ec,rfl,el,hea⟩:=ZU s2;obtain⟨ca,cc,rfl,cl,_⟩:=ZU s3;obtain⟨hk0,hk1,hk2,hk3,hk4,hk5,hk6,YJ⟩:=h;simp only at hk;subst hk;have hB:=((ZN w.heap.size w).alloc (Z7 _) (.cells [.int .i64 13,.string hk1,.string hk2,.bool hk3,.bool hk4,.bool hk5,.bool hk6,.bool YJ,.slice ba b.len bc,.slice ea e.len ec,.slice ca c.len cc].toArray 76)).alloc (by simp) (.cells [.int .i64 13,.string hk1,.string ByteArray.empty,.bool false,.bool false,.bool false,.bool false,.bool false,.slice none 0 0,.slice none 0 0,.slice none 0 0].toArray 76);have hcl:=Z5 (Uv _ ⟨13,hk1,hk2,hk3,hk4,hk5,hk6,YJ⟩ c ba ea b.len e.len bc ec b3 o3 _ s3 (a3.mono (YB.at hB)));have hbl:=bl;clear s1 s2 a2 s3 a3 hea;unfold M9 at hcl ⊢;cases hk5 with
 |true=>
  go_enter func118,ntmps118;go_wp2_with fail
  go_ret;exact⟨⟨false,rfl,by simp⟩,hB⟩
 |false=>
  cases hk6 with
  |true=>
   go_enter func118,ntmps118;go_wp2_with fail
   go_ret;exact⟨⟨false,rfl,by simp⟩,hB⟩
  |false=>
   cases YJ with
   |true=>
    go_enter func118,ntmps118;go_wp2_with fail
    go_ret;exact⟨⟨false,rfl,by simp⟩,hB⟩
   |false=>
    by_cases ht:hk2.toList= []
    .by_cases hs:(b.len:Int)+e.len=0
     .have hsb:((b.len:Int)+e.len==0)=true:=by simpa using hs
      have hz:hk2.size=0:=Xk ht;obtain rfl:b=.nil:=T.len_nil (by omega);obtain rfl:e=.nil:=T.len_nil (by omega);go_enter func118,ntmps118;go_wp2_with fail
      refine hcl.out.mono ?_;rintro e' w1 ⟨⟨r,rfl,hP⟩,hb1⟩;have HP:=Z5 hP;clear hP;go_wp2_with fail
      go_ret;refine⟨⟨r,rfl,fun hr=>?_⟩,hB.trans (hb1.mono hB.size)⟩;exact CY (by simp) (by simp) (by simp) (by simp) hz (by simpa using HP.out hr)
     .have hsb:((b.len:Int)+e.len==0)=false:=by simpa using hs
      go_enter func118,ntmps118;go_wp2_with fail
      go_ret;exact⟨⟨false,rfl,by simp⟩,hB⟩
    .skip
     go_enter func118,ntmps118;go_wp2_with fail
     go_ret;exact⟨⟨false,rfl,by simp⟩,hB⟩
theorem Fh {h:Hd} {b e c:T} (hk:h.kind=14):ED h b e c:=by
 intro w vb ve vc b1 o1 b2 o2 b3 o3 s1 s2 a2 s3 a3;obtain⟨ba,bc,rfl,bl,_⟩:=ZU s1;obtain⟨ea,ec,rfl,el,hea⟩:=ZU s2;obtain⟨ca,cc,rfl,cl,_⟩:=ZU s3;obtain⟨hk0,hk1,hk2,hk3,hk4,hk5,hk6,YJ⟩:=h;simp only at hk;subst hk;have hB:=((ZN w.heap.size w).alloc (Z7 _) (.cells [.int .i64 14,.string hk1,.string hk2,.bool hk3,.bool hk4,.bool hk5,.bool hk6,.bool YJ,.slice ba b.len bc,.slice ea e.len ec,.slice ca c.len cc].toArray 76)).alloc (by simp) (.cells [.int .i64 14,.string hk1,.string ByteArray.empty,.bool false,.bool false,.bool false,.bool false,.bool false,.slice none 0 0,.slice none 0 0,.slice none 0 0].toArray 76);have hcl:=Z5 (Uv _ ⟨14,hk1,hk2,hk3,hk4,hk5,hk6,YJ⟩ c ba ea b.len e.len bc ec b3 o3 _ s3 (a3.mono (YB.at hB)));have hbl:=bl;clear s1 s2 a2 s3 a3 hea;unfold M9 at hcl ⊢;cases hk5 with
 |true=>
  go_enter func118,ntmps118;go_wp2_with fail
  go_ret;exact⟨⟨false,rfl,by simp⟩,hB⟩
 |false=>
  cases hk6 with
  |true=>
   go_enter func118,ntmps118;go_wp2_with fail
   go_ret;exact⟨⟨false,rfl,by simp⟩,hB⟩
  |false=>
   cases YJ with
   |true=>
    go_enter func118,ntmps118;go_wp2_with fail
    go_ret;exact⟨⟨false,rfl,by simp⟩,hB⟩
   |false=>
    by_cases ht:hk2.toList= []
    .by_cases hs:(b.len:Int)+e.len=0
     .have hsb:((b.len:Int)+e.len==0)=true:=by simpa using hs
      have hz:hk2.size=0:=Xk ht;obtain rfl:b=.nil:=T.len_nil (by omega);obtain rfl:e=.nil:=T.len_nil (by omega);go_enter func118,ntmps118;go_wp2_with fail
      refine hcl.out.mono ?_;rintro e' w1 ⟨⟨r,rfl,hP⟩,hb1⟩;have HP:=Z5 hP;clear hP;go_wp2_with fail
      go_ret;refine⟨⟨r,rfl,fun hr=>?_⟩,hB.trans (hb1.mono hB.size)⟩;exact CY (by simp) (by simp) (by simp) (by simp) hz (by simpa using HP.out hr)
     .have hsb:((b.len:Int)+e.len==0)=false:=by simpa using hs
      go_enter func118,ntmps118;go_wp2_with fail
      go_ret;exact⟨⟨false,rfl,by simp⟩,hB⟩
    .skip
     go_enter func118,ntmps118;go_wp2_with fail
     go_ret;exact⟨⟨false,rfl,by simp⟩,hB⟩
theorem Fg {h:Hd} {b e c:T} (hk:h.kind=15):ED h b e c:=by
 intro w vb ve vc b1 o1 b2 o2 b3 o3 s1 s2 a2 s3 a3;obtain⟨ba,bc,rfl,bl,_⟩:=ZU s1;obtain⟨ea,ec,rfl,el,hea⟩:=ZU s2;obtain⟨ca,cc,rfl,cl,_⟩:=ZU s3;obtain⟨hk0,hk1,hk2,hk3,hk4,hk5,hk6,YJ⟩:=h;simp only at hk;subst hk;have hB:=((ZN w.heap.size w).alloc (Z7 _) (.cells [.int .i64 15,.string hk1,.string hk2,.bool hk3,.bool hk4,.bool hk5,.bool hk6,.bool YJ,.slice ba b.len bc,.slice ea e.len ec,.slice ca c.len cc].toArray 76)).alloc (by simp) (.cells [.int .i64 15,.string hk1,.string ByteArray.empty,.bool false,.bool false,.bool false,.bool false,.bool false,.slice none 0 0,.slice none 0 0,.slice none 0 0].toArray 76);have hcl:=Z5 (Uv _ ⟨15,hk1,hk2,hk3,hk4,hk5,hk6,YJ⟩ c ba ea b.len e.len bc ec b3 o3 _ s3 (a3.mono (YB.at hB)));have hbl:=bl;clear s1 s2 a2 s3 a3 hea;unfold M9 at hcl ⊢;cases hk5 with
 |true=>
  go_enter func118,ntmps118;go_wp2_with fail
  go_ret;exact⟨⟨false,rfl,by simp⟩,hB⟩
 |false=>
  cases hk6 with
  |true=>
   go_enter func118,ntmps118;go_wp2_with fail
   go_ret;exact⟨⟨false,rfl,by simp⟩,hB⟩
  |false=>
   cases YJ with
   |true=>
    go_enter func118,ntmps118;go_wp2_with fail
    go_ret;exact⟨⟨false,rfl,by simp⟩,hB⟩
   |false=>
    by_cases ht:hk2.toList= []
    .by_cases hs:(b.len:Int)+e.len=0
     .have hsb:((b.len:Int)+e.len==0)=true:=by simpa using hs
      have hz:hk2.size=0:=Xk ht;obtain rfl:b=.nil:=T.len_nil (by omega);obtain rfl:e=.nil:=T.len_nil (by omega);go_enter func118,ntmps118;go_wp2_with fail
      refine hcl.out.mono ?_;rintro e' w1 ⟨⟨r,rfl,hP⟩,hb1⟩;have HP:=Z5 hP;clear hP;go_wp2_with fail
      go_ret;refine⟨⟨r,rfl,fun hr=>?_⟩,hB.trans (hb1.mono hB.size)⟩;exact CY (by simp) (by simp) (by simp) (by simp) hz (by simpa using HP.out hr)
     .have hsb:((b.len:Int)+e.len==0)=false:=by simpa using hs
      go_enter func118,ntmps118;go_wp2_with fail
      go_ret;exact⟨⟨false,rfl,by simp⟩,hB⟩
    .skip
     go_enter func118,ntmps118;go_wp2_with fail
     go_ret;exact⟨⟨false,rfl,by simp⟩,hB⟩
theorem Ff {h:Hd} {b e c:T} (hk:h.kind=16):ED h b e c:=by
 intro w vb ve vc b1 o1 b2 o2 b3 o3 s1 s2 a2 s3 a3;obtain⟨ba,bc,rfl,bl,_⟩:=ZU s1;obtain⟨ea,ec,rfl,el,hea⟩:=ZU s2;obtain⟨ca,cc,rfl,cl,_⟩:=ZU s3;obtain⟨hk0,hk1,hk2,hk3,hk4,hk5,hk6,YJ⟩:=h;simp only at hk;subst hk;unfold M9;clear s1 s2 a2 s3 a3 hea;go_enter func118,ntmps118;go_wp2_with fail
 all_goals
  go_ret;refine⟨⟨_,rfl,fun hr=>?_⟩,by first|exact((ZN _ _).alloc (Z7 _) _).alloc (by simp) _⟩
  first
   |(simp at hr;done)
   |(have hz:hk2.size=0:=Xk (by assumption)
     have hr':(e.len:Int)+c.len=0:=by simpa using hr
     obtain rfl:e=.nil:=T.len_nil (by omega);obtain rfl:c=.nil:=T.len_nil (by omega);refine⟨⟨?_,?_,?_,?_,?_,?_,?_,?_,?_,?_,?_,?_,?_⟩,?_⟩<;>simp_all [T.YV])
theorem Fe {h:Hd} {b e c:T} (hk:h.kind=17):ED h b e c:=by
 intro w vb ve vc b1 o1 b2 o2 b3 o3 s1 s2 a2 s3 a3;obtain⟨ba,bc,rfl,bl,_⟩:=ZU s1;obtain⟨ea,ec,rfl,el,hea⟩:=ZU s2;obtain⟨ca,cc,rfl,cl,_⟩:=ZU s3;obtain⟨hk0,hk1,hk2,hk3,hk4,hk5,hk6,YJ⟩:=h;simp only at hk;subst hk;have hB:=((ZN w.heap.size w).alloc (Z7 _) (.cells [.int .i64 17,.string hk1,.string hk2,.bool hk3,.bool hk4,.bool hk5,.bool hk6,.bool YJ,.slice ba b.len bc,.slice ea e.len ec,.slice ca c.len cc].toArray 76)).alloc (by simp) (.cells [.int .i64 17,.string hk1,.string hk2,.bool false,.bool false,.bool false,.bool false,.bool false,.slice none 0 0,.slice none 0 0,.slice none 0 0].toArray 76);have hcl:=Z5 (Rm (((w.alloc (.cells [.int .i64 17,.string hk1,.string hk2,.bool hk3,.bool hk4,.bool hk5,.bool hk6,.bool YJ,.slice ba b.len bc,.slice ea e.len ec,.slice ca c.len cc].toArray 76)).alloc (.cells [.int .i64 17,.string hk1,.string hk2,.bool false,.bool false,.bool false,.bool false,.bool false,.slice none 0 0,.slice none 0 0,.slice none 0 0].toArray 76))) ⟨17,hk1,hk2,hk3,hk4,hk5,hk6,YJ⟩ ⟨17,hk1,hk2,false,false,false,false,false⟩ ba ea ca b.len e.len c.len bc ec cc (.slice none 0 0) (.slice none 0 0) (.slice none 0 0) bl el cl ⟨_,_,_,rfl⟩ ⟨_,_,_,rfl⟩ ⟨_,_,_,rfl⟩);unfold M9 at hcl ⊢;clear s1 s2 a2 s3 a3 hea;go_enter func118,ntmps118;go_wp2_with fail
 refine hcl.out.mono ?_;rintro e' w1 ⟨⟨r,rfl,hP⟩,hb1⟩;have hx:=XP (ZD.new w [.int .i64 17,hk1,hk2,hk3,hk4,hk5,hk6,YJ,.slice ba b.len bc,.slice ea e.len ec,.slice ca c.len cc] 76) (((ZN _ _).alloc (Z7 _) _).trans (hb1.mono (by simp)));have x0:=hx.cell 0 rfl;have x2:=hx.cell 2 rfl;have HP:=Z5 hP;have hB1:=hB.trans (hb1.mono hB.size);clear hP hcl;cases r with
 |false=>
  go_wp2_with fail
  go_ret;exact⟨⟨false,rfl,by simp⟩,hB1⟩
 |true=>
  obtain⟨_,p1,p2,p3,p4,p5,p6,p7,p8⟩:=HP.out rfl;go_wp2_with fail
  all_goals
   go_ret;refine⟨⟨_,rfl,fun hr=>?_⟩,hB1⟩
   first
    |(simp at hr;done)
    |exact Ps (by simp) (by simp) p1 p2 p3 p4 p5 p6 p7 p8 (fun _=>by simp) (fun hg=>by simp at hg)
theorem Fd {h:Hd} {b e c:T} (hk:h.kind=18):ED h b e c:=by
 intro w vb ve vc b1 o1 b2 o2 b3 o3 s1 s2 a2 s3 a3;obtain⟨ba,bc,rfl,bl,_⟩:=ZU s1;obtain⟨ea,ec,rfl,el,hea⟩:=ZU s2;obtain⟨ca,cc,rfl,cl,_⟩:=ZU s3;obtain⟨hk0,hk1,hk2,hk3,hk4,hk5,hk6,YJ⟩:=h;simp only at hk;subst hk;have hB:=((ZN w.heap.size w).alloc (Z7 _) (.cells [.int .i64 18,.string hk1,.string hk2,.bool hk3,.bool hk4,.bool hk5,.bool hk6,.bool YJ,.slice ba b.len bc,.slice ea e.len ec,.slice ca c.len cc].toArray 76)).alloc (by simp) (.cells [.int .i64 18,.string hk1,.string hk2,.bool false,.bool false,.bool false,.bool false,.bool false,.slice none 0 0,.slice none 0 0,.slice none 0 0].toArray 76);have hcl:=Z5 (Rm (((w.alloc (.cells [.int .i64 18,.string hk1,.string hk2,.bool hk3,.bool hk4,.bool hk5,.bool hk6,.bool YJ,.slice ba b.len bc,.slice ea e.len ec,.slice ca c.len cc].toArray 76)).alloc (.cells [.int .i64 18,.string hk1,.string hk2,.bool false,.bool false,.bool false,.bool false,.bool false,.slice none 0 0,.slice none 0 0,.slice none 0 0].toArray 76))) ⟨18,hk1,hk2,hk3,hk4,hk5,hk6,YJ⟩ ⟨18,hk1,hk2,false,false,false,false,false⟩ ba ea ca b.len e.len c.len bc ec cc (.slice none 0 0) (.slice none 0 0) (.slice none 0 0) bl el cl ⟨_,_,_,rfl⟩ ⟨_,_,_,rfl⟩ ⟨_,_,_,rfl⟩);unfold M9 at hcl ⊢;clear s1 s2 a2 s3 a3 hea;go_enter func118,ntmps118;go_wp2_with fail
 refine hcl.out.mono ?_;rintro e' w1 ⟨⟨r,rfl,hP⟩,hb1⟩;have hx:=XP (ZD.new w [.int .i64 18,hk1,hk2,hk3,hk4,hk5,hk6,YJ,.slice ba b.len bc,.slice ea e.len ec,.slice ca c.len cc] 76) (((ZN _ _).alloc (Z7 _) _).trans (hb1.mono (by simp)));have x0:=hx.cell 0 rfl;have x2:=hx.cell 2 rfl;have HP:=Z5 hP;have hB1:=hB.trans (hb1.mono hB.size);clear hP hcl;cases r with
 |false=>
  go_wp2_with fail
  go_ret;exact⟨⟨false,rfl,by simp⟩,hB1⟩
 |true=>
  obtain⟨_,p1,p2,p3,p4,p5,p6,p7,p8⟩:=HP.out rfl;go_wp2_with fail
  all_goals
   go_ret;refine⟨⟨_,rfl,fun hr=>?_⟩,hB1⟩
   first
    |(simp at hr;done)
    |exact Ps (by simp) (by simp) p1 p2 p3 p4 p5 p6 p7 p8 (fun _=>by simp) (fun hg=>by simp at hg)
theorem Fc {h:Hd} {b e c:T} (hk:h.kind=19):ED h b e c:=by
 intro w vb ve vc b1 o1 b2 o2 b3 o3 s1 s2 a2 s3 a3;obtain⟨ba,bc,rfl,bl,_⟩:=ZU s1;obtain⟨ea,ec,rfl,el,hea⟩:=ZU s2;obtain⟨ca,cc,rfl,cl,_⟩:=ZU s3;obtain⟨hk0,hk1,hk2,hk3,hk4,hk5,hk6,YJ⟩:=h;simp only at hk;subst hk;have hB:=((ZN w.heap.size w).alloc (Z7 _) (.cells [.int .i64 19,.string hk1,.string hk2,.bool hk3,.bool hk4,.bool hk5,.bool hk6,.bool YJ,.slice ba b.len bc,.slice ea e.len ec,.slice ca c.len cc].toArray 76)).alloc (by simp) (.cells [.int .i64 19,.string hk1,.string hk2,.bool false,.bool false,.bool false,.bool false,.bool false,.slice none 0 0,.slice none 0 0,.slice none 0 0].toArray 76);have hcl:=Z5 (Rm (((w.alloc (.cells [.int .i64 19,.string hk1,.string hk2,.bool hk3,.bool hk4,.bool hk5,.bool hk6,.bool YJ,.slice ba b.len bc,.slice ea e.len ec,.slice ca c.len cc].toArray 76)).alloc (.cells [.int .i64 19,.string hk1,.string hk2,.bool false,.bool false,.bool false,.bool false,.bool false,.slice none 0 0,.slice none 0 0,.slice none 0 0].toArray 76))) ⟨19,hk1,hk2,hk3,hk4,hk5,hk6,YJ⟩ ⟨19,hk1,hk2,false,false,false,false,false⟩ ba ea ca b.len e.len c.len bc ec cc (.slice none 0 0) (.slice none 0 0) (.slice none 0 0) bl el cl ⟨_,_,_,rfl⟩ ⟨_,_,_,rfl⟩ ⟨_,_,_,rfl⟩);unfold M9 at hcl ⊢;clear s1 s2 a2 s3 a3 hea;go_enter func118,ntmps118;go_wp2_with fail
 refine hcl.out.mono ?_;rintro e' w1 ⟨⟨r,rfl,hP⟩,hb1⟩;have hx:=XP (ZD.new w [.int .i64 19,hk1,hk2,hk3,hk4,hk5,hk6,YJ,.slice ba b.len bc,.slice ea e.len ec,.slice ca c.len cc] 76) (((ZN _ _).alloc (Z7 _) _).trans (hb1.mono (by simp)));have x0:=hx.cell 0 rfl;have x2:=hx.cell 2 rfl;have HP:=Z5 hP;have hB1:=hB.trans (hb1.mono hB.size);clear hP hcl;cases r with
 |false=>
  go_wp2_with fail
  go_ret;exact⟨⟨false,rfl,by simp⟩,hB1⟩
 |true=>
  obtain⟨_,p1,p2,p3,p4,p5,p6,p7,p8⟩:=HP.out rfl;go_wp2_with fail
  all_goals
   go_ret;refine⟨⟨_,rfl,fun hr=>?_⟩,hB1⟩
   first
    |(simp at hr;done)
    |exact Ps (by simp) (by simp) p1 p2 p3 p4 p5 p6 p7 p8 (fun _=>by simp) (fun _=>by
      refine Nat.pos_of_ne_zero (fun h0=>?_);have h0':hk2.size=0:=h0;have:=M8 h0';simp[this]at hr)
   trace_state
theorem I3 (h:Hd) (b e c:T):ED h b e c:=by
 by_cases h0:h.kind < 10\/19 < h.kind
 .exact CW h0
 .rcases(show h.kind=10\/h.kind=11\/h.kind=12\/h.kind=13\/h.kind=14\/h.kind=15\/h.kind=16\/h.kind=17\/h.kind=18\/h.kind=19 by omega)with h1|h1|h1|h1|h1|h1|h1|h1|h1|h1
  .exact Fl h1
  .exact Fk h1
  .exact Fj h1
  .exact Fi h1
  .exact Fh h1
  .exact Fg h1
  .exact Ff h1
  .exact Fe h1
  .exact Fd h1
  .exact Fc h1
end Go.Proofs.YteedbaejpdjilaaGreat
