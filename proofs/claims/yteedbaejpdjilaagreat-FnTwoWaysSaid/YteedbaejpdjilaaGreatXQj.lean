/- Part of the proof: SemY. -/
import Derived.Test.YteedbaejpdjilaaGreatXQi
set_option linter.all false
set_option maxRecDepth 100000
set_option maxHeartbeats 40000000
namespace Go.Proofs.YteedbaejpdjilaaGreat
open Go.RowKit
section
variable {ls D:List ByteArray} {env:List DF} {Ts P P':List Nat} {m:Nat} {S S' S1:BS} {G:Gr} {c0 j0 cc jj:Nat} {A:Tr} {X:Cx} {h:Hd} {b e c tl:T} {N i a p n R R2 R3 N2:Nat} {ob oe:Out} {oc:XL} {ot:Out} {os:List Nat} {opq:Prop} {Hyp:Cx->Prop} {fl:Bool} {opn:Prop}
theorem Vj (hb:WT A ls b) (fb:FL ls b) {s:ByteArray} {done:Nat} (H:Rs ls D (Vp s done none::env) Ts P m S) (hp:S.pt cc jj) {fal:Option Nat} (hfal: ∀ d,fal=some d->d∈Ts) (bs:b.Yr true) (bo:b.ok) (bf:b.fA) {fl:Bool} (hbb:b.WV ls (⟨s,false⟩::env.map DF.s) fl) (hfl:fl=true-> ∃ d,fal=some d)
  (hl:LC ls D b.labels) (hdn:done∈P) (hm:m+16*b.wt+1<=40000) {n1 i1 N1 r q:Nat} (h1:n1+b.lv false<=39000) (hi1:i1+b.it<=40000)
  {o:Out} (ho:o=b.rd.l N1 (r+1) n1 i1 r 0) (hrw:A.rs[r]? =some ⟨N,q,o.ids⟩) (hsub:Sub A N1 (r+1) n1 o.ls o.ns o.rs) (hch:Tf A (A.nd N).list os) (hos:os.length+1<=N1) (hft:b.ft (fl=true)) (hN:A.kd N=13∨A.kd N=14∨A.kd N=15) (hfr:(A.nd N).h.frame= [⟨s,false⟩])
  {S4 S5:BS} (e4:b.Zu.list n1 i1 (⟨some done,none,fal⟩::env.map DF.t) S=some S4) (e5:S4.Zm done=some S5):
  ∃ new,Rs ls (b.labels++D) (Vp s done none::env) Ts P (m+16*b.wt+1) S5∧S5.cur=none∧(∀ G,Ext S5 P G->Ext S P G∧YE A G N1 (N1+o.ns.length) new)∧
   ∀ (X:Cx) (opn:Prop),X.A=A->Ext S5 P X.G->(∀ x∈new,x∈X.L)->GL X->EX X os env->(b.opn->opn)->X.ob true true [A.behind N] (done,0)->(fl=true-> ∃ d,fal=some d∧X.ob true true [A.next r N] (d,0))->VE A r 0 cc jj X->
    X.ob false false [⟨1,r,0⟩] (cc,jj)∧(∀ x∈new,X.ob false false [x.1] x.2)∧(X.iv opn S->X.iv opn S5)∧X.V8 n1 (n1+b.lv false):=by
 subst ho;have hr:=X5 hrw;have Hf:=H.frame fal (fun d hd=>H.ts d (hfal d hd));have e4':b.Zu.list n1 i1 ((Vp s done fal::env).map DF.t) S=some S4:=e4;obtain⟨S4',f4,H4,_⟩:=fb D _ Ts P m S n1 i1 fl Hf ⟨cc,hp.1⟩ bo hbb (fun h=>let⟨d,hd⟩:=hfl h;⟨_,_,d,rfl,hd⟩) hl (by omega) h1 hi1;rw[e4']at f4;cases f4;have hsem:=hb D _ Ts P m S S4 n1 i1 fl N1 (r+1) r 0 (N::os) cc jj Hf hp bs bo bf hbb (fun h=>let⟨d,hd⟩:=hfl h;⟨_,_,d,rfl,hd⟩) hl (by omega) h1 hi1 e4' hsub (by rw[hr];exact Seg.self _) ⟨by rw[hr],hch⟩ (by simp;omega) (fun _=>hft);obtain⟨c4,j4,new,p4,g2,g3⟩:=hsem;obtain⟨H5,c5,q5,_⟩:=H4.UM p4.1 (H4.pt hdn) e5;have x5:=Xa e5 p4 H4;refine⟨new,H5.frame none (fun d hd=>by cases hd),c5,fun G hG=>?_,fun X opn hA hE hL hG hX ho hB hF hC=>?_⟩
 ·obtain⟨y4,_⟩:=x5 G hG;exact g2 G y4
 ·subst hA;obtain⟨y4,z5⟩:=x5 X.G hE;have hX':EX X (N::os) (Vp s done fal::env):=.cons hfr (fun d hd=>by cases hd;exact hB) (fun d hd=>by cases hd) hX;have hlen:(X.A.rw r).nodes.length=b.len:=by rw[hr];exact JY b bs _ _ _ _ _ _
  have hF':UR X.A r (Vp s done fal::env) fl X:=fun h=>by
   obtain⟨d,hd1,hd2⟩:=hF h;exact⟨_,_,d,rfl,hd1,by rw[hr];exact hd2⟩
  obtain⟨k1,k2,k3,k4⟩:=g3 X opn rfl y4 hL hG hX' ho ⟨hF',hC⟩ (by
   have e1:(((0:Nat):Int)+(b.len:Int))=(b.len:Int):=by omega
   rw[e1];exact Uh (N:=N) (by rw[hr]) hlen (by omega) (Yu z5 hB))
  exact⟨k1,k2,fun hiv=>Yi e5 p4 (k3 hiv),k4⟩
theorem rY {body:Nat} {q:Int} (hq:OB (some q)): ∀ (k m:Nat) (S S':BS) (cc jj:Nat),Rs ls D env Ts P m S->S.pt cc jj->body∈Ts->m+3*(k+1)<=40000->X0 body q (k+1) S=some S'->
  ∃ c',S'.pt c' 0∧(∀ G,Ext S' P G->Ext S P G∧ ∀ X:Cx,X.G=G-> ∀ bp Q,X.ob false false [bp] (body,0)->X.ob false false Q (c',0)->X.ob false false (bp::Q) (cc,jj))∧ ∀ (X:Cx) (opn:Prop),opn->X.iv opn S->X.iv opn S':=by
 intro k
 induction k with
 |zero=>
  intro m S S' cc jj H hp hb hm e;unfold X0 at e;obtain⟨S1,e1,e⟩:=Option.bind_eq_some_iff.1 e;obtain⟨S3,e3,e⟩:=Option.bind_eq_some_iff.1 e;unfold X0 at e;cases e;obtain⟨H1,c1,q1,_⟩:=H.newE (by omega) hp.1 (by decide) hq e1;obtain⟨p1,x1⟩:=XQ e1 hp;obtain⟨H3,c3,q3,_⟩:=H1.wL p1.1 (H1.ts _ hb) (H1.pt (d:=S.bks.length) (by simp)) e3;have x3:=MG e3 p1 H1;obtain⟨p4,x4⟩:=XR (d:=S.bks.length) (P':=P) H3 (by simp) (by intro x hx;simp[hx]);refine⟨_,p4,fun G hG=>?_,fun X opn ho hiv=>YQ H3 (by simp) (SL e3 p1 (.inl ho) (YJ e1 hiv))⟩;obtain⟨y1,z3⟩:=x3 G (x4 G hG);obtain⟨y0,_⟩:=x1 _ G y1;refine⟨y0,fun X hXG bp Q h1 h2=>?_⟩;subst hXG;exact Oi z3 (Q1:= [bp]) (Q2:=Q) (by intro p;simp) h1.any h2.any
 |succ k ih=>
  intro m S S' cc jj H hp hb hm e;unfold X0 at e;obtain⟨S1,e1,e⟩:=Option.bind_eq_some_iff.1 e;obtain⟨S3,e3,e⟩:=Option.bind_eq_some_iff.1 e;obtain⟨H1,c1,q1,_⟩:=H.newE (by omega) hp.1 (by decide) hq e1;obtain⟨p1,x1⟩:=XQ e1 hp;obtain⟨H3,c3,q3,_⟩:=H1.wL p1.1 (H1.ts _ hb) (H1.pt (d:=S.bks.length) (by simp)) e3;have x3:=MG e3 p1 H1;have hnP:S.bks.length∉P:=fun hp=>by have:=H.lt hp;omega
  have H4:=H3.at (d:=S.bks.length) (P':=P) (by simp) (by intro x hx;simp[hx]) H.w.nd hnP;obtain⟨p4,x4⟩:=XR (d:=S.bks.length) (P':=P) H3 (by simp) (by intro x hx;simp[hx]);obtain⟨c',p',g1,g2⟩:=ih (m+3) _ S' _ _ (H4.le (by omega)) p4 hb (by omega) e;refine⟨c',p',fun G hG=>?_,fun X opn ho hiv=>g2 X opn ho (YQ H3 (by simp) (SL e3 p1 (.inl ho) (YJ e1 hiv)))⟩;obtain⟨y4,r⟩:=g1 G hG;obtain⟨y1,z3⟩:=x3 G (x4 G y4);obtain⟨y0,_⟩:=x1 _ G y1;refine⟨y0,fun X hXG bp Q h1 h2=>?_⟩;have h3:=r X hXG bp Q h1 h2;subst hXG;exact Oi z3 (Q1:= [bp]) (Q2:=bp::Q) (by intro p;simp) h1.any h3.any
structure U7 where
 d:U2
 N:Nat
 r:Nat
 q:Nat
def U7.out (x:U7):Out:=x.d.b.rd.l x.N (x.r+1) x.d.n x.d.i x.r 0
structure MI (A:Tr) (ls:List ByteArray) (N:Nat) (os:List Nat) (fl:Bool) (x:U7):Prop where
 sem:WT A ls x.d.b
 Yr:x.d.b.Yr true
 fA:x.d.b.fA
 rw:A.rs[x.r]? =some ⟨N,x.q,x.out.ids⟩
 sub:Sub A x.N (x.r+1) x.d.n x.out.ls x.out.ns x.out.rs
 ft:x.d.b.ft (fl=true)
 hos:os.length+1<=x.N
 plain:(A.ch N x.q).plain=true
def uf (l:List VK):List Pl:=l.map fun c=>⟨1,c.list,0⟩
def Nq (l:List VK) (dx:Option U7) (none':List Pl):List Pl:=uf l++match dx with
 |some x=> [⟨1,x.r,0⟩]
 |none=>if l.any (fun c=>c.plain)=true then []else none'
def MC (A:Tr) (G:Gr) (dx:Option U7) (new:List (Pl × Pt)):Prop:= ∀ x,dx=some x->YE A G x.N (x.N+x.out.ns.length) new
def vN (X:Cx) (dx:Option U7):Prop:= ∀ x,dx=some x->X.V8 x.d.n (x.d.n+x.d.b.lv false)
def lY:Option U7->Prop
 |none=>False
 |some x=>x.d.b.opn
def D6 (A:Tr) (N:Nat) (P:List Nat) (S S':BS) (N1 N2 n1 n2 done:Nat) (os:List Nat) (env:List DF) (Q:List Pl) (c j:Nat) (dx:Option U7) (opq:Prop):Prop:=
 ∃ new,S'.pt done 0∧(∀ G,Ext S' P G->Ext S (done::P) G∧YE A G N1 N2 new∧MC A G dx new)∧
  ∀ (X:Cx) (opn:Prop),opn->X.A=A->Ext S' P X.G->(∀ x∈new,x∈X.L)->GL X->EX X os env->X.ob false false [A.behind N] (done,0)->
   X.ob false false Q (c,j)∧(∀ x∈new,X.ob false false [x.1] x.2)∧(X.iv opn S->X.iv opn S')∧X.V8 n1 n2∧vN X dx
theorem Fp {s:ByteArray} {done:Nat} {x:U7} (H:Rs ls D (Vp s done none::env) Ts (done::P) m S) (hp:S.pt cc jj) (hd:RZ ls env s x.d) (hx:MI A ls N os false x) (hl:LC ls D x.d.b.labels) (hm:m+16*x.d.b.wt+8<=40000)
  (hch:Tf A (A.nd N).list os) (hN:A.kd N=14∨A.kd N=15) (hfr:(A.nd N).h.frame= [⟨s,false⟩]) {S2 S3:BS} (e2:x.d.lr (⟨some done,none,none⟩::env.map DF.t) S=some S2) (e3:S2.Zm done=some S3) {none':List Pl} :
  D6 A N P S (S3.at done) N2 N2 n n done os env (Nq [] (some x) none') cc jj (some x) opq:=by
 obtain⟨g1,g2,g3,g5,g6⟩:=hd;obtain⟨new,H3,c3,x3,s3⟩:=Vj (fal:=none) (fl:=false) hx.sem g1 H hp (by simp) hx.Yr g2 hx.fA g3 (by simp) hl (by simp) (by omega) g5 g6 (N1:=x.N) (r:=x.r) (q:=x.q) rfl hx.rw hx.sub hch hx.hos hx.ft (by omega) hfr e2 e3;obtain⟨p3,x3'⟩:=XR (P':=P) (d:=done) H3 (by simp) (by intro p hp;simp[hp]);refine⟨new,p3,fun G hG=>?_,fun X opn ho hA hE hL hG hX hK=>?_⟩
 ·obtain⟨y1,y2⟩:=x3 G (x3' G hG);exact⟨y1,YE.nil,fun y hy=>by cases hy;exact y2⟩
 ·obtain⟨k1,k2,k3,k4⟩:=s3 X opn hA (x3' X.G hE) hL hG hX (fun _=>ho) hK.any (by simp) (fun _ _ l hl h5=>by
   have hr:=X5 hx.rw;rw[hr]at hl h5;have hl':l=A.ch N x.q:=hl;rw[hl']at h5;have h5':A.kd N=13∨(A.ch N x.q).plain=false:=h5;rw[hx.plain]at h5';rcases h5' with h5'|h5'
   ·omega
   ·cases h5')
  exact⟨k1,k2,fun hiv=>YQ H3 (by simp) (k3 hiv),Cx.V8.nil,fun y hy=>by cases hy;exact k4⟩
theorem rO {d:Nat} (H:Rs ls D env Ts P m S) (hp:S.pt cc jj) (hd:d∈P) (hP: ∀ p∈P',p∈P): ∀ G,Ext (S.at d) P' G->G.ends cc jj []:=by
 intro G hG;obtain⟨hc,k,hk,hj⟩:=hp;obtain⟨hcP,k0,hk0,hs0⟩:=H.w.cur cc hc;rw[hk]at hk0;cases hk0;obtain⟨q',g1,_,_,_,g5⟩:=hG.blk cc k hk;obtain⟨f1,f2⟩:=g5 ⟨fun e=>by
  have e':d=cc:=Option.some.inj e;exact hcP (by rw[<-e'];exact hd),fun hc=>hcP (hP _ hc),fun i y hi hy hn=>by
  obtain⟨_,r,h1,_,h3⟩:=H.w.labk i y hi;rw[hy,hk]at h1;cases h1;exact(h3 hn).2.1 (by rw[hy];exact hc)⟩
 exact⟨q',g1,by rw[f1];exact hj,by rw[f2];exact hs0⟩
end
section
variable {ls D:List ByteArray} {env:List DF} {Ts P P':List Nat} {m:Nat} {S S' S1:BS} {G:Gr} {c0 j0 cc jj:Nat} {A:Tr} {X:Cx} {h:Hd} {b e c tl:T} {N i a p n R R2 R3 N2:Nat} {ob oe:Out} {oc:XL} {ot:Out} {os:List Nat} {opq:Prop} {Hyp:Cx->Prop} {fl:Bool} {opn:Prop}
theorem YE.join {N1 N2 N3:Nat} {new:List (Pl × Pt)} (h1:YE A G N1 N2 new) (h2:YE A G N2 N3 new):YE A G N1 N3 new:=by
 intro k x g1 g2 g3 g4;by_cases h:k < N2
 ·exact h1 k x g1 h g3 g4
 ·exact h2 k x (by omega) g2 g3 g4
theorem MC.more {dx:Option U7} {new new':List (Pl × Pt)} (h:MC A G dx new) (hn: ∀ x∈new,x∈new'):MC A G dx new':=fun x hx=>(h x hx).more hn
theorem Je {q:Nat} {x:VK} (h:(A.nd N).choices[q]? =some x):A.ch N q=x:=by
 unfold Tr.ch;rw[Int.toNat_natCast,List.getD_eq_getElem?_getD,h];rfl
theorem OY {x:VK} {l:List VK} {y:U7} {z:List Pl} (h1:x.plain=true) (h2:x.list=y.r) (p:Pl):p∈Nq (x::l) none z↔p∈Nq l (some y) z:=by
 simp only[Nq,uf,List.map_cons,List.any_cons,h1,Bool.true_or,if_true,h2];simp;exact or_comm
theorem LH {x:VK} {l:List VK} {dx:Option U7} {z:List Pl} (h1:x.plain=false):Nq (x::l) dx z=⟨1,x.list,0⟩::Nq l dx z:=by
 simp[Nq,uf,List.any_cons,h1]
theorem MX {b tl:T} {k:Int} (hk:k≠13) (h:b.ft (k=13∧tl≠ .nil)):b.ft ((false:Bool)=true):=by
 have e:(k=13∧tl≠ .nil)=((false:Bool)=true):=propext ⟨fun h=>absurd h.1 hk,fun h=>absurd h (by simp)⟩;rw[<-e];exact h
theorem pX: ∀ c:T,c.Yr false-> ∀ sw N0 N R n i j k,((c.rd.c sw N0 N R n i j k).chs.any fun c=>c.plain)=true->1<=c.ZF:=by
 intro c
 induction c with
 |nil=>intro _ _ _ _ _ _ _ _ _ h;simp[T.rd]at h
 |st h b e c tl=>intro hs;exact absurd hs.1 (by simp)
 |cl x b tl _ ih=>
  intro⟨_,_,ts⟩ sw N0 N R n i j k h;simp only[T.rd,List.any_cons,Bool.or_eq_true,decide_eq_true_eq]at h;rcases h with h|h
  ·simp[T.ZF,h]
  ·have:=ih ts _ _ _ _ _ _ _ _ h;simp only[T.ZF];omega
theorem JM {s:ByteArray} {done:Nat} {dx:Option U7} (H:Rs ls D (Vp s done none::env) Ts (done::P) m S) (hp:S.pt cc jj) (hdf: ∀ d,dx=some d->RZ ls env s d.d∧MI A ls N os false d) (hl:LC ls D (Wy (dx.map U7.d))) (hm:m+16*VH (dx.map U7.d)+8<=40000)
  (hch:Tf A (A.nd N).list os) (hN:A.kd N=14∨A.kd N=15) (hfr:(A.nd N).h.frame= [⟨s,false⟩]) (e:Ul (env.map DF.t) done ((dx.map U7.d).map U2.lr) S=some S'):
  D6 A N P S S' N2 N2 n n done os env (Nq [] dx [A.behind N]) cc jj dx True:=by
 cases dx with
 |none=>
  simp only[Ul,Option.map_none]at e;obtain⟨S1,e1,e⟩:=Option.map_eq_some_iff.1 e;subst e;obtain⟨H1,c1,q1,_⟩:=H.UM hp.1 (H.pt (d:=done) (by simp)) e1;have x1:=Xa e1 hp H;obtain⟨p1,x1'⟩:=XR (P':=P) (d:=done) H1 (by simp) (by intro p hp;simp[hp]);refine⟨[],p1,fun G hG=>⟨(x1 G (x1' G hG)).1,YE.nil,fun x hx=>by cases hx⟩,fun X opn ho hA hE hL hG hX hK=>?_⟩;subst hA;have z1:=(x1 X.G (x1' X.G hE)).2;exact⟨by simpa [Nq,uf]using Yu z1 hK.any,by simp,fun hiv=>YQ H1 (by simp) (Yi e1 hp hiv),Cx.V8.nil,fun x hx=>by cases hx⟩
 |some x=>
  simp only[Ul,Option.map_some]at e;obtain⟨S2,e2,e⟩:=Option.bind_eq_some_iff.1 e;obtain⟨S3,e3,e⟩:=Option.map_eq_some_iff.1 e;subst e;exact Fp H hp (hdf x rfl).1 (hdf x rfl).2 hl hm hch hN hfr e2 e3
theorem MJ {s:ByteArray} {done:Nat} {dx:Option U7} (H:Rs ls D (Vp s done none::env) Ts (done::P) m S) (hp:S.pt cc jj) (hdf: ∀ d,dx=some d->RZ ls env s d.d∧MI A ls N os false d) (hl:LC ls D (Wy (dx.map U7.d))) (hm:m+16*VH (dx.map U7.d)+8<=40000)
  (hch:Tf A (A.nd N).list os) (hN:A.kd N=14∨A.kd N=15) (hfr:(A.nd N).h.frame= [⟨s,false⟩]) (e:Vz (env.map DF.t) done ((dx.map U7.d).map U2.lr) S=some S'):
  D6 A N P S S' N2 N2 n n done os env (Nq [] dx []) cc jj dx True:=by
 cases dx with
 |none=>
  simp only[Vz,Option.map_none]at e;cases e;obtain⟨p1,x1⟩:=XR (P':=P) (d:=done) H (by simp) (by intro p hp;simp[hp]);refine⟨[],p1,fun G hG=>⟨x1 G hG,YE.nil,fun x hx=>by cases hx⟩,fun X opn ho hA hE hL hG hX hK=>?_⟩;have z1:=rO (P':=P) (d:=done) H hp (by simp) (by intro p hp;simp[hp]) X.G hE;exact⟨by simpa [Nq,uf]using Ar z1,by simp,fun hiv=>YQ H (by simp) hiv,Cx.V8.nil,fun x hx=>by cases hx⟩
 |some x=>
  simp only[Vz,Option.map_some]at e;obtain⟨S2,e2,e⟩:=Option.bind_eq_some_iff.1 e;obtain⟨S3,e3,e⟩:=Option.map_eq_some_iff.1 e;subst e;exact Fp H hp (hdf x rfl).1 (hdf x rfl).2 hl hm hch hN hfr e2 e3
theorem KL: ∀ c:T,c.All (LZ ls)->c.All (WT A ls)-> ∀ (D:List ByteArray) (env:List DF) (Ts P:List Nat) (m:Nat) (S S':BS) (n i:Nat) (s:ByteArray) (done:Nat) (dx:Option U7) (N N1 R1 q k0:Nat) (os:List Nat) (cc jj:Nat),
  Rs ls D (Vp s done none::env) Ts (done::P) m S->S.pt cc jj->c.ok->c.Yr false->c.fA->c.cf 14->c.WV ls (⟨s,false⟩::env.map DF.s) false->(∀ d,dx=some d->RZ ls env s d.d∧MI A ls N os false d)->
  c.ZF+dx.toList.length<=1->LC ls D (c.labels++Wy (dx.map U7.d))->m+16*(c.wt+VH (dx.map U7.d))+8<=40000->n+c.lv false<=39000->i+c.it<=40000->
  c.Zu.ty n i (env.map DF.t) done ((dx.map U7.d).map U2.lr) S=some S'->
  Sub A N1 R1 n (c.rd.c false N N1 R1 n i q k0).ls (c.rd.c false N N1 R1 n i q k0).ns (c.rd.c false N N1 R1 n i q k0).rs->Seg (A.nd N).choices q (c.rd.c false N N1 R1 n i q k0).chs->Tf A (A.nd N).list os->os.length+1<=N1->A.kd N=14->(A.nd N).h.frame= [⟨s,false⟩]->
  D6 A N P S S' N1 (N1+(c.rd.c false N N1 R1 n i q k0).ns.length) n (n+c.lv false) done os env (Nq (c.rd.c false N N1 R1 n i q k0).chs dx [A.behind N]) cc jj dx True:=by
 intro c
 induction c with
 |nil=>
  intro _ _ D env Ts P m S S' n i s done dx N N1 R1 q k0 os cc jj H hp _ _ _ _ _ hdf _ hl hm _ _ e _ _ hch _ hN hfr;have:=JM (N2:=N1) (n:=n) H hp hdf (by simpa [T.labels]using hl) (by simp[T.wt]at hm;omega) hch (.inl hN) hfr e;simpa [T.rd,T.lv]using this
 |st h b e c tl=>intro _ _ D env Ts P m S S' n i s done dx N N1 R1 q k0 os cc jj H hp _ hs;exact absurd hs.1 (by simp)
 |cl x b tl _ ih=>
  intro⟨hQ,hall⟩ ⟨hSb,hSall⟩ D env Ts P m S S' n i s done dx N N1 R1 q k0 os cc jj H hp ⟨hx0,hx3,bo,tox⟩ ⟨_,bs,ts⟩ ⟨bf,tf⟩ ⟨_,_,hft,hcf⟩ ⟨hbb,htb⟩ hdf hpl hl hm hn hi e hsub hseg hch hos hN hfr;have hbFL:=hQ bs;simp only[T.wt]at hm;simp only[T.lv,Bool.false_eq_true,if_false,Nat.zero_add]at hn;simp only[T.it]at hi;simp only[T.labels,List.append_assoc]at hl;simp only[Bool.false_and]at hbb;have hnd:=List.nodup_cons.1 H.w.nd;obtain⟨tz,ob,ot,I,hrd⟩:=O4 hsub;have htz:tz=0:=by rw[I.ets];rfl
  subst htz;have hft':b.ft ((false:Bool)=true):=MX (by decide) hft;have hlv:=(SC b).1 bs bf N1 (R1+1) n (i+1) R1 0;have heb:ob=b.rd.l N1 (R1+1) n (i+1) R1 0:=I.eb;rw[<-heb]at hlv;have hsubb:Sub A N1 (R1+1) n ob.ls ob.ns ob.rs:=I.sb;have het:ot=tl.rd.c false N (N1+ob.ns.length) (R1+1+ob.rs.length) (n+b.lv false) (i+1+b.it) (q+1) k0:=by
   rw[I.et,hlv.1,hlv.2];rfl
  have hsubt:Sub A (N1+ob.ns.length) (R1+1+ob.rs.length) (n+b.lv false) ot.ls ot.ns ot.rs:=by
   have:=I.st;rw[hlv.1]at this;exact this
  have hchs:((T.cl x b tl).rd.c false N N1 R1 n i q k0).chs=⟨i,R1,decide (x=0)⟩::ot.chs:=by rw[hrd]
  have hns:((T.cl x b tl).rd.c false N N1 R1 n i q k0).ns=ob.ns++ot.ns:=by rw[hrd]
  rw[hchs]at hseg ⊢;rw[hns];obtain⟨hq,hsegt⟩:=hseg.cons;have hchq:=Je hq;have hrr:=X5 I.rw;simp only[T.Zu]at e;by_cases hx:x<=0
  ·rw[if_pos hx]at e;have hx':x=0:=by omega
   have hdn:dx=none:=by
    cases dx with
    |none=>rfl
    |some d=>simp[T.ZF,hx']at hpl
   subst hdn;obtain⟨y,hy⟩: ∃ y:U7,y=⟨⟨b,n,i+1,0,0⟩,N1,R1,q⟩:=⟨_,rfl⟩
   have hyo:y.out=ob:=by rw[hy,heb];rfl
   have hyS:MI A ls N os false y:=by
    refine⟨by rw[hy];exact hSb,by rw[hy];exact bs,by rw[hy];exact bf,?_,?_,by rw[hy];exact hft',by rw[hy];exact hos,?_⟩
    ·rw[hyo,hy];exact I.rw
    ·rw[hyo,hy];exact hsubb
    ·rw[hy];show(A.ch N q).plain=true;rw[hchq];simp[hx']
   have hyD:RZ ls env s y.d:=by rw[hy];exact⟨hbFL,bo,hbb,by show n+b.lv false<=39000;omega,by show i+1+b.it<=40000;omega⟩
   have hyd:y.d=⟨b,n,i+1,0,0⟩:=by rw[hy]
   obtain⟨new,p',g2,g3⟩:=ih hall hSall D env Ts P m S S' (n+b.lv false) (i+1+b.it) s done (some y) N (N1+ob.ns.length) (R1+1+ob.rs.length) (q+1) k0 os cc jj H hp tox ts tf hcf htb
    (fun d hd=>by cases hd;exact⟨hyD,hyS⟩) (by simp[T.ZF,hx']at hpl ⊢;omega) (by simp only[Option.map_some,hyd,Wy,Option.map_none,List.append_nil]at hl ⊢;exact hl.comm) (by simp only[Option.map_some,hyd,VH,Option.map_none]at hm ⊢;omega) (by omega) (by omega) (by simp only[Option.map_some,hyd];exact e)
    (by rw[<-het];exact hsubt) (by rw[<-het];exact hsegt) hch (by omega) hN hfr
   rw[<-het]at g2 g3;refine⟨new,p',fun G hG=>?_,fun X opn ho hA hE hL hG hX hK=>?_⟩
   ·obtain⟨y1,y2,y3⟩:=g2 G hG;have y4:=y3 y rfl;rw[hyo,show y.N=N1 by rw[hy]]at y4;refine⟨y1,?_,fun x hx=>by cases hx⟩;rw[List.length_append,<-Nat.add_assoc];exact y4.join y2
   ·obtain⟨k1,k2,k3,k4,k5⟩:=g3 X opn ho hA hE hL hG hX hK;have k6:=k5 y rfl;rw[hyd]at k6;refine⟨.eqv (OY (by simp[hx']) (by rw[hy])) k1,k2,k3,?_,fun x hx=>by cases hx⟩;rw[show(T.cl x b tl).lv false=b.lv false+tl.lv false by simp[T.lv],<-Nat.add_assoc];exact Cx.V8.app k6 k4
  ·rw[if_neg hx]at e;obtain⟨kx,hkx⟩: ∃ kx,x.toNat=kx+1:=⟨x.toNat -1,by omega⟩
   rw[hkx]at e;obtain⟨S1,e1,e⟩:=Option.bind_eq_some_iff.1 e;obtain⟨S3,e3,e⟩:=Option.bind_eq_some_iff.1 e;obtain⟨S4,e4,e⟩:=Option.bind_eq_some_iff.1 e;obtain⟨S5,e5,e⟩:=Option.bind_eq_some_iff.1 e;obtain⟨H1,c1,q1,_⟩:=H.newE (by omega) hp.1 (by decide) (YH (by omega)) e1;obtain⟨p1,x1⟩:=XQ e1 hp;have hnb:S.bks.length∉done::P:=fun hp=>by have:=H.lt hp;omega
   have H1w:=H1.watch (d:=S.bks.length) (by simp);obtain⟨S3',f3,H3,hl3,hr⟩:=Me (body:=S.bks.length) (p:=ip i) (YH (by omega)) (kx+1) (m+1) S1 cc H1w p1.1 (by simp) (by omega);rw[e3]at f3;cases f3;obtain⟨c',p3,x3,v3⟩:=rY (body:=S.bks.length) (q:=ip i) (YH (by omega)) kx (m+1) S1 S3 cc jj H1w p1 (by simp) (by omega) e3;have hrr': ∃ kq,S1.bks.length<=c'∧c' < S3.bks.length∧S3.bks[c']? =some kq∧kq.fresh∧kq.kind≠1∧kq.kind≠10:=by
    rcases hr with⟨h0,_⟩ |⟨c'',kq,h0,h1,h2,h3,h4⟩
    ·omega
    ·have h5:=p3.1;rw[h0]at h5;cases h5;exact⟨kq,h1,h2,h3,h4⟩
   obtain⟨kq,hc'1,hc'2,hkq,hkf,hk1,hk10⟩:=hrr';have c'n:c'∉S.bks.length::done::P:=fun hp=>by have:=H1.lt hp;omega
   have H4:=H3.swap (d:=S.bks.length) (P':=c'::done::P) p3.1 hkq hkf hk1 hk10 (by simp) (by
    intro p hp;rcases List.mem_cons.1 hp with rfl|hp
    ·simp
    ·exact List.mem_cons_of_mem _ (List.mem_cons_of_mem _ hp)) (List.nodup_cons.2 ⟨fun hp=>c'n (List.mem_cons_of_mem _ hp),H.w.nd⟩) (by
    intro hp;rcases List.mem_cons.1 hp with h|hp
    ·exact c'n (by simp[h])
    ·exact hnb hp)
   have p4:(S3.at S.bks.length).pt S.bks.length 0:=(XR (P':=done::P) H3 (by simp) (by intro p hp;exact List.mem_cons_of_mem _ hp)).1;obtain⟨l1,l2⟩:=LC.app (a:=b.labels) (b:=tl.labels++Wy (dx.map U7.d)) hl;obtain⟨nb,H5,c5,x5,s5⟩:=Vj (fal:=none) (fl:=false) hSb hbFL H4 p4 (by simp) bs bo bf hbb (by simp) l1 (by simp) (by omega) (n1:=n) (i1:=i+1) (N1:=N1) (r:=R1) (q:=q) (by omega) (by omega) heb I.rw hsubb hch hos hft' (by omega) hfr e4 e5;have H6:=H5.at (d:=c') (P':=done::P) (by simp) (by intro p hp;exact List.mem_cons_of_mem _ hp) H.w.nd (fun hp=>c'n (List.mem_cons_of_mem _ hp));obtain⟨p6,x6⟩:=XR (d:=c') (P':=done::P) H5 (by simp) (by intro p hp;exact List.mem_cons_of_mem _ hp);rw[p3.1]at e
   obtain⟨new,p',g2,g3⟩:=ih hall hSall _ env _ P _ (S5.at c') S' (n+b.lv false) (i+1+b.it) s done dx N (N1+ob.ns.length) (R1+1+ob.rs.length) (q+1) k0 os c' 0 H6 p6 tox ts tf hcf htb hdf (by simp[T.ZF]at hpl ⊢;omega) l2 (by omega) (by omega) (by omega) e
    (by rw[<-het];exact hsubt) (by rw[<-het];exact hsegt) hch (by omega) hN hfr
   rw[<-het]at g2 g3;have ext4: ∀ G,Ext (S3.at S.bks.length) (c'::done::P) G->Ext S3 (S.bks.length::done::P) G:=fun G hG=>hG.at (.inl (by simp)) (fun p hp=>by
    rcases List.mem_cons.1 hp with rfl|hp
    ·exact .inr p3.1
    ·exact .inl (List.mem_cons_of_mem _ hp))
   refine⟨nb++new,p',fun G hG=>?_,fun X opn ho hA hE hL hG hX hK=>?_⟩
   ·obtain⟨y1,y2,y3⟩:=g2 G hG;obtain⟨y5,y6⟩:=x5 G (x6 G y1);obtain⟨y7,_⟩:=x3 G (ext4 G y5);refine⟨(x1 _ G y7).1,?_,y3.more (fun x hx=>List.mem_append_right _ hx)⟩;rw[List.length_append,<-Nat.add_assoc];exact y6.app y2
   ·subst hA;obtain⟨y1,y2,y3⟩:=g2 X.G hE;obtain⟨y5,y6⟩:=x5 X.G (x6 X.G y1);obtain⟨y7,r7⟩:=x3 X.G (ext4 X.G y5);obtain⟨_,z1⟩:=x1 _ X.G y7;obtain⟨k1,k2,k3,k4,k5⟩:=g3 X opn ho rfl hE (fun x hx=>hL x (List.mem_append_right _ hx)) hG hX hK;obtain⟨u1,u2,u3,u4⟩:=s5 X opn rfl (x6 X.G y1) (fun x hx=>hL x (List.mem_append_left _ hx)) hG hX (fun _=>ho) hK.any (by simp) (fun _ _ l hl h5=>by
     rw[hrr]at hl ⊢;have hl':l=X.A.ch N q:=hl;rw[hchq]at hl';refine⟨rfl,fun h15=>?_,fun _=>?_⟩
     ·have h15':X.A.kd N=15:=h15;omega
     ·rw[hl'];exact⟨i,rfl,z1⟩)
    refine⟨?_,fun x hx=>(List.mem_append.1 hx).elim (u2 x) (k2 x),fun hiv=>k3 (YQ H5 (by simp) (u3 (YQ H3 (by simp) (v3 X opn ho (YJ e1 hiv))))),?_,k5⟩
    ·rw[LH (by simp;omega)];exact r7 X rfl _ _ u1 k1
    ·rw[show(T.cl x b tl).lv false=b.lv false+tl.lv false by simp[T.lv],<-Nat.add_assoc];exact Cx.V8.app u4 k4
end
section
variable {ls D:List ByteArray} {env:List DF} {Ts P P':List Nat} {m:Nat} {S S' S1:BS} {G:Gr} {c0 j0 cc jj:Nat} {A:Tr} {X:Cx} {h:Hd} {b e c tl:T} {N i a p n R R2 R3 N2:Nat} {ob oe:Out} {oc:XL} {ot:Out} {os:List Nat} {opq:Prop} {Hyp:Cx->Prop} {fl:Bool} {opn:Prop}
theorem LV: ∀ c:T,c.All (LZ ls)->c.All (WT A ls)-> ∀ (D:List ByteArray) (env:List DF) (Ts P:List Nat) (m m0:Nat) (S S':BS) (n i:Nat) (s:ByteArray) (done:Nat) (dx:Option U7) (N N1 R1 q k0:Nat) (os:List Nat) (cc jj:Nat),
  Rs ls D (Vp s done none::env) Ts (done::P) m S->S.pt cc jj->c.ok->c.Yr false->c.fA->c.cf 15->c.WV ls (⟨s,false⟩::env.map DF.s) false->(∀ d,dx=some d->RZ ls env s d.d∧MI A ls N os false d)->
  c.ZF+dx.toList.length<=1->LC ls D (c.labels++Wy (dx.map U7.d))->m+16*(c.wt+VH (dx.map U7.d))+8<=m0+c.len->m0<=40000->n+c.lv false<=39000->i+c.it<=40000->
  c.Zu.sel n i (env.map DF.t) done ((dx.map U7.d).map U2.lr) S=some S'->
  Sub A N1 R1 n (c.rd.c false N N1 R1 n i q k0).ls (c.rd.c false N N1 R1 n i q k0).ns (c.rd.c false N N1 R1 n i q k0).rs->Seg (A.nd N).choices q (c.rd.c false N N1 R1 n i q k0).chs->Tf A (A.nd N).list os->os.length+1<=N1->A.kd N=15->(A.nd N).h.frame= [⟨s,false⟩]->
  D6 A N P S S' N1 (N1+(c.rd.c false N N1 R1 n i q k0).ns.length) n (n+c.lv false) done os env (Nq (c.rd.c false N N1 R1 n i q k0).chs dx []) cc jj dx True:=by
 intro c
 induction c with
 |nil=>
  intro _ _ D env Ts P m m0 S S' n i s done dx N N1 R1 q k0 os cc jj H hp _ _ _ _ _ hdf _ hl hm hm0 _ _ e _ _ hch _ hN hfr;have:=MJ (N2:=N1) (n:=n) H hp hdf (by simpa [T.labels]using hl) (by simp[T.wt,T.len]at hm;omega) hch (.inr hN) hfr e;simpa [T.rd,T.lv]using this
 |st h b e c tl=>intro _ _ D env Ts P m m0 S S' n i s done dx N N1 R1 q k0 os cc jj H hp _ hs;exact absurd hs.1 (by simp)
 |cl x b tl _ ih=>
  intro⟨hQ,hall⟩ ⟨hSb,hSall⟩ D env Ts P m m0 S S' n i s done dx N N1 R1 q k0 os cc jj H hp ⟨hx0,hx3,bo,tox⟩ ⟨_,bs,ts⟩ ⟨bf,tf⟩ ⟨_,hx1,hft,hcf⟩ ⟨hbb,htb⟩ hdf hpl hl hm hm0 hn hi e hsub hseg hch hos hN hfr;have hbFL:=hQ bs;simp only[T.wt,T.len]at hm;have hlt:=T.Ti tl;simp only[T.lv,Bool.false_eq_true,if_false,Nat.zero_add]at hn;simp only[T.it]at hi;simp only[T.labels,List.append_assoc]at hl;simp only[Bool.false_and]at hbb;have hnd:=List.nodup_cons.1 H.w.nd;obtain⟨tz,ob,ot,I,hrd⟩:=O4 hsub;have htz:tz=0:=by rw[I.ets];rfl
  subst htz;have hft':b.ft ((false:Bool)=true):=MX (by decide) hft;have hlv:=(SC b).1 bs bf N1 (R1+1) n (i+1) R1 0;have heb:ob=b.rd.l N1 (R1+1) n (i+1) R1 0:=I.eb;rw[<-heb]at hlv;have hsubb:Sub A N1 (R1+1) n ob.ls ob.ns ob.rs:=I.sb;have het:ot=tl.rd.c false N (N1+ob.ns.length) (R1+1+ob.rs.length) (n+b.lv false) (i+1+b.it) (q+1) k0:=by
   rw[I.et,hlv.1,hlv.2];rfl
  have hsubt:Sub A (N1+ob.ns.length) (R1+1+ob.rs.length) (n+b.lv false) ot.ls ot.ns ot.rs:=by
   have:=I.st;rw[hlv.1]at this;exact this
  have hchs:((T.cl x b tl).rd.c false N N1 R1 n i q k0).chs=⟨i,R1,decide (x=0)⟩::ot.chs:=by rw[hrd]
  have hns:((T.cl x b tl).rd.c false N N1 R1 n i q k0).ns=ob.ns++ot.ns:=by rw[hrd]
  rw[hchs]at hseg ⊢;rw[hns];obtain⟨hq,hsegt⟩:=hseg.cons;have hchq:=Je hq;have hrr:=X5 I.rw;simp only[T.Zu]at e;by_cases hx:x<=0
  ·rw[if_pos hx]at e;have hx':x=0:=by omega
   have hdn:dx=none:=by
    cases dx with
    |none=>rfl
    |some d=>simp[T.ZF,hx']at hpl
   subst hdn;obtain⟨y,hy⟩: ∃ y:U7,y=⟨⟨b,n,i+1,0,0⟩,N1,R1,q⟩:=⟨_,rfl⟩
   have hyo:y.out=ob:=by rw[hy,heb];rfl
   have hyS:MI A ls N os false y:=by
    refine⟨by rw[hy];exact hSb,by rw[hy];exact bs,by rw[hy];exact bf,?_,?_,by rw[hy];exact hft',by rw[hy];exact hos,?_⟩
    ·rw[hyo,hy];exact I.rw
    ·rw[hyo,hy];exact hsubb
    ·rw[hy];show(A.ch N q).plain=true;rw[hchq];simp[hx']
   have hyD:RZ ls env s y.d:=by rw[hy];exact⟨hbFL,bo,hbb,by show n+b.lv false<=39000;omega,by show i+1+b.it<=40000;omega⟩
   have hyd:y.d=⟨b,n,i+1,0,0⟩:=by rw[hy]
   obtain⟨new,p',g2,g3⟩:=ih hall hSall D env Ts P m m0 S S' (n+b.lv false) (i+1+b.it) s done (some y) N (N1+ob.ns.length) (R1+1+ob.rs.length) (q+1) k0 os cc jj H hp tox ts tf hcf htb
    (fun d hd=>by cases hd;exact⟨hyD,hyS⟩) (by simp[T.ZF,hx']at hpl ⊢;omega) (by simp only[Option.map_some,hyd,Wy,Option.map_none,List.append_nil]at hl ⊢;exact hl.comm) (by simp only[Option.map_some,hyd,VH,Option.map_none]at hm ⊢;omega) hm0 (by omega) (by omega) (by simp only[Option.map_some,hyd];exact e)
    (by rw[<-het];exact hsubt) (by rw[<-het];exact hsegt) hch (by omega) hN hfr
   rw[<-het]at g2 g3;refine⟨new,p',fun G hG=>?_,fun X opn ho hA hE hL hG hX hK=>?_⟩
   ·obtain⟨y1,y2,y3⟩:=g2 G hG;have y4:=y3 y rfl;rw[hyo,show y.N=N1 by rw[hy]]at y4;refine⟨y1,?_,fun x hx=>by cases hx⟩;rw[List.length_append,<-Nat.add_assoc];exact y4.join y2
   ·obtain⟨k1,k2,k3,k4,k5⟩:=g3 X opn ho hA hE hL hG hX hK;have k6:=k5 y rfl;rw[hyd]at k6;refine⟨.eqv (OY (by simp[hx']) (by rw[hy])) k1,k2,k3,?_,fun x hx=>by cases hx⟩;rw[show(T.cl x b tl).lv false=b.lv false+tl.lv false by simp[T.lv],<-Nat.add_assoc];exact Cx.V8.app k6 k4
  ·rw[if_neg hx]at e;obtain⟨S1,e1,e⟩:=Option.bind_eq_some_iff.1 e;obtain⟨S2,e2,e⟩:=Option.bind_eq_some_iff.1 e;obtain⟨S3,e3,e⟩:=Option.bind_eq_some_iff.1 e;obtain⟨S4,e4,e⟩:=Option.bind_eq_some_iff.1 e;obtain⟨S5,e5,e⟩:=Option.bind_eq_some_iff.1 e;obtain⟨H1,c1,q1,_⟩:=H.newE (by omega) hp.1 (by decide) (YH (by omega)) e1;obtain⟨p1,x1⟩:=XQ e1 hp;obtain⟨H2,c2,q2,_⟩:=H1.newE (by omega) p1.1 (by decide) (YH (by omega)) e2;obtain⟨p2,x2⟩:=XQ e2 p1;have hnb:S.bks.length∉done::P:=fun hp=>by have:=H.lt hp;omega
   have hnc:S1.bks.length∉done::P:=fun hp=>by have:=H.lt hp;omega
   obtain⟨H3,c3,q3,_⟩:=H2.wL p2.1 (t:=S.bks.length) (t2:=S1.bks.length) (H2.pt (by simp)) (H2.pt (by simp)) e3;have x3:=MG e3 p2 H2;have m4: ∀ p∈S1.bks.length::done::P,p∈S1.bks.length::S.bks.length::done::P:=by intro p hp;simp at hp ⊢;rcases hp with h|h|h<;>simp[h]
   have H4:=H3.at (d:=S.bks.length) (P':=S1.bks.length::done::P) (by simp) m4 (List.nodup_cons.2 ⟨hnc,H.w.nd⟩) (by
    intro hp;rcases List.mem_cons.1 hp with h|hp
    ·omega
    ·exact hnb hp)
   obtain⟨p4,x4⟩:=XR (d:=S.bks.length) (P':=S1.bks.length::done::P) H3 (by simp) m4;obtain⟨l1,l2⟩:=LC.app (a:=b.labels) (b:=tl.labels++Wy (dx.map U7.d)) hl;obtain⟨nb,H5,c5,x5,s5⟩:=Vj (fal:=none) (fl:=false) hSb hbFL H4 p4 (by simp) bs bo bf hbb (by simp) l1 (by simp) (by omega) (n1:=n) (i1:=i+1) (N1:=N1) (r:=R1) (q:=q) (by omega) (by omega) heb I.rw hsubb hch hos hft' (by omega) hfr e4 e5;have H6:=H5.at (d:=S1.bks.length) (P':=done::P) (by simp) (by intro p hp;exact List.mem_cons_of_mem _ hp) H.w.nd hnc;obtain⟨p6,x6⟩:=XR (d:=S1.bks.length) (P':=done::P) H5 (by simp) (by intro p hp;exact List.mem_cons_of_mem _ hp)
   obtain⟨new,p',g2,g3⟩:=ih hall hSall _ env _ P _ m0 (S5.at S1.bks.length) S' (n+b.lv false) (i+1+b.it) s done dx N (N1+ob.ns.length) (R1+1+ob.rs.length) (q+1) k0 os S1.bks.length 0 H6 p6 tox ts tf hcf htb hdf (by simp[T.ZF]at hpl ⊢;omega) l2 (by omega) hm0 (by omega) (by omega) e
    (by rw[<-het];exact hsubt) (by rw[<-het];exact hsegt) hch (by omega) hN hfr
   rw[<-het]at g2 g3;refine⟨nb++new,p',fun G hG=>?_,fun X opn ho hA hE hL hG hX hK=>?_⟩
   ·obtain⟨y1,y2,y3⟩:=g2 G hG;obtain⟨y5,y6⟩:=x5 G (x6 G y1);obtain⟨y7,_⟩:=x3 G (x4 G y5);refine⟨(x1 _ G (x2 _ G y7).1).1,?_,y3.more (fun x hx=>List.mem_append_right _ hx)⟩;rw[List.length_append,<-Nat.add_assoc];exact y6.app y2
   ·subst hA;obtain⟨y1,y2,y3⟩:=g2 X.G hE;obtain⟨y5,y6⟩:=x5 X.G (x6 X.G y1);obtain⟨y7,z3⟩:=x3 X.G (x4 X.G y5);obtain⟨_,z1⟩:=x1 _ X.G (x2 _ X.G y7).1;obtain⟨k1,k2,k3,k4,k5⟩:=g3 X opn ho rfl hE (fun x hx=>hL x (List.mem_append_right _ hx)) hG hX hK;obtain⟨u1,u2,u3,u4⟩:=s5 X opn rfl (x6 X.G y1) (fun x hx=>hL x (List.mem_append_left _ hx)) hG hX (fun _=>ho) hK.any (by simp) (fun _ _ l hl h5=>by
     rw[hrr]at hl ⊢;have hl':l=X.A.ch N q:=hl;rw[hchq]at hl';refine⟨rfl,fun _=>⟨_,z1⟩,fun h15=>?_⟩;have h15':X.A.kd N≠15:=h15;omega)
    refine⟨?_,fun x hx=>(List.mem_append.1 hx).elim (u2 x) (k2 x),fun hiv=>k3 (YQ H5 (by simp) (u3 (YQ H3 (by simp) (SL e3 p2 (.inl ho) (YJ e2 (YJ e1 hiv)))))),?_,k5⟩
    ·rw[LH (by simp;omega)];exact Oi z3 (Q1:= [⟨1,R1,0⟩]) (Q2:=Nq ot.chs dx []) (by intro p;simp) u1.any k1.any
    ·rw[show(T.cl x b tl).lv false=b.lv false+tl.lv false by simp[T.lv],<-Nat.add_assoc];exact Cx.V8.app u4 k4
end
section
variable {ls D:List ByteArray} {env:List DF} {Ts P P':List Nat} {m:Nat} {S S' S1:BS} {G:Gr} {c0 j0 cc jj:Nat} {A:Tr} {X:Cx} {h:Hd} {b e c tl:T} {N i a p n R R2 R3 N2:Nat} {ob oe:Out} {oc:XL} {ot:Out} {os:List Nat} {opq:Prop} {Hyp:Cx->Prop} {fl:Bool} {opn:Prop}
theorem Jw (I:PI A h b e c tl N R n i a p ob oe oc ot R2 R3) (hb:h.ZR=false) (he:h.hasElse=false):ob=.none∧oe=.none∧oc=c.rd.c (h.kind==13) N (N+1) R (n+h.own) (i+1) 0 0∧Sub A (N+1) R (n+h.own) oc.ls oc.ns oc.rs:=by
 have hown:h.own=(h.Zd N).length:=Y9.1.symm;have h1:ob=.none:=by rw[I.eb];unfold vI;rw[if_neg (by simp[hb])]
 have h2:oe=.none:=by rw[I.ee];unfold wV;rw[if_neg (by simp[he])]
 subst h1;subst h2;have hR2:R2=R:=by rw[I.eR2,if_neg (by simp[hb])];rfl
 have hR3:R3=R:=by rw[I.eR3,if_neg (by simp[he]),hR2];rfl
 have h3:=I.ec;have h4:=I.sc;rw[hR3,<-hown]at h3 h4;exact⟨rfl,rfl,h3,h4⟩
theorem Gm (H:WL A h N i a p n R R2 oc) (hk:h.kind=14):A.mv ⟨4,N,0⟩=(Nq oc.chs none [A.behind N],none):=by
 unfold Tr.mv;rw[if_neg (by show(4:Int)≠1;decide),if_neg (by show(4:Int)≠2;decide),if_neg (by show(4:Int)≠3;decide),if_pos rfl];show(A.chosen N,_)=_;unfold Tr.chosen;have h1:A.kd N=14:=by rw[H.kd];exact hk
 have h2:(A.nd N).choices=oc.chs:=by rw[H.eq];rfl
 rw[h1,h2];simp[Nq,uf]
theorem GV (H:WL A h N i a p n R R2 oc) (hk:h.kind=15):A.mv ⟨4,N,0⟩=(Nq oc.chs none [],none):=by
 unfold Tr.mv;rw[if_neg (by show(4:Int)≠1;decide),if_neg (by show(4:Int)≠2;decide),if_neg (by show(4:Int)≠3;decide),if_pos rfl];show(A.chosen N,_)=_;unfold Tr.chosen;have h1:A.kd N=15:=by rw[H.kd];exact hk
 have h2:(A.nd N).choices=oc.chs:=by rw[H.eq];rfl
 rw[h1,h2];simp[Nq,uf]
theorem Wn {h:Hd} (hk:h.kind=13∨h.kind=14∨h.kind=15):h.frame= [⟨h.label,false⟩]:=by unfold Hd.frame;rw[if_neg (by omega),if_pos hk]
theorem QK {s:ByteArray} (H:Rs ls D env Ts P m S) (hp:S.pt cc jj) {lab:Option Nat} (hlab:YA D S env s lab) {k:Int} (hk:1 < k∧k<=19∧k≠10) {q:Int} (ho:OB (some q)) (hm:m+2<=40000) (e:S.newP k (some q)=some S1):
  Rs ls D (Vp s S.bks.length none::env) (S.bks.length::Ts) (S.bks.length::P) (m+1) (S1.YD lab S.bks.length)∧(S1.YD lab S.bks.length).pt cc jj∧(∀ G,Ext (S1.YD lab S.bks.length) (S.bks.length::P) G->Ext S P G)∧ ∀ X opn,Cx.iv X opn S->X.iv opn (S1.YD lab S.bks.length):=by
 obtain⟨S1',f1,H1,_⟩:=Ro H hp.1 hlab hk ho hm;rw[e]at f1;cases f1;obtain⟨p1,x1⟩:=XQ e hp;exact⟨H1,JQ p1,fun G hG=>(x1 P G hG.brk).1,fun X opn hiv=>Iv.brk (YJ e hiv)⟩
theorem Gj (hc:c.All (LZ ls)) (hs:c.All (WT A ls)) (H:Rs ls D env Ts P m S) (hp:S.pt c0 j0) (I:PI A h b e c tl N R n i a p ob oe oc ot R2 R3) (In:WL A h N i a p n R R2 oc) (hf:SA h b e c) (hk:h.kind=14) {lab:Option Nat} (hlab:YA D S env h.label lab) (cs:c.Yr false) (co:c.ok) (cf:c.fA)
  (bc:c.WV ls (⟨h.label,false⟩::env.map DF.s) false) (hl:LC ls D c.labels) (hm:m+14+16*c.wt<=40000) (hn:n+h.own+c.lv false<=39000) (hi:i+1+c.it<=40000) (hch:Tf A a os) (hos:os.length<=N)
  (e':TI h n i lab (fun done=>c.Zu.ty (n+h.own) (i+1) (env.map DF.t) done none) S=some S') (hopq:opq):
  Ol A P S S' (N+1) (N+1+oc.ns.length) n (n+h.own+c.lv false) os env ⟨1,a,p⟩ c0 j0 ⟨1,a,(p:Int)+1⟩ opq Hyp:=by
 have hlf:h.ZP=false:=Xz (by omega);have hp0:h.post=false:=by
  cases hi:h.post with
  |false=>rfl
  |true=>have:=hf.1.pst hi;omega
 have hc0:h.cond=false:=by
  cases hi:h.cond with
  |false=>rfl
  |true=>have:=hf.1.cnd hi;omega
 have hel:h.hasElse=false:=by
  cases hi:h.hasElse with
  |false=>rfl
  |true=>have:=hf.1.els hi;omega
 have hcc:h.hasCond=false:=by unfold Hd.hasCond;rw[hc0,hk];rfl
 have hbd:h.ZR=false:=by
  cases hb:h.ZR with
  |false=>rfl
  |true=>have:=Ze.1 hb;omega
 have hin:h.init.toNat<=1:=Bool.toNat_le h.init;obtain⟨i1,i2,i3,i4⟩:=Jw I hbd hel;rw[show(h.kind==13)=false by simp[hk]]at i3;have hli:(A.nd N).list=a:=by rw[In.eq];rfl
 have hchs:(A.nd N).choices=oc.chs:=by rw[In.eq];rfl
 have hkd:A.kd N=14:=by rw[In.kd];exact hk
 have hfr:(A.nd N).h.frame= [⟨h.label,false⟩]:=by rw[In.eq];exact Wn (h:=h) (by omega)
 have hpl:=hf.1.pl;unfold TI at e';obtain⟨S1,e1,e'⟩:=Option.bind_eq_some_iff.1 e';obtain⟨S2,e2,e'⟩:=Option.bind_eq_some_iff.1 e';obtain⟨S3,e3,e'⟩:=Option.bind_eq_some_iff.1 e';obtain⟨H1,q1,w1⟩:=H.QJ (by omega) hp.1 (by omega) e1;obtain⟨p1,x1⟩:=Um e1 hp;have H2:=H1.Pn (by omega) p1.1 Hg e2;obtain⟨p2,x2⟩:=Xn e2 p1;have w2:S2.Z4=S1.Z4:=by
  obtain⟨k,_,_,hS⟩:=WR e2 p1;rw[hS];rfl
 obtain⟨H3,p3,x3,v3⟩:=QK (s:=h.label) H2 p2 (hlab.same (by rw[w2,w1])) (by decide) (YH (by omega)) (by omega) e3
 obtain⟨new,p',g2,g3⟩:=KL c hc hs D env (S2.bks.length::Ts) P (m+3) _ S' (n+h.own) (i+1) h.label S2.bks.length none N (N+1) R 0 0 os _ _ (H3.le (by omega)) p3 co cs cf (by have:=hf.2 (by omega);rw[hk]at this;exact this) bc (by simp) (by simp;exact hpl) (by simpa [Wy]using hl) (by simp only[Option.map_none,VH];omega) (by omega) (by omega) e'
  (by rw[<-i3];exact i4) (by rw[<-i3,hchs];exact Seg.self _) (by rw[hli];exact hch) (by omega) hkd hfr
 rw[<-i3]at g2 g3;refine⟨_,_,new,p',fun G hG=>?_,fun X opn hA hE hL hG hX ho _ hK=>?_⟩
 ·obtain⟨y1,y2,_⟩:=g2 G hG;exact⟨(x1 P G (x2 P G (x3 G y1)).1).1,y2⟩
 ·subst hA;obtain⟨y1,_,_⟩:=g2 X.G hE;obtain⟨y2,z2⟩:=x2 P X.G (x3 X.G y1);obtain⟨y3,z1⟩:=x1 P X.G y2;obtain⟨k1,k2,k3,k4,_⟩:=g3 X opn (ho hopq) rfl hE hL hG hX (by rw[In.behind];exact hK);have ent: ∀ fs fg,X.ob fs fg [X.A.entered N] (c0,j0+h.init.toNat):=fun fs fg=>by
   rw[Rh In (.inl hk)];exact Ut z2 rfl (.sp (Gm In hk) k1.any)
  refine⟨Tc In hlf z1 ent,k2,fun hiv=>k3 (v3 X opn (XW e2 p1 H1 (.inl ⟨rfl,rfl⟩) (Vq e1 hp H (J7 In hlf ent) hiv))),?_⟩;exact Cx.V8.app (Ud In hlf (fun hi=>⟨_,_,z1 hi⟩) (fun hc=>by rw[hcc]at hc;cases hc) (fun hp=>by rw[hp0]at hp;cases hp)) k4
theorem FY: ∀ c:T,∀ (m:Nat) (S S':BS) (cc jj:Nat),Rs ls D env Ts P m S->S.pt cc jj->c.Yr false->m+c.len<=40000->c.Zu.comms S=some S'->
  ∃ j',S'.pt cc j'∧(∀ G,Ext S' P G->Ext S P G∧ ∀ X:Cx,X.G=G-> ∀ fs Q,X.ob fs true Q (cc,j')->X.ob fs true Q (cc,jj))∧(∀ G,Ext S' P G-> ∀ X:Cx,X.G=G-> ∀ Q,X.ob false false Q (cc,j')->X.ob false false Q (cc,jj))∧ ∀ X opn,Cx.iv X opn S->X.iv opn S':=by
 intro c
 induction c with
 |nil=>intro m S S' cc jj H hp _ _ e;cases e;exact⟨jj,hp,fun G hG=>⟨hG,fun _ _ _ _ h=>h⟩,fun G hG _ _ _ h=>h,fun _ _ h=>h⟩
 |st h b e c tl=>intro m S S' cc jj H hp hs;exact absurd hs.1 (by simp)
 |cl x b tl _ ih=>
  intro m S S' cc jj H hp ⟨_,_,ts⟩ hm e;simp only[T.len]at hm;simp only[T.Zu]at e;by_cases hx:0 < x
  ·rw[if_pos hx]at e;obtain⟨S1,e1,e⟩:=Option.bind_eq_some_iff.1 e;have H1:=H.Pn (by omega) hp.1 Hg e1;obtain⟨p1,x1⟩:=Xn e1 hp;obtain⟨j',p',g1,g2,g3⟩:=ih (m+1) S1 S' cc (jj+1) H1 p1 ts (by omega) e;refine⟨j',p',fun G hG=>⟨(x1 P G (g1 G hG).1).1,fun X hX fs Q hQ=>?_⟩,fun G hG X hX Q hQ=>?_,fun X opn hiv=>g3 X opn (XW e1 hp H (.inl ⟨rfl,rfl⟩) hiv)⟩
   ·have z:=(x1 P G (g1 G hG).1).2;have:=(g1 G hG).2 X hX fs Q hQ;subst hX;exact Ut z rfl this
   ·have z:=(x1 P G (g1 G hG).1).2;have:=g2 G hG X hX Q hQ;subst hX;exact Ut z rfl this.any
  ·rw[if_neg hx]at e;exact ih m S S' cc jj H hp ts (by omega) e
theorem JD (hc:c.All (LZ ls)) (hs:c.All (WT A ls)) (H:Rs ls D env Ts P m S) (hp:S.pt c0 j0) (I:PI A h b e c tl N R n i a p ob oe oc ot R2 R3) (In:WL A h N i a p n R R2 oc) (hf:SA h b e c) (hk:h.kind=15) {lab:Option Nat} (hlab:YA D S env h.label lab) (cs:c.Yr false) (co:c.ok) (cf:c.fA)
  (bc:c.WV ls (⟨h.label,false⟩::env.map DF.s) false) (hl:LC ls D c.labels) (hm:m+14+16*c.wt<=40000) (hn:n+h.own+c.lv false<=39000) (hi:i+1+c.it<=40000) (hch:Tf A a os) (hos:os.length<=N)
  (e':U4 i lab c.Zu.comms (fun done=>c.Zu.sel (n+h.own) (i+1) (env.map DF.t) done none) S=some S') (hopq:opq):
  Ol A P S S' (N+1) (N+1+oc.ns.length) n (n+h.own+c.lv false) os env ⟨1,a,p⟩ c0 j0 ⟨1,a,(p:Int)+1⟩ opq Hyp:=by
 have hlf:h.ZP=false:=Xz (by omega);have hp0:h.post=false:=by
  cases hi:h.post with
  |false=>rfl
  |true=>have:=hf.1.pst hi;omega
 have hc0:h.cond=false:=by
  cases hi:h.cond with
  |false=>rfl
  |true=>have:=hf.1.cnd hi;omega
 have hi0:h.init=false:=by
  cases hi:h.init with
  |false=>rfl
  |true=>have:=hf.1.ini hi;omega
 have hel:h.hasElse=false:=by
  cases hi:h.hasElse with
  |false=>rfl
  |true=>have:=hf.1.els hi;omega
 have hcc:h.hasCond=false:=by unfold Hd.hasCond;rw[hc0,hk];rfl
 have hbd:h.ZR=false:=by
  cases hb:h.ZR with
  |false=>rfl
  |true=>have:=Ze.1 hb;omega
 obtain⟨i1,i2,i3,i4⟩:=Jw I hbd hel;rw[show(h.kind==13)=false by simp[hk]]at i3;have hli:(A.nd N).list=a:=by rw[In.eq];rfl
 have hchs:(A.nd N).choices=oc.chs:=by rw[In.eq];rfl
 have hkd:A.kd N=15:=by rw[In.kd];exact hk
 have hfr:(A.nd N).h.frame= [⟨h.label,false⟩]:=by rw[In.eq];exact Wn (h:=h) (by omega)
 have hpl:=hf.1.pl;have hlw:=T.Ti c;unfold U4 at e';obtain⟨S2,e2,e'⟩:=Option.bind_eq_some_iff.1 e';obtain⟨S3,e3,e'⟩:=Option.bind_eq_some_iff.1 e';obtain⟨S2',f2,H2,c2,w2⟩:=KZ c m S c0 H hp.1 cs (by omega);rw[e2]at f2;cases f2;obtain⟨j2,p2,x2,x2',v2⟩:=FY c m S S2 c0 j0 H hp cs (by omega) e2;obtain⟨H3,p3,x3,v3⟩:=QK (s:=h.label) H2 p2 (hlab.same w2) (by decide) (YH (by omega)) (by omega) e3
 obtain⟨new,p',g2,g3⟩:=LV c hc hs D env (S2.bks.length::Ts) P (m+c.len+1) (m+14+16*c.wt) _ S' (n+h.own) (i+1) h.label S2.bks.length none N (N+1) R 0 0 os _ _ (H3.le (by omega)) p3 co cs cf (by have:=hf.2 (by omega);rw[hk]at this;exact this) bc (by simp) (by simp;exact hpl) (by simpa [Wy]using hl) (by simp only[Option.map_none,VH];omega) (by omega) (by omega) (by omega) e'
  (by rw[<-i3];exact i4) (by rw[<-i3,hchs];exact Seg.self _) (by rw[hli];exact hch) (by omega) hkd hfr
 rw[<-i3]at g2 g3;refine⟨_,_,new,p',fun G hG=>?_,fun X opn hA hE hL hG hX ho _ hK=>?_⟩
 ·obtain⟨y1,y2,_⟩:=g2 G hG;exact⟨(x2 G (x3 G y1)).1,y2⟩
 ·subst hA;obtain⟨y1,_,_⟩:=g2 X.G hE;obtain⟨k1,k2,k3,k4,_⟩:=g3 X opn (ho hopq) rfl hE hL hG hX (by rw[In.behind];exact hK);refine⟨Xm In.at' ?_,k2,fun hiv=>k3 (v3 X opn (v2 X opn hiv)),?_⟩
  ·rw[In.XI hlf hi0,Rh In (.inr hk)];exact(x2' X.G (x3 X.G y1) X rfl _ (.sp (GV In hk) k1.any)).any
  ·exact Cx.V8.app (Ud In hlf (fun hi=>by rw[hi0]at hi;cases hi) (fun hc=>by rw[hcc]at hc;cases hc) (fun hp=>by rw[hp0]at hp;cases hp)) k4
end
section
variable {ls D:List ByteArray} {env:List DF} {Ts P P':List Nat} {m:Nat} {S S' S1:BS} {G:Gr} {c0 j0 cc jj:Nat} {A:Tr} {X:Cx} {h:Hd} {b e c tl:T} {N i a p n R R2 R3 N2:Nat} {ob oe:Out} {oc:XL} {ot:Out} {os:List Nat} {opq:Prop} {Hyp:Cx->Prop} {fl:Bool} {opn:Prop}
theorem Ja {k:Nat} {x:Int} (h:(A.nd N).tests[k]? =some x):A.mv ⟨3,N,k⟩=([],some x):=by
 have hl:=ZW h;unfold Tr.mv;rw[if_neg (by show(3:Int)≠1;decide),if_neg (by show(3:Int)≠2;decide),if_pos rfl];show(if(k:Int) < ((A.nd N).tests.length:Int)then(([]:List Pl),some ((A.nd N).tests.getD (k:Int).toNat 0))else _)=_;rw[if_pos (by omega),Int.toNat_natCast,List.getD_eq_getElem?_getD,h];rfl
theorem Jf {k:Nat} (h:(A.nd N).tests.length=k):A.mv ⟨3,N,k⟩=([A.failed N],none):=by
 unfold Tr.mv;rw[if_neg (by show(3:Int)≠1;decide),if_neg (by show(3:Int)≠2;decide),if_pos rfl];show(if(k:Int) < ((A.nd N).tests.length:Int)then _ else([A.failed N],(none:Option Int)))=_;rw[if_neg (by omega)]
theorem rX {body:Nat} {z:Int} (hz:OB (some z)): ∀ (t m:Nat) (S S':BS) (n k cc jj:Nat),Rs ls D env Ts P m S->S.pt cc jj->body∈Ts->m+3*(t+1)<=40000->n+t+1<=40000->Yg body z (t+1) n S=some S'->
  ∃ c',S'.pt c' 0∧(∀ G,Ext S' P G->Ext S P G)∧ ∀ (X:Cx) (opn:Prop) (N:Nat) (q:Int),X.A.kd N=13->Ext S' P X.G->(∀ r,r < t+1->X.A.lf ((n+r:Nat):Int)=⟨N,5,(k+r:Nat)⟩∧n+r < X.A.ls.length∧(X.A.nd N).tests[k+r]? =some ((n+r:Nat):Int)∧(X.A.nd N).testOf[k+r]? =some q)->
   X.G.VI body 17 (X.A.ch N q).number->X.ob true true [⟨1,(X.A.ch N q).list,0⟩] (body,0)->X.ob false false [⟨3,N,((k+(t+1):Nat):Int)⟩] (c',0)->
   X.ob false false [⟨3,N,(k:Nat)⟩] (cc,jj)∧(X.iv opn S->X.iv opn S')∧X.V8 n (n+(t+1)):=by
 intro t
 induction t with
 |zero=>
  intro m S S' n k cc jj H hp hb hm hn e;unfold Yg at e;obtain⟨S1,e1,e⟩:=Option.bind_eq_some_iff.1 e;obtain⟨S2,e2,e⟩:=Option.bind_eq_some_iff.1 e;obtain⟨S3,e3,e⟩:=Option.bind_eq_some_iff.1 e;unfold Yg at e;cases e;obtain⟨H1,c1,q1,_⟩:=H.newE (by omega) hp.1 (by decide) hz e1;obtain⟨p1,x1⟩:=XQ e1 hp;have H2:=H1.Pn (by omega) p1.1 (Wi (by omega)) e2;obtain⟨p2,x2⟩:=Xn e2 p1;have nd2:=Vx e2 p1;obtain⟨H3,c3,q3,_⟩:=H2.wL p2.1 (H2.ts _ hb) (H2.pt (d:=S.bks.length) (by simp)) e3;have x3:=MG e3 p2 H2;obtain⟨p4,x4⟩:=XR (d:=S.bks.length) (P':=P) H3 (by simp) (by intro x hx;simp[hx]);refine⟨_,p4,fun G hG=>(x1 _ G (x2 _ G (x3 G (x4 G hG)).1).1).1,fun X opn N q hN hE hT hk hB hR=>?_⟩;obtain⟨y3,z3⟩:=x3 X.G (x4 X.G hE);obtain⟨y2,z2⟩:=x2 _ X.G y3;obtain⟨t1,t2,t3,t4⟩:=hT 0 (by omega);simp only[Nat.add_zero]at t1 t2 t3 t4;have hl:LG X cc jj n false:=Jk (k:=k) t1 hN t4 z3 hB (by exact_mod_cast hR.any) hk;refine⟨XA z2 rfl (Ja t3),fun hiv=>YQ H3 (by simp) (SL e3 p2 (.inr ?_) (XW e2 p1 H1 (.inr ⟨n,rfl,t2,hl⟩) (YJ e1 hiv))),V4 z2 rfl (fun hq=>?_)⟩
  ·obtain⟨kb,hk1,hk2⟩:=nd2;exact⟨kb,_,hk1,hk2,n,rfl,by unfold Tr.Ws;rw[t1];simp⟩
  ·rw[X3 (by rw[t1];show(5:Int)≠1;decide)]at hq;omega
 |succ t ih=>
  intro m S S' n k cc jj H hp hb hm hn e;unfold Yg at e;obtain⟨S1,e1,e⟩:=Option.bind_eq_some_iff.1 e;obtain⟨S2,e2,e⟩:=Option.bind_eq_some_iff.1 e;obtain⟨S3,e3,e⟩:=Option.bind_eq_some_iff.1 e;obtain⟨H1,c1,q1,_⟩:=H.newE (by omega) hp.1 (by decide) hz e1;obtain⟨p1,x1⟩:=XQ e1 hp;have H2:=H1.Pn (by omega) p1.1 (Wi (by omega)) e2;obtain⟨p2,x2⟩:=Xn e2 p1;have nd2:=Vx e2 p1;obtain⟨H3,c3,q3,_⟩:=H2.wL p2.1 (H2.ts _ hb) (H2.pt (d:=S.bks.length) (by simp)) e3;have x3:=MG e3 p2 H2;have hnP:S.bks.length∉P:=fun hp=>by have:=H.lt hp;omega
  have H4:=H3.at (d:=S.bks.length) (P':=P) (by simp) (by intro x hx;simp[hx]) H.w.nd hnP;obtain⟨p4,x4⟩:=XR (d:=S.bks.length) (P':=P) H3 (by simp) (by intro x hx;simp[hx]);obtain⟨c',p',g1,g2⟩:=ih (m+3) _ S' (n+1) (k+1) _ _ (H4.le (by omega)) p4 hb (by omega) (by omega) e;refine⟨c',p',fun G hG=>(x1 _ G (x2 _ G (x3 G (x4 G (g1 G hG))).1).1).1,fun X opn N q hN hE hT hk hB hR=>?_⟩;obtain⟨y3,z3⟩:=x3 X.G (x4 X.G (g1 X.G hE));obtain⟨y2,z2⟩:=x2 _ X.G y3;obtain⟨t1,t2,t3,t4⟩:=hT 0 (by omega);simp only[Nat.add_zero]at t1 t2 t3 t4;obtain⟨k1,k2,k3⟩:=g2 X opn N q hN hE (fun r hr=>by
   have:=hT (r+1) (by omega);rw[show n+1+r=n+(r+1)by omega,show k+1+r=k+(r+1)by omega];exact this) hk hB (by rw[show k+1+(t+1)=k+(t+1+1)by omega];exact hR)
  have hl:LG X cc jj n false:=Jk (k:=k) t1 hN t4 z3 hB (by exact_mod_cast k1.any) hk;refine⟨XA z2 rfl (Ja t3),fun hiv=>k2 (YQ H3 (by simp) (SL e3 p2 (.inr ?_) (XW e2 p1 H1 (.inr ⟨n,rfl,t2,hl⟩) (YJ e1 hiv)))),?_⟩
  ·obtain⟨kb,hk1,hk2⟩:=nd2;exact⟨kb,_,hk1,hk2,n,rfl,by unfold Tr.Ws;rw[t1];simp⟩
  ·have hc1:X.V8 n (n+1):=V4 z2 rfl (fun hq=>by
    rw[X3 (by rw[t1];show(5:Int)≠1;decide)]at hq;omega)
   rw[show n+(t+1+1)=n+1+(t+1)by omega];exact hc1.app k3
theorem EY {fall:Option Nat} {body:Nat} (e:S.UF fall i=some (body,S1)) (hp:S.pt cc jj):S1.pt cc jj∧(∀ P G,Ext S1 (body::P) G->Ext S (fall.toList++P) G∧(fall=none->G.kind body 17 (some (ip i))))∧(∀ f,fall=some f->f=body)∧ ∀ X opn,Cx.iv X opn S->X.iv opn S1:=by
 unfold BS.UF at e;cases fall with
 |none=>
  obtain⟨S2,e1,e2⟩:=Option.map_eq_some_iff.1 e;cases e2;obtain⟨p1,x1⟩:=XQ e1 hp;exact⟨p1,fun P G hG=>⟨(x1 P G hG).1,fun _=>(x1 P G hG).2⟩,(fun f hf=>by cases hf),fun X opn hiv=>YJ e1 hiv⟩
 |some f=>
  cases e;exact⟨hp,fun P G hG=>⟨hG,fun h=>by cases h⟩,fun f hf=>by cases hf;rfl,fun X opn hiv=>hiv⟩
theorem Eo {last:Bool} {done q:Nat} (e:S.UJ last done i=some (q,S1)) (hp:S.pt cc jj):S1.pt cc jj∧(∀ P G,Ext S1 ((if last then []else [q])++P) G->Ext S P G∧(last=false->G.kind q 17 (some (ip i))))∧ ∀ X opn,Cx.iv X opn S->X.iv opn S1:=by
 unfold BS.UJ at e;cases last with
 |true=>
  cases e;exact⟨hp,fun P G hG=>⟨hG,fun h=>by cases h⟩,fun X opn hiv=>hiv⟩
 |false=>
  simp only[Bool.false_eq_true,if_false]at e;obtain⟨S2,e1,e2⟩:=Option.map_eq_some_iff.1 e;cases e2;obtain⟨p1,x1⟩:=XQ e1 hp;exact⟨p1,fun P G hG=>⟨(x1 P G hG).1,fun _=>(x1 P G hG).2⟩,fun X opn hiv=>YJ e1 hiv⟩
structure BU where
 x:U7
 fl:Bool
structure mX (A:Tr) (ls:List ByteArray) (env:List DF) (Ts:List Nat) (s:ByteArray) (N:Nat) (os:List Nat) (y:BU):Prop where
 df:MI A ls N os y.fl y.x
 fb:FL ls y.x.d.b
 ok:y.x.d.b.ok
 WV:y.x.d.b.WV ls (⟨s,false⟩::env.map DF.s) y.fl
 fal:y.x.d.fal∈Ts
 hn:y.x.d.n+y.x.d.b.lv false<=39000
 hi:y.x.d.i+y.x.d.b.it<=40000
theorem mX.ok' {s:ByteArray} {y:BU} (h:mX A ls env Ts s N os y):qH ls env Ts s y.x.d:=⟨h.fb,h.ok,⟨y.fl,h.WV⟩,h.fal,h.hn,h.hi⟩
def WU (dy:Option BU):Option U2:=dy.map fun y=>y.x.d
def kP (dy:Option BU):Option U7:=dy.map BU.x
def FX (X:Cx) (N:Nat) (dy:Option BU):Prop:= ∀ y,dy=some y->y.fl=true->X.ob true true [X.A.next y.x.r N] (y.x.d.fal,0)
def mO (A:Tr) (N:Nat) (P:List Nat) (S S':BS) (N1 N2 n1 n2 R1 k0 i done:Nat) (os:List Nat) (env:List DF) (isn:Bool) (fall:Option Nat) (P0:List Nat) (cc jj:Nat) (dy:Option BU) (opq:Prop):Prop:=
 ∃ new,S'.pt done 0∧(∀ G,Ext S' P G->Ext S P0 G∧YE A G N1 N2 new∧MC A G (kP dy) new)∧
  ∀ (X:Cx) (opn:Prop),(opq->opn)->(lY (kP dy)->opn)->X.A=A->Ext S' P X.G->(∀ x∈new,x∈X.L)->GL X->EX X os env->X.ob false false [A.behind N] (done,0)->(∀ f,fall=some f->isn=false->X.G.kind f 17 (some (ip i)))->(∀ y,dy=some y->X.G.VI y.x.d.blk 17 (A.ch N y.x.q).number)->
   (∀ f,fall=some f->isn=false->X.ob false false [⟨1,R1,0⟩] (f,0))∧
   (FX X N dy->X.ob false false [⟨3,N,k0⟩] (cc,jj)∧(∀ x∈new,X.ob false false [x.1] x.2)∧(X.iv opn S->X.iv opn S')∧X.V8 n1 n2∧vN X (kP dy)∧ ∀ y,dy=some y->X.ob false false [⟨1,y.x.r,0⟩] (y.x.d.blk,0))
theorem KA {s:ByteArray} {done:Nat} {dy:Option BU} {R1 k0:Nat} {fall:Option Nat} (H:Rs ls D (Vp s done none::env) Ts (Xo (WU dy)++(done::P)) m S) (hp:S.pt cc jj) (hdf: ∀ y,dy=some y->mX A ls env Ts s N os y) (hl:LC ls D (Wy (WU dy))) (hm:m+16*VH (WU dy)+8<=40000)
  (hch:Tf A (A.nd N).list os) (hN:A.kd N=13) (hfr:(A.nd N).h.frame= [⟨s,false⟩]) (hk0:(A.nd N).tests.length=k0) (hF:A.failed N=match dy with|some y=>⟨1,y.x.r,0⟩ |none=>A.behind N)
  (e:Uf (env.map DF.t) done ((WU dy).map U2.df) S=some S'):
  mO A N P S S' N2 N2 n n R1 k0 i done os env true fall (Xo (WU dy)++(done::P)) cc jj dy False:=by
 cases dy with
 |none=>
  simp only[Uf,WU,Option.map_none]at e;obtain⟨S1,e1,e⟩:=Option.map_eq_some_iff.1 e;subst e;simp only[WU,Option.map_none,Xo,List.nil_append]at H ⊢;obtain⟨H1,c1,q1,_⟩:=H.UM hp.1 (H.pt (d:=done) (by simp)) e1;have x1:=Xa e1 hp H;obtain⟨p1,x1'⟩:=XR (P':=P) (d:=done) H1 (by simp) (by intro p hp;simp[hp]);refine⟨[],p1,fun G hG=>⟨(x1 G (x1' G hG)).1,YE.nil,fun x hx=>by cases hx⟩,fun X opn _ _ hA hE hL hG hX hK _ _=>⟨(fun f _ h=>by cases h),fun _=>?_⟩⟩;subst hA;have z1:=(x1 X.G (x1' X.G hE)).2;exact⟨.sp (Jf hk0) (by rw[hF];exact Yu z1 hK.any),by simp,fun hiv=>YQ H1 (by simp) (Yi e1 hp hiv),Cx.V8.nil,(fun x hx=>by cases hx),fun y hy=>by cases hy⟩
 |some y=>
  have hy:=hdf y rfl;simp only[Uf,WU,Option.map_some,U2.df]at e;obtain⟨S1,e1,e⟩:=Option.bind_eq_some_iff.1 e;obtain⟨S2,e2,e⟩:=Option.bind_eq_some_iff.1 e;obtain⟨S3,e3,e⟩:=Option.map_eq_some_iff.1 e;subst e;simp only[WU,Option.map_some,Xo,List.singleton_append]at H ⊢;have hn1:=List.nodup_cons.1 H.w.nd;have hnd:=List.nodup_cons.1 hn1.2;obtain⟨H1,c1,q1,_⟩:=H.UM hp.1 (H.pt (d:=y.x.d.blk) (by simp)) e1;have x1:=Xa e1 hp H;have H1':=H1.at (d:=y.x.d.blk) (P':=done::P) (by simp) (by simp;intro p hp;simp[hp]) hn1.2 hn1.1;obtain⟨p1,x1'⟩:=XR (d:=y.x.d.blk) (P':=done::P) H1 (by simp) (by simp;intro p hp;simp[hp]);obtain⟨new,H3,c3,x3,s3⟩:=Vj (fal:=some y.x.d.fal) (fl:=y.fl) hy.df.sem hy.fb H1' p1 (by intro x hx;cases hx;exact hy.fal) hy.df.Yr hy.ok hy.df.fA hy.WV (fun _=>⟨_,rfl⟩) hl (by simp) (by simp[WU,VH]at hm;omega) hy.hn hy.hi (N1:=y.x.N) (r:=y.x.r) (q:=y.x.q) rfl hy.df.rw hy.df.sub hch hy.df.hos hy.df.ft (.inl hN) hfr e2 e3;obtain⟨p3,x3'⟩:=XR (P':=P) (d:=done) H3 (by simp) (by intro p hp;simp[hp]);refine⟨new,p3,fun G hG=>?_,fun X opn _ hdo hA hE hL hG hX hK _ hY=>⟨(fun f _ h=>by cases h),fun hFX=>?_⟩⟩
  ·obtain⟨y1,y2⟩:=x3 G (x3' G hG);exact⟨(x1 G (x1' G y1)).1,YE.nil,fun x hx=>by cases hx;exact y2⟩
  ·subst hA;obtain⟨y1,_⟩:=x3 X.G (x3' X.G hE);obtain⟨_,z1⟩:=x1 X.G (x1' X.G y1);obtain⟨k1,k2,k3,k4⟩:=s3 X opn rfl (x3' X.G hE) hL hG hX (fun h=>hdo h) hK.any (fun hf=>⟨_,rfl,hFX y rfl hf⟩) (fun _ _ l hl h5=>by
    have hr:=X5 hy.df.rw;rw[hr]at hl ⊢;have hl':l=X.A.ch N y.x.q:=hl;refine⟨rfl,fun h15=>?_,fun _=>?_⟩
    ·have h15':X.A.kd N=15:=h15;omega
    ·rw[hl'];exact hY y rfl)
   refine⟨.sp (Jf hk0) (by rw[hF];exact Yu z1 k1.any),k2,fun hiv=>YQ H3 (by simp) (k3 (YQ H1 (by simp) (Yi e1 hp hiv))),Cx.V8.nil,(fun x hx=>by cases hx;exact k4),fun y' hy'=>by cases hy';exact k1⟩
end
section
variable {ls D:List ByteArray} {env:List DF} {Ts P P':List Nat} {m:Nat} {S S' S1:BS} {G:Gr} {c0 j0 cc jj:Nat} {A:Tr} {X:Cx} {h:Hd} {b e c tl:T} {N i a p n R R2 R3 N2:Nat} {ob oe:Out} {oc:XL} {ot:Out} {os:List Nat} {opq:Prop} {Hyp:Cx->Prop} {fl:Bool} {opn:Prop}
theorem Bv {b tl:T} (h:b.ft ((13:Int)=13∧tl≠ .nil)):b.ft ((!tl.isNil)=true):=by
 have e:((13:Int)=13∧tl≠ .nil)=((!tl.isNil)=true):=propext (by cases tl<;>simp[T.isNil]);rw[<-e];exact h
theorem yT {α:Type} {l:List α} {k t:Nat} {f:Nat->α} {u:List α} (h:Seg l k ((List.range t).map f++u)):(∀ r,r < t->l[k+r]? =some (f r))∧Seg l (k+t) u:=by
 obtain⟨h1,h2⟩:=h.app;simp only[List.length_map,List.length_range]at h2;refine⟨fun r hr=>?_,h2⟩;rw[h1 r (by simp;exact hr)];simp[hr]
theorem zf {α:Type} {l:List α} {k t:Nat} {x:α} {u:List α} (h:Seg l k (List.replicate t x++u)):(∀ r,r < t->l[k+r]? =some x)∧Seg l (k+t) u:=by
 obtain⟨h1,h2⟩:=h.app;simp only[List.length_replicate]at h2;refine⟨fun r hr=>?_,h2⟩;rw[h1 r (by simp;exact hr)];simp[hr]
theorem VR (tl:Bool) (q:Nat):(if tl then []else(some q).toList)=(if tl then []else [q]):=by cases tl<;>rfl
theorem Jp: ∀ c:T,c.All (LZ ls)->c.All (WT A ls)-> ∀ (D:List ByteArray) (env:List DF) (Ts P:List Nat) (m:Nat) (S S':BS) (n i:Nat) (s:ByteArray) (done:Nat) (fall:Option Nat) (dy:Option BU) (N N1 R1 q k0:Nat) (os:List Nat) (cc jj:Nat),
  Rs ls D (Vp s done none::env) Ts ((if c.isNil then []else fall.toList)++(Xo (WU dy)++(done::P))) m S->S.pt cc jj->c.ok->c.Yr false->c.fA->c.cf 13->c.WV ls (⟨s,false⟩::env.map DF.s) true->done∈Ts->(∀ y,dy=some y->mX A ls env Ts s N os y)->
  c.ZF+(Xo (WU dy)).length<=1->LC ls D (c.labels++Wy (WU dy))->m+16*(c.wt+VH (WU dy))+8<=40000->n+c.lv true<=39000->i+c.it<=40000->
  c.Zu.sw n i (env.map DF.t) done fall ((WU dy).map U2.df) S=some S'->
  Sub A N1 R1 n (c.rd.c true N N1 R1 n i q k0).ls (c.rd.c true N N1 R1 n i q k0).ns (c.rd.c true N N1 R1 n i q k0).rs->Seg (A.nd N).choices q (c.rd.c true N N1 R1 n i q k0).chs->Seg (A.nd N).tests k0 (c.rd.c true N N1 R1 n i q k0).tests->Seg (A.nd N).testOf k0 (c.rd.c true N N1 R1 n i q k0).testOf->
  (A.nd N).tests.length=k0+(c.rd.c true N N1 R1 n i q k0).tests.length->Tf A (A.nd N).list os->os.length+1<=N1->A.kd N=13->(A.nd N).h.frame= [⟨s,false⟩]->
  (A.failed N=match dy with|some y=>⟨1,y.x.r,0⟩ |none=>match(c.rd.c true N N1 R1 n i q k0).chs.find? (fun c=>c.plain)with|some c=>⟨1,c.list,0⟩ |none=>A.behind N)->
  mO A N P S S' N1 (N1+(c.rd.c true N N1 R1 n i q k0).ns.length) n (n+c.lv true) R1 k0 i done os env c.isNil fall ((if c.isNil then []else fall.toList)++(Xo (WU dy)++(done::P))) cc jj dy c.opn:=by
 intro c
 induction c with
 |nil=>
  intro _ _ D env Ts P m S S' n i s done fall dy N N1 R1 q k0 os cc jj H hp _ _ _ _ _ hdT hdf _ hl hm _ _ e _ _ _ _ hk0 hch _ hN hfr hF;have:=KA (N2:=N1) (n:=n) (i:=i) (R1:=R1) (k0:=k0) (fall:=fall) (by simpa [T.isNil]using H) hp hdf (by simpa [T.labels]using hl) (by simp[T.wt]at hm;omega) hch hN hfr (by simpa [T.rd]using hk0) (by rw[hF];cases dy<;>rfl) e;simpa [T.rd,T.lv,T.isNil,T.opn]using this
 |st h b e c tl=>intro _ _ D env Ts P m S S' n i s done fall dy N N1 R1 q k0 os cc jj H hp _ hs;exact absurd hs.1 (by simp)
 |cl x b tl _ ih=>
  intro⟨hQ,hall⟩ ⟨hSb,hSall⟩ D env Ts P m S S' n i s done fall dy N N1 R1 q k0 os cc jj H hp ⟨hx0,hx3,bo,tox⟩ ⟨_,bs,ts⟩ ⟨bf,tf⟩ ⟨_,_,hft,hcf⟩ ⟨hbb,htb⟩ hdT hdf hpl hl hm hn hi e hsub hseg hts hto hk0 hch hos hN hfr hF;have hbFL:=hQ bs;simp only[T.wt]at hm;simp only[T.lv,if_true]at hn;simp only[T.it]at hi;simp only[T.labels,List.append_assoc]at hl;simp only[Bool.true_and]at hbb;obtain⟨tz,ob,ot,I,hrd⟩:=O4 hsub;have htz:tz=x.toNat:=by rw[I.ets];rfl
  subst htz;have hft':b.ft ((!tl.isNil)=true):=Bv hft;have heb:ob=b.rd.l N1 (R1+1) (n+x.toNat) (i+1) R1 0:=I.eb;have hlv:=(SC b).1 bs bf N1 (R1+1) (n+x.toNat) (i+1) R1 0;rw[<-heb]at hlv;have het:ot=tl.rd.c true N (N1+ob.ns.length) (R1+1+ob.rs.length) (n+x.toNat+b.lv false) (i+1+b.it) (q+1) (k0+x.toNat):=by
   rw[I.et,hlv.1,hlv.2]
  have hsubt:Sub A (N1+ob.ns.length) (R1+1+ob.rs.length) (n+x.toNat+b.lv false) ot.ls ot.ns ot.rs:=by
   have:=I.st;rw[hlv.1]at this;exact this
  have hlf: ∀ r,r < x.toNat->A.ls[n+r]? =some ⟨N,5,(k0+r:Nat)⟩:=fun r hr=>by
   have:=I.lf r (by rw[List.length_map,List.length_range];exact hr);rw[this];simp[hr]
  rw[hrd]at hseg hts hto hk0 hF ⊢;obtain⟨hq,hsegt⟩:=hseg.cons;have hchq:=Je hq;obtain⟨hts1,hts2⟩:=yT hts;obtain⟨hto1,hto2⟩:=zf hto;have hk0':(A.nd N).tests.length=k0+x.toNat+ot.tests.length:=by rw[hk0];simp;omega
  have hrr:=X5 I.rw;simp only[T.Zu]at e;obtain⟨⟨body,S1⟩,e1,eA⟩:=Option.bind_eq_some_iff.1 e;obtain⟨⟨qf,S2⟩,e2,eB⟩:=Option.bind_eq_some_iff.1 eA;clear e eA;simp only at e2 eB;obtain⟨p1,x1,f1,v1⟩:=EY e1 hp;obtain⟨p2,x2,v2⟩:=Eo e2 p1;have hlist:(if(T.cl x b tl).isNil=true then([]:List Nat)else fall.toList)=fall.toList:=by simp[T.isNil]
  rw[hlist]at H ⊢;have key1:Rs ls D (Vp s done none::env) (body::Ts) (body::(Xo (WU dy)++(done::P))) (m+1) S1:=by
   unfold BS.UF at e1;cases fall with
   |none=>
    obtain⟨S2',g1,g2⟩:=Option.map_eq_some_iff.1 e1;cases g2;obtain⟨H1,_⟩:=H.newE (by omega) hp.1 (by decide) (YH (by omega)) g1;exact H1.watch (by simp)
   |some f=>
    cases e1;exact(H.watch (d:=body) (by simp)).le (by omega)
  have key2:Rs ls D (Vp s done none::env) (qf::body::Ts) ((if tl.isNil then []else [qf])++(body::(Xo (WU dy)++(done::P)))) (m+2) S2:=by
   unfold BS.UJ at e2;cases htn:tl.isNil with
   |true=>
    rw[htn]at e2;cases e2;exact⟨key1.w,(key1.le (by omega)).bd,key1.df,key1.env,fun d hd=>by
     rcases List.mem_cons.1 hd with rfl|hd
     ·exact key1.ts d (by simp[hdT])
     ·exact key1.ts d hd⟩
   |false=>
    rw[htn]at e2;simp only[Bool.false_eq_true,if_false]at e2;obtain⟨S2',g1,g2⟩:=Option.map_eq_some_iff.1 e2;cases g2;obtain⟨H2,_⟩:=key1.newE (by omega) p1.1 (by decide) (YH (by omega)) g1;exact H2.watch (by simp)
  have hPn:=key2.w.nd;have hfl:=(List.nodup_append.1 hPn)
  have hbn:=List.nodup_cons.1 hfl.2.1;have back: ∀ G,Ext S2 ((if tl.isNil then []else [qf])++(body::(Xo (WU dy)++(done::P)))) G->Ext S (fall.toList++(Xo (WU dy)++(done::P))) G∧(fall=none->G.kind body 17 (some (ip i)))∧(tl.isNil=false->G.kind qf 17 (some (ip (i+1+b.it)))):=by
   intro G hG;obtain⟨y1,z1⟩:=x2 _ G hG;obtain⟨y0,z0⟩:=x1 _ G y1;exact⟨y0,z0,z1⟩
  have hnext:A.next R1 N=⟨1,(A.ch N ((q+1:Nat):Int)).list,0⟩:=by unfold Tr.next;rw[hrr];rfl
  have hnext':tl.isNil=false->A.next R1 N=⟨1,((R1+1+ob.rs.length:Nat):Int),0⟩:=by
   intro htn;rw[hnext];cases tl with
   |nil=>simp[T.isNil]at htn
   |st h b e c tl=>exact absurd ts.1 (by simp)
   |cl x' b' tl'=>
    obtain⟨_,_,_,_,hrd'⟩:=O4 (by rw[<-het];exact hsubt:Sub A (N1+ob.ns.length) (R1+1+ob.rs.length) (n+x.toNat+b.lv false) ((T.cl x' b' tl').rd.c true N (N1+ob.ns.length) (R1+1+ob.rs.length) (n+x.toNat+b.lv false) (i+1+b.it) (q+1) (k0+x.toNat)).ls _ _);rw[het,hrd']at hsegt;rw[Je hsegt.cons.1]
  by_cases hx:x<=0
  ·rw[if_pos hx]at eB;have hx':x=0:=by omega
   have hdn:dy=none:=by
    cases dy with
    |none=>rfl
    |some d=>simp[T.ZF,hx',WU,Xo]at hpl
   subst hdn;obtain⟨y,hy⟩: ∃ y:BU,y=⟨⟨⟨b,n+x.toNat,i+1,body,qf⟩,N1,R1,q⟩,!tl.isNil⟩:=⟨_,rfl⟩
   have hyx:y.x=⟨⟨b,n+x.toNat,i+1,body,qf⟩,N1,R1,q⟩:=by rw[hy]
   have hyf:y.fl=!tl.isNil:=by rw[hy]
   have hyo:y.x.out=ob:=by rw[hyx,heb];rfl
   have hyZ:mX A ls env (qf::body::Ts) s N os y:=by
    refine⟨⟨by rw[hyx];exact hSb,by rw[hyx];exact bs,by rw[hyx];exact bf,by rw[hyo,hyx];exact I.rw,by rw[hyo,hyx];exact I.sb,by rw[hyx,hyf];exact hft',by rw[hyx];exact hos,?_⟩,by rw[hyx];exact hbFL,by rw[hyx];exact bo,by rw[hyx,hyf];exact hbb,by rw[hyx];simp,by rw[hyx];show n+x.toNat+b.lv false<=39000;omega,by rw[hyx];show i+1+b.it<=40000;omega⟩;rw[hyx];show(A.ch N q).plain=true;rw[hchq];simp[hx']
   have hyI:WU (some y)=some ⟨b,n+x.toNat,i+1,body,qf⟩:=by simp[WU,hyx]
   obtain⟨new,p',g2,g3⟩:=ih hall hSall D env (qf::body::Ts) P (m+2) S2 S' (n+x.toNat+b.lv false) (i+1+b.it) s done (some qf) (some y) N (N1+ob.ns.length) (R1+1+ob.rs.length) (q+1) (k0+x.toNat) os cc jj (by rw[VR,hyI];exact key2) p2 tox ts tf hcf htb (by simp[hdT])
    (fun d hd=>by cases hd;exact hyZ) (by rw[hyI];simp[T.ZF,hx',Xo,WU]at hpl ⊢;omega) (by rw[hyI];simp only[WU,Option.map_none,Wy,List.append_nil]at hl ⊢;exact hl.comm) (by rw[hyI];simp only[WU,Option.map_none,VH]at hm ⊢;omega) (by omega) (by omega) (by rw[hyI];exact eB)
    (by rw[<-het];exact hsubt) (by rw[<-het];exact hsegt) (by rw[<-het];exact hts2) (by rw[<-het];exact hto2) (by rw[<-het];exact hk0') hch (by omega) hN hfr (by
     rw[hF];show(match(List.find? (fun c:VK=>c.plain) (⟨i,R1,decide (x=0)⟩::ot.chs))with|some c=>(⟨1,c.list,0⟩:Pl) |none=>_)=(⟨1,y.x.r,0⟩:Pl)
     rw[List.find?_cons];simp only[hx',decide_true];rw[hyx])
   rw[<-het,VR,hyI]at g2;have hdyX:kP (some y)=some y.x:=rfl;refine⟨new,p',fun G hG=>?_,fun X opn ho hdo hA hE hL hG hX hK hfk hyk=>?_⟩
   ·obtain⟨y1,y2,y3⟩:=g2 G hG;have y4:=y3 y.x rfl;rw[hyo,show y.x.N=N1 by rw[hyx]]at y4;refine⟨(back G y1).1,?_,fun x hx=>by cases hx⟩;show YE A G N1 (N1+(ob.ns++ot.ns).length) new;rw[List.length_append,<-Nat.add_assoc];exact y4.join y2
   ·subst hA;obtain⟨y1,y2,y3⟩:=g2 X.G hE;obtain⟨_,z0,z1⟩:=back X.G y1;have hbk:X.G.kind body 17 (some (ip i)):=by
     cases hfa:fall with
     |none=>exact z0 hfa
     |some f=>rw[<-f1 f hfa];exact hfk f hfa rfl
    obtain⟨k1,k2⟩:=g3 X opn (fun h=>ho (.inr h)) (fun h=>ho (.inl (by
     have h':y.x.d.b.opn:=h;rw[hyx]at h';exact h'))) rfl hE hL hG hX hK (fun f hf ht=>by cases hf;exact z1 ht) (fun y' hy'=>by
     cases hy';rw[hyx];show X.G.VI body 17 (X.A.ch N q).number;rw[hchq];exact⟨i,rfl,hbk⟩)
    obtain⟨k3,k4,k5,k6,k7,k8⟩:=k2 (fun y' hy' hfy=>by
     cases hy';rw[hyf]at hfy;have htn:tl.isNil=false:=by simpa using hfy
     rw[hyx];show X.ob true true [X.A.next R1 N] (qf,0);rw[hnext' htn];exact(k1 qf rfl htn).any)
    have k9:=k8 y rfl;rw[hyx]at k9;have k10:=k7 y.x rfl;rw[hyx]at k10;refine⟨fun f hf _=>by rw[f1 f hf];exact k9,fun _=>⟨?_,k4,fun hiv=>k5 (v2 X opn (v1 X opn hiv)),?_,(fun x hx=>by cases hx),fun y' hy'=>by cases hy'⟩⟩
    ·have hz:x.toNat=0:=by omega
     rw[hz,Nat.add_zero]at k3;exact k3
    ·have hz:x.toNat=0:=by omega
     rw[hz]at k6 k10;simp only[Nat.add_zero]at k6 k10;rw[show(T.cl x b tl).lv true=b.lv false+tl.lv true by simp[T.lv,hz],<-Nat.add_assoc];exact Cx.V8.app k10 k6
  ·rw[if_neg hx]at eB;obtain⟨kx,hkx⟩: ∃ kx,x.toNat=kx+1:=⟨x.toNat -1,by omega⟩
   obtain⟨S3,e3,eC⟩:=Option.bind_eq_some_iff.1 eB;obtain⟨S4,e4,eD⟩:=Option.bind_eq_some_iff.1 eC;obtain⟨S5,e5,e⟩:=Option.bind_eq_some_iff.1 eD;obtain⟨S3',f3,H3,hl3,hr⟩:=Md (D:=D) (env:=Vp s done none::env) (P:=(if tl.isNil then []else [qf])++(body::(Xo (WU dy)++(done::P)))) (Ts:=qf::body::Ts) (body:=body) (p:=ip i) (YH (by omega)) x.toNat n (m+2) S2 cc key2 p2.1 (by simp) (by omega) (by omega);rw[e3]at f3;cases f3;have e3':=e3;rw[hkx]at e3';obtain⟨c',p3,x3,s3⟩:=rX (body:=body) (z:=ip i) (YH (by omega)) kx (m+2) S2 S3 n k0 cc jj key2 p2 (by simp) (by omega) (by omega) e3';have hrr': ∃ kq,S2.bks.length<=c'∧c' < S3.bks.length∧S3.bks[c']? =some kq∧kq.fresh∧kq.kind≠1∧kq.kind≠10:=by
    rcases hr with⟨h0,_⟩ |⟨c'',kq,h0,h1,h2,h3,h4⟩
    ·omega
    ·have h5:=p3.1;rw[h0]at h5;cases h5;exact⟨kq,h1,h2,h3,h4⟩
   obtain⟨kq,hc'1,hc'2,hkq,hkf,hk1,hk10⟩:=hrr';have lt2: ∀ p∈(if tl.isNil then []else [qf])++(body::(Xo (WU dy)++(done::P))),p < S2.bks.length:=fun p hp=>key2.lt hp;have c'n:c'∉(if tl.isNil then []else [qf])++(body::(Xo (WU dy)++(done::P))):=fun hp=>by have:=lt2 _ hp;omega
   have nd4:((if tl.isNil then []else [qf])++(Xo (WU dy)++(done::P))).Nodup:=by
    rw[List.nodup_append];exact⟨hfl.1,hbn.2,fun a ha b hb=>hfl.2.2 a ha b (List.mem_cons_of_mem _ hb)⟩
   have bn4:body∉(if tl.isNil then []else [qf])++(Xo (WU dy)++(done::P)):=by
    intro hp;rcases List.mem_append.1 hp with hp|hp
    ·exact hfl.2.2 body hp body (by simp) rfl
    ·exact hbn.1 hp
   have sub4: ∀ p∈(if tl.isNil then []else [qf])++(Xo (WU dy)++(done::P)),p∈(if tl.isNil then []else [qf])++(body::(Xo (WU dy)++(done::P))):=by
    intro p hp;rcases List.mem_append.1 hp with hp|hp
    ·exact List.mem_append_left _ hp
    ·exact List.mem_append_right _ (List.mem_cons_of_mem _ hp)
   have H4:=H3.swap (d:=body) (P':=c'::((if tl.isNil then []else [qf])++(Xo (WU dy)++(done::P)))) p3.1 hkq hkf hk1 hk10 (by simp) (by
    intro p hp;rcases List.mem_cons.1 hp with rfl|hp
    ·simp
    ·exact List.mem_cons_of_mem _ (sub4 p hp)) (List.nodup_cons.2 ⟨fun hp=>c'n (sub4 _ hp),nd4⟩) (by
    intro hp;rcases List.mem_cons.1 hp with rfl|hp
    ·exact c'n (by simp)
    ·exact bn4 hp)
   have p4:(S3.at body).pt body 0:=(XR (P':=P) (d:=body) H3 (by simp) (by intro p hp;simp[hp])).1;obtain⟨l1,l2⟩:=LC.app (a:=b.labels) (b:=tl.labels++Wy (WU dy)) hl;obtain⟨nb,H5,c5,x5,s5⟩:=Vj (fal:=some qf) (fl:=!tl.isNil) hSb hbFL H4 p4 (by intro d hd;cases hd;simp) bs bo bf hbb (fun _=>⟨_,rfl⟩) l1 (by simp) (by omega) (n1:=n+x.toNat) (i1:=i+1) (N1:=N1) (r:=R1) (q:=q) (by omega) (by omega) heb I.rw I.sb hch hos hft' (.inl hN) hfr e4 e5;have H6:=H5.at (d:=c') (P':=(if tl.isNil then []else [qf])++(Xo (WU dy)++(done::P))) (by simp) (by intro p hp;exact List.mem_cons_of_mem _ hp) nd4 (fun hp=>c'n (sub4 _ hp));obtain⟨p6,x6⟩:=XR (d:=c') (P':=(if tl.isNil then []else [qf])++(Xo (WU dy)++(done::P))) H5 (by simp) (by intro p hp;exact List.mem_cons_of_mem _ hp);rw[p3.1]at e
   obtain⟨new,p',g2,g3⟩:=ih hall hSall _ env (qf::body::Ts) P _ (S5.at c') S' (n+x.toNat+b.lv false) (i+1+b.it) s done (some qf) dy N (N1+ob.ns.length) (R1+1+ob.rs.length) (q+1) (k0+x.toNat) os c' 0 (by rw[VR];exact H6) p6 tox ts tf hcf htb (by simp[hdT])
    (fun y hy=>by
     have z:=hdf y hy;exact⟨z.df,z.fb,z.ok,z.WV,by simp[z.fal],z.hn,z.hi⟩) (by simp[T.ZF]at hpl;omega) l2 (by omega) (by omega) (by omega) e
    (by rw[<-het];exact hsubt) (by rw[<-het];exact hsegt) (by rw[<-het];exact hts2) (by rw[<-het];exact hto2) (by rw[<-het];exact hk0') hch (by omega) hN hfr (by
     rw[hF,<-het];cases dy with
     |some y=>rfl
     |none=>
      show(match(List.find? (fun c:VK=>c.plain) (⟨i,R1,decide (x=0)⟩::ot.chs))with|some c=>(⟨1,c.list,0⟩:Pl) |none=>_)=_;rw[List.find?_cons];have:decide (x=0)=false:=by simp;omega
      simp only[this])
   rw[<-het,VR]at g2;have ext4: ∀ G,Ext (S3.at body) (c'::((if tl.isNil then []else [qf])++(Xo (WU dy)++(done::P)))) G->Ext S3 ((if tl.isNil then []else [qf])++(body::(Xo (WU dy)++(done::P)))) G:=fun G hG=>hG.at (.inl (by simp)) (fun p hp=>by
    rcases List.mem_cons.1 hp with rfl|hp
    ·exact .inr p3.1
    ·exact .inl (sub4 p hp))
   refine⟨nb++new,p',fun G hG=>?_,fun X opn ho hdo hA hE hL hG hX hK hfk hyk=>?_⟩
   ·obtain⟨y1,y2,y3⟩:=g2 G hG;obtain⟨y5,y6⟩:=x5 G (x6 G y1);refine⟨(back G (x3 G (ext4 G y5))).1,?_,y3.more (fun x hx=>List.mem_append_right _ hx)⟩;show YE A G N1 (N1+(ob.ns++ot.ns).length) (nb++new);rw[List.length_append,<-Nat.add_assoc];exact y6.app y2
   ·subst hA;obtain⟨y1,y2,y3⟩:=g2 X.G hE;obtain⟨y5,y6⟩:=x5 X.G (x6 X.G y1);have y7:=ext4 X.G y5;obtain⟨_,z0,z1⟩:=back X.G (x3 X.G y7);have hbk:X.G.kind body 17 (some (ip i)):=by
     cases hfa:fall with
     |none=>exact z0 hfa
     |some f=>rw[<-f1 f hfa];exact hfk f hfa rfl
    obtain⟨k1,k2⟩:=g3 X opn (fun h=>ho (.inr h)) hdo rfl hE (fun x hx=>hL x (List.mem_append_right _ hx)) hG hX hK (fun f hf ht=>by cases hf;exact z1 ht) hyk;obtain⟨u1,u2,u3,u4⟩:=s5 X opn rfl (x6 X.G y1) (fun x hx=>hL x (List.mem_append_left _ hx)) hG hX (fun h=>ho (.inl h)) hK.any (fun hf=>by
     have htn:tl.isNil=false:=by simpa using hf
     exact⟨qf,rfl,by rw[hnext' htn];exact(k1 qf rfl htn).any⟩) (fun _ _ l hl h5=>by
     rw[hrr]at hl ⊢;have hl':l=X.A.ch N q:=hl;rw[hchq]at hl';refine⟨rfl,fun h15=>?_,fun _=>?_⟩
     ·have h15':X.A.kd N=15:=h15;omega
     ·rw[hl'];exact⟨i,rfl,hbk⟩)
    refine⟨fun f hf _=>by rw[f1 f hf];exact u1,fun hFX=>?_⟩;obtain⟨k3,k4,k5,k6,k7,k8⟩:=k2 hFX;obtain⟨w1,w2,w3⟩:=s3 X opn N q hN y7 (fun r hr=>⟨Jg (hlf r (by omega)),ZW (hlf r (by omega)),hts1 r (by omega),hto1 r (by omega)⟩) (by rw[hchq];exact⟨i,rfl,hbk⟩) (by rw[hchq];exact u1.any) (by rw[<-hkx];exact k3);refine⟨w1,fun x hx=>(List.mem_append.1 hx).elim (u2 x) (k4 x),fun hiv=>k5 (YQ H5 (by simp) (u3 (YQ H3 (by simp) (w2 (v2 X opn (v1 X opn hiv)))))),?_,k7,k8⟩;rw[<-hkx]at w3;rw[show(T.cl x b tl).lv true=x.toNat+b.lv false+tl.lv true by simp[T.lv],<-Nat.add_assoc,<-Nat.add_assoc];exact Cx.V8.app (w3.app u4) k6
end
section
variable {ls D:List ByteArray} {env:List DF} {Ts P P':List Nat} {m:Nat} {S S' S1:BS} {G:Gr} {c0 j0 cc jj:Nat} {A:Tr} {X:Cx} {h:Hd} {b e c tl:T} {N i a p n R R2 R3 N2:Nat} {ob oe:Out} {oc:XL} {ot:Out} {os:List Nat} {opq:Prop} {Hyp:Cx->Prop} {fl:Bool} {opn:Prop}
theorem J8 (hc:c.All (LZ ls)) (hs:c.All (WT A ls)) (H:Rs ls D env Ts P m S) (hp:S.pt c0 j0) (I:PI A h b e c tl N R n i a p ob oe oc ot R2 R3) (In:WL A h N i a p n R R2 oc) (hf:SA h b e c) (hk:h.kind=13) {lab:Option Nat} (hlab:YA D S env h.label lab) (cs:c.Yr false) (co:c.ok) (cf:c.fA)
  (bc:c.WV ls (⟨h.label,false⟩::env.map DF.s) true) (hl:LC ls D c.labels) (hm:m+14+16*c.wt<=40000) (hn:n+h.own+c.lv true<=39000) (hi:i+1+c.it<=40000) (hch:Tf A a os) (hos:os.length<=N)
  (e':U1 h n i lab (fun done=>c.Zu.sw (n+h.own) (i+1) (env.map DF.t) done none none) S=some S') (hopq:c.opn->opq):
  Ol A P S S' (N+1) (N+1+oc.ns.length) n (n+h.own+c.lv true) os env ⟨1,a,p⟩ c0 j0 ⟨1,a,(p:Int)+1⟩ opq Hyp:=by
 have hlf:h.ZP=false:=Xz (by omega);have hp0:h.post=false:=by
  cases hi:h.post with
  |false=>rfl
  |true=>have:=hf.1.pst hi;omega
 have hel:h.hasElse=false:=by
  cases hi:h.hasElse with
  |false=>rfl
  |true=>have:=hf.1.els hi;omega
 have hcc:h.hasCond=h.cond:=by unfold Hd.hasCond;rw[hk];cases h.cond<;>rfl
 have hbd:h.ZR=false:=by
  cases hb:h.ZR with
  |false=>rfl
  |true=>have:=Ze.1 hb;omega
 have hin:h.init.toNat<=1:=Bool.toNat_le h.init;have hcn:h.cond.toNat<=1:=Bool.toNat_le h.cond;obtain⟨i1,i2,i3,i4⟩:=Jw I hbd hel;rw[show(h.kind==13)=true by simp[hk]]at i3;have hli:(A.nd N).list=a:=by rw[In.eq];rfl
 have hchs:(A.nd N).choices=oc.chs:=by rw[In.eq];rfl
 have htst:(A.nd N).tests=oc.tests:=by rw[In.eq];rfl
 have htof:(A.nd N).testOf=oc.testOf:=by rw[In.eq];rfl
 have hcnd:(A.nd N).cnd=Zr h.cond (n+h.init.toNat):=by
  rw[In.eq];show Zr h.hasCond (n+h.ZP.toNat+h.init.toNat)=_;rw[hcc,hlf];rfl
 have hkd:A.kd N=13:=by rw[In.kd];exact hk
 have hfr:(A.nd N).h.frame= [⟨h.label,false⟩]:=by rw[In.eq];exact Wn (h:=h) (by omega)
 have hpl:=hf.1.pl;unfold U1 at e';obtain⟨S1,e1,eA⟩:=Option.bind_eq_some_iff.1 e';obtain⟨S2,e2,eB⟩:=Option.bind_eq_some_iff.1 eA;obtain⟨S3,e3,eC⟩:=Option.bind_eq_some_iff.1 eB;obtain⟨H1,q1,w1⟩:=H.QJ (by omega) hp.1 (by omega) e1;obtain⟨p1,x1⟩:=Um e1 hp;obtain⟨H2,q2,w2⟩:=H1.QJ (by omega) p1.1 (by omega) e2;obtain⟨p2,x2⟩:=Um e2 p1;obtain⟨H3,p3,x3,v3⟩:=QK (s:=h.label) H2 p2 (hlab.same (by rw[w2,w1])) (by decide) (YH (by omega)) (by omega) e3
 obtain⟨new,p',g2,g3⟩:=Jp c hc hs D env (S2.bks.length::Ts) P (m+4) _ S' (n+h.own) (i+1) h.label S2.bks.length none none N (N+1) R 0 0 os _ _ (by simpa [WU,Xo]using H3.le (by omega)) p3 co cs cf (by have:=hf.2 (by omega);rw[hk]at this;exact this) bc (by simp) (by simp) (by simp[WU,Xo];exact hpl) (by simpa [WU,Wy]using hl) (by simp only[WU,Option.map_none,VH];omega) (by omega) (by omega) eC
  (by rw[<-i3];exact i4) (by rw[<-i3,hchs];exact Seg.self _) (by rw[<-i3,htst];exact Seg.self _) (by rw[<-i3,htof];exact Seg.self _) (by rw[<-i3,htst];omega) (by rw[hli];exact hch) (by omega) hkd hfr (by unfold Tr.failed;rw[hchs,<-i3];rfl)
 rw[<-i3]at g2;refine⟨_,_,new,p',fun G hG=>?_,fun X opn hA hE hL hG hX ho _ hK=>?_⟩
 ·obtain⟨y1,y2,_⟩:=g2 G hG;exact⟨(x1 P G (x2 P G (x3 G (by simpa [WU,Xo]using y1))).1).1,y2⟩
 ·subst hA;obtain⟨y1,_,_⟩:=g2 X.G hE;obtain⟨y2,z2⟩:=x2 P X.G (x3 X.G (by simpa [WU,Xo]using y1));obtain⟨y3,z1⟩:=x1 P X.G y2;obtain⟨_,k2⟩:=g3 X opn (fun h=>ho (hopq h)) (fun h=>by cases h) rfl hE hL hG hX (by rw[In.behind];exact hK) (fun f hf=>by cases hf) (fun y hy=>by cases hy);obtain⟨k3,k4,k5,k6,_,_⟩:=k2 (fun y hy=>by cases hy);have k3':X.ob false false [⟨3,N,0⟩] (c0,j0+h.init.toNat+h.cond.toNat):=by exact_mod_cast k3
  have ent: ∀ fs fg,X.ob fs fg [X.A.entered N] (c0,j0+h.init.toNat):=fun fs fg=>by
   rw[JB In hk,hcnd];cases hc:h.cond with
   |true=>
    rw[if_pos (Xk.2 rfl),Xp rfl];exact XA (z2 hc) rfl (Vg _)
   |false=>
    rw[if_neg (by rw[Xk];simp)];rw[hc]at k3';simpa using k3'.any
  refine⟨Tc In hlf z1 ent,k4,fun hiv=>k5 (v3 X opn (Vq e2 p1 H1 (fun hc=>?_) (Vq e1 hp H (J7 In hlf ent) hiv))),?_⟩
  ·have hlc:=In.XF (Vd (N:=N) hlf (by rw[hcc];exact hc));refine .inr ⟨_,rfl,hlc.2,tY hlc.1 hkd ?_⟩;rw[hc]at k3';exact k3'.any
  ·exact Cx.V8.app (Ud In hlf (fun hi=>⟨_,_,z1 hi⟩) (fun hc=>⟨_,_,z2 (by rw[<-hcc];exact hc)⟩) (fun hp=>by rw[hp0]at hp;cases hp)) k6
theorem Ol.weak {N1 n1 n2:Nat} {ent ext:Pl} {opq':Prop} {Hyp':Cx->Prop} (h:Ol A P S S' N1 N2 n1 n2 os env ent cc jj ext opq Hyp) (h1:opq->opq') (h2: ∀ X,Hyp' X->Hyp X):Ol A P S S' N1 N2 n1 n2 os env ent cc jj ext opq' Hyp':=by
 obtain⟨c',j',new,g1,g2,g3⟩:=h;exact⟨c',j',new,g1,g2,fun X opn hA hE hL hG hX ho hH hK=>g3 X opn hA hE hL hG hX (fun h=>ho (h1 h)) (h2 X hH) hK⟩
theorem Ez (RA:Xr A) (TA:mg A) (hb:WT A ls b) (he:WT A ls e) (hcs:c.All (WT A ls)) (fb:FL ls b) (fe:FL ls e) (fc:c.All (LZ ls)) (H:Rs ls D env Ts P m S) (hp:S.pt c0 j0) (I:PI A h b e c tl N R n i a p ob oe oc ot R2 R3) (In:WL A h N i a p n R R2 oc) (hf:SA h b e c)
  (bs:b.Yr true) (es:e.Yr true) (cs:c.Yr false) (bo:b.ok) (eo:e.ok) (co:c.ok) (bf:h.ZR=true->b.fA) (ef:h.hasElse=true->e.fA) (cf:c.fA) {lab:Option Nat} (hlab:YA D S env h.label lab)
  (hbr:(T.st h b e c tl).WV ls (env.map DF.s) fl) (hfl:fl=true-> ∃ f fs d,env=f::fs∧f.t.fal=some d) (hl:LC ls D (b.labels++(e.labels++c.labels))) (hm:m+14+16*(b.wt+e.wt+c.wt)<=40000) (hn:n+h.own+b.lv false+e.lv false+c.lv (h.kind==13)<=39000) (hi:i+1+b.it+e.it+c.it<=40000) (hch:Tf A a os) (hos:os.length<=N)
  (e':Y8 h n i lab (env.map DF.t) (b.Zu.list (n+h.own) (i+1)) (e.Zu.list (n+h.own+b.lv false) (i+1+b.it)) (fun done=>c.Zu.sw (n+h.own+b.lv false+e.lv false) (i+1+b.it+e.it) (env.map DF.t) done none none) (fun done=>c.Zu.ty (n+h.own+b.lv false+e.lv false) (i+1+b.it+e.it) (env.map DF.t) done none) (fun done=>c.Zu.sel (n+h.own+b.lv false+e.lv false) (i+1+b.it+e.it) (env.map DF.t) done none) c.Zu.comms S=some S'):
  Ol A P S S' (N+1) (N+1+ob.ns.length+oe.ns.length+oc.ns.length) n (n+h.own+b.lv false+e.lv false+c.lv (h.kind==13)) os env ⟨1,a,p⟩ c0 j0 ⟨1,a,(p:Int)+1⟩ ((h.kind=12∨h.kind=14∨h.kind=15)∨b.opn∨e.opn∨c.opn) (fun X=>UR A a env fl X∧(h.label.size=0->VE A a p c0 j0 X)):=by
 obtain⟨b17,b18,b19,b20,bb,be,bc,_⟩:=hbr;have hkr:=hf.1.k;have hown:h.own=(h.Zd N).length:=Y9.1.symm;have noels:h.kind≠10->e=.nil:=fun h1=>hf.1.ne (by
  cases he:h.hasElse with
  |false=>rfl
  |true=>exact absurd (hf.1.els he) h1)
 have hoe:e=.nil->oe=.none:=fun h=>by rw[I.ee,NK hf,h];rfl
 have hob:b=.nil->ob=.none:=fun h=>by rw[I.eb,Tq hf,h];rfl
 have hoc:c=.nil->oc.ns= []:=fun h=>by rw[I.ec,h];rfl
 have hbodyf:h.kind=10∨h.kind=11∨h.kind=12∨h.kind=16->b.fA:=fun hk=>bf (Ze.2 hk);by_cases h9:h.kind<=9
 ·
  have hbn:=hf.1.nb (by omega) (by omega) (by omega) (by omega);have hen:=noels (by omega);have hcn:=hf.1.nc (by omega) (by omega) (by omega);have hll:h.ZP=true:=Ql.2 ⟨hkr.1,h9⟩;have ho1:h.own=1:=by
   rw[hown,(Y9 (h:=h) (N:=N)).1,hll];have q1:h.init=false:=by
    cases hi:h.init with
    |false=>rfl
    |true=>have:=hf.1.ini hi;omega
   have q2:h.cond=false:=by
    cases hi:h.cond with
    |false=>rfl
    |true=>have:=hf.1.cnd hi;omega
   have q3:h.post=false:=by
    cases hi:h.post with
    |false=>rfl
    |true=>have:=hf.1.pst hi;omega
   have q4:h.hasCond=false:=by
    unfold Hd.hasCond;rw[q2];simp;omega
   rw[q1,q3,q4];rfl
  have:=DR (env:=env) (os:=os) (opq:=False) (Hyp:=UR A a env fl) H hp In hll (by omega) (by omega) e';rw[hob hbn,hoe hen,hoc hcn,hbn,hen,hcn,ho1];simp only[T.lv,Out.none,List.length_nil,Nat.add_zero];exact this.weak (by simp) (fun X h=>h)
 unfold Y8 at e';rw[if_neg (by omega),if_neg (by omega),if_neg (by omega),if_neg (by omega),if_neg (by omega)]at e';by_cases h10:h.kind=10
 ·rw[if_pos h10]at e';have hcn:=hf.1.nc (by omega) (by omega) (by omega);have hfr:=Wv (h:=h) (by omega);rw[hfr]at bb be;have:=uh (Hyp:=fun X=>UR A a env fl X∧(h.label.size=0->VE A a p c0 j0 X)) hb he fb fe H hp I In hf h10 bs es bo eo (hbodyf (by omega)) ef bb be (by rw[hcn]at hl;simpa [T.labels]using hl) (by rw[hcn]at hm;simp[T.wt]at hm;omega) (by omega) (by omega) hch hos e';rw[hoc hcn];rw[hcn];simp only[T.lv,List.length_nil,Nat.add_zero];exact this.weak (fun h=>h.elim (fun h=>.inr (.inl h)) (fun h=>.inr (.inr (.inl h)))) (fun X h=>h)
 rw[if_neg h10]at e';have hen:=noels h10;by_cases h11:h.kind=11
 ·rw[if_pos h11]at e';have hcn:=hf.1.nc (by omega) (by omega) (by omega);have hfr:h.frame= [⟨h.label,true⟩]:=by unfold Hd.frame;rw[if_pos (by omega)]
  rw[hfr]at bb;have:=zQ (Hyp:=fun X=>UR A a env fl X∧(h.label.size=0->VE A a p c0 j0 X)) hb fb H hp I In hf h11 hlab bs bo (hbodyf (by omega)) bb (by rw[hcn,hen]at hl;simpa [T.labels]using hl) (by rw[hcn,hen]at hm;simp[T.wt]at hm;omega) (by omega) (by omega) hch hos e';rw[hoc hcn,hoe hen];rw[hcn,hen];simp only[T.lv,Out.none,List.length_nil,Nat.add_zero];exact this.weak (fun h=>.inr (.inl h)) (fun X h=>h)
 rw[if_neg h11]at e';by_cases h12:h.kind=12
 ·rw[if_pos h12]at e';have hcn:=hf.1.nc (by omega) (by omega) (by omega);have hfr:h.frame= [⟨h.label,true⟩]:=by unfold Hd.frame;rw[if_pos (by omega)]
  rw[hfr]at bb;have:=Gn (opq:=(h.kind=12∨h.kind=14∨h.kind=15)∨b.opn∨e.opn∨c.opn) (Hyp:=fun X=>UR A a env fl X∧(h.label.size=0->VE A a p c0 j0 X)) hb fb H hp I In hf h12 hlab bs bo (hbodyf (by omega)) bb (by rw[hcn,hen]at hl;simpa [T.labels]using hl) (by rw[hcn,hen]at hm;simp[T.wt]at hm;omega) (by omega) (by omega) hch hos e' (.inl (.inl h12)) (fun h=>.inr (.inl h));rw[hoc hcn,hoe hen];have h1:n+h.own+b.lv false+e.lv false+c.lv (h.kind==13)=n+h.own+b.lv false:=by rw[hcn,hen];simp[T.lv]
  rw[h1];simpa [Out.none]using this
 rw[if_neg h12]at e';by_cases h13:h.kind=13
 ·rw[if_pos h13]at e';have hbn:=hf.1.nb (by omega) (by omega) (by omega) (by omega);have hfr:h.frame= [⟨h.label,false⟩]:=Wn (by omega);have hb13:(h.kind==13)=true:=by simp[h13]
  rw[hfr,hb13]at bc;rw[hb13]at hn ⊢;have z1:n+h.own+b.lv false+e.lv false=n+h.own:=by rw[hbn,hen];simp[T.lv]
  have z2:i+1+b.it+e.it=i+1:=by rw[hbn,hen];simp[T.it]
  rw[z1]at hn e' ⊢;rw[z2]at e' hi;have:=J8 (opq:=(h.kind=12∨h.kind=14∨h.kind=15)∨b.opn∨e.opn∨c.opn) (Hyp:=fun X=>UR A a env fl X∧(h.label.size=0->VE A a p c0 j0 X)) fc hcs H hp I In hf h13 hlab cs co cf bc (by rw[hbn,hen]at hl;simpa [T.labels]using hl) (by rw[hbn,hen]at hm;simp[T.wt]at hm;omega) hn hi hch hos e' (fun h=>.inr (.inr (.inr h)));rw[hob hbn,hoe hen];simpa [Out.none]using this
 rw[if_neg h13]at e';by_cases h14:h.kind=14
 ·rw[if_pos h14]at e';have hbn:=hf.1.nb (by omega) (by omega) (by omega) (by omega);have hfr:h.frame= [⟨h.label,false⟩]:=Wn (by omega);have hb13:(h.kind==13)=false:=by simp[h14]
  rw[hfr,hb13]at bc;rw[hb13]at hn ⊢;have z1:n+h.own+b.lv false+e.lv false=n+h.own:=by rw[hbn,hen];simp[T.lv]
  have z2:i+1+b.it+e.it=i+1:=by rw[hbn,hen];simp[T.it]
  rw[z1]at hn e' ⊢;rw[z2]at e' hi;have:=Gj (opq:=(h.kind=12∨h.kind=14∨h.kind=15)∨b.opn∨e.opn∨c.opn) (Hyp:=fun X=>UR A a env fl X∧(h.label.size=0->VE A a p c0 j0 X)) fc hcs H hp I In hf h14 hlab cs co cf bc (by rw[hbn,hen]at hl;simpa [T.labels]using hl) (by rw[hbn,hen]at hm;simp[T.wt]at hm;omega) hn hi hch hos e' (.inl (.inr (.inl h14)));rw[hob hbn,hoe hen];simpa [Out.none]using this
 rw[if_neg h14]at e';by_cases h15:h.kind=15
 ·rw[if_pos h15]at e';have hbn:=hf.1.nb (by omega) (by omega) (by omega) (by omega);have hfr:h.frame= [⟨h.label,false⟩]:=Wn (by omega);have hb13:(h.kind==13)=false:=by simp[h15]
  rw[hfr,hb13]at bc;rw[hb13]at hn ⊢;have z1:n+h.own+b.lv false+e.lv false=n+h.own:=by rw[hbn,hen];simp[T.lv]
  have z2:i+1+b.it+e.it=i+1:=by rw[hbn,hen];simp[T.it]
  rw[z1]at hn e' ⊢;rw[z2]at e' hi;have:=JD (opq:=(h.kind=12∨h.kind=14∨h.kind=15)∨b.opn∨e.opn∨c.opn) (Hyp:=fun X=>UR A a env fl X∧(h.label.size=0->VE A a p c0 j0 X)) fc hcs H hp I In hf h15 hlab cs co cf bc (by rw[hbn,hen]at hl;simpa [T.labels]using hl) (by rw[hbn,hen]at hm;simp[T.wt]at hm;omega) hn hi hch hos e' (.inl (.inr (.inr h15)));rw[hob hbn,hoe hen];simpa [Out.none]using this
 rw[if_neg h15]at e';have hcn:=hf.1.nc h13 h14 h15;have hfr:=Wv (h:=h) (by omega);rw[hfr]at bb;by_cases h16:h.kind=16
 ·rw[if_pos h16]at e';have:=G8 (Hyp:=fun X=>UR A a env fl X∧(h.label.size=0->VE A a p c0 j0 X)) hb H hp I In hf h16 bs bo (hbodyf (by omega)) bb (by rw[hcn,hen]at hl;simpa [T.labels]using hl) (by omega) (by omega) (by omega) hch hos e';rw[hoc hcn,hoe hen];rw[hcn,hen];simp only[T.lv,Out.none,List.length_nil,Nat.add_zero];exact this.weak (fun h=>.inr (.inl h)) (fun X h=>h)
 rw[if_neg h16]at e';have hbn:=hf.1.nb h10 h11 h12 h16;have hll:h.ZP=false:=Xz (by omega);have ho0:h.own=0:=by
  rw[hown,(Y9 (h:=h) (N:=N)).1,hll];have q1:h.init=false:=by
   cases hi:h.init with
   |false=>rfl
   |true=>have:=hf.1.ini hi;omega
  have q2:h.cond=false:=by
   cases hi:h.cond with
   |false=>rfl
   |true=>have:=hf.1.cnd hi;omega
  have q3:h.post=false:=by
   cases hi:h.post with
   |false=>rfl
   |true=>have:=hf.1.pst hi;omega
  have q4:h.hasCond=false:=by
   unfold Hd.hasCond;rw[q2];simp;omega
  rw[q1,q3,q4];rfl
 have z1:n+h.own+b.lv false+e.lv false+c.lv (h.kind==13)=n:=by rw[hbn,hen,hcn,ho0];simp[T.lv]
 rw[z1,hob hbn,hoe hen,hoc hcn];simp only[Out.none,List.length_nil,Nat.add_zero];by_cases h21:h.kind=21
 ·rw[if_pos h21]at e';exact Iq H hp In h21 hf e'
 rw[if_neg h21]at e'
 exact J3 RA TA H hp In hf (by omega) (by omega) hch hos
  (fun hk=>let⟨f,hf1,hf2⟩:=b17 hk;let⟨g,hg1,hg2⟩:=List.mem_map.1 hf1;⟨g,hg1,by rw[hg2];exact hf2⟩)
  (fun hk=>let⟨f,hf1,hf2⟩:=b18 hk;let⟨g,hg1,hg2⟩:=List.mem_map.1 hf1;⟨g,hg1,by rw[hg2];exact hf2⟩)
  (fun hk=>⟨b19 hk,hf.1.gt hk⟩)
  (fun hk=>⟨by
   rcases Nat.eq_zero_or_pos h.target.size with h0|h0
   ·exact h0
   ·have:=hf.1.tg h0;omega,(b20 hk).1⟩) hfl e'
end
section
variable {ls D:List ByteArray} {env:List DF} {Ts P P':List Nat} {m:Nat} {S S' S1:BS} {G:Gr} {c0 j0 cc jj:Nat} {A:Tr} {X:Cx} {h:Hd} {b e c tl:T} {N i a p n R R2 R3 N2:Nat} {ob oe:Out} {oc:XL} {ot:Out} {os:List Nat} {opq:Prop} {Hyp:Cx->Prop} {fl:Bool} {opn:Prop}
theorem Ext.EJ {j:Nat} {y:ByteArray × Lb} {k:Bk} {x:Option Int} (h:Ext ((S.set y.2.go { k with of:=x }).at y.2.go) P G) (hc:S.cur=none) (hj:S.Z4[j]? =some y) (hk:S.bks[y.2.go]? =some k) (ho:k.of=none):Ext S P G:=by
 have hl:=ZW hk;refine⟨fun i q hi=>?_,h.lab,h.ask⟩;by_cases e:i=y.2.go
 ·subst e;rw[hk]at hi;cases hi;obtain⟨q',g1,g2,g3,g4,_⟩:=h.blk _ { k with of:=x } (by show(S.set y.2.go { k with of:=x }).bks[_]? =_;rw[Zt hl,if_pos rfl]);exact⟨q',g1,g2,fun hn=>absurd ho hn,g4,fun hs=>absurd ho (hs.2.2 j y hj rfl)⟩
 ·obtain⟨q',g1,g2,g3,g4,g5⟩:=h.blk i q (by show(S.set y.2.go { k with of:=x }).bks[_]? =_;rw[Zt hl,if_neg e];exact hi);exact⟨q',g1,g2,g3,g4,fun hs=>g5 ⟨fun e'=>e (Option.some.inj e').symm,hs.2.1,hs.2.2⟩⟩
theorem Ext.Dt {s:ByteArray} {k:Bk} (h:Ext ⟨S.bks++ [k],some S.bks.length,S.Z4++ [(s,⟨S.bks.length,none,none⟩)],S.asked⟩ P G) (hc:S.cur=none):Ext S P G:=by
 refine⟨fun i q hi=>?_,fun j y hj=>h.lab j y (XB hj),h.ask⟩;obtain⟨q',h1,h2,h3,h4,h5⟩:=h.blk i q (XB hi);refine⟨q',h1,h2,h3,h4,fun hs=>h5 ⟨fun e=>?_,hs.2.1,fun j y hj hy=>?_⟩⟩
 ·have:=ZW hi;have e':S.bks.length=i:=Option.some.inj e;omega
 ·rcases YP hj with f1|⟨_,rfl⟩
  ·exact hs.2.2 j y f1 hy
  ·have:=ZW hi;have hy':S.bks.length=i:=hy;omega
theorem Hz (H:Rs ls D env Ts P m S) (hm:m<=40000) {s:ByteArray} (hs:s∈ls) (hD:s∉D) (hp:S.pt cc jj) {r:Nat × BS} {y:ByteArray × Lb} {S2:BS} (e1:S.VN s true=some r) (e2:r.2.Z4[r.1]? =some y) (e3:r.2.Zm y.2.go=some S2):
  Rs ls (s::D) env Ts P (m+2) (S2.at y.2.go)∧(S2.at y.2.go).Z4[r.1]? =some y∧y.1=s∧y.2.brk=none∧y.2.cnt=none∧(S2.at y.2.go).pt y.2.go 0∧(∀ G,Ext (S2.at y.2.go) P G->Ext S P G∧G.ends cc jj [y.2.go])∧ ∀ X opn,Cx.iv X opn S->X.iv opn (S2.at y.2.go):=by
 obtain⟨r',y',S2',f1,f2,f3,f4,f5,f6,f7,f8⟩:=H.label hm hs hD hp.1;rw[e1]at f1;cases f1;rw[e2]at f2;cases f2;rw[e3]at f3;cases f3;obtain⟨hc,kc,hkc,hj⟩:=hp;have hp:S.pt cc jj:=⟨hc,kc,hkc,hj⟩
 obtain⟨_,kc',hkc',hsc⟩:=H.w.cur cc hc;rw[hkc]at hkc';cases hkc';have hcl:=ZW hkc;obtain⟨S0,hS0⟩: ∃ S0:BS,S0=⟨(S.set cc { kc with succs:= [y.2.go] }).bks,none,S.Z4,S.asked⟩:=⟨_,rfl⟩
 have hiv0: ∀ X opn,Cx.iv X opn S->X.iv opn S0:=by
  intro X opn hiv;subst hS0;have hb:=hiv.blk cc kc hkc;refine hiv.upd (k':= { kc with succs:= [y.2.go] }) hcl ⟨hb.nod,fun ht=>absurd ht (by simp),fun hr=>?_,hb.rt⟩ (.inl rfl) hiv.ask;rcases hb.ret hr with h1|⟨_,h2⟩
  ·exact .inl h1
  ·exact absurd hc h2
 have hext0: ∀ G,Ext S0 P G->Ext S P G∧G.ends cc jj [y.2.go]:=by
  intro G hG;subst hS0;exact CQ H.w hp hkc rfl hG
 have hlen0:S0.bks.length=S.bks.length:=by rw[hS0];simp[BS.set]
 refine⟨f4,f5,f6,f7,f8,?_⟩;unfold BS.VN at e1;cases hf:S.Y2 s with
 |some j=>
  obtain⟨z,h1,h2⟩:=V7 hf;obtain⟨_,k,g1,g2,g3⟩:=H.w.labk j z h1;have ho:k.of=none:=by
   cases hko:k.of with
   |none=>rfl
   |some o=>exact absurd ((H.df s).1 ⟨j,z,k,h1,h2,g1,by simp[hko]⟩) hD
  obtain⟨hfr,hnc,_,_⟩:=g3 ho;rw[hf]at e1;simp[h1,g1,ho]at e1;subst e1;change S.Z4[j]? =some y at e2;rw[h1]at e2;cases e2;have hne:y.2.go≠cc:=fun e=>hnc (by rw[hc,e]);have hgl:=ZW g1;have hS2:S2=⟨((S.set y.2.go { k with of:=some 0 }).set cc { kc with succs:= [y.2.go] }).bks,none,S.Z4,S.asked⟩:=by
   have hp':(S.set y.2.go { k with of:=some 0 }).pt cc jj:=⟨hc,kc,by rw[Zt hgl,if_neg (fun e=>hne e.symm)];exact hkc,hj⟩
   obtain⟨q,q1,q2,q3,q4⟩:=TJ e3 hp';rw[Zt hgl,if_neg (fun e=>hne e.symm),hkc]at q1;cases q1;exact q4
  have hT:S2.at y.2.go=(S0.set y.2.go { k with of:=some 0 }).at y.2.go:=by
   rw[hS2,hS0];simp only[BS.at,BS.set];rw[List.set_comm _ _ hne]
  have hk0:S0.bks[y.2.go]? =some k:=by rw[hS0];show(S.set cc _).bks[_]? =_;rw[Zt hcl,if_neg hne];exact g1
  rw[hT];refine⟨⟨rfl,{ k with of:=some 0 },by show(S0.set y.2.go _).bks[_]? =_;rw[Zt (ZW hk0),if_pos rfl],by show k.nodes.length=0;rw[hfr.1];rfl⟩,fun G hG=>hext0 G (hG.EJ (by rw[hS0]) (j:=j) (by rw[hS0];exact h1) hk0 ho),fun X opn hiv=>?_⟩;exact Iv.at (k:= { k with of:=some 0 }) ((hiv0 X opn hiv).define hk0) (by rw[Zt (ZW hk0),if_pos rfl]) hfr
 |none=>
  rw[hf]at e1;obtain⟨S1,g1,g2⟩:=Option.map_eq_some_iff.1 e1;have:=Vf g1;subst this;subst g2;have hy:y=(s,⟨S.bks.length,none,none⟩):=by
   have e2':((S.new 10 none).lab s ⟨S.bks.length,none,none⟩).Z4[S.Z4.length]? =some y:=e2;simp[BS.lab,BS.new]at e2';exact e2'.symm
  have hgo:y.2.go=S.bks.length:=by rw[hy]
  have hr2:((S.new 10 none).lab s ⟨S.bks.length,none,none⟩).set S.bks.length ⟨10,some 0,[],[],false,false⟩=⟨S.bks++ [⟨10,some 0,[],[],false,false⟩],S.cur,S.Z4++ [(s,⟨S.bks.length,none,none⟩)],S.asked⟩:=by
   simp[BS.lab,BS.set,BS.new]
  simp only[if_true]at e3;rw[hr2]at e3;have hS2:S2=⟨((⟨S.bks++ [⟨10,some 0,[],[],false,false⟩],S.cur,S.Z4++ [(s,⟨S.bks.length,none,none⟩)],S.asked⟩:BS).set cc { kc with succs:= [y.2.go] }).bks,none,S.Z4++ [(s,⟨S.bks.length,none,none⟩)],S.asked⟩:=by
   have hp':(⟨S.bks++ [⟨10,some 0,[],[],false,false⟩],S.cur,S.Z4++ [(s,⟨S.bks.length,none,none⟩)],S.asked⟩:BS).pt cc jj:=⟨hc,kc,XB hkc,hj⟩
   obtain⟨q,q1,q2,q3,q4⟩:=TJ e3 hp';have q1':(S.bks++ [⟨10,some 0,[],[],false,false⟩])[cc]? =some q:=q1;rw[XB hkc]at q1';cases q1';exact q4
  have hT:S2.at y.2.go=⟨S0.bks++ [⟨10,some 0,[],[],false,false⟩],some S0.bks.length,S0.Z4++ [(s,⟨S0.bks.length,none,none⟩)],S0.asked⟩:=by
   rw[hS2,hlen0,hgo,hS0];simp only[BS.at,BS.set];rw[List.set_append_left _ _ hcl,hgo]
  rw[hT];rw[hgo,<-hlen0]at hext0 ⊢;refine⟨⟨rfl,⟨10,some 0,[],[],false,false⟩,by simp,rfl⟩,fun G hG=>hext0 G (hG.Dt (by rw[hS0])),fun X opn hiv=>?_⟩;exact Iv.at (S:=⟨S0.bks++ [⟨10,some 0,[],[],false,false⟩],S0.cur,S0.Z4++ [(s,⟨S0.bks.length,none,none⟩)],S0.asked⟩) (k:=⟨10,some 0,[],[],false,false⟩) ((hiv0 X opn hiv).UH ⟨rfl,rfl,rfl⟩ _) (d:=S0.bks.length) (by show(S0.bks++ [_])[S0.bks.length]? =_;simp) ⟨rfl,rfl,rfl⟩
end
section
variable {ls D:List ByteArray} {env:List DF} {Ts P P':List Nat} {m:Nat} {S S' S1:BS} {G:Gr} {c0 j0 cc jj:Nat} {A:Tr} {X:Cx} {h:Hd} {b e c tl:T} {N i a p n R R2 R3 N2:Nat} {ob oe:Out} {oc:XL} {ot:Out} {os:List Nat} {opq:Prop} {Hyp:Cx->Prop} {fl:Bool} {opn:Prop}
theorem Jr {Q:T->Prop} (hQ: ∀ t,Q t): ∀ t:T,t.All Q:=by
 intro t
 induction t with
 |nil=>trivial
 |st h b e c tl _ _ ih3 ih4=>exact⟨hQ _,hQ _,ih3,ih4⟩
 |cl x b tl _ ih2=>exact⟨hQ _,ih2⟩
theorem yL (hN:WL A h N i a p n R R2 oc) {N3 n2:Nat} {core:Option Nat->BS->Option BS} (H:Rs ls D env Ts P m S) (hp:S.pt c0 j0) (hm:m<=40000) (hl:LC ls D (if h.label.size=0 then []else [h.label])) (e:OA h.label core S=some S1)
  (hcore: ∀ (D':List ByteArray) (m':Nat) (S2:BS) (lab:Option Nat) (c j:Nat),Rs ls D' env Ts P m' S2->m'<=m+2->S2.pt c j->YA D' S2 env h.label lab->(∀ s,s∈D'↔s∈(if h.label.size=0 then []else [h.label])++D)->(h.label.size=0->c=c0∧j=j0)->core lab S2=some S1->
   Ol A P S2 S1 (N+1) N3 n n2 os env ⟨1,a,p⟩ c j ⟨1,a,(p:Int)+1⟩ opq (fun X=>UR A a env fl X∧(h.label.size=0->VE A a p c j X))):
  Ol A P S S1 N N3 n n2 os env ⟨1,a,p⟩ c0 j0 ⟨1,a,(p:Int)+1⟩ opq (fun X=>UR A a env fl X∧VE A a p c0 j0 X):=by
 unfold OA at e;by_cases hz:h.label.size=0
 ·rw[if_pos hz]at e;obtain⟨c',j',new,g1,g2,g3⟩:=hcore D m S none c0 j0 H (by omega) hp (.inl ⟨rfl,hz⟩) (by simp[hz]) (fun _=>⟨rfl,rfl⟩) e;refine⟨c',j',new,g1,fun G hG=>⟨(g2 G hG).1,?_⟩,fun X opn hA hE hL hG hX ho hH hK=>g3 X opn hA hE hL hG hX ho ⟨hH.1,fun _=>hH.2⟩ hK⟩;intro k x h1 h2 h3 h4;by_cases hk:k=N
  ·subst hk;rw[hN.nd]at h3;cases h3;exact absurd hz (by show h.label.size≠0;have h4':0 < h.label.size:=h4;omega)
  ·exact(g2 G hG).2 k x (by omega) h2 h3 h4
 ·rw[if_neg hz]at e hl;obtain⟨r,e1,eA⟩:=Option.bind_eq_some_iff.1 e;obtain⟨y,e2,eB⟩:=Option.bind_eq_some_iff.1 eA;obtain⟨S2,e3,eC⟩:=Option.bind_eq_some_iff.1 eB;obtain⟨H2,l2,q1,q2,q3,p2,x2,v2⟩:=Hz H hm (hl.1 _ (by simp)).1 (hl.1 _ (by simp)).2 hp e1 e2 e3;obtain⟨c',j',new,g1,g2,g3⟩:=hcore (h.label::D) (m+2) (S2.at y.2.go) (some r.1) y.2.go 0 H2 (by omega) p2 (.inr ⟨r.1,y,rfl,l2,q1,by omega,by simp,q2,q3,fun f hf he=>by
   have h0:=(H.env.lab f hf (by rw[he];omega)).1;rw[he]at h0;exact(hl.1 _ (by simp)).2 h0⟩) (by simp[hz]) (fun h=>absurd h hz) eC
  refine⟨c',j',(⟨1,a,p⟩,(y.2.go,0))::new,g1,fun G hG=>?_,fun X opn hA hE hL hG hX ho hH hK=>?_⟩
  ·obtain⟨y1,y2⟩:=g2 G hG;obtain⟨y3,_⟩:=x2 G y1;refine⟨y3,?_⟩;intro k x h1 h2 h3 h4;by_cases hk:k=N
   ·subst hk;rw[hN.nd]at h3;cases h3;obtain⟨y',z1,z2,z3⟩:=y1.lab r.1 y l2;exact⟨r.1,y',z1,by rw[z2,q1];rfl,by rw[z3];exact List.mem_cons_self⟩
   ·obtain⟨j,y',f1,f2,f3⟩:=y2 k x (by omega) h2 h3 h4;exact⟨j,y',f1,f2,List.mem_cons_of_mem _ f3⟩
  ·obtain⟨y1,_⟩:=g2 X.G hE;obtain⟨_,z2⟩:=x2 X.G y1;obtain⟨k1,k2,k3,k4⟩:=g3 X opn hA hE (fun x hx=>hL x (List.mem_cons_of_mem _ hx)) hG hX ho ⟨hH.1,fun h=>absurd h hz⟩ hK;refine⟨Yu z2 k1.any,fun x hx=>?_,fun hiv=>k3 (v2 X opn hiv),k4⟩;rcases List.mem_cons.1 hx with rfl|hx
   ·exact k1
   ·exact k2 x hx
theorem Ea (RA:Xr A) (TA:mg A) (hFL: ∀ t,LZ ls t): ∀ t:T,t.All (WT A ls)->WT A ls t:=by
 intro t
 induction t with
 |nil=>
  intro _ D env Ts P m S S' n i fl N R a p os c j H hp _ _ _ _ _ _ _ _ _ e _ _ _ _ _;cases e;refine⟨c,j,[],hp,fun G hG=>⟨hG,by simpa [T.rd,Out.none]using YE.nil⟩,fun X opn hA hE hL hG hX ho hH hK=>⟨by simpa [T.len]using hK,by simp,fun h=>h,by simpa [T.lv]using Cx.V8.nil⟩⟩
 |cl x b tl=>intro _ D env Ts P m S S' n i fl N R a p os c j H hp hs;exact absurd hs.1 (by simp)
 |st h b e c tl _ _ _ ih=>
  intro⟨q1,q2,q3,q4⟩ D env Ts P m S S' n i fl N R a p os c0 j0 H hp ⟨_,s1,s2,s3,s4⟩ ⟨p0,p1,p2,p3,p4⟩ ⟨f0,f1,f2,f3,f4⟩ hbr hfl hl hm hn hi e' hsub hids hch hos hft;have htl:=ih q4;simp only[T.wt]at hm;simp only[T.lv]at hn;simp only[T.it]at hi;obtain⟨l0,l1⟩:=LC.app (a:=if h.label.size=0 then []else [h.label]) (b:=b.labels++(e.labels++(c.labels++tl.labels))) (by simpa [T.labels]using hl);rw[show b.labels++(e.labels++(c.labels++tl.labels))=(b.labels++(e.labels++c.labels))++tl.labels by simp]at l1;obtain⟨l2,l3⟩:=l1.app;obtain⟨ob,oe,oc,ot,R2,R3,I,hid,_,_,hns⟩:=Dy hsub;rw[hid]at hids;obtain⟨hrow,hidt⟩:=hids.cons;have In:WL A h N i a p n R R2 oc:=⟨I.nd,I.lf,hrow⟩
  have hown:h.own=(h.Zd N).length:=Y9.1.symm;have hob:ob.ls.length=b.lv false∧ob.it=b.it:=by
   rw[I.eb];unfold vI;split
   ·next hb=>exact(SC b).1 s1 (f1 hb) _ _ _ _ _ _
   ·next hb=>rw[f0.UG hb];exact⟨rfl,rfl⟩
  have hoe:oe.ls.length=e.lv false∧oe.it=e.it:=by
   rw[I.ee];unfold wV;split
   ·next hb=>exact(SC e).1 s2 (f2 hb) _ _ _ _ _ _
   ·next hb=>rw[f0.VF hb];exact⟨rfl,rfl⟩
  have hoc:oc.ls.length=c.lv (h.kind==13)∧oc.it=c.it:=by
   rw[I.ec];exact(SC c).2 s3 f3 _ _ _ _ _ _ _ _
  have hst:=I.st;have het:=I.et;rw[<-hown,hob.1,hoe.1,hoc.1]at hst het;rw[hob.2,hoe.2,hoc.2]at het;rw[IL]at e';obtain⟨S1,eA,eB⟩:=Option.bind_eq_some_iff.1 e'
  have hcore: ∀ (D':List ByteArray) (m':Nat) (S2:BS) (lab:Option Nat) (c1 j1:Nat),Rs ls D' env Ts P m' S2->m'<=m+2->S2.pt c1 j1->YA D' S2 env h.label lab->(∀ s,s∈D'↔s∈(if h.label.size=0 then []else [h.label])++D)->(h.label.size=0->c1=c0∧j1=j0)->
    Y8 h n i lab (env.map DF.t) (b.Zu.list (n+h.own) (i+1)) (e.Zu.list (n+h.own+b.lv false) (i+1+b.it)) (fun done=>c.Zu.sw (n+h.own+b.lv false+e.lv false) (i+1+b.it+e.it) (env.map DF.t) done none none) (fun done=>c.Zu.ty (n+h.own+b.lv false+e.lv false) (i+1+b.it+e.it) (env.map DF.t) done none) (fun done=>c.Zu.sel (n+h.own+b.lv false+e.lv false) (i+1+b.it+e.it) (env.map DF.t) done none) c.Zu.comms S2=some S1->
    Ol A P S2 S1 (N+1) (N+1+ob.ns.length+oe.ns.length+oc.ns.length) n (n+h.own+b.lv false+e.lv false+c.lv (h.kind==13)) os env ⟨1,a,p⟩ c1 j1 ⟨1,a,(p:Int)+1⟩ ((h.kind=12∨h.kind=14∨h.kind=15)∨b.opn∨e.opn∨c.opn) (fun X=>UR A a env fl X∧(h.label.size=0->VE A a p c1 j1 X)):=
   fun D' m' S2 lab c1 j1 H2 hm2 hp2 hlab hD _ he=>Ez RA TA q1 q2 q3 (hFL b s1) (hFL e s2) (Jr hFL c) H2 hp2 I In f0 s1 s2 s3 p1 p2 p3 f1 f2 f3 hlab hbr hfl (l2.congr (fun s hs=>(hD s).1 hs)) (by omega) (by omega) (by omega) hch hos he
  have key:Rs ls ((b.labels++(e.labels++c.labels))++((if h.label.size=0 then []else [h.label])++D)) env Ts P (m+16+16*(b.wt+e.wt+c.wt)) S1:=by
   unfold OA at eA;by_cases hz:h.label.size=0
   ·rw[if_pos hz]at eA;rw[if_pos hz]at l2;obtain⟨S1',e1,H1,_⟩:=RQ (tl:=tl) (hFL b s1) (hFL e s2) (Jr hFL c) p0 p1 p2 p3 s3 H hp.1 (lab:=none) (.inl ⟨rfl,hz⟩) hbr hfl l2 (by omega) n i (by omega) (by omega);have e1':=eA.symm.trans e1;cases e1';exact(H1.le (by omega)).perm (by intro z;simp[hz])
   ·rw[if_neg hz]at eA;rw[if_neg hz]at l0 l2;obtain⟨r,y,S2,g1,g2,g3,H2,g4,g5,g6,g7⟩:=H.label (by omega) (s:=h.label) (l0.1 _ (by simp)).1 (l0.1 _ (by simp)).2 hp.1;obtain⟨S1',e1,H1,_⟩:=RQ (tl:=tl) (hFL b s1) (hFL e s2) (Jr hFL c) p0 p1 p2 p3 s3 H2 rfl (lab:=some r.1) (.inr ⟨r.1,y,rfl,g4,g5,by omega,by simp,g6,g7,fun f hf he=>by
     have h0:=(H.env.lab f hf (by rw[he];omega)).1;rw[he]at h0;exact(l0.1 _ (by simp)).2 h0⟩) hbr hfl (l2.congr (by intro s hs;simpa using hs)) (by omega) n i (by omega) (by omega)
    rw[g1]at eA;simp only[Option.bind_some]at eA;rw[g2]at eA;simp only[Option.bind_some]at eA;rw[g3]at eA;simp only[Option.bind_some]at eA;have e1':=eA.symm.trans e1;cases e1';exact(H1.le (by omega)).perm (by intro z;simp[hz])
  obtain⟨c1,j1,new1,p5,g2,g3⟩:=yL (fl:=fl) In H hp (by omega) l0 eA hcore;obtain⟨c2,j2,new2,p6,g4,g5⟩:=htl _ env Ts P _ S1 S' _ _ fl _ _ a (p+1) os c1 j1 key p5 s4 p4 f4 hbr.2.2.2.2.2.2.2 hfl l3 (by omega) (by omega) (by omega) eB (by rw[<-het];exact hst) (by rw[<-het];exact hidt) hch (by omega) (fun hc=>(hft hc).2);rw[<-het]at g4;have hlen:((T.st h b e c tl).rd.l N R n i a p).ns.length=1+ob.ns.length+oe.ns.length+oc.ns.length+ot.ns.length:=by
   rw[hns];simp;omega
  refine⟨c2,j2,new1++new2,p6,fun G hG=>?_,fun X opn hA hE hL hG hX ho hH hK=>?_⟩
  ·obtain⟨y1,y2⟩:=g4 G hG;obtain⟨y3,y4⟩:=g2 G y1;refine⟨y3,?_⟩;rw[hlen];have:=y4.app y2;rw[show N+(1+ob.ns.length+oe.ns.length+oc.ns.length+ot.ns.length)=N+1+ob.ns.length+oe.ns.length+oc.ns.length+ot.ns.length by omega];exact this
  ·obtain⟨y1,y2⟩:=g4 X.G hE;obtain⟨u1,u2,u3,u4⟩:=g5 X opn hA hE (fun x hx=>hL x (List.mem_append_right _ hx)) hG hX (fun h=>ho (.inr (.inr (.inr (.inr h))))) ⟨hH.1,fun h=>absurd h (by omega)⟩ (by
    have:(((p+1:Nat):Int)+(tl.len:Int))=((p:Int)+((T.st h b e c tl).len:Int)):=by simp only[T.len];omega
    rw[this];exact hK)
   obtain⟨k1,k2,k3,k4⟩:=g3 X opn hA y1 (fun x hx=>hL x (List.mem_append_left _ hx)) hG hX (fun h=>ho (by
    rcases h with h|h|h|h
    ·exact .inl h
    ·exact .inr (.inl h)
    ·exact .inr (.inr (.inl h))
    ·exact .inr (.inr (.inr (.inl h))))) hH (by exact_mod_cast u1)
   refine⟨k1,fun x hx=>(List.mem_append.1 hx).elim (k2 x) (u2 x),fun hiv=>u3 (k3 hiv),?_⟩;rw[show n+(T.st h b e c tl).lv false=n+h.own+b.lv false+e.lv false+c.lv (h.kind==13)+tl.lv false by simp only[T.lv];omega];exact Cx.V8.app k4 u4
end
section
def BS.whole (S:BS) (c:Nat):Gr:=⟨S.bks.modify c fun k=> { k with nodes:=k.nodes++ [⟨2,true⟩] },S.Z4,S.asked⟩
theorem Wh {S:BS} {c i:Nat} {k:Bk} (h:S.bks[i]? =some k):(S.whole c).bks[i]? =some (if i=c then { k with nodes:=k.nodes++ [⟨2,true⟩] } else k):=by
 show(S.bks.modify c _)[i]? =_;rw[List.getElem?_modify,h];by_cases e:i=c
 ·subst e;simp
 ·rw[if_neg e];have e': ¬ c=i:=fun h=>e h.symm;simp[e']
theorem QX {S:BS} {c i:Nat} {k:Bk} (h:(S.whole c).bks[i]? =some k): ∃ k0,S.bks[i]? =some k0∧k=if i=c then { k0 with nodes:=k0.nodes++ [⟨2,true⟩] } else k0:=by
 cases h0:S.bks[i]? with
 |none=>
  have h':(S.bks.modify c fun k=> { k with nodes:=k.nodes++ [⟨2,true⟩] })[i]? =some k:=h;rw[List.getElem?_modify,h0]at h';simp at h'
 |some k0=>
  rw[Wh h0]at h;exact⟨k0,rfl,(Option.some.inj h).symm⟩
structure Sem (t:T) (A:Tr) (S:BS) (c:Nat) (X:Cx):Prop where
 A:X.A=A
 G:X.G=S.whole c
 start:X.ob false false [⟨1,0,0⟩] (0,0)
 closed: ∀ p q,X.R p q->X.ob false false [p] q
 iv:X.iv t.opn S
 V8:X.V8 0 (t.lv false)
theorem yj {t:T} {A:Tr} {tg:List Int} (hA:A=t.tr tg) (h:Rt t) (hf:t.fA) (RA:Xr A) (TA:mg A) {S S3:BS} {c:Nat} (F:Fin t S S3 c) (H0:Rs t.labels [] [] [] [] 1 BS.start): ∃ X,Sem t A S c X:=by
 have hFL: ∀ u,LZ t.labels u:=fun u=>T.Xl (Q:=LZ t.labels) (fun t=>LW t) u;have hSL: ∀ u,WT A t.labels u:=fun u=>T.Xl (Q:=WT A t.labels) (fun t=>Ea RA TA hFL t) u;have hsub:Sub A 0 1 0 (t.rd.l 0 1 0 0 0 0).ls (t.rd.l 0 1 0 0 0 0).ns (t.rd.l 0 1 0 0 0 0).rs:=by
  rw[hA];exact⟨Seg.self _,Seg.self _,fun j hj=>by
   show(_::_:List Rw)[1+j]? =_;rw[Nat.add_comm,List.getElem?_cons_succ]⟩
 have hrw:A.rw ((0:Nat):Int)=⟨-1,-1,(t.rd.l 0 1 0 0 0 0).ids⟩:=by rw[hA];exact X5 (N:=0) rfl
 have hp:BS.start.pt 0 0:=⟨rfl,⟨2,some 3,[],[],false,false⟩,rfl,rfl⟩
 obtain⟨c',j',new,p',g1,g2⟩:=hSL t [] [] [] [] 1 BS.start S 0 0 false 0 1 0 0 [] 0 0 H0 hp h.Yr h.ok hf h.WV (by simp) ⟨fun s hs=>⟨hs,by simp⟩,h.nodup⟩ (by have:=h.wt;omega) (by have:=h.lv;omega) (by have:=h.it;omega)
  (by exact F.built.Zu) hsub (by rw[hrw];exact Seg.self _) (by show(A.rw _).owner= -1;exact congrArg Rw.owner hrw) (by simp) (fun hc=>absurd (congrArg Rw.clause hrw) hc)
 have hc':c'=c:=by
  have:=p'.1;rw[F.cur]at this;exact(Option.some.inj this).symm
 subst hc';obtain⟨hcur,k,hk,hj⟩:=p';have hE:Ext S [] (S.whole c'):=by
  refine⟨fun i q hi=>?_,fun j y hy=>⟨y,hy,rfl,rfl⟩,fun x hx=>hx⟩;refine⟨_,Wh hi,?_⟩;by_cases e:i=c'
  ·rw[if_pos e];exact⟨rfl,fun _=>rfl,List.prefix_append _ _,fun hs=>absurd (by rw[hcur,e]) hs.1⟩
  ·rw[if_neg e];exact⟨rfl,fun _=>rfl,List.prefix_refl _,fun _=>⟨rfl,rfl⟩⟩
 obtain⟨_,hlab⟩:=g1 _ hE;refine⟨⟨A,S.whole c',new⟩,?_⟩;have hns:A.ns=(t.rd.l 0 1 0 0 0 0).ns:=by rw[hA];rfl
 have hGL:GL ⟨A,S.whole c',new⟩:=by
  intro N x hx hs j y hy hyl;have hl:=ZW hx;obtain⟨j2,y2,f1,f2,f3⟩:=hlab N x (by omega) (by rw[<-hns,Nat.zero_add];exact hl) hx hs;have hj:=F.rs.w.labu j j2 y y2 hy f1 (by rw[hyl,f2]);subst hj;have hy':S.Z4[j]? =some y:=hy;have f1':S.Z4[j]? =some y2:=f1;rw[hy']at f1';cases f1';exact f3
 have hlast:(⟨A,S.whole c',new⟩:Cx).ob false false [⟨1,0,(0:Int)+t.len⟩] (c',j'):=by
  refine .leaf (x:= -2) ?_ ?_
  ·unfold Tr.mv;have hl: ¬ ((0:Int)+(t.len:Int)) < ((A.rw 0).nodes.length:Int):=by
    have e:(A.rw 0).nodes.length=t.len:=by
     have:=congrArg (fun r=>r.nodes.length) hrw;rw[<-JY t h.Yr 0 1 0 0 0 0];exact this
    omega
   have ho:(A.rw 0).owner= -1:=congrArg Rw.owner hrw;show(if(1:Int)=1 then _ else _)=_;rw[if_pos rfl];show(if((0:Int)+(t.len:Int)) < ((A.rw 0).nodes.length:Int)then _ else if(A.rw 0).owner= -1 then _ else _)=_;rw[if_neg hl,if_pos ho]
  ·have hg:=Wh (c:=c') hk;rw[if_pos rfl]at hg;have hn:(k.nodes++ [(⟨2,true⟩:WW)])[j']? =some ⟨2,true⟩:=by
    rw[List.getElem?_append_right (by omega),hj,Nat.sub_self];rfl
   have hl2:Zy (⟨2,true⟩:WW).pos= -2:=rfl;simp only[nx,hg,hn,hl2];rfl
 obtain⟨k1,k2,k3,k4⟩:=g2 ⟨A,S.whole c',new⟩ t.opn rfl hE (fun x hx=>hx) hGL .nil id ⟨(fun h=>by cases h),fun _ hc=>absurd (congrArg Rw.clause hrw) hc⟩ hlast;refine⟨rfl,rfl,k1,fun p q hpq=>k2 (p,q) hpq,k3 ⟨fun i q hi=>?_,by simp[BS.start,BS.none,BS.new,BS.at]⟩,by simpa using k4⟩;have hi':([⟨2,some 3,[],[],false,false⟩]:List Bk)[i]? =some q:=hi;cases i with
 |zero=>
  cases hi';exact BI.fresh ⟨rfl,rfl,rfl⟩
 |succ i=>simp at hi'
end
end Go.Proofs.YteedbaejpdjilaaGreat
