/- Part of the proof: SemY. -/
import Derived.Test.YteedbaejpdjilaaGreatYQi
set_option linter.all false
set_option maxRecDepth 100000
set_option maxHeartbeats 40000000
namespace Go.Proofs.YteedbaejpdjilaaGreat
open Go.RowKit Tryz
section
variable {ls D:List ByteArray} {env:List DF} {Ts P P':List Nat} {m:Nat} {S S' S1:BS} {G:Gr} {c0 j0 cc jj:Nat} {A:Tr} {X:Cx} {h:Hd} {b e c tl:T} {N i a p n R R2 R3 N2:Nat} {ob oe:Out} {oc:WG} {ot:Out} {os:List Nat} {opq:Prop} {Hyp:Cx->Prop} {fl:Bool} {opn:Prop}
theorem TO (hb:VK A ls b) (fb:FL ls b) {s:ByteArray} {done:Nat} (H:Rs ls D (Uz s done none::env) Ts P m S) (hp:S.pt cc jj) {Xw:Option Nat} (tm: ∀ d,Xw=some d->d∈Ts) (bs:b.Xv true) (bo:b.ok) (bf:b.fA) {fl:Bool} (hbb:b.VN ls (⟨s,false⟩::env.map DF.s) fl) (hfl:fl=true-> ∃ d,Xw=some d)
  (hl:LC ls D b.labels) (hdn:done∈P) (hm:m+16*b.wt+1<=40000) {n1 i1 N1 r q:Nat} (h1:n1+b.lv false<=39000) (hi1:i1+b.it<=40000)
  {o:Out} (ho:o=b.rd.l N1 (r+1) n1 i1 r 0) (hrw:A.rs[r]? =some ⟨N,q,o.ids⟩) (hsub:Sub A N1 (r+1) n1 o.ls o.ns o.rs) (hch:QF A (A.nd N).list os) (hos:os.length+1<=N1) (hft:b.ft (fl=true)) (hN:A.kd N=13\/A.kd N=14\/A.kd N=15) (hfr:(A.nd N).h.frame= [⟨s,false⟩])
  {S4 S5:BS} (e4:b.YO.list n1 i1 (⟨some done,none,Xw⟩::env.map DF.t) S=some S4) (e5:S4.YG done=some S5):
  ∃ new,Rs ls (b.labels++D) (Uz s done none::env) Ts P (m+16*b.wt+1) S5/\S5.cur=none/\(∀ G,Ext S5 P G->Ext S P G/\XF A G N1 (N1+o.ns.length) new)/\
   ∀ (X:Cx) (opn:Prop),X.A=A->Ext S5 P X.G->(∀ x∈new,x∈X.L)->GL X->EX X os env->(b.opn->opn)->X.ob true true [A.behind N] (done,0)->(fl=true-> ∃ d,Xw=some d/\X.ob true true [A.next r N] (d,0))->TS A r 0 cc jj X->
    X.ob false false [⟨1,r,0⟩] (cc,jj)/\(∀ x∈new,X.ob false false [x.1] x.2)/\(X.iv opn S->X.iv opn S5)/\X.Vc n1 (n1+b.lv false):=by
 subst ho;have hr:=WY hrw;have Hf:=H.frame Xw (fun d hd=>H.ts d (tm d hd));have e4':b.YO.list n1 i1 ((Uz s done Xw::env).map DF.t) S=some S4:=e4;obtain⟨S4',f4,H4,_⟩:=fb D _ Ts P m S n1 i1 fl Hf ⟨cc,hp.1⟩ bo hbb (fun h=>let⟨d,hd⟩:=hfl h;⟨_,_,d,rfl,hd⟩) hl (by omega) h1 hi1;rw[e4']at f4;cases f4;have Z9w:=hb D _ Ts P m S S4 n1 i1 fl N1 (r+1) r 0 (N::os) cc jj Hf hp bs bo bf hbb (fun h=>let⟨d,hd⟩:=hfl h;⟨_,_,d,rfl,hd⟩) hl (by omega) h1 hi1 e4' hsub (by rw[hr];exact Seg.self _) ⟨by rw[hr],hch⟩ (by simp;omega) (fun _=>hft);obtain⟨c4,j4,new,p4,g2,g3⟩:=Z9w;obtain⟨H5,c5,q5,_⟩:=H4.St p4.1 (H4.pt hdn) e5;have x5:=VP e5 p4 H4;refine⟨new,H5.frame none (fun d hd=>by cases hd),c5,fun G hG=>?_,fun X opn hA hE hL hG hX ho hB hF hC=>?_⟩
 .obtain⟨y4,_⟩:=x5 G hG;exact g2 G y4
 .subst hA;obtain⟨y4,z5⟩:=x5 X.G hE;have hX':EX X (N::os) (Uz s done Xw::env):=.cons hfr (fun d hd=>by cases hd;exact hB) (fun d hd=>by cases hd) hX;have hlen:(X.A.rw r).nodes.length=b.len:=by rw[hr];exact II b bs _ _ _ _ _ _
  have hF':SH X.A r (Uz s done Xw::env) fl X:=fun h=>by
   obtain⟨d,hd1,hd2⟩:=hF h;exact⟨_,_,d,rfl,hd1,by rw[hr];exact hd2⟩
  obtain⟨k1,k2,k3,k4⟩:=g3 X opn rfl y4 hL hG hX' ho ⟨hF',hC⟩ (by
   have e1:(((0:Nat):Int)+(b.len:Int))=(b.len:Int):=by omega
   rw[e1];exact Q7 (N:=N) (by rw[hr]) hlen (by omega) (Xr z5 hB))
  exact⟨k1,k2,fun hiv=>Xg e5 p4 (k3 hiv),k4⟩
theorem qR {body:Nat} {q:Int} (hq:OB (some q)): ∀ (k m:Nat) (S S':BS) (cc jj:Nat),Rs ls D env Ts P m S->S.pt cc jj->body∈Ts->m+3*(k+1)<=40000->WZ body q (k+1) S=some S'->
  ∃ c',S'.pt c' 0/\(∀ G,Ext S' P G->Ext S P G/\ ∀ X:Cx,X.G=G-> ∀ bp Q,X.ob false false [bp] (body,0)->X.ob false false Q (c',0)->X.ob false false (bp::Q) (cc,jj))/\ ∀ (X:Cx) (opn:Prop),opn->X.iv opn S->X.iv opn S':=by
 intro k
 induction k with
 |zero=>
  intro m S S' cc jj H hp hb hm e;unfold WZ at e;obtain⟨S1,e1,e⟩:=Z8.1 e;obtain⟨S3,e3,e⟩:=Z8.1 e;unfold WZ at e;cases e;obtain⟨H1,c1,q1,_⟩:=H.newE (by omega) hp.1 (by decide) hq e1;obtain⟨p1,x1⟩:=WO e1 hp;obtain⟨H3,c3,q3,_⟩:=H1.vr p1.1 (H1.ts _ hb) (H1.pt (d:=S.Z6.length) (by simp)) e3;have x3:=Kb e3 p1 H1;obtain⟨p4,x4⟩:=WR (d:=S.Z6.length) (P':=P) H3 (by simp) (by intro x hx;simp[hx]);refine⟨_,p4,fun G hG=>?_,fun X opn ho hiv=>XZ H3 (by simp) (Qh e3 p1 (.inl ho) (XJ e1 hiv))⟩;obtain⟨y1,z3⟩:=x3 G (x4 G hG);obtain⟨y0,_⟩:=x1 _ G y1;refine⟨y0,fun X fY bp Q h1 h2=>?_⟩;subst fY;exact LU z3 (Q1:= [bp]) (Q2:=Q) (by intro p;simp) h1.any h2.any
 |succ k ih=>
  intro m S S' cc jj H hp hb hm e;unfold WZ at e;obtain⟨S1,e1,e⟩:=Z8.1 e;obtain⟨S3,e3,e⟩:=Z8.1 e;obtain⟨H1,c1,q1,_⟩:=H.newE (by omega) hp.1 (by decide) hq e1;obtain⟨p1,x1⟩:=WO e1 hp;obtain⟨H3,c3,q3,_⟩:=H1.vr p1.1 (H1.ts _ hb) (H1.pt (d:=S.Z6.length) (by simp)) e3;have x3:=Kb e3 p1 H1;have tw:S.Z6.length∉P:=fun hp=>by have:=H.lt hp;omega
  have H4:=H3.at (d:=S.Z6.length) (P':=P) (by simp) (by intro x hx;simp[hx]) H.w.nd tw;obtain⟨p4,x4⟩:=WR (d:=S.Z6.length) (P':=P) H3 (by simp) (by intro x hx;simp[hx]);obtain⟨c',p',g1,g2⟩:=ih (m+3) _ S' _ _ (H4.le (by omega)) p4 hb (by omega) e;refine⟨c',p',fun G hG=>?_,fun X opn ho hiv=>g2 X opn ho (XZ H3 (by simp) (Qh e3 p1 (.inl ho) (XJ e1 hiv)))⟩;obtain⟨y4,r⟩:=g1 G hG;obtain⟨y1,z3⟩:=x3 G (x4 G y4);obtain⟨y0,_⟩:=x1 _ G y1;refine⟨y0,fun X fY bp Q h1 h2=>?_⟩;have h3:=r X fY bp Q h1 h2;subst fY;exact LU z3 (Q1:= [bp]) (Q2:=bp::Q) (by intro p;simp) h1.any h3.any
structure Tk where
 d:Tz
 N:Nat
 r:Nat
 q:Nat
def Tk.out (x:Tk):Out:=x.d.b.rd.l x.N (x.r+1) x.d.n x.d.i x.r 0
structure J4 (A:Tr) (ls:List ByteArray) (N:Nat) (os:List Nat) (fl:Bool) (x:Tk):Prop where
 sem:VK A ls x.d.b
 Xv:x.d.b.Xv true
 fA:x.d.b.fA
 rw:A.rs[x.r]? =some ⟨N,x.q,x.out.ids⟩
 sub:Sub A x.N (x.r+1) x.d.n x.out.ls x.out.ns x.out.rs
 ft:x.d.b.ft (fl=true)
 hos:os.length+1<=x.N
 plain:(A.ch N x.q).plain=true
def qQ (l:List V1):List Pl:=l.map fun c=>⟨1,c.list,0⟩
def LI (l:List V1) (dx:Option Tk) (none':List Pl):List Pl:=qQ l++match dx with
 |some x=> [⟨1,x.r,0⟩]
 |none=>if l.any (fun c=>c.plain)=true then []else none'
def J3 (A:Tr) (G:Gr) (dx:Option Tk) (new:List (Pl × Pt)):Prop:= ∀ x,dx=some x->XF A G x.N (x.N+x.out.ns.length) new
def vp (X:Cx) (dx:Option Tk):Prop:= ∀ x,dx=some x->X.Vc x.d.n (x.d.n+x.d.b.lv false)
def jf:Option Tk->Prop
 |none=>False
 |some x=>x.d.b.opn
def B5 (A:Tr) (N:Nat) (P:List Nat) (S S':BS) (N1 N2 n1 n2 done:Nat) (os:List Nat) (env:List DF) (Q:List Pl) (c j:Nat) (dx:Option Tk) (opq:Prop):Prop:=
 ∃ new,S'.pt done 0/\(∀ G,Ext S' P G->Ext S (done::P) G/\XF A G N1 N2 new/\J3 A G dx new)/\
  ∀ (X:Cx) (opn:Prop),opn->X.A=A->Ext S' P X.G->(∀ x∈new,x∈X.L)->GL X->EX X os env->X.ob false false [A.behind N] (done,0)->
   X.ob false false Q (c,j)/\(∀ x∈new,X.ob false false [x.1] x.2)/\(X.iv opn S->X.iv opn S')/\X.Vc n1 n2/\vp X dx
theorem B4 {s:ByteArray} {done:Nat} {x:Tk} (H:Rs ls D (Uz s done none::env) Ts (done::P) m S) (hp:S.pt cc jj) (hd:PT ls env s x.d) (hx:J4 A ls N os false x) (hl:LC ls D x.d.b.labels) (hm:m+16*x.d.b.wt+8<=40000)
  (hch:QF A (A.nd N).list os) (hN:A.kd N=14\/A.kd N=15) (hfr:(A.nd N).h.frame= [⟨s,false⟩]) {S2 S3:BS} (e2:x.d.lr (⟨some done,none,none⟩::env.map DF.t) S=some S2) (e3:S2.YG done=some S3) {none':List Pl} :
  B5 A N P S (S3.at done) N2 N2 n n done os env (LI [] (some x) none') cc jj (some x) opq:=by
 obtain⟨g1,g2,g3,g5,g6⟩:=hd;obtain⟨new,H3,c3,x3,s3⟩:=TO (Xw:=none) (fl:=false) hx.sem g1 H hp (by simp) hx.Xv g2 hx.fA g3 (by simp) hl (by simp) (by omega) g5 g6 (N1:=x.N) (r:=x.r) (q:=x.q) rfl hx.rw hx.sub hch hx.hos hx.ft (by omega) hfr e2 e3;obtain⟨p3,x3'⟩:=WR (P':=P) (d:=done) H3 (by simp) (by intro p hp;simp[hp]);refine⟨new,p3,fun G hG=>?_,fun X opn ho hA hE hL hG hX hK=>?_⟩
 .obtain⟨y1,y2⟩:=x3 G (x3' G hG);exact⟨y1,XF.nil,fun y hy=>by cases hy;exact y2⟩
 .obtain⟨k1,k2,k3,k4⟩:=s3 X opn hA (x3' X.G hE) hL hG hX (fun _=>ho) hK.any (by simp) (fun _ _ l hl h5=>by
   have hr:=WY hx.rw;rw[hr]at hl h5;have hl':l=A.ch N x.q:=hl;rw[hl']at h5;have h5':A.kd N=13\/(A.ch N x.q).plain=false:=h5;rw[hx.plain]at h5';rcases h5' with h5'|h5'
   .omega
   .cases h5')
  exact⟨k1,k2,fun hiv=>XZ H3 (by simp) (k3 hiv),Cx.Vc.nil,fun y hy=>by cases hy;exact k4⟩
theorem qP {d:Nat} (H:Rs ls D env Ts P m S) (hp:S.pt cc jj) (hd:d∈P) (hP: ∀ p∈P',p∈P): ∀ G,Ext (S.at d) P' G->G.ends cc jj []:=by
 intro G hG;obtain⟨hc,k,hk,hj⟩:=hp;obtain⟨hcP,k0,hk0,hs0⟩:=H.w.cur cc hc;rw[hk]at hk0;cases hk0;obtain⟨q',g1,_,_,_,g5⟩:=hG.blk cc k hk;obtain⟨f1,f2⟩:=g5 ⟨fun e=>by
  have e':d=cc:=Y0 e;exact hcP (by rw[<-e'];exact hd),fun hc=>hcP (hP _ hc),fun i y hi hy hn=>by
  obtain⟨_,r,h1,_,h3⟩:=H.w.V8 i y hi;rw[hy,hk]at h1;cases h1;exact(h3 hn).2.1 (by rw[hy];exact hc)⟩
 exact⟨q',g1,by rw[f1];exact hj,by rw[f2];exact hs0⟩
end
section
variable {ls D:List ByteArray} {env:List DF} {Ts P P':List Nat} {m:Nat} {S S' S1:BS} {G:Gr} {c0 j0 cc jj:Nat} {A:Tr} {X:Cx} {h:Hd} {b e c tl:T} {N i a p n R R2 R3 N2:Nat} {ob oe:Out} {oc:WG} {ot:Out} {os:List Nat} {opq:Prop} {Hyp:Cx->Prop} {fl:Bool} {opn:Prop}
theorem XF.join {N1 N2 N3:Nat} {new:List (Pl × Pt)} (h1:XF A G N1 N2 new) (h2:XF A G N2 N3 new):XF A G N1 N3 new:=by
 intro k x g1 g2 g3 g4;by_cases h:k < N2
 .exact h1 k x g1 h g3 g4
 .exact h2 k x (by omega) g2 g3 g4
theorem J3.more {dx:Option Tk} {new new':List (Pl × Pt)} (h:J3 A G dx new) (hn: ∀ x∈new,x∈new'):J3 A G dx new':=fun x hx=>(h x hx).more hn
theorem Gi {q:Nat} {x:V1} (h:(A.nd N).choices[q]? =some x):A.ch N q=x:=by
 unfold Tr.ch;rw[Y1,Zy,h];rfl
theorem MW {x:V1} {l:List V1} {y:Tk} {z:List Pl} (h1:x.plain=true) (h2:x.list=y.r) (p:Pl):p∈LI (x::l) none z↔p∈LI l (some y) z:=by
 simp only[LI,qQ,List.map_cons,List.any_cons,h1,Bool.true_or,if_true,h2];simp;exact or_comm
theorem J2 {x:V1} {l:List V1} {dx:Option Tk} {z:List Pl} (h1:x.plain=false):LI (x::l) dx z=⟨1,x.list,0⟩::LI l dx z:=by
 simp[LI,qQ,List.any_cons,h1]
theorem J1 {b tl:T} {k:Int} (hk:k≠13) (h:b.ft (k=13/\tl≠ .nil)):b.ft ((false:Bool)=true):=by
 have e:(k=13/\tl≠ .nil)=((false:Bool)=true):=propext ⟨fun h=>absurd h.1 hk,fun h=>absurd h (by simp)⟩;rw[<-e];exact h
theorem Is {s:ByteArray} {done:Nat} {dx:Option Tk} (H:Rs ls D (Uz s done none::env) Ts (done::P) m S) (hp:S.pt cc jj) (hdf: ∀ d,dx=some d->PT ls env s d.d/\J4 A ls N os false d) (hl:LC ls D (Vq (dx.map Tk.d))) (hm:m+16*UK (dx.map Tk.d)+8<=40000)
  (hch:QF A (A.nd N).list os) (hN:A.kd N=14\/A.kd N=15) (hfr:(A.nd N).h.frame= [⟨s,false⟩]) (e:RK (env.map DF.t) done ((dx.map Tk.d).map Tz.lr) S=some S'):
  B5 A N P S S' N2 N2 n n done os env (LI [] dx [A.behind N]) cc jj dx True:=by
 cases dx with
 |none=>
  simp only[RK,Yv]at e;obtain⟨S1,e1,e⟩:=ZX.1 e;subst e;obtain⟨H1,c1,q1,_⟩:=H.St hp.1 (H.pt (d:=done) (by simp)) e1;have x1:=VP e1 hp H;obtain⟨p1,x1'⟩:=WR (P':=P) (d:=done) H1 (by simp) (by intro p hp;simp[hp]);refine⟨[],p1,fun G hG=>⟨(x1 G (x1' G hG)).1,XF.nil,fun x hx=>by cases hx⟩,fun X opn ho hA hE hL hG hX hK=>?_⟩;subst hA;have z1:=(x1 X.G (x1' X.G hE)).2;exact⟨by simpa [LI,qQ]using Xr z1 hK.any,by simp,fun hiv=>XZ H1 (by simp) (Xg e1 hp hiv),Cx.Vc.nil,fun x hx=>by cases hx⟩
 |some x=>
  simp only[RK,Y7]at e;obtain⟨S2,e2,e⟩:=Z8.1 e;obtain⟨S3,e3,e⟩:=ZX.1 e;subst e;exact B4 H hp (hdf x rfl).1 (hdf x rfl).2 hl hm hch hN hfr e2 e3
theorem J0 {s:ByteArray} {done:Nat} {dx:Option Tk} (H:Rs ls D (Uz s done none::env) Ts (done::P) m S) (hp:S.pt cc jj) (hdf: ∀ d,dx=some d->PT ls env s d.d/\J4 A ls N os false d) (hl:LC ls D (Vq (dx.map Tk.d))) (hm:m+16*UK (dx.map Tk.d)+8<=40000)
  (hch:QF A (A.nd N).list os) (hN:A.kd N=14\/A.kd N=15) (hfr:(A.nd N).h.frame= [⟨s,false⟩]) (e:UE (env.map DF.t) done ((dx.map Tk.d).map Tz.lr) S=some S'):
  B5 A N P S S' N2 N2 n n done os env (LI [] dx []) cc jj dx True:=by
 cases dx with
 |none=>
  simp only[UE,Yv]at e;cases e;obtain⟨p1,x1⟩:=WR (P':=P) (d:=done) H (by simp) (by intro p hp;simp[hp]);refine⟨[],p1,fun G hG=>⟨x1 G hG,XF.nil,fun x hx=>by cases hx⟩,fun X opn ho hA hE hL hG hX hK=>?_⟩;have z1:=qP (P':=P) (d:=done) H hp (by simp) (by intro p hp;simp[hp]) X.G hE;exact⟨by simpa [LI,qQ]using xV z1,by simp,fun hiv=>XZ H (by simp) hiv,Cx.Vc.nil,fun x hx=>by cases hx⟩
 |some x=>
  simp only[UE,Y7]at e;obtain⟨S2,e2,e⟩:=Z8.1 e;obtain⟨S3,e3,e⟩:=ZX.1 e;subst e;exact B4 H hp (hdf x rfl).1 (hdf x rfl).2 hl hm hch hN hfr e2 e3
theorem Ir: ∀ c:T,c.All (K6 ls)->c.All (VK A ls)-> ∀ (D:List ByteArray) (env:List DF) (Ts P:List Nat) (m:Nat) (S S':BS) (n i:Nat) (s:ByteArray) (done:Nat) (dx:Option Tk) (N N1 R1 q k0:Nat) (os:List Nat) (cc jj:Nat),
  Rs ls D (Uz s done none::env) Ts (done::P) m S->S.pt cc jj->c.ok->c.Xv false->c.fA->c.cf 14->c.VN ls (⟨s,false⟩::env.map DF.s) false->(∀ d,dx=some d->PT ls env s d.d/\J4 A ls N os false d)->
  c.YV+dx.toList.length<=1->LC ls D (c.labels++Vq (dx.map Tk.d))->m+16*(c.wt+UK (dx.map Tk.d))+8<=40000->n+c.lv false<=39000->i+c.it<=40000->
  c.YO.ty n i (env.map DF.t) done ((dx.map Tk.d).map Tz.lr) S=some S'->
  Sub A N1 R1 n (c.rd.c false N N1 R1 n i q k0).ls (c.rd.c false N N1 R1 n i q k0).ns (c.rd.c false N N1 R1 n i q k0).rs->Seg (A.nd N).choices q (c.rd.c false N N1 R1 n i q k0).Yn->QF A (A.nd N).list os->os.length+1<=N1->A.kd N=14->(A.nd N).h.frame= [⟨s,false⟩]->
  B5 A N P S S' N1 (N1+(c.rd.c false N N1 R1 n i q k0).ns.length) n (n+c.lv false) done os env (LI (c.rd.c false N N1 R1 n i q k0).Yn dx [A.behind N]) cc jj dx True:=by
 intro c
 induction c with
 |nil=>
  intro _ _ D env Ts P m S S' n i s done dx N N1 R1 q k0 os cc jj H hp _ _ _ _ _ hdf _ hl hm _ _ e _ _ hch _ hN hfr;have:=Is (N2:=N1) (n:=n) H hp hdf (by simpa [T.labels]using hl) (by simp[T.wt]at hm;omega) hch (.inl hN) hfr e;simpa [T.rd,T.lv]using this
 |st h b e c tl=>intro _ _ D env Ts P m S S' n i s done dx N N1 R1 q k0 os cc jj H hp _ hs;exact absurd hs.1 (by simp)
 |cl x b tl _ ih=>
  intro⟨hQ,hall⟩ ⟨hSb,Qf⟩ D env Ts P m S S' n i s done dx N N1 R1 q k0 os cc jj H hp ⟨hx0,hx3,bo,vo⟩ ⟨_,bs,ts⟩ ⟨bf,tf⟩ ⟨_,_,hft,hcf⟩ ⟨hbb,htb⟩ hdf hpl hl hm hn hi e hsub hseg hch hos hN hfr;have Uy:=hQ bs;simp only[T.wt]at hm;simp only[T.lv,Zw,if_false,YR]at hn;simp only[T.it]at hi;simp only[T.labels,ZI]at hl;simp only[Bool.false_and]at hbb;have hnd:=ZS.1 H.w.nd;obtain⟨tz,ob,ot,I,hrd⟩:=M1 hsub;have htz:tz=0:=by rw[I.ets];rfl
  subst htz;have JZ:b.ft ((false:Bool)=true):=J1 (by decide) hft;have hlv:=(Qg b).1 bs bf N1 (R1+1) n (i+1) R1 0;have heb:ob=b.rd.l N1 (R1+1) n (i+1) R1 0:=I.eb;rw[<-heb]at hlv;have JY:Sub A N1 (R1+1) n ob.ls ob.ns ob.rs:=I.sb;have het:ot=tl.rd.c false N (N1+ob.ns.length) (R1+1+ob.rs.length) (n+b.lv false) (i+1+b.it) (q+1) k0:=by
   rw[I.et,hlv.1,hlv.2];rfl
  have Q5:Sub A (N1+ob.ns.length) (R1+1+ob.rs.length) (n+b.lv false) ot.ls ot.ns ot.rs:=by
   have:=I.st;rw[hlv.1]at this;exact this
  have UN:((T.cl x b tl).rd.c false N N1 R1 n i q k0).Yn=⟨i,R1,decide (x=0)⟩::ot.Yn:=by rw[hrd]
  have hns:((T.cl x b tl).rd.c false N N1 R1 n i q k0).ns=ob.ns++ot.ns:=by rw[hrd]
  rw[UN]at hseg ⊢;rw[hns];obtain⟨hq,Ss⟩:=hseg.cons;have N5:=Gi hq;have hrr:=WY I.rw;simp only[T.YO]at e;by_cases hx:x<=0
  .rw[if_pos hx]at e;have hx':x=0:=by omega
   have hdn:dx=none:=by
    cases dx with
    |none=>rfl
    |some d=>simp[T.YV,hx']at hpl
   subst hdn;obtain⟨y,hy⟩: ∃ y:Tk,y=⟨⟨b,n,i+1,0,0⟩,N1,R1,q⟩:=⟨_,rfl⟩
   have hyo:y.out=ob:=by rw[hy,heb];rfl
   have hyS:J4 A ls N os false y:=by
    refine⟨by rw[hy];exact hSb,by rw[hy];exact bs,by rw[hy];exact bf,?_,?_,by rw[hy];exact JZ,by rw[hy];exact hos,?_⟩
    .rw[hyo,hy];exact I.rw
    .rw[hyo,hy];exact JY
    .rw[hy];show(A.ch N q).plain=true;rw[N5];simp[hx']
   have hyD:PT ls env s y.d:=by rw[hy];exact⟨Uy,bo,hbb,by show n+b.lv false<=39000;omega,by show i+1+b.it<=40000;omega⟩
   have xP:y.d=⟨b,n,i+1,0,0⟩:=by rw[hy]
   obtain⟨new,p',g2,g3⟩:=ih hall Qf D env Ts P m S S' (n+b.lv false) (i+1+b.it) s done (some y) N (N1+ob.ns.length) (R1+1+ob.rs.length) (q+1) k0 os cc jj H hp vo ts tf hcf htb
    (fun d hd=>by cases hd;exact⟨hyD,hyS⟩) (by simp[T.YV,hx']at hpl ⊢;omega) (by simp only[Y7,xP,Vq,Yv,Y9]at hl ⊢;exact hl.comm) (by simp only[Y7,xP,UK,Yv]at hm ⊢;omega) (by omega) (by omega) (by simp only[Y7,xP];exact e)
    (by rw[<-het];exact Q5) (by rw[<-het];exact Ss) hch (by omega) hN hfr
   rw[<-het]at g2 g3;refine⟨new,p',fun G hG=>?_,fun X opn ho hA hE hL hG hX hK=>?_⟩
   .obtain⟨y1,y2,y3⟩:=g2 G hG;have y4:=y3 y rfl;rw[hyo,show y.N=N1 by rw[hy]]at y4;refine⟨y1,?_,fun x hx=>by cases hx⟩;rw[Z4,<-Z3];exact y4.join y2
   .obtain⟨k1,k2,k3,k4,k5⟩:=g3 X opn ho hA hE hL hG hX hK;have k6:=k5 y rfl;rw[xP]at k6;refine⟨.eqv (MW (by simp[hx']) (by rw[hy])) k1,k2,k3,?_,fun x hx=>by cases hx⟩;rw[show(T.cl x b tl).lv false=b.lv false+tl.lv false by simp[T.lv],<-Z3];exact Cx.Vc.app k6 k4
  .rw[if_neg hx]at e;obtain⟨kx,hkx⟩: ∃ kx,x.toNat=kx+1:=⟨x.toNat -1,by omega⟩
   rw[hkx]at e;obtain⟨S1,e1,e⟩:=Z8.1 e;obtain⟨S3,e3,e⟩:=Z8.1 e;obtain⟨S4,e4,e⟩:=Z8.1 e;obtain⟨S5,e5,e⟩:=Z8.1 e;obtain⟨H1,c1,q1,_⟩:=H.newE (by omega) hp.1 (by decide) (XK (by omega)) e1;obtain⟨p1,x1⟩:=WO e1 hp;have hnb:S.Z6.length∉done::P:=fun hp=>by have:=H.lt hp;omega
   have Di:=H1.watch (d:=S.Z6.length) (by simp);obtain⟨S3',f3,H3,hl3,hr⟩:=K7 (body:=S.Z6.length) (p:=ip i) (XK (by omega)) (kx+1) (m+1) S1 cc Di p1.1 (by simp) (by omega);rw[e3]at f3;cases f3;obtain⟨c',p3,x3,v3⟩:=qR (body:=S.Z6.length) (q:=ip i) (XK (by omega)) kx (m+1) S1 S3 cc jj Di p1 (by simp) (by omega) e3;have qO: ∃ kq,S1.Z6.length<=c'/\c' < S3.Z6.length/\S3.Z6[c']? =some kq/\kq.fresh/\kq.kind≠1/\kq.kind≠10:=by
    rcases hr with⟨h0,_⟩ |⟨c'',kq,h0,h1,h2,h3,h4⟩
    .omega
    .have h5:=p3.1;rw[h0]at h5;cases h5;exact⟨kq,h1,h2,h3,h4⟩
   obtain⟨kq,td,sZ,hkq,Dh,hk1,hk10⟩:=qO;have I8:c'∉S.Z6.length::done::P:=fun hp=>by have:=H1.lt hp;omega
   have H4:=H3.swap (d:=S.Z6.length) (P':=c'::done::P) p3.1 hkq Dh hk1 hk10 (by simp) (by
    intro p hp;rcases ZO.1 hp with rfl|hp
    .simp
    .exact Z2 _ (Z2 _ hp)) (ZS.2 ⟨fun hp=>I8 (Z2 _ hp),H.w.nd⟩) (by
    intro hp;rcases ZO.1 hp with h|hp
    .exact I8 (by simp[h])
    .exact hnb hp)
   have p4:(S3.at S.Z6.length).pt S.Z6.length 0:=(WR (P':=done::P) H3 (by simp) (by intro p hp;exact Z2 _ hp)).1;obtain⟨l1,l2⟩:=LC.app (a:=b.labels) (b:=tl.labels++Vq (dx.map Tk.d)) hl;obtain⟨nb,H5,c5,x5,s5⟩:=TO (Xw:=none) (fl:=false) hSb Uy H4 p4 (by simp) bs bo bf hbb (by simp) l1 (by simp) (by omega) (n1:=n) (i1:=i+1) (N1:=N1) (r:=R1) (q:=q) (by omega) (by omega) heb I.rw JY hch hos JZ (by omega) hfr e4 e5;have H6:=H5.at (d:=c') (P':=done::P) (by simp) (by intro p hp;exact Z2 _ hp) H.w.nd (fun hp=>I8 (Z2 _ hp));obtain⟨p6,x6⟩:=WR (d:=c') (P':=done::P) H5 (by simp) (by intro p hp;exact Z2 _ hp);rw[p3.1]at e
   obtain⟨new,p',g2,g3⟩:=ih hall Qf _ env _ P _ (S5.at c') S' (n+b.lv false) (i+1+b.it) s done dx N (N1+ob.ns.length) (R1+1+ob.rs.length) (q+1) k0 os c' 0 H6 p6 vo ts tf hcf htb hdf (by simp[T.YV]at hpl ⊢;omega) l2 (by omega) (by omega) (by omega) e
    (by rw[<-het];exact Q5) (by rw[<-het];exact Ss) hch (by omega) hN hfr
   rw[<-het]at g2 g3;have B3: ∀ G,Ext (S3.at S.Z6.length) (c'::done::P) G->Ext S3 (S.Z6.length::done::P) G:=fun G hG=>hG.at (.inl (by simp)) (fun p hp=>by
    rcases ZO.1 hp with rfl|hp
    .exact .inr p3.1
    .exact .inl (Z2 _ hp))
   refine⟨nb++new,p',fun G hG=>?_,fun X opn ho hA hE hL hG hX hK=>?_⟩
   .obtain⟨y1,y2,y3⟩:=g2 G hG;obtain⟨y5,y6⟩:=x5 G (x6 G y1);obtain⟨y7,_⟩:=x3 G (B3 G y5);refine⟨(x1 _ G y7).1,?_,y3.more (fun x hx=>Zr _ hx)⟩;rw[Z4,<-Z3];exact y6.app y2
   .subst hA;obtain⟨y1,y2,y3⟩:=g2 X.G hE;obtain⟨y5,y6⟩:=x5 X.G (x6 X.G y1);obtain⟨y7,r7⟩:=x3 X.G (B3 X.G y5);obtain⟨_,z1⟩:=x1 _ X.G y7;obtain⟨k1,k2,k3,k4,k5⟩:=g3 X opn ho rfl hE (fun x hx=>hL x (Zr _ hx)) hG hX hK;obtain⟨u1,u2,u3,u4⟩:=s5 X opn rfl (x6 X.G y1) (fun x hx=>hL x (Zd _ hx)) hG hX (fun _=>ho) hK.any (by simp) (fun _ _ l hl h5=>by
     rw[hrr]at hl ⊢;have hl':l=X.A.ch N q:=hl;rw[N5]at hl';refine⟨rfl,fun h15=>?_,fun _=>?_⟩
     .have yL:X.A.kd N=15:=h15;omega
     .rw[hl'];exact⟨i,rfl,z1⟩)
    refine⟨?_,fun x hx=>(ZM.1 hx).elim (u2 x) (k2 x),fun hiv=>k3 (XZ H5 (by simp) (u3 (XZ H3 (by simp) (v3 X opn ho (XJ e1 hiv))))),?_,k5⟩
    .rw[J2 (by simp;omega)];exact r7 X rfl _ _ u1 k1
    .rw[show(T.cl x b tl).lv false=b.lv false+tl.lv false by simp[T.lv],<-Z3];exact Cx.Vc.app u4 k4
end
section
variable {ls D:List ByteArray} {env:List DF} {Ts P P':List Nat} {m:Nat} {S S' S1:BS} {G:Gr} {c0 j0 cc jj:Nat} {A:Tr} {X:Cx} {h:Hd} {b e c tl:T} {N i a p n R R2 R3 N2:Nat} {ob oe:Out} {oc:WG} {ot:Out} {os:List Nat} {opq:Prop} {Hyp:Cx->Prop} {fl:Bool} {opn:Prop}
theorem JX: ∀ c:T,c.All (K6 ls)->c.All (VK A ls)-> ∀ (D:List ByteArray) (env:List DF) (Ts P:List Nat) (m m0:Nat) (S S':BS) (n i:Nat) (s:ByteArray) (done:Nat) (dx:Option Tk) (N N1 R1 q k0:Nat) (os:List Nat) (cc jj:Nat),
  Rs ls D (Uz s done none::env) Ts (done::P) m S->S.pt cc jj->c.ok->c.Xv false->c.fA->c.cf 15->c.VN ls (⟨s,false⟩::env.map DF.s) false->(∀ d,dx=some d->PT ls env s d.d/\J4 A ls N os false d)->
  c.YV+dx.toList.length<=1->LC ls D (c.labels++Vq (dx.map Tk.d))->m+16*(c.wt+UK (dx.map Tk.d))+8<=m0+c.len->m0<=40000->n+c.lv false<=39000->i+c.it<=40000->
  c.YO.sel n i (env.map DF.t) done ((dx.map Tk.d).map Tz.lr) S=some S'->
  Sub A N1 R1 n (c.rd.c false N N1 R1 n i q k0).ls (c.rd.c false N N1 R1 n i q k0).ns (c.rd.c false N N1 R1 n i q k0).rs->Seg (A.nd N).choices q (c.rd.c false N N1 R1 n i q k0).Yn->QF A (A.nd N).list os->os.length+1<=N1->A.kd N=15->(A.nd N).h.frame= [⟨s,false⟩]->
  B5 A N P S S' N1 (N1+(c.rd.c false N N1 R1 n i q k0).ns.length) n (n+c.lv false) done os env (LI (c.rd.c false N N1 R1 n i q k0).Yn dx []) cc jj dx True:=by
 intro c
 induction c with
 |nil=>
  intro _ _ D env Ts P m m0 S S' n i s done dx N N1 R1 q k0 os cc jj H hp _ _ _ _ _ hdf _ hl hm hm0 _ _ e _ _ hch _ hN hfr;have:=J0 (N2:=N1) (n:=n) H hp hdf (by simpa [T.labels]using hl) (by simp[T.wt,T.len]at hm;omega) hch (.inr hN) hfr e;simpa [T.rd,T.lv]using this
 |st h b e c tl=>intro _ _ D env Ts P m m0 S S' n i s done dx N N1 R1 q k0 os cc jj H hp _ hs;exact absurd hs.1 (by simp)
 |cl x b tl _ ih=>
  intro⟨hQ,hall⟩ ⟨hSb,Qf⟩ D env Ts P m m0 S S' n i s done dx N N1 R1 q k0 os cc jj H hp ⟨hx0,hx3,bo,vo⟩ ⟨_,bs,ts⟩ ⟨bf,tf⟩ ⟨_,hx1,hft,hcf⟩ ⟨hbb,htb⟩ hdf hpl hl hm hm0 hn hi e hsub hseg hch hos hN hfr;have Uy:=hQ bs;simp only[T.wt,T.len]at hm;have hlt:=T.QK tl;simp only[T.lv,Zw,if_false,YR]at hn;simp only[T.it]at hi;simp only[T.labels,ZI]at hl;simp only[Bool.false_and]at hbb;have hnd:=ZS.1 H.w.nd;obtain⟨tz,ob,ot,I,hrd⟩:=M1 hsub;have htz:tz=0:=by rw[I.ets];rfl
  subst htz;have JZ:b.ft ((false:Bool)=true):=J1 (by decide) hft;have hlv:=(Qg b).1 bs bf N1 (R1+1) n (i+1) R1 0;have heb:ob=b.rd.l N1 (R1+1) n (i+1) R1 0:=I.eb;rw[<-heb]at hlv;have JY:Sub A N1 (R1+1) n ob.ls ob.ns ob.rs:=I.sb;have het:ot=tl.rd.c false N (N1+ob.ns.length) (R1+1+ob.rs.length) (n+b.lv false) (i+1+b.it) (q+1) k0:=by
   rw[I.et,hlv.1,hlv.2];rfl
  have Q5:Sub A (N1+ob.ns.length) (R1+1+ob.rs.length) (n+b.lv false) ot.ls ot.ns ot.rs:=by
   have:=I.st;rw[hlv.1]at this;exact this
  have UN:((T.cl x b tl).rd.c false N N1 R1 n i q k0).Yn=⟨i,R1,decide (x=0)⟩::ot.Yn:=by rw[hrd]
  have hns:((T.cl x b tl).rd.c false N N1 R1 n i q k0).ns=ob.ns++ot.ns:=by rw[hrd]
  rw[UN]at hseg ⊢;rw[hns];obtain⟨hq,Ss⟩:=hseg.cons;have N5:=Gi hq;have hrr:=WY I.rw;simp only[T.YO]at e;by_cases hx:x<=0
  .rw[if_pos hx]at e;have hx':x=0:=by omega
   have hdn:dx=none:=by
    cases dx with
    |none=>rfl
    |some d=>simp[T.YV,hx']at hpl
   subst hdn;obtain⟨y,hy⟩: ∃ y:Tk,y=⟨⟨b,n,i+1,0,0⟩,N1,R1,q⟩:=⟨_,rfl⟩
   have hyo:y.out=ob:=by rw[hy,heb];rfl
   have hyS:J4 A ls N os false y:=by
    refine⟨by rw[hy];exact hSb,by rw[hy];exact bs,by rw[hy];exact bf,?_,?_,by rw[hy];exact JZ,by rw[hy];exact hos,?_⟩
    .rw[hyo,hy];exact I.rw
    .rw[hyo,hy];exact JY
    .rw[hy];show(A.ch N q).plain=true;rw[N5];simp[hx']
   have hyD:PT ls env s y.d:=by rw[hy];exact⟨Uy,bo,hbb,by show n+b.lv false<=39000;omega,by show i+1+b.it<=40000;omega⟩
   have xP:y.d=⟨b,n,i+1,0,0⟩:=by rw[hy]
   obtain⟨new,p',g2,g3⟩:=ih hall Qf D env Ts P m m0 S S' (n+b.lv false) (i+1+b.it) s done (some y) N (N1+ob.ns.length) (R1+1+ob.rs.length) (q+1) k0 os cc jj H hp vo ts tf hcf htb
    (fun d hd=>by cases hd;exact⟨hyD,hyS⟩) (by simp[T.YV,hx']at hpl ⊢;omega) (by simp only[Y7,xP,Vq,Yv,Y9]at hl ⊢;exact hl.comm) (by simp only[Y7,xP,UK,Yv]at hm ⊢;omega) hm0 (by omega) (by omega) (by simp only[Y7,xP];exact e)
    (by rw[<-het];exact Q5) (by rw[<-het];exact Ss) hch (by omega) hN hfr
   rw[<-het]at g2 g3;refine⟨new,p',fun G hG=>?_,fun X opn ho hA hE hL hG hX hK=>?_⟩
   .obtain⟨y1,y2,y3⟩:=g2 G hG;have y4:=y3 y rfl;rw[hyo,show y.N=N1 by rw[hy]]at y4;refine⟨y1,?_,fun x hx=>by cases hx⟩;rw[Z4,<-Z3];exact y4.join y2
   .obtain⟨k1,k2,k3,k4,k5⟩:=g3 X opn ho hA hE hL hG hX hK;have k6:=k5 y rfl;rw[xP]at k6;refine⟨.eqv (MW (by simp[hx']) (by rw[hy])) k1,k2,k3,?_,fun x hx=>by cases hx⟩;rw[show(T.cl x b tl).lv false=b.lv false+tl.lv false by simp[T.lv],<-Z3];exact Cx.Vc.app k6 k4
  .rw[if_neg hx]at e;obtain⟨S1,e1,e⟩:=Z8.1 e;obtain⟨S2,e2,e⟩:=Z8.1 e;obtain⟨S3,e3,e⟩:=Z8.1 e;obtain⟨S4,e4,e⟩:=Z8.1 e;obtain⟨S5,e5,e⟩:=Z8.1 e;obtain⟨H1,c1,q1,_⟩:=H.newE (by omega) hp.1 (by decide) (XK (by omega)) e1;obtain⟨p1,x1⟩:=WO e1 hp;obtain⟨H2,c2,q2,_⟩:=H1.newE (by omega) p1.1 (by decide) (XK (by omega)) e2;obtain⟨p2,x2⟩:=WO e2 p1;have hnb:S.Z6.length∉done::P:=fun hp=>by have:=H.lt hp;omega
   have hnc:S1.Z6.length∉done::P:=fun hp=>by have:=H.lt hp;omega
   obtain⟨H3,c3,q3,_⟩:=H2.vr p2.1 (t:=S.Z6.length) (t2:=S1.Z6.length) (H2.pt (by simp)) (H2.pt (by simp)) e3;have x3:=Kb e3 p2 H2;have m4: ∀ p∈S1.Z6.length::done::P,p∈S1.Z6.length::S.Z6.length::done::P:=by intro p hp;simp at hp ⊢;rcases hp with h|h|h<;>simp[h]
   have H4:=H3.at (d:=S.Z6.length) (P':=S1.Z6.length::done::P) (by simp) m4 (ZS.2 ⟨hnc,H.w.nd⟩) (by
    intro hp;rcases ZO.1 hp with h|hp
    .omega
    .exact hnb hp)
   obtain⟨p4,x4⟩:=WR (d:=S.Z6.length) (P':=S1.Z6.length::done::P) H3 (by simp) m4;obtain⟨l1,l2⟩:=LC.app (a:=b.labels) (b:=tl.labels++Vq (dx.map Tk.d)) hl;obtain⟨nb,H5,c5,x5,s5⟩:=TO (Xw:=none) (fl:=false) hSb Uy H4 p4 (by simp) bs bo bf hbb (by simp) l1 (by simp) (by omega) (n1:=n) (i1:=i+1) (N1:=N1) (r:=R1) (q:=q) (by omega) (by omega) heb I.rw JY hch hos JZ (by omega) hfr e4 e5;have H6:=H5.at (d:=S1.Z6.length) (P':=done::P) (by simp) (by intro p hp;exact Z2 _ hp) H.w.nd hnc;obtain⟨p6,x6⟩:=WR (d:=S1.Z6.length) (P':=done::P) H5 (by simp) (by intro p hp;exact Z2 _ hp)
   obtain⟨new,p',g2,g3⟩:=ih hall Qf _ env _ P _ m0 (S5.at S1.Z6.length) S' (n+b.lv false) (i+1+b.it) s done dx N (N1+ob.ns.length) (R1+1+ob.rs.length) (q+1) k0 os S1.Z6.length 0 H6 p6 vo ts tf hcf htb hdf (by simp[T.YV]at hpl ⊢;omega) l2 (by omega) hm0 (by omega) (by omega) e
    (by rw[<-het];exact Q5) (by rw[<-het];exact Ss) hch (by omega) hN hfr
   rw[<-het]at g2 g3;refine⟨nb++new,p',fun G hG=>?_,fun X opn ho hA hE hL hG hX hK=>?_⟩
   .obtain⟨y1,y2,y3⟩:=g2 G hG;obtain⟨y5,y6⟩:=x5 G (x6 G y1);obtain⟨y7,_⟩:=x3 G (x4 G y5);refine⟨(x1 _ G (x2 _ G y7).1).1,?_,y3.more (fun x hx=>Zr _ hx)⟩;rw[Z4,<-Z3];exact y6.app y2
   .subst hA;obtain⟨y1,y2,y3⟩:=g2 X.G hE;obtain⟨y5,y6⟩:=x5 X.G (x6 X.G y1);obtain⟨y7,z3⟩:=x3 X.G (x4 X.G y5);obtain⟨_,z1⟩:=x1 _ X.G (x2 _ X.G y7).1;obtain⟨k1,k2,k3,k4,k5⟩:=g3 X opn ho rfl hE (fun x hx=>hL x (Zr _ hx)) hG hX hK;obtain⟨u1,u2,u3,u4⟩:=s5 X opn rfl (x6 X.G y1) (fun x hx=>hL x (Zd _ hx)) hG hX (fun _=>ho) hK.any (by simp) (fun _ _ l hl h5=>by
     rw[hrr]at hl ⊢;have hl':l=X.A.ch N q:=hl;rw[N5]at hl';refine⟨rfl,fun _=>⟨_,z1⟩,fun h15=>?_⟩;have yL:X.A.kd N≠15:=h15;omega)
    refine⟨?_,fun x hx=>(ZM.1 hx).elim (u2 x) (k2 x),fun hiv=>k3 (XZ H5 (by simp) (u3 (XZ H3 (by simp) (Qh e3 p2 (.inl ho) (XJ e2 (XJ e1 hiv)))))),?_,k5⟩
    .rw[J2 (by simp;omega)];exact LU z3 (Q1:= [⟨1,R1,0⟩]) (Q2:=LI ot.Yn dx []) (by intro p;simp) u1.any k1.any
    .rw[show(T.cl x b tl).lv false=b.lv false+tl.lv false by simp[T.lv],<-Z3];exact Cx.Vc.app u4 k4
end
section
variable {ls D:List ByteArray} {env:List DF} {Ts P P':List Nat} {m:Nat} {S S' S1:BS} {G:Gr} {c0 j0 cc jj:Nat} {A:Tr} {X:Cx} {h:Hd} {b e c tl:T} {N i a p n R R2 R3 N2:Nat} {ob oe:Out} {oc:WG} {ot:Out} {os:List Nat} {opq:Prop} {Hyp:Cx->Prop} {fl:Bool} {opn:Prop}
theorem Iq (I:Nv A h b e c tl N R n i a p ob oe oc ot R2 R3) (hb:h.Zz=false) (he:h.ZV=false):ob=.none/\oe=.none/\oc=c.rd.c (h.kind==13) N (N+1) R (n+h.own) (i+1) 0 0/\Sub A (N+1) R (n+h.own) oc.ls oc.ns oc.rs:=by
 have hown:h.own=(h.Yl N).length:=Yj.1.symm;have h1:ob=.none:=by rw[I.eb];unfold vB;rw[if_neg (by simp[hb])]
 have h2:oe=.none:=by rw[I.ee];unfold vA;rw[if_neg (by simp[he])]
 subst h1;subst h2;have hR2:R2=R:=by rw[I.jM,if_neg (by simp[hb])];rfl
 have CD:R3=R:=by rw[I.jL,if_neg (by simp[he]),hR2];rfl
 have h3:=I.ec;have h4:=I.sc;rw[CD,<-hown]at h3 h4;exact⟨rfl,rfl,h3,h4⟩
theorem EU (H:Vy A h N i a p n R R2 oc) (hk:h.kind=14):A.mv ⟨4,N,0⟩=(LI oc.Yn none [A.behind N],none):=by
 unfold Tr.mv;rw[if_neg (by show(4:Int)≠1;decide),if_neg (by show(4:Int)≠2;decide),if_neg (by show(4:Int)≠3;decide),if_pos rfl];show(A.chosen N,_)=_;unfold Tr.chosen;have h1:A.kd N=14:=by rw[H.kd];exact hk
 have h2:(A.nd N).choices=oc.Yn:=by rw[H.eq];rfl
 rw[h1,h2];simp[LI,qQ]
theorem ET (H:Vy A h N i a p n R R2 oc) (hk:h.kind=15):A.mv ⟨4,N,0⟩=(LI oc.Yn none [],none):=by
 unfold Tr.mv;rw[if_neg (by show(4:Int)≠1;decide),if_neg (by show(4:Int)≠2;decide),if_neg (by show(4:Int)≠3;decide),if_pos rfl];show(A.chosen N,_)=_;unfold Tr.chosen;have h1:A.kd N=15:=by rw[H.kd];exact hk
 have h2:(A.nd N).choices=oc.Yn:=by rw[H.eq];rfl
 rw[h1,h2];simp[LI,qQ]
theorem Vf {h:Hd} (hk:h.kind=13\/h.kind=14\/h.kind=15):h.frame= [⟨h.label,false⟩]:=by unfold Hd.frame;rw[if_neg (by omega),if_pos hk]
theorem N4 {s:ByteArray} (H:Rs ls D env Ts P m S) (hp:S.pt cc jj) {lab:Option Nat} (hlab:Xy D S env s lab) {k:Int} (hk:1 < k/\k<=19/\k≠10) {q:Int} (ho:OB (some q)) (hm:m+2<=40000) (e:S.newP k (some q)=some S1):
  Rs ls D (Uz s S.Z6.length none::env) (S.Z6.length::Ts) (S.Z6.length::P) (m+1) (S1.XG lab S.Z6.length)/\(S1.XG lab S.Z6.length).pt cc jj/\(∀ G,Ext (S1.XG lab S.Z6.length) (S.Z6.length::P) G->Ext S P G)/\ ∀ X opn,Cx.iv X opn S->X.iv opn (S1.XG lab S.Z6.length):=by
 obtain⟨S1',f1,H1,_⟩:=Pv H hp.1 hlab hk ho hm;rw[e]at f1;cases f1;obtain⟨p1,x1⟩:=WO e hp;exact⟨H1,Iy p1,fun G hG=>(x1 P G hG.brk).1,fun X opn hiv=>Iv.brk (XJ e hiv)⟩
theorem ES (hc:c.All (K6 ls)) (hs:c.All (VK A ls)) (H:Rs ls D env Ts P m S) (hp:S.pt c0 j0) (I:Nv A h b e c tl N R n i a p ob oe oc ot R2 R3) (In:Vy A h N i a p n R R2 oc) (hf:Ql h b e c) (hk:h.kind=14) {lab:Option Nat} (hlab:Xy D S env h.label lab) (cs:c.Xv false) (co:c.ok) (cf:c.fA)
  (bc:c.VN ls (⟨h.label,false⟩::env.map DF.s) false) (hl:LC ls D c.labels) (hm:m+14+16*c.wt<=40000) (hn:n+h.own+c.lv false<=39000) (hi:i+1+c.it<=40000) (hch:QF A a os) (hos:os.length<=N)
  (e':QQ h n i lab (fun done=>c.YO.ty (n+h.own) (i+1) (env.map DF.t) done none) S=some S') (Iu:opq):
  LT A P S S' (N+1) (N+1+oc.ns.length) n (n+h.own+c.lv false) os env ⟨1,a,p⟩ c0 j0 ⟨1,a,(p:Int)+1⟩ opq Hyp:=by
 have hlf:h.Zu=false:=Wx (by omega);have hp0:h.post=false:=by
  cases hi:h.post with
  |false=>rfl
  |true=>have:=hf.1.Ym hi;omega
 have hc0:h.cond=false:=by
  cases hi:h.cond with
  |false=>rfl
  |true=>have:=hf.1.cnd hi;omega
 have hel:h.ZV=false:=by
  cases hi:h.ZV with
  |false=>rfl
  |true=>have:=hf.1.els hi;omega
 have hcc:h.hasCond=false:=by unfold Hd.hasCond;rw[hc0,hk];rfl
 have hbd:h.Zz=false:=by
  cases hb:h.Zz with
  |false=>rfl
  |true=>have:=Yo.1 hb;omega
 have hin:h.init.toNat<=1:=ZG h.init;obtain⟨i1,i2,i3,i4⟩:=Iq I hbd hel;rw[show(h.kind==13)=false by simp[hk]]at i3;have LJ:(A.nd N).list=a:=by rw[In.eq];rfl
 have UN:(A.nd N).choices=oc.Yn:=by rw[In.eq];rfl
 have hkd:A.kd N=14:=by rw[In.kd];exact hk
 have hfr:(A.nd N).h.frame= [⟨h.label,false⟩]:=by rw[In.eq];exact Vf (h:=h) (by omega)
 have hpl:=hf.1.pl;unfold QQ at e';obtain⟨S1,e1,e'⟩:=Z8.1 e';obtain⟨S2,e2,e'⟩:=Z8.1 e';obtain⟨S3,e3,e'⟩:=Z8.1 e';obtain⟨H1,q1,w1⟩:=H.N9 (by omega) hp.1 (by omega) e1;obtain⟨p1,x1⟩:=Q8 e1 hp;have H2:=H1.Nr (by omega) p1.1 Fw e2;obtain⟨p2,x2⟩:=Wh e2 p1;have w2:S2.ZT=S1.ZT:=by
  obtain⟨k,_,_,hS⟩:=Vz e2 p1;rw[hS];rfl
 obtain⟨H3,p3,x3,v3⟩:=N4 (s:=h.label) H2 p2 (hlab.same (by rw[w2,w1])) (by decide) (XK (by omega)) (by omega) e3
 obtain⟨new,p',g2,g3⟩:=Ir c hc hs D env (S2.Z6.length::Ts) P (m+3) _ S' (n+h.own) (i+1) h.label S2.Z6.length none N (N+1) R 0 0 os _ _ (H3.le (by omega)) p3 co cs cf (by have:=hf.2 (by omega);rw[hk]at this;exact this) bc (by simp) (by simp;exact hpl) (by simpa [Vq]using hl) (by simp only[Yv,UK];omega) (by omega) (by omega) e'
  (by rw[<-i3];exact i4) (by rw[<-i3,UN];exact Seg.self _) (by rw[LJ];exact hch) (by omega) hkd hfr
 rw[<-i3]at g2 g3;refine⟨_,_,new,p',fun G hG=>?_,fun X opn hA hE hL hG hX ho _ hK=>?_⟩
 .obtain⟨y1,y2,_⟩:=g2 G hG;exact⟨(x1 P G (x2 P G (x3 G y1)).1).1,y2⟩
 .subst hA;obtain⟨y1,_,_⟩:=g2 X.G hE;obtain⟨y2,z2⟩:=x2 P X.G (x3 X.G y1);obtain⟨y3,z1⟩:=x1 P X.G y2;obtain⟨k1,k2,k3,k4,_⟩:=g3 X opn (ho Iu) rfl hE hL hG hX (by rw[In.behind];exact hK);have ent: ∀ fs fg,X.ob fs fg [X.A.entered N] (c0,j0+h.init.toNat):=fun fs fg=>by
   rw[N7 In (.inl hk)];exact Rb z2 rfl (.sp (EU In hk) k1.any)
  refine⟨Qz In hlf z1 ent,k2,fun hiv=>k3 (v3 X opn (WW e2 p1 H1 (.inl ⟨rfl,rfl⟩) (TR e1 hp H (Ix In hlf ent) hiv))),?_⟩;exact Cx.Vc.app (Q6 In hlf (fun hi=>⟨_,_,z1 hi⟩) (fun hc=>by rw[hcc]at hc;cases hc) (fun hp=>by rw[hp0]at hp;cases hp)) k4
theorem ER: ∀ c:T,∀ (m:Nat) (S S':BS) (cc jj:Nat),Rs ls D env Ts P m S->S.pt cc jj->c.Xv false->m+c.len<=40000->c.YO.comms S=some S'->
  ∃ j',S'.pt cc j'/\(∀ G,Ext S' P G->Ext S P G/\ ∀ X:Cx,X.G=G-> ∀ fs Q,X.ob fs true Q (cc,j')->X.ob fs true Q (cc,jj))/\(∀ G,Ext S' P G-> ∀ X:Cx,X.G=G-> ∀ Q,X.ob false false Q (cc,j')->X.ob false false Q (cc,jj))/\ ∀ X opn,Cx.iv X opn S->X.iv opn S':=by
 intro c
 induction c with
 |nil=>intro m S S' cc jj H hp _ _ e;cases e;exact⟨jj,hp,fun G hG=>⟨hG,fun _ _ _ _ h=>h⟩,fun G hG _ _ _ h=>h,fun _ _ h=>h⟩
 |st h b e c tl=>intro m S S' cc jj H hp hs;exact absurd hs.1 (by simp)
 |cl x b tl _ ih=>
  intro m S S' cc jj H hp ⟨_,_,ts⟩ hm e;simp only[T.len]at hm;simp only[T.YO]at e;by_cases hx:0 < x
  .rw[if_pos hx]at e;obtain⟨S1,e1,e⟩:=Z8.1 e;have H1:=H.Nr (by omega) hp.1 Fw e1;obtain⟨p1,x1⟩:=Wh e1 hp;obtain⟨j',p',g1,g2,g3⟩:=ih (m+1) S1 S' cc (jj+1) H1 p1 ts (by omega) e;refine⟨j',p',fun G hG=>⟨(x1 P G (g1 G hG).1).1,fun X hX fs Q hQ=>?_⟩,fun G hG X hX Q hQ=>?_,fun X opn hiv=>g3 X opn (WW e1 hp H (.inl ⟨rfl,rfl⟩) hiv)⟩
   .have z:=(x1 P G (g1 G hG).1).2;have:=(g1 G hG).2 X hX fs Q hQ;subst hX;exact Rb z rfl this
   .have z:=(x1 P G (g1 G hG).1).2;have:=g2 G hG X hX Q hQ;subst hX;exact Rb z rfl this.any
  .rw[if_neg hx]at e;exact ih m S S' cc jj H hp ts (by omega) e
theorem Ip (hc:c.All (K6 ls)) (hs:c.All (VK A ls)) (H:Rs ls D env Ts P m S) (hp:S.pt c0 j0) (I:Nv A h b e c tl N R n i a p ob oe oc ot R2 R3) (In:Vy A h N i a p n R R2 oc) (hf:Ql h b e c) (hk:h.kind=15) {lab:Option Nat} (hlab:Xy D S env h.label lab) (cs:c.Xv false) (co:c.ok) (cf:c.fA)
  (bc:c.VN ls (⟨h.label,false⟩::env.map DF.s) false) (hl:LC ls D c.labels) (hm:m+14+16*c.wt<=40000) (hn:n+h.own+c.lv false<=39000) (hi:i+1+c.it<=40000) (hch:QF A a os) (hos:os.length<=N)
  (e':TE i lab c.YO.comms (fun done=>c.YO.sel (n+h.own) (i+1) (env.map DF.t) done none) S=some S') (Iu:opq):
  LT A P S S' (N+1) (N+1+oc.ns.length) n (n+h.own+c.lv false) os env ⟨1,a,p⟩ c0 j0 ⟨1,a,(p:Int)+1⟩ opq Hyp:=by
 have hlf:h.Zu=false:=Wx (by omega);have hp0:h.post=false:=by
  cases hi:h.post with
  |false=>rfl
  |true=>have:=hf.1.Ym hi;omega
 have hc0:h.cond=false:=by
  cases hi:h.cond with
  |false=>rfl
  |true=>have:=hf.1.cnd hi;omega
 have hi0:h.init=false:=by
  cases hi:h.init with
  |false=>rfl
  |true=>have:=hf.1.ini hi;omega
 have hel:h.ZV=false:=by
  cases hi:h.ZV with
  |false=>rfl
  |true=>have:=hf.1.els hi;omega
 have hcc:h.hasCond=false:=by unfold Hd.hasCond;rw[hc0,hk];rfl
 have hbd:h.Zz=false:=by
  cases hb:h.Zz with
  |false=>rfl
  |true=>have:=Yo.1 hb;omega
 obtain⟨i1,i2,i3,i4⟩:=Iq I hbd hel;rw[show(h.kind==13)=false by simp[hk]]at i3;have LJ:(A.nd N).list=a:=by rw[In.eq];rfl
 have UN:(A.nd N).choices=oc.Yn:=by rw[In.eq];rfl
 have hkd:A.kd N=15:=by rw[In.kd];exact hk
 have hfr:(A.nd N).h.frame= [⟨h.label,false⟩]:=by rw[In.eq];exact Vf (h:=h) (by omega)
 have hpl:=hf.1.pl;have lw:=T.QK c;unfold TE at e';obtain⟨S2,e2,e'⟩:=Z8.1 e';obtain⟨S3,e3,e'⟩:=Z8.1 e';obtain⟨S2',f2,H2,c2,w2⟩:=K4 c m S c0 H hp.1 cs (by omega);rw[e2]at f2;cases f2;obtain⟨j2,p2,x2,x2',v2⟩:=ER c m S S2 c0 j0 H hp cs (by omega) e2;obtain⟨H3,p3,x3,v3⟩:=N4 (s:=h.label) H2 p2 (hlab.same w2) (by decide) (XK (by omega)) (by omega) e3
 obtain⟨new,p',g2,g3⟩:=JX c hc hs D env (S2.Z6.length::Ts) P (m+c.len+1) (m+14+16*c.wt) _ S' (n+h.own) (i+1) h.label S2.Z6.length none N (N+1) R 0 0 os _ _ (H3.le (by omega)) p3 co cs cf (by have:=hf.2 (by omega);rw[hk]at this;exact this) bc (by simp) (by simp;exact hpl) (by simpa [Vq]using hl) (by simp only[Yv,UK];omega) (by omega) (by omega) (by omega) e'
  (by rw[<-i3];exact i4) (by rw[<-i3,UN];exact Seg.self _) (by rw[LJ];exact hch) (by omega) hkd hfr
 rw[<-i3]at g2 g3;refine⟨_,_,new,p',fun G hG=>?_,fun X opn hA hE hL hG hX ho _ hK=>?_⟩
 .obtain⟨y1,y2,_⟩:=g2 G hG;exact⟨(x2 G (x3 G y1)).1,y2⟩
 .subst hA;obtain⟨y1,_,_⟩:=g2 X.G hE;obtain⟨k1,k2,k3,k4,_⟩:=g3 X opn (ho Iu) rfl hE hL hG hX (by rw[In.behind];exact hK);refine⟨V6 In.at' ?_,k2,fun hiv=>k3 (v3 X opn (v2 X opn hiv)),?_⟩
  .rw[In.WD hlf hi0,N7 In (.inr hk)];exact(x2' X.G (x3 X.G y1) X rfl _ (.sp (ET In hk) k1.any)).any
  .exact Cx.Vc.app (Q6 In hlf (fun hi=>by rw[hi0]at hi;cases hi) (fun hc=>by rw[hcc]at hc;cases hc) (fun hp=>by rw[hp0]at hp;cases hp)) k4
end
section
variable {ls D:List ByteArray} {env:List DF} {Ts P P':List Nat} {m:Nat} {S S' S1:BS} {G:Gr} {c0 j0 cc jj:Nat} {A:Tr} {X:Cx} {h:Hd} {b e c tl:T} {N i a p n R R2 R3 N2:Nat} {ob oe:Out} {oc:WG} {ot:Out} {os:List Nat} {opq:Prop} {Hyp:Cx->Prop} {fl:Bool} {opn:Prop}
theorem Gh {k:Nat} {x:Int} (h:(A.nd N).tests[k]? =some x):A.mv ⟨3,N,k⟩=([],some x):=by
 have hl:=ZH h;unfold Tr.mv;rw[if_neg (by show(3:Int)≠1;decide),if_neg (by show(3:Int)≠2;decide),if_pos rfl];show(if(k:Int) < ((A.nd N).tests.length:Int)then(([]:List Pl),some ((A.nd N).tests.getD (k:Int).toNat 0))else _)=_;rw[if_pos (by omega),Y1,Zy,h];rfl
theorem Gg {k:Nat} (h:(A.nd N).tests.length=k):A.mv ⟨3,N,k⟩=([A.failed N],none):=by
 unfold Tr.mv;rw[if_neg (by show(3:Int)≠1;decide),if_neg (by show(3:Int)≠2;decide),if_pos rfl];show(if(k:Int) < ((A.nd N).tests.length:Int)then _ else([A.failed N],(none:Option Int)))=_;rw[if_neg (by omega)]
theorem qN {body:Nat} {z:Int} (hz:OB (some z)): ∀ (t m:Nat) (S S':BS) (n k cc jj:Nat),Rs ls D env Ts P m S->S.pt cc jj->body∈Ts->m+3*(t+1)<=40000->n+t+1<=40000->Xi body z (t+1) n S=some S'->
  ∃ c',S'.pt c' 0/\(∀ G,Ext S' P G->Ext S P G)/\ ∀ (X:Cx) (opn:Prop) (N:Nat) (q:Int),X.A.kd N=13->Ext S' P X.G->(∀ r,r < t+1->X.A.lf ((n+r:Nat):Int)=⟨N,5,(k+r:Nat)⟩/\n+r < X.A.ls.length/\(X.A.nd N).tests[k+r]? =some ((n+r:Nat):Int)/\(X.A.nd N).YY[k+r]? =some q)->
   X.G.Qi body 17 (X.A.ch N q).number->X.ob true true [⟨1,(X.A.ch N q).list,0⟩] (body,0)->X.ob false false [⟨3,N,((k+(t+1):Nat):Int)⟩] (c',0)->
   X.ob false false [⟨3,N,(k:Nat)⟩] (cc,jj)/\(X.iv opn S->X.iv opn S')/\X.Vc n (n+(t+1)):=by
 intro t
 induction t with
 |zero=>
  intro m S S' n k cc jj H hp hb hm hn e;unfold Xi at e;obtain⟨S1,e1,e⟩:=Z8.1 e;obtain⟨S2,e2,e⟩:=Z8.1 e;obtain⟨S3,e3,e⟩:=Z8.1 e;unfold Xi at e;cases e;obtain⟨H1,c1,q1,_⟩:=H.newE (by omega) hp.1 (by decide) hz e1;obtain⟨p1,x1⟩:=WO e1 hp;have H2:=H1.Nr (by omega) p1.1 (Vk (by omega)) e2;obtain⟨p2,x2⟩:=Wh e2 p1;have nd2:=TU e2 p1;obtain⟨H3,c3,q3,_⟩:=H2.vr p2.1 (H2.ts _ hb) (H2.pt (d:=S.Z6.length) (by simp)) e3;have x3:=Kb e3 p2 H2;obtain⟨p4,x4⟩:=WR (d:=S.Z6.length) (P':=P) H3 (by simp) (by intro x hx;simp[hx]);refine⟨_,p4,fun G hG=>(x1 _ G (x2 _ G (x3 G (x4 G hG)).1).1).1,fun X opn N q hN hE hT hk hB hR=>?_⟩;obtain⟨y3,z3⟩:=x3 X.G (x4 X.G hE);obtain⟨y2,z2⟩:=x2 _ X.G y3;obtain⟨t1,t2,t3,t4⟩:=hT 0 (by omega);simp only[Zn]at t1 t2 t3 t4;have hl:LG X cc jj n false:=Gk (k:=k) t1 hN t4 z3 hB (by exact_mod_cast hR.any) hk;refine⟨Wy z2 rfl (Gh t3),fun hiv=>XZ H3 (by simp) (Qh e3 p2 (.inr ?_) (WW e2 p1 H1 (.inr ⟨n,rfl,t2,hl⟩) (XJ e1 hiv))),UZ z2 rfl (fun hq=>?_)⟩
  .obtain⟨kb,hk1,hk2⟩:=nd2;exact⟨kb,_,hk1,hk2,n,rfl,by unfold Tr.Tw;rw[t1];simp⟩
  .rw[WV (by rw[t1];show(5:Int)≠1;decide)]at hq;omega
 |succ t ih=>
  intro m S S' n k cc jj H hp hb hm hn e;unfold Xi at e;obtain⟨S1,e1,e⟩:=Z8.1 e;obtain⟨S2,e2,e⟩:=Z8.1 e;obtain⟨S3,e3,e⟩:=Z8.1 e;obtain⟨H1,c1,q1,_⟩:=H.newE (by omega) hp.1 (by decide) hz e1;obtain⟨p1,x1⟩:=WO e1 hp;have H2:=H1.Nr (by omega) p1.1 (Vk (by omega)) e2;obtain⟨p2,x2⟩:=Wh e2 p1;have nd2:=TU e2 p1;obtain⟨H3,c3,q3,_⟩:=H2.vr p2.1 (H2.ts _ hb) (H2.pt (d:=S.Z6.length) (by simp)) e3;have x3:=Kb e3 p2 H2;have tw:S.Z6.length∉P:=fun hp=>by have:=H.lt hp;omega
  have H4:=H3.at (d:=S.Z6.length) (P':=P) (by simp) (by intro x hx;simp[hx]) H.w.nd tw;obtain⟨p4,x4⟩:=WR (d:=S.Z6.length) (P':=P) H3 (by simp) (by intro x hx;simp[hx]);obtain⟨c',p',g1,g2⟩:=ih (m+3) _ S' (n+1) (k+1) _ _ (H4.le (by omega)) p4 hb (by omega) (by omega) e;refine⟨c',p',fun G hG=>(x1 _ G (x2 _ G (x3 G (x4 G (g1 G hG))).1).1).1,fun X opn N q hN hE hT hk hB hR=>?_⟩;obtain⟨y3,z3⟩:=x3 X.G (x4 X.G (g1 X.G hE));obtain⟨y2,z2⟩:=x2 _ X.G y3;obtain⟨t1,t2,t3,t4⟩:=hT 0 (by omega);simp only[Zn]at t1 t2 t3 t4;obtain⟨k1,k2,k3⟩:=g2 X opn N q hN hE (fun r hr=>by
   have:=hT (r+1) (by omega);rw[show n+1+r=n+(r+1)by omega,show k+1+r=k+(r+1)by omega];exact this) hk hB (by rw[show k+1+(t+1)=k+(t+1+1)by omega];exact hR)
  have hl:LG X cc jj n false:=Gk (k:=k) t1 hN t4 z3 hB (by exact_mod_cast k1.any) hk;refine⟨Wy z2 rfl (Gh t3),fun hiv=>k2 (XZ H3 (by simp) (Qh e3 p2 (.inr ?_) (WW e2 p1 H1 (.inr ⟨n,rfl,t2,hl⟩) (XJ e1 hiv)))),?_⟩
  .obtain⟨kb,hk1,hk2⟩:=nd2;exact⟨kb,_,hk1,hk2,n,rfl,by unfold Tr.Tw;rw[t1];simp⟩
  .have hc1:X.Vc n (n+1):=UZ z2 rfl (fun hq=>by
    rw[WV (by rw[t1];show(5:Int)≠1;decide)]at hq;omega)
   rw[show n+(t+1+1)=n+1+(t+1)by omega];exact hc1.app k3
theorem B2 {fall:Option Nat} {body:Nat} (e:S.Sk fall i=some (body,S1)) (hp:S.pt cc jj):S1.pt cc jj/\(∀ P G,Ext S1 (body::P) G->Ext S (fall.toList++P) G/\(fall=none->G.kind body 17 (some (ip i))))/\(∀ f,fall=some f->f=body)/\ ∀ X opn,Cx.iv X opn S->X.iv opn S1:=by
 unfold BS.Sk at e;cases fall with
 |none=>
  obtain⟨S2,e1,e2⟩:=ZX.1 e;cases e2;obtain⟨p1,x1⟩:=WO e1 hp;exact⟨p1,fun P G hG=>⟨(x1 P G hG).1,fun _=>(x1 P G hG).2⟩,(fun f hf=>by cases hf),fun X opn hiv=>XJ e1 hiv⟩
 |some f=>
  cases e;exact⟨hp,fun P G hG=>⟨hG,fun h=>by cases h⟩,fun f hf=>by cases hf;rfl,fun X opn hiv=>hiv⟩
theorem B1 {last:Bool} {done q:Nat} (e:S.Sj last done i=some (q,S1)) (hp:S.pt cc jj):S1.pt cc jj/\(∀ P G,Ext S1 ((if last then []else [q])++P) G->Ext S P G/\(last=false->G.kind q 17 (some (ip i))))/\ ∀ X opn,Cx.iv X opn S->X.iv opn S1:=by
 unfold BS.Sj at e;cases last with
 |true=>
  cases e;exact⟨hp,fun P G hG=>⟨hG,fun h=>by cases h⟩,fun X opn hiv=>hiv⟩
 |false=>
  simp only[Zw,if_false]at e;obtain⟨S2,e1,e2⟩:=ZX.1 e;cases e2;obtain⟨p1,x1⟩:=WO e1 hp;exact⟨p1,fun P G hG=>⟨(x1 P G hG).1,fun _=>(x1 P G hG).2⟩,fun X opn hiv=>XJ e1 hiv⟩
structure xO where
 x:Tk
 fl:Bool
structure DfZ (A:Tr) (ls:List ByteArray) (env:List DF) (Ts:List Nat) (s:ByteArray) (N:Nat) (os:List Nat) (y:xO):Prop where
 df:J4 A ls N os y.fl y.x
 fb:FL ls y.x.d.b
 ok:y.x.d.b.ok
 VN:y.x.d.b.VN ls (⟨s,false⟩::env.map DF.s) y.fl
 Xw:y.x.d.Xw∈Ts
 hn:y.x.d.n+y.x.d.b.lv false<=39000
 hi:y.x.d.i+y.x.d.b.it<=40000
def VJ (dy:Option xO):Option Tz:=dy.map fun y=>y.x.d
def fS (dy:Option xO):Option Tk:=dy.map xO.x
def FX (X:Cx) (N:Nat) (dy:Option xO):Prop:= ∀ y,dy=some y->y.fl=true->X.ob true true [X.A.next y.x.r N] (y.x.d.Xw,0)
def je (A:Tr) (N:Nat) (P:List Nat) (S S':BS) (N1 N2 n1 n2 R1 k0 i done:Nat) (os:List Nat) (env:List DF) (isn:Bool) (fall:Option Nat) (P0:List Nat) (cc jj:Nat) (dy:Option xO) (opq:Prop):Prop:=
 ∃ new,S'.pt done 0/\(∀ G,Ext S' P G->Ext S P0 G/\XF A G N1 N2 new/\J3 A G (fS dy) new)/\
  ∀ (X:Cx) (opn:Prop),(opq->opn)->(jf (fS dy)->opn)->X.A=A->Ext S' P X.G->(∀ x∈new,x∈X.L)->GL X->EX X os env->X.ob false false [A.behind N] (done,0)->(∀ f,fall=some f->isn=false->X.G.kind f 17 (some (ip i)))->(∀ y,dy=some y->X.G.Qi y.x.d.blk 17 (A.ch N y.x.q).number)->
   (∀ f,fall=some f->isn=false->X.ob false false [⟨1,R1,0⟩] (f,0))/\
   (FX X N dy->X.ob false false [⟨3,N,k0⟩] (cc,jj)/\(∀ x∈new,X.ob false false [x.1] x.2)/\(X.iv opn S->X.iv opn S')/\X.Vc n1 n2/\vp X (fS dy)/\ ∀ y,dy=some y->X.ob false false [⟨1,y.x.r,0⟩] (y.x.d.blk,0))
theorem Io {s:ByteArray} {done:Nat} {dy:Option xO} {R1 k0:Nat} {fall:Option Nat} (H:Rs ls D (Uz s done none::env) Ts (Wj (VJ dy)++(done::P)) m S) (hp:S.pt cc jj) (hdf: ∀ y,dy=some y->DfZ A ls env Ts s N os y) (hl:LC ls D (Vq (VJ dy))) (hm:m+16*UK (VJ dy)+8<=40000)
  (hch:QF A (A.nd N).list os) (hN:A.kd N=13) (hfr:(A.nd N).h.frame= [⟨s,false⟩]) (hk0:(A.nd N).tests.length=k0) (hF:A.failed N=match dy with|some y=>⟨1,y.x.r,0⟩ |none=>A.behind N)
  (e:RL (env.map DF.t) done ((VJ dy).map Tz.df) S=some S'):
  je A N P S S' N2 N2 n n R1 k0 i done os env true fall (Wj (VJ dy)++(done::P)) cc jj dy False:=by
 cases dy with
 |none=>
  simp only[RL,VJ,Yv]at e;obtain⟨S1,e1,e⟩:=ZX.1 e;subst e;simp only[VJ,Yv,Wj,List.nil_append]at H ⊢;obtain⟨H1,c1,q1,_⟩:=H.St hp.1 (H.pt (d:=done) (by simp)) e1;have x1:=VP e1 hp H;obtain⟨p1,x1'⟩:=WR (P':=P) (d:=done) H1 (by simp) (by intro p hp;simp[hp]);refine⟨[],p1,fun G hG=>⟨(x1 G (x1' G hG)).1,XF.nil,fun x hx=>by cases hx⟩,fun X opn _ _ hA hE hL hG hX hK _ _=>⟨(fun f _ h=>by cases h),fun _=>?_⟩⟩;subst hA;have z1:=(x1 X.G (x1' X.G hE)).2;exact⟨.sp (Gg hk0) (by rw[hF];exact Xr z1 hK.any),by simp,fun hiv=>XZ H1 (by simp) (Xg e1 hp hiv),Cx.Vc.nil,(fun x hx=>by cases hx),fun y hy=>by cases hy⟩
 |some y=>
  have hy:=hdf y rfl;simp only[RL,VJ,Y7,Tz.df]at e;obtain⟨S1,e1,e⟩:=Z8.1 e;obtain⟨S2,e2,e⟩:=Z8.1 e;obtain⟨S3,e3,e⟩:=ZX.1 e;subst e;simp only[VJ,Y7,Wj,List.singleton_append]at H ⊢;have hn1:=ZS.1 H.w.nd;have hnd:=ZS.1 hn1.2;obtain⟨H1,c1,q1,_⟩:=H.St hp.1 (H.pt (d:=y.x.d.blk) (by simp)) e1;have x1:=VP e1 hp H;have bZ:=H1.at (d:=y.x.d.blk) (P':=done::P) (by simp) (by simp;intro p hp;simp[hp]) hn1.2 hn1.1;obtain⟨p1,x1'⟩:=WR (d:=y.x.d.blk) (P':=done::P) H1 (by simp) (by simp;intro p hp;simp[hp]);obtain⟨new,H3,c3,x3,s3⟩:=TO (Xw:=some y.x.d.Xw) (fl:=y.fl) hy.df.sem hy.fb bZ p1 (by intro x hx;cases hx;exact hy.Xw) hy.df.Xv hy.ok hy.df.fA hy.VN (fun _=>⟨_,rfl⟩) hl (by simp) (by simp[VJ,UK]at hm;omega) hy.hn hy.hi (N1:=y.x.N) (r:=y.x.r) (q:=y.x.q) rfl hy.df.rw hy.df.sub hch hy.df.hos hy.df.ft (.inl hN) hfr e2 e3;obtain⟨p3,x3'⟩:=WR (P':=P) (d:=done) H3 (by simp) (by intro p hp;simp[hp]);refine⟨new,p3,fun G hG=>?_,fun X opn _ hdo hA hE hL hG hX hK _ hY=>⟨(fun f _ h=>by cases h),fun hFX=>?_⟩⟩
  .obtain⟨y1,y2⟩:=x3 G (x3' G hG);exact⟨(x1 G (x1' G y1)).1,XF.nil,fun x hx=>by cases hx;exact y2⟩
  .subst hA;obtain⟨y1,_⟩:=x3 X.G (x3' X.G hE);obtain⟨_,z1⟩:=x1 X.G (x1' X.G y1);obtain⟨k1,k2,k3,k4⟩:=s3 X opn rfl (x3' X.G hE) hL hG hX (fun h=>hdo h) hK.any (fun hf=>⟨_,rfl,hFX y rfl hf⟩) (fun _ _ l hl h5=>by
    have hr:=WY hy.df.rw;rw[hr]at hl ⊢;have hl':l=X.A.ch N y.x.q:=hl;refine⟨rfl,fun h15=>?_,fun _=>?_⟩
    .have yL:X.A.kd N=15:=h15;omega
    .rw[hl'];exact hY y rfl)
   refine⟨.sp (Gg hk0) (by rw[hF];exact Xr z1 k1.any),k2,fun hiv=>XZ H3 (by simp) (k3 (XZ H1 (by simp) (Xg e1 hp hiv))),Cx.Vc.nil,(fun x hx=>by cases hx;exact k4),fun y' hy'=>by cases hy';exact k1⟩
end
section
variable {ls D:List ByteArray} {env:List DF} {Ts P P':List Nat} {m:Nat} {S S' S1:BS} {G:Gr} {c0 j0 cc jj:Nat} {A:Tr} {X:Cx} {h:Hd} {b e c tl:T} {N i a p n R R2 R3 N2:Nat} {ob oe:Out} {oc:WG} {ot:Out} {os:List Nat} {opq:Prop} {Hyp:Cx->Prop} {fl:Bool} {opn:Prop}
theorem xN {b tl:T} (h:b.ft ((13:Int)=13/\tl≠ .nil)):b.ft ((!tl.isNil)=true):=by
 have e:((13:Int)=13/\tl≠ .nil)=((!tl.isNil)=true):=propext (by cases tl<;>simp[T.isNil]);rw[<-e];exact h
theorem xM {α:Type} {l:List α} {k t:Nat} {f:Nat->α} {u:List α} (h:Seg l k ((List.range t).map f++u)):(∀ r,r < t->l[k+r]? =some (f r))/\Seg l (k+t) u:=by
 obtain⟨h1,h2⟩:=h.app;simp only[Y8,Zf]at h2;refine⟨fun r hr=>?_,h2⟩;rw[h1 r (by simp;exact hr)];simp[hr]
theorem xL {α:Type} {l:List α} {k t:Nat} {x:α} {u:List α} (h:Seg l k (List.replicate t x++u)):(∀ r,r < t->l[k+r]? =some x)/\Seg l (k+t) u:=by
 obtain⟨h1,h2⟩:=h.app;simp only[List.length_replicate]at h2;refine⟨fun r hr=>?_,h2⟩;rw[h1 r (by simp;exact hr)];simp[hr]
theorem UY (tl:Bool) (q:Nat):(if tl then []else(some q).toList)=(if tl then []else [q]):=by cases tl<;>rfl
theorem Il: ∀ c:T,c.All (K6 ls)->c.All (VK A ls)-> ∀ (D:List ByteArray) (env:List DF) (Ts P:List Nat) (m:Nat) (S S':BS) (n i:Nat) (s:ByteArray) (done:Nat) (fall:Option Nat) (dy:Option xO) (N N1 R1 q k0:Nat) (os:List Nat) (cc jj:Nat),
  Rs ls D (Uz s done none::env) Ts ((if c.isNil then []else fall.toList)++(Wj (VJ dy)++(done::P))) m S->S.pt cc jj->c.ok->c.Xv false->c.fA->c.cf 13->c.VN ls (⟨s,false⟩::env.map DF.s) true->done∈Ts->(∀ y,dy=some y->DfZ A ls env Ts s N os y)->
  c.YV+(Wj (VJ dy)).length<=1->LC ls D (c.labels++Vq (VJ dy))->m+16*(c.wt+UK (VJ dy))+8<=40000->n+c.lv true<=39000->i+c.it<=40000->
  c.YO.sw n i (env.map DF.t) done fall ((VJ dy).map Tz.df) S=some S'->
  Sub A N1 R1 n (c.rd.c true N N1 R1 n i q k0).ls (c.rd.c true N N1 R1 n i q k0).ns (c.rd.c true N N1 R1 n i q k0).rs->Seg (A.nd N).choices q (c.rd.c true N N1 R1 n i q k0).Yn->Seg (A.nd N).tests k0 (c.rd.c true N N1 R1 n i q k0).tests->Seg (A.nd N).YY k0 (c.rd.c true N N1 R1 n i q k0).YY->
  (A.nd N).tests.length=k0+(c.rd.c true N N1 R1 n i q k0).tests.length->QF A (A.nd N).list os->os.length+1<=N1->A.kd N=13->(A.nd N).h.frame= [⟨s,false⟩]->
  (A.failed N=match dy with|some y=>⟨1,y.x.r,0⟩ |none=>match(c.rd.c true N N1 R1 n i q k0).Yn.find? (fun c=>c.plain)with|some c=>⟨1,c.list,0⟩ |none=>A.behind N)->
  je A N P S S' N1 (N1+(c.rd.c true N N1 R1 n i q k0).ns.length) n (n+c.lv true) R1 k0 i done os env c.isNil fall ((if c.isNil then []else fall.toList)++(Wj (VJ dy)++(done::P))) cc jj dy c.opn:=by
 intro c
 induction c with
 |nil=>
  intro _ _ D env Ts P m S S' n i s done fall dy N N1 R1 q k0 os cc jj H hp _ _ _ _ _ Fu hdf _ hl hm _ _ e _ _ _ _ hk0 hch _ hN hfr hF;have:=Io (N2:=N1) (n:=n) (i:=i) (R1:=R1) (k0:=k0) (fall:=fall) (by simpa [T.isNil]using H) hp hdf (by simpa [T.labels]using hl) (by simp[T.wt]at hm;omega) hch hN hfr (by simpa [T.rd]using hk0) (by rw[hF];cases dy<;>rfl) e;simpa [T.rd,T.lv,T.isNil,T.opn]using this
 |st h b e c tl=>intro _ _ D env Ts P m S S' n i s done fall dy N N1 R1 q k0 os cc jj H hp _ hs;exact absurd hs.1 (by simp)
 |cl x b tl _ ih=>
  intro⟨hQ,hall⟩ ⟨hSb,Qf⟩ D env Ts P m S S' n i s done fall dy N N1 R1 q k0 os cc jj H hp ⟨hx0,hx3,bo,vo⟩ ⟨_,bs,ts⟩ ⟨bf,tf⟩ ⟨_,_,hft,hcf⟩ ⟨hbb,htb⟩ Fu hdf hpl hl hm hn hi e hsub hseg hts hto hk0 hch hos hN hfr hF;have Uy:=hQ bs;simp only[T.wt]at hm;simp only[T.lv,if_true]at hn;simp only[T.it]at hi;simp only[T.labels,ZI]at hl;simp only[Bool.true_and]at hbb;obtain⟨tz,ob,ot,I,hrd⟩:=M1 hsub;have htz:tz=x.toNat:=by rw[I.ets];rfl
  subst htz;have JZ:b.ft ((!tl.isNil)=true):=xN hft;have heb:ob=b.rd.l N1 (R1+1) (n+x.toNat) (i+1) R1 0:=I.eb;have hlv:=(Qg b).1 bs bf N1 (R1+1) (n+x.toNat) (i+1) R1 0;rw[<-heb]at hlv;have het:ot=tl.rd.c true N (N1+ob.ns.length) (R1+1+ob.rs.length) (n+x.toNat+b.lv false) (i+1+b.it) (q+1) (k0+x.toNat):=by
   rw[I.et,hlv.1,hlv.2]
  have Q5:Sub A (N1+ob.ns.length) (R1+1+ob.rs.length) (n+x.toNat+b.lv false) ot.ls ot.ns ot.rs:=by
   have:=I.st;rw[hlv.1]at this;exact this
  have hlf: ∀ r,r < x.toNat->A.ls[n+r]? =some ⟨N,5,(k0+r:Nat)⟩:=fun r hr=>by
   have:=I.lf r (by rw[Y8,Zf];exact hr);rw[this];simp[hr]
  rw[hrd]at hseg hts hto hk0 hF ⊢;obtain⟨hq,Ss⟩:=hseg.cons;have N5:=Gi hq;obtain⟨Z9v,jd⟩:=xM hts;obtain⟨Z9u,jc⟩:=xL hto;have hk0':(A.nd N).tests.length=k0+x.toNat+ot.tests.length:=by rw[hk0];simp;omega
  have hrr:=WY I.rw;simp only[T.YO]at e;obtain⟨⟨body,S1⟩,e1,eA⟩:=Z8.1 e;obtain⟨⟨qf,S2⟩,e2,eB⟩:=Z8.1 eA;clear e eA;simp only at e2 eB;obtain⟨p1,x1,f1,v1⟩:=B2 e1 hp;obtain⟨p2,x2,v2⟩:=B1 e2 p1;have hlist:(if(T.cl x b tl).isNil=true then([]:List Nat)else fall.toList)=fall.toList:=by simp[T.isNil]
  rw[hlist]at H ⊢;have key1:Rs ls D (Uz s done none::env) (body::Ts) (body::(Wj (VJ dy)++(done::P))) (m+1) S1:=by
   unfold BS.Sk at e1;cases fall with
   |none=>
    obtain⟨S2',g1,g2⟩:=ZX.1 e1;cases g2;obtain⟨H1,_⟩:=H.newE (by omega) hp.1 (by decide) (XK (by omega)) g1;exact H1.watch (by simp)
   |some f=>
    cases e1;exact(H.watch (d:=body) (by simp)).le (by omega)
  have key2:Rs ls D (Uz s done none::env) (qf::body::Ts) ((if tl.isNil then []else [qf])++(body::(Wj (VJ dy)++(done::P)))) (m+2) S2:=by
   unfold BS.Sj at e2;cases htn:tl.isNil with
   |true=>
    rw[htn]at e2;cases e2;exact⟨key1.w,(key1.le (by omega)).bd,key1.df,key1.env,fun d hd=>by
     rcases ZO.1 hd with rfl|hd
     .exact key1.ts d (by simp[Fu])
     .exact key1.ts d hd⟩
   |false=>
    rw[htn]at e2;simp only[Zw,if_false]at e2;obtain⟨S2',g1,g2⟩:=ZX.1 e2;cases g2;obtain⟨H2,_⟩:=key1.newE (by omega) p1.1 (by decide) (XK (by omega)) g1;exact H2.watch (by simp)
  have bY:=key2.w.nd;have hfl:=(Y4.1 bY)
  have hbn:=ZS.1 hfl.2.1;have back: ∀ G,Ext S2 ((if tl.isNil then []else [qf])++(body::(Wj (VJ dy)++(done::P)))) G->Ext S (fall.toList++(Wj (VJ dy)++(done::P))) G/\(fall=none->G.kind body 17 (some (ip i)))/\(tl.isNil=false->G.kind qf 17 (some (ip (i+1+b.it)))):=by
   intro G hG;obtain⟨y1,z1⟩:=x2 _ G hG;obtain⟨y0,z0⟩:=x1 _ G y1;exact⟨y0,z0,z1⟩
  have hnext:A.next R1 N=⟨1,(A.ch N ((q+1:Nat):Int)).list,0⟩:=by unfold Tr.next;rw[hrr];rfl
  have BZ:tl.isNil=false->A.next R1 N=⟨1,((R1+1+ob.rs.length:Nat):Int),0⟩:=by
   intro htn;rw[hnext];cases tl with
   |nil=>simp[T.isNil]at htn
   |st h b e c tl=>exact absurd ts.1 (by simp)
   |cl x' b' tl'=>
    obtain⟨_,_,_,_,Z9t⟩:=M1 (by rw[<-het];exact Q5:Sub A (N1+ob.ns.length) (R1+1+ob.rs.length) (n+x.toNat+b.lv false) ((T.cl x' b' tl').rd.c true N (N1+ob.ns.length) (R1+1+ob.rs.length) (n+x.toNat+b.lv false) (i+1+b.it) (q+1) (k0+x.toNat)).ls _ _);rw[het,Z9t]at Ss;rw[Gi Ss.cons.1]
  by_cases hx:x<=0
  .rw[if_pos hx]at eB;have hx':x=0:=by omega
   have hdn:dy=none:=by
    cases dy with
    |none=>rfl
    |some d=>simp[T.YV,hx',VJ,Wj]at hpl
   subst hdn;obtain⟨y,hy⟩: ∃ y:xO,y=⟨⟨⟨b,n+x.toNat,i+1,body,qf⟩,N1,R1,q⟩,!tl.isNil⟩:=⟨_,rfl⟩
   have hyx:y.x=⟨⟨b,n+x.toNat,i+1,body,qf⟩,N1,R1,q⟩:=by rw[hy]
   have hyf:y.fl=!tl.isNil:=by rw[hy]
   have hyo:y.x.out=ob:=by rw[hyx,heb];rfl
   have hyZ:DfZ A ls env (qf::body::Ts) s N os y:=by
    refine⟨⟨by rw[hyx];exact hSb,by rw[hyx];exact bs,by rw[hyx];exact bf,by rw[hyo,hyx];exact I.rw,by rw[hyo,hyx];exact I.sb,by rw[hyx,hyf];exact JZ,by rw[hyx];exact hos,?_⟩,by rw[hyx];exact Uy,by rw[hyx];exact bo,by rw[hyx,hyf];exact hbb,by rw[hyx];simp,by rw[hyx];show n+x.toNat+b.lv false<=39000;omega,by rw[hyx];show i+1+b.it<=40000;omega⟩;rw[hyx];show(A.ch N q).plain=true;rw[N5];simp[hx']
   have pR:VJ (some y)=some ⟨b,n+x.toNat,i+1,body,qf⟩:=by simp[VJ,hyx]
   obtain⟨new,p',g2,g3⟩:=ih hall Qf D env (qf::body::Ts) P (m+2) S2 S' (n+x.toNat+b.lv false) (i+1+b.it) s done (some qf) (some y) N (N1+ob.ns.length) (R1+1+ob.rs.length) (q+1) (k0+x.toNat) os cc jj (by rw[UY,pR];exact key2) p2 vo ts tf hcf htb (by simp[Fu])
    (fun d hd=>by cases hd;exact hyZ) (by rw[pR];simp[T.YV,hx',Wj,VJ]at hpl ⊢;omega) (by rw[pR];simp only[VJ,Yv,Vq,Y9]at hl ⊢;exact hl.comm) (by rw[pR];simp only[VJ,Yv,UK]at hm ⊢;omega) (by omega) (by omega) (by rw[pR];exact eB)
    (by rw[<-het];exact Q5) (by rw[<-het];exact Ss) (by rw[<-het];exact jd) (by rw[<-het];exact jc) (by rw[<-het];exact hk0') hch (by omega) hN hfr (by
     rw[hF];show(match(List.find? (fun c:V1=>c.plain) (⟨i,R1,decide (x=0)⟩::ot.Yn))with|some c=>(⟨1,c.list,0⟩:Pl) |none=>_)=(⟨1,y.x.r,0⟩:Pl)
     rw[List.find?_cons];simp only[hx',decide_true];rw[hyx])
   rw[<-het,UY,pR]at g2;have Z5u:fS (some y)=some y.x:=rfl;refine⟨new,p',fun G hG=>?_,fun X opn ho hdo hA hE hL hG hX hK hfk hyk=>?_⟩
   .obtain⟨y1,y2,y3⟩:=g2 G hG;have y4:=y3 y.x rfl;rw[hyo,show y.x.N=N1 by rw[hyx]]at y4;refine⟨(back G y1).1,?_,fun x hx=>by cases hx⟩;show XF A G N1 (N1+(ob.ns++ot.ns).length) new;rw[Z4,<-Z3];exact y4.join y2
   .subst hA;obtain⟨y1,y2,y3⟩:=g2 X.G hE;obtain⟨_,z0,z1⟩:=back X.G y1;have hbk:X.G.kind body 17 (some (ip i)):=by
     cases hfa:fall with
     |none=>exact z0 hfa
     |some f=>rw[<-f1 f hfa];exact hfk f hfa rfl
    obtain⟨k1,k2⟩:=g3 X opn (fun h=>ho (.inr h)) (fun h=>ho (.inl (by
     have h':y.x.d.b.opn:=h;rw[hyx]at h';exact h'))) rfl hE hL hG hX hK (fun f hf ht=>by cases hf;exact z1 ht) (fun y' hy'=>by
     cases hy';rw[hyx];show X.G.Qi body 17 (X.A.ch N q).number;rw[N5];exact⟨i,rfl,hbk⟩)
    obtain⟨k3,k4,k5,k6,k7,k8⟩:=k2 (fun y' hy' Gf=>by
     cases hy';rw[hyf]at Gf;have htn:tl.isNil=false:=by simpa using Gf
     rw[hyx];show X.ob true true [X.A.next R1 N] (qf,0);rw[BZ htn];exact(k1 qf rfl htn).any)
    have k9:=k8 y rfl;rw[hyx]at k9;have k10:=k7 y.x rfl;rw[hyx]at k10;refine⟨fun f hf _=>by rw[f1 f hf];exact k9,fun _=>⟨?_,k4,fun hiv=>k5 (v2 X opn (v1 X opn hiv)),?_,(fun x hx=>by cases hx),fun y' hy'=>by cases hy'⟩⟩
    .have hz:x.toNat=0:=by omega
     rw[hz,Zn]at k3;exact k3
    .have hz:x.toNat=0:=by omega
     rw[hz]at k6 k10;simp only[Zn]at k6 k10;rw[show(T.cl x b tl).lv true=b.lv false+tl.lv true by simp[T.lv,hz],<-Z3];exact Cx.Vc.app k10 k6
  .rw[if_neg hx]at eB;obtain⟨kx,hkx⟩: ∃ kx,x.toNat=kx+1:=⟨x.toNat -1,by omega⟩
   obtain⟨S3,e3,eC⟩:=Z8.1 eB;obtain⟨S4,e4,eD⟩:=Z8.1 eC;obtain⟨S5,e5,e⟩:=Z8.1 eD;obtain⟨S3',f3,H3,hl3,hr⟩:=K8 (D:=D) (env:=Uz s done none::env) (P:=(if tl.isNil then []else [qf])++(body::(Wj (VJ dy)++(done::P)))) (Ts:=qf::body::Ts) (body:=body) (p:=ip i) (XK (by omega)) x.toNat n (m+2) S2 cc key2 p2.1 (by simp) (by omega) (by omega);rw[e3]at f3;cases f3;have e3':=e3;rw[hkx]at e3';obtain⟨c',p3,x3,s3⟩:=qN (body:=body) (z:=ip i) (XK (by omega)) kx (m+2) S2 S3 n k0 cc jj key2 p2 (by simp) (by omega) (by omega) e3';have qO: ∃ kq,S2.Z6.length<=c'/\c' < S3.Z6.length/\S3.Z6[c']? =some kq/\kq.fresh/\kq.kind≠1/\kq.kind≠10:=by
    rcases hr with⟨h0,_⟩ |⟨c'',kq,h0,h1,h2,h3,h4⟩
    .omega
    .have h5:=p3.1;rw[h0]at h5;cases h5;exact⟨kq,h1,h2,h3,h4⟩
   obtain⟨kq,td,sZ,hkq,Dh,hk1,hk10⟩:=qO;have bX: ∀ p∈(if tl.isNil then []else [qf])++(body::(Wj (VJ dy)++(done::P))),p < S2.Z6.length:=fun p hp=>key2.lt hp;have I8:c'∉(if tl.isNil then []else [qf])++(body::(Wj (VJ dy)++(done::P))):=fun hp=>by have:=bX _ hp;omega
   have sY:((if tl.isNil then []else [qf])++(Wj (VJ dy)++(done::P))).Nodup:=by
    rw[Y4];exact⟨hfl.1,hbn.2,fun a ha b hb=>hfl.2.2 a ha b (Z2 _ hb)⟩
   have bW:body∉(if tl.isNil then []else [qf])++(Wj (VJ dy)++(done::P)):=by
    intro hp;rcases ZM.1 hp with hp|hp
    .exact hfl.2.2 body hp body (by simp) rfl
    .exact hbn.1 hp
   have K5: ∀ p∈(if tl.isNil then []else [qf])++(Wj (VJ dy)++(done::P)),p∈(if tl.isNil then []else [qf])++(body::(Wj (VJ dy)++(done::P))):=by
    intro p hp;rcases ZM.1 hp with hp|hp
    .exact Zd _ hp
    .exact Zr _ (Z2 _ hp)
   have H4:=H3.swap (d:=body) (P':=c'::((if tl.isNil then []else [qf])++(Wj (VJ dy)++(done::P)))) p3.1 hkq Dh hk1 hk10 (by simp) (by
    intro p hp;rcases ZO.1 hp with rfl|hp
    .simp
    .exact Z2 _ (K5 p hp)) (ZS.2 ⟨fun hp=>I8 (K5 _ hp),sY⟩) (by
    intro hp;rcases ZO.1 hp with rfl|hp
    .exact I8 (by simp)
    .exact bW hp)
   have p4:(S3.at body).pt body 0:=(WR (P':=P) (d:=body) H3 (by simp) (by intro p hp;simp[hp])).1;obtain⟨l1,l2⟩:=LC.app (a:=b.labels) (b:=tl.labels++Vq (VJ dy)) hl;obtain⟨nb,H5,c5,x5,s5⟩:=TO (Xw:=some qf) (fl:=!tl.isNil) hSb Uy H4 p4 (by intro d hd;cases hd;simp) bs bo bf hbb (fun _=>⟨_,rfl⟩) l1 (by simp) (by omega) (n1:=n+x.toNat) (i1:=i+1) (N1:=N1) (r:=R1) (q:=q) (by omega) (by omega) heb I.rw I.sb hch hos JZ (.inl hN) hfr e4 e5;have H6:=H5.at (d:=c') (P':=(if tl.isNil then []else [qf])++(Wj (VJ dy)++(done::P))) (by simp) (by intro p hp;exact Z2 _ hp) sY (fun hp=>I8 (K5 _ hp));obtain⟨p6,x6⟩:=WR (d:=c') (P':=(if tl.isNil then []else [qf])++(Wj (VJ dy)++(done::P))) H5 (by simp) (by intro p hp;exact Z2 _ hp);rw[p3.1]at e
   obtain⟨new,p',g2,g3⟩:=ih hall Qf _ env (qf::body::Ts) P _ (S5.at c') S' (n+x.toNat+b.lv false) (i+1+b.it) s done (some qf) dy N (N1+ob.ns.length) (R1+1+ob.rs.length) (q+1) (k0+x.toNat) os c' 0 (by rw[UY];exact H6) p6 vo ts tf hcf htb (by simp[Fu])
    (fun y hy=>by
     have z:=hdf y hy;exact⟨z.df,z.fb,z.ok,z.VN,by simp[z.Xw],z.hn,z.hi⟩) (by simp[T.YV]at hpl;omega) l2 (by omega) (by omega) (by omega) e
    (by rw[<-het];exact Q5) (by rw[<-het];exact Ss) (by rw[<-het];exact jd) (by rw[<-het];exact jc) (by rw[<-het];exact hk0') hch (by omega) hN hfr (by
     rw[hF,<-het];cases dy with
     |some y=>rfl
     |none=>
      show(match(List.find? (fun c:V1=>c.plain) (⟨i,R1,decide (x=0)⟩::ot.Yn))with|some c=>(⟨1,c.list,0⟩:Pl) |none=>_)=_;rw[List.find?_cons];have:decide (x=0)=false:=by simp;omega
      simp only[this])
   rw[<-het,UY]at g2;have B3: ∀ G,Ext (S3.at body) (c'::((if tl.isNil then []else [qf])++(Wj (VJ dy)++(done::P)))) G->Ext S3 ((if tl.isNil then []else [qf])++(body::(Wj (VJ dy)++(done::P)))) G:=fun G hG=>hG.at (.inl (by simp)) (fun p hp=>by
    rcases ZO.1 hp with rfl|hp
    .exact .inr p3.1
    .exact .inl (K5 p hp))
   refine⟨nb++new,p',fun G hG=>?_,fun X opn ho hdo hA hE hL hG hX hK hfk hyk=>?_⟩
   .obtain⟨y1,y2,y3⟩:=g2 G hG;obtain⟨y5,y6⟩:=x5 G (x6 G y1);refine⟨(back G (x3 G (B3 G y5))).1,?_,y3.more (fun x hx=>Zr _ hx)⟩;show XF A G N1 (N1+(ob.ns++ot.ns).length) (nb++new);rw[Z4,<-Z3];exact y6.app y2
   .subst hA;obtain⟨y1,y2,y3⟩:=g2 X.G hE;obtain⟨y5,y6⟩:=x5 X.G (x6 X.G y1);have y7:=B3 X.G y5;obtain⟨_,z0,z1⟩:=back X.G (x3 X.G y7);have hbk:X.G.kind body 17 (some (ip i)):=by
     cases hfa:fall with
     |none=>exact z0 hfa
     |some f=>rw[<-f1 f hfa];exact hfk f hfa rfl
    obtain⟨k1,k2⟩:=g3 X opn (fun h=>ho (.inr h)) hdo rfl hE (fun x hx=>hL x (Zr _ hx)) hG hX hK (fun f hf ht=>by cases hf;exact z1 ht) hyk;obtain⟨u1,u2,u3,u4⟩:=s5 X opn rfl (x6 X.G y1) (fun x hx=>hL x (Zd _ hx)) hG hX (fun h=>ho (.inl h)) hK.any (fun hf=>by
     have htn:tl.isNil=false:=by simpa using hf
     exact⟨qf,rfl,by rw[BZ htn];exact(k1 qf rfl htn).any⟩) (fun _ _ l hl h5=>by
     rw[hrr]at hl ⊢;have hl':l=X.A.ch N q:=hl;rw[N5]at hl';refine⟨rfl,fun h15=>?_,fun _=>?_⟩
     .have yL:X.A.kd N=15:=h15;omega
     .rw[hl'];exact⟨i,rfl,hbk⟩)
    refine⟨fun f hf _=>by rw[f1 f hf];exact u1,fun hFX=>?_⟩;obtain⟨k3,k4,k5,k6,k7,k8⟩:=k2 hFX;obtain⟨w1,w2,w3⟩:=s3 X opn N q hN y7 (fun r hr=>⟨Gw (hlf r (by omega)),ZH (hlf r (by omega)),Z9v r (by omega),Z9u r (by omega)⟩) (by rw[N5];exact⟨i,rfl,hbk⟩) (by rw[N5];exact u1.any) (by rw[<-hkx];exact k3);refine⟨w1,fun x hx=>(ZM.1 hx).elim (u2 x) (k4 x),fun hiv=>k5 (XZ H5 (by simp) (u3 (XZ H3 (by simp) (w2 (v2 X opn (v1 X opn hiv)))))),?_,k7,k8⟩;rw[<-hkx]at w3;rw[show(T.cl x b tl).lv true=x.toNat+b.lv false+tl.lv true by simp[T.lv],<-Z3,<-Z3];exact Cx.Vc.app (w3.app u4) k6
end
section
variable {ls D:List ByteArray} {env:List DF} {Ts P P':List Nat} {m:Nat} {S S' S1:BS} {G:Gr} {c0 j0 cc jj:Nat} {A:Tr} {X:Cx} {h:Hd} {b e c tl:T} {N i a p n R R2 R3 N2:Nat} {ob oe:Out} {oc:WG} {ot:Out} {os:List Nat} {opq:Prop} {Hyp:Cx->Prop} {fl:Bool} {opn:Prop}
theorem Ik (hc:c.All (K6 ls)) (hs:c.All (VK A ls)) (H:Rs ls D env Ts P m S) (hp:S.pt c0 j0) (I:Nv A h b e c tl N R n i a p ob oe oc ot R2 R3) (In:Vy A h N i a p n R R2 oc) (hf:Ql h b e c) (hk:h.kind=13) {lab:Option Nat} (hlab:Xy D S env h.label lab) (cs:c.Xv false) (co:c.ok) (cf:c.fA)
  (bc:c.VN ls (⟨h.label,false⟩::env.map DF.s) true) (hl:LC ls D c.labels) (hm:m+14+16*c.wt<=40000) (hn:n+h.own+c.lv true<=39000) (hi:i+1+c.it<=40000) (hch:QF A a os) (hos:os.length<=N)
  (e':TF h n i lab (fun done=>c.YO.sw (n+h.own) (i+1) (env.map DF.t) done none none) S=some S') (Iu:c.opn->opq):
  LT A P S S' (N+1) (N+1+oc.ns.length) n (n+h.own+c.lv true) os env ⟨1,a,p⟩ c0 j0 ⟨1,a,(p:Int)+1⟩ opq Hyp:=by
 have hlf:h.Zu=false:=Wx (by omega);have hp0:h.post=false:=by
  cases hi:h.post with
  |false=>rfl
  |true=>have:=hf.1.Ym hi;omega
 have hel:h.ZV=false:=by
  cases hi:h.ZV with
  |false=>rfl
  |true=>have:=hf.1.els hi;omega
 have hcc:h.hasCond=h.cond:=by unfold Hd.hasCond;rw[hk];cases h.cond<;>rfl
 have hbd:h.Zz=false:=by
  cases hb:h.Zz with
  |false=>rfl
  |true=>have:=Yo.1 hb;omega
 have hin:h.init.toNat<=1:=ZG h.init;have hcn:h.cond.toNat<=1:=ZG h.cond;obtain⟨i1,i2,i3,i4⟩:=Iq I hbd hel;rw[show(h.kind==13)=true by simp[hk]]at i3;have LJ:(A.nd N).list=a:=by rw[In.eq];rfl
 have UN:(A.nd N).choices=oc.Yn:=by rw[In.eq];rfl
 have jb:(A.nd N).tests=oc.tests:=by rw[In.eq];rfl
 have Z9s:(A.nd N).YY=oc.YY:=by rw[In.eq];rfl
 have hcnd:(A.nd N).cnd=YL h.cond (n+h.init.toNat):=by
  rw[In.eq];show YL h.hasCond (n+h.Zu.toNat+h.init.toNat)=_;rw[hcc,hlf];rfl
 have hkd:A.kd N=13:=by rw[In.kd];exact hk
 have hfr:(A.nd N).h.frame= [⟨h.label,false⟩]:=by rw[In.eq];exact Vf (h:=h) (by omega)
 have hpl:=hf.1.pl;unfold TF at e';obtain⟨S1,e1,eA⟩:=Z8.1 e';obtain⟨S2,e2,eB⟩:=Z8.1 eA;obtain⟨S3,e3,eC⟩:=Z8.1 eB;obtain⟨H1,q1,w1⟩:=H.N9 (by omega) hp.1 (by omega) e1;obtain⟨p1,x1⟩:=Q8 e1 hp;obtain⟨H2,q2,w2⟩:=H1.N9 (by omega) p1.1 (by omega) e2;obtain⟨p2,x2⟩:=Q8 e2 p1;obtain⟨H3,p3,x3,v3⟩:=N4 (s:=h.label) H2 p2 (hlab.same (by rw[w2,w1])) (by decide) (XK (by omega)) (by omega) e3
 obtain⟨new,p',g2,g3⟩:=Il c hc hs D env (S2.Z6.length::Ts) P (m+4) _ S' (n+h.own) (i+1) h.label S2.Z6.length none none N (N+1) R 0 0 os _ _ (by simpa [VJ,Wj]using H3.le (by omega)) p3 co cs cf (by have:=hf.2 (by omega);rw[hk]at this;exact this) bc (by simp) (by simp) (by simp[VJ,Wj];exact hpl) (by simpa [VJ,Vq]using hl) (by simp only[VJ,Yv,UK];omega) (by omega) (by omega) eC
  (by rw[<-i3];exact i4) (by rw[<-i3,UN];exact Seg.self _) (by rw[<-i3,jb];exact Seg.self _) (by rw[<-i3,Z9s];exact Seg.self _) (by rw[<-i3,jb];omega) (by rw[LJ];exact hch) (by omega) hkd hfr (by unfold Tr.failed;rw[UN,<-i3];rfl)
 rw[<-i3]at g2;refine⟨_,_,new,p',fun G hG=>?_,fun X opn hA hE hL hG hX ho _ hK=>?_⟩
 .obtain⟨y1,y2,_⟩:=g2 G hG;exact⟨(x1 P G (x2 P G (x3 G (by simpa [VJ,Wj]using y1))).1).1,y2⟩
 .subst hA;obtain⟨y1,_,_⟩:=g2 X.G hE;obtain⟨y2,z2⟩:=x2 P X.G (x3 X.G (by simpa [VJ,Wj]using y1));obtain⟨y3,z1⟩:=x1 P X.G y2;obtain⟨_,k2⟩:=g3 X opn (fun h=>ho (Iu h)) (fun h=>by cases h) rfl hE hL hG hX (by rw[In.behind];exact hK) (fun f hf=>by cases hf) (fun y hy=>by cases hy);obtain⟨k3,k4,k5,k6,_,_⟩:=k2 (fun y hy=>by cases hy);have fR:X.ob false false [⟨3,N,0⟩] (c0,j0+h.init.toNat+h.cond.toNat):=by exact_mod_cast k3
  have ent: ∀ fs fg,X.ob fs fg [X.A.entered N] (c0,j0+h.init.toNat):=fun fs fg=>by
   rw[IB In hk,hcnd];cases hc:h.cond with
   |true=>
    rw[if_pos (V5.2 rfl),Wm rfl];exact Wy (z2 hc) rfl (Tm _)
   |false=>
    rw[if_neg (by rw[V5];simp)];rw[hc]at fR;simpa using fR.any
  refine⟨Qz In hlf z1 ent,k4,fun hiv=>k5 (v3 X opn (TR e2 p1 H1 (fun hc=>?_) (TR e1 hp H (Ix In hlf ent) hiv))),?_⟩
  .have hlc:=In.WB (Tl (N:=N) hlf (by rw[hcc];exact hc));refine .inr ⟨_,rfl,hlc.2,qZ hlc.1 hkd ?_⟩;rw[hc]at fR;exact fR.any
  .exact Cx.Vc.app (Q6 In hlf (fun hi=>⟨_,_,z1 hi⟩) (fun hc=>⟨_,_,z2 (by rw[<-hcc];exact hc)⟩) (fun hp=>by rw[hp0]at hp;cases hp)) k6
theorem LT.weak {N1 n1 n2:Nat} {ent ext:Pl} {ja:Prop} {i9:Cx->Prop} (h:LT A P S S' N1 N2 n1 n2 os env ent cc jj ext opq Hyp) (h1:opq->ja) (h2: ∀ X,i9 X->Hyp X):LT A P S S' N1 N2 n1 n2 os env ent cc jj ext ja i9:=by
 obtain⟨c',j',new,g1,g2,g3⟩:=h;exact⟨c',j',new,g1,g2,fun X opn hA hE hL hG hX ho hH hK=>g3 X opn hA hE hL hG hX (fun h=>ho (h1 h)) (h2 X hH) hK⟩
theorem BY (RA:Wn A) (TA:jm A) (hb:VK A ls b) (he:VK A ls e) (hcs:c.All (VK A ls)) (fb:FL ls b) (fe:FL ls e) (fc:c.All (K6 ls)) (H:Rs ls D env Ts P m S) (hp:S.pt c0 j0) (I:Nv A h b e c tl N R n i a p ob oe oc ot R2 R3) (In:Vy A h N i a p n R R2 oc) (hf:Ql h b e c)
  (bs:b.Xv true) (es:e.Xv true) (cs:c.Xv false) (bo:b.ok) (eo:e.ok) (co:c.ok) (bf:h.Zz=true->b.fA) (ef:h.ZV=true->e.fA) (cf:c.fA) {lab:Option Nat} (hlab:Xy D S env h.label lab)
  (hbr:(T.st h b e c tl).VN ls (env.map DF.s) fl) (hfl:fl=true-> ∃ f fs d,env=f::fs/\f.t.Xw=some d) (hl:LC ls D (b.labels++(e.labels++c.labels))) (hm:m+14+16*(b.wt+e.wt+c.wt)<=40000) (hn:n+h.own+b.lv false+e.lv false+c.lv (h.kind==13)<=39000) (hi:i+1+b.it+e.it+c.it<=40000) (hch:QF A a os) (hos:os.length<=N)
  (e':Yi h n i lab (env.map DF.t) (b.YO.list (n+h.own) (i+1)) (e.YO.list (n+h.own+b.lv false) (i+1+b.it)) (fun done=>c.YO.sw (n+h.own+b.lv false+e.lv false) (i+1+b.it+e.it) (env.map DF.t) done none none) (fun done=>c.YO.ty (n+h.own+b.lv false+e.lv false) (i+1+b.it+e.it) (env.map DF.t) done none) (fun done=>c.YO.sel (n+h.own+b.lv false+e.lv false) (i+1+b.it+e.it) (env.map DF.t) done none) c.YO.comms S=some S'):
  LT A P S S' (N+1) (N+1+ob.ns.length+oe.ns.length+oc.ns.length) n (n+h.own+b.lv false+e.lv false+c.lv (h.kind==13)) os env ⟨1,a,p⟩ c0 j0 ⟨1,a,(p:Int)+1⟩ ((h.kind=12\/h.kind=14\/h.kind=15)\/b.opn\/e.opn\/c.opn) (fun X=>SH A a env fl X/\(h.label.size=0->TS A a p c0 j0 X)):=by
 obtain⟨b17,b18,b19,b20,bb,be,bc,_⟩:=hbr;have hkr:=hf.1.k;have hown:h.own=(h.Yl N).length:=Yj.1.symm;have GM:h.kind≠10->e=.nil:=fun h1=>hf.1.ne (by
  cases he:h.ZV with
  |false=>rfl
  |true=>exact absurd (hf.1.els he) h1)
 have hoe:e=.nil->oe=.none:=fun h=>by rw[I.ee,L7 hf,h];rfl
 have hob:b=.nil->ob=.none:=fun h=>by rw[I.eb,QE hf,h];rfl
 have hoc:c=.nil->oc.ns= []:=fun h=>by rw[I.ec,h];rfl
 have LP:h.kind=10\/h.kind=11\/h.kind=12\/h.kind=16->b.fA:=fun hk=>bf (Yo.2 hk);by_cases h9:h.kind<=9
 ·
  have hbn:=hf.1.nb (by omega) (by omega) (by omega) (by omega);have hen:=GM (by omega);have hcn:=hf.1.nc (by omega) (by omega) (by omega);have hll:h.Zu=true:=Oa.2 ⟨hkr.1,h9⟩;have ho1:h.own=1:=by
   rw[hown,(Yj (h:=h) (N:=N)).1,hll];have q1:h.init=false:=by
    cases hi:h.init with
    |false=>rfl
    |true=>have:=hf.1.ini hi;omega
   have q2:h.cond=false:=by
    cases hi:h.cond with
    |false=>rfl
    |true=>have:=hf.1.cnd hi;omega
   have q3:h.post=false:=by
    cases hi:h.post with
    |false=>rfl
    |true=>have:=hf.1.Ym hi;omega
   have q4:h.hasCond=false:=by
    unfold Hd.hasCond;rw[q2];simp;omega
   rw[q1,q3,q4];rfl
  have:=B9 (env:=env) (os:=os) (opq:=False) (Hyp:=SH A a env fl) H hp In hll (by omega) (by omega) e';rw[hob hbn,hoe hen,hoc hcn,hbn,hen,hcn,ho1];simp only[T.lv,Out.none,List.length_nil,Zn];exact this.weak (by simp) (fun X h=>h)
 unfold Yi at e';rw[if_neg (by omega),if_neg (by omega),if_neg (by omega),if_neg (by omega),if_neg (by omega)]at e';by_cases h10:h.kind=10
 .rw[if_pos h10]at e';have hcn:=hf.1.nc (by omega) (by omega) (by omega);have hfr:=Vi (h:=h) (by omega);rw[hfr]at bb be;have:=qX (Hyp:=fun X=>SH A a env fl X/\(h.label.size=0->TS A a p c0 j0 X)) hb he fb fe H hp I In hf h10 bs es bo eo (LP (by omega)) ef bb be (by rw[hcn]at hl;simpa [T.labels]using hl) (by rw[hcn]at hm;simp[T.wt]at hm;omega) (by omega) (by omega) hch hos e';rw[hoc hcn];rw[hcn];simp only[T.lv,List.length_nil,Zn];exact this.weak (fun h=>h.elim (fun h=>.inr (.inl h)) (fun h=>.inr (.inr (.inl h)))) (fun X h=>h)
 rw[if_neg h10]at e';have hen:=GM h10;by_cases h11:h.kind=11
 .rw[if_pos h11]at e';have hcn:=hf.1.nc (by omega) (by omega) (by omega);have hfr:h.frame= [⟨h.label,true⟩]:=by unfold Hd.frame;rw[if_pos (by omega)]
  rw[hfr]at bb;have:=xR (Hyp:=fun X=>SH A a env fl X/\(h.label.size=0->TS A a p c0 j0 X)) hb fb H hp I In hf h11 hlab bs bo (LP (by omega)) bb (by rw[hcn,hen]at hl;simpa [T.labels]using hl) (by rw[hcn,hen]at hm;simp[T.wt]at hm;omega) (by omega) (by omega) hch hos e';rw[hoc hcn,hoe hen];rw[hcn,hen];simp only[T.lv,Out.none,List.length_nil,Zn];exact this.weak (fun h=>.inr (.inl h)) (fun X h=>h)
 rw[if_neg h11]at e';by_cases h12:h.kind=12
 .rw[if_pos h12]at e';have hcn:=hf.1.nc (by omega) (by omega) (by omega);have hfr:h.frame= [⟨h.label,true⟩]:=by unfold Hd.frame;rw[if_pos (by omega)]
  rw[hfr]at bb;have:=EV (opq:=(h.kind=12\/h.kind=14\/h.kind=15)\/b.opn\/e.opn\/c.opn) (Hyp:=fun X=>SH A a env fl X/\(h.label.size=0->TS A a p c0 j0 X)) hb fb H hp I In hf h12 hlab bs bo (LP (by omega)) bb (by rw[hcn,hen]at hl;simpa [T.labels]using hl) (by rw[hcn,hen]at hm;simp[T.wt]at hm;omega) (by omega) (by omega) hch hos e' (.inl (.inl h12)) (fun h=>.inr (.inl h));rw[hoc hcn,hoe hen];have h1:n+h.own+b.lv false+e.lv false+c.lv (h.kind==13)=n+h.own+b.lv false:=by rw[hcn,hen];simp[T.lv]
  rw[h1];simpa [Out.none]using this
 rw[if_neg h12]at e';by_cases h13:h.kind=13
 .rw[if_pos h13]at e';have hbn:=hf.1.nb (by omega) (by omega) (by omega) (by omega);have hfr:h.frame= [⟨h.label,false⟩]:=Vf (by omega);have JW:(h.kind==13)=true:=by simp[h13]
  rw[hfr,JW]at bc;rw[JW]at hn ⊢;have z1:n+h.own+b.lv false+e.lv false=n+h.own:=by rw[hbn,hen];simp[T.lv]
  have z2:i+1+b.it+e.it=i+1:=by rw[hbn,hen];simp[T.it]
  rw[z1]at hn e' ⊢;rw[z2]at e' hi;have:=Ik (opq:=(h.kind=12\/h.kind=14\/h.kind=15)\/b.opn\/e.opn\/c.opn) (Hyp:=fun X=>SH A a env fl X/\(h.label.size=0->TS A a p c0 j0 X)) fc hcs H hp I In hf h13 hlab cs co cf bc (by rw[hbn,hen]at hl;simpa [T.labels]using hl) (by rw[hbn,hen]at hm;simp[T.wt]at hm;omega) hn hi hch hos e' (fun h=>.inr (.inr (.inr h)));rw[hob hbn,hoe hen];simpa [Out.none]using this
 rw[if_neg h13]at e';by_cases JK:h.kind=14
 .rw[if_pos JK]at e';have hbn:=hf.1.nb (by omega) (by omega) (by omega) (by omega);have hfr:h.frame= [⟨h.label,false⟩]:=Vf (by omega);have JW:(h.kind==13)=false:=by simp[JK]
  rw[hfr,JW]at bc;rw[JW]at hn ⊢;have z1:n+h.own+b.lv false+e.lv false=n+h.own:=by rw[hbn,hen];simp[T.lv]
  have z2:i+1+b.it+e.it=i+1:=by rw[hbn,hen];simp[T.it]
  rw[z1]at hn e' ⊢;rw[z2]at e' hi;have:=ES (opq:=(h.kind=12\/h.kind=14\/h.kind=15)\/b.opn\/e.opn\/c.opn) (Hyp:=fun X=>SH A a env fl X/\(h.label.size=0->TS A a p c0 j0 X)) fc hcs H hp I In hf JK hlab cs co cf bc (by rw[hbn,hen]at hl;simpa [T.labels]using hl) (by rw[hbn,hen]at hm;simp[T.wt]at hm;omega) hn hi hch hos e' (.inl (.inr (.inl JK)));rw[hob hbn,hoe hen];simpa [Out.none]using this
 rw[if_neg JK]at e';by_cases h15:h.kind=15
 .rw[if_pos h15]at e';have hbn:=hf.1.nb (by omega) (by omega) (by omega) (by omega);have hfr:h.frame= [⟨h.label,false⟩]:=Vf (by omega);have JW:(h.kind==13)=false:=by simp[h15]
  rw[hfr,JW]at bc;rw[JW]at hn ⊢;have z1:n+h.own+b.lv false+e.lv false=n+h.own:=by rw[hbn,hen];simp[T.lv]
  have z2:i+1+b.it+e.it=i+1:=by rw[hbn,hen];simp[T.it]
  rw[z1]at hn e' ⊢;rw[z2]at e' hi;have:=Ip (opq:=(h.kind=12\/h.kind=14\/h.kind=15)\/b.opn\/e.opn\/c.opn) (Hyp:=fun X=>SH A a env fl X/\(h.label.size=0->TS A a p c0 j0 X)) fc hcs H hp I In hf h15 hlab cs co cf bc (by rw[hbn,hen]at hl;simpa [T.labels]using hl) (by rw[hbn,hen]at hm;simp[T.wt]at hm;omega) hn hi hch hos e' (.inl (.inr (.inr h15)));rw[hob hbn,hoe hen];simpa [Out.none]using this
 rw[if_neg h15]at e';have hcn:=hf.1.nc h13 JK h15;have hfr:=Vi (h:=h) (by omega);rw[hfr]at bb;by_cases h16:h.kind=16
 .rw[if_pos h16]at e';have:=EY (Hyp:=fun X=>SH A a env fl X/\(h.label.size=0->TS A a p c0 j0 X)) hb H hp I In hf h16 bs bo (LP (by omega)) bb (by rw[hcn,hen]at hl;simpa [T.labels]using hl) (by omega) (by omega) (by omega) hch hos e';rw[hoc hcn,hoe hen];rw[hcn,hen];simp only[T.lv,Out.none,List.length_nil,Zn];exact this.weak (fun h=>.inr (.inl h)) (fun X h=>h)
 rw[if_neg h16]at e';have hbn:=hf.1.nb h10 h11 h12 h16;have hll:h.Zu=false:=Wx (by omega);have ho0:h.own=0:=by
  rw[hown,(Yj (h:=h) (N:=N)).1,hll];have q1:h.init=false:=by
   cases hi:h.init with
   |false=>rfl
   |true=>have:=hf.1.ini hi;omega
  have q2:h.cond=false:=by
   cases hi:h.cond with
   |false=>rfl
   |true=>have:=hf.1.cnd hi;omega
  have q3:h.post=false:=by
   cases hi:h.post with
   |false=>rfl
   |true=>have:=hf.1.Ym hi;omega
  have q4:h.hasCond=false:=by
   unfold Hd.hasCond;rw[q2];simp;omega
  rw[q1,q3,q4];rfl
 have z1:n+h.own+b.lv false+e.lv false+c.lv (h.kind==13)=n:=by rw[hbn,hen,hcn,ho0];simp[T.lv]
 rw[z1,hob hbn,hoe hen,hoc hcn];simp only[Out.none,List.length_nil,Zn];by_cases h21:h.kind=21
 .rw[if_pos h21]at e';exact EZ H hp In h21 hf e'
 rw[if_neg h21]at e'
 exact Iz RA TA H hp In hf (by omega) (by omega) hch hos
  (fun hk=>let⟨f,hf1,hf2⟩:=b17 hk;let⟨g,hg1,hg2⟩:=Y2.1 hf1;⟨g,hg1,by rw[hg2];exact hf2⟩)
  (fun hk=>let⟨f,hf1,hf2⟩:=b18 hk;let⟨g,hg1,hg2⟩:=Y2.1 hf1;⟨g,hg1,by rw[hg2];exact hf2⟩)
  (fun hk=>⟨b19 hk,hf.1.gt hk⟩)
  (fun hk=>⟨by
   rcases ZA h.target.size with h0|h0
   .exact h0
   .have:=hf.1.tg h0;omega,(b20 hk).1⟩) hfl e'
end
section
variable {ls D:List ByteArray} {env:List DF} {Ts P P':List Nat} {m:Nat} {S S' S1:BS} {G:Gr} {c0 j0 cc jj:Nat} {A:Tr} {X:Cx} {h:Hd} {b e c tl:T} {N i a p n R R2 R3 N2:Nat} {ob oe:Out} {oc:WG} {ot:Out} {os:List Nat} {opq:Prop} {Hyp:Cx->Prop} {fl:Bool} {opn:Prop}
theorem Ext.BW {j:Nat} {y:ByteArray × Lb} {k:Bk} {x:Option Int} (h:Ext ((S.set y.2.go { k with of:=x }).at y.2.go) P G) (hc:S.cur=none) (hj:S.ZT[j]? =some y) (hk:S.Z6[y.2.go]? =some k) (ho:k.of=none):Ext S P G:=by
 have hl:=ZH hk;refine⟨fun i q hi=>?_,h.lab,h.ask⟩;by_cases e:i=y.2.go
 .subst e;rw[hk]at hi;cases hi;obtain⟨q',g1,g2,g3,g4,_⟩:=h.blk _ { k with of:=x } (by show(S.set y.2.go { k with of:=x }).Z6[_]? =_;rw[YN hl,if_pos rfl]);exact⟨q',g1,g2,fun hn=>absurd ho hn,g4,fun hs=>absurd ho (hs.2.2 j y hj rfl)⟩
 .obtain⟨q',g1,g2,g3,g4,g5⟩:=h.blk i q (by show(S.set y.2.go { k with of:=x }).Z6[_]? =_;rw[YN hl,if_neg e];exact hi);exact⟨q',g1,g2,g3,g4,fun hs=>g5 ⟨fun e'=>e (Y0 e').symm,hs.2.1,hs.2.2⟩⟩
theorem Ext.BV {s:ByteArray} {k:Bk} (h:Ext ⟨S.Z6++ [k],some S.Z6.length,S.ZT++ [(s,⟨S.Z6.length,none,none⟩)],S.asked⟩ P G) (hc:S.cur=none):Ext S P G:=by
 refine⟨fun i q hi=>?_,fun j y hj=>h.lab j y (Wz hj),h.ask⟩;obtain⟨q',h1,h2,h3,h4,h5⟩:=h.blk i q (Wz hi);refine⟨q',h1,h2,h3,h4,fun hs=>h5 ⟨fun e=>?_,hs.2.1,fun j y hj hy=>?_⟩⟩
 .have:=ZH hi;have e':S.Z6.length=i:=Y0 e;omega
 .rcases XX hj with f1|⟨_,rfl⟩
  .exact hs.2.2 j y f1 hy
  .have:=ZH hi;have hy':S.Z6.length=i:=hy;omega
theorem EQ (H:Rs ls D env Ts P m S) (hm:m<=40000) {s:ByteArray} (hs:s∈ls) (hD:s∉D) (hp:S.pt cc jj) {r:Nat × BS} {y:ByteArray × Lb} {S2:BS} (e1:S.UQ s true=some r) (e2:r.2.ZT[r.1]? =some y) (e3:r.2.YG y.2.go=some S2):
  Rs ls (s::D) env Ts P (m+2) (S2.at y.2.go)/\(S2.at y.2.go).ZT[r.1]? =some y/\y.1=s/\y.2.brk=none/\y.2.cnt=none/\(S2.at y.2.go).pt y.2.go 0/\(∀ G,Ext (S2.at y.2.go) P G->Ext S P G/\G.ends cc jj [y.2.go])/\ ∀ X opn,Cx.iv X opn S->X.iv opn (S2.at y.2.go):=by
 obtain⟨r',y',S2',f1,f2,f3,f4,f5,f6,f7,f8⟩:=H.label hm hs hD hp.1;rw[e1]at f1;cases f1;rw[e2]at f2;cases f2;rw[e3]at f3;cases f3;obtain⟨hc,kc,hkc,hj⟩:=hp;have hp:S.pt cc jj:=⟨hc,kc,hkc,hj⟩
 obtain⟨_,kc',iZ,hsc⟩:=H.w.cur cc hc;rw[hkc]at iZ;cases iZ;have hcl:=ZH hkc;obtain⟨S0,hS0⟩: ∃ S0:BS,S0=⟨(S.set cc { kc with succs:= [y.2.go] }).Z6,none,S.ZT,S.asked⟩:=⟨_,rfl⟩
 have iY: ∀ X opn,Cx.iv X opn S->X.iv opn S0:=by
  intro X opn hiv;subst hS0;have hb:=hiv.blk cc kc hkc;refine hiv.upd (k':= { kc with succs:= [y.2.go] }) hcl ⟨hb.Ru,fun ht=>absurd ht (by simp),fun hr=>?_,hb.rt⟩ (.inl rfl) hiv.ask;rcases hb.ret hr with h1|⟨_,h2⟩
  .exact .inl h1
  .exact absurd hc h2
 have BU: ∀ G,Ext S0 P G->Ext S P G/\G.ends cc jj [y.2.go]:=by
  intro G hG;subst hS0;exact Ce H.w hp hkc rfl hG
 have hlen0:S0.Z6.length=S.Z6.length:=by rw[hS0];simp[BS.set]
 refine⟨f4,f5,f6,f7,f8,?_⟩;unfold BS.UQ at e1;cases hf:S.Yb s with
 |some j=>
  obtain⟨z,h1,h2⟩:=Vj hf;obtain⟨_,k,g1,g2,g3⟩:=H.w.V8 j z h1;have ho:k.of=none:=by
   cases hko:k.of with
   |none=>rfl
   |some o=>exact absurd ((H.df s).1 ⟨j,z,k,h1,h2,g1,by simp[hko]⟩) hD
  obtain⟨hfr,hnc,_,_⟩:=g3 ho;rw[hf]at e1;simp[h1,g1,ho]at e1;subst e1;change S.ZT[j]? =some y at e2;rw[h1]at e2;cases e2;have hne:y.2.go≠cc:=fun e=>hnc (by rw[hc,e]);have hgl:=ZH g1;have hS2:S2=⟨((S.set y.2.go { k with of:=some 0 }).set cc { kc with succs:= [y.2.go] }).Z6,none,S.ZT,S.asked⟩:=by
   have hp':(S.set y.2.go { k with of:=some 0 }).pt cc jj:=⟨hc,kc,by rw[YN hgl,if_neg (fun e=>hne e.symm)];exact hkc,hj⟩
   obtain⟨q,q1,q2,q3,q4⟩:=Rf e3 hp';rw[YN hgl,if_neg (fun e=>hne e.symm),hkc]at q1;cases q1;exact q4
  have hT:S2.at y.2.go=(S0.set y.2.go { k with of:=some 0 }).at y.2.go:=by
   rw[hS2,hS0];simp only[BS.at,BS.set];rw[List.set_comm _ _ hne]
  have hk0:S0.Z6[y.2.go]? =some k:=by rw[hS0];show(S.set cc _).Z6[_]? =_;rw[YN hcl,if_neg hne];exact g1
  rw[hT];refine⟨⟨rfl,{ k with of:=some 0 },by show(S0.set y.2.go _).Z6[_]? =_;rw[YN (ZH hk0),if_pos rfl],by show k.nodes.length=0;rw[hfr.1];rfl⟩,fun G hG=>BU G (hG.BW (by rw[hS0]) (j:=j) (by rw[hS0];exact h1) hk0 ho),fun X opn hiv=>?_⟩;exact Iv.at (k:= { k with of:=some 0 }) ((iY X opn hiv).define hk0) (by rw[YN (ZH hk0),if_pos rfl]) hfr
 |none=>
  rw[hf]at e1;obtain⟨S1,g1,g2⟩:=ZX.1 e1;have:=Tp g1;subst this;subst g2;have hy:y=(s,⟨S.Z6.length,none,none⟩):=by
   have e2':((S.new 10 none).lab s ⟨S.Z6.length,none,none⟩).ZT[S.ZT.length]? =some y:=e2;simp[BS.lab,BS.new]at e2';exact e2'.symm
  have hgo:y.2.go=S.Z6.length:=by rw[hy]
  have hr2:((S.new 10 none).lab s ⟨S.Z6.length,none,none⟩).set S.Z6.length ⟨10,some 0,[],[],false,false⟩=⟨S.Z6++ [⟨10,some 0,[],[],false,false⟩],S.cur,S.ZT++ [(s,⟨S.Z6.length,none,none⟩)],S.asked⟩:=by
   simp[BS.lab,BS.set,BS.new]
  simp only[if_true]at e3;rw[hr2]at e3;have hS2:S2=⟨((⟨S.Z6++ [⟨10,some 0,[],[],false,false⟩],S.cur,S.ZT++ [(s,⟨S.Z6.length,none,none⟩)],S.asked⟩:BS).set cc { kc with succs:= [y.2.go] }).Z6,none,S.ZT++ [(s,⟨S.Z6.length,none,none⟩)],S.asked⟩:=by
   have hp':(⟨S.Z6++ [⟨10,some 0,[],[],false,false⟩],S.cur,S.ZT++ [(s,⟨S.Z6.length,none,none⟩)],S.asked⟩:BS).pt cc jj:=⟨hc,kc,Wz hkc,hj⟩
   obtain⟨q,q1,q2,q3,q4⟩:=Rf e3 hp';have q1':(S.Z6++ [⟨10,some 0,[],[],false,false⟩])[cc]? =some q:=q1;rw[Wz hkc]at q1';cases q1';exact q4
  have hT:S2.at y.2.go=⟨S0.Z6++ [⟨10,some 0,[],[],false,false⟩],some S0.Z6.length,S0.ZT++ [(s,⟨S0.Z6.length,none,none⟩)],S0.asked⟩:=by
   rw[hS2,hlen0,hgo,hS0];simp only[BS.at,BS.set];rw[List.set_append_left _ _ hcl,hgo]
  rw[hT];rw[hgo,<-hlen0]at BU ⊢;refine⟨⟨rfl,⟨10,some 0,[],[],false,false⟩,by simp,rfl⟩,fun G hG=>BU G (hG.BV (by rw[hS0])),fun X opn hiv=>?_⟩;exact Iv.at (S:=⟨S0.Z6++ [⟨10,some 0,[],[],false,false⟩],S0.cur,S0.ZT++ [(s,⟨S0.Z6.length,none,none⟩)],S0.asked⟩) (k:=⟨10,some 0,[],[],false,false⟩) ((iY X opn hiv).Sf ⟨rfl,rfl,rfl⟩ _) (d:=S0.Z6.length) (by show(S0.Z6++ [_])[S0.Z6.length]? =_;simp) ⟨rfl,rfl,rfl⟩
end
section
variable {ls D:List ByteArray} {env:List DF} {Ts P P':List Nat} {m:Nat} {S S' S1:BS} {G:Gr} {c0 j0 cc jj:Nat} {A:Tr} {X:Cx} {h:Hd} {b e c tl:T} {N i a p n R R2 R3 N2:Nat} {ob oe:Out} {oc:WG} {ot:Out} {os:List Nat} {opq:Prop} {Hyp:Cx->Prop} {fl:Bool} {opn:Prop}
theorem Ij {Q:T->Prop} (hQ: ∀ t,Q t): ∀ t:T,t.All Q:=by
 intro t
 induction t with
 |nil=>trivial
 |st h b e c tl _ _ ih3 ih4=>exact⟨hQ _,hQ _,ih3,ih4⟩
 |cl x b tl _ ih2=>exact⟨hQ _,ih2⟩
theorem xK (hN:Vy A h N i a p n R R2 oc) {N3 n2:Nat} {core:Option Nat->BS->Option BS} (H:Rs ls D env Ts P m S) (hp:S.pt c0 j0) (hm:m<=40000) (hl:LC ls D (if h.label.size=0 then []else [h.label])) (e:ML h.label core S=some S1)
  (hcore: ∀ (D':List ByteArray) (m':Nat) (S2:BS) (lab:Option Nat) (c j:Nat),Rs ls D' env Ts P m' S2->m'<=m+2->S2.pt c j->Xy D' S2 env h.label lab->(∀ s,s∈D'↔s∈(if h.label.size=0 then []else [h.label])++D)->(h.label.size=0->c=c0/\j=j0)->core lab S2=some S1->
   LT A P S2 S1 (N+1) N3 n n2 os env ⟨1,a,p⟩ c j ⟨1,a,(p:Int)+1⟩ opq (fun X=>SH A a env fl X/\(h.label.size=0->TS A a p c j X))):
  LT A P S S1 N N3 n n2 os env ⟨1,a,p⟩ c0 j0 ⟨1,a,(p:Int)+1⟩ opq (fun X=>SH A a env fl X/\TS A a p c0 j0 X):=by
 unfold ML at e;by_cases hz:h.label.size=0
 .rw[if_pos hz]at e;obtain⟨c',j',new,g1,g2,g3⟩:=hcore D m S none c0 j0 H (by omega) hp (.inl ⟨rfl,hz⟩) (by simp[hz]) (fun _=>⟨rfl,rfl⟩) e;refine⟨c',j',new,g1,fun G hG=>⟨(g2 G hG).1,?_⟩,fun X opn hA hE hL hG hX ho hH hK=>g3 X opn hA hE hL hG hX ho ⟨hH.1,fun _=>hH.2⟩ hK⟩;intro k x h1 h2 h3 h4;by_cases hk:k=N
  .subst hk;rw[hN.nd]at h3;cases h3;exact absurd hz (by show h.label.size≠0;have h4':0 < h.label.size:=h4;omega)
  .exact(g2 G hG).2 k x (by omega) h2 h3 h4
 .rw[if_neg hz]at e hl;obtain⟨r,e1,eA⟩:=Z8.1 e;obtain⟨y,e2,eB⟩:=Z8.1 eA;obtain⟨S2,e3,eC⟩:=Z8.1 eB;obtain⟨H2,l2,q1,q2,q3,p2,x2,v2⟩:=EQ H hm (hl.1 _ (by simp)).1 (hl.1 _ (by simp)).2 hp e1 e2 e3;obtain⟨c',j',new,g1,g2,g3⟩:=hcore (h.label::D) (m+2) (S2.at y.2.go) (some r.1) y.2.go 0 H2 (by omega) p2 (.inr ⟨r.1,y,rfl,l2,q1,by omega,by simp,q2,q3,fun f hf he=>by
   have h0:=(H.env.lab f hf (by rw[he];omega)).1;rw[he]at h0;exact(hl.1 _ (by simp)).2 h0⟩) (by simp[hz]) (fun h=>absurd h hz) eC
  refine⟨c',j',(⟨1,a,p⟩,(y.2.go,0))::new,g1,fun G hG=>?_,fun X opn hA hE hL hG hX ho hH hK=>?_⟩
  .obtain⟨y1,y2⟩:=g2 G hG;obtain⟨y3,_⟩:=x2 G y1;refine⟨y3,?_⟩;intro k x h1 h2 h3 h4;by_cases hk:k=N
   .subst hk;rw[hN.nd]at h3;cases h3;obtain⟨y',z1,z2,z3⟩:=y1.lab r.1 y l2;exact⟨r.1,y',z1,by rw[z2,q1];rfl,by rw[z3];exact List.mem_cons_self⟩
   .obtain⟨j,y',f1,f2,f3⟩:=y2 k x (by omega) h2 h3 h4;exact⟨j,y',f1,f2,Z2 _ f3⟩
  .obtain⟨y1,_⟩:=g2 X.G hE;obtain⟨_,z2⟩:=x2 X.G y1;obtain⟨k1,k2,k3,k4⟩:=g3 X opn hA hE (fun x hx=>hL x (Z2 _ hx)) hG hX ho ⟨hH.1,fun h=>absurd h hz⟩ hK;refine⟨Xr z2 k1.any,fun x hx=>?_,fun hiv=>k3 (v2 X opn hiv),k4⟩;rcases ZO.1 hx with rfl|hx
   .exact k1
   .exact k2 x hx
theorem BT (RA:Wn A) (TA:jm A) (BR: ∀ t,K6 ls t): ∀ t:T,t.All (VK A ls)->VK A ls t:=by
 intro t
 induction t with
 |nil=>
  intro _ D env Ts P m S S' n i fl N R a p os c j H hp _ _ _ _ _ _ _ _ _ e _ _ _ _ _;cases e;refine⟨c,j,[],hp,fun G hG=>⟨hG,by simpa [T.rd,Out.none]using XF.nil⟩,fun X opn hA hE hL hG hX ho hH hK=>⟨by simpa [T.len]using hK,by simp,fun h=>h,by simpa [T.lv]using Cx.Vc.nil⟩⟩
 |cl x b tl=>intro _ D env Ts P m S S' n i fl N R a p os c j H hp hs;exact absurd hs.1 (by simp)
 |st h b e c tl _ _ _ ih=>
  intro⟨q1,q2,q3,q4⟩ D env Ts P m S S' n i fl N R a p os c0 j0 H hp ⟨_,s1,s2,s3,s4⟩ ⟨p0,p1,p2,p3,p4⟩ ⟨f0,f1,f2,f3,f4⟩ hbr hfl hl hm hn hi e' hsub TV hch hos hft;have htl:=ih q4;simp only[T.wt]at hm;simp only[T.lv]at hn;simp only[T.it]at hi;obtain⟨l0,l1⟩:=LC.app (a:=if h.label.size=0 then []else [h.label]) (b:=b.labels++(e.labels++(c.labels++tl.labels))) (by simpa [T.labels]using hl);rw[show b.labels++(e.labels++(c.labels++tl.labels))=(b.labels++(e.labels++c.labels))++tl.labels by simp]at l1;obtain⟨l2,l3⟩:=l1.app;obtain⟨ob,oe,oc,ot,R2,R3,I,hid,_,_,hns⟩:=CF hsub;rw[hid]at TV;obtain⟨hrow,Z9r⟩:=TV.cons;have In:Vy A h N i a p n R R2 oc:=⟨I.nd,I.lf,hrow⟩
  have hown:h.own=(h.Yl N).length:=Yj.1.symm;have hob:ob.ls.length=b.lv false/\ob.it=b.it:=by
   rw[I.eb];unfold vB;split
   .next hb=>exact(Qg b).1 s1 (f1 hb) _ _ _ _ _ _
   .next hb=>rw[f0.RZ hb];exact⟨rfl,rfl⟩
  have hoe:oe.ls.length=e.lv false/\oe.it=e.it:=by
   rw[I.ee];unfold vA;split
   .next hb=>exact(Qg e).1 s2 (f2 hb) _ _ _ _ _ _
   .next hb=>rw[f0.TW hb];exact⟨rfl,rfl⟩
  have hoc:oc.ls.length=c.lv (h.kind==13)/\oc.it=c.it:=by
   rw[I.ec];exact(Qg c).2 s3 f3 _ _ _ _ _ _ _ _
  have hst:=I.st;have het:=I.et;rw[<-hown,hob.1,hoe.1,hoc.1]at hst het;rw[hob.2,hoe.2,hoc.2]at het;rw[GK]at e';obtain⟨S1,eA,eB⟩:=Z8.1 e'
  have hcore: ∀ (D':List ByteArray) (m':Nat) (S2:BS) (lab:Option Nat) (c1 j1:Nat),Rs ls D' env Ts P m' S2->m'<=m+2->S2.pt c1 j1->Xy D' S2 env h.label lab->(∀ s,s∈D'↔s∈(if h.label.size=0 then []else [h.label])++D)->(h.label.size=0->c1=c0/\j1=j0)->
    Yi h n i lab (env.map DF.t) (b.YO.list (n+h.own) (i+1)) (e.YO.list (n+h.own+b.lv false) (i+1+b.it)) (fun done=>c.YO.sw (n+h.own+b.lv false+e.lv false) (i+1+b.it+e.it) (env.map DF.t) done none none) (fun done=>c.YO.ty (n+h.own+b.lv false+e.lv false) (i+1+b.it+e.it) (env.map DF.t) done none) (fun done=>c.YO.sel (n+h.own+b.lv false+e.lv false) (i+1+b.it+e.it) (env.map DF.t) done none) c.YO.comms S2=some S1->
    LT A P S2 S1 (N+1) (N+1+ob.ns.length+oe.ns.length+oc.ns.length) n (n+h.own+b.lv false+e.lv false+c.lv (h.kind==13)) os env ⟨1,a,p⟩ c1 j1 ⟨1,a,(p:Int)+1⟩ ((h.kind=12\/h.kind=14\/h.kind=15)\/b.opn\/e.opn\/c.opn) (fun X=>SH A a env fl X/\(h.label.size=0->TS A a p c1 j1 X)):=
   fun D' m' S2 lab c1 j1 H2 hm2 hp2 hlab hD _ he=>BY RA TA q1 q2 q3 (BR b s1) (BR e s2) (Ij BR c) H2 hp2 I In f0 s1 s2 s3 p1 p2 p3 f1 f2 f3 hlab hbr hfl (l2.congr (fun s hs=>(hD s).1 hs)) (by omega) (by omega) (by omega) hch hos he
  have key:Rs ls ((b.labels++(e.labels++c.labels))++((if h.label.size=0 then []else [h.label])++D)) env Ts P (m+16+16*(b.wt+e.wt+c.wt)) S1:=by
   unfold ML at eA;by_cases hz:h.label.size=0
   .rw[if_pos hz]at eA;rw[if_pos hz]at l2;obtain⟨S1',e1,H1,_⟩:=Pu (tl:=tl) (BR b s1) (BR e s2) (Ij BR c) p0 p1 p2 p3 s3 H hp.1 (lab:=none) (.inl ⟨rfl,hz⟩) hbr hfl l2 (by omega) n i (by omega) (by omega);have e1':=eA.symm.trans e1;cases e1';exact(H1.le (by omega)).perm (by intro z;simp[hz])
   .rw[if_neg hz]at eA;rw[if_neg hz]at l0 l2;obtain⟨r,y,S2,g1,g2,g3,H2,g4,g5,g6,g7⟩:=H.label (by omega) (s:=h.label) (l0.1 _ (by simp)).1 (l0.1 _ (by simp)).2 hp.1;obtain⟨S1',e1,H1,_⟩:=Pu (tl:=tl) (BR b s1) (BR e s2) (Ij BR c) p0 p1 p2 p3 s3 H2 rfl (lab:=some r.1) (.inr ⟨r.1,y,rfl,g4,g5,by omega,by simp,g6,g7,fun f hf he=>by
     have h0:=(H.env.lab f hf (by rw[he];omega)).1;rw[he]at h0;exact(l0.1 _ (by simp)).2 h0⟩) hbr hfl (l2.congr (by intro s hs;simpa using hs)) (by omega) n i (by omega) (by omega)
    rw[g1]at eA;simp only[Zh]at eA;rw[g2]at eA;simp only[Zh]at eA;rw[g3]at eA;simp only[Zh]at eA;have e1':=eA.symm.trans e1;cases e1';exact(H1.le (by omega)).perm (by intro z;simp[hz])
  obtain⟨c1,j1,new1,p5,g2,g3⟩:=xK (fl:=fl) In H hp (by omega) l0 eA hcore;obtain⟨c2,j2,new2,p6,g4,g5⟩:=htl _ env Ts P _ S1 S' _ _ fl _ _ a (p+1) os c1 j1 key p5 s4 p4 f4 hbr.2.2.2.2.2.2.2 hfl l3 (by omega) (by omega) (by omega) eB (by rw[<-het];exact hst) (by rw[<-het];exact Z9r) hch (by omega) (fun hc=>(hft hc).2);rw[<-het]at g4;have hlen:((T.st h b e c tl).rd.l N R n i a p).ns.length=1+ob.ns.length+oe.ns.length+oc.ns.length+ot.ns.length:=by
   rw[hns];simp;omega
  refine⟨c2,j2,new1++new2,p6,fun G hG=>?_,fun X opn hA hE hL hG hX ho hH hK=>?_⟩
  .obtain⟨y1,y2⟩:=g4 G hG;obtain⟨y3,y4⟩:=g2 G y1;refine⟨y3,?_⟩;rw[hlen];have:=y4.app y2;rw[show N+(1+ob.ns.length+oe.ns.length+oc.ns.length+ot.ns.length)=N+1+ob.ns.length+oe.ns.length+oc.ns.length+ot.ns.length by omega];exact this
  .obtain⟨y1,y2⟩:=g4 X.G hE;obtain⟨u1,u2,u3,u4⟩:=g5 X opn hA hE (fun x hx=>hL x (Zr _ hx)) hG hX (fun h=>ho (.inr (.inr (.inr (.inr h))))) ⟨hH.1,fun h=>absurd h (by omega)⟩ (by
    have:(((p+1:Nat):Int)+(tl.len:Int))=((p:Int)+((T.st h b e c tl).len:Int)):=by simp only[T.len];omega
    rw[this];exact hK)
   obtain⟨k1,k2,k3,k4⟩:=g3 X opn hA y1 (fun x hx=>hL x (Zd _ hx)) hG hX (fun h=>ho (by
    rcases h with h|h|h|h
    .exact .inl h
    .exact .inr (.inl h)
    .exact .inr (.inr (.inl h))
    .exact .inr (.inr (.inr (.inl h))))) hH (by exact_mod_cast u1)
   refine⟨k1,fun x hx=>(ZM.1 hx).elim (k2 x) (u2 x),fun hiv=>u3 (k3 hiv),?_⟩;rw[show n+(T.st h b e c tl).lv false=n+h.own+b.lv false+e.lv false+c.lv (h.kind==13)+tl.lv false by simp only[T.lv];omega];exact Cx.Vc.app k4 u4
end
section
def BS.whole (S:BS) (c:Nat):Gr:=⟨S.Z6.modify c fun k=> { k with nodes:=k.nodes++ [⟨2,true⟩] },S.ZT,S.asked⟩
theorem Ve {S:BS} {c i:Nat} {k:Bk} (h:S.Z6[i]? =some k):(S.whole c).Z6[i]? =some (if i=c then { k with nodes:=k.nodes++ [⟨2,true⟩] } else k):=by
 show(S.Z6.modify c _)[i]? =_;rw[Y5,h];by_cases e:i=c
 .subst e;simp
 .rw[if_neg e];have e': ¬ c=i:=fun h=>e h.symm;simp[e']
theorem NZ {S:BS} {c i:Nat} {k:Bk} (h:(S.whole c).Z6[i]? =some k): ∃ k0,S.Z6[i]? =some k0/\k=if i=c then { k0 with nodes:=k0.nodes++ [⟨2,true⟩] } else k0:=by
 cases h0:S.Z6[i]? with
 |none=>
  have h':(S.Z6.modify c fun k=> { k with nodes:=k.nodes++ [⟨2,true⟩] })[i]? =some k:=h;rw[Y5,h0]at h';simp at h'
 |some k0=>
  rw[Ve h0]at h;exact⟨k0,rfl,(Y0 h).symm⟩
structure Sem (t:T) (A:Tr) (S:BS) (c:Nat) (X:Cx):Prop where
 A:X.A=A
 G:X.G=S.whole c
 start:X.ob false false [⟨1,0,0⟩] (0,0)
 closed: ∀ p q,X.R p q->X.ob false false [p] q
 iv:X.iv t.opn S
 Vc:X.Vc 0 (t.lv false)
theorem xJ {t:T} {A:Tr} {tg:List Int} (hA:A=t.tr tg) (h:Rt t) (hf:t.fA) (RA:Wn A) (TA:jm A) {S S3:BS} {c:Nat} (F:Fin t S S3 c) (H0:Rs t.labels [] [] [] [] 1 BS.start): ∃ X,Sem t A S c X:=by
 have BR: ∀ u,K6 t.labels u:=fun u=>T.Wg (Q:=K6 t.labels) (fun t=>K1 t) u;have hSL: ∀ u,VK A t.labels u:=fun u=>T.Wg (Q:=VK A t.labels) (fun t=>BT RA TA BR t) u;have hsub:Sub A 0 1 0 (t.rd.l 0 1 0 0 0 0).ls (t.rd.l 0 1 0 0 0 0).ns (t.rd.l 0 1 0 0 0 0).rs:=by
  rw[hA];exact⟨Seg.self _,Seg.self _,fun j hj=>by
   show(_::_:List Rw)[1+j]? =_;rw[Zv,List.getElem?_cons_succ]⟩
 have hrw:A.rw ((0:Nat):Int)=⟨-1,-1,(t.rd.l 0 1 0 0 0 0).ids⟩:=by rw[hA];exact WY (N:=0) rfl
 have hp:BS.start.pt 0 0:=⟨rfl,⟨2,some 3,[],[],false,false⟩,rfl,rfl⟩
 obtain⟨c',j',new,p',g1,g2⟩:=hSL t [] [] [] [] 1 BS.start S 0 0 false 0 1 0 0 [] 0 0 H0 hp h.Xv h.ok hf h.VN (by simp) ⟨fun s hs=>⟨hs,by simp⟩,h.nodup⟩ (by have:=h.wt;omega) (by have:=h.lv;omega) (by have:=h.it;omega)
  (by exact F.built.YO) hsub (by rw[hrw];exact Seg.self _) (by show(A.rw _).owner= -1;exact congrArg Rw.owner hrw) (by simp) (fun hc=>absurd (congrArg Rw.clause hrw) hc)
 have hc':c'=c:=by
  have:=p'.1;rw[F.cur]at this;exact(Y0 this).symm
 subst hc';obtain⟨hcur,k,hk,hj⟩:=p';have hE:Ext S [] (S.whole c'):=by
  refine⟨fun i q hi=>?_,fun j y hy=>⟨y,hy,rfl,rfl⟩,fun x hx=>hx⟩;refine⟨_,Ve hi,?_⟩;by_cases e:i=c'
  .rw[if_pos e];exact⟨rfl,fun _=>rfl,List.prefix_append _ _,fun hs=>absurd (by rw[hcur,e]) hs.1⟩
  .rw[if_neg e];exact⟨rfl,fun _=>rfl,List.prefix_refl _,fun _=>⟨rfl,rfl⟩⟩
 obtain⟨_,hlab⟩:=g1 _ hE;refine⟨⟨A,S.whole c',new⟩,?_⟩;have hns:A.ns=(t.rd.l 0 1 0 0 0 0).ns:=by rw[hA];rfl
 have hGL:GL ⟨A,S.whole c',new⟩:=by
  intro N x hx hs j y hy hyl;have hl:=ZH hx;obtain⟨j2,y2,f1,f2,f3⟩:=hlab N x (by omega) (by rw[<-hns,YR];exact hl) hx hs;have hj:=F.rs.w.Sg j j2 y y2 hy f1 (by rw[hyl,f2]);subst hj;have hy':S.ZT[j]? =some y:=hy;have f1':S.ZT[j]? =some y2:=f1;rw[hy']at f1';cases f1';exact f3
 have hlast:(⟨A,S.whole c',new⟩:Cx).ob false false [⟨1,0,(0:Int)+t.len⟩] (c',j'):=by
  refine .leaf (x:= -2) ?_ ?_
  .unfold Tr.mv;have hl: ¬ ((0:Int)+(t.len:Int)) < ((A.rw 0).nodes.length:Int):=by
    have e:(A.rw 0).nodes.length=t.len:=by
     have:=congrArg (fun r=>r.nodes.length) hrw;rw[<-II t h.Xv 0 1 0 0 0 0];exact this
    omega
   have ho:(A.rw 0).owner= -1:=congrArg Rw.owner hrw;show(if(1:Int)=1 then _ else _)=_;rw[if_pos rfl];show(if((0:Int)+(t.len:Int)) < ((A.rw 0).nodes.length:Int)then _ else if(A.rw 0).owner= -1 then _ else _)=_;rw[if_neg hl,if_pos ho]
  .have hg:=Ve (c:=c') hk;rw[if_pos rfl]at hg;have hn:(k.nodes++ [(⟨2,true⟩:Vt)])[j']? =some ⟨2,true⟩:=by
    rw[Zj (by omega),hj,Nat.sub_self];rfl
   have hl2:YS (⟨2,true⟩:Vt).pos= -2:=rfl;simp only[nx,hg,hn,hl2];rfl
 obtain⟨k1,k2,k3,k4⟩:=g2 ⟨A,S.whole c',new⟩ t.opn rfl hE (fun x hx=>hx) hGL .nil id ⟨(fun h=>by cases h),fun _ hc=>absurd (congrArg Rw.clause hrw) hc⟩ hlast;refine⟨rfl,rfl,k1,fun p q hpq=>k2 (p,q) hpq,k3 ⟨fun i q hi=>?_,by simp[BS.start,BS.none,BS.new,BS.at]⟩,by simpa using k4⟩;have hi':([⟨2,some 3,[],[],false,false⟩]:List Bk)[i]? =some q:=hi;cases i with
 |zero=>
  cases hi';exact BI.fresh ⟨rfl,rfl,rfl⟩
 |succ i=>simp at hi'
end
end Go.Proofs.YteedbaejpdjilaaGreat
