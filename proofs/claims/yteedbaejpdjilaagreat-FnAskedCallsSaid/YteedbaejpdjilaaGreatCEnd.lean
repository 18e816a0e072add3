/- Part of the proof: End. -/
import Derived.Test.YteedbaejpdjilaaGreatYPs
import Derived.Test.YteedbaejpdjilaaGreatYPt
import Derived.Test.YteedbaejpdjilaaGreatYEndF
set_option linter.all false
set_option maxRecDepth 100000
set_option maxHeartbeats 40000000
namespace Go.Proofs.YteedbaejpdjilaaGreat
open Go.RowKit
open Go.ChangeShapes Go.WideShapes Go.RowKit
section
variable {H:Type} {enc:TypeId × Value->H} {P:Program}
theorem SE {f:Func} {s:ChangeSpec} {apart fresh handsOn again:Bool} {W W':World} {args:Array Value} {v:Value} {ds gs:List (DataW H)} {before pa pv:List MemPlace}
  (hW:DataW.Whole enc P f.params.toList s.vars apart W args.toList ds gs before)
  (hres: ∀ (b:Nat) (sp:Nat->Bool) (hd:Bool),DataW.TrodAll enc P W' b sp hd f.resultTypes.toList (v.resultList f.resultTypes.size) (s.fn H (ds++gs)).results [])
  (hargs: ∀ sp:Nat->Bool,(∀ p∈before,sp p.block=true)->DataW.TrodAll enc P W' 0 sp true f.params.toList args.toList (s.fn H (ds++gs)).args pa)
  (hvars: ∀ sp:Nat->Bool,(∀ p∈before,sp p.block=true)->DataW.TrodVars enc P W' sp s.vars (s.fn H (ds++gs)).vars pv)
  (hps:before=pa++pv) (hb:Below W.heap.size W W')
  (hok: ∀ (j:Nat) (t:TypeId) (r:Value),f.resultTypes[j]? =some t->(v.resultList f.resultTypes.size)[j]? =some r->Value.okWide P W' .any 0 t r):
  s.post enc P f apart fresh handsOn again W args v W':=by
 have hlt: ∀ p∈before,p.block < W.heap.size:=fun p hp=>hW.lt p hp;have hold: ∀ p∈before,(fun b=>decide (b < W.heap.size)) p.block=true:=fun p hp=>by simpa using hlt p hp
 refine⟨ds,gs,before,[],pa,pv,hW,hres _ _ _,hargs _ hold,hvars _ hold,World.keptBut_mono (fun p hp=>⟨hp,?_⟩) (hb.frame (· ∈before)),fun _=>?_⟩
 .rw[hps,ZM]at hp;exact Or.inr hp
 .obtain⟨_,_,_,_,_,hz,hn⟩:=hW;refine⟨hok,_,_,([]++pa)++pv,⟨[]++pa,pv,trodAll_append (hargs _ (fun _ _=>rfl)) (hres _ _ _),hvars _ (fun _ _=>rfl),rfl,?_,?_⟩,?_⟩
  .intro b off hp;have hin:MemPlace.cell b off∈before:=by rw[hps];simpa using hp
   rw[hb.frozen (hlt _ hin)];exact hz b off hin
  .intro ha;have:=hn ha;rw[hps]at this;simpa using this
  .intro p hp _;rw[hps];simpa using hp
theorem src_of {W:World} {v:Value} {d:DataW H} {p:List MemPlace} (hv:Value.okWide Tryz.prog W .any 0 22 v) (h:DataW.Trod enc Tryz.prog W 0 (fun _=>true) true 22 v d p) (hw: ∀ z∈d.weights Tryz.prog 22,z<=reachBytes): ∃ t:T,t.lim/\Src W t v:=by
 obtain⟨a,n,c,rfl⟩:=okWide_slice Tryz.underlying22 hv;obtain⟨fuel,h⟩:=h;obtain⟨b,o,t,h1,h2,h3⟩:=(JI fuel).1 _ _ h hw;exact⟨t,h3,⟨b,o,h1,h2⟩⟩
def fG (k:Nat):Prop:= ∀ {t:T},t.lim-> ∀ {w:World} {v:Value},Src w t v->Calls Tryz.prog k #[v] w fun e w'=>e=.returned (.bool true)/\Below w.heap.size w w'
theorem Z7K {k:Nat} {f:Func} {s:ChangeSpec} (L:fG k) (hp:f.params= #[22]) (hr:f.resultTypes= #[4]) (hv:s.vars= []) (hfn: ∀ d:DataW H,s.fn H [d]= { results:= [.lit (.bool true)],args:= [d] }) {apart fresh handsOn again:Bool}
  (W:World) (args:Array Value) (ds gs:List (DataW H)) (before:List MemPlace) (hval: ∀ (j:Nat) t v,f.params[j]? =some t->args[j]? =some v->Value.okWide Tryz.prog W .any 0 t v)
  (hW:DataW.Whole enc Tryz.prog f.params.toList s.vars apart W args.toList ds gs before) (hz:(DataW.weightsEach Tryz.prog (f.params.toList++s.plain.varTypes Tryz.prog) (ds++gs)).all (· <=reachBytes)=true):
  Calls Tryz.prog k args W fun e W'=> ∃ v,e=.returned v/\s.post enc Tryz.prog f apart fresh handsOn again W args v W':=by
 have hW':=hW;obtain⟨p,q,hA,hV,rfl,hfz,hnd⟩:=hW;rw[hp]at hA hval;rw[hv]at hV;obtain⟨v0,d0,rfl,rfl,h0⟩:=trodAll_one hA;obtain⟨rfl,rfl⟩:=trodVars_none hV;obtain⟨t,hl,hs⟩:=src_of (hval 0 22 v0 rfl rfl) h0 (fun z hzz=>by
  have:=List.all_eq_true.1 hz z (DataW.weights_mem_each (j:=0) (t:=22) (d:=d0) (by rw[hp];rfl) rfl z hzz);simpa using this)
 refine(L hl hs).mono ?_;rintro e W' ⟨rfl,hb⟩;have hlt: ∀ x∈p,x.block < W.heap.size:=fun x hx=>hW'.lt x (by simp[hx]);refine⟨_,rfl,SE (pa:=p) (pv:= []) hW' (fun _ _ _=>?_) (fun sp hsp=>?_) (fun _ _=>?_) (by simp) hb (ok_one hr rfl (okWide_bool_mk Tryz.underlying4 true))⟩
 .rw[hr,Y9,hfn];exact trodAll_mk1 (shut_bool Tryz.underlying4 true)
 .rw[hp,Y9,hfn];exact trodAll_mk1 (WideElems.Trod_stays Tryz.laidOut row22 pL h0 (fun x hx=>hb.same (hlt x hx)) (fun x hx=>hsp x (by simp[hx])))
 .rw[hv,Y9,hfn];rfl
end
def QV (fu sp:String):OpenClaim:= { Rows.fnKindsRow with func:=fu,spec:=sp }
theorem qy {f:Nat} {fn:Func} {s:ChangeSpec} {fu sp:String} (hp:fn.params= #[22]\/fn.params= #[22,3]) (hr:fn.resultTypes= #[4]) (hv:s.vars= []) (h0:(QV fu sp).wf (OpenSpec.ofChange s)=true)
  (h1:((QV fu sp).inPlace==Tryz.prog.inPlace f)=true) (h2:((QV fu sp).unfollowed==Tryz.prog.unfollowed f)=true) (h3:((QV fu sp).recurses==Tryz.prog.recurses f)=true) (h4:((QV fu sp).named==Tryz.prog.varsNamed f)=true)
  (h6:((QV fu sp).pinned==(QV fu sp).pinnedBy)=true)
  (h7:(QV fu sp).veiledFits Tryz.prog fn.params.toList (fn.params.toList++ []++fn.resultTypes.toList)=true):joinedFacts Tryz.prog f fn s (QV fu sp)=true:=by
 have hvt:s.plain.varTypes Tryz.prog= []:=by
  show s.vars.filterMap _= []
  rw[hv];rfl
 unfold joinedFacts;rw[hvt,h0,h1,h2,h3,h4,h6,h7,Tryz.laidOut,uX,Bf,LH,Be,Bc,hr,hv];have k1:((QV fu sp).plainKeys==Tryz.prog.plainKeys)=true:=Bb;have k2:((QV fu sp).lifted==Tryz.prog.liftsFinal)=true:=EA;have k3:(Tryz.prog.make==some (QV fu sp).make)=true:=uW;rw[k1,k2,k3];rcases hp with hp|hp<;>rw[hp]<;>simp[row22,Ba,A0,pK,Ez,AZ,AY,uV,uU,AX,Ga,Ey,Ex,AW,AV,Ew,AU,AS,namedTie,QV,Rows.fnKindsRow]
end Go.Proofs.YteedbaejpdjilaaGreat
