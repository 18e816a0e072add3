/- Part of the proof: LawP. -/
import Derived.Test.YteedbaejpdjilaaGreatXRa
set_option linter.all false
set_option maxRecDepth 100000
set_option maxHeartbeats 4000000
namespace Go.Proofs.YteedbaejpdjilaaGreat
open Go.RowKit
def iT (n:Nat) (W:World) (ix:Value) (wr:World):Prop:= ∃ k:Nat,ix=.int .i64 k∧k<=n∧Below W.heap.size W wr
def iZ (b1 b2 g qi qj n cap:Nat) (la sa:Option Addr) (lc sc:Nat) (P:Pc) (w:World):Prop:=w.cell? ⟨b1,0,none⟩=some (.slice (some ⟨g,0,none⟩) n cap)∧w.cell? ⟨b2,0,none⟩=some (.int .i64 qi)∧w.cell? ⟨b2,1,none⟩=some (.int .i64 qj)∧
 w.cell? ⟨g,qi*7,none⟩=some (.slice la P.leaves.length lc)∧w.cell? ⟨g,qi*7+1,none⟩=some (.slice sa P.succs.length sc)∧w.cell? ⟨g,qi*7+2,none⟩=some (.int .i64 P.index)∧w.cell? ⟨g,qi*7+3,none⟩=some (.bool P.live)∧
 w.cell? ⟨g,qi*7+4,none⟩=some (.int .i64 P.kind)∧w.cell? ⟨g,qi*7+5,none⟩=some (.int .i64 P.of)∧w.cell? ⟨g,qi*7+6,none⟩=some (.bool P.Zn)
def oI (ps:List Pc) (P:Pc) (ka kb n:Int):Prop:= ∃ (a b:Nat) (Pa Pb:Pc),P.succs= [(a:Int),(b:Int)]∧ps[a]? =some Pa∧ps[b]? =some Pb∧Pa.kind=ka∧Pa.of=n∧Pb.kind=kb∧Pb.of=n
def Ir (P:Pc) (la sa:Option Addr) (lc sc:Nat):Value:=.agg #[.slice la P.leaves.length lc,.slice sa P.succs.length sc,.int .i64 P.index,P.live,.int .i64 P.kind,.int .i64 P.of,P.Zn]
theorem V9 {w:World} {lo g cap:Nat} {ps:List Pc} {x:Int} {K:Nat} {caps:Array Value} (hg:BO w lo g ps) (hf:kS ps) (hx: ∃ q,AtS ps x q) (hK: ∀ args w,(callFunc K args).run Tryz.prog w=.ok (.enter K args) w)
  (hc: ∀ (i j:Nat) (P:Pc) (W:World) la lc sa sc,ps[i]? =some P->P.leaves[j]? =some x->Below w.heap.size w W->yB W lo g i P la lc sa sc->Calls Tryz.prog K (#[Ir P la sa lc sc,.int .i64 j]++caps) W fun e w'=>e=.returned (.bool true)∧Below W.heap.size W w'):
  Calls Tryz.prog 42 #[.agg #[.slice (some ⟨g,0,none⟩) ps.length cap],.int .i64 x,.func (.func K) #[] caps] w fun e w'=>e=.returned (.bool true)∧Below w.heap.size w w':=by
 have hb1:Below w.heap.size w (w.alloc (.cells [.slice (some ⟨g,0,none⟩) ps.length cap].toArray 39)):=(Below.refl _ _).alloc (Nat.le_refl _) _;have hnb:=ZV.new w [.slice (some ⟨g,0,none⟩) ps.length cap] 39;have g0:=hnb.cell 0 rfl;have HG:=Za hg hb1 hnb;have HF:=Za hf hx hc;have hgw:=hg.lt.2;clear hg hb1 hnb hf hx hc;go_enter Tryz.func42,Tryz.ntmps42;go_wp2_with fail
 refine(O1 (HG.out.1.low HG.out.2.1) HF.out.1).mono ?_;rintro e w1 ⟨v,sp,rfl,hsp,hb⟩;obtain⟨sa,sc,rfl⟩:=hsp.q.slice;have hw1:Below w.heap.size w w1:=HG.out.2.1.trans (hb.mono (by simp));have hg1:=(ZC HG.out.2.2 hb).cell 0 rfl;have hbs:=hb.size;have hsn:=hsp.len;have hpos:0 < sp.length:=by
  obtain⟨q,hq⟩:=HF.out.2.1;exact List.length_pos_of_mem ((hsp.mem q).2 hq)
 have HS:=Za hsp hw1 (ZC HG.out.2.2 hb);clear hsp hw1 hb g0;simp at hbs;go_wp2_with fail
 go_loopw [15] (fun ix wr=>iT sp.length w1 ix wr) (fun ix _=>sp.length -(intOf ix).toNat)
 case atStart=>exact⟨0,rfl,by omega,Below.refl _ _⟩
 case round=>
  obtain⟨k,rfl,hk,hbw⟩:=hrel;have hgr:=(ZC HS.out.2.2 hbw).cell 0 rfl;have hbz:=hbw.size;by_cases hlt:k < sp.length
  ·obtain⟨q,hq⟩: ∃ q,sp[k]? =some q:=⟨_,List.getElem?_eq_getElem hlt⟩
   obtain⟨gs,off,cs,hv,hcs⟩: ∃ gs off cs,sa=some ⟨gs,off,none⟩∧cs=sc:=by
    rcases HS.out.1.q.2 with⟨h1,h2⟩ |⟨gs,off,cp,cs,h1,_⟩
    ·omega
    ·simp only[Value.slice.injEq]at h1;exact⟨gs,off,_,h1.1,rfl⟩
   subst hv hcs;have hat:=((HS.out.1.mem q).1 (List.mem_of_getElem? hq))
   have hQ:=HS.out.1.q.low hbw (fun g hg=>(HS.out.1.q.lt g hg).2.1);obtain⟨c0,c1⟩:=Eb hq;have s0:=(hQ.cells (k*2) (by omega)).trans c0;have s1:=(hQ.cells (k*2+1) (by omega)).trans c1;obtain⟨qi,qj⟩:=q;obtain⟨P,hP,hPx⟩:=hat;dsimp only at hP hPx s0 s1;rw[<-Nat.add_assoc]at s1;have hil:=ZW hP;have hwr:Below w.heap.size w wr:=HS.out.2.1.trans (hbw.mono (by omega));obtain⟨la,lc,sa2,sc2,hM0⟩:=HG.out.1.pc qi P hP;have hW4:Below w.heap.size w (wr.alloc (.cells [.int .i64 qi,.int .i64 qj].toArray 112)):=hwr.alloc (by omega) _;have hM:=hM0.low hW4 HG.out.1.lt.2;obtain⟨d0,d1,d2,d3,d4,d5,d6⟩:=hM.all;have hnb:=ZV.new wr [.int .i64 qi,.int .i64 qj] 112;have n0:=hnb.cell 0 rfl;have n1:=hnb.cell 1 rfl;have hgz:=HG.out.1.lt.2;have hkeep: ∀ wx:World,Below (wr.alloc (.cells [.int .i64 qi,.int .i64 qj].toArray 112)).drew.heap.size (wr.alloc (.cells [.int .i64 qi,.int .i64 qj].toArray 112)).drew wx->iZ w.heap.size wr.heap.size g qi qj ps.length cap la sa2 lc sc2 P wx∧Below w1.heap.size w1 wx:=fun wx hbx=>by
    have h1:ZV wx wr.heap.size _ _:=ZC hnb.drew hbx;have h2:=(hM.low (Below.refl _ _).drew (by simp;omega)).low hbx (by simp;omega);have h3:Below w1.heap.size w1 wx:=((hbw.alloc hbz _).drew).trans (hbx.mono (by simp;omega));exact⟨⟨(ZC HS.out.2.2 h3).cell 0 rfl,h1.cell 0 rfl,h1.cell 1 rfl,h2.all⟩,h3⟩
   have HP:=XG hP hPx hM hW4 hkeep;have hS0:=(hkeep _ (Below.refl _ _)).1;clear hM hM0 hW4 hwr hnb hQ hq c0 c1 hP hPx hkeep;go_wp2_with fail
   go_region_held3 (fun wx:World=>wx.cell? ⟨w.heap.size,0,none⟩=some (.slice (some ⟨g,0,none⟩) ps.length cap)∧wx.cell? ⟨wr.heap.size,0,none⟩=some (.int .i64 qi)∧wx.cell? ⟨wr.heap.size,1,none⟩=some (.int .i64 qj)∧wx.cell? ⟨g,qi*7,none⟩=some (.slice la P.leaves.length lc)∧wx.cell? ⟨g,qi*7+1,none⟩=some (.slice sa2 P.succs.length sc2)∧wx.cell? ⟨g,qi*7+2,none⟩=some (.int .i64 P.index)∧wx.cell? ⟨g,qi*7+3,none⟩=some (.bool P.live)∧wx.cell? ⟨g,qi*7+4,none⟩=some (.int .i64 P.kind)∧wx.cell? ⟨g,qi*7+5,none⟩=some (.int .i64 P.of)∧wx.cell? ⟨g,qi*7+6,none⟩=some (.bool P.Zn)) (first|exact hS0|assumption|go_keep) ((refine(HF.out.2.2 qi qj P _ la lc sa2 sc2 HP.out.1 HP.out.2.1 HP.out.2.2.2.1.drew (HP.out.2.2.1.low (Below.refl _ _).drew (by simp;omega))).mono ?_;rintro e wx ⟨rfl,hbx⟩;obtain⟨hS2,hbx2⟩:=HP.out.2.2.2.2 wx hbx))
   go_wp2_with fail
   exact⟨⟨k+1,by simp,by omega,hbx2⟩,by simp[intOf];omega⟩
  ·go_wp2_with fail
   go_ret;exact⟨by simp[hpos],HS.out.2.1.trans (hbw.mono (by omega))⟩
end Go.Proofs.YteedbaejpdjilaaGreat
