/- Part of the proof: EndF. -/
import Derived.Test.YteedbaejpdjilaaGreatRows
import Derived.ProofKit
import Derived.SizedLaws
set_option linter.all false
set_option maxRecDepth 100000
set_option maxHeartbeats 40000000
namespace Go.Proofs.YteedbaejpdjilaaGreat
open Go.RowKit
theorem Tryz.own:ownKnob Tryz.prog.godebug=none:=by kernel_rfl
theorem Tryz.laidOut:laidOutB Tryz.prog=true:=by kernel_rfl
theorem row22:Tryz.prog.readableRec 22=true:=by kernel_rfl
theorem pL:22 < Tryz.prog.types.size:=of_decide_eq_true (by kernel_rfl)
theorem uX:mapsRowed Tryz.prog=true:=by kernel_rfl
theorem Ba:Tryz.prog.readableRec 3=true:=by kernel_rfl
theorem A0:Tryz.prog.readableRec 4=true:=by kernel_rfl
theorem pK:decide (4 < Tryz.prog.types.size)=true:=by kernel_rfl
theorem Bf:Tryz.prog.stops= []:=by kernel_rfl
theorem LH:Tryz.prog.stopKnobs= []:=by kernel_rfl
theorem Ez:Tryz.prog.mapsRec 22=false:=by kernel_rfl
theorem AZ:Tryz.prog.mapsRec 3=false:=by kernel_rfl
theorem AY:Tryz.prog.ifacesRec 22=false:=by kernel_rfl
theorem uV:Tryz.prog.ifacesRec 3=false:=by kernel_rfl
theorem uU:Tryz.prog.ifacesRec 4=false:=by kernel_rfl
theorem AX:Tryz.prog.mapsAmong [4]=false:=by kernel_rfl
theorem Ga:Tryz.prog.loopsFrom 22=true:=by kernel_rfl
theorem Ey:Tryz.prog.loopsFrom 4=false:=by kernel_rfl
theorem Ex:Tryz.prog.wideKeysFrom 22=false:=by kernel_rfl
theorem AW:Tryz.prog.wideKeysFrom 3=false:=by kernel_rfl
theorem AV:Tryz.prog.wideKeysFrom 4=false:=by kernel_rfl
theorem Bb:(Rows.fnKindsRow.plainKeys==Tryz.prog.plainKeys)=true:=by kernel_rfl
theorem Be:Tryz.prog.stopsHeard=true:=by kernel_rfl
theorem Bc:Tryz.prog.mayEnter=true:=by kernel_rfl
theorem EA:(Rows.fnKindsRow.lifted==Tryz.prog.liftsFinal)=true:=by kernel_rfl
theorem uW:(Tryz.prog.make==some Rows.fnKindsRow.make)=true:=by kernel_rfl
theorem Ew:Tryz.prog.veiledRec 22=false:=by kernel_rfl
theorem AU:Tryz.prog.veiledRec 3=false:=by kernel_rfl
theorem AS:Tryz.prog.veiledRec 4=false:=by kernel_rfl
end Go.Proofs.YteedbaejpdjilaaGreat
