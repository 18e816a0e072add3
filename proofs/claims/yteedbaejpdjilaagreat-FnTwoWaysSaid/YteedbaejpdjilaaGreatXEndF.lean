/- Part of the proof: EndF. -/
import Derived.Test.YteedbaejpdjilaaGreatRows
import Derived.ProofKit
import Derived.SizedLaws
set_option linter.all false
set_option maxRecDepth 100000
set_option maxHeartbeats 40000000
namespace Go.Proofs.YteedbaejpdjilaaGreat
open Go.RowKit
theorem Tryz.own:ownKnob Tryz.prog.godebug=none:=by kernel_rfl
theorem Tryz.laidOut:laidOutB Tryz.prog=true:=by kernel_rfl
theorem row22:Tryz.prog.readableRec 22=true:=by kernel_rfl
theorem oU:22 < Tryz.prog.types.size:=of_decide_eq_true (by kernel_rfl)
theorem rZ:mapsRowed Tryz.prog=true:=by kernel_rfl
theorem AU:Tryz.prog.readableRec 3=true:=by kernel_rfl
theorem zD:Tryz.prog.readableRec 4=true:=by kernel_rfl
theorem mD:decide (4 < Tryz.prog.types.size)=true:=by kernel_rfl
theorem xO:Tryz.prog.stops= []:=by kernel_rfl
theorem MV:Tryz.prog.stopKnobs= []:=by kernel_rfl
theorem DZ:Tryz.prog.mapsRec 22=false:=by kernel_rfl
theorem AZ:Tryz.prog.mapsRec 3=false:=by kernel_rfl
theorem Bz:Tryz.prog.ifacesRec 22=false:=by kernel_rfl
theorem qJ:Tryz.prog.ifacesRec 3=false:=by kernel_rfl
theorem uj:Tryz.prog.ifacesRec 4=false:=by kernel_rfl
theorem xB:Tryz.prog.mapsAmong [4]=false:=by kernel_rfl
theorem Ig:Tryz.prog.loopsFrom 22=true:=by kernel_rfl
theorem CV:Tryz.prog.loopsFrom 4=false:=by kernel_rfl
theorem Dp:Tryz.prog.wideKeysFrom 22=false:=by kernel_rfl
theorem zS:Tryz.prog.wideKeysFrom 3=false:=by kernel_rfl
theorem zG:Tryz.prog.wideKeysFrom 4=false:=by kernel_rfl
theorem xI:(Rows.fnKindsRow.plainKeys==Tryz.prog.plainKeys)=true:=by kernel_rfl
theorem yS:Tryz.prog.stopsHeard=true:=by kernel_rfl
theorem zY:Tryz.prog.mayEnter=true:=by kernel_rfl
theorem EK:(Rows.fnKindsRow.lifted==Tryz.prog.liftsFinal)=true:=by kernel_rfl
theorem sG:(Tryz.prog.make==some Rows.fnKindsRow.make)=true:=by kernel_rfl
theorem EM:Tryz.prog.veiledRec 22=false:=by kernel_rfl
theorem zo:Tryz.prog.veiledRec 3=false:=by kernel_rfl
theorem Ba:Tryz.prog.veiledRec 4=false:=by kernel_rfl
end Go.Proofs.YteedbaejpdjilaaGreat
