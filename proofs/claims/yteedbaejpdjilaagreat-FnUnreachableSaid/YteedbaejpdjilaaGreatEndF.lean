/- Part of the proof: EndF. -/
import Derived.Test.YteedbaejpdjilaaGreatRows
import Derived.ProofKit
import Derived.SizedLaws
set_option linter.unusedSimpArgs false
set_option linter.unusedVariables false
set_option maxRecDepth 100000
set_option maxHeartbeats 40000000
namespace Go.Proofs.YteedbaejpdjilaaGreat
open Go.RowKit
theorem Tryz.own:ownKnob Tryz.prog.godebug=none:=by kernel_rfl
theorem Tryz.laidOut:laidOutB Tryz.prog=true:=by kernel_rfl
theorem row22:Tryz.prog.readableRec 22=true:=by kernel_rfl
theorem lt22:22 < Tryz.prog.types.size:=of_decide_eq_true (by kernel_rfl)
theorem c_maps:mapsRowed Tryz.prog=true:=by kernel_rfl
theorem c_read3:Tryz.prog.readableRec 3=true:=by kernel_rfl
theorem c_read4:Tryz.prog.readableRec 4=true:=by kernel_rfl
theorem c_lt4:decide (4 < Tryz.prog.types.size)=true:=by kernel_rfl
theorem c_stops:Tryz.prog.stops= []:=by kernel_rfl
theorem c_stopKnobs:Tryz.prog.stopKnobs= []:=by kernel_rfl
theorem c_maps22:Tryz.prog.mapsRec 22=false:=by kernel_rfl
theorem c_maps3:Tryz.prog.mapsRec 3=false:=by kernel_rfl
theorem c_ifs22:Tryz.prog.ifacesRec 22=false:=by kernel_rfl
theorem c_ifs3:Tryz.prog.ifacesRec 3=false:=by kernel_rfl
theorem c_ifs4:Tryz.prog.ifacesRec 4=false:=by kernel_rfl
theorem c_among:Tryz.prog.mapsAmong [4]=false:=by kernel_rfl
theorem c_loops22:Tryz.prog.loopsFrom 22=true:=by kernel_rfl
theorem c_loops4:Tryz.prog.loopsFrom 4=false:=by kernel_rfl
theorem c_keys22:Tryz.prog.wideKeysFrom 22=false:=by kernel_rfl
theorem c_keys3:Tryz.prog.wideKeysFrom 3=false:=by kernel_rfl
theorem c_keys4:Tryz.prog.wideKeysFrom 4=false:=by kernel_rfl
theorem c_plain:(Rows.fnKindsRow.plainKeys==Tryz.prog.plainKeys)=true:=by kernel_rfl
theorem c_heard:Tryz.prog.stopsHeard=true:=by kernel_rfl
theorem c_enter:Tryz.prog.mayEnter=true:=by kernel_rfl
theorem c_lifted:(Rows.fnKindsRow.lifted==Tryz.prog.liftsFinal)=true:=by kernel_rfl
theorem c_make:(Tryz.prog.make==some Rows.fnKindsRow.make)=true:=by kernel_rfl
theorem c_veil22:Tryz.prog.veiledRec 22=false:=by kernel_rfl
theorem c_veil3:Tryz.prog.veiledRec 3=false:=by kernel_rfl
theorem c_veil4:Tryz.prog.veiledRec 4=false:=by kernel_rfl
end Go.Proofs.YteedbaejpdjilaaGreat
