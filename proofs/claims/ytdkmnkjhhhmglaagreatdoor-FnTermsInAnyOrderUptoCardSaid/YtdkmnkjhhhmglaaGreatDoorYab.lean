import Derived.Carry
import Derived.Deep.DeepHandedRow
import Derived.Lay
import Derived.Lib.LaidTab
import Derived.MakeChecks
import Derived.OpenShut
import Derived.ProofKit
import Derived.Stop.LaidErr
import Derived.Test.YtdkmnkjhhhmglaaGreatDoorChecked
import Derived.Test.YtdkmnkjhhhmglaaGreatDoorRows
import Derived.WalkKit
set_option maxRecDepth 100000
set_option maxHeartbeats 8000000
set_option linter.all false
namespace Go.Proofs.YtdkmnkjhhhmglaaGreatDoor
open Go.ChangeShapes Go.WideShapes Go.ChangeAt Go.RowKit
theorem own:ownKnob Tryz.prog.godebug=none:=by kernel_rfl
theorem laidOut:laidOutB Tryz.prog=true:=by kernel_rfl
theorem nN:Tryz.prog.globalNamed "unicode.properties" =some 5:=by kernel_rfl
theorem sq:(Tryz.prog.globals[5]?).map (·.type)=some 328:=by kernel_rfl
theorem sr:Tryz.prog.cellsOf 328=256:=by kernel_rfl
theorem ss:Tryz.prog.cellsOf 5=1:=by kernel_rfl
def props:List Int:= [1,1,1,1,1,1,1,1,1,1,1,1,1,1,1,1,1,1,1,1,1,1,1,1,1,1,1,1,1,1,1,1,144,130,130,130,136,130,130,130,130,130,130,136,130,130,130,130,132,132,132,132,132,132,132,132,132,132,130,130,136,136,136,130,130,160,160,160,160,160,160,160,160,160,160,160,160,160,160,160,160,160,160,160,160,160,160,160,160,160,160,130,130,130,136,130,136,192,192,192,192,192,192,192,192,192,192,192,192,192,192,192,192,192,192,192,192,192,192,192,192,192,192,130,136,130,136,1,1,1,1,1,1,1,1,1,1,1,1,1,1,1,1,1,1,1,1,1,1,1,1,1,1,1,1,1,1,1,1,1,16,130,136,136,136,136,136,130,136,136,224,130,136,0,136,136,136,136,132,132,136,192,130,130,136,132,224,130,132,132,132,130,160,160,160,160,160,160,160,160,160,160,160,160,160,160,160,160,160,160,160,160,160,160,160,136,160,160,160,160,160,160,160,192,192,192,192,192,192,192,192,192,192,192,192,192,192,192,192,192,192,192,192,192,192,192,192,136,192,192,192,192,192,192,192,192]
theorem su:∀c,c<91→65≤c→props.getD c 0=160:=by decide
def nothing:Array Value:=#[.slice none 0 0,.agg #[.int .i64 0,.int .i64 0,.int .i64 0,.bool false,.string ByteArray.empty,.string ByteArray.empty,.slice none 0 0],.agg #[.int .i64 0,.int .i64 0,.int .i64 0,.bool false,.string ByteArray.empty,.string ByteArray.empty,.slice none 0 0]]
noncomputable def ie(os:Os):World:=World.laidAll Tryz.prog os Rows.fnTermsInAnyOrderUptoRow.laid
theorem sv(os:Os):((ie os).forCall (fun _ _=>0) ⟨#[],nothing,[]⟩).Shaped Tryz.prog:=World.shaped_of_ZipB (by kernel_rfl) (by kernel_rfl)
theorem sw(os:Os):laidMetH Tryz.prog Rows.fnTermsInAnyOrderUptoRow.laid ((ie os).forCall (fun _ _=>0) ⟨#[],nothing,[]⟩).memory:=by
 rw[MakeChecks.laidMetH_plain _ _ _ (by kernel_rfl)];exact laidMet_laidAll _ (by kernel_rfl) (by kernel_rfl)
theorem nO(os:Os):Input.okWideB Tryz.prog ((ie os).forCall (fun _ _=>0) ⟨#[],nothing,[]⟩) 4 ⟨#[],nothing,[]⟩=true:=by kernel_rfl
theorem sC(os:Os){H:Type}(enc:TypeId×Value→H):DataW.whole enc Tryz.prog ((ie os).forCall (fun _ _=>0) ⟨#[],nothing,[]⟩).memory Tryz.f4.params.toList Rows.fnTermsInAnyOrderSpec.vars false nothing.toList 8=
 some ([.nil,.agg [.lit (.int .i64 0),.lit (.int .i64 0),.lit (.int .i64 0),.lit (.bool false),.lit (.string []),.lit (.string []),.nil],.agg [.lit (.int .i64 0),.lit (.int .i64 0),.lit (.int .i64 0),.lit (.bool false),.lit (.string []),.lit (.string []),.nil]],[],[]):=by kernel_rfl
end Go.Proofs.YtdkmnkjhhhmglaaGreatDoor
