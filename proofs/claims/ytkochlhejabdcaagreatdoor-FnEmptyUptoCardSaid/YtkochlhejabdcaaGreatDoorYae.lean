import Derived.Carry
import Derived.Deep.DeepHandedRow
import Derived.JoinedCond
import Derived.Lay
import Derived.Lib.LaidTab
import Derived.MakeChecks
import Derived.OpenShut
import Derived.ProofKit
import Derived.Stop.LaidErr
import Derived.Test.YtkochlhejabdcaaGreatDoorChecked
import Derived.Test.YtkochlhejabdcaaGreatDoorRows
import Derived.WalkKit
set_option maxRecDepth 100000
set_option maxHeartbeats 8000000
set_option linter.all false
namespace Go.Proofs.YtkochlhejabdcaaGreatDoor
open Go.ChangeShapes Go.WideShapes Go.ChangeAt Go.RowKit
theorem own:ownKnob Tryz.prog.godebug=none:=by kernel_rfl
theorem laidOut:laidOutB Tryz.prog=true:=by kernel_rfl
theorem x_:Tryz.prog.globalNamed "unicode.properties" =some 5:=by kernel_rfl
theorem HF:(Tryz.prog.globals[5]?).map (·.type)=some 337:=by kernel_rfl
theorem HG:Tryz.prog.cellsOf 337=256:=by kernel_rfl
theorem HI:Tryz.prog.cellsOf 5=1:=by kernel_rfl
def props:List Int:= [1,1,1,1,1,1,1,1,1,1,1,1,1,1,1,1,1,1,1,1,1,1,1,1,1,1,1,1,1,1,1,1,144,130,130,130,136,130,130,130,130,130,130,136,130,130,130,130,132,132,132,132,132,132,132,132,132,132,130,130,136,136,136,130,130,160,160,160,160,160,160,160,160,160,160,160,160,160,160,160,160,160,160,160,160,160,160,160,160,160,160,130,130,130,136,130,136,192,192,192,192,192,192,192,192,192,192,192,192,192,192,192,192,192,192,192,192,192,192,192,192,192,192,130,136,130,136,1,1,1,1,1,1,1,1,1,1,1,1,1,1,1,1,1,1,1,1,1,1,1,1,1,1,1,1,1,1,1,1,1,16,130,136,136,136,136,136,130,136,136,224,130,136,0,136,136,136,136,132,132,136,192,130,130,136,132,224,130,132,132,132,130,160,160,160,160,160,160,160,160,160,160,160,160,160,160,160,160,160,160,160,160,160,160,160,136,160,160,160,160,160,160,160,192,192,192,192,192,192,192,192,192,192,192,192,192,192,192,192,192,192,192,192,192,192,192,192,136,192,192,192,192,192,192,192,192]
theorem HJ:∀c,c<91→65≤c→props.getD c 0=160:=by decide
def nothing:Array Value:=#[.slice none 0 0,.agg #[.int .i64 0,.int .i64 0,.int .i64 0,.bool false,.string ByteArray.empty,.string ByteArray.empty,.slice none 0 0]]
noncomputable def nr(os:Os):World:=World.laidAll Tryz.prog os Rows.fnEmptyUptoRow.laid
theorem HK(os:Os):((nr os).forCall (fun _ _=>0) ⟨#[],nothing,[]⟩).Shaped Tryz.prog:=World.shaped_of_ZipB (by kernel_rfl) (by kernel_rfl)
theorem HL(os:Os):laidMetH Tryz.prog Rows.fnEmptyUptoRow.laid ((nr os).forCall (fun _ _=>0) ⟨#[],nothing,[]⟩).memory:=by
 rw[MakeChecks.laidMetH_plain _ _ _ (by kernel_rfl)];exact laidMet_laidAll _ (by kernel_rfl) (by kernel_rfl)
theorem yd(os:Os):Input.okWideB Tryz.prog ((nr os).forCall (fun _ _=>0) ⟨#[],nothing,[]⟩) 3 ⟨#[],nothing,[]⟩=true:=by kernel_rfl
theorem HM(os:Os){H:Type}(enc:TypeId×Value→H):DataW.whole enc Tryz.prog ((nr os).forCall (fun _ _=>0) ⟨#[],nothing,[]⟩).memory Tryz.f3.params.toList Rows.fnEmptySpec.vars false nothing.toList 8=
 some ([.nil,.agg [.lit (.int .i64 0),.lit (.int .i64 0),.lit (.int .i64 0),.lit (.bool false),.lit (.string []),.lit (.string []),.nil]],[],[]):=by kernel_rfl
end Go.Proofs.YtkochlhejabdcaaGreatDoor
namespace Go.Proofs.YtkochlhejabdcaaGreatDoor
theorem HW:joinedFacts Tryz.pinned.checked.prog 3 Tryz.f3 (Rows.OpenSpec.upto Rows.fnEmptySpec).bare Rows.fnEmptyUptoRow=true:=by kernel_rfl
end Go.Proofs.YtkochlhejabdcaaGreatDoor
