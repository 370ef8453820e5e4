import Derived.Test.YtkochlhejabdcaaGreatDoorCards
import Derived.Test.YtkochlhejabdcaaGreatDoorTie
import Derived.Test.YtkochlhejabdcaaGreatDoorYae
set_option maxRecDepth 100000
set_option maxHeartbeats 8000000
set_option linter.all false
namespace Go.Proofs.YtkochlhejabdcaaGreatDoor
open Go.ChangeShapes Go.WideShapes Go.ChangeAt Go.RowKit
def se:Prop:=∀(H:Type)(enc:TypeId×Value→H)(W:World)(base:Nat)(args:Array Value)(ds gs:List (DataW H))(before:List MemPlace)(a:∀(j:Nat) t v,Tryz.f3.params[j]?=some t→args[j]?=some v→Value.okWide Tryz.prog W .any base t v)(c:DataW.Whole enc Tryz.prog Tryz.f3.params.toList Rows.fnEmptySpec.vars false W args.toList ds gs before)(hk:Rows.uptoSmall H (ds++gs)=true)(d:laidMetH Tryz.prog Rows.fnEmptyUptoRow.laid W),
 Calls Tryz.prog 3 args W fun e b=> ∃v,e= .returned v∧Rows.fnEmptySpec.post enc Tryz.prog Tryz.f3 false true false false W args v b
theorem lifted(c:se)(os:Os)(started:os.Started)(H:Type)(enc:TypeId×Value→H)(F:Stop.Interp):
 ReturnsInHanded {} Tryz.checked os 3 .any ((Rows.OpenSpec.upto Rows.fnEmptySpec).preRow enc Tryz.prog Tryz.f3 Rows.fnEmptyUptoRow.domain false Rows.fnEmptyUptoRow.laid) (((Rows.OpenSpec.upto Rows.fnEmptySpec).at F).post enc Tryz.prog Tryz.f3 false true false false):=by
 refine returnsInHanded_of_row (C:=Tryz.checked) (s:=Rows.OpenSpec.upto Rows.fnEmptySpec) own started (by kernel_rfl) Tryz.func3
  ⟨nr os,fun _ _=>0,⟨#[],nothing,[]⟩,World.laidAll_os _ _ _,HK os,(Input.okWide_of_okWideB (base:=0) (yd os)).1,(Input.okWide_of_okWideB (yd os)).2,
   OpenSpec.preRow_of_cond 8 (HM os enc) (by kernel_rfl) (fun k hk=>by cases hk;kernel_rfl) (by kernel_rfl) (HL os),by
    simp only[Assume.holds];exact⟨by simp,by simp,fun _=>Modest.zero,by simp,by simp⟩⟩ ?_
 intro W base args ds gs before b d _ a _ e _ _;exact c H enc W base args ds gs before b d (a _ rfl) e
theorem HN(a:se):Rows.FnEmptyUptoSaid:=
 OpenClaim.holds_of_cond 3 Tryz.f3 rfl rfl rfl rfl rfl rfl rfl ⟨rfl,rfl,rfl,rfl,rfl⟩ rfl rfl rfl rfl rfl (by kernel_rfl) Tryz.func3 HW
  (of_decide_eq_true (by kernel_rfl)) (by unfold Func.isWrapper;first|(rw[if_pos (by decide+kernel)];kernel_rfl)|(rw[if_neg (by decide+kernel)];exact⟨rfl,rfl⟩))
  (fun os started H enc _ F=>by rw[OpenClaim.pre_eq_preRow];exact lifted a os started H enc F)
theorem plain(f:FuncId)(fn:Func)(d:Tryz.pinned.checked.prog.funcNamed Rows.fnEmptyUptoRow.func=some f)(b:Tryz.pinned.checked.prog.funcs[f]?=some fn):
 true=Tryz.pinned.checked.prog.looks []∧∀(j:Nat) t,fn.params[j]?=some t→Tryz.pinned.checked.prog.wantsStandIn t=false:=by
 obtain rfl:f=3:=Option.some.inj ((show Tryz.prog.funcNamed Rows.fnEmptyUptoRow.func=some 3 by kernel_rfl).symm.trans d)|>.symm
 obtain rfl:fn=Tryz.f3:=(Option.some.inj (Tryz.func3.symm.trans b)).symm;refine⟨by kernel_rfl,fun j t c=> ?_⟩;rw[Tryz.params3]at c;have hm:t∈ [22,25]:=by simpa using Array.mem_of_getElem? c
 have a:([22,25].all fun u=> !Tryz.prog.wantsStandIn u)=true:=by kernel_rfl
 exact(show Tryz.prog.wantsStandIn t=false by simpa using List.all_eq_true.1 a t hm)
theorem HO(a:se):Rows.FnEmptyUptoCardSaid:=
 Claim7.holds_tied_plain_at .later [] _ _ _ _ (HN a) (fun _ h=>by cases h) (by kernel_rfl) (fun _ h=>by cases h) fnEmptyUpto_row_tie rfl ⟨rfl,rfl⟩ (by kernel_rfl) rfl plain (by kernel_rfl)
end Go.Proofs.YtkochlhejabdcaaGreatDoor
