import Derived.Test.YtdkmnkjhhhmglaaGreatDoorCards
import Derived.Test.YtdkmnkjhhhmglaaGreatDoorTie
import Derived.Test.YtdkmnkjhhhmglaaGreatDoorYab
set_option maxRecDepth 100000
set_option maxHeartbeats 8000000
set_option linter.all false
namespace Go.Proofs.YtdkmnkjhhhmglaaGreatDoor
open Go.ChangeShapes Go.WideShapes Go.ChangeAt Go.RowKit
def kT:Prop:=∀(H:Type)(enc:TypeId×Value→H)(W:World)(base:Nat)(args:Array Value)(ds gs:List (DataW H))(before:List MemPlace)(a:∀(j:Nat) t v,Tryz.f4.params[j]?=some t→args[j]?=some v→Value.okWide Tryz.prog W .any base t v)(c:DataW.Whole enc Tryz.prog Tryz.f4.params.toList Rows.fnTermsInAnyOrderSpec.vars false W args.toList ds gs before)(hk:Rows.uptoSmall H (ds++gs)=true)(d:laidMetH Tryz.prog Rows.fnTermsInAnyOrderUptoRow.laid W),
 Calls Tryz.prog 4 args W fun e b=> ∃v,e= .returned v∧Rows.fnTermsInAnyOrderSpec.post enc Tryz.prog Tryz.f4 false true false false W args v b
theorem lifted(c:kT)(os:Os)(started:os.Started)(H:Type)(enc:TypeId×Value→H)(F:Stop.Interp):
 ReturnsInHanded {} Tryz.checked os 4 .any ((Rows.OpenSpec.upto Rows.fnTermsInAnyOrderSpec).preRow enc Tryz.prog Tryz.f4 Rows.fnTermsInAnyOrderUptoRow.domain false Rows.fnTermsInAnyOrderUptoRow.laid) (((Rows.OpenSpec.upto Rows.fnTermsInAnyOrderSpec).at F).post enc Tryz.prog Tryz.f4 false true false false):=by
 refine returnsInHanded_of_row (C:=Tryz.checked) (s:=Rows.OpenSpec.upto Rows.fnTermsInAnyOrderSpec) own started (by kernel_rfl) Tryz.func4
  ⟨ie os,fun _ _=>0,⟨#[],nothing,[]⟩,World.laidAll_os _ _ _,sv os,(Input.okWide_of_okWideB (base:=0) (nO os)).1,(Input.okWide_of_okWideB (nO os)).2,
   OpenSpec.preRow_of_cond 8 (sC os enc) (by kernel_rfl) (fun k hk=>by cases hk;kernel_rfl) (by kernel_rfl) (sw os),by
    simp only[Assume.holds];exact⟨by simp,by simp,fun _=>Modest.zero,by simp,by simp⟩⟩ ?_
 intro W base args ds gs before b d _ a _ e _ _;exact c H enc W base args ds gs before b d (a _ rfl) e
theorem sD(a:kT):Rows.FnTermsInAnyOrderUptoSaid:=
 OpenClaim.holds_of_cond 4 Tryz.f4 rfl rfl rfl rfl rfl rfl rfl ⟨rfl,rfl,rfl,rfl,rfl⟩ rfl rfl rfl rfl rfl (by kernel_rfl) Tryz.func4 (by kernel_rfl)
  (of_decide_eq_true (by kernel_rfl)) (by unfold Func.isWrapper;first|(rw[if_pos (by decide+kernel)];kernel_rfl)|(rw[if_neg (by decide+kernel)];exact⟨rfl,rfl⟩))
  (fun os started H enc _ F=>by rw[OpenClaim.pre_eq_preRow];exact lifted a os started H enc F)
theorem plain(f:FuncId)(fn:Func)(d:Tryz.pinned.checked.prog.funcNamed Rows.fnTermsInAnyOrderUptoRow.func=some f)(b:Tryz.pinned.checked.prog.funcs[f]?=some fn):
 true=Tryz.pinned.checked.prog.looks []∧∀(j:Nat) t,fn.params[j]?=some t→Tryz.pinned.checked.prog.wantsStandIn t=false:=by
 obtain rfl:f=4:=Option.some.inj ((show Tryz.prog.funcNamed Rows.fnTermsInAnyOrderUptoRow.func=some 4 by kernel_rfl).symm.trans d)|>.symm
 obtain rfl:fn=Tryz.f4:=(Option.some.inj (Tryz.func4.symm.trans b)).symm;refine⟨by kernel_rfl,fun j t c=> ?_⟩;rw[Tryz.params4]at c;have hm:t∈ [22,25]:=by simpa using Array.mem_of_getElem? c
 have a:([22,25].all fun u=> !Tryz.prog.wantsStandIn u)=true:=by kernel_rfl
 exact(show Tryz.prog.wantsStandIn t=false by simpa using List.all_eq_true.1 a t hm)
theorem sE(a:kT):Rows.FnTermsInAnyOrderUptoCardSaid:=
 Claim7.holds_tied_plain_at .later [] _ _ _ _ (sD a) (fun _ h=>by cases h) (by kernel_rfl) (fun _ h=>by cases h) fnTermsInAnyOrderUpto_row_tie rfl ⟨rfl,rfl⟩ (by kernel_rfl) rfl plain (by kernel_rfl)
end Go.Proofs.YtdkmnkjhhhmglaaGreatDoor
