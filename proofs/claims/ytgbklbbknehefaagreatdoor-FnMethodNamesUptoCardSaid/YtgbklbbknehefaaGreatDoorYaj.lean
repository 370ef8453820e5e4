import Derived.Conc.MuData
import Derived.Conc.MuLone
import Derived.Laws.LoneSync
import Derived.Test.YtgbklbbknehefaaGreatDoorYai
set_option maxRecDepth 100000
set_option maxHeartbeats 8000000
set_option linter.all false
namespace Go.Proofs.YtgbklbbknehefaaGreatDoor
open Go.RowKit
abbrev xQ:Go.Conc.Locks.MuLink:={lock:=69,unlock:=70,ilock:=115,iunlock:=116,lockSlow:=157,unlockSlow:=160,disable:=153,enable:=155,acquire:=156,relMerge:=158,cas32:=154,add32:=159,tMutex:=127,tIMutex:=125,tPMutex:=199,tPIMutex:=247,tPI32:=249,tUP:=251,tNoCopy:=122,tU32:=123}
theorem rF:Go.Conc.Locks.MuLib Tryz.prog xQ:=
 ⟨Tryz.func69,Tryz.func70,Tryz.func115,Tryz.func116,Tryz.func153,Tryz.func155,Tryz.func156,Tryz.func158,Tryz.func154,Tryz.func159,Tryz.underlying125,Tryz.runUnderlying125,Tryz.sizeOf125,Tryz.isAgg125,Tryz.zeroValue125,Tryz.underlying127,Tryz.runUnderlying127,Tryz.sizeOf127,Tryz.isAgg127,Tryz.zeroValue127,Tryz.underlying199,Tryz.runUnderlying199,Tryz.sizeOf199,Tryz.isAgg199,Tryz.zeroValue199,Tryz.underlying247,Tryz.runUnderlying247,Tryz.sizeOf247,Tryz.isAgg247,Tryz.zeroValue247,Tryz.underlying249,Tryz.runUnderlying249,Tryz.sizeOf249,Tryz.isAgg249,Tryz.zeroValue249,Tryz.underlying251,Tryz.runUnderlying251,Tryz.sizeOf251,Tryz.isAgg251,Tryz.zeroValue251,Tryz.underlying122,Tryz.runUnderlying122,Tryz.sizeOf122,Tryz.isAgg122,Tryz.zeroValue122,Tryz.underlying21,Tryz.runUnderlying21,Tryz.sizeOf21,Tryz.isAgg21,Tryz.zeroValue21,(by kernel_rfl)⟩
theorem rG{P:Program}{f:FuncId}{fn:Func}(d:P.funcs[f]?=some fn)(b:(fn.name== "runtime.NumGoroutine")=false)(e:fn.body.isNone=true)(g:Extern.findNext fn=none)(k:IntKind)
 (he:Extern.find fn=some (Extern.Atomic.update (Op.intBits .or) k false)){a:Addr}{x y s:Int}{w:World}(h:w.cell? a=some (.int k x))(i:w.frozen? a=false)
 (j:(Op.intBits .or k x y).run P w= .ok (.int k s) w):
 (callFunc f #[.pointer (some a),.int k y]).run P w= .ok (.value (.int k x)) (w.setCell a (.int k s)):=by
 rw[run_callFunc_extern d b e g he]
 change (Sem.run P (do
  let a'←asAddr (.pointer (some a))
  let c←Extern.Atomic.read (.int k) a'
  let new←Op.intBits .or k (←asInt c) (←asInt (.int k y))
  store a' new .atomic
  pure (if false=true then new else c)) w).andThen _=_
 simp[Extern.Atomic.read,asAddr,asInt,asIntOf,h,i,j,run_store P w a (.int k s) .atomic rfl,Result.andThen]
theorem xR(b o:Nat)(w:World)(a:w.cell? ⟨b,o+5,none⟩=some (.int .u32 0))(c:w.frozen? ⟨b,o+5,none⟩=false):
 Calls Tryz.prog 71 #[.pointer (some ⟨b,o,none⟩),.int .u32 7] w fun e d=>e= .returned (.tuple #[])∧d=w.setCell ⟨b,o+5,none⟩ (.int .u32 7):=by
 have f:=rG (P:=Tryz.prog) Tryz.func117 (by kernel_rfl) (by kernel_rfl) (by kernel_rfl) .u32 (by kernel_rfl) (x:=0) (y:=7) (s:=7) a c rfl;go_enter Tryz.func71,Tryz.ntmps71;go_wp2
 go_end0
 exact⟨rfl,rfl⟩
theorem xS(b o:Nat)(w:World)(a:w.cell? ⟨b,o+5,none⟩=some (.int .u32 7))(c:w.frozen? ⟨b,o+5,none⟩=false):
 Calls Tryz.prog 71 #[.pointer (some ⟨b,o,none⟩),.int .u32 8] w fun e d=>e= .returned (.tuple #[])∧d=w.setCell ⟨b,o+5,none⟩ (.int .u32 15):=by
 have f:=rG (P:=Tryz.prog) Tryz.func117 (by kernel_rfl) (by kernel_rfl) (by kernel_rfl) .u32 (by kernel_rfl) (x:=7) (y:=8) (s:=15) a c rfl;go_enter Tryz.func71,Tryz.ntmps71;go_wp2
 go_end0
 exact⟨rfl,rfl⟩
theorem rH(b o:Nat)(m:Int)(hm:m=3∨m=8)(w:World)(a:w.cell? ⟨b,o+5,none⟩=some (.int .u32 15)):
 Calls Tryz.prog 168 #[.pointer (some ⟨b,o,none⟩),.int .u32 m] w fun e c=>e= .returned (.bool true)∧w=c:=by
 have d:=run_call_load (P:=Tryz.prog) Tryz.func193 (by kernel_rfl) (by kernel_rfl) (by kernel_rfl) .u32 (by kernel_rfl) a;rcases hm with rfl|rfl<;>(go_enter Tryz.func168,Tryz.ntmps168;go_wp2;go_ret;exact⟨rfl,rfl⟩)
theorem xU(b:Nat)(v:Value)(w:World)(c:w.cell? ⟨b,6,none⟩=some v):
 Calls Tryz.prog 271 #[.pointer (some ⟨b,0,none⟩)] w fun e a=>e= .returned v∧w=a:=by
 go_enter Tryz.func271,Tryz.ntmps271;go_wp2
 go_ret;exact⟨rfl,rfl⟩
theorem rI(b:Nat)(w:World)(a:w.cell? ⟨b,5,none⟩=some (.int .u32 15)):
 Calls Tryz.prog 128 #[.pointer (some ⟨b,0,none⟩)] w fun e c=>e= .returned (.pointer (some ⟨b,0,none⟩))∧w=c:=by
 go_enter Tryz.func128,Tryz.ntmps128;go_wp2_with fail
 refine(rH b 0 3 (Or.inl rfl) _ (by simpa using a)).mono ?_;rintro d f ⟨rfl,rfl⟩;go_wp2_with fail
 go_ret;exact⟨rfl,rfl⟩
end Go.Proofs.YtgbklbbknehefaaGreatDoor
