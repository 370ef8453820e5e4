import Derived.BigQuiet
import Derived.Test.YtgbklbbknehefaaGreatDoorYal
set_option maxRecDepth 100000
set_option maxHeartbeats 8000000
set_option linter.all false
namespace Go.Proofs.YtgbklbbknehefaaGreatDoor
open Go.RowKit TS
theorem gA(w:World):Calls Tryz.prog 108 #[.bool true] w fun e a=>e= .returned (.tuple #[])∧w=a:=by
 go_enter Tryz.func108,Tryz.ntmps108;go_wp2_with fail
 go_end0
 exact⟨rfl,rfl⟩
theorem yl(b a:Nat)(s c:ByteArray)(w:World)(h:w.cell? ⟨b,0,none⟩=some (.string s))(f:w.cell? ⟨a,0,none⟩=some (.string c)):
 Calls Tryz.prog 127 #[.pointer (some ⟨b,0,none⟩),.pointer (some ⟨a,0,none⟩)] w fun e d=>e= .returned (.bool (s.toList==c.toList))∧∃n,d=w.drewN n:=by
 go_enter Tryz.func127,Tryz.ntmps127;go_wp2_with fail
 go_quiet (fail)
 go_wp2_with fail
 go_ret;exact⟨rfl,_,rfl⟩
theorem kK(w:World):Calls Tryz.prog 68 #[] w fun e a=>e= .returned (.slice (some ⟨w.heap.size+1,0,none⟩) 1 1)∧
 a=(w.alloc (.cells #[.bool false,.nilIface] 193)).alloc (.cells #[.pointer (some ⟨w.heap.size,0,none⟩)] 191):=by
 go_enter Tryz.func68,Tryz.ntmps68;go_wp2_with fail
 go_ret;exact⟨rfl,rfl⟩
theorem ym(w:World):Calls Tryz.prog 105 #[] w fun e a=>e= .returned (.pointer (some ⟨w.heap.size+2,0,none⟩))∧
 a=((w.alloc (.cells #[.bool false,.nilIface] 193)).alloc (.cells #[.pointer (some ⟨w.heap.size,0,none⟩)] 191)).alloc (.cells #[.bool false,.slice none 0 0,.slice (some ⟨w.heap.size+1,0,none⟩) 1 1,.bool false] 136):=by
 go_enter Tryz.func105,Tryz.ntmps105;go_wp2_with fail
 refine(kK _).mono ?_;rintro e a ⟨rfl,rfl⟩;go_wp2_with fail
 go_ret;exact⟨rfl,rfl⟩
abbrev cZ(ms es:Value)(comp:Bool)(a:Value):Array Value:=#[.pointer none,ms,es,.pointer none,.bool false,.bool comp,a]
theorem yo(w:World):Calls Tryz.prog 33 #[] w fun e a=>e= .returned (.pointer (some ⟨w.heap.size+3,0,none⟩))∧
 a=(((w.alloc (.cells #[.bool false,.nilIface] 193)).alloc (.cells #[.pointer (some ⟨w.heap.size,0,none⟩)] 191)).alloc (.cells #[.bool false,.slice none 0 0,.slice (some ⟨w.heap.size+1,0,none⟩) 1 1,.bool true] 136)).alloc
  (.cells (cZ (.slice none 0 0) (.slice none 0 0) true (.pointer (some ⟨w.heap.size+2,0,none⟩))) 118):=by
 go_enter Tryz.func33,Tryz.ntmps33;go_wp2_with fail
 refine(kK _).mono ?_;rintro e a ⟨rfl,rfl⟩;go_wp2_with fail
 go_ret;exact⟨rfl,rfl⟩
theorem yp(w:World):Calls Tryz.prog 167 #[.pointer none] w (Made (cZ (.slice none 0 0) (.slice none 0 0) false (.pointer none)) 118 w):=by
 go_enter Tryz.func167,Tryz.ntmps167;go_wp2_with fail
 go_ret;exact⟨rfl,rfl⟩
theorem yq(a a':Option Addr)(c c':Nat)(w:World):Calls Tryz.prog 126 #[.slice a 0 c,.slice a' 0 c'] w fun e b=>e= .returned (.pointer (some ⟨w.heap.size+3,0,none⟩))∧
 b=(((w.alloc (.cells #[.bool false,.nilIface] 193)).alloc (.cells #[.pointer (some ⟨w.heap.size,0,none⟩)] 191)).alloc (.cells #[.bool false,.slice none 0 0,.slice (some ⟨w.heap.size+1,0,none⟩) 1 1,.bool false] 136)).alloc
  (.cells (cZ (.slice none 0 0) (.slice none 0 0) true (.pointer (some ⟨w.heap.size+2,0,none⟩))) 118):=by
 go_enter Tryz.func126,Tryz.ntmps126;go_wp2_with fail
 refine(ym _).mono ?_;rintro e b ⟨rfl,rfl⟩;go_wp2_with fail
 go_ret;exact⟨rfl,rfl⟩
theorem yu(r p q:Option Addr)(w:World):Calls Tryz.prog 123 #[.pointer r,.slice none 0 0,.slice none 0 0,.pointer p,.pointer q,.bool false] w
 (Made #[.pointer r,.pointer none,.pointer p,.pointer q,.bool false] 112 w):=by
 go_enter Tryz.func123,Tryz.ntmps123;go_wp2_with fail
 go_ret;exact⟨rfl,rfl⟩
end Go.Proofs.YtgbklbbknehefaaGreatDoor
