import Derived.Test.YtgbklbbknehefaaGreatDoorYaq
set_option maxRecDepth 100000
set_option maxHeartbeats 8000000
set_option linter.all false
namespace Go.Proofs.YtgbklbbknehefaaGreatDoor
open Go.RowKit TS
theorem rO(b:Nat)(pk:Option Addr)(s:ByteArray)(w:World)(h:w.cell? ⟨b,0,none⟩=some (.pointer pk)):
 Calls Tryz.prog 34 #[.pointer (some ⟨b,0,none⟩),.string s] w (Made #[.int .i64 0,.pointer pk,.string s,.nilIface] 131 w):=by
 go_enter Tryz.func34,Tryz.ntmps34;go_wp2_with fail
 refine(oi _ _ _ _).mono ?_;rintro e a ⟨rfl,rfl⟩;go_wp2_with fail
 go_ret;exact⟨rfl,rfl⟩
end Go.Proofs.YtgbklbbknehefaaGreatDoor
