import Derived.Test.YtgbklbbknehefaaGreatDoorYax
set_option maxRecDepth 100000
set_option maxHeartbeats 8000000
set_option linter.all false
namespace Go.Proofs.YtgbklbbknehefaaGreatDoor
open Go.RowKit TS
theorem Dj(b tb n c:Nat)(a:Option Addr)(w:World)(f:w.cell? ⟨b,0,none⟩=some (.pointer none))(g:w.cell? ⟨b,6,none⟩=some (.pointer (some ⟨tb,0,none⟩)))(h1:w.cell? ⟨tb,1,none⟩=some (.slice a n c)):
 Calls Tryz.prog 12 #[.pointer (some ⟨b,0,none⟩)] w fun e d=>e= .returned (.int .i64 n)∧w=d:=by
 have hT:=Lib.hid (gO b tb w f g);go_enter Tryz.func12,Tryz.ntmps12;go_wp2_with fail
 refine hT.out.mono ?_;rintro e d ⟨rfl,rfl⟩;go_wp2_with fail
 go_enter Tryz.func41,Tryz.ntmps41;go_wp2_with fail
 go_ret;go_wp2_with fail
theorem Dk(b tb n c i d ro f:Nat)(w:World)(h:w.cell? ⟨b,0,none⟩=some (.pointer none))(j:w.cell? ⟨b,6,none⟩=some (.pointer (some ⟨tb,0,none⟩)))(h1:w.cell? ⟨tb,1,none⟩=some (.slice (some ⟨d,ro,none⟩) n c))(hi:i<n)(l:n≤1099511627776)(hr:w.cell? ⟨d,ro+i,none⟩=some (.pointer (some ⟨f,0,none⟩))):
 Calls Tryz.prog 13 #[.pointer (some ⟨b,0,none⟩),.int .i64 i] w fun e g=>e= .returned (.pointer (some ⟨f,0,none⟩))∧w=g:=by
 have hT:=Lib.hid (gO b tb w h j);have k:(i:Int)<(n:Int):=by omega
 have a:=World.block_lt_of_cell? _ _ hr;simp only at a;go_enter Tryz.func13,Tryz.ntmps13;go_wp2_with fail
 refine hT.out.mono ?_;rintro e g ⟨rfl,rfl⟩;go_wp2_with fail
 go_enter Tryz.func42,Tryz.ntmps42;go_wp2_with fail
 go_ret;go_wp2_with fail
theorem Dm(f:Nat)(s:ByteArray)(w:World)(h:w.cell? ⟨f,2,none⟩=some (.string s)):
 Calls Tryz.prog 14 #[.pointer (some ⟨f,0,none⟩)] w fun e a=>e= .returned (.string s)∧w=a:=by
 go_enter Tryz.func14,Tryz.ntmps14;go_wp2_with fail
 go_ret;exact⟨rfl,rfl⟩
end Go.Proofs.YtgbklbbknehefaaGreatDoor
