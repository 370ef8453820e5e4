import Derived.Below
import Derived.Lib.Hide
import Derived.Test.YtkfaiocajcjomaaGreatDoorProg
import Derived.WalkKit
import Derived.WalkLawsBesides
import Derived.WalkSpells
set_option maxRecDepth 100000
set_option maxHeartbeats 8000000
set_option linter.all false
namespace Go.Proofs.YtkfaiocajcjomaaGreatDoor
open Go.RowKit
def Made(cs:Array Value)(T:TypeId)(w:World)(e:Ending)(a:World):Prop:=e= .returned (.pointer (some ⟨w.heap.size,0,none⟩))∧a=w.alloc (.cells cs T)
theorem jX(k pos:Int)(a:Option Addr)(nm:ByteArray)(b:TypeId)(ta:Option Addr)(w:World):
 Calls Tryz.prog 65 #[.int .u8 k,.int .i64 pos,.pointer a,.string nm,(.iface b (.pointer ta))] w (Made #[.int .i64 pos,.pointer a,.string nm,(.iface b (.pointer ta)),.int .u8 k,.bool false] 156 w):=by
 go_enter Tryz.func65,Tryz.ntmps65;go_wp2_with fail
 go_ret;exact⟨rfl,rfl⟩
theorem oM(pos:Int)(a:Option Addr)(nm:ByteArray)(w:World):
 Calls Tryz.prog 40 #[.int .i64 pos,.pointer a,.string nm,.nilIface] w (Made #[.int .i64 pos,.pointer a,.string nm,.nilIface] 120 w):=by
 go_enter Tryz.func40,Tryz.ntmps40;go_wp2_with fail
 go_ret;exact⟨rfl,rfl⟩
theorem x_(pos:Int)(a:Option Addr)(nm:ByteArray)(b:TypeId)(ta:Option Addr)(w:World):
 Calls Tryz.prog 118 #[.int .i64 pos,.pointer a,.string nm,(.iface b (.pointer ta))] w (Made #[.int .i64 pos,.pointer a,.string nm,(.iface b (.pointer ta)),.int .u8 4,.bool false] 156 w):=by
 go_enter Tryz.func118,Tryz.ntmps118;go_wp2_with fail
 refine(jX _ _ _ _ _ _ _).mono ?_;rintro e c ⟨rfl,rfl⟩;go_wp2_with fail
 go_ret;exact⟨rfl,rfl⟩
theorem rY(pos:Int)(a:Option Addr)(nm:ByteArray)(b:TypeId)(ta:Option Addr)(w:World):
 Calls Tryz.prog 86 #[.int .i64 pos,.pointer a,.string nm,(.iface b (.pointer ta))] w (Made #[.int .i64 pos,.pointer a,.string nm,(.iface b (.pointer ta)),.int .u8 1,.bool false] 156 w):=by
 go_enter Tryz.func86,Tryz.ntmps86;go_wp2_with fail
 refine(jX _ _ _ _ _ _ _).mono ?_;rintro e c ⟨rfl,rfl⟩;go_wp2_with fail
 go_ret;exact⟨rfl,rfl⟩
theorem yd(pos:Int)(a:Option Addr)(nm:ByteArray)(c:TypeId)(ta:Option Addr)(b:Bool)(w:World):
 Calls Tryz.prog 116 #[.int .i64 pos,.pointer a,.string nm,(.iface c (.pointer ta)),.bool b] w (Made #[.int .i64 pos,.pointer a,.string nm,(.iface c (.pointer ta)),.int .u8 6,.bool b] 156 w):=by
 go_enter Tryz.func116,Tryz.ntmps116;go_wp2_with fail
 refine(jX _ _ _ _ _ _ _).mono ?_;rintro e d ⟨rfl,rfl⟩;go_wp2_with fail
 go_ret;exact⟨rfl,rfl⟩
theorem ye(a:TypeId)(ta:Option Addr)(w:World):Calls Tryz.prog 77 #[.iface a (.pointer ta)] w (Made #[.iface a (.pointer ta)] 191 w):=by
 go_enter Tryz.func77,Tryz.ntmps77;go_wp2_with fail
 go_ret;exact⟨rfl,rfl⟩
theorem rZ(a:TypeId)(ta:Option Addr)(w:World):Calls Tryz.prog 78 #[.iface a (.pointer ta)] w (Made #[.iface a (.pointer ta)] 193 w):=by
 go_enter Tryz.func78,Tryz.ntmps78;go_wp2_with fail
 go_ret;exact⟨rfl,rfl⟩
theorem yg(a:TypeId)(ta:Option Addr)(n:Int)(w:World):Calls Tryz.prog 76 #[(.iface a (.pointer ta)),.int .i64 n] w (Made #[.int .i64 n,(.iface a (.pointer ta))] 158 w):=by
 go_enter Tryz.func76,Tryz.ntmps76;go_wp2_with fail
 go_ret;exact⟨rfl,rfl⟩
theorem yh(kt:TypeId)(ka:Option Addr)(a:TypeId)(ta:Option Addr)(w:World):Calls Tryz.prog 79 #[.iface kt (.pointer ka),(.iface a (.pointer ta))] w (Made #[.iface kt (.pointer ka),(.iface a (.pointer ta))] 195 w):=by
 go_enter Tryz.func79,Tryz.ntmps79;go_wp2_with fail
 go_ret;exact⟨rfl,rfl⟩
theorem yi(d:Int)(a:TypeId)(ta:Option Addr)(w:World):Calls Tryz.prog 80 #[.int .i64 d,(.iface a (.pointer ta))] w (Made #[.int .i64 d,(.iface a (.pointer ta))] 197 w):=by
 go_enter Tryz.func80,Tryz.ntmps80;go_wp2_with fail
 go_ret;exact⟨rfl,rfl⟩
theorem mF(b:Bool)(a:TypeId)(ta:Option Addr)(w:World):Calls Tryz.prog 120 #[.bool b,(.iface a (.pointer ta))] w (Made #[.bool b,(.iface a (.pointer ta))] 223 w):=by
 go_enter Tryz.func120,Tryz.ntmps120;go_wp2_with fail
 go_ret;exact⟨rfl,rfl⟩
theorem r7(a:Option Addr)(n c:Nat)(b:0<n)(w:World):Calls Tryz.prog 121 #[.slice a n c] w (Made #[.slice a n c] 222 w):=by
 have h:((n:Int)==0)=false:=by simp;omega
 go_enter Tryz.func121,Tryz.ntmps121;go_wp2_with fail
 go_ret;exact⟨rfl,rfl⟩
theorem r8(a:Option Addr)(n c:Nat)(b:0<n)(w:World):Calls Tryz.prog 67 #[.slice a n c] w (Made #[.slice a n c] 164 w):=by
 have h:(0:Int)<n:=by omega
 go_enter Tryz.func67,Tryz.ntmps67;go_wp2_with fail
 go_ret;exact⟨rfl,rfl⟩
theorem yj(a:Option Addr)(c:Nat)(w:World):Calls Tryz.prog 67 #[.slice a 0 c] w fun e b=>e= .returned (.pointer none)∧w=b:=by
 go_enter Tryz.func67,Tryz.ntmps67;go_wp2_with fail
 go_ret;exact⟨rfl,rfl⟩
theorem yl(s t:ByteArray)(w:World):Calls Tryz.prog 37 #[.string s,.string t] w (Made #[.string s,.string t] 86 w):=by
 go_enter Tryz.func37,Tryz.ntmps37;go_wp2_with fail
 go_ret;exact⟨rfl,rfl⟩
theorem mG(pos:Int)(b:Option Addr)(nm:ByteArray)(a:Addr)(w:World):
 Calls Tryz.prog 68 #[.int .i64 pos,.pointer b,.string nm,.pointer (some a)] w (Made #[.int .i64 pos,.pointer b,.string nm,.iface 94 (.pointer (some a)),.bool false,.bool false] 166 w):=by
 go_enter Tryz.func68,Tryz.ntmps68;go_wp2_with fail
 go_ret;exact⟨rfl,rfl⟩
theorem ym(n:Int)(w:World):Calls Tryz.prog 81 #[.int .i64 n] w fun e a=>e= .returned (.int .i64 (if n=1 then 1 else if n=2 then 2 else 0))∧w=a:=by
 by_cases h1:n=1
 ·subst h1
  go_enter Tryz.func81,Tryz.ntmps81;go_wp2_with fail
  go_ret;exact⟨rfl,rfl⟩
 ·by_cases h2:n=2
  ·subst h2
   go_enter Tryz.func81,Tryz.ntmps81;go_wp2_with fail
   go_ret;exact⟨rfl,rfl⟩
  ·have b:(n==1)=false:=by simp[h1]
   have c:(n==2)=false:=by simp[h2]
   have hr:(if n=1 then(1:Int)else if n=2 then 2 else 0)=0:=by rw[if_neg h1,if_neg h2]
   rw[hr];clear h1 h2 hr;go_enter Tryz.func81,Tryz.ntmps81;go_wp2_with fail
   go_ret;exact⟨rfl,rfl⟩
end Go.Proofs.YtkfaiocajcjomaaGreatDoor
