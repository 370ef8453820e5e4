import Derived.Below
import Derived.Lib.Hide
import Derived.Test.YtgbklbbknehefaaGreatDoorProg
import Derived.WalkKit
import Derived.WalkLawsBesides
import Derived.WalkSpells
set_option maxRecDepth 100000
set_option maxHeartbeats 8000000
set_option linter.all false
namespace Go.Proofs.YtgbklbbknehefaaGreatDoor
open Go.RowKit
def Made(cs:Array Value)(T:TypeId)(w:World)(e:Ending)(a:World):Prop:=e= .returned (.pointer (some ⟨w.heap.size,0,none⟩))∧a=w.alloc (.cells cs T)
theorem jL(k pos:Int)(a:Option Addr)(nm:ByteArray)(b:TypeId)(ta:Option Addr)(w:World):
 Calls Tryz.prog 62 #[.int .u8 k,.int .i64 pos,.pointer a,.string nm,(.iface b (.pointer ta))] w (Made #[.int .i64 pos,.pointer a,.string nm,(.iface b (.pointer ta)),.int .u8 k,.bool false] 170 w):=by
 go_enter Tryz.func62,Tryz.ntmps62;go_wp2_with fail
 go_ret;exact⟨rfl,rfl⟩
theorem oi(pos:Int)(a:Option Addr)(nm:ByteArray)(w:World):
 Calls Tryz.prog 32 #[.int .i64 pos,.pointer a,.string nm,.nilIface] w (Made #[.int .i64 pos,.pointer a,.string nm,.nilIface] 131 w):=by
 go_enter Tryz.func32,Tryz.ntmps32;go_wp2_with fail
 go_ret;exact⟨rfl,rfl⟩
theorem xw(pos:Int)(a:Option Addr)(nm:ByteArray)(b:TypeId)(ta:Option Addr)(w:World):
 Calls Tryz.prog 122 #[.int .i64 pos,.pointer a,.string nm,(.iface b (.pointer ta))] w (Made #[.int .i64 pos,.pointer a,.string nm,(.iface b (.pointer ta)),.int .u8 4,.bool false] 170 w):=by
 go_enter Tryz.func122,Tryz.ntmps122;go_wp2_with fail
 refine(jL _ _ _ _ _ _ _).mono ?_;rintro e c ⟨rfl,rfl⟩;go_wp2_with fail
 go_ret;exact⟨rfl,rfl⟩
theorem rA(pos:Int)(a:Option Addr)(nm:ByteArray)(b:TypeId)(ta:Option Addr)(w:World):
 Calls Tryz.prog 83 #[.int .i64 pos,.pointer a,.string nm,(.iface b (.pointer ta))] w (Made #[.int .i64 pos,.pointer a,.string nm,(.iface b (.pointer ta)),.int .u8 1,.bool false] 170 w):=by
 go_enter Tryz.func83,Tryz.ntmps83;go_wp2_with fail
 refine(jL _ _ _ _ _ _ _).mono ?_;rintro e c ⟨rfl,rfl⟩;go_wp2_with fail
 go_ret;exact⟨rfl,rfl⟩
theorem xx(pos:Int)(a:Option Addr)(nm:ByteArray)(c:TypeId)(ta:Option Addr)(b:Bool)(w:World):
 Calls Tryz.prog 120 #[.int .i64 pos,.pointer a,.string nm,(.iface c (.pointer ta)),.bool b] w (Made #[.int .i64 pos,.pointer a,.string nm,(.iface c (.pointer ta)),.int .u8 6,.bool b] 170 w):=by
 go_enter Tryz.func120,Tryz.ntmps120;go_wp2_with fail
 refine(jL _ _ _ _ _ _ _).mono ?_;rintro e d ⟨rfl,rfl⟩;go_wp2_with fail
 go_ret;exact⟨rfl,rfl⟩
theorem xy(a:TypeId)(ta:Option Addr)(w:World):Calls Tryz.prog 74 #[.iface a (.pointer ta)] w (Made #[.iface a (.pointer ta)] 205 w):=by
 go_enter Tryz.func74,Tryz.ntmps74;go_wp2_with fail
 go_ret;exact⟨rfl,rfl⟩
theorem rB(a:TypeId)(ta:Option Addr)(w:World):Calls Tryz.prog 75 #[.iface a (.pointer ta)] w (Made #[.iface a (.pointer ta)] 207 w):=by
 go_enter Tryz.func75,Tryz.ntmps75;go_wp2_with fail
 go_ret;exact⟨rfl,rfl⟩
theorem xz(a:TypeId)(ta:Option Addr)(n:Int)(w:World):Calls Tryz.prog 73 #[(.iface a (.pointer ta)),.int .i64 n] w (Made #[.int .i64 n,(.iface a (.pointer ta))] 203 w):=by
 go_enter Tryz.func73,Tryz.ntmps73;go_wp2_with fail
 go_ret;exact⟨rfl,rfl⟩
theorem xA(kt:TypeId)(ka:Option Addr)(a:TypeId)(ta:Option Addr)(w:World):Calls Tryz.prog 76 #[.iface kt (.pointer ka),(.iface a (.pointer ta))] w (Made #[.iface kt (.pointer ka),(.iface a (.pointer ta))] 209 w):=by
 go_enter Tryz.func76,Tryz.ntmps76;go_wp2_with fail
 go_ret;exact⟨rfl,rfl⟩
theorem xB(d:Int)(a:TypeId)(ta:Option Addr)(w:World):Calls Tryz.prog 77 #[.int .i64 d,(.iface a (.pointer ta))] w (Made #[.int .i64 d,(.iface a (.pointer ta))] 211 w):=by
 go_enter Tryz.func77,Tryz.ntmps77;go_wp2_with fail
 go_ret;exact⟨rfl,rfl⟩
theorem me(b:Bool)(a:TypeId)(ta:Option Addr)(w:World):Calls Tryz.prog 124 #[.bool b,(.iface a (.pointer ta))] w (Made #[.bool b,(.iface a (.pointer ta))] 237 w):=by
 go_enter Tryz.func124,Tryz.ntmps124;go_wp2_with fail
 go_ret;exact⟨rfl,rfl⟩
theorem rC(a:Option Addr)(n c:Nat)(b:0<n)(w:World):Calls Tryz.prog 125 #[.slice a n c] w (Made #[.slice a n c] 236 w):=by
 have h:((n:Int)==0)=false:=by simp;omega
 go_enter Tryz.func125,Tryz.ntmps125;go_wp2_with fail
 go_ret;exact⟨rfl,rfl⟩
theorem rD(a:Option Addr)(n c:Nat)(b:0<n)(w:World):Calls Tryz.prog 64 #[.slice a n c] w (Made #[.slice a n c] 177 w):=by
 have h:(0:Int)<n:=by omega
 go_enter Tryz.func64,Tryz.ntmps64;go_wp2_with fail
 go_ret;exact⟨rfl,rfl⟩
theorem xC(a:Option Addr)(c:Nat)(w:World):Calls Tryz.prog 64 #[.slice a 0 c] w fun e b=>e= .returned (.pointer none)∧w=b:=by
 go_enter Tryz.func64,Tryz.ntmps64;go_wp2_with fail
 go_ret;exact⟨rfl,rfl⟩
theorem xD(s t:ByteArray)(w:World):Calls Tryz.prog 29 #[.string s,.string t] w (Made #[.string s,.string t] 100 w):=by
 go_enter Tryz.func29,Tryz.ntmps29;go_wp2_with fail
 go_ret;exact⟨rfl,rfl⟩
theorem mg(pos:Int)(b:Option Addr)(nm:ByteArray)(a:Addr)(w:World):
 Calls Tryz.prog 65 #[.int .i64 pos,.pointer b,.string nm,.pointer (some a)] w (Made #[.int .i64 pos,.pointer b,.string nm,.iface 108 (.pointer (some a)),.bool false,.bool false] 48 w):=by
 go_enter Tryz.func65,Tryz.ntmps65;go_wp2_with fail
 go_ret;exact⟨rfl,rfl⟩
theorem xE(n:Int)(w:World):Calls Tryz.prog 78 #[.int .i64 n] w fun e a=>e= .returned (.int .i64 (if n=1 then 1 else if n=2 then 2 else 0))∧w=a:=by
 by_cases h1:n=1
 ·subst h1
  go_enter Tryz.func78,Tryz.ntmps78;go_wp2_with fail
  go_ret;exact⟨rfl,rfl⟩
 ·by_cases h2:n=2
  ·subst h2
   go_enter Tryz.func78,Tryz.ntmps78;go_wp2_with fail
   go_ret;exact⟨rfl,rfl⟩
  ·have b:(n==1)=false:=by simp[h1]
   have c:(n==2)=false:=by simp[h2]
   have hr:(if n=1 then(1:Int)else if n=2 then 2 else 0)=0:=by rw[if_neg h1,if_neg h2]
   rw[hr];clear h1 h2 hr;go_enter Tryz.func78,Tryz.ntmps78;go_wp2_with fail
   go_ret;exact⟨rfl,rfl⟩
end Go.Proofs.YtgbklbbknehefaaGreatDoor
