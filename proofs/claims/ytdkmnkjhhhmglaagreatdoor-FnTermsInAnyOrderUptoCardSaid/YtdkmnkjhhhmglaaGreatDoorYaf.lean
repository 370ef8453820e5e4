import Derived.Below
import Derived.Lib.Hide
import Derived.Test.YtdkmnkjhhhmglaaGreatDoorProg
import Derived.WalkKit
import Derived.WalkLawsBesides
import Derived.WalkSpells
set_option maxRecDepth 100000
set_option maxHeartbeats 8000000
set_option linter.all false
namespace Go.Proofs.YtdkmnkjhhhmglaaGreatDoor
open Go.RowKit
def Made(cs:Array Value)(T:TypeId)(w:World)(e:Ending)(a:World):Prop:=e= .returned (.pointer (some ⟨w.heap.size,0,none⟩))∧a=w.alloc (.cells cs T)
theorem lv(k pos:Int)(a:Option Addr)(nm:ByteArray)(b:TypeId)(ta:Option Addr)(w:World):
 Calls Tryz.prog 70 #[.int .u8 k,.int .i64 pos,.pointer a,.string nm,(.iface b (.pointer ta))] w (Made #[.int .i64 pos,.pointer a,.string nm,(.iface b (.pointer ta)),.int .u8 k,.bool false] 175 w):=by
 go_enter Tryz.func70,Tryz.ntmps70;go_wp2_with fail
 go_ret;exact⟨rfl,rfl⟩
theorem qK(pos:Int)(a:Option Addr)(nm:ByteArray)(w:World):
 Calls Tryz.prog 36 #[.int .i64 pos,.pointer a,.string nm,.nilIface] w (Made #[.int .i64 pos,.pointer a,.string nm,.nilIface] 128 w):=by
 go_enter Tryz.func36,Tryz.ntmps36;go_wp2_with fail
 go_ret;exact⟨rfl,rfl⟩
theorem AO(pos:Int)(a:Option Addr)(nm:ByteArray)(b:TypeId)(ta:Option Addr)(w:World):
 Calls Tryz.prog 136 #[.int .i64 pos,.pointer a,.string nm,(.iface b (.pointer ta))] w (Made #[.int .i64 pos,.pointer a,.string nm,(.iface b (.pointer ta)),.int .u8 4,.bool false] 175 w):=by
 go_enter Tryz.func136,Tryz.ntmps136;go_wp2_with fail
 refine(lv _ _ _ _ _ _ _).mono ?_;rintro e c ⟨rfl,rfl⟩;go_wp2_with fail
 go_ret;exact⟨rfl,rfl⟩
theorem uJ(pos:Int)(a:Option Addr)(nm:ByteArray)(b:TypeId)(ta:Option Addr)(w:World):
 Calls Tryz.prog 91 #[.int .i64 pos,.pointer a,.string nm,(.iface b (.pointer ta))] w (Made #[.int .i64 pos,.pointer a,.string nm,(.iface b (.pointer ta)),.int .u8 1,.bool false] 175 w):=by
 go_enter Tryz.func91,Tryz.ntmps91;go_wp2_with fail
 refine(lv _ _ _ _ _ _ _).mono ?_;rintro e c ⟨rfl,rfl⟩;go_wp2_with fail
 go_ret;exact⟨rfl,rfl⟩
theorem AP(pos:Int)(a:Option Addr)(nm:ByteArray)(c:TypeId)(ta:Option Addr)(b:Bool)(w:World):
 Calls Tryz.prog 134 #[.int .i64 pos,.pointer a,.string nm,(.iface c (.pointer ta)),.bool b] w (Made #[.int .i64 pos,.pointer a,.string nm,(.iface c (.pointer ta)),.int .u8 6,.bool b] 175 w):=by
 go_enter Tryz.func134,Tryz.ntmps134;go_wp2_with fail
 refine(lv _ _ _ _ _ _ _).mono ?_;rintro e d ⟨rfl,rfl⟩;go_wp2_with fail
 go_ret;exact⟨rfl,rfl⟩
theorem AQ(a:TypeId)(ta:Option Addr)(w:World):Calls Tryz.prog 82 #[.iface a (.pointer ta)] w (Made #[.iface a (.pointer ta)] 166 w):=by
 go_enter Tryz.func82,Tryz.ntmps82;go_wp2_with fail
 go_ret;exact⟨rfl,rfl⟩
theorem uK(a:TypeId)(ta:Option Addr)(w:World):Calls Tryz.prog 83 #[.iface a (.pointer ta)] w (Made #[.iface a (.pointer ta)] 180 w):=by
 go_enter Tryz.func83,Tryz.ntmps83;go_wp2_with fail
 go_ret;exact⟨rfl,rfl⟩
theorem AR(a:TypeId)(ta:Option Addr)(n:Int)(w:World):Calls Tryz.prog 81 #[(.iface a (.pointer ta)),.int .i64 n] w (Made #[.int .i64 n,(.iface a (.pointer ta))] 163 w):=by
 go_enter Tryz.func81,Tryz.ntmps81;go_wp2_with fail
 go_ret;exact⟨rfl,rfl⟩
theorem AS(kt:TypeId)(ka:Option Addr)(a:TypeId)(ta:Option Addr)(w:World):Calls Tryz.prog 84 #[.iface kt (.pointer ka),(.iface a (.pointer ta))] w (Made #[.iface kt (.pointer ka),(.iface a (.pointer ta))] 198 w):=by
 go_enter Tryz.func84,Tryz.ntmps84;go_wp2_with fail
 go_ret;exact⟨rfl,rfl⟩
theorem AT(d:Int)(a:TypeId)(ta:Option Addr)(w:World):Calls Tryz.prog 85 #[.int .i64 d,(.iface a (.pointer ta))] w (Made #[.int .i64 d,(.iface a (.pointer ta))] 201 w):=by
 go_enter Tryz.func85,Tryz.ntmps85;go_wp2_with fail
 go_ret;exact⟨rfl,rfl⟩
theorem oI(b:Bool)(a:TypeId)(ta:Option Addr)(w:World):Calls Tryz.prog 138 #[.bool b,(.iface a (.pointer ta))] w (Made #[.bool b,(.iface a (.pointer ta))] 245 w):=by
 go_enter Tryz.func138,Tryz.ntmps138;go_wp2_with fail
 go_ret;exact⟨rfl,rfl⟩
theorem uL(a:Option Addr)(n c:Nat)(b:0<n)(w:World):Calls Tryz.prog 139 #[.slice a n c] w (Made #[.slice a n c] 244 w):=by
 have h:((n:Int)==0)=false:=by simp;omega
 go_enter Tryz.func139,Tryz.ntmps139;go_wp2_with fail
 go_ret;exact⟨rfl,rfl⟩
theorem uM(a:Option Addr)(n c:Nat)(b:0<n)(w:World):Calls Tryz.prog 72 #[.slice a n c] w (Made #[.slice a n c] 183 w):=by
 have h:(0:Int)<n:=by omega
 go_enter Tryz.func72,Tryz.ntmps72;go_wp2_with fail
 go_ret;exact⟨rfl,rfl⟩
theorem AU(a:Option Addr)(c:Nat)(w:World):Calls Tryz.prog 72 #[.slice a 0 c] w fun e b=>e= .returned (.pointer none)∧w=b:=by
 go_enter Tryz.func72,Tryz.ntmps72;go_wp2_with fail
 go_ret;exact⟨rfl,rfl⟩
theorem AV(s t:ByteArray)(w:World):Calls Tryz.prog 33 #[.string s,.string t] w (Made #[.string s,.string t] 94 w):=by
 go_enter Tryz.func33,Tryz.ntmps33;go_wp2_with fail
 go_ret;exact⟨rfl,rfl⟩
theorem oJ(pos:Int)(b:Option Addr)(nm:ByteArray)(a:Addr)(w:World):
 Calls Tryz.prog 73 #[.int .i64 pos,.pointer b,.string nm,.pointer (some a)] w (Made #[.int .i64 pos,.pointer b,.string nm,.iface 102 (.pointer (some a)),.bool false,.bool false] 195 w):=by
 go_enter Tryz.func73,Tryz.ntmps73;go_wp2_with fail
 go_ret;exact⟨rfl,rfl⟩
theorem AW(n:Int)(w:World):Calls Tryz.prog 86 #[.int .i64 n] w fun e a=>e= .returned (.int .i64 (if n=1 then 1 else if n=2 then 2 else 0))∧w=a:=by
 by_cases h1:n=1
 ·subst h1
  go_enter Tryz.func86,Tryz.ntmps86;go_wp2_with fail
  go_ret;exact⟨rfl,rfl⟩
 ·by_cases h2:n=2
  ·subst h2
   go_enter Tryz.func86,Tryz.ntmps86;go_wp2_with fail
   go_ret;exact⟨rfl,rfl⟩
  ·have b:(n==1)=false:=by simp[h1]
   have c:(n==2)=false:=by simp[h2]
   have hr:(if n=1 then(1:Int)else if n=2 then 2 else 0)=0:=by rw[if_neg h1,if_neg h2]
   rw[hr];clear h1 h2 hr;go_enter Tryz.func86,Tryz.ntmps86;go_wp2_with fail
   go_ret;exact⟨rfl,rfl⟩
end Go.Proofs.YtdkmnkjhhhmglaaGreatDoor
