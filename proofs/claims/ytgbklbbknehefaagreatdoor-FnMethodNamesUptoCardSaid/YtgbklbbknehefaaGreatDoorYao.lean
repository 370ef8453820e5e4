import Derived.Test.YtgbklbbknehefaaGreatDoorYan
set_option maxRecDepth 100000
set_option maxHeartbeats 8000000
set_option linter.all false
namespace TS
open Go
def bj(w:World)(a:Option Addr)(n:Nat)(f:Nat→Nat):Prop:=∀i,i<n→∃b o,a=some ⟨b,o,none⟩∧w.cell? ⟨b,o+i,none⟩=some (.pointer (some ⟨f i,0,none⟩))
end TS
namespace Go.Proofs.YtgbklbbknehefaaGreatDoor
open Go.RowKit TS
theorem yw(b:Nat)(a:Option Addr)(n c:Nat)(f:Nat→Nat)(s:Nat→ByteArray)(nm:ByteArray)(w:World)(v:n≤1099511627776)(x:w.cell? ⟨b,9,none⟩=some (.slice a n c))(m:bj w a n f)
 (o:∀i,i<n→w.cell? ⟨f i,2,none⟩=some (.string (s i)))(g:∀i,i<n→((s i).toList==nm.toList)=false)(y:(nm.toList== [95])=false):
 Calls Tryz.prog 129 #[.pointer (some ⟨b,0,none⟩),.string nm,.bool false] w fun e q=>e= .returned (.int .i64 (-1))∧w=q:=by
 have j:=Lib.hid m;have l:=Lib.hid o;have h:=Lib.hid g;clear m o g;go_enter Tryz.func129,Tryz.ntmps129;go_wp2_with fail
 go_loopw [38] (fun i wr=> ∃k:Nat,k≤n∧i= .int .i64 k∧wr=w) (fun i _=>n- (intOf i).toNat)
 case atStart=>exact⟨0,Nat.zero_le _,rfl,rfl⟩
 case round=>
  obtain⟨k,hk,rfl,rfl⟩:=hrel;by_cases d:k<n
  ·have p:(k:Int)<n:=by omega
   obtain⟨z,A,rfl,B⟩:=j.out k d;have r:=l.out k d;have t:=h.out k d;go_wp2_with fail
   refine⟨⟨k+1,by omega,by go_num,trivial⟩,?_⟩;first|omega|(simp[intOf];omega)
  ·have u:¬(k:Int)<n:=by omega
   go_wp2_with fail
   go_ret;exact⟨rfl,rfl⟩
end Go.Proofs.YtgbklbbknehefaaGreatDoor
