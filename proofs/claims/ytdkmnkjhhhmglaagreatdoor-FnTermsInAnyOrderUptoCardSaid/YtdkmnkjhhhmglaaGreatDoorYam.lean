import Derived.Test.YtdkmnkjhhhmglaaGreatDoorYal
set_option maxRecDepth 100000
set_option maxHeartbeats 8000000
set_option linter.all false
namespace TS
open Go
section
variable {P:Program} {ops:Array Oper} {Q:Exit→Act→World→Prop} {S:World→Prop}
theorem sJ{i:Nat}{s:Bool}{r:OT}{o:Oper}{a:Act}{w:World}(b:nth ops.toList i=some o)(hw:Region.wanted o (yielded ops a.tmps)=false)(d:S w)
 (h:en P ops Q S r (a.put o.dst undef) w):en P ops Q S (.one i s r) a w:=by
 have c:=iB b;refine⟨o,c,?_⟩;cases s with
 |true=>rw[if_pos rfl];exact⟨undef,.inr ⟨hw,rfl⟩,h⟩
 |false=>rw[if_neg (by simp)];simp only[wpOp,c,hw];exact⟨d,h⟩
theorem yQ{i j:Nat}{ri g:OT}{o c:Oper}{a:Act}{w:World}(d:nth ops.toList i=some o)(b:nth ops.toList j=some c)(hw:Region.wanted o (yielded ops a.tmps)=false)(e:Region.wanted c (yielded ops a.tmps)=false)(k:S w)
 (h:en P ops Q S ri (a.put o.dst undef) w)(h2:en P ops Q S g (a.put c.dst undef) w):en P ops Q S (.two i j ri g) a w:=by
 have l:=iB d;have f:=iB b;refine⟨?_,?_⟩
 ·simp only[wpOp,l,hw];exact⟨k,h⟩
 ·simp only[wpOp,f,e];exact⟨k,h2⟩
end
end TS
