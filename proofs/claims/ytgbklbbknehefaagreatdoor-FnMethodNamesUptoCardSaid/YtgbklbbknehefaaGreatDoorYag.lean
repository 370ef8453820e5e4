import Derived.WalkSpells
import Derived.Test.YtgbklbbknehefaaGreatDoorYaa
import Derived.Test.YtgbklbbknehefaaGreatDoorYae
set_option maxRecDepth 100000
set_option maxHeartbeats 8000000
set_option linter.all false
namespace TS
open Go Go.RowKit
section
variable {P:Program} {ops:Array Oper} {Q:Exit→Act→World→Prop} {S:World→Prop}
theorem oS{i:Nat}{r:List (Nat×Bool)}{o:Oper}{v:Value}{a:Act}{w:World}(h:dJ P ops Q S r (a.put o.dst v) w)(b:nth ops.toList i=some o:=by exact rfl)(hw:Region.wanted o (yielded ops a.tmps)=true:=by rfl)
 (c:∀W,S W→(execOp a.eval o).run P W= .ok (.value v) W:=by intro W d;(try dsimp only at d);go_simp<;>with_reducible rfl):dJ P ops Q S ((i,true)::r) a w:=vy b hw c h
theorem oF{i:Nat}{s:Bool}{r:List (Nat×Bool)}{o:Oper}{a:Act}{w:World}(c:S w)(h:dJ P ops Q S r (a.put o.dst undef) w)(b:nth ops.toList i=some o:=by exact rfl)(hw:Region.wanted o (yielded ops a.tmps)=false:=by rfl):dJ P ops Q S ((i,s)::r) a w:=vz b hw c h
theorem oL{i:Nat}{r:List (Nat×Bool)}{o:Oper}{a:Act}{w:World}(h:∀K:Act→World→Prop,(∀a w,S w→(S w→dJ P ops Q S r a w)→K a w)→o.wp P a w K Q)(b:nth ops.toList i=some o:=by exact rfl)(hw:Region.wanted o (yielded ops a.tmps)=true:=by rfl):dJ P ops Q S ((i,false)::r) a w:=nD b hw h
theorem oR{id:Nat}{a:Act}{w:World}(S:World→Prop)(l:List (Nat×Bool))(c:S w.drew)(h:S w.drew→dJ P ops (NoPanic Q) S l a w.drew)
 (hm:P.follows .mixedOrders=true:=by kernel_rfl)(b:Region.noSelect ops=true:=by kernel_rfl)(d:jF ops l (Array.replicate ops.size false)=true:=by kernel_rfl)(e:l.length≤ops.size:=by decide):(Code.region id ops true).wp P Q a w:=vw S l hm b d e c h
end
theorem oa{α:Type}(l:List α)(i:Nat)(x:α):l.toArray.setIfInBounds i x=(l.set i x).toArray:=by simp
theorem ob{α:Type}(x:α)(l:List α)(y:α):(x::l).set 0 y=y::l:=rfl
theorem oc{α:Type}(x:α)(l:List α)(n:Nat)(y:α):(x::l).set (n+1) y=x::l.set n y:=rfl
theorem oK{A:Prop}(h:A:=by((repeat' apply And.intro)<;>first|assumption|exact TS.cell_kept aa (by first|assumption|(go_keep;done))|exact Up.step (by first|assumption|exact ag.drew) aa|exact ag.drew|exact Up.drew ‹_› |(simp;done)|(simp[go_sem];done)|(go_keep;done))):A:=h
theorem kf(j:Int){a b:Int}(h:a=b)(c:(b==j)=false:=by rfl):(a==j)=false:=by rw[h,c]
theorem kt{j a:Int}(h:a=j):(a==j)=true:=by simp[h]
end TS
