import Derived.Test.YtgbklbbknehefaaGreatDoorYap
set_option maxRecDepth 100000
set_option maxHeartbeats 8000000
set_option linter.all false
namespace Go.Proofs.YtgbklbbknehefaaGreatDoor
open Go.RowKit TS
theorem yy(a:Addr)(w:World):(method 480 105 (.pointer (some a)) "Underlying").run Tryz.prog w= .ok (276,.pointer (some a)) w:=by kernel_rfl
theorem yz(a:Addr)(w:World):(nilAhead 480 105 (.pointer (some a)) "Underlying").run Tryz.prog w= .ok (some false) w:=by kernel_rfl
theorem yA(a:Addr)(w:World):(method 480 66 (.pointer (some a)) "Underlying").run Tryz.prog w= .ok (269,.pointer (some a)) w:=by kernel_rfl
theorem yC(a:Addr)(w:World):(nilAhead 480 66 (.pointer (some a)) "Underlying").run Tryz.prog w= .ok (some false) w:=by kernel_rfl
theorem yD(a:Addr)(w:World):(method 480 139 (.pointer (some a)) "Underlying").run Tryz.prog w= .ok (280,.pointer (some a)) w:=by kernel_rfl
theorem yE(a:Addr)(w:World):(nilAhead 480 139 (.pointer (some a)) "Underlying").run Tryz.prog w= .ok (some false) w:=by kernel_rfl
theorem yF(a:Addr)(w:World):(method 480 108 (.pointer (some a)) "Underlying").run Tryz.prog w= .ok (277,.pointer (some a)) w:=by kernel_rfl
theorem yG(a:Addr)(w:World):(nilAhead 480 108 (.pointer (some a)) "Underlying").run Tryz.prog w= .ok (some false) w:=by kernel_rfl
theorem yH(a:Addr)(w:World):(method 480 141 (.pointer (some a)) "Underlying").run Tryz.prog w= .ok (282,.pointer (some a)) w:=by kernel_rfl
theorem yI(a:Addr)(w:World):(nilAhead 480 141 (.pointer (some a)) "Underlying").run Tryz.prog w= .ok (some false) w:=by kernel_rfl
theorem yJ(a:Addr)(w:World):(method 480 143 (.pointer (some a)) "Underlying").run Tryz.prog w= .ok (284,.pointer (some a)) w:=by kernel_rfl
theorem yK(a:Addr)(w:World):(nilAhead 480 143 (.pointer (some a)) "Underlying").run Tryz.prog w= .ok (some false) w:=by kernel_rfl
theorem yL(a:Addr)(w:World):(method 480 145 (.pointer (some a)) "Underlying").run Tryz.prog w= .ok (286,.pointer (some a)) w:=by kernel_rfl
theorem yM(a:Addr)(w:World):(nilAhead 480 145 (.pointer (some a)) "Underlying").run Tryz.prog w= .ok (some false) w:=by kernel_rfl
theorem yN(a:Addr)(w:World):(method 480 147 (.pointer (some a)) "Underlying").run Tryz.prog w= .ok (288,.pointer (some a)) w:=by kernel_rfl
theorem yO(a:Addr)(w:World):(nilAhead 480 147 (.pointer (some a)) "Underlying").run Tryz.prog w= .ok (some false) w:=by kernel_rfl
theorem yP(a:Addr)(w:World):(method 480 149 (.pointer (some a)) "Underlying").run Tryz.prog w= .ok (290,.pointer (some a)) w:=by kernel_rfl
theorem yQ(a:Addr)(w:World):(nilAhead 480 149 (.pointer (some a)) "Underlying").run Tryz.prog w= .ok (some false) w:=by kernel_rfl
theorem yR(a:Addr)(w:World):(method 480 213 (.pointer (some a)) "Underlying").run Tryz.prog w= .ok (293,.pointer (some a)) w:=by kernel_rfl
theorem yS(a:Addr)(w:World):(nilAhead 480 213 (.pointer (some a)) "Underlying").run Tryz.prog w= .ok (some false) w:=by kernel_rfl
theorem yT(a:Addr)(w:World):(method 480 189 (.pointer (some a)) "Underlying").run Tryz.prog w= .ok (292,.pointer (some a)) w:=by kernel_rfl
theorem yU(a:Addr)(w:World):(nilAhead 480 189 (.pointer (some a)) "Underlying").run Tryz.prog w= .ok (some false) w:=by kernel_rfl
theorem yV(a:Addr)(w:World):(method 480 33 (.pointer (some a)) "Underlying").run Tryz.prog w= .ok (267,.pointer (some a)) w:=by kernel_rfl
theorem yW(a:Addr)(w:World):(nilAhead 480 33 (.pointer (some a)) "Underlying").run Tryz.prog w= .ok (some false) w:=by kernel_rfl
def b8(w:World)(T:TypeId)(b:Nat)(r:Value):Prop:=∃K fn c,Tryz.prog.funcs[K]?=some fn∧(fn.name== "runtime.NumGoroutine")=false∧fn.body=some c∧(∀W:World,(method 480 T (.pointer (some ⟨b,0,none⟩)) "Underlying").run Tryz.prog W= .ok (K,.pointer (some ⟨b,0,none⟩)) W)∧
 (∀W:World,(nilAhead 480 T (.pointer (some ⟨b,0,none⟩)) "Underlying").run Tryz.prog W= .ok (some false) W)∧Calls Tryz.prog K #[.pointer (some ⟨b,0,none⟩)] w fun e a=>e= .returned r∧w=a
theorem yX(b:Nat)(w:World):b8 w 105 b (.iface 105 (.pointer (some ⟨b,0,none⟩))):=⟨_,_,_,Tryz.func276,by kernel_rfl,rfl,fun W=>yy _ W,fun W=>yz _ W,xG _ w⟩
theorem yY(b:Nat)(w:World):b8 w 108 b (.iface 108 (.pointer (some ⟨b,0,none⟩))):=⟨_,_,_,Tryz.func277,by kernel_rfl,rfl,fun W=>yF _ W,fun W=>yG _ W,xH _ w⟩
theorem yZ(b:Nat)(w:World):b8 w 141 b (.iface 141 (.pointer (some ⟨b,0,none⟩))):=⟨_,_,_,Tryz.func282,by kernel_rfl,rfl,fun W=>yH _ W,fun W=>yI _ W,xI _ w⟩
theorem mi(b:Nat)(w:World):b8 w 143 b (.iface 143 (.pointer (some ⟨b,0,none⟩))):=⟨_,_,_,Tryz.func284,by kernel_rfl,rfl,fun W=>yJ _ W,fun W=>yK _ W,xJ _ w⟩
theorem y7(b:Nat)(w:World):b8 w 145 b (.iface 145 (.pointer (some ⟨b,0,none⟩))):=⟨_,_,_,Tryz.func286,by kernel_rfl,rfl,fun W=>yL _ W,fun W=>yM _ W,xK _ w⟩
theorem y8(b:Nat)(w:World):b8 w 147 b (.iface 147 (.pointer (some ⟨b,0,none⟩))):=⟨_,_,_,Tryz.func288,by kernel_rfl,rfl,fun W=>yN _ W,fun W=>yO _ W,xL _ w⟩
theorem y9(b:Nat)(w:World):b8 w 149 b (.iface 149 (.pointer (some ⟨b,0,none⟩))):=⟨_,_,_,Tryz.func290,by kernel_rfl,rfl,fun W=>yP _ W,fun W=>yQ _ W,xM _ w⟩
theorem y_(b:Nat)(w:World):b8 w 213 b (.iface 213 (.pointer (some ⟨b,0,none⟩))):=⟨_,_,_,Tryz.func293,by kernel_rfl,rfl,fun W=>yR _ W,fun W=>yS _ W,xN _ w⟩
theorem za(b:Nat)(w:World):b8 w 189 b (.iface 189 (.pointer (some ⟨b,0,none⟩))):=⟨_,_,_,Tryz.func292,by kernel_rfl,rfl,fun W=>yT _ W,fun W=>yU _ W,xO _ w⟩
theorem zc(b:Nat)(w:World):b8 w 33 b (.iface 33 (.pointer (some ⟨b,0,none⟩))):=⟨_,_,_,Tryz.func267,by kernel_rfl,rfl,fun W=>yV _ W,fun W=>yW _ W,xF _ w⟩
theorem ow(b:Nat)(t:TypeId)(a:Option Addr)(w:World)(c:w.cell? ⟨b,5,none⟩=some (.int .u32 15))(d:w.cell? ⟨b,6,none⟩=some (.iface t (.pointer a)))(h7:w.cell? ⟨b,7,none⟩=some (.iface t (.pointer a))):
 b8 w 66 b (.iface t (.pointer a)):=⟨_,_,_,Tryz.func269,by kernel_rfl,rfl,fun W=>yA _ W,fun W=>yC _ W,ye b .nilIface t a w c d h7⟩
theorem zd(b c:Nat)(t:TypeId)(r:Value)(w:World)(h:w.cell? ⟨b,3,none⟩=some (.iface t (.pointer (some ⟨c,0,none⟩))))(i:b8 w t c r):
 Calls Tryz.prog 280 #[.pointer (some ⟨b,0,none⟩)] w fun e d=>e= .returned r∧w=d:=by
 obtain⟨K,fn,c',f,a,g,hm,l,j⟩:=i;have k:=fun args w=>Go.MuLone.run_callFunc_enter f a g args w;clear f a g;go_enter Tryz.func280,Tryz.ntmps280;go_wp2_with fail
 refine(rE b _ _ _ h).mono ?_;rintro e d ⟨rfl,rfl⟩;go_wp2_with fail
 refine j.mono ?_;rintro e d ⟨rfl,rfl⟩;go_wp2_with fail
 go_ret;exact⟨rfl,rfl⟩
theorem ze(b c:Nat)(t:TypeId)(r:Value)(w:World)(h:w.cell? ⟨b,3,none⟩=some (.iface t (.pointer (some ⟨c,0,none⟩))))(a:b8 w t c r):b8 w 139 b r:=
 ⟨_,_,_,Tryz.func280,by kernel_rfl,rfl,fun W=>yD _ W,fun W=>yE _ W,zd b c t r w h a⟩
end Go.Proofs.YtgbklbbknehefaaGreatDoor
