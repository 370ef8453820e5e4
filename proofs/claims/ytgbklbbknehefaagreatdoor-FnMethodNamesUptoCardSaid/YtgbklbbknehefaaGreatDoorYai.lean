import Derived.Test.YtgbklbbknehefaaGreatDoorYaf
set_option maxRecDepth 100000
set_option maxHeartbeats 8000000
set_option linter.all false
namespace Go.Proofs.YtgbklbbknehefaaGreatDoor
open Go.RowKit
theorem eF{T e:TypeId}(a u:TypeId)(v:Value)(W:World)(hT:Tryz.prog.underlying T=some (.pointer e))(b:(zeroValue T).run Tryz.prog W= .ok (.pointer none) W):
 (Instr.typeAssert (.iface u v) a T true).run Tryz.prog W= .ok (if u=T then .tuple #[v,.bool true]else .tuple #[.pointer none,.bool false]) W:=by
 simp only[Instr.typeAssert,Sem.run_bind,run_underlying hT,Result.andThen_ok];by_cases h:u=T
 ·simp[h]
 ·simp[h,b]
theorem mh(a u:TypeId)(v:Value)(W:World):(Instr.typeAssert (.iface u v) a 139 true).run Tryz.prog W= .ok (if u=139 then .tuple #[v,.bool true]else .tuple #[.pointer none,.bool false]) W:=eF a u v W Tryz.underlying139 (by kernel_rfl)
theorem asNamed(a u:TypeId)(v:Value)(W:World):(Instr.typeAssert (.iface u v) a 66 true).run Tryz.prog W= .ok (if u=66 then .tuple #[v,.bool true]else .tuple #[.pointer none,.bool false]) W:=eF a u v W Tryz.underlying66 (by kernel_rfl)
theorem oj(a u:TypeId)(v:Value)(W:World):(Instr.typeAssert (.iface u v) a 232 true).run Tryz.prog W= .ok (if u=232 then .tuple #[v,.bool true]else .tuple #[.pointer none,.bool false]) W:=eF a u v W Tryz.underlying232 (by kernel_rfl)
theorem dB(a u:TypeId)(v:Value)(W:World):(Instr.typeAssert (.iface u v) a 33 true).run Tryz.prog W= .ok (if u=33 then .tuple #[v,.bool true]else .tuple #[.pointer none,.bool false]) W:=eF a u v W Tryz.underlying33 (by kernel_rfl)
theorem bn(a u:TypeId)(v:Value)(W:World):(Instr.typeAssert (.iface u v) a 105 true).run Tryz.prog W= .ok (if u=105 then .tuple #[v,.bool true]else .tuple #[.pointer none,.bool false]) W:=eF a u v W Tryz.underlying105 (by kernel_rfl)
theorem fH(a u:TypeId)(v:Value)(W:World):(Instr.typeAssert (.iface u v) a 108 true).run Tryz.prog W= .ok (if u=108 then .tuple #[v,.bool true]else .tuple #[.pointer none,.bool false]) W:=eF a u v W Tryz.underlying108 (by kernel_rfl)
theorem asTuple(a u:TypeId)(v:Value)(W:World):(Instr.typeAssert (.iface u v) a 109 true).run Tryz.prog W= .ok (if u=109 then .tuple #[v,.bool true]else .tuple #[.pointer none,.bool false]) W:=eF a u v W Tryz.underlying109 (by kernel_rfl)
theorem cw(a u:TypeId)(v:Value)(W:World):(Instr.typeAssert (.iface u v) a 141 true).run Tryz.prog W= .ok (if u=141 then .tuple #[v,.bool true]else .tuple #[.pointer none,.bool false]) W:=eF a u v W Tryz.underlying141 (by kernel_rfl)
theorem asSlice(a u:TypeId)(v:Value)(W:World):(Instr.typeAssert (.iface u v) a 143 true).run Tryz.prog W= .ok (if u=143 then .tuple #[v,.bool true]else .tuple #[.pointer none,.bool false]) W:=eF a u v W Tryz.underlying143 (by kernel_rfl)
theorem cy(a u:TypeId)(v:Value)(W:World):(Instr.typeAssert (.iface u v) a 145 true).run Tryz.prog W= .ok (if u=145 then .tuple #[v,.bool true]else .tuple #[.pointer none,.bool false]) W:=eF a u v W Tryz.underlying145 (by kernel_rfl)
theorem iw(a u:TypeId)(v:Value)(W:World):(Instr.typeAssert (.iface u v) a 147 true).run Tryz.prog W= .ok (if u=147 then .tuple #[v,.bool true]else .tuple #[.pointer none,.bool false]) W:=eF a u v W Tryz.underlying147 (by kernel_rfl)
theorem dK(a u:TypeId)(v:Value)(W:World):(Instr.typeAssert (.iface u v) a 149 true).run Tryz.prog W= .ok (if u=149 then .tuple #[v,.bool true]else .tuple #[.pointer none,.bool false]) W:=eF a u v W Tryz.underlying149 (by kernel_rfl)
theorem cJ(a u:TypeId)(v:Value)(W:World):(Instr.typeAssert (.iface u v) a 213 true).run Tryz.prog W= .ok (if u=213 then .tuple #[v,.bool true]else .tuple #[.pointer none,.bool false]) W:=eF a u v W Tryz.underlying213 (by kernel_rfl)
theorem gx(a u:TypeId)(v:Value)(W:World):(Instr.typeAssert (.iface u v) a 189 true).run Tryz.prog W= .ok (if u=189 then .tuple #[v,.bool true]else .tuple #[.pointer none,.bool false]) W:=eF a u v W Tryz.underlying189 (by kernel_rfl)
theorem xF(a:Addr)(w:World):Calls Tryz.prog 267 #[.pointer (some a)] w fun e b=>e= .returned (.iface 33 (.pointer (some a)))∧w=b:=by
 go_enter Tryz.func267,Tryz.ntmps267;go_wp2_with fail
 go_ret;exact⟨rfl,rfl⟩
theorem xG(a:Addr)(w:World):Calls Tryz.prog 276 #[.pointer (some a)] w fun e b=>e= .returned (.iface 105 (.pointer (some a)))∧w=b:=by
 go_enter Tryz.func276,Tryz.ntmps276;go_wp2_with fail
 go_ret;exact⟨rfl,rfl⟩
theorem xH(a:Addr)(w:World):Calls Tryz.prog 277 #[.pointer (some a)] w fun e b=>e= .returned (.iface 108 (.pointer (some a)))∧w=b:=by
 go_enter Tryz.func277,Tryz.ntmps277;go_wp2_with fail
 go_ret;exact⟨rfl,rfl⟩
theorem xI(a:Addr)(w:World):Calls Tryz.prog 282 #[.pointer (some a)] w fun e b=>e= .returned (.iface 141 (.pointer (some a)))∧w=b:=by
 go_enter Tryz.func282,Tryz.ntmps282;go_wp2_with fail
 go_ret;exact⟨rfl,rfl⟩
theorem xJ(a:Addr)(w:World):Calls Tryz.prog 284 #[.pointer (some a)] w fun e b=>e= .returned (.iface 143 (.pointer (some a)))∧w=b:=by
 go_enter Tryz.func284,Tryz.ntmps284;go_wp2_with fail
 go_ret;exact⟨rfl,rfl⟩
theorem xK(a:Addr)(w:World):Calls Tryz.prog 286 #[.pointer (some a)] w fun e b=>e= .returned (.iface 145 (.pointer (some a)))∧w=b:=by
 go_enter Tryz.func286,Tryz.ntmps286;go_wp2_with fail
 go_ret;exact⟨rfl,rfl⟩
theorem xL(a:Addr)(w:World):Calls Tryz.prog 288 #[.pointer (some a)] w fun e b=>e= .returned (.iface 147 (.pointer (some a)))∧w=b:=by
 go_enter Tryz.func288,Tryz.ntmps288;go_wp2_with fail
 go_ret;exact⟨rfl,rfl⟩
theorem xM(a:Addr)(w:World):Calls Tryz.prog 290 #[.pointer (some a)] w fun e b=>e= .returned (.iface 149 (.pointer (some a)))∧w=b:=by
 go_enter Tryz.func290,Tryz.ntmps290;go_wp2_with fail
 go_ret;exact⟨rfl,rfl⟩
theorem xN(a:Addr)(w:World):Calls Tryz.prog 293 #[.pointer (some a)] w fun e b=>e= .returned (.iface 213 (.pointer (some a)))∧w=b:=by
 go_enter Tryz.func293,Tryz.ntmps293;go_wp2_with fail
 go_ret;exact⟨rfl,rfl⟩
theorem xO(a:Addr)(w:World):Calls Tryz.prog 292 #[.pointer (some a)] w fun e b=>e= .returned (.iface 189 (.pointer (some a)))∧w=b:=by
 go_enter Tryz.func292,Tryz.ntmps292;go_wp2_with fail
 go_ret;exact⟨rfl,rfl⟩
theorem ep(t:TypeId)(v:Value)(a:t≠139)(w:World):Calls Tryz.prog 114 #[.iface t v] w fun e b=>e= .returned (.iface t v)∧w=b:=by
 have h1:∀W,(Instr.typeAssert (.iface t v) 44 139 true).run Tryz.prog W= .ok (.tuple #[.pointer none,.bool false]) W:=fun W=>by rw[mh,if_neg a]
 clear a;go_enter Tryz.func114,Tryz.ntmps114;go_wp2_with fail
 go_ret;exact⟨rfl,rfl⟩
theorem rE(b:Nat)(t:TypeId)(v:Value)(w:World)(h:w.cell? ⟨b,3,none⟩=some (.iface t v)):Calls Tryz.prog 152 #[.pointer (some ⟨b,0,none⟩)] w fun e a=>e= .returned (.iface t v)∧w=a:=by
 go_enter Tryz.func152,Tryz.ntmps152;go_wp2_with fail
 go_ret;exact⟨rfl,rfl⟩
theorem xP(b:Nat)(t:TypeId)(v:Value)(w:World)(h:w.cell? ⟨b,3,none⟩=some (.iface t v)):Calls Tryz.prog 114 #[.iface 139 (.pointer (some ⟨b,0,none⟩))] w fun e a=>e= .returned (.iface t v)∧w=a:=by
 have h1:∀W,(Instr.typeAssert (.iface 139 (.pointer (some ⟨b,0,none⟩))) 44 139 true).run Tryz.prog W= .ok (.tuple #[.pointer (some ⟨b,0,none⟩),.bool true]) W:=fun W=>by rw[mh,if_pos rfl]
 go_enter Tryz.func114,Tryz.ntmps114;go_wp2_with fail
 refine(rE b t v _ h).mono ?_;rintro e a ⟨rfl,rfl⟩;go_wp2_with fail
 go_ret;exact⟨rfl,rfl⟩
end Go.Proofs.YtgbklbbknehefaaGreatDoor
