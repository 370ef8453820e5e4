import Derived.Test.YtgbklbbknehefaaGreatDoorYax
set_option maxRecDepth 100000
set_option maxHeartbeats 8000000
set_option linter.all false
namespace Go.Proofs.YtgbklbbknehefaaGreatDoor
open Go.RowKit TS
theorem zU(c b g t':Nat)(x y st:Value)(w:World)(j:st= .pointer none∨∃s,st= .pointer (some ⟨s,0,none⟩))(k:t'≠139)(d:t'≠105)(h1:w.cell? ⟨c,1,none⟩=some (.bool false))
 (h:Calls Tryz.prog 114 #[x] w fun e a=>e= .returned (.iface 105 (.pointer (some ⟨b,0,none⟩)))∧w=a)(i:Calls Tryz.prog 114 #[y] w fun e a=>e= .returned (.iface t' (.pointer (some ⟨g,0,none⟩)))∧w=a)
 (he:(binOp .eql 44 (.iface 105 (.pointer (some ⟨b,0,none⟩))) (.iface t' (.pointer (some ⟨g,0,none⟩)))).run Tryz.prog w= .ok (.bool false) w):
 Calls Tryz.prog 174 #[.pointer (some ⟨c,0,none⟩),x,y,st] w fun e a=>e= .returned (.bool false)∧w=a:=by
 have f:∀W,(Instr.typeAssert (.iface 105 (.pointer (some ⟨b,0,none⟩))) 44 105 true).run Tryz.prog W= .ok (.tuple #[.pointer (some ⟨b,0,none⟩),.bool true]) W:=fun W=>by rw[bn,if_pos rfl]
 have l:∀W,(Instr.typeAssert (.iface t' (.pointer (some ⟨g,0,none⟩))) 44 105 true).run Tryz.prog W= .ok (.tuple #[.pointer none,.bool false]) W:=fun W=>by rw[bn,if_neg d]
 clear d k;go_enter Tryz.func174,Tryz.ntmps174;go_wp2_with fail
 refine h.mono ?_;rintro e a ⟨rfl,rfl⟩;go_wp2_with fail
 refine i.mono ?_;rintro e a ⟨rfl,rfl⟩;go_wp2_with fail
 go_ret;exact⟨rfl,rfl⟩
theorem zV(c b h t':Nat)(x y st:Value)(w:World)(k:st= .pointer none∨∃s,st= .pointer (some ⟨s,0,none⟩))(l:t'≠139)(d:t'≠141)(h1:w.cell? ⟨c,1,none⟩=some (.bool false))
 (i:Calls Tryz.prog 114 #[x] w fun e a=>e= .returned (.iface 141 (.pointer (some ⟨b,0,none⟩)))∧w=a)(j:Calls Tryz.prog 114 #[y] w fun e a=>e= .returned (.iface t' (.pointer (some ⟨h,0,none⟩)))∧w=a)
 (he:(binOp .eql 44 (.iface 141 (.pointer (some ⟨b,0,none⟩))) (.iface t' (.pointer (some ⟨h,0,none⟩)))).run Tryz.prog w= .ok (.bool false) w):
 Calls Tryz.prog 174 #[.pointer (some ⟨c,0,none⟩),x,y,st] w fun e a=>e= .returned (.bool false)∧w=a:=by
 have f:∀W,(Instr.typeAssert (.iface 141 (.pointer (some ⟨b,0,none⟩))) 44 105 true).run Tryz.prog W= .ok (.tuple #[.pointer none,.bool false]) W:=fun W=>by rw[bn,if_neg (by decide)]
 have g:∀W,(Instr.typeAssert (.iface 141 (.pointer (some ⟨b,0,none⟩))) 44 141 true).run Tryz.prog W= .ok (.tuple #[.pointer (some ⟨b,0,none⟩),.bool true]) W:=fun W=>by rw[cw,if_pos rfl]
 have m:∀W,(Instr.typeAssert (.iface t' (.pointer (some ⟨h,0,none⟩))) 44 141 true).run Tryz.prog W= .ok (.tuple #[.pointer none,.bool false]) W:=fun W=>by rw[cw,if_neg d]
 clear d l;go_enter Tryz.func174,Tryz.ntmps174;go_wp2_with fail
 refine i.mono ?_;rintro e a ⟨rfl,rfl⟩;go_wp2_with fail
 refine j.mono ?_;rintro e a ⟨rfl,rfl⟩;go_wp2_with fail
 go_ret;exact⟨rfl,rfl⟩
theorem zW(c b i t':Nat)(x y st:Value)(w:World)(l:st= .pointer none∨∃s,st= .pointer (some ⟨s,0,none⟩))(m:t'≠139)(d:t'≠143)(h1:w.cell? ⟨c,1,none⟩=some (.bool false))
 (j:Calls Tryz.prog 114 #[x] w fun e a=>e= .returned (.iface 143 (.pointer (some ⟨b,0,none⟩)))∧w=a)(k:Calls Tryz.prog 114 #[y] w fun e a=>e= .returned (.iface t' (.pointer (some ⟨i,0,none⟩)))∧w=a)
 (he:(binOp .eql 44 (.iface 143 (.pointer (some ⟨b,0,none⟩))) (.iface t' (.pointer (some ⟨i,0,none⟩)))).run Tryz.prog w= .ok (.bool false) w):
 Calls Tryz.prog 174 #[.pointer (some ⟨c,0,none⟩),x,y,st] w fun e a=>e= .returned (.bool false)∧w=a:=by
 have f:∀W,(Instr.typeAssert (.iface 143 (.pointer (some ⟨b,0,none⟩))) 44 105 true).run Tryz.prog W= .ok (.tuple #[.pointer none,.bool false]) W:=fun W=>by rw[bn,if_neg (by decide)]
 have g:∀W,(Instr.typeAssert (.iface 143 (.pointer (some ⟨b,0,none⟩))) 44 141 true).run Tryz.prog W= .ok (.tuple #[.pointer none,.bool false]) W:=fun W=>by rw[cw,if_neg (by decide)]
 have h:∀W,(Instr.typeAssert (.iface 143 (.pointer (some ⟨b,0,none⟩))) 44 143 true).run Tryz.prog W= .ok (.tuple #[.pointer (some ⟨b,0,none⟩),.bool true]) W:=fun W=>by rw[asSlice,if_pos rfl]
 have n:∀W,(Instr.typeAssert (.iface t' (.pointer (some ⟨i,0,none⟩))) 44 143 true).run Tryz.prog W= .ok (.tuple #[.pointer none,.bool false]) W:=fun W=>by rw[asSlice,if_neg d]
 clear d m;go_enter Tryz.func174,Tryz.ntmps174;go_wp2_with fail
 refine j.mono ?_;rintro e a ⟨rfl,rfl⟩;go_wp2_with fail
 refine k.mono ?_;rintro e a ⟨rfl,rfl⟩;go_wp2_with fail
 go_ret;exact⟨rfl,rfl⟩
theorem zX(c b j t':Nat)(x y st:Value)(w:World)(m:st= .pointer none∨∃s,st= .pointer (some ⟨s,0,none⟩))(n:t'≠139)(f:t'≠213)(h1:w.cell? ⟨c,1,none⟩=some (.bool false))
 (k:Calls Tryz.prog 114 #[x] w fun e a=>e= .returned (.iface 213 (.pointer (some ⟨b,0,none⟩)))∧w=a)(l:Calls Tryz.prog 114 #[y] w fun e a=>e= .returned (.iface t' (.pointer (some ⟨j,0,none⟩)))∧w=a)
 (he:(binOp .eql 44 (.iface 213 (.pointer (some ⟨b,0,none⟩))) (.iface t' (.pointer (some ⟨j,0,none⟩)))).run Tryz.prog w= .ok (.bool false) w):
 Calls Tryz.prog 174 #[.pointer (some ⟨c,0,none⟩),x,y,st] w fun e a=>e= .returned (.bool false)∧w=a:=by
 have g:∀W,(Instr.typeAssert (.iface 213 (.pointer (some ⟨b,0,none⟩))) 44 105 true).run Tryz.prog W= .ok (.tuple #[.pointer none,.bool false]) W:=fun W=>by rw[bn,if_neg (by decide)]
 have h:∀W,(Instr.typeAssert (.iface 213 (.pointer (some ⟨b,0,none⟩))) 44 141 true).run Tryz.prog W= .ok (.tuple #[.pointer none,.bool false]) W:=fun W=>by rw[cw,if_neg (by decide)]
 have i:∀W,(Instr.typeAssert (.iface 213 (.pointer (some ⟨b,0,none⟩))) 44 143 true).run Tryz.prog W= .ok (.tuple #[.pointer none,.bool false]) W:=fun W=>by rw[asSlice,if_neg (by decide)]
 have d:∀W,(Instr.typeAssert (.iface 213 (.pointer (some ⟨b,0,none⟩))) 44 213 true).run Tryz.prog W= .ok (.tuple #[.pointer (some ⟨b,0,none⟩),.bool true]) W:=fun W=>by rw[cJ,if_pos rfl]
 have o:∀W,(Instr.typeAssert (.iface t' (.pointer (some ⟨j,0,none⟩))) 44 213 true).run Tryz.prog W= .ok (.tuple #[.pointer none,.bool false]) W:=fun W=>by rw[cJ,if_neg f]
 clear f n;go_enter Tryz.func174,Tryz.ntmps174;go_wp2_with fail
 refine k.mono ?_;rintro e a ⟨rfl,rfl⟩;go_wp2_with fail
 refine l.mono ?_;rintro e a ⟨rfl,rfl⟩;go_wp2_with fail
 go_ret;exact⟨rfl,rfl⟩
theorem zY(c b k t':Nat)(x y st:Value)(w:World)(n:st= .pointer none∨∃s,st= .pointer (some ⟨s,0,none⟩))(o:t'≠139)(g:t'≠145)(h1:w.cell? ⟨c,1,none⟩=some (.bool false))
 (l:Calls Tryz.prog 114 #[x] w fun e a=>e= .returned (.iface 145 (.pointer (some ⟨b,0,none⟩)))∧w=a)(m:Calls Tryz.prog 114 #[y] w fun e a=>e= .returned (.iface t' (.pointer (some ⟨k,0,none⟩)))∧w=a)
 (he:(binOp .eql 44 (.iface 145 (.pointer (some ⟨b,0,none⟩))) (.iface t' (.pointer (some ⟨k,0,none⟩)))).run Tryz.prog w= .ok (.bool false) w):
 Calls Tryz.prog 174 #[.pointer (some ⟨c,0,none⟩),x,y,st] w fun e a=>e= .returned (.bool false)∧w=a:=by
 have h:∀W,(Instr.typeAssert (.iface 145 (.pointer (some ⟨b,0,none⟩))) 44 105 true).run Tryz.prog W= .ok (.tuple #[.pointer none,.bool false]) W:=fun W=>by rw[bn,if_neg (by decide)]
 have i:∀W,(Instr.typeAssert (.iface 145 (.pointer (some ⟨b,0,none⟩))) 44 141 true).run Tryz.prog W= .ok (.tuple #[.pointer none,.bool false]) W:=fun W=>by rw[cw,if_neg (by decide)]
 have j:∀W,(Instr.typeAssert (.iface 145 (.pointer (some ⟨b,0,none⟩))) 44 143 true).run Tryz.prog W= .ok (.tuple #[.pointer none,.bool false]) W:=fun W=>by rw[asSlice,if_neg (by decide)]
 have f:∀W,(Instr.typeAssert (.iface 145 (.pointer (some ⟨b,0,none⟩))) 44 213 true).run Tryz.prog W= .ok (.tuple #[.pointer none,.bool false]) W:=fun W=>by rw[cJ,if_neg (by decide)]
 have d:∀W,(Instr.typeAssert (.iface 145 (.pointer (some ⟨b,0,none⟩))) 44 145 true).run Tryz.prog W= .ok (.tuple #[.pointer (some ⟨b,0,none⟩),.bool true]) W:=fun W=>by rw[cy,if_pos rfl]
 have p:∀W,(Instr.typeAssert (.iface t' (.pointer (some ⟨k,0,none⟩))) 44 145 true).run Tryz.prog W= .ok (.tuple #[.pointer none,.bool false]) W:=fun W=>by rw[cy,if_neg g]
 clear g o;go_enter Tryz.func174,Tryz.ntmps174;go_wp2_with fail
 refine l.mono ?_;rintro e a ⟨rfl,rfl⟩;go_wp2_with fail
 refine m.mono ?_;rintro e a ⟨rfl,rfl⟩;go_wp2_with fail
 go_ret;exact⟨rfl,rfl⟩
theorem zZ(c b m t':Nat)(x y st:Value)(w:World)(p:st= .pointer none∨∃s,st= .pointer (some ⟨s,0,none⟩))(q:t'≠139)(h:t'≠108)(h1:w.cell? ⟨c,1,none⟩=some (.bool false))
 (n:Calls Tryz.prog 114 #[x] w fun e d=>e= .returned (.iface 108 (.pointer (some ⟨b,0,none⟩)))∧w=d)(o:Calls Tryz.prog 114 #[y] w fun e d=>e= .returned (.iface t' (.pointer (some ⟨m,0,none⟩)))∧w=d)
 (he:(binOp .eql 44 (.iface 108 (.pointer (some ⟨b,0,none⟩))) (.iface t' (.pointer (some ⟨m,0,none⟩)))).run Tryz.prog w= .ok (.bool false) w):
 Calls Tryz.prog 174 #[.pointer (some ⟨c,0,none⟩),x,y,st] w fun e d=>e= .returned (.bool false)∧w=d:=by
 have i:∀W,(Instr.typeAssert (.iface 108 (.pointer (some ⟨b,0,none⟩))) 44 105 true).run Tryz.prog W= .ok (.tuple #[.pointer none,.bool false]) W:=fun W=>by rw[bn,if_neg (by decide)]
 have j:∀W,(Instr.typeAssert (.iface 108 (.pointer (some ⟨b,0,none⟩))) 44 141 true).run Tryz.prog W= .ok (.tuple #[.pointer none,.bool false]) W:=fun W=>by rw[cw,if_neg (by decide)]
 have k:∀W,(Instr.typeAssert (.iface 108 (.pointer (some ⟨b,0,none⟩))) 44 143 true).run Tryz.prog W= .ok (.tuple #[.pointer none,.bool false]) W:=fun W=>by rw[asSlice,if_neg (by decide)]
 have g:∀W,(Instr.typeAssert (.iface 108 (.pointer (some ⟨b,0,none⟩))) 44 213 true).run Tryz.prog W= .ok (.tuple #[.pointer none,.bool false]) W:=fun W=>by rw[cJ,if_neg (by decide)]
 have f:∀W,(Instr.typeAssert (.iface 108 (.pointer (some ⟨b,0,none⟩))) 44 145 true).run Tryz.prog W= .ok (.tuple #[.pointer none,.bool false]) W:=fun W=>by rw[cy,if_neg (by decide)]
 have l:∀W,(Instr.typeAssert (.iface 108 (.pointer (some ⟨b,0,none⟩))) 44 109 true).run Tryz.prog W= .ok (.tuple #[.pointer none,.bool false]) W:=fun W=>by rw[asTuple,if_neg (by decide)]
 have a:∀W,(Instr.typeAssert (.iface 108 (.pointer (some ⟨b,0,none⟩))) 44 108 true).run Tryz.prog W= .ok (.tuple #[.pointer (some ⟨b,0,none⟩),.bool true]) W:=fun W=>by rw[fH,if_pos rfl]
 have r:∀W,(Instr.typeAssert (.iface t' (.pointer (some ⟨m,0,none⟩))) 44 108 true).run Tryz.prog W= .ok (.tuple #[.pointer none,.bool false]) W:=fun W=>by rw[fH,if_neg h]
 clear h q;go_enter Tryz.func174,Tryz.ntmps174;go_wp2_with fail
 refine n.mono ?_;rintro e d ⟨rfl,rfl⟩;go_wp2_with fail
 refine o.mono ?_;rintro e d ⟨rfl,rfl⟩;go_wp2_with fail
 go_ret;exact⟨rfl,rfl⟩
theorem z8(c b o t':Nat)(x y st:Value)(w:World)(r:st= .pointer none∨∃s,st= .pointer (some ⟨s,0,none⟩))(t:t'≠139)(i:t'≠33)(h1:w.cell? ⟨c,1,none⟩=some (.bool false))
 (p:Calls Tryz.prog 114 #[x] w fun e f=>e= .returned (.iface 33 (.pointer (some ⟨b,0,none⟩)))∧w=f)(q:Calls Tryz.prog 114 #[y] w fun e f=>e= .returned (.iface t' (.pointer (some ⟨o,0,none⟩)))∧w=f)
 (he:(binOp .eql 44 (.iface 33 (.pointer (some ⟨b,0,none⟩))) (.iface t' (.pointer (some ⟨o,0,none⟩)))).run Tryz.prog w= .ok (.bool false) w):
 Calls Tryz.prog 174 #[.pointer (some ⟨c,0,none⟩),x,y,st] w fun e f=>e= .returned (.bool false)∧w=f:=by
 have j:∀W,(Instr.typeAssert (.iface 33 (.pointer (some ⟨b,0,none⟩))) 44 105 true).run Tryz.prog W= .ok (.tuple #[.pointer none,.bool false]) W:=fun W=>by rw[bn,if_neg (by decide)]
 have k:∀W,(Instr.typeAssert (.iface 33 (.pointer (some ⟨b,0,none⟩))) 44 141 true).run Tryz.prog W= .ok (.tuple #[.pointer none,.bool false]) W:=fun W=>by rw[cw,if_neg (by decide)]
 have l:∀W,(Instr.typeAssert (.iface 33 (.pointer (some ⟨b,0,none⟩))) 44 143 true).run Tryz.prog W= .ok (.tuple #[.pointer none,.bool false]) W:=fun W=>by rw[asSlice,if_neg (by decide)]
 have h:∀W,(Instr.typeAssert (.iface 33 (.pointer (some ⟨b,0,none⟩))) 44 213 true).run Tryz.prog W= .ok (.tuple #[.pointer none,.bool false]) W:=fun W=>by rw[cJ,if_neg (by decide)]
 have g:∀W,(Instr.typeAssert (.iface 33 (.pointer (some ⟨b,0,none⟩))) 44 145 true).run Tryz.prog W= .ok (.tuple #[.pointer none,.bool false]) W:=fun W=>by rw[cy,if_neg (by decide)]
 have m:∀W,(Instr.typeAssert (.iface 33 (.pointer (some ⟨b,0,none⟩))) 44 109 true).run Tryz.prog W= .ok (.tuple #[.pointer none,.bool false]) W:=fun W=>by rw[asTuple,if_neg (by decide)]
 have a:∀W,(Instr.typeAssert (.iface 33 (.pointer (some ⟨b,0,none⟩))) 44 108 true).run Tryz.prog W= .ok (.tuple #[.pointer none,.bool false]) W:=fun W=>by rw[fH,if_neg (by decide)]
 have n:∀W,(Instr.typeAssert (.iface 33 (.pointer (some ⟨b,0,none⟩))) 44 189 true).run Tryz.prog W= .ok (.tuple #[.pointer none,.bool false]) W:=fun W=>by rw[gx,if_neg (by decide)]
 have d:∀W,(Instr.typeAssert (.iface 33 (.pointer (some ⟨b,0,none⟩))) 44 33 true).run Tryz.prog W= .ok (.tuple #[.pointer (some ⟨b,0,none⟩),.bool true]) W:=fun W=>by rw[dB,if_pos rfl]
 have u:∀W,(Instr.typeAssert (.iface t' (.pointer (some ⟨o,0,none⟩))) 44 33 true).run Tryz.prog W= .ok (.tuple #[.pointer none,.bool false]) W:=fun W=>by rw[dB,if_neg i]
 clear i t;go_enter Tryz.func174,Tryz.ntmps174;go_wp2_with fail
 refine p.mono ?_;rintro e f ⟨rfl,rfl⟩;go_wp2_with fail
 refine q.mono ?_;rintro e f ⟨rfl,rfl⟩;go_wp2_with fail
 go_ret;exact⟨rfl,rfl⟩
theorem z_(c b o t':Nat)(x y st:Value)(w:World)(t:st= .pointer none∨∃s,st= .pointer (some ⟨s,0,none⟩))(u:t'≠139)(i:t'≠147)(h1:w.cell? ⟨c,1,none⟩=some (.bool false))
 (p:Calls Tryz.prog 114 #[x] w fun e f=>e= .returned (.iface 147 (.pointer (some ⟨b,0,none⟩)))∧w=f)(q:Calls Tryz.prog 114 #[y] w fun e f=>e= .returned (.iface t' (.pointer (some ⟨o,0,none⟩)))∧w=f)
 (he:(binOp .eql 44 (.iface 147 (.pointer (some ⟨b,0,none⟩))) (.iface t' (.pointer (some ⟨o,0,none⟩)))).run Tryz.prog w= .ok (.bool false) w):
 Calls Tryz.prog 174 #[.pointer (some ⟨c,0,none⟩),x,y,st] w fun e f=>e= .returned (.bool false)∧w=f:=by
 have j:∀W,(Instr.typeAssert (.iface 147 (.pointer (some ⟨b,0,none⟩))) 44 105 true).run Tryz.prog W= .ok (.tuple #[.pointer none,.bool false]) W:=fun W=>by rw[bn,if_neg (by decide)]
 have k:∀W,(Instr.typeAssert (.iface 147 (.pointer (some ⟨b,0,none⟩))) 44 141 true).run Tryz.prog W= .ok (.tuple #[.pointer none,.bool false]) W:=fun W=>by rw[cw,if_neg (by decide)]
 have l:∀W,(Instr.typeAssert (.iface 147 (.pointer (some ⟨b,0,none⟩))) 44 143 true).run Tryz.prog W= .ok (.tuple #[.pointer none,.bool false]) W:=fun W=>by rw[asSlice,if_neg (by decide)]
 have h:∀W,(Instr.typeAssert (.iface 147 (.pointer (some ⟨b,0,none⟩))) 44 213 true).run Tryz.prog W= .ok (.tuple #[.pointer none,.bool false]) W:=fun W=>by rw[cJ,if_neg (by decide)]
 have g:∀W,(Instr.typeAssert (.iface 147 (.pointer (some ⟨b,0,none⟩))) 44 145 true).run Tryz.prog W= .ok (.tuple #[.pointer none,.bool false]) W:=fun W=>by rw[cy,if_neg (by decide)]
 have m:∀W,(Instr.typeAssert (.iface 147 (.pointer (some ⟨b,0,none⟩))) 44 109 true).run Tryz.prog W= .ok (.tuple #[.pointer none,.bool false]) W:=fun W=>by rw[asTuple,if_neg (by decide)]
 have a:∀W,(Instr.typeAssert (.iface 147 (.pointer (some ⟨b,0,none⟩))) 44 108 true).run Tryz.prog W= .ok (.tuple #[.pointer none,.bool false]) W:=fun W=>by rw[fH,if_neg (by decide)]
 have n:∀W,(Instr.typeAssert (.iface 147 (.pointer (some ⟨b,0,none⟩))) 44 189 true).run Tryz.prog W= .ok (.tuple #[.pointer none,.bool false]) W:=fun W=>by rw[gx,if_neg (by decide)]
 have d:∀W,(Instr.typeAssert (.iface 147 (.pointer (some ⟨b,0,none⟩))) 44 33 true).run Tryz.prog W= .ok (.tuple #[.pointer none,.bool false]) W:=fun W=>by rw[dB,if_neg (by decide)]
 have r:∀W,(Instr.typeAssert (.iface 147 (.pointer (some ⟨b,0,none⟩))) 44 147 true).run Tryz.prog W= .ok (.tuple #[.pointer (some ⟨b,0,none⟩),.bool true]) W:=fun W=>by rw[iw,if_pos rfl]
 have v:∀W,(Instr.typeAssert (.iface t' (.pointer (some ⟨o,0,none⟩))) 44 147 true).run Tryz.prog W= .ok (.tuple #[.pointer none,.bool false]) W:=fun W=>by rw[iw,if_neg i]
 clear i u;go_enter Tryz.func174,Tryz.ntmps174;go_wp2_with fail
 refine p.mono ?_;rintro e f ⟨rfl,rfl⟩;go_wp2_with fail
 refine q.mono ?_;rintro e f ⟨rfl,rfl⟩;go_wp2_with fail
 go_ret;exact⟨rfl,rfl⟩
theorem Aa(c b p t':Nat)(x y st:Value)(w:World)(u:st= .pointer none∨∃s,st= .pointer (some ⟨s,0,none⟩))(v:t'≠139)(i:t'≠149)(h1:w.cell? ⟨c,1,none⟩=some (.bool false))
 (q:Calls Tryz.prog 114 #[x] w fun e f=>e= .returned (.iface 149 (.pointer (some ⟨b,0,none⟩)))∧w=f)(r:Calls Tryz.prog 114 #[y] w fun e f=>e= .returned (.iface t' (.pointer (some ⟨p,0,none⟩)))∧w=f)
 (he:(binOp .eql 44 (.iface 149 (.pointer (some ⟨b,0,none⟩))) (.iface t' (.pointer (some ⟨p,0,none⟩)))).run Tryz.prog w= .ok (.bool false) w):
 Calls Tryz.prog 174 #[.pointer (some ⟨c,0,none⟩),x,y,st] w fun e f=>e= .returned (.bool false)∧w=f:=by
 have j:∀W,(Instr.typeAssert (.iface 149 (.pointer (some ⟨b,0,none⟩))) 44 105 true).run Tryz.prog W= .ok (.tuple #[.pointer none,.bool false]) W:=fun W=>by rw[bn,if_neg (by decide)]
 have k:∀W,(Instr.typeAssert (.iface 149 (.pointer (some ⟨b,0,none⟩))) 44 141 true).run Tryz.prog W= .ok (.tuple #[.pointer none,.bool false]) W:=fun W=>by rw[cw,if_neg (by decide)]
 have l:∀W,(Instr.typeAssert (.iface 149 (.pointer (some ⟨b,0,none⟩))) 44 143 true).run Tryz.prog W= .ok (.tuple #[.pointer none,.bool false]) W:=fun W=>by rw[asSlice,if_neg (by decide)]
 have h:∀W,(Instr.typeAssert (.iface 149 (.pointer (some ⟨b,0,none⟩))) 44 213 true).run Tryz.prog W= .ok (.tuple #[.pointer none,.bool false]) W:=fun W=>by rw[cJ,if_neg (by decide)]
 have g:∀W,(Instr.typeAssert (.iface 149 (.pointer (some ⟨b,0,none⟩))) 44 145 true).run Tryz.prog W= .ok (.tuple #[.pointer none,.bool false]) W:=fun W=>by rw[cy,if_neg (by decide)]
 have m:∀W,(Instr.typeAssert (.iface 149 (.pointer (some ⟨b,0,none⟩))) 44 109 true).run Tryz.prog W= .ok (.tuple #[.pointer none,.bool false]) W:=fun W=>by rw[asTuple,if_neg (by decide)]
 have a:∀W,(Instr.typeAssert (.iface 149 (.pointer (some ⟨b,0,none⟩))) 44 108 true).run Tryz.prog W= .ok (.tuple #[.pointer none,.bool false]) W:=fun W=>by rw[fH,if_neg (by decide)]
 have n:∀W,(Instr.typeAssert (.iface 149 (.pointer (some ⟨b,0,none⟩))) 44 189 true).run Tryz.prog W= .ok (.tuple #[.pointer none,.bool false]) W:=fun W=>by rw[gx,if_neg (by decide)]
 have d:∀W,(Instr.typeAssert (.iface 149 (.pointer (some ⟨b,0,none⟩))) 44 33 true).run Tryz.prog W= .ok (.tuple #[.pointer none,.bool false]) W:=fun W=>by rw[dB,if_neg (by decide)]
 have t:∀W,(Instr.typeAssert (.iface 149 (.pointer (some ⟨b,0,none⟩))) 44 147 true).run Tryz.prog W= .ok (.tuple #[.pointer none,.bool false]) W:=fun W=>by rw[iw,if_neg (by decide)]
 have o:∀W,(Instr.typeAssert (.iface 149 (.pointer (some ⟨b,0,none⟩))) 44 149 true).run Tryz.prog W= .ok (.tuple #[.pointer (some ⟨b,0,none⟩),.bool true]) W:=fun W=>by rw[dK,if_pos rfl]
 have z:∀W,(Instr.typeAssert (.iface t' (.pointer (some ⟨p,0,none⟩))) 44 149 true).run Tryz.prog W= .ok (.tuple #[.pointer none,.bool false]) W:=fun W=>by rw[dK,if_neg i]
 clear i v;go_enter Tryz.func174,Tryz.ntmps174;go_wp2_with fail
 refine q.mono ?_;rintro e f ⟨rfl,rfl⟩;go_wp2_with fail
 refine r.mono ?_;rintro e f ⟨rfl,rfl⟩;go_wp2_with fail
 go_ret;exact⟨rfl,rfl⟩
theorem oE(c b q t':Nat)(x y st:Value)(w:World)(z:st= .pointer none∨∃s,st= .pointer (some ⟨s,0,none⟩))(v:t'≠139)(i:t'≠66)(h1:w.cell? ⟨c,1,none⟩=some (.bool false))
 (r:Calls Tryz.prog 114 #[x] w fun e f=>e= .returned (.iface 66 (.pointer (some ⟨b,0,none⟩)))∧w=f)(t:Calls Tryz.prog 114 #[y] w fun e f=>e= .returned (.iface t' (.pointer (some ⟨q,0,none⟩)))∧w=f)
 (he:(binOp .eql 44 (.iface 66 (.pointer (some ⟨b,0,none⟩))) (.iface t' (.pointer (some ⟨q,0,none⟩)))).run Tryz.prog w= .ok (.bool false) w):
 Calls Tryz.prog 174 #[.pointer (some ⟨c,0,none⟩),x,y,st] w fun e f=>e= .returned (.bool false)∧w=f:=by
 have j:∀W,(Instr.typeAssert (.iface 66 (.pointer (some ⟨b,0,none⟩))) 44 105 true).run Tryz.prog W= .ok (.tuple #[.pointer none,.bool false]) W:=fun W=>by rw[bn,if_neg (by decide)]
 have k:∀W,(Instr.typeAssert (.iface 66 (.pointer (some ⟨b,0,none⟩))) 44 141 true).run Tryz.prog W= .ok (.tuple #[.pointer none,.bool false]) W:=fun W=>by rw[cw,if_neg (by decide)]
 have l:∀W,(Instr.typeAssert (.iface 66 (.pointer (some ⟨b,0,none⟩))) 44 143 true).run Tryz.prog W= .ok (.tuple #[.pointer none,.bool false]) W:=fun W=>by rw[asSlice,if_neg (by decide)]
 have h:∀W,(Instr.typeAssert (.iface 66 (.pointer (some ⟨b,0,none⟩))) 44 213 true).run Tryz.prog W= .ok (.tuple #[.pointer none,.bool false]) W:=fun W=>by rw[cJ,if_neg (by decide)]
 have g:∀W,(Instr.typeAssert (.iface 66 (.pointer (some ⟨b,0,none⟩))) 44 145 true).run Tryz.prog W= .ok (.tuple #[.pointer none,.bool false]) W:=fun W=>by rw[cy,if_neg (by decide)]
 have m:∀W,(Instr.typeAssert (.iface 66 (.pointer (some ⟨b,0,none⟩))) 44 109 true).run Tryz.prog W= .ok (.tuple #[.pointer none,.bool false]) W:=fun W=>by rw[asTuple,if_neg (by decide)]
 have a:∀W,(Instr.typeAssert (.iface 66 (.pointer (some ⟨b,0,none⟩))) 44 108 true).run Tryz.prog W= .ok (.tuple #[.pointer none,.bool false]) W:=fun W=>by rw[fH,if_neg (by decide)]
 have n:∀W,(Instr.typeAssert (.iface 66 (.pointer (some ⟨b,0,none⟩))) 44 189 true).run Tryz.prog W= .ok (.tuple #[.pointer none,.bool false]) W:=fun W=>by rw[gx,if_neg (by decide)]
 have d:∀W,(Instr.typeAssert (.iface 66 (.pointer (some ⟨b,0,none⟩))) 44 33 true).run Tryz.prog W= .ok (.tuple #[.pointer none,.bool false]) W:=fun W=>by rw[dB,if_neg (by decide)]
 have u:∀W,(Instr.typeAssert (.iface 66 (.pointer (some ⟨b,0,none⟩))) 44 147 true).run Tryz.prog W= .ok (.tuple #[.pointer none,.bool false]) W:=fun W=>by rw[iw,if_neg (by decide)]
 have p:∀W,(Instr.typeAssert (.iface 66 (.pointer (some ⟨b,0,none⟩))) 44 149 true).run Tryz.prog W= .ok (.tuple #[.pointer none,.bool false]) W:=fun W=>by rw[dK,if_neg (by decide)]
 have o:∀W,(Instr.typeAssert (.iface 66 (.pointer (some ⟨b,0,none⟩))) 44 66 true).run Tryz.prog W= .ok (.tuple #[.pointer (some ⟨b,0,none⟩),.bool true]) W:=fun W=>by rw[asNamed,if_pos rfl]
 have A:=Lib.hid (oq t' (some ⟨q,0,none⟩) v i w);clear i v;go_enter Tryz.func174,Tryz.ntmps174;go_wp2_with fail
 refine r.mono ?_;rintro e f ⟨rfl,rfl⟩;go_wp2_with fail
 refine t.mono ?_;rintro e f ⟨rfl,rfl⟩;go_wp2_with fail
 refine A.out.mono ?_;rintro e f ⟨rfl,rfl⟩;go_wp2_with fail
 go_ret;exact⟨rfl,rfl⟩
end Go.Proofs.YtgbklbbknehefaaGreatDoor
namespace TS
open Go Go.RowKit Go.Sort
theorem a_{w:World}{a:Addr}{v:Value}(h:w.cell? a=some v):∀(n:Nat)(os:Array Obj),(grow (w.drewN n) os).cell? a=some v:=fun n os=>(aq.of w n os).cell h
end TS
namespace Go.Proofs.YtgbklbbknehefaaGreatDoor
open Go.RowKit TS Go.Sort
def dD(c:Nat)(x y st:Value)(r:Bool)(w:World):Prop:=∀(n:Nat)(os:Array Obj),Calls Tryz.prog 174 #[.pointer (some ⟨c,0,none⟩),x,y,st] (grow (w.drewN n) os) fun e a=>e= .returned (.bool r)∧aq (grow (w.drewN n) os) a
theorem dD.at{c:Nat}{x y st:Value}{r:Bool}{w:World}(h:dD c x y st r w)(n:Nat)(os:Array Obj):
 Calls Tryz.prog 174 #[.pointer (some ⟨c,0,none⟩),x,y,st] (grow (w.drewN n) os) fun e a=>e= .returned (.bool r)∧∃p:GrownBy,a=grow (w.drewN p.n) p.os:=
 Calls.grown_of ((h n os).mono fun _ _ ⟨he,m,b,e⟩=>⟨he,m,b,e⟩)
theorem Ab(c b d:Nat)(x y st:Value)(w:World)(o p q t:Nat)(r:Bool)(v:st= .pointer none∨∃s,st= .pointer (some ⟨s,0,none⟩))(h1:w.cell? ⟨c,1,none⟩=some (.bool false))(A:w.cell? ⟨c,0,none⟩=some (.bool false))
 (j:Calls Tryz.prog 114 #[x] w fun e a=>e= .returned (.iface 143 (.pointer (some ⟨b,0,none⟩)))∧w=a)(k:Calls Tryz.prog 114 #[y] w fun e a=>e= .returned (.iface 143 (.pointer (some ⟨d,0,none⟩)))∧w=a)
 (he:(binOp .eql 44 (.iface 143 (.pointer (some ⟨b,0,none⟩))) (.iface 143 (.pointer (some ⟨d,0,none⟩)))).run Tryz.prog w= .ok (.bool false) w)
 (z:w.cell? ⟨b,0,none⟩=some (.iface o (.pointer (some ⟨p,0,none⟩))))(l:w.cell? ⟨d,0,none⟩=some (.iface q (.pointer (some ⟨t,0,none⟩))))(u:dD c (.iface o (.pointer (some ⟨p,0,none⟩))) (.iface q (.pointer (some ⟨t,0,none⟩))) st r w):
 Calls Tryz.prog 174 #[.pointer (some ⟨c,0,none⟩),x,y,st] w fun e a=>e= .returned (.bool r)∧aq w a:=by
 have f:∀W,(Instr.typeAssert (.iface 143 (.pointer (some ⟨b,0,none⟩))) 44 105 true).run Tryz.prog W= .ok (.tuple #[.pointer none,.bool false]) W:=fun W=>by rw[bn,if_neg (by decide)]
 have g:∀W,(Instr.typeAssert (.iface 143 (.pointer (some ⟨b,0,none⟩))) 44 141 true).run Tryz.prog W= .ok (.tuple #[.pointer none,.bool false]) W:=fun W=>by rw[cw,if_neg (by decide)]
 have h:∀W,(Instr.typeAssert (.iface 143 (.pointer (some ⟨b,0,none⟩))) 44 143 true).run Tryz.prog W= .ok (.tuple #[.pointer (some ⟨b,0,none⟩),.bool true]) W:=fun W=>by rw[asSlice,if_pos rfl]
 have B:∀W,(Instr.typeAssert (.iface 143 (.pointer (some ⟨d,0,none⟩))) 44 143 true).run Tryz.prog W= .ok (.tuple #[.pointer (some ⟨d,0,none⟩),.bool true]) W:=fun W=>by rw[asSlice,if_pos rfl]
 have g1:=a_ z;have g2:=a_ l;have m:=Lib.hid u;clear u;go_enter Tryz.func174,Tryz.ntmps174;go_wp2_with fail
 refine j.mono ?_;rintro e a ⟨rfl,rfl⟩;go_wp2_with fail
 refine k.mono ?_;rintro e a ⟨rfl,rfl⟩;go_wp2_with fail
 refine wp_region_quiet_grown (by kernel_rfl) (by kernel_rfl) ?_;repeat(go_big_quiet_step (first|(go_at_call 174;with_reducible exact m.out.at _ _)))
 refine wpQuiet_nil ?_;intro _ n;obtain⟨⟨nq,osq⟩,i⟩:=n;subst i;go_wp2_with fail
 go_ret;exact⟨rfl,_,_,rfl⟩
theorem Ac(c b g:Nat)(x y st:Value)(w:World)(q t u v:Nat)(r:Bool)(A:st= .pointer none∨∃s,st= .pointer (some ⟨s,0,none⟩))(h1:w.cell? ⟨c,1,none⟩=some (.bool false))(C:w.cell? ⟨c,0,none⟩=some (.bool false))
 (l:Calls Tryz.prog 114 #[x] w fun e a=>e= .returned (.iface 145 (.pointer (some ⟨b,0,none⟩)))∧w=a)(m:Calls Tryz.prog 114 #[y] w fun e a=>e= .returned (.iface 145 (.pointer (some ⟨g,0,none⟩)))∧w=a)
 (he:(binOp .eql 44 (.iface 145 (.pointer (some ⟨b,0,none⟩))) (.iface 145 (.pointer (some ⟨g,0,none⟩)))).run Tryz.prog w= .ok (.bool false) w)
 (B:w.cell? ⟨b,0,none⟩=some (.iface q (.pointer (some ⟨t,0,none⟩))))(n:w.cell? ⟨g,0,none⟩=some (.iface u (.pointer (some ⟨v,0,none⟩))))(z:dD c (.iface q (.pointer (some ⟨t,0,none⟩))) (.iface u (.pointer (some ⟨v,0,none⟩))) st r w):
 Calls Tryz.prog 174 #[.pointer (some ⟨c,0,none⟩),x,y,st] w fun e a=>e= .returned (.bool r)∧aq w a:=by
 have h:∀W,(Instr.typeAssert (.iface 145 (.pointer (some ⟨b,0,none⟩))) 44 105 true).run Tryz.prog W= .ok (.tuple #[.pointer none,.bool false]) W:=fun W=>by rw[bn,if_neg (by decide)]
 have i:∀W,(Instr.typeAssert (.iface 145 (.pointer (some ⟨b,0,none⟩))) 44 141 true).run Tryz.prog W= .ok (.tuple #[.pointer none,.bool false]) W:=fun W=>by rw[cw,if_neg (by decide)]
 have j:∀W,(Instr.typeAssert (.iface 145 (.pointer (some ⟨b,0,none⟩))) 44 143 true).run Tryz.prog W= .ok (.tuple #[.pointer none,.bool false]) W:=fun W=>by rw[asSlice,if_neg (by decide)]
 have f:∀W,(Instr.typeAssert (.iface 145 (.pointer (some ⟨b,0,none⟩))) 44 213 true).run Tryz.prog W= .ok (.tuple #[.pointer none,.bool false]) W:=fun W=>by rw[cJ,if_neg (by decide)]
 have d:∀W,(Instr.typeAssert (.iface 145 (.pointer (some ⟨b,0,none⟩))) 44 145 true).run Tryz.prog W= .ok (.tuple #[.pointer (some ⟨b,0,none⟩),.bool true]) W:=fun W=>by rw[cy,if_pos rfl]
 have D:∀W,(Instr.typeAssert (.iface 145 (.pointer (some ⟨g,0,none⟩))) 44 145 true).run Tryz.prog W= .ok (.tuple #[.pointer (some ⟨g,0,none⟩),.bool true]) W:=fun W=>by rw[cy,if_pos rfl]
 have g1:=a_ B;have g2:=a_ n;have o:=Lib.hid z;clear z;go_enter Tryz.func174,Tryz.ntmps174;go_wp2_with fail
 refine l.mono ?_;rintro e a ⟨rfl,rfl⟩;go_wp2_with fail
 refine m.mono ?_;rintro e a ⟨rfl,rfl⟩;go_wp2_with fail
 refine wp_region_quiet_grown (by kernel_rfl) (by kernel_rfl) ?_;repeat(go_big_quiet_step (first|(go_at_call 174;with_reducible exact o.out.at _ _)))
 refine wpQuiet_nil ?_;intro _ p;obtain⟨⟨nq,osq⟩,k⟩:=p;subst k;go_wp2_with fail
 go_ret;exact⟨rfl,_,_,rfl⟩
theorem dD.cC{c:Nat}{x y st:Value}{r:Bool}{w b:World}(h:dD c x y st r w)(k:aq w b):dD c x y st r b:=by
 intro n os;obtain⟨m,a,rfl⟩:=k;have:=h (m+n) (a++os);have e:grow (w.drewN (m+n)) (a++os)=grow ((grow (w.drewN m) a).drewN n) os:=by rw[←grow_grow,←World.drewN_drewN];rfl
 rw[e]at this;exact this
theorem Ad(b:Nat)(w:World):Calls Tryz.prog 67 #[.iface 66 (.pointer (some ⟨b,0,none⟩))] w fun e a=>e= .returned (.pointer (some ⟨b,0,none⟩))∧w=a:=by
 have h1:∀W,(Instr.typeAssert (.iface 66 (.pointer (some ⟨b,0,none⟩))) 44 66 true).run Tryz.prog W= .ok (.tuple #[.pointer (some ⟨b,0,none⟩),.bool true]) W:=fun W=>by rw[asNamed,if_pos rfl]
 go_enter Tryz.func67,Tryz.ntmps67;go_wp2_with fail
 refine(ep 66 _ (by decide) _).mono ?_;rintro e a ⟨rfl,rfl⟩;go_wp2_with fail
 go_ret;exact⟨rfl,rfl⟩
theorem Ae(c b d:Nat)(x y st:Value)(w:World)(k m:Int)(n:st= .pointer none∨∃s,st= .pointer (some ⟨s,0,none⟩))(h1:w.cell? ⟨c,1,none⟩=some (.bool false))(p:w.cell? ⟨c,0,none⟩=some (.bool false))
 (h:Calls Tryz.prog 114 #[x] w fun e a=>e= .returned (.iface 105 (.pointer (some ⟨b,0,none⟩)))∧w=a)(i:Calls Tryz.prog 114 #[y] w fun e a=>e= .returned (.iface 105 (.pointer (some ⟨d,0,none⟩)))∧w=a)
 (he:(binOp .eql 44 (.iface 105 (.pointer (some ⟨b,0,none⟩))) (.iface 105 (.pointer (some ⟨d,0,none⟩)))).run Tryz.prog w= .ok (.bool false) w)
 (o:w.cell? ⟨b,0,none⟩=some (.int .i64 k))(j:w.cell? ⟨d,0,none⟩=some (.int .i64 m)):
 Calls Tryz.prog 174 #[.pointer (some ⟨c,0,none⟩),x,y,st] w fun e a=>e= .returned (.bool (k==m))∧aq w a:=by
 have f:∀W,(Instr.typeAssert (.iface 105 (.pointer (some ⟨b,0,none⟩))) 44 105 true).run Tryz.prog W= .ok (.tuple #[.pointer (some ⟨b,0,none⟩),.bool true]) W:=fun W=>by rw[bn,if_pos rfl]
 have q:∀W,(Instr.typeAssert (.iface 105 (.pointer (some ⟨d,0,none⟩))) 44 105 true).run Tryz.prog W= .ok (.tuple #[.pointer (some ⟨d,0,none⟩),.bool true]) W:=fun W=>by rw[bn,if_pos rfl]
 have g1:=a_ o;have g2:=a_ j;go_enter Tryz.func174,Tryz.ntmps174;go_wp2_with fail
 refine h.mono ?_;rintro e a ⟨rfl,rfl⟩;go_wp2_with fail
 refine i.mono ?_;rintro e a ⟨rfl,rfl⟩;go_wp2_with fail
 refine wp_region_quiet_grown (by kernel_rfl) (by kernel_rfl) ?_;repeat(go_big_quiet_step (fail))
 refine wpQuiet_nil ?_;intro _ l;obtain⟨⟨nq,osq⟩,g⟩:=l;subst g;go_wp2_with fail
 go_ret;exact⟨rfl,_,_,rfl⟩
theorem Af(c b d:Nat)(x y st:Value)(w:World)(n f:Int)(B:0≤n)(j:0≤f)(t u v z:Nat)(r:Bool)(C:st= .pointer none∨∃s,st= .pointer (some ⟨s,0,none⟩))(h1:w.cell? ⟨c,1,none⟩=some (.bool false))(G:w.cell? ⟨c,0,none⟩=some (.bool false))
 (k:Calls Tryz.prog 114 #[x] w fun e a=>e= .returned (.iface 141 (.pointer (some ⟨b,0,none⟩)))∧w=a)(l:Calls Tryz.prog 114 #[y] w fun e a=>e= .returned (.iface 141 (.pointer (some ⟨d,0,none⟩)))∧w=a)
 (he:(binOp .eql 44 (.iface 141 (.pointer (some ⟨b,0,none⟩))) (.iface 141 (.pointer (some ⟨d,0,none⟩)))).run Tryz.prog w= .ok (.bool false) w)
 (D:w.cell? ⟨b,0,none⟩=some (.int .i64 n))(m:w.cell? ⟨d,0,none⟩=some (.int .i64 f))(E:w.cell? ⟨b,1,none⟩=some (.iface t (.pointer (some ⟨u,0,none⟩))))(o:w.cell? ⟨d,1,none⟩=some (.iface v (.pointer (some ⟨z,0,none⟩))))(A:dD c (.iface t (.pointer (some ⟨u,0,none⟩))) (.iface v (.pointer (some ⟨z,0,none⟩))) st r w):
 Calls Tryz.prog 174 #[.pointer (some ⟨c,0,none⟩),x,y,st] w fun e a=>e= .returned (.bool ((n==f)&&r))∧aq w a:=by
 have g:∀W,(Instr.typeAssert (.iface 141 (.pointer (some ⟨b,0,none⟩))) 44 105 true).run Tryz.prog W= .ok (.tuple #[.pointer none,.bool false]) W:=fun W=>by rw[bn,if_neg (by decide)]
 have h:∀W,(Instr.typeAssert (.iface 141 (.pointer (some ⟨b,0,none⟩))) 44 141 true).run Tryz.prog W= .ok (.tuple #[.pointer (some ⟨b,0,none⟩),.bool true]) W:=fun W=>by rw[cw,if_pos rfl]
 have H:∀W,(Instr.typeAssert (.iface 141 (.pointer (some ⟨d,0,none⟩))) 44 141 true).run Tryz.prog W= .ok (.tuple #[.pointer (some ⟨d,0,none⟩),.bool true]) W:=fun W=>by rw[cw,if_pos rfl]
 have g1:=a_ D;have g2:=a_ m;have g3:=a_ E;have g4:=a_ o;have I:decide (n<0)=false:=by simp;omega
 have J:decide (f<0)=false:=by simp;omega
 clear B j;have p:=Lib.hid A;clear A;cases F:(n==f)
 all_goals
  go_enter Tryz.func174,Tryz.ntmps174;go_wp2_with fail
  refine k.mono ?_;rintro e a ⟨rfl,rfl⟩;go_wp2_with fail
  refine l.mono ?_;rintro e a ⟨rfl,rfl⟩;go_wp2_with fail
  refine wp_region_quiet_grown (by kernel_rfl) (by kernel_rfl) ?_;repeat(go_big_quiet_step (first|(go_at_call 174;with_reducible exact p.out.at _ _)))
  refine wpQuiet_nil ?_;intro _ q;obtain⟨⟨nq,osq⟩,i⟩:=q;subst i;go_wp2_with fail
  go_ret;exact⟨by simp,_,_,rfl⟩
theorem Ag(c b h:Nat)(x y st:Value)(w:World)(n t:Int)(E F G H:Nat)(r:Bool)(J:st= .pointer none∨∃s,st= .pointer (some ⟨s,0,none⟩))(h1:w.cell? ⟨c,1,none⟩=some (.bool false))(N:w.cell? ⟨c,0,none⟩=some (.bool false))
 (u:Calls Tryz.prog 114 #[x] w fun e f=>e= .returned (.iface 149 (.pointer (some ⟨b,0,none⟩)))∧w=f)(v:Calls Tryz.prog 114 #[y] w fun e f=>e= .returned (.iface 149 (.pointer (some ⟨h,0,none⟩)))∧w=f)
 (he:(binOp .eql 44 (.iface 149 (.pointer (some ⟨b,0,none⟩))) (.iface 149 (.pointer (some ⟨h,0,none⟩)))).run Tryz.prog w= .ok (.bool false) w)
 (K:w.cell? ⟨b,0,none⟩=some (.int .i64 n))(z:w.cell? ⟨h,0,none⟩=some (.int .i64 t))(L:w.cell? ⟨b,1,none⟩=some (.iface E (.pointer (some ⟨F,0,none⟩))))(A:w.cell? ⟨h,1,none⟩=some (.iface G (.pointer (some ⟨H,0,none⟩))))(I:dD c (.iface E (.pointer (some ⟨F,0,none⟩))) (.iface G (.pointer (some ⟨H,0,none⟩))) st r w):
 Calls Tryz.prog 174 #[.pointer (some ⟨c,0,none⟩),x,y,st] w fun e f=>e= .returned (.bool ((n==t)&&r))∧aq w f:=by
 have j:∀W,(Instr.typeAssert (.iface 149 (.pointer (some ⟨b,0,none⟩))) 44 105 true).run Tryz.prog W= .ok (.tuple #[.pointer none,.bool false]) W:=fun W=>by rw[bn,if_neg (by decide)]
 have k:∀W,(Instr.typeAssert (.iface 149 (.pointer (some ⟨b,0,none⟩))) 44 141 true).run Tryz.prog W= .ok (.tuple #[.pointer none,.bool false]) W:=fun W=>by rw[cw,if_neg (by decide)]
 have l:∀W,(Instr.typeAssert (.iface 149 (.pointer (some ⟨b,0,none⟩))) 44 143 true).run Tryz.prog W= .ok (.tuple #[.pointer none,.bool false]) W:=fun W=>by rw[asSlice,if_neg (by decide)]
 have i:∀W,(Instr.typeAssert (.iface 149 (.pointer (some ⟨b,0,none⟩))) 44 213 true).run Tryz.prog W= .ok (.tuple #[.pointer none,.bool false]) W:=fun W=>by rw[cJ,if_neg (by decide)]
 have g:∀W,(Instr.typeAssert (.iface 149 (.pointer (some ⟨b,0,none⟩))) 44 145 true).run Tryz.prog W= .ok (.tuple #[.pointer none,.bool false]) W:=fun W=>by rw[cy,if_neg (by decide)]
 have m:∀W,(Instr.typeAssert (.iface 149 (.pointer (some ⟨b,0,none⟩))) 44 109 true).run Tryz.prog W= .ok (.tuple #[.pointer none,.bool false]) W:=fun W=>by rw[asTuple,if_neg (by decide)]
 have a:∀W,(Instr.typeAssert (.iface 149 (.pointer (some ⟨b,0,none⟩))) 44 108 true).run Tryz.prog W= .ok (.tuple #[.pointer none,.bool false]) W:=fun W=>by rw[fH,if_neg (by decide)]
 have o:∀W,(Instr.typeAssert (.iface 149 (.pointer (some ⟨b,0,none⟩))) 44 189 true).run Tryz.prog W= .ok (.tuple #[.pointer none,.bool false]) W:=fun W=>by rw[gx,if_neg (by decide)]
 have d:∀W,(Instr.typeAssert (.iface 149 (.pointer (some ⟨b,0,none⟩))) 44 33 true).run Tryz.prog W= .ok (.tuple #[.pointer none,.bool false]) W:=fun W=>by rw[dB,if_neg (by decide)]
 have B:∀W,(Instr.typeAssert (.iface 149 (.pointer (some ⟨b,0,none⟩))) 44 147 true).run Tryz.prog W= .ok (.tuple #[.pointer none,.bool false]) W:=fun W=>by rw[iw,if_neg (by decide)]
 have q:∀W,(Instr.typeAssert (.iface 149 (.pointer (some ⟨b,0,none⟩))) 44 149 true).run Tryz.prog W= .ok (.tuple #[.pointer (some ⟨b,0,none⟩),.bool true]) W:=fun W=>by rw[dK,if_pos rfl]
 have O:∀W,(Instr.typeAssert (.iface 149 (.pointer (some ⟨h,0,none⟩))) 44 149 true).run Tryz.prog W= .ok (.tuple #[.pointer (some ⟨h,0,none⟩),.bool true]) W:=fun W=>by rw[dK,if_pos rfl]
 have g1:=a_ K;have g2:=a_ z;have g3:=a_ L;have g4:=a_ A;have C:=Lib.hid I;clear I;cases M:(n==t)
 all_goals
  go_enter Tryz.func174,Tryz.ntmps174;go_wp2_with fail
  refine u.mono ?_;rintro e f ⟨rfl,rfl⟩;go_wp2_with fail
  refine v.mono ?_;rintro e f ⟨rfl,rfl⟩;go_wp2_with fail
  refine wp_region_quiet_grown (by kernel_rfl) (by kernel_rfl) ?_;repeat(go_big_quiet_step (first|(go_at_call 174;with_reducible exact C.out.at _ _)))
  refine wpQuiet_nil ?_;intro _ D;obtain⟨⟨nq,osq⟩,p⟩:=D;subst p;go_wp2_with fail
  go_ret;exact⟨by simp,_,_,rfl⟩
theorem Ah(c b h:Nat)(x y st:Value)(w:World)(G H I J j k l m:Nat)(r K:Bool)(N:st= .pointer none∨∃s,st= .pointer (some ⟨s,0,none⟩))(h1:w.cell? ⟨c,1,none⟩=some (.bool false))(Q:w.cell? ⟨c,0,none⟩=some (.bool false))
 (v:Calls Tryz.prog 114 #[x] w fun e f=>e= .returned (.iface 147 (.pointer (some ⟨b,0,none⟩)))∧w=f)(z:Calls Tryz.prog 114 #[y] w fun e f=>e= .returned (.iface 147 (.pointer (some ⟨h,0,none⟩)))∧w=f)
 (he:(binOp .eql 44 (.iface 147 (.pointer (some ⟨b,0,none⟩))) (.iface 147 (.pointer (some ⟨h,0,none⟩)))).run Tryz.prog w= .ok (.bool false) w)
 (O:w.cell? ⟨b,0,none⟩=some (.iface G (.pointer (some ⟨H,0,none⟩))))(A:w.cell? ⟨h,0,none⟩=some (.iface I (.pointer (some ⟨J,0,none⟩))))(P:w.cell? ⟨b,1,none⟩=some (.iface j (.pointer (some ⟨k,0,none⟩))))(B:w.cell? ⟨h,1,none⟩=some (.iface l (.pointer (some ⟨m,0,none⟩))))(L:dD c (.iface G (.pointer (some ⟨H,0,none⟩))) (.iface I (.pointer (some ⟨J,0,none⟩))) st r w)(M:dD c (.iface j (.pointer (some ⟨k,0,none⟩))) (.iface l (.pointer (some ⟨m,0,none⟩))) st K w):
 Calls Tryz.prog 174 #[.pointer (some ⟨c,0,none⟩),x,y,st] w fun e f=>e= .returned (.bool (r&&K))∧aq w f:=by
 have n:∀W,(Instr.typeAssert (.iface 147 (.pointer (some ⟨b,0,none⟩))) 44 105 true).run Tryz.prog W= .ok (.tuple #[.pointer none,.bool false]) W:=fun W=>by rw[bn,if_neg (by decide)]
 have o:∀W,(Instr.typeAssert (.iface 147 (.pointer (some ⟨b,0,none⟩))) 44 141 true).run Tryz.prog W= .ok (.tuple #[.pointer none,.bool false]) W:=fun W=>by rw[cw,if_neg (by decide)]
 have p:∀W,(Instr.typeAssert (.iface 147 (.pointer (some ⟨b,0,none⟩))) 44 143 true).run Tryz.prog W= .ok (.tuple #[.pointer none,.bool false]) W:=fun W=>by rw[asSlice,if_neg (by decide)]
 have i:∀W,(Instr.typeAssert (.iface 147 (.pointer (some ⟨b,0,none⟩))) 44 213 true).run Tryz.prog W= .ok (.tuple #[.pointer none,.bool false]) W:=fun W=>by rw[cJ,if_neg (by decide)]
 have g:∀W,(Instr.typeAssert (.iface 147 (.pointer (some ⟨b,0,none⟩))) 44 145 true).run Tryz.prog W= .ok (.tuple #[.pointer none,.bool false]) W:=fun W=>by rw[cy,if_neg (by decide)]
 have q:∀W,(Instr.typeAssert (.iface 147 (.pointer (some ⟨b,0,none⟩))) 44 109 true).run Tryz.prog W= .ok (.tuple #[.pointer none,.bool false]) W:=fun W=>by rw[asTuple,if_neg (by decide)]
 have a:∀W,(Instr.typeAssert (.iface 147 (.pointer (some ⟨b,0,none⟩))) 44 108 true).run Tryz.prog W= .ok (.tuple #[.pointer none,.bool false]) W:=fun W=>by rw[fH,if_neg (by decide)]
 have t:∀W,(Instr.typeAssert (.iface 147 (.pointer (some ⟨b,0,none⟩))) 44 189 true).run Tryz.prog W= .ok (.tuple #[.pointer none,.bool false]) W:=fun W=>by rw[gx,if_neg (by decide)]
 have d:∀W,(Instr.typeAssert (.iface 147 (.pointer (some ⟨b,0,none⟩))) 44 33 true).run Tryz.prog W= .ok (.tuple #[.pointer none,.bool false]) W:=fun W=>by rw[dB,if_neg (by decide)]
 have C:∀W,(Instr.typeAssert (.iface 147 (.pointer (some ⟨b,0,none⟩))) 44 147 true).run Tryz.prog W= .ok (.tuple #[.pointer (some ⟨b,0,none⟩),.bool true]) W:=fun W=>by rw[iw,if_pos rfl]
 have R:∀W,(Instr.typeAssert (.iface 147 (.pointer (some ⟨h,0,none⟩))) 44 147 true).run Tryz.prog W= .ok (.tuple #[.pointer (some ⟨h,0,none⟩),.bool true]) W:=fun W=>by rw[iw,if_pos rfl]
 have g1:=a_ O;have g2:=a_ A;have g3:=a_ P;have g4:=a_ B;have D:=Lib.hid L;have E:=Lib.hid M;clear L M;cases r
 all_goals
  go_enter Tryz.func174,Tryz.ntmps174;go_wp2_with fail
  refine v.mono ?_;rintro e f ⟨rfl,rfl⟩;go_wp2_with fail
  refine z.mono ?_;rintro e f ⟨rfl,rfl⟩;go_wp2_with fail
  refine wp_region_quiet_grown (by kernel_rfl) (by kernel_rfl) ?_;repeat(go_big_quiet_step (first|(go_at_call 174;first|with_reducible exact D.out.at _ _|with_reducible exact E.out.at _ _)))
  refine wpQuiet_nil ?_;intro _ F;obtain⟨⟨nq,osq⟩,u⟩:=F;subst u;go_wp2_with fail
  go_ret;exact⟨by simp,_,_,rfl⟩
theorem Ai(c b i:Nat)(x y st:Value)(w:World)(ob oc:Nat)(B:st= .pointer none∨∃s,st= .pointer (some ⟨s,0,none⟩))(h1:w.cell? ⟨c,1,none⟩=some (.bool false))(F:w.cell? ⟨c,0,none⟩=some (.bool false))
 (r:Calls Tryz.prog 114 #[x] w fun e a=>e= .returned (.iface 66 (.pointer (some ⟨b,0,none⟩)))∧w=a)(t:Calls Tryz.prog 114 #[y] w fun e a=>e= .returned (.iface 66 (.pointer (some ⟨i,0,none⟩)))∧w=a)
 (he:(binOp .eql 44 (.iface 66 (.pointer (some ⟨b,0,none⟩))) (.iface 66 (.pointer (some ⟨i,0,none⟩)))).run Tryz.prog w= .ok (.bool false) w)
 (C:w.cell? ⟨b,1,none⟩=some (.pointer (some ⟨ob,0,none⟩)))(u:w.cell? ⟨i,1,none⟩=some (.pointer (some ⟨oc,0,none⟩)))(z:Plain w ob)(A:Plain w oc):
 Calls Tryz.prog 174 #[.pointer (some ⟨c,0,none⟩),x,y,st] w fun e a=>e= .returned (.bool (decide (ob=oc)))∧aq w a:=by
 have j:∀W,(Instr.typeAssert (.iface 66 (.pointer (some ⟨b,0,none⟩))) 44 105 true).run Tryz.prog W= .ok (.tuple #[.pointer none,.bool false]) W:=fun W=>by rw[bn,if_neg (by decide)]
 have k:∀W,(Instr.typeAssert (.iface 66 (.pointer (some ⟨b,0,none⟩))) 44 141 true).run Tryz.prog W= .ok (.tuple #[.pointer none,.bool false]) W:=fun W=>by rw[cw,if_neg (by decide)]
 have l:∀W,(Instr.typeAssert (.iface 66 (.pointer (some ⟨b,0,none⟩))) 44 143 true).run Tryz.prog W= .ok (.tuple #[.pointer none,.bool false]) W:=fun W=>by rw[asSlice,if_neg (by decide)]
 have h:∀W,(Instr.typeAssert (.iface 66 (.pointer (some ⟨b,0,none⟩))) 44 213 true).run Tryz.prog W= .ok (.tuple #[.pointer none,.bool false]) W:=fun W=>by rw[cJ,if_neg (by decide)]
 have g:∀W,(Instr.typeAssert (.iface 66 (.pointer (some ⟨b,0,none⟩))) 44 145 true).run Tryz.prog W= .ok (.tuple #[.pointer none,.bool false]) W:=fun W=>by rw[cy,if_neg (by decide)]
 have m:∀W,(Instr.typeAssert (.iface 66 (.pointer (some ⟨b,0,none⟩))) 44 109 true).run Tryz.prog W= .ok (.tuple #[.pointer none,.bool false]) W:=fun W=>by rw[asTuple,if_neg (by decide)]
 have d:∀W,(Instr.typeAssert (.iface 66 (.pointer (some ⟨b,0,none⟩))) 44 108 true).run Tryz.prog W= .ok (.tuple #[.pointer none,.bool false]) W:=fun W=>by rw[fH,if_neg (by decide)]
 have o:∀W,(Instr.typeAssert (.iface 66 (.pointer (some ⟨b,0,none⟩))) 44 189 true).run Tryz.prog W= .ok (.tuple #[.pointer none,.bool false]) W:=fun W=>by rw[gx,if_neg (by decide)]
 have f:∀W,(Instr.typeAssert (.iface 66 (.pointer (some ⟨b,0,none⟩))) 44 33 true).run Tryz.prog W= .ok (.tuple #[.pointer none,.bool false]) W:=fun W=>by rw[dB,if_neg (by decide)]
 have v:∀W,(Instr.typeAssert (.iface 66 (.pointer (some ⟨b,0,none⟩))) 44 147 true).run Tryz.prog W= .ok (.tuple #[.pointer none,.bool false]) W:=fun W=>by rw[iw,if_neg (by decide)]
 have q:∀W,(Instr.typeAssert (.iface 66 (.pointer (some ⟨b,0,none⟩))) 44 149 true).run Tryz.prog W= .ok (.tuple #[.pointer none,.bool false]) W:=fun W=>by rw[dK,if_neg (by decide)]
 have p:∀W,(Instr.typeAssert (.iface 66 (.pointer (some ⟨b,0,none⟩))) 44 66 true).run Tryz.prog W= .ok (.tuple #[.pointer (some ⟨b,0,none⟩),.bool true]) W:=fun W=>by rw[asNamed,if_pos rfl]
 have D:=Lib.hid (Ad i w);have E:=Lib.hid (zS b i ob oc w C u z A);clear z A;go_enter Tryz.func174,Tryz.ntmps174;go_wp2_with fail
 refine r.mono ?_;rintro e a ⟨rfl,rfl⟩;go_wp2_with fail
 refine t.mono ?_;rintro e a ⟨rfl,rfl⟩;go_wp2_with fail
 refine D.out.mono ?_;rintro e a ⟨rfl,rfl⟩;go_wp2_with fail
 refine E.out.mono ?_;rintro e a ⟨rfl,n,rfl⟩;go_wp2_with fail
 go_ret;exact⟨rfl,aq.drewN _ _⟩
end Go.Proofs.YtgbklbbknehefaaGreatDoor
namespace TS
open Go Go.RowKit Go.Sort
def bu(n:Nat)(r:Nat→Bool):Bool:=(List.range n).all r
theorem jO{n:Nat}{r:Nat→Bool}(h:∀i,i<n→r i=true):bu n r=true:=by unfold bu;rw[List.all_eq_true];intro i hi;exact h i (List.mem_range.1 hi)
theorem jP{n:Nat}{r:Nat→Bool}{i:Nat}(hi:i<n)(h:r i=false):bu n r=false:=by
 rw[Bool.eq_false_iff];intro ha;unfold bu at ha;rw[List.all_eq_true]at ha;rw[ha i (List.mem_range.2 hi)]at h;cases h
theorem bj.cC{w c:World}{a:Option Addr}{n:Nat}{f:Nat→Nat}(h:bj w a n f)(k:aq w c):bj c a n f:=fun i hi=>let⟨b,o,e,d⟩:=h i hi;⟨b,o,e,k.cell d⟩
end TS
namespace Go.Proofs.YtgbklbbknehefaaGreatDoor
open Go.RowKit TS Go.Sort
theorem Aj(c b A n v X H:Nat)(a a':Option Addr)(f Y Z xb yt yb:Nat→Nat)(rs:Nat→Bool)(st:Value)(w:World)(P6:st= .pointer none∨∃s,st= .pointer (some ⟨s,0,none⟩))(h1:w.cell? ⟨c,1,none⟩=some (.bool false))
 (he:(binOp .eql 44 (.iface 109 (.pointer (some ⟨b,0,none⟩))) (.iface 109 (.pointer (some ⟨A,0,none⟩)))).run Tryz.prog w= .ok (.bool false) w)(hn:n≤1099511627776)
 (hc:w.cell? ⟨b,0,none⟩=some (.slice a n X))(I:w.cell? ⟨A,0,none⟩=some (.slice a' v H))(hp:bj w a n f)(J:bj w a' v Y)
 (hx:∀i,i<n→w.cell? ⟨f i,3,none⟩=some (.iface (Z i) (.pointer (some ⟨xb i,0,none⟩))))(hy:∀i,i<v→w.cell? ⟨Y i,3,none⟩=some (.iface (yt i) (.pointer (some ⟨yb i,0,none⟩))))
 (hP:n=v→∀i,i<n→dD c (.iface (Z i) (.pointer (some ⟨xb i,0,none⟩))) (.iface (yt i) (.pointer (some ⟨yb i,0,none⟩))) st (rs i) w):
 Calls Tryz.prog 174 #[.pointer (some ⟨c,0,none⟩),.iface 109 (.pointer (some ⟨b,0,none⟩)),.iface 109 (.pointer (some ⟨A,0,none⟩)),st] w fun e x=>e= .returned (.bool (decide (n=v)&&bu n rs))∧aq w x:=by
 have p:∀W,(Instr.typeAssert (.iface 109 (.pointer (some ⟨b,0,none⟩))) 44 105 true).run Tryz.prog W= .ok (.tuple #[.pointer none,.bool false]) W:=fun W=>by rw[bn,if_neg (by decide)]
 have q:∀W,(Instr.typeAssert (.iface 109 (.pointer (some ⟨b,0,none⟩))) 44 141 true).run Tryz.prog W= .ok (.tuple #[.pointer none,.bool false]) W:=fun W=>by rw[cw,if_neg (by decide)]
 have r:∀W,(Instr.typeAssert (.iface 109 (.pointer (some ⟨b,0,none⟩))) 44 143 true).run Tryz.prog W= .ok (.tuple #[.pointer none,.bool false]) W:=fun W=>by rw[asSlice,if_neg (by decide)]
 have l:∀W,(Instr.typeAssert (.iface 109 (.pointer (some ⟨b,0,none⟩))) 44 213 true).run Tryz.prog W= .ok (.tuple #[.pointer none,.bool false]) W:=fun W=>by rw[cJ,if_neg (by decide)]
 have g:∀W,(Instr.typeAssert (.iface 109 (.pointer (some ⟨b,0,none⟩))) 44 145 true).run Tryz.prog W= .ok (.tuple #[.pointer none,.bool false]) W:=fun W=>by rw[cy,if_neg (by decide)]
 have t:∀W,(Instr.typeAssert (.iface 109 (.pointer (some ⟨b,0,none⟩))) 44 109 true).run Tryz.prog W= .ok (.tuple #[.pointer (some ⟨b,0,none⟩),.bool true]) W:=fun W=>by rw[asTuple,if_pos rfl]
 have ay:∀W,(Instr.typeAssert (.iface 109 (.pointer (some ⟨A,0,none⟩))) 44 109 true).run Tryz.prog W= .ok (.tuple #[.pointer (some ⟨A,0,none⟩),.bool true]) W:=fun W=>by rw[asTuple,if_pos rfl]
 have B:=Lib.hid (ep 109 (.pointer (some ⟨b,0,none⟩)) (by decide) w);have C:=Lib.hid (ep 109 (.pointer (some ⟨A,0,none⟩)) (by decide) w);have R:=Lib.hid (kP b n X a w hc);have D:=Lib.hid (kP A v H a' w I);have hq:=Lib.hid hp;have K:=Lib.hid J;have L:=Lib.hid hx;have M:=Lib.hid hy;have E:=Lib.hid hP;clear hp J hx hy hP;by_cases F:n=v
 ·subst F
  have S:((n:Int)==(n:Int))=true:=by simp
  have T:=Lib.hid (E.out rfl);clear E;go_enter Tryz.func174,Tryz.ntmps174;go_wp2_with fail
  refine B.out.mono ?_;rintro e x ⟨rfl,rfl⟩;go_wp2_with fail
  refine C.out.mono ?_;rintro e x ⟨rfl,rfl⟩;go_wp2_with fail
  refine R.out.mono ?_;rintro e x ⟨rfl,rfl⟩;go_wp2_with fail
  refine D.out.mono ?_;rintro e x ⟨rfl,rfl⟩;go_wp2_with fail
  clear B C R D he p q r l g t ay;have hw:Hid (aq w w):=aq.refl w;go_loopw [303] (fun i wr=> ∃k:Nat,k≤n∧i= .int .i64 k∧aq w wr∧∀j,j<k→rs j=true) (fun i _=>n- (intOf i).toNat)
  case atStart=>exact⟨0,Nat.zero_le _,rfl,hw.out,fun j U=>absurd U (Nat.not_lt_zero _)⟩
  case round=>
   obtain⟨k,hk,rfl,Q,hA⟩:=hrel;have d:=Lib.hid Q;have N:=Lib.hid hA;have P7:=Q.cell hc;have P4:=Q.cell I;clear Q hA;by_cases m:k<n
   ·have P5:(k:Int)<n:=by omega
    obtain⟨ab,ao,rfl,O⟩:=hq.out k m;obtain⟨P8,P9,rfl,z⟩:=K.out k m;have hr:=d.out.cell O;have P_:=d.out.cell z;have hv:=d.out.cell (L.out k m);have V:=d.out.cell (M.out k m);have g1:=a_ hv;have g2:=a_ V;have y:=Lib.hid ((T.out k m).cC d.out);clear O z;cases o:rs k
    ·have hF:Hid (bu n rs=false):=jP m o
     rw[o]at y;clear o;go_wp2_with fail
     refine wp_region_quiet_grown (by kernel_rfl) (by kernel_rfl) ?_;repeat(go_big_quiet_step (first|(go_at_call 174;with_reducible exact y.out.at _ _)))
     refine wpQuiet_nil ?_;intro _ G;obtain⟨⟨nq,osq⟩,u⟩:=G;subst u;go_wp2_with fail
     go_ret;exact⟨by rw[hF.out];simp,d.out.trans (aq.of _ _ _)⟩
    ·rw[o]at y
     have P:=Lib.hid o;clear o;go_wp2_with fail
     refine wp_region_quiet_grown (by kernel_rfl) (by kernel_rfl) ?_;repeat(go_big_quiet_step (first|(go_at_call 174;with_reducible exact y.out.at _ _)))
     refine wpQuiet_nil ?_;intro _ G;obtain⟨⟨nq,osq⟩,u⟩:=G;subst u;go_wp2_with fail
     refine⟨⟨k+1,by omega,by go_num,d.out.trans (aq.of _ _ _),fun j U=> ?_⟩,?_⟩
     ·rcases Nat.lt_succ_iff_lt_or_eq.1 U with h|rfl
      ·exact N.out j h
      ·exact P.out
     ·first|omega|(simp[intOf];omega)
   ·have Qa:¬(k:Int)<n:=by omega
    have hT:Hid (bu n rs=true):=jO fun i hi=>N.out i (by omega);go_wp2_with fail
    go_ret;exact⟨by rw[hT.out];simp,d.out⟩
 ·have S:((n:Int)==(v:Int))=false:=by simp;omega
  have hd:Hid (decide (n=v)=false):=by simp[Hid,F]
  clear F E L M hq K;go_enter Tryz.func174,Tryz.ntmps174;go_wp2_with fail
  refine B.out.mono ?_;rintro e x ⟨rfl,rfl⟩;go_wp2_with fail
  refine C.out.mono ?_;rintro e x ⟨rfl,rfl⟩;go_wp2_with fail
  refine R.out.mono ?_;rintro e x ⟨rfl,rfl⟩;go_wp2_with fail
  refine D.out.mono ?_;rintro e x ⟨rfl,rfl⟩;go_wp2_with fail
  go_ret;exact⟨by rw[hd.out];rfl,aq.refl _⟩
theorem sj(W:World)(v:Option Addr):(binOp .eql 44 (.iface 109 (.pointer none)) (.iface 109 (.pointer v))).run Tryz.prog W= .ok (.bool v.isNone) W:=by
 obtain⟨e,i,j,b,hi,a,f,g⟩:=mq;have c:∀d,(Op.equalIn (d+2) 44 (.iface 109 (.pointer none)) (.iface 109 (.pointer v))).run Tryz.prog W= .ok v.isNone W:=fun d=>by simp[Op.equalIn,run_underlying Tryz.underlying44,run_underlying b,typeInfo,hi,a]
 simp only[binOp];simp[Op.equal,Op.maxDepth,c 9998]
theorem Ak(W:World)(a:Addr):(binOp .eql 44 (.iface 109 (.pointer (some a))) (.iface 109 (.pointer none))).run Tryz.prog W= .ok (.bool false) W:=by
 obtain⟨f,i,j,c,hi,b,g,h⟩:=mq;have e:∀d,(Op.equalIn (d+2) 44 (.iface 109 (.pointer (some a))) (.iface 109 (.pointer none))).run Tryz.prog W= .ok false W:=fun d=>by simp[Op.equalIn,run_underlying Tryz.underlying44,run_underlying c,typeInfo,hi,b]
 simp only[binOp];simp[Op.equal,Op.maxDepth,e 9998]
theorem id_eq(c:Nat)(x y st:Value)(t b:Nat)(v:Value)(w:World)(d:Calls Tryz.prog 114 #[x] w fun e a=>e= .returned (.iface t v)∧w=a)(f:Calls Tryz.prog 114 #[y] w fun e a=>e= .returned (.iface t v)∧w=a)
 (he:(binOp .eql 44 (.iface t v) (.iface t v)).run Tryz.prog w= .ok (.bool true) w):
 Calls Tryz.prog 174 #[.pointer (some ⟨c,0,none⟩),x,y,st] w fun e a=>e= .returned (.bool true)∧w=a:=by
 go_enter Tryz.func174,Tryz.ntmps174;go_wp2_with fail
 refine d.mono ?_;rintro e a ⟨rfl,rfl⟩;go_wp2_with fail
 refine f.mono ?_;rintro e a ⟨rfl,rfl⟩;go_wp2_with fail
 go_ret;exact⟨rfl,rfl⟩
theorem Al(c a l f:Nat)(a':Option Addr)(st:Value)(w:World)(q:st= .pointer none∨∃s,st= .pointer (some ⟨s,0,none⟩))(h1:w.cell? ⟨c,1,none⟩=some (.bool false))(r:0<l)(m:w.cell? ⟨a,0,none⟩=some (.slice a' l f)):
 Calls Tryz.prog 174 #[.pointer (some ⟨c,0,none⟩),.iface 109 (.pointer none),.iface 109 (.pointer (some ⟨a,0,none⟩)),st] w fun e g=>e= .returned (.bool false)∧w=g:=by
 have h:∀W,(Instr.typeAssert (.iface 109 (.pointer none)) 44 105 true).run Tryz.prog W= .ok (.tuple #[.pointer none,.bool false]) W:=fun W=>by rw[bn,if_neg (by decide)]
 have i:∀W,(Instr.typeAssert (.iface 109 (.pointer none)) 44 141 true).run Tryz.prog W= .ok (.tuple #[.pointer none,.bool false]) W:=fun W=>by rw[cw,if_neg (by decide)]
 have j:∀W,(Instr.typeAssert (.iface 109 (.pointer none)) 44 143 true).run Tryz.prog W= .ok (.tuple #[.pointer none,.bool false]) W:=fun W=>by rw[asSlice,if_neg (by decide)]
 have d:∀W,(Instr.typeAssert (.iface 109 (.pointer none)) 44 213 true).run Tryz.prog W= .ok (.tuple #[.pointer none,.bool false]) W:=fun W=>by rw[cJ,if_neg (by decide)]
 have b:∀W,(Instr.typeAssert (.iface 109 (.pointer none)) 44 145 true).run Tryz.prog W= .ok (.tuple #[.pointer none,.bool false]) W:=fun W=>by rw[cy,if_neg (by decide)]
 have k:∀W,(Instr.typeAssert (.iface 109 (.pointer none)) 44 109 true).run Tryz.prog W= .ok (.tuple #[.pointer none,.bool true]) W:=fun W=>by rw[asTuple,if_pos rfl]
 have v:∀W,(Instr.typeAssert (.iface 109 (.pointer (some ⟨a,0,none⟩))) 44 109 true).run Tryz.prog W= .ok (.tuple #[.pointer (some ⟨a,0,none⟩),.bool true]) W:=fun W=>by rw[asTuple,if_pos rfl]
 have n:=Lib.hid (ep 109 (.pointer none) (by decide) w);have o:=Lib.hid (ep 109 (.pointer (some ⟨a,0,none⟩)) (by decide) w);have t:=Lib.hid (se w);have p:=Lib.hid (kP a l f a' w m);have he:(binOp .eql 44 (.iface 109 (.pointer none)) (.iface 109 (.pointer (some ⟨a,0,none⟩)))).run Tryz.prog w= .ok (.bool false) w:=sj w (some ⟨a,0,none⟩);have u:((0:Int)==(l:Int))=false:=by simp;omega
 go_enter Tryz.func174,Tryz.ntmps174;go_wp2_with fail
 refine n.out.mono ?_;rintro e g ⟨rfl,rfl⟩;go_wp2_with fail
 refine o.out.mono ?_;rintro e g ⟨rfl,rfl⟩;go_wp2_with fail
 refine t.out.mono ?_;rintro e g ⟨rfl,rfl⟩;go_wp2_with fail
 refine p.out.mono ?_;rintro e g ⟨rfl,rfl⟩;go_wp2_with fail
 go_ret;exact⟨rfl,rfl⟩
theorem Am(c b n p:Nat)(a:Option Addr)(st:Value)(w:World)(q:st= .pointer none∨∃s,st= .pointer (some ⟨s,0,none⟩))(h1:w.cell? ⟨c,1,none⟩=some (.bool false))(r:0<n)(t:w.cell? ⟨b,0,none⟩=some (.slice a n p)):
 Calls Tryz.prog 174 #[.pointer (some ⟨c,0,none⟩),.iface 109 (.pointer (some ⟨b,0,none⟩)),.iface 109 (.pointer none),st] w fun e g=>e= .returned (.bool false)∧w=g:=by
 have h:∀W,(Instr.typeAssert (.iface 109 (.pointer (some ⟨b,0,none⟩))) 44 105 true).run Tryz.prog W= .ok (.tuple #[.pointer none,.bool false]) W:=fun W=>by rw[bn,if_neg (by decide)]
 have i:∀W,(Instr.typeAssert (.iface 109 (.pointer (some ⟨b,0,none⟩))) 44 141 true).run Tryz.prog W= .ok (.tuple #[.pointer none,.bool false]) W:=fun W=>by rw[cw,if_neg (by decide)]
 have j:∀W,(Instr.typeAssert (.iface 109 (.pointer (some ⟨b,0,none⟩))) 44 143 true).run Tryz.prog W= .ok (.tuple #[.pointer none,.bool false]) W:=fun W=>by rw[asSlice,if_neg (by decide)]
 have f:∀W,(Instr.typeAssert (.iface 109 (.pointer (some ⟨b,0,none⟩))) 44 213 true).run Tryz.prog W= .ok (.tuple #[.pointer none,.bool false]) W:=fun W=>by rw[cJ,if_neg (by decide)]
 have d:∀W,(Instr.typeAssert (.iface 109 (.pointer (some ⟨b,0,none⟩))) 44 145 true).run Tryz.prog W= .ok (.tuple #[.pointer none,.bool false]) W:=fun W=>by rw[cy,if_neg (by decide)]
 have k:∀W,(Instr.typeAssert (.iface 109 (.pointer (some ⟨b,0,none⟩))) 44 109 true).run Tryz.prog W= .ok (.tuple #[.pointer (some ⟨b,0,none⟩),.bool true]) W:=fun W=>by rw[asTuple,if_pos rfl]
 have x:∀W,(Instr.typeAssert (.iface 109 (.pointer none)) 44 109 true).run Tryz.prog W= .ok (.tuple #[.pointer none,.bool true]) W:=fun W=>by rw[asTuple,if_pos rfl]
 have l:=Lib.hid (ep 109 (.pointer (some ⟨b,0,none⟩)) (by decide) w);have m:=Lib.hid (ep 109 (.pointer none) (by decide) w);have u:=Lib.hid (kP b n p a w t);have o:=Lib.hid (se w);have he:(binOp .eql 44 (.iface 109 (.pointer (some ⟨b,0,none⟩))) (.iface 109 (.pointer none))).run Tryz.prog w= .ok (.bool false) w:=Ak w ⟨b,0,none⟩;have v:((n:Int)==(0:Int))=false:=by simp;omega
 go_enter Tryz.func174,Tryz.ntmps174;go_wp2_with fail
 refine l.out.mono ?_;rintro e g ⟨rfl,rfl⟩;go_wp2_with fail
 refine m.out.mono ?_;rintro e g ⟨rfl,rfl⟩;go_wp2_with fail
 refine u.out.mono ?_;rintro e g ⟨rfl,rfl⟩;go_wp2_with fail
 refine o.out.mono ?_;rintro e g ⟨rfl,rfl⟩;go_wp2_with fail
 go_ret;exact⟨rfl,rfl⟩
theorem An(c b d:Nat)(x y st:Value)(w:World)(pa i E j:Option Addr)(v p r F:Bool)(I:st= .pointer none∨∃s,st= .pointer (some ⟨s,0,none⟩))(h1:w.cell? ⟨c,1,none⟩=some (.bool false))(N:w.cell? ⟨c,0,none⟩=some (.bool false))
 (q:Calls Tryz.prog 114 #[x] w fun e f=>e= .returned (.iface 108 (.pointer (some ⟨b,0,none⟩)))∧w=f)(t:Calls Tryz.prog 114 #[y] w fun e f=>e= .returned (.iface 108 (.pointer (some ⟨d,0,none⟩)))∧w=f)
 (he:(binOp .eql 44 (.iface 108 (.pointer (some ⟨b,0,none⟩))) (.iface 108 (.pointer (some ⟨d,0,none⟩)))).run Tryz.prog w= .ok (.bool false) w)
 (J:w.cell? ⟨b,4,none⟩=some (.bool v))(u:w.cell? ⟨d,4,none⟩=some (.bool p))(K:w.cell? ⟨b,2,none⟩=some (.pointer pa))(z:w.cell? ⟨d,2,none⟩=some (.pointer i))(L:w.cell? ⟨b,3,none⟩=some (.pointer E))(A:w.cell? ⟨d,3,none⟩=some (.pointer j))(G:dD c (.iface 109 (.pointer pa)) (.iface 109 (.pointer i)) st r w)(H:dD c (.iface 109 (.pointer E)) (.iface 109 (.pointer j)) st F w):
 Calls Tryz.prog 174 #[.pointer (some ⟨c,0,none⟩),x,y,st] w fun e f=>e= .returned (.bool ((v==p)&&(r&&F)))∧aq w f:=by
 have k:∀W,(Instr.typeAssert (.iface 108 (.pointer (some ⟨b,0,none⟩))) 44 105 true).run Tryz.prog W= .ok (.tuple #[.pointer none,.bool false]) W:=fun W=>by rw[bn,if_neg (by decide)]
 have l:∀W,(Instr.typeAssert (.iface 108 (.pointer (some ⟨b,0,none⟩))) 44 141 true).run Tryz.prog W= .ok (.tuple #[.pointer none,.bool false]) W:=fun W=>by rw[cw,if_neg (by decide)]
 have m:∀W,(Instr.typeAssert (.iface 108 (.pointer (some ⟨b,0,none⟩))) 44 143 true).run Tryz.prog W= .ok (.tuple #[.pointer none,.bool false]) W:=fun W=>by rw[asSlice,if_neg (by decide)]
 have h:∀W,(Instr.typeAssert (.iface 108 (.pointer (some ⟨b,0,none⟩))) 44 213 true).run Tryz.prog W= .ok (.tuple #[.pointer none,.bool false]) W:=fun W=>by rw[cJ,if_neg (by decide)]
 have g:∀W,(Instr.typeAssert (.iface 108 (.pointer (some ⟨b,0,none⟩))) 44 145 true).run Tryz.prog W= .ok (.tuple #[.pointer none,.bool false]) W:=fun W=>by rw[cy,if_neg (by decide)]
 have n:∀W,(Instr.typeAssert (.iface 108 (.pointer (some ⟨b,0,none⟩))) 44 109 true).run Tryz.prog W= .ok (.tuple #[.pointer none,.bool false]) W:=fun W=>by rw[asTuple,if_neg (by decide)]
 have a:∀W,(Instr.typeAssert (.iface 108 (.pointer (some ⟨b,0,none⟩))) 44 108 true).run Tryz.prog W= .ok (.tuple #[.pointer (some ⟨b,0,none⟩),.bool true]) W:=fun W=>by rw[fH,if_pos rfl]
 have O:∀W,(Instr.typeAssert (.iface 108 (.pointer (some ⟨d,0,none⟩))) 44 108 true).run Tryz.prog W= .ok (.tuple #[.pointer (some ⟨d,0,none⟩),.bool true]) W:=fun W=>by rw[fH,if_pos rfl]
 have g1:=a_ K;have g2:=a_ z;have g3:=a_ L;have g4:=a_ A;have g5:=a_ J;have g6:=a_ u;have B:=Lib.hid G;have C:=Lib.hid H;clear G H;cases M:(v==p)<;>cases r
 all_goals
  go_enter Tryz.func174,Tryz.ntmps174;go_wp2_with fail
  refine q.mono ?_;rintro e f ⟨rfl,rfl⟩;go_wp2_with fail
  refine t.mono ?_;rintro e f ⟨rfl,rfl⟩;go_wp2_with fail
  refine wp_region_quiet_grown (by kernel_rfl) (by kernel_rfl) ?_;repeat(go_big_quiet_step (first|(go_at_call 174;first|with_reducible exact B.out.at _ _|with_reducible exact C.out.at _ _)))
  refine wpQuiet_nil ?_;intro _ D;obtain⟨⟨nq,osq⟩,o⟩:=D;subst o;go_wp2_with fail
  go_ret;exact⟨by simp,_,_,rfl⟩
end Go.Proofs.YtgbklbbknehefaaGreatDoor
