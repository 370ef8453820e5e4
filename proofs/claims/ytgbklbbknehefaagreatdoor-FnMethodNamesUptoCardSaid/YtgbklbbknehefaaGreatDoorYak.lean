import Derived.Test.YtgbklbbknehefaaGreatDoorYaj
set_option maxRecDepth 100000
set_option maxHeartbeats 8000000
set_option linter.all false
namespace Go.Proofs.YtgbklbbknehefaaGreatDoor
open Go.RowKit
theorem rJ{T e:TypeId}(a:TypeId)(W:World)(hT:Tryz.prog.underlying T=some (.pointer e))(b:(zeroValue T).run Tryz.prog W= .ok (.pointer none) W):
 (Instr.typeAssert .nilIface a T true).run Tryz.prog W= .ok (.tuple #[.pointer none,.bool false]) W:=by
 simp only[Instr.typeAssert,Sem.run_bind,run_underlying hT,Result.andThen_ok];simp[b]
theorem xV(a:TypeId)(W:World):(Instr.typeAssert .nilIface a 139 true).run Tryz.prog W= .ok (.tuple #[.pointer none,.bool false]) W:=rJ a W Tryz.underlying139 (by kernel_rfl)
theorem xW(a:TypeId)(W:World):(Instr.typeAssert .nilIface a 66 true).run Tryz.prog W= .ok (.tuple #[.pointer none,.bool false]) W:=rJ a W Tryz.underlying66 (by kernel_rfl)
theorem xX(w:World):Calls Tryz.prog 114 #[.nilIface] w fun e a=>e= .returned .nilIface∧w=a:=by
 have h1:=xV 44;go_enter Tryz.func114,Tryz.ntmps114;go_wp2_with fail
 go_ret;exact⟨rfl,rfl⟩
theorem xY(w:World):Calls Tryz.prog 67 #[.nilIface] w fun e a=>e= .returned (.pointer none)∧w=a:=by
 have h1:=xW 44;go_enter Tryz.func67,Tryz.ntmps67;go_wp2_with fail
 refine(xX _).mono ?_;rintro e a ⟨rfl,rfl⟩;go_wp2_with fail
 go_ret;exact⟨rfl,rfl⟩
theorem oq(u:TypeId)(p:Option Addr)(b:u≠139)(c:u≠66)(w:World):Calls Tryz.prog 67 #[.iface u (.pointer p)] w fun e a=>e= .returned (.pointer none)∧w=a:=by
 have h1:∀W,(Instr.typeAssert (.iface u (.pointer p)) 44 66 true).run Tryz.prog W= .ok (.tuple #[.pointer none,.bool false]) W:=fun W=>by rw[asNamed,if_neg c]
 go_enter Tryz.func67,Tryz.ntmps67;go_wp2_with fail
 refine(ep u (.pointer p) b _).mono ?_;rintro e a ⟨rfl,rfl⟩;go_wp2_with fail
 go_ret;exact⟨rfl,rfl⟩
theorem jj(W:World)(cs:Array Value){T:TypeId}{B i:Nat}(h:W.heap.size=B):(W.alloc (.cells cs T)).cell? ⟨B,i,none⟩=cs[i]?:=by subst h;simp
theorem kI(W:World)(cs:Array Value){T:TypeId}{B i:Nat}(h:W.heap.size=B):(W.alloc (.cells cs T)).frozen? ⟨B,i,none⟩=false:=by subst h;simp
abbrev cM(obj:Addr)(nil:Bool)(a st:Int)(rhs eG:Value)(ms:Value):Array Value:=#[.pointer none,.pointer (some obj),.bool nil,.int .i32 a,.int .u32 0,.int .u32 st,rhs,eG,.bool false,ms]
theorem rK(a:Nat)(w:World)(c:a<w.heap.size)(d:w.cell? ⟨a,3,none⟩=some .nilIface)(f:w.frozen? ⟨a,3,none⟩=false):
 Calls Tryz.prog 61 #[.pointer none,.pointer (some ⟨a,0,none⟩),.nilIface,.slice none 0 0] w fun e b=>e= .returned (.pointer (some ⟨w.heap.size,0,none⟩))∧
  b=(w.setCell ⟨a,3,none⟩ (.iface 66 (.pointer (some ⟨w.heap.size,0,none⟩)))).alloc (.cells (cM ⟨a,0,none⟩ false 0 0 .nilIface .nilIface (.slice none 0 0)) 129):=by
 go_enter Tryz.func61,Tryz.ntmps61;go_wp2_with fail
 go_ret;exact⟨rfl,rfl⟩
theorem xZ(b:Nat)(u:TypeId)(a:Option Addr)(w:World)(d:b<w.heap.size)(f:w.cell? ⟨b,3,none⟩=some .nilIface)(g:w.frozen? ⟨b,3,none⟩=false):
 Calls Tryz.prog 61 #[.pointer none,.pointer (some ⟨b,0,none⟩),.iface u (.pointer a),.slice none 0 0] w fun e c=>e= .returned (.pointer (some ⟨w.heap.size,0,none⟩))∧
  c=(w.setCell ⟨b,3,none⟩ (.iface 66 (.pointer (some ⟨w.heap.size,0,none⟩)))).alloc (.cells (cM ⟨b,0,none⟩ false 0 0 (.iface u (.pointer a)) .nilIface (.slice none 0 0)) 129):=by
 go_enter Tryz.func61,Tryz.ntmps61;go_wp2_with fail
 go_ret;exact⟨rfl,rfl⟩
theorem x_(a:Nat)(w:World)(c:a<w.heap.size)(d:w.cell? ⟨a,3,none⟩=some .nilIface)(f:w.frozen? ⟨a,3,none⟩=false):
 Calls Tryz.prog 31 #[.pointer (some ⟨a,0,none⟩),.nilIface,.slice none 0 0] w fun e b=>e= .returned (.pointer (some ⟨w.heap.size,0,none⟩))∧
  b=(w.setCell ⟨a,3,none⟩ (.iface 66 (.pointer (some ⟨w.heap.size,0,none⟩)))).alloc (.cells (cM ⟨a,0,none⟩ true 0 0 .nilIface .nilIface (.slice none 0 0)) 129):=by
 go_enter Tryz.func31,Tryz.ntmps31;go_wp2_with fail
 refine(xY _).mono ?_;rintro e b ⟨rfl,rfl⟩;go_wp2_with fail
 refine(rK a _ c d f).mono ?_;rintro e b ⟨rfl,rfl⟩;go_wp2_with fail
 go_ret;exact⟨rfl,rfl⟩
theorem ot(b:Nat)(u:TypeId)(a:Option Addr)(i:u≠139)(j:u≠66)(w:World)
 (h2:∃c,w.cell? ⟨b,2,none⟩=some (.bool c))(h3:w.cell? ⟨b,3,none⟩=some (.int .i32 0))(g:w.cell? ⟨b,5,none⟩=some (.int .u32 0))(h:∃c,w.cell? ⟨b,6,none⟩=some c)(h7:∃c,w.cell? ⟨b,7,none⟩=some c)
 (f2:w.frozen? ⟨b,2,none⟩=false)(f3:w.frozen? ⟨b,3,none⟩=false)(f5:w.frozen? ⟨b,5,none⟩=false)(f6:w.frozen? ⟨b,6,none⟩=false)(f7:w.frozen? ⟨b,7,none⟩=false):
 Calls Tryz.prog 35 #[.pointer (some ⟨b,0,none⟩),.iface u (.pointer a)] w fun e d=>e= .returned (.tuple #[])∧
  d=((((((w.setCell ⟨b,3,none⟩ (.int .i32 1)).setCell ⟨b,6,none⟩ (.iface u (.pointer a))).setCell ⟨b,2,none⟩ (.bool false)).setCell ⟨b,5,none⟩ (.int .u32 7)).setCell ⟨b,7,none⟩ (.iface u (.pointer a))).setCell ⟨b,5,none⟩ (.int .u32 15)).setCell ⟨b,3,none⟩ (.int .i32 0):=by
 obtain⟨c2,h2⟩:=h2;obtain⟨l,h⟩:=h;obtain⟨m,h7⟩:=h7;go_enter_defers Tryz.func35,Tryz.ntmps35
 go_wp2_with fail
 refine(oq u a i j _).mono ?_;rintro e d ⟨rfl,rfl⟩;go_wp2_with fail
 refine(Go.MuLone.lock_free rF ⟨b,3,none⟩ _ h3 f3).mono ?_;rintro e d ⟨rfl,rfl⟩;go_wp2_with fail
 refine(xR b 0 _ ?_ ?_).mono ?_
 ·simp[go_sem,g]
 ·simp[f5]
 rintro e d ⟨rfl,rfl⟩;go_wp2_with fail
 refine(xS b 0 _ ?_ ?_).mono ?_
 ·simp[go_sem,g]
 ·simp[f5]
 rintro e d ⟨rfl,rfl⟩;go_wp2_with fail
 refine leaves_cons (f:=70) (args:=#[.pointer (some ⟨b,3,none⟩)]) (by simp) (by simp[go_sem]) ?_;refine(Go.MuLone.unlock_deferred rF ⟨b,3,none⟩ .returning _ ?_ ?_).mono ?_
 ·simp[go_sem,h3]
 ·simp[f3]
 rintro e n k ⟨rfl,rfl,rfl⟩;exact⟨_,results_none rfl _ _ _,rfl,rfl⟩
theorem yd(b:Nat)(u:TypeId)(a:Option Addr)(f:u≠139)(g:u≠66)(w:World)(h:b<w.heap.size)(i:w.cell? ⟨b,3,none⟩=some .nilIface)(j:w.frozen? ⟨b,3,none⟩=false):
 Calls Tryz.prog 31 #[.pointer (some ⟨b,0,none⟩),.iface u (.pointer a),.slice none 0 0] w fun e c=>e= .returned (.pointer (some ⟨w.heap.size,0,none⟩))∧
  c=(w.setCell ⟨b,3,none⟩ (.iface 66 (.pointer (some ⟨w.heap.size,0,none⟩)))).alloc (.cells (cM ⟨b,0,none⟩ false 0 15 (.iface u (.pointer a)) (.iface u (.pointer a)) (.slice none 0 0)) 129):=by
 go_enter Tryz.func31,Tryz.ntmps31;go_wp2_with fail
 refine(oq u a f g _).mono ?_;rintro e c ⟨rfl,rfl⟩;go_wp2_with fail
 refine(xZ b u a _ h i j).mono ?_;rintro e c ⟨rfl,rfl⟩;go_wp2_with fail
 have d:(w.setCell ⟨b,3,none⟩ (.iface 66 (.pointer (some ⟨w.heap.size,0,none⟩)))).heap.size=w.heap.size:=by simp
 refine(ot w.heap.size u a f g _ ⟨false,?_⟩ ?_ ?_ ⟨.iface u (.pointer a),?_⟩ ⟨.nilIface,?_⟩ ?_ ?_ ?_ ?_ ?_).mono ?_;iterate 5 (rw[jj _ _ d];rfl)
 iterate 5 (rw[kI _ _ d])
 clear d;rintro e c ⟨rfl,rfl⟩;go_wp2_with fail
 go_ret;exact⟨rfl,rfl⟩
theorem ye(b:Nat)(u:Value)(t:TypeId)(a:Option Addr)(w:World)(d:w.cell? ⟨b,5,none⟩=some (.int .u32 15))(f:w.cell? ⟨b,6,none⟩=some (.iface t (.pointer a)))(h7:w.cell? ⟨b,7,none⟩=some (.iface t (.pointer a))):
 Calls Tryz.prog 269 #[.pointer (some ⟨b,0,none⟩)] w fun e c=>e= .returned (.iface t (.pointer a))∧w=c:=by
 go_enter Tryz.func269,Tryz.ntmps269;go_wp2_with fail
 refine(rI b _ d).mono ?_;rintro e c ⟨rfl,rfl⟩;go_wp2_with fail
 refine(xU b _ _ f).mono ?_;rintro e c ⟨rfl,rfl⟩;go_wp2_with fail
 refine(rH b 0 8 (Or.inr rfl) _ d).mono ?_;rintro e c ⟨rfl,rfl⟩;go_wp2_with fail
 go_ret;exact⟨rfl,rfl⟩
end Go.Proofs.YtgbklbbknehefaaGreatDoor
