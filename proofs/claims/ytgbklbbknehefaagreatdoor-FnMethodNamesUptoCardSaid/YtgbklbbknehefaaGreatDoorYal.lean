import Derived.Test.YtgbklbbknehefaaGreatDoorYak
set_option maxRecDepth 100000
set_option maxHeartbeats 8000000
set_option linter.all false
namespace TS
open Go
inductive gy (w:World) (A t:TypeId) (p:Option Addr):Nat→Prop
 |last {b:Nat}:w.cell? ⟨b,2,none⟩=some (.iface t (.pointer p))→gy w A t p b
 |next {b c:Nat}:w.cell? ⟨b,2,none⟩=some (.iface A (.pointer (some ⟨c,0,none⟩)))→c<b→gy w A t p c→gy w A t p b
def kJ:Value→Nat
 | .pointer (some a)=>a.block+1
 |_=>0
@[simp] theorem Ef (a:Addr):kJ (.pointer (some a))=a.block+1:=rfl
@[simp] theorem Eg:kJ (.pointer none)=0:=rfl
end TS
namespace Go.Proofs.YtgbklbbknehefaaGreatDoor
open Go.RowKit TS
theorem yg(b:Nat)(t:TypeId)(p:Option Addr)(w:World)(d:t≠139)(h3:w.cell? ⟨b,3,none⟩=some .nilIface)(f3:w.frozen? ⟨b,3,none⟩=false)(h:gy w 139 t p b):
 Calls Tryz.prog 152 #[.pointer (some ⟨b,0,none⟩)] w fun e f=>e= .returned (.iface t (.pointer p))∧f=w.setCell ⟨b,3,none⟩ (.iface t (.pointer p)):=by
 have h1:∀W,(Instr.typeAssert (.iface t (.pointer p)) 44 139 true).run Tryz.prog W= .ok (.tuple #[.pointer none,.bool false]) W:=fun W=>by rw[mh,if_neg d]
 have h2:∀(c:Nat) W,(Instr.typeAssert (.iface 139 (.pointer (some ⟨c,0,none⟩))) 44 139 true).run Tryz.prog W= .ok (.tuple #[.pointer (some ⟨c,0,none⟩),.bool true]) W:=fun c W=>by rw[mh,if_pos rfl]
 clear d;go_enter Tryz.func152,Tryz.ntmps152;go_wp2_with fail
 go_loopw [3,4] (fun vt a wr=>wr=w∧((∃c,a= .pointer (some ⟨c,0,none⟩)∧gy w 139 t p c)∨(a= .pointer none∧vt= .iface t (.pointer p)))) (fun _ a _=>kJ a)
 case atStart=>exact⟨rfl,Or.inl ⟨b,rfl,h⟩⟩
 case round=>
  obtain⟨rfl,⟨c,rfl,g⟩|⟨rfl,rfl⟩⟩:=hrel
  ·cases g with
   |last i=>
    go_wp2_with fail
    refine⟨⟨trivial,Or.inr ⟨rfl,rfl⟩⟩,?_⟩;simp
   |next i j k=>
    rename_i c';go_wp2_with fail
    refine⟨⟨trivial,Or.inl ⟨c',rfl,k⟩⟩,?_⟩;simp;omega
  ·go_wp2_with fail
   go_ret;exact⟨rfl,rfl⟩
theorem rL(b:Nat)(t:TypeId)(p:Option Addr)(w:World)(c:t≠139)(h3:w.cell? ⟨b,3,none⟩=some .nilIface)(f3:w.frozen? ⟨b,3,none⟩=false)(h:gy w 139 t p b):
 Calls Tryz.prog 119 #[.pointer (some ⟨b,0,none⟩)] w fun e a=>e= .returned (.tuple #[])∧a=w.setCell ⟨b,3,none⟩ (.iface t (.pointer p)):=by
 go_enter Tryz.func119,Tryz.ntmps119;go_wp2_with fail
 refine(yg b t p _ c h3 f3 h).mono ?_;rintro e a ⟨rfl,rfl⟩;go_wp2_with fail
 go_end0
 exact⟨rfl,rfl⟩
abbrev gz(obj self:Addr)(rhs act:Value):Array Value:=#[.pointer (some obj),.pointer (some self),rhs,act]
theorem rM(b:Nat)(u:TypeId)(a:Option Addr)(w:World)(d:b<w.heap.size)(f:w.cell? ⟨b,3,none⟩=some .nilIface)(g:w.frozen? ⟨b,3,none⟩=false):
 Calls Tryz.prog 118 #[.pointer none,.pointer (some ⟨b,0,none⟩),.iface u (.pointer a)] w fun e c=>e= .returned (.pointer (some ⟨w.heap.size,0,none⟩))∧
  c=(w.setCell ⟨b,3,none⟩ (.iface 139 (.pointer (some ⟨w.heap.size,0,none⟩)))).alloc (.cells (gz ⟨b,0,none⟩ ⟨w.heap.size,0,none⟩ (.iface u (.pointer a)) .nilIface) 255):=by
 go_enter Tryz.func118,Tryz.ntmps118;go_wp2_with fail
 go_ret;exact⟨rfl,rfl⟩
theorem yh{w d:World}{A t:TypeId}{p:Option Addr}{b n:Nat}(h:gy w A t p b)(e:b<n)(hk:∀c,c<n→∀v,w.cell? ⟨c,2,none⟩=some v→d.cell? ⟨c,2,none⟩=some v):gy d A t p b:=by
 induction h with
 |last h=>exact .last (hk _ e _ h)
 |next h a _ ih=>exact .next (hk _ e _ h) a (ih (by omega))
theorem yi(b:Nat)(u:TypeId)(a:Option Addr)(g:u≠139)(w:World)(i:b<w.heap.size)(j:w.cell? ⟨b,3,none⟩=some .nilIface)(k:w.frozen? ⟨b,3,none⟩=false):
 Calls Tryz.prog 72 #[.pointer (some ⟨b,0,none⟩),.iface u (.pointer a)] w fun e d=>e= .returned (.pointer (some ⟨w.heap.size,0,none⟩))∧
  d=(w.setCell ⟨b,3,none⟩ (.iface 139 (.pointer (some ⟨w.heap.size,0,none⟩)))).alloc (.cells (gz ⟨b,0,none⟩ ⟨w.heap.size,0,none⟩ (.iface u (.pointer a)) (.iface u (.pointer a))) 255):=by
 have h:(w.setCell ⟨b,3,none⟩ (.iface 139 (.pointer (some ⟨w.heap.size,0,none⟩)))).heap.size=w.heap.size:=by simp
 have c:=Lib.hid h;clear h;have f:=Lib.hid g;clear g;go_enter Tryz.func72,Tryz.ntmps72;go_wp2_with fail
 refine(rM b u a _ i j k).mono ?_;rintro e d ⟨rfl,rfl⟩;go_wp2_with fail
 refine(rL w.heap.size u a _ f.out ?_ ?_ (.last ?_)).mono ?_
 ·rw[jj _ _ c.out];rfl
 ·rw[kI _ _ c.out]
 ·rw[jj _ _ c.out];rfl
 rintro e d ⟨rfl,rfl⟩;go_wp2_with fail
 go_ret;exact⟨rfl,rfl⟩
theorem yj(b c:Nat)(t:TypeId)(p:Option Addr)(j:t≠139)(w:World)(l:b<w.heap.size)(m:w.cell? ⟨b,3,none⟩=some .nilIface)(n:w.frozen? ⟨b,3,none⟩=false)
 (f:c<w.heap.size)(h:gy w 139 t p c):
 Calls Tryz.prog 72 #[.pointer (some ⟨b,0,none⟩),.iface 139 (.pointer (some ⟨c,0,none⟩))] w fun e g=>e= .returned (.pointer (some ⟨w.heap.size,0,none⟩))∧
  g=(w.setCell ⟨b,3,none⟩ (.iface 139 (.pointer (some ⟨w.heap.size,0,none⟩)))).alloc (.cells (gz ⟨b,0,none⟩ ⟨w.heap.size,0,none⟩ (.iface 139 (.pointer (some ⟨c,0,none⟩))) (.iface t (.pointer p))) 255):=by
 have k:(w.setCell ⟨b,3,none⟩ (.iface 139 (.pointer (some ⟨w.heap.size,0,none⟩)))).heap.size=w.heap.size:=by simp
 have a:=Lib.hid k;clear k;have i:=Lib.hid j;clear j;go_enter Tryz.func72,Tryz.ntmps72;go_wp2_with fail
 refine(rM b _ _ _ l m n).mono ?_;rintro e g ⟨rfl,rfl⟩;go_wp2_with fail
 refine(rL w.heap.size t p _ i.out ?_ ?_ (.next (c:=c) ?_ f (yh h f ?_))).mono ?_
 ·rw[jj _ _ a.out];rfl
 ·rw[kI _ _ a.out]
 ·rw[jj _ _ a.out];rfl
 ·intro d o v q
  rw[World.cell?_alloc_lt _ _ _ (by rw[a.out];exact o),World.cell?_setCell_other _ _ _ _ (by simp)];exact q
 rintro e g ⟨rfl,rfl⟩;go_wp2_with fail
 go_ret;exact⟨rfl,rfl⟩
end Go.Proofs.YtgbklbbknehefaaGreatDoor
