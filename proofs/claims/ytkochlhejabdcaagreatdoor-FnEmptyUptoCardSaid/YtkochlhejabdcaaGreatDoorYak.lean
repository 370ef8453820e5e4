import Derived.Deep.DeepCutAuto
import Derived.Test.YtkochlhejabdcaaGreatDoorYaj
set_option maxRecDepth 100000
set_option maxHeartbeats 8000000
set_option linter.all false
namespace Go.Proofs.YtkochlhejabdcaaGreatDoor
open Go.RowKit TS Tryz
def Be(k:Nat)(w:World)(e:Ending)(a:World):Prop:=∃b,e= .returned (Xp b)∧w.heap.size≤b∧b<a.heap.size∧Xc a b 0 (.int .i64 k)∧Below w w a∧∃cs T,a.heap[b]?=some (.cells cs T (0,0))
theorem qG{w:World}{cs:Array Value}{T:TypeId}{b:Nat}(h:b=w.heap.size):∃a T',(w.alloc (.cells cs T)).heap[b]?=some (.cells a T' (0,0)):=⟨cs,T,by subst h;show(w.heap.push _)[w.heap.size]?=_;simp⟩
theorem qH{w:World}{o:Obj}{b:Nat}(h:∃cs T,w.heap[b]?=some (.cells cs T (0,0))):∃cs T,(w.alloc o).heap[b]?=some (.cells cs T (0,0)):=by
 obtain⟨cs,T,h⟩:=h;exact⟨cs,T,(Below.heap_alloc _ _ _ (Array.getElem?_eq_some_iff.1 h).1).trans h⟩
theorem uC(k:Nat)(hk:k≤18)(w:World):
 Xk 91 #[.int .i64 k] w (Be k w):=by
 have d:=zh hk;clear hk;go_enter func91,ntmps91;go_upto_region 1 with fail
 go_cut [3] (fun l c=> ∃b,l= .slice (Xa b 0) 26 26∧(∀k:Nat,k≤18→Xc c b k (Xp (w.heap.size+k))∧Xc c (w.heap.size+k) 0 (.int .i64 k)∧∃cs T,c.heap[w.heap.size+k]?=some (.cells cs T (0,0)))∧Below w w c)
 case first=>
  go_wp2_with fail
  go_meet
  refine⟨_,rfl,fun k hk=> ?_,?_⟩
  ·have:k=0∨k=1∨k=2∨k=3∨k=4∨k=5∨k=6∨k=7∨k=8∨k=9∨k=10∨k=11∨k=12∨k=13∨k=14∨k=15∨k=16∨k=17∨k=18:=zo
   rcases this with rfl|rfl|rfl|rfl|rfl|rfl|rfl|rfl|rfl|rfl|rfl|rfl|rfl|rfl|rfl|rfl|rfl|rfl|rfl<;>refine⟨by simp[go_sem],by simp[go_sem],?_⟩<;>repeat(first|exact qG (by first|omega|(simp only[World.size_alloc];done)|(simp only[World.size_alloc];omega))|refine qH ?_)
  ·(repeat(first|with_reducible exact Below.refl _ _|with_reducible refine Below.setCell ?_ ?_ _|with_reducible refine Below.alloc ?_ ?_ _|with_reducible refine Below.drew ?_));all_goals (first|omega|(simp;done)|(simp;omega))
 case rest=>
  obtain⟨b,rfl,f,i⟩:=hcut;have a:=d.out;have j:(k:Int)<26:=zo;obtain⟨h1,g,h⟩:=f k a;have e:=zh h;clear h;clear f a;go_wp2_with fail
  go_ret;exact⟨_,rfl,by omega,zb g,g,i,e.out⟩
end Go.Proofs.YtkochlhejabdcaaGreatDoor
