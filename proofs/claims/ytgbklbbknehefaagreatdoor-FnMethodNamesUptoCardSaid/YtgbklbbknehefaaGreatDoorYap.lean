import Derived.Deep.DeepCutAuto
import Derived.Test.YtgbklbbknehefaaGreatDoorYao
set_option maxRecDepth 100000
set_option maxHeartbeats 8000000
set_option linter.all false
namespace Go.Proofs.YtgbklbbknehefaaGreatDoor
open Go.RowKit TS
def yx(k:Nat)(w:World)(e:Ending)(a:World):Prop:=∃b,e= .returned (.pointer (some ⟨b,0,none⟩))∧w.heap.size≤b∧b<a.heap.size∧a.cell? ⟨b,0,none⟩=some (.int .i64 k)∧Below w.heap.size w a∧∃cs T,a.heap[b]?=some (.cells cs T (0,0))
theorem ou{w:World}{cs:Array Value}{T:TypeId}{b:Nat}(h:b=w.heap.size):∃a T',(w.alloc (.cells cs T)).heap[b]?=some (.cells a T' (0,0)):=⟨cs,T,by subst h;show(w.heap.push _)[w.heap.size]?=_;simp⟩
theorem ov{w:World}{o:Obj}{b:Nat}(h:∃cs T,w.heap[b]?=some (.cells cs T (0,0))):∃cs T,(w.alloc o).heap[b]?=some (.cells cs T (0,0)):=by
 obtain⟨cs,T,h⟩:=h;exact⟨cs,T,(Below.heap_alloc _ _ _ (Array.getElem?_eq_some_iff.1 h).1).trans h⟩
theorem rN(k:Nat)(hk:k≤18)(w:World):
 Calls Tryz.prog 63 #[.int .i64 k] w (yx k w):=by
 have d:=Lib.hid hk;clear hk;go_enter Tryz.func63,Tryz.ntmps63;go_upto_region 1 with fail
 go_cut [3] (fun l c=> ∃b,l= .slice (some ⟨b,0,none⟩) 26 26∧(∀k:Nat,k≤18→c.cell? ⟨b,k,none⟩=some (.pointer (some ⟨w.heap.size+k,0,none⟩))∧c.cell? ⟨w.heap.size+k,0,none⟩=some (.int .i64 k)∧∃cs T,c.heap[w.heap.size+k]?=some (.cells cs T (0,0)))∧Below w.heap.size w c)
 case first=>
  go_wp2_with fail
  go_meet
  refine⟨_,rfl,fun k hk=> ?_,?_⟩
  ·have:k=0∨k=1∨k=2∨k=3∨k=4∨k=5∨k=6∨k=7∨k=8∨k=9∨k=10∨k=11∨k=12∨k=13∨k=14∨k=15∨k=16∨k=17∨k=18:=by omega
   rcases this with rfl|rfl|rfl|rfl|rfl|rfl|rfl|rfl|rfl|rfl|rfl|rfl|rfl|rfl|rfl|rfl|rfl|rfl|rfl<;>refine⟨by simp[go_sem],by simp[go_sem],?_⟩<;>repeat(first|exact ou (by first|omega|(simp only[World.size_alloc];done)|(simp only[World.size_alloc];omega))|refine ov ?_)
  ·(repeat(first|with_reducible exact Below.refl _ _|with_reducible refine Below.setCell ?_ ?_ _|with_reducible refine Below.alloc ?_ ?_ _|with_reducible refine Below.drew ?_));all_goals (first|omega|(simp;done)|(simp;omega))
 case rest=>
  obtain⟨b,rfl,f,g⟩:=hcut;have a:=d.out;have h:(k:Int)<26:=by omega
  obtain⟨h1,h2,h3⟩:=f k a;have e:=Lib.hid h3;clear h3;clear f a;go_wp2_with fail
  go_ret;exact⟨_,rfl,by omega,World.block_lt_of_cell? _ _ h2,h2,g,e.out⟩
end Go.Proofs.YtgbklbbknehefaaGreatDoor
