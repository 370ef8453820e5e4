import Derived.Test.YtkochlhejabdcaaGreatDoorYaa
set_option maxRecDepth 100000
set_option maxHeartbeats 8000000
set_option linter.all false
namespace TS
open Go Go.RowKit
structure Pc where
 d:Int
 v:Bool
 t:Bool
def Pc.behind(q:Pc):Pc:={q with v:=false}
def Pc.inside(q:Pc):Pc:={q with v:=true,t:=true}
def cj(n m:Int):Bool:=decide (0≤n)&&decide (n<m)
def fm(l:List U):Bool:=decide (∀e∈l,aR e.nm=true)&&decide ((l.map fun e=>e.nm.toList).Nodup)
def eJ:List U→Bool
 | []=>true
 |e::r=>e.k==7&&aR e.nm&&(match r with| []=>true|e'::_=>Go.Op.bytesLess e.nm.toList e'.nm.toList)&&eJ r
inductive Pt|type|term|elem
def aj(len:Nat)(u:U)(q:Pc)(s:Pt):Bool:=
 match s with
 | .elem=>if u.k=12 then decide (2≤u.es.length)&&decide (u.es.length≤8)&&u.es.attach.all fun⟨e,_⟩=>aj len e q .term else
  if u.k=13 then decide (u.es.length=1)&&u.es.attach.all fun⟨e,_⟩=>aj len e q .type else aj len u q .type
 | .term=>if u.k=13 then decide (u.es.length=1)&&u.es.attach.all fun⟨e,_⟩=>aj len e q .type else aj len u q .type
 | .type=>
   if u.k=1 then cj u.n 18&&decide (u.es.length=0)
   else if u.k=14∨u.k=15∨u.k=16 then decide (u.es.length=0)
   else if u.k=11 then cj u.n len&&(!q.v&& !q.t||decide (u.n<q.d))&&decide (u.es.length=0)
   else if u.k=2∨u.k=3 then decide (0≤u.n)&&decide (u.es.length=1)&&u.es.attach.all fun⟨e,_⟩=>aj len e q .type
   else if u.k=5 then fm u.es&&u.es.attach.all fun⟨e,_⟩=>aj len e q .type
   else if u.k=10 then cj u.m (u.es.length+1)&&decide (u.es.length- u.m≤4)&&eJ (u.es.take u.m.toNat)&&
    ((u.es.take u.m.toNat).attach.all fun⟨e,_⟩=>aj len e q.behind .type)&&((u.es.drop u.m.toNat).attach.all fun⟨e,_⟩=>aj len e q.inside .elem)
   else if u.k=4∨u.k=6∨u.k=9 then cj u.n 3&&decide (u.es.length=1)&&u.es.attach.all fun⟨e,_⟩=>aj len e q.behind .type
   else if u.k=8 then decide (u.es.length=2)&&u.es.attach.all fun⟨e,_⟩=>aj len e q.behind .type
   else if u.k=7 then cj u.m (u.es.length+1)&&(!u.v||decide (0<u.m)&&((u.es.getD (u.m.toNat- 1) cC).k==4))&&u.es.attach.all fun⟨e,_⟩=>aj len e q.behind .type
   else false
termination_by (u.sz,match s with| .type=>0| .term=>1| .elem=>2)
decreasing_by
 all_goals first
  |exact Prod.Lex.right _ zd
  |exact Prod.Lex.left _ _ (U.ar ‹_›)
  |exact Prod.Lex.left _ _ (U.ar (List.mem_of_mem_take ‹_›))
  |exact Prod.Lex.left _ _ (U.ar (List.mem_of_mem_drop ‹_›))
end TS
