import Derived.Maps.AppendAt
import Derived.Test.YtgbklbbknehefaaGreatDoorYaa
set_option maxRecDepth 100000
set_option maxHeartbeats 8000000
set_option linter.all false
namespace TS
open Go Go.RowKit
theorem jZ{P:Program}{w:World}{o:Oper}{a:Act}{Q:Exit→Act→World→Prop}{K:Act→World→Prop}(s x:Operand)(t:TypeId)
 (C:o.op= .call {callee:= .builtin .append,args:=#[s,x],argTypes:=#[t,t]})
 (base:Nat)(e:TypeId)(i:TypeInfo)(z:Value)(size bytes:Nat)(D:P.underlying t=some (.slice e))(hi:P.info? e=some i)(E:i.zero=some z)
 (d:i.size=size)(q:i.bytes=bytes)(r:z.cells.size=size)(y:0<size)
 (v:Value)(n:Nat)(xs:List Value)(F:a.eval s=v)(l:w.ownsRow base e size v n xs)
 (A:Addr)(m c:Nat)(news:List Value)(G:a.eval x= .slice (some A) m c)(H:news.length=m*size)(f:∀j u,news[j]?=some u→w.cell? (A.add j)=some u)(h1:∀u∈news,u.oneCell'=true)
 (B:n+m≤maxLen)(b:(n+m)*bytes≤140737488355328)(g:base≤w.heap.size)
 (h:∀k p,p.ownsRow base e size k (n+m) (xs++news)→w.grownBy p v.ownBlock→(k= .slice none 0 0↔v= .slice none 0 0∧m=0)→(k.ownBlock=v.ownBlock∨k.ownBlock=some w.heap.size)→K (a.put o.dst k) p):
 o.wp P a w K Q:=by
 obtain⟨k,p,hr,h2,h3,I,J⟩:=run_append_own_at (P:=P) w base t o.type e i z size bytes D hi E d q r y v n xs l A m c news H f h1 B b g;unfold Oper.wp execOp;simp only[C,resolve,invoke,builtin,Sem.run_bind,Sem.run_pure,Result.andThen_ok,List.map_toArray,List.map_cons,List.map_nil,F,G,hr];exact h k p h2 h3 I J
end TS
