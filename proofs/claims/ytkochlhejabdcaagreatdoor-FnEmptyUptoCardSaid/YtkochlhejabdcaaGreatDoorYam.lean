import Derived.LaidEqlPtr
import Derived.Laws.AppendOwn
import Derived.Lib.IndexBytes
import Derived.Lib.Strings
import Derived.Maps.AppendAt
import Derived.Maps.Own
import Derived.Test.YtkochlhejabdcaaGreatDoorYak
set_option maxRecDepth 100000
set_option maxHeartbeats 8000000
set_option linter.all false
namespace TS
open Go Go.RowKit
abbrev R3:=U×Option Addr×Nat
def bT(x:R3):List Value:= [.int .i64 x.1.k,.int .i64 x.1.n,.int .i64 x.1.m,.bool x.1.v,.string x.1.nm,.string x.1.tg,.slice x.2.1 x.1.es.length x.2.2]
def aX(L:List R3):List Value:=L.flatMap bT
def aL(L:List R3):List U:=L.map (·.1)
def dX(p:Pm)(D:Dl)(L:List R3):Prop:=∀x∈L,ai p D x.1 x.2.1 x.2.2
theorem dX.sub{p q:Pm}{D:Dl}{L:List R3}(h:dX p D L)(hk:Sub p q):dX q D L:=fun x a=>ai.sub hk _ (h x a)
theorem dX.append{p:Pm}{D:Dl}{L M:List R3}(h:dX p D L)(k:dX p D M):dX p D (L++M):=fun x a=>(List.mem_append.1 a).elim (h x) (k x)
theorem kV(x:R3)(L:List R3):aX (x::L)=bT x++aX L:=rfl
theorem p8(L M:List R3):aX (L++M)=aX L++aX M:=by simp[aX]
theorem gh:∀L:List R3,(aX L).length=L.length*7
 | []=>rfl
 |x::r=>by rw[kV,List.length_append,gh r];simp[bT];omega
theorem kW(L:List R3):∀v∈aX L,v.oneCell'=true:=by
 intro v b;obtain⟨x,_,a⟩:=List.mem_flatMap.1 b;simp only[bT,List.mem_cons,List.not_mem_nil,or_false]at a;rcases a with rfl|rfl|rfl|rfl|rfl|rfl|rfl<;>rfl
theorem sZ:∀(L:List R3)(j c:Nat)(a:j<L.length)(b:c<7),(aX L)[j*7+c]?=(bT L[j])[c]?
 |x::r,0,c,_,_=>by
  rw[kV,Nat.zero_mul,Nat.zero_add,List.getElem?_append_left (by simp[bT];omega)];rfl
 |x::r,j+1,c,a,b=>by
  rw[kV,List.getElem?_append_right (by simp[bT];omega)];rw[show(j+1)*7+c- (bT x).length=j*7+c by simp[bT];omega,sZ r j c (by simpa using a) b];rfl
theorem lX{p:Pm}{D:Dl}{b:Nat}:∀{L:List R3}{o:Nat},dX p D L→(∀j v,(aX L)[j]?=some v→p b (o+j)=some v)→aq p D (aL L) (Xa b o)
 | [],o,_,_=>aq.ix fun x e=>by cases e;rfl
 |x::r,o,h,f=>by
  have e:=h x List.mem_cons_self;have hr:aq p D (aL r) (Xa b (o+7)):=lX (fun y g=>h y (List.mem_cons_of_mem _ g)) fun j v d=>by
   have:=f (7+j) v (by rw[kV,List.getElem?_append_right (by simp[bT])];simpa [bT]using d);rwa [←Nat.add_assoc]at this
  have a:∀c v,(bT x)[c]?=some v→p b (o+c)=some v:=fun c v d=>f c v (by
   rw[kV,List.getElem?_append_left (List.getElem?_eq_some_iff.1 d).1];exact d)
  show aq p D (x.1::aL r) _;simp only[aq];exact⟨b,o,rfl,⟨x.2.1,x.2.2,⟨a 0 _ rfl,a 1 _ rfl,a 2 _ rfl,a 3 _ rfl,a 4 _ rfl,a 5 _ rfl,a 6 _ rfl⟩,e⟩,hr⟩
theorem nD{p:Pm}{D:Dl}:∀{l:List U}{b o:Nat},aq p D l (Xa b o)→∃L,aL L=l∧dX p D L∧∀j v,(aX L)[j]?=some v→p b (o+j)=some v
 | [],b,o,_=>⟨[],rfl,(fun _ c=>by cases c),fun j v a=>by simp[aX]at a⟩
 |e::r,b,o,h=>by
  simp only[aq]at h;obtain⟨u,w,ha,⟨a',c',h7,hu⟩,hr⟩:=h;simp only[Option.some.injEq,Addr.mk.injEq]at ha;obtain⟨rfl,rfl,_⟩:=ha;obtain⟨L,d,f,g⟩:=nD hr;refine⟨(e,a',c')::L,by simp only[aL,List.map_cons]at*;rw[d],fun x c=> ?_,fun j v a=> ?_⟩
  ·rcases List.mem_cons.1 c with rfl|c
   ·exact hu
   ·exact f x c
  ·rw[kV]at a
   by_cases i:j<7
   ·rw[List.getElem?_append_left (by simp[bT];omega)]at a
    obtain⟨k,h1,m,n,q,s,t⟩:=h7;match j,i with
    |0,_=>cases a;exact k
    |1,_=>cases a;exact h1
    |2,_=>cases a;exact m
    |3,_=>cases a;exact n
    |4,_=>cases a;exact q
    |5,_=>cases a;exact s
    |6,_=>cases a;exact t
   ·rw[List.getElem?_append_right (by simp[bT];omega)]at a
    have:=g (j- 7) v (by simpa [bT]using a);rwa [show o+7+(j- 7)=o+j by omega]at this
def RL(p:Pm)(D:Dl)(l:List U)(w:World)(e:Ending)(b:World):Prop:=
 ∃q a n c,e= .returned (.slice a n c)∧Hid (n=l.length)∧aN p q w∧KW q b∧aq q D l a∧Below w w b
def Names(NS:List (List UInt8))(u:U):Prop:=(∀e,∀_:e∈u.es,e.nm.toList∈NS∧Names NS e)∧∀e,∀_:e∈u.un,Names NS e
termination_by u.sz
decreasing_by
 ·exact U.ar ‹_›
 ·exact U.iN ‹_›
theorem Names.es{NS:List (List UInt8)}{u e:U}(h:Names NS u)(he:e∈u.es):e.nm.toList∈NS∧Names NS e:=by rw[Names]at h;exact h.1 e he
theorem Names.un{NS:List (List UInt8)}{u e:U}(h:Names NS u)(he:e∈u.un):Names NS e:=by rw[Names]at h;exact h.2 e he
theorem nE{NS:List (List UInt8)}{u:U}(h1:u.es= [])(a:u.un= []):Names NS u:=by
 rw[Names,h1,a];exact⟨fun e he=>(by cases he),fun e he=>(by cases he)⟩
theorem Names.bare{NS:List (List UInt8)}:∀{u:U},Names NS u→Names NS (bare u):=by
 intro u;induction u using U.bc with
 |_ u ih=>
  intro h;rw[TS.bare];split
  ·split
   ·rename_i e r he
    exact ih e (U.ar (by rw[he];simp)) (h.es (by rw[he];simp)).2
   ·exact h
  ·split
   ·exact nE rfl rfl
   ·exact h
theorem Names.under{NS:List (List UInt8)}{u:U}(h:Names NS u):Names NS (under u):=by
 have a:=h.bare;rw[TS.under];split
 ·cases hu:(TS.bare u).un with
  |nil=>exact a
  |cons x r=>exact a.un (by rw[hu];simp)
 ·exact a
theorem Names.cy{NS:List (List UInt8)}:∀{u:U},Names NS u→∀m∈an u,m.nm.toList∈NS∧Names NS m:=by
 intro u;induction u using U.bc with
 |_ u ih=>
  intro h m hm;have hu:=h.under;rcases(iS hm).2 with hm|⟨e,he,_,hm⟩
  ·exact hu.es (List.mem_of_mem_take hm)
  ·have a:=List.mem_of_mem_drop he
   have h1:=U.ar a;have b:=dp u;exact ih e zo (hu.es a).2 m hm
theorem nF{α:Type} [DecidableEq α]:∀{l r:List α},l.Nodup→(∀x∈l,x∈r)→l.length≤r.length
 | [],r,_,_=>Nat.zero_le _
 |a::l,r,b,c=>by
  have ha:=c a List.mem_cons_self;have:=nF (l:=l) (r:=r.erase a) (List.nodup_cons.1 b).2 fun x d=>
   (List.mem_erase_of_ne (fun e=>(List.nodup_cons.1 b).1 (by rw[←e];exact d))).2 (c x (List.mem_cons_of_mem _ d))
  rw[List.length_erase_of_mem ha]at this;have:=List.length_pos_of_mem ha;simp only[List.length_cons];omega
theorem j7{NS:List (List UInt8)}{l:List U}(h:dH l)(d:∀m∈l,m.nm.toList∈NS):l.length≤NS.length:=by
 have h1:(l.map fun m=>m.nm.toList).Nodup:=List.pairwise_map.2 (h.imp fun{a b} c e=>by rw[gV.2 e]at c;cases c);have:=nF h1 (r:=NS) fun x f=>by
  obtain⟨m,hm,rfl⟩:=List.mem_map.1 f;exact d m hm
 simpa using this
theorem gZ{w:World}{B:Nat}{e:TypeId}{size:Nat}{v:Value}{n:Nat}{xs:List Value}(h:w.ownsRow B e size v n xs)(k:0<n):
 ∃g cap,v= .slice (Xa g 0) n cap∧B≤g∧g<w.heap.size∧n≤cap∧cap≤maxLen∧(∀j u,xs[j]?=some u→Xc w g j u)∧∀j,j<xs.length→w.frozen? (Xa g j)=false:=by
 rcases h.2 with⟨_,l⟩|⟨g,cap,cur,rfl,f,d,a,b,i,c⟩
 ·omega
 ·refine⟨g,cap,rfl,f,(Array.getElem?_eq_some_iff.1 d).1,a,b,fun j u hu=> ?_,fun j _=> ?_⟩
  ·have:=h.cells (g:=g) rfl j u hu
   rwa [show((Xa g 0):Addr).add j=(Xa g j) by unfold Addr.add;split<;>simp_all]at this
  ·simp[World.frozen?,d]
theorem jr{w:World}{B a:Nat}{e:TypeId}{size:Nat}{v:Value}{n:Nat}{xs:List Value}(h:w.ownsRow B e size v n xs)(b:a≤B):w.ownsRow a e size v n xs:=
 ⟨h.1,h.2.imp id fun⟨g,cap,cur,h1,c,d⟩=>⟨g,cap,cur,h1,Nat.le_trans b c,d⟩⟩
theorem bw{w a:World}{B:Nat}{e:TypeId}{size:Nat}{v:Value}{n:Nat}{xs:List Value}(h:w.ownsRow B e size v n xs)(c:Below w w a):a.ownsRow B e size v n xs:=
 ⟨h.1,h.2.imp id fun⟨g,cap,cur,h1,d,b,f⟩=>⟨g,cap,cur,h1,d,by rw[c.block g (Array.getElem?_eq_some_iff.1 b).1];exact b,f⟩⟩
abbrev R8:=aC×(Option Addr×Nat)×(Option Addr×Nat)
def iU(x:R8):List Value:= [.int .i64 x.1.un.k,.int .i64 x.1.un.n,.int .i64 x.1.un.m,.bool x.1.un.v,.string x.1.un.nm,.string x.1.un.tg,.slice x.2.1.1 x.1.un.es.length x.2.1.2,.slice x.2.2.1 x.1.ms.length x.2.2.2]
def bz(L:List R8):List Value:=L.flatMap iU
def cI(L:List R8):List aC:=L.map (·.1)
theorem nG(L M:List R8):bz (L++M)=bz L++bz M:=by simp[bz]
theorem kX:∀L:List R8,(bz L).length=L.length*8
 | []=>rfl
 |x::r=>by
  have:=kX r;simp only[bz,List.flatMap_cons,List.length_append,List.length_cons]at*;simp only[iU,List.length_cons,List.length_nil];omega
theorem th(L:List R8):∀v∈bz L,v.oneCell'=true:=by
 intro v b;obtain⟨x,_,a⟩:=List.mem_flatMap.1 b;simp only[iU,List.mem_cons,List.not_mem_nil,or_false]at a;rcases a with rfl|rfl|rfl|rfl|rfl|rfl|rfl|rfl<;>rfl
theorem ti:∀(L:List R8)(j c:Nat)(a:j<L.length)(_hc:c<8),(bz L)[j*8+c]?=(iU L[j])[c]?
 | [],j,c,a,_=>by simp at a
 |x::r,0,c,_,b=>by
  rw[Nat.zero_mul,Nat.zero_add];simp only[bz,List.flatMap_cons,List.getElem_cons_zero];rw[List.getElem?_append_left (by simp[iU];omega)]
 |x::r,j+1,c,a,b=>by
  have:=ti r j c (by simpa using a) b;simp only[bz,List.flatMap_cons,List.getElem_cons_succ]at*;rw[List.getElem?_append_right (by simp[iU];omega),←this];congr 1;simp[iU];omega
def nH(p:Pm)(D:Dl)(x:R8):Prop:=ai p D x.1.un x.2.1.1 x.2.1.2∧x.1.ms.length≤x.2.2.2∧x.2.2.2≤1048576∧cM p D x.1.ms x.2.2.1
def eK(p:Pm)(D:Dl)(L:List R8):Prop:=∀x∈L,nH p D x
theorem nH.sub{p q:Pm}{D:Dl}{x:R8}(h:nH p D x)(hk:Sub p q):nH q D x:=⟨ai.sub hk _ h.1,h.2.1,h.2.2.1,h.2.2.2.sub hk⟩
theorem eK.sub{p q:Pm}{D:Dl}{L:List R8}(h:eK p D L)(hk:Sub p q):eK q D L:=fun x a=>(h x a).sub hk
theorem eK.append{p:Pm}{D:Dl}{L M:List R8}(h:eK p D L)(k:eK p D M):eK p D (L++M):=fun x a=>(List.mem_append.1 a).elim (h x) (k x)
theorem tj{q:Pm}{b n:Nat}{L:List R8}(f:n=L.length)(hm:n≤1048576)(h:eK q ⟨.some (Xa b 0),n⟩ L)(g:∀j v,(bz L)[j]?=some v→q b j=some v):ca q ⟨.some (Xa b 0),n⟩ (cI L):=by
 refine⟨fun x k=>by cases k;rfl,by simp[cI,f],hm,fun i hi=> ?_⟩;have d:i<L.length:=by simpa [cI]using hi
 obtain⟨h1,l,m,o⟩:=h _ (zm d);have a:∀c,c<8→∀v,(iU L[i])[c]?=some v→q b (0+i*8+c)=some v:=fun c e v p=>by
  rw[Nat.zero_add];exact g _ _ (by rw[ti L i c d e];exact p)
 rw[show(cI L)[i]=L[i].1 by simp[cI]];exact⟨b,0,rfl,L[i].2.1.1,L[i].2.1.2,L[i].2.2.1,L[i].2.2.2,⟨a 0 zo _ rfl,a 1 zo _ rfl,a 2 zo _ rfl,a 3 zo _ rfl,a 4 zo _ rfl,a 5 zo _ rfl,a 6 zo _ rfl⟩,a 7 zo _ rfl,h1,l,m,o⟩
theorem zG{p:Pm}{D:Dl}{ds:List aC}(h:ca p D ds){b o:Nat}(m:D.a= .some (Xa b o)):∃L,cI L=ds∧eK p D L∧∀j v,(bz L)[j]?=some v→p b (o+j)=some v:=by
 have key:∀n,n≤ds.length→∃L,cI L=ds.take n∧eK p D L∧∀j v,(bz L)[j]?=some v→p b (o+j)=some v:=by
  intro n;induction n with
  |zero=>exact fun _=>⟨[],by simp[cI],(fun x f=>by cases f),fun j v d=>by simp[bz]at d⟩
  |succ n ih=>
   intro u;obtain⟨L,e,g,i⟩:=ih zo;obtain⟨a,c,k,l,h7,q,hu,h1,r,hm⟩:=h.get m n zo;have s:L.length=n:=by
    have:=congrArg List.length e;simp only[cI,List.length_map,List.length_take]at this;omega
   refine⟨L++ [(ds[n],(a,c),(k,l))],?_,g.append fun x f=> ?_,fun j v d=> ?_⟩
   ·rw[List.take_succ_eq_append_getElem zo,←e];simp[cI]
   ·obtain rfl:x=(ds[n],(a,c),(k,l)):=by simpa using f
    exact⟨hu,h1,r,hm⟩
   ·rw[nG]at d
    by_cases t:j<(bz L).length
    ·rw[List.getElem?_append_left t]at d
     exact i j v d
    ·rw[List.getElem?_append_right zo]at d
     have hr:=kX L;rw[s]at hr;obtain⟨c',rfl⟩:∃c',j=n*8+c':=⟨j- n*8,by omega⟩
     rw[hr,show n*8+c'- n*8=c' by omega]at d;simp only[bz,List.flatMap_cons,List.flatMap_nil,List.append_nil,iU]at d;rw[show o+(n*8+c')=o+n*8+c' by omega];match c',d with
     |0,d=>cases d;exact h7.1
     |1,d=>cases d;exact h7.2.1
     |2,d=>cases d;exact h7.2.2.1
     |3,d=>cases d;exact h7.2.2.2.1
     |4,d=>cases d;exact h7.2.2.2.2.1
     |5,d=>cases d;exact h7.2.2.2.2.2.1
     |6,d=>cases d;exact h7.2.2.2.2.2.2
     |7,d=>cases d;exact q
     |c'+8,d=>simp at d
 obtain⟨L,e,g,i⟩:=key ds.length zl;exact⟨L,by rw[e,List.take_length],g,i⟩
abbrev R9:=br×Option Addr×Nat
def p9(p:Pm)(D:Dl)(L:List R9):Prop:=∀x∈L,x.1.nm.size≤1048576∧ai p D x.1.sig x.2.1 x.2.2
theorem p9.sub{p q:Pm}{D:Dl}{L:List R9}(h:p9 p D L)(hk:Sub p q):p9 q D L:=fun x a=>⟨(h x a).1,ai.sub hk _ (h x a).2⟩
theorem Av{P:Program}(w:World)(base:Nat)(t ty e:TypeId)(i:TypeInfo)(z:Value)(size bytes:Nat)(D:P.underlying t=some (.slice e))(hi:P.info? e=some i)(O:i.zero=some z)
 (k:i.size=size)(y:i.bytes=bytes)(E:z.cells.size=size)(F:0<size)(v:Value)(n:Nat)(xs:List Value)(a:w.ownsRow base e size v n xs)
 (A:Addr)(m c:Nat)(news:List Value)(C:news.length=m*size)(b:∀j u,news[j]?=some u→w.cell? (A.add j)=some u)(h1:∀u∈news,u.oneCell'=true)
 (B:n+m≤maxLen)(d:(n+m)*bytes≤140737488355328)(r:base≤w.heap.size):
 ∃s x,(Builtin.append_ #[t,t] ty #[v,.slice (some A) m c]).run P w= .ok s x∧x.ownsRow base e size s (n+m) (xs++news)∧w.grownBy x v.ownBlock∧(s.ownBlock=v.ownBlock∨s.ownBlock=some w.heap.size)∧
  ∀g o u,v.ownBlock=some g→xs[o]?=some u→Xc x g o u:=by
 obtain⟨s,x,hr,G,Q,V,q⟩:=run_append_own_at (P:=P) w base t ty e i z size bytes D hi O k y E F v n xs a A m c news C b h1 B d r;refine⟨s,x,hr,G,Q,q,fun g o u H I=> ?_⟩;subst k y;have R:o<xs.length:=(List.getElem?_eq_some_iff.1 I).1;have J:(xs++news)[o]?=some u:=by rw[List.getElem?_append_left R];exact I
 rcases q with q|q
 ·rw[H]at q
  rcases G.2 with⟨rfl,_⟩|⟨f,cap,cur,rfl,_⟩
  ·cases q
  ·obtain rfl:f=g:=by simpa [Value.ownBlock]using q
   have h:=G.cells rfl o u J;rwa [show((Xa f 0):Addr).add o=(Xa f o) by unfold Addr.add;split<;>simp_all]at h
 ·rcases a.2 with⟨rfl,_⟩|⟨f,cap,cur,rfl,S,K,T,U,L,M⟩
  ·cases H
  ·obtain rfl:f=g:=by simpa [Value.ownBlock]using H
   have holds:∀j u,xs[j]?=some u→w.cell? (((Xa f 0):Addr).add j)=some u:=a.cells (g:=f) rfl;have N:f<w.heap.size:=(a.lt f rfl).2;by_cases l:n+m≤cap
   ·have p:=run_append_room (P:=P) w t ty e i D hi f n cap cur K A m c news C b h1 l (by rw[C,L,←Nat.add_mul];exact Nat.mul_le_mul_right _ l)
    rw[hr]at p;obtain⟨rfl,_⟩:s=_∧_:=by simpa using p
    simp[Value.ownBlock]at q;omega
   ·simp only[maxLen]at B
    have p:=run_append_grow (P:=P) w t ty e i z D hi O (Xa f 0) n cap xs a.1 holds A m c news C b zo zo (growslice_fits zo d);rw[hr]at p;obtain⟨_,rfl⟩:_∧x=_:=by simpa using p
    have h:=holds o u I;rw[show((Xa f 0):Addr).add o=(Xa f o) by unfold Addr.add;split<;>simp_all]at h;rw[World.cell?_alloc_lt _ _ _ (by simpa using N)];exact h
theorem Aw{P:Program}{w:World}{ops:Array Oper}{rest:List Oper}{o:Oper}{a:Act}{Q:Exit→Act→World→Prop}(r:o.guard=none)(s x:Operand)(t:TypeId)
 (E:o.op= .call {callee:= .builtin .append,args:=#[s,x],argTypes:=#[t,t]})
 (base:Nat)(e:TypeId)(i:TypeInfo)(z:Value)(size bytes:Nat)(F:P.underlying t=some (.slice e))(hi:P.info? e=some i)(G:i.zero=some z)
 (d:i.size=size)(y:i.bytes=bytes)(A:z.cells.size=size)(B:0<size)
 (v:Value)(n:Nat)(xs:List Value)(H:a.eval s=v)(q:w.ownsRow base e size v n xs)
 (C:Addr)(m c:Nat)(news:List Value)(I:a.eval x= .slice (some C) m c)(J:news.length=m*size)(f:∀j u,news[j]?=some u→w.cell? (C.add j)=some u)(h1:∀u∈news,u.oneCell'=true)
 (D:n+m≤maxLen)(b:(n+m)*bytes≤140737488355328)(k:base≤w.heap.size)
 (h:∀l p,p.ownsRow base e size l (n+m) (xs++news)→w.grownBy p v.ownBlock→(l.ownBlock=v.ownBlock∨l.ownBlock=some w.heap.size)→(∀g o u,v.ownBlock=some g→xs[o]?=some u→Xc p g o u)→wpList P ops Q rest (a.put o.dst l) p):
 wpList P ops Q (o::rest) a w:=by
 refine wpList_plain r fun K L=> ?_;obtain⟨l,p,hr,M,N,O,R⟩:=Av (P:=P) w base t o.type e i z size bytes F hi G d y A B v n xs q C m c news J f h1 D b k;unfold Oper.wp execOp;simp only[E,resolve,invoke,builtin,Sem.run_bind,Sem.run_pure,Result.andThen_ok,List.map_toArray,List.map_cons,List.map_nil,H,I,hr];exact L _ _ (h l p M N O R)
end TS
namespace Go.Proofs.YtkochlhejabdcaaGreatDoor
open Go.RowKit TS Tryz
theorem Bf(a:Addr)(w:World):(method 480 105 (.pointer (some a)) "Underlying").run Tryz.prog w= .ok (290,.pointer (some a)) w:=zk
theorem Bg(a:Addr)(w:World):(nilAhead 480 105 (.pointer (some a)) "Underlying").run Tryz.prog w= .ok (some false) w:=zk
theorem Bh(a:Addr)(w:World):(method 480 60 (.pointer (some a)) "Underlying").run Tryz.prog w= .ok (284,.pointer (some a)) w:=zk
theorem Bi(a:Addr)(w:World):(nilAhead 480 60 (.pointer (some a)) "Underlying").run Tryz.prog w= .ok (some false) w:=zk
theorem Bj(a:Addr)(w:World):(method 480 142 (.pointer (some a)) "Underlying").run Tryz.prog w= .ok (294,.pointer (some a)) w:=zk
theorem Bk(a:Addr)(w:World):(nilAhead 480 142 (.pointer (some a)) "Underlying").run Tryz.prog w= .ok (some false) w:=zk
theorem Bl(a:Addr)(w:World):(method 480 108 (.pointer (some a)) "Underlying").run Tryz.prog w= .ok (291,.pointer (some a)) w:=zk
theorem Bm(a:Addr)(w:World):(nilAhead 480 108 (.pointer (some a)) "Underlying").run Tryz.prog w= .ok (some false) w:=zk
theorem Bn(a:Addr)(w:World):(method 480 144 (.pointer (some a)) "Underlying").run Tryz.prog w= .ok (296,.pointer (some a)) w:=zk
theorem Bo(a:Addr)(w:World):(nilAhead 480 144 (.pointer (some a)) "Underlying").run Tryz.prog w= .ok (some false) w:=zk
theorem Bp(a:Addr)(w:World):(method 480 146 (.pointer (some a)) "Underlying").run Tryz.prog w= .ok (298,.pointer (some a)) w:=zk
theorem Bq(a:Addr)(w:World):(nilAhead 480 146 (.pointer (some a)) "Underlying").run Tryz.prog w= .ok (some false) w:=zk
theorem Br(a:Addr)(w:World):(method 480 148 (.pointer (some a)) "Underlying").run Tryz.prog w= .ok (300,.pointer (some a)) w:=zk
theorem Bs(a:Addr)(w:World):(nilAhead 480 148 (.pointer (some a)) "Underlying").run Tryz.prog w= .ok (some false) w:=zk
theorem Bt(a:Addr)(w:World):(method 480 150 (.pointer (some a)) "Underlying").run Tryz.prog w= .ok (302,.pointer (some a)) w:=zk
theorem Bu(a:Addr)(w:World):(nilAhead 480 150 (.pointer (some a)) "Underlying").run Tryz.prog w= .ok (some false) w:=zk
theorem Bv(a:Addr)(w:World):(method 480 152 (.pointer (some a)) "Underlying").run Tryz.prog w= .ok (304,.pointer (some a)) w:=zk
theorem Bw(a:Addr)(w:World):(nilAhead 480 152 (.pointer (some a)) "Underlying").run Tryz.prog w= .ok (some false) w:=zk
theorem Bx(a:Addr)(w:World):(method 480 184 (.pointer (some a)) "Underlying").run Tryz.prog w= .ok (305,.pointer (some a)) w:=zk
theorem By(a:Addr)(w:World):(nilAhead 480 184 (.pointer (some a)) "Underlying").run Tryz.prog w= .ok (some false) w:=zk
theorem Bz(a:Addr)(w:World):(method 480 202 (.pointer (some a)) "Underlying").run Tryz.prog w= .ok (307,.pointer (some a)) w:=zk
theorem BA(a:Addr)(w:World):(nilAhead 480 202 (.pointer (some a)) "Underlying").run Tryz.prog w= .ok (some false) w:=zk
theorem BB(a:Addr)(w:World):(method 480 37 (.pointer (some a)) "Underlying").run Tryz.prog w= .ok (282,.pointer (some a)) w:=zk
theorem BD(a:Addr)(w:World):(nilAhead 480 37 (.pointer (some a)) "Underlying").run Tryz.prog w= .ok (some false) w:=zk
def cE(w:World)(T:TypeId)(b:Nat)(r:Value):Prop:=∃K fn c,Tryz.prog.funcs[K]?=some fn∧(fn.name== "runtime.NumGoroutine")=false∧fn.body=some c∧(∀W:World,(method 480 T (Xp b) "Underlying").run Tryz.prog W= .ok (K,Xp b) W)∧
 (∀W:World,(nilAhead 480 T (Xp b) "Underlying").run Tryz.prog W= .ok (some false) W)∧Xk K #[Xp b] w fun e a=>e= .returned r∧w=a
theorem BE(b:Nat)(w:World):cE w 105 b (Xi 105 b):=⟨_,_,_,func290,by kernel_rfl,rfl,fun W=>Bf _ W,fun W=>Bg _ W,AI _ w⟩
theorem BF(b:Nat)(w:World):cE w 108 b (Xi 108 b):=⟨_,_,_,func291,by kernel_rfl,rfl,fun W=>Bl _ W,fun W=>Bm _ W,AJ _ w⟩
theorem BG(b:Nat)(w:World):cE w 144 b (Xi 144 b):=⟨_,_,_,func296,by kernel_rfl,rfl,fun W=>Bn _ W,fun W=>Bo _ W,AK _ w⟩
theorem nY(b:Nat)(w:World):cE w 146 b (Xi 146 b):=⟨_,_,_,func298,by kernel_rfl,rfl,fun W=>Bp _ W,fun W=>Bq _ W,AL _ w⟩
theorem BH(b:Nat)(w:World):cE w 148 b (Xi 148 b):=⟨_,_,_,func300,by kernel_rfl,rfl,fun W=>Br _ W,fun W=>Bs _ W,AM _ w⟩
theorem BI(b:Nat)(w:World):cE w 150 b (Xi 150 b):=⟨_,_,_,func302,by kernel_rfl,rfl,fun W=>Bt _ W,fun W=>Bu _ W,AN _ w⟩
theorem BJ(b:Nat)(w:World):cE w 152 b (Xi 152 b):=⟨_,_,_,func304,by kernel_rfl,rfl,fun W=>Bv _ W,fun W=>Bw _ W,AO _ w⟩
theorem BK(b:Nat)(w:World):cE w 184 b (Xi 184 b):=⟨_,_,_,func305,by kernel_rfl,rfl,fun W=>Bx _ W,fun W=>By _ W,AP _ w⟩
theorem BL(b:Nat)(w:World):cE w 202 b (Xi 202 b):=⟨_,_,_,func307,by kernel_rfl,rfl,fun W=>Bz _ W,fun W=>BA _ W,AQ _ w⟩
theorem BM(b:Nat)(w:World):cE w 37 b (Xi 37 b):=⟨_,_,_,func282,by kernel_rfl,rfl,fun W=>BB _ W,fun W=>BD _ W,AH _ w⟩
theorem qI(b:Nat)(t:TypeId)(a:Option Addr)(w:World)(c:Xc w b 5 (.int .u32 15))(d:Xc w b 6 (.iface t (.pointer a)))(h7:Xc w b 7 (.iface t (.pointer a))):
 cE w 60 b (.iface t (.pointer a)):=⟨_,_,_,func284,by kernel_rfl,rfl,fun W=>Bh _ W,fun W=>Bi _ W,A3 b .nilIface t a w c d h7⟩
theorem BN(b c:Nat)(t:TypeId)(r:Value)(w:World)(h:Xc w b 3 (Xi t c))(i:cE w t c r):
 Xk 294 #[Xp b] w fun e d=>e= .returned r∧w=d:=by
 obtain⟨K,fn,c',f,a,g,hm,l,j⟩:=i;have k:=fun args w=>Go.MuLone.run_callFunc_enter f a g args w;clear f a g;go_enter func294,ntmps294;go_wp2_with fail
 refine(ur b _ _ _ h).mono ?_;rintro e d ⟨rfl,rfl⟩;go_wp2_with fail
 refine j.mono ?_;rintro e d ⟨rfl,rfl⟩;go_wp2_with fail
 go_ret;exact⟨rfl,rfl⟩
theorem BO(b c:Nat)(t:TypeId)(r:Value)(w:World)(h:Xc w b 3 (Xi t c))(a:cE w t c r):cE w 142 b r:=
 ⟨_,_,_,func294,by kernel_rfl,rfl,fun W=>Bj _ W,fun W=>Bk _ W,BN b c t r w h a⟩
theorem uD(b:Nat)(pk:Option Addr)(s:ByteArray)(w:World)(h:Xc w b 0 (.pointer pk)):
 Xk 48 #[Xp b,.string s] w (Made #[.int .i64 0,.pointer pk,.string s,.nilIface] 134 w):=by
 go_enter func48,ntmps48;go_wp2_with fail
 refine(qC _ _ _ _).mono ?_;rintro e a ⟨rfl,rfl⟩;go_wp2_with fail
 go_ret;exact⟨rfl,rfl⟩
end Go.Proofs.YtkochlhejabdcaaGreatDoor
namespace TS
open Go Go.Proofs.Tryz
def uE(p:Pm):Prop:=∀c:Nat,65≤c→c≤90→p 5 c=some (.int .u8 160)
def bU(w:World):Prop:=∀c:Nat,65≤c→c≤90→Xc w 5 c (.int .u8 160)
theorem bU.drewN{w:World}(h:bU w)(n:Nat):bU (w.drewN n):=fun c h1 a=>by simpa using h c h1 a
theorem uE.world{p:Pm}{w:World}(h:uE p)(hw:KW p w):bU w:=fun c h1 a=>hw _ _ _ (h c h1 a)
theorem uF{s:ByteArray}(h:aR s=true):∃(c:UInt8)(r:List UInt8),s.data.toList=c::r∧65≤c.toNat∧c.toNat≤90:=by
 unfold aR at h;cases a:s.data.toList with
 |nil=>rw[a]at h;cases h
 |cons c r=>
  rw[a]at h;simp only[kK,lL,Bool.and_eq_true,decide_eq_true_eq]at h;obtain⟨⟨⟨h1,b⟩,_⟩,_⟩:=h;exact⟨c,r,rfl,by simpa [UInt8.le_iff_toNat_le]using h1,by simpa [UInt8.le_iff_toNat_le]using b⟩
end TS
namespace Go.Proofs.YtkochlhejabdcaaGreatDoor
open Go.RowKit TS Tryz
theorem BP(s:ByteArray)(c:UInt8)(r:List UInt8)(b:s.data.toList=c::r)(h1:65≤c.toNat)(l:c.toNat≤90)(w:World):
 Xk 219 #[.string s] w fun e h=>e= .returned (.tuple #[.int .i32 c.toNat,.int .i64 1])∧w=h:=by
 have d:s.data.toList[0]?=some c:=by rw[b];rfl
 have a:0<s.size:=by
  rw[Lib.size_eq];exact(List.getElem?_eq_some_iff.1 d).1
 have i:s.toList.isEmpty=false:=by rw[Lib.toList_data,b];rfl
 have f:(s.toList= [])=False:=by rw[Lib.toList_data,b];simp
 have j:s[0]'a=c:=by
  have:=Lib.data_getElem? s 0 a;rw[d]at this;exact(Option.some.inj this).symm
 have g:(0:Int)<(s.size:Int):=zo;have k:(c.toNat:Int)<128:=zo;clear b d;go_enter func219,ntmps219;go_wp2_with fail
 go_ret2;exact⟨rfl,rfl⟩
theorem BQ(c:Nat)(h1:65≤c)(a:c≤90)(w:World)(hT:bU w):Xk 243 #[.int .i32 c] w fun e b=>e= .returned (.bool true)∧w=b:=by
 have d:=hT c h1 a;have f:(c:Int)≤255:=zo;have g:(c:Int)<256:=zo;have h:bits .and .u8 160 96=32:=zd;clear hT;go_enter func243,ntmps243;go_wp2_with fail
 go_ret;exact⟨rfl,rfl⟩
theorem nZ(s:ByteArray)(f:aR s=true)(w:World)(hT:bU w):Xk 221 #[.string s] w fun e a=>e= .returned (.bool true)∧w=a:=by
 obtain⟨c,r,g,h1,b⟩:=uF f;have h:=BP s c r g h1 b;have i:=BQ c.toNat h1 b;have d:=zh hT;clear g h1 b f hT;go_enter func221,ntmps221;go_wp2_with fail
 refine(h _).mono ?_;rintro e a ⟨rfl,rfl⟩;go_wp2_with fail
 refine(i _ d.out).mono ?_;rintro e a ⟨rfl,rfl⟩;go_wp2_with fail
 go_ret;exact⟨rfl,rfl⟩
theorem BR(q:Option Addr)(s:ByteArray)(b:aR s=true)(w:World)(hT:bU w):Xk 186 #[.pointer q,.string s] w fun e c=>e= .returned (.string s)∧w=c:=by
 have d:=nZ s b;have a:=zh hT;clear b hT;go_enter func186,ntmps186;go_wp2_with fail
 refine(d _ a.out).mono ?_;rintro e c ⟨rfl,rfl⟩;go_wp2_with fail
 go_ret;exact⟨rfl,rfl⟩
theorem n_(b:Nat)(q:Option Addr)(s:ByteArray)(a:aR s=true)(w:World)(hT:bU w)(h1:Xc w b 1 (.pointer q))(f:Xc w b 2 (.string s)):
 Xk 134 #[Xp b] w fun e c=>e= .returned (.string s)∧∃n,c=w.drewN n:=by
 have d:=zh fun n=>BR q s a (w.drewN n) (hT.drewN n);clear a hT;go_enter func134,ntmps134;go_wp2_with fail
 go_quiet (first|(go_at_call 186;exact Calls.quiet_of_same ((d.out _).mono (by rintro e c ⟨he,hw⟩;exact⟨he,hw.symm⟩))))
 go_wp2_with fail
 go_ret;exact⟨rfl,_,rfl⟩
end Go.Proofs.YtkochlhejabdcaaGreatDoor
namespace TS
open Go Go.RowKit
structure Kept(X:Nat→Prop)(w a:World):Prop where
 os:a.os=w.os
 tape:a.tape=w.tape
 output:a.output=w.output
 size:w.heap.size≤a.heap.size
 block:∀k,k<w.heap.size→¬X k→a.heap[k]?=w.heap[k]?
section
variable {X Y:Nat→Prop} {w w1 w2:World}
theorem Kept.refl(X:Nat→Prop)(w:World):Kept X w w:=⟨rfl,rfl,rfl,Nat.le_refl _,fun _ _ _=>rfl⟩
theorem Kept.of(h:Below w w w1):Kept X w w1:=⟨h.os,h.tape,h.output,h.size,fun k hk _=>h.block k hk⟩
theorem Kept.trans(h:Kept X w w1)(k:Kept Y w1 w2)(a:∀b,b<w.heap.size→Y b→X b):Kept X w w2:=
 ⟨k.os.trans h.os,k.tape.trans h.tape,k.output.trans h.output,Nat.le_trans h.size k.size,fun b c d=>(k.block b (Nat.lt_of_lt_of_le c h.size) fun e=>d (a b c e)).trans (h.block b c d)⟩
theorem Kept.mono(h:Kept X w w1)(a:∀b,b<w.heap.size→X b→Y b):Kept Y w w1:=⟨h.os,h.tape,h.output,h.size,fun b c d=>h.block b c fun e=>d (a b c e)⟩
theorem Kept.below(h:Kept X w w1)(k:Below w1 w1 w2):Kept X w w2:=h.trans (Kept.of (X:=fun _=>False) k) fun _ _ h=>h.elim
theorem Kept.grown{row:Option Nat}(h:Kept X w w1)(a:w1.grownBy w2 row)(hr:∀k,row=some k→k<w.heap.size→X k):Kept X w w2:=
 h.trans (Y:=fun k=>row=some k) ⟨a.os,a.tape,a.output,a.size,fun k hk c=>a.block k hk fun e=>c e.symm⟩ fun b d e=>hr b e d
theorem Kept.setCell(h:Kept X w w1){a:Addr}(ha:a.block<w.heap.size→X a.block)(v:Value):Kept X w (w1.setCell a v):=
 h.trans (Y:=fun k=>k=a.block) ⟨rfl,rfl,rfl,by simp[World.setCell],fun k _ c=>Below.heap_setCell _ _ _ _ c⟩ fun b d e=>e▸ha (e▸d)
theorem Kept.alloc(h:Kept X w w1)(o:Obj):Kept X w (w1.alloc o):=h.below (zB.alloc zl o)
theorem Kept.cell(h:Kept X w w1){b o:Nat}(a:b<w.heap.size)(c:¬X b):w1.cell? (Xa b o)=w.cell? (Xa b o):=World.cell?_of_block (w:=w) (h.block b a c)
theorem Kept.frozen(h:Kept X w w1){b o:Nat}(a:b<w.heap.size)(c:¬X b):w1.frozen? (Xa b o)=w.frozen? (Xa b o):=World.frozen?_of_block (w:=w) (h.block b a c)
theorem KW.kept{p:Pm}(h:KW p w)(k:Kept X w w1)(c:∀b o v,p b o=some v→¬X b):KW p w1:=fun b o v a=>by rw[k.cell (h.lt a) (c b o v a)];exact h b o v a
theorem dY{B:Nat}{e:TypeId}{size:Nat}{v:Value}{n:Nat}{xs:List Value}(h:w.ownsRow B e size v n xs)(k:Kept X w w1)(b:∀g,v.ownBlock=some g→¬X g):w1.ownsRow B e size v n xs:=
 ⟨h.1,h.2.imp id fun⟨g,cap,cur,h1,c,a,d⟩=>⟨g,cap,cur,h1,c,by rw[k.block g (Array.getElem?_eq_some_iff.1 a).1 (b g (by rw[h1];rfl))];exact a,d⟩⟩
theorem eC{B:Nat}{e:TypeId}{size:Nat}{v:Value}{n:Nat}{xs:List Value}(h:w.ownsRow B e size v n xs){a:Addr}(ha:v.ownBlock≠some a.block)(u:Value):(w.setCell a u).ownsRow B e size v n xs:=
 dY (X:=fun k=>k=a.block) h ((Kept.refl (fun k=>k=a.block) w).setCell (a:=a) (fun _=>rfl) u) fun g b e=>ha (e▸b)
end
theorem a_{w:World}{B:Nat}{e:TypeId}{size:Nat}{v:Value}{n:Nat}{xs:List Value}(h:w.ownsRow B e size v n xs):∃a c,v= .slice a n c:=by
 rcases h.2 with⟨rfl,rfl⟩|⟨g,cap,cur,rfl,_⟩
 ·exact⟨_,_,rfl⟩
 ·exact⟨_,_,rfl⟩
theorem cA{w:World}{o:Obj}{i:Nat}(h:i=w.heap.size):(w.alloc o).heap[i]?=some o:=by subst h;exact heap_alloc_new w o
theorem dC{w:World}{o:Obj}{i:Nat}(h:i<w.heap.size):(w.alloc o).heap[i]?=w.heap[i]?:=Below.heap_alloc _ _ _ h
theorem heap_set{w:World}{b o:Nat}{cs:Array Value}{T:TypeId}{z:Nat×Nat}{v:Value}(h:w.heap[b]?=some (.cells cs T z)):(w.setCell (Xa b o) v).heap[b]?=some (.cells (cs.setIfInBounds o v) T z):=by
 unfold World.setCell;simp only[Array.getElem?_modify,if_pos rfl,h];rfl
theorem eD(w:World)(x:Value)(T:TypeId):∀j u,[x][j]?=some u→(w.alloc (.cells #[x] T)).cell? (((Xa w 0):Addr).add j)=some u:=by
 intro j u a;rw[show((Xa w 0):Addr).add j=(Xa w j) by unfold Addr.add;split<;>simp_all,World.cell?_alloc_new];simpa using a
theorem one_one{x:Value}(h:x.oneCell'=true):∀v∈ [x],v.oneCell'=true:=by intro v a;simp at a;subst a;exact h
end TS
namespace Go.Proofs.YtkochlhejabdcaaGreatDoor
open Go.RowKit TS
theorem uG:(Tryz.prog.info? 113).map (fun i=>(i.zero,i.size,i.bytes))=some (some (.pointer none),1,8):=zk
theorem uH:(Tryz.prog.info? 102).map (fun i=>(i.zero,i.size,i.bytes))=some (some (.pointer none),1,8):=zk
theorem qJ:(Tryz.prog.info? 164).map (fun i=>(i.zero,i.size,i.bytes))=some (some (.pointer none),1,8):=zk
end Go.Proofs.YtkochlhejabdcaaGreatDoor
namespace TS
open Go Go.RowKit Go.ChangeMaps
def Plain(w:World)(b:Nat):Prop:=∃cs T,w.heap[b]?=some (.cells cs T (0,0))
theorem jA{w:World}{b:Nat}(h:Plain w b)(a:Addr)(v:Value):Plain (w.setCell a v) b:=by
 obtain⟨cs,T,c⟩:=h;by_cases e:b=a.block
 ·subst e
  refine⟨if a.spot.isSome then cs else cs.setIfInBounds a.off v,T,?_⟩;unfold World.setCell;simp only[Array.getElem?_modify,if_pos rfl,c];rfl
 ·exact⟨cs,T,by rw[Below.heap_setCell _ _ _ _ e];exact c⟩
structure KeyLaw(P:Program)(kt:TypeId)(K:World→Value→Prop):Prop where
 check:∀(w:World)(em:Bool){v:Value},K w v→(Instr.checkKey em 10000 kt v).run P w= .ok () w
 find:∀(w:World){x:Value},K w x→∀es:List MapEntry,(∀e∈es,K w e.key)→
  ((Instr.findKey kt x es).run P w= .ok none w∧∀e∈es,e.key≠x)∨∃j e,(Instr.findKey kt x es).run P w= .ok (some (j,e.val)) w∧es[j]?=some e∧e.key=x
 stays:∀(w:World){v:Value},K w v→(Instr.keyThatStays v v).run P w= .ok v w
def cr(K:World→Value→Prop)(w:World)(b:Nat)(F:Value→Option Value):Prop:=
 ∃es clock,w.heap[b]?=some (.map es clock)∧(∀e∈es.toList,K w e.key∧F e.key=some e.val)∧(∀x v,F x=some v→∃e∈es.toList,e.key=x)∧es.toList.Pairwise fun x y=>x.key≠y.key
section
variable {P:Program} {kt:TypeId} {K:World→Value→Prop} {w w':World} {b:Nat} {F:Value→Option Value}
theorem jB(K:World→Value→Prop)(w:World):cr K (w.alloc (.map #[] 0)) w.heap.size fun _=>none:=
 ⟨#[],0,(MapKept.heap_alloc w _).1,by simp,by simp,by simp⟩
theorem cr.lt(h:cr K w b F):b<w.heap.size:=by obtain⟨es,clock,a,_⟩:=h;exact(Array.getElem?_eq_some_iff.1 a).1
theorem cr.of(h:cr K w b F)(a:w'.heap[b]?=w.heap[b]?)(c:∀v,K w v→K w' v):cr K w' b F:=by
 obtain⟨es,clock,d,h1,f,g⟩:=h;exact⟨es,clock,a.trans d,fun e he=>⟨c _ (h1 e he).1,(h1 e he).2⟩,f,g⟩
theorem cr.look(h:cr K w b F)(L:KeyLaw P kt K){t e:TypeId}(f:P.underlying t=some (.map kt e)){z:Value}(i:(zeroValue e).run P w= .ok z w){x:Value}(a:K w x):
 (Instr.lookup t (.map (some b)) x false).run P w= .ok ((F x).getD z) w:=by
 obtain⟨es,clock,g,h1,k,_⟩:=h;rcases L.find w a es.toList (fun e he=>(h1 e he).1)with⟨c,l⟩|⟨j,d,c,m,hk⟩
 ·have hF:F x=none:=by
   cases hF:F x with
   |none=>rfl
   |some v=>obtain⟨d,he,hk⟩:=k x v hF;exact absurd hk (l d he)
  simp[Instr.lookup,run_underlying f,MapKept.run_getObj_map g,L.check w _ a,c,i,hF,Result.andThen]
 ·have:=(h1 d (List.mem_of_getElem? m)).2
  rw[hk]at this;simp[Instr.lookup,run_underlying f,MapKept.run_getObj_map g,L.check w _ a,c,this,Result.andThen]
def mE(K:World→Value→Prop):Prop:=∀(w W:World)(b:Nat)(es:Array MapEntry)(c:Nat),w.heap[b]?=some (.map es c)→(∀k,k≠b→W.heap[k]?=w.heap[k]?)→∀y,K w y→K W y
theorem cr.store(h:cr K w b F)(L:KeyLaw P kt K)(W:mE K){t e:TypeId}(S:P.underlying t=some (.map kt e)){x:Value}(v:Value)(B:K w x):
 ∃w',(Instr.mapUpdate t (.map (some b)) x v).run P w= .ok () w'∧(∀C:Value→Option Value,(∀y,y≠x→C y=F y)→C x=some v→cr K w' b C)∧w.grownBy w' (some b):=by
 obtain⟨es,clock,p,h1,T,J⟩:=h;have D:∀o,w.grownBy (ChangeMaps.setBlock w b o) (some b):=fun o=>⟨rfl,rfl,rfl,by simp[ChangeMaps.setBlock],fun i _ hi=>heap_setBlock_other p _ (fun e=>hi (by rw[e]))⟩
 have q:∀o y,K w y→K (ChangeMaps.setBlock w b o) y:=fun o y r=>W w _ b es clock p (fun k hk=>heap_setBlock_other p _ hk) y r;rcases L.find w B es.toList (fun e he=>(h1 e he).1)with⟨M,U⟩|⟨j,N,M,H,hk⟩
 ·refine⟨ChangeMaps.setBlock w b (.map (es.push ⟨x,v,clock⟩) (clock+1)),?_,fun C l s=>⟨_,_,heap_setBlock_same p _,fun e he=> ?_,fun y u r=> ?_,?_⟩,D _⟩
  ·simp[Instr.mapUpdate,run_underlying S,MapKept.run_getObj_map p,L.check w false B,M,MapKept.run_setObj_map _ p,Result.andThen,ChangeMaps.setBlock]
  ·simp only[Array.toList_push,List.mem_append,List.mem_singleton]at he
   rcases he with he|rfl
   ·exact⟨q _ _ (h1 e he).1,by rw[l _ (U e he)];exact(h1 e he).2⟩
   ·exact⟨q _ _ B,s⟩
  ·by_cases g:y=x
   ·exact⟨⟨x,v,clock⟩,by simp,g.symm⟩
   ·rw[l y g]at r
    obtain⟨e,he,hk⟩:=T y u r;exact⟨e,by simp[Array.mem_toList_iff.1 he],hk⟩
  ·simp only[Array.toList_push]
   rw[List.pairwise_append];exact⟨J,List.pairwise_singleton _ _,fun a ha c V=>by simp at V;subst V;exact U a ha⟩
 ·have m:=(List.getElem?_eq_some_iff.1 H).1
  have z:=(List.getElem?_eq_some_iff.1 H).2;have O:es[j]?=some N:=by rw[←Array.getElem?_toList];exact H
  have n:(es.modify j fun e=> {e with key:=x,val:=v}).toList=es.toList.set j {N with key:=x,val:=v}:=by
   rw[Array.toList_modify];exact modify_eq_set _ _ _ _ H
  have d:∀i(hi:i<es.toList.length),i≠j→(es.toList[i]).key≠x:=fun i hi X=>by
   have I:=List.pairwise_iff_getElem.1 J;intro E;rcases Nat.lt_or_ge i j with Q|Y
   ·exact I i j hi m Q (by rw[E,z,hk])
   ·exact I j i m hi zo (by rw[E,z,hk])
  refine⟨ChangeMaps.setBlock w b (.map (es.modify j fun e=> {e with key:=x,val:=v}) clock),?_,fun C l s=>⟨_,_,heap_setBlock_same p _,fun e he=> ?_,fun y u r=> ?_,?_⟩,D _⟩
  ·simp[Instr.mapUpdate,run_underlying S,MapKept.run_getObj_map p,L.check w false B,M,O,hk,L.stays w B,MapKept.run_setObj_map _ p,Result.andThen,ChangeMaps.setBlock]
  ·rw[n]at he
   obtain⟨i,hi,rfl⟩:=List.getElem_of_mem he;simp only[List.length_set]at hi;rw[List.getElem_set];split
   ·exact⟨q _ _ B,s⟩
   ·rename_i f
    have:=h1 _ (zm hi);exact⟨q _ _ this.1,by rw[l _ (d i hi fun e=>f e.symm)];exact this.2⟩
  ·rw[n]
   by_cases g:y=x
   ·exact⟨{N with key:=x,val:=v},by rw[List.mem_iff_getElem];exact⟨j,by simpa using m,by simp⟩,g.symm⟩
   ·rw[l y g]at r
    obtain⟨e,he,G⟩:=T y u r;obtain⟨i,hi,rfl⟩:=List.getElem_of_mem he;have f:j≠i:=fun e=>g (by subst e;rw[←G,z,hk]);exact⟨es.toList[i],by rw[List.mem_iff_getElem];exact⟨i,by simpa using hi,by rw[List.getElem_set_ne f]⟩,G⟩
  ·rw[n]
   rw[List.pairwise_iff_getElem];intro i k hi A R;simp only[List.length_set]at hi A;have I:=List.pairwise_iff_getElem.1 J i k hi A R;rw[List.getElem_set,List.getElem_set];split
   ·split
    ·omega
    ·rename_i f;exact fun e=>d k A (fun e=>f e.symm) e.symm
   ·split
    ·rename_i f _;exact d i hi fun e=>f e.symm
    ·exact I
end
theorem BV{P:Program}{kt:TypeId}(h:P.underlying kt=some .string):KeyLaw P kt fun _ v=> ∃s,v= .string s where
 check w em _ a:=by obtain⟨s,rfl⟩:=a;exact MapKept.run_checkKey h (d:= .string) (k:= .string s) trivial em 9999
 find w _ l es c:=by
  obtain⟨s,rfl⟩:=l;have f:∀x∈es,MapKept.IsKey .string x.key:=fun x g=>by obtain⟨o,e⟩:=c x g;rw[e];trivial
  rcases MapKept.findNow_spec (d:= .string) (k:= .string s) trivial es 0 f with⟨h1,i⟩|⟨j,m,h1,i,n⟩
  ·exact Or.inl ⟨MapKept.run_findKey h h1,i⟩
  ·exact Or.inr ⟨j,m,by simpa using MapKept.run_findKey h h1,i,n⟩
 stays w _ a:=by obtain⟨s,rfl⟩:=a;exact MapKept.run_keyThatStays (d:= .string) (k:= .string s) trivial
theorem uM{P:Program}{kt:TypeId}{K:World→Value→Prop}{w:World}{x:Value}(g:∀y,K w y→(y=x∧(Op.equal kt x y).run P w= .ok true w)∨(y≠x∧(Op.equal kt x y).run P w= .ok false w)):∀(es:List MapEntry)(i:Nat),(∀e∈es,K w e.key)→
 ((Instr.findAsking kt x es i).run P w= .ok none w∧∀e∈es,e.key≠x)∨∃j e,(Instr.findAsking kt x es i).run P w= .ok (some (i+j,e.val)) w∧es[j]?=some e∧e.key=x:=by
 intro es;induction es with
 |nil=>exact fun i _=> .inl ⟨rfl,by simp⟩
 |cons e r ih=>
  intro i h;rcases g e.key (h e List.mem_cons_self)with⟨h1,c⟩|⟨h1,c⟩
  ·exact .inr ⟨0,e,by simp[Instr.findAsking,c,Result.andThen],rfl,h1⟩
  ·rcases ih (i+1) (fun y a=>h y (List.mem_cons_of_mem _ a))with⟨d,f⟩|⟨j,k,d,f,l⟩
   ·exact .inl ⟨by simp[Instr.findAsking,c,d,Result.andThen],fun y a=>by
     rcases List.mem_cons.1 a with rfl|a
     ·exact h1
     ·exact f y a⟩
   ·exact .inr ⟨j+1,k,by simp[Instr.findAsking,c,d,Result.andThen];omega,by simpa using f,l⟩
def qN(w:World)(v:Value):Prop:=∃b,v=Xp b∧Plain w b
theorem uN{P:Program}{kt m:TypeId}{j:TypeInfo}(g:P.underlying kt=some (.pointer m))(i:P.info? m=some j)(o:j.size≠0):KeyLaw P kt qN where
 check w em _ p:=by
  obtain⟨b,rfl,_⟩:=p;have h:∀n,(Instr.checkKey em (n+1) kt (Xp b)).run P w= .ok () w:=fun n=>by simp[Instr.checkKey,run_underlying g,Result.andThen]
  exact h 9999
 find w x t es f:=by
  obtain⟨b,rfl,cs,T,u⟩:=t;have v:∀y,qN w y→(y=(Xp b)∧(Op.equal kt (Xp b) y).run P w= .ok true w)∨(y≠(Xp b)∧(Op.equal kt (Xp b) y).run P w= .ok false w):=by
   rintro y ⟨c,rfl,z,T',A⟩;by_cases h:c=b
   ·subst h
    have h:∀d,(Op.equalIn (d+1) kt (Xp c) (Xp c)).run P w= .ok true w:=fun d=>by simp[Op.equalIn,run_underlying g,Go.sizeOf,typeInfo,i,run_sameAddr_same]
    exact .inl ⟨rfl,h 9999⟩
   ·have l:∀d,(Op.equalIn (d+1) kt (Xp b) (Xp c)).run P w= .ok false w:=fun d=>by
     simp[Op.equalIn,run_underlying g,Go.sizeOf,typeInfo,i,o,run_sameAddr_other w (a:=(Xa b 0)) (b:=(Xa c 0)) (fun e=>h (by cases e;rfl)) u A]
    exact .inr ⟨fun e=>h (by cases e;rfl),l 9999⟩
  match es,f with
  | [],_=>exact .inl ⟨by simp[Instr.findKey,run_underlying g,Instr.findNow,Result.andThen],by simp⟩
  |e::r,f=>
   have k:Instr.findNow (.pointer m) (Xp b) (e::r) 0=none:=by simp[Instr.findNow,Instr.sameNow]
   rcases uM v (e::r) 0 f with⟨q,s⟩|⟨j,B,q,s,C⟩
   ·exact .inl ⟨by simp[Instr.findKey,run_underlying g,k,q,Result.andThen],s⟩
   ·exact .inr ⟨j,B,by simp[Instr.findKey,run_underlying g,k,q,Result.andThen],s,C⟩
 stays w _ p:=by
  obtain⟨b,rfl,_⟩:=p;have h:∀n,Instr.sameBits (n+1) (Xp b) (Xp b)=true:=fun n=>by simp[Instr.sameBits]
  have l:=h 9999;simp only[Nat.reduceAdd]at l;simp[Instr.keyThatStays,l]
def fG(P:Program)(w:World)(v:Value):Prop:=∃t a b i j,v=Xi t b∧P.underlying t=some (.pointer a)∧P.info? t=some i∧i.comparable=true∧P.info? a=some j∧j.size≠0∧Plain w b
theorem BW{P:Program}{kt:TypeId}{ms:Array (String×TypeId)}(hi:P.underlying kt=some (.interface ms)):KeyLaw P kt (fG P) where
 check w em _ s:=by
  obtain⟨t,B,b,i,j,rfl,m,a,o,f,k,_⟩:=s;have h:∀n,(Instr.checkKey em (n+2) kt (Xi t b)).run P w= .ok () w:=fun n=>by simp[Instr.checkKey,run_underlying hi,run_underlying m,typeInfo,a,o,Result.andThen]
  exact h 9998
 find w x E es g:=by
  obtain⟨t,B,b,i,j,rfl,m,a,o,f,k,cs,T,G⟩:=E;have H:∀y,fG P w y→(y=(Xi t b)∧(Op.equal kt (Xi t b) y).run P w= .ok true w)∨(y≠(Xi t b)∧(Op.equal kt (Xi t b) y).run P w= .ok false w):=by
   rintro y ⟨t',I,c,Q,R,rfl,J,p,L,C,D,M,T',u⟩;by_cases v:t=t'
   ·subst v
    by_cases h:c=b
    ·subst h
     exact .inl ⟨rfl,run_equalIn_iface_ptr_same w 9998 _ hi m a o f⟩
    ·exact .inr ⟨fun e=>h (by cases e;rfl),run_equalIn_iface_ptr_other w 9998 hi m a o f k (fun e=>h (by cases e;rfl)) G u⟩
   ·have q:∀d,(Op.equalIn (d+1) kt (Xi t b) (Xi t' c)).run P w= .ok false w:=fun d=>by simp[Op.equalIn,run_underlying hi,v]
    exact .inr ⟨fun e=>v (by cases e;rfl),q 9999⟩
  match es,g with
  | [],_=>exact .inl ⟨by simp[Instr.findKey,run_underlying hi,Instr.findNow,Result.andThen],by simp⟩
  |e::r,g=>
   have l:Instr.findNow (.interface ms) (Xi t b) (e::r) 0=none:=by simp[Instr.findNow,Instr.sameNow]
   rcases uM H (e::r) 0 g with⟨z,A⟩|⟨j,N,z,A,O⟩
   ·exact .inl ⟨by simp[Instr.findKey,run_underlying hi,l,z,Result.andThen],A⟩
   ·exact .inr ⟨j,N,by simp[Instr.findKey,run_underlying hi,l,z,Result.andThen],A,O⟩
 stays w _ s:=by
  obtain⟨t,B,b,i,j,rfl,_⟩:=s;have h:∀n,Instr.sameBits (n+2) (Xi t b) (Xi t b)=true:=fun n=>by simp[Instr.sameBits]
  have q:=h 9998;simp only[Nat.reduceAdd]at q;simp[Instr.keyThatStays,q]
theorem uO:mE fun _ v=> ∃s,v= .string s:=fun _ _ _ _ _ _ _ _ h=>h
theorem uP{w W:World}{b:Nat}{es:Array MapEntry}{c:Nat}(d:w.heap[b]?=some (.map es c))(hk:∀k,k≠b→W.heap[k]?=w.heap[k]?){x:Nat}(h:Plain w x):Plain W x:=by
 obtain⟨cs,T,a⟩:=h;exact⟨cs,T,by rw[hk x fun e=>by rw[e,d]at a;cases a];exact a⟩
theorem fR(P:Program):mE (fG P):=fun _ _ _ _ _ a hk _ ⟨t,c,b,i,j,e,h1,d,f,g,k,h⟩=>⟨t,c,b,i,j,e,h1,d,f,g,k,uP a hk h⟩
section
variable {P:Program} {kt:TypeId} {K:World→Value→Prop}
theorem eE(w:World){ops:Array Oper}{rest:List Oper}{o:Oper}{a:Act}{Q:Exit→Act→World→Prop}(i:o.guard=none)(m x:Operand)(t:TypeId)(f:o.op=Op.lookup t m x false)
 (L:KeyLaw P kt K)(e:TypeId)(j:P.underlying t=some (.map kt e))(z:Value)(k:∀w,(zeroValue e).run P w= .ok z w)(b:Nat)(F:Value→Option Value)(hm:a.eval m= .map (some b))(h:cr K w b F)
 (key:Value)(l:a.eval x=key)(hk:K w key)(val:Value)(d:(F key).getD z=val)(n:wpList P ops Q rest (a.put o.dst val) w):wpList P ops Q (o::rest) a w:=by
 refine wpList_plain i fun p g=> ?_;have c:=h.look L j (k w) hk;rw[d]at c;unfold Oper.wp;simp[execOp,f,hm,l,c,Result.andThen];exact g _ _ n
theorem jC(w:World){ops:Array Oper}{rest:List Oper}{o:Oper}{a:Act}{Q:Exit→Act→World→Prop}(g:o.guard=none)(m x:Operand)(t:TypeId)(d:o.op=Op.lookup t m x false)
 (L:KeyLaw P kt K)(e:TypeId)(h:P.underlying t=some (.map kt e))(z:Value)(i:∀w,(zeroValue e).run P w= .ok z w)(hm:a.eval m= .map none)
 (key:Value)(k:a.eval x=key)(hk:K w key)(l:wpList P ops Q rest (a.put o.dst z) w):wpList P ops Q (o::rest) a w:=by
 refine wpList_plain g fun q f=> ?_;have c:(Instr.lookup t (.map none) key false).run P w= .ok z w:=by
  rcases L.find w hk [] zs with⟨n,_⟩|⟨j,r,_,p,_⟩
  ·simp[Instr.lookup,run_underlying h,L.check w true hk,n,i,Result.andThen]
  ·simp at p
 unfold Oper.wp;simp[execOp,d,hm,k,c,Result.andThen];exact f _ _ l
theorem eF(w:World){ops:Array Oper}{rest:List Oper}{o:Oper}{a:Act}{Q:Exit→Act→World→Prop}(j:o.guard=none)(m x v:Operand)(t:TypeId)(d:o.op=Op.mapUpdate t m x v)
 (L:KeyLaw P kt K)(f:mE K)(e:TypeId)(k:P.underlying t=some (.map kt e))(b:Nat)(F:Value→Option Value)(hm:a.eval m= .map (some b))(h:cr K w b F)(key val:Value)(l:a.eval x=key)(n:a.eval v=val)(hk:K w key)
 (p:∀w',(∀g:Value→Option Value,(∀y,y≠key→g y=F y)→g key=some val→cr K w' b g)→w.grownBy w' (some b)→wpList P ops Q rest (a.put o.dst undef) w'):wpList P ops Q (o::rest) a w:=by
 refine wpList_plain j fun s i=> ?_;obtain⟨w',c,q,r⟩:=h.store L f k val hk;unfold Oper.wp;simp[execOp,d,hm,l,n,c,Result.andThen];exact i _ _ (p w' q r)
end
end TS
namespace Go.Proofs.YtkochlhejabdcaaGreatDoor
open Go.RowKit TS Tryz
theorem uQ(B b bo r pb:Nat)(s nm:ByteArray)(fs:List Nat)(aI:Nat→ByteArray)(v:Value)(w:World)(hn:fs.length≤1099511627776)
 (h1:Xc w b 1 (Xp bo))(h5:Xc w b 5 (.int .u32 15))(Z:Xc w b 9 v)(f9:w.frozen? (Xa b 9)=false)(F:v.ownBlock≠some b)
 (f:w.ownsRow B 113 1 v fs.length (fs.map fun b=>Xp b))(hB:B≤w.heap.size)
 (ho:Xc w bo 1 (Xp pb))(hm:Xc w r 1 (Xp pb))(PG:Xc w r 2 (.string nm))(hp:Xc w pb 0 (.string s))
 (hs:∀(i:Nat)(h:i<fs.length),Xc w fs[i] 2 (.string (aI i)))(G:∀i,i<fs.length→((aI i).toList==nm.toList)=false)(h_:(nm.toList== [95])=false):
 Xk 112 #[Xp b,Xp r] w fun e q=>e= .returned (.tuple #[])∧
  ∃H,Xc q b 9 H∧q.frozen? (Xa b 9)=false∧(H.ownBlock=v.ownBlock∨∃k,H.ownBlock=some k∧w.heap.size≤k)∧q.ownsRow B 113 1 H (fs++ [r]).length ((fs++ [r]).map fun b=>Xp b)∧
   Kept (fun k=>k=b∨v.ownBlock=some k) w q∧(∀o,o≠9→q.cell? (Xa b o)=w.cell? (Xa b o))∧(Plain w b→Plain q b):=by
 obtain⟨a,c,rfl⟩:=a_ f;have I:Hid (bJ w a fs.length (fun i=>fs.getD i 0)):=fun i hi=>by
  rcases f.2 with⟨_,h0⟩|⟨g,cap,cur,e,_⟩
  ·omega
  ·cases e
   have:=f.cells (g:=g) rfl i (Xp fs[i]) (by simp[hi]);rw[show((Xa g 0):Addr).add i=(Xa g i) by unfold Addr.add;split<;>simp_all]at this;exact⟨g,0,rfl,by simpa [hi]using this⟩
 have J:Hid (∀i,i<fs.length→Xc w (fs.getD i 0) 2 (.string (aI i))):=fun i hi=>by simpa [hi]using hs i hi
 have u:=zh G;have l:=zh f;have d:=zh F;have K:=zh hB;have L:=zb Z;simp only at L;obtain⟨i0,hi,PH,PI,PJ⟩:=info_parts uG;clear hs G f F hB;have M:(s.toList==s.toList)=true:=zs;go_enter func112,ntmps112;go_wp2_with fail
 go_quiet (first|(go_at_call 164;exact Calls.quiet_of ((A8 pb pb s s _ (by simpa using hp) (by simpa using hp)).mono (by rintro e q ⟨he,hw⟩;rw[M]at he;exact⟨he,hw⟩)))|(go_at_call 148;exact Calls.quiet_of_same ((iI _).mono (by rintro e q ⟨he,hw⟩;exact⟨he,hw.symm⟩))))
 go_wp2_with fail
 refine(ux b _ (by simpa using h5)).mono ?_;rintro e q ⟨rfl,rfl⟩;go_wp2_with fail
 refine(Bd b a fs.length c (fun i=>fs.getD i 0) aI nm _ hn (by simpa using Z) (fun i hi=>by obtain⟨b',o,rfl,h⟩:=I.out i hi;exact⟨b',o,rfl,by simpa using h⟩) (fun i hi=>by simpa using J.out i hi) u.out h_).mono ?_;rintro e q ⟨rfl,rfl⟩;generalize x:w.drewN nq=W at*;have y:∀a,W.cell? a=w.cell? a:=fun a=>by rw[←x];simp
 have N:∀a,W.frozen? a=w.frozen? a:=fun a=>by rw[←x];simp
 have m:Hid (W.ownsRow B 113 1 (.slice a fs.length c) fs.length (fs.map fun b=>Xp b)):=by rw[←x];exact l.out
 have O:Hid (Plain w b→Plain W b):=by rw[←x];exact fun h=>h
 have hK:Hid (Kept (fun k=>k=b∨(Value.slice a fs.length c).ownBlock=some k) w W):=by rw[←x];exact⟨rfl,rfl,rfl,Nat.le_refl _,fun _ _ _=>rfl⟩
 have z:Hid (B≤W.heap.size∧W.heap.size=w.heap.size):=by rw[←x];exact⟨K.out,rfl⟩
 have P:Xc W b 9 (.slice a fs.length c):=by rw[y];exact Z
 have Q:W.frozen? (Xa b 9)=false:=by rw[N];exact f9
 have A:b<W.heap.size:=by rw[z.out.2];exact L
 have R:=zh y;clear I J u l K x y N Z f9 h1 h5 ho hm PG hp M h_;have n:=zh (m.out.alloc (.cells #[Xp r] 113));go_wp2_with (at_builtin;refine wpList_append_own_at _ rfl _ _ 115 rfl B 113 i0 (.pointer none) 1 8 underlying115 hi PH PI PJ rfl zd _ _ _ rfl n.out (Xa W 0) 1 1 [Xp r] rfl rfl (eD W _ _) (one_one rfl) ?c3 ?c4 ?c5 ?_)
 case c3=>unfold maxLen;omega
 case c4=>omega
 case c5=>simp;have:=z.out.1;omega
 intro H C j p _ D;obtain⟨a',c',rfl⟩:=a_ j;have S:Hid ((Value.slice a' (fs.length+1) c').ownBlock=a.map (·.block)∨∃k,(Value.slice a' (fs.length+1) c').ownBlock=some k∧w.heap.size≤k):=by
  rcases D with e|e
  ·left;rw[e];cases a<;>rfl
  ·right;refine⟨_,e,?_⟩;have:=z.out.2;omega
 have U:Hid ((Value.slice a' (fs.length+1) c').ownBlock≠some b):=by
  rcases D with e|e
  ·rw[e];exact d.out
  ·rw[e];intro h;injection h with h;omega
 have PK:Hid (Kept (fun k=>k=b∨(Value.slice a fs.length c).ownBlock=some k) w C):=(hK.out.alloc _).grown p fun k hk _=> .inr hk;have V:Hid (Plain w b→Plain C b):=fun h=>by
  obtain⟨cs,T,h⟩:=O.out h;refine⟨cs,T,?_⟩;rw[p.block b zp fun e=>d.out e.symm];exact(Below.heap_alloc _ _ _ A).trans h
 have X:Hid (∀o,C.cell? (Xa b o)=W.cell? (Xa b o)):=fun o=>by
  have e1:C.cell? (Xa b o)=(W.alloc (.cells #[Xp r] 113)).cell? (Xa b o):=World.cell?_of_block (p.block b zp fun e=>d.out e.symm);rw[e1,World.cell?_alloc_lt _ _ _ A]
 have Y:C.frozen? (Xa b 9)=false:=by
  have e1:C.frozen? (Xa b 9)=(W.alloc (.cells #[Xp r] 113)).frozen? (Xa b 9):=World.frozen?_of_block (p.block b zp fun e=>d.out e.symm);rw[e1,World.frozen?_alloc_old _ _ _ (Nat.ne_of_lt A)];exact Q
 have E:Xc C b 9 (.slice a fs.length c):=by rw[X.out];exact P
 have t:=zh j;have PL:=d.out;have aa:=zb E;simp only at aa;clear j p D d hK m n P Q;go_wp2_with fail
 go_end0
 refine⟨rfl,.slice a' (fs.length+1) c',by simp[go_sem,E,Y],by simp[go_sem,E,Y],?_,?_,?_,fun o ho=> ?_,fun h=>jA (V.out h) _ _⟩
 ·rcases S.out with e|e
  ·left;rw[e];cases a<;>rfl
  ·exact .inr e
 ·refine eC ?_ U.out _
  simpa using t.out
 ·exact PK.out.setCell (fun _=> .inl rfl) _
 ·rw[World.cell?_setCell_other _ _ _ _ (by first|(simp;done)|(simp;omega)),X.out,R.out]
end Go.Proofs.YtkochlhejabdcaaGreatDoor
namespace TS
open Go Go.RowKit Go.Proofs.Tryz
noncomputable def bH(F:Value→Option Value)(k v:Value):Value→Option Value:=fun y=> @ite _ (y=k) (Classical.propDecidable _) (some v) (F y)
theorem b_(F:Value→Option Value)(k v:Value):bH F k v k=some v:=by unfold bH;rw[if_pos rfl]
theorem bj(F:Value→Option Value){k v y:Value}(h:y≠k):bH F k v y=F y:=by unfold bH;rw[if_neg h]
def mF(_:World)(v:Value):Prop:=∃s,v= .string s
def gQ(w:World)(a:Nat)(m:Option Nat)(F:Value→Option Value):Prop:=
 w.cell? (Xa a 0)=some (.map m)∧w.frozen? (Xa a 0)=false∧(m=none→F=fun _=>none)∧∀b,m=some b→cr mF w b F
theorem gQ.of{w c:World}{b:Nat}{m:Option Nat}{F:Value→Option Value}(h:gQ w b m F)(d:c.heap[b]?=w.heap[b]?)(hm:∀a,m=some a→c.heap[a]?=w.heap[a]?):gQ c b m F:=
 ⟨(World.cell?_of_block (w:=w) d).trans h.1,(World.frozen?_of_block (w:=w) d).trans h.2.1,h.2.2.1,fun a e=>(h.2.2.2 a e).of (hm a e) fun _ h=>h⟩
end TS
namespace Go.Proofs.YtkochlhejabdcaaGreatDoor
open Go.RowKit TS Go.ChangeMaps Tryz
theorem mG:KeyLaw Tryz.prog 9 mF:=BV underlying9
theorem BX(f:Nat)(w:World):(method 480 102 (Xp f) "Id").run Tryz.prog w= .ok (134,Xp f) w:=zk
theorem BY(f:Nat)(w:World):(method 480 113 (Xp f) "Id").run Tryz.prog w= .ok (134,Xp f) w:=zk
theorem BZ(f:Nat)(w:World):(nilAhead 480 102 (Xp f) "Id").run Tryz.prog w= .ok (some false) w:=zk
theorem B4(f:Nat)(w:World):(nilAhead 480 113 (Xp f) "Id").run Tryz.prog w= .ok (some false) w:=zk
theorem qO(w:World):(zeroValue 228).run Tryz.prog w= .ok .nilIface w:=zk
def ll(T:TypeId):Prop:=(∀(f:Nat)(w:World),(method 480 T (Xp f) "Id").run Tryz.prog w= .ok (134,Xp f) w)∧∀(f:Nat)(w:World),(nilAhead 480 T (Xp f) "Id").run Tryz.prog w= .ok (some false) w
theorem uR:ll 102:=⟨BX,BZ⟩
theorem uS:ll 113:=⟨BY,B4⟩
theorem B5(a:Nat)(w:World):(binOp .eql 225 (.map (some a)) (.map none)).run Tryz.prog w= .ok (.bool false) w:=zk
theorem B6(w:World):(binOp .eql 225 (.map none) (.map none)).run Tryz.prog w= .ok (.bool true) w:=zk
theorem B7(T:TypeId)(m:ll T)(g b f:Nat)(q:Option Addr)(s:ByteArray)(i:aR s=true)(F:Value→Option Value)(t:TypeId)(x:Value)(w:World)(hT:bU w)(hO:gQ w g (some b) F)
 (h1:Xc w f 1 (.pointer q))(j:Xc w f 2 (.string s))(hF:F (.string s)=some (.iface t x)):
 Xk 147 #[Xp g,Xi T f] w fun e k=>e= .returned (.iface t x)∧∃n,k=w.drewN n:=by
 obtain⟨hm,o⟩:=m;obtain⟨c0,_,_,a⟩:=hO;have hM:=zh (a b rfl);have p:=zh (n_ f q s i w hT h1 j);have c:=zh hF;have l:=fun(W:World)=>run_eql_iface_nil_left (P:=Tryz.prog) W t x underlying228;clear a i hT h1 j hF;go_enter func147,ntmps147;go_wp2_with fail
 refine p.out.mono ?_;rintro e k ⟨rfl,n,rfl⟩;have d:Hid (cr mF (w.drewN n) b F):=hM.out.of rfl fun _ h=>h;go_wp2_with (first|(at_lookup;refine eE _ rfl _ _ 225 rfl mG 228 underlying225 .nilIface qO b F rfl d.out (.string s) rfl ⟨_,rfl⟩ (.iface t x) (by rw[c.out];rfl) ?_)|fail)
 go_ret;exact⟨rfl,_,rfl⟩
theorem uT(T:TypeId)(u:ll T)(g c f:Nat)(q:Option Addr)(s:ByteArray)(p:aR s=true)(F:Value→Option Value)(w:World)(hT:bU w)(hO:gQ w g (some c) F)(j:c≠g)
 (h1:Xc w f 1 (.pointer q))(r:Xc w f 2 (.string s))(hF:F (.string s)=none):
 Xk 147 #[Xp g,Xi T f] w fun e l=>e= .returned .nilIface∧
  gQ l g (some c) (bH F (.string s) (Xi T f))∧Kept (fun k=>k=c) w l:=by
 obtain⟨hm,v⟩:=u;obtain⟨c0,f0,x,d⟩:=hO;have hM:=zh (d c rfl);have z:=zh (n_ f q s p w hT h1 r);have m:=zh hF;clear d p hT h1 r hF x;have A:=B5 c;go_enter func147,ntmps147;go_wp2_with fail
 refine z.out.mono ?_;rintro e l ⟨rfl,n,rfl⟩;have i:Hid (cr mF (w.drewN n) c F):=hM.out.of rfl fun _ h=>h;go_wp2_with (first|(at_lookup;refine eE _ rfl _ _ 225 rfl mG 228 underlying225 .nilIface qO c F rfl i.out (.string s) rfl ⟨_,rfl⟩ .nilIface (by rw[m.out];rfl) ?_)|(at_mapUpdate;refine eF _ rfl _ _ _ 225 rfl mG uO 228 underlying225 c F rfl i.out (.string s) (Xi T f) rfl rfl ⟨_,rfl⟩ ?_;intro B o a)|fail)
 go_ret;have t:B.heap[g]?=w.heap[g]?:=a.block g (zb c0) (fun e=>j (Option.some.inj e).symm);refine⟨rfl,⟨(World.cell?_of_block (w:=w) t).trans c0,(World.frozen?_of_block (w:=w) t).trans f0,fun h=>(by cases h),fun b e=> ?_⟩,?_⟩
 ·cases e
  exact o _ (fun y C=>bj F C) (b_ _ _ _)
 ·exact⟨a.os,a.tape,a.output,a.size,fun k hk D=>a.block k hk fun e=>D (Option.some.inj e)⟩
theorem uU(T:TypeId)(C:ll T)(a f:Nat)(q:Option Addr)(s:ByteArray)(t:aR s=true)(F:Value→Option Value)(w:World)(hT:bU w)(hO:gQ w a none F)
 (h1:Xc w f 1 (.pointer q))(u:Xc w f 2 (.string s)):
 Xk 147 #[Xp a,Xi T f] w fun e m=>e= .returned .nilIface∧
  ∃v,gQ m a (some v) (bH F (.string s) (Xi T f))∧w.heap.size≤v∧Kept (fun k=>k=a) w m:=by
 obtain⟨hm,D⟩:=C;obtain⟨c0,f0,x,_⟩:=hO;have o:=zh (x rfl);have z:=zh (n_ f q s t w hT h1 u);clear t hT h1 u x;have E:=B6;have G:= @run_makeMap Tryz.prog;have g:=zb c0;simp only at g;go_enter func147,ntmps147;go_wp2_with fail
 refine z.out.mono ?_;rintro e m ⟨rfl,n,rfl⟩;have i:Xc (w.drewN n) a 0 (.map none):=by simpa using c0
 have j:(w.drewN n).frozen? (Xa a 0)=false:=by simpa using f0
 have p:Hid (Kept (fun k=>k=a) w (w.drewN n)):=⟨rfl,rfl,rfl,Nat.le_refl _,fun _ _ _=>rfl⟩
 have d:Hid ((w.drewN n).heap.size=w.heap.size):=rfl;generalize w.drewN n=W at*;clear c0 f0 z;have c:a<W.heap.size:=by rw[d.out];exact g
 go_wp2_with (first|(at_lookup;refine jC _ rfl _ _ 225 rfl mG 228 underlying225 .nilIface qO rfl (.string s) rfl ⟨_,rfl⟩ ?_)|(at_mapUpdate;refine eF _ rfl _ _ _ 225 rfl mG uO 228 underlying225 W.heap.size (fun _=>none) rfl ?hM (.string s) (Xi T f) rfl rfl ⟨_,rfl⟩ ?_;rotate_left;intro H r l)|fail)
 ·go_ret
  have A:H.heap[a]?=((W.setCell (Xa a 0) (.map (some W.heap.size))).alloc (.map #[] 0)).heap[a]?:=l.block a zp (fun e=>by have:=Option.some.inj e;omega);refine⟨rfl,W.heap.size,⟨?_,?_,fun h=>(by cases h),fun b e=> ?_⟩,Nat.le_of_eq d.out.symm,?_⟩
  ·rw[World.cell?_of_block (w:=(W.setCell (Xa a 0) (.map (some W.heap.size))).alloc (.map #[] 0)) A]
   simp[go_sem,i,j,c]
  ·rw[World.frozen?_of_block (w:=(W.setCell (Xa a 0) (.map (some W.heap.size))).alloc (.map #[] 0)) A]
   simp[go_sem,i,j,c]
  ·cases e
   rw[o.out];exact r _ (fun y I=>bj _ I) (b_ _ _ _)
  ·refine((p.out.setCell (fun _=>rfl) _).alloc _).grown l fun k hk B=> ?_
   cases hk;have:=d.out;omega
 case hM=>
  have:=jB mF (W.setCell (Xa a 0) (.map (some W.heap.size)));simpa using this
theorem B8(b:Nat)(x:Addr)(n c:Nat)(w:World)(f:Xc w b 0 (.slice (some x) n c)):
 Xk 206 #[Xp b] w fun e d=>e= .returned (.tuple #[])∧w=d:=by
 have a:=fun(w:World)=>Lib.run_eql_slice_nil (P:=Tryz.prog) w 187 102 (some x) n c 0 0 underlying187;go_enter func206,ntmps206;go_wp2_with fail
 go_end0
 exact⟨rfl,rfl⟩
theorem B9(w:World):(Instr.makeSlice 187 (.int .i64 0) (.int .i64 0)).run Tryz.prog w= .ok (.slice (Xa w 0) 0 0) (w.alloc (.cells #[] 102)):=zk
theorem B_(b:Nat)(n c:Nat)(w:World)(f:Xc w b 0 (.slice none n c))(f0:w.frozen? (Xa b 0)=false):
 Xk 206 #[Xp b] w fun e g=>e= .returned (.tuple #[])∧g=(w.setCell (Xa b 0) (.slice (Xa w 0) 0 0)).alloc (.cells #[] 102):=by
 have d:=fun(w:World)=>Lib.run_eql_slice_nil (P:=Tryz.prog) w 187 102 none n c 0 0 underlying187;have h:=B9;have a:=zb f;simp only at a;go_enter func206,ntmps206;go_wp2_with fail
 go_end0
 exact⟨rfl,rfl⟩
end Go.Proofs.YtkochlhejabdcaaGreatDoor
