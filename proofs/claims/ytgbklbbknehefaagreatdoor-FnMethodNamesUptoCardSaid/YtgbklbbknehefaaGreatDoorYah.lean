import Derived.Laws.AppendOwn
import Derived.Test.YtgbklbbknehefaaGreatDoorYae
set_option maxRecDepth 100000
set_option maxHeartbeats 8000000
set_option linter.all false
namespace TS
open Go Go.RowKit
abbrev R3:=U×Option Addr×Nat
def bJ(x:R3):List Value:= [.int .i64 x.1.k,.int .i64 x.1.n,.int .i64 x.1.m,.bool x.1.v,.string x.1.nm,.string x.1.tg,.slice x.2.1 x.1.es.length x.2.2]
def cp(L:List R3):List Value:=L.flatMap bJ
def aU(L:List R3):List U:=L.map (·.1)
def eT(p:Pm)(D:Dl)(L:List R3):Prop:=∀x∈L,ai p D x.1 x.2.1 x.2.2
theorem eT.sub{p q:Pm}{D:Dl}{L:List R3}(h:eT p D L)(hk:Sub p q):eT q D L:=fun x a=>ai.sub hk _ (h x a)
theorem eT.append{p:Pm}{D:Dl}{L M:List R3}(h:eT p D L)(k:eT p D M):eT p D (L++M):=fun x a=>(List.mem_append.1 a).elim (h x) (k x)
theorem jD(x:R3)(L:List R3):cp (x::L)=bJ x++cp L:=rfl
theorem vl(L M:List R3):cp (L++M)=cp L++cp M:=by simp[cp]
theorem lC:∀L:List R3,(cp L).length=L.length*7
 | []=>rfl
 |x::r=>by rw[jD,List.length_append,lC r];simp[bJ];omega
theorem qg(L:List R3):∀v∈cp L,v.oneCell'=true:=by
 intro v b;obtain⟨x,_,a⟩:=List.mem_flatMap.1 b;simp only[bJ,List.mem_cons,List.not_mem_nil,or_false]at a;rcases a with rfl|rfl|rfl|rfl|rfl|rfl|rfl<;>rfl
theorem qh:∀(L:List R3)(j c:Nat)(a:j<L.length)(b:c<7),(cp L)[j*7+c]?=(bJ L[j])[c]?
 |x::r,0,c,_,_=>by
  rw[jD,Nat.zero_mul,Nat.zero_add,List.getElem?_append_left (by simp[bJ];omega)];rfl
 |x::r,j+1,c,a,b=>by
  rw[jD,List.getElem?_append_right (by simp[bJ];omega)];rw[show(j+1)*7+c- (bJ x).length=j*7+c by simp[bJ];omega,qh r j c (by simpa using a) b];rfl
theorem nu{p:Pm}{D:Dl}{b:Nat}:∀{L:List R3}{o:Nat},eT p D L→(∀j v,(cp L)[j]?=some v→p b (o+j)=some v)→aw p D (aU L) (some ⟨b,o,none⟩)
 | [],o,_,_=>aw.gG fun x e=>by cases e;rfl
 |x::r,o,h,f=>by
  have e:=h x List.mem_cons_self;have hr:aw p D (aU r) (some ⟨b,o+7,none⟩):=nu (fun y g=>h y (List.mem_cons_of_mem _ g)) fun j v d=>by
   have:=f (7+j) v (by rw[jD,List.getElem?_append_right (by simp[bJ])];simpa [bJ]using d);rwa [←Nat.add_assoc]at this
  have a:∀c v,(bJ x)[c]?=some v→p b (o+c)=some v:=fun c v d=>f c v (by
   rw[jD,List.getElem?_append_left (List.getElem?_eq_some_iff.1 d).1];exact d)
  show aw p D (x.1::aU r) _;simp only[aw];exact⟨b,o,rfl,⟨x.2.1,x.2.2,⟨a 0 _ rfl,a 1 _ rfl,a 2 _ rfl,a 3 _ rfl,a 4 _ rfl,a 5 _ rfl,a 6 _ rfl⟩,e⟩,hr⟩
theorem qi{p:Pm}{D:Dl}:∀{l:List U}{b o:Nat},aw p D l (some ⟨b,o,none⟩)→∃L,aU L=l∧eT p D L∧∀j v,(cp L)[j]?=some v→p b (o+j)=some v
 | [],b,o,_=>⟨[],rfl,(fun _ c=>by cases c),fun j v a=>by simp[cp]at a⟩
 |e::r,b,o,h=>by
  simp only[aw]at h;obtain⟨s,t,ha,⟨a',c',h7,hu⟩,hr⟩:=h;simp only[Option.some.injEq,Addr.mk.injEq]at ha;obtain⟨rfl,rfl,_⟩:=ha;obtain⟨L,d,f,g⟩:=qi hr;refine⟨(e,a',c')::L,by simp only[aU,List.map_cons]at*;rw[d],fun x c=> ?_,fun j v a=> ?_⟩
  ·rcases List.mem_cons.1 c with rfl|c
   ·exact hu
   ·exact f x c
  ·rw[jD]at a
   by_cases i:j<7
   ·rw[List.getElem?_append_left (by simp[bJ];omega)]at a
    obtain⟨k,h1,h2,h3,m,n,q⟩:=h7;match j,i with
    |0,_=>cases a;exact k
    |1,_=>cases a;exact h1
    |2,_=>cases a;exact h2
    |3,_=>cases a;exact h3
    |4,_=>cases a;exact m
    |5,_=>cases a;exact n
    |6,_=>cases a;exact q
   ·rw[List.getElem?_append_right (by simp[bJ];omega)]at a
    have:=g (j- 7) v (by simpa [bJ]using a);rwa [show o+7+(j- 7)=o+j by omega]at this
def RL(p:Pm)(D:Dl)(l:List U)(w:World)(e:Ending)(b:World):Prop:=
 ∃q a n c,e= .returned (.slice a n c)∧Hid (n=l.length)∧aK p q w.heap.size∧KW q b∧aw q D l a∧Below w.heap.size w b
def Names(NS:List (List UInt8))(u:U):Prop:=(∀e,∀_:e∈u.es,e.nm.toList∈NS∧Names NS e)∧∀e,∀_:e∈u.un,Names NS e
termination_by u.sz
decreasing_by
 ·exact U.au ‹_›
 ·exact U.iP ‹_›
theorem Names.es{NS:List (List UInt8)}{u e:U}(h:Names NS u)(he:e∈u.es):e.nm.toList∈NS∧Names NS e:=by rw[Names]at h;exact h.1 e he
theorem Names.un{NS:List (List UInt8)}{u e:U}(h:Names NS u)(he:e∈u.un):Names NS e:=by rw[Names]at h;exact h.2 e he
theorem qj{NS:List (List UInt8)}{u:U}(h1:u.es= [])(h2:u.un= []):Names NS u:=by
 rw[Names,h1,h2];exact⟨fun e he=>(by cases he),fun e he=>(by cases he)⟩
theorem Names.bare{NS:List (List UInt8)}:∀{u:U},Names NS u→Names NS (bare u):=by
 intro u;induction u using U.bg with
 |_ u ih=>
  intro h;rw[TS.bare];split
  ·split
   ·rename_i e r he
    exact ih e (U.au (by rw[he];simp)) (h.es (by rw[he];simp)).2
   ·exact h
  ·split
   ·exact qj rfl rfl
   ·exact h
theorem Names.under{NS:List (List UInt8)}{u:U}(h:Names NS u):Names NS (under u):=by
 have a:=h.bare;rw[TS.under];split
 ·cases hu:(TS.bare u).un with
  |nil=>exact a
  |cons x r=>exact a.un (by rw[hu];simp)
 ·exact a
theorem Names.b4{NS:List (List UInt8)}:∀{u:U},Names NS u→∀m∈aj u,m.nm.toList∈NS∧Names NS m:=by
 intro u;induction u using U.bg with
 |_ u ih=>
  intro h m hm;have hu:=h.under;rcases(gI hm).2 with hm|⟨e,he,_,hm⟩
  ·exact hu.es (List.mem_of_mem_take hm)
  ·have a:=List.mem_of_mem_drop he
   have h1:=U.au a;have h2:=dp u;exact ih e (by omega) (hu.es a).2 m hm
theorem lD{α:Type} [DecidableEq α]:∀{l r:List α},l.Nodup→(∀x∈l,x∈r)→l.length≤r.length
 | [],r,_,_=>Nat.zero_le _
 |a::l,r,b,c=>by
  have ha:=c a List.mem_cons_self;have:=lD (l:=l) (r:=r.erase a) (List.nodup_cons.1 b).2 fun x d=>
   (List.mem_erase_of_ne (fun e=>(List.nodup_cons.1 b).1 (by rw[←e];exact d))).2 (c x (List.mem_cons_of_mem _ d))
  rw[List.length_erase_of_mem ha]at this;have:=List.length_pos_of_mem ha;simp only[List.length_cons];omega
theorem hZ{NS:List (List UInt8)}{l:List U}(h:cY l)(d:∀m∈l,m.nm.toList∈NS):l.length≤NS.length:=by
 have h1:(l.map fun m=>m.nm.toList).Nodup:=List.pairwise_map.2 (h.imp fun{a b} c e=>by rw[fN.2 e]at c;cases c);have:=lD h1 (r:=NS) fun x f=>by
  obtain⟨m,hm,rfl⟩:=List.mem_map.1 f;exact d m hm
 simpa using this
theorem iY{w:World}{B:Nat}{e:TypeId}{size:Nat}{v:Value}{n:Nat}{xs:List Value}(h:w.ownsRow B e size v n xs)(k:0<n):
 ∃g cap,v= .slice (some ⟨g,0,none⟩) n cap∧B≤g∧g<w.heap.size∧n≤cap∧cap≤maxLen∧(∀j u,xs[j]?=some u→w.cell? ⟨g,j,none⟩=some u)∧∀j,j<xs.length→w.frozen? ⟨g,j,none⟩=false:=by
 rcases h.2 with⟨_,l⟩|⟨g,cap,cur,rfl,f,d,a,b,i,c⟩
 ·omega
 ·refine⟨g,cap,rfl,f,(Array.getElem?_eq_some_iff.1 d).1,a,b,fun j u hu=> ?_,fun j _=> ?_⟩
  ·have:=h.cells (g:=g) rfl j u hu
   rwa [show(⟨g,0,none⟩:Addr).add j=⟨g,j,none⟩ by unfold Addr.add;split<;>simp_all]at this
  ·simp[World.frozen?,d]
theorem ie{w:World}{B a:Nat}{e:TypeId}{size:Nat}{v:Value}{n:Nat}{xs:List Value}(h:w.ownsRow B e size v n xs)(b:a≤B):w.ownsRow a e size v n xs:=
 ⟨h.1,h.2.imp id fun⟨g,cap,cur,h1,h2,h3⟩=>⟨g,cap,cur,h1,Nat.le_trans b h2,h3⟩⟩
theorem bq{w a:World}{B:Nat}{e:TypeId}{size:Nat}{v:Value}{n:Nat}{xs:List Value}(h:w.ownsRow B e size v n xs)(b:Below w.heap.size w a):a.ownsRow B e size v n xs:=
 ⟨h.1,h.2.imp id fun⟨g,cap,cur,h1,h2,h3,c⟩=>⟨g,cap,cur,h1,h2,by rw[b.block g (Array.getElem?_eq_some_iff.1 h3).1];exact h3,c⟩⟩
def bc(T:List U)(i f:Nat)(u:U):Prop:=
 (u.k=11→if f=0 then u.un= []else ∃h:u.n.toNat<T.length,u.n.toNat<i∧u.un= [T[u.n.toNat]])∧(u.k=15→u.un= [aF])∧∀j(h:j<u.es.length),bc T i (aI u j f) u.es[j]
termination_by u.sz
decreasing_by exact U.au (List.getElem_mem h)
theorem bc.named{T:List U}{i f:Nat}{u:U}(h:bc T i f u)(hk:u.k=11):if f=0 then u.un= []else ∃h:u.n.toNat<T.length,u.n.toNat<i∧u.un= [T[u.n.toNat]]:=by rw[bc]at h;exact h.1 hk
theorem bc.err{T:List U}{i f:Nat}{u:U}(h:bc T i f u)(hk:u.k=15):u.un= [aF]:=by rw[bc]at h;exact h.2.1 hk
theorem bc.part{T:List U}{i f:Nat}{u:U}(h:bc T i f u)(j:Nat)(a:j<u.es.length):bc T i (aI u j f) u.es[j]:=by rw[bc]at h;exact h.2.2 j a
theorem qk{T:List U}{i f:Nat}{u:U}(he:u.es= [])(a:u.k≠11)(b:u.k=15→u.un= [aF]):bc T i f u:=by
 rw[bc];exact⟨fun h=>absurd h a,b,fun j c=>by rw[he]at c;simp at c⟩
theorem bc.mono{T:List U}{i b:Nat}(hi:i≤b):∀{u:U}{f:Nat},bc T i f u→bc T b f u:=by
 intro u;induction u using U.bg with
 |_ u ih=>
  intro f h;rw[bc];refine⟨fun hk=> ?_,h.err,fun j c=>ih _ (U.au (List.getElem_mem c)) (h.part j c)⟩;have:=h.named hk;split at this
  ·rename_i a;rw[if_pos a];exact this
  ·rename_i a;rw[if_neg a];obtain⟨h1,h2,h3⟩:=this;exact⟨h1,by omega,h3⟩
theorem nv{T:List U}{u:U}(h:u.k≠11):cQ T u=u:=by unfold cQ;rw[if_neg h]
theorem vm(u:U):np u u.un=u:=by cases u;rfl
theorem vn{T:List U}{i f:Nat}{u:U}(h:bc T i f u)(a:f≠0):cQ T u=u:=by
 by_cases hk:u.k=11
 ·have:=h.named hk
  rw[if_neg a]at this;obtain⟨h1,_,h3⟩:=this;unfold cQ;rw[if_pos hk,List.getElem?_eq_getElem h1,Option.toList_some,←h3,vm]
 ·exact nv hk
theorem nw{u v:U}(h:under u=under v):aW u=aW v:=by
 by_cases hk:(under v).k=10
 ·rw[gH hk,gH (by rw[h];exact hk),h]
 ·rw[fD hk,fD (by rw[h];exact hk),h]
theorem lE{u v:U}(h:under u=under v):aj u=aj v:=by
 by_cases hk:(under v).k=10
 ·rw[iS hk,iS (by rw[h];exact hk),h]
 ·rw[eB hk,eB (by rw[h];exact hk)]
theorem lF{u e:U}(h2:u.k=2)(he:u.es= [e]):under u=under e:=by
 have:=iR h2 he;unfold under;rw[this]
theorem cB{u:U}(h2:u.k≠2)(b:u.k≠11)(a:u.k≠14)(c:u.k≠15):under u=u:=by
 rw[gh]<;>rw[ca h2 a]<;>assumption
theorem ny{u:U}(a:u.k=11)(b:u.un= []):under u=u:=by
 have c:bare u=u:=ca (by omega) (by omega);unfold under;rw[c,b];simp
theorem ql{u x:U}(a:u.k=11)(c:u.un= [x]):under u=x:=by
 have b:bare u=u:=ca (by omega) (by omega);exact gY (by rw[b];exact a) (by rw[b];exact c)
theorem qo{u:U}(a:u.k=15)(c:u.un= [aF]):under u=aF:=by
 have b:bare u=u:=ca (by omega) (by omega);exact gZ (by rw[b];exact a) (by rw[b];exact c)
theorem lG:under aF=aF:=cB (by decide) (by decide) (by decide) (by decide)
theorem vp:aM cS:=by
 have hu:under cS=cS:=cB (by decide) (by decide) (by decide) (by decide);rw[aM];exact⟨by rw[fD (by rw[hu];decide),hu];rfl,fun e he=>by simp[cS,U.es]at he,fun e he=>by rw[eB (by rw[hu];decide)]at he;cases he⟩
theorem qp:aM (.mk 7 0 0 false errorName ByteArray.empty [cS] []):=by
 have hu:under (.mk 7 0 0 false errorName ByteArray.empty [cS] [])= .mk 7 0 0 false errorName ByteArray.empty [cS] []:=cB (by decide) (by decide) (by decide) (by decide);rw[aM];refine⟨by rw[fD (by rw[hu];decide),hu];rfl,fun e he=> ?_,fun e he=>by rw[eB (by rw[hu];decide)]at he;cases he⟩;simp only[U.es,List.mem_singleton]at he;subst he;exact vp
theorem qq{m:U}(h:m∈aj aF):aM m:=by
 rcases(gI h).2 with h|⟨e,he,_⟩
 ·rw[lG]at h
  simp only[aF,U.es,U.m]at h;have:m= .mk 7 0 0 false errorName ByteArray.empty [cS] []:=by simpa using h
  rw[this];exact qp
 ·rw[lG]at he
  simp[aF,U.es,U.m]at he
theorem Pl.ig{len:Nat}{u:U}{pos f:Nat}(h:Pl len u pos f)(b:u.k≠10)(a:u.k≠12)(j:Nat)(c:j<u.es.length):Pl len u.es[j] 0 (aI u j f):=by
 have:=h.part j c;rwa [show aS u j=0 by unfold aS;rw[if_neg a,if_neg (by omega)]]at this
theorem nA{α:Type}{l:List α}{n:Nat}{e:α}(h:e∈l.drop n):∃i,∃hi:i<l.length,n≤i∧l[i]=e:=by
 obtain⟨i,hi,rfl⟩:=List.getElem_of_mem h;rw[List.length_drop]at hi;exact⟨n+i,by omega,by omega,by rw[List.getElem_drop]⟩
theorem qu{α:Type}{l:List α}{n:Nat}{e:α}(h:e∈l.take n):∃i,∃hi:i<l.length,i<n∧l[i]=e:=by
 obtain⟨i,hi,rfl⟩:=List.getElem_of_mem h;rw[List.length_take]at hi;exact⟨i,by omega,by omega,by rw[List.getElem_take]⟩
theorem kg{len:Nat}{T:List U}{i:Nat}:∀(u:U)(pos f:Nat),bc T i f u→Pl len u pos f→f≤2→u.k≠12→u.k≠13→mt T .type u false=true→aW u=false:=by
 intro u;induction u using U.bg with
 |_ u ih=>
  intro pos f j n r l p hm;by_cases h2:u.k=2
  ·obtain⟨e,he⟩:=cT (n.form.eQ h2)
   have o:0<u.es.length:=by rw[he];simp
   have q:u.es[0]=e:=by simp[he]
   have c:=n.ig (by omega) l 0 o;have h:=j.part 0 o;rw[q]at c h;rw[kd h2,he]at hm;have m:mt T .type e false=true:=by simpa using hm
   rw[nw (lF h2 he)];exact ih e (U.au (by rw[he];simp)) _ _ h c eA c.form.aA.1 c.form.aA.2 m
  ·by_cases d:u.k=10
   ·have hu:under u=u:=cB (by omega) (by omega) (by omega) (by omega)
    rw[gH (by rw[hu];exact d),hu,List.any_eq_false];intro e he;rw[iV d]at hm;simp only[Bool.and_eq_true,List.all_eq_true]at hm;have a:=hm.1 e he;by_cases g:e.k=12
    ·rw[lz g]at a;simp at a
    ·rw[iU g]at a
     simp only[Bool.false_or,Bool.and_eq_true,Bool.not_eq_true',aT,bne_iff_ne,ne_eq]at a;obtain⟨_,⟨⟨_,a2⟩,a3⟩,a4⟩:=a;simp[g,a2,a3,a4]
   ·rw[lA h2 d]at hm
    simp only[Bool.false_or,Bool.and_eq_true,Bool.not_eq_true']at hm;by_cases b:u.k=11
    ·by_cases f0:f=0
     ·have:=j.named b
      rw[if_pos f0]at this;rw[fD (by rw[ny b this];omega),ny b this];simp[b]
     ·rw[vn j f0]at hm;exact hm.1
    ·rw[nv b]at hm;exact hm.1
theorem jE{len:Nat}{T:List U}{i:Nat}(hT:∀t∈T,ke len t)(M:∀j(h:j<T.length),bc T j 1 T[j])(N:∀j(h:j<T.length),j<i→mt T .type T[j] true=true):
 ∀(u:U)(pos f:Nat)(g:Bool)(x:Nat),x≤i→bc T x f u→Pl len u pos f→f≤2→u.k≠12→u.k≠13→mt T .type u g=true→(∀m∈aj u,aM m)∧(aW u=false→aM u):=by
 intro u;induction u using U.bg with
 |_ u ih=>
  intro pos f g x hi w C hf y W hm;have mk:(∀m∈aj u,aM m)→(aW u=false→∀e∈u.es,aM e)→(∀m∈aj u,aM m)∧(aW u=false→aM u):=fun h1 h2=>⟨h1,fun J=>by rw[aM];exact⟨J,h2 J,h1⟩⟩
  by_cases h2:u.k=2
  ·obtain⟨e,he⟩:=cT (C.form.eQ h2)
   have V:0<u.es.length:=by rw[he];simp
   have J:u.es[0]=e:=by simp[he]
   have q:=C.ig (by omega) y 0 V;have D:=w.part 0 V;rw[J]at q D;rw[kd h2,he]at hm;have O:mt T .type e g=true:=by simpa using hm
   have:=ih e (U.au (by rw[he];simp)) _ _ g x hi D q eA q.form.aA.1 q.form.aA.2 O;refine mk (by rw[lE (lF h2 he)];exact this.1) fun r e' z=> ?_;rw[he]at z;simp at z;subst z;exact this.2 (by rw[←nw (lF h2 he)];exact r)
  ·by_cases p:u.k=10
   ·have hu:under u=u:=cB (by omega) (by omega) (by omega) (by omega)
    rw[iV p]at hm;simp only[Bool.and_eq_true,List.all_eq_true]at hm;obtain⟨P,⟨E,_⟩,_⟩:=hm;have ij:∀m∈u.es.take u.m.toNat,aM m:=fun m A=>by
     obtain⟨j,o,Q,rfl⟩:=qu A;have c:=C.part j o;rw[show aS u j=0 by unfold aS;rw[if_neg y,if_neg (by omega)]]at c;have:=ih _ (U.au (List.getElem_mem o)) _ _ false x hi (w.part j o) c eA c.form.aA.1 c.form.aA.2 (E _ A);exact this.2 (kg _ _ _ (w.part j o) c eA c.form.aA.1 c.form.aA.2 (E _ A))
    have elem:∀e∈u.es.drop u.m.toNat,e.k≠12→e.k≠13→(∀m∈aj e,aM m)∧(aW e=false→aM e):=fun e he F G=>by
     have l:=P e he;rw[iU F]at l;simp only[Bool.and_eq_true]at l;have H:=l.1;rw[gJ G]at H;obtain⟨j,o,Q,rfl⟩:=nA he;have b:=C.part j o;exact ih _ (U.au (List.getElem_mem o)) _ _ _ x hi (w.part j o) b eA F G H
    refine mk (fun m a=> ?_) fun r e he=> ?_
    ·rcases(gI a).2 with h|⟨e,he,K,h⟩
     ·rw[hu]at h;exact ij m h
     ·rw[hu]at he
      unfold aT at K;simp only[Bool.and_eq_true,bne_iff_ne,ne_eq]at K;exact(elem e he K.1.1 K.1.2).1 m h
    ·rw[←List.take_append_drop u.m.toNat u.es,List.mem_append]at he
     rcases he with he|he
     ·exact ij e he
     ·rw[gH (by rw[hu];exact p),hu,List.any_eq_false]at r
      have:=r e he;simp only[Bool.or_eq_true,beq_iff_eq,Bool.not_eq_true',not_or,Bool.not_eq_true]at this;exact(elem e he this.1.1.1 this.1.1.2).2 this.2
   ·rw[lA h2 p]at hm
    simp only[Bool.and_eq_true,List.all_eq_true]at hm;refine mk (fun m a=> ?_) fun _ e he=> ?_
    ·by_cases s:u.k=11
     ·have L:=w.named s
      by_cases f0:f=0
      ·rw[if_pos f0]at L
       rw[eB (by rw[ny s L];omega)]at a;cases a
      ·rw[if_neg f0]at L
       obtain⟨h1,X,h3⟩:=L;have d:=hT _ (List.getElem_mem h1);have R:under T[u.n.toNat]=T[u.n.toNat]:=cB d.jC (by have:=d.hi;omega) (by have:=d.hi;omega) (by have:=d.hi;omega);have S:under u=under T[u.n.toNat]:=by rw[ql s h3,R]
       rw[lE S]at a;have Y:=U.iP (u:=u) (e:=T[u.n.toNat]) (by rw[h3];simp);exact(ih _ Y 0 1 true _ (by omega) (M _ h1) d.pl (by omega) (by have:=d.hi;omega) (by have:=d.hi;omega) (N _ h1 (by omega))).1 m a
     ·by_cases B:u.k=15
      ·rw[lE (v:=aF) (by rw[qo B (w.err B),lG])]at a
       exact qq a
      ·by_cases I:u.k=14
       ·have:under u=under br:=by
         have Z:bare u=br:=gd I;have e2:bare br=br:=ca (by decide) (by decide);unfold under;rw[Z,e2]
        rw[lE this]at a;exact p8.b4 a
       ·rw[eB (by rw[cB h2 s I B];exact p)]at a;cases a
    ·obtain⟨j,o,rfl⟩:=List.getElem_of_mem he
     have b:=C.ig p y j o;have l:=hm.2 _ he;exact(ih _ (U.au he) _ _ false x hi (w.part j o) b eA b.form.aA.1 b.form.aA.2 l).2 (kg _ _ _ (w.part j o) b eA b.form.aA.1 b.form.aA.2 l)
end TS
