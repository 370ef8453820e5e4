import Derived.Test.YtkochlhejabdcaaGreatDoorYbr
import Derived.Test.YtkochlhejabdcaaGreatDoorYbs
set_option maxRecDepth 100000
set_option maxHeartbeats 8000000
set_option linter.all false
namespace TS
open Go Go.RowKit
theorem Form.more{len i:Nat}(h:len≤i){u:U}{pos f:Nat}(j:Form len u pos f):Form i u pos f:=by
 cases j with
 |basic a b c d=>exact .basic a b c d
 |pre a b=>exact .pre a b
 |err a b c=>exact .err a b c
 |named a b c d e g=>exact .named a b zo d e g
 |one a b c=>exact .one a b c
 |struct a b c=>exact .struct a b c
 |iface a b c d e g=>exact .iface a b c d e g
 |ptr a b c d=>exact .ptr a b c d
 |map a b=>exact .map a b
 |func a b c d=>exact .func a b c d
 |union a b c d=>exact .union a b c d
 |iO a b c=>exact .iO a b c
theorem Pl.more{len a:Nat}(h:len≤a):∀{u:U}{pos f:Nat},Pl len u pos f→Pl a u pos f:=by
 intro u;induction u using U.bc with
 |_ u ih=>
  intro pos f b;rw[Pl];exact⟨b.form.more h,fun i hi=>ih _ (U.ar (zm hi)) (b.part i hi),fun hk e he=>⟨(b.decl hk he).1,ih _ (U.iN he) (b.decl hk he).2⟩⟩
theorem Pl.Fy{len:Nat}:∀{u:U}{pos:Nat},Pl len u pos 2→∀f,Pl len u pos f:=by
 intro u;induction u using U.bc with
 |_ u ih=>
  intro pos a f;rw[Pl];refine⟨a.form.ye fun _=>by omega,fun i hi=> ?_,fun hk e he=>a.decl hk he⟩;have h:=a.part i hi;rw[show aO u i 2=2 by unfold aO;rw[if_pos rfl]]at h;exact ih _ (U.ar (zm hi)) h _
structure e_(p:Pm)(D:Dl)(q:Pm)(E:Dl):Prop where
 sub:Sub p q
 len:D.len≤E.len
 at':∀n,n<D.len→∃b d eb e,D.a= .some (Xa b d)∧E.a= .some (Xa eb e)∧∀j,j<8→∀v,p b (d+n*8+j)=some v→q eb (e+n*8+j)=some v
theorem e_.up{p:Pm}{D:Dl}{q r:Pm}{E:Dl}(h:e_ p D q E)(a:Sub q r):e_ p D r E:=
 ⟨h.sub.trans a,h.len,fun n b=>let⟨c,d,eb,e,h1,f,g⟩:=h.at' n b;⟨c,d,eb,e,h1,f,fun j i v k=>a _ _ _ (g j i v k)⟩⟩
theorem e_.cells{p q:Pm}{b d eb e:Nat}{n:Nat}(h:∀j,j<8→∀v,p b (d+n*8+j)=some v→q eb (e+n*8+j)=some v){u:U}{a:Option Addr}{c:Nat}(h7:c_ p b (d+n*8) u a c):c_ q eb (e+n*8) u a c:=
 ⟨h 0 zo _ h7.1,h 1 zo _ h7.2.1,h 2 zo _ h7.2.2.1,h 3 zo _ h7.2.2.2.1,h 4 zo _ h7.2.2.2.2.1,h 5 zo _ h7.2.2.2.2.2.1,h 6 zo _ h7.2.2.2.2.2.2⟩
theorem aq.wW{q:Pm}{E:Dl}:∀{l:List U}{p:Pm}{D:Dl}{a:Option Addr},Sub p q→(∀u∈l,∀a c,ai p D u a c→ai q E u a c)→aq p D l a→aq q E l a
 | [],_,_,_,_,_,_=>aq.nil
 |u::r,p,D,a,d,h,e=>by
  simp only[aq]at e⊢;obtain⟨b,o,ha,⟨a',c',h7,hu⟩,hr⟩:=e;exact⟨b,o,ha,⟨a',c',h7.sub d,h u List.mem_cons_self _ _ hu⟩,aq.wW d (fun x f=>h x (List.mem_cons_of_mem _ f)) hr⟩
theorem ai.ext{p q:Pm}{D E:Dl}(h:e_ p D q E):∀(u:U){a:Option Addr}{c:Nat},(E.len=D.len∨∃pos f,Pl D.len u pos f)→ai p D u a c→ai q E u a c:=by
 intro u;induction u using U.bc with
 |_ u ih=>
  intro a c g hu;have j:aq q E u.es a:=aq.wW h.sub (fun e he a' c' l=>by
   obtain⟨i,hi,rfl⟩:=List.getElem_of_mem he;exact ih _ (U.ar he) (g.imp id fun⟨_,_,g⟩=>⟨_,_,g.part i hi⟩) l) hu.list
  obtain⟨k,n,m,v,nm,tg,es,un⟩:=u;have b:=hu;simp only[ai]at b⊢;refine⟨b.1,j,fun hk w H=> ?_⟩;have y:n<D.len:=by
   rcases g with g|⟨pos,f,g⟩
   ·omega
   ·have z:=g.form
    have A:(U.mk k n m v nm tg es un).k=11:=hk;cases z with
    |named _ _ h1 _ _ _=>exact h1
    |pre a _=>omega
    |one a _ _=>omega
    |ptr a _ _ _=>omega
    |_=>omega
  obtain⟨B,d,eb,e,h1,C,F⟩:=h.at' n.toNat zo;obtain⟨o,d',s,t⟩:=b.2.2 hk w y;rw[h1]at s;obtain⟨rfl,rfl⟩:B=o∧d=d':=by simpa using s
  refine⟨eb,e,C,?_⟩;cases un with
  |nil=>simp only[ey]
  |cons x r=>
   simp only[ey]at t⊢;obtain⟨a',c',h7,G⟩:=t;exact⟨a',c',e_.cells F h7,ih x (U.iN (by simp[U.un])) (g.imp id fun⟨_,_,g⟩=>⟨_,_,(g.decl hk (by simp[U.un])).2⟩) G⟩
theorem cM.ext{p q:Pm}{D E:Dl}(h:e_ p D q E){ms:List br}{a:Option Addr}(c:∀m∈ms,E.len=D.len∨∃pos f,Pl D.len m.sig pos f)(hm:cM p D ms a):cM q E ms a where
 at' i hi:=by
  obtain⟨b,o,h1,d,e,g,a',c',j,k⟩:=hm.at' i hi;exact⟨b,o,h1,h.sub _ _ _ d,h.sub _ _ _ e,g,a',c',j.sub h.sub,ai.ext h _ (c _ (zm hi)) k⟩
end TS
namespace TS
open Go Go.RowKit Go.Proofs.YtkochlhejabdcaaGreatDoor
def ep(n:Nat):U:= .mk 5 0 0 false ⟨#[]⟩ ⟨#[]⟩ [.mk 3 n 0 false ⟨#[63]⟩ ⟨#[]⟩ [.mk 1 0 0 false ⟨#[]⟩ ⟨#[]⟩ [] []] []] [cC]
def jd(e:U):U:= .mk 4 0 0 false ⟨#[]⟩ ⟨#[]⟩ [e] []
theorem aq.own{p:Pm}{D:Dl}{w:World}(hw:KW p w){u:U}{a:Option Addr}{c:Nat}(hu:ai p D u a c):∃q,aN p q w∧KW q (w.alloc (Xt u a c))∧aq q D [u] (Xa w 0):=by
 have b:∀o,p w.heap.size o=none:=fun o=>hw.aF zl o;refine⟨_,Pm.du (cs:=#[.int .i64 u.k,.int .i64 u.n,.int .i64 u.m,.bool u.v,.string u.nm,.string u.tg,.slice a u.es.length c]) b zl,hw.sm _ _,?_⟩;simp only[aq];refine⟨w.heap.size,0,rfl,⟨a,c,?_,ai.sub (Pm.cK b) _ hu⟩,trivial⟩;refine⟨?_,?_,?_,?_,?_,?_,?_⟩<;>(rw[Pm.aU];rfl)
theorem o8{p:Pm}{D:Dl}(k n:Int)(nm:ByteArray)(l un:List U)(a:Option Addr)(hk:k.natAbs≤10)(b:n.natAbs≤1048576)(hm:nm.size≤10)(c:l.length≤10)(h:aq p D l a):ai p D (.mk k n 0 false nm ⟨#[]⟩ l un) a l.length:=by
 simp only[ai];exact⟨(by refine⟨?_,?_,?_,?_,?_,?_,?_⟩<;>first|decide|omega),h,fun h=>by omega⟩
structure fV(N:Nat)(ds:List aC)(ms:List br)(T:List U)(L:List U)(E:List aC):Prop where
 ty:∀y∈L,y∈T∨∃j,N≤j∧j<E.length∧y=dJ j
 de:∀j(h:j<E.length),N≤j→E[j].ms=(if fp E[j].un then ms else [])∧((∃x∈T,E[j].un=under x)∨∃n≤1048576,E[j].un=ep n∨E[j].un=jd (ep n))
 iX:E.take N=ds
 le:N≤E.length
theorem fV.mono{N:Nat}{ds:List aC}{ms:List br}{T T' L:List U}{E:List aC}(h:fV N ds ms T L E)(hT:∀x∈T,x∈T'):fV N ds ms T' L E:=
 ⟨fun y c=>(h.ty y c).imp (hT y) id,fun j a b=>⟨(h.de j a b).1,(h.de j a b).2.imp (fun⟨x,d,e⟩=>⟨x,hT x d,e⟩) id⟩,h.iX,h.le⟩
theorem fV.one{N:Nat}{ds:List aC}{ms:List br}{T L:List U}{E:List aC}(h:fV N ds ms T L E){x:U}(b:x∈T):fV N ds ms T (L++ [x]) E:=
 ⟨fun y a=>(List.mem_append.1 a).elim (h.ty y) fun a=> .inl (by obtain rfl:y=x:=by simpa using a
                                                                exact b),h.de,h.iX,h.le⟩
theorem fV.decl{N:Nat}{ds:List aC}{ms:List br}{T L:List U}{E:List aC}(h:fV N ds ms T L E){u:U}(hu:(∃x∈T,u=under x)∨∃n≤1048576,u=ep n∨u=jd (ep n)):
 fV N ds ms T (L++ [dJ E.length]) (E++ [⟨u,if fp u then ms else []⟩]) where
 ty y a:=by
  rcases List.mem_append.1 a with a|a
  ·exact(h.ty y a).imp id fun⟨j,h1,f,c⟩=>⟨j,h1,by simp;omega,c⟩
  ·exact .inr ⟨E.length,h.le,by simp,by simpa using a⟩
 de j d e:=by
  by_cases b:j<E.length
  ·rw[List.getElem_append_left b];exact h.de j b e
  ·obtain rfl:j=E.length:=by simp at d;omega
   rw[List.getElem_append_right zl];simpa using hu
 iX:=by rw[List.take_append_of_le_length h.le];exact h.iX
 le:=by have:=h.le;simp;omega
end TS
namespace Go.Proofs.YtkochlhejabdcaaGreatDoor
open Go.RowKit TS
def o_(p:Pm)(D:Dl)(ds:List aC)(T:List U)(w:World)(e:Ending)(c:World):Prop:=
 ∃q a B1 B2 B3 vo b d Lo Ld,e= .returned (.tuple #[.slice b Ld.length d,vo])∧(0<Lo.length∧0<Ld.length∧Ld.length≤1048576∧Lo.length≤1048576)∧a.len=D.len∧e_ p D q a∧DW q a ⟨b,Ld.length⟩ c∧dj p q a w c B1 B2 B3 (.slice none 0 0) vo (.slice b Ld.length d) Lo Ld∧fV D.len ds [] T (aL Lo) (cI Ld)
structure wX(p:Pm)(D:Dl)(ds:List aC)(w f:World)(c:Pm)(e:Dl)(v:Value)(L:List R8):Prop where
 up:Below w w f
 gr:aN p c w
 kw:KW c f
 len:e.len=D.len
 jL:ca c e ds
 dx:e_ p D c e
 ls:cI L=ds
 all:eK c e L
 own:f.ownsRow w 36 8 v L.length (bz L)
 ag:∀b,v.ownBlock=some b→∀o u,c b o=some u→(bz L)[o]?=some u
 cl:∀g d,e.a= .some (Xa g d)→0<L.length→∀j u,(bz L)[j]?=some u→c g (d+j)=some u
theorem RD.Fz{p:Pm}{D:Dl}{ds:List aC}{w O:World}{e:Ending}(h:RD p D ds w e O)(B:ca p D ds)(hw:KW p w):∃Q G c0 L,e= .returned (Xd G c0)∧wX p D ds w O Q G (Xd G c0) L:=by
 obtain⟨v,L,rfl,r,C,R,f,E⟩:=h;have l:L.length=D.len:=by rw[←B.len,←r.out];simp[cI]
 have hm:=B.jV;rcases Nat.eq_zero_or_pos L.length with H|H
 ·have F:L= []:=List.length_eq_zero_iff.1 H
  obtain⟨a,c,rfl⟩:=a_ f;have I:∀x,a=some x→x.spot=none:=fun x e=>by
   rcases f.2 with⟨h,_⟩|⟨g,cap,cur,h,_⟩<;>(rw[e]at h;cases h;try rfl)
  subst F;have J:ds= []:=by rw[←r.out];rfl
  refine⟨p,⟨a,0⟩,c,[],rfl,E,.refl _ _,hw.grown E,l,?_,⟨.refl _,Nat.le_of_eq l.symm,fun n F=>by simp at l;omega⟩,r.out,(fun x s=>by cases s),f,fun b K o u hu=> ?_,fun _ _ _ h=>absurd h zs⟩
  ·subst J
   exact⟨I,rfl,by simp,fun i hi=>by simp at hi⟩
  ·have:=(f.lt b K).1
   rw[hw.aF this]at hu;cases hu
 ·obtain⟨g,cap,rfl,t,T,F,S,m,_⟩:=gZ f H
  have P:∀o,p g o=none:=fun o=>hw.aF t o;have I:=Pm.cK (cs:=(bz L).toArray) P;have s:e_ p D (p.add g (bz L).toArray) ⟨.some (Xa g 0),L.length⟩:=⟨I,by simp[l],fun n F=>by
   obtain⟨M,d,y⟩:=B.bg (by rw[B.len];omega);refine⟨M,d,g,0,y,rfl,fun j U v N=> ?_⟩;have z:n*8+j<(bz L).length:=by rw[kX];omega
   have:=R.out M d y (n*8+j) _ (List.getElem?_eq_getElem z);rw[←Nat.add_assoc,N]at this;rw[Pm.aU,Nat.zero_add];simpa using List.getElem?_eq_some_iff.2 ⟨z,(Option.some.inj this).symm⟩⟩
  have A:eK (p.add g (bz L).toArray) ⟨.some (Xa g 0),L.length⟩ L:=fun x k=>⟨ai.ext s _ (.inl l) (C x k).1,(C x k).2.1,(C x k).2.2.1,cM.ext s (fun _ _=> .inl l) (C x k).2.2.2⟩
  refine⟨p.add g (bz L).toArray,⟨.some (Xa g 0),L.length⟩,cap,L,rfl,E,Pm.du P t,(hw.grown E).add fun o u hu=>m o u (by simpa using hu),l,?_,s,r.out,A,f,fun b K o u hu=> ?_,fun M d e _ j u hu=> ?_⟩
  ·rw[←r.out]
   exact tj rfl zo A fun j v N=>by rw[Pm.aU];simpa using N
  ·obtain rfl:g=b:=by simpa [Value.ownBlock]using K
   rw[Pm.aU]at hu;simpa using hu
  ·cases e
   rw[Pm.aU,Nat.zero_add];simpa using hu
section
variable {p q q':Pm} {D:Dl} {w W W':World} {B1 B2 B3:Nat} {vm vo vw:Value} {Lo:List R3} {Ld:List R8}
theorem dj.call(h:dj p q D w W B1 B2 B3 vm vo vw Lo Ld)(d:Below W W W')(a:aN q q' W)(hk:KW q' W'):dj p q' D w W' B1 B2 B3 vm vo vw Lo Ld:=
 {h.below d with
  gr:=h.gr.trans a h.up.size,kw:=hk,tt:=h.tt.sub a.le,dd:=h.dd.sub a.le
  dk:=fun b c o=>a.aF (by
   rcases c with e|e|e|e
   ·subst e;exact h.om.lt
   ·subst e;exact h.oo.lt
   ·subst e;exact h.ow.lt
   ·exact(h.rt.lt b e).2) (h.dk b c) o
  ag:=fun b e o v f=>(a.new b o v f).elim (h.ag b e o v) fun g=>by have:=(h.rd.lt b e).2;omega}
theorem dj.dw{ds:List aC}{i k:World}{l:Dl}{e:Pm}{v0:Value}{L N:List R8}{f:Option Addr}{m:Nat}(c:wX p l ds i k e D v0 L)(o:Sub e q)(h:dj p q D w W B1 B2 B3 vm vo (.slice f (L++N).length m) Lo (L++N)):DW q D ⟨f,(L++N).length⟩ W:=by
 have r:L.length=D.len:=by have:=c.jL.len;rw[←this,←c.ls];simp[cI]
 refine⟨by simp[r],fun n C s d t=> ?_⟩;have u:0<L.length:=zo;obtain⟨g,cap,v,y,E,z,A,a,_⟩:=gZ h.rd zp;cases v;refine⟨g,0,rfl,fun j F x B=> ?_⟩;have b:n*8+j<(bz L).length:=by rw[kX];omega
 have h1:=o _ _ _ (c.cl s d t u (n*8+j) _ (List.getElem?_eq_getElem b));rw[←Nat.add_assoc,B]at h1;rw[Nat.zero_add];refine a _ _ ?_;rw[nG,List.getElem?_append_left b,List.getElem?_eq_getElem b];exact h1.symm
end
end Go.Proofs.YtkochlhejabdcaaGreatDoor
namespace Go.Proofs.YtkochlhejabdcaaGreatDoor
open Go.RowKit TS Tryz
theorem FA{p q:Pm}{D:Dl}{w wr:World}{v:Value}{L:List R3}(hO:Row p q D w wr v L){l:List U}{n c:Nat}{f:Option Addr}(t:aq q D l f)(y:n=l.length)(hle:L.length+n≤1048576){o:Oper}{a:Act}{K:Act→World→Prop}{Q:Exit→Act→World→Prop}(s x:Operand)
 (z:o.op= .call {callee:= .builtin .append,args:=#[s,x],argTypes:=#[23,23]})(A:a.eval s=v)(B:a.eval x= .slice f n c)
 (h:∀e d M,Hid (aL M=l)→Hid (Row p q D w d e (L++M))→Hid (Kept (fun k=>v.ownBlock=some k) wr d)→K (a.put o.dst e) d):o.wp Tryz.prog a wr K Q:=by
 obtain⟨i0,hi,g,i,m⟩:=info_parts js;rcases Nat.eq_zero_or_pos n with C|C
 ·subst C
  have hr:=uh (P:=Tryz.prog) wr w.heap.size 23 o.type 25 i0 underlying23 hi 7 v _ _ hO.own f c;unfold Oper.wp execOp;simp only[z,resolve,invoke,builtin,Sem.run_bind,Sem.run_pure,Result.andThen_ok,List.map_toArray,List.map_cons,List.map_nil,A,B,hr];refine h v wr [] ?_ (by rw[List.append_nil];exact hO) (Kept.refl _ _);rw[List.length_eq_zero_iff.1 y.symm];rfl
 ·obtain⟨b,ob,rfl⟩:=t.bg zo
  obtain⟨M,hM,F,G⟩:=nD t;have r:n=M.length:=by rw[y,←hM,fD]
  subst r;refine iW s x 23 z w.heap.size 25 i0 (Xt cC none 0) 7 88 underlying23 hi g i m rfl zd v L.length (aX L) A hO.own (Xa b ob) M.length c (aX M) B (gh M) (fun j u H=> ?_) (kW M) (by unfold maxLen;omega) zo hO.up.size fun e d h1 E _ I=>h e d M hM (hO.nU h1 E I F) ((Kept.refl _ _).grown E fun k hk _=>hk);rw[show((Xa b ob):Addr).add j=(Xa b (ob+j)) by unfold Addr.add;split<;>simp_all];exact hO.kw _ _ _ (G j u H)
structure ng(d:Pm)(b:Dl)(c0:Nat)(w:World)(b1:Nat)(v:U)(a:Option Addr)(c:Nat)(t:U)(a':Option Addr)(c':Nat)(L:List R8)(W:World):Prop where
 b3:Boxed W w.heap.size 22 (Xd b c0)
 b1:Boxed W b1 34 (.slice none 0 0)
 v7:TS.L7 W (w.heap.size+1) v a c
 t7:TS.L7 W (w.heap.size+2) t a' c'
 up:Below w w W
 kw:KW d W
 rd:W.ownsRow w 36 8 (Xd b c0) L.length (bz L)
theorem ng.below{g e:Pm}{f:Dl}{c0:Nat}{w:World}{b1:Nat}{v:U}{a:Option Addr}{c:Nat}{t:U}{a':Option Addr}{c':Nat}{L:List R8}{W d:World}(h:ng g f c0 w b1 v a c t a' c' L W)(b:Below W W d)(hk:KW e d):ng e f c0 w b1 v a c t a' c' L d where
 b3:=(b.block _ h.b3.lt).trans h.b3
 b1:=(b.block _ h.b1.lt).trans h.b1
 v7:=h.v7.below b
 t7:=h.t7.below b
 up:=h.up.trans (b.mono h.up.size)
 kw:=hk
 rd:=bw h.rd b
theorem FB{NS:List (List UInt8)}(Rk:NS.length≤1048576)(p:Pm)(D:Dl)(dc:Nat)(ds:List aC)(hD:ca p D ds)(hn:D.len≤1000000)(v t:U)(pv fv pt ft:Nat)(hv:Pl D.len v pv fv)(Qc:fv≤2)(PQ:fv≠0)(v12:v.k≠12)(P0:v.k≠13)
 (ht:Pl D.len t pt ft)(QE:ft≤2)(P8:ft≠0)(t12:t.k≠12)(t13:t.k≠13)(hr:an v= [])(hN:Names NS v)(hl:(a7 v).length+(a7 t).length≤1000)(hT:∀x∈a7 v++a7 t,Pl D.len x 0 2∧x.k≠12∧x.k≠13)
 (a:Option Addr)(c:Nat)(a':Option Addr)(c':Nat)(w:World)(hu:ai p D v a c)(QF:ai p D t a' c')(hw:KW p w):
 Xk 28 #[Xd D dc,Xt v a c,Xt t a' c'] w (o_ p D ds (a7 v++a7 t) w):=by
 have hC:=zh fun W hW=>zH p D dc ds W hD hW;have PJ:=zh hw;have Qd:=zh hD;have QG:=zh hu;have P9:=zh QF;clear hD hu QF hw;go_enter func28,ntmps28;go_wp2_with fail
 refine(hC.out _ (((PJ.out.alloc _).alloc _).alloc _)).mono ?_;rintro e1 S hR;obtain⟨p0,Q,c0,L,rfl,C⟩:=hR.Fz Qd.out (((PJ.out.alloc _).alloc _).alloc _);have hh:S.heap[w.heap.size]?=some (.cells #[Xd D dc] 22):=by
  rw[C.up.block _ zp,dC zp,dC zs];exact cA rfl
 have hz:w.heap.size+2<S.heap.size:=by have:=C.up.size;simp at this;omega
 have d0:Xc S w 0 (Xd D dc):=by simp[World.cell?,hh]
 have Rl:S.frozen? (Xa w 0)=false:=by simp[World.frozen?,hh]
 have QH:Hid (ng p0 Q c0 w S.heap.size v a c t a' c' L ((S.setCell (Xa w 0) (Xd Q c0)).alloc (.cells #[.slice none 0 0] 34))):=by
  have QI:=(dE (w.alloc (.cells #[Xd D dc] 22)) v a c 25).alloc (Xt t a' c');have QJ:=dE ((w.alloc (.cells #[Xd D dc] 22)).alloc (Xt v a c)) t a' c' 25;simp only[World.size_alloc]at QI QJ;have Rm:Boxed S w.heap.size 22 (Xd D dc):=hh
  exact⟨((Rm.set _).alloc _),(by simpa using Boxed.new (S.setCell (Xa w 0) (Xd Q c0)) 34 (.slice none 0 0)),((TS.L7.below QI C.up).setCell zs _).alloc _,((TS.L7.below QJ C.up).setCell zp _).alloc _,
   (((((zB.alloc zl _).alloc zs _).alloc zp _).trans (C.up.mono zp)).setCell zs _).alloc zp _,(KW.setCell C.kw (C.gr.aF zp fun o=>PJ.out.aF zl o) _).alloc _,bw (eC (jr C.own zp) (fun e=>by have:=(C.own.lt _ e).1;simp at this;omega) _) (zB.alloc zl _)⟩
 have hlen:=C.len;have QK:Hid (aN p p0 (w.heap.size+3)):=by simpa [Hid]using C.gr
 have Qe:Pl Q.len v pv fv:=by rw[hlen];exact hv
 have QL:Pl Q.len t pt ft:=by rw[hlen];exact ht
 have Qf:=zh (ai.ext C.dx v (.inl hlen) QG.out);have QM:=zh (ai.ext C.dx t (.inl hlen) P9.out);have d:=zh C;clear hR C hC hlen;go_upto_region 3 with fail
 refine kh _ QH.out ?_;have QN:w.heap.size+2<S.heap.size:=hz;clear QH hh hz d0 Rl;rintro W0 hS;have QO:=zh (k9 Q c0 NS Rk v p0 pv fv a c W0 Qe Qc PQ v12 P0 hN Qf.out hS.kw);have o3:=hS.b3.cell;obtain⟨k0,k1,k2,k3,k4,k5,k6⟩:=hS.v7;have P1:=zh hS;clear hS;go_wp2_with fail
 refine QO.out.mono ?_;rintro e2 w2 ⟨q1,ra,rn,rc,rfl,Qg,PK,QP,PR,aa⟩;have A:=P1.out.below aa QP;have R:=zh (And.intro PK P1.out.b1.lt);have PK:=zh (QK.out.trans PK (by have:=P1.out.b1.lt;omega));rw[hr]at Qg;obtain rfl:rn=0:=Qg.out;clear QO P1 o3 k0 k1 k2 k3 k4 k5 k6 Qg aa QP PR;have o3:=A.b3.cell;obtain⟨k0,k1,k2,k3,k4,k5,k6⟩:=A.v7;have A:=zh A;go_wp2_with fail
 refine wp_loop_rounds 1 ?_;rw[rounds_succ];go_upto_region 10 with fail
 refine kh (fun W=>ng q1 Q c0 w S.heap.size v a c t a' c' L W∧Boxed W w2.heap.size 23 (.slice none 0 0)∧w2.heap.size<W.heap.size) ⟨A.out.below (zB.alloc zl _) (A.out.kw.alloc _),Boxed.new _ _ _,by simp⟩ ?_;clear o3 k0 k1 k2 k3 k4 k5 k6;rintro W1 ⟨F,P2,J⟩;have P_:=zh (A.out.kw.aF zl);have Ru:S.heap.size<w2.heap.size:=A.out.b1.lt;have F:=zh (F.below (zB.drew) F.kw.drew);have P2:Hid (Boxed W1.drew w2.heap.size 23 (.slice none 0 0)):=P2;have J:w2.heap.size<W1.drew.heap.size:=J;clear A;refine oR (fun W=>Xc W w 0 (Xd Q c0)∧(Xl W (w+1) v a c)∧(Xl W (w+2) t a' c')) [(0,true),(1,true),(3,true),(4,true),(8,true),(2,false),(5,false),(6,false),(7,true)] ⟨F.out.b3.cell,F.out.v7,F.out.t7⟩ (fun l=> ?_);generalize W1.drew=W2 at*;have QQ:=zh (ui Q c0 v q1 pv fv a c W2 Qe Qc PQ (fun h=>h.elim (fun h=>absurd h v12) fun h=>absurd h P0) zo (ai.sub R.out.1.le _ Qf.out) F.out.kw);obtain⟨z0,⟨x0,x1,x2,x3,x4,x5,x6⟩,y0,y1,y2,y3,y4,y5,y6⟩:=id l;iterate 5 ((first|refine oS ?_|refine oF l ?_);try simp only[Act.put,oa,ob,oc])
 refine oL fun K B=> ?_;go_simp;go_at_call 71
 refine QQ.out.mono ?_;rintro e3 w3 ⟨_,QR⟩;obtain⟨q2,vt,L1,rfl,PR,E⟩:=QR P0;have E:=zh E;have QS:L1.length=(a7 v).length:=by rw[←PR.out,fD]
 have QT:=zh (ui Q c0 t q2 pt ft a' c' w3 QL QE P8 (fun h=>h.elim (fun h=>absurd h t12) fun h=>absurd h t13) zo (ai.sub (R.out.1.le.trans E.out.gr.le) _ QM.out) E.out.kw);clear l;(try simp only[]);refine B _ _ (by(repeat' apply And.intro)<;>exact TS.cell_kept E.out.up za) fun l=> ?_;clear B K;try simp only[Act.put,oa,ob,oc]
 refine oL fun K B=> ?_;go_simp;go_at_call 71
 refine QT.out.mono ?_;rintro e4 w4 ⟨⟨q3,a4,n4,c4,rfl,Qh,QU,QV,QW,QX⟩,_⟩;have PS:=zh (E.out.call QX QU QV);clear QR E QQ QT QX QU QV;clear l;(try simp only[]);refine B _ _ (by(repeat' apply And.intro)<;>exact TS.cell_kept PS.out.up za) fun l=> ?_;clear B K;try simp only[Act.put,oa,ob,oc]
 refine nv rfl (by rfl) (fun K B=> ?_);refine FA PS.out QW Qh.out (by rw[Qh.out];omega) _ _ rfl rfl rfl fun v' w5 M hM hO Rn=> ?_;obtain⟨q4,a5,c5,rfl,QY,T,Z⟩:=hO.out.iV;clear l;(try simp only[]);refine B _ _ (by(repeat' apply And.intro)<;>exact TS.cell_kept hO.out.up za) fun l=> ?_;clear B K;try simp only[Act.put,oa,ob,oc]
 have Qi:aL (L1++M)=a7 v++a7 t:=by rw[←PR.out,←hM.out];simp[aL]
 have X:(L1++M).length=(a7 v++a7 t).length:=by rw[←Qi,fD]
 have PT:Hid (dj p q4 Q w w5 S.heap.size w2.heap.size w.heap.size (.slice none 0 0) (.slice none 0 0) (Xd Q c0) [] L):=by
  have QZ:=F.out.b1.lt
  refine⟨F.out.up.trans (hO.out.up.mono F.out.up.size),(PK.out.trans T zo).mono zo,QY,(hO.out.up.block _ QZ).trans F.out.b1,(hO.out.up.block _ J).trans P2.out,(hO.out.up.block _ zo).trans F.out.b3,World.ownsRow_nil _ _ _ _,bw F.out.rd hO.out.up,
   (fun x hx=>by cases hx),d.out.all.sub (R.out.1.le.trans T.le),⟨by omega,by omega,Nat.le_refl _⟩,fun b hb o=> ?_,fun b hb o u hu=> ?_⟩
  ·rcases hb with rfl|rfl|rfl|hb
   ·exact T.aF QZ (fun o=>R.out.1.aF R.out.2 (fun o=>d.out.kw.aF zl o) o) o
   ·exact T.aF J P_.out o
   ·exact T.aF zo (fun o=>PK.out.aF zo (fun o=>PJ.out.aF zl o) o) o
   ·cases hb
  ·have P3:=(d.out.own.lt b hb).2
   have:=R.out.2;exact(T.new b o u hu).elim (fun h=>(R.out.1.new b o u h).elim (d.out.ag b hb o u) fun hx=>by omega) fun hx=>by omega
 rw[Qi]at Z;replace Z:=zh Z;have Ro:(a7 v++a7 t).length≤1000:=zp;generalize a7 v++a7 t=TT at*;obtain⟨nT,P4⟩:∃n,n=(L1++M).length:=⟨_,rfl⟩
 rw[←P4]at X⊢;replace X:=zh X;have PU:=zh (R.out.1.le.trans T.le);clear l z0 x0 x1 x2 x3 x4 x5 x6 y0 y1 y2 y3 y4 y5 y6 hO Rn hM PR QW Qh PS Qi P4 QY T F P2 P_ R PK;iterate 1 ((first|refine oS ?_|refine oF l ?_);try simp only[Act.put,oa,ob,oc])
 refine bZ ?_;replace hT:=zh hT;replace d:=zh (And.intro d.out.len d.out);have Qj:Hid (L.length=D.len):=by have h1:=d.out.2.jL.len;unfold Hid;rw[←d.out.1,←h1,←d.out.2.ls];simp[cI]
 clear hr v12 P0 t12 t13 hv Qc PQ ht QE P8 hN QG P9 Qe QL Qf QM QK J QS hl;have P4:nT≤1000:=by rw[X.out];exact Ro
 go_wp2_with fail
 go_loopw [43] (fun vi wr=> ∃(k:Nat)(q:Pm)(vo vw:Value)(G:List R3)(H:List R8),vi= .int .i64 k∧k≤nT∧TS.Sub q4 q∧Hid (dj p q Q w wr S.heap.size w2.heap.size w.heap.size (.slice none 0 0) vo vw G H)∧Hid (fV D.len ds [] (TT.take k) (aL G) (cI H))∧Hid (G.length=2*k∧H.length=D.len+k∧∃N,H=L++N)) (fun vi _=>nT- (intOf vi).toNat)
 case atStart=>
  refine⟨0,q4,_,_,[],L,rfl,Nat.zero_le _,.refl _,PT.out,?_,⟨rfl,Qj.out,[],(List.append_nil _).symm⟩⟩;have hd:=d.out.2.ls;have h2:=Qj.out;have h3:(cI L).length=D.len:=by simp[cI,h2]
  exact⟨fun y hy=>by simp[aL]at hy,fun j hj hN=>by omega,by rw[←h3,List.take_length,hd],by omega⟩
 case round=>
  obtain⟨k,q,vo,vw,G,H,rfl,hk,hq,r,Y,s⟩:=hrel;by_cases P3:k<nT
  ·have PL:k<TT.length:=by rw[←X.out];exact P3
   obtain⟨b5,o5,rfl⟩:=Z.out.bg zo;obtain⟨ax,cx,h7,PM⟩:=(aq.sub hq _ Z.out).get k PL;obtain⟨x,hx⟩:∃x,x=TT[k]:=⟨_,rfl⟩
   rw[←hx]at h7 PM;obtain⟨g0,g1,g2,g3,g4,g5,g6⟩:TS.C7 wr b5 (o5+k*7) x ax cx:=h7.world r.out.kw;replace PM:=zh PM;replace hx:=zh hx;replace PL:=zh PL;have J:(k:Int)<nT:=zo;clear h7;go_upto_region 13 with fail
   obtain⟨ao,co,rfl⟩:=a_ r.out.rt;obtain⟨aw,cw,rfl⟩:=a_ r.out.rd;refine kh (fun W=>Hid (dj p q Q w W S.heap.size w2.heap.size w.heap.size (.slice none 0 0) (.slice ao G.length co) (.slice aw H.length cw) G H)∧TS.L7 W wr.heap.size x ax cx) ⟨r.out.below (zB.alloc zl _),dE wr x ax cx 25⟩ ?_;rintro W ⟨PW,O⟩;have O:=zh O;have PN:∀k:Nat,k=wr.heap.size→¬(k=w2.heap.size∨(Value.slice ao G.length co).ownBlock=some k):=fun k hk hX=>hX.elim (fun e=>by have:=r.out.oo.lt;omega) fun e=>by have:=(r.out.rt.lt k e).2;omega
   clear g0 g1 g2 g3 g4 g5 g6 r;go_cut [] (fun wx=> ∃Q3,Hid (dj p q Q w wx S.heap.size w2.heap.size w.heap.size (.slice none 0 0) Q3 (.slice aw H.length cw) (G++ [(x,ax,cx)]) H)∧Hid (TS.L7 wx wr.heap.size x ax cx))
   case first=>
    have Rv:G.length≤2000:=by have:=s.out;omega
    clear P4 P3 J hq hk Y hx hT X Z PU d PT hn Qd PJ s;have r:=PW.out.below (zB.drew);obtain⟨x0,x1,x2,x3,x4,x5,x6⟩:TS.L7 W.drew wr.heap.size x ax cx:=O.out;have O:Hid (TS.L7 W.drew wr.heap.size x ax cx):=O;have Rp:=zb x0;simp only at Rp;refine qB (fun V=>(Xl V wr x ax cx)) (.one 1 true (.two 0 3 (.one 2 true (.one 3 false (.one 4 false (.one 5 true (.two 6 7 (.one 7 false .done) (.one 6 false .done)))))) (.one 0 false (.one 2 true (.one 4 false (.one 5 true (.two 6 7 (.one 7 false .done) (.one 6 false .done)))))))) zk zk zk zd ⟨x0,x1,x2,x3,x4,x5,x6⟩ (fun l=> ?_);generalize W.drew=Wd at*;clear l PW;obtain⟨i0,Qk,Rq,QN,Rr⟩:=info_parts js;have Qk:=zh Qk;have o2:=r.oo.cell;have Rw:=r.oo.lt;have A:=r.below (zB.alloc zl (.cells #[.int .i64 0,.int .i64 0,.int .i64 0,.bool false,.string ⟨#[]⟩,.string ⟨#[]⟩,.slice none 0 0] 25));have PO:TS.L7 (Wd.alloc (.cells #[.int .i64 0,.int .i64 0,.int .i64 0,.bool false,.string ⟨#[]⟩,.string ⟨#[]⟩,.slice none 0 0] 25)) wr.heap.size x ax cx:=O.out.alloc _;(refine dR rfl (by rfl) (by intro W hW;(try dsimp only at hW);go_simp<;>with_reducible rfl) ?_;try simp only[Act.put,oa,ob,oc])
    refine ki rfl rfl (by rfl) (by rfl) (fun K B=> ?_) (fun K B=> ?_);go_simp
    (try simp only[]);refine B _ _ (O.out) fun l=> ?_;clear B K;try simp only[Act.put,oa,ob,oc]
    (refine dR rfl (by rfl) (by intro W hW;(try dsimp only at hW);go_simp<;>with_reducible rfl) ?_;try simp only[Act.put,oa,ob,oc])
    refine dx rfl (by rfl) (fun K B=> ?_);go_simp
    (try simp only[]);refine B _ _ (PO) fun l=> ?_;clear B K;try simp only[Act.put,oa,ob,oc]
    rotate_left
    go_simp
    (try simp only[]);refine B _ _ (PO) fun l=> ?_;clear B K;try simp only[Act.put,oa,ob,oc]
    refine dx rfl (by rfl) (fun K B=> ?_);go_simp
    (try simp only[]);refine B _ _ (PO) fun l=> ?_;clear B K;try simp only[Act.put,oa,ob,oc]
    (refine dR rfl (by rfl) (by intro W hW;(try dsimp only at hW);go_simp<;>with_reducible rfl) ?_;try simp only[Act.put,oa,ob,oc])
    all_goals
     have Q4:=zh A.rt;have Q5:=zh (kY Wd [.int .i64 0,.int .i64 0,.int .i64 0,.bool false,.string ⟨#[]⟩,.string ⟨#[]⟩,.slice none 0 0] 25);refine dx rfl (by rfl) (fun K B=> ?_);refine iW _ _ 23 rfl w.heap.size 25 i0 (Xt cC none 0) 7 88 underlying23 Qk.out Rq QN Rr rfl zd (.slice ao G.length co) G.length (aX G) rfl Q4.out (Xa Wd 0) 1 1 [.int .i64 0,.int .i64 0,.int .i64 0,.bool false,.string ⟨#[]⟩,.string ⟨#[]⟩,.slice none 0 0] rfl rfl Q5.out (by intro v hv;simp only[List.mem_cons,List.not_mem_nil,or_false]at hv;rcases hv with rfl|rfl|rfl|rfl|rfl|rfl|rfl<;>rfl) ?c3 ?c4 ?c5 ?_
     case c3=>unfold maxLen;omega
     case c4=>omega
     case c5=>exact A.up.size
     intro v' w3 f PX _ Ql;obtain⟨g,cap,rfl⟩:=ownsRow_succ f;have P5:=A.oo.kept PX (A.oo.not_row zd A.rt);have Rs:wr.heap.size≠g:=fun e=>Ql.elim (fun h=>PN _ rfl (.inr (by rw[←h,e];rfl))) (fun h=>by cases h;simp at e;omega);have Qm:TS.L7 w3 wr.heap.size x ax cx:=PO.keeps fun o v h=>by
      rw[World.cell?_of_block (w:=Wd.alloc (.cells #[.int .i64 0,.int .i64 0,.int .i64 0,.bool false,.string ⟨#[]⟩,.string ⟨#[]⟩,.slice none 0 0] 25)) (PX.block _ zp (fun e=>PN _ rfl (.inr e.symm)))];exact h
     (try simp only[]);refine B _ _ (Qm) fun l=> ?_;clear B K;try simp only[Act.put,oa,ob,oc]
     have P3:(G.length:Int)<(G.length:Int)+1:=zo;have g0:=P5.cell;have g1:=P5.lt;have g2:=P5.frozen;have gl:g<w3.heap.size:=(f.lt g rfl).2;have fr:=fun j=>f.frozenAt j;have PG:=gh G;have c0:Xc w3 g (G.length*7) (.int .i64 0):=fQ f PG 0 zo;have c1:Xc w3 g (G.length*7+1) (.int .i64 0):=fQ f PG 1 zo;have c2:Xc w3 g (G.length*7+2) (.int .i64 0):=fQ f PG 2 zo;have c3:Xc w3 g (G.length*7+3) (.bool false):=fQ f PG 3 zo;have c4:Xc w3 g (G.length*7+4) (.string ⟨#[]⟩):=fQ f PG 4 zo;have c5:Xc w3 g (G.length*7+5) (.string ⟨#[]⟩):=fQ f PG 5 zo;have c6:Xc w3 g (G.length*7+6) (.slice none 0 0):=fQ f PG 6 zo;have Rx:w2.heap.size≠g:=fun e=>(P5.not_row zd f) (by rw[e];rfl);have Q6:dX q Q [(x,ax,cx)]:=fun y hy=>by
      obtain rfl:y=(x,ax,cx):=by simpa using hy
      exact PM.out
     have PH:=fun w4 h=>A.outs Q6 rfl f PX (Ql.imp Eq.symm fun h=>by cases h;rfl) w4 (.inl h);have PI:=fun w4 h=>A.outs Q6 rfl f PX (Ql.imp Eq.symm fun h=>by cases h;rfl) w4 (.inr h);have Qn:=(my (aX [(x,ax,cx)]) [.int .i64 0,.int .i64 0,.int .i64 0,.bool false,.string ⟨#[]⟩,.string ⟨#[]⟩,.slice none 0 0] (aX G) w3 rfl f).2;rw[gh]at Qn;simp only[World.setCells,aX,List.flatMap_cons,List.flatMap_nil,List.append_nil,TS.bT,Nat.add_assoc,Nat.reduceAdd]at PH PI Qn;have Rt:wr.heap.size<w3.heap.size:=by have:=PX.size;simp at this;omega
     (refine dR rfl (by rfl) (by intro W hW;(try dsimp only at hW);go_simp<;>with_reducible rfl) ?_;try simp only[Act.put,oa,ob,oc])
     refine ki rfl rfl (by rfl) (by rfl) (fun K B=> ?_) (fun K B=> ?_)
     ·go_simp
      (try simp only[]);refine B _ _ (Qm.keeps fun o v h=>by rw[World.cell?_of_block (Qn.block _ Rt (by simpa using Rs))];exact h) fun l=> ?_;clear B K;try simp only[Act.put,oa,ob,oc]
      refine dx rfl (by rfl) (fun K B=> ?_);go_simp
      (try simp only[]);refine B _ _ (PO.keeps fun o v h=>by rw[(PH _ rfl).2.cell zp (PN _ rfl)];exact h) fun l=> ?_;clear B K;try simp only[Act.put,oa,ob,oc]
      refine jw ?_;go_wp2_with fail
      go_meet
      exact⟨_,(PH _ rfl).1,l⟩
     ·go_simp
      (try simp only[]);refine B _ _ (Qm.setCell (fun e=>PN _ rfl (.inl e.symm)) _) fun l=> ?_;clear B K;try simp only[Act.put,oa,ob,oc]
      refine dx rfl (by rfl) (fun K B=> ?_);go_simp
      (try simp only[]);refine B _ _ (PO.keeps fun o v h=>by rw[(PI _ rfl).2.cell zp (PN _ rfl)];exact h) fun l=> ?_;clear B K;try simp only[Act.put,oa,ob,oc]
      refine jw ?_;go_wp2_with fail
      go_meet
      exact⟨_,(PI _ rfl).1,l⟩
   case rest=>
    obtain⟨Q3,r,O⟩:=hcut;obtain⟨x0,x1,x2,x3,x4,x5,x6⟩:=O.out;have ow:=r.out.ow.cell;have PY:x∈TT:=by rw[hx.out];exact zm _
    obtain⟨Qo,Qa,Qb⟩:=hT.out x PY;rw[←d.out.1]at Qo;have Q7:=zh (sr q Q ⟨aw,H.length⟩ cw x 0 2 ax cx wc (by obtain⟨N,hN⟩:=s.out.2.2;have:=r.out;subst hN;exact dj.dw d.out.2 (PU.out.trans hq) this) Qo zo zo Qa Qb PM.out r.out.kw);clear PW PN PY Qo Qa Qb O;go_wp2_with fail
    refine Q7.out.mono ?_;rintro e6 w6 ⟨q6,au,cu,rfl,Qp,Q8,Q9,Q_⟩;have hA:=zh (qL (ms:= []) (am:=none) (cm:=0) (r.out.call Q_ Qp Q8) ⟨fun i hi=>absurd hi zs⟩ ⟨by simp,by simp⟩ (under x) au cu Q9 (by have:=s.out.1;simp;omega) (by have:=d.out.1;have:=s.out.2.1;omega) (by have:=s.out.2.1;omega));have P6:=zh (hq.trans Qp.le);clear Q7 r Qp Q8 Q9 Q_ x0 x1 x2 x3 x4 x5 x6 ow PM;go_wp2_with fail
    refine hA.out.mono ?_;rintro e7 w7 ⟨rfl,Ra,Rb,y,hy,I⟩;have I:=zh I;have Rc:Hid (fV D.len ds [] (TT.take (k+1)) (aL (G++ [(x,ax,cx)]++ [(dJ H.length,none,0)])) (cI (H++ [y]))):=by
     have ht:TT.take (k+1)=TT.take k++ [x]:=by rw[List.take_succ_eq_append_getElem PL.out,hx.out]
     have PY:x∈TT.take (k+1):=by rw[ht];simp
     have h2:=((Y.out.mono (T':=TT.take (k+1)) fun z hz=>by rw[ht];exact List.mem_append_left _ hz).one PY).decl (.inl ⟨x,PY,rfl⟩);rw[←hy]at h2;simpa [aL,cI,Hid]using h2
    clear hA Y hy;go_wp2_with fail
    go_roundw
    case rel=>exact⟨k+1,q6,Ra,Rb,_,H++ [y],by go_num,by omega,P6.out,I.out,Rc.out,by have:=s.out.1;simp;omega,by have:=s.out.2.1;simp;omega,by obtain⟨N,rfl⟩:=s.out.2.2;exact⟨N++ [y],List.append_assoc ..⟩⟩
    case measure=>simp[intOf];omega
  ·have PL:TT.take k=TT:=by rw[List.take_of_length_le (by rw[←X.out];omega)]
   rw[PL]at Y;replace Y:=zh Y;obtain⟨aw,cw,rfl⟩:=a_ r.out.rd;have ae:ai q Q (.mk 1 0 0 false ⟨#[]⟩ ⟨#[]⟩ [] []) none 0:=o8 1 0 ⟨#[]⟩ [] [] none zd zd zd zd aq.nil;obtain⟨qa,Re,Qq,Qr⟩:=aq.own r.out.kw ae;have Qs:=o8 3 H.length ⟨#[63]⟩ _ [] _ zd (by have:=s.out.2.1;omega) zd zs Qr;obtain⟨qb,Rg,Qt,Qu⟩:=aq.own Qq Qs;have P7:=o8 5 0 ⟨#[]⟩ _ [cC] _ zd zd zd zs Qu;obtain⟨qc,Qv,Qw,PZ⟩:=aq.own Qt P7;simp only[World.size_alloc,U.k,U.n,U.m,U.v,U.nm,U.tg,U.es,List.length_cons,List.length_nil,Nat.zero_add]at Qq Qt Qw Qr Qu PZ Qs P7;have Qx:=(Re.trans Rg zs).trans Qv zp
   have hA:=zh (show Xk 69 #[.agg #[.int .i64 5,.int .i64 0,.int .i64 0,.bool false,.string ⟨#[]⟩,.string ⟨#[]⟩,.slice (Xa (wr+1) 0) 1 1],Xp S,Xp w2,Xp w] _ _ from qL (ms:= []) (am:=none) (cm:=0) (r.out.call (((zB.alloc zl _).alloc zs _).alloc zp _) Qx Qw) ⟨fun i hi=>absurd hi zs⟩ ⟨by simp,by simp⟩ (ep H.length) _ _ (ai.sub Qv.le _ P7)
    (by have:=s.out.1;omega) (by have:=d.out.1;have:=s.out.2.1;omega) (by have:=s.out.2.1;omega))
   have ow:=r.out.ow.cell;have P6:=zh (hq.trans Qx.le);have PZ:=zh PZ;clear Re Qq Qr ae Qs Rg Qt Qu P7 Qv Qw Qx r PT;go_wp2_with fail
   refine hA.out.mono ?_;rintro e7 w7 ⟨rfl,Ra,Rb,y,hy,I⟩;obtain⟨a9,c9,h9,Qy⟩:=PZ.out.get 0 zs;have g:=h9.world I.kw;simp only[C7,List.getElem_cons_zero,Nat.zero_mul,Nat.zero_add,U.k,U.n,U.m,U.v,U.nm,U.tg,U.es,List.length_cons,List.length_nil]at g Qy;obtain⟨g0,g1,g2,g3,g4,g5,g6⟩:=g;obtain⟨qe,Qz,QA,hle⟩:=aq.own I.kw Qy;have QB:=o8 4 0 ⟨#[]⟩ _ [] _ zd zd zd zs hle;simp only[U.k,U.n,U.m,U.v,U.nm,U.tg,U.es,List.length_cons,List.length_nil,Nat.zero_add]at QA QB
   have hA2:=zh (show Xk 69 #[.agg #[.int .i64 4,.int .i64 0,.int .i64 0,.bool false,.string ⟨#[]⟩,.string ⟨#[]⟩,.slice (Xa w7 0) 1 1],Xp S,Xp w2,Xp w] _ _ from qL (ms:= []) (am:=none) (cm:=0) (I.call (zB.alloc zl _) Qz QA) ⟨fun i hi=>absurd hi zs⟩ ⟨by simp,by simp⟩ (jd (ep H.length)) _ _ QB
    (by have:=s.out.1;simp;omega) (by have:=d.out.1;have:=s.out.2.1;simp;omega) (by have:=s.out.2.1;simp;omega))
   have QC:=zh (P6.out.trans Qz.le);have hy:=zh hy;clear hA ow PZ h9 Qy Qz QA hle QB I P6;go_wp2_with fail
   refine hA2.out.mono ?_;rintro e8 w8 ⟨rfl,Ry,Rz,y8,Rh,P⟩;obtain⟨a8,c8,rfl⟩:=a_ P.rd;obtain⟨Ri,Rj,rfl⟩:=a_ P.rt;have hR:Hid (o_ p D ds TT w (.returned (.tuple #[.slice a8 (H++ [y]++ [y8]).length c8,.slice Ri (G++ [(dJ H.length,none,0)]++ [(dJ (H++ [y]).length,none,0)]).length Rj])) w8.drew):=by
    have QD:=P.below (zB.drew);refine⟨qe,Q,_,_,_,_,_,_,_,_,rfl,⟨by simp,by simp,by have:=s.out.2.1;simp;omega,by have:=s.out.1;simp;omega⟩,d.out.1,d.out.2.dx.up (PU.out.trans QC.out),?_,QD,?_⟩
    ·obtain⟨N,hN⟩:=s.out.2.2
     have e:H++ [y]++ [y8]=L++(N++ [y]++ [y8]):=by rw[hN];simp
     rw[e]at QD⊢;exact dj.dw d.out.2 (PU.out.trans QC.out) QD
    have hl:H.length≤1048576:=by have:=s.out.2.1;omega
    have h1:=Y.out.decl (.inr ⟨H.length,hl,.inl rfl⟩);rw[←hy.out]at h1;have h2:=h1.decl (.inr ⟨H.length,hl,.inr rfl⟩);rw[←Rh]at h2;simpa [aL,cI]using h2
   have ow:=P.ow.cell;have oo:=P.oo.cell;clear hA2 P Rh QC Y d s PU Z hT X Qj Qd PJ hy hq g0 g1 g2 g3 g4 g5 g6;generalize (H++ [y]++ [y8]).length=n8 at*;generalize (G++ [(dJ H.length,none,0)]++ [(dJ (H++ [y]).length,none,0)]).length=n10 at*;go_wp2_with fail
   refine oR (fun W=>Xc W w 0 (.slice a8 n8 c8)∧Xc W w2 0 (.slice Ri n10 Rj)) [(0,true),(1,true),(2,true),(3,true)] ⟨ow,oo⟩ (fun l=> ?_);generalize w8.drew=W8 at*;iterate 4 ((first|refine oS ?_|refine oF l ?_);try simp only[Act.put,oa,ob,oc])
   refine bZ ?_;go_wp2_with fail
   first|go_ret|go_ret2
   exact hR.out
end Go.Proofs.YtkochlhejabdcaaGreatDoor
namespace TS
open Go Go.RowKit Go.Proofs.YtkochlhejabdcaaGreatDoor
section
variable {D:Dl} {T:List U} {NS:List (List UInt8)} {i:Nat}
structure Gd(D:Dl)(T:List U)(NS:List (List UInt8))(i:Nat)(x:U):Prop where
 mo:Mo D.len T NS i x 0 2
 val:aM x
 no:isIface x=false
def PV(D:Dl)(NS:List (List UInt8))(y:U):Prop:=Vt D.len y∧Names NS y
theorem FK(E:Env D T NS i):∀(u:U){pos f:Nat}{g:Bool},Mo D.len T NS i u pos f→f≠0→u.k≠12→u.k≠13→mt T .type u g=true→(isIface u=true∨g=false∧f=2)→eP (PV D NS) (fun l=> ∀m∈l,PV D NS m) u∧∀x∈a7 u,Gd D T NS i x:=by
 intro u;induction u using U.bc with
 |_ u ih=>
  intro pos f g h v d j hm L;cases hi:isIface u with
  |false=>
   rw[hi]at L;obtain⟨rfl,rfl⟩:=L.resolve_left zs;have w:=h.oZ E d j hm;have F:=h.bare d j;have z:=w.bare h.pl;obtain⟨_,M,G,_⟩:=h.pl.bare h.f2 d j;have H:isIface (bare u)=false:=by rw[←hi];unfold isIface under;rw[bR M G]
   rw[eP,ue d j hi];exact⟨⟨fun k=>absurd k d,fun k=>absurd k j,fun _ _ _=>⟨F.vt z,F.aI⟩,fun _ _ o=>(by unfold isIface at hi;rw[o]at hi;cases hi)⟩,fun x p=>by
    obtain rfl:x=bare u:=by simpa using p
    exact⟨F,z,H⟩⟩
  |true=>
   by_cases o:(under u).k=10
   ·have A:∀y,y.sz<u.sz→∀pos,Mo D.len T NS i y pos 2→y.k≠12→mt T .term y false=true→eP (PV D NS) (fun l=> ∀m∈l,PV D NS m) y∧∀x∈a7 y,Gd D T NS i x:=fun y N pos q s t=>by
     by_cases n:y.k=13
     ·have C:=q.aH s
      have I:=lI q.pl n t;have w:=q.m_ E s t I.1;obtain⟨e,he⟩:=cL (q.pl.form.gM n);have J:=hZ n he;rw[eP,ud n he];refine⟨⟨fun k=>absurd k s,fun _=>⟨C.vt w,C.aI⟩,fun _ k=>absurd n k,fun _ k=>absurd n k⟩,fun x p=> ?_⟩;obtain rfl:x=e:=by simpa using p
      rw[J]at C w I;exact⟨C,w,I.1⟩
     ·rw[gK n]at t
      refine ih y N q zo s n t ?_;cases O:isIface y
      ·exact .inr ⟨rfl,rfl⟩
      ·exact .inl rfl
    have B:∀e∈(under u).es.drop (under u).m.toNat,eP (PV D NS) (fun l=> ∀m∈l,PV D NS m) e∧∀x∈a7 e,Gd D T NS i x:=fun e he=>by
     obtain⟨h1,R,P⟩:=rF E u h v d j hm o e he;have Q:=U.ar (List.mem_of_mem_drop he);have hle:=dp u;have hT:=fun y q=>kC h1 P (y:=y) q;by_cases r:e.k=12
     ·rw[if_pos r]at hT
      have q:=fun y (q:y∈e.es)=>let⟨pos,a,b,c⟩:=hT y q;A y (by have:=U.ar q;omega) pos a b c;rw[eP,t_ r fun x p=>let⟨_,_,b,_⟩:=hT x p;b];refine⟨⟨fun _ y h=>(q y h).1,fun k=>by omega,fun k=>absurd r k,fun k=>absurd r k⟩,fun x p=> ?_⟩;obtain⟨y,h,p⟩:=List.mem_flatMap.1 p;exact(q y h).2 x p
     ·rw[if_neg r]at hT
      obtain⟨pos,a,b,c⟩:=hT e zs;exact A e zo pos a b c
    rw[eP,qz d j o];refine⟨⟨fun k=>absurd k d,fun k=>absurd k j,fun _ _ k=>(by rw[hi]at k;cases k),fun _ _ _=>⟨fun m K=> ?_,fun e he=>(B e he).1⟩⟩,fun x p=> ?_⟩
    ·have hr:m∈an u:=by rw[gJ o];exact lT.2 (rI K)
     exact⟨(Fo E h v d j hm m hr).1,(h.aI.cy m hr).2⟩
    ·obtain⟨e,he,p⟩:=List.mem_flatMap.1 p
     exact(B e he).2 x p
   ·rw[eP,ug d j hi o]
    exact⟨⟨fun k=>absurd k d,fun k=>absurd k j,fun _ _ k=>(by rw[hi]at k;cases k),fun _ _ k=>absurd k o⟩,fun x p=>by cases p⟩
end
end TS
namespace TS
open Go Go.RowKit Go.Proofs.YtkochlhejabdcaaGreatDoor Go.Proofs.Tryz
section
variable {C:BC} {p q r:Pm} {g g1 g2:Ge} {mv mv1:Value} {ms ms1 ms2:List Nat} {w w1 w2:World}
theorem G4(g:Ge){c b:Nat}(h:c≤b):aK (g.below c) (g.below b):=
 ⟨rfl,rfl,rfl,rfl,rfl,rfl,rfl,rfl,fun x u k=>by
  simp only[Ge.below]at k⊢;split at k
  ·rw[if_pos zo];exact k
  ·cases k⟩
theorem G5{g:Ge}{b c:Nat}{u:U}(h:(g.below b).G c=some u):c<b∧g.G c=some u:=by
 simp only[Ge.below]at h;split at h
 ·exact⟨‹_›,h⟩
 ·cases h
theorem BS.G6(h:BS C p g mv ms w)(b:Nat)(e:∀c u,g.G c=some u→c<b→cS p (g.below c) c u):aA p (g.below b) w:=
 ⟨h.wb.kw,h.wb.pl,⟨h.inj.nb,h.inj.ob,h.inj.ne,h.inj.nc,h.inj.ec,h.inj.oe,h.inj.oc,h.inj.ac⟩,h.wb.cap,fun c u k=>
  let⟨a,d⟩:=G5 k
  ⟨(h.ifs c u d).2.1,(e c u d a).sub (Sub.refl p) (G4 g (Nat.le_of_lt a))⟩,h.po,h.cY,h.cZ⟩
def iw(p q:Pm)(w:World)(X:Nat→Prop):Prop:=Sub p q∧∀c o v,q c o=some v→p c o=some v∨w.heap.size≤c∨(X c∧o=6)
theorem iw.refl(p:Pm)(w:World)(X:Nat→Prop):iw p p w X:=⟨Sub.refl p,fun _ _ _ h=> .inl h⟩
theorem iw.trans{X:Nat→Prop}(h:iw p q w X)(k:iw q r w1 X)(a:w.heap.size≤w1.heap.size):iw p r w X:=
 ⟨h.1.trans k.1,fun c o v e=>by
  rcases k.2 c o v e with e|e|e
  ·exact h.2 c o v e
  ·exact .inr (.inl zo)
  ·exact .inr (.inr e)⟩
theorem BS.G7(h:BS C p g mv ms w){b:Nat}{u:U}(E:g.G b=some u)(d:Sub p q)(z:∀c o v,q c o=some v→p c o=some v∨w.heap.size≤c∨(c=b∧o=6))(B:aA q (g.below b) w1)(hT:cS q (g.below b) b u)(j:Kept (fun c=>c=b) w w1):BS C q g mv ms w1:=by
 have hi:=h.ifs b u E;have F:=h.lp _ _ _ hi.2.1;have l:=zb h.c0;simp only at l;have s:C.bb≠b:=fun e=>by have:=h.pb 0;rw[e,hi.2.1]at this;cases this
 have t:mv.ownBlock≠some b:=fun e=>by have:=(h.rd _ e).2 0;rw[hi.2.1]at this;cases this
 have a:∀o,w1.cell? (Xa C.bb o)=w.cell? (Xa C.bb o):=fun o=>j.cell l s;have f:∀c o,c<w.heap.size→¬(c=b∧o=6)→p c o=none→q c o=none:=fun c o h1 m y=>by
  cases H:q c o with
  |none=>rfl
  |some v=>
   rcases z _ _ _ H with e|e|e
   ·rw[y]at e;cases e
   ·omega
   ·exact absurd e m
 refine⟨h.ka.kept j fun c o v e L=>by have:=h.la _ _ _ e;omega,h.la,⟨B.kw,B.pl,B.cap⟩,fun c o v e=> ?_,h.inj,h.gv,h.bl,fun o=>f _ _ l zo (h.pb o),by rw[a];exact h.c0,?_,by rw[a];exact h.c2,by rw[a];exact h.c3,by rw[a];exact h.c4,?_,dY h.row j fun c e I=>t (by rw[e];exact congrArg some I),fun c e=>⟨(h.rd c e).1,fun o=>f _ _ (h.row.lt _ e).2 (fun k=>t (k.1▸e)) ((h.rd c e).2 o)⟩,h.ord,fun c e=>⟨Nat.lt_of_lt_of_le (h.mlt c e).1 j.size,(h.mlt c e).2⟩,fun c J e=> ?_,h.len,fun i hi=>d _ _ _ (h.nm i hi),fun i hi=>let⟨o,v,e⟩:=h.po i hi;⟨o,v,d _ _ _ e⟩,let⟨o,v,e⟩:=h.cY;⟨o,v,d _ _ _ e⟩,let⟨o,v,e⟩:=h.cZ;⟨o,v,d _ _ _ e⟩,?_,?_,?_⟩
 ·rcases z _ _ _ e with e|e|e
  ·exact h.lp _ _ _ e
  ·have:=h.bl;omega
  ·omega
 ·obtain⟨h1,m⟩:=h.c1
  exact⟨by rw[a];exact h1,m.sub d⟩
 ·rw[j.frozen l s];exact h.f4
 ·by_cases D:c=b
  ·subst D
   rw[E]at e;cases e;exact⟨Nat.lt_of_lt_of_le hi.1 j.size,d _ _ _ hi.2.1,d _ _ _ hi.2.2.1,.inl hT⟩
  ·have A:=h.ifs c J e
   exact A.mono d (aK.refl g) (fun _ h=>h) j.size (j.cell A.1 D) (j.frozen A.1 D) fun K=>f _ _ A.1 zo K
 ·obtain⟨h1,x,m,y⟩:=h.err
  exact⟨d _ _ _ h1,x,m.sub d,y.sub d (aK.refl g)⟩
 ·obtain⟨h1,x,m,y⟩:=h.cmp
  exact⟨d _ _ _ h1,x,m.sub d,y⟩
 ·intro n z hi
  obtain⟨x,h1,m⟩:=h.tn n z hi;exact⟨x,h1.sub d,m.sub d (aK.refl g)⟩
def np(C:BC)(p:Pm)(g:Ge)(mv:Value)(ms:List Nat)(w:World)(q:Pm)(a:World):Prop:=
 BS C q g mv ms a∧iw p q w (fun c=>c∈ms)∧Kept (fun c=>c∈ms) w a
end
end TS
namespace Go.Proofs.YtkochlhejabdcaaGreatDoor
open Go.RowKit TS Tryz
theorem G8(C:BC)(p:Pm)(g:Ge)(mv:Value)(ms:List Nat)(w:World)(b:Nat)(u:U)(a:BS C p g mv ms w)(f:g.G b=some u)(hm:b∈ms)(h:∀c u,g.G c=some u→c<b→cS p (g.below c) c u):
 Xk 113 #[Xp b] w fun e E=>e= .returned (Xp b)∧∃q,np C p g mv ms w q E∧cS q (g.below b) b u:=by
 have hi:=a.ifs b u f;have z0:=a.wb.kw _ _ _ hi.2.1;have z5:=a.wb.kw _ _ _ hi.2.2.1;obtain⟨F,H,J,hT|⟨_,A,hF,i,j,f6⟩⟩:=hi
 ·obtain⟨tb,k⟩:∃tb,p b 6=some (ptr tb):=by obtain⟨tb,_,_,_,_,_,_,_,k,_⟩:=hT;exact⟨tb,k⟩
  have j:=a.wb.kw _ _ _ k;have d:Hid (np C p g mv ms w p w∧cS p (g.below b) b u):=⟨⟨a,iw.refl _ _ _,Kept.refl _ _⟩,hT⟩
  have l:=zh (jD b tb w z0 j);clear a hT h;go_enter func113,ntmps113;go_wp2_with fail
  refine l.out.mono ?_;rintro e w1 ⟨rfl,rfl⟩;go_wp2_with fail
  go_ret;exact⟨rfl,p,d.out⟩
 ·have m:5<b:=by have:=a.gv;have:=a.lp _ _ _ H;omega
  have I:Hid (∀n pos,Xk 94 #[.pointer n,.int .i64 pos,Xp b] w (jJ p (g.below b) b u w)):=fun n pos=>xi C.D.len p (g.below b) b u n pos w (a.G6 b h) A hF j f6 i m;have s:=zh a;have t:=zh f;clear a A hF h f;go_enter func113,ntmps113;go_wp2_with fail
  go_enter func53,ntmps53;go_wp2_with fail
  refine(I.out _ _).mono ?_;rintro e w1 ⟨q,tb,rfl,x,y,B,hT,z⟩;have d:Hid (∃q,np C p g mv ms w q w1∧cS q (g.below b) b u):=⟨q,⟨s.out.G7 t.out x y B hT z,⟨x,fun c o v e=>(y c o v e).imp id fun e=>Or.imp id (fun(e:c=b∧o=6)=>⟨by rw[e.1];exact hm,e.2⟩) e⟩,z.mono fun c _ e=>e▸hm⟩,hT⟩
  clear B hT z x y;go_wp2_with fail
  go_ret;go_wp2_with fail
  exact d.out
theorem _root_.TS.BS.G9{C:BC}{q:Pm}{g:Ge}{mv:Value}{ms:List Nat}{w:World}(h:BS C q g mv ms w)(i:∀b u,g.G b=some u→cS q (g.below b) b u):BS C q g (.slice none 0 0) [] (w.setCell (Xa C.bb 4) (.slice none 0 0)):=by
 have f:Kept (fun c=>c=C.bb) w (w.setCell (Xa C.bb 4) (.slice none 0 0)):=Kept.setCell (X:=fun c=>c=C.bb) (Kept.refl _ _) (fun _=>rfl) _;have a:∀o,o≠4→(w.setCell (Xa C.bb 4) (.slice none 0 0)).cell? (Xa C.bb o)=w.cell? (Xa C.bb o):=fun o j=>World.cell?_setCell_other _ _ _ _ (fun e=>j (congrArg Addr.off e).symm);refine⟨h.ka.kept f fun c o v e l=>by have:=h.la _ _ _ e;have:=h.bl;omega,h.la,h.wb.setCell _ (h.pb 4) (by have:=h.gv;have:=h.bl;omega),h.lp,h.inj,h.gv,h.bl,h.pb,by rw[a 0 zd];exact h.c0,?_,by rw[a 2 zd];exact h.c2,by rw[a 3 zd];exact h.c3,World.cell?_setCell_same _ _ _ h.c4,by rw[World.frozen?_setCell];exact h.f4,World.ownsRow_nil _ _ _ _,fun b e=>(by cases e),List.Pairwise.nil,fun b e=>(by cases e),fun b u e=> ?_,h.len,h.nm,h.po,h.cY,h.cZ,h.err,h.cmp,h.tn⟩
 ·obtain⟨h1,d⟩:=h.c1
  exact⟨by rw[a 1 zd];exact h1,d⟩
 ·obtain⟨h1,d,k,_⟩:=h.ifs b u e
  exact⟨Nat.lt_of_lt_of_le h1 f.size,d,k,.inl (i b u e)⟩
theorem xI(C:BC)(p:Pm)(g:Ge)(mv:Value)(ms:List Nat)(w:World)(v:BS C p g mv ms w)(Q:ms.length≤1099511627776):
 Xk 52 #[Xp C.bb] w fun e H=>e= .returned (.tuple #[])∧∃q,BS C q g (.slice none 0 0) [] H∧iw p q w (fun c=>c∈ms)∧Kept (fun c=>c=C.bb∨c∈ms) w H:=by
 obtain⟨R,I,rfl⟩:=a_ v.row;have z4:=v.c4;have x:=zh v;clear v;go_enter func52,ntmps52;go_wp2_with fail
 go_loopw [9] (fun y wr=> ∃(k:Nat)(q:Pm),k≤ms.length∧y= .int .i64 k∧np C p g (.slice R ms.length I) ms w q wr∧∀i,i<k→∀b u,ms[i]?=some b→g.G b=some u→cS q (g.below b) b u) (fun y _=>ms.length- (intOf y).toNat)
 case atStart=>exact⟨0,p,Nat.zero_le _,rfl,⟨x.out,iw.refl _ _ _,Kept.refl _ _⟩,fun i hi=>absurd hi (Nat.not_lt_zero _)⟩
 case round=>
  obtain⟨k,q,hk,rfl,z,J⟩:=hrel;have a:=zh z;have l:=zh J;have K:=z.1.c4;clear z J;by_cases s:k<ms.length
  ·have L:(k:Int)<ms.length:=zo
   obtain⟨M,cap,S,_,T,N,_⟩:=gZ a.out.1.row zo;cases S;obtain⟨b,d⟩:∃b,ms[k]?=some b:=⟨_,List.getElem?_eq_getElem s⟩
   have A:Xc wr M k (Xp b):=by rw[a.out.1.row.cellAt k zo];simp[d]
   have B:=(List.getElem?_eq_some_iff.1 d).2;obtain⟨_,u,hu⟩:=a.out.1.mlt b (List.mem_of_getElem? d);have U:=zh (G8 C q g _ ms wr b u a.out.1 hu (List.mem_of_getElem? d) fun c O o V=>by
    rcases(a.out.1.ifs c O o).2.2.2 with h|⟨hm,_⟩
    ·exact h
    ·obtain⟨i,hi,rfl⟩:=List.getElem_of_mem hm
     have D:i<k:=by
      rcases Nat.lt_trichotomy i k with h|h|h
      ·exact h
      ·subst h;omega
      ·have:=List.pairwise_iff_getElem.1 a.out.1.ord k i s hi h;omega
     exact l.out i D _ O (List.getElem?_eq_getElem hi) o)
   have E:=zh hu;have m:=zh d;clear hu B;go_wp2_with fail
   rw[(List.getElem?_eq_some_iff.1 m.out).2];refine U.out.mono ?_;rintro e w1 ⟨rfl,F,f,t⟩;have j:Hid (np C p g (.slice (Xa M 0) ms.length I) ms w F w1∧∀i,i<k+1→∀b u,ms[i]?=some b→g.G b=some u→cS F (g.below b) b u):=by
    refine⟨⟨f.1,a.out.2.1.trans f.2.1 a.out.2.2.size,a.out.2.2.trans f.2.2 fun _ _ h=>h⟩,fun i hi c u2 o n=> ?_⟩;by_cases e:i=k
    ·subst e
     rw[m.out]at o;cases o;rw[E.out]at n;cases n;exact t
    ·exact(l.out i zo c u2 o n).sub f.2.1.1 (aK.refl _)
   clear f t;go_wp2_with fail
   exact⟨⟨k+1,F,by omega,by go_num,j.out⟩,by first|omega|(simp[intOf];omega)⟩
  ·have W:¬(k:Int)<ms.length:=zo
   have j:Hid (∃q,BS C q g (.slice none 0 0) [] (wr.setCell (Xa C.bb 4) (.slice none 0 0))∧iw p q w (fun c=>c∈ms)∧Kept (fun c=>c=C.bb∨c∈ms) w (wr.setCell (Xa C.bb 4) (.slice none 0 0))):=by
    refine⟨q,a.out.1.G9 fun b u P=> ?_,a.out.2.1,(a.out.2.2.mono fun c _ e=> .inr e).setCell (fun _=> .inl rfl) _⟩;rcases(a.out.1.ifs b u P).2.2.2 with h|⟨hm,_⟩
    ·exact h
    ·obtain⟨i,hi,rfl⟩:=List.getElem_of_mem hm
     exact l.out i zo _ u (List.getElem?_eq_getElem hi) P
   have f4:=a.out.1.f4;clear a l;go_wp2_with fail
   go_end0
   exact⟨rfl,j.out⟩
end Go.Proofs.YtkochlhejabdcaaGreatDoor
namespace TS
open Go Go.RowKit Go.Proofs.YtkochlhejabdcaaGreatDoor Go.Proofs.Tryz
def xJ(C:BC)(u:U)(p:Pm)(g:Ge)(w:World)(x:Value)(q:Pm)(a:Ge)(b:World):Prop:=
 Node q a u x∧BS C q a (.slice none 0 0) [] b∧Sub p q∧aK g a∧Kept (fun c=>C.B0≤c) w b
end TS
namespace Go.Proofs.YtkochlhejabdcaaGreatDoor
open Go.RowKit TS Tryz
theorem G_(C:BC)(u:U)(hT:bX C u)(p:Pm)(g:Ge)(mv:Value)(ms:List Nat)(a:Option Addr)(c:Nat)(w:World)(v:BS C p g mv ms w)(y:ms.length+cn u≤1099511627776)(hu:ai C.pa C.D u a c):
 Xk 34 #[Xp C.bb,Xt u a c] w fun e J=> ∃x q t,e= .returned x∧xJ C u p g w x q t J:=by
 have h:Below w w (w.alloc (Xt u a c)):=zB.alloc zl _;have H:=zh (hT p g mv ms a c _ (v.below h) y hu);have k:=zh h;have i:=zh v;clear hu v h hT;go_enter func34,ntmps34;go_wp2_with fail
 refine H.out.mono ?_;rintro Q K ⟨x,q,t,z,l,rfl,A,d,m,B,L,M⟩;have I:=zh (xI C q t z l K d zo);obtain⟨N,O,rfl⟩:=A.val;have E:Hid (∀b,b∈l→C.B0≤b):=fun b F=>by
  obtain⟨_,u,hu⟩:=d.mlt b F;exact d.lp _ _ _ (d.ifs b u hu).2.1
 have G:=zh A;have f:=zh m;clear A m B L H d;go_wp2_with fail
 refine I.out.mono ?_;rintro R P ⟨rfl,r,n,j,o⟩;have s:Hid (xJ C u p g w (ah N O) r t P):=by
  refine⟨G.out.sub j.1 (aK.refl _),n,f.out.gr.le.trans j.1,f.out.gs,?_⟩;refine(((Kept.of (X:=fun c=>C.B0≤c) k.out).trans f.out.kept fun b F e=> ?_).trans o fun b F e=> ?_)
  ·rcases e with e|e
   ·have:=i.out.bl;omega
   ·exact(i.out.ib (.inr e)).1
  ·rcases e with e|e
   ·have:=i.out.bl;omega
   ·exact E.out b e
 clear n j o I;go_wp2_with fail
 go_ret;exact⟨_,_,_,rfl,s.out⟩
def fu(u:U):U:=if(under u).k=16 then dB else under u
theorem lB(b:Nat)(W:World):(Instr.typeAssert (Xi 37 b) 49 37 true).run Tryz.prog W= .ok (.tuple #[Xp b,.bool true]) W:=zk
theorem Ha(C:BC)(u:U)(hT:bX C u)(hi:isIface u=true)(A:bare (bare u)=bare u)(S:(bare u).k=11→∃y,(bare u).un= [y]∧y.k≠16)(B:(bare u).k≠12)(E:(bare u).k≠13)(T:(under u).k=10→under (under u)=under u)(p:Pm)(g:Ge)(mv:Value)(ms:List Nat)(a:Option Addr)(c:Nat)(w:World)(M:BS C p g mv ms w)(F:ms.length+cn u≤1099511627776)(hu:ai C.pa C.D u a c):
 Xk 20 #[Xp C.bb,Xt u a c] w fun e H=> ∃b q f,e= .returned (Xp b)∧f.G b=some (fu u)∧BS C q f (.slice none 0 0) [] H∧Sub p q∧aK g f∧Kept (fun c=>C.B0≤c) w H:=by
 have j:Below w w (w.alloc (Xt u a c)):=zB.alloc zl _;have N:=zh (G_ C u hT p g mv ms a c _ (M.below j) F hu);have m:=zh j;clear hu M j hT;go_enter func20,ntmps20;go_wp2_with fail
 refine N.out.mono ?_;rintro e1 I ⟨x,q,f,rfl,O,l,n,o,r⟩;obtain⟨t,b,rt,z,rfl,P,hr⟩:=jE O A S B E;obtain⟨J,Q⟩:rt=37∧f.G z=some (fu u):=by
  unfold isIface at hi;simp only[Bool.or_eq_true,beq_iff_eq]at hi;rcases hr with⟨i,L⟩|⟨i,h1,V⟩
  ·have W:(under u).k=10:=hi.resolve_right i
   cases L with
   |iface _ h=>exact⟨rfl,by rw[fu,if_neg i];exact h⟩
   |_=>omega
  ·exact⟨h1,by rw[fu,if_pos i];exact V⟩
 subst J;obtain⟨K,fn,c',s,d,R,hm,X,Y⟩:=P I l.wb.kw;have Z:=fun args w=>Go.MuLone.run_callFunc_enter s d R args w;have v:Hid (f.G z=some (fu u)∧BS C q f (.slice none 0 0) [] I∧Sub p q∧aK g f∧Kept (fun c=>C.B0≤c) w I):=⟨Q,l,n,o,(Kept.of m.out).trans r fun _ _ h=>h⟩
 have PG:=lB z;clear s d R O l n o r P hr Q N;go_wp2_with fail
 refine Y.mono ?_;rintro e H ⟨rfl,rfl⟩;go_wp2_with fail
 go_ret;exact⟨z,q,f,rfl,v.out⟩
end Go.Proofs.YtkochlhejabdcaaGreatDoor
