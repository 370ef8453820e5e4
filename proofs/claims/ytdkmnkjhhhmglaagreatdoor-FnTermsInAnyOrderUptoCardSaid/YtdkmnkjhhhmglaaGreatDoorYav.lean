import Derived.Test.YtdkmnkjhhhmglaaGreatDoorYas
import Derived.Test.YtdkmnkjhhhmglaaGreatDoorYat
import Derived.Test.YtdkmnkjhhhmglaaGreatDoorYau
set_option maxRecDepth 100000
set_option maxHeartbeats 8000000
set_option linter.all false
namespace TS
open Go Go.RowKit
structure Env(D:Dl)(T:List U)(NS:List (List UInt8))(i:Nat):Prop where
 len:T.length=D.len
 ok:∀t∈T,l_ D.len t
 bp:∀j(h:j<T.length),bh T j 1 T[j]
 mt:∀j(h:j<T.length),j<i→mt T .type T[j] true=true
 aG:∀t∈T,Names NS t
 dm:NS.length≤1048576
def eV(p:Pm)(D:Dl)(T:List U):Prop:=∀n(h:n<T.length),∃b d,D.a=some ⟨b,d,none⟩∧∃a c,dr p b (d+n*8) T[n] a c∧ak p D T[n] a c
theorem eV.sub{p q:Pm}{D:Dl}{T:List U}(h:eV p D T)(hk:Sub p q):eV q D T:=fun n b=>let⟨g,d,e,a,c,h7,hu⟩:=h n b;⟨g,d,e,a,c,h7.sub hk,ak.sub hk _ hu⟩
structure cF(D:Dl)(T:List U)(NS:List (List UInt8))(i:Nat)(u:U)(pos f:Nat):Prop where
 pl:Pl D.len u pos f
 f2:f≤2
 bp:bh T i f u
 aG:Names NS u
 dep:u.dep≤1125899906842624
section
variable {D:Dl} {T:List U} {NS:List (List UInt8)} {i:Nat} {u:U} {pos f:Nat}
theorem cF.part(h:cF D T NS i u pos f)(j:Nat)(a:j<u.es.length):cF D T NS i u.es[j] (aV u j) (aN u j f):=
 ⟨h.pl.part j a,fD,h.bp.part j a,(h.aG.es (List.getElem_mem a)).2,by have:=U.mD (List.getElem_mem a);have:=h.dep;omega⟩
theorem cF.ot(h:cF D T NS i u pos f)(b:u.k≠10)(a:u.k≠12)(j:Nat)(c:j<u.es.length):cF D T NS i u.es[j] 0 (aN u j f):=by
 have:=h.part j c;rwa [show aV u j=0 by unfold aV;rw[if_neg a,if_neg (by omega)]]at this
theorem cF.elem(h:cF D T NS i u pos f)(a:u.k=10){e:U}(he:e∈u.es.drop u.m.toNat):cF D T NS i e 2 2:=by
 obtain⟨j,c,b,rfl⟩:=qg he;have:=h.part j c;rw[show aV u j=2 by unfold aV;rw[if_neg (by omega),if_pos ⟨a,b⟩]]at this;rwa [show aN u j f=2 by unfold aN;split;rfl;rw[if_pos ⟨a,b⟩]]at this
theorem cF.ju(h:cF D T NS i u pos f)(a:u.k=10){e:U}(he:e∈u.es.take u.m.toNat):∃b,cF D T NS i e 0 b:=by
 obtain⟨j,c,d,rfl⟩:=tH he;have:=h.part j c;rw[show aV u j=0 by unfold aV;rw[if_neg (by omega),if_neg (by omega)]]at this;exact⟨_,this⟩
theorem cF.union(h:cF D T NS i u pos f)(a:u.k=12){e:U}(he:e∈u.es):∃b,cF D T NS i e 1 b∧(f=2→b=2):=by
 obtain⟨j,c,rfl⟩:=List.getElem_of_mem he;have:=h.part j c;rw[show aV u j=1 by unfold aV;rw[if_pos a]]at this;exact⟨_,this,fun d=>by unfold aN;rw[if_pos d]⟩
end
theorem bh.bare{len:Nat}{T:List U}{i:Nat}:∀{u:U}{pos f:Nat},Pl len u pos f→f≤2→u.k≠12→u.k≠13→bh T i f u→bh T i f (TS.bare u):=by
 intro u;induction u using U.bg with
 |_ u ih=>
  intro pos f g j d n l;by_cases h2:u.k=2
  ·obtain⟨e,he⟩:=dD (g.form.fS h2)
   have m:0<u.es.length:=by rw[he];simp
   have o:u.es[0]=e:=by simp[he]
   have a:=g.jt (by omega) d 0 m;have b:=l.part 0 m;rw[o,ij j (.inl h2)]at a b;rw[kb h2 he];exact ih e (U.az (by rw[he];simp)) a j a.form.aE.1 a.form.aE.2 b
  ·by_cases c:u.k=14
   ·rw[gq c]
    exact tC rfl (by decide) (fun h=>by simp[bt,U.k]at h)
   ·rw[cu h2 c];exact l
theorem qF{D:Dl}{T:List U}{NS:List (List UInt8)}{i:Nat}(E:Env D T NS i){u:U}{pos f:Nat}(h:cF D T NS i u pos f)(l:f≠0)(b:u.k≠12)(c:u.k≠13)(hm:mt T .type u false=true)(hi:isIface u=false):
 aR u∧aR (under u):=by
 have o:=(ki E.ok E.bp E.mt u pos f false i (Nat.le_refl _) h.bp h.pl h.f2 b c hm).2 (me u pos f h.bp h.pl h.f2 b c hm);refine⟨o,?_⟩;have m:=o.bare h.pl;have g:=h.bp.bare h.pl h.f2 b c;unfold isIface at hi;simp only[Bool.or_eq_false_iff,beq_eq_false_iff_ne,ne_eq]at hi;by_cases d:(bare u).k=11
 ·have p:=g.named d
  rw[if_neg l]at p;obtain⟨h1,h2,h3⟩:=p;have hu:=jn d h3;rw[hu]at hi⊢;have a:=E.ok _ (List.getElem_mem h1);have j:under T[(bare u).n.toNat]=T[(bare u).n.toNat]:=cQ a.kZ (by have:=a.hi;omega) (by have:=a.hi;omega) (by have:=a.hi;omega);refine(ki E.ok E.bp E.mt _ 0 1 true i (Nat.le_refl _) ((E.bp _ h1).mono (by omega)) a.pl (by omega) (by have:=a.hi;omega) (by have:=a.hi;omega) (E.mt _ h1 h2)).2 ?_;rw[gw (by rw[j];exact hi.1),j];simp[hi.2]
 ·by_cases e:(bare u).k=15
  ·rw[jo e (g.err e)]at hi
   exact absurd rfl hi.1
  ·rw[ik d e];exact m
theorem uu{D:Dl}{T:List U}{NS:List (List UInt8)}{i:Nat}(E:Env D T NS i){x:U}{pos:Nat}{g:Bool}(h:cF D T NS i x pos 2)(b:x.k≠12)(hm:mt T .term x g=true)(hi:isIface (aC x)=false):
 aR (aC x)∧aR (under (aC x)):=by
 by_cases a:x.k=13
 ·have h1:=h.pl.form.iW a
  obtain⟨e,he⟩:=dD h1;have d:=h.ot (by omega) b 0 (by omega);have j:x.es[0]'(by omega)=e:=by simp[he]
  rw[j,show aN x 0 2=2 by unfold aN;rw[if_pos rfl]]at d;rw[lZ a,he]at hm;have c:(mt T .type e false=true∧isIface e=false)∧aB e (under e)=true:=by simpa using hm
  rw[iV a he];exact qF E d (by omega) d.pl.form.aE.1 d.pl.form.aE.2 c.1.1 c.1.2
 ·rw[dY a]at hi⊢
  rw[fF a,hi]at hm;exact qF E h (by omega) b a hm hi
theorem Av{p:Pm}{D:Dl}{T:List U}{u:U}{a:Option Addr}{c:Nat}(hT:eV p D T)(hu:ak p D u a c):ak p D (du T u) a c:=by
 unfold du;split
 ·rename_i hk
  cases u with
  |mk k n m v nm tg es un=>
   simp only[pZ,ak,U.n]at hu⊢;refine⟨hu.1,hu.2.1,fun h1 h2 h3=> ?_⟩;obtain⟨l,d,e,_⟩:=hu.2.2 h1 h2 h3;refine⟨l,d,e,?_⟩;cases o:T[n.toNat]? with
   |none=>simp only[Option.toList_none,fi]
   |some t=>
    obtain⟨g,h⟩:=List.getElem?_eq_some_iff.1 o;obtain⟨q,d',j,a',c',h7,b⟩:=hT n.toNat g;rw[e]at j;simp only[Option.some.injEq,Addr.mk.injEq]at j;obtain⟨rfl,rfl,_⟩:=j;simp only[Option.toList_some,fi];rw[h]at h7 b;exact⟨a',c',h7,b⟩
 ·exact hu
theorem uv(T:List U)(u:U):(du T u).k=u.k∧(du T u).n=u.n∧(du T u).m=u.m∧(du T u).v=u.v∧(du T u).nm=u.nm∧(du T u).tg=u.tg∧(du T u).es=u.es:=by
 unfold du;split
 ·cases u;exact⟨rfl,rfl,rfl,rfl,rfl,rfl,rfl⟩
 ·exact⟨rfl,rfl,rfl,rfl,rfl,rfl,rfl⟩
theorem cF.du{D:Dl}{T:List U}{NS:List (List UInt8)}{i:Nat}(E:Env D T NS i){u:U}{pos f:Nat}(h:cF D T NS i u pos f)(q:u.k≠10)(h2:u.k≠2)(r:u.k≠12)(s:u.k≠13):
 u.k=11→Pl D.len (TS.du T u) 0 1:=fun a=>by
 obtain⟨⟨d,g⟩,c,_,_⟩:=h.pl.form.kV a;obtain⟨t,m,v,w,x,y,o⟩:=uv T u;have l:u.n.toNat<T.length:=by have:=E.len;omega
 have b:(TS.du T u).un= [T[u.n.toNat]]:=by
  unfold TS.du;rw[if_pos a,List.getElem?_eq_getElem l];cases u;rfl
 refine fU (.named (by rw[t];exact a) (by rw[m];exact d) (by rw[m];exact g) (by rw[o];exact c) (by rw[b];simp) (fun _=>by rw[b];simp)) (fun j p=>by rw[o,c]at p;simp at p) fun _ e he=> ?_;rw[b]at he;simp only[List.mem_singleton]at he;have:=E.ok e (by rw[he];exact List.getElem_mem _);exact⟨⟨this.lo,this.hi,this.kZ⟩,this.pl⟩
structure Ge where
 nb:Nat→Nat
 ob:Nat→Nat
 len:Nat
 eb:Nat
 eo:Nat
 cb:Nat
 co:Nat
 pk:Nat
 G:Nat→Option U
def dN:U:= .mk 16 0 0 false ByteArray.empty ByteArray.empty [] []
abbrev ptr(b:Nat):Value:= .pointer (some ⟨b,0,none⟩)
abbrev ae(t b:Nat):Value:= .iface t (.pointer (some ⟨b,0,none⟩))
def b9(p:Pm)(a:Option Addr)(n:Nat)(f:Nat→Value):Prop:=∀i,i<n→∃b o,a=some ⟨b,o,none⟩∧p b (o+i)=some (f i)
theorem b9.sub{p q:Pm}{a:Option Addr}{n:Nat}{f:Nat→Value}(h:b9 p a n f)(hk:Sub p q):b9 q a n f:=fun i hi=>let⟨b,o,e,c⟩:=h i hi;⟨b,o,e,hk _ _ _ c⟩
def eM(p:Pm)(b:Nat)(x:Value):Prop:=p b 5=some (.int .u32 15)∧p b 6=some x∧p b 7=some x
theorem eM.sub{p q:Pm}(hk:Sub p q){b:Nat}{x:Value}(h:eM p b x):eM q b x:=⟨hk _ _ _ h.1,hk _ _ _ h.2.1,hk _ _ _ h.2.2⟩
def eN(p:Pm)(v:Value)(n:Nat)(f:Nat→Nat):Prop:=
 (n=0∧v= .pointer none)∨(0<n∧∃tb a c,v=ptr tb∧p tb 0=some (.slice a n c)∧n≤c∧b9 p a n fun i=>ptr (f i))
theorem eN.sub{p q:Pm}{v:Value}{n:Nat}{f:Nat→Nat}(h:eN p v n f)(hk:Sub p q):eN q v n f:=
 h.imp id fun⟨h1,tb,a,c,e,h2,h3,b⟩=>⟨h1,tb,a,c,e,hk _ _ _ h2,h3,b.sub hk⟩
def fW(n:Int):Int:=if n=1 then 1 else if n=2 then 2 else 0
def bj(u:U):List (Bool×U):=if u.k=12 then u.es.map fun e=>(e.k==13,aC e)else [(true,aC u)]
inductive AC (p:Pm):Value→Value→Prop
 |last {b:Nat} {t c:Nat}:t≠136→p b 2=some (ae t c)→p b 3=some (ae t c)→AC p (ae 136 b) (ae t c)
 |next {b c:Nat} {y:Value}:p b 2=some (ae 136 c)→c<b→p b 3=some y→AC p (ae 136 c) y→AC p (ae 136 b) y
theorem AC.sub{p q:Pm}(hk:Sub p q){x y:Value}(h:AC p x y):AC q x y:=by
 induction h with
 |last h1 h2 h3=>exact .last h1 (hk _ _ _ h2) (hk _ _ _ h3)
 |next h1 h2 h3 _ ih=>exact .next (hk _ _ _ h1) h2 (hk _ _ _ h3) ih
inductive Node (p:Pm) (g:Ge):U→Value→Prop
 |basic {u:U} {b:Nat}:u.k=1→p b 0=some (.int .i64 (u.n+1))→Node p g u (ae 99 b)
 |alias {u:U} {x y:Value}:u.k=2→AC p x y→Node p g (bare u) y→Node p g u x
 |any {u:U} {x:Value}:u.k=14→Node p g bt x→Node p g u x
 |array {u e:U} {b:Nat} {x:Value}:u.k=3→u.es= [e]→p b 0=some (.int .i64 u.n)→p b 1=some x→Node p g e x→Node p g u (ae 138 b)
 |slice {u e:U} {b:Nat} {x:Value}:u.k=4→u.es= [e]→p b 0=some x→Node p g e x→Node p g u (ae 140 b)
 |struct {u:U} {b:Nat} {a a':Option Addr} {c c':Nat} {f:Nat→Nat} {xs:Nat→Value}:u.k=5→
  p b 0=some (.slice a u.es.length c)→p b 1=some (.slice a' u.es.length c')→u.es.length≤c→u.es.length≤1099511627776→b9 p a u.es.length (fun i=>ptr (f i))→(∀i(h:i<u.es.length),∃b o,a'=some ⟨b,o,none⟩∧p b (o+i)=some (.string u.es[i].tg))→
  (∀i(h:i<u.es.length),p (f i) 1=some (ptr g.pk)∧p (f i) 2=some (.string u.es[i].nm)∧p (f i) 3=some (xs i)∧p (f i) 5=some (.bool false))→
  (∀i(h:i<u.es.length),Node p g u.es[i] (xs i))→Node p g u (ae 167 b)
 |pointer {u e:U} {b:Nat} {x:Value}:u.k=6→u.es= [e]→p b 0=some x→Node p g e x→Node p g u (ae 142 b)
 |func {u:U} {b:Nat} {pv rv:Value} {f:Nat→Nat} {xs:Nat→Value}:u.k=7→(u.m.toNat≤u.es.length∧u.es.length≤1099511627776)→p b 2=some pv→p b 3=some rv→p b 4=some (.bool u.v)→
  eN p pv u.m.toNat f→eN p rv (u.es.length- u.m.toNat) (fun i=>f (u.m.toNat+i))→(∀i,i<u.es.length→p (f i) 3=some (xs i))→
  (∀i(h:i<u.es.length),Node p g u.es[i] (xs i))→Node p g u (ae 102 b)
 |map {u d e:U} {b:Nat} {x y:Value}:u.k=8→u.es= [d,e]→p b 0=some x→p b 1=some y→Node p g d x→Node p g e y→Node p g u (ae 144 b)
 |chan {u e:U} {b:Nat} {x:Value}:u.k=9→u.es= [e]→p b 0=some (.int .i64 (fW u.n))→p b 1=some x→Node p g e x→Node p g u (ae 146 b)
 |iface {u:U} {b:Nat}:u.k=10→g.G b=some u→Node p g u (ae 44 b)
 |iD {u:U}:u.k=11→0≤u.n→u.n.toNat<g.len→u.un= []→p (g.nb u.n.toNat) 1=some (ptr (g.ob u.n.toNat))→Node p g u (ae 58 (g.nb u.n.toNat))
 |named {u y:U} {x:Value}:u.k=11→0≤u.n→u.n.toNat<g.len→u.un= [y]→p (g.nb u.n.toNat) 1=some (ptr (g.ob u.n.toNat))→eM p (g.nb u.n.toNat) x→Node p g y x→Node p g u (ae 58 (g.nb u.n.toNat))
 |union {u:U} {b:Nat} {a:Option Addr} {c:Nat} {f:Nat→Nat} {xs:Nat→Value}:u.k=12∨u.k=13→p b 0=some (.slice a (bj u).length c)→(bj u).length≤c→b9 p a (bj u).length (fun i=>ptr (f i))→
  (∀i(h:i<(bj u).length),p (f i) 0=some (.bool (bj u)[i].1)∧p (f i) 1=some (xs i))→(∀i(h:i<(bj u).length),Node p g (bj u)[i].2 (xs i))→Node p g u (ae 185 b)
 |err {u:U} {x:Value}:u.k=15→u.un= [aI]→p g.eb 1=some (ptr g.eo)→eM p g.eb x→Node p g aI x→Node p g u (ae 58 g.eb)
 |comp {u:U} {b:Nat}:u.k=16→p g.cb 1=some (ptr g.co)→eM p g.cb (ae 44 b)→g.G b=some dN→Node p g u (ae 58 g.cb)
structure aH(g a:Ge):Prop where
 nb:a.nb=g.nb
 ob:a.ob=g.ob
 len:a.len=g.len
 eb:a.eb=g.eb
 eo:a.eo=g.eo
 cb:a.cb=g.cb
 co:a.co=g.co
 pk:a.pk=g.pk
 G:∀b u,g.G b=some u→a.G b=some u
theorem aH.refl(g:Ge):aH g g:=⟨rfl,rfl,rfl,rfl,rfl,rfl,rfl,rfl,fun _ _ h=>h⟩
theorem aH.trans{a b c:Ge}(h:aH a b)(k:aH b c):aH a c:=
 ⟨k.nb.trans h.nb,k.ob.trans h.ob,k.len.trans h.len,k.eb.trans h.eb,k.eo.trans h.eo,k.cb.trans h.cb,k.co.trans h.co,k.pk.trans h.pk,fun b u x=>k.G b u (h.G b u x)⟩
theorem Node.sub{p q:Pm}{g r:Ge}(hk:Sub p q)(f:aH g r){u:U}{x:Value}(h:Node p g u x):Node q r u x:=by
 induction h with
 |basic h1 h2=>exact .basic h1 (hk _ _ _ h2)
 |alias h1 h2 _ ih=>exact .alias h1 (h2.sub hk) ih
 |any h1 _ ih=>exact .any h1 ih
 |array h1 h2 h3 j _ ih=>exact .array h1 h2 (hk _ _ _ h3) (hk _ _ _ j) ih
 |slice h1 h2 h3 _ ih=>exact .slice h1 h2 (hk _ _ _ h3) ih
 |struct h1 h2 h3 c1 c2 j k l _ ih=>
  exact .struct h1 (hk _ _ _ h2) (hk _ _ _ h3) c1 c2 (j.sub hk) (fun i hi=>let⟨b,o,e,s⟩:=k i hi;⟨b,o,e,hk _ _ _ s⟩) (fun i hi=>let⟨a,b,c,d⟩:=l i hi;⟨by rw[f.pk];exact hk _ _ _ a,hk _ _ _ b,hk _ _ _ c,hk _ _ _ d⟩) ih
 |pointer h1 h2 h3 _ ih=>exact .pointer h1 h2 (hk _ _ _ h3) ih
 |func h1 h2 h3 j k l h7 t _ ih=>exact .func h1 h2 (hk _ _ _ h3) (hk _ _ _ j) (hk _ _ _ k) (l.sub hk) (h7.sub hk) (fun i hi=>hk _ _ _ (t i hi)) ih
 |map h1 h2 h3 j _ _ m n=>exact .map h1 h2 (hk _ _ _ h3) (hk _ _ _ j) m n
 |chan h1 h2 h3 j _ ih=>exact .chan h1 h2 (hk _ _ _ h3) (hk _ _ _ j) ih
 |iface h1 h2=>exact .iface h1 (f.G _ _ h2)
 |iD h1 h2 h3 j k=>rw[←f.nb];exact .iD h1 h2 (by rw[f.len];exact h3) j (by rw[f.nb,f.ob];exact hk _ _ _ k)
 |named h1 h2 h3 j k l _ ih=>rw[←f.nb];exact .named h1 h2 (by rw[f.len];exact h3) j (by rw[f.nb,f.ob];exact hk _ _ _ k) (by rw[f.nb];exact l.sub hk) ih
 |union h1 h2 c1 h3 j _ ih=>exact .union h1 (hk _ _ _ h2) c1 (h3.sub hk) (fun i hi=>let⟨a,b⟩:=j i hi;⟨hk _ _ _ a,hk _ _ _ b⟩) ih
 |err h1 h2 h3 j _ ih=>rw[←f.eb];exact .err h1 h2 (by rw[f.eb,f.eo];exact hk _ _ _ h3) (by rw[f.eb];exact j.sub hk) ih
 |comp h1 h2 h3 j=>rw[←f.cb];exact .comp h1 (by rw[f.cb,f.co];exact hk _ _ _ h2) (by rw[f.cb];exact h3.sub hk) (f.G _ _ j)
def dn(p:Pm)(g:Ge)(m:U)(f:Nat):Prop:=∃a,(∃q,p f 1=some (.pointer q))∧p f 2=some (.string m.nm)∧p f 3=some (ae 102 a)∧Node p g m (ae 102 a)
theorem dn.sub{p q:Pm}{g a:Ge}(hk:Sub p q)(b:aH g a){m:U}{f:Nat}(h:dn p g m f):dn q a m f:=
 let⟨c,h1,h2,h3,d⟩:=h;⟨c,let⟨q,h⟩:=h1;⟨q,hk _ _ _ h⟩,hk _ _ _ h2,hk _ _ _ h3,d.sub hk b⟩
structure fX(p:Pm)(g:Ge)(b:Nat)(u:U):Prop where
 ck:p b 0=some (.pointer none)
 ms:u.m.toNat≤u.es.length∧∃(a:Option Addr)(c:Nat)(f:Nat→Nat),p b 1=some (.slice a u.m.toNat c)∧u.m.toNat≤c∧u.es.length≤1099511627776∧b9 p a u.m.toNat (fun i=>ptr (f i))∧∀i(h:i<u.m.toNat)(d:i<u.es.length),dn p g u.es[i] (f i)∧p (f i) 0=some (.int .i64 0)
 el:∃(a:Option Addr)(c:Nat)(xs:Nat→Value),p b 2=some (.slice a (u.es.length- u.m.toNat) c)∧u.es.length- u.m.toNat≤c∧u.es.length≤1099511627776∧b9 p a (u.es.length- u.m.toNat) xs∧(∀i(h:u.m.toNat+i<u.es.length),Node p g u.es[u.m.toNat+i] (xs i))∧
  ∀i j,i<j→u.m.toNat+j<u.es.length→((u.es.getD (u.m.toNat+j) default).k=12∨(u.es.getD (u.m.toNat+j) default).k=13)→xs i≠xs j
 ps:p b 3=some (.pointer none)
 cm:p b 5=some (.bool true)
theorem fX.sub{p q:Pm}{g k:Ge}(hk:Sub p q)(l:aH g k){b:Nat}{u:U}(h:fX p g b u):fX q k b u where
 ck:=hk _ _ _ h.ck
 ms:=let⟨m,a,c,f,h1,h2,h3,j,e⟩:=h.ms;⟨m,a,c,f,hk _ _ _ h1,h2,h3,j.sub hk,fun i hi d=>⟨(e i hi d).1.sub hk l,hk _ _ _ (e i hi d).2⟩⟩
 el:=let⟨a,c,xs,h1,h2,h3,j,e,n⟩:=h.el;⟨a,c,xs,hk _ _ _ h1,h2,h3,j.sub hk,fun i hi=>(e i hi).sub hk l,n⟩
 ps:=hk _ _ _ h.ps
 cm:=hk _ _ _ h.cm
abbrev Tm:=Option (Bool×U)
def aY(p:Pm)(g:Ge)(t:Tm)(f:Nat):Prop:=
 match t with
 |none=>p f 1=some .nilIface
 |some (d,e)=>p f 0=some (.bool d)∧∃x,p f 1=some x∧Node p g e x
theorem aY.sub{p q:Pm}{g a:Ge}(hk:Sub p q)(b:aH g a){t:Tm}{f:Nat}(h:aY p g t f):aY q a t f:=by
 match t,h with
 |none,h=>exact hk _ _ _ h
 |some (d,e),⟨h1,x,h2,h3⟩=>exact⟨hk _ _ _ h1,x,hk _ _ _ h2,h3.sub hk b⟩
def ou(p:Pm)(g:Ge)(a:Option Addr)(b:List Tm):Prop:=∃f:Nat→Nat,b9 p a b.length (fun i=>ptr (f i))∧∀i(h:i<b.length),aY p g b[i] (f i)
theorem ou.sub{p q:Pm}{g b:Ge}(hk:Sub p q)(d:aH g b){a:Option Addr}{c:List Tm}(h:ou p g a c):ou q b a c:=
 let⟨f,h1,h2⟩:=h;⟨f,h1.sub hk,fun i hi=>(h2 i hi).sub hk d⟩
def Ge.below(g:Ge)(b:Nat):Ge:={g with G:=fun a=>if a<b then g.G a else none}
theorem Ge.Aw(g:Ge)(b:Nat):aH (g.below b) g:=⟨rfl,rfl,rfl,rfl,rfl,rfl,rfl,rfl,fun a u h=>by simp only[Ge.below]at h;split at h;exact h;cases h⟩
end TS
namespace TS
open Go Go.RowKit Go.Proofs.YtdkmnkjhhhmglaaGreatDoor
theorem uw(a:U):cL a a=true:=by simp[cL]
theorem Ax(x:U):aU x x=true:=by
 unfold aU;split
 ·simp
 ·split
  ·simp
  ·split
   ·rw[List.all_eq_true]
    intro y a;obtain⟨i,hi,rfl⟩:=List.getElem_of_mem a;simp
   ·rfl
theorem Ay:∀{u:U}{len pos f:Nat},Pl len u pos f→f≤2→u.k≠12→u.k≠13→aR u→aB u u=true:=by
 intro u;induction u using U.bg with
 |_ u ih=>
  intro len pos f q r g h s;have j:=s.bare q;obtain⟨b,_,_,w⟩:=q.bare r g h;by_cases a:(bare u).k=10
  ·rw[kc a,j.gen,a]
   simp only[beq_self_eq_true,Bool.not_false,decide_true,Bool.true_and,hasB];rw[List.all_eq_true];intro m hm;rw[List.any_eq_true];obtain⟨f1,l,d,n⟩:=b.jx r a;obtain⟨x,y,o,p⟩:=n.cv l d (by omega) (by omega) m hm;have:=iv hm;exact⟨m,hm,by rw[uw,ih m (by omega) p o (by omega) (by omega) (j.cv hm)];rfl⟩
  ·rw[kd a,Ax]
   simp only[beq_self_eq_true,decide_true,Bool.true_and];rw[iC];intro i hi t;have e:=b.form.aE.1;have c:=b.jt a e i hi;have v:=U.az (List.getElem_mem hi);exact ih (bare u).es[i] (by omega) c fD c.form.aE.1 c.form.aE.2 (j.es (List.getElem_mem hi))
def cj(x y:Bool×U):Bool:= !aB (if y.1 then under x.2 else x.2) (if x.1 then under y.2 else y.2)
def cz:Tm→Tm→Option Tm
 |none,_=>some none
 |some _,none=>some none
 |some x,some y=>if cj x y then none else if x.1|| !y.1 then some (some x)else some (some y)
def bP:Tm→Tm→Option Tm
 |none,y=>some y
 |some x,none=>some (some x)
 |some x,some y=>if cj x y then none else if !x.1||y.1 then some (some x)else some (some y)
def bI(x:Tm):List Tm→Option (Tm×List Tm)
 | []=>some (x,[])
 |y::r=>match cz x y with
  |none=>(bI x r).map fun z=>(z.1,y::z.2)
  |some z=>if z=none then none else bI z r
theorem ll:∀{l:List Tm}{x z:Tm}{l':List Tm},bI x l=some (z,l')→l'.length≤l.length:=by
 intro l;induction l with
 |nil=>intro x z l' h;simp[bI]at h;obtain⟨rfl,rfl⟩:=h;exact Nat.le_refl _
 |cons y r ih=>
  intro x z l' h;rw[bI]at h;split at h
  ·simp only[Option.map_eq_some_iff,Prod.mk.injEq]at h
   obtain⟨⟨a,b⟩,h1,rfl,rfl⟩:=h;have:=ih h1;simp at*;omega
  ·split at h
   ·cases h
   ·have:=ih h;simp;omega
def cp(l:List Tm):Option (List Tm):=
 match l with
 | []=>some []
 |x::r=>match _h:bI x r with
  |none=>none
  |some (z,l')=>(cp l').map fun m=>z::m
termination_by l.length
decreasing_by
 have:=ll _h
 simp;omega
def bk(l:List Tm):List Tm:=(cp l).getD [none]
def fv(l:List Tm):Bool:=l.any fun t=>t.isNone
def gD(l m:List Tm):List Tm:=bk (l++m)
def bc(l m:List Tm):List Tm:=if l.isEmpty||m.isEmpty then []else bk (l.flatMap fun x=>m.filterMap fun y=>bP x y)
def RT(l:List Tm):Prop:=∀x,some x∈l→cj x x=false
theorem mF{x y z:Tm}(h:cz x y=some z):z=x∨z=y:=by
 match x,y,h with
 |none,_,h=>simp[cz]at h;exact .inl h.symm
 |some x,none,h=>simp[cz]at h;exact .inr h.symm
 |some x,some y,h=>
  simp only[cz]at h;split at h
  ·cases h
  ·split at h
   ·cases h;exact .inl rfl
   ·cases h;exact .inr rfl
theorem Az{x y z:Tm}(h:bP x y=some z):z=x∨z=y:=by
 match x,y,h with
 |none,_,h=>simp[bP]at h;exact .inr h.symm
 |some x,none,h=>simp[bP]at h;exact .inl h.symm
 |some x,some y,h=>
  simp only[bP]at h;split at h
  ·cases h
  ·split at h
   ·cases h;exact .inl rfl
   ·cases h;exact .inr rfl
theorem mG:∀{l:List Tm}{x z:Tm}{l':List Tm},bI x l=some (z,l')→(z=x∨z∈l)∧∀t∈l',t∈l:=by
 intro l;induction l with
 |nil=>intro x z l' h;simp[bI]at h;obtain⟨rfl,rfl⟩:=h;exact⟨.inl rfl,fun t a=>a⟩
 |cons y r ih=>
  intro x z l' h;rw[bI]at h;split at h
  ·simp only[Option.map_eq_some_iff,Prod.mk.injEq]at h
   obtain⟨⟨c,d⟩,h1,rfl,rfl⟩:=h;obtain⟨h2,h3⟩:=ih h1;exact⟨h2.imp id fun h=>List.mem_cons_of_mem _ h,fun t a=>(List.mem_cons.1 a).elim (fun e=>e▸List.mem_cons_self) fun a=>List.mem_cons_of_mem _ (h3 t a)⟩
  ·rename_i z2 b
   split at h
   ·cases h
   ·obtain⟨h2,h3⟩:=ih h
    refine⟨?_,fun t a=>List.mem_cons_of_mem _ (h3 t a)⟩;rcases h2 with rfl|h2
    ·rcases mF b with rfl|rfl
     ·exact .inl rfl
     ·exact .inr List.mem_cons_self
    ·exact .inr (List.mem_cons_of_mem _ h2)
theorem AA:∀{l:List Tm}{x z:Bool×U}{l':List Tm},bI (some x) l=some (some z,l')→z=x∨cz (some x) (some z)=some (some z):=by
 intro l;induction l with
 |nil=>intro x z l' h;simp[bI]at h;exact .inl h.1.symm
 |cons y r ih=>
  intro x z l' h;rw[bI]at h;split at h
  ·simp only[Option.map_eq_some_iff,Prod.mk.injEq]at h
   obtain⟨⟨k,m⟩,h1,rfl,rfl⟩:=h;exact ih h1
  ·rename_i z2 a
   split at h
   ·cases h
   ·rename_i d
    match z2,y,d,a,h with
    |some z2,none,_,a,_=>simp[cz]at a
    |some z2,some y,_,a,h=>
     have b:=a;simp only[cz]at a;split at a
     ·cases a
     ·split at a
      ·cases a;exact ih h
      ·rename_i i
       have c:y.1=true:=by
        cases j:y.1
        ·rw[j]at i;simp at i
        ·rfl
       have f:y=z2:=Option.some.inj (Option.some.inj a);rw[f]at c b;rcases ih h with e|e
       ·rw[e];exact .inr b
       ·simp only[cz]at e
        split at e
        ·cases e
        ·rw[if_pos (by rw[c];rfl)]at e
         have g:z2=z:=Option.some.inj (Option.some.inj e);rw[g]at b;exact .inr b
theorem AB:∀{l:List Tm}(x:Tm),none∈l→bI x l=none:=by
 intro l;induction l with
 |nil=>intro x h;cases h
 |cons y r ih=>
  intro x h;rw[bI];split
  ·rename_i a
   match x,y,a,h with
   |none,_,a,_=>simp[cz]at a
   |some x,none,a,_=>simp[cz]at a
   |some x,some y,_,h=>
    rw[ih _ (by simpa using h)];rfl
  ·rename_i z a
   split
   ·rfl
   ·rename_i b
    match x,y,a,h with
    |none,_,a,_=>simp[cz]at a;exact absurd a.symm b
    |some x,none,a,_=>simp[cz]at a;exact absurd a.symm b
    |some x,some y,_,h=>exact ih _ (by simpa using h)
theorem AD:∀{l:List Tm},l≠ []→bI none l=none:=by
 intro l h;match l,h with
 |y::r,_=>simp[bI,cz]
theorem AE:∀{l:List Tm}{x z:Bool×U}{l':List Tm},(cj z z=false)→bI (some x) l=some (some z,l')→some z ∉ l':=by
 intro l;induction l with
 |nil=>intro x z l' _ h;simp[bI]at h;obtain⟨rfl,rfl⟩:=h;simp
 |cons y r ih=>
  intro x z l' b h;rw[bI]at h;split at h
  ·rename_i a
   simp only[Option.map_eq_some_iff,Prod.mk.injEq]at h;obtain⟨⟨d,f⟩,h1,rfl,rfl⟩:=h;have h2:=ih b h1;intro hm;rcases List.mem_cons.1 hm with rfl|hm
   ·rcases AA h1 with e|e
    ·subst e
     simp[cz,b]at a
    ·rw[e]at a;cases a
   ·exact h2 hm
  ·rename_i z2 a
   split at h
   ·cases h
   ·rename_i c
    match z2,c,a,h with
    |some z2,_,a,h=>exact ih b h
theorem ov:∀{l m:List Tm},cp l=some m→∀t∈m,t∈l:=by
 intro l;induction c:l.length using Nat.strongRecOn generalizing l with
 |_ n ih=>
  subst c;intro m h t a;match l,h with
  | [],h=>rw[cp]at h;cases h;cases a
  |x::r,h=>
   rw[cp]at h;split at h
   ·cases h
   ·rename_i z l' b
    simp only[Option.map_eq_some_iff]at h;obtain⟨d,h1,rfl⟩:=h;have e:=ll b;obtain⟨h2,h3⟩:=mG b;rcases List.mem_cons.1 a with rfl|a
    ·exact List.mem_cons.2 h2
    ·exact List.mem_cons_of_mem _ (h3 t (ih l'.length (by simp;omega) rfl h1 t a))
theorem AF:∀{l m:List Tm},RT l→none ∉ l→cp l=some m→m.Nodup:=by
 intro l;induction e:l.length using Nat.strongRecOn generalizing l with
 |_ n ih=>
  subst e;intro m hr a h;match l,h,hr,a with
  | [],h,_,_=>rw[cp]at h;cases h;exact List.nodup_nil
  |x::r,h,hr,a=>
   rw[cp]at h;split at h
   ·cases h
   ·rename_i z l' c
    simp only[Option.map_eq_some_iff]at h;obtain⟨g,h1,rfl⟩:=h;have i:=ll c;obtain⟨h2,h3⟩:=mG c;have d:z∈x::r:=List.mem_cons.2 h2;refine List.nodup_cons.2 ⟨fun hm=> ?_,ih l'.length (by simp;omega) rfl (fun y f=>hr y (List.mem_cons_of_mem _ (h3 _ f))) (fun hm=>a (List.mem_cons_of_mem _ (h3 _ hm))) h1⟩;have b:=ov h1 z hm;match x,z,c,d,b,a with
    |none,_,_,_,_,a=>exact a List.mem_cons_self
    |some x,none,_,d,_,a=>exact a d
    |some x,some z,c,d,b,_=>exact AE (hr z d) c b
def ow(l m:List Tm):Prop:=m= [none]∨(m.Nodup∧none ∉ m∧∀t∈m,t∈l)
theorem uz{l:List Tm}(h:RT l):ow l (bk l):=by
 unfold bk;by_cases a:none∈l
 ·left
  match l,a with
  |none::r,_=>
   by_cases hr:r= []
   ·subst hr;simp[cp,bI]
   ·rw[cp]
    split
    ·rfl
    ·rename_i b;rw[AD hr]at b;cases b
  |some x::r,a=>
   rw[cp];split
   ·rfl
   ·rename_i b;rw[AB _ (by simpa using a)]at b;cases b
 ·cases c:cp l with
  |none=>exact .inl rfl
  |some m=>exact .inr ⟨AF h a c,fun hm=>a (ov c _ hm),ov c⟩
theorem RT.append{l m:List Tm}(h:RT l)(k:RT m):RT (l++m):=fun x a=>(List.mem_append.1 a).elim (h x) (k x)
theorem RT.sub{l m:List Tm}(h:RT l)(k:∀t∈m,t∈l):RT m:=fun x a=>h x (k _ a)
theorem ln{l m:List Tm}{t:Tm}(h:t∈l.flatMap fun x=>m.filterMap fun y=>bP x y):t∈l∨t∈m:=by
 simp only[List.mem_flatMap,List.mem_filterMap]at h;obtain⟨x,a,y,b,h⟩:=h;rcases Az h with rfl|rfl
 ·exact .inl a
 ·exact .inr b
theorem qG:bk [none]= [none]:=by simp[bk,cp,bI]
theorem uA:bk []= []:=by simp[bk,cp]
theorem uB{l m:List Tm}(h:RT l)(k:RT m):ow (l++m) (bc l m):=by
 unfold bc;split
 ·exact .inr ⟨List.nodup_nil,by simp,fun t a=>by cases a⟩
 ·rcases uz (l:=l.flatMap fun x=>m.filterMap fun y=>bP x y) ((h.append k).sub fun t a=>List.mem_append.2 (ln a))with e|⟨h1,h2,h3⟩
  ·exact .inl e
  ·exact .inr ⟨h1,h2,fun t a=>List.mem_append.2 (ln (h3 t a))⟩
theorem AG{l m:List Tm}(h:RT l)(k:RT m):ow (l++m) (gD l m):=uz (h.append k)
theorem AH:bc [none] [none]= [none]:=by simp[bc,bP,qG]
def bL(u:U):List (Bool×U):=
 if(under u).k=10 then(dH (under u)).attach.flatMap fun⟨x,_⟩=>if x.k=13 then [(true,aC x)]else if isIface x then bL x else [(false,x)]
 else []
termination_by u.sz
decreasing_by
 have h1:=jq ‹_›
 have h2:=dE u
 omega
def fw(x:U):List (Bool×U):=if x.k=13 then [(true,aC x)]else if isIface x then bL x else [(false,x)]
theorem AI{α β:Type}(l:List α)(f:α→List β):(l.attach.flatMap fun x=>f x.1)=l.flatMap f:=by
 conv=>rhs;rw[←List.attach_map_subtype_val l,List.flatMap_map]
theorem mH{u:U}(h:(under u).k=10):bL u=(dH (under u)).flatMap fw:=by
 rw[bL,if_pos h];exact AI (dH (under u)) fw
theorem lq{u:U}(h:(under u).k≠10):bL u= []:=by rw[bL,if_neg h]
theorem oz:∀u:U,0≤bT u:=by
 intro u;induction u using U.bg with
 |_ u ih=>
  by_cases h:(under u).k=10
  ·rw[jr h]
   have key:∀(l:List U)(n:Int),(∀x∈l,x.sz<u.sz)→0≤n→0≤l.foldl bD n:=by
    intro l;induction l with
    |nil=>exact fun n _ a=>a
    |cons x r b=>
     intro n c a;refine b _ (fun y d=>c y (List.mem_cons_of_mem _ d)) ?_;have:=ih x (c x List.mem_cons_self);unfold bD;split
     ·exact a
     ·split<;>omega
   exact key _ 0 (fun x e=>by have:=jq e;have:=dE u;omega) (Int.le_refl _)
  ·rw[pY h];decide
theorem qH(n:Int)(x:U):n≤bD n x:=by
 have:=oz x;unfold bD;split
 ·exact Int.le_refl _
 ·split<;>omega
theorem uC:∀(l:List U)(n:Int),n≤l.foldl bD n:=by
 intro l;induction l with
 |nil=>exact fun n=>Int.le_refl _
 |cons x r ih=>exact fun n=>Int.le_trans (qH n x) (ih _)
theorem AJ:∀u:U,bT u≤50→((bL u).length:Int)≤bT u:=by
 intro u;induction u using U.bg with
 |_ u ih=>
  intro c;by_cases h:(under u).k=10
  ·rw[jr h]at c⊢
   rw[mH h];have key:∀(l:List U)(n:Int),(∀x∈l,x.sz<u.sz)→0≤n→l.foldl bD n≤50→n+((l.flatMap fw).length:Int)≤l.foldl bD n:=by
    intro l;induction l with
    |nil=>exact fun n _ _ _=>by simp
    |cons x r d=>
     intro n f i e;have h1:=d (bD n x) (fun y j=>f y (List.mem_cons_of_mem _ j)) (Int.le_trans i (qH n x)) e;simp only[List.flatMap_cons,List.length_append,List.foldl_cons]at*;have g:n≤50:=Int.le_trans (qH n x) (Int.le_trans (uC r _) e);have a:bD n x≤50:=Int.le_trans (uC r _) e;have h2:((fw x).length:Int)≤bD n x- n:=by
      unfold bD at a⊢;rw[if_neg (by omega)]at a⊢;unfold fw;by_cases b:x.k=13
      ·rw[if_pos b,if_pos (by simp[b])];simp;omega
      ·rw[if_neg b]
       cases hi:isIface x
       ·rw[if_neg (by simp),if_pos (by simp)];simp;omega
       ·rw[hi,if_neg (by simp[b])]at a
        rw[if_pos rfl,if_neg (by simp[b])];have:=ih x (f x List.mem_cons_self) (by have:=oz x;omega);omega
     omega
   have:=key _ 0 (fun x m=>by have:=jq m;have:=dE u;omega) (Int.le_refl _) c;omega
  ·rw[lq h];exact oz u
def bu(d:Bool)(u:U):Bool:=
 if(under u).k=3∨(under u).k=5 then(under u).es.attach.all fun⟨e,_⟩=>bu d e
 else(under u).k==1||(under u).k==6||(under u).k==9||((under u).k==10&&d)
termination_by u.sz
decreasing_by
 have h1:=U.az ‹_›
 have h2:=dE u
 omega
theorem iX{d:Bool}{u:U}(h:(under u).k=3∨(under u).k=5):bu d u=(under u).es.all (bu d):=by
 rw[bu,if_pos h];conv=>rhs;rw[←List.attach_map_subtype_val (under u).es,List.all_map]
 rfl
theorem iY{d:Bool}{u:U}(h:¬((under u).k=3∨(under u).k=5)):bu d u=((under u).k==1||(under u).k==6||(under u).k==9||((under u).k==10&&d)):=by rw[bu,if_neg h]
def cR(u:U):Nat:=
 if(under u).k=3∨(under u).k=5 then 1+((under u).es.attach.map fun⟨e,_⟩=>cR e).sum else 0
termination_by u.sz
decreasing_by
 have h1:=U.az ‹_›
 have h2:=dE u
 omega
theorem mI{u:U}(h:(under u).k=3∨(under u).k=5):cR u=1+((under u).es.map cR).sum:=by
 rw[cR,if_pos h];conv=>rhs;rw[←List.attach_map_subtype_val (under u).es,List.map_map]
 rfl
theorem uD{u:U}(h:¬((under u).k=3∨(under u).k=5)):cR u=0:=by rw[cR,if_neg h]
theorem AK{l:List Nat}{n:Nat}(h:n∈l):n≤l.sum:=by
 induction l with
 |nil=>cases h
 |cons a r ih=>
  rcases List.mem_cons.1 h with rfl|h
  ·simp
  ·have:=ih h;simp;omega
theorem AL{u e:U}(h:(under u).k=3∨(under u).k=5)(he:e∈(under u).es):cR e<cR u:=by
 rw[mI h];have:=AK (List.mem_map_of_mem (f:=cR) he);omega
def gF(t:Tm):Bool:=match t with|none=>true|some (_,e)=>bu false e
def dp(x y:List Tm×Bool):List Tm×Bool:=
 if(x.2||y.2)&& !fv (bc x.1 y.1)then((bc x.1 y.1).filter gF,false)else(bc x.1 y.1,x.2||y.2)
theorem uE(x:U):(aC x).sz≤x.sz:=by
 unfold aC;split
 ·cases h:x.es with
  |nil=>exact Nat.le_refl _
  |cons a r=>exact Nat.le_of_lt (U.az (by rw[h];exact List.mem_cons_self))
 ·exact Nat.le_refl _
theorem AM{e:U}{t:Bool×U}(h:t∈bj e):t.2.sz≤e.sz:=by
 unfold bj at h;split at h
 ·obtain⟨x,a,rfl⟩:=List.mem_map.1 h
  have:=U.az a;have:=uE x;simp only;omega
 ·simp only[List.mem_singleton]at h
  subst h;exact uE e
def bQ(u:U):List Tm×Bool:=
 if(under u).k=10 then((under u).es.drop (under u).m.toNat).attach.foldl (fun a e=>dp a (
  if e.1.k=12∨e.1.k=13 then((bj e.1).attach.foldl (fun r t=>gD r (if isIface t.1.2 then(bQ t.1.2).1 else [some t.1])) [],false)
  else if isIface e.1 then bQ e.1 else([some (false,e.1)],false))) ([none],false)
 else([none],(under u).k==16)
termination_by u.sz
decreasing_by
 ·have h1:=U.az (List.mem_of_mem_drop e.2)
  have h2:=dE u
  have h3:=AM t.2
  omega
 ·rename_i e _ _
  have h1:=U.az (List.mem_of_mem_drop e.2)
  have h2:=dE u
  omega
def dI(r:List Tm)(t:Bool×U):List Tm:=gD r (if isIface t.2 then(bQ t.2).1 else [some t])
def dw(e:U):List Tm×Bool:=if e.k=12∨e.k=13 then((bj e).foldl dI [],false)else if isIface e then bQ e else([some (false,e)],false)
theorem kl{u:U}(h:(under u).k=10):bQ u=((under u).es.drop (under u).m.toNat).foldl (fun a e=>dp a (dw e)) ([none],false):=by
 rw[bQ,if_pos h,←List.foldl_attach (f:=fun a e=>dp a (dw e))];refine congrArg (fun f=>List.foldl f _ _) (funext fun a=>funext fun e=> ?_);have b:((bj e.1).attach.foldl (fun r t=>gD r (if isIface t.1.2 then(bQ t.1.2).1 else [some t.1])) [])=(bj e.1).foldl dI []:=by rw[←List.foldl_attach (f:=dI)];rfl
 simp only[b];rfl
theorem uF{e:U}(h:(under e).k=10):bQ (under e)=bQ e:=by
 have hu:under (under e)=under e:=cQ (by omega) (by omega) (by omega) (by omega);rw[kl (by rw[hu];exact h),kl h,hu]
theorem oA{α β:Type}(f:β→α→β)(b:β){l:List α}{k:Nat}(h:k<l.length):(l.take (k+1)).foldl f b=f ((l.take k).foldl f b) l[k]:=by
 rw[List.take_add_one,List.getElem?_eq_getElem h,List.foldl_append];rfl
theorem mJ{u:U}(h:(under u).k≠10):bQ u=([none],(under u).k==16):=by rw[bQ,if_neg h]
def gS(u:U):Bool:=
 if(under u).k=10 then((under u).es.drop (under u).m.toNat).attach.any fun⟨e,_⟩=>if e.k=12 then e.es.any fun x=>x.k !=13&&isIface x else e.k !=13&&isIface e&&gS e
 else false
termination_by u.sz
decreasing_by
 have h1:=U.az (List.mem_of_mem_drop ‹_›)
 have h2:=dE u
 omega
def ko(e:U):Bool:=if e.k=12 then e.es.any fun x=>x.k !=13&&isIface x else e.k !=13&&isIface e&&gS e
theorem uG{u:U}(h:(under u).k=10):gS u=((under u).es.drop (under u).m.toNat).any ko:=by
 rw[gS,if_pos h];conv=>rhs;rw[←List.attach_map_subtype_val ((under u).es.drop (under u).m.toNat),List.any_map]
 rfl
theorem AN{u:U}(h:(under u).k≠10):gS u=false:=by rw[gS,if_neg h]
structure iE(u:U)(a:List Tm)(cmp:Bool):Prop where
 dm:a= [none]∨(a.Nodup∧none ∉ a∧∀t∈a,∃x∈bL u,t=some x)
 gen:aZ u=false→a= [none]∧cmp=false
 mix:aZ u=true→gS u=false→a≠ [none]∨cmp=true
 inv:cmp=true→a= [none]
 eq:bQ u=(a,cmp)
def cY(p:Pm)(g:Ge)(b:Nat)(u:U):Prop:=∃(tb:Nat)(c:Option Addr)(d:Nat)(f:Nat→Nat)(ta:Option Addr)(tc:Nat)(a:List Tm)(cmp:Bool),p b 6=some (ptr tb)∧p tb 0=some (.bool false)∧p tb 1=some (.slice c (ai u).length d)∧(ai u).length≤d∧(ai u).length≤1099511627776∧b9 p c (ai u).length (fun i=>ptr (f i))∧
 (∀i(h:i<(ai u).length),dn p g (ai u)[i] (f i))∧p tb 2=some (.slice ta a.length tc)∧a.length≤tc∧a.length≤1099511627776∧ou p g ta a∧p tb 3=some (.bool cmp)∧iE u a cmp∧(ta=none→tc=0)∧∀x,ta=some x→x.spot=none
theorem cY.sub{p q:Pm}{g j:Ge}(hk:Sub p q)(k:aH g j){b:Nat}{u:U}(h:cY p g b u):cY q j b u:=
 let⟨tb,l,m,f,ta,tc,n,cmp,h1,h2,h3,o,r,s,h7,t,v,a,c,d,e⟩:=h
 ⟨tb,l,m,f,ta,tc,n,cmp,hk _ _ _ h1,hk _ _ _ h2,hk _ _ _ h3,o,r,s.sub hk,fun i hi=>(h7 i hi).sub hk k,hk _ _ _ t,v,a,c.sub hk k,hk _ _ _ d,e⟩
end TS
namespace TS
open Go Go.RowKit
def bq(k:Int):Nat:=
 if k=1 then 99 else if k=3 then 138 else if k=4 then 140 else if k=5 then 167 else if k=6 then 142
 else if k=7 then 102 else if k=8 then 144 else if k=9 then 146 else if k=10 then 44 else if k=12∨k=13 then 185 else 58
section
variable {p:Pm} {g:Ge} {u v:U} {x y:Value}
theorem AC.end(h:AC p x y):∃t c,t≠136∧y=ae t c:=by
 induction h with
 |last h1 _ _=>exact⟨_,_,h1,rfl⟩
 |next _ _ _ _ ih=>exact ih
theorem AC.start(h:AC p x y):∃b,x=ae 136 b∧p b 3=some y:=by
 cases h with
 |last _ _ h3=>exact⟨_,rfl,h3⟩
 |next _ _ h3 _=>exact⟨_,rfl,h3⟩
theorem Node.tag(h:Node p g u x)(h2:u.k≠2)(a:u.k≠14):(∃b,x=ae (bq u.k) b)∧1≤u.k∧u.k≤16:=by
 cases h with
 |alias h _ _=>exact absurd h h2
 |any h _=>exact absurd h a
 |union h _ _ _ _ _=>rcases h with h|h<;>rw[h]<;>exact⟨⟨_,rfl⟩,by decide,by decide⟩
 |basic h _=>rw[h];exact⟨⟨_,rfl⟩,by decide,by decide⟩
 |array h=>rw[h];exact⟨⟨_,rfl⟩,by decide,by decide⟩
 |slice h=>rw[h];exact⟨⟨_,rfl⟩,by decide,by decide⟩
 |struct h=>rw[h];exact⟨⟨_,rfl⟩,by decide,by decide⟩
 |pointer h=>rw[h];exact⟨⟨_,rfl⟩,by decide,by decide⟩
 |func h=>rw[h];exact⟨⟨_,rfl⟩,by decide,by decide⟩
 |map h=>rw[h];exact⟨⟨_,rfl⟩,by decide,by decide⟩
 |chan h=>rw[h];exact⟨⟨_,rfl⟩,by decide,by decide⟩
 |iface h=>rw[h];exact⟨⟨_,rfl⟩,by decide,by decide⟩
 |iD h=>rw[h];exact⟨⟨_,rfl⟩,by decide,by decide⟩
 |named h=>rw[h];exact⟨⟨_,rfl⟩,by decide,by decide⟩
 |err h=>rw[h];exact⟨⟨_,rfl⟩,by decide,by decide⟩
 |comp h=>rw[h];exact⟨⟨_,rfl⟩,by decide,by decide⟩
theorem eO{k l:Int}(h:bq k=bq l)(hk:k≠2∧k≠14∧1≤k∧k≤16∧k≠11∧k≠12∧k≠13∧k≠15∧k≠16)(a:l≠2∧l≠14∧1≤l∧l≤16):k=l:=by
 have h1:k=1∨k=3∨k=4∨k=5∨k=6∨k=7∨k=8∨k=9∨k=10:=by omega
 have h2:l=1∨l=3∨l=4∨l=5∨l=6∨l=7∨l=8∨l=9∨l=10∨l=11∨l=12∨l=13∨l=15∨l=16:=by omega
 rcases h1 with rfl|rfl|rfl|rfl|rfl|rfl|rfl|rfl|rfl<;>rcases h2 with rfl|rfl|rfl|rfl|rfl|rfl|rfl|rfl|rfl|rfl|rfl|rfl|rfl|rfl<;>first|rfl|(revert h;decide)
theorem Node.oB(h:Node p g u x)(h2:u.k≠2)(a:u.k≠14):bq u.k≠136:=by
 have:=(h.tag h2 a).2;have h2:u.k=1∨u.k=3∨u.k=4∨u.k=5∨u.k=6∨u.k=7∨u.k=8∨u.k=9∨u.k=10∨u.k=11∨u.k=12∨u.k=13∨u.k=15∨u.k=16:=by omega
 rcases h2 with e|e|e|e|e|e|e|e|e|e|e|e|e|e<;>rw[e]<;>decide
theorem Node.strip{len pos f:Nat}(h:Node p g u x)(m:Pl len u pos f)(n:f≤2)(i:u.k≠12)(j:u.k≠13):∃b,Node p g (bare u) (ae (bq (bare u).k) b)∧bq (bare u).k≠136∧(x=ae (bq (bare u).k) b∨AC p x (ae (bq (bare u).k) b)):=by
 obtain⟨_,l,d,_⟩:=m.bare n i j;by_cases h2:u.k=2
 ·cases h with
  |alias _ ha c=>
   obtain⟨b,e⟩:=(c.tag l d).1;subst e;exact⟨b,c,c.oB l d,.inr ha⟩
  |any h _=>omega
  |union h _ _ _ _ _=>omega
  |_=>omega
 ·by_cases a:u.k=14
  ·cases h with
   |any _ c=>
    rw[gq a];obtain⟨b,e⟩:=(c.tag (by decide) (by decide)).1;subst e;exact⟨b,c,c.oB (by decide) (by decide),.inl rfl⟩
   |union h _ _ _ _ _=>omega
   |_=>omega
  ·rw[cu h2 a]
   obtain⟨b,e⟩:=(h.tag h2 a).1;subst e;exact⟨b,h,h.oB h2 a,.inl rfl⟩
end
end TS
namespace TS
open Go Go.RowKit Go.Proofs.YtdkmnkjhhhmglaaGreatDoor
section
variable {p:Pm} {g:Ge} {u v:U} {x y:Value}
theorem Node.kp(h:Node p g u x)(hk:u.k=1):∃b,x=ae 99 b∧p b 0=some (.int .i64 (u.n+1)):=by
 cases h with
 |basic _ h2=>exact⟨_,rfl,h2⟩
 |_=>omega
theorem Node.kq(h:Node p g u x)(hk:u.k=3):∃b e y,x=ae 138 b∧u.es= [e]∧p b 0=some (.int .i64 u.n)∧p b 1=some y∧Node p g e y:=by
 cases h with
 |array _ h2 h3 a c=>exact⟨_,_,_,rfl,h2,h3,a,c⟩
 |_=>omega
theorem Node.mK(h:Node p g u x)(hk:u.k=4):∃b e y,x=ae 140 b∧u.es= [e]∧p b 0=some y∧Node p g e y:=by
 cases h with
 |slice _ h2 h3 a=>exact⟨_,_,_,rfl,h2,h3,a⟩
 |_=>omega
theorem Node.oC(h:Node p g u x)(hk:u.k=6):∃b e y,x=ae 142 b∧u.es= [e]∧p b 0=some y∧Node p g e y:=by
 cases h with
 |pointer _ h2 h3 a=>exact⟨_,_,_,rfl,h2,h3,a⟩
 |_=>omega
theorem Node.oD(h:Node p g u x)(hk:u.k=8):∃b d e y z,x=ae 144 b∧u.es= [d,e]∧p b 0=some y∧p b 1=some z∧Node p g d y∧Node p g e z:=by
 cases h with
 |map _ h2 h3 a c f=>exact⟨_,_,_,_,_,rfl,h2,h3,a,c,f⟩
 |_=>omega
theorem Node.oE(h:Node p g u x)(hk:u.k=9):∃b e y,x=ae 146 b∧u.es= [e]∧p b 0=some (.int .i64 (fW u.n))∧p b 1=some y∧Node p g e y:=by
 cases h with
 |chan _ h2 h3 a c=>exact⟨_,_,_,rfl,h2,h3,a,c⟩
 |_=>omega
theorem Node.gT(h:Node p g u x)(hk:u.k=10):∃b,x=ae 44 b∧g.G b=some u:=by
 cases h with
 |iface _ h2=>exact⟨_,rfl,h2⟩
 |_=>omega
theorem Node.ks(h:Node p g u x)(hk:u.k=5):∃(b:Nat)(a a':Option Addr)(c c':Nat)(f:Nat→Nat)(xs:Nat→Value),x=ae 167 b∧p b 0=some (.slice a u.es.length c)∧p b 1=some (.slice a' u.es.length c')∧u.es.length≤c∧u.es.length≤1099511627776∧b9 p a u.es.length (fun i=>ptr (f i))∧
 (∀i(h:i<u.es.length),∃b o,a'=some ⟨b,o,none⟩∧p b (o+i)=some (.string u.es[i].tg))∧(∀i(h:i<u.es.length),p (f i) 1=some (ptr g.pk)∧p (f i) 2=some (.string u.es[i].nm)∧p (f i) 3=some (xs i)∧p (f i) 5=some (.bool false))∧∀i(h:i<u.es.length),Node p g u.es[i] (xs i):=by
 cases h with
 |struct _ h2 h3 d e j h7 l m=>exact⟨_,_,_,_,_,_,_,rfl,h2,h3,d,e,j,h7,l,m⟩
 |_=>omega
theorem Node.lr(h:Node p g u x)(hk:u.k=7):∃(b:Nat)(pv rv:Value)(f:Nat→Nat)(xs:Nat→Value),x=ae 102 b∧(u.m.toNat≤u.es.length∧u.es.length≤1099511627776)∧p b 2=some pv∧p b 3=some rv∧p b 4=some (.bool u.v)∧eN p pv u.m.toNat f∧eN p rv (u.es.length- u.m.toNat) (fun i=>f (u.m.toNat+i))∧
 (∀i,i<u.es.length→p (f i) 3=some (xs i))∧∀i(h:i<u.es.length),Node p g u.es[i] (xs i):=by
 cases h with
 |func _ h2 h3 a c d h7 e j=>exact⟨_,_,_,_,_,rfl,h2,h3,a,c,d,h7,e,j⟩
 |_=>omega
theorem Node.jy(h:Node p g u x)(hk:u.k=11):x=ae 58 (g.nb u.n.toNat)∧0≤u.n∧u.n.toNat<g.len∧p (g.nb u.n.toNat) 1=some (ptr (g.ob u.n.toNat))∧(u.un= []∨∃y z,u.un= [y]∧eM p (g.nb u.n.toNat) z∧Node p g y z):=by
 cases h with
 |iD _ h2 h3 a b=>exact⟨rfl,h2,h3,b,.inl a⟩
 |named _ h2 h3 a b c h7=>exact⟨rfl,h2,h3,b,.inr ⟨_,_,a,c,h7⟩⟩
 |_=>omega
theorem Node.lu(h:Node p g u x)(hk:u.k=15):x=ae 58 g.eb∧u.un= [aI]∧p g.eb 1=some (ptr g.eo)∧∃z,eM p g.eb z∧Node p g aI z:=by
 cases h with
 |err _ h2 h3 a b=>exact⟨rfl,h2,h3,_,a,b⟩
 |_=>omega
theorem Node.mL(h:Node p g u x)(hk:u.k=16):x=ae 58 g.cb∧p g.cb 1=some (ptr g.co)∧∃b,eM p g.cb (ae 44 b)∧g.G b=some dN:=by
 cases h with
 |comp _ h2 h3 a=>exact⟨rfl,h2,_,h3,a⟩
 |_=>omega
theorem AC.unique{z:Value}(h:AC p x y)(k:AC p x z):y=z:=by
 obtain⟨b,rfl,h1⟩:=h.start;obtain⟨a,e,h2⟩:=k.start;cases e;rw[h1]at h2;exact Option.some.inj h2
theorem b9.unique{a:Option Addr}{n:Nat}{f c:Nat→Value}(h:b9 p a n f)(k:b9 p a n c){i:Nat}(hi:i<n):f i=c i:=by
 obtain⟨b,o,rfl,h1⟩:=h i hi;obtain⟨d,j,e,h2⟩:=k i hi;cases e;rw[h1]at h2;exact Option.some.inj h2
theorem qI{b a:Nat}(h:ptr b=ptr a):b=a:=by cases h;rfl
theorem eN.unique{v:Value}{n m:Nat}{f b:Nat→Nat}(h:eN p v n f)(k:eN p v m b):n=m∧∀i,i<n→f i=b i:=by
 rcases h with⟨rfl,rfl⟩|⟨o,tb,a,c,rfl,h1,_,h2⟩
 ·rcases k with⟨rfl,_⟩|⟨_,tb,a,c,e,_⟩
  ·exact⟨rfl,fun i hi=>absurd hi (Nat.not_lt_zero _)⟩
  ·cases e
 ·rcases k with⟨rfl,e⟩|⟨_,j,a',c',e,d,_,l⟩
  ·cases e
  ·cases e
   rw[h1]at d;cases d;exact⟨rfl,fun i hi=>qI (b9.unique h2 l hi)⟩
end
structure mM(g:Ge):Prop where
 nb:∀i j,i<g.len→j<g.len→g.nb i=g.nb j→i=j
 ob:∀i j,i<g.len→j<g.len→g.ob i=g.ob j→i=j
 ne:∀i,i<g.len→g.nb i≠g.eb
 nc:∀i,i<g.len→g.nb i≠g.cb
 ec:g.eb≠g.cb
 oe:∀i,i<g.len→g.ob i≠g.eo
 oc:∀i,i<g.len→g.ob i≠g.co
 ac:g.eo≠g.co
structure Vt(len:Nat)(u:U):Prop where
 val:aR u
 pl:∃f,f≤2∧Pl len u 0 f
theorem Vt.bare{len:Nat}{u:U}(h:Vt len u):Vt len (TS.bare u)∧(TS.bare u).k≠2∧(TS.bare u).k≠14∧(TS.bare u).sz≤u.sz:=by
 obtain⟨f,b,a⟩:=h.pl;obtain⟨h1,h2,h3,c⟩:=a.bare b a.form.aE.1 a.form.aE.2;exact⟨⟨h.val.bare a,f,b,h1⟩,h2,h3,c⟩
theorem Vt.aE{len:Nat}{u:U}(h:Vt len u):u.k≠12∧u.k≠13:=by obtain⟨f,b,a⟩:=h.pl;exact a.form.aE
theorem Vt.part{len:Nat}{u:U}(h:Vt len u)(a:u.k≠10){i:Nat}(hi:i<u.es.length):Vt len u.es[i]:=by
 obtain⟨f,c,b⟩:=h.pl;exact⟨h.val.es (List.getElem_mem hi),_,fD,b.jt a h.aE.1 i hi⟩
theorem Vt.one{len:Nat}{u e:U}(h:Vt len u)(a:u.k≠10)(he:u.es= [e]):Vt len e:=by
 have:=h.part a (i:=0) (by rw[he];simp);simpa [he]using this
theorem Vt.cv{len:Nat}{u:U}(h:Vt len u)(b:u.k=10){m:U}(hm:m∈ai u):Vt len m∧m.k=7:=by
 obtain⟨f,j,l⟩:=h.pl;obtain⟨f1,c,a,d⟩:=l.jx j b;obtain⟨n,o,e,i⟩:=d.cv c a (by omega) (by omega) m hm;exact⟨⟨h.val.cv hm,o,e,i⟩,n⟩
theorem Vt.refl{len:Nat}{u:U}(h:Vt len u):aB u u=true:=by
 obtain⟨f,b,a⟩:=h.pl;exact Ay a b a.form.aE.1 a.form.aE.2 h.val
theorem Vt.form{len:Nat}{u:U}(h:Vt len u):∃f,Form len u 0 f:=by obtain⟨f,b,a⟩:=h.pl;exact⟨f,a.form⟩
theorem Vt.strip{len:Nat}{u:U}(h:Vt len u){p:Pm}{g:Ge}{x:Value}(c:Node p g u x):∃b,Node p g (TS.bare u) (ae (bq (TS.bare u).k) b)∧bq (TS.bare u).k≠136∧(x=ae (bq (TS.bare u).k) b∨AC p x (ae (bq (TS.bare u).k) b)):=by
 obtain⟨f,d,a⟩:=h.pl;exact c.strip a d a.form.aE.1 a.form.aE.2
theorem qJ{u v:U}:(bare (bare u))=bare u→(bare (bare v))=bare v→aB (bare u) (bare v)=aB u v:=by
 intro h1 h2;by_cases a:(bare u).k=10
 ·rw[kc a,kc (by rw[h1];exact a),h1,h2]
 ·rw[kd a,kd (by rw[h1];exact a),h1,h2]
theorem jz{len:Nat}{u:U}(h:Vt len u):bare (bare u)=bare u:=cu h.bare.2.1 h.bare.2.2.1
theorem ku{u v:U}(h2:u.k≠2)(a:u.k≠14)(c:v.k≠2)(b:v.k≠14)(d:u.k≠10):aB u v=(u.k==v.k&&decide (u.es.length=v.es.length)&&(aU u v&&(u.es.zip v.es).all fun(e,f)=>aB e f)):=by
 rw[kd (by rw[cu h2 a];exact d),cu h2 a,cu c b]
theorem Form.lens{len:Nat}{u:U}{pos f:Nat}(h:Form len u pos f)(hk:u.k=1∨u.k=11∨u.k=15∨u.k=16):u.es= []:=by
 cases h with
 |basic _ _ _ h=>exact h
 |pre _ h=>exact h
 |err _ h _=>exact h
 |named _ _ _ h _ _=>exact h
 |one a _ _=>omega
 |ptr a _ _ _=>omega
 |_=>omega
theorem Form.oG{len:Nat}{u:U}{pos f:Nat}(h:Form len u pos f)(hk:u.k=7):0≤u.m∧u.m.toNat≤u.es.length:=by
 cases h with
 |func _ a b _=>exact⟨a,b⟩
 |pre a _=>omega
 |one a _ _=>omega
 |ptr a _ _ _=>omega
 |_=>omega
theorem Form.oH{len:Nat}{u:U}{pos f:Nat}(h:Form len u pos f)(hk:u.k=9):0≤u.n∧u.n<3:=by
 cases h with
 |ptr _ a b _=>exact⟨a,b⟩
 |pre a _=>omega
 |one a _ _=>omega
 |_=>omega
theorem uH{n m:Int}(h1:0≤n∧n<3)(h2:0≤m∧m<3)(h:fW n=fW m):n=m:=by
 have a:n=0∨n=1∨n=2:=by omega
 have b:m=0∨m=1∨m=2:=by omega
 rcases a with rfl|rfl|rfl<;>rcases b with rfl|rfl|rfl<;>first|rfl|(revert h;decide)
theorem uI{len:Nat}{p:Pm}{g:Ge}(R:mM g):∀{u v:U}{x:Value},Vt len u→Vt len v→Node p g u x→Node p g v x→aB u v=true:=by
 intro u;induction u using U.bg with
 |_ u ih=>
  intro v x hu N h k;obtain⟨b,D,ht,hx⟩:=hu.strip h;obtain⟨b',C,kt,S⟩:=N.strip k;have e:ae (bq (bare u).k) b=ae (bq (bare v).k) b':=by
   rcases hx with rfl|hx
   ·rcases S with e|S
    ·exact e
    ·obtain⟨_,e,_⟩:=S.start;injection e with w;exact absurd w ht
   ·rcases S with rfl|S
    ·obtain⟨_,e,_⟩:=hx.start;injection e with w;exact absurd w kt
    ·exact hx.unique S
  rw[←e]at C;have et:bq (bare u).k=bq (bare v).k:=by injection e
  rw[←qJ (jz hu) (jz N)];obtain⟨hu,u2,u14,hs⟩:=hu.bare;obtain⟨N,v2,M,_⟩:=N.bare;clear e S kt h k;generalize bare u=j at*;generalize bare v=o at*;have PY:=(D.tag u2 u14).2;have PZ:=(C.tag v2 M).2;have PW:=hu.aE;have PX:=N.aE;by_cases hN:j.k=11∨j.k=15∨j.k=16
  ·have PN:o.k=11∨o.k=15∨o.k=16:=by
    by_cases PM:o.k=11∨o.k=15∨o.k=16
    ·exact PM
    ·have:=eO et.symm ⟨v2,M,by omega,by omega,by omega,by omega,by omega,by omega,by omega⟩ ⟨u2,u14,by omega,by omega⟩
     omega
   obtain⟨f,T⟩:=hu.form;obtain⟨f',E⟩:=N.form;have w:=T.lens (by omega);have l:=E.lens (by omega);rw[ku u2 u14 v2 M (by omega),w,l];have hb:∀{a b:Nat},ae 58 a=ae 58 b→a=b:=fun h=>by cases h;rfl
   have F:∀{t a b:Nat}{x:Value},x=ae 58 a→x=ae 58 b→a=b:=fun h k=>hb (h.symm.trans k);rcases hN with h1|h1|h1<;>rcases PN with h2|h2|h2
   ·obtain⟨J,H,B,_⟩:=D.jy h1
    obtain⟨K,m1,m2,_⟩:=C.jy h2;have:=R.nb _ _ B m2 (F (t:=0) J K);have V:j.n=o.n:=by omega
    simp[h1,h2,aU,V]
   ·obtain⟨J,H,B,_⟩:=D.jy h1
    obtain⟨K,_⟩:=C.lu h2;exact absurd (F (t:=0) J K) (R.ne _ B)
   ·obtain⟨J,H,B,_⟩:=D.jy h1
    obtain⟨K,_⟩:=C.mL h2;exact absurd (F (t:=0) J K) (R.nc _ B)
   ·obtain⟨J,H,B,_⟩:=C.jy h2
    obtain⟨K,_⟩:=D.lu h1;exact absurd (F (t:=0) J K) (R.ne _ B)
   ·simp[h1,h2,aU]
   ·obtain⟨J,_⟩:=D.lu h1
    obtain⟨K,_⟩:=C.mL h2;exact absurd (F (t:=0) J K) R.ec
   ·obtain⟨J,H,B,_⟩:=C.jy h2
    obtain⟨K,_⟩:=D.mL h1;exact absurd (F (t:=0) J K) (R.nc _ B)
   ·obtain⟨J,_⟩:=C.lu h2
    obtain⟨K,_⟩:=D.mL h1;exact absurd (F (t:=0) J K) R.ec
   ·simp[h1,h2,aU]
  ·have PO:j.k=o.k:=eO et ⟨u2,u14,by omega,by omega,by omega,by omega,by omega,by omega,by omega⟩ ⟨v2,M,by omega,by omega⟩
   by_cases W:j.k=10
   ·obtain⟨c,w,h1⟩:=D.gT W
    obtain⟨c',l,h2⟩:=C.gT (by omega);rw[w]at l;cases l;rw[h1]at h2;cases h2;exact hu.refl
   ·rw[ku u2 u14 v2 M W]
    have key:j.es.length=o.es.length→aU j o=true→(∀i(h:i<j.es.length)(h':i<o.es.length),∃z,Node p g j.es[i] z∧Node p g o.es[i] z)→(j.k==o.k&&decide (j.es.length=o.es.length)&&(aU j o&&(j.es.zip o.es).all fun(e,f)=>aB e f))=true:=by
     intro h1 h2 h3;rw[h2,PO,h1];simp only[beq_self_eq_true,decide_true,Bool.true_and];rw[iC];intro i hi s;obtain⟨z,PQ,PR⟩:=h3 i hi s;have P0:=U.az (List.getElem_mem hi);exact ih j.es[i] (by omega) (hu.part W hi) (N.part (by omega) s) PQ PR
    have I:∀{e Q:U}{z:Value},j.es= [e]→o.es= [Q]→aU j o=true→Node p g e z→Node p g Q z→(j.k==o.k&&decide (j.es.length=o.es.length)&&(aU j o&&(j.es.zip o.es).all fun(e,f)=>aB e f))=true:=by
     intro e Q z h1 h2 h3 A Y;refine key (by rw[h1,h2];rfl) h3 fun i hi s=>⟨z,?_,?_⟩
     ·have:i=0:=by rw[h1]at hi;simpa using hi
      subst this;simpa [h1]using A
     ·have:i=0:=by rw[h1]at hi;simpa using hi
      subst this;simpa [h2]using Y
    have PS:j.k=1∨j.k=3∨j.k=4∨j.k=5∨j.k=6∨j.k=7∨j.k=8∨j.k=9:=by omega
    rcases PS with h|h|h|h|h|h|h|h
    ·obtain⟨c,w,h1⟩:=D.kp h
     obtain⟨c',l,h2⟩:=C.kp (by omega);rw[w]at l;cases l;rw[h1]at h2;have V:j.n=o.n:=by injection h2 with h2;injection h2 with _ h2;omega
     obtain⟨f,T⟩:=hu.form;obtain⟨f',E⟩:=N.form;have G:=T.lens (by omega);have L:=E.lens (by omega);exact key (by rw[G,L]) (by simp[aU,h,V]) fun i hi=>by rw[G]at hi;simp at hi
    ·obtain⟨c,e,z,w,G,h1,h3,H⟩:=D.kq h
     obtain⟨c',Q,z',l,L,h2,A,B⟩:=C.kq (by omega);rw[w]at l;cases l;rw[h1]at h2;rw[h3]at A;cases A;have V:j.n=o.n:=by injection h2 with h2;injection h2 with _ h2
     exact I G L (by simp[aU,h,V]) H B
    ·obtain⟨c,e,z,w,G,h3,H⟩:=D.mK h
     obtain⟨c',Q,z',l,L,A,B⟩:=C.mK (by omega);rw[w]at l;cases l;rw[h3]at A;cases A;exact I G L (by simp[aU,h]) H B
    ·obtain⟨c,a,a',d,d',f,xs,w,h1,h2,_,_,h3,A,Y,h6⟩:=D.ks h
     obtain⟨c',q,q',r,r',f',PT,l,O,X,_,_,Z,k4,k5,k6⟩:=C.ks (by omega);rw[w]at l;cases l;rw[h1]at O;rw[h2]at X;have hl:j.es.length=o.es.length:=by injection O with O;injection O
     have ha:a=q:=by injection O with O;injection O
     have PU:a'=q':=by injection X with X;injection X
     subst ha;subst PU;have P:∀i,i<j.es.length→f i=f' i:=fun i hi=>qI (b9.unique h3 (by rw[hl];exact Z) hi);refine key hl ?_ fun i hi s=>⟨xs i,h6 i hi,?_⟩
     ·unfold aU
      rw[if_neg (by omega),if_neg (by omega),if_pos h,iC];intro i hi s;have g1:=(Y i hi).2.1;have g2:=(k5 i s).2.1;rw[←P i hi,g1]at g2;obtain⟨b1,o1,w,g3⟩:=A i hi;obtain⟨b2,o2,l,g4⟩:=k4 i s;rw[w]at l;cases l;rw[g3]at g4;injection g2 with g2;injection g2 with g2
      injection g4 with g4;injection g4 with g4
      simp[g2,g4]
     ·have g1:=(Y i hi).2.2.1
      have g2:=(k5 i s).2.2.1;rw[←P i hi,g1]at g2;rw[Option.some.inj g2];exact k6 i s
    ·obtain⟨c,e,z,w,G,h3,H⟩:=D.oC h
     obtain⟨c',Q,z',l,L,A,B⟩:=C.oC (by omega);rw[w]at l;cases l;rw[h3]at A;cases A;exact I G L (by simp[aU,h]) H B
    ·obtain⟨c,pv,rv,f,xs,w,hm,h1,h2,h3,A,Y,h6,h7⟩:=D.lr h
     obtain⟨c',P1,P2,f',PT,l,km,O,X,Z,k4,k5,k6,k7⟩:=C.lr (by omega);rw[w]at l;cases l;rw[h1]at O;cases O;rw[h2]at X;cases X;rw[h3]at Z;obtain⟨t1,t2⟩:=A.unique k4;obtain⟨t3,t4⟩:=Y.unique k5;obtain⟨_,T⟩:=hu.form;obtain⟨_,E⟩:=N.form;have m1:=T.oG h;have m2:=E.oG (by omega);have em:j.m=o.m:=by omega
     have hl:j.es.length=o.es.length:=by omega
     have ev:j.v=o.v:=by injection Z with Z;injection Z
     refine key hl (by simp[aU,h,em,ev]) fun i hi s=>⟨xs i,h7 i hi,?_⟩
     have P:f i=f' i:=by
      by_cases PV:i<j.m.toNat
      ·exact t2 i PV
      ·have:=t4 (i- j.m.toNat) (by omega)
       rwa [show j.m.toNat+(i- j.m.toNat)=i by omega,show o.m.toNat+(i- j.m.toNat)=i by omega]at this
     have g1:=h6 i hi;have g2:=k6 i s;rw[←P,g1]at g2;rw[Option.some.inj g2];exact k7 i s
    ·obtain⟨c,d,e,y,z,w,G,h1,h3,H,B⟩:=D.oD h
     obtain⟨c',d',Q,y',z',l,L,h2,A,n3,n4⟩:=C.oD (by omega);rw[w]at l;cases l;rw[h1]at h2;cases h2;rw[h3]at A;cases A;refine key (by rw[G,L];rfl) (by simp[aU,h]) fun i hi s=> ?_;have:i=0∨i=1:=by rw[G]at hi;simp at hi;omega
     rcases this with rfl|rfl
     ·exact⟨y,by simpa [G]using H,by simpa [L]using n3⟩
     ·exact⟨z,by simpa [G]using B,by simpa [L]using n4⟩
    ·obtain⟨c,e,z,w,G,h1,h3,H⟩:=D.oE h
     obtain⟨c',Q,z',l,L,h2,A,B⟩:=C.oE (by omega);rw[w]at l;cases l;rw[h1]at h2;rw[h3]at A;cases A;obtain⟨_,T⟩:=hu.form;obtain⟨_,E⟩:=N.form;have V:j.n=o.n:=uH (T.oH h) (E.oH (by omega)) (by injection h2 with h2;injection h2);exact I G L (by simp[aU,h,V]) H B
structure iJ(p:Pm)(g:Ge)(c:Nat)(w:World):Prop where
 kw:KW p w
 pl:∀b o v,p b o=some v→Plain w b
 inj:mM g
 cap:br w
 c0:w.cell? ⟨c,0,none⟩=some (.bool false)
 c1:w.cell? ⟨c,1,none⟩=some (.bool false)
 done:∀b u,g.G b=some u→p b 0=some (.pointer none)∧cY p g b u
 po:∀i,i<g.len→∃o v,p (g.ob i) o=some v
 cH:∃o v,p g.eo o=some v
 cI:∃o v,p g.co o=some v
theorem iJ.b_{p:Pm}{g:Ge}{c:Nat}{w a:World}(h:iJ p g c w)(k:au w a):iJ p g c a:=
 ⟨k.kw h.kw,fun b o v d=>k.plain (h.pl b o v d),h.inj,k.cap h.cap,k.cell h.c0,k.cell h.c1,h.done,h.po,h.cH,h.cI⟩
inductive fY (g:Ge) (w:World) (n m:Nat):Value→Prop
 |nil:fY g w n m (.pointer none)
 |cons {s x y:Nat} {u v:U} {q:Value}:w.cell? ⟨s,0,none⟩=some (ptr x)→w.cell? ⟨s,1,none⟩=some (ptr y)→w.cell? ⟨s,2,none⟩=some q→g.G x=some u→g.G y=some v→n<u.sz→m<v.sz→kA q<s+1→fY g w n m q→fY g w n m (ptr s)
theorem fY.mono{g:Ge}{w:World}{n m a b:Nat}{q:Value}(h:fY g w n m q)(f:a≤n)(hm:b≤m):fY g w a b q:=by
 induction h with
 |nil=>exact .nil
 |cons h1 h2 h3 c d i h7 e _ ih=>exact .cons h1 h2 h3 c d (by omega) (by omega) e ih
theorem fY.b_{g:Ge}{w a:World}{n m:Nat}{q:Value}(h:fY g w n m q)(k:au w a):fY g a n m q:=by
 induction h with
 |nil=>exact .nil
 |cons h1 h2 h3 b c d h7 e _ ih=>exact .cons (k.cell h1) (k.cell h2) (k.cell h3) b c d h7 e ih
theorem fY.shape{g:Ge}{w:World}{n m:Nat}{q:Value}(h:fY g w n m q):q= .pointer none∨∃s,q= .pointer (some ⟨s,0,none⟩):=by
 cases h with
 |nil=>exact .inl rfl
 |cons=>exact .inr ⟨_,rfl⟩
end TS
namespace Go.Proofs.YtdkmnkjhhhmglaaGreatDoor
open Go.RowKit TS
theorem mV(k:Int):bV (bq k):=by
 unfold bq;repeat' split
 ·exact Co
 ·exact Cp
 ·exact Cq
 ·exact Cr
 ·exact Cs
 ·exact Ct
 ·exact Cu
 ·exact Cv
 ·exact mS
 ·exact vA
 ·exact Cw
theorem oT(t b:Nat)(x:Value)(p:Pm)(d:t≠136)(a:x=ae t b∨AC p x (ae t b))(w:World)(hw:KW p w):
 Calls Tryz.prog 94 #[x] w fun e f=>e= .returned (.iface t (.pointer (some ⟨b,0,none⟩)))∧w=f:=by
 rcases a with rfl|a
 ·exact d_ t _ d w
 ·obtain⟨c,rfl,h3⟩:=a.start
  exact A7 c t _ w (hw _ _ _ h3)
end Go.Proofs.YtdkmnkjhhhmglaaGreatDoor
namespace TS
open Go Go.RowKit Go.Proofs.YtdkmnkjhhhmglaaGreatDoor
theorem jE{a b c:U}(h:a.nm.toList=b.nm.toList):bC a c=bC b c:=by unfold bC;rw[h]
theorem vN{a b c:U}(h:a.nm.toList=b.nm.toList):bC c a=bC c b:=by unfold bC;rw[h]
theorem qW:∀{l r:List U},dF l→dF r→l.length=r.length→(∀m∈r,∃f∈l,f.nm.toList=m.nm.toList)→∀(i:Nat)(h:i<l.length)(q:i<r.length),l[i].nm.toList=r[i].nm.toList:=by
 intro l;induction l with
 |nil=>intro r _ _ _ _ i h;simp at h
 |cons a l ih=>
  intro r u hr s hm;match r,hr,s,hm with
  |b::r,hr,s,hm=>
   have j:=List.pairwise_cons.1 u;have g:=List.pairwise_cons.1 hr;have k:a.nm.toList=b.nm.toList:=by
    obtain⟨f,d,e⟩:=hm b List.mem_cons_self;rcases List.mem_cons.1 d with rfl|d
    ·exact e
    ·exfalso
     have n:bC a b=true:=by rw[←vN e];exact j.1 f d
     have o:∀m∈b::r,∃f∈l,f.nm.toList=m.nm.toList:=fun m c=>by
      obtain⟨f,d,e⟩:=hm m c;rcases List.mem_cons.1 d with rfl|d
      ·exfalso
       have:bC f m=true:=by
        rcases List.mem_cons.1 c with rfl|c
        ·exact n
        ·exact im n (g.1 m c)
       rw[jE e,gA]at this;cases this
      ·exact⟨f,d,e⟩
     have hnd:((b::r).map fun m=>m.nm.toList).Nodup:=List.pairwise_map.2 (hr.noTwo.imp fun{x y} p e=>by rw[fE.2 e]at p;cases p);have:=nT hnd (r:=l.map fun m=>m.nm.toList) fun x v=>by
      obtain⟨m,c,rfl⟩:=List.mem_map.1 v;obtain⟨f,d,e⟩:=o m c;rw[←e];exact List.mem_map_of_mem d
     simp at this s;omega
   have t:=ih j.2 g.2 (by simpa using s) fun m c=>by
    obtain⟨f,d,e⟩:=hm m (List.mem_cons_of_mem _ c);rcases List.mem_cons.1 d with rfl|d
    ·exfalso
     have:=g.1 m c;rw[←jE k,jE e,gA]at this;cases this
    ·exact⟨f,d,e⟩
   intro i h q;match i,h,q with
   |0,_,_=>exact k
   |i+1,h,q=>exact t i (by simpa using h) (by simpa using q)
theorem C5{l r:List U}(o:dF l)(hr:dF r)(s:l.length=r.length){rs:Nat→Bool}(c:∀(i:Nat)(h:i<l.length)(t:i<r.length),rs i=aB l[i] r[i])
 {nm d:Nat→ByteArray}(h1:∀(i:Nat)(h:i<l.length),nm i=l[i].nm)(h2:∀(i:Nat)(h:i<r.length),d i=r[i].nm):bJ l.length (fK nm d rs)=hasB l r:=by
 rw[Bool.eq_iff_iff];constructor
 ·intro ha
  unfold hasB;rw[List.all_eq_true];intro m hm;obtain⟨i,hi,rfl⟩:=List.getElem_of_mem hm;have a:i<l.length:=by omega
  unfold bJ at ha;rw[List.all_eq_true]at ha;have:=ha i (List.mem_range.2 a);unfold fK at this;rw[h1 i a,h2 i hi,c i a hi,Bool.and_eq_true]at this;rw[List.any_eq_true];exact⟨l[i],List.getElem_mem a,by rw[fE.2 (by simpa using this.1),this.2];rfl⟩
 ·intro k
  unfold hasB at k;rw[List.all_eq_true]at k;have hex:∀m∈r,∃f∈l,f.nm.toList=m.nm.toList∧aB f m=true:=fun m hm=>by
   obtain⟨f,g,h⟩:=List.any_eq_true.1 (k m hm);rw[Bool.and_eq_true]at h;exact⟨f,g,fE.1 h.1,h.2⟩
  have b:=qW o hr s fun m hm=>let⟨f,g,e,_⟩:=hex m hm;⟨f,g,e⟩;refine kC fun i hi=> ?_;have a:i<r.length:=by omega
  unfold fK;rw[h1 i hi,h2 i a,c i hi a,b i hi a];obtain⟨f,g,e,hid⟩:=hex r[i] (List.getElem_mem a);obtain⟨j,p,rfl⟩:=List.getElem_of_mem g;have n:j=i:=by
   have q:=List.pairwise_iff_getElem.1 o;rcases Nat.lt_trichotomy j i with h|h|h
   ·have:=q j i p hi h
    rw[jE (e.trans (b i hi a).symm),gA]at this;cases this
   ·exact h
   ·have:=q i j hi p h
    rw[vN (e.trans (b i hi a).symm),gA]at this;cases this
  subst n;simp[hid]
theorem oU{len:Nat}:∀{u:U}{pos f:Nat},Pl len u pos f→f≤2→f≠0→u.k≠12→u.k≠13→∀m∈ai u,aM m.nm=true:=by
 intro u;induction u using U.bg with
 |_ u ih=>
  intro pos f h n d g i m hm;obtain⟨q,o,l,b,hk,p⟩:=h.under n d g i;obtain⟨c,hm⟩:=iu hm;rcases hm with hm|⟨e,he,a,hm⟩
  ·exact(b.ju c hm).2.1
  ·have j:=b.elem c he
   have h1:=U.az (List.mem_of_mem_drop he);have h2:=dE u;unfold aQ at a;simp only[Bool.and_eq_true,bne_iff_ne,ne_eq]at a;exact ih e (by omega) j (by omega) (by omega) a.1.1 a.1.2 m hm
theorem Vt.oU{len:Nat}{u:U}(h:Vt len u)(b:u.k=10){m:U}(hm:m∈ai u):aM m.nm=true:=by
 obtain⟨f,e,g⟩:=h.pl;obtain⟨f1,c,a,d⟩:=g.jx e b;exact TS.oU d c a (by omega) (by omega) m hm
theorem Vt.oV{len:Nat}{u:U}(h:Vt len u)(b:u.k=10):dF (ai u):=by
 obtain⟨f,e,g⟩:=h.pl;obtain⟨f1,c,a,d⟩:=g.jx e b;exact lk d c a (by omega) (by omega)
theorem AC.val{p:Pm}{x y:Value}(h:AC p x y):∃t b,x=ae t b:=by obtain⟨b,rfl,_⟩:=h.start;exact⟨_,_,rfl⟩
theorem Node.val{p:Pm}{g:Ge}{u:U}{x:Value}(h:Node p g u x):∃t b,x=ae t b:=by
 induction h with
 |alias _ h _ _=>exact h.val
 |any _ _ ih=>exact ih
 |basic=>exact⟨_,_,rfl⟩
 |array=>exact⟨_,_,rfl⟩
 |slice=>exact⟨_,_,rfl⟩
 |struct=>exact⟨_,_,rfl⟩
 |pointer=>exact⟨_,_,rfl⟩
 |func=>exact⟨_,_,rfl⟩
 |map=>exact⟨_,_,rfl⟩
 |chan=>exact⟨_,_,rfl⟩
 |iface=>exact⟨_,_,rfl⟩
 |iD=>exact⟨_,_,rfl⟩
 |named=>exact⟨_,_,rfl⟩
 |union=>exact⟨_,_,rfl⟩
 |err=>exact⟨_,_,rfl⟩
 |comp=>exact⟨_,_,rfl⟩
theorem Node.plain{p:Pm}{g:Ge}{c:Nat}{w:World}{u:U}{t b:Nat}(a:iJ p g c w)(h:Node p g u (ae t b))(h2:u.k≠2)(d:u.k≠14):Plain w b:=by
 cases h with
 |alias h _ _=>exact absurd h h2
 |any h _=>exact absurd h d
 |basic _ h=>exact a.pl _ _ _ h
 |array _ _ h _ _=>exact a.pl _ _ _ h
 |slice _ _ h _=>exact a.pl _ _ _ h
 |struct _ h=>exact a.pl _ _ _ h
 |pointer _ _ h _=>exact a.pl _ _ _ h
 |func _ _ h=>exact a.pl _ _ _ h
 |map _ _ h _ _ _=>exact a.pl _ _ _ h
 |chan _ _ h _ _=>exact a.pl _ _ _ h
 |iface _ h=>exact a.pl _ _ _ (a.done _ _ h).1
 |iD _ _ _ _ h=>exact a.pl _ _ _ h
 |named _ _ _ _ h=>exact a.pl _ _ _ h
 |union _ h=>exact a.pl _ _ _ h
 |err _ _ h=>exact a.pl _ _ _ h
 |comp _ h=>exact a.pl _ _ _ h
theorem C6{u v:U}(h:(bare u).k≠(bare v).k):aB u v=false:=by
 by_cases a:(bare u).k=10
 ·rw[kc a,show((bare v).k==10)=false by simp;omega];rfl
 ·rw[kd a,show((bare u).k==(bare v).k)=false by simpa using h];rfl
end TS
