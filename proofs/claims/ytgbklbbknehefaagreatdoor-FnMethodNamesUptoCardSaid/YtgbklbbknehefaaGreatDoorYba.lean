import Derived.Test.YtgbklbbknehefaaGreatDoorYax
import Derived.Test.YtgbklbbknehefaaGreatDoorYaz
set_option maxRecDepth 100000
set_option maxHeartbeats 8000000
set_option linter.all false
namespace TS
open Go Go.RowKit
structure Env(D:Dl)(T:List U)(NS:List (List UInt8))(i:Nat):Prop where
 len:T.length=D.len
 ok:∀t∈T,ke D.len t
 bB:∀j(h:j<T.length),bc T j 1 T[j]
 mt:∀j(h:j<T.length),j<i→mt T .type T[j] true=true
 aB:∀t∈T,Names NS t
 cI:NS.length≤1048576
def dX(p:Pm)(D:Dl)(T:List U):Prop:=∀n(h:n<T.length),∃b d,D.a=some ⟨b,d,none⟩∧∃a c,cO p b (d+n*8) T[n] a c∧ai p D T[n] a c
theorem dX.sub{p q:Pm}{D:Dl}{T:List U}(h:dX p D T)(hk:Sub p q):dX q D T:=fun n b=>let⟨g,d,e,a,c,h7,hu⟩:=h n b;⟨g,d,e,a,c,h7.sub hk,ai.sub hk _ hu⟩
structure b7(D:Dl)(T:List U)(NS:List (List UInt8))(i:Nat)(u:U)(pos f:Nat):Prop where
 pl:Pl D.len u pos f
 f2:f≤2
 bB:bc T i f u
 aB:Names NS u
 dep:u.dep≤1125899906842624
section
variable {D:Dl} {T:List U} {NS:List (List UInt8)} {i:Nat} {u:U} {pos f:Nat}
theorem b7.part(h:b7 D T NS i u pos f)(j:Nat)(a:j<u.es.length):b7 D T NS i u.es[j] (aS u j) (aI u j f):=
 ⟨h.pl.part j a,eA,h.bB.part j a,(h.aB.es (List.getElem_mem a)).2,by have:=U.ku (List.getElem_mem a);have:=h.dep;omega⟩
theorem b7.lQ(h:b7 D T NS i u pos f)(b:u.k≠10)(a:u.k≠12)(j:Nat)(c:j<u.es.length):b7 D T NS i u.es[j] 0 (aI u j f):=by
 have:=h.part j c;rwa [show aS u j=0 by unfold aS;rw[if_neg a,if_neg (by omega)]]at this
theorem b7.elem(h:b7 D T NS i u pos f)(a:u.k=10){e:U}(he:e∈u.es.drop u.m.toNat):b7 D T NS i e 2 2:=by
 obtain⟨j,c,b,rfl⟩:=nA he;have:=h.part j c;rw[show aS u j=2 by unfold aS;rw[if_neg (by omega),if_pos ⟨a,b⟩]]at this;rwa [show aI u j f=2 by unfold aI;split;rfl;rw[if_pos ⟨a,b⟩]]at this
theorem b7.ij(h:b7 D T NS i u pos f)(a:u.k=10){e:U}(he:e∈u.es.take u.m.toNat):∃b,b7 D T NS i e 0 b:=by
 obtain⟨j,c,d,rfl⟩:=qu he;have:=h.part j c;rw[show aS u j=0 by unfold aS;rw[if_neg (by omega),if_neg (by omega)]]at this;exact⟨_,this⟩
theorem b7.union(h:b7 D T NS i u pos f)(a:u.k=12){e:U}(he:e∈u.es):∃b,b7 D T NS i e 1 b∧(f=2→b=2):=by
 obtain⟨j,c,rfl⟩:=List.getElem_of_mem he;have:=h.part j c;rw[show aS u j=1 by unfold aS;rw[if_pos a]]at this;exact⟨_,this,fun d=>by unfold aI;rw[if_pos d]⟩
end
theorem bc.bare{len:Nat}{T:List U}{i:Nat}:∀{u:U}{pos f:Nat},Pl len u pos f→f≤2→u.k≠12→u.k≠13→bc T i f u→bc T i f (TS.bare u):=by
 intro u;induction u using U.bg with
 |_ u ih=>
  intro pos f g j d n l;by_cases h2:u.k=2
  ·obtain⟨e,he⟩:=cT (g.form.eQ h2)
   have m:0<u.es.length:=by rw[he];simp
   have o:u.es[0]=e:=by simp[he]
   have a:=g.ig (by omega) d 0 m;have b:=l.part 0 m;rw[o,gX j (.inl h2)]at a b;rw[iR h2 he];exact ih e (U.au (by rw[he];simp)) a j a.form.aA.1 a.form.aA.2 b
  ·by_cases c:u.k=14
   ·rw[gd c]
    exact qk rfl (by decide) (fun h=>by simp[br,U.k]at h)
   ·rw[ca h2 c];exact l
theorem nW{D:Dl}{T:List U}{NS:List (List UInt8)}{i:Nat}(E:Env D T NS i){u:U}{pos f:Nat}(h:b7 D T NS i u pos f)(l:f≠0)(b:u.k≠12)(c:u.k≠13)(hm:mt T .type u false=true)(hi:isIface u=false):
 aM u∧aM (under u):=by
 have o:=(jE E.ok E.bB E.mt u pos f false i (Nat.le_refl _) h.bB h.pl h.f2 b c hm).2 (kg u pos f h.bB h.pl h.f2 b c hm);refine⟨o,?_⟩;have m:=o.bare h.pl;have g:=h.bB.bare h.pl h.f2 b c;unfold isIface at hi;simp only[Bool.or_eq_false_iff,beq_eq_false_iff_ne,ne_eq]at hi;by_cases d:(bare u).k=11
 ·have p:=g.named d
  rw[if_neg l]at p;obtain⟨h1,h2,h3⟩:=p;have hu:=gY d h3;rw[hu]at hi⊢;have a:=E.ok _ (List.getElem_mem h1);have j:under T[(bare u).n.toNat]=T[(bare u).n.toNat]:=cB a.jC (by have:=a.hi;omega) (by have:=a.hi;omega) (by have:=a.hi;omega);refine(jE E.ok E.bB E.mt _ 0 1 true i (Nat.le_refl _) ((E.bB _ h1).mono (by omega)) a.pl (by omega) (by have:=a.hi;omega) (by have:=a.hi;omega) (E.mt _ h1 h2)).2 ?_;rw[fD (by rw[j];exact hi.1),j];simp[hi.2]
 ·by_cases e:(bare u).k=15
  ·rw[gZ e (g.err e)]at hi
   exact absurd rfl hi.1
  ·rw[gh d e];exact m
theorem qX{D:Dl}{T:List U}{NS:List (List UInt8)}{i:Nat}(E:Env D T NS i){x:U}{pos:Nat}{g:Bool}(h:b7 D T NS i x pos 2)(b:x.k≠12)(hm:mt T .term x g=true)(hi:isIface (aC x)=false):
 aM (aC x)∧aM (under (aC x)):=by
 by_cases a:x.k=13
 ·have h1:=h.pl.form.gM a
  obtain⟨e,he⟩:=cT h1;have d:=h.lQ (by omega) b 0 (by omega);have j:x.es[0]'(by omega)=e:=by simp[he]
  rw[j,show aI x 0 2=2 by unfold aI;rw[if_pos rfl]]at d;rw[kc a,he]at hm;have c:(mt T .type e false=true∧isIface e=false)∧aE e (under e)=true:=by simpa using hm
  rw[gL a he];exact nW E d (by omega) d.pl.form.aA.1 d.pl.form.aA.2 c.1.1 c.1.2
 ·rw[eD a]at hi⊢
  rw[gJ a,hi]at hm;exact nW E h (by omega) b a hm hi
theorem wT{p:Pm}{D:Dl}{T:List U}{u:U}{a:Option Addr}{c:Nat}(hT:dX p D T)(hu:ai p D u a c):ai p D (cQ T u) a c:=by
 unfold cQ;split
 ·rename_i hk
  cases u with
  |mk k n m v nm tg es un=>
   simp only[np,ai,U.n]at hu⊢;refine⟨hu.1,hu.2.1,fun h1 h2 h3=> ?_⟩;obtain⟨l,d,e,_⟩:=hu.2.2 h1 h2 h3;refine⟨l,d,e,?_⟩;cases o:T[n.toNat]? with
   |none=>simp only[Option.toList_none,ef]
   |some t=>
    obtain⟨g,h⟩:=List.getElem?_eq_some_iff.1 o;obtain⟨q,d',j,a',c',h7,b⟩:=hT n.toNat g;rw[e]at j;simp only[Option.some.injEq,Addr.mk.injEq]at j;obtain⟨rfl,rfl,_⟩:=j;simp only[Option.toList_some,ef];rw[h]at h7 b;exact⟨a',c',h7,b⟩
 ·exact hu
theorem qY(T:List U)(u:U):(cQ T u).k=u.k∧(cQ T u).n=u.n∧(cQ T u).m=u.m∧(cQ T u).v=u.v∧(cQ T u).nm=u.nm∧(cQ T u).tg=u.tg∧(cQ T u).es=u.es:=by
 unfold cQ;split
 ·cases u;exact⟨rfl,rfl,rfl,rfl,rfl,rfl,rfl⟩
 ·exact⟨rfl,rfl,rfl,rfl,rfl,rfl,rfl⟩
theorem b7.cQ{D:Dl}{T:List U}{NS:List (List UInt8)}{i:Nat}(E:Env D T NS i){u:U}{pos f:Nat}(h:b7 D T NS i u pos f)(q:u.k≠10)(h2:u.k≠2)(r:u.k≠12)(s:u.k≠13):
 u.k=11→Pl D.len (TS.cQ T u) 0 1:=fun a=>by
 obtain⟨⟨d,g⟩,c,_,_⟩:=h.pl.form.jw a;obtain⟨t,m,v,w,x,y,o⟩:=qY T u;have l:u.n.toNat<T.length:=by have:=E.len;omega
 have b:(TS.cQ T u).un= [T[u.n.toNat]]:=by
  unfold TS.cQ;rw[if_pos a,List.getElem?_eq_getElem l];cases u;rfl
 refine eS (.named (by rw[t];exact a) (by rw[m];exact d) (by rw[m];exact g) (by rw[o];exact c) (by rw[b];simp) (fun _=>by rw[b];simp)) (fun j p=>by rw[o,c]at p;simp at p) fun _ e he=> ?_;rw[b]at he;simp only[List.mem_singleton]at he;have:=E.ok e (by rw[he];exact List.getElem_mem _);exact⟨⟨this.lo,this.hi,this.jC⟩,this.pl⟩
structure Ge where
 nb:Nat→Nat
 ob:Nat→Nat
 len:Nat
 eb:Nat
 eo:Nat
 cb:Nat
 co:Nat
 pk:Nat
 G:Nat→Option U
def cV:U:= .mk 16 0 0 false ByteArray.empty ByteArray.empty [] []
abbrev ptr(b:Nat):Value:= .pointer (some ⟨b,0,none⟩)
abbrev ae(t b:Nat):Value:= .iface t (.pointer (some ⟨b,0,none⟩))
def bK(p:Pm)(a:Option Addr)(n:Nat)(f:Nat→Value):Prop:=∀i,i<n→∃b o,a=some ⟨b,o,none⟩∧p b (o+i)=some (f i)
theorem bK.sub{p q:Pm}{a:Option Addr}{n:Nat}{f:Nat→Value}(h:bK p a n f)(hk:Sub p q):bK q a n f:=fun i hi=>let⟨b,o,e,c⟩:=h i hi;⟨b,o,e,hk _ _ _ c⟩
def dR(p:Pm)(b:Nat)(x:Value):Prop:=p b 5=some (.int .u32 15)∧p b 6=some x∧p b 7=some x
theorem dR.sub{p q:Pm}(hk:Sub p q){b:Nat}{x:Value}(h:dR p b x):dR q b x:=⟨hk _ _ _ h.1,hk _ _ _ h.2.1,hk _ _ _ h.2.2⟩
def dS(p:Pm)(v:Value)(n:Nat)(f:Nat→Nat):Prop:=
 (n=0∧v= .pointer none)∨(0<n∧∃tb a c,v=ptr tb∧p tb 0=some (.slice a n c)∧n≤c∧bK p a n fun i=>ptr (f i))
theorem dS.sub{p q:Pm}{v:Value}{n:Nat}{f:Nat→Nat}(h:dS p v n f)(hk:Sub p q):dS q v n f:=
 h.imp id fun⟨h1,tb,a,c,e,h2,h3,b⟩=>⟨h1,tb,a,c,e,hk _ _ _ h2,h3,b.sub hk⟩
def eU(n:Int):Int:=if n=1 then 1 else if n=2 then 2 else 0
def bk(u:U):List (Bool×U):=if u.k=12 then u.es.map fun e=>(e.k==13,aC e)else [(true,aC u)]
inductive AC (p:Pm):Value→Value→Prop
 |last {b:Nat} {t c:Nat}:t≠139→p b 2=some (ae t c)→p b 3=some (ae t c)→AC p (ae 139 b) (ae t c)
 |next {b c:Nat} {y:Value}:p b 2=some (ae 139 c)→c<b→p b 3=some y→AC p (ae 139 c) y→AC p (ae 139 b) y
theorem AC.sub{p q:Pm}(hk:Sub p q){x y:Value}(h:AC p x y):AC q x y:=by
 induction h with
 |last h1 h2 h3=>exact .last h1 (hk _ _ _ h2) (hk _ _ _ h3)
 |next h1 h2 h3 _ ih=>exact .next (hk _ _ _ h1) h2 (hk _ _ _ h3) ih
inductive Node (p:Pm) (g:Ge):U→Value→Prop
 |basic {u:U} {b:Nat}:u.k=1→p b 0=some (.int .i64 (u.n+1))→Node p g u (ae 105 b)
 |alias {u:U} {x y:Value}:u.k=2→AC p x y→Node p g (bare u) y→Node p g u x
 |any {u:U} {x:Value}:u.k=14→Node p g br x→Node p g u x
 |array {u e:U} {b:Nat} {x:Value}:u.k=3→u.es= [e]→p b 0=some (.int .i64 u.n)→p b 1=some x→Node p g e x→Node p g u (ae 141 b)
 |slice {u e:U} {b:Nat} {x:Value}:u.k=4→u.es= [e]→p b 0=some x→Node p g e x→Node p g u (ae 143 b)
 |struct {u:U} {b:Nat} {a a':Option Addr} {c c':Nat} {f:Nat→Nat} {xs:Nat→Value}:u.k=5→
  p b 0=some (.slice a u.es.length c)→p b 1=some (.slice a' u.es.length c')→u.es.length≤c→u.es.length≤1099511627776→bK p a u.es.length (fun i=>ptr (f i))→(∀i(h:i<u.es.length),∃b o,a'=some ⟨b,o,none⟩∧p b (o+i)=some (.string u.es[i].tg))→
  (∀i(h:i<u.es.length),p (f i) 1=some (ptr g.pk)∧p (f i) 2=some (.string u.es[i].nm)∧p (f i) 3=some (xs i)∧p (f i) 5=some (.bool false))→
  (∀i(h:i<u.es.length),Node p g u.es[i] (xs i))→Node p g u (ae 213 b)
 |pointer {u e:U} {b:Nat} {x:Value}:u.k=6→u.es= [e]→p b 0=some x→Node p g e x→Node p g u (ae 145 b)
 |func {u:U} {b:Nat} {pv rv:Value} {f:Nat→Nat} {xs:Nat→Value}:u.k=7→(u.m.toNat≤u.es.length∧u.es.length≤1099511627776)→p b 2=some pv→p b 3=some rv→p b 4=some (.bool u.v)→
  dS p pv u.m.toNat f→dS p rv (u.es.length- u.m.toNat) (fun i=>f (u.m.toNat+i))→(∀i,i<u.es.length→p (f i) 3=some (xs i))→
  (∀i(h:i<u.es.length),Node p g u.es[i] (xs i))→Node p g u (ae 108 b)
 |map {u d e:U} {b:Nat} {x y:Value}:u.k=8→u.es= [d,e]→p b 0=some x→p b 1=some y→Node p g d x→Node p g e y→Node p g u (ae 147 b)
 |chan {u e:U} {b:Nat} {x:Value}:u.k=9→u.es= [e]→p b 0=some (.int .i64 (eU u.n))→p b 1=some x→Node p g e x→Node p g u (ae 149 b)
 |iface {u:U} {b:Nat}:u.k=10→g.G b=some u→Node p g u (ae 33 b)
 |gm {u:U}:u.k=11→0≤u.n→u.n.toNat<g.len→u.un= []→p (g.nb u.n.toNat) 1=some (ptr (g.ob u.n.toNat))→Node p g u (ae 66 (g.nb u.n.toNat))
 |named {u y:U} {x:Value}:u.k=11→0≤u.n→u.n.toNat<g.len→u.un= [y]→p (g.nb u.n.toNat) 1=some (ptr (g.ob u.n.toNat))→dR p (g.nb u.n.toNat) x→Node p g y x→Node p g u (ae 66 (g.nb u.n.toNat))
 |union {u:U} {b:Nat} {a:Option Addr} {c:Nat} {f:Nat→Nat} {xs:Nat→Value}:u.k=12∨u.k=13→p b 0=some (.slice a (bk u).length c)→(bk u).length≤c→bK p a (bk u).length (fun i=>ptr (f i))→
  (∀i(h:i<(bk u).length),p (f i) 0=some (.bool (bk u)[i].1)∧p (f i) 1=some (xs i))→(∀i(h:i<(bk u).length),Node p g (bk u)[i].2 (xs i))→Node p g u (ae 189 b)
 |err {u:U} {x:Value}:u.k=15→u.un= [aF]→p g.eb 1=some (ptr g.eo)→dR p g.eb x→Node p g aF x→Node p g u (ae 66 g.eb)
 |comp {u:U} {b:Nat}:u.k=16→p g.cb 1=some (ptr g.co)→dR p g.cb (ae 33 b)→g.G b=some cV→Node p g u (ae 66 g.cb)
structure aD(g a:Ge):Prop where
 nb:a.nb=g.nb
 ob:a.ob=g.ob
 len:a.len=g.len
 eb:a.eb=g.eb
 eo:a.eo=g.eo
 cb:a.cb=g.cb
 co:a.co=g.co
 pk:a.pk=g.pk
 G:∀b u,g.G b=some u→a.G b=some u
theorem aD.refl(g:Ge):aD g g:=⟨rfl,rfl,rfl,rfl,rfl,rfl,rfl,rfl,fun _ _ h=>h⟩
theorem aD.trans{a b c:Ge}(h:aD a b)(k:aD b c):aD a c:=
 ⟨k.nb.trans h.nb,k.ob.trans h.ob,k.len.trans h.len,k.eb.trans h.eb,k.eo.trans h.eo,k.cb.trans h.cb,k.co.trans h.co,k.pk.trans h.pk,fun b u x=>k.G b u (h.G b u x)⟩
theorem Node.sub{p q:Pm}{g r:Ge}(hk:Sub p q)(f:aD g r){u:U}{x:Value}(h:Node p g u x):Node q r u x:=by
 induction h with
 |basic h1 h2=>exact .basic h1 (hk _ _ _ h2)
 |alias h1 h2 _ ih=>exact .alias h1 (h2.sub hk) ih
 |any h1 _ ih=>exact .any h1 ih
 |array h1 h2 h3 j _ ih=>exact .array h1 h2 (hk _ _ _ h3) (hk _ _ _ j) ih
 |slice h1 h2 h3 _ ih=>exact .slice h1 h2 (hk _ _ _ h3) ih
 |struct h1 h2 h3 c1 c2 j k l _ ih=>
  exact .struct h1 (hk _ _ _ h2) (hk _ _ _ h3) c1 c2 (j.sub hk) (fun i hi=>let⟨b,o,e,s⟩:=k i hi;⟨b,o,e,hk _ _ _ s⟩) (fun i hi=>let⟨a,b,c,d⟩:=l i hi;⟨by rw[f.pk];exact hk _ _ _ a,hk _ _ _ b,hk _ _ _ c,hk _ _ _ d⟩) ih
 |pointer h1 h2 h3 _ ih=>exact .pointer h1 h2 (hk _ _ _ h3) ih
 |func h1 h2 h3 j k l h7 t _ ih=>exact .func h1 h2 (hk _ _ _ h3) (hk _ _ _ j) (hk _ _ _ k) (l.sub hk) (h7.sub hk) (fun i hi=>hk _ _ _ (t i hi)) ih
 |map h1 h2 h3 j _ _ m n=>exact .map h1 h2 (hk _ _ _ h3) (hk _ _ _ j) m n
 |chan h1 h2 h3 j _ ih=>exact .chan h1 h2 (hk _ _ _ h3) (hk _ _ _ j) ih
 |iface h1 h2=>exact .iface h1 (f.G _ _ h2)
 |gm h1 h2 h3 j k=>rw[←f.nb];exact .gm h1 h2 (by rw[f.len];exact h3) j (by rw[f.nb,f.ob];exact hk _ _ _ k)
 |named h1 h2 h3 j k l _ ih=>rw[←f.nb];exact .named h1 h2 (by rw[f.len];exact h3) j (by rw[f.nb,f.ob];exact hk _ _ _ k) (by rw[f.nb];exact l.sub hk) ih
 |union h1 h2 c1 h3 j _ ih=>exact .union h1 (hk _ _ _ h2) c1 (h3.sub hk) (fun i hi=>let⟨a,b⟩:=j i hi;⟨hk _ _ _ a,hk _ _ _ b⟩) ih
 |err h1 h2 h3 j _ ih=>rw[←f.eb];exact .err h1 h2 (by rw[f.eb,f.eo];exact hk _ _ _ h3) (by rw[f.eb];exact j.sub hk) ih
 |comp h1 h2 h3 j=>rw[←f.cb];exact .comp h1 (by rw[f.cb,f.co];exact hk _ _ _ h2) (by rw[f.cb];exact h3.sub hk) (f.G _ _ j)
def cL(p:Pm)(g:Ge)(m:U)(f:Nat):Prop:=∃a,(∃q,p f 1=some (.pointer q))∧p f 2=some (.string m.nm)∧p f 3=some (ae 108 a)∧Node p g m (ae 108 a)
theorem cL.sub{p q:Pm}{g a:Ge}(hk:Sub p q)(b:aD g a){m:U}{f:Nat}(h:cL p g m f):cL q a m f:=
 let⟨c,h1,h2,h3,d⟩:=h;⟨c,let⟨q,h⟩:=h1;⟨q,hk _ _ _ h⟩,hk _ _ _ h2,hk _ _ _ h3,d.sub hk b⟩
structure eV(p:Pm)(g:Ge)(b:Nat)(u:U):Prop where
 ck:p b 0=some (.pointer none)
 ms:u.m.toNat≤u.es.length∧∃(a:Option Addr)(c:Nat)(f:Nat→Nat),p b 1=some (.slice a u.m.toNat c)∧u.m.toNat≤c∧u.es.length≤1099511627776∧bK p a u.m.toNat (fun i=>ptr (f i))∧∀i(h:i<u.m.toNat)(d:i<u.es.length),cL p g u.es[i] (f i)∧p (f i) 0=some (.int .i64 0)
 el:∃(a:Option Addr)(c:Nat)(xs:Nat→Value),p b 2=some (.slice a (u.es.length- u.m.toNat) c)∧u.es.length- u.m.toNat≤c∧u.es.length≤1099511627776∧bK p a (u.es.length- u.m.toNat) xs∧(∀i(h:u.m.toNat+i<u.es.length),Node p g u.es[u.m.toNat+i] (xs i))∧
  ∀i j,i<j→u.m.toNat+j<u.es.length→((u.es.getD (u.m.toNat+j) default).k=12∨(u.es.getD (u.m.toNat+j) default).k=13)→xs i≠xs j
 ps:p b 3=some (.pointer none)
 cm:p b 5=some (.bool true)
theorem eV.sub{p q:Pm}{g k:Ge}(hk:Sub p q)(l:aD g k){b:Nat}{u:U}(h:eV p g b u):eV q k b u where
 ck:=hk _ _ _ h.ck
 ms:=let⟨m,a,c,f,h1,h2,h3,j,e⟩:=h.ms;⟨m,a,c,f,hk _ _ _ h1,h2,h3,j.sub hk,fun i hi d=>⟨(e i hi d).1.sub hk l,hk _ _ _ (e i hi d).2⟩⟩
 el:=let⟨a,c,xs,h1,h2,h3,j,e,n⟩:=h.el;⟨a,c,xs,hk _ _ _ h1,h2,h3,j.sub hk,fun i hi=>(e i hi).sub hk l,n⟩
 ps:=hk _ _ _ h.ps
 cm:=hk _ _ _ h.cm
abbrev Tm:=Option (Bool×U)
def aY(p:Pm)(g:Ge)(t:Tm)(f:Nat):Prop:=
 match t with
 |none=>p f 1=some .nilIface
 |some (d,e)=>p f 0=some (.bool d)∧∃x,p f 1=some x∧Node p g e x
theorem aY.sub{p q:Pm}{g a:Ge}(hk:Sub p q)(b:aD g a){t:Tm}{f:Nat}(h:aY p g t f):aY q a t f:=by
 match t,h with
 |none,h=>exact hk _ _ _ h
 |some (d,e),⟨h1,x,h2,h3⟩=>exact⟨hk _ _ _ h1,x,hk _ _ _ h2,h3.sub hk b⟩
def lR(p:Pm)(g:Ge)(a:Option Addr)(b:List Tm):Prop:=∃f:Nat→Nat,bK p a b.length (fun i=>ptr (f i))∧∀i(h:i<b.length),aY p g b[i] (f i)
theorem lR.sub{p q:Pm}{g b:Ge}(hk:Sub p q)(d:aD g b){a:Option Addr}{c:List Tm}(h:lR p g a c):lR q b a c:=
 let⟨f,h1,h2⟩:=h;⟨f,h1.sub hk,fun i hi=>(h2 i hi).sub hk d⟩
def Ge.below(g:Ge)(b:Nat):Ge:={g with G:=fun a=>if a<b then g.G a else none}
end TS
namespace TS
open Go Go.RowKit Go.Proofs.YtgbklbbknehefaaGreatDoor
theorem wU(a:U):cF a a=true:=by simp[cF]
theorem wV(x:U):aX x x=true:=by
 unfold aX;split
 ·simp
 ·split
  ·simp
  ·split
   ·rw[List.all_eq_true]
    intro y a;obtain⟨i,hi,rfl⟩:=List.getElem_of_mem a;simp
   ·rfl
theorem wW:∀{u:U}{len pos f:Nat},Pl len u pos f→f≤2→u.k≠12→u.k≠13→aM u→aE u u=true:=by
 intro u;induction u using U.bg with
 |_ u ih=>
  intro len pos f q r g h s;have j:=s.bare q;obtain⟨b,_,_,w⟩:=q.bare r g h;by_cases a:(bare u).k=10
  ·rw[jz a,j.gen,a]
   simp only[beq_self_eq_true,Bool.not_false,decide_true,Bool.true_and,hasB];rw[List.all_eq_true];intro m hm;rw[List.any_eq_true];obtain⟨f1,l,d,n⟩:=b.iq r a;obtain⟨x,y,o,p⟩:=n.b4 l d (by omega) (by omega) m hm;have:=jy hm;exact⟨m,hm,by rw[wU,ih m (by omega) p o (by omega) (by omega) (j.b4 hm)];rfl⟩
  ·rw[jA a,wV]
   simp only[beq_self_eq_true,decide_true,Bool.true_and];rw[jd];intro i hi t;have e:=b.form.aA.1;have c:=b.ig a e i hi;have v:=U.au (List.getElem_mem hi);exact ih (bare u).es[i] (by omega) c eA c.form.aA.1 c.form.aA.2 (j.es (List.getElem_mem hi))
def eW(x y:Bool×U):Bool:= !aE (if y.1 then under x.2 else x.2) (if x.1 then under y.2 else y.2)
def cq:Tm→Tm→Option Tm
 |none,_=>some none
 |some _,none=>some none
 |some x,some y=>if eW x y then none else if x.1|| !y.1 then some (some x)else some (some y)
def cr:Tm→Tm→Option Tm
 |none,y=>some y
 |some x,none=>some (some x)
 |some x,some y=>if eW x y then none else if !x.1||y.1 then some (some x)else some (some y)
def bL(x:Tm):List Tm→Option (Tm×List Tm)
 | []=>some (x,[])
 |y::r=>match cq x y with
  |none=>(bL x r).map fun z=>(z.1,y::z.2)
  |some z=>if z=none then none else bL z r
theorem lS:∀{l:List Tm}{x z:Tm}{a:List Tm},bL x l=some (z,a)→a.length≤l.length:=by
 intro l;induction l with
 |nil=>intro x z a h;simp[bL]at h;obtain⟨rfl,rfl⟩:=h;exact Nat.le_refl _
 |cons y r ih=>
  intro x z a h;rw[bL]at h;split at h
  ·simp only[Option.map_eq_some_iff,Prod.mk.injEq]at h
   obtain⟨⟨b,c⟩,h1,rfl,rfl⟩:=h;have:=ih h1;simp at*;omega
  ·split at h
   ·cases h
   ·have:=ih h;simp;omega
def cX(l:List Tm):Option (List Tm):=
 match l with
 | []=>some []
 |x::r=>match _h:bL x r with
  |none=>none
  |some (z,a)=>(cX a).map fun m=>z::m
termination_by l.length
decreasing_by
 have:=lS _h
 simp;omega
def dY(l:List Tm):List Tm:=(cX l).getD [none]
def gq(l:List Tm):Bool:=l.any fun t=>t.isNone
def fF(l m:List Tm):List Tm:=dY (l++m)
def bS(l m:List Tm):List Tm:=if l.isEmpty||m.isEmpty then []else dY (l.flatMap fun x=>m.filterMap fun y=>cr x y)
def RT(l:List Tm):Prop:=∀x,some x∈l→eW x x=false
theorem qZ{x y z:Tm}(h:cq x y=some z):z=x∨z=y:=by
 match x,y,h with
 |none,_,h=>simp[cq]at h;exact .inl h.symm
 |some x,none,h=>simp[cq]at h;exact .inr h.symm
 |some x,some y,h=>
  simp only[cq]at h;split at h
  ·cases h
  ·split at h
   ·cases h;exact .inl rfl
   ·cases h;exact .inr rfl
theorem wX{x y z:Tm}(h:cr x y=some z):z=x∨z=y:=by
 match x,y,h with
 |none,_,h=>simp[cr]at h;exact .inr h.symm
 |some x,none,h=>simp[cr]at h;exact .inl h.symm
 |some x,some y,h=>
  simp only[cr]at h;split at h
  ·cases h
  ·split at h
   ·cases h;exact .inl rfl
   ·cases h;exact .inr rfl
theorem q_:∀{l:List Tm}{x z:Tm}{b:List Tm},bL x l=some (z,b)→(z=x∨z∈l)∧∀t∈b,t∈l:=by
 intro l;induction l with
 |nil=>intro x z b h;simp[bL]at h;obtain⟨rfl,rfl⟩:=h;exact⟨.inl rfl,fun t a=>a⟩
 |cons y r ih=>
  intro x z b h;rw[bL]at h;split at h
  ·simp only[Option.map_eq_some_iff,Prod.mk.injEq]at h
   obtain⟨⟨d,f⟩,h1,rfl,rfl⟩:=h;obtain⟨h2,h3⟩:=ih h1;exact⟨h2.imp id fun h=>List.mem_cons_of_mem _ h,fun t a=>(List.mem_cons.1 a).elim (fun e=>e▸List.mem_cons_self) fun a=>List.mem_cons_of_mem _ (h3 t a)⟩
  ·rename_i z2 c
   split at h
   ·cases h
   ·obtain⟨h2,h3⟩:=ih h
    refine⟨?_,fun t a=>List.mem_cons_of_mem _ (h3 t a)⟩;rcases h2 with rfl|h2
    ·rcases qZ c with rfl|rfl
     ·exact .inl rfl
     ·exact .inr List.mem_cons_self
    ·exact .inr (List.mem_cons_of_mem _ h2)
theorem wY:∀{l:List Tm}{x z:Bool×U}{d:List Tm},bL (some x) l=some (some z,d)→z=x∨cq (some x) (some z)=some (some z):=by
 intro l;induction l with
 |nil=>intro x z d h;simp[bL]at h;exact .inl h.1.symm
 |cons y r ih=>
  intro x z d h;rw[bL]at h;split at h
  ·simp only[Option.map_eq_some_iff,Prod.mk.injEq]at h
   obtain⟨⟨m,n⟩,h1,rfl,rfl⟩:=h;exact ih h1
  ·rename_i z2 a
   split at h
   ·cases h
   ·rename_i f
    match z2,y,f,a,h with
    |some z2,none,_,a,_=>simp[cq]at a
    |some z2,some y,_,a,h=>
     have b:=a;simp only[cq]at a;split at a
     ·cases a
     ·split at a
      ·cases a;exact ih h
      ·rename_i j
       have c:y.1=true:=by
        cases k:y.1
        ·rw[k]at j;simp at j
        ·rfl
       have g:y=z2:=Option.some.inj (Option.some.inj a);rw[g]at c b;rcases ih h with e|e
       ·rw[e];exact .inr b
       ·simp only[cq]at e
        split at e
        ·cases e
        ·rw[if_pos (by rw[c];rfl)]at e
         have i:z2=z:=Option.some.inj (Option.some.inj e);rw[i]at b;exact .inr b
theorem wZ:∀{l:List Tm}(x:Tm),none∈l→bL x l=none:=by
 intro l;induction l with
 |nil=>intro x h;cases h
 |cons y r ih=>
  intro x h;rw[bL];split
  ·rename_i a
   match x,y,a,h with
   |none,_,a,_=>simp[cq]at a
   |some x,none,a,_=>simp[cq]at a
   |some x,some y,_,h=>
    rw[ih _ (by simpa using h)];rfl
  ·rename_i z a
   split
   ·rfl
   ·rename_i b
    match x,y,a,h with
    |none,_,a,_=>simp[cq]at a;exact absurd a.symm b
    |some x,none,a,_=>simp[cq]at a;exact absurd a.symm b
    |some x,some y,_,h=>exact ih _ (by simpa using h)
theorem w_:∀{l:List Tm},l≠ []→bL none l=none:=by
 intro l h;match l,h with
 |y::r,_=>simp[bL,cq]
theorem xd:∀{l:List Tm}{x z:Bool×U}{b:List Tm},(eW z z=false)→bL (some x) l=some (some z,b)→some z ∉ b:=by
 intro l;induction l with
 |nil=>intro x z b _ h;simp[bL]at h;obtain⟨rfl,rfl⟩:=h;simp
 |cons y r ih=>
  intro x z b c h;rw[bL]at h;split at h
  ·rename_i a
   simp only[Option.map_eq_some_iff,Prod.mk.injEq]at h;obtain⟨⟨f,g⟩,h1,rfl,rfl⟩:=h;have h2:=ih c h1;intro hm;rcases List.mem_cons.1 hm with rfl|hm
   ·rcases wY h1 with e|e
    ·subst e
     simp[cq,c]at a
    ·rw[e]at a;cases a
   ·exact h2 hm
  ·rename_i z2 a
   split at h
   ·cases h
   ·rename_i d
    match z2,d,a,h with
    |some z2,_,a,h=>exact ih c h
theorem nX:∀{l m:List Tm},cX l=some m→∀t∈m,t∈l:=by
 intro l;induction c:l.length using Nat.strongRecOn generalizing l with
 |_ n ih=>
  subst c;intro m h t a;match l,h with
  | [],h=>rw[cX]at h;cases h;cases a
  |x::r,h=>
   rw[cX]at h;split at h
   ·cases h
   ·rename_i z d b
    simp only[Option.map_eq_some_iff]at h;obtain⟨e,h1,rfl⟩:=h;have f:=lS b;obtain⟨h2,h3⟩:=q_ b;rcases List.mem_cons.1 a with rfl|a
    ·exact List.mem_cons.2 h2
    ·exact List.mem_cons_of_mem _ (h3 t (ih d.length (by simp;omega) rfl h1 t a))
theorem xf:∀{l m:List Tm},RT l→none ∉ l→cX l=some m→m.Nodup:=by
 intro l;induction e:l.length using Nat.strongRecOn generalizing l with
 |_ n ih=>
  subst e;intro m hr a h;match l,h,hr,a with
  | [],h,_,_=>rw[cX]at h;cases h;exact List.nodup_nil
  |x::r,h,hr,a=>
   rw[cX]at h;split at h
   ·cases h
   ·rename_i z f c
    simp only[Option.map_eq_some_iff]at h;obtain⟨i,h1,rfl⟩:=h;have j:=lS c;obtain⟨h2,h3⟩:=q_ c;have d:z∈x::r:=List.mem_cons.2 h2;refine List.nodup_cons.2 ⟨fun hm=> ?_,ih f.length (by simp;omega) rfl (fun y g=>hr y (List.mem_cons_of_mem _ (h3 _ g))) (fun hm=>a (List.mem_cons_of_mem _ (h3 _ hm))) h1⟩;have b:=nX h1 z hm;match x,z,c,d,b,a with
    |none,_,_,_,_,a=>exact a List.mem_cons_self
    |some x,none,_,d,_,a=>exact a d
    |some x,some z,c,d,b,_=>exact xd (hr z d) c b
def lT(l m:List Tm):Prop:=m= [none]∨(m.Nodup∧none ∉ m∧∀t∈m,t∈l)
theorem re{l:List Tm}(h:RT l):lT l (dY l):=by
 unfold dY;by_cases a:none∈l
 ·left
  match l,a with
  |none::r,_=>
   by_cases hr:r= []
   ·subst hr;simp[cX,bL]
   ·rw[cX]
    split
    ·rfl
    ·rename_i b;rw[w_ hr]at b;cases b
  |some x::r,a=>
   rw[cX];split
   ·rfl
   ·rename_i b;rw[wZ _ (by simpa using a)]at b;cases b
 ·cases c:cX l with
  |none=>exact .inl rfl
  |some m=>exact .inr ⟨xf h a c,fun hm=>a (nX c _ hm),nX c⟩
theorem RT.append{l m:List Tm}(h:RT l)(k:RT m):RT (l++m):=fun x a=>(List.mem_append.1 a).elim (h x) (k x)
theorem RT.sub{l m:List Tm}(h:RT l)(k:∀t∈m,t∈l):RT m:=fun x a=>h x (k _ a)
theorem nY{l m:List Tm}{t:Tm}(h:t∈l.flatMap fun x=>m.filterMap fun y=>cr x y):t∈l∨t∈m:=by
 simp only[List.mem_flatMap,List.mem_filterMap]at h;obtain⟨x,a,y,b,h⟩:=h;rcases wX h with rfl|rfl
 ·exact .inl a
 ·exact .inr b
theorem xg:dY [none]= [none]:=by simp[dY,cX,bL]
theorem xh{l m:List Tm}(h:RT l)(k:RT m):lT (l++m) (bS l m):=by
 unfold bS;split
 ·exact .inr ⟨List.nodup_nil,by simp,fun t a=>by cases a⟩
 ·rcases re (l:=l.flatMap fun x=>m.filterMap fun y=>cr x y) ((h.append k).sub fun t a=>List.mem_append.2 (nY a))with e|⟨h1,h2,h3⟩
  ·exact .inl e
  ·exact .inr ⟨h1,h2,fun t a=>List.mem_append.2 (nY (h3 t a))⟩
theorem xi{l m:List Tm}(h:RT l)(k:RT m):lT (l++m) (fF l m):=re (h.append k)
theorem xj:bS [none] [none]= [none]:=by simp[bS,cr,xg]
def bw(u:U):List (Bool×U):=
 if(under u).k=10 then(ek (under u)).attach.flatMap fun⟨x,_⟩=>if x.k=13 then [(true,aC x)]else if isIface x then bw x else [(false,x)]
 else []
termination_by u.sz
decreasing_by
 have h1:=iT ‹_›
 have h2:=dp u
 omega
def eE(x:U):List (Bool×U):=if x.k=13 then [(true,aC x)]else if isIface x then bw x else [(false,x)]
theorem xm{α β:Type}(l:List α)(f:α→List β):(l.attach.flatMap fun x=>f x.1)=l.flatMap f:=by
 conv=>rhs;rw[←List.attach_map_subtype_val l,List.flatMap_map]
theorem lU{u:U}(h:(under u).k=10):bw u=(ek (under u)).flatMap eE:=by
 rw[bw,if_pos h];exact xm (ek (under u)) eE
theorem kA{u:U}(h:(under u).k≠10):bw u= []:=by rw[bw,if_neg h]
theorem nZ:∀u:U,0≤ch u:=by
 intro u;induction u using U.bg with
 |_ u ih=>
  by_cases h:(under u).k=10
  ·rw[lv h]
   have key:∀(l:List U)(n:Int),(∀x∈l,x.sz<u.sz)→0≤n→0≤l.foldl bA n:=by
    intro l;induction l with
    |nil=>exact fun n _ a=>a
    |cons x r b=>
     intro n c a;refine b _ (fun y d=>c y (List.mem_cons_of_mem _ d)) ?_;have:=ih x (c x List.mem_cons_self);unfold bA;split
     ·exact a
     ·split<;>omega
   exact key _ 0 (fun x e=>by have:=iT e;have:=dp u;omega) (Int.le_refl _)
  ·rw[nk h];decide
theorem n_(n:Int)(x:U):n≤bA n x:=by
 have:=nZ x;unfold bA;split
 ·exact Int.le_refl _
 ·split<;>omega
theorem rh:∀(l:List U)(n:Int),n≤l.foldl bA n:=by
 intro l;induction l with
 |nil=>exact fun n=>Int.le_refl _
 |cons x r ih=>exact fun n=>Int.le_trans (n_ n x) (ih _)
theorem xn:∀u:U,ch u≤50→((bw u).length:Int)≤ch u:=by
 intro u;induction u using U.bg with
 |_ u ih=>
  intro c;by_cases h:(under u).k=10
  ·rw[lv h]at c⊢
   rw[lU h];have key:∀(l:List U)(n:Int),(∀x∈l,x.sz<u.sz)→0≤n→l.foldl bA n≤50→n+((l.flatMap eE).length:Int)≤l.foldl bA n:=by
    intro l;induction l with
    |nil=>exact fun n _ _ _=>by simp
    |cons x r d=>
     intro n f i e;have h1:=d (bA n x) (fun y j=>f y (List.mem_cons_of_mem _ j)) (Int.le_trans i (n_ n x)) e;simp only[List.flatMap_cons,List.length_append,List.foldl_cons]at*;have g:n≤50:=Int.le_trans (n_ n x) (Int.le_trans (rh r _) e);have a:bA n x≤50:=Int.le_trans (rh r _) e;have h2:((eE x).length:Int)≤bA n x- n:=by
      unfold bA at a⊢;rw[if_neg (by omega)]at a⊢;unfold eE;by_cases b:x.k=13
      ·rw[if_pos b,if_pos (by simp[b])];simp;omega
      ·rw[if_neg b]
       cases hi:isIface x
       ·rw[if_neg (by simp),if_pos (by simp)];simp;omega
       ·rw[hi,if_neg (by simp[b])]at a
        rw[if_pos rfl,if_neg (by simp[b])];have:=ih x (f x List.mem_cons_self) (by have:=nZ x;omega);omega
     omega
   have:=key _ 0 (fun x m=>by have:=iT m;have:=dp u;omega) (Int.le_refl _) c;omega
  ·rw[kA h];exact nZ u
def bz(d:Bool)(u:U):Bool:=
 if(under u).k=3∨(under u).k=5 then(under u).es.attach.all fun⟨e,_⟩=>bz d e
 else(under u).k==1||(under u).k==6||(under u).k==9||((under u).k==10&&d)
termination_by u.sz
decreasing_by
 have h1:=U.au ‹_›
 have h2:=dp u
 omega
theorem kB{d:Bool}{u:U}(h:(under u).k=3∨(under u).k=5):bz d u=(under u).es.all (bz d):=by
 rw[bz,if_pos h];conv=>rhs;rw[←List.attach_map_subtype_val (under u).es,List.all_map]
 rfl
theorem od{d:Bool}{u:U}(h:¬((under u).k=3∨(under u).k=5)):bz d u=((under u).k==1||(under u).k==6||(under u).k==9||((under u).k==10&&d)):=by rw[bz,if_neg h]
def cu(u:U):Nat:=
 if(under u).k=3∨(under u).k=5 then 1+((under u).es.attach.map fun⟨e,_⟩=>cu e).sum else 0
termination_by u.sz
decreasing_by
 have h1:=U.au ‹_›
 have h2:=dp u
 omega
theorem kC{u:U}(h:(under u).k=3∨(under u).k=5):cu u=1+((under u).es.map cu).sum:=by
 rw[cu,if_pos h];conv=>rhs;rw[←List.attach_map_subtype_val (under u).es,List.map_map]
 rfl
theorem rk{u:U}(h:¬((under u).k=3∨(under u).k=5)):cu u=0:=by rw[cu,if_neg h]
theorem xp{l:List Nat}{n:Nat}(h:n∈l):n≤l.sum:=by
 induction l with
 |nil=>cases h
 |cons a r ih=>
  rcases List.mem_cons.1 h with rfl|h
  ·simp
  ·have:=ih h;simp;omega
theorem xq{u e:U}(h:(under u).k=3∨(under u).k=5)(he:e∈(under u).es):cu e<cu u:=by
 rw[kC h];have:=xp (List.mem_map_of_mem (f:=cu) he);omega
def gw(t:Tm):Bool:=match t with|none=>true|some (_,e)=>bz false e
def eX(x y:List Tm×Bool):List Tm×Bool:=
 if(x.2||y.2)&& !gq (bS x.1 y.1)then((bS x.1 y.1).filter gw,false)else(bS x.1 y.1,x.2||y.2)
theorem rl(x:U):(aC x).sz≤x.sz:=by
 unfold aC;split
 ·cases h:x.es with
  |nil=>exact Nat.le_refl _
  |cons a r=>exact Nat.le_of_lt (U.au (by rw[h];exact List.mem_cons_self))
 ·exact Nat.le_refl _
theorem xr{e:U}{t:Bool×U}(h:t∈bk e):t.2.sz≤e.sz:=by
 unfold bk at h;split at h
 ·obtain⟨x,a,rfl⟩:=List.mem_map.1 h
  have:=U.au a;have:=rl x;simp only;omega
 ·simp only[List.mem_singleton]at h
  subst h;exact rl e
def dr(u:U):List Tm×Bool:=
 if(under u).k=10 then((under u).es.drop (under u).m.toNat).attach.foldl (fun a e=>eX a (
  if e.1.k=12∨e.1.k=13 then((bk e.1).attach.foldl (fun r t=>fF r (if isIface t.1.2 then(dr t.1.2).1 else [some t.1])) [],false)
  else if isIface e.1 then dr e.1 else([some (false,e.1)],false))) ([none],false)
 else([none],(under u).k==16)
termination_by u.sz
decreasing_by
 ·have h1:=U.au (List.mem_of_mem_drop e.2)
  have h2:=dp u
  have h3:=xr t.2
  omega
 ·rename_i e _ _
  have h1:=U.au (List.mem_of_mem_drop e.2)
  have h2:=dp u
  omega
def fG(r:List Tm)(t:Bool×U):List Tm:=fF r (if isIface t.2 then(dr t.2).1 else [some t])
def fU(e:U):List Tm×Bool:=if e.k=12∨e.k=13 then((bk e).foldl fG [],false)else if isIface e then dr e else([some (false,e)],false)
theorem og{u:U}(h:(under u).k=10):dr u=((under u).es.drop (under u).m.toNat).foldl (fun a e=>eX a (fU e)) ([none],false):=by
 rw[dr,if_pos h,←List.foldl_attach (f:=fun a e=>eX a (fU e))];refine congrArg (fun f=>List.foldl f _ _) (funext fun a=>funext fun e=> ?_);have b:((bk e.1).attach.foldl (fun r t=>fF r (if isIface t.1.2 then(dr t.1.2).1 else [some t.1])) [])=(bk e.1).foldl fG []:=by rw[←List.foldl_attach (f:=fG)];rfl
 simp only[b];rfl
theorem rp{e:U}(h:(under e).k=10):dr (under e)=dr e:=by
 have hu:under (under e)=under e:=cB (by omega) (by omega) (by omega) (by omega);rw[og (by rw[hu];exact h),og h,hu]
theorem lV{α β:Type}(f:β→α→β)(b:β){l:List α}{k:Nat}(h:k<l.length):(l.take (k+1)).foldl f b=f ((l.take k).foldl f b) l[k]:=by
 rw[List.take_add_one,List.getElem?_eq_getElem h,List.foldl_append];rfl
theorem lW{u:U}(h:(under u).k≠10):dr u=([none],(under u).k==16):=by rw[dr,if_neg h]
def fV(u:U):Bool:=
 if(under u).k=10 then((under u).es.drop (under u).m.toNat).attach.any fun⟨e,_⟩=>if e.k=12 then e.es.any fun x=>x.k !=13&&isIface x else e.k !=13&&isIface e&&fV e
 else false
termination_by u.sz
decreasing_by
 have h1:=U.au (List.mem_of_mem_drop ‹_›)
 have h2:=dp u
 omega
def je(e:U):Bool:=if e.k=12 then e.es.any fun x=>x.k !=13&&isIface x else e.k !=13&&isIface e&&fV e
theorem rq{u:U}(h:(under u).k=10):fV u=((under u).es.drop (under u).m.toNat).any je:=by
 rw[fV,if_pos h];conv=>rhs;rw[←List.attach_map_subtype_val ((under u).es.drop (under u).m.toNat),List.any_map]
 rfl
theorem xu{u:U}(h:(under u).k≠10):fV u=false:=by rw[fV,if_neg h]
structure kD(u:U)(a:List Tm)(cmp:Bool):Prop where
 cI:a= [none]∨(a.Nodup∧none ∉ a∧∀t∈a,∃x∈bw u,t=some x)
 gen:aW u=false→a= [none]∧cmp=false
 mix:aW u=true→fV u=false→a≠ [none]∨cmp=true
 inv:cmp=true→a= [none]
 eq:dr u=(a,cmp)
def cv(p:Pm)(g:Ge)(b:Nat)(u:U):Prop:=∃(tb:Nat)(c:Option Addr)(d:Nat)(f:Nat→Nat)(ta:Option Addr)(tc:Nat)(a:List Tm)(cmp:Bool),p b 6=some (ptr tb)∧p tb 0=some (.bool false)∧p tb 1=some (.slice c (aj u).length d)∧(aj u).length≤d∧(aj u).length≤1099511627776∧bK p c (aj u).length (fun i=>ptr (f i))∧
 (∀i(h:i<(aj u).length),cL p g (aj u)[i] (f i))∧p tb 2=some (.slice ta a.length tc)∧a.length≤tc∧a.length≤1099511627776∧lR p g ta a∧p tb 3=some (.bool cmp)∧kD u a cmp∧(ta=none→tc=0)∧∀x,ta=some x→x.spot=none
theorem cv.sub{p q:Pm}{g j:Ge}(hk:Sub p q)(k:aD g j){b:Nat}{u:U}(h:cv p g b u):cv q j b u:=
 let⟨tb,l,m,f,ta,tc,n,cmp,h1,h2,h3,o,r,s,h7,t,v,a,c,d,e⟩:=h
 ⟨tb,l,m,f,ta,tc,n,cmp,hk _ _ _ h1,hk _ _ _ h2,hk _ _ _ h3,o,r,s.sub hk,fun i hi=>(h7 i hi).sub hk k,hk _ _ _ t,v,a,c.sub hk k,hk _ _ _ d,e⟩
end TS
namespace TS
open Go Go.RowKit
def ba(k:Int):Nat:=
 if k=1 then 105 else if k=3 then 141 else if k=4 then 143 else if k=5 then 213 else if k=6 then 145
 else if k=7 then 108 else if k=8 then 147 else if k=9 then 149 else if k=10 then 33 else if k=12∨k=13 then 189 else 66
section
variable {p:Pm} {g:Ge} {u v:U} {x y:Value}
theorem AC.end(h:AC p x y):∃t c,t≠139∧y=ae t c:=by
 induction h with
 |last h1 _ _=>exact⟨_,_,h1,rfl⟩
 |next _ _ _ _ ih=>exact ih
theorem AC.start(h:AC p x y):∃b,x=ae 139 b∧p b 3=some y:=by
 cases h with
 |last _ _ h3=>exact⟨_,rfl,h3⟩
 |next _ _ h3 _=>exact⟨_,rfl,h3⟩
theorem Node.tag(h:Node p g u x)(h2:u.k≠2)(a:u.k≠14):(∃b,x=ae (ba u.k) b)∧1≤u.k∧u.k≤16:=by
 cases h with
 |alias h _ _=>exact absurd h h2
 |any h _=>exact absurd h a
 |union h _ _ _ _ _=>rcases h with h|h<;>rw[h]<;>exact⟨⟨_,rfl⟩,by decide,by decide⟩
 |basic h _=>rw[h];exact⟨⟨_,rfl⟩,by decide,by decide⟩
 |array h=>rw[h];exact⟨⟨_,rfl⟩,by decide,by decide⟩
 |slice h=>rw[h];exact⟨⟨_,rfl⟩,by decide,by decide⟩
 |struct h=>rw[h];exact⟨⟨_,rfl⟩,by decide,by decide⟩
 |pointer h=>rw[h];exact⟨⟨_,rfl⟩,by decide,by decide⟩
 |func h=>rw[h];exact⟨⟨_,rfl⟩,by decide,by decide⟩
 |map h=>rw[h];exact⟨⟨_,rfl⟩,by decide,by decide⟩
 |chan h=>rw[h];exact⟨⟨_,rfl⟩,by decide,by decide⟩
 |iface h=>rw[h];exact⟨⟨_,rfl⟩,by decide,by decide⟩
 |gm h=>rw[h];exact⟨⟨_,rfl⟩,by decide,by decide⟩
 |named h=>rw[h];exact⟨⟨_,rfl⟩,by decide,by decide⟩
 |err h=>rw[h];exact⟨⟨_,rfl⟩,by decide,by decide⟩
 |comp h=>rw[h];exact⟨⟨_,rfl⟩,by decide,by decide⟩
theorem dT{k l:Int}(h:ba k=ba l)(hk:k≠2∧k≠14∧1≤k∧k≤16∧k≠11∧k≠12∧k≠13∧k≠15∧k≠16)(a:l≠2∧l≠14∧1≤l∧l≤16):k=l:=by
 have h1:k=1∨k=3∨k=4∨k=5∨k=6∨k=7∨k=8∨k=9∨k=10:=by omega
 have h2:l=1∨l=3∨l=4∨l=5∨l=6∨l=7∨l=8∨l=9∨l=10∨l=11∨l=12∨l=13∨l=15∨l=16:=by omega
 rcases h1 with rfl|rfl|rfl|rfl|rfl|rfl|rfl|rfl|rfl<;>rcases h2 with rfl|rfl|rfl|rfl|rfl|rfl|rfl|rfl|rfl|rfl|rfl|rfl|rfl|rfl<;>first|rfl|(revert h;decide)
theorem Node.lX(h:Node p g u x)(h2:u.k≠2)(a:u.k≠14):ba u.k≠139:=by
 have:=(h.tag h2 a).2;have h2:u.k=1∨u.k=3∨u.k=4∨u.k=5∨u.k=6∨u.k=7∨u.k=8∨u.k=9∨u.k=10∨u.k=11∨u.k=12∨u.k=13∨u.k=15∨u.k=16:=by omega
 rcases h2 with e|e|e|e|e|e|e|e|e|e|e|e|e|e<;>rw[e]<;>decide
theorem Node.strip{len pos f:Nat}(h:Node p g u x)(m:Pl len u pos f)(n:f≤2)(i:u.k≠12)(j:u.k≠13):∃b,Node p g (bare u) (ae (ba (bare u).k) b)∧ba (bare u).k≠139∧(x=ae (ba (bare u).k) b∨AC p x (ae (ba (bare u).k) b)):=by
 obtain⟨_,l,d,_⟩:=m.bare n i j;by_cases h2:u.k=2
 ·cases h with
  |alias _ ha c=>
   obtain⟨b,e⟩:=(c.tag l d).1;subst e;exact⟨b,c,c.lX l d,.inr ha⟩
  |any h _=>omega
  |union h _ _ _ _ _=>omega
  |_=>omega
 ·by_cases a:u.k=14
  ·cases h with
   |any _ c=>
    rw[gd a];obtain⟨b,e⟩:=(c.tag (by decide) (by decide)).1;subst e;exact⟨b,c,c.lX (by decide) (by decide),.inl rfl⟩
   |union h _ _ _ _ _=>omega
   |_=>omega
  ·rw[ca h2 a]
   obtain⟨b,e⟩:=(h.tag h2 a).1;subst e;exact⟨b,h,h.lX h2 a,.inl rfl⟩
end
end TS
namespace TS
open Go Go.RowKit Go.Proofs.YtgbklbbknehefaaGreatDoor
section
variable {p:Pm} {g:Ge} {u v:U} {x y:Value}
theorem Node.jf(h:Node p g u x)(hk:u.k=1):∃b,x=ae 105 b∧p b 0=some (.int .i64 (u.n+1)):=by
 cases h with
 |basic _ h2=>exact⟨_,rfl,h2⟩
 |_=>omega
theorem Node.jg(h:Node p g u x)(hk:u.k=3):∃b e y,x=ae 141 b∧u.es= [e]∧p b 0=some (.int .i64 u.n)∧p b 1=some y∧Node p g e y:=by
 cases h with
 |array _ h2 h3 a c=>exact⟨_,_,_,rfl,h2,h3,a,c⟩
 |_=>omega
theorem Node.kE(h:Node p g u x)(hk:u.k=4):∃b e y,x=ae 143 b∧u.es= [e]∧p b 0=some y∧Node p g e y:=by
 cases h with
 |slice _ h2 h3 a=>exact⟨_,_,_,rfl,h2,h3,a⟩
 |_=>omega
theorem Node.lY(h:Node p g u x)(hk:u.k=6):∃b e y,x=ae 145 b∧u.es= [e]∧p b 0=some y∧Node p g e y:=by
 cases h with
 |pointer _ h2 h3 a=>exact⟨_,_,_,rfl,h2,h3,a⟩
 |_=>omega
theorem Node.lZ(h:Node p g u x)(hk:u.k=8):∃b d e y z,x=ae 147 b∧u.es= [d,e]∧p b 0=some y∧p b 1=some z∧Node p g d y∧Node p g e z:=by
 cases h with
 |map _ h2 h3 a c f=>exact⟨_,_,_,_,_,rfl,h2,h3,a,c,f⟩
 |_=>omega
theorem Node.l8(h:Node p g u x)(hk:u.k=9):∃b e y,x=ae 149 b∧u.es= [e]∧p b 0=some (.int .i64 (eU u.n))∧p b 1=some y∧Node p g e y:=by
 cases h with
 |chan _ h2 h3 a c=>exact⟨_,_,_,rfl,h2,h3,a,c⟩
 |_=>omega
theorem Node.gN(h:Node p g u x)(hk:u.k=10):∃b,x=ae 33 b∧g.G b=some u:=by
 cases h with
 |iface _ h2=>exact⟨_,rfl,h2⟩
 |_=>omega
theorem Node.jh(h:Node p g u x)(hk:u.k=5):∃(b:Nat)(a a':Option Addr)(c c':Nat)(f:Nat→Nat)(xs:Nat→Value),x=ae 213 b∧p b 0=some (.slice a u.es.length c)∧p b 1=some (.slice a' u.es.length c')∧u.es.length≤c∧u.es.length≤1099511627776∧bK p a u.es.length (fun i=>ptr (f i))∧
 (∀i(h:i<u.es.length),∃b o,a'=some ⟨b,o,none⟩∧p b (o+i)=some (.string u.es[i].tg))∧(∀i(h:i<u.es.length),p (f i) 1=some (ptr g.pk)∧p (f i) 2=some (.string u.es[i].nm)∧p (f i) 3=some (xs i)∧p (f i) 5=some (.bool false))∧∀i(h:i<u.es.length),Node p g u.es[i] (xs i):=by
 cases h with
 |struct _ h2 h3 d e j h7 l m=>exact⟨_,_,_,_,_,_,_,rfl,h2,h3,d,e,j,h7,l,m⟩
 |_=>omega
theorem Node.jJ(h:Node p g u x)(hk:u.k=7):∃(b:Nat)(pv rv:Value)(f:Nat→Nat)(xs:Nat→Value),x=ae 108 b∧(u.m.toNat≤u.es.length∧u.es.length≤1099511627776)∧p b 2=some pv∧p b 3=some rv∧p b 4=some (.bool u.v)∧dS p pv u.m.toNat f∧dS p rv (u.es.length- u.m.toNat) (fun i=>f (u.m.toNat+i))∧
 (∀i,i<u.es.length→p (f i) 3=some (xs i))∧∀i(h:i<u.es.length),Node p g u.es[i] (xs i):=by
 cases h with
 |func _ h2 h3 a c d h7 e j=>exact⟨_,_,_,_,_,rfl,h2,h3,a,c,d,h7,e,j⟩
 |_=>omega
theorem Node.iu(h:Node p g u x)(hk:u.k=11):x=ae 66 (g.nb u.n.toNat)∧0≤u.n∧u.n.toNat<g.len∧p (g.nb u.n.toNat) 1=some (ptr (g.ob u.n.toNat))∧(u.un= []∨∃y z,u.un= [y]∧dR p (g.nb u.n.toNat) z∧Node p g y z):=by
 cases h with
 |gm _ h2 h3 a b=>exact⟨rfl,h2,h3,b,.inl a⟩
 |named _ h2 h3 a b c h7=>exact⟨rfl,h2,h3,b,.inr ⟨_,_,a,c,h7⟩⟩
 |_=>omega
theorem Node.jK(h:Node p g u x)(hk:u.k=15):x=ae 66 g.eb∧u.un= [aF]∧p g.eb 1=some (ptr g.eo)∧∃z,dR p g.eb z∧Node p g aF z:=by
 cases h with
 |err _ h2 h3 a b=>exact⟨rfl,h2,h3,_,a,b⟩
 |_=>omega
theorem Node.kF(h:Node p g u x)(hk:u.k=16):x=ae 66 g.cb∧p g.cb 1=some (ptr g.co)∧∃b,dR p g.cb (ae 33 b)∧g.G b=some cV:=by
 cases h with
 |comp _ h2 h3 a=>exact⟨rfl,h2,_,h3,a⟩
 |_=>omega
theorem AC.unique{z:Value}(h:AC p x y)(k:AC p x z):y=z:=by
 obtain⟨b,rfl,h1⟩:=h.start;obtain⟨a,e,h2⟩:=k.start;cases e;rw[h1]at h2;exact Option.some.inj h2
theorem bK.unique{a:Option Addr}{n:Nat}{f c:Nat→Value}(h:bK p a n f)(k:bK p a n c){i:Nat}(hi:i<n):f i=c i:=by
 obtain⟨b,o,rfl,h1⟩:=h i hi;obtain⟨d,j,e,h2⟩:=k i hi;cases e;rw[h1]at h2;exact Option.some.inj h2
theorem oh{b a:Nat}(h:ptr b=ptr a):b=a:=by cases h;rfl
theorem dS.unique{v:Value}{n m:Nat}{f b:Nat→Nat}(h:dS p v n f)(k:dS p v m b):n=m∧∀i,i<n→f i=b i:=by
 rcases h with⟨rfl,rfl⟩|⟨o,tb,a,c,rfl,h1,_,h2⟩
 ·rcases k with⟨rfl,_⟩|⟨_,tb,a,c,e,_⟩
  ·exact⟨rfl,fun i hi=>absurd hi (Nat.not_lt_zero _)⟩
  ·cases e
 ·rcases k with⟨rfl,e⟩|⟨_,j,a',c',e,d,_,l⟩
  ·cases e
  ·cases e
   rw[h1]at d;cases d;exact⟨rfl,fun i hi=>oh (bK.unique h2 l hi)⟩
end
structure kH(g:Ge):Prop where
 nb:∀i j,i<g.len→j<g.len→g.nb i=g.nb j→i=j
 ob:∀i j,i<g.len→j<g.len→g.ob i=g.ob j→i=j
 ne:∀i,i<g.len→g.nb i≠g.eb
 nc:∀i,i<g.len→g.nb i≠g.cb
 ec:g.eb≠g.cb
 oe:∀i,i<g.len→g.ob i≠g.eo
 oc:∀i,i<g.len→g.ob i≠g.co
 ac:g.eo≠g.co
structure Vt(len:Nat)(u:U):Prop where
 val:aM u
 pl:∃f,f≤2∧Pl len u 0 f
theorem Vt.bare{len:Nat}{u:U}(h:Vt len u):Vt len (TS.bare u)∧(TS.bare u).k≠2∧(TS.bare u).k≠14∧(TS.bare u).sz≤u.sz:=by
 obtain⟨f,b,a⟩:=h.pl;obtain⟨h1,h2,h3,c⟩:=a.bare b a.form.aA.1 a.form.aA.2;exact⟨⟨h.val.bare a,f,b,h1⟩,h2,h3,c⟩
theorem Vt.aA{len:Nat}{u:U}(h:Vt len u):u.k≠12∧u.k≠13:=by obtain⟨f,b,a⟩:=h.pl;exact a.form.aA
theorem Vt.part{len:Nat}{u:U}(h:Vt len u)(a:u.k≠10){i:Nat}(hi:i<u.es.length):Vt len u.es[i]:=by
 obtain⟨f,c,b⟩:=h.pl;exact⟨h.val.es (List.getElem_mem hi),_,eA,b.ig a h.aA.1 i hi⟩
theorem Vt.one{len:Nat}{u e:U}(h:Vt len u)(a:u.k≠10)(he:u.es= [e]):Vt len e:=by
 have:=h.part a (i:=0) (by rw[he];simp);simpa [he]using this
theorem Vt.b4{len:Nat}{u:U}(h:Vt len u)(b:u.k=10){m:U}(hm:m∈aj u):Vt len m∧m.k=7:=by
 obtain⟨f,j,l⟩:=h.pl;obtain⟨f1,c,a,d⟩:=l.iq j b;obtain⟨n,o,e,i⟩:=d.b4 c a (by omega) (by omega) m hm;exact⟨⟨h.val.b4 hm,o,e,i⟩,n⟩
theorem Vt.refl{len:Nat}{u:U}(h:Vt len u):aE u u=true:=by
 obtain⟨f,b,a⟩:=h.pl;exact wW a b a.form.aA.1 a.form.aA.2 h.val
theorem Vt.form{len:Nat}{u:U}(h:Vt len u):∃f,Form len u 0 f:=by obtain⟨f,b,a⟩:=h.pl;exact⟨f,a.form⟩
theorem Vt.strip{len:Nat}{u:U}(h:Vt len u){p:Pm}{g:Ge}{x:Value}(c:Node p g u x):∃b,Node p g (TS.bare u) (ae (ba (TS.bare u).k) b)∧ba (TS.bare u).k≠139∧(x=ae (ba (TS.bare u).k) b∨AC p x (ae (ba (TS.bare u).k) b)):=by
 obtain⟨f,d,a⟩:=h.pl;exact c.strip a d a.form.aA.1 a.form.aA.2
theorem ru{u v:U}:(bare (bare u))=bare u→(bare (bare v))=bare v→aE (bare u) (bare v)=aE u v:=by
 intro h1 h2;by_cases a:(bare u).k=10
 ·rw[jz a,jz (by rw[h1];exact a),h1,h2]
 ·rw[jA a,jA (by rw[h1];exact a),h1,h2]
theorem iv{len:Nat}{u:U}(h:Vt len u):bare (bare u)=bare u:=ca h.bare.2.1 h.bare.2.2.1
theorem ji{u v:U}(h2:u.k≠2)(a:u.k≠14)(c:v.k≠2)(b:v.k≠14)(d:u.k≠10):aE u v=(u.k==v.k&&decide (u.es.length=v.es.length)&&(aX u v&&(u.es.zip v.es).all fun(e,f)=>aE e f)):=by
 rw[jA (by rw[ca h2 a];exact d),ca h2 a,ca c b]
theorem Form.lens{len:Nat}{u:U}{pos f:Nat}(h:Form len u pos f)(hk:u.k=1∨u.k=11∨u.k=15∨u.k=16):u.es= []:=by
 cases h with
 |basic _ _ _ h=>exact h
 |pre _ h=>exact h
 |err _ h _=>exact h
 |named _ _ _ h _ _=>exact h
 |one a _ _=>omega
 |ptr a _ _ _=>omega
 |_=>omega
theorem Form.l9{len:Nat}{u:U}{pos f:Nat}(h:Form len u pos f)(hk:u.k=7):0≤u.m∧u.m.toNat≤u.es.length:=by
 cases h with
 |func _ a b _=>exact⟨a,b⟩
 |pre a _=>omega
 |one a _ _=>omega
 |ptr a _ _ _=>omega
 |_=>omega
theorem Form.l_{len:Nat}{u:U}{pos f:Nat}(h:Form len u pos f)(hk:u.k=9):0≤u.n∧u.n<3:=by
 cases h with
 |ptr _ a b _=>exact⟨a,b⟩
 |pre a _=>omega
 |one a _ _=>omega
 |_=>omega
theorem ry{n m:Int}(h1:0≤n∧n<3)(h2:0≤m∧m<3)(h:eU n=eU m):n=m:=by
 have a:n=0∨n=1∨n=2:=by omega
 have b:m=0∨m=1∨m=2:=by omega
 rcases a with rfl|rfl|rfl<;>rcases b with rfl|rfl|rfl<;>first|rfl|(revert h;decide)
theorem rz{len:Nat}{p:Pm}{g:Ge}(R:kH g):∀{u v:U}{x:Value},Vt len u→Vt len v→Node p g u x→Node p g v x→aE u v=true:=by
 intro u;induction u using U.bg with
 |_ u ih=>
  intro v x hu N h k;obtain⟨b,D,ht,hx⟩:=hu.strip h;obtain⟨b',C,kt,S⟩:=N.strip k;have e:ae (ba (bare u).k) b=ae (ba (bare v).k) b':=by
   rcases hx with rfl|hx
   ·rcases S with e|S
    ·exact e
    ·obtain⟨_,e,_⟩:=S.start;injection e with w;exact absurd w ht
   ·rcases S with rfl|S
    ·obtain⟨_,e,_⟩:=hx.start;injection e with w;exact absurd w kt
    ·exact hx.unique S
  rw[←e]at C;have et:ba (bare u).k=ba (bare v).k:=by injection e
  rw[←ru (iv hu) (iv N)];obtain⟨hu,u2,u14,hs⟩:=hu.bare;obtain⟨N,v2,M,_⟩:=N.bare;clear e S kt h k;generalize bare u=j at*;generalize bare v=o at*;have Qe:=(D.tag u2 u14).2;have Qf:=(C.tag v2 M).2;have Qc:=hu.aA;have Qd:=N.aA;by_cases hN:j.k=11∨j.k=15∨j.k=16
  ·have P5:o.k=11∨o.k=15∨o.k=16:=by
    by_cases P4:o.k=11∨o.k=15∨o.k=16
    ·exact P4
    ·have:=dT et.symm ⟨v2,M,by omega,by omega,by omega,by omega,by omega,by omega,by omega⟩ ⟨u2,u14,by omega,by omega⟩
     omega
   obtain⟨f,T⟩:=hu.form;obtain⟨f',E⟩:=N.form;have w:=T.lens (by omega);have l:=E.lens (by omega);rw[ji u2 u14 v2 M (by omega),w,l];have hb:∀{a b:Nat},ae 66 a=ae 66 b→a=b:=fun h=>by cases h;rfl
   have F:∀{t a b:Nat}{x:Value},x=ae 66 a→x=ae 66 b→a=b:=fun h k=>hb (h.symm.trans k);rcases hN with h1|h1|h1<;>rcases P5 with h2|h2|h2
   ·obtain⟨J,H,B,_⟩:=D.iu h1
    obtain⟨K,m1,m2,_⟩:=C.iu h2;have:=R.nb _ _ B m2 (F (t:=0) J K);have V:j.n=o.n:=by omega
    simp[h1,h2,aX,V]
   ·obtain⟨J,H,B,_⟩:=D.iu h1
    obtain⟨K,_⟩:=C.jK h2;exact absurd (F (t:=0) J K) (R.ne _ B)
   ·obtain⟨J,H,B,_⟩:=D.iu h1
    obtain⟨K,_⟩:=C.kF h2;exact absurd (F (t:=0) J K) (R.nc _ B)
   ·obtain⟨J,H,B,_⟩:=C.iu h2
    obtain⟨K,_⟩:=D.jK h1;exact absurd (F (t:=0) J K) (R.ne _ B)
   ·simp[h1,h2,aX]
   ·obtain⟨J,_⟩:=D.jK h1
    obtain⟨K,_⟩:=C.kF h2;exact absurd (F (t:=0) J K) R.ec
   ·obtain⟨J,H,B,_⟩:=C.iu h2
    obtain⟨K,_⟩:=D.kF h1;exact absurd (F (t:=0) J K) (R.nc _ B)
   ·obtain⟨J,_⟩:=C.jK h2
    obtain⟨K,_⟩:=D.kF h1;exact absurd (F (t:=0) J K) R.ec
   ·simp[h1,h2,aX]
  ·have P6:j.k=o.k:=dT et ⟨u2,u14,by omega,by omega,by omega,by omega,by omega,by omega,by omega⟩ ⟨v2,M,by omega,by omega⟩
   by_cases W:j.k=10
   ·obtain⟨c,w,h1⟩:=D.gN W
    obtain⟨c',l,h2⟩:=C.gN (by omega);rw[w]at l;cases l;rw[h1]at h2;cases h2;exact hu.refl
   ·rw[ji u2 u14 v2 M W]
    have key:j.es.length=o.es.length→aX j o=true→(∀i(h:i<j.es.length)(h':i<o.es.length),∃z,Node p g j.es[i] z∧Node p g o.es[i] z)→(j.k==o.k&&decide (j.es.length=o.es.length)&&(aX j o&&(j.es.zip o.es).all fun(e,f)=>aE e f))=true:=by
     intro h1 h2 h3;rw[h2,P6,h1];simp only[beq_self_eq_true,decide_true,Bool.true_and];rw[jd];intro i hi s;obtain⟨z,P7,P8⟩:=h3 i hi s;have Qg:=U.au (List.getElem_mem hi);exact ih j.es[i] (by omega) (hu.part W hi) (N.part (by omega) s) P7 P8
    have I:∀{e Q:U}{z:Value},j.es= [e]→o.es= [Q]→aX j o=true→Node p g e z→Node p g Q z→(j.k==o.k&&decide (j.es.length=o.es.length)&&(aX j o&&(j.es.zip o.es).all fun(e,f)=>aE e f))=true:=by
     intro e Q z h1 h2 h3 A Y;refine key (by rw[h1,h2];rfl) h3 fun i hi s=>⟨z,?_,?_⟩
     ·have:i=0:=by rw[h1]at hi;simpa using hi
      subst this;simpa [h1]using A
     ·have:i=0:=by rw[h1]at hi;simpa using hi
      subst this;simpa [h2]using Y
    have P9:j.k=1∨j.k=3∨j.k=4∨j.k=5∨j.k=6∨j.k=7∨j.k=8∨j.k=9:=by omega
    rcases P9 with h|h|h|h|h|h|h|h
    ·obtain⟨c,w,h1⟩:=D.jf h
     obtain⟨c',l,h2⟩:=C.jf (by omega);rw[w]at l;cases l;rw[h1]at h2;have V:j.n=o.n:=by injection h2 with h2;injection h2 with _ h2;omega
     obtain⟨f,T⟩:=hu.form;obtain⟨f',E⟩:=N.form;have G:=T.lens (by omega);have L:=E.lens (by omega);exact key (by rw[G,L]) (by simp[aX,h,V]) fun i hi=>by rw[G]at hi;simp at hi
    ·obtain⟨c,e,z,w,G,h1,h3,H⟩:=D.jg h
     obtain⟨c',Q,z',l,L,h2,A,B⟩:=C.jg (by omega);rw[w]at l;cases l;rw[h1]at h2;rw[h3]at A;cases A;have V:j.n=o.n:=by injection h2 with h2;injection h2 with _ h2
     exact I G L (by simp[aX,h,V]) H B
    ·obtain⟨c,e,z,w,G,h3,H⟩:=D.kE h
     obtain⟨c',Q,z',l,L,A,B⟩:=C.kE (by omega);rw[w]at l;cases l;rw[h3]at A;cases A;exact I G L (by simp[aX,h]) H B
    ·obtain⟨c,a,a',d,d',f,xs,w,h1,h2,_,_,h3,A,Y,h6⟩:=D.jh h
     obtain⟨c',q,q',r,r',f',P_,l,O,X,_,_,Z,k4,k5,k6⟩:=C.jh (by omega);rw[w]at l;cases l;rw[h1]at O;rw[h2]at X;have hl:j.es.length=o.es.length:=by injection O with O;injection O
     have ha:a=q:=by injection O with O;injection O
     have Qa:a'=q':=by injection X with X;injection X
     subst ha;subst Qa;have P:∀i,i<j.es.length→f i=f' i:=fun i hi=>oh (bK.unique h3 (by rw[hl];exact Z) hi);refine key hl ?_ fun i hi s=>⟨xs i,h6 i hi,?_⟩
     ·unfold aX
      rw[if_neg (by omega),if_neg (by omega),if_pos h,jd];intro i hi s;have g1:=(Y i hi).2.1;have g2:=(k5 i s).2.1;rw[←P i hi,g1]at g2;obtain⟨b1,o1,w,g3⟩:=A i hi;obtain⟨b2,o2,l,g4⟩:=k4 i s;rw[w]at l;cases l;rw[g3]at g4;injection g2 with g2;injection g2 with g2
      injection g4 with g4;injection g4 with g4
      simp[g2,g4]
     ·have g1:=(Y i hi).2.2.1
      have g2:=(k5 i s).2.2.1;rw[←P i hi,g1]at g2;rw[Option.some.inj g2];exact k6 i s
    ·obtain⟨c,e,z,w,G,h3,H⟩:=D.lY h
     obtain⟨c',Q,z',l,L,A,B⟩:=C.lY (by omega);rw[w]at l;cases l;rw[h3]at A;cases A;exact I G L (by simp[aX,h]) H B
    ·obtain⟨c,pv,rv,f,xs,w,hm,h1,h2,h3,A,Y,h6,h7⟩:=D.jJ h
     obtain⟨c',Qh,Qi,f',P_,l,km,O,X,Z,k4,k5,k6,k7⟩:=C.jJ (by omega);rw[w]at l;cases l;rw[h1]at O;cases O;rw[h2]at X;cases X;rw[h3]at Z;obtain⟨t1,t2⟩:=A.unique k4;obtain⟨t3,t4⟩:=Y.unique k5;obtain⟨_,T⟩:=hu.form;obtain⟨_,E⟩:=N.form;have m1:=T.l9 h;have m2:=E.l9 (by omega);have em:j.m=o.m:=by omega
     have hl:j.es.length=o.es.length:=by omega
     have ev:j.v=o.v:=by injection Z with Z;injection Z
     refine key hl (by simp[aX,h,em,ev]) fun i hi s=>⟨xs i,h7 i hi,?_⟩
     have P:f i=f' i:=by
      by_cases Qb:i<j.m.toNat
      ·exact t2 i Qb
      ·have:=t4 (i- j.m.toNat) (by omega)
       rwa [show j.m.toNat+(i- j.m.toNat)=i by omega,show o.m.toNat+(i- j.m.toNat)=i by omega]at this
     have g1:=h6 i hi;have g2:=k6 i s;rw[←P,g1]at g2;rw[Option.some.inj g2];exact k7 i s
    ·obtain⟨c,d,e,y,z,w,G,h1,h3,H,B⟩:=D.lZ h
     obtain⟨c',d',Q,y',z',l,L,h2,A,n3,n4⟩:=C.lZ (by omega);rw[w]at l;cases l;rw[h1]at h2;cases h2;rw[h3]at A;cases A;refine key (by rw[G,L];rfl) (by simp[aX,h]) fun i hi s=> ?_;have:i=0∨i=1:=by rw[G]at hi;simp at hi;omega
     rcases this with rfl|rfl
     ·exact⟨y,by simpa [G]using H,by simpa [L]using n3⟩
     ·exact⟨z,by simpa [G]using B,by simpa [L]using n4⟩
    ·obtain⟨c,e,z,w,G,h1,h3,H⟩:=D.l8 h
     obtain⟨c',Q,z',l,L,h2,A,B⟩:=C.l8 (by omega);rw[w]at l;cases l;rw[h1]at h2;rw[h3]at A;cases A;obtain⟨_,T⟩:=hu.form;obtain⟨_,E⟩:=N.form;have V:j.n=o.n:=ry (T.l_ h) (E.l_ (by omega)) (by injection h2 with h2;injection h2);exact I G L (by simp[aX,h,V]) H B
end TS
namespace TS
open Go Go.RowKit
def cz(b:List Tm)(F:Nat→Bool)(a m:Nat):List Tm:=(List.range' a m).filterMap fun i=>if F i then none else some (b.getD i none)
theorem mA(b:List Tm)(F:Nat→Bool)(a:Nat):cz b F a 0= []:=rfl
theorem mC(b:List Tm)(F:Nat→Bool)(a m:Nat):cz b F a (m+1)=if F a then cz b F (a+1) m else b.getD a none::cz b F (a+1) m:=by
 unfold cz;rw[List.range'_succ];by_cases h:F a
 ·simp[h]
 ·simp[h]
theorem oJ(b:List Tm)(F:Nat→Bool)(a m:Nat):cz b F a (m+1)=cz b F a m++if F (a+m)then []else [b.getD (a+m) none]:=by
 unfold cz;rw[List.range'_concat];by_cases h:F (a+m)
 ·simp[h]
 ·simp[h]
theorem sC(b:List Tm){F G:Nat→Bool}:∀{m a:Nat},(∀i,a≤i→i<a+m→F i=G i)→cz b F a m=cz b G a m:=by
 intro m;induction m with
 |zero=>intro a _;rfl
 |succ m ih=>
  intro a h;rw[mC,mC,h a (Nat.le_refl _) (by omega),ih fun i h1 h2=>h i (by omega) (by omega)]
theorem AG(a:List Tm):cz a (fun _=>false) 0 a.length=a:=by
 have key:∀m,m≤a.length→cz a (fun _=>false) 0 m=a.take m:=by
  intro m;induction m with
  |zero=>intro _;simp[mA]
  |succ m ih=>
   intro h;rw[oJ,ih (by omega)];have hm:a[m]?=some a[m]:=List.getElem?_eq_getElem (by omega);rw[List.take_add_one,hm];simp only[Nat.zero_add,Option.toList_some,List.append_cancel_left_eq,if_neg Bool.false_ne_true,List.getD_eq_getElem?_getD,hm,Option.getD_some]
 rw[key _ (Nat.le_refl _),List.take_length]
def du(x:Tm)(l:List Tm)(z:Tm)(A r:List Tm):Prop:=bL x l=(bL z r).map fun y=>(y.1,A++y.2)
theorem AH(x:Tm)(l:List Tm):du x l x [] l:=by
 unfold du;cases bL x l<;>simp
theorem du.gP{x z y:Tm}{l A r:List Tm}(h:du x l z A (y::r))(a:cq z y=none):du x l z (A++ [y]) r:=by
 unfold du at*;rw[h,bL,a];cases bL z r<;>simp
theorem du.take{x z y z2:Tm}{l A r:List Tm}(h:du x l z A (y::r))(a:cq z y=some z2)(b:z2≠none):du x l z2 A r:=by
 unfold du at*;rw[h,bL,a];simp only;rw[if_neg b]
theorem du.all{x z y:Tm}{l A r:List Tm}(h:du x l z A (y::r))(a:cq z y=some none):bL x l=none:=by
 unfold du at h;rw[h,bL,a];simp
theorem du.done{x z:Tm}{l A:List Tm}(h:du x l z A []):bL x l=some (z,A):=by
 unfold du at h;rw[h];simp[bL]
def dU(a R r:List Tm):Prop:=cX a=(cX r).map fun l=>R++l
theorem AI(a:List Tm):dU a [] a:=by unfold dU;cases cX a<;>simp
theorem dU.step{b R r A:List Tm}{x z:Tm}(h:dU b R (x::r))(c:bL x r=some (z,A)):dU b (R++ [z]) A:=by
 unfold dU at*;rw[h,cX];split
 ·rename_i a;rw[c]at a;cases a
 ·rename_i d e a
  rw[c]at a;cases a;cases cX A<;>simp
theorem dU.all{a R r:List Tm}{x:Tm}(h:dU a R (x::r))(c:bL x r=none):dY a= [none]:=by
 unfold dU at h;unfold dY;rw[h,cX];split
 ·rfl
 ·rename_i b;rw[c]at b;cases b
theorem dU.done{a R:List Tm}(h:dU a R []):dY a=R:=by
 unfold dU at h;unfold dY;rw[h];simp[cX]
def bd(W:List (Bool×U))(l:List Tm):Prop:=l= [none]∨(l.Nodup∧none ∉ l∧∀t∈l,∃x∈W,t=some x)
theorem sQ(W:List (Bool×U)):bd W []:= .inr ⟨List.nodup_nil,by simp,fun t h=>by cases h⟩
theorem sR{W:List (Bool×U)}{x:Bool×U}(h:x∈W):bd W [some x]:= .inr ⟨by simp,by simp,fun t a=>⟨x,h,by simpa using a⟩⟩
theorem bd.mono{W d:List (Bool×U)}{l:List Tm}(h:bd W l)(f:∀x∈W,x∈d):bd d l:=h.imp id fun⟨a,b,c⟩=>⟨a,b,fun t g=>let⟨x,i,e⟩:=c t g;⟨x,f x i,e⟩⟩
theorem bd.len{W:List (Bool×U)}{l:List Tm}(h:bd W l){n:Nat}(d:W.length≤n)(h1:1≤n):l.length≤n:=by
 rcases h with rfl|⟨a,_,hm⟩
 ·simpa using h1
 ·have:= @lD Tm (Classical.typeDecidableEq Tm) l (W.map some) a fun t b=>by obtain⟨x,c,e⟩:=hm t b;rw[e];exact List.mem_map_of_mem c
  simp at this;omega
def RW(W:List (Bool×U)):Prop:=∀x∈W,eW x x=false
theorem bd.rt{W:List (Bool×U)}{l:List Tm}(b:RW W)(h:bd W l):RT l:=fun x a=>by
 rcases h with rfl|⟨_,_,hm⟩
 ·simp at a
 ·obtain⟨y,c,e⟩:=hm _ a
  cases e;exact b _ c
theorem bd.cI{W:List (Bool×U)}{l m:List Tm}(b:∀t∈l,t=none∨∃x∈W,t=some x)(h:lT l m):bd W m:=by
 rcases h with e|⟨h1,h2,h3⟩
 ·exact .inl e
 ·refine .inr ⟨h1,h2,fun t a=> ?_⟩
  rcases b t (h3 t a)with e|h
  ·rw[e]at a;exact absurd a h2
  ·exact h
theorem bd.any{W:List (Bool×U)}{l:List Tm}(h:bd W l):∀t∈l,t=none∨∃x∈W,t=some x:=fun t a=>by
 rcases h with rfl|⟨_,_,hm⟩
 ·simp at a;exact .inl a
 ·exact .inr (hm t a)
theorem bd.join{W:List (Bool×U)}{l m:List Tm}(a:RW W)(h:bd W l)(k:bd W m):bd W (fF l m):=
 bd.cI (fun t b=>(List.mem_append.1 b).elim (h.any t) (k.any t)) (xi (h.rt a) (k.rt a))
theorem bd.meet{W:List (Bool×U)}{l m:List Tm}(a:RW W)(h:bd W l)(k:bd W m):bd W (bS l m):=
 bd.cI (fun t b=>(List.mem_append.1 b).elim (h.any t) (k.any t)) (xh (h.rt a) (k.rt a))
theorem bd.sub{W:List (Bool×U)}{l m:List Tm}(h:bd W l)(a:m.Sublist l):m= []∨bd W m:=by
 rcases h with rfl|⟨h1,h2,h3⟩
 ·cases m with
  |nil=>exact .inl rfl
  |cons x r=>right;left;exact a.eq_of_length_le (by simp)
 ·exact .inr (.inr ⟨h1.sublist a,fun hm=>h2 (a.subset hm),fun t b=>h3 t (a.subset b)⟩)
theorem bd.Ba{W:List (Bool×U)}{l m:List Tm}(h:bd W l)(a:m.Sublist l):bd W m:=by
 rcases h.sub a with rfl|h
 ·exact sQ W
 ·exact h
theorem Bb:∀{l:List Tm}{x:Bool×U},none ∉ l→∃z b,bL (some x) l=some (some z,b)∧none ∉ b:=by
 intro l;induction l with
 |nil=>exact fun{x} _=>⟨x,[],rfl,by simp⟩
 |cons y r ih=>
  intro x h;match y,h with
  |none,h=>exact absurd List.mem_cons_self h
  |some y,h=>
   have hr:none ∉ r:=fun hm=>h (List.mem_cons_of_mem _ hm);rw[bL];split
   ·obtain⟨z,b,h1,h2⟩:=ih (x:=x) hr
    exact⟨z,some y::b,by rw[h1];rfl,by simpa using h2⟩
   ·rename_i z a
    match z,a with
    |none,a=>
     simp only[cq]at a;split at a
     ·cases a
     ·split at a<;>cases a
    |some z,a=>
     rw[if_neg (by simp)];exact ih hr
theorem Bc:∀{l:List Tm},none ∉ l→∃m,cX l=some m∧none ∉ m:=by
 intro l;induction c:l.length using Nat.strongRecOn generalizing l with
 |_ n ih=>
  subst c;intro h;match l,h with
  | [],_=>exact⟨[],by rw[cX],by simp⟩
  |none::r,h=>exact absurd List.mem_cons_self h
  |some x::r,h=>
   obtain⟨z,d,a,b⟩:=Bb (l:=r) (x:=x) fun hm=>h (List.mem_cons_of_mem _ hm);have e:=lS a;obtain⟨m,h1,h2⟩:=ih d.length (by simp;omega) rfl b;refine⟨some z::m,?_,by simpa using h2⟩;rw[cX];split
   ·rename_i h3;rw[h3]at a;cases a
   ·rename_i z2 f h3
    rw[h3]at a;cases a;rw[h1];rfl
theorem sS{l:List Tm}(h:none ∉ l):none ∉ dY l:=by
 obtain⟨m,h1,h2⟩:=Bc h;unfold dY;rw[h1];exact h2
theorem Bd{l m:List Tm}(h:none ∉ l)(k:none ∉ m):none ∉ fF l m:=sS fun hm=>(List.mem_append.1 hm).elim h k
theorem sT{l m:List Tm}(h:none ∉ l∨none ∉ m):none ∉ bS l m:=by
 unfold bS;split
 ·simp
 ·refine sS fun hm=> ?_
  simp only[List.mem_flatMap,List.mem_filterMap]at hm;obtain⟨x,a,y,b,e⟩:=hm;match x,y,a,b,e with
  |none,none,a,b,_=>exact h.elim (fun h=>h a) fun h=>h b
  |none,some y,_,_,e=>cases e
  |some x,none,_,_,e=>cases e
  |some x,some y,_,_,e=>
   simp only[cr]at e;split at e
   ·cases e
   ·split at e<;>cases e
theorem mE{W:List (Bool×U)}{l:List Tm}(h:bd W l)(a:none∈l):l= [none]:=h.elim id fun⟨_,h2,_⟩=>absurd a h2
end TS
