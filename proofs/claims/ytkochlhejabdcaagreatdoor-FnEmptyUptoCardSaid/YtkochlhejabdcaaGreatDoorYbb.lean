import Derived.Test.YtkochlhejabdcaaGreatDoorYav
import Derived.Test.YtkochlhejabdcaaGreatDoorYaz
import Derived.Test.YtkochlhejabdcaaGreatDoorYba
set_option maxRecDepth 100000
set_option maxHeartbeats 8000000
set_option linter.all false
namespace TS
open Go Go.RowKit
structure Env(D:Dl)(T:List U)(NS:List (List UInt8))(i:Nat):Prop where
 len:T.length=D.len
 ok:∀t∈T,lW D.len t
 bA:∀j(h:j<T.length),bn T j 1 T[j]
 mt:∀j(h:j<T.length),j<i→mt T .type T[j] true=true
 aI:∀t∈T,Names NS t
 cP:NS.length≤1048576
def eV(p:Pm)(D:Dl)(T:List U):Prop:=∀n(h:n<T.length),∃b d,D.a= .some (Xa b d)∧∃a c,c_ p b (d+n*8) T[n] a c∧ai p D T[n] a c
theorem eV.sub{p q:Pm}{D:Dl}{T:List U}(h:eV p D T)(hk:Sub p q):eV q D T:=fun n b=>let⟨g,d,e,a,c,h7,hu⟩:=h n b;⟨g,d,e,a,c,h7.sub hk,ai.sub hk _ hu⟩
structure cD(D:Dl)(T:List U)(NS:List (List UInt8))(i:Nat)(u:U)(pos f:Nat):Prop where
 pl:Pl D.len u pos f
 f2:f≤2
 bA:bn T i f u
 aI:Names NS u
 dep:u.dep≤1125899906842624
section
variable {D:Dl} {T:List U} {NS:List (List UInt8)} {i:Nat} {u:U} {pos f:Nat}
theorem cD.part(h:cD D T NS i u pos f)(j:Nat)(a:j<u.es.length):cD D T NS i u.es[j] (aS u j) (aO u j f):=
 ⟨h.pl.part j a,fj,h.bA.part j a,(h.aI.es (zm a)).2,by have:=U.me (zm a);have:=h.dep;omega⟩
theorem cD.nO(h:cD D T NS i u pos f)(b:u.k≠10)(a:u.k≠12)(j:Nat)(c:j<u.es.length):cD D T NS i u.es[j] 0 (aO u j f):=by
 have:=h.part j c;rwa [show aS u j=0 by unfold aS;rw[if_neg a,if_neg zo]]at this
theorem cD.elem(h:cD D T NS i u pos f)(a:u.k=10){e:U}(he:e∈u.es.drop u.m.toNat):cD D T NS i e 2 2:=by
 obtain⟨j,c,b,rfl⟩:=qj he;have:=h.part j c;rw[show aS u j=2 by unfold aS;rw[if_neg zo,if_pos ⟨a,b⟩]]at this;rwa [show aO u j f=2 by unfold aO;split;rfl;rw[if_pos ⟨a,b⟩]]at this
theorem cD.jn(h:cD D T NS i u pos f)(a:u.k=10){e:U}(he:e∈u.es.take u.m.toNat):∃b,cD D T NS i e 0 b:=by
 obtain⟨j,c,d,rfl⟩:=tD he;have:=h.part j c;rw[show aS u j=0 by unfold aS;rw[if_neg zo,if_neg zo]]at this;exact⟨_,this⟩
theorem cD.union(h:cD D T NS i u pos f)(a:u.k=12){e:U}(he:e∈u.es):∃b,cD D T NS i e 1 b∧(f=2→b=2):=by
 obtain⟨j,c,rfl⟩:=List.getElem_of_mem he;have:=h.part j c;rw[show aS u j=1 by unfold aS;rw[if_pos a]]at this;exact⟨_,this,fun d=>by unfold aO;rw[if_pos d]⟩
end
theorem bn.bare{len:Nat}{T:List U}{i:Nat}:∀{u:U}{pos f:Nat},Pl len u pos f→f≤2→u.k≠12→u.k≠13→bn T i f u→bn T i f (TS.bare u):=by
 intro u;induction u using U.bc with
 |_ u ih=>
  intro pos f j l g o m;by_cases d:u.k=2
  ·obtain⟨e,he⟩:=cL (j.form.fL d)
   have n:0<u.es.length:=by rw[he];simp
   have p:u.es[0]=e:=by simp[he]
   have a:=j.jt zo g 0 n;have b:=m.part 0 n;rw[p,iP l (.inl d)]at a b;rw[jU d he];exact ih e (U.ar (by rw[he];simp)) a l a.form.aD.1 a.form.aD.2 b
  ·by_cases c:u.k=14
   ·rw[gI c]
    exact tA rfl zd (fun h=>by simp[bL,U.k]at h)
   ·rw[bR d c];exact m
theorem qo{D:Dl}{T:List U}{NS:List (List UInt8)}{i:Nat}(E:Env D T NS i){u:U}{pos f:Nat}(h:cD D T NS i u pos f)(l:f≠0)(b:u.k≠12)(c:u.k≠13)(hm:mt T .type u false=true)(hi:isIface u=false):
 aM u∧aM (under u):=by
 have o:=(j8 E.ok E.bA E.mt u pos f false i zl h.bA h.pl h.f2 b c hm).2 (l9 u pos f h.bA h.pl h.f2 b c hm);refine⟨o,?_⟩;have m:=o.bare h.pl;have g:=h.bA.bare h.pl h.f2 b c;unfold isIface at hi;simp only[Bool.or_eq_false_iff,beq_eq_false_iff_ne,ne_eq]at hi;by_cases d:(bare u).k=11
 ·have p:=g.named d
  rw[if_neg l]at p;obtain⟨h1,q,r⟩:=p;have hu:=jj d r;rw[hu]at hi⊢;have a:=E.ok _ (zm h1);have j:under T[(bare u).n.toNat]=T[(bare u).n.toNat]:=cp a.kU (by have:=a.hi;omega) (by have:=a.hi;omega) (by have:=a.hi;omega);refine(j8 E.ok E.bA E.mt _ 0 1 true i zl ((E.bA _ h1).mono zo) a.pl zo (by have:=a.hi;omega) (by have:=a.hi;omega) (E.mt _ h1 q)).2 ?_;rw[fA (by rw[j];exact hi.1),j];simp[hi.2]
 ·by_cases e:(bare u).k=15
  ·rw[jk e (g.err e)]at hi
   exact absurd rfl hi.1
  ·rw[iz d e];exact m
theorem tO{D:Dl}{T:List U}{NS:List (List UInt8)}{i:Nat}(E:Env D T NS i){x:U}{pos:Nat}{g:Bool}(h:cD D T NS i x pos 2)(b:x.k≠12)(hm:mt T .term x g=true)(hi:isIface (aH x)=false):
 aM (aH x)∧aM (under (aH x)):=by
 by_cases a:x.k=13
 ·have h1:=h.pl.form.gM a
  obtain⟨e,he⟩:=cL h1;have d:=h.nO zo b 0 zo;have j:x.es[0]'zo=e:=by simp[he]
  rw[j,show aO x 0 2=2 by unfold aO;rw[if_pos rfl]]at d;rw[lV a,he]at hm;have c:(mt T .type e false=true∧isIface e=false)∧aJ e (under e)=true:=by simpa using hm
  rw[hZ a he];exact qo E d zo d.pl.form.aD.1 d.pl.form.aD.2 c.1.1 c.1.2
 ·rw[fE a]at hi⊢
  rw[gK a,hi]at hm;exact qo E h zo b a hm hi
theorem Aa{p:Pm}{D:Dl}{T:List U}{u:U}{a:Option Addr}{c:Nat}(hT:eV p D T)(hu:ai p D u a c):ai p D (cW T u) a c:=by
 unfold cW;split
 ·rename_i hk
  cases u with
  |mk k n m v nm tg es un=>
   simp only[pX,ai,U.n]at hu⊢;refine⟨hu.1,hu.2.1,fun h1 l o=> ?_⟩;obtain⟨q,d,e,_⟩:=hu.2.2 h1 l o;refine⟨q,d,e,?_⟩;cases r:T[n.toNat]? with
   |none=>simp only[Option.toList_none,ey]
   |some t=>
    obtain⟨g,h⟩:=List.getElem?_eq_some_iff.1 r;obtain⟨s,d',j,a',c',h7,b⟩:=hT n.toNat g;rw[e]at j;simp only[Option.some.injEq,Addr.mk.injEq]at j;obtain⟨rfl,rfl,_⟩:=j;simp only[Option.toList_some,ey];rw[h]at h7 b;exact⟨a',c',h7,b⟩
 ·exact hu
theorem tP(T:List U)(u:U):(cW T u).k=u.k∧(cW T u).n=u.n∧(cW T u).m=u.m∧(cW T u).v=u.v∧(cW T u).nm=u.nm∧(cW T u).tg=u.tg∧(cW T u).es=u.es:=by
 unfold cW;split
 ·cases u;exact⟨rfl,rfl,rfl,rfl,rfl,rfl,rfl⟩
 ·exact⟨rfl,rfl,rfl,rfl,rfl,rfl,rfl⟩
theorem cD.cW{D:Dl}{T:List U}{NS:List (List UInt8)}{i:Nat}(E:Env D T NS i){u:U}{pos f:Nat}(h:cD D T NS i u pos f)(q:u.k≠10)(v:u.k≠2)(r:u.k≠12)(s:u.k≠13):
 u.k=11→Pl D.len (TS.cW T u) 0 1:=fun a=>by
 obtain⟨⟨d,g⟩,c,_,_⟩:=h.pl.form.ji a;obtain⟨t,m,w,x,y,z,o⟩:=tP T u;have l:u.n.toNat<T.length:=by have:=E.len;omega
 have b:(TS.cW T u).un= [T[u.n.toNat]]:=by
  unfold TS.cW;rw[if_pos a,List.getElem?_eq_getElem l];cases u;rfl
 refine gg (.named (by rw[t];exact a) (by rw[m];exact d) (by rw[m];exact g) (by rw[o];exact c) (by rw[b];simp) (fun _=>by rw[b];simp)) (fun j p=>by rw[o,c]at p;simp at p) fun _ e he=> ?_;rw[b]at he;simp only[List.mem_singleton]at he;have:=E.ok e (by rw[he];exact zm _);exact⟨⟨this.lo,this.hi,this.kU⟩,this.pl⟩
structure Ge where
 nb:Nat→Nat
 ob:Nat→Nat
 len:Nat
 eb:Nat
 eo:Nat
 cb:Nat
 co:Nat
 pk:Nat
 G:Nat→Option U
def dB:U:= .mk 16 0 0 false ByteArray.empty ByteArray.empty [] []
abbrev ptr(b:Nat):Value:=Xp b
abbrev ah(t b:Nat):Value:=Xi t b
def cd(p:Pm)(a:Option Addr)(n:Nat)(f:Nat→Value):Prop:=∀i,i<n→∃b o,a= .some (Xa b o)∧p b (o+i)=some (f i)
theorem cd.sub{p q:Pm}{a:Option Addr}{n:Nat}{f:Nat→Value}(h:cd p a n f)(hk:Sub p q):cd q a n f:=fun i hi=>let⟨b,o,e,c⟩:=h i hi;⟨b,o,e,hk _ _ _ c⟩
def eL(p:Pm)(b:Nat)(x:Value):Prop:=p b 5=some (.int .u32 15)∧p b 6=some x∧p b 7=some x
theorem eL.sub{p q:Pm}(hk:Sub p q){b:Nat}{x:Value}(h:eL p b x):eL q b x:=⟨hk _ _ _ h.1,hk _ _ _ h.2.1,hk _ _ _ h.2.2⟩
def eM(p:Pm)(v:Value)(n:Nat)(f:Nat→Nat):Prop:=
 (n=0∧v= .pointer none)∨(0<n∧∃tb a c,v=ptr tb∧p tb 0=some (.slice a n c)∧n≤c∧cd p a n fun i=>ptr (f i))
theorem eM.sub{p q:Pm}{v:Value}{n:Nat}{f:Nat→Nat}(h:eM p v n f)(hk:Sub p q):eM q v n f:=
 h.imp id fun⟨h1,tb,a,c,e,b,d,g⟩=>⟨h1,tb,a,c,e,hk _ _ _ b,d,g.sub hk⟩
def gi(n:Int):Int:=if n=1 then 1 else if n=2 then 2 else 0
def bD(u:U):List (Bool×U):=if u.k=12 then u.es.map fun e=>(e.k==13,aH e)else [(true,aH u)]
inductive AC (p:Pm):Value→Value→Prop
 |last {b:Nat} {t c:Nat}:t≠142→p b 2=some (ah t c)→p b 3=some (ah t c)→AC p (ah 142 b) (ah t c)
 |next {b c:Nat} {y:Value}:p b 2=some (ah 142 c)→c<b→p b 3=some y→AC p (ah 142 c) y→AC p (ah 142 b) y
theorem AC.sub{p q:Pm}(hk:Sub p q){x y:Value}(h:AC p x y):AC q x y:=by
 induction h with
 |last h1 a b=>exact .last h1 (hk _ _ _ a) (hk _ _ _ b)
 |next h1 a b _ ih=>exact .next (hk _ _ _ h1) a (hk _ _ _ b) ih
inductive Node (p:Pm) (g:Ge):U→Value→Prop
 |basic {u:U} {b:Nat}:u.k=1→p b 0=some (.int .i64 (u.n+1))→Node p g u (ah 105 b)
 |alias {u:U} {x y:Value}:u.k=2→AC p x y→Node p g (bare u) y→Node p g u x
 |any {u:U} {x:Value}:u.k=14→Node p g bL x→Node p g u x
 |array {u e:U} {b:Nat} {x:Value}:u.k=3→u.es= [e]→p b 0=some (.int .i64 u.n)→p b 1=some x→Node p g e x→Node p g u (ah 144 b)
 |slice {u e:U} {b:Nat} {x:Value}:u.k=4→u.es= [e]→p b 0=some x→Node p g e x→Node p g u (ah 146 b)
 |struct {u:U} {b:Nat} {a a':Option Addr} {c c':Nat} {f:Nat→Nat} {xs:Nat→Value}:u.k=5∧(∀e∈u.es,aR e.nm=true)→
  p b 0=some (.slice a u.es.length c)→p b 1=some (.slice a' u.es.length c')→u.es.length≤c→u.es.length≤1099511627776→cd p a u.es.length (fun i=>ptr (f i))→(∀i(h:i<u.es.length),∃b o,a'= .some (Xa b o)∧p b (o+i)=some (.string u.es[i].tg))→
  (∀i(h:i<u.es.length),p (f i) 1=some (ptr g.pk)∧p (f i) 2=some (.string u.es[i].nm)∧p (f i) 3=some (xs i)∧p (f i) 5=some (.bool false))→
  (∀i(h:i<u.es.length),Node p g u.es[i] (xs i))→Node p g u (ah 184 b)
 |pointer {u e:U} {b:Nat} {x:Value}:u.k=6→u.es= [e]→p b 0=some x→Node p g e x→Node p g u (ah 148 b)
 |func {u:U} {b:Nat} {pv rv:Value} {f:Nat→Nat} {xs:Nat→Value}:u.k=7→(u.m.toNat≤u.es.length∧u.es.length≤1099511627776)→p b 2=some pv→p b 3=some rv→p b 4=some (.bool u.v)→
  eM p pv u.m.toNat f→eM p rv (u.es.length- u.m.toNat) (fun i=>f (u.m.toNat+i))→(∀i,i<u.es.length→p (f i) 3=some (xs i))→
  (∀i(h:i<u.es.length),Node p g u.es[i] (xs i))→Node p g u (ah 108 b)
 |map {u d e:U} {b:Nat} {x y:Value}:u.k=8→u.es= [d,e]→p b 0=some x→p b 1=some y→Node p g d x→Node p g e y→Node p g u (ah 150 b)
 |chan {u e:U} {b:Nat} {x:Value}:u.k=9→u.es= [e]→p b 0=some (.int .i64 (gi u.n))→p b 1=some x→Node p g e x→Node p g u (ah 152 b)
 |iface {u:U} {b:Nat}:u.k=10→g.G b=some u→Node p g u (ah 37 b)
 |iC {u:U}:u.k=11→0≤u.n→u.n.toNat<g.len→u.un= []→p (g.nb u.n.toNat) 1=some (ptr (g.ob u.n.toNat))→Node p g u (ah 60 (g.nb u.n.toNat))
 |named {u y:U} {x:Value}:u.k=11→0≤u.n→u.n.toNat<g.len→u.un= [y]→p (g.nb u.n.toNat) 1=some (ptr (g.ob u.n.toNat))→eL p (g.nb u.n.toNat) x→Node p g y x→Node p g u (ah 60 (g.nb u.n.toNat))
 |union {u:U} {b:Nat} {a:Option Addr} {c:Nat} {f:Nat→Nat} {xs:Nat→Value}:u.k=12∨u.k=13→p b 0=some (.slice a (bD u).length c)→(bD u).length≤c→cd p a (bD u).length (fun i=>ptr (f i))→
  (∀i(h:i<(bD u).length),p (f i) 0=some (.bool (bD u)[i].1)∧p (f i) 1=some (xs i))→(∀i(h:i<(bD u).length),Node p g (bD u)[i].2 (xs i))→Node p g u (ah 202 b)
 |err {u:U} {x:Value}:u.k=15→u.un= [aP]→p g.eb 1=some (ptr g.eo)→eL p g.eb x→Node p g aP x→Node p g u (ah 60 g.eb)
 |comp {u:U} {b:Nat}:u.k=16→p g.cb 1=some (ptr g.co)→eL p g.cb (ah 37 b)→g.G b=some dB→Node p g u (ah 60 g.cb)
structure aK(g a:Ge):Prop where
 nb:a.nb=g.nb
 ob:a.ob=g.ob
 len:a.len=g.len
 eb:a.eb=g.eb
 eo:a.eo=g.eo
 cb:a.cb=g.cb
 co:a.co=g.co
 pk:a.pk=g.pk
 G:∀b u,g.G b=some u→a.G b=some u
theorem aK.refl(g:Ge):aK g g:=⟨rfl,rfl,rfl,rfl,rfl,rfl,rfl,rfl,fun _ _ h=>h⟩
theorem aK.trans{a b c:Ge}(h:aK a b)(k:aK b c):aK a c:=
 ⟨k.nb.trans h.nb,k.ob.trans h.ob,k.len.trans h.len,k.eb.trans h.eb,k.eo.trans h.eo,k.cb.trans h.cb,k.co.trans h.co,k.pk.trans h.pk,fun b u x=>k.G b u (h.G b u x)⟩
theorem Node.sub{p q:Pm}{g t:Ge}(hk:Sub p q)(k:aK g t){u:U}{x:Value}(h:Node p g u x):Node q t u x:=by
 induction h with
 |basic h1 f=>exact .basic h1 (hk _ _ _ f)
 |alias h1 f _ ih=>exact .alias h1 (f.sub hk) ih
 |any h1 _ ih=>exact .any h1 ih
 |array h1 f j l _ ih=>exact .array h1 f (hk _ _ _ j) (hk _ _ _ l) ih
 |slice h1 f j _ ih=>exact .slice h1 f (hk _ _ _ j) ih
 |struct h1 f j c1 c2 l m n _ ih=>
  exact .struct h1 (hk _ _ _ f) (hk _ _ _ j) c1 c2 (l.sub hk) (fun i hi=>let⟨b,o,e,v⟩:=m i hi;⟨b,o,e,hk _ _ _ v⟩) (fun i hi=>let⟨a,b,c,d⟩:=n i hi;⟨by rw[k.pk];exact hk _ _ _ a,hk _ _ _ b,hk _ _ _ c,hk _ _ _ d⟩) ih
 |pointer h1 f j _ ih=>exact .pointer h1 f (hk _ _ _ j) ih
 |func h1 f j l m n h7 w _ ih=>exact .func h1 f (hk _ _ _ j) (hk _ _ _ l) (hk _ _ _ m) (n.sub hk) (h7.sub hk) (fun i hi=>hk _ _ _ (w i hi)) ih
 |map h1 f j l _ _ r s=>exact .map h1 f (hk _ _ _ j) (hk _ _ _ l) r s
 |chan h1 f j l _ ih=>exact .chan h1 f (hk _ _ _ j) (hk _ _ _ l) ih
 |iface h1 f=>exact .iface h1 (k.G _ _ f)
 |iC h1 f j l m=>rw[←k.nb];exact .iC h1 f (by rw[k.len];exact j) l (by rw[k.nb,k.ob];exact hk _ _ _ m)
 |named h1 f j l m n _ ih=>rw[←k.nb];exact .named h1 f (by rw[k.len];exact j) l (by rw[k.nb,k.ob];exact hk _ _ _ m) (by rw[k.nb];exact n.sub hk) ih
 |union h1 f c1 j l _ ih=>exact .union h1 (hk _ _ _ f) c1 (j.sub hk) (fun i hi=>let⟨a,b⟩:=l i hi;⟨hk _ _ _ a,hk _ _ _ b⟩) ih
 |err h1 f j l _ ih=>rw[←k.eb];exact .err h1 f (by rw[k.eb,k.eo];exact hk _ _ _ j) (by rw[k.eb];exact l.sub hk) ih
 |comp h1 f j l=>rw[←k.cb];exact .comp h1 (by rw[k.cb,k.co];exact hk _ _ _ f) (by rw[k.cb];exact j.sub hk) (k.G _ _ l)
def dq(p:Pm)(g:Ge)(m:U)(f:Nat):Prop:=∃a,(∃q,p f 1=some (.pointer q))∧p f 2=some (.string m.nm)∧p f 3=some (ah 108 a)∧Node p g m (ah 108 a)
theorem dq.sub{p q:Pm}{g a:Ge}(hk:Sub p q)(b:aK g a){m:U}{f:Nat}(h:dq p g m f):dq q a m f:=
 let⟨c,h1,d,e,i⟩:=h;⟨c,let⟨q,h⟩:=h1;⟨q,hk _ _ _ h⟩,hk _ _ _ d,hk _ _ _ e,i.sub hk b⟩
structure gj(p:Pm)(g:Ge)(b:Nat)(u:U):Prop where
 ck:p b 0=some (.pointer none)
 ms:u.m.toNat≤u.es.length∧∃(a:Option Addr)(c:Nat)(f:Nat→Nat),p b 1=some (.slice a u.m.toNat c)∧u.m.toNat≤c∧u.es.length≤1099511627776∧cd p a u.m.toNat (fun i=>ptr (f i))∧∀i(h:i<u.m.toNat)(d:i<u.es.length),dq p g u.es[i] (f i)∧p (f i) 0=some (.int .i64 0)
 el:∃(a:Option Addr)(c:Nat)(xs:Nat→Value),p b 2=some (.slice a (u.es.length- u.m.toNat) c)∧u.es.length- u.m.toNat≤c∧u.es.length≤1099511627776∧cd p a (u.es.length- u.m.toNat) xs∧(∀i(h:u.m.toNat+i<u.es.length),Node p g u.es[u.m.toNat+i] (xs i))∧
  ∀i j,i<j→u.m.toNat+j<u.es.length→((u.es.getD (u.m.toNat+j) default).k=12∨(u.es.getD (u.m.toNat+j) default).k=13)→xs i≠xs j
 ps:p b 3=some (.pointer none)
 cm:p b 5=some (.bool true)
theorem gj.sub{p q:Pm}{g m:Ge}(hk:Sub p q)(n:aK g m){b:Nat}{u:U}(h:gj p g b u):gj q m b u where
 ck:=hk _ _ _ h.ck
 ms:=let⟨o,a,c,f,h1,j,k,l,e⟩:=h.ms;⟨o,a,c,f,hk _ _ _ h1,j,k,l.sub hk,fun i hi d=>⟨(e i hi d).1.sub hk n,hk _ _ _ (e i hi d).2⟩⟩
 el:=let⟨a,c,xs,h1,j,k,l,e,r⟩:=h.el;⟨a,c,xs,hk _ _ _ h1,j,k,l.sub hk,fun i hi=>(e i hi).sub hk n,r⟩
 ps:=hk _ _ _ h.ps
 cm:=hk _ _ _ h.cm
abbrev Tm:=Option (Bool×U)
def bh(p:Pm)(g:Ge)(t:Tm)(f:Nat):Prop:=
 match t with
 |none=>p f 1=some .nilIface
 |some (d,e)=>p f 0=some (.bool d)∧∃x,p f 1=some x∧Node p g e x
theorem bh.sub{p q:Pm}{g a:Ge}(hk:Sub p q)(b:aK g a){t:Tm}{f:Nat}(h:bh p g t f):bh q a t f:=by
 match t,h with
 |none,h=>exact hk _ _ _ h
 |some (d,e),⟨h1,x,c,i⟩=>exact⟨hk _ _ _ h1,x,hk _ _ _ c,i.sub hk b⟩
def mh(p:Pm)(g:Ge)(a:Option Addr)(b:List Tm):Prop:=∃f:Nat→Nat,cd p a b.length (fun i=>ptr (f i))∧∀i(h:i<b.length),bh p g b[i] (f i)
theorem mh.sub{p q:Pm}{g b:Ge}(hk:Sub p q)(d:aK g b){a:Option Addr}{c:List Tm}(h:mh p g a c):mh q b a c:=
 let⟨f,h1,e⟩:=h;⟨f,h1.sub hk,fun i hi=>(e i hi).sub hk d⟩
def Ge.below(g:Ge)(b:Nat):Ge:={g with G:=fun a=>if a<b then g.G a else none}
end TS
namespace TS
open Go Go.RowKit Go.Proofs.YtkochlhejabdcaaGreatDoor
theorem tQ(a:U):cH a a=true:=by simp[cH]
theorem Ab(x:U):bf x x=true:=by
 unfold bf;split
 ·simp
 ·split
  ·simp
  ·split
   ·rw[List.all_eq_true]
    intro y a;obtain⟨i,hi,rfl⟩:=List.getElem_of_mem a;simp
   ·rfl
theorem Ac:∀{u:U}{len pos f:Nat},Pl len u pos f→f≤2→u.k≠12→u.k≠13→aM u→aJ u u=true:=by
 intro u;induction u using U.bc with
 |_ u ih=>
  intro len pos f q r g h s;have j:=s.bare q;obtain⟨b,_,_,w⟩:=q.bare r g h;by_cases a:(bare u).k=10
  ·rw[kQ a,j.gen,a]
   simp only[beq_self_eq_true,Bool.not_false,decide_true,Bool.true_and,hasB];rw[List.all_eq_true];intro m hm;rw[List.any_eq_true];obtain⟨f1,l,d,n⟩:=b.ju r a;obtain⟨x,y,o,p⟩:=n.cy l d zo zo m hm;have:=kP hm;exact⟨m,hm,by rw[tQ,ih m zo p o zo zo (j.cy hm)];rfl⟩
  ·rw[kR a,Ab]
   simp only[beq_self_eq_true,decide_true,Bool.true_and];rw[kc];intro i hi t;have e:=b.form.aD.1;have c:=b.jt a e i hi;have v:=U.ar (zm hi);exact ih (bare u).es[i] zo c fj c.form.aD.1 c.form.aD.2 (j.es (zm hi))
def gm(x y:Bool×U):Bool:= !aJ (if y.1 then under x.2 else x.2) (if x.1 then under y.2 else y.2)
def cQ:Tm→Tm→Option Tm
 |none,_=>some none
 |some _,none=>some none
 |some x,some y=>if gm x y then none else if x.1|| !y.1 then some (some x)else some (some y)
def cq:Tm→Tm→Option Tm
 |none,y=>some y
 |some x,none=>some (some x)
 |some x,some y=>if gm x y then none else if !x.1||y.1 then some (some x)else some (some y)
def bP(x:Tm):List Tm→Option (Tm×List Tm)
 | []=>some (x,[])
 |y::r=>match cQ x y with
  |none=>(bP x r).map fun z=>(z.1,y::z.2)
  |some z=>if z=none then none else bP z r
theorem mi:∀{l:List Tm}{x z:Tm}{a:List Tm},bP x l=some (z,a)→a.length≤l.length:=by
 intro l;induction l with
 |nil=>intro x z a h;simp[bP]at h;obtain⟨rfl,rfl⟩:=h;exact Nat.le_refl _
 |cons y r ih=>
  intro x z a h;rw[bP]at h;split at h
  ·simp only[Option.map_eq_some_iff,Prod.mk.injEq]at h
   obtain⟨⟨b,c⟩,h1,rfl,rfl⟩:=h;have:=ih h1;simp at*;omega
  ·split at h
   ·cases h
   ·have:=ih h;simp;omega
def cX(l:List Tm):Option (List Tm):=
 match l with
 | []=>some []
 |x::r=>match _h:bP x r with
  |none=>none
  |some (z,a)=>(cX a).map fun m=>z::m
termination_by l.length
decreasing_by
 have:=mi _h;simp;omega
def eh(l:List Tm):List Tm:=(cX l).getD [none]
def dh(l:List Tm):Bool:=l.any fun t=>t.isNone
def gN(l m:List Tm):List Tm:=eh (l++m)
def b8(l m:List Tm):List Tm:=if l.isEmpty||m.isEmpty then []else eh (l.flatMap fun x=>m.filterMap fun y=>cq x y)
def RT(l:List Tm):Prop:=∀x,some x∈l→gm x x=false
theorem nP{x y z:Tm}(h:cQ x y=some z):z=x∨z=y:=by
 match x,y,h with
 |none,_,h=>simp[cQ]at h;exact .inl h.symm
 |some x,none,h=>simp[cQ]at h;exact .inr h.symm
 |some x,some y,h=>
  simp only[cQ]at h;split at h
  ·cases h
  ·split at h
   ·cases h;exact .inl rfl
   ·cases h;exact .inr rfl
theorem Ad{x y z:Tm}(h:cq x y=some z):z=x∨z=y:=by
 match x,y,h with
 |none,_,h=>simp[cq]at h;exact .inr h.symm
 |some x,none,h=>simp[cq]at h;exact .inl h.symm
 |some x,some y,h=>
  simp only[cq]at h;split at h
  ·cases h
  ·split at h
   ·cases h;exact .inl rfl
   ·cases h;exact .inr rfl
theorem qp:∀{l:List Tm}{x z:Tm}{c:List Tm},bP x l=some (z,c)→(z=x∨z∈l)∧∀t∈c,t∈l:=by
 intro l;induction l with
 |nil=>intro x z c h;simp[bP]at h;obtain⟨rfl,rfl⟩:=h;exact⟨.inl rfl,fun t a=>a⟩
 |cons y r ih=>
  intro x z c h;rw[bP]at h;split at h
  ·simp only[Option.map_eq_some_iff,Prod.mk.injEq]at h
   obtain⟨⟨g,i⟩,h1,rfl,rfl⟩:=h;obtain⟨b,d⟩:=ih h1;exact⟨b.imp id fun h=>List.mem_cons_of_mem _ h,fun t a=>(List.mem_cons.1 a).elim (fun e=>e▸List.mem_cons_self) fun a=>List.mem_cons_of_mem _ (d t a)⟩
  ·rename_i z2 f
   split at h
   ·cases h
   ·obtain⟨b,d⟩:=ih h
    refine⟨?_,fun t a=>List.mem_cons_of_mem _ (d t a)⟩;rcases b with rfl|b
    ·rcases nP f with rfl|rfl
     ·exact .inl rfl
     ·exact .inr List.mem_cons_self
    ·exact .inr (List.mem_cons_of_mem _ b)
theorem Ae:∀{l:List Tm}{x z:Bool×U}{d:List Tm},bP (some x) l=some (some z,d)→z=x∨cQ (some x) (some z)=some (some z):=by
 intro l;induction l with
 |nil=>intro x z d h;simp[bP]at h;exact .inl h.1.symm
 |cons y r ih=>
  intro x z d h;rw[bP]at h;split at h
  ·simp only[Option.map_eq_some_iff,Prod.mk.injEq]at h
   obtain⟨⟨m,n⟩,h1,rfl,rfl⟩:=h;exact ih h1
  ·rename_i z2 a
   split at h
   ·cases h
   ·rename_i f
    match z2,y,f,a,h with
    |some z2,none,_,a,_=>simp[cQ]at a
    |some z2,some y,_,a,h=>
     have b:=a;simp only[cQ]at a;split at a
     ·cases a
     ·split at a
      ·cases a;exact ih h
      ·rename_i j
       have c:y.1=true:=by
        cases k:y.1
        ·rw[k]at j;simp at j
        ·rfl
       have g:y=z2:=Option.some.inj (Option.some.inj a);rw[g]at c b;rcases ih h with e|e
       ·rw[e];exact .inr b
       ·simp only[cQ]at e
        split at e
        ·cases e
        ·rw[if_pos (by rw[c];rfl)]at e
         have i:z2=z:=Option.some.inj (Option.some.inj e);rw[i]at b;exact .inr b
theorem Af:∀{l:List Tm}(x:Tm),none∈l→bP x l=none:=by
 intro l;induction l with
 |nil=>intro x h;cases h
 |cons y r ih=>
  intro x h;rw[bP];split
  ·rename_i a
   match x,y,a,h with
   |none,_,a,_=>simp[cQ]at a
   |some x,none,a,_=>simp[cQ]at a
   |some x,some y,_,h=>
    rw[ih _ (by simpa using h)];rfl
  ·rename_i z a
   split
   ·rfl
   ·rename_i b
    match x,y,a,h with
    |none,_,a,_=>simp[cQ]at a;exact absurd a.symm b
    |some x,none,a,_=>simp[cQ]at a;exact absurd a.symm b
    |some x,some y,_,h=>exact ih _ (by simpa using h)
theorem Ag:∀{l:List Tm},l≠ []→bP none l=none:=by
 intro l h;match l,h with
 |y::r,_=>simp[bP,cQ]
theorem Ah:∀{l:List Tm}{x z:Bool×U}{b:List Tm},(gm z z=false)→bP (some x) l=some (some z,b)→some z ∉ b:=by
 intro l;induction l with
 |nil=>intro x z b _ h;simp[bP]at h;obtain⟨rfl,rfl⟩:=h;simp
 |cons y r ih=>
  intro x z b c h;rw[bP]at h;split at h
  ·rename_i a
   simp only[Option.map_eq_some_iff,Prod.mk.injEq]at h;obtain⟨⟨g,i⟩,h1,rfl,rfl⟩:=h;have f:=ih c h1;intro hm;rcases List.mem_cons.1 hm with rfl|hm
   ·rcases Ae h1 with e|e
    ·subst e
     simp[cQ,c]at a
    ·rw[e]at a;cases a
   ·exact f hm
  ·rename_i z2 a
   split at h
   ·cases h
   ·rename_i d
    match z2,d,a,h with
    |some z2,_,a,h=>exact ih c h
theorem nQ:∀{l m:List Tm},cX l=some m→∀t∈m,t∈l:=by
 intro l;induction c:l.length using Nat.strongRecOn generalizing l with
 |_ n ih=>
  subst c;intro m h t a;match l,h with
  | [],h=>rw[cX]at h;cases h;cases a
  |x::r,h=>
   rw[cX]at h;split at h
   ·cases h
   ·rename_i z d b
    simp only[Option.map_eq_some_iff]at h;obtain⟨g,h1,rfl⟩:=h;have i:=mi b;obtain⟨e,f⟩:=qp b;rcases List.mem_cons.1 a with rfl|a
    ·exact List.mem_cons.2 e
    ·exact List.mem_cons_of_mem _ (f t (ih d.length zp rfl h1 t a))
theorem Ai:∀{l m:List Tm},RT l→none ∉ l→cX l=some m→m.Nodup:=by
 intro l;induction f:l.length using Nat.strongRecOn generalizing l with
 |_ n ih=>
  subst f;intro m hr a h;match l,h,hr,a with
  | [],h,_,_=>rw[cX]at h;cases h;exact List.nodup_nil
  |x::r,h,hr,a=>
   rw[cX]at h;split at h
   ·cases h
   ·rename_i z g c
    simp only[Option.map_eq_some_iff]at h;obtain⟨k,h1,rfl⟩:=h;have o:=mi c;obtain⟨i,e⟩:=qp c;have d:z∈x::r:=List.mem_cons.2 i;refine List.nodup_cons.2 ⟨fun hm=> ?_,ih g.length zp rfl (fun y j=>hr y (List.mem_cons_of_mem _ (e _ j))) (fun hm=>a (List.mem_cons_of_mem _ (e _ hm))) h1⟩;have b:=nQ h1 z hm;match x,z,c,d,b,a with
    |none,_,_,_,_,a=>exact a List.mem_cons_self
    |some x,none,_,d,_,a=>exact a d
    |some x,some z,c,d,b,_=>exact Ah (hr z d) c b
def nR(l m:List Tm):Prop:=m= [none]∨(m.Nodup∧none ∉ m∧∀t∈m,t∈l)
theorem tR{l:List Tm}(h:RT l):nR l (eh l):=by
 unfold eh;by_cases a:none∈l
 ·left
  match l,a with
  |none::r,_=>
   by_cases hr:r= []
   ·subst hr;simp[cX,bP]
   ·rw[cX]
    split
    ·rfl
    ·rename_i b;rw[Ag hr]at b;cases b
  |some x::r,a=>
   rw[cX];split
   ·rfl
   ·rename_i b;rw[Af _ (by simpa using a)]at b;cases b
 ·cases c:cX l with
  |none=>exact .inl rfl
  |some m=>exact .inr ⟨Ai h a c,fun hm=>a (nQ c _ hm),nQ c⟩
theorem RT.append{l m:List Tm}(h:RT l)(k:RT m):RT (l++m):=fun x a=>(List.mem_append.1 a).elim (h x) (k x)
theorem RT.sub{l m:List Tm}(h:RT l)(k:∀t∈m,t∈l):RT m:=fun x a=>h x (k _ a)
theorem qq{l m:List Tm}{t:Tm}(h:t∈l.flatMap fun x=>m.filterMap fun y=>cq x y):t∈l∨t∈m:=by
 simp only[List.mem_flatMap,List.mem_filterMap]at h;obtain⟨x,a,y,b,h⟩:=h;rcases Ad h with rfl|rfl
 ·exact .inl a
 ·exact .inr b
theorem Aj:eh [none]= [none]:=by simp[eh,cX,bP]
theorem Ak{l m:List Tm}(h:RT l)(k:RT m):nR (l++m) (b8 l m):=by
 unfold b8;split
 ·exact .inr ⟨List.nodup_nil,by simp,fun t a=>by cases a⟩
 ·rcases tR (l:=l.flatMap fun x=>m.filterMap fun y=>cq x y) ((h.append k).sub fun t a=>List.mem_append.2 (qq a))with e|⟨h1,b,c⟩
  ·exact .inl e
  ·exact .inr ⟨h1,b,fun t a=>List.mem_append.2 (qq (c t a))⟩
theorem Al{l m:List Tm}(h:RT l)(k:RT m):nR (l++m) (gN l m):=tR (h.append k)
theorem Am:b8 [none] [none]= [none]:=by simp[b8,cq,Aj]
def bM(u:U):List (Bool×U):=
 if(under u).k=10 then(eU (under u)).attach.flatMap fun⟨x,_⟩=>if x.k=13 then [(true,aH x)]else if isIface x then bM x else [(false,x)]
 else []
termination_by u.sz
decreasing_by
 have h1:=jY ‹_›;have a:=dp u;omega
def dO(x:U):List (Bool×U):=if x.k=13 then [(true,aH x)]else if isIface x then bM x else [(false,x)]
theorem An{α β:Type}(l:List α)(f:α→List β):(l.attach.flatMap fun x=>f x.1)=l.flatMap f:=by
 conv=>rhs;rw[←List.attach_map_subtype_val l,List.flatMap_map]
theorem mj{u:U}(h:(under u).k=10):bM u=(eU (under u)).flatMap dO:=by
 rw[bM,if_pos h];exact An (eU (under u)) dO
theorem kd{u:U}(h:(under u).k≠10):bM u= []:=by rw[bM,if_neg h]
theorem qu:∀u:U,0≤cz u:=by
 intro u;induction u using U.bc with
 |_ u ih=>
  by_cases h:(under u).k=10
  ·rw[jZ h]
   have key:∀(l:List U)(n:Int),(∀x∈l,x.sz<u.sz)→0≤n→0≤l.foldl bO n:=by
    intro l;induction l with
    |nil=>exact fun n _ a=>a
    |cons x r b=>
     intro n c a;refine b _ (fun y d=>c y (List.mem_cons_of_mem _ d)) ?_;have:=ih x (c x List.mem_cons_self);unfold bO;split
     ·exact a
     ·split<;>omega
   exact key _ 0 (fun x e=>by have:=jY e;have:=dp u;omega) (Int.le_refl _)
  ·rw[pW h];decide
theorem qw(n:Int)(x:U):n≤bO n x:=by
 have:=qu x;unfold bO;split
 ·exact Int.le_refl _
 ·split<;>omega
theorem tS:∀(l:List U)(n:Int),n≤l.foldl bO n:=by
 intro l;induction l with
 |nil=>exact fun n=>Int.le_refl _
 |cons x r ih=>exact fun n=>Int.le_trans (qw n x) (ih _)
theorem tT:∀u:U,cz u≤50→((bM u).length:Int)≤cz u:=by
 intro u;induction u using U.bc with
 |_ u ih=>
  intro c;by_cases h:(under u).k=10
  ·rw[jZ h]at c⊢
   rw[mj h];have key:∀(l:List U)(n:Int),(∀x∈l,x.sz<u.sz)→0≤n→l.foldl bO n≤50→n+((l.flatMap dO).length:Int)≤l.foldl bO n:=by
    intro l;induction l with
    |nil=>exact fun n _ _ _=>by simp
    |cons x r d=>
     intro n f i e;have h1:=d (bO n x) (fun y j=>f y (List.mem_cons_of_mem _ j)) (Int.le_trans i (qw n x)) e;simp only[List.flatMap_cons,List.length_append,List.foldl_cons]at*;have g:n≤50:=Int.le_trans (qw n x) (Int.le_trans (tS r _) e);have a:bO n x≤50:=Int.le_trans (tS r _) e;have o:((dO x).length:Int)≤bO n x- n:=by
      unfold bO at a⊢;rw[if_neg zo]at a⊢;unfold dO;by_cases b:x.k=13
      ·rw[if_pos b,if_pos (by simp[b])];simp;omega
      ·rw[if_neg b]
       cases hi:isIface x
       ·rw[if_neg zs,if_pos zs];simp;omega
       ·rw[hi,if_neg (by simp[b])]at a
        rw[if_pos rfl,if_neg (by simp[b])];have:=ih x (f x List.mem_cons_self) (by have:=qu x;omega);omega
     omega
   have:=key _ 0 (fun x m=>by have:=jY m;have:=dp u;omega) (Int.le_refl _) c;omega
  ·rw[kd h];exact qu u
def bN(d:Bool)(u:U):Bool:=
 if(under u).k=3∨(under u).k=5 then(under u).es.attach.all fun⟨e,_⟩=>bN d e
 else(under u).k==1||(under u).k==6||(under u).k==9||((under u).k==10&&d)
termination_by u.sz
decreasing_by
 have h1:=U.ar ‹_›;have a:=dp u;omega
theorem mn{d:Bool}{u:U}(h:(under u).k=3∨(under u).k=5):bN d u=(under u).es.all (bN d):=by
 rw[bN,if_pos h];conv=>rhs;rw[←List.attach_map_subtype_val (under u).es,List.all_map]
 rfl
theorem qx{d:Bool}{u:U}(h:¬((under u).k=3∨(under u).k=5)):bN d u=((under u).k==1||(under u).k==6||(under u).k==9||((under u).k==10&&d)):=by rw[bN,if_neg h]
def cR(u:U):Nat:=
 if(under u).k=3∨(under u).k=5 then 1+((under u).es.attach.map fun⟨e,_⟩=>cR e).sum else 0
termination_by u.sz
decreasing_by
 have h1:=U.ar ‹_›;have a:=dp u;omega
theorem mq{u:U}(h:(under u).k=3∨(under u).k=5):cR u=1+((under u).es.map cR).sum:=by
 rw[cR,if_pos h];conv=>rhs;rw[←List.attach_map_subtype_val (under u).es,List.map_map]
 rfl
theorem tU{u:U}(h:¬((under u).k=3∨(under u).k=5)):cR u=0:=by rw[cR,if_neg h]
theorem Ao{l:List Nat}{n:Nat}(h:n∈l):n≤l.sum:=by
 induction l with
 |nil=>cases h
 |cons a r ih=>
  rcases List.mem_cons.1 h with rfl|h
  ·simp
  ·have:=ih h;simp;omega
theorem Ap{u e:U}(h:(under u).k=3∨(under u).k=5)(he:e∈(under u).es):cR e<cR u:=by
 rw[mq h];have:=Ao (List.mem_map_of_mem (f:=cR) he);omega
def iE(t:Tm):Bool:=match t with|none=>true|some (_,e)=>bN false e
def dP(x y:List Tm×Bool):List Tm×Bool:=
 if(x.2||y.2)&& !dh (b8 x.1 y.1)then((b8 x.1 y.1).filter iE,false)else(b8 x.1 y.1,x.2||y.2)
theorem tV(x:U):(aH x).sz≤x.sz:=by
 unfold aH;split
 ·cases h:x.es with
  |nil=>exact Nat.le_refl _
  |cons a r=>exact Nat.le_of_lt (U.ar (by rw[h];exact List.mem_cons_self))
 ·exact Nat.le_refl _
theorem Aq{e:U}{t:Bool×U}(h:t∈bD e):t.2.sz≤e.sz:=by
 unfold bD at h;split at h
 ·obtain⟨x,a,rfl⟩:=List.mem_map.1 h
  have:=U.ar a;have:=tV x;simp only;omega
 ·simp only[List.mem_singleton]at h
  subst h;exact tV e
def dr(u:U):List Tm×Bool:=
 if(under u).k=10 then((under u).es.drop (under u).m.toNat).attach.foldl (fun a e=>dP a (
  if e.1.k=12∨e.1.k=13 then((bD e.1).attach.foldl (fun r t=>gN r (if isIface t.1.2 then(dr t.1.2).1 else [some t.1])) [],false)
  else if isIface e.1 then dr e.1 else([some (false,e.1)],false))) ([none],false)
 else([none],(under u).k==16)
termination_by u.sz
decreasing_by
 ·have h1:=U.ar (List.mem_of_mem_drop e.2)
  have b:=dp u;have c:=Aq t.2;omega
 ·rename_i e _ _
  have h1:=U.ar (List.mem_of_mem_drop e.2);have b:=dp u;omega
def fN(r:List Tm)(t:Bool×U):List Tm:=gN r (if isIface t.2 then(dr t.2).1 else [some t])
def dQ(e:U):List Tm×Bool:=if e.k=12∨e.k=13 then((bD e).foldl fN [],false)else if isIface e then dr e else([some (false,e)],false)
theorem lf{u:U}(h:(under u).k=10):dr u=((under u).es.drop (under u).m.toNat).foldl (fun a e=>dP a (dQ e)) ([none],false):=by
 rw[dr,if_pos h,←List.foldl_attach (f:=fun a e=>dP a (dQ e))];refine congrArg (fun f=>List.foldl f _ _) (funext fun a=>funext fun e=> ?_);have b:((bD e.1).attach.foldl (fun r t=>gN r (if isIface t.1.2 then(dr t.1.2).1 else [some t.1])) [])=(bD e.1).foldl fN []:=by rw[←List.foldl_attach (f:=fN)];rfl
 simp only[b];rfl
theorem qy{e:U}(h:(under e).k=10):dr (under e)=dr e:=by
 have hu:under (under e)=under e:=cp zo zo zo zo;rw[lf (by rw[hu];exact h),lf h,hu]
theorem nS{α β:Type}(f:β→α→β)(b:β){l:List α}{k:Nat}(h:k<l.length):(l.take (k+1)).foldl f b=f ((l.take k).foldl f b) l[k]:=by
 rw[List.take_add_one,List.getElem?_eq_getElem h,List.foldl_append];rfl
theorem ke{u:U}(h:(under u).k≠10):dr u=([none],(under u).k==16):=by rw[dr,if_neg h]
def ie(u:U):Bool:=
 if(under u).k=10 then((under u).es.drop (under u).m.toNat).attach.any fun⟨e,_⟩=>if e.k=12 then e.es.any fun x=>x.k !=13&&isIface x else e.k !=13&&isIface e&&ie e
 else false
termination_by u.sz
decreasing_by
 have h1:=U.ar (List.mem_of_mem_drop ‹_›);have a:=dp u;omega
def kg(e:U):Bool:=if e.k=12 then e.es.any fun x=>x.k !=13&&isIface x else e.k !=13&&isIface e&&ie e
theorem tW{u:U}(h:(under u).k=10):ie u=((under u).es.drop (under u).m.toNat).any kg:=by
 rw[ie,if_pos h];conv=>rhs;rw[←List.attach_map_subtype_val ((under u).es.drop (under u).m.toNat),List.any_map]
 rfl
theorem Ar{u:U}(h:(under u).k≠10):ie u=false:=by rw[ie,if_neg h]
structure gO(u:U)(a:List Tm)(cmp:Bool):Prop where
 cP:a= [none]∨(a.Nodup∧none ∉ a∧∀t∈a,∃x∈bM u,t=some x)
 gen:bd u=false→a= [none]∧cmp=false
 mix:bd u=true→ie u=false→a≠ [none]∨cmp=true
 inv:cmp=true→a= [none]
 eq:dr u=(a,cmp)
def cS(p:Pm)(g:Ge)(b:Nat)(u:U):Prop:=∃(tb:Nat)(c:Option Addr)(d:Nat)(f:Nat→Nat)(ta:Option Addr)(tc:Nat)(a:List Tm)(cmp:Bool),p b 6=some (ptr tb)∧p tb 0=some (.bool false)∧p tb 1=some (.slice c (an u).length d)∧(an u).length≤d∧(an u).length≤1099511627776∧cd p c (an u).length (fun i=>ptr (f i))∧
 (∀i(h:i<(an u).length),dq p g (an u)[i] (f i))∧p tb 2=some (.slice ta a.length tc)∧a.length≤tc∧a.length≤1099511627776∧mh p g ta a∧p tb 3=some (.bool cmp)∧gO u a cmp∧(ta=none→tc=0)∧∀x,ta=some x→x.spot=none
theorem cS.sub{p q:Pm}{g j:Ge}(hk:Sub p q)(k:aK g j){b:Nat}{u:U}(h:cS p g b u):cS q j b u:=
 let⟨tb,l,m,f,ta,tc,n,cmp,h1,o,r,s,t,v,h7,w,x,a,c,d,e⟩:=h
 ⟨tb,l,m,f,ta,tc,n,cmp,hk _ _ _ h1,hk _ _ _ o,hk _ _ _ r,s,t,v.sub hk,fun i hi=>(h7 i hi).sub hk k,hk _ _ _ w,x,a,c.sub hk k,hk _ _ _ d,e⟩
end TS
namespace TS
open Go Go.RowKit
def bu(k:Int):Nat:=
 if k=1 then 105 else if k=3 then 144 else if k=4 then 146 else if k=5 then 184 else if k=6 then 148
 else if k=7 then 108 else if k=8 then 150 else if k=9 then 152 else if k=10 then 37 else if k=12∨k=13 then 202 else 60
section
variable {p:Pm} {g:Ge} {u v:U} {x y:Value}
theorem AC.end(h:AC p x y):∃t c,t≠142∧y=ah t c:=by
 induction h with
 |last h1 _ _=>exact⟨_,_,h1,rfl⟩
 |next _ _ _ _ ih=>exact ih
theorem AC.start(h:AC p x y):∃b,x=ah 142 b∧p b 3=some y:=by
 cases h with
 |last _ _ a=>exact⟨_,rfl,a⟩
 |next _ _ a _=>exact⟨_,rfl,a⟩
theorem Node.tag(h:Node p g u x)(c:u.k≠2)(a:u.k≠14):(∃b,x=ah (bu u.k) b)∧1≤u.k∧u.k≤16:=by
 cases h with
 |alias h _ _=>exact absurd h c
 |any h _=>exact absurd h a
 |union h _ _ _ _ _=>rcases h with h|h<;>rw[h]<;>exact⟨⟨_,rfl⟩,by decide,by decide⟩
 |basic h _=>rw[h];exact⟨⟨_,rfl⟩,by decide,by decide⟩
 |array h=>rw[h];exact⟨⟨_,rfl⟩,by decide,by decide⟩
 |slice h=>rw[h];exact⟨⟨_,rfl⟩,by decide,by decide⟩
 |struct h=>rw[h.1];exact⟨⟨_,rfl⟩,by decide,by decide⟩
 |pointer h=>rw[h];exact⟨⟨_,rfl⟩,by decide,by decide⟩
 |func h=>rw[h];exact⟨⟨_,rfl⟩,by decide,by decide⟩
 |map h=>rw[h];exact⟨⟨_,rfl⟩,by decide,by decide⟩
 |chan h=>rw[h];exact⟨⟨_,rfl⟩,by decide,by decide⟩
 |iface h=>rw[h];exact⟨⟨_,rfl⟩,by decide,by decide⟩
 |iC h=>rw[h];exact⟨⟨_,rfl⟩,by decide,by decide⟩
 |named h=>rw[h];exact⟨⟨_,rfl⟩,by decide,by decide⟩
 |err h=>rw[h];exact⟨⟨_,rfl⟩,by decide,by decide⟩
 |comp h=>rw[h];exact⟨⟨_,rfl⟩,by decide,by decide⟩
theorem eN{k l:Int}(h:bu k=bu l)(hk:k≠2∧k≠14∧1≤k∧k≤16∧k≠11∧k≠12∧k≠13∧k≠15∧k≠16)(b:l≠2∧l≠14∧1≤l∧l≤16):k=l:=by
 have h1:k=1∨k=3∨k=4∨k=5∨k=6∨k=7∨k=8∨k=9∨k=10:=zo;have a:l=1∨l=3∨l=4∨l=5∨l=6∨l=7∨l=8∨l=9∨l=10∨l=11∨l=12∨l=13∨l=15∨l=16:=zo;rcases h1 with rfl|rfl|rfl|rfl|rfl|rfl|rfl|rfl|rfl<;>rcases a with rfl|rfl|rfl|rfl|rfl|rfl|rfl|rfl|rfl|rfl|rfl|rfl|rfl|rfl<;>first|rfl|(revert h;decide)
theorem Node.od(h:Node p g u x)(a:u.k≠2)(b:u.k≠14):bu u.k≠142:=by
 have:=(h.tag a b).2;have a:u.k=1∨u.k=3∨u.k=4∨u.k=5∨u.k=6∨u.k=7∨u.k=8∨u.k=9∨u.k=10∨u.k=11∨u.k=12∨u.k=13∨u.k=15∨u.k=16:=zo;rcases a with e|e|e|e|e|e|e|e|e|e|e|e|e|e<;>rw[e]<;>decide
theorem Node.strip{len pos f:Nat}(h:Node p g u x)(n:Pl len u pos f)(o:f≤2)(i:u.k≠12)(j:u.k≠13):∃b,Node p g (bare u) (ah (bu (bare u).k) b)∧bu (bare u).k≠142∧(x=ah (bu (bare u).k) b∨AC p x (ah (bu (bare u).k) b)):=by
 obtain⟨_,m,d,_⟩:=n.bare o i j;by_cases l:u.k=2
 ·cases h with
  |alias _ ha c=>
   obtain⟨b,e⟩:=(c.tag m d).1;subst e;exact⟨b,c,c.od m d,.inr ha⟩
  |any h _=>omega
  |union h _ _ _ _ _=>omega
  |_=>omega
 ·by_cases a:u.k=14
  ·cases h with
   |any _ c=>
    rw[gI a];obtain⟨b,e⟩:=(c.tag zd zd).1;subst e;exact⟨b,c,c.od zd zd,.inl rfl⟩
   |union h _ _ _ _ _=>omega
   |_=>omega
  ·rw[bR l a]
   obtain⟨b,e⟩:=(h.tag l a).1;subst e;exact⟨b,h,h.od l a,.inl rfl⟩
end
end TS
namespace TS
open Go Go.RowKit Go.Proofs.YtkochlhejabdcaaGreatDoor
section
variable {p:Pm} {g:Ge} {u v:U} {x y:Value}
theorem Node.kl(h:Node p g u x)(hk:u.k=1):∃b,x=ah 105 b∧p b 0=some (.int .i64 (u.n+1)):=by
 cases h with
 |basic _ a=>exact⟨_,rfl,a⟩
 |_=>omega
theorem Node.ko(h:Node p g u x)(hk:u.k=3):∃b e y,x=ah 144 b∧u.es= [e]∧p b 0=some (.int .i64 u.n)∧p b 1=some y∧Node p g e y:=by
 cases h with
 |array _ a c d f=>exact⟨_,_,_,rfl,a,c,d,f⟩
 |_=>omega
theorem Node.mA(h:Node p g u x)(hk:u.k=4):∃b e y,x=ah 146 b∧u.es= [e]∧p b 0=some y∧Node p g e y:=by
 cases h with
 |slice _ a c d=>exact⟨_,_,_,rfl,a,c,d⟩
 |_=>omega
theorem Node.og(h:Node p g u x)(hk:u.k=6):∃b e y,x=ah 148 b∧u.es= [e]∧p b 0=some y∧Node p g e y:=by
 cases h with
 |pointer _ a c d=>exact⟨_,_,_,rfl,a,c,d⟩
 |_=>omega
theorem Node.oh(h:Node p g u x)(hk:u.k=8):∃b d e y z,x=ah 150 b∧u.es= [d,e]∧p b 0=some y∧p b 1=some z∧Node p g d y∧Node p g e z:=by
 cases h with
 |map _ a c f i j=>exact⟨_,_,_,_,_,rfl,a,c,f,i,j⟩
 |_=>omega
theorem Node.oi(h:Node p g u x)(hk:u.k=9):∃b e y,x=ah 152 b∧u.es= [e]∧p b 0=some (.int .i64 (gi u.n))∧p b 1=some y∧Node p g e y:=by
 cases h with
 |chan _ a c d f=>exact⟨_,_,_,rfl,a,c,d,f⟩
 |_=>omega
theorem Node.iY(h:Node p g u x)(hk:u.k=10):∃b,x=ah 37 b∧g.G b=some u:=by
 cases h with
 |iface _ a=>exact⟨_,rfl,a⟩
 |_=>omega
theorem Node.kp(h:Node p g u x)(hk:u.k=5):∃(b:Nat)(a a':Option Addr)(c c':Nat)(f:Nat→Nat)(xs:Nat→Value),x=ah 184 b∧p b 0=some (.slice a u.es.length c)∧p b 1=some (.slice a' u.es.length c')∧u.es.length≤c∧u.es.length≤1099511627776∧cd p a u.es.length (fun i=>ptr (f i))∧
 (∀i(h:i<u.es.length),∃b o,a'= .some (Xa b o)∧p b (o+i)=some (.string u.es[i].tg))∧(∀i(h:i<u.es.length),p (f i) 1=some (ptr g.pk)∧p (f i) 2=some (.string u.es[i].nm)∧p (f i) 3=some (xs i)∧p (f i) 5=some (.bool false))∧∀i(h:i<u.es.length),Node p g u.es[i] (xs i):=by
 cases h with
 |struct _ d e j l m h7 n q=>exact⟨_,_,_,_,_,_,_,rfl,d,e,j,l,m,h7,n,q⟩
 |_=>omega
theorem Node.lj(h:Node p g u x)(hk:u.k=7):∃(b:Nat)(pv rv:Value)(f:Nat→Nat)(xs:Nat→Value),x=ah 108 b∧(u.m.toNat≤u.es.length∧u.es.length≤1099511627776)∧p b 2=some pv∧p b 3=some rv∧p b 4=some (.bool u.v)∧eM p pv u.m.toNat f∧eM p rv (u.es.length- u.m.toNat) (fun i=>f (u.m.toNat+i))∧
 (∀i,i<u.es.length→p (f i) 3=some (xs i))∧∀i(h:i<u.es.length),Node p g u.es[i] (xs i):=by
 cases h with
 |func _ a c d e j h7 l n=>exact⟨_,_,_,_,_,rfl,a,c,d,e,j,h7,l,n⟩
 |_=>omega
theorem Node.jy(h:Node p g u x)(hk:u.k=11):x=ah 60 (g.nb u.n.toNat)∧0≤u.n∧u.n.toNat<g.len∧p (g.nb u.n.toNat) 1=some (ptr (g.ob u.n.toNat))∧(u.un= []∨∃y z,u.un= [y]∧eL p (g.nb u.n.toNat) z∧Node p g y z):=by
 cases h with
 |iC _ a b c d=>exact⟨rfl,a,b,d,.inl c⟩
 |named _ a b c d e h7=>exact⟨rfl,a,b,d,.inr ⟨_,_,c,e,h7⟩⟩
 |_=>omega
theorem Node.lk(h:Node p g u x)(hk:u.k=15):x=ah 60 g.eb∧u.un= [aP]∧p g.eb 1=some (ptr g.eo)∧∃z,eL p g.eb z∧Node p g aP z:=by
 cases h with
 |err _ a b c d=>exact⟨rfl,a,b,_,c,d⟩
 |_=>omega
theorem Node.mC(h:Node p g u x)(hk:u.k=16):x=ah 60 g.cb∧p g.cb 1=some (ptr g.co)∧∃b,eL p g.cb (ah 37 b)∧g.G b=some dB:=by
 cases h with
 |comp _ a c d=>exact⟨rfl,a,_,c,d⟩
 |_=>omega
theorem AC.unique{z:Value}(h:AC p x y)(k:AC p x z):y=z:=by
 obtain⟨b,rfl,h1⟩:=h.start;obtain⟨c,e,a⟩:=k.start;cases e;rw[h1]at a;exact Option.some.inj a
theorem cd.unique{a:Option Addr}{n:Nat}{f c:Nat→Value}(h:cd p a n f)(k:cd p a n c){i:Nat}(hi:i<n):f i=c i:=by
 obtain⟨b,o,rfl,h1⟩:=h i hi;obtain⟨j,l,e,d⟩:=k i hi;cases e;rw[h1]at d;exact Option.some.inj d
theorem qM{b a:Nat}(h:ptr b=ptr a):b=a:=by cases h;rfl
theorem eM.unique{v:Value}{n m:Nat}{f b:Nat→Nat}(h:eM p v n f)(k:eM p v m b):n=m∧∀i,i<n→f i=b i:=by
 rcases h with⟨rfl,rfl⟩|⟨q,tb,a,c,rfl,h1,_,j⟩
 ·rcases k with⟨rfl,_⟩|⟨_,tb,a,c,e,_⟩
  ·exact⟨rfl,fun i hi=>absurd hi (Nat.not_lt_zero _)⟩
  ·cases e
 ·rcases k with⟨rfl,e⟩|⟨_,l,a',c',e,d,_,o⟩
  ·cases e
  ·cases e
   rw[h1]at d;cases d;exact⟨rfl,fun i hi=>qM (cd.unique j o hi)⟩
end
structure mD(g:Ge):Prop where
 nb:∀i j,i<g.len→j<g.len→g.nb i=g.nb j→i=j
 ob:∀i j,i<g.len→j<g.len→g.ob i=g.ob j→i=j
 ne:∀i,i<g.len→g.nb i≠g.eb
 nc:∀i,i<g.len→g.nb i≠g.cb
 ec:g.eb≠g.cb
 oe:∀i,i<g.len→g.ob i≠g.eo
 oc:∀i,i<g.len→g.ob i≠g.co
 ac:g.eo≠g.co
structure Vt(len:Nat)(u:U):Prop where
 val:aM u
 pl:∃f,f≤2∧Pl len u 0 f
theorem Vt.bare{len:Nat}{u:U}(h:Vt len u):Vt len (TS.bare u)∧(TS.bare u).k≠2∧(TS.bare u).k≠14∧(TS.bare u).sz≤u.sz:=by
 obtain⟨f,b,a⟩:=h.pl;obtain⟨h1,c,d,e⟩:=a.bare b a.form.aD.1 a.form.aD.2;exact⟨⟨h.val.bare a,f,b,h1⟩,c,d,e⟩
theorem Vt.aD{len:Nat}{u:U}(h:Vt len u):u.k≠12∧u.k≠13:=by obtain⟨f,b,a⟩:=h.pl;exact a.form.aD
theorem Vt.part{len:Nat}{u:U}(h:Vt len u)(a:u.k≠10){i:Nat}(hi:i<u.es.length):Vt len u.es[i]:=by
 obtain⟨f,c,b⟩:=h.pl;exact⟨h.val.es (zm hi),_,fj,b.jt a h.aD.1 i hi⟩
theorem Vt.one{len:Nat}{u e:U}(h:Vt len u)(a:u.k≠10)(he:u.es= [e]):Vt len e:=by
 have:=h.part a (i:=0) (by rw[he];simp);simpa [he]using this
theorem Vt.cy{len:Nat}{u:U}(h:Vt len u)(b:u.k=10){m:U}(hm:m∈an u):Vt len m∧m.k=7:=by
 obtain⟨f,j,l⟩:=h.pl;obtain⟨f1,c,a,d⟩:=l.ju j b;obtain⟨n,o,e,i⟩:=d.cy c a zo zo m hm;exact⟨⟨h.val.cy hm,o,e,i⟩,n⟩
theorem Vt.refl{len:Nat}{u:U}(h:Vt len u):aJ u u=true:=by
 obtain⟨f,b,a⟩:=h.pl;exact Ac a b a.form.aD.1 a.form.aD.2 h.val
theorem Vt.form{len:Nat}{u:U}(h:Vt len u):∃f,Form len u 0 f:=by obtain⟨f,b,a⟩:=h.pl;exact⟨f,a.form⟩
theorem Vt.strip{len:Nat}{u:U}(h:Vt len u){p:Pm}{g:Ge}{x:Value}(c:Node p g u x):∃b,Node p g (TS.bare u) (ah (bu (TS.bare u).k) b)∧bu (TS.bare u).k≠142∧(x=ah (bu (TS.bare u).k) b∨AC p x (ah (bu (TS.bare u).k) b)):=by
 obtain⟨f,d,a⟩:=h.pl;exact c.strip a d a.form.aD.1 a.form.aD.2
theorem uJ{u v:U}:(bare (bare u))=bare u→(bare (bare v))=bare v→aJ (bare u) (bare v)=aJ u v:=by
 intro h1 b;by_cases a:(bare u).k=10
 ·rw[kQ a,kQ (by rw[h1];exact a),h1,b]
 ·rw[kR a,kR (by rw[h1];exact a),h1,b]
theorem jz{len:Nat}{u:U}(h:Vt len u):bare (bare u)=bare u:=bR h.bare.2.1 h.bare.2.2.1
theorem kq{u v:U}(h:u.k≠2)(a:u.k≠14)(c:v.k≠2)(b:v.k≠14)(d:u.k≠10):aJ u v=(u.k==v.k&&decide (u.es.length=v.es.length)&&(bf u v&&(u.es.zip v.es).all fun(e,f)=>aJ e f)):=by
 rw[kR (by rw[bR h a];exact d),bR h a,bR c b]
theorem Form.lens{len:Nat}{u:U}{pos f:Nat}(h:Form len u pos f)(hk:u.k=1∨u.k=11∨u.k=15∨u.k=16):u.es= []:=by
 cases h with
 |basic _ _ _ h=>exact h
 |pre _ h=>exact h
 |err _ h _=>exact h
 |named _ _ _ h _ _=>exact h
 |one a _ _=>omega
 |ptr a _ _ _=>omega
 |_=>omega
theorem Form.oj{len:Nat}{u:U}{pos f:Nat}(h:Form len u pos f)(hk:u.k=7):0≤u.m∧u.m.toNat≤u.es.length:=by
 cases h with
 |func _ a b _=>exact⟨a,b⟩
 |pre a _=>omega
 |one a _ _=>omega
 |ptr a _ _ _=>omega
 |_=>omega
theorem Form.oq{len:Nat}{u:U}{pos f:Nat}(h:Form len u pos f)(hk:u.k=9):0≤u.n∧u.n<3:=by
 cases h with
 |ptr _ a b _=>exact⟨a,b⟩
 |pre a _=>omega
 |one a _ _=>omega
 |_=>omega
theorem uK{n m:Int}(h1:0≤n∧n<3)(c:0≤m∧m<3)(h:gi n=gi m):n=m:=by
 have a:n=0∨n=1∨n=2:=zo;have b:m=0∨m=1∨m=2:=zo;rcases a with rfl|rfl|rfl<;>rcases b with rfl|rfl|rfl<;>first|rfl|(revert h;decide)
theorem uL{len:Nat}{p:Pm}{g:Ge}(T:mD g):∀{u v:U}{x:Value},Vt len u→Vt len v→Node p g u x→Node p g v x→aJ u v=true:=by
 intro u;induction u using U.bc with
 |_ u ih=>
  intro v x hu P h k;obtain⟨b,E,ht,hx⟩:=hu.strip h;obtain⟨b',D,kt,V⟩:=P.strip k;have e:ah (bu (bare u).k) b=ah (bu (bare v).k) b':=by
   rcases hx with rfl|hx
   ·rcases V with e|V
    ·exact e
    ·obtain⟨_,e,_⟩:=V.start;injection e with A;exact absurd A ht
   ·rcases V with rfl|V
    ·obtain⟨_,e,_⟩:=hx.start;injection e with A;exact absurd A kt
    ·exact hx.unique V
  rw[←e]at D;have et:bu (bare u).k=bu (bare v).k:=by injection e
  rw[←uJ (jz hu) (jz P)];obtain⟨hu,u2,u14,hs⟩:=hu.bare;obtain⟨P,v2,O,_⟩:=P.bare;clear e V kt h k;generalize bare u=l at*;generalize bare v=s at*;have PS:=(E.tag u2 u14).2;have PT:=(D.tag v2 O).2;have PQ:=hu.aD;have PR:=P.aD;by_cases hN:l.k=11∨l.k=15∨l.k=16
  ·have PH:s.k=11∨s.k=15∨s.k=16:=by
    by_cases PG:s.k=11∨s.k=15∨s.k=16
    ·exact PG
    ·have:=eN et.symm ⟨v2,O,by omega,by omega,by omega,by omega,by omega,by omega,by omega⟩ ⟨u2,u14,by omega,by omega⟩
     omega
   obtain⟨f,W⟩:=hu.form;obtain⟨f',G⟩:=P.form;have A:=W.lens zo;have o:=G.lens zo;rw[kq u2 u14 v2 O zo,A,o];have hb:∀{a b:Nat},ah 60 a=ah 60 b→a=b:=fun h=>by cases h;rfl
   have H:∀{t a b:Nat}{x:Value},x=ah 60 a→x=ah 60 b→a=b:=fun h k=>hb (h.symm.trans k);rcases hN with h1|h1|h1<;>rcases PH with j|j|j
   ·obtain⟨L,J,C,_⟩:=E.jy h1
    obtain⟨M,m1,m2,_⟩:=D.jy j;have:=T.nb _ _ C m2 (H (t:=0) L M);have X:l.n=s.n:=zo;simp[h1,j,bf,X]
   ·obtain⟨L,J,C,_⟩:=E.jy h1
    obtain⟨M,_⟩:=D.lk j;exact absurd (H (t:=0) L M) (T.ne _ C)
   ·obtain⟨L,J,C,_⟩:=E.jy h1
    obtain⟨M,_⟩:=D.mC j;exact absurd (H (t:=0) L M) (T.nc _ C)
   ·obtain⟨L,J,C,_⟩:=D.jy j
    obtain⟨M,_⟩:=E.lk h1;exact absurd (H (t:=0) L M) (T.ne _ C)
   ·simp[h1,j,bf]
   ·obtain⟨L,_⟩:=E.lk h1
    obtain⟨M,_⟩:=D.mC j;exact absurd (H (t:=0) L M) T.ec
   ·obtain⟨L,J,C,_⟩:=D.jy j
    obtain⟨M,_⟩:=E.mC h1;exact absurd (H (t:=0) L M) (T.nc _ C)
   ·obtain⟨L,_⟩:=D.lk j
    obtain⟨M,_⟩:=E.mC h1;exact absurd (H (t:=0) L M) T.ec
   ·simp[h1,j,bf]
  ·have PI:l.k=s.k:=eN et ⟨u2,u14,by omega,by omega,by omega,by omega,by omega,by omega,by omega⟩ ⟨v2,O,by omega,by omega⟩
   by_cases Y:l.k=10
   ·obtain⟨c,A,h1⟩:=E.iY Y
    obtain⟨c',o,j⟩:=D.iY zo;rw[A]at o;cases o;rw[h1]at j;cases j;exact hu.refl
   ·rw[kq u2 u14 v2 O Y]
    have key:l.es.length=s.es.length→bf l s=true→(∀i(h:i<l.es.length)(h':i<s.es.length),∃z,Node p g l.es[i] z∧Node p g s.es[i] z)→(l.k==s.k&&decide (l.es.length=s.es.length)&&(bf l s&&(l.es.zip s.es).all fun(e,f)=>aJ e f))=true:=by
     intro h1 j F;rw[j,PI,h1];simp only[beq_self_eq_true,decide_true,Bool.true_and];rw[kc];intro i hi w;obtain⟨z,PJ,PK⟩:=F i hi w;have PU:=U.ar (zm hi);exact ih l.es[i] zo (hu.part Y hi) (P.part zo w) PJ PK
    have K:∀{e S:U}{z:Value},l.es= [e]→s.es= [S]→bf l s=true→Node p g e z→Node p g S z→(l.k==s.k&&decide (l.es.length=s.es.length)&&(bf l s&&(l.es.zip s.es).all fun(e,f)=>aJ e f))=true:=by
     intro e S z h1 j F B h5;refine key (by rw[h1,j];rfl) F fun i hi w=>⟨z,?_,?_⟩
     ·have:i=0:=by rw[h1]at hi;simpa using hi
      subst this;simpa [h1]using B
     ·have:i=0:=by rw[h1]at hi;simpa using hi
      subst this;simpa [j]using h5
    have PL:l.k=1∨l.k=3∨l.k=4∨l.k=5∨l.k=6∨l.k=7∨l.k=8∨l.k=9:=zo;rcases PL with h|h|h|h|h|h|h|h
    ·obtain⟨c,A,h1⟩:=E.kl h
     obtain⟨c',o,j⟩:=D.kl zo;rw[A]at o;cases o;rw[h1]at j;have X:l.n=s.n:=by injection j with j;injection j with _ j;omega
     obtain⟨f,W⟩:=hu.form;obtain⟨f',G⟩:=P.form;have I:=W.lens zo;have N:=G.lens zo;exact key (by rw[I,N]) (by simp[bf,h,X]) fun i hi=>by rw[I]at hi;simp at hi
    ·obtain⟨c,e,z,A,I,h1,F,J⟩:=E.ko h
     obtain⟨c',S,z',o,N,j,B,C⟩:=D.ko zo;rw[A]at o;cases o;rw[h1]at j;rw[F]at B;cases B;have X:l.n=s.n:=by injection j with j;injection j with _ j
     exact K I N (by simp[bf,h,X]) J C
    ·obtain⟨c,e,z,A,I,F,J⟩:=E.mA h
     obtain⟨c',S,z',o,N,B,C⟩:=D.mA zo;rw[A]at o;cases o;rw[F]at B;cases B;exact K I N (by simp[bf,h]) J C
    ·obtain⟨c,a,a',d,d',f,xs,A,h1,j,_,_,F,B,h5,h6⟩:=E.kp h
     obtain⟨c',q,q',r,r',f',PM,o,Q,Z,_,_,k3,k4,k5,k6⟩:=D.kp zo;rw[A]at o;cases o;rw[h1]at Q;rw[j]at Z;have hl:l.es.length=s.es.length:=by injection Q with Q;injection Q
     have ha:a=q:=by injection Q with Q;injection Q
     have PN:a'=q':=by injection Z with Z;injection Z
     subst ha;subst PN;have R:∀i,i<l.es.length→f i=f' i:=fun i hi=>qM (cd.unique F (by rw[hl];exact k3) hi);refine key hl ?_ fun i hi w=>⟨xs i,h6 i hi,?_⟩
     ·unfold bf
      rw[if_neg zo,if_neg zo,if_pos h,kc];intro i hi w;have g1:=(h5 i hi).2.1;have g2:=(k5 i w).2.1;rw[←R i hi,g1]at g2;obtain⟨b1,o1,A,g3⟩:=B i hi;obtain⟨b2,o2,o,g4⟩:=k4 i w;rw[A]at o;cases o;rw[g3]at g4;injection g2 with g2;injection g2 with g2
      injection g4 with g4;injection g4 with g4
      simp[g2,g4]
     ·have g1:=(h5 i hi).2.2.1
      have g2:=(k5 i w).2.2.1;rw[←R i hi,g1]at g2;rw[Option.some.inj g2];exact k6 i w
    ·obtain⟨c,e,z,A,I,F,J⟩:=E.og h
     obtain⟨c',S,z',o,N,B,C⟩:=D.og zo;rw[A]at o;cases o;rw[F]at B;cases B;exact K I N (by simp[bf,h]) J C
    ·obtain⟨c,pv,rv,f,xs,A,hm,h1,j,F,B,h5,h6,h7⟩:=E.lj h
     obtain⟨c',PW,PX,f',PM,o,km,Q,Z,k3,k4,k5,k6,k7⟩:=D.lj zo;rw[A]at o;cases o;rw[h1]at Q;cases Q;rw[j]at Z;cases Z;rw[F]at k3;obtain⟨t1,t2⟩:=B.unique k4;obtain⟨t3,t4⟩:=h5.unique k5;obtain⟨_,W⟩:=hu.form;obtain⟨_,G⟩:=P.form;have m1:=W.oj h;have m2:=G.oj zo;have em:l.m=s.m:=zo;have hl:l.es.length=s.es.length:=zo;have ev:l.v=s.v:=by injection k3 with k3;injection k3
     refine key hl (by simp[bf,h,em,ev]) fun i hi w=>⟨xs i,h7 i hi,?_⟩
     have R:f i=f' i:=by
      by_cases PO:i<l.m.toNat
      ·exact t2 i PO
      ·have:=t4 (i- l.m.toNat) zo
       rwa [show l.m.toNat+(i- l.m.toNat)=i by omega,show s.m.toNat+(i- l.m.toNat)=i by omega]at this
     have g1:=h6 i hi;have g2:=k6 i w;rw[←R,g1]at g2;rw[Option.some.inj g2];exact k7 i w
    ·obtain⟨c,d,e,y,z,A,I,h1,F,J,C⟩:=E.oh h
     obtain⟨c',d',S,y',z',o,N,j,B,n3,n4⟩:=D.oh zo;rw[A]at o;cases o;rw[h1]at j;cases j;rw[F]at B;cases B;refine key (by rw[I,N];rfl) (by simp[bf,h]) fun i hi w=> ?_;have:i=0∨i=1:=by rw[I]at hi;simp at hi;omega
     rcases this with rfl|rfl
     ·exact⟨y,by simpa [I]using J,by simpa [N]using n3⟩
     ·exact⟨z,by simpa [I]using C,by simpa [N]using n4⟩
    ·obtain⟨c,e,z,A,I,h1,F,J⟩:=E.oi h
     obtain⟨c',S,z',o,N,j,B,C⟩:=D.oi zo;rw[A]at o;cases o;rw[h1]at j;rw[F]at B;cases B;obtain⟨_,W⟩:=hu.form;obtain⟨_,G⟩:=P.form;have X:l.n=s.n:=uK (W.oq h) (G.oq zo) (by injection j with j;injection j);exact K I N (by simp[bf,h,X]) J C
structure ks(p:Pm)(g:Ge)(c:Nat)(w:World):Prop where
 kw:KW p w
 pl:∀b o v,p b o=some v→Plain w b
 inj:mD g
 cap:bU w
 c0:Xc w c 0 (.bool false)
 c1:Xc w c 1 (.bool false)
 done:∀b u,g.G b=some u→p b 0=some (.pointer none)∧cS p g b u
 po:∀i,i<g.len→∃o v,p (g.ob i) o=some v
 cY:∃o v,p g.eo o=some v
 cZ:∃o v,p g.co o=some v
theorem ks.dD{p:Pm}{g:Ge}{c:Nat}{w a:World}(h:ks p g c w)(k:aB w a):ks p g c a:=
 ⟨k.kw h.kw,fun b o v d=>k.plain (h.pl b o v d),h.inj,k.cap h.cap,k.cell h.c0,k.cell h.c1,h.done,h.po,h.cY,h.cZ⟩
inductive gq (g:Ge) (w:World) (n m:Nat):Value→Prop
 |nil:gq g w n m (.pointer none)
 |cons {s x y:Nat} {u v:U} {q:Value}:Xc w s 0 (ptr x)→Xc w s 1 (ptr y)→Xc w s 2 q→g.G x=some u→g.G y=some v→n<u.sz→m<v.sz→kk q<s+1→gq g w n m q→gq g w n m (ptr s)
theorem gq.mono{g:Ge}{w:World}{n m a b:Nat}{q:Value}(h:gq g w n m q)(j:a≤n)(hm:b≤m):gq g w a b q:=by
 induction h with
 |nil=>exact .nil
 |cons h1 c d e f k h7 i _ ih=>exact .cons h1 c d e f zo zo i ih
theorem gq.dD{g:Ge}{w a:World}{n m:Nat}{q:Value}(h:gq g w n m q)(k:aB w a):gq g a n m q:=by
 induction h with
 |nil=>exact .nil
 |cons h1 b c d e f h7 i _ ih=>exact .cons (k.cell h1) (k.cell b) (k.cell c) d e f h7 i ih
theorem gq.shape{g:Ge}{w:World}{n m:Nat}{q:Value}(h:gq g w n m q):q= .pointer none∨∃s,q=Xp s:=by
 cases h with
 |nil=>exact .inl rfl
 |cons=>exact .inr ⟨_,rfl⟩
end TS
namespace Go.Proofs.YtkochlhejabdcaaGreatDoor
open Go.RowKit TS
theorem qU(k:Int):cf (bu k):=by
 unfold bu;repeat' split
 ·exact Cb
 ·exact Cc
 ·exact Cd
 ·exact Ce
 ·exact Cf
 ·exact Cg
 ·exact Ch
 ·exact Ci
 ·exact mH
 ·exact uX
 ·exact Cj
theorem ov(t b:Nat)(x:Value)(p:Pm)(d:t≠142)(a:x=ah t b∨AC p x (ah t b))(w:World)(hw:KW p w):
 Xk 125 #[x] w fun e f=>e= .returned (Xi t b)∧w=f:=by
 rcases a with rfl|a
 ·exact fF t _ d w
 ·obtain⟨c,rfl,g⟩:=a.start
  exact AR c t _ w (hw _ _ _ g)
end Go.Proofs.YtkochlhejabdcaaGreatDoor
namespace TS
open Go Go.RowKit Go.Proofs.YtkochlhejabdcaaGreatDoor
theorem oz{a b c:U}(h:a.nm.toList=b.nm.toList):bF a c=bF b c:=by unfold bF;rw[h]
theorem vl{a b c:U}(h:a.nm.toList=b.nm.toList):bF c a=bF c b:=by unfold bF;rw[h]
theorem CU:∀{l r:List U},ef l→ef r→l.length=r.length→(∀m∈r,∃f∈l,f.nm.toList=m.nm.toList)→∀(i:Nat)(h:i<l.length)(q:i<r.length),l[i].nm.toList=r[i].nm.toList:=by
 intro l;induction l with
 |nil=>intro r _ _ _ _ i h;simp at h
 |cons a l ih=>
  intro r u hr s hm;match r,hr,s,hm with
  |b::r,hr,s,hm=>
   have j:=List.pairwise_cons.1 u;have g:=List.pairwise_cons.1 hr;have k:a.nm.toList=b.nm.toList:=by
    obtain⟨f,d,e⟩:=hm b List.mem_cons_self;rcases List.mem_cons.1 d with rfl|d
    ·exact e
    ·exfalso
     have n:bF a b=true:=by rw[←vl e];exact j.1 f d
     have o:∀m∈b::r,∃f∈l,f.nm.toList=m.nm.toList:=fun m c=>by
      obtain⟨f,d,e⟩:=hm m c;rcases List.mem_cons.1 d with rfl|d
      ·exfalso
       have:bF f m=true:=by
        rcases List.mem_cons.1 c with rfl|c
        ·exact n
        ·exact iA n (g.1 m c)
       rw[oz e,jo]at this;cases this
      ·exact⟨f,d,e⟩
     have hnd:((b::r).map fun m=>m.nm.toList).Nodup:=List.pairwise_map.2 (hr.noTwo.imp fun{x y} p e=>by rw[gV.2 e]at p;cases p);have:=nF hnd (r:=l.map fun m=>m.nm.toList) fun x v=>by
      obtain⟨m,c,rfl⟩:=List.mem_map.1 v;obtain⟨f,d,e⟩:=o m c;rw[←e];exact List.mem_map_of_mem d
     simp at this s;omega
   have t:=ih j.2 g.2 (by simpa using s) fun m c=>by
    obtain⟨f,d,e⟩:=hm m (List.mem_cons_of_mem _ c);rcases List.mem_cons.1 d with rfl|d
    ·exfalso
     have:=g.1 m c;rw[←oz k,oz e,jo]at this;cases this
    ·exact⟨f,d,e⟩
   intro i h q;match i,h,q with
   |0,_,_=>exact k
   |i+1,h,q=>exact t i (by simpa using h) (by simpa using q)
theorem CV{l r:List U}(o:ef l)(hr:ef r)(t:l.length=r.length){rs:Nat→Bool}(c:∀(i:Nat)(h:i<l.length)(u:i<r.length),rs i=aJ l[i] r[i])
 {nm d:Nat→ByteArray}(h1:∀(i:Nat)(h:i<l.length),nm i=l[i].nm)(p:∀(i:Nat)(h:i<r.length),d i=r[i].nm):bK l.length (gS nm d rs)=hasB l r:=by
 rw[Bool.eq_iff_iff];constructor
 ·intro ha
  unfold hasB;rw[List.all_eq_true];intro m hm;obtain⟨i,hi,rfl⟩:=List.getElem_of_mem hm;have a:i<l.length:=zo;unfold bK at ha;rw[List.all_eq_true]at ha;have:=ha i (List.mem_range.2 a);unfold gS at this;rw[h1 i a,p i hi,c i a hi,Bool.and_eq_true]at this;rw[List.any_eq_true];exact⟨l[i],zm a,by rw[gV.2 (by simpa using this.1),this.2];rfl⟩
 ·intro k
  unfold hasB at k;rw[List.all_eq_true]at k;have hex:∀m∈r,∃f∈l,f.nm.toList=m.nm.toList∧aJ f m=true:=fun m hm=>by
   obtain⟨f,g,h⟩:=List.any_eq_true.1 (k m hm);rw[Bool.and_eq_true]at h;exact⟨f,g,gV.1 h.1,h.2⟩
  have b:=CU o hr t fun m hm=>let⟨f,g,e,_⟩:=hex m hm;⟨f,g,e⟩;refine lr fun i hi=> ?_;have a:i<r.length:=zo;unfold gS;rw[h1 i hi,p i a,c i hi a,b i hi a];obtain⟨f,g,e,hid⟩:=hex r[i] (zm a);obtain⟨j,q,rfl⟩:=List.getElem_of_mem g;have n:j=i:=by
   have s:=List.pairwise_iff_getElem.1 o;rcases Nat.lt_trichotomy j i with h|h|h
   ·have:=s j i q hi h
    rw[oz (e.trans (b i hi a).symm),jo]at this;cases this
   ·exact h
   ·have:=s i j hi q h
    rw[vl (e.trans (b i hi a).symm),jo]at this;cases this
  subst n;simp[hid]
theorem oA{len:Nat}:∀{u:U}{pos f:Nat},Pl len u pos f→f≤2→f≠0→u.k≠12→u.k≠13→∀m∈an u,aR m.nm=true:=by
 intro u;induction u using U.bc with
 |_ u ih=>
  intro pos f h n d g i m hm;obtain⟨q,o,l,b,hk,p⟩:=h.under n d g i;obtain⟨c,hm⟩:=iS hm;rcases hm with hm|⟨e,he,a,hm⟩
  ·exact(b.jn c hm).2.1
  ·have j:=b.elem c he
   have h1:=U.ar (List.mem_of_mem_drop he);have r:=dp u;unfold aW at a;simp only[Bool.and_eq_true,bne_iff_ne,ne_eq]at a;exact ih e zo j zo zo a.1.1 a.1.2 m hm
theorem Vt.oA{len:Nat}{u:U}(h:Vt len u)(b:u.k=10){m:U}(hm:m∈an u):aR m.nm=true:=by
 obtain⟨f,e,g⟩:=h.pl;obtain⟨f1,c,a,d⟩:=g.ju e b;exact TS.oA d c a zo zo m hm
theorem Vt.vn{len:Nat}{u:U}(h:Vt len u)(b:u.k=10):ef (an u):=by
 obtain⟨f,e,g⟩:=h.pl;obtain⟨f1,c,a,d⟩:=g.ju e b;exact kZ d c a zo zo
theorem AC.val{p:Pm}{x y:Value}(h:AC p x y):∃t b,x=ah t b:=by obtain⟨b,rfl,_⟩:=h.start;exact⟨_,_,rfl⟩
theorem Node.val{p:Pm}{g:Ge}{u:U}{x:Value}(h:Node p g u x):∃t b,x=ah t b:=by
 induction h with
 |alias _ h _ _=>exact h.val
 |any _ _ ih=>exact ih
 |basic=>exact⟨_,_,rfl⟩
 |array=>exact⟨_,_,rfl⟩
 |slice=>exact⟨_,_,rfl⟩
 |struct=>exact⟨_,_,rfl⟩
 |pointer=>exact⟨_,_,rfl⟩
 |func=>exact⟨_,_,rfl⟩
 |map=>exact⟨_,_,rfl⟩
 |chan=>exact⟨_,_,rfl⟩
 |iface=>exact⟨_,_,rfl⟩
 |iC=>exact⟨_,_,rfl⟩
 |named=>exact⟨_,_,rfl⟩
 |union=>exact⟨_,_,rfl⟩
 |err=>exact⟨_,_,rfl⟩
 |comp=>exact⟨_,_,rfl⟩
theorem Node.plain{p:Pm}{g:Ge}{c:Nat}{w:World}{u:U}{t b:Nat}(a:ks p g c w)(h:Node p g u (ah t b))(e:u.k≠2)(d:u.k≠14):Plain w b:=by
 cases h with
 |alias h _ _=>exact absurd h e
 |any h _=>exact absurd h d
 |basic _ h=>exact a.pl _ _ _ h
 |array _ _ h _ _=>exact a.pl _ _ _ h
 |slice _ _ h _=>exact a.pl _ _ _ h
 |struct _ h=>exact a.pl _ _ _ h
 |pointer _ _ h _=>exact a.pl _ _ _ h
 |func _ _ h=>exact a.pl _ _ _ h
 |map _ _ h _ _ _=>exact a.pl _ _ _ h
 |chan _ _ h _ _=>exact a.pl _ _ _ h
 |iface _ h=>exact a.pl _ _ _ (a.done _ _ h).1
 |iC _ _ _ _ h=>exact a.pl _ _ _ h
 |named _ _ _ _ h=>exact a.pl _ _ _ h
 |union _ h=>exact a.pl _ _ _ h
 |err _ _ h=>exact a.pl _ _ _ h
 |comp _ h=>exact a.pl _ _ _ h
theorem CW{u v:U}(h:(bare u).k≠(bare v).k):aJ u v=false:=by
 by_cases a:(bare u).k=10
 ·rw[kQ a,show((bare v).k==10)=false by simp;omega];rfl
 ·rw[kR a,show((bare u).k==(bare v).k)=false by simpa using h];rfl
end TS
