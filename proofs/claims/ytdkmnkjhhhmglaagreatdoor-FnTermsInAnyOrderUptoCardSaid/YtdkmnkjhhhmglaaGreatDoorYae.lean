import Derived.Below
import Derived.Deep.Draws
import Derived.Lib.Hide
import Derived.Test.YtdkmnkjhhhmglaaGreatDoorProg
import Derived.WalkKit
import Derived.WalkLawsBesides
import Derived.WalkSpells
set_option maxRecDepth 100000
set_option maxHeartbeats 8000000
set_option linter.all false
namespace TS
inductive U where
 |mk (k n m:Int) (v:Bool) (nm tg:ByteArray) (es un:List U)
namespace U
def k:U→Int| .mk k _ _ _ _ _ _ _=>k
def n:U→Int| .mk _ n _ _ _ _ _ _=>n
def m:U→Int| .mk _ _ m _ _ _ _ _=>m
def v:U→Bool| .mk _ _ _ v _ _ _ _=>v
def nm:U→ByteArray| .mk _ _ _ _ nm _ _ _=>nm
def tg:U→ByteArray| .mk _ _ _ _ _ tg _ _=>tg
def es:U→List U| .mk _ _ _ _ _ _ es _=>es
def un:U→List U| .mk _ _ _ _ _ _ _ un=>un
end U
mutual
def U.sz:U→Nat
 | .mk _ _ _ _ _ _ es un=>1+jl es+jl un
def jl:List U→Nat
 | []=>0
 |u::r=>u.sz+jl r
end
theorem U.sM(u:U):0<u.sz:=by cases u;simp[U.sz];omega
theorem sN{l:List U}{e:U}(h:e∈l):e.sz≤jl l:=by
 induction l with
 |nil=>cases h
 |cons a r ih=>
  rcases List.mem_cons.1 h with rfl|h
  ·simp[jl]
  ·have:=ih h;simp[jl];omega
theorem U.az{u e:U}(h:e∈u.es):e.sz<u.sz:=by
 cases u;have:=sN h;simp[U.sz,U.es]at*;omega
theorem U.j8{u e:U}(h:e∈u.un):e.sz<u.sz:=by
 cases u;have:=sN h;simp[U.sz,U.un]at*;omega
theorem U.bg{P:U→Prop}(h:∀u,(∀a,a.sz<u.sz→P a)→P u)(u:U):P u:=by
 have key:∀n u,U.sz u=n→P u:=by
  intro n;induction n using Nat.strongRecOn with
  |_ n ih=>exact fun u hu=>h u fun a b=>ih a.sz (hu▸b) a rfl
 exact key _ u rfl
instance:Inhabited U:=⟨.mk 0 0 0 false ByteArray.empty ByteArray.empty [] []⟩
def bt:U:= .mk 10 0 0 false ByteArray.empty ByteArray.empty [] []
def dB:U:= .mk 1 16 0 false ByteArray.empty ByteArray.empty [] []
def errorName:ByteArray:=⟨#[69,114,114,111,114]⟩
def aI:U:= .mk 10 0 1 false ByteArray.empty ByteArray.empty [.mk 7 0 0 false errorName ByteArray.empty [dB] []] []
def bare(u:U):U:=
 if u.k=2 then
  match _h:u.es with
  |e::_=>bare e
  | []=>u
 else if u.k=14 then bt else u
termination_by u.sz
decreasing_by exact U.az (by rw[_h];simp)
def under(u:U):U:=
 if(bare u).k=11∨(bare u).k=15 then(bare u).un.headD (bare u)else bare u
def isIface(u:U):Bool:=(under u).k==10||(under u).k==16
end TS
namespace TS
open Go Go.RowKit
structure Dl where
 a:Option Addr
 len:Nat
abbrev Pm:=Nat→Nat→Option Value
def Sub(p q:Pm):Prop:=∀b o v,p b o=some v→q b o=some v
theorem Sub.refl(p:Pm):Sub p p:=fun _ _ _ h=>h
theorem Sub.trans{p q r:Pm}(h:Sub p q)(k:Sub q r):Sub p r:=fun x o v a=>k x o v (h x o v a)
def KW(p:Pm)(w:World):Prop:=∀b o v,p b o=some v→w.cell? ⟨b,o,none⟩=some v
theorem KW.lt{p:Pm}{w:World}(h:KW p w){b o:Nat}{v:Value}(a:p b o=some v):b<w.heap.size:=World.block_lt_of_cell? _ _ (h b o v a)
theorem KW.aJ{p:Pm}{w:World}(h:KW p w){b:Nat}(c:w.heap.size≤b)(o:Nat):p b o=none:=by
 cases a:p b o with
 |none=>rfl
 |some v=>have:=h.lt a;omega
theorem KW.below{p:Pm}{w a:World}(h:KW p w){n:Nat}(d:Below n w a)(e:∀b o v,p b o=some v→b<n):KW p a:=fun b o v c=>by
 rw[d.cell (p:=⟨b,o,none⟩) (e b o v c)];exact h b o v c
theorem KW.grown{p:Pm}{w a:World}(h:KW p w)(b:Below w.heap.size w a):KW p a:=h.below b fun _ _ _ c=>h.lt c
theorem KW.alloc{p:Pm}{w:World}(h:KW p w)(o:Obj):KW p (w.alloc o):=fun b x v a=>by
 rw[World.cell?_alloc_lt _ _ _ (h.lt a)];exact h b x v a
theorem KW.drew{p:Pm}{w:World}(h:KW p w):KW p w.drew:=h
theorem KW.setCell{p:Pm}{w:World}(h:KW p w){a:Addr}(ha:∀o,p a.block o=none)(v:Value):KW p (w.setCell a v):=fun b o x c=>by
 rw[World.cell?_setCell_other _ _ _ _ (fun e=>by have:=ha o;rw[e]at this;rw[this]at c;cases c)];exact h b o x c
theorem KW.sub{p q:Pm}{w:World}(h:KW q w)(a:Sub p q):KW p w:=fun b o v c=>h b o v (a b o v c)
structure aP(p q:Pm)(n:Nat):Prop where
 le:Sub p q
 new:∀b o v,q b o=some v→p b o=some v∨n≤b
theorem aP.refl(p:Pm)(n:Nat):aP p p n:=⟨.refl p,fun _ _ _ h=> .inl h⟩
theorem aP.trans{p q r:Pm}{n m:Nat}(h:aP p q n)(k:aP q r m)(hm:n≤m):aP p r n:=
 ⟨h.le.trans k.le,fun b o v a=>(k.new b o v a).elim (fun x=>h.new b o v x) fun x=> .inr (by omega)⟩
theorem aP.mono{p q:Pm}{n m:Nat}(h:aP p q n)(hm:m≤n):aP p q m:=⟨h.le,fun b o v a=>(h.new b o v a).imp id fun x=>by omega⟩
theorem aP.aJ{p q:Pm}{n:Nat}(h:aP p q n){b:Nat}(d:b<n)(a:∀o,p b o=none)(o:Nat):q b o=none:=by
 cases c:q b o with
 |none=>rfl
 |some v=>rcases h.new b o v c with x|x
          ·rw[a o]at x;cases x
          ·omega
def dr(p:Pm)(b o:Nat)(u:U)(a:Option Addr)(c:Nat):Prop:=
 p b o=some (.int .i64 u.k)∧p b (o+1)=some (.int .i64 u.n)∧p b (o+2)=some (.int .i64 u.m)∧
 p b (o+3)=some (.bool u.v)∧p b (o+4)=some (.string u.nm)∧p b (o+5)=some (.string u.tg)∧
 p b (o+6)=some (.slice a u.es.length c)
theorem dr.sub{p q:Pm}(hk:Sub p q){b o:Nat}{u:U}{a:Option Addr}{c:Nat}(h:dr p b o u a c):dr q b o u a c:=
 ⟨hk _ _ _ h.1,hk _ _ _ h.2.1,hk _ _ _ h.2.2.1,hk _ _ _ h.2.2.2.1,hk _ _ _ h.2.2.2.2.1,hk _ _ _ h.2.2.2.2.2.1,hk _ _ _ h.2.2.2.2.2.2⟩
mutual
def ak(p:Pm)(D:Dl):U→Option Addr→Nat→Prop
 | .mk k n m _ nm tg es un,a,c=>(es.length≤c∧c≤1048576∧nm.size≤1048576∧tg.size≤1048576∧k.natAbs≤9223372036854775808∧n.natAbs≤9223372036854775808∧m.natAbs≤9223372036854775808)∧aj p D es a∧
   (k=11→0≤n→n<D.len→∃f d,D.a=some ⟨f,d,none⟩∧fi p D un f (d+n.toNat*8))
def aj(p:Pm)(D:Dl):List U→Option Addr→Prop
 | [],_=>True
 |e::r,a=> ∃b o,a=some ⟨b,o,none⟩∧(∃a' c',dr p b o e a' c'∧ak p D e a' c')∧aj p D r (some ⟨b,o+7,none⟩)
def fi(p:Pm)(D:Dl):List U→Nat→Nat→Prop
 | [],_,_=>True
 |e::_,b,o=> ∃a' c',dr p b o e a' c'∧ak p D e a' c'
end
mutual
theorem ak.sub{p q:Pm}{D:Dl}(hk:Sub p q):∀(u:U){a:Option Addr}{c:Nat},ak p D u a c→ak q D u a c
 | .mk k n m v nm tg es un,a,c,h=>by
   simp only[ak]at h⊢;exact⟨h.1,aj.sub hk es h.2.1,fun h1 h2 h3=>let⟨f,d,e,g⟩:=h.2.2 h1 h2 h3;⟨f,d,e,fi.sub hk un g⟩⟩
theorem aj.sub{p q:Pm}{D:Dl}(hk:Sub p q):∀(l:List U){a:Option Addr},aj p D l a→aj q D l a
 | [],a,h=>by simp only[aj]
 |e::r,a,h=>by
  simp only[aj]at h⊢;obtain⟨b,o,ha,⟨a',c',h7,hu⟩,hr⟩:=h;exact⟨b,o,ha,⟨a',c',h7.sub hk,ak.sub hk e hu⟩,aj.sub hk r hr⟩
theorem fi.sub{p q:Pm}{D:Dl}(hk:Sub p q):∀(l:List U){b o:Nat},fi p D l b o→fi q D l b o
 | [],b,o,h=>by simp only[fi]
 |e::r,b,o,h=>by
  simp only[fi]at h⊢;obtain⟨a',c',h7,hu⟩:=h;exact⟨a',c',h7.sub hk,ak.sub hk e hu⟩
end
theorem ak.list{p:Pm}{D:Dl}{u:U}{a:Option Addr}{c:Nat}(h:ak p D u a c):aj p D u.es a:=by
 cases u;simp only[ak]at h;exact h.2.1
theorem ak.cap{p:Pm}{D:Dl}{u:U}{a:Option Addr}{c:Nat}(h:ak p D u a c):u.es.length≤c∧c≤1048576:=by
 cases u;simp only[ak]at h;exact⟨h.1.1,h.1.2.1⟩
theorem ak.ints{p:Pm}{D:Dl}{u:U}{a:Option Addr}{c:Nat}(h:ak p D u a c):u.k.natAbs≤9223372036854775808∧u.n.natAbs≤9223372036854775808∧u.m.natAbs≤9223372036854775808:=by
 cases u;simp only[ak]at h;exact h.1.2.2.2.2
theorem ak.names{p:Pm}{D:Dl}{u:U}{a:Option Addr}{c:Nat}(h:ak p D u a c):u.nm.size≤1048576∧u.tg.size≤1048576:=by
 cases u;simp only[ak]at h;exact⟨h.1.2.2.1,h.1.2.2.2.1⟩
theorem aj.get{p:Pm}{D:Dl}:∀{l:List U}{b o:Nat},aj p D l (some ⟨b,o,none⟩)→∀(i:Nat)(hi:i<l.length),∃a c,dr p b (o+i*7) l[i] a c∧ak p D l[i] a c
 | [],_,_,_,i,hi=>by simp at hi
 |e::r,b,o,h,0,_=>by
  simp only[aj]at h;obtain⟨d,f,ha,g,_⟩:=h;simp only[Option.some.injEq,Addr.mk.injEq]at ha;obtain⟨rfl,rfl,_⟩:=ha;simpa using g
 |e::r,b,o,h,i+1,hi=>by
  simp only[aj]at h;obtain⟨d,f,ha,_,hr⟩:=h;simp only[Option.some.injEq,Addr.mk.injEq]at ha;obtain⟨rfl,rfl,_⟩:=ha;have:=hr.get i (by simpa using hi);simpa [Nat.add_mul,Nat.add_assoc,Nat.add_comm 7]using this
theorem aj.bN{p:Pm}{D:Dl}{l:List U}{a:Option Addr}(h:aj p D l a)(c:0<l.length):∃b o,a=some ⟨b,o,none⟩:=by
 cases l with
 |nil=>simp at c
 |cons e r=>simp only[aj]at h;obtain⟨b,o,ha,_⟩:=h;exact⟨b,o,ha⟩
theorem aj.drop{p:Pm}{D:Dl}:∀{l:List U}{b o:Nat}(i:Nat),aj p D l (some ⟨b,o,none⟩)→i≤l.length→aj p D (l.drop i) (some ⟨b,o+i*7,none⟩)
 |l,b,o,0,h,_=>by simpa using h
 | [],b,o,i+1,h,hi=>by simp at hi
 |e::r,b,o,i+1,h,hi=>by
  simp only[aj]at h;obtain⟨a,c,ha,_,hr⟩:=h;simp only[Option.some.injEq,Addr.mk.injEq]at ha;obtain⟨rfl,rfl,_⟩:=ha;have:=aj.drop i hr (by simpa using hi);simpa [Nat.add_mul,Nat.add_assoc,Nat.add_comm 7]using this
theorem aj.nil{p:Pm}{D:Dl}{a:Option Addr}:aj p D [] a:=by simp only[aj]
theorem aj.iR{p:Pm}{D:Dl}{a:Option Addr}(_h:∀x,a=some x→x.spot=none):aj p D [] a:=aj.nil
theorem aj.take{p:Pm}{D:Dl}:∀{l:List U}{a:Option Addr}(i:Nat),aj p D l a→aj p D (l.take i) a
 |l,a,0,h=>by rw[List.take_zero];exact aj.nil
 | [],a,i+1,h=>by simpa using h
 |e::r,a,i+1,h=>by
  simp only[aj]at h;obtain⟨b,c,ha,d,hr⟩:=h;rw[List.take_succ_cons];simp only[aj];exact⟨b,c,ha,d,aj.take i hr⟩
theorem aj.lt{p:Pm}{D:Dl}{l:List U}{b o:Nat}(h:aj p D l (some ⟨b,o,none⟩))(d:0<l.length){w:World}(hw:KW p w):b<w.heap.size:=by
 obtain⟨a,c,h7,_⟩:=h.get 0 d;exact hw.lt h7.1
def C7(w:World)(b o:Nat)(u:U)(a:Option Addr)(c:Nat):Prop:=
 w.cell? ⟨b,o,none⟩=some (.int .i64 u.k)∧w.cell? ⟨b,o+1,none⟩=some (.int .i64 u.n)∧w.cell? ⟨b,o+2,none⟩=some (.int .i64 u.m)∧
 w.cell? ⟨b,o+3,none⟩=some (.bool u.v)∧w.cell? ⟨b,o+4,none⟩=some (.string u.nm)∧w.cell? ⟨b,o+5,none⟩=some (.string u.tg)∧
 w.cell? ⟨b,o+6,none⟩=some (.slice a u.es.length c)
theorem dr.world{p:Pm}{w:World}(hw:KW p w){b o:Nat}{u:U}{a:Option Addr}{c:Nat}(h:dr p b o u a c):C7 w b o u a c:=
 ⟨hw _ _ _ h.1,hw _ _ _ h.2.1,hw _ _ _ h.2.2.1,hw _ _ _ h.2.2.2.1,hw _ _ _ h.2.2.2.2.1,hw _ _ _ h.2.2.2.2.2.1,hw _ _ _ h.2.2.2.2.2.2⟩
end TS
namespace TS
open Go Go.RowKit
def lU(c:UInt8):Bool:=65≤c&&c≤90
def pR(c:UInt8):Bool:=lU c||(97≤c&&c≤122)
def kU:List UInt8→Bool
 | []=>false
 |c::r=>lU c&&r.all pR&&decide (r.length≤7)
def aM(s:ByteArray):Bool:=kU s.data.toList
inductive Form (len:Nat) (u:U) (pos f:Nat):Prop
 |basic (hk:u.k=1) (c:0≤u.n) (h1:u.n<18) (he:u.es= [])
 |pre (hk:u.k=14∨u.k=16) (he:u.es= [])
 |err (hk:u.k=15) (he:u.es= []) (hu:u.un= [aI])
 |named (hk:u.k=11) (c:0≤u.n) (h1:u.n<len) (he:u.es= []) (g:u.un.length≤1) (hu:f≠0→u.un≠ [])
 |one (hk:u.k=2∨u.k=3) (c:0≤u.n) (he:u.es.length=1)
 |struct (hk:u.k=5) (i:∀e∈u.es,aM e.nm=true) (j:(u.es.map U.nm).Nodup)
 |iface (hk:u.k=10) (c:0≤u.m) (h1:u.m.toNat≤u.es.length) (l:u.es.length- u.m.toNat≤4) (hm:∀e∈u.es.take u.m.toNat,e.k=7∧aM e.nm=true)
  (o:((u.es.take u.m.toNat).map U.nm).Pairwise fun a b=>Go.Op.bytesLess a.toList b.toList=true)
 |ptr (hk:u.k=4∨u.k=6∨u.k=9) (c:0≤u.n) (h1:u.n<3) (he:u.es.length=1)
 |map (hk:u.k=8) (he:u.es.length=2)
 |func (hk:u.k=7) (c:0≤u.m) (h1:u.m.toNat≤u.es.length) (p:u.v=true→0<u.m.toNat∧∀h:u.m.toNat- 1<u.es.length,(u.es[u.m.toNat- 1]).k=4)
 |union (hk:u.k=12) (d:pos=2) (h2:2≤u.es.length) (q:u.es.length≤8)
 |lV (hk:u.k=13) (d:pos=1∨pos=2) (he:u.es.length=1)
def aV(u:U)(i:Nat):Nat:=if u.k=12 then 1 else if u.k=10∧u.m.toNat≤i then 2 else 0
def aN(u:U)(i f:Nat):Nat:=if f=2 then 2 else if u.k=10∧u.m.toNat≤i then 2 else if f=1∧(u.k=2∨u.k=3∨u.k=5)then 1 else 0
def Pl(len:Nat)(u:U)(pos f:Nat):Prop:=
 Form len u pos f∧(∀i(h:i<u.es.length),Pl len u.es[i] (aV u i) (aN u i f))∧
  (u.k=11→∀e(h:e∈u.un),(1≤e.k∧e.k≤10∧e.k≠2)∧Pl len e 0 1)
termination_by u.sz
decreasing_by
 ·exact U.az (List.getElem_mem h)
 ·exact U.j8 h
theorem Pl.form{len:Nat}{u:U}{pos f:Nat}(h:Pl len u pos f):Form len u pos f:=by rw[Pl]at h;exact h.1
theorem Pl.part{len:Nat}{u:U}{pos f:Nat}(h:Pl len u pos f)(i:Nat)(hi:i<u.es.length):Pl len u.es[i] (aV u i) (aN u i f):=by rw[Pl]at h;exact h.2.1 i hi
theorem Pl.decl{len:Nat}{u:U}{pos f:Nat}(h:Pl len u pos f)(hk:u.k=11){e:U}(he:e∈u.un):(1≤e.k∧e.k≤10∧e.k≠2)∧Pl len e 0 1:=by rw[Pl]at h;exact h.2.2 hk e he
theorem sP(len:Nat):Pl len aI 0 1:=by
 rw[Pl];refine⟨.iface rfl (by decide) (by decide) (by decide) (fun e he=> ?_) (by simp[aI,U.es,U.m]),fun i hi=> ?_,fun h=>absurd h (by decide)⟩
 ·have:e= .mk 7 0 0 false errorName ByteArray.empty [dB] []:=by simpa [aI,U.es,U.m]using he
  subst this;exact⟨rfl,by decide⟩
 ·have a:i=0:=by simp[aI,U.es]at hi;omega
  subst a;rw[Pl];refine⟨.func rfl (by simp[aI,U.es,U.m]) (by simp[aI,U.es,U.m]) (fun h=>by simp[aI,U.es,U.v]at h),fun i hi=> ?_,fun h=>by simp[aI,U.es,U.k]at h⟩;have a:i=0:=by simp[aI,U.es]at hi;omega
  subst a;rw[Pl];exact⟨.basic rfl (by simp[aI,dB,U.es,U.n]) (by simp[aI,dB,U.es,U.n]) rfl,fun i hi=>by simp[aI,dB,U.es]at hi,fun h=>by simp[aI,dB,U.es,U.k]at h⟩
end TS
namespace TS
open Go Go.RowKit
theorem aj.cut{p:Pm}{D:Dl}{l:List U}{a:Option Addr}(h:aj p D l a)(i:Nat)(hi:i≤l.length):aj p D (l.drop i) (Option.map (fun x=>x.add (i*7)) a):=by
 cases a with
 |none=>
  cases l with
  |nil=>simpa using aj.iR (p:=p) (D:=D) (a:=none) (fun x c=>by cases c)
  |cons e r=>obtain⟨b,o,ha⟩:=h.bN (by simp);cases ha
 |some x=>
  cases l with
  |nil=>simpa using aj.nil
  |cons e r=>
   obtain⟨b,o,ha⟩:=h.bN (by simp);cases ha;have:=h.drop i hi;simp only[Option.map_some,Addr.add];split
   ·rename_i d
    have:i=0:=by omega
    subst this;simpa using h
   ·exact this
def RB(x:Bool)(w:World)(e:Ending)(a:World):Prop:=∃b,e= .returned (.bool b)∧Hid (b=x)∧Below w.heap.size w a
def RQ(x:Bool)(w:World)(e:Ending)(a:World):Prop:=∃b,e= .returned (.bool b)∧Hid (b=x)∧w=a
def RU(p:Pm)(D:Dl)(u:U)(w:World)(e:Ending)(b:World):Prop:=
 ∃q a c,e= .returned (.agg #[.int .i64 u.k,.int .i64 u.n,.int .i64 u.m,.bool u.v,.string u.nm,.string u.tg,.slice a u.es.length c])∧aP p q w.heap.size∧KW q b∧ak q D u a c∧Below w.heap.size w b
structure Up(p:Pm)(w W:World):Prop where
 kw:KW p W
 up:Below w.heap.size w W
theorem Up.step{p:Pm}{w W a:World}(h:Up p w W)(b:Below W.heap.size W a):Up p w a:=⟨h.1.grown b,h.2.trans (b.mono h.2.size)⟩
theorem Up.refl{p:Pm}{w:World}(h:KW p w):Up p w w:=⟨h,Below.refl _ _⟩
theorem Up.alloc{p:Pm}{w W:World}(h:Up p w W)(o:Obj):Up p w (W.alloc o):=⟨h.1.alloc o,h.2.alloc h.2.size o⟩
theorem Up.drew{p:Pm}{w W:World}(h:Up p w W):Up p w W.drew:=⟨h.1.drew,h.2.drew⟩
theorem sQ{B:Nat}{a w:World}(h:Below B a w)(n:Nat):Below B a (w.drewN n):=⟨h.os,h.tape,h.output,h.size,h.block⟩
theorem Up.drewN{p:Pm}{w W:World}(h:Up p w W)(n:Nat):Up p w (W.drewN n):=⟨h.1,sQ h.2 n⟩
theorem gm{P:Program}{f:FuncId}{args:Array Value}{w:World}{x b:Bool}(h:Calls P f args w (RQ x w))(d:x=b):Calls P f args w fun e a=>e= .returned (.bool b)∧w=a:=
 h.mono fun e a ⟨c,he,g,hw⟩=>⟨by rw[he,g.out,d],hw⟩
theorem sR{P:Program}{f:FuncId}{args:Array Value}{w:World}{x b:Bool}(h:Calls P f args w (RQ x w))(d:x=b):Calls P f args w fun e a=>e= .returned (.bool b)∧a=w:=
 h.mono fun e a ⟨c,he,g,hw⟩=>⟨by rw[he,g.out,d],hw.symm⟩
theorem aW{P:Program}{f:FuncId}{args:Array Value}{w:World}{x b:Bool}(h:Calls P f args w (RB x w))(d:x=b):Calls P f args w fun e a=>e= .returned (.bool b)∧Below w.heap.size w a:=
 h.mono fun e a ⟨c,he,g,hw⟩=>⟨by rw[he,g.out,d],hw⟩
theorem j_{W a:World}(c:Below W.heap.size W a):(∀b o,b<W.heap.size→a.cell? ⟨b,o,none⟩=W.cell? ⟨b,o,none⟩)∧(∀b o,b<W.heap.size→a.frozen? ⟨b,o,none⟩=W.frozen? ⟨b,o,none⟩):=
 ⟨fun b o h=>c.cell (p:=⟨b,o,none⟩) h,fun b o h=>c.frozen (p:=⟨b,o,none⟩) h⟩
def L7(w:World)(b:Nat)(u:U)(a:Option Addr)(c:Nat):Prop:=
 w.cell? ⟨b,0,none⟩=some (.int .i64 u.k)∧w.cell? ⟨b,1,none⟩=some (.int .i64 u.n)∧w.cell? ⟨b,2,none⟩=some (.int .i64 u.m)∧
 w.cell? ⟨b,3,none⟩=some (.bool u.v)∧w.cell? ⟨b,4,none⟩=some (.string u.nm)∧w.cell? ⟨b,5,none⟩=some (.string u.tg)∧
 w.cell? ⟨b,6,none⟩=some (.slice a u.es.length c)
theorem jm(w:World)(u:U)(a:Option Addr)(c:Nat)(T:TypeId):
 L7 (w.alloc (.cells #[.int .i64 u.k,.int .i64 u.n,.int .i64 u.m,.bool u.v,.string u.nm,.string u.tg,.slice a u.es.length c] T)) w.heap.size u a c:=by
 simp[L7]
def cg:U:= .mk 0 0 0 false ByteArray.empty ByteArray.empty [] []
theorem yR(w:World)(T:TypeId):
 L7 (w.alloc (.cells #[.int .i64 0,.int .i64 0,.int .i64 0,.bool false,.string ⟨#[]⟩,.string ⟨#[]⟩,.slice none 0 0] T)) w.heap.size cg none 0:=jm w cg none 0 T
theorem L7.keeps{w d:World}{b:Nat}{u:U}{a:Option Addr}{c:Nat}(h:L7 w b u a c)(hk:∀o v,w.cell? ⟨b,o,none⟩=some v→d.cell? ⟨b,o,none⟩=some v):L7 d b u a c:=
 ⟨hk _ _ h.1,hk _ _ h.2.1,hk _ _ h.2.2.1,hk _ _ h.2.2.2.1,hk _ _ h.2.2.2.2.1,hk _ _ h.2.2.2.2.2.1,hk _ _ h.2.2.2.2.2.2⟩
theorem L7.alloc{w:World}{b:Nat}{u:U}{a:Option Addr}{c:Nat}(h:L7 w b u a c)(o:Obj):L7 (w.alloc o) b u a c:=
 h.keeps fun x v d=>by rw[World.cell?_alloc_lt _ _ _ (World.block_lt_of_cell? _ _ d)];exact d
theorem L7.below{w d:World}{b:Nat}{u:U}{a:Option Addr}{c:Nat}(h:L7 w b u a c)(f:Below w.heap.size w d):L7 d b u a c:=
 h.keeps fun x v e=>by rw[f.cell (World.block_lt_of_cell? _ _ e)];exact e
theorem L7.setCell{w:World}{b:Nat}{u:U}{a:Option Addr}{c:Nat}(h:L7 w b u a c){x:Addr}(d:x.block≠b)(v:Value):L7 (w.setCell x v) b u a c:=
 h.keeps fun o y f=>by rw[World.cell?_setCell_other _ _ _ _ (fun e=>d (by rw[e]))];exact f
theorem cell_kept{w a:World}(c:Below w.heap.size w a){b o:Nat}{v:Value}(h:w.cell? ⟨b,o,none⟩=some v):a.cell? ⟨b,o,none⟩=some v:=by
 rw[c.cell (World.block_lt_of_cell? _ _ h)];exact h
def Pm.add(p:Pm)(b:Nat)(cs:Array Value):Pm:=fun a o=>if a=b then cs[o]? else p a o
theorem Pm.aX(p:Pm)(b:Nat)(cs:Array Value)(o:Nat):p.add b cs b o=cs[o]?:=by simp[Pm.add]
theorem Pm.aO(p:Pm){b a:Nat}(cs:Array Value)(o:Nat)(h:a≠b):p.add b cs a o=p a o:=by simp[Pm.add,h]
theorem Pm.dj{p:Pm}{b:Nat}{cs:Array Value}(h:∀o,p b o=none):Sub p (p.add b cs):=fun c o v a=>by
 by_cases e:c=b
 ·subst e;rw[h o]at a;cases a
 ·rw[Pm.aO p cs o e];exact a
theorem Pm.dC{p:Pm}{b n:Nat}{cs:Array Value}(h:∀o,p b o=none)(c:n≤b):aP p (p.add b cs) n:=
 ⟨Pm.dj h,fun d o v a=>by
  by_cases e:d=b
  ·subst e;exact .inr c
  ·rw[Pm.aO p cs o e]at a;exact .inl a⟩
theorem KW.add{p:Pm}{w:World}(h:KW p w){b:Nat}{cs:Array Value}(d:∀o v,cs[o]?=some v→w.cell? ⟨b,o,none⟩=some v):KW (p.add b cs) w:=fun c o v a=>by
 by_cases e:c=b
 ·subst e;rw[Pm.aX]at a;exact d o v a
 ·rw[Pm.aO p cs o e]at a;exact h c o v a
theorem KW.pS{p:Pm}{w:World}(h:KW p w)(cs:Array Value)(T:TypeId):KW (p.add w.heap.size cs) (w.alloc (.cells cs T)):=
 (h.alloc _).add fun o v a=>by rw[World.cell?_alloc_new];exact a
theorem KW.nP{p:Pm}{w:World}(h:KW p w)(cs:Array Value)(T:TypeId){b:Nat}(a:b=w.heap.size):KW (p.add b cs) (w.alloc (.cells cs T)):=by subst a;exact h.pS cs T
theorem frozen_kept{w c:World}(d:Below w.heap.size w c){b o:Nat}(a:b<w.heap.size)(h:w.frozen? ⟨b,o,none⟩=false):c.frozen? ⟨b,o,none⟩=false:=by
 rw[d.frozen (p:=⟨b,o,none⟩) a];exact h
theorem sS(p:Pm)(D:Dl):ak p D bt none 0:=by
 simp only[bt,ak];exact⟨⟨by simp,by simp,by decide,by decide,by decide,by decide,by decide⟩,aj.iR (fun x a=>by cases a),fun h=>absurd h (by decide)⟩
theorem cu{u:U}(h2:u.k≠2)(a:u.k≠14):bare u=u:=by rw[bare,if_neg h2,if_neg a]
theorem gq{u:U}(a:u.k=14):bare u=bt:=by rw[bare,if_neg (by omega),if_pos a]
theorem kb{u e:U}(h2:u.k=2)(he:u.es= [e]):bare u=bare e:=by
 rw[bare,if_pos h2];split
 ·rename_i x r a;rw[he]at a;cases a;rfl
 ·rename_i a;rw[he]at a;cases a
theorem ep{P:Program}{f:FuncId}{fn:Func}{c:Code}(b:P.funcs[f]?=some fn)(a:(fn.name== "runtime.NumGoroutine")=false)(d:fn.body=some c):
 ∀(args:Array Value)(w:World),(callFunc f args).run P w= .ok (.enter f args) w:=by
 intro args w;have h1:fn.name≠ "runtime.NumGoroutine" :=by simpa using a
 simp[callFunc,b,h1,d,mark]
theorem lW{α:Type}(l:List α)(f:α→Bool):l.any (fun e=> !f e)= !l.all f:=by
 induction l with
 |nil=>rfl
 |cons a r ih=>simp only[List.any_cons,List.all_cons,ih,Bool.not_and]
theorem dD{l:List U}(h:l.length=1):∃e,l= [e]:=by
 match l,h with
 | [e],_=>exact⟨e,rfl⟩
theorem Form.ig{len:Nat}{u:U}{pos f:Nat}(h:Form len u pos f)(i:u.k≠12)(j:u.k≠13)(pos':Nat):Form len u pos' f:=by
 cases h with
 |basic a b c d=>exact .basic a b c d
 |pre a b=>exact .pre a b
 |err a b c=>exact .err a b c
 |named a b c d e g=>exact .named a b c d e g
 |one a b c=>exact .one a b c
 |struct a b c=>exact .struct a b c
 |iface a b c d e g=>exact .iface a b c d e g
 |ptr a b c d=>exact .ptr a b c d
 |map a b=>exact .map a b
 |func a b c d=>exact .func a b c d
 |union a b c d=>exact absurd a i
 |lV a b c=>exact absurd a j
theorem Pl.ig{len:Nat}{u:U}{pos f:Nat}(h:Pl len u pos f)(a:u.k≠12)(b:u.k≠13)(pos':Nat):Pl len u pos' f:=by
 rw[Pl]at h⊢;exact⟨h.1.ig a b _,h.2.1,h.2.2⟩
theorem Form.kinds{len:Nat}{u:U}{pos f:Nat}(h:Form len u pos f):1≤u.k∧u.k≤16:=by cases h<;>omega
theorem Form.aE{len:Nat}{u:U}{f:Nat}(h:Form len u 0 f):u.k≠12∧u.k≠13:=by
 cases h with
 |union _ a _ _=>cases a
 |lV _ a _=>rcases a with a|a<;>cases a
 |_=>omega
theorem Form.fS{len:Nat}{u:U}{pos f:Nat}(h:Form len u pos f)(h2:u.k=2):u.es.length=1:=by
 cases h<;>first|assumption|omega
theorem yS(len f:Nat):Pl len bt 0 f:=by
 rw[Pl];exact⟨.iface rfl (by decide) (by decide) (by decide) (fun e he=>by simp[bt,U.es,U.m]at he) (by simp[bt,U.es,U.m]),fun i hi=>by simp[bt,U.es]at hi,fun h=>absurd h (by decide)⟩
theorem fD{u:U}{i f:Nat}:aN u i f≤2:=by unfold aN;split<;>(try split)<;>(try split)<;>omega
theorem ij{u:U}{f:Nat}(a:f≤2)(hk:u.k=2∨u.k=3∨u.k=5)(i:Nat):aN u i f=f:=by
 unfold aN;by_cases f2:f=2
 ·simp[f2]
 ·rw[if_neg f2,if_neg (by omega)]
  by_cases f1:f=1
  ·rw[if_pos ⟨f1,hk⟩,f1]
  ·rw[if_neg (by omega)];omega
theorem Pl.bare{len:Nat}:∀{u:U}{pos f:Nat},Pl len u pos f→f≤2→u.k≠12→u.k≠13→
 Pl len (bare u) 0 f∧(TS.bare u).k≠2∧(TS.bare u).k≠14∧(TS.bare u).sz≤u.sz:=by
 intro u;induction u using U.bg with
 |_ u ih=>
  intro pos f h g b c;by_cases h2:u.k=2
  ·obtain⟨e,he⟩:=dD (h.form.fS h2)
   have d:=h.part 0 (by rw[h.form.fS h2];omega);have i:u.es[0]'(by rw[h.form.fS h2];omega)=e:=by simp[he]
   have j:aV u 0=0:=by unfold aV;rw[if_neg (by omega),if_neg (by omega)]
   rw[i,j,ij g (.inl h2)]at d;have l:=U.az (u:=u) (e:=e) (by rw[he];simp);have hk:=d.form.aE;rw[kb h2 he];have:=ih e l d g hk.1 hk.2;exact⟨this.1,this.2.1,this.2.2.1,by omega⟩
  ·by_cases a:u.k=14
   ·rw[gq a]
    exact⟨yS _ _,by decide,by decide,by have:=u.sM;simp[bt,U.sz,jl];omega⟩
   ·rw[cu h2 a]
    exact⟨h.ig b c 0,h2,a,Nat.le_refl _⟩
theorem Form.sT{len:Nat}{u:U}{pos f:Nat}(h:Form len u pos f)(b:u.k=15):u.un= [aI]:=by
 cases h with
 |err _ _ hu=>exact hu
 |pre a _=>omega
 |one a _ _=>omega
 |ptr a _ _ _=>omega
 |_=>omega
theorem Form.kV{len:Nat}{u:U}{pos f:Nat}(h:Form len u pos f)(g:u.k=11):(0≤u.n∧u.n<len)∧u.es= []∧u.un.length≤1∧(f≠0→u.un≠ []):=by
 cases h with
 |named _ a b c d e=>exact⟨⟨a,b⟩,c,d,e⟩
 |pre a _=>omega
 |one a _ _=>omega
 |ptr a _ _ _=>omega
 |_=>omega
theorem jn{u x:U}(h:(bare u).k=11)(a:(bare u).un= [x]):under u=x:=by unfold under;rw[if_pos (.inl h),a];rfl
theorem jo{u:U}(h:(bare u).k=15)(a:(bare u).un= [aI]):under u=aI:=by unfold under;rw[if_pos (.inr h),a];rfl
theorem ik{u:U}(h:(bare u).k≠11)(a:(bare u).k≠15):under u=bare u:=by unfold under;rw[if_neg (by omega)]
theorem Pl.under{len:Nat}{u:U}{pos f:Nat}(h:Pl len u pos f)(t:f≤2)(g:f≠0)(m:u.k≠12)(n:u.k≠13):
 ∃o,o≤2∧o≠0∧Pl len (under u) 0 o∧((TS.under u).k≠2∧(TS.under u).k≠11∧(TS.under u).k≠14∧(TS.under u).k≠15)∧(TS.under u).sz≤u.sz:=by
 obtain⟨j,p,i,y⟩:=h.bare t m n;by_cases b:(TS.bare u).k=11
 ·obtain⟨_,_,q,hu⟩:=j.form.kV b
  obtain⟨x,d⟩:=dD (l:=(TS.bare u).un) (by have:=hu g;cases v:(TS.bare u).un with|nil=>exact absurd v this|cons a r=>rw[v]at q;simp at q⊢;exact q);have w:=j.decl b (e:=x) (by rw[d];simp);have s:=U.j8 (u:=TS.bare u) (e:=x) (by rw[d];simp);rw[jn b d];exact⟨1,by omega,by omega,w.2,⟨w.1.2.2,by omega,by omega,by omega⟩,by omega⟩
 ·by_cases c:(TS.bare u).k=15
  ·have d:=j.form.sT c
   have s:=U.j8 (u:=TS.bare u) (e:=aI) (by rw[d];simp);rw[jo c d];exact⟨1,by omega,by omega,sP _,⟨by decide,by decide,by decide,by decide⟩,by omega⟩
  ·rw[ik b c]
   exact⟨f,t,g,j,⟨p,b,i,c⟩,y⟩
theorem yT(p:Pm)(D:Dl):ak p D dB none 0:=by
 simp only[dB,ak];exact⟨⟨by simp,by simp,by decide,by decide,by decide,by decide,by decide⟩,aj.iR (fun x a=>by cases a),fun h=>absurd h (by decide)⟩
theorem yU{p:Pm}{D:Dl}{b1 a:Nat}(h1:dr p b1 0 dB none 0)(h2:dr p a 0 (.mk 7 0 0 false errorName ByteArray.empty [dB] []) (some ⟨b1,0,none⟩) 1):ak p D aI (some ⟨a,0,none⟩) 1:=by
 simp only[aI,ak,aj];refine⟨⟨by simp,by simp,by decide,by decide,by decide,by decide,by decide⟩,⟨a,0,rfl,⟨_,_,h2,⟨by simp,by simp,by decide,by decide,by decide,by decide,by decide⟩,⟨b1,0,rfl,⟨_,_,h1,yT _ _⟩,trivial⟩,fun h=>absurd h (by decide)⟩,trivial⟩,fun h=>absurd h (by decide)⟩
theorem ak.bare{len:Nat}{p:Pm}{D:Dl}:∀{u:U}{pos f:Nat}{a:Option Addr}{c:Nat},Pl len u pos f→ak p D u a c→∃a' c',ak p D (bare u) a' c':=by
 intro u;induction u using U.bg with
 |_ u ih=>
  intro pos f a c h hu;by_cases h2:u.k=2
  ·have h1:=h.form.fS h2
   obtain⟨e,he⟩:=dD h1;have j:u.es[0]'(by omega)=e:=by simp[he]
   obtain⟨b,o,rfl⟩:=hu.list.bN (by omega);obtain⟨a',c',_,d⟩:=hu.list.get 0 (by omega);have i:=h.part 0 (by omega);rw[j]at d i;rw[kb h2 he];exact ih e (U.az (by rw[he];simp)) i d
  ·by_cases g:u.k=14
   ·rw[gq g];exact⟨_,_,sS _ _⟩
   ·rw[cu h2 g];exact⟨a,c,hu⟩
theorem yV{u:U}{x:U}{len:Nat}{pos f:Nat}(h:Pl len u pos f)(i:u.un= [x])(hk:u.k=11){p:Pm}{D:Dl}{a:Option Addr}{c:Nat}(hu:ak p D u a c)(hlen:len=D.len):
 ∃b d a' c',D.a=some ⟨b,d,none⟩∧dr p b (d+u.n.toNat*8) x a' c'∧ak p D x a' c':=by
 have j:=(h.form.kV hk).1;cases u with
 |mk k n m v nm tg es un=>
  simp only[ak]at hu;simp only[U.un,U.k,U.n]at*;obtain⟨b,d,l,e⟩:=hu.2.2 hk j.1 (by omega);rw[i]at e;simp only[fi]at e;obtain⟨a',c',h7,g⟩:=e;exact⟨b,d,a',c',l,h7,g⟩
end TS
namespace Go.Proofs.YtdkmnkjhhhmglaaGreatDoor
open Go.RowKit TS
theorem zj(p:Pm)(D:Dl)(es:List U)(a:Option Addr)(c g:Nat)(lb:Array Value)(P:U→Bool)(w:World)(hw:KW p w)(s:aj p D es a)(E:(es.length:Int)≤1048576)
 (F:∀args w,(callFunc g args).run Tryz.prog w= .ok (.enter g args) w)
 (H:∀i(h:i<es.length) W a' c',Below w.heap.size w W→ak p D es[i] a' c'→Calls Tryz.prog g (#[.agg #[.int .i64 es[i].k,.int .i64 es[i].n,.int .i64 es[i].m,.bool es[i].v,.string es[i].nm,.string es[i].tg,.slice a' es[i].es.length c']]++lb) W (RB (P es[i]) W)):
 Calls Tryz.prog 61 #[.slice a es.length c,.func (.func g) #[] lb] w fun e q=>(∃k:Nat,e= .returned (.int .i64 k)∧∃h:k<es.length,P es[k]=true)∧Below w.heap.size w q∨(e= .returned (.int .i64 (-1))∧∀x∈es,P x=false)∧Below w.heap.size w q:=by
 have B:=Lib.hid H;clear H;go_enter Tryz.func61,Tryz.ntmps61;go_wp2_with fail
 go_loopw [8] (fun t wr=> ∃k:Nat,k≤es.length∧t= .int .i64 k∧(∀x∈es.take k,P x=false)∧Below w.heap.size w wr) (fun t _=>es.length- (intOf t).toNat)
 case atStart=>exact⟨0,Nat.zero_le _,rfl,by simp,Below.refl _ _⟩
 case round=>
  obtain⟨k,hk,rfl,j,d⟩:=hrel;by_cases f:k<es.length
  ·obtain⟨b,o,rfl⟩:=s.bN (by omega)
   obtain⟨a',c',h7,hu⟩:=s.get k f;have C:=B.out k f wr a' c' d hu;have r:=hw.grown d;generalize u:es[k]=x at*;obtain⟨g0,g1,g2,g3,g4,g5,g6⟩:=h7.world r;clear h7;go_wp2_with fail
   refine C.mono ?_;rintro e q ⟨bb,rfl,z,A⟩;cases bb<;>go_wp2_with fail
   ·go_roundw
    case rel=>
     refine⟨k+1,by omega,by go_num,?_,d.trans (A.mono d.size)⟩;intro y l;rw[List.take_succ_eq_append_getElem f,List.mem_append,List.mem_singleton,u]at l;rcases l with l|rfl
     ·exact j y l
     ·exact z.out.symm
    case measure=>simp[intOf];omega
   ·go_ret
    exact .inl ⟨⟨k,rfl,f,by rw[u];exact z.out.symm⟩,d.trans (A.mono d.size)⟩
  ·go_wp2_with fail
   go_ret;rw[List.take_of_length_le (by omega)]at j;exact .inr ⟨⟨rfl,j⟩,d⟩
theorem mg(p:Pm)(D:Dl)(es:List U)(a:Option Addr)(c g:Nat)(lb:Array Value)(P:U→Bool)(w:World)(hw:KW p w)(j:aj p D es a)(l:(es.length:Int)≤1048576)
 (o:∀args w,(callFunc g args).run Tryz.prog w= .ok (.enter g args) w)
 (H:∀i(h:i<es.length) W a' c',Below w.heap.size w W→ak p D es[i] a' c'→Calls Tryz.prog g (#[.agg #[.int .i64 es[i].k,.int .i64 es[i].n,.int .i64 es[i].m,.bool es[i].v,.string es[i].nm,.string es[i].tg,.slice a' es[i].es.length c']]++lb) W (RB (P es[i]) W)):
 Calls Tryz.prog 29 #[.slice a es.length c,.func (.func g) #[] lb] w (RB (es.any P) w):=by
 have q:=Lib.hid (zj p D es a c g lb P w hw j l o H);clear H;go_enter Tryz.func29,Tryz.ntmps29;go_wp2_with fail
 refine q.out.mono ?_;rintro e s (⟨⟨k,rfl,hk,b⟩,d⟩|⟨⟨rfl,b⟩,d⟩)
 ·have f:Hid (true=es.any P):=(List.any_eq_true.2 ⟨_,List.getElem_mem hk,b⟩).symm
  clear b;go_wp2_with fail
  go_ret;exact⟨_,rfl,f,d⟩
 ·have f:Hid (false=es.any P):=(List.any_eq_false.2 fun x r=>by simp[b x r]).symm
  clear b;go_wp2_with fail
  go_ret;exact⟨_,rfl,f,d⟩
theorem iU(n:Nat)(p:Pm)(D:Dl)(es:List U)(b:n=es.length)(a:Option Addr)(c g:Nat)(lb:Array Value)(P:U→Bool)(w:World)(hw:KW p w)(d:aj p D es a)(e:(es.length:Int)≤1048576)
 (f:∀args w,(callFunc g args).run Tryz.prog w= .ok (.enter g args) w)
 (H:∀i(h:i<es.length) W a' c',Below w.heap.size w W→ak p D es[i] a' c'→Calls Tryz.prog g (#[.agg #[.int .i64 es[i].k,.int .i64 es[i].n,.int .i64 es[i].m,.bool es[i].v,.string es[i].nm,.string es[i].tg,.slice a' es[i].es.length c']]++lb) W (RB (P es[i]) W)):
 Calls Tryz.prog 29 #[.slice a n c,.func (.func g) #[] lb] w (RB (es.any P) w):=by
 subst b;exact mg p D es a c g lb P w hw d e f H
theorem nX(p:Pm)(D:Dl):∀(u:U)(pos f:Nat)(a:Option Addr)(c:Nat)(w:World),Pl D.len u pos f→ak p D u a c→KW p w→
 Calls Tryz.prog 19 #[.agg #[.int .i64 u.k,.int .i64 u.n,.int .i64 u.m,.bool u.v,.string u.nm,.string u.tg,.slice a u.es.length c]] w fun e C=> ∃a' c',e= .returned (.agg #[.int .i64 (bare u).k,.int .i64 (bare u).n,.int .i64 (bare u).m,.bool (bare u).v,.string (bare u).nm,.string (bare u).tg,.slice a' (bare u).es.length c'])∧ak p D (bare u) a' c'∧Below w.heap.size w C:=by
 intro u;induction u using U.bg with
 |_ u ih=>
  intro pos f a c w j hu hw;by_cases h2:u.k=2
  ·have h1:=j.form.fS h2
   obtain⟨e,he⟩:=dD h1;have y:=j.part 0 (by omega);have l:=hu.list;have z:u.es[0]'(by omega)=e:=by simp[he]
   obtain⟨b,o,rfl⟩:=l.bN (by omega);obtain⟨a',c',h7,q⟩:=l.get 0 (by omega);have G:=l.lt (by omega) hw;simp only[z,Nat.zero_mul,Nat.add_zero]at*;obtain⟨g0,g1,g2,g3,g4,g5,g6⟩:=h7.world hw;have A:=fun W hk=>ih e (U.az (by rw[he];simp)) _ _ a' c' W y q hk;have g:=Lib.hid (kb h2 he);have h:(u.k==2)=true:=by simp[h2]
   have H:(0:Int)<u.es.length:=by omega
   clear h2 h1 j y z h7;have E:=Lib.hid he;clear he ih;have r:=Lib.hid A;clear A;go_enter Tryz.func19,Tryz.ntmps19;go_wp2_with fail
   refine(r.out _ ((hw.alloc _).alloc _)).mono ?_;rintro I J ⟨B,c1,rfl,s,aa⟩;obtain⟨t,F⟩:=j_ aa;go_wp2_with fail
   refine bodyPost_ret (v:= .agg #[.int .i64 (bare e).k,.int .i64 (bare e).n,.int .i64 (bare e).m,.bool (bare e).v,.string (bare e).nm,.string (bare e).tg,.slice B (bare e).es.length c1]) (by simp[results,Tryz.results19,go_sem,t]) rfl ?_;rw[g.out];refine⟨B,c1,rfl,s,?_⟩;have x:=(((Below.refl w.heap.size w).alloc (Nat.le_refl _) _).alloc (by simp) _).trans (aa.mono (by simp;omega));repeat(refine Below.setCell ?_ (by simp) _)
   exact x
  ·by_cases d:u.k=14
   ·have h:(u.k==2)=false:=by simp[h2]
    have i:(u.k==14)=true:=by simp[d]
    have g:=Lib.hid (gq d);clear h2 d;go_enter Tryz.func19,Tryz.ntmps19;go_wp2_with fail
    refine bodyPost_ret (v:= .agg #[.int .i64 bt.k,.int .i64 bt.n,.int .i64 bt.m,.bool bt.v,.string bt.nm,.string bt.tg,.slice none bt.es.length 0]) (by simp[results,Tryz.results19,go_sem];exact⟨rfl,rfl,rfl,rfl,rfl,rfl,rfl⟩) rfl ?_;rw[g.out];exact⟨none,0,rfl,sS _ _,((Below.refl _ _).alloc (Nat.le_refl _) _).alloc (by simp) _⟩
   ·have h:(u.k==2)=false:=by simp[h2]
    have i:(u.k==14)=false:=by simp[d]
    have g:=Lib.hid (cu h2 d);clear h2 d;go_enter Tryz.func19,Tryz.ntmps19;go_wp2_with fail
    refine bodyPost_ret (v:= .agg #[.int .i64 u.k,.int .i64 u.n,.int .i64 u.m,.bool u.v,.string u.nm,.string u.tg,.slice a u.es.length c]) (by simp[results,Tryz.results19,go_sem]) rfl ?_;rw[g.out];exact⟨a,c,rfl,hu,((Below.refl _ _).alloc (Nat.le_refl _) _).alloc (by simp) _⟩
end Go.Proofs.YtdkmnkjhhhmglaaGreatDoor
