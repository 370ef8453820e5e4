import Derived.Below
import Derived.Deep.Draws
import Derived.Lib.Hide
import Derived.WalkKit
set_option maxRecDepth 100000
set_option maxHeartbeats 8000000
set_option linter.all false
namespace TS
inductive U where
 |mk (k n m:Int) (v:Bool) (nm tg:ByteArray) (es un:List U)
namespace U
def k:U→Int| .mk k _ _ _ _ _ _ _=>k
def n:U→Int| .mk _ n _ _ _ _ _ _=>n
def m:U→Int| .mk _ _ m _ _ _ _ _=>m
def v:U→Bool| .mk _ _ _ v _ _ _ _=>v
def nm:U→ByteArray| .mk _ _ _ _ nm _ _ _=>nm
def tg:U→ByteArray| .mk _ _ _ _ _ tg _ _=>tg
def es:U→List U| .mk _ _ _ _ _ _ es _=>es
def un:U→List U| .mk _ _ _ _ _ _ _ un=>un
end U
mutual
def U.sz:U→Nat
 | .mk _ _ _ _ _ _ es un=>1+gV es+gV un
def gV:List U→Nat
 | []=>0
 |u::r=>u.sz+gV r
end
theorem U.pN(u:U):0<u.sz:=by cases u;simp[U.sz];omega
theorem pO{l:List U}{e:U}(h:e∈l):e.sz≤gV l:=by
 induction l with
 |nil=>cases h
 |cons a r ih=>
  rcases List.mem_cons.1 h with rfl|h
  ·simp[gV]
  ·have:=ih h;simp[gV];omega
theorem U.au{u e:U}(h:e∈u.es):e.sz<u.sz:=by
 cases u;have:=pO h;simp[U.sz,U.es]at*;omega
theorem U.iP{u e:U}(h:e∈u.un):e.sz<u.sz:=by
 cases u;have:=pO h;simp[U.sz,U.un]at*;omega
theorem U.bg{P:U→Prop}(h:∀u,(∀a,a.sz<u.sz→P a)→P u)(u:U):P u:=by
 have key:∀n u,U.sz u=n→P u:=by
  intro n;induction n using Nat.strongRecOn with
  |_ n ih=>exact fun u hu=>h u fun a b=>ih a.sz (hu▸b) a rfl
 exact key _ u rfl
instance:Inhabited U:=⟨.mk 0 0 0 false ByteArray.empty ByteArray.empty [] []⟩
def br:U:= .mk 10 0 0 false ByteArray.empty ByteArray.empty [] []
def cS:U:= .mk 1 16 0 false ByteArray.empty ByteArray.empty [] []
def errorName:ByteArray:=⟨#[69,114,114,111,114]⟩
def aF:U:= .mk 10 0 1 false ByteArray.empty ByteArray.empty [.mk 7 0 0 false errorName ByteArray.empty [cS] []] []
def bare(u:U):U:=
 if u.k=2 then
  match _h:u.es with
  |e::_=>bare e
  | []=>u
 else if u.k=14 then br else u
termination_by u.sz
decreasing_by exact U.au (by rw[_h];simp)
def under(u:U):U:=
 if(bare u).k=11∨(bare u).k=15 then(bare u).un.headD (bare u)else bare u
def isIface(u:U):Bool:=(under u).k==10||(under u).k==16
end TS
namespace TS
open Go Go.RowKit
structure Dl where
 a:Option Addr
 len:Nat
abbrev Pm:=Nat→Nat→Option Value
def Sub(p q:Pm):Prop:=∀b o v,p b o=some v→q b o=some v
theorem Sub.refl(p:Pm):Sub p p:=fun _ _ _ h=>h
theorem Sub.trans{p q r:Pm}(h:Sub p q)(k:Sub q r):Sub p r:=fun x o v a=>k x o v (h x o v a)
def KW(p:Pm)(w:World):Prop:=∀b o v,p b o=some v→w.cell? ⟨b,o,none⟩=some v
theorem KW.lt{p:Pm}{w:World}(h:KW p w){b o:Nat}{v:Value}(a:p b o=some v):b<w.heap.size:=World.block_lt_of_cell? _ _ (h b o v a)
theorem KW.aG{p:Pm}{w:World}(h:KW p w){b:Nat}(c:w.heap.size≤b)(o:Nat):p b o=none:=by
 cases a:p b o with
 |none=>rfl
 |some v=>have:=h.lt a;omega
theorem KW.below{p:Pm}{w a:World}(h:KW p w){n:Nat}(d:Below n w a)(e:∀b o v,p b o=some v→b<n):KW p a:=fun b o v c=>by
 rw[d.cell (p:=⟨b,o,none⟩) (e b o v c)];exact h b o v c
theorem KW.grown{p:Pm}{w a:World}(h:KW p w)(b:Below w.heap.size w a):KW p a:=h.below b fun _ _ _ c=>h.lt c
theorem KW.alloc{p:Pm}{w:World}(h:KW p w)(o:Obj):KW p (w.alloc o):=fun b x v a=>by
 rw[World.cell?_alloc_lt _ _ _ (h.lt a)];exact h b x v a
theorem KW.drew{p:Pm}{w:World}(h:KW p w):KW p w.drew:=h
theorem KW.setCell{p:Pm}{w:World}(h:KW p w){a:Addr}(ha:∀o,p a.block o=none)(v:Value):KW p (w.setCell a v):=fun b o x c=>by
 rw[World.cell?_setCell_other _ _ _ _ (fun e=>by have:=ha o;rw[e]at this;rw[this]at c;cases c)];exact h b o x c
theorem KW.sub{p q:Pm}{w:World}(h:KW q w)(a:Sub p q):KW p w:=fun b o v c=>h b o v (a b o v c)
structure aK(p q:Pm)(n:Nat):Prop where
 le:Sub p q
 new:∀b o v,q b o=some v→p b o=some v∨n≤b
theorem aK.refl(p:Pm)(n:Nat):aK p p n:=⟨.refl p,fun _ _ _ h=> .inl h⟩
theorem aK.trans{p q r:Pm}{n m:Nat}(h:aK p q n)(k:aK q r m)(hm:n≤m):aK p r n:=
 ⟨h.le.trans k.le,fun b o v a=>(k.new b o v a).elim (fun x=>h.new b o v x) fun x=> .inr (by omega)⟩
theorem aK.mono{p q:Pm}{n m:Nat}(h:aK p q n)(hm:m≤n):aK p q m:=⟨h.le,fun b o v a=>(h.new b o v a).imp id fun x=>by omega⟩
theorem aK.aG{p q:Pm}{n:Nat}(h:aK p q n){b:Nat}(d:b<n)(a:∀o,p b o=none)(o:Nat):q b o=none:=by
 cases c:q b o with
 |none=>rfl
 |some v=>rcases h.new b o v c with x|x
          ·rw[a o]at x;cases x
          ·omega
def cO(p:Pm)(b o:Nat)(u:U)(a:Option Addr)(c:Nat):Prop:=
 p b o=some (.int .i64 u.k)∧p b (o+1)=some (.int .i64 u.n)∧p b (o+2)=some (.int .i64 u.m)∧
 p b (o+3)=some (.bool u.v)∧p b (o+4)=some (.string u.nm)∧p b (o+5)=some (.string u.tg)∧
 p b (o+6)=some (.slice a u.es.length c)
theorem cO.sub{p q:Pm}(hk:Sub p q){b o:Nat}{u:U}{a:Option Addr}{c:Nat}(h:cO p b o u a c):cO q b o u a c:=
 ⟨hk _ _ _ h.1,hk _ _ _ h.2.1,hk _ _ _ h.2.2.1,hk _ _ _ h.2.2.2.1,hk _ _ _ h.2.2.2.2.1,hk _ _ _ h.2.2.2.2.2.1,hk _ _ _ h.2.2.2.2.2.2⟩
mutual
def ai(p:Pm)(D:Dl):U→Option Addr→Nat→Prop
 | .mk k n m _ nm tg es un,a,c=>(es.length≤c∧c≤1048576∧nm.size≤1048576∧tg.size≤1048576∧k.natAbs≤9223372036854775808∧n.natAbs≤9223372036854775808∧m.natAbs≤9223372036854775808)∧aw p D es a∧
   (k=11→0≤n→n<D.len→∃f d,D.a=some ⟨f,d,none⟩∧ef p D un f (d+n.toNat*8))
def aw(p:Pm)(D:Dl):List U→Option Addr→Prop
 | [],_=>True
 |e::r,a=> ∃b o,a=some ⟨b,o,none⟩∧(∃a' c',cO p b o e a' c'∧ai p D e a' c')∧aw p D r (some ⟨b,o+7,none⟩)
def ef(p:Pm)(D:Dl):List U→Nat→Nat→Prop
 | [],_,_=>True
 |e::_,b,o=> ∃a' c',cO p b o e a' c'∧ai p D e a' c'
end
mutual
theorem ai.sub{p q:Pm}{D:Dl}(hk:Sub p q):∀(u:U){a:Option Addr}{c:Nat},ai p D u a c→ai q D u a c
 | .mk k n m v nm tg es un,a,c,h=>by
   simp only[ai]at h⊢;exact⟨h.1,aw.sub hk es h.2.1,fun h1 h2 h3=>let⟨f,d,e,g⟩:=h.2.2 h1 h2 h3;⟨f,d,e,ef.sub hk un g⟩⟩
theorem aw.sub{p q:Pm}{D:Dl}(hk:Sub p q):∀(l:List U){a:Option Addr},aw p D l a→aw q D l a
 | [],a,h=>by simp only[aw]
 |e::r,a,h=>by
  simp only[aw]at h⊢;obtain⟨b,o,ha,⟨a',c',h7,hu⟩,hr⟩:=h;exact⟨b,o,ha,⟨a',c',h7.sub hk,ai.sub hk e hu⟩,aw.sub hk r hr⟩
theorem ef.sub{p q:Pm}{D:Dl}(hk:Sub p q):∀(l:List U){b o:Nat},ef p D l b o→ef q D l b o
 | [],b,o,h=>by simp only[ef]
 |e::r,b,o,h=>by
  simp only[ef]at h⊢;obtain⟨a',c',h7,hu⟩:=h;exact⟨a',c',h7.sub hk,ai.sub hk e hu⟩
end
theorem ai.list{p:Pm}{D:Dl}{u:U}{a:Option Addr}{c:Nat}(h:ai p D u a c):aw p D u.es a:=by
 cases u;simp only[ai]at h;exact h.2.1
theorem ai.cap{p:Pm}{D:Dl}{u:U}{a:Option Addr}{c:Nat}(h:ai p D u a c):u.es.length≤c∧c≤1048576:=by
 cases u;simp only[ai]at h;exact⟨h.1.1,h.1.2.1⟩
theorem ai.ints{p:Pm}{D:Dl}{u:U}{a:Option Addr}{c:Nat}(h:ai p D u a c):u.k.natAbs≤9223372036854775808∧u.n.natAbs≤9223372036854775808∧u.m.natAbs≤9223372036854775808:=by
 cases u;simp only[ai]at h;exact h.1.2.2.2.2
theorem ai.names{p:Pm}{D:Dl}{u:U}{a:Option Addr}{c:Nat}(h:ai p D u a c):u.nm.size≤1048576∧u.tg.size≤1048576:=by
 cases u;simp only[ai]at h;exact⟨h.1.2.2.1,h.1.2.2.2.1⟩
theorem aw.get{p:Pm}{D:Dl}:∀{l:List U}{b o:Nat},aw p D l (some ⟨b,o,none⟩)→∀(i:Nat)(hi:i<l.length),∃a c,cO p b (o+i*7) l[i] a c∧ai p D l[i] a c
 | [],_,_,_,i,hi=>by simp at hi
 |e::r,b,o,h,0,_=>by
  simp only[aw]at h;obtain⟨d,f,ha,g,_⟩:=h;simp only[Option.some.injEq,Addr.mk.injEq]at ha;obtain⟨rfl,rfl,_⟩:=ha;simpa using g
 |e::r,b,o,h,i+1,hi=>by
  simp only[aw]at h;obtain⟨d,f,ha,_,hr⟩:=h;simp only[Option.some.injEq,Addr.mk.injEq]at ha;obtain⟨rfl,rfl,_⟩:=ha;have:=hr.get i (by simpa using hi);simpa [Nat.add_mul,Nat.add_assoc,Nat.add_comm 7]using this
theorem aw.bt{p:Pm}{D:Dl}{l:List U}{a:Option Addr}(h:aw p D l a)(c:0<l.length):∃b o,a=some ⟨b,o,none⟩:=by
 cases l with
 |nil=>simp at c
 |cons e r=>simp only[aw]at h;obtain⟨b,o,ha,_⟩:=h;exact⟨b,o,ha⟩
theorem aw.drop{p:Pm}{D:Dl}:∀{l:List U}{b o:Nat}(i:Nat),aw p D l (some ⟨b,o,none⟩)→i≤l.length→aw p D (l.drop i) (some ⟨b,o+i*7,none⟩)
 |l,b,o,0,h,_=>by simpa using h
 | [],b,o,i+1,h,hi=>by simp at hi
 |e::r,b,o,i+1,h,hi=>by
  simp only[aw]at h;obtain⟨a,c,ha,_,hr⟩:=h;simp only[Option.some.injEq,Addr.mk.injEq]at ha;obtain⟨rfl,rfl,_⟩:=ha;have:=aw.drop i hr (by simpa using hi);simpa [Nat.add_mul,Nat.add_assoc,Nat.add_comm 7]using this
theorem aw.nil{p:Pm}{D:Dl}{a:Option Addr}:aw p D [] a:=by simp only[aw]
theorem aw.gG{p:Pm}{D:Dl}{a:Option Addr}(_h:∀x,a=some x→x.spot=none):aw p D [] a:=aw.nil
theorem aw.take{p:Pm}{D:Dl}:∀{l:List U}{a:Option Addr}(i:Nat),aw p D l a→aw p D (l.take i) a
 |l,a,0,h=>by rw[List.take_zero];exact aw.nil
 | [],a,i+1,h=>by simpa using h
 |e::r,a,i+1,h=>by
  simp only[aw]at h;obtain⟨b,c,ha,d,hr⟩:=h;rw[List.take_succ_cons];simp only[aw];exact⟨b,c,ha,d,aw.take i hr⟩
theorem aw.lt{p:Pm}{D:Dl}{l:List U}{b o:Nat}(h:aw p D l (some ⟨b,o,none⟩))(d:0<l.length){w:World}(hw:KW p w):b<w.heap.size:=by
 obtain⟨a,c,h7,_⟩:=h.get 0 d;exact hw.lt h7.1
def C7(w:World)(b o:Nat)(u:U)(a:Option Addr)(c:Nat):Prop:=
 w.cell? ⟨b,o,none⟩=some (.int .i64 u.k)∧w.cell? ⟨b,o+1,none⟩=some (.int .i64 u.n)∧w.cell? ⟨b,o+2,none⟩=some (.int .i64 u.m)∧
 w.cell? ⟨b,o+3,none⟩=some (.bool u.v)∧w.cell? ⟨b,o+4,none⟩=some (.string u.nm)∧w.cell? ⟨b,o+5,none⟩=some (.string u.tg)∧
 w.cell? ⟨b,o+6,none⟩=some (.slice a u.es.length c)
theorem cO.world{p:Pm}{w:World}(hw:KW p w){b o:Nat}{u:U}{a:Option Addr}{c:Nat}(h:cO p b o u a c):C7 w b o u a c:=
 ⟨hw _ _ _ h.1,hw _ _ _ h.2.1,hw _ _ _ h.2.2.1,hw _ _ _ h.2.2.2.1,hw _ _ _ h.2.2.2.2.1,hw _ _ _ h.2.2.2.2.2.1,hw _ _ _ h.2.2.2.2.2.2⟩
end TS
namespace TS
open Go Go.RowKit
def j7(c:UInt8):Bool:=65≤c&&c≤90
def mZ(c:UInt8):Bool:=j7 c||(97≤c&&c≤122)
def jv:List UInt8→Bool
 | []=>false
 |c::r=>j7 c&&r.all mZ&&decide (r.length≤7)
def aL(s:ByteArray):Bool:=jv s.data.toList
inductive Form (len:Nat) (u:U) (pos f:Nat):Prop
 |basic (hk:u.k=1) (c:0≤u.n) (h1:u.n<18) (he:u.es= [])
 |pre (hk:u.k=14∨u.k=16) (he:u.es= [])
 |err (hk:u.k=15) (he:u.es= []) (hu:u.un= [aF])
 |named (hk:u.k=11) (c:0≤u.n) (h1:u.n<len) (he:u.es= []) (g:u.un.length≤1) (hu:f≠0→u.un≠ [])
 |one (hk:u.k=2∨u.k=3) (c:0≤u.n) (he:u.es.length=1)
 |struct (hk:u.k=5) (i:∀e∈u.es,aL e.nm=true) (j:(u.es.map U.nm).Nodup)
 |iface (hk:u.k=10) (c:0≤u.m) (h1:u.m.toNat≤u.es.length) (l:u.es.length- u.m.toNat≤4) (hm:∀e∈u.es.take u.m.toNat,e.k=7∧aL e.nm=true)
  (o:((u.es.take u.m.toNat).map U.nm).Pairwise fun a b=>Go.Op.bytesLess a.toList b.toList=true)
 |ptr (hk:u.k=4∨u.k=6∨u.k=9) (c:0≤u.n) (h1:u.n<3) (he:u.es.length=1)
 |map (hk:u.k=8) (he:u.es.length=2)
 |func (hk:u.k=7) (c:0≤u.m) (h1:u.m.toNat≤u.es.length) (p:u.v=true→0<u.m.toNat∧∀h:u.m.toNat- 1<u.es.length,(u.es[u.m.toNat- 1]).k=4)
 |union (hk:u.k=12) (d:pos=2) (h2:2≤u.es.length) (q:u.es.length≤8)
 |j8 (hk:u.k=13) (d:pos=1∨pos=2) (he:u.es.length=1)
def aS(u:U)(i:Nat):Nat:=if u.k=12 then 1 else if u.k=10∧u.m.toNat≤i then 2 else 0
def aI(u:U)(i f:Nat):Nat:=if f=2 then 2 else if u.k=10∧u.m.toNat≤i then 2 else if f=1∧(u.k=2∨u.k=3∨u.k=5)then 1 else 0
def Pl(len:Nat)(u:U)(pos f:Nat):Prop:=
 Form len u pos f∧(∀i(h:i<u.es.length),Pl len u.es[i] (aS u i) (aI u i f))∧
  (u.k=11→∀e(h:e∈u.un),(1≤e.k∧e.k≤10∧e.k≠2)∧Pl len e 0 1)
termination_by u.sz
decreasing_by
 ·exact U.au (List.getElem_mem h)
 ·exact U.iP h
theorem Pl.form{len:Nat}{u:U}{pos f:Nat}(h:Pl len u pos f):Form len u pos f:=by rw[Pl]at h;exact h.1
theorem Pl.part{len:Nat}{u:U}{pos f:Nat}(h:Pl len u pos f)(i:Nat)(hi:i<u.es.length):Pl len u.es[i] (aS u i) (aI u i f):=by rw[Pl]at h;exact h.2.1 i hi
theorem Pl.decl{len:Nat}{u:U}{pos f:Nat}(h:Pl len u pos f)(hk:u.k=11){e:U}(he:e∈u.un):(1≤e.k∧e.k≤10∧e.k≠2)∧Pl len e 0 1:=by rw[Pl]at h;exact h.2.2 hk e he
theorem pP(len:Nat):Pl len aF 0 1:=by
 rw[Pl];refine⟨.iface rfl (by decide) (by decide) (by decide) (fun e he=> ?_) (by simp[aF,U.es,U.m]),fun i hi=> ?_,fun h=>absurd h (by decide)⟩
 ·have:e= .mk 7 0 0 false errorName ByteArray.empty [cS] []:=by simpa [aF,U.es,U.m]using he
  subst this;exact⟨rfl,by decide⟩
 ·have a:i=0:=by simp[aF,U.es]at hi;omega
  subst a;rw[Pl];refine⟨.func rfl (by simp[aF,U.es,U.m]) (by simp[aF,U.es,U.m]) (fun h=>by simp[aF,U.es,U.v]at h),fun i hi=> ?_,fun h=>by simp[aF,U.es,U.k]at h⟩;have a:i=0:=by simp[aF,U.es]at hi;omega
  subst a;rw[Pl];exact⟨.basic rfl (by simp[aF,cS,U.es,U.n]) (by simp[aF,cS,U.es,U.n]) rfl,fun i hi=>by simp[aF,cS,U.es]at hi,fun h=>by simp[aF,cS,U.es,U.k]at h⟩
end TS
namespace TS
open Go Go.RowKit
theorem aw.cut{p:Pm}{D:Dl}{l:List U}{a:Option Addr}(h:aw p D l a)(i:Nat)(hi:i≤l.length):aw p D (l.drop i) (Option.map (fun x=>x.add (i*7)) a):=by
 cases a with
 |none=>
  cases l with
  |nil=>simpa using aw.gG (p:=p) (D:=D) (a:=none) (fun x c=>by cases c)
  |cons e r=>obtain⟨b,o,ha⟩:=h.bt (by simp);cases ha
 |some x=>
  cases l with
  |nil=>simpa using aw.nil
  |cons e r=>
   obtain⟨b,o,ha⟩:=h.bt (by simp);cases ha;have:=h.drop i hi;simp only[Option.map_some,Addr.add];split
   ·rename_i d
    have:i=0:=by omega
    subst this;simpa using h
   ·exact this
def RB(x:Bool)(w:World)(e:Ending)(a:World):Prop:=∃b,e= .returned (.bool b)∧Hid (b=x)∧Below w.heap.size w a
def RQ(x:Bool)(w:World)(e:Ending)(a:World):Prop:=∃b,e= .returned (.bool b)∧Hid (b=x)∧w=a
def RU(p:Pm)(D:Dl)(u:U)(w:World)(e:Ending)(b:World):Prop:=
 ∃q a c,e= .returned (.agg #[.int .i64 u.k,.int .i64 u.n,.int .i64 u.m,.bool u.v,.string u.nm,.string u.tg,.slice a u.es.length c])∧aK p q w.heap.size∧KW q b∧ai q D u a c∧Below w.heap.size w b
structure Up(p:Pm)(w W:World):Prop where
 kw:KW p W
 up:Below w.heap.size w W
theorem Up.step{p:Pm}{w W a:World}(h:Up p w W)(b:Below W.heap.size W a):Up p w a:=⟨h.1.grown b,h.2.trans (b.mono h.2.size)⟩
theorem Up.refl{p:Pm}{w:World}(h:KW p w):Up p w w:=⟨h,Below.refl _ _⟩
theorem Up.alloc{p:Pm}{w W:World}(h:Up p w W)(o:Obj):Up p w (W.alloc o):=⟨h.1.alloc o,h.2.alloc h.2.size o⟩
theorem Up.drew{p:Pm}{w W:World}(h:Up p w W):Up p w W.drew:=⟨h.1.drew,h.2.drew⟩
theorem pQ{B:Nat}{a w:World}(h:Below B a w)(n:Nat):Below B a (w.drewN n):=⟨h.os,h.tape,h.output,h.size,h.block⟩
theorem Up.drewN{p:Pm}{w W:World}(h:Up p w W)(n:Nat):Up p w (W.drewN n):=⟨h.1,pQ h.2 n⟩
theorem fC{P:Program}{f:FuncId}{args:Array Value}{w:World}{x b:Bool}(h:Calls P f args w (RQ x w))(d:x=b):Calls P f args w fun e a=>e= .returned (.bool b)∧w=a:=
 h.mono fun e a ⟨c,he,g,hw⟩=>⟨by rw[he,g.out,d],hw⟩
theorem pR{P:Program}{f:FuncId}{args:Array Value}{w:World}{x b:Bool}(h:Calls P f args w (RQ x w))(d:x=b):Calls P f args w fun e a=>e= .returned (.bool b)∧a=w:=
 h.mono fun e a ⟨c,he,g,hw⟩=>⟨by rw[he,g.out,d],hw.symm⟩
theorem aP{P:Program}{f:FuncId}{args:Array Value}{w:World}{x b:Bool}(h:Calls P f args w (RB x w))(d:x=b):Calls P f args w fun e a=>e= .returned (.bool b)∧Below w.heap.size w a:=
 h.mono fun e a ⟨c,he,g,hw⟩=>⟨by rw[he,g.out,d],hw⟩
theorem iQ{W a:World}(c:Below W.heap.size W a):(∀b o,b<W.heap.size→a.cell? ⟨b,o,none⟩=W.cell? ⟨b,o,none⟩)∧(∀b o,b<W.heap.size→a.frozen? ⟨b,o,none⟩=W.frozen? ⟨b,o,none⟩):=
 ⟨fun b o h=>c.cell (p:=⟨b,o,none⟩) h,fun b o h=>c.frozen (p:=⟨b,o,none⟩) h⟩
def L7(w:World)(b:Nat)(u:U)(a:Option Addr)(c:Nat):Prop:=
 w.cell? ⟨b,0,none⟩=some (.int .i64 u.k)∧w.cell? ⟨b,1,none⟩=some (.int .i64 u.n)∧w.cell? ⟨b,2,none⟩=some (.int .i64 u.m)∧
 w.cell? ⟨b,3,none⟩=some (.bool u.v)∧w.cell? ⟨b,4,none⟩=some (.string u.nm)∧w.cell? ⟨b,5,none⟩=some (.string u.tg)∧
 w.cell? ⟨b,6,none⟩=some (.slice a u.es.length c)
theorem gW(w:World)(u:U)(a:Option Addr)(c:Nat)(T:TypeId):
 L7 (w.alloc (.cells #[.int .i64 u.k,.int .i64 u.n,.int .i64 u.m,.bool u.v,.string u.nm,.string u.tg,.slice a u.es.length c] T)) w.heap.size u a c:=by
 simp[L7]
def bP:U:= .mk 0 0 0 false ByteArray.empty ByteArray.empty [] []
theorem uO(w:World)(T:TypeId):
 L7 (w.alloc (.cells #[.int .i64 0,.int .i64 0,.int .i64 0,.bool false,.string ⟨#[]⟩,.string ⟨#[]⟩,.slice none 0 0] T)) w.heap.size bP none 0:=gW w bP none 0 T
theorem L7.keeps{w d:World}{b:Nat}{u:U}{a:Option Addr}{c:Nat}(h:L7 w b u a c)(hk:∀o v,w.cell? ⟨b,o,none⟩=some v→d.cell? ⟨b,o,none⟩=some v):L7 d b u a c:=
 ⟨hk _ _ h.1,hk _ _ h.2.1,hk _ _ h.2.2.1,hk _ _ h.2.2.2.1,hk _ _ h.2.2.2.2.1,hk _ _ h.2.2.2.2.2.1,hk _ _ h.2.2.2.2.2.2⟩
theorem L7.alloc{w:World}{b:Nat}{u:U}{a:Option Addr}{c:Nat}(h:L7 w b u a c)(o:Obj):L7 (w.alloc o) b u a c:=
 h.keeps fun x v d=>by rw[World.cell?_alloc_lt _ _ _ (World.block_lt_of_cell? _ _ d)];exact d
theorem L7.below{w d:World}{b:Nat}{u:U}{a:Option Addr}{c:Nat}(h:L7 w b u a c)(f:Below w.heap.size w d):L7 d b u a c:=
 h.keeps fun x v e=>by rw[f.cell (World.block_lt_of_cell? _ _ e)];exact e
theorem L7.setCell{w:World}{b:Nat}{u:U}{a:Option Addr}{c:Nat}(h:L7 w b u a c){x:Addr}(d:x.block≠b)(v:Value):L7 (w.setCell x v) b u a c:=
 h.keeps fun o y f=>by rw[World.cell?_setCell_other _ _ _ _ (fun e=>d (by rw[e]))];exact f
theorem cell_kept{w a:World}(c:Below w.heap.size w a){b o:Nat}{v:Value}(h:w.cell? ⟨b,o,none⟩=some v):a.cell? ⟨b,o,none⟩=some v:=by
 rw[c.cell (World.block_lt_of_cell? _ _ h)];exact h
def Pm.add(p:Pm)(b:Nat)(cs:Array Value):Pm:=fun a o=>if a=b then cs[o]? else p a o
theorem Pm.aQ(p:Pm)(b:Nat)(cs:Array Value)(o:Nat):p.add b cs b o=cs[o]?:=by simp[Pm.add]
theorem Pm.aJ(p:Pm){b a:Nat}(cs:Array Value)(o:Nat)(h:a≠b):p.add b cs a o=p a o:=by simp[Pm.add,h]
theorem Pm.cP{p:Pm}{b:Nat}{cs:Array Value}(h:∀o,p b o=none):Sub p (p.add b cs):=fun c o v a=>by
 by_cases e:c=b
 ·subst e;rw[h o]at a;cases a
 ·rw[Pm.aJ p cs o e];exact a
theorem Pm.cW{p:Pm}{b n:Nat}{cs:Array Value}(h:∀o,p b o=none)(c:n≤b):aK p (p.add b cs) n:=
 ⟨Pm.cP h,fun d o v a=>by
  by_cases e:d=b
  ·subst e;exact .inr c
  ·rw[Pm.aJ p cs o e]at a;exact .inl a⟩
theorem KW.add{p:Pm}{w:World}(h:KW p w){b:Nat}{cs:Array Value}(d:∀o v,cs[o]?=some v→w.cell? ⟨b,o,none⟩=some v):KW (p.add b cs) w:=fun c o v a=>by
 by_cases e:c=b
 ·subst e;rw[Pm.aQ]at a;exact d o v a
 ·rw[Pm.aJ p cs o e]at a;exact h c o v a
theorem KW.uP{p:Pm}{w:World}(h:KW p w)(cs:Array Value)(T:TypeId):KW (p.add w.heap.size cs) (w.alloc (.cells cs T)):=
 (h.alloc _).add fun o v a=>by rw[World.cell?_alloc_new];exact a
theorem KW.lu{p:Pm}{w:World}(h:KW p w)(cs:Array Value)(T:TypeId){b:Nat}(a:b=w.heap.size):KW (p.add b cs) (w.alloc (.cells cs T)):=by subst a;exact h.uP cs T
theorem frozen_kept{w c:World}(d:Below w.heap.size w c){b o:Nat}(a:b<w.heap.size)(h:w.frozen? ⟨b,o,none⟩=false):c.frozen? ⟨b,o,none⟩=false:=by
 rw[d.frozen (p:=⟨b,o,none⟩) a];exact h
theorem pS(p:Pm)(D:Dl):ai p D br none 0:=by
 simp only[br,ai];exact⟨⟨by simp,by simp,by decide,by decide,by decide,by decide,by decide⟩,aw.gG (fun x a=>by cases a),fun h=>absurd h (by decide)⟩
theorem ca{u:U}(h2:u.k≠2)(a:u.k≠14):bare u=u:=by rw[bare,if_neg h2,if_neg a]
theorem gd{u:U}(a:u.k=14):bare u=br:=by rw[bare,if_neg (by omega),if_pos a]
theorem iR{u e:U}(h2:u.k=2)(he:u.es= [e]):bare u=bare e:=by
 rw[bare,if_pos h2];split
 ·rename_i x r a;rw[he]at a;cases a;rfl
 ·rename_i a;rw[he]at a;cases a
theorem dI{P:Program}{f:FuncId}{fn:Func}{c:Code}(b:P.funcs[f]?=some fn)(a:(fn.name== "runtime.NumGoroutine")=false)(d:fn.body=some c):
 ∀(args:Array Value)(w:World),(callFunc f args).run P w= .ok (.enter f args) w:=by
 intro args w;have h1:fn.name≠ "runtime.NumGoroutine" :=by simpa using a
 simp[callFunc,b,h1,d,mark]
theorem j_{α:Type}(l:List α)(f:α→Bool):l.any (fun e=> !f e)= !l.all f:=by
 induction l with
 |nil=>rfl
 |cons a r ih=>simp only[List.any_cons,List.all_cons,ih,Bool.not_and]
theorem cT{l:List U}(h:l.length=1):∃e,l= [e]:=by
 match l,h with
 | [e],_=>exact⟨e,rfl⟩
theorem Form.gg{len:Nat}{u:U}{pos f:Nat}(h:Form len u pos f)(i:u.k≠12)(j:u.k≠13)(pos':Nat):Form len u pos' f:=by
 cases h with
 |basic a b c d=>exact .basic a b c d
 |pre a b=>exact .pre a b
 |err a b c=>exact .err a b c
 |named a b c d e g=>exact .named a b c d e g
 |one a b c=>exact .one a b c
 |struct a b c=>exact .struct a b c
 |iface a b c d e g=>exact .iface a b c d e g
 |ptr a b c d=>exact .ptr a b c d
 |map a b=>exact .map a b
 |func a b c d=>exact .func a b c d
 |union a b c d=>exact absurd a i
 |j8 a b c=>exact absurd a j
theorem Pl.gg{len:Nat}{u:U}{pos f:Nat}(h:Pl len u pos f)(a:u.k≠12)(b:u.k≠13)(pos':Nat):Pl len u pos' f:=by
 rw[Pl]at h⊢;exact⟨h.1.gg a b _,h.2.1,h.2.2⟩
theorem Form.kinds{len:Nat}{u:U}{pos f:Nat}(h:Form len u pos f):1≤u.k∧u.k≤16:=by cases h<;>omega
theorem Form.aA{len:Nat}{u:U}{f:Nat}(h:Form len u 0 f):u.k≠12∧u.k≠13:=by
 cases h with
 |union _ a _ _=>cases a
 |j8 _ a _=>rcases a with a|a<;>cases a
 |_=>omega
theorem Form.eQ{len:Nat}{u:U}{pos f:Nat}(h:Form len u pos f)(h2:u.k=2):u.es.length=1:=by
 cases h<;>first|assumption|omega
theorem uQ(len f:Nat):Pl len br 0 f:=by
 rw[Pl];exact⟨.iface rfl (by decide) (by decide) (by decide) (fun e he=>by simp[br,U.es,U.m]at he) (by simp[br,U.es,U.m]),fun i hi=>by simp[br,U.es]at hi,fun h=>absurd h (by decide)⟩
theorem eA{u:U}{i f:Nat}:aI u i f≤2:=by unfold aI;split<;>(try split)<;>(try split)<;>omega
theorem gX{u:U}{f:Nat}(a:f≤2)(hk:u.k=2∨u.k=3∨u.k=5)(i:Nat):aI u i f=f:=by
 unfold aI;by_cases f2:f=2
 ·simp[f2]
 ·rw[if_neg f2,if_neg (by omega)]
  by_cases f1:f=1
  ·rw[if_pos ⟨f1,hk⟩,f1]
  ·rw[if_neg (by omega)];omega
theorem Pl.bare{len:Nat}:∀{u:U}{pos f:Nat},Pl len u pos f→f≤2→u.k≠12→u.k≠13→
 Pl len (bare u) 0 f∧(TS.bare u).k≠2∧(TS.bare u).k≠14∧(TS.bare u).sz≤u.sz:=by
 intro u;induction u using U.bg with
 |_ u ih=>
  intro pos f h g b c;by_cases h2:u.k=2
  ·obtain⟨e,he⟩:=cT (h.form.eQ h2)
   have d:=h.part 0 (by rw[h.form.eQ h2];omega);have i:u.es[0]'(by rw[h.form.eQ h2];omega)=e:=by simp[he]
   have j:aS u 0=0:=by unfold aS;rw[if_neg (by omega),if_neg (by omega)]
   rw[i,j,gX g (.inl h2)]at d;have l:=U.au (u:=u) (e:=e) (by rw[he];simp);have hk:=d.form.aA;rw[iR h2 he];have:=ih e l d g hk.1 hk.2;exact⟨this.1,this.2.1,this.2.2.1,by omega⟩
  ·by_cases a:u.k=14
   ·rw[gd a]
    exact⟨uQ _ _,by decide,by decide,by have:=u.pN;simp[br,U.sz,gV];omega⟩
   ·rw[ca h2 a]
    exact⟨h.gg b c 0,h2,a,Nat.le_refl _⟩
theorem Form.pT{len:Nat}{u:U}{pos f:Nat}(h:Form len u pos f)(b:u.k=15):u.un= [aF]:=by
 cases h with
 |err _ _ hu=>exact hu
 |pre a _=>omega
 |one a _ _=>omega
 |ptr a _ _ _=>omega
 |_=>omega
theorem Form.jw{len:Nat}{u:U}{pos f:Nat}(h:Form len u pos f)(g:u.k=11):(0≤u.n∧u.n<len)∧u.es= []∧u.un.length≤1∧(f≠0→u.un≠ []):=by
 cases h with
 |named _ a b c d e=>exact⟨⟨a,b⟩,c,d,e⟩
 |pre a _=>omega
 |one a _ _=>omega
 |ptr a _ _ _=>omega
 |_=>omega
theorem gY{u x:U}(h:(bare u).k=11)(a:(bare u).un= [x]):under u=x:=by unfold under;rw[if_pos (.inl h),a];rfl
theorem gZ{u:U}(h:(bare u).k=15)(a:(bare u).un= [aF]):under u=aF:=by unfold under;rw[if_pos (.inr h),a];rfl
theorem gh{u:U}(h:(bare u).k≠11)(a:(bare u).k≠15):under u=bare u:=by unfold under;rw[if_neg (by omega)]
theorem Pl.under{len:Nat}{u:U}{pos f:Nat}(h:Pl len u pos f)(t:f≤2)(g:f≠0)(m:u.k≠12)(n:u.k≠13):
 ∃o,o≤2∧o≠0∧Pl len (under u) 0 o∧((TS.under u).k≠2∧(TS.under u).k≠11∧(TS.under u).k≠14∧(TS.under u).k≠15)∧(TS.under u).sz≤u.sz:=by
 obtain⟨j,p,i,y⟩:=h.bare t m n;by_cases b:(TS.bare u).k=11
 ·obtain⟨_,_,q,hu⟩:=j.form.jw b
  obtain⟨x,d⟩:=cT (l:=(TS.bare u).un) (by have:=hu g;cases v:(TS.bare u).un with|nil=>exact absurd v this|cons a r=>rw[v]at q;simp at q⊢;exact q);have w:=j.decl b (e:=x) (by rw[d];simp);have s:=U.iP (u:=TS.bare u) (e:=x) (by rw[d];simp);rw[gY b d];exact⟨1,by omega,by omega,w.2,⟨w.1.2.2,by omega,by omega,by omega⟩,by omega⟩
 ·by_cases c:(TS.bare u).k=15
  ·have d:=j.form.pT c
   have s:=U.iP (u:=TS.bare u) (e:=aF) (by rw[d];simp);rw[gZ c d];exact⟨1,by omega,by omega,pP _,⟨by decide,by decide,by decide,by decide⟩,by omega⟩
  ·rw[gh b c]
   exact⟨f,t,g,j,⟨p,b,i,c⟩,y⟩
theorem uR(p:Pm)(D:Dl):ai p D cS none 0:=by
 simp only[cS,ai];exact⟨⟨by simp,by simp,by decide,by decide,by decide,by decide,by decide⟩,aw.gG (fun x a=>by cases a),fun h=>absurd h (by decide)⟩
theorem uS{p:Pm}{D:Dl}{b1 a:Nat}(h1:cO p b1 0 cS none 0)(h2:cO p a 0 (.mk 7 0 0 false errorName ByteArray.empty [cS] []) (some ⟨b1,0,none⟩) 1):ai p D aF (some ⟨a,0,none⟩) 1:=by
 simp only[aF,ai,aw];refine⟨⟨by simp,by simp,by decide,by decide,by decide,by decide,by decide⟩,⟨a,0,rfl,⟨_,_,h2,⟨by simp,by simp,by decide,by decide,by decide,by decide,by decide⟩,⟨b1,0,rfl,⟨_,_,h1,uR _ _⟩,trivial⟩,fun h=>absurd h (by decide)⟩,trivial⟩,fun h=>absurd h (by decide)⟩
theorem ai.bare{len:Nat}{p:Pm}{D:Dl}:∀{u:U}{pos f:Nat}{a:Option Addr}{c:Nat},Pl len u pos f→ai p D u a c→∃a' c',ai p D (bare u) a' c':=by
 intro u;induction u using U.bg with
 |_ u ih=>
  intro pos f a c h hu;by_cases h2:u.k=2
  ·have h1:=h.form.eQ h2
   obtain⟨e,he⟩:=cT h1;have j:u.es[0]'(by omega)=e:=by simp[he]
   obtain⟨b,o,rfl⟩:=hu.list.bt (by omega);obtain⟨a',c',_,d⟩:=hu.list.get 0 (by omega);have i:=h.part 0 (by omega);rw[j]at d i;rw[iR h2 he];exact ih e (U.au (by rw[he];simp)) i d
  ·by_cases g:u.k=14
   ·rw[gd g];exact⟨_,_,pS _ _⟩
   ·rw[ca h2 g];exact⟨a,c,hu⟩
theorem uT{u:U}{x:U}{len:Nat}{pos f:Nat}(h:Pl len u pos f)(i:u.un= [x])(hk:u.k=11){p:Pm}{D:Dl}{a:Option Addr}{c:Nat}(hu:ai p D u a c)(hlen:len=D.len):
 ∃b d a' c',D.a=some ⟨b,d,none⟩∧cO p b (d+u.n.toNat*8) x a' c'∧ai p D x a' c':=by
 have j:=(h.form.jw hk).1;cases u with
 |mk k n m v nm tg es un=>
  simp only[ai]at hu;simp only[U.un,U.k,U.n]at*;obtain⟨b,d,l,e⟩:=hu.2.2 hk j.1 (by omega);rw[i]at e;simp only[ef]at e;obtain⟨a',c',h7,g⟩:=e;exact⟨b,d,a',c',l,h7,g⟩
structure cA where
 nm:ByteArray
 ptr:Bool
 sig:U
structure aH where
 un:U
 ms:List cA
structure dn(p:Pm)(D:Dl)(ms:List cA)(a:Option Addr):Prop where
 at':∀i(h:i<ms.length),∃b o,a=some ⟨b,o,none⟩∧p b (o+i*9)=some (.string ms[i].nm)∧p b (o+i*9+1)=some (.bool ms[i].ptr)∧
  ms[i].nm.size≤1048576∧∃a' c',cO p b (o+i*9+2) ms[i].sig a' c'∧ai p D ms[i].sig a' c'
theorem dn.get{p:Pm}{D:Dl}{ms:List cA}{b o:Nat}(h:dn p D ms (some ⟨b,o,none⟩))(i:Nat)(hi:i<ms.length):
 p b (o+i*9)=some (.string ms[i].nm)∧p b (o+i*9+1)=some (.bool ms[i].ptr)∧
 ms[i].nm.size≤1048576∧∃a' c',cO p b (o+i*9+2) ms[i].sig a' c'∧ai p D ms[i].sig a' c':=by
 obtain⟨a,c,e,h1⟩:=h.at' i hi;simp only[Option.some.injEq,Addr.mk.injEq]at e;obtain⟨rfl,rfl,_⟩:=e;exact h1
theorem dn.bt{p:Pm}{D:Dl}{ms:List cA}{a:Option Addr}(h:dn p D ms a)(c:0<ms.length):∃b o,a=some ⟨b,o,none⟩:=by
 obtain⟨d,f,e,_⟩:=h.at' 0 c;exact⟨d,f,e⟩
theorem dn.take{p:Pm}{D:Dl}{ms:List cA}{a:Option Addr}(h:dn p D ms a)(k:Nat):dn p D (ms.take k) a:=by
 refine⟨fun i hi=> ?_⟩;rw[List.length_take]at hi;rw[List.getElem_take];exact h.at' i (by omega)
theorem dn.sub{p q:Pm}{D:Dl}{ms:List cA}{a:Option Addr}(h:dn p D ms a)(hk:Sub p q):dn q D ms a:=
 ⟨fun i hi=>let⟨b,o,e,h1,h2,h3,a',c',h7,hu⟩:=h.at' i hi;⟨b,o,e,hk _ _ _ h1,hk _ _ _ h2,h3,a',c',h7.sub hk,ai.sub hk _ hu⟩⟩
structure cU(p:Pm)(D:Dl)(ds:List aH):Prop where
 spot:∀x,D.a=some x→x.spot=none
 len:ds.length=D.len
 kb:D.len≤1048576
 at':∀i(h:i<ds.length),∃b o,D.a=some ⟨b,o,none⟩∧∃a c e d,cO p b (o+i*8) ds[i].un a c∧p b (o+i*8+7)=some (.slice e ds[i].ms.length d)∧
  ai p D ds[i].un a c∧ds[i].ms.length≤d∧d≤1048576∧dn p D ds[i].ms e
theorem cU.bt{p:Pm}{D:Dl}{ds:List aH}(h:cU p D ds)(c:0<ds.length):∃b o,D.a=some ⟨b,o,none⟩:=by
 obtain⟨d,f,e,_⟩:=h.at' 0 c;exact⟨d,f,e⟩
theorem cU.get{p:Pm}{D:Dl}{ds:List aH}{b o:Nat}(h:cU p D ds)(g:D.a=some ⟨b,o,none⟩)(i:Nat)(hi:i<ds.length):
 ∃a c f d,cO p b (o+i*8) ds[i].un a c∧p b (o+i*8+7)=some (.slice f ds[i].ms.length d)∧
 ai p D ds[i].un a c∧ds[i].ms.length≤d∧d≤1048576∧dn p D ds[i].ms f:=by
 obtain⟨j,k,e,h1⟩:=h.at' i hi;rw[g]at e;simp only[Option.some.injEq,Addr.mk.injEq]at e;obtain⟨rfl,rfl,_⟩:=e;exact h1
theorem cU.sub{p q:Pm}{D:Dl}{ds:List aH}(h:cU p D ds)(hk:Sub p q):cU q D ds:=
 ⟨h.spot,h.len,h.kb,fun i hi=>let⟨b,o,e,a,c,d,f,h7,g,hu,h1,h2,hm⟩:=h.at' i hi;⟨b,o,e,a,c,d,f,h7.sub hk,hk _ _ _ g,ai.sub hk _ hu,h1,h2,hm.sub hk⟩⟩
theorem m_:∀u:U,(bare u).sz≤u.sz:=by
 intro u;induction u using U.bg with
 |_ u ih=>
  rw[bare];split
  ·split
   ·rename_i e r he
    have h1:e.sz<u.sz:=U.au (by rw[he];simp);have:=ih e h1;omega
   ·exact Nat.le_refl _
  ·split
   ·have:br.sz=1:=by simp[br,U.sz,gV]
    have:=u.pN;omega
   ·exact Nat.le_refl _
theorem dp(u:U):(under u).sz≤u.sz:=by
 have a:=m_ u;rw[under];split
 ·cases b:(bare u).un with
  |nil=>exact a
  |cons x r=>have:=U.iP (u:=bare u) (e:=x) (by rw[b];simp);simp;omega
 ·exact a
def aW(u:U):Bool:=
 if(under u).k=10 then(((under u).es.drop (under u).m.toNat).attach.any fun⟨e,_⟩=>e.k==12||e.k==13|| !isIface e||aW e)else(under u).k==16
termination_by u.sz
decreasing_by
 have h1:=U.au (List.mem_of_mem_drop ‹_›)
 have h2:=dp u
 omega
def aT(e:U):Bool:=e.k !=12&&e.k !=13&&isIface e
def eh(u:U):Bool:=
 (under u).k==16||((under u).es.drop (under u).m.toNat).attach.any fun⟨e,_⟩=>aT e&&eh e
termination_by u.sz
decreasing_by
 have h1:=U.au (List.mem_of_mem_drop ‹_›)
 have h2:=dp u
 omega
theorem gH{u:U}(h:(under u).k=10):aW u=((under u).es.drop (under u).m.toNat).any fun e=>e.k==12||e.k==13|| !isIface e||aW e:=by
 rw[aW];simp[h]
theorem fD{u:U}(h:(under u).k≠10):aW u=((under u).k==16):=by
 rw[aW];simp[h]
theorem uU(u:U):eh u=((under u).k==16||((under u).es.drop (under u).m.toNat).any fun e=>aT e&&eh e):=by
 rw[eh];simp
structure Pc where
 d:Int
 v:Bool
 t:Bool
def Pc.behind(q:Pc):Pc:={q with v:=false}
def Pc.inside(q:Pc):Pc:={q with v:=true,t:=true}
def bQ(n m:Int):Bool:=decide (0≤n)&&decide (n<m)
def ei(l:List U):Bool:=decide (∀e∈l,aL e.nm=true)&&decide ((l.map fun e=>e.nm.toList).Nodup)
def dQ:List U→Bool
 | []=>true
 |e::r=>e.k==7&&aL e.nm&&(match r with| []=>true|e'::_=>Go.Op.bytesLess e.nm.toList e'.nm.toList)&&dQ r
inductive Pt|type|term|elem
def ah(len:Nat)(u:U)(q:Pc)(s:Pt):Bool:=
 match s with
 | .elem=>if u.k=12 then decide (2≤u.es.length)&&decide (u.es.length≤8)&&u.es.attach.all fun⟨e,_⟩=>ah len e q .term else
  if u.k=13 then decide (u.es.length=1)&&u.es.attach.all fun⟨e,_⟩=>ah len e q .type else ah len u q .type
 | .term=>if u.k=13 then decide (u.es.length=1)&&u.es.attach.all fun⟨e,_⟩=>ah len e q .type else ah len u q .type
 | .type=>
   if u.k=1 then bQ u.n 18&&decide (u.es.length=0)
   else if u.k=14∨u.k=15∨u.k=16 then decide (u.es.length=0)
   else if u.k=11 then bQ u.n len&&(!q.v&& !q.t||decide (u.n<q.d))&&decide (u.es.length=0)
   else if u.k=2∨u.k=3 then decide (0≤u.n)&&decide (u.es.length=1)&&u.es.attach.all fun⟨e,_⟩=>ah len e q .type
   else if u.k=5 then ei u.es&&u.es.attach.all fun⟨e,_⟩=>ah len e q .type
   else if u.k=10 then bQ u.m (u.es.length+1)&&decide (u.es.length- u.m≤4)&&dQ (u.es.take u.m.toNat)&&
    ((u.es.take u.m.toNat).attach.all fun⟨e,_⟩=>ah len e q.behind .type)&&((u.es.drop u.m.toNat).attach.all fun⟨e,_⟩=>ah len e q.inside .elem)
   else if u.k=4∨u.k=6∨u.k=9 then bQ u.n 3&&decide (u.es.length=1)&&u.es.attach.all fun⟨e,_⟩=>ah len e q.behind .type
   else if u.k=8 then decide (u.es.length=2)&&u.es.attach.all fun⟨e,_⟩=>ah len e q.behind .type
   else if u.k=7 then bQ u.m (u.es.length+1)&&(!u.v||decide (0<u.m)&&((u.es.getD (u.m.toNat- 1) bP).k==4))&&u.es.attach.all fun⟨e,_⟩=>ah len e q.behind .type
   else false
termination_by (u.sz,match s with| .type=>0| .term=>1| .elem=>2)
decreasing_by
 all_goals first
  |exact Prod.Lex.right _ (by decide)
  |exact Prod.Lex.left _ _ (U.au ‹_›)
  |exact Prod.Lex.left _ _ (U.au (List.mem_of_mem_take ‹_›))
  |exact Prod.Lex.left _ _ (U.au (List.mem_of_mem_drop ‹_›))
def cF(f m:U):Bool:=decide (f.nm.toList=m.nm.toList)
def bI(out:List U)(m:U):List U:=if out.any (fun f=>cF f m)then out else out++ [m]
def bh(a b:U):Bool:=Go.Op.bytesLess a.nm.toList b.nm.toList
def bW(l:List U):List U:=l.mergeSort fun a b=> !bh b a
theorem nf:∀l:List UInt8,Go.Op.bytesLess l l=false
 | []=>rfl
 |a::r=>by simp[Go.Op.bytesLess,nf r,UInt8.lt_irrefl]
theorem pU:∀{a b c:List UInt8},Go.Op.bytesLess a b=true→Go.Op.bytesLess b c=true→Go.Op.bytesLess a c=true
 |a,[],c,h,_=>by cases a<;>simp[Go.Op.bytesLess]at h
 |a,b::y,[],_,h=>by simp[Go.Op.bytesLess]at h
 | [],_,c::z,_,_=>by simp[Go.Op.bytesLess]
 |a::x,b::y,c::z,h,k=>by
  simp only[Go.Op.bytesLess,Bool.or_eq_true,decide_eq_true_eq,Bool.and_eq_true,beq_iff_eq]at*;rcases h with h|⟨rfl,h⟩<;>rcases k with k|⟨rfl,k⟩
  ·exact .inl (UInt8.lt_trans h k)
  ·exact .inl h
  ·exact .inl k
  ·exact .inr ⟨rfl,pU h k⟩
theorem pV:∀{a b:List UInt8},Go.Op.bytesLess a b=false→Go.Op.bytesLess b a=false→a=b
 | [],[],_,_=>rfl
 | [],b::y,h,_=>by simp[Go.Op.bytesLess]at h
 |a::x,[],_,h=>by simp[Go.Op.bytesLess]at h
 |a::x,b::y,h,k=>by
  simp only[Go.Op.bytesLess,Bool.or_eq_false_iff,decide_eq_false_iff_not,Bool.and_eq_false_iff,beq_eq_false_iff_ne,ne_eq]at*;have e:a=b:=by
   have h1:=UInt8.not_lt.1 h.1;have h2:=UInt8.not_lt.1 k.1;exact UInt8.le_antisymm h2 h1
  subst e;rw[pV (h.2.resolve_left (by simp)) (k.2.resolve_left (by simp))]
theorem g_(a:U):bh a a=false:=nf _
theorem gi{a b c:U}(h:bh a b=true)(k:bh b c=true):bh a c=true:=pU h k
theorem jx{a b:U}(h:bh a b=false)(k:bh b a=false):cF a b=true:=by
 simp only[cF,decide_eq_true_eq];exact pV h k
theorem uV{a b:U}(h:cF a b=true):bh a b=false:=by
 simp only[cF,decide_eq_true_eq]at h;unfold bh;rw[h];exact nf _
theorem fN{a b:U}:cF a b=true↔a.nm.toList=b.nm.toList:=by simp[cF]
def aj(u:U):List U:=
 if(under u).k=10 then
  bW (((under u).es.drop (under u).m.toNat).attach.foldl (fun out ⟨e,_⟩=>if aT e then(aj e).foldl bI out else out) ((under u).es.take (under u).m.toNat))
 else []
termination_by u.sz
decreasing_by
 have h1:=U.au (List.mem_of_mem_drop ‹_›)
 have h2:=dp u
 omega
def bX(out:List U)(e:U):List U:=if aT e then(aj e).foldl bI out else out
def dW(u:U):List U:=(u.es.drop u.m.toNat).foldl bX (u.es.take u.m.toNat)
theorem iS{u:U}(h:(under u).k=10):aj u=bW (dW (under u)):=by
 rw[aj,if_pos h,dW];congr 1;rw[←List.foldl_attach (f:=bX)];rfl
theorem eB{u:U}(h:(under u).k≠10):aj u= []:=by rw[aj,if_neg h]
theorem uW{out:List U}{m x:U}(h:x∈bI out m):x∈out∨x=m:=by
 unfold bI at h;split at h
 ·exact .inl h
 ·simpa using h
theorem uX{l:List U}:∀{out:List U}{x:U},x∈l.foldl bI out→x∈out∨x∈l:=by
 induction l with
 |nil=>exact fun h=> .inl h
 |cons m r ih=>
  intro out x h;rw[List.foldl_cons]at h;rcases ih h with h|h
  ·rcases uW h with h|rfl
   ·exact .inl h
   ·exact .inr List.mem_cons_self
  ·exact .inr (List.mem_cons_of_mem _ h)
theorem pW{l:List U}:∀{out:List U}{x:U},x∈l.foldl bX out→x∈out∨∃e∈l,aT e=true∧x∈aj e:=by
 induction l with
 |nil=>exact fun h=> .inl h
 |cons e r ih=>
  intro out x h;rw[List.foldl_cons]at h;rcases ih h with h|⟨b,a,h⟩
  ·unfold bX at h
   split at h
   ·rename_i c
    rcases uX h with h|h
    ·exact .inl h
    ·exact .inr ⟨e,List.mem_cons_self,c,h⟩
   ·exact .inl h
  ·exact .inr ⟨b,List.mem_cons_of_mem _ a,h⟩
theorem pX{l:List U}{x:U}:x∈bW l↔x∈l:=List.mem_mergeSort
theorem gI{u x:U}(h:x∈aj u):(under u).k=10∧(x∈(under u).es.take (under u).m.toNat∨∃e∈(under u).es.drop (under u).m.toNat,aT e=true∧x∈aj e):=by
 by_cases a:(under u).k=10
 ·rw[iS a,pX]at h
  exact⟨a,pW h⟩
 ·rw[eB a]at h;cases h
theorem jy:∀{u x:U},x∈aj u→x.sz<u.sz:=by
 intro u;induction u using U.bg with
 |_ u ih=>
  intro x h;have hu:=dp u;rcases(gI h).2 with h|⟨e,he,_,h⟩
  ·have:=U.au (List.mem_of_mem_take h);omega
  ·have h1:=U.au (List.mem_of_mem_drop he)
   have:=ih e (by omega) h;omega
def cY(l:List U):Prop:=l.Pairwise fun a b=>cF a b=false
theorem ng(a b:U):cF a b=cF b a:=by unfold cF;rw[Bool.eq_iff_iff];simp[eq_comm]
theorem pY{l:List U}(h:cY l)(m:U):cY (bI l m):=by
 unfold bI;split
 ·exact h
 ·rename_i c
  simp only[Bool.not_eq_true,List.any_eq_false]at c;unfold cY;rw[List.pairwise_append];exact⟨h,List.pairwise_singleton _ _,fun a ha b d=>by simp at d;subst d;simpa using c a ha⟩
theorem uY{r:List U}:∀{l:List U},cY l→cY (r.foldl bI l):=by
 induction r with
 |nil=>exact fun h=>h
 |cons m r ih=>exact fun h=>ih (pY h m)
theorem uZ{l:List U}(h:cY l)(e:U):cY (bX l e):=by
 unfold bX;split
 ·exact uY h
 ·exact h
theorem nh{r:List U}:∀{l:List U},cY l→cY (r.foldl bX l):=by
 induction r with
 |nil=>exact fun h=>h
 |cons m r ih=>exact fun h=>ih (uZ h m)
def dy(l:List U):Prop:=l.Pairwise fun a b=>bh a b=true
theorem dy.noTwo{l:List U}(h:dy l):cY l:=h.imp fun{a b} c=>by
 cases d:cF a b
 ·rfl
 ·rw[uV d]at c;cases c
theorem pZ{l:List U}(h:cY l):dy (bW l):=by
 have i:(bW l).Pairwise fun a b=>(!bh b a)=true:=List.pairwise_mergeSort (le:=fun a b=> !bh b a)
  (fun a b c h1 h2=>by
   simp only[Bool.not_eq_true']at*;cases e:bh c a
   ·rfl
   ·cases d:bh a b
    ·cases f:bh b c
     ·have j:=fN.1 (jx d h1)
      unfold bh at*;rw[j]at e;rw[e]at h2;cases h2
     ·have:=gi f e;rw[this]at h1;cases h1
    ·have:=gi e d;rw[this]at h2;cases h2)
  (fun a b=>by
   cases h1:bh b a
   ·simp
   ·cases h2:bh a b
    ·simp
    ·have:=gi h1 h2;rw[g_]at this;cases this) l
 have k:cY (bW l):=(List.mergeSort_perm l _).symm.pairwise h fun{a b} d=>by rw[ng];exact d
 exact(i.and k).imp fun{a b} ⟨h1,h2⟩=>by
  cases d:bh a b
  ·have:=jx d (by simpa using h1);rw[this]at h2;cases h2
  ·rfl
theorem p7:∀{l r:List U},l.Perm r→dy l→dy r→l=r
 | [],r,c,_,_=>by simpa using c.symm
 |a::l,[],c,_,_=>by simp at c
 |a::l,b::r,c,i,hr=>by
  have d:=List.pairwise_cons.1 i;have f:=List.pairwise_cons.1 hr;have e:a=b:=by
   rcases List.mem_cons.1 (c.subset List.mem_cons_self:a∈b::r)with e|h
   ·exact e
   ·rcases List.mem_cons.1 (c.symm.subset List.mem_cons_self:b∈a::l)with e|j
    ·exact e.symm
    ·have h1:=f.1 a h
     have h2:=d.1 b j;have:=gi h1 h2;rw[g_]at this;cases this
  subst e;rw[p7 (List.perm_cons _|>.1 c) d.2 f.2]
theorem nj{l r:List U}(h:cY l)(a:l.Perm r)(hr:dy r):r=bW l:=
 p7 (a.symm.trans (List.mergeSort_perm l _).symm) hr (pZ h)
def aX(x y:U):Bool:=
 if x.k=1∨x.k=3∨x.k=9∨x.k=11 then x.n==y.n
 else if x.k=7 then x.m==y.m&&x.v==y.v
 else if x.k=5 then(x.es.zip y.es).all fun(e,f)=>decide (e.nm.toList=f.nm.toList)&&decide (e.tg.toList=f.tg.toList)
 else true
def aE(x y:U):Bool:=
 (bare x).k==(bare y).k&&(decide ((bare x).es.length=(bare y).es.length)||(bare x).k==10)&&
 if(bare x).k=10 then
  !aW (bare x)&& !aW (bare y)&&decide ((aj (bare x)).length=(aj (bare y)).length)&&
   (aj (bare y)).all fun m=>(aj (bare x)).attach.any fun⟨f,_⟩=>cF f m&&aE f m
 else aX (bare x) (bare y)&&((bare x).es.attach.zip (bare y).es).all fun(⟨e,_⟩,f)=>aE e f
termination_by x.sz
decreasing_by
 ·have h1:=jy ‹_›
  have h2:=m_ x
  omega
 ·have h1:=U.au (u:=bare x) ‹_›
  have h2:=m_ x
  omega
def hasB(l want:List U):Bool:=want.all fun m=>l.any fun f=>cF f m&&aE f m
theorem u_{α β:Type}(l:List α)(r:List β)(f:α→β→Bool):(l.attach.zip r).all (fun(⟨e,_⟩,g)=>f e g)=(l.zip r).all fun(e,g)=>f e g:=by
 have h:l.zip r=(l.attach.zip r).map fun(x:{a // a∈l}×β)=>(x.1.1,x.2):=by
  rw[show(fun(x:{a // a∈l}×β)=>(x.1.1,x.2))=Prod.map Subtype.val id from rfl,←List.zip_map_left,List.attach_map_subtype_val]
 rw[h,List.all_map];rfl
theorem jz{x y:U}(h:(bare x).k=10):aE x y=((bare y).k==10&&(!aW (bare x)&& !aW (bare y)&&decide ((aj (bare x)).length=(aj (bare y)).length)&&hasB (aj (bare x)) (aj (bare y)))):=by
 rw[aE,if_pos h,h,hasB];simp[Bool.beq_comm,eq_comm]
theorem jA{x y:U}(h:(bare x).k≠10):aE x y=((bare x).k==(bare y).k&&decide ((bare x).es.length=(bare y).es.length)&&(aX (bare x) (bare y)&&((bare x).es.zip (bare y).es).all fun(e,f)=>aE e f)):=by
 have a:((bare x).k==10)=false:=by simp[h]
 rw[aE,if_neg h,←u_,a,Bool.or_false]
def aM(u:U):Prop:=aW u=false∧(∀e,∀_:e∈u.es,aM e)∧∀e,∀_:e∈aj u,aM e
termination_by u.sz
decreasing_by
 ·exact U.au ‹_›
 ·exact jy ‹_›
theorem aM.gen{u:U}(h:aM u):aW u=false:=by rw[aM]at h;exact h.1
theorem aM.es{u e:U}(h:aM u)(he:e∈u.es):aM e:=by rw[aM]at h;exact h.2.1 e he
theorem aM.b4{u e:U}(h:aM u)(he:e∈aj u):aM e:=by rw[aM]at h;exact h.2.2 e he
theorem p8:aM br:=by
 have hu:under br=br:=by rw[gh]<;>rw[ca]<;>decide
 rw[aM];refine⟨?_,fun e he=>by simp[br,U.es]at he,fun e he=> ?_⟩
 ·rw[gH (by rw[hu];rfl),hu];rfl
 ·have:=(gI he).2;rw[hu]at this;simp[br,U.es]at this
theorem aM.bare{len:Nat}:∀{u:U}{pos f:Nat},Pl len u pos f→aM u→aM (bare u):=by
 intro u;induction u using U.bg with
 |_ u ih=>
  intro pos f b h;by_cases h2:u.k=2
  ·obtain⟨e,he⟩:=cT (b.form.eQ h2)
   have c:=b.part 0 (by rw[b.form.eQ h2];omega);have d:u.es[0]'(by rw[b.form.eQ h2];omega)=e:=by simp[he]
   rw[d]at c;rw[iR h2 he];exact ih e (U.au (by rw[he];simp)) c (h.es (by rw[he];simp))
  ·by_cases a:u.k=14
   ·rw[gd a];exact p8
   ·rw[ca h2 a];exact h
def aC(x:U):U:=if x.k=13 then x.es.headD x else x
def ej(x y:U):Bool:=
 if isIface (aC x)||isIface (aC y)then true
 else if x.k=13 then !aE (aC x) (under (aC y))
 else if y.k=13 then !aE (under (aC x)) (aC y)
 else !aE (aC x) (aC y)
def ek(u:U):List U:=(u.es.drop u.m.toNat).flatMap fun e=>if e.k=12 then e.es else [e]
theorem iT{u x:U}(h:x∈ek u):x.sz<u.sz:=by
 obtain⟨e,he,a⟩:=List.mem_flatMap.1 h;have h1:=U.au (List.mem_of_mem_drop he);split at a
 ·have:=U.au a;omega
 ·simp at a;subst a;exact h1
def ch(u:U):Int:=
 if(under u).k=10 then
  (ek (under u)).attach.foldl (fun n ⟨x,_⟩=>if 50<n then n else if x.k==13|| !isIface x then n+1 else n+ch x) 0
 else 1
termination_by u.sz
decreasing_by
 have h1:=iT ‹_›
 have h2:=dp u
 omega
def bA(n:Int)(x:U):Int:=if 50<n then n else if x.k==13|| !isIface x then n+1 else n+ch x
theorem lv{u:U}(h:(under u).k=10):ch u=(ek (under u)).foldl bA 0:=by
 rw[ch,if_pos h,←List.foldl_attach (f:=bA)];rfl
theorem nk{u:U}(h:(under u).k≠10):ch u=1:=by rw[ch,if_neg h]
def fO(t:U):Bool:=(t.es.drop t.m.toNat).all fun e=> !aT e||hasB (aj t) (aj e)
def np(u:U)(un:List U):U:=match u with| .mk k n m v nm tg es _=> .mk k n m v nm tg es un
def cQ(T:List U)(u:U):U:=if u.k=11 then np u (T[u.n.toNat]?).toList else u
def mt(T:List U)(s:Pt)(u:U)(g:Bool):Bool:=
 match s with
 | .elem=>
   if u.k=12 then(u.es.attach.all fun⟨x,_⟩=>mt T .term x false&& !(aT x&&(decide (0<(aj x).length)||eh x)))&&decide (u.es.Pairwise fun y x=>ej x y=true)&&g
   else mt T .term u false&&(g||aT u&& !aW u)
 | .term=>
   if u.k=13 then u.es.attach.all fun⟨e,_⟩=>mt T .type e false&& !isIface e&&aE e (under e)
   else mt T .type u (isIface u)
 | .type=>
   if u.k=2 then u.es.attach.all fun⟨e,_⟩=>mt T .type e g
   else if u.k=10 then((u.es.drop u.m.toNat).attach.all fun⟨e,_⟩=>mt T .elem e g)&&(((u.es.take u.m.toNat).attach.all fun⟨e,_⟩=>mt T .type e false)&&fO u&&decide (ch u≤50))
   else(g|| !aW (cQ T u))&&u.es.attach.all fun⟨e,_⟩=>mt T .type e false
termination_by (u.sz,match s with| .type=>0| .term=>1| .elem=>2)
decreasing_by
 all_goals first
  |exact Prod.Lex.right _ (by decide)
  |exact Prod.Lex.left _ _ (U.au ‹_›)
  |exact Prod.Lex.left _ _ (U.au (List.mem_of_mem_take ‹_›))
  |exact Prod.Lex.left _ _ (U.au (List.mem_of_mem_drop ‹_›))
theorem vb{α:Type}(l:List α)(f:α→Bool):(l.attach.all fun x=>f x.1)=l.all f:=by
 conv=>rhs;rw[←List.attach_map_subtype_val l,List.all_map]
 rfl
section
variable {T:List U} {u:U} {g:Bool}
theorem lz(h:u.k=12):mt T .elem u g=((u.es.all fun x=>mt T .term x false&& !(aT x&&(decide (0<(aj x).length)||eh x)))&&decide (u.es.Pairwise fun y x=>ej x y=true)&&g):=by
 rw[mt,if_pos h,←vb u.es fun x=>mt T .term x false&& !(aT x&&(decide (0<(aj x).length)||eh x))]
theorem iU(h:u.k≠12):mt T .elem u g=(mt T .term u false&&(g||aT u&& !aW u)):=by rw[mt];simp[h]
theorem kc(h:u.k=13):mt T .term u g=u.es.all fun e=>mt T .type e false&& !isIface e&&aE e (under e):=by rw[mt];simp[h]
theorem gJ(h:u.k≠13):mt T .term u g=mt T .type u (isIface u):=by rw[mt];simp[h]
theorem kd(h:u.k=2):mt T .type u g=u.es.all fun e=>mt T .type e g:=by rw[mt];simp[h]
theorem iV(h:u.k=10):mt T .type u g=(((u.es.drop u.m.toNat).all fun e=>mt T .elem e g)&&(((u.es.take u.m.toNat).all fun e=>mt T .type e false)&&fO u&&decide (ch u≤50))):=by rw[mt];simp[h]
theorem lA(h:u.k≠2)(a:u.k≠10):mt T .type u g=((g|| !aW (cQ T u))&&u.es.all fun e=>mt T .type e false):=by rw[mt];simp[h,a]
end
def cm(k m:Int)(i f:Nat):Nat:=if f=2 then 2 else if k=10∧m.toNat≤i then 2 else if f=1∧(k=2∨k=3∨k=5)then 1 else 0
theorem vd(u:U)(i f:Nat):cm u.k u.m i f=aI u i f:=rfl
mutual
def aN(T:List U)(f:Nat):U→U
 | .mk k n m v nm tg es _=> .mk k n m v nm tg (fP T f k m 0 es) (if k=15 then [aF]else if k=11∧f≠0 then(T[n.toNat]?).toList else [])
def fP(T:List U)(f:Nat)(k m:Int)(i:Nat):List U→List U
 | []=> []
 |e::r=>aN T (cm k m i f) e::fP T f k m (i+1) r
end
section
variable (T:List U) (f:Nat)
theorem cG(u:U):(aN T f u).k=u.k:=by cases u;rfl
theorem fQ(u:U):(aN T f u).n=u.n:=by cases u;rfl
theorem eR(u:U):(aN T f u).m=u.m:=by cases u;rfl
theorem lB(u:U):(aN T f u).v=u.v:=by cases u;rfl
theorem iW(u:U):(aN T f u).nm=u.nm:=by cases u;rfl
theorem nr(u:U):(aN T f u).tg=u.tg:=by cases u;rfl
theorem jB(u:U):(aN T f u).es=fP T f u.k u.m 0 u.es:=by cases u;rfl
theorem iX(u:U):(aN T f u).un=(if u.k=15 then [aF]else if u.k=11∧f≠0 then(T[u.n.toNat]?).toList else []):=by cases u;rfl
theorem ns(k m:Int)(l:List U):∀i,(fP T f k m i l).length=l.length:=by
 induction l with
 |nil=>exact fun _=>rfl
 |cons e r ih=>intro i;simp[fP,ih]
theorem cj(u:U):(aN T f u).es.length=u.es.length:=by rw[jB,ns]
theorem p9(k m:Int):∀(l:List U)(i j:Nat)(h:j<l.length),(fP T f k m i l)[j]'(by rw[ns];exact h)=aN T (cm k m (i+j) f) l[j]
 |e::r,i,0,h=>by simp[fP]
 |e::r,i,j+1,h=>by
  simp only[fP,List.getElem_cons_succ];rw[p9 k m r (i+1) j (by simpa using h)];congr 2;omega
theorem gj(u:U)(j:Nat)(h:j<(aN T f u).es.length):(aN T f u).es[j]=aN T (aI u j f) (u.es[j]'(by rw[cj]at h;exact h)):=by
 have:=p9 T f u.k u.m u.es 0 j (by rw[cj]at h;exact h);simp only[jB,this,Nat.zero_add,vd]
end
def Pc.f(q:Pc):Nat:=if q.t then 2 else if q.v then 1 else 0
def Pt.n:Pt→Nat| .type=>0| .term=>1| .elem=>2
theorem p_:∀{l:List U},dQ l=true→∀e∈l,e.k=7∧aL e.nm=true
 | [],_,e,he=>by cases he
 |a::r,h,e,he=>by
  simp only[dQ,Bool.and_eq_true,beq_iff_eq]at h;rcases List.mem_cons.1 he with rfl|he
  ·exact⟨h.1.1.1,h.1.1.2⟩
  ·exact p_ h.2 e he
theorem qa:∀{l:List U},dQ l=true→dy l
 | [],_=>List.Pairwise.nil
 |a::r,h=>by
  simp only[dQ,Bool.and_eq_true]at h;have ih:=qa h.2;refine List.pairwise_cons.2 ⟨fun b d=> ?_,ih⟩;cases r with
  |nil=>cases d
  |cons c r=>
   rcases List.mem_cons.1 d with rfl|d
   ·exact h.1.2
   ·exact gi (a:=a) (b:=c) h.1.2 ((List.pairwise_cons.1 ih).1 b d)
structure ke(len:Nat)(t:U):Prop where
 lo:1≤t.k
 hi:t.k≤10
 jC:t.k≠2
 pl:Pl len t 0 1
theorem eS{len:Nat}{u:U}{pos f:Nat}(h1:Form len u pos f)(h2:∀i(h:i<u.es.length),Pl len u.es[i] (aS u i) (aI u i f))
 (h3:u.k=11→∀e∈u.un,(1≤e.k∧e.k≤10∧e.k≠2)∧Pl len e 0 1):Pl len u pos f:=by
 rw[Pl];exact⟨h1,h2,h3⟩
theorem vg(T:List U)(f:Nat)(u:U)(j:Nat)(e:U)(h:e∈(aN T f u).es.take j):∃x∈u.es.take j,e.k=x.k∧e.nm=x.nm:=by
 obtain⟨i,hi,rfl⟩:=List.getElem_of_mem h;rw[List.length_take,cj]at hi;rw[List.getElem_take,gj T f u i (by rw[cj];omega),cG,iW];refine⟨u.es[i]'(by omega),?_,rfl,rfl⟩;rw[show u.es[i]'(by omega)=(u.es.take j)[i]'(by rw[List.length_take];omega) by rw[List.getElem_take]];exact List.getElem_mem _
theorem vh(T:List U)(f:Nat)(u:U)(e:U)(h:e∈(aN T f u).es):∃x∈u.es,e.k=x.k∧e.nm=x.nm:=by
 obtain⟨i,hi,rfl⟩:=List.getElem_of_mem h;rw[gj,cG,iW];exact⟨_,List.getElem_mem _,rfl,rfl⟩
theorem qb{α:Type}(T:List U)(f:Nat)(u:U)(g:ByteArray→α):(aN T f u).es.map (fun e=>g e.nm)=u.es.map fun e=>g e.nm:=by
 refine List.ext_getElem (by simp[cj]) fun i h1 h2=> ?_;rw[List.getElem_map,List.getElem_map,gj,iW]
theorem qc(T:List U)(f i:Nat)(u:U):aS (aN T f u) i=aS u i:=by unfold aS;rw[cG,eR]
theorem nt(T:List U)(f i g:Nat)(u:U):aI (aN T f u) i g=aI u i g:=by unfold aI;rw[cG,eR]
theorem qe{len:Nat}{T:List U}(hT:∀t∈T,ke len t):∀(u:U)(q:Pc)(s:Pt),ah len u q s=true→q.d≤T.length→(s≠ .type→q.t=true)→Pl len (aN T q.f u) s.n q.f:=by
 intro u;induction u using U.bg with
 |_ u ih=>
  intro q s h hd hs;have F:q.f≤2:=by unfold Pc.f;split<;>(try split)<;>omega
  have G:q.behind.f=if q.f=2 then 2 else 0:=by
   unfold Pc.f Pc.behind;cases q.t<;>simp;cases q.v<;>simp
  have O:q.inside.f=2:=by unfold Pc.f Pc.inside;simp
  have parts:∀(D:Pc)(H:Pt),D.d=q.d→(H≠ .type→D.t=true)→(∀e∈u.es,ah len e D H=true)→(∀i,i<u.es.length→aS u i=H.n∧aI u i q.f=D.f)→
   ∀i(hi:i<(aN T q.f u).es.length),Pl len (aN T q.f u).es[i] (aS (aN T q.f u) i) (aI (aN T q.f u) i q.f):=by
   intro D H hq P hp E i hi;rw[cj]at hi;rw[gj T q.f u i (by rw[cj];exact hi),qc,nt,(E i hi).1,(E i hi).2];exact ih _ (U.au (List.getElem_mem hi)) D H (hp _ (List.getElem_mem hi)) (by omega) P
  have c:u.k≠11→(aN T q.f u).k=11→∀e∈(aN T q.f u).un,(1≤e.k∧e.k≤10∧e.k≠2)∧Pl len e 0 1:=fun h1 h2=>absurd (by rw[cG]at h2;exact h2) h1;have j:u.k≠10→u.k≠12→∀i,aS u i=0:=fun h1 h2 i=>by unfold aS;rw[if_neg h2,if_neg (by omega)]
  have y:u.k≠10→u.k≠2→u.k≠3→u.k≠5→∀i,aI u i q.f=q.behind.f:=fun h1 h2 h3 h5 i=>by
   rw[G];unfold aI;split
   ·rfl
   ·rw[if_neg (by omega),if_neg (by omega)]
  have type:ah len u q .type=true→∀pos,Pl len (aN T q.f u) pos q.f:=by
   intro h pos;by_cases Q:u.k=1
   ·rw[ah.eq_def]at h;simp only[Q,if_true,Bool.and_eq_true,decide_eq_true_eq,bQ,List.length_eq_zero_iff]at h
    exact eS (.basic (by rw[cG];exact Q) (by rw[fQ];omega) (by rw[fQ];omega) (by rw[jB,h.2];rfl)) (fun i hi=>by rw[cj,h.2]at hi;simp at hi) (c (by omega))
   by_cases z:u.k=14∨u.k=15∨u.k=16
   ·have he:u.es= []:=by
     rw[ah.eq_def]at h;rcases z with e|e|e<;>simpa [e,List.length_eq_zero_iff]using h
    refine eS ?_ (fun i hi=>by rw[cj,he]at hi;simp at hi) (c (by omega));by_cases I:u.k=15
    ·exact .err (by rw[cG];exact I) (by rw[jB,he];rfl) (by rw[iX,if_pos I])
    ·exact .pre (by rw[cG];omega) (by rw[jB,he];rfl)
   by_cases p:u.k=11
   ·rw[ah.eq_def]at h
    simp only[p,Int.reduceEq,if_false,or_self,if_true,Bool.and_eq_true,Bool.or_eq_true,Bool.not_eq_true',decide_eq_true_eq,bQ,List.length_eq_zero_iff]at h;obtain⟨⟨⟨h0,h1⟩,h2⟩,he⟩:=h;have hu:=iX T q.f u;rw[if_neg (by omega)]at hu;have l:q.f≠0→u.n.toNat<T.length:=fun A=>by
     have:u.n<q.d:=by
      rcases h2 with⟨R,r⟩|h2
      ·exfalso;apply A;unfold Pc.f;simp[R,r]
      ·exact h2
     omega
    refine eS (.named (by rw[cG];exact p) (by rw[fQ];exact h0) (by rw[fQ];exact h1) (by rw[jB,he];rfl) ?_ ?_) (fun i hi=>by rw[cj,he]at hi;simp at hi) ?_
    ·rw[hu];split
     ·cases T[u.n.toNat]?<;>simp
     ·simp
    ·intro A
     rw[hu,if_pos ⟨p,A⟩,List.getElem?_eq_getElem (l A)];simp
    ·intro _ e hm
     rw[hu]at hm;split at hm
     ·rename_i L
      rw[List.getElem?_eq_getElem (l L.2)]at hm;simp only[Option.toList_some,List.mem_singleton]at hm;have:=hT e (by rw[hm];exact List.getElem_mem _);exact⟨⟨this.lo,this.hi,this.jC⟩,this.pl⟩
     ·cases hm
   by_cases M:u.k=2∨u.k=3
   ·rw[ah.eq_def]at h
    have g:0≤u.n∧u.es.length=1∧∀e∈u.es,ah len e q .type=true:=by
     rcases M with e|e<;>simpa [e,and_assoc]using h
    refine eS (.one (by rw[cG];exact M) (by rw[fQ];exact g.1) (by rw[cj];exact g.2.1)) (parts q .type rfl (fun h=>absurd rfl h) g.2.2 fun i _=>⟨j (by omega) (by omega) i,gX F (by omega) i⟩) (c (by omega))
   by_cases V:u.k=5
   ·rw[ah.eq_def]at h
    have g:ei u.es=true∧∀e∈u.es,ah len e q .type=true:=by simpa [V]using h
    unfold ei at g;simp only[Bool.and_eq_true,decide_eq_true_eq]at g;refine eS (.struct (by rw[cG];exact V) (fun e he=> ?_) ?_) (parts q .type rfl (fun h=>absurd rfl h) g.2 fun i _=>⟨j (by omega) (by omega) i,gX F (by omega) i⟩) (c (by omega))
    ·obtain⟨x,W,_,J⟩:=vh T q.f u e he
     rw[J];exact g.1.1 x W
    ·have:=qb T q.f u (fun s=>s)
     rw[show((aN T q.f u).es.map U.nm)=u.es.map U.nm from this];refine List.Pairwise.of_map (S:=fun a b=>a≠b) ByteArray.toList (fun a b X he=>X (by rw[he])) ?_;rw[List.map_map];exact g.1.2
   by_cases bC:u.k=10
   ·rw[ah.eq_def]at h
    have g:bQ u.m (u.es.length+1)=true∧(u.es.length- u.m≤4)∧dQ (u.es.take u.m.toNat)=true∧(∀e∈u.es.take u.m.toNat,ah len e q.behind .type=true)∧∀e∈u.es.drop u.m.toNat,ah len e q.inside .elem=true:=by
     simpa [bC,and_assoc]using h
    obtain⟨hm,Y,L,r,Z⟩:=g;simp only[bQ,Bool.and_eq_true,decide_eq_true_eq]at hm;have P4:u.m.toNat≤u.es.length:=by omega
    refine eS (.iface (by rw[cG];exact bC) (by rw[eR];omega) (by rw[eR,cj];omega) (by rw[eR,cj];omega) (fun e he=> ?_) ?_) (fun i hi=> ?_) (c (by omega))
    ·rw[eR]at he
     obtain⟨x,W,hk,J⟩:=vg T q.f u _ e he;rw[hk,J];exact p_ L x W
    ·have ho:=qa L
     rw[eR,List.map_take,show((aN T q.f u).es.map U.nm)=u.es.map U.nm from qb T q.f u (fun s=>s),←List.map_take,List.pairwise_map];exact ho
    ·rw[cj]at hi
     rw[gj T q.f u i (by rw[cj];exact hi),qc,nt];by_cases l:i<u.m.toNat
     ·have E:aS u i=0:=by unfold aS;rw[if_neg (by omega),if_neg (by omega)]
      have B:aI u i q.f=q.behind.f:=by
       rw[G];unfold aI;split
       ·rfl
       ·rw[if_neg (by omega),if_neg (by omega)]
      rw[E,B];refine ih _ (U.au (List.getElem_mem hi)) q.behind .type (r _ ?_) hd (fun h=>absurd rfl h);rw[show u.es[i]=(u.es.take u.m.toNat)[i]'(by rw[List.length_take];omega) by rw[List.getElem_take]];exact List.getElem_mem _
     ·have E:aS u i=2:=by unfold aS;rw[if_neg (by omega),if_pos ⟨bC,by omega⟩]
      have B:aI u i q.f=q.inside.f:=by
       rw[O];unfold aI;split
       ·rfl
       ·rw[if_pos ⟨bC,by omega⟩]
      rw[E,B];refine ih _ (U.au (List.getElem_mem hi)) q.inside .elem (Z _ ?_) hd (fun _=>rfl);rw[show u.es[i]=(u.es.drop u.m.toNat)[i- u.m.toNat]'(by rw[List.length_drop];omega) by rw[List.getElem_drop];congr 1;omega];exact List.getElem_mem _
   by_cases N:u.k=4∨u.k=6∨u.k=9
   ·rw[ah.eq_def]at h
    have g:bQ u.n 3=true∧u.es.length=1∧∀e∈u.es,ah len e q.behind .type=true:=by
     rcases N with e|e|e<;>simpa [e,and_assoc]using h
    have J:=g.1;simp only[bQ,Bool.and_eq_true,decide_eq_true_eq]at J;exact eS (.ptr (by rw[cG];exact N) (by rw[fQ];omega) (by rw[fQ];omega) (by rw[cj];exact g.2.1)) (parts q.behind .type rfl (fun h=>absurd rfl h) g.2.2 fun i _=>⟨j (by omega) (by omega) i,y (by omega) (by omega) (by omega) (by omega) i⟩) (c (by omega))
   by_cases k8:u.k=8
   ·rw[ah.eq_def]at h
    have g:u.es.length=2∧∀e∈u.es,ah len e q.behind .type=true:=by simpa [k8]using h
    exact eS (.map (by rw[cG];exact k8) (by rw[cj];exact g.1)) (parts q.behind .type rfl (fun h=>absurd rfl h) g.2 fun i _=>⟨j (by omega) (by omega) i,y (by omega) (by omega) (by omega) (by omega) i⟩) (c (by omega))
   by_cases k7:u.k=7
   ·rw[ah.eq_def]at h
    have g:bQ u.m (u.es.length+1)=true∧(u.v=false∨0<u.m∧(u.es.getD (u.m.toNat- 1) bP).k=4)∧∀e∈u.es,ah len e q.behind .type=true:=by
     simpa [k7,and_assoc]using h
    have hm:=g.1;simp only[bQ,Bool.and_eq_true,decide_eq_true_eq]at hm;refine eS (.func (by rw[cG];exact k7) (by rw[eR];omega) (by rw[eR,cj];omega) ?_) (parts q.behind .type rfl (fun h=>absurd rfl h) g.2.2 fun i _=>⟨j (by omega) (by omega) i,y (by omega) (by omega) (by omega) (by omega) i⟩) (c (by omega));rw[lB,eR];intro R;rcases g.2.1 with A|⟨h0,Y⟩
    ·rw[R]at A;cases A
    ·refine⟨by omega,fun l=> ?_⟩
     rw[gj,cG];rw[cj]at l;rw[List.getD_eq_getElem?_getD,List.getElem?_eq_getElem l]at Y;exact Y
   ·exfalso
    rw[ah.eq_def]at h;simp only[not_or]at z M N;simp[Q,z,p,M,V,bC,N,k8,k7]at h
  have term:ah len u q .term=true→q.t=true→∀pos,pos=1∨pos=2→Pl len (aN T q.f u) pos q.f:=by
   intro h r pos K;have o:q.f=2:=by unfold Pc.f;simp[r]
   by_cases C:u.k=13
   ·rw[ah.eq_def]at h
    have g:u.es.length=1∧∀e∈u.es,ah len e q .type=true:=by simpa [C]using h
    refine eS (.j8 (by rw[cG];exact C) K (by rw[cj];exact g.1)) (parts q .type rfl (fun h=>absurd rfl h) g.2 fun i _=>⟨j (by omega) (by omega) i,?_⟩) (c (by omega));unfold aI;rw[if_pos o,o]
   ·rw[ah.eq_def]at h
    simp only[C,if_false]at h;exact type h pos
  cases s with
  |type=>exact type h 0
  |term=>exact term h (hs (by simp)) 1 (.inl rfl)
  |elem=>
   have r:=hs (by simp);have o:q.f=2:=by unfold Pc.f;simp[r]
   by_cases w:u.k=12
   ·rw[ah.eq_def]at h
    have g:2≤u.es.length∧u.es.length≤8∧∀e∈u.es,ah len e q .term=true:=by simpa [w,and_assoc]using h
    refine eS (.union (by rw[cG];exact w) rfl (by rw[cj];exact g.1) (by rw[cj];exact g.2.1)) (parts q .term rfl (fun _=>r) g.2.2 fun i _=>⟨by unfold aS;rw[if_pos w];rfl,?_⟩) (c (by omega));unfold aI;rw[if_pos o,o]
   ·refine term ?_ r 2 (.inr rfl)
    rw[ah.eq_def]at h⊢;simpa only[w,if_false]using h
end TS
