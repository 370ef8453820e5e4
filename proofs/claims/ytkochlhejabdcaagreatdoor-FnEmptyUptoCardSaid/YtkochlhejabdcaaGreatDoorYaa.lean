import Derived.Below
import Derived.Deep.Draws
import Derived.KernelRfl
import Derived.Lib.Hide
import Derived.WalkKit
set_option maxRecDepth 100000
set_option maxHeartbeats 8000000
set_option linter.all false
namespace TS
open Go Go.RowKit
theorem zo{p:Prop}(h:p:=by omega):p:=h
theorem zd{p:Prop}(h:p:=by decide):p:=h
theorem zs{p:Prop}(h:p:=by simp):p:=h
theorem zk{p:Prop}(h:p:=by kernel_rfl):p:=h
theorem zp{p:Prop}(h:p:=by simp;omega):p:=h
theorem za{p:Prop}(h:p:=by assumption):p:=h
theorem zh{p:Prop}(h:p):Hid p:=Lib.hid h
theorem zl{n:Nat}:n≤n:=Nat.le_refl n
theorem zb{w:World}{a:Addr}{v:Value}(h:w.cell? a=some v):a.block<w.heap.size:=World.block_lt_of_cell? _ _ h
theorem zB{n:Nat}{w:World}:Below n w w:=Below.refl n w
theorem zm{α:Type}{l:List α}{i:Nat}(h:i<l.length):l[i]∈l:=List.getElem_mem h
end TS
namespace TS
inductive U where
 |mk (k n m:Int) (v:Bool) (nm tg:ByteArray) (es un:List U)
namespace U
def k:U→Int| .mk k _ _ _ _ _ _ _=>k
def n:U→Int| .mk _ n _ _ _ _ _ _=>n
def m:U→Int| .mk _ _ m _ _ _ _ _=>m
def v:U→Bool| .mk _ _ _ v _ _ _ _=>v
def nm:U→ByteArray| .mk _ _ _ _ nm _ _ _=>nm
def tg:U→ByteArray| .mk _ _ _ _ _ tg _ _=>tg
def es:U→List U| .mk _ _ _ _ _ _ es _=>es
def un:U→List U| .mk _ _ _ _ _ _ _ un=>un
end U
mutual
def U.sz:U→Nat
 | .mk _ _ _ _ _ _ es un=>1+jh es+jh un
def jh:List U→Nat
 | []=>0
 |u::r=>u.sz+jh r
end
theorem U.sf(u:U):0<u.sz:=by cases u;simp[U.sz];omega
theorem sh{l:List U}{e:U}(h:e∈l):e.sz≤jh l:=by
 induction l with
 |nil=>cases h
 |cons a r ih=>
  rcases List.mem_cons.1 h with rfl|h
  ·simp[jh]
  ·have:=ih h;simp[jh];omega
theorem U.ar{u e:U}(h:e∈u.es):e.sz<u.sz:=by
 cases u;have:=sh h;simp[U.sz,U.es]at*;omega
theorem U.iN{u e:U}(h:e∈u.un):e.sz<u.sz:=by
 cases u;have:=sh h;simp[U.sz,U.un]at*;omega
theorem U.bc{P:U→Prop}(h:∀u,(∀a,a.sz<u.sz→P a)→P u)(u:U):P u:=by
 have key:∀n u,U.sz u=n→P u:=by
  intro n;induction n using Nat.strongRecOn with
  |_ n ih=>exact fun u hu=>h u fun a b=>ih a.sz (hu▸b) a rfl
 exact key _ u rfl
instance:Inhabited U:=⟨.mk 0 0 0 false ByteArray.empty ByteArray.empty [] []⟩
def bL:U:= .mk 10 0 0 false ByteArray.empty ByteArray.empty [] []
def dA:U:= .mk 1 16 0 false ByteArray.empty ByteArray.empty [] []
def errorName:ByteArray:=⟨#[69,114,114,111,114]⟩
def aP:U:= .mk 10 0 1 false ByteArray.empty ByteArray.empty [.mk 7 0 0 false errorName ByteArray.empty [dA] []] []
def bare(u:U):U:=
 if u.k=2 then
  match _h:u.es with
  |e::_=>bare e
  | []=>u
 else if u.k=14 then bL else u
termination_by u.sz
decreasing_by exact U.ar (by rw[_h];simp)
def under(u:U):U:=
 if(bare u).k=11∨(bare u).k=15 then(bare u).un.headD (bare u)else bare u
def isIface(u:U):Bool:=(under u).k==10||(under u).k==16
end TS
namespace TS
open Go Go.RowKit
structure Dl where
 a:Option Addr
 len:Nat
abbrev Pm:=Nat→Nat→Option Value
def Sub(p q:Pm):Prop:=∀b o v,p b o=some v→q b o=some v
theorem Sub.refl(p:Pm):Sub p p:=fun _ _ _ h=>h
theorem Sub.trans{p q r:Pm}(h:Sub p q)(k:Sub q r):Sub p r:=fun x o v a=>k x o v (h x o v a)
def KW(p:Pm)(w:World):Prop:=∀b o v,p b o=some v→w.cell? ⟨b,o,none⟩=some v
theorem KW.lt{p:Pm}{w:World}(h:KW p w){b o:Nat}{v:Value}(a:p b o=some v):b<w.heap.size:=zb (h b o v a)
theorem KW.aF{p:Pm}{w:World}(h:KW p w){b:Nat}(c:w.heap.size≤b)(o:Nat):p b o=none:=by
 cases a:p b o with
 |none=>rfl
 |some v=>have:=h.lt a;omega
theorem KW.below{p:Pm}{w a:World}(h:KW p w){n:Nat}(d:Below n w a)(e:∀b o v,p b o=some v→b<n):KW p a:=fun b o v c=>by
 rw[d.cell (p:=⟨b,o,none⟩) (e b o v c)];exact h b o v c
theorem KW.grown{p:Pm}{w a:World}(h:KW p w)(b:Below w.heap.size w a):KW p a:=h.below b fun _ _ _ c=>h.lt c
theorem KW.alloc{p:Pm}{w:World}(h:KW p w)(o:Obj):KW p (w.alloc o):=fun b x v a=>by
 rw[World.cell?_alloc_lt _ _ _ (h.lt a)];exact h b x v a
theorem KW.drew{p:Pm}{w:World}(h:KW p w):KW p w.drew:=h
theorem KW.setCell{p:Pm}{w:World}(h:KW p w){a:Addr}(ha:∀o,p a.block o=none)(v:Value):KW p (w.setCell a v):=fun b o x c=>by
 rw[World.cell?_setCell_other _ _ _ _ (fun e=>by have:=ha o;rw[e]at this;rw[this]at c;cases c)];exact h b o x c
theorem KW.sub{p q:Pm}{w:World}(h:KW q w)(a:Sub p q):KW p w:=fun b o v c=>h b o v (a b o v c)
structure aN(p q:Pm)(n:Nat):Prop where
 le:Sub p q
 new:∀b o v,q b o=some v→p b o=some v∨n≤b
theorem aN.refl(p:Pm)(n:Nat):aN p p n:=⟨.refl p,fun _ _ _ h=> .inl h⟩
theorem aN.trans{p q r:Pm}{n m:Nat}(h:aN p q n)(k:aN q r m)(hm:n≤m):aN p r n:=
 ⟨h.le.trans k.le,fun b o v a=>(k.new b o v a).elim (fun x=>h.new b o v x) fun x=> .inr zo⟩
theorem aN.mono{p q:Pm}{n m:Nat}(h:aN p q n)(hm:m≤n):aN p q m:=⟨h.le,fun b o v a=>(h.new b o v a).imp id fun x=>by omega⟩
theorem aN.aF{p q:Pm}{n:Nat}(h:aN p q n){b:Nat}(d:b<n)(a:∀o,p b o=none)(o:Nat):q b o=none:=by
 cases c:q b o with
 |none=>rfl
 |some v=>rcases h.new b o v c with x|x
          ·rw[a o]at x;cases x
          ·omega
def c_(p:Pm)(b o:Nat)(u:U)(a:Option Addr)(c:Nat):Prop:=
 p b o=some (.int .i64 u.k)∧p b (o+1)=some (.int .i64 u.n)∧p b (o+2)=some (.int .i64 u.m)∧
 p b (o+3)=some (.bool u.v)∧p b (o+4)=some (.string u.nm)∧p b (o+5)=some (.string u.tg)∧
 p b (o+6)=some (.slice a u.es.length c)
theorem c_.sub{p q:Pm}(hk:Sub p q){b o:Nat}{u:U}{a:Option Addr}{c:Nat}(h:c_ p b o u a c):c_ q b o u a c:=
 ⟨hk _ _ _ h.1,hk _ _ _ h.2.1,hk _ _ _ h.2.2.1,hk _ _ _ h.2.2.2.1,hk _ _ _ h.2.2.2.2.1,hk _ _ _ h.2.2.2.2.2.1,hk _ _ _ h.2.2.2.2.2.2⟩
mutual
def ai(p:Pm)(D:Dl):U→Option Addr→Nat→Prop
 | .mk k n m _ nm tg es un,a,c=>(es.length≤c∧c≤1048576∧nm.size≤1048576∧tg.size≤1048576∧k.natAbs≤9223372036854775808∧n.natAbs≤9223372036854775808∧m.natAbs≤9223372036854775808)∧aq p D es a∧
   (k=11→0≤n→n<D.len→∃f d,D.a=some ⟨f,d,none⟩∧ey p D un f (d+n.toNat*8))
def aq(p:Pm)(D:Dl):List U→Option Addr→Prop
 | [],_=>True
 |e::r,a=> ∃b o,a=some ⟨b,o,none⟩∧(∃a' c',c_ p b o e a' c'∧ai p D e a' c')∧aq p D r (some ⟨b,o+7,none⟩)
def ey(p:Pm)(D:Dl):List U→Nat→Nat→Prop
 | [],_,_=>True
 |e::_,b,o=> ∃a' c',c_ p b o e a' c'∧ai p D e a' c'
end
mutual
theorem ai.sub{p q:Pm}{D:Dl}(hk:Sub p q):∀(u:U){a:Option Addr}{c:Nat},ai p D u a c→ai q D u a c
 | .mk k n m v nm tg es un,a,c,h=>by
   simp only[ai]at h⊢;exact⟨h.1,aq.sub hk es h.2.1,fun h1 f g=>let⟨i,d,e,j⟩:=h.2.2 h1 f g;⟨i,d,e,ey.sub hk un j⟩⟩
theorem aq.sub{p q:Pm}{D:Dl}(hk:Sub p q):∀(l:List U){a:Option Addr},aq p D l a→aq q D l a
 | [],a,h=>by simp only[aq]
 |e::r,a,h=>by
  simp only[aq]at h⊢;obtain⟨b,o,ha,⟨a',c',h7,hu⟩,hr⟩:=h;exact⟨b,o,ha,⟨a',c',h7.sub hk,ai.sub hk e hu⟩,aq.sub hk r hr⟩
theorem ey.sub{p q:Pm}{D:Dl}(hk:Sub p q):∀(l:List U){b o:Nat},ey p D l b o→ey q D l b o
 | [],b,o,h=>by simp only[ey]
 |e::r,b,o,h=>by
  simp only[ey]at h⊢;obtain⟨a',c',h7,hu⟩:=h;exact⟨a',c',h7.sub hk,ai.sub hk e hu⟩
end
theorem ai.list{p:Pm}{D:Dl}{u:U}{a:Option Addr}{c:Nat}(h:ai p D u a c):aq p D u.es a:=by
 cases u;simp only[ai]at h;exact h.2.1
theorem ai.cap{p:Pm}{D:Dl}{u:U}{a:Option Addr}{c:Nat}(h:ai p D u a c):u.es.length≤c∧c≤1048576:=by
 cases u;simp only[ai]at h;exact⟨h.1.1,h.1.2.1⟩
theorem ai.ints{p:Pm}{D:Dl}{u:U}{a:Option Addr}{c:Nat}(h:ai p D u a c):u.k.natAbs≤9223372036854775808∧u.n.natAbs≤9223372036854775808∧u.m.natAbs≤9223372036854775808:=by
 cases u;simp only[ai]at h;exact h.1.2.2.2.2
theorem ai.names{p:Pm}{D:Dl}{u:U}{a:Option Addr}{c:Nat}(h:ai p D u a c):u.nm.size≤1048576∧u.tg.size≤1048576:=by
 cases u;simp only[ai]at h;exact⟨h.1.2.2.1,h.1.2.2.2.1⟩
theorem aq.get{p:Pm}{D:Dl}:∀{l:List U}{b o:Nat},aq p D l (some ⟨b,o,none⟩)→∀(i:Nat)(hi:i<l.length),∃a c,c_ p b (o+i*7) l[i] a c∧ai p D l[i] a c
 | [],_,_,_,i,hi=>by simp at hi
 |e::r,b,o,h,0,_=>by
  simp only[aq]at h;obtain⟨d,f,ha,g,_⟩:=h;simp only[Option.some.injEq,Addr.mk.injEq]at ha;obtain⟨rfl,rfl,_⟩:=ha;simpa using g
 |e::r,b,o,h,i+1,hi=>by
  simp only[aq]at h;obtain⟨d,f,ha,_,hr⟩:=h;simp only[Option.some.injEq,Addr.mk.injEq]at ha;obtain⟨rfl,rfl,_⟩:=ha;have:=hr.get i (by simpa using hi);simpa [Nat.add_mul,Nat.add_assoc,Nat.add_comm 7]using this
theorem aq.bg{p:Pm}{D:Dl}{l:List U}{a:Option Addr}(h:aq p D l a)(c:0<l.length):∃b o,a=some ⟨b,o,none⟩:=by
 cases l with
 |nil=>simp at c
 |cons e r=>simp only[aq]at h;obtain⟨b,o,ha,_⟩:=h;exact⟨b,o,ha⟩
theorem aq.drop{p:Pm}{D:Dl}:∀{l:List U}{b o:Nat}(i:Nat),aq p D l (some ⟨b,o,none⟩)→i≤l.length→aq p D (l.drop i) (some ⟨b,o+i*7,none⟩)
 |l,b,o,0,h,_=>by simpa using h
 | [],b,o,i+1,h,hi=>by simp at hi
 |e::r,b,o,i+1,h,hi=>by
  simp only[aq]at h;obtain⟨a,c,ha,_,hr⟩:=h;simp only[Option.some.injEq,Addr.mk.injEq]at ha;obtain⟨rfl,rfl,_⟩:=ha;have:=aq.drop i hr (by simpa using hi);simpa [Nat.add_mul,Nat.add_assoc,Nat.add_comm 7]using this
theorem aq.nil{p:Pm}{D:Dl}{a:Option Addr}:aq p D [] a:=by simp only[aq]
theorem aq.ix{p:Pm}{D:Dl}{a:Option Addr}(_h:∀x,a=some x→x.spot=none):aq p D [] a:=aq.nil
theorem aq.take{p:Pm}{D:Dl}:∀{l:List U}{a:Option Addr}(i:Nat),aq p D l a→aq p D (l.take i) a
 |l,a,0,h=>by rw[List.take_zero];exact aq.nil
 | [],a,i+1,h=>by simpa using h
 |e::r,a,i+1,h=>by
  simp only[aq]at h;obtain⟨b,c,ha,d,hr⟩:=h;rw[List.take_succ_cons];simp only[aq];exact⟨b,c,ha,d,aq.take i hr⟩
theorem aq.lt{p:Pm}{D:Dl}{l:List U}{b o:Nat}(h:aq p D l (some ⟨b,o,none⟩))(d:0<l.length){w:World}(hw:KW p w):b<w.heap.size:=by
 obtain⟨a,c,h7,_⟩:=h.get 0 d;exact hw.lt h7.1
def C7(w:World)(b o:Nat)(u:U)(a:Option Addr)(c:Nat):Prop:=
 w.cell? ⟨b,o,none⟩=some (.int .i64 u.k)∧w.cell? ⟨b,o+1,none⟩=some (.int .i64 u.n)∧w.cell? ⟨b,o+2,none⟩=some (.int .i64 u.m)∧
 w.cell? ⟨b,o+3,none⟩=some (.bool u.v)∧w.cell? ⟨b,o+4,none⟩=some (.string u.nm)∧w.cell? ⟨b,o+5,none⟩=some (.string u.tg)∧
 w.cell? ⟨b,o+6,none⟩=some (.slice a u.es.length c)
theorem c_.world{p:Pm}{w:World}(hw:KW p w){b o:Nat}{u:U}{a:Option Addr}{c:Nat}(h:c_ p b o u a c):C7 w b o u a c:=
 ⟨hw _ _ _ h.1,hw _ _ _ h.2.1,hw _ _ _ h.2.2.1,hw _ _ _ h.2.2.2.1,hw _ _ _ h.2.2.2.2.1,hw _ _ _ h.2.2.2.2.2.1,hw _ _ _ h.2.2.2.2.2.2⟩
end TS
namespace TS
open Go Go.RowKit
def lL(c:UInt8):Bool:=65≤c&&c≤90
def pr(c:UInt8):Bool:=lL c||(97≤c&&c≤122)
def kK:List UInt8→Bool
 | []=>false
 |c::r=>lL c&&r.all pr&&decide (r.length≤7)
def aR(s:ByteArray):Bool:=kK s.data.toList
inductive Form (len:Nat) (u:U) (pos f:Nat):Prop
 |basic (hk:u.k=1) (c:0≤u.n) (h1:u.n<18) (he:u.es= [])
 |pre (hk:u.k=14∨u.k=16) (he:u.es= [])
 |err (hk:u.k=15) (he:u.es= []) (hu:u.un= [aP])
 |named (hk:u.k=11) (c:0≤u.n) (h1:u.n<len) (he:u.es= []) (g:u.un.length≤1) (hu:f≠0→u.un≠ [])
 |one (hk:u.k=2∨u.k=3) (c:0≤u.n) (he:u.es.length=1)
 |struct (hk:u.k=5) (i:u.un= []→∀e∈u.es,aR e.nm=true) (j:(u.es.map U.nm).Nodup)
 |iface (hk:u.k=10) (c:0≤u.m) (h1:u.m.toNat≤u.es.length) (l:u.es.length- u.m.toNat≤4) (hm:∀e∈u.es.take u.m.toNat,e.k=7∧aR e.nm=true)
  (o:((u.es.take u.m.toNat).map U.nm).Pairwise fun a b=>Go.Op.bytesLess a.toList b.toList=true)
 |ptr (hk:u.k=4∨u.k=6∨u.k=9) (c:0≤u.n) (h1:u.n<3) (he:u.es.length=1)
 |map (hk:u.k=8) (he:u.es.length=2)
 |func (hk:u.k=7) (c:0≤u.m) (h1:u.m.toNat≤u.es.length) (p:u.v=true→0<u.m.toNat∧∀h:u.m.toNat- 1<u.es.length,(u.es[u.m.toNat- 1]).k=4)
 |union (hk:u.k=12) (d:pos=2) (q:2≤u.es.length) (r:u.es.length≤8)
 |iO (hk:u.k=13) (d:pos=1∨pos=2) (he:u.es.length=1)
def aS(u:U)(i:Nat):Nat:=if u.k=12 then 1 else if u.k=10∧u.m.toNat≤i then 2 else 0
def aO(u:U)(i f:Nat):Nat:=if f=2 then 2 else if u.k=10∧u.m.toNat≤i then 2 else if f=1∧(u.k=2∨u.k=3∨u.k=5)then 1 else 0
def Pl(len:Nat)(u:U)(pos f:Nat):Prop:=
 Form len u pos f∧(∀i(h:i<u.es.length),Pl len u.es[i] (aS u i) (aO u i f))∧
  (u.k=11→∀e(h:e∈u.un),(1≤e.k∧e.k≤10∧e.k≠2)∧Pl len e 0 1)
termination_by u.sz
decreasing_by
 ·exact U.ar (zm h)
 ·exact U.iN h
theorem Pl.form{len:Nat}{u:U}{pos f:Nat}(h:Pl len u pos f):Form len u pos f:=by rw[Pl]at h;exact h.1
theorem Pl.part{len:Nat}{u:U}{pos f:Nat}(h:Pl len u pos f)(i:Nat)(hi:i<u.es.length):Pl len u.es[i] (aS u i) (aO u i f):=by rw[Pl]at h;exact h.2.1 i hi
theorem Pl.decl{len:Nat}{u:U}{pos f:Nat}(h:Pl len u pos f)(hk:u.k=11){e:U}(he:e∈u.un):(1≤e.k∧e.k≤10∧e.k≠2)∧Pl len e 0 1:=by rw[Pl]at h;exact h.2.2 hk e he
theorem Form.ye{len:Nat}{u:U}{pos f i:Nat}(h:Form len u pos f)(j:i≠0→f≠0):Form len u pos i:=by
 cases h with
 |basic a b c d=>exact .basic a b c d
 |pre a b=>exact .pre a b
 |err a b c=>exact .err a b c
 |named a b c d e g=>exact .named a b c d e fun x=>g (j x)
 |one a b c=>exact .one a b c
 |struct a b c=>exact .struct a b c
 |iface a b c d e g=>exact .iface a b c d e g
 |ptr a b c d=>exact .ptr a b c d
 |map a b=>exact .map a b
 |func a b c d=>exact .func a b c d
 |union a b c d=>exact .union a b c d
 |iO a b c=>exact .iO a b c
theorem si(len:Nat):Pl len aP 0 1:=by
 rw[Pl];refine⟨.iface rfl zd zd zd (fun e he=> ?_) (by simp[aP,U.es,U.m]),fun i hi=> ?_,fun h=>absurd h zd⟩
 ·have:e= .mk 7 0 0 false errorName ByteArray.empty [dA] []:=by simpa [aP,U.es,U.m]using he
  subst this;exact⟨rfl,by decide⟩
 ·have a:i=0:=by simp[aP,U.es]at hi;omega
  subst a;rw[Pl];refine⟨.func rfl (by simp[aP,U.es,U.m]) (by simp[aP,U.es,U.m]) (fun h=>by simp[aP,U.es,U.v]at h),fun i hi=> ?_,fun h=>by simp[aP,U.es,U.k]at h⟩;have a:i=0:=by simp[aP,U.es]at hi;omega
  subst a;rw[Pl];exact⟨.basic rfl (by simp[aP,dA,U.es,U.n]) (by simp[aP,dA,U.es,U.n]) rfl,fun i hi=>by simp[aP,dA,U.es]at hi,fun h=>by simp[aP,dA,U.es,U.k]at h⟩
end TS
namespace TS
open Go Go.RowKit
theorem aq.cut{p:Pm}{D:Dl}{l:List U}{a:Option Addr}(h:aq p D l a)(i:Nat)(hi:i≤l.length):aq p D (l.drop i) (Option.map (fun x=>x.add (i*7)) a):=by
 cases a with
 |none=>
  cases l with
  |nil=>simpa using aq.ix (p:=p) (D:=D) (a:=none) (fun x c=>by cases c)
  |cons e r=>obtain⟨b,o,ha⟩:=h.bg zs;cases ha
 |some x=>
  cases l with
  |nil=>simpa using aq.nil
  |cons e r=>
   obtain⟨b,o,ha⟩:=h.bg zs;cases ha;have:=h.drop i hi;simp only[Option.map_some,Addr.add];split
   ·rename_i d
    have:i=0:=zo;subst this;simpa using h
   ·exact this
def RB(x:Bool)(w:World)(e:Ending)(a:World):Prop:=∃b,e= .returned (.bool b)∧Hid (b=x)∧Below w.heap.size w a
def RQ(x:Bool)(w:World)(e:Ending)(a:World):Prop:=∃b,e= .returned (.bool b)∧Hid (b=x)∧w=a
def RU(p:Pm)(D:Dl)(u:U)(w:World)(e:Ending)(b:World):Prop:=
 ∃q a c,e= .returned (.agg #[.int .i64 u.k,.int .i64 u.n,.int .i64 u.m,.bool u.v,.string u.nm,.string u.tg,.slice a u.es.length c])∧aN p q w.heap.size∧KW q b∧ai q D u a c∧Below w.heap.size w b
structure Up(p:Pm)(w W:World):Prop where
 kw:KW p W
 up:Below w.heap.size w W
theorem Up.step{p:Pm}{w W a:World}(h:Up p w W)(b:Below W.heap.size W a):Up p w a:=⟨h.1.grown b,h.2.trans (b.mono h.2.size)⟩
theorem Up.refl{p:Pm}{w:World}(h:KW p w):Up p w w:=⟨h,Below.refl _ _⟩
theorem Up.alloc{p:Pm}{w W:World}(h:Up p w W)(o:Obj):Up p w (W.alloc o):=⟨h.1.alloc o,h.2.alloc h.2.size o⟩
theorem Up.drew{p:Pm}{w W:World}(h:Up p w W):Up p w W.drew:=⟨h.1.drew,h.2.drew⟩
theorem sj{B:Nat}{a w:World}(h:Below B a w)(n:Nat):Below B a (w.drewN n):=⟨h.os,h.tape,h.output,h.size,h.block⟩
theorem Up.drewN{p:Pm}{w W:World}(h:Up p w W)(n:Nat):Up p w (W.drewN n):=⟨h.1,sj h.2 n⟩
theorem gH{P:Program}{f:FuncId}{args:Array Value}{w:World}{x b:Bool}(h:Calls P f args w (RQ x w))(d:x=b):Calls P f args w fun e a=>e= .returned (.bool b)∧w=a:=
 h.mono fun e a ⟨c,he,g,hw⟩=>⟨by rw[he,g.out,d],hw⟩
theorem sk{P:Program}{f:FuncId}{args:Array Value}{w:World}{x b:Bool}(h:Calls P f args w (RQ x w))(d:x=b):Calls P f args w fun e a=>e= .returned (.bool b)∧a=w:=
 h.mono fun e a ⟨c,he,g,hw⟩=>⟨by rw[he,g.out,d],hw.symm⟩
theorem aT{P:Program}{f:FuncId}{args:Array Value}{w:World}{x b:Bool}(h:Calls P f args w (RB x w))(d:x=b):Calls P f args w fun e a=>e= .returned (.bool b)∧Below w.heap.size w a:=
 h.mono fun e a ⟨c,he,g,hw⟩=>⟨by rw[he,g.out,d],hw⟩
theorem eS{W a:World}(c:Below W.heap.size W a):(∀b o,b<W.heap.size→a.cell? ⟨b,o,none⟩=W.cell? ⟨b,o,none⟩)∧(∀b o,b<W.heap.size→a.frozen? ⟨b,o,none⟩=W.frozen? ⟨b,o,none⟩):=
 ⟨fun b o h=>c.cell (p:=⟨b,o,none⟩) h,fun b o h=>c.frozen (p:=⟨b,o,none⟩) h⟩
def L7(w:World)(b:Nat)(u:U)(a:Option Addr)(c:Nat):Prop:=
 w.cell? ⟨b,0,none⟩=some (.int .i64 u.k)∧w.cell? ⟨b,1,none⟩=some (.int .i64 u.n)∧w.cell? ⟨b,2,none⟩=some (.int .i64 u.m)∧
 w.cell? ⟨b,3,none⟩=some (.bool u.v)∧w.cell? ⟨b,4,none⟩=some (.string u.nm)∧w.cell? ⟨b,5,none⟩=some (.string u.tg)∧
 w.cell? ⟨b,6,none⟩=some (.slice a u.es.length c)
theorem dE(w:World)(u:U)(a:Option Addr)(c:Nat)(T:TypeId):
 L7 (w.alloc (.cells #[.int .i64 u.k,.int .i64 u.n,.int .i64 u.m,.bool u.v,.string u.nm,.string u.tg,.slice a u.es.length c] T)) w.heap.size u a c:=by
 simp[L7]
def cC:U:= .mk 0 0 0 false ByteArray.empty ByteArray.empty [] []
theorem yg(w:World)(T:TypeId):
 L7 (w.alloc (.cells #[.int .i64 0,.int .i64 0,.int .i64 0,.bool false,.string ⟨#[]⟩,.string ⟨#[]⟩,.slice none 0 0] T)) w.heap.size cC none 0:=dE w cC none 0 T
theorem L7.keeps{w d:World}{b:Nat}{u:U}{a:Option Addr}{c:Nat}(h:L7 w b u a c)(hk:∀o v,w.cell? ⟨b,o,none⟩=some v→d.cell? ⟨b,o,none⟩=some v):L7 d b u a c:=
 ⟨hk _ _ h.1,hk _ _ h.2.1,hk _ _ h.2.2.1,hk _ _ h.2.2.2.1,hk _ _ h.2.2.2.2.1,hk _ _ h.2.2.2.2.2.1,hk _ _ h.2.2.2.2.2.2⟩
theorem L7.alloc{w:World}{b:Nat}{u:U}{a:Option Addr}{c:Nat}(h:L7 w b u a c)(o:Obj):L7 (w.alloc o) b u a c:=
 h.keeps fun x v d=>by rw[World.cell?_alloc_lt _ _ _ (zb d)];exact d
theorem L7.below{w d:World}{b:Nat}{u:U}{a:Option Addr}{c:Nat}(h:L7 w b u a c)(f:Below w.heap.size w d):L7 d b u a c:=
 h.keeps fun x v e=>by rw[f.cell (zb e)];exact e
theorem L7.setCell{w:World}{b:Nat}{u:U}{a:Option Addr}{c:Nat}(h:L7 w b u a c){x:Addr}(d:x.block≠b)(v:Value):L7 (w.setCell x v) b u a c:=
 h.keeps fun o y f=>by rw[World.cell?_setCell_other _ _ _ _ (fun e=>d (by rw[e]))];exact f
theorem cell_kept{w a:World}(c:Below w.heap.size w a){b o:Nat}{v:Value}(h:w.cell? ⟨b,o,none⟩=some v):a.cell? ⟨b,o,none⟩=some v:=by
 rw[c.cell (zb h)];exact h
def Pm.add(p:Pm)(b:Nat)(cs:Array Value):Pm:=fun a o=>if a=b then cs[o]? else p a o
theorem Pm.aU(p:Pm)(b:Nat)(cs:Array Value)(o:Nat):p.add b cs b o=cs[o]?:=by simp[Pm.add]
theorem Pm.aQ(p:Pm){b a:Nat}(cs:Array Value)(o:Nat)(h:a≠b):p.add b cs a o=p a o:=by simp[Pm.add,h]
theorem Pm.cK{p:Pm}{b:Nat}{cs:Array Value}(h:∀o,p b o=none):Sub p (p.add b cs):=fun c o v a=>by
 by_cases e:c=b
 ·subst e;rw[h o]at a;cases a
 ·rw[Pm.aQ p cs o e];exact a
theorem Pm.du{p:Pm}{b n:Nat}{cs:Array Value}(h:∀o,p b o=none)(c:n≤b):aN p (p.add b cs) n:=
 ⟨Pm.cK h,fun d o v a=>by
  by_cases e:d=b
  ·subst e;exact .inr c
  ·rw[Pm.aQ p cs o e]at a;exact .inl a⟩
theorem KW.add{p:Pm}{w:World}(h:KW p w){b:Nat}{cs:Array Value}(d:∀o v,cs[o]?=some v→w.cell? ⟨b,o,none⟩=some v):KW (p.add b cs) w:=fun c o v a=>by
 by_cases e:c=b
 ·subst e;rw[Pm.aU]at a;exact d o v a
 ·rw[Pm.aQ p cs o e]at a;exact h c o v a
theorem KW.sm{p:Pm}{w:World}(h:KW p w)(cs:Array Value)(T:TypeId):KW (p.add w.heap.size cs) (w.alloc (.cells cs T)):=
 (h.alloc _).add fun o v a=>by rw[World.cell?_alloc_new];exact a
theorem KW.ns{p:Pm}{w:World}(h:KW p w)(cs:Array Value)(T:TypeId){b:Nat}(a:b=w.heap.size):KW (p.add b cs) (w.alloc (.cells cs T)):=by subst a;exact h.sm cs T
theorem frozen_kept{w c:World}(d:Below w.heap.size w c){b o:Nat}(a:b<w.heap.size)(h:w.frozen? ⟨b,o,none⟩=false):c.frozen? ⟨b,o,none⟩=false:=by
 rw[d.frozen (p:=⟨b,o,none⟩) a];exact h
theorem sn(p:Pm)(D:Dl):ai p D bL none 0:=by
 simp only[bL,ai];exact⟨⟨by simp,by simp,by decide,by decide,by decide,by decide,by decide⟩,aq.ix (fun x a=>by cases a),fun h=>absurd h zd⟩
theorem bR{u:U}(b:u.k≠2)(a:u.k≠14):bare u=u:=by rw[bare,if_neg b,if_neg a]
theorem gI{u:U}(a:u.k=14):bare u=bL:=by rw[bare,if_neg zo,if_pos a]
theorem jU{u e:U}(b:u.k=2)(he:u.es= [e]):bare u=bare e:=by
 rw[bare,if_pos b];split
 ·rename_i x r a;rw[he]at a;cases a;rfl
 ·rename_i a;rw[he]at a;cases a
theorem dG{P:Program}{f:FuncId}{fn:Func}{c:Code}(b:P.funcs[f]?=some fn)(a:(fn.name== "runtime.NumGoroutine")=false)(d:fn.body=some c):
 ∀(args:Array Value)(w:World),(callFunc f args).run P w= .ok (.enter f args) w:=by
 intro args w;have h1:fn.name≠ "runtime.NumGoroutine" :=by simpa using a
 simp[callFunc,b,h1,d,mark]
theorem kL{α:Type}(l:List α)(f:α→Bool):l.any (fun e=> !f e)= !l.all f:=by
 induction l with
 |nil=>rfl
 |cons a r ih=>simp only[List.any_cons,List.all_cons,ih,Bool.not_and]
theorem cL{l:List U}(h:l.length=1):∃e,l= [e]:=by
 match l,h with
 | [e],_=>exact⟨e,rfl⟩
theorem Form.iy{len:Nat}{u:U}{pos f:Nat}(h:Form len u pos f)(i:u.k≠12)(j:u.k≠13)(pos':Nat):Form len u pos' f:=by
 cases h with
 |basic a b c d=>exact .basic a b c d
 |pre a b=>exact .pre a b
 |err a b c=>exact .err a b c
 |named a b c d e g=>exact .named a b c d e g
 |one a b c=>exact .one a b c
 |struct a b c=>exact .struct a b c
 |iface a b c d e g=>exact .iface a b c d e g
 |ptr a b c d=>exact .ptr a b c d
 |map a b=>exact .map a b
 |func a b c d=>exact .func a b c d
 |union a b c d=>exact absurd a i
 |iO a b c=>exact absurd a j
theorem Pl.iy{len:Nat}{u:U}{pos f:Nat}(h:Pl len u pos f)(a:u.k≠12)(b:u.k≠13)(pos':Nat):Pl len u pos' f:=by
 rw[Pl]at h⊢;exact⟨h.1.iy a b _,h.2.1,h.2.2⟩
theorem Form.kinds{len:Nat}{u:U}{pos f:Nat}(h:Form len u pos f):1≤u.k∧u.k≤16:=by cases h<;>omega
theorem Form.aD{len:Nat}{u:U}{f:Nat}(h:Form len u 0 f):u.k≠12∧u.k≠13:=by
 cases h with
 |union _ a _ _=>cases a
 |iO _ a _=>rcases a with a|a<;>cases a
 |_=>omega
theorem Form.fL{len:Nat}{u:U}{pos f:Nat}(h:Form len u pos f)(a:u.k=2):u.es.length=1:=by
 cases h<;>first|assumption|omega
theorem yh(len f:Nat):Pl len bL 0 f:=by
 rw[Pl];exact⟨.iface rfl zd zd zd (fun e he=>by simp[bL,U.es,U.m]at he) (by simp[bL,U.es,U.m]),fun i hi=>by simp[bL,U.es]at hi,fun h=>absurd h zd⟩
theorem fj{u:U}{i f:Nat}:aO u i f≤2:=by unfold aO;split<;>(try split)<;>(try split)<;>omega
theorem iP{u:U}{f:Nat}(a:f≤2)(hk:u.k=2∨u.k=3∨u.k=5)(i:Nat):aO u i f=f:=by
 unfold aO;by_cases f2:f=2
 ·simp[f2]
 ·rw[if_neg f2,if_neg zo]
  by_cases f1:f=1
  ·rw[if_pos ⟨f1,hk⟩,f1]
  ·rw[if_neg zo];omega
theorem Pl.bare{len:Nat}:∀{u:U}{pos f:Nat},Pl len u pos f→f≤2→u.k≠12→u.k≠13→
 Pl len (bare u) 0 f∧(TS.bare u).k≠2∧(TS.bare u).k≠14∧(TS.bare u).sz≤u.sz:=by
 intro u;induction u using U.bc with
 |_ u ih=>
  intro pos f h i c d;by_cases a:u.k=2
  ·obtain⟨e,he⟩:=cL (h.form.fL a)
   have g:=h.part 0 (by rw[h.form.fL a];omega);have j:u.es[0]'(by rw[h.form.fL a];omega)=e:=by simp[he]
   have l:aS u 0=0:=by unfold aS;rw[if_neg zo,if_neg zo]
   rw[j,l,iP i (.inl a)]at g;have m:=U.ar (u:=u) (e:=e) (by rw[he];simp);have hk:=g.form.aD;rw[jU a he];have:=ih e m g i hk.1 hk.2;exact⟨this.1,this.2.1,this.2.2.1,by omega⟩
  ·by_cases b:u.k=14
   ·rw[gI b]
    exact⟨yh _ _,by decide,by decide,by have:=u.sf;simp[bL,U.sz,jh];omega⟩
   ·rw[bR a b]
    exact⟨h.iy c d 0,a,b,Nat.le_refl _⟩
theorem Form.sq{len:Nat}{u:U}{pos f:Nat}(h:Form len u pos f)(b:u.k=15):u.un= [aP]:=by
 cases h with
 |err _ _ hu=>exact hu
 |pre a _=>omega
 |one a _ _=>omega
 |ptr a _ _ _=>omega
 |_=>omega
theorem Form.ji{len:Nat}{u:U}{pos f:Nat}(h:Form len u pos f)(g:u.k=11):(0≤u.n∧u.n<len)∧u.es= []∧u.un.length≤1∧(f≠0→u.un≠ []):=by
 cases h with
 |named _ a b c d e=>exact⟨⟨a,b⟩,c,d,e⟩
 |pre a _=>omega
 |one a _ _=>omega
 |ptr a _ _ _=>omega
 |_=>omega
theorem jj{u x:U}(h:(bare u).k=11)(a:(bare u).un= [x]):under u=x:=by unfold under;rw[if_pos (.inl h),a];rfl
theorem jk{u:U}(h:(bare u).k=15)(a:(bare u).un= [aP]):under u=aP:=by unfold under;rw[if_pos (.inr h),a];rfl
theorem iz{u:U}(h:(bare u).k≠11)(a:(bare u).k≠15):under u=bare u:=by unfold under;rw[if_neg zo]
theorem Pl.under{len:Nat}{u:U}{pos f:Nat}(h:Pl len u pos f)(t:f≤2)(g:f≠0)(m:u.k≠12)(n:u.k≠13):
 ∃o,o≤2∧o≠0∧Pl len (under u) 0 o∧((TS.under u).k≠2∧(TS.under u).k≠11∧(TS.under u).k≠14∧(TS.under u).k≠15)∧(TS.under u).sz≤u.sz:=by
 obtain⟨j,p,i,y⟩:=h.bare t m n;by_cases b:(TS.bare u).k=11
 ·obtain⟨_,_,q,hu⟩:=j.form.ji b
  obtain⟨x,d⟩:=cL (l:=(TS.bare u).un) (by have:=hu g;cases v:(TS.bare u).un with|nil=>exact absurd v this|cons a r=>rw[v]at q;simp at q⊢;exact q);have w:=j.decl b (e:=x) (by rw[d];simp);have s:=U.iN (u:=TS.bare u) (e:=x) (by rw[d];simp);rw[jj b d];exact⟨1,by omega,by omega,w.2,⟨w.1.2.2,by omega,by omega,by omega⟩,by omega⟩
 ·by_cases c:(TS.bare u).k=15
  ·have d:=j.form.sq c
   have s:=U.iN (u:=TS.bare u) (e:=aP) (by rw[d];simp);rw[jk c d];exact⟨1,by omega,by omega,si _,⟨by decide,by decide,by decide,by decide⟩,by omega⟩
  ·rw[iz b c]
   exact⟨f,t,g,j,⟨p,b,i,c⟩,y⟩
theorem yi(p:Pm)(D:Dl):ai p D dA none 0:=by
 simp only[dA,ai];exact⟨⟨by simp,by simp,by decide,by decide,by decide,by decide,by decide⟩,aq.ix (fun x a=>by cases a),fun h=>absurd h zd⟩
theorem yj{p:Pm}{D:Dl}{b1 a:Nat}(h1:c_ p b1 0 dA none 0)(b:c_ p a 0 (.mk 7 0 0 false errorName ByteArray.empty [dA] []) (some ⟨b1,0,none⟩) 1):ai p D aP (some ⟨a,0,none⟩) 1:=by
 simp only[aP,ai,aq];refine⟨⟨by simp,by simp,by decide,by decide,by decide,by decide,by decide⟩,⟨a,0,rfl,⟨_,_,b,⟨by simp,by simp,by decide,by decide,by decide,by decide,by decide⟩,⟨b1,0,rfl,⟨_,_,h1,yi _ _⟩,trivial⟩,fun h=>absurd h zd⟩,trivial⟩,fun h=>absurd h zd⟩
theorem ai.bare{len:Nat}{p:Pm}{D:Dl}:∀{u:U}{pos f:Nat}{a:Option Addr}{c:Nat},Pl len u pos f→ai p D u a c→∃a' c',ai p D (bare u) a' c':=by
 intro u;induction u using U.bc with
 |_ u ih=>
  intro pos f a c h hu;by_cases i:u.k=2
  ·have h1:=h.form.fL i
   obtain⟨e,he⟩:=cL h1;have l:u.es[0]'zo=e:=by simp[he]
   obtain⟨b,o,rfl⟩:=hu.list.bg zo;obtain⟨a',c',_,d⟩:=hu.list.get 0 zo;have j:=h.part 0 zo;rw[l]at d j;rw[jU i he];exact ih e (U.ar (by rw[he];simp)) j d
  ·by_cases g:u.k=14
   ·rw[gI g];exact⟨_,_,sn _ _⟩
   ·rw[bR i g];exact⟨a,c,hu⟩
theorem yl{u:U}{x:U}{len:Nat}{pos f:Nat}(h:Pl len u pos f)(i:u.un= [x])(hk:u.k=11){p:Pm}{D:Dl}{a:Option Addr}{c:Nat}(hu:ai p D u a c)(hlen:len=D.len):
 ∃b d a' c',D.a=some ⟨b,d,none⟩∧c_ p b (d+u.n.toNat*8) x a' c'∧ai p D x a' c':=by
 have j:=(h.form.ji hk).1;cases u with
 |mk k n m v nm tg es un=>
  simp only[ai]at hu;simp only[U.un,U.k,U.n]at*;obtain⟨b,d,l,e⟩:=hu.2.2 hk j.1 zo;rw[i]at e;simp only[ey]at e;obtain⟨a',c',h7,g⟩:=e;exact⟨b,d,a',c',l,h7,g⟩
end TS
