import Derived.LaidEqlPtr
import Derived.Laws.AppendOwn
import Derived.Lib.IndexBytes
import Derived.Lib.Strings
import Derived.Maps.AppendAt
import Derived.Maps.Own
import Derived.Test.YtkfaiocajcjomaaGreatDoorYak
set_option maxRecDepth 100000
set_option maxHeartbeats 8000000
set_option linter.all false
namespace TS
open Go Go.RowKit
abbrev R3:=U×Option Addr×Nat
def bL(x:R3):List Value:= [.int .i64 x.1.k,.int .i64 x.1.n,.int .i64 x.1.m,.bool x.1.v,.string x.1.nm,.string x.1.tg,.slice x.2.1 x.1.es.length x.2.2]
def cq(L:List R3):List Value:=L.flatMap bL
def aX(L:List R3):List U:=L.map (·.1)
def eZ(p:Pm)(D:Dl)(L:List R3):Prop:=∀x∈L,aj p D x.1 x.2.1 x.2.2
theorem eZ.sub{p q:Pm}{D:Dl}{L:List R3}(h:eZ p D L)(hk:Sub p q):eZ q D L:=fun x a=>aj.sub hk _ (h x a)
theorem eZ.append{p:Pm}{D:Dl}{L M:List R3}(h:eZ p D L)(k:eZ p D M):eZ p D (L++M):=fun x a=>(List.mem_append.1 a).elim (h x) (k x)
theorem jN(x:R3)(L:List R3):cq (x::L)=bL x++cq L:=rfl
theorem vV(L M:List R3):cq (L++M)=cq L++cq M:=by simp[cq]
theorem lP:∀L:List R3,(cq L).length=L.length*7
 | []=>rfl
 |x::r=>by rw[jN,List.length_append,lP r];simp[bL];omega
theorem qL(L:List R3):∀v∈cq L,v.oneCell'=true:=by
 intro v b;obtain⟨x,_,a⟩:=List.mem_flatMap.1 b;simp only[bL,List.mem_cons,List.not_mem_nil,or_false]at a;rcases a with rfl|rfl|rfl|rfl|rfl|rfl|rfl<;>rfl
theorem qM:∀(L:List R3)(j c:Nat)(a:j<L.length)(b:c<7),(cq L)[j*7+c]?=(bL L[j])[c]?
 |x::r,0,c,_,_=>by
  rw[jN,Nat.zero_mul,Nat.zero_add,List.getElem?_append_left (by simp[bL];omega)];rfl
 |x::r,j+1,c,a,b=>by
  rw[jN,List.getElem?_append_right (by simp[bL];omega)];rw[show(j+1)*7+c- (bL x).length=j*7+c by simp[bL];omega,qM r j c (by simpa using a) b];rfl
theorem nR{p:Pm}{D:Dl}{b:Nat}:∀{L:List R3}{o:Nat},eZ p D L→(∀j v,(cq L)[j]?=some v→p b (o+j)=some v)→au p D (aX L) (some ⟨b,o,none⟩)
 | [],o,_,_=>au.gO fun x e=>by cases e;rfl
 |x::r,o,h,f=>by
  have e:=h x List.mem_cons_self;have hr:au p D (aX r) (some ⟨b,o+7,none⟩):=nR (fun y g=>h y (List.mem_cons_of_mem _ g)) fun j v d=>by
   have:=f (7+j) v (by rw[jN,List.getElem?_append_right (by simp[bL])];simpa [bL]using d);rwa [←Nat.add_assoc]at this
  have a:∀c v,(bL x)[c]?=some v→p b (o+c)=some v:=fun c v d=>f c v (by
   rw[jN,List.getElem?_append_left (List.getElem?_eq_some_iff.1 d).1];exact d)
  show au p D (x.1::aX r) _;simp only[au];exact⟨b,o,rfl,⟨x.2.1,x.2.2,⟨a 0 _ rfl,a 1 _ rfl,a 2 _ rfl,a 3 _ rfl,a 4 _ rfl,a 5 _ rfl,a 6 _ rfl⟩,e⟩,hr⟩
theorem qN{p:Pm}{D:Dl}:∀{l:List U}{b o:Nat},au p D l (some ⟨b,o,none⟩)→∃L,aX L=l∧eZ p D L∧∀j v,(cq L)[j]?=some v→p b (o+j)=some v
 | [],b,o,_=>⟨[],rfl,(fun _ c=>by cases c),fun j v a=>by simp[cq]at a⟩
 |e::r,b,o,h=>by
  simp only[au]at h;obtain⟨s,t,ha,⟨a',c',h7,hu⟩,hr⟩:=h;simp only[Option.some.injEq,Addr.mk.injEq]at ha;obtain⟨rfl,rfl,_⟩:=ha;obtain⟨L,d,f,g⟩:=qN hr;refine⟨(e,a',c')::L,by simp only[aX,List.map_cons]at*;rw[d],fun x c=> ?_,fun j v a=> ?_⟩
  ·rcases List.mem_cons.1 c with rfl|c
   ·exact hu
   ·exact f x c
  ·rw[jN]at a
   by_cases i:j<7
   ·rw[List.getElem?_append_left (by simp[bL];omega)]at a
    obtain⟨k,h1,h2,h3,m,n,q⟩:=h7;match j,i with
    |0,_=>cases a;exact k
    |1,_=>cases a;exact h1
    |2,_=>cases a;exact h2
    |3,_=>cases a;exact h3
    |4,_=>cases a;exact m
    |5,_=>cases a;exact n
    |6,_=>cases a;exact q
   ·rw[List.getElem?_append_right (by simp[bL];omega)]at a
    have:=g (j- 7) v (by simpa [bL]using a);rwa [show o+7+(j- 7)=o+j by omega]at this
def RL(p:Pm)(D:Dl)(l:List U)(w:World)(e:Ending)(b:World):Prop:=
 ∃q a n c,e= .returned (.slice a n c)∧Hid (n=l.length)∧aL p q w.heap.size∧KW q b∧au q D l a∧Below w.heap.size w b
def Names(NS:List (List UInt8))(u:U):Prop:=(∀e,∀_:e∈u.es,e.nm.toList∈NS∧Names NS e)∧∀e,∀_:e∈u.un,Names NS e
termination_by u.sz
decreasing_by
 ·exact U.az ‹_›
 ·exact U.iU ‹_›
theorem Names.es{NS:List (List UInt8)}{u e:U}(h:Names NS u)(he:e∈u.es):e.nm.toList∈NS∧Names NS e:=by rw[Names]at h;exact h.1 e he
theorem Names.un{NS:List (List UInt8)}{u e:U}(h:Names NS u)(he:e∈u.un):Names NS e:=by rw[Names]at h;exact h.2 e he
theorem qO{NS:List (List UInt8)}{u:U}(h1:u.es= [])(h2:u.un= []):Names NS u:=by
 rw[Names,h1,h2];exact⟨fun e he=>(by cases he),fun e he=>(by cases he)⟩
theorem Names.bare{NS:List (List UInt8)}:∀{u:U},Names NS u→Names NS (bare u):=by
 intro u;induction u using U.bg with
 |_ u ih=>
  intro h;rw[TS.bare];split
  ·split
   ·rename_i e r he
    exact ih e (U.az (by rw[he];simp)) (h.es (by rw[he];simp)).2
   ·exact h
  ·split
   ·exact qO rfl rfl
   ·exact h
theorem Names.under{NS:List (List UInt8)}{u:U}(h:Names NS u):Names NS (under u):=by
 have a:=h.bare;rw[TS.under];split
 ·cases hu:(TS.bare u).un with
  |nil=>exact a
  |cons x r=>exact a.un (by rw[hu];simp)
 ·exact a
theorem Names.cf{NS:List (List UInt8)}:∀{u:U},Names NS u→∀m∈an u,m.nm.toList∈NS∧Names NS m:=by
 intro u;induction u using U.bg with
 |_ u ih=>
  intro h m hm;have hu:=h.under;rcases(gQ hm).2 with hm|⟨e,he,_,hm⟩
  ·exact hu.es (List.mem_of_mem_take hm)
  ·have a:=List.mem_of_mem_drop he
   have h1:=U.az a;have h2:=dn u;exact ih e (by omega) (hu.es a).2 m hm
theorem lQ{α:Type} [DecidableEq α]:∀{l r:List α},l.Nodup→(∀x∈l,x∈r)→l.length≤r.length
 | [],r,_,_=>Nat.zero_le _
 |a::l,r,b,c=>by
  have ha:=c a List.mem_cons_self;have:=lQ (l:=l) (r:=r.erase a) (List.nodup_cons.1 b).2 fun x d=>
   (List.mem_erase_of_ne (fun e=>(List.nodup_cons.1 b).1 (by rw[←e];exact d))).2 (c x (List.mem_cons_of_mem _ d))
  rw[List.length_erase_of_mem ha]at this;have:=List.length_pos_of_mem ha;simp only[List.length_cons];omega
theorem jd{NS:List (List UInt8)}{l:List U}(h:cZ l)(d:∀m∈l,m.nm.toList∈NS):l.length≤NS.length:=by
 have h1:(l.map fun m=>m.nm.toList).Nodup:=List.pairwise_map.2 (h.imp fun{a b} c e=>by rw[fV.2 e]at c;cases c);have:=lQ h1 (r:=NS) fun x f=>by
  obtain⟨m,hm,rfl⟩:=List.mem_map.1 f;exact d m hm
 simpa using this
theorem jO{w:World}{B:Nat}{e:TypeId}{size:Nat}{v:Value}{n:Nat}{xs:List Value}(h:w.ownsRow B e size v n xs)(k:0<n):
 ∃g cap,v= .slice (some ⟨g,0,none⟩) n cap∧B≤g∧g<w.heap.size∧n≤cap∧cap≤maxLen∧(∀j u,xs[j]?=some u→w.cell? ⟨g,j,none⟩=some u)∧∀j,j<xs.length→w.frozen? ⟨g,j,none⟩=false:=by
 rcases h.2 with⟨_,l⟩|⟨g,cap,cur,rfl,f,d,a,b,i,c⟩
 ·omega
 ·refine⟨g,cap,rfl,f,(Array.getElem?_eq_some_iff.1 d).1,a,b,fun j u hu=> ?_,fun j _=> ?_⟩
  ·have:=h.cells (g:=g) rfl j u hu
   rwa [show(⟨g,0,none⟩:Addr).add j=⟨g,j,none⟩ by unfold Addr.add;split<;>simp_all]at this
  ·simp[World.frozen?,d]
theorem je{w:World}{B a:Nat}{e:TypeId}{size:Nat}{v:Value}{n:Nat}{xs:List Value}(h:w.ownsRow B e size v n xs)(b:a≤B):w.ownsRow a e size v n xs:=
 ⟨h.1,h.2.imp id fun⟨g,cap,cur,h1,h2,h3⟩=>⟨g,cap,cur,h1,Nat.le_trans b h2,h3⟩⟩
theorem bD{w a:World}{B:Nat}{e:TypeId}{size:Nat}{v:Value}{n:Nat}{xs:List Value}(h:w.ownsRow B e size v n xs)(b:Below w.heap.size w a):a.ownsRow B e size v n xs:=
 ⟨h.1,h.2.imp id fun⟨g,cap,cur,h1,h2,h3,c⟩=>⟨g,cap,cur,h1,h2,by rw[b.block g (Array.getElem?_eq_some_iff.1 h3).1];exact h3,c⟩⟩
end TS
namespace Go.Proofs.YtkfaiocajcjomaaGreatDoor
open Go.RowKit TS
theorem y9(a:Addr)(w:World):(method 478 91 (.pointer (some a)) "Underlying").run Tryz.prog w= .ok (282,.pointer (some a)) w:=by kernel_rfl
theorem y_(a:Addr)(w:World):(nilAhead 478 91 (.pointer (some a)) "Underlying").run Tryz.prog w= .ok (some false) w:=by kernel_rfl
theorem za(a:Addr)(w:World):(method 478 56 (.pointer (some a)) "Underlying").run Tryz.prog w= .ok (275,.pointer (some a)) w:=by kernel_rfl
theorem zc(a:Addr)(w:World):(nilAhead 478 56 (.pointer (some a)) "Underlying").run Tryz.prog w= .ok (some false) w:=by kernel_rfl
theorem zd(a:Addr)(w:World):(method 478 128 (.pointer (some a)) "Underlying").run Tryz.prog w= .ok (286,.pointer (some a)) w:=by kernel_rfl
theorem ze(a:Addr)(w:World):(nilAhead 478 128 (.pointer (some a)) "Underlying").run Tryz.prog w= .ok (some false) w:=by kernel_rfl
theorem zf(a:Addr)(w:World):(method 478 94 (.pointer (some a)) "Underlying").run Tryz.prog w= .ok (283,.pointer (some a)) w:=by kernel_rfl
theorem zg(a:Addr)(w:World):(nilAhead 478 94 (.pointer (some a)) "Underlying").run Tryz.prog w= .ok (some false) w:=by kernel_rfl
theorem zh(a:Addr)(w:World):(method 478 130 (.pointer (some a)) "Underlying").run Tryz.prog w= .ok (288,.pointer (some a)) w:=by kernel_rfl
theorem zj(a:Addr)(w:World):(nilAhead 478 130 (.pointer (some a)) "Underlying").run Tryz.prog w= .ok (some false) w:=by kernel_rfl
theorem zl(a:Addr)(w:World):(method 478 132 (.pointer (some a)) "Underlying").run Tryz.prog w= .ok (290,.pointer (some a)) w:=by kernel_rfl
theorem zm(a:Addr)(w:World):(nilAhead 478 132 (.pointer (some a)) "Underlying").run Tryz.prog w= .ok (some false) w:=by kernel_rfl
theorem zn(a:Addr)(w:World):(method 478 134 (.pointer (some a)) "Underlying").run Tryz.prog w= .ok (292,.pointer (some a)) w:=by kernel_rfl
theorem zo(a:Addr)(w:World):(nilAhead 478 134 (.pointer (some a)) "Underlying").run Tryz.prog w= .ok (some false) w:=by kernel_rfl
theorem zp(a:Addr)(w:World):(method 478 136 (.pointer (some a)) "Underlying").run Tryz.prog w= .ok (294,.pointer (some a)) w:=by kernel_rfl
theorem zq(a:Addr)(w:World):(nilAhead 478 136 (.pointer (some a)) "Underlying").run Tryz.prog w= .ok (some false) w:=by kernel_rfl
theorem zs(a:Addr)(w:World):(method 478 138 (.pointer (some a)) "Underlying").run Tryz.prog w= .ok (296,.pointer (some a)) w:=by kernel_rfl
theorem zu(a:Addr)(w:World):(nilAhead 478 138 (.pointer (some a)) "Underlying").run Tryz.prog w= .ok (some false) w:=by kernel_rfl
theorem zw(a:Addr)(w:World):(method 478 150 (.pointer (some a)) "Underlying").run Tryz.prog w= .ok (297,.pointer (some a)) w:=by kernel_rfl
theorem zx(a:Addr)(w:World):(nilAhead 478 150 (.pointer (some a)) "Underlying").run Tryz.prog w= .ok (some false) w:=by kernel_rfl
theorem zy(a:Addr)(w:World):(method 478 177 (.pointer (some a)) "Underlying").run Tryz.prog w= .ok (299,.pointer (some a)) w:=by kernel_rfl
theorem zA(a:Addr)(w:World):(nilAhead 478 177 (.pointer (some a)) "Underlying").run Tryz.prog w= .ok (some false) w:=by kernel_rfl
theorem zB(a:Addr)(w:World):(method 478 32 (.pointer (some a)) "Underlying").run Tryz.prog w= .ok (273,.pointer (some a)) w:=by kernel_rfl
theorem zC(a:Addr)(w:World):(nilAhead 478 32 (.pointer (some a)) "Underlying").run Tryz.prog w= .ok (some false) w:=by kernel_rfl
def b_(w:World)(T:TypeId)(b:Nat)(r:Value):Prop:=∃K fn c,Tryz.prog.funcs[K]?=some fn∧(fn.name== "runtime.NumGoroutine")=false∧fn.body=some c∧(∀W:World,(method 478 T (.pointer (some ⟨b,0,none⟩)) "Underlying").run Tryz.prog W= .ok (K,.pointer (some ⟨b,0,none⟩)) W)∧
 (∀W:World,(nilAhead 478 T (.pointer (some ⟨b,0,none⟩)) "Underlying").run Tryz.prog W= .ok (some false) W)∧Calls Tryz.prog K #[.pointer (some ⟨b,0,none⟩)] w fun e a=>e= .returned r∧w=a
theorem zD(b:Nat)(w:World):b_ w 91 b (.iface 91 (.pointer (some ⟨b,0,none⟩))):=⟨_,_,_,Tryz.func282,by kernel_rfl,rfl,fun W=>y9 _ W,fun W=>y_ _ W,yp _ w⟩
theorem zE(b:Nat)(w:World):b_ w 94 b (.iface 94 (.pointer (some ⟨b,0,none⟩))):=⟨_,_,_,Tryz.func283,by kernel_rfl,rfl,fun W=>zf _ W,fun W=>zg _ W,yq _ w⟩
theorem zF(b:Nat)(w:World):b_ w 130 b (.iface 130 (.pointer (some ⟨b,0,none⟩))):=⟨_,_,_,Tryz.func288,by kernel_rfl,rfl,fun W=>zh _ W,fun W=>zj _ W,yu _ w⟩
theorem mI(b:Nat)(w:World):b_ w 132 b (.iface 132 (.pointer (some ⟨b,0,none⟩))):=⟨_,_,_,Tryz.func290,by kernel_rfl,rfl,fun W=>zl _ W,fun W=>zm _ W,yw _ w⟩
theorem zG(b:Nat)(w:World):b_ w 134 b (.iface 134 (.pointer (some ⟨b,0,none⟩))):=⟨_,_,_,Tryz.func292,by kernel_rfl,rfl,fun W=>zn _ W,fun W=>zo _ W,yx _ w⟩
theorem zH(b:Nat)(w:World):b_ w 136 b (.iface 136 (.pointer (some ⟨b,0,none⟩))):=⟨_,_,_,Tryz.func294,by kernel_rfl,rfl,fun W=>zp _ W,fun W=>zq _ W,yy _ w⟩
theorem zI(b:Nat)(w:World):b_ w 138 b (.iface 138 (.pointer (some ⟨b,0,none⟩))):=⟨_,_,_,Tryz.func296,by kernel_rfl,rfl,fun W=>zs _ W,fun W=>zu _ W,yz _ w⟩
theorem zJ(b:Nat)(w:World):b_ w 150 b (.iface 150 (.pointer (some ⟨b,0,none⟩))):=⟨_,_,_,Tryz.func297,by kernel_rfl,rfl,fun W=>zw _ W,fun W=>zx _ W,yA _ w⟩
theorem zK(b:Nat)(w:World):b_ w 177 b (.iface 177 (.pointer (some ⟨b,0,none⟩))):=⟨_,_,_,Tryz.func299,by kernel_rfl,rfl,fun W=>zy _ W,fun W=>zA _ W,yC _ w⟩
theorem zL(b:Nat)(w:World):b_ w 32 b (.iface 32 (.pointer (some ⟨b,0,none⟩))):=⟨_,_,_,Tryz.func273,by kernel_rfl,rfl,fun W=>zB _ W,fun W=>zC _ W,yo _ w⟩
theorem oU(b:Nat)(t:TypeId)(a:Option Addr)(w:World)(c:w.cell? ⟨b,5,none⟩=some (.int .u32 15))(d:w.cell? ⟨b,6,none⟩=some (.iface t (.pointer a)))(h7:w.cell? ⟨b,7,none⟩=some (.iface t (.pointer a))):
 b_ w 56 b (.iface t (.pointer a)):=⟨_,_,_,Tryz.func275,by kernel_rfl,rfl,fun W=>za _ W,fun W=>zc _ W,yP b .nilIface t a w c d h7⟩
theorem zM(b c:Nat)(t:TypeId)(r:Value)(w:World)(h:w.cell? ⟨b,3,none⟩=some (.iface t (.pointer (some ⟨c,0,none⟩))))(i:b_ w t c r):
 Calls Tryz.prog 286 #[.pointer (some ⟨b,0,none⟩)] w fun e d=>e= .returned r∧w=d:=by
 obtain⟨K,fn,c',f,a,g,hm,l,j⟩:=i;have k:=fun args w=>Go.MuLone.run_callFunc_enter f a g args w;clear f a g;go_enter Tryz.func286,Tryz.ntmps286;go_wp2_with fail
 refine(r9 b _ _ _ h).mono ?_;rintro e d ⟨rfl,rfl⟩;go_wp2_with fail
 refine j.mono ?_;rintro e d ⟨rfl,rfl⟩;go_wp2_with fail
 go_ret;exact⟨rfl,rfl⟩
theorem zN(b c:Nat)(t:TypeId)(r:Value)(w:World)(h:w.cell? ⟨b,3,none⟩=some (.iface t (.pointer (some ⟨c,0,none⟩))))(a:b_ w t c r):b_ w 128 b r:=
 ⟨_,_,_,Tryz.func286,by kernel_rfl,rfl,fun W=>zd _ W,fun W=>ze _ W,zM b c t r w h a⟩
theorem sm(b:Nat)(pk:Option Addr)(s:ByteArray)(w:World)(h:w.cell? ⟨b,0,none⟩=some (.pointer pk)):
 Calls Tryz.prog 42 #[.pointer (some ⟨b,0,none⟩),.string s] w (Made #[.int .i64 0,.pointer pk,.string s,.nilIface] 120 w):=by
 go_enter Tryz.func42,Tryz.ntmps42;go_wp2_with fail
 refine(oM _ _ _ _).mono ?_;rintro e a ⟨rfl,rfl⟩;go_wp2_with fail
 go_ret;exact⟨rfl,rfl⟩
end Go.Proofs.YtkfaiocajcjomaaGreatDoor
namespace TS
open Go
def sn(p:Pm):Prop:=∀c:Nat,65≤c→c≤90→p 5 c=some (.int .u8 160)
def bu(w:World):Prop:=∀c:Nat,65≤c→c≤90→w.cell? ⟨5,c,none⟩=some (.int .u8 160)
theorem bu.drewN{w:World}(h:bu w)(n:Nat):bu (w.drewN n):=fun c h1 h2=>by simpa using h c h1 h2
theorem sn.world{p:Pm}{w:World}(h:sn p)(hw:KW p w):bu w:=fun c h1 h2=>hw _ _ _ (h c h1 h2)
theorem sq{s:ByteArray}(h:aO s=true):∃(c:UInt8)(r:List UInt8),s.data.toList=c::r∧65≤c.toNat∧c.toNat≤90:=by
 unfold aO at h;cases a:s.data.toList with
 |nil=>rw[a]at h;cases h
 |cons c r=>
  rw[a]at h;simp only[jD,ko,Bool.and_eq_true,decide_eq_true_eq]at h;obtain⟨⟨⟨h1,h2⟩,_⟩,_⟩:=h;exact⟨c,r,rfl,by simpa [UInt8.le_iff_toNat_le]using h1,by simpa [UInt8.le_iff_toNat_le]using h2⟩
end TS
namespace Go.Proofs.YtkfaiocajcjomaaGreatDoor
open Go.RowKit TS
theorem zO(s:ByteArray)(c:UInt8)(r:List UInt8)(b:s.data.toList=c::r)(h1:65≤c.toNat)(h2:c.toNat≤90)(w:World):
 Calls Tryz.prog 188 #[.string s] w fun e h=>e= .returned (.tuple #[.int .i32 c.toNat,.int .i64 1])∧w=h:=by
 have d:s.data.toList[0]?=some c:=by rw[b];rfl
 have a:0<s.size:=by
  rw[Lib.size_eq];exact(List.getElem?_eq_some_iff.1 d).1
 have i:s.toList.isEmpty=false:=by rw[Lib.toList_data,b];rfl
 have f:(s.toList= [])=False:=by rw[Lib.toList_data,b];simp
 have j:s[0]'a=c:=by
  have:=Lib.data_getElem? s 0 a;rw[d]at this;exact(Option.some.inj this).symm
 have g:(0:Int)<(s.size:Int):=by omega
 have k:(c.toNat:Int)<128:=by omega
 clear b d;go_enter Tryz.func188,Tryz.ntmps188;go_wp2_with fail
 go_ret2;exact⟨rfl,rfl⟩
theorem zP(c:Nat)(h1:65≤c)(h2:c≤90)(w:World)(hT:bu w):Calls Tryz.prog 234 #[.int .i32 c] w fun e a=>e= .returned (.bool true)∧w=a:=by
 have b:=hT c h1 h2;have h3:(c:Int)≤255:=by omega
 have d:(c:Int)<256:=by omega
 have f:bits .and .u8 160 96=32:=by decide
 clear hT;go_enter Tryz.func234,Tryz.ntmps234;go_wp2_with fail
 go_ret;exact⟨rfl,rfl⟩
theorem mJ(s:ByteArray)(d:aO s=true)(w:World)(hT:bu w):Calls Tryz.prog 211 #[.string s] w fun e a=>e= .returned (.bool true)∧w=a:=by
 obtain⟨c,r,f,h1,h2⟩:=sq d;have g:=zO s c r f h1 h2;have h:=zP c.toNat h1 h2;have b:=Lib.hid hT;clear f h1 h2 d hT;go_enter Tryz.func211,Tryz.ntmps211;go_wp2_with fail
 refine(g _).mono ?_;rintro e a ⟨rfl,rfl⟩;go_wp2_with fail
 refine(h _ b.out).mono ?_;rintro e a ⟨rfl,rfl⟩;go_wp2_with fail
 go_ret;exact⟨rfl,rfl⟩
theorem zQ(q:Option Addr)(s:ByteArray)(b:aO s=true)(w:World)(hT:bu w):Calls Tryz.prog 228 #[.pointer q,.string s] w fun e c=>e= .returned (.string s)∧w=c:=by
 have d:=mJ s b;have a:=Lib.hid hT;clear b hT;go_enter Tryz.func228,Tryz.ntmps228;go_wp2_with fail
 refine(d _ a.out).mono ?_;rintro e c ⟨rfl,rfl⟩;go_wp2_with fail
 go_ret;exact⟨rfl,rfl⟩
theorem mK(b:Nat)(q:Option Addr)(s:ByteArray)(a:aO s=true)(w:World)(hT:bu w)(h1:w.cell? ⟨b,1,none⟩=some (.pointer q))(h2:w.cell? ⟨b,2,none⟩=some (.string s)):
 Calls Tryz.prog 197 #[.pointer (some ⟨b,0,none⟩)] w fun e c=>e= .returned (.string s)∧∃n,c=w.drewN n:=by
 have d:=Lib.hid fun n=>zQ q s a (w.drewN n) (hT.drewN n);clear a hT;go_enter Tryz.func197,Tryz.ntmps197;go_wp2_with fail
 go_quiet (first|(go_at_call 228;exact Calls.quiet_of_same ((d.out _).mono (by rintro e c ⟨he,hw⟩;exact⟨he,hw.symm⟩))))
 go_wp2_with fail
 go_ret;exact⟨rfl,_,rfl⟩
end Go.Proofs.YtkfaiocajcjomaaGreatDoor
namespace TS
open Go Go.RowKit
structure Kept(X:Nat→Prop)(w a:World):Prop where
 os:a.os=w.os
 tape:a.tape=w.tape
 output:a.output=w.output
 size:w.heap.size≤a.heap.size
 block:∀k,k<w.heap.size→¬X k→a.heap[k]?=w.heap[k]?
section
variable {X Y:Nat→Prop} {w w1 w2:World}
theorem Kept.refl(X:Nat→Prop)(w:World):Kept X w w:=⟨rfl,rfl,rfl,Nat.le_refl _,fun _ _ _=>rfl⟩
theorem Kept.of(h:Below w.heap.size w w1):Kept X w w1:=⟨h.os,h.tape,h.output,h.size,fun k hk _=>h.block k hk⟩
theorem Kept.trans(h:Kept X w w1)(k:Kept Y w1 w2)(a:∀b,b<w.heap.size→Y b→X b):Kept X w w2:=
 ⟨k.os.trans h.os,k.tape.trans h.tape,k.output.trans h.output,Nat.le_trans h.size k.size,fun b c d=>(k.block b (Nat.lt_of_lt_of_le c h.size) fun e=>d (a b c e)).trans (h.block b c d)⟩
theorem Kept.mono(h:Kept X w w1)(a:∀b,b<w.heap.size→X b→Y b):Kept Y w w1:=⟨h.os,h.tape,h.output,h.size,fun b c d=>h.block b c fun e=>d (a b c e)⟩
theorem Kept.below(h:Kept X w w1)(k:Below w1.heap.size w1 w2):Kept X w w2:=h.trans (Kept.of (X:=fun _=>False) k) fun _ _ h=>h.elim
theorem Kept.grown{row:Option Nat}(h:Kept X w w1)(a:w1.grownBy w2 row)(hr:∀k,row=some k→k<w.heap.size→X k):Kept X w w2:=
 h.trans (Y:=fun k=>row=some k) ⟨a.os,a.tape,a.output,a.size,fun k hk c=>a.block k hk fun e=>c e.symm⟩ fun b d e=>hr b e d
theorem Kept.setCell(h:Kept X w w1){a:Addr}(ha:a.block<w.heap.size→X a.block)(v:Value):Kept X w (w1.setCell a v):=
 h.trans (Y:=fun k=>k=a.block) ⟨rfl,rfl,rfl,by simp[World.setCell],fun k _ c=>Below.heap_setCell _ _ _ _ c⟩ fun b d e=>e▸ha (e▸d)
theorem Kept.alloc(h:Kept X w w1)(o:Obj):Kept X w (w1.alloc o):=h.below ((Below.refl _ _).alloc (Nat.le_refl _) o)
theorem Kept.cell(h:Kept X w w1){b o:Nat}(a:b<w.heap.size)(c:¬X b):w1.cell? ⟨b,o,none⟩=w.cell? ⟨b,o,none⟩:=World.cell?_of_block (w:=w) (h.block b a c)
theorem Kept.frozen(h:Kept X w w1){b o:Nat}(a:b<w.heap.size)(c:¬X b):w1.frozen? ⟨b,o,none⟩=w.frozen? ⟨b,o,none⟩:=World.frozen?_of_block (w:=w) (h.block b a c)
theorem KW.kept{p:Pm}(h:KW p w)(k:Kept X w w1)(c:∀b o v,p b o=some v→¬X b):KW p w1:=fun b o v a=>by rw[k.cell (h.lt a) (c b o v a)];exact h b o v a
theorem dO{B:Nat}{e:TypeId}{size:Nat}{v:Value}{n:Nat}{xs:List Value}(h:w.ownsRow B e size v n xs)(k:Kept X w w1)(a:∀g,v.ownBlock=some g→¬X g):w1.ownsRow B e size v n xs:=
 ⟨h.1,h.2.imp id fun⟨g,cap,cur,h1,h2,h3,b⟩=>⟨g,cap,cur,h1,h2,by rw[k.block g (Array.getElem?_eq_some_iff.1 h3).1 (a g (by rw[h1];rfl))];exact h3,b⟩⟩
theorem eO{B:Nat}{e:TypeId}{size:Nat}{v:Value}{n:Nat}{xs:List Value}(h:w.ownsRow B e size v n xs){a:Addr}(ha:v.ownBlock≠some a.block)(u:Value):(w.setCell a u).ownsRow B e size v n xs:=
 dO (X:=fun k=>k=a.block) h ((Kept.refl (fun k=>k=a.block) w).setCell (a:=a) (fun _=>rfl) u) fun g b e=>ha (e▸b)
end
theorem bd{w:World}{B:Nat}{e:TypeId}{size:Nat}{v:Value}{n:Nat}{xs:List Value}(h:w.ownsRow B e size v n xs):∃a c,v= .slice a n c:=by
 rcases h.2 with⟨rfl,rfl⟩|⟨g,cap,cur,rfl,_⟩
 ·exact⟨_,_,rfl⟩
 ·exact⟨_,_,rfl⟩
theorem dP(w:World)(x:Value)(T:TypeId):∀j u,[x][j]?=some u→(w.alloc (.cells #[x] T)).cell? ((⟨w.heap.size,0,none⟩:Addr).add j)=some u:=by
 intro j u a;rw[show(⟨w.heap.size,0,none⟩:Addr).add j=⟨w.heap.size,j,none⟩ by unfold Addr.add;split<;>simp_all,World.cell?_alloc_new];simpa using a
theorem one_one{x:Value}(h:x.oneCell'=true):∀v∈ [x],v.oneCell'=true:=by intro v a;simp at a;subst a;exact h
end TS
namespace Go.Proofs.YtkfaiocajcjomaaGreatDoor
open Go.RowKit TS
theorem sr:(Tryz.prog.info? 99).map (fun i=>(i.zero,i.size,i.bytes))=some (some (.pointer none),1,8):=by kernel_rfl
theorem ss:(Tryz.prog.info? 88).map (fun i=>(i.zero,i.size,i.bytes))=some (some (.pointer none),1,8):=by kernel_rfl
theorem oV:(Tryz.prog.info? 179).map (fun i=>(i.zero,i.size,i.bytes))=some (some (.pointer none),1,8):=by kernel_rfl
end Go.Proofs.YtkfaiocajcjomaaGreatDoor
namespace TS
open Go Go.RowKit Go.ChangeMaps
def Plain(w:World)(b:Nat):Prop:=∃cs T,w.heap[b]?=some (.cells cs T (0,0))
theorem iA{w:World}{b:Nat}(h:Plain w b)(a:Addr)(v:Value):Plain (w.setCell a v) b:=by
 obtain⟨cs,T,c⟩:=h;by_cases e:b=a.block
 ·subst e
  refine⟨if a.spot.isSome then cs else cs.setIfInBounds a.off v,T,?_⟩;unfold World.setCell;simp only[Array.getElem?_modify,if_pos rfl,c];rfl
 ·exact⟨cs,T,by rw[Below.heap_setCell _ _ _ _ e];exact c⟩
structure KeyLaw(P:Program)(kt:TypeId)(K:World→Value→Prop):Prop where
 check:∀(w:World)(em:Bool){v:Value},K w v→(Instr.checkKey em 10000 kt v).run P w= .ok () w
 find:∀(w:World){x:Value},K w x→∀es:List MapEntry,(∀e∈es,K w e.key)→
  ((Instr.findKey kt x es).run P w= .ok none w∧∀e∈es,e.key≠x)∨∃j e,(Instr.findKey kt x es).run P w= .ok (some (j,e.val)) w∧es[j]?=some e∧e.key=x
 stays:∀(w:World){v:Value},K w v→(Instr.keyThatStays v v).run P w= .ok v w
def bV(K:World→Value→Prop)(w:World)(b:Nat)(F:Value→Option Value):Prop:=
 ∃es clock,w.heap[b]?=some (.map es clock)∧(∀e∈es.toList,K w e.key∧F e.key=some e.val)∧(∀x v,F x=some v→∃e∈es.toList,e.key=x)∧es.toList.Pairwise fun x y=>x.key≠y.key
section
variable {P:Program} {kt:TypeId} {K:World→Value→Prop} {w w':World} {b:Nat} {F:Value→Option Value}
theorem iB(K:World→Value→Prop)(w:World):bV K (w.alloc (.map #[] 0)) w.heap.size fun _=>none:=
 ⟨#[],0,(MapKept.heap_alloc w _).1,by simp,by simp,by simp⟩
theorem bV.lt(h:bV K w b F):b<w.heap.size:=by obtain⟨es,clock,a,_⟩:=h;exact(Array.getElem?_eq_some_iff.1 a).1
theorem bV.of(h:bV K w b F)(a:w'.heap[b]?=w.heap[b]?)(c:∀v,K w v→K w' v):bV K w' b F:=by
 obtain⟨es,clock,d,h1,h2,h3⟩:=h;exact⟨es,clock,a.trans d,fun e he=>⟨c _ (h1 e he).1,(h1 e he).2⟩,h2,h3⟩
theorem bV.look(h:bV K w b F)(L:KeyLaw P kt K){t e:TypeId}(f:P.underlying t=some (.map kt e)){z:Value}(i:(zeroValue e).run P w= .ok z w){x:Value}(a:K w x):
 (Instr.lookup t (.map (some b)) x false).run P w= .ok ((F x).getD z) w:=by
 obtain⟨es,clock,g,h1,h2,_⟩:=h;rcases L.find w a es.toList (fun e he=>(h1 e he).1)with⟨c,k⟩|⟨j,d,c,l,hk⟩
 ·have hF:F x=none:=by
   cases hF:F x with
   |none=>rfl
   |some v=>obtain⟨d,he,hk⟩:=h2 x v hF;exact absurd hk (k d he)
  simp[Instr.lookup,run_underlying f,MapKept.run_getObj_map g,L.check w _ a,c,i,hF,Result.andThen]
 ·have:=(h1 d (List.mem_of_getElem? l)).2
  rw[hk]at this;simp[Instr.lookup,run_underlying f,MapKept.run_getObj_map g,L.check w _ a,c,this,Result.andThen]
def kW(K:World→Value→Prop):Prop:=∀(w W:World)(b:Nat)(es:Array MapEntry)(c:Nat),w.heap[b]?=some (.map es c)→(∀k,k≠b→W.heap[k]?=w.heap[k]?)→∀y,K w y→K W y
theorem bV.store(h:bV K w b F)(L:KeyLaw P kt K)(U:kW K){t e:TypeId}(R:P.underlying t=some (.map kt e)){x:Value}(v:Value)(B:K w x):
 ∃w',(Instr.mapUpdate t (.map (some b)) x v).run P w= .ok () w'∧(∀C:Value→Option Value,(∀y,y≠x→C y=F y)→C x=some v→bV K w' b C)∧w.grownBy w' (some b):=by
 obtain⟨es,clock,p,h1,h2,h3⟩:=h;have D:∀o,w.grownBy (ChangeMaps.setBlock w b o) (some b):=fun o=>⟨rfl,rfl,rfl,by simp[ChangeMaps.setBlock],fun i _ hi=>heap_setBlock_other p _ (fun e=>hi (by rw[e]))⟩
 have q:∀o y,K w y→K (ChangeMaps.setBlock w b o) y:=fun o y r=>U w _ b es clock p (fun k hk=>heap_setBlock_other p _ hk) y r;rcases L.find w B es.toList (fun e he=>(h1 e he).1)with⟨J,S⟩|⟨j,M,J,H,hk⟩
 ·refine⟨ChangeMaps.setBlock w b (.map (es.push ⟨x,v,clock⟩) (clock+1)),?_,fun C l s=>⟨_,_,heap_setBlock_same p _,fun e he=> ?_,fun y u r=> ?_,?_⟩,D _⟩
  ·simp[Instr.mapUpdate,run_underlying R,MapKept.run_getObj_map p,L.check w false B,J,MapKept.run_setObj_map _ p,Result.andThen,ChangeMaps.setBlock]
  ·simp only[Array.toList_push,List.mem_append,List.mem_singleton]at he
   rcases he with he|rfl
   ·exact⟨q _ _ (h1 e he).1,by rw[l _ (S e he)];exact(h1 e he).2⟩
   ·exact⟨q _ _ B,s⟩
  ·by_cases g:y=x
   ·exact⟨⟨x,v,clock⟩,by simp,g.symm⟩
   ·rw[l y g]at r
    obtain⟨e,he,hk⟩:=h2 y u r;exact⟨e,by simp[Array.mem_toList_iff.1 he],hk⟩
  ·simp only[Array.toList_push]
   rw[List.pairwise_append];exact⟨h3,List.pairwise_singleton _ _,fun a ha c T=>by simp at T;subst T;exact S a ha⟩
 ·have m:=(List.getElem?_eq_some_iff.1 H).1
  have z:=(List.getElem?_eq_some_iff.1 H).2;have N:es[j]?=some M:=by rw[←Array.getElem?_toList];exact H
  have n:(es.modify j fun e=> {e with key:=x,val:=v}).toList=es.toList.set j {M with key:=x,val:=v}:=by
   rw[Array.toList_modify];exact modify_eq_set _ _ _ _ H
  have d:∀i(hi:i<es.toList.length),i≠j→(es.toList[i]).key≠x:=fun i hi V=>by
   have I:=List.pairwise_iff_getElem.1 h3;intro E;rcases Nat.lt_or_ge i j with O|W
   ·exact I i j hi m O (by rw[E,z,hk])
   ·exact I j i m hi (by omega) (by rw[E,z,hk])
  refine⟨ChangeMaps.setBlock w b (.map (es.modify j fun e=> {e with key:=x,val:=v}) clock),?_,fun C l s=>⟨_,_,heap_setBlock_same p _,fun e he=> ?_,fun y u r=> ?_,?_⟩,D _⟩
  ·simp[Instr.mapUpdate,run_underlying R,MapKept.run_getObj_map p,L.check w false B,J,N,hk,L.stays w B,MapKept.run_setObj_map _ p,Result.andThen,ChangeMaps.setBlock]
  ·rw[n]at he
   obtain⟨i,hi,rfl⟩:=List.getElem_of_mem he;simp only[List.length_set]at hi;rw[List.getElem_set];split
   ·exact⟨q _ _ B,s⟩
   ·rename_i f
    have:=h1 _ (List.getElem_mem hi);exact⟨q _ _ this.1,by rw[l _ (d i hi fun e=>f e.symm)];exact this.2⟩
  ·rw[n]
   by_cases g:y=x
   ·exact⟨{M with key:=x,val:=v},by rw[List.mem_iff_getElem];exact⟨j,by simpa using m,by simp⟩,g.symm⟩
   ·rw[l y g]at r
    obtain⟨e,he,G⟩:=h2 y u r;obtain⟨i,hi,rfl⟩:=List.getElem_of_mem he;have f:j≠i:=fun e=>g (by subst e;rw[←G,z,hk]);exact⟨es.toList[i],by rw[List.mem_iff_getElem];exact⟨i,by simpa using hi,by rw[List.getElem_set_ne f]⟩,G⟩
  ·rw[n]
   rw[List.pairwise_iff_getElem];intro i k hi A Q;simp only[List.length_set]at hi A;have I:=List.pairwise_iff_getElem.1 h3 i k hi A Q;rw[List.getElem_set,List.getElem_set];split
   ·split
    ·omega
    ·rename_i f;exact fun e=>d k A (fun e=>f e.symm) e.symm
   ·split
    ·rename_i f _;exact d i hi fun e=>f e.symm
    ·exact I
end
theorem zR{P:Program}{kt:TypeId}(h:P.underlying kt=some .string):KeyLaw P kt fun _ v=> ∃s,v= .string s where
 check w em _ a:=by obtain⟨s,rfl⟩:=a;exact MapKept.run_checkKey h (d:= .string) (k:= .string s) trivial em 9999
 find w _ i es c:=by
  obtain⟨s,rfl⟩:=i;have f:∀x∈es,MapKept.IsKey .string x.key:=fun x g=>by obtain⟨m,e⟩:=c x g;rw[e];trivial
  rcases MapKept.findNow_spec (d:= .string) (k:= .string s) trivial es 0 f with⟨h1,h2⟩|⟨j,l,h1,h2,h3⟩
  ·exact Or.inl ⟨MapKept.run_findKey h h1,h2⟩
  ·exact Or.inr ⟨j,l,by simpa using MapKept.run_findKey h h1,h2,h3⟩
 stays w _ a:=by obtain⟨s,rfl⟩:=a;exact MapKept.run_keyThatStays (d:= .string) (k:= .string s) trivial
theorem su{P:Program}{kt:TypeId}{K:World→Value→Prop}{w:World}{x:Value}(f:∀y,K w y→(y=x∧(Op.equal kt x y).run P w= .ok true w)∨(y≠x∧(Op.equal kt x y).run P w= .ok false w)):∀(es:List MapEntry)(i:Nat),(∀e∈es,K w e.key)→
 ((Instr.findAsking kt x es i).run P w= .ok none w∧∀e∈es,e.key≠x)∨∃j e,(Instr.findAsking kt x es i).run P w= .ok (some (i+j,e.val)) w∧es[j]?=some e∧e.key=x:=by
 intro es;induction es with
 |nil=>exact fun i _=> .inl ⟨rfl,by simp⟩
 |cons e r ih=>
  intro i h;rcases f e.key (h e List.mem_cons_self)with⟨h1,h2⟩|⟨h1,h2⟩
  ·exact .inr ⟨0,e,by simp[Instr.findAsking,h2,Result.andThen],rfl,h1⟩
  ·rcases ih (i+1) (fun y a=>h y (List.mem_cons_of_mem _ a))with⟨c,d⟩|⟨j,g,c,d,k⟩
   ·exact .inl ⟨by simp[Instr.findAsking,h2,c,Result.andThen],fun y a=>by
     rcases List.mem_cons.1 a with rfl|a
     ·exact h1
     ·exact d y a⟩
   ·exact .inr ⟨j+1,g,by simp[Instr.findAsking,h2,c,Result.andThen];omega,by simpa using d,k⟩
def oW(w:World)(v:Value):Prop:=∃b,v= .pointer (some ⟨b,0,none⟩)∧Plain w b
theorem sv{P:Program}{kt m:TypeId}{j:TypeInfo}(g:P.underlying kt=some (.pointer m))(i:P.info? m=some j)(o:j.size≠0):KeyLaw P kt oW where
 check w em _ p:=by
  obtain⟨b,rfl,_⟩:=p;have h:∀n,(Instr.checkKey em (n+1) kt (.pointer (some ⟨b,0,none⟩))).run P w= .ok () w:=fun n=>by simp[Instr.checkKey,run_underlying g,Result.andThen]
  exact h 9999
 find w x t es f:=by
  obtain⟨b,rfl,cs,T,u⟩:=t;have v:∀y,oW w y→(y=(.pointer (some ⟨b,0,none⟩))∧(Op.equal kt (.pointer (some ⟨b,0,none⟩)) y).run P w= .ok true w)∨(y≠(.pointer (some ⟨b,0,none⟩))∧(Op.equal kt (.pointer (some ⟨b,0,none⟩)) y).run P w= .ok false w):=by
   rintro y ⟨c,rfl,z,T',A⟩;by_cases h:c=b
   ·subst h
    have h:∀d,(Op.equalIn (d+1) kt (.pointer (some ⟨c,0,none⟩)) (.pointer (some ⟨c,0,none⟩))).run P w= .ok true w:=fun d=>by simp[Op.equalIn,run_underlying g,Go.sizeOf,typeInfo,i,run_sameAddr_same]
    exact .inl ⟨rfl,h 9999⟩
   ·have l:∀d,(Op.equalIn (d+1) kt (.pointer (some ⟨b,0,none⟩)) (.pointer (some ⟨c,0,none⟩))).run P w= .ok false w:=fun d=>by
     simp[Op.equalIn,run_underlying g,Go.sizeOf,typeInfo,i,o,run_sameAddr_other w (a:=⟨b,0,none⟩) (b:=⟨c,0,none⟩) (fun e=>h (by cases e;rfl)) u A]
    exact .inr ⟨fun e=>h (by cases e;rfl),l 9999⟩
  match es,f with
  | [],_=>exact .inl ⟨by simp[Instr.findKey,run_underlying g,Instr.findNow,Result.andThen],by simp⟩
  |e::r,f=>
   have k:Instr.findNow (.pointer m) (.pointer (some ⟨b,0,none⟩)) (e::r) 0=none:=by simp[Instr.findNow,Instr.sameNow]
   rcases su v (e::r) 0 f with⟨q,s⟩|⟨j,B,q,s,C⟩
   ·exact .inl ⟨by simp[Instr.findKey,run_underlying g,k,q,Result.andThen],s⟩
   ·exact .inr ⟨j,B,by simp[Instr.findKey,run_underlying g,k,q,Result.andThen],s,C⟩
 stays w _ p:=by
  obtain⟨b,rfl,_⟩:=p;have h:∀n,Instr.sameBits (n+1) (.pointer (some ⟨b,0,none⟩)) (.pointer (some ⟨b,0,none⟩))=true:=fun n=>by simp[Instr.sameBits]
  have l:=h 9999;simp only[Nat.reduceAdd]at l;simp[Instr.keyThatStays,l]
def eD(P:Program)(w:World)(v:Value):Prop:=∃t a b i j,v= .iface t (.pointer (some ⟨b,0,none⟩))∧P.underlying t=some (.pointer a)∧P.info? t=some i∧i.comparable=true∧P.info? a=some j∧j.size≠0∧Plain w b
theorem zS{P:Program}{kt:TypeId}{ms:Array (String×TypeId)}(hi:P.underlying kt=some (.interface ms)):KeyLaw P kt (eD P) where
 check w em _ s:=by
  obtain⟨t,B,b,i,j,rfl,m,a,o,f,k,_⟩:=s;have h:∀n,(Instr.checkKey em (n+2) kt (.iface t (.pointer (some ⟨b,0,none⟩)))).run P w= .ok () w:=fun n=>by simp[Instr.checkKey,run_underlying hi,run_underlying m,typeInfo,a,o,Result.andThen]
  exact h 9998
 find w x E es g:=by
  obtain⟨t,B,b,i,j,rfl,m,a,o,f,k,cs,T,G⟩:=E;have H:∀y,eD P w y→(y=(.iface t (.pointer (some ⟨b,0,none⟩)))∧(Op.equal kt (.iface t (.pointer (some ⟨b,0,none⟩))) y).run P w= .ok true w)∨(y≠(.iface t (.pointer (some ⟨b,0,none⟩)))∧(Op.equal kt (.iface t (.pointer (some ⟨b,0,none⟩))) y).run P w= .ok false w):=by
   rintro y ⟨t',I,c,Q,R,rfl,J,p,L,C,D,M,T',u⟩;by_cases v:t=t'
   ·subst v
    by_cases h:c=b
    ·subst h
     exact .inl ⟨rfl,run_equalIn_iface_ptr_same w 9998 _ hi m a o f⟩
    ·exact .inr ⟨fun e=>h (by cases e;rfl),run_equalIn_iface_ptr_other w 9998 hi m a o f k (fun e=>h (by cases e;rfl)) G u⟩
   ·have q:∀d,(Op.equalIn (d+1) kt (.iface t (.pointer (some ⟨b,0,none⟩))) (.iface t' (.pointer (some ⟨c,0,none⟩)))).run P w= .ok false w:=fun d=>by simp[Op.equalIn,run_underlying hi,v]
    exact .inr ⟨fun e=>v (by cases e;rfl),q 9999⟩
  match es,g with
  | [],_=>exact .inl ⟨by simp[Instr.findKey,run_underlying hi,Instr.findNow,Result.andThen],by simp⟩
  |e::r,g=>
   have l:Instr.findNow (.interface ms) (.iface t (.pointer (some ⟨b,0,none⟩))) (e::r) 0=none:=by simp[Instr.findNow,Instr.sameNow]
   rcases su H (e::r) 0 g with⟨z,A⟩|⟨j,N,z,A,O⟩
   ·exact .inl ⟨by simp[Instr.findKey,run_underlying hi,l,z,Result.andThen],A⟩
   ·exact .inr ⟨j,N,by simp[Instr.findKey,run_underlying hi,l,z,Result.andThen],A,O⟩
 stays w _ s:=by
  obtain⟨t,B,b,i,j,rfl,_⟩:=s;have h:∀n,Instr.sameBits (n+2) (.iface t (.pointer (some ⟨b,0,none⟩))) (.iface t (.pointer (some ⟨b,0,none⟩)))=true:=fun n=>by simp[Instr.sameBits]
  have q:=h 9998;simp only[Nat.reduceAdd]at q;simp[Instr.keyThatStays,q]
theorem sw:kW fun _ v=> ∃s,v= .string s:=fun _ _ _ _ _ _ _ _ h=>h
theorem sy{w W:World}{b:Nat}{es:Array MapEntry}{c:Nat}(d:w.heap[b]?=some (.map es c))(hk:∀k,k≠b→W.heap[k]?=w.heap[k]?){x:Nat}(h:Plain w x):Plain W x:=by
 obtain⟨cs,T,a⟩:=h;exact⟨cs,T,by rw[hk x fun e=>by rw[e,d]at a;cases a];exact a⟩
theorem eP(P:Program):kW (eD P):=fun _ _ _ _ _ a hk _ ⟨t,c,b,i,j,e,h1,h2,h3,d,f,h⟩=>⟨t,c,b,i,j,e,h1,h2,h3,d,f,sy a hk h⟩
section
variable {P:Program} {kt:TypeId} {K:World→Value→Prop}
theorem dQ(w:World){ops:Array Oper}{rest:List Oper}{o:Oper}{a:Act}{Q:Exit→Act→World→Prop}(i:o.guard=none)(m x:Operand)(t:TypeId)(f:o.op=Op.lookup t m x false)
 (L:KeyLaw P kt K)(e:TypeId)(j:P.underlying t=some (.map kt e))(z:Value)(k:∀w,(zeroValue e).run P w= .ok z w)(b:Nat)(F:Value→Option Value)(hm:a.eval m= .map (some b))(h:bV K w b F)
 (key:Value)(l:a.eval x=key)(hk:K w key)(val:Value)(d:(F key).getD z=val)(n:wpList P ops Q rest (a.put o.dst val) w):wpList P ops Q (o::rest) a w:=by
 refine wpList_plain i fun p g=> ?_;have c:=h.look L j (k w) hk;rw[d]at c;unfold Oper.wp;simp[execOp,f,hm,l,c,Result.andThen];exact g _ _ n
theorem iC(w:World){ops:Array Oper}{rest:List Oper}{o:Oper}{a:Act}{Q:Exit→Act→World→Prop}(g:o.guard=none)(m x:Operand)(t:TypeId)(d:o.op=Op.lookup t m x false)
 (L:KeyLaw P kt K)(e:TypeId)(h:P.underlying t=some (.map kt e))(z:Value)(i:∀w,(zeroValue e).run P w= .ok z w)(hm:a.eval m= .map none)
 (key:Value)(k:a.eval x=key)(hk:K w key)(l:wpList P ops Q rest (a.put o.dst z) w):wpList P ops Q (o::rest) a w:=by
 refine wpList_plain g fun q f=> ?_;have c:(Instr.lookup t (.map none) key false).run P w= .ok z w:=by
  rcases L.find w hk [] (by simp)with⟨n,_⟩|⟨j,r,_,p,_⟩
  ·simp[Instr.lookup,run_underlying h,L.check w true hk,n,i,Result.andThen]
  ·simp at p
 unfold Oper.wp;simp[execOp,d,hm,k,c,Result.andThen];exact f _ _ l
theorem dR(w:World){ops:Array Oper}{rest:List Oper}{o:Oper}{a:Act}{Q:Exit→Act→World→Prop}(j:o.guard=none)(m x v:Operand)(t:TypeId)(d:o.op=Op.mapUpdate t m x v)
 (L:KeyLaw P kt K)(f:kW K)(e:TypeId)(k:P.underlying t=some (.map kt e))(b:Nat)(F:Value→Option Value)(hm:a.eval m= .map (some b))(h:bV K w b F)(key val:Value)(l:a.eval x=key)(n:a.eval v=val)(hk:K w key)
 (p:∀w',(∀g:Value→Option Value,(∀y,y≠key→g y=F y)→g key=some val→bV K w' b g)→w.grownBy w' (some b)→wpList P ops Q rest (a.put o.dst undef) w'):wpList P ops Q (o::rest) a w:=by
 refine wpList_plain j fun s i=> ?_;obtain⟨w',c,q,r⟩:=h.store L f k val hk;unfold Oper.wp;simp[execOp,d,hm,l,n,c,Result.andThen];exact i _ _ (p w' q r)
end
end TS
namespace Go.Proofs.YtkfaiocajcjomaaGreatDoor
open Go.RowKit TS
theorem sA(B b bo r pb:Nat)(s nm:ByteArray)(fs:List Nat)(aC:Nat→ByteArray)(v:Value)(w:World)(hn:fs.length≤1099511627776)
 (h1:w.cell? ⟨b,1,none⟩=some (.pointer (some ⟨bo,0,none⟩)))(h5:w.cell? ⟨b,5,none⟩=some (.int .u32 15))(Z:w.cell? ⟨b,9,none⟩=some v)(f9:w.frozen? ⟨b,9,none⟩=false)(F:v.ownBlock≠some b)
 (f:w.ownsRow B 99 1 v fs.length (fs.map fun b=> .pointer (some ⟨b,0,none⟩)))(hB:B≤w.heap.size)
 (ho:w.cell? ⟨bo,1,none⟩=some (.pointer (some ⟨pb,0,none⟩)))(hm:w.cell? ⟨r,1,none⟩=some (.pointer (some ⟨pb,0,none⟩)))(P3:w.cell? ⟨r,2,none⟩=some (.string nm))(hp:w.cell? ⟨pb,0,none⟩=some (.string s))
 (hs:∀(i:Nat)(h:i<fs.length),w.cell? ⟨fs[i],2,none⟩=some (.string (aC i)))(G:∀i,i<fs.length→((aC i).toList==nm.toList)=false)(h_:(nm.toList== [95])=false):
 Calls Tryz.prog 87 #[.pointer (some ⟨b,0,none⟩),.pointer (some ⟨r,0,none⟩)] w fun e q=>e= .returned (.tuple #[])∧
  ∃H,q.cell? ⟨b,9,none⟩=some H∧q.frozen? ⟨b,9,none⟩=false∧(H.ownBlock=v.ownBlock∨∃k,H.ownBlock=some k∧w.heap.size≤k)∧q.ownsRow B 99 1 H (fs++ [r]).length ((fs++ [r]).map fun b=> .pointer (some ⟨b,0,none⟩))∧
   Kept (fun k=>k=b∨v.ownBlock=some k) w q∧(∀o,o≠9→q.cell? ⟨b,o,none⟩=w.cell? ⟨b,o,none⟩)∧(Plain w b→Plain q b):=by
 obtain⟨a,c,rfl⟩:=bd f;have I:Hid (bA w a fs.length (fun i=>fs.getD i 0)):=fun i hi=>by
  rcases f.2 with⟨_,h0⟩|⟨g,cap,cur,e,_⟩
  ·omega
  ·cases e
   have:=f.cells (g:=g) rfl i (.pointer (some ⟨fs[i],0,none⟩)) (by simp[hi]);rw[show(⟨g,0,none⟩:Addr).add i=⟨g,i,none⟩ by unfold Addr.add;split<;>simp_all]at this;exact⟨g,0,rfl,by simpa [hi]using this⟩
 have J:Hid (∀i,i<fs.length→w.cell? ⟨fs.getD i 0,2,none⟩=some (.string (aC i))):=fun i hi=>by simpa [hi]using hs i hi
 have u:=Lib.hid G;have l:=Lib.hid f;have d:=Lib.hid F;have K:=Lib.hid hB;have L:=World.block_lt_of_cell? _ _ Z;simp only at L;obtain⟨i0,hi,P4,P5,P6⟩:=info_parts sr;clear hs G f F hB;have M:(s.toList==s.toList)=true:=by simp
 go_enter Tryz.func87,Tryz.ntmps87;go_wp2_with fail
 go_quiet (first|(go_at_call 123;exact Calls.quiet_of ((yU pb pb s s _ (by simpa using hp) (by simpa using hp)).mono (by rintro e q ⟨he,hw⟩;rw[M]at he;exact⟨he,hw⟩)))|(go_at_call 105;exact Calls.quiet_of_same ((gI _).mono (by rintro e q ⟨he,hw⟩;exact⟨he,hw.symm⟩))))
 go_wp2_with fail
 refine(se b _ (by simpa using h5)).mono ?_;rintro e q ⟨rfl,rfl⟩;go_wp2_with fail
 refine(y7 b a fs.length c (fun i=>fs.getD i 0) aC nm _ hn (by simpa using Z) (fun i hi=>by obtain⟨b',o,rfl,h⟩:=I.out i hi;exact⟨b',o,rfl,by simpa using h⟩) (fun i hi=>by simpa using J.out i hi) u.out h_).mono ?_;rintro e q ⟨rfl,rfl⟩;generalize x:w.drewN nq=W at*;have y:∀a,W.cell? a=w.cell? a:=fun a=>by rw[←x];simp
 have N:∀a,W.frozen? a=w.frozen? a:=fun a=>by rw[←x];simp
 have m:Hid (W.ownsRow B 99 1 (.slice a fs.length c) fs.length (fs.map fun b=> .pointer (some ⟨b,0,none⟩))):=by rw[←x];exact l.out
 have O:Hid (Plain w b→Plain W b):=by rw[←x];exact fun h=>h
 have hK:Hid (Kept (fun k=>k=b∨(Value.slice a fs.length c).ownBlock=some k) w W):=by rw[←x];exact⟨rfl,rfl,rfl,Nat.le_refl _,fun _ _ _=>rfl⟩
 have z:Hid (B≤W.heap.size∧W.heap.size=w.heap.size):=by rw[←x];exact⟨K.out,rfl⟩
 have P:W.cell? ⟨b,9,none⟩=some (.slice a fs.length c):=by rw[y];exact Z
 have Q:W.frozen? ⟨b,9,none⟩=false:=by rw[N];exact f9
 have A:b<W.heap.size:=by rw[z.out.2];exact L
 have R:=Lib.hid y;clear I J u l K x y N Z f9 h1 h5 ho hm P3 hp M h_;have n:=Lib.hid (m.out.alloc (.cells #[.pointer (some ⟨r,0,none⟩)] 99));go_wp2_with (at_builtin;refine wpList_append_own_at _ rfl _ _ 101 rfl B 99 i0 (.pointer none) 1 8 Tryz.underlying101 hi P4 P5 P6 rfl (by decide) _ _ _ rfl n.out ⟨W.heap.size,0,none⟩ 1 1 [.pointer (some ⟨r,0,none⟩)] rfl rfl (dP W _ _) (one_one rfl) ?c3 ?c4 ?c5 ?_)
 case c3=>unfold maxLen;omega
 case c4=>omega
 case c5=>simp;have:=z.out.1;omega
 intro H C j p _ D;obtain⟨a',c',rfl⟩:=bd j;have S:Hid ((Value.slice a' (fs.length+1) c').ownBlock=a.map (·.block)∨∃k,(Value.slice a' (fs.length+1) c').ownBlock=some k∧w.heap.size≤k):=by
  rcases D with e|e
  ·left;rw[e];cases a<;>rfl
  ·right;refine⟨_,e,?_⟩;have:=z.out.2;omega
 have U:Hid ((Value.slice a' (fs.length+1) c').ownBlock≠some b):=by
  rcases D with e|e
  ·rw[e];exact d.out
  ·rw[e];intro h;injection h with h;omega
 have P7:Hid (Kept (fun k=>k=b∨(Value.slice a fs.length c).ownBlock=some k) w C):=(hK.out.alloc _).grown p fun k hk _=> .inr hk;have V:Hid (Plain w b→Plain C b):=fun h=>by
  obtain⟨cs,T,h⟩:=O.out h;refine⟨cs,T,?_⟩;rw[p.block b (by simp;omega) fun e=>d.out e.symm];exact(Below.heap_alloc _ _ _ A).trans h
 have X:Hid (∀o,C.cell? ⟨b,o,none⟩=W.cell? ⟨b,o,none⟩):=fun o=>by
  have e1:C.cell? ⟨b,o,none⟩=(W.alloc (.cells #[.pointer (some ⟨r,0,none⟩)] 99)).cell? ⟨b,o,none⟩:=World.cell?_of_block (p.block b (by simp;omega) fun e=>d.out e.symm);rw[e1,World.cell?_alloc_lt _ _ _ A]
 have Y:C.frozen? ⟨b,9,none⟩=false:=by
  have e1:C.frozen? ⟨b,9,none⟩=(W.alloc (.cells #[.pointer (some ⟨r,0,none⟩)] 99)).frozen? ⟨b,9,none⟩:=World.frozen?_of_block (p.block b (by simp;omega) fun e=>d.out e.symm);rw[e1,World.frozen?_alloc_old _ _ _ (Nat.ne_of_lt A)];exact Q
 have E:C.cell? ⟨b,9,none⟩=some (.slice a fs.length c):=by rw[X.out];exact P
 have t:=Lib.hid j;have P8:=d.out;have aa:=World.block_lt_of_cell? _ _ E;simp only at aa;clear j p D d hK m n P Q;go_wp2_with fail
 go_end0
 refine⟨rfl,.slice a' (fs.length+1) c',by simp[go_sem,E,Y],by simp[go_sem,E,Y],?_,?_,?_,fun o ho=> ?_,fun h=>iA (V.out h) _ _⟩
 ·rcases S.out with e|e
  ·left;rw[e];cases a<;>rfl
  ·exact .inr e
 ·refine eO ?_ U.out _
  simpa using t.out
 ·exact P7.out.setCell (fun _=> .inl rfl) _
 ·rw[World.cell?_setCell_other _ _ _ _ (by first|(simp;done)|(simp;omega)),X.out,R.out]
end Go.Proofs.YtkfaiocajcjomaaGreatDoor
namespace TS
open Go Go.RowKit
noncomputable def bt(F:Value→Option Value)(k v:Value):Value→Option Value:=fun y=> @ite _ (y=k) (Classical.propDecidable _) (some v) (F y)
theorem bJ(F:Value→Option Value)(k v:Value):bt F k v k=some v:=by unfold bt;rw[if_pos rfl]
theorem a_(F:Value→Option Value){k v y:Value}(h:y≠k):bt F k v y=F y:=by unfold bt;rw[if_neg h]
def kX(_:World)(v:Value):Prop:=∃s,v= .string s
def fQ(w:World)(a:Nat)(m:Option Nat)(F:Value→Option Value):Prop:=
 w.cell? ⟨a,0,none⟩=some (.map m)∧w.frozen? ⟨a,0,none⟩=false∧(m=none→F=fun _=>none)∧∀b,m=some b→bV kX w b F
theorem fQ.of{w c:World}{b:Nat}{m:Option Nat}{F:Value→Option Value}(h:fQ w b m F)(d:c.heap[b]?=w.heap[b]?)(hm:∀a,m=some a→c.heap[a]?=w.heap[a]?):fQ c b m F:=
 ⟨(World.cell?_of_block (w:=w) d).trans h.1,(World.frozen?_of_block (w:=w) d).trans h.2.1,h.2.2.1,fun a e=>(h.2.2.2 a e).of (hm a e) fun _ h=>h⟩
end TS
namespace Go.Proofs.YtkfaiocajcjomaaGreatDoor
open Go.RowKit TS Go.ChangeMaps
theorem kY:KeyLaw Tryz.prog 9 kX:=zR Tryz.underlying9
theorem zT(f:Nat)(w:World):(method 478 88 (.pointer (some ⟨f,0,none⟩)) "Id").run Tryz.prog w= .ok (197,.pointer (some ⟨f,0,none⟩)) w:=by kernel_rfl
theorem zU(f:Nat)(w:World):(method 478 99 (.pointer (some ⟨f,0,none⟩)) "Id").run Tryz.prog w= .ok (197,.pointer (some ⟨f,0,none⟩)) w:=by kernel_rfl
theorem zV(f:Nat)(w:World):(nilAhead 478 88 (.pointer (some ⟨f,0,none⟩)) "Id").run Tryz.prog w= .ok (some false) w:=by kernel_rfl
theorem zW(f:Nat)(w:World):(nilAhead 478 99 (.pointer (some ⟨f,0,none⟩)) "Id").run Tryz.prog w= .ok (some false) w:=by kernel_rfl
theorem oX(w:World):(zeroValue 172).run Tryz.prog w= .ok .nilIface w:=by kernel_rfl
def jY(T:TypeId):Prop:=(∀(f:Nat)(w:World),(method 478 T (.pointer (some ⟨f,0,none⟩)) "Id").run Tryz.prog w= .ok (197,.pointer (some ⟨f,0,none⟩)) w)∧∀(f:Nat)(w:World),(nilAhead 478 T (.pointer (some ⟨f,0,none⟩)) "Id").run Tryz.prog w= .ok (some false) w
theorem sB:jY 88:=⟨zT,zV⟩
theorem sC:jY 99:=⟨zU,zW⟩
theorem zX(a:Nat)(w:World):(binOp .eql 169 (.map (some a)) (.map none)).run Tryz.prog w= .ok (.bool false) w:=by kernel_rfl
theorem zY(w:World):(binOp .eql 169 (.map none) (.map none)).run Tryz.prog w= .ok (.bool true) w:=by kernel_rfl
theorem zZ(T:TypeId)(l:jY T)(g b f:Nat)(q:Option Addr)(s:ByteArray)(i:aO s=true)(F:Value→Option Value)(t:TypeId)(x:Value)(w:World)(hT:bu w)(hO:fQ w g (some b) F)
 (h1:w.cell? ⟨f,1,none⟩=some (.pointer q))(h2:w.cell? ⟨f,2,none⟩=some (.string s))(hF:F (.string s)=some (.iface t x)):
 Calls Tryz.prog 104 #[.pointer (some ⟨g,0,none⟩),.iface T (.pointer (some ⟨f,0,none⟩))] w fun e j=>e= .returned (.iface t x)∧∃n,j=w.drewN n:=by
 obtain⟨hm,m⟩:=l;obtain⟨c0,_,_,a⟩:=hO;have hM:=Lib.hid (a b rfl);have o:=Lib.hid (mK f q s i w hT h1 h2);have c:=Lib.hid hF;have k:=fun(W:World)=>run_eql_iface_nil_left (P:=Tryz.prog) W t x Tryz.underlying172;clear a i hT h1 h2 hF;go_enter Tryz.func104,Tryz.ntmps104;go_wp2_with fail
 refine o.out.mono ?_;rintro e j ⟨rfl,n,rfl⟩;have d:Hid (bV kX (w.drewN n) b F):=hM.out.of rfl fun _ h=>h;go_wp2_with (first|(at_lookup;refine dQ _ rfl _ _ 169 rfl kY 172 Tryz.underlying169 .nilIface oX b F rfl d.out (.string s) rfl ⟨_,rfl⟩ (.iface t x) (by rw[c.out];rfl) ?_)|fail)
 go_ret;exact⟨rfl,_,rfl⟩
theorem sD(T:TypeId)(t:jY T)(g c f:Nat)(q:Option Addr)(s:ByteArray)(p:aO s=true)(F:Value→Option Value)(w:World)(hT:bu w)(hO:fQ w g (some c) F)(j:c≠g)
 (h1:w.cell? ⟨f,1,none⟩=some (.pointer q))(h2:w.cell? ⟨f,2,none⟩=some (.string s))(hF:F (.string s)=none):
 Calls Tryz.prog 104 #[.pointer (some ⟨g,0,none⟩),.iface T (.pointer (some ⟨f,0,none⟩))] w fun e l=>e= .returned .nilIface∧
  fQ l g (some c) (bt F (.string s) (.iface T (.pointer (some ⟨f,0,none⟩))))∧Kept (fun k=>k=c) w l:=by
 obtain⟨hm,u⟩:=t;obtain⟨c0,f0,v,d⟩:=hO;have hM:=Lib.hid (d c rfl);have x:=Lib.hid (mK f q s p w hT h1 h2);have m:=Lib.hid hF;clear d p hT h1 h2 hF v;have z:=zX c;go_enter Tryz.func104,Tryz.ntmps104;go_wp2_with fail
 refine x.out.mono ?_;rintro e l ⟨rfl,n,rfl⟩;have i:Hid (bV kX (w.drewN n) c F):=hM.out.of rfl fun _ h=>h;go_wp2_with (first|(at_lookup;refine dQ _ rfl _ _ 169 rfl kY 172 Tryz.underlying169 .nilIface oX c F rfl i.out (.string s) rfl ⟨_,rfl⟩ .nilIface (by rw[m.out];rfl) ?_)|(at_mapUpdate;refine dR _ rfl _ _ _ 169 rfl kY sw 172 Tryz.underlying169 c F rfl i.out (.string s) (.iface T (.pointer (some ⟨f,0,none⟩))) rfl rfl ⟨_,rfl⟩ ?_;intro A o a)|fail)
 go_ret;have r:A.heap[g]?=w.heap[g]?:=a.block g (World.block_lt_of_cell? _ _ c0) (fun e=>j (Option.some.inj e).symm);refine⟨rfl,⟨(World.cell?_of_block (w:=w) r).trans c0,(World.frozen?_of_block (w:=w) r).trans f0,fun h=>(by cases h),fun b e=> ?_⟩,?_⟩
 ·cases e
  exact o _ (fun y B=>a_ F B) (bJ _ _ _)
 ·exact⟨a.os,a.tape,a.output,a.size,fun k hk C=>a.block k hk fun e=>C (Option.some.inj e)⟩
theorem sE(T:TypeId)(B:jY T)(a f:Nat)(q:Option Addr)(s:ByteArray)(t:aO s=true)(F:Value→Option Value)(w:World)(hT:bu w)(hO:fQ w a none F)
 (h1:w.cell? ⟨f,1,none⟩=some (.pointer q))(h2:w.cell? ⟨f,2,none⟩=some (.string s)):
 Calls Tryz.prog 104 #[.pointer (some ⟨a,0,none⟩),.iface T (.pointer (some ⟨f,0,none⟩))] w fun e m=>e= .returned .nilIface∧
  ∃u,fQ m a (some u) (bt F (.string s) (.iface T (.pointer (some ⟨f,0,none⟩))))∧w.heap.size≤u∧Kept (fun k=>k=a) w m:=by
 obtain⟨hm,C⟩:=B;obtain⟨c0,f0,v,_⟩:=hO;have o:=Lib.hid (v rfl);have x:=Lib.hid (mK f q s t w hT h1 h2);clear t hT h1 h2 v;have D:=zY;have E:= @run_makeMap Tryz.prog;have g:=World.block_lt_of_cell? _ _ c0;simp only at g;go_enter Tryz.func104,Tryz.ntmps104;go_wp2_with fail
 refine x.out.mono ?_;rintro e m ⟨rfl,n,rfl⟩;have i:(w.drewN n).cell? ⟨a,0,none⟩=some (.map none):=by simpa using c0
 have j:(w.drewN n).frozen? ⟨a,0,none⟩=false:=by simpa using f0
 have p:Hid (Kept (fun k=>k=a) w (w.drewN n)):=⟨rfl,rfl,rfl,Nat.le_refl _,fun _ _ _=>rfl⟩
 have d:Hid ((w.drewN n).heap.size=w.heap.size):=rfl;generalize w.drewN n=W at*;clear c0 f0 x;have c:a<W.heap.size:=by rw[d.out];exact g
 go_wp2_with (first|(at_lookup;refine iC _ rfl _ _ 169 rfl kY 172 Tryz.underlying169 .nilIface oX rfl (.string s) rfl ⟨_,rfl⟩ ?_)|(at_mapUpdate;refine dR _ rfl _ _ _ 169 rfl kY sw 172 Tryz.underlying169 W.heap.size (fun _=>none) rfl ?hM (.string s) (.iface T (.pointer (some ⟨f,0,none⟩))) rfl rfl ⟨_,rfl⟩ ?_;rotate_left;intro G r l)|fail)
 ·go_ret
  have z:G.heap[a]?=((W.setCell ⟨a,0,none⟩ (.map (some W.heap.size))).alloc (.map #[] 0)).heap[a]?:=l.block a (by simp;omega) (fun e=>by have:=Option.some.inj e;omega);refine⟨rfl,W.heap.size,⟨?_,?_,fun h=>(by cases h),fun b e=> ?_⟩,Nat.le_of_eq d.out.symm,?_⟩
  ·rw[World.cell?_of_block (w:=(W.setCell ⟨a,0,none⟩ (.map (some W.heap.size))).alloc (.map #[] 0)) z]
   simp[go_sem,i,j,c]
  ·rw[World.frozen?_of_block (w:=(W.setCell ⟨a,0,none⟩ (.map (some W.heap.size))).alloc (.map #[] 0)) z]
   simp[go_sem,i,j,c]
  ·cases e
   rw[o.out];exact r _ (fun y H=>a_ _ H) (bJ _ _ _)
  ·refine((p.out.setCell (fun _=>rfl) _).alloc _).grown l fun k hk A=> ?_
   cases hk;have:=d.out;omega
 case hM=>
  have:=iB kX (W.setCell ⟨a,0,none⟩ (.map (some W.heap.size)));simpa using this
theorem z8(b:Nat)(x:Addr)(n c:Nat)(w:World)(f:w.cell? ⟨b,0,none⟩=some (.slice (some x) n c)):
 Calls Tryz.prog 154 #[.pointer (some ⟨b,0,none⟩)] w fun e d=>e= .returned (.tuple #[])∧w=d:=by
 have a:=fun(w:World)=>Lib.run_eql_slice_nil (P:=Tryz.prog) w 151 88 (some x) n c 0 0 Tryz.underlying151;go_enter Tryz.func154,Tryz.ntmps154;go_wp2_with fail
 go_end0
 exact⟨rfl,rfl⟩
theorem z_(w:World):(Instr.makeSlice 151 (.int .i64 0) (.int .i64 0)).run Tryz.prog w= .ok (.slice (some ⟨w.heap.size,0,none⟩) 0 0) (w.alloc (.cells #[] 88)):=by kernel_rfl
theorem Aa(b:Nat)(n c:Nat)(w:World)(f:w.cell? ⟨b,0,none⟩=some (.slice none n c))(f0:w.frozen? ⟨b,0,none⟩=false):
 Calls Tryz.prog 154 #[.pointer (some ⟨b,0,none⟩)] w fun e g=>e= .returned (.tuple #[])∧g=(w.setCell ⟨b,0,none⟩ (.slice (some ⟨w.heap.size,0,none⟩) 0 0)).alloc (.cells #[] 88):=by
 have d:=fun(w:World)=>Lib.run_eql_slice_nil (P:=Tryz.prog) w 151 88 none n c 0 0 Tryz.underlying151;have h:=z_;have a:=World.block_lt_of_cell? _ _ f;simp only at a;go_enter Tryz.func154,Tryz.ntmps154;go_wp2_with fail
 go_end0
 exact⟨rfl,rfl⟩
end Go.Proofs.YtkfaiocajcjomaaGreatDoor
namespace TS
open Go
inductive OT where
 |done
 |one (i:Nat) (s:Bool) (r:OT)
 |two (i j:Nat) (ri a:OT)
def OT.depth:OT→Nat
 | .done=>0
 | .one _ _ r=>r.depth+1
 | .two _ _ ri a=>max ri.depth a.depth+1
def iT(ops:Array Oper):OT→Array Bool→Bool
 | .done,listed=>(Region.ready .any ops listed).isEmpty
 | .one i s r,listed=>(if s then Region.free .any ops listed i&&(Region.ready .any ops listed).contains i else Region.ready .any ops listed== [i])&&iT ops r (listed.setIfInBounds i true)
 | .two i j ri a,listed=>Region.ready .any ops listed== [i,j]&&(iT ops ri (listed.setIfInBounds i true)&&iT ops a (listed.setIfInBounds j true))
def eU(P:Program)(ops:Array Oper)(Q:Exit→Act→World→Prop)(S:World→Prop):OT→Act→World→Prop
 | .done,a,w=>Q .normal a w
 | .one i s r,a,w=> ∃o,ops[i]?=some o∧
   if s then ∃v,YieldsIf P ops S o v a∧eU P ops Q S r (a.put o.dst v) w
   else wpOp P ops Q i (fun a' b=>S b∧eU P ops Q S r a' b) a w
 | .two i j ri c,a,w=>wpOp P ops Q i (fun a' b=>S b∧eU P ops Q S ri a' b) a w∧wpOp P ops Q j (fun a' b=>S b∧eU P ops Q S c a' b) a w
section
variable {P:Program} {ops:Array Oper} {Q:Exit→Act→World→Prop} {S:World→Prop}
theorem lH(b:Region.noSelect ops=true)(m:∀c(a:Act) d v w,Q (.panic c) (a.put d v) w→Q (.panic c) a w):
 ∀(l:OT)(listed:Array Bool)(a:Act)(w:World)(fuel:Nat),l.depth≤fuel→iT ops l listed=true→S w→eU P ops Q S l a w→wpAnyH P .any ops Q S fuel listed a w
 | .done,listed,a,w,fuel,_,f,_,h=>wpAnyH_done (by simpa [iT]using f) h fuel
 | .one i s r,listed,a,w,fuel,p,f,q,h=>by
   obtain⟨o,u,h⟩:=h;obtain⟨fuel,rfl⟩:∃n,fuel=n+1:=⟨fuel- 1,by simp[OT.depth]at p;omega⟩
   simp only[iT,Bool.and_eq_true]at f;simp only[OT.depth]at p;cases s with
   |true=>
    simp only[if_true,Bool.and_eq_true]at f h;obtain⟨v,x,h⟩:=h;exact wpAnyH_take u b f.1.1 f.1.2 (fun c a w=>m c a _ _ w) x q (lH b m r _ _ _ fuel (by omega) f.2 q h)
   |false=>
    simp only[Bool.false_eq_true,if_false,beq_iff_eq]at f h;refine wpAnyH_all (rs:= [i]) f.1 (by simp) ?_;intro j y;have:j=i:=by simpa using y
    subst this;exact wpOp_mono (fun a' t g=>⟨g.1,lH b m r _ _ _ fuel (by omega) f.2 g.1 g.2⟩) h
 | .two i j ri z,listed,a,w,fuel,p,f,q,h=>by
   obtain⟨fuel,rfl⟩:∃n,fuel=n+1:=⟨fuel- 1,by simp[OT.depth]at p;omega⟩
   simp only[iT,Bool.and_eq_true,beq_iff_eq]at f;simp only[OT.depth]at p;refine wpAnyH_all (rs:= [i,j]) f.1 (by simp) ?_;intro k hk;by_cases e:k=i
   ·subst e
    exact wpOp_mono (fun a' t g=>⟨g.1,lH b m ri _ _ _ fuel (by omega) f.2.1 g.1 g.2⟩) h.1
   ·have:k=j:=by
     simp only[List.mem_cons,List.not_mem_nil,or_false]at hk;exact hk.resolve_left e
    subst this;exact wpOp_mono (fun a' t g=>⟨g.1,lH b m z _ _ _ fuel (by omega) f.2.2 g.1 g.2⟩) h.2
theorem DM{id:Nat}{a:Act}{w:World}(S:World→Prop)(l:OT)(hm:P.follows .mixedOrders=true)(b:Region.noSelect ops=true)(d:iT ops l (Array.replicate ops.size false)=true)(e:l.depth≤ops.size)
 (c:S w.drew)(h:S w.drew→eU P ops (NoPanic Q) S l a w.drew):(Code.region id ops true).wp P Q a w:=
 wp_region_noPanic (wp_region_held (S:=S) hm (lH b (fun _ _ _ _ _ h=>h) l _ a w.drew _ e d c (h c)))
theorem nv{a:Act}{w:World}(h:Q .normal a w):eU P ops (NoPanic Q) S .done a w:=h
theorem fG{i:Nat}{r:OT}{o:Oper}{v:Value}{a:Act}{w:World}(b:nth ops.toList i=some o)(hw:Region.wanted o (yielded ops a.tmps)=true)(c:∀W,S W→(execOp a.eval o).run P W= .ok (.value v) W)
 (h:eU P ops Q S r (a.put o.dst v) w):eU P ops Q S (.one i true r) a w:=⟨o,jg b,by rw[if_pos rfl];exact⟨v,.inl ⟨hw,c⟩,h⟩⟩
theorem eF{i:Nat}{r:OT}{o:Oper}{a:Act}{w:World}(b:nth ops.toList i=some o)(hw:Region.wanted o (yielded ops a.tmps)=true)
 (h:∀K:Act→World→Prop,(∀a w,S w→(S w→eU P ops Q S r a w)→K a w)→o.wp P a w K Q):eU P ops Q S (.one i false r) a w:=by
 have c:=jg b;refine⟨o,c,?_⟩;rw[if_neg (by simp)];simp only[wpOp,c,hw,if_true];exact .inl (h _ fun a w d h=>⟨d,h d⟩)
theorem pM{i j:Nat}{ri k:OT}{o d:Oper}{a:Act}{w:World}(e:nth ops.toList i=some o)(b:nth ops.toList j=some d)(hw:Region.wanted o (yielded ops a.tmps)=true)(f:Region.wanted d (yielded ops a.tmps)=true)
 (h:∀K:Act→World→Prop,(∀a w,S w→(S w→eU P ops Q S ri a w)→K a w)→o.wp P a w K Q)(h2:∀K:Act→World→Prop,(∀a w,S w→(S w→eU P ops Q S k a w)→K a w)→d.wp P a w K Q):eU P ops Q S (.two i j ri k) a w:=by
 have l:=jg e;have g:=jg b;refine⟨?_,?_⟩
 ·simp only[wpOp,l,hw,if_true]
  exact .inl (h _ fun a w c h=>⟨c,h c⟩)
 ·simp only[wpOp,g,f,if_true]
  exact .inl (h2 _ fun a w c h=>⟨c,h c⟩)
end
end TS
