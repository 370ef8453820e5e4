import Derived.LaidEqlPtr
import Derived.Laws.AppendOwn
import Derived.Lib.IndexBytes
import Derived.Lib.Strings
import Derived.Maps.AppendAt
import Derived.Maps.Own
import Derived.Test.YtdkmnkjhhhmglaaGreatDoorYak
set_option maxRecDepth 100000
set_option maxHeartbeats 8000000
set_option linter.all false
namespace TS
open Go Go.RowKit
abbrev R3:=U×Option Addr×Nat
def b8(x:R3):List Value:= [.int .i64 x.1.k,.int .i64 x.1.n,.int .i64 x.1.m,.bool x.1.v,.string x.1.nm,.string x.1.tg,.slice x.2.1 x.1.es.length x.2.2]
def cP(L:List R3):List Value:=L.flatMap b8
def a7(L:List R3):List U:=L.map (·.1)
def fV(p:Pm)(D:Dl)(L:List R3):Prop:=∀x∈L,ak p D x.1 x.2.1 x.2.2
theorem fV.sub{p q:Pm}{D:Dl}{L:List R3}(h:fV p D L)(hk:Sub p q):fV q D L:=fun x a=>ak.sub hk _ (h x a)
theorem fV.append{p:Pm}{D:Dl}{L M:List R3}(h:fV p D L)(k:fV p D M):fV p D (L++M):=fun x a=>(List.mem_append.1 a).elim (h x) (k x)
theorem k9(x:R3)(L:List R3):cP (x::L)=b8 x++cP L:=rfl
theorem ze(L M:List R3):cP (L++M)=cP L++cP M:=by simp[cP]
theorem nS:∀L:List R3,(cP L).length=L.length*7
 | []=>rfl
 |x::r=>by rw[k9,List.length_append,nS r];simp[b8];omega
theorem tw(L:List R3):∀v∈cP L,v.oneCell'=true:=by
 intro v b;obtain⟨x,_,a⟩:=List.mem_flatMap.1 b;simp only[b8,List.mem_cons,List.not_mem_nil,or_false]at a;rcases a with rfl|rfl|rfl|rfl|rfl|rfl|rfl<;>rfl
theorem tA:∀(L:List R3)(j c:Nat)(a:j<L.length)(b:c<7),(cP L)[j*7+c]?=(b8 L[j])[c]?
 |x::r,0,c,_,_=>by
  rw[k9,Nat.zero_mul,Nat.zero_add,List.getElem?_append_left (by simp[b8];omega)];rfl
 |x::r,j+1,c,a,b=>by
  rw[k9,List.getElem?_append_right (by simp[b8];omega)];rw[show(j+1)*7+c- (b8 x).length=j*7+c by simp[b8];omega,tA r j c (by simpa using a) b];rfl
theorem p_{p:Pm}{D:Dl}{b:Nat}:∀{L:List R3}{o:Nat},fV p D L→(∀j v,(cP L)[j]?=some v→p b (o+j)=some v)→aj p D (a7 L) (some ⟨b,o,none⟩)
 | [],o,_,_=>aj.iR fun x e=>by cases e;rfl
 |x::r,o,h,f=>by
  have e:=h x List.mem_cons_self;have hr:aj p D (a7 r) (some ⟨b,o+7,none⟩):=p_ (fun y g=>h y (List.mem_cons_of_mem _ g)) fun j v d=>by
   have:=f (7+j) v (by rw[k9,List.getElem?_append_right (by simp[b8])];simpa [b8]using d);rwa [←Nat.add_assoc]at this
  have a:∀c v,(b8 x)[c]?=some v→p b (o+c)=some v:=fun c v d=>f c v (by
   rw[k9,List.getElem?_append_left (List.getElem?_eq_some_iff.1 d).1];exact d)
  show aj p D (x.1::a7 r) _;simp only[aj];exact⟨b,o,rfl,⟨x.2.1,x.2.2,⟨a 0 _ rfl,a 1 _ rfl,a 2 _ rfl,a 3 _ rfl,a 4 _ rfl,a 5 _ rfl,a 6 _ rfl⟩,e⟩,hr⟩
theorem tB{p:Pm}{D:Dl}:∀{l:List U}{b o:Nat},aj p D l (some ⟨b,o,none⟩)→∃L,a7 L=l∧fV p D L∧∀j v,(cP L)[j]?=some v→p b (o+j)=some v
 | [],b,o,_=>⟨[],rfl,(fun _ c=>by cases c),fun j v a=>by simp[cP]at a⟩
 |e::r,b,o,h=>by
  simp only[aj]at h;obtain⟨s,t,ha,⟨a',c',h7,hu⟩,hr⟩:=h;simp only[Option.some.injEq,Addr.mk.injEq]at ha;obtain⟨rfl,rfl,_⟩:=ha;obtain⟨L,d,f,g⟩:=tB hr;refine⟨(e,a',c')::L,by simp only[a7,List.map_cons]at*;rw[d],fun x c=> ?_,fun j v a=> ?_⟩
  ·rcases List.mem_cons.1 c with rfl|c
   ·exact hu
   ·exact f x c
  ·rw[k9]at a
   by_cases i:j<7
   ·rw[List.getElem?_append_left (by simp[b8];omega)]at a
    obtain⟨k,h1,h2,h3,m,n,q⟩:=h7;match j,i with
    |0,_=>cases a;exact k
    |1,_=>cases a;exact h1
    |2,_=>cases a;exact h2
    |3,_=>cases a;exact h3
    |4,_=>cases a;exact m
    |5,_=>cases a;exact n
    |6,_=>cases a;exact q
   ·rw[List.getElem?_append_right (by simp[b8];omega)]at a
    have:=g (j- 7) v (by simpa [b8]using a);rwa [show o+7+(j- 7)=o+j by omega]at this
def RL(p:Pm)(D:Dl)(l:List U)(w:World)(e:Ending)(b:World):Prop:=
 ∃q a n c,e= .returned (.slice a n c)∧Hid (n=l.length)∧aP p q w.heap.size∧KW q b∧aj q D l a∧Below w.heap.size w b
def Names(NS:List (List UInt8))(u:U):Prop:=(∀e,∀_:e∈u.es,e.nm.toList∈NS∧Names NS e)∧∀e,∀_:e∈u.un,Names NS e
termination_by u.sz
decreasing_by
 ·exact U.az ‹_›
 ·exact U.j8 ‹_›
theorem Names.es{NS:List (List UInt8)}{u e:U}(h:Names NS u)(he:e∈u.es):e.nm.toList∈NS∧Names NS e:=by rw[Names]at h;exact h.1 e he
theorem Names.un{NS:List (List UInt8)}{u e:U}(h:Names NS u)(he:e∈u.un):Names NS e:=by rw[Names]at h;exact h.2 e he
theorem qa{NS:List (List UInt8)}{u:U}(h1:u.es= [])(h2:u.un= []):Names NS u:=by
 rw[Names,h1,h2];exact⟨fun e he=>(by cases he),fun e he=>(by cases he)⟩
theorem Names.bare{NS:List (List UInt8)}:∀{u:U},Names NS u→Names NS (bare u):=by
 intro u;induction u using U.bg with
 |_ u ih=>
  intro h;rw[TS.bare];split
  ·split
   ·rename_i e r he
    exact ih e (U.az (by rw[he];simp)) (h.es (by rw[he];simp)).2
   ·exact h
  ·split
   ·exact qa rfl rfl
   ·exact h
theorem Names.under{NS:List (List UInt8)}{u:U}(h:Names NS u):Names NS (under u):=by
 have a:=h.bare;rw[TS.under];split
 ·cases hu:(TS.bare u).un with
  |nil=>exact a
  |cons x r=>exact a.un (by rw[hu];simp)
 ·exact a
theorem Names.cv{NS:List (List UInt8)}:∀{u:U},Names NS u→∀m∈ai u,m.nm.toList∈NS∧Names NS m:=by
 intro u;induction u using U.bg with
 |_ u ih=>
  intro h m hm;have hu:=h.under;rcases(iu hm).2 with hm|⟨e,he,_,hm⟩
  ·exact hu.es (List.mem_of_mem_take hm)
  ·have a:=List.mem_of_mem_drop he
   have h1:=U.az a;have h2:=dE u;exact ih e (by omega) (hu.es a).2 m hm
theorem nT{α:Type} [DecidableEq α]:∀{l r:List α},l.Nodup→(∀x∈l,x∈r)→l.length≤r.length
 | [],r,_,_=>Nat.zero_le _
 |a::l,r,b,c=>by
  have ha:=c a List.mem_cons_self;have:=nT (l:=l) (r:=r.erase a) (List.nodup_cons.1 b).2 fun x d=>
   (List.mem_erase_of_ne (fun e=>(List.nodup_cons.1 b).1 (by rw[←e];exact d))).2 (c x (List.mem_cons_of_mem _ d))
  rw[List.length_erase_of_mem ha]at this;have:=List.length_pos_of_mem ha;simp only[List.length_cons];omega
theorem iT{NS:List (List UInt8)}{l:List U}(h:dG l)(d:∀m∈l,m.nm.toList∈NS):l.length≤NS.length:=by
 have h1:(l.map fun m=>m.nm.toList).Nodup:=List.pairwise_map.2 (h.imp fun{a b} c e=>by rw[fE.2 e]at c;cases c);have:=nT h1 (r:=NS) fun x f=>by
  obtain⟨m,hm,rfl⟩:=List.mem_map.1 f;exact d m hm
 simpa using this
theorem k_{w:World}{B:Nat}{e:TypeId}{size:Nat}{v:Value}{n:Nat}{xs:List Value}(h:w.ownsRow B e size v n xs)(k:0<n):
 ∃g cap,v= .slice (some ⟨g,0,none⟩) n cap∧B≤g∧g<w.heap.size∧n≤cap∧cap≤maxLen∧(∀j u,xs[j]?=some u→w.cell? ⟨g,j,none⟩=some u)∧∀j,j<xs.length→w.frozen? ⟨g,j,none⟩=false:=by
 rcases h.2 with⟨_,l⟩|⟨g,cap,cur,rfl,f,d,a,b,i,c⟩
 ·omega
 ·refine⟨g,cap,rfl,f,(Array.getElem?_eq_some_iff.1 d).1,a,b,fun j u hu=> ?_,fun j _=> ?_⟩
  ·have:=h.cells (g:=g) rfl j u hu
   rwa [show(⟨g,0,none⟩:Addr).add j=⟨g,j,none⟩ by unfold Addr.add;split<;>simp_all]at this
  ·simp[World.frozen?,d]
theorem kh{w:World}{B a:Nat}{e:TypeId}{size:Nat}{v:Value}{n:Nat}{xs:List Value}(h:w.ownsRow B e size v n xs)(b:a≤B):w.ownsRow a e size v n xs:=
 ⟨h.1,h.2.imp id fun⟨g,cap,cur,h1,h2,h3⟩=>⟨g,cap,cur,h1,Nat.le_trans b h2,h3⟩⟩
theorem bO{w a:World}{B:Nat}{e:TypeId}{size:Nat}{v:Value}{n:Nat}{xs:List Value}(h:w.ownsRow B e size v n xs)(b:Below w.heap.size w a):a.ownsRow B e size v n xs:=
 ⟨h.1,h.2.imp id fun⟨g,cap,cur,h1,h2,h3,c⟩=>⟨g,cap,cur,h1,h2,by rw[b.block g (Array.getElem?_eq_some_iff.1 h3).1];exact h3,c⟩⟩
end TS
namespace Go.Proofs.YtdkmnkjhhhmglaaGreatDoor
open Go.RowKit TS
theorem Bv(a:Addr)(w:World):(method 480 99 (.pointer (some a)) "Underlying").run Tryz.prog w= .ok (279,.pointer (some a)) w:=by kernel_rfl
theorem Bw(a:Addr)(w:World):(nilAhead 480 99 (.pointer (some a)) "Underlying").run Tryz.prog w= .ok (some false) w:=by kernel_rfl
theorem Bx(a:Addr)(w:World):(method 480 58 (.pointer (some a)) "Underlying").run Tryz.prog w= .ok (273,.pointer (some a)) w:=by kernel_rfl
theorem By(a:Addr)(w:World):(nilAhead 480 58 (.pointer (some a)) "Underlying").run Tryz.prog w= .ok (some false) w:=by kernel_rfl
theorem Bz(a:Addr)(w:World):(method 480 136 (.pointer (some a)) "Underlying").run Tryz.prog w= .ok (283,.pointer (some a)) w:=by kernel_rfl
theorem BA(a:Addr)(w:World):(nilAhead 480 136 (.pointer (some a)) "Underlying").run Tryz.prog w= .ok (some false) w:=by kernel_rfl
theorem BB(a:Addr)(w:World):(method 480 102 (.pointer (some a)) "Underlying").run Tryz.prog w= .ok (280,.pointer (some a)) w:=by kernel_rfl
theorem BD(a:Addr)(w:World):(nilAhead 480 102 (.pointer (some a)) "Underlying").run Tryz.prog w= .ok (some false) w:=by kernel_rfl
theorem BE(a:Addr)(w:World):(method 480 138 (.pointer (some a)) "Underlying").run Tryz.prog w= .ok (285,.pointer (some a)) w:=by kernel_rfl
theorem BF(a:Addr)(w:World):(nilAhead 480 138 (.pointer (some a)) "Underlying").run Tryz.prog w= .ok (some false) w:=by kernel_rfl
theorem BG(a:Addr)(w:World):(method 480 140 (.pointer (some a)) "Underlying").run Tryz.prog w= .ok (287,.pointer (some a)) w:=by kernel_rfl
theorem BH(a:Addr)(w:World):(nilAhead 480 140 (.pointer (some a)) "Underlying").run Tryz.prog w= .ok (some false) w:=by kernel_rfl
theorem BI(a:Addr)(w:World):(method 480 142 (.pointer (some a)) "Underlying").run Tryz.prog w= .ok (289,.pointer (some a)) w:=by kernel_rfl
theorem BJ(a:Addr)(w:World):(nilAhead 480 142 (.pointer (some a)) "Underlying").run Tryz.prog w= .ok (some false) w:=by kernel_rfl
theorem BK(a:Addr)(w:World):(method 480 144 (.pointer (some a)) "Underlying").run Tryz.prog w= .ok (291,.pointer (some a)) w:=by kernel_rfl
theorem BL(a:Addr)(w:World):(nilAhead 480 144 (.pointer (some a)) "Underlying").run Tryz.prog w= .ok (some false) w:=by kernel_rfl
theorem BM(a:Addr)(w:World):(method 480 146 (.pointer (some a)) "Underlying").run Tryz.prog w= .ok (293,.pointer (some a)) w:=by kernel_rfl
theorem BN(a:Addr)(w:World):(nilAhead 480 146 (.pointer (some a)) "Underlying").run Tryz.prog w= .ok (some false) w:=by kernel_rfl
theorem BO(a:Addr)(w:World):(method 480 167 (.pointer (some a)) "Underlying").run Tryz.prog w= .ok (294,.pointer (some a)) w:=by kernel_rfl
theorem BP(a:Addr)(w:World):(nilAhead 480 167 (.pointer (some a)) "Underlying").run Tryz.prog w= .ok (some false) w:=by kernel_rfl
theorem BQ(a:Addr)(w:World):(method 480 185 (.pointer (some a)) "Underlying").run Tryz.prog w= .ok (296,.pointer (some a)) w:=by kernel_rfl
theorem BR(a:Addr)(w:World):(nilAhead 480 185 (.pointer (some a)) "Underlying").run Tryz.prog w= .ok (some false) w:=by kernel_rfl
theorem BT(a:Addr)(w:World):(method 480 44 (.pointer (some a)) "Underlying").run Tryz.prog w= .ok (271,.pointer (some a)) w:=by kernel_rfl
theorem BU(a:Addr)(w:World):(nilAhead 480 44 (.pointer (some a)) "Underlying").run Tryz.prog w= .ok (some false) w:=by kernel_rfl
def cG(w:World)(T:TypeId)(b:Nat)(r:Value):Prop:=∃K fn c,Tryz.prog.funcs[K]?=some fn∧(fn.name== "runtime.NumGoroutine")=false∧fn.body=some c∧(∀W:World,(method 480 T (.pointer (some ⟨b,0,none⟩)) "Underlying").run Tryz.prog W= .ok (K,.pointer (some ⟨b,0,none⟩)) W)∧
 (∀W:World,(nilAhead 480 T (.pointer (some ⟨b,0,none⟩)) "Underlying").run Tryz.prog W= .ok (some false) W)∧Calls Tryz.prog K #[.pointer (some ⟨b,0,none⟩)] w fun e a=>e= .returned r∧w=a
theorem BV(b:Nat)(w:World):cG w 99 b (.iface 99 (.pointer (some ⟨b,0,none⟩))):=⟨_,_,_,Tryz.func279,by kernel_rfl,rfl,fun W=>Bv _ W,fun W=>Bw _ W,AY _ w⟩
theorem BW(b:Nat)(w:World):cG w 102 b (.iface 102 (.pointer (some ⟨b,0,none⟩))):=⟨_,_,_,Tryz.func280,by kernel_rfl,rfl,fun W=>BB _ W,fun W=>BD _ W,AZ _ w⟩
theorem BX(b:Nat)(w:World):cG w 138 b (.iface 138 (.pointer (some ⟨b,0,none⟩))):=⟨_,_,_,Tryz.func285,by kernel_rfl,rfl,fun W=>BE _ W,fun W=>BF _ W,A0 _ w⟩
theorem oN(b:Nat)(w:World):cG w 140 b (.iface 140 (.pointer (some ⟨b,0,none⟩))):=⟨_,_,_,Tryz.func287,by kernel_rfl,rfl,fun W=>BG _ W,fun W=>BH _ W,A1 _ w⟩
theorem BY(b:Nat)(w:World):cG w 142 b (.iface 142 (.pointer (some ⟨b,0,none⟩))):=⟨_,_,_,Tryz.func289,by kernel_rfl,rfl,fun W=>BI _ W,fun W=>BJ _ W,A2 _ w⟩
theorem BZ(b:Nat)(w:World):cG w 144 b (.iface 144 (.pointer (some ⟨b,0,none⟩))):=⟨_,_,_,Tryz.func291,by kernel_rfl,rfl,fun W=>BK _ W,fun W=>BL _ W,A3 _ w⟩
theorem B3(b:Nat)(w:World):cG w 146 b (.iface 146 (.pointer (some ⟨b,0,none⟩))):=⟨_,_,_,Tryz.func293,by kernel_rfl,rfl,fun W=>BM _ W,fun W=>BN _ W,A4 _ w⟩
theorem B4(b:Nat)(w:World):cG w 167 b (.iface 167 (.pointer (some ⟨b,0,none⟩))):=⟨_,_,_,Tryz.func294,by kernel_rfl,rfl,fun W=>BO _ W,fun W=>BP _ W,A5 _ w⟩
theorem B5(b:Nat)(w:World):cG w 185 b (.iface 185 (.pointer (some ⟨b,0,none⟩))):=⟨_,_,_,Tryz.func296,by kernel_rfl,rfl,fun W=>BQ _ W,fun W=>BR _ W,A6 _ w⟩
theorem B6(b:Nat)(w:World):cG w 44 b (.iface 44 (.pointer (some ⟨b,0,none⟩))):=⟨_,_,_,Tryz.func271,by kernel_rfl,rfl,fun W=>BT _ W,fun W=>BU _ W,AX _ w⟩
theorem qQ(b:Nat)(t:TypeId)(a:Option Addr)(w:World)(c:w.cell? ⟨b,5,none⟩=some (.int .u32 15))(d:w.cell? ⟨b,6,none⟩=some (.iface t (.pointer a)))(h7:w.cell? ⟨b,7,none⟩=some (.iface t (.pointer a))):
 cG w 58 b (.iface t (.pointer a)):=⟨_,_,_,Tryz.func273,by kernel_rfl,rfl,fun W=>Bx _ W,fun W=>By _ W,Bi b .nilIface t a w c d h7⟩
theorem B7(b c:Nat)(t:TypeId)(r:Value)(w:World)(h:w.cell? ⟨b,3,none⟩=some (.iface t (.pointer (some ⟨c,0,none⟩))))(i:cG w t c r):
 Calls Tryz.prog 283 #[.pointer (some ⟨b,0,none⟩)] w fun e d=>e= .returned r∧w=d:=by
 obtain⟨K,fn,c',f,a,g,hm,l,j⟩:=i;have k:=fun args w=>Go.MuLone.run_callFunc_enter f a g args w;clear f a g;go_enter Tryz.func283,Tryz.ntmps283;go_wp2_with fail
 refine(uN b _ _ _ h).mono ?_;rintro e d ⟨rfl,rfl⟩;go_wp2_with fail
 refine j.mono ?_;rintro e d ⟨rfl,rfl⟩;go_wp2_with fail
 go_ret;exact⟨rfl,rfl⟩
theorem B8(b c:Nat)(t:TypeId)(r:Value)(w:World)(h:w.cell? ⟨b,3,none⟩=some (.iface t (.pointer (some ⟨c,0,none⟩))))(a:cG w t c r):cG w 136 b r:=
 ⟨_,_,_,Tryz.func283,by kernel_rfl,rfl,fun W=>Bz _ W,fun W=>BA _ W,B7 b c t r w h a⟩
theorem uX(b:Nat)(pk:Option Addr)(s:ByteArray)(w:World)(h:w.cell? ⟨b,0,none⟩=some (.pointer pk)):
 Calls Tryz.prog 38 #[.pointer (some ⟨b,0,none⟩),.string s] w (Made #[.int .i64 0,.pointer pk,.string s,.nilIface] 128 w):=by
 go_enter Tryz.func38,Tryz.ntmps38;go_wp2_with fail
 refine(qK _ _ _ _).mono ?_;rintro e a ⟨rfl,rfl⟩;go_wp2_with fail
 go_ret;exact⟨rfl,rfl⟩
end Go.Proofs.YtdkmnkjhhhmglaaGreatDoor
namespace TS
open Go
def uY(p:Pm):Prop:=∀c:Nat,65≤c→c≤90→p 5 c=some (.int .u8 160)
def br(w:World):Prop:=∀c:Nat,65≤c→c≤90→w.cell? ⟨5,c,none⟩=some (.int .u8 160)
theorem br.drewN{w:World}(h:br w)(n:Nat):br (w.drewN n):=fun c h1 h2=>by simpa using h c h1 h2
theorem uY.world{p:Pm}{w:World}(h:uY p)(hw:KW p w):br w:=fun c h1 h2=>hw _ _ _ (h c h1 h2)
theorem uZ{s:ByteArray}(h:aM s=true):∃(c:UInt8)(r:List UInt8),s.data.toList=c::r∧65≤c.toNat∧c.toNat≤90:=by
 unfold aM at h;cases a:s.data.toList with
 |nil=>rw[a]at h;cases h
 |cons c r=>
  rw[a]at h;simp only[kU,lU,Bool.and_eq_true,decide_eq_true_eq]at h;obtain⟨⟨⟨h1,h2⟩,_⟩,_⟩:=h;exact⟨c,r,rfl,by simpa [UInt8.le_iff_toNat_le]using h1,by simpa [UInt8.le_iff_toNat_le]using h2⟩
end TS
namespace Go.Proofs.YtdkmnkjhhhmglaaGreatDoor
open Go.RowKit TS
theorem B9(s:ByteArray)(c:UInt8)(r:List UInt8)(b:s.data.toList=c::r)(h1:65≤c.toNat)(h2:c.toNat≤90)(w:World):
 Calls Tryz.prog 184 #[.string s] w fun e h=>e= .returned (.tuple #[.int .i32 c.toNat,.int .i64 1])∧w=h:=by
 have d:s.data.toList[0]?=some c:=by rw[b];rfl
 have a:0<s.size:=by
  rw[Lib.size_eq];exact(List.getElem?_eq_some_iff.1 d).1
 have i:s.toList.isEmpty=false:=by rw[Lib.toList_data,b];rfl
 have f:(s.toList= [])=False:=by rw[Lib.toList_data,b];simp
 have j:s[0]'a=c:=by
  have:=Lib.data_getElem? s 0 a;rw[d]at this;exact(Option.some.inj this).symm
 have g:(0:Int)<(s.size:Int):=by omega
 have k:(c.toNat:Int)<128:=by omega
 clear b d;go_enter Tryz.func184,Tryz.ntmps184;go_wp2_with fail
 go_ret2;exact⟨rfl,rfl⟩
theorem B_(c:Nat)(h1:65≤c)(h2:c≤90)(w:World)(hT:br w):Calls Tryz.prog 213 #[.int .i32 c] w fun e a=>e= .returned (.bool true)∧w=a:=by
 have b:=hT c h1 h2;have h3:(c:Int)≤255:=by omega
 have d:(c:Int)<256:=by omega
 have f:bits .and .u8 160 96=32:=by decide
 clear hT;go_enter Tryz.func213,Tryz.ntmps213;go_wp2_with fail
 go_ret;exact⟨rfl,rfl⟩
theorem oO(s:ByteArray)(d:aM s=true)(w:World)(hT:br w):Calls Tryz.prog 186 #[.string s] w fun e a=>e= .returned (.bool true)∧w=a:=by
 obtain⟨c,r,f,h1,h2⟩:=uZ d;have g:=B9 s c r f h1 h2;have h:=B_ c.toNat h1 h2;have b:=Lib.hid hT;clear f h1 h2 d hT;go_enter Tryz.func186,Tryz.ntmps186;go_wp2_with fail
 refine(g _).mono ?_;rintro e a ⟨rfl,rfl⟩;go_wp2_with fail
 refine(h _ b.out).mono ?_;rintro e a ⟨rfl,rfl⟩;go_wp2_with fail
 go_ret;exact⟨rfl,rfl⟩
theorem Ca(q:Option Addr)(s:ByteArray)(b:aM s=true)(w:World)(hT:br w):Calls Tryz.prog 150 #[.pointer q,.string s] w fun e c=>e= .returned (.string s)∧w=c:=by
 have d:=oO s b;have a:=Lib.hid hT;clear b hT;go_enter Tryz.func150,Tryz.ntmps150;go_wp2_with fail
 refine(d _ a.out).mono ?_;rintro e c ⟨rfl,rfl⟩;go_wp2_with fail
 go_ret;exact⟨rfl,rfl⟩
theorem oP(b:Nat)(q:Option Addr)(s:ByteArray)(a:aM s=true)(w:World)(hT:br w)(h1:w.cell? ⟨b,1,none⟩=some (.pointer q))(h2:w.cell? ⟨b,2,none⟩=some (.string s)):
 Calls Tryz.prog 103 #[.pointer (some ⟨b,0,none⟩)] w fun e c=>e= .returned (.string s)∧∃n,c=w.drewN n:=by
 have d:=Lib.hid fun n=>Ca q s a (w.drewN n) (hT.drewN n);clear a hT;go_enter Tryz.func103,Tryz.ntmps103;go_wp2_with fail
 go_quiet (first|(go_at_call 150;exact Calls.quiet_of_same ((d.out _).mono (by rintro e c ⟨he,hw⟩;exact⟨he,hw.symm⟩))))
 go_wp2_with fail
 go_ret;exact⟨rfl,_,rfl⟩
end Go.Proofs.YtdkmnkjhhhmglaaGreatDoor
namespace TS
open Go Go.RowKit
structure Kept(X:Nat→Prop)(w a:World):Prop where
 os:a.os=w.os
 tape:a.tape=w.tape
 output:a.output=w.output
 size:w.heap.size≤a.heap.size
 block:∀k,k<w.heap.size→¬X k→a.heap[k]?=w.heap[k]?
section
variable {X Y:Nat→Prop} {w w1 w2:World}
theorem Kept.refl(X:Nat→Prop)(w:World):Kept X w w:=⟨rfl,rfl,rfl,Nat.le_refl _,fun _ _ _=>rfl⟩
theorem Kept.of(h:Below w.heap.size w w1):Kept X w w1:=⟨h.os,h.tape,h.output,h.size,fun k hk _=>h.block k hk⟩
theorem Kept.trans(h:Kept X w w1)(k:Kept Y w1 w2)(a:∀b,b<w.heap.size→Y b→X b):Kept X w w2:=
 ⟨k.os.trans h.os,k.tape.trans h.tape,k.output.trans h.output,Nat.le_trans h.size k.size,fun b c d=>(k.block b (Nat.lt_of_lt_of_le c h.size) fun e=>d (a b c e)).trans (h.block b c d)⟩
theorem Kept.mono(h:Kept X w w1)(a:∀b,b<w.heap.size→X b→Y b):Kept Y w w1:=⟨h.os,h.tape,h.output,h.size,fun b c d=>h.block b c fun e=>d (a b c e)⟩
theorem Kept.below(h:Kept X w w1)(k:Below w1.heap.size w1 w2):Kept X w w2:=h.trans (Kept.of (X:=fun _=>False) k) fun _ _ h=>h.elim
theorem Kept.grown{row:Option Nat}(h:Kept X w w1)(a:w1.grownBy w2 row)(hr:∀k,row=some k→k<w.heap.size→X k):Kept X w w2:=
 h.trans (Y:=fun k=>row=some k) ⟨a.os,a.tape,a.output,a.size,fun k hk c=>a.block k hk fun e=>c e.symm⟩ fun b d e=>hr b e d
theorem Kept.setCell(h:Kept X w w1){a:Addr}(ha:a.block<w.heap.size→X a.block)(v:Value):Kept X w (w1.setCell a v):=
 h.trans (Y:=fun k=>k=a.block) ⟨rfl,rfl,rfl,by simp[World.setCell],fun k _ c=>Below.heap_setCell _ _ _ _ c⟩ fun b d e=>e▸ha (e▸d)
theorem Kept.alloc(h:Kept X w w1)(o:Obj):Kept X w (w1.alloc o):=h.below ((Below.refl _ _).alloc (Nat.le_refl _) o)
theorem Kept.cell(h:Kept X w w1){b o:Nat}(a:b<w.heap.size)(c:¬X b):w1.cell? ⟨b,o,none⟩=w.cell? ⟨b,o,none⟩:=World.cell?_of_block (w:=w) (h.block b a c)
theorem Kept.frozen(h:Kept X w w1){b o:Nat}(a:b<w.heap.size)(c:¬X b):w1.frozen? ⟨b,o,none⟩=w.frozen? ⟨b,o,none⟩:=World.frozen?_of_block (w:=w) (h.block b a c)
theorem KW.kept{p:Pm}(h:KW p w)(k:Kept X w w1)(c:∀b o v,p b o=some v→¬X b):KW p w1:=fun b o v a=>by rw[k.cell (h.lt a) (c b o v a)];exact h b o v a
theorem eC{B:Nat}{e:TypeId}{size:Nat}{v:Value}{n:Nat}{xs:List Value}(h:w.ownsRow B e size v n xs)(k:Kept X w w1)(a:∀g,v.ownBlock=some g→¬X g):w1.ownsRow B e size v n xs:=
 ⟨h.1,h.2.imp id fun⟨g,cap,cur,h1,h2,h3,b⟩=>⟨g,cap,cur,h1,h2,by rw[k.block g (Array.getElem?_eq_some_iff.1 h3).1 (a g (by rw[h1];rfl))];exact h3,b⟩⟩
theorem fI{B:Nat}{e:TypeId}{size:Nat}{v:Value}{n:Nat}{xs:List Value}(h:w.ownsRow B e size v n xs){a:Addr}(ha:v.ownBlock≠some a.block)(u:Value):(w.setCell a u).ownsRow B e size v n xs:=
 eC (X:=fun k=>k=a.block) h ((Kept.refl (fun k=>k=a.block) w).setCell (a:=a) (fun _=>rfl) u) fun g b e=>ha (e▸b)
end
theorem bn{w:World}{B:Nat}{e:TypeId}{size:Nat}{v:Value}{n:Nat}{xs:List Value}(h:w.ownsRow B e size v n xs):∃a c,v= .slice a n c:=by
 rcases h.2 with⟨rfl,rfl⟩|⟨g,cap,cur,rfl,_⟩
 ·exact⟨_,_,rfl⟩
 ·exact⟨_,_,rfl⟩
theorem eD(w:World)(x:Value)(T:TypeId):∀j u,[x][j]?=some u→(w.alloc (.cells #[x] T)).cell? ((⟨w.heap.size,0,none⟩:Addr).add j)=some u:=by
 intro j u a;rw[show(⟨w.heap.size,0,none⟩:Addr).add j=⟨w.heap.size,j,none⟩ by unfold Addr.add;split<;>simp_all,World.cell?_alloc_new];simpa using a
theorem one_one{x:Value}(h:x.oneCell'=true):∀v∈ [x],v.oneCell'=true:=by intro v a;simp at a;subst a;exact h
end TS
namespace Go.Proofs.YtdkmnkjhhhmglaaGreatDoor
open Go.RowKit TS
theorem u_:(Tryz.prog.info? 107).map (fun i=>(i.zero,i.size,i.bytes))=some (some (.pointer none),1,8):=by kernel_rfl
theorem vb:(Tryz.prog.info? 96).map (fun i=>(i.zero,i.size,i.bytes))=some (some (.pointer none),1,8):=by kernel_rfl
theorem qR:(Tryz.prog.info? 218).map (fun i=>(i.zero,i.size,i.bytes))=some (some (.pointer none),1,8):=by kernel_rfl
end Go.Proofs.YtdkmnkjhhhmglaaGreatDoor
namespace TS
open Go Go.RowKit Go.ChangeMaps
def Plain(w:World)(b:Nat):Prop:=∃cs T,w.heap[b]?=some (.cells cs T (0,0))
theorem jB{w:World}{b:Nat}(h:Plain w b)(a:Addr)(v:Value):Plain (w.setCell a v) b:=by
 obtain⟨cs,T,c⟩:=h;by_cases e:b=a.block
 ·subst e
  refine⟨if a.spot.isSome then cs else cs.setIfInBounds a.off v,T,?_⟩;unfold World.setCell;simp only[Array.getElem?_modify,if_pos rfl,c];rfl
 ·exact⟨cs,T,by rw[Below.heap_setCell _ _ _ _ e];exact c⟩
structure KeyLaw(P:Program)(kt:TypeId)(K:World→Value→Prop):Prop where
 check:∀(w:World)(em:Bool){v:Value},K w v→(Instr.checkKey em 10000 kt v).run P w= .ok () w
 find:∀(w:World){x:Value},K w x→∀es:List MapEntry,(∀e∈es,K w e.key)→
  ((Instr.findKey kt x es).run P w= .ok none w∧∀e∈es,e.key≠x)∨∃j e,(Instr.findKey kt x es).run P w= .ok (some (j,e.val)) w∧es[j]?=some e∧e.key=x
 stays:∀(w:World){v:Value},K w v→(Instr.keyThatStays v v).run P w= .ok v w
def cq(K:World→Value→Prop)(w:World)(b:Nat)(F:Value→Option Value):Prop:=
 ∃es clock,w.heap[b]?=some (.map es clock)∧(∀e∈es.toList,K w e.key∧F e.key=some e.val)∧(∀x v,F x=some v→∃e∈es.toList,e.key=x)∧es.toList.Pairwise fun x y=>x.key≠y.key
section
variable {P:Program} {kt:TypeId} {K:World→Value→Prop} {w w':World} {b:Nat} {F:Value→Option Value}
theorem jC(K:World→Value→Prop)(w:World):cq K (w.alloc (.map #[] 0)) w.heap.size fun _=>none:=
 ⟨#[],0,(MapKept.heap_alloc w _).1,by simp,by simp,by simp⟩
theorem cq.lt(h:cq K w b F):b<w.heap.size:=by obtain⟨es,clock,a,_⟩:=h;exact(Array.getElem?_eq_some_iff.1 a).1
theorem cq.of(h:cq K w b F)(a:w'.heap[b]?=w.heap[b]?)(c:∀v,K w v→K w' v):cq K w' b F:=by
 obtain⟨es,clock,d,h1,h2,h3⟩:=h;exact⟨es,clock,a.trans d,fun e he=>⟨c _ (h1 e he).1,(h1 e he).2⟩,h2,h3⟩
theorem cq.look(h:cq K w b F)(L:KeyLaw P kt K){t e:TypeId}(f:P.underlying t=some (.map kt e)){z:Value}(i:(zeroValue e).run P w= .ok z w){x:Value}(a:K w x):
 (Instr.lookup t (.map (some b)) x false).run P w= .ok ((F x).getD z) w:=by
 obtain⟨es,clock,g,h1,h2,_⟩:=h;rcases L.find w a es.toList (fun e he=>(h1 e he).1)with⟨c,k⟩|⟨j,d,c,l,hk⟩
 ·have hF:F x=none:=by
   cases hF:F x with
   |none=>rfl
   |some v=>obtain⟨d,he,hk⟩:=h2 x v hF;exact absurd hk (k d he)
  simp[Instr.lookup,run_underlying f,MapKept.run_getObj_map g,L.check w _ a,c,i,hF,Result.andThen]
 ·have:=(h1 d (List.mem_of_getElem? l)).2
  rw[hk]at this;simp[Instr.lookup,run_underlying f,MapKept.run_getObj_map g,L.check w _ a,c,this,Result.andThen]
def mP(K:World→Value→Prop):Prop:=∀(w W:World)(b:Nat)(es:Array MapEntry)(c:Nat),w.heap[b]?=some (.map es c)→(∀k,k≠b→W.heap[k]?=w.heap[k]?)→∀y,K w y→K W y
theorem cq.store(h:cq K w b F)(L:KeyLaw P kt K)(U:mP K){t e:TypeId}(R:P.underlying t=some (.map kt e)){x:Value}(v:Value)(B:K w x):
 ∃w',(Instr.mapUpdate t (.map (some b)) x v).run P w= .ok () w'∧(∀C:Value→Option Value,(∀y,y≠x→C y=F y)→C x=some v→cq K w' b C)∧w.grownBy w' (some b):=by
 obtain⟨es,clock,p,h1,h2,h3⟩:=h;have D:∀o,w.grownBy (ChangeMaps.setBlock w b o) (some b):=fun o=>⟨rfl,rfl,rfl,by simp[ChangeMaps.setBlock],fun i _ hi=>heap_setBlock_other p _ (fun e=>hi (by rw[e]))⟩
 have q:∀o y,K w y→K (ChangeMaps.setBlock w b o) y:=fun o y r=>U w _ b es clock p (fun k hk=>heap_setBlock_other p _ hk) y r;rcases L.find w B es.toList (fun e he=>(h1 e he).1)with⟨J,S⟩|⟨j,M,J,H,hk⟩
 ·refine⟨ChangeMaps.setBlock w b (.map (es.push ⟨x,v,clock⟩) (clock+1)),?_,fun C l s=>⟨_,_,heap_setBlock_same p _,fun e he=> ?_,fun y u r=> ?_,?_⟩,D _⟩
  ·simp[Instr.mapUpdate,run_underlying R,MapKept.run_getObj_map p,L.check w false B,J,MapKept.run_setObj_map _ p,Result.andThen,ChangeMaps.setBlock]
  ·simp only[Array.toList_push,List.mem_append,List.mem_singleton]at he
   rcases he with he|rfl
   ·exact⟨q _ _ (h1 e he).1,by rw[l _ (S e he)];exact(h1 e he).2⟩
   ·exact⟨q _ _ B,s⟩
  ·by_cases g:y=x
   ·exact⟨⟨x,v,clock⟩,by simp,g.symm⟩
   ·rw[l y g]at r
    obtain⟨e,he,hk⟩:=h2 y u r;exact⟨e,by simp[Array.mem_toList_iff.1 he],hk⟩
  ·simp only[Array.toList_push]
   rw[List.pairwise_append];exact⟨h3,List.pairwise_singleton _ _,fun a ha c T=>by simp at T;subst T;exact S a ha⟩
 ·have m:=(List.getElem?_eq_some_iff.1 H).1
  have z:=(List.getElem?_eq_some_iff.1 H).2;have N:es[j]?=some M:=by rw[←Array.getElem?_toList];exact H
  have n:(es.modify j fun e=> {e with key:=x,val:=v}).toList=es.toList.set j {M with key:=x,val:=v}:=by
   rw[Array.toList_modify];exact modify_eq_set _ _ _ _ H
  have d:∀i(hi:i<es.toList.length),i≠j→(es.toList[i]).key≠x:=fun i hi V=>by
   have I:=List.pairwise_iff_getElem.1 h3;intro E;rcases Nat.lt_or_ge i j with O|W
   ·exact I i j hi m O (by rw[E,z,hk])
   ·exact I j i m hi (by omega) (by rw[E,z,hk])
  refine⟨ChangeMaps.setBlock w b (.map (es.modify j fun e=> {e with key:=x,val:=v}) clock),?_,fun C l s=>⟨_,_,heap_setBlock_same p _,fun e he=> ?_,fun y u r=> ?_,?_⟩,D _⟩
  ·simp[Instr.mapUpdate,run_underlying R,MapKept.run_getObj_map p,L.check w false B,J,N,hk,L.stays w B,MapKept.run_setObj_map _ p,Result.andThen,ChangeMaps.setBlock]
  ·rw[n]at he
   obtain⟨i,hi,rfl⟩:=List.getElem_of_mem he;simp only[List.length_set]at hi;rw[List.getElem_set];split
   ·exact⟨q _ _ B,s⟩
   ·rename_i f
    have:=h1 _ (List.getElem_mem hi);exact⟨q _ _ this.1,by rw[l _ (d i hi fun e=>f e.symm)];exact this.2⟩
  ·rw[n]
   by_cases g:y=x
   ·exact⟨{M with key:=x,val:=v},by rw[List.mem_iff_getElem];exact⟨j,by simpa using m,by simp⟩,g.symm⟩
   ·rw[l y g]at r
    obtain⟨e,he,G⟩:=h2 y u r;obtain⟨i,hi,rfl⟩:=List.getElem_of_mem he;have f:j≠i:=fun e=>g (by subst e;rw[←G,z,hk]);exact⟨es.toList[i],by rw[List.mem_iff_getElem];exact⟨i,by simpa using hi,by rw[List.getElem_set_ne f]⟩,G⟩
  ·rw[n]
   rw[List.pairwise_iff_getElem];intro i k hi A Q;simp only[List.length_set]at hi A;have I:=List.pairwise_iff_getElem.1 h3 i k hi A Q;rw[List.getElem_set,List.getElem_set];split
   ·split
    ·omega
    ·rename_i f;exact fun e=>d k A (fun e=>f e.symm) e.symm
   ·split
    ·rename_i f _;exact d i hi fun e=>f e.symm
    ·exact I
end
theorem Cb{P:Program}{kt:TypeId}(h:P.underlying kt=some .string):KeyLaw P kt fun _ v=> ∃s,v= .string s where
 check w em _ a:=by obtain⟨s,rfl⟩:=a;exact MapKept.run_checkKey h (d:= .string) (k:= .string s) trivial em 9999
 find w _ i es c:=by
  obtain⟨s,rfl⟩:=i;have f:∀x∈es,MapKept.IsKey .string x.key:=fun x g=>by obtain⟨m,e⟩:=c x g;rw[e];trivial
  rcases MapKept.findNow_spec (d:= .string) (k:= .string s) trivial es 0 f with⟨h1,h2⟩|⟨j,l,h1,h2,h3⟩
  ·exact Or.inl ⟨MapKept.run_findKey h h1,h2⟩
  ·exact Or.inr ⟨j,l,by simpa using MapKept.run_findKey h h1,h2,h3⟩
 stays w _ a:=by obtain⟨s,rfl⟩:=a;exact MapKept.run_keyThatStays (d:= .string) (k:= .string s) trivial
theorem vd{P:Program}{kt:TypeId}{K:World→Value→Prop}{w:World}{x:Value}(f:∀y,K w y→(y=x∧(Op.equal kt x y).run P w= .ok true w)∨(y≠x∧(Op.equal kt x y).run P w= .ok false w)):∀(es:List MapEntry)(i:Nat),(∀e∈es,K w e.key)→
 ((Instr.findAsking kt x es i).run P w= .ok none w∧∀e∈es,e.key≠x)∨∃j e,(Instr.findAsking kt x es i).run P w= .ok (some (i+j,e.val)) w∧es[j]?=some e∧e.key=x:=by
 intro es;induction es with
 |nil=>exact fun i _=> .inl ⟨rfl,by simp⟩
 |cons e r ih=>
  intro i h;rcases f e.key (h e List.mem_cons_self)with⟨h1,h2⟩|⟨h1,h2⟩
  ·exact .inr ⟨0,e,by simp[Instr.findAsking,h2,Result.andThen],rfl,h1⟩
  ·rcases ih (i+1) (fun y a=>h y (List.mem_cons_of_mem _ a))with⟨c,d⟩|⟨j,g,c,d,k⟩
   ·exact .inl ⟨by simp[Instr.findAsking,h2,c,Result.andThen],fun y a=>by
     rcases List.mem_cons.1 a with rfl|a
     ·exact h1
     ·exact d y a⟩
   ·exact .inr ⟨j+1,g,by simp[Instr.findAsking,h2,c,Result.andThen];omega,by simpa using d,k⟩
def qS(w:World)(v:Value):Prop:=∃b,v= .pointer (some ⟨b,0,none⟩)∧Plain w b
theorem vg{P:Program}{kt m:TypeId}{j:TypeInfo}(g:P.underlying kt=some (.pointer m))(i:P.info? m=some j)(o:j.size≠0):KeyLaw P kt qS where
 check w em _ p:=by
  obtain⟨b,rfl,_⟩:=p;have h:∀n,(Instr.checkKey em (n+1) kt (.pointer (some ⟨b,0,none⟩))).run P w= .ok () w:=fun n=>by simp[Instr.checkKey,run_underlying g,Result.andThen]
  exact h 9999
 find w x t es f:=by
  obtain⟨b,rfl,cs,T,u⟩:=t;have v:∀y,qS w y→(y=(.pointer (some ⟨b,0,none⟩))∧(Op.equal kt (.pointer (some ⟨b,0,none⟩)) y).run P w= .ok true w)∨(y≠(.pointer (some ⟨b,0,none⟩))∧(Op.equal kt (.pointer (some ⟨b,0,none⟩)) y).run P w= .ok false w):=by
   rintro y ⟨c,rfl,z,T',A⟩;by_cases h:c=b
   ·subst h
    have h:∀d,(Op.equalIn (d+1) kt (.pointer (some ⟨c,0,none⟩)) (.pointer (some ⟨c,0,none⟩))).run P w= .ok true w:=fun d=>by simp[Op.equalIn,run_underlying g,Go.sizeOf,typeInfo,i,run_sameAddr_same]
    exact .inl ⟨rfl,h 9999⟩
   ·have l:∀d,(Op.equalIn (d+1) kt (.pointer (some ⟨b,0,none⟩)) (.pointer (some ⟨c,0,none⟩))).run P w= .ok false w:=fun d=>by
     simp[Op.equalIn,run_underlying g,Go.sizeOf,typeInfo,i,o,run_sameAddr_other w (a:=⟨b,0,none⟩) (b:=⟨c,0,none⟩) (fun e=>h (by cases e;rfl)) u A]
    exact .inr ⟨fun e=>h (by cases e;rfl),l 9999⟩
  match es,f with
  | [],_=>exact .inl ⟨by simp[Instr.findKey,run_underlying g,Instr.findNow,Result.andThen],by simp⟩
  |e::r,f=>
   have k:Instr.findNow (.pointer m) (.pointer (some ⟨b,0,none⟩)) (e::r) 0=none:=by simp[Instr.findNow,Instr.sameNow]
   rcases vd v (e::r) 0 f with⟨q,s⟩|⟨j,B,q,s,C⟩
   ·exact .inl ⟨by simp[Instr.findKey,run_underlying g,k,q,Result.andThen],s⟩
   ·exact .inr ⟨j,B,by simp[Instr.findKey,run_underlying g,k,q,Result.andThen],s,C⟩
 stays w _ p:=by
  obtain⟨b,rfl,_⟩:=p;have h:∀n,Instr.sameBits (n+1) (.pointer (some ⟨b,0,none⟩)) (.pointer (some ⟨b,0,none⟩))=true:=fun n=>by simp[Instr.sameBits]
  have l:=h 9999;simp only[Nat.reduceAdd]at l;simp[Instr.keyThatStays,l]
def fA(P:Program)(w:World)(v:Value):Prop:=∃t a b i j,v= .iface t (.pointer (some ⟨b,0,none⟩))∧P.underlying t=some (.pointer a)∧P.info? t=some i∧i.comparable=true∧P.info? a=some j∧j.size≠0∧Plain w b
theorem Cc{P:Program}{kt:TypeId}{ms:Array (String×TypeId)}(hi:P.underlying kt=some (.interface ms)):KeyLaw P kt (fA P) where
 check w em _ s:=by
  obtain⟨t,B,b,i,j,rfl,m,a,o,f,k,_⟩:=s;have h:∀n,(Instr.checkKey em (n+2) kt (.iface t (.pointer (some ⟨b,0,none⟩)))).run P w= .ok () w:=fun n=>by simp[Instr.checkKey,run_underlying hi,run_underlying m,typeInfo,a,o,Result.andThen]
  exact h 9998
 find w x E es g:=by
  obtain⟨t,B,b,i,j,rfl,m,a,o,f,k,cs,T,G⟩:=E;have H:∀y,fA P w y→(y=(.iface t (.pointer (some ⟨b,0,none⟩)))∧(Op.equal kt (.iface t (.pointer (some ⟨b,0,none⟩))) y).run P w= .ok true w)∨(y≠(.iface t (.pointer (some ⟨b,0,none⟩)))∧(Op.equal kt (.iface t (.pointer (some ⟨b,0,none⟩))) y).run P w= .ok false w):=by
   rintro y ⟨t',I,c,Q,R,rfl,J,p,L,C,D,M,T',u⟩;by_cases v:t=t'
   ·subst v
    by_cases h:c=b
    ·subst h
     exact .inl ⟨rfl,run_equalIn_iface_ptr_same w 9998 _ hi m a o f⟩
    ·exact .inr ⟨fun e=>h (by cases e;rfl),run_equalIn_iface_ptr_other w 9998 hi m a o f k (fun e=>h (by cases e;rfl)) G u⟩
   ·have q:∀d,(Op.equalIn (d+1) kt (.iface t (.pointer (some ⟨b,0,none⟩))) (.iface t' (.pointer (some ⟨c,0,none⟩)))).run P w= .ok false w:=fun d=>by simp[Op.equalIn,run_underlying hi,v]
    exact .inr ⟨fun e=>v (by cases e;rfl),q 9999⟩
  match es,g with
  | [],_=>exact .inl ⟨by simp[Instr.findKey,run_underlying hi,Instr.findNow,Result.andThen],by simp⟩
  |e::r,g=>
   have l:Instr.findNow (.interface ms) (.iface t (.pointer (some ⟨b,0,none⟩))) (e::r) 0=none:=by simp[Instr.findNow,Instr.sameNow]
   rcases vd H (e::r) 0 g with⟨z,A⟩|⟨j,N,z,A,O⟩
   ·exact .inl ⟨by simp[Instr.findKey,run_underlying hi,l,z,Result.andThen],A⟩
   ·exact .inr ⟨j,N,by simp[Instr.findKey,run_underlying hi,l,z,Result.andThen],A,O⟩
 stays w _ s:=by
  obtain⟨t,B,b,i,j,rfl,_⟩:=s;have h:∀n,Instr.sameBits (n+2) (.iface t (.pointer (some ⟨b,0,none⟩))) (.iface t (.pointer (some ⟨b,0,none⟩)))=true:=fun n=>by simp[Instr.sameBits]
  have q:=h 9998;simp only[Nat.reduceAdd]at q;simp[Instr.keyThatStays,q]
theorem vh:mP fun _ v=> ∃s,v= .string s:=fun _ _ _ _ _ _ _ _ h=>h
theorem vl{w W:World}{b:Nat}{es:Array MapEntry}{c:Nat}(d:w.heap[b]?=some (.map es c))(hk:∀k,k≠b→W.heap[k]?=w.heap[k]?){x:Nat}(h:Plain w x):Plain W x:=by
 obtain⟨cs,T,a⟩:=h;exact⟨cs,T,by rw[hk x fun e=>by rw[e,d]at a;cases a];exact a⟩
theorem fJ(P:Program):mP (fA P):=fun _ _ _ _ _ a hk _ ⟨t,c,b,i,j,e,h1,h2,h3,d,f,h⟩=>⟨t,c,b,i,j,e,h1,h2,h3,d,f,vl a hk h⟩
section
variable {P:Program} {kt:TypeId} {K:World→Value→Prop}
theorem eE(w:World){ops:Array Oper}{rest:List Oper}{o:Oper}{a:Act}{Q:Exit→Act→World→Prop}(i:o.guard=none)(m x:Operand)(t:TypeId)(f:o.op=Op.lookup t m x false)
 (L:KeyLaw P kt K)(e:TypeId)(j:P.underlying t=some (.map kt e))(z:Value)(k:∀w,(zeroValue e).run P w= .ok z w)(b:Nat)(F:Value→Option Value)(hm:a.eval m= .map (some b))(h:cq K w b F)
 (key:Value)(l:a.eval x=key)(hk:K w key)(val:Value)(d:(F key).getD z=val)(n:wpList P ops Q rest (a.put o.dst val) w):wpList P ops Q (o::rest) a w:=by
 refine wpList_plain i fun p g=> ?_;have c:=h.look L j (k w) hk;rw[d]at c;unfold Oper.wp;simp[execOp,f,hm,l,c,Result.andThen];exact g _ _ n
theorem jD(w:World){ops:Array Oper}{rest:List Oper}{o:Oper}{a:Act}{Q:Exit→Act→World→Prop}(g:o.guard=none)(m x:Operand)(t:TypeId)(d:o.op=Op.lookup t m x false)
 (L:KeyLaw P kt K)(e:TypeId)(h:P.underlying t=some (.map kt e))(z:Value)(i:∀w,(zeroValue e).run P w= .ok z w)(hm:a.eval m= .map none)
 (key:Value)(k:a.eval x=key)(hk:K w key)(l:wpList P ops Q rest (a.put o.dst z) w):wpList P ops Q (o::rest) a w:=by
 refine wpList_plain g fun q f=> ?_;have c:(Instr.lookup t (.map none) key false).run P w= .ok z w:=by
  rcases L.find w hk [] (by simp)with⟨n,_⟩|⟨j,r,_,p,_⟩
  ·simp[Instr.lookup,run_underlying h,L.check w true hk,n,i,Result.andThen]
  ·simp at p
 unfold Oper.wp;simp[execOp,d,hm,k,c,Result.andThen];exact f _ _ l
theorem eF(w:World){ops:Array Oper}{rest:List Oper}{o:Oper}{a:Act}{Q:Exit→Act→World→Prop}(j:o.guard=none)(m x v:Operand)(t:TypeId)(d:o.op=Op.mapUpdate t m x v)
 (L:KeyLaw P kt K)(f:mP K)(e:TypeId)(k:P.underlying t=some (.map kt e))(b:Nat)(F:Value→Option Value)(hm:a.eval m= .map (some b))(h:cq K w b F)(key val:Value)(l:a.eval x=key)(n:a.eval v=val)(hk:K w key)
 (p:∀w',(∀g:Value→Option Value,(∀y,y≠key→g y=F y)→g key=some val→cq K w' b g)→w.grownBy w' (some b)→wpList P ops Q rest (a.put o.dst undef) w'):wpList P ops Q (o::rest) a w:=by
 refine wpList_plain j fun s i=> ?_;obtain⟨w',c,q,r⟩:=h.store L f k val hk;unfold Oper.wp;simp[execOp,d,hm,l,n,c,Result.andThen];exact i _ _ (p w' q r)
end
end TS
namespace Go.Proofs.YtdkmnkjhhhmglaaGreatDoor
open Go.RowKit TS
theorem vm(B b bo r pb:Nat)(s nm:ByteArray)(fs:List Nat)(aG:Nat→ByteArray)(v:Value)(w:World)(hn:fs.length≤1099511627776)
 (h1:w.cell? ⟨b,1,none⟩=some (.pointer (some ⟨bo,0,none⟩)))(h5:w.cell? ⟨b,5,none⟩=some (.int .u32 15))(Z:w.cell? ⟨b,9,none⟩=some v)(f9:w.frozen? ⟨b,9,none⟩=false)(F:v.ownBlock≠some b)
 (f:w.ownsRow B 107 1 v fs.length (fs.map fun b=> .pointer (some ⟨b,0,none⟩)))(hB:B≤w.heap.size)
 (ho:w.cell? ⟨bo,1,none⟩=some (.pointer (some ⟨pb,0,none⟩)))(hm:w.cell? ⟨r,1,none⟩=some (.pointer (some ⟨pb,0,none⟩)))(PM:w.cell? ⟨r,2,none⟩=some (.string nm))(hp:w.cell? ⟨pb,0,none⟩=some (.string s))
 (hs:∀(i:Nat)(h:i<fs.length),w.cell? ⟨fs[i],2,none⟩=some (.string (aG i)))(G:∀i,i<fs.length→((aG i).toList==nm.toList)=false)(h_:(nm.toList== [95])=false):
 Calls Tryz.prog 92 #[.pointer (some ⟨b,0,none⟩),.pointer (some ⟨r,0,none⟩)] w fun e q=>e= .returned (.tuple #[])∧
  ∃H,q.cell? ⟨b,9,none⟩=some H∧q.frozen? ⟨b,9,none⟩=false∧(H.ownBlock=v.ownBlock∨∃k,H.ownBlock=some k∧w.heap.size≤k)∧q.ownsRow B 107 1 H (fs++ [r]).length ((fs++ [r]).map fun b=> .pointer (some ⟨b,0,none⟩))∧
   Kept (fun k=>k=b∨v.ownBlock=some k) w q∧(∀o,o≠9→q.cell? ⟨b,o,none⟩=w.cell? ⟨b,o,none⟩)∧(Plain w b→Plain q b):=by
 obtain⟨a,c,rfl⟩:=bn f;have I:Hid (bw w a fs.length (fun i=>fs.getD i 0)):=fun i hi=>by
  rcases f.2 with⟨_,h0⟩|⟨g,cap,cur,e,_⟩
  ·omega
  ·cases e
   have:=f.cells (g:=g) rfl i (.pointer (some ⟨fs[i],0,none⟩)) (by simp[hi]);rw[show(⟨g,0,none⟩:Addr).add i=⟨g,i,none⟩ by unfold Addr.add;split<;>simp_all]at this;exact⟨g,0,rfl,by simpa [hi]using this⟩
 have J:Hid (∀i,i<fs.length→w.cell? ⟨fs.getD i 0,2,none⟩=some (.string (aG i))):=fun i hi=>by simpa [hi]using hs i hi
 have u:=Lib.hid G;have l:=Lib.hid f;have d:=Lib.hid F;have K:=Lib.hid hB;have L:=World.block_lt_of_cell? _ _ Z;simp only at L;obtain⟨i0,hi,PN,PO,PQ⟩:=info_parts u_;clear hs G f F hB;have M:(s.toList==s.toList)=true:=by simp
 go_enter Tryz.func92,Tryz.ntmps92;go_wp2_with fail
 go_quiet (first|(go_at_call 141;exact Calls.quiet_of ((Bn pb pb s s _ (by simpa using hp) (by simpa using hp)).mono (by rintro e q ⟨he,hw⟩;rw[M]at he;exact⟨he,hw⟩)))|(go_at_call 125;exact Calls.quiet_of_same ((iI _).mono (by rintro e q ⟨he,hw⟩;exact⟨he,hw.symm⟩))))
 go_wp2_with fail
 refine(uR b _ (by simpa using h5)).mono ?_;rintro e q ⟨rfl,rfl⟩;go_wp2_with fail
 refine(Bt b a fs.length c (fun i=>fs.getD i 0) aG nm _ hn (by simpa using Z) (fun i hi=>by obtain⟨b',o,rfl,h⟩:=I.out i hi;exact⟨b',o,rfl,by simpa using h⟩) (fun i hi=>by simpa using J.out i hi) u.out h_).mono ?_;rintro e q ⟨rfl,rfl⟩;generalize x:w.drewN nq=W at*;have y:∀a,W.cell? a=w.cell? a:=fun a=>by rw[←x];simp
 have N:∀a,W.frozen? a=w.frozen? a:=fun a=>by rw[←x];simp
 have m:Hid (W.ownsRow B 107 1 (.slice a fs.length c) fs.length (fs.map fun b=> .pointer (some ⟨b,0,none⟩))):=by rw[←x];exact l.out
 have O:Hid (Plain w b→Plain W b):=by rw[←x];exact fun h=>h
 have hK:Hid (Kept (fun k=>k=b∨(Value.slice a fs.length c).ownBlock=some k) w W):=by rw[←x];exact⟨rfl,rfl,rfl,Nat.le_refl _,fun _ _ _=>rfl⟩
 have z:Hid (B≤W.heap.size∧W.heap.size=w.heap.size):=by rw[←x];exact⟨K.out,rfl⟩
 have P:W.cell? ⟨b,9,none⟩=some (.slice a fs.length c):=by rw[y];exact Z
 have Q:W.frozen? ⟨b,9,none⟩=false:=by rw[N];exact f9
 have A:b<W.heap.size:=by rw[z.out.2];exact L
 have R:=Lib.hid y;clear I J u l K x y N Z f9 h1 h5 ho hm PM hp M h_;have n:=Lib.hid (m.out.alloc (.cells #[.pointer (some ⟨r,0,none⟩)] 107));go_wp2_with (at_builtin;refine wpList_append_own_at _ rfl _ _ 109 rfl B 107 i0 (.pointer none) 1 8 Tryz.underlying109 hi PN PO PQ rfl (by decide) _ _ _ rfl n.out ⟨W.heap.size,0,none⟩ 1 1 [.pointer (some ⟨r,0,none⟩)] rfl rfl (eD W _ _) (one_one rfl) ?c3 ?c4 ?c5 ?_)
 case c3=>unfold maxLen;omega
 case c4=>omega
 case c5=>simp;have:=z.out.1;omega
 intro H C j p _ D;obtain⟨a',c',rfl⟩:=bn j;have S:Hid ((Value.slice a' (fs.length+1) c').ownBlock=a.map (·.block)∨∃k,(Value.slice a' (fs.length+1) c').ownBlock=some k∧w.heap.size≤k):=by
  rcases D with e|e
  ·left;rw[e];cases a<;>rfl
  ·right;refine⟨_,e,?_⟩;have:=z.out.2;omega
 have U:Hid ((Value.slice a' (fs.length+1) c').ownBlock≠some b):=by
  rcases D with e|e
  ·rw[e];exact d.out
  ·rw[e];intro h;injection h with h;omega
 have PR:Hid (Kept (fun k=>k=b∨(Value.slice a fs.length c).ownBlock=some k) w C):=(hK.out.alloc _).grown p fun k hk _=> .inr hk;have V:Hid (Plain w b→Plain C b):=fun h=>by
  obtain⟨cs,T,h⟩:=O.out h;refine⟨cs,T,?_⟩;rw[p.block b (by simp;omega) fun e=>d.out e.symm];exact(Below.heap_alloc _ _ _ A).trans h
 have X:Hid (∀o,C.cell? ⟨b,o,none⟩=W.cell? ⟨b,o,none⟩):=fun o=>by
  have e1:C.cell? ⟨b,o,none⟩=(W.alloc (.cells #[.pointer (some ⟨r,0,none⟩)] 107)).cell? ⟨b,o,none⟩:=World.cell?_of_block (p.block b (by simp;omega) fun e=>d.out e.symm);rw[e1,World.cell?_alloc_lt _ _ _ A]
 have Y:C.frozen? ⟨b,9,none⟩=false:=by
  have e1:C.frozen? ⟨b,9,none⟩=(W.alloc (.cells #[.pointer (some ⟨r,0,none⟩)] 107)).frozen? ⟨b,9,none⟩:=World.frozen?_of_block (p.block b (by simp;omega) fun e=>d.out e.symm);rw[e1,World.frozen?_alloc_old _ _ _ (Nat.ne_of_lt A)];exact Q
 have E:C.cell? ⟨b,9,none⟩=some (.slice a fs.length c):=by rw[X.out];exact P
 have t:=Lib.hid j;have PS:=d.out;have aa:=World.block_lt_of_cell? _ _ E;simp only at aa;clear j p D d hK m n P Q;go_wp2_with fail
 go_end0
 refine⟨rfl,.slice a' (fs.length+1) c',by simp[go_sem,E,Y],by simp[go_sem,E,Y],?_,?_,?_,fun o ho=> ?_,fun h=>jB (V.out h) _ _⟩
 ·rcases S.out with e|e
  ·left;rw[e];cases a<;>rfl
  ·exact .inr e
 ·refine fI ?_ U.out _
  simpa using t.out
 ·exact PR.out.setCell (fun _=> .inl rfl) _
 ·rw[World.cell?_setCell_other _ _ _ _ (by first|(simp;done)|(simp;omega)),X.out,R.out]
end Go.Proofs.YtdkmnkjhhhmglaaGreatDoor
namespace TS
open Go Go.RowKit
noncomputable def bF(F:Value→Option Value)(k v:Value):Value→Option Value:=fun y=> @ite _ (y=k) (Classical.propDecidable _) (some v) (F y)
theorem bX(F:Value→Option Value)(k v:Value):bF F k v k=some v:=by unfold bF;rw[if_pos rfl]
theorem ba(F:Value→Option Value){k v y:Value}(h:y≠k):bF F k v y=F y:=by unfold bF;rw[if_neg h]
def mQ(_:World)(v:Value):Prop:=∃s,v= .string s
def gH(w:World)(a:Nat)(m:Option Nat)(F:Value→Option Value):Prop:=
 w.cell? ⟨a,0,none⟩=some (.map m)∧w.frozen? ⟨a,0,none⟩=false∧(m=none→F=fun _=>none)∧∀b,m=some b→cq mQ w b F
theorem gH.of{w c:World}{b:Nat}{m:Option Nat}{F:Value→Option Value}(h:gH w b m F)(d:c.heap[b]?=w.heap[b]?)(hm:∀a,m=some a→c.heap[a]?=w.heap[a]?):gH c b m F:=
 ⟨(World.cell?_of_block (w:=w) d).trans h.1,(World.frozen?_of_block (w:=w) d).trans h.2.1,h.2.2.1,fun a e=>(h.2.2.2 a e).of (hm a e) fun _ h=>h⟩
end TS
namespace Go.Proofs.YtdkmnkjhhhmglaaGreatDoor
open Go.RowKit TS Go.ChangeMaps
theorem mR:KeyLaw Tryz.prog 9 mQ:=Cb Tryz.underlying9
theorem Cd(f:Nat)(w:World):(method 480 96 (.pointer (some ⟨f,0,none⟩)) "Id").run Tryz.prog w= .ok (103,.pointer (some ⟨f,0,none⟩)) w:=by kernel_rfl
theorem Ce(f:Nat)(w:World):(method 480 107 (.pointer (some ⟨f,0,none⟩)) "Id").run Tryz.prog w= .ok (103,.pointer (some ⟨f,0,none⟩)) w:=by kernel_rfl
theorem Cf(f:Nat)(w:World):(nilAhead 480 96 (.pointer (some ⟨f,0,none⟩)) "Id").run Tryz.prog w= .ok (some false) w:=by kernel_rfl
theorem Cg(f:Nat)(w:World):(nilAhead 480 107 (.pointer (some ⟨f,0,none⟩)) "Id").run Tryz.prog w= .ok (some false) w:=by kernel_rfl
theorem qT(w:World):(zeroValue 213).run Tryz.prog w= .ok .nilIface w:=by kernel_rfl
def lz(T:TypeId):Prop:=(∀(f:Nat)(w:World),(method 480 T (.pointer (some ⟨f,0,none⟩)) "Id").run Tryz.prog w= .ok (103,.pointer (some ⟨f,0,none⟩)) w)∧∀(f:Nat)(w:World),(nilAhead 480 T (.pointer (some ⟨f,0,none⟩)) "Id").run Tryz.prog w= .ok (some false) w
theorem vn:lz 96:=⟨Cd,Cf⟩
theorem vp:lz 107:=⟨Ce,Cg⟩
theorem Ch(a:Nat)(w:World):(binOp .eql 210 (.map (some a)) (.map none)).run Tryz.prog w= .ok (.bool false) w:=by kernel_rfl
theorem Ci(w:World):(binOp .eql 210 (.map none) (.map none)).run Tryz.prog w= .ok (.bool true) w:=by kernel_rfl
theorem Cj(T:TypeId)(l:lz T)(g b f:Nat)(q:Option Addr)(s:ByteArray)(i:aM s=true)(F:Value→Option Value)(t:TypeId)(x:Value)(w:World)(hT:br w)(hO:gH w g (some b) F)
 (h1:w.cell? ⟨f,1,none⟩=some (.pointer q))(h2:w.cell? ⟨f,2,none⟩=some (.string s))(hF:F (.string s)=some (.iface t x)):
 Calls Tryz.prog 124 #[.pointer (some ⟨g,0,none⟩),.iface T (.pointer (some ⟨f,0,none⟩))] w fun e j=>e= .returned (.iface t x)∧∃n,j=w.drewN n:=by
 obtain⟨hm,m⟩:=l;obtain⟨c0,_,_,a⟩:=hO;have hM:=Lib.hid (a b rfl);have o:=Lib.hid (oP f q s i w hT h1 h2);have c:=Lib.hid hF;have k:=fun(W:World)=>run_eql_iface_nil_left (P:=Tryz.prog) W t x Tryz.underlying213;clear a i hT h1 h2 hF;go_enter Tryz.func124,Tryz.ntmps124;go_wp2_with fail
 refine o.out.mono ?_;rintro e j ⟨rfl,n,rfl⟩;have d:Hid (cq mQ (w.drewN n) b F):=hM.out.of rfl fun _ h=>h;go_wp2_with (first|(at_lookup;refine eE _ rfl _ _ 210 rfl mR 213 Tryz.underlying210 .nilIface qT b F rfl d.out (.string s) rfl ⟨_,rfl⟩ (.iface t x) (by rw[c.out];rfl) ?_)|fail)
 go_ret;exact⟨rfl,_,rfl⟩
theorem vq(T:TypeId)(t:lz T)(g c f:Nat)(q:Option Addr)(s:ByteArray)(p:aM s=true)(F:Value→Option Value)(w:World)(hT:br w)(hO:gH w g (some c) F)(j:c≠g)
 (h1:w.cell? ⟨f,1,none⟩=some (.pointer q))(h2:w.cell? ⟨f,2,none⟩=some (.string s))(hF:F (.string s)=none):
 Calls Tryz.prog 124 #[.pointer (some ⟨g,0,none⟩),.iface T (.pointer (some ⟨f,0,none⟩))] w fun e l=>e= .returned .nilIface∧
  gH l g (some c) (bF F (.string s) (.iface T (.pointer (some ⟨f,0,none⟩))))∧Kept (fun k=>k=c) w l:=by
 obtain⟨hm,u⟩:=t;obtain⟨c0,f0,v,d⟩:=hO;have hM:=Lib.hid (d c rfl);have x:=Lib.hid (oP f q s p w hT h1 h2);have m:=Lib.hid hF;clear d p hT h1 h2 hF v;have z:=Ch c;go_enter Tryz.func124,Tryz.ntmps124;go_wp2_with fail
 refine x.out.mono ?_;rintro e l ⟨rfl,n,rfl⟩;have i:Hid (cq mQ (w.drewN n) c F):=hM.out.of rfl fun _ h=>h;go_wp2_with (first|(at_lookup;refine eE _ rfl _ _ 210 rfl mR 213 Tryz.underlying210 .nilIface qT c F rfl i.out (.string s) rfl ⟨_,rfl⟩ .nilIface (by rw[m.out];rfl) ?_)|(at_mapUpdate;refine eF _ rfl _ _ _ 210 rfl mR vh 213 Tryz.underlying210 c F rfl i.out (.string s) (.iface T (.pointer (some ⟨f,0,none⟩))) rfl rfl ⟨_,rfl⟩ ?_;intro A o a)|fail)
 go_ret;have r:A.heap[g]?=w.heap[g]?:=a.block g (World.block_lt_of_cell? _ _ c0) (fun e=>j (Option.some.inj e).symm);refine⟨rfl,⟨(World.cell?_of_block (w:=w) r).trans c0,(World.frozen?_of_block (w:=w) r).trans f0,fun h=>(by cases h),fun b e=> ?_⟩,?_⟩
 ·cases e
  exact o _ (fun y B=>ba F B) (bX _ _ _)
 ·exact⟨a.os,a.tape,a.output,a.size,fun k hk C=>a.block k hk fun e=>C (Option.some.inj e)⟩
theorem vs(T:TypeId)(B:lz T)(a f:Nat)(q:Option Addr)(s:ByteArray)(t:aM s=true)(F:Value→Option Value)(w:World)(hT:br w)(hO:gH w a none F)
 (h1:w.cell? ⟨f,1,none⟩=some (.pointer q))(h2:w.cell? ⟨f,2,none⟩=some (.string s)):
 Calls Tryz.prog 124 #[.pointer (some ⟨a,0,none⟩),.iface T (.pointer (some ⟨f,0,none⟩))] w fun e m=>e= .returned .nilIface∧
  ∃u,gH m a (some u) (bF F (.string s) (.iface T (.pointer (some ⟨f,0,none⟩))))∧w.heap.size≤u∧Kept (fun k=>k=a) w m:=by
 obtain⟨hm,C⟩:=B;obtain⟨c0,f0,v,_⟩:=hO;have o:=Lib.hid (v rfl);have x:=Lib.hid (oP f q s t w hT h1 h2);clear t hT h1 h2 v;have D:=Ci;have E:= @run_makeMap Tryz.prog;have g:=World.block_lt_of_cell? _ _ c0;simp only at g;go_enter Tryz.func124,Tryz.ntmps124;go_wp2_with fail
 refine x.out.mono ?_;rintro e m ⟨rfl,n,rfl⟩;have i:(w.drewN n).cell? ⟨a,0,none⟩=some (.map none):=by simpa using c0
 have j:(w.drewN n).frozen? ⟨a,0,none⟩=false:=by simpa using f0
 have p:Hid (Kept (fun k=>k=a) w (w.drewN n)):=⟨rfl,rfl,rfl,Nat.le_refl _,fun _ _ _=>rfl⟩
 have d:Hid ((w.drewN n).heap.size=w.heap.size):=rfl;generalize w.drewN n=W at*;clear c0 f0 x;have c:a<W.heap.size:=by rw[d.out];exact g
 go_wp2_with (first|(at_lookup;refine jD _ rfl _ _ 210 rfl mR 213 Tryz.underlying210 .nilIface qT rfl (.string s) rfl ⟨_,rfl⟩ ?_)|(at_mapUpdate;refine eF _ rfl _ _ _ 210 rfl mR vh 213 Tryz.underlying210 W.heap.size (fun _=>none) rfl ?hM (.string s) (.iface T (.pointer (some ⟨f,0,none⟩))) rfl rfl ⟨_,rfl⟩ ?_;rotate_left;intro G r l)|fail)
 ·go_ret
  have z:G.heap[a]?=((W.setCell ⟨a,0,none⟩ (.map (some W.heap.size))).alloc (.map #[] 0)).heap[a]?:=l.block a (by simp;omega) (fun e=>by have:=Option.some.inj e;omega);refine⟨rfl,W.heap.size,⟨?_,?_,fun h=>(by cases h),fun b e=> ?_⟩,Nat.le_of_eq d.out.symm,?_⟩
  ·rw[World.cell?_of_block (w:=(W.setCell ⟨a,0,none⟩ (.map (some W.heap.size))).alloc (.map #[] 0)) z]
   simp[go_sem,i,j,c]
  ·rw[World.frozen?_of_block (w:=(W.setCell ⟨a,0,none⟩ (.map (some W.heap.size))).alloc (.map #[] 0)) z]
   simp[go_sem,i,j,c]
  ·cases e
   rw[o.out];exact r _ (fun y H=>ba _ H) (bX _ _ _)
  ·refine((p.out.setCell (fun _=>rfl) _).alloc _).grown l fun k hk A=> ?_
   cases hk;have:=d.out;omega
 case hM=>
  have:=jC mQ (W.setCell ⟨a,0,none⟩ (.map (some W.heap.size)));simpa using this
theorem Ck(b:Nat)(x:Addr)(n c:Nat)(w:World)(f:w.cell? ⟨b,0,none⟩=some (.slice (some x) n c)):
 Calls Tryz.prog 177 #[.pointer (some ⟨b,0,none⟩)] w fun e d=>e= .returned (.tuple #[])∧w=d:=by
 have a:=fun(w:World)=>Lib.run_eql_slice_nil (P:=Tryz.prog) w 170 96 (some x) n c 0 0 Tryz.underlying170;go_enter Tryz.func177,Tryz.ntmps177;go_wp2_with fail
 go_end0
 exact⟨rfl,rfl⟩
theorem Cl(w:World):(Instr.makeSlice 170 (.int .i64 0) (.int .i64 0)).run Tryz.prog w= .ok (.slice (some ⟨w.heap.size,0,none⟩) 0 0) (w.alloc (.cells #[] 96)):=by kernel_rfl
theorem Cm(b:Nat)(n c:Nat)(w:World)(f:w.cell? ⟨b,0,none⟩=some (.slice none n c))(f0:w.frozen? ⟨b,0,none⟩=false):
 Calls Tryz.prog 177 #[.pointer (some ⟨b,0,none⟩)] w fun e g=>e= .returned (.tuple #[])∧g=(w.setCell ⟨b,0,none⟩ (.slice (some ⟨w.heap.size,0,none⟩) 0 0)).alloc (.cells #[] 96):=by
 have d:=fun(w:World)=>Lib.run_eql_slice_nil (P:=Tryz.prog) w 170 96 none n c 0 0 Tryz.underlying170;have h:=Cl;have a:=World.block_lt_of_cell? _ _ f;simp only at a;go_enter Tryz.func177,Tryz.ntmps177;go_wp2_with fail
 go_end0
 exact⟨rfl,rfl⟩
end Go.Proofs.YtdkmnkjhhhmglaaGreatDoor
namespace TS
open Go
inductive OT where
 |done
 |one (i:Nat) (s:Bool) (r:OT)
 |two (i j:Nat) (ri a:OT)
def OT.depth:OT→Nat
 | .done=>0
 | .one _ _ r=>r.depth+1
 | .two _ _ ri a=>max ri.depth a.depth+1
def jU(ops:Array Oper):OT→Array Bool→Bool
 | .done,listed=>(Region.ready .any ops listed).isEmpty
 | .one i s r,listed=>(if s then Region.free .any ops listed i&&(Region.ready .any ops listed).contains i else Region.ready .any ops listed== [i])&&jU ops r (listed.setIfInBounds i true)
 | .two i j ri a,listed=>Region.ready .any ops listed== [i,j]&&(jU ops ri (listed.setIfInBounds i true)&&jU ops a (listed.setIfInBounds j true))
def en(P:Program)(ops:Array Oper)(Q:Exit→Act→World→Prop)(S:World→Prop):OT→Act→World→Prop
 | .done,a,w=>Q .normal a w
 | .one i s r,a,w=> ∃o,ops[i]?=some o∧
   if s then ∃v,YieldsIf P ops S o v a∧en P ops Q S r (a.put o.dst v) w
   else wpOp P ops Q i (fun a' b=>S b∧en P ops Q S r a' b) a w
 | .two i j ri c,a,w=>wpOp P ops Q i (fun a' b=>S b∧en P ops Q S ri a' b) a w∧wpOp P ops Q j (fun a' b=>S b∧en P ops Q S c a' b) a w
section
variable {P:Program} {ops:Array Oper} {Q:Exit→Act→World→Prop} {S:World→Prop}
theorem nF(b:Region.noSelect ops=true)(m:∀c(a:Act) d v w,Q (.panic c) (a.put d v) w→Q (.panic c) a w):
 ∀(l:OT)(listed:Array Bool)(a:Act)(w:World)(fuel:Nat),l.depth≤fuel→jU ops l listed=true→S w→en P ops Q S l a w→wpAnyH P .any ops Q S fuel listed a w
 | .done,listed,a,w,fuel,_,f,_,h=>wpAnyH_done (by simpa [jU]using f) h fuel
 | .one i s r,listed,a,w,fuel,p,f,q,h=>by
   obtain⟨o,u,h⟩:=h;obtain⟨fuel,rfl⟩:∃n,fuel=n+1:=⟨fuel- 1,by simp[OT.depth]at p;omega⟩
   simp only[jU,Bool.and_eq_true]at f;simp only[OT.depth]at p;cases s with
   |true=>
    simp only[if_true,Bool.and_eq_true]at f h;obtain⟨v,x,h⟩:=h;exact wpAnyH_take u b f.1.1 f.1.2 (fun c a w=>m c a _ _ w) x q (nF b m r _ _ _ fuel (by omega) f.2 q h)
   |false=>
    simp only[Bool.false_eq_true,if_false,beq_iff_eq]at f h;refine wpAnyH_all (rs:= [i]) f.1 (by simp) ?_;intro j y;have:j=i:=by simpa using y
    subst this;exact wpOp_mono (fun a' t g=>⟨g.1,nF b m r _ _ _ fuel (by omega) f.2 g.1 g.2⟩) h
 | .two i j ri z,listed,a,w,fuel,p,f,q,h=>by
   obtain⟨fuel,rfl⟩:∃n,fuel=n+1:=⟨fuel- 1,by simp[OT.depth]at p;omega⟩
   simp only[jU,Bool.and_eq_true,beq_iff_eq]at f;simp only[OT.depth]at p;refine wpAnyH_all (rs:= [i,j]) f.1 (by simp) ?_;intro k hk;by_cases e:k=i
   ·subst e
    exact wpOp_mono (fun a' t g=>⟨g.1,nF b m ri _ _ _ fuel (by omega) f.2.1 g.1 g.2⟩) h.1
   ·have:k=j:=by
     simp only[List.mem_cons,List.not_mem_nil,or_false]at hk;exact hk.resolve_left e
    subst this;exact wpOp_mono (fun a' t g=>⟨g.1,nF b m z _ _ _ fuel (by omega) f.2.2 g.1 g.2⟩) h.2
theorem rN{id:Nat}{a:Act}{w:World}(S:World→Prop)(l:OT)(hm:P.follows .mixedOrders=true)(b:Region.noSelect ops=true)(d:jU ops l (Array.replicate ops.size false)=true)(e:l.depth≤ops.size)
 (c:S w.drew)(h:S w.drew→en P ops (NoPanic Q) S l a w.drew):(Code.region id ops true).wp P Q a w:=
 wp_region_noPanic (wp_region_held (S:=S) hm (nF b (fun _ _ _ _ _ h=>h) l _ a w.drew _ e d c (h c)))
theorem gL{a:Act}{w:World}(h:Q .normal a w):en P ops (NoPanic Q) S .done a w:=h
theorem cC{i:Nat}{r:OT}{o:Oper}{v:Value}{a:Act}{w:World}(b:nth ops.toList i=some o)(hw:Region.wanted o (yielded ops a.tmps)=true)(c:∀W,S W→(execOp a.eval o).run P W= .ok (.value v) W)
 (h:en P ops Q S r (a.put o.dst v) w):en P ops Q S (.one i true r) a w:=⟨o,iB b,by rw[if_pos rfl];exact⟨v,.inl ⟨hw,c⟩,h⟩⟩
theorem bR{i:Nat}{r:OT}{o:Oper}{a:Act}{w:World}(b:nth ops.toList i=some o)(hw:Region.wanted o (yielded ops a.tmps)=true)
 (h:∀K:Act→World→Prop,(∀a w,S w→(S w→en P ops Q S r a w)→K a w)→o.wp P a w K Q):en P ops Q S (.one i false r) a w:=by
 have c:=iB b;refine⟨o,c,?_⟩;rw[if_neg (by simp)];simp only[wpOp,c,hw,if_true];exact .inl (h _ fun a w d h=>⟨d,h d⟩)
theorem kP{i j:Nat}{ri k:OT}{o d:Oper}{a:Act}{w:World}(e:nth ops.toList i=some o)(b:nth ops.toList j=some d)(hw:Region.wanted o (yielded ops a.tmps)=true)(f:Region.wanted d (yielded ops a.tmps)=true)
 (h:∀K:Act→World→Prop,(∀a w,S w→(S w→en P ops Q S ri a w)→K a w)→o.wp P a w K Q)(h2:∀K:Act→World→Prop,(∀a w,S w→(S w→en P ops Q S k a w)→K a w)→d.wp P a w K Q):en P ops Q S (.two i j ri k) a w:=by
 have l:=iB e;have g:=iB b;refine⟨?_,?_⟩
 ·simp only[wpOp,l,hw,if_true]
  exact .inl (h _ fun a w c h=>⟨c,h c⟩)
 ·simp only[wpOp,g,f,if_true]
  exact .inl (h2 _ fun a w c h=>⟨c,h c⟩)
end
end TS
