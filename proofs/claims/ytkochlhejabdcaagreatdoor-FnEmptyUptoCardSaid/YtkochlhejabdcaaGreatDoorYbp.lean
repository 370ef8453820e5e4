import Derived.Laws.OwnMore
import Derived.Test.YtkochlhejabdcaaGreatDoorYbn
set_option maxRecDepth 100000
set_option maxHeartbeats 8000000
set_option linter.all false
namespace TS
open Go Go.RowKit Go.Proofs.Tryz
theorem my{base:Nat}{e:TypeId}{size g n cap:Nat}:∀(a zs xs:List Value)(w:World),a.length=zs.length→w.ownsRow base e size (.slice (Xa g 0) n cap) n (xs++zs)→(w.setCells g xs.length a).ownsRow base e size (.slice (Xa g 0) n cap) n (xs++a)∧w.grownBy (w.setCells g xs.length a) (some g)
 | [],[],xs,w,_,h=>⟨h,⟨rfl,rfl,rfl,Nat.le_refl _,fun _ _ _=>rfl⟩⟩
 |v::a,z::zs,xs,w,i,h=>by
  obtain⟨h1,b⟩:=h.stored xs.length v;rw[show(xs++z::zs).set xs.length v=(xs++ [v])++zs by simp]at h1;obtain⟨f,c⟩:=my a zs (xs++ [v]) _ (by simpa using i) h1;rw[World.setCells];simp only[List.length_append,List.length_cons,List.length_nil,Nat.zero_add,List.append_assoc,List.singleton_append]at f c;exact⟨f,⟨c.os.trans b.os,c.tape.trans b.tape,c.output.trans b.output,Nat.le_trans b.size c.size,fun k hk d=>(c.block k (Nat.lt_of_lt_of_le hk b.size) d).trans (b.block k hk d)⟩⟩
theorem fQ{w:World}{base:Nat}{e:TypeId}{size g n cap:Nat}{xs zs:List Value}(h:w.ownsRow base e size (.slice (Xa g 0) (n+1) cap) (n+1) (xs++zs))(a:xs.length=n*size)(i:Nat)(hi:i<size):w.cell? (Xa g (n*size+i))=zs[i]?:=by
 rw[h.cellAt _ (by rw[Nat.add_mul];omega),List.getElem?_append_right zo];congr 1;omega
theorem mz{W:World}{a b:Nat}{t t':TypeId}{v v':Value}(h:Boxed W a t v)(k:Boxed W b t' v')(c:t≠t'):a≠b:=by
 rintro rfl;have:=(show W.heap[a]?=_ from h).symm.trans k;simp at this;exact c this.2
theorem qK{W:World}{base a n r size c g:Nat}{e j:TypeId}{v v':Value}{xs f:List Value}(h:W.ownsRow base e size v n xs)(k:W.ownsRow a j c v' r f)(s:e≠j)(l:v.ownBlock=some g):v'.ownBlock≠some g:=by
 intro d;rcases h.2 with⟨rfl,_⟩|⟨b,cap,cur,rfl,_,h1,_⟩
 ·cases l
 ·rcases k.2 with⟨rfl,_⟩|⟨t,m,o,rfl,_,i,_⟩
  ·cases d
  ·obtain rfl:b=g:=by simpa [Value.ownBlock]using l
   obtain rfl:t=b:=by simpa [Value.ownBlock]using d
   rw[h1]at i;simp at i;exact s i.2
def dJ(n:Nat):U:= .mk 11 n 0 false ⟨#[]⟩ ⟨#[]⟩ [] []
end TS
namespace Go.Proofs.YtkochlhejabdcaaGreatDoor
open Go.RowKit TS Tryz
structure dj(p q:Pm)(D:Dl)(w wr:World)(B1 B2 B3:Nat)(vm vo vw:Value)(Lo:List R3)(Ld:List R8):Prop where
 up:Below w w wr
 gr:aN p q w
 kw:KW q wr
 om:Boxed wr B1 34 vm
 oo:Boxed wr B2 23 vo
 ow:Boxed wr B3 22 vw
 rt:wr.ownsRow w 25 7 vo Lo.length (aX Lo)
 rd:wr.ownsRow w 36 8 vw Ld.length (bz Ld)
 tt:dX q D Lo
 dd:eK q D Ld
 lo:w.heap.size≤B1∧w.heap.size≤B2∧w.heap.size≤B3
 dk:∀b,(b=B1∨b=B2∨b=B3∨vo.ownBlock=some b)→∀o,q b o=none
 ag:∀b,vw.ownBlock=some b→∀o v,q b o=some v→(bz Ld)[o]?=some v
section
variable {p q:Pm} {D:Dl} {w W w4:World} {B1 B2 B3:Nat} {vm vo vw v':Value} {Lo:List R3} {Ld:List R8}
theorem dj.below(h:dj p q D w W B1 B2 B3 vm vo vw Lo Ld)(a:Below W W w4):dj p q D w w4 B1 B2 B3 vm vo vw Lo Ld:=
 {h with
  up:=h.up.trans (a.mono h.up.size),kw:=h.kw.grown a,om:=(a.block _ h.om.lt).trans h.om,oo:=(a.block _ h.oo.lt).trans h.oo,ow:=(a.block _ h.ow.lt).trans h.ow
  rt:=bw h.rt a,rd:=bw h.rd a}
theorem dj.out(h:dj p q D w W B1 B2 B3 vm vo vw Lo Ld)(hk:Kept (fun k=>k=B2∨vo.ownBlock=some k) W w4)(m:Boxed w4 B2 23 v'){x:R3}(hr:w4.ownsRow w 25 7 v' (Lo.length+1) (aX Lo++aX [x]))
 (c:v'.ownBlock=vo.ownBlock∨∃k,W.heap.size≤k∧v'.ownBlock=some k)(n:dX q D [x]):dj p q D w w4 B1 B2 B3 vm v' vw (Lo++ [x]) Ld:=
 {h with
  up:=h.up.trans ⟨hk.os,hk.tape,hk.output,hk.size,fun k d=>hk.block k (Nat.lt_of_lt_of_le d h.up.size) fun a=>by
   rcases a with rfl|a
   ·have:=h.lo.2.1;omega
   ·have:=(h.rt.lt k a).1;omega⟩
  kw:=h.kw.kept hk fun b o v c a=>by
   rw[h.dk b (a.elim (fun e=> .inr (.inl e)) fun e=> .inr (.inr (.inr e))) o]at c;cases c
  om:=(hk.block _ h.om.lt fun a=>a.elim (mz h.om h.oo zd) fun e=>h.om.not_row zd h.rt e.symm).trans h.om
  oo:=m
  ow:=(hk.block _ h.ow.lt fun a=>a.elim (mz h.ow h.oo zd) fun e=>h.ow.not_row zd h.rt e.symm).trans h.ow
  rt:=by rw[List.length_append,p8];exact hr
  rd:=dY h.rd hk fun g l a=>a.elim (fun e=>h.oo.not_row zd h.rd (e▸l.symm)) fun e=>qK h.rd h.rt zd l e
  tt:=h.tt.append n
  dk:=fun b f o=>by
   rcases f with e|e|e|e
   ·exact h.dk b (.inl e) o
   ·exact h.dk b (.inr (.inl e)) o
   ·exact h.dk b (.inr (.inr (.inl e))) o
   ·rcases c with k|⟨k,i,j⟩
    ·exact h.dk b (.inr (.inr (.inr (k▸e)))) o
    ·rw[j]at e;cases e;exact h.kw.aF i o}
theorem dj.dec(h:dj p q D w W B1 B2 B3 vm vo vw Lo Ld)(hk:Kept (fun k=>k=B3∨vw.ownBlock=some k) W w4)(m:Boxed w4 B3 22 v'){x:R8}(hr:w4.ownsRow w 36 8 v' (Ld.length+1) (bz Ld++bz [x]))
 (c:v'.ownBlock=vw.ownBlock∨∃k,W.heap.size≤k∧v'.ownBlock=some k)(n:eK q D [x])(r:∀b o v,vw.ownBlock=some b→(bz Ld)[o]?=some v→Xc w4 b o v):dj p q D w w4 B1 B2 B3 vm vo v' Lo (Ld++ [x]):=
 {h with
  up:=h.up.trans ⟨hk.os,hk.tape,hk.output,hk.size,fun k f=>hk.block k (Nat.lt_of_lt_of_le f h.up.size) fun a=>by
   rcases a with rfl|a
   ·have:=h.lo.2.2;omega
   ·have:=(h.rd.lt k a).1;omega⟩
  kw:=fun b o v c=>by
   by_cases a:vw.ownBlock=some b
   ·exact r b o v a (h.ag b a o v c)
   ·rw[hk.cell (h.kw.lt c) fun s=>(s.elim (fun e=>by rw[h.dk b (.inr (.inr (.inl e))) o]at c;cases c) a)]
    exact h.kw b o v c
  om:=(hk.block _ h.om.lt fun a=>a.elim (mz h.om h.ow zd) fun e=>h.om.not_row zd h.rd e.symm).trans h.om
  oo:=(hk.block _ h.oo.lt fun a=>a.elim (mz h.oo h.ow zd) fun e=>h.oo.not_row zd h.rd e.symm).trans h.oo
  ow:=m
  rt:=dY h.rt hk fun g l a=>a.elim (fun e=>h.ow.not_row zd h.rt (e▸l.symm)) fun e=>qK h.rt h.rd zd l e
  rd:=by rw[List.length_append,nG];exact hr
  dd:=h.dd.append n
  ag:=fun b e o v d=>by
   rcases c with k|⟨k,i,j⟩
   ·have:=h.ag b (k▸e) o v d
    rw[nG,List.getElem?_append_left (List.getElem?_eq_some_iff.1 this).1];exact this
   ·rw[j]at e;cases e;rw[h.kw.aF i o]at d;cases d}
end
theorem BT(p:Pm)(D:Dl)(n:Nat)(h:D.len≤n)(c:n≤1048576):ai p D (dJ n) none 0:=by
 simp only[dJ,ai];exact⟨(by refine⟨?_,?_,?_,?_,?_,?_,?_⟩<;>first|decide|omega|simp),aq.ix (fun x b=>by cases b),fun _ _ a=>by simp at a;omega⟩
theorem dj.outs{p q:Pm}{D:Dl}{w W f:World}{B1 B2 B3:Nat}{vm vo vw:Value}{Lo:List R3}{Ld:List R8}(h:dj p q D w W B1 B2 B3 vm vo vw Lo Ld){x:R3}(o:dX q D [x]){g cap:Nat}{zs:List Value}(r:zs.length=7)
 (b:f.ownsRow w 25 7 (.slice (Xa g 0) (Lo.length+1) cap) (Lo.length+1) (aX Lo++zs))(s:W.grownBy f vo.ownBlock)(i:vo.ownBlock=some g∨W.heap.size=g)(w4:World)
 (m:w4=(f.setCells g (Lo.length*7) (aX [x])).setCell (Xa B2 0) (.slice (Xa g 0) (Lo.length+1) cap)∨w4=(f.setCell (Xa B2 0) (.slice (Xa g 0) (Lo.length+1) cap)).setCells g (Lo.length*7) (aX [x])):
 dj p q D w w4 B1 B2 B3 vm (.slice (Xa g 0) (Lo.length+1) cap) vw (Lo++ [x]) Ld∧Kept (fun k=>k=B2∨vo.ownBlock=some k) W w4:=by
 have n:=h.oo.kept s (h.oo.not_row zd h.rt);have d:=n.not_row zd b;have t:∀k,(some g:Option Nat)=some k→k<W.heap.size→k=B2∨vo.ownBlock=some k:=fun k e v=>by
  cases e;rcases i with i|i
  ·exact .inr i
  ·omega
 have u:=(Kept.refl (fun k=>k=B2∨vo.ownBlock=some k) W).grown s fun k hk _=> .inr hk;have j:(Value.slice (Xa g 0) (Lo.length+1) cap).ownBlock=vo.ownBlock∨∃k,W.heap.size≤k∧(Value.slice (Xa g 0) (Lo.length+1) cap).ownBlock=some k:=i.elim (fun e=> .inl e.symm) fun e=> .inr ⟨g,by omega,rfl⟩;have l:=gh Lo;rcases m with rfl|rfl
 ·obtain⟨s1,s2⟩:=my (aX [x]) zs (aX Lo) f (by rw[gh,r];rfl) b
  rw[l]at s1 s2;have c:=(u.grown s2 t).setCell (a:=(Xa B2 0)) (fun _=> .inl rfl) (.slice (Xa g 0) (Lo.length+1) cap);exact⟨h.out c ((n.kept s2 d).set _) (eC s1 d.symm _) j o,c⟩
 ·obtain⟨s1,s2⟩:=my (aX [x]) zs (aX Lo) _ (by rw[gh,r];rfl) (eC b (a:=(Xa B2 0)) d.symm (.slice (Xa g 0) (Lo.length+1) cap))
  rw[l]at s1 s2;have c:=(u.setCell (a:=(Xa B2 0)) (fun _=> .inl rfl) (.slice (Xa g 0) (Lo.length+1) cap)).grown s2 t;exact⟨h.out c ((n.set _).kept s2 d) s1 j o,c⟩
def uI(q:Pm)(D:Dl)(wr:World)(u:U)(a:Option Addr)(c:Nat)(ms:List br)(W:World):Prop:=Below wr wr W∧∃b d cb,Hid (b=if fp u then ms else [])∧Hid (cM q D b d∧b.length≤cb∧cb≤1048576)∧
 Hid (W.heap[wr.heap.size+1]?=some (.cells #[.int .i64 u.k,.int .i64 u.n,.int .i64 u.m,.bool u.v,.string u.nm,.string u.tg,.slice a u.es.length c,.slice d b.length cb] 36))
def BU(p q:Pm)(D:Dl)(w:World)(B1 B2 B3:Nat)(am:Option Addr)(cm:Nat)(ms:List br)(Lo:List R3)(Ld:List R8)(u:U)(e:Ending)(c:World):Prop:=
 e= .returned (.tuple #[])∧∃(a b:Value)(x:R8),x.1=⟨u,if fp u then ms else []⟩∧dj p q D w c B1 B2 B3 (.slice am ms.length cm) a b (Lo++ [(dJ Ld.length,none,0)]) (Ld++ [x])
theorem qL{p q:Pm}{D:Dl}{w wr:World}{B1 B2 B3:Nat}{am:Option Addr}{cm:Nat}{ms:List br}{vo vw:Value}{Lo:List R3}{Ld:List R8}(h:dj p q D w wr B1 B2 B3 (.slice am ms.length cm) vo vw Lo Ld)
 (hm:cM q D ms am)(PK:ms.length≤cm∧cm≤1048576)(u:U)(a:Option Addr)(c:Nat)(hu:ai q D u a c)(Qa:Lo.length≤1000000)(P4:D.len≤Ld.length)(Qb:Ld.length≤1048000):
 Xk 69 #[Xt u a c,Xp B1,Xp B2,Xp B3] wr (BU p q D w B1 B2 B3 am cm ms Lo Ld u):=by
 obtain⟨ao,co,rfl⟩:=a_ h.rt;obtain⟨aw,cw,rfl⟩:=a_ h.rd;have hC:=zh (sE u a c);have o1:=h.om.cell;have o2:=h.oo.cell;have o3:=h.ow.cell;have t1:=h.om.lt;have t2:=h.oo.lt;have t3:=h.ow.lt;have h':=zh h;have P5:=zh hm;have PL:=zh PK;have P6:=zh hu;clear h hm hu PK;obtain⟨i0,S,P7,P8,P9⟩:=info_parts js;have S:=zh S;obtain⟨iD,T,PM,PN,PO⟩:=info_parts tk;have T:=zh T;go_enter func69,ntmps69;go_wp2_with fail
 refine(hC.out _).mono ?_;rintro e1 w1 ⟨b,rfl,X,aa⟩;have E:=zh (show Below wr wr w1 from((zB.alloc zl (Xt u a c)).alloc zs _).trans (aa.mono zp));have hS:w1.heap[wr.heap.size+1]?=some (.cells #[.int .i64 u.k,.int .i64 u.n,.int .i64 u.m,.bool u.v,.string u.nm,.string u.tg,.slice a u.es.length c,.slice none 0 0] 36):=(aa.block _ zs).trans (cA zs);have Y:wr.heap.size+2≤w1.heap.size:=by have:=aa.size;simp at this;omega
 have p1:=TS.cell_kept E.out o1;have e7:Xc w1 (wr+1) 7 (.slice none 0 0):=by simp[World.cell?,hS]
 have f7:w1.frozen? (Xa (wr+1) 7)=false:=by simp[World.frozen?,hS]
 have N:=zh hS;clear aa hS hC;cases b
 case' false=>
  go_wp2_with fail
  refine kh (uI q D wr u a c ms) ⟨E.out,[],none,0,by simp[Hid,←X.out],⟨⟨fun i hi=>absurd hi zs⟩,by simp,by simp⟩,N.out⟩ ?_;rintro W ⟨F,L,M,cb,PQ,O,P⟩;clear p1 e7 f7 N E Y o1 o2 o3 X
 case' true=>
  go_wp2_with fail
  refine kh (uI q D wr u a c ms) ⟨E.out.setCell (by simp;try omega) _,ms,am,cm,by simp[Hid,←X.out],⟨P5.out,PL.out⟩,heap_set N.out⟩ ?_;rintro W ⟨F,L,M,cb,PQ,O,P⟩;clear p1 e7 f7 N E Y o1 o2 o3 X
 all_goals
  go_cut [] (fun wx=> ∃PR,dj p q D w wx B1 B2 B3 (.slice am ms.length cm) PR (.slice aw Ld.length cw) (Lo++ [(dJ Ld.length,none,0)]) Ld∧Hid (wx.heap[wr.heap.size+1]?=some (.cells #[.int .i64 u.k,.int .i64 u.n,.int .i64 u.m,.bool u.v,.string u.nm,.string u.tg,.slice a u.es.length c,.slice M L.length cb] 36)))
  case first=>
   have G:=h'.out.below F.drew;have Z:Hid (W.drew.heap[wr.heap.size+1]?=_):=P;have Y:wr.heap.size≤W.drew.heap.size:=F.size;refine qB (fun V=>Xc V B3 0 (.slice aw Ld.length cw)) (.one 1 true (.one 2 true (.one 3 true (.two 0 5 (.one 4 true (.one 5 false (.one 6 false (.one 7 true (.two 8 9 (.one 9 false .done) (.one 8 false .done)))))) (.one 0 false (.one 4 true (.one 6 false (.one 7 true (.two 8 9 (.one 9 false .done) (.one 8 false .done)))))))))) zk zk zk zd G.ow.cell (fun r=> ?_);generalize W.drew=Wd at*;clear P F;have o2:=G.oo.cell;have o3:=G.ow.cell;have Qc:=G.oo.lt;have PS:∀k:Nat,k=wr.heap.size+1→¬(k=B2∨(Value.slice ao Lo.length co).ownBlock=some k):=fun k hk hX=>hX.elim (fun e=>by omega) fun e=>by have:=(h'.out.rt.lt k e).2;omega
   have P_:wr.heap.size+1<Wd.heap.size:=(Array.getElem?_eq_some_iff.1 Z.out).1;have f:=G.below (zB.alloc zl (.cells #[.int .i64 0,.int .i64 0,.int .i64 0,.bool false,.string ⟨#[]⟩,.string ⟨#[]⟩,.slice none 0 0] 25));iterate 3 (refine dR rfl (by rfl) (by intro W hW;(try dsimp only at hW);go_simp<;>with_reducible rfl) ?_;try simp only[Act.put,oa,ob,oc])
   refine ki rfl rfl (by rfl) (by rfl) (fun K l=> ?_) (fun K l=> ?_);go_simp
   (try simp only[]);refine l _ _ (r) fun r=> ?_;clear l K;try simp only[Act.put,oa,ob,oc]
   (refine dR rfl (by rfl) (by intro W hW;(try dsimp only at hW);go_simp<;>with_reducible rfl) ?_;try simp only[Act.put,oa,ob,oc])
   refine dx rfl (by rfl) (fun K l=> ?_);go_simp
   (try simp only[]);refine l _ _ (f.ow.cell) fun r=> ?_;clear l K;try simp only[Act.put,oa,ob,oc]
   rotate_left
   go_simp
   (try simp only[]);refine l _ _ (f.ow.cell) fun r=> ?_;clear l K;try simp only[Act.put,oa,ob,oc]
   refine dx rfl (by rfl) (fun K l=> ?_);go_simp
   (try simp only[]);refine l _ _ (f.ow.cell) fun r=> ?_;clear l K;try simp only[Act.put,oa,ob,oc]
   (refine dR rfl (by rfl) (by intro W hW;(try dsimp only at hW);go_simp<;>with_reducible rfl) ?_;try simp only[Act.put,oa,ob,oc])
   all_goals
    have PT:=zh f.rt;have H:=zh (kY Wd [.int .i64 0,.int .i64 0,.int .i64 0,.bool false,.string ⟨#[]⟩,.string ⟨#[]⟩,.slice none 0 0] 25);refine dx rfl (by rfl) (fun K l=> ?_);refine iW _ _ 23 rfl w.heap.size 25 i0 (Xt cC none 0) 7 88 underlying23 S.out P7 P8 P9 rfl zd (.slice ao Lo.length co) Lo.length (aX Lo) rfl PT.out (Xa Wd 0) 1 1 [.int .i64 0,.int .i64 0,.int .i64 0,.bool false,.string ⟨#[]⟩,.string ⟨#[]⟩,.slice none 0 0] rfl rfl H.out (by intro v hv;simp only[List.mem_cons,List.not_mem_nil,or_false]at hv;rcases hv with rfl|rfl|rfl|rfl|rfl|rfl|rfl<;>rfl) ?c3 ?c4 ?c5 ?_
    case c3=>unfold maxLen;omega
    case c4=>omega
    case c5=>exact f.up.size
    intro v' Q d R _ PU;obtain⟨g,cap,rfl⟩:=ownsRow_succ d;have I:=f.ow.kept R (f.ow.not_row zd f.rt);have J:=f.oo.kept R (f.oo.not_row zd f.rt);(try simp only[]);refine l _ _ (I.cell) fun r=> ?_;clear l K;try simp only[Act.put,oa,ob,oc]
    have Qd:(Lo.length:Int)<(Lo.length:Int)+1:=zo;have g0:=J.cell;have g1:=J.lt;have g2:=J.frozen;have gl:g<Q.heap.size:=(d.lt g rfl).2;have fr:=fun j=>d.frozenAt j;have z:=gh Lo;have c0:Xc Q g (Lo.length*7) (.int .i64 0):=fQ d z 0 zo;have c1:Xc Q g (Lo.length*7+1) (.int .i64 0):=fQ d z 1 zo;have c2:Xc Q g (Lo.length*7+2) (.int .i64 0):=fQ d z 2 zo;have c3:Xc Q g (Lo.length*7+3) (.bool false):=fQ d z 3 zo;have c4:Xc Q g (Lo.length*7+4) (.string ⟨#[]⟩):=fQ d z 4 zo;have c5:Xc Q g (Lo.length*7+5) (.string ⟨#[]⟩):=fQ d z 5 zo;have c6:Xc Q g (Lo.length*7+6) (.slice none 0 0):=fQ d z 6 zo;have Qe:B2≠g:=fun e=>(J.not_row zd d) (by rw[e];rfl);have PW:dX q D [(dJ Ld.length,none,0)]:=fun x hx=>by
     obtain rfl:x=(dJ Ld.length,none,0):=by simpa using hx
     exact BT q D _ P4 zo
    have A:=fun w4 h=>f.outs PW rfl d R (PU.imp Eq.symm fun h=>by cases h;rfl) w4 (.inl h);have B:=fun w4 h=>f.outs PW rfl d R (PU.imp Eq.symm fun h=>by cases h;rfl) w4 (.inr h);have PG:=(my (aX [(dJ Ld.length,none,0)]) [.int .i64 0,.int .i64 0,.int .i64 0,.bool false,.string ⟨#[]⟩,.string ⟨#[]⟩,.slice none 0 0] (aX Lo) Q rfl d).2;rw[gh]at PG;simp only[World.setCells,aX,List.flatMap_cons,List.flatMap_nil,List.append_nil,bT,dJ,U.k,U.n,U.m,U.v,U.nm,U.tg,U.es,List.length_nil,Nat.add_assoc,Nat.reduceAdd]at A B PG;(refine dR rfl (by rfl) (by intro W hW;(try dsimp only at hW);go_simp<;>with_reducible rfl) ?_;try simp only[Act.put,oa,ob,oc])
    refine ki rfl rfl (by rfl) (by rfl) (fun K l=> ?_) (fun K l=> ?_)
    ·go_simp
     (try simp only[]);refine l _ _ ((I.kept PG (I.not_row zd d)).cell) fun r=> ?_;clear l K;try simp only[Act.put,oa,ob,oc]
     refine dx rfl (by rfl) (fun K l=> ?_);go_simp
     (try simp only[]);refine l _ _ ((A _ rfl).1.ow.cell) fun r=> ?_;clear l K;try simp only[Act.put,oa,ob,oc]
     refine jw ?_;go_wp2_with fail
     go_meet
     obtain⟨hF,PH⟩:=A _ rfl;exact⟨_,hF,(PH.block _ zp (PS _ rfl)).trans ((dC zo).trans Z.out)⟩
    ·go_simp
     (try simp only[]);refine l _ _ ((I.other (mz I J zd) _).cell) fun r=> ?_;clear l K;try simp only[Act.put,oa,ob,oc]
     refine dx rfl (by rfl) (fun K l=> ?_);go_simp
     (try simp only[]);refine l _ _ ((B _ rfl).1.ow.cell) fun r=> ?_;clear l K;try simp only[Act.put,oa,ob,oc]
     refine jw ?_;go_wp2_with fail
     go_meet
     obtain⟨hF,PH⟩:=B _ rfl;exact⟨_,hF,(PH.block _ zp (PS _ rfl)).trans ((dC zo).trans Z.out)⟩
  case rest=>
   obtain⟨PR,hF,s⟩:=hcut;clear P F h';have o3:=hF.ow.cell;have t3:=hF.ow.lt;have f3:=hF.ow.frozen;have Qf:wr.heap.size+1<wc.heap.size:=(Array.getElem?_eq_some_iff.1 s.out).1;have y0:Xc wc (wr+1) 0 (.int .i64 u.k):=by simp[World.cell?,s.out]
   have y1:Xc wc (wr+1) 1 (.int .i64 u.n):=by simp[World.cell?,s.out]
   have y2:Xc wc (wr+1) 2 (.int .i64 u.m):=by simp[World.cell?,s.out]
   have y3:Xc wc (wr+1) 3 (.bool u.v):=by simp[World.cell?,s.out]
   have y4:Xc wc (wr+1) 4 (.string u.nm):=by simp[World.cell?,s.out]
   have y5:Xc wc (wr+1) 5 (.string u.tg):=by simp[World.cell?,s.out]
   have y6:Xc wc (wr+1) 6 (.slice a u.es.length c):=by simp[World.cell?,s.out]
   have y7:Xc wc (wr+1) 7 (.slice M L.length cb):=by simp[World.cell?,s.out]
   have t:=hF.below (zB.alloc zl (.cells #[.int .i64 u.k,.int .i64 u.n,.int .i64 u.m,.bool u.v,.string u.nm,.string u.tg,.slice a u.es.length c,.slice M L.length cb] 36));have PI:=zh t.rd;have t:=zh t;have H:=zh (kY wc [.int .i64 u.k,.int .i64 u.n,.int .i64 u.m,.bool u.v,.string u.nm,.string u.tg,.slice a u.es.length c,.slice M L.length cb] 36);have PX:=zh (th [(⟨u,L⟩,(a,c),(M,cb))]);clear hF s;go_wp2_with (at_builtin;refine Aw rfl _ _ 22 rfl w.heap.size 36 iD p_ 8 112 underlying22 T.out PM PN PO rfl zd _ _ _ rfl PI.out (Xa wc 0) 1 1 [.int .i64 u.k,.int .i64 u.n,.int .i64 u.m,.bool u.v,.string u.nm,.string u.tg,.slice a u.es.length c,.slice M L.length cb] rfl rfl H.out PX.out ?d3 ?d4 ?d5 ?_)
   case d3=>unfold maxLen;omega
   case d4=>omega
   case d5=>exact t.out.up.size
   intro v' w7 y PJ PY PZ;obtain⟨g',P0,rfl⟩:=ownsRow_succ y;have C:=t.out.ow.kept PJ (t.out.ow.not_row zd t.out.rd);have x0:=C.cell;have x1:=C.lt;have x2:=C.frozen;have P1:=C.not_row zd y;have P2:=((Kept.refl (fun k=>k=B3∨(Value.slice aw Ld.length cw).ownBlock=some k) _).grown PJ (fun k hk _=> .inr hk)).setCell (a:=(Xa B3 0)) (fun _=> .inl rfl) (.slice (Xa g' 0) (Ld.length+1) P0);have P3:=zh (t.out.dec (x:=(⟨u,L⟩,(a,c),(M,cb))) P2 (C.set _) (eC y (a:=(Xa B3 0)) P1.symm _) (PY.imp id fun h=>⟨wc.heap.size+1,by simp,h⟩) (fun x hx=>by
    obtain rfl:x=(⟨u,L⟩,(a,c),(M,cb)):=by simpa using hx
    exact⟨P6.out,O.out.2.1,O.out.2.2,O.out.1⟩) fun b o v X hx=>by
    rw[World.cell?_setCell_other _ _ _ _ (by intro h;simp only[Addr.mk.injEq]at h;exact t.out.ow.not_row zd t.out.rd (by rw[X];simp[h.1]))];exact PZ b o v X hx)
   clear y PJ PY C P1 P2 PZ;go_wp2_with fail
   go_end0
   exact⟨rfl,_,_,(⟨u,L⟩,(a,c),(M,cb)),by rw[PQ.out],P3.out⟩
end Go.Proofs.YtkochlhejabdcaaGreatDoor
namespace TS
open Go Go.RowKit Go.Proofs.YtkochlhejabdcaaGreatDoor
theorem EG:(bL.es.drop bL.m.toNat)= []:=rfl
theorem EH:(aP.es.drop aP.m.toNat)= []:=rfl
section
variable {D:Dl} {T:List U} {NS:List (List UInt8)} {i:Nat}
theorem rF(E:Env D T NS i):∀(u:U){pos f:Nat}{g:Bool},Mo D.len T NS i u pos f→f≠0→u.k≠12→u.k≠13→mt T .type u g=true→(under u).k=10→
 ∀e∈(under u).es.drop (under u).m.toNat,Mo D.len T NS i e 2 2∧∃z,mt T .elem e z=true:=by
 intro u;induction u using U.bc with
 |_ u ih=>
  intro pos f g h c r s hm a e he;obtain⟨⟨H,A,hu⟩,_,_⟩:=h.eW E c r s;refine⟨hu.elem a he,?_⟩;by_cases n:u.k=2
  ·obtain⟨x,o⟩:=cL (h.pl.form.fL n)
   have B:0<u.es.length:=by rw[o];simp
   have C:u.es[0]=x:=by simp[o]
   have q:=h.part 0 B;rw[C,iP h.f2 (.inl n),show aS u 0=0 by unfold aS;rw[if_neg zo,if_neg zo]]at q;rw[kS n,o]at hm;have t:mt T .type x g=true:=by simpa using hm
   have v:=l8 n o;rw[v]at he a;exact(ih x (U.ar (by rw[o];simp)) q c q.pl.form.aD.1 q.pl.form.aD.2 t a e he).2
  ·by_cases b:u.k=10
   ·rw[gA b]at he
    rw[iT b]at hm;simp only[Bool.and_eq_true,List.all_eq_true]at hm;exact⟨g,hm.1 e he⟩
   ·by_cases d:u.k=11
    ·have y:=h.bA.named d
     rw[if_neg c]at y;obtain⟨h1,w,F⟩:=y;rw[nJ d F]at he a;have j:=E.mt _ h1 w;rw[iT a]at j;simp only[Bool.and_eq_true,List.all_eq_true]at j;exact⟨true,j.1 e he⟩
    ·by_cases l:u.k=15
     ·rw[qi l (h.bA.err l)]at he
      rw[EH]at he;cases he
     ·by_cases p:u.k=14
      ·have:under u=bL:=by
        have G:bare u=bL:=gI p;unfold under;rw[G];rfl
       rw[this,EG]at he;cases he
      ·rw[cp n d p l]at a;omega
theorem kC{e:U}{g:Bool}(h:Mo D.len T NS i e 2 2)(hm:mt T .elem e g=true){y:U}(b:y∈(if e.k=12 then e.es else [e])):
 ∃pos,Mo D.len T NS i y pos 2∧y.k≠12∧mt T .term y false=true:=by
 by_cases a:e.k=12
 ·rw[if_pos a]at b
  rw[lU a]at hm;simp only[Bool.and_eq_true,List.all_eq_true]at hm;have hu:=h.union a b;refine⟨1,hu,fun hk=> ?_,(hm.1.1 y b).1⟩;cases hu.pl.form<;>omega
 ·rw[if_neg a]at b
  obtain rfl:y=e:=by simpa using b
  rw[j0 a]at hm;simp only[Bool.and_eq_true]at hm;exact⟨2,h,a,hm.1⟩
theorem Mo.aH{y:U}{pos:Nat}(h:Mo D.len T NS i y pos 2)(b:y.k≠12):Mo D.len T NS i (TS.aH y) 0 2:=by
 by_cases a:y.k=13
 ·have h1:=h.pl.form.gM a
  obtain⟨e,he⟩:=cL h1;have c:=h.part 0 zo;have d:y.es[0]'zo=e:=by simp[he]
  rw[d,show aO y 0 2=2 by unfold aO;rw[if_pos rfl],show aS y 0=0 by unfold aS;rw[if_neg b,if_neg zo]]at c;rw[hZ a he];exact c
 ·rw[fE a];exact h.iy b a
theorem Mo.oZ(E:Env D T NS i){u:U}{pos f:Nat}(h:Mo D.len T NS i u pos f)(a:u.k≠12)(b:u.k≠13)(hm:mt T .type u false=true):aM u:=
 (j8 E.ok E.bA E.mt u pos f false i zl h.bA h.pl h.f2 a b hm).2 (l9 u pos f h.bA h.pl h.f2 a b hm)
theorem Mo.m_(E:Env D T NS i){y:U}{pos:Nat}(h:Mo D.len T NS i y pos 2)(c:y.k≠12)(hm:mt T .term y false=true)(hi:isIface (TS.aH y)=false):aM (TS.aH y):=by
 have b:=h.aH c;by_cases a:y.k=13
 ·obtain⟨e,he⟩:=cL (h.pl.form.gM a)
  rw[lV a,he]at hm;have d:(mt T .type e false=true∧isIface e=false)∧aJ e (under e)=true:=by simpa using hm
  rw[hZ a he]at b⊢;exact b.oZ E b.pl.form.aD.1 b.pl.form.aD.2 d.1.1
 ·rw[fE a]at hi b⊢
  rw[gK a,hi]at hm;exact b.oZ E c a hm
theorem lI{y:U}{pos f:Nat}(c:Pl D.len y pos f)(a:y.k=13)(hm:mt T .term y false=true):isIface (aH y)=false∧aJ (aH y) (under (aH y))=true:=by
 obtain⟨e,he⟩:=cL (c.form.gM a);rw[lV a,he]at hm;have b:(mt T .type e false=true∧isIface e=false)∧aJ e (under e)=true:=by simpa using hm
 rw[hZ a he];exact⟨b.1.2,b.2⟩
theorem EI(E:Env D T NS i):∀(u:U){pos f:Nat}{g:Bool},Mo D.len T NS i u pos f→f≠0→u.k≠12→u.k≠13→mt T .type u g=true→∀x∈bM u,Tok D.len x.2∧ek D.len x.2:=by
 intro u;induction u using U.bc with
 |_ u ih=>
  intro pos f g h p q r hm x b;by_cases c:(under u).k=10
  ·rw[mj c]at b
   obtain⟨y,n,b⟩:=List.mem_flatMap.1 b;have t:=jY n;obtain⟨e,he,n⟩:=List.mem_flatMap.1 n;obtain⟨h1,w,v⟩:=rF E u h p q r hm c e he;obtain⟨pos',j,o,l⟩:=kC h1 v n;have m:=j.aH o;unfold dO at b;by_cases a:y.k=13
   ·rw[if_pos a]at b
    obtain rfl:x=(true,aH y):=by simpa using b
    have s:=(lI j.pl a l).1;have d:=j.m_ E o l s;exact⟨mX E m zo d s,oQ E _ m zo d⟩
   ·rw[if_neg a]at b
    cases hi:isIface y with
    |true=>
     rw[hi,if_pos rfl]at b;rw[gK a]at l;have hu:=dp u;exact ih y zo j zo o a l x b
    |false=>
     rw[hi,if_neg zs]at b;obtain rfl:x=(false,y):=by simpa using b
     rw[fE a]at m;have d:=j.m_ E o l (by rw[fE a];exact hi);rw[fE a]at d;exact⟨mX E m zo d hi,oQ E _ m zo d⟩
  ·rw[kd c]at b;cases b
theorem wG(E:Env D T NS i):∀(u:U){pos f:Nat},Mo D.len T NS i u pos f→f≠0→u.k≠12→u.k≠13→∀m∈an u,aR m.nm=true:=by
 intro u;induction u using U.bc with
 |_ u ih=>
  intro pos f h b c d m hm;obtain⟨⟨o,l,hu⟩,_,_⟩:=h.eW E b c d;have n:=dp u;obtain⟨g,hm⟩:=iS hm;rcases hm with hm|⟨e,he,a,hm⟩
  ·have:=hu.pl.form
   cases this with
   |iface _ _ _ _ j _=>exact(j m hm).2
   |_=>omega
  ·have h1:=hu.elem g he
   unfold aW at a;simp only[Bool.and_eq_true,bne_iff_ne,ne_eq]at a;have p:=U.ar (List.mem_of_mem_drop he);exact ih e zo h1 zo a.1.1 a.1.2 m hm
theorem EJ(E:Env D T NS i){u:U}{pos f:Nat}{g:Bool}(h:Mo D.len T NS i u pos f)(l:u.k=10)(hm:mt T .type u g=true)(V:u.es.length≤1048576):gB D.len u:=by
 have hu:=gA l;have G:(∀e∈u.es.take u.m.toNat,e.k=7∧aR e.nm=true):=by
  cases h.pl.form with
  |iface _ _ _ _ P _=>exact P
  |_=>omega
 rw[iT l]at hm;simp only[Bool.and_eq_true,List.all_eq_true,decide_eq_true_eq]at hm;obtain⟨Q,⟨_,_⟩,R⟩:=hm;have p:∀e∈u.es.drop u.m.toNat,Mo D.len T NS i e 2 2∧mt T .elem e g=true:=fun e he=>⟨h.elem l he,Q e he⟩
 have hw:∀y∈eU u,∀x∈dO y,x∈bM u:=fun y n x d=>by rw[oN l];exact List.mem_flatMap.2 ⟨y,n,d⟩
 have s:∀e∈u.es.drop u.m.toNat,∀y∈(if e.k=12 then e.es else [e]),y∈eU u:=fun e he y n=>List.mem_flatMap.2 ⟨e,he,n⟩;have v:∀x∈bM u,Tok D.len x.2∧ek D.len x.2:=fun x d=>by
  rw[oN l]at d;obtain⟨y,n,d⟩:=List.mem_flatMap.1 d;obtain⟨e,he,n⟩:=List.mem_flatMap.1 n;obtain⟨h1,N⟩:=p e he;obtain⟨pos',B,C,H⟩:=kC h1 N n;have o:=B.aH C;unfold dO at d;by_cases b:y.k=13
  ·rw[if_pos b]at d
   obtain rfl:x=(true,aH y):=by simpa using d
   have O:=(lI B.pl b H).1;have J:=B.m_ E C H O;exact⟨mX E o zo J O,oQ E _ o zo J⟩
  ·rw[if_neg b]at d
   cases hi:isIface y with
   |true=>
    rw[hi,if_pos rfl]at d;rw[gK b]at H;exact EI E y B zo C b H x d
   |false=>
    rw[hi,if_neg zs]at d;obtain rfl:x=(false,y):=by simpa using d
    rw[fE b]at o;have J:=B.m_ E C H (by rw[fE b];exact hi);rw[fE b]at J;exact⟨mX E o zo J hi,oQ E _ o zo J⟩
 have w:∀{y:U}{pos:Nat},Mo D.len T NS i y pos 2→y.k≠12→y.k≠13→(under y).k≠2∧(under y).k≠14:=fun n a c=>by
  have:=(n.eW E zo a c).2.1;exact⟨this.1,this.2.2.1⟩
 have F:∀{y:U}{pos:Nat},Mo D.len T NS i y pos 2→y.k≠12→y.k≠13→lA D.len y:=fun n a c=>⟨⟨2,by omega,(n.iy a c).pl⟩,n.fl E zo a c⟩
 have K:∀{y:U}{pos:Nat},Mo D.len T NS i y pos 2→y.k≠12→y.k≠13→∀x∈bM (under y),x∈bM y:=fun{y} {pos} n a c x d=>by
  by_cases hk:(under y).k=10
  ·rwa [D_ hk]at d
  ·have h1:=(n.eW E zo a c).2.1
   rw[kd (by rw[cp h1.1 h1.2.1 h1.2.2.1 h1.2.2.2];exact hk)]at d;cases d
 have I:∀e∈u.es.drop u.m.toNat,∀y∈(if e.k=12 then e.es else [e]),(y.k=13→isIface (aH y)=false)∧q_ D.len (bM u) (y.k==13) (aH y):=fun e he y n=>by
  obtain⟨h1,N⟩:=p e he;obtain⟨pos',B,C,H⟩:=kC h1 N n;have o:=B.aH C;have z:=o.pl.form.aD;have q:=s e he y n;by_cases b:y.k=13
  ·obtain⟨O,hid⟩:=lI B.pl b H
   refine⟨fun _=>O,.inl ?_⟩;have d:(true,aH y)∈bM u:=hw y q _ (by unfold dO;rw[if_pos b];simp);rw[show(y.k==13)=true by simp[b]];exact⟨(v _ d).1,fun _=>hid,d,w o z.1 z.2⟩
  ·refine⟨fun h=>absurd h b,?_⟩
   rw[fE b]at o z⊢;rw[show(y.k==13)=false by simp[b]];cases hi:isIface y with
   |true=>exact .inr ⟨hi,F B C b,fun x d=>hw y q x (by unfold dO;rw[if_neg b,hi,if_pos rfl];exact K B C b x d)⟩
   |false=>
    have d:(false,y)∈bM u:=hw y q _ (by unfold dO;rw[if_neg b,hi,if_neg zs];simp);exact .inl ⟨(v _ d).1,fun h=>(by cases h),d,w o z.1 z.2⟩
 refine⟨l,fun x d=>(v x d).1,?_,fun x d=>(v x d).2,fun e he=> ?_,fun m hm=>(G m hm).2,(lY h.pl.form l).noTwo,?_,V⟩
 ·have:=tT u R;omega
 ·obtain⟨h1,N⟩:=p e he
  by_cases a:e.k=12
  ·refine .inl ⟨.inl a,?_,?_,?_⟩
   ·intro j L
    rw[bD,if_pos a]at L;rw[show(bD e)[j]=(e.es[j]'(by simpa using L)|> fun x=>(x.k==13,aH x)) by simp[bD,a]];exact(I e he _ (by rw[if_pos a];exact zm _)).2
   ·rw[bD,if_pos a,List.length_map]
    cases h1.pl.form<;>omega
   ·intro t o M
    rw[bD,if_pos a]at o;obtain⟨x,d,rfl⟩:=List.mem_map.1 o;exact(I e he x (by rw[if_pos a];exact d)).1 (by simpa using M)
  ·have A:=I e he e (by rw[if_neg a];simp)
   by_cases c:e.k=13
   ·refine .inl ⟨.inr c,?_,?_,?_⟩
    ·intro j L
     rw[bD,if_neg a]at L;obtain rfl:j=0:=by simp at L;omega
     have:=A.2;rw[show(e.k==13)=true by simp[c]]at this;simpa [bD,a]using this
    ·rw[bD,if_neg a];simp
    ·intro t o M
     rw[bD,if_neg a]at o;obtain rfl:t=(true,aH e):=by simpa using o
     exact A.1 c
   ·have o:=h1.iy a c
    have q:=s e he e (by rw[if_neg a];simp);cases hi:isIface e with
    |true=>exact .inr (.inl ⟨⟨a,c⟩,hi,F h1 a c,fun x d=>hw e q x (by unfold dO;rw[if_neg c,hi,if_pos rfl];exact K h1 a c x d),wG E e h1 zo a c⟩)
    |false=>
     have d:(false,e)∈bM u:=hw e q _ (by unfold dO;rw[if_neg c,hi,if_neg zs];simp);exact .inr (.inr ⟨⟨a,c⟩,(v _ d).1,d,w h1 a c⟩)
 ·have S:=pU (r:=u.es.drop u.m.toNat) (lY h.pl.form l).noTwo
  have hle:=j7 (NS:=NS) S fun m hm=>by
   have:m∈an u:=by rw[kB l,lT];exact hm
   exact(h.aI.cy m this).1
  have:=E.cP;unfold dN;omega
theorem rG(E:Env D T NS i){p:Pm}:∀(u:U){s:Pt}{pos f:Nat}{g:Bool}{a:Option Addr}{c:Nat},Mo D.len T NS i u pos f→mt T s u g=true→(s= .type→u.k≠12∧u.k≠13)→(s= .term→u.k≠12)→ai p D u a c→FF D.len u:=by
 intro u;induction u using U.bc with
 |_ u ih=>
  intro s pos f g a c h hm x C hu;have I:=hu.cap;have y:∀j(l:j<u.es.length),∃a' c',ai p D u.es[j] a' c':=fun j l=>by
   obtain⟨eb,eo,rfl⟩:=hu.list.bg zo;obtain⟨a',c',_,w⟩:=hu.list.get j l;exact⟨a',c',w⟩
  have go:∀j(l:j<u.es.length)(A:Pt)(r:Bool),mt T A u.es[j] r=true→(A= .type→u.es[j].k≠12∧u.es[j].k≠13)→(A= .term→u.es[j].k≠12)→FF D.len u.es[j]:=fun j l A r h1 w J=>by
   obtain⟨a',c',K⟩:=y j l;exact ih _ (U.ar (zm l)) (h.part j l) h1 w J K
  have v:u.k≠10→u.k≠12→∀j(l:j<u.es.length)(r:Bool),mt T .type u.es[j] r=true→FF D.len u.es[j]:=fun n b j l r F=>by
   have B:=h.pl.jt n b j l;exact go j l .type r F (fun _=>B.form.aD) fun e=>(by cases e)
  have z:u.k≠12→u.k≠13→∃r,mt T .type u r=true:=fun b o=>by
   cases s with
   |type=>exact⟨_,hm⟩
   |term=>rw[gK o]at hm;exact⟨_,hm⟩
   |elem=>
    rw[j0 b]at hm;simp only[Bool.and_eq_true]at hm;have:=hm.1;rw[gK o]at this;exact⟨_,this⟩
  rw[FF];refine⟨fun n=> ?_,fun e he=> ?_⟩
  ·obtain⟨r,d⟩:=z zo zo
   exact⟨EJ E h n d zo,by omega⟩
  ·obtain⟨j,l,rfl⟩:=List.getElem_of_mem he
   by_cases b:u.k=12
   ·have t:mt T .elem u g=true:=by
     cases s with
     |type=>exact absurd b (x rfl).1
     |term=>exact absurd b (C rfl)
     |elem=>exact hm
    rw[lU b]at t;simp only[Bool.and_eq_true,List.all_eq_true]at t;have B:=h.pl.part j l;rw[show aS u j=1 by unfold aS;rw[if_pos b]]at B;exact go j l .term false (t.1.1 _ he).1 (fun e=>by cases e) fun _ hk=>by cases B.form<;>omega
   ·by_cases o:u.k=13
    ·have q:mt T .term u g=true∨mt T .term u false=true:=by
      cases s with
      |type=>exact absurd o (x rfl).2
      |term=>exact .inl hm
      |elem=>
       rw[j0 b]at hm;simp only[Bool.and_eq_true]at hm;exact .inr hm.1
     have t:∀e∈u.es,mt T .type e false=true:=fun e he=>by
      rcases q with q|q
      all_goals
       rw[lV o]at q;simp only[Bool.and_eq_true,List.all_eq_true]at q;exact(q e he).1.1
     exact v zo b j l false (t _ he)
    ·obtain⟨r,d⟩:=z b o
     by_cases w:u.k=2
     ·rw[kS w,List.all_eq_true]at d
      exact v zo b j l r (d _ he)
     ·by_cases n:u.k=10
      ·rw[iT n]at d
       simp only[Bool.and_eq_true,List.all_eq_true]at d;have G:u.es[j]∈u.es.take u.m.toNat∨u.es[j]∈u.es.drop u.m.toNat:=by
        rw[←List.mem_append,List.take_append_drop];exact he
       rcases G with he|he
       ·have L:∀e∈u.es.take u.m.toNat,e.k=7∧aR e.nm=true:=by
         cases h.pl.form with
         |iface _ _ _ _ H _=>exact H
         |_=>omega
        have h7:=(L _ he).1;exact go j l .type false (d.2.1.1 _ he) (fun _=>by omega) fun e=>(by cases e)
       ·exact go j l .elem r (d.1 _ he) (fun e=>by cases e) fun e=>by cases e
      ·rw[nB w n]at d
       simp only[Bool.and_eq_true,List.all_eq_true]at d;exact v n b j l false (d.2 _ he)
end
section
variable {D:Dl} {T:List U} {NS:List (List UInt8)} {i:Nat}
end
theorem EO{l m:List Tm}{t:Tm}:t∈(l.flatMap fun x=>m.filterMap fun y=>cq x y)↔∃x∈l,∃y∈m,cq x y=some t:=by
 simp only[List.mem_flatMap,List.mem_filterMap]
theorem wH{l:List Tm}:dh l=true↔none∈l:=by
 unfold dh;rw[List.any_eq_true];constructor
 ·rintro⟨t,a,b⟩
  cases t with
  |none=>exact a
  |some _=>cases b
 ·exact fun h=>⟨none,h,rfl⟩
section
variable {len:Nat} {T:List U}
end
section
variable {D:Dl} {T:List U} {NS:List (List UInt8)} {i:Nat}
theorem EP(E:Env D T NS i){x:U}{f:Nat}(h:Mo D.len T NS i x 0 f)(f0:f≠0)(v:aM x):Wf D.len T x:=by
 have n:=h.pl.form.aD;obtain⟨⟨g,_,hu⟩,_⟩:=h.eW E f0 n.1 n.2;exact⟨h.vt v,hu.vt (h.mW E f0 n.1 n.2 v),i,0,f,f0,h.f2,h.pl,h.bA⟩
def o4(D:Dl)(T:List U)(NS:List (List UInt8))(i:Nat):Tm→Prop
 |none=>True
 |some (d,e)=>(∃f,f≠0∧Mo D.len T NS i e 0 f)∧aM e∧isIface e=false∧(d=true→aJ e (under e)=true)
theorem o4.w(E:Env D T NS i){t:Tm}(h:o4 D T NS i t):EK D.len T t:=by
 match t,h with
 |none,_=>trivial
 |some (d,e),h=>
  obtain⟨⟨f,f0,hM⟩,v,_,a⟩:=h;exact⟨EP E hM f0 v,a⟩
theorem o4.ok(E:Env D T NS i){t:Tm}(h:o4 D T NS i t):dS D.len t:=by
 match t,h with
 |none,_=>trivial
 |some (d,e),h=>
  obtain⟨⟨f,f0,hM⟩,v,hi,_⟩:=h;exact mX E hM f0 v hi
def o6(t:Bool×U):List Tm:=if isIface t.2 then(dr t.2).1 else [some t]
theorem ER(r:List Tm)(t:Bool×U):fN r t=eh (r++o6 t):=rfl
end
def eZ:U:= .mk 14 0 0 false ByteArray.empty ByteArray.empty [] []
theorem Fe:bare eZ=bL:=gI rfl
theorem kD:under eZ=bL:=by unfold under;rw[Fe];rfl
theorem Ff:isIface eZ=true:=by unfold isIface;rw[kD];rfl
theorem Fg:an eZ= []:=by
 rw[gJ (by rw[kD];rfl),kD];have:dN bL= []:=rfl;rw[this];simp[b7]
theorem Fh{out:List U}{m x:U}(h:x∈out):x∈bI out m:=by
 unfold bI;split
 ·exact h
 ·exact List.mem_append_left _ h
theorem Fi(out:List U)(m:U):∃f∈bI out m,cH f m=true:=by
 unfold bI;split
 ·rename_i h
  exact List.any_eq_true.1 h
 ·exact⟨m,by simp,tQ m⟩
theorem wP{l:List U}:∀{out:List U}{x:U},x∈out→x∈l.foldl bI out:=by
 induction l with
 |nil=>intro _ _ h;exact h
 |cons m r ih=>intro _ _ h;exact ih (Fh h)
theorem Fj{l:List U}:∀{out:List U}{m:U},m∈l→∃f∈l.foldl bI out,cH f m=true:=by
 induction l with
 |nil=>intro _ _ h;cases h
 |cons a r ih=>
  intro out m h;rcases List.mem_cons.1 h with rfl|h
  ·obtain⟨f,b,e⟩:=Fi out m
   exact⟨f,wP (l:=r) b,e⟩
  ·exact ih h
theorem Fk{out:List U}{e x:U}(h:x∈out):x∈bS out e:=by
 unfold bS;split
 ·exact wP h
 ·exact h
theorem rI{l:List U}:∀{out:List U}{x:U},x∈out→x∈l.foldl bS out:=by
 induction l with
 |nil=>intro _ _ h;exact h
 |cons m r ih=>intro _ _ h;exact ih (Fk h)
theorem Fl{l:List U}:∀{out:List U}{e m:U},e∈l→aW e=true→m∈an e→∃f∈l.foldl bS out,cH f m=true:=by
 induction l with
 |nil=>intro _ _ _ h;cases h
 |cons a r ih=>
  intro out e m h he hm;rcases List.mem_cons.1 h with rfl|h
  ·obtain⟨f,b,c⟩:=Fj (out:=out) hm
   refine⟨f,rI (l:=r) ?_,c⟩;unfold bS;rw[if_pos he];exact b
  ·exact ih h he hm
section
variable {D:Dl} {T:List U} {NS:List (List UInt8)} {i:Nat}
theorem Fo(E:Env D T NS i){u:U}{pos f:Nat}{g:Bool}(h:Mo D.len T NS i u pos f)(d:f≠0)(a:u.k≠12)(b:u.k≠13)(hm:mt T .type u g=true):∀m∈an u,Vt D.len m∧aR m.nm=true:=fun m c=>by
 obtain⟨_,l,e,j⟩:=h.pl.cy h.f2 d a b m c;exact⟨⟨(j8 E.ok E.bA E.mt u pos f g i zl h.bA h.pl h.f2 a b hm).1 m c,l,e,j⟩,wG E u h d a b m c⟩
end
section
variable {D:Dl} {ds:List aC} {NS:List (List UInt8)}
end
section
variable {D:Dl} {T:List U} {NS:List (List UInt8)} {i:Nat}
end
structure Xo where
 t:U→Bool
 n:U→Bool
 s:Bool
 h:List U→Bool
def bQ(X:Xo)(u:U):Bool:=
 if u.k=12 then u.es.attach.any fun⟨e,_⟩=>bQ X e
 else if u.k=13 then X.t (aH u)
 else if(bare u).k=16 then X.s
 else if isIface u=false then X.n (bare u)
 else if(under u).k=16 then X.s
 else X.h ((under u).es.take (under u).m.toNat)&&((under u).es.drop (under u).m.toNat).attach.all fun⟨e,_⟩=>bQ X e
termination_by u.sz
decreasing_by
 ·exact U.ar ‹_›
 ·have h1:=U.ar (List.mem_of_mem_drop ‹_›)
  have a:=dp u;omega
theorem wQ{X:Xo}{u:U}(h:u.k=12):bQ X u=u.es.any (bQ X):=by
 rw[bQ,if_pos h];conv=>rhs;rw[←List.attach_map_subtype_val u.es,List.any_map]
 rfl
theorem wR{X:Xo}{u:U}(a:u.k≠12)(b:u.k≠13)(c:(bare u).k≠16)(d:(under u).k=10):bQ X u=(X.h ((under u).es.take (under u).m.toNat)&&((under u).es.drop (under u).m.toNat).all (bQ X)):=by
 have hi:isIface u=true:=by unfold isIface;rw[d];rfl
 rw[bQ,if_neg a,if_neg b,if_neg c,if_neg (by rw[hi];simp),if_neg zo];congr 1;conv=>rhs;rw[←List.attach_map_subtype_val ((under u).es.drop (under u).m.toNat),List.all_map]
 rfl
theorem wT{l:List Tm}(h:none∈eh l):none∈l:=by
 unfold eh at h;cases hO:cX l with
 |none=>exact EN _ zl hO
 |some m=>rw[hO]at h;exact nQ hO _ h
theorem wU{l m:List Tm}(h:none∈b8 l m):none∈l∧none∈m:=by
 unfold b8 at h;split at h
 ·cases h
 ·obtain⟨x,a,y,b,he⟩:=EO.1 (wT h)
  match x,y,he with
  |none,none,_=>exact⟨a,b⟩
  |none,some y,he=>simp[cq]at he
  |some x,none,he=>simp[cq]at he
  |some x,some y,he=>
   simp only[cq]at he;split at he
   ·cases he
   ·split at he<;>simp at he
theorem Fp{x y:List Tm×Bool}(h:none∈(dP x y).1):none∈x.1∧none∈y.1∧(dP x y).2=(x.2||y.2):=by
 unfold dP at h⊢;split at h
 ·rename_i a
  have h1:=(List.mem_filter.1 h).1;have b:=wH.2 h1;rw[b]at a;simp at a
 ·rename_i a
  rw[if_neg a];exact⟨(wU h).1,(wU h).2,rfl⟩
theorem Fq{x y:List Tm×Bool}(h:(dP x y).2=true):x.2=true∨y.2=true:=by
 unfold dP at h;split at h
 ·cases h
 ·simpa using h
theorem Fs:∀(l:List U)(a:List Tm×Bool),none∈(l.foldl (fun a e=>dP a (dQ e)) a).1→(l.foldl (fun a e=>dP a (dQ e)) a).2=false→none∈a.1∧a.2=false∧∀e∈l,none∈(dQ e).1∧(dQ e).2=false:=by
 intro l;induction l with
 |nil=>exact fun a h1 c=>⟨h1,c,fun e he=>by cases he⟩
 |cons e r ih=>
  intro a h1 c;obtain⟨d,b,f⟩:=ih _ h1 c;obtain⟨g,h7,h⟩:=Fp d;rw[h]at b;simp only[Bool.or_eq_false_iff]at b;exact⟨g,b.1,fun x j=>(List.mem_cons.1 j).elim (fun e=>e▸⟨h7,b.2⟩) (f x)⟩
theorem Ft:∀(l:List U)(a:List Tm×Bool),(l.foldl (fun a e=>dP a (dQ e)) a).2=true→a.2=true∨∃e∈l,(dQ e).2=true:=by
 intro l;induction l with
 |nil=>exact fun a h=> .inl h
 |cons e r ih=>
  intro a h;rcases ih _ h with h|⟨x,b,h⟩
  ·rcases Fq h with h|h
   ·exact .inl h
   ·exact .inr ⟨e,List.mem_cons_self,h⟩
  ·exact .inr ⟨x,List.mem_cons_of_mem _ b,h⟩
theorem wV:∀(l:List (Bool×U))(r:List Tm),none∈l.foldl fN r→none∈r∨∃t∈l,none∈o6 t:=by
 intro l;induction l with
 |nil=>exact fun r h=> .inl h
 |cons t s ih=>
  intro r h;rcases ih _ h with h|⟨x,a,h⟩
  ·rw[ER]at h
   rcases List.mem_append.1 (wT h)with h|h
   ·exact .inl h
   ·exact .inr ⟨t,List.mem_cons_self,h⟩
  ·exact .inr ⟨x,List.mem_cons_of_mem _ a,h⟩
theorem Fu:∀u:U,(dr u).2=true→eT u=true:=by
 intro u;induction u using U.bc with
 |_ u ih=>
  intro h;rw[sH];by_cases a:(under u).k=10
  ·rw[lf a]at h
   rcases Ft _ _ h with h|⟨e,he,h⟩
   ·cases h
   ·have b:=U.ar (List.mem_of_mem_drop he)
    have hle:=dp u;unfold dQ at h;split at h
    ·cases h
    ·rename_i hk
     split at h
     ·rename_i hi
      rw[Bool.or_eq_true,List.any_eq_true];refine .inr ⟨e,he,?_⟩;rw[ih e zo h,Bool.and_true];unfold aW;simp only[not_or]at hk;simp[hk.1,hk.2,hi]
     ·cases h
  ·rw[ke a]at h
   rw[Bool.or_eq_true];exact .inl h
section
variable {D:Dl} {T:List U} {NS:List (List UInt8)} {i:Nat}
theorem Fv{u e:U}(a:(under u).k=10)(h:an u= [])(he:e∈(under u).es.drop (under u).m.toNat)(b:aW e=true):an e= []:=by
 rw[gJ a]at h;cases hr:an e with
 |nil=>rfl
 |cons m r=>
  obtain⟨f,c,_⟩:=Fl (out:=(under u).es.take (under u).m.toNat) he b (m:=m) (by rw[hr];exact List.mem_cons_self);have:f∈b7 (dN (under u)):=lT.2 c;rw[h]at this;cases this
theorem Fw{u:U}(a:(under u).k=10)(h:an u= []):(under u).es.take (under u).m.toNat= []:=by
 rw[gJ a]at h;cases hr:(under u).es.take (under u).m.toNat with
 |nil=>rfl
 |cons m r=>
  have b:m∈dN (under u):=rI (by rw[hr];exact List.mem_cons_self);have:m∈b7 (dN (under u)):=lT.2 b;rw[h]at this;cases this
theorem Fx(E:Env D T NS i)(X:Xo)(I:X.h []=true):∀(u:U){pos f:Nat}{g:Bool},Mo D.len T NS i u pos f→f≠0→u.k≠12→u.k≠13→mt T .type u g=true→none∈(dr u).1→(dr u).2=false→an u= []→isIface u=true→bQ X u=true:=by
 intro u;induction u using U.bc with
 |_ u ih=>
  intro pos f g h G v w hm ha z hr hi;have j:(under u).k=10:=by
   unfold isIface at hi;simp only[Bool.or_eq_true,beq_iff_eq]at hi;rcases hi with h|h
   ·exact h
   ·rw[ke zo,h]at z
    cases z
  have H:(bare u).k≠16:=fun A=>by
   have:under u=bare u:=by unfold under;rw[if_neg zo]
   rw[this]at j;omega
  rw[wR v w H j,Fw j hr,I,Bool.true_and,List.all_eq_true];intro e he;rw[lf j]at ha z;obtain⟨_,_,x⟩:=Fs _ _ ha z;obtain⟨a,n⟩:=x e he;obtain⟨h1,N,r⟩:=rF E u h G v w hm j e he;have J:=U.ar (List.mem_of_mem_drop he);have hle:=dp u;by_cases b:e.k=12
  ·rw[wQ b,List.any_eq_true]
   unfold dQ at a;rw[if_pos (.inl b)]at a;rcases wV _ _ a with d|⟨t,q,d⟩
   ·cases d
   ·unfold bD at q
    rw[if_pos b]at q;obtain⟨y,B,rfl⟩:=List.mem_map.1 q;obtain⟨pos',s,C,p⟩:=kC h1 r (y:=y) (by rw[if_pos b];exact B);have K:=U.ar B;unfold o6 at d;cases c:isIface (aH y)with
    |false=>rw[c,if_neg zs]at d;simp at d
    |true=>
     by_cases l:y.k=13
     ·rw[(lI s.pl l p).1]at c;cases c
     ·rw[c,if_pos rfl]at d
      simp only[fE l]at d c;rw[lU b]at r;simp only[Bool.and_eq_true,List.all_eq_true]at r;have F:=(r.1.1 y B).2;have A:aW y=true:=by unfold aW;simp[C,l,c]
      rw[A]at F;simp only[Bool.true_and,Bool.not_eq_true',Bool.or_eq_false_iff,decide_eq_false_iff_not]at F;have L:(dr y).2=false:=by
       cases M:(dr y).2 with
       |false=>rfl
       |true=>rw[Fu y M]at F;cases F.2
      rw[gK l]at p;exact⟨y,B,ih y zo s zo C l p d L (List.eq_nil_of_length_eq_zero zo) c⟩
  ·by_cases m:e.k=13
   ·unfold dQ at a
    rw[if_pos (.inr m)]at a;obtain⟨pos',s,C,p⟩:=kC h1 r (y:=e) (by rw[if_neg b];simp);rcases wV _ _ a with d|⟨t,q,d⟩
    ·cases d
    ·unfold bD at q
     rw[if_neg b]at q;obtain rfl:t=(true,aH e):=by simpa using q
     unfold o6 at d;rw[(lI s.pl m p).1,if_neg zs]at d;simp at d
   ·unfold dQ at a n
    rw[if_neg zo]at a n;cases o:isIface e with
    |false=>rw[o,if_neg zs]at a;simp at a
    |true=>
     rw[o,if_pos rfl]at a n;obtain⟨pos',s,C,p⟩:=kC h1 r (y:=e) (by rw[if_neg b];simp);rw[gK m]at p;have A:aW e=true:=by unfold aW;simp[b,m,o]
     exact ih e zo s zo b m p a n (Fv j hr he A) o
end
end TS
