import Derived.Test.YtkochlhejabdcaaGreatDoorYbq
set_option maxRecDepth 100000
set_option maxHeartbeats 8000000
set_option linter.all false
namespace TS
open Go Go.RowKit Go.Proofs.YtkochlhejabdcaaGreatDoor
structure fK(C:BC)(u:U)(p:Pm)(g:Ge)(mv:Value)(ms:List Nat)(w:World)(k:Nat)(q:Pm)(e:Ge)(c:Value)(d fs:List Nat)(a:Nat→Nat)(f:Value)(wr:World):Prop where
 bs:BS C q e c d wr
 st:aG C p g mv ms w q e d wr
 om:∀b,c.ownBlock=some b→mv.ownBlock=some b∨w.heap.size≤b
 fl:fs.length=k
 fr:wr.ownsRow w 113 1 f fs.length (fs.map pv)
 fd:∀b,f.ownBlock=some b→∀o,q b o=none
 fa:∀i(h:i<u.es.length),i<k→dq q e u.es[i] (fs.getD i 0)∧q (fs.getD i 0) 0=some (.int .i64 0)
 sg:∀i,i<k→q (fs.getD i 0) 3=some (ah 108 (a i))∧Xc wr (a i) 0 (.pointer none)∧wr.frozen? (Xa (a i) 0)=false∧q (a i) 0=none∧w.heap.size≤a i∧∃v,q (a i) 2=some v
theorem xx{C:BC}{p q:Pm}{g g1:Ge}{mv:Value}{ms c:List Nat}{w d:World}(k:BS C p g mv ms w)(b:aG C p g mv ms w q g1 c d){s:Nat}(o:C.bb<s)(i:Xc w s 0 (.pointer none))(l:w.frozen? (Xa s 0)=false)(m:p s 0=none)(a:∃v,p s 2=some v):
 Xc d s 0 (.pointer none)∧d.frozen? (Xa s 0)=false∧q s 0=none∧∃v,q s 2=some v:=by
 have f:=zb i;have j:¬(s=C.bb∨mv.ownBlock=some s):=fun e=>by
  rcases e with e|e
  ·omega
  ·obtain⟨v,a⟩:=a;rw[(k.rd s e).2 2]at a;cases a
 refine⟨by rw[b.kept.cell f j];exact i,by rw[b.kept.frozen f j];exact l,?_,let⟨v,h⟩:=a;⟨v,b.gr.le _ _ _ h⟩⟩;cases n:q s 0 with
 |none=>rfl
 |some v=>
  rcases b.gr.new _ _ _ n with h|h
  ·rw[m]at h;cases h
  ·simp only at f;omega
theorem fK.step{C:BC}{u e:U}{p q l:Pm}{g g' g1:Ge}{mv D E:Value}{ms M F fs:List Nat}{w X wr a N:World}{k s:Nat}{sb:Nat→Nat}{O x:Value}{pk:Option Addr}
 (hM:fK C u p g mv ms w k q g' D M fs sb O wr)(P:C.bb<w.heap.size)(Y:u.es[k]?=some e)(Z:e.k=7)(d:Below wr wr X)
 (Q:Node l g1 e (ah 108 s))(G:BS C l g1 E F a)(m:aG C q g' D M X l g1 F a)(PG:∀b,E.ownBlock=some b→D.ownBlock=some b∨X.heap.size≤b)
 (hs:X.heap.size≤s)(PH:l s 0=none)(PI:Xc a s 0 (.pointer none))(PJ:a.frozen? (Xa s 0)=false)
 {bs:Array Value}{Tb:TypeId}(PK:N.ownsRow w 113 1 x (fs.length+1) (fs.map pv++ [pv a.heap.size]))
 (PL:((a.alloc (.cells #[.int .i64 0,.pointer pk,.string e.nm,ah 108 s,.bool false,.bool false] 212)).alloc (.cells bs Tb)).grownBy N O.ownBlock)
 (PM:x.ownBlock=O.ownBlock∨x.ownBlock=some ((a.alloc (.cells #[.int .i64 0,.pointer pk,.string e.nm,ah 108 s,.bool false,.bool false] 212)).alloc (.cells bs Tb)).heap.size):
 fK C u p g mv ms w (k+1) (l.add a.heap.size #[.int .i64 0,.pointer pk,.string e.nm,ah 108 s,.bool false,.bool false]) g1 E F (fs++ [a.heap.size]) (fun i=>if i=k then s else sb i) x N:=by
 obtain⟨hk,R⟩:=List.getElem?_eq_some_iff.1 Y;have y:=aG.row (hM.bs.below d) m zd (bw hM.fr d) P hM.fd;have PN:=G.box #[.int .i64 0,.pointer pk,.string e.nm,ah 108 s,.bool false,.bool false] 212;have PO:=(hM.st.trans (aG.ahead d m) hM.om).box G #[.int .i64 0,.pointer pk,.string e.nm,ah 108 s,.bool false,.bool false] 212;have hd:∀o,l a.heap.size o=none:=fun o=>G.wb.kw.aF zl o;have n:=Pm.cK (cs:=#[.int .i64 0,.pointer pk,.string e.nm,ah 108 s,.bool false,.bool false]) hd;generalize H:#[Value.int .i64 0,.pointer pk,.string e.nm,ah 108 s,.bool false,.bool false]=f at*;have j:Below a a ((a.alloc (.cells f 212)).alloc (.cells bs Tb)):=(zB.alloc zl _).alloc zs _;have S:Below (a.alloc (.cells f 212)).heap.size (a.alloc (.cells f 212)) ((a.alloc (.cells f 212)).alloc (.cells bs Tb)):=zB.alloc zl _;have z:=PN.below S;have T:∀b,O.ownBlock=some b→∀o,l.add a.heap.size f b o=none:=fun b c o=>by
  rw[Pm.aQ _ _ _ fun e2=>by have:=(y.1.lt b c).2;omega];exact y.2 b c o
 have A:=bw y.1 j;obtain⟨PQ,I⟩:=z.appended zd A T P PL;have PR:=(PO.below S).own I fun b c=>(A.lt b c).1;have J:=hM.fl;have K:=m.gr.le.trans n;have PX:=hM.st.size;have PY:=d.size;have r:∀t,Xc a t 0 (.pointer none)→a.frozen? (Xa t 0)=false→l t 0=none→(∃v,l t 2=some v)→Xc N t 0 (.pointer none)∧N.frozen? (Xa t 0)=false∧l.add a.heap.size f t 0=none∧∃v,l.add a.heap.size f t 2=some v:=fun t h1 B V ⟨v,L⟩=>by
  have W:=zb h1;simp only at W;have hx:¬O.ownBlock=some t:=fun c=>by rw[y.2 t c 2]at L;cases L
  have PZ:=j.size;refine⟨by rw[I.cell zo hx];exact az j h1,by rw[I.frozen zo hx];exact TS.frozen_kept j W B,by rw[Pm.aQ _ _ _ zo];exact V,v,n _ _ _ L⟩
 refine⟨PQ,PR,fun b c=> ?_,by simp[J],by simpa using PK,kH z.wb T PM,fun i h hi=> ?_,fun i hi=> ?_⟩
 ·rcases PG b c with c|c
  ·exact hM.om b c
  ·exact .inr zo
 ·by_cases c:i=k
  ·subst c
   rw[R,show(fs++ [a.heap.size]).getD i 0=a.heap.size by simp[List.getD,←J]];simp only[dq,Pm.aU,←H];refine⟨⟨s,⟨pk,rfl⟩,rfl,rfl,?_⟩,rfl⟩;rw[H];exact Q.sub n (aK.refl _)
  ·rw[show(fs++ [a.heap.size]).getD i 0=fs.getD i 0 by simp[List.getD,List.getElem?_append_left (show i<fs.length by omega)]]
   obtain⟨h1,B⟩:=hM.fa i h zo;exact⟨h1.sub K m.gs,K _ _ _ B⟩
 ·by_cases c:i=k
  ·subst c
   rw[if_pos rfl,show(fs++ [a.heap.size]).getD i 0=a.heap.size by simp[List.getD,←J]];obtain⟨b,P0,P1,f',P2,ex,_,k2,_⟩:=Q.lj Z;cases ex;obtain⟨h1,B,V,L⟩:=r _ PI PJ PH ⟨_,k2⟩;exact⟨by rw[Pm.aU,←H];rfl,h1,B,V,by omega,L⟩
  ·rw[if_neg c,show(fs++ [a.heap.size]).getD i 0=fs.getD i 0 by simp[List.getD,List.getElem?_append_left (show i<fs.length by omega)]]
   obtain⟨h1,B,V,L,h5,h6⟩:=hM.sg i zo;have W:=zb B;simp only at W;obtain⟨j1,j2,j3,j4⟩:=xx (hM.bs.below d) m zo (az d B) (TS.frozen_kept d W V) L h6;obtain⟨PS,PT,PU,PW⟩:=r _ j1 j2 j3 j4;exact⟨K _ _ _ h1,PS,PT,PU,h5,PW⟩
theorem fK.after{C:BC}{u:U}{p q n:Pm}{g x g1:Ge}{mv d e:Value}{ms j f fs:List Nat}{w o wr r:World}{k:Nat}{y:Nat→Nat}{z:Value}
 (hM:fK C u p g mv ms w k q x d j fs y z wr)(s:C.bb<w.heap.size)(a:Below wr wr o)
 (t:BS C n g1 e f r)(c:aG C q x d j o n g1 f r)(v:∀b,e.ownBlock=some b→d.ownBlock=some b∨o.heap.size≤b):
 fK C u p g mv ms w k n g1 e f fs y z r:=by
 have l:=aG.row (hM.bs.below a) c zd (bw hM.fr a) s hM.fd;refine⟨t,hM.st.trans (aG.ahead a c) hM.om,fun b m=> ?_,hM.fl,l.1,l.2,fun i h hi=>⟨(hM.fa i h hi).1.sub c.gr.le c.gs,c.gr.le _ _ _ (hM.fa i h hi).2⟩,fun i hi=> ?_⟩
 ·rcases v b m with m|m
  ·exact hM.om b m
  ·have:=a.size;have:=hM.st.size;exact .inr zo
 ·obtain⟨h1,A,D,E,F,G⟩:=hM.sg i hi
  have B:=zb A;simp only at B;obtain⟨H,I,J,K⟩:=xx (hM.bs.below a) c zo (az a A) (TS.frozen_kept a B D) E G;exact⟨c.gr.le _ _ _ h1,H,I,J,F,K⟩
theorem fK.below{C:BC}{u:U}{p q:Pm}{g d:Ge}{mv a:Value}{ms b fs:List Nat}{w wr e:World}{k:Nat}{f:Nat→Nat}{h:Value}
 (hM:fK C u p g mv ms w k q d a b fs f h wr)(c:Below wr wr e):fK C u p g mv ms w k q d a b fs f h e:=
 ⟨hM.bs.below c,hM.st.below c,hM.om,hM.fl,bw hM.fr c,hM.fd,hM.fa,fun i hi=>
  let⟨h1,j,l,m,n,o⟩:=hM.sg i hi
  ⟨h1,az c j,TS.frozen_kept c (zb j) l,m,n,o⟩⟩
theorem fK.appended{C:BC}{u:U}{p q:Pm}{g t:Ge}{mv c:Value}{ms d fs:List Nat}{w wr x:World}{k:Nat}{h:Nat→Nat}{y:Value}
 (hM:fK C u p g mv ms w k q t c d fs h y wr)(j:C.bb<w.heap.size){e:TypeId}(he:e≠37)(l:113≠e){v:Value}{n:Nat}{xs:List Value}(m:wr.ownsRow w e 1 v n xs)(z:∀b,v.ownBlock=some b→∀o,q b o=none)(E:wr.grownBy x v.ownBlock):
 fK C u p g mv ms w k q t c d fs h y x:=by
 obtain⟨r,a⟩:=hM.bs.appended he m z j E;refine⟨r,hM.st.own a fun b f=>(m.lt b f).1,hM.om,hM.fl,dY hM.fr a fun b f=>kF l hM.fr m f,hM.fd,hM.fa,fun i hi=> ?_⟩;obtain⟨h1,A,F,G,H,v2,s⟩:=hM.sg i hi;have B:=zb A;have D:¬v.ownBlock=some (h i):=fun f=>by rw[z _ f 2]at s;cases s
 exact⟨h1,by rw[a.cell B D];exact A,by rw[a.frozen B D];exact F,G,H,v2,s⟩
theorem BS.GI{C:BC}{q:Pm}{g:Ge}{mv:Value}{ms:List Nat}{w:World}(d:BS C q g mv ms w){u:U}{t c:Nat}(h:Node q g u (ah t c)):c<w.heap.size:=by
 have hk:∀{b o v},q b o=some v→b<w.heap.size:=fun h=>d.wb.kw.lt h;generalize a:ah t c=x at h;induction h generalizing t c with
 |basic _ h=>cases a;exact hk h
 |alias _ h _ _=>subst a;obtain⟨b,_,_,e,_,_,f⟩:=h.world d.wb.kw;cases e;cases f<;>exact zb ‹_›
 |any _ _ ih=>exact ih a
 |array _ _ h|slice _ _ h|pointer _ _ h|map _ _ h|chan _ _ h=>cases a;exact hk h
 |struct _ h=>cases a;exact hk h
 |func _ _ h=>cases a;exact hk h
 |iface _ h=>cases a;exact(d.ifs _ _ h).1
 |iC _ _ _ _ h=>cases a;exact hk h
 |named _ _ _ _ h=>cases a;exact hk h
 |union _ h=>cases a;exact hk h
 |err _ _ h=>cases a;exact hk h
 |comp _ h=>cases a;exact hk h
structure kJ(C:BC)(u:U)(p:Pm)(g:Ge)(mv:Value)(ms:List Nat)(w:World)(k:Nat)(q:Pm)(d:Ge)(a:Value)(c fs:List Nat)(f:Nat→Nat)(l:Value)(xs:List Value)(e:Value)(wr:World):Prop where
 mm:fK C u p g mv ms w u.m.toNat q d a c fs f l wr
 xl:xs.length=k
 er:wr.ownsRow w 49 1 e xs.length xs
 ed:∀b,e.ownBlock=some b→∀o,q b o=none
 nd:∀i(h:u.m.toNat+i<u.es.length),i<k→Node q d u.es[u.m.toNat+i] (xs.getD i undef)
 df:∀i j,i<j→j<k→u.m.toNat+j<u.es.length→((u.es.getD (u.m.toNat+j) default).k=12∨(u.es.getD (u.m.toNat+j) default).k=13)→xs.getD i undef≠xs.getD j undef
theorem kJ.step{C:BC}{u e:U}{p q J:Pm}{g X g1:Ge}{mv o r:Value}{ms A s fs:List Nat}{w K wr t L:World}{k:Nat}{Y:Nat→Nat}{Z M c x:Value}{xs:List Value}
 (d:kJ C u p g mv ms w k q X o A fs Y Z xs M wr)(v:C.bb<w.heap.size)(B:u.es[u.m.toNat+k]?=some e)(f:Below wr wr K)
 (N:Node J g1 e x)(D:BS C J g1 r s t)(l:aG C q X o A K J g1 s t)(O:∀b,r.ownBlock=some b→o.ownBlock=some b∨K.heap.size≤b)
 (P:e.k=12∨e.k=13→∃b,x=ah 202 b∧K.heap.size≤b)
 {bs:Array Value}{Tb:TypeId}(Q:L.ownsRow w 49 1 c (xs.length+1) (xs++ [x]))
 (R:(t.alloc (.cells bs Tb)).grownBy L M.ownBlock)(S:c.ownBlock=M.ownBlock∨c.ownBlock=some (t.alloc (.cells bs Tb)).heap.size):
 kJ C u p g mv ms w (k+1) J g1 r s fs Y Z (xs++ [x]) c L:=by
 obtain⟨hk,E⟩:=List.getElem?_eq_some_iff.1 B;have F:=d.xl;have y:=aG.row (d.mm.bs.below f) l zd (bw d.er f) v d.ed;have a:Below t t (t.alloc (.cells bs Tb)):=zB.alloc zl _;have G:=bw y.1 a;have T:=(d.mm.after v f D l O).below a;have n:∀i,i<k→(xs++ [x]).getD i undef=xs.getD i undef:=fun i hi=>by simp[List.getD,List.getElem?_append_left (show i<xs.length by omega)]
 have H:(xs++ [x]).getD k undef=x:=by simp[List.getD,←F]
 refine⟨T.appended v zd zd G y.2 R,by simp[F],by simpa using Q,kH (D.below a).wb y.2 S,fun i h hi=> ?_,fun i j z hj hl I=> ?_⟩
 ·by_cases V:i=k
  ·subst V;rw[E,H];exact N
  ·rw[n i zo];exact(d.nd i h zo).sub l.gr.le l.gs
 ·by_cases V:j=k
  ·subst V
   rw[H,n i z];have W:e.k=12∨e.k=13:=by simpa [List.getD,B]using I
   obtain⟨b,rfl,hb⟩:=P W;intro hx;have hn:=d.nd i zo z;rw[hx]at hn;have:=d.mm.bs.GI hn;have:=f.size;omega
  ·rw[n i zo,n j zo]
   exact d.df i j z zo hl I
theorem gj.congr{p:Pm}{g:Ge}{b:Nat}{u v:U}(h:gj p g b u)(hm:v.m=u.m)(he:v.es=u.es):gj p g b v:=by
 obtain⟨k,n,m,o,nm,tg,es,un⟩:=u;obtain⟨s,t,e,f,i,j,a,l⟩:=v;have c:e=m:=hm;have d:a=es:=he;subst c;subst d;exact⟨h.ck,h.ms,h.el,h.ps,h.cm⟩
section
variable {C:BC} {p q r:Pm} {g g1 g2:Ge} {mv mv1:Value} {ms ms1 ms2:List Nat} {w w1 w2:World}
theorem BS.rP(h:BS C p g mv ms w){X:Nat→Prop}(k:Kept X w w1)(d:WB p w1)(c:∀b,X b→C.B0≤b∧p b 0=none∧b≠C.bb∧mv.ownBlock≠some b):BS C p g mv ms w1 where
 ka:=h.ka.kept k fun b o v e a=>by have:=h.la _ _ _ e;have:=(c b a).1;omega
 la:=h.la
 wb:=d
 lp:=h.lp
 inj:=h.inj
 gv:=h.gv
 bl:=h.bl
 pb:=h.pb
 c0:=by rw[k.cell (zb h.c0) fun a=>(c _ a).2.2.1 rfl];exact h.c0
 c1:=let⟨h1,f⟩:=h.c1;⟨by rw[k.cell (zb h.c0) fun a=>(c _ a).2.2.1 rfl];exact h1,f⟩
 c2:=by rw[k.cell (zb h.c0) fun a=>(c _ a).2.2.1 rfl];exact h.c2
 c3:=by rw[k.cell (zb h.c0) fun a=>(c _ a).2.2.1 rfl];exact h.c3
 c4:=by rw[k.cell (zb h.c0) fun a=>(c _ a).2.2.1 rfl];exact h.c4
 f4:=by rw[k.frozen (zb h.c0) fun a=>(c _ a).2.2.1 rfl];exact h.f4
 row:=dY h.row k fun b e a=>(c b a).2.2.2 e
 rd:=h.rd
 ord:=h.ord
 mlt:=fun b e=>⟨Nat.lt_of_lt_of_le (h.mlt b e).1 k.size,(h.mlt b e).2⟩
 ifs:=fun b u e=>by
  have hi:=h.ifs b u e;have a:¬X b:=fun a=>by have:=(c b a).2.1;rw[hi.2.1]at this;cases this
  exact hi.mono (Sub.refl p) (aK.refl g) (fun _ h=>h) k.size (k.cell hi.1 a) (k.frozen hi.1 a) fun h=>h
 len:=h.len
 nm:=h.nm
 po:=h.po
 cY:=h.cY
 cZ:=h.cZ
 err:=h.err
 cmp:=h.cmp
 tn:=h.tn
theorem BS.put(h:BS C p g mv ms w){b o:Nat}{v:Value}(i:Xc w b o v)(j:Plain w b)(l:p b o=none)(s:C.bb<b)(c:mv.ownBlock≠some b)(m:o≠6∨g.G b=none):BS C (p.put b o v) g mv ms w:=by
 have n:=h.bl;refine h.jO (Pm.fU v l) (h.wb.put i j) (fun d a x f=> ?_) (fun a=>by rw[Pm.ba _ _ zo];exact h.pb a) (fun d e a=> ?_) (fun d u hu e=>by rw[Pm.ba _ _ fun k=>m.elim (fun h=>h k.2.symm) fun h=>by rw[k.1,h]at hu;cases hu];exact e)
 ·by_cases e:d=b∧a=o
  ·omega
  ·rw[Pm.ba _ _ e]at f;exact h.lp _ _ _ f
 ·rw[Pm.ba _ _ fun k=>c (by rw[←k.1];exact e)];exact(h.rd _ e).2 a
def Ge.more(g:Ge)(b:Nat)(v:U):Ge:={g with G:=fun c=>if c=b then some v else g.G c}
theorem Ge.xy{g:Ge}{b:Nat}(a:∀c u,g.G c=some u→c<b)(v:U):aK g (g.more b v):=
 ⟨rfl,rfl,rfl,rfl,rfl,rfl,rfl,rfl,fun c u h=>by have:=a c u h;show(if c=b then _ else _)=_;rw[if_neg zo];exact h⟩
theorem Ge.GJ{g:Ge}{b:Nat}(a:∀c u,g.G c=some u→c<b)(v:U):aK g ((g.more b v).below b):=
 ⟨rfl,rfl,rfl,rfl,rfl,rfl,rfl,rfl,fun c u h=>by
  have:=a c u h;show(if c<b then(if c=b then _ else _)else _)=_;rw[if_pos this,if_neg zo];exact h⟩
theorem BS.made(h:BS C q g mv ms w){b:Nat}{v:U}(hm:∀c∈ms,c<b)(Q:∀c u,g.G c=some u→c<b)(R:C.bb<b)(m:b<w.heap.size)(J:mv.ownBlock≠some b)(K:q b 0=some (.pointer none))(L:q b 5=some (.bool true))
 (hi:cS q g b v∨(gj q g b v∧gB C.D.len v∧q b 6=none∧Xc w b 6 (.pointer none)∧w.frozen? (Xa b 6)=false))
 {d:Value}(S:w.grownBy w1 mv.ownBlock)(F:w1.ownsRow C.B0 37 1 d (ms.length+1) (ms.map pv++ [pv b]))(T:d.ownBlock=mv.ownBlock∨d.ownBlock=some w.heap.size):
 BS C q (g.more b v) d (ms++ [b]) (w1.setCell (Xa C.bb 4) d)∧Kept (fun c=>c=C.bb∨mv.ownBlock=some c) w (w1.setCell (Xa C.bb 4) d):=by
 have s:Kept (fun c=>mv.ownBlock=some c) w w1:=(Kept.refl _ _).grown S fun k hk _=>hk;have j:Kept (fun c=>c=C.bb∨mv.ownBlock=some c) w (w1.setCell (Xa C.bb 4) d):=(s.mono fun c _ e=> .inr e).setCell (fun _=> .inl rfl) _;have t:=zb h.c0;simp only at t;have B:mv.ownBlock≠some C.bb:=fun e=>(h.rd _ e).1 rfl;have l:=Ge.xy Q v;have H:=Ge.GJ Q v;have f:∀o,o≠4→(w1.setCell (Xa C.bb 4) d).cell? (Xa C.bb o)=w.cell? (Xa C.bb o):=fun o V=>by
  rw[World.cell?_setCell_other _ _ _ _ (fun e=>V (congrArg Addr.off e).symm)];exact s.cell t B
 have M:Xc w1 C.bb 4 mv:=by rw[s.cell t B];exact h.c4
 have A:∀c,d.ownBlock=some c→c≠C.bb∧∀o,q c o=none:=fun c e=>by
  rcases T with N|N
  ·rw[N]at e;exact h.rd c e
  ·rw[N]at e;cases e
   exact⟨by omega,fun o=>h.wb.kw.aF zl o⟩
 have I:∀c,c=C.bb∨mv.ownBlock=some c→C.B0≤c∧c<w.heap.size∧∀o,q c o=none:=fun c E=>h.ib (E.imp Eq.symm id);refine⟨⟨h.ka.kept j fun c o x e i=> ?_,h.la,h.wb.own j (fun c i=>(I c i).2.2) fun i=> ?_,h.lp,⟨h.inj.nb,h.inj.ob,h.inj.ne,h.inj.nc,h.inj.ec,h.inj.oe,h.inj.oc,h.inj.ac⟩,h.gv,h.bl,h.pb,?_,?_,?_,?_,World.cell?_setCell_same _ _ _ M,?_,?_,A,?_,fun c E=> ?_,fun c u E=> ?_,h.len,h.nm,h.po,h.cY,h.cZ,?_,?_,?_⟩,j⟩
 ·have:=h.la _ _ _ e;have:=(I c i).1;omega
 ·have:=(I _ i).1;have:=h.gv;omega
 ·rw[f 0 zd];exact h.c0
 ·obtain⟨h1,z⟩:=h.c1
  exact⟨by rw[f 1 zd];exact h1,z⟩
 ·rw[f 2 zd];exact h.c2
 ·rw[f 3 zd];exact h.c3
 ·rw[World.frozen?_setCell,s.frozen t B];exact h.f4
 ·have h1:=eC (a:=(Xa C.bb 4)) F (fun e=>(A _ e).1 rfl) d
  simpa using h1
 ·refine List.pairwise_append.2 ⟨h.ord,by simp,fun x i y W=> ?_⟩
  have:y=b:=by simpa using W
  subst this;exact hm x i
 ·rcases List.mem_append.1 E with e|e
  ·obtain⟨h1,u,z⟩:=h.mlt c e
   exact⟨Nat.lt_of_lt_of_le h1 j.size,u,l.G _ _ z⟩
  ·have:c=b:=by simpa using e
   subst this;exact⟨Nat.lt_of_lt_of_le m j.size,v,if_pos rfl⟩
 ·by_cases e:c=b
  ·subst e
   have hu:u=v:=by
    have:(some v:Option U)=some u:=by rw[←E];exact(if_pos rfl).symm
    injection this with this;exact this.symm
   subst hu;have i:¬(c=C.bb∨mv.ownBlock=some c):=fun e=>e.elim zo J;exact⟨Nat.lt_of_lt_of_le m j.size,K,L,hi.imp (fun k=>k.sub (Sub.refl q) H) fun⟨X,Y,Z,k4,k5⟩=>⟨by simp,X.sub (Sub.refl q) H,Y,Z,by rw[j.cell m i];exact k4,by rw[j.frozen m i];exact k5⟩⟩
  ·have O:g.G c=some u:=by
    have:(if c=b then some v else g.G c)=some u:=E;rwa [if_neg e]at this
   have hi:=h.ifs c u O;have i:¬(c=C.bb∨mv.ownBlock=some c):=fun e=>by have:=(I c e).2.2 0;rw[hi.2.1]at this;cases this
   exact hi.mono (Sub.refl q) l (fun b hb=>List.mem_append_left _ hb) j.size (j.cell hi.1 i) (j.frozen hi.1 i) fun e=>e
 ·obtain⟨h1,x,z,P⟩:=h.err
  exact⟨h1,x,z,P.sub (Sub.refl q) l⟩
 ·obtain⟨h1,x,z,P⟩:=h.cmp
  exact⟨h1,x,z,l.G _ _ P⟩
 ·intro n hn hi
  obtain⟨x,h1,z⟩:=h.tn n hn hi;exact⟨x,h1,z.sub (Sub.refl q) l⟩
theorem xz{i:World}{v:U}(hk:v.k=10)(d:aG C p g mv ms i q g1 ms1 w)(H:BS C q g1 mv1 ms1 w)(j:∀b,mv1.ownBlock=some b→mv.ownBlock=some b∨i.heap.size≤b)
 {b:Nat}(E:∀c u,g1.G c=some u→c<b)(I:i.heap.size≤b)(hm:∀c∈ms1,c<b)(s:C.bb<b)(m:b<w.heap.size)(t:mv1.ownBlock≠some b)(x:q b 0=some (.pointer none))(y:q b 5=some (.bool true))
 (hi:cS q g1 b v∨(gj q g1 b v∧gB C.D.len v∧q b 6=none∧Xc w b 6 (.pointer none)∧w.frozen? (Xa b 6)=false))(z:ms1.length+1≤ms.length+cn v)
 {o:Obj}{a:Value}(J:(w.alloc o).grownBy w1 mv1.ownBlock)(n:w1.ownsRow C.B0 37 1 a (ms1.length+1) (ms1.map pv++ [pv b]))(F:a.ownBlock=mv1.ownBlock∨a.ownBlock=some (w.heap.size+1)):
 bE C v p g mv ms i (.returned (ah 37 b)) (w1.setCell (Xa C.bb 4) a):=by
 have aa:Below w w (w.alloc o):=zB.alloc zl _;have K:=d.size;obtain⟨A,B⟩:=(H.below aa).made (v:=v) hm E s (Nat.lt_of_lt_of_le m aa.size) t x y (hi.imp id fun⟨L,M,N,O,P⟩=>⟨L,M,N,az aa O,TS.frozen_kept aa m P⟩) J n (F.imp id fun e=>by rw[e];simp);have Q:Kept (fun c=>c=C.bb∨mv.ownBlock=some c) i (w1.setCell (Xa C.bb 4) a):=d.kept.trans ((Kept.of (X:=fun c=>c=C.bb∨mv1.ownBlock=some c) aa).trans B fun _ _ h=>h) fun c R e=>by
  rcases e with e|e
  ·exact .inl e
  ·rcases j c e with e|e
   ·exact .inr e
   ·omega
 refine⟨_,q,g1.more b v,a,ms1++ [b],rfl,.iface hk (if_pos rfl),A,⟨d.gr,d.gs.trans (Ge.xy E v),fun c u e=> ?_,Q,?_⟩,fun c e=> ?_,fun h=>zo,by simpa using z⟩
 ·by_cases f:c=b
  ·subst f;exact .inr I
  ·exact d.gn c u (by have:(if c=b then some v else g1.G c)=some u:=e;rwa [if_neg f]at this)
 ·obtain⟨l,e⟩:=d.mm
  exact⟨l++ [b],by rw[e,List.append_assoc]⟩
 ·rcases F with f|f
  ·rw[f]at e;exact j c e
  ·rw[f]at e;cases e;exact .inr zo
end
end TS
namespace TS
open Go Go.RowKit Go.Proofs.YtkochlhejabdcaaGreatDoor
theorem GK{C:BC}{u v:U}{p q:Pm}{g I:Ge}{mv F:Value}{ms J fs:List Nat}{H wz D:World}{sb:Nat→Nat}{t y:Value}{xs:List Value}{e:Ending}(PG:v.m=u.m)(PH:v.es=u.es)(PI:u.m.toNat≤u.es.length)(P6:u.es.length≤1048576)
 (f:kJ C u p g mv ms H (u.es.length- u.m.toNat) q I F J fs sb t xs y wz)(K:C.bb<H.heap.size)(hR:rD q I H.heap.size (u.es.take u.m.toNat) t y (fun c=> ∃i,i<fs.length∧c=sb i) wz e D):
 ∃b P,e= .returned (Xp b)∧wz.heap.size≤b∧b<D.heap.size∧BS C P I F J D∧aG C p g mv ms H P I J D∧P b 0=some (.pointer none)∧gj P I b v∧P b 6=none∧Xc D b 6 (.pointer none)∧D.frozen? (Xa b 6)=false:=by
 obtain⟨b,a,rfl,hb,l,Q,hlen,R,PJ,hK⟩:=hR;have P7:=f.mm.fl;have n:=f.mm.bs;have P5:=n.bl;have P8:=f.mm.st.size;have S:a.length=u.m.toNat:=by rw[hlen,List.length_take];omega
 have T:∀c,(∃i,i<fs.length∧c=sb i)∨t.ownBlock=some c→C.B0≤c∧q c 0=none∧c≠C.bb∧F.ownBlock≠some c∧H.heap.size≤c:=fun c E=>by
  rcases E with⟨i,hi,rfl⟩|e
  ·obtain⟨_,_,_,h4,h5,x,V⟩:=f.mm.sg i zo
   exact⟨by omega,h4,by omega,fun e=>(by rw[(n.rd _ e).2 2]at V;cases V),h5⟩
  ·have h1:=(f.mm.fr.lt c e).1
   have Z:=n.apart zd f.mm.fr K e;exact⟨by omega,f.mm.fd c e 0,Z.1,Z.2,h1⟩
 have PK:=n.rP hK PJ fun c E=>⟨(T c E).1,(T c E).2.1,(T c E).2.2.1,(T c E).2.2.2.1⟩
 have PL:=f.mm.st.own hK fun c E=>(T c E).2.2.2.2;have L:D.ownsRow H 113 1 t (a.map pv).length (a.map pv):=by simpa using Q
 obtain⟨q1,a1,c1,PM,PN,PO,PQ,W,PR,_,_⟩:=PK.jP (e:=113) (v:=t) (xs:=a.map pv) zd L f.mm.fd K;have PS:D.ownsRow H 49 1 y xs.length xs:=dY f.er hK fun c e E=>by
  rcases E with⟨i,hi,rfl⟩|M
  ·obtain⟨_,_,_,_,_,x,V⟩:=f.mm.sg i zo
   rw[f.ed _ e 2]at V;cases V
  ·exact kF zd f.er f.mm.fr e M
 have X:∀c,y.ownBlock=some c→∀o,q1 c o=none:=fun c e o=>by
  rw[W c fun M=>kF zd f.er f.mm.fr e M];exact f.ed c e o
 obtain⟨O,a2,c2,PT,Y,PU,PW,PX,P9,_,_⟩:=PO.jP (e:=49) (v:=y) (xs:=xs) zd PS X K;have k:F.ownBlock≠some b:=fun e=>by have:=(n.row.lt _ e).2;omega
 have d:∀o,O b o=none:=fun o=>by
  rw[PX b fun e=>by have:=(f.er.lt _ e).2;omega,W b fun e=>by have:=(f.mm.fr.lt _ e).2;omega];exact n.wb.kw.aF hb o
 have z:Plain D b:=⟨_,_,l⟩
 have A:C.bb<b:=zo;have s:∀o x,(dI t y true (.pointer none))[o]?=some x→Xc D b o x:=fun o x h=>by simp[World.cell?,l,h]
 have PY:=PU.put (s 0 (.pointer none) rfl) z (d 0) A k (.inl zd);have PZ:=PY.put (s 1 t rfl) z (by simp[Pm.put,d]) A k (.inl zd);have P0:=PZ.put (s 2 y rfl) z (by simp[Pm.put,d]) A k (.inl zd);have P1:=P0.put (s 3 (.pointer none) rfl) z (by simp[Pm.put,d]) A k (.inl zd);have P2:=P1.put (s 5 (.bool true) rfl) z (by simp[Pm.put,d]) A k (.inl zd);have B:H.heap.size≤b:=zo;have k0:=Pm.eH (p:=O) (o:=0) (v:= .pointer none) (d 0) B;have k1:=Pm.eH (p:=O.put b 0 (.pointer none)) (o:=1) (v:=t) (by simp[Pm.put,d]) B;have k2:=Pm.eH (p:=(O.put b 0 (.pointer none)).put b 1 t) (o:=2) (v:=y) (by simp[Pm.put,d]) B;have k3:=Pm.eH (p:=((O.put b 0 (.pointer none)).put b 1 t).put b 2 y) (o:=3) (v:= .pointer none) (by simp[Pm.put,d]) B;have k5:=Pm.eH (p:=(((O.put b 0 (.pointer none)).put b 1 t).put b 2 y).put b 3 (.pointer none)) (o:=5) (v:= .bool true) (by simp[Pm.put,d]) B;have N:=(((k0.trans k1 zl).trans k2 zl).trans k3 zl).trans k5 zl;have G:=(PN.trans Y zl).trans N zl;have P3:=f.xl;refine⟨b,_,rfl,hb,(Array.getElem?_eq_some_iff.1 l).1,P2,PL.jO G,by simp[Pm.put],gj.congr (u:=u) ⟨by simp[Pm.put],⟨PI,a1,c1,fun i=>a.getD i 0,?_,?_,by omega,fun i hi=> ?_,fun i hi P_=> ?_⟩,⟨a2,c2,fun i=>xs.getD i undef,?_,by omega,by omega,?_,fun i hi=> ?_,fun i j P4 hj hk=>f.df i j P4 zo hj hk⟩,by simp[Pm.put],by simp[Pm.put]⟩ PG PH,by simp[Pm.put,d],s 6 _ rfl,by simp[World.frozen?,l]⟩
 ·rw[show Value.slice a1 u.m.toNat c1=t from(PM.trans (by simp[S])).symm];simp[Pm.put]
 ·rw[←S];simpa using PR
 ·obtain⟨b',o',e1,M⟩:=PQ i zp
  refine⟨b',o',e1,N.le _ _ _ (Y.le _ _ _ ?_)⟩;rw[M];simp[List.getD,show i<a.length by omega]
 ·have h1:=R i (by rw[List.length_take];omega) zo
  have Z:a.getD i 0=a[i]'zo:=by simp[List.getD,show i<a.length by omega]
  show dq _ _ _ (a.getD i 0)∧Pm.put _ _ _ _ (a.getD i 0) 0=_;rw[Z];refine⟨?_,G.le _ _ _ h1.2⟩;have:=h1.1.sub G.le (aK.refl I);simpa using this
 ·rw[show Value.slice a2 (u.es.length- u.m.toNat) c2=y from(PT.trans (by rw[P3])).symm];simp[Pm.put]
 ·intro i hi
  obtain⟨b',o',e1,M⟩:=PW i zo;exact⟨b',o',e1,N.le _ _ _ M⟩
 ·exact(f.nd i hi zo).sub G.le (aK.refl I)
theorem GL{C:BC}{v:U}{q:Pm}{s:Ge}{e:Value}{f:List Nat}{a:World}(hk:v.k=10)(d:v.es= [])(u:BS C q s e f a):
 ∃j,aN q j a∧BS C j s e f ((((a.alloc (.cells #[.bool false,.nilIface] 168)).alloc (.cells #[Xp a] 164)).alloc (.cells #[.bool false,.slice none 0 0,.slice (Xa (a+1) 0) 1 1,.bool false] 139)).alloc
  (.cells (dI (.slice none 0 0) (.slice none 0 0) true (Xp (a+2))) 119))∧j (a.heap.size+3) 0=some (.pointer none)∧j (a.heap.size+3) 5=some (.bool true)∧cS j s (a.heap.size+3) v:=by
 have h1:=u.box #[.bool false,.nilIface] 168;have y:=h1.box #[Xp a] 164;have z:=y.box #[.bool false,.slice none 0 0,.slice (Xa (a+1) 0) 1 1,.bool false] 139;have A:=z.box (dI (.slice none 0 0) (.slice none 0 0) true (Xp (a+2))) 119;simp only[World.size_alloc]at y z A;have m:∀o k,q (a.heap.size+k) o=none:=fun o k=>u.wb.kw.aF zo o
 have t:=((((Pm.du (p:=q) (b:=a.heap.size) (n:=a.heap.size) (cs:=#[.bool false,.nilIface]) (fun o=>m o 0) zl).trans
  (Pm.du (b:=a.heap.size+1) (n:=a.heap.size) (cs:=#[Xp a]) (fun o=>by rw[Pm.aQ _ _ _ zo];exact m o 1) zo) zl).trans
  (Pm.du (b:=a.heap.size+2) (n:=a.heap.size) (cs:=#[.bool false,.slice none 0 0,.slice (Xa (a+1) 0) 1 1,.bool false]) (fun o=>by rw[Pm.aQ _ _ _ zo,Pm.aQ _ _ _ zo];exact m o 2) zo) zl)).trans
  (Pm.du (b:=a.heap.size+3) (n:=a.heap.size) (cs:=dI (.slice none 0 0) (.slice none 0 0) true (Xp (a+2))) (fun o=>by rw[Pm.aQ _ _ _ zo,Pm.aQ _ _ _ zo,Pm.aQ _ _ _ zo];exact m o 3) zo) zl
 have c:an v= []:=by rw[kB hk];simp[dN,d,b7]
 have l:bd v=false:=by rw[mU hk];simp[d]
 refine⟨_,t,A,by rw[Pm.aU];rfl,by rw[Pm.aU];rfl,a.heap.size+2,none,0,fun _=>0,.some (Xa (a+1) 0),1,[none],false,by rw[Pm.aU];rfl,?_,?_,?_,?_,?_,?_,?_,by simp,by simp,⟨fun _=>a.heap.size,fun i hi=> ?_,fun i hi=> ?_⟩,?_,⟨.inl rfl,fun _=>⟨rfl,rfl⟩,fun h=> ?_,fun h=> ?_,?_⟩,fun h=> ?_,fun x h=> ?_⟩
 ·rw[Pm.aQ _ _ _ zo,Pm.aU];rfl
 ·rw[Pm.aQ _ _ _ zo,Pm.aU,c];rfl
 ·rw[c];exact Nat.le_refl _
 ·rw[c];simp
 ·rw[c];intro i hi;simp at hi
 ·rw[c];intro i hi;simp at hi
 ·rw[Pm.aQ _ _ _ zo,Pm.aU];rfl
 ·have:i=0:=by simpa using hi
  subst this;exact⟨_,0,rfl,by rw[Pm.aQ _ _ _ zo,Pm.aQ _ _ _ zo,Pm.aU];rfl⟩
 ·have:i=0:=by simpa using hi
  subst this;show bh _ _ none a.heap.size;unfold bh;rw[Pm.aQ _ _ _ zo,Pm.aQ _ _ _ zo,Pm.aQ _ _ _ zo,Pm.aU];rfl
 ·rw[Pm.aQ _ _ _ zo,Pm.aU];rfl
 ·rw[l]at h;cases h
 ·cases h
 ·rw[wk hk];simp[d]
 ·cases h
 ·cases h;rfl
end TS
namespace Go.Proofs.YtkochlhejabdcaaGreatDoor
open Go.RowKit TS Tryz
theorem GM:(Tryz.prog.info? 113).map (fun i=>(i.zero,i.size,i.bytes))=some (some (.pointer none),1,8):=zk
theorem GN:(Tryz.prog.info? 37).map (fun i=>(i.zero,i.size,i.bytes))=some (some (.pointer none),1,8):=zk
theorem GO:(Tryz.prog.info? 49).map (fun i=>(i.zero,i.size,i.bytes))=some (some .nilIface,1,16):=zk
theorem xA(C:BC)(u v:U)(Rl:v.m=u.m)(Qt:v.es=u.es)(hm:0≤u.m∧u.m.toNat≤u.es.length)(hS:∀k e,u.es[k]?=some e→k<u.m.toNat→e.k=7∧aR e.nm=true∧(0≤e.m∧e.m.toNat≤e.es.length)∧(e.v=true→0<e.m.toNat∧∃x,e.es[e.m.toNat- 1]?=some x∧x.k=4)∧∀x∈e.es,bX C x)(hI:∀k e,u.es[k]?=some e→u.m.toNat≤k→bX C e)(Qu:v.k=10)(QF:0<u.es.length→gB C.D.len v)(hO:ef (u.es.take u.m.toNat))(p:Pm)(g:Ge)(mv:Value)(ms:List Nat)(a:Option Addr)(c:Nat)(w:World)(hB:BS C p g mv ms w)(RK:ms.length+cn u≤1099511627776)(hu:ai C.pa C.D u a c):
 Xk 110 #[Xp C.bb,Xt u a c] w (bE C v p g mv ms w):=by
 have QG:=hu.cap;have RM:=QG.1;have QH:Hid (∀k e,u.es[k]?=some e→∃eb eo a' c',a= .some (Xa eb eo)∧c_ C.pa eb (eo+k*7) e a' c'∧ai C.pa C.D e a' c'):=fun k e he=>by
  obtain⟨hk,rfl⟩:=List.getElem?_eq_some_iff.1 he;obtain⟨eb,eo,rfl⟩:=hu.list.bg zo;obtain⟨a',c',h7,P⟩:=hu.list.get k hk;exact⟨eb,eo,a',c',rfl,h7,P⟩
 have RF:=(hB.ib (b:=C.bb) (.inl rfl)).2.1;have P8:Below w w (w.alloc (Xt u a c)):=zB.alloc zl _;have QI:=zh (hB.below P8);have Rm:=zh hB;have RN:u.es.length≤1048576:=zo;have RP:=zh hm;have Rn:=zh hI;have QJ:=zh hS;have QK:0≤u.m:=hm.1;have Ro:u.m≤(c:Int):=zo;have Rp:u.m≤(u.es.length:Int):=zo;obtain⟨i0,Rq,QL,QM,QN⟩:=info_parts GM;have hh:(w.alloc (Xt u a c)).heap[w.heap.size]?= .some (Xt u a c):=cA rfl;have Q:Hid (Xc (w.alloc (Xt u a c)) w 2 (.int .i64 u.m)∧Xc (w.alloc (Xt u a c)) w 6 (.slice a u.es.length c)):=by(repeat' apply And.intro)<;>(simp only[World.cell?,hh];rfl)
 obtain⟨V,hW⟩:∃V,Hid (V=w.alloc (Xt u a c)):=⟨_,rfl⟩
 have RR:V.heap.size≤w.heap.size+1∧w.heap.size+1≤V.heap.size:=by rw[hW.out];simp
 rw[←hW.out]at QI P8 Q;have PQ:C.bb<V.heap.size:=zo;have Qd:=zh P8;clear hu hB P8 hm hI hh hS;generalize hn:u.es.length=n at*;have P9:=zh hn;clear hn;generalize hz:u.m=z at Ro Rp QK⊢hW Q;obtain⟨m,rfl⟩:=Int.eq_ofNat_of_zero_le QK;have PR:=zh (show u.m.toNat=m by rw[hz];rfl);clear hz;have RS:max (m:Int) 0=m:=zo;have RV:m≤n:=zo;go_enter func110,ntmps110;go_wp2_with fail
 go_loopw [18,5] (fun vk vf wr=> ∃(k:Nat)(q:Pm)(g':Ge)(P_:Value)(PS fs:List Nat)(sb:Nat→Nat),k≤m∧vk= .int .i64 k∧fK C u p g mv ms V k q g' P_ PS fs sb vf wr∧Xc wr w 2 (.int .i64 m)∧Xc wr w 6 (.slice a n c)∧PS.length≤ms.length+aZ (u.es.take k)) (fun vk _ _=>m- (intOf vk).toNat)
 case atStart=>
  obtain rfl:=hW.out;exact⟨0,p,g,mv,ms,[],fun _=>0,Nat.zero_le _,rfl,⟨QI.out,aG.refl _ _ _ _ _ _,fun b e=> .inl e,rfl,by simpa using World.ownsRow_nil _ _ _ _,fun b e=>(by cases e),fun i _ hi=>absurd hi (Nat.not_lt_zero _),fun i hi=>absurd hi (Nat.not_lt_zero _)⟩,Q.out.1,Q.out.2,Nat.le_add_right _ _⟩
 case round=>
  obtain⟨k,q,g',P_,PS,fs,sb,RX,rfl,hM,t2,t6,Qa⟩:=hrel;have Rr:=zb t2;simp only at Rr;have l:=zh hM;obtain⟨fa,fc,rfl⟩:=a_ hM.fr;clear hM;by_cases Rs:k<m
  ·have QO:(k:Int)<m:=zo
   obtain⟨e,I⟩:∃e,u.es[k]?=some e:=⟨_,List.getElem?_eq_getElem (by have:=P9.out;omega)⟩
   obtain⟨eb,eo,a',c',rfl,h7,P⟩:=QH.out k e I;obtain⟨e7,_,em,ev,eI⟩:=QJ.out k e I (by have:=PR.out;omega);obtain⟨z0,z1,z2,z3,z4,z5,z6⟩:TS.C7 wr eb (eo+k*7) e a' c':=h7.world l.out.bs.ka;have QP:eb<wr.heap.size:=l.out.bs.ka.lt h7.1;have X:Below wr wr ((wr.alloc (Xt e a' c')).drew):=(zB.alloc zl _).drew;have hT:=zh (pf C e none e7 em ev eI q g' P_ PS a' c' _ (l.out.bs.below X) (by have:=oY I;omega) P);have R:=zh I;have QQ:=zh e7;have E:=zh X;have Qe:=l.out.bs.c0;have Qf:g'.pk=g.pk:=l.out.st.gs.pk;rw[Qf]at Qe;have QR:=zb Qe;simp only at QR;clear h7 P I X e7 em ev eI;go_wp2_with fail
   refine oR (fun W=>(Xc W C.bb 0 (ptr g.pk)∧Xc W w 2 (.int .i64 m)∧Xc W w 6 (.slice (Xa eb eo) n c))∧(Xl W wr e a' c')) [(0,true),(1,true),(2,true),(3,true),(4,true),(5,true),(6,true),(7,true),(8,true),(9,false),(10,false),(11,false),(12,false),(13,true)] (by(repeat' apply And.intro)<;>first|(simp[go_sem];done)|(go_keep;done)) (fun F=> ?_);repeat((first|refine oS ?_|refine oF F ?_);try simp only[Act.put,oa,ob,oc])
   refine oL fun K hK=> ?_;go_simp;go_at_call 108
   refine hT.out.mono ?_;rintro e1 J ⟨s,q1,g1,QS,QT,rfl,PN,Y,H,PT,hs,QU,QV,PU,Rt⟩;have Qg:Xc J C.bb 0 (ptr g.pk):=by
    have h1:=Y.c0;rwa [H.gs.pk,Qf]at h1
   have Qh:=(jf l.out.bs E.out.size H).2;have QW:∀o v,Xc ((wr.alloc (Xt e a' c')).drew) w o v→Xc J w o v:=fun o v h=>by
    rw[H.kept.cell (zb h) fun e=> ?_]
    ·exact h
    ·rcases e with(e:w.heap.size=C.bb)|e
     ·omega
     ·rcases l.out.om _ e with e|e
      ·have:=(Rm.out.ib (b:=w.heap.size) (.inr e)).2.1;omega
      ·have e':V.heap.size≤w.heap.size:=e
       omega
   obtain⟨⟨_,p2,p6⟩,s0,s1,s2,s3,s4,s5,s6⟩:=F;(try simp only[]);refine hK _ _ (by(repeat' apply And.intro)<;>first|exact Qg|exact Qh _ _ _ zl za|exact QW _ _ za) fun F=> ?_;clear hK K;try simp only[Act.put,oa,ob,oc]
   clear s0 s1 s2 s3 s4 s5 s6 p2 p6 QW;have RY:wr.heap.size<J.heap.size:=by
    have:=H.size;simp at this;omega
   have RG:=(Y.ib (b:=C.bb) (.inl rfl)).2.1;have Ru:V.heap.size<J.heap.size:=by have:=l.out.st.size;omega
   have Qv:(Value.slice fa fs.length fc).ownBlock≠some C.bb∧(Value.slice fa fs.length fc).ownBlock≠some wr.heap.size∧(Value.slice fa fs.length fc).ownBlock≠some w.heap.size:=⟨fun e=>by have:=(l.out.fr.lt _ e).1;omega,fun e=>by have:=(l.out.fr.lt _ e).2;omega,fun e=>by have:=(l.out.fr.lt _ e).1;omega⟩
   have PW:=zh (show fs.length=k from l.out.fl);have PL:=zh (show ∀j u,[Value.pointer (Xa J 0)][j]?=some u→((J.alloc (.cells #[.int .i64 0,Xp g.pk,.string e.nm,ah 108 s,.bool false,.bool false] 212)).alloc (.cells #[Xp J] 113)).cell? (((Xa (J+1) 0):Addr).add j)=some u from fun j u h=>by
    have h1:=TS.eD (J.alloc (.cells #[.int .i64 0,Xp g.pk,.string e.nm,ah 108 s,.bool false,.bool false] 212)) (Xp J) 113 j u h;rwa [show(J.alloc (.cells #[.int .i64 0,Xp g.pk,.string e.nm,ah 108 s,.bool false,.bool false] 212)).heap.size=J.heap.size+1 by simp]at h1)
   have PM:=zh ((((aG.row (l.out.bs.below E.out) H zd (bw l.out.fr E.out) PQ l.out.fd).1).alloc (.cells #[.int .i64 0,Xp g.pk,.string e.nm,ah 108 s,.bool false,.bool false] 212)).alloc (.cells #[Xp J] 113));have PX:=zh Y;have PY:=zh H;have PZ:=zh PN;have P0:=zh PT;have Qb:=zh (And.intro hs (And.intro QU (And.intro QV PU)));clear Y H PN PT Qg Qh hT hs QU QV PU;repeat((first|refine oS ?_|refine oF F ?_);try simp only[Act.put,oa,ob,oc])
   refine oL fun K hK=> ?_;go_simp;go_at_call 93
   refine(nW _ _ _ _ _).mono ?_;rintro e2 w2 ⟨rfl,rfl⟩;obtain⟨⟨_,p2,p6⟩,s0,s1,s2,s3,s4,s5,s6⟩:=F;(try simp only[]);refine hK _ _ (by(repeat' apply And.intro)<;>exact az (zB.alloc zl _) za) fun F=> ?_;clear hK K;try simp only[Act.put,oa,ob,oc]
   clear s0 s1 s2 s3 s4 s5 s6 p2 p6;repeat((first|refine oS ?_|refine oF F ?_);try simp only[Act.put,oa,ob,oc])
   refine oL fun K hK=> ?_;go_simp;obtain⟨⟨_,p2,p6⟩,s0,s1,s2,s3,s4,s5,s6⟩:=F;(try simp only[]);refine hK _ _ (by(repeat' apply And.intro)<;>exact az (zB.alloc zl _) za) fun F=> ?_;clear hK K;try simp only[Act.put,oa,ob,oc]
   repeat((first|refine oS ?_|refine oF F ?_);try simp only[Act.put,oa,ob,oc])
   refine nv rfl (by rfl) (fun K hK=> ?_);refine iW _ _ 115 rfl V.heap.size 113 i0 (.pointer none) 1 8 underlying115 Rq QL QM QN rfl zd (.slice fa fs.length fc) fs.length (fs.map pv) rfl PM.out (Xa (J+1) 0) 1 1 [Xp J] rfl rfl PL.out (TS.one_one rfl) ?c3 ?c4 ?c5 ?_
   case c3=>have:=PW.out;unfold maxLen;omega
   case c4=>have:=PW.out;omega
   case c5=>(try simp);omega
   intro RZ w3 A PO _ P1;have Qc:∀b o v,(Value.slice fa fs.length fc).ownBlock≠some b→Xc ((J.alloc (.cells #[.int .i64 0,Xp g.pk,.string e.nm,ah 108 s,.bool false,.bool false] 212)).alloc (.cells #[Xp J] 113)) b o v→Xc w3 b o v:=fun b o v hb h=>by
    rw[((Kept.refl (fun b=>(Value.slice fa fs.length fc).ownBlock=some b) _).grown PO fun k hk _=>hk).cell (zb h) hb];exact h
   obtain⟨⟨_,p2,p6⟩,s0,s1,s2,s3,s4,s5,s6⟩:=F;(try simp only[]);refine hK _ _ (by(repeat' apply And.intro)<;>first|exact Qc _ _ _ Qv.1 za|exact Qc _ _ _ Qv.2.1 za|exact Qc _ _ _ Qv.2.2 za) fun F=> ?_;clear hK K;try simp only[Act.put,oa,ob,oc]
   clear s0 s1 s2 s3 s4 s5 s6 p2 p6 Qc;repeat((first|refine oS ?_|refine oF F ?_);try simp only[Act.put,oa,ob,oc])
   refine bZ ?_;obtain⟨⟨_,p2,p6⟩,_⟩:=F;obtain⟨a3,c3,rfl⟩:=a_ A;have L:=zh (fK.step (pk:= .some (Xa g.pk 0)) l.out PQ R.out QQ.out E.out PZ.out PX.out PY.out P0.out Qb.out.1 Qb.out.2.1 Qb.out.2.2.1 Qb.out.2.2.2 A PO (P1.imp id fun h=>h.trans zs));clear PO A P1;go_wp2_with fail
   exact⟨⟨k+1,_,g1,QS,QT,_,_,by omega,by go_num,L.out,p2,p6,by have:=gC R.out;omega⟩,by first|omega|(simp[intOf];omega)⟩
  ·have Rv:¬(k:Int)<m:=zo
   obtain rfl:k=m:=zo;have R0:k≤c:=zo;go_upto_region 8 with fail
   go_cut [40,41,42] (fun v40 v41 Rw wx=>wx=wr∧∃sl cc,v40= .slice sl (n- k) cc∧v41= .int .i64 ((n- k:Nat):Int)∧Rw= .int .i64 0∧∀j e,u.es[k+j]?=some e→∃eb eo a' c',sl= .some (Xa eb eo)∧c_ C.pa eb (eo+j*7) e a' c'∧ai C.pa C.D e a' c')
   case first=>
    rcases Qa:(decide (k<c))with _|_
    ·have QX:¬k<c:=by simp at Qa;omega
     have Qi:¬(k:Int)<(c:Int):=zo;go_wp2_with fail
     go_meet
     exact⟨rfl,_,_,rfl,rfl,rfl,fun j e he=>absurd (List.getElem?_eq_some_iff.1 he).1 (by have:=P9.out;omega)⟩
    ·have QX:k<c:=by simpa using Qa
     have Qi:(k:Int)<(c:Int):=zo;go_wp2_with fail
     go_meet
     refine⟨rfl,_,_,rfl,rfl,rfl,fun j e he=> ?_⟩;obtain⟨eb,eo,a',c',rfl,h7,P⟩:=QH.out _ _ he;exact⟨eb,eo+k*7,a',c',by simp[Addr.add],by rw[show eo+k*7+j*7=eo+(k+j)*7 by omega];exact h7,P⟩
   case rest=>
    obtain⟨rfl,sl,cc,rfl,rfl,rfl,Qj⟩:=hcut;have Qw:=zh l.out;obtain⟨i1,Rx,Ry,Rz,RA⟩:=info_parts GO;have Qx:=zh Qj;clear Qj l;go_wp2_with fail
    go_loopw [42,8] (fun vj ve wz=> ∃(j:Nat)(q2:Pm)(g2:Ge)(Qy:Value)(d:List Nat)(xs:List Value),j≤n- k∧vj= .int .i64 j∧kJ C u p g mv ms V j q2 g2 Qy d fs sb (.slice fa fs.length fc) xs ve wz∧d.length≤ms.length+aZ (u.es.take (k+j))) (fun vj _ _=>n- k- (intOf vj).toNat)
    case atStart=>
     exact⟨0,q,g',P_,PS,[],Nat.zero_le _,rfl,⟨by have h:=Qw.out;rw[←PR.out]at h;exact h,rfl,World.ownsRow_nil _ _ _ _,fun b e=>(by cases e),fun i _ hi=>absurd hi (Nat.not_lt_zero _),fun i j _ hi=>absurd hi (Nat.not_lt_zero _)⟩,Qa⟩
    case round=>
     obtain⟨j,q2,g2,Qy,d,xs,R1,rfl,hE,Qi⟩:=hrel;have f:=zh hE;obtain⟨ea,ec,rfl⟩:=a_ hE.er;clear hE;by_cases Rs:j<n- k
     ·have QO:(j:Int)<((n- k:Nat):Int):=zo
      obtain⟨e,I⟩:∃e,u.es[k+j]?=some e:=⟨_,List.getElem?_eq_getElem (by have:=P9.out;omega)⟩
      obtain⟨eb,eo,a',c',rfl,h7,P⟩:=Qx.out j e I;have Qk:=Rn.out _ e I (by have:=PR.out;omega);obtain⟨z0,z1,z2,z3,z4,z5,z6⟩:TS.C7 wr eb (eo+j*7) e a' c':=h7.world f.out.mm.bs.ka;have QP:eb<wr.heap.size:=f.out.mm.bs.ka.lt h7.1;have X:Below wr wr (wr.alloc (Xt e a' c')):=zB.alloc zl _;have QY:=zh (Qk q2 g2 Qy d a' c' _ (f.out.mm.bs.below X) (by have:=oY I;omega) P);have R:=zh I;have E:=zh X;clear h7 P I X Qk;go_wp2_with fail
      refine QY.out.mono ?_;rintro e1 J ⟨x,q1,g1,QS,QT,rfl,PN,Y,H,PT,QZ,Rt⟩;obtain⟨xt,xb,rfl⟩:=PN.val;have Ru:V.heap.size≤J.heap.size:=by have:=E.out.size;have:=H.size;have:=f.out.mm.st.size;omega
      have PM:=zh (((aG.row (f.out.mm.bs.below E.out) H zd (bw f.out.er E.out) PQ f.out.ed).1).alloc (.cells #[ah xt xb] 49));have PL:=zh (show ∀j u,[ah xt xb][j]?=some u→(J.alloc (.cells #[ah xt xb] 49)).cell? (((Xa J 0):Addr).add j)=some u from TS.eD J (ah xt xb) 49);have P2:=zh (show xs.length=j from f.out.xl);have PX:=zh Y;have PY:=zh H;have PZ:=zh PN;have P0:=zh PT;have Q3:=zh QZ;clear Y H PN PT QY QZ;go_wp2_with (first|(at_builtin;refine wpList_append_own_at _ rfl _ _ 116 rfl V.heap.size 49 i1 .nilIface 1 16 underlying116 Rx Ry Rz RA rfl zd (.slice ea xs.length ec) xs.length xs rfl PM.out (Xa J 0) 1 1 [ah xt xb] rfl rfl PL.out (TS.one_one rfl) ?c3 ?c4 ?c5 ?_)|fail)
      case c3=>have:=P2.out;unfold maxLen;omega
      case c4=>have:=P2.out;omega
      case c5=>(try simp);omega
      intro R2 w3 A PO _ P1;obtain⟨a3,c3,rfl⟩:=a_ A;have L:=zh (kJ.step (e:=e) f.out PQ (by rw[PR.out];exact R.out) E.out PZ.out PX.out PY.out P0.out Q3.out A PO (P1.imp id fun h=>h.trans zs));clear A PO P1 PM PL;go_wp2_with fail
      exact⟨⟨j+1,_,_,_,_,_,by omega,by go_num,L.out,by have h:=gC R.out;rw[Nat.add_assoc]at h;omega⟩,by first|omega|(simp[intOf];omega)⟩
     ·have Rv:¬(j:Int)<((n- k:Nat):Int):=zo
      obtain rfl:j=n- k:=zo;have Qz:u.m.toNat=k:=PR.out;have hlen:=P9.out;have t:=f.out.mm.bs;obtain⟨ma,mc,rfl⟩:=a_ t.row;have Q4:cn v=1+aZ u.es:=by rw[dW,Qt]
      have QA:d.length+1≤ms.length+cn v:=by
       have:=jK u.es (k+(n- k));omega
      have QB:d.length≤1099511627776:=by have:=dW u;omega
      have M:=zh (And.intro QA QB);obtain⟨i2,Q5,Q6,Q7,Q8⟩:=info_parts GN;have PW:fs.length=k:=by have:=f.out.mm.fl;omega
      have P2:xs.length=n- k:=f.out.xl;have QC:=zh (show kJ C u p g mv ms V (u.es.length- u.m.toNat) q2 g2 (.slice ma d.length mc) d fs sb (.slice fa fs.length fc) xs (.slice ea xs.length ec) wr by rw[Qz,hlen];exact f.out);have RH:V.heap.size≤wr.heap.size:=f.out.mm.st.size;have Ql:=zh (show ∀c∈d,c<wr.heap.size from fun c e=>(t.mlt c e).1);have Qm:=zh (show ∀c u,g2.G c=some u→c<wr.heap.size from fun c u e=>(t.ifs c u e).1);have Qn:=zh (show ∀b,wr.heap.size≤b→(Value.slice ma d.length mc).ownBlock≠some b from fun b hb e=>by have:=(t.row.lt _ e).2;omega);have Qo:=zh f.out.mm.om;have R4:=t.gv;have RI:=t.bl;rcases Nat.eq_zero_or_pos (fs.length+xs.length)with hz|Q9
      ·have PU:fs.length=0:=zo
       have Qp:xs.length=0:=zo;have Q_:v.es= []:=by rw[Qt];exact List.eq_nil_of_length_eq_zero zo
       obtain⟨q4,Ra,r,P3,Rb,Rc⟩:=GL Qu Q_ t;have N:=f.out.mm.st.grow ((((zB.alloc zl (.cells #[.bool false,.nilIface] 168)).alloc zs (.cells #[Xp wr] 164)).alloc zp (.cells #[.bool false,.slice none 0 0,.slice (Xa (wr+1) 0) 1 1,.bool false] 139)).alloc zp (.cells (dI (.slice none 0 0) (.slice none 0 0) true (Xp (wr+2))) 119)) Ra;have P4:=zh (Bb fa ea fc ec wr);have Qq:((((wr.alloc (.cells #[.bool false,.nilIface] 168)).alloc (.cells #[Xp wr] 164)).alloc (.cells #[.bool false,.slice none 0 0,.slice (Xa (wr+1) 0) 1 1,.bool false] 139)).alloc (.cells (dI (.slice none 0 0) (.slice none 0 0) true (Xp (wr+2))) 119)).heap.size=wr.heap.size+4:=zs;have y:=zh (And.intro P3 (And.intro Rb Rc));rw[PU,Qp];clear QC f Qw P3 Rb Rc t PU Qp Q4 QA PW P2 Qz hlen;go_wp2_with fail
       refine P4.out.mono ?_;rintro e5 O ⟨rfl,Re⟩;rw[←Re]at r N Qq;have RC:wr.heap.size+4≤O.heap.size:=zo;clear Re Qq P4;have Z:=zh (r.row.alloc (.cells #[Xp (wr+3)] 37));have PG:=zh (show ∀j u,[Value.pointer (Xa (wr+3) 0)][j]?=some u→(O.alloc (.cells #[Xp (wr+3)] 37)).cell? (((Xa O 0):Addr).add j)=some u from TS.eD O (Xp (wr+3)) 37);have y4:=r.c4;have P5:=r.f4;have S:=zb y4;simp only at S;have QD:C.B0≤O.heap.size:=by have:=r.bl;omega
       have T:(Value.slice ma d.length mc).ownBlock≠some C.bb:=fun e=>(r.rd _ e).1 rfl;have P6:=zh r;have PH:=zh N;clear r N;go_wp2_with (first|(at_builtin;refine wpList_append_own_at _ rfl _ _ 63 rfl C.B0 37 i2 (.pointer none) 1 8 underlying63 Q5 Q6 Q7 Q8 rfl zd (.slice ma d.length mc) d.length (d.map pv) rfl Z.out (Xa O 0) 1 1 [Xp (wr+3)] rfl rfl PG.out (TS.one_one rfl) ?c3 ?c4 ?c5 ?_)|fail)
       case c3=>have:=M.out.2;unfold maxLen;omega
       case c4=>have:=M.out.2;omega
       case c5=>(try simp);omega
       intro v6 w6 B PI _ P7;obtain⟨a6,QE,rfl⟩:=a_ B;have PJ:Kept (fun c=>(Value.slice ma d.length mc).ownBlock=some c) (O.alloc (.cells #[Xp (wr+3)] 37)) w6:=(Kept.refl _ _).grown PI fun k hk _=>hk;have PK:Below O O (O.alloc (.cells #[Xp (wr+3)] 37)):=zB.alloc zl _;have x4:Xc w6 C.bb 4 (.slice ma d.length mc):=by rw[PJ.cell zp T];exact az PK y4
       have RE:w6.frozen? (Xa C.bb 4)=false:=by rw[PJ.frozen zp T];exact TS.frozen_kept PK S P5
       have L:Hid (bE C v p g mv ms w (.returned (ah 37 (wr.heap.size+3))) (w6.setCell (Xa C.bb 4) (.slice a6 (d.length+1) QE))):=bE.ahead Qd.out (xz Qu PH.out P6.out Qo.out (fun c u e=>Nat.lt_of_lt_of_le (Qm.out c u e) zo) zo (fun c e=>Nat.lt_of_lt_of_le (Ql.out c e) zo) zo zo (Qn.out _ zo) y.out.1 y.out.2.1 (.inl y.out.2.2) M.out.1 PI B (P7.imp id fun h=>h.trans zs));clear B PI P7 PJ PK y4 P5;go_wp2_with fail
       go_ret;exact L.out
      ·have Rg:=zh (ED q2 g2 V.heap.size (u.es.take u.m.toNat) fs sb (.slice fa fs.length fc) ea xs.length ec wr t.wb f.out.mm.fr (by rw[List.length_take];omega) (fun i h h'=>by
        have hi:i<u.es.length:=by rw[List.length_take]at h;omega
        obtain⟨h1,h2⟩:=f.out.mm.fa i hi zo;rw[show fs.getD i 0=fs[i] by simp[List.getD,h']]at h1 h2;rw[List.getElem_take];exact⟨h1,h2⟩) (fun i h=>by
        obtain⟨h1,h2,h3,h4,h5,x,h6⟩:=f.out.mm.sg i zo;rw[show fs.getD i 0=fs[i] by simp[List.getD,h]]at h1;exact⟨h1,⟨none,h2⟩,h3,h4,by omega,fun e=>by rw[f.out.mm.fd _ e 2]at h6;cases h6⟩) (fun x hx=>by
        obtain⟨j,hj,rfl⟩:=List.getElem_of_mem hx;rw[List.length_take]at hj;rw[List.getElem_take];exact(QJ.out j _ (List.getElem?_eq_getElem zo) zo).2.1) hO f.out.mm.fd zo zo Q9)
       have Rh:=zh (QF zo);have Qr:=zh (show u.m.toNat≤u.es.length∧u.es.length≤1048576 by omega);clear f Qw t Q4 QA PW P2 Qz hlen QF;go_wp2_with fail
       refine Rg.out.mono ?_;rintro e5 O hR;obtain⟨b,q5,rfl,R5,RJ,r,N,P3,Qs,Ri,Rj,Rk⟩:=GK Rl Qt Qr.out.1 Qr.out.2 QC.out PQ hR;have y:=zh (And.intro P3 (And.intro Qs (And.intro Ri (And.intro Rj Rk))));clear hR P3 Qs Ri Rj Rk Rg QC;have Z:=zh (r.row.alloc (.cells #[Xp b] 37));have PG:=zh (show ∀j u,[Value.pointer (Xa b 0)][j]?=some u→(O.alloc (.cells #[Xp b] 37)).cell? (((Xa O 0):Addr).add j)=some u from TS.eD O (Xp b) 37);have y4:=r.c4;have P5:=r.f4;have S:=zb y4;simp only at S;have QD:C.B0≤O.heap.size:=by have:=r.bl;omega
       have T:(Value.slice ma d.length mc).ownBlock≠some C.bb:=fun e=>(r.rd _ e).1 rfl;have P6:=zh r;have PH:=zh N;clear r N;go_wp2_with (first|(at_builtin;refine wpList_append_own_at _ rfl _ _ 63 rfl C.B0 37 i2 (.pointer none) 1 8 underlying63 Q5 Q6 Q7 Q8 rfl zd (.slice ma d.length mc) d.length (d.map pv) rfl Z.out (Xa O 0) 1 1 [Xp b] rfl rfl PG.out (TS.one_one rfl) ?c3 ?c4 ?c5 ?_)|fail)
       case c3=>have:=M.out.2;unfold maxLen;omega
       case c4=>have:=M.out.2;omega
       case c5=>(try simp);omega
       intro v6 w6 B PI _ P7;obtain⟨a6,QE,rfl⟩:=a_ B;have PJ:Kept (fun c=>(Value.slice ma d.length mc).ownBlock=some c) (O.alloc (.cells #[Xp b] 37)) w6:=(Kept.refl _ _).grown PI fun k hk _=>hk;have PK:Below O O (O.alloc (.cells #[Xp b] 37)):=zB.alloc zl _;have x4:Xc w6 C.bb 4 (.slice ma d.length mc):=by rw[PJ.cell zp T];exact az PK y4
       have RE:w6.frozen? (Xa C.bb 4)=false:=by rw[PJ.frozen zp T];exact TS.frozen_kept PK S P5
       have L:Hid (bE C v p g mv ms w (.returned (ah 37 b)) (w6.setCell (Xa C.bb 4) (.slice a6 (d.length+1) QE))):=bE.ahead Qd.out (xz Qu PH.out P6.out Qo.out (fun c u e=>Nat.lt_of_lt_of_le (Qm.out c u e) zo) zo (fun c e=>Nat.lt_of_lt_of_le (Ql.out c e) zo) zo zo (Qn.out _ zo) y.out.1 y.out.2.1.cm (.inr ⟨y.out.2.1,Rh.out,y.out.2.2.1,y.out.2.2.2.1,y.out.2.2.2.2⟩) M.out.1 PI B (P7.imp id fun h=>h.trans zs));clear B PI P7 PJ PK y4 P5;go_wp2_with fail
       go_ret;exact L.out
theorem GP(C:BC)(u:U)(hk:u.k=5)(d:∀e∈u.es,aR e.nm=true)(hnd:(u.es.map U.nm).Nodup)(t:∀e∈u.es,bX C e):bX C u:=by
 intro p g mv ms a c w v m hu;have b:Below w w (w.alloc (Xt u a c)):=zB.alloc zl _;have y:=zh (Gn C u hk d hnd t p g mv ms a c _ (v.below b) m hu);have f:=zh b;have A:=kf 1 hk;have B:=kf 2 hk;have D:=kf 3 hk;have E:=kf 4 hk;have F:=kf 6 hk;have G:=kf 8 hk;have H:=kf 9 hk;have I:=kt hk;clear hk hu v b d hnd t;go_enter func50,ntmps50;go_wp2_with fail
 refine y.out.mono ?_;rintro N J ⟨x,q,K,n,o,rfl,r,h,i,j,z,s⟩;obtain⟨L,M,rfl⟩:=r.val;have l:Hid (bE C u p g mv ms w (.returned (ah L M)) J):=bE.ahead f.out ⟨_,q,K,n,o,rfl,r,h,i,j,z,s⟩;clear r h i j z y;go_wp2_with fail
 go_ret;exact l.out
theorem GQ(C:BC)(u:U)(hk:u.k=7)(hm:0≤u.m∧u.m.toNat≤u.es.length)(y:u.v=true→0<u.m.toNat∧∃e,u.es[u.m.toNat- 1]?=some e∧e.k=4)(z:∀e∈u.es,bX C e):bX C u:=by
 intro p g mv ms a c w A n hu;have b:Below w w (w.alloc (Xt u a c)):=zB.alloc zl _;have B:=zh (pf C u none hk hm y z p g mv ms a c _ (A.below b) n hu);have d:=zh b;have o:=zh hk;have E:=kf 1 hk;have F:=kf 2 hk;have G:=kf 3 hk;have H:=kf 4 hk;have I:=kf 6 hk;have J:=kf 8 hk;have K:=kf 9 hk;have L:=kf 5 hk;have M:=kt hk;clear hk hu A b hm y z;go_enter func50,ntmps50;go_wp2_with fail
 refine B.out.mono ?_;rintro P N ⟨s,q,O,r,t,rfl,D,f,i,j,_,_,_,_,x⟩;have l:Hid (bE C u p g mv ms w (.returned (ah 108 s)) N):=bE.ahead d.out ⟨_,q,O,r,t,rfl,D,f,i,j,fun h=>(by have:=o.out;omega),x⟩;clear D f i j B;go_wp2_with fail
 go_ret;exact l.out
theorem xB(C:BC)(u:U)(hk:u.k=12∨u.k=13)(j:∀p g mv ms a c w,BS C p g mv ms w→ms.length+cn u≤1099511627776→ai C.pa C.D u a c→Xk 109 #[Xp C.bb,Xt u a c] w (bE C u p g mv ms w)):bX C u:=by
 intro p g mv ms a c w y z hu;have h:Below w w (w.alloc (Xt u a c)):=zB.alloc zl _;have v:=zh (j p g mv ms a c _ (y.below h) z hu);have i:=zh h;rcases hk with hk|hk
 ·have A:=kf 1 hk;have B:=kf 2 hk;have E:=kf 3 hk;have F:=kf 4 hk;have G:=kf 6 hk;have H:=kf 8 hk;have I:=kf 9 hk;have J:=kf 5 hk;have K:=kf 7 hk;have r:=kf 11 hk;have s:=kt hk
  clear hk hu y h j;go_enter func50,ntmps50;go_wp2_with fail
  refine v.out.mono ?_;rintro Q L ⟨x,q,M,l,m,rfl,n,b,d,e,t,o⟩;obtain⟨N,O,rfl⟩:=n.val;have f:Hid (bE C u p g mv ms w (.returned (ah N O)) L):=bE.ahead i.out ⟨_,q,M,l,m,rfl,n,b,d,e,t,o⟩;clear n b d e t v;go_wp2_with fail
  go_ret;exact f.out
 ·have A:=kf 1 hk;have B:=kf 2 hk;have E:=kf 3 hk;have F:=kf 4 hk;have G:=kf 6 hk;have H:=kf 8 hk;have I:=kf 9 hk;have J:=kf 5 hk;have K:=kf 7 hk;have r:=kf 11 hk;have s:=kf 12 hk;have P:=kt hk
  clear hk hu y h j;go_enter func50,ntmps50;go_wp2_with fail
  refine v.out.mono ?_;rintro Q L ⟨x,q,M,l,m,rfl,n,b,d,e,t,o⟩;obtain⟨N,O,rfl⟩:=n.val;have f:Hid (bE C u p g mv ms w (.returned (ah N O)) L):=bE.ahead i.out ⟨_,q,M,l,m,rfl,n,b,d,e,t,o⟩;clear n b d e t v;go_wp2_with fail
  go_ret;exact f.out
theorem GR(C:BC)(u:U)(hk:u.k=10)(d:∀p g mv ms a c w,BS C p g mv ms w→ms.length+cn u≤1099511627776→ai C.pa C.D u a c→Xk 110 #[Xp C.bb,Xt u a c] w (bE C u p g mv ms w)):bX C u:=by
 intro p g mv ms a c w s l hu;have b:Below w w (w.alloc (Xt u a c)):=zB.alloc zl _;have t:=zh (d p g mv ms a c _ (s.below b) l hu);have e:=zh b;have G:=kf 1 hk;have H:=kf 2 hk;have I:=kf 3 hk;have J:=kf 4 hk;have K:=kf 6 hk;have L:=kf 8 hk;have M:=kf 9 hk;have N:=kf 5 hk;have O:=kf 7 hk;have v:=kf 11 hk;have y:=kf 12 hk;have z:=kf 13 hk;have A:=kf 15 hk;have B:=kf 16 hk;have E:=kt hk;clear hk hu s b d;go_enter func50,ntmps50;go_wp2_with fail
 refine t.out.mono ?_;rintro T P ⟨x,q,Q,m,n,rfl,o,f,h,i,F,r⟩;obtain⟨R,S,rfl⟩:=o.val;have j:Hid (bE C u p g mv ms w (.returned (ah R S)) P):=bE.ahead e.out ⟨_,q,Q,m,n,rfl,o,f,h,i,F,r⟩;clear o f h i F t;go_wp2_with fail
 go_ret;exact j.out
def cC:U:= .mk 0 0 0 false ByteArray.empty ByteArray.empty [] []
theorem GS(p:Pm)(D:Dl):ai p D cC none 0:=by
 simp only[cC,ai];exact⟨⟨by simp,by simp,by decide,by decide,by decide,by decide,by decide⟩,aq.ix (fun x a=>by cases a),fun h=>absurd h zd⟩
theorem GU(C:BC)(u:U)(hk:u.k=14):bX C u:=by
 intro p g mv ms a c w s E hu;have b:Below w w (w.alloc (Xt u a c)):=zB.alloc zl _;have t:=zh (xA C cC bL rfl rfl ⟨by decide,by decide⟩ (fun k e h=>by cases h) (fun k e h=>by cases h) rfl (fun h=>by cases h) List.Pairwise.nil p g mv ms none 0 _ (s.below b) (by rw[show cn cC=1 from by rw[dW];rfl];have:=dW u;omega) (GS _ _));have d:=zh b;have f:=zh hk;have F:=kf 1 hk;have G:=kf 2 hk;have H:=kf 3 hk;have I:=kf 4 hk;have J:=kf 6 hk;have K:=kf 8 hk;have L:=kf 9 hk;have M:=kf 5 hk;have N:=kf 7 hk;have v:=kf 11 hk;have y:=kf 12 hk;have z:=kf 13 hk;have A:=kf 15 hk;have B:=kf 16 hk;have D:=kf 10 hk;clear hk hu s b;go_enter func50,ntmps50;go_wp2_with fail
 refine t.out.mono ?_;rintro V O ⟨x,q,P,n,o,rfl,r,i,j,l,Q,R⟩;obtain⟨S,T,rfl⟩:=r.val;have m:Hid (bE C u p g mv ms w (.returned (ah S T)) O):=bE.ahead d.out ⟨_,q,P,n,o,rfl,.any f.out r,i,j,l,fun h=>(by have:=f.out;omega),by have h1:cn bL=1:=(by rw[dW];rfl);have:=dW u;omega⟩;clear r i j l Q t;go_wp2_with fail
 go_ret;exact m.out
theorem rQ(C:BC):∀u:U,iq C u→bX C u:=by
 intro u;induction u using U.bc with
 |_ u ih=>
  intro hT;have b:∀e∈u.es,bX C e:=fun e he=>ih e (U.ar he) (hT.part he);have t:∀e∈u.es,u.k≠10→u.k≠12→e.k≠12∧e.k≠13:=fun e he F G=>by
   obtain⟨pos,f,N,D,H⟩:=hT.pl;obtain⟨j,P,rfl⟩:=List.getElem_of_mem he;exact(D.jt F G j P).form.aD
  have s:∀e∈u.es,e.k=13→∃y,e.es= [y]:=fun e he l=>by
   obtain⟨pos,f,N,D,H⟩:=(hT.part he).pl;exact cL (D.form.gM l)
  obtain⟨pos,f,N,D,H⟩:=hT.pl;cases D.form with
  |basic hk q h1 he=>exact Gc C u hk ⟨q,h1⟩
  |pre hk he=>
   rcases hk with hk|hk
   ·exact GU C u hk
   ·exact F9 C u hk
  |err hk he hu=>exact F8 C u hk hT
  |named hk q h1 he W hu=>exact F7 C u hk hT
  |one hk q he=>
   obtain⟨e,he⟩:=cL he;have hm:e∈u.es:=by rw[he];simp
   rcases hk with hk|hk
   ·exact Gb C u e hk he (hT.part hm) (t e hm zo zo) (b e hm)
   ·exact FY C u e hk he (b e hm)
  |struct hk Q R=>exact GP C u hk (Q (H.st hk)) R b
  |iface hk q h1 X hm Y=>
   have z:=hT.ff.EE hk;refine GR C u hk fun p g mv ms a c w E n hu=>xA C u u rfl rfl ⟨q,h1⟩ (fun k e he I=> ?_) (fun k e he I=>b e (List.mem_of_getElem? he)) hk (fun _=>z) (lY D.form hk) p g mv ms a c w E n hu;have A:e∈u.es:=List.mem_of_getElem? he;have J:e∈u.es.take u.m.toNat:=by
    obtain⟨S,rfl⟩:=List.getElem?_eq_some_iff.1 he;exact List.mem_take_iff_getElem.2 ⟨k,by omega,rfl⟩
   obtain⟨h7,K⟩:=hm e J;obtain⟨pos',Z,T,L,V⟩:=(hT.part A).pl;have o:(0≤e.m∧e.m.toNat≤e.es.length)∧(e.v=true→0<e.m.toNat∧∃x,e.es[e.m.toNat- 1]?=some x∧x.k=4):=by
    cases L.form with
    |func hk q h1 r=>exact⟨⟨q,h1⟩,fun h=>⟨(r h).1,_,List.getElem?_eq_getElem (by have:=(r h).1;omega),(r h).2 (by have:=(r h).1;omega)⟩⟩
    |_=>omega
   exact⟨h7,K,o.1,o.2,fun x O=>ih x (by have:=U.ar O;have:=U.ar A;omega) ((hT.part A).part O)⟩
  |ptr hk q h1 he=>
   obtain⟨e,he⟩:=cL he;have hm:e∈u.es:=by rw[he];simp
   rcases hk with hk|hk|hk
   ·exact FW C u e hk he (b e hm)
   ·exact FX C u e hk he (b e hm)
   ·exact F3 C u e hk he (b e hm)
  |map hk he=>
   obtain⟨d,e,he⟩:∃d e,u.es= [d,e]:=by
    match B:u.es with
    | []=>rw[B]at he;cases he
    | [_]=>rw[B]at he;cases he
    | [d,e]=>exact⟨d,e,rfl⟩
    |_::_::_::_=>rw[B]at he;simp at he
   exact F6 C u d e hk he (b d (by rw[he];simp)) (b e (by rw[he];simp))
  |func hk q h1 r=>exact GQ C u hk ⟨q,h1⟩ (fun h=>⟨(r h).1,_,List.getElem?_eq_getElem (by have:=(r h).1;omega),(r h).2 (by have:=(r h).1;omega)⟩) b
  |union hk M h2 h8=>
   refine xB C u (.inl hk) fun p g mv ms a c w E n hu=>GG C u hk zo s (fun e he=> ?_) p g mv ms a c w E n hu;by_cases l:e.k=13
   ·obtain⟨y,i⟩:=s e he l
    rw[hZ l i];have hm:y∈e.es:=by rw[i];simp
    exact ih y (by have:=U.ar hm;have:=U.ar he;omega) ((hT.part he).part hm)
   ·rw[fE l];exact b e he
  |iO hk M he=>
   obtain⟨y,i⟩:=cL he;refine xB C u (.inr hk) fun p g mv ms a c w E n hu=>GH C u hk zs (fun e he _=> ?_) (fun e he=> ?_) p g mv ms a c w E n hu
   ·obtain rfl:e=u:=by simpa using he
    exact⟨y,i⟩
   ·obtain rfl:e=u:=by simpa using he
    rw[hZ hk i];exact b y (by rw[i];simp)
end Go.Proofs.YtkochlhejabdcaaGreatDoor
