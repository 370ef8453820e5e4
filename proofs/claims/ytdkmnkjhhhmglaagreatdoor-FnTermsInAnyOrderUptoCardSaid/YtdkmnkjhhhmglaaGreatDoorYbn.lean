import Derived.Test.YtdkmnkjhhhmglaaGreatDoorYbm
set_option maxRecDepth 100000
set_option maxHeartbeats 8000000
set_option linter.all false
namespace TS
open Go Go.RowKit Go.Proofs.YtdkmnkjhhhmglaaGreatDoor
structure fB(C:BC)(u:U)(p:Pm)(g:Ge)(mv:Value)(ms:List Nat)(w:World)(k:Nat)(q:Pm)(e:Ge)(c:Value)(d fs:List Nat)(a:Nat→Nat)(f:Value)(wr:World):Prop where
 bs:BS C q e c d wr
 st:aD C p g mv ms w q e d wr
 om:∀b,c.ownBlock=some b→mv.ownBlock=some b∨w.heap.size≤b
 fl:fs.length=k
 fr:wr.ownsRow w.heap.size 107 1 f fs.length (fs.map pv)
 fd:∀b,f.ownBlock=some b→∀o,q b o=none
 fa:∀i(h:i<u.es.length),i<k→dn q e u.es[i] (fs.getD i 0)∧q (fs.getD i 0) 0=some (.int .i64 0)
 sg:∀i,i<k→q (fs.getD i 0) 3=some (ae 102 (a i))∧wr.cell? ⟨a i,0,none⟩=some (.pointer none)∧wr.frozen? ⟨a i,0,none⟩=false∧q (a i) 0=none∧w.heap.size≤a i∧∃v,q (a i) 2=some v
theorem xq{C:BC}{p q:Pm}{g g1:Ge}{mv:Value}{ms b:List Nat}{w c:World}(j:BS C p g mv ms w)(a:aD C p g mv ms w q g1 b c){s:Nat}(n:C.bb<s)(f:w.cell? ⟨s,0,none⟩=some (.pointer none))(k:w.frozen? ⟨s,0,none⟩=false)(l:p s 0=none)(h2:∃v,p s 2=some v):
 c.cell? ⟨s,0,none⟩=some (.pointer none)∧c.frozen? ⟨s,0,none⟩=false∧q s 0=none∧∃v,q s 2=some v:=by
 have d:=World.block_lt_of_cell? _ _ f;have i:¬(s=C.bb∨mv.ownBlock=some s):=fun e=>by
  rcases e with e|e
  ·omega
  ·obtain⟨v,h2⟩:=h2;rw[(j.rd s e).2 2]at h2;cases h2
 refine⟨by rw[a.kept.cell d i];exact f,by rw[a.kept.frozen d i];exact k,?_,let⟨v,h⟩:=h2;⟨v,a.gr.le _ _ _ h⟩⟩;cases m:q s 0 with
 |none=>rfl
 |some v=>
  rcases a.gr.new _ _ _ m with h|h
  ·rw[l]at h;cases h
  ·simp only at d;omega
theorem fB.step{C:BC}{u e:U}{p q l:Pm}{g g' g1:Ge}{mv B D:Value}{ms L E fs:List Nat}{w V wr a M:World}{k s:Nat}{sb:Nat→Nat}{N x:Value}{pk:Option Addr}
 (hM:fB C u p g mv ms w k q g' B L fs sb N wr)(O:C.bb<w.heap.size)(W:u.es[k]?=some e)(X:e.k=7)(d:Below wr.heap.size wr V)
 (P:Node l g1 e (ae 102 s))(F:BS C l g1 D E a)(m:aD C q g' B L V l g1 E a)(Y:∀b,D.ownBlock=some b→B.ownBlock=some b∨V.heap.size≤b)
 (hs:V.heap.size≤s)(Z:l s 0=none)(PM:a.cell? ⟨s,0,none⟩=some (.pointer none))(PN:a.frozen? ⟨s,0,none⟩=false)
 {bs:Array Value}{Tb:TypeId}(PO:M.ownsRow w.heap.size 107 1 x (fs.length+1) (fs.map pv++ [pv a.heap.size]))
 (PQ:((a.alloc (.cells #[.int .i64 0,.pointer pk,.string e.nm,ae 102 s,.bool false,.bool false] 195)).alloc (.cells bs Tb)).grownBy M N.ownBlock)
 (PR:x.ownBlock=N.ownBlock∨x.ownBlock=some ((a.alloc (.cells #[.int .i64 0,.pointer pk,.string e.nm,ae 102 s,.bool false,.bool false] 195)).alloc (.cells bs Tb)).heap.size):
 fB C u p g mv ms w (k+1) (l.add a.heap.size #[.int .i64 0,.pointer pk,.string e.nm,ae 102 s,.bool false,.bool false]) g1 D E (fs++ [a.heap.size]) (fun i=>if i=k then s else sb i) x M:=by
 obtain⟨hk,Q⟩:=List.getElem?_eq_some_iff.1 W;have y:=aD.row (hM.bs.below d) m (by decide) (bO hM.fr d) O hM.fd;have PS:=F.box #[.int .i64 0,.pointer pk,.string e.nm,ae 102 s,.bool false,.bool false] 195;have PT:=(hM.st.trans (aD.ahead d m) hM.om).box F #[.int .i64 0,.pointer pk,.string e.nm,ae 102 s,.bool false,.bool false] 195;have hd:∀o,l a.heap.size o=none:=fun o=>F.wb.kw.aJ (Nat.le_refl _) o;have n:=Pm.dj (cs:=#[.int .i64 0,.pointer pk,.string e.nm,ae 102 s,.bool false,.bool false]) hd;generalize G:#[Value.int .i64 0,.pointer pk,.string e.nm,ae 102 s,.bool false,.bool false]=f at*;have j:Below a.heap.size a ((a.alloc (.cells f 195)).alloc (.cells bs Tb)):=((Below.refl _ _).alloc (Nat.le_refl _) _).alloc (by simp) _;have R:Below (a.alloc (.cells f 195)).heap.size (a.alloc (.cells f 195)) ((a.alloc (.cells f 195)).alloc (.cells bs Tb)):=(Below.refl _ _).alloc (Nat.le_refl _) _;have z:=PS.below R;have S:∀b,N.ownBlock=some b→∀o,l.add a.heap.size f b o=none:=fun b c o=>by
  rw[Pm.aO _ _ _ fun e2=>by have:=(y.1.lt b c).2;omega];exact y.2 b c o
 have A:=bO y.1 j;obtain⟨PU,H⟩:=z.appended (by decide) A S O PQ;have PV:=(PT.below R).own H fun b c=>(A.lt b c).1;have I:=hM.fl;have J:=m.gr.le.trans n;have P0:=hM.st.size;have P1:=d.size;have r:∀t,a.cell? ⟨t,0,none⟩=some (.pointer none)→a.frozen? ⟨t,0,none⟩=false→l t 0=none→(∃v,l t 2=some v)→M.cell? ⟨t,0,none⟩=some (.pointer none)∧M.frozen? ⟨t,0,none⟩=false∧l.add a.heap.size f t 0=none∧∃v,l.add a.heap.size f t 2=some v:=fun t h1 h2 h3 ⟨v,K⟩=>by
  have T:=World.block_lt_of_cell? _ _ h1;simp only at T;have hx:¬N.ownBlock=some t:=fun c=>by rw[y.2 t c 2]at K;cases K
  have P2:=j.size;refine⟨by rw[H.cell (by omega) hx];exact ar j h1,by rw[H.frozen (by omega) hx];exact TS.frozen_kept j T h2,by rw[Pm.aO _ _ _ (by omega)];exact h3,v,n _ _ _ K⟩
 refine⟨PU,PV,fun b c=> ?_,by simp[I],by simpa using PO,kM z.wb S PR,fun i h hi=> ?_,fun i hi=> ?_⟩
 ·rcases Y b c with c|c
  ·exact hM.om b c
  ·exact .inr (by omega)
 ·by_cases c:i=k
  ·subst c
   rw[Q,show(fs++ [a.heap.size]).getD i 0=a.heap.size by simp[List.getD,←I]];simp only[dn,Pm.aX,←G];refine⟨⟨s,⟨pk,rfl⟩,rfl,rfl,?_⟩,rfl⟩;rw[G];exact P.sub n (aH.refl _)
  ·rw[show(fs++ [a.heap.size]).getD i 0=fs.getD i 0 by simp[List.getD,List.getElem?_append_left (show i<fs.length by omega)]]
   obtain⟨h1,h2⟩:=hM.fa i h (by omega);exact⟨h1.sub J m.gs,J _ _ _ h2⟩
 ·by_cases c:i=k
  ·subst c
   rw[if_pos rfl,show(fs++ [a.heap.size]).getD i 0=a.heap.size by simp[List.getD,←I]];obtain⟨b,P3,P4,f',P5,ex,_,k2,_⟩:=P.lr X;cases ex;obtain⟨h1,h2,h3,K⟩:=r _ PM PN Z ⟨_,k2⟩;exact⟨by rw[Pm.aX,←G];rfl,h1,h2,h3,by omega,K⟩
  ·rw[if_neg c,show(fs++ [a.heap.size]).getD i 0=fs.getD i 0 by simp[List.getD,List.getElem?_append_left (show i<fs.length by omega)]]
   obtain⟨h1,h2,h3,K,h5,h6⟩:=hM.sg i (by omega);have T:=World.block_lt_of_cell? _ _ h2;simp only at T;obtain⟨j1,j2,j3,j4⟩:=xq (hM.bs.below d) m (by omega) (ar d h2) (TS.frozen_kept d T h3) K h6;obtain⟨PW,PX,PY,PZ⟩:=r _ j1 j2 j3 j4;exact⟨J _ _ _ h1,PW,PX,PY,h5,PZ⟩
theorem fB.after{C:BC}{u:U}{p q n:Pm}{g x g1:Ge}{mv d e:Value}{ms j f fs:List Nat}{w o wr r:World}{k:Nat}{y:Nat→Nat}{z:Value}
 (hM:fB C u p g mv ms w k q x d j fs y z wr)(s:C.bb<w.heap.size)(a:Below wr.heap.size wr o)
 (t:BS C n g1 e f r)(c:aD C q x d j o n g1 f r)(v:∀b,e.ownBlock=some b→d.ownBlock=some b∨o.heap.size≤b):
 fB C u p g mv ms w k n g1 e f fs y z r:=by
 have l:=aD.row (hM.bs.below a) c (by decide) (bO hM.fr a) s hM.fd;refine⟨t,hM.st.trans (aD.ahead a c) hM.om,fun b m=> ?_,hM.fl,l.1,l.2,fun i h hi=>⟨(hM.fa i h hi).1.sub c.gr.le c.gs,c.gr.le _ _ _ (hM.fa i h hi).2⟩,fun i hi=> ?_⟩
 ·rcases v b m with m|m
  ·exact hM.om b m
  ·have:=a.size;have:=hM.st.size;exact .inr (by omega)
 ·obtain⟨h1,h2,h3,B,D,E⟩:=hM.sg i hi
  have A:=World.block_lt_of_cell? _ _ h2;simp only at A;obtain⟨F,G,H,I⟩:=xq (hM.bs.below a) c (by omega) (ar a h2) (TS.frozen_kept a A h3) B E;exact⟨c.gr.le _ _ _ h1,F,G,H,D,I⟩
theorem fB.below{C:BC}{u:U}{p q:Pm}{g d:Ge}{mv a:Value}{ms b fs:List Nat}{w wr e:World}{k:Nat}{f:Nat→Nat}{h:Value}
 (hM:fB C u p g mv ms w k q d a b fs f h wr)(c:Below wr.heap.size wr e):fB C u p g mv ms w k q d a b fs f h e:=
 ⟨hM.bs.below c,hM.st.below c,hM.om,hM.fl,bO hM.fr c,hM.fd,hM.fa,fun i hi=>
  let⟨h1,h2,h3,j,l,m⟩:=hM.sg i hi
  ⟨h1,ar c h2,TS.frozen_kept c (World.block_lt_of_cell? _ _ h2) h3,j,l,m⟩⟩
theorem fB.appended{C:BC}{u:U}{p q:Pm}{g t:Ge}{mv c:Value}{ms d fs:List Nat}{w wr x:World}{k:Nat}{h:Nat→Nat}{y:Value}
 (hM:fB C u p g mv ms w k q t c d fs h y wr)(j:C.bb<w.heap.size){e:TypeId}(he:e≠44)(l:107≠e){v:Value}{n:Nat}{xs:List Value}(m:wr.ownsRow w.heap.size e 1 v n xs)(z:∀b,v.ownBlock=some b→∀o,q b o=none)(D:wr.grownBy x v.ownBlock):
 fB C u p g mv ms w k q t c d fs h y x:=by
 obtain⟨r,a⟩:=hM.bs.appended he m z j D;refine⟨r,hM.st.own a fun b f=>(m.lt b f).1,hM.om,hM.fl,eC hM.fr a fun b f=>kL l hM.fr m f,hM.fd,hM.fa,fun i hi=> ?_⟩;obtain⟨h1,h2,h3,E,F,v2,s⟩:=hM.sg i hi;have A:=World.block_lt_of_cell? _ _ h2;have B:¬v.ownBlock=some (h i):=fun f=>by rw[z _ f 2]at s;cases s
 exact⟨h1,by rw[a.cell A B];exact h2,by rw[a.frozen A B];exact h3,E,F,v2,s⟩
theorem BS.Fu{C:BC}{q:Pm}{g:Ge}{mv:Value}{ms:List Nat}{w:World}(d:BS C q g mv ms w){u:U}{t c:Nat}(h:Node q g u (ae t c)):c<w.heap.size:=by
 have hk:∀{b o v},q b o=some v→b<w.heap.size:=fun h=>d.wb.kw.lt h;generalize a:ae t c=x at h;induction h generalizing t c with
 |basic _ h=>cases a;exact hk h
 |alias _ h _ _=>subst a;obtain⟨b,_,_,e,_,_,f⟩:=h.world d.wb.kw;cases e;cases f<;>exact World.block_lt_of_cell? _ _ ‹_›
 |any _ _ ih=>exact ih a
 |array _ _ h|slice _ _ h|pointer _ _ h|map _ _ h|chan _ _ h=>cases a;exact hk h
 |struct _ h=>cases a;exact hk h
 |func _ _ h=>cases a;exact hk h
 |iface _ h=>cases a;exact(d.ifs _ _ h).1
 |iD _ _ _ _ h=>cases a;exact hk h
 |named _ _ _ _ h=>cases a;exact hk h
 |union _ h=>cases a;exact hk h
 |err _ _ h=>cases a;exact hk h
 |comp _ h=>cases a;exact hk h
structure kO(C:BC)(u:U)(p:Pm)(g:Ge)(mv:Value)(ms:List Nat)(w:World)(k:Nat)(q:Pm)(d:Ge)(a:Value)(c fs:List Nat)(f:Nat→Nat)(l:Value)(xs:List Value)(e:Value)(wr:World):Prop where
 mm:fB C u p g mv ms w u.m.toNat q d a c fs f l wr
 xl:xs.length=k
 er:wr.ownsRow w.heap.size 38 1 e xs.length xs
 ed:∀b,e.ownBlock=some b→∀o,q b o=none
 nd:∀i(h:u.m.toNat+i<u.es.length),i<k→Node q d u.es[u.m.toNat+i] (xs.getD i undef)
 df:∀i j,i<j→j<k→u.m.toNat+j<u.es.length→((u.es.getD (u.m.toNat+j) default).k=12∨(u.es.getD (u.m.toNat+j) default).k=13)→xs.getD i undef≠xs.getD j undef
theorem kO.step{C:BC}{u e:U}{p q J:Pm}{g X g1:Ge}{mv o r:Value}{ms A s fs:List Nat}{w K wr t L:World}{k:Nat}{Y:Nat→Nat}{Z M c x:Value}{xs:List Value}
 (d:kO C u p g mv ms w k q X o A fs Y Z xs M wr)(v:C.bb<w.heap.size)(B:u.es[u.m.toNat+k]?=some e)(f:Below wr.heap.size wr K)
 (N:Node J g1 e x)(D:BS C J g1 r s t)(l:aD C q X o A K J g1 s t)(O:∀b,r.ownBlock=some b→o.ownBlock=some b∨K.heap.size≤b)
 (P:e.k=12∨e.k=13→∃b,x=ae 185 b∧K.heap.size≤b)
 {bs:Array Value}{Tb:TypeId}(Q:L.ownsRow w.heap.size 38 1 c (xs.length+1) (xs++ [x]))
 (R:(t.alloc (.cells bs Tb)).grownBy L M.ownBlock)(S:c.ownBlock=M.ownBlock∨c.ownBlock=some (t.alloc (.cells bs Tb)).heap.size):
 kO C u p g mv ms w (k+1) J g1 r s fs Y Z (xs++ [x]) c L:=by
 obtain⟨hk,E⟩:=List.getElem?_eq_some_iff.1 B;have F:=d.xl;have y:=aD.row (d.mm.bs.below f) l (by decide) (bO d.er f) v d.ed;have a:Below t.heap.size t (t.alloc (.cells bs Tb)):=(Below.refl _ _).alloc (Nat.le_refl _) _;have G:=bO y.1 a;have T:=(d.mm.after v f D l O).below a;have n:∀i,i<k→(xs++ [x]).getD i undef=xs.getD i undef:=fun i hi=>by simp[List.getD,List.getElem?_append_left (show i<xs.length by omega)]
 have H:(xs++ [x]).getD k undef=x:=by simp[List.getD,←F]
 refine⟨T.appended v (by decide) (by decide) G y.2 R,by simp[F],by simpa using Q,kM (D.below a).wb y.2 S,fun i h hi=> ?_,fun i j z hj hl I=> ?_⟩
 ·by_cases V:i=k
  ·subst V;rw[E,H];exact N
  ·rw[n i (by omega)];exact(d.nd i h (by omega)).sub l.gr.le l.gs
 ·by_cases V:j=k
  ·subst V
   rw[H,n i z];have W:e.k=12∨e.k=13:=by simpa [List.getD,B]using I
   obtain⟨b,rfl,hb⟩:=P W;intro hx;have hn:=d.nd i (by omega) z;rw[hx]at hn;have:=d.mm.bs.Fu hn;have:=f.size;omega
  ·rw[n i (by omega),n j (by omega)]
   exact d.df i j z (by omega) hl I
theorem fX.congr{p:Pm}{g:Ge}{b:Nat}{u v:U}(h:fX p g b u)(hm:v.m=u.m)(he:v.es=u.es):fX p g b v:=by
 obtain⟨k,n,m,o,nm,tg,es,un⟩:=u;obtain⟨s,t,e,f,i,j,a,l⟩:=v;have c:e=m:=hm;have d:a=es:=he;subst c;subst d;exact⟨h.ck,h.ms,h.el,h.ps,h.cm⟩
section
variable {C:BC} {p q r:Pm} {g g1 g2:Ge} {mv mv1:Value} {ms ms1 ms2:List Nat} {w w1 w2:World}
theorem BS.rJ(h:BS C p g mv ms w){X:Nat→Prop}(k:Kept X w w1)(d:WB p w1)(c:∀b,X b→C.B0≤b∧p b 0=none∧b≠C.bb∧mv.ownBlock≠some b):BS C p g mv ms w1 where
 ka:=h.ka.kept k fun b o v e a=>by have:=h.la _ _ _ e;have:=(c b a).1;omega
 la:=h.la
 wb:=d
 lp:=h.lp
 inj:=h.inj
 gv:=h.gv
 bl:=h.bl
 pb:=h.pb
 c0:=by rw[k.cell (World.block_lt_of_cell? _ _ h.c0) fun a=>(c _ a).2.2.1 rfl];exact h.c0
 c1:=let⟨h1,h2⟩:=h.c1;⟨by rw[k.cell (World.block_lt_of_cell? _ _ h.c0) fun a=>(c _ a).2.2.1 rfl];exact h1,h2⟩
 c2:=by rw[k.cell (World.block_lt_of_cell? _ _ h.c0) fun a=>(c _ a).2.2.1 rfl];exact h.c2
 c3:=by rw[k.cell (World.block_lt_of_cell? _ _ h.c0) fun a=>(c _ a).2.2.1 rfl];exact h.c3
 c4:=by rw[k.cell (World.block_lt_of_cell? _ _ h.c0) fun a=>(c _ a).2.2.1 rfl];exact h.c4
 f4:=by rw[k.frozen (World.block_lt_of_cell? _ _ h.c0) fun a=>(c _ a).2.2.1 rfl];exact h.f4
 row:=eC h.row k fun b e a=>(c b a).2.2.2 e
 rd:=h.rd
 ord:=h.ord
 mlt:=fun b e=>⟨Nat.lt_of_lt_of_le (h.mlt b e).1 k.size,(h.mlt b e).2⟩
 ifs:=fun b u e=>by
  have hi:=h.ifs b u e;have a:¬X b:=fun a=>by have:=(c b a).2.1;rw[hi.2.1]at this;cases this
  exact hi.mono (Sub.refl p) (aH.refl g) (fun _ h=>h) k.size (k.cell hi.1 a) (k.frozen hi.1 a) fun h=>h
 len:=h.len
 nm:=h.nm
 po:=h.po
 cH:=h.cH
 cI:=h.cI
 err:=h.err
 cmp:=h.cmp
 tn:=h.tn
theorem BS.put(h:BS C p g mv ms w){b o:Nat}{v:Value}(i:w.cell? ⟨b,o,none⟩=some v)(j:Plain w b)(l:p b o=none)(s:C.bb<b)(c:mv.ownBlock≠some b)(m:o≠6∨g.G b=none):BS C (p.put b o v) g mv ms w:=by
 have n:=h.bl;refine h.jO (Pm.fM v l) (h.wb.put i j) (fun d a x f=> ?_) (fun a=>by rw[Pm.a_ _ _ (by omega)];exact h.pb a) (fun d e a=> ?_) (fun d u hu e=>by rw[Pm.a_ _ _ fun k=>m.elim (fun h=>h k.2.symm) fun h=>by rw[k.1,h]at hu;cases hu];exact e)
 ·by_cases e:d=b∧a=o
  ·omega
  ·rw[Pm.a_ _ _ e]at f;exact h.lp _ _ _ f
 ·rw[Pm.a_ _ _ fun k=>c (by rw[←k.1];exact e)];exact(h.rd _ e).2 a
def Ge.more(g:Ge)(b:Nat)(v:U):Ge:={g with G:=fun c=>if c=b then some v else g.G c}
theorem Ge.xr{g:Ge}{b:Nat}(a:∀c u,g.G c=some u→c<b)(v:U):aH g (g.more b v):=
 ⟨rfl,rfl,rfl,rfl,rfl,rfl,rfl,rfl,fun c u h=>by have:=a c u h;show(if c=b then _ else _)=_;rw[if_neg (by omega)];exact h⟩
theorem Ge.Fv{g:Ge}{b:Nat}(a:∀c u,g.G c=some u→c<b)(v:U):aH g ((g.more b v).below b):=
 ⟨rfl,rfl,rfl,rfl,rfl,rfl,rfl,rfl,fun c u h=>by
  have:=a c u h;show(if c<b then(if c=b then _ else _)else _)=_;rw[if_pos this,if_neg (by omega)];exact h⟩
theorem BS.made(h:BS C q g mv ms w){b:Nat}{v:U}(hm:∀c∈ms,c<b)(O:∀c u,g.G c=some u→c<b)(P:C.bb<b)(m:b<w.heap.size)(I:mv.ownBlock≠some b)(J:q b 0=some (.pointer none))(K:q b 5=some (.bool true))
 (hi:cY q g b v∨(fX q g b v∧gd C.D.len v∧q b 6=none∧w.cell? ⟨b,6,none⟩=some (.pointer none)∧w.frozen? ⟨b,6,none⟩=false))
 {d:Value}(Q:w.grownBy w1 mv.ownBlock)(E:w1.ownsRow C.B0 44 1 d (ms.length+1) (ms.map pv++ [pv b]))(R:d.ownBlock=mv.ownBlock∨d.ownBlock=some w.heap.size):
 BS C q (g.more b v) d (ms++ [b]) (w1.setCell ⟨C.bb,4,none⟩ d)∧Kept (fun c=>c=C.bb∨mv.ownBlock=some c) w (w1.setCell ⟨C.bb,4,none⟩ d):=by
 have s:Kept (fun c=>mv.ownBlock=some c) w w1:=(Kept.refl _ _).grown Q fun k hk _=>hk;have j:Kept (fun c=>c=C.bb∨mv.ownBlock=some c) w (w1.setCell ⟨C.bb,4,none⟩ d):=(s.mono fun c _ e=> .inr e).setCell (fun _=> .inl rfl) _;have t:=World.block_lt_of_cell? _ _ h.c0;simp only at t;have A:mv.ownBlock≠some C.bb:=fun e=>(h.rd _ e).1 rfl;have l:=Ge.xr O v;have F:=Ge.Fv O v;have f:∀o,o≠4→(w1.setCell ⟨C.bb,4,none⟩ d).cell? ⟨C.bb,o,none⟩=w.cell? ⟨C.bb,o,none⟩:=fun o S=>by
  rw[World.cell?_setCell_other _ _ _ _ (fun e=>S (congrArg Addr.off e).symm)];exact s.cell t A
 have L:w1.cell? ⟨C.bb,4,none⟩=some mv:=by rw[s.cell t A];exact h.c4
 have z:∀c,d.ownBlock=some c→c≠C.bb∧∀o,q c o=none:=fun c e=>by
  rcases R with M|M
  ·rw[M]at e;exact h.rd c e
  ·rw[M]at e;cases e
   exact⟨by omega,fun o=>h.wb.kw.aJ (Nat.le_refl _) o⟩
 have H:∀c,c=C.bb∨mv.ownBlock=some c→C.B0≤c∧c<w.heap.size∧∀o,q c o=none:=fun c B=>h.ib (B.imp Eq.symm id);refine⟨⟨h.ka.kept j fun c o x e i=> ?_,h.la,h.wb.own j (fun c i=>(H c i).2.2) fun i=> ?_,h.lp,⟨h.inj.nb,h.inj.ob,h.inj.ne,h.inj.nc,h.inj.ec,h.inj.oe,h.inj.oc,h.inj.ac⟩,h.gv,h.bl,h.pb,?_,?_,?_,?_,World.cell?_setCell_same _ _ _ L,?_,?_,z,?_,fun c B=> ?_,fun c u B=> ?_,h.len,h.nm,h.po,h.cH,h.cI,?_,?_,?_⟩,j⟩
 ·have:=h.la _ _ _ e;have:=(H c i).1;omega
 ·have:=(H _ i).1;have:=h.gv;omega
 ·rw[f 0 (by decide)];exact h.c0
 ·obtain⟨h1,h2⟩:=h.c1
  exact⟨by rw[f 1 (by decide)];exact h1,h2⟩
 ·rw[f 2 (by decide)];exact h.c2
 ·rw[f 3 (by decide)];exact h.c3
 ·rw[World.frozen?_setCell,s.frozen t A];exact h.f4
 ·have h1:=fI (a:=⟨C.bb,4,none⟩) E (fun e=>(z _ e).1 rfl) d
  simpa using h1
 ·refine List.pairwise_append.2 ⟨h.ord,by simp,fun x i y T=> ?_⟩
  have:y=b:=by simpa using T
  subst this;exact hm x i
 ·rcases List.mem_append.1 B with e|e
  ·obtain⟨h1,u,h2⟩:=h.mlt c e
   exact⟨Nat.lt_of_lt_of_le h1 j.size,u,l.G _ _ h2⟩
  ·have:c=b:=by simpa using e
   subst this;exact⟨Nat.lt_of_lt_of_le m j.size,v,if_pos rfl⟩
 ·by_cases e:c=b
  ·subst e
   have hu:u=v:=by
    have:(some v:Option U)=some u:=by rw[←B];exact(if_pos rfl).symm
    injection this with this;exact this.symm
   subst hu;have i:¬(c=C.bb∨mv.ownBlock=some c):=fun e=>e.elim (by omega) I;exact⟨Nat.lt_of_lt_of_le m j.size,J,K,hi.imp (fun k=>k.sub (Sub.refl q) F) fun⟨V,W,X,Y,Z⟩=>⟨by simp,V.sub (Sub.refl q) F,W,X,by rw[j.cell m i];exact Y,by rw[j.frozen m i];exact Z⟩⟩
  ·have N:g.G c=some u:=by
    have:(if c=b then some v else g.G c)=some u:=B;rwa [if_neg e]at this
   have hi:=h.ifs c u N;have i:¬(c=C.bb∨mv.ownBlock=some c):=fun e=>by have:=(H c e).2.2 0;rw[hi.2.1]at this;cases this
   exact hi.mono (Sub.refl q) l (fun b hb=>List.mem_append_left _ hb) j.size (j.cell hi.1 i) (j.frozen hi.1 i) fun e=>e
 ·obtain⟨h1,x,h2,h3⟩:=h.err
  exact⟨h1,x,h2,h3.sub (Sub.refl q) l⟩
 ·obtain⟨h1,x,h2,h3⟩:=h.cmp
  exact⟨h1,x,h2,l.G _ _ h3⟩
 ·intro n hn hi
  obtain⟨x,h1,h2⟩:=h.tn n hn hi;exact⟨x,h1,h2.sub (Sub.refl q) l⟩
theorem xu{i:World}{v:U}(hk:v.k=10)(d:aD C p g mv ms i q g1 ms1 w)(H:BS C q g1 mv1 ms1 w)(j:∀b,mv1.ownBlock=some b→mv.ownBlock=some b∨i.heap.size≤b)
 {b:Nat}(E:∀c u,g1.G c=some u→c<b)(I:i.heap.size≤b)(hm:∀c∈ms1,c<b)(s:C.bb<b)(m:b<w.heap.size)(t:mv1.ownBlock≠some b)(x:q b 0=some (.pointer none))(y:q b 5=some (.bool true))
 (hi:cY q g1 b v∨(fX q g1 b v∧gd C.D.len v∧q b 6=none∧w.cell? ⟨b,6,none⟩=some (.pointer none)∧w.frozen? ⟨b,6,none⟩=false))(z:ms1.length+1≤ms.length+cn v)
 {o:Obj}{a:Value}(J:(w.alloc o).grownBy w1 mv1.ownBlock)(n:w1.ownsRow C.B0 44 1 a (ms1.length+1) (ms1.map pv++ [pv b]))(F:a.ownBlock=mv1.ownBlock∨a.ownBlock=some (w.heap.size+1)):
 bA C v p g mv ms i (.returned (ae 44 b)) (w1.setCell ⟨C.bb,4,none⟩ a):=by
 have aa:Below w.heap.size w (w.alloc o):=(Below.refl _ _).alloc (Nat.le_refl _) _;have K:=d.size;obtain⟨A,B⟩:=(H.below aa).made (v:=v) hm E s (Nat.lt_of_lt_of_le m aa.size) t x y (hi.imp id fun⟨L,M,N,O,P⟩=>⟨L,M,N,ar aa O,TS.frozen_kept aa m P⟩) J n (F.imp id fun e=>by rw[e];simp);have Q:Kept (fun c=>c=C.bb∨mv.ownBlock=some c) i (w1.setCell ⟨C.bb,4,none⟩ a):=d.kept.trans ((Kept.of (X:=fun c=>c=C.bb∨mv1.ownBlock=some c) aa).trans B fun _ _ h=>h) fun c R e=>by
  rcases e with e|e
  ·exact .inl e
  ·rcases j c e with e|e
   ·exact .inr e
   ·omega
 refine⟨_,q,g1.more b v,a,ms1++ [b],rfl,.iface hk (if_pos rfl),A,⟨d.gr,d.gs.trans (Ge.xr E v),fun c u e=> ?_,Q,?_⟩,fun c e=> ?_,fun h=>(by omega),by simpa using z⟩
 ·by_cases f:c=b
  ·subst f;exact .inr I
  ·exact d.gn c u (by have:(if c=b then some v else g1.G c)=some u:=e;rwa [if_neg f]at this)
 ·obtain⟨l,e⟩:=d.mm
  exact⟨l++ [b],by rw[e,List.append_assoc]⟩
 ·rcases F with f|f
  ·rw[f]at e;exact j c e
  ·rw[f]at e;cases e;exact .inr (by omega)
end
end TS
namespace TS
open Go Go.RowKit Go.Proofs.YtdkmnkjhhhmglaaGreatDoor
theorem Fw{C:BC}{u v:U}{p q:Pm}{g I:Ge}{mv F:Value}{ms J fs:List Nat}{H Z D:World}{sb:Nat→Nat}{t y:Value}{xs:List Value}{e:Ending}(PM:v.m=u.m)(PN:v.es=u.es)(PO:u.m.toNat≤u.es.length)(Qa:u.es.length≤1048576)
 (f:kO C u p g mv ms H (u.es.length- u.m.toNat) q I F J fs sb t xs y Z)(K:C.bb<H.heap.size)(hR:rB q I H.heap.size (u.es.take u.m.toNat) t y (fun c=> ∃i,i<fs.length∧c=sb i) Z e D):
 ∃b P,e= .returned (.pointer (some ⟨b,0,none⟩))∧Z.heap.size≤b∧b<D.heap.size∧BS C P I F J D∧aD C p g mv ms H P I J D∧P b 0=some (.pointer none)∧fX P I b v∧P b 6=none∧D.cell? ⟨b,6,none⟩=some (.pointer none)∧D.frozen? ⟨b,6,none⟩=false:=by
 obtain⟨b,a,rfl,hb,l,Q,hlen,R,PQ,hK⟩:=hR;have Qb:=f.mm.fl;have n:=f.mm.bs;have P_:=n.bl;have Qc:=f.mm.st.size;have S:a.length=u.m.toNat:=by rw[hlen,List.length_take];omega
 have T:∀c,(∃i,i<fs.length∧c=sb i)∨t.ownBlock=some c→C.B0≤c∧q c 0=none∧c≠C.bb∧F.ownBlock≠some c∧H.heap.size≤c:=fun c E=>by
  rcases E with⟨i,hi,rfl⟩|e
  ·obtain⟨_,_,_,h4,h5,x,V⟩:=f.mm.sg i (by omega)
   exact⟨by omega,h4,by omega,fun e=>(by rw[(n.rd _ e).2 2]at V;cases V),h5⟩
  ·have h1:=(f.mm.fr.lt c e).1
   have h2:=n.apart (by decide) f.mm.fr K e;exact⟨by omega,f.mm.fd c e 0,h2.1,h2.2,h1⟩
 have PR:=n.rJ hK PQ fun c E=>⟨(T c E).1,(T c E).2.1,(T c E).2.2.1,(T c E).2.2.2.1⟩
 have PS:=f.mm.st.own hK fun c E=>(T c E).2.2.2.2;have L:D.ownsRow H.heap.size 107 1 t (a.map pv).length (a.map pv):=by simpa using Q
 obtain⟨q1,a1,c1,PT,PU,PV,PW,W,PX,_,_⟩:=PR.jP (e:=107) (v:=t) (xs:=a.map pv) (by decide) L f.mm.fd K;have PY:D.ownsRow H.heap.size 38 1 y xs.length xs:=eC f.er hK fun c e E=>by
  rcases E with⟨i,hi,rfl⟩|M
  ·obtain⟨_,_,_,_,_,x,V⟩:=f.mm.sg i (by omega)
   rw[f.ed _ e 2]at V;cases V
  ·exact kL (by decide) f.er f.mm.fr e M
 have X:∀c,y.ownBlock=some c→∀o,q1 c o=none:=fun c e o=>by
  rw[W c fun M=>kL (by decide) f.er f.mm.fr e M];exact f.ed c e o
 obtain⟨O,a2,c2,PZ,Y,P0,P1,P2,Qd,_,_⟩:=PV.jP (e:=38) (v:=y) (xs:=xs) (by decide) PY X K;have k:F.ownBlock≠some b:=fun e=>by have:=(n.row.lt _ e).2;omega
 have d:∀o,O b o=none:=fun o=>by
  rw[P2 b fun e=>by have:=(f.er.lt _ e).2;omega,W b fun e=>by have:=(f.mm.fr.lt _ e).2;omega];exact n.wb.kw.aJ hb o
 have z:Plain D b:=⟨_,_,l⟩
 have A:C.bb<b:=by omega
 have s:∀o x,(dJ t y true (.pointer none))[o]?=some x→D.cell? ⟨b,o,none⟩=some x:=fun o x h=>by simp[World.cell?,l,h]
 have P3:=P0.put (s 0 (.pointer none) rfl) z (d 0) A k (.inl (by decide));have P4:=P3.put (s 1 t rfl) z (by simp[Pm.put,d]) A k (.inl (by decide));have P5:=P4.put (s 2 y rfl) z (by simp[Pm.put,d]) A k (.inl (by decide));have P6:=P5.put (s 3 (.pointer none) rfl) z (by simp[Pm.put,d]) A k (.inl (by decide));have P7:=P6.put (s 5 (.bool true) rfl) z (by simp[Pm.put,d]) A k (.inl (by decide));have B:H.heap.size≤b:=by omega
 have k0:=Pm.eH (p:=O) (o:=0) (v:= .pointer none) (d 0) B;have k1:=Pm.eH (p:=O.put b 0 (.pointer none)) (o:=1) (v:=t) (by simp[Pm.put,d]) B;have k2:=Pm.eH (p:=(O.put b 0 (.pointer none)).put b 1 t) (o:=2) (v:=y) (by simp[Pm.put,d]) B;have k3:=Pm.eH (p:=((O.put b 0 (.pointer none)).put b 1 t).put b 2 y) (o:=3) (v:= .pointer none) (by simp[Pm.put,d]) B;have k5:=Pm.eH (p:=(((O.put b 0 (.pointer none)).put b 1 t).put b 2 y).put b 3 (.pointer none)) (o:=5) (v:= .bool true) (by simp[Pm.put,d]) B;have N:=(((k0.trans k1 (Nat.le_refl _)).trans k2 (Nat.le_refl _)).trans k3 (Nat.le_refl _)).trans k5 (Nat.le_refl _);have G:=(PU.trans Y (Nat.le_refl _)).trans N (Nat.le_refl _);have P8:=f.xl;refine⟨b,_,rfl,hb,(Array.getElem?_eq_some_iff.1 l).1,P7,PS.jO G,by simp[Pm.put],fX.congr (u:=u) ⟨by simp[Pm.put],⟨PO,a1,c1,fun i=>a.getD i 0,?_,?_,by omega,fun i hi=> ?_,fun i hi Qe=> ?_⟩,⟨a2,c2,fun i=>xs.getD i undef,?_,by omega,by omega,?_,fun i hi=> ?_,fun i j P9 hj hk=>f.df i j P9 (by omega) hj hk⟩,by simp[Pm.put],by simp[Pm.put]⟩ PM PN,by simp[Pm.put,d],s 6 _ rfl,by simp[World.frozen?,l]⟩
 ·rw[show Value.slice a1 u.m.toNat c1=t from(PT.trans (by simp[S])).symm];simp[Pm.put]
 ·rw[←S];simpa using PX
 ·obtain⟨b',o',e1,M⟩:=PW i (by simp;omega)
  refine⟨b',o',e1,N.le _ _ _ (Y.le _ _ _ ?_)⟩;rw[M];simp[List.getD,show i<a.length by omega]
 ·have h1:=R i (by rw[List.length_take];omega) (by omega)
  have h2:a.getD i 0=a[i]'(by omega):=by simp[List.getD,show i<a.length by omega]
  show dn _ _ _ (a.getD i 0)∧Pm.put _ _ _ _ (a.getD i 0) 0=_;rw[h2];refine⟨?_,G.le _ _ _ h1.2⟩;have:=h1.1.sub G.le (aH.refl I);simpa using this
 ·rw[show Value.slice a2 (u.es.length- u.m.toNat) c2=y from(PZ.trans (by rw[P8])).symm];simp[Pm.put]
 ·intro i hi
  obtain⟨b',o',e1,M⟩:=P1 i (by omega);exact⟨b',o',e1,N.le _ _ _ M⟩
 ·exact(f.nd i hi (by omega)).sub G.le (aH.refl I)
theorem Fx{C:BC}{v:U}{q:Pm}{s:Ge}{e:Value}{f:List Nat}{a:World}(hk:v.k=10)(d:v.es= [])(u:BS C q s e f a):
 ∃j,aP q j a.heap.size∧BS C j s e f ((((a.alloc (.cells #[.bool false,.nilIface] 220)).alloc (.cells #[.pointer (some ⟨a.heap.size,0,none⟩)] 218)).alloc (.cells #[.bool false,.slice none 0 0,.slice (some ⟨a.heap.size+1,0,none⟩) 1 1,.bool false] 133)).alloc
  (.cells (dJ (.slice none 0 0) (.slice none 0 0) true (.pointer (some ⟨a.heap.size+2,0,none⟩))) 113))∧j (a.heap.size+3) 0=some (.pointer none)∧j (a.heap.size+3) 5=some (.bool true)∧cY j s (a.heap.size+3) v:=by
 have h1:=u.box #[.bool false,.nilIface] 220;have h2:=h1.box #[.pointer (some ⟨a.heap.size,0,none⟩)] 218;have h3:=h2.box #[.bool false,.slice none 0 0,.slice (some ⟨a.heap.size+1,0,none⟩) 1 1,.bool false] 133;have y:=h3.box (dJ (.slice none 0 0) (.slice none 0 0) true (.pointer (some ⟨a.heap.size+2,0,none⟩))) 113;simp only[World.size_alloc]at h2 h3 y;have m:∀o k,q (a.heap.size+k) o=none:=fun o k=>u.wb.kw.aJ (by omega) o
 have t:=((((Pm.dC (p:=q) (b:=a.heap.size) (n:=a.heap.size) (cs:=#[.bool false,.nilIface]) (fun o=>m o 0) (Nat.le_refl _)).trans
  (Pm.dC (b:=a.heap.size+1) (n:=a.heap.size) (cs:=#[.pointer (some ⟨a.heap.size,0,none⟩)]) (fun o=>by rw[Pm.aO _ _ _ (by omega)];exact m o 1) (by omega)) (Nat.le_refl _)).trans
  (Pm.dC (b:=a.heap.size+2) (n:=a.heap.size) (cs:=#[.bool false,.slice none 0 0,.slice (some ⟨a.heap.size+1,0,none⟩) 1 1,.bool false]) (fun o=>by rw[Pm.aO _ _ _ (by omega),Pm.aO _ _ _ (by omega)];exact m o 2) (by omega)) (Nat.le_refl _))).trans
  (Pm.dC (b:=a.heap.size+3) (n:=a.heap.size) (cs:=dJ (.slice none 0 0) (.slice none 0 0) true (.pointer (some ⟨a.heap.size+2,0,none⟩))) (fun o=>by rw[Pm.aO _ _ _ (by omega),Pm.aO _ _ _ (by omega),Pm.aO _ _ _ (by omega)];exact m o 3) (by omega)) (Nat.le_refl _)
 have c:ai v= []:=by rw[jI hk];simp[dW,d,b7]
 have l:aZ v=false:=by rw[ns hk];simp[d]
 refine⟨_,t,y,by rw[Pm.aX];rfl,by rw[Pm.aX];rfl,a.heap.size+2,none,0,fun _=>0,some ⟨a.heap.size+1,0,none⟩,1,[none],false,by rw[Pm.aX];rfl,?_,?_,?_,?_,?_,?_,?_,by simp,by simp,⟨fun _=>a.heap.size,fun i hi=> ?_,fun i hi=> ?_⟩,?_,⟨.inl rfl,fun _=>⟨rfl,rfl⟩,fun h=> ?_,fun h=> ?_,?_⟩,fun h=> ?_,fun x h=> ?_⟩
 ·rw[Pm.aO _ _ _ (by omega),Pm.aX];rfl
 ·rw[Pm.aO _ _ _ (by omega),Pm.aX,c];rfl
 ·rw[c];exact Nat.le_refl _
 ·rw[c];simp
 ·rw[c];intro i hi;simp at hi
 ·rw[c];intro i hi;simp at hi
 ·rw[Pm.aO _ _ _ (by omega),Pm.aX];rfl
 ·have:i=0:=by simpa using hi
  subst this;exact⟨_,0,rfl,by rw[Pm.aO _ _ _ (by omega),Pm.aO _ _ _ (by omega),Pm.aX];rfl⟩
 ·have:i=0:=by simpa using hi
  subst this;show aY _ _ none a.heap.size;unfold aY;rw[Pm.aO _ _ _ (by omega),Pm.aO _ _ _ (by omega),Pm.aO _ _ _ (by omega),Pm.aX];rfl
 ·rw[Pm.aO _ _ _ (by omega),Pm.aX];rfl
 ·rw[l]at h;cases h
 ·cases h
 ·rw[pc hk];simp[d]
 ·cases h
 ·cases h;rfl
end TS
namespace Go.Proofs.YtdkmnkjhhhmglaaGreatDoor
open Go.RowKit TS
theorem Fy:(Tryz.prog.info? 107).map (fun i=>(i.zero,i.size,i.bytes))=some (some (.pointer none),1,8):=by kernel_rfl
theorem Fz:(Tryz.prog.info? 44).map (fun i=>(i.zero,i.size,i.bytes))=some (some (.pointer none),1,8):=by kernel_rfl
theorem FA:(Tryz.prog.info? 38).map (fun i=>(i.zero,i.size,i.bytes))=some (some .nilIface,1,16):=by kernel_rfl
theorem xw(C:BC)(u v:U)(Rq:v.m=u.m)(Qy:v.es=u.es)(hm:0≤u.m∧u.m.toNat≤u.es.length)(hS:∀k e,u.es[k]?=some e→k<u.m.toNat→e.k=7∧aM e.nm=true∧(0≤e.m∧e.m.toNat≤e.es.length)∧(e.v=true→0<e.m.toNat∧∃x,e.es[e.m.toNat- 1]?=some x∧x.k=4)∧∀x∈e.es,bZ C x)(hI:∀k e,u.es[k]?=some e→u.m.toNat≤k→bZ C e)(Qz:v.k=10)(QK:0<u.es.length→gd C.D.len v)(hO:dF (u.es.take u.m.toNat))(p:Pm)(g:Ge)(mv:Value)(ms:List Nat)(a:Option Addr)(c:Nat)(w:World)(hB:BS C p g mv ms w)(RR:ms.length+cn u≤1099511627776)(hu:ak C.pa C.D u a c):
 Calls Tryz.prog 90 #[.pointer (some ⟨C.bb,0,none⟩),.agg #[.int .i64 u.k,.int .i64 u.n,.int .i64 u.m,.bool u.v,.string u.nm,.string u.tg,.slice a u.es.length c]] w (bA C v p g mv ms w):=by
 have QL:=hu.cap;have RS:=QL.1;have QM:Hid (∀k e,u.es[k]?=some e→∃eb eo a' c',a=some ⟨eb,eo,none⟩∧dr C.pa eb (eo+k*7) e a' c'∧ak C.pa C.D e a' c'):=fun k e he=>by
  obtain⟨hk,rfl⟩:=List.getElem?_eq_some_iff.1 he;obtain⟨eb,eo,rfl⟩:=hu.list.bN (by omega);obtain⟨a',c',h7,P⟩:=hu.list.get k hk;exact⟨eb,eo,a',c',rfl,h7,P⟩
 have RJ:=(hB.ib (b:=C.bb) (.inl rfl)).2.1;have Qc:Below w.heap.size w (w.alloc (.cells #[.int .i64 u.k,.int .i64 u.n,.int .i64 u.m,.bool u.v,.string u.nm,.string u.tg,.slice a u.es.length c] 25)):=(Below.refl _ _).alloc (Nat.le_refl _) _;have QN:=Lib.hid (hB.below Qc);have Rr:=Lib.hid hB;have RV:u.es.length≤1048576:=by omega
 have RX:=Lib.hid hm;have Rs:=Lib.hid hI;have QO:=Lib.hid hS;have QP:0≤u.m:=hm.1;have Rt:u.m≤(c:Int):=by omega
 have Ru:u.m≤(u.es.length:Int):=by omega
 obtain⟨i0,Rv,QQ,QR,QS⟩:=info_parts Fy;have hh:(w.alloc (.cells #[.int .i64 u.k,.int .i64 u.n,.int .i64 u.m,.bool u.v,.string u.nm,.string u.tg,.slice a u.es.length c] 25)).heap[w.heap.size]?=some (.cells #[.int .i64 u.k,.int .i64 u.n,.int .i64 u.m,.bool u.v,.string u.nm,.string u.tg,.slice a u.es.length c] 25):=cV rfl;have Q:Hid ((w.alloc (.cells #[.int .i64 u.k,.int .i64 u.n,.int .i64 u.m,.bool u.v,.string u.nm,.string u.tg,.slice a u.es.length c] 25)).cell? ⟨w.heap.size,2,none⟩=some (.int .i64 u.m)∧(w.alloc (.cells #[.int .i64 u.k,.int .i64 u.n,.int .i64 u.m,.bool u.v,.string u.nm,.string u.tg,.slice a u.es.length c] 25)).cell? ⟨w.heap.size,6,none⟩=some (.slice a u.es.length c)):=by(repeat' apply And.intro)<;>(simp only[World.cell?,hh];rfl)
 obtain⟨V,hW⟩:∃V,Hid (V=w.alloc (.cells #[.int .i64 u.k,.int .i64 u.n,.int .i64 u.m,.bool u.v,.string u.nm,.string u.tg,.slice a u.es.length c] 25)):=⟨_,rfl⟩
 have RY:V.heap.size≤w.heap.size+1∧w.heap.size+1≤V.heap.size:=by rw[hW.out];simp
 rw[←hW.out]at QN Qc Q;have PW:C.bb<V.heap.size:=by omega
 have Qi:=Lib.hid Qc;clear hu hB Qc hm hI hh hS;generalize hn:u.es.length=n at*;have Qd:=Lib.hid hn;clear hn;generalize hz:u.m=z at Rt Ru QP⊢hW Q;obtain⟨m,rfl⟩:=Int.eq_ofNat_of_zero_le QP;have PX:=Lib.hid (show u.m.toNat=m by rw[hz];rfl);clear hz;have RZ:max (m:Int) 0=m:=by omega
 have R0:m≤n:=by omega
 go_enter Tryz.func90,Tryz.ntmps90;go_wp2_with fail
 go_loopw [18,5] (fun vk vf wr=> ∃(k:Nat)(q:Pm)(g':Ge)(Qe:Value)(PY fs:List Nat)(sb:Nat→Nat),k≤m∧vk= .int .i64 k∧fB C u p g mv ms V k q g' Qe PY fs sb vf wr∧wr.cell? ⟨w.heap.size,2,none⟩=some (.int .i64 m)∧wr.cell? ⟨w.heap.size,6,none⟩=some (.slice a n c)∧PY.length≤ms.length+aK (u.es.take k)) (fun vk _ _=>m- (intOf vk).toNat)
 case atStart=>
  obtain rfl:=hW.out;exact⟨0,p,g,mv,ms,[],fun _=>0,Nat.zero_le _,rfl,⟨QN.out,aD.refl _ _ _ _ _ _,fun b e=> .inl e,rfl,by simpa using World.ownsRow_nil _ _ _ _,fun b e=>(by cases e),fun i _ hi=>absurd hi (Nat.not_lt_zero _),fun i hi=>absurd hi (Nat.not_lt_zero _)⟩,Q.out.1,Q.out.2,Nat.le_add_right _ _⟩
 case round=>
  obtain⟨k,q,g',Qe,PY,fs,sb,R1,rfl,hM,t2,t6,Qf⟩:=hrel;have Rw:=World.block_lt_of_cell? _ _ t2;simp only at Rw;have l:=Lib.hid hM;obtain⟨fa,fc,rfl⟩:=bn hM.fr;clear hM;by_cases Rx:k<m
  ·have QT:(k:Int)<m:=by omega
   obtain⟨e,I⟩:∃e,u.es[k]?=some e:=⟨_,List.getElem?_eq_getElem (by have:=Qd.out;omega)⟩
   obtain⟨eb,eo,a',c',rfl,h7,P⟩:=QM.out k e I;obtain⟨e7,_,em,ev,eI⟩:=QO.out k e I (by have:=PX.out;omega);obtain⟨z0,z1,z2,z3,z4,z5,z6⟩:TS.C7 wr eb (eo+k*7) e a' c':=h7.world l.out.bs.ka;have QU:eb<wr.heap.size:=l.out.bs.ka.lt h7.1;have X:Below wr.heap.size wr ((wr.alloc (.cells #[.int .i64 e.k,.int .i64 e.n,.int .i64 e.m,.bool e.v,.string e.nm,.string e.tg,.slice a' e.es.length c'] 25)).drew):=((Below.refl _ _).alloc (Nat.le_refl _) _).drew;have hT:=Lib.hid (pq C e none e7 em ev eI q g' Qe PY a' c' _ (l.out.bs.below X) (by have:=pn I;omega) P);have R:=Lib.hid I;have QV:=Lib.hid e7;have E:=Lib.hid X;have Qj:=l.out.bs.c0;have Qk:g'.pk=g.pk:=l.out.st.gs.pk;rw[Qk]at Qj;have QW:=World.block_lt_of_cell? _ _ Qj;simp only at QW;clear h7 P I X e7 em ev eI;go_wp2_with fail
   refine oR (fun W=>(W.cell? ⟨C.bb,0,none⟩=some (ptr g.pk)∧W.cell? ⟨w.heap.size,2,none⟩=some (.int .i64 m)∧W.cell? ⟨w.heap.size,6,none⟩=some (.slice (some ⟨eb,eo,none⟩) n c))∧(W.cell? ⟨wr.heap.size,0,none⟩=some (.int .i64 e.k)∧W.cell? ⟨wr.heap.size,1,none⟩=some (.int .i64 e.n)∧W.cell? ⟨wr.heap.size,2,none⟩=some (.int .i64 e.m)∧W.cell? ⟨wr.heap.size,3,none⟩=some (.bool e.v)∧W.cell? ⟨wr.heap.size,4,none⟩=some (.string e.nm)∧W.cell? ⟨wr.heap.size,5,none⟩=some (.string e.tg)∧W.cell? ⟨wr.heap.size,6,none⟩=some (.slice a' e.es.length c'))) [(0,true),(1,true),(2,true),(3,true),(4,true),(5,true),(6,true),(7,true),(8,true),(9,false),(10,false),(11,false),(12,false),(13,true)] (by(repeat' apply And.intro)<;>first|(simp[go_sem];done)|(go_keep;done)) (fun F=> ?_);repeat((first|refine oS ?_|refine oF F ?_);try simp only[Act.put,oa,ob,oc])
   refine oL fun K hK=> ?_;go_simp;go_at_call 88
   refine hT.out.mono ?_;rintro e1 J ⟨s,q1,g1,QX,QY,rfl,PU,Y,H,PZ,hs,QZ,Q3,P0,Ry⟩;have Ql:J.cell? ⟨C.bb,0,none⟩=some (ptr g.pk):=by
    have h1:=Y.c0;rwa [H.gs.pk,Qk]at h1
   have Qm:=(jc l.out.bs E.out.size H).2;have Q4:∀o v,((wr.alloc (.cells #[.int .i64 e.k,.int .i64 e.n,.int .i64 e.m,.bool e.v,.string e.nm,.string e.tg,.slice a' e.es.length c'] 25)).drew).cell? ⟨w.heap.size,o,none⟩=some v→J.cell? ⟨w.heap.size,o,none⟩=some v:=fun o v h=>by
    rw[H.kept.cell (World.block_lt_of_cell? _ _ h) fun e=> ?_]
    ·exact h
    ·rcases e with(e:w.heap.size=C.bb)|e
     ·omega
     ·rcases l.out.om _ e with e|e
      ·have:=(Rr.out.ib (b:=w.heap.size) (.inr e)).2.1;omega
      ·have e':V.heap.size≤w.heap.size:=e
       omega
   obtain⟨⟨_,p2,p6⟩,s0,s1,s2,s3,s4,s5,s6⟩:=F;(try simp only[]);refine hK _ _ (by(repeat' apply And.intro)<;>first|exact Ql|exact Qm _ _ _ (Nat.le_refl _) (by assumption)|exact Q4 _ _ (by assumption)) fun F=> ?_;clear hK K;try simp only[Act.put,oa,ob,oc]
   clear s0 s1 s2 s3 s4 s5 s6 p2 p6 Q4;have R2:wr.heap.size<J.heap.size:=by
    have:=H.size;simp at this;omega
   have RK:=(Y.ib (b:=C.bb) (.inl rfl)).2.1;have Rz:V.heap.size<J.heap.size:=by have:=l.out.st.size;omega
   have QA:(Value.slice fa fs.length fc).ownBlock≠some C.bb∧(Value.slice fa fs.length fc).ownBlock≠some wr.heap.size∧(Value.slice fa fs.length fc).ownBlock≠some w.heap.size:=⟨fun e=>by have:=(l.out.fr.lt _ e).1;omega,fun e=>by have:=(l.out.fr.lt _ e).2;omega,fun e=>by have:=(l.out.fr.lt _ e).1;omega⟩
   have P1:=Lib.hid (show fs.length=k from l.out.fl);have PS:=Lib.hid (show ∀j u,[Value.pointer (some ⟨J.heap.size,0,none⟩)][j]?=some u→((J.alloc (.cells #[.int .i64 0,.pointer (some ⟨g.pk,0,none⟩),.string e.nm,ae 102 s,.bool false,.bool false] 195)).alloc (.cells #[.pointer (some ⟨J.heap.size,0,none⟩)] 107)).cell? ((⟨J.heap.size+1,0,none⟩:Addr).add j)=some u from fun j u h=>by
    have h1:=TS.eD (J.alloc (.cells #[.int .i64 0,.pointer (some ⟨g.pk,0,none⟩),.string e.nm,ae 102 s,.bool false,.bool false] 195)) (.pointer (some ⟨J.heap.size,0,none⟩)) 107 j u h;rwa [show(J.alloc (.cells #[.int .i64 0,.pointer (some ⟨g.pk,0,none⟩),.string e.nm,ae 102 s,.bool false,.bool false] 195)).heap.size=J.heap.size+1 by simp]at h1)
   have PT:=Lib.hid ((((aD.row (l.out.bs.below E.out) H (by decide) (bO l.out.fr E.out) PW l.out.fd).1).alloc (.cells #[.int .i64 0,.pointer (some ⟨g.pk,0,none⟩),.string e.nm,ae 102 s,.bool false,.bool false] 195)).alloc (.cells #[.pointer (some ⟨J.heap.size,0,none⟩)] 107));have P2:=Lib.hid Y;have P3:=Lib.hid H;have P4:=Lib.hid PU;have P5:=Lib.hid PZ;have Qg:=Lib.hid (And.intro hs (And.intro QZ (And.intro Q3 P0)));clear Y H PU PZ Ql Qm hT hs QZ Q3 P0;repeat((first|refine oS ?_|refine oF F ?_);try simp only[Act.put,oa,ob,oc])
   refine oL fun K hK=> ?_;go_simp;go_at_call 73
   refine(oJ _ _ _ _ _).mono ?_;rintro e2 w2 ⟨rfl,rfl⟩;obtain⟨⟨_,p2,p6⟩,s0,s1,s2,s3,s4,s5,s6⟩:=F;(try simp only[]);refine hK _ _ (by(repeat' apply And.intro)<;>exact ar ((Below.refl _ _).alloc (Nat.le_refl _) _) (by assumption)) fun F=> ?_;clear hK K;try simp only[Act.put,oa,ob,oc]
   clear s0 s1 s2 s3 s4 s5 s6 p2 p6;repeat((first|refine oS ?_|refine oF F ?_);try simp only[Act.put,oa,ob,oc])
   refine oL fun K hK=> ?_;go_simp;obtain⟨⟨_,p2,p6⟩,s0,s1,s2,s3,s4,s5,s6⟩:=F;(try simp only[]);refine hK _ _ (by(repeat' apply And.intro)<;>exact ar ((Below.refl _ _).alloc (Nat.le_refl _) _) (by assumption)) fun F=> ?_;clear hK K;try simp only[Act.put,oa,ob,oc]
   repeat((first|refine oS ?_|refine oF F ?_);try simp only[Act.put,oa,ob,oc])
   refine fp rfl (by rfl) (fun K hK=> ?_);refine lK _ _ 109 rfl V.heap.size 107 i0 (.pointer none) 1 8 Tryz.underlying109 Rv QQ QR QS rfl (by decide) (.slice fa fs.length fc) fs.length (fs.map pv) rfl PT.out ⟨J.heap.size+1,0,none⟩ 1 1 [.pointer (some ⟨J.heap.size,0,none⟩)] rfl rfl PS.out (TS.one_one rfl) ?c3 ?c4 ?c5 ?_
   case c3=>have:=P1.out;unfold maxLen;omega
   case c4=>have:=P1.out;omega
   case c5=>(try simp);omega
   intro R4 w3 A PV _ P6;have Qh:∀b o v,(Value.slice fa fs.length fc).ownBlock≠some b→((J.alloc (.cells #[.int .i64 0,.pointer (some ⟨g.pk,0,none⟩),.string e.nm,ae 102 s,.bool false,.bool false] 195)).alloc (.cells #[.pointer (some ⟨J.heap.size,0,none⟩)] 107)).cell? ⟨b,o,none⟩=some v→w3.cell? ⟨b,o,none⟩=some v:=fun b o v hb h=>by
    rw[((Kept.refl (fun b=>(Value.slice fa fs.length fc).ownBlock=some b) _).grown PV fun k hk _=>hk).cell (World.block_lt_of_cell? _ _ h) hb];exact h
   obtain⟨⟨_,p2,p6⟩,s0,s1,s2,s3,s4,s5,s6⟩:=F;(try simp only[]);refine hK _ _ (by(repeat' apply And.intro)<;>first|exact Qh _ _ _ QA.1 (by assumption)|exact Qh _ _ _ QA.2.1 (by assumption)|exact Qh _ _ _ QA.2.2 (by assumption)) fun F=> ?_;clear hK K;try simp only[Act.put,oa,ob,oc]
   clear s0 s1 s2 s3 s4 s5 s6 p2 p6 Qh;repeat((first|refine oS ?_|refine oF F ?_);try simp only[Act.put,oa,ob,oc])
   refine ch ?_;obtain⟨⟨_,p2,p6⟩,_⟩:=F;obtain⟨a3,c3,rfl⟩:=bn A;have L:=Lib.hid (fB.step (pk:=some ⟨g.pk,0,none⟩) l.out PW R.out QV.out E.out P4.out P2.out P3.out P5.out Qg.out.1 Qg.out.2.1 Qg.out.2.2.1 Qg.out.2.2.2 A PV (P6.imp id fun h=>h.trans (by simp)));clear PV A P6;go_wp2_with fail
   exact⟨⟨k+1,_,g1,QX,QY,_,_,by omega,by go_num,L.out,p2,p6,by have:=gi R.out;omega⟩,by first|omega|(simp[intOf];omega)⟩
  ·have RA:¬(k:Int)<m:=by omega
   obtain rfl:k=m:=by omega
   have R5:k≤c:=by omega
   go_upto_region 8 with fail
   go_cut [40,41,42] (fun v40 v41 RC wx=>wx=wr∧∃sl cc,v40= .slice sl (n- k) cc∧v41= .int .i64 ((n- k:Nat):Int)∧RC= .int .i64 0∧∀j e,u.es[k+j]?=some e→∃eb eo a' c',sl=some ⟨eb,eo,none⟩∧dr C.pa eb (eo+j*7) e a' c'∧ak C.pa C.D e a' c')
   case first=>
    rcases Qf:(decide (k<c))with _|_
    ·have Q5:¬k<c:=by simp at Qf;omega
     have Qn:¬(k:Int)<(c:Int):=by omega
     go_wp2_with fail
     go_meet
     exact⟨rfl,_,_,rfl,rfl,rfl,fun j e he=>absurd (List.getElem?_eq_some_iff.1 he).1 (by have:=Qd.out;omega)⟩
    ·have Q5:k<c:=by simpa using Qf
     have Qn:(k:Int)<(c:Int):=by omega
     go_wp2_with fail
     go_meet
     refine⟨rfl,_,_,rfl,rfl,rfl,fun j e he=> ?_⟩;obtain⟨eb,eo,a',c',rfl,h7,P⟩:=QM.out _ _ he;exact⟨eb,eo+k*7,a',c',by simp[Addr.add],by rw[show eo+k*7+j*7=eo+(k+j)*7 by omega];exact h7,P⟩
   case rest=>
    obtain⟨rfl,sl,cc,rfl,rfl,rfl,Qo⟩:=hcut;have QB:=Lib.hid l.out;obtain⟨i1,RD,RE,RF,RG⟩:=info_parts FA;have QC:=Lib.hid Qo;clear Qo l;go_wp2_with fail
    go_loopw [42,8] (fun vj ve wz=> ∃(j:Nat)(q2:Pm)(g2:Ge)(QD:Value)(d:List Nat)(xs:List Value),j≤n- k∧vj= .int .i64 j∧kO C u p g mv ms V j q2 g2 QD d fs sb (.slice fa fs.length fc) xs ve wz∧d.length≤ms.length+aK (u.es.take (k+j))) (fun vj _ _=>n- k- (intOf vj).toNat)
    case atStart=>
     exact⟨0,q,g',Qe,PY,[],Nat.zero_le _,rfl,⟨by have h:=QB.out;rw[←PX.out]at h;exact h,rfl,World.ownsRow_nil _ _ _ _,fun b e=>(by cases e),fun i _ hi=>absurd hi (Nat.not_lt_zero _),fun i j _ hi=>absurd hi (Nat.not_lt_zero _)⟩,Qf⟩
    case round=>
     obtain⟨j,q2,g2,QD,d,xs,R6,rfl,hE,Qn⟩:=hrel;have f:=Lib.hid hE;obtain⟨ea,ec,rfl⟩:=bn hE.er;clear hE;by_cases Rx:j<n- k
     ·have QT:(j:Int)<((n- k:Nat):Int):=by omega
      obtain⟨e,I⟩:∃e,u.es[k+j]?=some e:=⟨_,List.getElem?_eq_getElem (by have:=Qd.out;omega)⟩
      obtain⟨eb,eo,a',c',rfl,h7,P⟩:=QC.out j e I;have Qp:=Rs.out _ e I (by have:=PX.out;omega);obtain⟨z0,z1,z2,z3,z4,z5,z6⟩:TS.C7 wr eb (eo+j*7) e a' c':=h7.world f.out.mm.bs.ka;have QU:eb<wr.heap.size:=f.out.mm.bs.ka.lt h7.1;have X:Below wr.heap.size wr (wr.alloc (.cells #[.int .i64 e.k,.int .i64 e.n,.int .i64 e.m,.bool e.v,.string e.nm,.string e.tg,.slice a' e.es.length c'] 25)):=(Below.refl _ _).alloc (Nat.le_refl _) _;have Q6:=Lib.hid (Qp q2 g2 QD d a' c' _ (f.out.mm.bs.below X) (by have:=pn I;omega) P);have R:=Lib.hid I;have E:=Lib.hid X;clear h7 P I X Qp;go_wp2_with fail
      refine Q6.out.mono ?_;rintro e1 J ⟨x,q1,g1,QX,QY,rfl,PU,Y,H,PZ,Q7,Ry⟩;obtain⟨xt,xb,rfl⟩:=PU.val;have Rz:V.heap.size≤J.heap.size:=by have:=E.out.size;have:=H.size;have:=f.out.mm.st.size;omega
      have PT:=Lib.hid (((aD.row (f.out.mm.bs.below E.out) H (by decide) (bO f.out.er E.out) PW f.out.ed).1).alloc (.cells #[ae xt xb] 38));have PS:=Lib.hid (show ∀j u,[ae xt xb][j]?=some u→(J.alloc (.cells #[ae xt xb] 38)).cell? ((⟨J.heap.size,0,none⟩:Addr).add j)=some u from TS.eD J (ae xt xb) 38);have P7:=Lib.hid (show xs.length=j from f.out.xl);have P2:=Lib.hid Y;have P3:=Lib.hid H;have P4:=Lib.hid PU;have P5:=Lib.hid PZ;have Q8:=Lib.hid Q7;clear Y H PU PZ Q6 Q7;go_wp2_with (first|(at_builtin;refine wpList_append_own_at _ rfl _ _ 110 rfl V.heap.size 38 i1 .nilIface 1 16 Tryz.underlying110 RD RE RF RG rfl (by decide) (.slice ea xs.length ec) xs.length xs rfl PT.out ⟨J.heap.size,0,none⟩ 1 1 [ae xt xb] rfl rfl PS.out (TS.one_one rfl) ?c3 ?c4 ?c5 ?_)|fail)
      case c3=>have:=P7.out;unfold maxLen;omega
      case c4=>have:=P7.out;omega
      case c5=>(try simp);omega
      intro R7 w3 A PV _ P6;obtain⟨a3,c3,rfl⟩:=bn A;have L:=Lib.hid (kO.step (e:=e) f.out PW (by rw[PX.out];exact R.out) E.out P4.out P2.out P3.out P5.out Q8.out A PV (P6.imp id fun h=>h.trans (by simp)));clear A PV P6 PT PS;go_wp2_with fail
      exact⟨⟨j+1,_,_,_,_,_,by omega,by go_num,L.out,by have h:=gi R.out;rw[Nat.add_assoc]at h;omega⟩,by first|omega|(simp[intOf];omega)⟩
     ·have RA:¬(j:Int)<((n- k:Nat):Int):=by omega
      obtain rfl:j=n- k:=by omega
      have QE:u.m.toNat=k:=PX.out;have hlen:=Qd.out;have t:=f.out.mm.bs;obtain⟨ma,mc,rfl⟩:=bn t.row;have Q9:cn v=1+aK u.es:=by rw[cW,Qy]
      have QF:d.length+1≤ms.length+cn v:=by
       have:=jM u.es (k+(n- k));omega
      have QG:d.length≤1099511627776:=by have:=cW u;omega
      have M:=Lib.hid (And.intro QF QG);obtain⟨i2,Q_,Ra,Rb,Rc⟩:=info_parts Fz;have P1:fs.length=k:=by have:=f.out.mm.fl;omega
      have P7:xs.length=n- k:=f.out.xl;have QH:=Lib.hid (show kO C u p g mv ms V (u.es.length- u.m.toNat) q2 g2 (.slice ma d.length mc) d fs sb (.slice fa fs.length fc) xs (.slice ea xs.length ec) wr by rw[QE,hlen];exact f.out);have RM:V.heap.size≤wr.heap.size:=f.out.mm.st.size;have Qq:=Lib.hid (show ∀c∈d,c<wr.heap.size from fun c e=>(t.mlt c e).1);have Qr:=Lib.hid (show ∀c u,g2.G c=some u→c<wr.heap.size from fun c u e=>(t.ifs c u e).1);have Qs:=Lib.hid (show ∀b,wr.heap.size≤b→(Value.slice ma d.length mc).ownBlock≠some b from fun b hb e=>by have:=(t.row.lt _ e).2;omega);have Qt:=Lib.hid f.out.mm.om;have R8:=t.gv;have RN:=t.bl;rcases Nat.eq_zero_or_pos (fs.length+xs.length)with hz|Re
      ·have P0:fs.length=0:=by omega
       have Qu:xs.length=0:=by omega
       have Rg:v.es= []:=by rw[Qy];exact List.eq_nil_of_length_eq_zero (by omega)
       obtain⟨q4,Rh,r,P8,Ri,Rj⟩:=Fx Qz Rg t;have N:=f.out.mm.st.grow (((((Below.refl _ _).alloc (Nat.le_refl _) (.cells #[.bool false,.nilIface] 220)).alloc (by simp) (.cells #[.pointer (some ⟨wr.heap.size,0,none⟩)] 218)).alloc (by simp;omega) (.cells #[.bool false,.slice none 0 0,.slice (some ⟨wr.heap.size+1,0,none⟩) 1 1,.bool false] 133)).alloc (by simp;omega) (.cells (dJ (.slice none 0 0) (.slice none 0 0) true (.pointer (some ⟨wr.heap.size+2,0,none⟩))) 113)) Rh;have P9:=Lib.hid (Br fa ea fc ec wr);have Qv:((((wr.alloc (.cells #[.bool false,.nilIface] 220)).alloc (.cells #[.pointer (some ⟨wr.heap.size,0,none⟩)] 218)).alloc (.cells #[.bool false,.slice none 0 0,.slice (some ⟨wr.heap.size+1,0,none⟩) 1 1,.bool false] 133)).alloc (.cells (dJ (.slice none 0 0) (.slice none 0 0) true (.pointer (some ⟨wr.heap.size+2,0,none⟩))) 113)).heap.size=wr.heap.size+4:=by simp
       have y:=Lib.hid (And.intro P8 (And.intro Ri Rj));rw[P0,Qu];clear QH f QB P8 Ri Rj t P0 Qu Q9 QF P1 P7 QE hlen;go_wp2_with fail
       refine P9.out.mono ?_;rintro e5 O ⟨rfl,Rk⟩;rw[←Rk]at r N Qv;have RH:wr.heap.size+4≤O.heap.size:=by omega
       clear Rk Qv P9;have Z:=Lib.hid (r.row.alloc (.cells #[.pointer (some ⟨wr.heap.size+3,0,none⟩)] 44));have PM:=Lib.hid (show ∀j u,[Value.pointer (some ⟨wr.heap.size+3,0,none⟩)][j]?=some u→(O.alloc (.cells #[.pointer (some ⟨wr.heap.size+3,0,none⟩)] 44)).cell? ((⟨O.heap.size,0,none⟩:Addr).add j)=some u from TS.eD O (.pointer (some ⟨wr.heap.size+3,0,none⟩)) 44);have y4:=r.c4;have P_:=r.f4;have S:=World.block_lt_of_cell? _ _ y4;simp only at S;have QI:C.B0≤O.heap.size:=by have:=r.bl;omega
       have T:(Value.slice ma d.length mc).ownBlock≠some C.bb:=fun e=>(r.rd _ e).1 rfl;have Qa:=Lib.hid r;have PN:=Lib.hid N;clear r N;go_wp2_with (first|(at_builtin;refine wpList_append_own_at _ rfl _ _ 61 rfl C.B0 44 i2 (.pointer none) 1 8 Tryz.underlying61 Q_ Ra Rb Rc rfl (by decide) (.slice ma d.length mc) d.length (d.map pv) rfl Z.out ⟨O.heap.size,0,none⟩ 1 1 [.pointer (some ⟨wr.heap.size+3,0,none⟩)] rfl rfl PM.out (TS.one_one rfl) ?c3 ?c4 ?c5 ?_)|fail)
       case c3=>have:=M.out.2;unfold maxLen;omega
       case c4=>have:=M.out.2;omega
       case c5=>(try simp);omega
       intro v6 w6 B PO _ Qb;obtain⟨a6,QJ,rfl⟩:=bn B;have PQ:Kept (fun c=>(Value.slice ma d.length mc).ownBlock=some c) (O.alloc (.cells #[.pointer (some ⟨wr.heap.size+3,0,none⟩)] 44)) w6:=(Kept.refl _ _).grown PO fun k hk _=>hk;have PR:Below O.heap.size O (O.alloc (.cells #[.pointer (some ⟨wr.heap.size+3,0,none⟩)] 44)):=(Below.refl _ _).alloc (Nat.le_refl _) _;have x4:w6.cell? ⟨C.bb,4,none⟩=some (.slice ma d.length mc):=by rw[PQ.cell (by simp;omega) T];exact ar PR y4
       have RI:w6.frozen? ⟨C.bb,4,none⟩=false:=by rw[PQ.frozen (by simp;omega) T];exact TS.frozen_kept PR S P_
       have L:Hid (bA C v p g mv ms w (.returned (ae 44 (wr.heap.size+3))) (w6.setCell ⟨C.bb,4,none⟩ (.slice a6 (d.length+1) QJ))):=bA.ahead Qi.out (xu Qz PN.out Qa.out Qt.out (fun c u e=>Nat.lt_of_lt_of_le (Qr.out c u e) (by omega)) (by omega) (fun c e=>Nat.lt_of_lt_of_le (Qq.out c e) (by omega)) (by omega) (by omega) (Qs.out _ (by omega)) y.out.1 y.out.2.1 (.inl y.out.2.2) M.out.1 PO B (Qb.imp id fun h=>h.trans (by simp)));clear B PO Qb PQ PR y4 P_;go_wp2_with fail
       go_ret;exact L.out
      ·have Rl:=Lib.hid (Ez q2 g2 V.heap.size (u.es.take u.m.toNat) fs sb (.slice fa fs.length fc) ea xs.length ec wr t.wb f.out.mm.fr (by rw[List.length_take];omega) (fun i h h'=>by
        have hi:i<u.es.length:=by rw[List.length_take]at h;omega
        obtain⟨h1,h2⟩:=f.out.mm.fa i hi (by omega);rw[show fs.getD i 0=fs[i] by simp[List.getD,h']]at h1 h2;rw[List.getElem_take];exact⟨h1,h2⟩) (fun i h=>by
        obtain⟨h1,h2,h3,h4,h5,x,h6⟩:=f.out.mm.sg i (by omega);rw[show fs.getD i 0=fs[i] by simp[List.getD,h]]at h1;exact⟨h1,⟨none,h2⟩,h3,h4,by omega,fun e=>by rw[f.out.mm.fd _ e 2]at h6;cases h6⟩) (fun x hx=>by
        obtain⟨j,hj,rfl⟩:=List.getElem_of_mem hx;rw[List.length_take]at hj;rw[List.getElem_take];exact(QO.out j _ (List.getElem?_eq_getElem (by omega)) (by omega)).2.1) hO f.out.mm.fd (by omega) (by omega) Re)
       have Rm:=Lib.hid (QK (by omega));have Qw:=Lib.hid (show u.m.toNat≤u.es.length∧u.es.length≤1048576 by omega);clear f QB t Q9 QF P1 P7 QE hlen QK;go_wp2_with fail
       refine Rl.out.mono ?_;rintro e5 O hR;obtain⟨b,q5,rfl,R9,RP,r,N,P8,Qx,Rn,Ro,Rp⟩:=Fw Rq Qy Qw.out.1 Qw.out.2 QH.out PW hR;have y:=Lib.hid (And.intro P8 (And.intro Qx (And.intro Rn (And.intro Ro Rp))));clear hR P8 Qx Rn Ro Rp Rl QH;have Z:=Lib.hid (r.row.alloc (.cells #[.pointer (some ⟨b,0,none⟩)] 44));have PM:=Lib.hid (show ∀j u,[Value.pointer (some ⟨b,0,none⟩)][j]?=some u→(O.alloc (.cells #[.pointer (some ⟨b,0,none⟩)] 44)).cell? ((⟨O.heap.size,0,none⟩:Addr).add j)=some u from TS.eD O (.pointer (some ⟨b,0,none⟩)) 44);have y4:=r.c4;have P_:=r.f4;have S:=World.block_lt_of_cell? _ _ y4;simp only at S;have QI:C.B0≤O.heap.size:=by have:=r.bl;omega
       have T:(Value.slice ma d.length mc).ownBlock≠some C.bb:=fun e=>(r.rd _ e).1 rfl;have Qa:=Lib.hid r;have PN:=Lib.hid N;clear r N;go_wp2_with (first|(at_builtin;refine wpList_append_own_at _ rfl _ _ 61 rfl C.B0 44 i2 (.pointer none) 1 8 Tryz.underlying61 Q_ Ra Rb Rc rfl (by decide) (.slice ma d.length mc) d.length (d.map pv) rfl Z.out ⟨O.heap.size,0,none⟩ 1 1 [.pointer (some ⟨b,0,none⟩)] rfl rfl PM.out (TS.one_one rfl) ?c3 ?c4 ?c5 ?_)|fail)
       case c3=>have:=M.out.2;unfold maxLen;omega
       case c4=>have:=M.out.2;omega
       case c5=>(try simp);omega
       intro v6 w6 B PO _ Qb;obtain⟨a6,QJ,rfl⟩:=bn B;have PQ:Kept (fun c=>(Value.slice ma d.length mc).ownBlock=some c) (O.alloc (.cells #[.pointer (some ⟨b,0,none⟩)] 44)) w6:=(Kept.refl _ _).grown PO fun k hk _=>hk;have PR:Below O.heap.size O (O.alloc (.cells #[.pointer (some ⟨b,0,none⟩)] 44)):=(Below.refl _ _).alloc (Nat.le_refl _) _;have x4:w6.cell? ⟨C.bb,4,none⟩=some (.slice ma d.length mc):=by rw[PQ.cell (by simp;omega) T];exact ar PR y4
       have RI:w6.frozen? ⟨C.bb,4,none⟩=false:=by rw[PQ.frozen (by simp;omega) T];exact TS.frozen_kept PR S P_
       have L:Hid (bA C v p g mv ms w (.returned (ae 44 b)) (w6.setCell ⟨C.bb,4,none⟩ (.slice a6 (d.length+1) QJ))):=bA.ahead Qi.out (xu Qz PN.out Qa.out Qt.out (fun c u e=>Nat.lt_of_lt_of_le (Qr.out c u e) (by omega)) (by omega) (fun c e=>Nat.lt_of_lt_of_le (Qq.out c e) (by omega)) (by omega) (by omega) (Qs.out _ (by omega)) y.out.1 y.out.2.1.cm (.inr ⟨y.out.2.1,Rm.out,y.out.2.2.1,y.out.2.2.2.1,y.out.2.2.2.2⟩) M.out.1 PO B (Qb.imp id fun h=>h.trans (by simp)));clear B PO Qb PQ PR y4 P_;go_wp2_with fail
       go_ret;exact L.out
end Go.Proofs.YtdkmnkjhhhmglaaGreatDoor
