import Derived.Test.YtkochlhejabdcaaGreatDoorYbs
set_option maxRecDepth 100000
set_option maxHeartbeats 8000000
set_option linter.all false
namespace TS
open Go Go.RowKit Go.Proofs.YtkochlhejabdcaaGreatDoor Go.Proofs.Tryz
structure dL(C:BC)(p:Pm)(g:Ge)(w:World)(i k:Nat)(aI:Nat→ByteArray)(v:Value)(fs:List Nat):Prop where
 fl:fs.length=k
 c9:Xc w (g.nb i) 9 v
 f9:w.frozen? (Xa (g.nb i) 9)=false
 d9:p (g.nb i) 9=none
 d0:p (g.nb i) 0=none
 row:w.ownsRow (C.bb+1) 113 1 v fs.length (fs.map pv)
 rd:∀b,v.ownBlock=some b→∀o,p b o=none
 nm:∀j,j<k→p (fs.getD j 0) 2=some (.string (aI j))
section
variable {C:BC} {p q r:Pm} {g g1 g2:Ge} {mv mv1:Value} {ms ms1 ms2:List Nat} {w w1 w2:World} {i k:Nat} {aI:Nat→ByteArray} {v:Value} {fs:List Nat}
theorem dL.below(h:dL C p g w i k aI v fs)(a:Below w w w1):dL C p g w1 i k aI v fs:=
 ⟨h.fl,az a h.c9,TS.frozen_kept a (zb h.c9) h.f9,h.d9,h.d0,bw h.row a,h.rd,h.nm⟩
theorem dL.grow(h:dL C p g w i k aI v fs)(f:Below w w w1)(c:aN p q w):dL C q g w1 i k aI v fs:=by
 have l:=zb h.c9;simp only at l;have d:∀o,p (g.nb i) o=none→q (g.nb i) o=none:=fun o e=>by
  cases m:q (g.nb i) o with
  |none=>rfl
  |some x=>
   rcases c.new _ _ _ m with a|a
   ·rw[e]at a;cases a
   ·omega
 have a:=h.below f;exact⟨h.fl,a.c9,a.f9,d 9 h.d9,d 0 h.d0,a.row,fun b e o=>c.aF (h.row.lt _ e).2 (h.rd b e) o,fun j n=>c.le _ _ _ (h.nm j n)⟩
theorem dL.step(h:dL C p g w i k aI v fs)(f:BS C p g mv ms w)(hi:i<g.len)(c:aG C p g mv ms w q g1 ms1 w1):dL C q g1 w1 i k aI v fs:=by
 have l:=zb h.c9;simp only at l;have n:¬(g.nb i=C.bb∨mv.ownBlock=some (g.nb i)):=fun e=>by
  have:=(f.ib (b:=g.nb i) (e.imp Eq.symm id)).2.2 1;rw[f.nm i hi]at this;cases this
 have s:∀o,p (g.nb i) o=none→q (g.nb i) o=none:=fun o e=>by
  cases t:q (g.nb i) o with
  |none=>rfl
  |some x=>
   rcases c.gr.new _ _ _ t with m|m
   ·rw[e]at m;cases m
   ·omega
 have a:=aG.row f c zd h.row zo h.rd;have d:=c.gs.nb;refine⟨h.fl,?_,?_,?_,?_,a.1,a.2,fun j u=>c.gr.le _ _ _ (h.nm j u)⟩
 ·rw[d,c.kept.cell l n];exact h.c9
 ·rw[d,c.kept.frozen l n];exact h.f9
 ·rw[d];exact s 9 h.d9
 ·rw[d];exact s 0 h.d0
end
def lJ(C:BC)(p:Pm)(g:Ge)(mv:Value)(ms:List Nat)(N:Nat)(i k:Nat)(aI:Nat→ByteArray)(v:Value)(w:World)(e:Ending)(f:World):Prop:=
 e= .returned (.tuple #[])∧∃q h a d l j,BS C q h a d f∧dL C q h f i (k+1) aI l j∧aN p q w∧aK g h∧Kept (fun c=>c=C.bb∨mv.ownBlock=some c∨c=g.nb i∨v.ownBlock=some c) w f∧(∀b,a.ownBlock=some b→mv.ownBlock=some b∨w.heap.size≤b)∧(∀b,l.ownBlock=some b→v.ownBlock=some b∨w.heap.size≤b)∧d.length≤ms.length+N
theorem xC{C:BC}{p q:Pm}{g g1:Ge}{mv mv1:Value}{ms ms1:List Nat}{i k:Nat}{aI:Nat→ByteArray}{v A:Value}{fs:List Nat}{w G w1 m:World}{nm:ByteArray}{pk:Option Addr}{s:Nat}(hi:i<g.len)(hB:BS C p g mv ms w)(B:Below w w G)(H:aN p q G)(t:aK g g1)(Y:Kept (fun c=>c=C.bb∨mv.ownBlock=some c) G w1)(u:BS C q g1 mv1 ms1 w1)(I:∀b,mv1.ownBlock=some b→mv.ownBlock=some b∨w.heap.size≤b)(hM:dL C q g1 w1 i k aI v fs)(J:aI k=nm)
 (D:Xc m (g1.nb i) 9 A)(hf:m.frozen? (Xa (g1.nb i) 9)=false)(Z:A.ownBlock=v.ownBlock∨∃k,A.ownBlock=some k∧w1.heap.size+1≤k)(hr:m.ownsRow (C.bb+1) 113 1 A (fs++ [w1.heap.size]).length ((fs++ [w1.heap.size]).map pv))
 (E:Kept (fun c=>c=g1.nb i∨v.ownBlock=some c) (w1.alloc (.cells #[.int .i64 0,.pointer pk,.string nm,ah 108 s,.bool false,.bool false] 212)) m)(y:∀o,o≠9→m.cell? (Xa (g1.nb i) o)=(w1.alloc (.cells #[.int .i64 0,.pointer pk,.string nm,ah 108 s,.bool false,.bool false] 212)).cell? (Xa (g1.nb i) o))(K:Plain (w1.alloc (.cells #[.int .i64 0,.pointer pk,.string nm,ah 108 s,.bool false,.bool false] 212)) (g1.nb i)→Plain m (g1.nb i)){N:Nat}(L:ms1.length≤ms.length+N):
 lJ C p g mv ms N i k aI v w (.returned (.tuple #[])) m:=by
 have a:=u.box #[.int .i64 0,.pointer pk,.string nm,ah 108 s,.bool false,.bool false] 212;have hd:∀o,q w1.heap.size o=none:=fun o=>u.wb.kw.aF zl o;have n:=Pm.du (cs:=#[.int .i64 0,.pointer pk,.string nm,ah 108 s,.bool false,.bool false]) hd zl;have z:Below w1 w1 (w1.alloc (.cells #[.int .i64 0,.pointer pk,.string nm,ah 108 s,.bool false,.bool false] 212)):=zB.alloc zl _;have d:=hM.grow z n;have M:(q.add w1.heap.size #[.int .i64 0,.pointer pk,.string nm,ah 108 s,.bool false,.bool false]) w1.heap.size 2=some (.string nm):=by rw[Pm.aU];rfl
 have PG:w1.heap.size<(w1.alloc (.cells #[.int .i64 0,.pointer pk,.string nm,ah 108 s,.bool false,.bool false] 212)).heap.size:=zs;generalize PK:#[Value.int .i64 0,.pointer pk,.string nm,ah 108 s,.bool false,.bool false]=cs at*;generalize PL:q.add w1.heap.size cs=O at*;generalize P:w1.alloc (.cells cs 212)=w2 at*;have Q:i<g1.len:=by rw[t.len];exact hi
 have h:=a.nm i Q;have PM:=a.bl;have PH:=zb u.c0;have hX:∀c,c=g1.nb i∨v.ownBlock=some c→C.B0≤c∧O c 0=none∧c≠C.bb∧mv1.ownBlock≠some c:=fun c D=>by
  rcases D with rfl|e
  ·exact⟨a.lp _ _ _ h,d.d0,fun e=>(by have:=a.pb 1;rw[←e,h]at this;cases this),fun e=>(by have:=(a.rd _ e).2 1;rw[h]at this;cases this)⟩
  ·have h1:=(d.row.lt c e).1
   have F:=a.apart zd d.row zo e;exact⟨by omega,d.rd c e 0,F.1,F.2⟩
 have PN:v.ownBlock≠some (g1.nb i):=fun e=>by have:=d.rd _ e 1;rw[h]at this;cases this
 have R:∀c,c=g1.nb i∨v.ownBlock=some c→c≠5:=fun c D=>by have:=(hX c D).1;have:=a.gv;omega
 have S:WB O m:=by
  refine⟨fun b o x e=> ?_,fun b o x e=> ?_,fun c h1 F=> ?_⟩
  ·by_cases f:b=g1.nb i
   ·subst f
    rw[y o fun e9=>by rw[e9,d.d9]at e;cases e];exact a.wb.kw _ _ _ e
   ·rw[E.cell (a.wb.kw.lt e) fun l=>l.elim f fun l=>by rw[d.rd b l o]at e;cases e]
    exact a.wb.kw _ _ _ e
  ·by_cases f:b=g1.nb i
   ·subst f;exact K (a.wb.pl _ _ _ e)
   ·obtain⟨T,T',hb⟩:=a.wb.pl _ _ _ e
    exact⟨T,T',(E.block b (a.wb.kw.lt e) fun l=>l.elim f fun l=>by rw[d.rd b l o]at e;cases e).trans hb⟩
  ·have:=a.wb.cap c h1 F
   rw[E.cell (zb this) fun l=>R _ l rfl];exact this
 have U:=a.rP E S hX;have V:=B.size;have PI:=Y.size;have PJ:=z.size;refine⟨rfl,O,g1,mv1,ms1,A,fs++ [w1.heap.size],U,⟨by simp[hM.fl],D,hf,d.d9,d.d0,hr,fun b e o=> ?_,fun j hj=> ?_⟩,(H.mono V).trans (n.mono zo) zl,t,?_,fun b e=>I b e,fun b e=> ?_,L⟩
 ·rcases Z with f|⟨k',f,W⟩
  ·rw[f]at e;exact d.rd b e o
  ·rw[f]at e;cases e
   refine a.wb.kw.aF ?_ o;rw[←P];simp;omega
 ·by_cases e:j=k
  ·subst e
   rw[show(fs++ [w1.heap.size]).getD j 0=w1.heap.size by simp[List.getD,←hM.fl],J];exact M
  ·rw[show(fs++ [w1.heap.size]).getD j 0=fs.getD j 0 by have:=hM.fl;simp[List.getD,List.getElem?_append_left (show j<fs.length by omega)]]
   exact d.nm j zo
 ·refine(((Kept.of (X:=fun c=>c=C.bb∨mv.ownBlock=some c∨c=g.nb i∨v.ownBlock=some c) B).trans Y fun c _ e=>e.elim .inl fun e=> .inr (.inl e)).below z).trans E fun c _ e=> ?_
  rcases e with e|e
  ·exact .inr (.inr (.inl (by rw[e,t.nb])))
  ·exact .inr (.inr (.inr e))
 ·rcases Z with f|⟨k',f,W⟩
  ·rw[f]at e;exact .inl e
  ·rw[f]at e;cases e;exact .inr zo
end TS
namespace TS
open Go Go.RowKit Go.Proofs.YtkochlhejabdcaaGreatDoor Go.Proofs.Tryz
theorem BS.xD{C:BC}{p:Pm}{g:Ge}{mv:Value}{ms:List Nat}{w:World}(h:BS C p g mv ms w){i:Nat}(hi:i<g.len):¬(g.nb i=C.bb∨mv.ownBlock=some (g.nb i)):=fun e=>by
 have:=(h.ib (b:=g.nb i) (e.imp Eq.symm id)).2.2 1;rw[h.nm i hi]at this;cases this
end TS
namespace Go.Proofs.YtkochlhejabdcaaGreatDoor
open Go.RowKit TS Tryz
theorem GV(C:BC)(i k:Nat)(nm:ByteArray)(sg:U)(a:Option Addr)(c:Nat)(s:ByteArray)(aI:Nat→ByteArray)(v:Value)(fs:List Nat)(p:Pm)(g:Ge)(mv:Value)(ms:List Nat)(w:World)(hi:i<g.len)(hB:BS C p g mv ms w)(hM:dL C p g w i k aI v fs)(hx:p (g.nb i) 5=some (.int .u32 15))(PX:p (g.ob i) 1=some (ptr g.pk))(PY:p g.pk 0=some (.string s))
 (hk:sg.k=7)(hm:0≤sg.m∧sg.m.toNat≤sg.es.length)(hv:sg.v=true→0<sg.m.toNat∧∃e,sg.es[sg.m.toNat- 1]?=some e∧e.k=4)(hI:∀e∈sg.es,bX C e)(hu:ai C.pa C.D sg a c)(Qk:ms.length+cn sg≤1099511627776)(Qx:k≤1048576)(PZ:aI k=nm)(P0:∀j,j<k→((aI j).toList==nm.toList)=false)(h_:(nm.toList== [95])=false):
 Xk 51 #[Xp C.bb,.int .i64 i,.agg #[.string nm,.bool false,.int .i64 sg.k,.int .i64 sg.n,.int .i64 sg.m,.bool sg.v,.string sg.nm,.string sg.tg,.slice a sg.es.length c]] w (lJ C p g mv ms (cn sg) i k aI v w):=by
 have y:=zh hB;have O:=zh hM;have P1:Hid (∀r W,Below w w W→Xk 108 #[Xp C.bb,.pointer r,Xt sg a c] W (nj C sg p g mv ms r W)):=fun r W hW=>pf C sg r hk hm hv hI p g mv ms a c W (hB.below hW) Qk hu;have z0:=hB.c0;obtain⟨z1,S⟩:=hB.c1;obtain⟨T,z,PL,PM⟩:=S i hi;rw[PL]at z1;have P2:=zh PL;have zr:=hB.wb.kw _ _ _ PM;have Ql:=zb zr;have Qm:=zb z0;simp only at Ql Qm;have I:=zh PM;have Qy:(i:Int)<(g.len:Int):=zo;have Qn:=zh hx;have P3:=zh PX;have P4:=zh PY;have P5:(w.alloc (.cells #[.string nm,.bool false,.int .i64 sg.k,.int .i64 sg.n,.int .i64 sg.m,.bool sg.v,.string sg.nm,.string sg.tg,.slice a sg.es.length c] 75)).heap[w.heap.size]?=some (.cells #[.string nm,.bool false,.int .i64 sg.k,.int .i64 sg.n,.int .i64 sg.m,.bool sg.v,.string sg.nm,.string sg.tg,.slice a sg.es.length c] 75):=cA rfl;have V:Xc (w.alloc (.cells #[.string nm,.bool false,.int .i64 sg.k,.int .i64 sg.n,.int .i64 sg.m,.bool sg.v,.string sg.nm,.string sg.tg,.slice a sg.es.length c] 75)) w 0 (.string nm)∧(Xs (w.alloc (.cells #[.string nm,.bool false,.int .i64 sg.k,.int .i64 sg.n,.int .i64 sg.m,.bool sg.v,.string sg.nm,.string sg.tg,.slice a sg.es.length c] 75)) w 2 sg a c):=by(repeat' apply And.intro)<;>(simp only[World.cell?,P5];rfl)
 have J:Below w w (w.alloc (.cells #[.string nm,.bool false,.int .i64 sg.k,.int .i64 sg.n,.int .i64 sg.m,.bool sg.v,.string sg.nm,.string sg.tg,.slice a sg.es.length c] 75)):=zB.alloc zl _;have PN:Below w w (((w.alloc (.cells #[.string nm,.bool false,.int .i64 sg.k,.int .i64 sg.n,.int .i64 sg.m,.bool sg.v,.string sg.nm,.string sg.tg,.slice a sg.es.length c] 75)).alloc (.cells #[.int .i64 0,Xp g.pk,.string ⟨#[]⟩,ah 60 (g.nb i),.int .u8 1,.bool false] 192)).drew):=(J.alloc (by simp<;>omega) _).drew;have P6:(Xc ((w.alloc (.cells #[.string nm,.bool false,.int .i64 sg.k,.int .i64 sg.n,.int .i64 sg.m,.bool sg.v,.string sg.nm,.string sg.tg,.slice a sg.es.length c] 75)).alloc (.cells #[.int .i64 0,Xp g.pk,.string ⟨#[]⟩,ah 60 (g.nb i),.int .u8 1,.bool false] 192)) w 2 (.int .i64 sg.k)∧Xc ((w.alloc (.cells #[.string nm,.bool false,.int .i64 sg.k,.int .i64 sg.n,.int .i64 sg.m,.bool sg.v,.string sg.nm,.string sg.tg,.slice a sg.es.length c] 75)).alloc (.cells #[.int .i64 0,Xp g.pk,.string ⟨#[]⟩,ah 60 (g.nb i),.int .u8 1,.bool false] 192)) w (2+1) (.int .i64 sg.n)∧Xc ((w.alloc (.cells #[.string nm,.bool false,.int .i64 sg.k,.int .i64 sg.n,.int .i64 sg.m,.bool sg.v,.string sg.nm,.string sg.tg,.slice a sg.es.length c] 75)).alloc (.cells #[.int .i64 0,Xp g.pk,.string ⟨#[]⟩,ah 60 (g.nb i),.int .u8 1,.bool false] 192)) w (2+2) (.int .i64 sg.m)∧Xc ((w.alloc (.cells #[.string nm,.bool false,.int .i64 sg.k,.int .i64 sg.n,.int .i64 sg.m,.bool sg.v,.string sg.nm,.string sg.tg,.slice a sg.es.length c] 75)).alloc (.cells #[.int .i64 0,Xp g.pk,.string ⟨#[]⟩,ah 60 (g.nb i),.int .u8 1,.bool false] 192)) w (2+3) (.bool sg.v)∧Xc ((w.alloc (.cells #[.string nm,.bool false,.int .i64 sg.k,.int .i64 sg.n,.int .i64 sg.m,.bool sg.v,.string sg.nm,.string sg.tg,.slice a sg.es.length c] 75)).alloc (.cells #[.int .i64 0,Xp g.pk,.string ⟨#[]⟩,ah 60 (g.nb i),.int .u8 1,.bool false] 192)) w (2+4) (.string sg.nm)∧Xc ((w.alloc (.cells #[.string nm,.bool false,.int .i64 sg.k,.int .i64 sg.n,.int .i64 sg.m,.bool sg.v,.string sg.nm,.string sg.tg,.slice a sg.es.length c] 75)).alloc (.cells #[.int .i64 0,Xp g.pk,.string ⟨#[]⟩,ah 60 (g.nb i),.int .u8 1,.bool false] 192)) w (2+5) (.string sg.tg)∧Xc ((w.alloc (.cells #[.string nm,.bool false,.int .i64 sg.k,.int .i64 sg.n,.int .i64 sg.m,.bool sg.v,.string sg.nm,.string sg.tg,.slice a sg.es.length c] 75)).alloc (.cells #[.int .i64 0,Xp g.pk,.string ⟨#[]⟩,ah 60 (g.nb i),.int .u8 1,.bool false] 192)) w (2+6) (.slice a sg.es.length c))∧Xc ((w.alloc (.cells #[.string nm,.bool false,.int .i64 sg.k,.int .i64 sg.n,.int .i64 sg.m,.bool sg.v,.string sg.nm,.string sg.tg,.slice a sg.es.length c] 75)).alloc (.cells #[.int .i64 0,Xp g.pk,.string ⟨#[]⟩,ah 60 (g.nb i),.int .u8 1,.bool false] 192)) w 0 (.string nm):=by
  have l:Below (w.alloc (.cells #[.string nm,.bool false,.int .i64 sg.k,.int .i64 sg.n,.int .i64 sg.m,.bool sg.v,.string sg.nm,.string sg.tg,.slice a sg.es.length c] 75)).heap.size (w.alloc (.cells #[.string nm,.bool false,.int .i64 sg.k,.int .i64 sg.n,.int .i64 sg.m,.bool sg.v,.string sg.nm,.string sg.tg,.slice a sg.es.length c] 75)) ((w.alloc (.cells #[.string nm,.bool false,.int .i64 sg.k,.int .i64 sg.n,.int .i64 sg.m,.bool sg.v,.string sg.nm,.string sg.tg,.slice a sg.es.length c] 75)).alloc (.cells #[.int .i64 0,Xp g.pk,.string ⟨#[]⟩,ah 60 (g.nb i),.int .u8 1,.bool false] 192)):=zB.alloc zl _;obtain⟨k0,k1,k2,k3,k4,k5,k6,k7⟩:=V;exact⟨⟨az l k1,az l k2,az l k3,az l k4,az l k5,az l k6,az l k7⟩,az l k0⟩
 have PO:Xc ((w.alloc (.cells #[.string nm,.bool false,.int .i64 sg.k,.int .i64 sg.n,.int .i64 sg.m,.bool sg.v,.string sg.nm,.string sg.tg,.slice a sg.es.length c] 75)).alloc (.cells #[.int .i64 0,Xp g.pk,.string ⟨#[]⟩,ah 60 (g.nb i),.int .u8 1,.bool false] 192)) C.bb 0 (ptr g.pk):=az (J.alloc (by simp<;>omega) _) z0;have PQ:Xc ((w.alloc (.cells #[.string nm,.bool false,.int .i64 sg.k,.int .i64 sg.n,.int .i64 sg.m,.bool sg.v,.string sg.nm,.string sg.tg,.slice a sg.es.length c] 75)).alloc (.cells #[.int .i64 0,Xp g.pk,.string ⟨#[]⟩,ah 60 (g.nb i),.int .u8 1,.bool false] 192)) C.bb 1 (.slice (Xa T z) g.len C.dc):=az (J.alloc (by simp<;>omega) _) z1;have PR:Xc ((w.alloc (.cells #[.string nm,.bool false,.int .i64 sg.k,.int .i64 sg.n,.int .i64 sg.m,.bool sg.v,.string sg.nm,.string sg.tg,.slice a sg.es.length c] 75)).alloc (.cells #[.int .i64 0,Xp g.pk,.string ⟨#[]⟩,ah 60 (g.nb i),.int .u8 1,.bool false] 192)) T (z+i) (ptr (g.nb i)):=az (J.alloc (by simp<;>omega) _) zr;have X:=zh (P1.out (Xa (w+1) 0) _ PN);have L:=zh PN;have P7:=zh P6;have Qo:=zh (And.intro PO (And.intro PQ PR));have P8:=zh PZ;have P9:=zh P0;have Qz:=zh hk;clear hB hM hk hm hv hI hu S PM hx PX PY P5 V PZ P0 PL J PN P6 PO PQ PR P1;go_enter func51,ntmps51;go_wp2_with fail
 refine(uj _ _ _ _ _ _).mono ?_;rintro e1 w1 ⟨rfl,rfl⟩;obtain⟨⟨k1,k2,k3,k4,k5,k6,k7⟩,k0⟩:=P7.out;obtain⟨PO,PQ,PR⟩:=Qo.out;go_wp2_with fail
 have Qt:w.heap.size<((w.alloc (.cells #[.string nm,.bool false,.int .i64 sg.k,.int .i64 sg.n,.int .i64 sg.m,.bool sg.v,.string sg.nm,.string sg.tg,.slice a sg.es.length c] 75)).alloc (.cells #[.int .i64 0,Xp g.pk,.string ⟨#[]⟩,ah 60 (g.nb i),.int .u8 1,.bool false] 192)).heap.size:=by simp<;>omega
 generalize ((w.alloc (.cells #[.string nm,.bool false,.int .i64 sg.k,.int .i64 sg.n,.int .i64 sg.m,.bool sg.v,.string sg.nm,.string sg.tg,.slice a sg.es.length c] 75)).alloc (.cells #[.int .i64 0,Xp g.pk,.string ⟨#[]⟩,ah 60 (g.nb i),.int .u8 1,.bool false] 192))=W1 at*;refine oR (fun W=>(Xc W C.bb 0 (ptr g.pk)∧Xc W C.bb 1 (.slice (Xa T z) g.len C.dc)∧Xc W T (z+i) (ptr (g.nb i))∧Xc W w 0 (.string nm))∧(Xs W w 2 sg a c)) [(0,true),(1,true),(2,true),(3,true),(4,true),(5,true),(6,true),(7,true),(8,true),(9,true),(10,true),(11,true),(12,true),(13,true),(14,true),(15,true),(16,true),(17,false),(18,false),(19,false)] (by(repeat' apply And.intro)<;>assumption) (fun t=> ?_);iterate 17 ((first|refine oS ?_|refine oF t ?_);try simp only[Act.put,oa,ob,oc])
 refine oL fun K Y=> ?_;go_simp;go_at_call 108
 refine X.out.mono ?_;rintro e2 w1 ⟨s1,q,g1,mv1,ms1,rfl,Qp,A,d,P_,QA,Qu,QB,QC,Qq⟩;have Qr:=zh (aG.ahead L.out d);have u:=O.out.step y.out hi Qr.out;have Z:Xc w1 C.bb 0 (ptr g.pk):=by
  have h1:=A.c0;rwa [d.gs.pk]at h1
 have PG:Xc w1 C.bb 1 (.slice (Xa T z) g.len C.dc):=by
  have h1:=A.c1.1;rwa [d.gs.len,P2.out]at h1
 have Qa:Xc w1 T (z+i) (ptr (g.nb i)):=A.wb.kw _ _ _ (d.gr.le _ _ _ I.out);have Qb:∀o v,Xc (W1.drew) w o v→Xc w1 w o v:=fun o v h=>by
  rw[d.kept.cell (zb h) fun e=> ?_]
  ·exact h
  ·rcases e with(e:w.heap.size=C.bb)|e
   ·omega
   ·have:=(y.out.ib (b:=w.heap.size) (.inr e)).2.1;omega
 obtain⟨⟨_,_,_,p0⟩,s0,M,s2,s3,s4,s5,s6⟩:=t;(try simp only[]);refine Y _ _ (by(repeat' apply And.intro)<;>first|exact Z|exact PG|exact Qa|exact Qb _ _ za) fun t=> ?_;clear Y K;try simp only[Act.put,oa,ob,oc]
 have e1:g1.nb=g.nb:=d.gs.nb;have PS:Below w1 w1 (w1.alloc (.cells #[.int .i64 0,Xp g.pk,.string nm,ah 108 s1,.bool false,.bool false] 212)):=zB.alloc zl _;have P:=u.below PS;have PT:(w1.alloc (.cells #[.int .i64 0,Xp g.pk,.string nm,ah 108 s1,.bool false,.bool false] 212)).heap[w1.heap.size]?=some (.cells #[.int .i64 0,Xp g.pk,.string nm,ah 108 s1,.bool false,.bool false] 212):=cA rfl;have H:∀b o v,q b o=some v→Xc (w1.alloc (.cells #[.int .i64 0,Xp g.pk,.string nm,ah 108 s1,.bool false,.bool false] 212)) b o v:=fun b o v e=>az PS (A.wb.kw _ _ _ e);have F:=d.gr.le _ _ _ (y.out.nm i hi);have B:=P.c9;have E:=P.f9;rw[e1]at B E;have Qc:=zb A.c0;simp only at Qc;have hAdd:=zh (uQ (C.bb+1) (g.nb i) (g.ob i) w1.heap.size g.pk s nm fs aI v (w1.alloc (.cells #[.int .i64 0,Xp g.pk,.string nm,ah 108 s1,.bool false,.bool false] 212)) (by have:=u.fl;omega) (H _ _ _ F) (H _ _ _ (d.gr.le _ _ _ Qn.out)) B E (fun e=>by rw[u.rd _ e 1]at F;cases F) P.row zp (H _ _ _ (d.gr.le _ _ _ P3.out)) (by simp only[World.cell?,PT];rfl) (by simp only[World.cell?,PT];rfl) (H _ _ _ (d.gr.le _ _ _ P4.out)) (fun j hj=>by
  have:=u.nm j (by have:=u.fl;omega);rw[show fs.getD j 0=fs[j] by simp[List.getD,hj]]at this;exact H _ _ _ this) (fun j hj=>P9.out j (by have:=u.fl;omega)) h_)
 have Qd:=zh u;have Qe:=zh A;have G:=zh d;have Qf:=zh (show ∀b,mv1.ownBlock=some b→mv.ownBlock=some b∨w.heap.size≤b from fun b e=>(P_ b e).imp id fun h=>Nat.le_trans L.out.size h);have Qs:=zh e1;clear Qp A d P_ Z PG Qa Qb u P B E PT H F X s0 M s2 s3 s4 s5 s6 p0 e1 PS;refine oL fun K Y=> ?_;go_simp;go_at_call 93
 refine(nW _ _ _ _ _).mono ?_;rintro e3 w3 ⟨rfl,rfl⟩;obtain⟨⟨p1,p2,p3,p0⟩,s0,M,s2,s3,s4,s5,s6⟩:=t;(try simp only[]);refine Y _ _ (by(repeat' apply And.intro)<;>exact az (zB.alloc zl _) za) fun t=> ?_;clear Y K;try simp only[Act.put,oa,ob,oc]
 clear s0 M s2 s3 s4 s5 s6 p0 p1 p2 p3;refine oL fun K Y=> ?_;go_simp;go_at_call 112
 refine hAdd.out.mono ?_;rintro e4 w4 ⟨rfl,v',PU,PW,Qg,Qh,Q,f,N⟩;have Qv:g.nb i<w.heap.size:=y.out.wb.kw.lt (y.out.nm i hi);have PH:∀b,v.ownBlock=some b→C.bb<b∧b<w.heap.size:=fun b e=>by have:=O.out.row.lt b e;omega
 have Qw:w.heap.size<w1.heap.size:=by have:=G.out.size;simp only[World.size_drew]at this;omega
 obtain⟨⟨p1,p2,p3,p0⟩,s0,M,s2,s3,s4,s5,s6⟩:=t;have R:∀b o x,b≠g.nb i→v.ownBlock≠some b→Xc (w1.alloc (.cells #[.int .i64 0,Xp g.pk,.string nm,ah 108 s1,.bool false,.bool false] 212)) b o x→Xc w4 b o x:=fun b o x h1 h2 h=>by
  rw[Q.cell (zb h) fun e=>e.elim h1 h2];exact h
 have Qi:C.bb≠g.nb i:=fun e=>y.out.xD hi (.inl e.symm);have PI:Xc w4 T (z+i) (ptr (g.nb i)):=by
  by_cases e:T=g.nb i
  ·rw[e]at p3⊢
   rw[f _ fun e9=>by have:=I.out;rw[e,e9,O.out.d9]at this;cases this];exact p3
  ·exact R _ _ _ e (fun e2=>by have:=I.out;rw[O.out.rd _ e2]at this;cases this) p3
 have PJ:∀o x,Xc (w1.alloc (.cells #[.int .i64 0,Xp g.pk,.string nm,ah 108 s1,.bool false,.bool false] 212)) w o x→Xc w4 w o x:=fun o x h=>R _ _ _ zo (fun e=>by have:=PH _ e;omega) h;have PK:∀o x,Xc (w1.alloc (.cells #[.int .i64 0,Xp g.pk,.string nm,ah 108 s1,.bool false,.bool false] 212)) C.bb o x→Xc w4 C.bb o x:=fun o x h=>R _ _ _ Qi (fun e=>by have:=PH _ e;omega) h;(try simp only[]);refine Y _ _ (by(repeat' apply And.intro)<;>first|exact PI|exact PK _ _ za|exact PJ _ _ za) fun t=> ?_;clear Y K;try simp only[Act.put,oa,ob,oc]
 have Qj:Hid (lJ C p g mv ms (cn sg) i k aI v w (.returned (.tuple #[])) w4):=by
  rw[←Qs.out]at PU PW Q f N;exact xC hi y.out L.out G.out.gr G.out.gs G.out.kept Qe.out Qf.out Qd.out P8.out PU PW (Qg.imp id fun⟨k,h1,h2⟩=>⟨k,h1,by simpa using h2⟩) Qh Q f N Qq
 refine bZ ?_;clear t PU PW Qg Qh Q f N R PI PJ PK p1 p2 p3 p0 s0 M s2 s3 s4 s5 s6;go_wp2_with fail
 go_end0
 exact Qj.out
theorem GW(C:BC)(i k:Nat)(nm:ByteArray)(sg:U)(a:Option Addr)(c:Nat)(s:ByteArray)(aI:Nat→ByteArray)(v:Value)(fs:List Nat)(p:Pm)(g:Ge)(mv:Value)(ms:List Nat)(w:World)(hi:i<g.len)(hB:BS C p g mv ms w)(hM:dL C p g w i k aI v fs)(hx:p (g.nb i) 5=some (.int .u32 15))(PX:p (g.ob i) 1=some (ptr g.pk))(PY:p g.pk 0=some (.string s))
 (hk:sg.k=7)(hm:0≤sg.m∧sg.m.toNat≤sg.es.length)(hv:sg.v=true→0<sg.m.toNat∧∃e,sg.es[sg.m.toNat- 1]?=some e∧e.k=4)(hI:∀e∈sg.es,bX C e)(hu:ai C.pa C.D sg a c)(Qk:ms.length+cn sg≤1099511627776)(Qx:k≤1048576)(PZ:aI k=nm)(P0:∀j,j<k→((aI j).toList==nm.toList)=false)(h_:(nm.toList== [95])=false):
 Xk 51 #[Xp C.bb,.int .i64 i,.agg #[.string nm,.bool true,.int .i64 sg.k,.int .i64 sg.n,.int .i64 sg.m,.bool sg.v,.string sg.nm,.string sg.tg,.slice a sg.es.length c]] w (lJ C p g mv ms (cn sg) i k aI v w):=by
 have y:=zh hB;have O:=zh hM;have P1:Hid (∀r W,Below w w W→Xk 108 #[Xp C.bb,.pointer r,Xt sg a c] W (nj C sg p g mv ms r W)):=fun r W hW=>pf C sg r hk hm hv hI p g mv ms a c W (hB.below hW) Qk hu;have z0:=hB.c0;obtain⟨z1,S⟩:=hB.c1;obtain⟨T,z,PL,PM⟩:=S i hi;rw[PL]at z1;have P2:=zh PL;have zr:=hB.wb.kw _ _ _ PM;have Ql:=zb zr;have Qm:=zb z0;simp only at Ql Qm;have I:=zh PM;have Qy:(i:Int)<(g.len:Int):=zo;have Qn:=zh hx;have P3:=zh PX;have P4:=zh PY;have P5:(w.alloc (.cells #[.string nm,.bool true,.int .i64 sg.k,.int .i64 sg.n,.int .i64 sg.m,.bool sg.v,.string sg.nm,.string sg.tg,.slice a sg.es.length c] 75)).heap[w.heap.size]?=some (.cells #[.string nm,.bool true,.int .i64 sg.k,.int .i64 sg.n,.int .i64 sg.m,.bool sg.v,.string sg.nm,.string sg.tg,.slice a sg.es.length c] 75):=cA rfl;have V:Xc (w.alloc (.cells #[.string nm,.bool true,.int .i64 sg.k,.int .i64 sg.n,.int .i64 sg.m,.bool sg.v,.string sg.nm,.string sg.tg,.slice a sg.es.length c] 75)) w 0 (.string nm)∧(Xs (w.alloc (.cells #[.string nm,.bool true,.int .i64 sg.k,.int .i64 sg.n,.int .i64 sg.m,.bool sg.v,.string sg.nm,.string sg.tg,.slice a sg.es.length c] 75)) w 2 sg a c):=by(repeat' apply And.intro)<;>(simp only[World.cell?,P5];rfl)
 have J:Below w w ((w.alloc (.cells #[.string nm,.bool true,.int .i64 sg.k,.int .i64 sg.n,.int .i64 sg.m,.bool sg.v,.string sg.nm,.string sg.tg,.slice a sg.es.length c] 75)).alloc (.cells #[ah 60 (g.nb i)] 197)):=(zB.alloc zl _).alloc zs _;have PN:Below w w ((((w.alloc (.cells #[.string nm,.bool true,.int .i64 sg.k,.int .i64 sg.n,.int .i64 sg.m,.bool sg.v,.string sg.nm,.string sg.tg,.slice a sg.es.length c] 75)).alloc (.cells #[ah 60 (g.nb i)] 197)).alloc (.cells #[.int .i64 0,Xp g.pk,.string ⟨#[]⟩,ah 148 (w.heap.size+1),.int .u8 1,.bool false] 192)).drew):=(J.alloc (by simp<;>omega) _).drew;have P6:(Xc (((w.alloc (.cells #[.string nm,.bool true,.int .i64 sg.k,.int .i64 sg.n,.int .i64 sg.m,.bool sg.v,.string sg.nm,.string sg.tg,.slice a sg.es.length c] 75)).alloc (.cells #[ah 60 (g.nb i)] 197)).alloc (.cells #[.int .i64 0,Xp g.pk,.string ⟨#[]⟩,ah 148 (w.heap.size+1),.int .u8 1,.bool false] 192)) w 2 (.int .i64 sg.k)∧Xc (((w.alloc (.cells #[.string nm,.bool true,.int .i64 sg.k,.int .i64 sg.n,.int .i64 sg.m,.bool sg.v,.string sg.nm,.string sg.tg,.slice a sg.es.length c] 75)).alloc (.cells #[ah 60 (g.nb i)] 197)).alloc (.cells #[.int .i64 0,Xp g.pk,.string ⟨#[]⟩,ah 148 (w.heap.size+1),.int .u8 1,.bool false] 192)) w (2+1) (.int .i64 sg.n)∧Xc (((w.alloc (.cells #[.string nm,.bool true,.int .i64 sg.k,.int .i64 sg.n,.int .i64 sg.m,.bool sg.v,.string sg.nm,.string sg.tg,.slice a sg.es.length c] 75)).alloc (.cells #[ah 60 (g.nb i)] 197)).alloc (.cells #[.int .i64 0,Xp g.pk,.string ⟨#[]⟩,ah 148 (w.heap.size+1),.int .u8 1,.bool false] 192)) w (2+2) (.int .i64 sg.m)∧Xc (((w.alloc (.cells #[.string nm,.bool true,.int .i64 sg.k,.int .i64 sg.n,.int .i64 sg.m,.bool sg.v,.string sg.nm,.string sg.tg,.slice a sg.es.length c] 75)).alloc (.cells #[ah 60 (g.nb i)] 197)).alloc (.cells #[.int .i64 0,Xp g.pk,.string ⟨#[]⟩,ah 148 (w.heap.size+1),.int .u8 1,.bool false] 192)) w (2+3) (.bool sg.v)∧Xc (((w.alloc (.cells #[.string nm,.bool true,.int .i64 sg.k,.int .i64 sg.n,.int .i64 sg.m,.bool sg.v,.string sg.nm,.string sg.tg,.slice a sg.es.length c] 75)).alloc (.cells #[ah 60 (g.nb i)] 197)).alloc (.cells #[.int .i64 0,Xp g.pk,.string ⟨#[]⟩,ah 148 (w.heap.size+1),.int .u8 1,.bool false] 192)) w (2+4) (.string sg.nm)∧Xc (((w.alloc (.cells #[.string nm,.bool true,.int .i64 sg.k,.int .i64 sg.n,.int .i64 sg.m,.bool sg.v,.string sg.nm,.string sg.tg,.slice a sg.es.length c] 75)).alloc (.cells #[ah 60 (g.nb i)] 197)).alloc (.cells #[.int .i64 0,Xp g.pk,.string ⟨#[]⟩,ah 148 (w.heap.size+1),.int .u8 1,.bool false] 192)) w (2+5) (.string sg.tg)∧Xc (((w.alloc (.cells #[.string nm,.bool true,.int .i64 sg.k,.int .i64 sg.n,.int .i64 sg.m,.bool sg.v,.string sg.nm,.string sg.tg,.slice a sg.es.length c] 75)).alloc (.cells #[ah 60 (g.nb i)] 197)).alloc (.cells #[.int .i64 0,Xp g.pk,.string ⟨#[]⟩,ah 148 (w.heap.size+1),.int .u8 1,.bool false] 192)) w (2+6) (.slice a sg.es.length c))∧Xc (((w.alloc (.cells #[.string nm,.bool true,.int .i64 sg.k,.int .i64 sg.n,.int .i64 sg.m,.bool sg.v,.string sg.nm,.string sg.tg,.slice a sg.es.length c] 75)).alloc (.cells #[ah 60 (g.nb i)] 197)).alloc (.cells #[.int .i64 0,Xp g.pk,.string ⟨#[]⟩,ah 148 (w.heap.size+1),.int .u8 1,.bool false] 192)) w 0 (.string nm):=by
  have l:Below (w.alloc (.cells #[.string nm,.bool true,.int .i64 sg.k,.int .i64 sg.n,.int .i64 sg.m,.bool sg.v,.string sg.nm,.string sg.tg,.slice a sg.es.length c] 75)).heap.size (w.alloc (.cells #[.string nm,.bool true,.int .i64 sg.k,.int .i64 sg.n,.int .i64 sg.m,.bool sg.v,.string sg.nm,.string sg.tg,.slice a sg.es.length c] 75)) (((w.alloc (.cells #[.string nm,.bool true,.int .i64 sg.k,.int .i64 sg.n,.int .i64 sg.m,.bool sg.v,.string sg.nm,.string sg.tg,.slice a sg.es.length c] 75)).alloc (.cells #[ah 60 (g.nb i)] 197)).alloc (.cells #[.int .i64 0,Xp g.pk,.string ⟨#[]⟩,ah 148 (w.heap.size+1),.int .u8 1,.bool false] 192)):=(zB.alloc zl _).alloc zs _;obtain⟨k0,k1,k2,k3,k4,k5,k6,k7⟩:=V;exact⟨⟨az l k1,az l k2,az l k3,az l k4,az l k5,az l k6,az l k7⟩,az l k0⟩
 have PO:Xc (((w.alloc (.cells #[.string nm,.bool true,.int .i64 sg.k,.int .i64 sg.n,.int .i64 sg.m,.bool sg.v,.string sg.nm,.string sg.tg,.slice a sg.es.length c] 75)).alloc (.cells #[ah 60 (g.nb i)] 197)).alloc (.cells #[.int .i64 0,Xp g.pk,.string ⟨#[]⟩,ah 148 (w.heap.size+1),.int .u8 1,.bool false] 192)) C.bb 0 (ptr g.pk):=az (J.alloc (by simp<;>omega) _) z0;have PQ:Xc (((w.alloc (.cells #[.string nm,.bool true,.int .i64 sg.k,.int .i64 sg.n,.int .i64 sg.m,.bool sg.v,.string sg.nm,.string sg.tg,.slice a sg.es.length c] 75)).alloc (.cells #[ah 60 (g.nb i)] 197)).alloc (.cells #[.int .i64 0,Xp g.pk,.string ⟨#[]⟩,ah 148 (w.heap.size+1),.int .u8 1,.bool false] 192)) C.bb 1 (.slice (Xa T z) g.len C.dc):=az (J.alloc (by simp<;>omega) _) z1;have PR:Xc (((w.alloc (.cells #[.string nm,.bool true,.int .i64 sg.k,.int .i64 sg.n,.int .i64 sg.m,.bool sg.v,.string sg.nm,.string sg.tg,.slice a sg.es.length c] 75)).alloc (.cells #[ah 60 (g.nb i)] 197)).alloc (.cells #[.int .i64 0,Xp g.pk,.string ⟨#[]⟩,ah 148 (w.heap.size+1),.int .u8 1,.bool false] 192)) T (z+i) (ptr (g.nb i)):=az (J.alloc (by simp<;>omega) _) zr;have X:=zh (P1.out (Xa (w+2) 0) _ PN);have L:=zh PN;have P7:=zh P6;have Qo:=zh (And.intro PO (And.intro PQ PR));have P8:=zh PZ;have P9:=zh P0;have Qz:=zh hk;clear hB hM hk hm hv hI hu S PM hx PX PY P5 V PZ P0 PL J PN P6 PO PQ PR P1;go_enter func51,ntmps51;go_wp2_with fail
 refine(uk _ _ _).mono ?_;rintro e0 w0 ⟨rfl,rfl⟩;go_wp2_with fail
 refine(uj _ _ _ _ _ _).mono ?_;rintro e1 w1 ⟨rfl,rfl⟩;obtain⟨⟨k1,k2,k3,k4,k5,k6,k7⟩,k0⟩:=P7.out;obtain⟨PO,PQ,PR⟩:=Qo.out;go_wp2_with fail
 have Qt:w.heap.size<(((w.alloc (.cells #[.string nm,.bool true,.int .i64 sg.k,.int .i64 sg.n,.int .i64 sg.m,.bool sg.v,.string sg.nm,.string sg.tg,.slice a sg.es.length c] 75)).alloc (.cells #[ah 60 (g.nb i)] 197)).alloc (.cells #[.int .i64 0,Xp g.pk,.string ⟨#[]⟩,ah 148 (w.heap.size+1),.int .u8 1,.bool false] 192)).heap.size:=by simp<;>omega
 generalize (((w.alloc (.cells #[.string nm,.bool true,.int .i64 sg.k,.int .i64 sg.n,.int .i64 sg.m,.bool sg.v,.string sg.nm,.string sg.tg,.slice a sg.es.length c] 75)).alloc (.cells #[ah 60 (g.nb i)] 197)).alloc (.cells #[.int .i64 0,Xp g.pk,.string ⟨#[]⟩,ah 148 (w.heap.size+1),.int .u8 1,.bool false] 192))=W1 at*;refine oR (fun W=>(Xc W C.bb 0 (ptr g.pk)∧Xc W C.bb 1 (.slice (Xa T z) g.len C.dc)∧Xc W T (z+i) (ptr (g.nb i))∧Xc W w 0 (.string nm))∧(Xs W w 2 sg a c)) [(0,true),(1,true),(2,true),(3,true),(4,true),(5,true),(6,true),(7,true),(8,true),(9,true),(10,true),(11,true),(12,true),(13,true),(14,true),(15,true),(16,true),(17,false),(18,false),(19,false)] (by(repeat' apply And.intro)<;>assumption) (fun t=> ?_);iterate 17 ((first|refine oS ?_|refine oF t ?_);try simp only[Act.put,oa,ob,oc])
 refine oL fun K Y=> ?_;go_simp;go_at_call 108
 refine X.out.mono ?_;rintro e2 w1 ⟨s1,q,g1,mv1,ms1,rfl,Qp,A,d,P_,QA,Qu,QB,QC,Qq⟩;have Qr:=zh (aG.ahead L.out d);have u:=O.out.step y.out hi Qr.out;have Z:Xc w1 C.bb 0 (ptr g.pk):=by
  have h1:=A.c0;rwa [d.gs.pk]at h1
 have PG:Xc w1 C.bb 1 (.slice (Xa T z) g.len C.dc):=by
  have h1:=A.c1.1;rwa [d.gs.len,P2.out]at h1
 have Qa:Xc w1 T (z+i) (ptr (g.nb i)):=A.wb.kw _ _ _ (d.gr.le _ _ _ I.out);have Qb:∀o v,Xc (W1.drew) w o v→Xc w1 w o v:=fun o v h=>by
  rw[d.kept.cell (zb h) fun e=> ?_]
  ·exact h
  ·rcases e with(e:w.heap.size=C.bb)|e
   ·omega
   ·have:=(y.out.ib (b:=w.heap.size) (.inr e)).2.1;omega
 obtain⟨⟨_,_,_,p0⟩,s0,M,s2,s3,s4,s5,s6⟩:=t;(try simp only[]);refine Y _ _ (by(repeat' apply And.intro)<;>first|exact Z|exact PG|exact Qa|exact Qb _ _ za) fun t=> ?_;clear Y K;try simp only[Act.put,oa,ob,oc]
 have e1:g1.nb=g.nb:=d.gs.nb;have PS:Below w1 w1 (w1.alloc (.cells #[.int .i64 0,Xp g.pk,.string nm,ah 108 s1,.bool false,.bool false] 212)):=zB.alloc zl _;have P:=u.below PS;have PT:(w1.alloc (.cells #[.int .i64 0,Xp g.pk,.string nm,ah 108 s1,.bool false,.bool false] 212)).heap[w1.heap.size]?=some (.cells #[.int .i64 0,Xp g.pk,.string nm,ah 108 s1,.bool false,.bool false] 212):=cA rfl;have H:∀b o v,q b o=some v→Xc (w1.alloc (.cells #[.int .i64 0,Xp g.pk,.string nm,ah 108 s1,.bool false,.bool false] 212)) b o v:=fun b o v e=>az PS (A.wb.kw _ _ _ e);have F:=d.gr.le _ _ _ (y.out.nm i hi);have B:=P.c9;have E:=P.f9;rw[e1]at B E;have Qc:=zb A.c0;simp only at Qc;have hAdd:=zh (uQ (C.bb+1) (g.nb i) (g.ob i) w1.heap.size g.pk s nm fs aI v (w1.alloc (.cells #[.int .i64 0,Xp g.pk,.string nm,ah 108 s1,.bool false,.bool false] 212)) (by have:=u.fl;omega) (H _ _ _ F) (H _ _ _ (d.gr.le _ _ _ Qn.out)) B E (fun e=>by rw[u.rd _ e 1]at F;cases F) P.row zp (H _ _ _ (d.gr.le _ _ _ P3.out)) (by simp only[World.cell?,PT];rfl) (by simp only[World.cell?,PT];rfl) (H _ _ _ (d.gr.le _ _ _ P4.out)) (fun j hj=>by
  have:=u.nm j (by have:=u.fl;omega);rw[show fs.getD j 0=fs[j] by simp[List.getD,hj]]at this;exact H _ _ _ this) (fun j hj=>P9.out j (by have:=u.fl;omega)) h_)
 have Qd:=zh u;have Qe:=zh A;have G:=zh d;have Qf:=zh (show ∀b,mv1.ownBlock=some b→mv.ownBlock=some b∨w.heap.size≤b from fun b e=>(P_ b e).imp id fun h=>Nat.le_trans L.out.size h);have Qs:=zh e1;clear Qp A d P_ Z PG Qa Qb u P B E PT H F X s0 M s2 s3 s4 s5 s6 p0 e1 PS;refine oL fun K Y=> ?_;go_simp;go_at_call 93
 refine(nW _ _ _ _ _).mono ?_;rintro e3 w3 ⟨rfl,rfl⟩;obtain⟨⟨p1,p2,p3,p0⟩,s0,M,s2,s3,s4,s5,s6⟩:=t;(try simp only[]);refine Y _ _ (by(repeat' apply And.intro)<;>exact az (zB.alloc zl _) za) fun t=> ?_;clear Y K;try simp only[Act.put,oa,ob,oc]
 clear s0 M s2 s3 s4 s5 s6 p0 p1 p2 p3;refine oL fun K Y=> ?_;go_simp;go_at_call 112
 refine hAdd.out.mono ?_;rintro e4 w4 ⟨rfl,v',PU,PW,Qg,Qh,Q,f,N⟩;have Qv:g.nb i<w.heap.size:=y.out.wb.kw.lt (y.out.nm i hi);have PH:∀b,v.ownBlock=some b→C.bb<b∧b<w.heap.size:=fun b e=>by have:=O.out.row.lt b e;omega
 have Qw:w.heap.size<w1.heap.size:=by have:=G.out.size;simp only[World.size_drew]at this;omega
 obtain⟨⟨p1,p2,p3,p0⟩,s0,M,s2,s3,s4,s5,s6⟩:=t;have R:∀b o x,b≠g.nb i→v.ownBlock≠some b→Xc (w1.alloc (.cells #[.int .i64 0,Xp g.pk,.string nm,ah 108 s1,.bool false,.bool false] 212)) b o x→Xc w4 b o x:=fun b o x h1 h2 h=>by
  rw[Q.cell (zb h) fun e=>e.elim h1 h2];exact h
 have Qi:C.bb≠g.nb i:=fun e=>y.out.xD hi (.inl e.symm);have PI:Xc w4 T (z+i) (ptr (g.nb i)):=by
  by_cases e:T=g.nb i
  ·rw[e]at p3⊢
   rw[f _ fun e9=>by have:=I.out;rw[e,e9,O.out.d9]at this;cases this];exact p3
  ·exact R _ _ _ e (fun e2=>by have:=I.out;rw[O.out.rd _ e2]at this;cases this) p3
 have PJ:∀o x,Xc (w1.alloc (.cells #[.int .i64 0,Xp g.pk,.string nm,ah 108 s1,.bool false,.bool false] 212)) w o x→Xc w4 w o x:=fun o x h=>R _ _ _ zo (fun e=>by have:=PH _ e;omega) h;have PK:∀o x,Xc (w1.alloc (.cells #[.int .i64 0,Xp g.pk,.string nm,ah 108 s1,.bool false,.bool false] 212)) C.bb o x→Xc w4 C.bb o x:=fun o x h=>R _ _ _ Qi (fun e=>by have:=PH _ e;omega) h;(try simp only[]);refine Y _ _ (by(repeat' apply And.intro)<;>first|exact PI|exact PK _ _ za|exact PJ _ _ za) fun t=> ?_;clear Y K;try simp only[Act.put,oa,ob,oc]
 have Qj:Hid (lJ C p g mv ms (cn sg) i k aI v w (.returned (.tuple #[])) w4):=by
  rw[←Qs.out]at PU PW Q f N;exact xC hi y.out L.out G.out.gr G.out.gs G.out.kept Qe.out Qf.out Qd.out P8.out PU PW (Qg.imp id fun⟨k,h1,h2⟩=>⟨k,h1,by simpa using h2⟩) Qh Q f N Qq
 refine bZ ?_;clear t PU PW Qg Qh Q f N R PI PJ PK p1 p2 p3 p0 s0 M s2 s3 s4 s5 s6;go_wp2_with fail
 go_end0
 exact Qj.out
theorem GX(C:BC)(i k:Nat)(m:br)(a:Option Addr)(c:Nat)(s:ByteArray)(aI:Nat→ByteArray)(v:Value)(fs:List Nat)(p:Pm)(g:Ge)(mv:Value)(ms:List Nat)(w:World)(hi:i<g.len)(o:BS C p g mv ms w)(hM:dL C p g w i k aI v fs)(t:p (g.nb i) 5=some (.int .u32 15))(b:p (g.ob i) 1=some (ptr g.pk))(d:p g.pk 0=some (.string s))
 (hk:m.sig.k=7)(hm:0≤m.sig.m∧m.sig.m.toNat≤m.sig.es.length)(u:m.sig.v=true→0<m.sig.m.toNat∧∃e,m.sig.es[m.sig.m.toNat- 1]?=some e∧e.k=4)(x:∀e∈m.sig.es,bX C e)(hu:ai C.pa C.D m.sig a c)(f:ms.length+cn m.sig≤1099511627776)(h:k≤1048576)(l:aI k=m.nm)(n:∀j,j<k→((aI j).toList==m.nm.toList)=false)(y:(m.nm.toList== [95])=false):
 Xk 51 #[Xp C.bb,.int .i64 i,Xm m a c] w (lJ C p g mv ms (cn m.sig) i k aI v w):=by
 obtain⟨nm,z,sg⟩:=m;cases z
 ·exact GV C i k nm sg a c s aI v fs p g mv ms w hi o hM t b d hk hm u x hu f h l n y
 ·exact GW C i k nm sg a c s aI v fs p g mv ms w hi o hM t b d hk hm u x hu f h l n y
end Go.Proofs.YtkochlhejabdcaaGreatDoor
