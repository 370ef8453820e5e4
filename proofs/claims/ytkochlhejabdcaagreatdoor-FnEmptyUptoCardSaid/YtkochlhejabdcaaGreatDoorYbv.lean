import Derived.Test.YtkochlhejabdcaaGreatDoorYbr
import Derived.Test.YtkochlhejabdcaaGreatDoorYbt
set_option maxRecDepth 100000
set_option maxHeartbeats 8000000
set_option linter.all false
namespace TS
open Go Go.RowKit Go.Proofs.YtkochlhejabdcaaGreatDoor
abbrev gF(o:Nat):Array Value:=dt (Xa o 0) true 0 0 .nilIface .nilIface (.slice none 0 0)
def jQ(eb eo ib cb co jb pk:Nat)(nbs obs:List Nat):Ge:=
 ⟨fun i=>nbs.getD i 0,fun i=>obs.getD i 0,nbs.length,eb,eo,cb,co,pk,fun b=>if b=ib then some aP else if b=jb then some dB else none⟩
structure fX(pa:Pm)(B0 bb eb eo ib cb co jb pk:Nat)(nbs obs:List Nat)(q:Pm)(dv:Value)(w:World):Prop where
 ka:KW pa w
 la:∀b o v,pa b o=some v→b<B0
 wb:WB q w
 lp:∀b o v,q b o=some v→B0≤b
 gv:5<B0
 bl:B0≤bb
 pb:∀o,q bb o=none
 c0:Xc w bb 0 (ptr pk)
 c1:Xc w bb 1 dv
 f1:w.frozen? (Xa bb 1)=false
 c2:Xc w bb 2 (ah 60 eb)
 c3:Xc w bb 3 (ah 60 cb)
 c4:Xc w bb 4 (.slice none 0 0)
 f4:w.frozen? (Xa bb 4)=false
 row:w.ownsRow (bb+1) 60 1 dv nbs.length (nbs.map pv)
 rd:∀b,dv.ownBlock=some b→∀o,q b o=none
 ol:obs.length=nbs.length
 ends:∀b∈nbs++obs,eb<b∧cb<b∧eo<b∧co<b∧bb<b∧b<w.heap.size
 rR:nbs.Pairwise (· < ·)
 rS:obs.Pairwise (· < ·)
 nm:∀i(h:i<nbs.length)(a:i<obs.length),q nbs[i] 1=some (ptr obs[i])∧(∀o,o≠1→q nbs[i] o=none)∧w.heap[nbs[i]]?=some (.cells (gF obs[i]) 130 (0,0))∧q obs[i] 1=some (ptr pk)
 rT:∃s,q pk 0=some (.string s)
 err:q eb 1=some (ptr eo)∧eL q eb (ah 37 ib)∧(∃o v,q eo o=some v)∧q ib 0=some (.pointer none)∧q ib 5=some (.bool true)∧∀g,cS q g ib aP
 cmp:q cb 1=some (ptr co)∧eL q cb (ah 37 jb)∧(∃o v,q co o=some v)∧q jb 0=some (.pointer none)∧q jb 5=some (.bool true)∧∀g,cS q g jb dB
 ne:eb≠cb∧eo≠co∧ib≠jb
theorem xE{l:List Nat}(h:l.Pairwise (· < ·)){i j:Nat}(hi:i<l.length)(a:j<l.length)(e:l[i]=l[j]):i=j:=by
 rcases Nat.lt_trichotomy i j with k|k|k
 ·have:=List.pairwise_iff_getElem.1 h i j hi a k;omega
 ·exact k
 ·have:=List.pairwise_iff_getElem.1 h j i a hi k;omega
section
variable {pa:Pm} {B0 bb eb eo ib cb co jb pk:Nat} {nbs obs:List Nat} {q:Pm} {dv:Value} {w w1 w2 w3:World}
theorem jR{i:Nat}(hi:i<nbs.length):(jQ eb eo ib cb co jb pk nbs obs).nb i=nbs[i]:=by simp[jQ,List.getD,hi]
theorem jS{i:Nat}(hi:i<obs.length):(jQ eb eo ib cb co jb pk nbs obs).ob i=obs[i]:=by simp[jQ,List.getD,hi]
theorem fX.inj(h:fX pa B0 bb eb eo ib cb co jb pk nbs obs q dv w):mD (jQ eb eo ib cb co jb pk nbs obs):=by
 have f:=h.ol;have d:∀i(hi:i<nbs.length),eb<nbs[i]∧cb<nbs[i]:=fun i hi=>by have:=h.ends nbs[i] (List.mem_append_left _ (zm hi));omega
 have hO:∀i(hi:i<obs.length),eo<obs[i]∧co<obs[i]:=fun i hi=>by have:=h.ends obs[i] (List.mem_append_right _ (zm hi));omega
 refine⟨fun i j hi c e=> ?_,fun i j hi c e=> ?_,fun i hi=> ?_,fun i hi=> ?_,h.ne.1,fun i hi=> ?_,fun i hi=> ?_,h.ne.2.1⟩
 ·have a:i<nbs.length:=hi
  have b:j<nbs.length:=c;rw[jR a,jR b]at e;exact xE h.rR a b e
 ·have a:i<obs.length:=by have:i<nbs.length:=hi;omega
  have b:j<obs.length:=by have:j<nbs.length:=c;omega
  rw[jS a,jS b]at e;exact xE h.rS a b e
 ·have a:i<nbs.length:=hi
  rw[jR a];have:=d i a;show nbs[i]≠eb;omega
 ·have a:i<nbs.length:=hi
  rw[jR a];have:=d i a;show nbs[i]≠cb;omega
 ·have a:i<obs.length:=by have:i<nbs.length:=hi;omega
  rw[jS a];have:=hO i a;show obs[i]≠eo;omega
 ·have a:i<obs.length:=by have:i<nbs.length:=hi;omega
  rw[jS a];have:=hO i a;show obs[i]≠co;omega
theorem fX.below(h:fX pa B0 bb eb eo ib cb co jb pk nbs obs q dv w)(a:Below w w w1):fX pa B0 bb eb eo ib cb co jb pk nbs obs q dv w1:=
 ⟨h.ka.grown a,h.la,h.wb.below a,h.lp,h.gv,h.bl,h.pb,az a h.c0,az a h.c1,TS.frozen_kept a (zb h.c1) h.f1,az a h.c2,az a h.c3,az a h.c4,TS.frozen_kept a (zb h.c4) h.f4,bw h.row a,h.rd,h.ol,fun b e=>by have:=h.ends b e;have:=a.size;omega,h.rR,h.rS,fun i hi c=>let⟨h1,f,d,j⟩:=h.nm i hi c;⟨h1,f,(a.block _ (Array.getElem?_eq_some_iff.1 d).1).trans d,j⟩,h.rT,h.err,h.cmp,h.ne⟩
theorem fX.step(h:fX pa B0 bb eb eo ib cb co jb pk nbs obs q dv w)(X:eb<w.heap.size∧cb<w.heap.size∧eo<w.heap.size∧co<w.heap.size){m:ByteArray}{o:Obj}{j:Value}
 (hg:((((w.alloc (.cells #[.int .i64 0,Xp pk,.string m,.nilIface] 134)).setCell (Xa w 3) (Xi 60 (w+1))).alloc (.cells (gF w.heap.size) 130)).alloc o).grownBy w3 dv.ownBlock)
 (hr:w3.ownsRow (bb+1) 60 1 j (nbs.length+1) (nbs.map pv++ [pv (w.heap.size+1)]))(hv:j.ownBlock=dv.ownBlock∨j.ownBlock=some (w.heap.size+3)):
 ∃K,fX pa B0 bb eb eo ib cb co jb pk (nbs++ [w.heap.size+1]) (obs++ [w.heap.size]) K j (w3.setCell (Xa bb 1) j):=by
 have hT:(w.alloc (.cells #[.int .i64 0,Xp pk,.string m,.nilIface] 134)).heap[w.heap.size]?=some (.cells #[.int .i64 0,Xp pk,.string m,.nilIface] 134 (0,0)):=cA rfl;have hS:=heap_set (o:=3) (v:=Xi 60 (w+1)) hT;have Y:Below w w ((w.alloc (.cells #[.int .i64 0,Xp pk,.string m,.nilIface] 134)).setCell (Xa w 3) (Xi 60 (w+1))):=(zB.alloc zl _).setCell zl _;have B:((w.alloc (.cells #[.int .i64 0,Xp pk,.string m,.nilIface] 134)).setCell (Xa w 3) (Xi 60 (w+1))).heap.size=w.heap.size+1:=zs;generalize ((w.alloc (.cells #[.int .i64 0,Xp pk,.string m,.nilIface] 134)).setCell (Xa w 3) (Xi 60 (w+1)))=I at*;have hN:(I.alloc (.cells (gF w.heap.size) 130)).heap[w.heap.size+1]?=some (.cells (gF w.heap.size) 130 (0,0)):=cA B.symm;have Z:Below w w ((I.alloc (.cells (gF w.heap.size) 130)).alloc o):=(Y.alloc zo _).alloc zp _;have PQ:((I.alloc (.cells (gF w.heap.size) 130)).alloc o).heap.size=w.heap.size+3:=by simp[B]
 have D:((I.alloc (.cells (gF w.heap.size) 130)).alloc o).heap[w.heap.size+1]?=some (.cells (gF w.heap.size) 130 (0,0)):=by rw[dC (by simp[B])];exact hN
 have L:((I.alloc (.cells (gF w.heap.size) 130)).alloc o).heap[w.heap.size]?=some (.cells (#[.int .i64 0,(Xp pk:Value),.string m,.nilIface].setIfInBounds 3 (Xi 60 (w+1))) 134 (0,0)):=by rw[dC (by simp only[World.size_alloc];omega),dC zo];exact hS
 generalize ((I.alloc (.cells (gF w.heap.size) 130)).alloc o)=W at*;have p:=h.below Z;have r:Kept (fun c=>dv.ownBlock=some c) W w3:=(Kept.refl _ _).grown hg fun k hk _=>hk;have M:Kept (fun c=>c=bb∨dv.ownBlock=some c) W (w3.setCell (Xa bb 1) j):=(r.mono fun c _ e=> .inr e).setCell (fun _=> .inl rfl) _;have N:=zb h.c0;simp only at N;have t:∀b,dv.ownBlock=some b→bb<b∧b<w.heap.size:=fun b e=>by have:=h.row.lt b e;omega
 have E:dv.ownBlock≠some bb:=fun e=>by have:=t _ e;omega
 have l:∀b,w.heap.size≤b→∀o,q b o=none:=fun b hb o=>h.wb.kw.aF hb o;have z:∀f,f≠1→(w3.setCell (Xa bb 1) j).cell? (Xa bb f)=W.cell? (Xa bb f):=fun f J=>by
  rw[World.cell?_setCell_other _ _ _ _ (fun e=>J (congrArg Addr.off e).symm)];exact r.cell zo E
 have hf:∀f,(w3.setCell (Xa bb 1) j).frozen? (Xa bb f)=W.frozen? (Xa bb f):=fun f=>by
  rw[World.frozen?_setCell];exact r.frozen zo E
 have PG:Xc w3 bb 1 dv:=by rw[r.cell zo E];exact p.c1
 have PH:aN q (q.put w.heap.size 1 (ptr pk)) w.heap.size:=Pm.eH (l _ zl 1) zl;have PI:aN (q.put w.heap.size 1 (ptr pk)) ((q.put w.heap.size 1 (ptr pk)).put (w.heap.size+1) 1 (ptr w.heap.size)) w.heap.size:=Pm.eH (by rw[Pm.ba _ _ zo];exact l _ zo 1) zo;have O:=PH.trans PI zl;have P:=(p.wb.put (b:=w.heap.size) (o:=1) (v:=ptr pk) (by simp[World.cell?,L]) ⟨_,_,L⟩).put (b:=w.heap.size+1) (o:=1) (v:=ptr w.heap.size) (by simp[World.cell?,D,dt]) ⟨_,_,D⟩;have PJ:∀f,f≠1→((q.put w.heap.size 1 (ptr pk)).put (w.heap.size+1) 1 (ptr w.heap.size)) (w.heap.size+1) f=none:=fun f J=>by
  rw[Pm.ba _ _ zo,Pm.ba _ _ zo];exact l _ zo f
 have PK:((q.put w.heap.size 1 (ptr pk)).put (w.heap.size+1) 1 (ptr w.heap.size)) w.heap.size 1=some (ptr pk):=by rw[Pm.ba _ _ zo,Pm.fT]
 have PL:((q.put w.heap.size 1 (ptr pk)).put (w.heap.size+1) 1 (ptr w.heap.size)) (w.heap.size+1) 1=some (ptr w.heap.size):=Pm.fT ..;have F:∀b f,b<w.heap.size→((q.put w.heap.size 1 (ptr pk)).put (w.heap.size+1) 1 (ptr w.heap.size)) b f=q b f:=fun b f hb=>by
  rw[Pm.ba _ _ zo,Pm.ba _ _ zo]
 have PM:∀b f,w.heap.size+2≤b→((q.put w.heap.size 1 (ptr pk)).put (w.heap.size+1) 1 (ptr w.heap.size)) b f=none:=fun b f hb=>by
  rw[Pm.ba _ _ zo,Pm.ba _ _ zo];exact l _ zo f
 generalize ((q.put w.heap.size 1 (ptr pk)).put (w.heap.size+1) 1 (ptr w.heap.size))=K at*;have d:=O.le;have Q:∀c,c=bb∨dv.ownBlock=some c→B0≤c∧∀o,K c o=none:=fun c z=>by
  have PN:=h.bl;rcases z with rfl|e
  ·exact⟨PN,fun o=>by rw[F _ _ N];exact h.pb o⟩
  ·have:=t _ e
   exact⟨by omega,fun o=>by rw[F _ _ this.2];exact h.rd _ e o⟩
 have A:∀b,j.ownBlock=some b→b≠bb∧∀o,K b o=none:=fun b e=>by
  rcases hv with e1|e1
  ·rw[e1]at e;have:=t _ e;exact⟨by omega,(Q b (.inr e)).2⟩
  ·rw[e1]at e;cases e;exact⟨by omega,fun o=>PM _ _ zo⟩
 have R:=h.ol;have PR:=M.size;refine⟨K,⟨p.ka.kept M fun c o x e n=>by have:=h.la _ _ _ e;have:=(Q c n).1;omega,h.la,P.own M (fun c z=>(Q c z).2) (fun n=>by have:=(Q _ n).1;have:=h.gv;omega),fun b o x e=> ?_,h.gv,h.bl,fun o=>(Q bb (.inl rfl)).2 o,by rw[z 0 zd];exact p.c0,World.cell?_setCell_same _ _ _ PG,by rw[hf];exact p.f1,by rw[z 2 zd];exact p.c2,by rw[z 3 zd];exact p.c3,by rw[z 4 zd];exact p.c4,by rw[hf];exact p.f4,?_,fun b e=>(A b e).2,by simp[R],fun b e=> ?_,?_,?_,fun i hi PS=> ?_,?_,?_,?_,h.ne⟩⟩
 ·rcases O.new _ _ _ e with e|e
  ·exact h.lp _ _ _ e
  ·have:=h.bl;omega
 ·have h1:=eC (a:=(Xa bb 1)) hr (fun e=>(A _ e).1 rfl) j
  simpa using h1
 ·have e':b∈nbs++obs∨b=w.heap.size+1∨b=w.heap.size:=by
   simp only[List.mem_append,List.mem_singleton]at e⊢;rcases e with(e|e)|(e|e)
   ·exact .inl (.inl e)
   ·exact .inr (.inl e)
   ·exact .inl (.inr e)
   ·exact .inr (.inr e)
  rcases e' with e|e|e
  ·have:=h.ends b e;omega
  ·omega
  ·omega
 ·refine List.pairwise_append.2 ⟨h.rR,by simp,fun x n y hy=> ?_⟩
  have:y=w.heap.size+1:=by simpa using hy
  have:=h.ends x (List.mem_append_left _ n);omega
 ·refine List.pairwise_append.2 ⟨h.rS,by simp,fun x n y hy=> ?_⟩
  have:y=w.heap.size:=by simpa using hy
  have:=h.ends x (List.mem_append_right _ n);omega
 ·by_cases G:i<nbs.length
  ·obtain⟨H,S,T,V⟩:=p.nm i G zo
   have hl:=h.ends nbs[i] (List.mem_append_left _ (zm G));rw[List.getElem_append_left G,List.getElem_append_left (show i<obs.length by omega)];refine⟨d _ _ _ H,fun o J=>by rw[F _ _ hl.2.2.2.2.2];exact S o J,(M.block _ zo fun n=> ?_).trans T,d _ _ _ V⟩;rcases n with e|e
   ·omega
   ·rw[h.rd _ e 1]at H;cases H
  ·have PO:i=nbs.length:=by simp at hi;omega
   subst PO;rw[List.getElem_append_right zl,List.getElem_append_right zo];simp only[Nat.sub_self,List.getElem_cons_zero,R];refine⟨PL,fun o J=>PJ o J,(M.block _ zo fun n=> ?_).trans D,PK⟩;rcases n with e|e
   ·omega
   ·have:=t _ e;omega
 ·obtain⟨s,h1⟩:=h.rT;exact⟨s,d _ _ _ h1⟩
 ·obtain⟨H,S,⟨f,v',T⟩,V,k5,k6⟩:=h.err
  exact⟨d _ _ _ H,S.sub d,⟨f,v',d _ _ _ T⟩,d _ _ _ V,d _ _ _ k5,fun g=>(k6 g).sub d (aK.refl g)⟩
 ·obtain⟨H,S,⟨f,v',T⟩,V,k5,k6⟩:=h.cmp
  exact⟨d _ _ _ H,S.sub d,⟨f,v',d _ _ _ T⟩,d _ _ _ V,d _ _ _ k5,fun g=>(k6 g).sub d (aK.refl g)⟩
theorem fX.done(h:fX pa B0 bb eb eo ib cb co jb pk nbs obs q dv w)(D:Dl)(T:List U)(z:D.len=nbs.length):
 ∃q1 da dc,dv= .slice da nbs.length dc∧BS ⟨D,T,0,pa,B0,bb,da,dc⟩ q1 (jQ eb eo ib cb co jb pk nbs obs) (.slice none 0 0) [] w∧Sub q q1∧∀i(hi:i<nbs.length),∀o,o≠1→q1 nbs[i] o=none:=by
 obtain⟨q1,a,c,h1,s,A,t,y,B⟩:=xn (xs:=nbs.map pv) h.wb (by simpa using h.row) h.rd;have E:=h.ol;have d:=s.le;have F:=zb h.c0;simp only[List.length_map]at h1 t B;have m:dv.ownBlock≠some bb:=fun e=>by have:=(h.row.lt _ e).1;omega
 have p:ib<w.heap.size:=h.wb.kw.lt h.err.2.2.2.1;have r:jb<w.heap.size:=h.wb.kw.lt h.cmp.2.2.2.1;refine⟨q1,a,c,h1,⟨h.ka,h.la,A,fun b o v e=> ?_,h.inj,h.gv,h.bl,fun o=>by rw[y _ m];exact h.pb o,h.c0,⟨by have:=h.c1;rw[h1]at this;exact this,fun i hi=> ?_⟩,h.c2,h.c3,h.c4,h.f4,World.ownsRow_nil _ _ _ _,fun b e=>(by cases e),List.Pairwise.nil,fun b e=>(by cases e),fun b u e=> ?_,z.symm,fun i hi=> ?_,fun i hi=> ?_,?_,?_,⟨d _ _ _ h.err.1,_,h.err.2.1.sub d,.iface rfl (if_pos rfl)⟩,⟨d _ _ _ h.cmp.1,jb,h.cmp.2.1.sub d,?_⟩,fun n _ G=>absurd G (Nat.not_lt_zero _)⟩,d,fun i hi o H=> ?_⟩
 ·rcases s.new _ _ _ e with e|e
  ·exact h.lp _ _ _ e
  ·have:=h.bl;show B0≤b;omega
 ·obtain⟨b,o,k,l⟩:=t i hi
  refine⟨b,o,k,?_⟩;have f:i<nbs.length:=hi;have:(nbs.map pv).getD i undef=ptr ((jQ eb eo ib cb co jb pk nbs obs).nb i):=by rw[jR f];simp[List.getD,f]
  exact l.trans (congrArg some this)
 ·have j:(if b=ib then some aP else if b=jb then some dB else none)=some u:=e
  by_cases k:b=ib
  ·rw[if_pos k]at j;cases j;subst k
   exact⟨p,d _ _ _ h.err.2.2.2.1,d _ _ _ h.err.2.2.2.2.1,.inl ((h.err.2.2.2.2.2 _).sub d (aK.refl _))⟩
  ·rw[if_neg k]at j
   by_cases l:b=jb
   ·rw[if_pos l]at j;cases j;subst l
    exact⟨r,d _ _ _ h.cmp.2.2.2.1,d _ _ _ h.cmp.2.2.2.2.1,.inl ((h.cmp.2.2.2.2.2 _).sub d (aK.refl _))⟩
   ·rw[if_neg l]at j;cases j
 ·have f:i<nbs.length:=hi
  rw[jR f,jS zo];exact d _ _ _ (h.nm i f zo).1
 ·have f:i<nbs.length:=hi
  rw[jS zo];exact⟨1,_,d _ _ _ (h.nm i f zo).2.2.2⟩
 ·obtain⟨o,v,e⟩:=h.err.2.2.1;exact⟨o,v,d _ _ _ e⟩
 ·obtain⟨o,v,e⟩:=h.cmp.2.2.1;exact⟨o,v,d _ _ _ e⟩
 ·show(if jb=ib then _ else if jb=jb then _ else _)=_
  rw[if_neg h.ne.2.2.symm,if_pos rfl]
 ·have hk:=h.nm i hi zo
  rw[y _ fun e=>by rw[h.rd _ e 1]at hk;cases hk.1];exact hk.2.1 o H
end
theorem GY{q:Pm}{W:World}(h:WB q W):
 ∃c,aN q c W∧WB c ((((W.alloc (.cells #[.bool false,.nilIface] 168)).alloc (.cells #[Xp W] 164)).alloc (.cells #[.bool false,.slice none 0 0,.slice (Xa (W+1) 0) 1 1,.bool true] 139)).alloc
  (.cells (dI (.slice none 0 0) (.slice none 0 0) true (Xp (W+2))) 119))∧c (W.heap.size+3) 0=some (.pointer none)∧c (W.heap.size+3) 5=some (.bool true)∧∀g,cS c g (W.heap.size+3) dB:=by
 have h1:=h.box #[.bool false,.nilIface] 168;have l:=h1.box #[Xp W] 164;have m:=l.box #[.bool false,.slice none 0 0,.slice (Xa (W+1) 0) 1 1,.bool true] 139;have r:=m.box (dI (.slice none 0 0) (.slice none 0 0) true (Xp (W+2))) 119;simp only[World.size_alloc]at l m r;have f:∀o k,q (W.heap.size+k) o=none:=fun o k=>h.kw.aF zo o
 have j:=((((Pm.du (p:=q) (b:=W.heap.size) (n:=W.heap.size) (cs:=#[.bool false,.nilIface]) (fun o=>f o 0) zl).trans
  (Pm.du (b:=W.heap.size+1) (n:=W.heap.size) (cs:=#[Xp W]) (fun o=>by rw[Pm.aQ _ _ _ zo];exact f o 1) zo) zl).trans
  (Pm.du (b:=W.heap.size+2) (n:=W.heap.size) (cs:=#[.bool false,.slice none 0 0,.slice (Xa (W+1) 0) 1 1,.bool true]) (fun o=>by rw[Pm.aQ _ _ _ zo,Pm.aQ _ _ _ zo];exact f o 2) zo) zl)).trans
  (Pm.du (b:=W.heap.size+3) (n:=W.heap.size) (cs:=dI (.slice none 0 0) (.slice none 0 0) true (Xp (W+2))) (fun o=>by rw[Pm.aQ _ _ _ zo,Pm.aQ _ _ _ zo,Pm.aQ _ _ _ zo];exact f o 3) zo) zl
 have hu:under dB=dB:=cp zd zd zd zd;have a:an dB= []:=fB (by rw[hu];decide);have d:bd dB=true:=by rw[fA (by rw[hu];decide),hu];rfl
 have e:dr dB=([none],true):=by rw[dr,if_neg (by rw[hu];decide),hu];rfl
 refine⟨_,j,r,by rw[Pm.aU];rfl,by rw[Pm.aU];rfl,fun g=>⟨W.heap.size+2,none,0,fun _=>0,.some (Xa (W+1) 0),1,[none],true,by rw[Pm.aU];rfl,?_,?_,?_,?_,?_,?_,?_,by simp,by simp,⟨fun _=>W.heap.size,fun i hi=> ?_,fun i hi=> ?_⟩,?_,⟨.inl rfl,fun h=> ?_,fun _ _=> .inr rfl,fun _=>rfl,e⟩,fun h=> ?_,fun x h=> ?_⟩⟩
 ·rw[Pm.aQ _ _ _ zo,Pm.aU];rfl
 ·rw[Pm.aQ _ _ _ zo,Pm.aU,a];rfl
 ·rw[a];exact Nat.le_refl _
 ·rw[a];simp
 ·rw[a];intro i hi;simp at hi
 ·rw[a];intro i hi;simp at hi
 ·rw[Pm.aQ _ _ _ zo,Pm.aU];rfl
 ·have:i=0:=by simpa using hi
  subst this;exact⟨_,0,rfl,by rw[Pm.aQ _ _ _ zo,Pm.aQ _ _ _ zo,Pm.aU];rfl⟩
 ·have:i=0:=by simpa using hi
  subst this;show bh _ _ none W.heap.size;unfold bh;rw[Pm.aQ _ _ _ zo,Pm.aQ _ _ _ zo,Pm.aQ _ _ _ zo,Pm.aU];rfl
 ·rw[Pm.aQ _ _ _ zo,Pm.aU];rfl
 ·rw[d]at h;cases h
 ·cases h
 ·cases h;rfl
theorem BS.next{C:BC}{q:Pm}{g:Ge}{mv:Value}{ms:List Nat}{w:World}(h:BS C q g mv ms w)(b:∀hi:C.i<C.T.length,∃x,eL q (g.nb C.i) x∧Node q g C.T[C.i] x):BS {C with i:=C.i+1} q g mv ms w:=
 ⟨h.ka,h.la,h.wb,h.lp,h.inj,h.gv,h.bl,h.pb,h.c0,h.c1,h.c2,h.c3,h.c4,h.f4,h.row,h.rd,h.ord,h.mlt,h.ifs,h.len,h.nm,h.po,h.cY,h.cZ,h.err,h.cmp,fun n a hi=>by
  by_cases e:n=C.i
  ·subst e;exact b a
  ·exact h.tn n a (by have:n<C.i+1:=hi;omega)⟩
def iM(q:Pm)(g:Ge)(w:World)(i:Nat):Prop:=w.heap[g.nb i]?=some (.cells (gF (g.ob i)) 130 (0,0))∧(∀o,o≠1→q (g.nb i) o=none)
theorem BS.nk{C:BC}{p:Pm}{g:Ge}{mv:Value}{ms:List Nat}{w:World}(h:BS C p g mv ms w){i:Nat}(hi:i<g.len):¬(g.nb i=C.bb∨mv.ownBlock=some (g.nb i)):=fun e=>by
 have:=(h.ib (b:=g.nb i) (e.imp Eq.symm id)).2.2 1;rw[h.nm i hi]at this;cases this
theorem iM.below{q:Pm}{g:Ge}{w w1:World}{i:Nat}(h:iM q g w i)(a:Below w w w1):iM q g w1 i:=⟨(a.block _ (Array.getElem?_eq_some_iff.1 h.1).1).trans h.1,h.2⟩
theorem iM.step{C:BC}{p q:Pm}{g g1:Ge}{mv:Value}{ms ms1:List Nat}{w w1:World}{i:Nat}(h:iM p g w i)(b:BS C p g mv ms w)(hi:i<g.len)(a:aG C p g mv ms w q g1 ms1 w1):iM q g1 w1 i:=by
 have c:=(Array.getElem?_eq_some_iff.1 h.1).1;refine⟨by rw[a.gs.nb,a.gs.ob];exact(a.kept.block _ c (b.nk hi)).trans h.1,fun o d=> ?_⟩;rw[a.gs.nb];cases f:q (g.nb i) o with
 |none=>rfl
 |some x=>
  rcases a.gr.new _ _ _ f with e|e
  ·rw[h.2 o d]at e;cases e
  ·omega
theorem BS.told{C:BC}{q:Pm}{g:Ge}{mv:Value}{ms:List Nat}{w:World}{x:Value}(h:BS C q g mv ms w)(hi:C.i<g.len)(f:iM q g w C.i)(hT:∀hi:C.i<C.T.length,Node q g C.T[C.i] x):
 BS {C with i:=C.i+1} (((q.put (g.nb C.i) 5 (.int .u32 15)).put (g.nb C.i) 6 x).put (g.nb C.i) 7 x) g mv ms (((((((w.setCell (Xa (g.nb C.i) 3) (.int .i32 1)).setCell (Xa (g.nb C.i) 6) x).setCell (Xa (g.nb C.i) 2) (.bool false)).setCell (Xa (g.nb C.i) 5) (.int .u32 7)).setCell (Xa (g.nb C.i) 7) x).setCell (Xa (g.nb C.i) 5) (.int .u32 15)).setCell (Xa (g.nb C.i) 3) (.int .i32 0))∧
 Sub q (((q.put (g.nb C.i) 5 (.int .u32 15)).put (g.nb C.i) 6 x).put (g.nb C.i) 7 x)∧(∀b o,b≠g.nb C.i→(((q.put (g.nb C.i) 5 (.int .u32 15)).put (g.nb C.i) 6 x).put (g.nb C.i) 7 x) b o=q b o)∧
 Kept (fun c=>c=g.nb C.i) w (((((((w.setCell (Xa (g.nb C.i) 3) (.int .i32 1)).setCell (Xa (g.nb C.i) 6) x).setCell (Xa (g.nb C.i) 2) (.bool false)).setCell (Xa (g.nb C.i) 5) (.int .u32 7)).setCell (Xa (g.nb C.i) 7) x).setCell (Xa (g.nb C.i) 5) (.int .u32 15)).setCell (Xa (g.nb C.i) 3) (.int .i32 0))∧
 dL C (((q.put (g.nb C.i) 5 (.int .u32 15)).put (g.nb C.i) 6 x).put (g.nb C.i) 7 x) g (((((((w.setCell (Xa (g.nb C.i) 3) (.int .i32 1)).setCell (Xa (g.nb C.i) 6) x).setCell (Xa (g.nb C.i) 2) (.bool false)).setCell (Xa (g.nb C.i) 5) (.int .u32 7)).setCell (Xa (g.nb C.i) 7) x).setCell (Xa (g.nb C.i) 5) (.int .u32 15)).setCell (Xa (g.nb C.i) 3) (.int .i32 0)) C.i 0 (fun _=>ByteArray.empty) (.slice none 0 0) []:=by
 have t:=h.nm _ hi;have y:=h.lp _ _ _ t;have F:=h.gv;have n:g.nb C.i≠C.bb:=fun e=>h.nk hi (.inl e);have r:mv.ownBlock≠some (g.nb C.i):=fun e=>h.nk hi (.inr e);have z:g.G (g.nb C.i)=none:=by
  cases H:g.G (g.nb C.i)with
  |none=>rfl
  |some u=>have:=(h.ifs _ _ H).2.1;rw[f.2 0 zd]at this;cases this
 obtain⟨s,A,l,E⟩:=h.wb.named (x:=x) f.1 f.2 zo;generalize (((((((w.setCell (Xa (g.nb C.i) 3) (.int .i32 1)).setCell (Xa (g.nb C.i) 6) x).setCell (Xa (g.nb C.i) 2) (.bool false)).setCell (Xa (g.nb C.i) 5) (.int .u32 7)).setCell (Xa (g.nb C.i) 7) x).setCell (Xa (g.nb C.i) 5) (.int .u32 15)).setCell (Xa (g.nb C.i) 3) (.int .i32 0))=I at*;have B:=h.rP E s fun c e=>by subst e;exact⟨y,f.2 0 zd,n,r⟩
 have J:=Pm.fU (p:=q) (b:=g.nb C.i) (o:=5) (.int .u32 15) (f.2 5 zd);have K:=Pm.fU (p:=q.put (g.nb C.i) 5 (.int .u32 15)) (b:=g.nb C.i) (o:=6) x (by rw[Pm.ba _ _ zo];exact f.2 6 zd);have L:=Pm.fU (p:=(q.put (g.nb C.i) 5 (.int .u32 15)).put (g.nb C.i) 6 x) (b:=g.nb C.i) (o:=7) x (by rw[Pm.ba _ _ zo,Pm.ba _ _ zo];exact f.2 7 zd);have d:=(J.trans K).trans L;have a:∀b o,b≠g.nb C.i→(((q.put (g.nb C.i) 5 (.int .u32 15)).put (g.nb C.i) 6 x).put (g.nb C.i) 7 x) b o=q b o:=fun b o m=>by
  rw[Pm.ba _ _ fun e=>m e.1,Pm.ba _ _ fun e=>m e.1,Pm.ba _ _ fun e=>m e.1]
 have M:(((q.put (g.nb C.i) 5 (.int .u32 15)).put (g.nb C.i) 6 x).put (g.nb C.i) 7 x) (g.nb C.i) 5=some (.int .u32 15):=by simp[Pm.put]
 have N:(((q.put (g.nb C.i) 5 (.int .u32 15)).put (g.nb C.i) 6 x).put (g.nb C.i) 7 x) (g.nb C.i) 6=some x:=by simp[Pm.put]
 have h7:(((q.put (g.nb C.i) 5 (.int .u32 15)).put (g.nb C.i) 6 x).put (g.nb C.i) 7 x) (g.nb C.i) 7=some x:=by simp[Pm.put]
 have O:(((q.put (g.nb C.i) 5 (.int .u32 15)).put (g.nb C.i) 6 x).put (g.nb C.i) 7 x) (g.nb C.i) 0=none:=by simp[Pm.put];exact f.2 0 zd
 have P:(((q.put (g.nb C.i) 5 (.int .u32 15)).put (g.nb C.i) 6 x).put (g.nb C.i) 7 x) (g.nb C.i) 9=none:=by simp[Pm.put];exact f.2 9 zd
 generalize (((q.put (g.nb C.i) 5 (.int .u32 15)).put (g.nb C.i) 6 x).put (g.nb C.i) 7 x)=Q at*;have D:BS C Q g mv ms I:=B.jO d A (fun b o v e=> ?_) (fun o=>by rw[a _ _ n.symm];exact h.pb o) (fun b e o=>by rw[a _ _ fun k=>r (k▸e)];exact(h.rd b e).2 o) (fun b u m e=>by rw[a _ _ fun k=>by rw[k,z]at m;cases m];exact e)
 ·refine⟨D.next fun hi=>⟨x,⟨M,N,h7⟩,(hT hi).sub d (aK.refl g)⟩,d,a,E,⟨rfl,?_,?_,P,O,World.ownsRow_nil _ _ _ _,fun b e=>(by cases e),fun j R=>absurd R (Nat.not_lt_zero _)⟩⟩
  ·simp only[World.cell?,l];rfl
  ·simp only[World.frozen?,l];rfl
 ·by_cases S:b=g.nb C.i
  ·omega
  ·rw[a _ _ S]at e;exact h.lp _ _ _ e
abbrev ew(w2:World)(pk eb:Nat):World:=(w2.alloc (.cells #[Xp pk,.slice none 0 0,ah 60 eb,.nilIface,.slice none 0 0] 65)).alloc (.cells #[.int .i64 0,.pointer none,.string ⟨#[99,111,109,112,97,114,97,98,108,101]⟩,.nilIface] 134)
abbrev jT(W:World):World:=(((W.alloc (.cells #[.bool false,.nilIface] 168)).alloc (.cells #[Xp W] 164)).alloc (.cells #[.bool false,.slice none 0 0,.slice (Xa (W+1) 0) 1 1,.bool true] 139)).alloc
 (.cells (dI (.slice none 0 0) (.slice none 0 0) true (Xp (W+2))) 119)
abbrev xF(W:World)(bb:Nat):World:=((W.setCell (Xa (bb+1) 3) (Xi 60 (bb+6))).alloc (.cells (dt (Xa (bb+1) 0) false 0 15 (Xi 37 (bb+5)) (Xi 37 (bb+5)) (.slice none 0 0)) 130)).setCell (Xa bb 3) (Xi 60 (bb+6))
theorem GZ{pa a:Pm}{w w2:World}{eb eo ib:Nat}(hw:KW pa w)(D:w2.heap[w.heap.size]?=some (.cells #[.string ⟨#[112]⟩,.string ⟨#[112]⟩] 100 (0,0)))(E:WB a w2)(F:Below w w w2)(G:∀b o v,a b o=some v→w.heap.size+1≤b)(hG:5<w.heap.size)(PY:eb<w2.heap.size)(PZ:eo<w2.heap.size)
 (t:a eb 1=some (ptr eo)∧eL a eb (ah 37 ib)∧(∃o v,a eo o=some v)∧a ib 0=some (.pointer none)∧a ib 5=some (.bool true)∧∀g,cS a g ib aP):
 ∃q,fX pa w.heap.size w2.heap.size eb eo ib (w2.heap.size+6) (w2.heap.size+1) (w2.heap.size+5) w.heap.size [] [] q (.slice none 0 0) (xF (jT (ew w2 w.heap.size eb)) w2.heap.size):=by
 have P0:=(Array.getElem?_eq_some_iff.1 D).1;have P1:=E.kw.lt t.2.2.2.1;have H:∀o,a w.heap.size o=none:=fun o=>by
  cases h:a w.heap.size o with
  |none=>rfl
  |some v=>have:=G _ _ _ h;omega
 have h3:=E.add (T:=100) H D;have I:=Pm.du (p:=a) (b:=w.heap.size) (n:=w.heap.size) (cs:=#[.string ⟨#[112]⟩,.string ⟨#[112]⟩]) H zl;have J:(a.add w.heap.size #[.string ⟨#[112]⟩,.string ⟨#[112]⟩]) w.heap.size 0=some (.string ⟨#[112]⟩):=by rw[Pm.aU];rfl
 have K:∀b o v,(a.add w.heap.size #[.string ⟨#[112]⟩,.string ⟨#[112]⟩]) b o=some v→w.heap.size≤b:=fun b o v e=>by
  rcases I.new _ _ _ e with e|e
  ·have:=G _ _ _ e;omega
  ·exact e
 generalize a.add w.heap.size #[.string ⟨#[112]⟩,.string ⟨#[112]⟩]=q3 at*;have L:Below w2 w2 (ew w2 w.heap.size eb):=(zB.alloc zl _).alloc zs _;have PG:(ew w2 w.heap.size eb).heap.size=w2.heap.size+2:=by simp[ew]
 have hA0:(ew w2 w.heap.size eb).heap[w2.heap.size]?=some (.cells #[Xp w,.slice none 0 0,ah 60 eb,.nilIface,.slice none 0 0] 65 (0,0)):=by unfold ew;rw[dC zs];exact cA rfl
 have hA1:(ew w2 w.heap.size eb).heap[w2.heap.size+1]?=some (.cells #[.int .i64 0,.pointer none,.string ⟨#[99,111,109,112,97,114,97,98,108,101]⟩,.nilIface] 134 (0,0)):=by unfold ew;exact cA zs
 have h4:=h3.below L;generalize ew w2 w.heap.size eb=y at*;obtain⟨j,z,h5,M,N,O⟩:=GY h4;have A:Below y y (jT y):=(((zB.alloc zl _).alloc zs _).alloc zp _).alloc zp _;have P2:(jT y).heap.size=y.heap.size+4:=by simp[jT]
 have P:WB j (jT y):=h5;clear h5;generalize jT y=k at*;have PH:=(A.block _ zo).trans hA0;have PI:=(A.block _ zo).trans hA1;rw[PG,show w2.heap.size+2+3=w2.heap.size+5 by omega]at M N O;have l:∀c o,w2.heap.size≤c→c<w2.heap.size+2→j c o=none:=fun c o h1 h2=>by
  cases h:j c o with
  |none=>rfl
  |some v=>
   rcases z.new _ _ _ h with e|e
   ·rw[h3.kw.aF h1]at e;cases e
   ·omega
 have m:∀o,j (w2.heap.size+6) o=none:=fun o=>P.kw.aF zo o;have hS:=heap_set (o:=3) (v:=Xi 60 (w2+6)) PI;have PJ:(k.setCell (Xa (w2+1) 3) (Xi 60 (w2+6))).heap[w2.heap.size]?=_:=(Below.heap_setCell _ _ _ _ zs).trans PH;have h6:=P.setCell (b:=w2.heap.size+1) (o:=3) (Xi 60 (w2+6)) (l _ _ zo zo) zo;have PK:(k.setCell (Xa (w2+1) 3) (Xi 60 (w2+6))).heap.size=w2.heap.size+6:=zp;have PL:Below w2 w2 (k.setCell (Xa (w2+1) 3) (Xi 60 (w2+6))):=(L.trans (A.mono zo)).setCell zs _;unfold xF;generalize k.setCell (Xa (w2+1) 3) (Xi 60 (w2+6))=B at*;have h7:=(h6.below (zB.alloc zl (.cells (dt (Xa (w2+1) 0) false 0 15 (Xi 37 (w2+5)) (Xi 37 (w2+5)) (.slice none 0 0)) 130))).setCell (b:=w2.heap.size) (o:=3) (Xi 60 (w2+6)) (l _ _ zl zo) zo;have hN:(B.alloc (.cells (dt (Xa (w2+1) 0) false 0 15 (Xi 37 (w2+5)) (Xi 37 (w2+5)) (.slice none 0 0)) 130)).heap[w2.heap.size+6]?=some (.cells (dt (Xa (w2+1) 0) false 0 15 (Xi 37 (w2+5)) (Xi 37 (w2+5)) (.slice none 0 0)) 130 (0,0)):=cA PK.symm;have PM:=(dC (w:=B) (o:= .cells (dt (Xa (w2+1) 0) false 0 15 (Xi 37 (w2+5)) (Xi 37 (w2+5)) (.slice none 0 0)) 130) zo).trans PJ;have PN:=(dC (w:=B) (o:= .cells (dt (Xa (w2+1) 0) false 0 15 (Xi 37 (w2+5)) (Xi 37 (w2+5)) (.slice none 0 0)) 130) zo).trans hS;have P3:(B.alloc (.cells (dt (Xa (w2+1) 0) false 0 15 (Xi 37 (w2+5)) (Xi 37 (w2+5)) (.slice none 0 0)) 130)).heap.size=w2.heap.size+7:=zp;have PO:Below w2 w2 (B.alloc (.cells (dt (Xa (w2+1) 0) false 0 15 (Xi 37 (w2+5)) (Xi 37 (w2+5)) (.slice none 0 0)) 130)):=PL.alloc zo _;generalize B.alloc (.cells (dt (Xa (w2+1) 0) false 0 15 (Xi 37 (w2+5)) (Xi 37 (w2+5)) (.slice none 0 0)) 130)=Z at*;have hF:=heap_set (o:=3) (v:=Xi 60 (w2+6)) PM;have Q:=(Below.heap_setCell Z (Xa w2 3) (Xi 60 (w2+6)) (w2.heap.size+1) zs).trans PN;have R:=(Below.heap_setCell Z (Xa w2 3) (Xi 60 (w2+6)) (w2.heap.size+6) zs).trans hN;have PQ:Below w2 w2 (Z.setCell (Xa w2 3) (Xi 60 (w2+6))):=PO.setCell zl _;generalize Z.setCell (Xa w2 3) (Xi 60 (w2+6))=WF at*;have S:∀o v,(#[Xp w,.slice none 0 0,ah 60 eb,Xi 60 (w2+6),.slice none 0 0]:Array Value)[o]?=some v→Xc WF w2 o v:=fun o v e=>by simp only[World.cell?,hF];simpa using e
 have V:∀o,WF.frozen? (Xa w2 o)=false:=fun o=>by simp[World.frozen?,hF]
 have r:∀o v,(dt (Xa (w2+1) 0) false 0 15 (Xi 37 (w2+5)) (Xi 37 (w2+5)) (.slice none 0 0))[o]?=some v→Xc WF (w2+6) o v:=fun o v e=>by simp only[World.cell?,R];exact e
 have s:Plain WF (w2.heap.size+6):=⟨_,_,R⟩
 have h8:=((((h7.put (b:=w2.heap.size+1) (o:=0) (v:= .int .i64 0) (by simp[World.cell?,Q]) ⟨_,_,Q⟩).put (r 1 _ rfl) s).put (r 5 _ rfl) s).put (r 6 _ rfl) s).put (r 7 _ rfl) s;have PR:=Pm.eH (p:=j) (b:=w2.heap.size+1) (o:=0) (n:=w2.heap.size) (v:= .int .i64 0) (l _ _ zo zo) zo;have PS:=Pm.eH (p:=j.put (w2.heap.size+1) 0 (.int .i64 0)) (b:=w2.heap.size+6) (o:=1) (n:=w2.heap.size) (v:=ptr (w2.heap.size+1)) (by simp[Pm.put,m]) zo;have PT:=Pm.eH (p:=(j.put (w2.heap.size+1) 0 (.int .i64 0)).put (w2.heap.size+6) 1 (ptr (w2.heap.size+1))) (b:=w2.heap.size+6) (o:=5) (n:=w2.heap.size) (v:= .int .u32 15) (by simp[Pm.put,m]) zo;have PU:=Pm.eH (p:=((j.put (w2.heap.size+1) 0 (.int .i64 0)).put (w2.heap.size+6) 1 (ptr (w2.heap.size+1))).put (w2.heap.size+6) 5 (.int .u32 15)) (b:=w2.heap.size+6) (o:=6) (n:=w2.heap.size) (v:=ah 37 (w2.heap.size+5)) (by simp[Pm.put,m]) zo;have PW:=Pm.eH (p:=(((j.put (w2.heap.size+1) 0 (.int .i64 0)).put (w2.heap.size+6) 1 (ptr (w2.heap.size+1))).put (w2.heap.size+6) 5 (.int .u32 15)).put (w2.heap.size+6) 6 (ah 37 (w2.heap.size+5))) (b:=w2.heap.size+6) (o:=7) (n:=w2.heap.size) (v:=ah 37 (w2.heap.size+5)) (by simp[Pm.put,m]) zo;have W:=(((PR.trans PS zl).trans PT zl).trans PU zl).trans PW zl;have d:=W.le;have X:=z.le.trans d;have f:=I.le.trans X;have Y:∀o,(((((j.put (w2.heap.size+1) 0 (.int .i64 0)).put (w2.heap.size+6) 1 (ptr (w2.heap.size+1))).put (w2.heap.size+6) 5 (.int .u32 15)).put (w2.heap.size+6) 6 (ah 37 (w2.heap.size+5))).put (w2.heap.size+6) 7 (ah 37 (w2.heap.size+5))) w2.heap.size o=none:=fun o=>by
  repeat rw[Pm.ba _ _ zo]
  exact l _ _ zl zo
 have PX:=F.size;refine⟨_,(hw.grown F).grown PQ,fun b o v e=>hw.lt e,h8,fun b o v e=> ?_,hG,by omega,Y,S 0 _ rfl,S 1 _ rfl,V 1,S 2 _ rfl,S 3 _ rfl,S 4 _ rfl,V 4,World.ownsRow_nil _ _ _ _,fun b e=>(by cases e),rfl,fun b e=>(by cases e),List.Pairwise.nil,List.Pairwise.nil,fun i hi=>absurd hi (Nat.not_lt_zero _),⟨_,X _ _ _ J⟩,?_,⟨by simp[Pm.put],⟨by simp[Pm.put],by simp[Pm.put],by simp[Pm.put]⟩,⟨0,.int .i64 0,by simp[Pm.put]⟩,d _ _ _ M,d _ _ _ N,fun g=>(O g).sub d (aK.refl g)⟩,⟨by omega,by omega,by omega⟩⟩
 ·rcases W.new _ _ _ e with e|e
  ·rcases z.new _ _ _ e with e|e
   ·exact K _ _ _ e
   ·omega
  ·omega
 ·obtain⟨k1,k2,⟨o,v,k3⟩,k4,k5,k6⟩:=t
  exact⟨f _ _ _ k1,k2.sub f,⟨o,v,f _ _ _ k3⟩,f _ _ _ k4,f _ _ _ k5,fun g=>(k6 g).sub f (aK.refl g)⟩
structure L2(C:BC)(w:World)(q:Pm)(g:Ge)(mv:Value)(ms:List Nat)(wr:World):Prop where
 bs:BS C q g mv ms wr
 wt:∀j,C.i≤j→j<C.D.len→iM q g wr j
 mt:∀j,j<C.i→dL C q g wr j 0 (fun _=>ByteArray.empty) (.slice none 0 0) []
 ob:∀j,j<C.D.len→q (g.ob j) 1=some (ptr g.pk)
 pk:∃s,q g.pk 0=some (.string s)
 ct:ms.length≤aZ (C.T.take C.i)
 bl:Below w w wr
 b0:w.heap.size≤C.B0
section
variable {C:BC} {w wr W0 w1:World} {q q1:Pm} {g g1:Ge} {mv mv1:Value} {ms ms1:List Nat} {u:U} {x:Value}
theorem L2.wait(h:L2 C w q g mv ms wr)(hi:C.i<C.D.len)(a:Below wr wr W0)(b:aG C q g mv ms W0 q1 g1 ms1 w1):iM q1 g1 w1 C.i:=
 (h.wt _ zl hi).step h.bs (by rw[h.bs.len];exact hi) (aG.ahead a b)
theorem L2.step(h:L2 C w q g mv ms wr)(hi:C.i<C.D.len)(hu:C.T[C.i]?=some u)(t:Below wr wr W0)(d:BS C q1 g1 mv1 ms1 w1)(v:aG C q g mv ms W0 q1 g1 ms1 w1)(K:ms1.length≤ms.length+cn u)(L:Node q1 g1 u x):
 ∃z,L2 {C with i:=C.i+1} w z g1 mv1 ms1 (((((((w1.setCell (Xa (g1.nb C.i) 3) (.int .i32 1)).setCell (Xa (g1.nb C.i) 6) x).setCell (Xa (g1.nb C.i) 2) (.bool false)).setCell (Xa (g1.nb C.i) 5) (.int .u32 7)).setCell (Xa (g1.nb C.i) 7) x).setCell (Xa (g1.nb C.i) 5) (.int .u32 15)).setCell (Xa (g1.nb C.i) 3) (.int .i32 0))∧Sub q1 z∧
  Kept (fun c=>c=g1.nb C.i) w1 (((((((w1.setCell (Xa (g1.nb C.i) 3) (.int .i32 1)).setCell (Xa (g1.nb C.i) 6) x).setCell (Xa (g1.nb C.i) 2) (.bool false)).setCell (Xa (g1.nb C.i) 5) (.int .u32 7)).setCell (Xa (g1.nb C.i) 7) x).setCell (Xa (g1.nb C.i) 5) (.int .u32 15)).setCell (Xa (g1.nb C.i) 3) (.int .i32 0)):=by
 have a:=aG.ahead t v;have hlen:g1.len=C.D.len:=d.len;have B:g.len=C.D.len:=h.bs.len;have M:=h.wait hi t v;obtain⟨E,f,k,y,hM⟩:=d.told zo M fun N=>by
  have:C.T[C.i]=u:=(List.getElem?_eq_some_iff.1 hu).2;rw[this];exact L
 generalize (((((((w1.setCell (Xa (g1.nb C.i) 3) (.int .i32 1)).setCell (Xa (g1.nb C.i) 6) x).setCell (Xa (g1.nb C.i) 2) (.bool false)).setCell (Xa (g1.nb C.i) 5) (.int .u32 7)).setCell (Xa (g1.nb C.i) 7) x).setCell (Xa (g1.nb C.i) 5) (.int .u32 15)).setCell (Xa (g1.nb C.i) 3) (.int .i32 0))=w2 at*;generalize (((q1.put (g1.nb C.i) 5 (.int .u32 15)).put (g1.nb C.i) 6 x).put (g1.nb C.i) 7 x)=z at*;have n:∀j,j<C.D.len→j≠C.i→g1.nb j≠g1.nb C.i:=fun j m F e=>F (d.inj.nb j C.i zo zo e);have H:=d.lp _ _ _ (d.nm C.i zo);refine⟨z,⟨E,fun j h1 O=> ?_,fun j m=> ?_,fun j m=> ?_,?_,?_,?_,h.b0⟩,f,y⟩
 ·have P:C.i+1≤j:=h1
  have p:j<C.D.len:=O;have r:=(h.wt j zo p).step h.bs zo a;refine⟨(y.block _ (Array.getElem?_eq_some_iff.1 r.1).1 (n j p zo)).trans r.1,fun o Q=> ?_⟩;rw[k _ _ (n j p zo)];exact r.2 o Q
 ·have R:j<C.i+1:=m
  by_cases e:j=C.i
  ·subst e
   exact⟨hM.fl,hM.c9,hM.f9,hM.d9,hM.d0,World.ownsRow_nil _ _ _ _,fun b e=>(by cases e),fun j m=>absurd m (Nat.not_lt_zero _)⟩
  ·have l:=(h.mt j zo).step h.bs zo a
   have A:=n j zo e;have I:=zb l.c9;exact⟨rfl,by rw[y.cell I A];exact l.c9,by rw[y.frozen I A];exact l.f9,by rw[k _ _ A];exact l.d9,by rw[k _ _ A];exact l.d0,World.ownsRow_nil _ _ _ _,fun b e=>(by cases e),fun j m=>absurd m (Nat.not_lt_zero _)⟩
 ·have:=h.ob j m
  rw[a.gs.ob,a.gs.pk];exact f _ _ _ (a.gr.le _ _ _ this)
 ·obtain⟨s,e⟩:=h.pk
  exact⟨s,by rw[a.gs.pk];exact f _ _ _ (a.gr.le _ _ _ e)⟩
 ·have:=gC hu
  have:=h.ct;show _≤aZ (C.T.take (C.i+1));omega
 ·have G:=h.bl.size
  have J:=a.kept.size;refine Below.own (Below.own h.bl a.kept G fun b e=> ?_) y zo fun b e=> ?_
  ·have:=(h.bs.ib (b:=b) (e.imp Eq.symm id)).1
   have:=h.b0;omega
  ·have:=h.b0;omega
end
theorem G0{u:U}(h:1≤u.k∧u.k≤10∧u.k≠2):under u=u:=cp h.2.2 zo zo zo
theorem G1{p:Pm}{g:Ge}{u:U}{t c:Nat}(h:Node p g u (ah t c))(h1:1≤u.k)(a:u.k≤10)(d:u.k≠2):t≠142∧t≠60:=by
 generalize b:ah t c=x at h;cases h with
 |basic _ _|array _ _ _ _ _|slice _ _ _ _|pointer _ _ _ _|map _ _ _ _ _ _|chan _ _ _ _ _|struct _ _ _ _ _ _ _ _ _|func _ _ _ _ _ _ _ _ _|iface _ _=>cases b;exact⟨by decide,by decide⟩
 |_=>omega
def cG(l:List br):Nat:=(l.map fun m=>cn m.sig).sum
def dn(l:List aC):Nat:=(l.map fun d=>cG d.ms).sum
theorem G2{l:List br}{k:Nat}{m:br}(h:l[k]?=some m):cG (l.take (k+1))=cG (l.take k)+cn m.sig:=by
 unfold cG;rw[List.take_add_one,h];simp
theorem G3{l:List aC}{k:Nat}{d:aC}(h:l[k]?=some d):dn (l.take (k+1))=dn (l.take k)+cG d.ms:=by
 unfold dn;rw[List.take_add_one,h];simp
theorem xG(l:List br)(k:Nat):cG (l.take k)≤cG l:=by
 have h:cG (l.take k++l.drop k)=cG (l.take k)+cG (l.drop k):=by unfold cG;rw[List.map_append,List.sum_append]
 rw[List.take_append_drop]at h;omega
theorem xH(l:List aC)(k:Nat):dn (l.take k)≤dn l:=by
 have h:dn (l.take k++l.drop k)=dn (l.take k)+dn (l.drop k):=by unfold dn;rw[List.map_append,List.sum_append]
 rw[List.take_append_drop]at h;omega
def lK(l:List br)(k:Nat):ByteArray:=(l[k]?.map br.nm).getD ByteArray.empty
structure L3(C:BC)(w:World)(i:Nat)(q:Pm)(g:Ge)(mv:Value)(ms:List Nat)(N:Nat)(wr:World):Prop where
 bs:BS C q g mv ms wr
 mt:∀j,i≤j→j<C.D.len→dL C q g wr j 0 (fun _=>ByteArray.empty) (.slice none 0 0) []
 ob:∀j,j<C.D.len→q (g.ob j) 1=some (ptr g.pk)
 pk:∃s,q g.pk 0=some (.string s)
 ct:ms.length≤N
 bl:Below w w wr
 b0:w.heap.size≤C.B0
theorem dL.zero{C:BC}{q:Pm}{g:Ge}{w:World}{j:Nat}{aI a:Nat→ByteArray}(h:dL C q g w j 0 aI (.slice none 0 0) []):dL C q g w j 0 a (.slice none 0 0) []:=
 ⟨rfl,h.c9,h.f9,h.d9,h.d0,World.ownsRow_nil _ _ _ _,fun b e=>(by cases e),fun j c=>absurd c (Nat.not_lt_zero _)⟩
theorem L2.done{C:BC}{w wr:World}{q:Pm}{g:Ge}{mv:Value}{ms:List Nat}(h:L2 C w q g mv ms wr)(hi:C.i=C.D.len){N:Nat}(a:aZ (C.T.take C.i)≤N):L3 C w 0 q g mv ms N wr:=
 ⟨h.bs,fun j _ b=>h.mt j zo,h.ob,h.pk,Nat.le_trans h.ct a,h.bl,h.b0⟩
theorem L3.below{C:BC}{w wr w1:World}{i:Nat}{q:Pm}{g:Ge}{mv:Value}{ms:List Nat}{N:Nat}(h:L3 C w i q g mv ms N wr)(a:Below wr wr w1):L3 C w i q g mv ms N w1:=
 ⟨h.bs.below a,fun j h1 b=>(h.mt j h1 b).below a,h.ob,h.pk,h.ct,h.bl.trans (a.mono h.bl.size),h.b0⟩
theorem L3.pg{C:BC}{w wr:World}{i a:Nat}{q:Pm}{g:Ge}{mv:Value}{ms:List Nat}{N b:Nat}(h:L3 C w i q g mv ms N wr)(hi:i≤a)(c:N≤b):L3 C w a q g mv ms b wr:=
 ⟨h.bs,fun j h1 d=>h.mt j zo d,h.ob,h.pk,Nat.le_trans h.ct c,h.bl,h.b0⟩
theorem L3.step{C:BC}{w wr w1:World}{i k:Nat}{q q1:Pm}{g g1:Ge}{mv mv1:Value}{ms ms1:List Nat}{N M:Nat}{aI:Nat→ByteArray}{v:Value}{fs:List Nat}(h:L3 C w (i+1) q g mv ms N wr)(hi:i<C.D.len)(hM:dL C q g wr i k aI v fs)(m:BS C q1 g1 mv1 ms1 w1)(f:aN q q1 wr)(a:aK g g1)
 (n:Kept (fun c=>c=C.bb∨mv.ownBlock=some c∨c=g.nb i∨v.ownBlock=some c) wr w1)(B:ms1.length≤ms.length+M):L3 C w (i+1) q1 g1 mv1 ms1 (N+M) w1:=by
 have hlen:g.len=C.D.len:=h.bs.len;refine⟨m,fun j h1 E=> ?_,fun j p=> ?_,?_,by have:=h.ct;omega,?_,h.b0⟩
 ·have d:=h.mt j h1 E
  have r:=zb d.c9;simp only at r;have l:=h.bs.nm j zo;have z:¬(g.nb j=C.bb∨mv.ownBlock=some (g.nb j)∨g.nb j=g.nb i∨v.ownBlock=some (g.nb j)):=fun e=>by
   rcases e with e|e|e|e
   ·exact h.bs.nk (i:=j) zo (.inl e)
   ·exact h.bs.nk (i:=j) zo (.inr e)
   ·have:=h.bs.inj.nb j i zo zo e;omega
   ·rw[hM.rd _ e 1]at l;cases l
  have A:∀o,q (g.nb j) o=none→q1 (g.nb j) o=none:=fun o e=>by
   cases F:q1 (g.nb j) o with
   |none=>rfl
   |some x=>
    rcases f.new _ _ _ F with t|t
    ·rw[e]at t;cases t
    ·omega
  exact⟨rfl,by rw[a.nb,n.cell r z];exact d.c9,by rw[a.nb,n.frozen r z];exact d.f9,by rw[a.nb];exact A 9 d.d9,by rw[a.nb];exact A 0 d.d0,World.ownsRow_nil _ _ _ _,fun b e=>(by cases e),fun j p=>absurd p (Nat.not_lt_zero _)⟩
 ·rw[a.ob,a.pk];exact f.le _ _ _ (h.ob j p)
 ·obtain⟨s,e⟩:=h.pk
  exact⟨s,by rw[a.pk];exact f.le _ _ _ e⟩
 ·have y:=h.bl.size
  refine Below.own h.bl n y fun b e=> ?_;have G:=h.b0;rcases e with e|e|e|e
  ·have:=h.bs.bl;omega
  ·have:=(h.bs.ib (b:=b) (.inr e)).1;omega
  ·have:=h.bs.lp _ _ _ (h.bs.nm i zo);omega
  ·have:=(hM.row.lt _ e).1;have:=h.bs.bl;omega
end TS
