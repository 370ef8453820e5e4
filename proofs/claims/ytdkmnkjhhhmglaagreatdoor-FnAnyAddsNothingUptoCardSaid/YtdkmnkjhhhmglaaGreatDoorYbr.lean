import Derived.Test.YtdkmnkjhhhmglaaGreatDoorYbl
import Derived.Test.YtdkmnkjhhhmglaaGreatDoorYbp
set_option maxRecDepth 100000
set_option maxHeartbeats 8000000
set_option linter.all false
namespace TS
open Go Go.RowKit Go.Proofs.YtdkmnkjhhhmglaaGreatDoor
abbrev gj(o:Nat):Array Value:=dq ⟨o,0,none⟩ true 0 0 .nilIface .nilIface (.slice none 0 0)
def jQ(eb eo ib cb co jb pk:Nat)(nbs obs:List Nat):Ge:=
 ⟨fun i=>nbs.getD i 0,fun i=>obs.getD i 0,nbs.length,eb,eo,cb,co,pk,fun b=>if b=ib then some aI else if b=jb then some dN else none⟩
structure fO(pa:Pm)(B0 bb eb eo ib cb co jb pk:Nat)(nbs obs:List Nat)(q:Pm)(dv:Value)(w:World):Prop where
 ka:KW pa w
 la:∀b o v,pa b o=some v→b<B0
 wb:WB q w
 lp:∀b o v,q b o=some v→B0≤b
 gv:5<B0
 bl:B0≤bb
 pb:∀o,q bb o=none
 c0:w.cell? ⟨bb,0,none⟩=some (ptr pk)
 c1:w.cell? ⟨bb,1,none⟩=some dv
 f1:w.frozen? ⟨bb,1,none⟩=false
 c2:w.cell? ⟨bb,2,none⟩=some (ae 58 eb)
 c3:w.cell? ⟨bb,3,none⟩=some (ae 58 cb)
 c4:w.cell? ⟨bb,4,none⟩=some (.slice none 0 0)
 f4:w.frozen? ⟨bb,4,none⟩=false
 row:w.ownsRow (bb+1) 58 1 dv nbs.length (nbs.map pv)
 rd:∀b,dv.ownBlock=some b→∀o,q b o=none
 ol:obs.length=nbs.length
 ends:∀b∈nbs++obs,eb<b∧cb<b∧eo<b∧co<b∧bb<b∧b<w.heap.size
 rK:nbs.Pairwise (· < ·)
 rL:obs.Pairwise (· < ·)
 nm:∀i(h:i<nbs.length)(a:i<obs.length),q nbs[i] 1=some (ptr obs[i])∧(∀o,o≠1→q nbs[i] o=none)∧w.heap[nbs[i]]?=some (.cells (gj obs[i]) 124 (0,0))∧q obs[i] 1=some (ptr pk)
 rM:∃s,q pk 0=some (.string s)
 err:q eb 1=some (ptr eo)∧eM q eb (ae 44 ib)∧(∃o v,q eo o=some v)∧q ib 0=some (.pointer none)∧q ib 5=some (.bool true)∧∀g,cY q g ib aI
 cmp:q cb 1=some (ptr co)∧eM q cb (ae 44 jb)∧(∃o v,q co o=some v)∧q jb 0=some (.pointer none)∧q jb 5=some (.bool true)∧∀g,cY q g jb dN
 ne:eb≠cb∧eo≠co∧ib≠jb
theorem xA{l:List Nat}(h:l.Pairwise (· < ·)){i j:Nat}(hi:i<l.length)(a:j<l.length)(e:l[i]=l[j]):i=j:=by
 rcases Nat.lt_trichotomy i j with k|k|k
 ·have:=List.pairwise_iff_getElem.1 h i j hi a k;omega
 ·exact k
 ·have:=List.pairwise_iff_getElem.1 h j i a hi k;omega
section
variable {pa:Pm} {B0 bb eb eo ib cb co jb pk:Nat} {nbs obs:List Nat} {q:Pm} {dv:Value} {w w1 w2 w3:World}
theorem jR{i:Nat}(hi:i<nbs.length):(jQ eb eo ib cb co jb pk nbs obs).nb i=nbs[i]:=by simp[jQ,List.getD,hi]
theorem jS{i:Nat}(hi:i<obs.length):(jQ eb eo ib cb co jb pk nbs obs).ob i=obs[i]:=by simp[jQ,List.getD,hi]
theorem fO.inj(h:fO pa B0 bb eb eo ib cb co jb pk nbs obs q dv w):mM (jQ eb eo ib cb co jb pk nbs obs):=by
 have f:=h.ol;have d:∀i(hi:i<nbs.length),eb<nbs[i]∧cb<nbs[i]:=fun i hi=>by have:=h.ends nbs[i] (List.mem_append_left _ (List.getElem_mem hi));omega
 have hO:∀i(hi:i<obs.length),eo<obs[i]∧co<obs[i]:=fun i hi=>by have:=h.ends obs[i] (List.mem_append_right _ (List.getElem_mem hi));omega
 refine⟨fun i j hi c e=> ?_,fun i j hi c e=> ?_,fun i hi=> ?_,fun i hi=> ?_,h.ne.1,fun i hi=> ?_,fun i hi=> ?_,h.ne.2.1⟩
 ·have a:i<nbs.length:=hi
  have b:j<nbs.length:=c;rw[jR a,jR b]at e;exact xA h.rK a b e
 ·have a:i<obs.length:=by have:i<nbs.length:=hi;omega
  have b:j<obs.length:=by have:j<nbs.length:=c;omega
  rw[jS a,jS b]at e;exact xA h.rL a b e
 ·have a:i<nbs.length:=hi
  rw[jR a];have:=d i a;show nbs[i]≠eb;omega
 ·have a:i<nbs.length:=hi
  rw[jR a];have:=d i a;show nbs[i]≠cb;omega
 ·have a:i<obs.length:=by have:i<nbs.length:=hi;omega
  rw[jS a];have:=hO i a;show obs[i]≠eo;omega
 ·have a:i<obs.length:=by have:i<nbs.length:=hi;omega
  rw[jS a];have:=hO i a;show obs[i]≠co;omega
theorem fO.below(h:fO pa B0 bb eb eo ib cb co jb pk nbs obs q dv w)(a:Below w.heap.size w w1):fO pa B0 bb eb eo ib cb co jb pk nbs obs q dv w1:=
 ⟨h.ka.grown a,h.la,h.wb.below a,h.lp,h.gv,h.bl,h.pb,ar a h.c0,ar a h.c1,TS.frozen_kept a (World.block_lt_of_cell? _ _ h.c1) h.f1,ar a h.c2,ar a h.c3,ar a h.c4,TS.frozen_kept a (World.block_lt_of_cell? _ _ h.c4) h.f4,bO h.row a,h.rd,h.ol,fun b e=>by have:=h.ends b e;have:=a.size;omega,h.rK,h.rL,fun i hi c=>let⟨h1,h2,h3,d⟩:=h.nm i hi c;⟨h1,h2,(a.block _ (Array.getElem?_eq_some_iff.1 h3).1).trans h3,d⟩,h.rM,h.err,h.cmp,h.ne⟩
theorem fO.step(h:fO pa B0 bb eb eo ib cb co jb pk nbs obs q dv w)(X:eb<w.heap.size∧cb<w.heap.size∧eo<w.heap.size∧co<w.heap.size){m:ByteArray}{o:Obj}{j:Value}
 (hg:((((w.alloc (.cells #[.int .i64 0,.pointer (some ⟨pk,0,none⟩),.string m,.nilIface] 128)).setCell ⟨w.heap.size,3,none⟩ (.iface 58 (.pointer (some ⟨w.heap.size+1,0,none⟩)))).alloc (.cells (gj w.heap.size) 124)).alloc o).grownBy w3 dv.ownBlock)
 (hr:w3.ownsRow (bb+1) 58 1 j (nbs.length+1) (nbs.map pv++ [pv (w.heap.size+1)]))(hv:j.ownBlock=dv.ownBlock∨j.ownBlock=some (w.heap.size+3)):
 ∃K,fO pa B0 bb eb eo ib cb co jb pk (nbs++ [w.heap.size+1]) (obs++ [w.heap.size]) K j (w3.setCell ⟨bb,1,none⟩ j):=by
 have hT:(w.alloc (.cells #[.int .i64 0,.pointer (some ⟨pk,0,none⟩),.string m,.nilIface] 128)).heap[w.heap.size]?=some (.cells #[.int .i64 0,.pointer (some ⟨pk,0,none⟩),.string m,.nilIface] 128 (0,0)):=cV rfl;have hS:=heap_set (o:=3) (v:= .iface 58 (.pointer (some ⟨w.heap.size+1,0,none⟩))) hT;have Y:Below w.heap.size w ((w.alloc (.cells #[.int .i64 0,.pointer (some ⟨pk,0,none⟩),.string m,.nilIface] 128)).setCell ⟨w.heap.size,3,none⟩ (.iface 58 (.pointer (some ⟨w.heap.size+1,0,none⟩)))):=((Below.refl _ _).alloc (Nat.le_refl _) _).setCell (Nat.le_refl _) _;have B:((w.alloc (.cells #[.int .i64 0,.pointer (some ⟨pk,0,none⟩),.string m,.nilIface] 128)).setCell ⟨w.heap.size,3,none⟩ (.iface 58 (.pointer (some ⟨w.heap.size+1,0,none⟩)))).heap.size=w.heap.size+1:=by simp
 generalize ((w.alloc (.cells #[.int .i64 0,.pointer (some ⟨pk,0,none⟩),.string m,.nilIface] 128)).setCell ⟨w.heap.size,3,none⟩ (.iface 58 (.pointer (some ⟨w.heap.size+1,0,none⟩))))=I at*;have hN:(I.alloc (.cells (gj w.heap.size) 124)).heap[w.heap.size+1]?=some (.cells (gj w.heap.size) 124 (0,0)):=cV B.symm;have Z:Below w.heap.size w ((I.alloc (.cells (gj w.heap.size) 124)).alloc o):=(Y.alloc (by omega) _).alloc (by simp;omega) _;have PW:((I.alloc (.cells (gj w.heap.size) 124)).alloc o).heap.size=w.heap.size+3:=by simp[B]
 have D:((I.alloc (.cells (gj w.heap.size) 124)).alloc o).heap[w.heap.size+1]?=some (.cells (gj w.heap.size) 124 (0,0)):=by rw[dU (by simp[B])];exact hN
 have L:((I.alloc (.cells (gj w.heap.size) 124)).alloc o).heap[w.heap.size]?=some (.cells (#[.int .i64 0,.pointer (some ⟨pk,0,none⟩),.string m,.nilIface].setIfInBounds 3 (.iface 58 (.pointer (some ⟨w.heap.size+1,0,none⟩)))) 128 (0,0)):=by rw[dU (by simp only[World.size_alloc];omega),dU (by omega)];exact hS
 generalize ((I.alloc (.cells (gj w.heap.size) 124)).alloc o)=W at*;have p:=h.below Z;have r:Kept (fun c=>dv.ownBlock=some c) W w3:=(Kept.refl _ _).grown hg fun k hk _=>hk;have M:Kept (fun c=>c=bb∨dv.ownBlock=some c) W (w3.setCell ⟨bb,1,none⟩ j):=(r.mono fun c _ e=> .inr e).setCell (fun _=> .inl rfl) _;have N:=World.block_lt_of_cell? _ _ h.c0;simp only at N;have t:∀b,dv.ownBlock=some b→bb<b∧b<w.heap.size:=fun b e=>by have:=h.row.lt b e;omega
 have E:dv.ownBlock≠some bb:=fun e=>by have:=t _ e;omega
 have l:∀b,w.heap.size≤b→∀o,q b o=none:=fun b hb o=>h.wb.kw.aJ hb o;have z:∀f,f≠1→(w3.setCell ⟨bb,1,none⟩ j).cell? ⟨bb,f,none⟩=W.cell? ⟨bb,f,none⟩:=fun f J=>by
  rw[World.cell?_setCell_other _ _ _ _ (fun e=>J (congrArg Addr.off e).symm)];exact r.cell (by omega) E
 have hf:∀f,(w3.setCell ⟨bb,1,none⟩ j).frozen? ⟨bb,f,none⟩=W.frozen? ⟨bb,f,none⟩:=fun f=>by
  rw[World.frozen?_setCell];exact r.frozen (by omega) E
 have PM:w3.cell? ⟨bb,1,none⟩=some dv:=by rw[r.cell (by omega) E];exact p.c1
 have PN:aP q (q.put w.heap.size 1 (ptr pk)) w.heap.size:=Pm.eH (l _ (Nat.le_refl _) 1) (Nat.le_refl _);have PO:aP (q.put w.heap.size 1 (ptr pk)) ((q.put w.heap.size 1 (ptr pk)).put (w.heap.size+1) 1 (ptr w.heap.size)) w.heap.size:=Pm.eH (by rw[Pm.a_ _ _ (by omega)];exact l _ (by omega) 1) (by omega);have O:=PN.trans PO (Nat.le_refl _);have P:=(p.wb.put (b:=w.heap.size) (o:=1) (v:=ptr pk) (by simp[World.cell?,L]) ⟨_,_,L⟩).put (b:=w.heap.size+1) (o:=1) (v:=ptr w.heap.size) (by simp[World.cell?,D,dq]) ⟨_,_,D⟩;have PQ:∀f,f≠1→((q.put w.heap.size 1 (ptr pk)).put (w.heap.size+1) 1 (ptr w.heap.size)) (w.heap.size+1) f=none:=fun f J=>by
  rw[Pm.a_ _ _ (by omega),Pm.a_ _ _ (by omega)];exact l _ (by omega) f
 have PR:((q.put w.heap.size 1 (ptr pk)).put (w.heap.size+1) 1 (ptr w.heap.size)) w.heap.size 1=some (ptr pk):=by rw[Pm.a_ _ _ (by omega),Pm.fL]
 have PS:((q.put w.heap.size 1 (ptr pk)).put (w.heap.size+1) 1 (ptr w.heap.size)) (w.heap.size+1) 1=some (ptr w.heap.size):=Pm.fL ..;have F:∀b f,b<w.heap.size→((q.put w.heap.size 1 (ptr pk)).put (w.heap.size+1) 1 (ptr w.heap.size)) b f=q b f:=fun b f hb=>by
  rw[Pm.a_ _ _ (by omega),Pm.a_ _ _ (by omega)]
 have PT:∀b f,w.heap.size+2≤b→((q.put w.heap.size 1 (ptr pk)).put (w.heap.size+1) 1 (ptr w.heap.size)) b f=none:=fun b f hb=>by
  rw[Pm.a_ _ _ (by omega),Pm.a_ _ _ (by omega)];exact l _ (by omega) f
 generalize ((q.put w.heap.size 1 (ptr pk)).put (w.heap.size+1) 1 (ptr w.heap.size))=K at*;have d:=O.le;have Q:∀c,c=bb∨dv.ownBlock=some c→B0≤c∧∀o,K c o=none:=fun c z=>by
  have PU:=h.bl;rcases z with rfl|e
  ·exact⟨PU,fun o=>by rw[F _ _ N];exact h.pb o⟩
  ·have:=t _ e
   exact⟨by omega,fun o=>by rw[F _ _ this.2];exact h.rd _ e o⟩
 have A:∀b,j.ownBlock=some b→b≠bb∧∀o,K b o=none:=fun b e=>by
  rcases hv with e1|e1
  ·rw[e1]at e;have:=t _ e;exact⟨by omega,(Q b (.inr e)).2⟩
  ·rw[e1]at e;cases e;exact⟨by omega,fun o=>PT _ _ (by omega)⟩
 have R:=h.ol;have PX:=M.size;refine⟨K,⟨p.ka.kept M fun c o x e n=>by have:=h.la _ _ _ e;have:=(Q c n).1;omega,h.la,P.own M (fun c z=>(Q c z).2) (fun n=>by have:=(Q _ n).1;have:=h.gv;omega),fun b o x e=> ?_,h.gv,h.bl,fun o=>(Q bb (.inl rfl)).2 o,by rw[z 0 (by decide)];exact p.c0,World.cell?_setCell_same _ _ _ PM,by rw[hf];exact p.f1,by rw[z 2 (by decide)];exact p.c2,by rw[z 3 (by decide)];exact p.c3,by rw[z 4 (by decide)];exact p.c4,by rw[hf];exact p.f4,?_,fun b e=>(A b e).2,by simp[R],fun b e=> ?_,?_,?_,fun i hi PY=> ?_,?_,?_,?_,h.ne⟩⟩
 ·rcases O.new _ _ _ e with e|e
  ·exact h.lp _ _ _ e
  ·have:=h.bl;omega
 ·have h1:=fI (a:=⟨bb,1,none⟩) hr (fun e=>(A _ e).1 rfl) j
  simpa using h1
 ·have e':b∈nbs++obs∨b=w.heap.size+1∨b=w.heap.size:=by
   simp only[List.mem_append,List.mem_singleton]at e⊢;rcases e with(e|e)|(e|e)
   ·exact .inl (.inl e)
   ·exact .inr (.inl e)
   ·exact .inl (.inr e)
   ·exact .inr (.inr e)
  rcases e' with e|e|e
  ·have:=h.ends b e;omega
  ·omega
  ·omega
 ·refine List.pairwise_append.2 ⟨h.rK,by simp,fun x n y hy=> ?_⟩
  have:y=w.heap.size+1:=by simpa using hy
  have:=h.ends x (List.mem_append_left _ n);omega
 ·refine List.pairwise_append.2 ⟨h.rL,by simp,fun x n y hy=> ?_⟩
  have:y=w.heap.size:=by simpa using hy
  have:=h.ends x (List.mem_append_right _ n);omega
 ·by_cases G:i<nbs.length
  ·obtain⟨H,S,T,V⟩:=p.nm i G (by omega)
   have hl:=h.ends nbs[i] (List.mem_append_left _ (List.getElem_mem G));rw[List.getElem_append_left G,List.getElem_append_left (show i<obs.length by omega)];refine⟨d _ _ _ H,fun o J=>by rw[F _ _ hl.2.2.2.2.2];exact S o J,(M.block _ (by omega) fun n=> ?_).trans T,d _ _ _ V⟩;rcases n with e|e
   ·omega
   ·rw[h.rd _ e 1]at H;cases H
  ·have PV:i=nbs.length:=by simp at hi;omega
   subst PV;rw[List.getElem_append_right (Nat.le_refl _),List.getElem_append_right (by omega)];simp only[Nat.sub_self,List.getElem_cons_zero,R];refine⟨PS,fun o J=>PQ o J,(M.block _ (by omega) fun n=> ?_).trans D,PR⟩;rcases n with e|e
   ·omega
   ·have:=t _ e;omega
 ·obtain⟨s,h1⟩:=h.rM;exact⟨s,d _ _ _ h1⟩
 ·obtain⟨H,S,⟨f,v',T⟩,V,k5,k6⟩:=h.err
  exact⟨d _ _ _ H,S.sub d,⟨f,v',d _ _ _ T⟩,d _ _ _ V,d _ _ _ k5,fun g=>(k6 g).sub d (aH.refl g)⟩
 ·obtain⟨H,S,⟨f,v',T⟩,V,k5,k6⟩:=h.cmp
  exact⟨d _ _ _ H,S.sub d,⟨f,v',d _ _ _ T⟩,d _ _ _ V,d _ _ _ k5,fun g=>(k6 g).sub d (aH.refl g)⟩
theorem fO.done(h:fO pa B0 bb eb eo ib cb co jb pk nbs obs q dv w)(D:Dl)(T:List U)(y:D.len=nbs.length):
 ∃q1 da dc,dv= .slice da nbs.length dc∧BS ⟨D,T,0,pa,B0,bb,da,dc⟩ q1 (jQ eb eo ib cb co jb pk nbs obs) (.slice none 0 0) [] w∧Sub q q1∧∀i(hi:i<nbs.length),∀o,o≠1→q1 nbs[i] o=none:=by
 obtain⟨q1,a,c,h1,h2,h3,s,t,z⟩:=xh (xs:=nbs.map pv) h.wb (by simpa using h.row) h.rd;have A:=h.ol;have d:=h2.le;have B:=World.block_lt_of_cell? _ _ h.c0;simp only[List.length_map]at h1 s z;have m:dv.ownBlock≠some bb:=fun e=>by have:=(h.row.lt _ e).1;omega
 have p:ib<w.heap.size:=h.wb.kw.lt h.err.2.2.2.1;have r:jb<w.heap.size:=h.wb.kw.lt h.cmp.2.2.2.1;refine⟨q1,a,c,h1,⟨h.ka,h.la,h3,fun b o v e=> ?_,h.inj,h.gv,h.bl,fun o=>by rw[t _ m];exact h.pb o,h.c0,⟨by have:=h.c1;rw[h1]at this;exact this,fun i hi=> ?_⟩,h.c2,h.c3,h.c4,h.f4,World.ownsRow_nil _ _ _ _,fun b e=>(by cases e),List.Pairwise.nil,fun b e=>(by cases e),fun b u e=> ?_,y.symm,fun i hi=> ?_,fun i hi=> ?_,?_,?_,⟨d _ _ _ h.err.1,_,h.err.2.1.sub d,.iface rfl (if_pos rfl)⟩,⟨d _ _ _ h.cmp.1,jb,h.cmp.2.1.sub d,?_⟩,fun n _ E=>absurd E (Nat.not_lt_zero _)⟩,d,fun i hi o F=> ?_⟩
 ·rcases h2.new _ _ _ e with e|e
  ·exact h.lp _ _ _ e
  ·have:=h.bl;show B0≤b;omega
 ·obtain⟨b,o,k,l⟩:=s i hi
  refine⟨b,o,k,?_⟩;have f:i<nbs.length:=hi;have:(nbs.map pv).getD i undef=ptr ((jQ eb eo ib cb co jb pk nbs obs).nb i):=by rw[jR f];simp[List.getD,f]
  exact l.trans (congrArg some this)
 ·have j:(if b=ib then some aI else if b=jb then some dN else none)=some u:=e
  by_cases k:b=ib
  ·rw[if_pos k]at j;cases j;subst k
   exact⟨p,d _ _ _ h.err.2.2.2.1,d _ _ _ h.err.2.2.2.2.1,.inl ((h.err.2.2.2.2.2 _).sub d (aH.refl _))⟩
  ·rw[if_neg k]at j
   by_cases l:b=jb
   ·rw[if_pos l]at j;cases j;subst l
    exact⟨r,d _ _ _ h.cmp.2.2.2.1,d _ _ _ h.cmp.2.2.2.2.1,.inl ((h.cmp.2.2.2.2.2 _).sub d (aH.refl _))⟩
   ·rw[if_neg l]at j;cases j
 ·have f:i<nbs.length:=hi
  rw[jR f,jS (by omega)];exact d _ _ _ (h.nm i f (by omega)).1
 ·have f:i<nbs.length:=hi
  rw[jS (by omega)];exact⟨1,_,d _ _ _ (h.nm i f (by omega)).2.2.2⟩
 ·obtain⟨o,v,e⟩:=h.err.2.2.1;exact⟨o,v,d _ _ _ e⟩
 ·obtain⟨o,v,e⟩:=h.cmp.2.2.1;exact⟨o,v,d _ _ _ e⟩
 ·show(if jb=ib then _ else if jb=jb then _ else _)=_
  rw[if_neg h.ne.2.2.symm,if_pos rfl]
 ·have hk:=h.nm i hi (by omega)
  rw[t _ fun e=>by rw[h.rd _ e 1]at hk;cases hk.1];exact hk.2.1 o F
end
theorem FK{q:Pm}{W:World}(h:WB q W):
 ∃c,aP q c W.heap.size∧WB c ((((W.alloc (.cells #[.bool false,.nilIface] 220)).alloc (.cells #[.pointer (some ⟨W.heap.size,0,none⟩)] 218)).alloc (.cells #[.bool false,.slice none 0 0,.slice (some ⟨W.heap.size+1,0,none⟩) 1 1,.bool true] 133)).alloc
  (.cells (dJ (.slice none 0 0) (.slice none 0 0) true (.pointer (some ⟨W.heap.size+2,0,none⟩))) 113))∧c (W.heap.size+3) 0=some (.pointer none)∧c (W.heap.size+3) 5=some (.bool true)∧∀g,cY c g (W.heap.size+3) dN:=by
 have h1:=h.box #[.bool false,.nilIface] 220;have h2:=h1.box #[.pointer (some ⟨W.heap.size,0,none⟩)] 218;have h3:=h2.box #[.bool false,.slice none 0 0,.slice (some ⟨W.heap.size+1,0,none⟩) 1 1,.bool true] 133;have l:=h3.box (dJ (.slice none 0 0) (.slice none 0 0) true (.pointer (some ⟨W.heap.size+2,0,none⟩))) 113;simp only[World.size_alloc]at h2 h3 l;have f:∀o k,q (W.heap.size+k) o=none:=fun o k=>h.kw.aJ (by omega) o
 have j:=((((Pm.dC (p:=q) (b:=W.heap.size) (n:=W.heap.size) (cs:=#[.bool false,.nilIface]) (fun o=>f o 0) (Nat.le_refl _)).trans
  (Pm.dC (b:=W.heap.size+1) (n:=W.heap.size) (cs:=#[.pointer (some ⟨W.heap.size,0,none⟩)]) (fun o=>by rw[Pm.aO _ _ _ (by omega)];exact f o 1) (by omega)) (Nat.le_refl _)).trans
  (Pm.dC (b:=W.heap.size+2) (n:=W.heap.size) (cs:=#[.bool false,.slice none 0 0,.slice (some ⟨W.heap.size+1,0,none⟩) 1 1,.bool true]) (fun o=>by rw[Pm.aO _ _ _ (by omega),Pm.aO _ _ _ (by omega)];exact f o 2) (by omega)) (Nat.le_refl _))).trans
  (Pm.dC (b:=W.heap.size+3) (n:=W.heap.size) (cs:=dJ (.slice none 0 0) (.slice none 0 0) true (.pointer (some ⟨W.heap.size+2,0,none⟩))) (fun o=>by rw[Pm.aO _ _ _ (by omega),Pm.aO _ _ _ (by omega),Pm.aO _ _ _ (by omega)];exact f o 3) (by omega)) (Nat.le_refl _)
 have hu:under dN=dN:=cQ (by decide) (by decide) (by decide) (by decide);have a:ai dN= []:=gB (by rw[hu];decide);have d:aZ dN=true:=by rw[gw (by rw[hu];decide),hu];rfl
 have e:bQ dN=([none],true):=by rw[bQ,if_neg (by rw[hu];decide),hu];rfl
 refine⟨_,j,l,by rw[Pm.aX];rfl,by rw[Pm.aX];rfl,fun g=>⟨W.heap.size+2,none,0,fun _=>0,some ⟨W.heap.size+1,0,none⟩,1,[none],true,by rw[Pm.aX];rfl,?_,?_,?_,?_,?_,?_,?_,by simp,by simp,⟨fun _=>W.heap.size,fun i hi=> ?_,fun i hi=> ?_⟩,?_,⟨.inl rfl,fun h=> ?_,fun _ _=> .inr rfl,fun _=>rfl,e⟩,fun h=> ?_,fun x h=> ?_⟩⟩
 ·rw[Pm.aO _ _ _ (by omega),Pm.aX];rfl
 ·rw[Pm.aO _ _ _ (by omega),Pm.aX,a];rfl
 ·rw[a];exact Nat.le_refl _
 ·rw[a];simp
 ·rw[a];intro i hi;simp at hi
 ·rw[a];intro i hi;simp at hi
 ·rw[Pm.aO _ _ _ (by omega),Pm.aX];rfl
 ·have:i=0:=by simpa using hi
  subst this;exact⟨_,0,rfl,by rw[Pm.aO _ _ _ (by omega),Pm.aO _ _ _ (by omega),Pm.aX];rfl⟩
 ·have:i=0:=by simpa using hi
  subst this;show aY _ _ none W.heap.size;unfold aY;rw[Pm.aO _ _ _ (by omega),Pm.aO _ _ _ (by omega),Pm.aO _ _ _ (by omega),Pm.aX];rfl
 ·rw[Pm.aO _ _ _ (by omega),Pm.aX];rfl
 ·rw[d]at h;cases h
 ·cases h
 ·cases h;rfl
theorem BS.next{C:BC}{q:Pm}{g:Ge}{mv:Value}{ms:List Nat}{w:World}(h:BS C q g mv ms w)(b:∀hi:C.i<C.T.length,∃x,eM q (g.nb C.i) x∧Node q g C.T[C.i] x):BS {C with i:=C.i+1} q g mv ms w:=
 ⟨h.ka,h.la,h.wb,h.lp,h.inj,h.gv,h.bl,h.pb,h.c0,h.c1,h.c2,h.c3,h.c4,h.f4,h.row,h.rd,h.ord,h.mlt,h.ifs,h.len,h.nm,h.po,h.cH,h.cI,h.err,h.cmp,fun n a hi=>by
  by_cases e:n=C.i
  ·subst e;exact b a
  ·exact h.tn n a (by have:n<C.i+1:=hi;omega)⟩
def iN(q:Pm)(g:Ge)(w:World)(i:Nat):Prop:=w.heap[g.nb i]?=some (.cells (gj (g.ob i)) 124 (0,0))∧(∀o,o≠1→q (g.nb i) o=none)
theorem BS.nD{C:BC}{p:Pm}{g:Ge}{mv:Value}{ms:List Nat}{w:World}(h:BS C p g mv ms w){i:Nat}(hi:i<g.len):¬(g.nb i=C.bb∨mv.ownBlock=some (g.nb i)):=fun e=>by
 have:=(h.ib (b:=g.nb i) (e.imp Eq.symm id)).2.2 1;rw[h.nm i hi]at this;cases this
theorem iN.below{q:Pm}{g:Ge}{w w1:World}{i:Nat}(h:iN q g w i)(a:Below w.heap.size w w1):iN q g w1 i:=⟨(a.block _ (Array.getElem?_eq_some_iff.1 h.1).1).trans h.1,h.2⟩
theorem iN.step{C:BC}{p q:Pm}{g g1:Ge}{mv:Value}{ms ms1:List Nat}{w w1:World}{i:Nat}(h:iN p g w i)(b:BS C p g mv ms w)(hi:i<g.len)(a:aD C p g mv ms w q g1 ms1 w1):iN q g1 w1 i:=by
 have c:=(Array.getElem?_eq_some_iff.1 h.1).1;refine⟨by rw[a.gs.nb,a.gs.ob];exact(a.kept.block _ c (b.nD hi)).trans h.1,fun o d=> ?_⟩;rw[a.gs.nb];cases f:q (g.nb i) o with
 |none=>rfl
 |some x=>
  rcases a.gr.new _ _ _ f with e|e
  ·rw[h.2 o d]at e;cases e
  ·omega
theorem BS.told{C:BC}{q:Pm}{g:Ge}{mv:Value}{ms:List Nat}{w:World}{x:Value}(h:BS C q g mv ms w)(hi:C.i<g.len)(f:iN q g w C.i)(hT:∀hi:C.i<C.T.length,Node q g C.T[C.i] x):
 BS {C with i:=C.i+1} (((q.put (g.nb C.i) 5 (.int .u32 15)).put (g.nb C.i) 6 x).put (g.nb C.i) 7 x) g mv ms (((((((w.setCell ⟨g.nb C.i,3,none⟩ (.int .i32 1)).setCell ⟨g.nb C.i,6,none⟩ x).setCell ⟨g.nb C.i,2,none⟩ (.bool false)).setCell ⟨g.nb C.i,5,none⟩ (.int .u32 7)).setCell ⟨g.nb C.i,7,none⟩ x).setCell ⟨g.nb C.i,5,none⟩ (.int .u32 15)).setCell ⟨g.nb C.i,3,none⟩ (.int .i32 0))∧
 Sub q (((q.put (g.nb C.i) 5 (.int .u32 15)).put (g.nb C.i) 6 x).put (g.nb C.i) 7 x)∧(∀b o,b≠g.nb C.i→(((q.put (g.nb C.i) 5 (.int .u32 15)).put (g.nb C.i) 6 x).put (g.nb C.i) 7 x) b o=q b o)∧
 Kept (fun c=>c=g.nb C.i) w (((((((w.setCell ⟨g.nb C.i,3,none⟩ (.int .i32 1)).setCell ⟨g.nb C.i,6,none⟩ x).setCell ⟨g.nb C.i,2,none⟩ (.bool false)).setCell ⟨g.nb C.i,5,none⟩ (.int .u32 7)).setCell ⟨g.nb C.i,7,none⟩ x).setCell ⟨g.nb C.i,5,none⟩ (.int .u32 15)).setCell ⟨g.nb C.i,3,none⟩ (.int .i32 0))∧
 dM C (((q.put (g.nb C.i) 5 (.int .u32 15)).put (g.nb C.i) 6 x).put (g.nb C.i) 7 x) g (((((((w.setCell ⟨g.nb C.i,3,none⟩ (.int .i32 1)).setCell ⟨g.nb C.i,6,none⟩ x).setCell ⟨g.nb C.i,2,none⟩ (.bool false)).setCell ⟨g.nb C.i,5,none⟩ (.int .u32 7)).setCell ⟨g.nb C.i,7,none⟩ x).setCell ⟨g.nb C.i,5,none⟩ (.int .u32 15)).setCell ⟨g.nb C.i,3,none⟩ (.int .i32 0)) C.i 0 (fun _=>ByteArray.empty) (.slice none 0 0) []:=by
 have t:=h.nm _ hi;have y:=h.lp _ _ _ t;have F:=h.gv;have n:g.nb C.i≠C.bb:=fun e=>h.nD hi (.inl e);have r:mv.ownBlock≠some (g.nb C.i):=fun e=>h.nD hi (.inr e);have z:g.G (g.nb C.i)=none:=by
  cases H:g.G (g.nb C.i)with
  |none=>rfl
  |some u=>have:=(h.ifs _ _ H).2.1;rw[f.2 0 (by decide)]at this;cases this
 obtain⟨s,A,l,E⟩:=h.wb.named (x:=x) f.1 f.2 (by omega);generalize (((((((w.setCell ⟨g.nb C.i,3,none⟩ (.int .i32 1)).setCell ⟨g.nb C.i,6,none⟩ x).setCell ⟨g.nb C.i,2,none⟩ (.bool false)).setCell ⟨g.nb C.i,5,none⟩ (.int .u32 7)).setCell ⟨g.nb C.i,7,none⟩ x).setCell ⟨g.nb C.i,5,none⟩ (.int .u32 15)).setCell ⟨g.nb C.i,3,none⟩ (.int .i32 0))=I at*;have B:=h.rJ E s fun c e=>by subst e;exact⟨y,f.2 0 (by decide),n,r⟩
 have J:=Pm.fM (p:=q) (b:=g.nb C.i) (o:=5) (.int .u32 15) (f.2 5 (by decide));have K:=Pm.fM (p:=q.put (g.nb C.i) 5 (.int .u32 15)) (b:=g.nb C.i) (o:=6) x (by rw[Pm.a_ _ _ (by omega)];exact f.2 6 (by decide));have L:=Pm.fM (p:=(q.put (g.nb C.i) 5 (.int .u32 15)).put (g.nb C.i) 6 x) (b:=g.nb C.i) (o:=7) x (by rw[Pm.a_ _ _ (by omega),Pm.a_ _ _ (by omega)];exact f.2 7 (by decide));have d:=(J.trans K).trans L;have a:∀b o,b≠g.nb C.i→(((q.put (g.nb C.i) 5 (.int .u32 15)).put (g.nb C.i) 6 x).put (g.nb C.i) 7 x) b o=q b o:=fun b o m=>by
  rw[Pm.a_ _ _ fun e=>m e.1,Pm.a_ _ _ fun e=>m e.1,Pm.a_ _ _ fun e=>m e.1]
 have M:(((q.put (g.nb C.i) 5 (.int .u32 15)).put (g.nb C.i) 6 x).put (g.nb C.i) 7 x) (g.nb C.i) 5=some (.int .u32 15):=by simp[Pm.put]
 have N:(((q.put (g.nb C.i) 5 (.int .u32 15)).put (g.nb C.i) 6 x).put (g.nb C.i) 7 x) (g.nb C.i) 6=some x:=by simp[Pm.put]
 have h7:(((q.put (g.nb C.i) 5 (.int .u32 15)).put (g.nb C.i) 6 x).put (g.nb C.i) 7 x) (g.nb C.i) 7=some x:=by simp[Pm.put]
 have O:(((q.put (g.nb C.i) 5 (.int .u32 15)).put (g.nb C.i) 6 x).put (g.nb C.i) 7 x) (g.nb C.i) 0=none:=by simp[Pm.put];exact f.2 0 (by decide)
 have P:(((q.put (g.nb C.i) 5 (.int .u32 15)).put (g.nb C.i) 6 x).put (g.nb C.i) 7 x) (g.nb C.i) 9=none:=by simp[Pm.put];exact f.2 9 (by decide)
 generalize (((q.put (g.nb C.i) 5 (.int .u32 15)).put (g.nb C.i) 6 x).put (g.nb C.i) 7 x)=Q at*;have D:BS C Q g mv ms I:=B.jO d A (fun b o v e=> ?_) (fun o=>by rw[a _ _ n.symm];exact h.pb o) (fun b e o=>by rw[a _ _ fun k=>r (k▸e)];exact(h.rd b e).2 o) (fun b u m e=>by rw[a _ _ fun k=>by rw[k,z]at m;cases m];exact e)
 ·refine⟨D.next fun hi=>⟨x,⟨M,N,h7⟩,(hT hi).sub d (aH.refl g)⟩,d,a,E,⟨rfl,?_,?_,P,O,World.ownsRow_nil _ _ _ _,fun b e=>(by cases e),fun j R=>absurd R (Nat.not_lt_zero _)⟩⟩
  ·simp only[World.cell?,l];rfl
  ·simp only[World.frozen?,l];rfl
 ·by_cases S:b=g.nb C.i
  ·omega
  ·rw[a _ _ S]at e;exact h.lp _ _ _ e
abbrev ek(w2:World)(pk eb:Nat):World:=(w2.alloc (.cells #[.pointer (some ⟨pk,0,none⟩),.slice none 0 0,ae 58 eb,.nilIface,.slice none 0 0] 63)).alloc (.cells #[.int .i64 0,.pointer none,.string ⟨#[99,111,109,112,97,114,97,98,108,101]⟩,.nilIface] 128)
abbrev jT(W:World):World:=(((W.alloc (.cells #[.bool false,.nilIface] 220)).alloc (.cells #[.pointer (some ⟨W.heap.size,0,none⟩)] 218)).alloc (.cells #[.bool false,.slice none 0 0,.slice (some ⟨W.heap.size+1,0,none⟩) 1 1,.bool true] 133)).alloc
 (.cells (dJ (.slice none 0 0) (.slice none 0 0) true (.pointer (some ⟨W.heap.size+2,0,none⟩))) 113)
abbrev xB(W:World)(bb:Nat):World:=((W.setCell ⟨bb+1,3,none⟩ (.iface 58 (.pointer (some ⟨bb+6,0,none⟩)))).alloc (.cells (dq ⟨bb+1,0,none⟩ false 0 15 (.iface 44 (.pointer (some ⟨bb+5,0,none⟩))) (.iface 44 (.pointer (some ⟨bb+5,0,none⟩))) (.slice none 0 0)) 124)).setCell ⟨bb,3,none⟩ (.iface 58 (.pointer (some ⟨bb+6,0,none⟩)))
theorem FL{pa a:Pm}{w w2:World}{eb eo ib:Nat}(hw:KW pa w)(D:w2.heap[w.heap.size]?=some (.cells #[.string ⟨#[112]⟩,.string ⟨#[112]⟩] 94 (0,0)))(E:WB a w2)(F:Below w.heap.size w w2)(G:∀b o v,a b o=some v→w.heap.size+1≤b)(hG:5<w.heap.size)(P3:eb<w2.heap.size)(P4:eo<w2.heap.size)
 (t:a eb 1=some (ptr eo)∧eM a eb (ae 44 ib)∧(∃o v,a eo o=some v)∧a ib 0=some (.pointer none)∧a ib 5=some (.bool true)∧∀g,cY a g ib aI):
 ∃q,fO pa w.heap.size w2.heap.size eb eo ib (w2.heap.size+6) (w2.heap.size+1) (w2.heap.size+5) w.heap.size [] [] q (.slice none 0 0) (xB (jT (ek w2 w.heap.size eb)) w2.heap.size):=by
 have P5:=(Array.getElem?_eq_some_iff.1 D).1;have P6:=E.kw.lt t.2.2.2.1;have H:∀o,a w.heap.size o=none:=fun o=>by
  cases h:a w.heap.size o with
  |none=>rfl
  |some v=>have:=G _ _ _ h;omega
 have h3:=E.add (T:=94) H D;have I:=Pm.dC (p:=a) (b:=w.heap.size) (n:=w.heap.size) (cs:=#[.string ⟨#[112]⟩,.string ⟨#[112]⟩]) H (Nat.le_refl _);have J:(a.add w.heap.size #[.string ⟨#[112]⟩,.string ⟨#[112]⟩]) w.heap.size 0=some (.string ⟨#[112]⟩):=by rw[Pm.aX];rfl
 have K:∀b o v,(a.add w.heap.size #[.string ⟨#[112]⟩,.string ⟨#[112]⟩]) b o=some v→w.heap.size≤b:=fun b o v e=>by
  rcases I.new _ _ _ e with e|e
  ·have:=G _ _ _ e;omega
  ·exact e
 generalize a.add w.heap.size #[.string ⟨#[112]⟩,.string ⟨#[112]⟩]=q3 at*;have L:Below w2.heap.size w2 (ek w2 w.heap.size eb):=((Below.refl _ _).alloc (Nat.le_refl _) _).alloc (by simp) _;have PM:(ek w2 w.heap.size eb).heap.size=w2.heap.size+2:=by simp[ek]
 have hA0:(ek w2 w.heap.size eb).heap[w2.heap.size]?=some (.cells #[.pointer (some ⟨w.heap.size,0,none⟩),.slice none 0 0,ae 58 eb,.nilIface,.slice none 0 0] 63 (0,0)):=by unfold ek;rw[dU (by simp)];exact cV rfl
 have hA1:(ek w2 w.heap.size eb).heap[w2.heap.size+1]?=some (.cells #[.int .i64 0,.pointer none,.string ⟨#[99,111,109,112,97,114,97,98,108,101]⟩,.nilIface] 128 (0,0)):=by unfold ek;exact cV (by simp)
 have h4:=h3.below L;generalize ek w2 w.heap.size eb=y at*;obtain⟨j,z,h5,M,N,O⟩:=FK h4;have A:Below y.heap.size y (jT y):=((((Below.refl _ _).alloc (Nat.le_refl _) _).alloc (by simp) _).alloc (by simp;omega) _).alloc (by simp;omega) _;have P7:(jT y).heap.size=y.heap.size+4:=by simp[jT]
 have P:WB j (jT y):=h5;clear h5;generalize jT y=k at*;have PN:=(A.block _ (by omega)).trans hA0;have PO:=(A.block _ (by omega)).trans hA1;rw[PM,show w2.heap.size+2+3=w2.heap.size+5 by omega]at M N O;have l:∀c o,w2.heap.size≤c→c<w2.heap.size+2→j c o=none:=fun c o h1 h2=>by
  cases h:j c o with
  |none=>rfl
  |some v=>
   rcases z.new _ _ _ h with e|e
   ·rw[h3.kw.aJ h1]at e;cases e
   ·omega
 have m:∀o,j (w2.heap.size+6) o=none:=fun o=>P.kw.aJ (by omega) o;have hS:=heap_set (o:=3) (v:= .iface 58 (.pointer (some ⟨w2.heap.size+6,0,none⟩))) PO;have PQ:(k.setCell ⟨w2.heap.size+1,3,none⟩ (.iface 58 (.pointer (some ⟨w2.heap.size+6,0,none⟩)))).heap[w2.heap.size]?=_:=(Below.heap_setCell _ _ _ _ (by simp)).trans PN;have h6:=P.setCell (b:=w2.heap.size+1) (o:=3) (.iface 58 (.pointer (some ⟨w2.heap.size+6,0,none⟩))) (l _ _ (by omega) (by omega)) (by omega);have PR:(k.setCell ⟨w2.heap.size+1,3,none⟩ (.iface 58 (.pointer (some ⟨w2.heap.size+6,0,none⟩)))).heap.size=w2.heap.size+6:=by simp;omega
 have PS:Below w2.heap.size w2 (k.setCell ⟨w2.heap.size+1,3,none⟩ (.iface 58 (.pointer (some ⟨w2.heap.size+6,0,none⟩)))):=(L.trans (A.mono (by omega))).setCell (by simp) _;unfold xB;generalize k.setCell ⟨w2.heap.size+1,3,none⟩ (.iface 58 (.pointer (some ⟨w2.heap.size+6,0,none⟩)))=B at*;have h7:=(h6.below ((Below.refl _ _).alloc (Nat.le_refl _) (.cells (dq ⟨w2.heap.size+1,0,none⟩ false 0 15 (.iface 44 (.pointer (some ⟨w2.heap.size+5,0,none⟩))) (.iface 44 (.pointer (some ⟨w2.heap.size+5,0,none⟩))) (.slice none 0 0)) 124))).setCell (b:=w2.heap.size) (o:=3) (.iface 58 (.pointer (some ⟨w2.heap.size+6,0,none⟩))) (l _ _ (Nat.le_refl _) (by omega)) (by omega);have hN:(B.alloc (.cells (dq ⟨w2.heap.size+1,0,none⟩ false 0 15 (.iface 44 (.pointer (some ⟨w2.heap.size+5,0,none⟩))) (.iface 44 (.pointer (some ⟨w2.heap.size+5,0,none⟩))) (.slice none 0 0)) 124)).heap[w2.heap.size+6]?=some (.cells (dq ⟨w2.heap.size+1,0,none⟩ false 0 15 (.iface 44 (.pointer (some ⟨w2.heap.size+5,0,none⟩))) (.iface 44 (.pointer (some ⟨w2.heap.size+5,0,none⟩))) (.slice none 0 0)) 124 (0,0)):=cV PR.symm;have PT:=(dU (w:=B) (o:= .cells (dq ⟨w2.heap.size+1,0,none⟩ false 0 15 (.iface 44 (.pointer (some ⟨w2.heap.size+5,0,none⟩))) (.iface 44 (.pointer (some ⟨w2.heap.size+5,0,none⟩))) (.slice none 0 0)) 124) (by omega)).trans PQ;have PU:=(dU (w:=B) (o:= .cells (dq ⟨w2.heap.size+1,0,none⟩ false 0 15 (.iface 44 (.pointer (some ⟨w2.heap.size+5,0,none⟩))) (.iface 44 (.pointer (some ⟨w2.heap.size+5,0,none⟩))) (.slice none 0 0)) 124) (by omega)).trans hS;have P8:(B.alloc (.cells (dq ⟨w2.heap.size+1,0,none⟩ false 0 15 (.iface 44 (.pointer (some ⟨w2.heap.size+5,0,none⟩))) (.iface 44 (.pointer (some ⟨w2.heap.size+5,0,none⟩))) (.slice none 0 0)) 124)).heap.size=w2.heap.size+7:=by simp;omega
 have PV:Below w2.heap.size w2 (B.alloc (.cells (dq ⟨w2.heap.size+1,0,none⟩ false 0 15 (.iface 44 (.pointer (some ⟨w2.heap.size+5,0,none⟩))) (.iface 44 (.pointer (some ⟨w2.heap.size+5,0,none⟩))) (.slice none 0 0)) 124)):=PS.alloc (by omega) _;generalize B.alloc (.cells (dq ⟨w2.heap.size+1,0,none⟩ false 0 15 (.iface 44 (.pointer (some ⟨w2.heap.size+5,0,none⟩))) (.iface 44 (.pointer (some ⟨w2.heap.size+5,0,none⟩))) (.slice none 0 0)) 124)=Z at*;have hF:=heap_set (o:=3) (v:= .iface 58 (.pointer (some ⟨w2.heap.size+6,0,none⟩))) PT;have Q:=(Below.heap_setCell Z ⟨w2.heap.size,3,none⟩ (.iface 58 (.pointer (some ⟨w2.heap.size+6,0,none⟩))) (w2.heap.size+1) (by simp)).trans PU;have R:=(Below.heap_setCell Z ⟨w2.heap.size,3,none⟩ (.iface 58 (.pointer (some ⟨w2.heap.size+6,0,none⟩))) (w2.heap.size+6) (by simp)).trans hN;have PW:Below w2.heap.size w2 (Z.setCell ⟨w2.heap.size,3,none⟩ (.iface 58 (.pointer (some ⟨w2.heap.size+6,0,none⟩)))):=PV.setCell (Nat.le_refl _) _;generalize Z.setCell ⟨w2.heap.size,3,none⟩ (.iface 58 (.pointer (some ⟨w2.heap.size+6,0,none⟩)))=WF at*;have S:∀o v,(#[.pointer (some ⟨w.heap.size,0,none⟩),.slice none 0 0,ae 58 eb,.iface 58 (.pointer (some ⟨w2.heap.size+6,0,none⟩)),.slice none 0 0]:Array Value)[o]?=some v→WF.cell? ⟨w2.heap.size,o,none⟩=some v:=fun o v e=>by simp only[World.cell?,hF];simpa using e
 have V:∀o,WF.frozen? ⟨w2.heap.size,o,none⟩=false:=fun o=>by simp[World.frozen?,hF]
 have r:∀o v,(dq ⟨w2.heap.size+1,0,none⟩ false 0 15 (.iface 44 (.pointer (some ⟨w2.heap.size+5,0,none⟩))) (.iface 44 (.pointer (some ⟨w2.heap.size+5,0,none⟩))) (.slice none 0 0))[o]?=some v→WF.cell? ⟨w2.heap.size+6,o,none⟩=some v:=fun o v e=>by simp only[World.cell?,R];exact e
 have s:Plain WF (w2.heap.size+6):=⟨_,_,R⟩
 have h8:=((((h7.put (b:=w2.heap.size+1) (o:=0) (v:= .int .i64 0) (by simp[World.cell?,Q]) ⟨_,_,Q⟩).put (r 1 _ rfl) s).put (r 5 _ rfl) s).put (r 6 _ rfl) s).put (r 7 _ rfl) s;have PX:=Pm.eH (p:=j) (b:=w2.heap.size+1) (o:=0) (n:=w2.heap.size) (v:= .int .i64 0) (l _ _ (by omega) (by omega)) (by omega);have PY:=Pm.eH (p:=j.put (w2.heap.size+1) 0 (.int .i64 0)) (b:=w2.heap.size+6) (o:=1) (n:=w2.heap.size) (v:=ptr (w2.heap.size+1)) (by simp[Pm.put,m]) (by omega);have PZ:=Pm.eH (p:=(j.put (w2.heap.size+1) 0 (.int .i64 0)).put (w2.heap.size+6) 1 (ptr (w2.heap.size+1))) (b:=w2.heap.size+6) (o:=5) (n:=w2.heap.size) (v:= .int .u32 15) (by simp[Pm.put,m]) (by omega);have P0:=Pm.eH (p:=((j.put (w2.heap.size+1) 0 (.int .i64 0)).put (w2.heap.size+6) 1 (ptr (w2.heap.size+1))).put (w2.heap.size+6) 5 (.int .u32 15)) (b:=w2.heap.size+6) (o:=6) (n:=w2.heap.size) (v:=ae 44 (w2.heap.size+5)) (by simp[Pm.put,m]) (by omega);have P1:=Pm.eH (p:=(((j.put (w2.heap.size+1) 0 (.int .i64 0)).put (w2.heap.size+6) 1 (ptr (w2.heap.size+1))).put (w2.heap.size+6) 5 (.int .u32 15)).put (w2.heap.size+6) 6 (ae 44 (w2.heap.size+5))) (b:=w2.heap.size+6) (o:=7) (n:=w2.heap.size) (v:=ae 44 (w2.heap.size+5)) (by simp[Pm.put,m]) (by omega);have W:=(((PX.trans PY (Nat.le_refl _)).trans PZ (Nat.le_refl _)).trans P0 (Nat.le_refl _)).trans P1 (Nat.le_refl _);have d:=W.le;have X:=z.le.trans d;have f:=I.le.trans X;have Y:∀o,(((((j.put (w2.heap.size+1) 0 (.int .i64 0)).put (w2.heap.size+6) 1 (ptr (w2.heap.size+1))).put (w2.heap.size+6) 5 (.int .u32 15)).put (w2.heap.size+6) 6 (ae 44 (w2.heap.size+5))).put (w2.heap.size+6) 7 (ae 44 (w2.heap.size+5))) w2.heap.size o=none:=fun o=>by
  repeat rw[Pm.a_ _ _ (by omega)]
  exact l _ _ (Nat.le_refl _) (by omega)
 have P2:=F.size;refine⟨_,(hw.grown F).grown PW,fun b o v e=>hw.lt e,h8,fun b o v e=> ?_,hG,by omega,Y,S 0 _ rfl,S 1 _ rfl,V 1,S 2 _ rfl,S 3 _ rfl,S 4 _ rfl,V 4,World.ownsRow_nil _ _ _ _,fun b e=>(by cases e),rfl,fun b e=>(by cases e),List.Pairwise.nil,List.Pairwise.nil,fun i hi=>absurd hi (Nat.not_lt_zero _),⟨_,X _ _ _ J⟩,?_,⟨by simp[Pm.put],⟨by simp[Pm.put],by simp[Pm.put],by simp[Pm.put]⟩,⟨0,.int .i64 0,by simp[Pm.put]⟩,d _ _ _ M,d _ _ _ N,fun g=>(O g).sub d (aH.refl g)⟩,⟨by omega,by omega,by omega⟩⟩
 ·rcases W.new _ _ _ e with e|e
  ·rcases z.new _ _ _ e with e|e
   ·exact K _ _ _ e
   ·omega
  ·omega
 ·obtain⟨k1,k2,⟨o,v,k3⟩,k4,k5,k6⟩:=t
  exact⟨f _ _ _ k1,k2.sub f,⟨o,v,f _ _ _ k3⟩,f _ _ _ k4,f _ _ _ k5,fun g=>(k6 g).sub f (aH.refl g)⟩
structure L2(C:BC)(w:World)(q:Pm)(g:Ge)(mv:Value)(ms:List Nat)(wr:World):Prop where
 bs:BS C q g mv ms wr
 wt:∀j,C.i≤j→j<C.D.len→iN q g wr j
 mt:∀j,j<C.i→dM C q g wr j 0 (fun _=>ByteArray.empty) (.slice none 0 0) []
 ob:∀j,j<C.D.len→q (g.ob j) 1=some (ptr g.pk)
 pk:∃s,q g.pk 0=some (.string s)
 ct:ms.length≤aK (C.T.take C.i)
 bl:Below w.heap.size w wr
 b0:w.heap.size≤C.B0
section
variable {C:BC} {w wr W0 w1:World} {q q1:Pm} {g g1:Ge} {mv mv1:Value} {ms ms1:List Nat} {u:U} {x:Value}
theorem L2.wait(h:L2 C w q g mv ms wr)(hi:C.i<C.D.len)(a:Below wr.heap.size wr W0)(b:aD C q g mv ms W0 q1 g1 ms1 w1):iN q1 g1 w1 C.i:=
 (h.wt _ (Nat.le_refl _) hi).step h.bs (by rw[h.bs.len];exact hi) (aD.ahead a b)
theorem L2.step(h:L2 C w q g mv ms wr)(hi:C.i<C.D.len)(hu:C.T[C.i]?=some u)(t:Below wr.heap.size wr W0)(d:BS C q1 g1 mv1 ms1 w1)(v:aD C q g mv ms W0 q1 g1 ms1 w1)(K:ms1.length≤ms.length+cn u)(L:Node q1 g1 u x):
 ∃z,L2 {C with i:=C.i+1} w z g1 mv1 ms1 (((((((w1.setCell ⟨g1.nb C.i,3,none⟩ (.int .i32 1)).setCell ⟨g1.nb C.i,6,none⟩ x).setCell ⟨g1.nb C.i,2,none⟩ (.bool false)).setCell ⟨g1.nb C.i,5,none⟩ (.int .u32 7)).setCell ⟨g1.nb C.i,7,none⟩ x).setCell ⟨g1.nb C.i,5,none⟩ (.int .u32 15)).setCell ⟨g1.nb C.i,3,none⟩ (.int .i32 0))∧Sub q1 z∧
  Kept (fun c=>c=g1.nb C.i) w1 (((((((w1.setCell ⟨g1.nb C.i,3,none⟩ (.int .i32 1)).setCell ⟨g1.nb C.i,6,none⟩ x).setCell ⟨g1.nb C.i,2,none⟩ (.bool false)).setCell ⟨g1.nb C.i,5,none⟩ (.int .u32 7)).setCell ⟨g1.nb C.i,7,none⟩ x).setCell ⟨g1.nb C.i,5,none⟩ (.int .u32 15)).setCell ⟨g1.nb C.i,3,none⟩ (.int .i32 0)):=by
 have a:=aD.ahead t v;have hlen:g1.len=C.D.len:=d.len;have B:g.len=C.D.len:=h.bs.len;have M:=h.wait hi t v;obtain⟨E,f,k,y,hM⟩:=d.told (by omega) M fun N=>by
  have:C.T[C.i]=u:=(List.getElem?_eq_some_iff.1 hu).2;rw[this];exact L
 generalize (((((((w1.setCell ⟨g1.nb C.i,3,none⟩ (.int .i32 1)).setCell ⟨g1.nb C.i,6,none⟩ x).setCell ⟨g1.nb C.i,2,none⟩ (.bool false)).setCell ⟨g1.nb C.i,5,none⟩ (.int .u32 7)).setCell ⟨g1.nb C.i,7,none⟩ x).setCell ⟨g1.nb C.i,5,none⟩ (.int .u32 15)).setCell ⟨g1.nb C.i,3,none⟩ (.int .i32 0))=w2 at*;generalize (((q1.put (g1.nb C.i) 5 (.int .u32 15)).put (g1.nb C.i) 6 x).put (g1.nb C.i) 7 x)=z at*;have n:∀j,j<C.D.len→j≠C.i→g1.nb j≠g1.nb C.i:=fun j m F e=>F (d.inj.nb j C.i (by omega) (by omega) e);have H:=d.lp _ _ _ (d.nm C.i (by omega));refine⟨z,⟨E,fun j h1 h2=> ?_,fun j m=> ?_,fun j m=> ?_,?_,?_,?_,h.b0⟩,f,y⟩
 ·have O:C.i+1≤j:=h1
  have p:j<C.D.len:=h2;have r:=(h.wt j (by omega) p).step h.bs (by omega) a;refine⟨(y.block _ (Array.getElem?_eq_some_iff.1 r.1).1 (n j p (by omega))).trans r.1,fun o P=> ?_⟩;rw[k _ _ (n j p (by omega))];exact r.2 o P
 ·have Q:j<C.i+1:=m
  by_cases e:j=C.i
  ·subst e
   exact⟨hM.fl,hM.c9,hM.f9,hM.d9,hM.d0,World.ownsRow_nil _ _ _ _,fun b e=>(by cases e),fun j m=>absurd m (Nat.not_lt_zero _)⟩
  ·have l:=(h.mt j (by omega)).step h.bs (by omega) a
   have A:=n j (by omega) e;have I:=World.block_lt_of_cell? _ _ l.c9;exact⟨rfl,by rw[y.cell I A];exact l.c9,by rw[y.frozen I A];exact l.f9,by rw[k _ _ A];exact l.d9,by rw[k _ _ A];exact l.d0,World.ownsRow_nil _ _ _ _,fun b e=>(by cases e),fun j m=>absurd m (Nat.not_lt_zero _)⟩
 ·have:=h.ob j m
  rw[a.gs.ob,a.gs.pk];exact f _ _ _ (a.gr.le _ _ _ this)
 ·obtain⟨s,e⟩:=h.pk
  exact⟨s,by rw[a.gs.pk];exact f _ _ _ (a.gr.le _ _ _ e)⟩
 ·have:=gi hu
  have:=h.ct;show _≤aK (C.T.take (C.i+1));omega
 ·have G:=h.bl.size
  have J:=a.kept.size;refine Below.own (Below.own h.bl a.kept G fun b e=> ?_) y (by omega) fun b e=> ?_
  ·have:=(h.bs.ib (b:=b) (e.imp Eq.symm id)).1
   have:=h.b0;omega
  ·have:=h.b0;omega
end
theorem FM{u:U}(h:1≤u.k∧u.k≤10∧u.k≠2):under u=u:=cQ h.2.2 (by omega) (by omega) (by omega)
theorem FN{p:Pm}{g:Ge}{u:U}{t c:Nat}(h:Node p g u (ae t c))(h1:1≤u.k)(a:u.k≤10)(h2:u.k≠2):t≠136∧t≠58:=by
 generalize b:ae t c=x at h;cases h with
 |basic _ _|array _ _ _ _ _|slice _ _ _ _|pointer _ _ _ _|map _ _ _ _ _ _|chan _ _ _ _ _|struct _ _ _ _ _ _ _ _ _|func _ _ _ _ _ _ _ _ _|iface _ _=>cases b;exact⟨by decide,by decide⟩
 |_=>omega
def cN(l:List cX):Nat:=(l.map fun m=>cn m.sig).sum
def cB(l:List aF):Nat:=(l.map fun d=>cN d.ms).sum
theorem FO{l:List cX}{k:Nat}{m:cX}(h:l[k]?=some m):cN (l.take (k+1))=cN (l.take k)+cn m.sig:=by
 unfold cN;rw[List.take_add_one,h];simp
theorem FP{l:List aF}{k:Nat}{d:aF}(h:l[k]?=some d):cB (l.take (k+1))=cB (l.take k)+cN d.ms:=by
 unfold cB;rw[List.take_add_one,h];simp
theorem xC(l:List cX)(k:Nat):cN (l.take k)≤cN l:=by
 have h:cN (l.take k++l.drop k)=cN (l.take k)+cN (l.drop k):=by unfold cN;rw[List.map_append,List.sum_append]
 rw[List.take_append_drop]at h;omega
theorem xD(l:List aF)(k:Nat):cB (l.take k)≤cB l:=by
 have h:cB (l.take k++l.drop k)=cB (l.take k)+cB (l.drop k):=by unfold cB;rw[List.map_append,List.sum_append]
 rw[List.take_append_drop]at h;omega
def lM(l:List cX)(k:Nat):ByteArray:=(l[k]?.map cX.nm).getD ByteArray.empty
structure L3(C:BC)(w:World)(i:Nat)(q:Pm)(g:Ge)(mv:Value)(ms:List Nat)(N:Nat)(wr:World):Prop where
 bs:BS C q g mv ms wr
 mt:∀j,i≤j→j<C.D.len→dM C q g wr j 0 (fun _=>ByteArray.empty) (.slice none 0 0) []
 ob:∀j,j<C.D.len→q (g.ob j) 1=some (ptr g.pk)
 pk:∃s,q g.pk 0=some (.string s)
 ct:ms.length≤N
 bl:Below w.heap.size w wr
 b0:w.heap.size≤C.B0
theorem dM.zero{C:BC}{q:Pm}{g:Ge}{w:World}{j:Nat}{aG a:Nat→ByteArray}(h:dM C q g w j 0 aG (.slice none 0 0) []):dM C q g w j 0 a (.slice none 0 0) []:=
 ⟨rfl,h.c9,h.f9,h.d9,h.d0,World.ownsRow_nil _ _ _ _,fun b e=>(by cases e),fun j c=>absurd c (Nat.not_lt_zero _)⟩
theorem L2.done{C:BC}{w wr:World}{q:Pm}{g:Ge}{mv:Value}{ms:List Nat}(h:L2 C w q g mv ms wr)(hi:C.i=C.D.len){N:Nat}(a:aK (C.T.take C.i)≤N):L3 C w 0 q g mv ms N wr:=
 ⟨h.bs,fun j _ b=>h.mt j (by omega),h.ob,h.pk,Nat.le_trans h.ct a,h.bl,h.b0⟩
theorem L3.below{C:BC}{w wr w1:World}{i:Nat}{q:Pm}{g:Ge}{mv:Value}{ms:List Nat}{N:Nat}(h:L3 C w i q g mv ms N wr)(a:Below wr.heap.size wr w1):L3 C w i q g mv ms N w1:=
 ⟨h.bs.below a,fun j h1 h2=>(h.mt j h1 h2).below a,h.ob,h.pk,h.ct,h.bl.trans (a.mono h.bl.size),h.b0⟩
theorem L3.pw{C:BC}{w wr:World}{i a:Nat}{q:Pm}{g:Ge}{mv:Value}{ms:List Nat}{N b:Nat}(h:L3 C w i q g mv ms N wr)(hi:i≤a)(c:N≤b):L3 C w a q g mv ms b wr:=
 ⟨h.bs,fun j h1 h2=>h.mt j (by omega) h2,h.ob,h.pk,Nat.le_trans h.ct c,h.bl,h.b0⟩
theorem L3.step{C:BC}{w wr w1:World}{i k:Nat}{q q1:Pm}{g g1:Ge}{mv mv1:Value}{ms ms1:List Nat}{N M:Nat}{aG:Nat→ByteArray}{v:Value}{fs:List Nat}(h:L3 C w (i+1) q g mv ms N wr)(hi:i<C.D.len)(hM:dM C q g wr i k aG v fs)(m:BS C q1 g1 mv1 ms1 w1)(f:aP q q1 wr.heap.size)(a:aH g g1)
 (n:Kept (fun c=>c=C.bb∨mv.ownBlock=some c∨c=g.nb i∨v.ownBlock=some c) wr w1)(B:ms1.length≤ms.length+M):L3 C w (i+1) q1 g1 mv1 ms1 (N+M) w1:=by
 have hlen:g.len=C.D.len:=h.bs.len;refine⟨m,fun j h1 h2=> ?_,fun j p=> ?_,?_,by have:=h.ct;omega,?_,h.b0⟩
 ·have d:=h.mt j h1 h2
  have r:=World.block_lt_of_cell? _ _ d.c9;simp only at r;have l:=h.bs.nm j (by omega);have z:¬(g.nb j=C.bb∨mv.ownBlock=some (g.nb j)∨g.nb j=g.nb i∨v.ownBlock=some (g.nb j)):=fun e=>by
   rcases e with e|e|e|e
   ·exact h.bs.nD (i:=j) (by omega) (.inl e)
   ·exact h.bs.nD (i:=j) (by omega) (.inr e)
   ·have:=h.bs.inj.nb j i (by omega) (by omega) e;omega
   ·rw[hM.rd _ e 1]at l;cases l
  have A:∀o,q (g.nb j) o=none→q1 (g.nb j) o=none:=fun o e=>by
   cases E:q1 (g.nb j) o with
   |none=>rfl
   |some x=>
    rcases f.new _ _ _ E with t|t
    ·rw[e]at t;cases t
    ·omega
  exact⟨rfl,by rw[a.nb,n.cell r z];exact d.c9,by rw[a.nb,n.frozen r z];exact d.f9,by rw[a.nb];exact A 9 d.d9,by rw[a.nb];exact A 0 d.d0,World.ownsRow_nil _ _ _ _,fun b e=>(by cases e),fun j p=>absurd p (Nat.not_lt_zero _)⟩
 ·rw[a.ob,a.pk];exact f.le _ _ _ (h.ob j p)
 ·obtain⟨s,e⟩:=h.pk
  exact⟨s,by rw[a.pk];exact f.le _ _ _ e⟩
 ·have y:=h.bl.size
  refine Below.own h.bl n y fun b e=> ?_;have F:=h.b0;rcases e with e|e|e|e
  ·have:=h.bs.bl;omega
  ·have:=(h.bs.ib (b:=b) (.inr e)).1;omega
  ·have:=h.bs.lp _ _ _ (h.bs.nm i (by omega));omega
  ·have:=(hM.row.lt _ e).1;have:=h.bs.bl;omega
end TS
