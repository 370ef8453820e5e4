import Derived.Test.YtdkmnkjhhhmglaaGreatDoorYbi
import Derived.Test.YtdkmnkjhhhmglaaGreatDoorYbk
set_option maxRecDepth 100000
set_option maxHeartbeats 8000000
set_option linter.all false
namespace TS
open Go Go.RowKit Go.Proofs.YtdkmnkjhhhmglaaGreatDoor
def gY:U:= .mk 7 0 0 false errorName ByteArray.empty [dB] []
theorem xf:ai aI= [gY]:=by
 rw[jI rfl];exact List.mergeSort_singleton _
theorem E0(len:Nat):gd len aI:=by
 have hw:bL aI= []:=by rw[o_ rfl];rfl
 refine⟨rfl,fun x a=>(by rw[hw]at a;cases a),by rw[hw];simp,fun x a=>(by rw[hw]at a;cases a),fun e he=>(by cases he),fun m hm=> ?_,?_,?_,by decide⟩
 ·have:m=gY:=by simpa [aI,U.es,U.m,gY]using hm
  subst this;decide
 ·exact List.pairwise_singleton _ _
 ·show(dW aI).length≤_
  have:dW aI= [gY]:=rfl;rw[this];simp
theorem E1{p:Pm}{g c:Ge}{f:Nat}(h:dn p g gY f):dn p c gY f:=by
 obtain⟨d,h1,h2,h3,j⟩:=h;refine⟨d,h1,h2,h3,?_⟩;obtain⟨b,l,rv,w,xs,e,m,n,o,q,r,s,t,u⟩:=j.lr rfl;cases e;refine .func rfl m n o q r s t fun i hi=> ?_;have a:=u i hi;have:gY.es[i]=dB:=by
  have:i=0:=by simp[gY,U.es]at hi;omega
  subst this;rfl
 rw[this]at a⊢;obtain⟨x,v,k⟩:=a.kp rfl;rw[v];exact .basic rfl k
theorem E2{p:Pm}{g q:Ge}{b:Nat}(h:cY p g b aI):cY p q b aI:=by
 obtain⟨tb,r,s,f,ta,tc,e,cmp,h1,h2,h3,t,u,v,h7,w,x,j,⟨y,k,a⟩,l,c,m⟩:=h;have n:e= [none]:=(c.gen (by rw[ns rfl];rfl)).1;refine⟨tb,r,s,f,ta,tc,e,cmp,h1,h2,h3,t,u,v,fun i hi=> ?_,w,x,j,⟨y,k,fun i hi=> ?_⟩,l,c,m⟩
 ·have hm:=h7 i hi
  have:(ai aI)[i]=gY:=by
   have d:=hi;simp only[xf]at d;have:i=0:=by simp at d;omega
   subst this;simp[xf]
  rw[this]at hm⊢;exact E1 hm
 ·have o:=a i hi
  have:e[i]=none:=by
   subst n;have:i=0:=by simpa using hi
   subst this;rfl
  rw[this]at o⊢;exact o
theorem WB.box{p:Pm}{w:World}(h:WB p w)(cs:Array Value)(T:TypeId):WB (p.add w.heap.size cs) (w.alloc (.cells cs T)):=
 (h.below ((Below.refl _ _).alloc (Nat.le_refl _) _)).add (T:=T) (fun o=>h.kw.aJ (Nat.le_refl _) o) (cV rfl)
theorem E3(w:World)(a b:Array Value)(c d:TypeId)(v:Value):Below w.heap.size w (((w.alloc (.cells a c)).setCell ⟨w.heap.size,3,none⟩ v).alloc (.cells b d))∧(((w.alloc (.cells a c)).setCell ⟨w.heap.size,3,none⟩ v).alloc (.cells b d)).heap.size=w.heap.size+2∧
 (((w.alloc (.cells a c)).setCell ⟨w.heap.size,3,none⟩ v).alloc (.cells b d)).heap[w.heap.size]?=some (.cells (a.setIfInBounds 3 v) c (0,0))∧(((w.alloc (.cells a c)).setCell ⟨w.heap.size,3,none⟩ v).alloc (.cells b d)).heap[w.heap.size+1]?=some (.cells b d (0,0)):=by
 have hT:(w.alloc (.cells a c)).heap[w.heap.size]?=some (.cells a c (0,0)):=cV rfl;have e:=heap_set (o:=3) (v:=v) hT;exact⟨(((Below.refl _ _).alloc (Nat.le_refl _) _).setCell (Nat.le_refl _) _).alloc (by simp) _,by simp,by rw[dU (by simp)];exact e,cV (by simp)⟩
theorem Below.own{B:Nat}{a w c:World}{X:Nat→Prop}(h:Below B a w)(k:Kept X w c)(f:B≤w.heap.size)(d:∀b,X b→B≤b):Below B a c:=
 h.trans ⟨k.os,k.tape,k.output,k.size,fun j g=>k.block j (by omega) fun e=>by have:=d j e;omega⟩
theorem WB.named{q:Pm}{W:World}{b o:Nat}{nil:Bool}{x:Value}(h:WB q W)(m:W.heap[b]?=some (.cells (dq ⟨o,0,none⟩ nil 0 0 .nilIface .nilIface (.slice none 0 0)) 124 (0,0)))(a:∀i,i≠1→q b i=none)(d:b≠5):
 WB q (((((((W.setCell ⟨b,3,none⟩ (.int .i32 1)).setCell ⟨b,6,none⟩ x).setCell ⟨b,2,none⟩ (.bool false)).setCell ⟨b,5,none⟩ (.int .u32 7)).setCell ⟨b,7,none⟩ x).setCell ⟨b,5,none⟩ (.int .u32 15)).setCell ⟨b,3,none⟩ (.int .i32 0))∧
 WB (((q.put b 5 (.int .u32 15)).put b 6 x).put b 7 x) (((((((W.setCell ⟨b,3,none⟩ (.int .i32 1)).setCell ⟨b,6,none⟩ x).setCell ⟨b,2,none⟩ (.bool false)).setCell ⟨b,5,none⟩ (.int .u32 7)).setCell ⟨b,7,none⟩ x).setCell ⟨b,5,none⟩ (.int .u32 15)).setCell ⟨b,3,none⟩ (.int .i32 0))∧
 (((((((W.setCell ⟨b,3,none⟩ (.int .i32 1)).setCell ⟨b,6,none⟩ x).setCell ⟨b,2,none⟩ (.bool false)).setCell ⟨b,5,none⟩ (.int .u32 7)).setCell ⟨b,7,none⟩ x).setCell ⟨b,5,none⟩ (.int .u32 15)).setCell ⟨b,3,none⟩ (.int .i32 0)).heap[b]?=some (.cells (dq ⟨o,0,none⟩ false 0 15 x x (.slice none 0 0)) 124 (0,0))∧
 Kept (fun c=>c=b) W (((((((W.setCell ⟨b,3,none⟩ (.int .i32 1)).setCell ⟨b,6,none⟩ x).setCell ⟨b,2,none⟩ (.bool false)).setCell ⟨b,5,none⟩ (.int .u32 7)).setCell ⟨b,7,none⟩ x).setCell ⟨b,5,none⟩ (.int .u32 15)).setCell ⟨b,3,none⟩ (.int .i32 0)):=by
 have n:Kept (fun c=>c=b) W (((((((W.setCell ⟨b,3,none⟩ (.int .i32 1)).setCell ⟨b,6,none⟩ x).setCell ⟨b,2,none⟩ (.bool false)).setCell ⟨b,5,none⟩ (.int .u32 7)).setCell ⟨b,7,none⟩ x).setCell ⟨b,5,none⟩ (.int .u32 15)).setCell ⟨b,3,none⟩ (.int .i32 0)):=by
  refine Kept.setCell (Kept.setCell (Kept.setCell (Kept.setCell (Kept.setCell (Kept.setCell (Kept.setCell (Kept.refl _ _) ?_ _) ?_ _) ?_ _) ?_ _) ?_ _) ?_ _) ?_ _<;>exact fun _=>rfl
 have l:=((((((h.setCell (.int .i32 1) (a 3 (by decide)) d).setCell x (a 6 (by decide)) d).setCell (.bool false) (a 2 (by decide)) d).setCell (.int .u32 7) (a 5 (by decide)) d).setCell x (a 7 (by decide)) d).setCell (.int .u32 15) (a 5 (by decide)) d).setCell (.int .i32 0) (a 3 (by decide)) d;have hH:=heap_set (o:=3) (v:= .int .i32 0) (heap_set (o:=5) (v:= .int .u32 15) (heap_set (o:=7) (v:=x) (heap_set (o:=5) (v:= .int .u32 7) (heap_set (o:=2) (v:= .bool false) (heap_set (o:=6) (v:=x) (heap_set (o:=3) (v:= .int .i32 1) m))))));generalize (((((((W.setCell ⟨b,3,none⟩ (.int .i32 1)).setCell ⟨b,6,none⟩ x).setCell ⟨b,2,none⟩ (.bool false)).setCell ⟨b,5,none⟩ (.int .u32 7)).setCell ⟨b,7,none⟩ x).setCell ⟨b,5,none⟩ (.int .u32 15)).setCell ⟨b,3,none⟩ (.int .i32 0))=j at*;have f:j.heap[b]?=some (.cells (dq ⟨o,0,none⟩ false 0 15 x x (.slice none 0 0)) 124 (0,0)):=by simpa using hH
 have k:∀i v,(dq ⟨o,0,none⟩ false 0 15 x x (.slice none 0 0))[i]?=some v→j.cell? ⟨b,i,none⟩=some v:=fun i v e=>by simp only[World.cell?,f];exact e
 have g:Plain j b:=⟨_,_,f⟩
 exact⟨l,((l.put (k 5 _ rfl) g).put (k 6 _ rfl) g).put (k 7 _ rfl) g,f,n⟩
def xg(w:World)(e:Ending)(a:World):Prop:=∃(q:Pm)(eb eo ib:Nat),e= .returned (.pointer (some ⟨eb,0,none⟩))∧WB q a∧Below w.heap.size w a∧(∀b o v,q b o=some v→w.heap.size≤b)∧q eb 1=some (ptr eo)∧eM q eb (ae 44 ib)∧(∃o v,q eo o=some v)∧q ib 0=some (.pointer none)∧q ib 5=some (.bool true)∧eb<a.heap.size∧eo<a.heap.size∧∀g,cY q g ib aI
end TS
namespace Go.Proofs.YtdkmnkjhhhmglaaGreatDoor
open Go.RowKit TS
def g0(eo co:Nat):Ge:=⟨fun _=>0,fun _=>0,0,0,eo,1,co,0,fun _=>none⟩
theorem E4{q:Pm}{w:World}{eo co:Nat}(h:WB q w)(a:eo≠co)(h1:∃o v,q eo o=some v)(h2:∃o v,q co o=some v):aw q (g0 eo co) w:=
 ⟨h.kw,h.pl,⟨fun i j hi=>absurd hi (Nat.not_lt_zero _),fun i j hi=>absurd hi (Nat.not_lt_zero _),fun i hi=>absurd hi (Nat.not_lt_zero _),fun i hi=>absurd hi (Nat.not_lt_zero _),(show(0:Nat)≠1 by decide),fun i hi=>absurd hi (Nat.not_lt_zero _),fun i hi=>absurd hi (Nat.not_lt_zero _),a⟩,h.cap,fun b u e=>(by cases e),fun i hi=>absurd hi (Nat.not_lt_zero _),h1,h2⟩
abbrev jN(W:World)(b r recv:Nat):World:=(((((((W.alloc (.cells #[.int .i64 0,.pointer none,.string ByteArray.empty,ae 99 b,.int .u8 5,.bool false] 175)).alloc (.cells #[.pointer (some ⟨r,0,none⟩)] 96)).alloc (.cells #[.slice (some ⟨r+1,0,none⟩) 1 1] 183)).alloc (.cells #[.pointer (some ⟨recv,0,none⟩),.pointer none,.pointer none,.pointer (some ⟨r+2,0,none⟩),.bool false] 106)).alloc (.cells #[.int .i64 0,.pointer none,.string errorName,ae 102 (r+3),.bool false,.bool false] 195)).alloc (.cells #[.pointer (some ⟨r+4,0,none⟩)] 107)).alloc (.cells (dJ (.slice (some ⟨r+5,0,none⟩) 1 1) (.slice none 0 0) true (.pointer none)) 113))
theorem E5{q:Pm}{W:World}{b r recv:Nat}(h:WB q W)(hr:r=W.heap.size)(U:q b 0=some (.int .i64 17))(C:b<r)(hG:5<r):
 ∃k,aP q k r∧WB k (jN W b r recv)∧(jN W b r recv).cell? ⟨r+6,6,none⟩=some (.pointer none)∧(jN W b r recv).frozen? ⟨r+6,6,none⟩=false∧
  (∀g,fX k g (r+6) aI)∧k (r+6) 6=none∧k r 0=some (.int .i64 0)∧k (r+1) 0=some (ptr r):=by
 unfold jN;have h1:=h.box #[.int .i64 0,.pointer none,.string ByteArray.empty,ae 99 b,.int .u8 5,.bool false] 175;have h2:=h1.box #[.pointer (some ⟨r,0,none⟩)] 96;have h3:=h2.box #[.slice (some ⟨r+1,0,none⟩) 1 1] 183;have P:=h3.box #[.pointer (some ⟨recv,0,none⟩),.pointer none,.pointer none,.pointer (some ⟨r+2,0,none⟩),.bool false] 106;have R:=P.box #[.int .i64 0,.pointer none,.string errorName,ae 102 (r+3),.bool false,.bool false] 195;have S:=R.box #[.pointer (some ⟨r+4,0,none⟩)] 107;simp only[World.size_alloc,←hr]at h1 h2 h3 P R S;have V:∀c o,r≤c→q c o=none:=fun c o u=>h.kw.aJ (by omega) o;generalize t:((((((q.add r #[.int .i64 0,.pointer none,.string ByteArray.empty,ae 99 b,.int .u8 5,.bool false]).add (r+1) #[.pointer (some ⟨r,0,none⟩)]).add (r+2) #[.slice (some ⟨r+1,0,none⟩) 1 1]).add (r+3) #[.pointer (some ⟨recv,0,none⟩),.pointer none,.pointer none,.pointer (some ⟨r+2,0,none⟩),.bool false]).add (r+4) #[.int .i64 0,.pointer none,.string errorName,ae 102 (r+3),.bool false,.bool false]).add (r+5) #[.pointer (some ⟨r+4,0,none⟩)])=Q at*;have z:∀c o,c<r→Q c o=q c o:=fun c o u=>by rw[←t];simp only[Pm.add];repeat rw[if_neg (by omega)]
 have A:∀o,Q r o=(#[.int .i64 0,.pointer none,.string ByteArray.empty,ae 99 b,.int .u8 5,.bool false]:Array Value)[o]?:=fun o=>by rw[←t];rw[Pm.aO _ _ _ (by omega),Pm.aO _ _ _ (by omega),Pm.aO _ _ _ (by omega),Pm.aO _ _ _ (by omega),Pm.aO _ _ _ (by omega),Pm.aX]
 have B:∀o,Q (r+1) o=(#[.pointer (some ⟨r,0,none⟩)]:Array Value)[o]?:=fun o=>by rw[←t];rw[Pm.aO _ _ _ (by omega),Pm.aO _ _ _ (by omega),Pm.aO _ _ _ (by omega),Pm.aO _ _ _ (by omega),Pm.aX]
 have D:∀o,Q (r+2) o=(#[.slice (some ⟨r+1,0,none⟩) 1 1]:Array Value)[o]?:=fun o=>by rw[←t];rw[Pm.aO _ _ _ (by omega),Pm.aO _ _ _ (by omega),Pm.aO _ _ _ (by omega),Pm.aX]
 have w:∀o,Q (r+3) o=(#[.pointer (some ⟨recv,0,none⟩),.pointer none,.pointer none,.pointer (some ⟨r+2,0,none⟩),.bool false]:Array Value)[o]?:=fun o=>by rw[←t];rw[Pm.aO _ _ _ (by omega),Pm.aO _ _ _ (by omega),Pm.aX]
 have s:∀o,Q (r+4) o=(#[.int .i64 0,.pointer none,.string errorName,ae 102 (r+3),.bool false,.bool false]:Array Value)[o]?:=fun o=>by rw[←t];rw[Pm.aO _ _ _ (by omega),Pm.aX]
 have E:∀o,Q (r+5) o=(#[.pointer (some ⟨r+4,0,none⟩)]:Array Value)[o]?:=fun o=>by rw[←t];rw[Pm.aX]
 have F:∀c o,r+6≤c→Q c o=none:=fun c o u=>by rw[←t];simp only[Pm.add];repeat rw[if_neg (by omega)]
                                             exact V c o (by omega)
 have X:Sub q Q:=fun c o v e=>by rw[z c o (by rw[hr];exact h.kw.lt e)];exact e
 generalize G:((((((W.alloc (.cells #[.int .i64 0,.pointer none,.string ByteArray.empty,ae 99 b,.int .u8 5,.bool false] 175)).alloc (.cells #[.pointer (some ⟨r,0,none⟩)] 96)).alloc (.cells #[.slice (some ⟨r+1,0,none⟩) 1 1] 183)).alloc (.cells #[.pointer (some ⟨recv,0,none⟩),.pointer none,.pointer none,.pointer (some ⟨r+2,0,none⟩),.bool false] 106)).alloc (.cells #[.int .i64 0,.pointer none,.string errorName,ae 102 (r+3),.bool false,.bool false] 195)).alloc (.cells #[.pointer (some ⟨r+4,0,none⟩)] 107))=H at*;have I:H.heap.size=r+6:=by rw[←G];simp[←hr]
 have m:(H.alloc (.cells (dJ (.slice (some ⟨r+5,0,none⟩) 1 1) (.slice none 0 0) true (.pointer none)) 113)).heap[r+6]?=some (.cells (dJ (.slice (some ⟨r+5,0,none⟩) 1 1) (.slice none 0 0) true (.pointer none)) 113 (0,0)):=cV I.symm;have h7:=S.below ((Below.refl _ _).alloc (Nat.le_refl _) (.cells (dJ (.slice (some ⟨r+5,0,none⟩) 1 1) (.slice none 0 0) true (.pointer none)) 113));generalize (H.alloc (.cells (dJ (.slice (some ⟨r+5,0,none⟩) 1 1) (.slice none 0 0) true (.pointer none)) 113))=T at*;have l:∀o x,(dJ (.slice (some ⟨r+5,0,none⟩) 1 1) (.slice none 0 0) true (.pointer none))[o]?=some x→T.cell? ⟨r+6,o,none⟩=some x:=fun o x e=>by simp only[World.cell?,m];exact e
 have n:Plain T (r+6):=⟨_,_,m⟩
 have Y:=((((h7.put (l 0 (.pointer none) rfl) n).put (l 1 (.slice (some ⟨r+5,0,none⟩) 1 1) rfl) n).put (l 2 (.slice none 0 0) rfl) n).put (l 3 (.pointer none) rfl) n).put (l 5 (.bool true) rfl) n;have a:∀c o,c≠r+6→(((((Q.put (r+6) 0 (.pointer none)).put (r+6) 1 (.slice (some ⟨r+5,0,none⟩) 1 1)).put (r+6) 2 (.slice none 0 0)).put (r+6) 3 (.pointer none)).put (r+6) 5 (.bool true)) c o=Q c o:=fun c o u=>by
  repeat rw[Pm.a_ _ _ (by omega)]
 have J:(((((Q.put (r+6) 0 (.pointer none)).put (r+6) 1 (.slice (some ⟨r+5,0,none⟩) 1 1)).put (r+6) 2 (.slice none 0 0)).put (r+6) 3 (.pointer none)).put (r+6) 5 (.bool true)) (r+6) 0=some (.pointer none):=by simp[Pm.put]
 have K:(((((Q.put (r+6) 0 (.pointer none)).put (r+6) 1 (.slice (some ⟨r+5,0,none⟩) 1 1)).put (r+6) 2 (.slice none 0 0)).put (r+6) 3 (.pointer none)).put (r+6) 5 (.bool true)) (r+6) 1=some (.slice (some ⟨r+5,0,none⟩) 1 1):=by simp[Pm.put]
 have L:(((((Q.put (r+6) 0 (.pointer none)).put (r+6) 1 (.slice (some ⟨r+5,0,none⟩) 1 1)).put (r+6) 2 (.slice none 0 0)).put (r+6) 3 (.pointer none)).put (r+6) 5 (.bool true)) (r+6) 2=some (.slice none 0 0):=by simp[Pm.put]
 have M:(((((Q.put (r+6) 0 (.pointer none)).put (r+6) 1 (.slice (some ⟨r+5,0,none⟩) 1 1)).put (r+6) 2 (.slice none 0 0)).put (r+6) 3 (.pointer none)).put (r+6) 5 (.bool true)) (r+6) 3=some (.pointer none):=by simp[Pm.put]
 have N:(((((Q.put (r+6) 0 (.pointer none)).put (r+6) 1 (.slice (some ⟨r+5,0,none⟩) 1 1)).put (r+6) 2 (.slice none 0 0)).put (r+6) 3 (.pointer none)).put (r+6) 5 (.bool true)) (r+6) 5=some (.bool true):=by simp[Pm.put]
 have O:(((((Q.put (r+6) 0 (.pointer none)).put (r+6) 1 (.slice (some ⟨r+5,0,none⟩) 1 1)).put (r+6) 2 (.slice none 0 0)).put (r+6) 3 (.pointer none)).put (r+6) 5 (.bool true)) (r+6) 6=none:=by
  simp[Pm.put];exact F _ _ (Nat.le_refl _)
 generalize (((((Q.put (r+6) 0 (.pointer none)).put (r+6) 1 (.slice (some ⟨r+5,0,none⟩) 1 1)).put (r+6) 2 (.slice none 0 0)).put (r+6) 3 (.pointer none)).put (r+6) 5 (.bool true))=k at*;have p:∀c o,c<r→k c o=q c o:=fun c o u=>by rw[a c o (by omega),z c o u]
 have y:∀g,TS.Node k g gY (ae 102 (r+3)):=fun g=>by
  refine .func (f:=fun _=>r) (xs:=fun _=>ae 99 b) rfl (by decide) (pv:= .pointer none) (rv:=ptr (r+2)) ?_ ?_ ?_ (.inl ⟨rfl,rfl⟩) (.inr ⟨by decide,r+2,some ⟨r+1,0,none⟩,1,rfl,?_,by decide,fun i hi=> ?_⟩) (fun i hi=> ?_) fun i hi=> ?_
  ·rw[a _ _ (by omega),w];rfl
  ·rw[a _ _ (by omega),w];rfl
  ·rw[a _ _ (by omega),w];rfl
  ·rw[a _ _ (by omega),D];rfl
  ·have d:i=0:=by have:i<1:=hi;omega
   subst d;exact⟨r+1,0,rfl,by rw[a _ _ (by omega),B];rfl⟩
  ·show k r 3=_
   rw[a _ _ (by omega),A];rfl
  ·have d:i=0:=by have:i<1:=hi;omega
   subst d;exact .basic rfl (by rw[p _ _ C];exact U)
 refine⟨k,⟨fun c o v e=>by rw[p c o (by rw[hr];exact h.kw.lt e)];exact e,fun c o v e=> ?_⟩,Y,l 6 _ rfl,by simp[World.frozen?,m],fun g=>⟨J,⟨by decide,some ⟨r+5,0,none⟩,1,fun _=>r+4,K,by decide,by decide,fun i hi=> ?_,fun i hi Z=> ?_⟩,⟨none,0,fun _=>undef,L,by decide,by decide,fun i hi=> ?_,fun i hi=> ?_,fun i j PM hj=> ?_⟩,M,N⟩,O,by rw[a _ _ (by omega),A];rfl,by rw[a _ _ (by omega),B];rfl⟩
 ·by_cases u:c<r
  ·rw[p c o u]at e;exact .inl e
  ·exact .inr (by omega)
 ·have d:i=0:=by have:i<1:=hi;omega
  subst d;exact⟨r+5,0,rfl,by rw[a _ _ (by omega),E];rfl⟩
 ·have d:i=0:=by have:i<1:=hi;omega
  subst d;show dn k g gY (r+4)∧k (r+4) 0=some (.int .i64 0);refine⟨⟨r+3,⟨none,?_⟩,?_,?_,y g⟩,?_⟩
  ·rw[a _ _ (by omega),s];rfl
  ·rw[a _ _ (by omega),s];rfl
  ·rw[a _ _ (by omega),s];rfl
  ·rw[a _ _ (by omega),s];rfl
 ·exact absurd hi (by show ¬i<0;omega)
 ·exact absurd hi (by show ¬1+i<1;omega)
 ·exact absurd hj (by show ¬1+j<1;omega)
theorem E6(w:World)(y:br w)(hG:5<w.heap.size):Calls Tryz.prog 34 #[] w (xg w):=by
 have PY:=Lib.hid y;clear y;obtain⟨n,hn⟩:∃n,Hid (n=w.heap.size):=⟨_,rfl⟩
 go_enter Tryz.func34,Tryz.ntmps34;go_wp2_with fail
 refine(qK _ _ _ _).mono ?_;rintro e1 w1 ⟨rfl,rfl⟩;go_wp2_with fail
 refine(uT w.heap.size _ (by simp) (kz w _ rfl) (mN w _ rfl)).mono ?_;rintro e2 q ⟨rfl,T⟩;have hf:Below w.heap.size w q∧q.heap.size=w.heap.size+2∧q.heap[w.heap.size]?=some (.cells #[.int .i64 0,.pointer none,.string ⟨#[101,114,114,111,114]⟩,.iface 58 (.pointer (some ⟨w.heap.size+1,0,none⟩))] 128 (0,0))∧q.heap[w.heap.size+1]?=some (.cells (dq ⟨w.heap.size,0,none⟩ false 0 0 .nilIface .nilIface (.slice none 0 0)) 124 (0,0)):=by
  rw[T];have:=E3 w #[.int .i64 0,.pointer none,.string ⟨#[101,114,114,111,114]⟩,.nilIface] (dq ⟨w.heap.size,0,none⟩ false 0 0 .nilIface .nilIface (.slice none 0 0)) 128 124 (.iface 58 (.pointer (some ⟨w.heap.size+1,0,none⟩)));simpa using this
 obtain⟨s,PZ,K,j⟩:=hf;have P2:q.heap.size≤w.heap.size+2∧w.heap.size+2≤q.heap.size:=by omega
 have E:WB (fun _ _=>none) w:=⟨fun _ _ _ e=>(by cases e),fun _ _ _ e=>(by cases e),PY.out⟩
 have U:=Lib.hid (((E.below s).put (b:=w.heap.size) (o:=0) (v:= .int .i64 0) (by simp[World.cell?,K]) ⟨_,_,K⟩).put (b:=w.heap.size+1) (o:=1) (v:=ptr w.heap.size) (by simp[World.cell?,j,dq]) ⟨_,_,j⟩);have L:=Lib.hid s;have M:=Lib.hid j;clear T s PZ K j E;go_wp2_with fail
 refine(lv _ _ _ _ _ _ _).mono ?_;rintro e3 w3 ⟨rfl,rfl⟩;go_wp2_with fail
 refine(uW 17 (by decide) _).mono ?_;rintro e4 d ⟨b,rfl,aa,N,V,h,W⟩;have z:Below q.heap.size q (q.alloc (.cells #[.int .i64 0,.pointer none,.string ByteArray.empty,.iface 58 (.pointer (some ⟨w.heap.size+1,0,none⟩)),.int .u8 3,.bool false] 175)):=(Below.refl _ _).alloc (Nat.le_refl _) _;have P0:=h.size;simp only[World.size_alloc]at aa P0;obtain⟨F,A⟩:∃F,Hid (F=((Pm.put (fun x P4=>none) w.heap.size 0 (.int .i64 0)).put (w.heap.size+1) 1 (ptr w.heap.size)).put b 0 (.int .i64 17)):=⟨_,rfl⟩
 have X:Hid (WB F d):=by rw[A.out];exact((U.out.below z).below h).put V W
 have Y:Hid (F b 0=some (.int .i64 17)):=by rw[A.out];exact Pm.fL ..
 have l:Hid (F (w.heap.size+1) 1=some (ptr w.heap.size)∧F w.heap.size 0=some (.int .i64 0)∧(∀o,o≠1→F (w.heap.size+1) o=none)∧∀c o v,F c o=some v→w.heap.size≤c):=by
  rw[A.out];refine⟨by rw[Pm.a_ _ _ (by omega),Pm.fL],by rw[Pm.a_ _ _ (by omega),Pm.a_ _ _ (by omega),Pm.fL],fun o ho=>by rw[Pm.a_ _ _ (by omega),Pm.a_ _ _ (by omega),Pm.a_ _ _ (by omega)],fun c o v e=> ?_⟩;by_cases h1:c=b∧o=0
  ·omega
  ·rw[Pm.a_ _ _ h1]at e
   by_cases h2:c=w.heap.size+1∧o=1
   ·omega
   ·rw[Pm.a_ _ _ h2]at e
    by_cases h3:c=w.heap.size∧o=0
    ·omega
    ·rw[Pm.a_ _ _ h3]at e;cases e
 have Z:Hid (Below w.heap.size w d):=((L.out.trans (z.mono (by omega))).trans (h.mono (by simp;omega)))
 have P1:Hid (d.heap[w.heap.size+1]?=some (.cells (dq ⟨w.heap.size,0,none⟩ false 0 0 .nilIface .nilIface (.slice none 0 0)) 124 (0,0))):=((h.block _ (by simp;omega)).trans (z.block _ (by omega))).trans M.out;obtain⟨r,hr⟩:∃r,Hid (r=d.heap.size):=⟨_,rfl⟩
 have P5:w.heap.size+3≤d.heap.size:=by omega
 obtain⟨q',PM,G,PN,PO,PQ,PR,PS,H⟩:=E5 (recv:=q.heap.size) X.out rfl Y.out N (by omega);have O:=Lib.hid G;have t:=Lib.hid PQ;have u:=Lib.hid PM;have P:=Lib.hid (And.intro PR (And.intro PS H));have P3:=Lib.hid N;clear V W h z G PQ PM PR PS H A N;go_wp2_with fail
 refine(lv _ _ _ _ _ _ _).mono ?_;rintro e5 w5 ⟨rfl,rfl⟩;go_wp2_with fail
 refine(uM _ 1 1 (by decide) _).mono ?_;rintro e6 w6 ⟨rfl,rfl⟩;go_wp2_with fail
 refine(oJ _ _ _ _ _).mono ?_;rintro e7 w7 ⟨rfl,rfl⟩;go_wp2_with fail
 have hF:=wT 0 q' (g0 d.heap.size (d.heap.size+1)) (d.heap.size+6) aI none 0 _ (E4 O.out (by omega) ⟨_,_,P.out.2.1⟩ ⟨_,_,P.out.2.2⟩) (t.out _) (E0 0) PN PO P.out.1 (by omega);refine hF.mono ?_;clear hF PN PO;rintro e8 w8 ⟨q8,tb,rfl,B,Q,PT,PU,C⟩;have PV:=C.size;simp only[World.size_alloc]at PV;have I:w.heap.size+1<(jN d b d.heap.size q.heap.size).heap.size:=by simp[jN];omega
 have D:Below d.heap.size d (jN d b d.heap.size q.heap.size):=by
  unfold jN;exact(((((((Below.refl _ _).alloc (Nat.le_refl _) _).alloc (by simp) _).alloc (by simp;omega) _).alloc (by simp;omega) _).alloc (by simp;omega) _).alloc (by simp;omega) _).alloc (by simp;omega) _
 have f:w8.heap[w.heap.size+1]?=some (.cells (dq ⟨w.heap.size,0,none⟩ false 0 0 .nilIface .nilIface (.slice none 0 0)) 124 (0,0)):=(C.block _ I (by omega)).trans ((D.block _ (by omega)).trans P1.out);have i:∀o,o≠1→q8 (w.heap.size+1) o=none:=fun o ho=>by
  cases hv:q8 (w.heap.size+1) o with
  |none=>rfl
  |some x=>
   rcases Q _ _ _ hv with e|e|e
   ·rcases u.out.new _ _ _ e with e|e
    ·rw[l.out.2.2.1 o ho]at e;cases e
    ·omega
   ·omega
   ·omega
 obtain⟨_,J,R,S⟩:=WB.named (x:= .iface 44 (.pointer (some ⟨d.heap.size+6,0,none⟩))) PT.wb f i (by omega);have PW:Hid (xg w (.returned (.pointer (some ⟨w.heap.size+1,0,none⟩))) (((((((w8.setCell ⟨w.heap.size+1,3,none⟩ (.int .i32 1)).setCell ⟨w.heap.size+1,6,none⟩ (.iface 44 (.pointer (some ⟨d.heap.size+6,0,none⟩)))).setCell ⟨w.heap.size+1,2,none⟩ (.bool false)).setCell ⟨w.heap.size+1,5,none⟩ (.int .u32 7)).setCell ⟨w.heap.size+1,7,none⟩ (.iface 44 (.pointer (some ⟨d.heap.size+6,0,none⟩)))).setCell ⟨w.heap.size+1,5,none⟩ (.int .u32 15)).setCell ⟨w.heap.size+1,3,none⟩ (.int .i32 0))):=by
  have a:=((Pm.fM (p:=q8) (b:=w.heap.size+1) (o:=5) (.int .u32 15) (i 5 (by decide))).trans (Pm.fM (b:=w.heap.size+1) (o:=6) (ae 44 (d.heap.size+6)) (by rw[Pm.a_ _ _ (by omega)];exact i 6 (by decide)))).trans (Pm.fM (b:=w.heap.size+1) (o:=7) (ae 44 (d.heap.size+6)) (by rw[Pm.a_ _ _ (by omega),Pm.a_ _ _ (by omega)];exact i 7 (by decide)));have P6:=S.size;have PX:=(u.out.le).trans B;refine⟨_,w.heap.size+1,w.heap.size,d.heap.size+6,rfl,J,Below.own (Below.own (Z.out.trans (D.mono (by omega))) C (by omega) fun b e=>by omega) S (by omega) fun b e=>by omega,fun c o v e=> ?_,a _ _ _ (PX _ _ _ l.out.1),⟨by simp[Pm.put],by simp[Pm.put],by simp[Pm.put]⟩,⟨0,_,a _ _ _ (PX _ _ _ l.out.2.1)⟩,a _ _ _ (B _ _ _ (t.out (g0 0 0)).ck),a _ _ _ (B _ _ _ (t.out (g0 0 0)).cm),by omega,by omega,fun g=>E2 (PU.sub a (aH.refl _))⟩;by_cases h1:c=w.heap.size+1
  ·omega
  ·rw[Pm.a_ _ _ fun k=>h1 k.1,Pm.a_ _ _ fun k=>h1 k.1,Pm.a_ _ _ fun k=>h1 k.1]at e
   rcases Q _ _ _ e with e|e|e
   ·rcases u.out.new _ _ _ e with e|e
    ·exact l.out.2.2.2 _ _ _ e
    ·omega
   ·have:=D.size;omega
   ·omega
 have y:∀o v,(dq ⟨w.heap.size,0,none⟩ false 0 0 .nilIface .nilIface (.slice none 0 0))[o]?=some v→w8.cell? ⟨w.heap.size+1,o,none⟩=some v:=fun o v e=>by simp only[World.cell?,f];exact e
 have m:∀o,w8.frozen? ⟨w.heap.size+1,o,none⟩=false:=fun o=>by simp[World.frozen?,f]
 have hU:=Lib.hid (qN (w.heap.size+1) 44 (some ⟨d.heap.size+6,0,none⟩) (by decide) (by decide) w8 ⟨_,y 2 _ rfl⟩ (y 3 _ rfl) (y 5 _ rfl) ⟨_,y 6 _ rfl⟩ ⟨_,y 7 _ rfl⟩ (m 2) (m 3) (m 5) (m 6) (m 7));clear J R S y m PT PU C Q B D I f i;go_wp2_with fail
 refine hU.out.mono ?_;rintro e9 w9 ⟨rfl,rfl⟩;go_wp2_with fail
 go_ret;exact PW.out
end Go.Proofs.YtdkmnkjhhhmglaaGreatDoor
