import Derived.Test.YtkfaiocajcjomaaGreatDoorYbl
import Derived.Test.YtkfaiocajcjomaaGreatDoorYbn
set_option maxRecDepth 100000
set_option maxHeartbeats 8000000
set_option linter.all false
namespace TS
open Go Go.RowKit Go.Proofs.YtkfaiocajcjomaaGreatDoor
def gj:U:= .mk 7 0 0 false errorName ByteArray.empty [cT] []
theorem ux:an aG= [gj]:=by
 rw[jv rfl];exact List.mergeSort_singleton _
theorem CP(len:Nat):fB len aG:=by
 have hw:bF aG= []:=by rw[mZ rfl];rfl
 refine⟨rfl,fun x a=>(by rw[hw]at a;cases a),by rw[hw];simp,fun x a=>(by rw[hw]at a;cases a),fun e he=>(by cases he),fun m hm=> ?_,?_,?_,by decide⟩
 ·have:m=gj:=by simpa [aG,U.es,U.m,gj]using hm
  subst this;decide
 ·exact List.pairwise_singleton _ _
 ·show(ef aG).length≤_
  have:ef aG= [gj]:=rfl;rw[this];simp
theorem CQ{p:Pm}{g c:Ge}{f:Nat}(h:cP p g gj f):cP p c gj f:=by
 obtain⟨d,h1,h2,h3,j⟩:=h;refine⟨d,h1,h2,h3,?_⟩;obtain⟨b,l,rv,w,xs,e,m,n,o,q,r,s,t,u⟩:=j.jV rfl;cases e;refine .func rfl m n o q r s t fun i hi=> ?_;have a:=u i hi;have:gj.es[i]=cT:=by
  have:i=0:=by simp[gj,U.es]at hi;omega
  subst this;rfl
 rw[this]at a⊢;obtain⟨x,v,k⟩:=a.jk rfl;rw[v];exact .basic rfl k
theorem CR{p:Pm}{g q:Ge}{b:Nat}(h:cy p g b aG):cy p q b aG:=by
 obtain⟨tb,r,s,f,ta,tc,e,cmp,h1,h2,h3,t,u,v,h7,w,x,j,⟨y,k,a⟩,l,c,m⟩:=h;have n:e= [none]:=(c.gen (by rw[lv rfl];rfl)).1;refine⟨tb,r,s,f,ta,tc,e,cmp,h1,h2,h3,t,u,v,fun i hi=> ?_,w,x,j,⟨y,k,fun i hi=> ?_⟩,l,c,m⟩
 ·have hm:=h7 i hi
  have:(an aG)[i]=gj:=by
   have d:=hi;simp only[ux]at d;have:i=0:=by simp at d;omega
   subst this;simp[ux]
  rw[this]at hm⊢;exact CQ hm
 ·have o:=a i hi
  have:e[i]=none:=by
   subst n;have:i=0:=by simpa using hi
   subst this;rfl
  rw[this]at o⊢;exact o
theorem WB.box{p:Pm}{w:World}(h:WB p w)(cs:Array Value)(T:TypeId):WB (p.add w.heap.size cs) (w.alloc (.cells cs T)):=
 (h.below ((Below.refl _ _).alloc (Nat.le_refl _) _)).add (T:=T) (fun o=>h.kw.aI (Nat.le_refl _) o) (b8 rfl)
theorem CS(w:World)(a b:Array Value)(c d:TypeId)(v:Value):Below w.heap.size w (((w.alloc (.cells a c)).setCell ⟨w.heap.size,3,none⟩ v).alloc (.cells b d))∧(((w.alloc (.cells a c)).setCell ⟨w.heap.size,3,none⟩ v).alloc (.cells b d)).heap.size=w.heap.size+2∧
 (((w.alloc (.cells a c)).setCell ⟨w.heap.size,3,none⟩ v).alloc (.cells b d)).heap[w.heap.size]?=some (.cells (a.setIfInBounds 3 v) c (0,0))∧(((w.alloc (.cells a c)).setCell ⟨w.heap.size,3,none⟩ v).alloc (.cells b d)).heap[w.heap.size+1]?=some (.cells b d (0,0)):=by
 have hT:(w.alloc (.cells a c)).heap[w.heap.size]?=some (.cells a c (0,0)):=b8 rfl;have e:=heap_set (o:=3) (v:=v) hT;exact⟨(((Below.refl _ _).alloc (Nat.le_refl _) _).setCell (Nat.le_refl _) _).alloc (by simp) _,by simp,by rw[dC (by simp)];exact e,b8 (by simp)⟩
theorem Below.own{B:Nat}{a w c:World}{X:Nat→Prop}(h:Below B a w)(k:Kept X w c)(f:B≤w.heap.size)(d:∀b,X b→B≤b):Below B a c:=
 h.trans ⟨k.os,k.tape,k.output,k.size,fun j g=>k.block j (by omega) fun e=>by have:=d j e;omega⟩
theorem WB.named{q:Pm}{W:World}{b o:Nat}{nil:Bool}{x:Value}(h:WB q W)(m:W.heap[b]?=some (.cells (cQ ⟨o,0,none⟩ nil 0 0 .nilIface .nilIface (.slice none 0 0)) 116 (0,0)))(a:∀i,i≠1→q b i=none)(d:b≠5):
 WB q (((((((W.setCell ⟨b,3,none⟩ (.int .i32 1)).setCell ⟨b,6,none⟩ x).setCell ⟨b,2,none⟩ (.bool false)).setCell ⟨b,5,none⟩ (.int .u32 7)).setCell ⟨b,7,none⟩ x).setCell ⟨b,5,none⟩ (.int .u32 15)).setCell ⟨b,3,none⟩ (.int .i32 0))∧
 WB (((q.put b 5 (.int .u32 15)).put b 6 x).put b 7 x) (((((((W.setCell ⟨b,3,none⟩ (.int .i32 1)).setCell ⟨b,6,none⟩ x).setCell ⟨b,2,none⟩ (.bool false)).setCell ⟨b,5,none⟩ (.int .u32 7)).setCell ⟨b,7,none⟩ x).setCell ⟨b,5,none⟩ (.int .u32 15)).setCell ⟨b,3,none⟩ (.int .i32 0))∧
 (((((((W.setCell ⟨b,3,none⟩ (.int .i32 1)).setCell ⟨b,6,none⟩ x).setCell ⟨b,2,none⟩ (.bool false)).setCell ⟨b,5,none⟩ (.int .u32 7)).setCell ⟨b,7,none⟩ x).setCell ⟨b,5,none⟩ (.int .u32 15)).setCell ⟨b,3,none⟩ (.int .i32 0)).heap[b]?=some (.cells (cQ ⟨o,0,none⟩ false 0 15 x x (.slice none 0 0)) 116 (0,0))∧
 Kept (fun c=>c=b) W (((((((W.setCell ⟨b,3,none⟩ (.int .i32 1)).setCell ⟨b,6,none⟩ x).setCell ⟨b,2,none⟩ (.bool false)).setCell ⟨b,5,none⟩ (.int .u32 7)).setCell ⟨b,7,none⟩ x).setCell ⟨b,5,none⟩ (.int .u32 15)).setCell ⟨b,3,none⟩ (.int .i32 0)):=by
 have n:Kept (fun c=>c=b) W (((((((W.setCell ⟨b,3,none⟩ (.int .i32 1)).setCell ⟨b,6,none⟩ x).setCell ⟨b,2,none⟩ (.bool false)).setCell ⟨b,5,none⟩ (.int .u32 7)).setCell ⟨b,7,none⟩ x).setCell ⟨b,5,none⟩ (.int .u32 15)).setCell ⟨b,3,none⟩ (.int .i32 0)):=by
  refine Kept.setCell (Kept.setCell (Kept.setCell (Kept.setCell (Kept.setCell (Kept.setCell (Kept.setCell (Kept.refl _ _) ?_ _) ?_ _) ?_ _) ?_ _) ?_ _) ?_ _) ?_ _<;>exact fun _=>rfl
 have l:=((((((h.setCell (.int .i32 1) (a 3 (by decide)) d).setCell x (a 6 (by decide)) d).setCell (.bool false) (a 2 (by decide)) d).setCell (.int .u32 7) (a 5 (by decide)) d).setCell x (a 7 (by decide)) d).setCell (.int .u32 15) (a 5 (by decide)) d).setCell (.int .i32 0) (a 3 (by decide)) d;have hH:=heap_set (o:=3) (v:= .int .i32 0) (heap_set (o:=5) (v:= .int .u32 15) (heap_set (o:=7) (v:=x) (heap_set (o:=5) (v:= .int .u32 7) (heap_set (o:=2) (v:= .bool false) (heap_set (o:=6) (v:=x) (heap_set (o:=3) (v:= .int .i32 1) m))))));generalize (((((((W.setCell ⟨b,3,none⟩ (.int .i32 1)).setCell ⟨b,6,none⟩ x).setCell ⟨b,2,none⟩ (.bool false)).setCell ⟨b,5,none⟩ (.int .u32 7)).setCell ⟨b,7,none⟩ x).setCell ⟨b,5,none⟩ (.int .u32 15)).setCell ⟨b,3,none⟩ (.int .i32 0))=j at*;have f:j.heap[b]?=some (.cells (cQ ⟨o,0,none⟩ false 0 15 x x (.slice none 0 0)) 116 (0,0)):=by simpa using hH
 have k:∀i v,(cQ ⟨o,0,none⟩ false 0 15 x x (.slice none 0 0))[i]?=some v→j.cell? ⟨b,i,none⟩=some v:=fun i v e=>by simp only[World.cell?,f];exact e
 have g:Plain j b:=⟨_,_,f⟩
 exact⟨l,((l.put (k 5 _ rfl) g).put (k 6 _ rfl) g).put (k 7 _ rfl) g,f,n⟩
def uy(w:World)(e:Ending)(a:World):Prop:=∃(q:Pm)(eb eo ib:Nat),e= .returned (.pointer (some ⟨eb,0,none⟩))∧WB q a∧Below w.heap.size w a∧(∀b o v,q b o=some v→w.heap.size≤b)∧q eb 1=some (ptr eo)∧dW q eb (ae 32 ib)∧(∃o v,q eo o=some v)∧q ib 0=some (.pointer none)∧q ib 5=some (.bool true)∧eb<a.heap.size∧eo<a.heap.size∧∀g,cy q g ib aG
end TS
namespace Go.Proofs.YtkfaiocajcjomaaGreatDoor
open Go.RowKit TS
def g0(eo co:Nat):Ge:=⟨fun _=>0,fun _=>0,0,0,eo,1,co,0,fun _=>none⟩
theorem CT{q:Pm}{w:World}{eo co:Nat}(h:WB q w)(a:eo≠co)(h1:∃o v,q eo o=some v)(h2:∃o v,q co o=some v):aq q (g0 eo co) w:=
 ⟨h.kw,h.pl,⟨fun i j hi=>absurd hi (Nat.not_lt_zero _),fun i j hi=>absurd hi (Nat.not_lt_zero _),fun i hi=>absurd hi (Nat.not_lt_zero _),fun i hi=>absurd hi (Nat.not_lt_zero _),(show(0:Nat)≠1 by decide),fun i hi=>absurd hi (Nat.not_lt_zero _),fun i hi=>absurd hi (Nat.not_lt_zero _),a⟩,h.cap,fun b u e=>(by cases e),fun i hi=>absurd hi (Nat.not_lt_zero _),h1,h2⟩
abbrev iM(W:World)(b r recv:Nat):World:=(((((((W.alloc (.cells #[.int .i64 0,.pointer none,.string ByteArray.empty,ae 91 b,.int .u8 5,.bool false] 156)).alloc (.cells #[.pointer (some ⟨r,0,none⟩)] 88)).alloc (.cells #[.slice (some ⟨r+1,0,none⟩) 1 1] 164)).alloc (.cells #[.pointer (some ⟨recv,0,none⟩),.pointer none,.pointer none,.pointer (some ⟨r+2,0,none⟩),.bool false] 98)).alloc (.cells #[.int .i64 0,.pointer none,.string errorName,ae 94 (r+3),.bool false,.bool false] 166)).alloc (.cells #[.pointer (some ⟨r+4,0,none⟩)] 99)).alloc (.cells (c_ (.slice (some ⟨r+5,0,none⟩) 1 1) (.slice none 0 0) true (.pointer none)) 105))
theorem CU{q:Pm}{W:World}{b r recv:Nat}(h:WB q W)(hr:r=W.heap.size)(U:q b 0=some (.int .i64 17))(C:b<r)(hG:5<r):
 ∃k,aL q k r∧WB k (iM W b r recv)∧(iM W b r recv).cell? ⟨r+6,6,none⟩=some (.pointer none)∧(iM W b r recv).frozen? ⟨r+6,6,none⟩=false∧
  (∀g,fj k g (r+6) aG)∧k (r+6) 6=none∧k r 0=some (.int .i64 0)∧k (r+1) 0=some (ptr r):=by
 unfold iM;have h1:=h.box #[.int .i64 0,.pointer none,.string ByteArray.empty,ae 91 b,.int .u8 5,.bool false] 156;have h2:=h1.box #[.pointer (some ⟨r,0,none⟩)] 88;have h3:=h2.box #[.slice (some ⟨r+1,0,none⟩) 1 1] 164;have P:=h3.box #[.pointer (some ⟨recv,0,none⟩),.pointer none,.pointer none,.pointer (some ⟨r+2,0,none⟩),.bool false] 98;have R:=P.box #[.int .i64 0,.pointer none,.string errorName,ae 94 (r+3),.bool false,.bool false] 166;have S:=R.box #[.pointer (some ⟨r+4,0,none⟩)] 99;simp only[World.size_alloc,←hr]at h1 h2 h3 P R S;have V:∀c o,r≤c→q c o=none:=fun c o u=>h.kw.aI (by omega) o;generalize t:((((((q.add r #[.int .i64 0,.pointer none,.string ByteArray.empty,ae 91 b,.int .u8 5,.bool false]).add (r+1) #[.pointer (some ⟨r,0,none⟩)]).add (r+2) #[.slice (some ⟨r+1,0,none⟩) 1 1]).add (r+3) #[.pointer (some ⟨recv,0,none⟩),.pointer none,.pointer none,.pointer (some ⟨r+2,0,none⟩),.bool false]).add (r+4) #[.int .i64 0,.pointer none,.string errorName,ae 94 (r+3),.bool false,.bool false]).add (r+5) #[.pointer (some ⟨r+4,0,none⟩)])=Q at*;have z:∀c o,c<r→Q c o=q c o:=fun c o u=>by rw[←t];simp only[Pm.add];repeat rw[if_neg (by omega)]
 have A:∀o,Q r o=(#[.int .i64 0,.pointer none,.string ByteArray.empty,ae 91 b,.int .u8 5,.bool false]:Array Value)[o]?:=fun o=>by rw[←t];rw[Pm.aK _ _ _ (by omega),Pm.aK _ _ _ (by omega),Pm.aK _ _ _ (by omega),Pm.aK _ _ _ (by omega),Pm.aK _ _ _ (by omega),Pm.aT]
 have B:∀o,Q (r+1) o=(#[.pointer (some ⟨r,0,none⟩)]:Array Value)[o]?:=fun o=>by rw[←t];rw[Pm.aK _ _ _ (by omega),Pm.aK _ _ _ (by omega),Pm.aK _ _ _ (by omega),Pm.aK _ _ _ (by omega),Pm.aT]
 have D:∀o,Q (r+2) o=(#[.slice (some ⟨r+1,0,none⟩) 1 1]:Array Value)[o]?:=fun o=>by rw[←t];rw[Pm.aK _ _ _ (by omega),Pm.aK _ _ _ (by omega),Pm.aK _ _ _ (by omega),Pm.aT]
 have w:∀o,Q (r+3) o=(#[.pointer (some ⟨recv,0,none⟩),.pointer none,.pointer none,.pointer (some ⟨r+2,0,none⟩),.bool false]:Array Value)[o]?:=fun o=>by rw[←t];rw[Pm.aK _ _ _ (by omega),Pm.aK _ _ _ (by omega),Pm.aT]
 have s:∀o,Q (r+4) o=(#[.int .i64 0,.pointer none,.string errorName,ae 94 (r+3),.bool false,.bool false]:Array Value)[o]?:=fun o=>by rw[←t];rw[Pm.aK _ _ _ (by omega),Pm.aT]
 have E:∀o,Q (r+5) o=(#[.pointer (some ⟨r+4,0,none⟩)]:Array Value)[o]?:=fun o=>by rw[←t];rw[Pm.aT]
 have F:∀c o,r+6≤c→Q c o=none:=fun c o u=>by rw[←t];simp only[Pm.add];repeat rw[if_neg (by omega)]
                                             exact V c o (by omega)
 have X:Sub q Q:=fun c o v e=>by rw[z c o (by rw[hr];exact h.kw.lt e)];exact e
 generalize G:((((((W.alloc (.cells #[.int .i64 0,.pointer none,.string ByteArray.empty,ae 91 b,.int .u8 5,.bool false] 156)).alloc (.cells #[.pointer (some ⟨r,0,none⟩)] 88)).alloc (.cells #[.slice (some ⟨r+1,0,none⟩) 1 1] 164)).alloc (.cells #[.pointer (some ⟨recv,0,none⟩),.pointer none,.pointer none,.pointer (some ⟨r+2,0,none⟩),.bool false] 98)).alloc (.cells #[.int .i64 0,.pointer none,.string errorName,ae 94 (r+3),.bool false,.bool false] 166)).alloc (.cells #[.pointer (some ⟨r+4,0,none⟩)] 99))=H at*;have I:H.heap.size=r+6:=by rw[←G];simp[←hr]
 have m:(H.alloc (.cells (c_ (.slice (some ⟨r+5,0,none⟩) 1 1) (.slice none 0 0) true (.pointer none)) 105)).heap[r+6]?=some (.cells (c_ (.slice (some ⟨r+5,0,none⟩) 1 1) (.slice none 0 0) true (.pointer none)) 105 (0,0)):=b8 I.symm;have h7:=S.below ((Below.refl _ _).alloc (Nat.le_refl _) (.cells (c_ (.slice (some ⟨r+5,0,none⟩) 1 1) (.slice none 0 0) true (.pointer none)) 105));generalize (H.alloc (.cells (c_ (.slice (some ⟨r+5,0,none⟩) 1 1) (.slice none 0 0) true (.pointer none)) 105))=T at*;have l:∀o x,(c_ (.slice (some ⟨r+5,0,none⟩) 1 1) (.slice none 0 0) true (.pointer none))[o]?=some x→T.cell? ⟨r+6,o,none⟩=some x:=fun o x e=>by simp only[World.cell?,m];exact e
 have n:Plain T (r+6):=⟨_,_,m⟩
 have Y:=((((h7.put (l 0 (.pointer none) rfl) n).put (l 1 (.slice (some ⟨r+5,0,none⟩) 1 1) rfl) n).put (l 2 (.slice none 0 0) rfl) n).put (l 3 (.pointer none) rfl) n).put (l 5 (.bool true) rfl) n;have a:∀c o,c≠r+6→(((((Q.put (r+6) 0 (.pointer none)).put (r+6) 1 (.slice (some ⟨r+5,0,none⟩) 1 1)).put (r+6) 2 (.slice none 0 0)).put (r+6) 3 (.pointer none)).put (r+6) 5 (.bool true)) c o=Q c o:=fun c o u=>by
  repeat rw[Pm.aY _ _ (by omega)]
 have J:(((((Q.put (r+6) 0 (.pointer none)).put (r+6) 1 (.slice (some ⟨r+5,0,none⟩) 1 1)).put (r+6) 2 (.slice none 0 0)).put (r+6) 3 (.pointer none)).put (r+6) 5 (.bool true)) (r+6) 0=some (.pointer none):=by simp[Pm.put]
 have K:(((((Q.put (r+6) 0 (.pointer none)).put (r+6) 1 (.slice (some ⟨r+5,0,none⟩) 1 1)).put (r+6) 2 (.slice none 0 0)).put (r+6) 3 (.pointer none)).put (r+6) 5 (.bool true)) (r+6) 1=some (.slice (some ⟨r+5,0,none⟩) 1 1):=by simp[Pm.put]
 have L:(((((Q.put (r+6) 0 (.pointer none)).put (r+6) 1 (.slice (some ⟨r+5,0,none⟩) 1 1)).put (r+6) 2 (.slice none 0 0)).put (r+6) 3 (.pointer none)).put (r+6) 5 (.bool true)) (r+6) 2=some (.slice none 0 0):=by simp[Pm.put]
 have M:(((((Q.put (r+6) 0 (.pointer none)).put (r+6) 1 (.slice (some ⟨r+5,0,none⟩) 1 1)).put (r+6) 2 (.slice none 0 0)).put (r+6) 3 (.pointer none)).put (r+6) 5 (.bool true)) (r+6) 3=some (.pointer none):=by simp[Pm.put]
 have N:(((((Q.put (r+6) 0 (.pointer none)).put (r+6) 1 (.slice (some ⟨r+5,0,none⟩) 1 1)).put (r+6) 2 (.slice none 0 0)).put (r+6) 3 (.pointer none)).put (r+6) 5 (.bool true)) (r+6) 5=some (.bool true):=by simp[Pm.put]
 have O:(((((Q.put (r+6) 0 (.pointer none)).put (r+6) 1 (.slice (some ⟨r+5,0,none⟩) 1 1)).put (r+6) 2 (.slice none 0 0)).put (r+6) 3 (.pointer none)).put (r+6) 5 (.bool true)) (r+6) 6=none:=by
  simp[Pm.put];exact F _ _ (Nat.le_refl _)
 generalize (((((Q.put (r+6) 0 (.pointer none)).put (r+6) 1 (.slice (some ⟨r+5,0,none⟩) 1 1)).put (r+6) 2 (.slice none 0 0)).put (r+6) 3 (.pointer none)).put (r+6) 5 (.bool true))=k at*;have p:∀c o,c<r→k c o=q c o:=fun c o u=>by rw[a c o (by omega),z c o u]
 have y:∀g,TS.Node k g gj (ae 94 (r+3)):=fun g=>by
  refine .func (f:=fun _=>r) (xs:=fun _=>ae 91 b) rfl (by decide) (pv:= .pointer none) (rv:=ptr (r+2)) ?_ ?_ ?_ (.inl ⟨rfl,rfl⟩) (.inr ⟨by decide,r+2,some ⟨r+1,0,none⟩,1,rfl,?_,by decide,fun i hi=> ?_⟩) (fun i hi=> ?_) fun i hi=> ?_
  ·rw[a _ _ (by omega),w];rfl
  ·rw[a _ _ (by omega),w];rfl
  ·rw[a _ _ (by omega),w];rfl
  ·rw[a _ _ (by omega),D];rfl
  ·have d:i=0:=by have:i<1:=hi;omega
   subst d;exact⟨r+1,0,rfl,by rw[a _ _ (by omega),B];rfl⟩
  ·show k r 3=_
   rw[a _ _ (by omega),A];rfl
  ·have d:i=0:=by have:i<1:=hi;omega
   subst d;exact .basic rfl (by rw[p _ _ C];exact U)
 refine⟨k,⟨fun c o v e=>by rw[p c o (by rw[hr];exact h.kw.lt e)];exact e,fun c o v e=> ?_⟩,Y,l 6 _ rfl,by simp[World.frozen?,m],fun g=>⟨J,⟨by decide,some ⟨r+5,0,none⟩,1,fun _=>r+4,K,by decide,by decide,fun i hi=> ?_,fun i hi Z=> ?_⟩,⟨none,0,fun _=>undef,L,by decide,by decide,fun i hi=> ?_,fun i hi=> ?_,fun i j P3 hj=> ?_⟩,M,N⟩,O,by rw[a _ _ (by omega),A];rfl,by rw[a _ _ (by omega),B];rfl⟩
 ·by_cases u:c<r
  ·rw[p c o u]at e;exact .inl e
  ·exact .inr (by omega)
 ·have d:i=0:=by have:i<1:=hi;omega
  subst d;exact⟨r+5,0,rfl,by rw[a _ _ (by omega),E];rfl⟩
 ·have d:i=0:=by have:i<1:=hi;omega
  subst d;show cP k g gj (r+4)∧k (r+4) 0=some (.int .i64 0);refine⟨⟨r+3,⟨none,?_⟩,?_,?_,y g⟩,?_⟩
  ·rw[a _ _ (by omega),s];rfl
  ·rw[a _ _ (by omega),s];rfl
  ·rw[a _ _ (by omega),s];rfl
  ·rw[a _ _ (by omega),s];rfl
 ·exact absurd hi (by show ¬i<0;omega)
 ·exact absurd hi (by show ¬1+i<1;omega)
 ·exact absurd hj (by show ¬1+j<1;omega)
theorem CV(w:World)(y:bu w)(hG:5<w.heap.size):Calls Tryz.prog 38 #[] w (uy w):=by
 have Qd:=Lib.hid y;clear y;obtain⟨n,hn⟩:∃n,Hid (n=w.heap.size):=⟨_,rfl⟩
 go_enter Tryz.func38,Tryz.ntmps38;go_wp2_with fail
 refine(oM _ _ _ _).mono ?_;rintro e1 w1 ⟨rfl,rfl⟩;go_wp2_with fail
 refine(sh w.heap.size _ (by simp) (jo w _ rfl) (kU w _ rfl)).mono ?_;rintro e2 q ⟨rfl,T⟩;have hf:Below w.heap.size w q∧q.heap.size=w.heap.size+2∧q.heap[w.heap.size]?=some (.cells #[.int .i64 0,.pointer none,.string ⟨#[101,114,114,111,114]⟩,.iface 56 (.pointer (some ⟨w.heap.size+1,0,none⟩))] 120 (0,0))∧q.heap[w.heap.size+1]?=some (.cells (cQ ⟨w.heap.size,0,none⟩ false 0 0 .nilIface .nilIface (.slice none 0 0)) 116 (0,0)):=by
  rw[T];have:=CS w #[.int .i64 0,.pointer none,.string ⟨#[101,114,114,111,114]⟩,.nilIface] (cQ ⟨w.heap.size,0,none⟩ false 0 0 .nilIface .nilIface (.slice none 0 0)) 120 116 (.iface 56 (.pointer (some ⟨w.heap.size+1,0,none⟩)));simpa using this
 obtain⟨s,Qe,K,j⟩:=hf;have Qh:q.heap.size≤w.heap.size+2∧w.heap.size+2≤q.heap.size:=by omega
 have E:WB (fun _ _=>none) w:=⟨fun _ _ _ e=>(by cases e),fun _ _ _ e=>(by cases e),Qd.out⟩
 have U:=Lib.hid (((E.below s).put (b:=w.heap.size) (o:=0) (v:= .int .i64 0) (by simp[World.cell?,K]) ⟨_,_,K⟩).put (b:=w.heap.size+1) (o:=1) (v:=ptr w.heap.size) (by simp[World.cell?,j,cQ]) ⟨_,_,j⟩);have L:=Lib.hid s;have M:=Lib.hid j;clear T s Qe K j E;go_wp2_with fail
 refine(jX _ _ _ _ _ _ _).mono ?_;rintro e3 w3 ⟨rfl,rfl⟩;go_wp2_with fail
 refine(sk 17 (by decide) _).mono ?_;rintro e4 d ⟨b,rfl,aa,N,V,h,W⟩;have z:Below q.heap.size q (q.alloc (.cells #[.int .i64 0,.pointer none,.string ByteArray.empty,.iface 56 (.pointer (some ⟨w.heap.size+1,0,none⟩)),.int .u8 3,.bool false] 156)):=(Below.refl _ _).alloc (Nat.le_refl _) _;have Qf:=h.size;simp only[World.size_alloc]at aa Qf;obtain⟨F,A⟩:∃F,Hid (F=((Pm.put (fun x Qj=>none) w.heap.size 0 (.int .i64 0)).put (w.heap.size+1) 1 (ptr w.heap.size)).put b 0 (.int .i64 17)):=⟨_,rfl⟩
 have X:Hid (WB F d):=by rw[A.out];exact((U.out.below z).below h).put V W
 have Y:Hid (F b 0=some (.int .i64 17)):=by rw[A.out];exact Pm.eQ ..
 have l:Hid (F (w.heap.size+1) 1=some (ptr w.heap.size)∧F w.heap.size 0=some (.int .i64 0)∧(∀o,o≠1→F (w.heap.size+1) o=none)∧∀c o v,F c o=some v→w.heap.size≤c):=by
  rw[A.out];refine⟨by rw[Pm.aY _ _ (by omega),Pm.eQ],by rw[Pm.aY _ _ (by omega),Pm.aY _ _ (by omega),Pm.eQ],fun o ho=>by rw[Pm.aY _ _ (by omega),Pm.aY _ _ (by omega),Pm.aY _ _ (by omega)],fun c o v e=> ?_⟩;by_cases h1:c=b∧o=0
  ·omega
  ·rw[Pm.aY _ _ h1]at e
   by_cases h2:c=w.heap.size+1∧o=1
   ·omega
   ·rw[Pm.aY _ _ h2]at e
    by_cases h3:c=w.heap.size∧o=0
    ·omega
    ·rw[Pm.aY _ _ h3]at e;cases e
 have Z:Hid (Below w.heap.size w d):=((L.out.trans (z.mono (by omega))).trans (h.mono (by simp;omega)))
 have Qg:Hid (d.heap[w.heap.size+1]?=some (.cells (cQ ⟨w.heap.size,0,none⟩ false 0 0 .nilIface .nilIface (.slice none 0 0)) 116 (0,0))):=((h.block _ (by simp;omega)).trans (z.block _ (by omega))).trans M.out;obtain⟨r,hr⟩:∃r,Hid (r=d.heap.size):=⟨_,rfl⟩
 have Qk:w.heap.size+3≤d.heap.size:=by omega
 obtain⟨q',P3,G,P4,P5,P6,P7,P8,H⟩:=CU (recv:=q.heap.size) X.out rfl Y.out N (by omega);have O:=Lib.hid G;have t:=Lib.hid P6;have u:=Lib.hid P3;have P:=Lib.hid (And.intro P7 (And.intro P8 H));have Qi:=Lib.hid N;clear V W h z G P6 P3 P7 P8 H A N;go_wp2_with fail
 refine(jX _ _ _ _ _ _ _).mono ?_;rintro e5 w5 ⟨rfl,rfl⟩;go_wp2_with fail
 refine(r8 _ 1 1 (by decide) _).mono ?_;rintro e6 w6 ⟨rfl,rfl⟩;go_wp2_with fail
 refine(mG _ _ _ _ _).mono ?_;rintro e7 w7 ⟨rfl,rfl⟩;go_wp2_with fail
 have hF:=uh 0 q' (g0 d.heap.size (d.heap.size+1)) (d.heap.size+6) aG none 0 _ (CT O.out (by omega) ⟨_,_,P.out.2.1⟩ ⟨_,_,P.out.2.2⟩) (t.out _) (CP 0) P4 P5 P.out.1 (by omega);refine hF.mono ?_;clear hF P4 P5;rintro e8 w8 ⟨q8,tb,rfl,B,Q,P9,P_,C⟩;have Qa:=C.size;simp only[World.size_alloc]at Qa;have I:w.heap.size+1<(iM d b d.heap.size q.heap.size).heap.size:=by simp[iM];omega
 have D:Below d.heap.size d (iM d b d.heap.size q.heap.size):=by
  unfold iM;exact(((((((Below.refl _ _).alloc (Nat.le_refl _) _).alloc (by simp) _).alloc (by simp;omega) _).alloc (by simp;omega) _).alloc (by simp;omega) _).alloc (by simp;omega) _).alloc (by simp;omega) _
 have f:w8.heap[w.heap.size+1]?=some (.cells (cQ ⟨w.heap.size,0,none⟩ false 0 0 .nilIface .nilIface (.slice none 0 0)) 116 (0,0)):=(C.block _ I (by omega)).trans ((D.block _ (by omega)).trans Qg.out);have i:∀o,o≠1→q8 (w.heap.size+1) o=none:=fun o ho=>by
  cases hv:q8 (w.heap.size+1) o with
  |none=>rfl
  |some x=>
   rcases Q _ _ _ hv with e|e|e
   ·rcases u.out.new _ _ _ e with e|e
    ·rw[l.out.2.2.1 o ho]at e;cases e
    ·omega
   ·omega
   ·omega
 obtain⟨_,J,R,S⟩:=WB.named (x:= .iface 32 (.pointer (some ⟨d.heap.size+6,0,none⟩))) P9.wb f i (by omega);have Qb:Hid (uy w (.returned (.pointer (some ⟨w.heap.size+1,0,none⟩))) (((((((w8.setCell ⟨w.heap.size+1,3,none⟩ (.int .i32 1)).setCell ⟨w.heap.size+1,6,none⟩ (.iface 32 (.pointer (some ⟨d.heap.size+6,0,none⟩)))).setCell ⟨w.heap.size+1,2,none⟩ (.bool false)).setCell ⟨w.heap.size+1,5,none⟩ (.int .u32 7)).setCell ⟨w.heap.size+1,7,none⟩ (.iface 32 (.pointer (some ⟨d.heap.size+6,0,none⟩)))).setCell ⟨w.heap.size+1,5,none⟩ (.int .u32 15)).setCell ⟨w.heap.size+1,3,none⟩ (.int .i32 0))):=by
  have a:=((Pm.eR (p:=q8) (b:=w.heap.size+1) (o:=5) (.int .u32 15) (i 5 (by decide))).trans (Pm.eR (b:=w.heap.size+1) (o:=6) (ae 32 (d.heap.size+6)) (by rw[Pm.aY _ _ (by omega)];exact i 6 (by decide)))).trans (Pm.eR (b:=w.heap.size+1) (o:=7) (ae 32 (d.heap.size+6)) (by rw[Pm.aY _ _ (by omega),Pm.aY _ _ (by omega)];exact i 7 (by decide)));have Ql:=S.size;have Qc:=(u.out.le).trans B;refine⟨_,w.heap.size+1,w.heap.size,d.heap.size+6,rfl,J,Below.own (Below.own (Z.out.trans (D.mono (by omega))) C (by omega) fun b e=>by omega) S (by omega) fun b e=>by omega,fun c o v e=> ?_,a _ _ _ (Qc _ _ _ l.out.1),⟨by simp[Pm.put],by simp[Pm.put],by simp[Pm.put]⟩,⟨0,_,a _ _ _ (Qc _ _ _ l.out.2.1)⟩,a _ _ _ (B _ _ _ (t.out (g0 0 0)).ck),a _ _ _ (B _ _ _ (t.out (g0 0 0)).cm),by omega,by omega,fun g=>CR (P_.sub a (aE.refl _))⟩;by_cases h1:c=w.heap.size+1
  ·omega
  ·rw[Pm.aY _ _ fun k=>h1 k.1,Pm.aY _ _ fun k=>h1 k.1,Pm.aY _ _ fun k=>h1 k.1]at e
   rcases Q _ _ _ e with e|e|e
   ·rcases u.out.new _ _ _ e with e|e
    ·exact l.out.2.2.2 _ _ _ e
    ·omega
   ·have:=D.size;omega
   ·omega
 have y:∀o v,(cQ ⟨w.heap.size,0,none⟩ false 0 0 .nilIface .nilIface (.slice none 0 0))[o]?=some v→w8.cell? ⟨w.heap.size+1,o,none⟩=some v:=fun o v e=>by simp only[World.cell?,f];exact e
 have m:∀o,w8.frozen? ⟨w.heap.size+1,o,none⟩=false:=fun o=>by simp[World.frozen?,f]
 have hU:=Lib.hid (oP (w.heap.size+1) 32 (some ⟨d.heap.size+6,0,none⟩) (by decide) (by decide) w8 ⟨_,y 2 _ rfl⟩ (y 3 _ rfl) (y 5 _ rfl) ⟨_,y 6 _ rfl⟩ ⟨_,y 7 _ rfl⟩ (m 2) (m 3) (m 5) (m 6) (m 7));clear J R S y m P9 P_ C Q B D I f i;go_wp2_with fail
 refine hU.out.mono ?_;rintro e9 w9 ⟨rfl,rfl⟩;go_wp2_with fail
 go_ret;exact Qb.out
end Go.Proofs.YtkfaiocajcjomaaGreatDoor
namespace TS
open Go Go.RowKit Go.Proofs.YtkfaiocajcjomaaGreatDoor
section
variable {C:BC} {p q r:Pm} {g g1 g2:Ge} {mv mv1:Value} {ms ms1 ms2:List Nat} {w w1 w2:World}
theorem DF(g:Ge){c b:Nat}(h:c≤b):aE (g.below c) (g.below b):=
 ⟨rfl,rfl,rfl,rfl,rfl,rfl,rfl,rfl,fun x u k=>by
  simp only[Ge.below]at k⊢;split at k
  ·rw[if_pos (by omega)];exact k
  ·cases k⟩
theorem DG{g:Ge}{b c:Nat}{u:U}(h:(g.below b).G c=some u):c<b∧g.G c=some u:=by
 simp only[Ge.below]at h;split at h
 ·exact⟨‹_›,h⟩
 ·cases h
theorem BS.DH(h:BS C p g mv ms w)(b:Nat)(e:∀c u,g.G c=some u→c<b→cy p (g.below c) c u):aq p (g.below b) w:=
 ⟨h.wb.kw,h.wb.pl,⟨h.inj.nb,h.inj.ob,h.inj.ne,h.inj.nc,h.inj.ec,h.inj.oe,h.inj.oc,h.inj.ac⟩,h.wb.cap,fun c u k=>
  let⟨a,d⟩:=DG k
  ⟨(h.ifs c u d).2.1,(e c u d a).sub (Sub.refl p) (DF g (Nat.le_of_lt a))⟩,h.po,h.cB,h.cC⟩
def gl(p q:Pm)(w:World)(X:Nat→Prop):Prop:=Sub p q∧∀c o v,q c o=some v→p c o=some v∨w.heap.size≤c∨(X c∧o=6)
theorem gl.refl(p:Pm)(w:World)(X:Nat→Prop):gl p p w X:=⟨Sub.refl p,fun _ _ _ h=> .inl h⟩
theorem gl.trans{X:Nat→Prop}(h:gl p q w X)(k:gl q r w1 X)(a:w.heap.size≤w1.heap.size):gl p r w X:=
 ⟨h.1.trans k.1,fun c o v e=>by
  rcases k.2 c o v e with e|e|e
  ·exact h.2 c o v e
  ·exact .inr (.inl (by omega))
  ·exact .inr (.inr e)⟩
theorem BS.DI(h:BS C p g mv ms w){b:Nat}{u:U}(B:g.G b=some u)(d:Sub p q)(t:∀c o v,q c o=some v→p c o=some v∨w.heap.size≤c∨(c=b∧o=6))(z:aq q (g.below b) w1)(hT:cy q (g.below b) b u)(j:Kept (fun c=>c=b) w w1):BS C q g mv ms w1:=by
 have hi:=h.ifs b u B;have D:=h.lp _ _ _ hi.2.1;have l:=World.block_lt_of_cell? _ _ h.c0;simp only at l;have m:C.bb≠b:=fun e=>by have:=h.pb 0;rw[e,hi.2.1]at this;cases this
 have s:mv.ownBlock≠some b:=fun e=>by have:=(h.rd _ e).2 0;rw[hi.2.1]at this;cases this
 have a:∀o,w1.cell? ⟨C.bb,o,none⟩=w.cell? ⟨C.bb,o,none⟩:=fun o=>j.cell l m;have f:∀c o,c<w.heap.size→¬(c=b∧o=6)→p c o=none→q c o=none:=fun c o h1 h2 h3=>by
  cases E:q c o with
  |none=>rfl
  |some v=>
   rcases t _ _ _ E with e|e|e
   ·rw[h3]at e;cases e
   ·omega
   ·exact absurd e h2
 refine⟨h.ka.kept j fun c o v e J=>by have:=h.la _ _ _ e;omega,h.la,⟨z.kw,z.pl,z.cap⟩,fun c o v e=> ?_,h.inj,h.gv,h.bl,fun o=>f _ _ l (by omega) (h.pb o),by rw[a];exact h.c0,?_,by rw[a];exact h.c2,by rw[a];exact h.c3,by rw[a];exact h.c4,?_,dO h.row j fun c e F=>s (by rw[e];exact congrArg some F),fun c e=>⟨(h.rd c e).1,fun o=>f _ _ (h.row.lt _ e).2 (fun k=>s (k.1▸e)) ((h.rd c e).2 o)⟩,h.ord,fun c e=>⟨Nat.lt_of_lt_of_le (h.mlt c e).1 j.size,(h.mlt c e).2⟩,fun c H e=> ?_,h.len,fun i hi=>d _ _ _ (h.nm i hi),fun i hi=>let⟨o,v,e⟩:=h.po i hi;⟨o,v,d _ _ _ e⟩,let⟨o,v,e⟩:=h.cB;⟨o,v,d _ _ _ e⟩,let⟨o,v,e⟩:=h.cC;⟨o,v,d _ _ _ e⟩,?_,?_,?_⟩
 ·rcases t _ _ _ e with e|e|e
  ·exact h.lp _ _ _ e
  ·have:=h.bl;omega
  ·omega
 ·obtain⟨h1,h2⟩:=h.c1
  exact⟨by rw[a];exact h1,h2.sub d⟩
 ·rw[j.frozen l m];exact h.f4
 ·by_cases A:c=b
  ·subst A
   rw[B]at e;cases e;exact⟨Nat.lt_of_lt_of_le hi.1 j.size,d _ _ _ hi.2.1,d _ _ _ hi.2.2.1,.inl hT⟩
  ·have y:=h.ifs c H e
   exact y.mono d (aE.refl g) (fun _ h=>h) j.size (j.cell y.1 A) (j.frozen y.1 A) fun I=>f _ _ y.1 (by omega) I
 ·obtain⟨h1,x,h2,h3⟩:=h.err
  exact⟨d _ _ _ h1,x,h2.sub d,h3.sub d (aE.refl g)⟩
 ·obtain⟨h1,x,h2,h3⟩:=h.cmp
  exact⟨d _ _ _ h1,x,h2.sub d,h3⟩
 ·intro n t hi
  obtain⟨x,h1,h2⟩:=h.tn n t hi;exact⟨x,h1.sub d,h2.sub d (aE.refl g)⟩
def lG(C:BC)(p:Pm)(g:Ge)(mv:Value)(ms:List Nat)(w:World)(q:Pm)(a:World):Prop:=
 BS C q g mv ms a∧gl p q w (fun c=>c∈ms)∧Kept (fun c=>c∈ms) w a
end
end TS
namespace Go.Proofs.YtkfaiocajcjomaaGreatDoor
open Go.RowKit TS
theorem DJ(C:BC)(p:Pm)(g:Ge)(mv:Value)(ms:List Nat)(w:World)(b:Nat)(u:U)(a:BS C p g mv ms w)(f:g.G b=some u)(hm:b∈ms)(h:∀c u,g.G c=some u→c<b→cy p (g.below c) c u):
 Calls Tryz.prog 88 #[.pointer (some ⟨b,0,none⟩)] w fun e E=>e= .returned (.pointer (some ⟨b,0,none⟩))∧∃q,lG C p g mv ms w q E∧cy q (g.below b) b u:=by
 have hi:=a.ifs b u f;have z0:=a.wb.kw _ _ _ hi.2.1;have z5:=a.wb.kw _ _ _ hi.2.2.1;obtain⟨F,H,J,hT|⟨_,A,hF,i,j,f6⟩⟩:=hi
 ·obtain⟨tb,k⟩:∃tb,p b 6=some (ptr tb):=by obtain⟨tb,_,_,_,_,_,_,_,k,_⟩:=hT;exact⟨tb,k⟩
  have j:=a.wb.kw _ _ _ k;have d:Hid (lG C p g mv ms w p w∧cy p (g.below b) b u):=⟨⟨a,gl.refl _ _ _,Kept.refl _ _⟩,hT⟩
  have l:=Lib.hid (iD b tb w z0 j);clear a hT h;go_enter Tryz.func88,Tryz.ntmps88;go_wp2_with fail
  refine l.out.mono ?_;rintro e w1 ⟨rfl,rfl⟩;go_wp2_with fail
  go_ret;exact⟨rfl,p,d.out⟩
 ·have m:5<b:=by have:=a.gv;have:=a.lp _ _ _ H;omega
  have I:Hid (∀n pos,Calls Tryz.prog 69 #[.pointer n,.int .i64 pos,.pointer (some ⟨b,0,none⟩)] w (iJ p (g.below b) b u w)):=fun n pos=>uh C.D.len p (g.below b) b u n pos w (a.DH b h) A hF j f6 i m;have s:=Lib.hid a;have t:=Lib.hid f;clear a A hF h f;go_enter Tryz.func88,Tryz.ntmps88;go_wp2_with fail
  go_enter Tryz.func47,Tryz.ntmps47;go_wp2_with fail
  refine(I.out _ _).mono ?_;rintro e w1 ⟨q,tb,rfl,x,y,B,hT,z⟩;have d:Hid (∃q,lG C p g mv ms w q w1∧cy q (g.below b) b u):=⟨q,⟨s.out.DI t.out x y B hT z,⟨x,fun c o v e=>(y c o v e).imp id fun e=>Or.imp id (fun(e:c=b∧o=6)=>⟨by rw[e.1];exact hm,e.2⟩) e⟩,z.mono fun c _ e=>e▸hm⟩,hT⟩
  clear B hT z x y;go_wp2_with fail
  go_ret;go_wp2_with fail
  exact d.out
theorem _root_.TS.BS.DK{C:BC}{q:Pm}{g:Ge}{mv:Value}{ms:List Nat}{w:World}(h:BS C q g mv ms w)(f:∀b u,g.G b=some u→cy q (g.below b) b u):BS C q g (.slice none 0 0) [] (w.setCell ⟨C.bb,4,none⟩ (.slice none 0 0)):=by
 have d:Kept (fun c=>c=C.bb) w (w.setCell ⟨C.bb,4,none⟩ (.slice none 0 0)):=Kept.setCell (X:=fun c=>c=C.bb) (Kept.refl _ _) (fun _=>rfl) _;have a:∀o,o≠4→(w.setCell ⟨C.bb,4,none⟩ (.slice none 0 0)).cell? ⟨C.bb,o,none⟩=w.cell? ⟨C.bb,o,none⟩:=fun o i=>World.cell?_setCell_other _ _ _ _ (fun e=>i (congrArg Addr.off e).symm);refine⟨h.ka.kept d fun c o v e j=>by have:=h.la _ _ _ e;have:=h.bl;omega,h.la,h.wb.setCell _ (h.pb 4) (by have:=h.gv;have:=h.bl;omega),h.lp,h.inj,h.gv,h.bl,h.pb,by rw[a 0 (by decide)];exact h.c0,?_,by rw[a 2 (by decide)];exact h.c2,by rw[a 3 (by decide)];exact h.c3,World.cell?_setCell_same _ _ _ h.c4,by rw[World.frozen?_setCell];exact h.f4,World.ownsRow_nil _ _ _ _,fun b e=>(by cases e),List.Pairwise.nil,fun b e=>(by cases e),fun b u e=> ?_,h.len,h.nm,h.po,h.cB,h.cC,h.err,h.cmp,h.tn⟩
 ·obtain⟨h1,h2⟩:=h.c1
  exact⟨by rw[a 1 (by decide)];exact h1,h2⟩
 ·obtain⟨h1,h2,h3,_⟩:=h.ifs b u e
  exact⟨Nat.lt_of_lt_of_le h1 d.size,h2,h3,.inl (f b u e)⟩
theorem uQ(C:BC)(p:Pm)(g:Ge)(mv:Value)(ms:List Nat)(w:World)(v:BS C p g mv ms w)(Q:ms.length≤1099511627776):
 Calls Tryz.prog 46 #[.pointer (some ⟨C.bb,0,none⟩)] w fun e H=>e= .returned (.tuple #[])∧∃q,BS C q g (.slice none 0 0) [] H∧gl p q w (fun c=>c∈ms)∧Kept (fun c=>c=C.bb∨c∈ms) w H:=by
 obtain⟨R,I,rfl⟩:=bd v.row;have z4:=v.c4;have x:=Lib.hid v;clear v;go_enter Tryz.func46,Tryz.ntmps46;go_wp2_with fail
 go_loopw [9] (fun y wr=> ∃(k:Nat)(q:Pm),k≤ms.length∧y= .int .i64 k∧lG C p g (.slice R ms.length I) ms w q wr∧∀i,i<k→∀b u,ms[i]?=some b→g.G b=some u→cy q (g.below b) b u) (fun y _=>ms.length- (intOf y).toNat)
 case atStart=>exact⟨0,p,Nat.zero_le _,rfl,⟨x.out,gl.refl _ _ _,Kept.refl _ _⟩,fun i hi=>absurd hi (Nat.not_lt_zero _)⟩
 case round=>
  obtain⟨k,q,hk,rfl,z,J⟩:=hrel;have a:=Lib.hid z;have l:=Lib.hid J;have K:=z.1.c4;clear z J;by_cases s:k<ms.length
  ·have L:(k:Int)<ms.length:=by omega
   obtain⟨M,cap,S,_,T,N,_⟩:=jO a.out.1.row (by omega);cases S;obtain⟨b,d⟩:∃b,ms[k]?=some b:=⟨_,List.getElem?_eq_getElem s⟩
   have A:wr.cell? ⟨M,k,none⟩=some (.pointer (some ⟨b,0,none⟩)):=by rw[a.out.1.row.cellAt k (by omega)];simp[d]
   have B:=(List.getElem?_eq_some_iff.1 d).2;obtain⟨_,u,hu⟩:=a.out.1.mlt b (List.mem_of_getElem? d);have U:=Lib.hid (DJ C q g _ ms wr b u a.out.1 hu (List.mem_of_getElem? d) fun c O o V=>by
    rcases(a.out.1.ifs c O o).2.2.2 with h|⟨hm,_⟩
    ·exact h
    ·obtain⟨i,hi,rfl⟩:=List.getElem_of_mem hm
     have D:i<k:=by
      rcases Nat.lt_trichotomy i k with h|h|h
      ·exact h
      ·subst h;omega
      ·have:=List.pairwise_iff_getElem.1 a.out.1.ord k i s hi h;omega
     exact l.out i D _ O (List.getElem?_eq_getElem hi) o)
   have E:=Lib.hid hu;have m:=Lib.hid d;clear hu B;go_wp2_with fail
   rw[(List.getElem?_eq_some_iff.1 m.out).2];refine U.out.mono ?_;rintro e w1 ⟨rfl,F,f,t⟩;have j:Hid (lG C p g (.slice (some ⟨M,0,none⟩) ms.length I) ms w F w1∧∀i,i<k+1→∀b u,ms[i]?=some b→g.G b=some u→cy F (g.below b) b u):=by
    refine⟨⟨f.1,a.out.2.1.trans f.2.1 a.out.2.2.size,a.out.2.2.trans f.2.2 fun _ _ h=>h⟩,fun i hi c u2 o n=> ?_⟩;by_cases e:i=k
    ·subst e
     rw[m.out]at o;cases o;rw[E.out]at n;cases n;exact t
    ·exact(l.out i (by omega) c u2 o n).sub f.2.1.1 (aE.refl _)
   clear f t;go_wp2_with fail
   exact⟨⟨k+1,F,by omega,by go_num,j.out⟩,by first|omega|(simp[intOf];omega)⟩
  ·have W:¬(k:Int)<ms.length:=by omega
   have j:Hid (∃q,BS C q g (.slice none 0 0) [] (wr.setCell ⟨C.bb,4,none⟩ (.slice none 0 0))∧gl p q w (fun c=>c∈ms)∧Kept (fun c=>c=C.bb∨c∈ms) w (wr.setCell ⟨C.bb,4,none⟩ (.slice none 0 0))):=by
    refine⟨q,a.out.1.DK fun b u P=> ?_,a.out.2.1,(a.out.2.2.mono fun c _ e=> .inr e).setCell (fun _=> .inl rfl) _⟩;rcases(a.out.1.ifs b u P).2.2.2 with h|⟨hm,_⟩
    ·exact h
    ·obtain⟨i,hi,rfl⟩:=List.getElem_of_mem hm
     exact l.out i (by omega) _ u (List.getElem?_eq_getElem hi) P
   have f4:=a.out.1.f4;clear a l;go_wp2_with fail
   go_end0
   exact⟨rfl,j.out⟩
end Go.Proofs.YtkfaiocajcjomaaGreatDoor
namespace TS
open Go Go.RowKit Go.Proofs.YtkfaiocajcjomaaGreatDoor
def uR(C:BC)(u:U)(p:Pm)(g:Ge)(w:World)(x:Value)(q:Pm)(a:Ge)(b:World):Prop:=
 Node q a u x∧BS C q a (.slice none 0 0) [] b∧Sub p q∧aE g a∧Kept (fun c=>C.B0≤c) w b
end TS
namespace Go.Proofs.YtkfaiocajcjomaaGreatDoor
open Go.RowKit TS
theorem uS(C:BC)(u:U)(hT:bI C u)(p:Pm)(g:Ge)(mv:Value)(ms:List Nat)(a:Option Addr)(c:Nat)(w:World)(B:BS C p g mv ms w)(E:ms.length+cn u≤1099511627776)(hu:aj C.pa C.D u a c):
 Calls Tryz.prog 26 #[.pointer (some ⟨C.bb,0,none⟩),.agg #[.int .i64 u.k,.int .i64 u.n,.int .i64 u.m,.bool u.v,.string u.nm,.string u.tg,.slice a u.es.length c]] w fun e N=> ∃x q A,e= .returned x∧uR C u p g w x q A N:=by
 have h:Below w.heap.size w (w.alloc (.cells #[.int .i64 u.k,.int .i64 u.n,.int .i64 u.m,.bool u.v,.string u.nm,.string u.tg,.slice a u.es.length c] 25)):=(Below.refl _ _).alloc (Nat.le_refl _) _;have L:=Lib.hid (hT p g mv ms a c _ (B.below h) E hu);have l:=Lib.hid h;have i:=Lib.hid B;clear hu B h hT;go_enter Tryz.func26,Tryz.ntmps26;go_wp2_with fail
 refine L.out.mono ?_;rintro V O ⟨x,q,A,F,o,rfl,G,d,s,H,P,Q⟩;have M:=Lib.hid (uQ C q A F o O d (by omega));obtain⟨R,S,rfl⟩:=G.val;have I:Hid (∀b,b∈o→C.B0≤b):=fun b J=>by
  obtain⟨_,u,hu⟩:=d.mlt b J;exact d.lp _ _ _ (d.ifs b u hu).2.1
 have K:=Lib.hid G;have f:=Lib.hid s;clear G s H P L d;go_wp2_with fail
 refine M.out.mono ?_;rintro W T ⟨rfl,r,t,j,y⟩;have z:Hid (uR C u p g w (ae R S) r A T):=by
  refine⟨K.out.sub j.1 (aE.refl _),t,f.out.gr.le.trans j.1,f.out.gs,?_⟩;refine(((Kept.of (X:=fun c=>C.B0≤c) l.out).trans f.out.kept fun b J e=> ?_).trans y fun b J e=> ?_)
  ·rcases e with e|e
   ·have:=i.out.bl;omega
   ·exact(i.out.ib (.inr e)).1
  ·rcases e with e|e
   ·have:=i.out.bl;omega
   ·exact I.out b e
 clear t j y M;go_wp2_with fail
 go_ret;exact⟨_,_,_,rfl,z.out⟩
def fu(u:U):U:=if(under u).k=16 then cX else under u
theorem kb(b:Nat)(W:World):(Instr.typeAssert (.iface 32 (.pointer (some ⟨b,0,none⟩))) 39 32 true).run Tryz.prog W= .ok (.tuple #[.pointer (some ⟨b,0,none⟩),.bool true]) W:=by kernel_rfl
theorem DL(C:BC)(u:U)(hT:bI C u)(hi:isIface u=true)(F:bare (bare u)=bare u)(W:(bare u).k=11→∃y,(bare u).un= [y]∧y.k≠16)(H:(bare u).k≠12)(I:(bare u).k≠13)(X:(under u).k=10→under (under u)=under u)(p:Pm)(g:Ge)(mv:Value)(ms:List Nat)(a:Option Addr)(c:Nat)(w:World)(P:BS C p g mv ms w)(J:ms.length+cn u≤1099511627776)(hu:aj C.pa C.D u a c):
 Calls Tryz.prog 21 #[.pointer (some ⟨C.bb,0,none⟩),.agg #[.int .i64 u.k,.int .i64 u.n,.int .i64 u.m,.bool u.v,.string u.nm,.string u.tg,.slice a u.es.length c]] w fun e L=> ∃b q f,e= .returned (.pointer (some ⟨b,0,none⟩))∧f.G b=some (fu u)∧BS C q f (.slice none 0 0) [] L∧Sub p q∧aE g f∧Kept (fun c=>C.B0≤c) w L:=by
 have j:Below w.heap.size w (w.alloc (.cells #[.int .i64 u.k,.int .i64 u.n,.int .i64 u.m,.bool u.v,.string u.nm,.string u.tg,.slice a u.es.length c] 25)):=(Below.refl _ _).alloc (Nat.le_refl _) _;have Q:=Lib.hid (uS C u hT p g mv ms a c _ (P.below j) J hu);have o:=Lib.hid j;clear hu P j hT;go_enter Tryz.func21,Tryz.ntmps21;go_wp2_with fail
 refine Q.out.mono ?_;rintro e1 M ⟨x,q,f,rfl,R,l,r,s,z⟩;obtain⟨t,b,rt,E,rfl,S,hr⟩:=iE R F W H I;obtain⟨N,T⟩:rt=32∧f.G E=some (fu u):=by
  unfold isIface at hi;simp only[Bool.or_eq_true,beq_iff_eq]at hi;rcases hr with⟨i,O⟩|⟨i,h1,h2⟩
  ·have Y:(under u).k=10:=hi.resolve_right i
   cases O with
   |iface _ h=>exact⟨rfl,by rw[fu,if_neg i];exact h⟩
   |_=>omega
  ·exact⟨h1,by rw[fu,if_pos i];exact h2⟩
 subst N;obtain⟨K,fn,c',A,d,V,hm,Z,hc⟩:=S M l.wb.kw;have P3:=fun args w=>Go.MuLone.run_callFunc_enter A d V args w;have B:Hid (f.G E=some (fu u)∧BS C q f (.slice none 0 0) [] M∧Sub p q∧aE g f∧Kept (fun c=>C.B0≤c) w M):=⟨T,l,r,s,(Kept.of o.out).trans z fun _ _ h=>h⟩
 have P4:=kb E;clear A d V R l r s z S hr T Q;go_wp2_with fail
 refine hc.mono ?_;rintro e L ⟨rfl,rfl⟩;go_wp2_with fail
 go_ret;exact⟨E,q,f,rfl,B.out⟩
end Go.Proofs.YtkfaiocajcjomaaGreatDoor
namespace TS
open Go Go.RowKit Go.Proofs.YtkfaiocajcjomaaGreatDoor
theorem DO:(bw.es.drop bw.m.toNat)= []:=rfl
theorem DP:(aG.es.drop aG.m.toNat)= []:=rfl
section
variable {D:Dl} {T:List U} {NS:List (List UInt8)} {i:Nat}
theorem DQ(E:Env D T NS i):∀(u:U){pos f:Nat}{g:Bool},Mo D.len T NS i u pos f→f≠0→u.k≠12→u.k≠13→mt T .type u g=true→(under u).k=10→
 ∀e∈(under u).es.drop (under u).m.toNat,Mo D.len T NS i e 2 2∧∃y,mt T .elem e y=true:=by
 intro u;induction u using U.bg with
 |_ u ih=>
  intro pos f g h c q r hm a e he;obtain⟨⟨F,z,hu⟩,_,_⟩:=h.eN E c q r;refine⟨hu.elem a he,?_⟩;by_cases h2:u.k=2
  ·obtain⟨x,n⟩:=cU (h.pl.form.eW h2)
   have A:0<u.es.length:=by rw[n];simp
   have B:u.es[0]=x:=by simp[n]
   have p:=h.part 0 A;rw[B,ij h.f2 (.inl h2),show aS u 0=0 by unfold aS;rw[if_neg (by omega),if_neg (by omega)]]at p;rw[ks h2,n]at hm;have s:mt T .type x g=true:=by simpa using hm
   have t:=lT h2 n;rw[t]at he a;exact(ih x (U.az (by rw[n];simp)) p c p.pl.form.aB.1 p.pl.form.aB.2 s a e he).2
  ·by_cases b:u.k=10
   ·rw[fU b]at he
    rw[i_ b]at hm;simp only[Bool.and_eq_true,List.all_eq_true]at hm;exact⟨g,hm.1 e he⟩
   ·by_cases d:u.k=11
    ·have w:=h.bE.named d
     rw[if_neg c]at w;obtain⟨h1,v,h3⟩:=w;rw[qQ d h3]at he a;have j:=E.mt _ h1 v;rw[i_ a]at j;simp only[Bool.and_eq_true,List.all_eq_true]at j;exact⟨true,j.1 e he⟩
    ·by_cases l:u.k=15
     ·rw[qR l (h.bE.err l)]at he
      rw[DP]at he;cases he
     ·by_cases o:u.k=14
      ·have:under u=bw:=by
        have C:bare u=bw:=gq o;unfold under;rw[C];rfl
       rw[this,DO]at he;cases he
      ·rw[cr h2 d o l]at a;omega
theorem pN{e:U}{g:Bool}(h:Mo D.len T NS i e 2 2)(hm:mt T .elem e g=true){y:U}(b:y∈(if e.k=12 then e.es else [e])):
 ∃pos,Mo D.len T NS i y pos 2∧y.k≠12∧mt T .term y false=true:=by
 by_cases a:e.k=12
 ·rw[if_pos a]at b
  rw[lM a]at hm;simp only[Bool.and_eq_true,List.all_eq_true]at hm;have hu:=h.union a b;refine⟨1,hu,fun hk=> ?_,(hm.1.1 y b).1⟩;cases hu.pl.form<;>omega
 ·rw[if_neg a]at b
  obtain rfl:y=e:=by simpa using b
  rw[iZ a]at hm;simp only[Bool.and_eq_true]at hm;exact⟨2,h,a,hm.1⟩
theorem Mo.aD{y:U}{pos:Nat}(h:Mo D.len T NS i y pos 2)(b:y.k≠12):Mo D.len T NS i (TS.aD y) 0 2:=by
 by_cases a:y.k=13
 ·have h1:=h.pl.form.gU a
  obtain⟨e,he⟩:=cU h1;have c:=h.part 0 (by omega);have d:y.es[0]'(by omega)=e:=by simp[he]
  rw[d,show aJ y 0 2=2 by unfold aJ;rw[if_pos rfl],show aS y 0=0 by unfold aS;rw[if_neg b,if_neg (by omega)]]at c;rw[gT a he];exact c
 ·rw[eK a];exact h.gw b a
theorem Mo.pO(E:Env D T NS i){u:U}{pos f:Nat}(h:Mo D.len T NS i u pos f)(a:u.k≠12)(b:u.k≠13)(hm:mt T .type u false=true):aP u:=
 (jP E.ok E.bE E.mt u pos f false i (Nat.le_refl _) h.bE h.pl h.f2 a b hm).2 (kz u pos f h.bE h.pl h.f2 a b hm)
theorem Mo.ny(E:Env D T NS i){y:U}{pos:Nat}(h:Mo D.len T NS i y pos 2)(c:y.k≠12)(hm:mt T .term y false=true)(hi:isIface (TS.aD y)=false):aP (TS.aD y):=by
 have b:=h.aD c;by_cases a:y.k=13
 ·obtain⟨e,he⟩:=cU (h.pl.form.gU a)
  rw[kq a,he]at hm;have d:(mt T .type e false=true∧isIface e=false)∧aF e (under e)=true:=by simpa using hm
  rw[gT a he]at b⊢;exact b.pO E b.pl.form.aB.1 b.pl.form.aB.2 d.1.1
 ·rw[eK a]at hi b⊢
  rw[gR a,hi]at hm;exact b.pO E c a hm
theorem pP{y:U}{pos f:Nat}(c:Pl D.len y pos f)(a:y.k=13)(hm:mt T .term y false=true):isIface (aD y)=false∧aF (aD y) (under (aD y))=true:=by
 obtain⟨e,he⟩:=cU (c.form.gU a);rw[kq a,he]at hm;have b:(mt T .type e false=true∧isIface e=false)∧aF e (under e)=true:=by simpa using hm
 rw[gT a he];exact⟨b.1.2,b.2⟩
theorem DS(E:Env D T NS i):∀(u:U){pos f:Nat}{g:Bool},Mo D.len T NS i u pos f→f≠0→u.k≠12→u.k≠13→mt T .type u g=true→∀x∈bF u,Tok D.len x.2∧dh D.len x.2:=by
 intro u;induction u using U.bg with
 |_ u ih=>
  intro pos f g h o p q hm x b;by_cases c:(under u).k=10
  ·rw[mq c]at b
   obtain⟨y,m,b⟩:=List.mem_flatMap.1 b;have s:=iY m;obtain⟨e,he,m⟩:=List.mem_flatMap.1 m;obtain⟨h1,t,h2⟩:=DQ E u h o p q hm c e he;obtain⟨pos',h3,n,j⟩:=pN h1 h2 m;have l:=h3.aD n;unfold eL at b;by_cases a:y.k=13
   ·rw[if_pos a]at b
    obtain rfl:x=(true,aD y):=by simpa using b
    have r:=(pP h3.pl a j).1;have d:=h3.ny E n j r;exact⟨nj E l (by omega) d r,lB E _ l (by omega) d⟩
   ·rw[if_neg a]at b
    cases hi:isIface y with
    |true=>
     rw[hi,if_pos rfl]at b;rw[gR a]at j;have hu:=dn u;exact ih y (by omega) h3 (by omega) n a j x b
    |false=>
     rw[hi,if_neg (by simp)]at b;obtain rfl:x=(false,y):=by simpa using b
     rw[eK a]at l;have d:=h3.ny E n j (by rw[eK a];exact hi);rw[eK a]at d;exact⟨nj E l (by omega) d hi,lB E _ l (by omega) d⟩
  ·rw[kN c]at b;cases b
theorem DT(E:Env D T NS i):∀(u:U){pos f:Nat},Mo D.len T NS i u pos f→f≠0→u.k≠12→u.k≠13→∀m∈an u,aO m.nm=true:=by
 intro u;induction u using U.bg with
 |_ u ih=>
  intro pos f h b c d m hm;obtain⟨⟨o,l,hu⟩,_,_⟩:=h.eN E b c d;have n:=dn u;obtain⟨g,hm⟩:=gQ hm;rcases hm with hm|⟨e,he,a,hm⟩
  ·have:=hu.pl.form
   cases this with
   |iface _ _ _ _ j _=>exact(j m hm).2
   |_=>omega
  ·have h1:=hu.elem g he
   unfold aW at a;simp only[Bool.and_eq_true,bne_iff_ne,ne_eq]at a;have h2:=U.az (List.mem_of_mem_drop he);exact ih e (by omega) h1 (by omega) a.1.1 a.1.2 m hm
theorem DU(E:Env D T NS i){u:U}{pos f:Nat}{g:Bool}(h:Mo D.len T NS i u pos f)(l:u.k=10)(hm:mt T .type u g=true)(R:u.es.length≤1048576):fB D.len u:=by
 have hu:=fU l;have F:(∀e∈u.es.take u.m.toNat,e.k=7∧aO e.nm=true):=by
  cases h.pl.form with
  |iface _ _ _ _ N _=>exact N
  |_=>omega
 rw[i_ l]at hm;simp only[Bool.and_eq_true,List.all_eq_true,decide_eq_true_eq]at hm;obtain⟨O,⟨_,_⟩,P⟩:=hm;have p:∀e∈u.es.drop u.m.toNat,Mo D.len T NS i e 2 2∧mt T .elem e g=true:=fun e he=>⟨h.elem l he,O e he⟩
 have hw:∀y∈eA u,∀x∈eL y,x∈bF u:=fun y n x d=>by rw[mZ l];exact List.mem_flatMap.2 ⟨y,n,d⟩
 have s:∀e∈u.es.drop u.m.toNat,∀y∈(if e.k=12 then e.es else [e]),y∈eA u:=fun e he y n=>List.mem_flatMap.2 ⟨e,he,n⟩;have v:∀x∈bF u,Tok D.len x.2∧dh D.len x.2:=fun x d=>by
  rw[mZ l]at d;obtain⟨y,n,d⟩:=List.mem_flatMap.1 d;obtain⟨e,he,n⟩:=List.mem_flatMap.1 n;obtain⟨h1,h2⟩:=p e he;obtain⟨pos',h3,B,G⟩:=pN h1 h2 n;have o:=h3.aD B;unfold eL at d;by_cases b:y.k=13
  ·rw[if_pos b]at d
   obtain rfl:x=(true,aD y):=by simpa using d
   have M:=(pP h3.pl b G).1;have I:=h3.ny E B G M;exact⟨nj E o (by omega) I M,lB E _ o (by omega) I⟩
  ·rw[if_neg b]at d
   cases hi:isIface y with
   |true=>
    rw[hi,if_pos rfl]at d;rw[gR b]at G;exact DS E y h3 (by omega) B b G x d
   |false=>
    rw[hi,if_neg (by simp)]at d;obtain rfl:x=(false,y):=by simpa using d
    rw[eK b]at o;have I:=h3.ny E B G (by rw[eK b];exact hi);rw[eK b]at I;exact⟨nj E o (by omega) I hi,lB E _ o (by omega) I⟩
 have w:∀{y:U}{pos:Nat},Mo D.len T NS i y pos 2→y.k≠12→y.k≠13→(under y).k≠2∧(under y).k≠14:=fun n a c=>by
  have:=(n.eN E (by omega) a c).2.1;exact⟨this.1,this.2.2.1⟩
 have C:∀{y:U}{pos:Nat},Mo D.len T NS i y pos 2→y.k≠12→y.k≠13→j_ D.len y:=fun n a c=>⟨⟨2,by omega,(n.gw a c).pl⟩,n.fl E (by omega) a c⟩
 have J:∀{y:U}{pos:Nat},Mo D.len T NS i y pos 2→y.k≠12→y.k≠13→∀x∈bF (under y),x∈bF y:=fun{y} {pos} n a c x d=>by
  by_cases hk:(under y).k=10
  ·rwa [B7 hk]at d
  ·have h1:=(n.eN E (by omega) a c).2.1
   rw[kN (by rw[cr h1.1 h1.2.1 h1.2.2.1 h1.2.2.2];exact hk)]at d;cases d
 have H:∀e∈u.es.drop u.m.toNat,∀y∈(if e.k=12 then e.es else [e]),(y.k=13→isIface (aD y)=false)∧pf D.len (bF u) (y.k==13) (aD y):=fun e he y n=>by
  obtain⟨h1,h2⟩:=p e he;obtain⟨pos',h3,B,G⟩:=pN h1 h2 n;have o:=h3.aD B;have z:=o.pl.form.aB;have q:=s e he y n;by_cases b:y.k=13
  ·obtain⟨M,hid⟩:=pP h3.pl b G
   refine⟨fun _=>M,.inl ?_⟩;have d:(true,aD y)∈bF u:=hw y q _ (by unfold eL;rw[if_pos b];simp);rw[show(y.k==13)=true by simp[b]];exact⟨(v _ d).1,fun _=>hid,d,w o z.1 z.2⟩
  ·refine⟨fun h=>absurd h b,?_⟩
   rw[eK b]at o z⊢;rw[show(y.k==13)=false by simp[b]];cases hi:isIface y with
   |true=>exact .inr ⟨hi,C h3 B b,fun x d=>hw y q x (by unfold eL;rw[if_neg b,hi,if_pos rfl];exact J h3 B b x d)⟩
   |false=>
    have d:(false,y)∈bF u:=hw y q _ (by unfold eL;rw[if_neg b,hi,if_neg (by simp)];simp);exact .inl ⟨(v _ d).1,fun h=>(by cases h),d,w o z.1 z.2⟩
 refine⟨l,fun x d=>(v x d).1,?_,fun x d=>(v x d).2,fun e he=> ?_,fun m hm=>(F m hm).2,(kF h.pl.form l).noTwo,?_,R⟩
 ·have:=xW u P;omega
 ·obtain⟨h1,h2⟩:=p e he
  by_cases a:e.k=12
  ·refine .inl ⟨.inl a,?_,?_,?_⟩
   ·intro j K
    rw[bq,if_pos a]at K;rw[show(bq e)[j]=(e.es[j]'(by simpa using K)|> fun x=>(x.k==13,aD x)) by simp[bq,a]];exact(H e he _ (by rw[if_pos a];exact List.getElem_mem _)).2
   ·rw[bq,if_pos a,List.length_map]
    cases h1.pl.form<;>omega
   ·intro t o L
    rw[bq,if_pos a]at o;obtain⟨x,d,rfl⟩:=List.mem_map.1 o;exact(H e he x (by rw[if_pos a];exact d)).1 (by simpa using L)
  ·have A:=H e he e (by rw[if_neg a];simp)
   by_cases c:e.k=13
   ·refine .inl ⟨.inr c,?_,?_,?_⟩
    ·intro j K
     rw[bq,if_neg a]at K;obtain rfl:j=0:=by simp at K;omega
     have:=A.2;rw[show(e.k==13)=true by simp[c]]at this;simpa [bq,a]using this
    ·rw[bq,if_neg a];simp
    ·intro t o L
     rw[bq,if_neg a]at o;obtain rfl:t=(true,aD e):=by simpa using o
     exact A.1 c
   ·have o:=h1.gw a c
    have q:=s e he e (by rw[if_neg a];simp);cases hi:isIface e with
    |true=>exact .inr (.inl ⟨⟨a,c⟩,hi,C h1 a c,fun x d=>hw e q x (by unfold eL;rw[if_neg c,hi,if_pos rfl];exact J h1 a c x d),DT E e h1 (by omega) a c⟩)
    |false=>
     have d:(false,e)∈bF u:=hw e q _ (by unfold eL;rw[if_neg c,hi,if_neg (by simp)];simp);exact .inr (.inr ⟨⟨a,c⟩,(v _ d).1,d,w h1 a c⟩)
 ·have Q:=nK (r:=u.es.drop u.m.toNat) (kF h.pl.form l).noTwo
  have hle:=jd (NS:=NS) Q fun m hm=>by
   have:m∈an u:=by rw[jv l,qA];exact hm
   exact(h.aC.cf m this).1
  have:=E.cJ;unfold ef;omega
theorem nA(E:Env D T NS i){p:Pm}:∀(u:U){s:Pt}{pos f:Nat}{g:Bool}{a:Option Addr}{c:Nat},Mo D.len T NS i u pos f→mt T s u g=true→(s= .type→u.k≠12∧u.k≠13)→(s= .term→u.k≠12)→aj p D u a c→FF D.len u:=by
 intro u;induction u using U.bg with
 |_ u ih=>
  intro s pos f g a c h hm w B hu;have H:=hu.cap;have x:∀j(l:j<u.es.length),∃a' c',aj p D u.es[j] a' c':=fun j l=>by
   obtain⟨eb,eo,rfl⟩:=hu.list.bC (by omega);obtain⟨a',c',_,h2⟩:=hu.list.get j l;exact⟨a',c',h2⟩
  have go:∀j(l:j<u.es.length)(z:Pt)(r:Bool),mt T z u.es[j] r=true→(z= .type→u.es[j].k≠12∧u.es[j].k≠13)→(z= .term→u.es[j].k≠12)→FF D.len u.es[j]:=fun j l z r h1 h2 h3=>by
   obtain⟨a',c',I⟩:=x j l;exact ih _ (U.az (List.getElem_mem l)) (h.part j l) h1 h2 h3 I
  have v:u.k≠10→u.k≠12→∀j(l:j<u.es.length)(r:Bool),mt T .type u.es[j] r=true→FF D.len u.es[j]:=fun n b j l r C=>by
   have A:=h.pl.iu n b j l;exact go j l .type r C (fun _=>A.form.aB) fun e=>(by cases e)
  have y:u.k≠12→u.k≠13→∃r,mt T .type u r=true:=fun b o=>by
   cases s with
   |type=>exact⟨_,hm⟩
   |term=>rw[gR o]at hm;exact⟨_,hm⟩
   |elem=>
    rw[iZ b]at hm;simp only[Bool.and_eq_true]at hm;have:=hm.1;rw[gR o]at this;exact⟨_,this⟩
  rw[FF];refine⟨fun n=> ?_,fun e he=> ?_⟩
  ·obtain⟨r,d⟩:=y (by omega) (by omega)
   exact⟨DU E h n d (by omega),by omega⟩
  ·obtain⟨j,l,rfl⟩:=List.getElem_of_mem he
   by_cases b:u.k=12
   ·have t:mt T .elem u g=true:=by
     cases s with
     |type=>exact absurd b (w rfl).1
     |term=>exact absurd b (B rfl)
     |elem=>exact hm
    rw[lM b]at t;simp only[Bool.and_eq_true,List.all_eq_true]at t;have A:=h.pl.part j l;rw[show aS u j=1 by unfold aS;rw[if_pos b]]at A;exact go j l .term false (t.1.1 _ he).1 (fun e=>by cases e) fun _ hk=>by cases A.form<;>omega
   ·by_cases o:u.k=13
    ·have q:mt T .term u g=true∨mt T .term u false=true:=by
      cases s with
      |type=>exact absurd o (w rfl).2
      |term=>exact .inl hm
      |elem=>
       rw[iZ b]at hm;simp only[Bool.and_eq_true]at hm;exact .inr hm.1
     have t:∀e∈u.es,mt T .type e false=true:=fun e he=>by
      rcases q with q|q
      all_goals
       rw[kq o]at q;simp only[Bool.and_eq_true,List.all_eq_true]at q;exact(q e he).1.1
     exact v (by omega) b j l false (t _ he)
    ·obtain⟨r,d⟩:=y b o
     by_cases h2:u.k=2
     ·rw[ks h2,List.all_eq_true]at d
      exact v (by omega) b j l r (d _ he)
     ·by_cases n:u.k=10
      ·rw[i_ n]at d
       simp only[Bool.and_eq_true,List.all_eq_true]at d;have F:u.es[j]∈u.es.take u.m.toNat∨u.es[j]∈u.es.drop u.m.toNat:=by
        rw[←List.mem_append,List.take_append_drop];exact he
       rcases F with he|he
       ·have J:∀e∈u.es.take u.m.toNat,e.k=7∧aO e.nm=true:=by
         cases h.pl.form with
         |iface _ _ _ _ G _=>exact G
         |_=>omega
        have h7:=(J _ he).1;exact go j l .type false (d.2.1.1 _ he) (fun _=>by omega) fun e=>(by cases e)
       ·exact go j l .elem r (d.1 _ he) (fun e=>by cases e) fun e=>by cases e
      ·rw[lN h2 n]at d
       simp only[Bool.and_eq_true,List.all_eq_true]at d;exact v n b j l false (d.2 _ he)
end
end TS
