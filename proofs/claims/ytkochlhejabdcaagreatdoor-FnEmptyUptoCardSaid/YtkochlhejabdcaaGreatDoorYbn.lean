import Derived.Test.YtkochlhejabdcaaGreatDoorYbl
import Derived.Test.YtkochlhejabdcaaGreatDoorYbm
set_option maxRecDepth 100000
set_option maxHeartbeats 8000000
set_option linter.all false
namespace TS
open Go Go.RowKit Go.Proofs.YtkochlhejabdcaaGreatDoor
structure BC where
 D:Dl
 T:List U
 i:Nat
 pa:Pm
 B0:Nat
 bb:Nat
 da:Option Addr
 dc:Nat
def oX(len:Nat)(p:Pm)(g:Ge)(w:World)(ms:List Nat)(b:Nat)(u:U):Prop:=
 b<w.heap.size∧p b 0=some (.pointer none)∧p b 5=some (.bool true)∧(cS p (g.below b) b u∨(b∈ms∧gj p (g.below b) b u∧gB len u∧p b 6=none∧Xc w b 6 (.pointer none)∧w.frozen? (Xa b 6)=false))
structure BS(C:BC)(p:Pm)(g:Ge)(mv:Value)(ms:List Nat)(w:World):Prop where
 ka:KW C.pa w
 la:∀b o v,C.pa b o=some v→b<C.B0
 wb:WB p w
 lp:∀b o v,p b o=some v→C.B0≤b
 inj:mD g
 gv:5<C.B0
 bl:C.B0≤C.bb
 pb:∀o,p C.bb o=none
 c0:Xc w C.bb 0 (ptr g.pk)
 c1:Xc w C.bb 1 (.slice C.da g.len C.dc)∧cd p C.da g.len fun i=>ptr (g.nb i)
 c2:Xc w C.bb 2 (ah 60 g.eb)
 c3:Xc w C.bb 3 (ah 60 g.cb)
 c4:Xc w C.bb 4 mv
 f4:w.frozen? (Xa C.bb 4)=false
 row:w.ownsRow C.B0 37 1 mv ms.length (ms.map pv)
 rd:∀b,mv.ownBlock=some b→b≠C.bb∧∀o,p b o=none
 ord:ms.Pairwise (· < ·)
 mlt:∀b∈ms,b<w.heap.size∧∃u,g.G b=some u
 ifs:∀b u,g.G b=some u→oX C.D.len p g w ms b u
 len:g.len=C.D.len
 nm:∀i,i<g.len→p (g.nb i) 1=some (ptr (g.ob i))
 po:∀i,i<g.len→∃o v,p (g.ob i) o=some v
 cY:∃o v,p g.eo o=some v
 cZ:∃o v,p g.co o=some v
 err:p g.eb 1=some (ptr g.eo)∧∃x,eL p g.eb x∧Node p g aP x
 cmp:p g.cb 1=some (ptr g.co)∧∃b,eL p g.cb (ah 37 b)∧g.G b=some dB
 tn:∀n(h:n<C.T.length),n<C.i→∃x,eL p (g.nb n) x∧Node p g C.T[n] x
structure aG(C:BC)(p:Pm)(g:Ge)(mv:Value)(ms:List Nat)(w:World)(q:Pm)(d:Ge)(a:List Nat)(e:World):Prop where
 gr:aN p q w
 gs:aK g d
 gn:∀b u,d.G b=some u→g.G b=some u∨w.heap.size≤b
 kept:Kept (fun c=>c=C.bb∨mv.ownBlock=some c) w e
 mm:∃l,a=ms++l
theorem wF{g a:Ge}(h:aK g a)(b:Nat):aK (g.below b) (a.below b):=
 ⟨h.nb,h.ob,h.len,h.eb,h.eo,h.cb,h.co,h.pk,fun c u k=>by
  simp only[Ge.below]at k⊢;split at k
  ·rw[if_pos ‹_›];exact h.G _ _ k
  ·cases k⟩
section
variable {C:BC} {p q r:Pm} {g g1 g2:Ge} {mv mv1:Value} {ms ms1 ms2:List Nat} {w w1 w2:World}
theorem BS.ib(h:BS C p g mv ms w){b:Nat}(a:C.bb=b∨mv.ownBlock=some b):C.B0≤b∧b<w.heap.size∧∀o,p b o=none:=by
 rcases a with rfl|e
 ·exact⟨h.bl,zb h.c0,h.pb⟩
 ·exact⟨(h.row.lt _ e).1,(h.row.lt _ e).2,(h.rd _ e).2⟩
theorem aG.refl(C:BC)(p:Pm)(g:Ge)(mv:Value)(ms:List Nat)(w:World):aG C p g mv ms w p g ms w:=⟨aN.refl _ _,aK.refl g,fun _ _ h=> .inl h,Kept.refl _ _,[],by simp⟩
theorem aG.size(h:aG C p g mv ms w q g1 ms1 w1):w.heap.size≤w1.heap.size:=h.kept.size
theorem aG.trans(h:aG C p g mv ms w q g1 ms1 w1)(k:aG C q g1 mv1 ms1 w1 r g2 ms2 w2)(hm:∀b,mv1.ownBlock=some b→mv.ownBlock=some b∨w.heap.size≤b):aG C p g mv ms w r g2 ms2 w2 where
 gr:=h.gr.trans k.gr h.size
 gs:=h.gs.trans k.gs
 gn:=fun b u e=>by
  rcases k.gn b u e with e|e
  ·exact h.gn b u e
  ·exact .inr (Nat.le_trans h.size e)
 kept:=h.kept.trans k.kept fun b d e=>by
  rcases e with e|e
  ·exact .inl e
  ·rcases hm b e with e|e
   ·exact .inr e
   ·omega
 mm:=let⟨l,e⟩:=h.mm;let⟨a,c⟩:=k.mm;⟨l++a,by rw[c,e,List.append_assoc]⟩
theorem oX.mono{len:Nat}{b:Nat}{u:U}(h:oX len p g w ms b u)(hk:Sub p q)(a:aK g g1)(hm:∀b∈ms,b∈ms1)(c:w.heap.size≤w1.heap.size)(d:w1.cell? (Xa b 6)=w.cell? (Xa b 6))(e:w1.frozen? (Xa b 6)=w.frozen? (Xa b 6))(f:p b 6=none→q b 6=none):oX len q g1 w1 ms1 b u:=
 let⟨h1,i,j,k⟩:=h
 ⟨Nat.lt_of_lt_of_le h1 c,hk _ _ _ i,hk _ _ _ j,k.imp (fun h=>h.sub hk (wF a b)) fun⟨l,m,n,o,s,t⟩=>⟨hm b l,m.sub hk (wF a b),n,f o,by rw[d];exact s,by rw[e];exact t⟩⟩
theorem BS.grow(h:BS C p g mv ms w)(d:Below w w w1)(c:aN p q w)(l:WB q w1):BS C q g mv ms w1 where
 ka:=h.ka.grown d
 la:=h.la
 wb:=l
 lp:=fun b o v e=>(c.new b o v e).elim (h.lp b o v) fun e=>by
  have h1:=h.bl;have:=zb h.c0;simp only at this;omega
 inj:=h.inj
 gv:=h.gv
 bl:=h.bl
 pb:=fun o=>c.aF (zb h.c0) h.pb o
 c0:=az d h.c0
 c1:=let⟨h1,f⟩:=h.c1;⟨az d h1,f.sub c.le⟩
 c2:=az d h.c2
 c3:=az d h.c3
 c4:=az d h.c4
 f4:=TS.frozen_kept d (zb h.c4) h.f4
 row:=bw h.row d
 rd:=fun b e=>⟨(h.rd b e).1,fun o=>c.aF (h.row.lt _ e).2 (h.rd b e).2 o⟩
 ord:=h.ord
 mlt:=fun b e=>⟨Nat.lt_of_lt_of_le (h.mlt b e).1 d.size,(h.mlt b e).2⟩
 ifs:=fun b u e=>by
  have hi:=h.ifs b u e;have k:=hi.1;refine hi.mono c.le (aK.refl g) (fun _ h=>h) d.size (d.cell (p:=(Xa b 6)) k) (World.frozen?_of_block (a:=(Xa b 6)) (d.block b k)) fun e=> ?_;cases m:q b 6 with
  |none=>rfl
  |some v=>
   rcases c.new _ _ _ m with h|h
   ·rw[e]at h;cases h
   ·omega
 len:=h.len
 nm:=fun i hi=>c.le _ _ _ (h.nm i hi)
 po:=fun i hi=>let⟨o,v,e⟩:=h.po i hi;⟨o,v,c.le _ _ _ e⟩
 cY:=let⟨o,v,e⟩:=h.cY;⟨o,v,c.le _ _ _ e⟩
 cZ:=let⟨o,v,e⟩:=h.cZ;⟨o,v,c.le _ _ _ e⟩
 err:=let⟨h1,x,f,j⟩:=h.err;⟨c.le _ _ _ h1,x,f.sub c.le,j.sub c.le (aK.refl g)⟩
 cmp:=let⟨h1,b,f,j⟩:=h.cmp;⟨c.le _ _ _ h1,b,f.sub c.le,j⟩
 tn:=fun n s hi=>let⟨x,h1,f⟩:=h.tn n s hi;⟨x,h1.sub c.le,f.sub c.le (aK.refl g)⟩
theorem BS.below(h:BS C p g mv ms w)(a:Below w w w1):BS C p g mv ms w1:=h.grow a (aN.refl _ _) (h.wb.below a)
theorem aG.below(h:aG C p g mv ms w q g1 ms1 w1)(a:Below w1 w1 w2):aG C p g mv ms w q g1 ms1 w2:=⟨h.gr,h.gs,h.gn,h.kept.below a,h.mm⟩
theorem aG.ahead(a:Below w w w1)(h:aG C p g mv ms w1 q g1 ms1 w2):aG C p g mv ms w q g1 ms1 w2:=
 ⟨h.gr.mono a.size,h.gs,fun b u e=>(h.gn b u e).imp id fun h=>Nat.le_trans a.size h,(Kept.of a).trans h.kept fun _ _ h=>h,h.mm⟩
theorem aG.grow(h:aG C p g mv ms w q g1 ms1 w1)(a:Below w1 w1 w2)(b:aN q r w1):aG C p g mv ms w r g1 ms1 w2:=
 ⟨h.gr.trans b h.size,h.gs,h.gn,h.kept.below a,h.mm⟩
end
theorem WB.add{p:Pm}{w:World}{b:Nat}{cs:Array Value}{T:TypeId}(h:WB p w)(_hp:∀o,p b o=none)(a:w.heap[b]?=some (.cells cs T (0,0))):WB (p.add b cs) w where
 kw:=h.kw.add fun o u hu=>by simp[World.cell?,a,hu]
 pl:=fun d o v c=>by
  by_cases e:d=b
  ·subst e;exact⟨cs,T,a⟩
  ·rw[Pm.aQ _ _ _ e]at c;exact h.pl _ _ _ c
 cap:=h.cap
section
variable {C:BC} {p q r:Pm} {g g1 g2:Ge} {mv mv1:Value} {ms ms1 ms2:List Nat} {w w1 w2:World}
theorem BS.box(h:BS C p g mv ms w)(cs:Array Value)(T:TypeId):BS C (p.add w.heap.size cs) g mv ms (w.alloc (.cells cs T)):=
 have a:Below w w (w.alloc (.cells cs T)):=zB.alloc zl _;have b:∀o,p w.heap.size o=none:=fun o=>h.wb.kw.aF zl o;h.grow a (Pm.du b zl) ((h.wb.below a).add (T:=T) b (cA rfl))
theorem aG.box(h:aG C p g mv ms w q g1 ms1 w1)(a:BS C q g1 mv1 ms1 w1)(cs:Array Value)(T:TypeId):aG C p g mv ms w (q.add w1.heap.size cs) g1 ms1 (w1.alloc (.cells cs T)):=
 h.grow (zB.alloc zl _) (Pm.du (fun o=>a.wb.kw.aF zl o) zl)
end
theorem BS.own{C:BC}{p:Pm}{g:Ge}{mv:Value}{ms:List Nat}{w w1:World}(h:BS C p g mv ms w){X:Nat→Prop}(k:Kept X w w1)(c:∀b,X b→C.B0≤b∧(∀o,p b o=none)∧b≠C.bb∧mv.ownBlock≠some b):BS C p g mv ms w1 where
 ka:=h.ka.kept k fun b o v e a=>by have:=h.la _ _ _ e;have:=(c b a).1;omega
 la:=h.la
 wb:=h.wb.own k (fun b a=>(c b a).2.1) fun a=>by have:=(c _ a).1;have:=h.gv;omega
 lp:=h.lp
 inj:=h.inj
 gv:=h.gv
 bl:=h.bl
 pb:=h.pb
 c0:=by rw[k.cell (zb h.c0) fun a=>(c _ a).2.2.1 rfl];exact h.c0
 c1:=let⟨h1,d⟩:=h.c1;⟨by rw[k.cell (zb h.c0) fun a=>(c _ a).2.2.1 rfl];exact h1,d⟩
 c2:=by rw[k.cell (zb h.c0) fun a=>(c _ a).2.2.1 rfl];exact h.c2
 c3:=by rw[k.cell (zb h.c0) fun a=>(c _ a).2.2.1 rfl];exact h.c3
 c4:=by rw[k.cell (zb h.c0) fun a=>(c _ a).2.2.1 rfl];exact h.c4
 f4:=by rw[k.frozen (zb h.c0) fun a=>(c _ a).2.2.1 rfl];exact h.f4
 row:=dY h.row k fun b e a=>(c b a).2.2.2 e
 rd:=h.rd
 ord:=h.ord
 mlt:=fun b e=>⟨Nat.lt_of_lt_of_le (h.mlt b e).1 k.size,(h.mlt b e).2⟩
 ifs:=fun b u e=>by
  have hi:=h.ifs b u e;have a:¬X b:=fun a=>by have:=(c b a).2.1 0;rw[hi.2.1]at this;cases this
  exact hi.mono (Sub.refl p) (aK.refl g) (fun _ h=>h) k.size (k.cell hi.1 a) (k.frozen hi.1 a) fun h=>h
 len:=h.len
 nm:=h.nm
 po:=h.po
 cY:=h.cY
 cZ:=h.cZ
 err:=h.err
 cmp:=h.cmp
 tn:=h.tn
theorem aG.own{C:BC}{p q:Pm}{g g1:Ge}{mv:Value}{ms ms1:List Nat}{w w1 w2:World}(h:aG C p g mv ms w q g1 ms1 w1){X:Nat→Prop}(k:Kept X w1 w2)(a:∀b,X b→w.heap.size≤b):aG C p g mv ms w q g1 ms1 w2:=
 ⟨h.gr,h.gs,h.gn,h.kept.trans k fun b d c=>by have:=a b c;omega,h.mm⟩
def FF(len:Nat)(u:U):Prop:=(u.k=10→gB len u∧u.es.length≤1048576)∧∀e,∀_:e∈u.es,FF len e
termination_by u.sz
decreasing_by exact U.ar ‹_›
theorem FF.EE{len:Nat}{u:U}(h:FF len u)(hk:u.k=10):gB len u:=by rw[FF]at h;exact(h.1 hk).1
theorem FF.es{len:Nat}{u e:U}(h:FF len u)(he:e∈u.es):FF len e:=by rw[FF]at h;exact h.2 e he
structure iq(C:BC)(u:U):Prop where
 pl:∃pos f,f≤2∧Pl C.D.len u pos f∧bn C.T C.i f u
 ff:FF C.D.len u
theorem iq.part{C:BC}{u e:U}(h:iq C u)(he:e∈u.es):iq C e:=by
 obtain⟨pos,f,d,b,c⟩:=h.pl;obtain⟨j,a,rfl⟩:=List.getElem_of_mem he;exact⟨⟨_,_,fj,b.part j a,c.part j a⟩,h.ff.es he⟩
def cn(u:U):Nat:=1+(u.es.attach.map fun e=>cn e.1).sum
termination_by u.sz
decreasing_by exact U.ar e.2
def aZ(l:List U):Nat:=(l.map cn).sum
theorem dW(u:U):cn u=1+aZ u.es:=by
 rw[cn,aZ];congr 2;conv=>rhs;rw[←List.attach_map_subtype_val u.es,List.map_map]
 rfl
theorem gC{l:List U}{k:Nat}{e:U}(h:l[k]?=some e):aZ (l.take (k+1))=aZ (l.take k)+cn e:=by
 unfold aZ;rw[List.take_add_one,h];simp
theorem jK(l:List U)(k:Nat):aZ (l.take k)≤aZ l:=by
 have h:aZ (l.take k++l.drop k)=aZ (l.take k)+aZ (l.drop k):=by unfold aZ;rw[List.map_append,List.sum_append]
 rw[List.take_append_drop]at h;omega
theorem oY{u e:U}{k:Nat}(h:u.es[k]?=some e):aZ (u.es.take k)+cn e+1≤cn u:=by
 have h1:=gC h;have a:=jK u.es (k+1);have b:=dW u;omega
theorem mY{u e:U}(h:u.es= [e]):cn u=1+cn e:=by rw[dW,h];simp[aZ]
theorem EF{u d e:U}(h:u.es= [d,e]):cn u=1+cn d+cn e:=by rw[dW,h];simp[aZ];omega
theorem mZ(u:U):cn (aH u)≤cn u:=by
 unfold aH;split
 ·cases h:u.es with
  |nil=>simp
  |cons e r=>rw[dW u,h];simp[aZ];omega
 ·exact Nat.le_refl _
def bE(C:BC)(u:U)(p:Pm)(g:Ge)(mv:Value)(ms:List Nat)(w:World)(e:Ending)(f:World):Prop:=
 ∃x q d c a,e= .returned x∧Node q d u x∧BS C q d c a f∧aG C p g mv ms w q d a f∧(∀b,c.ownBlock=some b→mv.ownBlock=some b∨w.heap.size≤b)∧(u.k=12∨u.k=13→∃b,x=ah 202 b∧w.heap.size≤b)∧a.length≤ms.length+cn u
end TS
namespace Go.Proofs.YtkochlhejabdcaaGreatDoor
open Go.RowKit TS
def bX(C:BC)(u:U):Prop:=∀p g mv ms a c w,BS C p g mv ms w→ms.length+cn u≤1099511627776→ai C.pa C.D u a c→Xk 50 #[Xp C.bb,Xt u a c] w (bE C u p g mv ms w)
end Go.Proofs.YtkochlhejabdcaaGreatDoor
namespace Go.Proofs.YtkochlhejabdcaaGreatDoor
open Go.RowKit TS Tryz
theorem kE{C:BC}{u e:U}{a:Option Addr}{c:Nat}{w:World}(hu:ai C.pa C.D u a c)(hw:KW C.pa w)(he:u.es= [e]):∃eb eo a' c',a= .some (Xa eb eo)∧0<u.es.length∧ai C.pa C.D e a' c'∧(Xs w eb eo e a' c')∧eb<w.heap.size:=by
 have d:0<u.es.length:=by rw[he];simp
 obtain⟨eb,eo,rfl⟩:=hu.list.bg d;obtain⟨a',c',h7,b⟩:=hu.list.get 0 d;have f:u.es[0]=e:=by simp[he]
 rw[f]at h7 b;rw[Nat.zero_mul,Nat.add_zero]at h7;exact⟨eb,eo,a',c',rfl,d,b,h7.world hw,hw.lt h7.1⟩
theorem FW(C:BC)(u e:U)(hk:u.k=4)(he:u.es= [e])(L:bX C e):bX C u:=by
 intro p g mv ms a c w D M hu;have j:=zh (mY he);obtain⟨eb,eo,a',c',rfl,T,l,⟨z0,V,z2,z3,z4,z5,W⟩,N⟩:=kE hu D.ka he;have O:=kf 1 hk;have P:=kf 2 hk;have Q:=kf 3 hk;have R:=kt hk;have i:Below w w (w.alloc (Xt u (Xa eb eo) c)):=zB.alloc zl _;have m:=zh (L p g mv ms a' c' _ (D.below i) (by have:=j.out;omega) l);have n:=zh hk;have f:=zh i;have E:=zh he;clear hk hu l D i he;go_enter func50,ntmps50;go_wp2_with fail
 refine m.out.mono ?_;rintro X F ⟨x,q,J,G,H,rfl,I,d,r,s,_,S⟩;obtain⟨A,B,rfl⟩:=I.val;have t:=d.box #[Xi A B] 183;have v:=r.box d #[Xi A B] 183;have K:∀o,q F.heap.size o=none:=fun o=>d.wb.kw.aF zl o;have y:=I.sub (Pm.cK (cs:=#[Xi A B]) K) (aK.refl J);have z:Hid (bE C u p g mv ms w (.returned (Xi 146 F)) (F.alloc (.cells #[Xi A B] 183))):=
  ⟨_,_,J,G,H,rfl,.slice n.out E.out (by rw[Pm.aU];rfl) y,t,aG.ahead f.out v,fun b e=>(s b e).imp (fun h=>h) fun h=>Nat.le_trans f.out.size h,fun h=>(by have:=n.out;omega),by have:=j.out;omega⟩
 clear I d r s t v K y m;go_wp2_with fail
 refine(Az _ _ _).mono ?_;rintro Y Z ⟨rfl,rfl⟩;go_wp2_with fail
 go_ret;exact z.out
theorem FX(C:BC)(u e:U)(hk:u.k=6)(he:u.es= [e])(L:bX C e):bX C u:=by
 intro p g mv ms a c w D M hu;have j:=zh (mY he);obtain⟨eb,eo,a',c',rfl,V,l,⟨z0,W,z2,z3,z4,z5,X⟩,N⟩:=kE hu D.ka he;have O:=kf 1 hk;have P:=kf 2 hk;have Q:=kf 3 hk;have R:=kf 4 hk;have S:=kt hk;have i:Below w w (w.alloc (Xt u (Xa eb eo) c)):=zB.alloc zl _;have m:=zh (L p g mv ms a' c' _ (D.below i) (by have:=j.out;omega) l);have n:=zh hk;have f:=zh i;have E:=zh he;clear hk hu l D i he;go_enter func50,ntmps50;go_wp2_with fail
 refine m.out.mono ?_;rintro Y F ⟨x,q,J,G,H,rfl,I,d,r,s,_,T⟩;obtain⟨A,B,rfl⟩:=I.val;have t:=d.box #[Xi A B] 197;have v:=r.box d #[Xi A B] 197;have K:∀o,q F.heap.size o=none:=fun o=>d.wb.kw.aF zl o;have y:=I.sub (Pm.cK (cs:=#[Xi A B]) K) (aK.refl J);have z:Hid (bE C u p g mv ms w (.returned (Xi 148 F)) (F.alloc (.cells #[Xi A B] 197))):=
  ⟨_,_,J,G,H,rfl,.pointer n.out E.out (by rw[Pm.aU];rfl) y,t,aG.ahead f.out v,fun b e=>(s b e).imp (fun h=>h) fun h=>Nat.le_trans f.out.size h,fun h=>(by have:=n.out;omega),by have:=j.out;omega⟩
 clear I d r s t v K y m;go_wp2_with fail
 refine(uk _ _ _).mono ?_;rintro Z w2 ⟨rfl,rfl⟩;go_wp2_with fail
 go_ret;exact z.out
theorem jf{C:BC}{p q:Pm}{g i:Ge}{mv:Value}{ms a:List Nat}{w W c:World}(d:BS C p g mv ms w)(k:w.heap.size≤W.heap.size)(f:aG C p g mv ms W q i a c):(∀b o v,b<C.B0→Xc W b o v→Xc c b o v)∧∀b o v,w.heap.size≤b→Xc W b o v→Xc c b o v:=by
 refine⟨fun b o v j h=> ?_,fun b o v j h=> ?_⟩
 ·rw[f.kept.cell (zb h) fun e=>by have:=(d.ib (b:=b) (e.imp Eq.symm fun h=>h)).1;omega];exact h
 ·rw[f.kept.cell (zb h) fun e=>by have:=(d.ib (b:=b) (e.imp Eq.symm fun h=>h)).2.1;omega];exact h
theorem FY(C:BC)(u e:U)(hk:u.k=3)(he:u.es= [e])(hI:bX C e):bX C u:=by
 intro p g mv ms a c w m PG hu;have r:=zh (mY he);obtain⟨eb,eo,a',c',rfl,hl,s,⟨z0,z1,z2,z3,z4,z5,z6⟩,PH⟩:=kE hu m.ka he;have PI:=kf 1 hk;have PJ:=kf 2 hk;have PK:=kt hk;have j:Below w w ((w.alloc (Xt u (Xa eb eo) c)).drew):=(zB.alloc zl _).drew;have t:=zh (hI p g mv ms a' c' _ (m.below j) (by have:=r.out;omega) s);have J:eb<C.B0:=by
  obtain⟨a2,c2,h7,_⟩:=hu.list.get 0 hl;exact m.la _ _ _ h7.1
 have v:=zh hk;have f:=zh j;have L:=zh he;have M:=zh m;clear hk hu s m j he;go_enter func50,ntmps50;go_wp2_with fail
 refine oR (fun W=>(Xl W w u (Xa eb eo) c)∧(Xs W eb eo e a' c')) [(0,true),(1,true),(2,true),(3,true),(4,true),(6,true),(7,true),(5,false),(8,false),(9,true),(10,true)] (by(repeat' apply And.intro)<;>first|(simp[go_sem];done)|(go_keep;done)) (fun d=> ?_);repeat((first|refine oS ?_|refine oF d ?_);try simp only[Act.put,oa,ob,oc])
 refine oL fun K y=> ?_;go_simp;go_at_call 50
 refine t.out.mono ?_;rintro e1 N ⟨x,q,R,O,P,rfl,Q,i,l,z,_,PL⟩;obtain⟨H,I,rfl⟩:=Q.val;obtain⟨A,B⟩:=jf M.out f.out.size l;obtain⟨⟨S,s1,s2,T,V,X,Y⟩,Z,r1,r2,r3,r4,r5,r6⟩:=d;(try simp only[]);refine y _ _ (by(repeat' apply And.intro)<;>first|exact B _ _ _ zl za|exact A _ _ _ J za) fun d=> ?_;clear y K;try simp only[Act.put,oa,ob,oc]
 have D:=i.box #[.int .i64 u.n,Xi H I] 180;have E:=l.box i #[.int .i64 u.n,Xi H I] 180;have hd:∀o,q N.heap.size o=none:=fun o=>i.wb.kw.aF zl o;have F:=Q.sub (Pm.cK (cs:=#[.int .i64 u.n,Xi H I]) hd) (aK.refl R);have G:Hid (bE C u p g mv ms w (.returned (Xi 144 N)) (N.alloc (.cells #[.int .i64 u.n,Xi H I] 180))):=
  ⟨_,_,R,O,P,rfl,.array v.out L.out (by rw[Pm.aU];rfl) (by rw[Pm.aU];rfl) F,D,aG.ahead f.out E,fun b e=>(z b e).imp (fun h=>h) fun h=>Nat.le_trans f.out.size h,fun h=>(by have:=v.out;omega),by have:=r.out;omega⟩
 clear Q i l z D E hd F t S s1 s2 T V X Y Z r1 r2 r3 r4 r5 r6;repeat((first|refine oS ?_|refine oF d ?_);try simp only[Act.put,oa,ob,oc])
 refine oL fun K y=> ?_;go_simp;go_at_call 101
 refine(AA _ _ _ _).mono ?_;rintro e2 w2 ⟨rfl,rfl⟩;obtain⟨⟨S,s1,s2,T,V,X,Y⟩,Z,r1,r2,r3,r4,r5,r6⟩:=d;(try simp only[]);refine y _ _ (by(repeat' apply And.intro)<;>exact az (zB.alloc zl _) za) fun d=> ?_;clear y K;try simp only[Act.put,oa,ob,oc]
 repeat((first|refine oS ?_|refine oF d ?_);try simp only[Act.put,oa,ob,oc])
 refine bZ ?_;clear d;go_wp2_with fail
 go_ret;exact G.out
theorem FZ(n:Int)(w:World):Xk 106 #[.int .i64 n] w fun e a=>e= .returned (.int .i64 (gi n))∧w=a:=AG n w
theorem F3(C:BC)(u e:U)(hk:u.k=9)(he:u.es= [e])(hI:bX C e):bX C u:=by
 intro p g mv ms a c w r PG hu;have s:=zh (mY he);obtain⟨eb,eo,a',c',rfl,hl,t,⟨z0,z1,z2,z3,z4,z5,z6⟩,PH⟩:=kE hu r.ka he;have PI:=kf 1 hk;have PJ:=kf 2 hk;have PK:=kf 3 hk;have PL:=kf 4 hk;have PM:=kf 6 hk;have PN:=kf 8 hk;have PO:=kt hk;have l:Below w w ((w.alloc (Xt u (Xa eb eo) c)).drew):=(zB.alloc zl _).drew;have v:=zh (hI p g mv ms a' c' _ (r.below l) (by have:=s.out;omega) t);have J:eb<C.B0:=by
  obtain⟨a2,c2,h7,_⟩:=hu.list.get 0 hl;exact r.la _ _ _ h7.1
 have y:=zh hk;have f:=zh l;have L:=zh he;have M:=zh r;clear hk hu t r l he;go_enter func50,ntmps50;go_wp2_with fail
 refine oR (fun W=>(Xl W w u (Xa eb eo) c)∧(Xs W eb eo e a' c')) [(0,true),(1,true),(3,true),(4,true),(5,true),(6,true),(7,true),(2,false),(8,false),(9,false),(10,true),(11,true)] (by(repeat' apply And.intro)<;>first|(simp[go_sem];done)|(go_keep;done)) (fun d=> ?_);repeat((first|refine oS ?_|refine oF d ?_);try simp only[Act.put,oa,ob,oc])
 refine oL fun K j=> ?_;go_simp;go_at_call 106
 refine(FZ u.n _).mono ?_;rintro e0 w0 ⟨rfl,rfl⟩;(try simp only[]);refine j _ _ (d) fun d=> ?_;clear j K;try simp only[Act.put,oa,ob,oc]
 repeat((first|refine oS ?_|refine oF d ?_);try simp only[Act.put,oa,ob,oc])
 refine oL fun K j=> ?_;go_simp;go_at_call 50
 refine v.out.mono ?_;rintro e1 N ⟨x,q,R,O,P,rfl,Q,i,m,z,_,PQ⟩;obtain⟨H,I,rfl⟩:=Q.val;obtain⟨A,B⟩:=jf M.out f.out.size m;obtain⟨⟨S,s1,s2,T,V,X,Y⟩,Z,r1,r2,r3,r4,r5,r6⟩:=d;(try simp only[]);refine j _ _ (by(repeat' apply And.intro)<;>first|exact B _ _ _ zl za|exact A _ _ _ J za) fun d=> ?_;clear j K;try simp only[Act.put,oa,ob,oc]
 have D:=i.box #[.int .i64 (gi u.n),Xi H I] 218;have E:=m.box i #[.int .i64 (gi u.n),Xi H I] 218;have hd:∀o,q N.heap.size o=none:=fun o=>i.wb.kw.aF zl o;have F:=Q.sub (Pm.cK (cs:=#[.int .i64 (gi u.n),Xi H I]) hd) (aK.refl R);have G:Hid (bE C u p g mv ms w (.returned (Xi 152 N)) (N.alloc (.cells #[.int .i64 (gi u.n),Xi H I] 218))):=
  ⟨_,_,R,O,P,rfl,.chan y.out L.out (by rw[Pm.aU];rfl) (by rw[Pm.aU];rfl) F,D,aG.ahead f.out E,fun b e=>(z b e).imp (fun h=>h) fun h=>Nat.le_trans f.out.size h,fun h=>(by have:=y.out;omega),by have:=s.out;omega⟩
 clear Q i m z D E hd F v S s1 s2 T V X Y Z r1 r2 r3 r4 r5 r6;repeat((first|refine oS ?_|refine oF d ?_);try simp only[Act.put,oa,ob,oc])
 refine oL fun K j=> ?_;go_simp;go_at_call 105
 refine(AD _ _ _ _).mono ?_;rintro e2 w2 ⟨rfl,rfl⟩;obtain⟨⟨S,s1,s2,T,V,X,Y⟩,Z,r1,r2,r3,r4,r5,r6⟩:=d;(try simp only[]);refine j _ _ (by(repeat' apply And.intro)<;>exact az (zB.alloc zl _) za) fun d=> ?_;clear j K;try simp only[Act.put,oa,ob,oc]
 repeat((first|refine oS ?_|refine oF d ?_);try simp only[Act.put,oa,ob,oc])
 refine bZ ?_;clear d;go_wp2_with fail
 go_ret;exact G.out
theorem F5{C:BC}{u d e:U}{a:Option Addr}{c:Nat}{w:World}(hu:ai C.pa C.D u a c)(hw:KW C.pa w)(he:u.es= [d,e]):∃eb eo a' c' a2 c2,a= .some (Xa eb eo)∧1<u.es.length∧ai C.pa C.D d a' c'∧ai C.pa C.D e a2 c2∧(Xs w eb eo d a' c')∧(Xc w eb (eo+7) (.int .i64 e.k)∧Xc w eb (eo+8) (.int .i64 e.n)∧Xc w eb (eo+9) (.int .i64 e.m)∧Xc w eb (eo+10) (.bool e.v)∧Xc w eb (eo+11) (.string e.nm)∧Xc w eb (eo+12) (.string e.tg)∧Xc w eb (eo+13) (.slice a2 e.es.length c2))∧eb<w.heap.size∧∃v,C.pa eb eo=some v:=by
 have i:1<u.es.length:=by rw[he];simp
 obtain⟨eb,eo,rfl⟩:=hu.list.bg zo;obtain⟨a',c',h7,b⟩:=hu.list.get 0 zo;obtain⟨a2,c2,g,f⟩:=hu.list.get 1 i;have j:u.es[0]=d:=by simp[he]
 have h:u.es[1]=e:=by simp[he]
 rw[j]at h7 b;rw[h]at g f;rw[Nat.zero_mul,Nat.add_zero]at h7;rw[Nat.one_mul]at g;exact⟨eb,eo,a',c',a2,c2,rfl,i,b,f,h7.world hw,g.world hw,hw.lt h7.1,_,h7.1⟩
theorem F6(C:BC)(u d e:U)(hk:u.k=8)(he:u.es= [d,e])(hI:bX C d)(hJ:bX C e):bX C u:=by
 intro p g mv ms a c w J PQ hu;have D:=zh (EF he);obtain⟨eb,eo,a',c',a2,c2,rfl,hl,L,M,⟨z0,z1,z2,z3,z4,z5,z6⟩,⟨y0,y1,y2,y3,y4,y5,y6⟩,PR,_,hv⟩:=F5 hu J.ka he;have PS:=kf 1 hk;have PT:=kf 2 hk;have PU:=kf 3 hk;have PW:=kf 4 hk;have PX:=kf 6 hk;have PY:=kt hk;have PZ:0<u.es.length:=zo;have P0:(1:Int)<(u.es.length:Int):=zo;have E:Below w w ((w.alloc (Xt u (Xa eb eo) c)).drew):=(zB.alloc zl _).drew;have N:=zh (hI p g mv ms a' c' _ (J.below E) (by have:=D.out;omega) L);have O:eb<C.B0:=J.la _ _ _ hv;have P:=zh hk;have s:=zh E;have PH:=zh he;have F:=zh J;have PI:=zh hJ;have Q:=zh M;clear hk hu L J E he hI hJ M hv;go_enter func50,ntmps50;go_wp2_with fail
 refine oR (fun W=>(Xl W w u (Xa eb eo) c)∧(Xs W eb eo d a' c')∧(Xc W eb (eo+7) (.int .i64 e.k)∧Xc W eb (eo+8) (.int .i64 e.n)∧Xc W eb (eo+9) (.int .i64 e.m)∧Xc W eb (eo+10) (.bool e.v)∧Xc W eb (eo+11) (.string e.nm)∧Xc W eb (eo+12) (.string e.tg)∧Xc W eb (eo+13) (.slice a2 e.es.length c2))) [(0,true),(1,true),(2,true),(3,true),(4,true),(6,true),(7,true),(8,true),(9,true),(10,true),(5,false),(11,false),(12,false),(13,true),(14,true)] (by(repeat' apply And.intro)<;>first|(simp[go_sem];done)|(go_keep;done)) (fun f=> ?_);repeat((first|refine oS ?_|refine oF f ?_);try simp only[Act.put,oa,ob,oc])
 refine oL fun K B=> ?_;go_simp;go_at_call 50
 refine N.out.mono ?_;rintro e1 w1 ⟨x,q,g',PJ,PK,rfl,hn,G,z,R,_,P1⟩;obtain⟨xt,xb,rfl⟩:=hn.val;obtain⟨i,j⟩:=jf F.out s.out.size z;obtain⟨⟨s0,s1,s2,s3,s4,s5,s6⟩,⟨r0,r1,r2,r3,r4,r5,r6⟩,q0,q1,q2,q3,q4,q5,q6⟩:=f;(try simp only[]);refine B _ _ (by(repeat' apply And.intro)<;>first|exact j _ _ _ zl za|exact i _ _ _ O za) fun f=> ?_;clear B K;try simp only[Act.put,oa,ob,oc]
 have S:=zh (PI.out q g' PJ PK a2 c2 w1 G (by have:=D.out;omega) Q.out);have P2:=z.size;have PL:=zh hn;have T:=zh G;have V:=zh z;have t:=zh R;clear hn G z R N i j s0 s1 s2 s3 s4 s5 s6 r0 r1 r2 r3 r4 r5 r6 q0 q1 q2 q3 q4 q5 q6;repeat((first|refine oS ?_|refine oF f ?_);try simp only[Act.put,oa,ob,oc])
 refine oL fun K B=> ?_;go_simp;go_at_call 50
 refine S.out.mono ?_;rintro e2 w2 ⟨y,r,g2,PM,PN,rfl,H,A,l,X,_,P3⟩;obtain⟨yt,yb,rfl⟩:=H.val;have PO:=s.out.size;obtain⟨i,_⟩:=jf T.out zl l;have j:∀o v,Xc w1 w o v→Xc w2 w o v:=fun o v h=>by
  rw[l.kept.cell (zb h) fun e=> ?_]
  ·exact h
  ·have h1:=(F.out.ib (b:=C.bb) (.inl rfl)).2.1
   rcases e with(e:w.heap.size=C.bb)|e
   ·omega
   ·rcases t.out _ e with e|e
    ·have:=(F.out.ib (b:=w.heap.size) (.inr e)).2.1;omega
    ·have:w.heap.size+1≤w.heap.size:=by simpa using e
     omega
 obtain⟨⟨s0,s1,s2,s3,s4,s5,s6⟩,⟨r0,r1,r2,r3,r4,r5,r6⟩,q0,q1,q2,q3,q4,q5,q6⟩:=f;(try simp only[]);refine B _ _ (by(repeat' apply And.intro)<;>first|exact j _ _ za|exact i _ _ _ O za) fun f=> ?_;clear B K;try simp only[Act.put,oa,ob,oc]
 have hT:=V.out.trans l t.out;have Y:=A.box #[Xi xt xb,Xi yt yb] 215;have Z:=hT.box A #[Xi xt xb,Xi yt yb] 215;have hd:∀o,r w2.heap.size o=none:=fun o=>A.wb.kw.aF zl o;have I:=Pm.cK (cs:=#[Xi xt xb,Xi yt yb]) hd;have PG:Hid (bE C u p g mv ms w (.returned (Xi 150 w2)) (w2.alloc (.cells #[Xi xt xb,Xi yt yb] 215))):=
  ⟨_,_,g2,PM,PN,rfl,.map P.out PH.out (by rw[Pm.aU];rfl) (by rw[Pm.aU];rfl) ((PL.out.sub l.gr.le l.gs).sub I (aK.refl _)) (H.sub I (aK.refl _)),Y,aG.ahead s.out Z,fun b e=>by
   rcases X b e with e|e
   ·exact(t.out b e).imp (fun h=>h) fun h=>Nat.le_trans PO h
   ·exact .inr zo,fun h=>(by have:=P.out;omega),by have:=D.out;omega⟩
 clear H A l X hT Y Z hd I S i j s0 s1 s2 s3 s4 s5 s6 r0 r1 r2 r3 r4 r5 r6 q0 q1 q2 q3 q4 q5 q6;repeat((first|refine oS ?_|refine oF f ?_);try simp only[Act.put,oa,ob,oc])
 refine oL fun K B=> ?_;go_simp;go_at_call 104
 refine(AB _ _ _ _ _).mono ?_;rintro e2 w3 ⟨rfl,rfl⟩;obtain⟨⟨s0,s1,s2,s3,s4,s5,s6⟩,⟨r0,r1,r2,r3,r4,r5,r6⟩,q0,q1,q2,q3,q4,q5,q6⟩:=f;(try simp only[]);refine B _ _ (by(repeat' apply And.intro)<;>exact az (zB.alloc zl _) za) fun f=> ?_;clear B K;try simp only[Act.put,oa,ob,oc]
 repeat((first|refine oS ?_|refine oF f ?_);try simp only[Act.put,oa,ob,oc])
 refine bZ ?_;clear f;go_wp2_with fail
 go_ret;exact PG.out
theorem F7(C:BC)(u:U)(hk:u.k=11)(hT:iq C u):bX C u:=by
 intro p g mv ms a c w j I hu;have J:=kf 1 hk;have K:=kf 2 hk;have L:=kf 3 hk;have M:=kf 4 hk;have N:=kf 6 hk;have O:=kf 8 hk;have P:=kf 9 hk;have Q:=kf 5 hk;have R:=kf 7 hk;have F:=kt hk;obtain⟨pos,f,V,v,G⟩:=hT.pl;have o:=(v.form.ji hk).1.1;have S:=(v.form.ji hk).1.2;have i:=G.named hk;have l:∀m,Below w w ((w.alloc (Xt u a c)).drewN m):=fun m=>sj (zB.alloc zl _) m;obtain⟨h1,hr⟩:=j.c1;have hlen:=j.len;have d:u.n.toNat<g.len:=zo;obtain⟨W,T,q,r⟩:=hr u.n.toNat d;rw[q]at h1;clear q;have d1:=j.wb.kw _ _ _ r;have y:=zb h1;have z:=zb d1;simp only at y z;have H:u.n<(g.len:Int):=zo;have s:TS.Node p g u (ah 60 (g.nb u.n.toNat)):=by
  split at i
  ·exact .iC hk o d i (j.nm _ d)
  ·obtain⟨A,hi,B⟩:=i
   obtain⟨x,D,E⟩:=j.tn _ A hi;exact .named hk o d B (j.nm _ d) D E
 have t:Hid (∀m,bE C u p g mv ms w (.returned (Xi 60 (g.nb u.n.toNat))) ((w.alloc (Xt u a c)).drewN m)):=fun m=>
  ⟨_,p,g,mv,ms,rfl,s,j.below (l m),aG.ahead (l m) (aG.refl _ _ _ _ _ _),fun b e=> .inl e,fun h=>zo,by omega⟩
 clear s i G v hT hu j l hr r hk hlen;go_enter func50,ntmps50;go_wp2_with fail
 go_quiet (fail)
 go_wp2_with fail
 go_ret;exact t.out _
theorem F8(C:BC)(u:U)(hk:u.k=15)(hT:iq C u):bX C u:=by
 intro p g mv ms a c w n z hu;have A:=kf 1 hk;have B:=kf 2 hk;have D:=kf 3 hk;have E:=kf 4 hk;have F:=kf 6 hk;have G:=kf 8 hk;have H:=kf 9 hk;have I:=kf 5 hk;have J:=kf 7 hk;have r:=kf 11 hk;have s:=kf 12 hk;have t:=kf 13 hk;have v:=kt hk;obtain⟨pos,f,M,K,y⟩:=hT.pl;have i:=y.err hk;have d:Below w w (w.alloc (Xt u a c)):=zB.alloc zl _;have j:=n.below d;have o:=n.c2;have q:=zb o;simp only at q;have l:TS.Node p g u (ah 60 g.eb):=let⟨h1,x,o,L⟩:=n.err; .err hk i h1 o L;have m:Hid (bE C u p g mv ms w (.returned (Xi 60 g.eb)) (w.alloc (Xt u a c))):=
  ⟨_,p,g,mv,ms,rfl,l,j,aG.ahead d (aG.refl _ _ _ _ _ _),fun b e=> .inl e,fun h=>zo,by omega⟩
 clear l j y K hT hu n d hk i;go_enter func50,ntmps50;go_wp2_with fail
 go_ret;exact m.out
theorem F9(C:BC)(u:U)(hk:u.k=16):bX C u:=by
 intro p g mv ms a c w l v hu;have x:=kf 1 hk;have y:=kf 2 hk;have z:=kf 3 hk;have A:=kf 4 hk;have B:=kf 6 hk;have D:=kf 8 hk;have E:=kf 9 hk;have F:=kf 5 hk;have G:=kf 7 hk;have o:=kf 11 hk;have q:=kf 12 hk;have r:=kf 13 hk;have s:=kf 15 hk;have t:=kt hk;have d:Below w w (w.alloc (Xt u a c)):=zB.alloc zl _;have f:=l.below d;have m:=l.c3;have n:=zb m;simp only at n;have i:TS.Node p g u (ah 60 g.cb):=let⟨h1,b,m,H⟩:=l.cmp; .comp hk h1 m H;have j:Hid (bE C u p g mv ms w (.returned (Xi 60 g.cb)) (w.alloc (Xt u a c))):=
  ⟨_,p,g,mv,ms,rfl,i,f,aG.ahead d (aG.refl _ _ _ _ _ _),fun b e=> .inl e,fun h=>zo,by omega⟩
 clear i f hu l d hk;go_enter func50,ntmps50;go_wp2_with fail
 go_ret;exact j.out
end Go.Proofs.YtkochlhejabdcaaGreatDoor
namespace TS
open Go Go.RowKit Go.Proofs.YtkochlhejabdcaaGreatDoor Go.Proofs.Tryz
theorem AC.world{p:Pm}{x y:Value}(h:AC p x y){w:World}(hw:KW p w):∃b t c,x=ah 142 b∧y=ah t c∧t≠142∧iG w 142 t (Xa c 0) b:=by
 induction h with
 | @last b t c h1 a d=>exact⟨b,t,c,rfl,rfl,h1,.last (hw _ _ _ a)⟩
 | @next b c y h1 a d _ ih=>
   obtain⟨j,t,c',e,f,g,i⟩:=ih;cases e;exact⟨b,t,c',rfl,f,g,.next (hw _ _ _ h1) a i⟩
theorem WB.put{p:Pm}{w:World}{b o:Nat}{v:Value}(h:WB p w)(f:Xc w b o v)(g:Plain w b):WB (p.put b o v) w where
 kw:=fun c d x a=>by
  by_cases e:c=b∧d=o
  ·obtain⟨rfl,rfl⟩:=e;rw[Pm.fT]at a;cases a;exact f
  ·rw[Pm.ba _ _ e]at a;exact h.kw _ _ _ a
 pl:=fun c d x a=>by
  by_cases e:c=b∧d=o
  ·obtain⟨rfl,rfl⟩:=e;exact g
  ·rw[Pm.ba _ _ e]at a;exact h.pl _ _ _ a
 cap:=h.cap
theorem Pm.eH{p:Pm}{b o n:Nat}{v:Value}(h:p b o=none)(f:n≤b):aN p (p.put b o v) n:=
 ⟨Pm.fU v h,fun c d x a=>by
  by_cases e:c=b∧d=o
  ·exact .inr zo
  ·rw[Pm.ba _ _ e]at a;exact .inl a⟩
theorem F_{p:Pm}{g:Ge}{u:U}{x:Value}(h:Node p g u x)(e:u.k≠12∧u.k≠13):∃t c y,x=ah t c∧Node p g (bare u) y∧((t≠142∧y=ah t c)∨AC p (ah t c) y):=by
 by_cases f:u.k=2
 ·cases h with
  |alias _ ha i=>
   obtain⟨b,rfl⟩:∃b,x=ah 142 b:=by cases ha<;>exact⟨_,rfl⟩
   exact⟨_,_,_,rfl,i,.inr ha⟩
  |_=>omega
 ·by_cases a:u.k=14
  ·rw[gI a]
   cases h with
   |any _ d=>
    obtain⟨b,rfl,_⟩:=d.iY rfl;exact⟨_,_,_,rfl,d,.inl ⟨by decide,rfl⟩⟩
   |_=>omega
  ·rw[bR f a]
   have j:=h;cases h with
   |alias|any|union=>omega
   |_=>exact⟨_,_,_,rfl,j,.inl ⟨by decide,rfl⟩⟩
end TS
namespace Go.Proofs.YtkochlhejabdcaaGreatDoor
open Go.RowKit TS Tryz
theorem Ga(a:Nat)(t c:Nat)(y:Value)(p:Pm)(w:World)(hw:KW p w)(h:(t≠142∧y=ah t c)∨AC p (ah t c) y)(g:a<w.heap.size)(i:Xc w a 3 .nilIface)(j:w.frozen? (Xa a 3)=false):
 Xk 100 #[Xp a,ah t c] w fun e k=>e= .returned (Xp w)∧
  k=(w.setCell (Xa a 3) (ah 142 w.heap.size)).alloc (.cells (iH (Xa a 0) (Xa w 0) (ah t c) y) 284):=by
 rcases h with⟨h,rfl⟩|h
 ·exact A6 a t _ h w g i j
 ·obtain⟨b,t',c',l,rfl,m,d⟩:=h.world hw
  cases l;have f:c<w.heap.size:=by cases d<;>exact zb ‹_›
  exact A7 a c t' _ m w g i j f d
theorem Gb(C:BC)(u e:U)(hk:u.k=2)(he:u.es= [e])(hT:iq C e)(PS:e.k≠12∧e.k≠13)(hI:bX C e):bX C u:=by
 intro p g mv ms a c w M P2 hu;have O:=zh (mY he);obtain⟨eb,eo,a',c',rfl,hl,P,⟨z0,z1,z2,z3,z4,z5,z6⟩,Q⟩:=kE hu M.ka he;have P3:=kf 1 hk;have D:=kt hk;have j:Below w w ((w.alloc (Xt u (Xa eb eo) c)).drew):=(zB.alloc zl _).drew;have E:Below w w (((w.alloc (Xt u (Xa eb eo) c)).drew).alloc (.cells #[.int .i64 0,ptr g.pk,.string ⟨#[65]⟩,.nilIface] 134)):=j.alloc zs _;have F:(((w.alloc (Xt u (Xa eb eo) c)).drew).alloc (.cells #[.int .i64 0,ptr g.pk,.string ⟨#[65]⟩,.nilIface] 134)).heap[w.heap.size+1]?=some (.cells #[.int .i64 0,ptr g.pk,.string ⟨#[65]⟩,.nilIface] 134 (0,0)):=cA zs;have R:(((w.alloc (Xt u (Xa eb eo) c)).drew).alloc (.cells #[.int .i64 0,ptr g.pk,.string ⟨#[65]⟩,.nilIface] 134)).heap.size=w.heap.size+2:=zs;have PT:=zh (show(((w.alloc (Xt u (Xa eb eo) c)).drew).alloc (.cells #[.int .i64 0,ptr g.pk,.string ⟨#[65]⟩,.nilIface] 134)).cell? (Xa (w+1) 3)=some .nilIface by simp only[World.cell?,F];rfl);have PU:=zh (show(((w.alloc (Xt u (Xa eb eo) c)).drew).alloc (.cells #[.int .i64 0,ptr g.pk,.string ⟨#[65]⟩,.nilIface] 134)).frozen? (Xa (w+1) 3)=false by simp only[World.frozen?,F];rfl);have S:=zh R;clear F R;have T:=zh (hI p g mv ms a' c' _ (M.below E) (by have:=O.out;omega) P);have PW:eb<C.B0:=by
  obtain⟨a2,c2,h7,_⟩:=hu.list.get 0 hl;exact M.la _ _ _ h7.1
 have V:Xc ((w.alloc (Xt u (Xa eb eo) c)).drew) C.bb 0 (ptr g.pk):=az j M.c0;have G:=zh hk;have l:=zh E;have Y:=zh V;have PX:=zh he;have m:=zh M;have P4:=zh hT;clear hk hu P M E j he V hT hI;go_enter func50,ntmps50;go_wp2_with fail
 refine oR (fun W=>(Xl W w u (Xa eb eo) c)∧(Xs W eb eo e a' c')) [(0,true),(2,true),(3,true),(4,true),(5,true),(6,true),(1,false),(7,false),(8,false),(9,true),(10,true)] (by(repeat' apply And.intro)<;>first|(simp[go_sem];done)|(go_keep;done)) (fun f=> ?_);repeat((first|refine oS ?_|refine oF f ?_);try simp only[Act.put,oa,ob,oc])
 refine oL fun K z=> ?_;go_simp;go_at_call 48
 refine(uD C.bb (Xa g.pk 0) _ _ Y.out).mono ?_;rintro e0 w0 ⟨rfl,rfl⟩;obtain⟨⟨Z,s1,s2,s3,s4,s5,s6⟩,r0,r1,r2,r3,r4,r5,r6⟩:=f;(try simp only[]);refine z _ _ (by(repeat' apply And.intro)<;>exact az (zB.alloc zl _) za) fun f=> ?_;clear z K;try simp only[Act.put,oa,ob,oc]
 clear Z s1 s2 s3 s4 s5 s6 r0 r1 r2 r3 r4 r5 r6;repeat((first|refine oS ?_|refine oF f ?_);try simp only[Act.put,oa,ob,oc])
 refine oL fun K z=> ?_;go_simp;go_at_call 50
 refine T.out.mono ?_;rintro e1 d ⟨x,q,g',PG,PY,rfl,hn,i,n,H,_,P5⟩;obtain⟨I,A,y,rfl,PH,N⟩:=F_ hn PS;obtain⟨B,r⟩:=jf m.out l.out.size n;have hz:=S.out;have PI:Xc d (w+1) 3 .nilIface:=r _ _ _ zo PT.out;have PJ:=zb PI;simp only at PJ;have PZ:d.frozen? (Xa (w+1) 3)=false:=by
  rw[n.kept.frozen zo fun e=>by have:=(m.out.ib (b:=w.heap.size+1) (e.imp Eq.symm fun h=>h)).2.1;omega];exact PU.out
 have PK:∀o,q (w.heap.size+1) o=none:=n.gr.aF zo fun o=>m.out.wb.kw.aF zo o;have hX:∀b,b=w.heap.size+1→C.B0≤b∧(∀o,q b o=none)∧b≠C.bb∧PG.ownBlock≠some b:=by
  rintro _ rfl;have h1:=(m.out.ib (b:=C.bb) (.inl rfl))
  refine⟨by omega,PK,by omega,fun e=> ?_⟩;rcases H _ e with e|e
  ·have:=(m.out.ib (b:=w.heap.size+1) (.inr e)).2.1;omega
  ·omega
 have s:Kept (fun b=>b=w.heap.size+1) d (d.setCell (Xa (w+1) 3) (ah 142 d.heap.size)):=Kept.setCell (X:=fun b=>b=w.heap.size+1) (Kept.refl _ _) (fun _=>rfl) _;obtain⟨⟨Z,s1,s2,s3,s4,s5,s6⟩,r0,r1,r2,r3,r4,r5,r6⟩:=f;have PL:(Xl d w u (Xa eb eo) c)∧(Xs d eb eo e a' c'):=by(repeat' apply And.intro)<;>first|exact r _ _ _ zl za|exact B _ _ _ PW za
 (try simp only[]);refine z _ _ (PL) fun f=> ?_;clear z K;try simp only[Act.put,oa,ob,oc]
 clear B r Z s1 s2 s3 s4 s5 s6 r0 r1 r2 r3 r4 r5 r6;have J:=(i.own s hX).box (iH (Xa (w+1) 0) (Xa d 0) (ah I A) y) 284;have L:=(aG.ahead l.out n|>.own s fun b e=>by subst e;omega).box (i.own s hX) (iH (Xa (w+1) 0) (Xa d 0) (ah I A) y) 284;have PM:(d.setCell (Xa (w+1) 3) (ah 142 d.heap.size)).heap.size=d.heap.size:=zs;rw[PM]at J L;have hd:∀o,q d.heap.size o=none:=fun o=>i.wb.kw.aF zl o;have t:=Pm.cK (cs:=iH (Xa (w+1) 0) (Xa d 0) (ah I A) y) hd;have PN:AC (q.add d.heap.size (iH (Xa (w+1) 0) (Xa d 0) (ah I A) y)) (ah 142 d.heap.size) y:=by
  rcases N with⟨ht,rfl⟩|N
  ·exact .last ht (by rw[Pm.aU];rfl) (by rw[Pm.aU];rfl)
  ·have Q:A<d.heap.size:=by cases N<;>exact i.wb.kw.lt ‹_›
   obtain⟨_,_,_,e1,_⟩:=N.world i.wb.kw;cases e1;exact .next (by rw[Pm.aU];rfl) Q (by rw[Pm.aU];rfl) (N.sub t)
 have PO:bare u=bare e:=jU G.out PX.out;have PQ:Hid (bE C u p g mv ms w (.returned (Xi 142 d)) ((d.setCell (Xa (w+1) 3) (ah 142 d.heap.size)).alloc (.cells (iH (Xa (w+1) 0) (Xa d 0) (ah I A) y) 284))):=
  ⟨_,_,g',PG,PY,rfl,.alias G.out PN (by rw[PO];exact PH.sub t (aK.refl _)),J,L,fun b e=>(H b e).imp (fun h=>h) fun h=>Nat.le_trans l.out.size h,fun h=>(by have:=G.out;omega),by have:=O.out;omega⟩
 have P0:=i.wb.kw;have D:Hid (∀b o v,b≠w.heap.size+1→Xc d b o v→Xc ((d.setCell (Xa (w+1) 3) (ah 142 d.heap.size)).alloc (.cells (iH (Xa (w+1) 0) (Xa d 0) (ah I A) y) 284)) b o v):=fun b o v hb h=>by
  rw[(s.alloc _).cell (zb h) hb];exact h
 have P1:w.heap.size≠w.heap.size+1:=zo;have PR:eb≠w.heap.size+1:=zo;clear hn i n H J L hd t PN PO PH T hX s PM PK PL;repeat((first|refine oS ?_|refine oF f ?_);try simp only[Act.put,oa,ob,oc])
 refine oL fun K z=> ?_;go_simp;go_at_call 100
 refine(Ga (w.heap.size+1) I A y q _ P0 N PJ PI PZ).mono ?_;rintro e2 w2 ⟨rfl,rfl⟩;obtain⟨⟨Z,s1,s2,s3,s4,s5,s6⟩,r0,r1,r2,r3,r4,r5,r6⟩:=f;(try simp only[]);refine z _ _ (by(repeat' apply And.intro)<;>first|exact D.out _ _ _ P1 za|exact D.out _ _ _ PR za) fun f=> ?_;clear z K;try simp only[Act.put,oa,ob,oc]
 clear Z s1 s2 s3 s4 s5 s6 r0 r1 r2 r3 r4 r5 r6;repeat((first|refine oS ?_|refine oF f ?_);try simp only[Act.put,oa,ob,oc])
 refine bZ ?_;clear f;go_wp2_with fail
 go_ret;exact PQ.out
theorem Gc(C:BC)(u:U)(hk:u.k=1)(t:0≤u.n∧u.n<18):bX C u:=by
 intro p g mv ms a c w x B hu;have D:=kt hk;have f:Below w w (w.alloc (Xt u a c)):=zB.alloc zl _;have i:=zh (x.below f);have l:=zh hk;have j:=zh t;have m:=zh f;have hw:(1+u.n) % 18446744073709551616=1+u.n:=zo;have E:¬(9223372036854775808≤1+u.n):=zo;clear hu x f hk t;go_enter func50,ntmps50;go_wp2_with fail
 rw[show 1+u.n=((u.n+1).toNat:Int) by have:=j.out;omega];refine(uC (u.n+1).toNat (by have:=j.out;omega) _).mono ?_;rintro e F ⟨b,rfl,aa,r,y,d,z⟩;have A:∀o,p b o=none:=fun o=>i.out.wb.kw.aF aa o;have s:=Pm.eH (v:= .int .i64 ((u.n+1).toNat:Int)) (o:=0) (A 0) aa;have q:Hid (bE C u p g mv ms w (.returned (Xi 105 b)) F):=
  ⟨_,_,g,mv,ms,rfl,.basic l.out (by rw[Pm.fT,show(((u.n+1).toNat:Nat):Int)=u.n+1 by have:=j.out;omega]),i.out.grow d s ((i.out.wb.below d).put y z),aG.ahead m.out ((aG.refl _ _ _ _ _ _).grow d s),fun b e=> .inl e,fun h=>(by have:=l.out;omega),by omega⟩
 clear aa r y d z A s;go_wp2_with fail
 go_ret;exact q.out
end Go.Proofs.YtkochlhejabdcaaGreatDoor
namespace TS
open Go Go.RowKit Go.Proofs.YtkochlhejabdcaaGreatDoor Go.Proofs.Tryz
theorem xn{p:Pm}{B:Nat}{w:World}{e:TypeId}{v:Value}{xs:List Value}(l:WB p w)(h:w.ownsRow B e 1 v xs.length xs)(n:∀b,v.ownBlock=some b→∀o,p b o=none):
 ∃q a c,v= .slice a xs.length c∧aN p q B∧WB q w∧cd q a xs.length (fun i=>xs.getD i undef)∧(∀b,v.ownBlock≠some b→∀o,q b o=p b o)∧xs.length≤c∧(a=none→c=0)∧∀x,a=some x→x.spot=none:=by
 rcases h.2 with⟨j,s⟩|⟨b,cap,cur,j,t,u,y,m,z,d⟩
 ·exact⟨p,none,0,by rw[j,s],aN.refl _ _,l,fun i hi=>by omega,fun _ _ _=>rfl,by omega,fun _=>rfl,fun x h=>(by cases h)⟩
 ·have k:=n b (by rw[j];rfl)
  have f:∀i,i<xs.length→cur[i]?=some (xs.getD i undef):=fun i hi=>by
   have:(cur.toList.take (xs.length*1))[i]?=some (xs.getD i undef):=by rw[d];simp[hi]
   rw[List.getElem?_take,if_pos zo]at this;simpa using this
  refine⟨p.add b cur,.some (Xa b 0),cap,j,Pm.du k t,l.add k u,fun i hi=>⟨b,0,rfl,?_⟩,fun c m o=>Pm.aQ _ _ _ fun e=>m (by rw[j,e];rfl),y,fun h=>(by cases h),fun x h=>by cases h;rfl⟩;rw[Pm.aU,Nat.zero_add];exact f i hi
section
variable {C:BC} {p q r:Pm} {g g1 g2:Ge} {mv mv1:Value} {ms ms1 ms2:List Nat} {w w1 w2:World}
theorem BS.jO(h:BS C p g mv ms w)(a:Sub p q)(l:WB q w)(d:∀b o v,q b o=some v→C.B0≤b)(f:∀o,q C.bb o=none)(j:∀b,mv.ownBlock=some b→∀o,q b o=none)(m:∀b u,g.G b=some u→p b 6=none→q b 6=none):BS C q g mv ms w where
 ka:=h.ka
 la:=h.la
 wb:=l
 lp:=d
 inj:=h.inj
 gv:=h.gv
 bl:=h.bl
 pb:=f
 c0:=h.c0
 c1:=let⟨h1,c⟩:=h.c1;⟨h1,c.sub a⟩
 c2:=h.c2
 c3:=h.c3
 c4:=h.c4
 f4:=h.f4
 row:=h.row
 rd:=fun b e=>⟨(h.rd b e).1,j b e⟩
 ord:=h.ord
 mlt:=h.mlt
 ifs:=fun b u e=>(h.ifs b u e).mono a (aK.refl g) (fun _ h=>h) zl rfl rfl (m b u e)
 len:=h.len
 nm:=fun i hi=>a _ _ _ (h.nm i hi)
 po:=fun i hi=>let⟨o,v,e⟩:=h.po i hi;⟨o,v,a _ _ _ e⟩
 cY:=let⟨o,v,e⟩:=h.cY;⟨o,v,a _ _ _ e⟩
 cZ:=let⟨o,v,e⟩:=h.cZ;⟨o,v,a _ _ _ e⟩
 err:=let⟨h1,x,c,k⟩:=h.err;⟨a _ _ _ h1,x,c.sub a,k.sub a (aK.refl g)⟩
 cmp:=let⟨h1,b,c,k⟩:=h.cmp;⟨a _ _ _ h1,b,c.sub a,k⟩
 tn:=fun n s hi=>let⟨x,h1,c⟩:=h.tn n s hi;⟨x,h1.sub a,c.sub a (aK.refl g)⟩
theorem BS.apart(h:BS C p g mv ms w){e:TypeId}(he:e≠37){B:Nat}{v:Value}{n:Nat}{xs:List Value}(c:w.ownsRow B e 1 v n xs)(j:C.bb<B){b:Nat}(d:v.ownBlock=some b):b≠C.bb∧mv.ownBlock≠some b:=by
 refine⟨fun e=> ?_,fun i=> ?_⟩
 ·have:=(c.lt b d).1;omega
 ·obtain⟨cur,h1⟩:=iK c d
  obtain⟨f,a⟩:=iK h.row i;rw[h1]at a;injection a with a;injection a with _ a;exact he a
theorem aG.row(h:BS C p g mv ms w)(k:aG C p g mv ms w q g1 ms1 w1){e:TypeId}(he:e≠37){B:Nat}{v:Value}{n:Nat}{xs:List Value}(a:w.ownsRow B e 1 v n xs)(c:C.bb<B)(d:∀b,v.ownBlock=some b→∀o,p b o=none):
 w1.ownsRow B e 1 v n xs∧∀b,v.ownBlock=some b→∀o,q b o=none:=
 ⟨dY a k.kept fun b f i=>by
  have:=h.apart he a c f;exact i.elim this.1 this.2,fun b e o=>k.gr.aF (a.lt b e).2 (d b e) o⟩
theorem aG.jO(h:aG C p g mv ms w q g1 ms1 w1)(a:aN q r w):aG C p g mv ms w r g1 ms1 w1:=⟨h.gr.trans a zl,h.gs,h.gn,h.kept,h.mm⟩
theorem BS.jP(h:BS C q g mv ms w){e:TypeId}(he:e≠37){l:Nat}{v:Value}{xs:List Value}(s:w.ownsRow l e 1 v xs.length xs)(t:∀b,v.ownBlock=some b→∀o,q b o=none)(y:C.bb<l):
 ∃f a c,v= .slice a xs.length c∧aN q f l∧BS C f g mv ms w∧cd f a xs.length (fun i=>xs.getD i undef)∧(∀b,v.ownBlock≠some b→∀o,f b o=q b o)∧xs.length≤c∧(a=none→c=0)∧∀x,a=some x→x.spot=none:=by
 obtain⟨f,a,c,h1,m,z,A,k,n⟩:=xn h.wb s t;have j:=fun b (d:v.ownBlock=some b)=>h.apart he s y d;have B:=h.bl;refine⟨f,a,c,h1,m,h.jO m.le z (fun b o x D=>(m.new _ _ _ D).elim (h.lp b o x) fun h=>by omega) (fun o=> ?_) (fun b d o=> ?_) (fun b u hu n=> ?_),A,k,n⟩
 ·rw[k _ fun d=>(j _ d).1 rfl];exact h.pb o
 ·rw[k _ fun E=>(j _ E).2 d];exact(h.rd b d).2 o
 ·rw[k _ fun d=> ?_]
  ·exact n
  ·have:=(h.ifs b u hu).2.1
   rw[t b d 0]at this;cases this
theorem BS.appended{a:World}(h:BS C q g mv ms w){e:TypeId}(he:e≠37){d:Nat}{v:Value}{n:Nat}{xs:List Value}(f:w.ownsRow d e 1 v n xs)(i:∀b,v.ownBlock=some b→∀o,q b o=none)(j:C.bb<d)(l:w.grownBy a v.ownBlock):BS C q g mv ms a∧Kept (fun b=>v.ownBlock=some b) w a:=by
 have hk:Kept (fun b=>v.ownBlock=some b) w a:=(Kept.refl _ _).grown l fun k hk _=>hk;refine⟨h.own hk fun b c=> ?_,hk⟩;have h1:=h.apart he f j c;have m:=(f.lt b c).1;have s:=h.bl;exact⟨by omega,i b c,h1.1,h1.2⟩
theorem kF{B i:Nat}{e f:TypeId}(he:e≠f){v v2:Value}{n j:Nat}{xs c:List Value}(k:w.ownsRow B e 1 v n xs)(d:w.ownsRow i f 1 v2 j c){b:Nat}(h:v.ownBlock=some b):v2.ownBlock≠some b:=fun l=>by
 obtain⟨c1,m⟩:=iK k h;obtain⟨c2,a⟩:=iK d l;rw[m]at a;injection a with a;injection a with _ a;exact he a
theorem kH{v c:Value}(h:WB q w)(d:∀b,v.ownBlock=some b→∀o,q b o=none)(a:c.ownBlock=v.ownBlock∨c.ownBlock=some w.heap.size):∀b,c.ownBlock=some b→∀o,q b o=none:=fun b e o=>by
 rcases a with a|a
 ·exact d b (a▸e) o
 ·rw[a]at e;cases e;exact h.kw.aF zl o
end
structure jg(C:BC)(u:U)(p:Pm)(g:Ge)(mv:Value)(ms:List Nat)(w:World)(k:Nat)(q:Pm)(d:Ge)(c:Value)(a fs:List Nat)(xs:Nat→Value)(f vt:Value)(wr:World):Prop where
 bs:BS C q d c a wr
 st:aG C p g mv ms w q d a wr
 om:∀b,c.ownBlock=some b→mv.ownBlock=some b∨w.heap.size≤b
 fl:fs.length=k
 fr:wr.ownsRow w 102 1 f fs.length (fs.map pv)
 tr:wr.ownsRow w 9 1 vt ((u.es.take k).map fun e=>Value.string e.tg).length ((u.es.take k).map fun e=>Value.string e.tg)
 fd:∀b,f.ownBlock=some b→∀o,q b o=none
 td:∀b,vt.ownBlock=some b→∀o,q b o=none
 cl:∀i(h:i<u.es.length),i<k→q (fs.getD i 0) 1=some (ptr g.pk)∧q (fs.getD i 0) 2=some (.string u.es[i].nm)∧q (fs.getD i 0) 3=some (xs i)∧q (fs.getD i 0) 5=some (.bool false)
 nd:∀i(h:i<u.es.length),i<k→Node q d u.es[i] (xs i)
 ct:a.length≤ms.length+aZ (u.es.take k)
theorem jg.step{C:BC}{u e:U}{p q F:Pm}{g g' g1:Ge}{mv G mv1:Value}{ms H ms1 fs:List Nat}{w Z wr w1 I w5:World}{k:Nat}{xs:Nat→Value}{Y vt t v x:Value}
 (hF:jg C u p g mv ms w k q g' G H fs xs Y vt wr)(y:C.bb<w.heap.size)(M:u.es[k]?=some e)(c:Below wr wr Z)
 (PG:Node F g1 e x)(J:BS C F g1 mv1 ms1 w1)(f:aG C q g' G H Z F g1 ms1 w1)(PH:∀b,mv1.ownBlock=some b→G.ownBlock=some b∨Z.heap.size≤b)(PY:ms1.length≤H.length+cn e)
 {bs cs:Array Value}{Tb Tc:TypeId}(PI:I.ownsRow w 102 1 t (fs.length+1) (fs.map pv++ [pv w1.heap.size]))
 (PJ:((w1.alloc (.cells #[.int .i64 0,ptr g.pk,.string e.nm,x,.int .u8 6,.bool false] 192)).alloc (.cells bs Tb)).grownBy I Y.ownBlock)
 (PK:t.ownBlock=Y.ownBlock∨t.ownBlock=some ((w1.alloc (.cells #[.int .i64 0,ptr g.pk,.string e.nm,x,.int .u8 6,.bool false] 192)).alloc (.cells bs Tb)).heap.size)
 (PL:w5.ownsRow w 9 1 v (((u.es.take k).map fun e=>Value.string e.tg).length+1) (((u.es.take k).map fun e=>Value.string e.tg)++ [.string e.tg]))
 (PM:(I.alloc (.cells cs Tc)).grownBy w5 vt.ownBlock)(PN:v.ownBlock=vt.ownBlock∨v.ownBlock=some (I.alloc (.cells cs Tc)).heap.size):
 jg C u p g mv ms w (k+1) (F.add w1.heap.size #[.int .i64 0,ptr g.pk,.string e.nm,x,.int .u8 6,.bool false]) g1 mv1 ms1 (fs++ [w1.heap.size]) (fun i=>if i=k then x else xs i) t v w5:=by
 obtain⟨hk,j⟩:=List.getElem?_eq_some_iff.1 M;have K:=aG.row (hF.bs.below c) f zd (bw hF.fr c) y hF.fd;have L:=aG.row (hF.bs.below c) f zd (bw hF.tr c) y hF.td;have PO:=J.box #[.int .i64 0,ptr g.pk,.string e.nm,x,.int .u8 6,.bool false] 192;have PQ:=hF.st.trans (aG.ahead c f) hF.om;have PR:=PQ.box J #[.int .i64 0,ptr g.pk,.string e.nm,x,.int .u8 6,.bool false] 192;have hd:∀o,F w1.heap.size o=none:=fun o=>J.wb.kw.aF zl o;have z:=Pm.cK (cs:=#[.int .i64 0,ptr g.pk,.string e.nm,x,.int .u8 6,.bool false]) hd;generalize PS:#[.int .i64 0,ptr g.pk,.string e.nm,x,.int .u8 6,.bool false]=d at*;have A:Below w1 w1 ((w1.alloc (.cells d 192)).alloc (.cells bs Tb)):=(zB.alloc zl _).alloc zs _;have N:Below (w1.alloc (.cells d 192)).heap.size (w1.alloc (.cells d 192)) ((w1.alloc (.cells d 192)).alloc (.cells bs Tb)):=zB.alloc zl _;have B:=PO.below N;have O:=PR.below N;have P:∀b,Y.ownBlock=some b→∀o,F.add w1.heap.size d b o=none:=fun b a o=>by
  rw[Pm.aQ _ _ _ fun e2=>by have:=(K.1.lt b a).2;omega];exact K.2 b a o
 have Q:∀b,vt.ownBlock=some b→∀o,F.add w1.heap.size d b o=none:=fun b a o=>by
  rw[Pm.aQ _ _ _ fun e2=>by have:=(L.1.lt b a).2;omega];exact L.2 b a o
 have l:=bw K.1 A;have D:=bw L.1 A;obtain⟨R,S⟩:=B.appended zd l P y PJ;have PT:=O.own S fun b a=>(l.lt b a).1;have T:=dY D S fun b a=>kF zd D l a;have m:Below I I (I.alloc (.cells cs Tc)):=zB.alloc zl _;have n:=bw T m;have E:=bw PI m;obtain⟨PU,V⟩:=(R.below m).appended zd n Q y PM;have PW:=(PT.below m).own V fun b a=>(n.lt b a).1;have W:=dY E V fun b a=>kF zd E n a;have X:=hF.fl;have s:=f.gr.le.trans z;have PX:=f.gs;refine⟨PU,PW,fun b a=> ?_,by simp[X],by simpa using W,?_,kH B.wb P PK,kH (R.below m).wb Q PN,fun i h hi=> ?_,fun i h hi=> ?_,by have:=hF.ct;have:=gC M;omega⟩
 ·rcases PH b a with a|a
  ·exact hF.om b a
  ·have:=c.size;have:=hF.st.size;exact .inr zo
 ·rw[List.take_succ_eq_append_getElem hk,j]
  simpa using PL
 ·by_cases a:i=k
  ·subst a
   rw[j,if_pos rfl,show(fs++ [w1.heap.size]).getD i 0=w1.heap.size by simp[List.getD,←X]];simp only[Pm.aU,←PS];exact⟨rfl,rfl,rfl,rfl⟩
  ·rw[if_neg a,show(fs++ [w1.heap.size]).getD i 0=fs.getD i 0 by simp[List.getD,List.getElem?_append_left (show i<fs.length by omega)]]
   obtain⟨h1,h2,h3,h4⟩:=hF.cl i h zo;exact⟨s _ _ _ h1,s _ _ _ h2,s _ _ _ h3,s _ _ _ h4⟩
 ·by_cases a:i=k
  ·subst a
   rw[j,if_pos rfl];exact PG.sub z (aK.refl _)
  ·rw[if_neg a];exact(hF.nd i h zo).sub s PX
structure rO(C:BC)(u:U)(p:Pm)(g:Ge)(mv:Value)(ms:List Nat)(w:World)(q:Pm)(d:Ge)(c:Value)(a fs:List Nat)(xs:Nat→Value)(fa ta:Option Addr)(e:Nat)(wr:World):Prop where
 bs:BS C q d c a wr
 st:aG C p g mv ms w q d a wr
 om:∀b,c.ownBlock=some b→mv.ownBlock=some b∨w.heap.size≤b
 fr:cd q fa u.es.length fun i=>ptr (fs.getD i 0)
 tr:∀i(h:i<u.es.length),∃b o,ta= .some (Xa b o)∧q b (o+i)=some (.string u.es[i].tg)
 cl:∀i(h:i<u.es.length),q (fs.getD i 0) 1=some (ptr d.pk)∧q (fs.getD i 0) 2=some (.string u.es[i].nm)∧q (fs.getD i 0) 3=some (xs i)∧q (fs.getD i 0) 5=some (.bool false)
 nd:∀i(h:i<u.es.length),Node q d u.es[i] (xs i)
 le:u.es.length≤e
 sp:∀x,fa=some x→x.spot=none
 ct:a.length≤ms.length+aZ u.es
theorem jg.ready{C:BC}{u:U}{p q:Pm}{g G:Ge}{mv c:Value}{ms d fs:List Nat}{w wr:World}{xs:Nat→Value}{fa ta:Option Addr}{H tc fn tn:Nat}(hF:jg C u p g mv ms w u.es.length q G c d fs xs (.slice fa fn H) (.slice ta tn tc) wr)(f:C.bb<w.heap.size):
 ∃k,rO C u p g mv ms w k G c d fs xs fa ta H wr:=by
 have l:=hF.fl;obtain⟨S,T,c1,I,h,m,n,s,t,_,v⟩:=hF.bs.jP (e:=102) (xs:=fs.map pv) zd (by simpa using hF.fr) hF.fd f;obtain⟨k,a2,c2,J,a,x,y,K,L,_⟩:=m.jP (e:=9) zd hF.tr (fun b e o=>by rw[s b fun M=>kF zd hF.tr hF.fr e M];exact hF.td b e o) f;injection I with z N A
 injection J with B O D
 subst z;subst A;subst B;subst D;have j:=h.le.trans a.le;refine⟨k,x,hF.st.jO (h.trans a zl),hF.om,fun i hi=> ?_,fun i hi=> ?_,fun i hi=> ?_,fun i hi=>(hF.nd i hi hi).sub j (aK.refl _),by simpa [l]using t,v,by have:=hF.ct;rwa [List.take_length]at this⟩
 ·obtain⟨b,o,E,F⟩:=n i zp
  refine⟨b,o,E,a.le _ _ _ ?_⟩;rw[F];simp[List.getD,List.getElem?_eq_getElem (show i<fs.length by omega),pv]
 ·obtain⟨b,o,E,F⟩:=y i zp
  refine⟨b,o,E,?_⟩;rw[F];simp[List.getD,hi]
 ·obtain⟨h1,P,Q,R⟩:=hF.cl i hi hi
  exact⟨by rw[hF.st.gs.pk];exact j _ _ _ h1,j _ _ _ P,j _ _ _ Q,j _ _ _ R⟩
theorem rO.done{C:BC}{u:U}{p q:Pm}{g D:Ge}{mv l:Value}{ms m fs:List Nat}{w wr n:World}{xs:Nat→Value}{fa ta a2:Option Addr}{s tc b:Nat}(c:rO C u p g mv ms w q D l m fs xs fa ta s wr)(hk:u.k=5)(t:∀e∈u.es,aR e.nm=true)(I:u.es.length≤1099511627776)
 (x:wr.heap.size≤b)(E:Xc n b 0 (.slice a2 u.es.length (if fa=none then 0 else s)))(ha:fa=none∨a2=fa)(h1:Xc n b 1 (.slice ta u.es.length tc))(y:Below wr wr n)(F:Plain n b):
 bE C u p g mv ms w (.returned (ah 184 b)) n:=by
 have G:∀o,q b o=none:=fun o=>c.bs.wb.kw.aF x o;have z:=Pm.eH (v:= .slice a2 u.es.length (if fa=none then 0 else s)) (G 0) x;have A:=Pm.eH (p:=q.put b 0 (.slice a2 u.es.length (if fa=none then 0 else s))) (v:= .slice ta u.es.length tc) (o:=1) (by rw[Pm.ba _ _ zo];exact G 1) x;have d:=z.trans A zl;have hw:=((c.bs.wb.below y).put E F).put h1 F;have J:=c.bs.grow y d hw;have H:u.es.length≤(if fa=none then 0 else s)∧cd q a2 u.es.length fun i=>ptr (fs.getD i 0):=by
  by_cases j:fa=none
  ·have E:u.es.length=0:=Nat.eq_zero_of_not_pos fun h=>by obtain⟨_,_,h,_⟩:=c.fr 0 h;rw[j]at h;cases h
   exact⟨by omega,fun i hi=>by omega⟩
  ·rw[if_neg j]
   refine⟨c.le,?_⟩;rcases ha with h|rfl
   ·exact absurd h j
   ·exact c.fr
 have B:=c.om;refine⟨_,_,D,l,m,rfl,.struct (f:=fun i=>fs.getD i 0) (xs:=xs) (a:=a2) (a':=ta) ⟨hk,t⟩ (by rw[Pm.ba _ _ zo,Pm.fT]) (Pm.fT ..) H.1 I (H.2.sub d.le) (fun i hi=> ?_) (fun i hi=> ?_) (fun i hi=>(c.nd i hi).sub d.le (aK.refl _)),J,c.st.grow y d,B,fun h=>zo,by have:=c.ct;rw[dW];omega⟩
 ·obtain⟨b,o,e,h⟩:=c.tr i hi;exact⟨b,o,e,d.le _ _ _ h⟩
 ·obtain⟨h1,K,L,M⟩:=c.cl i hi;exact⟨d.le _ _ _ h1,d.le _ _ _ K,d.le _ _ _ L,d.le _ _ _ M⟩
end TS
namespace Go.Proofs.YtkochlhejabdcaaGreatDoor
open Go.RowKit TS Tryz
theorem Gm:(Tryz.prog.info? 9).map (fun i=>(i.zero,i.size,i.bytes))=some (some (.string ByteArray.empty),1,16):=zk
theorem Gn(C:BC)(u:U)(hk:u.k=5)(PR:∀e∈u.es,aR e.nm=true)(hnd:(u.es.map U.nm).Nodup)(hI:∀e∈u.es,bX C e)(p:Pm)(g:Ge)(mv:Value)(ms:List Nat)(a:Option Addr)(c:Nat)(w:World)(hB:BS C p g mv ms w)(QA:ms.length+cn u≤1099511627776)(hu:ai C.pa C.D u a c):
 Xk 107 #[Xp C.bb,Xt u a c] w (bE C u p g mv ms w):=by
 have PS:=hu.cap;have Qm:Hid (∀k e,u.es[k]?=some e→∃eb eo a' c',a= .some (Xa eb eo)∧c_ C.pa eb (eo+k*7) e a' c'∧ai C.pa C.D e a' c'):=fun k e he=>by
  obtain⟨hk,rfl⟩:=List.getElem?_eq_some_iff.1 he;obtain⟨eb,eo,rfl⟩:=hu.list.bg zo;obtain⟨a',c',h7,F⟩:=hu.list.get k hk;exact⟨eb,eo,a',c',rfl,h7,F⟩
 have G:=(hB.ib (b:=C.bb) (.inl rfl)).2.1;have Z:Below w w (w.alloc (Xt u a c)):=zB.alloc zl _;have Qn:=zh (hB.below Z);have QB:=zh hB;have PT:=zh Z;have QC:u.es.length≤1048576:=zo;have Qu:u.es.length≤1099511627776:=zo;have Qo:=zh hk;have O:=zh PR;have PU:=zh hnd;have Qp:=zh hI;obtain⟨i0,Qq,PW,PX,PY⟩:=info_parts uH;obtain⟨i1,Qr,PZ,P0,P1⟩:=info_parts Gm;clear hu hB Z PS hk PR hnd hI;generalize hn:u.es.length=n at*;have PG:=zh hn;clear hn;go_enter func107,ntmps107;go_wp2_with fail
 go_loopw [12,5,6] (fun vi vf vt wr=> ∃(k:Nat)(q:Pm)(g':Ge)(PH:Value)(PI fs:List Nat)(xs:Nat→Value),k≤n∧vi= .int .i64 k∧jg C u p g mv ms w k q g' PH PI fs xs vf vt wr) (fun vi _ _ _=>n- (intOf vi).toNat)
 case atStart=>exact⟨0,p,g,mv,ms,[],fun _=>undef,Nat.zero_le _,rfl,Qn.out,aG.ahead PT.out (aG.refl _ _ _ _ _ _),fun b e=> .inl e,rfl,World.ownsRow_nil _ _ _ _,World.ownsRow_nil _ _ _ _,fun b e=>(by cases e),fun b e=>(by cases e),fun i _ hi=>absurd hi (Nat.not_lt_zero _),fun i _ hi=>absurd hi (Nat.not_lt_zero _),Nat.le_add_right _ _⟩
 case round=>
  obtain⟨k,q,g',PH,PI,fs,xs,PJ,rfl,hF⟩:=hrel;have d:=zh hF;obtain⟨fa,H,rfl⟩:=a_ hF.fr;obtain⟨ta,tc,rfl⟩:=a_ hF.tr;have P2:=zh hF.tr;clear hF;obtain⟨z,I⟩:∃z,Hid ((u.es.take k).map (fun e=>Value.string e.tg)=z):=⟨_,rfl⟩
  rw[I.out]at d P2⊢;have P3:=zh (show z.length≤k by rw[←I.out];simp;omega);by_cases QD:k<n
  ·have Qv:(k:Int)<n:=zo
   obtain⟨e,A⟩:∃e,u.es[k]?=some e:=⟨_,List.getElem?_eq_getElem (by have:=PG.out;omega)⟩
   obtain⟨eb,eo,a',c',rfl,h7,F⟩:=Qm.out k e A;have P4:=Qp.out _ (List.mem_of_getElem? A);obtain⟨z0,z1,z2,z3,z4,z5,z6⟩:TS.C7 wr eb (eo+k*7) e a' c':=h7.world d.out.bs.ka;have Qw:eb<wr.heap.size:=d.out.bs.ka.lt h7.1;have PK:Below wr wr ((wr.alloc (Xt e a' c')).drew):=(zB.alloc zl _).drew;have hT:=zh (P4 q g' PH PI a' c' _ (d.out.bs.below PK) (by have:=d.out.ct;have:=oY A;omega) F);have P5:=zh A;have l:=zh PK;have P:=d.out.bs.c0;have Q:g'.pk=g.pk:=d.out.st.gs.pk;rw[Q]at P;have P6:=zb P;simp only at P6;clear h7 F P4 A PK;go_wp2_with fail
   refine oR (fun W=>Xc W C.bb 0 (ptr g.pk)∧(Xl W wr e a' c')) [(0,true),(1,true),(2,true),(3,true),(4,true),(5,true),(6,true),(7,true),(8,true),(9,false),(10,false),(11,false),(12,false),(13,true)] (by(repeat' apply And.intro)<;>first|(simp[go_sem];done)|(go_keep;done)) (fun f=> ?_);repeat((first|refine oS ?_|refine oF f ?_);try simp only[Act.put,oa,ob,oc])
   refine oL fun K B=> ?_;go_simp;go_at_call 50
   refine hT.out.mono ?_;rintro e1 w1 ⟨x,q1,g1,mv1,ms1,rfl,PL,J,m,P7,_,Qs⟩;obtain⟨R,S,rfl⟩:=PL.val;have T:Xc w1 C.bb 0 (ptr g.pk):=by
    have h1:=J.c0;rwa [m.gs.pk,Q]at h1
   have V:=(jf d.out.bs l.out.size m).2;obtain⟨_,s0,s1,s2,s3,s4,s5,s6⟩:=f;(try simp only[]);refine B _ _ (by(repeat' apply And.intro)<;>first|exact T|exact V _ _ _ zl za) fun f=> ?_;clear B K;try simp only[Act.put,oa,ob,oc]
   clear s0 s1 s2 s3 s4 s5 s6;have QE:wr.heap.size<w1.heap.size:=by
    have:=m.size;simp at this;omega
   have Qx:=(J.ib (b:=C.bb) (.inl rfl)).2.1;have QF:w.heap.size<w1.heap.size:=by have:=d.out.st.size;omega
   have P8:(Value.slice fa fs.length H).ownBlock≠some C.bb∧(Value.slice fa fs.length H).ownBlock≠some wr.heap.size:=⟨fun e=>by have:=(d.out.fr.lt _ e).1;omega,fun e=>by have:=(d.out.fr.lt _ e).2;omega⟩
   have P9:=zh (show fs.length=k from d.out.fl);have P_:=zh (show ∀j u,[Value.pointer (Xa w1 0)][j]?=some u→((w1.alloc (.cells #[.int .i64 0,ptr g.pk,.string e.nm,ah R S,.int .u8 6,.bool false] 192)).alloc (.cells #[Xp w1] 102)).cell? (((Xa (w1+1) 0):Addr).add j)=some u from fun j u h=>by
    have h1:=TS.eD (w1.alloc (.cells #[.int .i64 0,ptr g.pk,.string e.nm,ah R S,.int .u8 6,.bool false] 192)) (Xp w1) 102 j u h;rwa [show(w1.alloc (.cells #[.int .i64 0,ptr g.pk,.string e.nm,ah R S,.int .u8 6,.bool false] 192)).heap.size=w1.heap.size+1 by simp]at h1)
   have X:=zh ((((aG.row (d.out.bs.below l.out) m zd (bw d.out.fr l.out) G d.out.fd).1).alloc (.cells #[.int .i64 0,ptr g.pk,.string e.nm,ah R S,.int .u8 6,.bool false] 192)).alloc (.cells #[Xp w1] 102));have Qa:=zh (show ∀L,((w1.alloc (.cells #[.int .i64 0,ptr g.pk,.string e.nm,ah R S,.int .u8 6,.bool false] 192)).alloc (.cells #[Xp w1] 102)).grownBy L (Value.slice fa fs.length H).ownBlock→L.ownsRow w 9 1 (.slice ta z.length tc) z.length z from fun L hg=>by
    have h1:=(((aG.row (d.out.bs.below l.out) m zd (bw P2.out l.out) G d.out.td).1).alloc (.cells #[.int .i64 0,ptr g.pk,.string e.nm,ah R S,.int .u8 6,.bool false] 192)).alloc (.cells #[Xp w1] 102);exact dY h1 ((Kept.refl (fun b=>(Value.slice fa fs.length H).ownBlock=some b) _).grown hg fun k hk _=>hk) fun b e1=>kF zd h1 X.out e1)
   have Qb:=zh J;have Qc:=zh m;have Qd:=zh PL;have Qe:=zh P7;clear J m PL P7 T V hT;repeat((first|refine oS ?_|refine oF f ?_);try simp only[Act.put,oa,ob,oc])
   refine oL fun K B=> ?_;go_simp;go_at_call 157
   refine(Ay _ _ _ _ _ _ _).mono ?_;rintro e2 w2 ⟨rfl,rfl⟩;obtain⟨_,s0,s1,s2,s3,s4,s5,s6⟩:=f;(try simp only[]);refine B _ _ (by(repeat' apply And.intro)<;>exact az (zB.alloc zl _) za) fun f=> ?_;clear B K;try simp only[Act.put,oa,ob,oc]
   clear s0 s1 s2 s3 s4 s5 s6;repeat((first|refine oS ?_|refine oF f ?_);try simp only[Act.put,oa,ob,oc])
   refine oL fun K B=> ?_;go_simp;obtain⟨_,s0,s1,s2,s3,s4,s5,s6⟩:=f;(try simp only[]);refine B _ _ (by(repeat' apply And.intro)<;>exact az (zB.alloc zl _) za) fun f=> ?_;clear B K;try simp only[Act.put,oa,ob,oc]
   repeat((first|refine oS ?_|refine oF f ?_);try simp only[Act.put,oa,ob,oc])
   refine nv rfl (by rfl) (fun K B=> ?_);refine iW _ _ 187 rfl w.heap.size 102 i0 (.pointer none) 1 8 underlying187 Qq PW PX PY rfl zd (.slice fa fs.length H) fs.length (fs.map pv) rfl X.out (Xa (w1+1) 0) 1 1 [Xp w1] rfl rfl P_.out (TS.one_one rfl) ?c3 ?c4 ?c5 ?_
   case c3=>have:=P9.out;unfold maxLen;omega
   case c4=>have:=P9.out;omega
   case c5=>(try simp);omega
   intro QG L s PM _ Qf;have PN:∀b o v,(Value.slice fa fs.length H).ownBlock≠some b→Xc ((w1.alloc (.cells #[.int .i64 0,ptr g.pk,.string e.nm,ah R S,.int .u8 6,.bool false] 192)).alloc (.cells #[Xp w1] 102)) b o v→Xc L b o v:=fun b o v hb h=>by
    rw[((Kept.refl (fun b=>(Value.slice fa fs.length H).ownBlock=some b) _).grown PM fun k hk _=>hk).cell (zb h) hb];exact h
   obtain⟨_,s0,s1,s2,s3,s4,s5,s6⟩:=f;(try simp only[]);refine B _ _ (by(repeat' apply And.intro)<;>first|exact PN _ _ _ P8.1 za|exact PN _ _ _ P8.2 za) fun f=> ?_;clear B K;try simp only[Act.put,oa,ob,oc]
   clear s0 s1 s2 s3 s4 s5 s6 PN;repeat((first|refine oS ?_|refine oF f ?_);try simp only[Act.put,oa,ob,oc])
   refine bZ ?_;obtain⟨d0,s0,s1,s2,s3,s4,s5,s6⟩:=f;obtain⟨a3,c3,rfl⟩:=a_ s;have E:=zh PM;have M:=zh s;have Qg:=zh Qf;clear PM s Qf;have PO:=zh (Qa.out L E.out);have Qy:w1.heap.size+2≤L.heap.size:=by have:=((Kept.refl (fun b=>(Value.slice fa fs.length H).ownBlock=some b) _).grown E.out fun k hk _=>hk).size;simpa using this
   go_wp2_with (first|(at_builtin;refine wpList_append_own_at _ rfl _ _ 188 rfl w.heap.size 9 i1 (.string ByteArray.empty) 1 16 underlying188 Qr PZ P0 P1 rfl zd (.slice ta z.length tc) z.length z rfl (PO.out.alloc _) (Xa L 0) 1 1 [.string e.tg] rfl rfl (TS.eD L _ _) (TS.one_one rfl) ?c3 ?c4 ?c5 ?_)|fail)
   case c3=>have:=P3.out;unfold maxLen;omega
   case c4=>have:=P3.out;omega
   case c5=>(try simp);omega
   intro QH w5 t Qh _ Qi;obtain⟨a5,c5,rfl⟩:=a_ t;have y:jg C u p g mv ms w (k+1) _ g1 mv1 ms1 (fs++ [w1.heap.size]) (fun i=>if i=k then ah R S else xs i) (.slice a3 (fs.length+1) c3) (.slice a5 (z.length+1) c5) w5:=
    jg.step d.out G P5.out l.out Qd.out Qb.out Qc.out Qe.out Qs M.out E.out Qg.out (by rw[I.out];exact t) Qh (Qi.imp id fun h=>h.trans zs)
   have PQ:=zh y;have Qz:fs.length+1=(fs++ [w1.heap.size]).length:=zs;clear y t Qh Qi;go_wp2_with fail
   exact⟨⟨k+1,_,g1,mv1,ms1,_,_,by omega,by go_num,PQ.out⟩,by first|omega|(simp[intOf];omega)⟩
  ·have QI:¬(k:Int)<n:=zo
   obtain rfl:k=n:=zo;have PJ:=PG.out;obtain⟨q2,Y⟩:=jg.ready (PG.out.symm▸d.out) G;have N:=zh Y;have Qj:=zh (d.out.fl);have h1:Hid (∀i,i<k→Xc wr (fs.getD i 0) 1 (Xp g'.pk)):=fun i hi=>Y.bs.wb.kw _ _ _ (Y.cl i zo).1;have h2:Hid (∀i,i<k→Xc wr (fs.getD i 0) 2 (.string (u.es.getD i aP).nm)):=fun i hi=>by
    rw[Y.bs.wb.kw _ _ _ (Y.cl i zo).2.1];simp[List.getD,List.getElem?_eq_getElem (show i<u.es.length by omega)]
   have h3:Hid (∀i,i<k→aR (u.es.getD i aP).nm=true):=fun i hi=>O.out _ (by simp[List.getD,List.getElem?_eq_getElem (show i<u.es.length by omega)]);have h4:Hid (∀i j,i<j→j<k→(u.es.getD i aP).nm≠(u.es.getD j aP).nm):=fun i j Qt hj=>by
    have h:=List.pairwise_iff_getElem.1 PU.out i j zp zp Qt;simpa [List.getD,List.getElem?_eq_getElem (show i<u.es.length by omega),List.getElem?_eq_getElem (show j<u.es.length by omega)]using h
   have h5:Hid (bJ wr fa k fun i=>fs.getD i 0):=fun i hi=>by
    obtain⟨b,o,e1,e2⟩:=Y.fr i zo;exact⟨b,o,e1,Y.bs.wb.kw _ _ _ e2⟩
   clear Y;go_wp2_with fail
   rw[Qj.out,show z.length=k by rw[←I.out];simp;omega];refine(Ca fa ta k H tc (fun i=>fs.getD i 0) (fun i=>(u.es.getD i aP).nm) (fun _=> .some (Xa g'.pk 0)) wr zo N.out.bs.wb.cap N.out.sp h5.out h1.out h2.out h3.out h4.out).mono ?_;rintro e2 w2 ⟨b,a2,rfl,hb,c0,ha,c1,Qk,Ql⟩;have y:Hid (bE C u p g mv ms w (.returned (Xi 184 b)) w2):=
    N.out.done (tc:=tc) Qo.out O.out zo hb (by rw[PJ];exact c0) ha (by rw[PJ];exact c1) Qk Ql
   clear hb c0 c1 ha Qk Ql h1 h2 h3 h4 h5 N Qj;go_wp2_with fail
   go_ret;exact y.out
end Go.Proofs.YtkochlhejabdcaaGreatDoor
