import Derived.Test.YtdkmnkjhhhmglaaGreatDoorYbf
import Derived.Test.YtdkmnkjhhhmglaaGreatDoorYbg
set_option maxRecDepth 100000
set_option maxHeartbeats 8000000
set_option linter.all false
namespace TS
open Go Go.RowKit Go.Proofs.YtdkmnkjhhhmglaaGreatDoor
structure BC where
 D:Dl
 T:List U
 i:Nat
 pa:Pm
 B0:Nat
 bb:Nat
 da:Option Addr
 dc:Nat
def pj(len:Nat)(p:Pm)(g:Ge)(w:World)(ms:List Nat)(b:Nat)(u:U):Prop:=
 b<w.heap.size∧p b 0=some (.pointer none)∧p b 5=some (.bool true)∧(cY p (g.below b) b u∨(b∈ms∧fX p (g.below b) b u∧gd len u∧p b 6=none∧w.cell? ⟨b,6,none⟩=some (.pointer none)∧w.frozen? ⟨b,6,none⟩=false))
structure BS(C:BC)(p:Pm)(g:Ge)(mv:Value)(ms:List Nat)(w:World):Prop where
 ka:KW C.pa w
 la:∀b o v,C.pa b o=some v→b<C.B0
 wb:WB p w
 lp:∀b o v,p b o=some v→C.B0≤b
 inj:mM g
 gv:5<C.B0
 bl:C.B0≤C.bb
 pb:∀o,p C.bb o=none
 c0:w.cell? ⟨C.bb,0,none⟩=some (ptr g.pk)
 c1:w.cell? ⟨C.bb,1,none⟩=some (.slice C.da g.len C.dc)∧b9 p C.da g.len fun i=>ptr (g.nb i)
 c2:w.cell? ⟨C.bb,2,none⟩=some (ae 58 g.eb)
 c3:w.cell? ⟨C.bb,3,none⟩=some (ae 58 g.cb)
 c4:w.cell? ⟨C.bb,4,none⟩=some mv
 f4:w.frozen? ⟨C.bb,4,none⟩=false
 row:w.ownsRow C.B0 44 1 mv ms.length (ms.map pv)
 rd:∀b,mv.ownBlock=some b→b≠C.bb∧∀o,p b o=none
 ord:ms.Pairwise (· < ·)
 mlt:∀b∈ms,b<w.heap.size∧∃u,g.G b=some u
 ifs:∀b u,g.G b=some u→pj C.D.len p g w ms b u
 len:g.len=C.D.len
 nm:∀i,i<g.len→p (g.nb i) 1=some (ptr (g.ob i))
 po:∀i,i<g.len→∃o v,p (g.ob i) o=some v
 cH:∃o v,p g.eo o=some v
 cI:∃o v,p g.co o=some v
 err:p g.eb 1=some (ptr g.eo)∧∃x,eM p g.eb x∧Node p g aI x
 cmp:p g.cb 1=some (ptr g.co)∧∃b,eM p g.cb (ae 44 b)∧g.G b=some dN
 tn:∀n(h:n<C.T.length),n<C.i→∃x,eM p (g.nb n) x∧Node p g C.T[n] x
structure aD(C:BC)(p:Pm)(g:Ge)(mv:Value)(ms:List Nat)(w:World)(q:Pm)(d:Ge)(a:List Nat)(e:World):Prop where
 gr:aP p q w.heap.size
 gs:aH g d
 gn:∀b u,d.G b=some u→g.G b=some u∨w.heap.size≤b
 kept:Kept (fun c=>c=C.bb∨mv.ownBlock=some c) w e
 mm:∃l,a=ms++l
theorem xd{g a:Ge}(h:aH g a)(b:Nat):aH (g.below b) (a.below b):=
 ⟨h.nb,h.ob,h.len,h.eb,h.eo,h.cb,h.co,h.pk,fun c u k=>by
  simp only[Ge.below]at k⊢;split at k
  ·rw[if_pos ‹_›];exact h.G _ _ k
  ·cases k⟩
section
variable {C:BC} {p q r:Pm} {g g1 g2:Ge} {mv mv1:Value} {ms ms1 ms2:List Nat} {w w1 w2:World}
theorem BS.ib(h:BS C p g mv ms w){b:Nat}(a:C.bb=b∨mv.ownBlock=some b):C.B0≤b∧b<w.heap.size∧∀o,p b o=none:=by
 rcases a with rfl|e
 ·exact⟨h.bl,World.block_lt_of_cell? _ _ h.c0,h.pb⟩
 ·exact⟨(h.row.lt _ e).1,(h.row.lt _ e).2,(h.rd _ e).2⟩
theorem aD.refl(C:BC)(p:Pm)(g:Ge)(mv:Value)(ms:List Nat)(w:World):aD C p g mv ms w p g ms w:=⟨aP.refl _ _,aH.refl g,fun _ _ h=> .inl h,Kept.refl _ _,[],by simp⟩
theorem aD.size(h:aD C p g mv ms w q g1 ms1 w1):w.heap.size≤w1.heap.size:=h.kept.size
theorem aD.trans(h:aD C p g mv ms w q g1 ms1 w1)(k:aD C q g1 mv1 ms1 w1 r g2 ms2 w2)(hm:∀b,mv1.ownBlock=some b→mv.ownBlock=some b∨w.heap.size≤b):aD C p g mv ms w r g2 ms2 w2 where
 gr:=h.gr.trans k.gr h.size
 gs:=h.gs.trans k.gs
 gn:=fun b u e=>by
  rcases k.gn b u e with e|e
  ·exact h.gn b u e
  ·exact .inr (Nat.le_trans h.size e)
 kept:=h.kept.trans k.kept fun b c e=>by
  rcases e with e|e
  ·exact .inl e
  ·rcases hm b e with e|e
   ·exact .inr e
   ·omega
 mm:=let⟨l,e⟩:=h.mm;let⟨l',a⟩:=k.mm;⟨l++l',by rw[a,e,List.append_assoc]⟩
theorem pj.mono{len:Nat}{b:Nat}{u:U}(h:pj len p g w ms b u)(hk:Sub p q)(a:aH g g1)(hm:∀b∈ms,b∈ms1)(c:w.heap.size≤w1.heap.size)(d:w1.cell? ⟨b,6,none⟩=w.cell? ⟨b,6,none⟩)(e:w1.frozen? ⟨b,6,none⟩=w.frozen? ⟨b,6,none⟩)(f:p b 6=none→q b 6=none):pj len q g1 w1 ms1 b u:=
 let⟨h1,h2,i,h3⟩:=h
 ⟨Nat.lt_of_lt_of_le h1 c,hk _ _ _ h2,hk _ _ _ i,h3.imp (fun h=>h.sub hk (xd a b)) fun⟨j,k,l,m,n,o⟩=>⟨hm b j,k.sub hk (xd a b),l,f m,by rw[d];exact n,by rw[e];exact o⟩⟩
theorem BS.grow(h:BS C p g mv ms w)(d:Below w.heap.size w w1)(c:aP p q w.heap.size)(j:WB q w1):BS C q g mv ms w1 where
 ka:=h.ka.grown d
 la:=h.la
 wb:=j
 lp:=fun b o v e=>(c.new b o v e).elim (h.lp b o v) fun e=>by
  have h1:=h.bl;have:=World.block_lt_of_cell? _ _ h.c0;simp only at this;omega
 inj:=h.inj
 gv:=h.gv
 bl:=h.bl
 pb:=fun o=>c.aJ (World.block_lt_of_cell? _ _ h.c0) h.pb o
 c0:=ar d h.c0
 c1:=let⟨h1,h2⟩:=h.c1;⟨ar d h1,h2.sub c.le⟩
 c2:=ar d h.c2
 c3:=ar d h.c3
 c4:=ar d h.c4
 f4:=TS.frozen_kept d (World.block_lt_of_cell? _ _ h.c4) h.f4
 row:=bO h.row d
 rd:=fun b e=>⟨(h.rd b e).1,fun o=>c.aJ (h.row.lt _ e).2 (h.rd b e).2 o⟩
 ord:=h.ord
 mlt:=fun b e=>⟨Nat.lt_of_lt_of_le (h.mlt b e).1 d.size,(h.mlt b e).2⟩
 ifs:=fun b u e=>by
  have hi:=h.ifs b u e;have f:=hi.1;refine hi.mono c.le (aH.refl g) (fun _ h=>h) d.size (d.cell (p:=⟨b,6,none⟩) f) (World.frozen?_of_block (a:=⟨b,6,none⟩) (d.block b f)) fun e=> ?_;cases k:q b 6 with
  |none=>rfl
  |some v=>
   rcases c.new _ _ _ k with h|h
   ·rw[e]at h;cases h
   ·omega
 len:=h.len
 nm:=fun i hi=>c.le _ _ _ (h.nm i hi)
 po:=fun i hi=>let⟨o,v,e⟩:=h.po i hi;⟨o,v,c.le _ _ _ e⟩
 cH:=let⟨o,v,e⟩:=h.cH;⟨o,v,c.le _ _ _ e⟩
 cI:=let⟨o,v,e⟩:=h.cI;⟨o,v,c.le _ _ _ e⟩
 err:=let⟨h1,x,h2,h3⟩:=h.err;⟨c.le _ _ _ h1,x,h2.sub c.le,h3.sub c.le (aH.refl g)⟩
 cmp:=let⟨h1,b,h2,h3⟩:=h.cmp;⟨c.le _ _ _ h1,b,h2.sub c.le,h3⟩
 tn:=fun n l hi=>let⟨x,h1,h2⟩:=h.tn n l hi;⟨x,h1.sub c.le,h2.sub c.le (aH.refl g)⟩
theorem BS.below(h:BS C p g mv ms w)(a:Below w.heap.size w w1):BS C p g mv ms w1:=h.grow a (aP.refl _ _) (h.wb.below a)
theorem aD.below(h:aD C p g mv ms w q g1 ms1 w1)(a:Below w1.heap.size w1 w2):aD C p g mv ms w q g1 ms1 w2:=⟨h.gr,h.gs,h.gn,h.kept.below a,h.mm⟩
theorem aD.ahead(a:Below w.heap.size w w1)(h:aD C p g mv ms w1 q g1 ms1 w2):aD C p g mv ms w q g1 ms1 w2:=
 ⟨h.gr.mono a.size,h.gs,fun b u e=>(h.gn b u e).imp id fun h=>Nat.le_trans a.size h,(Kept.of a).trans h.kept fun _ _ h=>h,h.mm⟩
theorem aD.grow(h:aD C p g mv ms w q g1 ms1 w1)(a:Below w1.heap.size w1 w2)(b:aP q r w1.heap.size):aD C p g mv ms w r g1 ms1 w2:=
 ⟨h.gr.trans b h.size,h.gs,h.gn,h.kept.below a,h.mm⟩
end
theorem WB.add{p:Pm}{w:World}{b:Nat}{cs:Array Value}{T:TypeId}(h:WB p w)(_hp:∀o,p b o=none)(a:w.heap[b]?=some (.cells cs T (0,0))):WB (p.add b cs) w where
 kw:=h.kw.add fun o u hu=>by simp[World.cell?,a,hu]
 pl:=fun d o v c=>by
  by_cases e:d=b
  ·subst e;exact⟨cs,T,a⟩
  ·rw[Pm.aO _ _ _ e]at c;exact h.pl _ _ _ c
 cap:=h.cap
section
variable {C:BC} {p q r:Pm} {g g1 g2:Ge} {mv mv1:Value} {ms ms1 ms2:List Nat} {w w1 w2:World}
theorem BS.box(h:BS C p g mv ms w)(cs:Array Value)(T:TypeId):BS C (p.add w.heap.size cs) g mv ms (w.alloc (.cells cs T)):=
 have a:Below w.heap.size w (w.alloc (.cells cs T)):=(Below.refl _ _).alloc (Nat.le_refl _) _;have b:∀o,p w.heap.size o=none:=fun o=>h.wb.kw.aJ (Nat.le_refl _) o;h.grow a (Pm.dC b (Nat.le_refl _)) ((h.wb.below a).add (T:=T) b (cV rfl))
theorem aD.box(h:aD C p g mv ms w q g1 ms1 w1)(a:BS C q g1 mv1 ms1 w1)(cs:Array Value)(T:TypeId):aD C p g mv ms w (q.add w1.heap.size cs) g1 ms1 (w1.alloc (.cells cs T)):=
 h.grow ((Below.refl _ _).alloc (Nat.le_refl _) _) (Pm.dC (fun o=>a.wb.kw.aJ (Nat.le_refl _) o) (Nat.le_refl _))
end
theorem BS.own{C:BC}{p:Pm}{g:Ge}{mv:Value}{ms:List Nat}{w w1:World}(h:BS C p g mv ms w){X:Nat→Prop}(k:Kept X w w1)(c:∀b,X b→C.B0≤b∧(∀o,p b o=none)∧b≠C.bb∧mv.ownBlock≠some b):BS C p g mv ms w1 where
 ka:=h.ka.kept k fun b o v e a=>by have:=h.la _ _ _ e;have:=(c b a).1;omega
 la:=h.la
 wb:=h.wb.own k (fun b a=>(c b a).2.1) fun a=>by have:=(c _ a).1;have:=h.gv;omega
 lp:=h.lp
 inj:=h.inj
 gv:=h.gv
 bl:=h.bl
 pb:=h.pb
 c0:=by rw[k.cell (World.block_lt_of_cell? _ _ h.c0) fun a=>(c _ a).2.2.1 rfl];exact h.c0
 c1:=let⟨h1,h2⟩:=h.c1;⟨by rw[k.cell (World.block_lt_of_cell? _ _ h.c0) fun a=>(c _ a).2.2.1 rfl];exact h1,h2⟩
 c2:=by rw[k.cell (World.block_lt_of_cell? _ _ h.c0) fun a=>(c _ a).2.2.1 rfl];exact h.c2
 c3:=by rw[k.cell (World.block_lt_of_cell? _ _ h.c0) fun a=>(c _ a).2.2.1 rfl];exact h.c3
 c4:=by rw[k.cell (World.block_lt_of_cell? _ _ h.c0) fun a=>(c _ a).2.2.1 rfl];exact h.c4
 f4:=by rw[k.frozen (World.block_lt_of_cell? _ _ h.c0) fun a=>(c _ a).2.2.1 rfl];exact h.f4
 row:=eC h.row k fun b e a=>(c b a).2.2.2 e
 rd:=h.rd
 ord:=h.ord
 mlt:=fun b e=>⟨Nat.lt_of_lt_of_le (h.mlt b e).1 k.size,(h.mlt b e).2⟩
 ifs:=fun b u e=>by
  have hi:=h.ifs b u e;have a:¬X b:=fun a=>by have:=(c b a).2.1 0;rw[hi.2.1]at this;cases this
  exact hi.mono (Sub.refl p) (aH.refl g) (fun _ h=>h) k.size (k.cell hi.1 a) (k.frozen hi.1 a) fun h=>h
 len:=h.len
 nm:=h.nm
 po:=h.po
 cH:=h.cH
 cI:=h.cI
 err:=h.err
 cmp:=h.cmp
 tn:=h.tn
theorem aD.own{C:BC}{p q:Pm}{g g1:Ge}{mv:Value}{ms ms1:List Nat}{w w1 w2:World}(h:aD C p g mv ms w q g1 ms1 w1){X:Nat→Prop}(k:Kept X w1 w2)(a:∀b,X b→w.heap.size≤b):aD C p g mv ms w q g1 ms1 w2:=
 ⟨h.gr,h.gs,h.gn,h.kept.trans k fun b d c=>by have:=a b c;omega,h.mm⟩
def FF(len:Nat)(u:U):Prop:=(u.k=10→gd len u∧u.es.length≤1048576)∧∀e,∀_:e∈u.es,FF len e
termination_by u.sz
decreasing_by exact U.az ‹_›
theorem FF.EI{len:Nat}{u:U}(h:FF len u)(hk:u.k=10):gd len u:=by rw[FF]at h;exact(h.1 hk).1
theorem FF.es{len:Nat}{u e:U}(h:FF len u)(he:e∈u.es):FF len e:=by rw[FF]at h;exact h.2 e he
structure gK(C:BC)(u:U):Prop where
 pl:∃pos f,f≤2∧Pl C.D.len u pos f∧bh C.T C.i f u
 ff:FF C.D.len u
theorem gK.part{C:BC}{u e:U}(h:gK C u)(he:e∈u.es):gK C e:=by
 obtain⟨pos,f,d,b,c⟩:=h.pl;obtain⟨j,a,rfl⟩:=List.getElem_of_mem he;exact⟨⟨_,_,fD,b.part j a,c.part j a⟩,h.ff.es he⟩
def cn(u:U):Nat:=1+(u.es.attach.map fun e=>cn e.1).sum
termination_by u.sz
decreasing_by exact U.az e.2
def aK(l:List U):Nat:=(l.map cn).sum
theorem cW(u:U):cn u=1+aK u.es:=by
 rw[cn,aK];congr 2;conv=>rhs;rw[←List.attach_map_subtype_val u.es,List.map_map]
 rfl
theorem gi{l:List U}{k:Nat}{e:U}(h:l[k]?=some e):aK (l.take (k+1))=aK (l.take k)+cn e:=by
 unfold aK;rw[List.take_add_one,h];simp
theorem jM(l:List U)(k:Nat):aK (l.take k)≤aK l:=by
 have h:aK (l.take k++l.drop k)=aK (l.take k)+aK (l.drop k):=by unfold aK;rw[List.map_append,List.sum_append]
 rw[List.take_append_drop]at h;omega
theorem pn{u e:U}{k:Nat}(h:u.es[k]?=some e):aK (u.es.take k)+cn e+1≤cn u:=by
 have h1:=gi h;have h2:=jM u.es (k+1);have h3:=cW u;omega
theorem nv{u e:U}(h:u.es= [e]):cn u=1+cn e:=by rw[cW,h];simp[aK]
theorem EJ{u d e:U}(h:u.es= [d,e]):cn u=1+cn d+cn e:=by rw[cW,h];simp[aK];omega
theorem nw(u:U):cn (aC u)≤cn u:=by
 unfold aC;split
 ·cases h:u.es with
  |nil=>simp
  |cons e r=>rw[cW u,h];simp[aK];omega
 ·exact Nat.le_refl _
def bA(C:BC)(u:U)(p:Pm)(g:Ge)(mv:Value)(ms:List Nat)(w:World)(e:Ending)(f:World):Prop:=
 ∃x q d c a,e= .returned x∧Node q d u x∧BS C q d c a f∧aD C p g mv ms w q d a f∧(∀b,c.ownBlock=some b→mv.ownBlock=some b∨w.heap.size≤b)∧(u.k=12∨u.k=13→∃b,x=ae 185 b∧w.heap.size≤b)∧a.length≤ms.length+cn u
end TS
namespace Go.Proofs.YtdkmnkjhhhmglaaGreatDoor
open Go.RowKit TS
def bZ(C:BC)(u:U):Prop:=∀p g mv ms a c w,BS C p g mv ms w→ms.length+cn u≤1099511627776→ak C.pa C.D u a c→Calls Tryz.prog 40 #[.pointer (some ⟨C.bb,0,none⟩),.agg #[.int .i64 u.k,.int .i64 u.n,.int .i64 u.m,.bool u.v,.string u.nm,.string u.tg,.slice a u.es.length c]] w (bA C u p g mv ms w)
end Go.Proofs.YtdkmnkjhhhmglaaGreatDoor
namespace Go.Proofs.YtdkmnkjhhhmglaaGreatDoor
open Go.RowKit TS
theorem kK{C:BC}{u e:U}{a:Option Addr}{c:Nat}{w:World}(hu:ak C.pa C.D u a c)(hw:KW C.pa w)(he:u.es= [e]):∃eb eo a' c',a=some ⟨eb,eo,none⟩∧0<u.es.length∧ak C.pa C.D e a' c'∧(w.cell? ⟨eb,eo,none⟩=some (.int .i64 e.k)∧w.cell? ⟨eb,eo+1,none⟩=some (.int .i64 e.n)∧w.cell? ⟨eb,eo+2,none⟩=some (.int .i64 e.m)∧w.cell? ⟨eb,eo+3,none⟩=some (.bool e.v)∧w.cell? ⟨eb,eo+4,none⟩=some (.string e.nm)∧w.cell? ⟨eb,eo+5,none⟩=some (.string e.tg)∧w.cell? ⟨eb,eo+6,none⟩=some (.slice a' e.es.length c'))∧eb<w.heap.size:=by
 have d:0<u.es.length:=by rw[he];simp
 obtain⟨eb,eo,rfl⟩:=hu.list.bN d;obtain⟨a',c',h7,b⟩:=hu.list.get 0 d;have f:u.es[0]=e:=by simp[he]
 rw[f]at h7 b;rw[Nat.zero_mul,Nat.add_zero]at h7;exact⟨eb,eo,a',c',rfl,d,b,h7.world hw,hw.lt h7.1⟩
theorem EK(C:BC)(u e:U)(hk:u.k=4)(he:u.es= [e])(O:bZ C e):bZ C u:=by
 intro p g mv ms a c w G P hu;have j:=Lib.hid (nv he);obtain⟨eb,eo,a',c',rfl,X,l,⟨z0,Y,z2,z3,z4,z5,Z⟩,Q⟩:=kK hu G.ka he;have R:=kf 1 hk;have S:=kf 2 hk;have T:=kf 3 hk;have V:=kt hk;have i:Below w.heap.size w (w.alloc (.cells #[.int .i64 u.k,.int .i64 u.n,.int .i64 u.m,.bool u.v,.string u.nm,.string u.tg,.slice (some ⟨eb,eo,none⟩) u.es.length c] 25)):=(Below.refl _ _).alloc (Nat.le_refl _) _;have r:=Lib.hid (O p g mv ms a' c' _ (G.below i) (by have:=j.out;omega) l);have s:=Lib.hid hk;have f:=Lib.hid i;have H:=Lib.hid he;clear hk hu l G i he;go_enter Tryz.func40,Tryz.ntmps40;go_wp2_with fail
 refine r.out.mono ?_;rintro e1 I ⟨x,q,M,J,K,rfl,L,d,t,y,_,W⟩;obtain⟨E,F,rfl⟩:=L.val;have z:=d.box #[.iface E (.pointer (some ⟨F,0,none⟩))] 166;have A:=t.box d #[.iface E (.pointer (some ⟨F,0,none⟩))] 166;have N:∀o,q I.heap.size o=none:=fun o=>d.wb.kw.aJ (Nat.le_refl _) o;have B:=L.sub (Pm.dj (cs:=#[.iface E (.pointer (some ⟨F,0,none⟩))]) N) (aH.refl M);have D:Hid (bA C u p g mv ms w (.returned (.iface 140 (.pointer (some ⟨I.heap.size,0,none⟩)))) (I.alloc (.cells #[.iface E (.pointer (some ⟨F,0,none⟩))] 166))):=
  ⟨_,_,M,J,K,rfl,.slice s.out H.out (by rw[Pm.aX];rfl) B,z,aD.ahead f.out A,fun b e=>(y b e).imp (fun h=>h) fun h=>Nat.le_trans f.out.size h,fun h=>(by have:=s.out;omega),by have:=j.out;omega⟩
 clear L d t y z A N B r;go_wp2_with fail
 refine(AQ _ _ _).mono ?_;rintro e2 w2 ⟨rfl,rfl⟩;go_wp2_with fail
 go_ret;exact D.out
theorem EM(C:BC)(u e:U)(hk:u.k=6)(he:u.es= [e])(O:bZ C e):bZ C u:=by
 intro p g mv ms a c w G P hu;have j:=Lib.hid (nv he);obtain⟨eb,eo,a',c',rfl,Y,l,⟨z0,Z,z2,z3,z4,z5,z6⟩,Q⟩:=kK hu G.ka he;have R:=kf 1 hk;have S:=kf 2 hk;have T:=kf 3 hk;have V:=kf 4 hk;have W:=kt hk;have i:Below w.heap.size w (w.alloc (.cells #[.int .i64 u.k,.int .i64 u.n,.int .i64 u.m,.bool u.v,.string u.nm,.string u.tg,.slice (some ⟨eb,eo,none⟩) u.es.length c] 25)):=(Below.refl _ _).alloc (Nat.le_refl _) _;have r:=Lib.hid (O p g mv ms a' c' _ (G.below i) (by have:=j.out;omega) l);have s:=Lib.hid hk;have f:=Lib.hid i;have H:=Lib.hid he;clear hk hu l G i he;go_enter Tryz.func40,Tryz.ntmps40;go_wp2_with fail
 refine r.out.mono ?_;rintro e1 I ⟨x,q,M,J,K,rfl,L,d,t,y,_,X⟩;obtain⟨E,F,rfl⟩:=L.val;have z:=d.box #[.iface E (.pointer (some ⟨F,0,none⟩))] 180;have A:=t.box d #[.iface E (.pointer (some ⟨F,0,none⟩))] 180;have N:∀o,q I.heap.size o=none:=fun o=>d.wb.kw.aJ (Nat.le_refl _) o;have B:=L.sub (Pm.dj (cs:=#[.iface E (.pointer (some ⟨F,0,none⟩))]) N) (aH.refl M);have D:Hid (bA C u p g mv ms w (.returned (.iface 142 (.pointer (some ⟨I.heap.size,0,none⟩)))) (I.alloc (.cells #[.iface E (.pointer (some ⟨F,0,none⟩))] 180))):=
  ⟨_,_,M,J,K,rfl,.pointer s.out H.out (by rw[Pm.aX];rfl) B,z,aD.ahead f.out A,fun b e=>(y b e).imp (fun h=>h) fun h=>Nat.le_trans f.out.size h,fun h=>(by have:=s.out;omega),by have:=j.out;omega⟩
 clear L d t y z A N B r;go_wp2_with fail
 refine(uK _ _ _).mono ?_;rintro e2 w2 ⟨rfl,rfl⟩;go_wp2_with fail
 go_ret;exact D.out
theorem jc{C:BC}{p q:Pm}{g i:Ge}{mv:Value}{ms a:List Nat}{w W c:World}(d:BS C p g mv ms w)(k:w.heap.size≤W.heap.size)(f:aD C p g mv ms W q i a c):(∀b o v,b<C.B0→W.cell? ⟨b,o,none⟩=some v→c.cell? ⟨b,o,none⟩=some v)∧∀b o v,w.heap.size≤b→W.cell? ⟨b,o,none⟩=some v→c.cell? ⟨b,o,none⟩=some v:=by
 refine⟨fun b o v j h=> ?_,fun b o v j h=> ?_⟩
 ·rw[f.kept.cell (World.block_lt_of_cell? _ _ h) fun e=>by have:=(d.ib (b:=b) (e.imp Eq.symm fun h=>h)).1;omega];exact h
 ·rw[f.kept.cell (World.block_lt_of_cell? _ _ h) fun e=>by have:=(d.ib (b:=b) (e.imp Eq.symm fun h=>h)).2.1;omega];exact h
theorem EN(C:BC)(u e:U)(hk:u.k=3)(he:u.es= [e])(hI:bZ C e):bZ C u:=by
 intro p g mv ms a c w r PM hu;have s:=Lib.hid (nv he);obtain⟨eb,eo,a',c',rfl,hl,t,⟨z0,z1,z2,z3,z4,z5,z6⟩,PN⟩:=kK hu r.ka he;have PO:=kf 1 hk;have PQ:=kf 2 hk;have PR:=kt hk;have j:Below w.heap.size w ((w.alloc (.cells #[.int .i64 u.k,.int .i64 u.n,.int .i64 u.m,.bool u.v,.string u.nm,.string u.tg,.slice (some ⟨eb,eo,none⟩) u.es.length c] 25)).drew):=((Below.refl _ _).alloc (Nat.le_refl _) _).drew;have y:=Lib.hid (hI p g mv ms a' c' _ (r.below j) (by have:=s.out;omega) t);have M:eb<C.B0:=by
  obtain⟨a2,c2,h7,_⟩:=hu.list.get 0 hl;exact r.la _ _ _ h7.1
 have z:=Lib.hid hk;have f:=Lib.hid j;have N:=Lib.hid he;have O:=Lib.hid r;clear hk hu t r j he;go_enter Tryz.func40,Tryz.ntmps40;go_wp2_with fail
 refine oR (fun W=>(W.cell? ⟨w.heap.size,0,none⟩=some (.int .i64 u.k)∧W.cell? ⟨w.heap.size,1,none⟩=some (.int .i64 u.n)∧W.cell? ⟨w.heap.size,2,none⟩=some (.int .i64 u.m)∧W.cell? ⟨w.heap.size,3,none⟩=some (.bool u.v)∧W.cell? ⟨w.heap.size,4,none⟩=some (.string u.nm)∧W.cell? ⟨w.heap.size,5,none⟩=some (.string u.tg)∧W.cell? ⟨w.heap.size,6,none⟩=some (.slice (some ⟨eb,eo,none⟩) u.es.length c))∧(W.cell? ⟨eb,eo,none⟩=some (.int .i64 e.k)∧W.cell? ⟨eb,eo+1,none⟩=some (.int .i64 e.n)∧W.cell? ⟨eb,eo+2,none⟩=some (.int .i64 e.m)∧W.cell? ⟨eb,eo+3,none⟩=some (.bool e.v)∧W.cell? ⟨eb,eo+4,none⟩=some (.string e.nm)∧W.cell? ⟨eb,eo+5,none⟩=some (.string e.tg)∧W.cell? ⟨eb,eo+6,none⟩=some (.slice a' e.es.length c'))) [(0,true),(1,true),(2,true),(3,true),(4,true),(6,true),(7,true),(5,false),(8,false),(9,true),(10,true)] (by(repeat' apply And.intro)<;>first|(simp[go_sem];done)|(go_keep;done)) (fun d=> ?_);repeat((first|refine oS ?_|refine oF d ?_);try simp only[Act.put,oa,ob,oc])
 refine oL fun K A=> ?_;go_simp;go_at_call 40
 refine y.out.mono ?_;rintro e1 P ⟨x,q,T,Q,R,rfl,S,i,l,B,_,PS⟩;obtain⟨J,L,rfl⟩:=S.val;obtain⟨D,E⟩:=jc O.out f.out.size l;obtain⟨⟨V,s1,s2,X,Y,Z,s6⟩,r0,r1,r2,r3,r4,r5,r6⟩:=d;(try simp only[]);refine A _ _ (by(repeat' apply And.intro)<;>first|exact E _ _ _ (Nat.le_refl _) (by assumption)|exact D _ _ _ M (by assumption)) fun d=> ?_;clear A K;try simp only[Act.put,oa,ob,oc]
 have F:=i.box #[.int .i64 u.n,.iface J (.pointer (some ⟨L,0,none⟩))] 163;have G:=l.box i #[.int .i64 u.n,.iface J (.pointer (some ⟨L,0,none⟩))] 163;have hd:∀o,q P.heap.size o=none:=fun o=>i.wb.kw.aJ (Nat.le_refl _) o;have H:=S.sub (Pm.dj (cs:=#[.int .i64 u.n,.iface J (.pointer (some ⟨L,0,none⟩))]) hd) (aH.refl T);have I:Hid (bA C u p g mv ms w (.returned (.iface 138 (.pointer (some ⟨P.heap.size,0,none⟩)))) (P.alloc (.cells #[.int .i64 u.n,.iface J (.pointer (some ⟨L,0,none⟩))] 163))):=
  ⟨_,_,T,Q,R,rfl,.array z.out N.out (by rw[Pm.aX];rfl) (by rw[Pm.aX];rfl) H,F,aD.ahead f.out G,fun b e=>(B b e).imp (fun h=>h) fun h=>Nat.le_trans f.out.size h,fun h=>(by have:=z.out;omega),by have:=s.out;omega⟩
 clear S i l B F G hd H y V s1 s2 X Y Z s6 r0 r1 r2 r3 r4 r5 r6;repeat((first|refine oS ?_|refine oF d ?_);try simp only[Act.put,oa,ob,oc])
 refine oL fun K A=> ?_;go_simp;go_at_call 81
 refine(AR _ _ _ _).mono ?_;rintro e2 w2 ⟨rfl,rfl⟩;obtain⟨⟨V,s1,s2,X,Y,Z,s6⟩,r0,r1,r2,r3,r4,r5,r6⟩:=d;(try simp only[]);refine A _ _ (by(repeat' apply And.intro)<;>exact ar ((Below.refl _ _).alloc (Nat.le_refl _) _) (by assumption)) fun d=> ?_;clear A K;try simp only[Act.put,oa,ob,oc]
 repeat((first|refine oS ?_|refine oF d ?_);try simp only[Act.put,oa,ob,oc])
 refine ch ?_;clear d;go_wp2_with fail
 go_ret;exact I.out
theorem EO(n:Int)(w:World):Calls Tryz.prog 86 #[.int .i64 n] w fun e a=>e= .returned (.int .i64 (fW n))∧w=a:=AW n w
theorem EP(C:BC)(u e:U)(hk:u.k=9)(he:u.es= [e])(hI:bZ C e):bZ C u:=by
 intro p g mv ms a c w s PM hu;have t:=Lib.hid (nv he);obtain⟨eb,eo,a',c',rfl,hl,y,⟨z0,z1,z2,z3,z4,z5,z6⟩,PN⟩:=kK hu s.ka he;have PO:=kf 1 hk;have PQ:=kf 2 hk;have PR:=kf 3 hk;have PS:=kf 4 hk;have PT:=kf 6 hk;have PU:=kf 8 hk;have PV:=kt hk;have l:Below w.heap.size w ((w.alloc (.cells #[.int .i64 u.k,.int .i64 u.n,.int .i64 u.m,.bool u.v,.string u.nm,.string u.tg,.slice (some ⟨eb,eo,none⟩) u.es.length c] 25)).drew):=((Below.refl _ _).alloc (Nat.le_refl _) _).drew;have z:=Lib.hid (hI p g mv ms a' c' _ (s.below l) (by have:=t.out;omega) y);have M:eb<C.B0:=by
  obtain⟨a2,c2,h7,_⟩:=hu.list.get 0 hl;exact s.la _ _ _ h7.1
 have A:=Lib.hid hk;have f:=Lib.hid l;have N:=Lib.hid he;have O:=Lib.hid s;clear hk hu y s l he;go_enter Tryz.func40,Tryz.ntmps40;go_wp2_with fail
 refine oR (fun W=>(W.cell? ⟨w.heap.size,0,none⟩=some (.int .i64 u.k)∧W.cell? ⟨w.heap.size,1,none⟩=some (.int .i64 u.n)∧W.cell? ⟨w.heap.size,2,none⟩=some (.int .i64 u.m)∧W.cell? ⟨w.heap.size,3,none⟩=some (.bool u.v)∧W.cell? ⟨w.heap.size,4,none⟩=some (.string u.nm)∧W.cell? ⟨w.heap.size,5,none⟩=some (.string u.tg)∧W.cell? ⟨w.heap.size,6,none⟩=some (.slice (some ⟨eb,eo,none⟩) u.es.length c))∧(W.cell? ⟨eb,eo,none⟩=some (.int .i64 e.k)∧W.cell? ⟨eb,eo+1,none⟩=some (.int .i64 e.n)∧W.cell? ⟨eb,eo+2,none⟩=some (.int .i64 e.m)∧W.cell? ⟨eb,eo+3,none⟩=some (.bool e.v)∧W.cell? ⟨eb,eo+4,none⟩=some (.string e.nm)∧W.cell? ⟨eb,eo+5,none⟩=some (.string e.tg)∧W.cell? ⟨eb,eo+6,none⟩=some (.slice a' e.es.length c'))) [(0,true),(1,true),(3,true),(4,true),(5,true),(6,true),(7,true),(2,false),(8,false),(9,false),(10,true),(11,true)] (by(repeat' apply And.intro)<;>first|(simp[go_sem];done)|(go_keep;done)) (fun d=> ?_);repeat((first|refine oS ?_|refine oF d ?_);try simp only[Act.put,oa,ob,oc])
 refine oL fun K j=> ?_;go_simp;go_at_call 86
 refine(EO u.n _).mono ?_;rintro e0 w0 ⟨rfl,rfl⟩;(try simp only[]);refine j _ _ (d) fun d=> ?_;clear j K;try simp only[Act.put,oa,ob,oc]
 repeat((first|refine oS ?_|refine oF d ?_);try simp only[Act.put,oa,ob,oc])
 refine oL fun K j=> ?_;go_simp;go_at_call 40
 refine z.out.mono ?_;rintro e1 P ⟨x,q,T,Q,R,rfl,S,i,r,B,_,PW⟩;obtain⟨J,L,rfl⟩:=S.val;obtain⟨D,E⟩:=jc O.out f.out.size r;obtain⟨⟨V,s1,s2,X,Y,Z,s6⟩,r0,r1,r2,r3,r4,r5,r6⟩:=d;(try simp only[]);refine j _ _ (by(repeat' apply And.intro)<;>first|exact E _ _ _ (Nat.le_refl _) (by assumption)|exact D _ _ _ M (by assumption)) fun d=> ?_;clear j K;try simp only[Act.put,oa,ob,oc]
 have F:=i.box #[.int .i64 (fW u.n),.iface J (.pointer (some ⟨L,0,none⟩))] 201;have G:=r.box i #[.int .i64 (fW u.n),.iface J (.pointer (some ⟨L,0,none⟩))] 201;have hd:∀o,q P.heap.size o=none:=fun o=>i.wb.kw.aJ (Nat.le_refl _) o;have H:=S.sub (Pm.dj (cs:=#[.int .i64 (fW u.n),.iface J (.pointer (some ⟨L,0,none⟩))]) hd) (aH.refl T);have I:Hid (bA C u p g mv ms w (.returned (.iface 146 (.pointer (some ⟨P.heap.size,0,none⟩)))) (P.alloc (.cells #[.int .i64 (fW u.n),.iface J (.pointer (some ⟨L,0,none⟩))] 201))):=
  ⟨_,_,T,Q,R,rfl,.chan A.out N.out (by rw[Pm.aX];rfl) (by rw[Pm.aX];rfl) H,F,aD.ahead f.out G,fun b e=>(B b e).imp (fun h=>h) fun h=>Nat.le_trans f.out.size h,fun h=>(by have:=A.out;omega),by have:=t.out;omega⟩
 clear S i r B F G hd H z V s1 s2 X Y Z s6 r0 r1 r2 r3 r4 r5 r6;repeat((first|refine oS ?_|refine oF d ?_);try simp only[Act.put,oa,ob,oc])
 refine oL fun K j=> ?_;go_simp;go_at_call 85
 refine(AT _ _ _ _).mono ?_;rintro e2 w2 ⟨rfl,rfl⟩;obtain⟨⟨V,s1,s2,X,Y,Z,s6⟩,r0,r1,r2,r3,r4,r5,r6⟩:=d;(try simp only[]);refine j _ _ (by(repeat' apply And.intro)<;>exact ar ((Below.refl _ _).alloc (Nat.le_refl _) _) (by assumption)) fun d=> ?_;clear j K;try simp only[Act.put,oa,ob,oc]
 repeat((first|refine oS ?_|refine oF d ?_);try simp only[Act.put,oa,ob,oc])
 refine ch ?_;clear d;go_wp2_with fail
 go_ret;exact I.out
theorem ER{C:BC}{u d e:U}{a:Option Addr}{c:Nat}{w:World}(hu:ak C.pa C.D u a c)(hw:KW C.pa w)(he:u.es= [d,e]):∃eb eo a' c' a2 c2,a=some ⟨eb,eo,none⟩∧1<u.es.length∧ak C.pa C.D d a' c'∧ak C.pa C.D e a2 c2∧(w.cell? ⟨eb,eo,none⟩=some (.int .i64 d.k)∧w.cell? ⟨eb,eo+1,none⟩=some (.int .i64 d.n)∧w.cell? ⟨eb,eo+2,none⟩=some (.int .i64 d.m)∧w.cell? ⟨eb,eo+3,none⟩=some (.bool d.v)∧w.cell? ⟨eb,eo+4,none⟩=some (.string d.nm)∧w.cell? ⟨eb,eo+5,none⟩=some (.string d.tg)∧w.cell? ⟨eb,eo+6,none⟩=some (.slice a' d.es.length c'))∧(w.cell? ⟨eb,eo+7,none⟩=some (.int .i64 e.k)∧w.cell? ⟨eb,eo+8,none⟩=some (.int .i64 e.n)∧w.cell? ⟨eb,eo+9,none⟩=some (.int .i64 e.m)∧w.cell? ⟨eb,eo+10,none⟩=some (.bool e.v)∧w.cell? ⟨eb,eo+11,none⟩=some (.string e.nm)∧w.cell? ⟨eb,eo+12,none⟩=some (.string e.tg)∧w.cell? ⟨eb,eo+13,none⟩=some (.slice a2 e.es.length c2))∧eb<w.heap.size∧∃v,C.pa eb eo=some v:=by
 have i:1<u.es.length:=by rw[he];simp
 obtain⟨eb,eo,rfl⟩:=hu.list.bN (by omega);obtain⟨a',c',h7,b⟩:=hu.list.get 0 (by omega);obtain⟨a2,c2,g,f⟩:=hu.list.get 1 i;have j:u.es[0]=d:=by simp[he]
 have h:u.es[1]=e:=by simp[he]
 rw[j]at h7 b;rw[h]at g f;rw[Nat.zero_mul,Nat.add_zero]at h7;rw[Nat.one_mul]at g;exact⟨eb,eo,a',c',a2,c2,rfl,i,b,f,h7.world hw,g.world hw,hw.lt h7.1,_,h7.1⟩
theorem ES(C:BC)(u d e:U)(hk:u.k=8)(he:u.es= [d,e])(hI:bZ C d)(hJ:bZ C e):bZ C u:=by
 intro p g mv ms a c w J PW hu;have D:=Lib.hid (EJ he);obtain⟨eb,eo,a',c',a2,c2,rfl,hl,L,M,⟨z0,z1,z2,z3,z4,z5,z6⟩,⟨y0,y1,y2,y3,y4,y5,y6⟩,PX,_,hv⟩:=ER hu J.ka he;have PY:=kf 1 hk;have PZ:=kf 2 hk;have P0:=kf 3 hk;have P1:=kf 4 hk;have P2:=kf 6 hk;have P3:=kt hk;have P4:0<u.es.length:=by omega
 have P5:(1:Int)<(u.es.length:Int):=by omega
 have E:Below w.heap.size w ((w.alloc (.cells #[.int .i64 u.k,.int .i64 u.n,.int .i64 u.m,.bool u.v,.string u.nm,.string u.tg,.slice (some ⟨eb,eo,none⟩) u.es.length c] 25)).drew):=((Below.refl _ _).alloc (Nat.le_refl _) _).drew;have N:=Lib.hid (hI p g mv ms a' c' _ (J.below E) (by have:=D.out;omega) L);have O:eb<C.B0:=J.la _ _ _ hv;have P:=Lib.hid hk;have s:=Lib.hid E;have PN:=Lib.hid he;have F:=Lib.hid J;have PO:=Lib.hid hJ;have Q:=Lib.hid M;clear hk hu L J E he hI hJ M hv;go_enter Tryz.func40,Tryz.ntmps40;go_wp2_with fail
 refine oR (fun W=>(W.cell? ⟨w.heap.size,0,none⟩=some (.int .i64 u.k)∧W.cell? ⟨w.heap.size,1,none⟩=some (.int .i64 u.n)∧W.cell? ⟨w.heap.size,2,none⟩=some (.int .i64 u.m)∧W.cell? ⟨w.heap.size,3,none⟩=some (.bool u.v)∧W.cell? ⟨w.heap.size,4,none⟩=some (.string u.nm)∧W.cell? ⟨w.heap.size,5,none⟩=some (.string u.tg)∧W.cell? ⟨w.heap.size,6,none⟩=some (.slice (some ⟨eb,eo,none⟩) u.es.length c))∧(W.cell? ⟨eb,eo,none⟩=some (.int .i64 d.k)∧W.cell? ⟨eb,eo+1,none⟩=some (.int .i64 d.n)∧W.cell? ⟨eb,eo+2,none⟩=some (.int .i64 d.m)∧W.cell? ⟨eb,eo+3,none⟩=some (.bool d.v)∧W.cell? ⟨eb,eo+4,none⟩=some (.string d.nm)∧W.cell? ⟨eb,eo+5,none⟩=some (.string d.tg)∧W.cell? ⟨eb,eo+6,none⟩=some (.slice a' d.es.length c'))∧(W.cell? ⟨eb,eo+7,none⟩=some (.int .i64 e.k)∧W.cell? ⟨eb,eo+8,none⟩=some (.int .i64 e.n)∧W.cell? ⟨eb,eo+9,none⟩=some (.int .i64 e.m)∧W.cell? ⟨eb,eo+10,none⟩=some (.bool e.v)∧W.cell? ⟨eb,eo+11,none⟩=some (.string e.nm)∧W.cell? ⟨eb,eo+12,none⟩=some (.string e.tg)∧W.cell? ⟨eb,eo+13,none⟩=some (.slice a2 e.es.length c2))) [(0,true),(1,true),(2,true),(3,true),(4,true),(6,true),(7,true),(8,true),(9,true),(10,true),(5,false),(11,false),(12,false),(13,true),(14,true)] (by(repeat' apply And.intro)<;>first|(simp[go_sem];done)|(go_keep;done)) (fun f=> ?_);repeat((first|refine oS ?_|refine oF f ?_);try simp only[Act.put,oa,ob,oc])
 refine oL fun K B=> ?_;go_simp;go_at_call 40
 refine N.out.mono ?_;rintro e1 w1 ⟨x,q,g',PQ,PR,rfl,hn,G,z,R,_,P6⟩;obtain⟨xt,xb,rfl⟩:=hn.val;obtain⟨i,j⟩:=jc F.out s.out.size z;obtain⟨⟨s0,s1,s2,s3,s4,s5,s6⟩,⟨r0,r1,r2,r3,r4,r5,r6⟩,q0,q1,q2,q3,q4,q5,q6⟩:=f;(try simp only[]);refine B _ _ (by(repeat' apply And.intro)<;>first|exact j _ _ _ (Nat.le_refl _) (by assumption)|exact i _ _ _ O (by assumption)) fun f=> ?_;clear B K;try simp only[Act.put,oa,ob,oc]
 have S:=Lib.hid (PO.out q g' PQ PR a2 c2 w1 G (by have:=D.out;omega) Q.out);have P7:=z.size;have PS:=Lib.hid hn;have T:=Lib.hid G;have V:=Lib.hid z;have t:=Lib.hid R;clear hn G z R N i j s0 s1 s2 s3 s4 s5 s6 r0 r1 r2 r3 r4 r5 r6 q0 q1 q2 q3 q4 q5 q6;repeat((first|refine oS ?_|refine oF f ?_);try simp only[Act.put,oa,ob,oc])
 refine oL fun K B=> ?_;go_simp;go_at_call 40
 refine S.out.mono ?_;rintro e2 w2 ⟨y,r,g2,PT,PU,rfl,H,A,l,X,_,P8⟩;obtain⟨yt,yb,rfl⟩:=H.val;have PV:=s.out.size;obtain⟨i,_⟩:=jc T.out (Nat.le_refl _) l;have j:∀o v,w1.cell? ⟨w.heap.size,o,none⟩=some v→w2.cell? ⟨w.heap.size,o,none⟩=some v:=fun o v h=>by
  rw[l.kept.cell (World.block_lt_of_cell? _ _ h) fun e=> ?_]
  ·exact h
  ·have h1:=(F.out.ib (b:=C.bb) (.inl rfl)).2.1
   rcases e with(e:w.heap.size=C.bb)|e
   ·omega
   ·rcases t.out _ e with e|e
    ·have:=(F.out.ib (b:=w.heap.size) (.inr e)).2.1;omega
    ·have:w.heap.size+1≤w.heap.size:=by simpa using e
     omega
 obtain⟨⟨s0,s1,s2,s3,s4,s5,s6⟩,⟨r0,r1,r2,r3,r4,r5,r6⟩,q0,q1,q2,q3,q4,q5,q6⟩:=f;(try simp only[]);refine B _ _ (by(repeat' apply And.intro)<;>first|exact j _ _ (by assumption)|exact i _ _ _ O (by assumption)) fun f=> ?_;clear B K;try simp only[Act.put,oa,ob,oc]
 have hT:=V.out.trans l t.out;have Y:=A.box #[.iface xt (.pointer (some ⟨xb,0,none⟩)),.iface yt (.pointer (some ⟨yb,0,none⟩))] 198;have Z:=hT.box A #[.iface xt (.pointer (some ⟨xb,0,none⟩)),.iface yt (.pointer (some ⟨yb,0,none⟩))] 198;have hd:∀o,r w2.heap.size o=none:=fun o=>A.wb.kw.aJ (Nat.le_refl _) o;have I:=Pm.dj (cs:=#[.iface xt (.pointer (some ⟨xb,0,none⟩)),.iface yt (.pointer (some ⟨yb,0,none⟩))]) hd;have PM:Hid (bA C u p g mv ms w (.returned (.iface 144 (.pointer (some ⟨w2.heap.size,0,none⟩)))) (w2.alloc (.cells #[.iface xt (.pointer (some ⟨xb,0,none⟩)),.iface yt (.pointer (some ⟨yb,0,none⟩))] 198))):=
  ⟨_,_,g2,PT,PU,rfl,.map P.out PN.out (by rw[Pm.aX];rfl) (by rw[Pm.aX];rfl) ((PS.out.sub l.gr.le l.gs).sub I (aH.refl _)) (H.sub I (aH.refl _)),Y,aD.ahead s.out Z,fun b e=>by
   rcases X b e with e|e
   ·exact(t.out b e).imp (fun h=>h) fun h=>Nat.le_trans PV h
   ·exact .inr (by omega),fun h=>(by have:=P.out;omega),by have:=D.out;omega⟩
 clear H A l X hT Y Z hd I S i j s0 s1 s2 s3 s4 s5 s6 r0 r1 r2 r3 r4 r5 r6 q0 q1 q2 q3 q4 q5 q6;repeat((first|refine oS ?_|refine oF f ?_);try simp only[Act.put,oa,ob,oc])
 refine oL fun K B=> ?_;go_simp;go_at_call 84
 refine(AS _ _ _ _ _).mono ?_;rintro e2 w3 ⟨rfl,rfl⟩;obtain⟨⟨s0,s1,s2,s3,s4,s5,s6⟩,⟨r0,r1,r2,r3,r4,r5,r6⟩,q0,q1,q2,q3,q4,q5,q6⟩:=f;(try simp only[]);refine B _ _ (by(repeat' apply And.intro)<;>exact ar ((Below.refl _ _).alloc (Nat.le_refl _) _) (by assumption)) fun f=> ?_;clear B K;try simp only[Act.put,oa,ob,oc]
 repeat((first|refine oS ?_|refine oF f ?_);try simp only[Act.put,oa,ob,oc])
 refine ch ?_;clear f;go_wp2_with fail
 go_ret;exact PM.out
theorem ET(C:BC)(u:U)(hk:u.k=11)(hT:gK C u):bZ C u:=by
 intro p g mv ms a c w j J hu;have K:=kf 1 hk;have L:=kf 2 hk;have M:=kf 3 hk;have N:=kf 4 hk;have O:=kf 6 hk;have P:=kf 8 hk;have Q:=kf 9 hk;have R:=kf 5 hk;have S:=kf 7 hk;have G:=kt hk;obtain⟨pos,f,W,y,H⟩:=hT.pl;have o:=(y.form.kV hk).1.1;have T:=(y.form.kV hk).1.2;have i:=H.named hk;have l:∀m,Below w.heap.size w ((w.alloc (.cells #[.int .i64 u.k,.int .i64 u.n,.int .i64 u.m,.bool u.v,.string u.nm,.string u.tg,.slice a u.es.length c] 25)).drewN m):=fun m=>sQ ((Below.refl _ _).alloc (Nat.le_refl _) _) m;obtain⟨h1,hr⟩:=j.c1;have hlen:=j.len;have d:u.n.toNat<g.len:=by omega
 obtain⟨X,V,q,r⟩:=hr u.n.toNat d;rw[q]at h1;clear q;have d1:=j.wb.kw _ _ _ r;have z:=World.block_lt_of_cell? _ _ h1;have A:=World.block_lt_of_cell? _ _ d1;simp only at z A;have I:u.n<(g.len:Int):=by omega
 have s:TS.Node p g u (ae 58 (g.nb u.n.toNat)):=by
  split at i
  ·exact .iD hk o d i (j.nm _ d)
  ·obtain⟨B,hi,D⟩:=i
   obtain⟨x,E,F⟩:=j.tn _ B hi;exact .named hk o d D (j.nm _ d) E F
 have t:Hid (∀m,bA C u p g mv ms w (.returned (.iface 58 (.pointer (some ⟨g.nb u.n.toNat,0,none⟩)))) ((w.alloc (.cells #[.int .i64 u.k,.int .i64 u.n,.int .i64 u.m,.bool u.v,.string u.nm,.string u.tg,.slice a u.es.length c] 25)).drewN m)):=fun m=>
  ⟨_,p,g,mv,ms,rfl,s,j.below (l m),aD.ahead (l m) (aD.refl _ _ _ _ _ _),fun b e=> .inl e,fun h=>(by omega),by omega⟩
 clear s i H y hT hu j l hr r hk hlen;go_enter Tryz.func40,Tryz.ntmps40;go_wp2_with fail
 go_quiet (fail)
 go_wp2_with fail
 go_ret;exact t.out _
theorem EU(C:BC)(u:U)(hk:u.k=15)(hT:gK C u):bZ C u:=by
 intro p g mv ms a c w q B hu;have D:=kf 1 hk;have E:=kf 2 hk;have F:=kf 3 hk;have G:=kf 4 hk;have H:=kf 6 hk;have I:=kf 8 hk;have J:=kf 9 hk;have K:=kf 5 hk;have L:=kf 7 hk;have s:=kf 11 hk;have t:=kf 12 hk;have y:=kf 13 hk;have z:=kt hk;obtain⟨pos,f,N,M,A⟩:=hT.pl;have i:=A.err hk;have d:Below w.heap.size w (w.alloc (.cells #[.int .i64 u.k,.int .i64 u.n,.int .i64 u.m,.bool u.v,.string u.nm,.string u.tg,.slice a u.es.length c] 25)):=(Below.refl _ _).alloc (Nat.le_refl _) _;have j:=q.below d;have h2:=q.c2;have r:=World.block_lt_of_cell? _ _ h2;simp only at r;have l:TS.Node p g u (ae 58 g.eb):=let⟨h1,x,h2,h3⟩:=q.err; .err hk i h1 h2 h3;have o:Hid (bA C u p g mv ms w (.returned (.iface 58 (.pointer (some ⟨g.eb,0,none⟩)))) (w.alloc (.cells #[.int .i64 u.k,.int .i64 u.n,.int .i64 u.m,.bool u.v,.string u.nm,.string u.tg,.slice a u.es.length c] 25))):=
  ⟨_,p,g,mv,ms,rfl,l,j,aD.ahead d (aD.refl _ _ _ _ _ _),fun b e=> .inl e,fun h=>(by omega),by omega⟩
 clear l j A M hT hu q d hk i;go_enter Tryz.func40,Tryz.ntmps40;go_wp2_with fail
 go_ret;exact o.out
theorem EV(C:BC)(u:U)(hk:u.k=16):bZ C u:=by
 intro p g mv ms a c w l y hu;have z:=kf 1 hk;have A:=kf 2 hk;have B:=kf 3 hk;have D:=kf 4 hk;have E:=kf 6 hk;have F:=kf 8 hk;have G:=kf 9 hk;have H:=kf 5 hk;have I:=kf 7 hk;have q:=kf 11 hk;have r:=kf 12 hk;have s:=kf 13 hk;have t:=kf 15 hk;have x:=kt hk;have d:Below w.heap.size w (w.alloc (.cells #[.int .i64 u.k,.int .i64 u.n,.int .i64 u.m,.bool u.v,.string u.nm,.string u.tg,.slice a u.es.length c] 25)):=(Below.refl _ _).alloc (Nat.le_refl _) _;have f:=l.below d;have h2:=l.c3;have o:=World.block_lt_of_cell? _ _ h2;simp only at o;have i:TS.Node p g u (ae 58 g.cb):=let⟨h1,b,h2,h3⟩:=l.cmp; .comp hk h1 h2 h3;have j:Hid (bA C u p g mv ms w (.returned (.iface 58 (.pointer (some ⟨g.cb,0,none⟩)))) (w.alloc (.cells #[.int .i64 u.k,.int .i64 u.n,.int .i64 u.m,.bool u.v,.string u.nm,.string u.tg,.slice a u.es.length c] 25))):=
  ⟨_,p,g,mv,ms,rfl,i,f,aD.ahead d (aD.refl _ _ _ _ _ _),fun b e=> .inl e,fun h=>(by omega),by omega⟩
 clear i f hu l d hk;go_enter Tryz.func40,Tryz.ntmps40;go_wp2_with fail
 go_ret;exact j.out
end Go.Proofs.YtdkmnkjhhhmglaaGreatDoor
