import Derived.Test.YtgbklbbknehefaaGreatDoorYac
import Derived.Test.YtgbklbbknehefaaGreatDoorYbk
set_option maxRecDepth 100000
set_option maxHeartbeats 8000000
set_option linter.all false
namespace TS
open Go Go.RowKit Go.Proofs.YtgbklbbknehefaaGreatDoor
theorem tR{p:Pm}{B:Nat}{w:World}{e:TypeId}{v:Value}{xs:List Value}(l:WB p w)(h:w.ownsRow B e 1 v xs.length xs)(n:∀b,v.ownBlock=some b→∀o,p b o=none):
 ∃q a c,v= .slice a xs.length c∧aK p q B∧WB q w∧bK q a xs.length (fun i=>xs.getD i undef)∧(∀b,v.ownBlock≠some b→∀o,q b o=p b o)∧xs.length≤c∧(a=none→c=0)∧∀x,a=some x→x.spot=none:=by
 rcases h.2 with⟨j,s⟩|⟨b,cap,cur,j,t,u,y,m,z,d⟩
 ·exact⟨p,none,0,by rw[j,s],aK.refl _ _,l,fun i hi=>by omega,fun _ _ _=>rfl,by omega,fun _=>rfl,fun x h=>(by cases h)⟩
 ·have k:=n b (by rw[j];rfl)
  have f:∀i,i<xs.length→cur[i]?=some (xs.getD i undef):=fun i hi=>by
   have:(cur.toList.take (xs.length*1))[i]?=some (xs.getD i undef):=by rw[d];simp[hi]
   rw[List.getElem?_take,if_pos (by omega)]at this;simpa using this
  refine⟨p.add b cur,some ⟨b,0,none⟩,cap,j,Pm.cW k t,l.add k u,fun i hi=>⟨b,0,rfl,?_⟩,fun c m o=>Pm.aJ _ _ _ fun e=>m (by rw[j,e];rfl),y,fun h=>(by cases h),fun x h=>by cases h;rfl⟩;rw[Pm.aQ,Nat.zero_add];exact f i hi
section
variable {C:BC} {p q r:Pm} {g g1 g2:Ge} {mv mv1:Value} {ms ms1 ms2:List Nat} {w w1 w2:World}
theorem BS.iI(h:BS C p g mv ms w)(a:Sub p q)(j:WB q w)(c:∀b o v,q b o=some v→C.B0≤b)(d:∀o,q C.bb o=none)(f:∀b,mv.ownBlock=some b→∀o,q b o=none)(k:∀b u,g.G b=some u→p b 6=none→q b 6=none):BS C q g mv ms w where
 ka:=h.ka
 la:=h.la
 wb:=j
 lp:=c
 inj:=h.inj
 gv:=h.gv
 bl:=h.bl
 pb:=d
 c0:=h.c0
 c1:=let⟨h1,h2⟩:=h.c1;⟨h1,h2.sub a⟩
 c2:=h.c2
 c3:=h.c3
 c4:=h.c4
 f4:=h.f4
 row:=h.row
 rd:=fun b e=>⟨(h.rd b e).1,f b e⟩
 ord:=h.ord
 mlt:=h.mlt
 ifs:=fun b u e=>(h.ifs b u e).mono a (aD.refl g) (fun _ h=>h) (Nat.le_refl _) rfl rfl (k b u e)
 len:=h.len
 nm:=fun i hi=>a _ _ _ (h.nm i hi)
 po:=fun i hi=>let⟨o,v,e⟩:=h.po i hi;⟨o,v,a _ _ _ e⟩
 cD:=let⟨o,v,e⟩:=h.cD;⟨o,v,a _ _ _ e⟩
 cE:=let⟨o,v,e⟩:=h.cE;⟨o,v,a _ _ _ e⟩
 err:=let⟨h1,x,h2,h3⟩:=h.err;⟨a _ _ _ h1,x,h2.sub a,h3.sub a (aD.refl g)⟩
 cmp:=let⟨h1,b,h2,h3⟩:=h.cmp;⟨a _ _ _ h1,b,h2.sub a,h3⟩
 tn:=fun n l hi=>let⟨x,h1,h2⟩:=h.tn n l hi;⟨x,h1.sub a,h2.sub a (aD.refl g)⟩
theorem BS.apart(h:BS C p g mv ms w){e:TypeId}(he:e≠33){B:Nat}{v:Value}{n:Nat}{xs:List Value}(a:w.ownsRow B e 1 v n xs)(i:C.bb<B){b:Nat}(c:v.ownBlock=some b):b≠C.bb∧mv.ownBlock≠some b:=by
 refine⟨fun e=> ?_,fun f=> ?_⟩
 ·have:=(a.lt b c).1;omega
 ·obtain⟨cur,h1⟩:=gC a c
  obtain⟨d,h2⟩:=gC h.row f;rw[h1]at h2;injection h2 with h2;injection h2 with _ h2;exact he h2
theorem az.row(h:BS C p g mv ms w)(k:az C p g mv ms w q g1 ms1 w1){e:TypeId}(he:e≠33){B:Nat}{v:Value}{n:Nat}{xs:List Value}(a:w.ownsRow B e 1 v n xs)(c:C.bb<B)(d:∀b,v.ownBlock=some b→∀o,p b o=none):
 w1.ownsRow B e 1 v n xs∧∀b,v.ownBlock=some b→∀o,q b o=none:=
 ⟨dL a k.kept fun b f i=>by
  have:=h.apart he a c f;exact i.elim this.1 this.2,fun b e o=>k.gr.aG (a.lt b e).2 (d b e) o⟩
theorem az.iI(h:az C p g mv ms w q g1 ms1 w1)(a:aK q r w.heap.size):az C p g mv ms w r g1 ms1 w1:=⟨h.gr.trans a (Nat.le_refl _),h.gs,h.gn,h.kept,h.mm⟩
theorem BS.iJ(h:BS C q g mv ms w){e:TypeId}(he:e≠33){l:Nat}{v:Value}{xs:List Value}(n:w.ownsRow l e 1 v xs.length xs)(s:∀b,v.ownBlock=some b→∀o,q b o=none)(t:C.bb<l):
 ∃f a c,v= .slice a xs.length c∧aK q f l∧BS C f g mv ms w∧bK f a xs.length (fun i=>xs.getD i undef)∧(∀b,v.ownBlock≠some b→∀o,f b o=q b o)∧xs.length≤c∧(a=none→c=0)∧∀x,a=some x→x.spot=none:=by
 obtain⟨f,a,c,h1,h2,h3,y,k,m⟩:=tR h.wb n s;have j:=fun b (d:v.ownBlock=some b)=>h.apart he n t d;have z:=h.bl;refine⟨f,a,c,h1,h2,h.iI h2.le h3 (fun b o x A=>(h2.new _ _ _ A).elim (h.lp b o x) fun h=>by omega) (fun o=> ?_) (fun b d o=> ?_) (fun b u hu m=> ?_),y,k,m⟩
 ·rw[k _ fun d=>(j _ d).1 rfl];exact h.pb o
 ·rw[k _ fun B=>(j _ B).2 d];exact(h.rd b d).2 o
 ·rw[k _ fun d=> ?_]
  ·exact m
  ·have:=(h.ifs b u hu).2.1
   rw[s b d 0]at this;cases this
theorem BS.appended{a:World}(h:BS C q g mv ms w){e:TypeId}(he:e≠33){d:Nat}{v:Value}{n:Nat}{xs:List Value}(f:w.ownsRow d e 1 v n xs)(i:∀b,v.ownBlock=some b→∀o,q b o=none)(j:C.bb<d)(l:w.grownBy a v.ownBlock):BS C q g mv ms a∧Kept (fun b=>v.ownBlock=some b) w a:=by
 have hk:Kept (fun b=>v.ownBlock=some b) w a:=(Kept.refl _ _).grown l fun k hk _=>hk;refine⟨h.own hk fun b c=> ?_,hk⟩;have h1:=h.apart he f j c;have h2:=(f.lt b c).1;have h3:=h.bl;exact⟨by omega,i b c,h1.1,h1.2⟩
theorem jr{B i:Nat}{e f:TypeId}(he:e≠f){v v2:Value}{n j:Nat}{xs c:List Value}(k:w.ownsRow B e 1 v n xs)(d:w.ownsRow i f 1 v2 j c){b:Nat}(h:v.ownBlock=some b):v2.ownBlock≠some b:=fun l=>by
 obtain⟨c1,m⟩:=gC k h;obtain⟨c2,a⟩:=gC d l;rw[m]at a;injection a with a;injection a with _ a;exact he a
theorem js{v c:Value}(h:WB q w)(d:∀b,v.ownBlock=some b→∀o,q b o=none)(a:c.ownBlock=v.ownBlock∨c.ownBlock=some w.heap.size):∀b,c.ownBlock=some b→∀o,q b o=none:=fun b e o=>by
 rcases a with a|a
 ·exact d b (a▸e) o
 ·rw[a]at e;cases e;exact h.kw.aG (Nat.le_refl _) o
end
structure gT(C:BC)(u:U)(p:Pm)(g:Ge)(mv:Value)(ms:List Nat)(w:World)(k:Nat)(q:Pm)(d:Ge)(c:Value)(a fs:List Nat)(xs:Nat→Value)(f vt:Value)(wr:World):Prop where
 bs:BS C q d c a wr
 st:az C p g mv ms w q d a wr
 om:∀b,c.ownBlock=some b→mv.ownBlock=some b∨w.heap.size≤b
 fl:fs.length=k
 fr:wr.ownsRow w.heap.size 102 1 f fs.length (fs.map pv)
 tr:wr.ownsRow w.heap.size 9 1 vt ((u.es.take k).map fun e=>Value.string e.tg).length ((u.es.take k).map fun e=>Value.string e.tg)
 fd:∀b,f.ownBlock=some b→∀o,q b o=none
 td:∀b,vt.ownBlock=some b→∀o,q b o=none
 cl:∀i(h:i<u.es.length),i<k→q (fs.getD i 0) 1=some (ptr g.pk)∧q (fs.getD i 0) 2=some (.string u.es[i].nm)∧q (fs.getD i 0) 3=some (xs i)∧q (fs.getD i 0) 5=some (.bool false)
 nd:∀i(h:i<u.es.length),i<k→Node q d u.es[i] (xs i)
 ct:a.length≤ms.length+aO (u.es.take k)
theorem gT.step{C:BC}{u e:U}{p q F:Pm}{g g' g1:Ge}{mv G mv1:Value}{ms H ms1 fs:List Nat}{w Z wr w1 I w5:World}{k:Nat}{xs:Nat→Value}{Y vt t v x:Value}
 (hF:gT C u p g mv ms w k q g' G H fs xs Y vt wr)(y:C.bb<w.heap.size)(M:u.es[k]?=some e)(c:Below wr.heap.size wr Z)
 (P4:Node F g1 e x)(J:BS C F g1 mv1 ms1 w1)(f:az C q g' G H Z F g1 ms1 w1)(P5:∀b,mv1.ownBlock=some b→G.ownBlock=some b∨Z.heap.size≤b)(Qj:ms1.length≤H.length+cn e)
 {bs cs:Array Value}{Tb Tc:TypeId}(P6:I.ownsRow w.heap.size 102 1 t (fs.length+1) (fs.map pv++ [pv w1.heap.size]))
 (P7:((w1.alloc (.cells #[.int .i64 0,ptr g.pk,.string e.nm,x,.int .u8 6,.bool false] 170)).alloc (.cells bs Tb)).grownBy I Y.ownBlock)
 (P8:t.ownBlock=Y.ownBlock∨t.ownBlock=some ((w1.alloc (.cells #[.int .i64 0,ptr g.pk,.string e.nm,x,.int .u8 6,.bool false] 170)).alloc (.cells bs Tb)).heap.size)
 (P9:w5.ownsRow w.heap.size 9 1 v (((u.es.take k).map fun e=>Value.string e.tg).length+1) (((u.es.take k).map fun e=>Value.string e.tg)++ [.string e.tg]))
 (P_:(I.alloc (.cells cs Tc)).grownBy w5 vt.ownBlock)(Qa:v.ownBlock=vt.ownBlock∨v.ownBlock=some (I.alloc (.cells cs Tc)).heap.size):
 gT C u p g mv ms w (k+1) (F.add w1.heap.size #[.int .i64 0,ptr g.pk,.string e.nm,x,.int .u8 6,.bool false]) g1 mv1 ms1 (fs++ [w1.heap.size]) (fun i=>if i=k then x else xs i) t v w5:=by
 obtain⟨hk,j⟩:=List.getElem?_eq_some_iff.1 M;have K:=az.row (hF.bs.below c) f (by decide) (bq hF.fr c) y hF.fd;have L:=az.row (hF.bs.below c) f (by decide) (bq hF.tr c) y hF.td;have Qb:=J.box #[.int .i64 0,ptr g.pk,.string e.nm,x,.int .u8 6,.bool false] 170;have Qc:=hF.st.trans (az.ahead c f) hF.om;have Qd:=Qc.box J #[.int .i64 0,ptr g.pk,.string e.nm,x,.int .u8 6,.bool false] 170;have hd:∀o,F w1.heap.size o=none:=fun o=>J.wb.kw.aG (Nat.le_refl _) o;have z:=Pm.cP (cs:=#[.int .i64 0,ptr g.pk,.string e.nm,x,.int .u8 6,.bool false]) hd;generalize Qe:#[.int .i64 0,ptr g.pk,.string e.nm,x,.int .u8 6,.bool false]=d at*;have A:Below w1.heap.size w1 ((w1.alloc (.cells d 170)).alloc (.cells bs Tb)):=((Below.refl _ _).alloc (Nat.le_refl _) _).alloc (by simp) _;have N:Below (w1.alloc (.cells d 170)).heap.size (w1.alloc (.cells d 170)) ((w1.alloc (.cells d 170)).alloc (.cells bs Tb)):=(Below.refl _ _).alloc (Nat.le_refl _) _;have B:=Qb.below N;have O:=Qd.below N;have P:∀b,Y.ownBlock=some b→∀o,F.add w1.heap.size d b o=none:=fun b a o=>by
  rw[Pm.aJ _ _ _ fun e2=>by have:=(K.1.lt b a).2;omega];exact K.2 b a o
 have Q:∀b,vt.ownBlock=some b→∀o,F.add w1.heap.size d b o=none:=fun b a o=>by
  rw[Pm.aJ _ _ _ fun e2=>by have:=(L.1.lt b a).2;omega];exact L.2 b a o
 have l:=bq K.1 A;have D:=bq L.1 A;obtain⟨R,S⟩:=B.appended (by decide) l P y P7;have Qf:=O.own S fun b a=>(l.lt b a).1;have T:=dL D S fun b a=>jr (by decide) D l a;have m:Below I.heap.size I (I.alloc (.cells cs Tc)):=(Below.refl _ _).alloc (Nat.le_refl _) _;have n:=bq T m;have E:=bq P6 m;obtain⟨Qg,V⟩:=(R.below m).appended (by decide) n Q y P_;have Qh:=(Qf.below m).own V fun b a=>(n.lt b a).1;have W:=dL E V fun b a=>jr (by decide) E n a;have X:=hF.fl;have s:=f.gr.le.trans z;have Qi:=f.gs;refine⟨Qg,Qh,fun b a=> ?_,by simp[X],by simpa using W,?_,js B.wb P P8,js (R.below m).wb Q Qa,fun i h hi=> ?_,fun i h hi=> ?_,by have:=hF.ct;have:=fo M;omega⟩
 ·rcases P5 b a with a|a
  ·exact hF.om b a
  ·have:=c.size;have:=hF.st.size;exact .inr (by omega)
 ·rw[List.take_succ_eq_append_getElem hk,j]
  simpa using P9
 ·by_cases a:i=k
  ·subst a
   rw[j,if_pos rfl,show(fs++ [w1.heap.size]).getD i 0=w1.heap.size by simp[List.getD,←X]];simp only[Pm.aQ,←Qe];exact⟨rfl,rfl,rfl,rfl⟩
  ·rw[if_neg a,show(fs++ [w1.heap.size]).getD i 0=fs.getD i 0 by simp[List.getD,List.getElem?_append_left (show i<fs.length by omega)]]
   obtain⟨h1,h2,h3,h4⟩:=hF.cl i h (by omega);exact⟨s _ _ _ h1,s _ _ _ h2,s _ _ _ h3,s _ _ _ h4⟩
 ·by_cases a:i=k
  ·subst a
   rw[j,if_pos rfl];exact P4.sub z (aD.refl _)
  ·rw[if_neg a];exact(hF.nd i h (by omega)).sub s Qi
structure o_(C:BC)(u:U)(p:Pm)(g:Ge)(mv:Value)(ms:List Nat)(w:World)(q:Pm)(d:Ge)(c:Value)(a fs:List Nat)(xs:Nat→Value)(fa ta:Option Addr)(e:Nat)(wr:World):Prop where
 bs:BS C q d c a wr
 st:az C p g mv ms w q d a wr
 om:∀b,c.ownBlock=some b→mv.ownBlock=some b∨w.heap.size≤b
 fr:bK q fa u.es.length fun i=>ptr (fs.getD i 0)
 tr:∀i(h:i<u.es.length),∃b o,ta=some ⟨b,o,none⟩∧q b (o+i)=some (.string u.es[i].tg)
 cl:∀i(h:i<u.es.length),q (fs.getD i 0) 1=some (ptr d.pk)∧q (fs.getD i 0) 2=some (.string u.es[i].nm)∧q (fs.getD i 0) 3=some (xs i)∧q (fs.getD i 0) 5=some (.bool false)
 nd:∀i(h:i<u.es.length),Node q d u.es[i] (xs i)
 le:u.es.length≤e
 sp:∀x,fa=some x→x.spot=none
 ct:a.length≤ms.length+aO u.es
theorem gT.ready{C:BC}{u:U}{p q:Pm}{g G:Ge}{mv c:Value}{ms d fs:List Nat}{w wr:World}{xs:Nat→Value}{fa ta:Option Addr}{H tc fn tn:Nat}(hF:gT C u p g mv ms w u.es.length q G c d fs xs (.slice fa fn H) (.slice ta tn tc) wr)(f:C.bb<w.heap.size):
 ∃k,o_ C u p g mv ms w k G c d fs xs fa ta H wr:=by
 have l:=hF.fl;obtain⟨Q,R,c1,I,h,m,n,s,t,_,v⟩:=hF.bs.iJ (e:=102) (xs:=fs.map pv) (by decide) (by simpa using hF.fr) hF.fd f;obtain⟨k,a2,c2,J,a,x,y,K,L,_⟩:=m.iJ (e:=9) (by decide) hF.tr (fun b e o=>by rw[s b fun M=>jr (by decide) hF.tr hF.fr e M];exact hF.td b e o) f;injection I with z N A
 injection J with B O D
 subst z;subst A;subst B;subst D;have j:=h.le.trans a.le;refine⟨k,x,hF.st.iI (h.trans a (Nat.le_refl _)),hF.om,fun i hi=> ?_,fun i hi=> ?_,fun i hi=> ?_,fun i hi=>(hF.nd i hi hi).sub j (aD.refl _),by simpa [l]using t,v,by have:=hF.ct;rwa [List.take_length]at this⟩
 ·obtain⟨b,o,E,F⟩:=n i (by simp;omega)
  refine⟨b,o,E,a.le _ _ _ ?_⟩;rw[F];simp[List.getD,List.getElem?_eq_getElem (show i<fs.length by omega),pv]
 ·obtain⟨b,o,E,F⟩:=y i (by simp;omega)
  refine⟨b,o,E,?_⟩;rw[F];simp[List.getD,hi]
 ·obtain⟨h1,h2,h3,P⟩:=hF.cl i hi hi
  exact⟨by rw[hF.st.gs.pk];exact j _ _ _ h1,j _ _ _ h2,j _ _ _ h3,j _ _ _ P⟩
theorem o_.done{C:BC}{u:U}{p q:Pm}{g B:Ge}{mv l:Value}{ms m fs:List Nat}{w wr n:World}{xs:Nat→Value}{fa ta a2:Option Addr}{s tc b:Nat}(c:o_ C u p g mv ms w q B l m fs xs fa ta s wr)(hk:u.k=5)(H:u.es.length≤1099511627776)
 (t:wr.heap.size≤b)(D:n.cell? ⟨b,0,none⟩=some (.slice a2 u.es.length (if fa=none then 0 else s)))(ha:fa=none∨a2=fa)(h1:n.cell? ⟨b,1,none⟩=some (.slice ta u.es.length tc))(x:Below wr.heap.size wr n)(E:Plain n b):
 bf C u p g mv ms w (.returned (ae 213 b)) n:=by
 have F:∀o,q b o=none:=fun o=>c.bs.wb.kw.aG t o;have y:=Pm.dP (v:= .slice a2 u.es.length (if fa=none then 0 else s)) (F 0) t;have z:=Pm.dP (p:=q.put b 0 (.slice a2 u.es.length (if fa=none then 0 else s))) (v:= .slice ta u.es.length tc) (o:=1) (by rw[Pm.aV _ _ (by omega)];exact F 1) t;have d:=y.trans z (Nat.le_refl _);have hw:=((c.bs.wb.below x).put D E).put h1 E;have I:=c.bs.grow x d hw;have G:u.es.length≤(if fa=none then 0 else s)∧bK q a2 u.es.length fun i=>ptr (fs.getD i 0):=by
  by_cases j:fa=none
  ·have D:u.es.length=0:=Nat.eq_zero_of_not_pos fun h=>by obtain⟨_,_,h,_⟩:=c.fr 0 h;rw[j]at h;cases h
   exact⟨by omega,fun i hi=>by omega⟩
  ·rw[if_neg j]
   refine⟨c.le,?_⟩;rcases ha with h|rfl
   ·exact absurd h j
   ·exact c.fr
 have A:=c.om;refine⟨_,_,B,l,m,rfl,.struct (f:=fun i=>fs.getD i 0) (xs:=xs) (a:=a2) (a':=ta) hk (by rw[Pm.aV _ _ (by omega),Pm.eK]) (Pm.eK ..) G.1 H (G.2.sub d.le) (fun i hi=> ?_) (fun i hi=> ?_) (fun i hi=>(c.nd i hi).sub d.le (aD.refl _)),I,c.st.grow x d,A,fun h=>(by omega),by have:=c.ct;rw[dx];omega⟩
 ·obtain⟨b,o,e,h⟩:=c.tr i hi;exact⟨b,o,e,d.le _ _ _ h⟩
 ·obtain⟨h1,h2,h3,J⟩:=c.cl i hi;exact⟨d.le _ _ _ h1,d.le _ _ _ h2,d.le _ _ _ h3,d.le _ _ _ J⟩
end TS
namespace Go.Proofs.YtgbklbbknehefaaGreatDoor
open Go.RowKit TS
theorem tS:(Tryz.prog.info? 9).map (fun i=>(i.zero,i.size,i.bytes))=some (some (.string ByteArray.empty),1,16):=by kernel_rfl
theorem Cs(C:BC)(u:U)(hk:u.k=5)(Qd:∀e∈u.es,aL e.nm=true)(hnd:(u.es.map U.nm).Nodup)(hI:∀e∈u.es,bF C e)(p:Pm)(g:Ge)(mv:Value)(ms:List Nat)(a:Option Addr)(c:Nat)(w:World)(hB:BS C p g mv ms w)(QX:ms.length+cn u≤1099511627776)(hu:ai C.pa C.D u a c):
 Calls Tryz.prog 79 #[.pointer (some ⟨C.bb,0,none⟩),.agg #[.int .i64 u.k,.int .i64 u.n,.int .i64 u.m,.bool u.v,.string u.nm,.string u.tg,.slice a u.es.length c]] w (bf C u p g mv ms w):=by
 have Qe:=hu.cap;have QJ:Hid (∀k e,u.es[k]?=some e→∃eb eo a' c',a=some ⟨eb,eo,none⟩∧cO C.pa eb (eo+k*7) e a' c'∧ai C.pa C.D e a' c'):=fun k e he=>by
  obtain⟨hk,rfl⟩:=List.getElem?_eq_some_iff.1 he;obtain⟨eb,eo,rfl⟩:=hu.list.bt (by omega);obtain⟨a',c',h7,G⟩:=hu.list.get k hk;exact⟨eb,eo,a',c',rfl,h7,G⟩
 have H:=(hB.ib (b:=C.bb) (.inl rfl)).2.1;have Z:Below w.heap.size w (w.alloc (.cells #[.int .i64 u.k,.int .i64 u.n,.int .i64 u.m,.bool u.v,.string u.nm,.string u.tg,.slice a u.es.length c] 25)):=(Below.refl _ _).alloc (Nat.le_refl _) _;have QK:=Lib.hid (hB.below Z);have QY:=Lib.hid hB;have Qf:=Lib.hid Z;have QZ:u.es.length≤1048576:=by omega
 have QR:u.es.length≤1099511627776:=by omega
 have QL:=Lib.hid hk;have Qg:=Lib.hid Qd;have Qh:=Lib.hid hnd;have QM:=Lib.hid hI;obtain⟨i0,QN,Qi,Qj,Qk⟩:=info_parts rS;obtain⟨i1,QO,Ql,Qm,Qn⟩:=info_parts tS;clear hu hB Z Qe hk Qd hnd hI;generalize hn:u.es.length=n at*;have P4:=Lib.hid hn;clear hn;go_enter Tryz.func79,Tryz.ntmps79;go_wp2_with fail
 go_loopw [12,5,6] (fun vi vf vt wr=> ∃(k:Nat)(q:Pm)(g':Ge)(P5:Value)(P6 fs:List Nat)(xs:Nat→Value),k≤n∧vi= .int .i64 k∧gT C u p g mv ms w k q g' P5 P6 fs xs vf vt wr) (fun vi _ _ _=>n- (intOf vi).toNat)
 case atStart=>exact⟨0,p,g,mv,ms,[],fun _=>undef,Nat.zero_le _,rfl,QK.out,az.ahead Qf.out (az.refl _ _ _ _ _ _),fun b e=> .inl e,rfl,World.ownsRow_nil _ _ _ _,World.ownsRow_nil _ _ _ _,fun b e=>(by cases e),fun b e=>(by cases e),fun i _ hi=>absurd hi (Nat.not_lt_zero _),fun i _ hi=>absurd hi (Nat.not_lt_zero _),Nat.le_add_right _ _⟩
 case round=>
  obtain⟨k,q,g',P5,P6,fs,xs,P7,rfl,hF⟩:=hrel;have d:=Lib.hid hF;obtain⟨fa,I,rfl⟩:=aZ hF.fr;obtain⟨ta,tc,rfl⟩:=aZ hF.tr;have Qo:=Lib.hid hF.tr;clear hF;obtain⟨A,J⟩:∃A,Hid ((u.es.take k).map (fun e=>Value.string e.tg)=A):=⟨_,rfl⟩
  rw[J.out]at d Qo⊢;have Qp:=Lib.hid (show A.length≤k by rw[←J.out];simp;omega);by_cases Q3:k<n
  ·have QS:(k:Int)<n:=by omega
   obtain⟨e,B⟩:∃e,u.es[k]?=some e:=⟨_,List.getElem?_eq_getElem (by have:=P4.out;omega)⟩
   obtain⟨eb,eo,a',c',rfl,h7,G⟩:=QJ.out k e B;have Qq:=QM.out _ (List.mem_of_getElem? B);obtain⟨z0,z1,z2,z3,z4,z5,z6⟩:(wr.cell? ⟨eb,eo+k*7,none⟩=some (.int .i64 e.k)∧wr.cell? ⟨eb,eo+k*7+1,none⟩=some (.int .i64 e.n)∧wr.cell? ⟨eb,eo+k*7+2,none⟩=some (.int .i64 e.m)∧wr.cell? ⟨eb,eo+k*7+3,none⟩=some (.bool e.v)∧wr.cell? ⟨eb,eo+k*7+4,none⟩=some (.string e.nm)∧wr.cell? ⟨eb,eo+k*7+5,none⟩=some (.string e.tg)∧wr.cell? ⟨eb,eo+k*7+6,none⟩=some (.slice a' e.es.length c')):=h7.world d.out.bs.ka;have QT:eb<wr.heap.size:=d.out.bs.ka.lt h7.1;have P8:Below wr.heap.size wr ((wr.alloc (.cells #[.int .i64 e.k,.int .i64 e.n,.int .i64 e.m,.bool e.v,.string e.nm,.string e.tg,.slice a' e.es.length c'] 25)).drew):=((Below.refl _ _).alloc (Nat.le_refl _) _).drew;have hT:=Lib.hid (Qq q g' P5 P6 a' c' _ (d.out.bs.below P8) (by have:=d.out.ct;have:=mR B;omega) G);have Qr:=Lib.hid B;have l:=Lib.hid P8;have P:=d.out.bs.c0;have Q:g'.pk=g.pk:=d.out.st.gs.pk;rw[Q]at P;have Qs:=World.block_lt_of_cell? _ _ P;simp only at Qs;clear h7 G Qq B P8;go_wp2_with fail
   refine oR (fun W=>W.cell? ⟨C.bb,0,none⟩=some (ptr g.pk)∧(W.cell? ⟨wr.heap.size,0,none⟩=some (.int .i64 e.k)∧W.cell? ⟨wr.heap.size,1,none⟩=some (.int .i64 e.n)∧W.cell? ⟨wr.heap.size,2,none⟩=some (.int .i64 e.m)∧W.cell? ⟨wr.heap.size,3,none⟩=some (.bool e.v)∧W.cell? ⟨wr.heap.size,4,none⟩=some (.string e.nm)∧W.cell? ⟨wr.heap.size,5,none⟩=some (.string e.tg)∧W.cell? ⟨wr.heap.size,6,none⟩=some (.slice a' e.es.length c'))) [(0,true),(1,true),(2,true),(3,true),(4,true),(5,true),(6,true),(7,true),(8,true),(9,false),(10,false),(11,false),(12,false),(13,true)] (by(repeat' apply And.intro)<;>first|(simp[go_sem];done)|(go_keep;done)) (fun f=> ?_);repeat((first|refine oS ?_|refine oF f ?_);try simp only[Act.put,oa,ob,oc])
   refine oL fun K E=> ?_;go_simp;go_at_call 36
   refine hT.out.mono ?_;rintro e1 w1 ⟨x,q1,g1,mv1,ms1,rfl,P9,L,s,Qt,_,QP⟩;obtain⟨R,S,rfl⟩:=P9.val;have T:w1.cell? ⟨C.bb,0,none⟩=some (ptr g.pk):=by
    have h1:=L.c0;rwa [s.gs.pk,Q]at h1
   have V:=(gS d.out.bs l.out.size s).2;obtain⟨_,s0,s1,s2,s3,s4,s5,s6⟩:=f;(try simp only[]);refine E _ _ (by(repeat' apply And.intro)<;>first|exact T|exact V _ _ _ (Nat.le_refl _) (by assumption)) fun f=> ?_;clear E K;try simp only[Act.put,oa,ob,oc]
   clear s0 s1 s2 s3 s4 s5 s6;have Q4:wr.heap.size<w1.heap.size:=by
    have:=s.size;simp at this;omega
   have QU:=(L.ib (b:=C.bb) (.inl rfl)).2.1;have Q5:w.heap.size<w1.heap.size:=by have:=d.out.st.size;omega
   have Qu:(Value.slice fa fs.length I).ownBlock≠some C.bb∧(Value.slice fa fs.length I).ownBlock≠some wr.heap.size:=⟨fun e=>by have:=(d.out.fr.lt _ e).1;omega,fun e=>by have:=(d.out.fr.lt _ e).2;omega⟩
   have Qv:=Lib.hid (show fs.length=k from d.out.fl);have Qw:=Lib.hid (show ∀j u,[Value.pointer (some ⟨w1.heap.size,0,none⟩)][j]?=some u→((w1.alloc (.cells #[.int .i64 0,ptr g.pk,.string e.nm,ae R S,.int .u8 6,.bool false] 170)).alloc (.cells #[.pointer (some ⟨w1.heap.size,0,none⟩)] 102)).cell? ((⟨w1.heap.size+1,0,none⟩:Addr).add j)=some u from fun j u h=>by
    have h1:=TS.dC (w1.alloc (.cells #[.int .i64 0,ptr g.pk,.string e.nm,ae R S,.int .u8 6,.bool false] 170)) (.pointer (some ⟨w1.heap.size,0,none⟩)) 102 j u h;rwa [show(w1.alloc (.cells #[.int .i64 0,ptr g.pk,.string e.nm,ae R S,.int .u8 6,.bool false] 170)).heap.size=w1.heap.size+1 by simp]at h1)
   have X:=Lib.hid ((((az.row (d.out.bs.below l.out) s (by decide) (bq d.out.fr l.out) H d.out.fd).1).alloc (.cells #[.int .i64 0,ptr g.pk,.string e.nm,ae R S,.int .u8 6,.bool false] 170)).alloc (.cells #[.pointer (some ⟨w1.heap.size,0,none⟩)] 102));have Qx:=Lib.hid (show ∀M,((w1.alloc (.cells #[.int .i64 0,ptr g.pk,.string e.nm,ae R S,.int .u8 6,.bool false] 170)).alloc (.cells #[.pointer (some ⟨w1.heap.size,0,none⟩)] 102)).grownBy M (Value.slice fa fs.length I).ownBlock→M.ownsRow w.heap.size 9 1 (.slice ta A.length tc) A.length A from fun M hg=>by
    have h1:=(((az.row (d.out.bs.below l.out) s (by decide) (bq Qo.out l.out) H d.out.td).1).alloc (.cells #[.int .i64 0,ptr g.pk,.string e.nm,ae R S,.int .u8 6,.bool false] 170)).alloc (.cells #[.pointer (some ⟨w1.heap.size,0,none⟩)] 102);exact dL h1 ((Kept.refl (fun b=>(Value.slice fa fs.length I).ownBlock=some b) _).grown hg fun k hk _=>hk) fun b e1=>jr (by decide) h1 X.out e1)
   have Qy:=Lib.hid L;have Qz:=Lib.hid s;have QA:=Lib.hid P9;have QB:=Lib.hid Qt;clear L s P9 Qt T V hT;repeat((first|refine oS ?_|refine oF f ?_);try simp only[Act.put,oa,ob,oc])
   refine oL fun K E=> ?_;go_simp;go_at_call 120
   refine(xx _ _ _ _ _ _ _).mono ?_;rintro e2 w2 ⟨rfl,rfl⟩;obtain⟨_,s0,s1,s2,s3,s4,s5,s6⟩:=f;(try simp only[]);refine E _ _ (by(repeat' apply And.intro)<;>exact ak ((Below.refl _ _).alloc (Nat.le_refl _) _) (by assumption)) fun f=> ?_;clear E K;try simp only[Act.put,oa,ob,oc]
   clear s0 s1 s2 s3 s4 s5 s6;repeat((first|refine oS ?_|refine oF f ?_);try simp only[Act.put,oa,ob,oc])
   refine oL fun K E=> ?_;go_simp;obtain⟨_,s0,s1,s2,s3,s4,s5,s6⟩:=f;(try simp only[]);refine E _ _ (by(repeat' apply And.intro)<;>exact ak ((Below.refl _ _).alloc (Nat.le_refl _) _) (by assumption)) fun f=> ?_;clear E K;try simp only[Act.put,oa,ob,oc]
   repeat((first|refine oS ?_|refine oF f ?_);try simp only[Act.put,oa,ob,oc])
   refine nD rfl (by rfl) (fun K E=> ?_);refine jZ _ _ 175 rfl w.heap.size 102 i0 (.pointer none) 1 8 Tryz.underlying175 QN Qi Qj Qk rfl (by decide) (.slice fa fs.length I) fs.length (fs.map pv) rfl X.out ⟨w1.heap.size+1,0,none⟩ 1 1 [.pointer (some ⟨w1.heap.size,0,none⟩)] rfl rfl Qw.out (TS.one_one rfl) ?c3 ?c4 ?c5 ?_
   case c3=>have:=Qv.out;unfold maxLen;omega
   case c4=>have:=Qv.out;omega
   case c5=>(try simp);omega
   intro Q6 M t P_ _ QC;have Qa:∀b o v,(Value.slice fa fs.length I).ownBlock≠some b→((w1.alloc (.cells #[.int .i64 0,ptr g.pk,.string e.nm,ae R S,.int .u8 6,.bool false] 170)).alloc (.cells #[.pointer (some ⟨w1.heap.size,0,none⟩)] 102)).cell? ⟨b,o,none⟩=some v→M.cell? ⟨b,o,none⟩=some v:=fun b o v hb h=>by
    rw[((Kept.refl (fun b=>(Value.slice fa fs.length I).ownBlock=some b) _).grown P_ fun k hk _=>hk).cell (World.block_lt_of_cell? _ _ h) hb];exact h
   obtain⟨_,s0,s1,s2,s3,s4,s5,s6⟩:=f;(try simp only[]);refine E _ _ (by(repeat' apply And.intro)<;>first|exact Qa _ _ _ Qu.1 (by assumption)|exact Qa _ _ _ Qu.2 (by assumption)) fun f=> ?_;clear E K;try simp only[Act.put,oa,ob,oc]
   clear s0 s1 s2 s3 s4 s5 s6 Qa;repeat((first|refine oS ?_|refine oF f ?_);try simp only[Act.put,oa,ob,oc])
   refine bR ?_;obtain⟨d0,s0,s1,s2,s3,s4,s5,s6⟩:=f;obtain⟨a3,c3,rfl⟩:=aZ t;have F:=Lib.hid P_;have N:=Lib.hid t;have QD:=Lib.hid QC;clear P_ t QC;have Qb:=Lib.hid (Qx.out M F.out);have QV:w1.heap.size+2≤M.heap.size:=by have:=((Kept.refl (fun b=>(Value.slice fa fs.length I).ownBlock=some b) _).grown F.out fun k hk _=>hk).size;simpa using this
   go_wp2_with (first|(at_builtin;refine wpList_append_own_at _ rfl _ _ 28 rfl w.heap.size 9 i1 (.string ByteArray.empty) 1 16 Tryz.underlying28 QO Ql Qm Qn rfl (by decide) (.slice ta A.length tc) A.length A rfl (Qb.out.alloc _) ⟨M.heap.size,0,none⟩ 1 1 [.string e.tg] rfl rfl (TS.dC M _ _) (TS.one_one rfl) ?c3 ?c4 ?c5 ?_)|fail)
   case c3=>have:=Qp.out;unfold maxLen;omega
   case c4=>have:=Qp.out;omega
   case c5=>(try simp);omega
   intro Q7 w5 y QE _ QF;obtain⟨a5,c5,rfl⟩:=aZ y;have z:gT C u p g mv ms w (k+1) _ g1 mv1 ms1 (fs++ [w1.heap.size]) (fun i=>if i=k then ae R S else xs i) (.slice a3 (fs.length+1) c3) (.slice a5 (A.length+1) c5) w5:=
    gT.step d.out H Qr.out l.out QA.out Qy.out Qz.out QB.out QP N.out F.out QD.out (by rw[J.out];exact y) QE (QF.imp id fun h=>h.trans (by simp))
   have Qc:=Lib.hid z;have QW:fs.length+1=(fs++ [w1.heap.size]).length:=by simp
   clear z y QE QF;go_wp2_with fail
   exact⟨⟨k+1,_,g1,mv1,ms1,_,_,by omega,by go_num,Qc.out⟩,by first|omega|(simp[intOf];omega)⟩
  ·have Q8:¬(k:Int)<n:=by omega
   obtain rfl:k=n:=by omega
   have P7:=P4.out;obtain⟨q2,Y⟩:=gT.ready (P4.out.symm▸d.out) H;have O:=Lib.hid Y;have QG:=Lib.hid (d.out.fl);have h1:Hid (∀i,i<k→wr.cell? ⟨fs.getD i 0,1,none⟩=some (.pointer (some ⟨g'.pk,0,none⟩))):=fun i hi=>Y.bs.wb.kw _ _ _ (Y.cl i (by omega)).1;have h2:Hid (∀i,i<k→wr.cell? ⟨fs.getD i 0,2,none⟩=some (.string (u.es.getD i aF).nm)):=fun i hi=>by
    rw[Y.bs.wb.kw _ _ _ (Y.cl i (by omega)).2.1];simp[List.getD,List.getElem?_eq_getElem (show i<u.es.length by omega)]
   have h3:Hid (∀i,i<k→aL (u.es.getD i aF).nm=true):=fun i hi=>Qg.out _ (by simp[List.getD,List.getElem?_eq_getElem (show i<u.es.length by omega)]);have h4:Hid (∀i j,i<j→j<k→(u.es.getD i aF).nm≠(u.es.getD j aF).nm):=fun i j QQ hj=>by
    have h:=List.pairwise_iff_getElem.1 Qh.out i j (by simp;omega) (by simp;omega) QQ;simpa [List.getD,List.getElem?_eq_getElem (show i<u.es.length by omega),List.getElem?_eq_getElem (show j<u.es.length by omega)]using h
   have h5:Hid (bj wr fa k fun i=>fs.getD i 0):=fun i hi=>by
    obtain⟨b,o,e1,e2⟩:=Y.fr i (by omega);exact⟨b,o,e1,Y.bs.wb.kw _ _ _ e2⟩
   clear Y;go_wp2_with fail
   rw[QG.out,show A.length=k by rw[←J.out];simp;omega];refine(zA fa ta k I tc (fun i=>fs.getD i 0) (fun i=>(u.es.getD i aF).nm) (fun _=>some ⟨g'.pk,0,none⟩) wr (by omega) O.out.bs.wb.cap O.out.sp h5.out h1.out h2.out h3.out h4.out).mono ?_;rintro e2 w2 ⟨b,a2,rfl,hb,c0,ha,c1,QH,QI⟩;have z:Hid (bf C u p g mv ms w (.returned (.iface 213 (.pointer (some ⟨b,0,none⟩)))) w2):=
    O.out.done (tc:=tc) QL.out (by omega) hb (by rw[P7];exact c0) ha (by rw[P7];exact c1) QH QI
   clear hb c0 c1 ha QH QI h1 h2 h3 h4 h5 O QG;go_wp2_with fail
   go_ret;exact z.out
end Go.Proofs.YtgbklbbknehefaaGreatDoor
namespace TS
open Go Go.RowKit Go.Proofs.YtgbklbbknehefaaGreatDoor
def jt(w:World)(a:Option Addr)(n c:Nat)(b:Option Addr)(d:World):Prop:=
 Below w.heap.size w d∧((n=0∧b=none)∨(0<n∧∃tb,b=some ⟨tb,0,none⟩∧w.heap.size≤tb∧d.heap[tb]?=some (.cells #[.slice a n c] 177 (0,0))))
structure dG(C:BC)(u:U)(p:Pm)(g:Ge)(mv:Value)(ms:List Nat)(w:World)(k:Nat)(q:Pm)(d:Ge)(c:Value)(a fs:List Nat)(xs:Nat→Value)(f e:Value)(wr:World):Prop where
 bs:BS C q d c a wr
 st:az C p g mv ms w q d a wr
 om:∀b,c.ownBlock=some b→mv.ownBlock=some b∨w.heap.size≤b
 fl:fs.length=k
 ir:wr.ownsRow w.heap.size 102 1 f (fs.take u.m.toNat).length ((fs.take u.m.toNat).map pv)
 or:wr.ownsRow w.heap.size 102 1 e (fs.drop u.m.toNat).length ((fs.drop u.m.toNat).map pv)
 ri:∀b,f.ownBlock=some b→e.ownBlock≠some b∧∀o,q b o=none
 ro:∀b,e.ownBlock=some b→∀o,q b o=none
 cl:∀i(h:i<u.es.length),i<k→q (fs.getD i 0) 3=some (xs i)
 nd:∀i(h:i<u.es.length),i<k→Node q d u.es[i] (xs i)
 ct:a.length≤ms.length+aO (u.es.take k)
theorem dG.below{C:BC}{u:U}{p q:Pm}{g e:Ge}{mv b:Value}{ms c fs:List Nat}{w wr f:World}{k:Nat}{xs:Nat→Value}{h i:Value}(a:dG C u p g mv ms w k q e b c fs xs h i wr)(d:Below wr.heap.size wr f):dG C u p g mv ms w k q e b c fs xs h i f:=
 ⟨a.bs.below d,a.st.below d,a.om,a.fl,bq a.ir d,bq a.or d,a.ri,a.ro,a.cl,a.nd,a.ct⟩
theorem dG.mid{C:BC}{u e:U}{p q d:Pm}{g J g1:Ge}{mv s i:Value}{ms z j fs:List Nat}{w D wr a:World}{k:Nat}{xs:Nat→Value}{E F x:Value}
 (f:dG C u p g mv ms w k q J s z fs xs E F wr)(A:C.bb<w.heap.size)(c:Below wr.heap.size wr D)
 (G:Node d g1 e x)(t:BS C d g1 i j a)(l:az C q J s z D d g1 j a)(H:∀b,i.ownBlock=some b→s.ownBlock=some b∨D.heap.size≤b)
 {bs cs:Array Value}{Tb:TypeId}(I:cs[3]?=some x):
 BS C (d.add a.heap.size cs) g1 i j ((a.alloc (.cells cs 170)).alloc (.cells bs Tb))∧az C p g mv ms w (d.add a.heap.size cs) g1 j ((a.alloc (.cells cs 170)).alloc (.cells bs Tb))∧
 ((a.alloc (.cells cs 170)).alloc (.cells bs Tb)).ownsRow w.heap.size 102 1 E (fs.take u.m.toNat).length ((fs.take u.m.toNat).map pv)∧((a.alloc (.cells cs 170)).alloc (.cells bs Tb)).ownsRow w.heap.size 102 1 F (fs.drop u.m.toNat).length ((fs.drop u.m.toNat).map pv)∧
 (∀b,E.ownBlock=some b→∀o,d.add a.heap.size cs b o=none)∧(∀b,F.ownBlock=some b→∀o,d.add a.heap.size cs b o=none)∧Sub q (d.add a.heap.size cs)∧(∀b,i.ownBlock=some b→mv.ownBlock=some b∨w.heap.size≤b)∧Node (d.add a.heap.size cs) g1 e x∧d.add a.heap.size cs a.heap.size 3=some x:=by
 have v:=az.row (f.bs.below c) l (by decide) (bq f.ir c) A fun b e=>(f.ri b e).2;have y:=az.row (f.bs.below c) l (by decide) (bq f.or c) A f.ro;have K:∀o,d a.heap.size o=none:=fun o=>t.wb.kw.aG (Nat.le_refl _) o;have n:=Pm.cP (cs:=cs) K;have r:Below a.heap.size a ((a.alloc (.cells cs 170)).alloc (.cells bs Tb)):=((Below.refl _ _).alloc (Nat.le_refl _) _).alloc (by simp) _;have B:Below (a.alloc (.cells cs 170)).heap.size (a.alloc (.cells cs 170)) ((a.alloc (.cells cs 170)).alloc (.cells bs Tb)):=(Below.refl _ _).alloc (Nat.le_refl _) _;refine⟨(t.box cs _).below B,((f.st.trans (az.ahead c l) f.om).box t cs _).below B,bq v.1 r,bq y.1 r,fun b h o=> ?_,fun b h o=> ?_,l.gr.le.trans n,fun b h=> ?_,G.sub n (aD.refl _),by rw[Pm.aQ];exact I⟩
 ·rw[Pm.aJ _ _ _ fun L=>by have:=(v.1.lt b h).2;omega];exact v.2 b h o
 ·rw[Pm.aJ _ _ _ fun L=>by have:=(y.1.lt b h).2;omega];exact y.2 b h o
 ·rcases H b h with h|h
  ·exact f.om b h
  ·have:=c.size;have:=f.st.size;exact .inr (by omega)
theorem tT{u e:U}{q a:Pm}{l g1:Ge}{k F:Nat}{fs:List Nat}{xs:Nat→Value}{x:Value}(d:u.es[k]?=some e)(f:fs.length=k)(m:Sub q a)(g:aD l g1)(j:∀i(_:i<u.es.length),i<k→q (fs.getD i 0) 3=some (xs i))(hnd:∀i(h:i<u.es.length),i<k→Node q l u.es[i] (xs i))(n:a F 3=some x)(o:Node a g1 e x):
 (∀i(_:i<u.es.length),i<k+1→a ((fs++ [F]).getD i 0) 3=some (if i=k then x else xs i))∧∀i(h:i<u.es.length),i<k+1→Node a g1 u.es[i] (if i=k then x else xs i):=by
 obtain⟨hk,b⟩:=List.getElem?_eq_some_iff.1 d;refine⟨fun i h hi=> ?_,fun i h hi=> ?_⟩
 ·by_cases c:i=k
  ·subst c
   rw[if_pos rfl,show(fs++ [F]).getD i 0=F by simp[List.getD,←f]];exact n
  ·rw[if_neg c,show(fs++ [F]).getD i 0=fs.getD i 0 by simp[List.getD,List.getElem?_append_left (show i<fs.length by omega)]]
   exact m _ _ _ (j i h (by omega))
 ·by_cases c:i=k
  ·subst c
   rw[b,if_pos rfl];exact o
  ·rw[if_neg c];exact(hnd i h (by omega)).sub m g
theorem dG.CD{C:BC}{u e:U}{p q F:Pm}{g Z g1:Ge}{mv j n:Value}{ms o c fs:List Nat}{w H wr a I:World}{k:Nat}{xs:Nat→Value}{J vo d x:Value}
 (r:dG C u p g mv ms w k q Z j o fs xs J vo wr)(s:C.bb<w.heap.size)(t:u.es[k]?=some e)(P4:k<u.m.toNat)(K:Below wr.heap.size wr H)
 (L:Node F g1 e x)(M:BS C F g1 n c a)(v:az C q Z j o H F g1 c a)(N:∀b,n.ownBlock=some b→j.ownBlock=some b∨H.heap.size≤b)(P5:c.length≤o.length+cn e)
 {bs cs:Array Value}{Tb:TypeId}(O:cs[3]?=some x)
 (P:I.ownsRow w.heap.size 102 1 d ((fs.take u.m.toNat).length+1) ((fs.take u.m.toNat).map pv++ [pv a.heap.size]))
 (Q:((a.alloc (.cells cs 170)).alloc (.cells bs Tb)).grownBy I J.ownBlock)(y:d.ownBlock=J.ownBlock∨d.ownBlock=some ((a.alloc (.cells cs 170)).alloc (.cells bs Tb)).heap.size):
 dG C u p g mv ms w (k+1) (F.add a.heap.size cs) g1 n c (fs++ [a.heap.size]) (fun i=>if i=k then x else xs i) d vo I:=by
 obtain⟨z,R,A,B,hid,S,T,V,hnd,W⟩:=r.mid (bs:=bs) (Tb:=Tb) s K L M v N O;obtain⟨X,D⟩:=z.appended (by decide) A hid s Q;have E:=r.fl;have ht:(fs++ [a.heap.size]).take u.m.toNat=fs.take u.m.toNat++ [a.heap.size]:=by rw[List.take_append,List.take_of_length_le (l:= [_]) (by simp;omega)]
 have Y:(fs++ [a.heap.size]).drop u.m.toNat=fs.drop u.m.toNat:=by rw[List.drop_append,List.drop_of_length_le (l:= [_]) (by simp;omega),List.append_nil]
 have hc:=tT t E T v.gs r.cl r.nd W hnd;refine⟨X,R.own D fun b f=>(A.lt b f).1,V,by simp[E],?_,?_,fun b f=>⟨fun G=> ?_,js z.wb hid y b f⟩,S,hc.1,hc.2,by have:=r.ct;have:=fo t;omega⟩
 ·rw[ht];simpa using P
 ·rw[Y];exact dL B D fun b f G=>(r.ri b G).1 f
 ·rcases y with h|h
  ·exact(r.ri b (h▸f)).1 G
  ·rw[h]at f;cases f;have:=(B.lt _ G).2;omega
theorem dG.CE{C:BC}{u e:U}{p q G:Pm}{g Y g1:Ge}{mv f j:Value}{ms l c fs:List Nat}{w H wr a I:World}{k:Nat}{xs:Nat→Value}{Z J d x:Value}
 (n:dG C u p g mv ms w k q Y f l fs xs Z J wr)(r:C.bb<w.heap.size)(s:u.es[k]?=some e)(P4:u.m.toNat≤k)(K:Below wr.heap.size wr H)
 (L:Node G g1 e x)(M:BS C G g1 j c a)(t:az C q Y f l H G g1 c a)(N:∀b,j.ownBlock=some b→f.ownBlock=some b∨H.heap.size≤b)(P5:c.length≤l.length+cn e)
 {bs cs:Array Value}{Tb:TypeId}(O:cs[3]?=some x)
 (P:I.ownsRow w.heap.size 102 1 d ((fs.drop u.m.toNat).length+1) ((fs.drop u.m.toNat).map pv++ [pv a.heap.size]))
 (Q:((a.alloc (.cells cs 170)).alloc (.cells bs Tb)).grownBy I J.ownBlock)(v:d.ownBlock=J.ownBlock∨d.ownBlock=some ((a.alloc (.cells cs 170)).alloc (.cells bs Tb)).heap.size):
 dG C u p g mv ms w (k+1) (G.add a.heap.size cs) g1 j c (fs++ [a.heap.size]) (fun i=>if i=k then x else xs i) Z d I:=by
 obtain⟨y,R,z,A,hid,B,S,T,hnd,V⟩:=n.mid (bs:=bs) (Tb:=Tb) r K L M t N O;obtain⟨W,D⟩:=y.appended (by decide) A B r Q;have E:=n.fl;have ht:(fs++ [a.heap.size]).take u.m.toNat=fs.take u.m.toNat:=by rw[List.take_append,show u.m.toNat- fs.length=0 by omega];simp
 have X:(fs++ [a.heap.size]).drop u.m.toNat=fs.drop u.m.toNat++ [a.heap.size]:=by rw[List.drop_append,show u.m.toNat- fs.length=0 by omega];simp
 have hc:=tT s E S t.gs n.cl n.nd V hnd;refine⟨W,R.own D fun b o=>(A.lt b o).1,T,by simp[E],?_,?_,fun b o=>⟨fun F=> ?_,hid b o⟩,js y.wb B v,hc.1,hc.2,by have:=n.ct;have:=fo s;omega⟩
 ·rw[ht];exact dL z D fun b o F=>(n.ri b o).1 F
 ·rw[X];simpa using P
 ·rcases v with h|h
  ·exact(n.ri b o).1 (h▸F)
  ·rw[h]at F;cases F;have:=(z.lt _ o).2;omega
theorem BS.tU{C:BC}{q:Pm}{g:Ge}{mv:Value}{ms:List Nat}{w f:World}(h:BS C q g mv ms w){a:Option Addr}{n c:Nat}{b:Option Addr}(hT:jt w a n c b f):
 ∃d,aK q d w.heap.size∧BS C d g mv ms f∧((n=0∧b=none)∨(0<n∧∃tb,b=some ⟨tb,0,none⟩∧d tb 0=some (.slice a n c))):=by
 obtain⟨e,⟨h1,h2⟩|⟨h1,tb,h2,h3,k⟩⟩:=hT
 ·exact⟨q,aK.refl _ _,h.below e,.inl ⟨h1,h2⟩⟩
 ·have i:∀o,q tb o=none:=fun o=>h.wb.kw.aG h3 o
  have j:=Pm.cW (cs:=#[.slice a n c]) i h3;exact⟨_,j,h.grow e j ((h.wb.below e).add i k),.inr ⟨h1,tb,h2,by rw[Pm.aQ];rfl⟩⟩
theorem getD_take(fs:List Nat)(m i:Nat)(hi:i<m)(hm:m≤fs.length):((fs.take m).map pv).getD i undef=ptr (fs.getD i 0):=by
 simp[List.getD,List.getElem?_take,hi,List.getElem?_eq_getElem (show i<fs.length by omega),pv]
theorem CF(fs:List Nat)(m i:Nat)(hi:m+i<fs.length):((fs.drop m).map pv).getD i undef=ptr (fs.getD (m+i) 0):=by
 simp[List.getD,List.getElem?_drop,List.getElem?_eq_getElem hi,pv]
def lk(C:BC)(u:U)(p:Pm)(g:Ge)(mv:Value)(ms:List Nat)(r:Option Addr)(w:World)(e:Ending)(f:World):Prop:=
 ∃c q h d a,e= .returned (.pointer (some ⟨c,0,none⟩))∧Node q h u (ae 108 c)∧BS C q h d a f∧az C p g mv ms w q h a f∧(∀b,d.ownBlock=some b→mv.ownBlock=some b∨w.heap.size≤b)∧
  w.heap.size≤c∧q c 0=none∧f.cell? ⟨c,0,none⟩=some (.pointer r)∧f.frozen? ⟨c,0,none⟩=false∧a.length≤ms.length+cn u
theorem CG{C:BC}{u:U}{p:Pm}{g:Ge}{mv:Value}{ms:List Nat}{w wr j f:World}{q:Pm}{I:Ge}{l:Value}{n fs:List Nat}{xs:Nat→Value}{d D:Option Addr}{i:Nat}{J:Value}(r:C.bb<w.heap.size)(hm:u.m.toNat≤u.es.length)(V:u.es.length≤1099511627776)(K:0<u.m.toNat∧∃e,u.es[u.m.toNat- 1]?=some e∧e.k=4)
 (c:dG C u p g mv ms w u.es.length q I l n fs xs (.slice d (fs.take u.m.toNat).length i) J wr)(h1:jt wr d (fs.take u.m.toNat).length i D j)(h2:Below j.heap.size j f):
 0<(fs.take u.m.toNat).length∧(fs.take u.m.toNat).length≤1099511627776∧∃tb fl s,D=some ⟨tb,0,none⟩∧f.cell? ⟨tb,0,none⟩=some (.slice d (fs.take u.m.toNat).length i)∧(∃b o,d=some ⟨b,o,none⟩∧f.cell? ⟨b,o+((fs.take u.m.toNat).length- 1),none⟩=some (.pointer (some ⟨fl,0,none⟩)))∧f.cell? ⟨fl,3,none⟩=some (ae 143 s):=by
 have L:=c.fl;have t:(fs.take u.m.toNat).length=u.m.toNat:=by rw[List.length_take];omega
 obtain⟨M,W,c1,N,O,x,y,_⟩:=c.bs.iJ (e:=102) (v:= .slice d (fs.take u.m.toNat).length i) (xs:=(fs.take u.m.toNat).map pv) (by decide) (by simpa using c.ir) (fun b e=>(c.ri b e).2) r;injection N with z P Q
 subst z;obtain⟨X,e,he,A⟩:=K;obtain⟨a,rfl⟩:=List.getElem?_eq_some_iff.1 he;obtain⟨E,F,R,S⟩:=y (u.m.toNat- 1) (by simp;omega);have T:M E (F+(u.m.toNat- 1))=some (ptr (fs.getD (u.m.toNat- 1) 0)):=by rw[S];exact congrArg some (getD_take _ _ _ (by omega) (by omega))
 obtain⟨s,_,_,ex,_⟩:=(c.nd _ a a).kE A;have G:=c.cl _ a a;rw[ex]at G;obtain⟨H,⟨h,_⟩|⟨_,tb,rfl,hle,B⟩⟩:=h1
 ·omega
 ·refine⟨by omega,by omega,tb,_,s,rfl,ak h2 (by simp only[World.cell?,B];rfl),⟨E,F,R,?_⟩,ak h2 (ak H (c.bs.wb.kw _ _ _ G))⟩
  rw[t];exact ak h2 (ak H (x.wb.kw _ _ _ T))
end TS
namespace Go.Proofs.YtgbklbbknehefaaGreatDoor
open Go.RowKit TS
theorem tV(a:Option Addr)(n c:Nat)(w:World):Calls Tryz.prog 64 #[.slice a n c] w fun e b=> ∃d,e= .returned (.pointer d)∧jt w a n c d b:=by
 rcases Nat.eq_zero_or_pos n with rfl|h
 ·refine(xC a c w).mono ?_
  rintro e b ⟨rfl,rfl⟩;exact⟨none,rfl,Below.refl _ _,.inl ⟨rfl,rfl⟩⟩
 ·refine(rD a n c h w).mono ?_
  rintro e b ⟨rfl,rfl⟩;exact⟨_,rfl,(Below.refl _ _).alloc (Nat.le_refl _) _,.inr ⟨h,_,rfl,Nat.le_refl _,cf rfl⟩⟩
theorem CH(r:Option Addr)(v:Bool)(w:World)(a:Option Addr)(n c:Nat)(d f:Option Addr)(i:v=true→0<n∧n≤1099511627776∧∃tb fl g,d=some ⟨tb,0,none⟩∧w.cell? ⟨tb,0,none⟩=some (.slice a n c)∧(∃b o,a=some ⟨b,o,none⟩∧w.cell? ⟨b,o+(n- 1),none⟩=some (.pointer (some ⟨fl,0,none⟩)))∧w.cell? ⟨fl,3,none⟩=some (ae 143 g)):
 Calls Tryz.prog 123 #[.pointer r,.slice none 0 0,.slice none 0 0,.pointer d,.pointer f,.bool v] w fun e h=> ∃b,e= .returned (.pointer (some ⟨b,0,none⟩))∧w.heap.size≤b∧h.heap[b]?=some (.cells #[.pointer r,.pointer none,.pointer d,.pointer f,.bool v] 112 (0,0))∧Below w.heap.size w h:=by
 cases v with
 |false=>
  refine(yu r d f w).mono ?_;rintro e h ⟨rfl,rfl⟩;exact⟨_,rfl,Nat.le_refl _,cf rfl,(Below.refl _ _).alloc (Nat.le_refl _) _⟩
 |true=>
  obtain⟨j,h1,tb,fl,g,rfl,h2,h3,k⟩:=i rfl;exact CC r f tb n c fl g a w j h1 h2 h3 k
theorem CI{C:BC}{u:U}{p:Pm}{g:Ge}{mv:Value}{ms:List Nat}{w wr w1 Q F:World}{q:Pm}{T:Ge}{G:Value}{y fs:List Nat}{xs:Nat→Value}{H oa:Option Addr}{R oc:Nat}{j n r:Option Addr}{b:Nat}(hk:u.k=7)(hm:0≤u.m∧u.m.toNat≤u.es.length)(hl:u.es.length≤1099511627776)(hB:BS C p g mv ms w)
 (d:dG C u p g mv ms w u.es.length q T G y fs xs (.slice H (fs.take u.m.toNat).length R) (.slice oa (fs.drop u.m.toNat).length oc) wr)
 (h1:jt wr H (fs.take u.m.toNat).length R j w1)(h2:jt w1 oa (fs.drop u.m.toNat).length oc n Q)(S:Q.heap.size≤b)(h3:F.heap[b]?=some (.cells #[.pointer r,.pointer none,.pointer j,.pointer n,.bool u.v] 112 (0,0)))(z:Below Q.heap.size Q F):
 lk C u p g mv ms r w (.returned (.pointer (some ⟨b,0,none⟩))) F:=by
 have I:=(hB.ib (b:=C.bb) (.inl rfl)).2.1;have Qm:=d.st.size;have Qn:=h1.1.size;have Qo:=h2.1.size;obtain⟨q1,a1,c1,e1,J,V,W,X,Y,_⟩:=d.bs.iJ (e:=102) (v:= .slice H (fs.take u.m.toNat).length R) (xs:=(fs.take u.m.toNat).map pv) (by decide) (by simpa using d.ir) (fun b e=>(d.ri b e).2) I;obtain⟨q2,a2,c2,e2,A,Z,P4,Qp,P5,_⟩:=V.iJ (e:=102) (v:= .slice oa (fs.drop u.m.toNat).length oc) (xs:=(fs.drop u.m.toNat).map pv) (by decide) (by simpa using d.or) (fun b e o=>by rw[X b fun e'=>(d.ri b e').1 e];exact d.ro b e o) I;obtain⟨q3,s,P6,K⟩:=Z.tU h1;obtain⟨B,l,D,L⟩:=P6.tU h2;have t:∀o,B b o=none:=fun o=>D.wb.kw.aG S o;have E:Plain F b:=⟨_,_,h3⟩
 have a:∀o v,#[.pointer r,.pointer none,.pointer j,.pointer n,.bool u.v][o]?=some v→F.cell? ⟨b,o,none⟩=some v:=fun o v h=>by simp[World.cell?,h3,h]
 have P7:=Pm.dP (v:= .pointer j) (o:=2) (t 2) S;have P8:=Pm.dP (p:=B.put b 2 (.pointer j)) (v:= .pointer n) (o:=3) (by rw[Pm.aV _ _ (by omega)];exact t 3) S;have P9:=Pm.dP (p:=(B.put b 2 (.pointer j)).put b 3 (.pointer n)) (v:= .bool u.v) (o:=4) (by rw[Pm.aV _ _ (by omega),Pm.aV _ _ (by omega)];exact t 4) S;have c:=(P7.trans P8 (Nat.le_refl _)).trans P9 (Nat.le_refl _);have P_:=(((D.wb.below z).put (a 2 _ rfl) E).put (a 3 _ rfl) E).put (a 4 _ rfl) E;have Qa:=D.grow z c P_;have Qb:az C p g mv ms w _ T y F:=(((d.st.iI (J.trans A (Nat.le_refl _))).grow h1.1 s).grow h2.1 l).grow z c;have M:Sub q q2:=J.le.trans A.le;have N:=(M.trans s.le).trans l.le;have x:=N.trans c.le;have Qq:=d.fl;have Qc:(fs.take u.m.toNat).length=u.m.toNat:=by rw[List.length_take];omega
 have Qd:(fs.drop u.m.toNat).length=u.es.length- u.m.toNat:=by rw[List.length_drop];omega
 injection e1 with Qe Qr Qf
 injection e2 with Qg Qs Qh
 subst Qe;subst Qf;subst Qg;subst Qh;have O:=((A.le.trans s.le).trans l.le).trans c.le;have P:=(s.le.trans l.le).trans c.le;have Qi:bK (((B.put b 2 (.pointer j)).put b 3 (.pointer n)).put b 4 (.bool u.v)) H u.m.toNat fun i=>ptr (fs.getD i 0):=fun i hi=>by
  obtain⟨b',o',k1,k2⟩:=W i (by simp;omega);refine⟨b',o',k1,O _ _ _ ?_⟩;rw[k2];exact congrArg some (getD_take _ _ _ hi (by omega))
 have Qj:bK (((B.put b 2 (.pointer j)).put b 3 (.pointer n)).put b 4 (.bool u.v)) oa (u.es.length- u.m.toNat) fun i=>ptr (fs.getD (u.m.toNat+i) 0):=fun i hi=>by
  obtain⟨b',o',k1,k2⟩:=P4 i (by simp;omega);refine⟨b',o',k1,P _ _ _ ?_⟩;rw[k2];exact congrArg some (CF _ _ _ (by omega))
 have Qk:dS (((B.put b 2 (.pointer j)).put b 3 (.pointer n)).put b 4 (.bool u.v)) (.pointer j) u.m.toNat fun i=>fs.getD i 0:=by
  rw[Qc]at K;rcases K with⟨h,rfl⟩|⟨h,tb,rfl,h'⟩
  ·exact .inl ⟨h,rfl⟩
  ·exact .inr ⟨h,tb,H,R,rfl,(l.le.trans c.le) _ _ _ h',by simp at Y;omega,Qi⟩
 have Ql:dS (((B.put b 2 (.pointer j)).put b 3 (.pointer n)).put b 4 (.bool u.v)) (.pointer n) (u.es.length- u.m.toNat) fun i=>fs.getD (u.m.toNat+i) 0:=by
  rw[Qd]at L;rcases L with⟨h,rfl⟩|⟨h,tb,rfl,h'⟩
  ·exact .inl ⟨h,rfl⟩
  ·exact .inr ⟨h,tb,oa,oc,rfl,c.le _ _ _ h',by simp at P5;omega,Qj⟩
 refine⟨b,_,T,G,y,rfl,.func (f:=fun i=>fs.getD i 0) (xs:=xs) hk ⟨hm.2,hl⟩ (by rw[Pm.aV _ _ (by omega),Pm.aV _ _ (by omega),Pm.eK]) (by rw[Pm.aV _ _ (by omega),Pm.eK]) (Pm.eK ..) Qk Ql (fun i hi=>x _ _ _ (d.cl i hi hi)) fun i hi=>(d.nd i hi hi).sub x (aD.refl _),Qa,Qb,d.om,by omega,?_,a 0 _ rfl,?_,by have:=d.ct;rw[List.take_length]at this;rw[dx];omega⟩
 ·rw[Pm.aV _ _ (by omega),Pm.aV _ _ (by omega),Pm.aV _ _ (by omega)];exact t 0
 ·simp[World.frozen?,h3]
theorem mS(C:BC)(u:U)(r:Option Addr)(hk:u.k=7)(hm:0≤u.m∧u.m.toNat≤u.es.length)(hv:u.v=true→0<u.m.toNat∧∃e,u.es[u.m.toNat- 1]?=some e∧e.k=4)(hI:∀e∈u.es,bF C e)(p:Pm)(g:Ge)(mv:Value)(ms:List Nat)(a:Option Addr)(c:Nat)(w:World)(hB:BS C p g mv ms w)(QX:ms.length+cn u≤1099511627776)(hu:ai C.pa C.D u a c):
 Calls Tryz.prog 80 #[.pointer (some ⟨C.bb,0,none⟩),.pointer r,.agg #[.int .i64 u.k,.int .i64 u.n,.int .i64 u.m,.bool u.v,.string u.nm,.string u.tg,.slice a u.es.length c]] w (lk C u p g mv ms r w):=by
 have Qy:=hu.cap;have QK:Hid (∀k e,u.es[k]?=some e→∃eb eo a' c',a=some ⟨eb,eo,none⟩∧cO C.pa eb (eo+k*7) e a' c'∧ai C.pa C.D e a' c'):=fun k e he=>by
  obtain⟨hk,rfl⟩:=List.getElem?_eq_some_iff.1 he;obtain⟨eb,eo,rfl⟩:=hu.list.bt (by omega);obtain⟨a',c',h7,P4⟩:=hu.list.get k hk;exact⟨eb,eo,a',c',rfl,h7,P4⟩
 have QS:=(hB.ib (b:=C.bb) (.inl rfl)).2.1;have P5:Below w.heap.size w (w.alloc (.cells #[.int .i64 u.k,.int .i64 u.n,.int .i64 u.m,.bool u.v,.string u.nm,.string u.tg,.slice a u.es.length c] 25)):=(Below.refl _ _).alloc (Nat.le_refl _) _;have Qo:=Lib.hid (hB.below P5);have QL:=Lib.hid hB;have QY:u.es.length≤1048576:=by omega
 have QT:u.es.length≤1099511627776:=by omega
 have QM:=Lib.hid hk;have Qz:=Lib.hid hm;have QN:=Lib.hid hv;have QO:=Lib.hid hI;obtain⟨i0,QA,Qa,Qb,Qc⟩:=info_parts rS;have hh:(w.alloc (.cells #[.int .i64 u.k,.int .i64 u.n,.int .i64 u.m,.bool u.v,.string u.nm,.string u.tg,.slice a u.es.length c] 25)).heap[w.heap.size]?=some (.cells #[.int .i64 u.k,.int .i64 u.n,.int .i64 u.m,.bool u.v,.string u.nm,.string u.tg,.slice a u.es.length c] 25):=cf rfl;have P:Hid ((w.alloc (.cells #[.int .i64 u.k,.int .i64 u.n,.int .i64 u.m,.bool u.v,.string u.nm,.string u.tg,.slice a u.es.length c] 25)).cell? ⟨w.heap.size,2,none⟩=some (.int .i64 u.m)∧(w.alloc (.cells #[.int .i64 u.k,.int .i64 u.n,.int .i64 u.m,.bool u.v,.string u.nm,.string u.tg,.slice a u.es.length c] 25)).cell? ⟨w.heap.size,3,none⟩=some (.bool u.v)):=by(repeat' apply And.intro)<;>(simp only[World.cell?,hh];rfl)
 clear hh;obtain⟨L,hW⟩:∃L,Hid (L=w.alloc (.cells #[.int .i64 u.k,.int .i64 u.n,.int .i64 u.m,.bool u.v,.string u.nm,.string u.tg,.slice a u.es.length c] 25)):=⟨_,rfl⟩
 have QZ:L.heap.size≤w.heap.size+1∧w.heap.size+1≤L.heap.size:=by rw[hW.out];simp
 rw[←hW.out]at Qo P5 P;have Q:C.bb<L.heap.size:=by omega
 have QB:=Lib.hid P5;clear hu hB P5 Qy hk hm hv hI;generalize hn:u.es.length=n at*;have M:=Lib.hid hn;clear hn;go_enter Tryz.func80,Tryz.ntmps80;go_wp2_with fail
 go_loopw [15,7,8] (fun vk vi vo wr=> ∃(k:Nat)(q:Pm)(g':Ge)(N:Value)(O fs:List Nat)(xs:Nat→Value),k≤n∧vk= .int .i64 k∧dG C u p g mv ms L k q g' N O fs xs vi vo wr∧wr.cell? ⟨w.heap.size,2,none⟩=some (.int .i64 u.m)∧wr.cell? ⟨w.heap.size,3,none⟩=some (.bool u.v)) (fun vk _ _ _=>n- (intOf vk).toNat)
 case atStart=>
  obtain rfl:=hW.out;exact⟨0,p,g,mv,ms,[],fun _=>undef,Nat.zero_le _,rfl,⟨Qo.out,az.refl _ _ _ _ _ _,fun b e=> .inl e,rfl,by simpa using World.ownsRow_nil _ _ _ _,by simpa using World.ownsRow_nil _ _ _ _,fun b e=>(by cases e),fun b e=>(by cases e),fun i _ hi=>absurd hi (Nat.not_lt_zero _),fun i _ hi=>absurd hi (Nat.not_lt_zero _),Nat.le_add_right _ _⟩,P.out⟩
 case round=>
  obtain⟨k,q,g',N,O,fs,xs,Q3,rfl,hP,t2,t3⟩:=hrel;have f:=Lib.hid hP;obtain⟨Z,ic,rfl⟩:=aZ hP.ir;obtain⟨oa,oc,rfl⟩:=aZ hP.or;have R:=Lib.hid hP.ir;have S:=Lib.hid hP.or;clear hP;obtain⟨I,z⟩:∃I,Hid (fs.take u.m.toNat=I):=⟨_,rfl⟩
  obtain⟨ol,B⟩:∃ol,Hid (fs.drop u.m.toNat=ol):=⟨_,rfl⟩
  rw[z.out,B.out]at f;rw[z.out]at R;rw[B.out]at S;rw[z.out,B.out];have P6:=Lib.hid (show I.length≤k∧ol.length≤k by have:=f.out.fl;rw[←z.out,←B.out];simp;omega);by_cases Q4:k<n
  ·have QU:(k:Int)<n:=by omega
   obtain⟨e,T⟩:∃e,u.es[k]?=some e:=⟨_,List.getElem?_eq_getElem (by have:=M.out;omega)⟩
   obtain⟨eb,eo,a',c',rfl,h7,P4⟩:=QK.out k e T;have QC:=QO.out _ (List.mem_of_getElem? T);obtain⟨z0,z1,z2,z3,z4,z5,z6⟩:(wr.cell? ⟨eb,eo+k*7,none⟩=some (.int .i64 e.k)∧wr.cell? ⟨eb,eo+k*7+1,none⟩=some (.int .i64 e.n)∧wr.cell? ⟨eb,eo+k*7+2,none⟩=some (.int .i64 e.m)∧wr.cell? ⟨eb,eo+k*7+3,none⟩=some (.bool e.v)∧wr.cell? ⟨eb,eo+k*7+4,none⟩=some (.string e.nm)∧wr.cell? ⟨eb,eo+k*7+5,none⟩=some (.string e.tg)∧wr.cell? ⟨eb,eo+k*7+6,none⟩=some (.slice a' e.es.length c')):=h7.world f.out.bs.ka;have QV:eb<wr.heap.size:=f.out.bs.ka.lt h7.1;have Qp:Below wr.heap.size wr ((wr.alloc (.cells #[.int .i64 e.k,.int .i64 e.n,.int .i64 e.m,.bool e.v,.string e.nm,.string e.tg,.slice a' e.es.length c'] 25)).drew):=((Below.refl _ _).alloc (Nat.le_refl _) _).drew;have hT:=Lib.hid (QC q g' N O a' c' _ (f.out.bs.below Qp) (by have:=f.out.ct;have:=mR T;omega) P4);have Qd:=Lib.hid T;have y:=Lib.hid Qp;have Qe:=f.out.bs.c0;have Qf:g'.pk=g.pk:=f.out.st.gs.pk;rw[Qf]at Qe;have QD:=World.block_lt_of_cell? _ _ Qe;have V:=World.block_lt_of_cell? _ _ t2;simp only at QD V;clear h7 P4 QC T Qp;go_wp2_with fail
   refine oR (fun W=>(W.cell? ⟨C.bb,0,none⟩=some (ptr g.pk)∧W.cell? ⟨w.heap.size,2,none⟩=some (.int .i64 u.m)∧W.cell? ⟨w.heap.size,3,none⟩=some (.bool u.v))∧(W.cell? ⟨wr.heap.size,0,none⟩=some (.int .i64 e.k)∧W.cell? ⟨wr.heap.size,1,none⟩=some (.int .i64 e.n)∧W.cell? ⟨wr.heap.size,2,none⟩=some (.int .i64 e.m)∧W.cell? ⟨wr.heap.size,3,none⟩=some (.bool e.v)∧W.cell? ⟨wr.heap.size,4,none⟩=some (.string e.nm)∧W.cell? ⟨wr.heap.size,5,none⟩=some (.string e.tg)∧W.cell? ⟨wr.heap.size,6,none⟩=some (.slice a' e.es.length c'))) [(0,true),(1,true),(2,true),(3,true),(4,true),(5,true),(6,false),(7,false),(8,true)] (by(repeat' apply And.intro)<;>first|(simp[go_sem];done)|(go_keep;done)) (fun d=> ?_);repeat((first|refine oS ?_|refine oF d ?_);try simp only[Act.put,oa,ob,oc])
   refine oL fun K J=> ?_;go_simp;go_at_call 36
   refine hT.out.mono ?_;rintro e1 t ⟨x,q1,g1,P7,P8,rfl,Qq,P9,A,QE,_,QF⟩;obtain⟨xt,xb,rfl⟩:=Qq.val;have Qg:t.cell? ⟨C.bb,0,none⟩=some (ptr g.pk):=by
    have h1:=P9.c0;rwa [A.gs.pk,Qf]at h1
   have Qh:=(gS f.out.bs y.out.size A).2;have QG:∀o v,((wr.alloc (.cells #[.int .i64 e.k,.int .i64 e.n,.int .i64 e.m,.bool e.v,.string e.nm,.string e.tg,.slice a' e.es.length c'] 25)).drew).cell? ⟨w.heap.size,o,none⟩=some v→t.cell? ⟨w.heap.size,o,none⟩=some v:=fun o v h=>by
    rw[A.kept.cell (World.block_lt_of_cell? _ _ h) fun e=> ?_]
    ·exact h
    ·rcases e with(e:w.heap.size=C.bb)|e
     ·omega
     ·rcases f.out.om _ e with e|e
      ·have:=(QL.out.ib (b:=w.heap.size) (.inr e)).2.1;omega
      ·have e':L.heap.size≤w.heap.size:=e
       omega
   obtain⟨⟨_,p2,p3⟩,s0,s1,s2,s3,s4,s5,s6⟩:=d;(try simp only[]);refine J _ _ (by(repeat' apply And.intro)<;>first|exact Qg|exact Qh _ _ _ (Nat.le_refl _) (by assumption)|exact QG _ _ (by assumption)) fun d=> ?_;clear J K;try simp only[Act.put,oa,ob,oc]
   clear s0 s1 s2 s3 s4 s5 s6 p2 p3;have Q5:wr.heap.size<t.heap.size:=by
    have:=A.size;simp at this;omega
   have QW:=(P9.ib (b:=C.bb) (.inl rfl)).2.1;have Q6:L.heap.size<t.heap.size:=by have:=f.out.st.size;omega
   have QH:(Value.slice Z I.length ic).ownBlock≠some C.bb∧(Value.slice Z I.length ic).ownBlock≠some wr.heap.size∧(Value.slice Z I.length ic).ownBlock≠some w.heap.size:=⟨fun e=>by have:=(R.out.lt _ e).1;omega,fun e=>by have:=(R.out.lt _ e).2;omega,fun e=>by have:=(R.out.lt _ e).1;omega⟩
   have QI:(Value.slice oa ol.length oc).ownBlock≠some C.bb∧(Value.slice oa ol.length oc).ownBlock≠some wr.heap.size∧(Value.slice oa ol.length oc).ownBlock≠some w.heap.size:=⟨fun e=>by have:=(S.out.lt _ e).1;omega,fun e=>by have:=(S.out.lt _ e).2;omega,fun e=>by have:=(S.out.lt _ e).1;omega⟩
   have Q7:=Lib.hid (show fs.length=k from f.out.fl);have Qi:=Lib.hid (show ∀j u,[Value.pointer (some ⟨t.heap.size,0,none⟩)][j]?=some u→((t.alloc (.cells #[.int .i64 0,ptr g.pk,.string ⟨#[]⟩,ae xt xb,.int .u8 4,.bool false] 170)).alloc (.cells #[.pointer (some ⟨t.heap.size,0,none⟩)] 102)).cell? ((⟨t.heap.size+1,0,none⟩:Addr).add j)=some u from fun j u h=>by
    have h1:=TS.dC (t.alloc (.cells #[.int .i64 0,ptr g.pk,.string ⟨#[]⟩,ae xt xb,.int .u8 4,.bool false] 170)) (.pointer (some ⟨t.heap.size,0,none⟩)) 102 j u h;rwa [show(t.alloc (.cells #[.int .i64 0,ptr g.pk,.string ⟨#[]⟩,ae xt xb,.int .u8 4,.bool false] 170)).heap.size=t.heap.size+1 by simp]at h1)
   have QP:=Lib.hid ((((az.row (f.out.bs.below y.out) A (by decide) (bq R.out y.out) Q fun b e=>(f.out.ri b e).2).1).alloc (.cells #[.int .i64 0,ptr g.pk,.string ⟨#[]⟩,ae xt xb,.int .u8 4,.bool false] 170)).alloc (.cells #[.pointer (some ⟨t.heap.size,0,none⟩)] 102));have QQ:=Lib.hid ((((az.row (f.out.bs.below y.out) A (by decide) (bq S.out y.out) Q f.out.ro).1).alloc (.cells #[.int .i64 0,ptr g.pk,.string ⟨#[]⟩,ae xt xb,.int .u8 4,.bool false] 170)).alloc (.cells #[.pointer (some ⟨t.heap.size,0,none⟩)] 102));have Qj:=Lib.hid P9;have Qk:=Lib.hid A;have Ql:=Lib.hid Qq;have Qm:=Lib.hid QE;clear P9 A Qq QE Qg Qh hT QG;repeat((first|refine oS ?_|refine oF d ?_);try simp only[Act.put,oa,ob,oc])
   refine oL fun K J=> ?_;go_simp;go_at_call 122
   refine(xw _ _ _ _ _ _).mono ?_;rintro e2 w2 ⟨rfl,rfl⟩;obtain⟨⟨_,p2,p3⟩,s0,s1,s2,s3,s4,s5,s6⟩:=d;(try simp only[]);refine J _ _ (by(repeat' apply And.intro)<;>exact ak ((Below.refl _ _).alloc (Nat.le_refl _) _) (by assumption)) fun d=> ?_;clear J K;try simp only[Act.put,oa,ob,oc]
   clear s0 s1 s2 s3 s4 s5 s6 p2 p3;repeat((first|refine oS ?_|refine oF d ?_);try simp only[Act.put,oa,ob,oc])
   refine bR ?_;obtain⟨⟨p1,p2,p3⟩,s0,s1,s2,s3,s4,s5,s6⟩:=d;rcases hc:decide ((k:Int)<u.m)with _|_
   ·have Qr:u.m.toNat≤k:=by simp at hc;omega
    have QR:¬(k:Int)<u.m:=by simpa using hc
    go_wp2_with (first|(at_builtin;refine wpList_append_own_at _ rfl _ _ 175 rfl L.heap.size 102 i0 (.pointer none) 1 8 Tryz.underlying175 QA Qa Qb Qc rfl (by decide) (.slice oa ol.length oc) ol.length (ol.map pv) rfl QQ.out ⟨t.heap.size+1,0,none⟩ 1 1 [.pointer (some ⟨t.heap.size,0,none⟩)] rfl rfl Qi.out (TS.one_one rfl) ?c3 ?c4 ?c5 ?_)|fail)
    case c3=>have:=P6.out;unfold maxLen;omega
    case c4=>have:=P6.out;omega
    case c5=>(try simp);omega
    intro v' w3 l E _ X;obtain⟨a3,c3,rfl⟩:=aZ l;have F:∀b o v,(Value.slice oa ol.length oc).ownBlock≠some b→((t.alloc (.cells #[.int .i64 0,ptr g.pk,.string ⟨#[]⟩,ae xt xb,.int .u8 4,.bool false] 170)).alloc (.cells #[.pointer (some ⟨t.heap.size,0,none⟩)] 102)).cell? ⟨b,o,none⟩=some v→w3.cell? ⟨b,o,none⟩=some v:=fun b o v hb h=>by
     rw[((Kept.refl (fun b=>(Value.slice oa ol.length oc).ownBlock=some b) _).grown E fun k hk _=>hk).cell (World.block_lt_of_cell? _ _ h) hb];exact h
    have Qs:=F _ _ _ QI.2.2 (ak ((Below.refl _ _).alloc (Nat.le_refl _) _) p2);have Qt:=F _ _ _ QI.2.2 (ak ((Below.refl _ _).alloc (Nat.le_refl _) _) p3);have s:Hid (∃(q2:Pm)(G:List Nat)(H:Nat→Value),dG C u p g mv ms L (k+1) q2 g1 P7 P8 G H (.slice Z I.length ic) (.slice a3 (ol.length+1) c3) w3):=
     ⟨_,_,_,dG.CE f.out Q Qd.out Qr y.out Ql.out Qj.out Qk.out Qm.out QF (cs:=#[.int .i64 0,ptr g.pk,.string ⟨#[]⟩,ae xt xb,.int .u8 4,.bool false]) rfl (by rw[B.out];exact l) E (X.imp id fun h=>h.trans (by simp))⟩
    clear F l E X;go_wp2_with fail
    obtain⟨q2,G,H,s⟩:=s.out;exact⟨⟨k+1,q2,g1,P7,P8,G,H,by omega,by go_num,s,Qs,Qt⟩,by first|omega|(simp[intOf];omega)⟩
   ·have Qr:k<u.m.toNat:=by simp at hc;omega
    have QR:(k:Int)<u.m:=by simpa using hc
    go_wp2_with (first|(at_builtin;refine wpList_append_own_at _ rfl _ _ 175 rfl L.heap.size 102 i0 (.pointer none) 1 8 Tryz.underlying175 QA Qa Qb Qc rfl (by decide) (.slice Z I.length ic) I.length (I.map pv) rfl QP.out ⟨t.heap.size+1,0,none⟩ 1 1 [.pointer (some ⟨t.heap.size,0,none⟩)] rfl rfl Qi.out (TS.one_one rfl) ?c3 ?c4 ?c5 ?_)|fail)
    case c3=>have:=P6.out;unfold maxLen;omega
    case c4=>have:=P6.out;omega
    case c5=>(try simp);omega
    intro v' w3 l E _ X;obtain⟨a3,c3,rfl⟩:=aZ l;have F:∀b o v,(Value.slice Z I.length ic).ownBlock≠some b→((t.alloc (.cells #[.int .i64 0,ptr g.pk,.string ⟨#[]⟩,ae xt xb,.int .u8 4,.bool false] 170)).alloc (.cells #[.pointer (some ⟨t.heap.size,0,none⟩)] 102)).cell? ⟨b,o,none⟩=some v→w3.cell? ⟨b,o,none⟩=some v:=fun b o v hb h=>by
     rw[((Kept.refl (fun b=>(Value.slice Z I.length ic).ownBlock=some b) _).grown E fun k hk _=>hk).cell (World.block_lt_of_cell? _ _ h) hb];exact h
    have Qs:=F _ _ _ QH.2.2 (ak ((Below.refl _ _).alloc (Nat.le_refl _) _) p2);have Qt:=F _ _ _ QH.2.2 (ak ((Below.refl _ _).alloc (Nat.le_refl _) _) p3);have s:Hid (∃(q2:Pm)(G:List Nat)(H:Nat→Value),dG C u p g mv ms L (k+1) q2 g1 P7 P8 G H (.slice a3 (I.length+1) c3) (.slice oa ol.length oc) w3):=
     ⟨_,_,_,dG.CD f.out Q Qd.out Qr y.out Ql.out Qj.out Qk.out Qm.out QF (cs:=#[.int .i64 0,ptr g.pk,.string ⟨#[]⟩,ae xt xb,.int .u8 4,.bool false]) rfl (by rw[z.out];exact l) E (X.imp id fun h=>h.trans (by simp))⟩
    clear F l E X;go_wp2_with fail
    obtain⟨q2,G,H,s⟩:=s.out;exact⟨⟨k+1,q2,g1,P7,P8,G,H,by omega,by go_num,s,Qs,Qt⟩,by first|omega|(simp[intOf];omega)⟩
  ·have Q8:¬(k:Int)<n:=by omega
   obtain rfl:k=n:=by omega
   have V:=World.block_lt_of_cell? _ _ t2;simp only at V;go_wp2_with fail
   refine oR (fun W=>W.cell? ⟨w.heap.size,3,none⟩=some (.bool u.v)) [(0,true),(1,true),(3,true),(5,true),(6,true),(2,false),(4,false),(7,false),(8,true)] (by first|(simp[go_sem];done)|(go_keep;done)) (fun d=> ?_);repeat((first|refine oS ?_|refine oF d ?_);try simp only[Act.put,oa,ob,oc])
   refine oL fun K J=> ?_;go_simp;go_at_call 64
   refine(tV _ _ _ _).mono ?_;rintro e1 t ⟨tv,rfl,Qu⟩;(try simp only[]);refine J _ _ (ak Qu.1 d) fun d=> ?_;clear J K;try simp only[Act.put,oa,ob,oc]
   repeat((first|refine oS ?_|refine oF d ?_);try simp only[Act.put,oa,ob,oc])
   refine oL fun K J=> ?_;go_simp;go_at_call 64
   refine(tV _ _ _ _).mono ?_;rintro e2 w2 ⟨qv,rfl,P_⟩;(try simp only[]);refine J _ _ (ak P_.1 d) fun d=> ?_;clear J K;try simp only[Act.put,oa,ob,oc]
   repeat((first|refine oS ?_|refine oF d ?_);try simp only[Act.put,oa,ob,oc])
   refine oL fun K J=> ?_;go_simp;go_at_call 123
   have Qv:dG C u p g mv ms L u.es.length q g' N O fs xs (.slice Z (fs.take u.m.toNat).length ic) (.slice oa (fs.drop u.m.toNat).length oc) wr.drew:=by rw[z.out,B.out,M.out];exact f.out.below (Below.refl _ _).drew
   have Y:jt wr.drew Z (fs.take u.m.toNat).length ic tv t:=by rw[z.out];exact Qu
   have Qn:jt t oa (fs.drop u.m.toNat).length oc qv w2:=by rw[B.out];exact P_
   have Qw:=fun h=>CG Q (by have:=Qz.out;have:=M.out;omega) (by have:=M.out;omega) (QN.out h) Qv Y P_.1;rw[z.out]at Qw;refine(CH r u.v w2 Z I.length ic tv qv Qw).mono ?_;rintro e3 w3 ⟨b,rfl,hb,QJ,Qx⟩;(try simp only[]);refine J _ _ (ak Qx d) fun d=> ?_;clear J K;try simp only[Act.put,oa,ob,oc]
   have s:Hid (lk C u p g mv ms r w (.returned (.pointer (some ⟨b,0,none⟩))) w3):=by
    have h:=CI QM.out (by have:=Qz.out;have:=M.out;omega) (by have:=M.out;omega) Qo.out Qv Y Qn hb QJ Qx;obtain⟨sb,q,g',N,O,h1,h2,h3,h4,h5,h6,h7⟩:=h;exact⟨sb,q,g',N,O,h1,h2,h3,az.ahead QB.out h4,fun b e=>(h5 b e).imp id fun h=>by omega,by omega,h7⟩
   clear Qw hb QJ Qx Qu P_ Y Qn Qv;repeat((first|refine oS ?_|refine oF d ?_);try simp only[Act.put,oa,ob,oc])
   refine bR ?_;clear d;go_wp2_with fail
   go_ret;exact s.out
end Go.Proofs.YtgbklbbknehefaaGreatDoor
