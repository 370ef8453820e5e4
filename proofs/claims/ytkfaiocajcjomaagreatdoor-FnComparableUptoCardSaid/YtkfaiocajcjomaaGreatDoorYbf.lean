import Derived.Test.YtkfaiocajcjomaaGreatDoorYbe
set_option maxRecDepth 100000
set_option maxHeartbeats 8000000
set_option linter.all false
namespace TS
open Go Go.RowKit Go.Proofs.YtkfaiocajcjomaaGreatDoor
def gE(e:U):Bool:=e.k==12||e.k==13|| !isIface e||aU e
theorem fU{u:U}(h:u.k=10):under u=u:=cr (by omega) (by omega) (by omega) (by omega)
theorem lv{u:U}(h:u.k=10):aU u=(u.es.drop u.m.toNat).any gE:=by
 rw[gP (by rw[fU h];exact h),fU h];rfl
theorem tW{u:U}(h:u.k=10):dq u=(u.es.drop u.m.toNat).any ei:=by
 rw[kP (by rw[fU h];exact h),fU h]
theorem mZ{u:U}(h:u.k=10):bF u=(eA u).flatMap eL:=by
 rw[mq (by rw[fU h];exact h),fU h]
theorem jv{u:U}(h:u.k=10):an u=bZ (ef u):=by
 rw[iX (by rw[fU h];exact h),fU h]
theorem tZ{u:U}(h:u.k=10):dy u=(u.es.drop u.m.toNat).foldl (fun a e=>fo a (gd e)) ([none],false):=by
 rw[oI (by rw[fU h];exact h),fU h]
theorem t_{e:U}(h:(under e).k=10):aU (under e)=aU e:=by rw[lv h,gP h];rfl
theorem B5{e:U}(h:(under e).k=10):dq (under e)=dq e:=by rw[tW h,kP h]
theorem B6{e:U}(h:(under e).k=10):an (under e)=an e:=by rw[jv h,iX h]
theorem B7{e:U}(h:(under e).k=10):bF (under e)=bF e:=by rw[mZ h,mq h]
def B8(len:Nat)(W:List (Bool×U))(e:U):Prop:=
 ((e.k=12∨e.k=13)∧(∀i(h:i<(bq e).length),pf len W (bq e)[i].1 (bq e)[i].2)∧(bq e).length≤1048576∧∀t∈bq e,t.1=true→isIface t.2=false)∨
 ((e.k≠12∧e.k≠13)∧isIface e=true∧j_ len e∧(∀x∈bF (under e),x∈W)∧∀m∈an e,aO m.nm=true)∨
 ((e.k≠12∧e.k≠13)∧Tok len e∧(false,e)∈W∧(under e).k≠2∧(under e).k≠14)
structure fB(len:Nat)(u:U):Prop where
 bz:u.k=10
 tok:∀x∈bF u,Tok len x.2
 cJ:(bF u).length≤50
 cmp:∀x∈bF u,dh len x.2
 el:∀e∈u.es.drop u.m.toNat,B8 len (bF u) e
 nm:∀m∈u.es.take u.m.toNat,aO m.nm=true
 two:cZ (u.es.take u.m.toNat)
 cf:(ef u).length≤1048576
 len:u.es.length≤1048576
structure Acc(W:List (Bool×U))(a:List U)(x:List Tm×Bool):Prop where
 wi:bk W x.1
 gen:(∀e∈a,gE e=false)→x=([none],false)
 mix:(∃e∈a,gE e=true)→(∀e∈a,ei e=false)→x.1≠ [none]∨x.2=true
 inv:x.2=true→x.1= [none]
theorem B9(W:List (Bool×U)):Acc W [] ([none],false):=⟨.inl rfl,fun _=>rfl,fun⟨_,h,_⟩=>(by cases h),fun h=>(by cases h)⟩
structure kd(W:List (Bool×U))(e:U)(y:List Tm×Bool):Prop where
 wi:bk W y.1
 gen:gE e=false→y=([none],false)
 mix:gE e=true→ei e=false→y.1≠ [none]∨y.2=true
 inv:y.2=true→y.1= [none]
theorem B_{W:List (Bool×U)}{l:List Tm}(h:bk W l):dp l=true↔l= [none]:=by
 constructor
 ·intro ha
  unfold dp at ha;obtain⟨t,a,b⟩:=List.any_eq_true.1 ha;cases t with
  |none=>exact mU h a
  |some _=>cases b
 ·rintro rfl;rfl
theorem Ca{l:List Tm}(h:dp l=false):none ∉ l:=fun hm=>by
 unfold dp at h;rw[List.any_eq_false]at h;exact h _ hm rfl
theorem Acc.step{W:List (Bool×U)}{d:List U}{x y:List Tm×Bool}{e:U}(r:RW W)(h:Acc W d x)(k:kd W e y):Acc W (d++ [e]) (fo x y):=by
 have hM:bk W (bU x.1 y.1):=bk.meet r h.wi k.wi;have g:=B_ hM;have b:(∀i∈d++ [e],gE i=false)→x=([none],false)∧y=([none],false):=fun c=>⟨h.gen fun i he=>c i (List.mem_append_left _ he),k.gen (c e (by simp))⟩
 unfold fo;cases f:(x.2||y.2)
 ·simp only[Bool.false_and,Bool.false_eq_true,if_false]
  refine⟨hM,fun c=> ?_,fun he hu=> ?_,fun l=>by cases l⟩
  ·obtain⟨rfl,rfl⟩:=b c
   simp[xU]
  ·left
   intro(m:bU x.1 y.1= [none]);have n:x.2=false:=by cases s:x.2;rfl;rw[s]at f;cases f
   have o:y.2=false:=by cases t:y.2;rfl;rw[t,Bool.or_true]at f;cases f
   have q:none∈bU x.1 y.1:=by rw[m];simp
   have h1:x.1= [none]:=mU h.wi (Classical.byContradiction fun hm=>tK (.inl hm) q);have h2:y.1= [none]:=mU k.wi (Classical.byContradiction fun hm=>tK (.inr hm) q);obtain⟨i,a,c⟩:=he;rcases List.mem_append.1 a with a|a
   ·rcases h.mix ⟨i,a,c⟩ fun z u=>hu z (List.mem_append_left _ u)with h3|h3
    ·exact h3 h1
    ·rw[n]at h3;cases h3
   ·simp only[List.mem_singleton]at a
    subst a;rcases k.mix c (hu _ (by simp))with h3|h3
    ·exact h3 h2
    ·rw[o]at h3;cases h3
 ·cases ha:dp (bU x.1 y.1)
  ·simp only[Bool.true_and,Bool.not_false,if_true]
   have p:=Ca ha;have j:none ∉ (bU x.1 y.1).filter gC:=fun hm=>p (List.mem_filter.1 hm).1;refine⟨hM.BD List.filter_sublist,fun c=> ?_,fun _ _=> .inl fun(m:(bU x.1 y.1).filter gC= [none])=>j (by rw[m];simp),fun l=>by cases l⟩;obtain⟨rfl,rfl⟩:=b c;cases f
  ·simp only[Bool.true_and,Bool.not_true,Bool.false_eq_true,if_false]
   refine⟨hM,fun c=> ?_,fun _ _=> .inr rfl,fun _=>g.1 ha⟩;obtain⟨rfl,rfl⟩:=b c;cases f
theorem Cb{W:List (Bool×U)}{e:U}(hk:e.k=12∨e.k=13)(f:∀t∈bq e,t.1=true→isIface t.2=false){S:List Tm}(wi:bk W S)(na:none∈S→∃x∈bq e,isIface x.2=true):kd W e (S,false):=by
 refine⟨wi,fun h=> ?_,fun _ hu=> .inl fun(g:S= [none])=> ?_,fun h=>by cases h⟩
 ·unfold gE at h
  rcases hk with h1|h1<;>rw[h1]at h<;>simp at h
 ·obtain⟨x,b,hi⟩:=na (by rw[g];simp)
  have a:x.1=false:=by
   cases h:x.1
   ·rfl
   ·rw[f x b h]at hi;cases hi
  unfold bq at b;unfold ei at hu;split at b
  ·rename_i c
   rw[if_pos c,List.any_eq_false]at hu;obtain⟨i,d,rfl⟩:=List.mem_map.1 b;simp only[beq_eq_false_iff_ne,ne_eq]at a;refine hu i d ?_;simp only[aD,if_neg a]at hi;simp[a,hi]
  ·simp only[List.mem_singleton]at b
   subst b;cases a
theorem Cc{W:List (Bool×U)}{e d:U}{f:List Tm}{cmp:Bool}(a:e.k≠12∧e.k≠13)(hi:isIface e=true)(hu:((under e).k=10∧d=under e)∨((under e).k=16∧d=cX))(i:∀x∈bF d,x∈W)(ok:gD d f cmp):kd W e (f,cmp):=by
 have g:gE e=aU e:=by unfold gE;simp[a.1,a.2,hi]
 have j:ei e=dq e:=by unfold ei;rw[if_neg a.1];simp[a.2,hi]
 refine⟨ok.cJ.imp id fun⟨l,m,n⟩=>⟨l,m,fun t o=>let⟨x,p,e⟩:=n t o;⟨x,i x p,e⟩⟩,fun h=> ?_,fun h k=> ?_,ok.inv⟩
 ·rw[g]at h
  rcases hu with⟨b,rfl⟩|⟨c,rfl⟩
  ·obtain⟨h1,h2⟩:=ok.gen (by rw[t_ b];exact h)
   rw[h1,h2]
  ·rw[eH (by omega),c]at h;cases h
 ·rw[g]at h
  rw[j]at k;rcases hu with⟨b,rfl⟩|⟨c,rfl⟩
  ·exact ok.mix (by rw[t_ b];exact h) (by rw[B5 b];exact k)
  ·exact ok.mix (by rw[eH (by rw[gK];decide),gK];decide) (by rw[kQ (by rw[gK];decide)])
theorem Cd{W:List (Bool×U)}{e:U}(hi:isIface e=false)(hm:(false,e)∈W):kd W e ([some (false,e)],false):=by
 refine⟨tI hm,fun h=> ?_,fun _ _=> .inl (by simp),fun h=>by cases h⟩;unfold gE at h;rw[hi]at h;simp at h
theorem Acc.ok{u:U}{x:List Tm×Bool}(hk:u.k=10)(h:Acc (bF u) (u.es.drop u.m.toNat) x)(he:dy u=x):gD u x.1 x.2:=by
 refine⟨h.wi,fun a=> ?_,fun a hu=> ?_,h.inv,by rw[he]⟩
 ·rw[lv hk,List.any_eq_false]at a
  have:=h.gen fun e he=>by simpa using a e he
  rw[this];exact⟨rfl,rfl⟩
 ·rw[lv hk,List.any_eq_true]at a
  rw[tW hk,List.any_eq_false]at hu;exact h.mix a fun e he=>by simpa using hu e he
theorem pn{p:Pm}{g:Ge}{B:Nat}{w:World}{v:Value}{rs:List Nat}{R:List Tm}(r:aq p g w)(h:b7 p g B w v rs R)(y:∀b,v.ownBlock=some b→∀o,p b o=none):
 ∃q a c,v= .slice a rs.length c∧aL p q B∧aq q g w∧bA w a rs.length (fun i=>rs.getD i 0)∧bN q a rs.length (fun i=>ptr (rs.getD i 0))∧(∀i(h:i<R.length),a7 q g R[i] (rs.getD i 0))∧
  (∀b,v.ownBlock≠some b→∀o,q b o=p b o)∧rs.length≤c∧(a=none→c=0)∧∀x,a=some x→x.spot=none:=by
 have l:∀{q:Pm},Sub p q→∀i(h:i<R.length),a7 q g R[i] (rs.getD i 0):=fun hk i hi=>by
  have F:=h.len;have:=(h.cg i hi (by omega)).sub hk (aE.refl g);simpa [show i<rs.length by omega]using this
 rcases h.own.2 with⟨n,z⟩|⟨b,cap,cur,n,A,s,C,t,D,f⟩
 ·have E:rs.length=0:=z
  exact⟨p,none,0,by rw[n,E],aL.refl _ _,r,fun i hi=>by omega,fun i hi=>by omega,l (Sub.refl p),fun _ _ _=>rfl,by omega,fun _=>rfl,fun x h=>(by cases h)⟩
 ·have j:=y b (by rw[n];rfl)
  have d:∀i,i<rs.length→cur[i]?=some (.pointer (some ⟨rs.getD i 0,0,none⟩)):=fun i hi=>by
   have:(cur.toList.take (rs.length*1))[i]?=some (.pointer (some ⟨rs.getD i 0,0,none⟩)):=by rw[f];simp[hi]
   rw[List.getElem?_take,if_pos (by omega)]at this;simpa using this
  refine⟨p.add b cur,some ⟨b,0,none⟩,cap,n,Pm.cW j A,r.add j s,fun i hi=>⟨b,0,rfl,?_⟩,fun i hi=>⟨b,0,rfl,?_⟩,l (Pm.cO j),fun c t o=>Pm.aK _ _ _ fun e=>t (by rw[n,e];rfl),C,fun h=>(by cases h),fun x h=>by cases h;rfl⟩
  ·simp[World.cell?,s,d i hi]
  ·rw[Pm.aT,Nat.zero_add];exact d i hi
theorem Ce{p:Pm}{g:Ge}{B:Nat}{w:World}{v:Value}{fs:List Nat}(n:aq p g w)(h:w.ownsRow B 99 1 v fs.length (fs.map pv))(s:∀b,v.ownBlock=some b→∀o,p b o=none):
 ∃q a c,v= .slice a fs.length c∧aL p q B∧aq q g w∧bN q a fs.length (fun i=>ptr (fs.getD i 0))∧(∀b,v.ownBlock≠some b→∀o,q b o=p b o)∧fs.length≤c:=by
 rcases h.2 with⟨j,t⟩|⟨b,cap,cur,j,x,y,z,r,A,d⟩
 ·have C:fs.length=0:=t
  exact⟨p,none,0,by rw[j,C],aL.refl _ _,n,fun i hi=>by omega,fun _ _ _=>rfl,by omega⟩
 ·have l:=s b (by rw[j];rfl)
  have f:∀i,i<fs.length→cur[i]?=some (.pointer (some ⟨fs.getD i 0,0,none⟩)):=fun i hi=>by
   have:(cur.toList.take (fs.length*1))[i]?=some (.pointer (some ⟨fs.getD i 0,0,none⟩)):=by rw[d];simp[hi]
   rw[List.getElem?_take,if_pos (by omega)]at this;simpa using this
  refine⟨p.add b cur,some ⟨b,0,none⟩,cap,j,Pm.cW l x,n.add l y,fun i hi=>⟨b,0,rfl,?_⟩,fun c r o=>Pm.aK _ _ _ fun e=>r (by rw[j,e];rfl),z⟩;rw[Pm.aT,Nat.zero_add];exact f i hi
theorem gL{w:World}{B:Nat}{e:TypeId}{v:Value}{n:Nat}{xs:List Value}(h:w.ownsRow B e 1 v n xs){b:Nat}(a:v.ownBlock=some b):∃cur,w.heap[b]?=some (.cells cur e (0,0)):=by
 rcases h.2 with⟨c,_⟩|⟨f,cap,cur,c,_,d,_⟩
 ·rw[c]at a;cases a
 ·rw[c]at a;cases a;exact⟨cur,d⟩
theorem dI.gW{p q:Pm}{g:Ge}{B e a c pm f:Nat}{w:World}{m:Option Nat}{v:Value}{M:List U}{fs:List Nat}(h:dI p g B e a c pm f w m v M fs)(j:Sub p q)(l:∀b,Cx a c pm m v b→∀o,q b o=none):dI q g B e a c pm f w m v M fs:=
 ⟨h.os,h.mB,h.ac,h.af,h.row,h.mp,h.mf,h.len,fun i hi d=>(h.cg i hi d).sub j (aE.refl g),l⟩
theorem dI.Cf{p:Pm}{g:Ge}{B d a c pm f:Nat}{w:World}{m:Option Nat}{v:Value}{M:List U}{fs:List Nat}(h:dI p g B d a c pm f w m v M fs){b:Nat}(i:Cx a c pm m v b):b=a∨b=c∨b=pm∨d≤b:=by
 rcases i with e|e|e|e|e
 ·exact .inl e
 ·exact .inr (.inl e)
 ·exact .inr (.inr (.inl e))
 ·exact .inr (.inr (.inr (h.mB _ e).1))
 ·exact .inr (.inr (.inr (h.row.lt _ e).1))
theorem dI.apart{p:Pm}{g r:Ge}{q:Pm}{B c d f pm j:Nat}{w:World}{m:Option Nat}{v:Value}{M:List U}{fs:List Nat}(h:dI p g B c d f pm j w m v M fs)(s:mX B c d f pm j){l:Value}{rs:List Nat}{R:List Tm}(hT:b7 q r c w l rs R){b:Nat}(n:l.ownBlock=some b):¬Cx d f pm m v b:=by
 obtain⟨cur,a⟩:=gL hT.own n;have t:=(hT.own.lt b n).1;obtain⟨g1,g2,g3,g4,g5⟩:=s;rintro(e|e|e|e|e)
 ·omega
 ·omega
 ·omega
 ·obtain⟨F,hO,_⟩:=h.os
  obtain⟨es,cl,hm,_⟩:=hO.2.2.2 _ e;rw[hm]at a;cases a
 ·obtain⟨o,i⟩:=gL h.row e
  rw[i]at a;injection a with a
  injection a with _ a
  exact absurd a (by decide)
structure bH(p:Pm)(g:Ge)(b:Nat)(u:U)(w:World)(xs:Nat→Value)(M:List U)(k:Nat)(q:Pm)(m:Option Nat)(v:Value)(fs:List Nat)(wr:World):Prop where
 gr:aL p q w.heap.size
 id:aq q g wr
 bR:dI q g w.heap.size (w.heap.size+8) (w.heap.size+4) (w.heap.size+5) (w.heap.size+6) (w.heap.size+7) wr m v M fs
 kept:Kept (fun c=>c=b) w wr
 iI:∀f∈fs,f<w.heap.size
 um:∃F,bV (du w.heap.size) wr (w.heap.size+3) F∧∀j a,k≤j→u.m.toNat+j<u.es.length→((u.es.getD (u.m.toNat+j) default).k=12∨(u.es.getD (u.m.toNat+j) default).k=13)→xs j=ae 177 a→F (.pointer (some ⟨a,0,none⟩))=none
 tb:wr.heap[w.heap.size+2]?=some (.cells #[.bool false,.slice none 0 0,.slice (some ⟨w.heap.size+1,0,none⟩) 1 1,.bool false] 125 (0,0))
 td:∀o,q (w.heap.size+2) o=none
 b6:wr.cell? ⟨b,6,none⟩=some (ptr (w.heap.size+2))
theorem m_(B:Nat):mX B (B+8) (B+4) (B+5) (B+6) (B+7):=⟨by omega,by omega,by omega,by omega,by omega⟩
section
variable {p:Pm} {g:Ge} {b:Nat} {u:U} {w:World} {xs:Nat→Value} {M:List U} {k:Nat} {q:Pm} {m:Option Nat} {v:Value} {fs:List Nat} {wr w2:World}
theorem bH.size(h:bH p g b u w xs M k q m v fs wr):w.heap.size+8≤wr.heap.size:=by
 have:=World.block_lt_of_cell? _ _ h.bR.mp;simp only at this;omega
theorem bH.cx(h:bH p g b u w xs M k q m v fs wr){c:Nat}(a:Cx (w.heap.size+4) (w.heap.size+5) (w.heap.size+6) m v c):w.heap.size+4≤c∧c≠w.heap.size+7:=by
 rcases h.bR.Cf a with e|e|e|e<;>omega
theorem bH.below(h:bH p g b u w xs M k q m v fs wr)(a:Below wr.heap.size wr w2):bH p g b u w xs M k q m v fs w2 where
 gr:=h.gr
 id:=h.id.below a
 bR:=h.bR.of (Y:=fun _=>False) (Kept.of a) (fun _ h=>h.elim) (aL.refl _ _) (aE.refl g)
 kept:=h.kept.below a
 iI:=h.iI
 um:=let⟨F,hF,h1⟩:=h.um;⟨F,hF.ju (X:=fun _=>False) (Kept.of a) (fun h=>h) fun _ _ h=>h,h1⟩
 tb:=by have:=h.size;rw[a.block _ (by omega)];exact h.tb
 td:=h.td
 b6:=ak a h.b6
theorem bH.skip(h:bH p g b u w xs M k q m v fs wr):bH p g b u w xs M (k+1) q m v fs wr:=
 {h with um:=let⟨F,hF,h1⟩:=h.um;⟨F,hF,fun j a c=>h1 j a (by omega)⟩}
theorem bH.gW(h:bH p g b u w xs M k q m v fs wr){a:Pm}(d:aL q a (w.heap.size+8))(e:aq a g wr)(f:∀c,Cx (w.heap.size+4) (w.heap.size+5) (w.heap.size+6) m v c→∀o,a c o=none):bH p g b u w xs M k a m v fs wr where
 gr:=h.gr.trans (d.mono (by omega)) (Nat.le_refl _)
 id:=e
 bR:=h.bR.gW d.le f
 kept:=h.kept
 iI:=h.iI
 um:=h.um
 tb:=h.tb
 td:=fun o=>d.aI (by omega) h.td o
 b6:=h.b6
theorem bH.union(h:bH p g b u w xs M k q m v fs wr)(E:b<w.heap.size){a:Nat}(n:xs k=ae 177 a)(r:∀i j,i<j→u.m.toNat+j<u.es.length→((u.es.getD (u.m.toNat+j) default).k=12∨(u.es.getD (u.m.toNat+j) default).k=13)→xs i≠xs j)
 {s:Pm}{F t:Value→Option Value}(hF:∀j a,k≤j→u.m.toNat+j<u.es.length→((u.es.getD (u.m.toNat+j) default).k=12∨(u.es.getD (u.m.toNat+j) default).k=13)→xs j=ae 177 a→F (.pointer (some ⟨a,0,none⟩))=none)
 (x:aL q s wr.heap.size)(C:aq s g w2)(hM:bV (du w.heap.size) w2 (w.heap.size+3) t)(z:∀y,y≠ .pointer (some ⟨a,0,none⟩)→t y=F y)(l:Kept (fun c=>c=w.heap.size+3) wr w2):bH p g b u w xs M (k+1) s m v fs w2 where
 gr:=h.gr.trans x (by have:=h.size;omega)
 id:=C
 bR:=h.bR.of l (fun c D=>⟨fun n=>by have:=h.cx n;omega,by omega,by omega⟩) x (aE.refl g)
 kept:=h.kept.trans l fun c D e=>by omega
 iI:=h.iI
 um:=⟨t,hM,fun j A G B d f=>by
  rw[z _ fun e=> ?_]
  ·exact hF j A (by omega) B d f
  ·refine r k j (by omega) B d ?_
   cases e;rw[n,f]⟩
 tb:=by have:=h.size;rw[l.block _ (by omega) (by omega)];exact h.tb
 td:=fun o=>x.aI (by have:=h.size;omega) h.td o
 b6:=by have:=h.size;rw[l.cell (by omega) (by omega)];exact h.b6
theorem bH.add(h:bH p g b u w xs M k q m v fs wr)(z:b<w.heap.size){j:Option Nat}{l:Value}{n:List U}{a:List Nat}{f:Nat}(o:dI q g w.heap.size (w.heap.size+8) (w.heap.size+4) (w.heap.size+5) (w.heap.size+6) (w.heap.size+7) w2 j l n a)
 (i:∀y∈a,y∈fs∨y=f)(r:f<w.heap.size)(s:aq q g w2)(d:Kept (Cx (w.heap.size+4) (w.heap.size+5) (w.heap.size+6) m v) wr w2):bH p g b u w xs n k q j l a w2 where
 gr:=h.gr
 id:=s
 bR:=o
 kept:=h.kept.trans d fun c t e=>by have:=h.cx e;omega
 iI:=fun y x=>(i y x).elim (h.iI y) fun e=>e▸r
 um:=let⟨F,hF,h1⟩:=h.um;⟨F,hF.ju d (fun e=>by have:=h.cx e;omega) fun c t e=>by have:=h.cx e;omega,h1⟩
 tb:=by have:=h.size;rw[d.block _ (by omega) fun e=>by have:=h.cx e;omega];exact h.tb
 td:=h.td
 b6:=by have:=h.size;rw[d.cell (by omega) fun e=>by have:=h.cx e;omega];exact h.b6
end
structure pq(g:Ge)(u:U)(w:World)(k:Nat)(q:Pm)(d:Value)(rs:List Nat)(R:List Tm×Bool)(wr:World):Prop where
 row:b7 q g (w.heap.size+8) wr d rs R.1
 dk:∀c,d.ownBlock=some c→∀o,q c o=none
 acc:Acc (bF u) ((u.es.drop u.m.toNat).take k) R
 Rf:R=((u.es.drop u.m.toNat).take k).foldl (fun a e=>fo a (gd e)) ([none],false)
def cL(u:U)(k:Nat):List U:=((u.es.drop u.m.toNat).take k).foldl b4 (u.es.take u.m.toNat)
theorem Cg(M:List U)(x:U):M.length≤(bK M x).length:=by unfold bK;split<;>simp
theorem pr:∀(l M:List U),M.length≤(l.foldl bK M).length
 | [],_=>Nat.le_refl _
 |x::l,M=>Nat.le_trans (Cg M x) (pr l _)
theorem Ch(M:List U)(e:U):M.length≤(b4 M e).length:=by unfold b4;split;exact pr _ _;exact Nat.le_refl _
theorem ud:∀(l M:List U),M.length≤(l.foldl b4 M).length
 | [],_=>Nat.le_refl _
 |x::l,M=>Nat.le_trans (Ch M x) (ud l _)
theorem ue{α:Type}(f:List U→α→List U)(a:∀(l:List α) M,M.length≤(l.foldl f M).length)(l:List α)(M:List U)(k:Nat):((l.take k).foldl f M).length≤(l.foldl f M).length:=by
 conv=>rhs;rw[←List.take_append_drop k l,List.foldl_append]
 exact a _ _
theorem Ci(u:U)(k:Nat):(cL u k).length≤(ef u).length:=ue b4 ud _ _ k
theorem nf{u:U}{k:Nat}(h:k<(u.es.drop u.m.toNat).length):cL u (k+1)=b4 (cL u k) (u.es.drop u.m.toNat)[k]:=mw b4 _ h
theorem Cj{u:U}{k j:Nat}(h:k<(u.es.drop u.m.toNat).length){r:List U}(hr:aW (u.es.drop u.m.toNat)[k]=true→an (u.es.drop u.m.toNat)[k]=r)(he:aW (u.es.drop u.m.toNat)[k]=true):((r.take j).foldl bK (cL u k)).length≤(ef u).length:=by
 refine Nat.le_trans (ue bK pr _ _ j) ?_;have:=Ci u (k+1);rw[nf h]at this;unfold b4 at this;rw[if_pos he,hr he]at this;exact this
theorem Ck{l:List U}(h:cZ l):∀{k:Nat}(hk:k<l.length),bK (l.take k) l[k]=l.take (k+1):=by
 intro k hk;unfold bK;rw[if_neg]
 ·rw[List.take_add_one,List.getElem?_eq_getElem hk];rfl
 ·rw[Bool.not_eq_true,List.any_eq_false]
  intro x a;obtain⟨i,hi,rfl⟩:=List.getElem_of_mem a;simp only[List.length_take]at hi;rw[List.getElem_take];have:=List.pairwise_iff_getElem.1 h i k (by omega) hk (by omega);rw[this];decide
def Pm.put(p:Pm)(b o:Nat)(v:Value):Pm:=fun a c=>if a=b∧c=o then some v else p a c
theorem Pm.eQ(p:Pm)(b o:Nat)(v:Value):p.put b o v b o=some v:=by simp[Pm.put]
theorem Pm.aY(p:Pm){b o a c:Nat}(v:Value)(h:¬(a=b∧c=o)):p.put b o v a c=p a c:=by simp only[Pm.put,if_neg h]
theorem Pm.eR{p:Pm}{b o:Nat}(v:Value)(h:p b o=none):Sub p (p.put b o v):=fun c d x a=>by
 rw[Pm.aY]
 ·exact a
 ·rintro⟨rfl,rfl⟩;rw[h]at a;cases a
theorem aq.put{p:Pm}{g:Ge}{w:World}{b o:Nat}{v:Value}(h:aq p g w)(c:p b o=none)(j:w.cell? ⟨b,o,none⟩=some v)(l:Plain w b):aq (p.put b o v) g w where
 kw:=fun d f x a=>by
  by_cases e:d=b∧f=o
  ·obtain⟨rfl,rfl⟩:=e;rw[Pm.eQ]at a;cases a;exact j
  ·rw[Pm.aY _ _ e]at a;exact h.kw _ _ _ a
 pl:=fun d f x a=>by
  by_cases e:d=b∧f=o
  ·obtain⟨rfl,rfl⟩:=e;exact l
  ·rw[Pm.aY _ _ e]at a;exact h.pl _ _ _ a
 inj:=h.inj
 cap:=h.cap
 done:=fun d u hu=>⟨Pm.eR v c _ _ _ (h.done _ _ hu).1,(h.done _ _ hu).2.sub (Pm.eR v c) (aE.refl g)⟩
 po:=fun i hi=>let⟨o,x,e⟩:=h.po i hi;⟨o,x,Pm.eR v c _ _ _ e⟩
 cB:=let⟨o,x,e⟩:=h.cB;⟨o,x,Pm.eR v c _ _ _ e⟩
 cC:=let⟨o,x,e⟩:=h.cC;⟨o,x,Pm.eR v c _ _ _ e⟩
theorem aq.setCell{p:Pm}{g:Ge}{w:World}(h:aq p g w){b o:Nat}(v:Value)(d:p b o=none)(f:b≠5):aq p g (w.setCell ⟨b,o,none⟩ v) where
 kw:=fun i j x a=>by
  rw[World.cell?_setCell_other]
  ·exact h.kw _ _ _ a
  ·intro e;cases e;rw[d]at a;cases a
 pl:=fun i j x a=>iA (h.pl _ _ _ a) _ _
 inj:=h.inj
 cap:=fun c h1 h2=>by
  rw[World.cell?_setCell_other]
  ·exact h.cap c h1 h2
  ·intro e;cases e;exact f rfl
 done:=h.done
 po:=h.po
 cB:=h.cB
 cC:=h.cC
theorem Node.Cl{p:Pm}{g:Ge}{u:U}{x:Value}(h:Node p g u x)(hk:u.k=12∨u.k=13):∃(b:Nat)(a:Option Addr)(c:Nat)(f:Nat→Nat),x=ae 177 b∧p b 0=some (.slice a (bq u).length c)∧(bq u).length≤c∧bN p a (bq u).length (fun i=>ptr (f i))∧∀i(h:i<(bq u).length),a7 p g (some (bq u)[i]) (f i):=by
 cases h with
 |union _ h1 h2 h3 d e=>exact⟨_,_,_,_,rfl,h1,h2,h3,fun i hi=>⟨(d i hi).1,_,(d i hi).2,e i hi⟩⟩
 |_=>omega
theorem Cm{e:U}(a:e.k≠12∧e.k≠13)(hi:isIface e=true):aW e=true:=by unfold aW;simp[a.1,a.2,hi]
theorem ng{e:U}(h:e.k=12∨e.k=13∨isIface e=false):aW e=false:=by
 unfold aW;rcases h with h|h|h<;>simp[h]
theorem fB.names{len:Nat}{u:U}(hF:fB len u):∀x∈ef u,aO x.nm=true:=fun x b=>by
 rcases qz b with h|⟨e,he,a,b⟩
 ·exact hF.nm x h
 ·rcases hF.el e he with⟨c,_⟩|⟨_,_,_,_,h⟩|⟨_,hT,_⟩
  ·rw[ng (c.elim .inl fun h=> .inr (.inl h))]at a;cases a
  ·exact h x b
  ·rw[ng (.inr (.inr hT.ni))]at a;cases a
def iJ(p:Pm)(g:Ge)(b:Nat)(u:U)(w:World)(e:Ending)(a:World):Prop:=
 ∃q tb,e= .returned (.pointer (some ⟨tb,0,none⟩))∧Sub p q∧(∀c o v,q c o=some v→p c o=some v∨w.heap.size≤c∨(c=b∧o=6))∧aq q g a∧cy q g b u∧Kept (fun c=>c=b) w a
theorem iJ.drew{p:Pm}{g:Ge}{b:Nat}{u:U}{w a:World}{e:Ending}(h:iJ p g b u w e a):iJ p g b u w e a.drew:=
 let⟨q,tb,h1,h2,h3,c,d,f⟩:=h
 ⟨q,tb,h1,h2,h3,c.below (Below.refl _ _).drew,d,f.below (Below.refl _ _).drew⟩
end TS
namespace Go.Proofs.YtkfaiocajcjomaaGreatDoor
open Go.RowKit TS
theorem b8{w:World}{o:Obj}{i:Nat}(h:i=w.heap.size):(w.alloc o).heap[i]?=some o:=by subst h;exact(MapKept.heap_alloc w o).1
theorem dC{w:World}{o:Obj}{i:Nat}(h:i<w.heap.size):(w.alloc o).heap[i]?=w.heap[i]?:=Below.heap_alloc _ _ _ h
theorem heap_set{w:World}{b o:Nat}{cs:Array Value}{T:TypeId}{z:Nat×Nat}{v:Value}(h:w.heap[b]?=some (.cells cs T z)):(w.setCell ⟨b,o,none⟩ v).heap[b]?=some (.cells (cs.setIfInBounds o v) T z):=by
 unfold World.setCell;simp only[Array.getElem?_modify,if_pos rfl,h];rfl
theorem Cn{p:Pm}{g:Ge}{b:Nat}{u:U}{w a:World}(xs:Nat→Value)(C:aq p g w)(F:a.cell? ⟨b,6,none⟩=some (.pointer none))(n:p b 6=none)(G:5<b)(H:b<w.heap.size)(j:Below w.heap.size w a)(q:a.heap.size=w.heap.size+2):
 bH p g b u w xs [] 0 p none (.slice none 0 0) []
  (((((((a.setCell ⟨b,6,none⟩ (.pointer (some ⟨a.heap.size,0,none⟩))).alloc (.cells #[.bool false,.slice none 0 0,.slice (some ⟨w.heap.size+1,0,none⟩) 1 1,.bool false] 125)).alloc (.map #[] 0)).alloc (.cells #[.map none] 169)).alloc (.cells #[.slice none 0 0] 101)).alloc (.map #[] 0)).alloc
    (.cells #[.map (some (a.heap.size+1+1+1+1))] 170)):=by
 have d:(a.setCell ⟨b,6,none⟩ (.pointer (some ⟨a.heap.size,0,none⟩))).heap.size=a.heap.size:=by simp
 have r:aq p g (a.setCell ⟨b,6,none⟩ (.pointer (some ⟨a.heap.size,0,none⟩))):=(C.below j).setCell _ n (by omega);have t:(a.setCell ⟨b,6,none⟩ (.pointer (some ⟨a.heap.size,0,none⟩))).cell? ⟨b,6,none⟩=some (ptr (w.heap.size+2)):=by rw[←q];exact World.cell?_setCell_same _ _ _ F
 have v:Kept (fun c=>c=b) w (a.setCell ⟨b,6,none⟩ (.pointer (some ⟨a.heap.size,0,none⟩))):=Kept.setCell (X:=fun c=>c=b) (Kept.of j) (fun _=>rfl) _;have h2:w.heap.size+2=a.heap.size:=by omega
 have h3:w.heap.size+3=a.heap.size+1:=by omega
 have D:w.heap.size+4=a.heap.size+1+1:=by omega
 have E:w.heap.size+5=a.heap.size+1+1+1:=by omega
 have y:w.heap.size+6=a.heap.size+1+1+1+1:=by omega
 have h7:w.heap.size+7=a.heap.size+1+1+1+1+1:=by omega
 have l:∀c,w.heap.size≤c→∀o,p c o=none:=fun c z o=>C.kw.aI z o;generalize A:a.setCell ⟨b,6,none⟩ (.pointer (some ⟨a.heap.size,0,none⟩))=m at*
 have B:Below m.heap.size m ((((((m.alloc (.cells #[.bool false,.slice none 0 0,.slice (some ⟨w.heap.size+1,0,none⟩) 1 1,.bool false] 125)).alloc (.map #[] 0)).alloc (.cells #[.map none] 169)).alloc (.cells #[.slice none 0 0] 101)).alloc (.map #[] 0)).alloc
  (.cells #[.map (some (a.heap.size+1+1+1+1))] 170)):=by
  have:=Below.refl m.heap.size m;iterate 6 refine Below.alloc ?_ (by simp<;>omega) _
  exact this
 clear A;refine⟨aL.refl _ _,r.below B,⟨⟨fun _=>none,⟨?_,?_,fun _=>rfl,fun K h=>by cases h⟩,fun s=>⟨fun _ x I=>by(cases I),fun _=>rfl⟩,fun k x h=>by cases h⟩,fun c h=>by(cases h),?_,?_,World.ownsRow_nil _ _ _ _,?_,⟨fun _=>none,?_⟩,rfl,fun i h=>by(simp at h),fun c z o=>l c ?_ o⟩,v.below B,fun f J=>by(cases J),⟨fun _=>none,?_,fun _ _ _ _ _ _=>rfl⟩,?_,l _ (by omega),ak B t⟩
 ·rw[D,←d];simp[go_sem]
 ·rw[D,←d];simp[go_sem]
 ·rw[E,←d];simp[go_sem]
 ·rw[E,←d];simp[go_sem]
 ·rw[h7,y,←d];simp[go_sem]
 ·exact⟨#[],0,by rw[dC (by simp only[World.size_alloc];omega),b8 (by simp only[World.size_alloc];omega)],by simp,by simp,by simp⟩
 ·rcases z with e|e|e|e|e
  ·omega
  ·omega
  ·omega
  ·cases e
  ·cases e
 ·exact⟨#[],0,by rw[dC (by simp only[World.size_alloc];omega),dC (by simp only[World.size_alloc];omega),dC (by simp only[World.size_alloc];omega),dC (by simp only[World.size_alloc];omega),b8 (by simp only[World.size_alloc];omega)],by simp,by simp,by simp⟩
 ·rw[dC (by simp only[World.size_alloc];omega),dC (by simp only[World.size_alloc];omega),dC (by simp only[World.size_alloc];omega),dC (by simp only[World.size_alloc];omega),dC (by simp only[World.size_alloc];omega),b8 (by omega)]
theorem pw{len:Nat}{p:Pm}{g:Ge}{b:Nat}{u:U}{w:World}{xs:Nat→Value}{k:Nat}{s:Pm}{m2:Option Nat}{v2:Value}{n:List Nat}{q:World}(hF:fB len u)(hk:k<(u.es.drop u.m.toNat).length)
 (r:bH p g b u w xs (cL u (k+1)) (k+1) s m2 v2 n q){R Y:List Tm×Bool}(acc:Acc (bF u) ((u.es.drop u.m.toNat).take k) R)(Rf:R=((u.es.drop u.m.toNat).take k).foldl (fun a e=>fo a (gd e)) ([none],false))
 (j:kd (bF u) (u.es.drop u.m.toNat)[k] Y)(P:Y=gd (u.es.drop u.m.toNat)[k])(A:Option Addr)(t c1:Nat)(f1:Nat→Nat)(B:t=R.1.length)(C:bA q A t f1)(D:∀i(h:i<R.1.length),a7 s g R.1[i] (f1 i))
 (E:Option Addr)(y L:Nat)(F:Nat→Nat)(G:y=Y.1.length)(H:bA q E y F)(I:∀i(h:i<Y.1.length),a7 s g Y.1[i] (F i)):
 Calls Tryz.prog 108 #[.slice A t c1,.bool R.2,.slice E y L,.bool Y.2] q fun e J=> ∃z f a3 c3,e= .returned (.tuple #[.slice a3 f.length c3,.bool (fo R Y).2])∧bH p g b u w xs (cL u (k+1)) (k+1) z m2 v2 n J∧pq g u w (k+1) z (.slice a3 f.length c3) f (fo R Y) J:=by
 have Q:=acc.wi.len hF.cJ (by decide);have S:=j.wi.len hF.cJ (by decide);have l:=bk.meet (pg hF.tok) acc.wi j.wi;refine(Bz len s g A E t y c1 L f1 F R.1 Y.1 R.2 Y.2 q B G (by omega) (by omega) r.id C H D I (mV hF.tok acc.wi) (mV hF.tok j.wi) ?_ ?_).mono ?_
 ·by_cases M:none∈bU R.1 Y.1
  ·exact .inl (mU l M)
  ·exact .inr ⟨M,by have:=l.len hF.cJ (by decide);omega⟩
 ·intro d e hm
  rcases l with h1|⟨_,_,h3⟩
  ·rw[h1]at hm;simp at hm
  ·obtain⟨x,T,he⟩:=h3 _ hm
   cases he;exact hF.cmp _ T
 ·rintro e J ⟨z,v,f,rfl,N,V,hT,K,W⟩
  obtain⟨a3,c3,rfl⟩:=bd hT.own;have X:=r.size;refine⟨z,f,a3,c3,rfl,(r.below K).gW (N.mono (by omega)) V fun c O o=>N.aI (r.bR.lt c O) (fun o=>r.bR.dk c O o) o,⟨⟨je hT.own (by omega),hT.len,hT.cg⟩,W,?_,?_⟩⟩
  ·have:=acc.step (pg hF.tok) j
   rw[List.take_add_one,List.getElem?_eq_getElem hk];exact this
  ·rw[mw _ _ hk,←Rf,←P]
theorem Co{p:Pm}{g:Ge}{b:Nat}{u:U}{w:World}{xs:Nat→Value}{M:List U}{m:Option Nat}{v:Value}{fs:List Nat}{wr:World}(h:bH p g b u w xs M 0 p m v fs wr):
 ∃q,bH p g b u w xs M 0 q m v fs ((wr.alloc (.cells #[.bool false,.nilIface] 181)).alloc (.cells #[.pointer (some ⟨wr.heap.size,0,none⟩)] 179))∧
  pq g u w 0 q (.slice (some ⟨wr.heap.size+1,0,none⟩) 1 1) [wr.heap.size] ([none],false) ((wr.alloc (.cells #[.bool false,.nilIface] 181)).alloc (.cells #[.pointer (some ⟨wr.heap.size,0,none⟩)] 179)):=by
 have j:∀o,p wr.heap.size o=none:=fun o=>h.id.kw.aI (Nat.le_refl _) o;have d:∀o,p (wr.heap.size+1) o=none:=fun o=>h.id.kw.aI (by omega) o;have f:=h.size;have k:Below wr.heap.size wr ((wr.alloc (.cells #[.bool false,.nilIface] 181)).alloc (.cells #[.pointer (some ⟨wr.heap.size,0,none⟩)] 179)):=((Below.refl _ _).alloc (Nat.le_refl _) _).alloc (by simp) _;refine⟨p.add wr.heap.size #[.bool false,.nilIface],(h.below k).gW (Pm.cW j f) ((h.id.below k).add (T:=181) j (by rw[dC (by simp),b8 rfl])) fun c a o=> ?_,⟨⟨?_,rfl,fun i hi l=> ?_⟩,fun c a o=> ?_,B9 _,rfl⟩⟩
 ·have:=h.bR.lt c a
  rw[Pm.aK _ _ _ (by omega)];exact h.bR.dk c a o
 ·have:=World.ownsRow_lit (base:=w.heap.size+8) (e:=179) (size:=1) (wr.alloc (.cells #[.bool false,.nilIface] 181)) #[.pointer (some ⟨wr.heap.size,0,none⟩)] 1 (by simp;omega) (by unfold maxLen;omega) rfl
  simpa using this
 ·have:i=0:=by simpa using hi
  subst this;show a7 _ _ none _;unfold a7;simp[Pm.add]
 ·simp[Value.ownBlock]at a
  subst a;rw[Pm.aK _ _ _ (by omega)];exact d o
theorem ug{len:Nat}{p q:Pm}{g:Ge}{b:Nat}{u:U}{w f:World}(hF:fB len u)(hb:b<w.heap.size)(G:p b 6=none)(H:Plain f b)(l:aL p q w.heap.size)(hE:aq q g f)(I:∀o,q (w.heap.size+2) o=none)(hK:Kept (fun c=>c=b) w f){mv F:Value}{fs rs:List Nat}{R:List Tm×Bool}
 (J:f.heap[w.heap.size+2]?=some (.cells #[.bool false,mv,F,.bool R.2] 125 (0,0)))(K:f.cell? ⟨b,6,none⟩=some (ptr (w.heap.size+2)))(hM:f.ownsRow (w.heap.size+8) 99 1 mv fs.length (fs.map pv))(hlen:fs.length=(an u).length)
 (x:∀i(h:i<(an u).length)(h':i<fs.length),cP q g (an u)[i] fs[i])(L:∀c,mv.ownBlock=some c→∀o,q c o=none)(hT:b7 q g (w.heap.size+8) f F rs R.1)(M:∀c,F.ownBlock=some c→∀o,q c o=none)(y:gD u R.1 R.2):
 iJ p g b u w (.returned (.pointer (some ⟨w.heap.size+2,0,none⟩))) f:=by
 obtain⟨q1,m,n,rfl,r,N,O,s,P8⟩:=Ce hE hM L;have P:∀c,F.ownBlock=some c→(Value.slice m fs.length n).ownBlock≠some c:=fun c t e=>by
  obtain⟨cur,h1⟩:=gL hT.own t;obtain⟨P6,h2⟩:=gL hM e;rw[h1]at h2;injection h2 with h2;injection h2 with _ h2;exact absurd h2 (by decide)
 obtain⟨Q,ta,tc,rfl,z,S,_,T,V,A,P9,W,X⟩:=pn N (hT.sub r.le (aE.refl g)) fun c t o=>by rw[s c (P c t)];exact M c t o
 have B:∀c,c<w.heap.size+8→(Value.slice m fs.length n).ownBlock≠some c:=fun c t e=>by have:=(hM.lt c e).1;omega
 have C:∀c,c<w.heap.size+8→(Value.slice ta rs.length tc).ownBlock≠some c:=fun c t e=>by have:=(hT.own.lt c e).1;omega
 have D:∀o,Q (w.heap.size+2) o=none:=fun o=>by rw[A _ (C _ (by omega)),s _ (B _ (by omega))];exact I o
 have Y:q b 6=none:=by
  cases h:q b 6 with
  |none=>rfl
  |some v=>
   rcases l.new _ _ _ h with h|h
   ·rw[G]at h;cases h
   ·omega
 have Z:=S.add D J;have E:(Q.add (w.heap.size+2) #[.bool false,.slice m fs.length n,.slice ta rs.length tc,.bool R.2]) b 6=none:=by
  rw[Pm.aK _ _ _ (by omega),A _ (C _ (by omega)),s _ (B _ (by omega))];exact Y
 have P3:=Z.put E K H;have P4:=Pm.cO (cs:=#[.bool false,.slice m fs.length n,.slice ta rs.length tc,.bool R.2]) D;have P5:=Pm.eR (ptr (w.heap.size+2)) E;have d:=P4.trans P5;have j:=z.le.trans d;have k:=r.le.trans j;have hl:=hT.len;have P_:(an u).length≤1048576:=by rw[jv hF.bz];unfold bZ;rw[List.length_mergeSort];exact hF.cf
 have P7:R.1.length≤50:=bk.len y.cJ hF.cJ (by decide);have a:∀o,o<4→(Pm.put (Q.add (w.heap.size+2) #[.bool false,.slice m fs.length n,.slice ta rs.length tc,.bool R.2]) b 6 (ptr (w.heap.size+2))) (w.heap.size+2) o=#[.bool false,.slice m fs.length n,.slice ta rs.length tc,.bool R.2][o]?:=fun o ho=>by
  rw[Pm.aY _ _ (by omega),Pm.aT]
 refine⟨_,_,rfl,l.le.trans k,fun c o v h=> ?_,P3,⟨w.heap.size+2,m,n,fun i=>fs.getD i 0,ta,tc,R.1,R.2,Pm.eQ _ _ _ _,?_,?_,by omega,by omega,?_,?_,?_,by omega,by omega,⟨fun i=>rs.getD i 0,?_,fun i hi=>(V i hi).sub d (aE.refl g)⟩,?_,y,W,X⟩,hK⟩
 ·by_cases e1:c=b∧o=6
  ·exact .inr (.inr e1)
  ·rw[Pm.aY _ _ e1]at h
   by_cases e2:c=w.heap.size+2
   ·exact .inr (.inl (by omega))
   ·rw[Pm.aK _ _ _ e2]at h
    rcases z.new _ _ _ h with h|h
    ·rcases r.new _ _ _ h with h|h
     ·exact(l.new _ _ _ h).imp id .inl
     ·exact .inr (.inl (by omega))
    ·exact .inr (.inl (by omega))
 ·rw[a 0 (by decide)];rfl
 ·rw[a 1 (by decide),←hlen];rfl
 ·rw[←hlen];exact O.sub j
 ·intro i hi
  have:=(x i hi (by omega)).sub k (aE.refl g);simpa [show i<fs.length by omega]using this
 ·rw[a 2 (by decide),←hl];rfl
 ·rw[←hl];exact T.sub d
 ·rw[a 3 (by decide)];rfl
end Go.Proofs.YtkfaiocajcjomaaGreatDoor
