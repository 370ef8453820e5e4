import Derived.Test.YtdkmnkjhhhmglaaGreatDoorYbd
set_option maxRecDepth 100000
set_option maxHeartbeats 8000000
set_option linter.all false
namespace TS
open Go Go.RowKit Go.Proofs.YtdkmnkjhhhmglaaGreatDoor
def gE(e:U):Bool:=e.k==12||e.k==13|| !isIface e||aZ e
theorem gJ{u:U}(h:u.k=10):under u=u:=cQ (by omega) (by omega) (by omega) (by omega)
theorem ns{u:U}(h:u.k=10):aZ u=(u.es.drop u.m.toNat).any gE:=by
 rw[iS (by rw[gJ h];exact h),gJ h];rfl
theorem wM{u:U}(h:u.k=10):gS u=(u.es.drop u.m.toNat).any ko:=by
 rw[uG (by rw[gJ h];exact h),gJ h]
theorem o_{u:U}(h:u.k=10):bL u=(dH u).flatMap fw:=by
 rw[mH (by rw[gJ h];exact h),gJ h]
theorem jI{u:U}(h:u.k=10):ai u=b7 (dW u):=by
 rw[iq (by rw[gJ h];exact h),gJ h]
theorem pc{u:U}(h:u.k=10):bQ u=(u.es.drop u.m.toNat).foldl (fun a e=>dp a (dw e)) ([none],false):=by
 rw[kl (by rw[gJ h];exact h),gJ h]
theorem wN{e:U}(h:(under e).k=10):aZ (under e)=aZ e:=by rw[ns h,iS h];rfl
theorem Ed{e:U}(h:(under e).k=10):gS (under e)=gS e:=by rw[wM h,uG h]
theorem Ee{e:U}(h:(under e).k=10):ai (under e)=ai e:=by rw[jI h,iq h]
theorem Ef{e:U}(h:(under e).k=10):bL (under e)=bL e:=by rw[o_ h,mH h]
def Eg(len:Nat)(W:List (Bool×U))(e:U):Prop:=
 ((e.k=12∨e.k=13)∧(∀i(h:i<(bj e).length),rk len W (bj e)[i].1 (bj e)[i].2)∧(bj e).length≤1048576∧∀t∈bj e,t.1=true→isIface t.2=false)∨
 ((e.k≠12∧e.k≠13)∧isIface e=true∧lF len e∧(∀x∈bL (under e),x∈W)∧∀m∈ai e,aM m.nm=true)∨
 ((e.k≠12∧e.k≠13)∧Tok len e∧(false,e)∈W∧(under e).k≠2∧(under e).k≠14)
structure gd(len:Nat)(u:U):Prop where
 bU:u.k=10
 tok:∀x∈bL u,Tok len x.2
 dm:(bL u).length≤50
 cmp:∀x∈bL u,eh len x.2
 el:∀e∈u.es.drop u.m.toNat,Eg len (bL u) e
 nm:∀m∈u.es.take u.m.toNat,aM m.nm=true
 two:dG (u.es.take u.m.toNat)
 cv:(dW u).length≤1048576
 len:u.es.length≤1048576
structure Acc(W:List (Bool×U))(a:List U)(x:List Tm×Bool):Prop where
 wi:bz W x.1
 gen:(∀e∈a,gE e=false)→x=([none],false)
 mix:(∃e∈a,gE e=true)→(∀e∈a,ko e=false)→x.1≠ [none]∨x.2=true
 inv:x.2=true→x.1= [none]
theorem Eh(W:List (Bool×U)):Acc W [] ([none],false):=⟨.inl rfl,fun _=>rfl,fun⟨_,h,_⟩=>(by cases h),fun h=>(by cases h)⟩
structure lH(W:List (Bool×U))(e:U)(y:List Tm×Bool):Prop where
 wi:bz W y.1
 gen:gE e=false→y=([none],false)
 mix:gE e=true→ko e=false→y.1≠ [none]∨y.2=true
 inv:y.2=true→y.1= [none]
theorem Ei{W:List (Bool×U)}{l:List Tm}(h:bz W l):fv l=true↔l= [none]:=by
 constructor
 ·intro ha
  unfold fv at ha;obtain⟨t,a,b⟩:=List.any_eq_true.1 ha;cases t with
  |none=>exact o5 h a
  |some _=>cases b
 ·rintro rfl;rfl
theorem Ej{l:List Tm}(h:fv l=false):none ∉ l:=fun hm=>by
 unfold fv at h;rw[List.any_eq_false]at h;exact h _ hm rfl
theorem Acc.step{W:List (Bool×U)}{d:List U}{x y:List Tm×Bool}{e:U}(r:RW W)(h:Acc W d x)(k:lH W e y):Acc W (d++ [e]) (dp x y):=by
 have hM:bz W (bc x.1 y.1):=bz.meet r h.wi k.wi;have g:=Ei hM;have b:(∀i∈d++ [e],gE i=false)→x=([none],false)∧y=([none],false):=fun c=>⟨h.gen fun i he=>c i (List.mem_append_left _ he),k.gen (c e (by simp))⟩
 unfold dp;cases f:(x.2||y.2)
 ·simp only[Bool.false_and,Bool.false_eq_true,if_false]
  refine⟨hM,fun c=> ?_,fun he hu=> ?_,fun l=>by cases l⟩
  ·obtain⟨rfl,rfl⟩:=b c
   simp[AH]
  ·left
   intro(m:bc x.1 y.1= [none]);have n:x.2=false:=by cases s:x.2;rfl;rw[s]at f;cases f
   have o:y.2=false:=by cases t:y.2;rfl;rw[t,Bool.or_true]at f;cases f
   have q:none∈bc x.1 y.1:=by rw[m];simp
   have h1:x.1= [none]:=o5 h.wi (Classical.byContradiction fun hm=>wu (.inl hm) q);have h2:y.1= [none]:=o5 k.wi (Classical.byContradiction fun hm=>wu (.inr hm) q);obtain⟨i,a,c⟩:=he;rcases List.mem_append.1 a with a|a
   ·rcases h.mix ⟨i,a,c⟩ fun z u=>hu z (List.mem_append_left _ u)with h3|h3
    ·exact h3 h1
    ·rw[n]at h3;cases h3
   ·simp only[List.mem_singleton]at a
    subst a;rcases k.mix c (hu _ (by simp))with h3|h3
    ·exact h3 h2
    ·rw[o]at h3;cases h3
 ·cases ha:fv (bc x.1 y.1)
  ·simp only[Bool.true_and,Bool.not_false,if_true]
   have p:=Ej ha;have j:none ∉ (bc x.1 y.1).filter gF:=fun hm=>p (List.mem_filter.1 hm).1;refine⟨hM.DP List.filter_sublist,fun c=> ?_,fun _ _=> .inl fun(m:(bc x.1 y.1).filter gF= [none])=>j (by rw[m];simp),fun l=>by cases l⟩;obtain⟨rfl,rfl⟩:=b c;cases f
  ·simp only[Bool.true_and,Bool.not_true,Bool.false_eq_true,if_false]
   refine⟨hM,fun c=> ?_,fun _ _=> .inr rfl,fun _=>g.1 ha⟩;obtain⟨rfl,rfl⟩:=b c;cases f
theorem Ek{W:List (Bool×U)}{e:U}(hk:e.k=12∨e.k=13)(f:∀t∈bj e,t.1=true→isIface t.2=false){S:List Tm}(wi:bz W S)(na:none∈S→∃x∈bj e,isIface x.2=true):lH W e (S,false):=by
 refine⟨wi,fun h=> ?_,fun _ hu=> .inl fun(g:S= [none])=> ?_,fun h=>by cases h⟩
 ·unfold gE at h
  rcases hk with h1|h1<;>rw[h1]at h<;>simp at h
 ·obtain⟨x,b,hi⟩:=na (by rw[g];simp)
  have a:x.1=false:=by
   cases h:x.1
   ·rfl
   ·rw[f x b h]at hi;cases hi
  unfold bj at b;unfold ko at hu;split at b
  ·rename_i c
   rw[if_pos c,List.any_eq_false]at hu;obtain⟨i,d,rfl⟩:=List.mem_map.1 b;simp only[beq_eq_false_iff_ne,ne_eq]at a;refine hu i d ?_;simp only[aC,if_neg a]at hi;simp[a,hi]
  ·simp only[List.mem_singleton]at b
   subst b;cases a
theorem El{W:List (Bool×U)}{e d:U}{f:List Tm}{cmp:Bool}(a:e.k≠12∧e.k≠13)(hi:isIface e=true)(hu:((under e).k=10∧d=under e)∨((under e).k=16∧d=dN))(i:∀x∈bL d,x∈W)(ok:iE d f cmp):lH W e (f,cmp):=by
 have g:gE e=aZ e:=by unfold gE;simp[a.1,a.2,hi]
 have j:ko e=gS e:=by unfold ko;rw[if_neg a.1];simp[a.2,hi]
 refine⟨ok.dm.imp id fun⟨l,m,n⟩=>⟨l,m,fun t o=>let⟨x,p,e⟩:=n t o;⟨x,i x p,e⟩⟩,fun h=> ?_,fun h k=> ?_,ok.inv⟩
 ·rw[g]at h
  rcases hu with⟨b,rfl⟩|⟨c,rfl⟩
  ·obtain⟨h1,h2⟩:=ok.gen (by rw[wN b];exact h)
   rw[h1,h2]
  ·rw[gw (by omega),c]at h;cases h
 ·rw[g]at h
  rw[j]at k;rcases hu with⟨b,rfl⟩|⟨c,rfl⟩
  ·exact ok.mix (by rw[wN b];exact h) (by rw[Ed b];exact k)
  ·exact ok.mix (by rw[gw (by rw[iK];decide),iK];decide) (by rw[AN (by rw[iK];decide)])
theorem Em{W:List (Bool×U)}{e:U}(hi:isIface e=false)(hm:(false,e)∈W):lH W e ([some (false,e)],false):=by
 refine⟨wm hm,fun h=> ?_,fun _ _=> .inl (by simp),fun h=>by cases h⟩;unfold gE at h;rw[hi]at h;simp at h
theorem Acc.ok{u:U}{x:List Tm×Bool}(hk:u.k=10)(h:Acc (bL u) (u.es.drop u.m.toNat) x)(he:bQ u=x):iE u x.1 x.2:=by
 refine⟨h.wi,fun a=> ?_,fun a hu=> ?_,h.inv,by rw[he]⟩
 ·rw[ns hk,List.any_eq_false]at a
  have:=h.gen fun e he=>by simpa using a e he
  rw[this];exact⟨rfl,rfl⟩
 ·rw[ns hk,List.any_eq_true]at a
  rw[wM hk,List.any_eq_false]at hu;exact h.mix a fun e he=>by simpa using hu e he
theorem ru{p:Pm}{g:Ge}{B:Nat}{w:World}{v:Value}{rs:List Nat}{R:List Tm}(r:aw p g w)(h:cD p g B w v rs R)(y:∀b,v.ownBlock=some b→∀o,p b o=none):
 ∃q a c,v= .slice a rs.length c∧aP p q B∧aw q g w∧bw w a rs.length (fun i=>rs.getD i 0)∧b9 q a rs.length (fun i=>ptr (rs.getD i 0))∧(∀i(h:i<R.length),aY q g R[i] (rs.getD i 0))∧
  (∀b,v.ownBlock≠some b→∀o,q b o=p b o)∧rs.length≤c∧(a=none→c=0)∧∀x,a=some x→x.spot=none:=by
 have l:∀{q:Pm},Sub p q→∀i(h:i<R.length),aY q g R[i] (rs.getD i 0):=fun hk i hi=>by
  have F:=h.len;have:=(h.cM i hi (by omega)).sub hk (aH.refl g);simpa [show i<rs.length by omega]using this
 rcases h.own.2 with⟨n,z⟩|⟨b,cap,cur,n,A,s,C,t,D,f⟩
 ·have E:rs.length=0:=z
  exact⟨p,none,0,by rw[n,E],aP.refl _ _,r,fun i hi=>by omega,fun i hi=>by omega,l (Sub.refl p),fun _ _ _=>rfl,by omega,fun _=>rfl,fun x h=>(by cases h)⟩
 ·have j:=y b (by rw[n];rfl)
  have d:∀i,i<rs.length→cur[i]?=some (.pointer (some ⟨rs.getD i 0,0,none⟩)):=fun i hi=>by
   have:(cur.toList.take (rs.length*1))[i]?=some (.pointer (some ⟨rs.getD i 0,0,none⟩)):=by rw[f];simp[hi]
   rw[List.getElem?_take,if_pos (by omega)]at this;simpa using this
  refine⟨p.add b cur,some ⟨b,0,none⟩,cap,n,Pm.dC j A,r.add j s,fun i hi=>⟨b,0,rfl,?_⟩,fun i hi=>⟨b,0,rfl,?_⟩,l (Pm.dj j),fun c t o=>Pm.aO _ _ _ fun e=>t (by rw[n,e];rfl),C,fun h=>(by cases h),fun x h=>by cases h;rfl⟩
  ·simp[World.cell?,s,d i hi]
  ·rw[Pm.aX,Nat.zero_add];exact d i hi
theorem En{p:Pm}{g:Ge}{B:Nat}{w:World}{v:Value}{fs:List Nat}(n:aw p g w)(h:w.ownsRow B 107 1 v fs.length (fs.map pv))(s:∀b,v.ownBlock=some b→∀o,p b o=none):
 ∃q a c,v= .slice a fs.length c∧aP p q B∧aw q g w∧b9 q a fs.length (fun i=>ptr (fs.getD i 0))∧(∀b,v.ownBlock≠some b→∀o,q b o=p b o)∧fs.length≤c:=by
 rcases h.2 with⟨j,t⟩|⟨b,cap,cur,j,x,y,z,r,A,d⟩
 ·have C:fs.length=0:=t
  exact⟨p,none,0,by rw[j,C],aP.refl _ _,n,fun i hi=>by omega,fun _ _ _=>rfl,by omega⟩
 ·have l:=s b (by rw[j];rfl)
  have f:∀i,i<fs.length→cur[i]?=some (.pointer (some ⟨fs.getD i 0,0,none⟩)):=fun i hi=>by
   have:(cur.toList.take (fs.length*1))[i]?=some (.pointer (some ⟨fs.getD i 0,0,none⟩)):=by rw[d];simp[hi]
   rw[List.getElem?_take,if_pos (by omega)]at this;simpa using this
  refine⟨p.add b cur,some ⟨b,0,none⟩,cap,j,Pm.dC l x,n.add l y,fun i hi=>⟨b,0,rfl,?_⟩,fun c r o=>Pm.aO _ _ _ fun e=>r (by rw[j,e];rfl),z⟩;rw[Pm.aX,Nat.zero_add];exact f i hi
theorem iL{w:World}{B:Nat}{e:TypeId}{v:Value}{n:Nat}{xs:List Value}(h:w.ownsRow B e 1 v n xs){b:Nat}(a:v.ownBlock=some b):∃cur,w.heap[b]?=some (.cells cur e (0,0)):=by
 rcases h.2 with⟨c,_⟩|⟨f,cap,cur,c,_,d,_⟩
 ·rw[c]at a;cases a
 ·rw[c]at a;cases a;exact⟨cur,d⟩
theorem ei.iZ{p q:Pm}{g:Ge}{B e a c pm f:Nat}{w:World}{m:Option Nat}{v:Value}{M:List U}{fs:List Nat}(h:ei p g B e a c pm f w m v M fs)(j:Sub p q)(l:∀b,Cx a c pm m v b→∀o,q b o=none):ei q g B e a c pm f w m v M fs:=
 ⟨h.os,h.mB,h.ac,h.af,h.row,h.mp,h.mf,h.len,fun i hi d=>(h.cM i hi d).sub j (aH.refl g),l⟩
theorem ei.Eo{p:Pm}{g:Ge}{B d a c pm f:Nat}{w:World}{m:Option Nat}{v:Value}{M:List U}{fs:List Nat}(h:ei p g B d a c pm f w m v M fs){b:Nat}(i:Cx a c pm m v b):b=a∨b=c∨b=pm∨d≤b:=by
 rcases i with e|e|e|e|e
 ·exact .inl e
 ·exact .inr (.inl e)
 ·exact .inr (.inr (.inl e))
 ·exact .inr (.inr (.inr (h.mB _ e).1))
 ·exact .inr (.inr (.inr (h.row.lt _ e).1))
theorem ei.apart{p:Pm}{g r:Ge}{q:Pm}{B c d f pm j:Nat}{w:World}{m:Option Nat}{v:Value}{M:List U}{fs:List Nat}(h:ei p g B c d f pm j w m v M fs)(s:o8 B c d f pm j){l:Value}{rs:List Nat}{R:List Tm}(hT:cD q r c w l rs R){b:Nat}(n:l.ownBlock=some b):¬Cx d f pm m v b:=by
 obtain⟨cur,a⟩:=iL hT.own n;have t:=(hT.own.lt b n).1;obtain⟨g1,g2,g3,g4,g5⟩:=s;rintro(e|e|e|e|e)
 ·omega
 ·omega
 ·omega
 ·obtain⟨F,hO,_⟩:=h.os
  obtain⟨es,cl,hm,_⟩:=hO.2.2.2 _ e;rw[hm]at a;cases a
 ·obtain⟨o,i⟩:=iL h.row e
  rw[i]at a;injection a with a
  injection a with _ a
  exact absurd a (by decide)
structure bW(p:Pm)(g:Ge)(b:Nat)(u:U)(w:World)(xs:Nat→Value)(M:List U)(k:Nat)(q:Pm)(m:Option Nat)(v:Value)(fs:List Nat)(wr:World):Prop where
 gr:aP p q w.heap.size
 id:aw q g wr
 cf:ei q g w.heap.size (w.heap.size+8) (w.heap.size+4) (w.heap.size+5) (w.heap.size+6) (w.heap.size+7) wr m v M fs
 kept:Kept (fun c=>c=b) w wr
 jJ:∀f∈fs,f<w.heap.size
 um:∃F,cq (dQ w.heap.size) wr (w.heap.size+3) F∧∀j a,k≤j→u.m.toNat+j<u.es.length→((u.es.getD (u.m.toNat+j) default).k=12∨(u.es.getD (u.m.toNat+j) default).k=13)→xs j=ae 185 a→F (.pointer (some ⟨a,0,none⟩))=none
 tb:wr.heap[w.heap.size+2]?=some (.cells #[.bool false,.slice none 0 0,.slice (some ⟨w.heap.size+1,0,none⟩) 1 1,.bool false] 133 (0,0))
 td:∀o,q (w.heap.size+2) o=none
 b6:wr.cell? ⟨b,6,none⟩=some (ptr (w.heap.size+2))
theorem pd(B:Nat):o8 B (B+8) (B+4) (B+5) (B+6) (B+7):=⟨by omega,by omega,by omega,by omega,by omega⟩
section
variable {p:Pm} {g:Ge} {b:Nat} {u:U} {w:World} {xs:Nat→Value} {M:List U} {k:Nat} {q:Pm} {m:Option Nat} {v:Value} {fs:List Nat} {wr w2:World}
theorem bW.size(h:bW p g b u w xs M k q m v fs wr):w.heap.size+8≤wr.heap.size:=by
 have:=World.block_lt_of_cell? _ _ h.cf.mp;simp only at this;omega
theorem bW.cx(h:bW p g b u w xs M k q m v fs wr){c:Nat}(a:Cx (w.heap.size+4) (w.heap.size+5) (w.heap.size+6) m v c):w.heap.size+4≤c∧c≠w.heap.size+7:=by
 rcases h.cf.Eo a with e|e|e|e<;>omega
theorem bW.below(h:bW p g b u w xs M k q m v fs wr)(a:Below wr.heap.size wr w2):bW p g b u w xs M k q m v fs w2 where
 gr:=h.gr
 id:=h.id.below a
 cf:=h.cf.of (Y:=fun _=>False) (Kept.of a) (fun _ h=>h.elim) (aP.refl _ _) (aH.refl g)
 kept:=h.kept.below a
 jJ:=h.jJ
 um:=let⟨F,hF,h1⟩:=h.um;⟨F,hF.kH (X:=fun _=>False) (Kept.of a) (fun h=>h) fun _ _ h=>h,h1⟩
 tb:=by have:=h.size;rw[a.block _ (by omega)];exact h.tb
 td:=h.td
 b6:=ar a h.b6
theorem bW.skip(h:bW p g b u w xs M k q m v fs wr):bW p g b u w xs M (k+1) q m v fs wr:=
 {h with um:=let⟨F,hF,h1⟩:=h.um;⟨F,hF,fun j a c=>h1 j a (by omega)⟩}
theorem bW.iZ(h:bW p g b u w xs M k q m v fs wr){a:Pm}(d:aP q a (w.heap.size+8))(e:aw a g wr)(f:∀c,Cx (w.heap.size+4) (w.heap.size+5) (w.heap.size+6) m v c→∀o,a c o=none):bW p g b u w xs M k a m v fs wr where
 gr:=h.gr.trans (d.mono (by omega)) (Nat.le_refl _)
 id:=e
 cf:=h.cf.iZ d.le f
 kept:=h.kept
 jJ:=h.jJ
 um:=h.um
 tb:=h.tb
 td:=fun o=>d.aJ (by omega) h.td o
 b6:=h.b6
theorem bW.union(h:bW p g b u w xs M k q m v fs wr)(E:b<w.heap.size){a:Nat}(n:xs k=ae 185 a)(r:∀i j,i<j→u.m.toNat+j<u.es.length→((u.es.getD (u.m.toNat+j) default).k=12∨(u.es.getD (u.m.toNat+j) default).k=13)→xs i≠xs j)
 {s:Pm}{F t:Value→Option Value}(hF:∀j a,k≤j→u.m.toNat+j<u.es.length→((u.es.getD (u.m.toNat+j) default).k=12∨(u.es.getD (u.m.toNat+j) default).k=13)→xs j=ae 185 a→F (.pointer (some ⟨a,0,none⟩))=none)
 (x:aP q s wr.heap.size)(C:aw s g w2)(hM:cq (dQ w.heap.size) w2 (w.heap.size+3) t)(z:∀y,y≠ .pointer (some ⟨a,0,none⟩)→t y=F y)(l:Kept (fun c=>c=w.heap.size+3) wr w2):bW p g b u w xs M (k+1) s m v fs w2 where
 gr:=h.gr.trans x (by have:=h.size;omega)
 id:=C
 cf:=h.cf.of l (fun c D=>⟨fun n=>by have:=h.cx n;omega,by omega,by omega⟩) x (aH.refl g)
 kept:=h.kept.trans l fun c D e=>by omega
 jJ:=h.jJ
 um:=⟨t,hM,fun j A G B d f=>by
  rw[z _ fun e=> ?_]
  ·exact hF j A (by omega) B d f
  ·refine r k j (by omega) B d ?_
   cases e;rw[n,f]⟩
 tb:=by have:=h.size;rw[l.block _ (by omega) (by omega)];exact h.tb
 td:=fun o=>x.aJ (by have:=h.size;omega) h.td o
 b6:=by have:=h.size;rw[l.cell (by omega) (by omega)];exact h.b6
theorem bW.add(h:bW p g b u w xs M k q m v fs wr)(z:b<w.heap.size){j:Option Nat}{l:Value}{n:List U}{a:List Nat}{f:Nat}(o:ei q g w.heap.size (w.heap.size+8) (w.heap.size+4) (w.heap.size+5) (w.heap.size+6) (w.heap.size+7) w2 j l n a)
 (i:∀y∈a,y∈fs∨y=f)(r:f<w.heap.size)(s:aw q g w2)(d:Kept (Cx (w.heap.size+4) (w.heap.size+5) (w.heap.size+6) m v) wr w2):bW p g b u w xs n k q j l a w2 where
 gr:=h.gr
 id:=s
 cf:=o
 kept:=h.kept.trans d fun c t e=>by have:=h.cx e;omega
 jJ:=fun y x=>(i y x).elim (h.jJ y) fun e=>e▸r
 um:=let⟨F,hF,h1⟩:=h.um;⟨F,hF.kH d (fun e=>by have:=h.cx e;omega) fun c t e=>by have:=h.cx e;omega,h1⟩
 tb:=by have:=h.size;rw[d.block _ (by omega) fun e=>by have:=h.cx e;omega];exact h.tb
 td:=h.td
 b6:=by have:=h.size;rw[d.cell (by omega) fun e=>by have:=h.cx e;omega];exact h.b6
end
structure ry(g:Ge)(u:U)(w:World)(k:Nat)(q:Pm)(d:Value)(rs:List Nat)(R:List Tm×Bool)(wr:World):Prop where
 row:cD q g (w.heap.size+8) wr d rs R.1
 dk:∀c,d.ownBlock=some c→∀o,q c o=none
 acc:Acc (bL u) ((u.es.drop u.m.toNat).take k) R
 Rf:R=((u.es.drop u.m.toNat).take k).foldl (fun a e=>dp a (dw e)) ([none],false)
def dh(u:U)(k:Nat):List U:=((u.es.drop u.m.toNat).take k).foldl bH (u.es.take u.m.toNat)
theorem Ep(M:List U)(x:U):M.length≤(bG M x).length:=by unfold bG;split<;>simp
theorem rz:∀(l M:List U),M.length≤(l.foldl bG M).length
 | [],_=>Nat.le_refl _
 |x::l,M=>Nat.le_trans (Ep M x) (rz l _)
theorem Er(M:List U)(e:U):M.length≤(bH M e).length:=by unfold bH;split;exact rz _ _;exact Nat.le_refl _
theorem wP:∀(l M:List U),M.length≤(l.foldl bH M).length
 | [],_=>Nat.le_refl _
 |x::l,M=>Nat.le_trans (Er M x) (wP l _)
theorem wQ{α:Type}(f:List U→α→List U)(a:∀(l:List α) M,M.length≤(l.foldl f M).length)(l:List α)(M:List U)(k:Nat):((l.take k).foldl f M).length≤(l.foldl f M).length:=by
 conv=>rhs;rw[←List.take_append_drop k l,List.foldl_append]
 exact a _ _
theorem Es(u:U)(k:Nat):(dh u k).length≤(dW u).length:=wQ bH wP _ _ k
theorem pf{u:U}{k:Nat}(h:k<(u.es.drop u.m.toNat).length):dh u (k+1)=bH (dh u k) (u.es.drop u.m.toNat)[k]:=oA bH _ h
theorem Et{u:U}{k j:Nat}(h:k<(u.es.drop u.m.toNat).length){r:List U}(hr:aQ (u.es.drop u.m.toNat)[k]=true→ai (u.es.drop u.m.toNat)[k]=r)(he:aQ (u.es.drop u.m.toNat)[k]=true):((r.take j).foldl bG (dh u k)).length≤(dW u).length:=by
 refine Nat.le_trans (wQ bG rz _ _ j) ?_;have:=Es u (k+1);rw[pf h]at this;unfold bH at this;rw[if_pos he,hr he]at this;exact this
theorem Eu{l:List U}(h:dG l):∀{k:Nat}(hk:k<l.length),bG (l.take k) l[k]=l.take (k+1):=by
 intro k hk;unfold bG;rw[if_neg]
 ·rw[List.take_add_one,List.getElem?_eq_getElem hk];rfl
 ·rw[Bool.not_eq_true,List.any_eq_false]
  intro x a;obtain⟨i,hi,rfl⟩:=List.getElem_of_mem a;simp only[List.length_take]at hi;rw[List.getElem_take];have:=List.pairwise_iff_getElem.1 h i k (by omega) hk (by omega);rw[this];decide
def Pm.put(p:Pm)(b o:Nat)(v:Value):Pm:=fun a c=>if a=b∧c=o then some v else p a c
theorem Pm.fL(p:Pm)(b o:Nat)(v:Value):p.put b o v b o=some v:=by simp[Pm.put]
theorem Pm.a_(p:Pm){b o a c:Nat}(v:Value)(h:¬(a=b∧c=o)):p.put b o v a c=p a c:=by simp only[Pm.put,if_neg h]
theorem Pm.fM{p:Pm}{b o:Nat}(v:Value)(h:p b o=none):Sub p (p.put b o v):=fun c d x a=>by
 rw[Pm.a_]
 ·exact a
 ·rintro⟨rfl,rfl⟩;rw[h]at a;cases a
theorem aw.put{p:Pm}{g:Ge}{w:World}{b o:Nat}{v:Value}(h:aw p g w)(c:p b o=none)(j:w.cell? ⟨b,o,none⟩=some v)(l:Plain w b):aw (p.put b o v) g w where
 kw:=fun d f x a=>by
  by_cases e:d=b∧f=o
  ·obtain⟨rfl,rfl⟩:=e;rw[Pm.fL]at a;cases a;exact j
  ·rw[Pm.a_ _ _ e]at a;exact h.kw _ _ _ a
 pl:=fun d f x a=>by
  by_cases e:d=b∧f=o
  ·obtain⟨rfl,rfl⟩:=e;exact l
  ·rw[Pm.a_ _ _ e]at a;exact h.pl _ _ _ a
 inj:=h.inj
 cap:=h.cap
 done:=fun d u hu=>⟨Pm.fM v c _ _ _ (h.done _ _ hu).1,(h.done _ _ hu).2.sub (Pm.fM v c) (aH.refl g)⟩
 po:=fun i hi=>let⟨o,x,e⟩:=h.po i hi;⟨o,x,Pm.fM v c _ _ _ e⟩
 cH:=let⟨o,x,e⟩:=h.cH;⟨o,x,Pm.fM v c _ _ _ e⟩
 cI:=let⟨o,x,e⟩:=h.cI;⟨o,x,Pm.fM v c _ _ _ e⟩
theorem aw.setCell{p:Pm}{g:Ge}{w:World}(h:aw p g w){b o:Nat}(v:Value)(d:p b o=none)(f:b≠5):aw p g (w.setCell ⟨b,o,none⟩ v) where
 kw:=fun i j x a=>by
  rw[World.cell?_setCell_other]
  ·exact h.kw _ _ _ a
  ·intro e;cases e;rw[d]at a;cases a
 pl:=fun i j x a=>jB (h.pl _ _ _ a) _ _
 inj:=h.inj
 cap:=fun c h1 h2=>by
  rw[World.cell?_setCell_other]
  ·exact h.cap c h1 h2
  ·intro e;cases e;exact f rfl
 done:=h.done
 po:=h.po
 cH:=h.cH
 cI:=h.cI
theorem Node.Ev{p:Pm}{g:Ge}{u:U}{x:Value}(h:Node p g u x)(hk:u.k=12∨u.k=13):∃(b:Nat)(a:Option Addr)(c:Nat)(f:Nat→Nat),x=ae 185 b∧p b 0=some (.slice a (bj u).length c)∧(bj u).length≤c∧b9 p a (bj u).length (fun i=>ptr (f i))∧∀i(h:i<(bj u).length),aY p g (some (bj u)[i]) (f i):=by
 cases h with
 |union _ h1 h2 h3 d e=>exact⟨_,_,_,_,rfl,h1,h2,h3,fun i hi=>⟨(d i hi).1,_,(d i hi).2,e i hi⟩⟩
 |_=>omega
theorem Ew{e:U}(a:e.k≠12∧e.k≠13)(hi:isIface e=true):aQ e=true:=by unfold aQ;simp[a.1,a.2,hi]
theorem pg{e:U}(h:e.k=12∨e.k=13∨isIface e=false):aQ e=false:=by
 unfold aQ;rcases h with h|h|h<;>simp[h]
theorem gd.names{len:Nat}{u:U}(hF:gd len u):∀x∈dW u,aM x.nm=true:=fun x b=>by
 rcases sX b with h|⟨e,he,a,b⟩
 ·exact hF.nm x h
 ·rcases hF.el e he with⟨c,_⟩|⟨_,_,_,_,h⟩|⟨_,hT,_⟩
  ·rw[pg (c.elim .inl fun h=> .inr (.inl h))]at a;cases a
  ·exact h x b
  ·rw[pg (.inr (.inr hT.ni))]at a;cases a
def jK(p:Pm)(g:Ge)(b:Nat)(u:U)(w:World)(e:Ending)(a:World):Prop:=
 ∃q tb,e= .returned (.pointer (some ⟨tb,0,none⟩))∧Sub p q∧(∀c o v,q c o=some v→p c o=some v∨w.heap.size≤c∨(c=b∧o=6))∧aw q g a∧cY q g b u∧Kept (fun c=>c=b) w a
theorem jK.drew{p:Pm}{g:Ge}{b:Nat}{u:U}{w a:World}{e:Ending}(h:jK p g b u w e a):jK p g b u w e a.drew:=
 let⟨q,tb,h1,h2,h3,c,d,f⟩:=h
 ⟨q,tb,h1,h2,h3,c.below (Below.refl _ _).drew,d,f.below (Below.refl _ _).drew⟩
end TS
namespace Go.Proofs.YtdkmnkjhhhmglaaGreatDoor
open Go.RowKit TS
theorem cV{w:World}{o:Obj}{i:Nat}(h:i=w.heap.size):(w.alloc o).heap[i]?=some o:=by subst h;exact(MapKept.heap_alloc w o).1
theorem dU{w:World}{o:Obj}{i:Nat}(h:i<w.heap.size):(w.alloc o).heap[i]?=w.heap[i]?:=Below.heap_alloc _ _ _ h
theorem heap_set{w:World}{b o:Nat}{cs:Array Value}{T:TypeId}{z:Nat×Nat}{v:Value}(h:w.heap[b]?=some (.cells cs T z)):(w.setCell ⟨b,o,none⟩ v).heap[b]?=some (.cells (cs.setIfInBounds o v) T z):=by
 unfold World.setCell;simp only[Array.getElem?_modify,if_pos rfl,h];rfl
theorem Ex{p:Pm}{g:Ge}{b:Nat}{u:U}{w a:World}(xs:Nat→Value)(C:aw p g w)(F:a.cell? ⟨b,6,none⟩=some (.pointer none))(n:p b 6=none)(G:5<b)(H:b<w.heap.size)(j:Below w.heap.size w a)(q:a.heap.size=w.heap.size+2):
 bW p g b u w xs [] 0 p none (.slice none 0 0) []
  (((((((a.setCell ⟨b,6,none⟩ (.pointer (some ⟨a.heap.size,0,none⟩))).alloc (.cells #[.bool false,.slice none 0 0,.slice (some ⟨w.heap.size+1,0,none⟩) 1 1,.bool false] 133)).alloc (.map #[] 0)).alloc (.cells #[.map none] 210)).alloc (.cells #[.slice none 0 0] 109)).alloc (.map #[] 0)).alloc
    (.cells #[.map (some (a.heap.size+1+1+1+1))] 211)):=by
 have d:(a.setCell ⟨b,6,none⟩ (.pointer (some ⟨a.heap.size,0,none⟩))).heap.size=a.heap.size:=by simp
 have r:aw p g (a.setCell ⟨b,6,none⟩ (.pointer (some ⟨a.heap.size,0,none⟩))):=(C.below j).setCell _ n (by omega);have t:(a.setCell ⟨b,6,none⟩ (.pointer (some ⟨a.heap.size,0,none⟩))).cell? ⟨b,6,none⟩=some (ptr (w.heap.size+2)):=by rw[←q];exact World.cell?_setCell_same _ _ _ F
 have v:Kept (fun c=>c=b) w (a.setCell ⟨b,6,none⟩ (.pointer (some ⟨a.heap.size,0,none⟩))):=Kept.setCell (X:=fun c=>c=b) (Kept.of j) (fun _=>rfl) _;have h2:w.heap.size+2=a.heap.size:=by omega
 have h3:w.heap.size+3=a.heap.size+1:=by omega
 have D:w.heap.size+4=a.heap.size+1+1:=by omega
 have E:w.heap.size+5=a.heap.size+1+1+1:=by omega
 have y:w.heap.size+6=a.heap.size+1+1+1+1:=by omega
 have h7:w.heap.size+7=a.heap.size+1+1+1+1+1:=by omega
 have l:∀c,w.heap.size≤c→∀o,p c o=none:=fun c z o=>C.kw.aJ z o;generalize A:a.setCell ⟨b,6,none⟩ (.pointer (some ⟨a.heap.size,0,none⟩))=m at*
 have B:Below m.heap.size m ((((((m.alloc (.cells #[.bool false,.slice none 0 0,.slice (some ⟨w.heap.size+1,0,none⟩) 1 1,.bool false] 133)).alloc (.map #[] 0)).alloc (.cells #[.map none] 210)).alloc (.cells #[.slice none 0 0] 109)).alloc (.map #[] 0)).alloc
  (.cells #[.map (some (a.heap.size+1+1+1+1))] 211)):=by
  have:=Below.refl m.heap.size m;iterate 6 refine Below.alloc ?_ (by simp<;>omega) _
  exact this
 clear A;refine⟨aP.refl _ _,r.below B,⟨⟨fun _=>none,⟨?_,?_,fun _=>rfl,fun K h=>by cases h⟩,fun s=>⟨fun _ x I=>by(cases I),fun _=>rfl⟩,fun k x h=>by cases h⟩,fun c h=>by(cases h),?_,?_,World.ownsRow_nil _ _ _ _,?_,⟨fun _=>none,?_⟩,rfl,fun i h=>by(simp at h),fun c z o=>l c ?_ o⟩,v.below B,fun f J=>by(cases J),⟨fun _=>none,?_,fun _ _ _ _ _ _=>rfl⟩,?_,l _ (by omega),ar B t⟩
 ·rw[D,←d];simp[go_sem]
 ·rw[D,←d];simp[go_sem]
 ·rw[E,←d];simp[go_sem]
 ·rw[E,←d];simp[go_sem]
 ·rw[h7,y,←d];simp[go_sem]
 ·exact⟨#[],0,by rw[dU (by simp only[World.size_alloc];omega),cV (by simp only[World.size_alloc];omega)],by simp,by simp,by simp⟩
 ·rcases z with e|e|e|e|e
  ·omega
  ·omega
  ·omega
  ·cases e
  ·cases e
 ·exact⟨#[],0,by rw[dU (by simp only[World.size_alloc];omega),dU (by simp only[World.size_alloc];omega),dU (by simp only[World.size_alloc];omega),dU (by simp only[World.size_alloc];omega),cV (by simp only[World.size_alloc];omega)],by simp,by simp,by simp⟩
 ·rw[dU (by simp only[World.size_alloc];omega),dU (by simp only[World.size_alloc];omega),dU (by simp only[World.size_alloc];omega),dU (by simp only[World.size_alloc];omega),dU (by simp only[World.size_alloc];omega),cV (by omega)]
theorem rA{len:Nat}{p:Pm}{g:Ge}{b:Nat}{u:U}{w:World}{xs:Nat→Value}{k:Nat}{s:Pm}{m2:Option Nat}{v2:Value}{n:List Nat}{q:World}(hF:gd len u)(hk:k<(u.es.drop u.m.toNat).length)
 (r:bW p g b u w xs (dh u (k+1)) (k+1) s m2 v2 n q){R Y:List Tm×Bool}(acc:Acc (bL u) ((u.es.drop u.m.toNat).take k) R)(Rf:R=((u.es.drop u.m.toNat).take k).foldl (fun a e=>dp a (dw e)) ([none],false))
 (j:lH (bL u) (u.es.drop u.m.toNat)[k] Y)(P:Y=dw (u.es.drop u.m.toNat)[k])(A:Option Addr)(t c1:Nat)(f1:Nat→Nat)(B:t=R.1.length)(C:bw q A t f1)(D:∀i(h:i<R.1.length),aY s g R.1[i] (f1 i))
 (E:Option Addr)(y L:Nat)(F:Nat→Nat)(G:y=Y.1.length)(H:bw q E y F)(I:∀i(h:i<Y.1.length),aY s g Y.1[i] (F i)):
 Calls Tryz.prog 127 #[.slice A t c1,.bool R.2,.slice E y L,.bool Y.2] q fun e J=> ∃z f a3 c3,e= .returned (.tuple #[.slice a3 f.length c3,.bool (dp R Y).2])∧bW p g b u w xs (dh u (k+1)) (k+1) z m2 v2 n J∧ry g u w (k+1) z (.slice a3 f.length c3) f (dp R Y) J:=by
 have Q:=acc.wi.len hF.dm (by decide);have S:=j.wi.len hF.dm (by decide);have l:=bz.meet (rl hF.tok) acc.wi j.wi;refine(DM len s g A E t y c1 L f1 F R.1 Y.1 R.2 Y.2 q B G (by omega) (by omega) r.id C H D I (o6 hF.tok acc.wi) (o6 hF.tok j.wi) ?_ ?_).mono ?_
 ·by_cases M:none∈bc R.1 Y.1
  ·exact .inl (o5 l M)
  ·exact .inr ⟨M,by have:=l.len hF.dm (by decide);omega⟩
 ·intro d e hm
  rcases l with h1|⟨_,_,h3⟩
  ·rw[h1]at hm;simp at hm
  ·obtain⟨x,T,he⟩:=h3 _ hm
   cases he;exact hF.cmp _ T
 ·rintro e J ⟨z,v,f,rfl,N,V,hT,K,W⟩
  obtain⟨a3,c3,rfl⟩:=bn hT.own;have X:=r.size;refine⟨z,f,a3,c3,rfl,(r.below K).iZ (N.mono (by omega)) V fun c O o=>N.aJ (r.cf.lt c O) (fun o=>r.cf.dk c O o) o,⟨⟨kh hT.own (by omega),hT.len,hT.cM⟩,W,?_,?_⟩⟩
  ·have:=acc.step (rl hF.tok) j
   rw[List.take_add_one,List.getElem?_eq_getElem hk];exact this
  ·rw[oA _ _ hk,←Rf,←P]
theorem Ey{p:Pm}{g:Ge}{b:Nat}{u:U}{w:World}{xs:Nat→Value}{M:List U}{m:Option Nat}{v:Value}{fs:List Nat}{wr:World}(h:bW p g b u w xs M 0 p m v fs wr):
 ∃q,bW p g b u w xs M 0 q m v fs ((wr.alloc (.cells #[.bool false,.nilIface] 220)).alloc (.cells #[.pointer (some ⟨wr.heap.size,0,none⟩)] 218))∧
  ry g u w 0 q (.slice (some ⟨wr.heap.size+1,0,none⟩) 1 1) [wr.heap.size] ([none],false) ((wr.alloc (.cells #[.bool false,.nilIface] 220)).alloc (.cells #[.pointer (some ⟨wr.heap.size,0,none⟩)] 218)):=by
 have j:∀o,p wr.heap.size o=none:=fun o=>h.id.kw.aJ (Nat.le_refl _) o;have d:∀o,p (wr.heap.size+1) o=none:=fun o=>h.id.kw.aJ (by omega) o;have f:=h.size;have k:Below wr.heap.size wr ((wr.alloc (.cells #[.bool false,.nilIface] 220)).alloc (.cells #[.pointer (some ⟨wr.heap.size,0,none⟩)] 218)):=((Below.refl _ _).alloc (Nat.le_refl _) _).alloc (by simp) _;refine⟨p.add wr.heap.size #[.bool false,.nilIface],(h.below k).iZ (Pm.dC j f) ((h.id.below k).add (T:=220) j (by rw[dU (by simp),cV rfl])) fun c a o=> ?_,⟨⟨?_,rfl,fun i hi l=> ?_⟩,fun c a o=> ?_,Eh _,rfl⟩⟩
 ·have:=h.cf.lt c a
  rw[Pm.aO _ _ _ (by omega)];exact h.cf.dk c a o
 ·have:=World.ownsRow_lit (base:=w.heap.size+8) (e:=218) (size:=1) (wr.alloc (.cells #[.bool false,.nilIface] 220)) #[.pointer (some ⟨wr.heap.size,0,none⟩)] 1 (by simp;omega) (by unfold maxLen;omega) rfl
  simpa using this
 ·have:i=0:=by simpa using hi
  subst this;show aY _ _ none _;unfold aY;simp[Pm.add]
 ·simp[Value.ownBlock]at a
  subst a;rw[Pm.aO _ _ _ (by omega)];exact d o
theorem wR{len:Nat}{p q:Pm}{g:Ge}{b:Nat}{u:U}{w f:World}(hF:gd len u)(hb:b<w.heap.size)(G:p b 6=none)(H:Plain f b)(l:aP p q w.heap.size)(hE:aw q g f)(I:∀o,q (w.heap.size+2) o=none)(hK:Kept (fun c=>c=b) w f){mv F:Value}{fs rs:List Nat}{R:List Tm×Bool}
 (J:f.heap[w.heap.size+2]?=some (.cells #[.bool false,mv,F,.bool R.2] 133 (0,0)))(K:f.cell? ⟨b,6,none⟩=some (ptr (w.heap.size+2)))(hM:f.ownsRow (w.heap.size+8) 107 1 mv fs.length (fs.map pv))(hlen:fs.length=(ai u).length)
 (x:∀i(h:i<(ai u).length)(h':i<fs.length),dn q g (ai u)[i] fs[i])(L:∀c,mv.ownBlock=some c→∀o,q c o=none)(hT:cD q g (w.heap.size+8) f F rs R.1)(M:∀c,F.ownBlock=some c→∀o,q c o=none)(y:iE u R.1 R.2):
 jK p g b u w (.returned (.pointer (some ⟨w.heap.size+2,0,none⟩))) f:=by
 obtain⟨q1,m,n,rfl,r,N,O,s,PS⟩:=En hE hM L;have P:∀c,F.ownBlock=some c→(Value.slice m fs.length n).ownBlock≠some c:=fun c t e=>by
  obtain⟨cur,h1⟩:=iL hT.own t;obtain⟨PQ,h2⟩:=iL hM e;rw[h1]at h2;injection h2 with h2;injection h2 with _ h2;exact absurd h2 (by decide)
 obtain⟨Q,ta,tc,rfl,z,S,_,T,V,A,PT,W,X⟩:=ru N (hT.sub r.le (aH.refl g)) fun c t o=>by rw[s c (P c t)];exact M c t o
 have B:∀c,c<w.heap.size+8→(Value.slice m fs.length n).ownBlock≠some c:=fun c t e=>by have:=(hM.lt c e).1;omega
 have C:∀c,c<w.heap.size+8→(Value.slice ta rs.length tc).ownBlock≠some c:=fun c t e=>by have:=(hT.own.lt c e).1;omega
 have D:∀o,Q (w.heap.size+2) o=none:=fun o=>by rw[A _ (C _ (by omega)),s _ (B _ (by omega))];exact I o
 have Y:q b 6=none:=by
  cases h:q b 6 with
  |none=>rfl
  |some v=>
   rcases l.new _ _ _ h with h|h
   ·rw[G]at h;cases h
   ·omega
 have Z:=S.add D J;have E:(Q.add (w.heap.size+2) #[.bool false,.slice m fs.length n,.slice ta rs.length tc,.bool R.2]) b 6=none:=by
  rw[Pm.aO _ _ _ (by omega),A _ (C _ (by omega)),s _ (B _ (by omega))];exact Y
 have PM:=Z.put E K H;have PN:=Pm.dj (cs:=#[.bool false,.slice m fs.length n,.slice ta rs.length tc,.bool R.2]) D;have PO:=Pm.fM (ptr (w.heap.size+2)) E;have d:=PN.trans PO;have j:=z.le.trans d;have k:=r.le.trans j;have hl:=hT.len;have PU:(ai u).length≤1048576:=by rw[jI hF.bU];unfold b7;rw[List.length_mergeSort];exact hF.cv
 have PR:R.1.length≤50:=bz.len y.dm hF.dm (by decide);have a:∀o,o<4→(Pm.put (Q.add (w.heap.size+2) #[.bool false,.slice m fs.length n,.slice ta rs.length tc,.bool R.2]) b 6 (ptr (w.heap.size+2))) (w.heap.size+2) o=#[.bool false,.slice m fs.length n,.slice ta rs.length tc,.bool R.2][o]?:=fun o ho=>by
  rw[Pm.a_ _ _ (by omega),Pm.aX]
 refine⟨_,_,rfl,l.le.trans k,fun c o v h=> ?_,PM,⟨w.heap.size+2,m,n,fun i=>fs.getD i 0,ta,tc,R.1,R.2,Pm.fL _ _ _ _,?_,?_,by omega,by omega,?_,?_,?_,by omega,by omega,⟨fun i=>rs.getD i 0,?_,fun i hi=>(V i hi).sub d (aH.refl g)⟩,?_,y,W,X⟩,hK⟩
 ·by_cases e1:c=b∧o=6
  ·exact .inr (.inr e1)
  ·rw[Pm.a_ _ _ e1]at h
   by_cases e2:c=w.heap.size+2
   ·exact .inr (.inl (by omega))
   ·rw[Pm.aO _ _ _ e2]at h
    rcases z.new _ _ _ h with h|h
    ·rcases r.new _ _ _ h with h|h
     ·exact(l.new _ _ _ h).imp id .inl
     ·exact .inr (.inl (by omega))
    ·exact .inr (.inl (by omega))
 ·rw[a 0 (by decide)];rfl
 ·rw[a 1 (by decide),←hlen];rfl
 ·rw[←hlen];exact O.sub j
 ·intro i hi
  have:=(x i hi (by omega)).sub k (aH.refl g);simpa [show i<fs.length by omega]using this
 ·rw[a 2 (by decide),←hl];rfl
 ·rw[←hl];exact T.sub d
 ·rw[a 3 (by decide)];rfl
end Go.Proofs.YtdkmnkjhhhmglaaGreatDoor
