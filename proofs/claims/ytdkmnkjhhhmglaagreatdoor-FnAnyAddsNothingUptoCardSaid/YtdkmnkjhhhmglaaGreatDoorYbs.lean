import Derived.ChangeArms
import Derived.Deep.Slices
import Derived.Test.YtdkmnkjhhhmglaaGreatDoorRows
import Derived.Test.YtdkmnkjhhhmglaaGreatDoorYbr
set_option maxRecDepth 100000
set_option maxHeartbeats 8000000
set_option linter.all false
namespace TS
open Go Go.RowKit Go.Proofs.YtdkmnkjhhhmglaaGreatDoor
def pm(W:World):Pm:=fun b o=>W.cell? ⟨b,o,none⟩
theorem yG(W:World):KW (pm W) W:=fun _ _ _ h=>h
def fQ(u:U):Prop:=u.un= []∧∀e,∀_:e∈u.es,fQ e
termination_by u.sz
decreasing_by exact U.az ‹_›
def fR(u:U):List (List UInt8):=u.es.attach.flatMap fun e=>e.1.nm.toList::fR e.1
termination_by u.sz
decreasing_by exact U.az e.2
theorem sm(u:U):fR u=u.es.flatMap fun e=>e.nm.toList::fR e:=by
 rw[fR];conv=>rhs;rw[←List.attach_map_subtype_val u.es,List.flatMap_map]
theorem pK:∀u:U,(fR u).length+1=cn u:=by
 intro u;induction u using U.bg with
 |_ u ih=>
  rw[sm,cW,List.length_flatMap];have:(u.es.map fun e=>(e.nm.toList::fR e).length)=u.es.map cn:=List.map_congr_left fun e he=>by
   have:=ih e (U.az he);simp only[List.length_cons];exact this
  rw[this];unfold aK;omega
theorem pL{NS:List (List UInt8)}:∀u:U,fQ u→(∀x∈fR u,x∈NS)→Names NS u:=by
 intro u;induction u using U.bg with
 |_ u ih=>
  intro a h;rw[fQ]at a;rw[Names];refine⟨fun e he=>⟨h _ ?_,ih e (U.az he) (a.2 e he) fun x b=>h x ?_⟩,fun e he=>by rw[a.1]at he;cases he⟩
  ·rw[sm];exact List.mem_flatMap.2 ⟨e,he,by simp⟩
  ·rw[sm];exact List.mem_flatMap.2 ⟨e,he,by simp[b]⟩
theorem yH{e:U}:∀{l:List U},e∈l→cn e≤aK l
 |a::r,h=>by
  have b:aK (a::r)=cn a+aK r:=by simp[aK]
  rcases List.mem_cons.1 h with rfl|h
  ·omega
  ·have:=yH h;omega
theorem pM:∀u:U,fQ u→u.dep≤cn u:=by
 intro u;induction u using U.bg with
 |_ u ih=>
  intro a;rw[fQ]at a;rw[cW];refine Nat.le_trans (jL (n:=aK u.es) (fun e he=> ?_) (fun e he=>by rw[a.1]at he;cases he)) (by omega);have h1:=ih e (U.az he) (a.2 e he);have h2:cn e≤aK u.es:=by
   exact yH he
  omega
theorem yI{p:Pm}{D:Dl}:∀{l:List U}{b o:Nat},(∀i(h:i<l.length),∃a c,dr p b (o+i*7) l[i] a c∧ak p D l[i] a c)→aj p D l (some ⟨b,o,none⟩)
 | [],_,_,_=>aj.nil
 |e::r,b,o,h=>by
  simp only[aj];obtain⟨a,c,h7,hu⟩:=h 0 (by simp);refine⟨b,o,rfl,⟨a,c,by simpa using h7,by simpa using hu⟩,yI fun i hi=> ?_⟩;obtain⟨a',c',d,f⟩:=h (i+1) (by simpa using hi);rw[show o+(i+1)*7=o+7+i*7 by omega]at d;exact⟨a',c',by simpa using d,by simpa using f⟩
end TS
namespace Go.Proofs.YtdkmnkjhhhmglaaGreatDoor
open Go.RowKit TS
theorem Hz:Tryz.prog.cellsOf 4=1:=by kernel_rfl
theorem yJ:Tryz.prog.cellsOf 9=1:=by kernel_rfl
theorem pN:Tryz.prog.cellsOf 25=7:=by kernel_rfl
theorem HA{H:Type}(d:DataW H):1≤Rows.uptoBulk d:=by
 cases d with
 |lit l=>cases l<;>simp[Rows.uptoBulk]
 |nil=>simp[Rows.uptoBulk]
 |ptr d=>simp[Rows.uptoBulk]
 |slice elems spare=>simp[Rows.uptoBulk]
 |agg parts=>simp[Rows.uptoBulk]
 |iface t d=>simp[Rows.uptoBulk]
 |map entries=>simp[Rows.uptoBulk]
 |held h=>simp[Rows.uptoBulk]
theorem pO{H:Type}(l:List (DataW H)):l.length≤Rows.uptoBulkAll l:=by
 induction l with
 |nil=>simp[Rows.uptoBulkAll]
 |cons x r ih=>have:=HA x;simp only[Rows.uptoBulkAll,List.length_cons];omega
theorem yK{H:Type}{d:DataW H}{l:List (DataW H)}(h:d∈l):Rows.uptoBulk d≤Rows.uptoBulkAll l:=by
 induction l with
 |nil=>cases h
 |cons x r ih=>
  simp only[Rows.uptoBulkAll];cases List.mem_cons.1 h with
  |inl e=>subst e;omega
  |inr e=>have:=ih e;omega
theorem yL{H:Type}:∀{l:List U}{r:List (DataW H)},l.length=r.length→(∀i(h:i<l.length)(f:i<r.length),cn l[i]≤Rows.uptoBulk r[i])→aK l≤Rows.uptoBulkAll r
 | [],[],_,_=>by simp[aK,Rows.uptoBulkAll]
 |e::l,[],h,_=>by simp at h
 | [],e::r,h,_=>by simp at h
 |e::l,d::r,b,h=>by
  have c:=h 0 (by simp) (by simp);have h1:=yL (l:=l) (r:=r) (by simpa using b) fun i hi a=>by
   have h2:=h (i+1) (by simpa using hi) (by simpa using a);simp only[List.getElem_cons_succ]at h2;exact h2
  simp only[aK,List.map_cons,List.sum_cons,Rows.uptoBulkAll,List.getElem_cons_zero]at c h1⊢;omega
def HB(W:World)(cs:List Value)(N:Nat):Prop:=
 ∃(u:U)(a:Option Addr)(c:Nat),cs= [.int .i64 u.k,.int .i64 u.n,.int .i64 u.m,.bool u.v,.string u.nm,.string u.tg,.slice a u.es.length c]∧fQ u∧cn u+2≤N∧(∀D:Dl,(0<D.len→∃b d,D.a=some ⟨b,d,none⟩)→ak (pm W) D u a c)
theorem sn{k:Int}(h:(Lit.int .i64 k).wf=true):k.natAbs≤9223372036854775808:=by
 simp only[Lit.wf,Bool.and_eq_true,decide_eq_true_eq]at h;have h1:IntKind.min .i64= -9223372036854775808:=by decide
 have h2:IntKind.max .i64=9223372036854775807:=by decide
 omega
theorem pP{H:Type}{enc:TypeId×Value→H}(W:World):∀(n:Nat)(cs:List Value)(x:DataW H×List MemPlace),DataW.trod enc Tryz.prog W 0 (fun _=>true) true n 25 cs=some x→Rows.uptoBulk x.1≤1048576→HB W cs (Rows.uptoBulk x.1):=by
 intro n;induction n using Nat.strongRecOn with
 |_ n ih=>
  intro cs x h hb;obtain⟨xs,n',rfl,rfl,hl,N,w⟩:=DataW.trod_struct Tryz.underlying25 h;rw[pN]at hl;obtain⟨c0,c1,c2,c3,c4,c5,O,rfl⟩:∃c0 c1 c2 c3 c4 c5 O,cs= [c0,c1,c2,c3,c4,c5,O]:=by
   match cs,hl with
   | [c0,c1,c2,c3,c4,c5,O],_=>exact⟨_,_,_,_,_,_,_,rfl⟩
  obtain⟨P,Q,R,S,T,V,X,rfl⟩:∃P Q R S T V X,xs= [P,Q,R,S,T,V,X]:=by
   match xs,N with
   | [P,Q,R,S,T,V,X],_=>exact⟨_,_,_,_,_,_,_,rfl⟩
  have A:=w 0 _ rfl;have h1:=w 1 _ rfl;have h2:=w 2 _ rfl;have h3:=w 3 _ rfl;have h4:=w 4 _ rfl;have h5:=w 5 _ rfl;have h6:=w 6 _ rfl;have Y:=A;clear w;simp only[yJ,List.getElem?_cons_zero,List.getElem?_cons_succ]at A h1 h2 h3 h4 h5 h6;clear Y;obtain⟨k,Y,rfl,w0⟩:=DataW.trod_int Tryz.underlying3 A;obtain⟨nn,e1,rfl,w1⟩:=DataW.trod_int Tryz.underlying3 h1;obtain⟨m,e2,rfl,w2⟩:=DataW.trod_int Tryz.underlying3 h2;obtain⟨v,e3,rfl⟩:=DataW.trod_bool Tryz.underlying4 h3;obtain⟨nm,e4,rfl,_⟩:=DataW.trod_string Tryz.underlying9 h4;obtain⟨tg,e5,rfl,_⟩:=DataW.trod_string Tryz.underlying9 h5;cases Y;cases e1;cases e2;cases e3;cases e4;cases e5;simp only[List.map_cons,List.map_nil,Rows.uptoBulk,Rows.uptoBulkAll]at hb⊢;have B:nm.size≤1048576:=by have:nm.data.toList.length=nm.size:=Array.length_toList;omega
  have C:tg.size≤1048576:=by have:tg.data.toList.length=tg.size:=Array.length_toList;omega
  have a0:=sn w0;have a1:=sn w1;have a2:=sn w2;rcases DataW.trod_slice Tryz.underlying23 h6 with⟨Z,rfl⟩|⟨a,len,cap,elems,rest,n2,rfl,Z,rfl,_,PM,PU,PN,y,PO,_⟩
  ·cases Z
   refine⟨.mk k nn m v nm tg [] [],none,0,rfl,?_,?_,fun D L=> ?_⟩
   ·rw[fQ];exact⟨rfl,fun e he=>by cases he⟩
   ·rw[cW];show 1+aK []+2≤_;simp only[aK,List.map_nil,List.sum_nil];omega
   ·simp only[ak,List.length_nil]
    exact⟨⟨Nat.le_refl _,by omega,B,C,a0,a1,a2⟩,aj.nil,fun _ _ h=>by
     obtain⟨E,d,e⟩:=L (by omega);exact⟨E,d,e,by simp only[fi]⟩⟩
  ·cases Z
   obtain⟨PV,_⟩:=PO rfl;rw[pN]at y;simp only[Rows.uptoBulk]at hb⊢;have PQ:=pO (elems.map (·.1));have PR:=pO (rest.map (·.1));simp only[List.length_map]at PQ PR;have F:∀i:Fin len,∃t:U×Option Addr×Nat,(∃c,W.cells? 0 (a.add (i.1*7)) 7=some c∧c= [.int .i64 t.1.k,.int .i64 t.1.n,.int .i64 t.1.m,.bool t.1.v,.string t.1.nm,.string t.1.tg,.slice t.2.1 t.1.es.length t.2.2])∧fQ t.1∧cn t.1+2≤Rows.uptoBulk (elems[i.1]'(by have:=i.2;omega)).1∧(∀D:Dl,(0<D.len→∃E d,D.a=some ⟨E,d,none⟩)→ak (pm W) D t.1 t.2.1 t.2.2):=fun i=>by
    have hi:=i.2;have M:=y i.1 hi;rw[List.getElem?_eq_getElem (show i.1<elems.length by omega)]at M;obtain⟨c,hc,ht⟩:=Option.bind_eq_some_iff.1 M;have PW:=yK (d:=(elems[i.1]'(by omega)).1) (l:=elems.map (·.1)) (List.mem_map_of_mem (List.getElem_mem _));obtain⟨u,a',c',q1,q2,q3,q4⟩:=ih n2 (by omega) c _ ht (by omega);exact⟨(u,a',c'),⟨c,hc,q1⟩,q2,q3,q4⟩
   obtain⟨f,p⟩:=Classical.axiomOfChoice F;have PX:(List.ofFn fun i=>(f i).1).length=len:=List.length_ofFn;refine⟨.mk k nn m v nm tg (List.ofFn fun i=>(f i).1) [],some a,cap,by simp[U.k,U.n,U.m,U.v,U.nm,U.tg,U.es],?_,?_,fun D L=> ?_⟩
   ·rw[fQ]
    refine⟨rfl,fun e he=> ?_⟩;obtain⟨i,rfl⟩:=(List.mem_ofFn).1 he;exact(p i).2.1
   ·rw[cW]
    have:=yL (l:=List.ofFn fun i=>(f i).1) (r:=elems.map (·.1)) (by simp[PN]) fun i hi g=>by
     simp only[List.length_ofFn]at hi;have h2:=(p ⟨i,hi⟩).2.2.1;simp only[List.getElem_ofFn,List.getElem_map];exact Nat.le_trans (Nat.le_add_right _ 2) h2
    show 1+aK (List.ofFn fun i=>(f i).1)+2≤_;omega
   ·simp only[ak,List.length_ofFn]
    refine⟨⟨PM,by omega,B,C,a0,a1,a2⟩,?_,fun _ _ h=> ?_⟩
    ·rcases Nat.eq_zero_or_pos len with A|A
     ·subst A;exact aj.nil
     ·obtain⟨⟨c,hc,G⟩,_⟩:=p ⟨0,A⟩
      have I:=(World.cells?_some hc).2.2 0 (by omega);have z:a.spot=none:=by
       rw[G]at I;have h1:=World.cell?_spot I;simpa [Addr.add]using h1
      obtain⟨b,o,s⟩:=a;simp only at z;subst z;refine yI fun i hi=> ?_;have g:i<len:=by simpa using hi
      obtain⟨⟨PY,PS,J⟩,_,_,hU⟩:=p ⟨i,g⟩;have K:=(World.cells?_some PS).2.2;have PT:∀j,((⟨b,o,none⟩:Addr).add (i*7)).add j=⟨b,o+i*7+j,none⟩:=fun j=>by
       unfold Addr.add;split
       ·rename_i h1;subst h1;split
        ·rename_i h2;simp[h2]
        ·simp
       ·split
        ·rename_i h2;simp[h2]
        ·simp
      have M:(List.ofFn fun i=>(f i).1)[i]=(f ⟨i,g⟩).1:=by simp
      rw[M];refine⟨(f ⟨i,g⟩).2.1,(f ⟨i,g⟩).2.2,?_,hU D L⟩;subst J;have q:∀j(hj:j<7),W.cell? ⟨b,o+i*7+j,none⟩=_:=fun j hj=>(congrArg W.cell? (PT j)).symm.trans (K j hj);exact⟨q 0 (by omega),q 1 (by omega),q 2 (by omega),q 3 (by omega),q 4 (by omega),q 5 (by omega),q 6 (by omega)⟩
    ·obtain⟨E,d,e⟩:=L (by omega)
     exact⟨E,d,e,by simp only[fi]⟩
theorem nP(b o i j:Nat):((⟨b,o,none⟩:Addr).add i).add j=⟨b,o+i+j,none⟩:=by
 unfold Addr.add;split
 ·rename_i h1;subst h1;split
  ·rename_i h2;simp[h2]
  ·simp
 ·split
  ·rename_i h2;simp[h2]
  ·simp
theorem yM{H:Type}{enc:TypeId×Value→H}{α:Type}(W:World)(t e:TypeId)(k:Nat)(K:Tryz.prog.underlying t=some (.slice e))(L:Tryz.prog.cellsOf e=k)(hk:0<k)
 (R:List Value→α→Nat→Prop)(M:∀(n:Nat)(cs:List Value)(x:DataW H×List MemPlace),DataW.trod enc Tryz.prog W 0 (fun _=>true) true n e cs=some x→Rows.uptoBulk x.1≤1048576→∃r,R cs r (Rows.uptoBulk x.1))
 (n:Nat)(cs:List Value)(x:DataW H×List MemPlace)(h:DataW.trod enc Tryz.prog W 0 (fun _=>true) true n t cs=some x)(O:Rows.uptoBulk x.1≤1048576):
 ∃(l:List α)(a:Option Addr)(c:Nat),cs= [.slice a l.length c]∧l.length≤c∧c≤1048576∧
  (∀f:α→Nat,(∀cs r N,R cs r N→f r≤N)→(l.map f).sum+1≤Rows.uptoBulk x.1)∧
  ∀i(hi:i<l.length),∃b o m N,a=some ⟨b,o,none⟩∧R m l[i] N∧∀j,j<k→W.cell? ⟨b,o+i*k+j,none⟩=m[j]?:=by
 rcases DataW.trod_slice K h with⟨rfl,rfl⟩|⟨a,len,cap,elems,rest,P,rfl,rfl,rfl,_,z,Q,A,p,B,_⟩
 ·exact⟨[],none,0,rfl,Nat.le_refl _,by omega,fun _ _=>by simp[Rows.uptoBulk],fun i hi=>by simp at hi⟩
 ·obtain⟨S,_⟩:=B rfl
  rw[L]at p;simp only[Rows.uptoBulk]at O⊢;have C:=pO (elems.map (·.1));have D:=pO (rest.map (·.1));simp only[List.length_map]at C D;have u:∀i:Fin len,∃r:α,∃m,W.cells? 0 (a.add (i.1*k)) k=some m∧R m r (Rows.uptoBulk (elems[i.1]'(by have:=i.2;omega)).1):=fun i=>by
   have hi:=i.2;have y:=p i.1 hi;rw[List.getElem?_eq_getElem (show i.1<elems.length by omega)]at y;obtain⟨m,h1,h2⟩:=Option.bind_eq_some_iff.1 y;have T:=yK (d:=(elems[i.1]'(by omega)).1) (l:=elems.map (·.1)) (List.mem_map_of_mem (List.getElem_mem _));obtain⟨r,hr⟩:=M P m _ h2 (by omega);exact⟨r,m,h1,hr⟩
  obtain⟨f,q⟩:=Classical.axiomOfChoice u;refine⟨List.ofFn f,some a,cap,by rw[List.length_ofFn],by rw[List.length_ofFn];exact z,by omega,fun g y=> ?_,fun i hi=> ?_⟩
  ·have key:∀(l:List α)(r:List (DataW H)),l.length=r.length→(∀i(h:i<l.length)(Y:i<r.length),g l[i]≤Rows.uptoBulk r[i])→(l.map g).sum≤Rows.uptoBulkAll r:=by
    intro l;induction l with
    |nil=>intro r _ _;simp
    |cons e l ih=>
     intro r E h;cases r with
     |nil=>simp at E
     |cons d r=>
      have U:=h 0 (by simp) (by simp);have h1:=ih r (by simpa using E) fun i hi w=>by
       have h2:=h (i+1) (by simpa using hi) (by simpa using w);simp only[List.getElem_cons_succ]at h2;exact h2
      simp only[List.map_cons,List.sum_cons,Rows.uptoBulkAll,List.getElem_cons_zero]at U h1⊢;omega
   have:=key (List.ofFn f) (elems.map (·.1)) (by simp[A]) fun i hi w=>by
    simp only[List.length_ofFn]at hi;obtain⟨m,_,h2⟩:=q ⟨i,hi⟩;simp only[List.getElem_ofFn,List.getElem_map];exact y _ _ _ h2
   omega
  ·simp only[List.length_ofFn]at hi
   obtain⟨m,h1,h2⟩:=q ⟨i,hi⟩;have F:=(World.cells?_some h1).2.2;obtain⟨b,o,s⟩:=a;obtain rfl:s=none:=by
    obtain⟨G,J,_⟩:=q ⟨0,by omega⟩;have E:=(World.cells?_some J).2.1;have h3:=(World.cells?_some J).2.2 0 hk;have I:∃v,G[0]?=some v:=by
     rw[List.getElem?_eq_getElem (by omega)];exact⟨_,rfl⟩
    obtain⟨v,I⟩:=I;have V:=World.cell?_spot (h3.trans I);simpa [Addr.add]using V
   exact⟨b,o,m,Rows.uptoBulk (elems[i]'(by omega)).1,rfl,by simpa using h2,fun j X=>(congrArg W.cell? (nP b o (i*k) j)).symm.trans (F j X)⟩
def pQ(D:Dl):Prop:=0<D.len→∃b d,D.a=some ⟨b,d,none⟩
def MR(W:World)(cs:List Value)(r:cX×Option Addr×Nat)(N:Nat):Prop:=
 cs= [.string r.1.nm,.bool r.1.ptr,.int .i64 r.1.sig.k,.int .i64 r.1.sig.n,.int .i64 r.1.sig.m,.bool r.1.sig.v,.string r.1.sig.nm,.string r.1.sig.tg,.slice r.2.1 r.1.sig.es.length r.2.2]∧r.1.nm.size≤1048576∧fQ r.1.sig∧cn r.1.sig+2≤N∧∀D:Dl,pQ D→ak (pm W) D r.1.sig r.2.1 r.2.2
theorem yN:Tryz.prog.cellsOf 73=9:=by kernel_rfl
theorem yO:Tryz.prog.cellsOf 43=8:=by kernel_rfl
theorem HC:Tryz.prog.cellsOf 41=1:=by kernel_rfl
theorem HD{H:Type}{enc:TypeId×Value→H}(W:World)(n:Nat)(cs:List Value)(x:DataW H×List MemPlace)(h:DataW.trod enc Tryz.prog W 0 (fun _=>true) true n 73 cs=some x)(p:Rows.uptoBulk x.1≤1048576):∃r,MR W cs r (Rows.uptoBulk x.1):=by
 obtain⟨xs,q,rfl,rfl,m,e,b⟩:=DataW.trod_struct Tryz.underlying73 h;rw[yN]at m;obtain⟨c0,c1,c2,c3,c4,c5,f,g,i,rfl⟩:∃c0 c1 c2 c3 c4 c5 f g i,cs= [c0,c1,c2,c3,c4,c5,f,g,i]:=by
  match cs,m with
  | [c0,c1,c2,c3,c4,c5,f,g,i],_=>exact⟨_,_,_,_,_,_,_,_,_,rfl⟩
 obtain⟨j,k,d,rfl⟩:∃j k d,xs= [j,k,d]:=by
  match xs,e with
  | [j,k,d],_=>exact⟨_,_,_,rfl⟩
 have o:=b 0 _ rfl;have h1:=b 1 _ rfl;have h2:=b 2 _ rfl;clear b;simp only[yJ,Hz,pN,List.getElem?_cons_zero,List.getElem?_cons_succ]at o h1 h2;obtain⟨nm,s,rfl,_⟩:=DataW.trod_string Tryz.underlying9 o;obtain⟨v,t,rfl⟩:=DataW.trod_bool Tryz.underlying4 h1;simp only[List.map_cons,List.map_nil,Rows.uptoBulk,Rows.uptoBulkAll]at p⊢;obtain⟨u,a,c,w,y,z,hu⟩:=pP W q _ d h2 (by omega);have l:nm.size≤1048576:=by have:nm.data.toList.length=nm.size:=Array.length_toList;omega
 cases s;cases t;cases w;exact⟨(⟨nm,v,u⟩,a,c),rfl,l,y,by show cn u+2≤_;omega,hu⟩
def DR(W:World)(cs:List Value)(r:aF×(Option Addr×Nat)×(Option Addr×Nat))(N:Nat):Prop:=
 cs= [.int .i64 r.1.un.k,.int .i64 r.1.un.n,.int .i64 r.1.un.m,.bool r.1.un.v,.string r.1.un.nm,.string r.1.un.tg,.slice r.2.1.1 r.1.un.es.length r.2.1.2,.slice r.2.2.1 r.1.ms.length r.2.2.2]∧fQ r.1.un∧(∀m∈r.1.ms,fQ m.sig)∧cn r.1.un+cN r.1.ms+2≤N∧
  r.1.ms.length≤r.2.2.2∧r.2.2.2≤1048576∧∀D:Dl,pQ D→ak (pm W) D r.1.un r.2.1.1 r.2.1.2∧dR (pm W) D r.1.ms r.2.2.1
theorem HE{H:Type}{enc:TypeId×Value→H}(W:World)(n:Nat)(cs:List Value)(x:DataW H×List MemPlace)(h:DataW.trod enc Tryz.prog W 0 (fun _=>true) true n 43 cs=some x)(E:Rows.uptoBulk x.1≤1048576):∃r,DR W cs r (Rows.uptoBulk x.1):=by
 obtain⟨xs,z,rfl,rfl,A,k,p⟩:=DataW.trod_struct Tryz.underlying43 h;rw[yO]at A;obtain⟨c0,c1,c2,c3,c4,c5,q,s,rfl⟩:∃c0 c1 c2 c3 c4 c5 q s,cs= [c0,c1,c2,c3,c4,c5,q,s]:=by
  match cs,A with
  | [c0,c1,c2,c3,c4,c5,q,s],_=>exact⟨_,_,_,_,_,_,_,_,rfl⟩
 obtain⟨g,j,rfl⟩:∃g j,xs= [g,j]:=by
  match xs,k with
  | [g,j],_=>exact⟨_,_,rfl⟩
 have B:=p 0 _ rfl;have h1:=p 1 _ rfl;clear p;simp only[pN,HC,List.getElem?_cons_zero,List.getElem?_cons_succ]at B h1;simp only[List.map_cons,List.map_nil,Rows.uptoBulk,Rows.uptoBulkAll]at E⊢;obtain⟨u,a,c,F,G,hc,hu⟩:=pP W z _ g B (by omega);obtain⟨l,I,J,K,t,v,hw,f⟩:=yM W 41 73 9 Tryz.underlying41 yN (by decide) (MR W) (HD W) z _ j h1 (by omega);have hs:=hw (fun r=>cn r.1.sig) fun cs r N hr=>by have:=hr.2.2.2.1;omega
 have L:cN (l.map (·.1))=(l.map fun r=>cn r.1.sig).sum:=by unfold cN;rw[List.map_map];rfl
 cases F;cases K;refine⟨(⟨u,l.map (·.1)⟩,(a,c),(I,J)),by simp,G,fun m hm=> ?_,?_,by simpa using t,v,fun D C=>⟨hu D C,⟨fun i hi=> ?_⟩⟩⟩
 ·obtain⟨r,hr,rfl⟩:=List.mem_map.1 hm
  obtain⟨i,hi,rfl⟩:=List.mem_iff_getElem.1 hr;obtain⟨_,_,_,_,_,h2,_⟩:=f i hi;exact h2.2.2.1
 ·show cn u+cN (l.map (·.1))+2≤_
  omega
 ·have w:i<l.length:=by simpa using hi
  obtain⟨b,o,M,N,O,⟨e,y,_,_,P⟩,d⟩:=f i w;subst e;simp only[List.getElem_map];have Q:=d 0 (by decide);have R:=d 1 (by decide);have S:=d 2 (by decide);have T:=d 3 (by decide);have U:=d 4 (by decide);have V:=d 5 (by decide);have X:=d 6 (by decide);have Y:=d 7 (by decide);have Z:=d 8 (by decide);exact⟨b,o,O,Q,R,y,_,_,⟨S,T,U,V,X,Y,Z⟩,P D C⟩
theorem yP{H:Type}{enc:TypeId×Value→H}(W:World)(V X:Nat)(w C:List Value)(F G:DataW H×List MemPlace)(h1:DataW.trod enc Tryz.prog W 0 (fun _=>true) true V 22 w=some F)(h2:DataW.trod enc Tryz.prog W 0 (fun _=>true) true X 25 C=some G)
 (y:List (List UInt8))(hb:y.length+Rows.uptoBulk F.1+Rows.uptoBulk G.1≤1048576)(I:∀a l c,w= [.slice (some a) l c]→a.spot=none):
 ∃(D:Dl)(ds:List aF)(dc:Nat)(u:U)(a:Option Addr)(c:Nat)(NS:List (List UInt8)),w= [.slice D.a D.len dc]∧C= [.int .i64 u.k,.int .i64 u.n,.int .i64 u.m,.bool u.v,.string u.nm,.string u.tg,.slice a u.es.length c]∧
  Raw NS ds∧ds.length=D.len∧cE (pm W) D ds∧aK (ds.map aF.un)+cB ds≤1099511627776∧(Names NS u∧u.nm.toList∈NS)∧u.dep≤1048574∧cn u≤1048576∧ak (pm W) D u a c∧pQ D∧∀x∈y,x∈NS:=by
 obtain⟨l,J,dc,E,z,PM,hw,j⟩:=yM W 22 43 8 Tryz.underlying22 yO (by decide) (DR W) (HE W) V _ F h1 (by omega);obtain⟨u,a,c,e2,Y,Z,hu⟩:=pP W X _ G h2 (by omega);have B:pQ ⟨J,l.length⟩:=fun h=>by
  obtain⟨b,o,_,_,e,_⟩:=j 0 h;exact⟨b,o,e⟩
 have K:=hw (fun r=>cn r.1.un+cN r.1.ms) fun cs r N hr=>by have:=hr.2.2.2.1;omega
 have A:∀d∈l.map (·.1),fQ d.un∧(∀m∈d.ms,fQ m.sig):=fun d g=>by
  obtain⟨r,hr,rfl⟩:=List.mem_map.1 g;obtain⟨i,hi,rfl⟩:=List.mem_iff_getElem.1 hr;obtain⟨_,_,_,_,_,h2,_⟩:=j i hi;exact⟨h2.2.1,h2.2.2.1⟩
 have p:aK ((l.map (·.1)).map aF.un)+cB (l.map (·.1))=(l.map fun r=>cn r.1.un+cN r.1.ms).sum:=by
  unfold aK cB;clear K A B j hw E z;induction l with
  |nil=>rfl
  |cons x r ih=>simp only[List.map_cons,List.sum_cons]at ih⊢;omega
 have q:∀d∈l.map (·.1),cn d.un+cN d.ms≤aK ((l.map (·.1)).map aF.un)+cB (l.map (·.1)):=fun d g=>by
  rw[p];obtain⟨r,hr,rfl⟩:=List.mem_map.1 g;clear K A B j hw E z p g;induction l with
  |nil=>cases hr
  |cons x s ih=>
   simp only[List.map_cons,List.sum_cons];rcases List.mem_cons.1 hr with rfl|h
   ·omega
   ·have:=ih h;omega
 have L:∀(ms:List cX),∀m∈ms,cn m.sig≤cN ms:=fun ms m hm=>by
  induction ms with
  |nil=>cases hm
  |cons x s ih=>
   have Z:cN (x::s)=cn x.sig+cN s:=by simp[cN]
   rcases List.mem_cons.1 hm with rfl|h
   ·omega
   ·have:=ih h;omega
 let NS:List (List UInt8):=errorName.toList::ByteArray.empty.toList::(y++((u.nm.toList::fR u)++(l.map (·.1)).flatMap fun d=>fR d.un++d.ms.flatMap fun m=>fR m.sig))
 have M:NS.length≤1048576:=by
  have h1:=pK u;have h2:((l.map (·.1)).flatMap fun d=>fR d.un++d.ms.flatMap fun m=>fR m.sig).length≤aK ((l.map (·.1)).map aF.un)+cB (l.map (·.1)):=by
   generalize l.map (·.1)=ds;clear K A B j hw E z p q;unfold aK cB;induction ds with
   |nil=>simp
   |cons d r ih=>
    have h3:=pK d.un;have h4:(d.ms.flatMap fun m=>fR m.sig).length≤cN d.ms:=by
     generalize d.ms=ms;induction ms with
     |nil=>simp
     |cons m s ih=>
      have Z:cN (m::s)=cn m.sig+cN s:=by simp[cN]
      have h5:=pK m.sig;simp only[List.flatMap_cons,List.length_append];omega
    simp only[List.flatMap_cons,List.length_append,List.map_cons,List.sum_cons];omega
  simp only[NS,List.length_cons,List.length_append];omega
 have hlen:(l.map (·.1)).length=l.length:=List.length_map _;cases E;cases e2;refine⟨⟨J,l.length⟩,l.map (·.1),dc,u,a,c,NS,rfl,rfl,⟨by simp[NS],by simp[NS],M,fun d g=>⟨?_,?_⟩,fun d g m hm=>⟨?_,?_⟩,by rw[hlen];omega⟩,hlen,⟨fun x t=> ?_,hlen,by show l.length≤_;omega,fun i hi=> ?_⟩,by omega,⟨?_,by simp[NS]⟩,?_,by omega,hu _ B,B,fun x t=> ?_⟩
 ·refine pL d.un (A d g).1 fun x t=> ?_
  simp only[NS,List.mem_cons,List.mem_append,List.mem_flatMap];exact .inr (.inr (.inr (.inr ⟨d,g,.inl t⟩)))
 ·have:=pM d.un (A d g).1
  have:=q d g;omega
 ·refine pL m.sig ((A d g).2 m hm) fun x t=> ?_
  simp only[NS,List.mem_cons,List.mem_append,List.mem_flatMap];exact .inr (.inr (.inr (.inr ⟨d,g,.inr ⟨m,hm,t⟩⟩)))
 ·have:=pM m.sig ((A d g).2 m hm)
  have:=q d g;have:=L d.ms m hm;omega
 ·have O:J=some x:=t
  subst O;exact I _ _ _ rfl
 ·have P:i<l.length:=by simpa using hi
  obtain⟨b,o,PN,N,ea,⟨e,_,_,_,Q,R,hU⟩,f⟩:=j i P;obtain⟨S,T⟩:=hU _ B;subst e;simp only[List.getElem_map];have q0:=f 0 (by decide);have q1:=f 1 (by decide);have q2:=f 2 (by decide);have q3:=f 3 (by decide);have q4:=f 4 (by decide);have q5:=f 5 (by decide);have q6:=f 6 (by decide);have q7:=f 7 (by decide);exact⟨b,o,ea,_,_,_,_,⟨q0,q1,q2,q3,q4,q5,q6⟩,q7,S,Q,R,T⟩
 ·refine pL u Y fun x t=> ?_
  simp only[NS,List.mem_cons,List.mem_append];exact .inr (.inr (.inr (.inl (.inr t))))
 ·have:=pM u Y
  omega
 ·simp only[NS,List.mem_cons,List.mem_append]
  exact .inr (.inr (.inl t))
theorem HF{H:Type}{enc:TypeId×Value→H}(W:World)(i j:Nat)(b d:List Value)(e f:DataW H×List MemPlace)(h1:DataW.trod enc Tryz.prog W 0 (fun _=>true) true i 22 b=some e)(h2:DataW.trod enc Tryz.prog W 0 (fun _=>true) true j 25 d=some f)
 (o:Rows.uptoBulk e.1+Rows.uptoBulk f.1≤1048576)(g:∀a l c,b= [.slice (some a) l c]→a.spot=none):
 ∃(D:Dl)(ds:List aF)(dc:Nat)(u:U)(a:Option Addr)(c:Nat)(NS:List (List UInt8)),b= [.slice D.a D.len dc]∧d= [.int .i64 u.k,.int .i64 u.n,.int .i64 u.m,.bool u.v,.string u.nm,.string u.tg,.slice a u.es.length c]∧
  Raw NS ds∧ds.length=D.len∧cE (pm W) D ds∧aK (ds.map aF.un)+cB ds≤1099511627776∧(Names NS u∧u.nm.toList∈NS)∧u.dep≤1048574∧cn u≤1048576∧ak (pm W) D u a c:=by
 obtain⟨D,ds,dc,u,a,c,NS,p,q,r,s,t,w,x,y,z,h,_⟩:=yP W i j b d e f h1 h2 [] (by simpa using o) g;exact⟨D,ds,dc,u,a,c,NS,p,q,r,s,t,w,x,y,z,h⟩
theorem HG{H:Type}{enc:TypeId×Value→H}(W:World)(q r s:Nat)(b d e:List Value)(g i j:DataW H×List MemPlace)(h1:DataW.trod enc Tryz.prog W 0 (fun _=>true) true q 22 b=some g)(h2:DataW.trod enc Tryz.prog W 0 (fun _=>true) true r 25 d=some i)
 (h3:DataW.trod enc Tryz.prog W 0 (fun _=>true) true s 25 e=some j)(M:Rows.uptoBulk g.1+Rows.uptoBulk i.1+Rows.uptoBulk j.1≤1048576)(o:∀a l c,b= [.slice (some a) l c]→a.spot=none):
 ∃(D:Dl)(ds:List aF)(dc:Nat)(u v:U)(a a':Option Addr)(c c':Nat)(NS:List (List UInt8)),b= [.slice D.a D.len dc]∧d= [.int .i64 u.k,.int .i64 u.n,.int .i64 u.m,.bool u.v,.string u.nm,.string u.tg,.slice a u.es.length c]∧e= [.int .i64 v.k,.int .i64 v.n,.int .i64 v.m,.bool v.v,.string v.nm,.string v.tg,.slice a' v.es.length c']∧
  Raw NS ds∧ds.length=D.len∧cE (pm W) D ds∧aK (ds.map aF.un)+cB ds≤1099511627776∧((Names NS u∧u.nm.toList∈NS)∧u.dep≤1048574∧cn u≤1048576∧ak (pm W) D u a c)∧(Names NS v∧v.nm.toList∈NS)∧v.dep≤1048574∧cn v≤1048576∧ak (pm W) D v a' c':=by
 obtain⟨v,a',c',w,f,y,z⟩:=pP W s _ j h3 (by omega);have N:=pK v;obtain⟨D,ds,dc,u,a,c,NS,A,B,C,E,F,G,I,J,K,p,L,t⟩:=yP W q r b d g i h1 h2 (v.nm.toList::fR v) (by rw[List.length_cons];omega) o;have O:=pM v f;exact⟨D,ds,dc,u,v,a,a',c,c',NS,A,B,w,C,E,F,G,⟨I,J,K,p⟩,⟨pL v f fun x h=>t x (List.mem_cons_of_mem _ h),t _ List.mem_cons_self⟩,by omega,by omega,z D L⟩
end Go.Proofs.YtdkmnkjhhhmglaaGreatDoor
