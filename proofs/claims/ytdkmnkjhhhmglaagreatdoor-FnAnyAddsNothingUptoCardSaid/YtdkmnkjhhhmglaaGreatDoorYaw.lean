import Derived.Test.YtdkmnkjhhhmglaaGreatDoorYav
set_option maxRecDepth 100000
set_option maxHeartbeats 8000000
set_option linter.all false
namespace TS
open Go Go.RowKit
def cU(b:List Tm)(F:Nat→Bool)(a m:Nat):List Tm:=(List.range' a m).filterMap fun i=>if F i then none else some (b.getD i none)
theorem oY(b:List Tm)(F:Nat→Bool)(a:Nat):cU b F a 0= []:=rfl
theorem oZ(b:List Tm)(F:Nat→Bool)(a m:Nat):cU b F a (m+1)=if F a then cU b F (a+1) m else b.getD a none::cU b F (a+1) m:=by
 unfold cU;rw[List.range'_succ];by_cases h:F a
 ·simp[h]
 ·simp[h]
theorem q_(b:List Tm)(F:Nat→Bool)(a m:Nat):cU b F a (m+1)=cU b F a m++if F (a+m)then []else [b.getD (a+m) none]:=by
 unfold cU;rw[List.range'_concat];by_cases h:F (a+m)
 ·simp[h]
 ·simp[h]
theorem vU(b:List Tm){F G:Nat→Bool}:∀{m a:Nat},(∀i,a≤i→i<a+m→F i=G i)→cU b F a m=cU b G a m:=by
 intro m;induction m with
 |zero=>intro a _;rfl
 |succ m ih=>
  intro a h;rw[oZ,oZ,h a (Nat.le_refl _) (by omega),ih fun i h1 h2=>h i (by omega) (by omega)]
theorem Dh(a:List Tm):cU a (fun _=>false) 0 a.length=a:=by
 have key:∀m,m≤a.length→cU a (fun _=>false) 0 m=a.take m:=by
  intro m;induction m with
  |zero=>intro _;simp[oY]
  |succ m ih=>
   intro h;rw[q_,ih (by omega)];have hm:a[m]?=some a[m]:=List.getElem?_eq_getElem (by omega);rw[List.take_add_one,hm];simp only[Nat.zero_add,Option.toList_some,List.append_cancel_left_eq,if_neg Bool.false_ne_true,List.getD_eq_getElem?_getD,hm,Option.getD_some]
 rw[key _ (Nat.le_refl _),List.take_length]
def dT(x:Tm)(l:List Tm)(z:Tm)(A r:List Tm):Prop:=bI x l=(bI z r).map fun y=>(y.1,A++y.2)
theorem Di(x:Tm)(l:List Tm):dT x l x [] l:=by
 unfold dT;cases bI x l<;>simp
theorem dT.iZ{x z y:Tm}{l A r:List Tm}(h:dT x l z A (y::r))(a:cz z y=none):dT x l z (A++ [y]) r:=by
 unfold dT at*;rw[h,bI,a];cases bI z r<;>simp
theorem dT.take{x z y z2:Tm}{l A r:List Tm}(h:dT x l z A (y::r))(a:cz z y=some z2)(b:z2≠none):dT x l z2 A r:=by
 unfold dT at*;rw[h,bI,a];simp only;rw[if_neg b]
theorem dT.all{x z y:Tm}{l A r:List Tm}(h:dT x l z A (y::r))(a:cz z y=some none):bI x l=none:=by
 unfold dT at h;rw[h,bI,a];simp
theorem dT.done{x z:Tm}{l A:List Tm}(h:dT x l z A []):bI x l=some (z,A):=by
 unfold dT at h;rw[h];simp[bI]
def eP(a R r:List Tm):Prop:=cp a=(cp r).map fun l=>R++l
theorem Dj(a:List Tm):eP a [] a:=by unfold eP;cases cp a<;>simp
theorem eP.step{b R r A:List Tm}{x z:Tm}(h:eP b R (x::r))(c:bI x r=some (z,A)):eP b (R++ [z]) A:=by
 unfold eP at*;rw[h,cp];split
 ·rename_i a;rw[c]at a;cases a
 ·rename_i d l' a
  rw[c]at a;cases a;cases cp A<;>simp
theorem eP.all{a R r:List Tm}{x:Tm}(h:eP a R (x::r))(c:bI x r=none):bk a= [none]:=by
 unfold eP at h;unfold bk;rw[h,cp];split
 ·rfl
 ·rename_i b;rw[c]at b;cases b
theorem eP.done{a R:List Tm}(h:eP a R []):bk a=R:=by
 unfold eP at h;unfold bk;rw[h];simp[cp]
end TS
namespace TS
open Go Go.RowKit Go.ChangeMaps
section
variable {P:Program} {kt:TypeId} {K:World→Value→Prop} {w w':World} {b:Nat} {F:Value→Option Value}
theorem cq.DN(h:cq K w b F)(L:KeyLaw P kt K){t e:TypeId}(f:P.underlying t=some (.map kt e)){z:Value}(i:(zeroValue e).run P w= .ok z w){x:Value}(a:K w x):
 (Instr.lookup t (.map (some b)) x true).run P w= .ok (.tuple #[(F x).getD z,.bool (F x).isSome]) w:=by
 obtain⟨es,clock,g,h1,h2,_⟩:=h;rcases L.find w a es.toList (fun e he=>(h1 e he).1)with⟨c,k⟩|⟨j,d,c,l,hk⟩
 ·have hF:F x=none:=by
   cases hF:F x with
   |none=>rfl
   |some v=>obtain⟨d,he,hk⟩:=h2 x v hF;exact absurd hk (k d he)
  simp[Instr.lookup,run_underlying f,MapKept.run_getObj_map g,L.check w _ a,c,i,hF,Result.andThen]
 ·have:=(h1 d (List.mem_of_getElem? l)).2
  rw[hk]at this;simp[Instr.lookup,run_underlying f,MapKept.run_getObj_map g,L.check w _ a,c,this,Result.andThen]
theorem DO(w:World){ops:Array Oper}{rest:List Oper}{o:Oper}{a:Act}{Q:Exit→Act→World→Prop}(j:o.guard=none)(m x:Operand)(t:TypeId)(f:o.op=Op.lookup t m x true)
 (L:KeyLaw P kt K)(e:TypeId)(k:P.underlying t=some (.map kt e))(z:Value)(l:∀w,(zeroValue e).run P w= .ok z w)(b:Nat)(F:Value→Option Value)(hm:a.eval m= .map (some b))(h:cq K w b F)
 (key:Value)(n:a.eval x=key)(hk:K w key)(val:Value)(ok:Bool)(d:(F key).getD z=val)(g:(F key).isSome=ok)(p:wpList P ops Q rest (a.put o.dst (.tuple #[val,.bool ok])) w):wpList P ops Q (o::rest) a w:=by
 refine wpList_plain j fun q i=> ?_;have c:=h.DN L k (l w) hk;rw[d,g]at c;unfold Oper.wp;simp[execOp,f,hm,n,c,Result.andThen];exact i _ _ p
end
end TS
namespace TS
open Go Go.RowKit
theorem wU{α:Type}{P:List α→Prop}(b:P [])(h1:∀l a,P l→P (l++ [a]))(l:List α):P l:=by
 have key:∀r:List α,P r.reverse:=fun r=>by
  induction r with
  |nil=>exact b
  |cons a r ih=>rw[List.reverse_cons];exact h1 _ _ ih
 have:=key l.reverse;rwa [List.reverse_reverse]at this
def dA:List U→List U:=List.foldl (fun T d=>T++ [aL T 1 d]) []
theorem lI(l:List U)(d:U):dA (l++ [d])=dA l++ [aL (dA l) 1 d]:=by unfold dA;rw[List.foldl_append];rfl
theorem ja(l:List U):(dA l).length=l.length:=by
 refine wU (P:=fun l=>(dA l).length=l.length) rfl (fun l d ih=> ?_) l;rw[lI];simp[ih]
theorem wV(l:List U):∀j,j≤l.length→dA (l.take j)=(dA l).take j:=by
 refine wU (P:=fun l=> ∀j,j≤l.length→dA (l.take j)=(dA l).take j) (fun j a=>by simp at a;subst a;rfl) (fun l d ih=> ?_) l
 ·intro j a
  rw[lI];simp only[List.length_append,List.length_singleton]at a;by_cases h:j≤l.length
  ·rw[List.take_append_of_le_length h,ih j h,List.take_append_of_le_length (by rw[ja];exact h)]
  ·have:j=l.length+1:=by omega
   rw[List.take_of_length_le (by simp;omega),lI,List.take_of_length_le (by simp[ja];omega)]
theorem EA(l:List U)(j:Nat)(a:j<l.length):(dA l)[j]'(by rw[ja];exact a)=aL ((dA l).take j) 1 l[j]:=by
 have h1:=wV l (j+1) (by omega);rw[List.take_succ_eq_append_getElem a,lI,wV l j (by omega),List.take_succ_eq_append_getElem (by rw[ja];exact a)]at h1;have:=List.append_inj h1 rfl;simpa using this.2.symm
theorem wW{len:Nat}{T T':List U}(i:Nat)(hi:T'.length≤i)(Q:∀n(h:n<T'.length),∃a:n<T.length,T'[n]=T[n]):
 ∀(u:U)(q:Pc)(s:Pt),ah len u q s=true→q.d≤T'.length→(s≠ .type→q.t=true)→bh T i q.f (aL T' q.f u):=by
 intro u;induction u using U.bg with
 |_ u ih=>
  intro q s h K L;have y:q.behind.f=if q.f=2 then 2 else 0:=by
   unfold Pc.f Pc.behind;cases q.t<;>simp;cases q.v<;>simp
  have E:q.inside.f=2:=by unfold Pc.f Pc.inside;simp
  have z:q.f≤2:=by unfold Pc.f;split<;>(try split)<;>omega
  have mk:(u.k=11→q.f≠0→u.n.toNat<T'.length)→(∀j(b:j<u.es.length),bh T i (aN u j q.f) (aL T' (aN u j q.f) u.es[j]))→bh T i q.f (aL T' q.f u):=fun h1 h2=>by
   rw[bh];refine⟨fun hk=> ?_,fun hk=> ?_,fun j b=> ?_⟩
   ·rw[cZ]at hk
    by_cases f0:q.f=0
    ·rw[if_pos f0,kg,if_neg (by omega),if_neg (by simp[f0])]
    ·rw[if_neg f0,kg,if_neg (by omega),if_pos ⟨hk,f0⟩]
     simp only[gO];have o:=h1 hk f0;obtain⟨a,e⟩:=Q _ o;exact⟨a,by omega,by rw[List.getElem?_eq_getElem o,e];rfl⟩
   ·rw[cZ]at hk;rw[kg,if_pos hk]
   ·rw[p9,iz]
    exact h2 j (by rw[cO]at b;exact b)
  have all:∀(x:Pc)(D:Pt),x.d=q.d→(D≠ .type→x.t=true)→(∀e∈u.es,ah len e x D=true)→(∀j,j<u.es.length→aN u j q.f=x.f)→∀j(b:j<u.es.length),bh T i (aN u j q.f) (aL T' (aN u j q.f) u.es[j]):=by
   intro x D W F G R j b;rw[R j b];exact ih _ (U.az (List.getElem_mem b)) x D (G _ (List.getElem_mem b)) (by omega) F
  have c:u.es= []→∀j(b:j<u.es.length),bh T i (aN u j q.f) (aL T' (aN u j q.f) u.es[j]):=fun he j b=>by rw[he]at b;simp at b
  have p:u.k≠10→u.k≠2→u.k≠3→u.k≠5→∀j,j<u.es.length→aN u j q.f=q.behind.f:=fun h1 h2 h3 X j _=>by
   rw[y];unfold aN;split
   ·rfl
   ·rw[if_neg (by omega),if_neg (by omega)]
  have type:ah len u q .type=true→bh T i q.f (aL T' q.f u):=fun h=>by
   by_cases M:u.k=1
   ·rw[ah.eq_def]at h;simp only[M,if_true,Bool.and_eq_true,decide_eq_true_eq,List.length_eq_zero_iff]at h
    exact mk (fun hk=>by omega) (c h.2)
   by_cases r:u.k=14∨u.k=15∨u.k=16
   ·have he:u.es= []:=by
     rw[ah.eq_def]at h;rcases r with e|e|e<;>simpa [e,List.length_eq_zero_iff]using h
    exact mk (fun hk=>by omega) (c he)
   by_cases A:u.k=11
   ·rw[ah.eq_def]at h
    simp only[A,Int.reduceEq,if_false,or_self,if_true,Bool.and_eq_true,Bool.or_eq_true,Bool.not_eq_true',decide_eq_true_eq,b4,List.length_eq_zero_iff]at h;obtain⟨⟨⟨Y,h1⟩,h2⟩,he⟩:=h;refine mk (fun _ S=> ?_) (c he);have:u.n<q.d:=by
     rcases h2 with⟨V,l⟩|h2
     ·exfalso;apply S;unfold Pc.f;simp[V,l]
     ·exact h2
    omega
   by_cases H:u.k=2∨u.k=3
   ·rw[ah.eq_def]at h
    have a:0≤u.n∧u.es.length=1∧∀e∈u.es,ah len e q .type=true:=by
     rcases H with e|e<;>simpa [e,and_assoc]using h
    exact mk (fun hk=>by omega) (all q .type rfl (fun h=>absurd rfl h) a.2.2 fun j _=>ij z (by omega) j)
   by_cases N:u.k=5
   ·rw[ah.eq_def]at h
    have a:fm u.es=true∧∀e∈u.es,ah len e q .type=true:=by simpa [N]using h
    exact mk (fun hk=>by omega) (all q .type rfl (fun h=>absurd rfl h) a.2 fun j _=>ij z (by omega) j)
   by_cases bU:u.k=10
   ·rw[ah.eq_def]at h
    have a:b4 u.m (u.es.length+1)=true∧(u.es.length- u.m≤4)∧eK (u.es.take u.m.toNat)=true∧(∀e∈u.es.take u.m.toNat,ah len e q.behind .type=true)∧∀e∈u.es.drop u.m.toNat,ah len e q.inside .elem=true:=by
     simpa [bU,and_assoc]using h
    obtain⟨_,_,_,l,I⟩:=a;refine mk (fun hk=>by omega) fun j b=> ?_;by_cases o:j<u.m.toNat
    ·have w:aN u j q.f=q.behind.f:=by
      rw[y];unfold aN;split
      ·rfl
      ·rw[if_neg (by omega),if_neg (by omega)]
     rw[w];refine ih _ (U.az (List.getElem_mem b)) q.behind .type (l _ ?_) K (fun h=>absurd rfl h);rw[show u.es[j]=(u.es.take u.m.toNat)[j]'(by rw[List.length_take];omega) by rw[List.getElem_take]];exact List.getElem_mem _
    ·have w:aN u j q.f=q.inside.f:=by
      rw[E];unfold aN;split
      ·rfl
      ·rw[if_pos ⟨bU,by omega⟩]
     rw[w];refine ih _ (U.az (List.getElem_mem b)) q.inside .elem (I _ ?_) K (fun _=>rfl);rw[show u.es[j]=(u.es.drop u.m.toNat)[j- u.m.toNat]'(by rw[List.length_drop];omega) by rw[List.getElem_drop];congr 1;omega];exact List.getElem_mem _
   by_cases J:u.k=4∨u.k=6∨u.k=9
   ·rw[ah.eq_def]at h
    have a:b4 u.n 3=true∧u.es.length=1∧∀e∈u.es,ah len e q.behind .type=true:=by
     rcases J with e|e|e<;>simpa [e,and_assoc]using h
    exact mk (fun hk=>by omega) (all q.behind .type rfl (fun h=>absurd rfl h) a.2.2 (p (by omega) (by omega) (by omega) (by omega)))
   by_cases O:u.k=8
   ·rw[ah.eq_def]at h
    have a:u.es.length=2∧∀e∈u.es,ah len e q.behind .type=true:=by simpa [O]using h
    exact mk (fun hk=>by omega) (all q.behind .type rfl (fun h=>absurd rfl h) a.2 (p (by omega) (by omega) (by omega) (by omega)))
   by_cases P:u.k=7
   ·rw[ah.eq_def]at h
    have a:b4 u.m (u.es.length+1)=true∧(u.v=false∨0<u.m∧(u.es.getD (u.m.toNat- 1) cg).k=4)∧∀e∈u.es,ah len e q.behind .type=true:=by
     simpa [P,and_assoc]using h
    exact mk (fun hk=>by omega) (all q.behind .type rfl (fun h=>absurd rfl h) a.2.2 (p (by omega) (by omega) (by omega) (by omega)))
   ·exfalso
    rw[ah.eq_def]at h;simp only[not_or]at r H J;simp[M,r,A,H,N,bU,J,O,P]at h
  have term:ah len u q .term=true→q.t=true→bh T i q.f (aL T' q.f u):=fun h l=>by
   have g:q.f=2:=by unfold Pc.f;simp[l]
   by_cases B:u.k=13
   ·rw[ah.eq_def]at h
    have a:u.es.length=1∧∀e∈u.es,ah len e q .type=true:=by simpa [B]using h
    exact mk (fun hk=>by omega) (all q .type rfl (fun h=>absurd rfl h) a.2 fun j _=>by unfold aN;rw[if_pos g,g])
   ·rw[ah.eq_def]at h
    simp only[B,if_false]at h;exact type h
  cases s with
  |type=>exact type h
  |term=>exact term h (L (by simp))
  |elem=>
   have l:=L (by simp);have g:q.f=2:=by unfold Pc.f;simp[l]
   by_cases C:u.k=12
   ·rw[ah.eq_def]at h
    have a:2≤u.es.length∧u.es.length≤8∧∀e∈u.es,ah len e q .term=true:=by simpa [C,and_assoc]using h
    exact mk (fun hk=>by omega) (all q .term rfl (fun _=>l) a.2.2 fun j _=>by unfold aN;rw[if_pos g,g])
   ·refine term ?_ l
    rw[ah.eq_def]at h⊢;simpa only[C,if_false]using h
theorem EB{l:List U}{j:Nat}(_hj:j<l.length)(n:Nat)(h:n<((dA l).take j).length):∃a:n<(dA l).length,((dA l).take j)[n]=(dA l)[n]:=by
 rw[List.length_take]at h;exact⟨by omega,by rw[List.getElem_take]⟩
theorem gg{p:Pm}{D:Dl}{T:List U}(hT:eV p D T):∀(u:U)(f:Nat){a:Option Addr}{c:Nat},ak p D u a c→ak p D (aL T f u) a c
 | .mk k n m v nm tg es un,f,a,c,h=>by
   simp only[ak,aL]at h⊢;refine⟨by rw[p8];exact h.1,oh es f k m 0 h.2.1,fun h1 h2 h3=> ?_⟩;obtain⟨l,d,e,_⟩:=h.2.2 h1 h2 h3;refine⟨l,d,e,?_⟩;rw[if_neg (by omega)];split
   ·cases o:T[n.toNat]? with
    |none=>simp only[Option.toList_none,fi]
    |some t=>
     obtain⟨g,i⟩:=List.getElem?_eq_some_iff.1 o;obtain⟨q,d',j,a',c',h7,b⟩:=hT n.toNat g;rw[e]at j;simp only[Option.some.injEq,Addr.mk.injEq]at j;obtain⟨rfl,rfl,_⟩:=j;simp only[Option.toList_some,fi];rw[i]at h7 b;exact⟨a',c',h7,b⟩
   ·simp only[fi]
where oh:∀(l:List U)(f:Nat)(k m:Int)(i:Nat){a:Option Addr},aj p D l a→aj p D (fo T f k m i l) a
 | [],f,k,m,i,a,h=>by simp only[fo];exact h
 |e::r,f,k,m,i,a,h=>by
  simp only[aj,fo]at h⊢
  obtain⟨b,o,ha,⟨a',c',h7,hu⟩,hr⟩:=h
  refine⟨b,o,ha,⟨a',c',?_,gg hT e _ hu⟩,oh r f k m (i+1) hr⟩
  unfold dr at h7⊢
  rw[cZ,gO,fT,nR,ke,p7,cO]
  exact h7
theorem rD{p:Pm}{b o:Nat}{u:U}{a:Option Addr}{c:Nat}(T:List U)(f:Nat)(h7:dr p b o u a c):dr p b o (aL T f u) a c:=by
 unfold dr at h7⊢;rw[cZ,gO,fT,nR,ke,p7,cO];exact h7
theorem wX{p:Pm}{D:Dl}{ds:List aF}(h:cE p D ds):∀j,j≤ds.length→eV p D (dA ((ds.take j).map aF.un))
 |0,_=>fun n i=>by simp[dA]at i
 |j+1,r=>fun n i=>by
  have ih:=wX h j (by omega);have f:j<ds.length:=by omega
  have k:(ds.take (j+1)).map aF.un=(ds.take j).map aF.un++ [ds[j].un]:=by rw[List.take_succ_eq_append_getElem f,List.map_append];rfl
  rw[ja]at i;simp only[List.length_map,List.length_take]at i;have l:(dA ((ds.take j).map aF.un)).length=j:=by rw[ja];simp;omega
  by_cases m:n<j
  ·obtain⟨q,d,e,a,c,h7,hu⟩:=ih n (by omega)
   have g:(dA ((ds.take (j+1)).map aF.un))[n]'(by rw[ja];simp;omega)=(dA ((ds.take j).map aF.un))[n]'(by omega):=by
    simp only[k,lI];rw[List.getElem_append_left (by omega)]
   exact⟨q,d,e,a,c,by rw[g];exact h7,by rw[g];exact hu⟩
  ·obtain rfl:n=j:=by omega
   obtain⟨b,o,e,a,c,s,t,h7,_,hu,_⟩:=h.at' n f;have g:(dA ((ds.take (n+1)).map aF.un))[n]'(by rw[ja];simp;omega)=aL (dA ((ds.take n).map aF.un)) 1 ds[n].un:=by
    simp only[k,lI];rw[List.getElem_append_right (by omega)];simp[l]
   exact⟨b,o,e,a,c,by rw[g];exact rD _ _ h7,by rw[g];exact gg ih _ _ hu⟩
theorem EC{p:Pm}{D:Dl}{ds:List aF}(h:cE p D ds):eV p D (dA (ds.map aF.un)):=by
 have:=wX h ds.length (Nat.le_refl _);rwa [List.take_length]at this
def aS(ds:List aF):List U:=dA (ds.map aF.un)
theorem dL(ds:List aF):(aS ds).length=ds.length:=by unfold aS;rw[ja];simp
theorem lJ(ds:List aF)(j:Nat)(a:j<ds.length):(aS ds)[j]'(by rw[dL];exact a)=aL ((aS ds).take j) 1 ds[j].un:=by
 unfold aS;rw[EA (ds.map aF.un) j (by simpa using a)];simp
end TS
namespace Go.Proofs.YtdkmnkjhhhmglaaGreatDoor
open Go.RowKit TS
theorem rE{len:Nat}{ds:List aF}:∀j,(o:j≤ds.length)→(∀k(h:k<ds.length),k<j→dS len k ds[k]=true)→∀k(h:k<j),l_ len ((aS ds)[k]'(by rw[dL];omega))∧bh (aS ds) k 1 ((aS ds)[k]'(by rw[dL];omega))
 |0,_,_,k,h=>by omega
 |j+1,o,m,k,h=>by
  have ih:=rE j (by omega) (fun k h1 h2=>m k h1 (by omega));by_cases e:k<j
  ·exact ih k e
  ·obtain rfl:k=j:=by omega
   have a:k<ds.length:=by omega
   have g:=m k a (by omega);unfold dS at g;simp only[Bool.and_eq_true,Bool.not_eq_true',Bool.or_eq_false_iff,decide_eq_false_iff_not,beq_eq_false_iff_ne]at g;obtain⟨⟨⟨⟨⟨d1,d2⟩,d3⟩,b⟩,_⟩,_⟩:=g;have c:((aS ds).take k).length=k:=by rw[List.length_take,dL];omega
   have d:∀t∈(aS ds).take k,l_ len t:=fun t p=>by
    obtain⟨i,hi,rfl⟩:=List.getElem_of_mem p;rw[List.getElem_take];exact(ih i (by omega)).1
   rw[lJ ds k a];have r:(⟨(k:Int),true,false⟩:Pc).f=1:=rfl;refine⟨⟨by rw[cZ];omega,by rw[cZ];omega,by rw[cZ];exact d2,?_⟩,?_⟩
   ·have:=tu d ds[k].un ⟨k,true,false⟩ .type b (by simp[c]) (fun h=>absurd rfl h)
    exact this
   ·have:=wW (T:=aS ds) (T':=(aS ds).take k) k (by omega) (fun n q=>EB (l:=ds.map aF.un) (by simpa using a) n q) ds[k].un ⟨k,true,false⟩ .type b (by simp[c]) (fun h=>absurd rfl h)
    exact this
end Go.Proofs.YtdkmnkjhhhmglaaGreatDoor
namespace TS
open Go Go.RowKit
theorem lK{P:Program}{w:World}{o:Oper}{a:Act}{Q:Exit→Act→World→Prop}{K:Act→World→Prop}(s x:Operand)(t:TypeId)
 (C:o.op= .call {callee:= .builtin .append,args:=#[s,x],argTypes:=#[t,t]})
 (base:Nat)(e:TypeId)(i:TypeInfo)(z:Value)(size bytes:Nat)(D:P.underlying t=some (.slice e))(hi:P.info? e=some i)(E:i.zero=some z)
 (d:i.size=size)(q:i.bytes=bytes)(r:z.cells.size=size)(y:0<size)
 (v:Value)(n:Nat)(xs:List Value)(F:a.eval s=v)(l:w.ownsRow base e size v n xs)
 (A:Addr)(m c:Nat)(news:List Value)(G:a.eval x= .slice (some A) m c)(H:news.length=m*size)(f:∀j u,news[j]?=some u→w.cell? (A.add j)=some u)(h1:∀u∈news,u.oneCell'=true)
 (B:n+m≤maxLen)(b:(n+m)*bytes≤140737488355328)(g:base≤w.heap.size)
 (h:∀k p,p.ownsRow base e size k (n+m) (xs++news)→w.grownBy p v.ownBlock→(k= .slice none 0 0↔v= .slice none 0 0∧m=0)→(k.ownBlock=v.ownBlock∨k.ownBlock=some w.heap.size)→K (a.put o.dst k) p):
 o.wp P a w K Q:=by
 obtain⟨k,p,hr,h2,h3,I,J⟩:=run_append_own_at (P:=P) w base t o.type e i z size bytes D hi E d q r y v n xs l A m c news H f h1 B b g;unfold Oper.wp execOp;simp only[C,resolve,invoke,builtin,Sem.run_bind,Sem.run_pure,Result.andThen_ok,List.map_toArray,List.map_cons,List.map_nil,F,G,hr];exact h k p h2 h3 I J
end TS
namespace Go.Proofs.YtdkmnkjhhhmglaaGreatDoor
open Go.RowKit TS
theorem F7(D:Dl)(dc:Nat)(NS:List (List UInt8))(j:NS.length≤1048576){t e:U}{C l E n:Nat}(o:Pl D.len t C l)(p:l≤2)(a:l≠0)(b:t.k≠12)(c:t.k≠13)
 (r:Pl D.len e E n)(s:n≤2)(d:n≠0)(g:e.k≠12)(h:e.k≠13)(u:Names NS t)(v:Names NS e)(w:∀f∈ai t,aR f)(x:∀m∈ai e,aR m):
 ∀f∈ai t,∀m∈ai e,∀q,kk q D dc f m:=fun f y m hm q=>by
 obtain⟨H,I,z,A⟩:=o.cv p a b c f y;obtain⟨F,G,i,B⟩:=r.cv s d g h m hm;exact mz D dc NS j f m _ _ _ _ A z (by omega) (by omega) B i (by omega) (by omega) (w f y) (x m hm) (u.cv f y).2 (v.cv m hm).2 q
theorem F8(p:Pm)(D:Dl)(dc:Nat)(NS:List (List UInt8))(s:NS.length≤1048576)(lt:List U)(r:Option Addr)(cl:Nat)(e:U)(a:Option Addr)(c:Nat)(w:World)(t:Pl D.len e 2 2)
 (B:Names NS e)(C:lt.length≤1048576)(S:aj p D lt r)(E:aQ e=true→∀f∈lt,∀m∈ai e,∀q,kk q D dc f m)(hu:ak p D e a c)(hw:KW p w)(u x:Nat)(nl:Nat)(i:nl=lt.length)
 (h1:w.cell? ⟨u,0,none⟩=some (.slice D.a D.len dc))(h2:w.cell? ⟨x,0,none⟩=some (.slice r nl cl)):
 Calls Tryz.prog 164 #[.agg #[.int .i64 e.k,.int .i64 e.n,.int .i64 e.m,.bool e.v,.string e.nm,.string e.tg,.slice a e.es.length c],.pointer (some ⟨u,0,none⟩),.pointer (some ⟨x,0,none⟩)] w (RB (aQ e&& !hasB lt (ai e)) w):=by
 have b1:=World.block_lt_of_cell? _ _ h1;have O:=World.block_lt_of_cell? _ _ h2;simp only at b1 O;have ag:Up p w (w.alloc (.cells #[.int .i64 e.k,.int .i64 e.n,.int .i64 e.m,.bool e.v,.string e.nm,.string e.tg,.slice a e.es.length c] 25)):=(Up.refl hw).alloc _;have A:=fun W g=>og p D dc e 2 2 a c W t (by omega) (by omega) hu g;have g1:(w.alloc (.cells #[.int .i64 e.k,.int .i64 e.n,.int .i64 e.m,.bool e.v,.string e.nm,.string e.tg,.slice a e.es.length c] 25)).drew.cell? ⟨u,0,none⟩=some (.slice D.a D.len dc):=by show(w.alloc _).cell? _=_;rw[World.cell?_alloc_lt _ _ _ b1];exact h1
 have g2:(w.alloc (.cells #[.int .i64 e.k,.int .i64 e.n,.int .i64 e.m,.bool e.v,.string e.nm,.string e.tg,.slice a e.es.length c] 25)).drew.cell? ⟨x,0,none⟩=some (.slice r nl cl):=by show(w.alloc _).cell? _=_;rw[World.cell?_alloc_lt _ _ _ O];exact h2
 cases he:aQ e
 ·have j:=fun W g=>aW (A W g) he
  clear A he t E;go_enter Tryz.func164,Tryz.ntmps164;go_wp2_with fail
  refine oR (fun W=>W.cell? ⟨u,0,none⟩=some (.slice D.a D.len dc)∧W.cell? ⟨x,0,none⟩=some (.slice r nl cl)∧(W.cell? ⟨w.heap.size,0,none⟩=some (.int .i64 e.k)∧W.cell? ⟨w.heap.size,1,none⟩=some (.int .i64 e.n)∧W.cell? ⟨w.heap.size,2,none⟩=some (.int .i64 e.m)∧W.cell? ⟨w.heap.size,3,none⟩=some (.bool e.v)∧W.cell? ⟨w.heap.size,4,none⟩=some (.string e.nm)∧W.cell? ⟨w.heap.size,5,none⟩=some (.string e.tg)∧W.cell? ⟨w.heap.size,6,none⟩=some (.slice a e.es.length c))∧Up p w W) [(0,true),(1,true),(2,false),(3,true),(4,true),(5,true),(6,true),(7,true),(8,false),(9,false),(10,true),(11,true),(12,true)] oK (fun d=> ?_);repeat(first|(refine oS ?_;try simp only[Act.put,oa,ob,oc])|(refine oF d ?_;try simp only[Act.put,oa,ob,oc])|(refine oL fun K h=> ?_;go_simp;(go_at_call 160;(with_reducible refine(j _ (Up.kw (by first|assumption|exact ag.drew))).mono ?_);rintro F T ⟨rfl,aa⟩;(try simp only[]);refine h _ _ oK fun d=> ?_;clear h K;try simp only[Act.put,oa,ob,oc])))
  refine ch ?_;have G:=(ag.drew.step aa).up;clear aa d;go_wp2_with fail
  go_ret;exact⟨_,rfl,rfl,G⟩
 ·obtain⟨l,o,hi⟩:=lj.1 he
  have j:=fun W g=>aW (A W g) he;have y:=Lib.hid (E he);have P:=fun W (g:KW p W)=>mw D dc NS s e p 2 2 a c W t (by omega) (by omega) l o B hu g;have hle:(ai e).length≤1048576:=Nat.le_trans (iT (lk t (by omega) (by omega) l o).noTwo fun m hm=>(B.cv m hm).1) s;generalize ai e=le at*;have V:=Lib.hid fun(q:Pm) (X:Sub p q) a2 Q c2 (H:Q=le.length) (I:aj q D le a2) W (g:KW q W)=>uh q D dc lt le r nl cl a2 Q c2 W i H C hle (aj.sub X _ S) I g fun f Y m hm=>y.out f Y m hm q;have R:=Lib.hid i;clear A he t E hi l o B y i;go_enter Tryz.func164,Tryz.ntmps164;go_wp2_with fail
  refine oR (fun W=>W.cell? ⟨u,0,none⟩=some (.slice D.a D.len dc)∧W.cell? ⟨x,0,none⟩=some (.slice r nl cl)∧(W.cell? ⟨w.heap.size,0,none⟩=some (.int .i64 e.k)∧W.cell? ⟨w.heap.size,1,none⟩=some (.int .i64 e.n)∧W.cell? ⟨w.heap.size,2,none⟩=some (.int .i64 e.m)∧W.cell? ⟨w.heap.size,3,none⟩=some (.bool e.v)∧W.cell? ⟨w.heap.size,4,none⟩=some (.string e.nm)∧W.cell? ⟨w.heap.size,5,none⟩=some (.string e.tg)∧W.cell? ⟨w.heap.size,6,none⟩=some (.slice a e.es.length c))∧Up p w W) [(0,true),(1,true),(2,false),(3,true),(4,true),(5,true),(6,true),(7,true),(8,false),(9,false),(10,true),(11,true),(12,true)] oK (fun d=> ?_);repeat(first|(refine oS ?_;try simp only[Act.put,oa,ob,oc])|(refine oF d ?_;try simp only[Act.put,oa,ob,oc])|(refine oL fun K h=> ?_;go_simp;first|(go_at_call 160;(with_reducible refine(j _ (Up.kw (by first|assumption|exact ag.drew))).mono ?_);rintro F T ⟨rfl,aa⟩;have Z:=aa;(try simp only[]);refine h _ _ oK fun d=> ?_;clear h K;try simp only[Act.put,oa,ob,oc])|(go_at_call 107;obtain⟨s1,s2,⟨t0,t1,t2,t3,t4,t5,t6⟩,z⟩:=d;(with_reducible refine(P _ z.kw).mono ?_);rintro F w3 ⟨q1,a1,n1,c1,rfl,J,L,M,N,aa⟩;clear P;(try simp only[]);refine h _ _ oK fun d=> ?_;clear h K;try simp only[Act.put,oa,ob,oc])|(go_at_call 51;obtain⟨s1,s2,⟨t0,t1,t2,t3,t4,t5,t6⟩,z⟩:=d;(with_reducible refine(V.out q1 L.le a1 n1 c1 J.out N _ M).mono ?_);rintro F w4 ⟨b,rfl,hb,aa⟩;(try simp only[]);refine h _ _ oK fun d=> ?_;clear h K;try simp only[Act.put,oa,ob,oc])))
  refine ch ?_;obtain⟨s1,s2,_,z⟩:=d;have G:=z.up;have hF:Hid ((!b)=(true&& !hasB lt le)):=by unfold Hid;rw[hb.out];rfl
  clear aa s1 s2 z;go_wp2_with fail
  go_ret;exact⟨_,rfl,hF.out,G⟩
theorem F9(p:Pm)(D:Dl)(dc:Nat)(NS:List (List UInt8))(j:NS.length≤1048576)(t:U)(pt ft:Nat)(a:Option Addr)(c:Nat)(w:World)(hP:Pl D.len t pt ft)(z:ft≤2)(h:t.k=10)(y:Names NS t)
 (A:∀f∈ai t,aR f)(B:∀e∈t.es.drop t.m.toNat,aQ e=true→∀m∈ai e,aR m)(hu:ak p D t a c)(hw:KW p w):
 Calls Tryz.prog 118 #[.slice D.a D.len dc,.agg #[.int .i64 t.k,.int .i64 t.n,.int .i64 t.m,.bool t.v,.string t.nm,.string t.tg,.slice a t.es.length c]] w (RB (eU t) w):=by
 obtain⟨f1,l,g,d⟩:=hP.jx z h;obtain⟨PQ,G,h4⟩:=d.form.lh h;have hI:=Lib.hid fun e (he:e∈t.es.drop t.m.toNat) (s:aQ e=true)=>F7 D dc NS j d l g (by omega) (by omega) (d.elem h he) (by omega) (by omega) (lj.1 s).1 (lj.1 s).2.1 y (y.es (List.mem_of_mem_drop he)).2 A (B e he s);have hE:=Lib.hid fun e he=>d.elem h (e:=e) he;have I:=Lib.hid fun e (he:e∈t.es.drop t.m.toNat)=>(y.es (List.mem_of_mem_drop he)).2;have hR:=fun W (J:KW p W)=>mw D dc NS j t p 0 f1 a c W d l g (by omega) (by omega) y hu J;have K:(ai t).length≤1048576:=Nat.le_trans (iT (lk d l g (by omega) (by omega)).noTwo fun m hm=>(y.cv m hm).1) j;have ag:Up p w ((w.alloc (.cells #[.slice D.a D.len dc] 22)).alloc (.cells #[.int .i64 t.k,.int .i64 t.n,.int .i64 t.m,.bool t.v,.string t.nm,.string t.tg,.slice a t.es.length c] 25)):=((Up.refl hw).alloc _).alloc _;have hF:Hid (eU t= !((t.es.drop t.m.toNat).any fun e=>aQ e&& !hasB (ai t) (ai e))):=by
  unfold Hid eU;simp only[List.not_any_eq_all_not,Bool.not_and,Bool.not_not]
 obtain⟨r,hr⟩:∃r,r=eU t:=⟨_,rfl⟩
 rw[←hr]at hF⊢;clear hr;have o:=hu.cap;generalize ai t=lt at*;have PR:max t.m 0=t.m:=by omega
 have PO:t.m≤t.es.length:=by omega
 have PS:∀(fn:Fn)(first cap:Array Value)(w:World),(Instr.makeFunc fn first cap).run Tryz.prog w= .ok (.func fn first cap) w:=fun _ _ _ _=>rfl;have eg:=Lib.hid (show ∀args w,(callFunc 164 args).run Tryz.prog w= .ok (.enter 164 args) w from ep Tryz.func164 (by kernel_rfl) rfl);have L:=o.1;have u:t.m.toNat<c∨c=t.m.toNat:=by omega
 clear hP d l g z h A B y o;go_enter Tryz.func118,Tryz.ntmps118;go_wp2_with fail
 refine(hR _ ag.kw).mono ?_;rintro e1 M ⟨q,N,O,c1,rfl,P,Q,R,S,aa⟩;have T:=ag.step aa;obtain⟨x0,x1,x2,x3,x4,x5,x6⟩:TS.L7 M (w.heap.size+1) t a c:=by
  repeat' apply And.intro
  all_goals exact TS.cell_kept aa (by first|(simp[go_sem];done)|(go_keep;done))
 have c0:M.cell? ⟨w.heap.size,0,none⟩=some (.slice D.a D.len dc):=TS.cell_kept aa (by simp[go_sem]);clear hR aa ag;have V:=T.alloc (.cells #[.slice N O c1] 23);have C:=R.alloc (.cells #[.slice N O c1] 23);have X:=aj.sub Q.le _ hu.list;have Y:=Lib.hid fun W (J:KW q W) n (hn:n=(t.es.drop t.m.toNat).length) a2 c2 (E:aj q D (t.es.drop t.m.toNat) a2) lb H=>iU n q D (t.es.drop t.m.toNat) hn a2 c2 164 lb (fun e=>aQ e&& !hasB lt (ai e)) W J E (by simp;omega) eg.out H;have b0:=World.block_lt_of_cell? _ _ c0;simp only at b0;have b6:=World.block_lt_of_cell? _ _ x0;simp only at b6;rcases u with u|rfl
 all_goals
  go_wp2_with fail
  have E:=X.qC G L;first|rw[if_pos u]at E|rw[if_neg (Nat.lt_irrefl _)]at E
  refine(Y.out _ C _ (by simp;try omega) _ _ E _ ?_).mono ?_
  ·intro i hi W a' c' x Z
   have he:=List.getElem_mem hi;exact F8 q D dc NS j lt N c1 _ a' c' W (hE.out _ he) (I.out _ he) K S (hI.out _ he) Z (C.grown x) _ M.heap.size O P.out (TS.cell_kept x (by rw[World.cell?_alloc_lt _ _ _ b0];exact c0)) (TS.cell_kept x (by simp[go_sem]))
  rintro e1 w2 ⟨b,rfl,hb,F⟩;have PM:=(V.step F).up;have PN:Hid ((!b)=r):=by unfold Hid;rw[hb.out];exact hF.out.symm
  clear F hb hF;go_wp2_with fail
  go_ret;exact⟨_,rfl,PN.out,PM⟩
theorem F_(p:Pm)(D:Dl)(dc:Nat)(u:U)(pos f:Nat)(a:Option Addr)(c:Nat)(w:World)(g:Pl D.len u pos f)(hk:3≤u.k∧u.k≤9)(hu:ak p D u a c)(hw:KW p w):
 Calls Tryz.prog 11 #[.slice D.a D.len dc,.agg #[.int .i64 u.k,.int .i64 u.n,.int .i64 u.m,.bool u.v,.string u.nm,.string u.tg,.slice a u.es.length c]] w (RU p D u w):=by
 have h:=fun W hk=>nX p D u pos f a c W g hu hk;rw[cu (by omega) (by omega)]at h;have j:(u.k==11)=false:=by simp;omega
 have l:(u.k==15)=false:=by simp;omega
 clear g hk;go_enter Tryz.func11,Tryz.ntmps11;go_wp2_with fail
 refine(h _ ((hw.alloc _).alloc _)).mono ?_;rintro q r ⟨i,c1,rfl,d,aa⟩;obtain⟨e,o⟩:=j_ aa;obtain⟨s,t,x,y,z,A,B⟩:=((jm w u a c 25).alloc _).below aa;go_wp2_with fail
 refine bodyPost_ret (v:= .agg #[.int .i64 u.k,.int .i64 u.n,.int .i64 u.m,.bool u.v,.string u.nm,.string u.tg,.slice i u.es.length c1]) (by simp[results,Tryz.results11,go_sem,e]) rfl ?_;have b:=(((Below.refl w.heap.size w).alloc (Nat.le_refl _) _).alloc (by simp) _).trans (aa.mono (by simp;omega));refine⟨p,i,c1,rfl,.refl _ _,?_,d,?_⟩
 ·refine hw.grown ?_
  repeat(refine Below.setCell ?_ (by simp) _)
  exact b
 ·repeat(refine Below.setCell ?_ (by simp) _)
  exact b
theorem Ga(p:Pm)(D:Dl)(dc:Nat)(u:U)(pos f:Nat)(a:Option Addr)(c:Nat)(w:World)(e:Pl D.len u pos f)(hk:3≤u.k∧u.k≤9)(hu:ak p D u a c)(hw:KW p w):
 Calls Tryz.prog 67 #[.slice D.a D.len dc,.agg #[.int .i64 u.k,.int .i64 u.n,.int .i64 u.m,.bool u.v,.string u.nm,.string u.tg,.slice a u.es.length c]] w (RB (aZ u) w):=by
 have g:=fun W h=>F_ p D dc u pos f a c W e hk hu h;have ag:Up p w ((w.alloc (.cells #[.slice D.a D.len dc] 22)).alloc (.cells #[.int .i64 u.k,.int .i64 u.n,.int .i64 u.m,.bool u.v,.string u.nm,.string u.tg,.slice a u.es.length c] 25)):=((Up.refl hw).alloc _).alloc _;have hF:Hid ((u.k==16)=aZ u):=by
  have b:under u=u:=cQ (by omega) (by omega) (by omega) (by omega);unfold Hid;rw[gw (by rw[b];omega),b]
 have bU:(u.k==10)=false:=by simp;omega
 generalize aZ u=r at*;clear e hk;go_enter Tryz.func67,Tryz.ntmps67;go_wp2_with fail
 refine(g _ ag.kw).mono ?_;rintro l o ⟨q,s,c1,rfl,t,i,j,aa⟩;have d:=(ag.step aa).up;clear g aa;go_wp2_with fail
 go_ret;exact⟨_,rfl,hF,d.alloc d.size _⟩
theorem Gb{D:Dl}{T:List U}{NS:List (List UInt8)}{i:Nat}(E:Env D T NS i)(p:Pm)(dc:Nat){u:U}{pos f:Nat}(h:cF D T NS i u pos f)(h2:u.k≠2)(o:u.k≠10)(e:u.k≠12)(g:u.k≠13)
 (hT:eV p D T)(a:Option Addr)(c:Nat)(w:World)(hu:ak p D u a c)(hw:KW p w):
 Calls Tryz.prog 67 #[.slice D.a D.len dc,.agg #[.int .i64 u.k,.int .i64 u.n,.int .i64 u.m,.bool u.v,.string u.nm,.string u.tg,.slice a u.es.length c]] w (RB (aZ (du T u)) w):=by
 by_cases l:u.k=11
 ·have y:=h.du E o h2 e g l
  obtain⟨q,z,A,B,C,F,G⟩:=uv T u;have:=mn D dc (du T u) p 0 1 a c w y (by omega) (by omega) (by rw[q];exact e) (by rw[q];exact g) (Av hT hu) hw;rw[q,z,A,B,C,F,G]at this;exact this
 ·rw[qb l]
  by_cases hk:3≤u.k∧u.k≤9
  ·exact Ga p D dc u pos f a c w h.pl hk hu hw
  ·have H:=h.pl.form.kinds
   have r:u.es= []:=by
    have s:=h.pl.form;cases s with
    |basic _ _ _ he=>exact he
    |pre _ he=>exact he
    |err _ he _=>exact he
    |one a _ _=>omega
    |ptr a _ _ _=>omega
    |_=>omega
   have t:Pl D.len u 0 1:=by
    refine fU ?_ (fun j x=>by rw[r]at x;simp at x) (fun h=>absurd h l);have s:=h.pl.form;cases s with
    |basic a b c d=>exact .basic a b c d
    |pre a b=>exact .pre a b
    |err a b c=>exact .err a b c
    |one a _ _=>omega
    |ptr a _ _ _=>omega
    |_=>omega
   exact mn D dc u p 0 1 a c w t (by omega) (by omega) e g hu hw
def jf(D:Dl)(dc:Nat)(T:List U)(NS:List (List UInt8))(i:Nat)(u:U):Prop:=
 ∀(g:Bool)(p:Pm)(pos f:Nat)(a:Option Addr)(c:Nat)(w:World),cF D T NS i u pos f→u.k≠12→u.k≠13→eV p D T→ak p D u a c→KW p w→
  Calls Tryz.prog 32 #[.slice D.a D.len dc,.agg #[.int .i64 u.k,.int .i64 u.n,.int .i64 u.m,.bool u.v,.string u.nm,.string u.tg,.slice a u.es.length c],.bool g] w (RB (mt T .type u g) w)
theorem Gc(p:Pm)(D:Dl)(dc:Nat)(u:U)(x:Bool)(a:Option Addr)(c:Nat)(w:World)(e:∀W,KW p W→Calls Tryz.prog 32 #[.slice D.a D.len dc,.agg #[.int .i64 u.k,.int .i64 u.n,.int .i64 u.m,.bool u.v,.string u.nm,.string u.tg,.slice a u.es.length c],.bool false] W (RB x W))(hw:KW p w)(f:Nat)
 (h1:w.cell? ⟨f,0,none⟩=some (.slice D.a D.len dc)):
 Calls Tryz.prog 121 #[.agg #[.int .i64 u.k,.int .i64 u.n,.int .i64 u.m,.bool u.v,.string u.nm,.string u.tg,.slice a u.es.length c],.pointer (some ⟨f,0,none⟩)] w (RB (!x) w):=by
 have b1:=World.block_lt_of_cell? _ _ h1;simp only at b1;have ag:Up p w (w.alloc (.cells #[.int .i64 u.k,.int .i64 u.n,.int .i64 u.m,.bool u.v,.string u.nm,.string u.tg,.slice a u.es.length c] 25)):=(Up.refl hw).alloc _;go_enter Tryz.func121,Tryz.ntmps121;go_wp2_with fail
 refine(e _ ag.kw).mono ?_;rintro h i ⟨b,rfl,g,aa⟩;have d:=(ag.step aa).up;have hF:Hid ((!b)= !x):=by unfold Hid;rw[g.out]
 clear g aa e;go_wp2_with fail
 go_ret;exact⟨_,rfl,hF,d⟩
theorem xK(p:Pm)(D:Dl)(dc:Nat)(T:List U)(es:List U)(a:Option Addr)(n c:Nat)(w:World)(o:n=es.length)
 (q:∀e∈es,∀a c W,ak p D e a c→KW p W→Calls Tryz.prog 32 #[.slice D.a D.len dc,.agg #[.int .i64 e.k,.int .i64 e.n,.int .i64 e.m,.bool e.v,.string e.nm,.string e.tg,.slice a e.es.length c],.bool false] W (RB (mt T .type e false) W))(u:aj p D es a)(x:(es.length:Int)≤1048576)(hw:KW p w):
 Calls Tryz.prog 68 #[.slice D.a D.len dc,.slice a n c] w (RB (es.all fun e=>mt T .type e false) w):=by
 have r:∀args w,(callFunc 121 args).run Tryz.prog w= .ok (.enter 121 args) w:=ep Tryz.func121 (by kernel_rfl) rfl;have y:=Lib.hid fun W (z:KW p W) lb H=>iU n p D es o a c 121 lb (fun e=> !mt T .type e false) W z u x r H;have s:es.any (fun e=> !mt T .type e false)= !es.all fun e=>mt T .type e false:=lW _ _;have f:=Lib.hid s;have A:∀(fn:Fn)(first cap:Array Value)(w:World),(Instr.makeFunc fn first cap).run Tryz.prog w= .ok (.func fn first cap) w:=fun _ _ _ _=>rfl;have ag:Up p w (w.alloc (.cells #[.slice D.a D.len dc] 22)):=(Up.refl hw).alloc _;have g:=Lib.hid q;clear s q r o;go_enter Tryz.func68,Tryz.ntmps68;go_wp2_with fail
 refine(y.out _ ag.kw _ ?_).mono ?_
 ·intro i hi W a' c' d h
  exact Gc p D dc es[i] _ a' c' W (fun B j=>g.out _ (List.getElem_mem hi) a' c' B h j) (ag.kw.grown d) _ (TS.cell_kept d (by simp))
 rintro C E ⟨b,rfl,t,aa⟩;have l:=(ag.step aa).up;have hF:Hid ((!b)=es.all fun e=>mt T .type e false):=by unfold Hid;rw[t.out,f.out];simp
 clear t aa;go_wp2_with fail
 go_ret;exact⟨_,rfl,hF,l⟩
end Go.Proofs.YtdkmnkjhhhmglaaGreatDoor
