import Derived.Laws.AppendOwnNone
import Derived.LoopIn
import Derived.LoopNIn
import Derived.OwnWalkIn
import Derived.RangeFuncBound
import Derived.RangeFuncCalls
import Derived.RangeFuncFrom
import Derived.RangeFuncLeaves
import Derived.RangeFuncMany
import Derived.RangeFuncNested
import Derived.Shelf.Abstract
import Derived.TacticsInMore
import Derived.Test.YtgbklbbknehefaaGreatDoorYbd
set_option maxRecDepth 100000
set_option maxHeartbeats 8000000
set_option linter.all false
namespace Go.Proofs.YtgbklbbknehefaaGreatDoor
open Go.RowKit TS
theorem A6(len:Nat)(p:Pm)(g:Ge)(B:Nat)(v:Value)(rs:List Nat)(R:List Tm)(a:Option Addr)(n c:Nat)(f:Nat→Nat)(D:List Tm)(w:World)(V:an p g w)(hT:bZ p g B w v rs R)(W:∀b,v.ownBlock=some b→∀o,p b o=none)(hB:B≤w.heap.size)(hG:5<B)
 (X:n=D.length)(hl:n≤1048576)(Qk:rs.length≤1048576)(ha:a=none→c=0)(Y:∀x,a=some x→x.spot=none)(hp:bj w a n f)(hy:∀i(h:i<D.length),aY p g D[i] (f i))(ok:∀t∈R,dt len t)(L:∀t∈D,dt len t):
 Calls Tryz.prog 145 #[v,.slice a n c] w fun e F=>
  ∃q r l,e= .returned r∧aK p q B∧an q g F∧bZ q g w.heap.size F r l (fF R D)∧Kept (fun k=>v.ownBlock=some k) w F∧∀b,r.ownBlock=some b→∀o,q b o=none:=by
 obtain⟨Z,vc,rfl⟩:=aZ hT.own
 have E:∀(C:World)(v1:Value),Kept (fun k=>(Value.slice Z rs.length vc).ownBlock=some k) w C→C.ownsRow B 191 1 v1 (rs.length+n) (rs.map pv++(List.range n).map fun i=>pv (f i))→(v1.ownBlock=(Value.slice Z rs.length vc).ownBlock∨∃k,v1.ownBlock=some k∧w.heap.size≤k)→
  ∃J c1,v1= .slice J (rs.length+n) c1∧Calls Tryz.prog 175 #[v1] C fun e F=> ∃q r l,e= .returned r∧aK p q B∧an q g F∧bZ q g w.heap.size F r l (fF R D)∧Kept (fun k=>(Value.slice Z rs.length vc).ownBlock=some k) w F∧∀b,r.ownBlock=some b→∀o,q b o=none:=by
  intro C v1 Q ho hv;have P4:an p g C:=V.own Q (fun b K=>W b K) fun e=>by have:=(hT.own.lt _ e).1;omega
  have P5:bZ p g B C v1 (rs++(List.range n).map f) (R++D):=by
   refine⟨by simpa [List.map_map,Function.comp_def]using ho,by simp[hT.len,X],fun i hi Ql=> ?_⟩;have hl:=hT.len;by_cases s:i<R.length
   ·rw[List.getElem_append_left s,List.getElem_append_left (by omega)];exact hT.cd i s (by omega)
   ·rw[List.getElem_append_right (by omega),List.getElem_append_right (by omega)]
    simp only[List.getElem_map,List.getElem_range];have:=hy (i- R.length) (by simp at hi;omega);rw[hl];exact this
  obtain⟨q,J,c1,S,P6,P7,M,Qm,P8⟩:=kV P4 P5 fun b K=>by
   rcases hv with e|⟨k,e,hk⟩
   ·rw[e]at K;exact W b K
   ·rw[e]at K;cases K;exact fun o=>V.kw.aG hk o
  have hlen:(rs++(List.range n).map f).length=rs.length+n:=by simp
  rw[hlen]at S M;refine⟨J,c1,S,?_⟩;subst S;refine(sD len q g J (rs.length+n) c1 _ (R++D) C (by simp[hT.len,X]) (by omega) P7 M P8 fun t ht=>(List.mem_append.1 ht).elim (ok t) (L t)).mono ?_;rintro e w2 ⟨q2,v2,P9,rfl,P_,Qa,G,Qb,Qc⟩;exact⟨q2,v2,P9,rfl,P6.trans P_ (by have:=Q.size;omega),Qa,⟨ie G.own Q.size,G.len,G.cd⟩,Q.below Qb,Qc⟩
 have d:=Lib.hid E;have y:=Lib.hid hT.own;obtain⟨i1,hj,Qd,Qe,Qf⟩:=info_parts oz;have z:=Lib.hid hp;have Qg:=Lib.hid hB;clear V hT W hG hy ok L hp E X;match a,ha,Y,z with
 |none,ha,_,z=>
  have Qh:=ha rfl;have Qi:n=0:=by
   rcases Nat.eq_zero_or_pos n with h|h
   ·exact h
   ·obtain⟨_,_,e,_⟩:=z.out 0 h;cases e
  subst Qh;subst Qi;have hF:=d.out w _ (Kept.refl _ _) (by simpa using y.out) (.inl rfl);obtain⟨J,c1,S,hF⟩:=hF;have H:=Lib.hid hF;clear hF d ha;go_enter Tryz.func145,Tryz.ntmps145;go_wp2_with (first|(at_builtin;refine wpList_append_own_none rfl _ _ 133 rfl B 191 i1 1 Tryz.underlying133 hj _ _ _ rfl y.out rfl ?_)|fail)
  refine H.out.mono ?_;rintro e w2 ⟨q,r,l,rfl,h⟩;have h':=Lib.hid h;clear h;go_wp2_with fail
  go_ret;exact⟨q,r,l,rfl,h'.out⟩
 |some ad,_,Y,z=>
  have A:=Y ad rfl;obtain⟨T,U,sp⟩:=ad;simp only at A;subst A;have I:Hid (∀j u,((List.range n).map fun i=>pv (f i))[j]?=some u→w.cell? ((⟨T,U,none⟩:Addr).add j)=some u):=fun j u hu=>by
   rw[List.getElem?_map]at hu;obtain⟨i,hi,rfl⟩:=Option.map_eq_some_iff.1 hu;have Qj:=List.getElem?_eq_some_iff.1 hi;obtain⟨s,e⟩:=Qj;simp at s e;subst e;obtain⟨b0,o0,e0,hc⟩:=z.out j s;cases e0;rw[show(⟨T,U,none⟩:Addr).add j=⟨T,U+j,none⟩ by unfold Addr.add;split<;>simp_all];exact hc
  have N:Hid (∀u∈(List.range n).map (fun i=>pv (f i)),u.oneCell'=true):=fun u hu=>by obtain⟨i,_,rfl⟩:=List.mem_map.1 hu;rfl
  go_enter Tryz.func145,Tryz.ntmps145;go_wp2_with (first|(at_builtin;refine wpList_append_own_at _ rfl _ _ 133 rfl B 191 i1 (.pointer none) 1 8 Tryz.underlying133 hj Qd Qe Qf rfl (by decide) _ _ _ rfl y.out ⟨T,U,none⟩ n c ((List.range n).map fun i=>pv (f i)) rfl (by simp) I.out N.out ?c3 ?c4 ?c5 ?_)|fail)
  case c3=>unfold maxLen;omega
  case c4=>omega
  case c5=>exact Qg.out
  intro v1 C m O _ P;obtain⟨J,c1,rfl⟩:=aZ m;have hF:=d.out C _ ((Kept.refl _ _).grown O fun k hk _=>hk) m (by
   rcases P with e|e
   ·exact .inl e
   ·exact .inr ⟨_,e,Nat.le_refl _⟩)
  obtain⟨a2,c2,e2,hF⟩:=hF;have H:=Lib.hid hF;clear hF d m O P e2;go_wp2_with fail
  refine H.out.mono ?_;rintro e w2 ⟨q,r,l,rfl,h⟩;have h':=Lib.hid h;clear h;go_wp2_with fail
  go_ret;exact⟨q,r,l,rfl,h'.out⟩
end Go.Proofs.YtgbklbbknehefaaGreatDoor
namespace TS
open Go Go.RowKit Go.ChangeMaps
section
variable {P:Program} {kt:TypeId} {K:World→Value→Prop} {w w':World} {b:Nat} {F:Value→Option Value}
theorem bT.A9(h:bT K w b F)(L:KeyLaw P kt K){t e:TypeId}(f:P.underlying t=some (.map kt e)){z:Value}(i:(zeroValue e).run P w= .ok z w){x:Value}(a:K w x):
 (Instr.lookup t (.map (some b)) x true).run P w= .ok (.tuple #[(F x).getD z,.bool (F x).isSome]) w:=by
 obtain⟨es,clock,g,h1,h2,_⟩:=h;rcases L.find w a es.toList (fun e he=>(h1 e he).1)with⟨c,k⟩|⟨j,d,c,l,hk⟩
 ·have hF:F x=none:=by
   cases hF:F x with
   |none=>rfl
   |some v=>obtain⟨d,he,hk⟩:=h2 x v hF;exact absurd hk (k d he)
  simp[Instr.lookup,run_underlying f,MapKept.run_getObj_map g,L.check w _ a,c,i,hF,Result.andThen]
 ·have:=(h1 d (List.mem_of_getElem? l)).2
  rw[hk]at this;simp[Instr.lookup,run_underlying f,MapKept.run_getObj_map g,L.check w _ a,c,this,Result.andThen]
theorem A_(w:World){ops:Array Oper}{rest:List Oper}{o:Oper}{a:Act}{Q:Exit→Act→World→Prop}(j:o.guard=none)(m x:Operand)(t:TypeId)(f:o.op=Op.lookup t m x true)
 (L:KeyLaw P kt K)(e:TypeId)(k:P.underlying t=some (.map kt e))(z:Value)(l:∀w,(zeroValue e).run P w= .ok z w)(b:Nat)(F:Value→Option Value)(hm:a.eval m= .map (some b))(h:bT K w b F)
 (key:Value)(n:a.eval x=key)(hk:K w key)(val:Value)(ok:Bool)(d:(F key).getD z=val)(g:(F key).isSome=ok)(p:wpList P ops Q rest (a.put o.dst (.tuple #[val,.bool ok])) w):wpList P ops Q (o::rest) a w:=by
 refine wpList_plain j fun q i=> ?_;have c:=h.A9 L k (l w) hk;rw[d,g]at c;unfold Oper.wp;simp[execOp,f,hm,n,c,Result.andThen];exact i _ _ p
end
end TS
namespace TS
open Go Go.RowKit
theorem tG{α:Type}{P:List α→Prop}(b:P [])(h1:∀l a,P l→P (l++ [a]))(l:List α):P l:=by
 have key:∀r:List α,P r.reverse:=fun r=>by
  induction r with
  |nil=>exact b
  |cons a r ih=>rw[List.reverse_cons];exact h1 _ _ ih
 have:=key l.reverse;rwa [List.reverse_reverse]at this
def cR:List U→List U:=List.foldl (fun T d=>T++ [aN T 1 d]) []
theorem jW(l:List U)(d:U):cR (l++ [d])=cR l++ [aN (cR l) 1 d]:=by unfold cR;rw[List.foldl_append];rfl
theorem gR(l:List U):(cR l).length=l.length:=by
 refine tG (P:=fun l=>(cR l).length=l.length) rfl (fun l d ih=> ?_) l;rw[jW];simp[ih]
theorem tH(l:List U):∀j,j≤l.length→cR (l.take j)=(cR l).take j:=by
 refine tG (P:=fun l=> ∀j,j≤l.length→cR (l.take j)=(cR l).take j) (fun j a=>by simp at a;subst a;rfl) (fun l d ih=> ?_) l
 ·intro j a
  rw[jW];simp only[List.length_append,List.length_singleton]at a;by_cases h:j≤l.length
  ·rw[List.take_append_of_le_length h,ih j h,List.take_append_of_le_length (by rw[gR];exact h)]
  ·have:j=l.length+1:=by omega
   rw[List.take_of_length_le (by simp;omega),jW,List.take_of_length_le (by simp[gR];omega)]
theorem BV(l:List U)(j:Nat)(a:j<l.length):(cR l)[j]'(by rw[gR];exact a)=aN ((cR l).take j) 1 l[j]:=by
 have h1:=tH l (j+1) (by omega);rw[List.take_succ_eq_append_getElem a,jW,tH l j (by omega),List.take_succ_eq_append_getElem (by rw[gR];exact a)]at h1;have:=List.append_inj h1 rfl;simpa using this.2.symm
theorem tI{len:Nat}{T T':List U}(i:Nat)(hi:T'.length≤i)(Q:∀n(h:n<T'.length),∃a:n<T.length,T'[n]=T[n]):
 ∀(u:U)(q:Pc)(s:Pt),ah len u q s=true→q.d≤T'.length→(s≠ .type→q.t=true)→bc T i q.f (aN T' q.f u):=by
 intro u;induction u using U.bg with
 |_ u ih=>
  intro q s h K L;have y:q.behind.f=if q.f=2 then 2 else 0:=by
   unfold Pc.f Pc.behind;cases q.t<;>simp;cases q.v<;>simp
  have E:q.inside.f=2:=by unfold Pc.f Pc.inside;simp
  have z:q.f≤2:=by unfold Pc.f;split<;>(try split)<;>omega
  have mk:(u.k=11→q.f≠0→u.n.toNat<T'.length)→(∀j(b:j<u.es.length),bc T i (aI u j q.f) (aN T' (aI u j q.f) u.es[j]))→bc T i q.f (aN T' q.f u):=fun h1 h2=>by
   rw[bc];refine⟨fun hk=> ?_,fun hk=> ?_,fun j b=> ?_⟩
   ·rw[cG]at hk
    by_cases f0:q.f=0
    ·rw[if_pos f0,iX,if_neg (by omega),if_neg (by simp[f0])]
    ·rw[if_neg f0,iX,if_neg (by omega),if_pos ⟨hk,f0⟩]
     simp only[fQ];have o:=h1 hk f0;obtain⟨a,e⟩:=Q _ o;exact⟨a,by omega,by rw[List.getElem?_eq_getElem o,e];rfl⟩
   ·rw[cG]at hk;rw[iX,if_pos hk]
   ·rw[nt,gj]
    exact h2 j (by rw[cj]at b;exact b)
  have all:∀(x:Pc)(D:Pt),x.d=q.d→(D≠ .type→x.t=true)→(∀e∈u.es,ah len e x D=true)→(∀j,j<u.es.length→aI u j q.f=x.f)→∀j(b:j<u.es.length),bc T i (aI u j q.f) (aN T' (aI u j q.f) u.es[j]):=by
   intro x D W F G R j b;rw[R j b];exact ih _ (U.au (List.getElem_mem b)) x D (G _ (List.getElem_mem b)) (by omega) F
  have c:u.es= []→∀j(b:j<u.es.length),bc T i (aI u j q.f) (aN T' (aI u j q.f) u.es[j]):=fun he j b=>by rw[he]at b;simp at b
  have p:u.k≠10→u.k≠2→u.k≠3→u.k≠5→∀j,j<u.es.length→aI u j q.f=q.behind.f:=fun h1 h2 h3 X j _=>by
   rw[y];unfold aI;split
   ·rfl
   ·rw[if_neg (by omega),if_neg (by omega)]
  have type:ah len u q .type=true→bc T i q.f (aN T' q.f u):=fun h=>by
   by_cases M:u.k=1
   ·rw[ah.eq_def]at h;simp only[M,if_true,Bool.and_eq_true,decide_eq_true_eq,List.length_eq_zero_iff]at h
    exact mk (fun hk=>by omega) (c h.2)
   by_cases r:u.k=14∨u.k=15∨u.k=16
   ·have he:u.es= []:=by
     rw[ah.eq_def]at h;rcases r with e|e|e<;>simpa [e,List.length_eq_zero_iff]using h
    exact mk (fun hk=>by omega) (c he)
   by_cases A:u.k=11
   ·rw[ah.eq_def]at h
    simp only[A,Int.reduceEq,if_false,or_self,if_true,Bool.and_eq_true,Bool.or_eq_true,Bool.not_eq_true',decide_eq_true_eq,bQ,List.length_eq_zero_iff]at h;obtain⟨⟨⟨Y,h1⟩,h2⟩,he⟩:=h;refine mk (fun _ S=> ?_) (c he);have:u.n<q.d:=by
     rcases h2 with⟨V,l⟩|h2
     ·exfalso;apply S;unfold Pc.f;simp[V,l]
     ·exact h2
    omega
   by_cases H:u.k=2∨u.k=3
   ·rw[ah.eq_def]at h
    have a:0≤u.n∧u.es.length=1∧∀e∈u.es,ah len e q .type=true:=by
     rcases H with e|e<;>simpa [e,and_assoc]using h
    exact mk (fun hk=>by omega) (all q .type rfl (fun h=>absurd rfl h) a.2.2 fun j _=>gX z (by omega) j)
   by_cases N:u.k=5
   ·rw[ah.eq_def]at h
    have a:ei u.es=true∧∀e∈u.es,ah len e q .type=true:=by simpa [N]using h
    exact mk (fun hk=>by omega) (all q .type rfl (fun h=>absurd rfl h) a.2 fun j _=>gX z (by omega) j)
   by_cases bC:u.k=10
   ·rw[ah.eq_def]at h
    have a:bQ u.m (u.es.length+1)=true∧(u.es.length- u.m≤4)∧dQ (u.es.take u.m.toNat)=true∧(∀e∈u.es.take u.m.toNat,ah len e q.behind .type=true)∧∀e∈u.es.drop u.m.toNat,ah len e q.inside .elem=true:=by
     simpa [bC,and_assoc]using h
    obtain⟨_,_,_,l,I⟩:=a;refine mk (fun hk=>by omega) fun j b=> ?_;by_cases o:j<u.m.toNat
    ·have w:aI u j q.f=q.behind.f:=by
      rw[y];unfold aI;split
      ·rfl
      ·rw[if_neg (by omega),if_neg (by omega)]
     rw[w];refine ih _ (U.au (List.getElem_mem b)) q.behind .type (l _ ?_) K (fun h=>absurd rfl h);rw[show u.es[j]=(u.es.take u.m.toNat)[j]'(by rw[List.length_take];omega) by rw[List.getElem_take]];exact List.getElem_mem _
    ·have w:aI u j q.f=q.inside.f:=by
      rw[E];unfold aI;split
      ·rfl
      ·rw[if_pos ⟨bC,by omega⟩]
     rw[w];refine ih _ (U.au (List.getElem_mem b)) q.inside .elem (I _ ?_) K (fun _=>rfl);rw[show u.es[j]=(u.es.drop u.m.toNat)[j- u.m.toNat]'(by rw[List.length_drop];omega) by rw[List.getElem_drop];congr 1;omega];exact List.getElem_mem _
   by_cases J:u.k=4∨u.k=6∨u.k=9
   ·rw[ah.eq_def]at h
    have a:bQ u.n 3=true∧u.es.length=1∧∀e∈u.es,ah len e q.behind .type=true:=by
     rcases J with e|e|e<;>simpa [e,and_assoc]using h
    exact mk (fun hk=>by omega) (all q.behind .type rfl (fun h=>absurd rfl h) a.2.2 (p (by omega) (by omega) (by omega) (by omega)))
   by_cases O:u.k=8
   ·rw[ah.eq_def]at h
    have a:u.es.length=2∧∀e∈u.es,ah len e q.behind .type=true:=by simpa [O]using h
    exact mk (fun hk=>by omega) (all q.behind .type rfl (fun h=>absurd rfl h) a.2 (p (by omega) (by omega) (by omega) (by omega)))
   by_cases P:u.k=7
   ·rw[ah.eq_def]at h
    have a:bQ u.m (u.es.length+1)=true∧(u.v=false∨0<u.m∧(u.es.getD (u.m.toNat- 1) bP).k=4)∧∀e∈u.es,ah len e q.behind .type=true:=by
     simpa [P,and_assoc]using h
    exact mk (fun hk=>by omega) (all q.behind .type rfl (fun h=>absurd rfl h) a.2.2 (p (by omega) (by omega) (by omega) (by omega)))
   ·exfalso
    rw[ah.eq_def]at h;simp only[not_or]at r H J;simp[M,r,A,H,N,bC,J,O,P]at h
  have term:ah len u q .term=true→q.t=true→bc T i q.f (aN T' q.f u):=fun h l=>by
   have g:q.f=2:=by unfold Pc.f;simp[l]
   by_cases B:u.k=13
   ·rw[ah.eq_def]at h
    have a:u.es.length=1∧∀e∈u.es,ah len e q .type=true:=by simpa [B]using h
    exact mk (fun hk=>by omega) (all q .type rfl (fun h=>absurd rfl h) a.2 fun j _=>by unfold aI;rw[if_pos g,g])
   ·rw[ah.eq_def]at h
    simp only[B,if_false]at h;exact type h
  cases s with
  |type=>exact type h
  |term=>exact term h (L (by simp))
  |elem=>
   have l:=L (by simp);have g:q.f=2:=by unfold Pc.f;simp[l]
   by_cases C:u.k=12
   ·rw[ah.eq_def]at h
    have a:2≤u.es.length∧u.es.length≤8∧∀e∈u.es,ah len e q .term=true:=by simpa [C,and_assoc]using h
    exact mk (fun hk=>by omega) (all q .term rfl (fun _=>l) a.2.2 fun j _=>by unfold aI;rw[if_pos g,g])
   ·refine term ?_ l
    rw[ah.eq_def]at h⊢;simpa only[C,if_false]using h
theorem BW{l:List U}{j:Nat}(_hj:j<l.length)(n:Nat)(h:n<((cR l).take j).length):∃a:n<(cR l).length,((cR l).take j)[n]=(cR l)[n]:=by
 rw[List.length_take]at h;exact⟨by omega,by rw[List.getElem_take]⟩
theorem jX{p:Pm}{D:Dl}{T:List U}(hT:dX p D T):∀(u:U)(f:Nat){a:Option Addr}{c:Nat},ai p D u a c→ai p D (aN T f u) a c
 | .mk k n m v nm tg es un,f,a,c,h=>by
   simp only[ai,aN]at h⊢;refine⟨by rw[ns];exact h.1,lM es f k m 0 h.2.1,fun h1 h2 h3=> ?_⟩;obtain⟨l,d,e,_⟩:=h.2.2 h1 h2 h3;refine⟨l,d,e,?_⟩;rw[if_neg (by omega)];split
   ·cases o:T[n.toNat]? with
    |none=>simp only[Option.toList_none,ef]
    |some t=>
     obtain⟨g,i⟩:=List.getElem?_eq_some_iff.1 o;obtain⟨q,d',j,a',c',h7,b⟩:=hT n.toNat g;rw[e]at j;simp only[Option.some.injEq,Addr.mk.injEq]at j;obtain⟨rfl,rfl,_⟩:=j;simp only[Option.toList_some,ef];rw[i]at h7 b;exact⟨a',c',h7,b⟩
   ·simp only[ef]
where lM:∀(l:List U)(f:Nat)(k m:Int)(i:Nat){a:Option Addr},aw p D l a→aw p D (fP T f k m i l) a
 | [],f,k,m,i,a,h=>by simp only[fP];exact h
 |e::r,f,k,m,i,a,h=>by
  simp only[aw,fP]at h⊢
  obtain⟨b,o,ha,⟨a',c',h7,hu⟩,hr⟩:=h
  refine⟨b,o,ha,⟨a',c',?_,jX hT e _ hu⟩,lM r f k m (i+1) hr⟩
  unfold cO at h7⊢
  rw[cG,fQ,eR,lB,iW,nr,cj]
  exact h7
theorem o4{p:Pm}{b o:Nat}{u:U}{a:Option Addr}{c:Nat}(T:List U)(f:Nat)(h7:cO p b o u a c):cO p b o (aN T f u) a c:=by
 unfold cO at h7⊢;rw[cG,fQ,eR,lB,iW,nr,cj];exact h7
theorem tJ{p:Pm}{D:Dl}{ds:List aH}(h:cU p D ds):∀j,j≤ds.length→dX p D (cR ((ds.take j).map aH.un))
 |0,_=>fun n i=>by simp[cR]at i
 |j+1,r=>fun n i=>by
  have ih:=tJ h j (by omega);have f:j<ds.length:=by omega
  have k:(ds.take (j+1)).map aH.un=(ds.take j).map aH.un++ [ds[j].un]:=by rw[List.take_succ_eq_append_getElem f,List.map_append];rfl
  rw[gR]at i;simp only[List.length_map,List.length_take]at i;have l:(cR ((ds.take j).map aH.un)).length=j:=by rw[gR];simp;omega
  by_cases m:n<j
  ·obtain⟨q,d,e,a,c,h7,hu⟩:=ih n (by omega)
   have g:(cR ((ds.take (j+1)).map aH.un))[n]'(by rw[gR];simp;omega)=(cR ((ds.take j).map aH.un))[n]'(by omega):=by
    simp only[k,jW];rw[List.getElem_append_left (by omega)]
   exact⟨q,d,e,a,c,by rw[g];exact h7,by rw[g];exact hu⟩
  ·obtain rfl:n=j:=by omega
   obtain⟨b,o,e,a,c,s,t,h7,_,hu,_⟩:=h.at' n f;have g:(cR ((ds.take (n+1)).map aH.un))[n]'(by rw[gR];simp;omega)=aN (cR ((ds.take n).map aH.un)) 1 ds[n].un:=by
    simp only[k,jW];rw[List.getElem_append_right (by omega)];simp[l]
   exact⟨b,o,e,a,c,by rw[g];exact o4 _ _ h7,by rw[g];exact jX ih _ _ hu⟩
theorem BX{p:Pm}{D:Dl}{ds:List aH}(h:cU p D ds):dX p D (cR (ds.map aH.un)):=by
 have:=tJ h ds.length (Nat.le_refl _);rwa [List.take_length]at this
def aR(ds:List aH):List U:=cR (ds.map aH.un)
theorem dg(ds:List aH):(aR ds).length=ds.length:=by unfold aR;rw[gR];simp
theorem jY(ds:List aH)(j:Nat)(a:j<ds.length):(aR ds)[j]'(by rw[dg];exact a)=aN ((aR ds).take j) 1 ds[j].un:=by
 unfold aR;rw[BV (ds.map aH.un) j (by simpa using a)];simp
end TS
namespace Go.Proofs.YtgbklbbknehefaaGreatDoor
open Go.RowKit TS
theorem o5{len:Nat}{ds:List aH}:∀j,(o:j≤ds.length)→(∀k(h:k<ds.length),k<j→dq len k ds[k]=true)→∀k(h:k<j),ke len ((aR ds)[k]'(by rw[dg];omega))∧bc (aR ds) k 1 ((aR ds)[k]'(by rw[dg];omega))
 |0,_,_,k,h=>by omega
 |j+1,o,m,k,h=>by
  have ih:=o5 j (by omega) (fun k h1 h2=>m k h1 (by omega));by_cases e:k<j
  ·exact ih k e
  ·obtain rfl:k=j:=by omega
   have a:k<ds.length:=by omega
   have g:=m k a (by omega);unfold dq at g;simp only[Bool.and_eq_true,Bool.not_eq_true',Bool.or_eq_false_iff,decide_eq_false_iff_not,beq_eq_false_iff_ne]at g;obtain⟨⟨⟨⟨⟨d1,d2⟩,d3⟩,b⟩,_⟩,_⟩:=g;have c:((aR ds).take k).length=k:=by rw[List.length_take,dg];omega
   have d:∀t∈(aR ds).take k,ke len t:=fun t p=>by
    obtain⟨i,hi,rfl⟩:=List.getElem_of_mem p;rw[List.getElem_take];exact(ih i (by omega)).1
   rw[jY ds k a];have r:(⟨(k:Int),true,false⟩:Pc).f=1:=rfl;refine⟨⟨by rw[cG];omega,by rw[cG];omega,by rw[cG];exact d2,?_⟩,?_⟩
   ·have:=qe d ds[k].un ⟨k,true,false⟩ .type b (by simp[c]) (fun h=>absurd rfl h)
    exact this
   ·have:=tI (T:=aR ds) (T':=(aR ds).take k) k (by omega) (fun n q=>BW (l:=ds.map aH.un) (by simpa using a) n q) ds[k].un ⟨k,true,false⟩ .type b (by simp[c]) (fun h=>absurd rfl h)
    exact this
end Go.Proofs.YtgbklbbknehefaaGreatDoor
namespace TS
open Go Go.RowKit
theorem BY{NS:List (List UInt8)}(h:errorName.toList∈NS)(a:ByteArray.empty.toList∈NS):Names NS aF:=by
 rw[Names];refine⟨fun e he=> ?_,fun e he=>by simp[aF,U.un]at he⟩;simp only[aF,U.es,List.mem_singleton]at he;subst he;refine⟨h,?_⟩;rw[Names];refine⟨fun e he=> ?_,fun e he=>by simp[U.un]at he⟩;simp only[U.es,List.mem_singleton]at he;subst he;exact⟨a,qj rfl rfl⟩
theorem tK{NS:List (List UInt8)}(h:errorName.toList∈NS)(b:ByteArray.empty.toList∈NS){T:List U}(hT:∀t∈T,Names NS t):∀(u:U)(f:Nat),Names NS u→Names NS (aN T f u):=by
 intro u;induction u using U.bg with
 |_ u ih=>
  intro f c;rw[Names];refine⟨fun e he=> ?_,fun e he=> ?_⟩
  ·obtain⟨j,a,rfl⟩:=List.getElem_of_mem he
   rw[gj,iW];rw[cj]at a;have:=c.es (List.getElem_mem a);exact⟨this.1,ih _ (U.au (List.getElem_mem a)) _ this.2⟩
  ·rw[iX]at he
   split at he
   ·simp only[List.mem_singleton]at he;subst he;exact BY h b
   ·split at he
    ·obtain⟨d,rfl⟩:=List.getElem?_eq_some_iff.1 (Option.mem_toList.1 he)
     exact hT _ (List.getElem_mem d)
    ·cases he
theorem lf{u:U}{n:Nat}(h1:∀e∈u.es,e.dep≤n)(h2:∀e∈u.un,e.dep≤n):u.dep≤n+1:=by
 rw[U.ks];have key:∀(l:List U)(m:Nat),m≤n→(∀e∈l,e.dep≤n)→l.foldl (fun n e=>max n e.dep) m≤n:=by
  intro l;induction l with
  |nil=>exact fun m hm _=>hm
  |cons a r ih=>intro m hm h;exact ih _ (Nat.max_le.2 ⟨hm,h a List.mem_cons_self⟩) fun e he=>h e (List.mem_cons_of_mem _ he)
 have:=key u.es _ (key u.un 0 (Nat.zero_le _) h2) h1;omega
theorem BZ:aF.dep≤3:=by
 refine lf (n:=2) (fun e he=> ?_) fun e he=>by simp[aF,U.un]at he
 simp only[aF,U.es,List.mem_singleton]at he;subst he;refine lf (n:=1) (fun e he=> ?_) fun e he=>by simp[U.un]at he
 simp only[U.es,List.mem_singleton]at he;subst he;exact lf (n:=0) (fun e he=>by simp[cS,U.es]at he) fun e he=>by simp[cS,U.un]at he
theorem tL{T:List U}{M:Nat}(hT:∀t∈T,t.dep≤M):∀(u:U)(f:Nat),(aN T f u).dep≤u.dep+M+3:=by
 intro u;induction u using U.bg with
 |_ u ih=>
  intro f;have c:=u.nV;refine Nat.le_trans (lf (n:=u.dep+M+2) (fun e he=> ?_) fun e he=> ?_) (by omega)
  ·obtain⟨j,a,rfl⟩:=List.getElem_of_mem he
   rw[gj];rw[cj]at a;have h1:=ih _ (U.au (List.getElem_mem a)) (aI u j f);have h2:=U.ku (List.getElem_mem a);omega
  ·rw[iX]at he
   split at he
   ·simp only[List.mem_singleton]at he;subst he;have:=BZ;omega
   ·split at he
    ·obtain⟨b,rfl⟩:=List.getElem?_eq_some_iff.1 (Option.mem_toList.1 he)
     have:=hT _ (List.getElem_mem b);omega
    ·cases he
structure Raw(NS:List (List UInt8))(ds:List aH):Prop where
 err:errorName.toList∈NS
 emp:ByteArray.empty.toList∈NS
 cI:NS.length≤1048576
 un:∀d∈ds,Names NS d.un∧d.un.dep≤1048576
 ms:∀d∈ds,∀m∈d.ms,Names NS m.sig∧m.sig.dep≤1048576
 len:ds.length≤1048576
theorem B3{NS:List (List UInt8)}{ds:List aH}(R:Raw NS ds):∀j(h:j<ds.length),Names NS ((aR ds)[j]'(by rw[dg];exact h))∧((aR ds)[j]'(by rw[dg];exact h)).dep≤(j+1)*1048579:=by
 intro j;induction j using Nat.strongRecOn with
 |_ j ih=>
  intro h;have a:∀t∈(aR ds).take j,Names NS t∧t.dep≤j*1048579:=fun t b=>by
   obtain⟨i,hi,rfl⟩:=List.getElem_of_mem b;rw[List.length_take]at hi;rw[List.getElem_take];have:=ih i (by omega) (by omega);exact⟨this.1,Nat.le_trans this.2 (Nat.mul_le_mul_right _ (by omega))⟩
  rw[jY ds j h];have c:=R.un _ (List.getElem_mem h);refine⟨tK R.err R.emp (fun t b=>(a t b).1) _ _ c.1,?_⟩;have:=tL (M:=j*1048579) (fun t b=>(a t b).2) ds[j].un 1;have:=c.2;rw[Nat.add_mul];omega
theorem lg{NS:List (List UInt8)}{ds:List aH}(R:Raw NS ds){t:U}(h:t∈aR ds):Names NS t∧t.dep≤1099514773504:=by
 obtain⟨j,a,rfl⟩:=List.getElem_of_mem h;rw[dg]at a;have h1:=B3 R j a;have h2:=R.len;refine⟨h1.1,Nat.le_trans h1.2 ?_⟩;have:(j+1)*1048579≤1048576*1048579:=Nat.mul_le_mul_right _ (by omega);omega
def bV(ds:List aH):List aH:=ds.mapIdx fun i d=>⟨aN ((aR ds).take i) 1 d.un,d.ms.map fun m=>⟨m.nm,m.ptr,aN ((aR ds).take i) 0 m.sig⟩⟩
theorem eM(ds:List aH):(bV ds).length=ds.length:=by simp[bV]
theorem gD(ds:List aH)(i:Nat)(h:i<ds.length):(bV ds)[i]'(by rw[eM];exact h)=⟨(aR ds)[i]'(by rw[dg];exact h),ds[i].ms.map fun m=>⟨m.nm,m.ptr,aN ((aR ds).take i) 0 m.sig⟩⟩:=by
 rw[jY ds i h];simp[bV]
theorem mN{p:Pm}{D:Dl}{ds:List aH}(h:cU p D ds):dX p D (aR ds):=BX h
theorem dX.take{p:Pm}{D:Dl}{T:List U}(h:dX p D T)(i:Nat):dX p D (T.take i):=fun n a=>by
 rw[List.length_take]at a;rw[List.getElem_take];exact h n (by omega)
theorem o6{p:Pm}{D:Dl}{ds:List aH}(h:cU p D ds):cU p D (bV ds):=by
 refine⟨h.spot,by rw[eM];exact h.len,h.kb,fun i hi=> ?_⟩;rw[eM]at hi;obtain⟨b,o,e,a,c,d,f,h7,g,hu,h1,h2,hm⟩:=h.at' i hi;have hT:=(mN h).take i;rw[gD ds i hi];refine⟨b,o,e,a,c,d,f,?_,?_,?_,?_,h2,?_⟩
 ·simp only;rw[jY ds i hi];exact o4 _ _ h7
 ·simpa using g
 ·simp only;rw[jY ds i hi];exact jX hT _ _ hu
 ·simpa using h1
 ·refine⟨fun k hk=> ?_⟩
  simp only[List.length_map]at hk;obtain⟨j,l,m,m1,m2,m3,a',c',m4,m5⟩:=hm.at' k hk;simp only[List.getElem_map];exact⟨j,l,m,m1,m2,m3,a',c',o4 _ _ m4,jX hT _ _ m5⟩
def fm(T:List U)(d:aH):Bool:=mt T .type d.un true&&d.ms.all fun m=>mt T .type m.sig false
end TS
namespace Go.Proofs.YtgbklbbknehefaaGreatDoor
open Go.RowKit TS
theorem o7{D:Dl}{ds:List aH}{NS:List (List UInt8)}(R:Raw NS ds)(hlen:ds.length=D.len)(c:∀k(h:k<ds.length),dq D.len k ds[k]=true)(i:Nat)(hm:∀j(h:j<(aR ds).length),j<i→mt (aR ds) .type (aR ds)[j] true=true):
 Env D (aR ds) NS i where
 len:=by rw[dg];exact hlen
 ok:=fun t b=>by
  obtain⟨j,a,rfl⟩:=List.getElem_of_mem b;rw[dg]at a;exact(o5 ds.length (Nat.le_refl _) (fun k h _=>c k h) j a).1
 bB:=fun j a=>by
  rw[dg]at a;exact(o5 ds.length (Nat.le_refl _) (fun k h _=>c k h) j a).2
 mt:=hm
 aB:=fun t b=>(lg R b).1
 cI:=R.cI
theorem tM{D:Dl}{ds:List aH}{NS:List (List UInt8)}{i:Nat}(R:Raw NS ds)(E:Env D (aR ds) NS i)(hi:i<ds.length):b7 D (aR ds) NS i ((aR ds)[i]'(by rw[dg];exact hi)) 0 1 where
 pl:=(E.ok _ (List.getElem_mem _)).pl
 f2:=by omega
 bB:=E.bB i _
 aB:=E.aB _ (List.getElem_mem _)
 dep:=Nat.le_trans (lg R (List.getElem_mem _)).2 (by omega)
theorem o8{D:Dl}{T:List U}{NS:List (List UInt8)}{i:Nat}(E:Env D T NS i)(hi:i≤T.length)(he:errorName.toList∈NS)(g:ByteArray.empty.toList∈NS)(j:∀t∈T,t.dep≤1099514773504){u:U}{q:Pc}(k:q.d≤i)(a:ah D.len u q .type=true)(c:Names NS u)(e:u.dep≤1048576):
 b7 D T NS i (aN (T.take i) q.f u) 0 q.f where
 pl:=qe (fun t b=>E.ok t (List.mem_of_mem_take b)) u q .type a (by rw[List.length_take];omega) (fun h=>absurd rfl h)
 f2:=by unfold Pc.f;split<;>(try split)<;>omega
 bB:=tI (T:=T) (T':=T.take i) i (by rw[List.length_take];omega) (fun n c=>by rw[List.length_take]at c;exact⟨by omega,by rw[List.getElem_take]⟩) u q .type a (by rw[List.length_take];omega) (fun h=>absurd rfl h)
 aB:=tK he g (fun t b=>E.aB t (List.mem_of_mem_take b)) u q.f c
 dep:=Nat.le_trans (tL (M:=1099514773504) (fun t b=>j t (List.mem_of_mem_take b)) u q.f) (by omega)
end Go.Proofs.YtgbklbbknehefaaGreatDoor
namespace Go.Proofs.YtgbklbbknehefaaGreatDoor
open Go.RowKit TS Go.Shelf
attribute [local go_sem] Oper.semAt_some
theorem Ct(tb n c i f:Nat)(a:Option Addr)(w:World)(j:i<n)(hi:n≤1099511627776)(k:w.cell? ⟨tb,0,none⟩=some (.slice a n c))(d:∃b o,a=some ⟨b,o,none⟩∧w.cell? ⟨b,o+i,none⟩=some (.pointer (some ⟨f,0,none⟩))):
 Calls Tryz.prog 163 #[.pointer (some ⟨tb,0,none⟩),.int .i64 i] w fun e g=>e= .returned (.pointer (some ⟨f,0,none⟩))∧w=g:=by
 obtain⟨b,o,rfl,l⟩:=d;have h:(i:Int)<n:=by omega
 go_enter Tryz.func163,Tryz.ntmps163;go_wp2_with fail
 go_ret;exact⟨rfl,rfl⟩
theorem Cu(b:Nat)(k:Int)(w:World):Calls Tryz.prog 192 #[.iface 143 (.pointer (some ⟨b,0,none⟩)),.int .i64 k] w fun e h=>e= .returned (.bool false)∧w=h:=by
 obtain⟨K,fn,i,f,a,g,j,l,c⟩:=mi b w;have m:=fun args w=>Go.MuLone.run_callFunc_enter f a g args w;have d:=Lib.hid c;have n:∀W,(Instr.typeAssert (.iface 143 (.pointer (some ⟨b,0,none⟩))) 44 105 true).run Tryz.prog W= .ok (.tuple #[.pointer none,.bool false]) W:=fun W=>by rw[bn,if_neg (by decide)]
 clear c f a g;go_enter Tryz.func192,Tryz.ntmps192;go_wp2_with fail
 refine d.out.mono ?_;rintro _ _ ⟨rfl,rfl⟩;go_wp2_with fail
 go_ret;exact⟨rfl,rfl⟩
theorem Cv(b:Nat)(w:World):Calls Tryz.prog 165 #[.iface 143 (.pointer (some ⟨b,0,none⟩))] w fun e a=>e= .returned (.bool false)∧w=a:=by
 go_enter Tryz.func165,Tryz.ntmps165;go_wp2_with fail
 refine(Cu b 32 _).mono ?_;rintro _ _ ⟨rfl,rfl⟩;go_wp2_with fail
 go_ret;exact⟨rfl,rfl⟩
theorem Cw(b:Nat)(w:World):Calls Tryz.prog 164 #[.iface 143 (.pointer (some ⟨b,0,none⟩))] w fun e a=>e= .returned (.func (.func 190) #[] #[.pointer (some ⟨w.heap.size,0,none⟩)])∧a=w.alloc (.cells #[.iface 143 (.pointer (some ⟨b,0,none⟩))] 44):=by
 have c:∀(fn:Fn)(first cap:Array Value)(w:World),(Instr.makeFunc fn first cap).run Tryz.prog w= .ok (.func fn first cap) w:=fun _ _ _ _=>rfl;go_enter Tryz.func164,Tryz.ntmps164;go_wp2_with fail
 go_ret;exact⟨rfl,rfl⟩
abbrev bJ(b:Nat)(_:Unit):Array Value:=#[.iface 143 (.pointer (some ⟨b,0,none⟩)),.iface 143 (.pointer (some ⟨b,0,none⟩))]
theorem Cy{F:Fence}(a:F.depth=none)(k:Nat):F.room k:=fun d h=>by rw[a]at h;cases h
theorem Cz{F:Fence}(b:F.depth=none){m:Nat}(d:Nat){P:Program}{l:Nat}{args:Array Value}{W:World}{R:Ending→World→Prop}(h:YieldAt F m P l args W R):YieldAt F d P l args W R:=by
 obtain⟨fn,tmps,assign,body,e,a⟩:=h;exact⟨fn,tmps,assign,body,e,a.1,fun c cs _=>a.2 c cs (Cy b _)⟩
theorem CA(n l b:Nat)(W:World)(R:Ending→World→Prop)(j:YieldAt Fence.wide (n- 1) Tryz.prog l (bJ b ()) W fun e k=> ∃x,e= .returned (.bool x)∧R (.returned (.bool x)) k):
 CallsIn Fence.wide n Tryz.prog 191 #[.iface 143 (.pointer (some ⟨b,0,none⟩)),.func (.yield l) #[] #[]] W R:=by
 obtain⟨fn,tmps,assign,body,m,o⟩:=j;dsimp only[bJ]at m;obtain⟨K,p,q,d,a,f,r,s,c⟩:=mi b W;have t:=fun args w=>Go.MuLone.run_callFunc_enter d a f args w;have z:∀W,(Instr.typeAssert (.iface 143 (.pointer (some ⟨b,0,none⟩))) 44 232 true).run Tryz.prog W= .ok (.tuple #[.pointer none,.bool false]) W:=fun W=>by rw[oj,if_neg (by decide)]
 have u:∀n,CallsIn Fence.wide n Tryz.prog 114 #[.iface 143 (.pointer (some ⟨b,0,none⟩))] W fun e g=>e= .returned (.iface 143 (.pointer (some ⟨b,0,none⟩)))∧W=g:=fun n=>callsIn_wide.2 (ep _ _ (by decide) W);have v:∀n,CallsIn Fence.wide n Tryz.prog K #[.pointer (some ⟨b,0,none⟩)] W fun e g=>e= .returned (.iface 143 (.pointer (some ⟨b,0,none⟩)))∧W=g:=fun n=>callsIn_wide.2 c;clear d a f c;refine callsIn_of_wp Tryz.func191 rfl trivial ?_ rfl;simp only[Tryz.ntmps191,List.size_toArray,List.length_cons,List.length_nil,Nat.reduceAdd,Nat.reduceSub,Array.replicate_succ,Array.replicate_zero,List.push_toArray,List.append_toArray,List.nil_append,List.cons_append]
 gi_wp2_with (first
  |(refine⟨trivial,(fun h=>by cases h),?_⟩;gi_at_call 114;refine(u _).mono ?_;rintro e i ⟨rfl,rfl⟩)
  |(refine⟨trivial,(fun h=>by cases h),?_⟩;refine(v _).mono ?_;rintro e i ⟨rfl,rfl⟩)
  |(refine⟨(fun h=>by cases h),?_⟩;refine o.mono ?_;rintro e i ⟨x,rfl,y⟩))
 exact y
theorem CB(n g b B:Nat)(w:World)(a:B<w.heap.size)(i:w.cell? ⟨B,0,none⟩=some (.iface 143 (.pointer (some ⟨b,0,none⟩)))):
 SeqStopsK Fence.wide n Tryz.prog 190 #[.pointer (some ⟨B,0,none⟩)] (bJ b) (Below g) (fun xs=>xs= [()]) (fun pre=>pre= [()]) 1 w:=fun l J j W k s o d q=>by
 have t:W.cell? ⟨B,0,none⟩=some (.iface 143 (.pointer (some ⟨b,0,none⟩))):=(k.cell (p:=⟨B,0,none⟩) a).trans i;have f:=d [] () W q (by decide);have r:∀m,CallsIn Fence.wide m Tryz.prog 191 #[.iface 143 (.pointer (some ⟨b,0,none⟩)),.func (.yield l) #[] #[]] W fun e c=>(∃v,e= .returned v)∧((∃xs,xs= [()]∧J xs c)∨∃pre,pre= [()]∧j pre c):=fun m=>
  CA m l b W _ (YieldAt.mono (Cz rfl (m- 1) f) fun e c h=>by
   rcases h with⟨rfl,h,_⟩|⟨rfl,h⟩
   ·exact⟨true,rfl,⟨_,rfl⟩,.inl ⟨_,rfl,h⟩⟩
   ·exact⟨false,rfl,⟨_,rfl⟩,.inr ⟨_,rfl,h⟩⟩)
 clear f d;refine callsIn_of_wp Tryz.func190 rfl trivial ?_ rfl;simp only[Tryz.ntmps190,List.size_toArray,List.length_cons,List.length_nil,Nat.reduceAdd,Nat.reduceSub,Array.replicate_succ,Array.replicate_zero,List.push_toArray,List.append_toArray,List.nil_append,List.cons_append];gi_wp2_with (refine⟨trivial,(fun h=>by cases h),?_⟩;gi_at_call 191;refine(r _).mono ?_;rintro e u ⟨⟨x,rfl⟩,h⟩)
 go_end0
 exact⟨⟨_,rfl⟩,h⟩
theorem CC(r q:Option Addr)(pb n c fl d:Nat)(a:Option Addr)(w:World)(hn:0<n)(j:n≤1099511627776)(F:w.cell? ⟨pb,0,none⟩=some (.slice a n c))(H:∃b o,a=some ⟨b,o,none⟩∧w.cell? ⟨b,o+(n- 1),none⟩=some (.pointer (some ⟨fl,0,none⟩)))
 (h3:w.cell? ⟨fl,3,none⟩=some (.iface 143 (.pointer (some ⟨d,0,none⟩)))):
 Calls Tryz.prog 123 #[.pointer r,.slice none 0 0,.slice none 0 0,.pointer (some ⟨pb,0,none⟩),.pointer q,.bool true] w fun e f=> ∃b,e= .returned (.pointer (some ⟨b,0,none⟩))∧w.heap.size≤b∧
  f.heap[b]?=some (.cells #[.pointer r,.pointer none,.pointer (some ⟨pb,0,none⟩),.pointer q,.bool true] 112 (0,0))∧Below w.heap.size w f:=by
 have N:∀m,CallsIn Fence.wide m Tryz.prog 162 #[.pointer (some ⟨pb,0,none⟩)] w fun e f=>e= .returned (.int .i64 n)∧w=f:=fun m=>callsIn_wide.2 (kP pb n c a w F);have O:∀m,CallsIn Fence.wide m Tryz.prog 163 #[.pointer (some ⟨pb,0,none⟩),.int .i64 ((n:Int)- 1)] w fun e f=>e= .returned (.pointer (some ⟨fl,0,none⟩))∧w=f:=fun m=>callsIn_wide.2 (by
  have:=Ct pb n c (n- 1) fl a w (by omega) j F H;rwa [show((n- 1:Nat):Int)=(n:Int)- 1 by omega]at this)
 have hT:∀m W,CallsIn Fence.wide m Tryz.prog 164 #[.iface 143 (.pointer (some ⟨d,0,none⟩))] W fun e f=>e= .returned (.func (.func 190) #[] #[.pointer (some ⟨W.heap.size,0,none⟩)])∧f=W.alloc (.cells #[.iface 143 (.pointer (some ⟨d,0,none⟩))] 44):=fun m W=>callsIn_wide.2 (Cw d W);have P:¬(n:Int)=0:=by omega
 have Q:(n:Int)≤1099511627776:=by omega
 clear F H;refine(callsIn_wide (n:=9)).1 ?_;refine callsIn_of_wp_marks Tryz.func123 rfl trivial ?_ rfl;simp only[Tryz.ntmps123,List.size_toArray,List.length_cons,List.length_nil,Nat.reduceAdd,Nat.reduceSub,Array.replicate_succ,Array.replicate_zero,List.push_toArray,List.append_toArray,List.nil_append,List.cons_append]
 gi_wp2_with (first
  |(refine⟨trivial,?_⟩;gi_at_call 162;refine(N _).mono ?_;rintro e C ⟨rfl,rfl⟩)
  |(refine⟨trivial,?_⟩;gi_at_call 163;refine(O _).mono ?_;rintro e C ⟨rfl,rfl⟩)
  |(refine⟨trivial,?_⟩;gi_at_call 164;refine(hT _ _).mono ?_;rintro e C ⟨rfl,rfl⟩))
 refine' wpIn_rangeFunc_ownF rfl (by decide) (gf:=190) (lb:=#[.pointer (some ⟨w.heap.size+1,0,none⟩)]) rfl trivial (enters_of Tryz.func190 (by kernel_rfl) rfl) (CB _ w.heap.size d (w.heap.size+1) _ (by simp) (by simp[go_sem])) belowK_t (belowK_b (by simp;omega)) (Below.refl _ _) (fun _=>rfl)
  (fun pre W=>(W.cell? ⟨w.heap.size,0,none⟩=some (if pre= []then .pointer none else .pointer (some ⟨d,0,none⟩))∧W.frozen? ⟨w.heap.size,0,none⟩=false)∧Below w.heap.size w W) (fun _ _ _=>False)
  (OwnFrom.and (Own.from (fun s A B row k I hr=>⟨Go.cell_kept k.1 I hr,(Go.frozen_kept k.1 I hr).trans k.2⟩) _) (ownFrom_below (Nat.le_refl _) (by simp;omega))) (fun _ _ _ _ _ k _ _=>k)
  ⟨⟨by simp[go_sem],by simp[go_sem]⟩,((Below.refl _ _).alloc (Nat.le_refl _) _).alloc (by simp) _⟩ _ ?assign ?body ?done ?stop
 case assign=>
  intro l x W K E;gi_wp2
  exact E
 case body=>
  rintro l pre x W ⟨⟨t,J⟩,u⟩ hl;obtain rfl:pre= []:=List.length_eq_zero_iff.1 (by omega);simp only[if_true]at t;obtain⟨K,R,S,v,g,y,T,L,i⟩:=mi d W;have U:=fun args w=>Go.MuLone.run_callFunc_enter v g y args w;have V:∀m,CallsIn (Fence.wide.inRound l) m Tryz.prog K #[.pointer (some ⟨d,0,none⟩)] W fun e f=>e= .returned (.iface 143 (.pointer (some ⟨d,0,none⟩)))∧W=f:=fun m=>CallsIn.inRound l (callsIn_wide.2 i);have X:∀m,CallsIn (Fence.wide.inRound l) m Tryz.prog 165 #[.iface 143 (.pointer (some ⟨d,0,none⟩))] W fun e f=>e= .returned (.bool false)∧W=f:=fun m=>CallsIn.inRound l (callsIn_wide.2 (Cv d W));have ax:∀W,(Instr.typeAssert (.iface 143 (.pointer (some ⟨d,0,none⟩))) 44 143 true).run Tryz.prog W= .ok (.tuple #[.pointer (some ⟨d,0,none⟩),.bool true]) W:=fun W=>by rw[asSlice,if_pos rfl]
  have Y:∀W:World,(binOp .eql 44 (.iface 143 (.pointer (some ⟨d,0,none⟩))) .nilIface).run Tryz.prog W= .ok (.bool false) W:=fun W=>by kernel_rfl
  clear v g y i
  gi_wp2_with (first
   |(refine⟨trivial,?_⟩;gi_at_call 165;refine(X _).mono ?_;rintro e C ⟨rfl,rfl⟩)
   |(refine⟨trivial,?_⟩;refine(V _).mono ?_;rintro e C ⟨rfl,rfl⟩))
  exact⟨KeepsOthers.setCell _ _ _,(Below.refl w.heap.size W).setCell (p:=⟨w.heap.size,0,none⟩) (Nat.le_refl _) _,⟨World.cell?_setCell_same' _ _ _ (by rw[t];rfl),by rw[World.frozen?_setCell];exact J⟩,u.setCell (p:=⟨w.heap.size,0,none⟩) (Nat.le_refl _) _⟩
 case done=>
  rintro D ys W M rfl ⟨⟨t,J⟩,u⟩ E;have Z:W.cell? ⟨w.heap.size,0,none⟩=some (.pointer (some ⟨d,0,none⟩)):=t;clear t;have G:D<W.heap.size:=(Array.getElem?_eq_some_iff.1 E).1;gi_wp2
  have z:=(Below.heap_alloc W (.cells #[.pointer r,.pointer none,.pointer (some ⟨pb,0,none⟩),.pointer q,.bool true] 112) D G).trans E;refine⟨by simp,.inl ⟨_,_,rfl,run_takeDeferred z,?_⟩⟩;refine⟨_,results_tmp rfl _ _ _,W.heap.size,rfl,u.size,?_,?_⟩
  ·rw[World.putObj_heap_other (by omega)];exact(MapKept.heap_alloc W _).1
  ·exact(u.alloc u.size _).trans (belowK_b (w:=w) (Nat.le_refl _) _ D _ _ (by simp at M;omega) z rfl rfl)
 case stop=>
  rintro D c pre W M _ h _;exact h.elim
end Go.Proofs.YtgbklbbknehefaaGreatDoor
namespace Go.Proofs.YtgbklbbknehefaaGreatDoor
open Go.RowKit TS
theorem Dv(D:Dl)(dc:Nat)(NS:List (List UInt8))(j:NS.length≤1048576){t e:U}{C l E n:Nat}(o:Pl D.len t C l)(p:l≤2)(a:l≠0)(b:t.k≠12)(c:t.k≠13)
 (r:Pl D.len e E n)(s:n≤2)(d:n≠0)(g:e.k≠12)(h:e.k≠13)(u:Names NS t)(v:Names NS e)(w:∀f∈aj t,aM f)(x:∀m∈aj e,aM m):
 ∀f∈aj t,∀m∈aj e,∀q,jc q D dc f m:=fun f y m hm q=>by
 obtain⟨H,I,z,A⟩:=o.b4 p a b c f y;obtain⟨F,G,i,B⟩:=r.b4 s d g h m hm;exact kq D dc NS j f m _ _ _ _ A z (by omega) (by omega) B i (by omega) (by omega) (w f y) (x m hm) (u.b4 f y).2 (v.b4 m hm).2 q
theorem Dw(p:Pm)(D:Dl)(dc:Nat)(NS:List (List UInt8))(s:NS.length≤1048576)(lt:List U)(r:Option Addr)(cl:Nat)(e:U)(a:Option Addr)(c:Nat)(w:World)(t:Pl D.len e 2 2)
 (B:Names NS e)(C:lt.length≤1048576)(S:aw p D lt r)(E:aT e=true→∀f∈lt,∀m∈aj e,∀q,jc q D dc f m)(hu:ai p D e a c)(hw:KW p w)(u x:Nat)(nl:Nat)(i:nl=lt.length)
 (h1:w.cell? ⟨u,0,none⟩=some (.slice D.a D.len dc))(h2:w.cell? ⟨x,0,none⟩=some (.slice r nl cl)):
 Calls Tryz.prog 142 #[.agg #[.int .i64 e.k,.int .i64 e.n,.int .i64 e.m,.bool e.v,.string e.nm,.string e.tg,.slice a e.es.length c],.pointer (some ⟨u,0,none⟩),.pointer (some ⟨x,0,none⟩)] w (RB (aT e&& !hasB lt (aj e)) w):=by
 have b1:=World.block_lt_of_cell? _ _ h1;have O:=World.block_lt_of_cell? _ _ h2;simp only at b1 O;have ag:Up p w (w.alloc (.cells #[.int .i64 e.k,.int .i64 e.n,.int .i64 e.m,.bool e.v,.string e.nm,.string e.tg,.slice a e.es.length c] 25)):=(Up.refl hw).alloc _;have A:=fun W g=>lL p D dc e 2 2 a c W t (by omega) (by omega) hu g;have g1:(w.alloc (.cells #[.int .i64 e.k,.int .i64 e.n,.int .i64 e.m,.bool e.v,.string e.nm,.string e.tg,.slice a e.es.length c] 25)).drew.cell? ⟨u,0,none⟩=some (.slice D.a D.len dc):=by show(w.alloc _).cell? _=_;rw[World.cell?_alloc_lt _ _ _ b1];exact h1
 have g2:(w.alloc (.cells #[.int .i64 e.k,.int .i64 e.n,.int .i64 e.m,.bool e.v,.string e.nm,.string e.tg,.slice a e.es.length c] 25)).drew.cell? ⟨x,0,none⟩=some (.slice r nl cl):=by show(w.alloc _).cell? _=_;rw[World.cell?_alloc_lt _ _ _ O];exact h2
 cases he:aT e
 ·have j:=fun W g=>aP (A W g) he
  clear A he t E;go_enter Tryz.func142,Tryz.ntmps142;go_wp2_with fail
  refine oR (fun W=>W.cell? ⟨u,0,none⟩=some (.slice D.a D.len dc)∧W.cell? ⟨x,0,none⟩=some (.slice r nl cl)∧(W.cell? ⟨w.heap.size,0,none⟩=some (.int .i64 e.k)∧W.cell? ⟨w.heap.size,1,none⟩=some (.int .i64 e.n)∧W.cell? ⟨w.heap.size,2,none⟩=some (.int .i64 e.m)∧W.cell? ⟨w.heap.size,3,none⟩=some (.bool e.v)∧W.cell? ⟨w.heap.size,4,none⟩=some (.string e.nm)∧W.cell? ⟨w.heap.size,5,none⟩=some (.string e.tg)∧W.cell? ⟨w.heap.size,6,none⟩=some (.slice a e.es.length c))∧Up p w W) [(0,true),(1,true),(2,false),(3,true),(4,true),(5,true),(6,true),(7,true),(8,false),(9,false),(10,true),(11,true),(12,true)] oK (fun d=> ?_);repeat(first|(refine oS ?_;try simp only[Act.put,oa,ob,oc])|(refine oF d ?_;try simp only[Act.put,oa,ob,oc])|(refine oL fun K h=> ?_;go_simp;(go_at_call 138;(with_reducible refine(j _ (Up.kw (by first|assumption|exact ag.drew))).mono ?_);rintro F T ⟨rfl,aa⟩;(try simp only[]);refine h _ _ oK fun d=> ?_;clear h K;try simp only[Act.put,oa,ob,oc])))
  refine bR ?_;have G:=(ag.drew.step aa).up;clear aa d;go_wp2_with fail
  go_ret;exact⟨_,rfl,rfl,G⟩
 ·obtain⟨l,o,hi⟩:=jH.1 he
  have j:=fun W g=>aP (A W g) he;have y:=Lib.hid (E he);have P:=fun W (g:KW p W)=>jI D dc NS s e p 2 2 a c W t (by omega) (by omega) l o B hu g;have hle:(aj e).length≤1048576:=Nat.le_trans (hZ (ja t (by omega) (by omega) l o).noTwo fun m hm=>(B.b4 m hm).1) s;generalize aj e=le at*;have V:=Lib.hid fun(q:Pm) (X:Sub p q) a2 Q c2 (H:Q=le.length) (I:aw q D le a2) W (g:KW q W)=>qQ q D dc lt le r nl cl a2 Q c2 W i H C hle (aw.sub X _ S) I g fun f Y m hm=>y.out f Y m hm q;have R:=Lib.hid i;clear A he t E hi l o B y i;go_enter Tryz.func142,Tryz.ntmps142;go_wp2_with fail
  refine oR (fun W=>W.cell? ⟨u,0,none⟩=some (.slice D.a D.len dc)∧W.cell? ⟨x,0,none⟩=some (.slice r nl cl)∧(W.cell? ⟨w.heap.size,0,none⟩=some (.int .i64 e.k)∧W.cell? ⟨w.heap.size,1,none⟩=some (.int .i64 e.n)∧W.cell? ⟨w.heap.size,2,none⟩=some (.int .i64 e.m)∧W.cell? ⟨w.heap.size,3,none⟩=some (.bool e.v)∧W.cell? ⟨w.heap.size,4,none⟩=some (.string e.nm)∧W.cell? ⟨w.heap.size,5,none⟩=some (.string e.tg)∧W.cell? ⟨w.heap.size,6,none⟩=some (.slice a e.es.length c))∧Up p w W) [(0,true),(1,true),(2,false),(3,true),(4,true),(5,true),(6,true),(7,true),(8,false),(9,false),(10,true),(11,true),(12,true)] oK (fun d=> ?_);repeat(first|(refine oS ?_;try simp only[Act.put,oa,ob,oc])|(refine oF d ?_;try simp only[Act.put,oa,ob,oc])|(refine oL fun K h=> ?_;go_simp;first|(go_at_call 138;(with_reducible refine(j _ (Up.kw (by first|assumption|exact ag.drew))).mono ?_);rintro F T ⟨rfl,aa⟩;have Z:=aa;(try simp only[]);refine h _ _ oK fun d=> ?_;clear h K;try simp only[Act.put,oa,ob,oc])|(go_at_call 7;obtain⟨s1,s2,⟨t0,t1,t2,t3,t4,t5,t6⟩,z⟩:=d;(with_reducible refine(P _ z.kw).mono ?_);rintro F w3 ⟨q1,a1,n1,c1,rfl,J,L,M,N,aa⟩;clear P;(try simp only[]);refine h _ _ oK fun d=> ?_;clear h K;try simp only[Act.put,oa,ob,oc])|(go_at_call 143;obtain⟨s1,s2,⟨t0,t1,t2,t3,t4,t5,t6⟩,z⟩:=d;(with_reducible refine(V.out q1 L.le a1 n1 c1 J.out N _ M).mono ?_);rintro F w4 ⟨b,rfl,hb,aa⟩;(try simp only[]);refine h _ _ oK fun d=> ?_;clear h K;try simp only[Act.put,oa,ob,oc])))
  refine bR ?_;obtain⟨s1,s2,_,z⟩:=d;have G:=z.up;have hF:Hid ((!b)=(true&& !hasB lt le)):=by unfold Hid;rw[hb.out];rfl
  clear aa s1 s2 z;go_wp2_with fail
  go_ret;exact⟨_,rfl,hF.out,G⟩
theorem Dx(p:Pm)(D:Dl)(dc:Nat)(NS:List (List UInt8))(j:NS.length≤1048576)(t:U)(pt ft:Nat)(a:Option Addr)(c:Nat)(w:World)(hP:Pl D.len t pt ft)(A:ft≤2)(h:t.k=10)(z:Names NS t)
 (B:∀f∈aj t,aM f)(C:∀e∈t.es.drop t.m.toNat,aT e=true→∀m∈aj e,aM m)(hu:ai p D t a c)(hw:KW p w):
 Calls Tryz.prog 101 #[.slice D.a D.len dc,.agg #[.int .i64 t.k,.int .i64 t.n,.int .i64 t.m,.bool t.v,.string t.nm,.string t.tg,.slice a t.es.length c]] w (RB (fO t) w):=by
 obtain⟨f1,l,g,d⟩:=hP.iq A h;obtain⟨P7,I,h4⟩:=d.form.jG h;have hI:=Lib.hid fun e (he:e∈t.es.drop t.m.toNat) (u:aT e=true)=>Dv D dc NS j d l g (by omega) (by omega) (d.elem h he) (by omega) (by omega) (jH.1 u).1 (jH.1 u).2.1 z (z.es (List.mem_of_mem_drop he)).2 B (C e he u);have hE:=Lib.hid fun e he=>d.elem h (e:=e) he;have J:=Lib.hid fun e (he:e∈t.es.drop t.m.toNat)=>(z.es (List.mem_of_mem_drop he)).2;have hR:=fun W (K:KW p W)=>jI D dc NS j t p 0 f1 a c W d l g (by omega) (by omega) z hu K;have L:(aj t).length≤1048576:=Nat.le_trans (hZ (ja d l g (by omega) (by omega)).noTwo fun m hm=>(z.b4 m hm).1) j;have ag:Up p w ((w.alloc (.cells #[.slice D.a D.len dc] 22)).alloc (.cells #[.int .i64 t.k,.int .i64 t.n,.int .i64 t.m,.bool t.v,.string t.nm,.string t.tg,.slice a t.es.length c] 25)):=((Up.refl hw).alloc _).alloc _;have hF:Hid (fO t= !((t.es.drop t.m.toNat).any fun e=>aT e&& !hasB (aj t) (aj e))):=by
  unfold Hid fO;simp only[List.not_any_eq_all_not,Bool.not_and,Bool.not_not]
 obtain⟨r,hr⟩:∃r,r=fO t:=⟨_,rfl⟩
 rw[←hr]at hF⊢;clear hr;have s:=hu.cap;generalize aj t=lt at*;have P8:max t.m 0=t.m:=by omega
 have P6:t.m≤t.es.length:=by omega
 have P9:∀(fn:Fn)(first cap:Array Value)(w:World),(Instr.makeFunc fn first cap).run Tryz.prog w= .ok (.func fn first cap) w:=fun _ _ _ _=>rfl;have eg:=Lib.hid (show ∀args w,(callFunc 142 args).run Tryz.prog w= .ok (.enter 142 args) w from dI Tryz.func142 (by kernel_rfl) rfl);have M:=s.1;have x:t.m.toNat<c∨c=t.m.toNat:=by omega
 clear hP d l g A h B C z s;go_enter Tryz.func101,Tryz.ntmps101;go_wp2_with fail
 refine(hR _ ag.kw).mono ?_;rintro e1 o ⟨q,N,O,c1,rfl,P,Q,R,S,aa⟩;have T:=ag.step aa;obtain⟨x0,x1,x2,x3,x4,x5,x6⟩:(o.cell? ⟨w.heap.size+1,0,none⟩=some (.int .i64 t.k)∧o.cell? ⟨w.heap.size+1,1,none⟩=some (.int .i64 t.n)∧o.cell? ⟨w.heap.size+1,2,none⟩=some (.int .i64 t.m)∧o.cell? ⟨w.heap.size+1,3,none⟩=some (.bool t.v)∧o.cell? ⟨w.heap.size+1,4,none⟩=some (.string t.nm)∧o.cell? ⟨w.heap.size+1,5,none⟩=some (.string t.tg)∧o.cell? ⟨w.heap.size+1,6,none⟩=some (.slice a t.es.length c)):=by
  repeat' apply And.intro
  all_goals exact TS.cell_kept aa (by first|(simp[go_sem];done)|(go_keep;done))
 have c0:o.cell? ⟨w.heap.size,0,none⟩=some (.slice D.a D.len dc):=TS.cell_kept aa (by simp[go_sem]);clear hR aa ag;have V:=T.alloc (.cells #[.slice N O c1] 23);have E:=R.alloc (.cells #[.slice N O c1] 23);have X:=aw.sub Q.le _ hu.list;have Y:=Lib.hid fun W (K:KW q W) n (hn:n=(t.es.drop t.m.toNat).length) a2 c2 (F:aw q D (t.es.drop t.m.toNat) a2) lb H=>gK n q D (t.es.drop t.m.toNat) hn a2 c2 142 lb (fun e=>aT e&& !hasB lt (aj e)) W K F (by simp;omega) eg.out H;have b0:=World.block_lt_of_cell? _ _ c0;simp only at b0;have b6:=World.block_lt_of_cell? _ _ x0;simp only at b6;rcases x with x|rfl
 all_goals
  go_wp2_with fail
  have F:=X.nT I M;first|rw[if_pos x]at F|rw[if_neg (Nat.lt_irrefl _)]at F
  refine(Y.out _ E _ (by simp;try omega) _ _ F _ ?_).mono ?_
  ·intro i hi W a' c' y Z
   have he:=List.getElem_mem hi;exact Dw q D dc NS j lt N c1 _ a' c' W (hE.out _ he) (J.out _ he) L S (hI.out _ he) Z (E.grown y) _ o.heap.size O P.out (TS.cell_kept y (by rw[World.cell?_alloc_lt _ _ _ b0];exact c0)) (TS.cell_kept y (by simp[go_sem]))
  rintro e1 w2 ⟨b,rfl,hb,G⟩;have P4:=(V.step G).up;have P5:Hid ((!b)=r):=by unfold Hid;rw[hb.out];exact hF.out.symm
  clear G hb hF;go_wp2_with fail
  go_ret;exact⟨_,rfl,P5.out,P4⟩
theorem Dy(p:Pm)(D:Dl)(dc:Nat)(u:U)(pos f:Nat)(a:Option Addr)(c:Nat)(w:World)(g:Pl D.len u pos f)(hk:3≤u.k∧u.k≤9)(hu:ai p D u a c)(hw:KW p w):
 Calls Tryz.prog 15 #[.slice D.a D.len dc,.agg #[.int .i64 u.k,.int .i64 u.n,.int .i64 u.m,.bool u.v,.string u.nm,.string u.tg,.slice a u.es.length c]] w (RU p D u w):=by
 have h:=fun W hk=>lH p D u pos f a c W g hu hk;rw[ca (by omega) (by omega)]at h;have j:(u.k==11)=false:=by simp;omega
 have l:(u.k==15)=false:=by simp;omega
 clear g hk;go_enter Tryz.func15,Tryz.ntmps15;go_wp2_with fail
 refine(h _ ((hw.alloc _).alloc _)).mono ?_;rintro q r ⟨i,c1,rfl,d,aa⟩;obtain⟨e,o⟩:=iQ aa;obtain⟨s,t,x,y,z,A,B⟩:=((gW w u a c 25).alloc _).below aa;go_wp2_with fail
 refine bodyPost_ret (v:= .agg #[.int .i64 u.k,.int .i64 u.n,.int .i64 u.m,.bool u.v,.string u.nm,.string u.tg,.slice i u.es.length c1]) (by simp[results,Tryz.results15,go_sem,e]) rfl ?_;have b:=(((Below.refl w.heap.size w).alloc (Nat.le_refl _) _).alloc (by simp) _).trans (aa.mono (by simp;omega));refine⟨p,i,c1,rfl,.refl _ _,?_,d,?_⟩
 ·refine hw.grown ?_
  repeat(refine Below.setCell ?_ (by simp) _)
  exact b
 ·repeat(refine Below.setCell ?_ (by simp) _)
  exact b
theorem Dz(p:Pm)(D:Dl)(dc:Nat)(u:U)(pos f:Nat)(a:Option Addr)(c:Nat)(w:World)(e:Pl D.len u pos f)(hk:3≤u.k∧u.k≤9)(hu:ai p D u a c)(hw:KW p w):
 Calls Tryz.prog 59 #[.slice D.a D.len dc,.agg #[.int .i64 u.k,.int .i64 u.n,.int .i64 u.m,.bool u.v,.string u.nm,.string u.tg,.slice a u.es.length c]] w (RB (aW u) w):=by
 have g:=fun W h=>Dy p D dc u pos f a c W e hk hu h;have ag:Up p w ((w.alloc (.cells #[.slice D.a D.len dc] 22)).alloc (.cells #[.int .i64 u.k,.int .i64 u.n,.int .i64 u.m,.bool u.v,.string u.nm,.string u.tg,.slice a u.es.length c] 25)):=((Up.refl hw).alloc _).alloc _;have hF:Hid ((u.k==16)=aW u):=by
  have b:under u=u:=cB (by omega) (by omega) (by omega) (by omega);unfold Hid;rw[fD (by rw[b];omega),b]
 have bC:(u.k==10)=false:=by simp;omega
 generalize aW u=r at*;clear e hk;go_enter Tryz.func59,Tryz.ntmps59;go_wp2_with fail
 refine(g _ ag.kw).mono ?_;rintro l o ⟨q,s,c1,rfl,t,i,j,aa⟩;have d:=(ag.step aa).up;clear g aa;go_wp2_with fail
 go_ret;exact⟨_,rfl,hF,d.alloc d.size _⟩
theorem DA{D:Dl}{T:List U}{NS:List (List UInt8)}{i:Nat}(E:Env D T NS i)(p:Pm)(dc:Nat){u:U}{pos f:Nat}(h:b7 D T NS i u pos f)(h2:u.k≠2)(o:u.k≠10)(e:u.k≠12)(g:u.k≠13)
 (hT:dX p D T)(a:Option Addr)(c:Nat)(w:World)(hu:ai p D u a c)(hw:KW p w):
 Calls Tryz.prog 59 #[.slice D.a D.len dc,.agg #[.int .i64 u.k,.int .i64 u.n,.int .i64 u.m,.bool u.v,.string u.nm,.string u.tg,.slice a u.es.length c]] w (RB (aW (cQ T u)) w):=by
 by_cases l:u.k=11
 ·have y:=h.cQ E o h2 e g l
  obtain⟨q,z,A,B,C,F,G⟩:=qY T u;have:=kl D dc (cQ T u) p 0 1 a c w y (by omega) (by omega) (by rw[q];exact e) (by rw[q];exact g) (wT hT hu) hw;rw[q,z,A,B,C,F,G]at this;exact this
 ·rw[nv l]
  by_cases hk:3≤u.k∧u.k≤9
  ·exact Dz p D dc u pos f a c w h.pl hk hu hw
  ·have H:=h.pl.form.kinds
   have r:u.es= []:=by
    have s:=h.pl.form;cases s with
    |basic _ _ _ he=>exact he
    |pre _ he=>exact he
    |err _ he _=>exact he
    |one a _ _=>omega
    |ptr a _ _ _=>omega
    |_=>omega
   have t:Pl D.len u 0 1:=by
    refine eS ?_ (fun j x=>by rw[r]at x;simp at x) (fun h=>absurd h l);have s:=h.pl.form;cases s with
    |basic a b c d=>exact .basic a b c d
    |pre a b=>exact .pre a b
    |err a b c=>exact .err a b c
    |one a _ _=>omega
    |ptr a _ _ _=>omega
    |_=>omega
   exact kl D dc u p 0 1 a c w t (by omega) (by omega) e g hu hw
def gU(D:Dl)(dc:Nat)(T:List U)(NS:List (List UInt8))(i:Nat)(u:U):Prop:=
 ∀(g:Bool)(p:Pm)(pos f:Nat)(a:Option Addr)(c:Nat)(w:World),b7 D T NS i u pos f→u.k≠12→u.k≠13→dX p D T→ai p D u a c→KW p w→
  Calls Tryz.prog 28 #[.slice D.a D.len dc,.agg #[.int .i64 u.k,.int .i64 u.n,.int .i64 u.m,.bool u.v,.string u.nm,.string u.tg,.slice a u.es.length c],.bool g] w (RB (mt T .type u g) w)
theorem DB(p:Pm)(D:Dl)(dc:Nat)(u:U)(x:Bool)(a:Option Addr)(c:Nat)(w:World)(e:∀W,KW p W→Calls Tryz.prog 28 #[.slice D.a D.len dc,.agg #[.int .i64 u.k,.int .i64 u.n,.int .i64 u.m,.bool u.v,.string u.nm,.string u.tg,.slice a u.es.length c],.bool false] W (RB x W))(hw:KW p w)(f:Nat)
 (h1:w.cell? ⟨f,0,none⟩=some (.slice D.a D.len dc)):
 Calls Tryz.prog 104 #[.agg #[.int .i64 u.k,.int .i64 u.n,.int .i64 u.m,.bool u.v,.string u.nm,.string u.tg,.slice a u.es.length c],.pointer (some ⟨f,0,none⟩)] w (RB (!x) w):=by
 have b1:=World.block_lt_of_cell? _ _ h1;simp only at b1;have ag:Up p w (w.alloc (.cells #[.int .i64 u.k,.int .i64 u.n,.int .i64 u.m,.bool u.v,.string u.nm,.string u.tg,.slice a u.es.length c] 25)):=(Up.refl hw).alloc _;go_enter Tryz.func104,Tryz.ntmps104;go_wp2_with fail
 refine(e _ ag.kw).mono ?_;rintro h i ⟨b,rfl,g,aa⟩;have d:=(ag.step aa).up;have hF:Hid ((!b)= !x):=by unfold Hid;rw[g.out]
 clear g aa e;go_wp2_with fail
 go_ret;exact⟨_,rfl,hF,d⟩
theorem uy(p:Pm)(D:Dl)(dc:Nat)(T:List U)(es:List U)(a:Option Addr)(n c:Nat)(w:World)(o:n=es.length)
 (q:∀e∈es,∀a c W,ai p D e a c→KW p W→Calls Tryz.prog 28 #[.slice D.a D.len dc,.agg #[.int .i64 e.k,.int .i64 e.n,.int .i64 e.m,.bool e.v,.string e.nm,.string e.tg,.slice a e.es.length c],.bool false] W (RB (mt T .type e false) W))(u:aw p D es a)(x:(es.length:Int)≤1048576)(hw:KW p w):
 Calls Tryz.prog 60 #[.slice D.a D.len dc,.slice a n c] w (RB (es.all fun e=>mt T .type e false) w):=by
 have r:∀args w,(callFunc 104 args).run Tryz.prog w= .ok (.enter 104 args) w:=dI Tryz.func104 (by kernel_rfl) rfl;have y:=Lib.hid fun W (z:KW p W) lb H=>gK n p D es o a c 104 lb (fun e=> !mt T .type e false) W z u x r H;have s:es.any (fun e=> !mt T .type e false)= !es.all fun e=>mt T .type e false:=j_ _ _;have f:=Lib.hid s;have A:∀(fn:Fn)(first cap:Array Value)(w:World),(Instr.makeFunc fn first cap).run Tryz.prog w= .ok (.func fn first cap) w:=fun _ _ _ _=>rfl;have ag:Up p w (w.alloc (.cells #[.slice D.a D.len dc] 22)):=(Up.refl hw).alloc _;have g:=Lib.hid q;clear s q r o;go_enter Tryz.func60,Tryz.ntmps60;go_wp2_with fail
 refine(y.out _ ag.kw _ ?_).mono ?_
 ·intro i hi W a' c' d h
  exact DB p D dc es[i] _ a' c' W (fun B j=>g.out _ (List.getElem_mem hi) a' c' B h j) (ag.kw.grown d) _ (TS.cell_kept d (by simp))
 rintro C E ⟨b,rfl,t,aa⟩;have l:=(ag.step aa).up;have hF:Hid ((!b)=es.all fun e=>mt T .type e false):=by unfold Hid;rw[t.out,f.out];simp
 clear t aa;go_wp2_with fail
 go_ret;exact⟨_,rfl,hF,l⟩
end Go.Proofs.YtgbklbbknehefaaGreatDoor
