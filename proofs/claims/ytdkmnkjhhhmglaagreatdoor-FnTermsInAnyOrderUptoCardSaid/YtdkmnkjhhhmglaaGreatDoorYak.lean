import Derived.BigQuiet
import Derived.Deep.DeepCutAuto
import Derived.Test.YtdkmnkjhhhmglaaGreatDoorYaj
set_option maxRecDepth 100000
set_option maxHeartbeats 8000000
set_option linter.all false
namespace TS
open Go Go.RowKit
def cL(f m:U):Bool:=decide (f.nm.toList=m.nm.toList)
def bG(out:List U)(m:U):List U:=if out.any (fun f=>cL f m)then out else out++ [m]
def bC(a b:U):Bool:=Go.Op.bytesLess a.nm.toList b.nm.toList
def b7(l:List U):List U:=l.mergeSort fun a b=> !bC b a
theorem pT:∀l:List UInt8,Go.Op.bytesLess l l=false
 | []=>rfl
 |a::r=>by simp[Go.Op.bytesLess,pT r,UInt8.lt_irrefl]
theorem sV:∀{a b c:List UInt8},Go.Op.bytesLess a b=true→Go.Op.bytesLess b c=true→Go.Op.bytesLess a c=true
 |a,[],c,h,_=>by cases a<;>simp[Go.Op.bytesLess]at h
 |a,b::y,[],_,h=>by simp[Go.Op.bytesLess]at h
 | [],_,c::z,_,_=>by simp[Go.Op.bytesLess]
 |a::x,b::y,c::z,h,k=>by
  simp only[Go.Op.bytesLess,Bool.or_eq_true,decide_eq_true_eq,Bool.and_eq_true,beq_iff_eq]at*;rcases h with h|⟨rfl,h⟩<;>rcases k with k|⟨rfl,k⟩
  ·exact .inl (UInt8.lt_trans h k)
  ·exact .inl h
  ·exact .inl k
  ·exact .inr ⟨rfl,sV h k⟩
theorem sW:∀{a b:List UInt8},Go.Op.bytesLess a b=false→Go.Op.bytesLess b a=false→a=b
 | [],[],_,_=>rfl
 | [],b::y,h,_=>by simp[Go.Op.bytesLess]at h
 |a::x,[],_,h=>by simp[Go.Op.bytesLess]at h
 |a::x,b::y,h,k=>by
  simp only[Go.Op.bytesLess,Bool.or_eq_false_iff,decide_eq_false_iff_not,Bool.and_eq_false_iff,beq_eq_false_iff_ne,ne_eq]at*;have e:a=b:=by
   have h1:=UInt8.not_lt.1 h.1;have h2:=UInt8.not_lt.1 k.1;exact UInt8.le_antisymm h2 h1
  subst e;rw[sW (h.2.resolve_left (by simp)) (k.2.resolve_left (by simp))]
theorem gA(a:U):bC a a=false:=pT _
theorem im{a b c:U}(h:bC a b=true)(k:bC b c=true):bC a c=true:=sV h k
theorem kX{a b:U}(h:bC a b=false)(k:bC b a=false):cL a b=true:=by
 simp only[cL,decide_eq_true_eq];exact sW h k
theorem yX{a b:U}(h:cL a b=true):bC a b=false:=by
 simp only[cL,decide_eq_true_eq]at h;unfold bC;rw[h];exact pT _
theorem fE{a b:U}:cL a b=true↔a.nm.toList=b.nm.toList:=by simp[cL]
def ai(u:U):List U:=
 if(under u).k=10 then
  b7 (((under u).es.drop (under u).m.toNat).attach.foldl (fun out ⟨e,_⟩=>if aQ e then(ai e).foldl bG out else out) ((under u).es.take (under u).m.toNat))
 else []
termination_by u.sz
decreasing_by
 have h1:=U.az (List.mem_of_mem_drop ‹_›)
 have h2:=dE u
 omega
def bH(out:List U)(e:U):List U:=if aQ e then(ai e).foldl bG out else out
def dW(u:U):List U:=(u.es.drop u.m.toNat).foldl bH (u.es.take u.m.toNat)
theorem iq{u:U}(h:(under u).k=10):ai u=b7 (dW (under u)):=by
 rw[ai,if_pos h,dW];congr 1;rw[←List.foldl_attach (f:=bH)];rfl
theorem gB{u:U}(h:(under u).k≠10):ai u= []:=by rw[ai,if_neg h]
theorem yY{out:List U}{m x:U}(h:x∈bG out m):x∈out∨x=m:=by
 unfold bG at h;split at h
 ·exact .inl h
 ·simpa using h
theorem yZ{l:List U}:∀{out:List U}{x:U},x∈l.foldl bG out→x∈out∨x∈l:=by
 induction l with
 |nil=>exact fun h=> .inl h
 |cons m r ih=>
  intro out x h;rw[List.foldl_cons]at h;rcases ih h with h|h
  ·rcases yY h with h|rfl
   ·exact .inl h
   ·exact .inr List.mem_cons_self
  ·exact .inr (List.mem_cons_of_mem _ h)
theorem sX{l:List U}:∀{out:List U}{x:U},x∈l.foldl bH out→x∈out∨∃e∈l,aQ e=true∧x∈ai e:=by
 induction l with
 |nil=>exact fun h=> .inl h
 |cons e r ih=>
  intro out x h;rw[List.foldl_cons]at h;rcases ih h with h|⟨b,a,h⟩
  ·unfold bH at h
   split at h
   ·rename_i c
    rcases yZ h with h|h
    ·exact .inl h
    ·exact .inr ⟨e,List.mem_cons_self,c,h⟩
   ·exact .inl h
  ·exact .inr ⟨b,List.mem_cons_of_mem _ a,h⟩
theorem pU{l:List U}{x:U}:x∈b7 l↔x∈l:=List.mem_mergeSort
theorem iu{u x:U}(h:x∈ai u):(under u).k=10∧(x∈(under u).es.take (under u).m.toNat∨∃e∈(under u).es.drop (under u).m.toNat,aQ e=true∧x∈ai e):=by
 by_cases a:(under u).k=10
 ·rw[iq a,pU]at h
  exact⟨a,sX h⟩
 ·rw[gB a]at h;cases h
theorem iv:∀{u x:U},x∈ai u→x.sz<u.sz:=by
 intro u;induction u using U.bg with
 |_ u ih=>
  intro x h;have hu:=dE u;rcases(iu h).2 with h|⟨e,he,_,h⟩
  ·have:=U.az (List.mem_of_mem_take h);omega
  ·have h1:=U.az (List.mem_of_mem_drop he)
   have:=ih e (by omega) h;omega
def dG(l:List U):Prop:=l.Pairwise fun a b=>cL a b=false
theorem pV(a b:U):cL a b=cL b a:=by unfold cL;rw[Bool.eq_iff_iff];simp[eq_comm]
theorem sY{l:List U}(h:dG l)(m:U):dG (bG l m):=by
 unfold bG;split
 ·exact h
 ·rename_i c
  simp only[Bool.not_eq_true,List.any_eq_false]at c;unfold dG;rw[List.pairwise_append];exact⟨h,List.pairwise_singleton _ _,fun a ha b d=>by simp at d;subst d;simpa using c a ha⟩
theorem y7{r:List U}:∀{l:List U},dG l→dG (r.foldl bG l):=by
 induction r with
 |nil=>exact fun h=>h
 |cons m r ih=>exact fun h=>ih (sY h m)
theorem y8{l:List U}(h:dG l)(e:U):dG (bH l e):=by
 unfold bH;split
 ·exact y7 h
 ·exact h
theorem nQ{r:List U}:∀{l:List U},dG l→dG (r.foldl bH l):=by
 induction r with
 |nil=>exact fun h=>h
 |cons m r ih=>exact fun h=>ih (y8 h m)
def dF(l:List U):Prop:=l.Pairwise fun a b=>bC a b=true
theorem dF.noTwo{l:List U}(h:dF l):dG l:=h.imp fun{a b} c=>by
 cases d:cL a b
 ·rfl
 ·rw[yX d]at c;cases c
theorem pW{l:List U}(h:dG l):dF (b7 l):=by
 have i:(b7 l).Pairwise fun a b=>(!bC b a)=true:=List.pairwise_mergeSort (le:=fun a b=> !bC b a)
  (fun a b c h1 h2=>by
   simp only[Bool.not_eq_true']at*;cases e:bC c a
   ·rfl
   ·cases d:bC a b
    ·cases f:bC b c
     ·have j:=fE.1 (kX d h1)
      unfold bC at*;rw[j]at e;rw[e]at h2;cases h2
     ·have:=im f e;rw[this]at h1;cases h1
    ·have:=im e d;rw[this]at h2;cases h2)
  (fun a b=>by
   cases h1:bC b a
   ·simp
   ·cases h2:bC a b
    ·simp
    ·have:=im h1 h2;rw[gA]at this;cases this) l
 have k:dG (b7 l):=(List.mergeSort_perm l _).symm.pairwise h fun{a b} d=>by rw[pV];exact d
 exact(i.and k).imp fun{a b} ⟨h1,h2⟩=>by
  cases d:bC a b
  ·have:=kX d (by simpa using h1);rw[this]at h2;cases h2
  ·rfl
theorem sZ:∀{l r:List U},l.Perm r→dF l→dF r→l=r
 | [],r,c,_,_=>by simpa using c.symm
 |a::l,[],c,_,_=>by simp at c
 |a::l,b::r,c,i,hr=>by
  have d:=List.pairwise_cons.1 i;have f:=List.pairwise_cons.1 hr;have e:a=b:=by
   rcases List.mem_cons.1 (c.subset List.mem_cons_self:a∈b::r)with e|h
   ·exact e
   ·rcases List.mem_cons.1 (c.symm.subset List.mem_cons_self:b∈a::l)with e|j
    ·exact e.symm
    ·have h1:=f.1 a h
     have h2:=d.1 b j;have:=im h1 h2;rw[gA]at this;cases this
  subst e;rw[sZ (List.perm_cons _|>.1 c) d.2 f.2]
theorem pX{l r:List U}(h:dG l)(a:l.Perm r)(hr:dF r):r=b7 l:=
 sZ (a.symm.trans (List.mergeSort_perm l _).symm) hr (pW h)
def aU(x y:U):Bool:=
 if x.k=1∨x.k=3∨x.k=9∨x.k=11 then x.n==y.n
 else if x.k=7 then x.m==y.m&&x.v==y.v
 else if x.k=5 then(x.es.zip y.es).all fun(e,f)=>decide (e.nm.toList=f.nm.toList)&&decide (e.tg.toList=f.tg.toList)
 else true
def aB(x y:U):Bool:=
 (bare x).k==(bare y).k&&(decide ((bare x).es.length=(bare y).es.length)||(bare x).k==10)&&
 if(bare x).k=10 then
  !aZ (bare x)&& !aZ (bare y)&&decide ((ai (bare x)).length=(ai (bare y)).length)&&
   (ai (bare y)).all fun m=>(ai (bare x)).attach.any fun⟨f,_⟩=>cL f m&&aB f m
 else aU (bare x) (bare y)&&((bare x).es.attach.zip (bare y).es).all fun(⟨e,_⟩,f)=>aB e f
termination_by x.sz
decreasing_by
 ·have h1:=iv ‹_›
  have h2:=lX x
  omega
 ·have h1:=U.az (u:=bare x) ‹_›
  have h2:=lX x
  omega
def hasB(l want:List U):Bool:=want.all fun m=>l.any fun f=>cL f m&&aB f m
theorem y9{α β:Type}(l:List α)(r:List β)(f:α→β→Bool):(l.attach.zip r).all (fun(⟨e,_⟩,g)=>f e g)=(l.zip r).all fun(e,g)=>f e g:=by
 have h:l.zip r=(l.attach.zip r).map fun(x:{a // a∈l}×β)=>(x.1.1,x.2):=by
  rw[show(fun(x:{a // a∈l}×β)=>(x.1.1,x.2))=Prod.map Subtype.val id from rfl,←List.zip_map_left,List.attach_map_subtype_val]
 rw[h,List.all_map];rfl
theorem kc{x y:U}(h:(bare x).k=10):aB x y=((bare y).k==10&&(!aZ (bare x)&& !aZ (bare y)&&decide ((ai (bare x)).length=(ai (bare y)).length)&&hasB (ai (bare x)) (ai (bare y)))):=by
 rw[aB,if_pos h,h,hasB];simp[Bool.beq_comm,eq_comm]
theorem kd{x y:U}(h:(bare x).k≠10):aB x y=((bare x).k==(bare y).k&&decide ((bare x).es.length=(bare y).es.length)&&(aU (bare x) (bare y)&&((bare x).es.zip (bare y).es).all fun(e,f)=>aB e f)):=by
 have a:((bare x).k==10)=false:=by simp[h]
 rw[aB,if_neg h,←y9,a,Bool.or_false]
def aR(u:U):Prop:=aZ u=false∧(∀e,∀_:e∈u.es,aR e)∧∀e,∀_:e∈ai u,aR e
termination_by u.sz
decreasing_by
 ·exact U.az ‹_›
 ·exact iv ‹_›
theorem aR.gen{u:U}(h:aR u):aZ u=false:=by rw[aR]at h;exact h.1
theorem aR.es{u e:U}(h:aR u)(he:e∈u.es):aR e:=by rw[aR]at h;exact h.2.1 e he
theorem aR.cv{u e:U}(h:aR u)(he:e∈ai u):aR e:=by rw[aR]at h;exact h.2.2 e he
theorem s_:aR bt:=by
 have hu:under bt=bt:=by rw[ik]<;>rw[cu]<;>decide
 rw[aR];refine⟨?_,fun e he=>by simp[bt,U.es]at he,fun e he=> ?_⟩
 ·rw[iS (by rw[hu];rfl),hu];rfl
 ·have:=(iu he).2;rw[hu]at this;simp[bt,U.es]at this
theorem aR.bare{len:Nat}:∀{u:U}{pos f:Nat},Pl len u pos f→aR u→aR (bare u):=by
 intro u;induction u using U.bg with
 |_ u ih=>
  intro pos f b h;by_cases h2:u.k=2
  ·obtain⟨e,he⟩:=dD (b.form.fS h2)
   have c:=b.part 0 (by rw[b.form.fS h2];omega);have d:u.es[0]'(by rw[b.form.fS h2];omega)=e:=by simp[he]
   rw[d]at c;rw[kb h2 he];exact ih e (U.az (by rw[he];simp)) c (h.es (by rw[he];simp))
  ·by_cases a:u.k=14
   ·rw[gq a];exact s_
   ·rw[cu h2 a];exact h
def aC(x:U):U:=if x.k=13 then x.es.headD x else x
def eu(x y:U):Bool:=
 if isIface (aC x)||isIface (aC y)then true
 else if x.k=13 then !aB (aC x) (under (aC y))
 else if y.k=13 then !aB (under (aC x)) (aC y)
 else !aB (aC x) (aC y)
def dH(u:U):List U:=(u.es.drop u.m.toNat).flatMap fun e=>if e.k=12 then e.es else [e]
theorem jq{u x:U}(h:x∈dH u):x.sz<u.sz:=by
 obtain⟨e,he,a⟩:=List.mem_flatMap.1 h;have h1:=U.az (List.mem_of_mem_drop he);split at a
 ·have:=U.az a;omega
 ·simp at a;subst a;exact h1
def bT(u:U):Int:=
 if(under u).k=10 then
  (dH (under u)).attach.foldl (fun n ⟨x,_⟩=>if 50<n then n else if x.k==13|| !isIface x then n+1 else n+bT x) 0
 else 1
termination_by u.sz
decreasing_by
 have h1:=jq ‹_›
 have h2:=dE u
 omega
def bD(n:Int)(x:U):Int:=if 50<n then n else if x.k==13|| !isIface x then n+1 else n+bT x
theorem jr{u:U}(h:(under u).k=10):bT u=(dH (under u)).foldl bD 0:=by
 rw[bT,if_pos h,←List.foldl_attach (f:=bD)];rfl
theorem pY{u:U}(h:(under u).k≠10):bT u=1:=by rw[bT,if_neg h]
def eU(t:U):Bool:=(t.es.drop t.m.toNat).all fun e=> !aQ e||hasB (ai t) (ai e)
def pZ(u:U)(un:List U):U:=match u with| .mk k n m v nm tg es _=> .mk k n m v nm tg es un
def du(T:List U)(u:U):U:=if u.k=11 then pZ u (T[u.n.toNat]?).toList else u
def mt(T:List U)(s:Pt)(u:U)(g:Bool):Bool:=
 match s with
 | .elem=>
   if u.k=12 then(u.es.attach.all fun⟨x,_⟩=>mt T .term x false&& !(aQ x&&(decide (0<(ai x).length)||fj x)))&&decide (u.es.Pairwise fun y x=>eu x y=true)&&g
   else mt T .term u false&&(g||aQ u&& !aZ u)
 | .term=>
   if u.k=13 then u.es.attach.all fun⟨e,_⟩=>mt T .type e false&& !isIface e&&aB e (under e)
   else mt T .type u (isIface u)
 | .type=>
   if u.k=2 then u.es.attach.all fun⟨e,_⟩=>mt T .type e g
   else if u.k=10 then((u.es.drop u.m.toNat).attach.all fun⟨e,_⟩=>mt T .elem e g)&&(((u.es.take u.m.toNat).attach.all fun⟨e,_⟩=>mt T .type e false)&&eU u&&decide (bT u≤50))
   else(g|| !aZ (du T u))&&u.es.attach.all fun⟨e,_⟩=>mt T .type e false
termination_by (u.sz,match s with| .type=>0| .term=>1| .elem=>2)
decreasing_by
 all_goals first
  |exact Prod.Lex.right _ (by decide)
  |exact Prod.Lex.left _ _ (U.az ‹_›)
  |exact Prod.Lex.left _ _ (U.az (List.mem_of_mem_take ‹_›))
  |exact Prod.Lex.left _ _ (U.az (List.mem_of_mem_drop ‹_›))
theorem y_{α:Type}(l:List α)(f:α→Bool):(l.attach.all fun x=>f x.1)=l.all f:=by
 conv=>rhs;rw[←List.attach_map_subtype_val l,List.all_map]
 rfl
section
variable {T:List U} {u:U} {g:Bool}
theorem lY(h:u.k=12):mt T .elem u g=((u.es.all fun x=>mt T .term x false&& !(aQ x&&(decide (0<(ai x).length)||fj x)))&&decide (u.es.Pairwise fun y x=>eu x y=true)&&g):=by
 rw[mt,if_pos h,←y_ u.es fun x=>mt T .term x false&& !(aQ x&&(decide (0<(ai x).length)||fj x))]
theorem js(h:u.k≠12):mt T .elem u g=(mt T .term u false&&(g||aQ u&& !aZ u)):=by rw[mt];simp[h]
theorem lZ(h:u.k=13):mt T .term u g=u.es.all fun e=>mt T .type e false&& !isIface e&&aB e (under e):=by rw[mt];simp[h]
theorem fF(h:u.k≠13):mt T .term u g=mt T .type u (isIface u):=by rw[mt];simp[h]
theorem l8(h:u.k=2):mt T .type u g=u.es.all fun e=>mt T .type e g:=by rw[mt];simp[h]
theorem iw(h:u.k=10):mt T .type u g=(((u.es.drop u.m.toNat).all fun e=>mt T .elem e g)&&(((u.es.take u.m.toNat).all fun e=>mt T .type e false)&&eU u&&decide (bT u≤50))):=by rw[mt];simp[h]
theorem l9(h:u.k≠2)(a:u.k≠10):mt T .type u g=((g|| !aZ (du T u))&&u.es.all fun e=>mt T .type e false):=by rw[mt];simp[h,a]
end
def cm(k m:Int)(i f:Nat):Nat:=if f=2 then 2 else if k=10∧m.toNat≤i then 2 else if f=1∧(k=2∨k=3∨k=5)then 1 else 0
theorem za(u:U)(i f:Nat):cm u.k u.m i f=aN u i f:=rfl
mutual
def aL(T:List U)(f:Nat):U→U
 | .mk k n m v nm tg es _=> .mk k n m v nm tg (fo T f k m 0 es) (if k=15 then [aI]else if k=11∧f≠0 then(T[n.toNat]?).toList else [])
def fo(T:List U)(f:Nat)(k m:Int)(i:Nat):List U→List U
 | []=> []
 |e::r=>aL T (cm k m i f) e::fo T f k m (i+1) r
end
section
variable (T:List U) (f:Nat)
theorem cZ(u:U):(aL T f u).k=u.k:=by cases u;rfl
theorem gO(u:U):(aL T f u).n=u.n:=by cases u;rfl
theorem fT(u:U):(aL T f u).m=u.m:=by cases u;rfl
theorem nR(u:U):(aL T f u).v=u.v:=by cases u;rfl
theorem ke(u:U):(aL T f u).nm=u.nm:=by cases u;rfl
theorem p7(u:U):(aL T f u).tg=u.tg:=by cases u;rfl
theorem kY(u:U):(aL T f u).es=fo T f u.k u.m 0 u.es:=by cases u;rfl
theorem kg(u:U):(aL T f u).un=(if u.k=15 then [aI]else if u.k=11∧f≠0 then(T[u.n.toNat]?).toList else []):=by cases u;rfl
theorem p8(k m:Int)(l:List U):∀i,(fo T f k m i l).length=l.length:=by
 induction l with
 |nil=>exact fun _=>rfl
 |cons e r ih=>intro i;simp[fo,ih]
theorem cO(u:U):(aL T f u).es.length=u.es.length:=by rw[kY,p8]
theorem th(k m:Int):∀(l:List U)(i j:Nat)(h:j<l.length),(fo T f k m i l)[j]'(by rw[p8];exact h)=aL T (cm k m (i+j) f) l[j]
 |e::r,i,0,h=>by simp[fo]
 |e::r,i,j+1,h=>by
  simp only[fo,List.getElem_cons_succ];rw[th k m r (i+1) j (by simpa using h)];congr 2;omega
theorem iz(u:U)(j:Nat)(h:j<(aL T f u).es.length):(aL T f u).es[j]=aL T (aN u j f) (u.es[j]'(by rw[cO]at h;exact h)):=by
 have:=th T f u.k u.m u.es 0 j (by rw[cO]at h;exact h);simp only[kY,this,Nat.zero_add,za]
end
def Pc.f(q:Pc):Nat:=if q.t then 2 else if q.v then 1 else 0
def Pt.n:Pt→Nat| .type=>0| .term=>1| .elem=>2
theorem ti:∀{l:List U},eK l=true→∀e∈l,e.k=7∧aM e.nm=true
 | [],_,e,he=>by cases he
 |a::r,h,e,he=>by
  simp only[eK,Bool.and_eq_true,beq_iff_eq]at h;rcases List.mem_cons.1 he with rfl|he
  ·exact⟨h.1.1.1,h.1.1.2⟩
  ·exact ti h.2 e he
theorem tj:∀{l:List U},eK l=true→dF l
 | [],_=>List.Pairwise.nil
 |a::r,h=>by
  simp only[eK,Bool.and_eq_true]at h;have ih:=tj h.2;refine List.pairwise_cons.2 ⟨fun b d=> ?_,ih⟩;cases r with
  |nil=>cases d
  |cons c r=>
   rcases List.mem_cons.1 d with rfl|d
   ·exact h.1.2
   ·exact im (a:=a) (b:=c) h.1.2 ((List.pairwise_cons.1 ih).1 b d)
structure l_(len:Nat)(t:U):Prop where
 lo:1≤t.k
 hi:t.k≤10
 kZ:t.k≠2
 pl:Pl len t 0 1
theorem fU{len:Nat}{u:U}{pos f:Nat}(h1:Form len u pos f)(h2:∀i(h:i<u.es.length),Pl len u.es[i] (aV u i) (aN u i f))
 (h3:u.k=11→∀e∈u.un,(1≤e.k∧e.k≤10∧e.k≠2)∧Pl len e 0 1):Pl len u pos f:=by
 rw[Pl];exact⟨h1,h2,h3⟩
theorem zc(T:List U)(f:Nat)(u:U)(j:Nat)(e:U)(h:e∈(aL T f u).es.take j):∃x∈u.es.take j,e.k=x.k∧e.nm=x.nm:=by
 obtain⟨i,hi,rfl⟩:=List.getElem_of_mem h;rw[List.length_take,cO]at hi;rw[List.getElem_take,iz T f u i (by rw[cO];omega),cZ,ke];refine⟨u.es[i]'(by omega),?_,rfl,rfl⟩;rw[show u.es[i]'(by omega)=(u.es.take j)[i]'(by rw[List.length_take];omega) by rw[List.getElem_take]];exact List.getElem_mem _
theorem zd(T:List U)(f:Nat)(u:U)(e:U)(h:e∈(aL T f u).es):∃x∈u.es,e.k=x.k∧e.nm=x.nm:=by
 obtain⟨i,hi,rfl⟩:=List.getElem_of_mem h;rw[iz,cZ,ke];exact⟨_,List.getElem_mem _,rfl,rfl⟩
theorem tk{α:Type}(T:List U)(f:Nat)(u:U)(g:ByteArray→α):(aL T f u).es.map (fun e=>g e.nm)=u.es.map fun e=>g e.nm:=by
 refine List.ext_getElem (by simp[cO]) fun i h1 h2=> ?_;rw[List.getElem_map,List.getElem_map,iz,ke]
theorem tm(T:List U)(f i:Nat)(u:U):aV (aL T f u) i=aV u i:=by unfold aV;rw[cZ,fT]
theorem p9(T:List U)(f i g:Nat)(u:U):aN (aL T f u) i g=aN u i g:=by unfold aN;rw[cZ,fT]
theorem tu{len:Nat}{T:List U}(hT:∀t∈T,l_ len t):∀(u:U)(q:Pc)(s:Pt),ah len u q s=true→q.d≤T.length→(s≠ .type→q.t=true)→Pl len (aL T q.f u) s.n q.f:=by
 intro u;induction u using U.bg with
 |_ u ih=>
  intro q s h hd hs;have F:q.f≤2:=by unfold Pc.f;split<;>(try split)<;>omega
  have G:q.behind.f=if q.f=2 then 2 else 0:=by
   unfold Pc.f Pc.behind;cases q.t<;>simp;cases q.v<;>simp
  have O:q.inside.f=2:=by unfold Pc.f Pc.inside;simp
  have parts:∀(D:Pc)(H:Pt),D.d=q.d→(H≠ .type→D.t=true)→(∀e∈u.es,ah len e D H=true)→(∀i,i<u.es.length→aV u i=H.n∧aN u i q.f=D.f)→
   ∀i(hi:i<(aL T q.f u).es.length),Pl len (aL T q.f u).es[i] (aV (aL T q.f u) i) (aN (aL T q.f u) i q.f):=by
   intro D H hq P hp E i hi;rw[cO]at hi;rw[iz T q.f u i (by rw[cO];exact hi),tm,p9,(E i hi).1,(E i hi).2];exact ih _ (U.az (List.getElem_mem hi)) D H (hp _ (List.getElem_mem hi)) (by omega) P
  have c:u.k≠11→(aL T q.f u).k=11→∀e∈(aL T q.f u).un,(1≤e.k∧e.k≤10∧e.k≠2)∧Pl len e 0 1:=fun h1 h2=>absurd (by rw[cZ]at h2;exact h2) h1;have j:u.k≠10→u.k≠12→∀i,aV u i=0:=fun h1 h2 i=>by unfold aV;rw[if_neg h2,if_neg (by omega)]
  have y:u.k≠10→u.k≠2→u.k≠3→u.k≠5→∀i,aN u i q.f=q.behind.f:=fun h1 h2 h3 h5 i=>by
   rw[G];unfold aN;split
   ·rfl
   ·rw[if_neg (by omega),if_neg (by omega)]
  have type:ah len u q .type=true→∀pos,Pl len (aL T q.f u) pos q.f:=by
   intro h pos;by_cases Q:u.k=1
   ·rw[ah.eq_def]at h;simp only[Q,if_true,Bool.and_eq_true,decide_eq_true_eq,b4,List.length_eq_zero_iff]at h
    exact fU (.basic (by rw[cZ];exact Q) (by rw[gO];omega) (by rw[gO];omega) (by rw[kY,h.2];rfl)) (fun i hi=>by rw[cO,h.2]at hi;simp at hi) (c (by omega))
   by_cases z:u.k=14∨u.k=15∨u.k=16
   ·have he:u.es= []:=by
     rw[ah.eq_def]at h;rcases z with e|e|e<;>simpa [e,List.length_eq_zero_iff]using h
    refine fU ?_ (fun i hi=>by rw[cO,he]at hi;simp at hi) (c (by omega));by_cases I:u.k=15
    ·exact .err (by rw[cZ];exact I) (by rw[kY,he];rfl) (by rw[kg,if_pos I])
    ·exact .pre (by rw[cZ];omega) (by rw[kY,he];rfl)
   by_cases p:u.k=11
   ·rw[ah.eq_def]at h
    simp only[p,Int.reduceEq,if_false,or_self,if_true,Bool.and_eq_true,Bool.or_eq_true,Bool.not_eq_true',decide_eq_true_eq,b4,List.length_eq_zero_iff]at h;obtain⟨⟨⟨h0,h1⟩,h2⟩,he⟩:=h;have hu:=kg T q.f u;rw[if_neg (by omega)]at hu;have l:q.f≠0→u.n.toNat<T.length:=fun A=>by
     have:u.n<q.d:=by
      rcases h2 with⟨R,r⟩|h2
      ·exfalso;apply A;unfold Pc.f;simp[R,r]
      ·exact h2
     omega
    refine fU (.named (by rw[cZ];exact p) (by rw[gO];exact h0) (by rw[gO];exact h1) (by rw[kY,he];rfl) ?_ ?_) (fun i hi=>by rw[cO,he]at hi;simp at hi) ?_
    ·rw[hu];split
     ·cases T[u.n.toNat]?<;>simp
     ·simp
    ·intro A
     rw[hu,if_pos ⟨p,A⟩,List.getElem?_eq_getElem (l A)];simp
    ·intro _ e hm
     rw[hu]at hm;split at hm
     ·rename_i L
      rw[List.getElem?_eq_getElem (l L.2)]at hm;simp only[Option.toList_some,List.mem_singleton]at hm;have:=hT e (by rw[hm];exact List.getElem_mem _);exact⟨⟨this.lo,this.hi,this.kZ⟩,this.pl⟩
     ·cases hm
   by_cases M:u.k=2∨u.k=3
   ·rw[ah.eq_def]at h
    have g:0≤u.n∧u.es.length=1∧∀e∈u.es,ah len e q .type=true:=by
     rcases M with e|e<;>simpa [e,and_assoc]using h
    refine fU (.one (by rw[cZ];exact M) (by rw[gO];exact g.1) (by rw[cO];exact g.2.1)) (parts q .type rfl (fun h=>absurd rfl h) g.2.2 fun i _=>⟨j (by omega) (by omega) i,ij F (by omega) i⟩) (c (by omega))
   by_cases V:u.k=5
   ·rw[ah.eq_def]at h
    have g:fm u.es=true∧∀e∈u.es,ah len e q .type=true:=by simpa [V]using h
    unfold fm at g;simp only[Bool.and_eq_true,decide_eq_true_eq]at g;refine fU (.struct (by rw[cZ];exact V) (fun e he=> ?_) ?_) (parts q .type rfl (fun h=>absurd rfl h) g.2 fun i _=>⟨j (by omega) (by omega) i,ij F (by omega) i⟩) (c (by omega))
    ·obtain⟨x,W,_,J⟩:=zd T q.f u e he
     rw[J];exact g.1.1 x W
    ·have:=tk T q.f u (fun s=>s)
     rw[show((aL T q.f u).es.map U.nm)=u.es.map U.nm from this];refine List.Pairwise.of_map (S:=fun a b=>a≠b) ByteArray.toList (fun a b X he=>X (by rw[he])) ?_;rw[List.map_map];exact g.1.2
   by_cases bU:u.k=10
   ·rw[ah.eq_def]at h
    have g:b4 u.m (u.es.length+1)=true∧(u.es.length- u.m≤4)∧eK (u.es.take u.m.toNat)=true∧(∀e∈u.es.take u.m.toNat,ah len e q.behind .type=true)∧∀e∈u.es.drop u.m.toNat,ah len e q.inside .elem=true:=by
     simpa [bU,and_assoc]using h
    obtain⟨hm,Y,L,r,Z⟩:=g;simp only[b4,Bool.and_eq_true,decide_eq_true_eq]at hm;have PM:u.m.toNat≤u.es.length:=by omega
    refine fU (.iface (by rw[cZ];exact bU) (by rw[fT];omega) (by rw[fT,cO];omega) (by rw[fT,cO];omega) (fun e he=> ?_) ?_) (fun i hi=> ?_) (c (by omega))
    ·rw[fT]at he
     obtain⟨x,W,hk,J⟩:=zc T q.f u _ e he;rw[hk,J];exact ti L x W
    ·have ho:=tj L
     rw[fT,List.map_take,show((aL T q.f u).es.map U.nm)=u.es.map U.nm from tk T q.f u (fun s=>s),←List.map_take,List.pairwise_map];exact ho
    ·rw[cO]at hi
     rw[iz T q.f u i (by rw[cO];exact hi),tm,p9];by_cases l:i<u.m.toNat
     ·have E:aV u i=0:=by unfold aV;rw[if_neg (by omega),if_neg (by omega)]
      have B:aN u i q.f=q.behind.f:=by
       rw[G];unfold aN;split
       ·rfl
       ·rw[if_neg (by omega),if_neg (by omega)]
      rw[E,B];refine ih _ (U.az (List.getElem_mem hi)) q.behind .type (r _ ?_) hd (fun h=>absurd rfl h);rw[show u.es[i]=(u.es.take u.m.toNat)[i]'(by rw[List.length_take];omega) by rw[List.getElem_take]];exact List.getElem_mem _
     ·have E:aV u i=2:=by unfold aV;rw[if_neg (by omega),if_pos ⟨bU,by omega⟩]
      have B:aN u i q.f=q.inside.f:=by
       rw[O];unfold aN;split
       ·rfl
       ·rw[if_pos ⟨bU,by omega⟩]
      rw[E,B];refine ih _ (U.az (List.getElem_mem hi)) q.inside .elem (Z _ ?_) hd (fun _=>rfl);rw[show u.es[i]=(u.es.drop u.m.toNat)[i- u.m.toNat]'(by rw[List.length_drop];omega) by rw[List.getElem_drop];congr 1;omega];exact List.getElem_mem _
   by_cases N:u.k=4∨u.k=6∨u.k=9
   ·rw[ah.eq_def]at h
    have g:b4 u.n 3=true∧u.es.length=1∧∀e∈u.es,ah len e q.behind .type=true:=by
     rcases N with e|e|e<;>simpa [e,and_assoc]using h
    have J:=g.1;simp only[b4,Bool.and_eq_true,decide_eq_true_eq]at J;exact fU (.ptr (by rw[cZ];exact N) (by rw[gO];omega) (by rw[gO];omega) (by rw[cO];exact g.2.1)) (parts q.behind .type rfl (fun h=>absurd rfl h) g.2.2 fun i _=>⟨j (by omega) (by omega) i,y (by omega) (by omega) (by omega) (by omega) i⟩) (c (by omega))
   by_cases k8:u.k=8
   ·rw[ah.eq_def]at h
    have g:u.es.length=2∧∀e∈u.es,ah len e q.behind .type=true:=by simpa [k8]using h
    exact fU (.map (by rw[cZ];exact k8) (by rw[cO];exact g.1)) (parts q.behind .type rfl (fun h=>absurd rfl h) g.2 fun i _=>⟨j (by omega) (by omega) i,y (by omega) (by omega) (by omega) (by omega) i⟩) (c (by omega))
   by_cases k7:u.k=7
   ·rw[ah.eq_def]at h
    have g:b4 u.m (u.es.length+1)=true∧(u.v=false∨0<u.m∧(u.es.getD (u.m.toNat- 1) cg).k=4)∧∀e∈u.es,ah len e q.behind .type=true:=by
     simpa [k7,and_assoc]using h
    have hm:=g.1;simp only[b4,Bool.and_eq_true,decide_eq_true_eq]at hm;refine fU (.func (by rw[cZ];exact k7) (by rw[fT];omega) (by rw[fT,cO];omega) ?_) (parts q.behind .type rfl (fun h=>absurd rfl h) g.2.2 fun i _=>⟨j (by omega) (by omega) i,y (by omega) (by omega) (by omega) (by omega) i⟩) (c (by omega));rw[nR,fT];intro R;rcases g.2.1 with A|⟨h0,Y⟩
    ·rw[R]at A;cases A
    ·refine⟨by omega,fun l=> ?_⟩
     rw[iz,cZ];rw[cO]at l;rw[List.getD_eq_getElem?_getD,List.getElem?_eq_getElem l]at Y;exact Y
   ·exfalso
    rw[ah.eq_def]at h;simp only[not_or]at z M N;simp[Q,z,p,M,V,bU,N,k8,k7]at h
  have term:ah len u q .term=true→q.t=true→∀pos,pos=1∨pos=2→Pl len (aL T q.f u) pos q.f:=by
   intro h r pos K;have o:q.f=2:=by unfold Pc.f;simp[r]
   by_cases C:u.k=13
   ·rw[ah.eq_def]at h
    have g:u.es.length=1∧∀e∈u.es,ah len e q .type=true:=by simpa [C]using h
    refine fU (.lV (by rw[cZ];exact C) K (by rw[cO];exact g.1)) (parts q .type rfl (fun h=>absurd rfl h) g.2 fun i _=>⟨j (by omega) (by omega) i,?_⟩) (c (by omega));unfold aN;rw[if_pos o,o]
   ·rw[ah.eq_def]at h
    simp only[C,if_false]at h;exact type h pos
  cases s with
  |type=>exact type h 0
  |term=>exact term h (hs (by simp)) 1 (.inl rfl)
  |elem=>
   have r:=hs (by simp);have o:q.f=2:=by unfold Pc.f;simp[r]
   by_cases w:u.k=12
   ·rw[ah.eq_def]at h
    have g:2≤u.es.length∧u.es.length≤8∧∀e∈u.es,ah len e q .term=true:=by simpa [w,and_assoc]using h
    refine fU (.union (by rw[cZ];exact w) rfl (by rw[cO];exact g.1) (by rw[cO];exact g.2.1)) (parts q .term rfl (fun _=>r) g.2.2 fun i _=>⟨by unfold aV;rw[if_pos w];rfl,?_⟩) (c (by omega));unfold aN;rw[if_pos o,o]
   ·refine term ?_ r 2 (.inr rfl)
    rw[ah.eq_def]at h⊢;simpa only[w,if_false]using h
end TS
namespace Go.Proofs.YtdkmnkjhhhmglaaGreatDoor
open Go.RowKit TS
theorem iI(w:World):Calls Tryz.prog 125 #[.bool true] w fun e a=>e= .returned (.tuple #[])∧w=a:=by
 go_enter Tryz.func125,Tryz.ntmps125;go_wp2_with fail
 go_end0
 exact⟨rfl,rfl⟩
theorem Bn(b a:Nat)(s c:ByteArray)(w:World)(h:w.cell? ⟨b,0,none⟩=some (.string s))(f:w.cell? ⟨a,0,none⟩=some (.string c)):
 Calls Tryz.prog 141 #[.pointer (some ⟨b,0,none⟩),.pointer (some ⟨a,0,none⟩)] w fun e d=>e= .returned (.bool (s.toList==c.toList))∧∃n,d=w.drewN n:=by
 go_enter Tryz.func141,Tryz.ntmps141;go_wp2_with fail
 go_quiet (fail)
 go_wp2_with fail
 go_ret;exact⟨rfl,_,rfl⟩
theorem mO(w:World):Calls Tryz.prog 76 #[] w fun e a=>e= .returned (.slice (some ⟨w.heap.size+1,0,none⟩) 1 1)∧
 a=(w.alloc (.cells #[.bool false,.nilIface] 220)).alloc (.cells #[.pointer (some ⟨w.heap.size,0,none⟩)] 218):=by
 go_enter Tryz.func76,Tryz.ntmps76;go_wp2_with fail
 go_ret;exact⟨rfl,rfl⟩
theorem Bo(w:World):Calls Tryz.prog 122 #[] w fun e a=>e= .returned (.pointer (some ⟨w.heap.size+2,0,none⟩))∧
 a=((w.alloc (.cells #[.bool false,.nilIface] 220)).alloc (.cells #[.pointer (some ⟨w.heap.size,0,none⟩)] 218)).alloc (.cells #[.bool false,.slice none 0 0,.slice (some ⟨w.heap.size+1,0,none⟩) 1 1,.bool false] 133):=by
 go_enter Tryz.func122,Tryz.ntmps122;go_wp2_with fail
 refine(mO _).mono ?_;rintro e a ⟨rfl,rfl⟩;go_wp2_with fail
 go_ret;exact⟨rfl,rfl⟩
abbrev dJ(ms es:Value)(comp:Bool)(a:Value):Array Value:=#[.pointer none,ms,es,.pointer none,.bool false,.bool comp,a]
theorem Bp(w:World):Calls Tryz.prog 37 #[] w fun e a=>e= .returned (.pointer (some ⟨w.heap.size+3,0,none⟩))∧
 a=(((w.alloc (.cells #[.bool false,.nilIface] 220)).alloc (.cells #[.pointer (some ⟨w.heap.size,0,none⟩)] 218)).alloc (.cells #[.bool false,.slice none 0 0,.slice (some ⟨w.heap.size+1,0,none⟩) 1 1,.bool true] 133)).alloc
  (.cells (dJ (.slice none 0 0) (.slice none 0 0) true (.pointer (some ⟨w.heap.size+2,0,none⟩))) 113):=by
 go_enter Tryz.func37,Tryz.ntmps37;go_wp2_with fail
 refine(mO _).mono ?_;rintro e a ⟨rfl,rfl⟩;go_wp2_with fail
 go_ret;exact⟨rfl,rfl⟩
theorem Bq(w:World):Calls Tryz.prog 182 #[.pointer none] w (Made (dJ (.slice none 0 0) (.slice none 0 0) false (.pointer none)) 113 w):=by
 go_enter Tryz.func182,Tryz.ntmps182;go_wp2_with fail
 go_ret;exact⟨rfl,rfl⟩
theorem Br(a a':Option Addr)(c c':Nat)(w:World):Calls Tryz.prog 140 #[.slice a 0 c,.slice a' 0 c'] w fun e b=>e= .returned (.pointer (some ⟨w.heap.size+3,0,none⟩))∧
 b=(((w.alloc (.cells #[.bool false,.nilIface] 220)).alloc (.cells #[.pointer (some ⟨w.heap.size,0,none⟩)] 218)).alloc (.cells #[.bool false,.slice none 0 0,.slice (some ⟨w.heap.size+1,0,none⟩) 1 1,.bool false] 133)).alloc
  (.cells (dJ (.slice none 0 0) (.slice none 0 0) true (.pointer (some ⟨w.heap.size+2,0,none⟩))) 113):=by
 go_enter Tryz.func140,Tryz.ntmps140;go_wp2_with fail
 refine(Bo _).mono ?_;rintro e b ⟨rfl,rfl⟩;go_wp2_with fail
 go_ret;exact⟨rfl,rfl⟩
theorem Bs(r p q:Option Addr)(w:World):Calls Tryz.prog 137 #[.pointer r,.slice none 0 0,.slice none 0 0,.pointer p,.pointer q,.bool false] w
 (Made #[.pointer r,.pointer none,.pointer p,.pointer q,.bool false] 106 w):=by
 go_enter Tryz.func137,Tryz.ntmps137;go_wp2_with fail
 go_ret;exact⟨rfl,rfl⟩
end Go.Proofs.YtdkmnkjhhhmglaaGreatDoor
namespace TS
open Go
def bw(w:World)(a:Option Addr)(n:Nat)(f:Nat→Nat):Prop:=∀i,i<n→∃b o,a=some ⟨b,o,none⟩∧w.cell? ⟨b,o+i,none⟩=some (.pointer (some ⟨f i,0,none⟩))
end TS
namespace Go.Proofs.YtdkmnkjhhhmglaaGreatDoor
open Go.RowKit TS
theorem Bt(b:Nat)(a:Option Addr)(n c:Nat)(f:Nat→Nat)(s:Nat→ByteArray)(nm:ByteArray)(w:World)(v:n≤1099511627776)(x:w.cell? ⟨b,9,none⟩=some (.slice a n c))(m:bw w a n f)
 (o:∀i,i<n→w.cell? ⟨f i,2,none⟩=some (.string (s i)))(g:∀i,i<n→((s i).toList==nm.toList)=false)(y:(nm.toList== [95])=false):
 Calls Tryz.prog 143 #[.pointer (some ⟨b,0,none⟩),.string nm,.bool false] w fun e q=>e= .returned (.int .i64 (-1))∧w=q:=by
 have j:=Lib.hid m;have l:=Lib.hid o;have h:=Lib.hid g;clear m o g;go_enter Tryz.func143,Tryz.ntmps143;go_wp2_with fail
 go_loopw [38] (fun i wr=> ∃k:Nat,k≤n∧i= .int .i64 k∧wr=w) (fun i _=>n- (intOf i).toNat)
 case atStart=>exact⟨0,Nat.zero_le _,rfl,rfl⟩
 case round=>
  obtain⟨k,hk,rfl,rfl⟩:=hrel;by_cases d:k<n
  ·have p:(k:Int)<n:=by omega
   obtain⟨z,A,rfl,B⟩:=j.out k d;have r:=l.out k d;have t:=h.out k d;go_wp2_with fail
   refine⟨⟨k+1,by omega,by go_num,trivial⟩,?_⟩;first|omega|(simp[intOf];omega)
  ·have u:¬(k:Int)<n:=by omega
   go_wp2_with fail
   go_ret;exact⟨rfl,rfl⟩
end Go.Proofs.YtdkmnkjhhhmglaaGreatDoor
namespace Go.Proofs.YtdkmnkjhhhmglaaGreatDoor
open Go.RowKit TS
def Bu(k:Nat)(w:World)(e:Ending)(a:World):Prop:=∃b,e= .returned (.pointer (some ⟨b,0,none⟩))∧w.heap.size≤b∧b<a.heap.size∧a.cell? ⟨b,0,none⟩=some (.int .i64 k)∧Below w.heap.size w a∧∃cs T,a.heap[b]?=some (.cells cs T (0,0))
theorem qO{w:World}{cs:Array Value}{T:TypeId}{b:Nat}(h:b=w.heap.size):∃a T',(w.alloc (.cells cs T)).heap[b]?=some (.cells a T' (0,0)):=⟨cs,T,by subst h;show(w.heap.push _)[w.heap.size]?=_;simp⟩
theorem qP{w:World}{o:Obj}{b:Nat}(h:∃cs T,w.heap[b]?=some (.cells cs T (0,0))):∃cs T,(w.alloc o).heap[b]?=some (.cells cs T (0,0)):=by
 obtain⟨cs,T,h⟩:=h;exact⟨cs,T,(Below.heap_alloc _ _ _ (Array.getElem?_eq_some_iff.1 h).1).trans h⟩
theorem uW(k:Nat)(hk:k≤18)(w:World):
 Calls Tryz.prog 71 #[.int .i64 k] w (Bu k w):=by
 have d:=Lib.hid hk;clear hk;go_enter Tryz.func71,Tryz.ntmps71;go_upto_region 1 with fail
 go_cut [3] (fun l c=> ∃b,l= .slice (some ⟨b,0,none⟩) 26 26∧(∀k:Nat,k≤18→c.cell? ⟨b,k,none⟩=some (.pointer (some ⟨w.heap.size+k,0,none⟩))∧c.cell? ⟨w.heap.size+k,0,none⟩=some (.int .i64 k)∧∃cs T,c.heap[w.heap.size+k]?=some (.cells cs T (0,0)))∧Below w.heap.size w c)
 case first=>
  go_wp2_with fail
  go_meet
  refine⟨_,rfl,fun k hk=> ?_,?_⟩
  ·have:k=0∨k=1∨k=2∨k=3∨k=4∨k=5∨k=6∨k=7∨k=8∨k=9∨k=10∨k=11∨k=12∨k=13∨k=14∨k=15∨k=16∨k=17∨k=18:=by omega
   rcases this with rfl|rfl|rfl|rfl|rfl|rfl|rfl|rfl|rfl|rfl|rfl|rfl|rfl|rfl|rfl|rfl|rfl|rfl|rfl<;>refine⟨by simp[go_sem],by simp[go_sem],?_⟩<;>repeat(first|exact qO (by first|omega|(simp only[World.size_alloc];done)|(simp only[World.size_alloc];omega))|refine qP ?_)
  ·(repeat(first|with_reducible exact Below.refl _ _|with_reducible refine Below.setCell ?_ ?_ _|with_reducible refine Below.alloc ?_ ?_ _|with_reducible refine Below.drew ?_));all_goals (first|omega|(simp;done)|(simp;omega))
 case rest=>
  obtain⟨b,rfl,f,g⟩:=hcut;have a:=d.out;have h:(k:Int)<26:=by omega
  obtain⟨h1,h2,h3⟩:=f k a;have e:=Lib.hid h3;clear h3;clear f a;go_wp2_with fail
  go_ret;exact⟨_,rfl,by omega,World.block_lt_of_cell? _ _ h2,h2,g,e.out⟩
end Go.Proofs.YtdkmnkjhhhmglaaGreatDoor
