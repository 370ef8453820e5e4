import Derived.BigQuiet
import Derived.Deep.DeepCutAuto
import Derived.Test.YtkfaiocajcjomaaGreatDoorYaj
set_option maxRecDepth 100000
set_option maxHeartbeats 8000000
set_option linter.all false
namespace TS
open Go Go.RowKit
def cG(f m:U):Bool:=decide (f.nm.toList=m.nm.toList)
def bK(out:List U)(m:U):List U:=if out.any (fun f=>cG f m)then out else out++ [m]
def bp(a b:U):Bool:=Go.Op.bytesLess a.nm.toList b.nm.toList
def bZ(l:List U):List U:=l.mergeSort fun a b=> !bp b a
theorem nI:∀l:List UInt8,Go.Op.bytesLess l l=false
 | []=>rfl
 |a::r=>by simp[Go.Op.bytesLess,nI r,UInt8.lt_irrefl]
theorem qx:∀{a b c:List UInt8},Go.Op.bytesLess a b=true→Go.Op.bytesLess b c=true→Go.Op.bytesLess a c=true
 |a,[],c,h,_=>by cases a<;>simp[Go.Op.bytesLess]at h
 |a,b::y,[],_,h=>by simp[Go.Op.bytesLess]at h
 | [],_,c::z,_,_=>by simp[Go.Op.bytesLess]
 |a::x,b::y,c::z,h,k=>by
  simp only[Go.Op.bytesLess,Bool.or_eq_true,decide_eq_true_eq,Bool.and_eq_true,beq_iff_eq]at*;rcases h with h|⟨rfl,h⟩<;>rcases k with k|⟨rfl,k⟩
  ·exact .inl (UInt8.lt_trans h k)
  ·exact .inl h
  ·exact .inl k
  ·exact .inr ⟨rfl,qx h k⟩
theorem qy:∀{a b:List UInt8},Go.Op.bytesLess a b=false→Go.Op.bytesLess b a=false→a=b
 | [],[],_,_=>rfl
 | [],b::y,h,_=>by simp[Go.Op.bytesLess]at h
 |a::x,[],_,h=>by simp[Go.Op.bytesLess]at h
 |a::x,b::y,h,k=>by
  simp only[Go.Op.bytesLess,Bool.or_eq_false_iff,decide_eq_false_iff_not,Bool.and_eq_false_iff,beq_eq_false_iff_ne,ne_eq]at*;have e:a=b:=by
   have h1:=UInt8.not_lt.1 h.1;have h2:=UInt8.not_lt.1 k.1;exact UInt8.le_antisymm h2 h1
  subst e;rw[qy (h.2.resolve_left (by simp)) (k.2.resolve_left (by simp))]
theorem iq(a:U):bp a a=false:=nI _
theorem gy{a b c:U}(h:bp a b=true)(k:bp b c=true):bp a c=true:=qx h k
theorem jH{a b:U}(h:bp a b=false)(k:bp b a=false):cG a b=true:=by
 simp only[cG,decide_eq_true_eq];exact qy h k
theorem vL{a b:U}(h:cG a b=true):bp a b=false:=by
 simp only[cG,decide_eq_true_eq]at h;unfold bp;rw[h];exact nI _
theorem fV{a b:U}:cG a b=true↔a.nm.toList=b.nm.toList:=by simp[cG]
def an(u:U):List U:=
 if(under u).k=10 then
  bZ (((under u).es.drop (under u).m.toNat).attach.foldl (fun out ⟨e,_⟩=>if aW e then(an e).foldl bK out else out) ((under u).es.take (under u).m.toNat))
 else []
termination_by u.sz
decreasing_by
 have h1:=U.az (List.mem_of_mem_drop ‹_›)
 have h2:=dn u
 omega
def b4(out:List U)(e:U):List U:=if aW e then(an e).foldl bK out else out
def ef(u:U):List U:=(u.es.drop u.m.toNat).foldl b4 (u.es.take u.m.toNat)
theorem iX{u:U}(h:(under u).k=10):an u=bZ (ef (under u)):=by
 rw[an,if_pos h,ef];congr 1;rw[←List.foldl_attach (f:=b4)];rfl
theorem fK{u:U}(h:(under u).k≠10):an u= []:=by rw[an,if_neg h]
theorem vM{out:List U}{m x:U}(h:x∈bK out m):x∈out∨x=m:=by
 unfold bK at h;split at h
 ·exact .inl h
 ·simpa using h
theorem vN{l:List U}:∀{out:List U}{x:U},x∈l.foldl bK out→x∈out∨x∈l:=by
 induction l with
 |nil=>exact fun h=> .inl h
 |cons m r ih=>
  intro out x h;rw[List.foldl_cons]at h;rcases ih h with h|h
  ·rcases vM h with h|rfl
   ·exact .inl h
   ·exact .inr List.mem_cons_self
  ·exact .inr (List.mem_cons_of_mem _ h)
theorem qz{l:List U}:∀{out:List U}{x:U},x∈l.foldl b4 out→x∈out∨∃e∈l,aW e=true∧x∈an e:=by
 induction l with
 |nil=>exact fun h=> .inl h
 |cons e r ih=>
  intro out x h;rw[List.foldl_cons]at h;rcases ih h with h|⟨b,a,h⟩
  ·unfold b4 at h
   split at h
   ·rename_i c
    rcases vN h with h|h
    ·exact .inl h
    ·exact .inr ⟨e,List.mem_cons_self,c,h⟩
   ·exact .inl h
  ·exact .inr ⟨b,List.mem_cons_of_mem _ a,h⟩
theorem qA{l:List U}{x:U}:x∈bZ l↔x∈l:=List.mem_mergeSort
theorem gQ{u x:U}(h:x∈an u):(under u).k=10∧(x∈(under u).es.take (under u).m.toNat∨∃e∈(under u).es.drop (under u).m.toNat,aW e=true∧x∈an e):=by
 by_cases a:(under u).k=10
 ·rw[iX a,qA]at h
  exact⟨a,qz h⟩
 ·rw[fK a]at h;cases h
theorem jI:∀{u x:U},x∈an u→x.sz<u.sz:=by
 intro u;induction u using U.bg with
 |_ u ih=>
  intro x h;have hu:=dn u;rcases(gQ h).2 with h|⟨e,he,_,h⟩
  ·have:=U.az (List.mem_of_mem_take h);omega
  ·have h1:=U.az (List.mem_of_mem_drop he)
   have:=ih e (by omega) h;omega
def cZ(l:List U):Prop:=l.Pairwise fun a b=>cG a b=false
theorem nJ(a b:U):cG a b=cG b a:=by unfold cG;rw[Bool.eq_iff_iff];simp[eq_comm]
theorem qB{l:List U}(h:cZ l)(m:U):cZ (bK l m):=by
 unfold bK;split
 ·exact h
 ·rename_i c
  simp only[Bool.not_eq_true,List.any_eq_false]at c;unfold cZ;rw[List.pairwise_append];exact⟨h,List.pairwise_singleton _ _,fun a ha b d=>by simp at d;subst d;simpa using c a ha⟩
theorem vO{r:List U}:∀{l:List U},cZ l→cZ (r.foldl bK l):=by
 induction r with
 |nil=>exact fun h=>h
 |cons m r ih=>exact fun h=>ih (qB h m)
theorem vP{l:List U}(h:cZ l)(e:U):cZ (b4 l e):=by
 unfold b4;split
 ·exact vO h
 ·exact h
theorem nK{r:List U}:∀{l:List U},cZ l→cZ (r.foldl b4 l):=by
 induction r with
 |nil=>exact fun h=>h
 |cons m r ih=>exact fun h=>ih (vP h m)
def dE(l:List U):Prop:=l.Pairwise fun a b=>bp a b=true
theorem dE.noTwo{l:List U}(h:dE l):cZ l:=h.imp fun{a b} c=>by
 cases d:cG a b
 ·rfl
 ·rw[vL d]at c;cases c
theorem qC{l:List U}(h:cZ l):dE (bZ l):=by
 have i:(bZ l).Pairwise fun a b=>(!bp b a)=true:=List.pairwise_mergeSort (le:=fun a b=> !bp b a)
  (fun a b c h1 h2=>by
   simp only[Bool.not_eq_true']at*;cases e:bp c a
   ·rfl
   ·cases d:bp a b
    ·cases f:bp b c
     ·have j:=fV.1 (jH d h1)
      unfold bp at*;rw[j]at e;rw[e]at h2;cases h2
     ·have:=gy f e;rw[this]at h1;cases h1
    ·have:=gy e d;rw[this]at h2;cases h2)
  (fun a b=>by
   cases h1:bp b a
   ·simp
   ·cases h2:bp a b
    ·simp
    ·have:=gy h1 h2;rw[iq]at this;cases this) l
 have k:cZ (bZ l):=(List.mergeSort_perm l _).symm.pairwise h fun{a b} d=>by rw[nJ];exact d
 exact(i.and k).imp fun{a b} ⟨h1,h2⟩=>by
  cases d:bp a b
  ·have:=jH d (by simpa using h1);rw[this]at h2;cases h2
  ·rfl
theorem qD:∀{l r:List U},l.Perm r→dE l→dE r→l=r
 | [],r,c,_,_=>by simpa using c.symm
 |a::l,[],c,_,_=>by simp at c
 |a::l,b::r,c,i,hr=>by
  have d:=List.pairwise_cons.1 i;have f:=List.pairwise_cons.1 hr;have e:a=b:=by
   rcases List.mem_cons.1 (c.subset List.mem_cons_self:a∈b::r)with e|h
   ·exact e
   ·rcases List.mem_cons.1 (c.symm.subset List.mem_cons_self:b∈a::l)with e|j
    ·exact e.symm
    ·have h1:=f.1 a h
     have h2:=d.1 b j;have:=gy h1 h2;rw[iq]at this;cases this
  subst e;rw[qD (List.perm_cons _|>.1 c) d.2 f.2]
theorem nL{l r:List U}(h:cZ l)(a:l.Perm r)(hr:dE r):r=bZ l:=
 qD (a.symm.trans (List.mergeSort_perm l _).symm) hr (qC h)
def aZ(x y:U):Bool:=
 if x.k=1∨x.k=3∨x.k=9∨x.k=11 then x.n==y.n
 else if x.k=7 then x.m==y.m&&x.v==y.v
 else if x.k=5 then(x.es.zip y.es).all fun(e,f)=>decide (e.nm.toList=f.nm.toList)&&decide (e.tg.toList=f.tg.toList)
 else true
def aF(x y:U):Bool:=
 (bare x).k==(bare y).k&&(decide ((bare x).es.length=(bare y).es.length)||(bare x).k==10)&&
 if(bare x).k=10 then
  !aU (bare x)&& !aU (bare y)&&decide ((an (bare x)).length=(an (bare y)).length)&&
   (an (bare y)).all fun m=>(an (bare x)).attach.any fun⟨f,_⟩=>cG f m&&aF f m
 else aZ (bare x) (bare y)&&((bare x).es.attach.zip (bare y).es).all fun(⟨e,_⟩,f)=>aF e f
termination_by x.sz
decreasing_by
 ·have h1:=jI ‹_›
  have h2:=nH x
  omega
 ·have h1:=U.az (u:=bare x) ‹_›
  have h2:=nH x
  omega
def hasB(l want:List U):Bool:=want.all fun m=>l.any fun f=>cG f m&&aF f m
theorem vQ{α β:Type}(l:List α)(r:List β)(f:α→β→Bool):(l.attach.zip r).all (fun(⟨e,_⟩,g)=>f e g)=(l.zip r).all fun(e,g)=>f e g:=by
 have h:l.zip r=(l.attach.zip r).map fun(x:{a // a∈l}×β)=>(x.1.1,x.2):=by
  rw[show(fun(x:{a // a∈l}×β)=>(x.1.1,x.2))=Prod.map Subtype.val id from rfl,←List.zip_map_left,List.attach_map_subtype_val]
 rw[h,List.all_map];rfl
theorem jJ{x y:U}(h:(bare x).k=10):aF x y=((bare y).k==10&&(!aU (bare x)&& !aU (bare y)&&decide ((an (bare x)).length=(an (bare y)).length)&&hasB (an (bare x)) (an (bare y)))):=by
 rw[aF,if_pos h,h,hasB];simp[Bool.beq_comm,eq_comm]
theorem jK{x y:U}(h:(bare x).k≠10):aF x y=((bare x).k==(bare y).k&&decide ((bare x).es.length=(bare y).es.length)&&(aZ (bare x) (bare y)&&((bare x).es.zip (bare y).es).all fun(e,f)=>aF e f)):=by
 have a:((bare x).k==10)=false:=by simp[h]
 rw[aF,if_neg h,←vQ,a,Bool.or_false]
def aP(u:U):Prop:=aU u=false∧(∀e,∀_:e∈u.es,aP e)∧∀e,∀_:e∈an u,aP e
termination_by u.sz
decreasing_by
 ·exact U.az ‹_›
 ·exact jI ‹_›
theorem aP.gen{u:U}(h:aP u):aU u=false:=by rw[aP]at h;exact h.1
theorem aP.es{u e:U}(h:aP u)(he:e∈u.es):aP e:=by rw[aP]at h;exact h.2.1 e he
theorem aP.cf{u e:U}(h:aP u)(he:e∈an u):aP e:=by rw[aP]at h;exact h.2.2 e he
theorem qE:aP bw:=by
 have hu:under bw=bw:=by rw[gx]<;>rw[cd]<;>decide
 rw[aP];refine⟨?_,fun e he=>by simp[bw,U.es]at he,fun e he=> ?_⟩
 ·rw[gP (by rw[hu];rfl),hu];rfl
 ·have:=(gQ he).2;rw[hu]at this;simp[bw,U.es]at this
theorem aP.bare{len:Nat}:∀{u:U}{pos f:Nat},Pl len u pos f→aP u→aP (bare u):=by
 intro u;induction u using U.bg with
 |_ u ih=>
  intro pos f b h;by_cases h2:u.k=2
  ·obtain⟨e,he⟩:=cU (b.form.eW h2)
   have c:=b.part 0 (by rw[b.form.eW h2];omega);have d:u.es[0]'(by rw[b.form.eW h2];omega)=e:=by simp[he]
   rw[d]at c;rw[iW h2 he];exact ih e (U.az (by rw[he];simp)) c (h.es (by rw[he];simp))
  ·by_cases a:u.k=14
   ·rw[gq a];exact qE
   ·rw[cd h2 a];exact h
def aD(x:U):U:=if x.k=13 then x.es.headD x else x
def ey(x y:U):Bool:=
 if isIface (aD x)||isIface (aD y)then true
 else if x.k=13 then !aF (aD x) (under (aD y))
 else if y.k=13 then !aF (under (aD x)) (aD y)
 else !aF (aD x) (aD y)
def eA(u:U):List U:=(u.es.drop u.m.toNat).flatMap fun e=>if e.k=12 then e.es else [e]
theorem iY{u x:U}(h:x∈eA u):x.sz<u.sz:=by
 obtain⟨e,he,a⟩:=List.mem_flatMap.1 h;have h1:=U.az (List.mem_of_mem_drop he);split at a
 ·have:=U.az a;omega
 ·simp at a;subst a;exact h1
def cj(u:U):Int:=
 if(under u).k=10 then
  (eA (under u)).attach.foldl (fun n ⟨x,_⟩=>if 50<n then n else if x.k==13|| !isIface x then n+1 else n+cj x) 0
 else 1
termination_by u.sz
decreasing_by
 have h1:=iY ‹_›
 have h2:=dn u
 omega
def bG(n:Int)(x:U):Int:=if 50<n then n else if x.k==13|| !isIface x then n+1 else n+cj x
theorem lL{u:U}(h:(under u).k=10):cj u=(eA (under u)).foldl bG 0:=by
 rw[cj,if_pos h,←List.foldl_attach (f:=bG)];rfl
theorem nM{u:U}(h:(under u).k≠10):cj u=1:=by rw[cj,if_neg h]
def fW(t:U):Bool:=(t.es.drop t.m.toNat).all fun e=> !aW e||hasB (an t) (an e)
def nN(u:U)(un:List U):U:=match u with| .mk k n m v nm tg es _=> .mk k n m v nm tg es un
def cR(T:List U)(u:U):U:=if u.k=11 then nN u (T[u.n.toNat]?).toList else u
def mt(T:List U)(s:Pt)(u:U)(g:Bool):Bool:=
 match s with
 | .elem=>
   if u.k=12 then(u.es.attach.all fun⟨x,_⟩=>mt T .term x false&& !(aW x&&(decide (0<(an x).length)||eu x)))&&decide (u.es.Pairwise fun y x=>ey x y=true)&&g
   else mt T .term u false&&(g||aW u&& !aU u)
 | .term=>
   if u.k=13 then u.es.attach.all fun⟨e,_⟩=>mt T .type e false&& !isIface e&&aF e (under e)
   else mt T .type u (isIface u)
 | .type=>
   if u.k=2 then u.es.attach.all fun⟨e,_⟩=>mt T .type e g
   else if u.k=10 then((u.es.drop u.m.toNat).attach.all fun⟨e,_⟩=>mt T .elem e g)&&(((u.es.take u.m.toNat).attach.all fun⟨e,_⟩=>mt T .type e false)&&fW u&&decide (cj u≤50))
   else(g|| !aU (cR T u))&&u.es.attach.all fun⟨e,_⟩=>mt T .type e false
termination_by (u.sz,match s with| .type=>0| .term=>1| .elem=>2)
decreasing_by
 all_goals first
  |exact Prod.Lex.right _ (by decide)
  |exact Prod.Lex.left _ _ (U.az ‹_›)
  |exact Prod.Lex.left _ _ (U.az (List.mem_of_mem_take ‹_›))
  |exact Prod.Lex.left _ _ (U.az (List.mem_of_mem_drop ‹_›))
theorem vR{α:Type}(l:List α)(f:α→Bool):(l.attach.all fun x=>f x.1)=l.all f:=by
 conv=>rhs;rw[←List.attach_map_subtype_val l,List.all_map]
 rfl
section
variable {T:List U} {u:U} {g:Bool}
theorem lM(h:u.k=12):mt T .elem u g=((u.es.all fun x=>mt T .term x false&& !(aW x&&(decide (0<(an x).length)||eu x)))&&decide (u.es.Pairwise fun y x=>ey x y=true)&&g):=by
 rw[mt,if_pos h,←vR u.es fun x=>mt T .term x false&& !(aW x&&(decide (0<(an x).length)||eu x))]
theorem iZ(h:u.k≠12):mt T .elem u g=(mt T .term u false&&(g||aW u&& !aU u)):=by rw[mt];simp[h]
theorem kq(h:u.k=13):mt T .term u g=u.es.all fun e=>mt T .type e false&& !isIface e&&aF e (under e):=by rw[mt];simp[h]
theorem gR(h:u.k≠13):mt T .term u g=mt T .type u (isIface u):=by rw[mt];simp[h]
theorem ks(h:u.k=2):mt T .type u g=u.es.all fun e=>mt T .type e g:=by rw[mt];simp[h]
theorem i_(h:u.k=10):mt T .type u g=(((u.es.drop u.m.toNat).all fun e=>mt T .elem e g)&&(((u.es.take u.m.toNat).all fun e=>mt T .type e false)&&fW u&&decide (cj u≤50))):=by rw[mt];simp[h]
theorem lN(h:u.k≠2)(a:u.k≠10):mt T .type u g=((g|| !aU (cR T u))&&u.es.all fun e=>mt T .type e false):=by rw[mt];simp[h,a]
end
def cm(k m:Int)(i f:Nat):Nat:=if f=2 then 2 else if k=10∧m.toNat≤i then 2 else if f=1∧(k=2∨k=3∨k=5)then 1 else 0
theorem vS(u:U)(i f:Nat):cm u.k u.m i f=aJ u i f:=rfl
mutual
def aQ(T:List U)(f:Nat):U→U
 | .mk k n m v nm tg es _=> .mk k n m v nm tg (fX T f k m 0 es) (if k=15 then [aG]else if k=11∧f≠0 then(T[n.toNat]?).toList else [])
def fX(T:List U)(f:Nat)(k m:Int)(i:Nat):List U→List U
 | []=> []
 |e::r=>aQ T (cm k m i f) e::fX T f k m (i+1) r
end
section
variable (T:List U) (f:Nat)
theorem cH(u:U):(aQ T f u).k=u.k:=by cases u;rfl
theorem fY(u:U):(aQ T f u).n=u.n:=by cases u;rfl
theorem eX(u:U):(aQ T f u).m=u.m:=by cases u;rfl
theorem lO(u:U):(aQ T f u).v=u.v:=by cases u;rfl
theorem ja(u:U):(aQ T f u).nm=u.nm:=by cases u;rfl
theorem nO(u:U):(aQ T f u).tg=u.tg:=by cases u;rfl
theorem jL(u:U):(aQ T f u).es=fX T f u.k u.m 0 u.es:=by cases u;rfl
theorem jc(u:U):(aQ T f u).un=(if u.k=15 then [aG]else if u.k=11∧f≠0 then(T[u.n.toNat]?).toList else []):=by cases u;rfl
theorem nP(k m:Int)(l:List U):∀i,(fX T f k m i l).length=l.length:=by
 induction l with
 |nil=>exact fun _=>rfl
 |cons e r ih=>intro i;simp[fX,ih]
theorem cp(u:U):(aQ T f u).es.length=u.es.length:=by rw[jL,nP]
theorem qF(k m:Int):∀(l:List U)(i j:Nat)(h:j<l.length),(fX T f k m i l)[j]'(by rw[nP];exact h)=aQ T (cm k m (i+j) f) l[j]
 |e::r,i,0,h=>by simp[fX]
 |e::r,i,j+1,h=>by
  simp only[fX,List.getElem_cons_succ];rw[qF k m r (i+1) j (by simpa using h)];congr 2;omega
theorem gz(u:U)(j:Nat)(h:j<(aQ T f u).es.length):(aQ T f u).es[j]=aQ T (aJ u j f) (u.es[j]'(by rw[cp]at h;exact h)):=by
 have:=qF T f u.k u.m u.es 0 j (by rw[cp]at h;exact h);simp only[jL,this,Nat.zero_add,vS]
end
def Pc.f(q:Pc):Nat:=if q.t then 2 else if q.v then 1 else 0
def Pt.n:Pt→Nat| .type=>0| .term=>1| .elem=>2
theorem qG:∀{l:List U},dU l=true→∀e∈l,e.k=7∧aO e.nm=true
 | [],_,e,he=>by cases he
 |a::r,h,e,he=>by
  simp only[dU,Bool.and_eq_true,beq_iff_eq]at h;rcases List.mem_cons.1 he with rfl|he
  ·exact⟨h.1.1.1,h.1.1.2⟩
  ·exact qG h.2 e he
theorem qH:∀{l:List U},dU l=true→dE l
 | [],_=>List.Pairwise.nil
 |a::r,h=>by
  simp only[dU,Bool.and_eq_true]at h;have ih:=qH h.2;refine List.pairwise_cons.2 ⟨fun b d=> ?_,ih⟩;cases r with
  |nil=>cases d
  |cons c r=>
   rcases List.mem_cons.1 d with rfl|d
   ·exact h.1.2
   ·exact gy (a:=a) (b:=c) h.1.2 ((List.pairwise_cons.1 ih).1 b d)
structure ku(len:Nat)(t:U):Prop where
 lo:1≤t.k
 hi:t.k≤10
 jM:t.k≠2
 pl:Pl len t 0 1
theorem eY{len:Nat}{u:U}{pos f:Nat}(h1:Form len u pos f)(h2:∀i(h:i<u.es.length),Pl len u.es[i] (aS u i) (aJ u i f))
 (h3:u.k=11→∀e∈u.un,(1≤e.k∧e.k≤10∧e.k≠2)∧Pl len e 0 1):Pl len u pos f:=by
 rw[Pl];exact⟨h1,h2,h3⟩
theorem vT(T:List U)(f:Nat)(u:U)(j:Nat)(e:U)(h:e∈(aQ T f u).es.take j):∃x∈u.es.take j,e.k=x.k∧e.nm=x.nm:=by
 obtain⟨i,hi,rfl⟩:=List.getElem_of_mem h;rw[List.length_take,cp]at hi;rw[List.getElem_take,gz T f u i (by rw[cp];omega),cH,ja];refine⟨u.es[i]'(by omega),?_,rfl,rfl⟩;rw[show u.es[i]'(by omega)=(u.es.take j)[i]'(by rw[List.length_take];omega) by rw[List.getElem_take]];exact List.getElem_mem _
theorem vU(T:List U)(f:Nat)(u:U)(e:U)(h:e∈(aQ T f u).es):∃x∈u.es,e.k=x.k∧e.nm=x.nm:=by
 obtain⟨i,hi,rfl⟩:=List.getElem_of_mem h;rw[gz,cH,ja];exact⟨_,List.getElem_mem _,rfl,rfl⟩
theorem qI{α:Type}(T:List U)(f:Nat)(u:U)(g:ByteArray→α):(aQ T f u).es.map (fun e=>g e.nm)=u.es.map fun e=>g e.nm:=by
 refine List.ext_getElem (by simp[cp]) fun i h1 h2=> ?_;rw[List.getElem_map,List.getElem_map,gz,ja]
theorem qJ(T:List U)(f i:Nat)(u:U):aS (aQ T f u) i=aS u i:=by unfold aS;rw[cH,eX]
theorem nQ(T:List U)(f i g:Nat)(u:U):aJ (aQ T f u) i g=aJ u i g:=by unfold aJ;rw[cH,eX]
theorem qK{len:Nat}{T:List U}(hT:∀t∈T,ku len t):∀(u:U)(q:Pc)(s:Pt),ah len u q s=true→q.d≤T.length→(s≠ .type→q.t=true)→Pl len (aQ T q.f u) s.n q.f:=by
 intro u;induction u using U.bg with
 |_ u ih=>
  intro q s h hd hs;have F:q.f≤2:=by unfold Pc.f;split<;>(try split)<;>omega
  have G:q.behind.f=if q.f=2 then 2 else 0:=by
   unfold Pc.f Pc.behind;cases q.t<;>simp;cases q.v<;>simp
  have O:q.inside.f=2:=by unfold Pc.f Pc.inside;simp
  have parts:∀(D:Pc)(H:Pt),D.d=q.d→(H≠ .type→D.t=true)→(∀e∈u.es,ah len e D H=true)→(∀i,i<u.es.length→aS u i=H.n∧aJ u i q.f=D.f)→
   ∀i(hi:i<(aQ T q.f u).es.length),Pl len (aQ T q.f u).es[i] (aS (aQ T q.f u) i) (aJ (aQ T q.f u) i q.f):=by
   intro D H hq P hp E i hi;rw[cp]at hi;rw[gz T q.f u i (by rw[cp];exact hi),qJ,nQ,(E i hi).1,(E i hi).2];exact ih _ (U.az (List.getElem_mem hi)) D H (hp _ (List.getElem_mem hi)) (by omega) P
  have c:u.k≠11→(aQ T q.f u).k=11→∀e∈(aQ T q.f u).un,(1≤e.k∧e.k≤10∧e.k≠2)∧Pl len e 0 1:=fun h1 h2=>absurd (by rw[cH]at h2;exact h2) h1;have j:u.k≠10→u.k≠12→∀i,aS u i=0:=fun h1 h2 i=>by unfold aS;rw[if_neg h2,if_neg (by omega)]
  have y:u.k≠10→u.k≠2→u.k≠3→u.k≠5→∀i,aJ u i q.f=q.behind.f:=fun h1 h2 h3 h5 i=>by
   rw[G];unfold aJ;split
   ·rfl
   ·rw[if_neg (by omega),if_neg (by omega)]
  have type:ah len u q .type=true→∀pos,Pl len (aQ T q.f u) pos q.f:=by
   intro h pos;by_cases Q:u.k=1
   ·rw[ah.eq_def]at h;simp only[Q,if_true,Bool.and_eq_true,decide_eq_true_eq,bT,List.length_eq_zero_iff]at h
    exact eY (.basic (by rw[cH];exact Q) (by rw[fY];omega) (by rw[fY];omega) (by rw[jL,h.2];rfl)) (fun i hi=>by rw[cp,h.2]at hi;simp at hi) (c (by omega))
   by_cases z:u.k=14∨u.k=15∨u.k=16
   ·have he:u.es= []:=by
     rw[ah.eq_def]at h;rcases z with e|e|e<;>simpa [e,List.length_eq_zero_iff]using h
    refine eY ?_ (fun i hi=>by rw[cp,he]at hi;simp at hi) (c (by omega));by_cases I:u.k=15
    ·exact .err (by rw[cH];exact I) (by rw[jL,he];rfl) (by rw[jc,if_pos I])
    ·exact .pre (by rw[cH];omega) (by rw[jL,he];rfl)
   by_cases p:u.k=11
   ·rw[ah.eq_def]at h
    simp only[p,Int.reduceEq,if_false,or_self,if_true,Bool.and_eq_true,Bool.or_eq_true,Bool.not_eq_true',decide_eq_true_eq,bT,List.length_eq_zero_iff]at h;obtain⟨⟨⟨h0,h1⟩,h2⟩,he⟩:=h;have hu:=jc T q.f u;rw[if_neg (by omega)]at hu;have l:q.f≠0→u.n.toNat<T.length:=fun A=>by
     have:u.n<q.d:=by
      rcases h2 with⟨R,r⟩|h2
      ·exfalso;apply A;unfold Pc.f;simp[R,r]
      ·exact h2
     omega
    refine eY (.named (by rw[cH];exact p) (by rw[fY];exact h0) (by rw[fY];exact h1) (by rw[jL,he];rfl) ?_ ?_) (fun i hi=>by rw[cp,he]at hi;simp at hi) ?_
    ·rw[hu];split
     ·cases T[u.n.toNat]?<;>simp
     ·simp
    ·intro A
     rw[hu,if_pos ⟨p,A⟩,List.getElem?_eq_getElem (l A)];simp
    ·intro _ e hm
     rw[hu]at hm;split at hm
     ·rename_i L
      rw[List.getElem?_eq_getElem (l L.2)]at hm;simp only[Option.toList_some,List.mem_singleton]at hm;have:=hT e (by rw[hm];exact List.getElem_mem _);exact⟨⟨this.lo,this.hi,this.jM⟩,this.pl⟩
     ·cases hm
   by_cases M:u.k=2∨u.k=3
   ·rw[ah.eq_def]at h
    have g:0≤u.n∧u.es.length=1∧∀e∈u.es,ah len e q .type=true:=by
     rcases M with e|e<;>simpa [e,and_assoc]using h
    refine eY (.one (by rw[cH];exact M) (by rw[fY];exact g.1) (by rw[cp];exact g.2.1)) (parts q .type rfl (fun h=>absurd rfl h) g.2.2 fun i _=>⟨j (by omega) (by omega) i,ij F (by omega) i⟩) (c (by omega))
   by_cases V:u.k=5
   ·rw[ah.eq_def]at h
    have g:ew u.es=true∧∀e∈u.es,ah len e q .type=true:=by simpa [V]using h
    unfold ew at g;simp only[Bool.and_eq_true,decide_eq_true_eq]at g;refine eY (.struct (by rw[cH];exact V) (fun e he=> ?_) ?_) (parts q .type rfl (fun h=>absurd rfl h) g.2 fun i _=>⟨j (by omega) (by omega) i,ij F (by omega) i⟩) (c (by omega))
    ·obtain⟨x,W,_,J⟩:=vU T q.f u e he
     rw[J];exact g.1.1 x W
    ·have:=qI T q.f u (fun s=>s)
     rw[show((aQ T q.f u).es.map U.nm)=u.es.map U.nm from this];refine List.Pairwise.of_map (S:=fun a b=>a≠b) ByteArray.toList (fun a b X he=>X (by rw[he])) ?_;rw[List.map_map];exact g.1.2
   by_cases bz:u.k=10
   ·rw[ah.eq_def]at h
    have g:bT u.m (u.es.length+1)=true∧(u.es.length- u.m≤4)∧dU (u.es.take u.m.toNat)=true∧(∀e∈u.es.take u.m.toNat,ah len e q.behind .type=true)∧∀e∈u.es.drop u.m.toNat,ah len e q.inside .elem=true:=by
     simpa [bz,and_assoc]using h
    obtain⟨hm,Y,L,r,Z⟩:=g;simp only[bT,Bool.and_eq_true,decide_eq_true_eq]at hm;have P3:u.m.toNat≤u.es.length:=by omega
    refine eY (.iface (by rw[cH];exact bz) (by rw[eX];omega) (by rw[eX,cp];omega) (by rw[eX,cp];omega) (fun e he=> ?_) ?_) (fun i hi=> ?_) (c (by omega))
    ·rw[eX]at he
     obtain⟨x,W,hk,J⟩:=vT T q.f u _ e he;rw[hk,J];exact qG L x W
    ·have ho:=qH L
     rw[eX,List.map_take,show((aQ T q.f u).es.map U.nm)=u.es.map U.nm from qI T q.f u (fun s=>s),←List.map_take,List.pairwise_map];exact ho
    ·rw[cp]at hi
     rw[gz T q.f u i (by rw[cp];exact hi),qJ,nQ];by_cases l:i<u.m.toNat
     ·have E:aS u i=0:=by unfold aS;rw[if_neg (by omega),if_neg (by omega)]
      have B:aJ u i q.f=q.behind.f:=by
       rw[G];unfold aJ;split
       ·rfl
       ·rw[if_neg (by omega),if_neg (by omega)]
      rw[E,B];refine ih _ (U.az (List.getElem_mem hi)) q.behind .type (r _ ?_) hd (fun h=>absurd rfl h);rw[show u.es[i]=(u.es.take u.m.toNat)[i]'(by rw[List.length_take];omega) by rw[List.getElem_take]];exact List.getElem_mem _
     ·have E:aS u i=2:=by unfold aS;rw[if_neg (by omega),if_pos ⟨bz,by omega⟩]
      have B:aJ u i q.f=q.inside.f:=by
       rw[O];unfold aJ;split
       ·rfl
       ·rw[if_pos ⟨bz,by omega⟩]
      rw[E,B];refine ih _ (U.az (List.getElem_mem hi)) q.inside .elem (Z _ ?_) hd (fun _=>rfl);rw[show u.es[i]=(u.es.drop u.m.toNat)[i- u.m.toNat]'(by rw[List.length_drop];omega) by rw[List.getElem_drop];congr 1;omega];exact List.getElem_mem _
   by_cases N:u.k=4∨u.k=6∨u.k=9
   ·rw[ah.eq_def]at h
    have g:bT u.n 3=true∧u.es.length=1∧∀e∈u.es,ah len e q.behind .type=true:=by
     rcases N with e|e|e<;>simpa [e,and_assoc]using h
    have J:=g.1;simp only[bT,Bool.and_eq_true,decide_eq_true_eq]at J;exact eY (.ptr (by rw[cH];exact N) (by rw[fY];omega) (by rw[fY];omega) (by rw[cp];exact g.2.1)) (parts q.behind .type rfl (fun h=>absurd rfl h) g.2.2 fun i _=>⟨j (by omega) (by omega) i,y (by omega) (by omega) (by omega) (by omega) i⟩) (c (by omega))
   by_cases k8:u.k=8
   ·rw[ah.eq_def]at h
    have g:u.es.length=2∧∀e∈u.es,ah len e q.behind .type=true:=by simpa [k8]using h
    exact eY (.map (by rw[cH];exact k8) (by rw[cp];exact g.1)) (parts q.behind .type rfl (fun h=>absurd rfl h) g.2 fun i _=>⟨j (by omega) (by omega) i,y (by omega) (by omega) (by omega) (by omega) i⟩) (c (by omega))
   by_cases k7:u.k=7
   ·rw[ah.eq_def]at h
    have g:bT u.m (u.es.length+1)=true∧(u.v=false∨0<u.m∧(u.es.getD (u.m.toNat- 1) bS).k=4)∧∀e∈u.es,ah len e q.behind .type=true:=by
     simpa [k7,and_assoc]using h
    have hm:=g.1;simp only[bT,Bool.and_eq_true,decide_eq_true_eq]at hm;refine eY (.func (by rw[cH];exact k7) (by rw[eX];omega) (by rw[eX,cp];omega) ?_) (parts q.behind .type rfl (fun h=>absurd rfl h) g.2.2 fun i _=>⟨j (by omega) (by omega) i,y (by omega) (by omega) (by omega) (by omega) i⟩) (c (by omega));rw[lO,eX];intro R;rcases g.2.1 with A|⟨h0,Y⟩
    ·rw[R]at A;cases A
    ·refine⟨by omega,fun l=> ?_⟩
     rw[gz,cH];rw[cp]at l;rw[List.getD_eq_getElem?_getD,List.getElem?_eq_getElem l]at Y;exact Y
   ·exfalso
    rw[ah.eq_def]at h;simp only[not_or]at z M N;simp[Q,z,p,M,V,bz,N,k8,k7]at h
  have term:ah len u q .term=true→q.t=true→∀pos,pos=1∨pos=2→Pl len (aQ T q.f u) pos q.f:=by
   intro h r pos K;have o:q.f=2:=by unfold Pc.f;simp[r]
   by_cases C:u.k=13
   ·rw[ah.eq_def]at h
    have g:u.es.length=1∧∀e∈u.es,ah len e q .type=true:=by simpa [C]using h
    refine eY (.kp (by rw[cH];exact C) K (by rw[cp];exact g.1)) (parts q .type rfl (fun h=>absurd rfl h) g.2 fun i _=>⟨j (by omega) (by omega) i,?_⟩) (c (by omega));unfold aJ;rw[if_pos o,o]
   ·rw[ah.eq_def]at h
    simp only[C,if_false]at h;exact type h pos
  cases s with
  |type=>exact type h 0
  |term=>exact term h (hs (by simp)) 1 (.inl rfl)
  |elem=>
   have r:=hs (by simp);have o:q.f=2:=by unfold Pc.f;simp[r]
   by_cases w:u.k=12
   ·rw[ah.eq_def]at h
    have g:2≤u.es.length∧u.es.length≤8∧∀e∈u.es,ah len e q .term=true:=by simpa [w,and_assoc]using h
    refine eY (.union (by rw[cH];exact w) rfl (by rw[cp];exact g.1) (by rw[cp];exact g.2.1)) (parts q .term rfl (fun _=>r) g.2.2 fun i _=>⟨by unfold aS;rw[if_pos w];rfl,?_⟩) (c (by omega));unfold aJ;rw[if_pos o,o]
   ·refine term ?_ r 2 (.inr rfl)
    rw[ah.eq_def]at h⊢;simpa only[w,if_false]using h
end TS
namespace Go.Proofs.YtkfaiocajcjomaaGreatDoor
open Go.RowKit TS
theorem gI(w:World):Calls Tryz.prog 105 #[.bool true] w fun e a=>e= .returned (.tuple #[])∧w=a:=by
 go_enter Tryz.func105,Tryz.ntmps105;go_wp2_with fail
 go_end0
 exact⟨rfl,rfl⟩
theorem yU(b a:Nat)(s c:ByteArray)(w:World)(h:w.cell? ⟨b,0,none⟩=some (.string s))(f:w.cell? ⟨a,0,none⟩=some (.string c)):
 Calls Tryz.prog 123 #[.pointer (some ⟨b,0,none⟩),.pointer (some ⟨a,0,none⟩)] w fun e d=>e= .returned (.bool (s.toList==c.toList))∧∃n,d=w.drewN n:=by
 go_enter Tryz.func123,Tryz.ntmps123;go_wp2_with fail
 go_quiet (fail)
 go_wp2_with fail
 go_ret;exact⟨rfl,_,rfl⟩
theorem kV(w:World):Calls Tryz.prog 71 #[] w fun e a=>e= .returned (.slice (some ⟨w.heap.size+1,0,none⟩) 1 1)∧
 a=(w.alloc (.cells #[.bool false,.nilIface] 181)).alloc (.cells #[.pointer (some ⟨w.heap.size,0,none⟩)] 179):=by
 go_enter Tryz.func71,Tryz.ntmps71;go_wp2_with fail
 go_ret;exact⟨rfl,rfl⟩
theorem yV(w:World):Calls Tryz.prog 102 #[] w fun e a=>e= .returned (.pointer (some ⟨w.heap.size+2,0,none⟩))∧
 a=((w.alloc (.cells #[.bool false,.nilIface] 181)).alloc (.cells #[.pointer (some ⟨w.heap.size,0,none⟩)] 179)).alloc (.cells #[.bool false,.slice none 0 0,.slice (some ⟨w.heap.size+1,0,none⟩) 1 1,.bool false] 125):=by
 go_enter Tryz.func102,Tryz.ntmps102;go_wp2_with fail
 refine(kV _).mono ?_;rintro e a ⟨rfl,rfl⟩;go_wp2_with fail
 go_ret;exact⟨rfl,rfl⟩
abbrev c_(ms es:Value)(comp:Bool)(a:Value):Array Value:=#[.pointer none,ms,es,.pointer none,.bool false,.bool comp,a]
theorem yW(w:World):Calls Tryz.prog 41 #[] w fun e a=>e= .returned (.pointer (some ⟨w.heap.size+3,0,none⟩))∧
 a=(((w.alloc (.cells #[.bool false,.nilIface] 181)).alloc (.cells #[.pointer (some ⟨w.heap.size,0,none⟩)] 179)).alloc (.cells #[.bool false,.slice none 0 0,.slice (some ⟨w.heap.size+1,0,none⟩) 1 1,.bool true] 125)).alloc
  (.cells (c_ (.slice none 0 0) (.slice none 0 0) true (.pointer (some ⟨w.heap.size+2,0,none⟩))) 105):=by
 go_enter Tryz.func41,Tryz.ntmps41;go_wp2_with fail
 refine(kV _).mono ?_;rintro e a ⟨rfl,rfl⟩;go_wp2_with fail
 go_ret;exact⟨rfl,rfl⟩
theorem yX(w:World):Calls Tryz.prog 160 #[.pointer none] w (Made (c_ (.slice none 0 0) (.slice none 0 0) false (.pointer none)) 105 w):=by
 go_enter Tryz.func160,Tryz.ntmps160;go_wp2_with fail
 go_ret;exact⟨rfl,rfl⟩
theorem yY(a a':Option Addr)(c c':Nat)(w:World):Calls Tryz.prog 122 #[.slice a 0 c,.slice a' 0 c'] w fun e b=>e= .returned (.pointer (some ⟨w.heap.size+3,0,none⟩))∧
 b=(((w.alloc (.cells #[.bool false,.nilIface] 181)).alloc (.cells #[.pointer (some ⟨w.heap.size,0,none⟩)] 179)).alloc (.cells #[.bool false,.slice none 0 0,.slice (some ⟨w.heap.size+1,0,none⟩) 1 1,.bool false] 125)).alloc
  (.cells (c_ (.slice none 0 0) (.slice none 0 0) true (.pointer (some ⟨w.heap.size+2,0,none⟩))) 105):=by
 go_enter Tryz.func122,Tryz.ntmps122;go_wp2_with fail
 refine(yV _).mono ?_;rintro e b ⟨rfl,rfl⟩;go_wp2_with fail
 go_ret;exact⟨rfl,rfl⟩
theorem yZ(r p q:Option Addr)(w:World):Calls Tryz.prog 119 #[.pointer r,.slice none 0 0,.slice none 0 0,.pointer p,.pointer q,.bool false] w
 (Made #[.pointer r,.pointer none,.pointer p,.pointer q,.bool false] 98 w):=by
 go_enter Tryz.func119,Tryz.ntmps119;go_wp2_with fail
 go_ret;exact⟨rfl,rfl⟩
end Go.Proofs.YtkfaiocajcjomaaGreatDoor
namespace TS
open Go
def bA(w:World)(a:Option Addr)(n:Nat)(f:Nat→Nat):Prop:=∀i,i<n→∃b o,a=some ⟨b,o,none⟩∧w.cell? ⟨b,o+i,none⟩=some (.pointer (some ⟨f i,0,none⟩))
end TS
namespace Go.Proofs.YtkfaiocajcjomaaGreatDoor
open Go.RowKit TS
theorem y7(b:Nat)(a:Option Addr)(n c:Nat)(f:Nat→Nat)(s:Nat→ByteArray)(nm:ByteArray)(w:World)(v:n≤1099511627776)(x:w.cell? ⟨b,9,none⟩=some (.slice a n c))(m:bA w a n f)
 (o:∀i,i<n→w.cell? ⟨f i,2,none⟩=some (.string (s i)))(g:∀i,i<n→((s i).toList==nm.toList)=false)(y:(nm.toList== [95])=false):
 Calls Tryz.prog 125 #[.pointer (some ⟨b,0,none⟩),.string nm,.bool false] w fun e q=>e= .returned (.int .i64 (-1))∧w=q:=by
 have j:=Lib.hid m;have l:=Lib.hid o;have h:=Lib.hid g;clear m o g;go_enter Tryz.func125,Tryz.ntmps125;go_wp2_with fail
 go_loopw [38] (fun i wr=> ∃k:Nat,k≤n∧i= .int .i64 k∧wr=w) (fun i _=>n- (intOf i).toNat)
 case atStart=>exact⟨0,Nat.zero_le _,rfl,rfl⟩
 case round=>
  obtain⟨k,hk,rfl,rfl⟩:=hrel;by_cases d:k<n
  ·have p:(k:Int)<n:=by omega
   obtain⟨z,A,rfl,B⟩:=j.out k d;have r:=l.out k d;have t:=h.out k d;go_wp2_with fail
   refine⟨⟨k+1,by omega,by go_num,trivial⟩,?_⟩;first|omega|(simp[intOf];omega)
  ·have u:¬(k:Int)<n:=by omega
   go_wp2_with fail
   go_ret;exact⟨rfl,rfl⟩
end Go.Proofs.YtkfaiocajcjomaaGreatDoor
namespace Go.Proofs.YtkfaiocajcjomaaGreatDoor
open Go.RowKit TS
def y8(k:Nat)(w:World)(e:Ending)(a:World):Prop:=∃b,e= .returned (.pointer (some ⟨b,0,none⟩))∧w.heap.size≤b∧b<a.heap.size∧a.cell? ⟨b,0,none⟩=some (.int .i64 k)∧Below w.heap.size w a∧∃cs T,a.heap[b]?=some (.cells cs T (0,0))
theorem oQ{w:World}{cs:Array Value}{T:TypeId}{b:Nat}(h:b=w.heap.size):∃a T',(w.alloc (.cells cs T)).heap[b]?=some (.cells a T' (0,0)):=⟨cs,T,by subst h;show(w.heap.push _)[w.heap.size]?=_;simp⟩
theorem oT{w:World}{o:Obj}{b:Nat}(h:∃cs T,w.heap[b]?=some (.cells cs T (0,0))):∃cs T,(w.alloc o).heap[b]?=some (.cells cs T (0,0)):=by
 obtain⟨cs,T,h⟩:=h;exact⟨cs,T,(Below.heap_alloc _ _ _ (Array.getElem?_eq_some_iff.1 h).1).trans h⟩
theorem sk(k:Nat)(hk:k≤18)(w:World):
 Calls Tryz.prog 66 #[.int .i64 k] w (y8 k w):=by
 have d:=Lib.hid hk;clear hk;go_enter Tryz.func66,Tryz.ntmps66;go_upto_region 1 with fail
 go_cut [3] (fun l c=> ∃b,l= .slice (some ⟨b,0,none⟩) 26 26∧(∀k:Nat,k≤18→c.cell? ⟨b,k,none⟩=some (.pointer (some ⟨w.heap.size+k,0,none⟩))∧c.cell? ⟨w.heap.size+k,0,none⟩=some (.int .i64 k)∧∃cs T,c.heap[w.heap.size+k]?=some (.cells cs T (0,0)))∧Below w.heap.size w c)
 case first=>
  go_wp2_with fail
  go_meet
  refine⟨_,rfl,fun k hk=> ?_,?_⟩
  ·have:k=0∨k=1∨k=2∨k=3∨k=4∨k=5∨k=6∨k=7∨k=8∨k=9∨k=10∨k=11∨k=12∨k=13∨k=14∨k=15∨k=16∨k=17∨k=18:=by omega
   rcases this with rfl|rfl|rfl|rfl|rfl|rfl|rfl|rfl|rfl|rfl|rfl|rfl|rfl|rfl|rfl|rfl|rfl|rfl|rfl<;>refine⟨by simp[go_sem],by simp[go_sem],?_⟩<;>repeat(first|exact oQ (by first|omega|(simp only[World.size_alloc];done)|(simp only[World.size_alloc];omega))|refine oT ?_)
  ·(repeat(first|with_reducible exact Below.refl _ _|with_reducible refine Below.setCell ?_ ?_ _|with_reducible refine Below.alloc ?_ ?_ _|with_reducible refine Below.drew ?_));all_goals (first|omega|(simp;done)|(simp;omega))
 case rest=>
  obtain⟨b,rfl,f,g⟩:=hcut;have a:=d.out;have h:(k:Int)<26:=by omega
  obtain⟨h1,h2,h3⟩:=f k a;have e:=Lib.hid h3;clear h3;clear f a;go_wp2_with fail
  go_ret;exact⟨_,rfl,by omega,World.block_lt_of_cell? _ _ h2,h2,g,e.out⟩
end Go.Proofs.YtkfaiocajcjomaaGreatDoor
