import Derived.Deep.RegionHeld3
import Derived.OrdersHeld
import Derived.Test.YtkochlhejabdcaaGreatDoorYad
set_option maxRecDepth 100000
set_option maxHeartbeats 8000000
set_option linter.all false
namespace TS
open Go
def kM(ops:Array Oper):List (Nat×Bool)→Array Bool→Bool
 | [],listed=>(Region.ready .any ops listed).isEmpty
 |(i,s)::r,listed=>(if s then Region.free .any ops listed i&&(Region.ready .any ops listed).contains i else Region.ready .any ops listed== [i])&&kM ops r (listed.setIfInBounds i true)
def eA(P:Program)(ops:Array Oper)(Q:Exit→Act→World→Prop)(S:World→Prop):List (Nat×Bool)→Act→World→Prop
 | [],a,w=>Q .normal a w
 |(i,s)::r,a,w=> ∃o,ops[i]?=some o∧
  if s then ∃v,YieldsIf P ops S o v a∧eA P ops Q S r (a.put o.dst v) w
  else wpOp P ops Q i (fun a' b=>S b∧eA P ops Q S r a' b) a w
section
variable {P:Program} {ops:Array Oper} {Q:Exit→Act→World→Prop} {S:World→Prop}
theorem pz(b:Region.noSelect ops=true)(f:∀c(a:Act) d v w,Q (.panic c) (a.put d v) w→Q (.panic c) a w):
 ∀(l:List (Nat×Bool))(listed:Array Bool)(a:Act)(w:World)(fuel:Nat),l.length≤fuel→kM ops l listed=true→S w→eA P ops Q S l a w→wpAnyH P .any ops Q S fuel listed a w
 | [],listed,a,w,fuel,_,e,_,h=>wpAnyH_done (by simpa [kM]using e) h fuel
 |(i,s)::r,listed,a,w,fuel,k,e,m,h=>by
  obtain⟨o,p,h⟩:=h;obtain⟨fuel,rfl⟩:∃n,fuel=n+1:=⟨fuel- 1,by simp at k;omega⟩
  simp only[kM,Bool.and_eq_true]at e;simp only[List.length_cons]at k;cases s with
  |true=>
   simp only[if_true,Bool.and_eq_true]at e h;obtain⟨v,q,h⟩:=h;exact wpAnyH_take p b e.1.1 e.1.2 (fun c a w=>f c a _ _ w) q m (pz b f r _ _ _ fuel zo e.2 m h)
  |false=>
   simp only[Bool.false_eq_true,if_false,beq_iff_eq]at e h;refine wpAnyH_all (rs:= [i]) e.1 zs ?_;intro j t;have:j=i:=by simpa using t
   subst this;exact wpOp_mono (fun a' u g=>⟨g.1,pz b f r _ _ _ fuel zo e.2 g.1 g.2⟩) h
def nth{α:Type}:List α→Nat→Option α
 | [],_=>none
 |x::_,0=>some x
 |_::r,n+1=>nth r n
theorem su{α:Type}:∀(l:List α)(n:Nat),nth l n=l[n]?
 | [],_=>by simp[nth]
 |_::_,0=>rfl
 |_::r,n+1=>by simp[nth,su r n]
theorem jX{ops:Array Oper}{i:Nat}{o:Oper}(h:nth ops.toList i=some o):ops[i]?=some o:=by rw[su]at h;simpa using h
theorem yp{id:Nat}{a:Act}{w:World}(S:World→Prop)(l:List (Nat×Bool))(hm:P.follows .mixedOrders=true)(b:Region.noSelect ops=true)(d:kM ops l (Array.replicate ops.size false)=true)(e:l.length≤ops.size)
 (c:S w.drew)(h:S w.drew→eA P ops (NoPanic Q) S l a w.drew):(Code.region id ops true).wp P Q a w:=
 wp_region_noPanic (wp_region_held (S:=S) hm (pz b (fun _ _ _ _ _ h=>h) l _ a w.drew _ e d c (h c)))
theorem bZ{a:Act}{w:World}(h:Q .normal a w):eA P ops (NoPanic Q) S [] a w:=h
theorem yq{i:Nat}{r:List (Nat×Bool)}{o:Oper}{v:Value}{a:Act}{w:World}(b:nth ops.toList i=some o)(hw:Region.wanted o (yielded ops a.tmps)=true)(c:∀W,S W→(execOp a.eval o).run P W= .ok (.value v) W)
 (h:eA P ops Q S r (a.put o.dst v) w):eA P ops Q S ((i,true)::r) a w:=⟨o,jX b,by rw[if_pos rfl];exact⟨v,.inl ⟨hw,c⟩,h⟩⟩
theorem yu{i:Nat}{s:Bool}{r:List (Nat×Bool)}{o:Oper}{a:Act}{w:World}(b:nth ops.toList i=some o)(hw:Region.wanted o (yielded ops a.tmps)=false)(d:S w)
 (h:eA P ops Q S r (a.put o.dst undef) w):eA P ops Q S ((i,s)::r) a w:=by
 have c:=jX b;refine⟨o,c,?_⟩;cases s with
 |true=>rw[if_pos rfl];exact⟨undef,.inr ⟨hw,rfl⟩,h⟩
 |false=>rw[if_neg zs];simp only[wpOp,c,hw];exact⟨d,h⟩
theorem nv{i:Nat}{r:List (Nat×Bool)}{o:Oper}{a:Act}{w:World}(b:nth ops.toList i=some o)(hw:Region.wanted o (yielded ops a.tmps)=true)
 (h:∀K:Act→World→Prop,(∀a w,S w→(S w→eA P ops Q S r a w)→K a w)→o.wp P a w K Q):eA P ops Q S ((i,false)::r) a w:=by
 have c:=jX b;refine⟨o,c,?_⟩;rw[if_neg zs];simp only[wpOp,c,hw,if_true];exact .inl (h _ fun a w d h=>⟨d,h d⟩)
end
end TS
namespace TS
open Go Go.RowKit
section
variable {P:Program} {ops:Array Oper} {Q:Exit→Act→World→Prop} {S:World→Prop}
theorem oS{i:Nat}{r:List (Nat×Bool)}{o:Oper}{v:Value}{a:Act}{w:World}(h:eA P ops Q S r (a.put o.dst v) w)(b:nth ops.toList i=some o:=by exact rfl)(hw:Region.wanted o (yielded ops a.tmps)=true:=by rfl)
 (c:∀W,S W→(execOp a.eval o).run P W= .ok (.value v) W:=by intro W d;(try dsimp only at d);go_simp<;>with_reducible rfl):eA P ops Q S ((i,true)::r) a w:=yq b hw c h
theorem oF{i:Nat}{s:Bool}{r:List (Nat×Bool)}{o:Oper}{a:Act}{w:World}(c:S w)(h:eA P ops Q S r (a.put o.dst undef) w)(b:nth ops.toList i=some o:=by exact rfl)(hw:Region.wanted o (yielded ops a.tmps)=false:=by rfl):eA P ops Q S ((i,s)::r) a w:=yu b hw c h
theorem oL{i:Nat}{r:List (Nat×Bool)}{o:Oper}{a:Act}{w:World}(h:∀K:Act→World→Prop,(∀a w,S w→(S w→eA P ops Q S r a w)→K a w)→o.wp P a w K Q)(b:nth ops.toList i=some o:=by exact rfl)(hw:Region.wanted o (yielded ops a.tmps)=true:=by rfl):eA P ops Q S ((i,false)::r) a w:=nv b hw h
theorem oR{id:Nat}{a:Act}{w:World}(S:World→Prop)(l:List (Nat×Bool))(c:S w.drew)(h:S w.drew→eA P ops (NoPanic Q) S l a w.drew)
 (hm:P.follows .mixedOrders=true:=by kernel_rfl)(b:Region.noSelect ops=true:=by kernel_rfl)(d:kM ops l (Array.replicate ops.size false)=true:=by kernel_rfl)(e:l.length≤ops.size:=by decide):(Code.region id ops true).wp P Q a w:=yp S l hm b d e c h
end
theorem oa{α:Type}(l:List α)(i:Nat)(x:α):l.toArray.setIfInBounds i x=(l.set i x).toArray:=by simp
theorem ob{α:Type}(x:α)(l:List α)(y:α):(x::l).set 0 y=y::l:=rfl
theorem oc{α:Type}(x:α)(l:List α)(n:Nat)(y:α):(x::l).set (n+1) y=x::l.set n y:=rfl
theorem oK{A:Prop}(h:A:=by((repeat' apply And.intro)<;>first|assumption|exact TS.cell_kept aa (by first|assumption|(go_keep;done))|exact Up.step (by first|assumption|exact ae.drew) aa|exact ae.drew|exact Up.drew ‹_› |(simp;done)|(simp[go_sem];done)|(go_keep;done))):A:=h
theorem kf(j:Int){a b:Int}(h:a=b)(c:(b==j)=false:=by rfl):(a==j)=false:=by rw[h,c]
theorem kt{j a:Int}(h:a=j):(a==j)=true:=by simp[h]
theorem pR:∀u:U,(bare u).sz≤u.sz:=by
 intro u;induction u using U.bc with
 |_ u ih=>
  rw[bare];split
  ·split
   ·rename_i e r he
    have h1:e.sz<u.sz:=U.ar (by rw[he];simp);have:=ih e h1;omega
   ·exact Nat.le_refl _
  ·split
   ·have:bL.sz=1:=by simp[bL,U.sz,jh]
    have:=u.sf;omega
   ·exact Nat.le_refl _
theorem dp(u:U):(under u).sz≤u.sz:=by
 have a:=pR u;rw[under];split
 ·cases b:(bare u).un with
  |nil=>exact a
  |cons x r=>have:=U.iN (u:=bare u) (e:=x) (by rw[b];simp);simp;omega
 ·exact a
def bd(u:U):Bool:=
 if(under u).k=10 then(((under u).es.drop (under u).m.toNat).attach.any fun⟨e,_⟩=>e.k==12||e.k==13|| !isIface e||bd e)else(under u).k==16
termination_by u.sz
decreasing_by
 have h1:=U.ar (List.mem_of_mem_drop ‹_›);have a:=dp u;omega
def aW(e:U):Bool:=e.k !=12&&e.k !=13&&isIface e
def eT(u:U):Bool:=
 (under u).k==16||((under u).es.drop (under u).m.toNat).attach.any fun⟨e,_⟩=>aW e&&eT e
termination_by u.sz
decreasing_by
 have h1:=U.ar (List.mem_of_mem_drop ‹_›);have a:=dp u;omega
theorem iR{u:U}(h:(under u).k=10):bd u=((under u).es.drop (under u).m.toNat).any fun e=>e.k==12||e.k==13|| !isIface e||bd e:=by
 rw[bd];simp[h]
theorem fA{u:U}(h:(under u).k≠10):bd u=((under u).k==16):=by
 rw[bd];simp[h]
theorem sH(u:U):eT u=((under u).k==16||((under u).es.drop (under u).m.toNat).any fun e=>aW e&&eT e):=by
 rw[eT];simp
def cH(f m:U):Bool:=decide (f.nm.toList=m.nm.toList)
def bI(out:List U)(m:U):List U:=if out.any (fun f=>cH f m)then out else out++ [m]
def bF(a b:U):Bool:=Go.Op.bytesLess a.nm.toList b.nm.toList
def b7(l:List U):List U:=l.mergeSort fun a b=> !bF b a
theorem pS:∀l:List UInt8,Go.Op.bytesLess l l=false
 | []=>rfl
 |a::r=>by simp[Go.Op.bytesLess,pS r,UInt8.lt_irrefl]
theorem sK:∀{a b c:List UInt8},Go.Op.bytesLess a b=true→Go.Op.bytesLess b c=true→Go.Op.bytesLess a c=true
 |a,[],c,h,_=>by cases a<;>simp[Go.Op.bytesLess]at h
 |a,b::y,[],_,h=>by simp[Go.Op.bytesLess]at h
 | [],_,c::z,_,_=>by simp[Go.Op.bytesLess]
 |a::x,b::y,c::z,h,k=>by
  simp only[Go.Op.bytesLess,Bool.or_eq_true,decide_eq_true_eq,Bool.and_eq_true,beq_iff_eq]at*;rcases h with h|⟨rfl,h⟩<;>rcases k with k|⟨rfl,k⟩
  ·exact .inl (UInt8.lt_trans h k)
  ·exact .inl h
  ·exact .inl k
  ·exact .inr ⟨rfl,sK h k⟩
theorem sL:∀{a b:List UInt8},Go.Op.bytesLess a b=false→Go.Op.bytesLess b a=false→a=b
 | [],[],_,_=>rfl
 | [],b::y,h,_=>by simp[Go.Op.bytesLess]at h
 |a::x,[],_,h=>by simp[Go.Op.bytesLess]at h
 |a::x,b::y,h,k=>by
  simp only[Go.Op.bytesLess,Bool.or_eq_false_iff,decide_eq_false_iff_not,Bool.and_eq_false_iff,beq_eq_false_iff_ne,ne_eq]at*;have e:a=b:=by
   have h1:=UInt8.not_lt.1 h.1;have c:=UInt8.not_lt.1 k.1;exact UInt8.le_antisymm c h1
  subst e;rw[sL (h.2.resolve_left zs) (k.2.resolve_left zs)]
theorem jo(a:U):bF a a=false:=pS _
theorem iA{a b c:U}(h:bF a b=true)(k:bF b c=true):bF a c=true:=sK h k
theorem kO{a b:U}(h:bF a b=false)(k:bF b a=false):cH a b=true:=by
 simp only[cH,decide_eq_true_eq];exact sL h k
theorem zf{a b:U}(h:cH a b=true):bF a b=false:=by
 simp only[cH,decide_eq_true_eq]at h;unfold bF;rw[h];exact pS _
theorem gV{a b:U}:cH a b=true↔a.nm.toList=b.nm.toList:=by simp[cH]
def an(u:U):List U:=
 if(under u).k=10 then
  b7 (((under u).es.drop (under u).m.toNat).attach.foldl (fun out ⟨e,_⟩=>if aW e then(an e).foldl bI out else out) ((under u).es.take (under u).m.toNat))
 else []
termination_by u.sz
decreasing_by
 have h1:=U.ar (List.mem_of_mem_drop ‹_›);have a:=dp u;omega
def bS(out:List U)(e:U):List U:=if aW e then(an e).foldl bI out else out
def dN(u:U):List U:=(u.es.drop u.m.toNat).foldl bS (u.es.take u.m.toNat)
theorem gJ{u:U}(h:(under u).k=10):an u=b7 (dN (under u)):=by
 rw[an,if_pos h,dN];congr 1;rw[←List.foldl_attach (f:=bS)];rfl
theorem fB{u:U}(h:(under u).k≠10):an u= []:=by rw[an,if_neg h]
theorem zg{out:List U}{m x:U}(h:x∈bI out m):x∈out∨x=m:=by
 unfold bI at h;split at h
 ·exact .inl h
 ·simpa using h
theorem zj{l:List U}:∀{out:List U}{x:U},x∈l.foldl bI out→x∈out∨x∈l:=by
 induction l with
 |nil=>exact fun h=> .inl h
 |cons m r ih=>
  intro out x h;rw[List.foldl_cons]at h;rcases ih h with h|h
  ·rcases zg h with h|rfl
   ·exact .inl h
   ·exact .inr List.mem_cons_self
  ·exact .inr (List.mem_cons_of_mem _ h)
theorem sM{l:List U}:∀{out:List U}{x:U},x∈l.foldl bS out→x∈out∨∃e∈l,aW e=true∧x∈an e:=by
 induction l with
 |nil=>exact fun h=> .inl h
 |cons e r ih=>
  intro out x h;rw[List.foldl_cons]at h;rcases ih h with h|⟨b,a,h⟩
  ·unfold bS at h
   split at h
   ·rename_i c
    rcases zj h with h|h
    ·exact .inl h
    ·exact .inr ⟨e,List.mem_cons_self,c,h⟩
   ·exact .inl h
  ·exact .inr ⟨b,List.mem_cons_of_mem _ a,h⟩
theorem lT{l:List U}{x:U}:x∈b7 l↔x∈l:=List.mem_mergeSort
theorem iS{u x:U}(h:x∈an u):(under u).k=10∧(x∈(under u).es.take (under u).m.toNat∨∃e∈(under u).es.drop (under u).m.toNat,aW e=true∧x∈an e):=by
 by_cases a:(under u).k=10
 ·rw[gJ a,lT]at h
  exact⟨a,sM h⟩
 ·rw[fB a]at h;cases h
theorem kP:∀{u x:U},x∈an u→x.sz<u.sz:=by
 intro u;induction u using U.bc with
 |_ u ih=>
  intro x h;have hu:=dp u;rcases(iS h).2 with h|⟨e,he,_,h⟩
  ·have:=U.ar (List.mem_of_mem_take h);omega
  ·have h1:=U.ar (List.mem_of_mem_drop he)
   have:=ih e zo h;omega
def dH(l:List U):Prop:=l.Pairwise fun a b=>cH a b=false
theorem pT(a b:U):cH a b=cH b a:=by unfold cH;rw[Bool.eq_iff_iff];simp[eq_comm]
theorem sN{l:List U}(h:dH l)(m:U):dH (bI l m):=by
 unfold bI;split
 ·exact h
 ·rename_i c
  simp only[Bool.not_eq_true,List.any_eq_false]at c;unfold dH;rw[List.pairwise_append];exact⟨h,List.pairwise_singleton _ _,fun a ha b d=>by simp at d;subst d;simpa using c a ha⟩
theorem zn{r:List U}:∀{l:List U},dH l→dH (r.foldl bI l):=by
 induction r with
 |nil=>exact fun h=>h
 |cons m r ih=>exact fun h=>ih (sN h m)
theorem zu{l:List U}(h:dH l)(e:U):dH (bS l e):=by
 unfold bS;split
 ·exact zn h
 ·exact h
theorem pU{r:List U}:∀{l:List U},dH l→dH (r.foldl bS l):=by
 induction r with
 |nil=>exact fun h=>h
 |cons m r ih=>exact fun h=>ih (zu h m)
def ef(l:List U):Prop:=l.Pairwise fun a b=>bF a b=true
theorem ef.noTwo{l:List U}(h:ef l):dH l:=h.imp fun{a b} c=>by
 cases d:cH a b
 ·rfl
 ·rw[zf d]at c;cases c
theorem sP{l:List U}(h:dH l):ef (b7 l):=by
 have j:(b7 l).Pairwise fun a b=>(!bF b a)=true:=List.pairwise_mergeSort (le:=fun a b=> !bF b a)
  (fun a b c h1 e=>by
   simp only[Bool.not_eq_true']at*;cases f:bF c a
   ·rfl
   ·cases d:bF a b
    ·cases i:bF b c
     ·have k:=gV.1 (kO d h1)
      unfold bF at*;rw[k]at f;rw[f]at e;cases e
     ·have:=iA i f;rw[this]at h1;cases h1
    ·have:=iA f d;rw[this]at e;cases e)
  (fun a b=>by
   cases h1:bF b a
   ·simp
   ·cases e:bF a b
    ·simp
    ·have:=iA h1 e;rw[jo]at this;cases this) l
 have m:dH (b7 l):=(List.mergeSort_perm l _).symm.pairwise h fun{a b} d=>by rw[pT];exact d
 exact(j.and m).imp fun{a b} ⟨h1,e⟩=>by
  cases d:bF a b
  ·have:=kO d (by simpa using h1);rw[this]at e;cases e
  ·rfl
theorem sQ:∀{l r:List U},l.Perm r→ef l→ef r→l=r
 | [],r,c,_,_=>by simpa using c.symm
 |a::l,[],c,_,_=>by simp at c
 |a::l,b::r,c,i,hr=>by
  have d:=List.pairwise_cons.1 i;have f:=List.pairwise_cons.1 hr;have e:a=b:=by
   rcases List.mem_cons.1 (c.subset List.mem_cons_self:a∈b::r)with e|h
   ·exact e
   ·rcases List.mem_cons.1 (c.symm.subset List.mem_cons_self:b∈a::l)with e|j
    ·exact e.symm
    ·have h1:=f.1 a h
     have k:=d.1 b j;have:=iA h1 k;rw[jo]at this;cases this
  subst e;rw[sQ (List.perm_cons _|>.1 c) d.2 f.2]
theorem pV{l r:List U}(h:dH l)(a:l.Perm r)(hr:ef r):r=b7 l:=
 sQ (a.symm.trans (List.mergeSort_perm l _).symm) hr (sP h)
def bf(x y:U):Bool:=
 if x.k=1∨x.k=3∨x.k=9∨x.k=11 then x.n==y.n
 else if x.k=7 then x.m==y.m&&x.v==y.v
 else if x.k=5 then(x.es.zip y.es).all fun(e,f)=>decide (e.nm.toList=f.nm.toList)&&decide (e.tg.toList=f.tg.toList)
 else true
def aJ(x y:U):Bool:=
 (bare x).k==(bare y).k&&(decide ((bare x).es.length=(bare y).es.length)||(bare x).k==10)&&
 if(bare x).k=10 then
  !bd (bare x)&& !bd (bare y)&&decide ((an (bare x)).length=(an (bare y)).length)&&
   (an (bare y)).all fun m=>(an (bare x)).attach.any fun⟨f,_⟩=>cH f m&&aJ f m
 else bf (bare x) (bare y)&&((bare x).es.attach.zip (bare y).es).all fun(⟨e,_⟩,f)=>aJ e f
termination_by x.sz
decreasing_by
 ·have h1:=kP ‹_›
  have a:=pR x;omega
 ·have h1:=U.ar (u:=bare x) ‹_›
  have a:=pR x;omega
def hasB(l want:List U):Bool:=want.all fun m=>l.any fun f=>cH f m&&aJ f m
theorem zw{α β:Type}(l:List α)(r:List β)(f:α→β→Bool):(l.attach.zip r).all (fun(⟨e,_⟩,g)=>f e g)=(l.zip r).all fun(e,g)=>f e g:=by
 have h:l.zip r=(l.attach.zip r).map fun(x:{a // a∈l}×β)=>(x.1.1,x.2):=by
  rw[show(fun(x:{a // a∈l}×β)=>(x.1.1,x.2))=Prod.map Subtype.val id from rfl,←List.zip_map_left,List.attach_map_subtype_val]
 rw[h,List.all_map];rfl
theorem kQ{x y:U}(h:(bare x).k=10):aJ x y=((bare y).k==10&&(!bd (bare x)&& !bd (bare y)&&decide ((an (bare x)).length=(an (bare y)).length)&&hasB (an (bare x)) (an (bare y)))):=by
 rw[aJ,if_pos h,h,hasB];simp[Bool.beq_comm,eq_comm]
theorem kR{x y:U}(h:(bare x).k≠10):aJ x y=((bare x).k==(bare y).k&&decide ((bare x).es.length=(bare y).es.length)&&(bf (bare x) (bare y)&&((bare x).es.zip (bare y).es).all fun(e,f)=>aJ e f)):=by
 have a:((bare x).k==10)=false:=by simp[h]
 rw[aJ,if_neg h,←zw,a,Bool.or_false]
def aM(u:U):Prop:=bd u=false∧(∀e,∀_:e∈u.es,aM e)∧∀e,∀_:e∈an u,aM e
termination_by u.sz
decreasing_by
 ·exact U.ar ‹_›
 ·exact kP ‹_›
theorem aM.gen{u:U}(h:aM u):bd u=false:=by rw[aM]at h;exact h.1
theorem aM.es{u e:U}(h:aM u)(he:e∈u.es):aM e:=by rw[aM]at h;exact h.2.1 e he
theorem aM.cy{u e:U}(h:aM u)(he:e∈an u):aM e:=by rw[aM]at h;exact h.2.2 e he
theorem sR:aM bL:=by
 have hu:under bL=bL:=by rw[iz]<;>rw[bR]<;>decide
 rw[aM];refine⟨?_,fun e he=>by simp[bL,U.es]at he,fun e he=> ?_⟩
 ·rw[iR (by rw[hu];rfl),hu];rfl
 ·have:=(iS he).2;rw[hu]at this;simp[bL,U.es]at this
theorem aM.bare{len:Nat}:∀{u:U}{pos f:Nat},Pl len u pos f→aM u→aM (bare u):=by
 intro u;induction u using U.bc with
 |_ u ih=>
  intro pos f c h;by_cases a:u.k=2
  ·obtain⟨e,he⟩:=cL (c.form.fL a)
   have d:=c.part 0 (by rw[c.form.fL a];omega);have i:u.es[0]'(by rw[c.form.fL a];omega)=e:=by simp[he]
   rw[i]at d;rw[jU a he];exact ih e (U.ar (by rw[he];simp)) d (h.es (by rw[he];simp))
  ·by_cases b:u.k=14
   ·rw[gI b];exact sR
   ·rw[bR a b];exact h
def aH(x:U):U:=if x.k=13 then x.es.headD x else x
def fC(x y:U):Bool:=
 if isIface (aH x)||isIface (aH y)then true
 else if x.k=13 then !aJ (aH x) (under (aH y))
 else if y.k=13 then !aJ (under (aH x)) (aH y)
 else !aJ (aH x) (aH y)
def eU(u:U):List U:=(u.es.drop u.m.toNat).flatMap fun e=>if e.k=12 then e.es else [e]
theorem jY{u x:U}(h:x∈eU u):x.sz<u.sz:=by
 obtain⟨e,he,a⟩:=List.mem_flatMap.1 h;have h1:=U.ar (List.mem_of_mem_drop he);split at a
 ·have:=U.ar a;omega
 ·simp at a;subst a;exact h1
def cz(u:U):Int:=
 if(under u).k=10 then
  (eU (under u)).attach.foldl (fun n ⟨x,_⟩=>if 50<n then n else if x.k==13|| !isIface x then n+1 else n+cz x) 0
 else 1
termination_by u.sz
decreasing_by
 have h1:=jY ‹_›;have a:=dp u;omega
def bO(n:Int)(x:U):Int:=if 50<n then n else if x.k==13|| !isIface x then n+1 else n+cz x
theorem jZ{u:U}(h:(under u).k=10):cz u=(eU (under u)).foldl bO 0:=by
 rw[cz,if_pos h,←List.foldl_attach (f:=bO)];rfl
theorem pW{u:U}(h:(under u).k≠10):cz u=1:=by rw[cz,if_neg h]
def gW(t:U):Bool:=(t.es.drop t.m.toNat).all fun e=> !aW e||hasB (an t) (an e)
def pX(u:U)(un:List U):U:=match u with| .mk k n m v nm tg es _=> .mk k n m v nm tg es un
def cW(T:List U)(u:U):U:=if u.k=11 then pX u (T[u.n.toNat]?).toList else u
def mt(T:List U)(s:Pt)(u:U)(g:Bool):Bool:=
 match s with
 | .elem=>
   if u.k=12 then(u.es.attach.all fun⟨x,_⟩=>mt T .term x false&& !(aW x&&(decide (0<(an x).length)||eT x)))&&decide (u.es.Pairwise fun y x=>fC x y=true)&&g
   else mt T .term u false&&(g||aW u&& !bd u)
 | .term=>
   if u.k=13 then u.es.attach.all fun⟨e,_⟩=>mt T .type e false&& !isIface e&&aJ e (under e)
   else mt T .type u (isIface u)
 | .type=>
   if u.k=2 then u.es.attach.all fun⟨e,_⟩=>mt T .type e g
   else if u.k=10 then((u.es.drop u.m.toNat).attach.all fun⟨e,_⟩=>mt T .elem e g)&&(((u.es.take u.m.toNat).attach.all fun⟨e,_⟩=>mt T .type e false)&&gW u&&decide (cz u≤50))
   else(g|| !bd (cW T u))&&u.es.attach.all fun⟨e,_⟩=>mt T .type e false
termination_by (u.sz,match s with| .type=>0| .term=>1| .elem=>2)
decreasing_by
 all_goals first
  |exact Prod.Lex.right _ zd
  |exact Prod.Lex.left _ _ (U.ar ‹_›)
  |exact Prod.Lex.left _ _ (U.ar (List.mem_of_mem_take ‹_›))
  |exact Prod.Lex.left _ _ (U.ar (List.mem_of_mem_drop ‹_›))
theorem zx{α:Type}(l:List α)(f:α→Bool):(l.attach.all fun x=>f x.1)=l.all f:=by
 conv=>rhs;rw[←List.attach_map_subtype_val l,List.all_map]
 rfl
section
variable {T:List U} {u:U} {g:Bool}
theorem lU(h:u.k=12):mt T .elem u g=((u.es.all fun x=>mt T .term x false&& !(aW x&&(decide (0<(an x).length)||eT x)))&&decide (u.es.Pairwise fun y x=>fC x y=true)&&g):=by
 rw[mt,if_pos h,←zx u.es fun x=>mt T .term x false&& !(aW x&&(decide (0<(an x).length)||eT x))]
theorem j0(h:u.k≠12):mt T .elem u g=(mt T .term u false&&(g||aW u&& !bd u)):=by rw[mt];simp[h]
theorem lV(h:u.k=13):mt T .term u g=u.es.all fun e=>mt T .type e false&& !isIface e&&aJ e (under e):=by rw[mt];simp[h]
theorem gK(h:u.k≠13):mt T .term u g=mt T .type u (isIface u):=by rw[mt];simp[h]
theorem kS(h:u.k=2):mt T .type u g=u.es.all fun e=>mt T .type e g:=by rw[mt];simp[h]
theorem iT(h:u.k=10):mt T .type u g=(((u.es.drop u.m.toNat).all fun e=>mt T .elem e g)&&(((u.es.take u.m.toNat).all fun e=>mt T .type e false)&&gW u&&decide (cz u≤50))):=by rw[mt];simp[h]
theorem nB(h:u.k≠2)(a:u.k≠10):mt T .type u g=((g|| !bd (cW T u))&&u.es.all fun e=>mt T .type e false):=by rw[mt];simp[h,a]
end
end TS
