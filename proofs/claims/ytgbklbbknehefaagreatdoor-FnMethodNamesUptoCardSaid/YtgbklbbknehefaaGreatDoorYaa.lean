import Derived.Deep.RegionHeld3
import Derived.OrdersHeld
import Derived.WalkKit
set_option maxRecDepth 100000
set_option maxHeartbeats 8000000
set_option linter.all false
namespace TS
open Go
def jF(ops:Array Oper):List (Nat×Bool)→Array Bool→Bool
 | [],listed=>(Region.ready .any ops listed).isEmpty
 |(i,s)::r,listed=>(if s then Region.free .any ops listed i&&(Region.ready .any ops listed).contains i else Region.ready .any ops listed== [i])&&jF ops r (listed.setIfInBounds i true)
def dJ(P:Program)(ops:Array Oper)(Q:Exit→Act→World→Prop)(S:World→Prop):List (Nat×Bool)→Act→World→Prop
 | [],a,w=>Q .normal a w
 |(i,s)::r,a,w=> ∃o,ops[i]?=some o∧
  if s then ∃v,YieldsIf P ops S o v a∧dJ P ops Q S r (a.put o.dst v) w
  else wpOp P ops Q i (fun a' b=>S b∧dJ P ops Q S r a' b) a w
section
variable {P:Program} {ops:Array Oper} {Q:Exit→Act→World→Prop} {S:World→Prop}
theorem nC(b:Region.noSelect ops=true)(f:∀c(a:Act) d v w,Q (.panic c) (a.put d v) w→Q (.panic c) a w):
 ∀(l:List (Nat×Bool))(listed:Array Bool)(a:Act)(w:World)(fuel:Nat),l.length≤fuel→jF ops l listed=true→S w→dJ P ops Q S l a w→wpAnyH P .any ops Q S fuel listed a w
 | [],listed,a,w,fuel,_,e,_,h=>wpAnyH_done (by simpa [jF]using e) h fuel
 |(i,s)::r,listed,a,w,fuel,k,e,m,h=>by
  obtain⟨o,p,h⟩:=h;obtain⟨fuel,rfl⟩:∃n,fuel=n+1:=⟨fuel- 1,by simp at k;omega⟩
  simp only[jF,Bool.and_eq_true]at e;simp only[List.length_cons]at k;cases s with
  |true=>
   simp only[if_true,Bool.and_eq_true]at e h;obtain⟨v,q,h⟩:=h;exact wpAnyH_take p b e.1.1 e.1.2 (fun c a w=>f c a _ _ w) q m (nC b f r _ _ _ fuel (by omega) e.2 m h)
  |false=>
   simp only[Bool.false_eq_true,if_false,beq_iff_eq]at e h;refine wpAnyH_all (rs:= [i]) e.1 (by simp) ?_;intro j t;have:j=i:=by simpa using t
   subst this;exact wpOp_mono (fun a' u g=>⟨g.1,nC b f r _ _ _ fuel (by omega) e.2 g.1 g.2⟩) h
def nth{α:Type}:List α→Nat→Option α
 | [],_=>none
 |x::_,0=>some x
 |_::r,n+1=>nth r n
theorem qx{α:Type}:∀(l:List α)(n:Nat),nth l n=l[n]?
 | [],_=>by simp[nth]
 |_::_,0=>rfl
 |_::r,n+1=>by simp[nth,qx r n]
theorem i_{ops:Array Oper}{i:Nat}{o:Oper}(h:nth ops.toList i=some o):ops[i]?=some o:=by rw[qx]at h;simpa using h
theorem vw{id:Nat}{a:Act}{w:World}(S:World→Prop)(l:List (Nat×Bool))(hm:P.follows .mixedOrders=true)(b:Region.noSelect ops=true)(d:jF ops l (Array.replicate ops.size false)=true)(e:l.length≤ops.size)
 (c:S w.drew)(h:S w.drew→dJ P ops (NoPanic Q) S l a w.drew):(Code.region id ops true).wp P Q a w:=
 wp_region_noPanic (wp_region_held (S:=S) hm (nC b (fun _ _ _ _ _ h=>h) l _ a w.drew _ e d c (h c)))
theorem bR{a:Act}{w:World}(h:Q .normal a w):dJ P ops (NoPanic Q) S [] a w:=h
theorem vy{i:Nat}{r:List (Nat×Bool)}{o:Oper}{v:Value}{a:Act}{w:World}(b:nth ops.toList i=some o)(hw:Region.wanted o (yielded ops a.tmps)=true)(c:∀W,S W→(execOp a.eval o).run P W= .ok (.value v) W)
 (h:dJ P ops Q S r (a.put o.dst v) w):dJ P ops Q S ((i,true)::r) a w:=⟨o,i_ b,by rw[if_pos rfl];exact⟨v,.inl ⟨hw,c⟩,h⟩⟩
theorem vz{i:Nat}{s:Bool}{r:List (Nat×Bool)}{o:Oper}{a:Act}{w:World}(b:nth ops.toList i=some o)(hw:Region.wanted o (yielded ops a.tmps)=false)(d:S w)
 (h:dJ P ops Q S r (a.put o.dst undef) w):dJ P ops Q S ((i,s)::r) a w:=by
 have c:=i_ b;refine⟨o,c,?_⟩;cases s with
 |true=>rw[if_pos rfl];exact⟨undef,.inr ⟨hw,rfl⟩,h⟩
 |false=>rw[if_neg (by simp)];simp only[wpOp,c,hw];exact⟨d,h⟩
theorem nD{i:Nat}{r:List (Nat×Bool)}{o:Oper}{a:Act}{w:World}(b:nth ops.toList i=some o)(hw:Region.wanted o (yielded ops a.tmps)=true)
 (h:∀K:Act→World→Prop,(∀a w,S w→(S w→dJ P ops Q S r a w)→K a w)→o.wp P a w K Q):dJ P ops Q S ((i,false)::r) a w:=by
 have c:=i_ b;refine⟨o,c,?_⟩;rw[if_neg (by simp)];simp only[wpOp,c,hw,if_true];exact .inl (h _ fun a w d h=>⟨d,h d⟩)
end
end TS
