import Derived.Test.YtgbklbbknehefaaGreatDoorYaa
set_option maxRecDepth 100000
set_option maxHeartbeats 8000000
set_option linter.all false
namespace TS
open Go
inductive OT where
 |done
 |one (i:Nat) (s:Bool) (r:OT)
 |two (i j:Nat) (ri a:OT)
def OT.depth:OT→Nat
 | .done=>0
 | .one _ _ r=>r.depth+1
 | .two _ _ ri a=>max ri.depth a.depth+1
def iO(ops:Array Oper):OT→Array Bool→Bool
 | .done,listed=>(Region.ready .any ops listed).isEmpty
 | .one i s r,listed=>(if s then Region.free .any ops listed i&&(Region.ready .any ops listed).contains i else Region.ready .any ops listed== [i])&&iO ops r (listed.setIfInBounds i true)
 | .two i j ri a,listed=>Region.ready .any ops listed== [i,j]&&(iO ops ri (listed.setIfInBounds i true)&&iO ops a (listed.setIfInBounds j true))
def eO(P:Program)(ops:Array Oper)(Q:Exit→Act→World→Prop)(S:World→Prop):OT→Act→World→Prop
 | .done,a,w=>Q .normal a w
 | .one i s r,a,w=> ∃o,ops[i]?=some o∧
   if s then ∃v,YieldsIf P ops S o v a∧eO P ops Q S r (a.put o.dst v) w
   else wpOp P ops Q i (fun a' b=>S b∧eO P ops Q S r a' b) a w
 | .two i j ri c,a,w=>wpOp P ops Q i (fun a' b=>S b∧eO P ops Q S ri a' b) a w∧wpOp P ops Q j (fun a' b=>S b∧eO P ops Q S c a' b) a w
section
variable {P:Program} {ops:Array Oper} {Q:Exit→Act→World→Prop} {S:World→Prop}
theorem lq(b:Region.noSelect ops=true)(m:∀c(a:Act) d v w,Q (.panic c) (a.put d v) w→Q (.panic c) a w):
 ∀(l:OT)(listed:Array Bool)(a:Act)(w:World)(fuel:Nat),l.depth≤fuel→iO ops l listed=true→S w→eO P ops Q S l a w→wpAnyH P .any ops Q S fuel listed a w
 | .done,listed,a,w,fuel,_,f,_,h=>wpAnyH_done (by simpa [iO]using f) h fuel
 | .one i s r,listed,a,w,fuel,p,f,q,h=>by
   obtain⟨o,u,h⟩:=h;obtain⟨fuel,rfl⟩:∃n,fuel=n+1:=⟨fuel- 1,by simp[OT.depth]at p;omega⟩
   simp only[iO,Bool.and_eq_true]at f;simp only[OT.depth]at p;cases s with
   |true=>
    simp only[if_true,Bool.and_eq_true]at f h;obtain⟨v,x,h⟩:=h;exact wpAnyH_take u b f.1.1 f.1.2 (fun c a w=>m c a _ _ w) x q (lq b m r _ _ _ fuel (by omega) f.2 q h)
   |false=>
    simp only[Bool.false_eq_true,if_false,beq_iff_eq]at f h;refine wpAnyH_all (rs:= [i]) f.1 (by simp) ?_;intro j y;have:j=i:=by simpa using y
    subst this;exact wpOp_mono (fun a' t g=>⟨g.1,lq b m r _ _ _ fuel (by omega) f.2 g.1 g.2⟩) h
 | .two i j ri z,listed,a,w,fuel,p,f,q,h=>by
   obtain⟨fuel,rfl⟩:∃n,fuel=n+1:=⟨fuel- 1,by simp[OT.depth]at p;omega⟩
   simp only[iO,Bool.and_eq_true,beq_iff_eq]at f;simp only[OT.depth]at p;refine wpAnyH_all (rs:= [i,j]) f.1 (by simp) ?_;intro k hk;by_cases e:k=i
   ·subst e
    exact wpOp_mono (fun a' t g=>⟨g.1,lq b m ri _ _ _ fuel (by omega) f.2.1 g.1 g.2⟩) h.1
   ·have:k=j:=by
     simp only[List.mem_cons,List.not_mem_nil,or_false]at hk;exact hk.resolve_left e
    subst this;exact wpOp_mono (fun a' t g=>⟨g.1,lq b m z _ _ _ fuel (by omega) f.2.2 g.1 g.2⟩) h.2
theorem Dg{id:Nat}{a:Act}{w:World}(S:World→Prop)(l:OT)(hm:P.follows .mixedOrders=true)(b:Region.noSelect ops=true)(d:iO ops l (Array.replicate ops.size false)=true)(e:l.depth≤ops.size)
 (c:S w.drew)(h:S w.drew→eO P ops (NoPanic Q) S l a w.drew):(Code.region id ops true).wp P Q a w:=
 wp_region_noPanic (wp_region_held (S:=S) hm (lq b (fun _ _ _ _ _ h=>h) l _ a w.drew _ e d c (h c)))
theorem mU{a:Act}{w:World}(h:Q .normal a w):eO P ops (NoPanic Q) S .done a w:=h
theorem fv{i:Nat}{r:OT}{o:Oper}{v:Value}{a:Act}{w:World}(b:nth ops.toList i=some o)(hw:Region.wanted o (yielded ops a.tmps)=true)(c:∀W,S W→(execOp a.eval o).run P W= .ok (.value v) W)
 (h:eO P ops Q S r (a.put o.dst v) w):eO P ops Q S (.one i true r) a w:=⟨o,i_ b,by rw[if_pos rfl];exact⟨v,.inl ⟨hw,c⟩,h⟩⟩
theorem ey{i:Nat}{r:OT}{o:Oper}{a:Act}{w:World}(b:nth ops.toList i=some o)(hw:Region.wanted o (yielded ops a.tmps)=true)
 (h:∀K:Act→World→Prop,(∀a w,S w→(S w→eO P ops Q S r a w)→K a w)→o.wp P a w K Q):eO P ops Q S (.one i false r) a w:=by
 have c:=i_ b;refine⟨o,c,?_⟩;rw[if_neg (by simp)];simp only[wpOp,c,hw,if_true];exact .inl (h _ fun a w d h=>⟨d,h d⟩)
theorem pj{i j:Nat}{ri k:OT}{o d:Oper}{a:Act}{w:World}(e:nth ops.toList i=some o)(b:nth ops.toList j=some d)(hw:Region.wanted o (yielded ops a.tmps)=true)(f:Region.wanted d (yielded ops a.tmps)=true)
 (h:∀K:Act→World→Prop,(∀a w,S w→(S w→eO P ops Q S ri a w)→K a w)→o.wp P a w K Q)(h2:∀K:Act→World→Prop,(∀a w,S w→(S w→eO P ops Q S k a w)→K a w)→d.wp P a w K Q):eO P ops Q S (.two i j ri k) a w:=by
 have l:=i_ e;have g:=i_ b;refine⟨?_,?_⟩
 ·simp only[wpOp,l,hw,if_true]
  exact .inl (h _ fun a w c h=>⟨c,h c⟩)
 ·simp only[wpOp,g,f,if_true]
  exact .inl (h2 _ fun a w c h=>⟨c,h c⟩)
end
end TS
