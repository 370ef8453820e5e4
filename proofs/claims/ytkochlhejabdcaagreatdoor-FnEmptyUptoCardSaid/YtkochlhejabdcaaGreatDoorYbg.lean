import Derived.Laws.AppendOwnNone
import Derived.Test.YtkochlhejabdcaaGreatDoorYbe
import Derived.Test.YtkochlhejabdcaaGreatDoorYbf
set_option maxRecDepth 100000
set_option maxHeartbeats 8000000
set_option linter.all false
namespace TS
open Go
inductive OT where
 |done
 |one (i:Nat) (s:Bool) (r:OT)
 |two (i j:Nat) (ri a:OT)
def OT.depth:OT→Nat
 | .done=>0
 | .one _ _ r=>r.depth+1
 | .two _ _ ri a=>max ri.depth a.depth+1
def jv(ops:Array Oper):OT→Array Bool→Bool
 | .done,listed=>(Region.ready .any ops listed).isEmpty
 | .one i s r,listed=>(if s then Region.free .any ops listed i&&(Region.ready .any ops listed).contains i else Region.ready .any ops listed== [i])&&jv ops r (listed.setIfInBounds i true)
 | .two i j ri a,listed=>Region.ready .any ops listed== [i,j]&&(jv ops ri (listed.setIfInBounds i true)&&jv ops a (listed.setIfInBounds j true))
def fO(P:Program)(ops:Array Oper)(Q:Exit→Act→World→Prop)(S:World→Prop):OT→Act→World→Prop
 | .done,a,w=>Q .normal a w
 | .one i s r,a,w=> ∃o,ops[i]?=some o∧
   if s then ∃v,YieldsIf P ops S o v a∧fO P ops Q S r (a.put o.dst v) w
   else wpOp P ops Q i (fun a' b=>S b∧fO P ops Q S r a' b) a w
 | .two i j ri c,a,w=>wpOp P ops Q i (fun a' b=>S b∧fO P ops Q S ri a' b) a w∧wpOp P ops Q j (fun a' b=>S b∧fO P ops Q S c a' b) a w
section
variable {P:Program} {ops:Array Oper} {Q:Exit→Act→World→Prop} {S:World→Prop}
theorem mr(b:Region.noSelect ops=true)(m:∀c(a:Act) d v w,Q (.panic c) (a.put d v) w→Q (.panic c) a w):
 ∀(l:OT)(listed:Array Bool)(a:Act)(w:World)(fuel:Nat),l.depth≤fuel→jv ops l listed=true→S w→fO P ops Q S l a w→wpAnyH P .any ops Q S fuel listed a w
 | .done,listed,a,w,fuel,_,f,_,h=>wpAnyH_done (by simpa [jv]using f) h fuel
 | .one i s r,listed,a,w,fuel,p,f,q,h=>by
   obtain⟨o,u,h⟩:=h;obtain⟨fuel,rfl⟩:∃n,fuel=n+1:=⟨fuel- 1,by simp[OT.depth]at p;omega⟩
   simp only[jv,Bool.and_eq_true]at f;simp only[OT.depth]at p;cases s with
   |true=>
    simp only[if_true,Bool.and_eq_true]at f h;obtain⟨v,x,h⟩:=h;exact wpAnyH_take u b f.1.1 f.1.2 (fun c a w=>m c a _ _ w) x q (mr b m r _ _ _ fuel zo f.2 q h)
   |false=>
    simp only[Bool.false_eq_true,if_false,beq_iff_eq]at f h;refine wpAnyH_all (rs:= [i]) f.1 zs ?_;intro j y;have:j=i:=by simpa using y
    subst this;exact wpOp_mono (fun a' t g=>⟨g.1,mr b m r _ _ _ fuel zo f.2 g.1 g.2⟩) h
 | .two i j ri z,listed,a,w,fuel,p,f,q,h=>by
   obtain⟨fuel,rfl⟩:∃n,fuel=n+1:=⟨fuel- 1,by simp[OT.depth]at p;omega⟩
   simp only[jv,Bool.and_eq_true,beq_iff_eq]at f;simp only[OT.depth]at p;refine wpAnyH_all (rs:= [i,j]) f.1 zs ?_;intro k hk;by_cases e:k=i
   ·subst e
    exact wpOp_mono (fun a' t g=>⟨g.1,mr b m ri _ _ _ fuel zo f.2.1 g.1 g.2⟩) h.1
   ·have:k=j:=by
     simp only[List.mem_cons,List.not_mem_nil,or_false]at hk;exact hk.resolve_left e
    subst this;exact wpOp_mono (fun a' t g=>⟨g.1,mr b m z _ _ _ fuel zo f.2.2 g.1 g.2⟩) h.2
theorem qB{id:Nat}{a:Act}{w:World}(S:World→Prop)(l:OT)(hm:P.follows .mixedOrders=true)(b:Region.noSelect ops=true)(d:jv ops l (Array.replicate ops.size false)=true)(e:l.depth≤ops.size)
 (c:S w.drew)(h:S w.drew→fO P ops (NoPanic Q) S l a w.drew):(Code.region id ops true).wp P Q a w:=
 wp_region_noPanic (wp_region_held (S:=S) hm (mr b (fun _ _ _ _ _ h=>h) l _ a w.drew _ e d c (h c)))
theorem jw{a:Act}{w:World}(h:Q .normal a w):fO P ops (NoPanic Q) S .done a w:=h
theorem dR{i:Nat}{r:OT}{o:Oper}{v:Value}{a:Act}{w:World}(b:nth ops.toList i=some o)(hw:Region.wanted o (yielded ops a.tmps)=true)(c:∀W,S W→(execOp a.eval o).run P W= .ok (.value v) W)
 (h:fO P ops Q S r (a.put o.dst v) w):fO P ops Q S (.one i true r) a w:=⟨o,jX b,by rw[if_pos rfl];exact⟨v,.inl ⟨hw,c⟩,h⟩⟩
theorem dx{i:Nat}{r:OT}{o:Oper}{a:Act}{w:World}(b:nth ops.toList i=some o)(hw:Region.wanted o (yielded ops a.tmps)=true)
 (h:∀K:Act→World→Prop,(∀a w,S w→(S w→fO P ops Q S r a w)→K a w)→o.wp P a w K Q):fO P ops Q S (.one i false r) a w:=by
 have c:=jX b;refine⟨o,c,?_⟩;rw[if_neg zs];simp only[wpOp,c,hw,if_true];exact .inl (h _ fun a w d h=>⟨d,h d⟩)
theorem ki{i j:Nat}{ri k:OT}{o d:Oper}{a:Act}{w:World}(e:nth ops.toList i=some o)(b:nth ops.toList j=some d)(hw:Region.wanted o (yielded ops a.tmps)=true)(f:Region.wanted d (yielded ops a.tmps)=true)
 (h:∀K:Act→World→Prop,(∀a w,S w→(S w→fO P ops Q S ri a w)→K a w)→o.wp P a w K Q)(l:∀K:Act→World→Prop,(∀a w,S w→(S w→fO P ops Q S k a w)→K a w)→d.wp P a w K Q):fO P ops Q S (.two i j ri k) a w:=by
 have m:=jX e;have g:=jX b;refine⟨?_,?_⟩
 ·simp only[wpOp,m,hw,if_true]
  exact .inl (h _ fun a w c h=>⟨c,h c⟩)
 ·simp only[wpOp,g,f,if_true]
  exact .inl (l _ fun a w c h=>⟨c,h c⟩)
end
end TS
namespace Go.Proofs.YtkochlhejabdcaaGreatDoor
open Go.RowKit TS Tryz
theorem DB(len:Nat)(p:Pm)(g:Ge)(B:Nat)(v:Value)(rs:List Nat)(R:List Tm)(a:Option Addr)(n c:Nat)(f:Nat→Nat)(D:List Tm)(w:World)(V:aA p g w)(hT:cB p g B w v rs R)(W:∀b,v.ownBlock=some b→∀o,p b o=none)(hB:B≤w.heap.size)(hG:5<B)
 (X:n=D.length)(hl:n≤1048576)(PZ:rs.length≤1048576)(ha:a=none→c=0)(Y:∀x,a=some x→x.spot=none)(hp:bJ w a n f)(hy:∀i(h:i<D.length),bh p g D[i] (f i))(ok:∀t∈R,dS len t)(L:∀t∈D,dS len t):
 Xk 184 #[v,.slice a n c] w fun e F=>
  ∃q r l,e= .returned r∧aN p q B∧aA q g F∧cB q g w.heap.size F r l (gN R D)∧Kept (fun k=>v.ownBlock=some k) w F∧∀b,r.ownBlock=some b→∀o,q b o=none:=by
 obtain⟨Z,vc,rfl⟩:=a_ hT.own
 have E:∀(C:World)(v1:Value),Kept (fun k=>(Value.slice Z rs.length vc).ownBlock=some k) w C→C.ownsRow B 164 1 v1 (rs.length+n) (rs.map pv++(List.range n).map fun i=>pv (f i))→(v1.ownBlock=(Value.slice Z rs.length vc).ownBlock∨∃k,v1.ownBlock=some k∧w.heap.size≤k)→
  ∃J c1,v1= .slice J (rs.length+n) c1∧Xk 222 #[v1] C fun e F=> ∃q r l,e= .returned r∧aN p q B∧aA q g F∧cB q g w.heap.size F r l (gN R D)∧Kept (fun k=>(Value.slice Z rs.length vc).ownBlock=some k) w F∧∀b,r.ownBlock=some b→∀o,q b o=none:=by
  intro C v1 Q ho hv;have PG:aA p g C:=V.own Q (fun b K=>W b K) fun e=>by have:=(hT.own.lt _ e).1;omega
  have PH:cB p g B C v1 (rs++(List.range n).map f) (R++D):=by
   refine⟨by simpa [List.map_map,Function.comp_def]using ho,by simp[hT.len,X],fun i hi P0=> ?_⟩;have hl:=hT.len;by_cases s:i<R.length
   ·rw[List.getElem_append_left s,List.getElem_append_left zo];exact hT.cJ i s zo
   ·rw[List.getElem_append_right zo,List.getElem_append_right zo]
    simp only[List.getElem_map,List.getElem_range];have:=hy (i- R.length) (by simp at hi;omega);rw[hl];exact this
  obtain⟨q,J,c1,S,PI,PJ,M,P1,PK⟩:=mO PG PH fun b K=>by
   rcases hv with e|⟨k,e,hk⟩
   ·rw[e]at K;exact W b K
   ·rw[e]at K;cases K;exact fun o=>V.kw.aF hk o
  have hlen:(rs++(List.range n).map f).length=rs.length+n:=zs;rw[hlen]at S M;refine⟨J,c1,S,?_⟩;subst S;refine(vF len q g J (rs.length+n) c1 _ (R++D) C (by simp[hT.len,X]) zo PJ M PK fun t ht=>(List.mem_append.1 ht).elim (ok t) (L t)).mono ?_;rintro e w2 ⟨q2,v2,PL,rfl,PM,PN,G,PO,PQ⟩;exact⟨q2,v2,PL,rfl,PI.trans PM (by have:=Q.size;omega),PN,⟨jr G.own Q.size,G.len,G.cJ⟩,Q.below PO,PQ⟩
 have d:=zh E;have y:=zh hT.own;obtain⟨i1,hj,PR,PS,PT⟩:=info_parts qJ;have z:=zh hp;have PU:=zh hB;clear V hT W hG hy ok L hp E X;match a,ha,Y,z with
 |none,ha,_,z=>
  have PW:=ha rfl;have PX:n=0:=by
   rcases Nat.eq_zero_or_pos n with h|h
   ·exact h
   ·obtain⟨_,_,e,_⟩:=z.out 0 h;cases e
  subst PW;subst PX;have hF:=d.out w _ (Kept.refl _ _) (by simpa using y.out) (.inl rfl);obtain⟨J,c1,S,hF⟩:=hF;have H:=zh hF;clear hF d ha;go_enter func184,ntmps184;go_wp2_with (first|(at_builtin;refine wpList_append_own_none rfl _ _ 136 rfl B 164 i1 1 underlying136 hj _ _ _ rfl y.out rfl ?_)|fail)
  refine H.out.mono ?_;rintro e w2 ⟨q,r,l,rfl,h⟩;have h':=zh h;clear h;go_wp2_with fail
  go_ret;exact⟨q,r,l,rfl,h'.out⟩
 |some ad,_,Y,z=>
  have A:=Y ad rfl;obtain⟨T,U,sp⟩:=ad;simp only at A;subst A;have I:Hid (∀j u,((List.range n).map fun i=>pv (f i))[j]?=some u→w.cell? (((Xa T U):Addr).add j)=some u):=fun j u hu=>by
   rw[List.getElem?_map]at hu;obtain⟨i,hi,rfl⟩:=Option.map_eq_some_iff.1 hu;have PY:=List.getElem?_eq_some_iff.1 hi;obtain⟨s,e⟩:=PY;simp at s e;subst e;obtain⟨b0,o0,e0,hc⟩:=z.out j s;cases e0;rw[show((Xa T U):Addr).add j=(Xa T (U+j)) by unfold Addr.add;split<;>simp_all];exact hc
  have N:Hid (∀u∈(List.range n).map (fun i=>pv (f i)),u.oneCell'=true):=fun u hu=>by obtain⟨i,_,rfl⟩:=List.mem_map.1 hu;rfl
  go_enter func184,ntmps184;go_wp2_with (first|(at_builtin;refine wpList_append_own_at _ rfl _ _ 136 rfl B 164 i1 (.pointer none) 1 8 underlying136 hj PR PS PT rfl zd _ _ _ rfl y.out (Xa T U) n c ((List.range n).map fun i=>pv (f i)) rfl zs I.out N.out ?c3 ?c4 ?c5 ?_)|fail)
  case c3=>unfold maxLen;omega
  case c4=>omega
  case c5=>exact PU.out
  intro v1 C m O _ P;obtain⟨J,c1,rfl⟩:=a_ m;have hF:=d.out C _ ((Kept.refl _ _).grown O fun k hk _=>hk) m (by
   rcases P with e|e
   ·exact .inl e
   ·exact .inr ⟨_,e,Nat.le_refl _⟩)
  obtain⟨a2,c2,e2,hF⟩:=hF;have H:=zh hF;clear hF d m O P e2;go_wp2_with fail
  refine H.out.mono ?_;rintro e w2 ⟨q,r,l,rfl,h⟩;have h':=zh h;clear h;go_wp2_with fail
  go_ret;exact⟨q,r,l,rfl,h'.out⟩
end Go.Proofs.YtkochlhejabdcaaGreatDoor
namespace TS
open Go Go.RowKit
def bB(W:List (Bool×U))(l:List Tm):Prop:=l= [none]∨(l.Nodup∧none ∉ l∧∀t∈l,∃x∈W,t=some x)
theorem vQ(W:List (Bool×U)):bB W []:= .inr ⟨List.nodup_nil,by simp,fun t h=>by cases h⟩
theorem vR{W:List (Bool×U)}{x:Bool×U}(h:x∈W):bB W [some x]:= .inr ⟨by simp,by simp,fun t a=>⟨x,h,by simpa using a⟩⟩
theorem bB.mono{W d:List (Bool×U)}{l:List Tm}(h:bB W l)(f:∀x∈W,x∈d):bB d l:=h.imp id fun⟨a,b,c⟩=>⟨a,b,fun t g=>let⟨x,i,e⟩:=c t g;⟨x,f x i,e⟩⟩
theorem bB.len{W:List (Bool×U)}{l:List Tm}(h:bB W l){n:Nat}(d:W.length≤n)(h1:1≤n):l.length≤n:=by
 rcases h with rfl|⟨a,_,hm⟩
 ·simpa using h1
 ·have:= @nF Tm (Classical.typeDecidableEq Tm) l (W.map some) a fun t b=>by obtain⟨x,c,e⟩:=hm t b;rw[e];exact List.mem_map_of_mem c
  simp at this;omega
def RW(W:List (Bool×U)):Prop:=∀x∈W,gm x x=false
theorem bB.rt{W:List (Bool×U)}{l:List Tm}(b:RW W)(h:bB W l):RT l:=fun x a=>by
 rcases h with rfl|⟨_,_,hm⟩
 ·simp at a
 ·obtain⟨y,c,e⟩:=hm _ a
  cases e;exact b _ c
theorem bB.cP{W:List (Bool×U)}{l m:List Tm}(c:∀t∈l,t=none∨∃x∈W,t=some x)(h:nR l m):bB W m:=by
 rcases h with e|⟨h1,b,d⟩
 ·exact .inl e
 ·refine .inr ⟨h1,b,fun t a=> ?_⟩
  rcases c t (d t a)with e|h
  ·rw[e]at a;exact absurd a b
  ·exact h
theorem bB.any{W:List (Bool×U)}{l:List Tm}(h:bB W l):∀t∈l,t=none∨∃x∈W,t=some x:=fun t a=>by
 rcases h with rfl|⟨_,_,hm⟩
 ·simp at a;exact .inl a
 ·exact .inr (hm t a)
theorem bB.join{W:List (Bool×U)}{l m:List Tm}(a:RW W)(h:bB W l)(k:bB W m):bB W (gN l m):=
 bB.cP (fun t b=>(List.mem_append.1 b).elim (h.any t) (k.any t)) (Al (h.rt a) (k.rt a))
theorem bB.meet{W:List (Bool×U)}{l m:List Tm}(a:RW W)(h:bB W l)(k:bB W m):bB W (b8 l m):=
 bB.cP (fun t b=>(List.mem_append.1 b).elim (h.any t) (k.any t)) (Ak (h.rt a) (k.rt a))
theorem bB.sub{W:List (Bool×U)}{l m:List Tm}(h:bB W l)(a:m.Sublist l):m= []∨bB W m:=by
 rcases h with rfl|⟨h1,b,c⟩
 ·cases m with
  |nil=>exact .inl rfl
  |cons x r=>right;left;exact a.eq_of_length_le zs
 ·exact .inr (.inr ⟨h1.sublist a,fun hm=>b (a.subset hm),fun t d=>c t (a.subset d)⟩)
theorem bB.DG{W:List (Bool×U)}{l m:List Tm}(h:bB W l)(a:m.Sublist l):bB W m:=by
 rcases h.sub a with rfl|h
 ·exact vQ W
 ·exact h
theorem DH:∀{l:List Tm}{x:Bool×U},none ∉ l→∃z b,bP (some x) l=some (some z,b)∧none ∉ b:=by
 intro l;induction l with
 |nil=>exact fun{x} _=>⟨x,[],rfl,by simp⟩
 |cons y r ih=>
  intro x h;match y,h with
  |none,h=>exact absurd List.mem_cons_self h
  |some y,h=>
   have hr:none ∉ r:=fun hm=>h (List.mem_cons_of_mem _ hm);rw[bP];split
   ·obtain⟨z,b,h1,c⟩:=ih (x:=x) hr
    exact⟨z,some y::b,by rw[h1];rfl,by simpa using c⟩
   ·rename_i z a
    match z,a with
    |none,a=>
     simp only[cQ]at a;split at a
     ·cases a
     ·split at a<;>cases a
    |some z,a=>
     rw[if_neg zs];exact ih hr
theorem DI:∀{l:List Tm},none ∉ l→∃m,cX l=some m∧none ∉ m:=by
 intro l;induction d:l.length using Nat.strongRecOn generalizing l with
 |_ n ih=>
  subst d;intro h;match l,h with
  | [],_=>exact⟨[],by rw[cX],by simp⟩
  |none::r,h=>exact absurd List.mem_cons_self h
  |some x::r,h=>
   obtain⟨z,e,a,b⟩:=DH (l:=r) (x:=x) fun hm=>h (List.mem_cons_of_mem _ hm);have g:=mi a;obtain⟨m,h1,f⟩:=ih e.length zp rfl b;refine⟨some z::m,?_,by simpa using f⟩;rw[cX];split
   ·rename_i c;rw[c]at a;cases a
   ·rename_i z2 i c
    rw[c]at a;cases a;rw[h1];rfl
theorem vS{l:List Tm}(h:none ∉ l):none ∉ eh l:=by
 obtain⟨m,h1,a⟩:=DI h;unfold eh;rw[h1];exact a
theorem DJ{l m:List Tm}(h:none ∉ l)(k:none ∉ m):none ∉ gN l m:=vS fun hm=>(List.mem_append.1 hm).elim h k
theorem vT{l m:List Tm}(h:none ∉ l∨none ∉ m):none ∉ b8 l m:=by
 unfold b8;split
 ·simp
 ·refine vS fun hm=> ?_
  simp only[List.mem_flatMap,List.mem_filterMap]at hm;obtain⟨x,a,y,b,e⟩:=hm;match x,y,a,b,e with
  |none,none,a,b,_=>exact h.elim (fun h=>h a) fun h=>h b
  |none,some y,_,_,e=>cases e
  |some x,none,_,_,e=>cases e
  |some x,some y,_,_,e=>
   simp only[cq]at e;split at e
   ·cases e
   ·split at e<;>cases e
theorem oG{W:List (Bool×U)}{l:List Tm}(h:bB W l)(a:none∈l):l= [none]:=h.elim id fun⟨_,b,_⟩=>absurd a b
end TS
namespace Go.Proofs.YtkochlhejabdcaaGreatDoor
open Go.RowKit TS Tryz
theorem wJ{D:Dl}{T:List U}{NS:List (List UInt8)}{i:Nat}(E:Env D T NS i)(p:Pm)(dc:Nat){x:U}{pos:Nat}(h:cD D T NS i x pos 2)(A:x.k≠12)(hM:jc D dc T NS i x)(B:∀e∈x.es,jc D dc T NS i e)
 (hT:eV p D T)(a:Option Addr)(c:Nat)(w:World)(hu:ai p D x a c)(hw:KW p w):
 Xk 189 #[Xd D dc,Xt x a c] w (RB (mt T .term x false) w):=by
 by_cases j:x.k=13
 ·have t13:(x.k==13)=true:=by simp[j]
  have h1:=h.pl.form.gM j;obtain⟨e,he⟩:=cL h1;have n:=h.nO zo A 0 zo;have C:x.es[0]'zo=e:=by simp[he]
  rw[C,show aO x 0 2=2 by unfold aO;rw[if_pos rfl]]at n;have hk:=n.pl.form.aD;obtain⟨b,o,rfl⟩:=hu.list.bg zo;obtain⟨a',c',h7,r⟩:=hu.list.get 0 zo;simp only[C,Nat.zero_mul,Nat.add_zero]at h7 r;have H:Hid (mt T .term x false=(mt T .type e false&& !isIface e&&aJ e (under e))):=by unfold Hid;rw[lV j,he];simp
  have hl:0<x.es.length:=zo;have PI:(0:Int)<x.es.length:=zo;have s:=fun W l=>B e (by rw[he];simp) false p 0 2 a' c' W n hk.1 hk.2 hT r l;have v:=fun W l=>fM p D dc e 0 2 a' c' W n.pl zo zo hk.1 hk.2 r l;have ae:Up p w ((w.alloc (Xt x (Xa b o) c)).alloc (Xt e a' c')):=((Up.refl hw).alloc _).alloc _;obtain⟨z0,z1,z2,z3,z4,z5,z6⟩:TS.C7 w b o e a' c':=h7.world hw;have hb:=hw.lt h7.1;have PJ:=zh he;clear he h7 C h1 j hM B;cases hm:mt T .type e false
  ·have m:=fun W l=>aT (s W l) hm
   have hF:Hid (false=mt T .term x false):=by unfold Hid;rw[H.out,hm];rfl
   clear s hm v H n h hk;go_enter func189,ntmps189;go_wp2_with fail
   refine oR (fun W=>(Xl W (w+1) e a' c')∧Up p w W) [(0,true),(1,true),(2,false),(3,true),(4,true),(5,true),(6,false),(7,true),(8,true),(9,true),(10,true),(11,true),(12,true),(13,true),(14,false),(15,false),(16,true),(17,true)] oK (fun d=> ?_);repeat(first|(refine oS ?_;try simp only[Act.put,oa,ob,oc])|(refine oF d ?_;try simp only[Act.put,oa,ob,oc])|(refine oL fun K f=> ?_;go_simp;(go_at_call 42;(with_reducible refine(m _ (Up.kw (by first|assumption|exact ae.drew))).mono ?_);rintro y Q ⟨rfl,aa⟩;(try simp only[]);refine f _ _ oK fun d=> ?_;clear f K;try simp only[Act.put,oa,ob,oc])))
   refine bZ ?_;have F:=d.2.up;clear aa d;go_wp2_with fail
   go_ret;exact⟨_,rfl,hF.out,F⟩
  have m:=fun W l=>aT (s W l) hm;cases hi:isIface e
  case true=>
   have t:=fun W l=>aT (v W l) hi;have hF:Hid (false=mt T .term x false):=by unfold Hid;rw[H.out,hm,hi];rfl
   clear s hm v H n h hk hi;go_enter func189,ntmps189;go_wp2_with fail
   refine oR (fun W=>(Xl W (w+1) e a' c')∧Up p w W) [(0,true),(1,true),(2,false),(3,true),(4,true),(5,true),(6,false),(7,true),(8,true),(9,true),(10,true),(11,true),(12,true),(13,true),(14,false),(15,false),(16,true),(17,true)] oK (fun d=> ?_);repeat(first|(refine oS ?_;try simp only[Act.put,oa,ob,oc])|(refine oF d ?_;try simp only[Act.put,oa,ob,oc])|(refine oL fun K f=> ?_;go_simp;first|(go_at_call 42;(with_reducible refine(m _ (Up.kw (by first|assumption|exact ae.drew))).mono ?_);rintro y Q ⟨rfl,aa⟩;(try simp only[]);refine f _ _ oK fun d=> ?_;clear f K;try simp only[Act.put,oa,ob,oc])|(go_at_call 22;obtain⟨⟨L,s1,s2,M,N,O,P⟩,z⟩:=d;(with_reducible refine(t _ z.kw).mono ?_);rintro y w2 ⟨rfl,aa⟩;(try simp only[]);refine f _ _ oK fun d=> ?_;clear f K;try simp only[Act.put,oa,ob,oc])))
   refine bZ ?_;have F:=d.2.up;clear aa d;go_wp2_with fail
   go_ret;exact⟨_,rfl,hF.out,F⟩
  have t:=fun W l=>aT (v W l) hi;have hF:Hid (aJ e (under e)=mt T .term x false):=by unfold Hid;rw[H.out,hm,hi];rfl
  obtain⟨I,J⟩:=qo E n zo hk.1 hk.2 hm hi;obtain⟨fu,R,PH,u,S,_⟩:=n.pl.under zo zo hk.1 hk.2;have V:=fun W l=>f_ p D dc e 0 2 a' c' W n.pl zo zo hk.1 hk.2 r l;have hC:=zh (k_ D dc NS E.cP e (under e) _ _ _ _ n.pl zo hk.1 hk.2 u R u.form.aD.1 u.form.aD.2 I J n.aI n.aI.under);clear s hm v H n h hk hi I J u S;go_enter func189,ntmps189;go_wp2_with fail
  refine oR (fun W=>(Xl W (w+1) e a' c')∧Up p w W) [(0,true),(1,true),(2,false),(3,true),(4,true),(5,true),(6,false),(7,true),(8,true),(9,true),(10,true),(11,true),(12,true),(13,true),(14,false),(15,false),(16,true),(17,true)] oK (fun d=> ?_);repeat(first|(refine oS ?_;try simp only[Act.put,oa,ob,oc])|(refine oF d ?_;try simp only[Act.put,oa,ob,oc])|(refine oL fun K f=> ?_;go_simp;first|(go_at_call 42;(with_reducible refine(m _ (Up.kw (by first|assumption|exact ae.drew))).mono ?_);rintro y Q ⟨rfl,aa⟩;(try simp only[]);refine f _ _ oK fun d=> ?_;clear f K;try simp only[Act.put,oa,ob,oc])|(go_at_call 22;obtain⟨⟨L,s1,s2,M,N,O,P⟩,z⟩:=d;(with_reducible refine(t _ z.kw).mono ?_);rintro y w2 ⟨rfl,aa⟩;(try simp only[]);refine f _ _ oK fun d=> ?_;clear f K;try simp only[Act.put,oa,ob,oc])|(go_at_call 8;obtain⟨⟨L,s1,s2,M,N,O,P⟩,z⟩:=d;(with_reducible refine(V _ z.kw).mono ?_);rintro y w3 ⟨q,a6,c6,rfl,X,Y,Z,aa⟩;(try simp only[]);refine f _ _ oK fun d=> ?_;clear f K;try simp only[Act.put,oa,ob,oc])|(go_at_call 15;obtain⟨⟨L,s1,s2,M,N,O,P⟩,z⟩:=d;(refine(hC.out q a' c' a6 c6 _ (ai.sub X.le _ r) Z Y).mono ?_);rintro y w4 ⟨b,rfl,G,aa⟩;(try simp only[]);refine f _ _ oK fun d=> ?_;clear f K;try simp only[Act.put,oa,ob,oc])))
  refine bZ ?_;have F:=d.2.up;clear aa d;go_wp2_with fail
  go_ret;exact⟨_,rfl,G.out.trans hF.out,F⟩
 ·have t13:(x.k==13)=false:=by simp[j]
  have v:=fun W l=>fM p D dc x pos 2 a c W h.pl zo zo A j hu l;have hF:Hid (mt T .term x false=mt T .type x (isIface x)):=gK j;obtain⟨g,C⟩:∃g,g=isIface x:=⟨_,rfl⟩
  have t:=fun W l=>aT (v W l) C.symm;rw[←C]at hF;have PG:=fun W l=>hM g p pos 2 a c W h A j hT hu l;have ae:Up p w (w.alloc (Xt x a c)):=(Up.refl hw).alloc _;rw[hF.out];clear hM B h v C j hF;go_enter func189,ntmps189;go_wp2_with fail
  refine oR (fun W=>(Xl W w x a c)∧Up p w W) [(0,true),(1,true),(2,true),(3,true),(4,false),(5,false),(6,true)] oK (fun d=> ?_);repeat(first|(refine oS ?_;try simp only[Act.put,oa,ob,oc])|(refine oF d ?_;try simp only[Act.put,oa,ob,oc])|(refine oL fun K f=> ?_;go_simp;first|(go_at_call 22;(with_reducible refine(t _ (Up.kw (by first|assumption|exact ae.drew))).mono ?_);rintro y w2 ⟨rfl,aa⟩;(try simp only[]);refine f _ _ oK fun d=> ?_;clear f K;try simp only[Act.put,oa,ob,oc])|(go_at_call 42;obtain⟨⟨L,s1,s2,M,N,O,P⟩,z⟩:=d;(with_reducible refine(PG _ z.kw).mono ?_);rintro y Q ⟨b,rfl,G,aa⟩;(try simp only[]);refine f _ _ oK fun d=> ?_;clear f K;try simp only[Act.put,oa,ob,oc])))
  refine bZ ?_;have F:=d.2.up;clear aa d;go_wp2_with fail
  go_ret;exact⟨_,rfl,G.out,F⟩
theorem wK(p:Pm)(D:Dl)(dc:Nat)(x y:U)(a:Option Addr)(c:Nat)(a':Option Addr)(c':Nat)(w:World)(e:∀W,KW p W→Xk 193 #[Xd D dc,Xt x a c,Xt y a' c'] W (RB (fC x y) W))(hw:KW p w)(f g:Nat)
 (h1:Xc w f 0 (Xd D dc))(h7:(Xl w g x a c)):
 Xk 192 #[Xt y a' c',Xp f,Xp g] w (RB (!fC x y) w):=by
 obtain⟨i,k,l,m,n,o,q⟩:=h7;have b1:=zb h1;have j:=zb i;simp only at b1 j;have ae:Up p w (w.alloc (Xt y a' c')):=(Up.refl hw).alloc _;generalize fC x y=r at*;go_enter func192,ntmps192;go_wp2_with fail
 refine(e _ ae.kw).mono ?_;rintro s t ⟨b,rfl,h,aa⟩;have d:=(ae.step aa).up;have hF:Hid ((!b)= !r):=by unfold Hid;rw[h.out]
 clear h aa e;go_wp2_with fail
 go_ret;exact⟨_,rfl,hF,d⟩
def eY(T:List U)(x:U):Bool:=mt T .term x false&& !(aW x&&(decide (0<(an x).length)||eT x))
theorem wL{T:List U}{u:U}{g:Bool}(h:u.k=12):mt T .elem u g=(u.es.all (eY T)&&decide (u.es.Pairwise fun y x=>fC x y=true)&&g):=lU h
theorem E0{T:List U}{u:U}{g:Bool}(h:u.k=12){k:Nat}(hk:k<u.es.length)(a:eY T u.es[k]=false∨((u.es.take k).any fun y=> !fC u.es[k] y)=true):mt T .elem u g=false:=by
 rw[wL h];rcases a with a|a
 ·rw[show u.es.all (eY T)=false by rw[List.all_eq_false];exact⟨_,zm hk,by rw[a];simp⟩];rfl
 ·rw[decide_eq_false ?_]
  ·simp
  ·intro c
   obtain⟨y,d,b⟩:=List.any_eq_true.1 a;have:=c.sublist (List.take_sublist (k+1) _);rw[List.take_succ_eq_append_getElem hk,List.pairwise_append]at this;have e:=this.2.2 y d u.es[k] zs;rw[e]at b;cases b
theorem E1{D:Dl}{T:List U}{NS:List (List UInt8)}{i:Nat}(E:Env D T NS i)(p:Pm)(dc:Nat){e:U}(h:cD D T NS i e 2 2)(hM:jc D dc T NS i e)(PN:∀x∈e.es,jc D dc T NS i x∧∀y∈x.es,jc D dc T NS i y)
 (hT:eV p D T)(g:Bool)(a:Option Addr)(c:Nat)(w:World)(hu:ai p D e a c)(hw:KW p w):
 Xk 141 #[Xd D dc,Xt e a c,.bool g] w (RB (mt T .elem e g) w):=by
 obtain⟨r,hr⟩:∃r,r=mt T .elem e g:=⟨_,rfl⟩
 rw[←hr];have ae:Up p w ((w.alloc (.cells #[Xd D dc] 22)).alloc (Xt e a c)):=((Up.refl hw).alloc _).alloc _;by_cases A:e.k=12
 ·have t12:(e.k !=12)=false:=by simp[A]
  have Qk:=hu.cap;have Ql:(e.es.length:Int)≤1048576:=zo;have PW:=zh fun(k:Nat) (hk:k<e.es.length) hb=>hr.trans (E0 (T:=T) (g:=g) A hk hb);have P1:Hid ((∀y∈e.es,eY T y=true)→(e.es.Pairwise fun y x=>fC x y=true)→r=g):=fun h1 h2=>by
   rw[hr,wL A,decide_eq_true h2,show e.es.all (eY T)=true from List.all_eq_true.2 h1];simp
  have hX:=zh fun x (hx:x∈e.es)=>(⟨h.union A hx,PN x hx⟩:(∃f',cD D T NS i x 1 f'∧(2=2→f'=2))∧jc D dc T NS i x∧∀y∈x.es,jc D dc T NS i y)
  have PH:Hid (∀x∈e.es,x.k≠12):=fun x hx hk=>by
   obtain⟨f',hm,_⟩:=h.union A hx;have hf:=hm.pl.form;cases hf<;>first|omega|(rename_i hp _ _;omega)
  have eg:=zh (show ∀args w,(callFunc 192 args).run Tryz.prog w= .ok (.enter 192 args) w from dG func192 zk rfl);have Qn:∀(fn:Fn)(first cap:Array Value)(w:World),(Instr.makeFunc fn first cap).run Tryz.prog w= .ok (.func fn first cap) w:=fun _ _ _ _=>rfl;clear hr h hM PN A;go_enter func141,ntmps141;go_wp2_with fail
  go_loopw [32] (fun i wr=> ∃k:Nat,k≤e.es.length∧i= .int .i64 k∧(∀y∈e.es.take k,eY T y=true)∧((e.es.take k).Pairwise fun y x=>fC x y=true)∧Xc wr w 0 (Xd D dc)∧Xc wr (w+1) 6 (.slice a e.es.length c)∧Up p w wr) (fun i _=>e.es.length- (intOf i).toNat)
  case atStart=>exact⟨0,Nat.zero_le _,rfl,(fun y hy=>by simp at hy),zs,by simp[go_sem],by simp[go_sem],ae⟩
  case round=>
   clear ae;obtain⟨k,hk,rfl,PX,P8,c0,c6,hU⟩:=hrel;have b0:=zb c0;have b6:=zb c6;simp only at b0 b6;have R:=zh PX;have PY:=zh P8;clear PX P8;by_cases PI:k<e.es.length
   ·have Qm:(k:Int)<e.es.length:=zo
    obtain⟨b,o,rfl⟩:=hu.list.bg zo;obtain⟨a5,c5,h7,L⟩:=hu.list.get k PI;have P2:=zm PI;obtain⟨⟨f',v,Qg⟩,PO,X⟩:=hX.out _ P2;obtain rfl:=Qg zs;have B:=PH.out _ P2;have q:=zh fun hb=>PW.out k PI (.inl hb);have l:=zh fun hb=>PW.out k PI (.inr hb);have m:Hid (eY T e.es[k]=true→((e.es.take k).any fun y=> !fC e.es[k] y)=false→(∀y∈e.es.take (k+1),eY T y=true)∧((e.es.take (k+1)).Pairwise fun y x=>fC x y=true)):=fun h1 h2=>by
     rw[List.take_succ_eq_append_getElem PI];refine⟨fun y hy=> ?_,?_⟩
     ·rcases List.mem_append.1 hy with hy|hy
      ·exact R.out y hy
      ·simp at hy;subst hy;exact h1
     ·rw[List.pairwise_append]
      refine⟨PY.out,List.pairwise_singleton _ _,fun y hy z hz=> ?_⟩;simp at hz;subst hz;have:=List.any_eq_false.1 h2 y hy;simpa using this
    have P9:Hid (∀j(hj:j<(e.es.take k).length) x,x=e.es[k]→mt T .term x false=true→∀a' c' a5 c5 W,ai p D (e.es.take k)[j] a' c'→ai p D x a5 c5→KW p W→Xk 193 #[Xd D dc,Xt x a5 c5,Xt ((e.es.take k)[j]) a' c'] W (RB (fC x (e.es.take k)[j]) W)):=by
     intro j hj x hx f a' c' a5 c5 W PJ L n;have P_:=zm hj;have P3:=List.mem_of_mem_take P_;have hyp:=R.out _ P_;unfold eY at hyp;simp only[Bool.and_eq_true]at hyp;obtain⟨⟨Qo,P4,Qa⟩,_⟩:=hX.out _ P3;obtain rfl:=Qa zs;subst hx;exact zW p D dc NS E.cP _ _ 1 1 a5 c5 a' c' W v.pl P4.pl B (PH.out _ P3) v.aI P4.aI (fun hi=>tO E v B f hi) (fun hi=>tO E P4 (PH.out _ P3) hyp.1 hi) L PJ n
    obtain⟨x,hx⟩:∃x,x=e.es[k]:=⟨_,rfl⟩
    rw[←hx]at h7 L v PO X B q l m;have PK:=zh fun j hj f a' c' W PJ n=>P9.out j hj x hx f a' c' a5 c5 W PJ L n;clear hx P9 P2;obtain⟨g0,g1,g2,g3,g4,g5,g6⟩:TS.C7 wr b (o+k*7) x a5 c5:=h7.world hU.kw;clear h7;have t:=hU.alloc (Xt x a5 c5);have C:=fun W n=>wJ E p dc v B PO X hT a5 c5 W L n;cases f:mt T .term x false
    ·have d:=fun W n=>aT (C W n) f
     have hF:Hid (false=r):=(q.out (by unfold eY;rw[f];rfl)).symm;clear C f PO X m q l PK v;go_wp2_with fail
     refine(d _ t.kw).mono ?_;rintro P Q ⟨rfl,aa⟩;have I:=zh (t.step aa).up;clear aa d;go_wp2_with fail
     go_ret;exact⟨_,rfl,hF.out,I.out⟩
    have d:=fun W n=>aT (C W n) f;have hE:=fun W n=>nA p D dc x 1 2 a5 c5 W v.pl zo zo L n;have PQ:=zh fun W (n:KW p W) lb H=>fZ k p D (e.es.take k) zp (Xa b o) c 192 lb (fun y=> !fC x y) W n (hu.list.take k) zp eg.out H;have PZ:=zh fun j hj a' c' W PJ n=>PK.out j hj f a' c' W PJ n;clear PK;have Y:=zh f;clear C f PO X;cases he:aW x
    ·have F:=fun W n=>aT (hE W n) he
     have S:Hid (eY T x=true):=by unfold Hid eY;rw[Y.out,he];rfl
     clear hE he q v Y;go_wp2_with fail
     refine(d _ t.kw).mono ?_;rintro P Q ⟨rfl,aa⟩;have G:=t.step aa;obtain⟨x0,x1,x2,x3,x4,x5,x6⟩:TS.L7 Q wr.heap.size x a5 c5:=by
      repeat' apply And.intro
      all_goals exact TS.cell_kept aa zq
     have d0:Xc Q w 0 (Xd D dc):=TS.cell_kept aa (by rw[World.cell?_alloc_lt _ _ _ b0];exact c0);have d6:Xc Q (w+1) 6 (.slice (Xa b o) e.es.length c):=TS.cell_kept aa (by rw[World.cell?_alloc_lt _ _ _ b6];exact c6);clear aa d t c0 c6;go_wp2_with fail
     refine(F _ G.kw).mono ?_;rintro P w2 ⟨rfl,s⟩;have M:=G.step s;obtain⟨y0,y1,y2,y3,y4,y5,y6⟩:TS.L7 w2 wr.heap.size x a5 c5:=by
      repeat' apply And.intro
      all_goals exact TS.cell_kept s za
     have e0:=TS.cell_kept s d0;have e6:=TS.cell_kept s d6;clear s F G d0 d6 x0 x1 x2 x3 x4 x5 x6;go_wp2_with fail
     refine(PQ.out _ M.kw _ ?_).mono ?_
     ·intro j hj W' a' c' V P5
      have P6:TS.L7 W' wr.heap.size x a5 c5:=by
       repeat' apply And.intro
       all_goals exact TS.cell_kept V za
      exact wK p D dc x _ a5 c5 a' c' W' (fun P7 PL=>PZ.out j hj a' c' P7 P5 PL) (M.kw.grown V) w.heap.size wr.heap.size (TS.cell_kept V e0) P6
     rintro P w3 ⟨bb,rfl,J,u⟩;have K:=zh (M.step u);have f0:=TS.cell_kept u e0;have f6:=TS.cell_kept u e6;clear u PQ M e0 e6 y0 y1 y2 y3 y4 y5 y6;cases bb
     ·have hN:=zh (m.out S.out J.out.symm)
      clear J m l S;go_wp2_with fail
      go_roundw
      case rel=>exact⟨k+1,by omega,by go_num,hN.out.1,hN.out.2,f0,f6,K.out⟩
      case measure=>simp[intOf];omega
     ·have hF:Hid (false=r):=(l.out J.out.symm).symm
      have I:=zh K.out.up;clear J m l S;go_wp2_with fail
      go_ret;exact⟨_,rfl,hF.out,I.out⟩
    ·have F:=fun W n=>aT (hE W n) he
     obtain⟨_,PM,Qb⟩:=kN.1 he;have Qc:=fun W (n:KW p W)=>k9 D dc NS E.cP x p 1 2 a5 c5 W v.pl zo zo B PM v.aI L n;have PR:=fun W n=>ze D dc x p 1 2 a5 c5 W v.pl zo zo B PM Qb L n;have PS:Hid (eY T x= !(decide (0<(an x).length)||eT x)):=by unfold Hid eY;rw[Y.out,he];simp
     generalize an x=lx at*;generalize eT x=sx at*;clear hE he v Y B PM Qb;go_wp2_with fail
     refine(d _ t.kw).mono ?_;rintro P Q ⟨rfl,aa⟩;have G:=t.step aa;obtain⟨x0,x1,x2,x3,x4,x5,x6⟩:TS.L7 Q wr.heap.size x a5 c5:=by
      repeat' apply And.intro
      all_goals exact TS.cell_kept aa zq
     have d0:Xc Q w 0 (Xd D dc):=TS.cell_kept aa (by rw[World.cell?_alloc_lt _ _ _ b0];exact c0);have d6:Xc Q (w+1) 6 (.slice (Xa b o) e.es.length c):=TS.cell_kept aa (by rw[World.cell?_alloc_lt _ _ _ b6];exact c6);clear aa d t c0 c6;go_wp2_with fail
     refine(F _ G.kw).mono ?_;rintro P w2 ⟨rfl,s⟩;have M:=G.step s;obtain⟨y0,y1,y2,y3,y4,y5,y6⟩:TS.L7 w2 wr.heap.size x a5 c5:=by
      repeat' apply And.intro
      all_goals exact TS.cell_kept s za
     have e0:=TS.cell_kept s d0;have e6:=TS.cell_kept s d6;clear s F G d0 d6 x0 x1 x2 x3 x4 x5 x6;go_wp2_with fail
     refine(Qc _ M.kw).mono ?_;rintro P w3 ⟨q3,a3,n3,c3,rfl,Qd,Qp,Qq,Qh,u⟩;have K:=M.step u;obtain⟨z0,z1,z2,z3,z4,z5,z6⟩:TS.L7 w3 wr.heap.size x a5 c5:=by
      repeat' apply And.intro
      all_goals exact TS.cell_kept u za
     have f0:=TS.cell_kept u e0;have f6:=TS.cell_kept u e6;have P0:=Qd.out;clear u Qc M e0 e6 y0 y1 y2 y3 y4 y5 y6 Qd Qh;by_cases Z:0<lx.length
     ·have tp:(0:Int)<n3:=zo
      have tq:0<n3:=zo;have hF:Hid (false=r):=(q.out (by rw[PS.out,decide_eq_true Z];rfl)).symm;have I:=zh K.up;clear PS q l m Z P0;go_wp2_with fail
      go_ret;exact⟨_,rfl,hF.out,I.out⟩
     have Qi:n3=0:=zo;subst Qi;have PG:Hid (eY T x= !sx):=by unfold Hid;rw[PS.out,decide_eq_false Z];rfl
     clear PS Z P0;cases sx
     case true=>
      have N:=fun W n=>aT (PR W n) rfl;have hF:Hid (false=r):=(q.out PG.out).symm;clear PR PG q l m;go_wp2_with fail
      refine(N _ K.kw).mono ?_;rintro P w4 ⟨rfl,O⟩;have I:=zh (K.step O).up;clear O N;go_wp2_with fail
      go_ret;exact⟨_,rfl,hF.out,I.out⟩
     have N:=fun W n=>aT (PR W n) rfl;have S:Hid (eY T x=true):=PG.out;clear PR PG q;go_wp2_with fail
     refine(N _ K.kw).mono ?_;rintro P w4 ⟨rfl,O⟩;have PT:=K.step O;obtain⟨y0,y1,y2,y3,y4,y5,y6⟩:TS.L7 w4 wr.heap.size x a5 c5:=by
      repeat' apply And.intro
      all_goals exact TS.cell_kept O za
     have e0:=TS.cell_kept O f0;have e6:=TS.cell_kept O f6;clear O N K f0 f6 z0 z1 z2 z3 z4 z5 z6;go_wp2_with fail
     refine(PQ.out _ PT.kw _ ?_).mono ?_
     ·intro j hj W' a' c' V P5
      have P6:TS.L7 W' wr.heap.size x a5 c5:=by
       repeat' apply And.intro
       all_goals exact TS.cell_kept V za
      exact wK p D dc x _ a5 c5 a' c' W' (fun P7 PL=>PZ.out j hj a' c' P7 P5 PL) (PT.kw.grown V) w.heap.size wr.heap.size (TS.cell_kept V e0) P6
     rintro P w5 ⟨bb,rfl,J,PU⟩;have Qe:=zh (PT.step PU);have f0:=TS.cell_kept PU e0;have f6:=TS.cell_kept PU e6;clear PU PQ PT e0 e6 y0 y1 y2 y3 y4 y5 y6;cases bb
     ·have hN:=zh (m.out S.out J.out.symm)
      clear J m l S;go_wp2_with fail
      go_roundw
      case rel=>exact⟨k+1,by omega,by go_num,hN.out.1,hN.out.2,f0,f6,Qe.out⟩
      case measure=>simp[intOf];omega
     ·have hF:Hid (false=r):=(l.out J.out.symm).symm
      have I:=zh Qe.out.up;clear J m l S;go_wp2_with fail
      go_ret;exact⟨_,rfl,hF.out,I.out⟩
   ·have hF:Hid (g=r):=by
     refine(P1.out (fun y hy=>R.out y ?_) ?_).symm
     ·rw[List.take_of_length_le zo];exact hy
     ·have:=PY.out;rwa [List.take_of_length_le zo]at this
    have I:=hU.up;go_wp2_with fail
    go_ret;exact⟨_,rfl,hF.out,I⟩
 ·have t12:(e.k !=12)=true:=by simp[A]
  have hR:Hid (r=(mt T .term e false&&(g||aW e&& !bd e))):=by unfold Hid;rw[hr];exact j0 A
  have C:=fun W n=>wJ E p dc h A hM (fun x hx=>(PN x hx).1) hT a c W hu n;have hE:=fun W n=>nA p D dc e 2 2 a c W h.pl zo zo hu n;have hG:=fun(hk:e.k≠13) W n=>lS D dc e p 2 2 a c W h.pl zo zo A hk hu n;clear hr hM PN h A;cases f:mt T .term e false
  ·have d:=fun W n=>aT (C W n) f
   have hF:Hid (false=r):=by unfold Hid;rw[hR.out,f];rfl
   clear C f hE hG;go_enter func141,ntmps141;go_wp2_with fail
   refine(d _ ae.kw).mono ?_;rintro P Q ⟨rfl,aa⟩;have I:=zh (ae.step aa).up;clear aa d;go_wp2_with fail
   go_ret;exact⟨_,rfl,hF.out,I.out⟩
  have d:=fun W n=>aT (C W n) f;cases g
  case true=>
   have hF:Hid (true=r):=by unfold Hid;rw[hR.out,f];rfl
   clear C f hE hG;go_enter func141,ntmps141;go_wp2_with fail
   refine(d _ ae.kw).mono ?_;rintro P Q ⟨rfl,aa⟩;have I:=zh (ae.step aa).up;clear aa d;go_wp2_with fail
   go_ret;exact⟨_,rfl,hF.out,I.out⟩
  cases he:aW e
  ·have F:=fun W n=>aT (hE W n) he
   have hF:Hid (false=r):=by unfold Hid;rw[hR.out,f,he];rfl
   clear C f hE hG he;go_enter func141,ntmps141;go_wp2_with fail
   refine(d _ ae.kw).mono ?_;rintro P Q ⟨rfl,aa⟩;have t:=ae.step aa;have d0:Xc Q w 0 (Xd D dc):=TS.cell_kept aa (by simp[go_sem]);obtain⟨x0,x1,x2,x3,x4,x5,x6⟩:TS.L7 Q (w.heap.size+1) e a c:=by
    repeat' apply And.intro
    all_goals exact TS.cell_kept aa zq
   clear aa d;go_wp2_with fail
   refine(F _ t.kw).mono ?_;rintro P w2 ⟨rfl,s⟩;have I:=zh (t.step s).up;clear s F;go_wp2_with fail
   go_ret;exact⟨_,rfl,hF.out,I.out⟩
  ·have F:=fun W n=>aT (hE W n) he
   have Qf:=hG (kN.1 he).2.1;have hF:Hid ((!bd e)=r):=by unfold Hid;rw[hR.out,f,he];rfl
   generalize bd e=ge at*;clear C f hE hG he;go_enter func141,ntmps141;go_wp2_with fail
   refine(d _ ae.kw).mono ?_;rintro P Q ⟨rfl,aa⟩;have t:=ae.step aa;have d0:Xc Q w 0 (Xd D dc):=TS.cell_kept aa (by simp[go_sem]);obtain⟨x0,x1,x2,x3,x4,x5,x6⟩:TS.L7 Q (w.heap.size+1) e a c:=by
    repeat' apply And.intro
    all_goals exact TS.cell_kept aa zq
   clear aa d;go_wp2_with fail
   refine(F _ t.kw).mono ?_;rintro P w2 ⟨rfl,s⟩;have G:=t.step s;have e0:=TS.cell_kept s d0;obtain⟨y0,y1,y2,y3,y4,y5,y6⟩:TS.L7 w2 (w.heap.size+1) e a c:=by
    repeat' apply And.intro
    all_goals exact TS.cell_kept s za
   clear s F t d0 x0 x1 x2 x3 x4 x5 x6;go_wp2_with fail
   refine(Qf _ G.kw).mono ?_;rintro P w3 ⟨b,rfl,hb,u⟩;have I:=zh (G.step u).up;have Qj:Hid ((!b)=r):=by unfold Hid;rw[hb.out];exact hF.out
   clear hb u Qf;go_wp2_with fail
   go_ret;exact⟨_,rfl,Qj.out,I.out⟩
end Go.Proofs.YtkochlhejabdcaaGreatDoor
namespace TS
theorem wM{D:Dl}{T:List U}{NS:List (List UInt8)}{i:Nat}(E:Env D T NS i){t:U}{pos f:Nat}{g:Bool}(h:cD D T NS i t pos f)(c:t.k=10)
 (o:∀e∈t.es.drop t.m.toNat,mt T .elem e g=true)(hM:∀m∈t.es.take t.m.toNat,mt T .type m false=true):
 (∀m∈an t,aM m)∧∀e∈t.es.drop t.m.toNat,aW e=true→∀m∈an e,aM m:=by
 have hu:under t=t:=cp zo zo zo zo;have d:∀e∈t.es.drop t.m.toNat,aW e=true→∀m∈an e,aM m:=fun e he a=>by
  unfold aW at a;simp only[Bool.and_eq_true,bne_iff_ne,ne_eq]at a;have b:=o e he;rw[j0 a.1.1]at b;simp only[Bool.and_eq_true]at b;have j:=b.1;rw[gK a.1.2]at j;have hk:=h.elem c he;exact(j8 E.ok E.bA E.mt e 2 2 _ i zl hk.bA hk.pl zo a.1.1 a.1.2 j).1
 refine⟨fun m hm=> ?_,d⟩;rcases(iS hm).2 with hm|⟨e,he,a,hm⟩
 ·rw[hu]at hm
  obtain⟨n,hk⟩:=h.jn c hm;have l:=hk.pl.form.aD;exact(j8 E.ok E.bA E.mt m 0 n false i zl hk.bA hk.pl hk.f2 l.1 l.2 (hM m hm)).2 (l9 m 0 n hk.bA hk.pl hk.f2 l.1 l.2 (hM m hm))
 ·rw[hu]at he
  exact d e he a m hm
end TS
namespace Go.Proofs.YtkochlhejabdcaaGreatDoor
open Go.RowKit TS Tryz
theorem E2{D:Dl}{T:List U}{NS:List (List UInt8)}{i:Nat}(E:Env D T NS i)(p:Pm)(dc:Nat){t:U}{pos f:Nat}(h:cD D T NS i t pos f)(G:t.k=10)(hM:∀x,x.sz<t.sz→jc D dc T NS i x)
 (hT:eV p D T)(g:Bool)(a:Option Addr)(c:Nat)(w:World)(hu:ai p D t a c)(hw:KW p w):
 Xk 87 #[Xd D dc,Xt t a c,.bool g] w (RB (mt T .type t g) w):=by
 obtain⟨r,hr⟩:∃r,r=mt T .type t g:=⟨_,rfl⟩
 rw[←hr];have hR:Hid (r=(((t.es.drop t.m.toNat).all fun e=>mt T .elem e g)&&(((t.es.take t.m.toNat).all fun e=>mt T .type e false)&&gW t&&decide (cz t≤50)))):=by unfold Hid;rw[hr];exact iT G
 clear hr;obtain⟨Qc,P3,h4⟩:=h.pl.form.jm G;have ae:Up p w (w.alloc (Xt t a c)):=(Up.refl hw).alloc _;have V:=hu.cap
 have PS:=zh fun e (he:e∈t.es.drop t.m.toNat) W (s:KW p W) a' c' (O:ai p D e a' c')=>E1 E p dc (h.elem G he) (hM e (U.ar (List.mem_of_mem_drop he)))
  (fun x hx=>⟨hM x (by have:=U.ar hx;have:=U.ar (List.mem_of_mem_drop he);omega),fun y hy=>hM y (by have:=U.ar hy;have:=U.ar hx;have:=U.ar (List.mem_of_mem_drop he);omega)⟩) hT g a' c' W O s
 have PT:=zh fun e (he:e∈t.es.take t.m.toNat) a c W (O:ai p D e a c) (s:KW p W)=>show Xk 42 #[Xd D dc,Xt e a c,.bool false] W (RB (mt T .type e false) W)from
  let⟨f',hk⟩:=h.jn G he;hM e (U.ar (List.mem_of_mem_take he)) false p 0 f' a c W hk hk.pl.form.aD.1 hk.pl.form.aD.2 hT O s
 have v:=fun W s n hn=>wI p D dc T (t.es.take t.m.toNat) a n c W hn PT.out (hu.list.take _) zp s;obtain⟨f1,PU,PL,PW⟩:=h.pl.ju h.f2 G;have K:=fun W s=>z_ D dc t p 0 f1 a c W PW PU PL zo zo h.dep hu s;have P4:=zh fun(PX:∀e∈t.es.drop t.m.toNat,mt T .elem e g=true) (PO:∀m∈t.es.take t.m.toNat,mt T .type m false=true) W (s:KW p W)=>
  EU p D dc NS E.cP t pos f a c W h.pl h.f2 G h.aI (wM E h G PX PO).1 (wM E h G PX PO).2 hu s
 have Qd:max t.m 0=t.m:=zo;have P7:t.m≤t.es.length:=zo;have P8:¬t.m<0:=zo;have Qe:=V.1;have Qf:=V.2;have Qg:t.m.toNat≤c:=zo;have P9:t.m≤c:=zo;have PY:t.m.toNat<c∨c=t.m.toNat:=zo;have P_:((t.es.drop t.m.toNat).length:Int)≤4:=zp;have N:=zh ae;clear hM h PW PU PL PT V ae hT;have fin:∀(wz:World),Up p w wz→(Xl wz w t a c)→(∀e∈t.es.drop t.m.toNat,mt T .elem e g=true)→Hid (Up p w wz∧(Xl wz w t a c)∧r=(((t.es.take t.m.toNat).all fun e=>mt T .type e false)&&gW t&&decide (cz t≤50))∧∀(PO:∀m∈t.es.take t.m.toNat,mt T .type m false=true) W(s:KW p W),Xk 142 #[Xd D dc,Xt t a c] W (RB (gW t) W)):=fun wz h1 h2 h3=>
  ⟨h1,h2,by rw[hR.out,show((t.es.drop t.m.toNat).all fun e=>mt T .elem e g)=true from List.all_eq_true.2 h3,Bool.true_and],P4.out h3⟩
 have PZ:=hR;clear hR G;rcases PY with PY|rfl
 ·go_enter func87,ntmps87
  go_wp2_with fail
  have hL:=hu.list.cut _ P3;have hlen:(t.es.drop t.m.toNat).length=t.es.length- t.m.toNat:=zs;have P0:TS.L7 (w.alloc (Xt t a c)) w.heap.size t a c:=by
   repeat' apply And.intro
   all_goals simp[go_sem]
  have PM:=zh P0;clear P0;generalize t.es.drop t.m.toNat=ds at*;generalize P1:t.es.length- t.m.toNat=n2 at*;have Qa:=zh P1;clear P1;subst hlen;go_loopw [15] (fun i wr=> ∃k:Nat,k≤ds.length∧i= .int .i64 k∧(∀e∈ds.take k,mt T .elem e g=true)∧(Xl wr w t a c)∧Up p w wr) (fun i _=>ds.length- (intOf i).toNat)
  case atStart=>exact⟨0,Nat.zero_le _,rfl,(fun e he=>by simp at he),PM.out,N.out⟩
  case round=>
   clear PM N;obtain⟨k,hk,rfl,PN,⟨x0,x1,x2,x3,x4,x5,x6⟩,hU⟩:=hrel;have M:=zh PN;clear PN;have b0:=zb x0;simp only at b0;by_cases PJ:k<ds.length
   ·obtain⟨b,o,PQ⟩:=hL.bg zo
    rw[PQ]at hL;obtain⟨a5,c5,h7,O⟩:=hL.get k PJ;have X:=fun W s=>PS.out ds[k] (zm PJ) W s a5 c5 O;have H:Hid (mt T .elem ds[k] g=true→∀e∈ds.take (k+1),mt T .elem e g=true):=fun h1 e he=>by
     rw[List.take_succ_eq_append_getElem PJ]at he;rcases List.mem_append.1 he with he|he
     ·exact M.out e he
     ·simp at he;subst he;exact h1
    have I:Hid (mt T .elem ds[k] g=false→false=r):=fun h1=>by
     rw[PZ.out,show(ds.all fun e=>mt T .elem e g)=false from by rw[List.all_eq_false];exact⟨_,zm PJ,by rw[h1];simp⟩];rfl
    obtain⟨e,he⟩:∃e,e=ds[k]:=⟨_,rfl⟩
    rw[←he]at h7 O X H I;clear he;obtain⟨g0,g1,g2,g3,g4,g5,g6⟩:TS.C7 wr b (o+k*7) e a5 c5:=h7.world hU.kw;clear h7;have Qb:(k:Int)<ds.length:=zo;have PK:=hU.alloc (Xt e a5 c5);have s7:(Xl (wr.alloc (Xt e a5 c5)) w t a c):=L7.alloc (w:=wr) (b:=w.heap.size) (u:=t) ⟨x0,x1,x2,x3,x4,x5,x6⟩ _;have P5:=zh s7;clear s7;cases hm:mt T .elem e g
    ·have Y:=fun W s=>aT (X W s) hm
     have hF:=zh (I.out hm);clear X hm H I;simp only[PQ]at*;go_wp2_with fail
     refine(Y _ PK.kw).mono ?_;rintro P S ⟨rfl,j⟩;have Q:=zh (PK.step j).up;clear j Y;go_wp2_with fail
     go_ret;exact⟨_,rfl,hF.out,Q.out⟩
    ·have Y:=fun W s=>aT (X W s) hm
     have hN:=zh (H.out hm);clear X hm H I;simp only[PQ]at*;go_wp2_with fail
     refine(Y _ PK.kw).mono ?_;rintro P S ⟨rfl,j⟩;have z:=zh (PK.step j);have s8:(Xl S w t a c):=L7.below (w:=wr.alloc (Xt e a5 c5)) (b:=w.heap.size) (u:=t) P5.out j;have P6:=zh s8;clear j Y s8;go_wp2_with fail
     go_roundw
     case rel=>exact⟨k+1,by omega,by go_num,hN.out,P6.out,z.out⟩
     case measure=>simp only[intOf];omega
   ·have hX:=fin _ hU ⟨x0,x1,x2,x3,x4,x5,x6⟩ (fun e he=>M.out e (by rw[List.take_of_length_le zo];exact he))
    clear x0 x1 x2 x3 x4 x5 x6 hU M fin;obtain⟨l,⟨x0,x1,x2,x3,x4,x5,x6⟩,Z,L⟩:=hX.out;have C:=zh Z;have F:=zh L;clear Z L hX;cases J:(t.es.take t.m.toNat).all fun e=>mt T .type e false
    ·have d:=fun W s n hn=>aT (v W s n hn) J
     have hF:Hid (false=r):=by unfold Hid;rw[C.out,J];rfl
     clear v J K F;go_wp2_with fail
     refine(d _ l.kw _ (by simp;try omega)).mono ?_;rintro P S ⟨rfl,j⟩;have Q:=zh (l.step j).up;clear j d;go_wp2_with fail
     go_ret;exact⟨_,rfl,hF.out,Q.out⟩
    have d:=fun W s n hn=>aT (v W s n hn) J;have A:=F.out (List.all_eq_true.1 J);clear F;cases R:gW t
    ·have q:=fun W s=>aT (A W s) R
     have hF:Hid (false=r):=by unfold Hid;rw[C.out,J,R];rfl
     clear v J K A R;go_wp2_with fail
     refine(d _ l.kw _ (by simp;try omega)).mono ?_;rintro P S ⟨rfl,j⟩;have z:=l.step j;obtain⟨y0,y1,y2,y3,y4,y5,y6⟩:TS.L7 S w.heap.size t a c:=by
      repeat' apply And.intro
      all_goals exact TS.cell_kept j za
     clear j d l;go_wp2_with fail
     refine(q _ z.kw).mono ?_;rintro P w4 ⟨rfl,B⟩;have Q:=zh (z.step B).up;clear B q;go_wp2_with fail
     go_ret;exact⟨_,rfl,hF.out,Q.out⟩
    have q:=fun W s=>aT (A W s) R;have hF:Hid (decide (cz t≤50)=r):=by unfold Hid;rw[C.out,J,R];rfl
    generalize cz t=wt at*;clear v J A R;go_wp2_with fail
    refine(d _ l.kw _ (by simp;try omega)).mono ?_;rintro P S ⟨rfl,j⟩;have z:=l.step j;obtain⟨y0,y1,y2,y3,y4,y5,y6⟩:TS.L7 S w.heap.size t a c:=by
     repeat' apply And.intro
     all_goals exact TS.cell_kept j za
    clear j d l x0 x1 x2 x3 x4 x5 x6;go_wp2_with fail
    refine(q _ z.kw).mono ?_;rintro P w4 ⟨rfl,B⟩;have PG:=z.step B;obtain⟨x0,x1,x2,x3,x4,x5,x6⟩:TS.L7 w4 w.heap.size t a c:=by
     repeat' apply And.intro
     all_goals exact TS.cell_kept B za
    clear B q z y0 y1 y2 y3 y4 y5 y6;go_wp2_with fail
    refine(K _ PG.kw).mono ?_;rintro P w5 ⟨⟨nx,rfl,PR⟩,PH⟩;have PI:=PR.out;subst PI;have Q:=zh (PG.step PH).up;clear PH K;go_wp2_with fail
    go_ret;exact⟨_,rfl,hF.out,Q.out⟩
 ·have P2:t.es.drop t.m.toNat= []:=List.drop_eq_nil_of_le zo
  have hX:=fin _ N.out (by repeat' apply And.intro
                           all_goals simp[go_sem]) (fun e he=>by rw[P2]at he;cases he)
  clear P2 fin N PZ PS;obtain⟨l,⟨x0,x1,x2,x3,x4,x5,x6⟩,Z,L⟩:=hX.out;have C:=zh Z;have F:=zh L;clear Z L hX;cases J:(t.es.take t.m.toNat).all fun e=>mt T .type e false
  ·have d:=fun W s n hn=>aT (v W s n hn) J
   have hF:Hid (false=r):=by unfold Hid;rw[C.out,J];rfl
   clear v J K F;go_enter func87,ntmps87;go_wp2_with fail
   refine wp_loop_rounds 1 ?_;rw[rounds_succ];go_wp2_with fail
   refine(d _ l.kw _ (by simp;try omega)).mono ?_;rintro P S ⟨rfl,j⟩;have Q:=zh (l.step j).up;clear j d;go_wp2_with fail
   go_ret;exact⟨_,rfl,hF.out,Q.out⟩
  have d:=fun W s n hn=>aT (v W s n hn) J;have A:=F.out (List.all_eq_true.1 J);clear F;cases R:gW t
  ·have q:=fun W s=>aT (A W s) R
   have hF:Hid (false=r):=by unfold Hid;rw[C.out,J,R];rfl
   clear v J K A R;go_enter func87,ntmps87;go_wp2_with fail
   refine wp_loop_rounds 1 ?_;rw[rounds_succ];go_wp2_with fail
   refine(d _ l.kw _ (by simp;try omega)).mono ?_;rintro P S ⟨rfl,j⟩;have z:=l.step j;obtain⟨y0,y1,y2,y3,y4,y5,y6⟩:TS.L7 S w.heap.size t a t.m.toNat:=by
    repeat' apply And.intro
    all_goals exact TS.cell_kept j za
   clear j d l;go_wp2_with fail
   refine(q _ z.kw).mono ?_;rintro P w4 ⟨rfl,B⟩;have Q:=zh (z.step B).up;clear B q;go_wp2_with fail
   go_ret;exact⟨_,rfl,hF.out,Q.out⟩
  have q:=fun W s=>aT (A W s) R;have hF:Hid (decide (cz t≤50)=r):=by unfold Hid;rw[C.out,J,R];rfl
  generalize cz t=wt at*;clear v J A R;go_enter func87,ntmps87;go_wp2_with fail
  refine wp_loop_rounds 1 ?_;rw[rounds_succ];go_wp2_with fail
  refine(d _ l.kw _ (by simp;try omega)).mono ?_;rintro P S ⟨rfl,j⟩;have z:=l.step j;obtain⟨y0,y1,y2,y3,y4,y5,y6⟩:TS.L7 S w.heap.size t a t.m.toNat:=by
   repeat' apply And.intro
   all_goals exact TS.cell_kept j za
  clear j d l x0 x1 x2 x3 x4 x5 x6;go_wp2_with fail
  refine(q _ z.kw).mono ?_;rintro P w4 ⟨rfl,B⟩;have PG:=z.step B;obtain⟨x0,x1,x2,x3,x4,x5,x6⟩:TS.L7 w4 w.heap.size t a t.m.toNat:=by
   repeat' apply And.intro
   all_goals exact TS.cell_kept B za
  clear B q z y0 y1 y2 y3 y4 y5 y6;go_wp2_with fail
  refine(K _ PG.kw).mono ?_;rintro P w5 ⟨⟨nx,rfl,PR⟩,PH⟩;have PI:=PR.out;subst PI;have Q:=zh (PG.step PH).up;clear PH K;go_wp2_with fail
  go_ret;exact⟨_,rfl,hF.out,Q.out⟩
end Go.Proofs.YtkochlhejabdcaaGreatDoor
namespace Go.Proofs.YtkochlhejabdcaaGreatDoor
open Go.RowKit TS Tryz
theorem rH{D:Dl}{T:List U}{NS:List (List UInt8)}{i:Nat}(E:Env D T NS i)(dc:Nat):∀u,jc D dc T NS i u:=by
 intro u;induction u using U.bc with
 |_ u ih=>
  intro g p pos f a c w h t K hT hu hw;have ae:Up p w (w.alloc (Xt u a c)):=(Up.refl hw).alloc _;by_cases n:u.k=2
  ·have N:(u.k==2)=true:=by simp[n]
   have h1:=h.pl.form.fL n;obtain⟨e,he⟩:=cL h1;have v:=h.nO zo t 0 zo;have L:u.es[0]'zo=e:=by simp[he]
   rw[L]at v;obtain⟨b,o,rfl⟩:=hu.list.bg zo;obtain⟨a',c',h7,q⟩:=hu.list.get 0 zo;simp only[L,Nat.zero_mul,Nat.add_zero]at h7 q;have y:=v.pl.form.aD;have z:=fun W l=>ih e (U.ar (by rw[he];simp)) g p 0 _ a' c' W v y.1 y.2 hT q l;have A:Hid (mt T .type u g=mt T .type e g):=by unfold Hid;rw[kS n,he];simp
   have V:0<u.es.length:=zo;have O:(0:Int)<u.es.length:=zo;obtain⟨z0,X,z2,z3,z4,z5,Y⟩:TS.C7 w b o e a' c':=h7.world hw;have Z:=hw.lt h7.1;have P:=zh he;rw[A.out];clear he h7 L h1 n ih v h A y;go_enter func42,ntmps42;go_wp2_with fail
   refine(z _ ae.kw).mono ?_;rintro B C ⟨x,rfl,r,aa⟩;have s:=zh (ae.step aa).up;clear aa z;go_wp2_with fail
   go_ret;exact⟨_,rfl,r,s.out⟩
  have N:(u.k==2)=false:=by simp[n]
  by_cases d:u.k=10
  ·have bC:(u.k==10)=true:=by simp[d]
   have z:=fun W l=>E2 E p dc h d (fun x r=>ih x r) hT g a c W hu l;clear h n d ih;go_enter func42,ntmps42;go_wp2_with fail
   refine(z _ ae.kw).mono ?_;rintro B C ⟨x,rfl,r,aa⟩;have s:=zh (ae.step aa).up;clear aa z;go_wp2_with fail
   go_ret;exact⟨_,rfl,r,s.out⟩
  have bC:(u.k==10)=false:=by simp[d]
  have I:=fun W l=>EY E p dc h n d t K hT a c W hu l;have A:Hid (mt T .type u g=((g|| !bd (cW T u))&&u.es.all fun e=>mt T .type e false)):=nB n d;have F:=hu.cap;have J:=fun W l=>wI p D dc T u.es a u.es.length c W rfl (fun e he a' c' Q q M=>by
   obtain⟨j,R,rfl⟩:=List.getElem_of_mem he;have v:=h.nO d t j R;have y:=v.pl.form.aD;exact ih _ (U.ar he) false p 0 _ a' c' Q v y.1 y.2 hT q M) hu.list zo l
  rw[A.out];generalize bd (cW T u)=S at*;generalize (u.es.all fun e=>mt T .type e false)=al at*;clear h n d ih A F;cases g
  case true=>
   go_enter func42,ntmps42;go_wp2_with fail
   refine(J _ ae.kw).mono ?_;rintro B C ⟨x,rfl,r,aa⟩;have s:=zh (ae.step aa).up;clear aa J;go_wp2_with fail
   go_ret;exact⟨_,rfl,r.out,s.out⟩
  cases S
  case true=>
   have m:=fun W l=>aT (I W l) rfl;clear I;go_enter func42,ntmps42;go_wp2_with fail
   refine(m _ ae.kw).mono ?_;rintro B C ⟨rfl,aa⟩;have s:=zh (ae.step aa).up;clear aa m;go_wp2_with fail
   go_ret;exact⟨_,rfl,rfl,s.out⟩
  have m:=fun W l=>aT (I W l) rfl;clear I;go_enter func42,ntmps42;go_wp2_with fail
  refine(m _ ae.kw).mono ?_;rintro B C ⟨rfl,aa⟩;have G:=ae.step aa;obtain⟨x0,x1,x2,x3,x4,x5,x6⟩:TS.L7 C w.heap.size u a c:=by
   repeat' apply And.intro
   all_goals exact TS.cell_kept aa zq
  clear aa m ae;go_wp2_with fail
  refine(J _ G.kw).mono ?_;rintro B w2 ⟨x,rfl,r,H⟩;have s:=zh (G.step H).up;clear H J;go_wp2_with fail
  go_ret;exact⟨_,rfl,r.out,s.out⟩
end Go.Proofs.YtkochlhejabdcaaGreatDoor
