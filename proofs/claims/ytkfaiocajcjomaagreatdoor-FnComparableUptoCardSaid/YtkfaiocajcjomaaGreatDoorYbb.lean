import Derived.Laws.AppendOwnNone
import Derived.Test.YtkfaiocajcjomaaGreatDoorYaz
import Derived.Test.YtkfaiocajcjomaaGreatDoorYba
set_option maxRecDepth 100000
set_option maxHeartbeats 8000000
set_option linter.all false
namespace Go.Proofs.YtkfaiocajcjomaaGreatDoor
open Go.RowKit TS
theorem Bx(len:Nat)(p:Pm)(g:Ge)(B:Nat)(v:Value)(rs:List Nat)(R:List Tm)(a:Option Addr)(n c:Nat)(f:Nat→Nat)(D:List Tm)(w:World)(V:aq p g w)(hT:b7 p g B w v rs R)(W:∀b,v.ownBlock=some b→∀o,p b o=none)(hB:B≤w.heap.size)(hG:5<B)
 (X:n=D.length)(hl:n≤1048576)(Qj:rs.length≤1048576)(ha:a=none→c=0)(Y:∀x,a=some x→x.spot=none)(hp:bA w a n f)(hy:∀i(h:i<D.length),a7 p g D[i] (f i))(ok:∀t∈R,dA len t)(L:∀t∈D,dA len t):
 Calls Tryz.prog 140 #[v,.slice a n c] w fun e F=>
  ∃q r l,e= .returned r∧aL p q B∧aq q g F∧b7 q g w.heap.size F r l (fN R D)∧Kept (fun k=>v.ownBlock=some k) w F∧∀b,r.ownBlock=some b→∀o,q b o=none:=by
 obtain⟨Z,vc,rfl⟩:=bd hT.own
 have E:∀(C:World)(v1:Value),Kept (fun k=>(Value.slice Z rs.length vc).ownBlock=some k) w C→C.ownsRow B 179 1 v1 (rs.length+n) (rs.map pv++(List.range n).map fun i=>pv (f i))→(v1.ownBlock=(Value.slice Z rs.length vc).ownBlock∨∃k,v1.ownBlock=some k∧w.heap.size≤k)→
  ∃J c1,v1= .slice J (rs.length+n) c1∧Calls Tryz.prog 172 #[v1] C fun e F=> ∃q r l,e= .returned r∧aL p q B∧aq q g F∧b7 q g w.heap.size F r l (fN R D)∧Kept (fun k=>(Value.slice Z rs.length vc).ownBlock=some k) w F∧∀b,r.ownBlock=some b→∀o,q b o=none:=by
  intro C v1 Q ho hv;have P3:aq p g C:=V.own Q (fun b K=>W b K) fun e=>by have:=(hT.own.lt _ e).1;omega
  have P4:b7 p g B C v1 (rs++(List.range n).map f) (R++D):=by
   refine⟨by simpa [List.map_map,Function.comp_def]using ho,by simp[hT.len,X],fun i hi Qk=> ?_⟩;have hl:=hT.len;by_cases s:i<R.length
   ·rw[List.getElem_append_left s,List.getElem_append_left (by omega)];exact hT.cg i s (by omega)
   ·rw[List.getElem_append_right (by omega),List.getElem_append_right (by omega)]
    simp only[List.getElem_map,List.getElem_range];have:=hy (i- R.length) (by simp at hi;omega);rw[hl];exact this
  obtain⟨q,J,c1,S,P5,P6,M,Ql,P7⟩:=lk P3 P4 fun b K=>by
   rcases hv with e|⟨k,e,hk⟩
   ·rw[e]at K;exact W b K
   ·rw[e]at K;cases K;exact fun o=>V.kw.aI hk o
  have hlen:(rs++(List.range n).map f).length=rs.length+n:=by simp
  rw[hlen]at S M;refine⟨J,c1,S,?_⟩;subst S;refine(ti len q g J (rs.length+n) c1 _ (R++D) C (by simp[hT.len,X]) (by omega) P6 M P7 fun t ht=>(List.mem_append.1 ht).elim (ok t) (L t)).mono ?_;rintro e w2 ⟨q2,v2,P8,rfl,P9,P_,G,Qa,Qb⟩;exact⟨q2,v2,P8,rfl,P5.trans P9 (by have:=Q.size;omega),P_,⟨je G.own Q.size,G.len,G.cg⟩,Q.below Qa,Qb⟩
 have d:=Lib.hid E;have y:=Lib.hid hT.own;obtain⟨i1,hj,Qc,Qd,Qe⟩:=info_parts oV;have z:=Lib.hid hp;have Qf:=Lib.hid hB;clear V hT W hG hy ok L hp E X;match a,ha,Y,z with
 |none,ha,_,z=>
  have Qg:=ha rfl;have Qh:n=0:=by
   rcases Nat.eq_zero_or_pos n with h|h
   ·exact h
   ·obtain⟨_,_,e,_⟩:=z.out 0 h;cases e
  subst Qg;subst Qh;have hF:=d.out w _ (Kept.refl _ _) (by simpa using y.out) (.inl rfl);obtain⟨J,c1,S,hF⟩:=hF;have H:=Lib.hid hF;clear hF d ha;go_enter Tryz.func140,Tryz.ntmps140;go_wp2_with (first|(at_builtin;refine wpList_append_own_none rfl _ _ 122 rfl B 179 i1 1 Tryz.underlying122 hj _ _ _ rfl y.out rfl ?_)|fail)
  refine H.out.mono ?_;rintro e w2 ⟨q,r,l,rfl,h⟩;have h':=Lib.hid h;clear h;go_wp2_with fail
  go_ret;exact⟨q,r,l,rfl,h'.out⟩
 |some ad,_,Y,z=>
  have A:=Y ad rfl;obtain⟨T,U,sp⟩:=ad;simp only at A;subst A;have I:Hid (∀j u,((List.range n).map fun i=>pv (f i))[j]?=some u→w.cell? ((⟨T,U,none⟩:Addr).add j)=some u):=fun j u hu=>by
   rw[List.getElem?_map]at hu;obtain⟨i,hi,rfl⟩:=Option.map_eq_some_iff.1 hu;have Qi:=List.getElem?_eq_some_iff.1 hi;obtain⟨s,e⟩:=Qi;simp at s e;subst e;obtain⟨b0,o0,e0,hc⟩:=z.out j s;cases e0;rw[show(⟨T,U,none⟩:Addr).add j=⟨T,U+j,none⟩ by unfold Addr.add;split<;>simp_all];exact hc
  have N:Hid (∀u∈(List.range n).map (fun i=>pv (f i)),u.oneCell'=true):=fun u hu=>by obtain⟨i,_,rfl⟩:=List.mem_map.1 hu;rfl
  go_enter Tryz.func140,Tryz.ntmps140;go_wp2_with (first|(at_builtin;refine wpList_append_own_at _ rfl _ _ 122 rfl B 179 i1 (.pointer none) 1 8 Tryz.underlying122 hj Qc Qd Qe rfl (by decide) _ _ _ rfl y.out ⟨T,U,none⟩ n c ((List.range n).map fun i=>pv (f i)) rfl (by simp) I.out N.out ?c3 ?c4 ?c5 ?_)|fail)
  case c3=>unfold maxLen;omega
  case c4=>omega
  case c5=>exact Qf.out
  intro v1 C m O _ P;obtain⟨J,c1,rfl⟩:=bd m;have hF:=d.out C _ ((Kept.refl _ _).grown O fun k hk _=>hk) m (by
   rcases P with e|e
   ·exact .inl e
   ·exact .inr ⟨_,e,Nat.le_refl _⟩)
  obtain⟨a2,c2,e2,hF⟩:=hF;have H:=Lib.hid hF;clear hF d m O P e2;go_wp2_with fail
  refine H.out.mono ?_;rintro e w2 ⟨q,r,l,rfl,h⟩;have h':=Lib.hid h;clear h;go_wp2_with fail
  go_ret;exact⟨q,r,l,rfl,h'.out⟩
end Go.Proofs.YtkfaiocajcjomaaGreatDoor
namespace TS
open Go Go.RowKit
def bk(W:List (Bool×U))(l:List Tm):Prop:=l= [none]∨(l.Nodup∧none ∉ l∧∀t∈l,∃x∈W,t=some x)
theorem tH(W:List (Bool×U)):bk W []:= .inr ⟨List.nodup_nil,by simp,fun t h=>by cases h⟩
theorem tI{W:List (Bool×U)}{x:Bool×U}(h:x∈W):bk W [some x]:= .inr ⟨by simp,by simp,fun t a=>⟨x,h,by simpa using a⟩⟩
theorem bk.mono{W d:List (Bool×U)}{l:List Tm}(h:bk W l)(f:∀x∈W,x∈d):bk d l:=h.imp id fun⟨a,b,c⟩=>⟨a,b,fun t g=>let⟨x,i,e⟩:=c t g;⟨x,f x i,e⟩⟩
theorem bk.len{W:List (Bool×U)}{l:List Tm}(h:bk W l){n:Nat}(d:W.length≤n)(h1:1≤n):l.length≤n:=by
 rcases h with rfl|⟨a,_,hm⟩
 ·simpa using h1
 ·have:= @lQ Tm (Classical.typeDecidableEq Tm) l (W.map some) a fun t b=>by obtain⟨x,c,e⟩:=hm t b;rw[e];exact List.mem_map_of_mem c
  simp at this;omega
def RW(W:List (Bool×U)):Prop:=∀x∈W,fm x x=false
theorem bk.rt{W:List (Bool×U)}{l:List Tm}(b:RW W)(h:bk W l):RT l:=fun x a=>by
 rcases h with rfl|⟨_,_,hm⟩
 ·simp at a
 ·obtain⟨y,c,e⟩:=hm _ a
  cases e;exact b _ c
theorem bk.cJ{W:List (Bool×U)}{l m:List Tm}(b:∀t∈l,t=none∨∃x∈W,t=some x)(h:mn l m):bk W m:=by
 rcases h with e|⟨h1,h2,h3⟩
 ·exact .inl e
 ·refine .inr ⟨h1,h2,fun t a=> ?_⟩
  rcases b t (h3 t a)with e|h
  ·rw[e]at a;exact absurd a h2
  ·exact h
theorem bk.any{W:List (Bool×U)}{l:List Tm}(h:bk W l):∀t∈l,t=none∨∃x∈W,t=some x:=fun t a=>by
 rcases h with rfl|⟨_,_,hm⟩
 ·simp at a;exact .inl a
 ·exact .inr (hm t a)
theorem bk.join{W:List (Bool×U)}{l m:List Tm}(a:RW W)(h:bk W l)(k:bk W m):bk W (fN l m):=
 bk.cJ (fun t b=>(List.mem_append.1 b).elim (h.any t) (k.any t)) (xS (h.rt a) (k.rt a))
theorem bk.meet{W:List (Bool×U)}{l m:List Tm}(a:RW W)(h:bk W l)(k:bk W m):bk W (bU l m):=
 bk.cJ (fun t b=>(List.mem_append.1 b).elim (h.any t) (k.any t)) (xR (h.rt a) (k.rt a))
theorem bk.sub{W:List (Bool×U)}{l m:List Tm}(h:bk W l)(a:m.Sublist l):m= []∨bk W m:=by
 rcases h with rfl|⟨h1,h2,h3⟩
 ·cases m with
  |nil=>exact .inl rfl
  |cons x r=>right;left;exact a.eq_of_length_le (by simp)
 ·exact .inr (.inr ⟨h1.sublist a,fun hm=>h2 (a.subset hm),fun t b=>h3 t (a.subset b)⟩)
theorem bk.BD{W:List (Bool×U)}{l m:List Tm}(h:bk W l)(a:m.Sublist l):bk W m:=by
 rcases h.sub a with rfl|h
 ·exact tH W
 ·exact h
theorem BE:∀{l:List Tm}{x:Bool×U},none ∉ l→∃z b,bO (some x) l=some (some z,b)∧none ∉ b:=by
 intro l;induction l with
 |nil=>exact fun{x} _=>⟨x,[],rfl,by simp⟩
 |cons y r ih=>
  intro x h;match y,h with
  |none,h=>exact absurd List.mem_cons_self h
  |some y,h=>
   have hr:none ∉ r:=fun hm=>h (List.mem_cons_of_mem _ hm);rw[bO];split
   ·obtain⟨z,b,h1,h2⟩:=ih (x:=x) hr
    exact⟨z,some y::b,by rw[h1];rfl,by simpa using h2⟩
   ·rename_i z a
    match z,a with
    |none,a=>
     simp only[cu]at a;split at a
     ·cases a
     ·split at a<;>cases a
    |some z,a=>
     rw[if_neg (by simp)];exact ih hr
theorem BF:∀{l:List Tm},none ∉ l→∃m,cY l=some m∧none ∉ m:=by
 intro l;induction c:l.length using Nat.strongRecOn generalizing l with
 |_ n ih=>
  subst c;intro h;match l,h with
  | [],_=>exact⟨[],by rw[cY],by simp⟩
  |none::r,h=>exact absurd List.mem_cons_self h
  |some x::r,h=>
   obtain⟨z,d,a,b⟩:=BE (l:=r) (x:=x) fun hm=>h (List.mem_cons_of_mem _ hm);have e:=mj a;obtain⟨m,h1,h2⟩:=ih d.length (by simp;omega) rfl b;refine⟨some z::m,?_,by simpa using h2⟩;rw[cY];split
   ·rename_i h3;rw[h3]at a;cases a
   ·rename_i z2 f h3
    rw[h3]at a;cases a;rw[h1];rfl
theorem tJ{l:List Tm}(h:none ∉ l):none ∉ eh l:=by
 obtain⟨m,h1,h2⟩:=BF h;unfold eh;rw[h1];exact h2
theorem BG{l m:List Tm}(h:none ∉ l)(k:none ∉ m):none ∉ fN l m:=tJ fun hm=>(List.mem_append.1 hm).elim h k
theorem tK{l m:List Tm}(h:none ∉ l∨none ∉ m):none ∉ bU l m:=by
 unfold bU;split
 ·simp
 ·refine tJ fun hm=> ?_
  simp only[List.mem_flatMap,List.mem_filterMap]at hm;obtain⟨x,a,y,b,e⟩:=hm;match x,y,a,b,e with
  |none,none,a,b,_=>exact h.elim (fun h=>h a) fun h=>h b
  |none,some y,_,_,e=>cases e
  |some x,none,_,_,e=>cases e
  |some x,some y,_,_,e=>
   simp only[cv]at e;split at e
   ·cases e
   ·split at e<;>cases e
theorem mU{W:List (Bool×U)}{l:List Tm}(h:bk W l)(a:none∈l):l= [none]:=h.elim id fun⟨_,h2,_⟩=>absurd a h2
theorem Ct{NS:List (List UInt8)}(h:errorName.toList∈NS)(a:ByteArray.empty.toList∈NS):Names NS aG:=by
 rw[Names];refine⟨fun e he=> ?_,fun e he=>by simp[aG,U.un]at he⟩;simp only[aG,U.es,List.mem_singleton]at he;subst he;refine⟨h,?_⟩;rw[Names];refine⟨fun e he=> ?_,fun e he=>by simp[U.un]at he⟩;simp only[U.es,List.mem_singleton]at he;subst he;exact⟨a,qO rfl rfl⟩
theorem uq{NS:List (List UInt8)}(h:errorName.toList∈NS)(b:ByteArray.empty.toList∈NS){T:List U}(hT:∀t∈T,Names NS t):∀(u:U)(f:Nat),Names NS u→Names NS (aQ T f u):=by
 intro u;induction u using U.bg with
 |_ u ih=>
  intro f c;rw[Names];refine⟨fun e he=> ?_,fun e he=> ?_⟩
  ·obtain⟨j,a,rfl⟩:=List.getElem_of_mem he
   rw[gz,ja];rw[cp]at a;have:=c.es (List.getElem_mem a);exact⟨this.1,ih _ (U.az (List.getElem_mem a)) _ this.2⟩
  ·rw[jc]at he
   split at he
   ·simp only[List.mem_singleton]at he;subst he;exact Ct h b
   ·split at he
    ·obtain⟨d,rfl⟩:=List.getElem?_eq_some_iff.1 (Option.mem_toList.1 he)
     exact hT _ (List.getElem_mem d)
    ·cases he
theorem lz{u:U}{n:Nat}(h1:∀e∈u.es,e.dep≤n)(h2:∀e∈u.un,e.dep≤n):u.dep≤n+1:=by
 rw[U.kJ];have key:∀(l:List U)(m:Nat),m≤n→(∀e∈l,e.dep≤n)→l.foldl (fun n e=>max n e.dep) m≤n:=by
  intro l;induction l with
  |nil=>exact fun m hm _=>hm
  |cons a r ih=>intro m hm h;exact ih _ (Nat.max_le.2 ⟨hm,h a List.mem_cons_self⟩) fun e he=>h e (List.mem_cons_of_mem _ he)
 have:=key u.es _ (key u.un 0 (Nat.zero_le _) h2) h1;omega
theorem Cu:aG.dep≤3:=by
 refine lz (n:=2) (fun e he=> ?_) fun e he=>by simp[aG,U.un]at he
 simp only[aG,U.es,List.mem_singleton]at he;subst he;refine lz (n:=1) (fun e he=> ?_) fun e he=>by simp[U.un]at he
 simp only[U.es,List.mem_singleton]at he;subst he;exact lz (n:=0) (fun e he=>by simp[cT,U.es]at he) fun e he=>by simp[cT,U.un]at he
theorem ur{T:List U}{M:Nat}(hT:∀t∈T,t.dep≤M):∀(u:U)(f:Nat),(aQ T f u).dep≤u.dep+M+3:=by
 intro u;induction u using U.bg with
 |_ u ih=>
  intro f;have c:=u.oB;refine Nat.le_trans (lz (n:=u.dep+M+2) (fun e he=> ?_) fun e he=> ?_) (by omega)
  ·obtain⟨j,a,rfl⟩:=List.getElem_of_mem he
   rw[gz];rw[cp]at a;have h1:=ih _ (U.az (List.getElem_mem a)) (aJ u j f);have h2:=U.kK (List.getElem_mem a);omega
  ·rw[jc]at he
   split at he
   ·simp only[List.mem_singleton]at he;subst he;have:=Cu;omega
   ·split at he
    ·obtain⟨b,rfl⟩:=List.getElem?_eq_some_iff.1 (Option.mem_toList.1 he)
     have:=hT _ (List.getElem_mem b);omega
    ·cases he
structure Raw(NS:List (List UInt8))(ds:List aH):Prop where
 err:errorName.toList∈NS
 emp:ByteArray.empty.toList∈NS
 cJ:NS.length≤1048576
 un:∀d∈ds,Names NS d.un∧d.un.dep≤1048576
 ms:∀d∈ds,∀m∈d.ms,Names NS m.sig∧m.sig.dep≤1048576
 len:ds.length≤1048576
theorem Cv{NS:List (List UInt8)}{ds:List aH}(R:Raw NS ds):∀j(h:j<ds.length),Names NS ((aN ds)[j]'(by rw[di];exact h))∧((aN ds)[j]'(by rw[di];exact h)).dep≤(j+1)*1048579:=by
 intro j;induction j using Nat.strongRecOn with
 |_ j ih=>
  intro h;have a:∀t∈(aN ds).take j,Names NS t∧t.dep≤j*1048579:=fun t b=>by
   obtain⟨i,hi,rfl⟩:=List.getElem_of_mem b;rw[List.length_take]at hi;rw[List.getElem_take];have:=ih i (by omega) (by omega);exact⟨this.1,Nat.le_trans this.2 (Nat.mul_le_mul_right _ (by omega))⟩
  rw[kg ds j h];have c:=R.un _ (List.getElem_mem h);refine⟨uq R.err R.emp (fun t b=>(a t b).1) _ _ c.1,?_⟩;have:=ur (M:=j*1048579) (fun t b=>(a t b).2) ds[j].un 1;have:=c.2;rw[Nat.add_mul];omega
theorem lA{NS:List (List UInt8)}{ds:List aH}(R:Raw NS ds){t:U}(h:t∈aN ds):Names NS t∧t.dep≤1099514773504:=by
 obtain⟨j,a,rfl⟩:=List.getElem_of_mem h;rw[di]at a;have h1:=Cv R j a;have h2:=R.len;refine⟨h1.1,Nat.le_trans h1.2 ?_⟩;have:(j+1)*1048579≤1048576*1048579:=Nat.mul_le_mul_right _ (by omega);omega
def bW(ds:List aH):List aH:=ds.mapIdx fun i d=>⟨aQ ((aN ds).take i) 1 d.un,d.ms.map fun m=>⟨m.nm,m.ptr,aQ ((aN ds).take i) 0 m.sig⟩⟩
theorem eS(ds:List aH):(bW ds).length=ds.length:=by simp[bW]
theorem gM(ds:List aH)(i:Nat)(h:i<ds.length):(bW ds)[i]'(by rw[eS];exact h)=⟨(aN ds)[i]'(by rw[di];exact h),ds[i].ms.map fun m=>⟨m.nm,m.ptr,aQ ((aN ds).take i) 0 m.sig⟩⟩:=by
 rw[kg ds i h];simp[bW]
theorem kh{p:Pm}{D:Dl}{ds:List aH}(h:cF p D ds):dV p D (aN ds):=Cs h
theorem dV.take{p:Pm}{D:Dl}{T:List U}(h:dV p D T)(i:Nat):dV p D (T.take i):=fun n a=>by
 rw[List.length_take]at a;rw[List.getElem_take];exact h n (by omega)
theorem nh{p:Pm}{D:Dl}{ds:List aH}(h:cF p D ds):cF p D (bW ds):=by
 refine⟨h.spot,by rw[eS];exact h.len,h.jG,fun i hi=> ?_⟩;rw[eS]at hi;obtain⟨b,o,e,a,c,d,f,h7,g,hu,h1,h2,hm⟩:=h.at' i hi;have hT:=(kh h).take i;rw[gM ds i hi];refine⟨b,o,e,a,c,d,f,?_,?_,?_,?_,h2,?_⟩
 ·simp only;rw[kg ds i hi];exact pD _ _ h7
 ·simpa using g
 ·simp only;rw[kg ds i hi];exact iK hT _ _ hu
 ·simpa using h1
 ·refine⟨fun k hk=> ?_⟩
  simp only[List.length_map]at hk;obtain⟨j,l,m,m1,m2,m3,a',c',m4,m5⟩:=hm.at' k hk;simp only[List.getElem_map];exact⟨j,l,m,m1,m2,m3,a',c',pD _ _ m4,iK hT _ _ m5⟩
def fC(T:List U)(d:aH):Bool:=mt T .type d.un true&&d.ms.all fun m=>mt T .type m.sig false
end TS
namespace Go.Proofs.YtkfaiocajcjomaaGreatDoor
open Go.RowKit TS
theorem pF{D:Dl}{ds:List aH}{NS:List (List UInt8)}(R:Raw NS ds)(hlen:ds.length=D.len)(c:∀k(h:k<ds.length),dx D.len k ds[k]=true)(i:Nat)(hm:∀j(h:j<(aN ds).length),j<i→mt (aN ds) .type (aN ds)[j] true=true):
 Env D (aN ds) NS i where
 len:=by rw[di];exact hlen
 ok:=fun t b=>by
  obtain⟨j,a,rfl⟩:=List.getElem_of_mem b;rw[di]at a;exact(pE ds.length (Nat.le_refl _) (fun k h _=>c k h) j a).1
 bE:=fun j a=>by
  rw[di]at a;exact(pE ds.length (Nat.le_refl _) (fun k h _=>c k h) j a).2
 mt:=hm
 aC:=fun t b=>(lA R b).1
 cJ:=R.cJ
theorem uu{D:Dl}{ds:List aH}{NS:List (List UInt8)}{i:Nat}(R:Raw NS ds)(E:Env D (aN ds) NS i)(hi:i<ds.length):b9 D (aN ds) NS i ((aN ds)[i]'(by rw[di];exact hi)) 0 1 where
 pl:=(E.ok _ (List.getElem_mem _)).pl
 f2:=by omega
 bE:=E.bE i _
 aC:=E.aC _ (List.getElem_mem _)
 dep:=Nat.le_trans (lA R (List.getElem_mem _)).2 (by omega)
theorem pG{D:Dl}{T:List U}{NS:List (List UInt8)}{i:Nat}(E:Env D T NS i)(hi:i≤T.length)(he:errorName.toList∈NS)(g:ByteArray.empty.toList∈NS)(j:∀t∈T,t.dep≤1099514773504){u:U}{q:Pc}(k:q.d≤i)(a:ah D.len u q .type=true)(c:Names NS u)(e:u.dep≤1048576):
 b9 D T NS i (aQ (T.take i) q.f u) 0 q.f where
 pl:=qK (fun t b=>E.ok t (List.mem_of_mem_take b)) u q .type a (by rw[List.length_take];omega) (fun h=>absurd rfl h)
 f2:=by unfold Pc.f;split<;>(try split)<;>omega
 bE:=uk (T:=T) (T':=T.take i) i (by rw[List.length_take];omega) (fun n c=>by rw[List.length_take]at c;exact⟨by omega,by rw[List.getElem_take]⟩) u q .type a (by rw[List.length_take];omega) (fun h=>absurd rfl h)
 aC:=uq he g (fun t b=>E.aC t (List.mem_of_mem_take b)) u q.f c
 dep:=Nat.le_trans (ur (M:=1099514773504) (fun t b=>j t (List.mem_of_mem_take b)) u q.f) (by omega)
end Go.Proofs.YtkfaiocajcjomaaGreatDoor
namespace Go.Proofs.YtkfaiocajcjomaaGreatDoor
open Go.RowKit TS
theorem nB{D:Dl}{T:List U}{NS:List (List UInt8)}{i:Nat}(E:Env D T NS i)(dc:Nat):∀u,g_ D dc T NS i u:=by
 intro u;induction u using U.bg with
 |_ u ih=>
  intro g p pos f a c w h z M hT hu hw;have ag:Up p w (w.alloc (.cells #[.int .i64 u.k,.int .i64 u.n,.int .i64 u.m,.bool u.v,.string u.nm,.string u.tg,.slice a u.es.length c] 25)):=(Up.refl hw).alloc _;by_cases h2:u.k=2
  ·have P:(u.k==2)=true:=by simp[h2]
   have h1:=h.pl.form.eW h2;obtain⟨e,he⟩:=cU h1;have A:=h.mi (by omega) z 0 (by omega);have N:u.es[0]'(by omega)=e:=by simp[he]
   rw[N]at A;obtain⟨b,o,rfl⟩:=hu.list.bC (by omega);obtain⟨a',c',h7,s⟩:=hu.list.get 0 (by omega);simp only[N,Nat.zero_mul,Nat.add_zero]at h7 s;have B:=A.pl.form.aB;have C:=fun W l=>ih e (U.az (by rw[he];simp)) g p 0 _ a' c' W A B.1 B.2 hT s l;have F:Hid (mt T .type u g=mt T .type e g):=by unfold Hid;rw[ks h2,he];simp
   have Y:0<u.es.length:=by omega
   have Q:(0:Int)<u.es.length:=by omega
   obtain⟨z0,Z,z2,z3,z4,z5,z6⟩:(w.cell? ⟨b,o,none⟩=some (.int .i64 e.k)∧w.cell? ⟨b,o+1,none⟩=some (.int .i64 e.n)∧w.cell? ⟨b,o+2,none⟩=some (.int .i64 e.m)∧w.cell? ⟨b,o+3,none⟩=some (.bool e.v)∧w.cell? ⟨b,o+4,none⟩=some (.string e.nm)∧w.cell? ⟨b,o+5,none⟩=some (.string e.tg)∧w.cell? ⟨b,o+6,none⟩=some (.slice a' e.es.length c')):=h7.world hw;have hb:=hw.lt h7.1;have R:=Lib.hid he;rw[F.out];clear he h7 N h1 h2 ih A h F B;go_enter Tryz.func34,Tryz.ntmps34;go_wp2_with fail
   refine(C _ ag.kw).mono ?_;rintro G q ⟨x,rfl,t,aa⟩;have y:=Lib.hid (ag.step aa).up;clear aa C;go_wp2_with fail
   go_ret;exact⟨_,rfl,t,y.out⟩
  have P:(u.k==2)=false:=by simp[h2]
  by_cases d:u.k=10
  ·have bz:(u.k==10)=true:=by simp[d]
   have C:=fun W l=>D4 E p dc h d (fun x t=>ih x t) hT g a c W hu l;clear h h2 d ih;go_enter Tryz.func34,Tryz.ntmps34;go_wp2_with fail
   refine(C _ ag.kw).mono ?_;rintro G q ⟨x,rfl,t,aa⟩;have y:=Lib.hid (ag.step aa).up;clear aa C;go_wp2_with fail
   go_ret;exact⟨_,rfl,t,y.out⟩
  have bz:(u.k==10)=false:=by simp[d]
  have K:=fun W l=>D0 E p dc h h2 d z M hT a c W hu l;have F:Hid (mt T .type u g=((g|| !aU (cR T u))&&u.es.all fun e=>mt T .type e false)):=lN h2 d;have H:=hu.cap;have L:=fun W l=>pQ p D dc T u.es a u.es.length c W rfl (fun e he a' c' S s O=>by
   obtain⟨j,V,rfl⟩:=List.getElem_of_mem he;have A:=h.mi d z j V;have B:=A.pl.form.aB;exact ih _ (U.az he) false p 0 _ a' c' S A B.1 B.2 hT s O) hu.list (by omega) l
  rw[F.out];generalize aU (cR T u)=X at*;generalize (u.es.all fun e=>mt T .type e false)=al at*;clear h h2 d ih F H;cases g
  case true=>
   go_enter Tryz.func34,Tryz.ntmps34;go_wp2_with fail
   refine(L _ ag.kw).mono ?_;rintro G q ⟨x,rfl,t,aa⟩;have y:=Lib.hid (ag.step aa).up;clear aa L;go_wp2_with fail
   go_ret;exact⟨_,rfl,t.out,y.out⟩
  cases X
  case true=>
   have r:=fun W l=>aM (K W l) rfl;clear K;go_enter Tryz.func34,Tryz.ntmps34;go_wp2_with fail
   refine(r _ ag.kw).mono ?_;rintro G q ⟨rfl,aa⟩;have y:=Lib.hid (ag.step aa).up;clear aa r;go_wp2_with fail
   go_ret;exact⟨_,rfl,rfl,y.out⟩
  have r:=fun W l=>aM (K W l) rfl;clear K;go_enter Tryz.func34,Tryz.ntmps34;go_wp2_with fail
  refine(r _ ag.kw).mono ?_;rintro G q ⟨rfl,aa⟩;have I:=ag.step aa;obtain⟨x0,x1,x2,x3,x4,x5,x6⟩:(q.cell? ⟨w.heap.size,0,none⟩=some (.int .i64 u.k)∧q.cell? ⟨w.heap.size,1,none⟩=some (.int .i64 u.n)∧q.cell? ⟨w.heap.size,2,none⟩=some (.int .i64 u.m)∧q.cell? ⟨w.heap.size,3,none⟩=some (.bool u.v)∧q.cell? ⟨w.heap.size,4,none⟩=some (.string u.nm)∧q.cell? ⟨w.heap.size,5,none⟩=some (.string u.tg)∧q.cell? ⟨w.heap.size,6,none⟩=some (.slice a u.es.length c)):=by
   repeat' apply And.intro
   all_goals exact TS.cell_kept aa (by first|(simp[go_sem];done)|(go_keep;done))
  clear aa r ag;go_wp2_with fail
  refine(L _ I.kw).mono ?_;rintro G w2 ⟨x,rfl,t,J⟩;have y:=Lib.hid (I.step J).up;clear J L;go_wp2_with fail
  go_ret;exact⟨_,rfl,t.out,y.out⟩
theorem D5(p:Pm)(D:Dl)(dc:Nat)(m:cE)(x:Bool)(a:Option Addr)(c:Nat)(w:World)(e:∀W,KW p W→Calls Tryz.prog 34 #[.slice D.a D.len dc,.agg #[.int .i64 m.sig.k,.int .i64 m.sig.n,.int .i64 m.sig.m,.bool m.sig.v,.string m.sig.nm,.string m.sig.tg,.slice a m.sig.es.length c],.bool false] W (RB x W))(hw:KW p w)(f:Nat)
 (h1:w.cell? ⟨f,0,none⟩=some (.slice D.a D.len dc)):
 Calls Tryz.prog 59 #[.agg #[.string m.nm,.bool m.ptr,.int .i64 m.sig.k,.int .i64 m.sig.n,.int .i64 m.sig.m,.bool m.sig.v,.string m.sig.nm,.string m.sig.tg,.slice a m.sig.es.length c],.pointer (some ⟨f,0,none⟩)] w (RB (!x) w):=by
 have b1:=World.block_lt_of_cell? _ _ h1;simp only at b1;have ag:Up p w (w.alloc (.cells #[.string m.nm,.bool m.ptr,.int .i64 m.sig.k,.int .i64 m.sig.n,.int .i64 m.sig.m,.bool m.sig.v,.string m.sig.nm,.string m.sig.tg,.slice a m.sig.es.length c] 71)):=(Up.refl hw).alloc _;go_enter Tryz.func59,Tryz.ntmps59;go_wp2_with fail
 refine(e _ ag.kw).mono ?_;rintro h i ⟨b,rfl,g,aa⟩;have d:=(ag.step aa).up;have hF:Hid ((!b)= !x):=by unfold Hid;rw[g.out]
 clear g aa e;go_wp2_with fail
 go_ret;exact⟨_,rfl,hF,d⟩
theorem D6(p:Pm)(D:Dl)(dc:Nat)(T:List U)(d:aH)(a:Option Addr)(c:Nat)(l:Option Addr)(j:Nat)(w:World)
 (u:∀W,KW p W→Calls Tryz.prog 34 #[.slice D.a D.len dc,.agg #[.int .i64 d.un.k,.int .i64 d.un.n,.int .i64 d.un.m,.bool d.un.v,.string d.un.nm,.string d.un.tg,.slice a d.un.es.length c],.bool true] W (RB (mt T .type d.un true) W))
 (x:∀m∈d.ms,∀a c W,aj p D m.sig a c→KW p W→Calls Tryz.prog 34 #[.slice D.a D.len dc,.agg #[.int .i64 m.sig.k,.int .i64 m.sig.n,.int .i64 m.sig.m,.bool m.sig.v,.string m.sig.nm,.string m.sig.tg,.slice a m.sig.es.length c],.bool false] W (RB (mt T .type m.sig false) W))
 (hm:dw p D d.ms l)(o:d.ms.length≤j∧j≤1048576)(hw:KW p w):
 Calls Tryz.prog 31 #[.slice D.a D.len dc,.agg #[.int .i64 d.un.k,.int .i64 d.un.n,.int .i64 d.un.m,.bool d.un.v,.string d.un.nm,.string d.un.tg,.slice a d.un.es.length c,.slice l d.ms.length j]] w (RB (fC T d) w):=by
 have I:=Lib.hid (show ∀args w,(callFunc 59 args).run Tryz.prog w= .ok (.enter 59 args) w from dm Tryz.func59 (by kernel_rfl) rfl);have J:∀(fn:Fn)(first cap:Array Value)(w:World),(Instr.makeFunc fn first cap).run Tryz.prog w= .ok (.func fn first cap) w:=fun _ _ _ _=>rfl;have ag:Up p w ((w.alloc (.cells #[.slice D.a D.len dc] 22)).alloc (.cells #[.int .i64 d.un.k,.int .i64 d.un.n,.int .i64 d.un.m,.bool d.un.v,.string d.un.nm,.string d.un.tg,.slice a d.un.es.length c,.slice l d.ms.length j] 44)):=((Up.refl hw).alloc _).alloc _;obtain⟨r,hr⟩:∃r,r=fC T d:=⟨_,rfl⟩
 rw[←hr];cases e:mt T .type d.un true
 ·have f:=fun W q=>aM (u W q) e
  have hF:Hid (false=r):=by unfold Hid;rw[hr,fC,e];rfl
  clear u e hr x o;go_enter Tryz.func31,Tryz.ntmps31;go_wp2_with fail
  refine(f _ ag.kw).mono ?_;rintro E g ⟨rfl,aa⟩;have y:=Lib.hid (ag.step aa).up;clear aa f;go_wp2_with fail
  go_ret;exact⟨_,rfl,hF.out,y.out⟩
 have f:=fun W q=>aM (u W q) e;have hF:Hid (r= !(d.ms.any fun m=> !mt T .type m.sig false)):=by unfold Hid;rw[hr,fC,e];simp[List.not_any_eq_all_not]
 have F:=Lib.hid fun W (q:KW p W) lb H=>rk d.ms.length p D d.ms rfl l j 59 lb (fun m=> !mt T .type m.sig false) W q hm (by omega) I.out H;have z:=Lib.hid x;clear u e hr x o;go_enter Tryz.func31,Tryz.ntmps31;go_wp2_with fail
 refine(f _ ag.kw).mono ?_;rintro E g ⟨rfl,aa⟩;have h:=ag.step aa;have c0:g.cell? ⟨w.heap.size,0,none⟩=some (.slice D.a D.len dc):=TS.cell_kept aa (by simp[go_sem]);obtain⟨L,M,N,O,P,Q,R,S⟩:(g.cell? ⟨w.heap.size+1,0,none⟩=some (.int .i64 d.un.k)∧g.cell? ⟨w.heap.size+1,1,none⟩=some (.int .i64 d.un.n)∧g.cell? ⟨w.heap.size+1,2,none⟩=some (.int .i64 d.un.m)∧g.cell? ⟨w.heap.size+1,3,none⟩=some (.bool d.un.v)∧g.cell? ⟨w.heap.size+1,4,none⟩=some (.string d.un.nm)∧g.cell? ⟨w.heap.size+1,5,none⟩=some (.string d.un.tg)∧g.cell? ⟨w.heap.size+1,6,none⟩=some (.slice a d.un.es.length c)∧g.cell? ⟨w.heap.size+1,7,none⟩=some (.slice l d.ms.length j)):=by
  repeat' apply And.intro
  all_goals exact TS.cell_kept aa (by first|(simp[go_sem];done)|(go_keep;done))
 clear aa f ag;go_wp2_with fail
 refine(F.out _ h.kw _ ?_).mono ?_
 ·intro i hi W a' c' s A
  exact D5 p D dc d.ms[i] _ a' c' W (fun K B=>z.out _ (List.getElem_mem hi) a' c' K A B) (h.kw.grown s) _ (TS.cell_kept s c0)
 rintro E V ⟨b,rfl,G,t⟩;have y:=Lib.hid (h.step t).up;have C:Hid ((!b)=r):=by unfold Hid;rw[G.out];exact hF.out.symm
 clear G t F;go_wp2_with fail
 go_ret;exact⟨_,rfl,C.out,y.out⟩
theorem D7(p:Pm)(D:Dl)(es:List aH)(dc g:Nat)(lb:Array Value)(P:aH→Bool)(w:World)(hw:KW p w)(z:cF p D es)(L:(es.length:Int)≤1048576)
 (M:∀args w,(callFunc g args).run Tryz.prog w= .ok (.enter g args) w)
 (H:∀i(h:i<es.length) W a' c' s j,(∀x∈es.take i,P x=false)→Below w.heap.size w W→aj p D es[i].un a' c'→dw p D es[i].ms s→es[i].ms.length≤j∧j≤1048576→Calls Tryz.prog g (#[.agg #[.int .i64 es[i].un.k,.int .i64 es[i].un.n,.int .i64 es[i].un.m,.bool es[i].un.v,.string es[i].un.nm,.string es[i].un.tg,.slice a' es[i].un.es.length c',.slice s es[i].ms.length j]]++lb) W (RB (P es[i]) W)):
 Calls Tryz.prog 58 #[.slice D.a D.len dc,.func (.func g) #[] lb] w fun e A=>(∃k:Nat,e= .returned (.int .i64 k)∧∃h:k<es.length,P es[k]=true)∧Below w.heap.size w A∨(e= .returned (.int .i64 (-1))∧∀x∈es,P x=false)∧Below w.heap.size w A:=by
 have J:=Lib.hid H;clear H;have hlen:=z.len;obtain⟨N,O⟩:=D;simp only at hlen;subst hlen;go_enter Tryz.func58,Tryz.ntmps58;go_wp2_with fail
 go_loopw [8] (fun t wr=> ∃k:Nat,k≤es.length∧t= .int .i64 k∧(∀x∈es.take k,P x=false)∧Below w.heap.size w wr) (fun t _=>es.length- (intOf t).toNat)
 case atStart=>exact⟨0,Nat.zero_le _,rfl,by simp,Below.refl _ _⟩
 case round=>
  obtain⟨k,hk,rfl,d,c⟩:=hrel;by_cases f:k<es.length
  ·obtain⟨b,o,l⟩:=z.bC (by omega)
   simp only at l;subst l;obtain⟨a',c',s,j,h7,E,hu,B,C,hm⟩:=z.get rfl k f;have K:=J.out k f wr a' c' s j d c hu hm ⟨B,C⟩;have q:=hw.grown c;have r:=Lib.hid d;clear d;generalize F:es[k]=x at*;obtain⟨g0,g1,g2,g3,g4,g5,g6⟩:(wr.cell? ⟨b,o+k*8,none⟩=some (.int .i64 x.un.k)∧wr.cell? ⟨b,o+k*8+1,none⟩=some (.int .i64 x.un.n)∧wr.cell? ⟨b,o+k*8+2,none⟩=some (.int .i64 x.un.m)∧wr.cell? ⟨b,o+k*8+3,none⟩=some (.bool x.un.v)∧wr.cell? ⟨b,o+k*8+4,none⟩=some (.string x.un.nm)∧wr.cell? ⟨b,o+k*8+5,none⟩=some (.string x.un.tg)∧wr.cell? ⟨b,o+k*8+6,none⟩=some (.slice a' x.un.es.length c')):=h7.world q;have gs:=q _ _ _ E;clear h7 E;go_wp2_with fail
   refine K.mono ?_;rintro e A ⟨bb,rfl,G,I⟩;cases bb<;>go_wp2_with fail
   ·go_roundw
    case rel=>
     refine⟨k+1,by omega,by go_num,?_,c.trans (I.mono c.size)⟩;intro y u;rw[List.take_succ_eq_append_getElem f,List.mem_append,List.mem_singleton,F]at u;rcases u with u|rfl
     ·exact r.out y u
     ·exact G.out.symm
    case measure=>simp[intOf];omega
   ·go_ret
    exact .inl ⟨⟨k,rfl,f,by rw[F];exact G.out.symm⟩,c.trans (I.mono c.size)⟩
  ·go_wp2_with fail
   go_ret;rw[List.take_of_length_le (by omega)]at d;exact .inr ⟨⟨rfl,d⟩,c⟩
theorem D8(p:Pm)(D:Dl)(es:List aH)(dc g:Nat)(lb:Array Value)(P:aH→Bool)(w:World)(hw:KW p w)(l:cF p D es)(o:(es.length:Int)≤1048576)
 (q:∀args w,(callFunc g args).run Tryz.prog w= .ok (.enter g args) w)
 (H:∀i(h:i<es.length) W a' c' j c,(∀x∈es.take i,P x=false)→Below w.heap.size w W→aj p D es[i].un a' c'→dw p D es[i].ms j→es[i].ms.length≤c∧c≤1048576→Calls Tryz.prog g (#[.agg #[.int .i64 es[i].un.k,.int .i64 es[i].un.n,.int .i64 es[i].un.m,.bool es[i].un.v,.string es[i].un.nm,.string es[i].un.tg,.slice a' es[i].un.es.length c',.slice j es[i].ms.length c]]++lb) W (RB (P es[i]) W)):
 Calls Tryz.prog 29 #[.slice D.a D.len dc,.func (.func g) #[] lb] w (RB (es.any P) w):=by
 have r:=Lib.hid (D7 p D es dc g lb P w hw l o q H);clear H;go_enter Tryz.func29,Tryz.ntmps29;go_wp2_with fail
 refine r.out.mono ?_;rintro e t (⟨⟨k,rfl,hk,b⟩,d⟩|⟨⟨rfl,b⟩,d⟩)
 ·have f:Hid (true=es.any P):=(List.any_eq_true.2 ⟨_,List.getElem_mem hk,b⟩).symm
  clear b;go_wp2_with fail
  go_ret;exact⟨_,rfl,f,d⟩
 ·have f:Hid (false=es.any P):=(List.any_eq_false.2 fun x s=>by simp[b x s]).symm
  clear b;go_wp2_with fail
  go_ret;exact⟨_,rfl,f,d⟩
theorem D9(p:Pm)(D:Dl)(dc:Nat)(d:aH)(x:Bool)(a:Option Addr)(c:Nat)(e:Option Addr)(f:Nat)(w:World)(h:∀W,KW p W→Calls Tryz.prog 31 #[.slice D.a D.len dc,.agg #[.int .i64 d.un.k,.int .i64 d.un.n,.int .i64 d.un.m,.bool d.un.v,.string d.un.nm,.string d.un.tg,.slice a d.un.es.length c,.slice e d.ms.length f]] W (RB x W))(hw:KW p w)(i:Nat)
 (h1:w.cell? ⟨i,0,none⟩=some (.slice D.a D.len dc)):
 Calls Tryz.prog 30 #[.agg #[.int .i64 d.un.k,.int .i64 d.un.n,.int .i64 d.un.m,.bool d.un.v,.string d.un.nm,.string d.un.tg,.slice a d.un.es.length c,.slice e d.ms.length f],.pointer (some ⟨i,0,none⟩)] w (RB (!x) w):=by
 have b1:=World.block_lt_of_cell? _ _ h1;simp only at b1;have ag:Up p w (w.alloc (.cells #[.int .i64 d.un.k,.int .i64 d.un.n,.int .i64 d.un.m,.bool d.un.v,.string d.un.nm,.string d.un.tg,.slice a d.un.es.length c,.slice e d.ms.length f] 44)):=(Up.refl hw).alloc _;go_enter Tryz.func30,Tryz.ntmps30;go_wp2_with fail
 refine(h _ ag.kw).mono ?_;rintro l o ⟨b,rfl,j,aa⟩;have g:=(ag.step aa).up;have hF:Hid ((!b)= !x):=by unfold Hid;rw[j.out]
 clear j aa h;go_wp2_with fail
 go_ret;exact⟨_,rfl,hF,g⟩
structure dL(D:Dl)(ds:List aH):Prop where
 pl:∀k(h:k<ds.length),dx D.len k ds[k]=true
 mt:∀d∈bW ds,fC (aN ds) d=true
theorem D_{D:Dl}{ds:List aH}{NS:List (List UInt8)}(R:Raw NS ds)(hlen:ds.length=D.len)(F:∀k(h:k<ds.length),dx D.len k ds[k]=true)(p:Pm)(dc:Nat)(H:cF p D ds)(i:Nat)(hi:i<(bW ds).length)
 (w:∀x∈(bW ds).take i,(!fC (aN ds) x)=false)(a:Option Addr)(c:Nat)(y:Option Addr)(s:Nat)(hu:aj p D (bW ds)[i].un a c)(hm:dw p D (bW ds)[i].ms y)(z:(bW ds)[i].ms.length≤s∧s≤1048576)(W:World)(I:KW p W):
 Calls Tryz.prog 31 #[.slice D.a D.len dc,.agg #[.int .i64 ((bW ds)[i].un).k,.int .i64 ((bW ds)[i].un).n,.int .i64 ((bW ds)[i].un).m,.bool ((bW ds)[i].un).v,.string ((bW ds)[i].un).nm,.string ((bW ds)[i].un).tg,.slice a ((bW ds)[i].un).es.length c,.slice y (bW ds)[i].ms.length s]] W (RB (fC (aN ds) (bW ds)[i]) W):=by
 have b:i<ds.length:=by rw[eS]at hi;exact hi
 have E:Env D (aN ds) NS i:=pF R hlen F i fun j A J=>by
  rw[di]at A;have K:j<(bW ds).length:=by rw[eS];exact A
  have l:(bW ds)[j]∈(bW ds).take i:=by
   rw[show(bW ds)[j]=((bW ds).take i)[j]'(by rw[List.length_take];omega) by rw[List.getElem_take]];exact List.getElem_mem _
  have:=w _ l;rw[gM ds j A]at this;unfold fC at this;simp only[Bool.not_eq_false',Bool.and_eq_true]at this;exact this.1
 have hT:=kh H;have L:=gM ds i b;generalize (bW ds)[i]=d at*;subst L;refine D6 p D dc (aN ds) _ a c y s W (fun B e=> ?_) (fun m o a' c' B C e=> ?_) hm z I
 ·have hk:=uu R E b
  exact nB E dc _ true p 0 1 a c B hk hk.pl.form.aB.1 hk.pl.form.aB.2 hT hu e
 ·simp only[List.mem_map]at o
  obtain⟨m0,r,rfl⟩:=o;have f:=F i b;unfold dx eJ at f;simp only[Bool.and_eq_true,List.all_eq_true]at f;have g:=f.1.2.1 m0 r;unfold fM at g;simp only[Bool.and_eq_true]at g;have G:=R.ms _ (List.getElem_mem b) m0 r;have hk:=pG E (by rw[di];omega) R.err R.emp (fun t M=>(lA R M).2) (u:=m0.sig) (q:=⟨i,false,false⟩) (by simp) g.1.2 G.1 G.2;exact nB E dc _ false p 0 0 a' c' B hk hk.pl.form.aB.1 hk.pl.form.aB.2 hT C e
theorem uZ(p:Pm)(D:Dl)(dc:Nat)(ds:List aH)(NS:List (List UInt8))(R:Raw NS ds)(q:cF p D ds)(w:World)(hw:KW p w):
 Calls Tryz.prog 13 #[.slice D.a D.len dc] w fun e w'=>(∃b,e= .returned (.bool b)∧Hid (b=true→dL D ds))∧Below w.heap.size w w':=by
 have ag:Up p w (w.alloc (.cells #[.slice D.a D.len dc] 22)):=(Up.refl hw).alloc _;have hlen:=q.len;have l:=q.jG;have t:=Lib.hid fun(I:∀k(h:k<ds.length),dx D.len k ds[k]=true) W (r:KW p W) (K:W.cell? ⟨w.heap.size,0,none⟩=some (.slice D.a D.len dc))=>
  D8 p D (bW ds) dc 30 #[.pointer (some ⟨w.heap.size,0,none⟩)] (fun d=> !fC (aN ds) d) W r (nh q) (by rw[eS];omega)
   (dm Tryz.func30 (by kernel_rfl) rfl) (fun i hi W' a' c' u z L Y hu hm M=>D9 p D dc _ _ a' c' u z W' (fun N A=>D_ R hlen I p dc q i hi L a' c' u z hu hm M N A) (r.grown Y) _ (TS.cell_kept Y K))
 have P4:∀(fn:Fn)(first cap:Array Value)(w:World),(Instr.makeFunc fn first cap).run Tryz.prog w= .ok (.func fn first cap) w:=fun _ _ _ _=>rfl;have P5:(ds.length:Int)≤1048576:=by omega
 have P6:ds.length≤1048576:=by omega
 have O:=Lib.hid hlen;obtain⟨Z,Dn⟩:=D;simp only at hlen;subst hlen;clear l;go_enter Tryz.func13,Tryz.ntmps13;go_wp2_with fail
 go_loopw [7] (fun i wr=> ∃k:Nat,k≤ds.length∧i= .int .i64 k∧(∀j(h:j<k)(P:j<ds.length),dx ds.length j ds[j]=true)∧wr.cell? ⟨w.heap.size,0,none⟩=some (.slice Z ds.length dc)∧Up p w wr) (fun i _=>ds.length- (intOf i).toNat)
 case atStart=>exact⟨0,Nat.zero_le _,rfl,(fun j h=>by omega),by simp,ag⟩
 case round=>
  clear ag;obtain⟨k,hk,rfl,g,c0,B⟩:=hrel;have b0:=World.block_lt_of_cell? _ _ c0;simp only at b0;have f:=Lib.hid g;clear g;by_cases Q:k<ds.length
  ·have P3:(k:Int)<ds.length:=by omega
   obtain⟨b,o,C⟩:=q.bC (by omega);simp only at C;subst C;obtain⟨a',c',u,z,h7,S,hu,E,T,hm⟩:=q.get rfl k Q;have c:Hid (dx ds.length k ds[k]=true→∀j(h:j<k+1)(P:j<ds.length),dx ds.length j ds[j]=true):=fun h j hj P=>by
    by_cases e:j=k
    ·subst e;exact h
    ·exact f.out j (by omega) P
   obtain⟨d,J⟩:∃d,d=ds[k]:=⟨_,rfl⟩
   rw[←J]at h7 S hu E hm c;clear J;obtain⟨g0,g1,g2,g3,g4,g5,g6⟩:(wr.cell? ⟨b,o+k*8,none⟩=some (.int .i64 d.un.k)∧wr.cell? ⟨b,o+k*8+1,none⟩=some (.int .i64 d.un.n)∧wr.cell? ⟨b,o+k*8+2,none⟩=some (.int .i64 d.un.m)∧wr.cell? ⟨b,o+k*8+3,none⟩=some (.bool d.un.v)∧wr.cell? ⟨b,o+k*8+4,none⟩=some (.string d.un.nm)∧wr.cell? ⟨b,o+k*8+5,none⟩=some (.string d.un.tg)∧wr.cell? ⟨b,o+k*8+6,none⟩=some (.slice a' d.un.es.length c')):=h7.world B.kw;have gs:=B.kw _ _ _ S;clear h7 S;have F:=B.alloc (.cells #[.int .i64 d.un.k,.int .i64 d.un.n,.int .i64 d.un.m,.bool d.un.v,.string d.un.nm,.string d.un.tg,.slice a' d.un.es.length c',.slice u d.ms.length z] 44);have U:=fun W r=>wU p ⟨some ⟨b,o,none⟩,ds.length⟩ dc d k a' c' u z W hu hm ⟨E,T⟩ r;simp only at U;generalize dx ds.length k d=x at*;go_wp2_with fail
   refine(U _ F.kw).mono ?_;rintro e1 w1 ⟨y,rfl,s,aa⟩;have G:=Lib.hid (F.step aa);have c2:w1.cell? ⟨w.heap.size,0,none⟩=some (.slice (some ⟨b,o,none⟩) ds.length dc):=TS.cell_kept aa (by rw[World.cell?_alloc_lt _ _ _ b0];exact c0);clear aa U;cases y
   ·have V:=Lib.hid G.out.up
    clear s c;go_wp2_with fail
    go_ret;exact⟨⟨_,rfl,fun h=>by cases h⟩,V.out⟩
   ·have hN:=Lib.hid (c.out s.out.symm)
    clear s c;go_wp2_with fail
    go_roundw
    case rel=>exact⟨k+1,by omega,by go_num,hN.out,c2,G.out⟩
    case measure=>simp only[intOf];omega
  ·have I:Hid (∀k(h:k<ds.length),dx ds.length k ds[k]=true):=fun j h=>f.out j (by omega) h
   have X:=fun W r K=>t.out I.out W r K;try simp only at X
   clear t f;go_wp2_with fail
   refine(X _ B.kw c0).mono ?_;rintro e1 w1 ⟨y,rfl,s,aa⟩;have V:=Lib.hid (B.step aa).up;have hF:Hid ((!y)=true→dL ⟨Z,ds.length⟩ ds):=fun h=>⟨I.out,fun d J=>by
    have H:=s.out;rw[show y=false by simpa using h]at H;have:=List.any_eq_false.1 H.symm d J;simpa using this⟩
   clear aa X s;go_wp2_with fail
   go_ret;exact⟨⟨_,rfl,hF⟩,V.out⟩
end Go.Proofs.YtkfaiocajcjomaaGreatDoor
