import Derived.Laws.AppendOwnNone
import Derived.Test.YtdkmnkjhhhmglaaGreatDoorYay
import Derived.Test.YtdkmnkjhhhmglaaGreatDoorYaz
set_option maxRecDepth 100000
set_option maxHeartbeats 8000000
set_option linter.all false
namespace Go.Proofs.YtdkmnkjhhhmglaaGreatDoor
open Go.RowKit TS
theorem DK(len:Nat)(p:Pm)(g:Ge)(B:Nat)(v:Value)(rs:List Nat)(R:List Tm)(a:Option Addr)(n c:Nat)(f:Nat→Nat)(D:List Tm)(w:World)(V:aw p g w)(hT:cD p g B w v rs R)(W:∀b,v.ownBlock=some b→∀o,p b o=none)(hB:B≤w.heap.size)(hG:5<B)
 (X:n=D.length)(hl:n≤1048576)(P4:rs.length≤1048576)(ha:a=none→c=0)(Y:∀x,a=some x→x.spot=none)(hp:bw w a n f)(hy:∀i(h:i<D.length),aY p g D[i] (f i))(ok:∀t∈R,cJ len t)(L:∀t∈D,cJ len t):
 Calls Tryz.prog 148 #[v,.slice a n c] w fun e F=>
  ∃q r l,e= .returned r∧aP p q B∧aw q g F∧cD q g w.heap.size F r l (gD R D)∧Kept (fun k=>v.ownBlock=some k) w F∧∀b,r.ownBlock=some b→∀o,q b o=none:=by
 obtain⟨Z,vc,rfl⟩:=bn hT.own
 have E:∀(C:World)(v1:Value),Kept (fun k=>(Value.slice Z rs.length vc).ownBlock=some k) w C→C.ownsRow B 218 1 v1 (rs.length+n) (rs.map pv++(List.range n).map fun i=>pv (f i))→(v1.ownBlock=(Value.slice Z rs.length vc).ownBlock∨∃k,v1.ownBlock=some k∧w.heap.size≤k)→
  ∃J c1,v1= .slice J (rs.length+n) c1∧Calls Tryz.prog 187 #[v1] C fun e F=> ∃q r l,e= .returned r∧aP p q B∧aw q g F∧cD q g w.heap.size F r l (gD R D)∧Kept (fun k=>(Value.slice Z rs.length vc).ownBlock=some k) w F∧∀b,r.ownBlock=some b→∀o,q b o=none:=by
  intro C v1 Q ho hv;have PM:aw p g C:=V.own Q (fun b K=>W b K) fun e=>by have:=(hT.own.lt _ e).1;omega
  have PN:cD p g B C v1 (rs++(List.range n).map f) (R++D):=by
   refine⟨by simpa [List.map_map,Function.comp_def]using ho,by simp[hT.len,X],fun i hi P5=> ?_⟩;have hl:=hT.len;by_cases s:i<R.length
   ·rw[List.getElem_append_left s,List.getElem_append_left (by omega)];exact hT.cM i s (by omega)
   ·rw[List.getElem_append_right (by omega),List.getElem_append_right (by omega)]
    simp only[List.getElem_map,List.getElem_range];have:=hy (i- R.length) (by simp at hi;omega);rw[hl];exact this
  obtain⟨q,J,c1,S,PO,PQ,M,P6,PR⟩:=nf PM PN fun b K=>by
   rcases hv with e|⟨k,e,hk⟩
   ·rw[e]at K;exact W b K
   ·rw[e]at K;cases K;exact fun o=>V.kw.aJ hk o
  have hlen:(rs++(List.range n).map f).length=rs.length+n:=by simp
  rw[hlen]at S M;refine⟨J,c1,S,?_⟩;subst S;refine(vV len q g J (rs.length+n) c1 _ (R++D) C (by simp[hT.len,X]) (by omega) PQ M PR fun t ht=>(List.mem_append.1 ht).elim (ok t) (L t)).mono ?_;rintro e w2 ⟨q2,v2,PS,rfl,PT,PU,G,PV,PW⟩;exact⟨q2,v2,PS,rfl,PO.trans PT (by have:=Q.size;omega),PU,⟨kh G.own Q.size,G.len,G.cM⟩,Q.below PV,PW⟩
 have d:=Lib.hid E;have y:=Lib.hid hT.own;obtain⟨i1,hj,PX,PY,PZ⟩:=info_parts qR;have z:=Lib.hid hp;have P0:=Lib.hid hB;clear V hT W hG hy ok L hp E X;match a,ha,Y,z with
 |none,ha,_,z=>
  have P1:=ha rfl;have P2:n=0:=by
   rcases Nat.eq_zero_or_pos n with h|h
   ·exact h
   ·obtain⟨_,_,e,_⟩:=z.out 0 h;cases e
  subst P1;subst P2;have hF:=d.out w _ (Kept.refl _ _) (by simpa using y.out) (.inl rfl);obtain⟨J,c1,S,hF⟩:=hF;have H:=Lib.hid hF;clear hF d ha;go_enter Tryz.func148,Tryz.ntmps148;go_wp2_with (first|(at_builtin;refine wpList_append_own_none rfl _ _ 130 rfl B 218 i1 1 Tryz.underlying130 hj _ _ _ rfl y.out rfl ?_)|fail)
  refine H.out.mono ?_;rintro e w2 ⟨q,r,l,rfl,h⟩;have h':=Lib.hid h;clear h;go_wp2_with fail
  go_ret;exact⟨q,r,l,rfl,h'.out⟩
 |some ad,_,Y,z=>
  have A:=Y ad rfl;obtain⟨T,U,sp⟩:=ad;simp only at A;subst A;have I:Hid (∀j u,((List.range n).map fun i=>pv (f i))[j]?=some u→w.cell? ((⟨T,U,none⟩:Addr).add j)=some u):=fun j u hu=>by
   rw[List.getElem?_map]at hu;obtain⟨i,hi,rfl⟩:=Option.map_eq_some_iff.1 hu;have P3:=List.getElem?_eq_some_iff.1 hi;obtain⟨s,e⟩:=P3;simp at s e;subst e;obtain⟨b0,o0,e0,hc⟩:=z.out j s;cases e0;rw[show(⟨T,U,none⟩:Addr).add j=⟨T,U+j,none⟩ by unfold Addr.add;split<;>simp_all];exact hc
  have N:Hid (∀u∈(List.range n).map (fun i=>pv (f i)),u.oneCell'=true):=fun u hu=>by obtain⟨i,_,rfl⟩:=List.mem_map.1 hu;rfl
  go_enter Tryz.func148,Tryz.ntmps148;go_wp2_with (first|(at_builtin;refine wpList_append_own_at _ rfl _ _ 130 rfl B 218 i1 (.pointer none) 1 8 Tryz.underlying130 hj PX PY PZ rfl (by decide) _ _ _ rfl y.out ⟨T,U,none⟩ n c ((List.range n).map fun i=>pv (f i)) rfl (by simp) I.out N.out ?c3 ?c4 ?c5 ?_)|fail)
  case c3=>unfold maxLen;omega
  case c4=>omega
  case c5=>exact P0.out
  intro v1 C m O _ P;obtain⟨J,c1,rfl⟩:=bn m;have hF:=d.out C _ ((Kept.refl _ _).grown O fun k hk _=>hk) m (by
   rcases P with e|e
   ·exact .inl e
   ·exact .inr ⟨_,e,Nat.le_refl _⟩)
  obtain⟨a2,c2,e2,hF⟩:=hF;have H:=Lib.hid hF;clear hF d m O P e2;go_wp2_with fail
  refine H.out.mono ?_;rintro e w2 ⟨q,r,l,rfl,h⟩;have h':=Lib.hid h;clear h;go_wp2_with fail
  go_ret;exact⟨q,r,l,rfl,h'.out⟩
end Go.Proofs.YtdkmnkjhhhmglaaGreatDoor
namespace TS
open Go Go.RowKit
def bz(W:List (Bool×U))(l:List Tm):Prop:=l= [none]∨(l.Nodup∧none ∉ l∧∀t∈l,∃x∈W,t=some x)
theorem wk(W:List (Bool×U)):bz W []:= .inr ⟨List.nodup_nil,by simp,fun t h=>by cases h⟩
theorem wm{W:List (Bool×U)}{x:Bool×U}(h:x∈W):bz W [some x]:= .inr ⟨by simp,by simp,fun t a=>⟨x,h,by simpa using a⟩⟩
theorem bz.mono{W d:List (Bool×U)}{l:List Tm}(h:bz W l)(f:∀x∈W,x∈d):bz d l:=h.imp id fun⟨a,b,c⟩=>⟨a,b,fun t g=>let⟨x,i,e⟩:=c t g;⟨x,f x i,e⟩⟩
theorem bz.len{W:List (Bool×U)}{l:List Tm}(h:bz W l){n:Nat}(d:W.length≤n)(h1:1≤n):l.length≤n:=by
 rcases h with rfl|⟨a,_,hm⟩
 ·simpa using h1
 ·have:= @nT Tm (Classical.typeDecidableEq Tm) l (W.map some) a fun t b=>by obtain⟨x,c,e⟩:=hm t b;rw[e];exact List.mem_map_of_mem c
  simp at this;omega
def RW(W:List (Bool×U)):Prop:=∀x∈W,cj x x=false
theorem bz.rt{W:List (Bool×U)}{l:List Tm}(b:RW W)(h:bz W l):RT l:=fun x a=>by
 rcases h with rfl|⟨_,_,hm⟩
 ·simp at a
 ·obtain⟨y,c,e⟩:=hm _ a
  cases e;exact b _ c
theorem bz.dm{W:List (Bool×U)}{l m:List Tm}(b:∀t∈l,t=none∨∃x∈W,t=some x)(h:ow l m):bz W m:=by
 rcases h with e|⟨h1,h2,h3⟩
 ·exact .inl e
 ·refine .inr ⟨h1,h2,fun t a=> ?_⟩
  rcases b t (h3 t a)with e|h
  ·rw[e]at a;exact absurd a h2
  ·exact h
theorem bz.any{W:List (Bool×U)}{l:List Tm}(h:bz W l):∀t∈l,t=none∨∃x∈W,t=some x:=fun t a=>by
 rcases h with rfl|⟨_,_,hm⟩
 ·simp at a;exact .inl a
 ·exact .inr (hm t a)
theorem bz.join{W:List (Bool×U)}{l m:List Tm}(a:RW W)(h:bz W l)(k:bz W m):bz W (gD l m):=
 bz.dm (fun t b=>(List.mem_append.1 b).elim (h.any t) (k.any t)) (AG (h.rt a) (k.rt a))
theorem bz.meet{W:List (Bool×U)}{l m:List Tm}(a:RW W)(h:bz W l)(k:bz W m):bz W (bc l m):=
 bz.dm (fun t b=>(List.mem_append.1 b).elim (h.any t) (k.any t)) (uB (h.rt a) (k.rt a))
theorem bz.sub{W:List (Bool×U)}{l m:List Tm}(h:bz W l)(a:m.Sublist l):m= []∨bz W m:=by
 rcases h with rfl|⟨h1,h2,h3⟩
 ·cases m with
  |nil=>exact .inl rfl
  |cons x r=>right;left;exact a.eq_of_length_le (by simp)
 ·exact .inr (.inr ⟨h1.sublist a,fun hm=>h2 (a.subset hm),fun t b=>h3 t (a.subset b)⟩)
theorem bz.DP{W:List (Bool×U)}{l m:List Tm}(h:bz W l)(a:m.Sublist l):bz W m:=by
 rcases h.sub a with rfl|h
 ·exact wk W
 ·exact h
theorem DQ:∀{l:List Tm}{x:Bool×U},none ∉ l→∃z l',bI (some x) l=some (some z,l')∧none ∉ l':=by
 intro l;induction l with
 |nil=>exact fun{x} _=>⟨x,[],rfl,by simp⟩
 |cons y r ih=>
  intro x h;match y,h with
  |none,h=>exact absurd List.mem_cons_self h
  |some y,h=>
   have hr:none ∉ r:=fun hm=>h (List.mem_cons_of_mem _ hm);rw[bI];split
   ·obtain⟨z,l',h1,h2⟩:=ih (x:=x) hr
    exact⟨z,some y::l',by rw[h1];rfl,by simpa using h2⟩
   ·rename_i z a
    match z,a with
    |none,a=>
     simp only[cz]at a;split at a
     ·cases a
     ·split at a<;>cases a
    |some z,a=>
     rw[if_neg (by simp)];exact ih hr
theorem DS:∀{l:List Tm},none ∉ l→∃m,cp l=some m∧none ∉ m:=by
 intro l;induction c:l.length using Nat.strongRecOn generalizing l with
 |_ n ih=>
  subst c;intro h;match l,h with
  | [],_=>exact⟨[],by rw[cp],by simp⟩
  |none::r,h=>exact absurd List.mem_cons_self h
  |some x::r,h=>
   obtain⟨z,l',a,b⟩:=DQ (l:=r) (x:=x) fun hm=>h (List.mem_cons_of_mem _ hm);have d:=ll a;obtain⟨m,h1,h2⟩:=ih l'.length (by simp;omega) rfl b;refine⟨some z::m,?_,by simpa using h2⟩;rw[cp];split
   ·rename_i h3;rw[h3]at a;cases a
   ·rename_i z2 e h3
    rw[h3]at a;cases a;rw[h1];rfl
theorem wq{l:List Tm}(h:none ∉ l):none ∉ bk l:=by
 obtain⟨m,h1,h2⟩:=DS h;unfold bk;rw[h1];exact h2
theorem DT{l m:List Tm}(h:none ∉ l)(k:none ∉ m):none ∉ gD l m:=wq fun hm=>(List.mem_append.1 hm).elim h k
theorem wu{l m:List Tm}(h:none ∉ l∨none ∉ m):none ∉ bc l m:=by
 unfold bc;split
 ·simp
 ·refine wq fun hm=> ?_
  simp only[List.mem_flatMap,List.mem_filterMap]at hm;obtain⟨x,a,y,b,e⟩:=hm;match x,y,a,b,e with
  |none,none,a,b,_=>exact h.elim (fun h=>h a) fun h=>h b
  |none,some y,_,_,e=>cases e
  |some x,none,_,_,e=>cases e
  |some x,some y,_,_,e=>
   simp only[bP]at e;split at e
   ·cases e
   ·split at e<;>cases e
theorem o5{W:List (Bool×U)}{l:List Tm}(h:bz W l)(a:none∈l):l= [none]:=h.elim id fun⟨_,h2,_⟩=>absurd a h2
theorem ED{NS:List (List UInt8)}(h:errorName.toList∈NS)(a:ByteArray.empty.toList∈NS):Names NS aI:=by
 rw[Names];refine⟨fun e he=> ?_,fun e he=>by simp[aI,U.un]at he⟩;simp only[aI,U.es,List.mem_singleton]at he;subst he;refine⟨h,?_⟩;rw[Names];refine⟨fun e he=> ?_,fun e he=>by simp[U.un]at he⟩;simp only[U.es,List.mem_singleton]at he;subst he;exact⟨a,qa rfl rfl⟩
theorem wY{NS:List (List UInt8)}(h:errorName.toList∈NS)(b:ByteArray.empty.toList∈NS){T:List U}(hT:∀t∈T,Names NS t):∀(u:U)(f:Nat),Names NS u→Names NS (aL T f u):=by
 intro u;induction u using U.bg with
 |_ u ih=>
  intro f c;rw[Names];refine⟨fun e he=> ?_,fun e he=> ?_⟩
  ·obtain⟨j,a,rfl⟩:=List.getElem_of_mem he
   rw[iz,ke];rw[cO]at a;have:=c.es (List.getElem_mem a);exact⟨this.1,ih _ (U.az (List.getElem_mem a)) _ this.2⟩
  ·rw[kg]at he
   split at he
   ·simp only[List.mem_singleton]at he;subst he;exact ED h b
   ·split at he
    ·obtain⟨d,rfl⟩:=List.getElem?_eq_some_iff.1 (Option.mem_toList.1 he)
     exact hT _ (List.getElem_mem d)
    ·cases he
theorem jL{u:U}{n:Nat}(h1:∀e∈u.es,e.dep≤n)(h2:∀e∈u.un,e.dep≤n):u.dep≤n+1:=by
 rw[U.mC];have key:∀(l:List U)(m:Nat),m≤n→(∀e∈l,e.dep≤n)→l.foldl (fun n e=>max n e.dep) m≤n:=by
  intro l;induction l with
  |nil=>exact fun m hm _=>hm
  |cons a r ih=>intro m hm h;exact ih _ (Nat.max_le.2 ⟨hm,h a List.mem_cons_self⟩) fun e he=>h e (List.mem_cons_of_mem _ he)
 have:=key u.es _ (key u.un 0 (Nat.zero_le _) h2) h1;omega
theorem EE:aI.dep≤3:=by
 refine jL (n:=2) (fun e he=> ?_) fun e he=>by simp[aI,U.un]at he
 simp only[aI,U.es,List.mem_singleton]at he;subst he;refine jL (n:=1) (fun e he=> ?_) fun e he=>by simp[U.un]at he
 simp only[U.es,List.mem_singleton]at he;subst he;exact jL (n:=0) (fun e he=>by simp[dB,U.es]at he) fun e he=>by simp[dB,U.un]at he
theorem wZ{T:List U}{M:Nat}(hT:∀t∈T,t.dep≤M):∀(u:U)(f:Nat),(aL T f u).dep≤u.dep+M+3:=by
 intro u;induction u using U.bg with
 |_ u ih=>
  intro f;have c:=u.qE;refine Nat.le_trans (jL (n:=u.dep+M+2) (fun e he=> ?_) fun e he=> ?_) (by omega)
  ·obtain⟨j,a,rfl⟩:=List.getElem_of_mem he
   rw[iz];rw[cO]at a;have h1:=ih _ (U.az (List.getElem_mem a)) (aN u j f);have h2:=U.mD (List.getElem_mem a);omega
  ·rw[kg]at he
   split at he
   ·simp only[List.mem_singleton]at he;subst he;have:=EE;omega
   ·split at he
    ·obtain⟨b,rfl⟩:=List.getElem?_eq_some_iff.1 (Option.mem_toList.1 he)
     have:=hT _ (List.getElem_mem b);omega
    ·cases he
structure Raw(NS:List (List UInt8))(ds:List aF):Prop where
 err:errorName.toList∈NS
 emp:ByteArray.empty.toList∈NS
 dm:NS.length≤1048576
 un:∀d∈ds,Names NS d.un∧d.un.dep≤1048576
 ms:∀d∈ds,∀m∈d.ms,Names NS m.sig∧m.sig.dep≤1048576
 len:ds.length≤1048576
theorem EF{NS:List (List UInt8)}{ds:List aF}(R:Raw NS ds):∀j(h:j<ds.length),Names NS ((aS ds)[j]'(by rw[dL];exact h))∧((aS ds)[j]'(by rw[dL];exact h)).dep≤(j+1)*1048579:=by
 intro j;induction j using Nat.strongRecOn with
 |_ j ih=>
  intro h;have a:∀t∈(aS ds).take j,Names NS t∧t.dep≤j*1048579:=fun t b=>by
   obtain⟨i,hi,rfl⟩:=List.getElem_of_mem b;rw[List.length_take]at hi;rw[List.getElem_take];have:=ih i (by omega) (by omega);exact⟨this.1,Nat.le_trans this.2 (Nat.mul_le_mul_right _ (by omega))⟩
  rw[lJ ds j h];have c:=R.un _ (List.getElem_mem h);refine⟨wY R.err R.emp (fun t b=>(a t b).1) _ _ c.1,?_⟩;have:=wZ (M:=j*1048579) (fun t b=>(a t b).2) ds[j].un 1;have:=c.2;rw[Nat.add_mul];omega
theorem nu{NS:List (List UInt8)}{ds:List aF}(R:Raw NS ds){t:U}(h:t∈aS ds):Names NS t∧t.dep≤1099514773504:=by
 obtain⟨j,a,rfl⟩:=List.getElem_of_mem h;rw[dL]at a;have h1:=EF R j a;have h2:=R.len;refine⟨h1.1,Nat.le_trans h1.2 ?_⟩;have:(j+1)*1048579≤1048576*1048579:=Nat.mul_le_mul_right _ (by omega);omega
def cA(ds:List aF):List aF:=ds.mapIdx fun i d=>⟨aL ((aS ds).take i) 1 d.un,d.ms.map fun m=>⟨m.nm,m.ptr,aL ((aS ds).take i) 0 m.sig⟩⟩
theorem fN(ds:List aF):(cA ds).length=ds.length:=by simp[cA]
theorem iM(ds:List aF)(i:Nat)(h:i<ds.length):(cA ds)[i]'(by rw[fN];exact h)=⟨(aS ds)[i]'(by rw[dL];exact h),ds[i].ms.map fun m=>⟨m.nm,m.ptr,aL ((aS ds).take i) 0 m.sig⟩⟩:=by
 rw[lJ ds i h];simp[cA]
theorem gX{p:Pm}{D:Dl}{ds:List aF}(h:cE p D ds):eV p D (aS ds):=EC h
theorem eV.take{p:Pm}{D:Dl}{T:List U}(h:eV p D T)(i:Nat):eV p D (T.take i):=fun n a=>by
 rw[List.length_take]at a;rw[List.getElem_take];exact h n (by omega)
theorem rF{p:Pm}{D:Dl}{ds:List aF}(h:cE p D ds):cE p D (cA ds):=by
 refine⟨h.spot,by rw[fN];exact h.len,h.kW,fun i hi=> ?_⟩;rw[fN]at hi;obtain⟨b,o,e,a,c,d,f,h7,g,hu,h1,h2,hm⟩:=h.at' i hi;have hT:=(gX h).take i;rw[iM ds i hi];refine⟨b,o,e,a,c,d,f,?_,?_,?_,?_,h2,?_⟩
 ·simp only;rw[lJ ds i hi];exact rD _ _ h7
 ·simpa using g
 ·simp only;rw[lJ ds i hi];exact gg hT _ _ hu
 ·simpa using h1
 ·refine⟨fun k hk=> ?_⟩
  simp only[List.length_map]at hk;obtain⟨j,l,m,m1,m2,m3,a',c',m4,m5⟩:=hm.at' k hk;simp only[List.getElem_map];exact⟨j,l,m,m1,m2,m3,a',c',rD _ _ m4,gg hT _ _ m5⟩
def gh(T:List U)(d:aF):Bool:=mt T .type d.un true&&d.ms.all fun m=>mt T .type m.sig false
end TS
namespace Go.Proofs.YtdkmnkjhhhmglaaGreatDoor
open Go.RowKit TS
theorem rG{D:Dl}{ds:List aF}{NS:List (List UInt8)}(R:Raw NS ds)(hlen:ds.length=D.len)(c:∀k(h:k<ds.length),dS D.len k ds[k]=true)(i:Nat)(hm:∀j(h:j<(aS ds).length),j<i→mt (aS ds) .type (aS ds)[j] true=true):
 Env D (aS ds) NS i where
 len:=by rw[dL];exact hlen
 ok:=fun t b=>by
  obtain⟨j,a,rfl⟩:=List.getElem_of_mem b;rw[dL]at a;exact(rE ds.length (Nat.le_refl _) (fun k h _=>c k h) j a).1
 bp:=fun j a=>by
  rw[dL]at a;exact(rE ds.length (Nat.le_refl _) (fun k h _=>c k h) j a).2
 mt:=hm
 aG:=fun t b=>(nu R b).1
 dm:=R.dm
theorem w_{D:Dl}{ds:List aF}{NS:List (List UInt8)}{i:Nat}(R:Raw NS ds)(E:Env D (aS ds) NS i)(hi:i<ds.length):cF D (aS ds) NS i ((aS ds)[i]'(by rw[dL];exact hi)) 0 1 where
 pl:=(E.ok _ (List.getElem_mem _)).pl
 f2:=by omega
 bp:=E.bp i _
 aG:=E.aG _ (List.getElem_mem _)
 dep:=Nat.le_trans (nu R (List.getElem_mem _)).2 (by omega)
theorem rH{D:Dl}{T:List U}{NS:List (List UInt8)}{i:Nat}(E:Env D T NS i)(hi:i≤T.length)(he:errorName.toList∈NS)(g:ByteArray.empty.toList∈NS)(j:∀t∈T,t.dep≤1099514773504){u:U}{q:Pc}(k:q.d≤i)(a:ah D.len u q .type=true)(c:Names NS u)(e:u.dep≤1048576):
 cF D T NS i (aL (T.take i) q.f u) 0 q.f where
 pl:=tu (fun t b=>E.ok t (List.mem_of_mem_take b)) u q .type a (by rw[List.length_take];omega) (fun h=>absurd rfl h)
 f2:=by unfold Pc.f;split<;>(try split)<;>omega
 bp:=wW (T:=T) (T':=T.take i) i (by rw[List.length_take];omega) (fun n c=>by rw[List.length_take]at c;exact⟨by omega,by rw[List.getElem_take]⟩) u q .type a (by rw[List.length_take];omega) (fun h=>absurd rfl h)
 aG:=wY he g (fun t b=>E.aG t (List.mem_of_mem_take b)) u q.f c
 dep:=Nat.le_trans (wZ (M:=1099514773504) (fun t b=>j t (List.mem_of_mem_take b)) u q.f) (by omega)
end Go.Proofs.YtdkmnkjhhhmglaaGreatDoor
namespace Go.Proofs.YtdkmnkjhhhmglaaGreatDoor
open Go.RowKit TS
theorem rQ{D:Dl}{T:List U}{NS:List (List UInt8)}{i:Nat}(E:Env D T NS i)(dc:Nat):∀u,jf D dc T NS i u:=by
 intro u;induction u using U.bg with
 |_ u ih=>
  intro g p pos f a c w h y M hT hu hw;have ag:Up p w (w.alloc (.cells #[.int .i64 u.k,.int .i64 u.n,.int .i64 u.m,.bool u.v,.string u.nm,.string u.tg,.slice a u.es.length c] 25)):=(Up.refl hw).alloc _;by_cases h2:u.k=2
  ·have P:(u.k==2)=true:=by simp[h2]
   have h1:=h.pl.form.fS h2;obtain⟨e,he⟩:=dD h1;have z:=h.ot (by omega) y 0 (by omega);have N:u.es[0]'(by omega)=e:=by simp[he]
   rw[N]at z;obtain⟨b,o,rfl⟩:=hu.list.bN (by omega);obtain⟨a',c',h7,r⟩:=hu.list.get 0 (by omega);simp only[N,Nat.zero_mul,Nat.add_zero]at h7 r;have A:=z.pl.form.aE;have B:=fun W l=>ih e (U.az (by rw[he];simp)) g p 0 _ a' c' W z A.1 A.2 hT r l;have C:Hid (mt T .type u g=mt T .type e g):=by unfold Hid;rw[l8 h2,he];simp
   have Y:0<u.es.length:=by omega
   have Q:(0:Int)<u.es.length:=by omega
   obtain⟨z0,Z,z2,z3,z4,z5,z6⟩:TS.C7 w b o e a' c':=h7.world hw;have hb:=hw.lt h7.1;have R:=Lib.hid he;rw[C.out];clear he h7 N h1 h2 ih z h C A;go_enter Tryz.func32,Tryz.ntmps32;go_wp2_with fail
   refine(B _ ag.kw).mono ?_;rintro F G ⟨x,rfl,s,aa⟩;have t:=Lib.hid (ag.step aa).up;clear aa B;go_wp2_with fail
   go_ret;exact⟨_,rfl,s,t.out⟩
  have P:(u.k==2)=false:=by simp[h2]
  by_cases d:u.k=10
  ·have bU:(u.k==10)=true:=by simp[d]
   have B:=fun W l=>Gg E p dc h d (fun x s=>ih x s) hT g a c W hu l;clear h h2 d ih;go_enter Tryz.func32,Tryz.ntmps32;go_wp2_with fail
   refine(B _ ag.kw).mono ?_;rintro F G ⟨x,rfl,s,aa⟩;have t:=Lib.hid (ag.step aa).up;clear aa B;go_wp2_with fail
   go_ret;exact⟨_,rfl,s,t.out⟩
  have bU:(u.k==10)=false:=by simp[d]
  have K:=fun W l=>Gb E p dc h h2 d y M hT a c W hu l;have C:Hid (mt T .type u g=((g|| !aZ (du T u))&&u.es.all fun e=>mt T .type e false)):=l9 h2 d;have H:=hu.cap;have L:=fun W l=>xK p D dc T u.es a u.es.length c W rfl (fun e he a' c' S r O=>by
   obtain⟨j,V,rfl⟩:=List.getElem_of_mem he;have z:=h.ot d y j V;have A:=z.pl.form.aE;exact ih _ (U.az he) false p 0 _ a' c' S z A.1 A.2 hT r O) hu.list (by omega) l
  rw[C.out];generalize aZ (du T u)=X at*;generalize (u.es.all fun e=>mt T .type e false)=al at*;clear h h2 d ih C H;cases g
  case true=>
   go_enter Tryz.func32,Tryz.ntmps32;go_wp2_with fail
   refine(L _ ag.kw).mono ?_;rintro F G ⟨x,rfl,s,aa⟩;have t:=Lib.hid (ag.step aa).up;clear aa L;go_wp2_with fail
   go_ret;exact⟨_,rfl,s.out,t.out⟩
  cases X
  case true=>
   have q:=fun W l=>aW (K W l) rfl;clear K;go_enter Tryz.func32,Tryz.ntmps32;go_wp2_with fail
   refine(q _ ag.kw).mono ?_;rintro F G ⟨rfl,aa⟩;have t:=Lib.hid (ag.step aa).up;clear aa q;go_wp2_with fail
   go_ret;exact⟨_,rfl,rfl,t.out⟩
  have q:=fun W l=>aW (K W l) rfl;clear K;go_enter Tryz.func32,Tryz.ntmps32;go_wp2_with fail
  refine(q _ ag.kw).mono ?_;rintro F G ⟨rfl,aa⟩;have I:=ag.step aa;obtain⟨x0,x1,x2,x3,x4,x5,x6⟩:TS.L7 G w.heap.size u a c:=by
   repeat' apply And.intro
   all_goals exact TS.cell_kept aa (by first|(simp[go_sem];done)|(go_keep;done))
  clear aa q ag;go_wp2_with fail
  refine(L _ I.kw).mono ?_;rintro F w2 ⟨x,rfl,s,J⟩;have t:=Lib.hid (I.step J).up;clear J L;go_wp2_with fail
  go_ret;exact⟨_,rfl,s.out,t.out⟩
theorem Gh(p:Pm)(D:Dl)(dc:Nat)(m:cX)(x:Bool)(a:Option Addr)(c:Nat)(w:World)(e:∀W,KW p W→Calls Tryz.prog 32 #[.slice D.a D.len dc,.agg #[.int .i64 m.sig.k,.int .i64 m.sig.n,.int .i64 m.sig.m,.bool m.sig.v,.string m.sig.nm,.string m.sig.tg,.slice a m.sig.es.length c],.bool false] W (RB x W))(hw:KW p w)(f:Nat)
 (h1:w.cell? ⟨f,0,none⟩=some (.slice D.a D.len dc)):
 Calls Tryz.prog 60 #[.agg #[.string m.nm,.bool m.ptr,.int .i64 m.sig.k,.int .i64 m.sig.n,.int .i64 m.sig.m,.bool m.sig.v,.string m.sig.nm,.string m.sig.tg,.slice a m.sig.es.length c],.pointer (some ⟨f,0,none⟩)] w (RB (!x) w):=by
 have b1:=World.block_lt_of_cell? _ _ h1;simp only at b1;have ag:Up p w (w.alloc (.cells #[.string m.nm,.bool m.ptr,.int .i64 m.sig.k,.int .i64 m.sig.n,.int .i64 m.sig.m,.bool m.sig.v,.string m.sig.nm,.string m.sig.tg,.slice a m.sig.es.length c] 73)):=(Up.refl hw).alloc _;go_enter Tryz.func60,Tryz.ntmps60;go_wp2_with fail
 refine(e _ ag.kw).mono ?_;rintro h i ⟨b,rfl,g,aa⟩;have d:=(ag.step aa).up;have hF:Hid ((!b)= !x):=by unfold Hid;rw[g.out]
 clear g aa e;go_wp2_with fail
 go_ret;exact⟨_,rfl,hF,d⟩
theorem Gi(p:Pm)(D:Dl)(dc:Nat)(T:List U)(d:aF)(a:Option Addr)(c:Nat)(l:Option Addr)(j:Nat)(w:World)
 (u:∀W,KW p W→Calls Tryz.prog 32 #[.slice D.a D.len dc,.agg #[.int .i64 d.un.k,.int .i64 d.un.n,.int .i64 d.un.m,.bool d.un.v,.string d.un.nm,.string d.un.tg,.slice a d.un.es.length c],.bool true] W (RB (mt T .type d.un true) W))
 (x:∀m∈d.ms,∀a c W,ak p D m.sig a c→KW p W→Calls Tryz.prog 32 #[.slice D.a D.len dc,.agg #[.int .i64 m.sig.k,.int .i64 m.sig.n,.int .i64 m.sig.m,.bool m.sig.v,.string m.sig.nm,.string m.sig.tg,.slice a m.sig.es.length c],.bool false] W (RB (mt T .type m.sig false) W))
 (hm:dR p D d.ms l)(o:d.ms.length≤j∧j≤1048576)(hw:KW p w):
 Calls Tryz.prog 28 #[.slice D.a D.len dc,.agg #[.int .i64 d.un.k,.int .i64 d.un.n,.int .i64 d.un.m,.bool d.un.v,.string d.un.nm,.string d.un.tg,.slice a d.un.es.length c,.slice l d.ms.length j]] w (RB (gh T d) w):=by
 have I:=Lib.hid (show ∀args w,(callFunc 60 args).run Tryz.prog w= .ok (.enter 60 args) w from ep Tryz.func60 (by kernel_rfl) rfl);have J:∀(fn:Fn)(first cap:Array Value)(w:World),(Instr.makeFunc fn first cap).run Tryz.prog w= .ok (.func fn first cap) w:=fun _ _ _ _=>rfl;have ag:Up p w ((w.alloc (.cells #[.slice D.a D.len dc] 22)).alloc (.cells #[.int .i64 d.un.k,.int .i64 d.un.n,.int .i64 d.un.m,.bool d.un.v,.string d.un.nm,.string d.un.tg,.slice a d.un.es.length c,.slice l d.ms.length j] 43)):=((Up.refl hw).alloc _).alloc _;obtain⟨r,hr⟩:∃r,r=gh T d:=⟨_,rfl⟩
 rw[←hr];cases e:mt T .type d.un true
 ·have f:=fun W q=>aW (u W q) e
  have hF:Hid (false=r):=by unfold Hid;rw[hr,gh,e];rfl
  clear u e hr x o;go_enter Tryz.func28,Tryz.ntmps28;go_wp2_with fail
  refine(f _ ag.kw).mono ?_;rintro E g ⟨rfl,aa⟩;have y:=Lib.hid (ag.step aa).up;clear aa f;go_wp2_with fail
  go_ret;exact⟨_,rfl,hF.out,y.out⟩
 have f:=fun W q=>aW (u W q) e;have hF:Hid (r= !(d.ms.any fun m=> !mt T .type m.sig false)):=by unfold Hid;rw[hr,gh,e];simp[List.not_any_eq_all_not]
 have F:=Lib.hid fun W (q:KW p W) lb H=>tQ d.ms.length p D d.ms rfl l j 60 lb (fun m=> !mt T .type m.sig false) W q hm (by omega) I.out H;have z:=Lib.hid x;clear u e hr x o;go_enter Tryz.func28,Tryz.ntmps28;go_wp2_with fail
 refine(f _ ag.kw).mono ?_;rintro E g ⟨rfl,aa⟩;have h:=ag.step aa;have c0:g.cell? ⟨w.heap.size,0,none⟩=some (.slice D.a D.len dc):=TS.cell_kept aa (by simp[go_sem]);obtain⟨L,M,N,O,P,Q,R,S⟩:(g.cell? ⟨w.heap.size+1,0,none⟩=some (.int .i64 d.un.k)∧g.cell? ⟨w.heap.size+1,1,none⟩=some (.int .i64 d.un.n)∧g.cell? ⟨w.heap.size+1,2,none⟩=some (.int .i64 d.un.m)∧g.cell? ⟨w.heap.size+1,3,none⟩=some (.bool d.un.v)∧g.cell? ⟨w.heap.size+1,4,none⟩=some (.string d.un.nm)∧g.cell? ⟨w.heap.size+1,5,none⟩=some (.string d.un.tg)∧g.cell? ⟨w.heap.size+1,6,none⟩=some (.slice a d.un.es.length c)∧g.cell? ⟨w.heap.size+1,7,none⟩=some (.slice l d.ms.length j)):=by
  repeat' apply And.intro
  all_goals exact TS.cell_kept aa (by first|(simp[go_sem];done)|(go_keep;done))
 clear aa f ag;go_wp2_with fail
 refine(F.out _ h.kw _ ?_).mono ?_
 ·intro i hi W a' c' s A
  exact Gh p D dc d.ms[i] _ a' c' W (fun K B=>z.out _ (List.getElem_mem hi) a' c' K A B) (h.kw.grown s) _ (TS.cell_kept s c0)
 rintro E V ⟨b,rfl,G,t⟩;have y:=Lib.hid (h.step t).up;have C:Hid ((!b)=r):=by unfold Hid;rw[G.out];exact hF.out.symm
 clear G t F;go_wp2_with fail
 go_ret;exact⟨_,rfl,C.out,y.out⟩
theorem Gj(p:Pm)(D:Dl)(es:List aF)(dc g:Nat)(lb:Array Value)(P:aF→Bool)(w:World)(hw:KW p w)(z:cE p D es)(L:(es.length:Int)≤1048576)
 (M:∀args w,(callFunc g args).run Tryz.prog w= .ok (.enter g args) w)
 (H:∀i(h:i<es.length) W a' c' s j,(∀x∈es.take i,P x=false)→Below w.heap.size w W→ak p D es[i].un a' c'→dR p D es[i].ms s→es[i].ms.length≤j∧j≤1048576→Calls Tryz.prog g (#[.agg #[.int .i64 es[i].un.k,.int .i64 es[i].un.n,.int .i64 es[i].un.m,.bool es[i].un.v,.string es[i].un.nm,.string es[i].un.tg,.slice a' es[i].un.es.length c',.slice s es[i].ms.length j]]++lb) W (RB (P es[i]) W)):
 Calls Tryz.prog 59 #[.slice D.a D.len dc,.func (.func g) #[] lb] w fun e A=>(∃k:Nat,e= .returned (.int .i64 k)∧∃h:k<es.length,P es[k]=true)∧Below w.heap.size w A∨(e= .returned (.int .i64 (-1))∧∀x∈es,P x=false)∧Below w.heap.size w A:=by
 have J:=Lib.hid H;clear H;have hlen:=z.len;obtain⟨N,O⟩:=D;simp only at hlen;subst hlen;go_enter Tryz.func59,Tryz.ntmps59;go_wp2_with fail
 go_loopw [8] (fun t wr=> ∃k:Nat,k≤es.length∧t= .int .i64 k∧(∀x∈es.take k,P x=false)∧Below w.heap.size w wr) (fun t _=>es.length- (intOf t).toNat)
 case atStart=>exact⟨0,Nat.zero_le _,rfl,by simp,Below.refl _ _⟩
 case round=>
  obtain⟨k,hk,rfl,d,c⟩:=hrel;by_cases f:k<es.length
  ·obtain⟨b,o,l⟩:=z.bN (by omega)
   simp only at l;subst l;obtain⟨a',c',s,j,h7,E,hu,B,C,hm⟩:=z.get rfl k f;have K:=J.out k f wr a' c' s j d c hu hm ⟨B,C⟩;have q:=hw.grown c;have r:=Lib.hid d;clear d;generalize F:es[k]=x at*;obtain⟨g0,g1,g2,g3,g4,g5,g6⟩:TS.C7 wr b (o+k*8) x.un a' c':=h7.world q;have gs:=q _ _ _ E;clear h7 E;go_wp2_with fail
   refine K.mono ?_;rintro e A ⟨bb,rfl,G,I⟩;cases bb<;>go_wp2_with fail
   ·go_roundw
    case rel=>
     refine⟨k+1,by omega,by go_num,?_,c.trans (I.mono c.size)⟩;intro y u;rw[List.take_succ_eq_append_getElem f,List.mem_append,List.mem_singleton,F]at u;rcases u with u|rfl
     ·exact r.out y u
     ·exact G.out.symm
    case measure=>simp[intOf];omega
   ·go_ret
    exact .inl ⟨⟨k,rfl,f,by rw[F];exact G.out.symm⟩,c.trans (I.mono c.size)⟩
  ·go_wp2_with fail
   go_ret;rw[List.take_of_length_le (by omega)]at d;exact .inr ⟨⟨rfl,d⟩,c⟩
theorem Gk(p:Pm)(D:Dl)(es:List aF)(dc g:Nat)(lb:Array Value)(P:aF→Bool)(w:World)(hw:KW p w)(l:cE p D es)(o:(es.length:Int)≤1048576)
 (q:∀args w,(callFunc g args).run Tryz.prog w= .ok (.enter g args) w)
 (H:∀i(h:i<es.length) W a' c' j c,(∀x∈es.take i,P x=false)→Below w.heap.size w W→ak p D es[i].un a' c'→dR p D es[i].ms j→es[i].ms.length≤c∧c≤1048576→Calls Tryz.prog g (#[.agg #[.int .i64 es[i].un.k,.int .i64 es[i].un.n,.int .i64 es[i].un.m,.bool es[i].un.v,.string es[i].un.nm,.string es[i].un.tg,.slice a' es[i].un.es.length c',.slice j es[i].ms.length c]]++lb) W (RB (P es[i]) W)):
 Calls Tryz.prog 26 #[.slice D.a D.len dc,.func (.func g) #[] lb] w (RB (es.any P) w):=by
 have r:=Lib.hid (Gj p D es dc g lb P w hw l o q H);clear H;go_enter Tryz.func26,Tryz.ntmps26;go_wp2_with fail
 refine r.out.mono ?_;rintro e t (⟨⟨k,rfl,hk,b⟩,d⟩|⟨⟨rfl,b⟩,d⟩)
 ·have f:Hid (true=es.any P):=(List.any_eq_true.2 ⟨_,List.getElem_mem hk,b⟩).symm
  clear b;go_wp2_with fail
  go_ret;exact⟨_,rfl,f,d⟩
 ·have f:Hid (false=es.any P):=(List.any_eq_false.2 fun x s=>by simp[b x s]).symm
  clear b;go_wp2_with fail
  go_ret;exact⟨_,rfl,f,d⟩
theorem Gl(p:Pm)(D:Dl)(dc:Nat)(d:aF)(x:Bool)(a:Option Addr)(c:Nat)(e:Option Addr)(f:Nat)(w:World)(h:∀W,KW p W→Calls Tryz.prog 28 #[.slice D.a D.len dc,.agg #[.int .i64 d.un.k,.int .i64 d.un.n,.int .i64 d.un.m,.bool d.un.v,.string d.un.nm,.string d.un.tg,.slice a d.un.es.length c,.slice e d.ms.length f]] W (RB x W))(hw:KW p w)(i:Nat)
 (h1:w.cell? ⟨i,0,none⟩=some (.slice D.a D.len dc)):
 Calls Tryz.prog 27 #[.agg #[.int .i64 d.un.k,.int .i64 d.un.n,.int .i64 d.un.m,.bool d.un.v,.string d.un.nm,.string d.un.tg,.slice a d.un.es.length c,.slice e d.ms.length f],.pointer (some ⟨i,0,none⟩)] w (RB (!x) w):=by
 have b1:=World.block_lt_of_cell? _ _ h1;simp only at b1;have ag:Up p w (w.alloc (.cells #[.int .i64 d.un.k,.int .i64 d.un.n,.int .i64 d.un.m,.bool d.un.v,.string d.un.nm,.string d.un.tg,.slice a d.un.es.length c,.slice e d.ms.length f] 43)):=(Up.refl hw).alloc _;go_enter Tryz.func27,Tryz.ntmps27;go_wp2_with fail
 refine(h _ ag.kw).mono ?_;rintro l o ⟨b,rfl,j,aa⟩;have g:=(ag.step aa).up;have hF:Hid ((!b)= !x):=by unfold Hid;rw[j.out]
 clear j aa h;go_wp2_with fail
 go_ret;exact⟨_,rfl,hF,g⟩
structure eR(D:Dl)(ds:List aF):Prop where
 pl:∀k(h:k<ds.length),dS D.len k ds[k]=true
 mt:∀d∈cA ds,gh (aS ds) d=true
theorem Gm{D:Dl}{ds:List aF}{NS:List (List UInt8)}(R:Raw NS ds)(hlen:ds.length=D.len)(F:∀k(h:k<ds.length),dS D.len k ds[k]=true)(p:Pm)(dc:Nat)(H:cE p D ds)(i:Nat)(hi:i<(cA ds).length)
 (w:∀x∈(cA ds).take i,(!gh (aS ds) x)=false)(a:Option Addr)(c:Nat)(y:Option Addr)(s:Nat)(hu:ak p D (cA ds)[i].un a c)(hm:dR p D (cA ds)[i].ms y)(z:(cA ds)[i].ms.length≤s∧s≤1048576)(W:World)(I:KW p W):
 Calls Tryz.prog 28 #[.slice D.a D.len dc,.agg #[.int .i64 ((cA ds)[i].un).k,.int .i64 ((cA ds)[i].un).n,.int .i64 ((cA ds)[i].un).m,.bool ((cA ds)[i].un).v,.string ((cA ds)[i].un).nm,.string ((cA ds)[i].un).tg,.slice a ((cA ds)[i].un).es.length c,.slice y (cA ds)[i].ms.length s]] W (RB (gh (aS ds) (cA ds)[i]) W):=by
 have b:i<ds.length:=by rw[fN]at hi;exact hi
 have E:Env D (aS ds) NS i:=rG R hlen F i fun j A J=>by
  rw[dL]at A;have K:j<(cA ds).length:=by rw[fN];exact A
  have l:(cA ds)[j]∈(cA ds).take i:=by
   rw[show(cA ds)[j]=((cA ds).take i)[j]'(by rw[List.length_take];omega) by rw[List.getElem_take]];exact List.getElem_mem _
  have:=w _ l;rw[iM ds j A]at this;unfold gh at this;simp only[Bool.not_eq_false',Bool.and_eq_true]at this;exact this.1
 have hT:=gX H;have L:=iM ds i b;generalize (cA ds)[i]=d at*;subst L;refine Gi p D dc (aS ds) _ a c y s W (fun B e=> ?_) (fun m o a' c' B C e=> ?_) hm z I
 ·have hk:=w_ R E b
  exact rQ E dc _ true p 0 1 a c B hk hk.pl.form.aE.1 hk.pl.form.aE.2 hT hu e
 ·simp only[List.mem_map]at o
  obtain⟨m0,r,rfl⟩:=o;have f:=F i b;unfold dS fG at f;simp only[Bool.and_eq_true,List.all_eq_true]at f;have g:=f.1.2.1 m0 r;unfold gC at g;simp only[Bool.and_eq_true]at g;have G:=R.ms _ (List.getElem_mem b) m0 r;have hk:=rH E (by rw[dL];omega) R.err R.emp (fun t M=>(nu R M).2) (u:=m0.sig) (q:=⟨i,false,false⟩) (by simp) g.1.2 G.1 G.2;exact rQ E dc _ false p 0 0 a' c' B hk hk.pl.form.aE.1 hk.pl.form.aE.2 hT C e
theorem Gn(p:Pm)(D:Dl)(dc:Nat)(ds:List aF)(NS:List (List UInt8))(R:Raw NS ds)(q:cE p D ds)(w:World)(hw:KW p w):
 Calls Tryz.prog 14 #[.slice D.a D.len dc] w fun e w'=>(∃b,e= .returned (.bool b)∧Hid (b=true→eR D ds))∧Below w.heap.size w w':=by
 have ag:Up p w (w.alloc (.cells #[.slice D.a D.len dc] 22)):=(Up.refl hw).alloc _;have hlen:=q.len;have l:=q.kW;have t:=Lib.hid fun(I:∀k(h:k<ds.length),dS D.len k ds[k]=true) W (r:KW p W) (K:W.cell? ⟨w.heap.size,0,none⟩=some (.slice D.a D.len dc))=>
  Gk p D (cA ds) dc 27 #[.pointer (some ⟨w.heap.size,0,none⟩)] (fun d=> !gh (aS ds) d) W r (rF q) (by rw[fN];omega)
   (ep Tryz.func27 (by kernel_rfl) rfl) (fun i hi W' a' c' u z L Y hu hm M=>Gl p D dc _ _ a' c' u z W' (fun N A=>Gm R hlen I p dc q i hi L a' c' u z hu hm M N A) (r.grown Y) _ (TS.cell_kept Y K))
 have PN:∀(fn:Fn)(first cap:Array Value)(w:World),(Instr.makeFunc fn first cap).run Tryz.prog w= .ok (.func fn first cap) w:=fun _ _ _ _=>rfl;have PO:(ds.length:Int)≤1048576:=by omega
 have PQ:ds.length≤1048576:=by omega
 have O:=Lib.hid hlen;obtain⟨Z,Dn⟩:=D;simp only at hlen;subst hlen;clear l;go_enter Tryz.func14,Tryz.ntmps14;go_wp2_with fail
 go_loopw [7] (fun i wr=> ∃k:Nat,k≤ds.length∧i= .int .i64 k∧(∀j(h:j<k)(P:j<ds.length),dS ds.length j ds[j]=true)∧wr.cell? ⟨w.heap.size,0,none⟩=some (.slice Z ds.length dc)∧Up p w wr) (fun i _=>ds.length- (intOf i).toNat)
 case atStart=>exact⟨0,Nat.zero_le _,rfl,(fun j h=>by omega),by simp,ag⟩
 case round=>
  clear ag;obtain⟨k,hk,rfl,g,c0,B⟩:=hrel;have b0:=World.block_lt_of_cell? _ _ c0;simp only at b0;have f:=Lib.hid g;clear g;by_cases Q:k<ds.length
  ·have PM:(k:Int)<ds.length:=by omega
   obtain⟨b,o,C⟩:=q.bN (by omega);simp only at C;subst C;obtain⟨a',c',u,z,h7,S,hu,E,T,hm⟩:=q.get rfl k Q;have c:Hid (dS ds.length k ds[k]=true→∀j(h:j<k+1)(P:j<ds.length),dS ds.length j ds[j]=true):=fun h j hj P=>by
    by_cases e:j=k
    ·subst e;exact h
    ·exact f.out j (by omega) P
   obtain⟨d,J⟩:∃d,d=ds[k]:=⟨_,rfl⟩
   rw[←J]at h7 S hu E hm c;clear J;obtain⟨g0,g1,g2,g3,g4,g5,g6⟩:TS.C7 wr b (o+k*8) d.un a' c':=h7.world B.kw;have gs:=B.kw _ _ _ S;clear h7 S;have F:=B.alloc (.cells #[.int .i64 d.un.k,.int .i64 d.un.n,.int .i64 d.un.m,.bool d.un.v,.string d.un.nm,.string d.un.tg,.slice a' d.un.es.length c',.slice u d.ms.length z] 43);have U:=fun W r=>zU p ⟨some ⟨b,o,none⟩,ds.length⟩ dc d k a' c' u z W hu hm ⟨E,T⟩ r;simp only at U;generalize dS ds.length k d=x at*;go_wp2_with fail
   refine(U _ F.kw).mono ?_;rintro e1 w1 ⟨y,rfl,s,aa⟩;have G:=Lib.hid (F.step aa);have c2:w1.cell? ⟨w.heap.size,0,none⟩=some (.slice (some ⟨b,o,none⟩) ds.length dc):=TS.cell_kept aa (by rw[World.cell?_alloc_lt _ _ _ b0];exact c0);clear aa U;cases y
   ·have V:=Lib.hid G.out.up
    clear s c;go_wp2_with fail
    go_ret;exact⟨⟨_,rfl,fun h=>by cases h⟩,V.out⟩
   ·have hN:=Lib.hid (c.out s.out.symm)
    clear s c;go_wp2_with fail
    go_roundw
    case rel=>exact⟨k+1,by omega,by go_num,hN.out,c2,G.out⟩
    case measure=>simp only[intOf];omega
  ·have I:Hid (∀k(h:k<ds.length),dS ds.length k ds[k]=true):=fun j h=>f.out j (by omega) h
   have X:=fun W r K=>t.out I.out W r K;try simp only at X
   clear t f;go_wp2_with fail
   refine(X _ B.kw c0).mono ?_;rintro e1 w1 ⟨y,rfl,s,aa⟩;have V:=Lib.hid (B.step aa).up;have hF:Hid ((!y)=true→eR ⟨Z,ds.length⟩ ds):=fun h=>⟨I.out,fun d J=>by
    have H:=s.out;rw[show y=false by simpa using h]at H;have:=List.any_eq_false.1 H.symm d J;simpa using this⟩
   clear aa X s;go_wp2_with fail
   go_ret;exact⟨⟨_,rfl,hF⟩,V.out⟩
end Go.Proofs.YtdkmnkjhhhmglaaGreatDoor
