import Derived.LoopIn
import Derived.LoopNIn
import Derived.OwnWalkIn
import Derived.RangeFuncBound
import Derived.RangeFuncCalls
import Derived.RangeFuncFrom
import Derived.RangeFuncLeaves
import Derived.RangeFuncMany
import Derived.RangeFuncNested
import Derived.Shelf.Abstract
import Derived.TacticsInMore
import Derived.Test.YtkochlhejabdcaaGreatDoorYbc
set_option maxRecDepth 100000
set_option maxHeartbeats 8000000
set_option linter.all false
namespace TS
open Go Go.RowKit
theorem iW{P:Program}{w:World}{o:Oper}{a:Act}{Q:Exit→Act→World→Prop}{K:Act→World→Prop}(s x:Operand)(t:TypeId)
 (C:o.op= .call {callee:= .builtin .append,args:=#[s,x],argTypes:=#[t,t]})
 (base:Nat)(e:TypeId)(i:TypeInfo)(z:Value)(size bytes:Nat)(D:P.underlying t=some (.slice e))(hi:P.info? e=some i)(E:i.zero=some z)
 (d:i.size=size)(q:i.bytes=bytes)(r:z.cells.size=size)(y:0<size)
 (v:Value)(n:Nat)(xs:List Value)(F:a.eval s=v)(l:w.ownsRow base e size v n xs)
 (A:Addr)(m c:Nat)(news:List Value)(G:a.eval x= .slice (some A) m c)(H:news.length=m*size)(f:∀j u,news[j]?=some u→w.cell? (A.add j)=some u)(h1:∀u∈news,u.oneCell'=true)
 (B:n+m≤maxLen)(b:(n+m)*bytes≤140737488355328)(g:base≤w.heap.size)
 (h:∀k p,p.ownsRow base e size k (n+m) (xs++news)→w.grownBy p v.ownBlock→(k= .slice none 0 0↔v= .slice none 0 0∧m=0)→(k.ownBlock=v.ownBlock∨k.ownBlock=some w.heap.size)→K (a.put o.dst k) p):
 o.wp P a w K Q:=by
 obtain⟨k,p,hr,I,J,L,M⟩:=run_append_own_at (P:=P) w base t o.type e i z size bytes D hi E d q r y v n xs l A m c news H f h1 B b g;unfold Oper.wp execOp;simp only[C,resolve,invoke,builtin,Sem.run_bind,Sem.run_pure,Result.andThen_ok,List.map_toArray,List.map_cons,List.map_nil,F,G,hr];exact h k p I J L M
end TS
namespace TS
open Go Go.RowKit Go.ChangeMaps
section
variable {P:Program} {kt:TypeId} {K:World→Value→Prop} {w w':World} {b:Nat} {F:Value→Option Value}
theorem cr.DE(h:cr K w b F)(L:KeyLaw P kt K){t e:TypeId}(f:P.underlying t=some (.map kt e)){z:Value}(i:(zeroValue e).run P w= .ok z w){x:Value}(a:K w x):
 (Instr.lookup t (.map (some b)) x true).run P w= .ok (.tuple #[(F x).getD z,.bool (F x).isSome]) w:=by
 obtain⟨es,clock,g,h1,k,_⟩:=h;rcases L.find w a es.toList (fun e he=>(h1 e he).1)with⟨c,l⟩|⟨j,d,c,m,hk⟩
 ·have hF:F x=none:=by
   cases hF:F x with
   |none=>rfl
   |some v=>obtain⟨d,he,hk⟩:=k x v hF;exact absurd hk (l d he)
  simp[Instr.lookup,run_underlying f,MapKept.run_getObj_map g,L.check w _ a,c,i,hF,Result.andThen]
 ·have:=(h1 d (List.mem_of_getElem? m)).2
  rw[hk]at this;simp[Instr.lookup,run_underlying f,MapKept.run_getObj_map g,L.check w _ a,c,this,Result.andThen]
theorem DF(w:World){ops:Array Oper}{rest:List Oper}{o:Oper}{a:Act}{Q:Exit→Act→World→Prop}(j:o.guard=none)(m x:Operand)(t:TypeId)(f:o.op=Op.lookup t m x true)
 (L:KeyLaw P kt K)(e:TypeId)(k:P.underlying t=some (.map kt e))(z:Value)(l:∀w,(zeroValue e).run P w= .ok z w)(b:Nat)(F:Value→Option Value)(hm:a.eval m= .map (some b))(h:cr K w b F)
 (key:Value)(n:a.eval x=key)(hk:K w key)(val:Value)(ok:Bool)(d:(F key).getD z=val)(g:(F key).isSome=ok)(p:wpList P ops Q rest (a.put o.dst (.tuple #[val,.bool ok])) w):wpList P ops Q (o::rest) a w:=by
 refine wpList_plain j fun q i=> ?_;have c:=h.DE L k (l w) hk;rw[d,g]at c;unfold Oper.wp;simp[execOp,f,hm,n,c,Result.andThen];exact i _ _ p
end
end TS
namespace TS
open Go Go.RowKit
theorem El{NS:List (List UInt8)}(h:errorName.toList∈NS)(a:ByteArray.empty.toList∈NS):Names NS aP:=by
 rw[Names];refine⟨fun e he=> ?_,fun e he=>by simp[aP,U.un]at he⟩;simp only[aP,U.es,List.mem_singleton]at he;subst he;refine⟨h,?_⟩;rw[Names];refine⟨fun e he=> ?_,fun e he=>by simp[U.un]at he⟩;simp only[U.es,List.mem_singleton]at he;subst he;exact⟨a,nE rfl rfl⟩
theorem wA{NS:List (List UInt8)}(h:errorName.toList∈NS)(b:ByteArray.empty.toList∈NS){T:List U}(hT:∀t∈T,Names NS t):∀(u:U)(f:Nat),Names NS u→Names NS (aV T f u):=by
 intro u;induction u using U.bc with
 |_ u ih=>
  intro f c;rw[Names];refine⟨fun e he=> ?_,fun e he=> ?_⟩
  ·obtain⟨j,a,rfl⟩:=List.getElem_of_mem he
   rw[iB,j5];rw[cO]at a;have:=c.es (zm a);exact⟨this.1,ih _ (U.ar (zm a)) _ this.2⟩
  ·rw[jq]at he
   split at he
   ·simp only[List.mem_singleton]at he;subst he;exact El h b
   ·split at he
    ·obtain⟨d,rfl⟩:=List.getElem?_eq_some_iff.1 (Option.mem_toList.1 he)
     exact hT _ (zm d)
    ·cases he
theorem mV{u:U}{n:Nat}(h1:∀e∈u.es,e.dep≤n)(b:∀e∈u.un,e.dep≤n):u.dep≤n+1:=by
 rw[U.l_];have key:∀(l:List U)(m:Nat),m≤n→(∀e∈l,e.dep≤n)→l.foldl (fun n e=>max n e.dep) m≤n:=by
  intro l;induction l with
  |nil=>exact fun m hm _=>hm
  |cons a r ih=>intro m hm h;exact ih _ (Nat.max_le.2 ⟨hm,h a List.mem_cons_self⟩) fun e he=>h e (List.mem_cons_of_mem _ he)
 have:=key u.es _ (key u.un 0 (Nat.zero_le _) b) h1;omega
theorem Em:aP.dep≤3:=by
 refine mV (n:=2) (fun e he=> ?_) fun e he=>by simp[aP,U.un]at he
 simp only[aP,U.es,List.mem_singleton]at he;subst he;refine mV (n:=1) (fun e he=> ?_) fun e he=>by simp[U.un]at he
 simp only[U.es,List.mem_singleton]at he;subst he;exact mV (n:=0) (fun e he=>by simp[dA,U.es]at he) fun e he=>by simp[dA,U.un]at he
theorem wB{T:List U}{M:Nat}(hT:∀t∈T,t.dep≤M):∀(u:U)(f:Nat),(aV T f u).dep≤u.dep+M+3:=by
 intro u;induction u using U.bc with
 |_ u ih=>
  intro f;have c:=u.ql;refine Nat.le_trans (mV (n:=u.dep+M+2) (fun e he=> ?_) fun e he=> ?_) zo
  ·obtain⟨j,a,rfl⟩:=List.getElem_of_mem he
   rw[iB];rw[cO]at a;have h1:=ih _ (U.ar (zm a)) (aO u j f);have d:=U.me (zm a);omega
  ·rw[jq]at he
   split at he
   ·simp only[List.mem_singleton]at he;subst he;have:=Em;omega
   ·split at he
    ·obtain⟨b,rfl⟩:=List.getElem?_eq_some_iff.1 (Option.mem_toList.1 he)
     have:=hT _ (zm b);omega
    ·cases he
structure Raw(NS:List (List UInt8))(ds:List aC):Prop where
 err:errorName.toList∈NS
 emp:ByteArray.empty.toList∈NS
 cP:NS.length≤1048576
 un:∀d∈ds,Names NS d.un∧d.un.dep≤1048576
 ms:∀d∈ds,∀m∈d.ms,Names NS m.sig∧m.sig.dep≤1048576
 len:ds.length≤1048576
theorem Eo{NS:List (List UInt8)}{ds:List aC}(R:Raw NS ds):∀j(h:j<ds.length),Names NS ((aY ds)[j]'(by rw[dF];exact h))∧((aY ds)[j]'(by rw[dF];exact h)).dep≤(j+1)*1048579:=by
 intro j;induction j using Nat.strongRecOn with
 |_ j ih=>
  intro h;have a:∀t∈(aY ds).take j,Names NS t∧t.dep≤j*1048579:=fun t b=>by
   obtain⟨i,hi,rfl⟩:=List.getElem_of_mem b;rw[List.length_take]at hi;rw[List.getElem_take];have:=ih i zo zo;exact⟨this.1,Nat.le_trans this.2 (Nat.mul_le_mul_right _ zo)⟩
  rw[lG ds j h];have c:=R.un _ (zm h);refine⟨wA R.err R.emp (fun t b=>(a t b).1) _ _ c.1,?_⟩;have:=wB (M:=j*1048579) (fun t b=>(a t b).2) ds[j].un 1;have:=c.2;rw[Nat.add_mul];omega
theorem lH{NS:List (List UInt8)}{ds:List aC}(R:Raw NS ds){t:U}(h:t∈aY ds):Names NS t∧t.dep≤1099514773504:=by
 obtain⟨j,a,rfl⟩:=List.getElem_of_mem h;rw[dF]at a;have h1:=Eo R j a;have b:=R.len;refine⟨h1.1,Nat.le_trans h1.2 ?_⟩;have:(j+1)*1048579≤1048576*1048579:=Nat.mul_le_mul_right _ zo;omega
def bV(ds:List aC):List aC:=ds.mapIdx fun i d=>⟨aV ((aY ds).take i) 1 d.un,d.ms.map fun m=>⟨m.nm,m.ptr,aV ((aY ds).take i) 0 m.sig⟩⟩
theorem fH(ds:List aC):(bV ds).length=ds.length:=by simp[bV]
theorem im(ds:List aC)(i:Nat)(h:i<ds.length):(bV ds)[i]'(by rw[fH];exact h)=⟨(aY ds)[i]'(by rw[dF];exact h),ds[i].ms.map fun m=>⟨m.nm,m.ptr,aV ((aY ds).take i) 0 m.sig⟩⟩:=by
 rw[lG ds i h];simp[bV]
theorem oO{p:Pm}{D:Dl}{ds:List aC}(h:ca p D ds):eV p D (aY ds):=Ek h
theorem eV.take{p:Pm}{D:Dl}{T:List U}(h:eV p D T)(i:Nat):eV p D (T.take i):=fun n a=>by
 rw[List.length_take]at a;rw[List.getElem_take];exact h n zo
theorem rq{p:Pm}{D:Dl}{ds:List aC}(h:ca p D ds):ca p D (bV ds):=by
 refine⟨h.spot,by rw[fH];exact h.len,h.jV,fun i hi=> ?_⟩;rw[fH]at hi;obtain⟨b,o,e,a,c,d,f,h7,g,hu,h1,j,hm⟩:=h.at' i hi;have hT:=(oO h).take i;rw[im ds i hi];refine⟨b,o,e,a,c,d,f,?_,?_,?_,?_,j,?_⟩
 ·simp only;rw[lG ds i hi];exact rl _ _ h7
 ·simpa using g
 ·simp only;rw[lG ds i hi];exact lF hT _ _ hu
 ·simpa using h1
 ·refine⟨fun k hk=> ?_⟩
  simp only[List.length_map]at hk;obtain⟨l,m,n,m1,m2,m3,a',c',m4,m5⟩:=hm.at' k hk;simp only[List.getElem_map];exact⟨l,m,n,m1,m2,m3,a',c',rl _ _ m4,lF hT _ _ m5⟩
def fS(T:List U)(d:aC):Bool:=mt T .type d.un true&&d.ms.all fun m=>mt T .type m.sig false
end TS
namespace Go.Proofs.YtkochlhejabdcaaGreatDoor
open Go.RowKit TS
theorem ru{D:Dl}{ds:List aC}{NS:List (List UInt8)}(R:Raw NS ds)(hlen:ds.length=D.len)(c:∀k(h:k<ds.length),dM D.len k ds[k]=true)(i:Nat)(hm:∀j(h:j<(aY ds).length),j<i→mt (aY ds) .type (aY ds)[j] true=true):
 Env D (aY ds) NS i where
 len:=by rw[dF];exact hlen
 ok:=fun t b=>by
  obtain⟨j,a,rfl⟩:=List.getElem_of_mem b;rw[dF]at a;exact(rp ds.length zl (fun k h _=>c k h) j a).1
 bA:=fun j a=>by
  rw[dF]at a;exact(rp ds.length zl (fun k h _=>c k h) j a).2
 mt:=hm
 aI:=fun t b=>(lH R b).1
 cP:=R.cP
theorem ry{D:Dl}{ds:List aC}{NS:List (List UInt8)}{i:Nat}(R:Raw NS ds)(E:Env D (aY ds) NS i)(hi:i<ds.length):cD D (aY ds) NS i ((aY ds)[i]'(by rw[dF];exact hi)) 0 1 where
 pl:=(E.ok _ (zm _)).pl
 f2:=zo
 bA:=E.bA i _
 aI:=E.aI _ (zm _)
 dep:=Nat.le_trans (lH R (zm _)).2 zo
theorem oP{D:Dl}{T:List U}{NS:List (List UInt8)}{i:Nat}(E:Env D T NS i)(hi:i≤T.length)(he:errorName.toList∈NS)(g:ByteArray.empty.toList∈NS)(j:∀t∈T,t.dep≤1099514773504){u:U}{q:Pc}(k:q.d≤i)(a:aj D.len u q .type=true)(c:Names NS u)(e:u.dep≤1048576):
 cD D T NS i (aV (T.take i) q.f u) 0 q.f where
 pl:=sY (fun t b=>E.ok t (List.mem_of_mem_take b)) u q .type a (by rw[List.length_take];omega) (fun h=>absurd rfl h)
 f2:=by unfold Pc.f;split<;>(try split)<;>omega
 bA:=wv (T:=T) (T':=T.take i) i (by rw[List.length_take];omega) (fun n c=>by rw[List.length_take]at c;exact⟨by omega,by rw[List.getElem_take]⟩) u q .type a (by rw[List.length_take];omega) (fun h=>absurd rfl h)
 aI:=wA he g (fun t b=>E.aI t (List.mem_of_mem_take b)) u q.f c
 dep:=Nat.le_trans (wB (M:=1099514773504) (fun t b=>j t (List.mem_of_mem_take b)) u q.f) zo
end Go.Proofs.YtkochlhejabdcaaGreatDoor
namespace TS
open Go Go.RowKit Go.Proofs.YtkochlhejabdcaaGreatDoor
structure Wf(len:Nat)(T:List U)(e:U):Prop where
 vt:Vt len e
 vu:Vt len (under e)
 bA:∃i pos f,f≠0∧f≤2∧Pl len e pos f∧bn T i f e
def EK(len:Nat)(T:List U):Tm→Prop
 |none=>True
 |some (d,e)=>Wf len T e∧(d=true→aJ e (under e)=true)
section
variable {len:Nat} {T:List U}
theorem EM:∀{l:List Tm}{x:Tm},bP x l=none→x=none∨none∈l:=by
 intro l;induction l with
 |nil=>intro x h;simp[bP]at h
 |cons y r ih=>
  intro x h;rw[bP]at h;split at h
  ·rcases ih (by simpa using h)with h1|h1
   ·exact .inl h1
   ·exact .inr (List.mem_cons_of_mem _ h1)
  ·rename_i z b
   split at h
   ·rename_i c
    subst c;rcases nP b with h1|h1
    ·exact .inl h1.symm
    ·exact .inr (h1▸List.mem_cons_self)
   ·rcases ih h with h1|h1
    ·subst h1
     rcases nP b with a|a
     ·exact .inl a.symm
     ·exact .inr (a▸List.mem_cons_self)
    ·exact .inr (List.mem_cons_of_mem _ h1)
theorem EN:∀(n:Nat){l:List Tm},l.length≤n→cX l=none→none∈l:=by
 intro n;induction n with
 |zero=>
  intro l a h;obtain rfl:l= []:=List.eq_nil_of_length_eq_zero zo;simp[cX]at h
 |succ n ih=>
  intro l a h;match l,h,a with
  | [],h,_=>simp[cX]at h
  |x::r,h,a=>
   rw[cX]at h;split at h
   ·rename_i b
    rcases EM b with rfl|h1
    ·exact List.mem_cons_self
    ·exact List.mem_cons_of_mem _ h1
   ·rename_i z c b
    have hlen:=mi b;simp only[List.length_cons]at a;have:=ih (l:=c) zo (by simpa using h);exact List.mem_cons_of_mem _ ((qp b).2 _ this)
end
end TS
namespace Go.Proofs.YtkochlhejabdcaaGreatDoor
open Go.RowKit TS Tryz
theorem EW(p:Pm)(D:Dl)(dc:Nat)(u:U)(pos f:Nat)(a:Option Addr)(c:Nat)(w:World)(g:Pl D.len u pos f)(hk:3≤u.k∧u.k≤9)(hu:ai p D u a c)(hw:KW p w):
 Xk 8 #[Xd D dc,Xt u a c] w (RU p D u w):=by
 have h:=fun W hk=>iQ p D u pos f a c W g hu hk;rw[bR zo zo]at h;have j:(u.k==11)=false:=zp;have l:(u.k==15)=false:=zp;clear g hk;go_enter func8,ntmps8;go_wp2_with fail
 refine(h _ ((hw.alloc _).alloc _)).mono ?_;rintro n o ⟨i,c1,rfl,d,aa⟩;obtain⟨e,m⟩:=eS aa;obtain⟨q,r,s,t,x,y,z⟩:=((dE w u a c 25).alloc _).below aa;go_wp2_with fail
 refine bodyPost_ret (v:=Xt u i c1) (by simp[results,results8,go_sem,e]) rfl ?_;have b:=(((Below.refl w.heap.size w).alloc zl _).alloc zs _).trans (aa.mono zp);refine⟨p,i,c1,rfl,.refl _ _,?_,d,?_⟩
 ·refine hw.grown ?_
  repeat(refine Below.setCell ?_ zs _)
  exact b
 ·repeat(refine Below.setCell ?_ zs _)
  exact b
theorem EX(p:Pm)(D:Dl)(dc:Nat)(u:U)(pos f:Nat)(a:Option Addr)(c:Nat)(w:World)(e:Pl D.len u pos f)(hk:3≤u.k∧u.k≤9)(hu:ai p D u a c)(hw:KW p w):
 Xk 76 #[Xd D dc,Xt u a c] w (RB (bd u) w):=by
 have g:=fun W h=>EW p D dc u pos f a c W e hk hu h;have ae:Up p w ((w.alloc (.cells #[Xd D dc] 22)).alloc (Xt u a c)):=((Up.refl hw).alloc _).alloc _;have hF:Hid ((u.k==16)=bd u):=by
  have b:under u=u:=cp zo zo zo zo;unfold Hid;rw[fA (by rw[b];omega),b]
 have bC:(u.k==10)=false:=zp;generalize bd u=r at*;clear e hk;go_enter func76,ntmps76;go_wp2_with fail
 refine(g _ ae.kw).mono ?_;rintro l m ⟨q,n,c1,rfl,o,i,j,aa⟩;have d:=(ae.step aa).up;clear g aa;go_wp2_with fail
 go_ret;exact⟨_,rfl,hF,d.alloc d.size _⟩
theorem EY{D:Dl}{T:List U}{NS:List (List UInt8)}{i:Nat}(E:Env D T NS i)(p:Pm)(dc:Nat){u:U}{pos f:Nat}(h:cD D T NS i u pos f)(t:u.k≠2)(m:u.k≠10)(e:u.k≠12)(g:u.k≠13)
 (hT:eV p D T)(a:Option Addr)(c:Nat)(w:World)(hu:ai p D u a c)(hw:KW p w):
 Xk 76 #[Xd D dc,Xt u a c] w (RB (bd (cW T u)) w):=by
 by_cases l:u.k=11
 ·have v:=h.cW E m t e g l
  obtain⟨n,x,y,z,A,B,C⟩:=tP T u;have:=lS D dc (cW T u) p 0 1 a c w v zo zo (by rw[n];exact e) (by rw[n];exact g) (Aa hT hu) hw;rw[n,x,y,z,A,B,C]at this;exact this
 ·rw[nI l]
  by_cases hk:3≤u.k∧u.k≤9
  ·exact EX p D dc u pos f a c w h.pl hk hu hw
  ·have F:=h.pl.form.kinds
   have o:u.es= []:=by
    have q:=h.pl.form;cases q with
    |basic _ _ _ he=>exact he
    |pre _ he=>exact he
    |err _ he _=>exact he
    |one a _ _=>omega
    |ptr a _ _ _=>omega
    |_=>omega
   have r:Pl D.len u 0 1:=by
    refine gg ?_ (fun j s=>by rw[o]at s;simp at s) (fun h=>absurd h l);have q:=h.pl.form;cases q with
    |basic a b c d=>exact .basic a b c d
    |pre a b=>exact .pre a b
    |err a b c=>exact .err a b c
    |one a _ _=>omega
    |ptr a _ _ _=>omega
    |_=>omega
   exact lS D dc u p 0 1 a c w r zo zo e g hu hw
def jc(D:Dl)(dc:Nat)(T:List U)(NS:List (List UInt8))(i:Nat)(u:U):Prop:=
 ∀(g:Bool)(p:Pm)(pos f:Nat)(a:Option Addr)(c:Nat)(w:World),cD D T NS i u pos f→u.k≠12→u.k≠13→eV p D T→ai p D u a c→KW p w→
  Xk 42 #[Xd D dc,Xt u a c,.bool g] w (RB (mt T .type u g) w)
theorem EZ(p:Pm)(D:Dl)(dc:Nat)(u:U)(x:Bool)(a:Option Addr)(c:Nat)(w:World)(e:∀W,KW p W→Xk 42 #[Xd D dc,Xt u a c,.bool false] W (RB x W))(hw:KW p w)(f:Nat)
 (h1:Xc w f 0 (Xd D dc)):
 Xk 144 #[Xt u a c,Xp f] w (RB (!x) w):=by
 have b1:=zb h1;simp only at b1;have ae:Up p w (w.alloc (Xt u a c)):=(Up.refl hw).alloc _;go_enter func144,ntmps144;go_wp2_with fail
 refine(e _ ae.kw).mono ?_;rintro h i ⟨b,rfl,g,aa⟩;have d:=(ae.step aa).up;have hF:Hid ((!b)= !x):=by unfold Hid;rw[g.out]
 clear g aa e;go_wp2_with fail
 go_ret;exact⟨_,rfl,hF,d⟩
theorem wI(p:Pm)(D:Dl)(dc:Nat)(T:List U)(es:List U)(a:Option Addr)(n c:Nat)(w:World)(l:n=es.length)
 (m:∀e∈es,∀a c W,ai p D e a c→KW p W→Xk 42 #[Xd D dc,Xt e a c,.bool false] W (RB (mt T .type e false) W))(s:aq p D es a)(t:(es.length:Int)≤1048576)(hw:KW p w):
 Xk 88 #[Xd D dc,.slice a n c] w (RB (es.all fun e=>mt T .type e false) w):=by
 have o:∀args w,(callFunc 144 args).run Tryz.prog w= .ok (.enter 144 args) w:=dG func144 zk rfl;have u:=zh fun W (v:KW p W) lb H=>fZ n p D es l a c 144 lb (fun e=> !mt T .type e false) W v s t o H;have q:es.any (fun e=> !mt T .type e false)= !es.all fun e=>mt T .type e false:=kL _ _;have f:=zh q;have x:∀(fn:Fn)(first cap:Array Value)(w:World),(Instr.makeFunc fn first cap).run Tryz.prog w= .ok (.func fn first cap) w:=fun _ _ _ _=>rfl;have ae:Up p w (w.alloc (.cells #[Xd D dc] 22)):=(Up.refl hw).alloc _;have g:=zh m;clear q m o l;go_enter func88,ntmps88;go_wp2_with fail
 refine(u.out _ ae.kw _ ?_).mono ?_
 ·intro i hi W a' c' d h
  exact EZ p D dc es[i] _ a' c' W (fun y j=>g.out _ (zm hi) a' c' y h j) (ae.kw.grown d) _ (TS.cell_kept d zs)
 rintro z A ⟨b,rfl,r,aa⟩;have k:=(ae.step aa).up;have hF:Hid ((!b)=es.all fun e=>mt T .type e false):=by unfold Hid;rw[r.out,f.out];simp
 clear r aa;go_wp2_with fail
 go_ret;exact⟨_,rfl,hF,k⟩
end Go.Proofs.YtkochlhejabdcaaGreatDoor
namespace TS
open Go Go.RowKit Go.Proofs.Tryz
def d_(u:U)(nm:ByteArray):U:=match u with| .mk k n m v _ tg es un=> .mk k n m v nm tg es un
theorem ai.d_{p:Pm}{D:Dl}{u:U}{a:Option Addr}{c:Nat}(h:ai p D u a c){nm:ByteArray}(b:nm.size≤1048576):ai p D (TS.d_ u nm) a c:=by
 cases u;simp only[TS.d_,ai]at*;exact⟨⟨h.1.1,h.1.2.1,b,h.1.2.2.2⟩,h.2⟩
theorem pc(u:U)(nm:ByteArray)(a:Option Addr)(c:Nat):aX [(d_ u nm,a,c)]= [.int .i64 u.k,.int .i64 u.n,.int .i64 u.m,.bool u.v,.string nm,.string u.tg,.slice a u.es.length c]:=by
 cases u;rfl
def fJ(b:Bool)(ms:List br):List U:=(ms.filter fun m=>b|| !m.ptr).map fun m=>d_ m.sig m.nm
theorem rJ(b:Bool)(ms:List br):(fJ b ms).length≤ms.length:=by
 unfold fJ;rw[List.length_map];exact List.length_filter_le _ _
theorem wY(b:Bool)(ms:List br)(k:Nat)(h:k<ms.length):fJ b (ms.take (k+1))=fJ b (ms.take k)++(if b|| !ms[k].ptr then [d_ ms[k].sig ms[k].nm]else []):=by
 unfold fJ;rw[List.take_succ_eq_append_getElem h,List.filter_append,List.map_append];congr 1;by_cases a:(b|| !ms[k].ptr)=true
 ·rw[if_pos a,List.filter_cons_of_pos (p:=fun m:br=>b|| !m.ptr) a];rfl
 ·rw[if_neg a,List.filter_cons_of_neg (p:=fun m:br=>b|| !m.ptr) a];rfl
def iL(u:U):Bool×U:=if(bare u).k=6 then(true,bare ((bare u).es.headD (bare u)))else(false,bare u)
def fW(ds:List aC)(u:U):List U:=if(iL u).2.k=11 then fJ (iL u).1 (ds.getD (iL u).2.n.toNat ⟨cC,[]⟩).ms else []
end TS
namespace Go.Proofs.YtkochlhejabdcaaGreatDoor
open Go.RowKit TS Tryz
theorem FC(p:Pm)(D:Dl)(dc:Nat)(ds:List aC)(hD:ca p D ds)(u:U)(pos f:Nat)(a:Option Addr)(c:Nat)(w:World)(hP:Pl D.len u pos f)(hf:f≤2)(P2:u.k≠12)(P3:u.k≠13)(hu:ai p D u a c)(hw:KW p w):
 Xk 59 #[Xd D dc,Xt u a c] w (RW p D (fW ds u) w):=by
 have hC:=fun W hk=>iQ p D u pos f a c W hP hu hk;have ae:Up p w (w.alloc (Xt u a c)):=(Up.refl hw).alloc _;obtain⟨H,q,V,PT⟩:=hP.bare hf P2 P3;have t:=zh hw;obtain⟨v,hv⟩:∃v,v=bare u:=⟨_,rfl⟩
 have g:fW ds u=if(if v.k=6 then(true,bare (v.es.headD v))else(false,v)).2.k=11 then fJ (if v.k=6 then(true,bare (v.es.headD v))else(false,v)).1 (ds.getD (if v.k=6 then(true,bare (v.es.headD v))else(false,v)).2.n.toNat ⟨cC,[]⟩).ms else []:=by subst hv;rfl
 rw[←hv]at hC H q V PT;clear hP P2 P3 hv hw;by_cases h6:v.k=6
 ·simp only[if_pos h6]at g
  obtain⟨e,he⟩:=cL (l:=v.es) (by cases H.form<;>omega);have h0:(0:Int)<v.es.length:=by rw[he];simp
  have I:=H.part 0 zo;simp only[he,List.getElem_cons_zero]at I;have E:=(I.bare fj (by have:=(show aS v 0=0 by unfold aS;rw[if_neg zo,if_neg zo])▸I.form;exact this.aD.1) (by have:=(show aS v 0=0 by unfold aS;rw[if_neg zo,if_neg zo])▸I.form;exact this.aD.2)).1;rw[he]at g;simp only[List.headD_cons]at g;have k6:(v.k==6)=true:=by simp[h6]
  clear h6 q V PT;by_cases j:(bare e).k=11
  ·replace g:=g.trans (if_pos j)
   obtain⟨y,hy⟩:∃y,y=bare e:=⟨_,rfl⟩
   rw[←hy]at g j E;obtain⟨⟨P9,PW⟩,-⟩:=E.form.ji j;have P:y.n.toNat<ds.length:=by rw[hD.len];omega
   have PG:ds.getD y.n.toNat ⟨cC,[]⟩=ds[y.n.toNat]:=by simp[P]
   rw[PG]at g;obtain⟨db,d,Q⟩:=hD.bg zo;obtain⟨_,_,ma,mc,-,R,-,PH,PI,PJ⟩:=hD.get Q y.n.toNat P;have P_:=t.out.lt R;generalize ds[y.n.toNat].ms=ms at*;obtain⟨Da,Dn⟩:=D;simp only at Q PW;subst Q;have PX:(y.k !=11)=false:=by simp[j]
   have P4:(ms.length:Int)≤1048576:=zo;have PK:=zh PJ;have PL:=zh R;have hF:=zh g;have P5:=zh (And.intro PH PI);clear g PG P R hD j PJ E PH PI;go_enter func59,ntmps59;go_wp2_with fail
   refine(hC _ ae.kw).mono ?_;rintro e1 w1 ⟨a1,c1,rfl,S,aa⟩;have s:=ae.step aa;obtain⟨Y,l1,l2,l3,l4,l5,l6⟩:=(dE w u a c 25).below aa;have Z:=zb Y;simp only at Z;obtain⟨-,J⟩:=eS aa;have O:Below w w w1:=s.up;clear hC aa ae;have F:=S.list;rw[he]at F;obtain⟨b,o,rfl⟩:=F.bg zs;obtain⟨a',c',h7,h⟩:=F.get 0 zs;simp only[List.getElem_cons_zero,Nat.zero_mul,Nat.add_zero]at h7 h;obtain⟨g0,g1,g2,g3,g4,g5,g6⟩:TS.C7 w1 b o e a' c':=h7.world s.kw;have Qa:b<w.heap.size:=t.out.lt h7.1;have P6:b<w1.heap.size:=by have:=O.size;omega
   have K:=fun W hk=>iQ p ⟨.some (Xa db d),Dn⟩ e _ _ a' c' W I h hk;rw[←hy]at K;have K:=zh K;clear hy;clear h7 F he s h I H hf hu;go_wp2_with fail
   refine(K.out _ (t.out.grown ?kw)).mono ?_
   case' kw=>
    repeat(refine Below.setCell ?_ zs _)
    exact O
   rintro e2 w2 ⟨a2,c2,rfl,Qb,q⟩;have X:Below w w w2:=by
    refine Below.trans ?_ (q.mono ?_)
    ·repeat(refine Below.setCell ?_ zs _)
     exact O
    ·have:=O.size;simp;omega
   obtain⟨m0,m1,m2,m3,m4,m5,m6⟩:TS.L7 w2 w.heap.size v (Xa b o) c1:=by
    repeat' apply And.intro
    all_goals exact TS.cell_kept q (by simp[go_sem,Y,l1,l2,l3,l4,l5,l6];done)
   have N:=zb m0;simp only at N;have P7:∀x,w2.frozen? (Xa w x)=false:=fun x=>TS.frozen_kept q (by simp[go_sem];exact Z) (by simp[go_sem,J _ _ (show w.heap.size<(w.alloc (Xt u a c)).heap.size by simp)]);clear K q Y l1 l2 l3 l4 l5 l6 J Z g0 g1 g2 g3 g4 g5 g6;have PY:=t.out.grown X _ _ _ PL.out;go_wp2_with fail
   go_loopw [6,31] (fun vo i wr=> ∃k L,k≤ms.length∧i= .int .i64 k∧Row p p ⟨.some (Xa db d),Dn⟩ w wr vo L∧aL L=fJ true (ms.take k)) (fun _ i _=>ms.length- (intOf i).toNat)
   case atStart=>
    refine⟨0,[],Nat.zero_le _,rfl,?_,by rw[List.take_zero];rfl⟩;exact Row.nil (by(repeat(refine Below.setCell ?_ zs _));exact X) (.refl _ _) (t.out.grown (by(repeat(refine Below.setCell ?_ zs _));exact X))
   case round=>
    clear PY m0 m1 m2 m3 m4 m5 m6 P7 N;obtain⟨k,L,hk,rfl,hO,z⟩:=hrel;by_cases PM:k<ms.length
    ·obtain⟨b9,o9,rfl⟩:=PK.out.bg zo
     obtain⟨g1,g2,G,a',c',h7,h⟩:=PK.out.get k PM;have A:=zh (wY true ms k PM);have Qc:L.length≤k:=by
      have:=rJ true (ms.take k);rw[←z,fD,List.length_take]at this;omega
     have B:=zh z;obtain⟨⟨nm,pb,sg⟩,PN⟩:∃m,m=ms[k]:=⟨_,rfl⟩
     rw[←PN]at g1 g2 G h7 h A;simp only at g1 g2 G h7 h A;have y1:=hO.kw _ _ _ g1;have y2:=hO.kw _ _ _ g2;obtain⟨x0,x1,x2,x3,x4,x5,x6⟩:=h7.world hO.kw;have PZ:=zh (h.d_ G);clear PN g1 g2 h7 z h G;have P8:(k:Int)<ms.length:=zo;have PU:=zh hO;clear hO;obtain⟨i0,hi,P0,P1,N⟩:=info_parts js;have hA:Hid (aL (L++ [(d_ sg nm,a',c')])=fJ true (ms.take (k+1))):=by
      unfold Hid;rw[A.out,←B.out];simp[aL]
     clear A B;have r:=zh (((PU.out.alloc (.cells #[.string nm,.bool pb,.int .i64 sg.k,.int .i64 sg.n,.int .i64 sg.m,.bool sg.v,.string sg.nm,.string sg.tg,.slice a' sg.es.length c'] 75)).alloc (.cells #[.int .i64 sg.k,.int .i64 sg.n,.int .i64 sg.m,.bool sg.v,.string nm,.string sg.tg,.slice a' sg.es.length c'] 25)).alloc (.cells #[.int .i64 sg.k,.int .i64 sg.n,.int .i64 sg.m,.bool sg.v,.string nm,.string sg.tg,.slice a' sg.es.length c'] 25));have T:=zh (kY ((wr.alloc (.cells #[.string nm,.bool pb,.int .i64 sg.k,.int .i64 sg.n,.int .i64 sg.m,.bool sg.v,.string sg.nm,.string sg.tg,.slice a' sg.es.length c'] 75)).alloc (.cells #[.int .i64 sg.k,.int .i64 sg.n,.int .i64 sg.m,.bool sg.v,.string nm,.string sg.tg,.slice a' sg.es.length c'] 25)) [.int .i64 sg.k,.int .i64 sg.n,.int .i64 sg.m,.bool sg.v,.string nm,.string sg.tg,.slice a' sg.es.length c'] 25);rw[show((wr.alloc (.cells #[.string nm,.bool pb,.int .i64 sg.k,.int .i64 sg.n,.int .i64 sg.m,.bool sg.v,.string sg.nm,.string sg.tg,.slice a' sg.es.length c'] 75)).alloc (.cells #[.int .i64 sg.k,.int .i64 sg.n,.int .i64 sg.m,.bool sg.v,.string nm,.string sg.tg,.slice a' sg.es.length c'] 25)).heap.size=wr.heap.size+1+1 by simp]at T;go_wp2_with (at_builtin;refine wpList_append_own_at _ rfl _ _ 23 rfl w.heap.size 25 i0 (Xt cC none 0) 7 88 underlying23 hi P0 P1 N rfl zd _ _ _ rfl r.out.own (Xa (wr+1+1) 0) 1 1 [.int .i64 sg.k,.int .i64 sg.n,.int .i64 sg.m,.bool sg.v,.string nm,.string sg.tg,.slice a' sg.es.length c'] rfl rfl T.out (by rw[←pc];exact kW _) ?c3 ?c4 ?c5 ?_)
     case c3=>unfold maxLen;omega
     case c4=>omega
     case c5=>exact r.out.up.size
     intro v' w7 C PO _ PQ;have PR:=zh (r.out.nU (M:= [(d_ sg nm,a',c')]) (by rw[pc];exact C) PO (by simpa using PQ) fun x hx=>by
      obtain rfl:x=(d_ sg nm,a',c'):=by simpa using hx
      exact PZ.out)
     clear C PO PQ r T;go_wp2_with fail
     go_roundw
     case rel=>exact⟨k+1,L++ [(d_ sg nm,a',c')],by omega,by go_num,PR.out,hA.out⟩
     case measure=>simp[intOf];omega
    ·have PS:k=ms.length:=zo
     have hR:Hid (aL L=fW ds u):=by unfold Hid;rw[hF.out,z,PS,List.take_length]
     clear z PS;go_wp2_with fail
     go_ret;exact⟨p,_,L,rfl,hR.out,hO⟩
  ·replace g:fW ds u= []:=g.trans (if_neg j)
   have PX:((bare e).k !=11)=true:=by simp[j]
   rw[g];clear g j E;go_enter func59,ntmps59;go_wp2_with fail
   refine(hC _ ae.kw).mono ?_;rintro e1 w1 ⟨a1,c1,rfl,S,aa⟩;have s:=ae.step aa;obtain⟨Y,l1,l2,l3,l4,l5,l6⟩:=(dE w u a c 25).below aa;have Z:=zb Y;simp only at Z;obtain⟨-,J⟩:=eS aa;have O:Below w w w1:=s.up;clear hC aa ae;have F:=S.list;rw[he]at F;obtain⟨b,o,rfl⟩:=F.bg zs;obtain⟨a',c',h7,h⟩:=F.get 0 zs;simp only[List.getElem_cons_zero,Nat.zero_mul,Nat.add_zero]at h7 h;obtain⟨g0,g1,g2,g3,g4,g5,g6⟩:TS.C7 w1 b o e a' c':=h7.world s.kw;have Qa:b<w.heap.size:=t.out.lt h7.1;have P6:b<w1.heap.size:=by have:=O.size;omega
   have K:=zh fun W hk=>iQ p D e _ _ a' c' W I h hk;clear h7 F he s h I H hD hf hu;go_wp2_with fail
   refine(K.out _ (t.out.grown ?kv)).mono ?_
   case' kv=>
    repeat(refine Below.setCell ?_ zs _)
    exact O
   rintro e2 w2 ⟨a2,c2,rfl,Qb,q⟩;have X:Below w w w2:=by
    refine Below.trans ?_ (q.mono ?_)
    ·repeat(refine Below.setCell ?_ zs _)
     exact O
    ·have:=O.size;simp;omega
   obtain⟨m0,m1,m2,m3,m4,m5,m6⟩:TS.L7 w2 w.heap.size v (Xa b o) c1:=by
    repeat' apply And.intro
    all_goals exact TS.cell_kept q (by simp[go_sem,Y,l1,l2,l3,l4,l5,l6];done)
   have N:=zb m0;simp only at N;have P7:∀x,w2.frozen? (Xa w x)=false:=fun x=>TS.frozen_kept q (by simp[go_sem];exact Z) (by simp[go_sem,J _ _ (show w.heap.size<(w.alloc (Xt u a c)).heap.size by simp)]);clear K q Y l1 l2 l3 l4 l5 l6 J Z g0 g1 g2 g3 g4 g5 g6;go_wp2_with fail
   go_ret;exact⟨p,_,[],rfl,zh rfl,Row.nil (by(repeat(refine Below.setCell ?_ zs _));exact X) (.refl _ _) (t.out.grown (by(repeat(refine Below.setCell ?_ zs _));exact X))⟩
 ·simp only[if_neg h6]at g
  have k6:(v.k==6)=false:=by simp[h6]
  obtain⟨y,hy⟩:∃y,y=v:=⟨_,rfl⟩
  have E:=H;rw[←hy]at E;by_cases j:v.k=11
  ·replace g:=g.trans (if_pos j)
   subst hy;clear h6 q V PT H;obtain⟨⟨P9,PW⟩,-⟩:=E.form.ji j;have P:y.n.toNat<ds.length:=by rw[hD.len];omega
   have PG:ds.getD y.n.toNat ⟨cC,[]⟩=ds[y.n.toNat]:=by simp[P]
   rw[PG]at g;obtain⟨db,d,Q⟩:=hD.bg zo;obtain⟨_,_,ma,mc,-,R,-,PH,PI,PJ⟩:=hD.get Q y.n.toNat P;have P_:=t.out.lt R;generalize ds[y.n.toNat].ms=ms at*;obtain⟨Da,Dn⟩:=D;simp only at Q PW;subst Q;have PX:(y.k !=11)=false:=by simp[j]
   have P4:(ms.length:Int)≤1048576:=zo;have PK:=zh PJ;have PL:=zh R;have hF:=zh g;have P5:=zh (And.intro PH PI);clear g PG P R hD j PJ E PH PI;go_enter func59,ntmps59;go_wp2_with fail
   refine(hC _ ae.kw).mono ?_;rintro e1 w1 ⟨a1,c1,rfl,S,aa⟩;have s:=ae.step aa;obtain⟨Y,l1,l2,l3,l4,l5,l6⟩:=(dE w u a c 25).below aa;have Z:=zb Y;simp only at Z;obtain⟨-,J⟩:=eS aa;have O:Below w w w1:=s.up;clear hC aa ae;have PY:=t.out.grown O _ _ _ PL.out;clear s S;go_wp2_with fail
   go_loopw [6,31] (fun vo i wr=> ∃k L,k≤ms.length∧i= .int .i64 k∧Row p p ⟨.some (Xa db d),Dn⟩ w wr vo L∧aL L=fJ false (ms.take k)) (fun _ i _=>ms.length- (intOf i).toNat)
   case atStart=>
    refine⟨0,[],Nat.zero_le _,rfl,?_,by rw[List.take_zero];rfl⟩;exact Row.nil (by(repeat(refine Below.setCell ?_ zs _));exact O) (.refl _ _) (t.out.grown (by(repeat(refine Below.setCell ?_ zs _));exact O))
   case round=>
    clear PY Y l1 l2 l3 l4 l5 l6 J Z;obtain⟨k,L,hk,rfl,hO,z⟩:=hrel;by_cases PM:k<ms.length
    ·obtain⟨b9,o9,rfl⟩:=PK.out.bg zo
     obtain⟨g1,g2,G,a',c',h7,h⟩:=PK.out.get k PM;have A:=zh (wY false ms k PM);have Qc:L.length≤k:=by
      have:=rJ false (ms.take k);rw[←z,fD,List.length_take]at this;omega
     have B:=zh z;obtain⟨⟨nm,pb,sg⟩,PN⟩:∃m,m=ms[k]:=⟨_,rfl⟩
     rw[←PN]at g1 g2 G h7 h A;simp only at g1 g2 G h7 h A;have y1:=hO.kw _ _ _ g1;have y2:=hO.kw _ _ _ g2;obtain⟨x0,x1,x2,x3,x4,x5,x6⟩:=h7.world hO.kw;have PZ:=zh (h.d_ G);clear PN g1 g2 h7 z h G;have P8:(k:Int)<ms.length:=zo;have PU:=zh hO;clear hO;obtain⟨i0,hi,P0,P1,N⟩:=info_parts js;cases pb
     ·have hA:Hid (aL (L++ [(d_ sg nm,a',c')])=fJ false (ms.take (k+1))):=by
       unfold Hid;rw[A.out,←B.out];simp[aL]
      clear A B;have r:=zh (((PU.out.alloc (.cells #[.string nm,.bool false,.int .i64 sg.k,.int .i64 sg.n,.int .i64 sg.m,.bool sg.v,.string sg.nm,.string sg.tg,.slice a' sg.es.length c'] 75)).alloc (.cells #[.int .i64 sg.k,.int .i64 sg.n,.int .i64 sg.m,.bool sg.v,.string nm,.string sg.tg,.slice a' sg.es.length c'] 25)).alloc (.cells #[.int .i64 sg.k,.int .i64 sg.n,.int .i64 sg.m,.bool sg.v,.string nm,.string sg.tg,.slice a' sg.es.length c'] 25));have T:=zh (kY ((wr.alloc (.cells #[.string nm,.bool false,.int .i64 sg.k,.int .i64 sg.n,.int .i64 sg.m,.bool sg.v,.string sg.nm,.string sg.tg,.slice a' sg.es.length c'] 75)).alloc (.cells #[.int .i64 sg.k,.int .i64 sg.n,.int .i64 sg.m,.bool sg.v,.string nm,.string sg.tg,.slice a' sg.es.length c'] 25)) [.int .i64 sg.k,.int .i64 sg.n,.int .i64 sg.m,.bool sg.v,.string nm,.string sg.tg,.slice a' sg.es.length c'] 25);rw[show((wr.alloc (.cells #[.string nm,.bool false,.int .i64 sg.k,.int .i64 sg.n,.int .i64 sg.m,.bool sg.v,.string sg.nm,.string sg.tg,.slice a' sg.es.length c'] 75)).alloc (.cells #[.int .i64 sg.k,.int .i64 sg.n,.int .i64 sg.m,.bool sg.v,.string nm,.string sg.tg,.slice a' sg.es.length c'] 25)).heap.size=wr.heap.size+1+1 by simp]at T;go_wp2_with (at_builtin;refine wpList_append_own_at _ rfl _ _ 23 rfl w.heap.size 25 i0 (Xt cC none 0) 7 88 underlying23 hi P0 P1 N rfl zd _ _ _ rfl r.out.own (Xa (wr+1+1) 0) 1 1 [.int .i64 sg.k,.int .i64 sg.n,.int .i64 sg.m,.bool sg.v,.string nm,.string sg.tg,.slice a' sg.es.length c'] rfl rfl T.out (by rw[←pc];exact kW _) ?c3 ?c4 ?c5 ?_)
      case c3=>unfold maxLen;omega
      case c4=>omega
      case c5=>exact r.out.up.size
      intro v' w7 C PO _ PQ;have PR:=zh (r.out.nU (M:= [(d_ sg nm,a',c')]) (by rw[pc];exact C) PO (by simpa using PQ) fun x hx=>by
       obtain rfl:x=(d_ sg nm,a',c'):=by simpa using hx
       exact PZ.out)
      clear C PO PQ r T;go_wp2_with fail
      go_roundw
      case rel=>exact⟨k+1,L++ [(d_ sg nm,a',c')],by omega,by go_num,PR.out,hA.out⟩
      case measure=>simp[intOf];omega
     ·have hA:Hid (aL L=fJ false (ms.take (k+1))):=by
       unfold Hid;rw[A.out,←B.out];simp
      clear A B;have PR:=zh (PU.out.alloc (.cells #[.string nm,.bool true,.int .i64 sg.k,.int .i64 sg.n,.int .i64 sg.m,.bool sg.v,.string sg.nm,.string sg.tg,.slice a' sg.es.length c'] 75));go_wp2_with fail
      go_roundw
      case rel=>exact⟨k+1,L,by omega,by go_num,PR.out,hA.out⟩
      case measure=>simp[intOf];omega
    ·have PS:k=ms.length:=zo
     have hR:Hid (aL L=fW ds u):=by unfold Hid;rw[hF.out,z,PS,List.take_length]
     clear z PS;go_wp2_with fail
     go_ret;exact⟨p,_,L,rfl,hR.out,hO⟩
  ·replace g:fW ds u= []:=g.trans (if_neg j)
   have PX:(v.k !=11)=true:=by simp[j]
   rw[g];clear g j h6 q V PT H E hy;go_enter func59,ntmps59;go_wp2_with fail
   refine(hC _ ae.kw).mono ?_;rintro e1 w1 ⟨a1,c1,rfl,S,aa⟩;have s:=ae.step aa;obtain⟨Y,l1,l2,l3,l4,l5,l6⟩:=(dE w u a c 25).below aa;have Z:=zb Y;simp only at Z;obtain⟨-,J⟩:=eS aa;have O:Below w w w1:=s.up;clear hC aa ae;clear s S;go_wp2_with fail
   go_ret;exact⟨p,_,[],rfl,zh rfl,Row.nil (by(repeat(refine Below.setCell ?_ zs _));exact O) (.refl _ _) (t.out.grown (by(repeat(refine Below.setCell ?_ zs _));exact O))⟩
end Go.Proofs.YtkochlhejabdcaaGreatDoor
namespace Go.Proofs.YtkochlhejabdcaaGreatDoor
open Go.RowKit TS Go.Shelf Tryz
attribute [local go_sem] Oper.semAt_some
theorem Gp(tb n c i f:Nat)(a:Option Addr)(w:World)(j:i<n)(hi:n≤1099511627776)(k:Xc w tb 0 (.slice a n c))(d:∃b o,a= .some (Xa b o)∧Xc w b (o+i) (Xp f)):
 Xk 207 #[Xp tb,.int .i64 i] w fun e g=>e= .returned (Xp f)∧w=g:=by
 obtain⟨b,o,rfl,l⟩:=d;have h:(i:Int)<n:=zo;go_enter func207,ntmps207;go_wp2_with fail
 go_ret;exact⟨rfl,rfl⟩
theorem Gq(b:Nat)(k:Int)(w:World):Xk 237 #[Xi 146 b,.int .i64 k] w fun e h=>e= .returned (.bool false)∧w=h:=by
 obtain⟨K,fn,i,f,a,g,j,l,c⟩:=nY b w;have m:=fun args w=>Go.MuLone.run_callFunc_enter f a g args w;have d:=zh c;have n:∀W,(Instr.typeAssert (Xi 146 b) 49 105 true).run Tryz.prog W= .ok (.tuple #[.pointer none,.bool false]) W:=fun W=>by rw[bG,if_neg zd]
 clear c f a g;go_enter func237,ntmps237;go_wp2_with fail
 refine d.out.mono ?_;rintro _ _ ⟨rfl,rfl⟩;go_wp2_with fail
 go_ret;exact⟨rfl,rfl⟩
theorem Gr(b:Nat)(w:World):Xk 209 #[Xi 146 b] w fun e a=>e= .returned (.bool false)∧w=a:=by
 go_enter func209,ntmps209;go_wp2_with fail
 refine(Gq b 32 _).mono ?_;rintro _ _ ⟨rfl,rfl⟩;go_wp2_with fail
 go_ret;exact⟨rfl,rfl⟩
theorem Gs(b:Nat)(w:World):Xk 208 #[Xi 146 b] w fun e a=>e= .returned (.func (.func 235) #[] #[Xp w])∧a=w.alloc (.cells #[Xi 146 b] 49):=by
 have c:∀(fn:Fn)(first cap:Array Value)(w:World),(Instr.makeFunc fn first cap).run Tryz.prog w= .ok (.func fn first cap) w:=fun _ _ _ _=>rfl;go_enter func208,ntmps208;go_wp2_with fail
 go_ret;exact⟨rfl,rfl⟩
abbrev bT(b:Nat)(_:Unit):Array Value:=#[Xi 146 b,Xi 146 b]
theorem Gt{F:Fence}(a:F.depth=none)(k:Nat):F.room k:=fun d h=>by rw[a]at h;cases h
theorem Gu{F:Fence}(b:F.depth=none){m:Nat}(d:Nat){P:Program}{l:Nat}{args:Array Value}{W:World}{R:Ending→World→Prop}(h:YieldAt F m P l args W R):YieldAt F d P l args W R:=by
 obtain⟨fn,tmps,assign,body,e,a⟩:=h;exact⟨fn,tmps,assign,body,e,a.1,fun c cs _=>a.2 c cs (Gt b _)⟩
theorem Gv(n l b:Nat)(W:World)(R:Ending→World→Prop)(j:YieldAt Fence.wide (n- 1) Tryz.prog l (bT b ()) W fun e k=> ∃x,e= .returned (.bool x)∧R (.returned (.bool x)) k):
 CallsIn Fence.wide n Tryz.prog 236 #[Xi 146 b,.func (.yield l) #[] #[]] W R:=by
 obtain⟨fn,tmps,assign,body,m,o⟩:=j;dsimp only[bT]at m;obtain⟨K,p,q,d,a,f,r,s,c⟩:=nY b W;have t:=fun args w=>Go.MuLone.run_callFunc_enter d a f args w;have z:∀W,(Instr.typeAssert (Xi 146 b) 49 220 true).run Tryz.prog W= .ok (.tuple #[.pointer none,.bool false]) W:=fun W=>by rw[qD,if_neg zd]
 have u:∀n,CallsIn Fence.wide n Tryz.prog 125 #[Xi 146 b] W fun e g=>e= .returned (Xi 146 b)∧W=g:=fun n=>callsIn_wide.2 (fF _ _ zd W);have v:∀n,CallsIn Fence.wide n Tryz.prog K #[Xp b] W fun e g=>e= .returned (Xi 146 b)∧W=g:=fun n=>callsIn_wide.2 c;clear d a f c;refine callsIn_of_wp func236 rfl trivial ?_ rfl;simp only[ntmps236,List.size_toArray,List.length_cons,List.length_nil,Nat.reduceAdd,Nat.reduceSub,Array.replicate_succ,Array.replicate_zero,List.push_toArray,List.append_toArray,List.nil_append,List.cons_append]
 gi_wp2_with (first
  |(refine⟨trivial,(fun h=>by cases h),?_⟩;gi_at_call 125;refine(u _).mono ?_;rintro e i ⟨rfl,rfl⟩)
  |(refine⟨trivial,(fun h=>by cases h),?_⟩;refine(v _).mono ?_;rintro e i ⟨rfl,rfl⟩)
  |(refine⟨(fun h=>by cases h),?_⟩;refine o.mono ?_;rintro e i ⟨x,rfl,y⟩))
 exact y
theorem Gw(n g b B:Nat)(w:World)(a:B<w.heap.size)(i:Xc w B 0 (Xi 146 b)):
 SeqStopsK Fence.wide n Tryz.prog 235 #[Xp B] (bT b) (Below g) (fun xs=>xs= [()]) (fun pre=>pre= [()]) 1 w:=fun l J j W k s o d q=>by
 have t:Xc W B 0 (Xi 146 b):=(k.cell (p:=(Xa B 0)) a).trans i;have f:=d [] () W q zd;have r:∀m,CallsIn Fence.wide m Tryz.prog 236 #[Xi 146 b,.func (.yield l) #[] #[]] W fun e c=>(∃v,e= .returned v)∧((∃xs,xs= [()]∧J xs c)∨∃pre,pre= [()]∧j pre c):=fun m=>
  Gv m l b W _ (YieldAt.mono (Gu rfl (m- 1) f) fun e c h=>by
   rcases h with⟨rfl,h,_⟩|⟨rfl,h⟩
   ·exact⟨true,rfl,⟨_,rfl⟩,.inl ⟨_,rfl,h⟩⟩
   ·exact⟨false,rfl,⟨_,rfl⟩,.inr ⟨_,rfl,h⟩⟩)
 clear f d;refine callsIn_of_wp func235 rfl trivial ?_ rfl;simp only[ntmps235,List.size_toArray,List.length_cons,List.length_nil,Nat.reduceAdd,Nat.reduceSub,Array.replicate_succ,Array.replicate_zero,List.push_toArray,List.append_toArray,List.nil_append,List.cons_append];gi_wp2_with (refine⟨trivial,(fun h=>by cases h),?_⟩;gi_at_call 236;refine(r _).mono ?_;rintro e u ⟨⟨x,rfl⟩,h⟩)
 go_end0
 exact⟨⟨_,rfl⟩,h⟩
theorem Gx(r q:Option Addr)(pb n c fl d:Nat)(a:Option Addr)(w:World)(hn:0<n)(j:n≤1099511627776)(F:Xc w pb 0 (.slice a n c))(H:∃b o,a= .some (Xa b o)∧Xc w b (o+(n- 1)) (Xp fl))
 (h3:Xc w fl 3 (Xi 146 d)):
 Xk 160 #[.pointer r,.slice none 0 0,.slice none 0 0,Xp pb,.pointer q,.bool true] w fun e f=> ∃b,e= .returned (Xp b)∧w.heap.size≤b∧
  f.heap[b]?=some (.cells #[.pointer r,.pointer none,Xp pb,.pointer q,.bool true] 112 (0,0))∧Below w w f:=by
 have N:∀m,CallsIn Fence.wide m Tryz.prog 130 #[Xp pb] w fun e f=>e= .returned (.int .i64 n)∧w=f:=fun m=>callsIn_wide.2 (mI pb n c a w F);have O:∀m,CallsIn Fence.wide m Tryz.prog 207 #[Xp pb,.int .i64 ((n:Int)- 1)] w fun e f=>e= .returned (Xp fl)∧w=f:=fun m=>callsIn_wide.2 (by
  have:=Gp pb n c (n- 1) fl a w zo j F H;rwa [show((n- 1:Nat):Int)=(n:Int)- 1 by omega]at this)
 have hT:∀m W,CallsIn Fence.wide m Tryz.prog 208 #[Xi 146 d] W fun e f=>e= .returned (.func (.func 235) #[] #[Xp W])∧f=W.alloc (.cells #[Xi 146 d] 49):=fun m W=>callsIn_wide.2 (Gs d W);have P:¬(n:Int)=0:=zo;have Q:(n:Int)≤1099511627776:=zo;clear F H;refine(callsIn_wide (n:=9)).1 ?_;refine callsIn_of_wp_marks func160 rfl trivial ?_ rfl;simp only[ntmps160,List.size_toArray,List.length_cons,List.length_nil,Nat.reduceAdd,Nat.reduceSub,Array.replicate_succ,Array.replicate_zero,List.push_toArray,List.append_toArray,List.nil_append,List.cons_append]
 gi_wp2_with (first
  |(refine⟨trivial,?_⟩;gi_at_call 130;refine(N _).mono ?_;rintro e C ⟨rfl,rfl⟩)
  |(refine⟨trivial,?_⟩;gi_at_call 207;refine(O _).mono ?_;rintro e C ⟨rfl,rfl⟩)
  |(refine⟨trivial,?_⟩;gi_at_call 208;refine(hT _ _).mono ?_;rintro e C ⟨rfl,rfl⟩))
 refine' wpIn_rangeFunc_ownF rfl zd (gf:=235) (lb:=#[Xp (w+1)]) rfl trivial (enters_of func235 zk rfl) (Gw _ w.heap.size d (w.heap.size+1) _ zs (by simp[go_sem])) belowK_t (belowK_b zp) zB (fun _=>rfl)
  (fun pre W=>(Xc W w 0 (if pre= []then .pointer none else Xp d)∧W.frozen? (Xa w 0)=false)∧Below w w W) (fun _ _ _=>False)
  (OwnFrom.and (Own.from (fun s A B row k I hr=>⟨Go.cell_kept k.1 I hr,(Go.frozen_kept k.1 I hr).trans k.2⟩) _) (ownFrom_below zl zp)) (fun _ _ _ _ _ k _ _=>k)
  ⟨⟨by simp[go_sem],by simp[go_sem]⟩,(zB.alloc zl _).alloc zs _⟩ _ ?assign ?body ?done ?stop
 case assign=>
  intro l x W K E;gi_wp2
  exact E
 case body=>
  rintro l pre x W ⟨⟨t,J⟩,u⟩ hl;obtain rfl:pre= []:=List.length_eq_zero_iff.1 zo;simp only[if_true]at t;obtain⟨K,R,S,v,g,y,T,L,i⟩:=nY d W;have U:=fun args w=>Go.MuLone.run_callFunc_enter v g y args w;have V:∀m,CallsIn (Fence.wide.inRound l) m Tryz.prog K #[Xp d] W fun e f=>e= .returned (Xi 146 d)∧W=f:=fun m=>CallsIn.inRound l (callsIn_wide.2 i);have X:∀m,CallsIn (Fence.wide.inRound l) m Tryz.prog 209 #[Xi 146 d] W fun e f=>e= .returned (.bool false)∧W=f:=fun m=>CallsIn.inRound l (callsIn_wide.2 (Gr d W));have ax:∀W,(Instr.typeAssert (Xi 146 d) 49 146 true).run Tryz.prog W= .ok (.tuple #[Xp d,.bool true]) W:=fun W=>by rw[asSlice,if_pos rfl]
  have Y:∀W:World,(binOp .eql 49 (Xi 146 d) .nilIface).run Tryz.prog W= .ok (.bool false) W:=fun W=>by kernel_rfl
  clear v g y i
  gi_wp2_with (first
   |(refine⟨trivial,?_⟩;gi_at_call 209;refine(X _).mono ?_;rintro e C ⟨rfl,rfl⟩)
   |(refine⟨trivial,?_⟩;refine(V _).mono ?_;rintro e C ⟨rfl,rfl⟩))
  exact⟨KeepsOthers.setCell _ _ _,(Below.refl w.heap.size W).setCell (p:=(Xa w 0)) zl _,⟨World.cell?_setCell_same' _ _ _ (by rw[t];rfl),by rw[World.frozen?_setCell];exact J⟩,u.setCell (p:=(Xa w 0)) zl _⟩
 case done=>
  rintro D ys W M rfl ⟨⟨t,J⟩,u⟩ E;have Z:Xc W w 0 (Xp d):=t;clear t;have G:D<W.heap.size:=(Array.getElem?_eq_some_iff.1 E).1;gi_wp2
  have z:=(Below.heap_alloc W (.cells #[.pointer r,.pointer none,Xp pb,.pointer q,.bool true] 112) D G).trans E;refine⟨by simp,.inl ⟨_,_,rfl,run_takeDeferred z,?_⟩⟩;refine⟨_,results_tmp rfl _ _ _,W.heap.size,rfl,u.size,?_,?_⟩
  ·rw[World.putObj_heap_other zo];exact(MapKept.heap_alloc W _).1
  ·exact(u.alloc u.size _).trans (belowK_b (w:=w) zl _ D _ _ (by simp at M;omega) z rfl rfl)
 case stop=>
  rintro D c pre W M _ h _;exact h.elim
end Go.Proofs.YtkochlhejabdcaaGreatDoor
