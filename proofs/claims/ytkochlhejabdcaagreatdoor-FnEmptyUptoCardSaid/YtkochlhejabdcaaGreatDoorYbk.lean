import Derived.Lib.Bytealg
import Derived.Test.YtkochlhejabdcaaGreatDoorYbj
set_option maxRecDepth 100000
set_option maxHeartbeats 8000000
set_option linter.all false
namespace TS
open Go Go.RowKit Go.Proofs.YtkochlhejabdcaaGreatDoor Go.Proofs.Tryz
structure oJ(B e a c pm d:Nat):Prop where
 b:B≤a
 sa:a<c
 ap:c<pm
 pm:pm<d
 m2:d<e
def Cx(a c pm:Nat)(m:Option Nat)(v:Value)(b:Nat):Prop:=b=a∨b=c∨b=pm∨m=some b∨v.ownBlock=some b
structure en(p:Pm)(g:Ge)(B c:Nat)(d a pm e:Nat)(w:World)(m:Option Nat)(v:Value)(M:List U)(fs:List Nat):Prop where
 os:∃F,gQ w d m F∧(∀s:ByteArray,F (.string s)=none↔∀x∈M,x.nm≠s)∧∀k x,F k=some x→∃t y,x= .iface t y
 mB:∀b,m=some b→c≤b∧b<w.heap.size
 ac:Xc w a 0 v
 af:w.frozen? (Xa a 0)=false
 row:w.ownsRow c 113 1 v fs.length (fs.map pv)
 mp:Xc w e 0 (.map (some pm))
 mf:∃F,cr (dV B) w pm F
 len:fs.length=M.length
 cJ:∀i(h:i<M.length)(f:i<fs.length),dq p g M[i] fs[i]
 dk:∀b,Cx d a pm m v b→∀o,p b o=none
theorem bytes_inj{a b:ByteArray}(h:a.toList=b.toList):a=b:=by
 rw[Lib.toList_data,Lib.toList_data]at h;exact ByteArray.ext (Array.ext' h)
theorem en.lt{p:Pm}{g:Ge}{B d a c pm f:Nat}{w:World}{m:Option Nat}{v:Value}{M:List U}{fs:List Nat}(h:en p g B d a c pm f w m v M fs)(b:Nat)(i:Cx a c pm m v b):b<w.heap.size:=by
 rcases i with rfl|rfl|rfl|e|e
 ·obtain⟨F,hO,_⟩:=h.os
  exact zb hO.1
 ·exact zb h.ac
 ·obtain⟨F,hF⟩:=h.mf;exact hF.lt
 ·exact(h.mB _ e).2
 ·exact(h.row.lt _ e).2
theorem en.of{p q:Pm}{g A:Ge}{B C r j pm f:Nat}{w s:World}{m:Option Nat}{v:Value}{M:List U}{fs:List Nat}(h:en p g B C r j pm f w m v M fs){Y:Nat→Prop}(k:Kept Y w s)(l:∀b,Y b→¬Cx r j pm m v b∧b≠f∧B≤b)(D:aN p q w)(u:aK g A):
 en q A B C r j pm f s m v M fs:=by
 have t:∀b,Cx r j pm m v b→s.heap[b]?=w.heap[b]?:=fun b n=>k.block b (h.lt b n) fun d=>(l b d).1 n;have x:s.heap[f]?=w.heap[f]?:=k.block f (zb h.mp) fun d=>(l f d).2.1 rfl;refine⟨?_,fun b e=>⟨(h.mB b e).1,Nat.lt_of_lt_of_le (h.mB b e).2 k.size⟩,?_,?_,?_,?_,?_,h.len,fun i hi y=>(h.cJ i hi y).sub D.le u,fun b n o=>D.aF (h.lt b n) (h.dk b n) o⟩
 ·obtain⟨F,hO,hF,z⟩:=h.os
  exact⟨F,hO.of (t _ (.inl rfl)) fun b e=>t _ (.inr (.inr (.inr (.inl e)))),hF,z⟩
 ·exact(World.cell?_of_block (w:=w) (a:=(Xa j 0)) (t _ (.inr (.inl rfl)))).trans h.ac
 ·exact(World.frozen?_of_block (w:=w) (a:=(Xa j 0)) (t _ (.inr (.inl rfl)))).trans h.af
 ·exact dY h.row k fun b e d=>(l b d).1 (.inr (.inr (.inr (.inr e))))
 ·exact(World.cell?_of_block (w:=w) (a:=(Xa f 0)) x).trans h.mp
 ·obtain⟨F,hF⟩:=h.mf
  exact⟨F,hF.kA k (fun d=>(l pm d).1 (.inr (.inr (.inl rfl)))) fun c E d=>by have:=(l c d).2.2;omega⟩
end TS
namespace Go.Proofs.YtkochlhejabdcaaGreatDoor
open Go.RowKit TS Go.ChangeMaps Tryz
theorem DP(B:Nat):KeyLaw Tryz.prog 113 (dV B):=by
 obtain⟨e,i,j,a,hi,b,c,d⟩:=eX (t:=113) underlying113 zk zk;exact(uN a c d).mono fun _ _=>vU
theorem DQ(t:TypeId)(v:Value)(w:World):(binOp .eql 228 (.iface t v) .nilIface).run Tryz.prog w= .ok (.bool false) w:=zk
theorem DS(w:World):(binOp .eql 228 .nilIface .nilIface).run Tryz.prog w= .ok (.bool true) w:=zk
theorem DT(p:Pm)(g:Ge)(B r h i pm j f:Nat)(m:Option Nat)(v:Value)(M:List U)(fs:List Nat)(x:U)(pos:Int)(ex:Bool)(w:World)(d:aA p g w)(l:en p g B r h i pm j w m v M fs)(s:dq p g x f)(o:aR x.nm=true)(hM:M.any (fun y=>cH y x)=true):
 Xk 146 #[.int .i64 pos,Xp f,.bool ex,Xp h,Xp i,Xp j] w fun e q=>
  e= .returned (.tuple #[])∧∃n,q=w.drewN n:=by
 obtain⟨F,hO,hF,a⟩:=l.os;obtain⟨D,⟨E,f1⟩,f2,f3,f4⟩:=s;have b:F (.string x.nm)≠none:=fun e=>by
  obtain⟨y,u,A⟩:=List.any_eq_true.1 hM;exact(hF x.nm).1 e y u (bytes_inj (gV.1 A))
 obtain⟨z,c⟩:=Option.ne_none_iff_exists'.1 b;obtain⟨t,y,rfl⟩:=a _ _ c;have hm:∃k,m=some k:=by
  cases m with
  |none=>have:=hO.2.2.1 rfl;rw[this]at c;cases c
  |some k=>exact⟨k,rfl⟩
 obtain⟨k,rfl⟩:=hm;have C:=zh (B7 113 uS h k f _ x.nm o F t y w d.cap hO (d.kw _ _ _ f1) (d.kw _ _ _ f2) c);have G:=DQ t y;clear hO d l hF a f1 f2 f3 f4 o hM b c;cases ex
 all_goals
  go_enter func146,ntmps146;go_wp2_with fail
  refine C.out.mono ?_;rintro e q ⟨rfl,n,rfl⟩;go_wp2_with fail
  go_end0
  exact⟨rfl,_,rfl⟩
theorem DU(T:TypeId)(n:ll T)(d f:Nat)(m:Option Nat)(q:Option Addr)(s:ByteArray)(o:aR s=true)(F:Value→Option Value)(w:World)(hT:bU w)(hO:gQ w d m F)(j:∀b,m=some b→b≠d)
 (h1:Xc w f 1 (.pointer q))(p:Xc w f 2 (.string s))(hF:F (.string s)=none):
 Xk 147 #[Xp d,Xi T f] w fun e g=>e= .returned .nilIface∧
  ∃i,gQ g d i (bH F (.string s) (Xi T f))∧(i=m∨∃b,i=some b∧w.heap.size≤b)∧(∀b,i=some b→b<g.heap.size)∧Kept (fun k=>k=d∨m=some k) w g:=by
 cases m with
 |none=>
  refine(uU T n d f q s o F w hT hO h1 p).mono ?_;rintro e g ⟨rfl,b,a,r,l⟩;exact⟨rfl,some b,a,.inr ⟨b,rfl,r⟩,fun c e=>by cases e;exact(a.2.2.2 _ rfl).lt,l.mono fun k _ h=> .inl h⟩
 |some b=>
  refine(uT T n d b f q s o F w hT hO (j b rfl) h1 p hF).mono ?_;rintro e g ⟨rfl,a,l⟩;exact⟨rfl,some b,a,.inl rfl,fun c e=>by cases e;exact(a.2.2.2 _ rfl).lt,l.mono fun k _ h=> .inr (by rw[h])⟩
def DV(p:Pm)(g:Ge)(B d b c pm h:Nat)(m:Option Nat)(v:Value)(M:List U)(fs:List Nat)(f:Nat)(x:U)(w:World)(e:Ending)(a:World):Prop:=
 e= .returned (.tuple #[])∧∃i j,en p g B d b c pm h a i j (M++ [x]) (fs++ [f])∧aA p g a∧Kept (Cx b c pm m v) w a
theorem DX(p:Pm)(g:Ge)(B O G j pm n f:Nat)(m:Option Nat)(v:Value)(M:List U)(fs:List Nat)(x:U)(pos:Int)(ex:Bool)(w:World)(hG:oJ B O G j pm n)(Qh:O≤w.heap.size)(Qi:5<B)(hE:aA p g w)(hC:en p g B O G j pm n w m v M fs)(hf:dq p g x f)(P1:f<B)(hn:aR x.nm=true)(hM:M.any (fun y=>cH y x)=false)(hl:fs.length≤1048576):
 Xk 146 #[.int .i64 pos,Xp f,.bool ex,Xp G,Xp j,Xp n] w (DV p g B O G j pm n m v M fs f x w):=by
 obtain⟨F,hO,hF,PJ⟩:=hC.os;obtain⟨g1,g2,g3,g4,g5⟩:=hG;have P2:=zh hf;obtain⟨fb,⟨fq,f1⟩,f2,f3,f4⟩:=hf;have PK:F (.string x.nm)=none:=(hF x.nm).2 fun y H e=>by
  rw[List.any_eq_false]at hM;exact hM y H (gV.2 (by rw[e]))
 have hI:=zh (DU 113 uS G f m _ x.nm hn F w hE.cap hO (fun b e=>by have:=(hC.mB b e).1;omega) (hE.kw _ _ _ f1) (hE.kw _ _ _ f2) PK);obtain⟨Fm,N⟩:=hC.mf;have d:=zh hC;have Y:=zh hE;have P3:=zh hF;have PL:=zh PJ;have P4:Hid (Plain w f):=hE.pl _ _ _ f1;obtain⟨i1,hj,P5,P6,P7⟩:=info_parts uG;obtain⟨A,C,rfl⟩:=a_ hC.row;clear hO hE hC hF PJ f1 f2 f3 f4 hn hM PK N;have hq:=DS;go_enter func146,ntmps146;go_wp2_with fail
 refine hI.out.mono ?_;rintro e r ⟨rfl,m',PM,PN,P,D⟩;have I:∀k,(k=G∨m=some k)→B≤k∧k≠j∧k≠pm∧k≠n∧(Value.slice A fs.length C).ownBlock≠some k:=fun k hk=>by
  rcases hk with rfl|e
  ·exact⟨g1,by omega,by omega,by omega,fun e=>by have:=(d.out.row.lt _ e).1;omega⟩
  ·have h1:=(d.out.mB _ e).1
   refine⟨by omega,by omega,by omega,by omega,fun e2=> ?_⟩;obtain⟨F0,P8,_⟩:=d.out.os;obtain⟨es,cl,L,_⟩:=P8.2.2.2 _ e;rcases d.out.row.2 with⟨e3,_⟩|⟨gb,cap,cur,e3,_,PO,_⟩
   ·rw[e3]at e2;cases e2
   ·rw[e3]at e2;cases e2;rw[L]at PO;cases PO
 have Z:=zh (dY d.out.row D fun b e hx=>(I b hx).2.2.2.2 e);have c1:Xc r j 0 (.slice A fs.length C):=by rw[D.cell (zb d.out.ac) fun h=>(I j h).2.1 rfl];exact d.out.ac
 have c2:r.frozen? (Xa j 0)=false:=by rw[D.frozen (zb d.out.ac) fun h=>(I j h).2.1 rfl];exact d.out.af
 have P9:=D.size;have PG:=zh (Z.out.alloc (.cells #[Xp f] 113));have Q:=zh PM;have PQ:=zh PN;have PH:=zh P;have J:=zh D;have q:=zh I;clear PM PN D I hI P;go_wp2_with (first|(at_builtin;refine wpList_append_own_at _ rfl _ _ 115 rfl O 113 i1 (.pointer none) 1 8 underlying115 hj P5 P6 P7 rfl zd _ _ _ rfl PG.out (Xa r 0) 1 1 [Xp f] rfl rfl (TS.eD r _ _) (TS.one_one rfl) ?c3 ?c4 ?c5 ?_)|fail)
 case c3=>unfold maxLen;omega
 case c4=>omega
 case c5=>(try simp);omega
 intro v' z t E _ P_;obtain⟨a3,c3,rfl⟩:=a_ t;have R:=zh E;have PR:Hid (Kept (Cx G j pm m (.slice A fs.length C)) w z):=by
  have h1:Kept (Cx G j pm m (.slice A fs.length C)) w r:=J.out.mono fun b _ h=>h.elim .inl fun h=> .inr (.inr (.inr (.inl h)));exact(h1.alloc _).grown E fun k hk _=> .inr (.inr (.inr (.inr hk)))
 have Qa:j<r.heap.size:=zb c1;have l:∀b,(Value.slice A fs.length C).ownBlock=some b→O≤b:=fun b e=>(d.out.row.lt b e).1;have PI:z.heap[j]?=r.heap[j]?:=(E.block j zp fun e=>by have:=l j e.symm;omega).trans (Below.heap_alloc _ _ _ Qa);have d1:Xc z j 0 (.slice A fs.length C):=(World.cell?_of_block (w:=r) (a:=(Xa j 0)) PI).trans c1;have d2:z.frozen? (Xa j 0)=false:=(World.frozen?_of_block (w:=r) (a:=(Xa j 0)) PI).trans c2;have S:r.heap[n]?=w.heap[n]?:=J.out.block n (zb d.out.mp) fun h=>(q.out n h).2.2.2.1 rfl;have PS:n<r.heap.size:=Nat.lt_of_lt_of_le (zb d.out.mp) P9;have V:z.heap[n]?=r.heap[n]?:=(E.block n zp fun e=>by have:=l n e.symm;omega).trans (Below.heap_alloc _ _ _ PS);have d3:Xc z n 0 (.map (some pm)):=(World.cell?_of_block (w:=w) (a:=(Xa n 0)) (V.trans S)).trans d.out.mp;obtain⟨Fm,N⟩:=d.out.mf;have PT:¬(Value.slice A fs.length C).ownBlock=some pm:=fun e=>by
  have:=l pm e;omega
 have Qb:Hid (cr (dV B) (z.setCell (Xa j 0) (.slice a3 (fs.length+1) c3)) pm Fm):=by
  have k1:Kept (fun k=>(k=G∨m=some k)∨(Value.slice A fs.length C).ownBlock=some k) w z:=((J.out.mono fun b _ h=> .inl h).alloc _).grown E fun k hk _=> .inr hk;have k2:Kept (fun k=>((k=G∨m=some k)∨(Value.slice A fs.length C).ownBlock=some k)∨k=j) w (z.setCell (Xa j 0) (.slice a3 (fs.length+1) c3)):=(k1.mono fun b _ h=> .inl h).setCell (fun _=> .inr rfl) _;refine N.kA k2 (fun h=> ?_) fun c hc h=> ?_
  ·rcases h with(h|h)|h
   ·exact(q.out pm h).2.2.1 rfl
   ·exact PT h
   ·omega
  ·rcases h with(h|h)|h
   ·have:=(q.out c h).1;omega
   ·have:=l c h;omega
   ·omega
 have PU:Hid (dV B (z.setCell (Xa j 0) (.slice a3 (fs.length+1) c3)) (Xp f)):=by
  refine⟨f,rfl,P1,?_⟩;obtain⟨cs,T,L⟩:=P4.out;have Qc:=(Array.getElem?_eq_some_iff.1 L).1;refine⟨cs,T,?_⟩;rw[Below.heap_setCell _ _ _ _ (by simp only;omega),PR.out.block f Qc fun h=> ?_]
  ·exact L
  ·rcases h with h|h|h|h|h
   ·omega
   ·omega
   ·omega
   ·have:=(q.out f (.inr h)).1;omega
   ·have:=l f h;omega
 clear N PI S V E c1 c2;go_wp2_with (first|(at_mapUpdate;refine eF _ rfl _ _ _ 226 rfl (DP B) (vV B) 69 underlying226 pm Fm rfl Qb.out (Xp f) (.int .i64 pos) rfl rfl PU.out ?_;intro w4 Qd u)|fail)
 go_end0
 have PW:Kept (Cx G j pm m (.slice A fs.length C)) w w4:=(PR.out.setCell (fun _=> .inr (.inl rfl)) _).grown u fun k hk _=>by cases hk;exact .inr (.inr (.inl rfl))
 have K:=R.out.size;have Qe:=u.size;simp only[World.setCell,Array.size_modify]at Qe;have hblk:∀b,b<r.heap.size→b≠j→b≠pm→(Value.slice A fs.length C).ownBlock≠some b→w4.heap[b]?=r.heap[b]?:=fun b L h1 h2 h3=>by
  rw[u.block b (by simp[World.setCell];simp at K;omega) fun e=>h2 (Option.some.inj e),Below.heap_setCell _ _ _ _ (by simp only;exact h1),
   R.out.block b zp fun e=>h3 e.symm,Below.heap_alloc _ _ _ L]
 have W:∀b,m'=some b→b<r.heap.size∧O≤b∧b≠j∧b≠pm∧(Value.slice A fs.length C).ownBlock≠some b:=fun b e=>by
  have h0:=PH.out b e;rcases PQ.out with rfl|⟨b',e',PX⟩
  ·have:=q.out b (.inr e)
   exact⟨h0,(d.out.mB b e).1,this.2.1,this.2.2.1,this.2.2.2.2⟩
  ·rw[e']at e;cases e
   exact⟨h0,by omega,by omega,by omega,fun e=>by have:=(d.out.row.lt _ e).2;omega⟩
 have PY:∀b,(Value.slice a3 (fs.length+1) c3).ownBlock=some b→((Value.slice A fs.length C).ownBlock=some b∨w.heap.size≤b):=fun b e=>by
  rcases P_ with h|h
  ·exact .inl (h▸e)
  ·rw[h]at e;have:=Option.some.inj e;exact .inr (by first|omega|(simp at this;omega))
 have Qf:aA p g w4:=Y.out.own PW (fun b L=>d.out.dk b L) fun h=>by
  rcases h with h|h|h|h|h
  ·omega
  ·omega
  ·omega
  ·have:=(d.out.mB _ h).1;omega
  ·have:=l _ h;omega
 refine⟨rfl,m',.slice a3 (fs.length+1) c3,⟨⟨_,Q.out.of (hblk G ?_ zo zo fun e=> ?_) fun b e=> ?_,fun s=> ?_,fun k y hk=> ?_⟩,fun b e=> ?_,?_,?_,?_,?_,?_,?_,?_,?_⟩,Qf,PW⟩
 ·exact zb Q.out.1
 ·have:=l _ e;omega
 ·obtain⟨h1,h2,h3,h4,h5⟩:=W b e
  exact hblk b h1 h3 h4 h5
 ·by_cases hs:s=x.nm
  ·subst hs
   rw[b_];simp
  ·rw[bj F (fun h=>hs (by cases h;rfl)),P3.out s]
   refine⟨fun h y H=> ?_,fun h y H=>h y (List.mem_append_left _ H)⟩;rcases List.mem_append.1 H with H|H
   ·exact h y H
   ·rw[List.mem_singleton.1 H];exact fun e=>hs e.symm
 ·by_cases PZ:k= .string x.nm
  ·subst PZ;rw[b_]at hk;cases hk;exact⟨_,_,rfl⟩
  ·rw[bj F PZ]at hk;exact PL.out k y hk
 ·obtain⟨h1,h2,_⟩:=W b e
  have:r.heap.size≤w4.heap.size:=by simp at K;omega
  exact⟨h2,by omega⟩
 ·have h1:w4.heap[j]?=(z.setCell (Xa j 0) (.slice a3 (fs.length+1) c3)).heap[j]?:=u.block j (by simp[World.setCell];simp at K;omega) fun e=>by have:=Option.some.inj e;omega
  rw[World.cell?_of_block (a:=(Xa j 0)) h1];exact World.cell?_setCell_same _ _ _ d1
 ·have h1:w4.heap[j]?=(z.setCell (Xa j 0) (.slice a3 (fs.length+1) c3)).heap[j]?:=u.block j (by simp[World.setCell];simp at K;omega) fun e=>by have:=Option.some.inj e;omega
  rw[World.frozen?_of_block (a:=(Xa j 0)) h1,World.frozen?_setCell];exact d2
 ·have h1:z.ownsRow O 113 1 (.slice a3 (fs.length+1) c3) (fs++ [f]).length ((fs++ [f]).map pv):=by simpa using t
  refine dY (X:=fun k=>k=j∨k=pm) h1 (((Kept.refl _ _).setCell (fun _=> .inl rfl) _).grown u fun k hk _=> .inr (by cases hk;rfl)) fun b e h=> ?_;have:=(t.lt b e).1;omega
 ·have h1:w4.heap[n]?=(z.setCell (Xa j 0) (.slice a3 (fs.length+1) c3)).heap[n]?:=u.block n (by simp[World.setCell];simp at K;omega) fun e=>by have:=Option.some.inj e;omega
  rw[World.cell?_of_block (a:=(Xa n 0)) h1,World.cell?_setCell_other _ _ _ _ (fun e=>by have:=congrArg Addr.block e;simp only at this;omega)];exact d3
 ·exact⟨_,Qd _ (fun y H=>bj Fm H) (b_ _ _ _)⟩
 ·simp[d.out.len]
 ·intro i hi Qg
  have hl:=d.out.len;simp only[List.length_append,List.length_cons,List.length_nil]at hi Qg;by_cases P0:i<M.length
  ·rw[List.getElem_append_left P0,List.getElem_append_left zo];exact d.out.cJ i P0 zo
  ·have e1:i=M.length:=zo
   subst e1;simp[←hl];simpa [hl]using P2.out
 ·intro b L o
  rcases L with h|h|h|h|h
  ·exact d.out.dk b (.inl h) o
  ·exact d.out.dk b (.inr (.inl h)) o
  ·exact d.out.dk b (.inr (.inr (.inl h))) o
  ·rcases PQ.out with e|⟨b',e',PX⟩
   ·exact d.out.dk b (.inr (.inr (.inr (.inl (e▸h))))) o
   ·rw[e']at h;cases h;exact Y.out.kw.aF PX o
  ·rcases PY b h with h|h
   ·exact d.out.dk b (.inr (.inr (.inr (.inr h)))) o
   ·exact Y.out.kw.aF h o
theorem vZ(p:Pm)(g:Ge)(B d a c pm i f:Nat)(m:Option Nat)(v:Value)(M:List U)(fs:List Nat)(x:U)(pos:Int)(ex:Bool)(w:World)(G:oJ B d a c pm i)(o:d≤w.heap.size)(q:5<B)(r:aA p g w)(s:en p g B d a c pm i w m v M fs)(E:dq p g x f)(t:f<B)(F:aR x.nm=true)(H:fs.length≤1048576):
 Xk 146 #[.int .i64 pos,Xp f,.bool ex,Xp a,Xp c,Xp i] w fun e j=>
  e= .returned (.tuple #[])∧∃u z k,en p g B d a c pm i j u z (bI M x) k∧(∀y∈k,y∈fs∨y=f)∧aA p g j∧Kept (Cx a c pm m v) w j:=by
 unfold bI;cases hM:M.any fun y=>cH y x
 ·refine(DX p g B d a c pm i f m v M fs x pos ex w G o q r s E t F hM H).mono ?_
  rintro e j ⟨rfl,u,z,A,C,l⟩;exact⟨rfl,u,z,_,A,fun y D=>by simpa using D,C,l⟩
 ·refine(DT p g B d a c pm i f m v M fs x pos ex w r s E F hM).mono ?_
  rintro e j ⟨rfl,n,rfl⟩;have l:Kept (fun _=>False) w (w.drewN n):=⟨rfl,rfl,rfl,Nat.le_refl _,fun _ _ _=>rfl⟩
  exact⟨rfl,m,v,fs,s.of l (fun b h=>h.elim) (aN.refl _ _) (aK.refl g),fun y D=> .inl D,r.dD (aB.drewN w n),l.mono fun b _ h=>h.elim⟩
end Go.Proofs.YtkochlhejabdcaaGreatDoor
namespace Go.Proofs.YtkochlhejabdcaaGreatDoor
open Go.RowKit TS Tryz
theorem DY(a b:ByteArray)(w:World):Xk 261 #[.string a,.string b] w fun e c=>e= .returned (.int .i64 (Lib.compareBytes a.data.toList b.data.toList))∧c=w:=by
 go_enter func261,ntmps261;go_wp2
 rw[run_callFunc_extern func265 zk zk zk (e:=Extern.BytealgCompare.compare) zk,Lib.run_compareString];simp only[Result.andThen];rw[Oper.upon_value];go_wp2
 go_ret;exact⟨rfl,rfl⟩
theorem DZ(a b:ByteArray)(w:World):Xk 255 #[.string a,.string b] w fun e c=>e= .returned (.int .i64 (Lib.compareBytes a.data.toList b.data.toList))∧w=c:=by
 go_enter func255,ntmps255;go_wp2_with fail
 refine(DY a b _).mono ?_;rintro e c ⟨rfl,rfl⟩;go_wp2_with fail
 go_ret;exact⟨rfl,rfl⟩
theorem rk:∀l:List UInt8,Lib.compareBytes l l=0
 | []=>rfl
 |a::r=>by simp[Lib.compareBytes,UInt8.lt_irrefl,rk r]
theorem v_:∀a b:List UInt8,decide (Lib.compareBytes a b<0)=Go.Op.bytesLess a b
 | [],[]=>rfl
 | [],_::_=>rfl
 |_::_,[]=>rfl
 |a::x,b::y=>by
  have ih:=v_ x y;unfold Lib.compareBytes Go.Op.bytesLess;by_cases h:a<b
  ·simp[h]
  ·by_cases c:b<a
   ·have d:a≠b:=fun e=>by subst e;exact h c
    simp[h,c,d]
   ·have e:a=b:=UInt8.le_antisymm (UInt8.not_lt.1 c) (UInt8.not_lt.1 h)
    subst e;simp[h,ih]
theorem D2:cf 264:=eX underlying264 zk zk
theorem D3(f c:Nat)(s a:ByteArray)(w:World)(hT:bU w)(j:aR s=true)(b:aR a=true)(l:Plain w f)(d:Plain w c)(h:Xc w f 2 (.string s))(m:Xc w c 2 (.string a)):
 Xk 227 #[Xp f,Xp c] w fun e g=>e= .returned (.int .i64 (Lib.compareBytes s.data.toList a.data.toList))∧∃n,g=w.drewN n:=by
 have k:=lq D2 w f c l d;by_cases e:f=c
 ·subst e
  rw[h]at m;cases m;simp only[decide_true]at k;rw[rk];clear h j b hT;go_enter func227,ntmps227;go_wp2_with fail
  go_ret;exact⟨rfl,0,rfl⟩
 ·have p:(binOp .eql 264 (Xp f) (Xp c)).run Tryz.prog w= .ok (.bool false) w:=by rw[k];simp[e]
  have o:=zh (nZ s j w hT);have i:=zh (nZ a b w hT);clear k j b hT e l d;cases q:(s.toList==a.toList)
  ·have r:=zh fun W=>DZ s a W
   go_enter func227,ntmps227;go_wp2_with fail
   refine o.out.mono ?_;rintro e g ⟨rfl,rfl⟩;go_wp2_with fail
   refine i.out.mono ?_;rintro e g ⟨rfl,rfl⟩;go_wp2_with fail
   go_quiet (fail)
   go_wp2_with fail
   go_quiet (first|(go_at_call 255;exact(r.out _).mono fun e t h=>⟨h.1,_,h.2.symm⟩))
   go_wp2_with fail
   go_ret;exact⟨rfl,_,World.drewN_drewN ..⟩
  ·have e:s=a:=bytes_inj (eq_of_beq q)
   subst e;rw[rk];go_enter func227,ntmps227;go_wp2_with fail
   refine o.out.mono ?_;rintro e g ⟨rfl,rfl⟩;go_wp2_with fail
   refine i.out.mono ?_;rintro e g ⟨rfl,rfl⟩;go_wp2_with fail
   go_quiet (fail)
   go_wp2_with fail
   go_ret;exact⟨rfl,_,rfl⟩
theorem D4(f c:Nat)(s d:ByteArray)(w:World)(hT:bU w)(g:aR s=true)(a:aR d=true)(i:Plain w f)(b:Plain w c)(h:Xc w f 2 (.string s))(j:Xc w c 2 (.string d)):
 Xk 197 #[Xp f,Xp c] w fun e k=>e= .returned (.int .i64 (Lib.compareBytes s.data.toList d.data.toList))∧∃n,k=w.drewN n:=by
 have l:=zh fun n=>D3 f c s d (w.drewN n) (hT.drewN n) g a i b (by simpa using h) (by simpa using j);clear hT g a i b;go_enter func197,ntmps197;go_wp2_with fail
 go_quiet (first|(go_at_call 227;exact Calls.quiet_of (l.out _)))
 go_wp2_with fail
 go_ret;exact⟨rfl,_,rfl⟩
end Go.Proofs.YtkochlhejabdcaaGreatDoor
namespace TS
open Go Go.RowKit Go.Proofs.YtkochlhejabdcaaGreatDoor Go.Proofs.Tryz
structure WB(p:Pm)(w:World):Prop where
 kw:KW p w
 pl:∀b o v,p b o=some v→Plain w b
 cap:bU w
theorem aA.wb{p:Pm}{g:Ge}{w:World}(h:aA p g w):WB p w:=⟨h.kw,h.pl,h.cap⟩
theorem WB.own{p:Pm}{w e:World}{X:Nat→Prop}(h:WB p w)(k:Kept X w e)(f:∀b,X b→∀o,p b o=none)(i:¬X 5):WB p e where
 kw:=h.kw.kept k fun b o v a d=>by rw[f b d o]at a;cases a
 pl:=fun b o v a=>by
  obtain⟨cs,T,g⟩:=h.pl b o v a;exact⟨cs,T,by rw[k.block b (Array.getElem?_eq_some_iff.1 g).1 fun d=>by rw[f b d o]at a;cases a];exact g⟩
 cap:=fun c h1 j=>by
  have:=h.cap c h1 j;rw[k.cell (zb this) i];exact this
theorem WB.below{p:Pm}{w a:World}(h:WB p w)(k:Below w w a):WB p a:=⟨h.kw.grown k,fun b o v c=>(h.pl b o v c).below k,h.cap.below k⟩
structure lC(p:Pm)(g:Ge) where
 m:U
 f:Nat
 fa:dq p g m f
 nb:aR m.nm=true
def ik{p:Pm}{g:Ge}(x:lC p g):Value:=ptr x.f
def mT{p:Pm}{g:Ge}(x y:lC p g):Int:=Lib.compareBytes x.m.nm.data.toList y.m.nm.data.toList
theorem wa{p:Pm}{g:Ge}:∀{M:List U}{fs:List Nat},fs.length=M.length→(∀i(h:i<M.length)(j:i<fs.length),dq p g M[i] fs[i])→(∀x∈M,aR x.nm=true)→∃L:List (lC p g),L.map (fun x=>x.m)=M∧L.map (fun x=>x.f)=fs
 | [],[],_,_,_=>⟨[],rfl,rfl⟩
 | [],_::_,h,_,_=>by simp at h
 |_::_,[],h,_,_=>by simp at h
 |m::M,f::fs,h,a,b=>by
  obtain⟨L,h1,c⟩:=wa (M:=M) (fs:=fs) (by simpa using h) (fun i hi d=>by have:=a (i+1) zp zp;simpa using this) fun x e=>b x (List.mem_cons_of_mem _ e);exact⟨⟨m,f,by have:=a 0 zs zs;simpa using this,b m List.mem_cons_self⟩::L,by simp[h1],by simp[c]⟩
theorem oM{p:Pm}{g:Ge}(x y:lC p g):Go.Proofs.ltOf mT x y=bF x.m y.m:=by
 unfold Go.Proofs.ltOf mT bF;rw[v_,←Lib.toList_data,←Lib.toList_data]
theorem D5{p:Pm}{g:Ge}:Go.Sort.SWO (Go.Proofs.ltOf (mT (p:=p) (g:=g))) where
 irrefl x:=by rw[oM];exact jo _
 trans x y z h k:=by rw[oM]at*;exact iA h k
 ntrans x y z h k:=by
  rw[oM]at*;cases a:bF x.m z.m
  ·rfl
  ·cases b:bF y.m x.m
   ·have e:=gV.1 (kO h b)
    unfold bF at*;rw[e,k]at a;cases a
   ·have:=iA b a;rw[this]at k;cases k
theorem we{α:Type} [Inhabited α]{enc:α→Value}{k n:Nat}{d:Array α}{os:Array Obj}{w:World}:Kept (fun b=>b=k) w (Go.Proofs.sortWorld enc w k 0 n d os):=by
 refine⟨rfl,rfl,rfl,?_,fun b a c=> ?_⟩
 ·unfold Go.Proofs.sortWorld
  rw[Go.Sort.size_grow];unfold Go.Sort.putRow Go.Sort.mapBlock Go.Sort.ahead;simp
 ·unfold Go.Proofs.sortWorld
  rw[Go.Sort.heap_grow_old _ _ (by unfold Go.Sort.putRow Go.Sort.mapBlock Go.Sort.ahead;simpa using a)];unfold Go.Sort.putRow Go.Sort.mapBlock Go.Sort.ahead;rw[Array.getElem?_modify,if_neg zo]
theorem D6{α:Type} [Inhabited α]{enc:α→Value}{g n c:Nat}{d d':Array α}{os:Array Obj}{w:World}{B:Nat}{e:TypeId}(h:w.ownsRow B e 1 (.slice (Xa g 0) d.size c) d.size (d.toList.map enc))(f:d'.size=d.size)(p:0<d.size):
 (Go.Proofs.sortWorld enc w g 0 n d' os).ownsRow B e 1 (.slice (Xa g 0) d.size c) d.size (d'.toList.map enc):=by
 refine⟨by simp[f],.inr ?_⟩;rcases h.2 with⟨h1,_⟩|⟨q,cap,cur,h1,j,b,k,l,m,h7⟩
 ·cases h1
 ·cases h1
  have o:g<w.heap.size:=(Array.getElem?_eq_some_iff.1 b).1;refine⟨g,c,Go.Sort.putCells enc 0 d' cur,rfl,j,?_,k,l,?_,?_⟩
  ·unfold Go.Proofs.sortWorld
   rw[Go.Sort.heap_grow_old _ _ (by unfold Go.Sort.putRow Go.Sort.mapBlock Go.Sort.ahead;simpa using o)];unfold Go.Sort.putRow Go.Sort.mapBlock Go.Sort.ahead;rw[Array.getElem?_modify,if_pos rfl,b];rfl
  ·simpa [Go.Sort.putCells]using m
  ·refine List.ext_getElem? fun i=> ?_
   rw[List.getElem?_take];split
   ·rename_i hi
    simp only[Go.Sort.putCells,Array.getElem?_toList,Array.getElem?_mapIdx];have a:i<cur.size:=zo;have hid:i<d'.size:=zo;simp[a,hid]
   ·rename_i hi
    rw[List.getElem?_eq_none zp]
end TS
namespace Go.Proofs.YtkochlhejabdcaaGreatDoor
open Go.RowKit TS Tryz
def wg(p:Pm)(g:Ge)(B:Nat)(v:Value)(M:List U)(fs:List Nat)(w:World)(e:Ending)(b:World):Prop:=
 e= .returned (.tuple #[])∧∃a:List Nat,b.ownsRow B 113 1 v a.length (a.map pv)∧a.length=(b7 M).length∧(∀i(h:i<(b7 M).length)(c:i<a.length),dq p g (b7 M)[i] a[i])∧Kept (fun k=>v.ownBlock=some k) w b∧a.Perm fs
theorem D7(p:Pm)(g:Ge)(B:Nat)(M:List U)(fs:List Nat)(v:Value)(w:World)(hE:WB p w)(O:w.ownsRow B 113 1 v fs.length (fs.map pv))(hl:fs.length=M.length)(hf:∀i(h:i<M.length)(h':i<fs.length),dq p g M[i] fs[i])(hn:∀x∈M,aR x.nm=true)(D:dH M)(hd:∀b,v.ownBlock=some b→∀o,p b o=none)(hG:5<B)(hm:fs.length≤1048576):
 Xk 196 #[v,.func (.func 197) #[] #[]] w (wg p g B v M fs w):=by
 have R:(b7 M).length=M.length:=by unfold b7;rw[List.length_mergeSort]
 rcases Nat.eq_zero_or_pos fs.length with Q|Q
 ·have E:fs= []:=List.length_eq_zero_iff.1 Q
  obtain⟨a,c,rfl⟩:=a_ O;rw[Q];refine(AnyF.slices_SortFunc_none (P:=Tryz.prog) (ρ:=Tryz.tG) {Tryz.tH with} a c _ w).mono ?_;rintro e w' ⟨rfl,rfl⟩;refine⟨rfl,[],by subst E;simpa using O,by simp[R];omega,fun i hi u=>absurd u (Nat.not_lt_zero _),Kept.refl _ _,by rw[E]⟩
 ·have hP:∀i(h:i<M.length),dq p g M[i] (fs[i]'zo)∧aR M[i].nm=true:=fun i h=>⟨hf i h zo,hn _ (zm h)⟩
  obtain⟨L,F,G⟩:=wa hl hf hn;have PG:L.length=M.length:=by rw[←F];simp
  have S:0<L.length:=zo;letI:Inhabited (lC p g):=⟨L[0]⟩
  obtain⟨r,cap,rfl,hB,T,PH,PI,z,V⟩:=gZ O Q;have W:=hd r rfl;have s:L.length=fs.length:=zo;have t:(L.toArray.toList.map ik)=fs.map pv:=by rw[←G];simp[ik,Function.comp_def]
  have hH:Sort.Holds ik w r 0 L.toArray:=fun j H=>by
   simp only[List.size_toArray]at H;rw[Nat.zero_add];refine⟨z j _ ?_,V j zp⟩;rw[←t];simp[H]
  have eg:∀args w,(callFunc 197 args).run Tryz.prog w= .ok (.enter 197 args) w:=dG func197 zk rfl;have I:CmpLays1 Tryz.prog 197 #[] (ik (p:=p) (g:=g)) mT r 0 L.toArray.size w:=fun m os dk _ x y=>by
   have l:WB p (sortWorld ik w r 0 m dk os):=hE.own (we (k:=r)) (fun b e=>by rw[e];exact W) zo;obtain⟨sb,⟨_,x1⟩,x2,_,_⟩:=x.fa;obtain⟨PJ,⟨_,y1⟩,y2,_,_⟩:=y.fa;refine(D4 x.f y.f x.m.nm y.m.nm (sortWorld ik w r 0 m dk os) l.cap x.nb y.nb (l.pl _ _ _ x1) (l.pl _ _ _ y1) (l.kw _ _ _ x2) (l.kw _ _ _ y2)).mono ?_;rintro e w' ⟨rfl,n,rfl⟩;exact⟨rfl,n,#[],by rw[Sort.grow_empty]⟩
  have hS:=Any.slices_SortFunc Tryz.tH ik (fun _=>rfl) mT D5 197 #[] r 0 cap L.toArray w eg I hH T zp;simp only[List.size_toArray,s]at hS;refine hS.mono ?_;rintro e w' ⟨rfl,d',n,os,hp,hs,rfl⟩;obtain⟨d,rfl⟩:∃d:List (lC p g),d'=d.toArray:=⟨d'.toList,by simp⟩
  have A:d.length=L.length:=by have:=hp.1;simpa using this
  have q:d.Perm L:=by
   have:=hp.2.2;have e:List.take fs.length d=d:=List.take_of_length_le zo;have e2:List.take fs.length L=L:=List.take_of_length_le zo;simpa [A,s,List.extract_eq_take_drop,e,e2]using this
  have J:M.Perm (d.map fun x=>x.m):=by rw[←F];exact(q.map _).symm
  have K:dH (d.map fun x=>x.m):=J.pairwise D fun{a b} C=>by rw[pT];exact C
  have N:ef (d.map fun x=>x.m):=by
   have X:(d.map fun x=>x.m).Pairwise fun a b=>bF b a=false:=by
    rw[List.pairwise_iff_getElem];intro i j hi H Y;simp only[List.length_map]at hi H;have:=hs i j (Nat.zero_le _) Y zo;rw[oM]at this;simpa [getElem!_pos,hi,H]using this
   exact(X.and K).imp fun{a b} ⟨h1,D⟩=>by
    cases C:bF a b
    ·have:=kO C h1;rw[this]at D;cases D
    ·rfl
  have heq:(d.map fun x=>x.m)=b7 M:=pV D J N;have hK:Kept (fun b=>b=r) w (sortWorld ik w r 0 n d.toArray os):=we;refine⟨rfl,d.map fun x=>x.f,?_,by rw[←heq];simp,fun i hi u=> ?_,hK.mono fun b _ e=>(by rw[e];rfl),by rw[←G];exact q.map _⟩
  ·have Z:w.ownsRow B 113 1 (.slice (Xa r 0) L.toArray.size cap) L.toArray.size (L.toArray.toList.map ik):=by
    rw[t];simpa [s]using O
   have:=D6 (n:=n) (os:=os) (d':=d.toArray) Z (by simp[A]) (by simpa using S);have e3:(d.map fun x=>x.f).map pv=d.map ik:=by simp[ik,Function.comp_def]
   rw[e3];simpa [s,A]using this
  ·simp only[←heq,List.getElem_map]
   exact(d[i]'(by simpa using u)).fa
theorem wh(p:Pm)(g:Ge)(B:Nat)(M:List U)(fs:List Nat)(v:Value)(w:World)(f:WB p w)(d:w.ownsRow B 113 1 v fs.length (fs.map pv))(j:fs.length=M.length)(k:∀i(h:i<M.length)(l:i<fs.length),dq p g M[i] fs[i])(m:∀x∈M,aR x.nm=true)(n:dH M)(q:∀b,v.ownBlock=some b→∀o,p b o=none)(r:5<B)(hm:fs.length≤1048576):
 Xk 151 #[v] w (wg p g B v M fs w):=by
 have s:=zh (D7 p g B M fs v w f d j k m n q r hm);obtain⟨a,c,rfl⟩:=a_ d;clear f d j k m n q hm;go_enter func151,ntmps151;go_wp2_with fail
 refine s.out.mono ?_;rintro e t ⟨rfl,h⟩;have l:=zh h;clear h;go_wp2_with fail
 go_end0
 exact⟨rfl,l.out⟩
end Go.Proofs.YtkochlhejabdcaaGreatDoor
namespace TS
open Go Go.RowKit Go.Proofs.YtkochlhejabdcaaGreatDoor
def gE(e:U):Bool:=e.k==12||e.k==13|| !isIface e||bd e
theorem gA{u:U}(h:u.k=10):under u=u:=cp zo zo zo zo
theorem mU{u:U}(h:u.k=10):bd u=(u.es.drop u.m.toNat).any gE:=by
 rw[iR (by rw[gA h];exact h),gA h];rfl
theorem wj{u:U}(h:u.k=10):ie u=(u.es.drop u.m.toNat).any kg:=by
 rw[tW (by rw[gA h];exact h),gA h]
theorem oN{u:U}(h:u.k=10):bM u=(eU u).flatMap dO:=by
 rw[mj (by rw[gA h];exact h),gA h]
theorem kB{u:U}(h:u.k=10):an u=b7 (dN u):=by
 rw[gJ (by rw[gA h];exact h),gA h]
theorem wk{u:U}(h:u.k=10):dr u=(u.es.drop u.m.toNat).foldl (fun a e=>dP a (dQ e)) ([none],false):=by
 rw[lf (by rw[gA h];exact h),gA h]
theorem wm{e:U}(h:(under e).k=10):bd (under e)=bd e:=by rw[mU h,iR h];rfl
theorem D8{e:U}(h:(under e).k=10):ie (under e)=ie e:=by rw[wj h,tW h]
theorem D9{e:U}(h:(under e).k=10):an (under e)=an e:=by rw[kB h,gJ h]
theorem D_{e:U}(h:(under e).k=10):bM (under e)=bM e:=by rw[oN h,mj h]
def Eb(len:Nat)(W:List (Bool×U))(e:U):Prop:=
 ((e.k=12∨e.k=13)∧(∀i(h:i<(bD e).length),q_ len W (bD e)[i].1 (bD e)[i].2)∧(bD e).length≤1048576∧∀t∈bD e,t.1=true→isIface t.2=false)∨
 ((e.k≠12∧e.k≠13)∧isIface e=true∧lA len e∧(∀x∈bM (under e),x∈W)∧∀m∈an e,aR m.nm=true)∨
 ((e.k≠12∧e.k≠13)∧Tok len e∧(false,e)∈W∧(under e).k≠2∧(under e).k≠14)
structure gB(len:Nat)(u:U):Prop where
 bC:u.k=10
 tok:∀x∈bM u,Tok len x.2
 cP:(bM u).length≤50
 cmp:∀x∈bM u,ek len x.2
 el:∀e∈u.es.drop u.m.toNat,Eb len (bM u) e
 nm:∀m∈u.es.take u.m.toNat,aR m.nm=true
 two:dH (u.es.take u.m.toNat)
 cy:(dN u).length≤1048576
 len:u.es.length≤1048576
structure Acc(W:List (Bool×U))(a:List U)(x:List Tm×Bool):Prop where
 wi:bB W x.1
 gen:(∀e∈a,gE e=false)→x=([none],false)
 mix:(∃e∈a,gE e=true)→(∀e∈a,kg e=false)→x.1≠ [none]∨x.2=true
 inv:x.2=true→x.1= [none]
theorem Ec(W:List (Bool×U)):Acc W [] ([none],false):=⟨.inl rfl,fun _=>rfl,fun⟨_,h,_⟩=>(by cases h),fun h=>(by cases h)⟩
structure lD(W:List (Bool×U))(e:U)(y:List Tm×Bool):Prop where
 wi:bB W y.1
 gen:gE e=false→y=([none],false)
 mix:gE e=true→kg e=false→y.1≠ [none]∨y.2=true
 inv:y.2=true→y.1= [none]
theorem Ed{W:List (Bool×U)}{l:List Tm}(h:bB W l):dh l=true↔l= [none]:=by
 constructor
 ·intro ha
  unfold dh at ha;obtain⟨t,a,b⟩:=List.any_eq_true.1 ha;cases t with
  |none=>exact oG h a
  |some _=>cases b
 ·rintro rfl;rfl
theorem Ee{l:List Tm}(h:dh l=false):none ∉ l:=fun hm=>by
 unfold dh at h;rw[List.any_eq_false]at h;exact h _ hm rfl
theorem Acc.step{W:List (Bool×U)}{f:List U}{x y:List Tm×Bool}{e:U}(s:RW W)(h:Acc W f x)(k:lD W e y):Acc W (f++ [e]) (dP x y):=by
 have hM:bB W (b8 x.1 y.1):=bB.meet s h.wi k.wi;have i:=Ed hM;have b:(∀j∈f++ [e],gE j=false)→x=([none],false)∧y=([none],false):=fun c=>⟨h.gen fun j he=>c j (List.mem_append_left _ he),k.gen (c e zs)⟩
 unfold dP;cases g:(x.2||y.2)
 ·simp only[Bool.false_and,Bool.false_eq_true,if_false]
  refine⟨hM,fun c=> ?_,fun he hu=> ?_,fun m=>by cases m⟩
  ·obtain⟨rfl,rfl⟩:=b c
   simp[Am]
  ·left
   intro(n:b8 x.1 y.1= [none]);have o:x.2=false:=by cases t:x.2;rfl;rw[t]at g;cases g
   have p:y.2=false:=by cases u:y.2;rfl;rw[u,Bool.or_true]at g;cases g
   have r:none∈b8 x.1 y.1:=by rw[n];simp
   have h1:x.1= [none]:=oG h.wi (Classical.byContradiction fun hm=>vT (.inl hm) r);have v:y.1= [none]:=oG k.wi (Classical.byContradiction fun hm=>vT (.inr hm) r);obtain⟨j,a,c⟩:=he;rcases List.mem_append.1 a with a|a
   ·rcases h.mix ⟨j,a,c⟩ fun z w=>hu z (List.mem_append_left _ w)with d|d
    ·exact d h1
    ·rw[o]at d;cases d
   ·simp only[List.mem_singleton]at a
    subst a;rcases k.mix c (hu _ zs)with d|d
    ·exact d v
    ·rw[p]at d;cases d
 ·cases ha:dh (b8 x.1 y.1)
  ·simp only[Bool.true_and,Bool.not_false,if_true]
   have q:=Ee ha;have l:none ∉ (b8 x.1 y.1).filter iE:=fun hm=>q (List.mem_filter.1 hm).1;refine⟨hM.DG List.filter_sublist,fun c=> ?_,fun _ _=> .inl fun(n:(b8 x.1 y.1).filter iE= [none])=>l (by rw[n];simp),fun m=>by cases m⟩;obtain⟨rfl,rfl⟩:=b c;cases g
  ·simp only[Bool.true_and,Bool.not_true,Bool.false_eq_true,if_false]
   refine⟨hM,fun c=> ?_,fun _ _=> .inr rfl,fun _=>i.1 ha⟩;obtain⟨rfl,rfl⟩:=b c;cases g
theorem Ef{W:List (Bool×U)}{e:U}(hk:e.k=12∨e.k=13)(f:∀t∈bD e,t.1=true→isIface t.2=false){S:List Tm}(wi:bB W S)(na:none∈S→∃x∈bD e,isIface x.2=true):lD W e (S,false):=by
 refine⟨wi,fun h=> ?_,fun _ hu=> .inl fun(g:S= [none])=> ?_,fun h=>by cases h⟩
 ·unfold gE at h
  rcases hk with h1|h1<;>rw[h1]at h<;>simp at h
 ·obtain⟨x,b,hi⟩:=na (by rw[g];simp)
  have a:x.1=false:=by
   cases h:x.1
   ·rfl
   ·rw[f x b h]at hi;cases hi
  unfold bD at b;unfold kg at hu;split at b
  ·rename_i c
   rw[if_pos c,List.any_eq_false]at hu;obtain⟨i,d,rfl⟩:=List.mem_map.1 b;simp only[beq_eq_false_iff_ne,ne_eq]at a;refine hu i d ?_;simp only[aH,if_neg a]at hi;simp[a,hi]
  ·simp only[List.mem_singleton]at b
   subst b;cases a
theorem Eg{W:List (Bool×U)}{e d:U}{f:List Tm}{cmp:Bool}(a:e.k≠12∧e.k≠13)(hi:isIface e=true)(hu:((under e).k=10∧d=under e)∨((under e).k=16∧d=dB))(i:∀x∈bM d,x∈W)(ok:gO d f cmp):lD W e (f,cmp):=by
 have g:gE e=bd e:=by unfold gE;simp[a.1,a.2,hi]
 have j:kg e=ie e:=by unfold kg;rw[if_neg a.1];simp[a.2,hi]
 refine⟨ok.cP.imp id fun⟨l,m,n⟩=>⟨l,m,fun t o=>let⟨x,p,e⟩:=n t o;⟨x,i x p,e⟩⟩,fun h=> ?_,fun h k=> ?_,ok.inv⟩
 ·rw[g]at h
  rcases hu with⟨b,rfl⟩|⟨c,rfl⟩
  ·obtain⟨h1,q⟩:=ok.gen (by rw[wm b];exact h)
   rw[h1,q]
  ·rw[fA zo,c]at h;cases h
 ·rw[g]at h
  rw[j]at k;rcases hu with⟨b,rfl⟩|⟨c,rfl⟩
  ·exact ok.mix (by rw[wm b];exact h) (by rw[D8 b];exact k)
  ·exact ok.mix (by rw[fA (by rw[iJ];decide),iJ];decide) (by rw[Ar (by rw[iJ];decide)])
theorem Eh{W:List (Bool×U)}{e:U}(hi:isIface e=false)(hm:(false,e)∈W):lD W e ([some (false,e)],false):=by
 refine⟨vR hm,fun h=> ?_,fun _ _=> .inl zs,fun h=>by cases h⟩;unfold gE at h;rw[hi]at h;simp at h
theorem Acc.ok{u:U}{x:List Tm×Bool}(hk:u.k=10)(h:Acc (bM u) (u.es.drop u.m.toNat) x)(he:dr u=x):gO u x.1 x.2:=by
 refine⟨h.wi,fun a=> ?_,fun a hu=> ?_,h.inv,by rw[he]⟩
 ·rw[mU hk,List.any_eq_false]at a
  have:=h.gen fun e he=>by simpa using a e he
  rw[this];exact⟨rfl,rfl⟩
 ·rw[mU hk,List.any_eq_true]at a
  rw[wj hk,List.any_eq_false]at hu;exact h.mix a fun e he=>by simpa using hu e he
theorem rz{p:Pm}{g:Ge}{B:Nat}{w:World}{v:Value}{rs:List Nat}{R:List Tm}(r:aA p g w)(h:cB p g B w v rs R)(y:∀b,v.ownBlock=some b→∀o,p b o=none):
 ∃q a c,v= .slice a rs.length c∧aN p q B∧aA q g w∧bJ w a rs.length (fun i=>rs.getD i 0)∧cd q a rs.length (fun i=>ptr (rs.getD i 0))∧(∀i(h:i<R.length),bh q g R[i] (rs.getD i 0))∧
  (∀b,v.ownBlock≠some b→∀o,q b o=p b o)∧rs.length≤c∧(a=none→c=0)∧∀x,a=some x→x.spot=none:=by
 have l:∀{q:Pm},Sub p q→∀i(h:i<R.length),bh q g R[i] (rs.getD i 0):=fun hk i hi=>by
  have F:=h.len;have:=(h.cJ i hi zo).sub hk (aK.refl g);simpa [show i<rs.length by omega]using this
 rcases h.own.2 with⟨n,z⟩|⟨b,cap,cur,n,A,s,C,t,D,f⟩
 ·have E:rs.length=0:=z
  exact⟨p,none,0,by rw[n,E],aN.refl _ _,r,fun i hi=>by omega,fun i hi=>by omega,l (Sub.refl p),fun _ _ _=>rfl,by omega,fun _=>rfl,fun x h=>(by cases h)⟩
 ·have j:=y b (by rw[n];rfl)
  have d:∀i,i<rs.length→cur[i]?= .some (Xp (rs.getD i 0)):=fun i hi=>by
   have:(cur.toList.take (rs.length*1))[i]?= .some (Xp (rs.getD i 0)):=by rw[f];simp[hi]
   rw[List.getElem?_take,if_pos zo]at this;simpa using this
  refine⟨p.add b cur,.some (Xa b 0),cap,n,Pm.du j A,r.add j s,fun i hi=>⟨b,0,rfl,?_⟩,fun i hi=>⟨b,0,rfl,?_⟩,l (Pm.cK j),fun c t o=>Pm.aQ _ _ _ fun e=>t (by rw[n,e];rfl),C,fun h=>(by cases h),fun x h=>by cases h;rfl⟩
  ·simp[World.cell?,s,d i hi]
  ·rw[Pm.aU,Nat.zero_add];exact d i hi
theorem Es{p:Pm}{g:Ge}{B:Nat}{w:World}{v:Value}{fs:List Nat}(n:aA p g w)(h:w.ownsRow B 113 1 v fs.length (fs.map pv))(s:∀b,v.ownBlock=some b→∀o,p b o=none):
 ∃q a c,v= .slice a fs.length c∧aN p q B∧aA q g w∧cd q a fs.length (fun i=>ptr (fs.getD i 0))∧(∀b,v.ownBlock≠some b→∀o,q b o=p b o)∧fs.length≤c:=by
 rcases h.2 with⟨j,t⟩|⟨b,cap,cur,j,x,y,z,r,A,d⟩
 ·have C:fs.length=0:=t
  exact⟨p,none,0,by rw[j,C],aN.refl _ _,n,fun i hi=>by omega,fun _ _ _=>rfl,by omega⟩
 ·have l:=s b (by rw[j];rfl)
  have f:∀i,i<fs.length→cur[i]?= .some (Xp (fs.getD i 0)):=fun i hi=>by
   have:(cur.toList.take (fs.length*1))[i]?= .some (Xp (fs.getD i 0)):=by rw[d];simp[hi]
   rw[List.getElem?_take,if_pos zo]at this;simpa using this
  refine⟨p.add b cur,.some (Xa b 0),cap,j,Pm.du l x,n.add l y,fun i hi=>⟨b,0,rfl,?_⟩,fun c r o=>Pm.aQ _ _ _ fun e=>r (by rw[j,e];rfl),z⟩;rw[Pm.aU,Nat.zero_add];exact f i hi
theorem iK{w:World}{B:Nat}{e:TypeId}{v:Value}{n:Nat}{xs:List Value}(h:w.ownsRow B e 1 v n xs){b:Nat}(a:v.ownBlock=some b):∃cur,w.heap[b]?=some (.cells cur e (0,0)):=by
 rcases h.2 with⟨c,_⟩|⟨f,cap,cur,c,_,d,_⟩
 ·rw[c]at a;cases a
 ·rw[c]at a;cases a;exact⟨cur,d⟩
theorem en.iZ{p q:Pm}{g:Ge}{B e a c pm f:Nat}{w:World}{m:Option Nat}{v:Value}{M:List U}{fs:List Nat}(h:en p g B e a c pm f w m v M fs)(j:Sub p q)(l:∀b,Cx a c pm m v b→∀o,q b o=none):en q g B e a c pm f w m v M fs:=
 ⟨h.os,h.mB,h.ac,h.af,h.row,h.mp,h.mf,h.len,fun i hi d=>(h.cJ i hi d).sub j (aK.refl g),l⟩
theorem en.Et{p:Pm}{g:Ge}{B d a c pm f:Nat}{w:World}{m:Option Nat}{v:Value}{M:List U}{fs:List Nat}(h:en p g B d a c pm f w m v M fs){b:Nat}(i:Cx a c pm m v b):b=a∨b=c∨b=pm∨d≤b:=by
 rcases i with e|e|e|e|e
 ·exact .inl e
 ·exact .inr (.inl e)
 ·exact .inr (.inr (.inl e))
 ·exact .inr (.inr (.inr (h.mB _ e).1))
 ·exact .inr (.inr (.inr (h.row.lt _ e).1))
theorem en.apart{p:Pm}{g r:Ge}{q:Pm}{B c d f pm j:Nat}{w:World}{m:Option Nat}{v:Value}{M:List U}{fs:List Nat}(h:en p g B c d f pm j w m v M fs)(s:oJ B c d f pm j){l:Value}{rs:List Nat}{R:List Tm}(hT:cB q r c w l rs R){b:Nat}(n:l.ownBlock=some b):¬Cx d f pm m v b:=by
 obtain⟨cur,a⟩:=iK hT.own n;have t:=(hT.own.lt b n).1;obtain⟨g1,g2,g3,g4,g5⟩:=s;rintro(e|e|e|e|e)
 ·omega
 ·omega
 ·omega
 ·obtain⟨F,hO,_⟩:=h.os
  obtain⟨es,cl,hm,_⟩:=hO.2.2.2 _ e;rw[hm]at a;cases a
 ·obtain⟨o,i⟩:=iK h.row e
  rw[i]at a;injection a with a
  injection a with _ a
  exact absurd a zd
structure bW(p:Pm)(g:Ge)(b:Nat)(u:U)(w:World)(xs:Nat→Value)(M:List U)(k:Nat)(q:Pm)(m:Option Nat)(v:Value)(fs:List Nat)(wr:World):Prop where
 gr:aN p q w
 id:aA q g wr
 ch:en q g w.heap.size (w.heap.size+8) (w.heap.size+4) (w.heap.size+5) (w.heap.size+6) (w.heap.size+7) wr m v M fs
 kept:Kept (fun c=>c=b) w wr
 jI:∀f∈fs,f<w.heap.size
 um:∃F,cr (dV w.heap.size) wr (w.heap.size+3) F∧∀j a,k≤j→u.m.toNat+j<u.es.length→((u.es.getD (u.m.toNat+j) default).k=12∨(u.es.getD (u.m.toNat+j) default).k=13)→xs j=ah 202 a→F (Xp a)=none
 tb:wr.heap[w.heap.size+2]?=some (.cells #[.bool false,.slice none 0 0,.slice (Xa (w+1) 0) 1 1,.bool false] 139 (0,0))
 td:∀o,q (w.heap.size+2) o=none
 b6:Xc wr b 6 (ptr (w.heap.size+2))
theorem oT(B:Nat):oJ B (B+8) (B+4) (B+5) (B+6) (B+7):=⟨by omega,by omega,by omega,by omega,by omega⟩
section
variable {p:Pm} {g:Ge} {b:Nat} {u:U} {w:World} {xs:Nat→Value} {M:List U} {k:Nat} {q:Pm} {m:Option Nat} {v:Value} {fs:List Nat} {wr w2:World}
theorem bW.size(h:bW p g b u w xs M k q m v fs wr):w.heap.size+8≤wr.heap.size:=by
 have:=zb h.ch.mp;simp only at this;omega
theorem bW.cx(h:bW p g b u w xs M k q m v fs wr){c:Nat}(a:Cx (w.heap.size+4) (w.heap.size+5) (w.heap.size+6) m v c):w.heap.size+4≤c∧c≠w.heap.size+7:=by
 rcases h.ch.Et a with e|e|e|e<;>omega
theorem bW.below(h:bW p g b u w xs M k q m v fs wr)(a:Below wr wr w2):bW p g b u w xs M k q m v fs w2 where
 gr:=h.gr
 id:=h.id.below a
 ch:=h.ch.of (Y:=fun _=>False) (Kept.of a) (fun _ h=>h.elim) (aN.refl _ _) (aK.refl g)
 kept:=h.kept.below a
 jI:=h.jI
 um:=let⟨F,hF,h1⟩:=h.um;⟨F,hF.kA (X:=fun _=>False) (Kept.of a) (fun h=>h) fun _ _ h=>h,h1⟩
 tb:=by have:=h.size;rw[a.block _ zo];exact h.tb
 td:=h.td
 b6:=az a h.b6
theorem bW.skip(h:bW p g b u w xs M k q m v fs wr):bW p g b u w xs M (k+1) q m v fs wr:=
 {h with um:=let⟨F,hF,h1⟩:=h.um;⟨F,hF,fun j a c=>h1 j a zo⟩}
theorem bW.iZ(h:bW p g b u w xs M k q m v fs wr){a:Pm}(d:aN q a (w.heap.size+8))(e:aA a g wr)(f:∀c,Cx (w.heap.size+4) (w.heap.size+5) (w.heap.size+6) m v c→∀o,a c o=none):bW p g b u w xs M k a m v fs wr where
 gr:=h.gr.trans (d.mono zo) zl
 id:=e
 ch:=h.ch.iZ d.le f
 kept:=h.kept
 jI:=h.jI
 um:=h.um
 tb:=h.tb
 td:=fun o=>d.aF zo h.td o
 b6:=h.b6
theorem bW.union(h:bW p g b u w xs M k q m v fs wr)(E:b<w.heap.size){a:Nat}(n:xs k=ah 202 a)(r:∀i j,i<j→u.m.toNat+j<u.es.length→((u.es.getD (u.m.toNat+j) default).k=12∨(u.es.getD (u.m.toNat+j) default).k=13)→xs i≠xs j)
 {s:Pm}{F t:Value→Option Value}(hF:∀j a,k≤j→u.m.toNat+j<u.es.length→((u.es.getD (u.m.toNat+j) default).k=12∨(u.es.getD (u.m.toNat+j) default).k=13)→xs j=ah 202 a→F (Xp a)=none)
 (x:aN q s wr)(C:aA s g w2)(hM:cr (dV w.heap.size) w2 (w.heap.size+3) t)(z:∀y,y≠(Xp a:Value)→t y=F y)(l:Kept (fun c=>c=w.heap.size+3) wr w2):bW p g b u w xs M (k+1) s m v fs w2 where
 gr:=h.gr.trans x (by have:=h.size;omega)
 id:=C
 ch:=h.ch.of l (fun c D=>⟨fun n=>by have:=h.cx n;omega,by omega,by omega⟩) x (aK.refl g)
 kept:=h.kept.trans l fun c D e=>by omega
 jI:=h.jI
 um:=⟨t,hM,fun j A G B d f=>by
  rw[z _ fun e=> ?_]
  ·exact hF j A zo B d f
  ·refine r k j zo B d ?_
   cases e;rw[n,f]⟩
 tb:=by have:=h.size;rw[l.block _ zo zo];exact h.tb
 td:=fun o=>x.aF (by have:=h.size;omega) h.td o
 b6:=by have:=h.size;rw[l.cell zo zo];exact h.b6
theorem bW.add(h:bW p g b u w xs M k q m v fs wr)(z:b<w.heap.size){j:Option Nat}{l:Value}{n:List U}{a:List Nat}{f:Nat}(o:en q g w.heap.size (w.heap.size+8) (w.heap.size+4) (w.heap.size+5) (w.heap.size+6) (w.heap.size+7) w2 j l n a)
 (i:∀y∈a,y∈fs∨y=f)(r:f<w.heap.size)(s:aA q g w2)(d:Kept (Cx (w.heap.size+4) (w.heap.size+5) (w.heap.size+6) m v) wr w2):bW p g b u w xs n k q j l a w2 where
 gr:=h.gr
 id:=s
 ch:=o
 kept:=h.kept.trans d fun c t e=>by have:=h.cx e;omega
 jI:=fun y x=>(i y x).elim (h.jI y) fun e=>e▸r
 um:=let⟨F,hF,h1⟩:=h.um;⟨F,hF.kA d (fun e=>by have:=h.cx e;omega) fun c t e=>by have:=h.cx e;omega,h1⟩
 tb:=by have:=h.size;rw[d.block _ zo fun e=>by have:=h.cx e;omega];exact h.tb
 td:=h.td
 b6:=by have:=h.size;rw[d.cell zo fun e=>by have:=h.cx e;omega];exact h.b6
end
structure rA(g:Ge)(u:U)(w:World)(k:Nat)(q:Pm)(d:Value)(rs:List Nat)(R:List Tm×Bool)(wr:World):Prop where
 row:cB q g (w.heap.size+8) wr d rs R.1
 dk:∀c,d.ownBlock=some c→∀o,q c o=none
 acc:Acc (bM u) ((u.es.drop u.m.toNat).take k) R
 Rf:R=((u.es.drop u.m.toNat).take k).foldl (fun a e=>dP a (dQ e)) ([none],false)
def dm(u:U)(k:Nat):List U:=((u.es.drop u.m.toNat).take k).foldl bS (u.es.take u.m.toNat)
theorem Eu(M:List U)(x:U):M.length≤(bI M x).length:=by unfold bI;split<;>simp
theorem rB:∀(l M:List U),M.length≤(l.foldl bI M).length
 | [],_=>Nat.le_refl _
 |x::l,M=>Nat.le_trans (Eu M x) (rB l _)
theorem Ev(M:List U)(e:U):M.length≤(bS M e).length:=by unfold bS;split;exact rB _ _;exact Nat.le_refl _
theorem wC:∀(l M:List U),M.length≤(l.foldl bS M).length
 | [],_=>Nat.le_refl _
 |x::l,M=>Nat.le_trans (Ev M x) (wC l _)
theorem wD{α:Type}(f:List U→α→List U)(a:∀(l:List α) M,M.length≤(l.foldl f M).length)(l:List α)(M:List U)(k:Nat):((l.take k).foldl f M).length≤(l.foldl f M).length:=by
 conv=>rhs;rw[←List.take_append_drop k l,List.foldl_append]
 exact a _ _
theorem Ew(u:U)(k:Nat):(dm u k).length≤(dN u).length:=wD bS wC _ _ k
theorem oU{u:U}{k:Nat}(h:k<(u.es.drop u.m.toNat).length):dm u (k+1)=bS (dm u k) (u.es.drop u.m.toNat)[k]:=nS bS _ h
theorem Ex{u:U}{k j:Nat}(h:k<(u.es.drop u.m.toNat).length){r:List U}(hr:aW (u.es.drop u.m.toNat)[k]=true→an (u.es.drop u.m.toNat)[k]=r)(he:aW (u.es.drop u.m.toNat)[k]=true):((r.take j).foldl bI (dm u k)).length≤(dN u).length:=by
 refine Nat.le_trans (wD bI rB _ _ j) ?_;have:=Ew u (k+1);rw[oU h]at this;unfold bS at this;rw[if_pos he,hr he]at this;exact this
theorem Ey{l:List U}(h:dH l):∀{k:Nat}(hk:k<l.length),bI (l.take k) l[k]=l.take (k+1):=by
 intro k hk;unfold bI;rw[if_neg]
 ·rw[List.take_add_one,List.getElem?_eq_getElem hk];rfl
 ·rw[Bool.not_eq_true,List.any_eq_false]
  intro x a;obtain⟨i,hi,rfl⟩:=List.getElem_of_mem a;simp only[List.length_take]at hi;rw[List.getElem_take];have:=List.pairwise_iff_getElem.1 h i k zo hk zo;rw[this];decide
def Pm.put(p:Pm)(b o:Nat)(v:Value):Pm:=fun a c=>if a=b∧c=o then some v else p a c
theorem Pm.fT(p:Pm)(b o:Nat)(v:Value):p.put b o v b o=some v:=by simp[Pm.put]
theorem Pm.ba(p:Pm){b o a c:Nat}(v:Value)(h:¬(a=b∧c=o)):p.put b o v a c=p a c:=by simp only[Pm.put,if_neg h]
theorem Pm.fU{p:Pm}{b o:Nat}(v:Value)(h:p b o=none):Sub p (p.put b o v):=fun c d x a=>by
 rw[Pm.ba]
 ·exact a
 ·rintro⟨rfl,rfl⟩;rw[h]at a;cases a
theorem aA.put{p:Pm}{g:Ge}{w:World}{b o:Nat}{v:Value}(h:aA p g w)(c:p b o=none)(j:Xc w b o v)(l:Plain w b):aA (p.put b o v) g w where
 kw:=fun d f x a=>by
  by_cases e:d=b∧f=o
  ·obtain⟨rfl,rfl⟩:=e;rw[Pm.fT]at a;cases a;exact j
  ·rw[Pm.ba _ _ e]at a;exact h.kw _ _ _ a
 pl:=fun d f x a=>by
  by_cases e:d=b∧f=o
  ·obtain⟨rfl,rfl⟩:=e;exact l
  ·rw[Pm.ba _ _ e]at a;exact h.pl _ _ _ a
 inj:=h.inj
 cap:=h.cap
 done:=fun d u hu=>⟨Pm.fU v c _ _ _ (h.done _ _ hu).1,(h.done _ _ hu).2.sub (Pm.fU v c) (aK.refl g)⟩
 po:=fun i hi=>let⟨o,x,e⟩:=h.po i hi;⟨o,x,Pm.fU v c _ _ _ e⟩
 cY:=let⟨o,x,e⟩:=h.cY;⟨o,x,Pm.fU v c _ _ _ e⟩
 cZ:=let⟨o,x,e⟩:=h.cZ;⟨o,x,Pm.fU v c _ _ _ e⟩
theorem aA.setCell{p:Pm}{g:Ge}{w:World}(h:aA p g w){b o:Nat}(v:Value)(d:p b o=none)(f:b≠5):aA p g (w.setCell (Xa b o) v) where
 kw:=fun i j x a=>by
  rw[World.cell?_setCell_other]
  ·exact h.kw _ _ _ a
  ·intro e;cases e;rw[d]at a;cases a
 pl:=fun i j x a=>jA (h.pl _ _ _ a) _ _
 inj:=h.inj
 cap:=fun c h1 l=>by
  rw[World.cell?_setCell_other]
  ·exact h.cap c h1 l
  ·intro e;cases e;exact f rfl
 done:=h.done
 po:=h.po
 cY:=h.cY
 cZ:=h.cZ
theorem Node.Ez{p:Pm}{g:Ge}{u:U}{x:Value}(h:Node p g u x)(hk:u.k=12∨u.k=13):∃(b:Nat)(a:Option Addr)(c:Nat)(f:Nat→Nat),x=ah 202 b∧p b 0=some (.slice a (bD u).length c)∧(bD u).length≤c∧cd p a (bD u).length (fun i=>ptr (f i))∧∀i(h:i<(bD u).length),bh p g (some (bD u)[i]) (f i):=by
 cases h with
 |union _ h1 e j d l=>exact⟨_,_,_,_,rfl,h1,e,j,fun i hi=>⟨(d i hi).1,_,(d i hi).2,l i hi⟩⟩
 |_=>omega
theorem EA{e:U}(a:e.k≠12∧e.k≠13)(hi:isIface e=true):aW e=true:=by unfold aW;simp[a.1,a.2,hi]
theorem oW{e:U}(h:e.k=12∨e.k=13∨isIface e=false):aW e=false:=by
 unfold aW;rcases h with h|h|h<;>simp[h]
theorem gB.names{len:Nat}{u:U}(hF:gB len u):∀x∈dN u,aR x.nm=true:=fun x b=>by
 rcases sM b with h|⟨e,he,a,b⟩
 ·exact hF.nm x h
 ·rcases hF.el e he with⟨c,_⟩|⟨_,_,_,_,h⟩|⟨_,hT,_⟩
  ·rw[oW (c.elim .inl fun h=> .inr (.inl h))]at a;cases a
  ·exact h x b
  ·rw[oW (.inr (.inr hT.ni))]at a;cases a
def jJ(p:Pm)(g:Ge)(b:Nat)(u:U)(w:World)(e:Ending)(a:World):Prop:=
 ∃q tb,e= .returned (Xp tb)∧Sub p q∧(∀c o v,q c o=some v→p c o=some v∨w.heap.size≤c∨(c=b∧o=6))∧aA q g a∧cS q g b u∧Kept (fun c=>c=b) w a
theorem jJ.drew{p:Pm}{g:Ge}{b:Nat}{u:U}{w a:World}{e:Ending}(h:jJ p g b u w e a):jJ p g b u w e a.drew:=
 let⟨q,tb,h1,c,d,f,i,j⟩:=h
 ⟨q,tb,h1,c,d,f.below zB.drew,i,j.below zB.drew⟩
end TS
namespace Go.Proofs.YtkochlhejabdcaaGreatDoor
open Go.RowKit TS
theorem EB{p:Pm}{g:Ge}{b:Nat}{u:U}{w a:World}(xs:Nat→Value)(C:aA p g w)(F:Xc a b 6 (.pointer none))(n:p b 6=none)(G:5<b)(H:b<w.heap.size)(j:Below w w a)(q:a.heap.size=w.heap.size+2):
 bW p g b u w xs [] 0 p none (.slice none 0 0) []
  (((((((a.setCell (Xa b 6) (Xp a)).alloc (.cells #[.bool false,.slice none 0 0,.slice (Xa (w+1) 0) 1 1,.bool false] 139)).alloc (.map #[] 0)).alloc (.cells #[.map none] 225)).alloc (.cells #[.slice none 0 0] 115)).alloc (.map #[] 0)).alloc
    (.cells #[.map (some (a.heap.size+1+1+1+1))] 226)):=by
 have d:(a.setCell (Xa b 6) (Xp a)).heap.size=a.heap.size:=zs;have r:aA p g (a.setCell (Xa b 6) (Xp a)):=(C.below j).setCell _ n zo;have t:Xc (a.setCell (Xa b 6) (Xp a)) b 6 (ptr (w.heap.size+2)):=by rw[←q];exact World.cell?_setCell_same _ _ _ F
 have v:Kept (fun c=>c=b) w (a.setCell (Xa b 6) (Xp a)):=Kept.setCell (X:=fun c=>c=b) (Kept.of j) (fun _=>rfl) _;have K:w.heap.size+2=a.heap.size:=zo;have L:w.heap.size+3=a.heap.size+1:=zo;have D:w.heap.size+4=a.heap.size+1+1:=zo;have E:w.heap.size+5=a.heap.size+1+1+1:=zo;have y:w.heap.size+6=a.heap.size+1+1+1+1:=zo;have h7:w.heap.size+7=a.heap.size+1+1+1+1+1:=zo;have l:∀c,w.heap.size≤c→∀o,p c o=none:=fun c z o=>C.kw.aF z o;generalize A:a.setCell (Xa b 6) (Xp a)=m at*
 have B:Below m m ((((((m.alloc (.cells #[.bool false,.slice none 0 0,.slice (Xa (w+1) 0) 1 1,.bool false] 139)).alloc (.map #[] 0)).alloc (.cells #[.map none] 225)).alloc (.cells #[.slice none 0 0] 115)).alloc (.map #[] 0)).alloc
  (.cells #[.map (some (a.heap.size+1+1+1+1))] 226)):=by
  have:=Below.refl m.heap.size m;iterate 6 refine Below.alloc ?_ (by simp<;>omega) _
  exact this
 clear A;refine⟨aN.refl _ _,r.below B,⟨⟨fun _=>none,⟨?_,?_,fun _=>rfl,fun M h=>by cases h⟩,fun s=>⟨fun _ x I=>by(cases I),fun _=>rfl⟩,fun k x h=>by cases h⟩,fun c h=>by(cases h),?_,?_,World.ownsRow_nil _ _ _ _,?_,⟨fun _=>none,?_⟩,rfl,fun i h=>by(simp at h),fun c z o=>l c ?_ o⟩,v.below B,fun f J=>by(cases J),⟨fun _=>none,?_,fun _ _ _ _ _ _=>rfl⟩,?_,l _ zo,az B t⟩
 ·rw[D,←d];simp[go_sem]
 ·rw[D,←d];simp[go_sem]
 ·rw[E,←d];simp[go_sem]
 ·rw[E,←d];simp[go_sem]
 ·rw[h7,y,←d];simp[go_sem]
 ·exact⟨#[],0,by rw[dC (by simp only[World.size_alloc];omega),cA (by simp only[World.size_alloc];omega)],by simp,by simp,by simp⟩
 ·rcases z with e|e|e|e|e
  ·omega
  ·omega
  ·omega
  ·cases e
  ·cases e
 ·exact⟨#[],0,by rw[dC (by simp only[World.size_alloc];omega),dC (by simp only[World.size_alloc];omega),dC (by simp only[World.size_alloc];omega),dC (by simp only[World.size_alloc];omega),cA (by simp only[World.size_alloc];omega)],by simp,by simp,by simp⟩
 ·rw[dC (by simp only[World.size_alloc];omega),dC (by simp only[World.size_alloc];omega),dC (by simp only[World.size_alloc];omega),dC (by simp only[World.size_alloc];omega),dC (by simp only[World.size_alloc];omega),cA zo]
theorem rC{len:Nat}{p:Pm}{g:Ge}{b:Nat}{u:U}{w:World}{xs:Nat→Value}{k:Nat}{s:Pm}{m2:Option Nat}{v2:Value}{n:List Nat}{q:World}(hF:gB len u)(hk:k<(u.es.drop u.m.toNat).length)
 (r:bW p g b u w xs (dm u (k+1)) (k+1) s m2 v2 n q){R Y:List Tm×Bool}(acc:Acc (bM u) ((u.es.drop u.m.toNat).take k) R)(Rf:R=((u.es.drop u.m.toNat).take k).foldl (fun a e=>dP a (dQ e)) ([none],false))
 (j:lD (bM u) (u.es.drop u.m.toNat)[k] Y)(P:Y=dQ (u.es.drop u.m.toNat)[k])(A:Option Addr)(t c1:Nat)(f1:Nat→Nat)(B:t=R.1.length)(C:bJ q A t f1)(D:∀i(h:i<R.1.length),bh s g R.1[i] (f1 i))
 (E:Option Addr)(y L:Nat)(F:Nat→Nat)(G:y=Y.1.length)(H:bJ q E y F)(I:∀i(h:i<Y.1.length),bh s g Y.1[i] (F i)):
 Xk 150 #[.slice A t c1,.bool R.2,.slice E y L,.bool Y.2] q fun e J=> ∃z f a3 c3,e= .returned (.tuple #[.slice a3 f.length c3,.bool (dP R Y).2])∧bW p g b u w xs (dm u (k+1)) (k+1) z m2 v2 n J∧rA g u w (k+1) z (.slice a3 f.length c3) f (dP R Y) J:=by
 have Q:=acc.wi.len hF.cP zd;have S:=j.wi.len hF.cP zd;have l:=bB.meet (re hF.tok) acc.wi j.wi;refine(DD len s g A E t y c1 L f1 F R.1 Y.1 R.2 Y.2 q B G zo zo r.id C H D I (oH hF.tok acc.wi) (oH hF.tok j.wi) ?_ ?_).mono ?_
 ·by_cases M:none∈b8 R.1 Y.1
  ·exact .inl (oG l M)
  ·exact .inr ⟨M,by have:=l.len hF.cP zd;omega⟩
 ·intro d e hm
  rcases l with h1|⟨_,_,T⟩
  ·rw[h1]at hm;simp at hm
  ·obtain⟨x,V,he⟩:=T _ hm
   cases he;exact hF.cmp _ V
 ·rintro e J ⟨z,v,f,rfl,N,W,hT,K,X⟩
  obtain⟨a3,c3,rfl⟩:=a_ hT.own;have Z:=r.size;refine⟨z,f,a3,c3,rfl,(r.below K).iZ (N.mono zo) W fun c O o=>N.aF (r.ch.lt c O) (fun o=>r.ch.dk c O o) o,⟨⟨jr hT.own zo,hT.len,hT.cJ⟩,X,?_,?_⟩⟩
  ·have:=acc.step (re hF.tok) j
   rw[List.take_add_one,List.getElem?_eq_getElem hk];exact this
  ·rw[nS _ _ hk,←Rf,←P]
theorem EC{p:Pm}{g:Ge}{b:Nat}{u:U}{w:World}{xs:Nat→Value}{M:List U}{m:Option Nat}{v:Value}{fs:List Nat}{wr:World}(h:bW p g b u w xs M 0 p m v fs wr):
 ∃q,bW p g b u w xs M 0 q m v fs ((wr.alloc (.cells #[.bool false,.nilIface] 168)).alloc (.cells #[Xp wr] 164))∧
  rA g u w 0 q (.slice (Xa (wr+1) 0) 1 1) [wr.heap.size] ([none],false) ((wr.alloc (.cells #[.bool false,.nilIface] 168)).alloc (.cells #[Xp wr] 164)):=by
 have j:∀o,p wr.heap.size o=none:=fun o=>h.id.kw.aF zl o;have d:∀o,p (wr.heap.size+1) o=none:=fun o=>h.id.kw.aF zo o;have f:=h.size;have k:Below wr wr ((wr.alloc (.cells #[.bool false,.nilIface] 168)).alloc (.cells #[Xp wr] 164)):=(zB.alloc zl _).alloc zs _;refine⟨p.add wr.heap.size #[.bool false,.nilIface],(h.below k).iZ (Pm.du j f) ((h.id.below k).add (T:=168) j (by rw[dC zs,cA rfl])) fun c a o=> ?_,⟨⟨?_,rfl,fun i hi l=> ?_⟩,fun c a o=> ?_,Ec _,rfl⟩⟩
 ·have:=h.ch.lt c a
  rw[Pm.aQ _ _ _ zo];exact h.ch.dk c a o
 ·have:=World.ownsRow_lit (base:=w.heap.size+8) (e:=164) (size:=1) (wr.alloc (.cells #[.bool false,.nilIface] 168)) #[Xp wr] 1 zp (by unfold maxLen;omega) rfl
  simpa using this
 ·have:i=0:=by simpa using hi
  subst this;show bh _ _ none _;unfold bh;simp[Pm.add]
 ·simp[Value.ownBlock]at a
  subst a;rw[Pm.aQ _ _ _ zo];exact d o
theorem wE{len:Nat}{p q:Pm}{g:Ge}{b:Nat}{u:U}{w f:World}(hF:gB len u)(hb:b<w.heap.size)(H:p b 6=none)(I:Plain f b)(l:aN p q w)(hE:aA q g f)(J:∀o,q (w.heap.size+2) o=none)(hK:Kept (fun c=>c=b) w f){mv G:Value}{fs rs:List Nat}{R:List Tm×Bool}
 (K:f.heap[w.heap.size+2]?=some (.cells #[.bool false,mv,G,.bool R.2] 139 (0,0)))(L:Xc f b 6 (ptr (w.heap.size+2)))(hM:f.ownsRow (w.heap.size+8) 113 1 mv fs.length (fs.map pv))(hlen:fs.length=(an u).length)
 (y:∀i(h:i<(an u).length)(h':i<fs.length),dq q g (an u)[i] fs[i])(M:∀c,mv.ownBlock=some c→∀o,q c o=none)(hT:cB q g (w.heap.size+8) f G rs R.1)(N:∀c,G.ownBlock=some c→∀o,q c o=none)(z:gO u R.1 R.2):
 jJ p g b u w (.returned (Xp (w+2))) f:=by
 obtain⟨q1,m,n,rfl,r,O,P,s,PM⟩:=Es hE hM M;have Q:∀c,G.ownBlock=some c→(Value.slice m fs.length n).ownBlock≠some c:=fun c t e=>by
  obtain⟨cur,h1⟩:=iK hT.own t;obtain⟨PK,x⟩:=iK hM e;rw[h1]at x;injection x with x;injection x with _ x;exact absurd x zd
 obtain⟨S,ta,tc,rfl,A,T,_,V,W,B,PN,X,Y⟩:=rz O (hT.sub r.le (aK.refl g)) fun c t o=>by rw[s c (Q c t)];exact N c t o
 have C:∀c,c<w.heap.size+8→(Value.slice m fs.length n).ownBlock≠some c:=fun c t e=>by have:=(hM.lt c e).1;omega
 have D:∀c,c<w.heap.size+8→(Value.slice ta rs.length tc).ownBlock≠some c:=fun c t e=>by have:=(hT.own.lt c e).1;omega
 have E:∀o,S (w.heap.size+2) o=none:=fun o=>by rw[B _ (D _ zo),s _ (C _ zo)];exact J o
 have Z:q b 6=none:=by
  cases h:q b 6 with
  |none=>rfl
  |some v=>
   rcases l.new _ _ _ h with h|h
   ·rw[H]at h;cases h
   ·omega
 have PG:=T.add E K;have F:(S.add (w.heap.size+2) #[.bool false,.slice m fs.length n,.slice ta rs.length tc,.bool R.2]) b 6=none:=by
  rw[Pm.aQ _ _ _ zo,B _ (D _ zo),s _ (C _ zo)];exact Z
 have PH:=PG.put F L I;have PI:=Pm.cK (cs:=#[.bool false,.slice m fs.length n,.slice ta rs.length tc,.bool R.2]) E;have PJ:=Pm.fU (ptr (w.heap.size+2)) F;have d:=PI.trans PJ;have j:=A.le.trans d;have k:=r.le.trans j;have hl:=hT.len;have PO:(an u).length≤1048576:=by rw[kB hF.bC];unfold b7;rw[List.length_mergeSort];exact hF.cy
 have PL:R.1.length≤50:=bB.len z.cP hF.cP zd;have a:∀o,o<4→(Pm.put (S.add (w.heap.size+2) #[.bool false,.slice m fs.length n,.slice ta rs.length tc,.bool R.2]) b 6 (ptr (w.heap.size+2))) (w.heap.size+2) o=#[.bool false,.slice m fs.length n,.slice ta rs.length tc,.bool R.2][o]?:=fun o ho=>by
  rw[Pm.ba _ _ zo,Pm.aU]
 refine⟨_,_,rfl,l.le.trans k,fun c o v h=> ?_,PH,⟨w.heap.size+2,m,n,fun i=>fs.getD i 0,ta,tc,R.1,R.2,Pm.fT _ _ _ _,?_,?_,by omega,by omega,?_,?_,?_,by omega,by omega,⟨fun i=>rs.getD i 0,?_,fun i hi=>(W i hi).sub d (aK.refl g)⟩,?_,z,X,Y⟩,hK⟩
 ·by_cases e1:c=b∧o=6
  ·exact .inr (.inr e1)
  ·rw[Pm.ba _ _ e1]at h
   by_cases e2:c=w.heap.size+2
   ·exact .inr (.inl zo)
   ·rw[Pm.aQ _ _ _ e2]at h
    rcases A.new _ _ _ h with h|h
    ·rcases r.new _ _ _ h with h|h
     ·exact(l.new _ _ _ h).imp id .inl
     ·exact .inr (.inl zo)
    ·exact .inr (.inl zo)
 ·rw[a 0 zd];rfl
 ·rw[a 1 zd,←hlen];rfl
 ·rw[←hlen];exact P.sub j
 ·intro i hi
  have:=(y i hi zo).sub k (aK.refl g);simpa [show i<fs.length by omega]using this
 ·rw[a 2 zd,←hl];rfl
 ·rw[←hl];exact V.sub d
 ·rw[a 3 zd];rfl
end Go.Proofs.YtkochlhejabdcaaGreatDoor
