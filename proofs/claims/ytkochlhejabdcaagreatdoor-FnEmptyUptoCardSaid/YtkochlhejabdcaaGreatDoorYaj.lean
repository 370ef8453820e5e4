import Derived.BigQuiet
import Derived.Conc.MuData
import Derived.Conc.MuLone
import Derived.Laws.LoneSync
import Derived.Test.YtkochlhejabdcaaGreatDoorYaf
set_option maxRecDepth 100000
set_option maxHeartbeats 8000000
set_option linter.all false
namespace TS
open Go Go.RowKit
def cm(k m:Int)(i f:Nat):Nat:=if f=2 then 2 else if k=10∧m.toNat≤i then 2 else if f=1∧(k=2∨k=3∨k=5)then 1 else 0
theorem zy(u:U)(i f:Nat):cm u.k u.m i f=aO u i f:=rfl
mutual
def aV(T:List U)(f:Nat):U→U
 | .mk k n m v nm tg es _=> .mk k n m v nm tg (gX T f k m 0 es) (if k=15 then [aP]else if k=11∧f≠0 then(T[n.toNat]?).toList else [])
def gX(T:List U)(f:Nat)(k m:Int)(i:Nat):List U→List U
 | []=> []
 |e::r=>aV T (cm k m i f) e::gX T f k m (i+1) r
end
section
variable (T:List U) (f:Nat)
theorem cN(u:U):(aV T f u).k=u.k:=by cases u;rfl
theorem gY(u:U):(aV T f u).n=u.n:=by cases u;rfl
theorem gd(u:U):(aV T f u).m=u.m:=by cases u;rfl
theorem nC(u:U):(aV T f u).v=u.v:=by cases u;rfl
theorem j5(u:U):(aV T f u).nm=u.nm:=by cases u;rfl
theorem pY(u:U):(aV T f u).tg=u.tg:=by cases u;rfl
theorem kT(u:U):(aV T f u).es=gX T f u.k u.m 0 u.es:=by cases u;rfl
theorem jq(u:U):(aV T f u).un=(if u.k=15 then [aP]else if u.k=11∧f≠0 then(T[u.n.toNat]?).toList else []):=by cases u;rfl
theorem pZ(k m:Int)(l:List U):∀i,(gX T f k m i l).length=l.length:=by
 induction l with
 |nil=>exact fun _=>rfl
 |cons e r ih=>intro i;simp[gX,ih]
theorem cO(u:U):(aV T f u).es.length=u.es.length:=by rw[kT,pZ]
theorem sS(k m:Int):∀(l:List U)(i j:Nat)(h:j<l.length),(gX T f k m i l)[j]'(by rw[pZ];exact h)=aV T (cm k m (i+j) f) l[j]
 |e::r,i,0,h=>by simp[gX]
 |e::r,i,j+1,h=>by
  simp only[gX,List.getElem_cons_succ];rw[sS k m r (i+1) j (by simpa using h)];congr 2;omega
theorem iB(u:U)(j:Nat)(h:j<(aV T f u).es.length):(aV T f u).es[j]=aV T (aO u j f) (u.es[j]'(by rw[cO]at h;exact h)):=by
 have:=sS T f u.k u.m u.es 0 j (by rw[cO]at h;exact h);simp only[kT,this,Nat.zero_add,zy]
end
def Pc.f(q:Pc):Nat:=if q.t then 2 else if q.v then 1 else 0
def Pt.n:Pt→Nat| .type=>0| .term=>1| .elem=>2
theorem sT:∀{l:List U},eJ l=true→∀e∈l,e.k=7∧aR e.nm=true
 | [],_,e,he=>by cases he
 |a::r,h,e,he=>by
  simp only[eJ,Bool.and_eq_true,beq_iff_eq]at h;rcases List.mem_cons.1 he with rfl|he
  ·exact⟨h.1.1.1,h.1.1.2⟩
  ·exact sT h.2 e he
theorem sV:∀{l:List U},eJ l=true→ef l
 | [],_=>List.Pairwise.nil
 |a::r,h=>by
  simp only[eJ,Bool.and_eq_true]at h;have ih:=sV h.2;refine List.pairwise_cons.2 ⟨fun b d=> ?_,ih⟩;cases r with
  |nil=>cases d
  |cons c r=>
   rcases List.mem_cons.1 d with rfl|d
   ·exact h.1.2
   ·exact iA (a:=a) (b:=c) h.1.2 ((List.pairwise_cons.1 ih).1 b d)
structure lW(len:Nat)(t:U):Prop where
 lo:1≤t.k
 hi:t.k≤10
 kU:t.k≠2
 pl:Pl len t 0 1
theorem gg{len:Nat}{u:U}{pos f:Nat}(h1:Form len u pos f)(a:∀i(h:i<u.es.length),Pl len u.es[i] (aS u i) (aO u i f))
 (b:u.k=11→∀e∈u.un,(1≤e.k∧e.k≤10∧e.k≠2)∧Pl len e 0 1):Pl len u pos f:=by
 rw[Pl];exact⟨h1,a,b⟩
theorem zA(T:List U)(f:Nat)(u:U)(j:Nat)(e:U)(h:e∈(aV T f u).es.take j):∃x∈u.es.take j,e.k=x.k∧e.nm=x.nm:=by
 obtain⟨i,hi,rfl⟩:=List.getElem_of_mem h;rw[List.length_take,cO]at hi;rw[List.getElem_take,iB T f u i (by rw[cO];omega),cN,j5];refine⟨u.es[i]'zo,?_,rfl,rfl⟩;rw[show u.es[i]'zo=(u.es.take j)[i]'(by rw[List.length_take];omega) by rw[List.getElem_take]];exact zm _
theorem zC(T:List U)(f:Nat)(u:U)(e:U)(h:e∈(aV T f u).es):∃x∈u.es,e.k=x.k∧e.nm=x.nm:=by
 obtain⟨i,hi,rfl⟩:=List.getElem_of_mem h;rw[iB,cN,j5];exact⟨_,zm _,rfl,rfl⟩
theorem sW{α:Type}(T:List U)(f:Nat)(u:U)(g:ByteArray→α):(aV T f u).es.map (fun e=>g e.nm)=u.es.map fun e=>g e.nm:=by
 refine List.ext_getElem (by simp[cO]) fun i h1 a=> ?_;rw[List.getElem_map,List.getElem_map,iB,j5]
theorem sX(T:List U)(f i:Nat)(u:U):aS (aV T f u) i=aS u i:=by unfold aS;rw[cN,gd]
theorem p7(T:List U)(f i g:Nat)(u:U):aO (aV T f u) i g=aO u i g:=by unfold aO;rw[cN,gd]
theorem sY{len:Nat}{T:List U}(hT:∀t∈T,lW len t):∀(u:U)(q:Pc)(s:Pt),aj len u q s=true→q.d≤T.length→(s≠ .type→q.t=true)→Pl len (aV T q.f u) s.n q.f:=by
 intro u;induction u using U.bc with
 |_ u ih=>
  intro q s h hd hs;have G:q.f≤2:=by unfold Pc.f;split<;>(try split)<;>omega
  have H:q.behind.f=if q.f=2 then 2 else 0:=by
   unfold Pc.f Pc.behind;cases q.t<;>simp;cases q.v<;>simp
  have P:q.inside.f=2:=by unfold Pc.f Pc.inside;simp
  have parts:∀(E:Pc)(I:Pt),E.d=q.d→(I≠ .type→E.t=true)→(∀e∈u.es,aj len e E I=true)→(∀i,i<u.es.length→aS u i=I.n∧aO u i q.f=E.f)→
   ∀i(hi:i<(aV T q.f u).es.length),Pl len (aV T q.f u).es[i] (aS (aV T q.f u) i) (aO (aV T q.f u) i q.f):=by
   intro E I hq Q hp F i hi;rw[cO]at hi;rw[iB T q.f u i (by rw[cO];exact hi),sX,p7,(F i hi).1,(F i hi).2];exact ih _ (U.ar (zm hi)) E I (hp _ (zm hi)) zo Q
  have c:u.k≠11→(aV T q.f u).k=11→∀e∈(aV T q.f u).un,(1≤e.k∧e.k≤10∧e.k≠2)∧Pl len e 0 1:=fun h1 p=>absurd (by rw[cN]at p;exact p) h1;have j:u.k≠10→u.k≠12→∀i,aS u i=0:=fun h1 p i=>by unfold aS;rw[if_neg p,if_neg zo]
  have z:u.k≠10→u.k≠2→u.k≠3→u.k≠5→∀i,aO u i q.f=q.behind.f:=fun h1 p h3 h5 i=>by
   rw[H];unfold aO;split
   ·rfl
   ·rw[if_neg zo,if_neg zo]
  have type:aj len u q .type=true→∀pos,Pl len (aV T q.f u) pos q.f:=by
   intro h pos;by_cases R:u.k=1
   ·rw[aj.eq_def]at h;simp only[R,if_true,Bool.and_eq_true,decide_eq_true_eq,cj,List.length_eq_zero_iff]at h
    exact gg (.basic (by rw[cN];exact R) (by rw[gY];omega) (by rw[gY];omega) (by rw[kT,h.2];rfl)) (fun i hi=>by rw[cO,h.2]at hi;simp at hi) (c zo)
   by_cases A:u.k=14∨u.k=15∨u.k=16
   ·have he:u.es= []:=by
     rw[aj.eq_def]at h;rcases A with e|e|e<;>simpa [e,List.length_eq_zero_iff]using h
    refine gg ?_ (fun i hi=>by rw[cO,he]at hi;simp at hi) (c zo);by_cases J:u.k=15
    ·exact .err (by rw[cN];exact J) (by rw[kT,he];rfl) (by rw[jq,if_pos J])
    ·exact .pre (by rw[cN];omega) (by rw[kT,he];rfl)
   by_cases r:u.k=11
   ·rw[aj.eq_def]at h
    simp only[r,Int.reduceEq,if_false,or_self,if_true,Bool.and_eq_true,Bool.or_eq_true,Bool.not_eq_true',decide_eq_true_eq,cj,List.length_eq_zero_iff]at h;obtain⟨⟨⟨h0,h1⟩,p⟩,he⟩:=h;have hu:=jq T q.f u;rw[if_neg zo]at hu;have l:q.f≠0→u.n.toNat<T.length:=fun B=>by
     have:u.n<q.d:=by
      rcases p with⟨V,w⟩|p
      ·exfalso;apply B;unfold Pc.f;simp[V,w]
      ·exact p
     omega
    refine gg (.named (by rw[cN];exact r) (by rw[gY];exact h0) (by rw[gY];exact h1) (by rw[kT,he];rfl) ?_ ?_) (fun i hi=>by rw[cO,he]at hi;simp at hi) ?_
    ·rw[hu];split
     ·cases T[u.n.toNat]?<;>simp
     ·simp
    ·intro B
     rw[hu,if_pos ⟨r,B⟩,List.getElem?_eq_getElem (l B)];simp
    ·intro _ e hm
     rw[hu]at hm;split at hm
     ·rename_i M
      rw[List.getElem?_eq_getElem (l M.2)]at hm;simp only[Option.toList_some,List.mem_singleton]at hm;have:=hT e (by rw[hm];exact zm _);exact⟨⟨this.lo,this.hi,this.kU⟩,this.pl⟩
     ·cases hm
   by_cases N:u.k=2∨u.k=3
   ·rw[aj.eq_def]at h
    have g:0≤u.n∧u.es.length=1∧∀e∈u.es,aj len e q .type=true:=by
     rcases N with e|e<;>simpa [e,and_assoc]using h
    refine gg (.one (by rw[cN];exact N) (by rw[gY];exact g.1) (by rw[cO];exact g.2.1)) (parts q .type rfl (fun h=>absurd rfl h) g.2.2 fun i _=>⟨j zo zo i,iP G zo i⟩) (c zo)
   by_cases W:u.k=5
   ·rw[aj.eq_def]at h
    have g:fm u.es=true∧∀e∈u.es,aj len e q .type=true:=by simpa [W]using h
    unfold fm at g;simp only[Bool.and_eq_true,decide_eq_true_eq]at g;refine gg (.struct (by rw[cN];exact W) (fun _ e he=> ?_) ?_) (parts q .type rfl (fun h=>absurd rfl h) g.2 fun i _=>⟨j zo zo i,iP G zo i⟩) (c zo)
    ·obtain⟨x,X,_,K⟩:=zC T q.f u e he
     rw[K];exact g.1.1 x X
    ·have:=sW T q.f u (fun s=>s)
     rw[show((aV T q.f u).es.map U.nm)=u.es.map U.nm from this];refine List.Pairwise.of_map (S:=fun a b=>a≠b) ByteArray.toList (fun a b Y he=>Y (by rw[he])) ?_;rw[List.map_map];exact g.1.2
   by_cases bC:u.k=10
   ·rw[aj.eq_def]at h
    have g:cj u.m (u.es.length+1)=true∧(u.es.length- u.m≤4)∧eJ (u.es.take u.m.toNat)=true∧(∀e∈u.es.take u.m.toNat,aj len e q.behind .type=true)∧∀e∈u.es.drop u.m.toNat,aj len e q.inside .elem=true:=by
     simpa [bC,and_assoc]using h
    obtain⟨hm,Z,M,w,PG⟩:=g;simp only[cj,Bool.and_eq_true,decide_eq_true_eq]at hm;have PH:u.m.toNat≤u.es.length:=zo;refine gg (.iface (by rw[cN];exact bC) (by rw[gd];omega) (by rw[gd,cO];omega) (by rw[gd,cO];omega) (fun e he=> ?_) ?_) (fun i hi=> ?_) (c zo)
    ·rw[gd]at he
     obtain⟨x,X,hk,K⟩:=zA T q.f u _ e he;rw[hk,K];exact sT M x X
    ·have ho:=sV M
     rw[gd,List.map_take,show((aV T q.f u).es.map U.nm)=u.es.map U.nm from sW T q.f u (fun s=>s),←List.map_take,List.pairwise_map];exact ho
    ·rw[cO]at hi
     rw[iB T q.f u i (by rw[cO];exact hi),sX,p7];by_cases l:i<u.m.toNat
     ·have F:aS u i=0:=by unfold aS;rw[if_neg zo,if_neg zo]
      have C:aO u i q.f=q.behind.f:=by
       rw[H];unfold aO;split
       ·rfl
       ·rw[if_neg zo,if_neg zo]
      rw[F,C];refine ih _ (U.ar (zm hi)) q.behind .type (w _ ?_) hd (fun h=>absurd rfl h);rw[show u.es[i]=(u.es.take u.m.toNat)[i]'(by rw[List.length_take];omega) by rw[List.getElem_take]];exact zm _
     ·have F:aS u i=2:=by unfold aS;rw[if_neg zo,if_pos ⟨bC,by omega⟩]
      have C:aO u i q.f=q.inside.f:=by
       rw[P];unfold aO;split
       ·rfl
       ·rw[if_pos ⟨bC,by omega⟩]
      rw[F,C];refine ih _ (U.ar (zm hi)) q.inside .elem (PG _ ?_) hd (fun _=>rfl);rw[show u.es[i]=(u.es.drop u.m.toNat)[i- u.m.toNat]'(by rw[List.length_drop];omega) by rw[List.getElem_drop];congr 1;omega];exact zm _
   by_cases O:u.k=4∨u.k=6∨u.k=9
   ·rw[aj.eq_def]at h
    have g:cj u.n 3=true∧u.es.length=1∧∀e∈u.es,aj len e q.behind .type=true:=by
     rcases O with e|e|e<;>simpa [e,and_assoc]using h
    have K:=g.1;simp only[cj,Bool.and_eq_true,decide_eq_true_eq]at K;exact gg (.ptr (by rw[cN];exact O) (by rw[gY];omega) (by rw[gY];omega) (by rw[cO];exact g.2.1)) (parts q.behind .type rfl (fun h=>absurd rfl h) g.2.2 fun i _=>⟨j zo zo i,z zo zo zo zo i⟩) (c zo)
   by_cases k8:u.k=8
   ·rw[aj.eq_def]at h
    have g:u.es.length=2∧∀e∈u.es,aj len e q.behind .type=true:=by simpa [k8]using h
    exact gg (.map (by rw[cN];exact k8) (by rw[cO];exact g.1)) (parts q.behind .type rfl (fun h=>absurd rfl h) g.2 fun i _=>⟨j zo zo i,z zo zo zo zo i⟩) (c zo)
   by_cases k7:u.k=7
   ·rw[aj.eq_def]at h
    have g:cj u.m (u.es.length+1)=true∧(u.v=false∨0<u.m∧(u.es.getD (u.m.toNat- 1) cC).k=4)∧∀e∈u.es,aj len e q.behind .type=true:=by
     simpa [k7,and_assoc]using h
    have hm:=g.1;simp only[cj,Bool.and_eq_true,decide_eq_true_eq]at hm;refine gg (.func (by rw[cN];exact k7) (by rw[gd];omega) (by rw[gd,cO];omega) ?_) (parts q.behind .type rfl (fun h=>absurd rfl h) g.2.2 fun i _=>⟨j zo zo i,z zo zo zo zo i⟩) (c zo);rw[nC,gd];intro V;rcases g.2.1 with B|⟨h0,Z⟩
    ·rw[V]at B;cases B
    ·refine⟨by omega,fun l=> ?_⟩
     rw[iB,cN];rw[cO]at l;rw[List.getD_eq_getElem?_getD,List.getElem?_eq_getElem l]at Z;exact Z
   ·exfalso
    rw[aj.eq_def]at h;simp only[not_or]at A N O;simp[R,A,r,N,W,bC,O,k8,k7]at h
  have term:aj len u q .term=true→q.t=true→∀pos,pos=1∨pos=2→Pl len (aV T q.f u) pos q.f:=by
   intro h w pos L;have o:q.f=2:=by unfold Pc.f;simp[w]
   by_cases D:u.k=13
   ·rw[aj.eq_def]at h
    have g:u.es.length=1∧∀e∈u.es,aj len e q .type=true:=by simpa [D]using h
    refine gg (.iO (by rw[cN];exact D) L (by rw[cO];exact g.1)) (parts q .type rfl (fun h=>absurd rfl h) g.2 fun i _=>⟨j zo zo i,?_⟩) (c zo);unfold aO;rw[if_pos o,o]
   ·rw[aj.eq_def]at h
    simp only[D,if_false]at h;exact type h pos
  cases s with
  |type=>exact type h 0
  |term=>exact term h (hs zs) 1 (.inl rfl)
  |elem=>
   have w:=hs zs;have o:q.f=2:=by unfold Pc.f;simp[w]
   by_cases y:u.k=12
   ·rw[aj.eq_def]at h
    have g:2≤u.es.length∧u.es.length≤8∧∀e∈u.es,aj len e q .term=true:=by simpa [y,and_assoc]using h
    refine gg (.union (by rw[cN];exact y) rfl (by rw[cO];exact g.1) (by rw[cO];exact g.2.1)) (parts q .term rfl (fun _=>w) g.2.2 fun i _=>⟨by unfold aS;rw[if_pos y];rfl,?_⟩) (c zo);unfold aO;rw[if_pos o,o]
   ·refine term ?_ w 2 (.inr rfl)
    rw[aj.eq_def]at h⊢;simpa only[y,if_false]using h
end TS
namespace Go.Proofs.YtkochlhejabdcaaGreatDoor
open Go.RowKit Tryz TS
def Made(cs:Array Value)(T:TypeId)(w:World)(e:Ending)(a:World):Prop:=e= .returned (Xp w)∧a=w.alloc (.cells cs T)
theorem lh(k pos:Int)(a:Option Addr)(nm:ByteArray)(tt:TypeId)(ta:Option Addr)(w:World):
 Xk 90 #[.int .u8 k,.int .i64 pos,.pointer a,.string nm,(.iface tt (.pointer ta))] w (Made #[.int .i64 pos,.pointer a,.string nm,(.iface tt (.pointer ta)),.int .u8 k,.bool false] 192 w):=by
 go_enter func90,ntmps90;go_wp2_with fail
 go_ret;exact⟨rfl,rfl⟩
theorem qC(pos:Int)(a:Option Addr)(nm:ByteArray)(w:World):
 Xk 46 #[.int .i64 pos,.pointer a,.string nm,.nilIface] w (Made #[.int .i64 pos,.pointer a,.string nm,.nilIface] 134 w):=by
 go_enter func46,ntmps46;go_wp2_with fail
 go_ret;exact⟨rfl,rfl⟩
theorem Ax(pos:Int)(a:Option Addr)(nm:ByteArray)(tt:TypeId)(ta:Option Addr)(w:World):
 Xk 159 #[.int .i64 pos,.pointer a,.string nm,(.iface tt (.pointer ta))] w (Made #[.int .i64 pos,.pointer a,.string nm,(.iface tt (.pointer ta)),.int .u8 4,.bool false] 192 w):=by
 go_enter func159,ntmps159;go_wp2_with fail
 refine(lh _ _ _ _ _ _ _).mono ?_;rintro e b ⟨rfl,rfl⟩;go_wp2_with fail
 go_ret;exact⟨rfl,rfl⟩
theorem uj(pos:Int)(a:Option Addr)(nm:ByteArray)(tt:TypeId)(ta:Option Addr)(w:World):
 Xk 111 #[.int .i64 pos,.pointer a,.string nm,(.iface tt (.pointer ta))] w (Made #[.int .i64 pos,.pointer a,.string nm,(.iface tt (.pointer ta)),.int .u8 1,.bool false] 192 w):=by
 go_enter func111,ntmps111;go_wp2_with fail
 refine(lh _ _ _ _ _ _ _).mono ?_;rintro e b ⟨rfl,rfl⟩;go_wp2_with fail
 go_ret;exact⟨rfl,rfl⟩
theorem Ay(pos:Int)(a:Option Addr)(nm:ByteArray)(tt:TypeId)(ta:Option Addr)(b:Bool)(w:World):
 Xk 157 #[.int .i64 pos,.pointer a,.string nm,(.iface tt (.pointer ta)),.bool b] w (Made #[.int .i64 pos,.pointer a,.string nm,(.iface tt (.pointer ta)),.int .u8 6,.bool b] 192 w):=by
 go_enter func157,ntmps157;go_wp2_with fail
 refine(lh _ _ _ _ _ _ _).mono ?_;rintro e c ⟨rfl,rfl⟩;go_wp2_with fail
 go_ret;exact⟨rfl,rfl⟩
theorem Az(tt:TypeId)(ta:Option Addr)(w:World):Xk 102 #[.iface tt (.pointer ta)] w (Made #[.iface tt (.pointer ta)] 183 w):=by
 go_enter func102,ntmps102;go_wp2_with fail
 go_ret;exact⟨rfl,rfl⟩
theorem uk(tt:TypeId)(ta:Option Addr)(w:World):Xk 103 #[.iface tt (.pointer ta)] w (Made #[.iface tt (.pointer ta)] 197 w):=by
 go_enter func103,ntmps103;go_wp2_with fail
 go_ret;exact⟨rfl,rfl⟩
theorem AA(tt:TypeId)(ta:Option Addr)(n:Int)(w:World):Xk 101 #[(.iface tt (.pointer ta)),.int .i64 n] w (Made #[.int .i64 n,(.iface tt (.pointer ta))] 180 w):=by
 go_enter func101,ntmps101;go_wp2_with fail
 go_ret;exact⟨rfl,rfl⟩
theorem AB(kt:TypeId)(ka:Option Addr)(tt:TypeId)(ta:Option Addr)(w:World):Xk 104 #[.iface kt (.pointer ka),(.iface tt (.pointer ta))] w (Made #[.iface kt (.pointer ka),(.iface tt (.pointer ta))] 215 w):=by
 go_enter func104,ntmps104;go_wp2_with fail
 go_ret;exact⟨rfl,rfl⟩
theorem AD(d:Int)(tt:TypeId)(ta:Option Addr)(w:World):Xk 105 #[.int .i64 d,(.iface tt (.pointer ta))] w (Made #[.int .i64 d,(.iface tt (.pointer ta))] 218 w):=by
 go_enter func105,ntmps105;go_wp2_with fail
 go_ret;exact⟨rfl,rfl⟩
theorem nV(b:Bool)(tt:TypeId)(ta:Option Addr)(w:World):Xk 161 #[.bool b,(.iface tt (.pointer ta))] w (Made #[.bool b,(.iface tt (.pointer ta))] 269 w):=by
 go_enter func161,ntmps161;go_wp2_with fail
 go_ret;exact⟨rfl,rfl⟩
theorem uo(a:Option Addr)(n c:Nat)(b:0<n)(w:World):Xk 162 #[.slice a n c] w (Made #[.slice a n c] 268 w):=by
 have h:((n:Int)==0)=false:=zp;go_enter func162,ntmps162;go_wp2_with fail
 go_ret;exact⟨rfl,rfl⟩
theorem uq(a:Option Addr)(n c:Nat)(b:0<n)(w:World):Xk 92 #[.slice a n c] w (Made #[.slice a n c] 200 w):=by
 have h:(0:Int)<n:=zo;go_enter func92,ntmps92;go_wp2_with fail
 go_ret;exact⟨rfl,rfl⟩
theorem AE(a:Option Addr)(c:Nat)(w:World):Xk 92 #[.slice a 0 c] w fun e b=>e= .returned (.pointer none)∧w=b:=by
 go_enter func92,ntmps92;go_wp2_with fail
 go_ret;exact⟨rfl,rfl⟩
theorem AF(s t:ByteArray)(w:World):Xk 43 #[.string s,.string t] w (Made #[.string s,.string t] 100 w):=by
 go_enter func43,ntmps43;go_wp2_with fail
 go_ret;exact⟨rfl,rfl⟩
theorem nW(pos:Int)(b:Option Addr)(nm:ByteArray)(a:Addr)(w:World):
 Xk 93 #[.int .i64 pos,.pointer b,.string nm,.pointer (some a)] w (Made #[.int .i64 pos,.pointer b,.string nm,.iface 108 (.pointer (some a)),.bool false,.bool false] 212 w):=by
 go_enter func93,ntmps93;go_wp2_with fail
 go_ret;exact⟨rfl,rfl⟩
theorem AG(n:Int)(w:World):Xk 106 #[.int .i64 n] w fun e b=>e= .returned (.int .i64 (if n=1 then 1 else if n=2 then 2 else 0))∧w=b:=by
 by_cases h1:n=1
 ·subst h1
  go_enter func106,ntmps106;go_wp2_with fail
  go_ret;exact⟨rfl,rfl⟩
 ·by_cases a:n=2
  ·subst a
   go_enter func106,ntmps106;go_wp2_with fail
   go_ret;exact⟨rfl,rfl⟩
  ·have c:(n==1)=false:=by simp[h1]
   have d:(n==2)=false:=by simp[a]
   have hr:(if n=1 then(1:Int)else if n=2 then 2 else 0)=0:=by rw[if_neg h1,if_neg a]
   rw[hr];clear h1 a hr;go_enter func106,ntmps106;go_wp2_with fail
   go_ret;exact⟨rfl,rfl⟩
theorem fP{T e:TypeId}(a u:TypeId)(v:Value)(W:World)(hT:Tryz.prog.underlying T=some (.pointer e))(b:(zeroValue T).run Tryz.prog W= .ok (.pointer none) W):
 (Instr.typeAssert (.iface u v) a T true).run Tryz.prog W= .ok (if u=T then .tuple #[v,.bool true]else .tuple #[.pointer none,.bool false]) W:=by
 simp only[Instr.typeAssert,Sem.run_bind,run_underlying hT,Result.andThen_ok];by_cases h:u=T
 ·simp[h]
 ·simp[h,b]
theorem nX(a u:TypeId)(v:Value)(W:World):(Instr.typeAssert (.iface u v) a 142 true).run Tryz.prog W= .ok (if u=142 then .tuple #[v,.bool true]else .tuple #[.pointer none,.bool false]) W:=fP a u v W underlying142 zk
theorem asNamed(a u:TypeId)(v:Value)(W:World):(Instr.typeAssert (.iface u v) a 60 true).run Tryz.prog W= .ok (if u=60 then .tuple #[v,.bool true]else .tuple #[.pointer none,.bool false]) W:=fP a u v W underlying60 zk
theorem qD(a u:TypeId)(v:Value)(W:World):(Instr.typeAssert (.iface u v) a 220 true).run Tryz.prog W= .ok (if u=220 then .tuple #[v,.bool true]else .tuple #[.pointer none,.bool false]) W:=fP a u v W underlying220 zk
theorem ei(a u:TypeId)(v:Value)(W:World):(Instr.typeAssert (.iface u v) a 37 true).run Tryz.prog W= .ok (if u=37 then .tuple #[v,.bool true]else .tuple #[.pointer none,.bool false]) W:=fP a u v W underlying37 zk
theorem bG(a u:TypeId)(v:Value)(W:World):(Instr.typeAssert (.iface u v) a 105 true).run Tryz.prog W= .ok (if u=105 then .tuple #[v,.bool true]else .tuple #[.pointer none,.bool false]) W:=fP a u v W underlying105 zk
theorem gP(a u:TypeId)(v:Value)(W:World):(Instr.typeAssert (.iface u v) a 108 true).run Tryz.prog W= .ok (if u=108 then .tuple #[v,.bool true]else .tuple #[.pointer none,.bool false]) W:=fP a u v W underlying108 zk
theorem asTuple(a u:TypeId)(v:Value)(W:World):(Instr.typeAssert (.iface u v) a 109 true).run Tryz.prog W= .ok (if u=109 then .tuple #[v,.bool true]else .tuple #[.pointer none,.bool false]) W:=fP a u v W underlying109 zk
theorem cT(a u:TypeId)(v:Value)(W:World):(Instr.typeAssert (.iface u v) a 144 true).run Tryz.prog W= .ok (if u=144 then .tuple #[v,.bool true]else .tuple #[.pointer none,.bool false]) W:=fP a u v W underlying144 zk
theorem asSlice(a u:TypeId)(v:Value)(W:World):(Instr.typeAssert (.iface u v) a 146 true).run Tryz.prog W= .ok (if u=146 then .tuple #[v,.bool true]else .tuple #[.pointer none,.bool false]) W:=fP a u v W underlying146 zk
theorem cU(a u:TypeId)(v:Value)(W:World):(Instr.typeAssert (.iface u v) a 148 true).run Tryz.prog W= .ok (if u=148 then .tuple #[v,.bool true]else .tuple #[.pointer none,.bool false]) W:=fP a u v W underlying148 zk
theorem jx(a u:TypeId)(v:Value)(W:World):(Instr.typeAssert (.iface u v) a 150 true).run Tryz.prog W= .ok (if u=150 then .tuple #[v,.bool true]else .tuple #[.pointer none,.bool false]) W:=fP a u v W underlying150 zk
theorem eB(a u:TypeId)(v:Value)(W:World):(Instr.typeAssert (.iface u v) a 152 true).run Tryz.prog W= .ok (if u=152 then .tuple #[v,.bool true]else .tuple #[.pointer none,.bool false]) W:=fP a u v W underlying152 zk
theorem di(a u:TypeId)(v:Value)(W:World):(Instr.typeAssert (.iface u v) a 184 true).run Tryz.prog W= .ok (if u=184 then .tuple #[v,.bool true]else .tuple #[.pointer none,.bool false]) W:=fP a u v W underlying184 zk
theorem iF(a u:TypeId)(v:Value)(W:World):(Instr.typeAssert (.iface u v) a 202 true).run Tryz.prog W= .ok (if u=202 then .tuple #[v,.bool true]else .tuple #[.pointer none,.bool false]) W:=fP a u v W underlying202 zk
theorem ak{K:TypeId}(f:∀(a u:TypeId)(v:Value)(W:World),(Instr.typeAssert (.iface u v) a K true).run Tryz.prog W= .ok (if u=K then .tuple #[v,.bool true]else .tuple #[.pointer none,.bool false]) W)(u:TypeId)(b:Nat)(h:u≠K)(W:World):(Instr.typeAssert (Xi u b) 49 K true).run Tryz.prog W= .ok (.tuple #[.pointer none,.bool false]) W:=by rw[f,if_neg h]
theorem bk{K:TypeId}(f:∀(a u:TypeId)(v:Value)(W:World),(Instr.typeAssert (.iface u v) a K true).run Tryz.prog W= .ok (if u=K then .tuple #[v,.bool true]else .tuple #[.pointer none,.bool false]) W)(b:Nat)(W:World):(Instr.typeAssert (Xi K b) 49 K true).run Tryz.prog W= .ok (.tuple #[Xp b,.bool true]) W:=by rw[f,if_pos rfl]
theorem AH(a:Addr)(w:World):Xk 282 #[.pointer (some a)] w fun e b=>e= .returned (.iface 37 (.pointer (some a)))∧w=b:=by
 go_enter func282,ntmps282;go_wp2_with fail
 go_ret;exact⟨rfl,rfl⟩
theorem AI(a:Addr)(w:World):Xk 290 #[.pointer (some a)] w fun e b=>e= .returned (.iface 105 (.pointer (some a)))∧w=b:=by
 go_enter func290,ntmps290;go_wp2_with fail
 go_ret;exact⟨rfl,rfl⟩
theorem AJ(a:Addr)(w:World):Xk 291 #[.pointer (some a)] w fun e b=>e= .returned (.iface 108 (.pointer (some a)))∧w=b:=by
 go_enter func291,ntmps291;go_wp2_with fail
 go_ret;exact⟨rfl,rfl⟩
theorem AK(a:Addr)(w:World):Xk 296 #[.pointer (some a)] w fun e b=>e= .returned (.iface 144 (.pointer (some a)))∧w=b:=by
 go_enter func296,ntmps296;go_wp2_with fail
 go_ret;exact⟨rfl,rfl⟩
theorem AL(a:Addr)(w:World):Xk 298 #[.pointer (some a)] w fun e b=>e= .returned (.iface 146 (.pointer (some a)))∧w=b:=by
 go_enter func298,ntmps298;go_wp2_with fail
 go_ret;exact⟨rfl,rfl⟩
theorem AM(a:Addr)(w:World):Xk 300 #[.pointer (some a)] w fun e b=>e= .returned (.iface 148 (.pointer (some a)))∧w=b:=by
 go_enter func300,ntmps300;go_wp2_with fail
 go_ret;exact⟨rfl,rfl⟩
theorem AN(a:Addr)(w:World):Xk 302 #[.pointer (some a)] w fun e b=>e= .returned (.iface 150 (.pointer (some a)))∧w=b:=by
 go_enter func302,ntmps302;go_wp2_with fail
 go_ret;exact⟨rfl,rfl⟩
theorem AO(a:Addr)(w:World):Xk 304 #[.pointer (some a)] w fun e b=>e= .returned (.iface 152 (.pointer (some a)))∧w=b:=by
 go_enter func304,ntmps304;go_wp2_with fail
 go_ret;exact⟨rfl,rfl⟩
theorem AP(a:Addr)(w:World):Xk 305 #[.pointer (some a)] w fun e b=>e= .returned (.iface 184 (.pointer (some a)))∧w=b:=by
 go_enter func305,ntmps305;go_wp2_with fail
 go_ret;exact⟨rfl,rfl⟩
theorem AQ(a:Addr)(w:World):Xk 307 #[.pointer (some a)] w fun e b=>e= .returned (.iface 202 (.pointer (some a)))∧w=b:=by
 go_enter func307,ntmps307;go_wp2_with fail
 go_ret;exact⟨rfl,rfl⟩
theorem fF(t:TypeId)(v:Value)(a:t≠142)(w:World):Xk 125 #[.iface t v] w fun e b=>e= .returned (.iface t v)∧w=b:=by
 have h1:∀W,(Instr.typeAssert (.iface t v) 49 142 true).run Tryz.prog W= .ok (.tuple #[.pointer none,.bool false]) W:=fun W=>by rw[nX,if_neg a]
 clear a;go_enter func125,ntmps125;go_wp2_with fail
 go_ret;exact⟨rfl,rfl⟩
theorem ur(b:Nat)(t:TypeId)(v:Value)(w:World)(h:Xc w b 3 (.iface t v)):Xk 180 #[Xp b] w fun e a=>e= .returned (.iface t v)∧w=a:=by
 go_enter func180,ntmps180;go_wp2_with fail
 go_ret;exact⟨rfl,rfl⟩
theorem AR(b:Nat)(t:TypeId)(v:Value)(w:World)(h:Xc w b 3 (.iface t v)):Xk 125 #[Xi 142 b] w fun e a=>e= .returned (.iface t v)∧w=a:=by
 have h1:∀W,(Instr.typeAssert (Xi 142 b) 49 142 true).run Tryz.prog W= .ok (.tuple #[Xp b,.bool true]) W:=fun W=>by rw[nX,if_pos rfl]
 go_enter func125,ntmps125;go_wp2_with fail
 refine(ur b t v _ h).mono ?_;rintro e a ⟨rfl,rfl⟩;go_wp2_with fail
 go_ret;exact⟨rfl,rfl⟩
abbrev AS:Go.Conc.Locks.MuLink:={lock:=97,unlock:=98,ilock:=152,iunlock:=153,lockSlow:=202,unlockSlow:=205,disable:=198,enable:=200,acquire:=201,relMerge:=203,cas32:=199,add32:=204,tMutex:=128,tIMutex:=126,tPMutex:=237,tPIMutex:=276,tPI32:=278,tUP:=280,tNoCopy:=123,tU32:=124}
theorem uu:Go.Conc.Locks.MuLib Tryz.prog AS:=
 ⟨func97,func98,func152,func153,func198,func200,func201,func203,func199,func204,underlying126,runUnderlying126,sizeOf126,isAgg126,zeroValue126,underlying128,runUnderlying128,sizeOf128,isAgg128,zeroValue128,underlying237,runUnderlying237,sizeOf237,isAgg237,zeroValue237,underlying276,runUnderlying276,sizeOf276,isAgg276,zeroValue276,underlying278,runUnderlying278,sizeOf278,isAgg278,zeroValue278,underlying280,runUnderlying280,sizeOf280,isAgg280,zeroValue280,underlying123,runUnderlying123,sizeOf123,isAgg123,zeroValue123,underlying21,runUnderlying21,sizeOf21,isAgg21,zeroValue21,zk⟩
theorem uv{P:Program}{f:FuncId}{fn:Func}(c:P.funcs[f]?=some fn)(b:(fn.name== "runtime.NumGoroutine")=false)(d:fn.body.isNone=true)(e:Extern.findNext fn=none)(k:IntKind)
 (he:Extern.find fn=some (Extern.Atomic.update (Op.intBits .or) k false)){a:Addr}{x y s:Int}{w:World}(g:w.cell? a=some (.int k x))(h:w.frozen? a=false)
 (i:(Op.intBits .or k x y).run P w= .ok (.int k s) w):
 (callFunc f #[.pointer (some a),.int k y]).run P w= .ok (.value (.int k x)) (w.setCell a (.int k s)):=by
 rw[run_callFunc_extern c b d e he]
 change (Sem.run P (do
  let a'←asAddr (.pointer (some a))
  let iX←Extern.Atomic.read (.int k) a'
  let new←Op.intBits .or k (←asInt iX) (←asInt (.int k y))
  store a' new .atomic
  pure (if false=true then new else iX)) w).andThen _=_
 simp[Extern.Atomic.read,asAddr,asInt,asIntOf,g,h,i,run_store P w a (.int k s) .atomic rfl,Result.andThen]
theorem AT(b o:Nat)(w:World)(a:Xc w b (o+5) (.int .u32 0))(c:w.frozen? (Xa b (o+5))=false):
 Xk 99 #[Xa b o,.int .u32 7] w fun e d=>e= .returned (.tuple #[])∧d=w.setCell (Xa b (o+5)) (.int .u32 7):=by
 have f:=uv (P:=Tryz.prog) func154 zk zk zk .u32 zk (x:=0) (y:=7) (s:=7) a c rfl;go_enter func99,ntmps99;go_wp2
 go_end0
 exact⟨rfl,rfl⟩
theorem AU(b o:Nat)(w:World)(a:Xc w b (o+5) (.int .u32 7))(c:w.frozen? (Xa b (o+5))=false):
 Xk 99 #[Xa b o,.int .u32 8] w fun e d=>e= .returned (.tuple #[])∧d=w.setCell (Xa b (o+5)) (.int .u32 15):=by
 have f:=uv (P:=Tryz.prog) func154 zk zk zk .u32 zk (x:=7) (y:=8) (s:=15) a c rfl;go_enter func99,ntmps99;go_wp2
 go_end0
 exact⟨rfl,rfl⟩
theorem uw(b o:Nat)(m:Int)(hm:m=3∨m=8)(w:World)(a:Xc w b (o+5) (.int .u32 15)):
 Xk 212 #[Xa b o,.int .u32 m] w fun e c=>e= .returned (.bool true)∧w=c:=by
 have d:=run_call_load (P:=Tryz.prog) func238 zk zk zk .u32 zk a;rcases hm with rfl|rfl<;>(go_enter func212,ntmps212;go_wp2;go_ret;exact⟨rfl,rfl⟩)
theorem AV(b:Nat)(v:Value)(w:World)(c:Xc w b 6 v):
 Xk 286 #[Xp b] w fun e a=>e= .returned v∧w=a:=by
 go_enter func286,ntmps286;go_wp2
 go_ret;exact⟨rfl,rfl⟩
theorem ux(b:Nat)(w:World)(a:Xc w b 5 (.int .u32 15)):
 Xk 165 #[Xp b] w fun e c=>e= .returned (Xp b)∧w=c:=by
 go_enter func165,ntmps165;go_wp2_with fail
 refine(uw b 0 3 (Or.inl rfl) _ (by simpa using a)).mono ?_;rintro d f ⟨rfl,rfl⟩;go_wp2_with fail
 go_ret;exact⟨rfl,rfl⟩
theorem uy{T e:TypeId}(a:TypeId)(W:World)(hT:Tryz.prog.underlying T=some (.pointer e))(b:(zeroValue T).run Tryz.prog W= .ok (.pointer none) W):
 (Instr.typeAssert .nilIface a T true).run Tryz.prog W= .ok (.tuple #[.pointer none,.bool false]) W:=by
 simp only[Instr.typeAssert,Sem.run_bind,run_underlying hT,Result.andThen_ok];simp[b]
theorem AW(a:TypeId)(W:World):(Instr.typeAssert .nilIface a 142 true).run Tryz.prog W= .ok (.tuple #[.pointer none,.bool false]) W:=uy a W underlying142 zk
theorem AX(a:TypeId)(W:World):(Instr.typeAssert .nilIface a 60 true).run Tryz.prog W= .ok (.tuple #[.pointer none,.bool false]) W:=uy a W underlying60 zk
theorem AY(w:World):Xk 125 #[.nilIface] w fun e a=>e= .returned .nilIface∧w=a:=by
 have h1:=AW 49;go_enter func125,ntmps125;go_wp2_with fail
 go_ret;exact⟨rfl,rfl⟩
theorem AZ(w:World):Xk 95 #[.nilIface] w fun e a=>e= .returned (.pointer none)∧w=a:=by
 have h1:=AX 49;go_enter func95,ntmps95;go_wp2_with fail
 refine(AY _).mono ?_;rintro e a ⟨rfl,rfl⟩;go_wp2_with fail
 go_ret;exact⟨rfl,rfl⟩
theorem qE(u:TypeId)(p:Option Addr)(b:u≠142)(c:u≠60)(w:World):Xk 95 #[.iface u (.pointer p)] w fun e a=>e= .returned (.pointer none)∧w=a:=by
 have h1:∀W,(Instr.typeAssert (.iface u (.pointer p)) 49 60 true).run Tryz.prog W= .ok (.tuple #[.pointer none,.bool false]) W:=fun W=>by rw[asNamed,if_neg c]
 go_enter func95,ntmps95;go_wp2_with fail
 refine(fF u (.pointer p) b _).mono ?_;rintro e a ⟨rfl,rfl⟩;go_wp2_with fail
 go_ret;exact⟨rfl,rfl⟩
theorem kj(W:World)(cs:Array Value){T:TypeId}{B i:Nat}(h:W.heap.size=B):(W.alloc (.cells cs T)).cell? (Xa B i)=cs[i]?:=by subst h;simp
theorem mw(W:World)(cs:Array Value){T:TypeId}{B i:Nat}(h:W.heap.size=B):(W.alloc (.cells cs T)).frozen? (Xa B i)=false:=by subst h;simp
abbrev dt(obj:Addr)(nil:Bool)(a st:Int)(rhs eW:Value)(ms:Value):Array Value:=#[.pointer none,.pointer (some obj),.bool nil,.int .i32 a,.int .u32 0,.int .u32 st,rhs,eW,.bool false,ms]
theorem uz(a:Nat)(w:World)(c:a<w.heap.size)(d:Xc w a 3 .nilIface)(f:w.frozen? (Xa a 3)=false):
 Xk 89 #[.pointer none,Xp a,.nilIface,.slice none 0 0] w fun e b=>e= .returned (Xp w)∧
  b=(w.setCell (Xa a 3) (Xi 60 w)).alloc (.cells (dt (Xa a 0) false 0 0 .nilIface .nilIface (.slice none 0 0)) 130):=by
 go_enter func89,ntmps89;go_wp2_with fail
 go_ret;exact⟨rfl,rfl⟩
theorem A0(b:Nat)(u:TypeId)(a:Option Addr)(w:World)(d:b<w.heap.size)(f:Xc w b 3 .nilIface)(g:w.frozen? (Xa b 3)=false):
 Xk 89 #[.pointer none,Xp b,.iface u (.pointer a),.slice none 0 0] w fun e c=>e= .returned (Xp w)∧
  c=(w.setCell (Xa b 3) (Xi 60 w)).alloc (.cells (dt (Xa b 0) false 0 0 (.iface u (.pointer a)) .nilIface (.slice none 0 0)) 130):=by
 go_enter func89,ntmps89;go_wp2_with fail
 go_ret;exact⟨rfl,rfl⟩
theorem A1(a:Nat)(w:World)(c:a<w.heap.size)(d:Xc w a 3 .nilIface)(f:w.frozen? (Xa a 3)=false):
 Xk 45 #[Xp a,.nilIface,.slice none 0 0] w fun e b=>e= .returned (Xp w)∧
  b=(w.setCell (Xa a 3) (Xi 60 w)).alloc (.cells (dt (Xa a 0) true 0 0 .nilIface .nilIface (.slice none 0 0)) 130):=by
 go_enter func45,ntmps45;go_wp2_with fail
 refine(AZ _).mono ?_;rintro e b ⟨rfl,rfl⟩;go_wp2_with fail
 refine(uz a _ c d f).mono ?_;rintro e b ⟨rfl,rfl⟩;go_wp2_with fail
 go_ret;exact⟨rfl,rfl⟩
theorem qF(b:Nat)(u:TypeId)(a:Option Addr)(k:u≠142)(l:u≠60)(w:World)
 (g:∃c,Xc w b 2 (.bool c))(h:Xc w b 3 (.int .i32 0))(i:Xc w b 5 (.int .u32 0))(j:∃c,Xc w b 6 c)(h7:∃c,Xc w b 7 c)
 (f2:w.frozen? (Xa b 2)=false)(f3:w.frozen? (Xa b 3)=false)(f5:w.frozen? (Xa b 5)=false)(f6:w.frozen? (Xa b 6)=false)(f7:w.frozen? (Xa b 7)=false):
 Xk 49 #[Xp b,.iface u (.pointer a)] w fun e d=>e= .returned (.tuple #[])∧
  d=((((((w.setCell (Xa b 3) (.int .i32 1)).setCell (Xa b 6) (.iface u (.pointer a))).setCell (Xa b 2) (.bool false)).setCell (Xa b 5) (.int .u32 7)).setCell (Xa b 7) (.iface u (.pointer a))).setCell (Xa b 5) (.int .u32 15)).setCell (Xa b 3) (.int .i32 0):=by
 obtain⟨c2,g⟩:=g;obtain⟨n,j⟩:=j;obtain⟨o,h7⟩:=h7;go_enter_defers func49,ntmps49
 go_wp2_with fail
 refine(qE u a k l _).mono ?_;rintro e d ⟨rfl,rfl⟩;go_wp2_with fail
 refine(Go.MuLone.lock_free uu (Xa b 3) _ h f3).mono ?_;rintro e d ⟨rfl,rfl⟩;go_wp2_with fail
 refine(AT b 0 _ ?_ ?_).mono ?_
 ·simp[go_sem,i]
 ·simp[f5]
 rintro e d ⟨rfl,rfl⟩;go_wp2_with fail
 refine(AU b 0 _ ?_ ?_).mono ?_
 ·simp[go_sem,i]
 ·simp[f5]
 rintro e d ⟨rfl,rfl⟩;go_wp2_with fail
 refine leaves_cons (f:=98) (args:=#[Xa b 3]) zs (by simp[go_sem]) ?_;refine(Go.MuLone.unlock_deferred uu (Xa b 3) .returning _ ?_ ?_).mono ?_
 ·simp[go_sem,h]
 ·simp[f3]
 rintro e p m ⟨rfl,rfl,rfl⟩;exact⟨_,results_none rfl _ _ _,rfl,rfl⟩
theorem A2(b:Nat)(u:TypeId)(a:Option Addr)(f:u≠142)(g:u≠60)(w:World)(h:b<w.heap.size)(i:Xc w b 3 .nilIface)(j:w.frozen? (Xa b 3)=false):
 Xk 45 #[Xp b,.iface u (.pointer a),.slice none 0 0] w fun e c=>e= .returned (Xp w)∧
  c=(w.setCell (Xa b 3) (Xi 60 w)).alloc (.cells (dt (Xa b 0) false 0 15 (.iface u (.pointer a)) (.iface u (.pointer a)) (.slice none 0 0)) 130):=by
 go_enter func45,ntmps45;go_wp2_with fail
 refine(qE u a f g _).mono ?_;rintro e c ⟨rfl,rfl⟩;go_wp2_with fail
 refine(A0 b u a _ h i j).mono ?_;rintro e c ⟨rfl,rfl⟩;go_wp2_with fail
 have d:(w.setCell (Xa b 3) (Xi 60 w)).heap.size=w.heap.size:=zs;refine(qF w.heap.size u a f g _ ⟨false,?_⟩ ?_ ?_ ⟨.iface u (.pointer a),?_⟩ ⟨.nilIface,?_⟩ ?_ ?_ ?_ ?_ ?_).mono ?_;iterate 5 (rw[kj _ _ d];rfl)
 iterate 5 (rw[mw _ _ d])
 clear d;rintro e c ⟨rfl,rfl⟩;go_wp2_with fail
 go_ret;exact⟨rfl,rfl⟩
theorem A3(b:Nat)(u:Value)(t:TypeId)(a:Option Addr)(w:World)(d:Xc w b 5 (.int .u32 15))(f:Xc w b 6 (.iface t (.pointer a)))(h7:Xc w b 7 (.iface t (.pointer a))):
 Xk 284 #[Xp b] w fun e c=>e= .returned (.iface t (.pointer a))∧w=c:=by
 go_enter func284,ntmps284;go_wp2_with fail
 refine(ux b _ d).mono ?_;rintro e c ⟨rfl,rfl⟩;go_wp2_with fail
 refine(AV b _ _ f).mono ?_;rintro e c ⟨rfl,rfl⟩;go_wp2_with fail
 refine(uw b 0 8 (Or.inr rfl) _ d).mono ?_;rintro e c ⟨rfl,rfl⟩;go_wp2_with fail
 go_ret;exact⟨rfl,rfl⟩
end Go.Proofs.YtkochlhejabdcaaGreatDoor
namespace TS
open Go Go.Proofs.Tryz
inductive iG (w:World) (A t:TypeId) (p:Option Addr):Nat→Prop
 |last {b:Nat}:Xc w b 2 (.iface t (.pointer p))→iG w A t p b
 |next {b c:Nat}:Xc w b 2 (Xi A c)→c<b→iG w A t p c→iG w A t p b
def kk:Value→Nat
 | .pointer (some a)=>a.block+1
 |_=>0
@[simp] theorem HT (a:Addr):kk (.pointer (some a))=a.block+1:=rfl
@[simp] theorem HU:kk (.pointer none)=0:=rfl
end TS
namespace Go.Proofs.YtkochlhejabdcaaGreatDoor
open Go.RowKit TS Tryz
theorem A4(b:Nat)(t:TypeId)(p:Option Addr)(w:World)(d:t≠142)(l:Xc w b 3 .nilIface)(f3:w.frozen? (Xa b 3)=false)(h:iG w 142 t p b):
 Xk 180 #[Xp b] w fun e f=>e= .returned (.iface t (.pointer p))∧f=w.setCell (Xa b 3) (.iface t (.pointer p)):=by
 have h1:∀W,(Instr.typeAssert (.iface t (.pointer p)) 49 142 true).run Tryz.prog W= .ok (.tuple #[.pointer none,.bool false]) W:=fun W=>by rw[nX,if_neg d]
 have m:∀(c:Nat) W,(Instr.typeAssert (Xi 142 c) 49 142 true).run Tryz.prog W= .ok (.tuple #[Xp c,.bool true]) W:=fun c W=>by rw[nX,if_pos rfl]
 clear d;go_enter func180,ntmps180;go_wp2_with fail
 go_loopw [3,4] (fun vt a wr=>wr=w∧((∃c,a=Xp c∧iG w 142 t p c)∨(a= .pointer none∧vt= .iface t (.pointer p)))) (fun _ a _=>kk a)
 case atStart=>exact⟨rfl,Or.inl ⟨b,rfl,h⟩⟩
 case round=>
  obtain⟨rfl,⟨c,rfl,g⟩|⟨rfl,rfl⟩⟩:=hrel
  ·cases g with
   |last i=>
    go_wp2_with fail
    refine⟨⟨trivial,Or.inr ⟨rfl,rfl⟩⟩,?_⟩;simp
   |next i j k=>
    rename_i c';go_wp2_with fail
    refine⟨⟨trivial,Or.inl ⟨c',rfl,k⟩⟩,?_⟩;simp;omega
  ·go_wp2_with fail
   go_ret;exact⟨rfl,rfl⟩
theorem uA(b:Nat)(t:TypeId)(p:Option Addr)(w:World)(c:t≠142)(d:Xc w b 3 .nilIface)(f3:w.frozen? (Xa b 3)=false)(h:iG w 142 t p b):
 Xk 156 #[Xp b] w fun e a=>e= .returned (.tuple #[])∧a=w.setCell (Xa b 3) (.iface t (.pointer p)):=by
 go_enter func156,ntmps156;go_wp2_with fail
 refine(A4 b t p _ c d f3 h).mono ?_;rintro e a ⟨rfl,rfl⟩;go_wp2_with fail
 go_end0
 exact⟨rfl,rfl⟩
abbrev iH(obj self:Addr)(rhs act:Value):Array Value:=#[.pointer (some obj),.pointer (some self),rhs,act]
theorem uB(b:Nat)(u:TypeId)(a:Option Addr)(w:World)(d:b<w.heap.size)(f:Xc w b 3 .nilIface)(g:w.frozen? (Xa b 3)=false):
 Xk 155 #[.pointer none,Xp b,.iface u (.pointer a)] w fun e c=>e= .returned (Xp w)∧
  c=(w.setCell (Xa b 3) (Xi 142 w)).alloc (.cells (iH (Xa b 0) (Xa w 0) (.iface u (.pointer a)) .nilIface) 284):=by
 go_enter func155,ntmps155;go_wp2_with fail
 go_ret;exact⟨rfl,rfl⟩
theorem A5{w d:World}{A t:TypeId}{p:Option Addr}{b n:Nat}(h:iG w A t p b)(e:b<n)(hk:∀c,c<n→∀v,Xc w c 2 v→Xc d c 2 v):iG d A t p b:=by
 induction h with
 |last h=>exact .last (hk _ e _ h)
 |next h a _ ih=>exact .next (hk _ e _ h) a (ih zo)
theorem A6(b:Nat)(u:TypeId)(a:Option Addr)(g:u≠142)(w:World)(i:b<w.heap.size)(j:Xc w b 3 .nilIface)(k:w.frozen? (Xa b 3)=false):
 Xk 100 #[Xp b,.iface u (.pointer a)] w fun e d=>e= .returned (Xp w)∧
  d=(w.setCell (Xa b 3) (Xi 142 w)).alloc (.cells (iH (Xa b 0) (Xa w 0) (.iface u (.pointer a)) (.iface u (.pointer a))) 284):=by
 have h:(w.setCell (Xa b 3) (Xi 142 w)).heap.size=w.heap.size:=zs;have c:=zh h;clear h;have f:=zh g;clear g;go_enter func100,ntmps100;go_wp2_with fail
 refine(uB b u a _ i j k).mono ?_;rintro e d ⟨rfl,rfl⟩;go_wp2_with fail
 refine(uA w.heap.size u a _ f.out ?_ ?_ (.last ?_)).mono ?_
 ·rw[kj _ _ c.out];rfl
 ·rw[mw _ _ c.out]
 ·rw[kj _ _ c.out];rfl
 rintro e d ⟨rfl,rfl⟩;go_wp2_with fail
 go_ret;exact⟨rfl,rfl⟩
theorem A7(b c:Nat)(t:TypeId)(p:Option Addr)(j:t≠142)(w:World)(l:b<w.heap.size)(m:Xc w b 3 .nilIface)(n:w.frozen? (Xa b 3)=false)
 (f:c<w.heap.size)(h:iG w 142 t p c):
 Xk 100 #[Xp b,Xi 142 c] w fun e g=>e= .returned (Xp w)∧
  g=(w.setCell (Xa b 3) (Xi 142 w)).alloc (.cells (iH (Xa b 0) (Xa w 0) (Xi 142 c) (.iface t (.pointer p))) 284):=by
 have k:(w.setCell (Xa b 3) (Xi 142 w)).heap.size=w.heap.size:=zs;have a:=zh k;clear k;have i:=zh j;clear j;go_enter func100,ntmps100;go_wp2_with fail
 refine(uB b _ _ _ l m n).mono ?_;rintro e g ⟨rfl,rfl⟩;go_wp2_with fail
 refine(uA w.heap.size t p _ i.out ?_ ?_ (.next (c:=c) ?_ f (A5 h f ?_))).mono ?_
 ·rw[kj _ _ a.out];rfl
 ·rw[mw _ _ a.out]
 ·rw[kj _ _ a.out];rfl
 ·intro d o v q
  rw[World.cell?_alloc_lt _ _ _ (by rw[a.out];exact o),World.cell?_setCell_other _ _ _ _ zs];exact q
 rintro e g ⟨rfl,rfl⟩;go_wp2_with fail
 go_ret;exact⟨rfl,rfl⟩
end Go.Proofs.YtkochlhejabdcaaGreatDoor
namespace Go.Proofs.YtkochlhejabdcaaGreatDoor
open Go.RowKit TS Tryz
theorem iI(w:World):Xk 148 #[.bool true] w fun e a=>e= .returned (.tuple #[])∧w=a:=by
 go_enter func148,ntmps148;go_wp2_with fail
 go_end0
 exact⟨rfl,rfl⟩
theorem A8(b a:Nat)(s c:ByteArray)(w:World)(h:Xc w b 0 (.string s))(f:Xc w a 0 (.string c)):
 Xk 164 #[Xp b,Xp a] w fun e d=>e= .returned (.bool (s.toList==c.toList))∧∃n,d=w.drewN n:=by
 go_enter func164,ntmps164;go_wp2_with fail
 go_quiet (fail)
 go_wp2_with fail
 go_ret;exact⟨rfl,_,rfl⟩
theorem mx(w:World):Xk 96 #[] w fun e a=>e= .returned (.slice (Xa (w+1) 0) 1 1)∧
 a=(w.alloc (.cells #[.bool false,.nilIface] 168)).alloc (.cells #[Xp w] 164):=by
 go_enter func96,ntmps96;go_wp2_with fail
 go_ret;exact⟨rfl,rfl⟩
theorem A9(w:World):Xk 145 #[] w fun e a=>e= .returned (Xp (w+2))∧
 a=((w.alloc (.cells #[.bool false,.nilIface] 168)).alloc (.cells #[Xp w] 164)).alloc (.cells #[.bool false,.slice none 0 0,.slice (Xa (w+1) 0) 1 1,.bool false] 139):=by
 go_enter func145,ntmps145;go_wp2_with fail
 refine(mx _).mono ?_;rintro e a ⟨rfl,rfl⟩;go_wp2_with fail
 go_ret;exact⟨rfl,rfl⟩
abbrev dI(ms es:Value)(comp:Bool)(a:Value):Array Value:=#[.pointer none,ms,es,.pointer none,.bool false,.bool comp,a]
theorem A_(w:World):Xk 47 #[] w fun e a=>e= .returned (Xp (w+3))∧
 a=(((w.alloc (.cells #[.bool false,.nilIface] 168)).alloc (.cells #[Xp w] 164)).alloc (.cells #[.bool false,.slice none 0 0,.slice (Xa (w+1) 0) 1 1,.bool true] 139)).alloc
  (.cells (dI (.slice none 0 0) (.slice none 0 0) true (Xp (w+2))) 119):=by
 go_enter func47,ntmps47;go_wp2_with fail
 refine(mx _).mono ?_;rintro e a ⟨rfl,rfl⟩;go_wp2_with fail
 go_ret;exact⟨rfl,rfl⟩
theorem Ba(w:World):Xk 211 #[.pointer none] w (Made (dI (.slice none 0 0) (.slice none 0 0) false (.pointer none)) 119 w):=by
 go_enter func211,ntmps211;go_wp2_with fail
 go_ret;exact⟨rfl,rfl⟩
theorem Bb(a a':Option Addr)(c c':Nat)(w:World):Xk 163 #[.slice a 0 c,.slice a' 0 c'] w fun e b=>e= .returned (Xp (w+3))∧
 b=(((w.alloc (.cells #[.bool false,.nilIface] 168)).alloc (.cells #[Xp w] 164)).alloc (.cells #[.bool false,.slice none 0 0,.slice (Xa (w+1) 0) 1 1,.bool false] 139)).alloc
  (.cells (dI (.slice none 0 0) (.slice none 0 0) true (Xp (w+2))) 119):=by
 go_enter func163,ntmps163;go_wp2_with fail
 refine(A9 _).mono ?_;rintro e b ⟨rfl,rfl⟩;go_wp2_with fail
 go_ret;exact⟨rfl,rfl⟩
theorem Bc(r p q:Option Addr)(w:World):Xk 160 #[.pointer r,.slice none 0 0,.slice none 0 0,.pointer p,.pointer q,.bool false] w
 (Made #[.pointer r,.pointer none,.pointer p,.pointer q,.bool false] 112 w):=by
 go_enter func160,ntmps160;go_wp2_with fail
 go_ret;exact⟨rfl,rfl⟩
end Go.Proofs.YtkochlhejabdcaaGreatDoor
namespace TS
open Go Go.Proofs.Tryz
def bJ(w:World)(a:Option Addr)(n:Nat)(f:Nat→Nat):Prop:=∀i,i<n→∃b o,a= .some (Xa b o)∧Xc w b (o+i) (Xp (f i))
end TS
namespace Go.Proofs.YtkochlhejabdcaaGreatDoor
open Go.RowKit TS Tryz
theorem Bd(b:Nat)(a:Option Addr)(n c:Nat)(f:Nat→Nat)(s:Nat→ByteArray)(nm:ByteArray)(w:World)(v:n≤1099511627776)(x:Xc w b 9 (.slice a n c))(m:bJ w a n f)
 (o:∀i,i<n→Xc w (f i) 2 (.string (s i)))(g:∀i,i<n→((s i).toList==nm.toList)=false)(y:(nm.toList== [95])=false):
 Xk 166 #[Xp b,.string nm,.bool false] w fun e q=>e= .returned (.int .i64 (-1))∧w=q:=by
 have j:=zh m;have l:=zh o;have h:=zh g;clear m o g;go_enter func166,ntmps166;go_wp2_with fail
 go_loopw [38] (fun i wr=> ∃k:Nat,k≤n∧i= .int .i64 k∧wr=w) (fun i _=>n- (intOf i).toNat)
 case atStart=>exact⟨0,Nat.zero_le _,rfl,rfl⟩
 case round=>
  obtain⟨k,hk,rfl,rfl⟩:=hrel;by_cases d:k<n
  ·have p:(k:Int)<n:=zo
   obtain⟨z,A,rfl,B⟩:=j.out k d;have r:=l.out k d;have t:=h.out k d;go_wp2_with fail
   refine⟨⟨k+1,by omega,by go_num,trivial⟩,?_⟩;first|omega|(simp[intOf];omega)
  ·have u:¬(k:Int)<n:=zo
   go_wp2_with fail
   go_ret;exact⟨rfl,rfl⟩
end Go.Proofs.YtkochlhejabdcaaGreatDoor
