import Derived.Test.YtkfaiocajcjomaaGreatDoorYbj
set_option maxRecDepth 100000
set_option maxHeartbeats 8000000
set_option linter.all false
namespace TS
open Go Go.RowKit Go.Proofs.YtkfaiocajcjomaaGreatDoor
def jz(w:World)(a:Option Addr)(n c:Nat)(b:Option Addr)(d:World):Prop:=
 Below w.heap.size w d∧((n=0∧b=none)∨(0<n∧∃tb,b=some ⟨tb,0,none⟩∧w.heap.size≤tb∧d.heap[tb]?=some (.cells #[.slice a n c] 164 (0,0))))
structure dJ(C:BC)(u:U)(p:Pm)(g:Ge)(mv:Value)(ms:List Nat)(w:World)(k:Nat)(q:Pm)(d:Ge)(c:Value)(a fs:List Nat)(xs:Nat→Value)(f e:Value)(wr:World):Prop where
 bs:BS C q d c a wr
 st:aA C p g mv ms w q d a wr
 om:∀b,c.ownBlock=some b→mv.ownBlock=some b∨w.heap.size≤b
 fl:fs.length=k
 ir:wr.ownsRow w.heap.size 88 1 f (fs.take u.m.toNat).length ((fs.take u.m.toNat).map pv)
 or:wr.ownsRow w.heap.size 88 1 e (fs.drop u.m.toNat).length ((fs.drop u.m.toNat).map pv)
 ri:∀b,f.ownBlock=some b→e.ownBlock≠some b∧∀o,q b o=none
 ro:∀b,e.ownBlock=some b→∀o,q b o=none
 cl:∀i(h:i<u.es.length),i<k→q (fs.getD i 0) 3=some (xs i)
 nd:∀i(h:i<u.es.length),i<k→Node q d u.es[i] (xs i)
 ct:a.length≤ms.length+aR (u.es.take k)
theorem dJ.below{C:BC}{u:U}{p q:Pm}{g e:Ge}{mv b:Value}{ms c fs:List Nat}{w wr f:World}{k:Nat}{xs:Nat→Value}{h i:Value}(a:dJ C u p g mv ms w k q e b c fs xs h i wr)(d:Below wr.heap.size wr f):dJ C u p g mv ms w k q e b c fs xs h i f:=
 ⟨a.bs.below d,a.st.below d,a.om,a.fl,bD a.ir d,bD a.or d,a.ri,a.ro,a.cl,a.nd,a.ct⟩
theorem dJ.mid{C:BC}{u e:U}{p q d:Pm}{g J g1:Ge}{mv s i:Value}{ms z j fs:List Nat}{w D wr a:World}{k:Nat}{xs:Nat→Value}{E F x:Value}
 (f:dJ C u p g mv ms w k q J s z fs xs E F wr)(A:C.bb<w.heap.size)(c:Below wr.heap.size wr D)
 (G:Node d g1 e x)(t:BS C d g1 i j a)(l:aA C q J s z D d g1 j a)(H:∀b,i.ownBlock=some b→s.ownBlock=some b∨D.heap.size≤b)
 {bs cs:Array Value}{Tb:TypeId}(I:cs[3]?=some x):
 BS C (d.add a.heap.size cs) g1 i j ((a.alloc (.cells cs 156)).alloc (.cells bs Tb))∧aA C p g mv ms w (d.add a.heap.size cs) g1 j ((a.alloc (.cells cs 156)).alloc (.cells bs Tb))∧
 ((a.alloc (.cells cs 156)).alloc (.cells bs Tb)).ownsRow w.heap.size 88 1 E (fs.take u.m.toNat).length ((fs.take u.m.toNat).map pv)∧((a.alloc (.cells cs 156)).alloc (.cells bs Tb)).ownsRow w.heap.size 88 1 F (fs.drop u.m.toNat).length ((fs.drop u.m.toNat).map pv)∧
 (∀b,E.ownBlock=some b→∀o,d.add a.heap.size cs b o=none)∧(∀b,F.ownBlock=some b→∀o,d.add a.heap.size cs b o=none)∧Sub q (d.add a.heap.size cs)∧(∀b,i.ownBlock=some b→mv.ownBlock=some b∨w.heap.size≤b)∧Node (d.add a.heap.size cs) g1 e x∧d.add a.heap.size cs a.heap.size 3=some x:=by
 have v:=aA.row (f.bs.below c) l (by decide) (bD f.ir c) A fun b e=>(f.ri b e).2;have y:=aA.row (f.bs.below c) l (by decide) (bD f.or c) A f.ro;have K:∀o,d a.heap.size o=none:=fun o=>t.wb.kw.aI (Nat.le_refl _) o;have n:=Pm.cO (cs:=cs) K;have r:Below a.heap.size a ((a.alloc (.cells cs 156)).alloc (.cells bs Tb)):=((Below.refl _ _).alloc (Nat.le_refl _) _).alloc (by simp) _;have B:Below (a.alloc (.cells cs 156)).heap.size (a.alloc (.cells cs 156)) ((a.alloc (.cells cs 156)).alloc (.cells bs Tb)):=(Below.refl _ _).alloc (Nat.le_refl _) _;refine⟨(t.box cs _).below B,((f.st.trans (aA.ahead c l) f.om).box t cs _).below B,bD v.1 r,bD y.1 r,fun b h o=> ?_,fun b h o=> ?_,l.gr.le.trans n,fun b h=> ?_,G.sub n (aE.refl _),by rw[Pm.aT];exact I⟩
 ·rw[Pm.aK _ _ _ fun L=>by have:=(v.1.lt b h).2;omega];exact v.2 b h o
 ·rw[Pm.aK _ _ _ fun L=>by have:=(y.1.lt b h).2;omega];exact y.2 b h o
 ·rcases H b h with h|h
  ·exact f.om b h
  ·have:=c.size;have:=f.st.size;exact .inr (by omega)
theorem uA{u e:U}{q a:Pm}{l g1:Ge}{k F:Nat}{fs:List Nat}{xs:Nat→Value}{x:Value}(d:u.es[k]?=some e)(f:fs.length=k)(m:Sub q a)(g:aE l g1)(j:∀i(_:i<u.es.length),i<k→q (fs.getD i 0) 3=some (xs i))(hnd:∀i(h:i<u.es.length),i<k→Node q l u.es[i] (xs i))(n:a F 3=some x)(o:Node a g1 e x):
 (∀i(_:i<u.es.length),i<k+1→a ((fs++ [F]).getD i 0) 3=some (if i=k then x else xs i))∧∀i(h:i<u.es.length),i<k+1→Node a g1 u.es[i] (if i=k then x else xs i):=by
 obtain⟨hk,b⟩:=List.getElem?_eq_some_iff.1 d;refine⟨fun i h hi=> ?_,fun i h hi=> ?_⟩
 ·by_cases c:i=k
  ·subst c
   rw[if_pos rfl,show(fs++ [F]).getD i 0=F by simp[List.getD,←f]];exact n
  ·rw[if_neg c,show(fs++ [F]).getD i 0=fs.getD i 0 by simp[List.getD,List.getElem?_append_left (show i<fs.length by omega)]]
   exact m _ _ _ (j i h (by omega))
 ·by_cases c:i=k
  ·subst c
   rw[b,if_pos rfl];exact o
  ·rw[if_neg c];exact(hnd i h (by omega)).sub m g
theorem dJ.C8{C:BC}{u e:U}{p q F:Pm}{g Z g1:Ge}{mv j n:Value}{ms o c fs:List Nat}{w H wr a I:World}{k:Nat}{xs:Nat→Value}{J vo d x:Value}
 (r:dJ C u p g mv ms w k q Z j o fs xs J vo wr)(s:C.bb<w.heap.size)(t:u.es[k]?=some e)(P3:k<u.m.toNat)(K:Below wr.heap.size wr H)
 (L:Node F g1 e x)(M:BS C F g1 n c a)(v:aA C q Z j o H F g1 c a)(N:∀b,n.ownBlock=some b→j.ownBlock=some b∨H.heap.size≤b)(P4:c.length≤o.length+cn e)
 {bs cs:Array Value}{Tb:TypeId}(O:cs[3]?=some x)
 (P:I.ownsRow w.heap.size 88 1 d ((fs.take u.m.toNat).length+1) ((fs.take u.m.toNat).map pv++ [pv a.heap.size]))
 (Q:((a.alloc (.cells cs 156)).alloc (.cells bs Tb)).grownBy I J.ownBlock)(y:d.ownBlock=J.ownBlock∨d.ownBlock=some ((a.alloc (.cells cs 156)).alloc (.cells bs Tb)).heap.size):
 dJ C u p g mv ms w (k+1) (F.add a.heap.size cs) g1 n c (fs++ [a.heap.size]) (fun i=>if i=k then x else xs i) d vo I:=by
 obtain⟨z,R,A,B,hid,S,T,V,hnd,W⟩:=r.mid (bs:=bs) (Tb:=Tb) s K L M v N O;obtain⟨X,D⟩:=z.appended (by decide) A hid s Q;have E:=r.fl;have ht:(fs++ [a.heap.size]).take u.m.toNat=fs.take u.m.toNat++ [a.heap.size]:=by rw[List.take_append,List.take_of_length_le (l:= [_]) (by simp;omega)]
 have Y:(fs++ [a.heap.size]).drop u.m.toNat=fs.drop u.m.toNat:=by rw[List.drop_append,List.drop_of_length_le (l:= [_]) (by simp;omega),List.append_nil]
 have hc:=uA t E T v.gs r.cl r.nd W hnd;refine⟨X,R.own D fun b f=>(A.lt b f).1,V,by simp[E],?_,?_,fun b f=>⟨fun G=> ?_,jy z.wb hid y b f⟩,S,hc.1,hc.2,by have:=r.ct;have:=fE t;omega⟩
 ·rw[ht];simpa using P
 ·rw[Y];exact dO B D fun b f G=>(r.ri b G).1 f
 ·rcases y with h|h
  ·exact(r.ri b (h▸f)).1 G
  ·rw[h]at f;cases f;have:=(B.lt _ G).2;omega
theorem dJ.C9{C:BC}{u e:U}{p q G:Pm}{g Y g1:Ge}{mv f j:Value}{ms l c fs:List Nat}{w H wr a I:World}{k:Nat}{xs:Nat→Value}{Z J d x:Value}
 (n:dJ C u p g mv ms w k q Y f l fs xs Z J wr)(r:C.bb<w.heap.size)(s:u.es[k]?=some e)(P3:u.m.toNat≤k)(K:Below wr.heap.size wr H)
 (L:Node G g1 e x)(M:BS C G g1 j c a)(t:aA C q Y f l H G g1 c a)(N:∀b,j.ownBlock=some b→f.ownBlock=some b∨H.heap.size≤b)(P4:c.length≤l.length+cn e)
 {bs cs:Array Value}{Tb:TypeId}(O:cs[3]?=some x)
 (P:I.ownsRow w.heap.size 88 1 d ((fs.drop u.m.toNat).length+1) ((fs.drop u.m.toNat).map pv++ [pv a.heap.size]))
 (Q:((a.alloc (.cells cs 156)).alloc (.cells bs Tb)).grownBy I J.ownBlock)(v:d.ownBlock=J.ownBlock∨d.ownBlock=some ((a.alloc (.cells cs 156)).alloc (.cells bs Tb)).heap.size):
 dJ C u p g mv ms w (k+1) (G.add a.heap.size cs) g1 j c (fs++ [a.heap.size]) (fun i=>if i=k then x else xs i) Z d I:=by
 obtain⟨y,R,z,A,hid,B,S,T,hnd,V⟩:=n.mid (bs:=bs) (Tb:=Tb) r K L M t N O;obtain⟨W,D⟩:=y.appended (by decide) A B r Q;have E:=n.fl;have ht:(fs++ [a.heap.size]).take u.m.toNat=fs.take u.m.toNat:=by rw[List.take_append,show u.m.toNat- fs.length=0 by omega];simp
 have X:(fs++ [a.heap.size]).drop u.m.toNat=fs.drop u.m.toNat++ [a.heap.size]:=by rw[List.drop_append,show u.m.toNat- fs.length=0 by omega];simp
 have hc:=uA s E S t.gs n.cl n.nd V hnd;refine⟨W,R.own D fun b o=>(A.lt b o).1,T,by simp[E],?_,?_,fun b o=>⟨fun F=> ?_,hid b o⟩,jy y.wb B v,hc.1,hc.2,by have:=n.ct;have:=fE s;omega⟩
 ·rw[ht];exact dO z D fun b o F=>(n.ri b o).1 F
 ·rw[X];simpa using P
 ·rcases v with h|h
  ·exact(n.ri b o).1 (h▸F)
  ·rw[h]at F;cases F;have:=(z.lt _ o).2;omega
theorem BS.uB{C:BC}{q:Pm}{g:Ge}{mv:Value}{ms:List Nat}{w f:World}(h:BS C q g mv ms w){a:Option Addr}{n c:Nat}{b:Option Addr}(hT:jz w a n c b f):
 ∃d,aL q d w.heap.size∧BS C d g mv ms f∧((n=0∧b=none)∨(0<n∧∃tb,b=some ⟨tb,0,none⟩∧d tb 0=some (.slice a n c))):=by
 obtain⟨e,⟨h1,h2⟩|⟨h1,tb,h2,h3,k⟩⟩:=hT
 ·exact⟨q,aL.refl _ _,h.below e,.inl ⟨h1,h2⟩⟩
 ·have i:∀o,q tb o=none:=fun o=>h.wb.kw.aI h3 o
  have j:=Pm.cW (cs:=#[.slice a n c]) i h3;exact⟨_,j,h.grow e j ((h.wb.below e).add i k),.inr ⟨h1,tb,h2,by rw[Pm.aT];rfl⟩⟩
theorem getD_take(fs:List Nat)(m i:Nat)(hi:i<m)(hm:m≤fs.length):((fs.take m).map pv).getD i undef=ptr (fs.getD i 0):=by
 simp[List.getD,List.getElem?_take,hi,List.getElem?_eq_getElem (show i<fs.length by omega),pv]
theorem C_(fs:List Nat)(m i:Nat)(hi:m+i<fs.length):((fs.drop m).map pv).getD i undef=ptr (fs.getD (m+i) 0):=by
 simp[List.getD,List.getElem?_drop,List.getElem?_eq_getElem hi,pv]
def lE(C:BC)(u:U)(p:Pm)(g:Ge)(mv:Value)(ms:List Nat)(r:Option Addr)(w:World)(e:Ending)(f:World):Prop:=
 ∃c q h d a,e= .returned (.pointer (some ⟨c,0,none⟩))∧Node q h u (ae 94 c)∧BS C q h d a f∧aA C p g mv ms w q h a f∧(∀b,d.ownBlock=some b→mv.ownBlock=some b∨w.heap.size≤b)∧
  w.heap.size≤c∧q c 0=none∧f.cell? ⟨c,0,none⟩=some (.pointer r)∧f.frozen? ⟨c,0,none⟩=false∧a.length≤ms.length+cn u
theorem Db{C:BC}{u:U}{p:Pm}{g:Ge}{mv:Value}{ms:List Nat}{w wr j f:World}{q:Pm}{I:Ge}{l:Value}{n fs:List Nat}{xs:Nat→Value}{d D:Option Addr}{i:Nat}{J:Value}(r:C.bb<w.heap.size)(hm:u.m.toNat≤u.es.length)(V:u.es.length≤1099511627776)(K:0<u.m.toNat∧∃e,u.es[u.m.toNat- 1]?=some e∧e.k=4)
 (c:dJ C u p g mv ms w u.es.length q I l n fs xs (.slice d (fs.take u.m.toNat).length i) J wr)(h1:jz wr d (fs.take u.m.toNat).length i D j)(h2:Below j.heap.size j f):
 0<(fs.take u.m.toNat).length∧(fs.take u.m.toNat).length≤1099511627776∧∃tb fl s,D=some ⟨tb,0,none⟩∧f.cell? ⟨tb,0,none⟩=some (.slice d (fs.take u.m.toNat).length i)∧(∃b o,d=some ⟨b,o,none⟩∧f.cell? ⟨b,o+((fs.take u.m.toNat).length- 1),none⟩=some (.pointer (some ⟨fl,0,none⟩)))∧f.cell? ⟨fl,3,none⟩=some (ae 132 s):=by
 have L:=c.fl;have t:(fs.take u.m.toNat).length=u.m.toNat:=by rw[List.length_take];omega
 obtain⟨M,W,c1,N,O,x,y,_⟩:=c.bs.iO (e:=88) (v:= .slice d (fs.take u.m.toNat).length i) (xs:=(fs.take u.m.toNat).map pv) (by decide) (by simpa using c.ir) (fun b e=>(c.ri b e).2) r;injection N with z P Q
 subst z;obtain⟨X,e,he,A⟩:=K;obtain⟨a,rfl⟩:=List.getElem?_eq_some_iff.1 he;obtain⟨E,F,R,S⟩:=y (u.m.toNat- 1) (by simp;omega);have T:M E (F+(u.m.toNat- 1))=some (ptr (fs.getD (u.m.toNat- 1) 0)):=by rw[S];exact congrArg some (getD_take _ _ _ (by omega) (by omega))
 obtain⟨s,_,_,ex,_⟩:=(c.nd _ a a).kR A;have G:=c.cl _ a a;rw[ex]at G;obtain⟨H,⟨h,_⟩|⟨_,tb,rfl,hle,B⟩⟩:=h1
 ·omega
 ·refine⟨by omega,by omega,tb,_,s,rfl,ak h2 (by simp only[World.cell?,B];rfl),⟨E,F,R,?_⟩,ak h2 (ak H (c.bs.wb.kw _ _ _ G))⟩
  rw[t];exact ak h2 (ak H (x.wb.kw _ _ _ T))
end TS
namespace Go.Proofs.YtkfaiocajcjomaaGreatDoor
open Go.RowKit TS
theorem uC(a:Option Addr)(n c:Nat)(w:World):Calls Tryz.prog 67 #[.slice a n c] w fun e b=> ∃d,e= .returned (.pointer d)∧jz w a n c d b:=by
 rcases Nat.eq_zero_or_pos n with rfl|h
 ·refine(yj a c w).mono ?_
  rintro e b ⟨rfl,rfl⟩;exact⟨none,rfl,Below.refl _ _,.inl ⟨rfl,rfl⟩⟩
 ·refine(r8 a n c h w).mono ?_
  rintro e b ⟨rfl,rfl⟩;exact⟨_,rfl,(Below.refl _ _).alloc (Nat.le_refl _) _,.inr ⟨h,_,rfl,Nat.le_refl _,b8 rfl⟩⟩
theorem Dc(r:Option Addr)(v:Bool)(w:World)(a:Option Addr)(n c:Nat)(d f:Option Addr)(i:v=true→0<n∧n≤1099511627776∧∃tb fl g,d=some ⟨tb,0,none⟩∧w.cell? ⟨tb,0,none⟩=some (.slice a n c)∧(∃b o,a=some ⟨b,o,none⟩∧w.cell? ⟨b,o+(n- 1),none⟩=some (.pointer (some ⟨fl,0,none⟩)))∧w.cell? ⟨fl,3,none⟩=some (ae 132 g)):
 Calls Tryz.prog 119 #[.pointer r,.slice none 0 0,.slice none 0 0,.pointer d,.pointer f,.bool v] w fun e h=> ∃b,e= .returned (.pointer (some ⟨b,0,none⟩))∧w.heap.size≤b∧h.heap[b]?=some (.cells #[.pointer r,.pointer none,.pointer d,.pointer f,.bool v] 98 (0,0))∧Below w.heap.size w h:=by
 cases v with
 |false=>
  refine(yZ r d f w).mono ?_;rintro e h ⟨rfl,rfl⟩;exact⟨_,rfl,Nat.le_refl _,b8 rfl,(Below.refl _ _).alloc (Nat.le_refl _) _⟩
 |true=>
  obtain⟨j,h1,tb,fl,g,rfl,h2,h3,k⟩:=i rfl;exact C6 r f tb n c fl g a w j h1 h2 h3 k
theorem Dd{C:BC}{u:U}{p:Pm}{g:Ge}{mv:Value}{ms:List Nat}{w wr w1 Q F:World}{q:Pm}{T:Ge}{G:Value}{y fs:List Nat}{xs:Nat→Value}{H oa:Option Addr}{R oc:Nat}{j n r:Option Addr}{b:Nat}(hk:u.k=7)(hm:0≤u.m∧u.m.toNat≤u.es.length)(hl:u.es.length≤1099511627776)(hB:BS C p g mv ms w)
 (d:dJ C u p g mv ms w u.es.length q T G y fs xs (.slice H (fs.take u.m.toNat).length R) (.slice oa (fs.drop u.m.toNat).length oc) wr)
 (h1:jz wr H (fs.take u.m.toNat).length R j w1)(h2:jz w1 oa (fs.drop u.m.toNat).length oc n Q)(S:Q.heap.size≤b)(h3:F.heap[b]?=some (.cells #[.pointer r,.pointer none,.pointer j,.pointer n,.bool u.v] 98 (0,0)))(z:Below Q.heap.size Q F):
 lE C u p g mv ms r w (.returned (.pointer (some ⟨b,0,none⟩))) F:=by
 have I:=(hB.ib (b:=C.bb) (.inl rfl)).2.1;have Ql:=d.st.size;have Qm:=h1.1.size;have Qn:=h2.1.size;obtain⟨q1,a1,c1,e1,J,V,W,X,Y,_⟩:=d.bs.iO (e:=88) (v:= .slice H (fs.take u.m.toNat).length R) (xs:=(fs.take u.m.toNat).map pv) (by decide) (by simpa using d.ir) (fun b e=>(d.ri b e).2) I;obtain⟨q2,a2,c2,e2,A,Z,P3,Qo,P4,_⟩:=V.iO (e:=88) (v:= .slice oa (fs.drop u.m.toNat).length oc) (xs:=(fs.drop u.m.toNat).map pv) (by decide) (by simpa using d.or) (fun b e o=>by rw[X b fun e'=>(d.ri b e').1 e];exact d.ro b e o) I;obtain⟨q3,s,P5,K⟩:=Z.uB h1;obtain⟨B,l,D,L⟩:=P5.uB h2;have t:∀o,B b o=none:=fun o=>D.wb.kw.aI S o;have E:Plain F b:=⟨_,_,h3⟩
 have a:∀o v,#[.pointer r,.pointer none,.pointer j,.pointer n,.bool u.v][o]?=some v→F.cell? ⟨b,o,none⟩=some v:=fun o v h=>by simp[World.cell?,h3,h]
 have P6:=Pm.dT (v:= .pointer j) (o:=2) (t 2) S;have P7:=Pm.dT (p:=B.put b 2 (.pointer j)) (v:= .pointer n) (o:=3) (by rw[Pm.aY _ _ (by omega)];exact t 3) S;have P8:=Pm.dT (p:=(B.put b 2 (.pointer j)).put b 3 (.pointer n)) (v:= .bool u.v) (o:=4) (by rw[Pm.aY _ _ (by omega),Pm.aY _ _ (by omega)];exact t 4) S;have c:=(P6.trans P7 (Nat.le_refl _)).trans P8 (Nat.le_refl _);have P9:=(((D.wb.below z).put (a 2 _ rfl) E).put (a 3 _ rfl) E).put (a 4 _ rfl) E;have P_:=D.grow z c P9;have Qa:aA C p g mv ms w _ T y F:=(((d.st.iN (J.trans A (Nat.le_refl _))).grow h1.1 s).grow h2.1 l).grow z c;have M:Sub q q2:=J.le.trans A.le;have N:=(M.trans s.le).trans l.le;have x:=N.trans c.le;have Qp:=d.fl;have Qb:(fs.take u.m.toNat).length=u.m.toNat:=by rw[List.length_take];omega
 have Qc:(fs.drop u.m.toNat).length=u.es.length- u.m.toNat:=by rw[List.length_drop];omega
 injection e1 with Qd Qq Qe
 injection e2 with Qf Qr Qg
 subst Qd;subst Qe;subst Qf;subst Qg;have O:=((A.le.trans s.le).trans l.le).trans c.le;have P:=(s.le.trans l.le).trans c.le;have Qh:bN (((B.put b 2 (.pointer j)).put b 3 (.pointer n)).put b 4 (.bool u.v)) H u.m.toNat fun i=>ptr (fs.getD i 0):=fun i hi=>by
  obtain⟨b',o',k1,k2⟩:=W i (by simp;omega);refine⟨b',o',k1,O _ _ _ ?_⟩;rw[k2];exact congrArg some (getD_take _ _ _ hi (by omega))
 have Qi:bN (((B.put b 2 (.pointer j)).put b 3 (.pointer n)).put b 4 (.bool u.v)) oa (u.es.length- u.m.toNat) fun i=>ptr (fs.getD (u.m.toNat+i) 0):=fun i hi=>by
  obtain⟨b',o',k1,k2⟩:=P3 i (by simp;omega);refine⟨b',o',k1,P _ _ _ ?_⟩;rw[k2];exact congrArg some (C_ _ _ _ (by omega))
 have Qj:dX (((B.put b 2 (.pointer j)).put b 3 (.pointer n)).put b 4 (.bool u.v)) (.pointer j) u.m.toNat fun i=>fs.getD i 0:=by
  rw[Qb]at K;rcases K with⟨h,rfl⟩|⟨h,tb,rfl,h'⟩
  ·exact .inl ⟨h,rfl⟩
  ·exact .inr ⟨h,tb,H,R,rfl,(l.le.trans c.le) _ _ _ h',by simp at Y;omega,Qh⟩
 have Qk:dX (((B.put b 2 (.pointer j)).put b 3 (.pointer n)).put b 4 (.bool u.v)) (.pointer n) (u.es.length- u.m.toNat) fun i=>fs.getD (u.m.toNat+i) 0:=by
  rw[Qc]at L;rcases L with⟨h,rfl⟩|⟨h,tb,rfl,h'⟩
  ·exact .inl ⟨h,rfl⟩
  ·exact .inr ⟨h,tb,oa,oc,rfl,c.le _ _ _ h',by simp at P4;omega,Qi⟩
 refine⟨b,_,T,G,y,rfl,.func (f:=fun i=>fs.getD i 0) (xs:=xs) hk ⟨hm.2,hl⟩ (by rw[Pm.aY _ _ (by omega),Pm.aY _ _ (by omega),Pm.eQ]) (by rw[Pm.aY _ _ (by omega),Pm.eQ]) (Pm.eQ ..) Qj Qk (fun i hi=>x _ _ _ (d.cl i hi hi)) fun i hi=>(d.nd i hi hi).sub x (aE.refl _),P_,Qa,d.om,by omega,?_,a 0 _ rfl,?_,by have:=d.ct;rw[List.take_length]at this;rw[dD];omega⟩
 ·rw[Pm.aY _ _ (by omega),Pm.aY _ _ (by omega),Pm.aY _ _ (by omega)];exact t 0
 ·simp[World.frozen?,h3]
theorem nr(C:BC)(u:U)(r:Option Addr)(hk:u.k=7)(hm:0≤u.m∧u.m.toNat≤u.es.length)(hv:u.v=true→0<u.m.toNat∧∃e,u.es[u.m.toNat- 1]?=some e∧e.k=4)(hI:∀e∈u.es,bI C e)(p:Pm)(g:Ge)(mv:Value)(ms:List Nat)(a:Option Addr)(c:Nat)(w:World)(hB:BS C p g mv ms w)(QW:ms.length+cn u≤1099511627776)(hu:aj C.pa C.D u a c):
 Calls Tryz.prog 83 #[.pointer (some ⟨C.bb,0,none⟩),.pointer r,.agg #[.int .i64 u.k,.int .i64 u.n,.int .i64 u.m,.bool u.v,.string u.nm,.string u.tg,.slice a u.es.length c]] w (lE C u p g mv ms r w):=by
 have Qx:=hu.cap;have QJ:Hid (∀k e,u.es[k]?=some e→∃eb eo a' c',a=some ⟨eb,eo,none⟩∧cN C.pa eb (eo+k*7) e a' c'∧aj C.pa C.D e a' c'):=fun k e he=>by
  obtain⟨hk,rfl⟩:=List.getElem?_eq_some_iff.1 he;obtain⟨eb,eo,rfl⟩:=hu.list.bC (by omega);obtain⟨a',c',h7,P3⟩:=hu.list.get k hk;exact⟨eb,eo,a',c',rfl,h7,P3⟩
 have QR:=(hB.ib (b:=C.bb) (.inl rfl)).2.1;have P4:Below w.heap.size w (w.alloc (.cells #[.int .i64 u.k,.int .i64 u.n,.int .i64 u.m,.bool u.v,.string u.nm,.string u.tg,.slice a u.es.length c] 25)):=(Below.refl _ _).alloc (Nat.le_refl _) _;have Qn:=Lib.hid (hB.below P4);have QK:=Lib.hid hB;have QX:u.es.length≤1048576:=by omega
 have QS:u.es.length≤1099511627776:=by omega
 have QL:=Lib.hid hk;have Qy:=Lib.hid hm;have QM:=Lib.hid hv;have QN:=Lib.hid hI;obtain⟨i0,Qz,P_,Qa,Qb⟩:=info_parts ss;have hh:(w.alloc (.cells #[.int .i64 u.k,.int .i64 u.n,.int .i64 u.m,.bool u.v,.string u.nm,.string u.tg,.slice a u.es.length c] 25)).heap[w.heap.size]?=some (.cells #[.int .i64 u.k,.int .i64 u.n,.int .i64 u.m,.bool u.v,.string u.nm,.string u.tg,.slice a u.es.length c] 25):=b8 rfl;have P:Hid ((w.alloc (.cells #[.int .i64 u.k,.int .i64 u.n,.int .i64 u.m,.bool u.v,.string u.nm,.string u.tg,.slice a u.es.length c] 25)).cell? ⟨w.heap.size,2,none⟩=some (.int .i64 u.m)∧(w.alloc (.cells #[.int .i64 u.k,.int .i64 u.n,.int .i64 u.m,.bool u.v,.string u.nm,.string u.tg,.slice a u.es.length c] 25)).cell? ⟨w.heap.size,3,none⟩=some (.bool u.v)):=by(repeat' apply And.intro)<;>(simp only[World.cell?,hh];rfl)
 clear hh;obtain⟨L,hW⟩:∃L,Hid (L=w.alloc (.cells #[.int .i64 u.k,.int .i64 u.n,.int .i64 u.m,.bool u.v,.string u.nm,.string u.tg,.slice a u.es.length c] 25)):=⟨_,rfl⟩
 have QY:L.heap.size≤w.heap.size+1∧w.heap.size+1≤L.heap.size:=by rw[hW.out];simp
 rw[←hW.out]at Qn P4 P;have Q:C.bb<L.heap.size:=by omega
 have QA:=Lib.hid P4;clear hu hB P4 Qx hk hm hv hI;generalize hn:u.es.length=n at*;have M:=Lib.hid hn;clear hn;go_enter Tryz.func83,Tryz.ntmps83;go_wp2_with fail
 go_loopw [15,7,8] (fun vk vi vo wr=> ∃(k:Nat)(q:Pm)(g':Ge)(N:Value)(O fs:List Nat)(xs:Nat→Value),k≤n∧vk= .int .i64 k∧dJ C u p g mv ms L k q g' N O fs xs vi vo wr∧wr.cell? ⟨w.heap.size,2,none⟩=some (.int .i64 u.m)∧wr.cell? ⟨w.heap.size,3,none⟩=some (.bool u.v)) (fun vk _ _ _=>n- (intOf vk).toNat)
 case atStart=>
  obtain rfl:=hW.out;exact⟨0,p,g,mv,ms,[],fun _=>undef,Nat.zero_le _,rfl,⟨Qn.out,aA.refl _ _ _ _ _ _,fun b e=> .inl e,rfl,by simpa using World.ownsRow_nil _ _ _ _,by simpa using World.ownsRow_nil _ _ _ _,fun b e=>(by cases e),fun b e=>(by cases e),fun i _ hi=>absurd hi (Nat.not_lt_zero _),fun i _ hi=>absurd hi (Nat.not_lt_zero _),Nat.le_add_right _ _⟩,P.out⟩
 case round=>
  obtain⟨k,q,g',N,O,fs,xs,QZ,rfl,hP,t2,t3⟩:=hrel;have f:=Lib.hid hP;obtain⟨Z,ic,rfl⟩:=bd hP.ir;obtain⟨oa,oc,rfl⟩:=bd hP.or;have R:=Lib.hid hP.ir;have S:=Lib.hid hP.or;clear hP;obtain⟨I,z⟩:∃I,Hid (fs.take u.m.toNat=I):=⟨_,rfl⟩
  obtain⟨ol,B⟩:∃ol,Hid (fs.drop u.m.toNat=ol):=⟨_,rfl⟩
  rw[z.out,B.out]at f;rw[z.out]at R;rw[B.out]at S;rw[z.out,B.out];have P5:=Lib.hid (show I.length≤k∧ol.length≤k by have:=f.out.fl;rw[←z.out,←B.out];simp;omega);by_cases Q3:k<n
  ·have QT:(k:Int)<n:=by omega
   obtain⟨e,T⟩:∃e,u.es[k]?=some e:=⟨_,List.getElem?_eq_getElem (by have:=M.out;omega)⟩
   obtain⟨eb,eo,a',c',rfl,h7,P3⟩:=QJ.out k e T;have QB:=QN.out _ (List.mem_of_getElem? T);obtain⟨z0,z1,z2,z3,z4,z5,z6⟩:(wr.cell? ⟨eb,eo+k*7,none⟩=some (.int .i64 e.k)∧wr.cell? ⟨eb,eo+k*7+1,none⟩=some (.int .i64 e.n)∧wr.cell? ⟨eb,eo+k*7+2,none⟩=some (.int .i64 e.m)∧wr.cell? ⟨eb,eo+k*7+3,none⟩=some (.bool e.v)∧wr.cell? ⟨eb,eo+k*7+4,none⟩=some (.string e.nm)∧wr.cell? ⟨eb,eo+k*7+5,none⟩=some (.string e.tg)∧wr.cell? ⟨eb,eo+k*7+6,none⟩=some (.slice a' e.es.length c')):=h7.world f.out.bs.ka;have QU:eb<wr.heap.size:=f.out.bs.ka.lt h7.1;have Qo:Below wr.heap.size wr ((wr.alloc (.cells #[.int .i64 e.k,.int .i64 e.n,.int .i64 e.m,.bool e.v,.string e.nm,.string e.tg,.slice a' e.es.length c'] 25)).drew):=((Below.refl _ _).alloc (Nat.le_refl _) _).drew;have hT:=Lib.hid (QB q g' N O a' c' _ (f.out.bs.below Qo) (by have:=f.out.ct;have:=np T;omega) P3);have Qc:=Lib.hid T;have y:=Lib.hid Qo;have Qd:=f.out.bs.c0;have Qe:g'.pk=g.pk:=f.out.st.gs.pk;rw[Qe]at Qd;have QC:=World.block_lt_of_cell? _ _ Qd;have V:=World.block_lt_of_cell? _ _ t2;simp only at QC V;clear h7 P3 QB T Qo;go_wp2_with fail
   refine oR (fun W=>(W.cell? ⟨C.bb,0,none⟩=some (ptr g.pk)∧W.cell? ⟨w.heap.size,2,none⟩=some (.int .i64 u.m)∧W.cell? ⟨w.heap.size,3,none⟩=some (.bool u.v))∧(W.cell? ⟨wr.heap.size,0,none⟩=some (.int .i64 e.k)∧W.cell? ⟨wr.heap.size,1,none⟩=some (.int .i64 e.n)∧W.cell? ⟨wr.heap.size,2,none⟩=some (.int .i64 e.m)∧W.cell? ⟨wr.heap.size,3,none⟩=some (.bool e.v)∧W.cell? ⟨wr.heap.size,4,none⟩=some (.string e.nm)∧W.cell? ⟨wr.heap.size,5,none⟩=some (.string e.tg)∧W.cell? ⟨wr.heap.size,6,none⟩=some (.slice a' e.es.length c'))) [(0,true),(1,true),(2,true),(3,true),(4,true),(5,true),(6,false),(7,false),(8,true)] (by(repeat' apply And.intro)<;>first|(simp[go_sem];done)|(go_keep;done)) (fun d=> ?_);repeat((first|refine oS ?_|refine oF d ?_);try simp only[Act.put,oa,ob,oc])
   refine oL fun K J=> ?_;go_simp;go_at_call 44
   refine hT.out.mono ?_;rintro e1 t ⟨x,q1,g1,P6,P7,rfl,Qp,P8,A,QD,_,QE⟩;obtain⟨xt,xb,rfl⟩:=Qp.val;have Qf:t.cell? ⟨C.bb,0,none⟩=some (ptr g.pk):=by
    have h1:=P8.c0;rwa [A.gs.pk,Qe]at h1
   have Qg:=(gY f.out.bs y.out.size A).2;have QF:∀o v,((wr.alloc (.cells #[.int .i64 e.k,.int .i64 e.n,.int .i64 e.m,.bool e.v,.string e.nm,.string e.tg,.slice a' e.es.length c'] 25)).drew).cell? ⟨w.heap.size,o,none⟩=some v→t.cell? ⟨w.heap.size,o,none⟩=some v:=fun o v h=>by
    rw[A.kept.cell (World.block_lt_of_cell? _ _ h) fun e=> ?_]
    ·exact h
    ·rcases e with(e:w.heap.size=C.bb)|e
     ·omega
     ·rcases f.out.om _ e with e|e
      ·have:=(QK.out.ib (b:=w.heap.size) (.inr e)).2.1;omega
      ·have e':L.heap.size≤w.heap.size:=e
       omega
   obtain⟨⟨_,p2,p3⟩,s0,s1,s2,s3,s4,s5,s6⟩:=d;(try simp only[]);refine J _ _ (by(repeat' apply And.intro)<;>first|exact Qf|exact Qg _ _ _ (Nat.le_refl _) (by assumption)|exact QF _ _ (by assumption)) fun d=> ?_;clear J K;try simp only[Act.put,oa,ob,oc]
   clear s0 s1 s2 s3 s4 s5 s6 p2 p3;have Q4:wr.heap.size<t.heap.size:=by
    have:=A.size;simp at this;omega
   have QV:=(P8.ib (b:=C.bb) (.inl rfl)).2.1;have Q5:L.heap.size<t.heap.size:=by have:=f.out.st.size;omega
   have QG:(Value.slice Z I.length ic).ownBlock≠some C.bb∧(Value.slice Z I.length ic).ownBlock≠some wr.heap.size∧(Value.slice Z I.length ic).ownBlock≠some w.heap.size:=⟨fun e=>by have:=(R.out.lt _ e).1;omega,fun e=>by have:=(R.out.lt _ e).2;omega,fun e=>by have:=(R.out.lt _ e).1;omega⟩
   have QH:(Value.slice oa ol.length oc).ownBlock≠some C.bb∧(Value.slice oa ol.length oc).ownBlock≠some wr.heap.size∧(Value.slice oa ol.length oc).ownBlock≠some w.heap.size:=⟨fun e=>by have:=(S.out.lt _ e).1;omega,fun e=>by have:=(S.out.lt _ e).2;omega,fun e=>by have:=(S.out.lt _ e).1;omega⟩
   have Q6:=Lib.hid (show fs.length=k from f.out.fl);have Qh:=Lib.hid (show ∀j u,[Value.pointer (some ⟨t.heap.size,0,none⟩)][j]?=some u→((t.alloc (.cells #[.int .i64 0,ptr g.pk,.string ⟨#[]⟩,ae xt xb,.int .u8 4,.bool false] 156)).alloc (.cells #[.pointer (some ⟨t.heap.size,0,none⟩)] 88)).cell? ((⟨t.heap.size+1,0,none⟩:Addr).add j)=some u from fun j u h=>by
    have h1:=TS.dP (t.alloc (.cells #[.int .i64 0,ptr g.pk,.string ⟨#[]⟩,ae xt xb,.int .u8 4,.bool false] 156)) (.pointer (some ⟨t.heap.size,0,none⟩)) 88 j u h;rwa [show(t.alloc (.cells #[.int .i64 0,ptr g.pk,.string ⟨#[]⟩,ae xt xb,.int .u8 4,.bool false] 156)).heap.size=t.heap.size+1 by simp]at h1)
   have QO:=Lib.hid ((((aA.row (f.out.bs.below y.out) A (by decide) (bD R.out y.out) Q fun b e=>(f.out.ri b e).2).1).alloc (.cells #[.int .i64 0,ptr g.pk,.string ⟨#[]⟩,ae xt xb,.int .u8 4,.bool false] 156)).alloc (.cells #[.pointer (some ⟨t.heap.size,0,none⟩)] 88));have QP:=Lib.hid ((((aA.row (f.out.bs.below y.out) A (by decide) (bD S.out y.out) Q f.out.ro).1).alloc (.cells #[.int .i64 0,ptr g.pk,.string ⟨#[]⟩,ae xt xb,.int .u8 4,.bool false] 156)).alloc (.cells #[.pointer (some ⟨t.heap.size,0,none⟩)] 88));have Qi:=Lib.hid P8;have Qj:=Lib.hid A;have Qk:=Lib.hid Qp;have Ql:=Lib.hid QD;clear P8 A Qp QD Qf Qg hT QF;repeat((first|refine oS ?_|refine oF d ?_);try simp only[Act.put,oa,ob,oc])
   refine oL fun K J=> ?_;go_simp;go_at_call 118
   refine(x_ _ _ _ _ _ _).mono ?_;rintro e2 w2 ⟨rfl,rfl⟩;obtain⟨⟨_,p2,p3⟩,s0,s1,s2,s3,s4,s5,s6⟩:=d;(try simp only[]);refine J _ _ (by(repeat' apply And.intro)<;>exact ak ((Below.refl _ _).alloc (Nat.le_refl _) _) (by assumption)) fun d=> ?_;clear J K;try simp only[Act.put,oa,ob,oc]
   clear s0 s1 s2 s3 s4 s5 s6 p2 p3;repeat((first|refine oS ?_|refine oF d ?_);try simp only[Act.put,oa,ob,oc])
   refine bM ?_;obtain⟨⟨p1,p2,p3⟩,s0,s1,s2,s3,s4,s5,s6⟩:=d;rcases hc:decide ((k:Int)<u.m)with _|_
   ·have Qq:u.m.toNat≤k:=by simp at hc;omega
    have QQ:¬(k:Int)<u.m:=by simpa using hc
    go_wp2_with (first|(at_builtin;refine wpList_append_own_at _ rfl _ _ 151 rfl L.heap.size 88 i0 (.pointer none) 1 8 Tryz.underlying151 Qz P_ Qa Qb rfl (by decide) (.slice oa ol.length oc) ol.length (ol.map pv) rfl QP.out ⟨t.heap.size+1,0,none⟩ 1 1 [.pointer (some ⟨t.heap.size,0,none⟩)] rfl rfl Qh.out (TS.one_one rfl) ?c3 ?c4 ?c5 ?_)|fail)
    case c3=>have:=P5.out;unfold maxLen;omega
    case c4=>have:=P5.out;omega
    case c5=>(try simp);omega
    intro v' w3 l E _ X;obtain⟨a3,c3,rfl⟩:=bd l;have F:∀b o v,(Value.slice oa ol.length oc).ownBlock≠some b→((t.alloc (.cells #[.int .i64 0,ptr g.pk,.string ⟨#[]⟩,ae xt xb,.int .u8 4,.bool false] 156)).alloc (.cells #[.pointer (some ⟨t.heap.size,0,none⟩)] 88)).cell? ⟨b,o,none⟩=some v→w3.cell? ⟨b,o,none⟩=some v:=fun b o v hb h=>by
     rw[((Kept.refl (fun b=>(Value.slice oa ol.length oc).ownBlock=some b) _).grown E fun k hk _=>hk).cell (World.block_lt_of_cell? _ _ h) hb];exact h
    have Qr:=F _ _ _ QH.2.2 (ak ((Below.refl _ _).alloc (Nat.le_refl _) _) p2);have Qs:=F _ _ _ QH.2.2 (ak ((Below.refl _ _).alloc (Nat.le_refl _) _) p3);have s:Hid (∃(q2:Pm)(G:List Nat)(H:Nat→Value),dJ C u p g mv ms L (k+1) q2 g1 P6 P7 G H (.slice Z I.length ic) (.slice a3 (ol.length+1) c3) w3):=
     ⟨_,_,_,dJ.C9 f.out Q Qc.out Qq y.out Qk.out Qi.out Qj.out Ql.out QE (cs:=#[.int .i64 0,ptr g.pk,.string ⟨#[]⟩,ae xt xb,.int .u8 4,.bool false]) rfl (by rw[B.out];exact l) E (X.imp id fun h=>h.trans (by simp))⟩
    clear F l E X;go_wp2_with fail
    obtain⟨q2,G,H,s⟩:=s.out;exact⟨⟨k+1,q2,g1,P6,P7,G,H,by omega,by go_num,s,Qr,Qs⟩,by first|omega|(simp[intOf];omega)⟩
   ·have Qq:k<u.m.toNat:=by simp at hc;omega
    have QQ:(k:Int)<u.m:=by simpa using hc
    go_wp2_with (first|(at_builtin;refine wpList_append_own_at _ rfl _ _ 151 rfl L.heap.size 88 i0 (.pointer none) 1 8 Tryz.underlying151 Qz P_ Qa Qb rfl (by decide) (.slice Z I.length ic) I.length (I.map pv) rfl QO.out ⟨t.heap.size+1,0,none⟩ 1 1 [.pointer (some ⟨t.heap.size,0,none⟩)] rfl rfl Qh.out (TS.one_one rfl) ?c3 ?c4 ?c5 ?_)|fail)
    case c3=>have:=P5.out;unfold maxLen;omega
    case c4=>have:=P5.out;omega
    case c5=>(try simp);omega
    intro v' w3 l E _ X;obtain⟨a3,c3,rfl⟩:=bd l;have F:∀b o v,(Value.slice Z I.length ic).ownBlock≠some b→((t.alloc (.cells #[.int .i64 0,ptr g.pk,.string ⟨#[]⟩,ae xt xb,.int .u8 4,.bool false] 156)).alloc (.cells #[.pointer (some ⟨t.heap.size,0,none⟩)] 88)).cell? ⟨b,o,none⟩=some v→w3.cell? ⟨b,o,none⟩=some v:=fun b o v hb h=>by
     rw[((Kept.refl (fun b=>(Value.slice Z I.length ic).ownBlock=some b) _).grown E fun k hk _=>hk).cell (World.block_lt_of_cell? _ _ h) hb];exact h
    have Qr:=F _ _ _ QG.2.2 (ak ((Below.refl _ _).alloc (Nat.le_refl _) _) p2);have Qs:=F _ _ _ QG.2.2 (ak ((Below.refl _ _).alloc (Nat.le_refl _) _) p3);have s:Hid (∃(q2:Pm)(G:List Nat)(H:Nat→Value),dJ C u p g mv ms L (k+1) q2 g1 P6 P7 G H (.slice a3 (I.length+1) c3) (.slice oa ol.length oc) w3):=
     ⟨_,_,_,dJ.C8 f.out Q Qc.out Qq y.out Qk.out Qi.out Qj.out Ql.out QE (cs:=#[.int .i64 0,ptr g.pk,.string ⟨#[]⟩,ae xt xb,.int .u8 4,.bool false]) rfl (by rw[z.out];exact l) E (X.imp id fun h=>h.trans (by simp))⟩
    clear F l E X;go_wp2_with fail
    obtain⟨q2,G,H,s⟩:=s.out;exact⟨⟨k+1,q2,g1,P6,P7,G,H,by omega,by go_num,s,Qr,Qs⟩,by first|omega|(simp[intOf];omega)⟩
  ·have Q7:¬(k:Int)<n:=by omega
   obtain rfl:k=n:=by omega
   have V:=World.block_lt_of_cell? _ _ t2;simp only at V;go_wp2_with fail
   refine oR (fun W=>W.cell? ⟨w.heap.size,3,none⟩=some (.bool u.v)) [(0,true),(1,true),(3,true),(5,true),(6,true),(2,false),(4,false),(7,false),(8,true)] (by first|(simp[go_sem];done)|(go_keep;done)) (fun d=> ?_);repeat((first|refine oS ?_|refine oF d ?_);try simp only[Act.put,oa,ob,oc])
   refine oL fun K J=> ?_;go_simp;go_at_call 67
   refine(uC _ _ _ _).mono ?_;rintro e1 t ⟨tv,rfl,Qt⟩;(try simp only[]);refine J _ _ (ak Qt.1 d) fun d=> ?_;clear J K;try simp only[Act.put,oa,ob,oc]
   repeat((first|refine oS ?_|refine oF d ?_);try simp only[Act.put,oa,ob,oc])
   refine oL fun K J=> ?_;go_simp;go_at_call 67
   refine(uC _ _ _ _).mono ?_;rintro e2 w2 ⟨qv,rfl,P9⟩;(try simp only[]);refine J _ _ (ak P9.1 d) fun d=> ?_;clear J K;try simp only[Act.put,oa,ob,oc]
   repeat((first|refine oS ?_|refine oF d ?_);try simp only[Act.put,oa,ob,oc])
   refine oL fun K J=> ?_;go_simp;go_at_call 119
   have Qu:dJ C u p g mv ms L u.es.length q g' N O fs xs (.slice Z (fs.take u.m.toNat).length ic) (.slice oa (fs.drop u.m.toNat).length oc) wr.drew:=by rw[z.out,B.out,M.out];exact f.out.below (Below.refl _ _).drew
   have Y:jz wr.drew Z (fs.take u.m.toNat).length ic tv t:=by rw[z.out];exact Qt
   have Qm:jz t oa (fs.drop u.m.toNat).length oc qv w2:=by rw[B.out];exact P9
   have Qv:=fun h=>Db Q (by have:=Qy.out;have:=M.out;omega) (by have:=M.out;omega) (QM.out h) Qu Y P9.1;rw[z.out]at Qv;refine(Dc r u.v w2 Z I.length ic tv qv Qv).mono ?_;rintro e3 w3 ⟨b,rfl,hb,QI,Qw⟩;(try simp only[]);refine J _ _ (ak Qw d) fun d=> ?_;clear J K;try simp only[Act.put,oa,ob,oc]
   have s:Hid (lE C u p g mv ms r w (.returned (.pointer (some ⟨b,0,none⟩))) w3):=by
    have h:=Dd QL.out (by have:=Qy.out;have:=M.out;omega) (by have:=M.out;omega) Qn.out Qu Y Qm hb QI Qw;obtain⟨sb,q,g',N,O,h1,h2,h3,h4,h5,h6,h7⟩:=h;exact⟨sb,q,g',N,O,h1,h2,h3,aA.ahead QA.out h4,fun b e=>(h5 b e).imp id fun h=>by omega,by omega,h7⟩
   clear Qv hb QI Qw Qt P9 Y Qm Qu;repeat((first|refine oS ?_|refine oF d ?_);try simp only[Act.put,oa,ob,oc])
   refine bM ?_;clear d;go_wp2_with fail
   go_ret;exact s.out
end Go.Proofs.YtkfaiocajcjomaaGreatDoor
