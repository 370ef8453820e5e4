import Derived.Test.YtdkmnkjhhhmglaaGreatDoorYbi
set_option maxRecDepth 100000
set_option maxHeartbeats 8000000
set_option linter.all false
namespace TS
open Go Go.RowKit Go.Proofs.YtdkmnkjhhhmglaaGreatDoor
def kN(w:World)(a:Option Addr)(n c:Nat)(b:Option Addr)(d:World):Prop:=
 Below w.heap.size w d∧((n=0∧b=none)∨(0<n∧∃tb,b=some ⟨tb,0,none⟩∧w.heap.size≤tb∧d.heap[tb]?=some (.cells #[.slice a n c] 183 (0,0))))
structure ej(C:BC)(u:U)(p:Pm)(g:Ge)(mv:Value)(ms:List Nat)(w:World)(k:Nat)(q:Pm)(d:Ge)(c:Value)(a fs:List Nat)(xs:Nat→Value)(f e:Value)(wr:World):Prop where
 bs:BS C q d c a wr
 st:aD C p g mv ms w q d a wr
 om:∀b,c.ownBlock=some b→mv.ownBlock=some b∨w.heap.size≤b
 fl:fs.length=k
 ir:wr.ownsRow w.heap.size 96 1 f (fs.take u.m.toNat).length ((fs.take u.m.toNat).map pv)
 or:wr.ownsRow w.heap.size 96 1 e (fs.drop u.m.toNat).length ((fs.drop u.m.toNat).map pv)
 ri:∀b,f.ownBlock=some b→e.ownBlock≠some b∧∀o,q b o=none
 ro:∀b,e.ownBlock=some b→∀o,q b o=none
 cl:∀i(h:i<u.es.length),i<k→q (fs.getD i 0) 3=some (xs i)
 nd:∀i(h:i<u.es.length),i<k→Node q d u.es[i] (xs i)
 ct:a.length≤ms.length+aK (u.es.take k)
theorem ej.below{C:BC}{u:U}{p q:Pm}{g e:Ge}{mv b:Value}{ms c fs:List Nat}{w wr f:World}{k:Nat}{xs:Nat→Value}{h i:Value}(a:ej C u p g mv ms w k q e b c fs xs h i wr)(d:Below wr.heap.size wr f):ej C u p g mv ms w k q e b c fs xs h i f:=
 ⟨a.bs.below d,a.st.below d,a.om,a.fl,bO a.ir d,bO a.or d,a.ri,a.ro,a.cl,a.nd,a.ct⟩
theorem ej.mid{C:BC}{u e:U}{p q d:Pm}{g J g1:Ge}{mv s i:Value}{ms z j fs:List Nat}{w D wr a:World}{k:Nat}{xs:Nat→Value}{E F x:Value}
 (f:ej C u p g mv ms w k q J s z fs xs E F wr)(A:C.bb<w.heap.size)(c:Below wr.heap.size wr D)
 (G:Node d g1 e x)(t:BS C d g1 i j a)(l:aD C q J s z D d g1 j a)(H:∀b,i.ownBlock=some b→s.ownBlock=some b∨D.heap.size≤b)
 {bs cs:Array Value}{Tb:TypeId}(I:cs[3]?=some x):
 BS C (d.add a.heap.size cs) g1 i j ((a.alloc (.cells cs 175)).alloc (.cells bs Tb))∧aD C p g mv ms w (d.add a.heap.size cs) g1 j ((a.alloc (.cells cs 175)).alloc (.cells bs Tb))∧
 ((a.alloc (.cells cs 175)).alloc (.cells bs Tb)).ownsRow w.heap.size 96 1 E (fs.take u.m.toNat).length ((fs.take u.m.toNat).map pv)∧((a.alloc (.cells cs 175)).alloc (.cells bs Tb)).ownsRow w.heap.size 96 1 F (fs.drop u.m.toNat).length ((fs.drop u.m.toNat).map pv)∧
 (∀b,E.ownBlock=some b→∀o,d.add a.heap.size cs b o=none)∧(∀b,F.ownBlock=some b→∀o,d.add a.heap.size cs b o=none)∧Sub q (d.add a.heap.size cs)∧(∀b,i.ownBlock=some b→mv.ownBlock=some b∨w.heap.size≤b)∧Node (d.add a.heap.size cs) g1 e x∧d.add a.heap.size cs a.heap.size 3=some x:=by
 have v:=aD.row (f.bs.below c) l (by decide) (bO f.ir c) A fun b e=>(f.ri b e).2;have y:=aD.row (f.bs.below c) l (by decide) (bO f.or c) A f.ro;have K:∀o,d a.heap.size o=none:=fun o=>t.wb.kw.aJ (Nat.le_refl _) o;have n:=Pm.dj (cs:=cs) K;have r:Below a.heap.size a ((a.alloc (.cells cs 175)).alloc (.cells bs Tb)):=((Below.refl _ _).alloc (Nat.le_refl _) _).alloc (by simp) _;have B:Below (a.alloc (.cells cs 175)).heap.size (a.alloc (.cells cs 175)) ((a.alloc (.cells cs 175)).alloc (.cells bs Tb)):=(Below.refl _ _).alloc (Nat.le_refl _) _;refine⟨(t.box cs _).below B,((f.st.trans (aD.ahead c l) f.om).box t cs _).below B,bO v.1 r,bO y.1 r,fun b h o=> ?_,fun b h o=> ?_,l.gr.le.trans n,fun b h=> ?_,G.sub n (aH.refl _),by rw[Pm.aX];exact I⟩
 ·rw[Pm.aO _ _ _ fun L=>by have:=(v.1.lt b h).2;omega];exact v.2 b h o
 ·rw[Pm.aO _ _ _ fun L=>by have:=(y.1.lt b h).2;omega];exact y.2 b h o
 ·rcases H b h with h|h
  ·exact f.om b h
  ·have:=c.size;have:=f.st.size;exact .inr (by omega)
theorem xi{u e:U}{q a:Pm}{l g1:Ge}{k F:Nat}{fs:List Nat}{xs:Nat→Value}{x:Value}(d:u.es[k]?=some e)(f:fs.length=k)(m:Sub q a)(g:aH l g1)(j:∀i(_:i<u.es.length),i<k→q (fs.getD i 0) 3=some (xs i))(hnd:∀i(h:i<u.es.length),i<k→Node q l u.es[i] (xs i))(n:a F 3=some x)(o:Node a g1 e x):
 (∀i(_:i<u.es.length),i<k+1→a ((fs++ [F]).getD i 0) 3=some (if i=k then x else xs i))∧∀i(h:i<u.es.length),i<k+1→Node a g1 u.es[i] (if i=k then x else xs i):=by
 obtain⟨hk,b⟩:=List.getElem?_eq_some_iff.1 d;refine⟨fun i h hi=> ?_,fun i h hi=> ?_⟩
 ·by_cases c:i=k
  ·subst c
   rw[if_pos rfl,show(fs++ [F]).getD i 0=F by simp[List.getD,←f]];exact n
  ·rw[if_neg c,show(fs++ [F]).getD i 0=fs.getD i 0 by simp[List.getD,List.getElem?_append_left (show i<fs.length by omega)]]
   exact m _ _ _ (j i h (by omega))
 ·by_cases c:i=k
  ·subst c
   rw[b,if_pos rfl];exact o
  ·rw[if_neg c];exact(hnd i h (by omega)).sub m g
theorem ej.Fi{C:BC}{u e:U}{p q F:Pm}{g Z g1:Ge}{mv j n:Value}{ms o c fs:List Nat}{w H wr a I:World}{k:Nat}{xs:Nat→Value}{J vo d x:Value}
 (r:ej C u p g mv ms w k q Z j o fs xs J vo wr)(s:C.bb<w.heap.size)(t:u.es[k]?=some e)(PM:k<u.m.toNat)(K:Below wr.heap.size wr H)
 (L:Node F g1 e x)(M:BS C F g1 n c a)(v:aD C q Z j o H F g1 c a)(N:∀b,n.ownBlock=some b→j.ownBlock=some b∨H.heap.size≤b)(PN:c.length≤o.length+cn e)
 {bs cs:Array Value}{Tb:TypeId}(O:cs[3]?=some x)
 (P:I.ownsRow w.heap.size 96 1 d ((fs.take u.m.toNat).length+1) ((fs.take u.m.toNat).map pv++ [pv a.heap.size]))
 (Q:((a.alloc (.cells cs 175)).alloc (.cells bs Tb)).grownBy I J.ownBlock)(y:d.ownBlock=J.ownBlock∨d.ownBlock=some ((a.alloc (.cells cs 175)).alloc (.cells bs Tb)).heap.size):
 ej C u p g mv ms w (k+1) (F.add a.heap.size cs) g1 n c (fs++ [a.heap.size]) (fun i=>if i=k then x else xs i) d vo I:=by
 obtain⟨z,R,A,B,hid,S,T,V,hnd,W⟩:=r.mid (bs:=bs) (Tb:=Tb) s K L M v N O;obtain⟨X,D⟩:=z.appended (by decide) A hid s Q;have E:=r.fl;have ht:(fs++ [a.heap.size]).take u.m.toNat=fs.take u.m.toNat++ [a.heap.size]:=by rw[List.take_append,List.take_of_length_le (l:= [_]) (by simp;omega)]
 have Y:(fs++ [a.heap.size]).drop u.m.toNat=fs.drop u.m.toNat:=by rw[List.drop_append,List.drop_of_length_le (l:= [_]) (by simp;omega),List.append_nil]
 have hc:=xi t E T v.gs r.cl r.nd W hnd;refine⟨X,R.own D fun b f=>(A.lt b f).1,V,by simp[E],?_,?_,fun b f=>⟨fun G=> ?_,kM z.wb hid y b f⟩,S,hc.1,hc.2,by have:=r.ct;have:=gi t;omega⟩
 ·rw[ht];simpa using P
 ·rw[Y];exact eC B D fun b f G=>(r.ri b G).1 f
 ·rcases y with h|h
  ·exact(r.ri b (h▸f)).1 G
  ·rw[h]at f;cases f;have:=(B.lt _ G).2;omega
theorem ej.Fj{C:BC}{u e:U}{p q G:Pm}{g Y g1:Ge}{mv f j:Value}{ms l c fs:List Nat}{w H wr a I:World}{k:Nat}{xs:Nat→Value}{Z J d x:Value}
 (n:ej C u p g mv ms w k q Y f l fs xs Z J wr)(r:C.bb<w.heap.size)(s:u.es[k]?=some e)(PM:u.m.toNat≤k)(K:Below wr.heap.size wr H)
 (L:Node G g1 e x)(M:BS C G g1 j c a)(t:aD C q Y f l H G g1 c a)(N:∀b,j.ownBlock=some b→f.ownBlock=some b∨H.heap.size≤b)(PN:c.length≤l.length+cn e)
 {bs cs:Array Value}{Tb:TypeId}(O:cs[3]?=some x)
 (P:I.ownsRow w.heap.size 96 1 d ((fs.drop u.m.toNat).length+1) ((fs.drop u.m.toNat).map pv++ [pv a.heap.size]))
 (Q:((a.alloc (.cells cs 175)).alloc (.cells bs Tb)).grownBy I J.ownBlock)(v:d.ownBlock=J.ownBlock∨d.ownBlock=some ((a.alloc (.cells cs 175)).alloc (.cells bs Tb)).heap.size):
 ej C u p g mv ms w (k+1) (G.add a.heap.size cs) g1 j c (fs++ [a.heap.size]) (fun i=>if i=k then x else xs i) Z d I:=by
 obtain⟨y,R,z,A,hid,B,S,T,hnd,V⟩:=n.mid (bs:=bs) (Tb:=Tb) r K L M t N O;obtain⟨W,D⟩:=y.appended (by decide) A B r Q;have E:=n.fl;have ht:(fs++ [a.heap.size]).take u.m.toNat=fs.take u.m.toNat:=by rw[List.take_append,show u.m.toNat- fs.length=0 by omega];simp
 have X:(fs++ [a.heap.size]).drop u.m.toNat=fs.drop u.m.toNat++ [a.heap.size]:=by rw[List.drop_append,show u.m.toNat- fs.length=0 by omega];simp
 have hc:=xi s E S t.gs n.cl n.nd V hnd;refine⟨W,R.own D fun b o=>(A.lt b o).1,T,by simp[E],?_,?_,fun b o=>⟨fun F=> ?_,hid b o⟩,kM y.wb B v,hc.1,hc.2,by have:=n.ct;have:=gi s;omega⟩
 ·rw[ht];exact eC z D fun b o F=>(n.ri b o).1 F
 ·rw[X];simpa using P
 ·rcases v with h|h
  ·exact(n.ri b o).1 (h▸F)
  ·rw[h]at F;cases F;have:=(z.lt _ o).2;omega
theorem BS.xj{C:BC}{q:Pm}{g:Ge}{mv:Value}{ms:List Nat}{w f:World}(h:BS C q g mv ms w){a:Option Addr}{n c:Nat}{b:Option Addr}(hT:kN w a n c b f):
 ∃d,aP q d w.heap.size∧BS C d g mv ms f∧((n=0∧b=none)∨(0<n∧∃tb,b=some ⟨tb,0,none⟩∧d tb 0=some (.slice a n c))):=by
 obtain⟨e,⟨h1,h2⟩|⟨h1,tb,h2,h3,k⟩⟩:=hT
 ·exact⟨q,aP.refl _ _,h.below e,.inl ⟨h1,h2⟩⟩
 ·have i:∀o,q tb o=none:=fun o=>h.wb.kw.aJ h3 o
  have j:=Pm.dC (cs:=#[.slice a n c]) i h3;exact⟨_,j,h.grow e j ((h.wb.below e).add i k),.inr ⟨h1,tb,h2,by rw[Pm.aX];rfl⟩⟩
theorem getD_take(fs:List Nat)(m i:Nat)(hi:i<m)(hm:m≤fs.length):((fs.take m).map pv).getD i undef=ptr (fs.getD i 0):=by
 simp[List.getD,List.getElem?_take,hi,List.getElem?_eq_getElem (show i<fs.length by omega),pv]
theorem Fk(fs:List Nat)(m i:Nat)(hi:m+i<fs.length):((fs.drop m).map pv).getD i undef=ptr (fs.getD (m+i) 0):=by
 simp[List.getD,List.getElem?_drop,List.getElem?_eq_getElem hi,pv]
def nC(C:BC)(u:U)(p:Pm)(g:Ge)(mv:Value)(ms:List Nat)(r:Option Addr)(w:World)(e:Ending)(f:World):Prop:=
 ∃c q h d a,e= .returned (.pointer (some ⟨c,0,none⟩))∧Node q h u (ae 102 c)∧BS C q h d a f∧aD C p g mv ms w q h a f∧(∀b,d.ownBlock=some b→mv.ownBlock=some b∨w.heap.size≤b)∧
  w.heap.size≤c∧q c 0=none∧f.cell? ⟨c,0,none⟩=some (.pointer r)∧f.frozen? ⟨c,0,none⟩=false∧a.length≤ms.length+cn u
theorem Fl{C:BC}{u:U}{p:Pm}{g:Ge}{mv:Value}{ms:List Nat}{w wr j f:World}{q:Pm}{I:Ge}{l:Value}{n fs:List Nat}{xs:Nat→Value}{d D:Option Addr}{i:Nat}{J:Value}(r:C.bb<w.heap.size)(hm:u.m.toNat≤u.es.length)(V:u.es.length≤1099511627776)(K:0<u.m.toNat∧∃e,u.es[u.m.toNat- 1]?=some e∧e.k=4)
 (c:ej C u p g mv ms w u.es.length q I l n fs xs (.slice d (fs.take u.m.toNat).length i) J wr)(h1:kN wr d (fs.take u.m.toNat).length i D j)(h2:Below j.heap.size j f):
 0<(fs.take u.m.toNat).length∧(fs.take u.m.toNat).length≤1099511627776∧∃tb fl s,D=some ⟨tb,0,none⟩∧f.cell? ⟨tb,0,none⟩=some (.slice d (fs.take u.m.toNat).length i)∧(∃b o,d=some ⟨b,o,none⟩∧f.cell? ⟨b,o+((fs.take u.m.toNat).length- 1),none⟩=some (.pointer (some ⟨fl,0,none⟩)))∧f.cell? ⟨fl,3,none⟩=some (ae 140 s):=by
 have L:=c.fl;have t:(fs.take u.m.toNat).length=u.m.toNat:=by rw[List.length_take];omega
 obtain⟨M,W,c1,N,O,x,y,_⟩:=c.bs.jP (e:=96) (v:= .slice d (fs.take u.m.toNat).length i) (xs:=(fs.take u.m.toNat).map pv) (by decide) (by simpa using c.ir) (fun b e=>(c.ri b e).2) r;injection N with z P Q
 subst z;obtain⟨X,e,he,A⟩:=K;obtain⟨a,rfl⟩:=List.getElem?_eq_some_iff.1 he;obtain⟨E,F,R,S⟩:=y (u.m.toNat- 1) (by simp;omega);have T:M E (F+(u.m.toNat- 1))=some (ptr (fs.getD (u.m.toNat- 1) 0)):=by rw[S];exact congrArg some (getD_take _ _ _ (by omega) (by omega))
 obtain⟨s,_,_,ex,_⟩:=(c.nd _ a a).mK A;have G:=c.cl _ a a;rw[ex]at G;obtain⟨H,⟨h,_⟩|⟨_,tb,rfl,hle,B⟩⟩:=h1
 ·omega
 ·refine⟨by omega,by omega,tb,_,s,rfl,ar h2 (by simp only[World.cell?,B];rfl),⟨E,F,R,?_⟩,ar h2 (ar H (c.bs.wb.kw _ _ _ G))⟩
  rw[t];exact ar h2 (ar H (x.wb.kw _ _ _ T))
end TS
namespace Go.Proofs.YtdkmnkjhhhmglaaGreatDoor
open Go.RowKit TS
theorem xm(a:Option Addr)(n c:Nat)(w:World):Calls Tryz.prog 72 #[.slice a n c] w fun e b=> ∃d,e= .returned (.pointer d)∧kN w a n c d b:=by
 rcases Nat.eq_zero_or_pos n with rfl|h
 ·refine(AU a c w).mono ?_
  rintro e b ⟨rfl,rfl⟩;exact⟨none,rfl,Below.refl _ _,.inl ⟨rfl,rfl⟩⟩
 ·refine(uM a n c h w).mono ?_
  rintro e b ⟨rfl,rfl⟩;exact⟨_,rfl,(Below.refl _ _).alloc (Nat.le_refl _) _,.inr ⟨h,_,rfl,Nat.le_refl _,cV rfl⟩⟩
theorem Fo(r:Option Addr)(v:Bool)(w:World)(a:Option Addr)(n c:Nat)(d f:Option Addr)(i:v=true→0<n∧n≤1099511627776∧∃tb fl g,d=some ⟨tb,0,none⟩∧w.cell? ⟨tb,0,none⟩=some (.slice a n c)∧(∃b o,a=some ⟨b,o,none⟩∧w.cell? ⟨b,o+(n- 1),none⟩=some (.pointer (some ⟨fl,0,none⟩)))∧w.cell? ⟨fl,3,none⟩=some (ae 140 g)):
 Calls Tryz.prog 137 #[.pointer r,.slice none 0 0,.slice none 0 0,.pointer d,.pointer f,.bool v] w fun e h=> ∃b,e= .returned (.pointer (some ⟨b,0,none⟩))∧w.heap.size≤b∧h.heap[b]?=some (.cells #[.pointer r,.pointer none,.pointer d,.pointer f,.bool v] 106 (0,0))∧Below w.heap.size w h:=by
 cases v with
 |false=>
  refine(Bs r d f w).mono ?_;rintro e h ⟨rfl,rfl⟩;exact⟨_,rfl,Nat.le_refl _,cV rfl,(Below.refl _ _).alloc (Nat.le_refl _) _⟩
 |true=>
  obtain⟨j,h1,tb,fl,g,rfl,h2,h3,k⟩:=i rfl;exact Fh r f tb n c fl g a w j h1 h2 h3 k
theorem Fp{C:BC}{u:U}{p:Pm}{g:Ge}{mv:Value}{ms:List Nat}{w wr w1 Q F:World}{q:Pm}{T:Ge}{G:Value}{y fs:List Nat}{xs:Nat→Value}{H oa:Option Addr}{R oc:Nat}{j n r:Option Addr}{b:Nat}(hk:u.k=7)(hm:0≤u.m∧u.m.toNat≤u.es.length)(hl:u.es.length≤1099511627776)(hB:BS C p g mv ms w)
 (d:ej C u p g mv ms w u.es.length q T G y fs xs (.slice H (fs.take u.m.toNat).length R) (.slice oa (fs.drop u.m.toNat).length oc) wr)
 (h1:kN wr H (fs.take u.m.toNat).length R j w1)(h2:kN w1 oa (fs.drop u.m.toNat).length oc n Q)(S:Q.heap.size≤b)(h3:F.heap[b]?=some (.cells #[.pointer r,.pointer none,.pointer j,.pointer n,.bool u.v] 106 (0,0)))(z:Below Q.heap.size Q F):
 nC C u p g mv ms r w (.returned (.pointer (some ⟨b,0,none⟩))) F:=by
 have I:=(hB.ib (b:=C.bb) (.inl rfl)).2.1;have P6:=d.st.size;have P7:=h1.1.size;have P8:=h2.1.size;obtain⟨q1,a1,c1,e1,J,V,W,X,Y,_⟩:=d.bs.jP (e:=96) (v:= .slice H (fs.take u.m.toNat).length R) (xs:=(fs.take u.m.toNat).map pv) (by decide) (by simpa using d.ir) (fun b e=>(d.ri b e).2) I;obtain⟨q2,a2,c2,e2,A,Z,PM,P9,PN,_⟩:=V.jP (e:=96) (v:= .slice oa (fs.drop u.m.toNat).length oc) (xs:=(fs.drop u.m.toNat).map pv) (by decide) (by simpa using d.or) (fun b e o=>by rw[X b fun e'=>(d.ri b e').1 e];exact d.ro b e o) I;obtain⟨q3,s,PO,K⟩:=Z.xj h1;obtain⟨B,l,D,L⟩:=PO.xj h2;have t:∀o,B b o=none:=fun o=>D.wb.kw.aJ S o;have E:Plain F b:=⟨_,_,h3⟩
 have a:∀o v,#[.pointer r,.pointer none,.pointer j,.pointer n,.bool u.v][o]?=some v→F.cell? ⟨b,o,none⟩=some v:=fun o v h=>by simp[World.cell?,h3,h]
 have PQ:=Pm.eH (v:= .pointer j) (o:=2) (t 2) S;have PR:=Pm.eH (p:=B.put b 2 (.pointer j)) (v:= .pointer n) (o:=3) (by rw[Pm.a_ _ _ (by omega)];exact t 3) S;have PS:=Pm.eH (p:=(B.put b 2 (.pointer j)).put b 3 (.pointer n)) (v:= .bool u.v) (o:=4) (by rw[Pm.a_ _ _ (by omega),Pm.a_ _ _ (by omega)];exact t 4) S;have c:=(PQ.trans PR (Nat.le_refl _)).trans PS (Nat.le_refl _);have PT:=(((D.wb.below z).put (a 2 _ rfl) E).put (a 3 _ rfl) E).put (a 4 _ rfl) E;have PU:=D.grow z c PT;have PV:aD C p g mv ms w _ T y F:=(((d.st.jO (J.trans A (Nat.le_refl _))).grow h1.1 s).grow h2.1 l).grow z c;have M:Sub q q2:=J.le.trans A.le;have N:=(M.trans s.le).trans l.le;have x:=N.trans c.le;have P_:=d.fl;have PW:(fs.take u.m.toNat).length=u.m.toNat:=by rw[List.length_take];omega
 have PX:(fs.drop u.m.toNat).length=u.es.length- u.m.toNat:=by rw[List.length_drop];omega
 injection e1 with PY Qa PZ
 injection e2 with P0 Qb P1
 subst PY;subst PZ;subst P0;subst P1;have O:=((A.le.trans s.le).trans l.le).trans c.le;have P:=(s.le.trans l.le).trans c.le;have P2:b9 (((B.put b 2 (.pointer j)).put b 3 (.pointer n)).put b 4 (.bool u.v)) H u.m.toNat fun i=>ptr (fs.getD i 0):=fun i hi=>by
  obtain⟨b',o',k1,k2⟩:=W i (by simp;omega);refine⟨b',o',k1,O _ _ _ ?_⟩;rw[k2];exact congrArg some (getD_take _ _ _ hi (by omega))
 have P3:b9 (((B.put b 2 (.pointer j)).put b 3 (.pointer n)).put b 4 (.bool u.v)) oa (u.es.length- u.m.toNat) fun i=>ptr (fs.getD (u.m.toNat+i) 0):=fun i hi=>by
  obtain⟨b',o',k1,k2⟩:=PM i (by simp;omega);refine⟨b',o',k1,P _ _ _ ?_⟩;rw[k2];exact congrArg some (Fk _ _ _ (by omega))
 have P4:eN (((B.put b 2 (.pointer j)).put b 3 (.pointer n)).put b 4 (.bool u.v)) (.pointer j) u.m.toNat fun i=>fs.getD i 0:=by
  rw[PW]at K;rcases K with⟨h,rfl⟩|⟨h,tb,rfl,h'⟩
  ·exact .inl ⟨h,rfl⟩
  ·exact .inr ⟨h,tb,H,R,rfl,(l.le.trans c.le) _ _ _ h',by simp at Y;omega,P2⟩
 have P5:eN (((B.put b 2 (.pointer j)).put b 3 (.pointer n)).put b 4 (.bool u.v)) (.pointer n) (u.es.length- u.m.toNat) fun i=>fs.getD (u.m.toNat+i) 0:=by
  rw[PX]at L;rcases L with⟨h,rfl⟩|⟨h,tb,rfl,h'⟩
  ·exact .inl ⟨h,rfl⟩
  ·exact .inr ⟨h,tb,oa,oc,rfl,c.le _ _ _ h',by simp at PN;omega,P3⟩
 refine⟨b,_,T,G,y,rfl,.func (f:=fun i=>fs.getD i 0) (xs:=xs) hk ⟨hm.2,hl⟩ (by rw[Pm.a_ _ _ (by omega),Pm.a_ _ _ (by omega),Pm.fL]) (by rw[Pm.a_ _ _ (by omega),Pm.fL]) (Pm.fL ..) P4 P5 (fun i hi=>x _ _ _ (d.cl i hi hi)) fun i hi=>(d.nd i hi hi).sub x (aH.refl _),PU,PV,d.om,by omega,?_,a 0 _ rfl,?_,by have:=d.ct;rw[List.take_length]at this;rw[cW];omega⟩
 ·rw[Pm.a_ _ _ (by omega),Pm.a_ _ _ (by omega),Pm.a_ _ _ (by omega)];exact t 0
 ·simp[World.frozen?,h3]
theorem pq(C:BC)(u:U)(r:Option Addr)(hk:u.k=7)(hm:0≤u.m∧u.m.toNat≤u.es.length)(hv:u.v=true→0<u.m.toNat∧∃e,u.es[u.m.toNat- 1]?=some e∧e.k=4)(hI:∀e∈u.es,bZ C e)(p:Pm)(g:Ge)(mv:Value)(ms:List Nat)(a:Option Addr)(c:Nat)(w:World)(hB:BS C p g mv ms w)(QG:ms.length+cn u≤1099511627776)(hu:ak C.pa C.D u a c):
 Calls Tryz.prog 88 #[.pointer (some ⟨C.bb,0,none⟩),.pointer r,.agg #[.int .i64 u.k,.int .i64 u.n,.int .i64 u.m,.bool u.v,.string u.nm,.string u.tg,.slice a u.es.length c]] w (nC C u p g mv ms r w):=by
 have Qh:=hu.cap;have Qt:Hid (∀k e,u.es[k]?=some e→∃eb eo a' c',a=some ⟨eb,eo,none⟩∧dr C.pa eb (eo+k*7) e a' c'∧ak C.pa C.D e a' c'):=fun k e he=>by
  obtain⟨hk,rfl⟩:=List.getElem?_eq_some_iff.1 he;obtain⟨eb,eo,rfl⟩:=hu.list.bN (by omega);obtain⟨a',c',h7,PM⟩:=hu.list.get k hk;exact⟨eb,eo,a',c',rfl,h7,PM⟩
 have QB:=(hB.ib (b:=C.bb) (.inl rfl)).2.1;have PN:Below w.heap.size w (w.alloc (.cells #[.int .i64 u.k,.int .i64 u.n,.int .i64 u.m,.bool u.v,.string u.nm,.string u.tg,.slice a u.es.length c] 25)):=(Below.refl _ _).alloc (Nat.le_refl _) _;have P8:=Lib.hid (hB.below PN);have Qu:=Lib.hid hB;have QH:u.es.length≤1048576:=by omega
 have QC:u.es.length≤1099511627776:=by omega
 have Qv:=Lib.hid hk;have Qi:=Lib.hid hm;have Qw:=Lib.hid hv;have Qx:=Lib.hid hI;obtain⟨i0,Qj,PU,PV,PW⟩:=info_parts vb;have hh:(w.alloc (.cells #[.int .i64 u.k,.int .i64 u.n,.int .i64 u.m,.bool u.v,.string u.nm,.string u.tg,.slice a u.es.length c] 25)).heap[w.heap.size]?=some (.cells #[.int .i64 u.k,.int .i64 u.n,.int .i64 u.m,.bool u.v,.string u.nm,.string u.tg,.slice a u.es.length c] 25):=cV rfl;have P:Hid ((w.alloc (.cells #[.int .i64 u.k,.int .i64 u.n,.int .i64 u.m,.bool u.v,.string u.nm,.string u.tg,.slice a u.es.length c] 25)).cell? ⟨w.heap.size,2,none⟩=some (.int .i64 u.m)∧(w.alloc (.cells #[.int .i64 u.k,.int .i64 u.n,.int .i64 u.m,.bool u.v,.string u.nm,.string u.tg,.slice a u.es.length c] 25)).cell? ⟨w.heap.size,3,none⟩=some (.bool u.v)):=by(repeat' apply And.intro)<;>(simp only[World.cell?,hh];rfl)
 clear hh;obtain⟨L,hW⟩:∃L,Hid (L=w.alloc (.cells #[.int .i64 u.k,.int .i64 u.n,.int .i64 u.m,.bool u.v,.string u.nm,.string u.tg,.slice a u.es.length c] 25)):=⟨_,rfl⟩
 have QI:L.heap.size≤w.heap.size+1∧w.heap.size+1≤L.heap.size:=by rw[hW.out];simp
 rw[←hW.out]at P8 PN P;have Q:C.bb<L.heap.size:=by omega
 have Qk:=Lib.hid PN;clear hu hB PN Qh hk hm hv hI;generalize hn:u.es.length=n at*;have M:=Lib.hid hn;clear hn;go_enter Tryz.func88,Tryz.ntmps88;go_wp2_with fail
 go_loopw [15,7,8] (fun vk vi vo wr=> ∃(k:Nat)(q:Pm)(g':Ge)(N:Value)(O fs:List Nat)(xs:Nat→Value),k≤n∧vk= .int .i64 k∧ej C u p g mv ms L k q g' N O fs xs vi vo wr∧wr.cell? ⟨w.heap.size,2,none⟩=some (.int .i64 u.m)∧wr.cell? ⟨w.heap.size,3,none⟩=some (.bool u.v)) (fun vk _ _ _=>n- (intOf vk).toNat)
 case atStart=>
  obtain rfl:=hW.out;exact⟨0,p,g,mv,ms,[],fun _=>undef,Nat.zero_le _,rfl,⟨P8.out,aD.refl _ _ _ _ _ _,fun b e=> .inl e,rfl,by simpa using World.ownsRow_nil _ _ _ _,by simpa using World.ownsRow_nil _ _ _ _,fun b e=>(by cases e),fun b e=>(by cases e),fun i _ hi=>absurd hi (Nat.not_lt_zero _),fun i _ hi=>absurd hi (Nat.not_lt_zero _),Nat.le_add_right _ _⟩,P.out⟩
 case round=>
  obtain⟨k,q,g',N,O,fs,xs,QJ,rfl,hP,t2,t3⟩:=hrel;have f:=Lib.hid hP;obtain⟨Z,ic,rfl⟩:=bn hP.ir;obtain⟨oa,oc,rfl⟩:=bn hP.or;have R:=Lib.hid hP.ir;have S:=Lib.hid hP.or;clear hP;obtain⟨I,z⟩:∃I,Hid (fs.take u.m.toNat=I):=⟨_,rfl⟩
  obtain⟨ol,B⟩:∃ol,Hid (fs.drop u.m.toNat=ol):=⟨_,rfl⟩
  rw[z.out,B.out]at f;rw[z.out]at R;rw[B.out]at S;rw[z.out,B.out];have PO:=Lib.hid (show I.length≤k∧ol.length≤k by have:=f.out.fl;rw[←z.out,←B.out];simp;omega);by_cases QK:k<n
  ·have QD:(k:Int)<n:=by omega
   obtain⟨e,T⟩:∃e,u.es[k]?=some e:=⟨_,List.getElem?_eq_getElem (by have:=M.out;omega)⟩
   obtain⟨eb,eo,a',c',rfl,h7,PM⟩:=Qt.out k e T;have Ql:=Qx.out _ (List.mem_of_getElem? T);obtain⟨z0,z1,z2,z3,z4,z5,z6⟩:TS.C7 wr eb (eo+k*7) e a' c':=h7.world f.out.bs.ka;have QE:eb<wr.heap.size:=f.out.bs.ka.lt h7.1;have P9:Below wr.heap.size wr ((wr.alloc (.cells #[.int .i64 e.k,.int .i64 e.n,.int .i64 e.m,.bool e.v,.string e.nm,.string e.tg,.slice a' e.es.length c'] 25)).drew):=((Below.refl _ _).alloc (Nat.le_refl _) _).drew;have hT:=Lib.hid (Ql q g' N O a' c' _ (f.out.bs.below P9) (by have:=f.out.ct;have:=pn T;omega) PM);have PX:=Lib.hid T;have y:=Lib.hid P9;have PY:=f.out.bs.c0;have PZ:g'.pk=g.pk:=f.out.st.gs.pk;rw[PZ]at PY;have Qm:=World.block_lt_of_cell? _ _ PY;have V:=World.block_lt_of_cell? _ _ t2;simp only at Qm V;clear h7 PM Ql T P9;go_wp2_with fail
   refine oR (fun W=>(W.cell? ⟨C.bb,0,none⟩=some (ptr g.pk)∧W.cell? ⟨w.heap.size,2,none⟩=some (.int .i64 u.m)∧W.cell? ⟨w.heap.size,3,none⟩=some (.bool u.v))∧(W.cell? ⟨wr.heap.size,0,none⟩=some (.int .i64 e.k)∧W.cell? ⟨wr.heap.size,1,none⟩=some (.int .i64 e.n)∧W.cell? ⟨wr.heap.size,2,none⟩=some (.int .i64 e.m)∧W.cell? ⟨wr.heap.size,3,none⟩=some (.bool e.v)∧W.cell? ⟨wr.heap.size,4,none⟩=some (.string e.nm)∧W.cell? ⟨wr.heap.size,5,none⟩=some (.string e.tg)∧W.cell? ⟨wr.heap.size,6,none⟩=some (.slice a' e.es.length c'))) [(0,true),(1,true),(2,true),(3,true),(4,true),(5,true),(6,false),(7,false),(8,true)] (by(repeat' apply And.intro)<;>first|(simp[go_sem];done)|(go_keep;done)) (fun d=> ?_);repeat((first|refine oS ?_|refine oF d ?_);try simp only[Act.put,oa,ob,oc])
   refine oL fun K J=> ?_;go_simp;go_at_call 40
   refine hT.out.mono ?_;rintro e1 t ⟨x,q1,g1,PQ,PR,rfl,P_,PS,A,Qn,_,Qo⟩;obtain⟨xt,xb,rfl⟩:=P_.val;have P0:t.cell? ⟨C.bb,0,none⟩=some (ptr g.pk):=by
    have h1:=PS.c0;rwa [A.gs.pk,PZ]at h1
   have P1:=(jc f.out.bs y.out.size A).2;have Qp:∀o v,((wr.alloc (.cells #[.int .i64 e.k,.int .i64 e.n,.int .i64 e.m,.bool e.v,.string e.nm,.string e.tg,.slice a' e.es.length c'] 25)).drew).cell? ⟨w.heap.size,o,none⟩=some v→t.cell? ⟨w.heap.size,o,none⟩=some v:=fun o v h=>by
    rw[A.kept.cell (World.block_lt_of_cell? _ _ h) fun e=> ?_]
    ·exact h
    ·rcases e with(e:w.heap.size=C.bb)|e
     ·omega
     ·rcases f.out.om _ e with e|e
      ·have:=(Qu.out.ib (b:=w.heap.size) (.inr e)).2.1;omega
      ·have e':L.heap.size≤w.heap.size:=e
       omega
   obtain⟨⟨_,p2,p3⟩,s0,s1,s2,s3,s4,s5,s6⟩:=d;(try simp only[]);refine J _ _ (by(repeat' apply And.intro)<;>first|exact P0|exact P1 _ _ _ (Nat.le_refl _) (by assumption)|exact Qp _ _ (by assumption)) fun d=> ?_;clear J K;try simp only[Act.put,oa,ob,oc]
   clear s0 s1 s2 s3 s4 s5 s6 p2 p3;have QL:wr.heap.size<t.heap.size:=by
    have:=A.size;simp at this;omega
   have QF:=(PS.ib (b:=C.bb) (.inl rfl)).2.1;have QM:L.heap.size<t.heap.size:=by have:=f.out.st.size;omega
   have Qq:(Value.slice Z I.length ic).ownBlock≠some C.bb∧(Value.slice Z I.length ic).ownBlock≠some wr.heap.size∧(Value.slice Z I.length ic).ownBlock≠some w.heap.size:=⟨fun e=>by have:=(R.out.lt _ e).1;omega,fun e=>by have:=(R.out.lt _ e).2;omega,fun e=>by have:=(R.out.lt _ e).1;omega⟩
   have Qr:(Value.slice oa ol.length oc).ownBlock≠some C.bb∧(Value.slice oa ol.length oc).ownBlock≠some wr.heap.size∧(Value.slice oa ol.length oc).ownBlock≠some w.heap.size:=⟨fun e=>by have:=(S.out.lt _ e).1;omega,fun e=>by have:=(S.out.lt _ e).2;omega,fun e=>by have:=(S.out.lt _ e).1;omega⟩
   have QN:=Lib.hid (show fs.length=k from f.out.fl);have P2:=Lib.hid (show ∀j u,[Value.pointer (some ⟨t.heap.size,0,none⟩)][j]?=some u→((t.alloc (.cells #[.int .i64 0,ptr g.pk,.string ⟨#[]⟩,ae xt xb,.int .u8 4,.bool false] 175)).alloc (.cells #[.pointer (some ⟨t.heap.size,0,none⟩)] 96)).cell? ((⟨t.heap.size+1,0,none⟩:Addr).add j)=some u from fun j u h=>by
    have h1:=TS.eD (t.alloc (.cells #[.int .i64 0,ptr g.pk,.string ⟨#[]⟩,ae xt xb,.int .u8 4,.bool false] 175)) (.pointer (some ⟨t.heap.size,0,none⟩)) 96 j u h;rwa [show(t.alloc (.cells #[.int .i64 0,ptr g.pk,.string ⟨#[]⟩,ae xt xb,.int .u8 4,.bool false] 175)).heap.size=t.heap.size+1 by simp]at h1)
   have Qy:=Lib.hid ((((aD.row (f.out.bs.below y.out) A (by decide) (bO R.out y.out) Q fun b e=>(f.out.ri b e).2).1).alloc (.cells #[.int .i64 0,ptr g.pk,.string ⟨#[]⟩,ae xt xb,.int .u8 4,.bool false] 175)).alloc (.cells #[.pointer (some ⟨t.heap.size,0,none⟩)] 96));have Qz:=Lib.hid ((((aD.row (f.out.bs.below y.out) A (by decide) (bO S.out y.out) Q f.out.ro).1).alloc (.cells #[.int .i64 0,ptr g.pk,.string ⟨#[]⟩,ae xt xb,.int .u8 4,.bool false] 175)).alloc (.cells #[.pointer (some ⟨t.heap.size,0,none⟩)] 96));have P3:=Lib.hid PS;have P4:=Lib.hid A;have P5:=Lib.hid P_;have P6:=Lib.hid Qn;clear PS A P_ Qn P0 P1 hT Qp;repeat((first|refine oS ?_|refine oF d ?_);try simp only[Act.put,oa,ob,oc])
   refine oL fun K J=> ?_;go_simp;go_at_call 136
   refine(AO _ _ _ _ _ _).mono ?_;rintro e2 w2 ⟨rfl,rfl⟩;obtain⟨⟨_,p2,p3⟩,s0,s1,s2,s3,s4,s5,s6⟩:=d;(try simp only[]);refine J _ _ (by(repeat' apply And.intro)<;>exact ar ((Below.refl _ _).alloc (Nat.le_refl _) _) (by assumption)) fun d=> ?_;clear J K;try simp only[Act.put,oa,ob,oc]
   clear s0 s1 s2 s3 s4 s5 s6 p2 p3;repeat((first|refine oS ?_|refine oF d ?_);try simp only[Act.put,oa,ob,oc])
   refine ch ?_;obtain⟨⟨p1,p2,p3⟩,s0,s1,s2,s3,s4,s5,s6⟩:=d;rcases hc:decide ((k:Int)<u.m)with _|_
   ·have Qa:u.m.toNat≤k:=by simp at hc;omega
    have QA:¬(k:Int)<u.m:=by simpa using hc
    go_wp2_with (first|(at_builtin;refine wpList_append_own_at _ rfl _ _ 170 rfl L.heap.size 96 i0 (.pointer none) 1 8 Tryz.underlying170 Qj PU PV PW rfl (by decide) (.slice oa ol.length oc) ol.length (ol.map pv) rfl Qz.out ⟨t.heap.size+1,0,none⟩ 1 1 [.pointer (some ⟨t.heap.size,0,none⟩)] rfl rfl P2.out (TS.one_one rfl) ?c3 ?c4 ?c5 ?_)|fail)
    case c3=>have:=PO.out;unfold maxLen;omega
    case c4=>have:=PO.out;omega
    case c5=>(try simp);omega
    intro v' w3 l E _ X;obtain⟨a3,c3,rfl⟩:=bn l;have F:∀b o v,(Value.slice oa ol.length oc).ownBlock≠some b→((t.alloc (.cells #[.int .i64 0,ptr g.pk,.string ⟨#[]⟩,ae xt xb,.int .u8 4,.bool false] 175)).alloc (.cells #[.pointer (some ⟨t.heap.size,0,none⟩)] 96)).cell? ⟨b,o,none⟩=some v→w3.cell? ⟨b,o,none⟩=some v:=fun b o v hb h=>by
     rw[((Kept.refl (fun b=>(Value.slice oa ol.length oc).ownBlock=some b) _).grown E fun k hk _=>hk).cell (World.block_lt_of_cell? _ _ h) hb];exact h
    have Qb:=F _ _ _ Qr.2.2 (ar ((Below.refl _ _).alloc (Nat.le_refl _) _) p2);have Qc:=F _ _ _ Qr.2.2 (ar ((Below.refl _ _).alloc (Nat.le_refl _) _) p3);have s:Hid (∃(q2:Pm)(G:List Nat)(H:Nat→Value),ej C u p g mv ms L (k+1) q2 g1 PQ PR G H (.slice Z I.length ic) (.slice a3 (ol.length+1) c3) w3):=
     ⟨_,_,_,ej.Fj f.out Q PX.out Qa y.out P5.out P3.out P4.out P6.out Qo (cs:=#[.int .i64 0,ptr g.pk,.string ⟨#[]⟩,ae xt xb,.int .u8 4,.bool false]) rfl (by rw[B.out];exact l) E (X.imp id fun h=>h.trans (by simp))⟩
    clear F l E X;go_wp2_with fail
    obtain⟨q2,G,H,s⟩:=s.out;exact⟨⟨k+1,q2,g1,PQ,PR,G,H,by omega,by go_num,s,Qb,Qc⟩,by first|omega|(simp[intOf];omega)⟩
   ·have Qa:k<u.m.toNat:=by simp at hc;omega
    have QA:(k:Int)<u.m:=by simpa using hc
    go_wp2_with (first|(at_builtin;refine wpList_append_own_at _ rfl _ _ 170 rfl L.heap.size 96 i0 (.pointer none) 1 8 Tryz.underlying170 Qj PU PV PW rfl (by decide) (.slice Z I.length ic) I.length (I.map pv) rfl Qy.out ⟨t.heap.size+1,0,none⟩ 1 1 [.pointer (some ⟨t.heap.size,0,none⟩)] rfl rfl P2.out (TS.one_one rfl) ?c3 ?c4 ?c5 ?_)|fail)
    case c3=>have:=PO.out;unfold maxLen;omega
    case c4=>have:=PO.out;omega
    case c5=>(try simp);omega
    intro v' w3 l E _ X;obtain⟨a3,c3,rfl⟩:=bn l;have F:∀b o v,(Value.slice Z I.length ic).ownBlock≠some b→((t.alloc (.cells #[.int .i64 0,ptr g.pk,.string ⟨#[]⟩,ae xt xb,.int .u8 4,.bool false] 175)).alloc (.cells #[.pointer (some ⟨t.heap.size,0,none⟩)] 96)).cell? ⟨b,o,none⟩=some v→w3.cell? ⟨b,o,none⟩=some v:=fun b o v hb h=>by
     rw[((Kept.refl (fun b=>(Value.slice Z I.length ic).ownBlock=some b) _).grown E fun k hk _=>hk).cell (World.block_lt_of_cell? _ _ h) hb];exact h
    have Qb:=F _ _ _ Qq.2.2 (ar ((Below.refl _ _).alloc (Nat.le_refl _) _) p2);have Qc:=F _ _ _ Qq.2.2 (ar ((Below.refl _ _).alloc (Nat.le_refl _) _) p3);have s:Hid (∃(q2:Pm)(G:List Nat)(H:Nat→Value),ej C u p g mv ms L (k+1) q2 g1 PQ PR G H (.slice a3 (I.length+1) c3) (.slice oa ol.length oc) w3):=
     ⟨_,_,_,ej.Fi f.out Q PX.out Qa y.out P5.out P3.out P4.out P6.out Qo (cs:=#[.int .i64 0,ptr g.pk,.string ⟨#[]⟩,ae xt xb,.int .u8 4,.bool false]) rfl (by rw[z.out];exact l) E (X.imp id fun h=>h.trans (by simp))⟩
    clear F l E X;go_wp2_with fail
    obtain⟨q2,G,H,s⟩:=s.out;exact⟨⟨k+1,q2,g1,PQ,PR,G,H,by omega,by go_num,s,Qb,Qc⟩,by first|omega|(simp[intOf];omega)⟩
  ·have QO:¬(k:Int)<n:=by omega
   obtain rfl:k=n:=by omega
   have V:=World.block_lt_of_cell? _ _ t2;simp only at V;go_wp2_with fail
   refine oR (fun W=>W.cell? ⟨w.heap.size,3,none⟩=some (.bool u.v)) [(0,true),(1,true),(3,true),(5,true),(6,true),(2,false),(4,false),(7,false),(8,true)] (by first|(simp[go_sem];done)|(go_keep;done)) (fun d=> ?_);repeat((first|refine oS ?_|refine oF d ?_);try simp only[Act.put,oa,ob,oc])
   refine oL fun K J=> ?_;go_simp;go_at_call 72
   refine(xm _ _ _ _).mono ?_;rintro e1 t ⟨tv,rfl,Qd⟩;(try simp only[]);refine J _ _ (ar Qd.1 d) fun d=> ?_;clear J K;try simp only[Act.put,oa,ob,oc]
   repeat((first|refine oS ?_|refine oF d ?_);try simp only[Act.put,oa,ob,oc])
   refine oL fun K J=> ?_;go_simp;go_at_call 72
   refine(xm _ _ _ _).mono ?_;rintro e2 w2 ⟨qv,rfl,PT⟩;(try simp only[]);refine J _ _ (ar PT.1 d) fun d=> ?_;clear J K;try simp only[Act.put,oa,ob,oc]
   repeat((first|refine oS ?_|refine oF d ?_);try simp only[Act.put,oa,ob,oc])
   refine oL fun K J=> ?_;go_simp;go_at_call 137
   have Qe:ej C u p g mv ms L u.es.length q g' N O fs xs (.slice Z (fs.take u.m.toNat).length ic) (.slice oa (fs.drop u.m.toNat).length oc) wr.drew:=by rw[z.out,B.out,M.out];exact f.out.below (Below.refl _ _).drew
   have Y:kN wr.drew Z (fs.take u.m.toNat).length ic tv t:=by rw[z.out];exact Qd
   have P7:kN t oa (fs.drop u.m.toNat).length oc qv w2:=by rw[B.out];exact PT
   have Qf:=fun h=>Fl Q (by have:=Qi.out;have:=M.out;omega) (by have:=M.out;omega) (Qw.out h) Qe Y PT.1;rw[z.out]at Qf;refine(Fo r u.v w2 Z I.length ic tv qv Qf).mono ?_;rintro e3 w3 ⟨b,rfl,hb,Qs,Qg⟩;(try simp only[]);refine J _ _ (ar Qg d) fun d=> ?_;clear J K;try simp only[Act.put,oa,ob,oc]
   have s:Hid (nC C u p g mv ms r w (.returned (.pointer (some ⟨b,0,none⟩))) w3):=by
    have h:=Fp Qv.out (by have:=Qi.out;have:=M.out;omega) (by have:=M.out;omega) P8.out Qe Y P7 hb Qs Qg;obtain⟨sb,q,g',N,O,h1,h2,h3,h4,h5,h6,h7⟩:=h;exact⟨sb,q,g',N,O,h1,h2,h3,aD.ahead Qk.out h4,fun b e=>(h5 b e).imp id fun h=>by omega,by omega,h7⟩
   clear Qf hb Qs Qg Qd PT Y P7 Qe;repeat((first|refine oS ?_|refine oF d ?_);try simp only[Act.put,oa,ob,oc])
   refine ch ?_;clear d;go_wp2_with fail
   go_ret;exact s.out
end Go.Proofs.YtdkmnkjhhhmglaaGreatDoor
