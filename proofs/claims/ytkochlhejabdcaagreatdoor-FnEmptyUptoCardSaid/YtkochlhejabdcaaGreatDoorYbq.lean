import Derived.Test.YtkochlhejabdcaaGreatDoorYbn
set_option maxRecDepth 100000
set_option maxHeartbeats 8000000
set_option linter.all false
namespace TS
open Go Go.RowKit Go.Proofs.YtkochlhejabdcaaGreatDoor Go.Proofs.Tryz
def kI(w:World)(a:Option Addr)(n c:Nat)(b:Option Addr)(d:World):Prop:=
 Below w w d∧((n=0∧b=none)∨(0<n∧∃tb,b= .some (Xa tb 0)∧w.heap.size≤tb∧d.heap[tb]?=some (.cells #[.slice a n c] 200 (0,0))))
structure eu(C:BC)(u:U)(p:Pm)(g:Ge)(mv:Value)(ms:List Nat)(w:World)(k:Nat)(q:Pm)(d:Ge)(c:Value)(a fs:List Nat)(xs:Nat→Value)(f e:Value)(wr:World):Prop where
 bs:BS C q d c a wr
 st:aG C p g mv ms w q d a wr
 om:∀b,c.ownBlock=some b→mv.ownBlock=some b∨w.heap.size≤b
 fl:fs.length=k
 ir:wr.ownsRow w 102 1 f (fs.take u.m.toNat).length ((fs.take u.m.toNat).map pv)
 or:wr.ownsRow w 102 1 e (fs.drop u.m.toNat).length ((fs.drop u.m.toNat).map pv)
 ri:∀b,f.ownBlock=some b→e.ownBlock≠some b∧∀o,q b o=none
 ro:∀b,e.ownBlock=some b→∀o,q b o=none
 cl:∀i(h:i<u.es.length),i<k→q (fs.getD i 0) 3=some (xs i)
 nd:∀i(h:i<u.es.length),i<k→Node q d u.es[i] (xs i)
 ct:a.length≤ms.length+aZ (u.es.take k)
theorem eu.below{C:BC}{u:U}{p q:Pm}{g e:Ge}{mv b:Value}{ms c fs:List Nat}{w wr f:World}{k:Nat}{xs:Nat→Value}{h i:Value}(a:eu C u p g mv ms w k q e b c fs xs h i wr)(d:Below wr wr f):eu C u p g mv ms w k q e b c fs xs h i f:=
 ⟨a.bs.below d,a.st.below d,a.om,a.fl,bw a.ir d,bw a.or d,a.ri,a.ro,a.cl,a.nd,a.ct⟩
theorem eu.mid{C:BC}{u e:U}{p q d:Pm}{g J g1:Ge}{mv s i:Value}{ms z j fs:List Nat}{w D wr a:World}{k:Nat}{xs:Nat→Value}{E F x:Value}
 (f:eu C u p g mv ms w k q J s z fs xs E F wr)(A:C.bb<w.heap.size)(c:Below wr wr D)
 (G:Node d g1 e x)(t:BS C d g1 i j a)(l:aG C q J s z D d g1 j a)(H:∀b,i.ownBlock=some b→s.ownBlock=some b∨D.heap.size≤b)
 {bs cs:Array Value}{Tb:TypeId}(I:cs[3]?=some x):
 BS C (d.add a.heap.size cs) g1 i j ((a.alloc (.cells cs 192)).alloc (.cells bs Tb))∧aG C p g mv ms w (d.add a.heap.size cs) g1 j ((a.alloc (.cells cs 192)).alloc (.cells bs Tb))∧
 ((a.alloc (.cells cs 192)).alloc (.cells bs Tb)).ownsRow w 102 1 E (fs.take u.m.toNat).length ((fs.take u.m.toNat).map pv)∧((a.alloc (.cells cs 192)).alloc (.cells bs Tb)).ownsRow w 102 1 F (fs.drop u.m.toNat).length ((fs.drop u.m.toNat).map pv)∧
 (∀b,E.ownBlock=some b→∀o,d.add a.heap.size cs b o=none)∧(∀b,F.ownBlock=some b→∀o,d.add a.heap.size cs b o=none)∧Sub q (d.add a.heap.size cs)∧(∀b,i.ownBlock=some b→mv.ownBlock=some b∨w.heap.size≤b)∧Node (d.add a.heap.size cs) g1 e x∧d.add a.heap.size cs a.heap.size 3=some x:=by
 have v:=aG.row (f.bs.below c) l zd (bw f.ir c) A fun b e=>(f.ri b e).2;have y:=aG.row (f.bs.below c) l zd (bw f.or c) A f.ro;have K:∀o,d a.heap.size o=none:=fun o=>t.wb.kw.aF zl o;have n:=Pm.cK (cs:=cs) K;have r:Below a a ((a.alloc (.cells cs 192)).alloc (.cells bs Tb)):=(zB.alloc zl _).alloc zs _;have B:Below (a.alloc (.cells cs 192)).heap.size (a.alloc (.cells cs 192)) ((a.alloc (.cells cs 192)).alloc (.cells bs Tb)):=zB.alloc zl _;refine⟨(t.box cs _).below B,((f.st.trans (aG.ahead c l) f.om).box t cs _).below B,bw v.1 r,bw y.1 r,fun b h o=> ?_,fun b h o=> ?_,l.gr.le.trans n,fun b h=> ?_,G.sub n (aK.refl _),by rw[Pm.aU];exact I⟩
 ·rw[Pm.aQ _ _ _ fun L=>by have:=(v.1.lt b h).2;omega];exact v.2 b h o
 ·rw[Pm.aQ _ _ _ fun L=>by have:=(y.1.lt b h).2;omega];exact y.2 b h o
 ·rcases H b h with h|h
  ·exact f.om b h
  ·have:=c.size;have:=f.st.size;exact .inr zo
theorem xp{u e:U}{q a:Pm}{l g1:Ge}{k F:Nat}{fs:List Nat}{xs:Nat→Value}{x:Value}(d:u.es[k]?=some e)(f:fs.length=k)(m:Sub q a)(g:aK l g1)(j:∀i(_:i<u.es.length),i<k→q (fs.getD i 0) 3=some (xs i))(hnd:∀i(h:i<u.es.length),i<k→Node q l u.es[i] (xs i))(n:a F 3=some x)(o:Node a g1 e x):
 (∀i(_:i<u.es.length),i<k+1→a ((fs++ [F]).getD i 0) 3=some (if i=k then x else xs i))∧∀i(h:i<u.es.length),i<k+1→Node a g1 u.es[i] (if i=k then x else xs i):=by
 obtain⟨hk,b⟩:=List.getElem?_eq_some_iff.1 d;refine⟨fun i h hi=> ?_,fun i h hi=> ?_⟩
 ·by_cases c:i=k
  ·subst c
   rw[if_pos rfl,show(fs++ [F]).getD i 0=F by simp[List.getD,←f]];exact n
  ·rw[if_neg c,show(fs++ [F]).getD i 0=fs.getD i 0 by simp[List.getD,List.getElem?_append_left (show i<fs.length by omega)]]
   exact m _ _ _ (j i h zo)
 ·by_cases c:i=k
  ·subst c
   rw[b,if_pos rfl];exact o
  ·rw[if_neg c];exact(hnd i h zo).sub m g
theorem eu.Gy{C:BC}{u e:U}{p q F:Pm}{g Z g1:Ge}{mv j n:Value}{ms o c fs:List Nat}{w H wr a I:World}{k:Nat}{xs:Nat→Value}{J vo d x:Value}
 (r:eu C u p g mv ms w k q Z j o fs xs J vo wr)(s:C.bb<w.heap.size)(t:u.es[k]?=some e)(PG:k<u.m.toNat)(K:Below wr wr H)
 (L:Node F g1 e x)(M:BS C F g1 n c a)(v:aG C q Z j o H F g1 c a)(N:∀b,n.ownBlock=some b→j.ownBlock=some b∨H.heap.size≤b)(PH:c.length≤o.length+cn e)
 {bs cs:Array Value}{Tb:TypeId}(O:cs[3]?=some x)
 (P:I.ownsRow w 102 1 d ((fs.take u.m.toNat).length+1) ((fs.take u.m.toNat).map pv++ [pv a.heap.size]))
 (Q:((a.alloc (.cells cs 192)).alloc (.cells bs Tb)).grownBy I J.ownBlock)(y:d.ownBlock=J.ownBlock∨d.ownBlock=some ((a.alloc (.cells cs 192)).alloc (.cells bs Tb)).heap.size):
 eu C u p g mv ms w (k+1) (F.add a.heap.size cs) g1 n c (fs++ [a.heap.size]) (fun i=>if i=k then x else xs i) d vo I:=by
 obtain⟨z,R,A,B,hid,S,T,V,hnd,W⟩:=r.mid (bs:=bs) (Tb:=Tb) s K L M v N O;obtain⟨X,D⟩:=z.appended zd A hid s Q;have E:=r.fl;have ht:(fs++ [a.heap.size]).take u.m.toNat=fs.take u.m.toNat++ [a.heap.size]:=by rw[List.take_append,List.take_of_length_le (l:= [_]) zp]
 have Y:(fs++ [a.heap.size]).drop u.m.toNat=fs.drop u.m.toNat:=by rw[List.drop_append,List.drop_of_length_le (l:= [_]) zp,List.append_nil]
 have hc:=xp t E T v.gs r.cl r.nd W hnd;refine⟨X,R.own D fun b f=>(A.lt b f).1,V,by simp[E],?_,?_,fun b f=>⟨fun G=> ?_,kH z.wb hid y b f⟩,S,hc.1,hc.2,by have:=r.ct;have:=gC t;omega⟩
 ·rw[ht];simpa using P
 ·rw[Y];exact dY B D fun b f G=>(r.ri b G).1 f
 ·rcases y with h|h
  ·exact(r.ri b (h▸f)).1 G
  ·rw[h]at f;cases f;have:=(B.lt _ G).2;omega
theorem eu.Gz{C:BC}{u e:U}{p q G:Pm}{g Y g1:Ge}{mv f j:Value}{ms l c fs:List Nat}{w H wr a I:World}{k:Nat}{xs:Nat→Value}{Z J d x:Value}
 (n:eu C u p g mv ms w k q Y f l fs xs Z J wr)(r:C.bb<w.heap.size)(s:u.es[k]?=some e)(PG:u.m.toNat≤k)(K:Below wr wr H)
 (L:Node G g1 e x)(M:BS C G g1 j c a)(t:aG C q Y f l H G g1 c a)(N:∀b,j.ownBlock=some b→f.ownBlock=some b∨H.heap.size≤b)(PH:c.length≤l.length+cn e)
 {bs cs:Array Value}{Tb:TypeId}(O:cs[3]?=some x)
 (P:I.ownsRow w 102 1 d ((fs.drop u.m.toNat).length+1) ((fs.drop u.m.toNat).map pv++ [pv a.heap.size]))
 (Q:((a.alloc (.cells cs 192)).alloc (.cells bs Tb)).grownBy I J.ownBlock)(v:d.ownBlock=J.ownBlock∨d.ownBlock=some ((a.alloc (.cells cs 192)).alloc (.cells bs Tb)).heap.size):
 eu C u p g mv ms w (k+1) (G.add a.heap.size cs) g1 j c (fs++ [a.heap.size]) (fun i=>if i=k then x else xs i) Z d I:=by
 obtain⟨y,R,z,A,hid,B,S,T,hnd,V⟩:=n.mid (bs:=bs) (Tb:=Tb) r K L M t N O;obtain⟨W,D⟩:=y.appended zd A B r Q;have E:=n.fl;have ht:(fs++ [a.heap.size]).take u.m.toNat=fs.take u.m.toNat:=by rw[List.take_append,show u.m.toNat- fs.length=0 by omega];simp
 have X:(fs++ [a.heap.size]).drop u.m.toNat=fs.drop u.m.toNat++ [a.heap.size]:=by rw[List.drop_append,show u.m.toNat- fs.length=0 by omega];simp
 have hc:=xp s E S t.gs n.cl n.nd V hnd;refine⟨W,R.own D fun b o=>(A.lt b o).1,T,by simp[E],?_,?_,fun b o=>⟨fun F=> ?_,hid b o⟩,kH y.wb B v,hc.1,hc.2,by have:=n.ct;have:=gC s;omega⟩
 ·rw[ht];exact dY z D fun b o F=>(n.ri b o).1 F
 ·rw[X];simpa using P
 ·rcases v with h|h
  ·exact(n.ri b o).1 (h▸F)
  ·rw[h]at F;cases F;have:=(z.lt _ o).2;omega
theorem BS.xq{C:BC}{q:Pm}{g:Ge}{mv:Value}{ms:List Nat}{w i:World}(h:BS C q g mv ms w){a:Option Addr}{n c:Nat}{b:Option Addr}(hT:kI w a n c b i):
 ∃d,aN q d w∧BS C d g mv ms i∧((n=0∧b=none)∨(0<n∧∃tb,b= .some (Xa tb 0)∧d tb 0=some (.slice a n c))):=by
 obtain⟨e,⟨h1,f⟩|⟨h1,tb,f,j,m⟩⟩:=hT
 ·exact⟨q,aN.refl _ _,h.below e,.inl ⟨h1,f⟩⟩
 ·have k:∀o,q tb o=none:=fun o=>h.wb.kw.aF j o
  have l:=Pm.du (cs:=#[.slice a n c]) k j;exact⟨_,l,h.grow e l ((h.wb.below e).add k m),.inr ⟨h1,tb,f,by rw[Pm.aU];rfl⟩⟩
theorem getD_take(fs:List Nat)(m i:Nat)(hi:i<m)(hm:m≤fs.length):((fs.take m).map pv).getD i undef=ptr (fs.getD i 0):=by
 simp[List.getD,List.getElem?_take,hi,List.getElem?_eq_getElem (show i<fs.length by omega),pv]
theorem GA(fs:List Nat)(m i:Nat)(hi:m+i<fs.length):((fs.drop m).map pv).getD i undef=ptr (fs.getD (m+i) 0):=by
 simp[List.getD,List.getElem?_drop,List.getElem?_eq_getElem hi,pv]
def nj(C:BC)(u:U)(p:Pm)(g:Ge)(mv:Value)(ms:List Nat)(r:Option Addr)(w:World)(e:Ending)(f:World):Prop:=
 ∃c q h d a,e= .returned (Xp c)∧Node q h u (ah 108 c)∧BS C q h d a f∧aG C p g mv ms w q h a f∧(∀b,d.ownBlock=some b→mv.ownBlock=some b∨w.heap.size≤b)∧
  w.heap.size≤c∧q c 0=none∧Xc f c 0 (.pointer r)∧f.frozen? (Xa c 0)=false∧a.length≤ms.length+cn u
theorem GB{C:BC}{u:U}{p:Pm}{g:Ge}{mv:Value}{ms:List Nat}{w wr j f:World}{q:Pm}{J:Ge}{l:Value}{n fs:List Nat}{xs:Nat→Value}{d E:Option Addr}{i:Nat}{K:Value}(r:C.bb<w.heap.size)(hm:u.m.toNat≤u.es.length)(W:u.es.length≤1099511627776)(L:0<u.m.toNat∧∃e,u.es[u.m.toNat- 1]?=some e∧e.k=4)
 (c:eu C u p g mv ms w u.es.length q J l n fs xs (.slice d (fs.take u.m.toNat).length i) K wr)(h1:kI wr d (fs.take u.m.toNat).length i E j)(s:Below j j f):
 0<(fs.take u.m.toNat).length∧(fs.take u.m.toNat).length≤1099511627776∧∃tb fl t,E= .some (Xa tb 0)∧Xc f tb 0 (.slice d (fs.take u.m.toNat).length i)∧(∃b o,d= .some (Xa b o)∧Xc f b (o+((fs.take u.m.toNat).length- 1)) (Xp fl))∧Xc f fl 3 (ah 146 t):=by
 have M:=c.fl;have x:(fs.take u.m.toNat).length=u.m.toNat:=by rw[List.length_take];omega
 obtain⟨N,X,c1,O,P,y,z,_⟩:=c.bs.jP (e:=102) (v:= .slice d (fs.take u.m.toNat).length i) (xs:=(fs.take u.m.toNat).map pv) zd (by simpa using c.ir) (fun b e=>(c.ri b e).2) r;injection O with A Q R
 subst A;obtain⟨Y,e,he,B⟩:=L;obtain⟨a,rfl⟩:=List.getElem?_eq_some_iff.1 he;obtain⟨F,G,S,T⟩:=z (u.m.toNat- 1) zp;have V:N F (G+(u.m.toNat- 1))=some (ptr (fs.getD (u.m.toNat- 1) 0)):=by rw[T];exact congrArg some (getD_take _ _ _ zo zo)
 obtain⟨t,_,_,ex,_⟩:=(c.nd _ a a).mA B;have H:=c.cl _ a a;rw[ex]at H;obtain⟨I,⟨h,_⟩|⟨_,tb,rfl,hle,D⟩⟩:=h1
 ·omega
 ·refine⟨by omega,by omega,tb,_,t,rfl,az s (by simp only[World.cell?,D];rfl),⟨F,G,S,?_⟩,az s (az I (c.bs.wb.kw _ _ _ H))⟩
  rw[x];exact az s (az I (y.wb.kw _ _ _ V))
end TS
namespace Go.Proofs.YtkochlhejabdcaaGreatDoor
open Go.RowKit TS Tryz
theorem xr(a:Option Addr)(n c:Nat)(w:World):Xk 92 #[.slice a n c] w fun e b=> ∃d,e= .returned (.pointer d)∧kI w a n c d b:=by
 rcases Nat.eq_zero_or_pos n with rfl|h
 ·refine(AE a c w).mono ?_
  rintro e b ⟨rfl,rfl⟩;exact⟨none,rfl,Below.refl _ _,.inl ⟨rfl,rfl⟩⟩
 ·refine(uq a n c h w).mono ?_
  rintro e b ⟨rfl,rfl⟩;exact⟨_,rfl,zB.alloc zl _,.inr ⟨h,_,rfl,Nat.le_refl _,cA rfl⟩⟩
theorem GC(r:Option Addr)(v:Bool)(w:World)(a:Option Addr)(n c:Nat)(d f:Option Addr)(i:v=true→0<n∧n≤1099511627776∧∃tb fl g,d= .some (Xa tb 0)∧Xc w tb 0 (.slice a n c)∧(∃b o,a= .some (Xa b o)∧Xc w b (o+(n- 1)) (Xp fl))∧Xc w fl 3 (ah 146 g)):
 Xk 160 #[.pointer r,.slice none 0 0,.slice none 0 0,.pointer d,.pointer f,.bool v] w fun e h=> ∃b,e= .returned (Xp b)∧w.heap.size≤b∧h.heap[b]?=some (.cells #[.pointer r,.pointer none,.pointer d,.pointer f,.bool v] 112 (0,0))∧Below w w h:=by
 cases v with
 |false=>
  refine(Bc r d f w).mono ?_;rintro e h ⟨rfl,rfl⟩;exact⟨_,rfl,Nat.le_refl _,cA rfl,zB.alloc zl _⟩
 |true=>
  obtain⟨j,h1,tb,fl,g,rfl,k,l,m⟩:=i rfl;exact Gx r f tb n c fl g a w j h1 k l m
theorem GD{C:BC}{u:U}{p:Pm}{g:Ge}{mv:Value}{ms:List Nat}{w wr w1 Q F:World}{q:Pm}{T:Ge}{G:Value}{y fs:List Nat}{xs:Nat→Value}{H oa:Option Addr}{R oc:Nat}{j n r:Option Addr}{b:Nat}(hk:u.k=7)(hm:0≤u.m∧u.m.toNat≤u.es.length)(hl:u.es.length≤1099511627776)(hB:BS C p g mv ms w)
 (d:eu C u p g mv ms w u.es.length q T G y fs xs (.slice H (fs.take u.m.toNat).length R) (.slice oa (fs.drop u.m.toNat).length oc) wr)
 (h1:kI wr H (fs.take u.m.toNat).length R j w1)(V:kI w1 oa (fs.drop u.m.toNat).length oc n Q)(S:Q.heap.size≤b)(W:F.heap[b]?=some (.cells #[.pointer r,.pointer none,.pointer j,.pointer n,.bool u.v] 112 (0,0)))(z:Below Q Q F):
 nj C u p g mv ms r w (.returned (Xp b)) F:=by
 have I:=(hB.ib (b:=C.bb) (.inl rfl)).2.1;have P3:=d.st.size;have P4:=h1.1.size;have P5:=V.1.size;obtain⟨q1,a1,c1,e1,J,X,Y,Z,PG,_⟩:=d.bs.jP (e:=102) (v:= .slice H (fs.take u.m.toNat).length R) (xs:=(fs.take u.m.toNat).map pv) zd (by simpa using d.ir) (fun b e=>(d.ri b e).2) I;obtain⟨q2,a2,c2,e2,A,PH,PI,P6,PJ,_⟩:=X.jP (e:=102) (v:= .slice oa (fs.drop u.m.toNat).length oc) (xs:=(fs.drop u.m.toNat).map pv) zd (by simpa using d.or) (fun b e o=>by rw[Z b fun e'=>(d.ri b e').1 e];exact d.ro b e o) I;obtain⟨q3,s,PK,K⟩:=PH.xq h1;obtain⟨B,l,D,L⟩:=PK.xq V;have t:∀o,B b o=none:=fun o=>D.wb.kw.aF S o;have E:Plain F b:=⟨_,_,W⟩
 have a:∀o v,#[.pointer r,.pointer none,.pointer j,.pointer n,.bool u.v][o]?=some v→Xc F b o v:=fun o v h=>by simp[World.cell?,W,h]
 have PL:=Pm.eH (v:= .pointer j) (o:=2) (t 2) S;have PM:=Pm.eH (p:=B.put b 2 (.pointer j)) (v:= .pointer n) (o:=3) (by rw[Pm.ba _ _ zo];exact t 3) S;have PN:=Pm.eH (p:=(B.put b 2 (.pointer j)).put b 3 (.pointer n)) (v:= .bool u.v) (o:=4) (by rw[Pm.ba _ _ zo,Pm.ba _ _ zo];exact t 4) S;have c:=(PL.trans PM zl).trans PN zl;have PO:=(((D.wb.below z).put (a 2 _ rfl) E).put (a 3 _ rfl) E).put (a 4 _ rfl) E;have PQ:=D.grow z c PO;have PR:aG C p g mv ms w _ T y F:=(((d.st.jO (J.trans A zl)).grow h1.1 s).grow V.1 l).grow z c;have M:Sub q q2:=J.le.trans A.le;have N:=(M.trans s.le).trans l.le;have x:=N.trans c.le;have P7:=d.fl;have PS:(fs.take u.m.toNat).length=u.m.toNat:=by rw[List.length_take];omega
 have PT:(fs.drop u.m.toNat).length=u.es.length- u.m.toNat:=by rw[List.length_drop];omega
 injection e1 with PU P8 PW
 injection e2 with PX P9 PY
 subst PU;subst PW;subst PX;subst PY;have O:=((A.le.trans s.le).trans l.le).trans c.le;have P:=(s.le.trans l.le).trans c.le;have PZ:cd (((B.put b 2 (.pointer j)).put b 3 (.pointer n)).put b 4 (.bool u.v)) H u.m.toNat fun i=>ptr (fs.getD i 0):=fun i hi=>by
  obtain⟨b',o',k1,k2⟩:=Y i zp;refine⟨b',o',k1,O _ _ _ ?_⟩;rw[k2];exact congrArg some (getD_take _ _ _ hi zo)
 have P0:cd (((B.put b 2 (.pointer j)).put b 3 (.pointer n)).put b 4 (.bool u.v)) oa (u.es.length- u.m.toNat) fun i=>ptr (fs.getD (u.m.toNat+i) 0):=fun i hi=>by
  obtain⟨b',o',k1,k2⟩:=PI i zp;refine⟨b',o',k1,P _ _ _ ?_⟩;rw[k2];exact congrArg some (GA _ _ _ zo)
 have P1:eM (((B.put b 2 (.pointer j)).put b 3 (.pointer n)).put b 4 (.bool u.v)) (.pointer j) u.m.toNat fun i=>fs.getD i 0:=by
  rw[PS]at K;rcases K with⟨h,rfl⟩|⟨h,tb,rfl,h'⟩
  ·exact .inl ⟨h,rfl⟩
  ·exact .inr ⟨h,tb,H,R,rfl,(l.le.trans c.le) _ _ _ h',by simp at PG;omega,PZ⟩
 have P2:eM (((B.put b 2 (.pointer j)).put b 3 (.pointer n)).put b 4 (.bool u.v)) (.pointer n) (u.es.length- u.m.toNat) fun i=>fs.getD (u.m.toNat+i) 0:=by
  rw[PT]at L;rcases L with⟨h,rfl⟩|⟨h,tb,rfl,h'⟩
  ·exact .inl ⟨h,rfl⟩
  ·exact .inr ⟨h,tb,oa,oc,rfl,c.le _ _ _ h',by simp at PJ;omega,P0⟩
 refine⟨b,_,T,G,y,rfl,.func (f:=fun i=>fs.getD i 0) (xs:=xs) hk ⟨hm.2,hl⟩ (by rw[Pm.ba _ _ zo,Pm.ba _ _ zo,Pm.fT]) (by rw[Pm.ba _ _ zo,Pm.fT]) (Pm.fT ..) P1 P2 (fun i hi=>x _ _ _ (d.cl i hi hi)) fun i hi=>(d.nd i hi hi).sub x (aK.refl _),PQ,PR,d.om,by omega,?_,a 0 _ rfl,?_,by have:=d.ct;rw[List.take_length]at this;rw[dW];omega⟩
 ·rw[Pm.ba _ _ zo,Pm.ba _ _ zo,Pm.ba _ _ zo];exact t 0
 ·simp[World.frozen?,W]
theorem pf(C:BC)(u:U)(r:Option Addr)(hk:u.k=7)(hm:0≤u.m∧u.m.toNat≤u.es.length)(hv:u.v=true→0<u.m.toNat∧∃e,u.es[u.m.toNat- 1]?=some e∧e.k=4)(hI:∀e∈u.es,bX C e)(p:Pm)(g:Ge)(mv:Value)(ms:List Nat)(a:Option Addr)(c:Nat)(w:World)(hB:BS C p g mv ms w)(QB:ms.length+cn u≤1099511627776)(hu:ai C.pa C.D u a c):
 Xk 108 #[Xp C.bb,.pointer r,Xt u a c] w (nj C u p g mv ms r w):=by
 have Qc:=hu.cap;have Qo:Hid (∀k e,u.es[k]?=some e→∃eb eo a' c',a= .some (Xa eb eo)∧c_ C.pa eb (eo+k*7) e a' c'∧ai C.pa C.D e a' c'):=fun k e he=>by
  obtain⟨hk,rfl⟩:=List.getElem?_eq_some_iff.1 he;obtain⟨eb,eo,rfl⟩:=hu.list.bg zo;obtain⟨a',c',h7,PG⟩:=hu.list.get k hk;exact⟨eb,eo,a',c',rfl,h7,PG⟩
 have Qw:=(hB.ib (b:=C.bb) (.inl rfl)).2.1;have PH:Below w w (w.alloc (Xt u a c)):=zB.alloc zl _;have P3:=zh (hB.below PH);have Qp:=zh hB;have QC:u.es.length≤1048576:=zo;have Qx:u.es.length≤1099511627776:=zo;have Qq:=zh hk;have Qd:=zh hm;have Qr:=zh hv;have Qs:=zh hI;obtain⟨i0,Qe,PN,PO,PQ⟩:=info_parts uH;have hh:(w.alloc (Xt u a c)).heap[w.heap.size]?= .some (Xt u a c):=cA rfl;have P:Hid (Xc (w.alloc (Xt u a c)) w 2 (.int .i64 u.m)∧Xc (w.alloc (Xt u a c)) w 3 (.bool u.v)):=by(repeat' apply And.intro)<;>(simp only[World.cell?,hh];rfl)
 clear hh;obtain⟨L,hW⟩:∃L,Hid (L=w.alloc (Xt u a c)):=⟨_,rfl⟩
 have QD:L.heap.size≤w.heap.size+1∧w.heap.size+1≤L.heap.size:=by rw[hW.out];simp
 rw[←hW.out]at P3 PH P;have Q:C.bb<L.heap.size:=zo;have Qf:=zh PH;clear hu hB PH Qc hk hm hv hI;generalize hn:u.es.length=n at*;have M:=zh hn;clear hn;go_enter func108,ntmps108;go_wp2_with fail
 go_loopw [15,7,8] (fun vk vi vo wr=> ∃(k:Nat)(q:Pm)(g':Ge)(N:Value)(O fs:List Nat)(xs:Nat→Value),k≤n∧vk= .int .i64 k∧eu C u p g mv ms L k q g' N O fs xs vi vo wr∧Xc wr w 2 (.int .i64 u.m)∧Xc wr w 3 (.bool u.v)) (fun vk _ _ _=>n- (intOf vk).toNat)
 case atStart=>
  obtain rfl:=hW.out;exact⟨0,p,g,mv,ms,[],fun _=>undef,Nat.zero_le _,rfl,⟨P3.out,aG.refl _ _ _ _ _ _,fun b e=> .inl e,rfl,by simpa using World.ownsRow_nil _ _ _ _,by simpa using World.ownsRow_nil _ _ _ _,fun b e=>(by cases e),fun b e=>(by cases e),fun i _ hi=>absurd hi (Nat.not_lt_zero _),fun i _ hi=>absurd hi (Nat.not_lt_zero _),Nat.le_add_right _ _⟩,P.out⟩
 case round=>
  obtain⟨k,q,g',N,O,fs,xs,QE,rfl,hP,t2,t3⟩:=hrel;have f:=zh hP;obtain⟨Z,ic,rfl⟩:=a_ hP.ir;obtain⟨oa,oc,rfl⟩:=a_ hP.or;have R:=zh hP.ir;have S:=zh hP.or;clear hP;obtain⟨I,z⟩:∃I,Hid (fs.take u.m.toNat=I):=⟨_,rfl⟩
  obtain⟨ol,B⟩:∃ol,Hid (fs.drop u.m.toNat=ol):=⟨_,rfl⟩
  rw[z.out,B.out]at f;rw[z.out]at R;rw[B.out]at S;rw[z.out,B.out];have PI:=zh (show I.length≤k∧ol.length≤k by have:=f.out.fl;rw[←z.out,←B.out];simp;omega);by_cases QF:k<n
  ·have Qy:(k:Int)<n:=zo
   obtain⟨e,T⟩:∃e,u.es[k]?=some e:=⟨_,List.getElem?_eq_getElem (by have:=M.out;omega)⟩
   obtain⟨eb,eo,a',c',rfl,h7,PG⟩:=Qo.out k e T;have Qg:=Qs.out _ (List.mem_of_getElem? T);obtain⟨z0,z1,z2,z3,z4,z5,z6⟩:TS.C7 wr eb (eo+k*7) e a' c':=h7.world f.out.bs.ka;have Qz:eb<wr.heap.size:=f.out.bs.ka.lt h7.1;have P4:Below wr wr ((wr.alloc (Xt e a' c')).drew):=(zB.alloc zl _).drew;have hT:=zh (Qg q g' N O a' c' _ (f.out.bs.below P4) (by have:=f.out.ct;have:=oY T;omega) PG);have PR:=zh T;have y:=zh P4;have PS:=f.out.bs.c0;have PT:g'.pk=g.pk:=f.out.st.gs.pk;rw[PT]at PS;have Qh:=zb PS;have V:=zb t2;simp only at Qh V;clear h7 PG Qg T P4;go_wp2_with fail
   refine oR (fun W=>(Xc W C.bb 0 (ptr g.pk)∧Xc W w 2 (.int .i64 u.m)∧Xc W w 3 (.bool u.v))∧(Xl W wr e a' c')) [(0,true),(1,true),(2,true),(3,true),(4,true),(5,true),(6,false),(7,false),(8,true)] (by(repeat' apply And.intro)<;>first|(simp[go_sem];done)|(go_keep;done)) (fun d=> ?_);repeat((first|refine oS ?_|refine oF d ?_);try simp only[Act.put,oa,ob,oc])
   refine oL fun K J=> ?_;go_simp;go_at_call 50
   refine hT.out.mono ?_;rintro e1 t ⟨x,q1,g1,PJ,PK,rfl,P5,PL,A,Qi,_,Qj⟩;obtain⟨xt,xb,rfl⟩:=P5.val;have PU:Xc t C.bb 0 (ptr g.pk):=by
    have h1:=PL.c0;rwa [A.gs.pk,PT]at h1
   have PW:=(jf f.out.bs y.out.size A).2;have Qk:∀o v,Xc ((wr.alloc (Xt e a' c')).drew) w o v→Xc t w o v:=fun o v h=>by
    rw[A.kept.cell (zb h) fun e=> ?_]
    ·exact h
    ·rcases e with(e:w.heap.size=C.bb)|e
     ·omega
     ·rcases f.out.om _ e with e|e
      ·have:=(Qp.out.ib (b:=w.heap.size) (.inr e)).2.1;omega
      ·have e':L.heap.size≤w.heap.size:=e
       omega
   obtain⟨⟨_,p2,p3⟩,s0,s1,s2,s3,s4,s5,s6⟩:=d;(try simp only[]);refine J _ _ (by(repeat' apply And.intro)<;>first|exact PU|exact PW _ _ _ zl za|exact Qk _ _ za) fun d=> ?_;clear J K;try simp only[Act.put,oa,ob,oc]
   clear s0 s1 s2 s3 s4 s5 s6 p2 p3;have QG:wr.heap.size<t.heap.size:=by
    have:=A.size;simp at this;omega
   have QA:=(PL.ib (b:=C.bb) (.inl rfl)).2.1;have QH:L.heap.size<t.heap.size:=by have:=f.out.st.size;omega
   have Ql:(Value.slice Z I.length ic).ownBlock≠some C.bb∧(Value.slice Z I.length ic).ownBlock≠some wr.heap.size∧(Value.slice Z I.length ic).ownBlock≠some w.heap.size:=⟨fun e=>by have:=(R.out.lt _ e).1;omega,fun e=>by have:=(R.out.lt _ e).2;omega,fun e=>by have:=(R.out.lt _ e).1;omega⟩
   have Qm:(Value.slice oa ol.length oc).ownBlock≠some C.bb∧(Value.slice oa ol.length oc).ownBlock≠some wr.heap.size∧(Value.slice oa ol.length oc).ownBlock≠some w.heap.size:=⟨fun e=>by have:=(S.out.lt _ e).1;omega,fun e=>by have:=(S.out.lt _ e).2;omega,fun e=>by have:=(S.out.lt _ e).1;omega⟩
   have QI:=zh (show fs.length=k from f.out.fl);have PX:=zh (show ∀j u,[Value.pointer (Xa t 0)][j]?=some u→((t.alloc (.cells #[.int .i64 0,ptr g.pk,.string ⟨#[]⟩,ah xt xb,.int .u8 4,.bool false] 192)).alloc (.cells #[Xp t] 102)).cell? (((Xa (t+1) 0):Addr).add j)=some u from fun j u h=>by
    have h1:=TS.eD (t.alloc (.cells #[.int .i64 0,ptr g.pk,.string ⟨#[]⟩,ah xt xb,.int .u8 4,.bool false] 192)) (Xp t) 102 j u h;rwa [show(t.alloc (.cells #[.int .i64 0,ptr g.pk,.string ⟨#[]⟩,ah xt xb,.int .u8 4,.bool false] 192)).heap.size=t.heap.size+1 by simp]at h1)
   have Qt:=zh ((((aG.row (f.out.bs.below y.out) A zd (bw R.out y.out) Q fun b e=>(f.out.ri b e).2).1).alloc (.cells #[.int .i64 0,ptr g.pk,.string ⟨#[]⟩,ah xt xb,.int .u8 4,.bool false] 192)).alloc (.cells #[Xp t] 102));have Qu:=zh ((((aG.row (f.out.bs.below y.out) A zd (bw S.out y.out) Q f.out.ro).1).alloc (.cells #[.int .i64 0,ptr g.pk,.string ⟨#[]⟩,ah xt xb,.int .u8 4,.bool false] 192)).alloc (.cells #[Xp t] 102));have PY:=zh PL;have PZ:=zh A;have P0:=zh P5;have P1:=zh Qi;clear PL A P5 Qi PU PW hT Qk;repeat((first|refine oS ?_|refine oF d ?_);try simp only[Act.put,oa,ob,oc])
   refine oL fun K J=> ?_;go_simp;go_at_call 159
   refine(Ax _ _ _ _ _ _).mono ?_;rintro e2 w2 ⟨rfl,rfl⟩;obtain⟨⟨_,p2,p3⟩,s0,s1,s2,s3,s4,s5,s6⟩:=d;(try simp only[]);refine J _ _ (by(repeat' apply And.intro)<;>exact az (zB.alloc zl _) za) fun d=> ?_;clear J K;try simp only[Act.put,oa,ob,oc]
   clear s0 s1 s2 s3 s4 s5 s6 p2 p3;repeat((first|refine oS ?_|refine oF d ?_);try simp only[Act.put,oa,ob,oc])
   refine bZ ?_;obtain⟨⟨p1,p2,p3⟩,s0,s1,s2,s3,s4,s5,s6⟩:=d;rcases hc:decide ((k:Int)<u.m)with _|_
   ·have P6:u.m.toNat≤k:=by simp at hc;omega
    have Qv:¬(k:Int)<u.m:=by simpa using hc
    go_wp2_with (first|(at_builtin;refine wpList_append_own_at _ rfl _ _ 187 rfl L.heap.size 102 i0 (.pointer none) 1 8 underlying187 Qe PN PO PQ rfl zd (.slice oa ol.length oc) ol.length (ol.map pv) rfl Qu.out (Xa (t+1) 0) 1 1 [Xp t] rfl rfl PX.out (TS.one_one rfl) ?c3 ?c4 ?c5 ?_)|fail)
    case c3=>have:=PI.out;unfold maxLen;omega
    case c4=>have:=PI.out;omega
    case c5=>(try simp);omega
    intro v' w3 l E _ X;obtain⟨a3,c3,rfl⟩:=a_ l;have F:∀b o v,(Value.slice oa ol.length oc).ownBlock≠some b→Xc ((t.alloc (.cells #[.int .i64 0,ptr g.pk,.string ⟨#[]⟩,ah xt xb,.int .u8 4,.bool false] 192)).alloc (.cells #[Xp t] 102)) b o v→Xc w3 b o v:=fun b o v hb h=>by
     rw[((Kept.refl (fun b=>(Value.slice oa ol.length oc).ownBlock=some b) _).grown E fun k hk _=>hk).cell (zb h) hb];exact h
    have P7:=F _ _ _ Qm.2.2 (az (zB.alloc zl _) p2);have P8:=F _ _ _ Qm.2.2 (az (zB.alloc zl _) p3);have s:Hid (∃(q2:Pm)(G:List Nat)(H:Nat→Value),eu C u p g mv ms L (k+1) q2 g1 PJ PK G H (.slice Z I.length ic) (.slice a3 (ol.length+1) c3) w3):=
     ⟨_,_,_,eu.Gz f.out Q PR.out P6 y.out P0.out PY.out PZ.out P1.out Qj (cs:=#[.int .i64 0,ptr g.pk,.string ⟨#[]⟩,ah xt xb,.int .u8 4,.bool false]) rfl (by rw[B.out];exact l) E (X.imp id fun h=>h.trans zs)⟩
    clear F l E X;go_wp2_with fail
    obtain⟨q2,G,H,s⟩:=s.out;exact⟨⟨k+1,q2,g1,PJ,PK,G,H,by omega,by go_num,s,P7,P8⟩,by first|omega|(simp[intOf];omega)⟩
   ·have P6:k<u.m.toNat:=by simp at hc;omega
    have Qv:(k:Int)<u.m:=by simpa using hc
    go_wp2_with (first|(at_builtin;refine wpList_append_own_at _ rfl _ _ 187 rfl L.heap.size 102 i0 (.pointer none) 1 8 underlying187 Qe PN PO PQ rfl zd (.slice Z I.length ic) I.length (I.map pv) rfl Qt.out (Xa (t+1) 0) 1 1 [Xp t] rfl rfl PX.out (TS.one_one rfl) ?c3 ?c4 ?c5 ?_)|fail)
    case c3=>have:=PI.out;unfold maxLen;omega
    case c4=>have:=PI.out;omega
    case c5=>(try simp);omega
    intro v' w3 l E _ X;obtain⟨a3,c3,rfl⟩:=a_ l;have F:∀b o v,(Value.slice Z I.length ic).ownBlock≠some b→Xc ((t.alloc (.cells #[.int .i64 0,ptr g.pk,.string ⟨#[]⟩,ah xt xb,.int .u8 4,.bool false] 192)).alloc (.cells #[Xp t] 102)) b o v→Xc w3 b o v:=fun b o v hb h=>by
     rw[((Kept.refl (fun b=>(Value.slice Z I.length ic).ownBlock=some b) _).grown E fun k hk _=>hk).cell (zb h) hb];exact h
    have P7:=F _ _ _ Ql.2.2 (az (zB.alloc zl _) p2);have P8:=F _ _ _ Ql.2.2 (az (zB.alloc zl _) p3);have s:Hid (∃(q2:Pm)(G:List Nat)(H:Nat→Value),eu C u p g mv ms L (k+1) q2 g1 PJ PK G H (.slice a3 (I.length+1) c3) (.slice oa ol.length oc) w3):=
     ⟨_,_,_,eu.Gy f.out Q PR.out P6 y.out P0.out PY.out PZ.out P1.out Qj (cs:=#[.int .i64 0,ptr g.pk,.string ⟨#[]⟩,ah xt xb,.int .u8 4,.bool false]) rfl (by rw[z.out];exact l) E (X.imp id fun h=>h.trans zs)⟩
    clear F l E X;go_wp2_with fail
    obtain⟨q2,G,H,s⟩:=s.out;exact⟨⟨k+1,q2,g1,PJ,PK,G,H,by omega,by go_num,s,P7,P8⟩,by first|omega|(simp[intOf];omega)⟩
  ·have QJ:¬(k:Int)<n:=zo
   obtain rfl:k=n:=zo;have V:=zb t2;simp only at V;go_wp2_with fail
   refine oR (fun W=>Xc W w 3 (.bool u.v)) [(0,true),(1,true),(3,true),(5,true),(6,true),(2,false),(4,false),(7,false),(8,true)] zq (fun d=> ?_);repeat((first|refine oS ?_|refine oF d ?_);try simp only[Act.put,oa,ob,oc])
   refine oL fun K J=> ?_;go_simp;go_at_call 92
   refine(xr _ _ _ _).mono ?_;rintro e1 t ⟨tv,rfl,P9⟩;(try simp only[]);refine J _ _ (az P9.1 d) fun d=> ?_;clear J K;try simp only[Act.put,oa,ob,oc]
   repeat((first|refine oS ?_|refine oF d ?_);try simp only[Act.put,oa,ob,oc])
   refine oL fun K J=> ?_;go_simp;go_at_call 92
   refine(xr _ _ _ _).mono ?_;rintro e2 w2 ⟨qv,rfl,PM⟩;(try simp only[]);refine J _ _ (az PM.1 d) fun d=> ?_;clear J K;try simp only[Act.put,oa,ob,oc]
   repeat((first|refine oS ?_|refine oF d ?_);try simp only[Act.put,oa,ob,oc])
   refine oL fun K J=> ?_;go_simp;go_at_call 160
   have P_:eu C u p g mv ms L u.es.length q g' N O fs xs (.slice Z (fs.take u.m.toNat).length ic) (.slice oa (fs.drop u.m.toNat).length oc) wr.drew:=by rw[z.out,B.out,M.out];exact f.out.below zB.drew
   have Y:kI wr.drew Z (fs.take u.m.toNat).length ic tv t:=by rw[z.out];exact P9
   have P2:kI t oa (fs.drop u.m.toNat).length oc qv w2:=by rw[B.out];exact PM
   have Qa:=fun h=>GB Q (by have:=Qd.out;have:=M.out;omega) (by have:=M.out;omega) (Qr.out h) P_ Y PM.1;rw[z.out]at Qa;refine(GC r u.v w2 Z I.length ic tv qv Qa).mono ?_;rintro e3 w3 ⟨b,rfl,hb,Qn,Qb⟩;(try simp only[]);refine J _ _ (az Qb d) fun d=> ?_;clear J K;try simp only[Act.put,oa,ob,oc]
   have s:Hid (nj C u p g mv ms r w (.returned (Xp b)) w3):=by
    have h:=GD Qq.out (by have:=Qd.out;have:=M.out;omega) (by have:=M.out;omega) P3.out P_ Y P2 hb Qn Qb;obtain⟨sb,q,g',N,O,h1,h2,h3,h4,h5,h6,h7⟩:=h;exact⟨sb,q,g',N,O,h1,h2,h3,aG.ahead Qf.out h4,fun b e=>(h5 b e).imp id fun h=>by omega,by omega,h7⟩
   clear Qa hb Qn Qb P9 PM Y P2 P_;repeat((first|refine oS ?_|refine oF d ?_);try simp only[Act.put,oa,ob,oc])
   refine bZ ?_;clear d;go_wp2_with fail
   go_ret;exact s.out
end Go.Proofs.YtkochlhejabdcaaGreatDoor
namespace TS
open Go Go.RowKit Go.Proofs.YtkochlhejabdcaaGreatDoor Go.Proofs.Tryz
def fi(u:U):List U:=if u.k=12 then u.es else [u]
theorem xu(u:U)(h:u.k=12∨u.k=13):bD u=(fi u).map fun e=>(e.k==13,aH e):=by
 unfold bD fi;rcases h with h|h
 ·rw[if_pos h,if_pos h]
 ·rw[if_neg zo,if_neg zo];simp[h]
structure eR(C:BC)(l:List U)(p:Pm)(g:Ge)(mv:Value)(ms:List Nat)(w:World)(k:Nat)(q:Pm)(d:Ge)(c:Value)(a fs:List Nat)(xs:Nat→Value)(vt:Value)(wr:World):Prop where
 bs:BS C q d c a wr
 st:aG C p g mv ms w q d a wr
 om:∀b,c.ownBlock=some b→mv.ownBlock=some b∨w.heap.size≤b
 fl:fs.length=k
 tr:wr.ownsRow w 244 1 vt fs.length (fs.map pv)
 td:∀b,vt.ownBlock=some b→∀o,q b o=none
 cl:∀i(h:i<l.length),i<k→q (fs.getD i 0) 0=some (.bool (l[i].k==13))∧q (fs.getD i 0) 1=some (xs i)
 nd:∀i(h:i<l.length),i<k→Node q d (aH l[i]) (xs i)
 ct:a.length≤ms.length+aZ (l.take k)
theorem eR.step{C:BC}{l:List U}{e:U}{p q E:Pm}{g Z g1:Ge}{mv v y:Value}{ms z f fs:List Nat}{w L wr a M:World}{k:Nat}{xs:Nat→Value}{vt j x:Value}
 (hT:eR C l p g mv ms w k q Z v z fs xs vt wr)(F:C.bb<w.heap.size)(G:l[k]?=some e)(m:Below wr wr L)
 (N:Node E g1 (aH e) x)(A:BS C E g1 y f a)(n:aG C q Z v z L E g1 f a)(O:∀b,y.ownBlock=some b→v.ownBlock=some b∨L.heap.size≤b)(PG:f.length≤z.length+cn (aH e))
 {bs:Array Value}{Tb:TypeId}(P:M.ownsRow w 244 1 j (fs.length+1) (fs.map pv++ [pv a.heap.size]))
 (Q:((a.alloc (.cells #[.bool (e.k==13),x] 269)).alloc (.cells bs Tb)).grownBy M vt.ownBlock)
 (R:j.ownBlock=vt.ownBlock∨j.ownBlock=some ((a.alloc (.cells #[.bool (e.k==13),x] 269)).alloc (.cells bs Tb)).heap.size):
 eR C l p g mv ms w (k+1) (E.add a.heap.size #[.bool (e.k==13),x]) g1 y f (fs++ [a.heap.size]) (fun i=>if i=k then x else xs i) j M:=by
 obtain⟨hk,r⟩:=List.getElem?_eq_some_iff.1 G;have B:=aG.row (hT.bs.below m) n zd (bw hT.tr m) F hT.td;have S:=A.box #[.bool (e.k==13),x] 269;have T:=(hT.st.trans (aG.ahead m n) hT.om).box A #[.bool (e.k==13),x] 269;have hd:∀o,E a.heap.size o=none:=fun o=>A.wb.kw.aF zl o;have s:=Pm.cK (cs:=#[.bool (e.k==13),x]) hd;generalize V:#[Value.bool (e.k==13),x]=d at*;have H:Below a a ((a.alloc (.cells d 269)).alloc (.cells bs Tb)):=(zB.alloc zl _).alloc zs _;have I:Below (a.alloc (.cells d 269)).heap.size (a.alloc (.cells d 269)) ((a.alloc (.cells d 269)).alloc (.cells bs Tb)):=zB.alloc zl _;have t:=S.below I;have J:∀b,vt.ownBlock=some b→∀o,E.add a.heap.size d b o=none:=fun b c o=>by
  rw[Pm.aQ _ _ _ fun e2=>by have:=(B.1.lt b c).2;omega];exact B.2 b c o
 have u:=bw B.1 H;obtain⟨W,X⟩:=t.appended zd u J F Q;have Y:=(T.below I).own X fun b c=>(u.lt b c).1;have K:=hT.fl;have D:=n.gr.le.trans s;refine⟨W,Y,fun b c=> ?_,by simp[K],by simpa using P,kH t.wb J R,fun i h hi=> ?_,fun i h hi=> ?_,by have:=hT.ct;have:=gC G;have:=mZ e;omega⟩
 ·rcases O b c with c|c
  ·exact hT.om b c
  ·have:=m.size;have:=hT.st.size;exact .inr zo
 ·by_cases c:i=k
  ·subst c
   rw[r,if_pos rfl,show(fs++ [a.heap.size]).getD i 0=a.heap.size by simp[List.getD,←K]];simp only[Pm.aU,←V];exact⟨rfl,rfl⟩
  ·rw[if_neg c,show(fs++ [a.heap.size]).getD i 0=fs.getD i 0 by simp[List.getD,List.getElem?_append_left (show i<fs.length by omega)]]
   obtain⟨h1,h2⟩:=hT.cl i h zo;exact⟨D _ _ _ h1,D _ _ _ h2⟩
 ·by_cases c:i=k
  ·subst c
   rw[r,if_pos rfl];exact N.sub s (aK.refl _)
  ·rw[if_neg c];exact(hT.nd i h zo).sub D n.gs
theorem GF(u:U):aZ (fi u)≤cn u:=by
 unfold fi;split
 ·have:=dW u;omega
 ·simp[aZ]
theorem eR.done{C:BC}{u:U}{p q:Pm}{g B:Ge}{mv l:Value}{ms m fs:List Nat}{w wr:World}{xs:Nat→Value}{ta:Option Addr}{tc:Nat}(hu:u.k=12∨u.k=13)
 (hT:eR C (fi u) p g mv ms w (fi u).length q B l m fs xs (.slice ta (fi u).length tc) wr)(r:C.bb<w.heap.size):
 bE C u p g mv ms w (.returned (ah 202 wr.heap.size)) (wr.alloc (.cells #[.slice ta (fi u).length tc] 268)):=by
 have s:=hT.fl;obtain⟨F,O,c1,G,n,j,t,H,x,_,_⟩:=hT.bs.jP (e:=244) (v:= .slice ta (fi u).length tc) (xs:=fs.map pv) zd (by simpa using hT.tr) hT.td r;injection G with y I z
 subst y;subst z;have J:∀o,F wr.heap.size o=none:=fun o=>j.wb.kw.aF zl o;have d:=Pm.cK (cs:=#[.slice ta (fi u).length tc]) J;have A:=n.le.trans d;have D:(bD u).length=(fi u).length:=by rw[xu u hu,List.length_map]
 have E:∀i(h:i<(bD u).length)(K:i<(fi u).length),(bD u)[i]=((fi u)[i].k==13,aH (fi u)[i]):=fun i h K=>by simp[xu u hu]
 refine⟨_,_,B,l,m,rfl,.union (f:=fun i=>fs.getD i 0) (xs:=xs) (a:=ta) (c:=tc) hu (by rw[Pm.aU,D];rfl) (by rw[D];simpa [s]using x) (fun i hi=> ?_) (fun i hi=> ?_) (fun i hi=> ?_),j.box _ _,(hT.st.jO n).box j _ _,hT.om,fun _=>⟨_,rfl,hT.st.size⟩,by have h1:=hT.ct;rw[List.take_length]at h1;have:=GF u;omega⟩
 ·obtain⟨b,o,L,M⟩:=t i zp
  refine⟨b,o,L,d _ _ _ ?_⟩;rw[M];simp[List.getD,List.getElem?_eq_getElem (show i<fs.length by omega),pv]
 ·obtain⟨h1,N⟩:=hT.cl i zo zo
  rw[E i hi zo];exact⟨A _ _ _ h1,A _ _ _ N⟩
 ·rw[E i hi zo]
  exact(hT.nd i zo zo).sub A (aK.refl _)
def EL(C:BC)(l:List U)(a:Option Addr)(lo hi:Nat)(w:World):Prop:=
 ∀k e,l[k]?=some e→∃eb eo a' c',a= .some (Xa eb eo)∧(Xs w eb (eo+k*7) e a' c')∧ai C.pa C.D e a' c'∧(eb<C.B0∨(lo≤eb∧eb<hi))
theorem EL.kept{C:BC}{l:List U}{c:Option Addr}{lo hi:Nat}{w d:World}(h:EL C l c lo hi w)(hk:∀b o v,(b<C.B0∨(lo≤b∧b<hi))→Xc w b o v→Xc d b o v):EL C l c lo hi d:=fun k e he=>by
 obtain⟨eb,eo,a',c',h1,⟨z0,f,z2,z3,z4,z5,g⟩,i,a⟩:=h k e he;exact⟨eb,eo,a',c',h1,⟨hk _ _ _ a z0,hk _ _ _ a f,hk _ _ _ a z2,hk _ _ _ a z3,hk _ _ _ a z4,hk _ _ _ a z5,hk _ _ _ a g⟩,i,a⟩
end TS
namespace TS
open Go Go.RowKit Go.Proofs.YtkochlhejabdcaaGreatDoor Go.Proofs.Tryz
theorem bE.ahead{C:BC}{u:U}{p:Pm}{g:Ge}{mv:Value}{ms:List Nat}{w f i:World}{e:Ending}(a:Below w w f)(h:bE C u p g mv ms f e i):bE C u p g mv ms w e i:=by
 obtain⟨x,q,j,c,d,h1,k,m,n,o,r,h7⟩:=h;exact⟨x,q,j,c,d,h1,k,m,aG.ahead a n,fun b e=>(o b e).imp id fun h=>Nat.le_trans a.size h,fun h=>let⟨b,e,l⟩:=r h;⟨b,e,Nat.le_trans a.size l⟩,h7⟩
end TS
namespace Go.Proofs.YtkochlhejabdcaaGreatDoor
open Go.RowKit TS Tryz
theorem xw:(Tryz.prog.info? 244).map (fun i=>(i.zero,i.size,i.bytes))=some (some (.pointer none),1,8):=zk
theorem GG(C:BC)(u:U)(hk:u.k=12)(P4:0<(u.es).length)(PW:∀e∈u.es,e.k=13→∃e',e.es= [e'])(hI:∀e∈u.es,bX C (aH e))(p:Pm)(g:Ge)(mv:Value)(ms:List Nat)(a:Option Addr)(c:Nat)(w:World)(hB:BS C p g mv ms w)(Qm:ms.length+cn u≤1099511627776)(hu:ai C.pa C.D u a c):
 Xk 109 #[Xp C.bb,Xt u a c] w (bE C u p g mv ms w):=by
 have P5:=hu.cap;have Qj:=(hB.ib (b:=C.bb) (.inl rfl)).2.1;have Q:Below w w (w.alloc (Xt u a c)):=zB.alloc zl _;have P6:=zh (hB.below Q);have PX:Hid (EL C (u.es) a w.heap.size (w.alloc (Xt u a c)).heap.size (w.alloc (Xt u a c))):=fun k e he=>by
  obtain⟨hk,rfl⟩:=List.getElem?_eq_some_iff.1 he;obtain⟨eb,eo,rfl⟩:=hu.list.bg zo;obtain⟨a',c',h7,M⟩:=hu.list.get k hk;exact⟨eb,eo,a',c',rfl,h7.world (hB.below Q).ka,M,.inl (hB.la _ _ _ h7.1)⟩
 have E:=zh hB;have Qn:(u.es).length≤1048576:=zo;have Qe:Hid (u.k=12∨u.k=13):=by exact .inl hk
 have P7:Hid (fi u=u.es):=by exact if_pos hk
 have PR:=zh PW;have PY:=zh hI;have Qo:(u.k==13)=false:=by simp[hk]
 obtain⟨i0,P8,PS,PT,PU⟩:=info_parts xw;obtain⟨t,hW⟩:∃t,Hid (t=(w.alloc (Xt u a c))):=⟨_,rfl⟩
 have Qp:t.heap.size≤w.heap.size+1∧w.heap.size+1≤t.heap.size:=by rw[hW.out];simp
 rw[←hW.out]at P6 Q PX;have R:C.bb<t.heap.size:=zo;have P9:=zh Q;obtain⟨l,hl⟩:∃l,Hid (u.es=l):=⟨_,rfl⟩
 have P_:=zh (P7.out.trans hl.out);have Qa:=zh (hl.out▸P4);have PR:=zh (hl.out▸PW);have PY:=zh (hl.out▸hI);have S:Hid (ms.length+aZ l≤1099511627776):=by show _≤_;rw[←hl.out];have:=dW u;omega
 rw[hl.out]at PX;clear hu hB Q P5 hk PW hI P7 P4;generalize hn:u.es.length=n at*;have Qb:=zh (show l.length=n by rw[←hl.out];exact hn);clear hn;go_enter func109,ntmps109;go_wp2_with fail
 go_loopw [18,6] (fun vk vt wr=> ∃(k:Nat)(q:Pm)(g':Ge)(PN:Value)(PO fs:List Nat)(xs:Nat→Value),k≤n∧vk= .int .i64 k∧eR C l p g mv ms t k q g' PN PO fs xs vt wr∧EL C l a w.heap.size t.heap.size wr) (fun vk _ _=>n- (intOf vk).toNat)
 case atStart=>
  obtain rfl:=hW.out;exact⟨0,p,g,mv,ms,[],fun _=>undef,Nat.zero_le _,rfl,⟨P6.out,aG.refl _ _ _ _ _ _,fun b e=> .inl e,rfl,by simpa using World.ownsRow_nil _ _ _ _,fun b e=>(by cases e),fun i _ hi=>absurd hi (Nat.not_lt_zero _),fun i _ hi=>absurd hi (Nat.not_lt_zero _),Nat.le_add_right _ _⟩,PX.out⟩
 case round=>
  obtain⟨k,q,g',PN,PO,fs,xs,Qq,rfl,hT,hE⟩:=hrel;have d:=zh hT;have PZ:=zh hE;obtain⟨ta,tc,rfl⟩:=a_ hT.tr;clear hT hE;by_cases Qr:k<n
  ·have Qk:(k:Int)<n:=zo
   obtain⟨e,z⟩:∃e,l[k]?=some e:=⟨_,List.getElem?_eq_getElem (by have:=Qb.out;omega)⟩
   obtain⟨eb,eo,a',c',Qf,⟨z0,z1,z2,z3,z4,z5,z6⟩,M,_⟩:=PZ.out k e z;have Qc:=zb z0;simp only at Qc;have N:Below wr wr (wr.alloc (Xt e a' c')):=zB.alloc zl _;subst Qf;rcases hd:(e.k==13)with _|_
   ·have A:Hid (aH e=e):=if_neg (by simpa using hd)
    have O:=zh (PY.out e (List.mem_of_getElem? z) q g' PN PO a' c' _ (d.out.bs.below N) (by have:=d.out.ct;have:=gC z;have:=jK l (k+1);have:=mZ e;have:=S.out;omega) (A.out.symm▸M));rw[A.out]at O;have T:=zh z;have f:=zh N;have P0:=zh hd;clear z N M;go_wp2_with fail
    refine O.out.mono ?_;rintro e1 m ⟨x,q1,g1,V,W,rfl,I,X,y,Y,_,P1⟩;obtain⟨Z,xb,rfl⟩:=I.val;have Qg:=y.size;have aa:=d.out.st.size;have Qh:t.heap.size≤m.heap.size:=by have:=f.out.size;omega
    have F:=zh ((((aG.row (d.out.bs.below f.out) y zd (bw d.out.tr f.out) R d.out.td).1).alloc (.cells #[.bool false,ah Z xb] 269)).alloc (.cells #[Xp m] 244));have G:=zh (show ∀j u,[Value.pointer (Xa m 0)][j]?=some u→((m.alloc (.cells #[.bool false,ah Z xb] 269)).alloc (.cells #[Xp m] 244)).cell? (((Xa (m+1) 0):Addr).add j)=some u from fun j u h=>by
     have h1:=TS.eD (m.alloc (.cells #[.bool false,ah Z xb] 269)) (Xp m) 244 j u h;rwa [show(m.alloc (.cells #[.bool false,ah Z xb] 269)).heap.size=m.heap.size+1 by simp]at h1)
    have P2:Hid (EL C l (Xa eb eo) w.heap.size t.heap.size m):=PZ.out.kept fun b o v hb h=>by
     have P:=az f.out h;rw[y.kept.cell (zb P) fun e=> ?_]
     ·exact P
     ·have Qi:=E.out.bl
      rcases e with e|e
      ·have e':b=C.bb:=e
       omega
      ·rcases d.out.om _ e with H|H
       ·have e3:C.B0≤b∧b<w.heap.size:=⟨(E.out.ib (b:=b) (.inr H)).1,(E.out.ib (b:=b) (.inr H)).2.1⟩
        omega
       ·have e3:t.heap.size≤b:=H
        omega
    have J:=zh (show fs.length=k from d.out.fl);have PG:∀b,(Value.slice ta fs.length tc).ownBlock=some b→t.heap.size≤b:=fun b e=>(d.out.tr.lt _ e).1;have PH:=zh PG;have PI:=zh X;have PJ:=zh y;have PK:=zh I;have PL:=zh Y;clear X y I Y O PG;go_wp2_with fail
    refine(nV _ _ _ _).mono ?_;rintro H w2 ⟨rfl,rfl⟩;go_wp2_with (first|(at_builtin;refine wpList_append_own_at _ rfl _ _ 243 rfl t.heap.size 244 i0 (.pointer none) 1 8 underlying243 P8 PS PT PU rfl zd (.slice ta fs.length tc) fs.length (fs.map pv) rfl F.out (Xa (m+1) 0) 1 1 [Xp m] rfl rfl G.out (TS.one_one rfl) ?c3 ?c4 ?c5 ?_)|fail)
    case c3=>have:=J.out;unfold maxLen;omega
    case c4=>have:=J.out;omega
    case c5=>(try simp);omega
    intro v' w3 s K _ PM;obtain⟨a3,c3,rfl⟩:=a_ s;have P3:Hid (EL C l (Xa eb eo) w.heap.size t.heap.size w3):=P2.out.kept fun b o v hb h=>by
     have P:=az ((zB.alloc zl (.cells #[.bool false,ah Z xb] 269)).alloc zs (.cells #[Xp m] 244)) h;rw[((Kept.refl (fun b=>(Value.slice ta fs.length tc).ownBlock=some b) _).grown K fun k hk _=>hk).cell (zb P) fun e=> ?_]
     ·exact P
     ·have h3:t.heap.size≤b:=PH.out b e
      have h4:=E.out.bl;omega
    have r:Hid (∃(q2:Pm)(B:List Nat)(L:Nat→Value),B.length=k+1∧eR C l p g mv ms t (k+1) q2 g1 V W B L (.slice a3 (fs.length+1) c3) w3):=
     ⟨_,_,_,by simp[J.out],eR.step (e:=e) (bs:=#[Xp m]) (Tb:=244) d.out R T.out f.out (A.out.symm▸PK.out) PI.out PJ.out PL.out (A.out.symm▸P1) s (by rw[P0.out];exact K) (PM.imp id fun h=>h.trans zs)⟩
    clear s K PM F G;go_wp2_with fail
    obtain⟨q2,B,L,_,r⟩:=r.out;exact⟨⟨k+1,q2,g1,V,W,B,L,by omega,by go_num,r,P3.out⟩,by first|omega|(simp[intOf];omega)⟩
   ·obtain⟨H,PQ⟩:=PR.out _ (List.mem_of_getElem? z) (by simpa using hd)
    obtain⟨Qs,Qt,a2,c2,rfl,hle,Qd,⟨y0,y1,y2,y3,y4,y5,y6⟩,Ql⟩:=kE M d.out.bs.ka PQ;have A:Hid (aH e=H):=by rw[aH,if_pos (by simpa using hd),PQ];rfl
    have O:=zh (A.out▸PY.out e (List.mem_of_getElem? z) q g' PN PO a2 c2 _ (d.out.bs.below N) (by have:=d.out.ct;have:=gC z;have:=jK l (k+1);have:=mZ e;have:=S.out;omega) (A.out.symm▸Qd));have Qu:=zh PQ;clear PQ;have T:=zh z;have f:=zh N;have P0:=zh hd;clear z N M;go_wp2_with fail
    refine O.out.mono ?_;rintro e1 m ⟨x,q1,g1,V,W,rfl,I,X,y,Y,_,P1⟩;obtain⟨Z,xb,rfl⟩:=I.val;have Qg:=y.size;have aa:=d.out.st.size;have Qh:t.heap.size≤m.heap.size:=by have:=f.out.size;omega
    have F:=zh ((((aG.row (d.out.bs.below f.out) y zd (bw d.out.tr f.out) R d.out.td).1).alloc (.cells #[.bool true,ah Z xb] 269)).alloc (.cells #[Xp m] 244));have G:=zh (show ∀j u,[Value.pointer (Xa m 0)][j]?=some u→((m.alloc (.cells #[.bool true,ah Z xb] 269)).alloc (.cells #[Xp m] 244)).cell? (((Xa (m+1) 0):Addr).add j)=some u from fun j u h=>by
     have h1:=TS.eD (m.alloc (.cells #[.bool true,ah Z xb] 269)) (Xp m) 244 j u h;rwa [show(m.alloc (.cells #[.bool true,ah Z xb] 269)).heap.size=m.heap.size+1 by simp]at h1)
    have P2:Hid (EL C l (Xa eb eo) w.heap.size t.heap.size m):=PZ.out.kept fun b o v hb h=>by
     have P:=az f.out h;rw[y.kept.cell (zb P) fun e=> ?_]
     ·exact P
     ·have Qi:=E.out.bl
      rcases e with e|e
      ·have e':b=C.bb:=e
       omega
      ·rcases d.out.om _ e with H|H
       ·have e3:C.B0≤b∧b<w.heap.size:=⟨(E.out.ib (b:=b) (.inr H)).1,(E.out.ib (b:=b) (.inr H)).2.1⟩
        omega
       ·have e3:t.heap.size≤b:=H
        omega
    have J:=zh (show fs.length=k from d.out.fl);have PG:∀b,(Value.slice ta fs.length tc).ownBlock=some b→t.heap.size≤b:=fun b e=>(d.out.tr.lt _ e).1;have PH:=zh PG;have PI:=zh X;have PJ:=zh y;have PK:=zh I;have PL:=zh Y;clear X y I Y O PG;go_wp2_with fail
    refine(nV _ _ _ _).mono ?_;rintro H w2 ⟨rfl,rfl⟩;go_wp2_with (first|(at_builtin;refine wpList_append_own_at _ rfl _ _ 243 rfl t.heap.size 244 i0 (.pointer none) 1 8 underlying243 P8 PS PT PU rfl zd (.slice ta fs.length tc) fs.length (fs.map pv) rfl F.out (Xa (m+1) 0) 1 1 [Xp m] rfl rfl G.out (TS.one_one rfl) ?c3 ?c4 ?c5 ?_)|fail)
    case c3=>have:=J.out;unfold maxLen;omega
    case c4=>have:=J.out;omega
    case c5=>(try simp);omega
    intro v' w3 s K _ PM;obtain⟨a3,c3,rfl⟩:=a_ s;have P3:Hid (EL C l (Xa eb eo) w.heap.size t.heap.size w3):=P2.out.kept fun b o v hb h=>by
     have P:=az ((zB.alloc zl (.cells #[.bool true,ah Z xb] 269)).alloc zs (.cells #[Xp m] 244)) h;rw[((Kept.refl (fun b=>(Value.slice ta fs.length tc).ownBlock=some b) _).grown K fun k hk _=>hk).cell (zb P) fun e=> ?_]
     ·exact P
     ·have h3:t.heap.size≤b:=PH.out b e
      have h4:=E.out.bl;omega
    have r:Hid (∃(q2:Pm)(B:List Nat)(L:Nat→Value),B.length=k+1∧eR C l p g mv ms t (k+1) q2 g1 V W B L (.slice a3 (fs.length+1) c3) w3):=
     ⟨_,_,_,by simp[J.out],eR.step (e:=e) (bs:=#[Xp m]) (Tb:=244) d.out R T.out f.out (A.out.symm▸PK.out) PI.out PJ.out PL.out (A.out.symm▸P1) s (by rw[P0.out];exact K) (PM.imp id fun h=>h.trans zs)⟩
    clear s K PM F G;go_wp2_with fail
    obtain⟨q2,B,L,_,r⟩:=r.out;exact⟨⟨k+1,q2,g1,V,W,B,L,by omega,by go_num,r,P3.out⟩,by first|omega|(simp[intOf];omega)⟩
  ·have Qv:¬(k:Int)<n:=zo
   have r:Hid (0<fs.length∧bE C u p g mv ms w (.returned (Xi 202 wr)) (wr.alloc (.cells #[.slice ta fs.length tc] 268))):=by
    have e1:=P_.out;have H:l.length=k:=by have:=Qb.out;omega
    have e3:=d.out.fl;have h1:=d.out;have P:=Qa.out;refine⟨by omega,?_⟩;rw[e3]at h1⊢;have h:=eR.done (u:=u) (ta:=ta) (tc:=tc) Qe.out (by rw[e1,H];exact h1) R;rw[e1,H]at h;exact bE.ahead P9.out h
   go_wp2_with fail
   refine(uo ta fs.length tc r.out.1 _).mono ?_;rintro e1 m ⟨rfl,rfl⟩;go_wp2_with fail
   go_ret;exact r.out.2
theorem GH(C:BC)(u:U)(hk:u.k=13)(P6:0<([u]).length)(PW:∀e∈ [u],e.k=13→∃e',e.es= [e'])(hI:∀e∈ [u],bX C (aH e))(p:Pm)(g:Ge)(mv:Value)(ms:List Nat)(a:Option Addr)(c:Nat)(w:World)(hB:BS C p g mv ms w)(Qn:ms.length+cn u≤1099511627776)(hu:ai C.pa C.D u a c):
 Xk 109 #[Xp C.bb,Xt u a c] w (bE C u p g mv ms w):=by
 have P7:=hu.cap;have Qk:=(hB.ib (b:=C.bb) (.inl rfl)).2.1;have PL:Below w w ((w.alloc (Xt u a c)).alloc (Xt u a c)):=(zB.alloc zl _).alloc zs _;have P8:=zh (hB.below PL);have PX:Hid (EL C ([u]) (Xa (w+1) 0) w.heap.size ((w.alloc (Xt u a c)).alloc (Xt u a c)).heap.size ((w.alloc (Xt u a c)).alloc (Xt u a c))):=fun k e he=>by
  obtain⟨rfl,rfl⟩:k=0∧u=e:=by
   cases k with
   |zero=>simpa using he
   |succ k=>simp at he
  have hh:((w.alloc (Xt u a c)).alloc (Xt u a c)).heap[w.heap.size+1]?= .some (Xt u a c):=cA zs;exact⟨_,0,a,c,rfl,by(repeat' apply And.intro)<;>(simp only[World.cell?,hh];rfl),hu,.inr ⟨by omega,by simp⟩⟩
 have B:=zh hB;have Qo:([u]).length≤1048576:=zs;have Qg:Hid (u.k=12∨u.k=13):=by exact .inr hk
 have P9:Hid (fi u= [u]):=by exact if_neg zo
 have PR:=zh PW;have PY:=zh hI;have Qp:(u.k==13)=true:=by simp[hk]
 obtain⟨i0,P_,PS,PT,PU⟩:=info_parts xw;obtain⟨s,hW⟩:∃s,Hid (s=((w.alloc (Xt u a c)).alloc (Xt u a c))):=⟨_,rfl⟩
 have Qq:s.heap.size≤w.heap.size+2∧w.heap.size+2≤s.heap.size:=by rw[hW.out];simp
 rw[←hW.out]at P8 PL PX;have O:C.bb<s.heap.size:=zo;have Qa:=zh PL;obtain⟨l,hl⟩:∃l,Hid ([u]=l):=⟨_,rfl⟩
 have Qb:=zh (P9.out.trans hl.out);have Qc:=zh (hl.out▸P6);have PR:=zh (hl.out▸PW);have PY:=zh (hl.out▸hI);have P:Hid (ms.length+aZ l≤1099511627776):=by show _≤_;rw[←hl.out];simp[aZ];omega
 rw[hl.out]at PX;clear hu hB PL P7 hk PW hI P9 P6;have Qd:Hid (l.length=1):=by rw[←hl.out];rfl
 go_enter func109,ntmps109;go_wp2_with fail
 go_loopw [18,6] (fun vk vt wr=> ∃(k:Nat)(q:Pm)(g':Ge)(PM:Value)(PN fs:List Nat)(xs:Nat→Value),k≤1∧vk= .int .i64 k∧eR C l p g mv ms s k q g' PM PN fs xs vt wr∧EL C l (Xa (w+1) 0) w.heap.size s.heap.size wr) (fun vk _ _=>1- (intOf vk).toNat)
 case atStart=>
  obtain rfl:=hW.out;exact⟨0,p,g,mv,ms,[],fun _=>undef,Nat.zero_le _,rfl,⟨P8.out,aG.refl _ _ _ _ _ _,fun b e=> .inl e,rfl,by simpa using World.ownsRow_nil _ _ _ _,fun b e=>(by cases e),fun i _ hi=>absurd hi (Nat.not_lt_zero _),fun i _ hi=>absurd hi (Nat.not_lt_zero _),Nat.le_add_right _ _⟩,PX.out⟩
 case round=>
  obtain⟨k,q,g',PM,PN,fs,xs,Qr,rfl,hT,hE⟩:=hrel;have d:=zh hT;have PZ:=zh hE;obtain⟨ta,tc,rfl⟩:=a_ hT.tr;clear hT hE;by_cases Qs:k<1
  ·have Ql:(k:Int)<1:=zo
   obtain⟨e,y⟩:∃e,l[k]?=some e:=⟨_,List.getElem?_eq_getElem (by have:=Qd.out;omega)⟩
   obtain⟨eb,eo,a',c',P0,⟨z0,z1,z2,z3,z4,z5,z6⟩,PO,_⟩:=PZ.out k e y;have Qe:=zb z0;simp only at Qe;have L:Below wr wr (wr.alloc (Xt e a' c')):=zB.alloc zl _;injection P0 with P0;injection P0 with P1 Qh;subst P1;subst Qh;simp only[Nat.zero_add]at z0 z1 z2 z3 z4 z5 z6
   rcases hd:(e.k==13)with _|_
   ·have z:Hid (aH e=e):=if_neg (by simpa using hd)
    have M:=zh (PY.out e (List.mem_of_getElem? y) q g' PM PN a' c' _ (d.out.bs.below L) (by have:=d.out.ct;have:=gC y;have:=jK l (k+1);have:=mZ e;have:=P.out;omega) (z.out.symm▸PO));rw[z.out]at M;have Q:=zh y;have f:=zh L;have P2:=zh hd;clear y L PO;go_wp2_with fail
    refine M.out.mono ?_;rintro e1 m ⟨x,q1,g1,R,S,rfl,H,T,t,V,_,P3⟩;obtain⟨W,X,rfl⟩:=H.val;have P1:=t.size;have aa:=d.out.st.size;have Qi:s.heap.size≤m.heap.size:=by have:=f.out.size;omega
    have E:=zh ((((aG.row (d.out.bs.below f.out) t zd (bw d.out.tr f.out) O d.out.td).1).alloc (.cells #[.bool false,ah W X] 269)).alloc (.cells #[Xp m] 244));have F:=zh (show ∀j u,[Value.pointer (Xa m 0)][j]?=some u→((m.alloc (.cells #[.bool false,ah W X] 269)).alloc (.cells #[Xp m] 244)).cell? (((Xa (m+1) 0):Addr).add j)=some u from fun j u h=>by
     have h1:=TS.eD (m.alloc (.cells #[.bool false,ah W X] 269)) (Xp m) 244 j u h;rwa [show(m.alloc (.cells #[.bool false,ah W X] 269)).heap.size=m.heap.size+1 by simp]at h1)
    have P4:Hid (EL C l (Xa (w+1) 0) w.heap.size s.heap.size m):=PZ.out.kept fun b o v hb h=>by
     have N:=az f.out h;rw[t.kept.cell (zb N) fun e=> ?_]
     ·exact N
     ·have Qj:=B.out.bl
      rcases e with e|e
      ·have e':b=C.bb:=e
       omega
      ·rcases d.out.om _ e with G|G
       ·have e3:C.B0≤b∧b<w.heap.size:=⟨(B.out.ib (b:=b) (.inr G)).1,(B.out.ib (b:=b) (.inr G)).2.1⟩
        omega
       ·have e3:s.heap.size≤b:=G
        omega
    have I:=zh (show fs.length=k from d.out.fl);have Y:∀b,(Value.slice ta fs.length tc).ownBlock=some b→s.heap.size≤b:=fun b e=>(d.out.tr.lt _ e).1;have Z:=zh Y;have PG:=zh T;have PH:=zh t;have PI:=zh H;have PJ:=zh V;clear T t H V M Y;go_wp2_with fail
    refine(nV _ _ _ _).mono ?_;rintro G w2 ⟨rfl,rfl⟩;go_wp2_with (first|(at_builtin;refine wpList_append_own_at _ rfl _ _ 243 rfl s.heap.size 244 i0 (.pointer none) 1 8 underlying243 P_ PS PT PU rfl zd (.slice ta fs.length tc) fs.length (fs.map pv) rfl E.out (Xa (m+1) 0) 1 1 [Xp m] rfl rfl F.out (TS.one_one rfl) ?c3 ?c4 ?c5 ?_)|fail)
    case c3=>have:=I.out;unfold maxLen;omega
    case c4=>have:=I.out;omega
    case c5=>(try simp);omega
    intro v' w3 r J _ PK;obtain⟨a3,c3,rfl⟩:=a_ r;have P5:Hid (EL C l (Xa (w+1) 0) w.heap.size s.heap.size w3):=P4.out.kept fun b o v hb h=>by
     have N:=az ((zB.alloc zl (.cells #[.bool false,ah W X] 269)).alloc zs (.cells #[Xp m] 244)) h;rw[((Kept.refl (fun b=>(Value.slice ta fs.length tc).ownBlock=some b) _).grown J fun k hk _=>hk).cell (zb N) fun e=> ?_]
     ·exact N
     ·have h3:s.heap.size≤b:=Z.out b e
      have h4:=B.out.bl;omega
    have n:Hid (∃(q2:Pm)(A:List Nat)(K:Nat→Value),A.length=k+1∧eR C l p g mv ms s (k+1) q2 g1 R S A K (.slice a3 (fs.length+1) c3) w3):=
     ⟨_,_,_,by simp[I.out],eR.step (e:=e) (bs:=#[Xp m]) (Tb:=244) d.out O Q.out f.out (z.out.symm▸PI.out) PG.out PH.out PJ.out (z.out.symm▸P3) r (by rw[P2.out];exact J) (PK.imp id fun h=>h.trans zs)⟩
    clear r J PK E F;go_wp2_with fail
    obtain⟨q2,A,K,_,n⟩:=n.out;exact⟨⟨k+1,q2,g1,R,S,A,K,by omega,by go_num,n,P5.out⟩,by first|omega|(simp[intOf];omega)⟩
   ·obtain⟨G,PQ⟩:=PR.out _ (List.mem_of_getElem? y) (by simpa using hd)
    obtain⟨Qt,Qu,a2,c2,rfl,hle,Qf,⟨y0,y1,y2,y3,y4,y5,y6⟩,Qm⟩:=kE PO d.out.bs.ka PQ;have z:Hid (aH e=G):=by rw[aH,if_pos (by simpa using hd),PQ];rfl
    have M:=zh (z.out▸PY.out e (List.mem_of_getElem? y) q g' PM PN a2 c2 _ (d.out.bs.below L) (by have:=d.out.ct;have:=gC y;have:=jK l (k+1);have:=mZ e;have:=P.out;omega) (z.out.symm▸Qf));have Qv:=zh PQ;clear PQ;have Q:=zh y;have f:=zh L;have P2:=zh hd;clear y L PO;go_wp2_with fail
    refine M.out.mono ?_;rintro e1 m ⟨x,q1,g1,R,S,rfl,H,T,t,V,_,P3⟩;obtain⟨W,X,rfl⟩:=H.val;have P1:=t.size;have aa:=d.out.st.size;have Qi:s.heap.size≤m.heap.size:=by have:=f.out.size;omega
    have E:=zh ((((aG.row (d.out.bs.below f.out) t zd (bw d.out.tr f.out) O d.out.td).1).alloc (.cells #[.bool true,ah W X] 269)).alloc (.cells #[Xp m] 244));have F:=zh (show ∀j u,[Value.pointer (Xa m 0)][j]?=some u→((m.alloc (.cells #[.bool true,ah W X] 269)).alloc (.cells #[Xp m] 244)).cell? (((Xa (m+1) 0):Addr).add j)=some u from fun j u h=>by
     have h1:=TS.eD (m.alloc (.cells #[.bool true,ah W X] 269)) (Xp m) 244 j u h;rwa [show(m.alloc (.cells #[.bool true,ah W X] 269)).heap.size=m.heap.size+1 by simp]at h1)
    have P4:Hid (EL C l (Xa (w+1) 0) w.heap.size s.heap.size m):=PZ.out.kept fun b o v hb h=>by
     have N:=az f.out h;rw[t.kept.cell (zb N) fun e=> ?_]
     ·exact N
     ·have Qj:=B.out.bl
      rcases e with e|e
      ·have e':b=C.bb:=e
       omega
      ·rcases d.out.om _ e with G|G
       ·have e3:C.B0≤b∧b<w.heap.size:=⟨(B.out.ib (b:=b) (.inr G)).1,(B.out.ib (b:=b) (.inr G)).2.1⟩
        omega
       ·have e3:s.heap.size≤b:=G
        omega
    have I:=zh (show fs.length=k from d.out.fl);have Y:∀b,(Value.slice ta fs.length tc).ownBlock=some b→s.heap.size≤b:=fun b e=>(d.out.tr.lt _ e).1;have Z:=zh Y;have PG:=zh T;have PH:=zh t;have PI:=zh H;have PJ:=zh V;clear T t H V M Y;go_wp2_with fail
    refine(nV _ _ _ _).mono ?_;rintro G w2 ⟨rfl,rfl⟩;go_wp2_with (first|(at_builtin;refine wpList_append_own_at _ rfl _ _ 243 rfl s.heap.size 244 i0 (.pointer none) 1 8 underlying243 P_ PS PT PU rfl zd (.slice ta fs.length tc) fs.length (fs.map pv) rfl E.out (Xa (m+1) 0) 1 1 [Xp m] rfl rfl F.out (TS.one_one rfl) ?c3 ?c4 ?c5 ?_)|fail)
    case c3=>have:=I.out;unfold maxLen;omega
    case c4=>have:=I.out;omega
    case c5=>(try simp);omega
    intro v' w3 r J _ PK;obtain⟨a3,c3,rfl⟩:=a_ r;have P5:Hid (EL C l (Xa (w+1) 0) w.heap.size s.heap.size w3):=P4.out.kept fun b o v hb h=>by
     have N:=az ((zB.alloc zl (.cells #[.bool true,ah W X] 269)).alloc zs (.cells #[Xp m] 244)) h;rw[((Kept.refl (fun b=>(Value.slice ta fs.length tc).ownBlock=some b) _).grown J fun k hk _=>hk).cell (zb N) fun e=> ?_]
     ·exact N
     ·have h3:s.heap.size≤b:=Z.out b e
      have h4:=B.out.bl;omega
    have n:Hid (∃(q2:Pm)(A:List Nat)(K:Nat→Value),A.length=k+1∧eR C l p g mv ms s (k+1) q2 g1 R S A K (.slice a3 (fs.length+1) c3) w3):=
     ⟨_,_,_,by simp[I.out],eR.step (e:=e) (bs:=#[Xp m]) (Tb:=244) d.out O Q.out f.out (z.out.symm▸PI.out) PG.out PH.out PJ.out (z.out.symm▸P3) r (by rw[P2.out];exact J) (PK.imp id fun h=>h.trans zs)⟩
    clear r J PK E F;go_wp2_with fail
    obtain⟨q2,A,K,_,n⟩:=n.out;exact⟨⟨k+1,q2,g1,R,S,A,K,by omega,by go_num,n,P5.out⟩,by first|omega|(simp[intOf];omega)⟩
  ·have Qw:¬(k:Int)<1:=zo
   have n:Hid (0<fs.length∧bE C u p g mv ms w (.returned (Xi 202 wr)) (wr.alloc (.cells #[.slice ta fs.length tc] 268))):=by
    have e1:=Qb.out;have G:l.length=k:=by have:=Qd.out;omega
    have e3:=d.out.fl;have h1:=d.out;have N:=Qc.out;refine⟨by omega,?_⟩;rw[e3]at h1⊢;have h:=eR.done (u:=u) (ta:=ta) (tc:=tc) Qg.out (by rw[e1,G];exact h1) O;rw[e1,G]at h;exact bE.ahead Qa.out h
   go_wp2_with fail
   refine(uo ta fs.length tc n.out.1 _).mono ?_;rintro e1 m ⟨rfl,rfl⟩;go_wp2_with fail
   go_ret;exact n.out.2
end Go.Proofs.YtkochlhejabdcaaGreatDoor
