import Derived.Test.YtkochlhejabdcaaGreatDoorYbc
import Derived.Test.YtkochlhejabdcaaGreatDoorYbd
set_option maxRecDepth 100000
set_option maxHeartbeats 8000000
set_option linter.all false
namespace TS
open Go Go.RowKit Go.Proofs.YtkochlhejabdcaaGreatDoor Go.Proofs.Tryz
theorem Plain.below{w a:World}{b:Nat}(h:Plain w b)(k:Below w w a):Plain a b:=by
 obtain⟨cs,T,c⟩:=h;exact⟨cs,T,by rw[k.block b (Array.getElem?_eq_some_iff.1 c).1];exact c⟩
theorem az{w b:World}(k:Below w w b){a:Addr}{v:Value}(h:w.cell? a=some v):b.cell? a=some v:=by
 rw[k.cell (zb h)];exact h
theorem bU.below{w a:World}(h:bU w)(k:Below w w a):bU a:=fun c h1 b=>az k (h c h1 b)
theorem aA.below{p:Pm}{g:Ge}{w a:World}(h:aA p g w)(k:Below w w a):aA p g a:=
 ⟨h.kw.grown k,fun b o v c=>(h.pl b o v c).below k,h.inj,h.cap.below k,h.done,h.po,h.cY,h.cZ⟩
abbrev pv(b:Nat):Value:=Xp b
structure cB(p:Pm)(g:Ge)(B:Nat)(wr:World)(v:Value)(rs:List Nat)(R:List Tm):Prop where
 own:wr.ownsRow B 164 1 v rs.length (rs.map pv)
 len:rs.length=R.length
 cJ:∀i(h:i<R.length)(a:i<rs.length),bh p g R[i] rs[i]
theorem cB.below{p:Pm}{g:Ge}{B:Nat}{wr a:World}{v:Value}{rs:List Nat}{R:List Tm}(h:cB p g B wr v rs R)(k:Below wr wr a):cB p g B a v rs R:=
 ⟨bw h.own k,h.len,h.cJ⟩
theorem cB.sub{p q:Pm}{g b:Ge}{B:Nat}{wr:World}{v:Value}{rs:List Nat}{R:List Tm}(h:cB p g B wr v rs R)(hk:Sub p q)(c:aK g b):cB q b B wr v rs R:=
 ⟨h.own,h.len,fun i hi a=>(h.cJ i hi a).sub hk c⟩
theorem cB.more{p:Pm}{g:Ge}{B:Nat}{wr c:World}{v d:Value}{rs:List Nat}{R:List Tm}{z:Tm}{zb:Nat}(h:cB p g B wr v rs R)(f:c.ownsRow B 164 1 d (rs.length+1) (rs.map pv++ [pv zb]))(j:bh p g z zb):cB p g B c d (rs++ [zb]) (R++ [z]) where
 own:=by simpa using f
 len:=by simp[h.len]
 cJ:=fun i hi b=>by
  have e:=h.len;simp only[List.length_append,List.length_cons,List.length_nil]at hi b;by_cases a:i<R.length
  ·rw[List.getElem_append_left a,List.getElem_append_left zo];exact h.cJ i a zo
  ·have k:i=R.length:=zo
   subst k;simp[←e];simpa [e]using j
theorem aA.add{p:Pm}{g:Ge}{w:World}{b:Nat}{cs:Array Value}{T:TypeId}(h:aA p g w)(a:∀o,p b o=none)(c:w.heap[b]?=some (.cells cs T (0,0))):aA (p.add b cs) g w where
 kw:=h.kw.add fun o u hu=>by simp[World.cell?,c,hu]
 pl:=fun d o v f=>by
  by_cases e:d=b
  ·subst e;exact⟨cs,T,c⟩
  ·rw[Pm.aQ _ _ _ e]at f;exact h.pl _ _ _ f
 inj:=h.inj
 cap:=h.cap
 done:=fun d u hu=>⟨Pm.cK a _ _ _ (h.done _ _ hu).1,(h.done _ _ hu).2.sub (Pm.cK a) (aK.refl g)⟩
 po:=fun i hi=>let⟨o,v,e⟩:=h.po i hi;⟨o,v,Pm.cK a _ _ _ e⟩
 cY:=let⟨o,v,e⟩:=h.cY;⟨o,v,Pm.cK a _ _ _ e⟩
 cZ:=let⟨o,v,e⟩:=h.cZ;⟨o,v,Pm.cK a _ _ _ e⟩
theorem aA.own{p:Pm}{g:Ge}{w e:World}{X:Nat→Prop}(h:aA p g w)(k:Kept X w e)(f:∀b,X b→∀o,p b o=none)(j:¬X 5):aA p g e where
 kw:=h.kw.kept k fun b o v a d=>by rw[f b d o]at a;cases a
 pl:=fun b o v a=>by
  obtain⟨cs,T,i⟩:=h.pl b o v a;exact⟨cs,T,by rw[k.block b (Array.getElem?_eq_some_iff.1 i).1 fun d=>by rw[f b d o]at a;cases a];exact i⟩
 inj:=h.inj
 cap:=fun c h1 l=>by
  have:=h.cap c h1 l;rw[k.cell (zb this) j];exact this
 done:=h.done
 po:=h.po
 cY:=h.cY
 cZ:=h.cZ
structure Flags(wr:World)(a n:Nat)(F:Nat→Bool):Prop where
 us:∀j,j<n→Xc wr a j (.bool (F j))
 fz:∀j,j<n→wr.frozen? (Xa a j)=false
theorem Flags.of{wr d:World}{b n:Nat}{F:Nat→Bool}(h:Flags wr b n F)(e:d.heap[b]?=wr.heap[b]?):Flags d b n F:=
 ⟨fun j c=>(World.cell?_of_block (w:=wr) (a:=(Xa b j)) e).trans (h.us j c),fun j c=>(World.frozen?_of_block (w:=wr) (a:=(Xa b j)) e).trans (h.fz j c)⟩
end TS
namespace Go.Proofs.YtkochlhejabdcaaGreatDoor
open Go.RowKit TS Tryz
theorem Db:(Tryz.prog.info? 4).map (fun i=>(i.zero,i.size,i.bytes))=some (some (.bool false),1,1):=zk
def Dc(p:Pm)(g:Ge)(c:List Tm)(w:World)(e:Ending)(a:World):Prop:=
 ∃q v rs,e= .returned v∧aN p q w∧aA q g a∧cB q g w.heap.size a v rs (eh c)∧Below w w a∧∀b,v.ownBlock=some b→∀o,q b o=none
theorem vF(len:Nat)(p:Pm)(g:Ge)(a:Option Addr)(n c:Nat)(f:Nat→Nat)(l:List Tm)(w:World)(hn:n=l.length)(hl:n≤1099511627776)(hE:aA p g w)(hp:bJ w a n f)(ht:∀i(h:i<l.length),bh p g l[i] (f i))(ok:∀t∈l,dS len t):
 Xk 222 #[.slice a n c] w (Dc p g l w):=by
 have PW:=zh hp;have L:=zh hE;have PX:Hid (∀i,i<n→bh p g (l.getD i none) (f i)∧dS len (l.getD i none)):=fun i hi=>by
  have h:i<l.length:=zo;have e:l.getD i none=l[i]:=by simp[h]
  rw[e];exact⟨ht i h,ok _ (zm h)⟩
 have Qk:=zh hn;obtain⟨i0,hi,Ql,Qm,Qn⟩:=info_parts Db;obtain⟨i1,hj,Qo,Qp,Qq⟩:=info_parts qJ;clear hp hE ht ok hn;go_enter func222,ntmps222;go_wp2_with (first|(at_make;refine wpList_make_full _ rfl _ _ 327 rfl w.heap.size 4 i0 (.bool false) 1 underlying327 hi Ql Qm .i64 .i64 _ _ n rfl rfl rfl rfl (by rw[Qn];omega) (by unfold maxLen;omega) zl ?_;intro w1 A PY)|fail)
 have Qr:Hid (Below w w w1):=(Below.refl w.heap.size w).grown PY zl fun k hk=>by cases hk
 have Qs:Hid (Flags w1 w.heap.size n fun _=>false):=by
  refine⟨fun j hj=> ?_,fun j _=>A.frozenAt j⟩;have:=A.cells (g:=w.heap.size) rfl j (.bool false) (by simp[madeCells,Value.cells,hj,Nat.mod_one]);rwa [show((Xa w 0):Addr).add j=(Xa w j) by unfold Addr.add;split<;>simp_all]at this
 have D:w.heap.size<w1.heap.size:=(A.lt w.heap.size rfl).2;clear A PY;go_loopw [16,4] (fun vi vr wr=> ∃(k:Nat)(F:Nat→Bool)(rs:List Nat)(R:List Tm),k≤n∧vi= .int .i64 k∧Below w w wr∧Flags wr w.heap.size n F∧w.heap.size<wr.heap.size∧cB p g w.heap.size wr vr rs R∧vr.ownBlock≠some w.heap.size∧rs.length≤k∧eO l R (cV l F k (n- k))) (fun vi _ _=>n- (intOf vi).toNat)
 case atStart=>
  refine⟨0,fun _=>false,[],[],Nat.zero_le _,rfl,Qr.out,Qs.out,D,⟨World.ownsRow_nil _ _ _ _,rfl,fun i h=>absurd h (Nat.not_lt_zero _)⟩,by simp[Value.ownBlock],Nat.le_refl _,?_⟩;rw[Qk.out,Nat.sub_zero,C8];exact C_ l
 case round=>
  obtain⟨k,F,rs,R,hk,rfl,hB,hF,PZ,hT,P0,QH,hN⟩:=hrel;have M:=zh hB;have PO:=zh hF;have N:=zh hT;have J:=zh P0;have V:=zh hN;clear hB hF hT P0 hN;obtain⟨va,vc,rfl⟩:=a_ N.out.own;by_cases W:k<n
  ·have QE:(k:Int)<n:=zo
   obtain⟨ab,ao,rfl,Qt⟩:=PW.out k W;have hc:=az M.out Qt;have hu:=PO.out.us k W;have u:=oD l F k (n- (k+1));rw[show n- (k+1)+1=n- k by omega]at u;cases X:F k
   ·rw[X]at hu u
    have Y:Hid (eO l R (l.getD k none::cV l F (k+1) (n- (k+1)))):=by have:=V.out;rw[u]at this;exact this
    clear u X V;obtain⟨wo,rfl⟩:∃wo:World,wo=wr:=⟨_,rfl⟩
    obtain⟨P1,P2⟩:=PX.out k W;have P3:=zh P1;have P4:=zh P2;clear P1 P2;go_wp2_with fail
    go_loopw [7,6] (fun vj vx wx=> ∃(j:Nat)(s:Nat→Bool)(z:Tm)(zb:Nat),k+1≤j∧j≤n∧vj= .int .i64 j∧vx=Xp zb∧bh p g z zb∧dS len z∧Below w w wx∧Flags wx w.heap.size n s∧w.heap.size<wx.heap.size∧cB p g w.heap.size wx (.slice va rs.length vc) rs R∧(∀i,j≤i→s i=F i)∧
     dZ (l.getD k none) (cV l F (k+1) (n- (k+1))) z (cV l s (k+1) (j- (k+1))) (cV l s j (n- j))) (fun vj _ _=>n- (intOf vj).toNat)
    case atStart=>exact⟨k+1,F,_,f k,Nat.le_refl _,W,by go_num,rfl,P3.out,P4.out,M.out,PO.out,PZ,N.out,fun _ _=>rfl,by rw[Nat.sub_self,oC];exact C9 _ _⟩
    case round=>
     obtain⟨j,s,z,zb,QI,QJ,rfl,rfl,hz,P5,P6,P7,P8,P9,P_,hS⟩:=hrel;have Z:=zh hz;have K:=zh P5;have m:=zh P6;have r:=zh P7;have x:=zh P9;have O:=zh P_;have P:=zh hS;clear hz P5 P6 P7 P9 P_ hS;by_cases y:j<n
     ·have Qu:(j:Int)<n:=zo
      obtain⟨QK,QL,e0,Qv⟩:=PW.out j y;cases e0;have hd:=az m.out Qv;have hv:=r.out.us j y;have QM:=r.out.fz j y;have E:=oD l s j (n- (j+1));have G:=qX l s (k+1) (j- (k+1));rw[show n- (j+1)+1=n- j by omega]at E;rw[show k+1+(j- (k+1))=j by omega,show j- (k+1)+1=j+1- (k+1) by omega]at G;obtain⟨PG,PH⟩:=PX.out j y;cases Q:s j
      ·rw[Q]at hv E G
       have v:Hid (dZ (l.getD k none) (cV l F (k+1) (n- (k+1))) z (cV l s (k+1) (j- (k+1))) (l.getD j none::cV l s (j+1) (n- (j+1)))):=by have:=P.out;rw[E]at this;exact this
       have Qa:=zh G;have hU:=zh (C5 len p g zb (f j) z (l.getD j none) wr (L.out.below m.out) Z.out PG K.out PH);have QF:=zh PG;have Qb:=zh PH;have QG:=zh Q;clear E G P PG PH Q;cases d:cQ z (l.getD j none)with
       |none=>
        have PQ:=zh (v.out.iZ d);have B:=hU.out;unfold mM at B;rw[d]at B;have H:=zh B;clear hU B d v;go_wp2_with fail
        refine H.out.mono ?_;rintro e1 C ⟨U,rfl⟩;have q:=zh U.below;have Qc:=U.size;clear U;go_wp2_with fail
        refine⟨⟨j+1,s,z,zb,by omega,by omega,by go_num,rfl,Z.out,K.out,m.out.trans (q.out.mono zo),r.out.of (q.out.block _ zo),by omega,x.out.below q.out,fun i hi=>O.out i zo,?_⟩,?_⟩
        ·rw[Qa.out];exact PQ.out
        ·first|omega|(simp[intOf];omega)
       |some tz=>
        have B:=hU.out;unfold mM at B;rw[d]at B;have H:=zh B;clear hU B;match tz,d,H with
        |none,d,H=>
         have Qd:=zh (Y.out.all (v.out.all d));clear d v;go_wp2_with fail
         refine H.out.mono ?_;rintro e1 C ⟨U,zz,PI,rfl⟩;have q:=zh U.below;have Qw:=(L.out.below (m.out.trans (q.out.mono zo))).kw _ _ _ PI;clear U PI;go_wp2_with fail
         refine(mx _).mono ?_;rintro e1 w3 ⟨rfl,rfl⟩;go_wp2_with fail
         go_ret;have PR:Below w w C:=m.out.trans (q.out.mono zo);have PS:=L.out.below PR;have Qe:Below C C ((C.alloc (.cells #[.bool false,.nilIface] 168)).alloc (.cells #[Xp C] 164)):=(zB.alloc zl _).alloc zs _;have PL:∀o,p C.heap.size o=none:=fun o=>PS.kw.aF zl o;have PM:=PR.size;refine⟨p.add C.heap.size #[.bool false,.nilIface],_,[C.heap.size],rfl,Pm.du PL PM,(PS.below Qe).add (T:=168) PL (by rw[Below.heap_alloc _ _ _ zs];exact(MapKept.heap_alloc C _).1),?_,PR.trans (Qe.mono PM),?_⟩
         ·rw[Qd.out]
          refine⟨?_,rfl,fun i hi QN=> ?_⟩
          ·have:=World.ownsRow_lit (base:=w.heap.size) (e:=164) (size:=1) (C.alloc (.cells #[.bool false,.nilIface] 168)) #[Xp C] 1 zp (by unfold maxLen;omega) rfl
           simpa using this
          ·have:i=0:=by simpa using hi
           subst this;show bh _ _ none _;unfold bh;simp[Pm.add]
         ·intro b hb o
          simp[Value.ownBlock]at hb;subst hb;rw[Pm.aQ _ _ _ zo];exact PS.kw.aF zo o
        |some tz,d,H=>
         have PQ:=zh (v.out.take d zs);have Qf:Hid (dS len (some tz)):=by
          rcases nP d with e|e
          ·rw[e];exact K.out
          ·rw[e];exact Qb.out
         clear d v;go_wp2_with fail
         refine H.out.mono ?_;rintro e1 C ⟨U,zz,PI,rfl⟩;have q:=zh U.below;have Qc:=U.size;obtain⟨dz,ez⟩:=tz;obtain⟨PN,zv,D,PT⟩:=PI;obtain⟨zt,QO,rfl⟩:=PT.val;have Qg:=L.out.below (m.out.trans (q.out.mono zo));have Qw:=Qg.kw _ _ _ D;have Qx:Hid (bh p g (some (dz,ez)) zz):=⟨PN,_,D,PT⟩
         have QP:=(r.out.of (q.out.block _ zo)).fz j y;have QQ:=(r.out.of (q.out.block _ zo)).us j y;clear U PN D PT Qg;go_wp2_with fail
         refine⟨⟨j+1,fun i=>if i=j then true else s i,some (dz,ez),zz,by omega,by omega,by go_num,rfl,Qx.out,Qf.out,?_,?_,?_,?_,fun i hi=> ?_,?_⟩,?_⟩
         ·exact(m.out.trans (q.out.mono zo)).setCell zl _
         ·have PJ:=r.out.of (q.out.block w.heap.size zo)
          refine⟨fun i hi=> ?_,fun i hi=> ?_⟩
          ·by_cases e:i=j
           ·subst e;simp[go_sem,PJ.us i hi,PJ.fz i hi]
           ·rw[World.cell?_setCell_other _ _ _ _ (by simp[e,Ne.symm e]),if_neg e];exact PJ.us i hi
          ·simpa [go_sem]using PJ.fz i hi
         ·simp[World.setCell];omega
         ·have PU:=x.out.below q.out
          exact⟨eC PU.own J.out _,PU.len,PU.cJ⟩
         ·show(if i=j then true else s i)=F i
          rw[if_neg zo];exact O.out i zo
         ·have e1:cV l (fun i=>if i=j then true else s i) (k+1) (j+1- (k+1))=cV l s (k+1) (j- (k+1)):=by
           have:=qX l (fun i=>if i=j then true else s i) (k+1) (j- (k+1));rw[show k+1+(j- (k+1))=j by omega,show j- (k+1)+1=j+1- (k+1) by omega]at this;rw[this,if_pos zs,List.append_nil];exact vE l fun i h1 h2=>if_neg zo
          have e2:cV l (fun i=>if i=j then true else s i) (j+1) (n- (j+1))=cV l s (j+1) (n- (j+1)):=vE l fun i h1 h2=>if_neg zo;rw[e1,e2];exact PQ.out
         ·first|omega|(simp[intOf];omega)
      ·rw[Q]at hv E G
       have v:Hid (dZ (l.getD k none) (cV l F (k+1) (n- (k+1))) z (cV l s (k+1) (j+1- (k+1))) (cV l s (j+1) (n- (j+1)))):=by have:=P.out;rw[E]at this;unfold Hid;rw[G];simpa using this
       clear E G P PG PH Q;go_wp2_with fail
       refine⟨⟨j+1,s,z,zb,by omega,by omega,by go_num,rfl,Z.out,K.out,m.out,r.out,P8,x.out,fun i hi=>O.out i zo,v.out⟩,?_⟩;first|omega|(simp[intOf];omega)
     ·have Qy:¬(j:Int)<n:=zo
      have Qz:j=n:=zo;subst Qz;have v:Hid (eO l (R++ [z]) (cV l s (k+1) (j- (k+1)))):=Y.out.step (dZ.done (by have:=P.out;rwa [Nat.sub_self,oC]at this));have S:=zh (x.out.own.alloc (.cells #[Xp zb] 164));go_wp2_with (first|(at_builtin;refine wpList_append_own_at _ rfl _ _ 136 rfl w.heap.size 164 i1 (.pointer none) 1 8 underlying136 hj Qo Qp Qq rfl zd _ _ _ rfl S.out (Xa wr 0) 1 1 [Xp zb] rfl rfl (TS.eD wr _ _) (TS.one_one rfl) ?c3 ?c4 ?c5 ?_)|fail)
      case c3=>unfold maxLen;omega
      case c4=>omega
      case c5=>have:=m.out.size;(try simp);omega
      intro v' C I PK _ Qh;obtain⟨a',c',rfl⟩:=a_ I;have QA:Hid (Below w w C):=((m.out.alloc m.out.size _).grown PK (by have:=m.out.size;(try simp);omega) fun b hb=>(x.out.own.lt b hb).1)
      have QB:Hid (Flags C w.heap.size j s):=(r.out.of (Below.heap_alloc wr (.cells #[Xp zb] 164) w.heap.size zo)).of (PK.block _ (by(try simp);omega) fun e=>J.out e.symm);have QC:Hid (cB p g w.heap.size C (.slice a' (rs.length+1) c') (rs++ [zb]) (R++ [z])):=x.out.more I Z.out;have Qi:Hid ((Value.slice a' (rs.length+1) c').ownBlock≠some w.heap.size):=by
       rcases Qh with e|e
       ·rw[e];exact J.out
       ·rw[e];intro h;injection h with h;(try simp at h);omega
      have Qj:w.heap.size<C.heap.size:=by have:=PK.size;(try simp at this);omega
      clear I PK Qh S;go_wp2_with fail
      refine⟨⟨k+1,s,rs++ [zb],R++ [z],by omega,by go_num,QA.out,QB.out,Qj,by simpa using QC.out,by simpa using Qi.out,by simp;omega,v.out⟩,?_⟩;first|omega|(simp[intOf];omega)
   ·rw[X]at hu u
    have Y:Hid (eO l R (cV l F (k+1) (n- (k+1)))):=by have:=V.out;rw[u]at this;exact this
    clear u X;go_wp2_with fail
    refine⟨⟨k+1,F,rs,R,by omega,by go_num,M.out,PO.out,PZ,N.out,J.out,by omega,Y.out⟩,?_⟩;first|omega|(simp[intOf];omega)
  ·have Qy:¬(k:Int)<n:=zo
   have QD:k=n:=zo;have hR:Hid (eh l=R):=eO.done (by have:=V.out;rwa [QD,Nat.sub_self,oC]at this);go_wp2_with fail
   go_ret;refine⟨p,_,rs,rfl,aN.refl _ _,L.out.below M.out,by rw[hR.out];exact N.out,M.out,fun b hb o=> ?_⟩;exact L.out.kw.aF (N.out.own.lt b hb).1 o
end Go.Proofs.YtkochlhejabdcaaGreatDoor
namespace TS
open Go Go.RowKit Go.Proofs.YtkochlhejabdcaaGreatDoor Go.Proofs.Tryz
def meets(xs a:List Tm):List Tm:=xs.flatMap fun x=>a.filterMap fun y=>cq x y
theorem Dd(xs a:List Tm)(x:Tm):meets (xs++ [x]) a=meets xs a++a.filterMap fun y=>cq x y:=by simp[meets]
theorem vG(xs a:List Tm):(meets xs a).length≤xs.length*a.length:=by
 induction xs with
 |nil=>simp[meets]
 |cons x r ih=>
  have:(meets (x::r) a).length=(a.filterMap fun y=>cq x y).length+(meets r a).length:=by simp[meets]
  have h1:=List.length_filterMap_le (fun y=>cq x y) a;rw[this,List.length_cons,Nat.succ_mul];omega
theorem ny{l:List Tm}{k:Nat}(h:k<l.length):l.take (k+1)=l.take k++ [l.getD k none]:=by
 have hm:l[k]?=some l[k]:=List.getElem?_eq_getElem h;rw[List.take_add_one,hm,List.getD_eq_getElem?_getD,hm];rfl
theorem De{xs a:List Tm}(h1:xs≠ [])(b:a≠ []):b8 xs a=eh (meets xs a):=by
 unfold b8 meets;have c:xs.isEmpty=false:=by cases xs with|nil=>exact absurd rfl h1|cons=>rfl
 have d:a.isEmpty=false:=by cases a with|nil=>exact absurd rfl b|cons=>rfl
 rw[c,d];simp
theorem Df{len:Nat}{xs a:List Tm}(h1:∀t∈xs,dS len t)(b:∀t∈a,dS len t):∀t∈meets xs a,dS len t:=fun t c=>(qq c).elim (h1 t) (b t)
end TS
namespace Go.Proofs.YtkochlhejabdcaaGreatDoor
open Go.RowKit TS Tryz
theorem mO{p:Pm}{g:Ge}{B:Nat}{w:World}{v:Value}{rs:List Nat}{R:List Tm}(l:aA p g w)(h:cB p g B w v rs R)(n:∀b,v.ownBlock=some b→∀o,p b o=none):
 ∃q a c,v= .slice a rs.length c∧aN p q B∧aA q g w∧bJ w a rs.length (fun i=>rs.getD i 0)∧cd q a rs.length (fun i=>ptr (rs.getD i 0))∧∀i(h:i<R.length),bh q g R[i] (rs.getD i 0):=by
 have j:∀{q:Pm},Sub p q→∀i(h:i<R.length),bh q g R[i] (rs.getD i 0):=fun hk i hi=>by
  have x:=h.len;have:=(h.cJ i hi zo).sub hk (aK.refl g);simpa [show i<rs.length by omega]using this
 rcases h.own.2 with⟨k,r⟩|⟨b,cap,cur,k,s,m,y,z,t,e⟩
 ·have u:rs.length=0:=r
  exact⟨p,none,0,by rw[k,u],aN.refl _ _,l,fun i hi=>by omega,fun i hi=>by omega,j (Sub.refl p)⟩
 ·have f:=n b (by rw[k];rfl)
  have d:∀i,i<rs.length→cur[i]?= .some (Xp (rs.getD i 0)):=fun i hi=>by
   have:(cur.toList.take (rs.length*1))[i]?= .some (Xp (rs.getD i 0)):=by rw[e];simp[hi]
   rw[List.getElem?_take,if_pos zo]at this;simpa using this
  refine⟨p.add b cur,.some (Xa b 0),cap,k,Pm.du f s,l.add f m,fun i hi=>⟨b,0,rfl,?_⟩,fun i hi=>⟨b,0,rfl,?_⟩,j (Pm.cK f)⟩
  ·simp[World.cell?,m,d i hi]
  ·rw[Pm.aU,Nat.zero_add];exact d i hi
theorem Dg(len:Nat)(p:Pm)(g:Ge)(a a':Option Addr)(n C c c':Nat)(f Y:Nat→Nat)(xs d:List Tm)(w:World)(hn:n=xs.length)(Z:C=d.length)(hl:n≤1048576)(Qk:C≤1048576)(hE:aA p g w)(hp:bJ w a n f)(Q:bJ w a' C Y)
 (ht:∀i(h:i<xs.length),bh p g xs[i] (f i))(PG:∀i(h:i<d.length),bh p g d[i] (Y i))(ok:∀t∈xs,dS len t)(R:∀t∈d,dS len t):
 Xk 195 #[.slice a n c,.slice a' C c'] w fun e w'=>
  ∃q v rs,e= .returned v∧aN p q w∧aA q g w'∧cB q g w.heap.size w' v rs (b8 xs d)∧Below w w w'∧∀b,v.ownBlock=some b→∀o,q b o=none:=by
 have x:=zh (ou a n c f w hp);have u:=zh (ou a' C c' Y w Q);have hq:=zh hp;have P5:=zh Q;have H:=zh hE;have hx:Hid (∀i,i<n→bh p g (xs.getD i none) (f i)∧dS len (xs.getD i none)):=fun i hi=>by
  have h:i<xs.length:=zo;have e:xs.getD i none=xs[i]:=by simp[h]
  rw[e];exact⟨ht i h,ok _ (zm h)⟩
 have hy:Hid (∀i,i<C→bh p g (d.getD i none) (Y i)∧dS len (d.getD i none)):=fun i hi=>by
  have h:i<d.length:=zo;have e:d.getD i none=d[i]:=by simp[h]
  rw[e];exact⟨PG i h,R _ (zm h)⟩
 have P6:=zh (Df ok R);have E:=zh hn;have z:=zh Z;obtain⟨i1,hj,P7,P8,P9⟩:=info_parts qJ;clear hp Q hE ht PG ok R hn Z;by_cases M:n=0
 ·have K:decide (n=0)=true:=by simp[M]
  have hm:Hid (b8 xs d= []):=by
   have:xs= []:=List.length_eq_zero_iff.1 (by rw[←E.out];exact M);subst this;simp[Hid,b8]
  rw[K]at x;clear M K;go_enter func195,ntmps195;go_wp2_with fail
  refine x.out.mono ?_;rintro e w1 ⟨rfl,rfl⟩;go_wp2_with fail
  go_ret;exact⟨p,_,[],rfl,aN.refl _ _,H.out,by rw[hm.out];exact⟨World.ownsRow_nil _ _ _ _,rfl,fun i h=>absurd h (Nat.not_lt_zero _)⟩,Below.refl _ _,fun b S=>by cases S⟩
 ·by_cases F:C=0
  ·have K:decide (n=0)=false:=by simp[M]
   have I:decide (C=0)=true:=by simp[F]
   have hm:Hid (b8 xs d= []):=by
    have:d= []:=List.length_eq_zero_iff.1 (by rw[←z.out];exact F);subst this;simp[Hid,b8]
   rw[K]at x;rw[I]at u;clear M K F I;go_enter func195,ntmps195;go_wp2_with fail
   refine x.out.mono ?_;rintro e w1 ⟨rfl,rfl⟩;go_wp2_with fail
   refine u.out.mono ?_;rintro e w1 ⟨rfl,rfl⟩;go_wp2_with fail
   go_ret;exact⟨p,_,[],rfl,aN.refl _ _,H.out,by rw[hm.out];exact⟨World.ownsRow_nil _ _ _ _,rfl,fun i h=>absurd h (Nat.not_lt_zero _)⟩,Below.refl _ _,fun b S=>by cases S⟩
  ·have K:decide (n=0)=false:=by simp[M]
   have I:decide (C=0)=false:=by simp[F]
   have hm:Hid (b8 xs d=eh (meets xs d)):=De (by intro e;apply M;rw[E.out,e];rfl) (by intro e;apply F;rw[z.out,e];rfl);rw[K]at x;rw[I]at u;clear M K F I;go_enter func195,ntmps195;go_wp2_with fail
   refine x.out.mono ?_;rintro e w1 ⟨rfl,rfl⟩;go_wp2_with fail
   refine u.out.mono ?_;rintro e w1 ⟨rfl,rfl⟩;go_wp2_with fail
   clear x u;go_loopw [19,5] (fun vi vr wr=> ∃(k:Nat)(rs:List Nat),k≤n∧vi= .int .i64 k∧Below w w wr∧cB p g w.heap.size wr vr rs (meets (xs.take k) d)) (fun vi _ _=>n- (intOf vi).toNat)
   case atStart=>exact⟨0,[],Nat.zero_le _,rfl,Below.refl _ _,⟨World.ownsRow_nil _ _ _ _,rfl,fun i h=>absurd h (Nat.not_lt_zero _)⟩⟩
   case round=>
    obtain⟨k,rs,hk,rfl,hB,hT⟩:=hrel;obtain⟨va,vc,rfl⟩:=a_ hT.own;have A:=zh hB;have T:=zh hT;clear hB hT;by_cases PH:k<n
    ·have Qj:(k:Int)<n:=zo
     obtain⟨ab,ao,rfl,PI⟩:=hq.out k PH;have hc:=az A.out PI;obtain⟨PJ,PK⟩:=hx.out k PH;have PL:=zh PJ;have PM:=zh PK;have P_:Hid (xs.take (k+1)=xs.take k++ [xs.getD k none]):=TS.ny (by have:=E.out;omega);clear PI PJ PK;obtain⟨wo,rfl⟩:∃wo:World,wo=wr:=⟨_,rfl⟩
     go_wp2_with fail
     go_loopw [25,5] (fun vj vr wr=> ∃(j:Nat)(rs:List Nat),j≤C∧vj= .int .i64 j∧Below w w wr∧cB p g w.heap.size wr vr rs (meets (xs.take k) d++(d.take j).filterMap fun y=>cq (xs.getD k none) y)) (fun vj _ _=>C- (intOf vj).toNat)
     case atStart=>exact⟨0,rs,Nat.zero_le _,rfl,A.out,by simpa using T.out⟩
     case round=>
      obtain⟨j,L,Ql,rfl,PN,U⟩:=hrel;obtain⟨Qm,Qn,rfl⟩:=a_ U.own;have m:=zh PN;have D:=zh U;clear PN U;by_cases N:j<C
      ·have Qa:(j:Int)<C:=zo
       obtain⟨Qo,Qp,rfl,PO⟩:=P5.out j N;have K:=az m.out PO;obtain⟨PQ,PR⟩:=hy.out j N;have hI:=zh (C6 len p g (f k) (Y j) (xs.getD k none) (d.getD j none) wr (H.out.below m.out) PL.out PQ PM.out PR);have O:Hid (d.take (j+1)=d.take j++ [d.getD j none]):=TS.ny (by have:=z.out;omega);have P:L.length≤1099511627776:=by
        have h1:=D.out.len;have h2:=vG (xs.take k) d;have h3:=List.length_filterMap_le (fun y=>cq (xs.getD k none) y) (d.take j);simp only[List.length_append,List.length_take]at h1 h2 h3;have h4:min k xs.length*d.length≤1048575*1048576:=Nat.mul_le_mul (by have:=E.out;omega) (by have:=z.out;omega);have:=z.out;omega
       clear PO PQ PR;cases G:cq (xs.getD k none) (d.getD j none)with
       |none=>
        have s:=hI.out;unfold mN at s;rw[G]at s;have V:=zh s;have hR:Hid (((d.take (j+1)).filterMap fun y=>cq (xs.getD k none) y)=(d.take j).filterMap fun y=>cq (xs.getD k none) y):=by unfold Hid;rw[O.out,List.filterMap_append];simp[-List.getD_eq_getElem?_getD,G]
        clear hI s G;go_wp2_with fail
        refine V.out.mono ?_;rintro e W ⟨X,rfl⟩;have r:=zh X.below;clear X;go_wp2_with fail
        refine⟨⟨j+1,L,by omega,by go_num,m.out.trans (r.out.mono m.out.size),by rw[hR.out];exact D.out.below r.out⟩,?_⟩;first|omega|(simp[intOf];omega)
       |some tz=>
        have s:=hI.out;unfold mN at s;rw[G]at s;have V:=zh s;have hR:Hid (((d.take (j+1)).filterMap fun y=>cq (xs.getD k none) y)=((d.take j).filterMap fun y=>cq (xs.getD k none) y)++ [tz]):=by unfold Hid;rw[O.out,List.filterMap_append];simp[-List.getD_eq_getElem?_getD,G]
        clear hI s G;go_wp2_with fail
        refine V.out.mono ?_;rintro e W ⟨X,zb,PS,rfl⟩;have r:=zh (m.out.trans (X.below.mono m.out.size));have l:=zh (D.out.below X.below);have PT:=zh PS;have J:=zh (l.out.own.alloc (.cells #[Xp zb] 164));clear X PS;go_wp2_with (first|(at_builtin;refine wpList_append_own_at _ rfl _ _ 136 rfl w.heap.size 164 i1 (.pointer none) 1 8 underlying136 hj P7 P8 P9 rfl zd _ _ _ rfl J.out (Xa W 0) 1 1 [Xp zb] rfl rfl (TS.eD W _ _) (TS.one_one rfl) ?c3 ?c4 ?c5 ?_)|fail)
        case c3=>unfold maxLen;omega
        case c4=>omega
        case c5=>have:=r.out.size;(try simp);omega
        intro v' w3 B PU _ Qb;obtain⟨a3,c3,rfl⟩:=a_ B;have Qc:Hid (Below w w w3):=((r.out.alloc r.out.size _).grown PU (by have:=r.out.size;(try simp);omega) fun b S=>(l.out.own.lt b S).1)
        have Qd:=zh (l.out.more B PT.out);clear B PU Qb J;go_wp2_with fail
        refine⟨⟨j+1,L++ [zb],by omega,by go_num,Qc.out,by rw[hR.out,←List.append_assoc];simpa using Qd.out⟩,?_⟩;first|omega|(simp[intOf];omega)
      ·have Qe:¬(j:Int)<C:=zo
       have Qf:Hid (d.take j=d):=List.take_of_length_le (by have:=z.out;omega);go_wp2_with fail
       refine⟨⟨k+1,L,by omega,by go_num,m.out,?_⟩,?_⟩
       ·have:=D.out
        rw[Qf.out]at this;rw[P_.out,Dd];exact this
       ·first|omega|(simp[intOf];omega)
    ·have Qe:¬(k:Int)<n:=zo
     have Qg:Hid (xs.take k=xs):=List.take_of_length_le (by have:=E.out;omega);have l:=T.out;rw[Qg.out]at l;obtain⟨q,a3,c3,e3,PW,PX,PY,Qh,PZ⟩:=mO (H.out.below A.out) l fun b S o=>H.out.kw.aF (l.own.lt b S).1 o;have P:rs.length≤1099511627776:=by
      have h1:=l.len;have h2:=vG xs d;have h4:xs.length*d.length≤1048576*1048576:=Nat.mul_le_mul (by have:=E.out;omega) (by have:=z.out;omega);omega
     obtain⟨rfl,rfl⟩:va=a3∧vc=c3:=by cases e3;exact⟨rfl,rfl⟩
     have P0:=zh (vF len q g va rs.length vc (fun i=>rs.getD i 0) (meets xs d) wr l.len P PX PY PZ P6.out);have P1:=zh PW;clear l PX PY Qh PZ e3 PW T;go_wp2_with fail
     refine P0.out.mono ?_;rintro e W ⟨q2,v2,Qi,rfl,P2,P3,l,r,P4⟩;have hR:Hid (∃q v rs,Ending.returned v2= .returned v∧aN p q w∧aA q g W∧cB q g w.heap.size W v rs (b8 xs d)∧Below w w W∧∀b,v.ownBlock=some b→∀o,q b o=none):=
      ⟨q2,v2,Qi,rfl,P1.out.trans P2 A.out.size,P3,by rw[hm.out];exact⟨jr l.own A.out.size,l.len,l.cJ⟩,A.out.trans (r.mono A.out.size),P4⟩
     clear P2 P3 l r P4 P0;go_wp2_with fail
     go_ret;exact hR.out
end Go.Proofs.YtkochlhejabdcaaGreatDoor
namespace TS
open Go Go.RowKit Go.Proofs.YtkochlhejabdcaaGreatDoor Go.Proofs.Tryz
inductive ek (len:Nat):U→Prop
 |mk {u:U}:Vt len u→Vt len (under u)→((bare u).k=11→∃y,(bare u).un= [y]∧y.k≠16)→(under u).k≠2→(under u).k≠14→(under u).k≠11→(under u).k≠15→(under u).k≠16→(∀e∈(under u).es,((under u).k=3∨(under u).k=5)→ek len e)→ek len u
theorem Dh{P:Program}{w c:World}{X:Nat→Prop}(h:Kept X w c)(d:∀b,X b→¬Plain w b){v:Value}(f:fG P w v):fG P c v:=by
 obtain⟨t,g,b,i,j,e,h1,k,l,m,n,cs,T,a⟩:=f;refine⟨t,g,b,i,j,e,h1,k,l,m,n,cs,T,?_⟩;rw[h.block b (Array.getElem?_eq_some_iff.1 a).1 fun o=>d b o ⟨cs,T,a⟩];exact a
theorem aA.kept{p:Pm}{g:Ge}{w a:World}{X:Nat→Prop}(h:aA p g w)(k:Kept X w a)(c:∀b,X b→¬Plain w b)(d:¬X 5):aA p g a:=
 h.own k (fun b e o=>by
  cases f:p b o with
  |none=>rfl
  |some v=>exact absurd (h.pl _ _ _ f) (c b e)) d
end TS
namespace Go.Proofs.YtkochlhejabdcaaGreatDoor
open Go.RowKit TS Tryz
theorem cg:KeyLaw Tryz.prog 49 (fG Tryz.prog):=BW underlying49
theorem dT{t b:Nat}{w:World}(h:cf t)(a:Plain w b):fG Tryz.prog w (Xi t b):=by
 obtain⟨c,i,j,h1,d,e,f,g⟩:=h;exact⟨t,c,b,i,j,rfl,h1,d,e,f,g,a⟩
theorem dU(w:World):(zeroValue 4).run Tryz.prog w= .ok (.bool false) w:=zk
theorem Di{p:Pm}{g:Ge}{u:U}{len:Nat}(x:Value)(w:World)(hw:KW p w)(hu:Vt len u)(m:TS.Node p g u x):Xk 149 #[x] w fun e n=>e= .returned (.bool false)∧w=n:=by
 obtain⟨b,d,f,o⟩:=hu.strip m;obtain⟨r,s,rfl⟩:=m.val;have q:=zh (ov _ b _ p f o w hw);obtain⟨aa,i,a,_⟩:=hu.bare;have c:=(d.tag i a).2;have j:bu (bare u).k≠220:=by
  have l:=aa.aD;rcases mJ c.1 c.2 i l.1 l.2 a with h|h|h|h|h|h|h|h|h|h
  all_goals first|(rw[h];decide)|(rcases h with h|h|h<;>rw[h]<;>decide)
 generalize bu (bare u).k=t at*;have h1:=ak qD t b j;clear d f o m hu hw c j;go_enter func149,ntmps149;go_wp2_with fail
 refine q.out.mono ?_;rintro e n ⟨rfl,rfl⟩;go_wp2_with fail
 go_ret;exact⟨rfl,rfl⟩
theorem vH(a:Option Addr)(n c:Nat)(w:World):Xk 178 #[.string ByteArray.empty,.slice a n c] w fun e b=>(∃o,e= .returned (.pointer (some o)))∧Below w w b:=by
 go_enter func178,ntmps178;go_wp2_with fail
 go_ret;exact⟨⟨_,rfl⟩,zB.alloc zl _⟩
theorem lv(s:ByteArray)(b:(s.toList== [])=false)(a:Option Addr)(n c:Nat)(w:World):Xk 178 #[.string s,.slice a n c] w fun e d=>(∃o,e= .returned (.pointer (some o)))∧Below w w d:=by
 have f:(s.toList= [])=False:=by simpa using b
 go_enter func178,ntmps178;go_wp2_with fail
 go_ret;exact⟨⟨_,rfl⟩,zB.alloc zl _⟩
theorem vI(tb n c:Nat)(a:Option Addr)(f:Nat→Nat)(r:Bool)(w:World)(g:Xc w tb 2 (.slice a n c))(k:Xc w tb 3 (.bool r))(b:bJ w a n f)(h:0<n)(h1:Xc w (f 0) 1 .nilIface)(m:Option Nat):
 Xk 74 #[Xp tb,.map m] w fun e d=>e= .returned (.bool r)∧Below w w d:=by
 have hk:=aB.alloc w (.cells #[.map m] 162);have i:=zh (qR a n c f _ (b.dD hk) h (hk.cell h1));have j:=zb g;clear b h1 hk;go_enter func74,ntmps74;go_wp2_with fail
 refine i.out.mono ?_;rintro e d ⟨rfl,rfl⟩;go_wp2_with fail
 go_ret;exact⟨rfl,zB.alloc zl _⟩
theorem vJ(tb n c:Nat)(a:Option Addr)(f:Nat→Nat)(w:World)(h:Xc w tb 2 (.slice a n c))(b:bJ w a n f):
 Xk 179 #[Xp tb] w fun e d=>e= .returned (.bool (decide (n=0)))∧w=d:=by
 have g:=zh (ou a n c f _ b);clear b;go_enter func179,ntmps179;go_wp2_with fail
 refine g.out.mono ?_;rintro e d ⟨rfl,rfl⟩;go_wp2_with fail
 go_ret;exact⟨rfl,rfl⟩
end Go.Proofs.YtkochlhejabdcaaGreatDoor
