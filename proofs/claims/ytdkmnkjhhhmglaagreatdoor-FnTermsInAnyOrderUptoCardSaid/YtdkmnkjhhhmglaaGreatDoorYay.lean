import Derived.Test.YtdkmnkjhhhmglaaGreatDoorYaw
import Derived.Test.YtdkmnkjhhhmglaaGreatDoorYax
set_option maxRecDepth 100000
set_option maxHeartbeats 8000000
set_option linter.all false
namespace TS
open Go Go.RowKit Go.Proofs.YtdkmnkjhhhmglaaGreatDoor
theorem Plain.below{w a:World}{b:Nat}(h:Plain w b)(k:Below w.heap.size w a):Plain a b:=by
 obtain⟨cs,T,c⟩:=h;exact⟨cs,T,by rw[k.block b (Array.getElem?_eq_some_iff.1 c).1];exact c⟩
theorem ar{w b:World}(k:Below w.heap.size w b){a:Addr}{v:Value}(h:w.cell? a=some v):b.cell? a=some v:=by
 rw[k.cell (World.block_lt_of_cell? _ _ h)];exact h
theorem br.below{w a:World}(h:br w)(k:Below w.heap.size w a):br a:=fun c h1 h2=>ar k (h c h1 h2)
theorem aw.below{p:Pm}{g:Ge}{w a:World}(h:aw p g w)(k:Below w.heap.size w a):aw p g a:=
 ⟨h.kw.grown k,fun b o v c=>(h.pl b o v c).below k,h.inj,h.cap.below k,h.done,h.po,h.cH,h.cI⟩
abbrev pv(b:Nat):Value:= .pointer (some ⟨b,0,none⟩)
structure cD(p:Pm)(g:Ge)(B:Nat)(wr:World)(v:Value)(rs:List Nat)(R:List Tm):Prop where
 own:wr.ownsRow B 218 1 v rs.length (rs.map pv)
 len:rs.length=R.length
 cM:∀i(h:i<R.length)(a:i<rs.length),aY p g R[i] rs[i]
theorem cD.below{p:Pm}{g:Ge}{B:Nat}{wr a:World}{v:Value}{rs:List Nat}{R:List Tm}(h:cD p g B wr v rs R)(k:Below wr.heap.size wr a):cD p g B a v rs R:=
 ⟨bO h.own k,h.len,h.cM⟩
theorem cD.sub{p q:Pm}{g b:Ge}{B:Nat}{wr:World}{v:Value}{rs:List Nat}{R:List Tm}(h:cD p g B wr v rs R)(hk:Sub p q)(c:aH g b):cD q b B wr v rs R:=
 ⟨h.own,h.len,fun i hi a=>(h.cM i hi a).sub hk c⟩
theorem cD.more{p:Pm}{g:Ge}{B:Nat}{wr d:World}{v e:Value}{rs:List Nat}{R:List Tm}{z:Tm}{b:Nat}(h:cD p g B wr v rs R)(j:d.ownsRow B 218 1 e (rs.length+1) (rs.map pv++ [pv b]))(k:aY p g z b):cD p g B d e (rs++ [b]) (R++ [z]) where
 own:=by simpa using j
 len:=by simp[h.len]
 cM:=fun i hi c=>by
  have f:=h.len;simp only[List.length_append,List.length_cons,List.length_nil]at hi c;by_cases a:i<R.length
  ·rw[List.getElem_append_left a,List.getElem_append_left (by omega)];exact h.cM i a (by omega)
  ·have l:i=R.length:=by omega
   subst l;simp[←f];simpa [f]using k
theorem aw.add{p:Pm}{g:Ge}{w:World}{b:Nat}{cs:Array Value}{T:TypeId}(h:aw p g w)(a:∀o,p b o=none)(c:w.heap[b]?=some (.cells cs T (0,0))):aw (p.add b cs) g w where
 kw:=h.kw.add fun o u hu=>by simp[World.cell?,c,hu]
 pl:=fun d o v f=>by
  by_cases e:d=b
  ·subst e;exact⟨cs,T,c⟩
  ·rw[Pm.aO _ _ _ e]at f;exact h.pl _ _ _ f
 inj:=h.inj
 cap:=h.cap
 done:=fun d u hu=>⟨Pm.dj a _ _ _ (h.done _ _ hu).1,(h.done _ _ hu).2.sub (Pm.dj a) (aH.refl g)⟩
 po:=fun i hi=>let⟨o,v,e⟩:=h.po i hi;⟨o,v,Pm.dj a _ _ _ e⟩
 cH:=let⟨o,v,e⟩:=h.cH;⟨o,v,Pm.dj a _ _ _ e⟩
 cI:=let⟨o,v,e⟩:=h.cI;⟨o,v,Pm.dj a _ _ _ e⟩
theorem aw.own{p:Pm}{g:Ge}{w e:World}{X:Nat→Prop}(h:aw p g w)(k:Kept X w e)(f:∀b,X b→∀o,p b o=none)(j:¬X 5):aw p g e where
 kw:=h.kw.kept k fun b o v a d=>by rw[f b d o]at a;cases a
 pl:=fun b o v a=>by
  obtain⟨cs,T,i⟩:=h.pl b o v a;exact⟨cs,T,by rw[k.block b (Array.getElem?_eq_some_iff.1 i).1 fun d=>by rw[f b d o]at a;cases a];exact i⟩
 inj:=h.inj
 cap:=fun c h1 h2=>by
  have:=h.cap c h1 h2;rw[k.cell (World.block_lt_of_cell? _ _ this) j];exact this
 done:=h.done
 po:=h.po
 cH:=h.cH
 cI:=h.cI
structure Flags(wr:World)(a n:Nat)(F:Nat→Bool):Prop where
 us:∀j,j<n→wr.cell? ⟨a,j,none⟩=some (.bool (F j))
 fz:∀j,j<n→wr.frozen? ⟨a,j,none⟩=false
theorem Flags.of{wr d:World}{b n:Nat}{F:Nat→Bool}(h:Flags wr b n F)(e:d.heap[b]?=wr.heap[b]?):Flags d b n F:=
 ⟨fun j c=>(World.cell?_of_block (w:=wr) (a:=⟨b,j,none⟩) e).trans (h.us j c),fun j c=>(World.frozen?_of_block (w:=wr) (a:=⟨b,j,none⟩) e).trans (h.fz j c)⟩
end TS
namespace Go.Proofs.YtdkmnkjhhhmglaaGreatDoor
open Go.RowKit TS
theorem Dk:(Tryz.prog.info? 4).map (fun i=>(i.zero,i.size,i.bytes))=some (some (.bool false),1,1):=by kernel_rfl
def Dm(p:Pm)(g:Ge)(c:List Tm)(w:World)(e:Ending)(a:World):Prop:=
 ∃q v rs,e= .returned v∧aP p q w.heap.size∧aw q g a∧cD q g w.heap.size a v rs (bk c)∧Below w.heap.size w a∧∀b,v.ownBlock=some b→∀o,q b o=none
theorem vV(len:Nat)(p:Pm)(g:Ge)(a:Option Addr)(n c:Nat)(f:Nat→Nat)(l:List Tm)(w:World)(hn:n=l.length)(hl:n≤1099511627776)(hE:aw p g w)(hp:bw w a n f)(ht:∀i(h:i<l.length),aY p g l[i] (f i))(ok:∀t∈l,cJ len t):
 Calls Tryz.prog 187 #[.slice a n c] w (Dm p g l w):=by
 have P2:=Lib.hid hp;have L:=Lib.hid hE;have P3:Hid (∀i,i<n→aY p g (l.getD i none) (f i)∧cJ len (l.getD i none)):=fun i hi=>by
  have h:i<l.length:=by omega
  have e:l.getD i none=l[i]:=by simp[h]
  rw[e];exact⟨ht i h,ok _ (List.getElem_mem h)⟩
 have Qq:=Lib.hid hn;obtain⟨i0,hi,Qr,Qs,Qt⟩:=info_parts Dk;obtain⟨i1,hj,Qu,Qv,Qw⟩:=info_parts qR;clear hp hE ht ok hn;go_enter Tryz.func187,Tryz.ntmps187;go_wp2_with (first|(at_make;refine wpList_make_full _ rfl _ _ 303 rfl w.heap.size 4 i0 (.bool false) 1 Tryz.underlying303 hi Qr Qs .i64 .i64 _ _ n rfl rfl rfl rfl (by rw[Qt];omega) (by unfold maxLen;omega) (Nat.le_refl _) ?_;intro w1 A P4)|fail)
 have Qx:Hid (Below w.heap.size w w1):=(Below.refl w.heap.size w).grown P4 (Nat.le_refl _) fun k hk=>by cases hk
 have Qy:Hid (Flags w1 w.heap.size n fun _=>false):=by
  refine⟨fun j hj=> ?_,fun j _=>A.frozenAt j⟩;have:=A.cells (g:=w.heap.size) rfl j (.bool false) (by simp[madeCells,Value.cells,hj,Nat.mod_one]);rwa [show(⟨w.heap.size,0,none⟩:Addr).add j=⟨w.heap.size,j,none⟩ by unfold Addr.add;split<;>simp_all]at this
 have D:w.heap.size<w1.heap.size:=(A.lt w.heap.size rfl).2;clear A P4;go_loopw [16,4] (fun vi vr wr=> ∃(k:Nat)(F:Nat→Bool)(rs:List Nat)(R:List Tm),k≤n∧vi= .int .i64 k∧Below w.heap.size w wr∧Flags wr w.heap.size n F∧w.heap.size<wr.heap.size∧cD p g w.heap.size wr vr rs R∧vr.ownBlock≠some w.heap.size∧rs.length≤k∧eP l R (cU l F k (n- k))) (fun vi _ _=>n- (intOf vi).toNat)
 case atStart=>
  refine⟨0,fun _=>false,[],[],Nat.zero_le _,rfl,Qx.out,Qy.out,D,⟨World.ownsRow_nil _ _ _ _,rfl,fun i h=>absurd h (Nat.not_lt_zero _)⟩,by simp[Value.ownBlock],Nat.le_refl _,?_⟩;rw[Qq.out,Nat.sub_zero,Dh];exact Dj l
 case round=>
  obtain⟨k,F,rs,R,hk,rfl,hB,hF,P5,hT,P6,QN,hN⟩:=hrel;have M:=Lib.hid hB;have PW:=Lib.hid hF;have N:=Lib.hid hT;have J:=Lib.hid P6;have W:=Lib.hid hN;clear hB hF hT P6 hN;obtain⟨va,vc,rfl⟩:=bn N.out.own;by_cases X:k<n
  ·have QK:(k:Int)<n:=by omega
   obtain⟨ab,ao,rfl,Qz⟩:=P2.out k X;have hc:=ar M.out Qz;have hu:=PW.out.us k X;have u:=oZ l F k (n- (k+1));rw[show n- (k+1)+1=n- k by omega]at u;cases Y:F k
   ·rw[Y]at hu u
    have Z:Hid (eP l R (l.getD k none::cU l F (k+1) (n- (k+1)))):=by have:=W.out;rw[u]at this;exact this
    clear u Y W;obtain⟨wo,rfl⟩:∃wo:World,wo=wr:=⟨_,rfl⟩
    obtain⟨P7,P8⟩:=P3.out k X;have P9:=Lib.hid P7;have P_:=Lib.hid P8;clear P7 P8;go_wp2_with fail
    go_loopw [7,6] (fun vj vx wx=> ∃(j:Nat)(s:Nat→Bool)(z:Tm)(O:Nat),k+1≤j∧j≤n∧vj= .int .i64 j∧vx= .pointer (some ⟨O,0,none⟩)∧aY p g z O∧cJ len z∧Below w.heap.size w wx∧Flags wx w.heap.size n s∧w.heap.size<wx.heap.size∧cD p g w.heap.size wx (.slice va rs.length vc) rs R∧(∀i,j≤i→s i=F i)∧
     dT (l.getD k none) (cU l F (k+1) (n- (k+1))) z (cU l s (k+1) (j- (k+1))) (cU l s j (n- j))) (fun vj _ _=>n- (intOf vj).toNat)
    case atStart=>exact⟨k+1,F,_,f k,Nat.le_refl _,X,by go_num,rfl,P9.out,P_.out,M.out,PW.out,P5,N.out,fun _ _=>rfl,by rw[Nat.sub_self,oY];exact Di _ _⟩
    case round=>
     obtain⟨j,s,z,O,QO,QP,rfl,rfl,hz,Qa,Qb,Qc,Qd,Qe,Qf,hS⟩:=hrel;have PM:=Lib.hid hz;have K:=Lib.hid Qa;have m:=Lib.hid Qb;have r:=Lib.hid Qc;have x:=Lib.hid Qe;have P:=Lib.hid Qf;have Q:=Lib.hid hS;clear hz Qa Qb Qc Qe Qf hS;by_cases y:j<n
     ·have QA:(j:Int)<n:=by omega
      obtain⟨QQ,QR,e0,QB⟩:=P2.out j y;cases e0;have hd:=ar m.out QB;have hv:=r.out.us j y;have QS:=r.out.fz j y;have E:=oZ l s j (n- (j+1));have G:=q_ l s (k+1) (j- (k+1));rw[show n- (j+1)+1=n- j by omega]at E;rw[show k+1+(j- (k+1))=j by omega,show j- (k+1)+1=j+1- (k+1) by omega]at G;obtain⟨PN,PO⟩:=P3.out j y;cases S:s j
      ·rw[S]at hv E G
       have v:Hid (dT (l.getD k none) (cU l F (k+1) (n- (k+1))) z (cU l s (k+1) (j- (k+1))) (l.getD j none::cU l s (j+1) (n- (j+1)))):=by have:=Q.out;rw[E]at this;exact this
       have Qg:=Lib.hid G;have hU:=Lib.hid (Df len p g O (f j) z (l.getD j none) wr (L.out.below m.out) PM.out PN K.out PO);have QL:=Lib.hid PN;have Qh:=Lib.hid PO;have QM:=Lib.hid S;clear E G Q PN PO S;cases d:cz z (l.getD j none)with
       |none=>
        have PX:=Lib.hid (v.out.iZ d);have B:=hU.out;unfold mZ at B;rw[d]at B;have H:=Lib.hid B;clear hU B d v;go_wp2_with fail
        refine H.out.mono ?_;rintro e1 C ⟨V,rfl⟩;have q:=Lib.hid V.below;have Qi:=V.size;clear V;go_wp2_with fail
        refine⟨⟨j+1,s,z,O,by omega,by omega,by go_num,rfl,PM.out,K.out,m.out.trans (q.out.mono (by omega)),r.out.of (q.out.block _ (by omega)),by omega,x.out.below q.out,fun i hi=>P.out i (by omega),?_⟩,?_⟩
        ·rw[Qg.out];exact PX.out
        ·first|omega|(simp[intOf];omega)
       |some tz=>
        have B:=hU.out;unfold mZ at B;rw[d]at B;have H:=Lib.hid B;clear hU B;match tz,d,H with
        |none,d,H=>
         have Qj:=Lib.hid (Z.out.all (v.out.all d));clear d v;go_wp2_with fail
         refine H.out.mono ?_;rintro e1 C ⟨V,zz,PQ,rfl⟩;have q:=Lib.hid V.below;have QC:=(L.out.below (m.out.trans (q.out.mono (by omega)))).kw _ _ _ PQ;clear V PQ;go_wp2_with fail
         refine(mO _).mono ?_;rintro e1 w3 ⟨rfl,rfl⟩;go_wp2_with fail
         go_ret;have PY:Below w.heap.size w C:=m.out.trans (q.out.mono (by omega));have PZ:=L.out.below PY;have Qk:Below C.heap.size C ((C.alloc (.cells #[.bool false,.nilIface] 220)).alloc (.cells #[.pointer (some ⟨C.heap.size,0,none⟩)] 218)):=((Below.refl _ _).alloc (Nat.le_refl _) _).alloc (by simp) _;have PT:∀o,p C.heap.size o=none:=fun o=>PZ.kw.aJ (Nat.le_refl _) o;have PU:=PY.size;refine⟨p.add C.heap.size #[.bool false,.nilIface],_,[C.heap.size],rfl,Pm.dC PT PU,(PZ.below Qk).add (T:=220) PT (by rw[Below.heap_alloc _ _ _ (by simp)];exact(MapKept.heap_alloc C _).1),?_,PY.trans (Qk.mono PU),?_⟩
         ·rw[Qj.out]
          refine⟨?_,rfl,fun i hi QT=> ?_⟩
          ·have:=World.ownsRow_lit (base:=w.heap.size) (e:=218) (size:=1) (C.alloc (.cells #[.bool false,.nilIface] 220)) #[.pointer (some ⟨C.heap.size,0,none⟩)] 1 (by simp;omega) (by unfold maxLen;omega) rfl
           simpa using this
          ·have:i=0:=by simpa using hi
           subst this;show aY _ _ none _;unfold aY;simp[Pm.add]
         ·intro b hb o
          simp[Value.ownBlock]at hb;subst hb;rw[Pm.aO _ _ _ (by omega)];exact PZ.kw.aJ (by omega) o
        |some tz,d,H=>
         have PX:=Lib.hid (v.out.take d (by simp));have Ql:Hid (cJ len (some tz)):=by
          rcases mF d with e|e
          ·rw[e];exact K.out
          ·rw[e];exact Qh.out
         clear d v;go_wp2_with fail
         refine H.out.mono ?_;rintro e1 C ⟨V,zz,PQ,rfl⟩;have q:=Lib.hid V.below;have Qi:=V.size;obtain⟨dz,ez⟩:=tz;obtain⟨PV,zv,D,P0⟩:=PQ;obtain⟨zt,QU,rfl⟩:=P0.val;have Qm:=L.out.below (m.out.trans (q.out.mono (by omega)));have QC:=Qm.kw _ _ _ D;have QD:Hid (aY p g (some (dz,ez)) zz):=⟨PV,_,D,P0⟩
         have QV:=(r.out.of (q.out.block _ (by omega))).fz j y;have QW:=(r.out.of (q.out.block _ (by omega))).us j y;clear V PV D P0 Qm;go_wp2_with fail
         refine⟨⟨j+1,fun i=>if i=j then true else s i,some (dz,ez),zz,by omega,by omega,by go_num,rfl,QD.out,Ql.out,?_,?_,?_,?_,fun i hi=> ?_,?_⟩,?_⟩
         ·exact(m.out.trans (q.out.mono (by omega))).setCell (Nat.le_refl _) _
         ·have PR:=r.out.of (q.out.block w.heap.size (by omega))
          refine⟨fun i hi=> ?_,fun i hi=> ?_⟩
          ·by_cases e:i=j
           ·subst e;simp[go_sem,PR.us i hi,PR.fz i hi]
           ·rw[World.cell?_setCell_other _ _ _ _ (by simp[e,Ne.symm e]),if_neg e];exact PR.us i hi
          ·simpa [go_sem]using PR.fz i hi
         ·simp[World.setCell];omega
         ·have P1:=x.out.below q.out
          exact⟨fI P1.own J.out _,P1.len,P1.cM⟩
         ·show(if i=j then true else s i)=F i
          rw[if_neg (by omega)];exact P.out i (by omega)
         ·have e1:cU l (fun i=>if i=j then true else s i) (k+1) (j+1- (k+1))=cU l s (k+1) (j- (k+1)):=by
           have:=q_ l (fun i=>if i=j then true else s i) (k+1) (j- (k+1));rw[show k+1+(j- (k+1))=j by omega,show j- (k+1)+1=j+1- (k+1) by omega]at this;rw[this,if_pos (by simp),List.append_nil];exact vU l fun i h1 h2=>if_neg (by omega)
          have e2:cU l (fun i=>if i=j then true else s i) (j+1) (n- (j+1))=cU l s (j+1) (n- (j+1)):=vU l fun i h1 h2=>if_neg (by omega);rw[e1,e2];exact PX.out
         ·first|omega|(simp[intOf];omega)
      ·rw[S]at hv E G
       have v:Hid (dT (l.getD k none) (cU l F (k+1) (n- (k+1))) z (cU l s (k+1) (j+1- (k+1))) (cU l s (j+1) (n- (j+1)))):=by have:=Q.out;rw[E]at this;unfold Hid;rw[G];simpa using this
       clear E G Q PN PO S;go_wp2_with fail
       refine⟨⟨j+1,s,z,O,by omega,by omega,by go_num,rfl,PM.out,K.out,m.out,r.out,Qd,x.out,fun i hi=>P.out i (by omega),v.out⟩,?_⟩;first|omega|(simp[intOf];omega)
     ·have QE:¬(j:Int)<n:=by omega
      have QF:j=n:=by omega
      subst QF;have v:Hid (eP l (R++ [z]) (cU l s (k+1) (j- (k+1)))):=Z.out.step (dT.done (by have:=Q.out;rwa [Nat.sub_self,oY]at this));have U:=Lib.hid (x.out.own.alloc (.cells #[.pointer (some ⟨O,0,none⟩)] 218));go_wp2_with (first|(at_builtin;refine wpList_append_own_at _ rfl _ _ 130 rfl w.heap.size 218 i1 (.pointer none) 1 8 Tryz.underlying130 hj Qu Qv Qw rfl (by decide) _ _ _ rfl U.out ⟨wr.heap.size,0,none⟩ 1 1 [.pointer (some ⟨O,0,none⟩)] rfl rfl (TS.eD wr _ _) (TS.one_one rfl) ?c3 ?c4 ?c5 ?_)|fail)
      case c3=>unfold maxLen;omega
      case c4=>omega
      case c5=>have:=m.out.size;(try simp);omega
      intro v' C I PS _ Qn;obtain⟨a',c',rfl⟩:=bn I;have QG:Hid (Below w.heap.size w C):=((m.out.alloc m.out.size _).grown PS (by have:=m.out.size;(try simp);omega) fun b hb=>(x.out.own.lt b hb).1)
      have QH:Hid (Flags C w.heap.size j s):=(r.out.of (Below.heap_alloc wr (.cells #[.pointer (some ⟨O,0,none⟩)] 218) w.heap.size (by omega))).of (PS.block _ (by(try simp);omega) fun e=>J.out e.symm);have QI:Hid (cD p g w.heap.size C (.slice a' (rs.length+1) c') (rs++ [O]) (R++ [z])):=x.out.more I PM.out;have Qo:Hid ((Value.slice a' (rs.length+1) c').ownBlock≠some w.heap.size):=by
       rcases Qn with e|e
       ·rw[e];exact J.out
       ·rw[e];intro h;injection h with h;(try simp at h);omega
      have Qp:w.heap.size<C.heap.size:=by have:=PS.size;(try simp at this);omega
      clear I PS Qn U;go_wp2_with fail
      refine⟨⟨k+1,s,rs++ [O],R++ [z],by omega,by go_num,QG.out,QH.out,Qp,by simpa using QI.out,by simpa using Qo.out,by simp;omega,v.out⟩,?_⟩;first|omega|(simp[intOf];omega)
   ·rw[Y]at hu u
    have Z:Hid (eP l R (cU l F (k+1) (n- (k+1)))):=by have:=W.out;rw[u]at this;exact this
    clear u Y;go_wp2_with fail
    refine⟨⟨k+1,F,rs,R,by omega,by go_num,M.out,PW.out,P5,N.out,J.out,by omega,Z.out⟩,?_⟩;first|omega|(simp[intOf];omega)
  ·have QE:¬(k:Int)<n:=by omega
   have QJ:k=n:=by omega
   have hR:Hid (bk l=R):=eP.done (by have:=W.out;rwa [QJ,Nat.sub_self,oY]at this);go_wp2_with fail
   go_ret;refine⟨p,_,rs,rfl,aP.refl _ _,L.out.below M.out,by rw[hR.out];exact N.out,M.out,fun b hb o=> ?_⟩;exact L.out.kw.aJ (N.out.own.lt b hb).1 o
end Go.Proofs.YtdkmnkjhhhmglaaGreatDoor
namespace TS
open Go Go.RowKit Go.Proofs.YtdkmnkjhhhmglaaGreatDoor
def meets(xs a:List Tm):List Tm:=xs.flatMap fun x=>a.filterMap fun y=>bP x y
theorem Dp(xs a:List Tm)(x:Tm):meets (xs++ [x]) a=meets xs a++a.filterMap fun y=>bP x y:=by simp[meets]
theorem vW(xs a:List Tm):(meets xs a).length≤xs.length*a.length:=by
 induction xs with
 |nil=>simp[meets]
 |cons x r ih=>
  have:(meets (x::r) a).length=(a.filterMap fun y=>bP x y).length+(meets r a).length:=by simp[meets]
  have h1:=List.length_filterMap_le (fun y=>bP x y) a;rw[this,List.length_cons,Nat.succ_mul];omega
theorem od{l:List Tm}{k:Nat}(h:k<l.length):l.take (k+1)=l.take k++ [l.getD k none]:=by
 have hm:l[k]?=some l[k]:=List.getElem?_eq_getElem h;rw[List.take_add_one,hm,List.getD_eq_getElem?_getD,hm];rfl
theorem Dq{xs a:List Tm}(h1:xs≠ [])(h2:a≠ []):bc xs a=bk (meets xs a):=by
 unfold bc meets;have b:xs.isEmpty=false:=by cases xs with|nil=>exact absurd rfl h1|cons=>rfl
 have c:a.isEmpty=false:=by cases a with|nil=>exact absurd rfl h2|cons=>rfl
 rw[b,c];simp
theorem Dr{len:Nat}{xs a:List Tm}(h1:∀t∈xs,cJ len t)(h2:∀t∈a,cJ len t):∀t∈meets xs a,cJ len t:=fun t b=>(ln b).elim (h1 t) (h2 t)
end TS
namespace Go.Proofs.YtdkmnkjhhhmglaaGreatDoor
open Go.RowKit TS
theorem nf{p:Pm}{g:Ge}{B:Nat}{w:World}{v:Value}{rs:List Nat}{R:List Tm}(l:aw p g w)(h:cD p g B w v rs R)(n:∀b,v.ownBlock=some b→∀o,p b o=none):
 ∃q a c,v= .slice a rs.length c∧aP p q B∧aw q g w∧bw w a rs.length (fun i=>rs.getD i 0)∧b9 q a rs.length (fun i=>ptr (rs.getD i 0))∧∀i(h:i<R.length),aY q g R[i] (rs.getD i 0):=by
 have j:∀{q:Pm},Sub p q→∀i(h:i<R.length),aY q g R[i] (rs.getD i 0):=fun hk i hi=>by
  have x:=h.len;have:=(h.cM i hi (by omega)).sub hk (aH.refl g);simpa [show i<rs.length by omega]using this
 rcases h.own.2 with⟨k,r⟩|⟨b,cap,cur,k,s,m,y,z,t,e⟩
 ·have u:rs.length=0:=r
  exact⟨p,none,0,by rw[k,u],aP.refl _ _,l,fun i hi=>by omega,fun i hi=>by omega,j (Sub.refl p)⟩
 ·have f:=n b (by rw[k];rfl)
  have d:∀i,i<rs.length→cur[i]?=some (.pointer (some ⟨rs.getD i 0,0,none⟩)):=fun i hi=>by
   have:(cur.toList.take (rs.length*1))[i]?=some (.pointer (some ⟨rs.getD i 0,0,none⟩)):=by rw[e];simp[hi]
   rw[List.getElem?_take,if_pos (by omega)]at this;simpa using this
  refine⟨p.add b cur,some ⟨b,0,none⟩,cap,k,Pm.dC f s,l.add f m,fun i hi=>⟨b,0,rfl,?_⟩,fun i hi=>⟨b,0,rfl,?_⟩,j (Pm.dj f)⟩
  ·simp[World.cell?,m,d i hi]
  ·rw[Pm.aX,Nat.zero_add];exact d i hi
theorem Ds(len:Nat)(p:Pm)(g:Ge)(a a':Option Addr)(n C c c':Nat)(f Y:Nat→Nat)(xs d:List Tm)(w:World)(hn:n=xs.length)(Z:C=d.length)(hl:n≤1048576)(Qp:C≤1048576)(hE:aw p g w)(hp:bw w a n f)(Q:bw w a' C Y)
 (ht:∀i(h:i<xs.length),aY p g xs[i] (f i))(PM:∀i(h:i<d.length),aY p g d[i] (Y i))(ok:∀t∈xs,cJ len t)(R:∀t∈d,cJ len t):
 Calls Tryz.prog 165 #[.slice a n c,.slice a' C c'] w fun e w'=>
  ∃q v rs,e= .returned v∧aP p q w.heap.size∧aw q g w'∧cD q g w.heap.size w' v rs (bc xs d)∧Below w.heap.size w w'∧∀b,v.ownBlock=some b→∀o,q b o=none:=by
 have x:=Lib.hid (lB a n c f w hp);have u:=Lib.hid (lB a' C c' Y w Q);have hq:=Lib.hid hp;have P_:=Lib.hid Q;have H:=Lib.hid hE;have hx:Hid (∀i,i<n→aY p g (xs.getD i none) (f i)∧cJ len (xs.getD i none)):=fun i hi=>by
  have h:i<xs.length:=by omega
  have e:xs.getD i none=xs[i]:=by simp[h]
  rw[e];exact⟨ht i h,ok _ (List.getElem_mem h)⟩
 have hy:Hid (∀i,i<C→aY p g (d.getD i none) (Y i)∧cJ len (d.getD i none)):=fun i hi=>by
  have h:i<d.length:=by omega
  have e:d.getD i none=d[i]:=by simp[h]
  rw[e];exact⟨PM i h,R _ (List.getElem_mem h)⟩
 have Qa:=Lib.hid (Dr ok R);have E:=Lib.hid hn;have z:=Lib.hid Z;obtain⟨i1,hj,Qb,Qc,Qd⟩:=info_parts qR;clear hp Q hE ht PM ok R hn Z;by_cases M:n=0
 ·have K:decide (n=0)=true:=by simp[M]
  have hm:Hid (bc xs d= []):=by
   have:xs= []:=List.length_eq_zero_iff.1 (by rw[←E.out];exact M);subst this;simp[Hid,bc]
  rw[K]at x;clear M K;go_enter Tryz.func165,Tryz.ntmps165;go_wp2_with fail
  refine x.out.mono ?_;rintro e w1 ⟨rfl,rfl⟩;go_wp2_with fail
  go_ret;exact⟨p,_,[],rfl,aP.refl _ _,H.out,by rw[hm.out];exact⟨World.ownsRow_nil _ _ _ _,rfl,fun i h=>absurd h (Nat.not_lt_zero _)⟩,Below.refl _ _,fun b S=>by cases S⟩
 ·by_cases F:C=0
  ·have K:decide (n=0)=false:=by simp[M]
   have I:decide (C=0)=true:=by simp[F]
   have hm:Hid (bc xs d= []):=by
    have:d= []:=List.length_eq_zero_iff.1 (by rw[←z.out];exact F);subst this;simp[Hid,bc]
   rw[K]at x;rw[I]at u;clear M K F I;go_enter Tryz.func165,Tryz.ntmps165;go_wp2_with fail
   refine x.out.mono ?_;rintro e w1 ⟨rfl,rfl⟩;go_wp2_with fail
   refine u.out.mono ?_;rintro e w1 ⟨rfl,rfl⟩;go_wp2_with fail
   go_ret;exact⟨p,_,[],rfl,aP.refl _ _,H.out,by rw[hm.out];exact⟨World.ownsRow_nil _ _ _ _,rfl,fun i h=>absurd h (Nat.not_lt_zero _)⟩,Below.refl _ _,fun b S=>by cases S⟩
  ·have K:decide (n=0)=false:=by simp[M]
   have I:decide (C=0)=false:=by simp[F]
   have hm:Hid (bc xs d=bk (meets xs d)):=Dq (by intro e;apply M;rw[E.out,e];rfl) (by intro e;apply F;rw[z.out,e];rfl);rw[K]at x;rw[I]at u;clear M K F I;go_enter Tryz.func165,Tryz.ntmps165;go_wp2_with fail
   refine x.out.mono ?_;rintro e w1 ⟨rfl,rfl⟩;go_wp2_with fail
   refine u.out.mono ?_;rintro e w1 ⟨rfl,rfl⟩;go_wp2_with fail
   clear x u;go_loopw [19,5] (fun vi vr wr=> ∃(k:Nat)(rs:List Nat),k≤n∧vi= .int .i64 k∧Below w.heap.size w wr∧cD p g w.heap.size wr vr rs (meets (xs.take k) d)) (fun vi _ _=>n- (intOf vi).toNat)
   case atStart=>exact⟨0,[],Nat.zero_le _,rfl,Below.refl _ _,⟨World.ownsRow_nil _ _ _ _,rfl,fun i h=>absurd h (Nat.not_lt_zero _)⟩⟩
   case round=>
    obtain⟨k,rs,hk,rfl,hB,hT⟩:=hrel;obtain⟨va,vc,rfl⟩:=bn hT.own;have A:=Lib.hid hB;have T:=Lib.hid hT;clear hB hT;by_cases PN:k<n
    ·have Qo:(k:Int)<n:=by omega
     obtain⟨ab,ao,rfl,PO⟩:=hq.out k PN;have hc:=ar A.out PO;obtain⟨PQ,PR⟩:=hx.out k PN;have PS:=Lib.hid PQ;have PT:=Lib.hid PR;have Qe:Hid (xs.take (k+1)=xs.take k++ [xs.getD k none]):=TS.od (by have:=E.out;omega);clear PO PQ PR;obtain⟨wo,rfl⟩:∃wo:World,wo=wr:=⟨_,rfl⟩
     go_wp2_with fail
     go_loopw [25,5] (fun vj vr wr=> ∃(j:Nat)(rs:List Nat),j≤C∧vj= .int .i64 j∧Below w.heap.size w wr∧cD p g w.heap.size wr vr rs (meets (xs.take k) d++(d.take j).filterMap fun y=>bP (xs.getD k none) y)) (fun vj _ _=>C- (intOf vj).toNat)
     case atStart=>exact⟨0,rs,Nat.zero_le _,rfl,A.out,by simpa using T.out⟩
     case round=>
      obtain⟨j,L,Qq,rfl,PU,U⟩:=hrel;obtain⟨Qr,Qs,rfl⟩:=bn U.own;have m:=Lib.hid PU;have D:=Lib.hid U;clear PU U;by_cases N:j<C
      ·have Qf:(j:Int)<C:=by omega
       obtain⟨Qt,Qu,rfl,PV⟩:=P_.out j N;have K:=ar m.out PV;obtain⟨PW,PX⟩:=hy.out j N;have hI:=Lib.hid (Dg len p g (f k) (Y j) (xs.getD k none) (d.getD j none) wr (H.out.below m.out) PS.out PW PT.out PX);have O:Hid (d.take (j+1)=d.take j++ [d.getD j none]):=TS.od (by have:=z.out;omega);have P:L.length≤1099511627776:=by
        have h1:=D.out.len;have h2:=vW (xs.take k) d;have h3:=List.length_filterMap_le (fun y=>bP (xs.getD k none) y) (d.take j);simp only[List.length_append,List.length_take]at h1 h2 h3;have h4:min k xs.length*d.length≤1048575*1048576:=Nat.mul_le_mul (by have:=E.out;omega) (by have:=z.out;omega);have:=z.out;omega
       clear PV PW PX;cases G:bP (xs.getD k none) (d.getD j none)with
       |none=>
        have s:=hI.out;unfold m_ at s;rw[G]at s;have V:=Lib.hid s;have hR:Hid (((d.take (j+1)).filterMap fun y=>bP (xs.getD k none) y)=(d.take j).filterMap fun y=>bP (xs.getD k none) y):=by unfold Hid;rw[O.out,List.filterMap_append];simp[-List.getD_eq_getElem?_getD,G]
        clear hI s G;go_wp2_with fail
        refine V.out.mono ?_;rintro e W ⟨X,rfl⟩;have r:=Lib.hid X.below;clear X;go_wp2_with fail
        refine⟨⟨j+1,L,by omega,by go_num,m.out.trans (r.out.mono m.out.size),by rw[hR.out];exact D.out.below r.out⟩,?_⟩;first|omega|(simp[intOf];omega)
       |some tz=>
        have s:=hI.out;unfold m_ at s;rw[G]at s;have V:=Lib.hid s;have hR:Hid (((d.take (j+1)).filterMap fun y=>bP (xs.getD k none) y)=((d.take j).filterMap fun y=>bP (xs.getD k none) y)++ [tz]):=by unfold Hid;rw[O.out,List.filterMap_append];simp[-List.getD_eq_getElem?_getD,G]
        clear hI s G;go_wp2_with fail
        refine V.out.mono ?_;rintro e W ⟨X,zb,PY,rfl⟩;have r:=Lib.hid (m.out.trans (X.below.mono m.out.size));have l:=Lib.hid (D.out.below X.below);have PZ:=Lib.hid PY;have J:=Lib.hid (l.out.own.alloc (.cells #[.pointer (some ⟨zb,0,none⟩)] 218));clear X PY;go_wp2_with (first|(at_builtin;refine wpList_append_own_at _ rfl _ _ 130 rfl w.heap.size 218 i1 (.pointer none) 1 8 Tryz.underlying130 hj Qb Qc Qd rfl (by decide) _ _ _ rfl J.out ⟨W.heap.size,0,none⟩ 1 1 [.pointer (some ⟨zb,0,none⟩)] rfl rfl (TS.eD W _ _) (TS.one_one rfl) ?c3 ?c4 ?c5 ?_)|fail)
        case c3=>unfold maxLen;omega
        case c4=>omega
        case c5=>have:=r.out.size;(try simp);omega
        intro v' w3 B P0 _ Qg;obtain⟨a3,c3,rfl⟩:=bn B;have Qh:Hid (Below w.heap.size w w3):=((r.out.alloc r.out.size _).grown P0 (by have:=r.out.size;(try simp);omega) fun b S=>(l.out.own.lt b S).1)
        have Qi:=Lib.hid (l.out.more B PZ.out);clear B P0 Qg J;go_wp2_with fail
        refine⟨⟨j+1,L++ [zb],by omega,by go_num,Qh.out,by rw[hR.out,←List.append_assoc];simpa using Qi.out⟩,?_⟩;first|omega|(simp[intOf];omega)
      ·have Qj:¬(j:Int)<C:=by omega
       have Qk:Hid (d.take j=d):=List.take_of_length_le (by have:=z.out;omega);go_wp2_with fail
       refine⟨⟨k+1,L,by omega,by go_num,m.out,?_⟩,?_⟩
       ·have:=D.out
        rw[Qk.out]at this;rw[Qe.out,Dp];exact this
       ·first|omega|(simp[intOf];omega)
    ·have Qj:¬(k:Int)<n:=by omega
     have Ql:Hid (xs.take k=xs):=List.take_of_length_le (by have:=E.out;omega);have l:=T.out;rw[Ql.out]at l;obtain⟨q,a3,c3,e3,P1,P2,P3,Qm,P4⟩:=nf (H.out.below A.out) l fun b S o=>H.out.kw.aJ (l.own.lt b S).1 o;have P:rs.length≤1099511627776:=by
      have h1:=l.len;have h2:=vW xs d;have h4:xs.length*d.length≤1048576*1048576:=Nat.mul_le_mul (by have:=E.out;omega) (by have:=z.out;omega);omega
     obtain⟨rfl,rfl⟩:va=a3∧vc=c3:=by cases e3;exact⟨rfl,rfl⟩
     have P5:=Lib.hid (vV len q g va rs.length vc (fun i=>rs.getD i 0) (meets xs d) wr l.len P P2 P3 P4 Qa.out);have P6:=Lib.hid P1;clear l P2 P3 Qm P4 e3 P1 T;go_wp2_with fail
     refine P5.out.mono ?_;rintro e W ⟨q2,v2,Qn,rfl,P7,P8,l,r,P9⟩;have hR:Hid (∃q v rs,Ending.returned v2= .returned v∧aP p q w.heap.size∧aw q g W∧cD q g w.heap.size W v rs (bc xs d)∧Below w.heap.size w W∧∀b,v.ownBlock=some b→∀o,q b o=none):=
      ⟨q2,v2,Qn,rfl,P6.out.trans P7 A.out.size,P8,by rw[hm.out];exact⟨kh l.own A.out.size,l.len,l.cM⟩,A.out.trans (r.mono A.out.size),P9⟩
     clear P7 P8 l r P9 P5;go_wp2_with fail
     go_ret;exact hR.out
end Go.Proofs.YtdkmnkjhhhmglaaGreatDoor
namespace TS
open Go Go.RowKit Go.Proofs.YtdkmnkjhhhmglaaGreatDoor
inductive eh (len:Nat):U→Prop
 |mk {u:U}:Vt len u→Vt len (under u)→((bare u).k=11→∃y,(bare u).un= [y]∧y.k≠16)→(under u).k≠2→(under u).k≠14→(under u).k≠11→(under u).k≠15→(under u).k≠16→(∀e∈(under u).es,((under u).k=3∨(under u).k=5)→eh len e)→eh len u
theorem Dt{P:Program}{w c:World}{X:Nat→Prop}(h:Kept X w c)(d:∀b,X b→¬Plain w b){v:Value}(f:fA P w v):fA P c v:=by
 obtain⟨t,g,b,i,j,e,h1,h2,h3,k,l,cs,T,a⟩:=f;refine⟨t,g,b,i,j,e,h1,h2,h3,k,l,cs,T,?_⟩;rw[h.block b (Array.getElem?_eq_some_iff.1 a).1 fun m=>d b m ⟨cs,T,a⟩];exact a
theorem aw.kept{p:Pm}{g:Ge}{w a:World}{X:Nat→Prop}(h:aw p g w)(k:Kept X w a)(c:∀b,X b→¬Plain w b)(d:¬X 5):aw p g a:=
 h.own k (fun b e o=>by
  cases f:p b o with
  |none=>rfl
  |some v=>exact absurd (h.pl _ _ _ f) (c b e)) d
end TS
namespace Go.Proofs.YtdkmnkjhhhmglaaGreatDoor
open Go.RowKit TS
theorem cd:KeyLaw Tryz.prog 38 (fA Tryz.prog):=Cc Tryz.underlying38
theorem dO{t b:Nat}{w:World}(h:bV t)(a:Plain w b):fA Tryz.prog w (.iface t (.pointer (some ⟨b,0,none⟩))):=by
 obtain⟨c,i,j,h1,h2,h3,d,e⟩:=h;exact⟨t,c,b,i,j,rfl,h1,h2,h3,d,e,a⟩
theorem dP(w:World):(zeroValue 4).run Tryz.prog w= .ok (.bool false) w:=by kernel_rfl
theorem Du{p:Pm}{g:Ge}{u:U}{len:Nat}(x:Value)(w:World)(hw:KW p w)(hu:Vt len u)(m:TS.Node p g u x):Calls Tryz.prog 126 #[x] w fun e n=>e= .returned (.bool false)∧w=n:=by
 obtain⟨b,d,f,o⟩:=hu.strip m;obtain⟨r,s,rfl⟩:=m.val;have q:=Lib.hid (oT _ b _ p f o w hw);obtain⟨aa,i,a,_⟩:=hu.bare;have c:=(d.tag i a).2;have j:bq (bare u).k≠203:=by
  have l:=aa.aE;rcases mW c.1 c.2 i l.1 l.2 a with h|h|h|h|h|h|h|h|h|h
  all_goals first|(rw[h];decide)|(rcases h with h|h|h<;>rw[h]<;>decide)
 generalize bq (bare u).k=t at*;have h1:=an qL t b j;clear d f o m hu hw c j;go_enter Tryz.func126,Tryz.ntmps126;go_wp2_with fail
 refine q.out.mono ?_;rintro e n ⟨rfl,rfl⟩;go_wp2_with fail
 go_ret;exact⟨rfl,rfl⟩
theorem vX(a:Option Addr)(n c:Nat)(w:World):Calls Tryz.prog 194 #[.string ByteArray.empty,.slice a n c] w fun e b=>(∃o,e= .returned (.pointer (some o)))∧Below w.heap.size w b:=by
 go_enter Tryz.func194,Tryz.ntmps194;go_wp2_with fail
 go_ret;exact⟨⟨_,rfl⟩,(Below.refl _ _).alloc (Nat.le_refl _) _⟩
theorem lD(s:ByteArray)(b:(s.toList== [])=false)(a:Option Addr)(n c:Nat)(w:World):Calls Tryz.prog 194 #[.string s,.slice a n c] w fun e d=>(∃o,e= .returned (.pointer (some o)))∧Below w.heap.size w d:=by
 have f:(s.toList= [])=False:=by simpa using b
 go_enter Tryz.func194,Tryz.ntmps194;go_wp2_with fail
 go_ret;exact⟨⟨_,rfl⟩,(Below.refl _ _).alloc (Nat.le_refl _) _⟩
theorem vY(tb n c:Nat)(a:Option Addr)(f:Nat→Nat)(r:Bool)(w:World)(h2:w.cell? ⟨tb,2,none⟩=some (.slice a n c))(h3:w.cell? ⟨tb,3,none⟩=some (.bool r))(b:bw w a n f)(g:0<n)(h1:w.cell? ⟨f 0,1,none⟩=some .nilIface)(m:Option Nat):
 Calls Tryz.prog 195 #[.pointer (some ⟨tb,0,none⟩),.map m] w fun e d=>e= .returned (.bool r)∧Below w.heap.size w d:=by
 have hk:=au.alloc w (.cells #[.map m] 281);have h:=Lib.hid (vE a n c f _ (b.b_ hk) g (hk.cell h1));have i:=World.block_lt_of_cell? _ _ h2;clear b h1 hk;go_enter Tryz.func195,Tryz.ntmps195;go_wp2_with fail
 refine h.out.mono ?_;rintro e d ⟨rfl,rfl⟩;go_wp2_with fail
 go_ret;exact⟨rfl,(Below.refl _ _).alloc (Nat.le_refl _) _⟩
theorem vZ(tb n c:Nat)(a:Option Addr)(f:Nat→Nat)(w:World)(h2:w.cell? ⟨tb,2,none⟩=some (.slice a n c))(b:bw w a n f):
 Calls Tryz.prog 196 #[.pointer (some ⟨tb,0,none⟩)] w fun e d=>e= .returned (.bool (decide (n=0)))∧w=d:=by
 have g:=Lib.hid (lB a n c f _ b);clear b;go_enter Tryz.func196,Tryz.ntmps196;go_wp2_with fail
 refine g.out.mono ?_;rintro e d ⟨rfl,rfl⟩;go_wp2_with fail
 go_ret;exact⟨rfl,rfl⟩
end Go.Proofs.YtdkmnkjhhhmglaaGreatDoor
