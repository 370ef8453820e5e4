import Derived.Test.YtkfaiocajcjomaaGreatDoorYaw
import Derived.Test.YtkfaiocajcjomaaGreatDoorYay
set_option maxRecDepth 100000
set_option maxHeartbeats 8000000
set_option linter.all false
namespace TS
open Go Go.RowKit Go.Proofs.YtkfaiocajcjomaaGreatDoor
theorem Plain.below{w a:World}{b:Nat}(h:Plain w b)(k:Below w.heap.size w a):Plain a b:=by
 obtain⟨cs,T,c⟩:=h;exact⟨cs,T,by rw[k.block b (Array.getElem?_eq_some_iff.1 c).1];exact c⟩
theorem ak{w b:World}(k:Below w.heap.size w b){a:Addr}{v:Value}(h:w.cell? a=some v):b.cell? a=some v:=by
 rw[k.cell (World.block_lt_of_cell? _ _ h)];exact h
theorem bu.below{w a:World}(h:bu w)(k:Below w.heap.size w a):bu a:=fun c h1 h2=>ak k (h c h1 h2)
theorem aq.below{p:Pm}{g:Ge}{w a:World}(h:aq p g w)(k:Below w.heap.size w a):aq p g a:=
 ⟨h.kw.grown k,fun b o v c=>(h.pl b o v c).below k,h.inj,h.cap.below k,h.done,h.po,h.cB,h.cC⟩
abbrev pv(b:Nat):Value:= .pointer (some ⟨b,0,none⟩)
structure b7(p:Pm)(g:Ge)(B:Nat)(wr:World)(v:Value)(rs:List Nat)(R:List Tm):Prop where
 own:wr.ownsRow B 179 1 v rs.length (rs.map pv)
 len:rs.length=R.length
 cg:∀i(h:i<R.length)(a:i<rs.length),a7 p g R[i] rs[i]
theorem b7.below{p:Pm}{g:Ge}{B:Nat}{wr a:World}{v:Value}{rs:List Nat}{R:List Tm}(h:b7 p g B wr v rs R)(k:Below wr.heap.size wr a):b7 p g B a v rs R:=
 ⟨bD h.own k,h.len,h.cg⟩
theorem b7.sub{p q:Pm}{g b:Ge}{B:Nat}{wr:World}{v:Value}{rs:List Nat}{R:List Tm}(h:b7 p g B wr v rs R)(hk:Sub p q)(c:aE g b):b7 q b B wr v rs R:=
 ⟨h.own,h.len,fun i hi a=>(h.cg i hi a).sub hk c⟩
theorem b7.more{p:Pm}{g:Ge}{B:Nat}{wr d:World}{v e:Value}{rs:List Nat}{R:List Tm}{z:Tm}{b:Nat}(h:b7 p g B wr v rs R)(j:d.ownsRow B 179 1 e (rs.length+1) (rs.map pv++ [pv b]))(k:a7 p g z b):b7 p g B d e (rs++ [b]) (R++ [z]) where
 own:=by simpa using j
 len:=by simp[h.len]
 cg:=fun i hi c=>by
  have f:=h.len;simp only[List.length_append,List.length_cons,List.length_nil]at hi c;by_cases a:i<R.length
  ·rw[List.getElem_append_left a,List.getElem_append_left (by omega)];exact h.cg i a (by omega)
  ·have l:i=R.length:=by omega
   subst l;simp[←f];simpa [f]using k
theorem aq.add{p:Pm}{g:Ge}{w:World}{b:Nat}{cs:Array Value}{T:TypeId}(h:aq p g w)(a:∀o,p b o=none)(c:w.heap[b]?=some (.cells cs T (0,0))):aq (p.add b cs) g w where
 kw:=h.kw.add fun o u hu=>by simp[World.cell?,c,hu]
 pl:=fun d o v f=>by
  by_cases e:d=b
  ·subst e;exact⟨cs,T,c⟩
  ·rw[Pm.aK _ _ _ e]at f;exact h.pl _ _ _ f
 inj:=h.inj
 cap:=h.cap
 done:=fun d u hu=>⟨Pm.cO a _ _ _ (h.done _ _ hu).1,(h.done _ _ hu).2.sub (Pm.cO a) (aE.refl g)⟩
 po:=fun i hi=>let⟨o,v,e⟩:=h.po i hi;⟨o,v,Pm.cO a _ _ _ e⟩
 cB:=let⟨o,v,e⟩:=h.cB;⟨o,v,Pm.cO a _ _ _ e⟩
 cC:=let⟨o,v,e⟩:=h.cC;⟨o,v,Pm.cO a _ _ _ e⟩
theorem aq.own{p:Pm}{g:Ge}{w e:World}{X:Nat→Prop}(h:aq p g w)(k:Kept X w e)(f:∀b,X b→∀o,p b o=none)(j:¬X 5):aq p g e where
 kw:=h.kw.kept k fun b o v a d=>by rw[f b d o]at a;cases a
 pl:=fun b o v a=>by
  obtain⟨cs,T,i⟩:=h.pl b o v a;exact⟨cs,T,by rw[k.block b (Array.getElem?_eq_some_iff.1 i).1 fun d=>by rw[f b d o]at a;cases a];exact i⟩
 inj:=h.inj
 cap:=fun c h1 h2=>by
  have:=h.cap c h1 h2;rw[k.cell (World.block_lt_of_cell? _ _ this) j];exact this
 done:=h.done
 po:=h.po
 cB:=h.cB
 cC:=h.cC
structure Flags(wr:World)(a n:Nat)(F:Nat→Bool):Prop where
 us:∀j,j<n→wr.cell? ⟨a,j,none⟩=some (.bool (F j))
 fz:∀j,j<n→wr.frozen? ⟨a,j,none⟩=false
theorem Flags.of{wr d:World}{b n:Nat}{F:Nat→Bool}(h:Flags wr b n F)(e:d.heap[b]?=wr.heap[b]?):Flags d b n F:=
 ⟨fun j c=>(World.cell?_of_block (w:=wr) (a:=⟨b,j,none⟩) e).trans (h.us j c),fun j c=>(World.frozen?_of_block (w:=wr) (a:=⟨b,j,none⟩) e).trans (h.fz j c)⟩
end TS
namespace Go.Proofs.YtkfaiocajcjomaaGreatDoor
open Go.RowKit TS
theorem Bb:(Tryz.prog.info? 4).map (fun i=>(i.zero,i.size,i.bytes))=some (some (.bool false),1,1):=by kernel_rfl
def Bc(p:Pm)(g:Ge)(c:List Tm)(w:World)(e:Ending)(a:World):Prop:=
 ∃q v rs,e= .returned v∧aL p q w.heap.size∧aq q g a∧b7 q g w.heap.size a v rs (eh c)∧Below w.heap.size w a∧∀b,v.ownBlock=some b→∀o,q b o=none
theorem ti(len:Nat)(p:Pm)(g:Ge)(a:Option Addr)(n c:Nat)(f:Nat→Nat)(l:List Tm)(w:World)(hn:n=l.length)(hl:n≤1099511627776)(hE:aq p g w)(hp:bA w a n f)(ht:∀i(h:i<l.length),a7 p g l[i] (f i))(ok:∀t∈l,dA len t):
 Calls Tryz.prog 172 #[.slice a n c] w (Bc p g l w):=by
 have Qh:=Lib.hid hp;have L:=Lib.hid hE;have Qi:Hid (∀i,i<n→a7 p g (l.getD i none) (f i)∧dA len (l.getD i none)):=fun i hi=>by
  have h:i<l.length:=by omega
  have e:l.getD i none=l[i]:=by simp[h]
  rw[e];exact⟨ht i h,ok _ (List.getElem_mem h)⟩
 have QG:=Lib.hid hn;obtain⟨i0,hi,QH,QI,QJ⟩:=info_parts Bb;obtain⟨i1,hj,QK,QL,QM⟩:=info_parts oV;clear hp hE ht ok hn;go_enter Tryz.func172,Tryz.ntmps172;go_wp2_with (first|(at_make;refine wpList_make_full _ rfl _ _ 290 rfl w.heap.size 4 i0 (.bool false) 1 Tryz.underlying290 hi QH QI .i64 .i64 _ _ n rfl rfl rfl rfl (by rw[QJ];omega) (by unfold maxLen;omega) (Nat.le_refl _) ?_;intro w1 A Qj)|fail)
 have QN:Hid (Below w.heap.size w w1):=(Below.refl w.heap.size w).grown Qj (Nat.le_refl _) fun k hk=>by cases hk
 have QO:Hid (Flags w1 w.heap.size n fun _=>false):=by
  refine⟨fun j hj=> ?_,fun j _=>A.frozenAt j⟩;have:=A.cells (g:=w.heap.size) rfl j (.bool false) (by simp[madeCells,Value.cells,hj,Nat.mod_one]);rwa [show(⟨w.heap.size,0,none⟩:Addr).add j=⟨w.heap.size,j,none⟩ by unfold Addr.add;split<;>simp_all]at this
 have D:w.heap.size<w1.heap.size:=(A.lt w.heap.size rfl).2;clear A Qj;go_loopw [16,4] (fun vi vr wr=> ∃(k:Nat)(F:Nat→Bool)(rs:List Nat)(R:List Tm),k≤n∧vi= .int .i64 k∧Below w.heap.size w wr∧Flags wr w.heap.size n F∧w.heap.size<wr.heap.size∧b7 p g w.heap.size wr vr rs R∧vr.ownBlock≠some w.heap.size∧rs.length≤k∧dZ l R (cD l F k (n- k))) (fun vi _ _=>n- (intOf vi).toNat)
 case atStart=>
  refine⟨0,fun _=>false,[],[],Nat.zero_le _,rfl,QN.out,QO.out,D,⟨World.ownsRow_nil _ _ _ _,rfl,fun i h=>absurd h (Nat.not_lt_zero _)⟩,by simp[Value.ownBlock],Nat.le_refl _,?_⟩;rw[QG.out,Nat.sub_zero,A9];exact Ba l
 case round=>
  obtain⟨k,F,rs,R,hk,rfl,hB,hF,Qk,hT,Ql,Q6,hN⟩:=hrel;have M:=Lib.hid hB;have Qb:=Lib.hid hF;have N:=Lib.hid hT;have J:=Lib.hid Ql;have W:=Lib.hid hN;clear hB hF hT Ql hN;obtain⟨va,vc,rfl⟩:=bd N.out.own;by_cases X:k<n
  ·have Q3:(k:Int)<n:=by omega
   obtain⟨ab,ao,rfl,QP⟩:=Qh.out k X;have hc:=ak M.out QP;have hu:=Qb.out.us k X;have u:=mS l F k (n- (k+1));rw[show n- (k+1)+1=n- k by omega]at u;cases Y:F k
   ·rw[Y]at hu u
    have Z:Hid (dZ l R (l.getD k none::cD l F (k+1) (n- (k+1)))):=by have:=W.out;rw[u]at this;exact this
    clear u Y W;obtain⟨wo,rfl⟩:∃wo:World,wo=wr:=⟨_,rfl⟩
    obtain⟨Qm,Qn⟩:=Qi.out k X;have Qo:=Lib.hid Qm;have Qp:=Lib.hid Qn;clear Qm Qn;go_wp2_with fail
    go_loopw [7,6] (fun vj vx wx=> ∃(j:Nat)(s:Nat→Bool)(z:Tm)(O:Nat),k+1≤j∧j≤n∧vj= .int .i64 j∧vx= .pointer (some ⟨O,0,none⟩)∧a7 p g z O∧dA len z∧Below w.heap.size w wx∧Flags wx w.heap.size n s∧w.heap.size<wx.heap.size∧b7 p g w.heap.size wx (.slice va rs.length vc) rs R∧(∀i,j≤i→s i=F i)∧
     dB (l.getD k none) (cD l F (k+1) (n- (k+1))) z (cD l s (k+1) (j- (k+1))) (cD l s j (n- j))) (fun vj _ _=>n- (intOf vj).toNat)
    case atStart=>exact⟨k+1,F,_,f k,Nat.le_refl _,X,by go_num,rfl,Qo.out,Qp.out,M.out,Qb.out,Qk,N.out,fun _ _=>rfl,by rw[Nat.sub_self,mR];exact A_ _ _⟩
    case round=>
     obtain⟨j,s,z,O,Q7,Q8,rfl,rfl,hz,Qq,Qr,Qs,Qt,Qu,Qv,hS⟩:=hrel;have P3:=Lib.hid hz;have K:=Lib.hid Qq;have m:=Lib.hid Qr;have r:=Lib.hid Qs;have x:=Lib.hid Qu;have P:=Lib.hid Qv;have Q:=Lib.hid hS;clear hz Qq Qr Qs Qu Qv hS;by_cases y:j<n
     ·have QQ:(j:Int)<n:=by omega
      obtain⟨Q9,Q_,e0,QR⟩:=Qh.out j y;cases e0;have hd:=ak m.out QR;have hv:=r.out.us j y;have Ra:=r.out.fz j y;have E:=mS l s j (n- (j+1));have G:=o_ l s (k+1) (j- (k+1));rw[show n- (j+1)+1=n- j by omega]at E;rw[show k+1+(j- (k+1))=j by omega,show j- (k+1)+1=j+1- (k+1) by omega]at G;obtain⟨P4,P5⟩:=Qi.out j y;cases S:s j
      ·rw[S]at hv E G
       have v:Hid (dB (l.getD k none) (cD l F (k+1) (n- (k+1))) z (cD l s (k+1) (j- (k+1))) (l.getD j none::cD l s (j+1) (n- (j+1)))):=by have:=Q.out;rw[E]at this;exact this
       have Qw:=Lib.hid G;have hU:=Lib.hid (A7 len p g O (f j) z (l.getD j none) wr (L.out.below m.out) P3.out P4 K.out P5);have Q4:=Lib.hid P4;have Qx:=Lib.hid P5;have Q5:=Lib.hid S;clear E G Q P4 P5 S;cases d:cu z (l.getD j none)with
       |none=>
        have Qc:=Lib.hid (v.out.gW d);have B:=hU.out;unfold lh at B;rw[d]at B;have H:=Lib.hid B;clear hU B d v;go_wp2_with fail
        refine H.out.mono ?_;rintro e1 C ⟨V,rfl⟩;have q:=Lib.hid V.below;have Qy:=V.size;clear V;go_wp2_with fail
        refine⟨⟨j+1,s,z,O,by omega,by omega,by go_num,rfl,P3.out,K.out,m.out.trans (q.out.mono (by omega)),r.out.of (q.out.block _ (by omega)),by omega,x.out.below q.out,fun i hi=>P.out i (by omega),?_⟩,?_⟩
        ·rw[Qw.out];exact Qc.out
        ·first|omega|(simp[intOf];omega)
       |some tz=>
        have B:=hU.out;unfold lh at B;rw[d]at B;have H:=Lib.hid B;clear hU B;match tz,d,H with
        |none,d,H=>
         have Qz:=Lib.hid (Z.out.all (v.out.all d));clear d v;go_wp2_with fail
         refine H.out.mono ?_;rintro e1 C ⟨V,zz,P6,rfl⟩;have q:=Lib.hid V.below;have QS:=(L.out.below (m.out.trans (q.out.mono (by omega)))).kw _ _ _ P6;clear V P6;go_wp2_with fail
         refine(kV _).mono ?_;rintro e1 w3 ⟨rfl,rfl⟩;go_wp2_with fail
         go_ret;have Qd:Below w.heap.size w C:=m.out.trans (q.out.mono (by omega));have Qe:=L.out.below Qd;have QA:Below C.heap.size C ((C.alloc (.cells #[.bool false,.nilIface] 181)).alloc (.cells #[.pointer (some ⟨C.heap.size,0,none⟩)] 179)):=((Below.refl _ _).alloc (Nat.le_refl _) _).alloc (by simp) _;have P9:∀o,p C.heap.size o=none:=fun o=>Qe.kw.aI (Nat.le_refl _) o;have P_:=Qd.size;refine⟨p.add C.heap.size #[.bool false,.nilIface],_,[C.heap.size],rfl,Pm.cW P9 P_,(Qe.below QA).add (T:=181) P9 (by rw[Below.heap_alloc _ _ _ (by simp)];exact(MapKept.heap_alloc C _).1),?_,Qd.trans (QA.mono P_),?_⟩
         ·rw[Qz.out]
          refine⟨?_,rfl,fun i hi Rb=> ?_⟩
          ·have:=World.ownsRow_lit (base:=w.heap.size) (e:=179) (size:=1) (C.alloc (.cells #[.bool false,.nilIface] 181)) #[.pointer (some ⟨C.heap.size,0,none⟩)] 1 (by simp;omega) (by unfold maxLen;omega) rfl
           simpa using this
          ·have:i=0:=by simpa using hi
           subst this;show a7 _ _ none _;unfold a7;simp[Pm.add]
         ·intro b hb o
          simp[Value.ownBlock]at hb;subst hb;rw[Pm.aK _ _ _ (by omega)];exact Qe.kw.aI (by omega) o
        |some tz,d,H=>
         have Qc:=Lib.hid (v.out.take d (by simp));have QB:Hid (dA len (some tz)):=by
          rcases rO d with e|e
          ·rw[e];exact K.out
          ·rw[e];exact Qx.out
         clear d v;go_wp2_with fail
         refine H.out.mono ?_;rintro e1 C ⟨V,zz,P6,rfl⟩;have q:=Lib.hid V.below;have Qy:=V.size;obtain⟨dz,ez⟩:=tz;obtain⟨Qa,zv,D,Qf⟩:=P6;obtain⟨zt,Rc,rfl⟩:=Qf.val;have QC:=L.out.below (m.out.trans (q.out.mono (by omega)));have QS:=QC.kw _ _ _ D;have QT:Hid (a7 p g (some (dz,ez)) zz):=⟨Qa,_,D,Qf⟩
         have Re:=(r.out.of (q.out.block _ (by omega))).fz j y;have Rg:=(r.out.of (q.out.block _ (by omega))).us j y;clear V Qa D Qf QC;go_wp2_with fail
         refine⟨⟨j+1,fun i=>if i=j then true else s i,some (dz,ez),zz,by omega,by omega,by go_num,rfl,QT.out,QB.out,?_,?_,?_,?_,fun i hi=> ?_,?_⟩,?_⟩
         ·exact(m.out.trans (q.out.mono (by omega))).setCell (Nat.le_refl _) _
         ·have P7:=r.out.of (q.out.block w.heap.size (by omega))
          refine⟨fun i hi=> ?_,fun i hi=> ?_⟩
          ·by_cases e:i=j
           ·subst e;simp[go_sem,P7.us i hi,P7.fz i hi]
           ·rw[World.cell?_setCell_other _ _ _ _ (by simp[e,Ne.symm e]),if_neg e];exact P7.us i hi
          ·simpa [go_sem]using P7.fz i hi
         ·simp[World.setCell];omega
         ·have Qg:=x.out.below q.out
          exact⟨eO Qg.own J.out _,Qg.len,Qg.cg⟩
         ·show(if i=j then true else s i)=F i
          rw[if_neg (by omega)];exact P.out i (by omega)
         ·have e1:cD l (fun i=>if i=j then true else s i) (k+1) (j+1- (k+1))=cD l s (k+1) (j- (k+1)):=by
           have:=o_ l (fun i=>if i=j then true else s i) (k+1) (j- (k+1));rw[show k+1+(j- (k+1))=j by omega,show j- (k+1)+1=j+1- (k+1) by omega]at this;rw[this,if_pos (by simp),List.append_nil];exact th l fun i h1 h2=>if_neg (by omega)
          have e2:cD l (fun i=>if i=j then true else s i) (j+1) (n- (j+1))=cD l s (j+1) (n- (j+1)):=th l fun i h1 h2=>if_neg (by omega);rw[e1,e2];exact Qc.out
         ·first|omega|(simp[intOf];omega)
      ·rw[S]at hv E G
       have v:Hid (dB (l.getD k none) (cD l F (k+1) (n- (k+1))) z (cD l s (k+1) (j+1- (k+1))) (cD l s (j+1) (n- (j+1)))):=by have:=Q.out;rw[E]at this;unfold Hid;rw[G];simpa using this
       clear E G Q P4 P5 S;go_wp2_with fail
       refine⟨⟨j+1,s,z,O,by omega,by omega,by go_num,rfl,P3.out,K.out,m.out,r.out,Qt,x.out,fun i hi=>P.out i (by omega),v.out⟩,?_⟩;first|omega|(simp[intOf];omega)
     ·have QU:¬(j:Int)<n:=by omega
      have QV:j=n:=by omega
      subst QV;have v:Hid (dZ l (R++ [z]) (cD l s (k+1) (j- (k+1)))):=Z.out.step (dB.done (by have:=Q.out;rwa [Nat.sub_self,mR]at this));have U:=Lib.hid (x.out.own.alloc (.cells #[.pointer (some ⟨O,0,none⟩)] 179));go_wp2_with (first|(at_builtin;refine wpList_append_own_at _ rfl _ _ 122 rfl w.heap.size 179 i1 (.pointer none) 1 8 Tryz.underlying122 hj QK QL QM rfl (by decide) _ _ _ rfl U.out ⟨wr.heap.size,0,none⟩ 1 1 [.pointer (some ⟨O,0,none⟩)] rfl rfl (TS.dP wr _ _) (TS.one_one rfl) ?c3 ?c4 ?c5 ?_)|fail)
      case c3=>unfold maxLen;omega
      case c4=>omega
      case c5=>have:=m.out.size;(try simp);omega
      intro v' C I P8 _ QD;obtain⟨a',c',rfl⟩:=bd I;have QW:Hid (Below w.heap.size w C):=((m.out.alloc m.out.size _).grown P8 (by have:=m.out.size;(try simp);omega) fun b hb=>(x.out.own.lt b hb).1)
      have QX:Hid (Flags C w.heap.size j s):=(r.out.of (Below.heap_alloc wr (.cells #[.pointer (some ⟨O,0,none⟩)] 179) w.heap.size (by omega))).of (P8.block _ (by(try simp);omega) fun e=>J.out e.symm);have QY:Hid (b7 p g w.heap.size C (.slice a' (rs.length+1) c') (rs++ [O]) (R++ [z])):=x.out.more I P3.out;have QE:Hid ((Value.slice a' (rs.length+1) c').ownBlock≠some w.heap.size):=by
       rcases QD with e|e
       ·rw[e];exact J.out
       ·rw[e];intro h;injection h with h;(try simp at h);omega
      have QF:w.heap.size<C.heap.size:=by have:=P8.size;(try simp at this);omega
      clear I P8 QD U;go_wp2_with fail
      refine⟨⟨k+1,s,rs++ [O],R++ [z],by omega,by go_num,QW.out,QX.out,QF,by simpa using QY.out,by simpa using QE.out,by simp;omega,v.out⟩,?_⟩;first|omega|(simp[intOf];omega)
   ·rw[Y]at hu u
    have Z:Hid (dZ l R (cD l F (k+1) (n- (k+1)))):=by have:=W.out;rw[u]at this;exact this
    clear u Y;go_wp2_with fail
    refine⟨⟨k+1,F,rs,R,by omega,by go_num,M.out,Qb.out,Qk,N.out,J.out,by omega,Z.out⟩,?_⟩;first|omega|(simp[intOf];omega)
  ·have QU:¬(k:Int)<n:=by omega
   have QZ:k=n:=by omega
   have hR:Hid (eh l=R):=dZ.done (by have:=W.out;rwa [QZ,Nat.sub_self,mR]at this);go_wp2_with fail
   go_ret;refine⟨p,_,rs,rfl,aL.refl _ _,L.out.below M.out,by rw[hR.out];exact N.out,M.out,fun b hb o=> ?_⟩;exact L.out.kw.aI (N.out.own.lt b hb).1 o
end Go.Proofs.YtkfaiocajcjomaaGreatDoor
namespace TS
open Go Go.RowKit Go.Proofs.YtkfaiocajcjomaaGreatDoor
def meets(xs a:List Tm):List Tm:=xs.flatMap fun x=>a.filterMap fun y=>cv x y
theorem Bd(xs a:List Tm)(x:Tm):meets (xs++ [x]) a=meets xs a++a.filterMap fun y=>cv x y:=by simp[meets]
theorem tj(xs a:List Tm):(meets xs a).length≤xs.length*a.length:=by
 induction xs with
 |nil=>simp[meets]
 |cons x r ih=>
  have:(meets (x::r) a).length=(a.filterMap fun y=>cv x y).length+(meets r a).length:=by simp[meets]
  have h1:=List.length_filterMap_le (fun y=>cv x y) a;rw[this,List.length_cons,Nat.succ_mul];omega
theorem lY{l:List Tm}{k:Nat}(h:k<l.length):l.take (k+1)=l.take k++ [l.getD k none]:=by
 have hm:l[k]?=some l[k]:=List.getElem?_eq_getElem h;rw[List.take_add_one,hm,List.getD_eq_getElem?_getD,hm];rfl
theorem Be{xs a:List Tm}(h1:xs≠ [])(h2:a≠ []):bU xs a=eh (meets xs a):=by
 unfold bU meets;have b:xs.isEmpty=false:=by cases xs with|nil=>exact absurd rfl h1|cons=>rfl
 have c:a.isEmpty=false:=by cases a with|nil=>exact absurd rfl h2|cons=>rfl
 rw[b,c];simp
theorem Bf{len:Nat}{xs a:List Tm}(h1:∀t∈xs,dA len t)(h2:∀t∈a,dA len t):∀t∈meets xs a,dA len t:=fun t b=>(oE b).elim (h1 t) (h2 t)
end TS
namespace Go.Proofs.YtkfaiocajcjomaaGreatDoor
open Go.RowKit TS
theorem lk{p:Pm}{g:Ge}{B:Nat}{w:World}{v:Value}{rs:List Nat}{R:List Tm}(l:aq p g w)(h:b7 p g B w v rs R)(n:∀b,v.ownBlock=some b→∀o,p b o=none):
 ∃q a c,v= .slice a rs.length c∧aL p q B∧aq q g w∧bA w a rs.length (fun i=>rs.getD i 0)∧bN q a rs.length (fun i=>ptr (rs.getD i 0))∧∀i(h:i<R.length),a7 q g R[i] (rs.getD i 0):=by
 have j:∀{q:Pm},Sub p q→∀i(h:i<R.length),a7 q g R[i] (rs.getD i 0):=fun hk i hi=>by
  have x:=h.len;have:=(h.cg i hi (by omega)).sub hk (aE.refl g);simpa [show i<rs.length by omega]using this
 rcases h.own.2 with⟨k,r⟩|⟨b,cap,cur,k,s,m,y,z,t,e⟩
 ·have u:rs.length=0:=r
  exact⟨p,none,0,by rw[k,u],aL.refl _ _,l,fun i hi=>by omega,fun i hi=>by omega,j (Sub.refl p)⟩
 ·have f:=n b (by rw[k];rfl)
  have d:∀i,i<rs.length→cur[i]?=some (.pointer (some ⟨rs.getD i 0,0,none⟩)):=fun i hi=>by
   have:(cur.toList.take (rs.length*1))[i]?=some (.pointer (some ⟨rs.getD i 0,0,none⟩)):=by rw[e];simp[hi]
   rw[List.getElem?_take,if_pos (by omega)]at this;simpa using this
  refine⟨p.add b cur,some ⟨b,0,none⟩,cap,k,Pm.cW f s,l.add f m,fun i hi=>⟨b,0,rfl,?_⟩,fun i hi=>⟨b,0,rfl,?_⟩,j (Pm.cO f)⟩
  ·simp[World.cell?,m,d i hi]
  ·rw[Pm.aT,Nat.zero_add];exact d i hi
theorem Bg(len:Nat)(p:Pm)(g:Ge)(a a':Option Addr)(n C c c':Nat)(f Y:Nat→Nat)(xs d:List Tm)(w:World)(hn:n=xs.length)(Z:C=d.length)(hl:n≤1048576)(QF:C≤1048576)(hE:aq p g w)(hp:bA w a n f)(Q:bA w a' C Y)
 (ht:∀i(h:i<xs.length),a7 p g xs[i] (f i))(P3:∀i(h:i<d.length),a7 p g d[i] (Y i))(ok:∀t∈xs,dA len t)(R:∀t∈d,dA len t):
 Calls Tryz.prog 142 #[.slice a n c,.slice a' C c'] w fun e w'=>
  ∃q v rs,e= .returned v∧aL p q w.heap.size∧aq q g w'∧b7 q g w.heap.size w' v rs (bU xs d)∧Below w.heap.size w w'∧∀b,v.ownBlock=some b→∀o,q b o=none:=by
 have x:=Lib.hid (mM a n c f w hp);have u:=Lib.hid (mM a' C c' Y w Q);have hq:=Lib.hid hp;have Qp:=Lib.hid Q;have H:=Lib.hid hE;have hx:Hid (∀i,i<n→a7 p g (xs.getD i none) (f i)∧dA len (xs.getD i none)):=fun i hi=>by
  have h:i<xs.length:=by omega
  have e:xs.getD i none=xs[i]:=by simp[h]
  rw[e];exact⟨ht i h,ok _ (List.getElem_mem h)⟩
 have hy:Hid (∀i,i<C→a7 p g (d.getD i none) (Y i)∧dA len (d.getD i none)):=fun i hi=>by
  have h:i<d.length:=by omega
  have e:d.getD i none=d[i]:=by simp[h]
  rw[e];exact⟨P3 i h,R _ (List.getElem_mem h)⟩
 have Qq:=Lib.hid (Bf ok R);have E:=Lib.hid hn;have z:=Lib.hid Z;obtain⟨i1,hj,Qr,Qs,Qt⟩:=info_parts oV;clear hp Q hE ht P3 ok R hn Z;by_cases M:n=0
 ·have K:decide (n=0)=true:=by simp[M]
  have hm:Hid (bU xs d= []):=by
   have:xs= []:=List.length_eq_zero_iff.1 (by rw[←E.out];exact M);subst this;simp[Hid,bU]
  rw[K]at x;clear M K;go_enter Tryz.func142,Tryz.ntmps142;go_wp2_with fail
  refine x.out.mono ?_;rintro e w1 ⟨rfl,rfl⟩;go_wp2_with fail
  go_ret;exact⟨p,_,[],rfl,aL.refl _ _,H.out,by rw[hm.out];exact⟨World.ownsRow_nil _ _ _ _,rfl,fun i h=>absurd h (Nat.not_lt_zero _)⟩,Below.refl _ _,fun b S=>by cases S⟩
 ·by_cases F:C=0
  ·have K:decide (n=0)=false:=by simp[M]
   have I:decide (C=0)=true:=by simp[F]
   have hm:Hid (bU xs d= []):=by
    have:d= []:=List.length_eq_zero_iff.1 (by rw[←z.out];exact F);subst this;simp[Hid,bU]
   rw[K]at x;rw[I]at u;clear M K F I;go_enter Tryz.func142,Tryz.ntmps142;go_wp2_with fail
   refine x.out.mono ?_;rintro e w1 ⟨rfl,rfl⟩;go_wp2_with fail
   refine u.out.mono ?_;rintro e w1 ⟨rfl,rfl⟩;go_wp2_with fail
   go_ret;exact⟨p,_,[],rfl,aL.refl _ _,H.out,by rw[hm.out];exact⟨World.ownsRow_nil _ _ _ _,rfl,fun i h=>absurd h (Nat.not_lt_zero _)⟩,Below.refl _ _,fun b S=>by cases S⟩
  ·have K:decide (n=0)=false:=by simp[M]
   have I:decide (C=0)=false:=by simp[F]
   have hm:Hid (bU xs d=eh (meets xs d)):=Be (by intro e;apply M;rw[E.out,e];rfl) (by intro e;apply F;rw[z.out,e];rfl);rw[K]at x;rw[I]at u;clear M K F I;go_enter Tryz.func142,Tryz.ntmps142;go_wp2_with fail
   refine x.out.mono ?_;rintro e w1 ⟨rfl,rfl⟩;go_wp2_with fail
   refine u.out.mono ?_;rintro e w1 ⟨rfl,rfl⟩;go_wp2_with fail
   clear x u;go_loopw [19,5] (fun vi vr wr=> ∃(k:Nat)(rs:List Nat),k≤n∧vi= .int .i64 k∧Below w.heap.size w wr∧b7 p g w.heap.size wr vr rs (meets (xs.take k) d)) (fun vi _ _=>n- (intOf vi).toNat)
   case atStart=>exact⟨0,[],Nat.zero_le _,rfl,Below.refl _ _,⟨World.ownsRow_nil _ _ _ _,rfl,fun i h=>absurd h (Nat.not_lt_zero _)⟩⟩
   case round=>
    obtain⟨k,rs,hk,rfl,hB,hT⟩:=hrel;obtain⟨va,vc,rfl⟩:=bd hT.own;have A:=Lib.hid hB;have T:=Lib.hid hT;clear hB hT;by_cases P4:k<n
    ·have QE:(k:Int)<n:=by omega
     obtain⟨ab,ao,rfl,P5⟩:=hq.out k P4;have hc:=ak A.out P5;obtain⟨P6,P7⟩:=hx.out k P4;have P8:=Lib.hid P6;have P9:=Lib.hid P7;have Qu:Hid (xs.take (k+1)=xs.take k++ [xs.getD k none]):=TS.lY (by have:=E.out;omega);clear P5 P6 P7;obtain⟨wo,rfl⟩:∃wo:World,wo=wr:=⟨_,rfl⟩
     go_wp2_with fail
     go_loopw [25,5] (fun vj vr wr=> ∃(j:Nat)(rs:List Nat),j≤C∧vj= .int .i64 j∧Below w.heap.size w wr∧b7 p g w.heap.size wr vr rs (meets (xs.take k) d++(d.take j).filterMap fun y=>cv (xs.getD k none) y)) (fun vj _ _=>C- (intOf vj).toNat)
     case atStart=>exact⟨0,rs,Nat.zero_le _,rfl,A.out,by simpa using T.out⟩
     case round=>
      obtain⟨j,L,QG,rfl,P_,U⟩:=hrel;obtain⟨QH,QI,rfl⟩:=bd U.own;have m:=Lib.hid P_;have D:=Lib.hid U;clear P_ U;by_cases N:j<C
      ·have Qv:(j:Int)<C:=by omega
       obtain⟨QJ,QK,rfl,Qa⟩:=Qp.out j N;have K:=ak m.out Qa;obtain⟨Qb,Qc⟩:=hy.out j N;have hI:=Lib.hid (A8 len p g (f k) (Y j) (xs.getD k none) (d.getD j none) wr (H.out.below m.out) P8.out Qb P9.out Qc);have O:Hid (d.take (j+1)=d.take j++ [d.getD j none]):=TS.lY (by have:=z.out;omega);have P:L.length≤1099511627776:=by
        have h1:=D.out.len;have h2:=tj (xs.take k) d;have h3:=List.length_filterMap_le (fun y=>cv (xs.getD k none) y) (d.take j);simp only[List.length_append,List.length_take]at h1 h2 h3;have h4:min k xs.length*d.length≤1048575*1048576:=Nat.mul_le_mul (by have:=E.out;omega) (by have:=z.out;omega);have:=z.out;omega
       clear Qa Qb Qc;cases G:cv (xs.getD k none) (d.getD j none)with
       |none=>
        have s:=hI.out;unfold lj at s;rw[G]at s;have V:=Lib.hid s;have hR:Hid (((d.take (j+1)).filterMap fun y=>cv (xs.getD k none) y)=(d.take j).filterMap fun y=>cv (xs.getD k none) y):=by unfold Hid;rw[O.out,List.filterMap_append];simp[-List.getD_eq_getElem?_getD,G]
        clear hI s G;go_wp2_with fail
        refine V.out.mono ?_;rintro e W ⟨X,rfl⟩;have r:=Lib.hid X.below;clear X;go_wp2_with fail
        refine⟨⟨j+1,L,by omega,by go_num,m.out.trans (r.out.mono m.out.size),by rw[hR.out];exact D.out.below r.out⟩,?_⟩;first|omega|(simp[intOf];omega)
       |some tz=>
        have s:=hI.out;unfold lj at s;rw[G]at s;have V:=Lib.hid s;have hR:Hid (((d.take (j+1)).filterMap fun y=>cv (xs.getD k none) y)=((d.take j).filterMap fun y=>cv (xs.getD k none) y)++ [tz]):=by unfold Hid;rw[O.out,List.filterMap_append];simp[-List.getD_eq_getElem?_getD,G]
        clear hI s G;go_wp2_with fail
        refine V.out.mono ?_;rintro e W ⟨X,zb,Qd,rfl⟩;have r:=Lib.hid (m.out.trans (X.below.mono m.out.size));have l:=Lib.hid (D.out.below X.below);have Qe:=Lib.hid Qd;have J:=Lib.hid (l.out.own.alloc (.cells #[.pointer (some ⟨zb,0,none⟩)] 179));clear X Qd;go_wp2_with (first|(at_builtin;refine wpList_append_own_at _ rfl _ _ 122 rfl w.heap.size 179 i1 (.pointer none) 1 8 Tryz.underlying122 hj Qr Qs Qt rfl (by decide) _ _ _ rfl J.out ⟨W.heap.size,0,none⟩ 1 1 [.pointer (some ⟨zb,0,none⟩)] rfl rfl (TS.dP W _ _) (TS.one_one rfl) ?c3 ?c4 ?c5 ?_)|fail)
        case c3=>unfold maxLen;omega
        case c4=>omega
        case c5=>have:=r.out.size;(try simp);omega
        intro v' w3 B Qf _ Qw;obtain⟨a3,c3,rfl⟩:=bd B;have Qx:Hid (Below w.heap.size w w3):=((r.out.alloc r.out.size _).grown Qf (by have:=r.out.size;(try simp);omega) fun b S=>(l.out.own.lt b S).1)
        have Qy:=Lib.hid (l.out.more B Qe.out);clear B Qf Qw J;go_wp2_with fail
        refine⟨⟨j+1,L++ [zb],by omega,by go_num,Qx.out,by rw[hR.out,←List.append_assoc];simpa using Qy.out⟩,?_⟩;first|omega|(simp[intOf];omega)
      ·have Qz:¬(j:Int)<C:=by omega
       have QA:Hid (d.take j=d):=List.take_of_length_le (by have:=z.out;omega);go_wp2_with fail
       refine⟨⟨k+1,L,by omega,by go_num,m.out,?_⟩,?_⟩
       ·have:=D.out
        rw[QA.out]at this;rw[Qu.out,Bd];exact this
       ·first|omega|(simp[intOf];omega)
    ·have Qz:¬(k:Int)<n:=by omega
     have QB:Hid (xs.take k=xs):=List.take_of_length_le (by have:=E.out;omega);have l:=T.out;rw[QB.out]at l;obtain⟨q,a3,c3,e3,Qg,Qh,Qi,QC,Qj⟩:=lk (H.out.below A.out) l fun b S o=>H.out.kw.aI (l.own.lt b S).1 o;have P:rs.length≤1099511627776:=by
      have h1:=l.len;have h2:=tj xs d;have h4:xs.length*d.length≤1048576*1048576:=Nat.mul_le_mul (by have:=E.out;omega) (by have:=z.out;omega);omega
     obtain⟨rfl,rfl⟩:va=a3∧vc=c3:=by cases e3;exact⟨rfl,rfl⟩
     have Qk:=Lib.hid (ti len q g va rs.length vc (fun i=>rs.getD i 0) (meets xs d) wr l.len P Qh Qi Qj Qq.out);have Ql:=Lib.hid Qg;clear l Qh Qi QC Qj e3 Qg T;go_wp2_with fail
     refine Qk.out.mono ?_;rintro e W ⟨q2,v2,QD,rfl,Qm,Qn,l,r,Qo⟩;have hR:Hid (∃q v rs,Ending.returned v2= .returned v∧aL p q w.heap.size∧aq q g W∧b7 q g w.heap.size W v rs (bU xs d)∧Below w.heap.size w W∧∀b,v.ownBlock=some b→∀o,q b o=none):=
      ⟨q2,v2,QD,rfl,Ql.out.trans Qm A.out.size,Qn,by rw[hm.out];exact⟨je l.own A.out.size,l.len,l.cg⟩,A.out.trans (r.mono A.out.size),Qo⟩
     clear Qm Qn l r Qo Qk;go_wp2_with fail
     go_ret;exact hR.out
end Go.Proofs.YtkfaiocajcjomaaGreatDoor
namespace TS
open Go Go.RowKit Go.Proofs.YtkfaiocajcjomaaGreatDoor
inductive dh (len:Nat):U→Prop
 |mk {u:U}:Vt len u→Vt len (under u)→((bare u).k=11→∃y,(bare u).un= [y]∧y.k≠16)→(under u).k≠2→(under u).k≠14→(under u).k≠11→(under u).k≠15→(under u).k≠16→(∀e∈(under u).es,((under u).k=3∨(under u).k=5)→dh len e)→dh len u
theorem Bh{P:Program}{w c:World}{X:Nat→Prop}(h:Kept X w c)(d:∀b,X b→¬Plain w b){v:Value}(f:eD P w v):eD P c v:=by
 obtain⟨t,g,b,i,j,e,h1,h2,h3,k,l,cs,T,a⟩:=f;refine⟨t,g,b,i,j,e,h1,h2,h3,k,l,cs,T,?_⟩;rw[h.block b (Array.getElem?_eq_some_iff.1 a).1 fun m=>d b m ⟨cs,T,a⟩];exact a
theorem aq.kept{p:Pm}{g:Ge}{w a:World}{X:Nat→Prop}(h:aq p g w)(k:Kept X w a)(c:∀b,X b→¬Plain w b)(d:¬X 5):aq p g a:=
 h.own k (fun b e o=>by
  cases f:p b o with
  |none=>rfl
  |some v=>exact absurd (h.pl _ _ _ f) (c b e)) d
end TS
namespace Go.Proofs.YtkfaiocajcjomaaGreatDoor
open Go.RowKit TS
theorem bQ:KeyLaw Tryz.prog 39 (eD Tryz.prog):=zS Tryz.underlying39
theorem dr{t b:Nat}{w:World}(h:bP t)(a:Plain w b):eD Tryz.prog w (.iface t (.pointer (some ⟨b,0,none⟩))):=by
 obtain⟨c,i,j,h1,h2,h3,d,e⟩:=h;exact⟨t,c,b,i,j,rfl,h1,h2,h3,d,e,a⟩
theorem dt(w:World):(zeroValue 4).run Tryz.prog w= .ok (.bool false) w:=by kernel_rfl
theorem Bi{p:Pm}{g:Ge}{u:U}{len:Nat}(x:Value)(w:World)(hw:KW p w)(hu:Vt len u)(m:TS.Node p g u x):Calls Tryz.prog 93 #[x] w fun e n=>e= .returned (.bool false)∧w=n:=by
 obtain⟨b,d,f,o⟩:=hu.strip m;obtain⟨r,s,rfl⟩:=m.val;have q:=Lib.hid (mN _ b _ p f o w hw);obtain⟨aa,i,a,_⟩:=hu.bare;have c:=(d.tag i a).2;have j:bf (bare u).k≠211:=by
  have l:=aa.aB;rcases k_ c.1 c.2 i l.1 l.2 a with h|h|h|h|h|h|h|h|h|h
  all_goals first|(rw[h];decide)|(rcases h with h|h|h<;>rw[h]<;>decide)
 generalize bf (bare u).k=t at*;have h1:=ai oN t b j;clear d f o m hu hw c j;go_enter Tryz.func93,Tryz.ntmps93;go_wp2_with fail
 refine q.out.mono ?_;rintro e n ⟨rfl,rfl⟩;go_wp2_with fail
 go_ret;exact⟨rfl,rfl⟩
theorem tk(a:Option Addr)(n c:Nat)(w:World):Calls Tryz.prog 92 #[.string ByteArray.empty,.slice a n c] w fun e b=>(∃o,e= .returned (.pointer (some o)))∧Below w.heap.size w b:=by
 go_enter Tryz.func92,Tryz.ntmps92;go_wp2_with fail
 go_ret;exact⟨⟨_,rfl⟩,(Below.refl _ _).alloc (Nat.le_refl _) _⟩
theorem j7(s:ByteArray)(b:(s.toList== [])=false)(a:Option Addr)(n c:Nat)(w:World):Calls Tryz.prog 92 #[.string s,.slice a n c] w fun e d=>(∃o,e= .returned (.pointer (some o)))∧Below w.heap.size w d:=by
 have f:(s.toList= [])=False:=by simpa using b
 go_enter Tryz.func92,Tryz.ntmps92;go_wp2_with fail
 go_ret;exact⟨⟨_,rfl⟩,(Below.refl _ _).alloc (Nat.le_refl _) _⟩
theorem tu(tb n c:Nat)(a:Option Addr)(f:Nat→Nat)(r:Bool)(w:World)(h2:w.cell? ⟨tb,2,none⟩=some (.slice a n c))(h3:w.cell? ⟨tb,3,none⟩=some (.bool r))(b:bA w a n f)(g:0<n)(h1:w.cell? ⟨f 0,1,none⟩=some .nilIface)(m:Option Nat):
 Calls Tryz.prog 94 #[.pointer (some ⟨tb,0,none⟩),.map m] w fun e d=>e= .returned (.bool r)∧Below w.heap.size w d:=by
 have hk:=ar.alloc w (.cells #[.map m] 145);have h:=Lib.hid (o4 a n c f _ (b.cV hk) g (hk.cell h1));have i:=World.block_lt_of_cell? _ _ h2;clear b h1 hk;go_enter Tryz.func94,Tryz.ntmps94;go_wp2_with fail
 refine h.out.mono ?_;rintro e d ⟨rfl,rfl⟩;go_wp2_with fail
 go_ret;exact⟨rfl,(Below.refl _ _).alloc (Nat.le_refl _) _⟩
theorem tw(tb n c:Nat)(a:Option Addr)(f:Nat→Nat)(w:World)(h2:w.cell? ⟨tb,2,none⟩=some (.slice a n c))(b:bA w a n f):
 Calls Tryz.prog 95 #[.pointer (some ⟨tb,0,none⟩)] w fun e d=>e= .returned (.bool (decide (n=0)))∧w=d:=by
 have g:=Lib.hid (mM a n c f _ b);clear b;go_enter Tryz.func95,Tryz.ntmps95;go_wp2_with fail
 refine g.out.mono ?_;rintro e d ⟨rfl,rfl⟩;go_wp2_with fail
 go_ret;exact⟨rfl,rfl⟩
end Go.Proofs.YtkfaiocajcjomaaGreatDoor
