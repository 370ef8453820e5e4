import Derived.Test.YtkochlhejabdcaaGreatDoorYbu
import Derived.Test.YtkochlhejabdcaaGreatDoorYbv
set_option maxRecDepth 100000
set_option maxHeartbeats 8000000
set_option linter.all false
namespace TS
open Go Go.RowKit Go.Proofs.YtkochlhejabdcaaGreatDoor Go.Proofs.Tryz
structure rU(D:Dl)(T:List U)(fds:List aC):Prop where
 len:fds.length=D.len
 tl:T.length=D.len
 un:∀i(h:i<fds.length)(c:i<T.length),fds[i].un=T[i]
 ty:∀(C:BC)(h:C.i<T.length),C.D=D→C.T=T→iq C T[C.i]
 lo:∀t∈T,1≤t.k∧t.k≤10∧t.k≠2
 ms:∀i(h:i<fds.length),fds[i].ms.length≤1048576∧(fds[i].ms.Pairwise fun a b=>(a.nm.toList==b.nm.toList)=false)∧∀m∈fds[i].ms,m.sig.k=7∧(0≤m.sig.m∧m.sig.m.toNat≤m.sig.es.length)∧(m.sig.v=true→0<m.sig.m.toNat∧∃e,m.sig.es[m.sig.m.toNat- 1]?=some e∧e.k=4)∧(m.nm.toList== [95])=false∧
  ∀C:BC,C.D=D→C.T=T→C.i=D.len→∀e∈m.sig.es,iq C e
 ct:aZ T+dn fds≤1099511627776
def xK(pa:Pm)(D:Dl)(T:List U)(w:World)(e:Ending)(a:World):Prop:=
 ∃(C:BC)(q:Pm)(g:Ge),e= .returned (Xp C.bb)∧C.D=D∧C.T=T∧C.i=D.len∧C.pa=pa∧C.B0=w.heap.size∧BS C q g (.slice none 0 0) [] a∧Below w w a
end TS
namespace Go.Proofs.YtkochlhejabdcaaGreatDoor
open Go.RowKit TS Tryz
theorem Hb:(Tryz.prog.info? 60).map (fun i=>(i.zero,i.size,i.bytes))=some (some (.pointer none),1,8):=zk
theorem Hc(pa:Pm)(D:Dl)(dc:Nat)(T:List U)(fds:List aC)(hO:rU D T fds)(hD:ca pa D fds)(w:World)(hw:KW pa w)(PQ:bU w):
 Xk 19 #[Xd D dc] w (xK pa D T w):=by
 have hG:=zb (PQ 65 zd zd);simp only at hG;have SA:5<(w.alloc (.cells #[.string ⟨#[112]⟩,.string ⟨#[112]⟩] 100)).heap.size:=zp;have aa:Below w w (w.alloc (.cells #[.string ⟨#[112]⟩,.string ⟨#[112]⟩] 100)):=zB.alloc zl _;have P7:bU (w.alloc (.cells #[.string ⟨#[112]⟩,.string ⟨#[112]⟩] 100)):=fun c h1 h2=>az aa (PQ c h1 h2);have hE:=zh (Gl _ P7 SA);have SC:=zh hw;have SD:=zh PQ;have E:=zh hO;have Rr:=zh hD;have SE:=hD.jV;obtain⟨i0,Qt,PR,PS,PT⟩:=info_parts Hb;clear hw PQ hO hD P7;go_enter func19,ntmps19;go_wp2_with fail
 refine(AF _ _ _).mono ?_;rintro e1 w1 ⟨rfl,rfl⟩;go_wp2_with fail
 refine hE.out.mono ?_;rintro e2 a ⟨q2,eb,eo,ib,rfl,QA,PU,QB,Rs,Rt,Ru,Rv,Rw,SF,SG,Rx⟩;have P8:Below w w a:=aa.trans (PU.mono zs);have QC:a.heap[w.heap.size]?=some (.cells #[.string ⟨#[112]⟩,.string ⟨#[112]⟩] 100 (0,0)):=(PU.block _ zs).trans (cA rfl);obtain⟨q,QD⟩:=GZ SC.out QC QA P8 (fun b o v e=>by have:=QB b o v e;simpa using this) hG SF SG ⟨Rs,Rt,Ru,Rv,Rw,Rx⟩;have PH:=zh QD;have QZ:=zh P8;have S6:w.heap.size+1≤a.heap.size:=by have:=PU.size;simp at this;omega
 clear QA PU QB Rs Rt Ru Rv Rw Rx hE aa P8 QC QD;go_wp2_with fail
 refine(qC _ _ _ _).mono ?_;rintro e3 w3 ⟨rfl,rfl⟩;go_wp2_with fail
 refine(A_ _).mono ?_;rintro e4 w4 ⟨rfl,Ry⟩;have PW:w4=jT (ew a w.heap.size eb):=Ry;have SH:w4.heap.size≤a.heap.size+6∧a.heap.size+6≤w4.heap.size:=by rw[PW];simp[jT,ew]
 have Qu:Below (ew a w.heap.size eb).heap.size (ew a w.heap.size eb) w4:=by rw[PW];exact(((zB.alloc zl _).alloc zs _).alloc (by simp<;>omega) _).alloc (by simp<;>omega) _
 have hA1:(ew a w.heap.size eb).heap[a.heap.size+1]?=some (.cells #[.int .i64 0,.pointer none,.string ⟨#[99,111,109,112,97,114,97,98,108,101]⟩,.nilIface] 134 (0,0)):=cA zs;have hA0:(ew a w.heap.size eb).heap[a.heap.size]?=some (.cells #[Xp w,.slice none 0 0,ah 60 eb,.nilIface,.slice none 0 0] 65 (0,0)):=by unfold ew;rw[dC zs];exact cA rfl
 have Q3:=(Qu.block _ (by simp[ew])).trans hA1;have Q4:=(Qu.block _ (by simp[ew];omega)).trans hA0;have QE:Xc w4 (a+1) 3 .nilIface:=by simp[World.cell?,Q3]
 have QF:w4.frozen? (Xa (a+1) 3)=false:=by simp[World.frozen?,Q3]
 have QG:Xc w4 a 3 .nilIface:=by simp[World.cell?,Q4]
 have QH:w4.frozen? (Xa a 3)=false:=by simp[World.frozen?,Q4]
 have Q5:=A2 (a.heap.size+1) 37 (Xa (a+5) 0) zd zd w4 zo QE QF;rw[show w4.heap.size=a.heap.size+6 by omega]at Q5;have hN:=zh Q5;rw[←PW]at PH;have Rz:=zh (show Below a a w4 from((zB.alloc zl _).alloc zs _).trans (Qu.mono (by simp[ew];omega)));clear Ry PW Qu hA1 hA0 Q3 Q4 QE QF Q5;go_wp2_with fail
 refine hN.out.mono ?_;rintro e5 w5 ⟨rfl,PI⟩;have h1:Xc w5 a 3 .nilIface:=by rw[PI,World.cell?_alloc_lt _ _ _ zp,World.cell?_setCell_other _ _ _ _ (fun e=>absurd (congrArg Addr.block e) zs)];exact QG
 have h2:w5.frozen? (Xa a 3)=false:=by rw[PI,World.frozen?_alloc_old _ _ _ zp,World.frozen?_setCell];exact QH
 have h3:a.heap.size<w5.heap.size:=by rw[PI];simp;omega
 have P9:Hid (fX pa w.heap.size a.heap.size eb eo ib (a.heap.size+6) (a.heap.size+1) (a.heap.size+5) w.heap.size [] [] q (.slice none 0 0) (w5.setCell (Xa a 3) (Xi 60 (a+6)))):=by rw[PI];exact PH.out
 have RA:Hid (Below w w (w5.setCell (Xa a 3) (Xi 60 (a+6)))):=by
  rw[PI];exact QZ.out.trans ((((Rz.out.setCell zs _).alloc zp _).setCell zl _).mono zo)
 have Tk:a.heap.size+7≤w5.heap.size:=by rw[PI];simp;omega
 clear hN PI PH SH QG QH;go_wp2_with fail
 go_loopw [25] (fun vk wr=> ∃(k:Nat)(f P_:List Nat)(q:Pm)(A:Value),k≤D.len∧vk= .int .i64 k∧f.length=k∧fX pa w.heap.size a.heap.size eb eo ib (a.heap.size+6) (a.heap.size+1) (a.heap.size+5) w.heap.size f P_ q A wr∧Below w w wr∧a.heap.size+7≤wr.heap.size) (fun vk _=>D.len- (intOf vk).toNat)
 case atStart=>exact⟨0,[],[],q,_,Nat.zero_le _,rfl,rfl,P9.out,RA.out,by simp;omega⟩
 case round=>
  obtain⟨k,f,P_,q1,Tl,Tn,rfl,RC,Q6,QI,RE⟩:=hrel;have M:=zh Q6;have Qa:=zh QI;have R:=zh RC;obtain⟨da,A,rfl⟩:=a_ Q6.row;clear Q6 QI RC;by_cases To:k<D.len
  ·have S7:(k:Int)<D.len:=zo
   go_wp2_with fail
   refine qB (fun _=>True) (.one 0 true (.one 1 true (.one 2 true (.one 3 true (.one 5 true (.two 4 6 (.one 6 false (.one 7 false (.one 8 false (.one 9 false (.one 10 true (.one 11 true (.one 12 false .done))))))) (.two 4 7 (.one 7 false (.one 8 false (.one 9 false (.one 10 true (.one 11 true (.one 12 false .done)))))) (.two 4 8 (.one 8 false (.one 9 false (.one 10 true (.one 11 true (.one 12 false .done))))) (.one 4 false (.one 9 false (.one 10 true (.one 11 true (.one 12 false .done))))))))))))) zk zk zk zd trivial (fun _=> ?_);have PJ:=M.out.below zB.drew;have S8:a.heap.size+7≤wr.drew.heap.size:=RE;have SI:Below w w wr.drew:=Qa.out.drew;generalize wr.drew=r at*;have y0:=PJ.c0;have y1:=PJ.c1;have SJ:=PJ.f1;have QJ:=zb y0;simp only at QJ;have S:=zh (show f.length≤1048576 by have:=R.out;omega);have Qb:=zh (uD a.heap.size (Xa w 0) ⟨#[84]⟩ r y0);have B:=A1 r.heap.size (r.alloc (.cells #[.int .i64 0,Xp w,.string ⟨#[84]⟩,.nilIface] 134)) zs (kj r _ rfl) (mw r _ rfl);rw[show(r.alloc (.cells #[.int .i64 0,Xp w,.string ⟨#[84]⟩,.nilIface] 134)).heap.size=r.heap.size+1 by simp]at B;obtain⟨J,Qv⟩:∃J,Hid (J=(((r.alloc (.cells #[.int .i64 0,Xp w,.string ⟨#[84]⟩,.nilIface] 134)).setCell (Xa r 3) (Xi 60 (r+1))).alloc (.cells (gF r.heap.size) 130))):=⟨_,rfl⟩
   have S9:J.heap.size≤r.heap.size+2∧r.heap.size+2≤J.heap.size:=by rw[Qv.out];simp
   have Qc:Below r r J:=by rw[Qv.out];exact((zB.alloc zl _).setCell zl _).alloc zs _
   have Qw:Below r r (J.alloc (.cells #[Xp (r+1)] 60)):=Qc.alloc zo _;rw[←Qv.out]at B;have Q:=zh B;have Tp:Xc J a 1 (.slice da f.length A):=az Qc y1;have S_:a.heap.size<J.heap.size:=zo;have PX:=zh (bw PJ.row Qw);have PY:=zh (show ∀j u,[Value.pointer (Xa (r+1) 0)][j]?=some u→(J.alloc (.cells #[Xp (r+1)] 60)).cell? (((Xa J 0):Addr).add j)=some u from TS.eD J (Xp (r+1)) 60);clear B Qc
   have PZ:Hid (∀a6 C F,F.ownsRow (a.heap.size+1) 60 1 (.slice a6 (f.length+1) C) (f.length+1) (f.map pv++ [pv (r.heap.size+1)])→(J.alloc (.cells #[Xp (r+1)] 60)).grownBy F (Value.slice da f.length A).ownBlock→((Value.slice a6 (f.length+1) C).ownBlock=(Value.slice da f.length A).ownBlock∨(Value.slice a6 (f.length+1) C).ownBlock=some (J.alloc (.cells #[Xp (r+1)] 60)).heap.size)→
    Xc F a 1 (.slice da f.length A)∧F.frozen? (Xa a 1)=false∧∃q6,Hid ((f++ [r.heap.size+1]).length=k+1∧fX pa w.heap.size a.heap.size eb eo ib (a.heap.size+6) (a.heap.size+1) (a.heap.size+5) w.heap.size (f++ [r.heap.size+1]) (P_++ [r.heap.size]) q6 (.slice a6 (f.length+1) C) (F.setCell (Xa a 1) (.slice a6 (f.length+1) C))∧Below w w (F.setCell (Xa a 1) (.slice a6 (f.length+1) C))∧a.heap.size+7≤(F.setCell (Xa a 1) (.slice a6 (f.length+1) C)).heap.size)):=fun a6 C F hr hg hv=>by
    have V:Kept (fun c=>(Value.slice da f.length A).ownBlock=some c) (J.alloc (.cells #[Xp (r+1)] 60)) F:=(Kept.refl _ _).grown hg fun k hk _=>hk;have QK:(Value.slice da f.length A).ownBlock≠some a.heap.size:=fun e=>by have:=(PJ.row.lt _ e).1;omega
    have QL:a.heap.size<(J.alloc (.cells #[Xp (r+1)] 60)).heap.size:=by simp only[World.size_alloc];omega
    have SK:Below w w (F.setCell (Xa a 1) (.slice a6 (f.length+1) C)):=((SI.trans (Qw.mono zo)).grown hg zo fun k hk=>by have:=(PJ.row.lt _ hk).1;omega).setCell zp _;have Tq:(F.setCell (Xa a 1) (.slice a6 (f.length+1) C)).heap.size=F.heap.size:=zs;have X:=V.size;have Tr:a.heap.size+7≤(J.alloc (.cells #[Xp (r+1)] 60)).heap.size:=by simp only[World.size_alloc];omega
    refine⟨by rw[V.cell QL QK];exact az Qw y1,by rw[V.frozen QL QK];exact TS.frozen_kept Qw QJ SJ,?_⟩;rw[show(J.alloc (.cells #[Xp (r+1)] 60)).heap.size=r.heap.size+3 by simp only[World.size_alloc];omega]at hv;rw[Qv.out]at hg;obtain⟨q6,h6⟩:=PJ.step ⟨by omega,by omega,by omega,by omega⟩ hg hr hv;exact⟨q6,by have:=R.out;simp;omega,h6,SK,by omega⟩
   (refine dR rfl (by rfl) (by intro W hW;go_simp<;>with_reducible rfl) ?_;try simp only[Act.put,oa,ob,oc])
   (refine dR rfl (by rfl) (by intro W hW;go_simp<;>with_reducible rfl) ?_;try simp only[Act.put,oa,ob,oc])
   (refine dR rfl (by rfl) (by intro W hW;go_simp<;>with_reducible rfl) ?_;try simp only[Act.put,oa,ob,oc])
   (refine dR rfl (by rfl) (by intro W hW;go_simp<;>with_reducible rfl) ?_;try simp only[Act.put,oa,ob,oc])
   (refine dR rfl (by rfl) (by intro W hW;go_simp<;>with_reducible rfl) ?_;try simp only[Act.put,oa,ob,oc])
   refine ki rfl rfl (by rfl) (by rfl) (fun K l=> ?_) (fun K l=> ?_)
   ·
    go_simp
    ((try simp only[]);refine l _ _ trivial (fun _=> ?_);clear l K;try simp only[Act.put,oa,ob,oc])
    refine dx rfl (by rfl) (fun K l=> ?_);go_simp
    go_at_call 48
    refine Qb.out.mono ?_;rintro e1 w1 ⟨rfl,rfl⟩;((try simp only[]);refine l _ _ trivial (fun _=> ?_);clear l K;try simp only[Act.put,oa,ob,oc])
    refine dx rfl (by rfl) (fun K l=> ?_);go_simp
    go_at_call 45
    refine Q.out.mono ?_;rintro e1 w1 ⟨rfl,RF⟩;subst w1;((try simp only[]);refine l _ _ trivial (fun _=> ?_);clear l K;try simp only[Act.put,oa,ob,oc])
    refine dx rfl (by rfl) (fun K l=> ?_);go_simp
    ((try simp only[]);refine l _ _ trivial (fun _=> ?_);clear l K;try simp only[Act.put,oa,ob,oc])
    refine dx rfl (by rfl) (fun K l=> ?_);refine TS.iW _ _ 62 rfl (a.heap.size+1) 60 i0 (.pointer none) 1 8 underlying62 Qt PR PS PT rfl zd (.slice da f.length A) f.length (f.map pv) rfl PX.out (Xa J 0) 1 1 [Xp (r+1)] rfl rfl PY.out (TS.one_one rfl) ?_ ?_ ?_ ?_
    ·have:=S.out;unfold maxLen;omega
    ·have:=S.out;omega
    ·simp only[World.size_alloc];omega
    intro v6 F p G _ H;obtain⟨a6,C,rfl⟩:=a_ p;((try simp only[]);refine l _ _ trivial (fun _=> ?_);clear l K;try simp only[Act.put,oa,ob,oc])
    (refine dR rfl (by rfl) (by intro W hW;go_simp<;>with_reducible rfl) ?_;try simp only[Act.put,oa,ob,oc])
    (refine dR rfl (by rfl) (by intro W hW;go_simp<;>with_reducible rfl) ?_;try simp only[Act.put,oa,ob,oc])
    obtain⟨x6,Q7,q6,z⟩:=PZ.out _ _ _ p G H;clear p G H;refine dx rfl (by rfl) (fun K l=> ?_);go_simp
    ((try simp only[]);refine l _ _ trivial (fun _=> ?_);clear l K;try simp only[Act.put,oa,ob,oc])
    refine jw ?_;go_wp2_with fail
    exact⟨⟨k+1,_,_,_,_,by omega,by go_num,z.out⟩,by first|omega|(simp[intOf];omega)⟩
   ·
    go_simp
    go_at_call 48
    refine Qb.out.mono ?_;rintro e1 w1 ⟨rfl,rfl⟩;((try simp only[]);refine l _ _ trivial (fun _=> ?_);clear l K;try simp only[Act.put,oa,ob,oc])
    refine ki rfl rfl (by rfl) (by rfl) (fun K l=> ?_) (fun K l=> ?_)
    ·skip
     go_simp
     ((try simp only[]);refine l _ _ trivial (fun _=> ?_);clear l K;try simp only[Act.put,oa,ob,oc])
     refine dx rfl (by rfl) (fun K l=> ?_);go_simp
     go_at_call 45
     refine Q.out.mono ?_;rintro e1 w1 ⟨rfl,RF⟩;subst w1;((try simp only[]);refine l _ _ trivial (fun _=> ?_);clear l K;try simp only[Act.put,oa,ob,oc])
     refine dx rfl (by rfl) (fun K l=> ?_);go_simp
     ((try simp only[]);refine l _ _ trivial (fun _=> ?_);clear l K;try simp only[Act.put,oa,ob,oc])
     refine dx rfl (by rfl) (fun K l=> ?_);refine TS.iW _ _ 62 rfl (a.heap.size+1) 60 i0 (.pointer none) 1 8 underlying62 Qt PR PS PT rfl zd (.slice da f.length A) f.length (f.map pv) rfl PX.out (Xa J 0) 1 1 [Xp (r+1)] rfl rfl PY.out (TS.one_one rfl) ?_ ?_ ?_ ?_
     ·have:=S.out;unfold maxLen;omega
     ·have:=S.out;omega
     ·simp only[World.size_alloc];omega
     intro v6 F p G _ H;obtain⟨a6,C,rfl⟩:=a_ p;((try simp only[]);refine l _ _ trivial (fun _=> ?_);clear l K;try simp only[Act.put,oa,ob,oc])
     (refine dR rfl (by rfl) (by intro W hW;go_simp<;>with_reducible rfl) ?_;try simp only[Act.put,oa,ob,oc])
     (refine dR rfl (by rfl) (by intro W hW;go_simp<;>with_reducible rfl) ?_;try simp only[Act.put,oa,ob,oc])
     obtain⟨x6,Q7,q6,z⟩:=PZ.out _ _ _ p G H;clear p G H;refine dx rfl (by rfl) (fun K l=> ?_);go_simp
     ((try simp only[]);refine l _ _ trivial (fun _=> ?_);clear l K;try simp only[Act.put,oa,ob,oc])
     refine jw ?_;go_wp2_with fail
     exact⟨⟨k+1,_,_,_,_,by omega,by go_num,z.out⟩,by first|omega|(simp[intOf];omega)⟩
    ·skip
     go_simp
     go_at_call 45
     refine Q.out.mono ?_;rintro e1 w1 ⟨rfl,RF⟩;subst w1;((try simp only[]);refine l _ _ trivial (fun _=> ?_);clear l K;try simp only[Act.put,oa,ob,oc])
     refine ki rfl rfl (by rfl) (by rfl) (fun K l=> ?_) (fun K l=> ?_)
     ·skip
      go_simp
      ((try simp only[]);refine l _ _ trivial (fun _=> ?_);clear l K;try simp only[Act.put,oa,ob,oc])
      refine dx rfl (by rfl) (fun K l=> ?_);go_simp
      ((try simp only[]);refine l _ _ trivial (fun _=> ?_);clear l K;try simp only[Act.put,oa,ob,oc])
      refine dx rfl (by rfl) (fun K l=> ?_);refine TS.iW _ _ 62 rfl (a.heap.size+1) 60 i0 (.pointer none) 1 8 underlying62 Qt PR PS PT rfl zd (.slice da f.length A) f.length (f.map pv) rfl PX.out (Xa J 0) 1 1 [Xp (r+1)] rfl rfl PY.out (TS.one_one rfl) ?_ ?_ ?_ ?_
      ·have:=S.out;unfold maxLen;omega
      ·have:=S.out;omega
      ·simp only[World.size_alloc];omega
      intro v6 F p G _ H;obtain⟨a6,C,rfl⟩:=a_ p;((try simp only[]);refine l _ _ trivial (fun _=> ?_);clear l K;try simp only[Act.put,oa,ob,oc])
      (refine dR rfl (by rfl) (by intro W hW;go_simp<;>with_reducible rfl) ?_;try simp only[Act.put,oa,ob,oc])
      (refine dR rfl (by rfl) (by intro W hW;go_simp<;>with_reducible rfl) ?_;try simp only[Act.put,oa,ob,oc])
      obtain⟨x6,Q7,q6,z⟩:=PZ.out _ _ _ p G H;clear p G H;refine dx rfl (by rfl) (fun K l=> ?_);go_simp
      ((try simp only[]);refine l _ _ trivial (fun _=> ?_);clear l K;try simp only[Act.put,oa,ob,oc])
      refine jw ?_;go_wp2_with fail
      exact⟨⟨k+1,_,_,_,_,by omega,by go_num,z.out⟩,by first|omega|(simp[intOf];omega)⟩
     ·skip
      go_simp
      ((try simp only[]);refine l _ _ trivial (fun _=> ?_);clear l K;try simp only[Act.put,oa,ob,oc])
      refine dx rfl (by rfl) (fun K l=> ?_);go_simp
      ((try simp only[]);refine l _ _ trivial (fun _=> ?_);clear l K;try simp only[Act.put,oa,ob,oc])
      refine dx rfl (by rfl) (fun K l=> ?_);refine TS.iW _ _ 62 rfl (a.heap.size+1) 60 i0 (.pointer none) 1 8 underlying62 Qt PR PS PT rfl zd (.slice da f.length A) f.length (f.map pv) rfl PX.out (Xa J 0) 1 1 [Xp (r+1)] rfl rfl PY.out (TS.one_one rfl) ?_ ?_ ?_ ?_
      ·have:=S.out;unfold maxLen;omega
      ·have:=S.out;omega
      ·simp only[World.size_alloc];omega
      intro v6 F p G _ H;obtain⟨a6,C,rfl⟩:=a_ p;((try simp only[]);refine l _ _ trivial (fun _=> ?_);clear l K;try simp only[Act.put,oa,ob,oc])
      (refine dR rfl (by rfl) (by intro W hW;go_simp<;>with_reducible rfl) ?_;try simp only[Act.put,oa,ob,oc])
      (refine dR rfl (by rfl) (by intro W hW;go_simp<;>with_reducible rfl) ?_;try simp only[Act.put,oa,ob,oc])
      obtain⟨x6,Q7,q6,z⟩:=PZ.out _ _ _ p G H;clear p G H;refine dx rfl (by rfl) (fun K l=> ?_);go_simp
      ((try simp only[]);refine l _ _ trivial (fun _=> ?_);clear l K;try simp only[Act.put,oa,ob,oc])
      refine jw ?_;go_wp2_with fail
      exact⟨⟨k+1,_,_,_,_,by omega,by go_num,z.out⟩,by first|omega|(simp[intOf];omega)⟩
  ·have Ts:¬(k:Int)<D.len:=zo
   obtain rfl:k=D.len:=zo;have hO:=E.out;obtain⟨q3,Tt,Tu,SL,Qd,PK,QM⟩:=M.out.done D T (by have:=R.out;omega);injection SL with RG _ RH
   subst RG;subst RH;obtain⟨g,hg⟩:∃g,Hid (g=jQ eb eo ib (a.heap.size+6) (a.heap.size+1) (a.heap.size+5) w.heap.size f P_):=⟨_,rfl⟩
   have Qe:Hid (∀j,j<D.len→iM q3 g wr j∧q3 (g.ob j) 1=some (ptr g.pk)):=fun j hj=>by
    have L:j<f.length:=by have:=R.out;omega
    have Q8:j<P_.length:=by have:=M.out.ol;omega
    obtain⟨k1,k2,k3,k4⟩:=M.out.nm j L Q8;rw[hg.out];refine⟨⟨?_,?_⟩,?_⟩
    ·rw[jR L,jS Q8];exact k3
    ·rw[jR L];exact QM j L
    ·rw[jS Q8];exact PK _ _ _ k4
   have RI:Hid (∃s,q3 g.pk 0=some (.string s)):=by
    obtain⟨s,h⟩:=M.out.rT;rw[hg.out];exact⟨s,PK _ _ _ h⟩
   rw[←hg.out]at Qd;have Q9:=zh Qd;have Qx:=Qa;clear Qd M QM PK R hg P9 RA;go_wp2_with fail
   go_loopw [42] (fun vk wr=> ∃(i:Nat)(q:Pm)(g:Ge)(mv:Value)(ms:List Nat),i≤D.len∧vk= .int .i64 i∧L2 ⟨D,T,i,pa,w.heap.size,a.heap.size,da,A⟩ w q g mv ms wr) (fun vk _=>D.len- (intOf vk).toNat)
   case atStart=>exact⟨0,q3,g,_,[],Nat.zero_le _,rfl,Q9.out,fun j _ hj=>(Qe.out j hj).1,fun j hj=>absurd hj (Nat.not_lt_zero _),fun j hj=>(Qe.out j hj).2,RI.out,Nat.zero_le _,Qx.out,Nat.le_refl _⟩
   case round=>
    obtain⟨i,q4,g4,RJ,Q_,Tv,rfl,RK⟩:=hrel;have y:=zh RK;clear RK;by_cases Qf:i<D.len
    ·have SM:(i:Int)<D.len:=zo
     have PL:i<fds.length:=by have:=E.out.len;omega
     have Qy:i<T.length:=by have:=E.out.tl;omega
     obtain⟨wb,wo,Ra,ua,uc,ma,mc,h7,X,P4,_,_,_⟩:=Rr.out.at' i PL;have Qg:=E.out.un i PL Qy;have O:=(E.out.ms i PL).1;generalize fds[i]=d at h7 X P4 Qg O;have RM:=rQ ⟨D,T,i,pa,w.heap.size,a.heap.size,da,A⟩ d.un (by rw[Qg];exact E.out.ty ⟨D,T,i,pa,w.heap.size,a.heap.size,da,A⟩ Qy rfl rfl);have Rb:=E.out.lo _ (zm Qy);rw[←Qg]at Rb;have Rc:T[i]?=some d.un:=by rw[List.getElem?_eq_getElem Qy,Qg]
     obtain⟨z0,z1,z2,z3,z4,z5,z6⟩:TS.C7 wr wb (wo+i*8) d.un ua uc:=h7.world y.out.bs.ka;have z7:Xc wr wb (wo+i*8+7) (.slice ma d.ms.length mc):=y.out.bs.ka _ _ _ X;have Qh:=zb z0;simp only at Qh;have Re:Below wr wr ((wr.alloc (Xe d ua uc ma mc)).drew):=(zB.alloc zl _).drew;have SN:=gC Rc;have SO:=jK T (i+1);have RN:=zh (RM q4 g4 RJ Q_ ua uc _ (y.out.bs.below Re) (by have h1:=y.out.ct;have h2:=E.out.ct;have h3:Q_.length≤aZ (T.take i):=h1;omega) P4);have RP:g4.len=D.len:=y.out.bs.len;obtain⟨rb,ro,rfl,Rg⟩:=y.out.bs.c1.2 i zo;have y1:Xc wr a 1 (.slice (Xa rb ro) D.len A):=by have h1:=y.out.bs.c1.1;rwa [RP]at h1
     have yr:=y.out.bs.wb.kw _ _ _ Rg;have RR:=zb y1;have RS:=zb yr;simp only at RR RS;have QN:=zh Rg;have Qi:=zh Re;have RV:=zh Rc;have RX:=zh Rb;rw[Ra];clear h7 X P4 Qg RM Rb Rc Re SN SO RP Rg;go_wp2_with fail
     refine oR (fun W=>(Xc W a 1 (.slice (Xa rb ro) D.len A)∧Xc W rb (ro+i) (ptr (g4.nb i)))∧(Xl W wr d.un ua uc)) [(0,true),(1,true),(2,true),(3,true),(4,true),(5,true),(6,true),(7,true),(8,true),(9,true),(10,false),(11,false),(12,false)] (by(repeat' apply And.intro)<;>first|(simp[go_sem];done)|(go_keep;done)) (fun Y=> ?_);iterate 10 ((first|refine oS ?_|refine oF Y ?_);try simp only[Act.put,oa,ob,oc])
     refine oL fun K l=> ?_;go_simp;go_at_call 50
     refine RN.out.mono ?_;rintro e1 F ⟨x,q5,g5,SP,SQ,rfl,RY,PM,Z,SR,_,RZ⟩;have Qj:=RX.out;have I:bare d.un=d.un:=bR Qj.2.2 zo;have QO:under d.un=d.un:=G0 Qj;obtain⟨t5,b5,rt,Qz,rfl,hU,hr⟩:=jE RY (by rw[I,I]) (by rw[I];intro h;omega) (by rw[I];omega) (by rw[I];omega);have Rh:TS.Node q5 g5 d.un (ah rt Qz):=by
      rcases hr with⟨_,h⟩|⟨h,_⟩
      ·rwa [QO]at h
      ·rw[QO]at h;omega
     have R0:=G1 Rh Qj.1 Qj.2.1 Qj.2.2;obtain⟨K5,Tw,c5,R1,Qk,QP,Ri,Tx,R2⟩:=hU F PM.wb.kw;have Ta:=fun args w=>Go.MuLone.run_callFunc_enter R1 Qk QP args w;have Ql:g5.nb=g4.nb:=Z.gs.nb;have Rj:=y.out.wait Qf Qi.out Z;obtain⟨q6,P5,Qm,V⟩:=y.out.step Qf RV.out Qi.out PM Z RZ Rh;have R4:∀o v,Xc ((wr.alloc (Xe d ua uc ma mc)).drew) wr o v→Xc F wr o v:=fun o v h=>(jf y.out.bs Qi.out.size Z).2 _ _ _ zl h;have R5:Xc F a 1 (.slice (Xa rb ro) D.len A):=by
      have h1:=PM.c1.1;have h2:g5.len=D.len:=PM.len;rwa [h2]at h1
     have R6:Xc F rb (ro+i) (ptr (g4.nb i)):=PM.wb.kw _ _ _ (Z.gr.le _ _ _ QN.out);obtain⟨_,s0,s1,s2,s3,s4,s5,s6⟩:=Y;(try simp only[]);refine l _ _ (by(repeat' apply And.intro)<;>first|exact R5|exact R6|exact R4 _ _ za) fun Y=> ?_;clear l K;try simp only[Act.put,oa,ob,oc]
     clear s0 s1 s2 s3 s4 s5 s6;rw[show(⟨D,T,i,pa,w.heap.size,a.heap.size,.some (Xa rb ro),A⟩:BC).i=i from rfl,Ql]at P5 V;have P6:∀o v,(gF (g5.ob i))[o]?=some v→Xc F (g4.nb i) o v:=fun o v e=>by have h1:=Rj.1;rw[show(⟨D,T,i,pa,w.heap.size,a.heap.size,.some (Xa rb ro),A⟩:BC).i=i from rfl,Ql]at h1;simp only[World.cell?,h1];exact e
     have P:∀o,F.frozen? (Xa (g4.nb i) o)=false:=fun o=>by have h1:=Rj.1;rw[show(⟨D,T,i,pa,w.heap.size,a.heap.size,.some (Xa rb ro),A⟩:BC).i=i from rfl,Ql]at h1;simp[World.frozen?,h1]
     obtain⟨W7,R7⟩:∃W7,W7=(((((((F.setCell (Xa (g4.nb i) 3) (.int .i32 1)).setCell (Xa (g4.nb i) 6) (ah rt Qz)).setCell (Xa (g4.nb i) 2) (.bool false)).setCell (Xa (g4.nb i) 5) (.int .u32 7)).setCell (Xa (g4.nb i) 7) (ah rt Qz)).setCell (Xa (g4.nb i) 5) (.int .u32 15)).setCell (Xa (g4.nb i) 3) (.int .i32 0)):=⟨_,rfl⟩
     have PN:=(qF (g4.nb i) rt (Xa Qz 0) R0.1 R0.2 F ⟨_,P6 2 _ rfl⟩ (P6 3 _ rfl) (P6 5 _ rfl) ⟨_,P6 6 _ rfl⟩ ⟨_,P6 7 _ rfl⟩ (P 2) (P 3) (P 5) (P 6) (P 7))
     rw[←R7]at PN P5 V;have QQ:=zh PN;have R_:=zh P5;have Sa:=zh V;have Td:g4.nb i<wr.heap.size:=y.out.bs.wb.kw.lt (y.out.bs.nm i (by rw[y.out.bs.len];exact Qf));have Sb:wr.heap.size<F.heap.size:=by have:=Z.size;simp at this;omega
     have Sc:=P5.bs.wb.kw _ _ _ (Qm _ _ _ (Z.gr.le _ _ _ QN.out));have Sd:Xc W7 a 1 (.slice (Xa rb ro) D.len A):=by
      have h1:Xc W7 a 1 (.slice (Xa rb ro) g5.len A):=P5.bs.c1.1;have h2:g5.len=D.len:=PM.len;rwa [h2]at h1
     clear R1 Qk QP RY PM Z SR hU hr Rh Rj P5 V R4 R5 R6 P6 P Qm RN R7 PN;refine oL fun K l=> ?_;go_simp;refine R2.mono ?_;rintro e2 w7 ⟨rfl,rfl⟩;(try simp only[]);refine l _ _ (Y) fun Y=> ?_;clear l K;try simp only[Act.put,oa,ob,oc]
     refine oL fun K l=> ?_;go_simp;go_at_call 49
     refine QQ.out.mono ?_;rintro e3 w7 ⟨rfl,Ty⟩;subst w7;obtain⟨_,s0,s1,s2,s3,s4,s5,s6⟩:=Y;(try simp only[]);refine l _ _ (by(repeat' apply And.intro)<;>first|exact Sd|exact Sc|(rw[Sa.out.cell Sb zo];assumption)) fun Y=> ?_;clear l K;try simp only[Act.put,oa,ob,oc]
     refine bZ ?_;clear Y s0 s1 s2 s3 s4 s5 s6 Sd Sc QQ R2;go_wp2_with fail
     exact⟨⟨i+1,q6,g5,SP,SQ,by omega,by go_num,R_.out⟩,by first|omega|(simp[intOf];omega)⟩
    ·have Te:¬(i:Int)<D.len:=zo
     obtain rfl:i=D.len:=zo;have SS:=E.out.tl;have SU:=zh (y.out.done rfl (N:=aZ T) (jK T _));clear y;go_wp2_with fail
     go_loopw [63] (fun vk wr=> ∃(i:Nat)(q:Pm)(g:Ge)(mv:Value)(ms:List Nat),i≤D.len∧vk= .int .i64 i∧L3 ⟨D,T,D.len,pa,w.heap.size,a.heap.size,da,A⟩ w i q g mv ms (aZ T+dn (fds.take i)) wr) (fun vk _=>D.len- (intOf vk).toNat)
     case atStart=>exact⟨0,q4,g4,RJ,Q_,Nat.zero_le _,rfl,SU.out.pg zl zo⟩
     case round=>
      obtain⟨i,q7,g7,Se,Sf,Tf,rfl,Sg⟩:=hrel;have t:=zh Sg;clear Sg;obtain⟨wo,rfl⟩:∃wo:World,wo=wr:=⟨_,rfl⟩
      by_cases P0:i<D.len
      ·have SV:(i:Int)<D.len:=zo
       have PL:i<fds.length:=by have:=E.out.len;omega
       obtain⟨wb,xo,Ra,ua,uc,ma,mc,h7,X,P4,Sh,Tz,Rk⟩:=Rr.out.at' i PL;have Rl:=List.getElem?_eq_getElem PL;have O:=E.out.ms i PL;generalize fds[i]=d at h7 X P4 O Sh Rk Rl;have SX:=G3 Rl;have Si:=xH fds (i+1);obtain⟨z0,z1,z2,z3,z4,z5,z6⟩:TS.C7 wo wb (xo+i*8) d.un ua uc:=h7.world t.out.bs.ka;have z7:Xc wo wb (xo+i*8+7) (.slice ma d.ms.length mc):=t.out.bs.ka _ _ _ X;have Qh:=zb z0;simp only at Qh;have Sj:=zh Rk;have Rm:=zh O;have QR:=zh (show aZ T+dn (fds.take i)+cG d.ms≤1099511627776∧dn (fds.take (i+1))=dn (fds.take i)+cG d.ms by have:=E.out.ct;omega);obtain⟨ml,P1⟩:∃ml,Hid (d.ms.length=ml):=⟨_,rfl⟩
       have QS:ml≤1048576:=by have h1:=O.1;have h2:=P1.out;omega
       have Tg:ml≤mc:=by have h2:=P1.out;omega
       rw[P1.out]at z7;rw[Ra];clear h7 X P4 Rk O SX Si Rl Sh;go_wp2_with fail
       go_loopw [71] (fun vj wr=> ∃(j:Nat)(q:Pm)(g:Ge)(mv:Value)(ms:List Nat)(v:Value)(fs:List Nat),j≤ml∧vj= .int .i64 j∧L3 ⟨D,T,D.len,pa,w.heap.size,a.heap.size,da,A⟩ w (i+1) q g mv ms (aZ T+dn (fds.take i)+cG (d.ms.take j)) wr∧dL ⟨D,T,D.len,pa,w.heap.size,a.heap.size,da,A⟩ q g wr i j (lK d.ms) v fs) (fun vj _=>ml- (intOf vj).toNat)
       case atStart=>
        have Sk:Below wo wo (wo.alloc (.cells #[.int .i64 d.un.k,.int .i64 d.un.n,.int .i64 d.un.m,.bool d.un.v,.string d.un.nm,.string d.un.tg,.slice ua d.un.es.length uc,.slice ma ml mc] 36)):=zB.alloc zl _;exact⟨0,q7,g7,Se,Sf,_,[],Nat.zero_le _,rfl,(t.out.pg (Nat.le_succ _) zo).below Sk,((t.out.mt i zl P0).below Sk).zero⟩
       case round=>
        obtain⟨j,q8,g8,Sl,Sm,v8,SY,TA,rfl,Sn,Sp⟩:=hrel;have P2:=zh Sn;have QT:=zh Sp;clear Sn Sp;by_cases Th:j<ml
        ·have SZ:(j:Int)<ml:=zo
         have L:j<d.ms.length:=by have:=P1.out;omega
         obtain⟨mb,mo,S0,k0,k1,_,a8,c8,k2,Rn⟩:=Sj.out.at' j L;have Ro:=List.getElem?_eq_getElem L;obtain⟨QS,Sq,Ri⟩:=Rm.out;have PO:=Ri d.ms[j] (zm L);have Qn:∀k,k<j→((lK d.ms k).toList==d.ms[j].nm.toList)=false:=fun k hk=>by
          have:=List.pairwise_iff_getElem.1 Sq k j zo L hk;simpa [lK,show k<d.ms.length by omega]using this
         have Qo:lK d.ms j=d.ms[j].nm:=by simp[lK,L]
         generalize d.ms[j]=m at k0 k1 k2 Rn PO Qn Qo Ro;subst S0;have ka:=P2.out.bs.ka;have x0:=ka _ _ _ k0;have x1:=ka _ _ _ k1;obtain⟨x2,x3,x4,x5,x6,x7,x8⟩:(Xc wr mb (mo+j*9+2) (.int .i64 m.sig.k)∧Xc wr mb (mo+j*9+3) (.int .i64 m.sig.n)∧Xc wr mb (mo+j*9+4) (.int .i64 m.sig.m)∧Xc wr mb (mo+j*9+5) (.bool m.sig.v)∧Xc wr mb (mo+j*9+6) (.string m.sig.nm)∧Xc wr mb (mo+j*9+7) (.string m.sig.tg)∧Xc wr mb (mo+j*9+8) (.slice a8 m.sig.es.length c8)):=k2.world ka;have Sr:=zb x0;simp only at Sr;have Rp:Below wr wr (wr.alloc (Xm m a8 c8)):=zB.alloc zl _;have PG:=P2.out.below Rp;have Qp:=QT.out.below Rp;obtain⟨sp,Ss⟩:=PG.pk;have Rq:g8.len=D.len:=PG.bs.len;obtain⟨x9,Su,Sv⟩:=PG.bs.tn i (by have:T.length=D.len:=SS;show i<T.length;omega) P0;have Sw:=G2 Ro;have S1:=xG d.ms (j+1);have Qq:=zh (GX ⟨D,T,D.len,pa,w.heap.size,a.heap.size,da,A⟩ i j m a8 c8 sp (lK d.ms) v8 SY q8 g8 Sl Sm _ zo PG.bs Qp Su.1 (PG.ob i P0) Ss PO.1 PO.2.1 PO.2.2.1 (fun e he=>rQ _ e (PO.2.2.2.2 ⟨D,T,D.len,pa,w.heap.size,a.heap.size,da,A⟩ rfl rfl rfl e he)) Rn (by have:=PG.ct;have:=QR.out.1;omega) zo Qo Qn PO.2.2.2.1);have Sx:=zh PG;have Sy:=zh Qp;have Sz:=zh Sw;clear k0 k1 k2 Rn PO Qn Qo Ro Sq Ri QS ka Rp PG Qp Ss Sv Rq Su Sw S1 P2 QT;go_wp2_with fail
         refine Qq.out.mono ?_;rintro e8 w8 ⟨rfl,q9,g9,S2,S3,v9,S4,Qr,QU,QV,QW,Qs,_,_,QX⟩;have P3:=zh (And.intro (Sx.out.step P0 Sy.out Qr QV QW Qs QX) QU);clear Qr QU QV QW Qs QX Qq;go_wp2_with fail
         exact⟨⟨j+1,q9,g9,S2,S3,v9,S4,by omega,by go_num,P3.out.1.pg zl (by have:=Sz.out;omega),P3.out.2⟩,by first|omega|(simp[intOf];omega)⟩
        ·have Ti:¬(j:Int)<ml:=zo
         obtain rfl:j=ml:=zo;go_wp2_with fail
         exact⟨⟨i+1,q8,g8,Sl,Sm,by omega,by go_num,P2.out.pg zl (by have:=QR.out.2;have:=xG d.ms j;omega)⟩,by first|omega|(simp[intOf];omega)⟩
      ·have Tj:¬(i:Int)<D.len:=zo
       have Si:=xH fds i;have QY:=zh (xI ⟨D,T,D.len,pa,w.heap.size,a.heap.size,da,A⟩ q7 g7 Se Sf wo t.out.bs (by have:=t.out.ct;have:=E.out.ct;omega));go_wp2_with fail
       refine QY.out.mono ?_;rintro e9 w9 ⟨rfl,q9,Qr,Qp,Qs⟩;have P3:Hid (xK pa D T w (.returned (Xp a)) w9):=by
        have S5:=t.out.bl.size;refine⟨⟨D,T,D.len,pa,w.heap.size,a.heap.size,da,A⟩,q9,g7,rfl,rfl,rfl,rfl,rfl,rfl,Qr,Below.own t.out.bl Qs S5 fun b e=> ?_⟩;rcases e with e|e
        ·have e':b=a.heap.size:=e
         omega
        ·obtain⟨_,u,hu⟩:=t.out.bs.mlt b e
         exact t.out.bs.lp _ _ _ (t.out.bs.ifs b u hu).2.1
       clear Qr Qp Qs QY;go_wp2_with fail
       go_ret;exact P3.out
end Go.Proofs.YtkochlhejabdcaaGreatDoor
namespace TS
open Go Go.RowKit Go.Proofs.YtkochlhejabdcaaGreatDoor
theorem Hd{s:ByteArray}(h:aR s=true):(s.toList== [95])=false:=by
 rw[beq_eq_false_iff_ne];intro e;have h1:kK s.toList=true:=by
  unfold aR at h;rwa [show s.data.toList=s.toList by simp[ByteArray.toList_eq]]at h
 rw[e]at h1;exact absurd h1 zd
section
variable {D:Dl} {ds:List aC} {NS:List (List UInt8)} {p:Pm}
theorem ph(R:Raw NS ds)(hlen:ds.length=D.len)(V:fI D ds)(i:Nat):Env D (aY ds) NS i:=
 ru R hlen V.pl i fun j a _=>by
  rw[dF]at a;have b:j<(bV ds).length:=by rw[fH];exact a
  have:=V.mt _ (zm b);rw[im ds j a]at this;unfold fS at this;simp only[Bool.and_eq_true]at this;exact this.1
theorem rV(T:List U):∀(u:U)(f:Nat),cn (aV T f u)=cn u:=by
 intro u;induction u using U.bc with
 |_ u ih=>
  intro f;rw[dW,dW];congr 1;unfold aZ;congr 1;refine List.ext_getElem (by simp[cO]) fun j h1 a=> ?_;simp only[List.length_map]at h1 a;rw[List.getElem_map,List.getElem_map,iB];exact ih _ (U.ar (zm a)) _
theorem bn.upto{T:List U}{i a f:Nat}{u:U}(h:bn T i f u)(hi:i≤a):bn T a f u:=h.mono hi
theorem He(R:Raw NS ds)(hlen:ds.length=D.len)(V:fI D ds)(M:ca p D ds)(N:aZ (ds.map aC.un)+dn ds≤1099511627776):rU D (aY ds) (bV ds):=by
 have hF:=rq M;refine⟨by rw[fH];exact hlen,by rw[dF];exact hlen,fun i h U=> ?_,fun C h f w=> ?_,fun t F=> ?_,fun i h=> ?_,?_⟩
 ·rw[fH]at h
  rw[im ds i h]
 ·have hi:C.i<ds.length:=by rw[dF]at h;exact h
  have E:=ph R hlen V C.i;have hk:=(ry R E hi).mo;have hm:=V.mt _ (zm (show C.i<(bV ds).length by rw[fH];exact hi));rw[im ds C.i hi]at hm;unfold fS at hm;simp only[Bool.and_eq_true]at hm;obtain⟨b,o,e,a,c,O,P,_,_,hu,_⟩:=hF.at' C.i (by rw[fH];exact hi);rw[im ds C.i hi]at hu;have x:=rG E _ hk hm.1 (fun _=>hk.pl.form.aD) (fun e=>by cases e) hu;exact⟨⟨0,1,by omega,by rw[f];exact hk.pl,by rw[w];exact hk.bA⟩,by rw[f];exact x⟩
 ·have:=(ph R hlen V 0).ok t F
  exact⟨this.lo,this.hi,this.kU⟩
 ·have hi:i<ds.length:=by rw[fH]at h;exact h
  obtain⟨b,o,e,a,c,O,P,_,_,hu,h1,y,hM⟩:=hF.at' i h;have E:=ph R hlen V i;have n:=V.pl i hi;unfold dM fw at n;simp only[Bool.and_eq_true,List.all_eq_true,decide_eq_true_eq]at n;have hm:=V.mt _ (zm h);rw[im ds i hi]at hm hM h1⊢;unfold fS at hm;simp only[Bool.and_eq_true,List.all_eq_true]at hm;refine⟨by omega,?_,fun m d=> ?_⟩
  ·have hnd:=n.1.2.2
   simp only;rw[List.pairwise_map];refine(List.pairwise_map.1 hnd).imp fun{a b} G=> ?_;simpa using G
  ·obtain⟨k,hk,H⟩:=List.getElem_of_mem d
   obtain⟨W,X,Y,m1,m2,m3,a',c',m4,z⟩:=hM.at' k hk;rw[H]at z;have I:=hm.2 m d;simp only[List.mem_map]at d;obtain⟨m0,A,rfl⟩:=d;have g:=n.1.2.1 m0 A;unfold ga at g;simp only[Bool.and_eq_true,beq_iff_eq]at g;have L:=R.ms _ (zm hi) m0 A;have r:Mo D.len (aY ds) NS i (aV ((aY ds).take i) 0 m0.sig) 0 0:=(oP E (by rw[dF];omega) R.err R.emp (fun t F=>(lH R F).2) (u:=m0.sig) (q:=⟨i,false,false⟩) zs g.1.2 L.1 L.2).mo;have h7:(aV ((aY ds).take i) 0 m0.sig).k=7:=by rw[cN];exact g.1.1.2
   have x:=rG E _ r I (fun _=>r.pl.form.aD) (fun e=>by cases e) z;have l:(0≤(aV ((aY ds).take i) 0 m0.sig).m∧(aV ((aY ds).take i) 0 m0.sig).m.toNat≤(aV ((aY ds).take i) 0 m0.sig).es.length)∧((aV ((aY ds).take i) 0 m0.sig).v=true→0<(aV ((aY ds).take i) 0 m0.sig).m.toNat∧∃e,(aV ((aY ds).take i) 0 m0.sig).es[(aV ((aY ds).take i) 0 m0.sig).m.toNat- 1]?=some e∧e.k=4):=by
    have Q:=r.pl.form;cases Q with
    |func _ S h1 B=>exact⟨⟨S,h1⟩,fun s=>⟨(B s).1,_,List.getElem?_eq_getElem (by have:=(B s).1;omega),(B s).2 (by have:=(B s).1;omega)⟩⟩
    |_=>omega
   refine⟨h7,l.1,l.2,Hd g.1.1.1,fun C f w J e he=> ?_⟩;obtain⟨j,T,rfl⟩:=List.getElem_of_mem he;have K:=r.part j T;exact⟨⟨_,_,K.f2,by rw[f];exact K.pl,by rw[w,J];exact K.bA.mono zo⟩,by rw[f];exact x.es he⟩
 ·have h1:aZ (aY ds)=aZ (ds.map aC.un):=by
   unfold aZ;congr 1;refine List.ext_getElem (by simp[dF]) fun j h1 y=> ?_;simp only[List.length_map]at h1 y;rw[List.getElem_map,List.getElem_map,List.getElem_map,lG ds j y,rV]
  have y:dn (bV ds)=dn ds:=by
   unfold dn;congr 1;refine List.ext_getElem (by simp[fH]) fun j h1 y=> ?_;simp only[List.length_map]at h1 y;rw[List.getElem_map,List.getElem_map,im ds j y];unfold cG;simp only[List.map_map];congr 1;exact List.map_congr_left fun m _=>rV _ _ _
  omega
theorem Hf(R:Raw NS ds)(hlen:ds.length=D.len)(V:fI D ds){u:U}(b:gD D ds u=true)(k:Names NS u)(d:u.dep≤1048576){a:Option Addr}{c:Nat}(hu:ai p D (bq ds u) a c):
 Mo D.len (aY ds) NS ds.length (bq ds u) 0 1∧isIface (bq ds u)=true∧mt (aY ds) .type (bq ds u) true=true∧∀C:BC,C.D=D→C.T=aY ds→C.i=D.len→iq C (bq ds u):=by
 unfold gD at b;simp only[Bool.and_eq_true]at b;have hk:=(wN R hlen V b.1.1 k d).mo;have g:=rG (nf R hlen V) _ hk b.2 (fun _=>hk.pl.form.aD) (fun e=>by cases e) hu;exact⟨hk,b.1.2,b.2,fun C f h j=>⟨⟨0,1,by omega,by rw[f];exact hk.pl,by rw[h,j,←hlen];exact hk.bA⟩,by rw[f];exact g⟩⟩
end
end TS
