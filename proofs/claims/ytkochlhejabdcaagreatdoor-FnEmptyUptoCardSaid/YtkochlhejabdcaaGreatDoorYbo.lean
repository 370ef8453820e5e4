import Derived.Test.YtkochlhejabdcaaGreatDoorYbk
set_option maxRecDepth 100000
set_option maxHeartbeats 8000000
set_option linter.all false
namespace Go.Proofs.YtkochlhejabdcaaGreatDoor
open Go.RowKit TS Tryz
theorem xi(len:Nat)(p:Pm)(g:Ge)(b:Nat)(u:U)(q0:Option Addr)(pos:Int)(w:World)(hE:aA p g w)(hI:gj p g b u)(hF:gB len u)(h6:Xc w b 6 (.pointer none))(hz:w.frozen? (Xa b 6)=false)(Rw:p b 6=none)(SI:5<b):
 Xk 94 #[.pointer q0,.int .i64 pos,Xp b] w (jJ p g b u w):=by
 have Ti:= @run_makeMap Tryz.prog;have Tj:∀(fn:Fn)(first cap:Array Value)(w:World),(Instr.makeFunc fn first cap).run Tryz.prog w= .ok (.func fn first cap) w:=fun _ _ _ _=>rfl;obtain⟨ck,⟨Rx,a1,c1,f1,Q_,Tk,Ta,Ry,Rz⟩,⟨a2,c2,xs,PH,Tl,_,QI,RA,RC⟩,Ra,Rb⟩:=hI;have PZ:b<w.heap.size:=zb h6;have RE:Plain w b:=hE.pl _ _ _ ck;have Rc:5<w.heap.size:=zo;have Qc:=zh hE;have n:=zh hF;have RF:=zh Ry;have RG:=zh QI;have RH:=zh Rz;have RI:=zh RA;have RJ:=zh RC;have Td:=zh RE;have Qi:=zh Rw;have RK:=zh Q_;have RM:=zh PH;have QS:=zh Ra;have Te:=zh Rb;have k1:=hE.kw _ _ _ Q_;have k2:=hE.kw _ _ _ PH;have k3:=hE.kw _ _ _ Ra;have k5:=hE.kw _ _ _ Rb;have Qj:(u.es.drop u.m.toNat).length=u.es.length- u.m.toNat:=zs;have QT:=zh Qj;have RN:=zh Rx;have SJ:=zh hF.len;clear hE hF Ry QI Rz RA RC Rw Q_ PH Ra Rb ck RE Qj Rx;generalize RP:u.m.toNat=P at*;generalize RR:u.es.length- P=n2 at*;have C:=zh RP;have RS:=zh RR;clear RP RR;go_enter func94,ntmps94;go_wp2_with fail
 refine(mx _).mono ?_;rintro e w1 ⟨rfl,QJ⟩;have Qd:w1.heap.size=w.heap.size+2:=by rw[QJ];simp
 have f:Below w w w1:=by rw[QJ];exact(zB.alloc zl _).alloc zs _
 have Tf:=zh QJ;clear QJ;replace k1:=az f k1;replace k2:=az f k2;replace k3:=az f k3;replace k5:=az f k5;replace h6:=az f h6;replace hz:=TS.frozen_kept f PZ hz;have aa:b<w1.heap.size:=zo;have RV:=zh f;have PI:=zh Qd;clear f Qd;go_upto_region 11 with fail
 go_cut [7,8,9,10,11] (fun s7 s8 s9 SK SL wx=>s7= .map (some (w.heap.size+3))∧s8=Xp (w+4)∧s9=Xp (w+5)∧SK=Xp (w+7)∧
  SL= .func (.func 146) #[] #[Xp (w+4),Xp (w+5),Xp (w+7)]∧bW p g b u w xs [] 0 p none (.slice none 0 0) [] wx)
 case first=>
  go_wp2_with fail
  go_meet
  have h4:w1.heap.size+1+1=w.heap.size+4:=by have:=PI.out;omega
  have h5:w1.heap.size+1+1+1=w.heap.size+5:=by have:=PI.out;omega
  have h7:w1.heap.size+1+1+1+1+1=w.heap.size+7:=by have:=PI.out;omega
  have h3:w1.heap.size+1=w.heap.size+3:=by have:=PI.out;omega
  exact⟨by rw[h3],by rw[h4],by rw[h5],by rw[h7],by rw[h7,h5,h4],EB xs Qc.out h6 Qi.out SI PZ RV.out PI.out⟩
 case rest=>
  obtain⟨rfl,rfl,rfl,rfl,rfl,hB⟩:=hcut;have q1:Xc wc b 1 (.slice a1 P c1):=hB.id.kw _ _ _ RK.out;have SM:=zh hB;clear hB k1 k2 k3 k5 h6 hz;go_wp2_with fail
  go_loopw [57] (fun vi wr=> ∃(k:Nat)(m:Option Nat)(v:Value)(fs:List Nat),k≤P∧vi= .int .i64 k∧bW p g b u w xs ((u.es.take P).take k) 0 p m v fs wr) (fun vi _=>P- (intOf vi).toNat)
  case atStart=>exact⟨0,none,_,[],Nat.zero_le _,rfl,SM.out⟩
  case round=>
   obtain⟨k,m,v,fs,hk,rfl,hB⟩:=hrel;have s:=zh hB;clear hB q1;by_cases Qk:k<P
   ·have RX:(k:Int)<P:=zo
    obtain⟨ab,ao,rfl,P0⟩:=RF.out k Qk;have e1:=s.out.id.kw _ _ _ P0;have SN:k<u.es.length:=by have:=RN.out;omega
    obtain⟨RY,Re⟩:=RH.out k Qk SN;have e2:=s.out.id.kw _ _ _ Re;have RZ:k<(u.es.take P).length:=by rw[List.length_take];omega
    have l:(u.es.take P)[k]=u.es[k]:=List.getElem_take;have QU:u.es[k]∈u.es.take u.m.toNat:=by rw[C.out,←l];exact zm RZ
    have QV:dH (u.es.take P):=by have:=n.out.two;rwa [C.out]at this
    have Ql:f1 k<w.heap.size:=Qc.out.kw.lt Re
    have hC:=zh (vZ p g w.heap.size (w.heap.size+8) (w.heap.size+4) (w.heap.size+5) (w.heap.size+6) (w.heap.size+7) (f1 k) m v _ fs u.es[k] 0 true wr (oT _) s.out.size Rc s.out.id s.out.ch RY Ql (n.out.nm _ QU)
     (by have:=s.out.ch.len;rw[this,List.length_take,List.length_take];have:=SJ.out;omega))
    have P1:Hid (bI ((u.es.take P).take k) u.es[k]=(u.es.take P).take (k+1)):=by rw[←l];exact Ey QV RZ
    clear P0 RY Re QU QV l;go_wp2_with fail
    refine hC.out.mono ?_;rintro e w2 ⟨rfl,m',v',Q,P2,Qm,Qn,Qo⟩;have Qe:Hid (bW p g b u w xs ((u.es.take P).take (k+1)) 0 p m' v' Q w2):=by
     rw[P1.out]at P2;exact s.out.add PZ P2 Qm Ql Qn Qo
    clear P2 Qm Qn Qo hC;go_wp2_with fail
    refine⟨⟨k+1,m',v',Q,by omega,by go_num,Qe.out⟩,?_⟩;first|omega|(simp[intOf];omega)
   ·have Rg:¬(k:Int)<P:=zo
    have Qe:Hid (bW p g b u w xs (dm u 0) 0 p m v fs wr):=by
     have:=s.out;rw[List.take_of_length_le (by rw[List.length_take];omega)]at this;unfold dm;rw[C.out];exact this
    clear s;go_wp2_with fail
    refine(mx _).mono ?_;rintro e w3 ⟨rfl,R0⟩;obtain⟨q,Qp,M⟩:=EC Qe.out;rw[←R0]at Qp M;have k2:Xc w3 b 2 (.slice a2 n2 c2):=Qp.id.kw _ _ _ (Qp.gr.le _ _ _ RM.out);have QW:=zh Qp;have I:=zh M;clear Qp M R0 Qe;go_wp2_with fail
    go_loopw [76,14,15] (fun vi va vc wr=> ∃(k:Nat)(q:Pm)(m:Option Nat)(v:Value)(fs rs:List Nat)(R:List Tm×Bool),k≤n2∧vi= .int .i64 k∧vc= .bool R.2∧bW p g b u w xs (dm u k) k q m v fs wr∧rA g u w k q va rs R wr) (fun vi _ _ _=>n2- (intOf vi).toNat)
    case atStart=>exact⟨0,q,m,v,fs,_,_,Nat.zero_le _,rfl,rfl,QW.out,I.out⟩
    case round=>
     clear QW I k2 Rg;obtain⟨k,q,m,v,fs,rs,R,hk,rfl,rfl,hB,hT⟩:=hrel;obtain⟨q1,xa,xc,rfl,R1,R2,SO,R4,R5,R6,_,_,_⟩:=rz hB.id hT.row hT.dk;have f:Hid (bW p g b u w xs (dm u k) k q1 m v fs wr):=hB.iZ R1 R2 fun c hc o=>by
      rw[R6 c (fun e=>hB.ch.apart (oT _) hT.row e hc)];exact hB.ch.dk c hc o
     have D:Hid (Acc (bM u) ((u.es.drop u.m.toNat).take k) R∧R=((u.es.drop u.m.toNat).take k).foldl (fun a e=>dP a (dQ e)) ([none],false)∧rs.length=R.1.length):=⟨hT.acc,hT.Rf,hT.row.len⟩
     have PJ:=zh R4;have PK:=zh R5;have Rh:=zh hB;have V:=zh hT;have j3:Xc wr b 3 (.pointer none):=f.out.id.kw _ _ _ (f.out.gr.le _ _ _ QS.out);clear hB hT R1 R2 SO R4 R5 R6;by_cases Qk:k<n2
     ·have RX:(k:Int)<n2:=zo
      obtain⟨eb,eo,rfl,P0⟩:=RG.out k Qk;have e1:=f.out.id.kw _ _ _ (f.out.gr.le _ _ _ P0);have Ri:P+k<u.es.length:=by have:=RS.out;omega
      have PL:k<(u.es.drop u.m.toNat).length:=by rw[C.out,QT.out];exact Qk
      have l:(u.es.drop u.m.toNat)[k]=u.es[P+k]:=by rw[List.getElem_drop];congr 1;rw[C.out]
      have PH:=n.out.el _ (zm PL);have N:=RI.out k Ri;rw[l]at PH;generalize QK:u.es[P+k]=e at*;rcases PH with⟨P7,R7,hl,R_⟩|⟨QL,hi,hP,Sa,Sb⟩|⟨QL,W,hm,Qq,PM⟩
      ·
       obtain⟨ub,ua,uc,uf,PN,Rj,SP,Sc,QX⟩:=N.Ez P7;rw[PN]at e1;have lB:=ak ei 202 ub zd;have SQ:=bk iF ub;obtain⟨K,fn,Sd,PO,t,PQ,Se,Qj,y⟩:=BL ub wr;have Sf:=fun args w=>Go.MuLone.run_callFunc_enter PO t PQ args w;have A:=zh y;obtain⟨F,Rk,Rl⟩:=f.out.um;have Qd:Sub p q1:=f.out.gr.le;have Sg:∀o,q1 (w.heap.size+3) o=none:=fun o=>by
        cases hh:q1 (w.heap.size+3) o with
        |none=>rfl
        |some z=>
         obtain⟨cs,T,hb⟩:=f.out.id.pl _ _ _ hh;obtain⟨es,cl,P3,_⟩:=Rk;rw[hb]at P3;cases P3
       have PR:(u.es.getD (P+k) default).k=12∨(u.es.getD (P+k) default).k=13:=by rw[List.getD_eq_getElem?_getD,List.getElem?_eq_getElem Ri,Option.getD_some,QK];exact P7
       have hU:=zh (DO len q1 g w.heap.size ub (w.heap.size+3) (bD e).length uc q0 0 ua uf (bD e) F (bM u) wr f.out.id Rk (Rl k ub zl (by rw[C.out];exact Ri) (by rw[C.out];exact PR) PN) (Qc.out.kw.lt Rj) zo Rc (Qd _ _ _ Rj) rfl hl (Sc.sub Qd) Sg
        (fun i hi=>(QX i hi).sub Qd (aK.refl g)) R7 n.out.tok n.out.cP)
       have Sh:=zh Rl;have Si:=zh PN;have P4:=zh P7;have Sj:=zh R_;have E:=zh l;clear y P0 QK N Rj SP Sc QX R7 hl Rk Rl Sg PR PN R_ P7 l PO t PQ;go_wp2_with fail
       refine A.out.mono ?_;rintro _ _ ⟨rfl,rfl⟩;go_wp2_with fail
       refine hU.out.mono ?_;rintro _ w4 ⟨q4,tb,v4,Sk,S,F4,rfl,Rm,B,Tn,Sl,Sm,Sn,Sp,Sq⟩;obtain⟨ta,tc,rfl⟩:=a_ B.row.own;have s0:=B.c0;have s1:=B.c1;have s3:=B.c3;have Rn:=f.out.size;have QM:bW p g b u w xs (dm u k) (k+1) q4 m v fs w4:=f.out.union PZ Si.out (by rw[C.out];exact RJ.out) Sh.out Rm B.id Sn Sp Sq;obtain⟨q5,ya,yc,e5,Ro,O,Sr,SR,Ss,Su,_⟩:=rz B.id B.row B.aF;obtain⟨rfl,rfl⟩:ta=ya∧tc=yc:=by cases e5;exact⟨rfl,rfl⟩
       have J:bW p g b u w xs (dm u (k+1)) (k+1) q5 m v fs w4:=by
        have hM:dm u (k+1)=dm u k:=by rw[oU PL,E.out];unfold bS;rw[if_neg (by rw[oW (P4.out.elim .inl fun h=> .inr (.inl h))];decide)]
        rw[hM];exact QM.iZ (Ro.mono zo) O fun c hc o=>by
         rw[Su c (fun e=>QM.ch.apart (oT _) ⟨jr B.row.own zo,B.row.len,B.row.cJ⟩ e hc)];exact QM.ch.dk c hc o
       have PS:=Rm.le.trans Ro.le;have PT:=zh (rC (Y:=(S,false)) n.out PL J D.out.1 D.out.2.1 (by rw[E.out];exact Ef P4.out Sj.out B.wi B.na) (by rw[E.out];unfold dQ;rw[if_pos P4.out,B.fd]) xa rs.length xc (fun i=>rs.getD i 0) D.out.2.2 (gT (PJ.out.sub PS) O.kw) (fun i hi=>(PK.out i hi).sub PS (aK.refl g)) ta Sk.length tc (fun i=>Sk.getD i 0) B.row.len Sr Ss);clear Rm B Sm Sn Sp Sq QM Ro O Sr SR Ss Su J PS e5 hU Sl;go_wp2_with fail
       refine(iI _).mono ?_;rintro _ _ ⟨rfl,rfl⟩;go_wp2_with fail
       refine(iI _).mono ?_;rintro _ _ ⟨rfl,rfl⟩;go_wp2_with fail
       refine PT.out.mono ?_;rintro _ w5 ⟨q6,Qr,a6,c6,rfl,PU,PW⟩;have PX:=zh PU;have PY:=zh PW;clear PU PW PT;go_wp2_with fail
       refine⟨⟨k+1,q6,m,v,fs,Qr,_,by omega,by go_num,rfl,PX.out,PY.out⟩,?_⟩;first|omega|(simp[intOf];omega)
      ·
       obtain⟨_,P3,P8,Qs,Qt⟩:=hP.bare;obtain⟨xt,xb,rt,rb,PN,Qu,hr⟩:=jE N Qs hP.fl Qt.1 Qt.2;have QI:rt=37∧∃u',(((under e).k=10∧u'=under e)∨((under e).k=16∧u'=dB))∧cS p g rb u':=by
        rcases hr with⟨P5,hn⟩|⟨P5,e2,hG⟩
        ·have P6:(under e).k=10:=by
          unfold isIface at hi;simp only[Bool.or_eq_true,beq_iff_eq]at hi;exact hi.resolve_right P5
         obtain⟨b',e2,hG⟩:=hn.iY P6;cases e2;exact⟨rfl,_,.inl ⟨P6,rfl⟩,(Qc.out.done _ _ hG).2⟩
        ·exact⟨e2,_,.inr ⟨P5,rfl⟩,(Qc.out.done _ _ hG).2⟩
       obtain⟨rfl,u',Qv,SS⟩:=QI;have Sv:bM dB= []:=kd (by rw[iJ];decide);have Qw:an u'=an e:=by
        rcases Qv with⟨P6,rfl⟩|⟨P5,rfl⟩
        ·exact D9 P6
        ·rw[fB (by rw[iJ];decide),fB zo]
       have Sw:∀x∈bM u',x∈bM u:=by
        rcases Qv with⟨P6,rfl⟩|⟨P5,rfl⟩
        ·exact Sa
        ·intro x hx;rw[Sv]at hx;cases hx
       have QY:dr u'=dr e:=by
        rcases Qv with⟨P6,rfl⟩|⟨P5,rfl⟩
        ·exact qy P6
        ·rw[ke (by rw[iJ];decide),ke zo,iJ,P5];rfl
       obtain⟨tb,ma,mc,f',ta,tc,ts,cmp,t1,t2,t3,t4,t5,t6,t7,t8,t9,t10,⟨f2,t11,QZ⟩,t12,t13,t14,t15⟩:=SS;have Qf:Sub p q1:=f.out.gr.le;have G:KW p wr:=f.out.id.kw.sub Qf;have To:Hid (KW p wr):=G;have Rp:=zh (vX _ wr G hP N);have d1:=G _ _ _ t1;have d2:=G _ _ _ t12;have d3:=G _ _ _ t3;have Sx:=zh (qQ rb tb q0 0 wr d1);have Qx:aW e=true:=EA QL hi;have Sy:Hid (lD (bM u) e (ts,cmp)):=Eg QL hi Qv Sw t13;have PH:Hid ((ts,cmp)=dQ e):=zh (by unfold dQ;rw[if_neg zo,if_pos hi,←QY,t13.eq]);rw[PN]at e1 N Rp;obtain⟨K,fn,Sd,PO,t,PQ,Se,Qj,y⟩:=eG Qu G;have Sf:=fun args w=>Go.MuLone.run_callFunc_enter PO t PQ args w;have A:=zh (y _ G);have lB:=bk ei rb;have SU:Hid (∀i(h:i<(an e).length),dq p g (an e)[i] (f' i)):=zh (by rw[←Qw];exact t7);clear t7;generalize Q3:(an u').length=nm at*;have Rq:Hid (∀j,(((an e).take j).foldl bI (dm u k)).length≤1048576):=fun j=>Nat.le_trans (Ex PL (r:=an e) (fun _=>by rw[l]) (by rw[l];exact Qx)) n.out.cy;have Rr:Hid ((an e).foldl bI (dm u k)=dm u (k+1)):=zh (by rw[oU PL,l];unfold bS;rw[if_pos Qx]);have Q4:Hid ((an e).length=nm):=zh (by rw[←Qw,Q3]);have SV:=zh t6;have SX:=zh t8;have Sz:=zh t11;have SA:=zh QZ;have SC:=zh Sb;have E:=zh l;clear y P0 QK N l PO t PQ hr Qu G hP hi Sa Sw QY Qw Sv Qv t1 t2 t3 t4 t6 t8 t9 t10 t11 QZ t12 t13 t14 t15 P3 P8 Qs Qt QL Qx Sb Q3;go_wp2_with fail
       refine A.out.mono ?_;rintro _ _ ⟨rfl,rfl⟩;go_wp2_with fail
       refine Rp.out.mono ?_;rintro _ _ ⟨rfl,rfl⟩;go_wp2_with fail
       refine(iI _).mono ?_;rintro _ _ ⟨rfl,rfl⟩;go_wp2_with fail
       refine Sx.out.mono ?_;rintro _ _ ⟨rfl,rfl⟩;go_wp2_with fail
       obtain⟨wo,rfl⟩:∃wo:World,wo=wr:=⟨_,rfl⟩
       go_loopw [124] (fun vj wx=> ∃(j:Nat)(m:Option Nat)(v:Value)(fs:List Nat),j≤nm∧vj= .int .i64 j∧bW p g b u w xs (((an e).take j).foldl bI (dm u k)) k q1 m v fs wx) (fun vj _=>nm- (intOf vj).toNat)
       case atStart=>exact⟨0,m,v,fs,Nat.zero_le _,rfl,f.out⟩
       case round=>
        clear f d1 d2 d3 Sx Rp A e1 j3;obtain⟨j,m,v,fs,hj,rfl,hB⟩:=hrel;have s:=zh hB;clear hB;by_cases SD:j<nm
        ·have SY:(j:Int)<nm:=zo
         obtain⟨mb,mo,rfl,SE⟩:=SV.out j SD;have e2:=s.out.id.kw _ _ _ (Qf _ _ _ SE);have Rs:j<(an e).length:=by have:=Q4.out;omega
         have Rt:=SU.out j Rs;have Ql:f' j<w.heap.size:=by obtain⟨sb,⟨_,h1⟩,_⟩:=Rt;exact Qc.out.kw.lt h1
         have hC:=zh (vZ q1 g w.heap.size (w.heap.size+8) (w.heap.size+4) (w.heap.size+5) (w.heap.size+6) (w.heap.size+7) (f' j) m v _ fs (an e)[j] 0 false wr (oT _) s.out.size Rc s.out.id s.out.ch (Rt.sub Qf (aK.refl g)) Ql (SC.out _ (zm Rs)) (by rw[s.out.ch.len];exact Rq.out j));have P1:Hid (bI (((an e).take j).foldl bI (dm u k)) (an e)[j]=((an e).take (j+1)).foldl bI (dm u k)):=(nS bI _ Rs).symm;clear SE Rt;go_wp2_with fail
         refine hC.out.mono ?_;rintro e' w2 ⟨rfl,m',v',Q,P2,Qm,Qn,Qo⟩;have Qe:Hid (bW p g b u w xs (((an e).take (j+1)).foldl bI (dm u k)) k q1 m' v' Q w2):=by
          rw[P1.out]at P2;exact s.out.add PZ P2 Qm Ql Qn Qo
         clear P2 Qm Qn Qo hC;go_wp2_with fail
         refine⟨⟨j+1,m',v',Q,by omega,by go_num,Qe.out⟩,?_⟩;first|omega|(simp[intOf];omega)
        ·have Rg:¬(j:Int)<nm:=zo
         have J:bW p g b u w xs (dm u (k+1)) (k+1) q1 m v fs wr:=by
          have:=s.out;rw[List.take_of_length_le (by have:=Q4.out;omega),Rr.out]at this;exact this.skip
         have d4:=J.id.kw _ _ _ (Qf _ _ _ SX.out);have PT:=zh (rC (Y:=(ts,cmp)) n.out PL J D.out.1 D.out.2.1 (by rw[E.out];exact Sy.out) (by rw[E.out];exact PH.out) xa rs.length xc (fun i=>rs.getD i 0) D.out.2.2 (gT PJ.out J.id.kw) PK.out ta ts.length tc f2 rfl (gT (Sz.out.sub Qf) J.id.kw) (fun i hi=>(SA.out i hi).sub Qf (aK.refl g)));clear J s;go_wp2_with fail
         refine PT.out.mono ?_;rintro _ w5 ⟨q6,Qr,a6,c6,rfl,PU,PW⟩;have PX:=zh PU;have PY:=zh PW;clear PU PW PT;go_wp2_with fail
         refine⟨⟨k+1,q6,m,v,fs,Qr,_,by omega,by go_num,rfl,PX.out,PY.out⟩,?_⟩;first|omega|(simp[intOf];omega)
      ·
       have Qy:=W.ni;unfold isIface at Qy;simp only[Bool.or_eq_false_iff,beq_eq_false_iff_ne,ne_eq]at Qy;obtain⟨Qz,P3,P8,_⟩:=W.vt.bare;have Qs:bare (bare e)=bare e:=bR P3 P8;have QA:=W.vu.aD;obtain⟨xt,xb,rt,rb,PN,Qu,hr⟩:=jE N Qs W.fl Qz.aD.1 Qz.aD.2;obtain⟨SZ,QN⟩:(under e).k≠16∧TS.Node p g (under e) (ah rt rb):=hr.resolve_right fun h=>Qy.2 h.1;have QB:=jH QN Qq PM;have PR:=(QN.tag Qq PM).2;have Q5:rt≠37:=by
        rw[QB];intro e1;have:37=bu 10:=rfl;rw[this]at e1;exact Qy.1 (eN e1.symm zd ⟨Qq,PM,PR.1,PR.2⟩).symm
       have Q6:rt≠202:=by
        rw[QB];rcases mJ PR.1 PR.2 Qq QA.1 QA.2 PM with h|h|h|h|h|h|h|h|h|h
        all_goals first|(rw[h];decide)|(rcases h with h|h|h<;>rw[h]<;>decide)
       have G:KW p wr:=f.out.id.kw.sub f.out.gr.le;have S0:=zh (vW rt rb wr G W.vu QN Qq PM);rw[PN]at e1 N;obtain⟨K,fn,Sd,PO,t,PQ,Se,Qj,y⟩:=eG Qu G;have Sf:=fun args w=>Go.MuLone.run_callFunc_enter PO t PQ args w;have A:=zh (y _ G);have lB:=ak ei rt rb Q5;have SQ:=ak iF rt rb Q6;have hd:∀o,q1 wr.heap.size o=none:=fun o=>f.out.id.kw.aF zl o;have Rn:=f.out.size;have Ru:Below wr wr ((wr.alloc (.cells #[.bool false,Xi xt xb] 168)).alloc (.cells #[Xp wr] 164)):=(zB.alloc zl _).alloc zs _;have PS:Sub q1 (q1.add wr.heap.size #[.bool false,Xi xt xb]):=Pm.cK hd;have O:aA (q1.add wr.heap.size #[.bool false,Xi xt xb]) g ((wr.alloc (.cells #[.bool false,Xi xt xb] 168)).alloc (.cells #[Xp wr] 164)):=(f.out.id.below Ru).add (T:=168) hd (by rw[dC zs,cA rfl]);have J:bW p g b u w xs (dm u (k+1)) (k+1) (q1.add wr.heap.size #[.bool false,Xi xt xb]) m v fs ((wr.alloc (.cells #[.bool false,Xi xt xb] 168)).alloc (.cells #[Xp wr] 164)):=by
        have hM:dm u (k+1)=dm u k:=by rw[oU PL,l];unfold bS;rw[if_neg (by rw[oW (.inr (.inr W.ni))];decide)]
        rw[hM];exact((f.out.below Ru).iZ (Pm.du hd Rn) O fun c hc o=>by
         have:=f.out.ch.lt c hc;rw[Pm.aQ _ _ _ zo];exact f.out.ch.dk c hc o).skip
       have PT:=zh (rC (Y:=([some (false,e)],false)) n.out PL J D.out.1 D.out.2.1 (by rw[l];exact Eh W.ni hm) (by rw[l];unfold dQ;rw[if_neg zo,if_neg (by rw[W.ni];decide)]) xa rs.length xc (fun i=>rs.getD i 0) D.out.2.2 (gT (PJ.out.sub PS) O.kw) (fun i hi=>(PK.out i hi).sub PS (aK.refl g))
        (Xa (wr+1) 0) 1 1 (fun _=>wr.heap.size) rfl (fun i hi=>⟨wr.heap.size+1,0,rfl,by obtain rfl:i=0:=zo;simp[go_sem]⟩) (fun i hi=>by
         obtain rfl:i=0:=by simp at hi;omega
         refine⟨by rw[Pm.aU];rfl,Xi xt xb,by rw[Pm.aU];rfl,N.sub (f.out.gr.le.trans PS) (aK.refl g)⟩))
       clear y P0 QK N l PO t PQ hr QN Qu QB PR Q5 Q6 G Qy Qz P3 P8 Qs QA SZ W hm hd Ru PS O J;go_wp2_with fail
       refine A.out.mono ?_;rintro _ _ ⟨rfl,rfl⟩;go_wp2_with fail
       refine S0.out.mono ?_;rintro _ _ ⟨rfl,rfl⟩;go_wp2_with fail
       refine PT.out.mono ?_;rintro _ w5 ⟨q6,Qr,a6,c6,rfl,PU,PW⟩;have PX:=zh PU;have PY:=zh PW;clear PU PW PT;go_wp2_with fail
       refine⟨⟨k+1,q6,m,v,fs,Qr,_,by omega,by go_num,rfl,PX.out,PY.out⟩,?_⟩;first|omega|(simp[intOf];omega)
     ·have Rg:¬(k:Int)<n2:=zo
      have QO:(u.es.drop u.m.toNat).length≤k:=by rw[C.out,QT.out];omega
      have Rv:Hid (gO u R.1 R.2):=by
       have h1:=D.out.1;have h2:=D.out.2.1;rw[List.take_of_length_le QO]at h1 h2;exact Acc.ok n.out.bC h1 (by rw[wk n.out.bC];exact h2.symm)
      have hM:Hid (dm u k=dN u):=zh (by unfold dm dN;rw[List.take_of_length_le QO]);have d:Hid (bW p g b u w xs (dN u) k q m v fs wr):=by rw[←hM.out];exact Rh.out
      obtain⟨av,ac,rfl⟩:=a_ d.out.ch.row;have Rn:=d.out.size;have j6:=d.out.b6;have j9:=d.out.ch.ac;have S1:Xc wr (w+2) 1 (.slice none 0 0):=by simp[World.cell?,d.out.tb]
      have S2:Xc wr (w+2) 2 (.slice (Xa (w+1) 0) 1 1):=by simp[World.cell?,d.out.tb]
      have S3:Xc wr (w+2) 3 (.bool false):=by simp[World.cell?,d.out.tb]
      have S4:wr.frozen? (Xa (w+2) 2)=false:=by simp[World.frozen?,d.out.tb]
      have S5:wr.frozen? (Xa (w+2) 3)=false:=by simp[World.frozen?,d.out.tb]
      have S6:wr.frozen? (Xa (w+2) 1)=false:=by simp[World.frozen?,d.out.tb]
      have Tg:b≠w.heap.size+2:=zo;have P9:w.heap.size+2≠5:=zo;have P_:Plain wr b:=d.out.id.pl _ _ _ (d.out.gr.le _ _ _ QS.out);have Qa:∀c,(Value.slice av fs.length ac).ownBlock=some c→w.heap.size+8≤c:=fun c e=>(d.out.ch.row.lt c e).1;have L:∀c,(Value.slice xa rs.length xc).ownBlock=some c→w.heap.size+8≤c:=fun c e=>(V.out.row.own.lt c e).1;have QC:aA q g (wr.setCell (Xa (w+2) 3) (.bool R.2)):=d.out.id.setCell _ (d.out.td 3) P9;have QP:Kept (fun c=>c=b) w (wr.setCell (Xa (w+2) 3) (.bool R.2)):=Kept.setCell (X:=fun c=>c=b) d.out.kept (fun h=>absurd h zs) _;have M:cB q g (w.heap.size+8) (wr.setCell (Xa (w+2) 3) (.bool R.2)) (.slice xa rs.length xc) rs R.1:=⟨eC V.out.row.own (fun e=>by have:=L _ e;simp only at this;omega) _,V.out.row.len,V.out.row.cJ⟩
      have h3:=heap_set (o:=3) (v:= .bool R.2) d.out.tb;have Z:(an u).length=(dN u).length:=by rw[kB n.out.bC];unfold b7;rw[List.length_mergeSort]
      rcases Nat.eq_zero_or_pos fs.length with h0|h0
      ·have SF:(an u).length=0:=by rw[Z,←d.out.ch.len];exact h0
       have Qb:Hid (jJ p g b u w (.returned (Xp (w+2))) ((wr.setCell (Xa (w+2) 3) (.bool R.2)).setCell (Xa (w+2) 2) (.slice xa rs.length xc))):=by
        refine wE (mv:= .slice none 0 0) (fs:= []) (rs:=rs) n.out PZ Qi.out (jA (jA P_ _ _) _ _) d.out.gr (QC.setCell _ (d.out.td 2) P9) d.out.td (Kept.setCell (X:=fun c=>c=b) QP (fun h=>absurd h zs) _) ?_ ?_ ?_ (by rw[SF];rfl) (fun i hi=>by omega) (fun c e=>(by cases e)) ?_ V.out.dk Rv.out
        ·exact heap_set (o:=2) h3
        ·rw[World.cell?_setCell_other _ _ _ _ (fun e=>absurd (congrArg Addr.off e) zs),World.cell?_setCell_other _ _ _ _ (fun e=>absurd (congrArg Addr.off e) zs)];exact j6
        ·exact World.ownsRow_nil _ _ _ _
        ·exact⟨eC M.own (fun e=>by have:=L _ e;simp only at this;omega) _,M.len,M.cJ⟩
       rw[h0]at j9;clear d V Rh D f QC QP M h3 P_ Qa L Z SF Rv hM QO PJ PK j3;go_wp2_with fail
       go_ret;exact Qb.out
      ·have hS:=zh (wh q g (w.heap.size+8) (dN u) fs (.slice av fs.length ac) (wr.setCell (Xa (w+2) 3) (.bool R.2)) QC.wb (eC d.out.ch.row (fun e=>by have:=Qa _ e;simp only at this;omega) _) d.out.ch.len d.out.ch.cJ n.out.names (pU n.out.two) (fun c e=>d.out.ch.dk c (.inr (.inr (.inr (.inr e))))) zo (by rw[d.out.ch.len];exact n.out.cy))
       have Tp:¬(fs.length:Int)=0:=zo;have Q7:=zh QC;have Q8:=zh QP;have I:=zh M;have SG:=zh h3;have QD:=zh P_;have H:=zh Qa;have PG:=zh L;have QQ:=zh Z;clear Rh D f QC QP M h3 P_ Qa L Z hM QO PJ PK j3;go_wp2_with fail
       refine hS.out.mono ?_;rintro e w5 ⟨rfl,Q,QE,QF,QG,Qg,_⟩;have SH:(w5.ownsRow (w.heap.size+8) 113 1 (.slice av fs.length ac) Q.length (Q.map pv)):=QE;have S7:=Qg.size;have S8:(wr.setCell (Xa (w+2) 3) (.bool R.2)).heap.size=wr.heap.size:=zs;have QH:∀c,c<w.heap.size+8→w5.heap[c]?=(wr.setCell (Xa (w+2) 3) (.bool R.2)).heap[c]?:=fun c hc=>Qg.block c zo fun e=>by have:=H.out c e;omega
       have Qh:=(QH (w.heap.size+2) zo).trans SG.out;have i1:Xc w5 (w+2) 1 (.slice none 0 0):=by simp[World.cell?,Qh]
       have i2:Xc w5 (w+2) 2 (.slice (Xa (w+1) 0) 1 1):=by simp[World.cell?,Qh]
       have Tq:w5.frozen? (Xa (w+2) 1)=false:=by simp[World.frozen?,Qh]
       have Tr:w5.frozen? (Xa (w+2) 2)=false:=by simp[World.frozen?,Qh]
       have i6:Xc w5 b 6 (ptr (w.heap.size+2)):=by
        rw[World.cell?_of_block (a:=(Xa b 6)) (QH b zo),World.cell?_setCell_other _ _ _ _ (fun e=>absurd (congrArg Addr.off e) zs)];exact j6
       have i9:Xc w5 (w+5) 0 (.slice av fs.length ac):=by
        rw[World.cell?_of_block (a:=(Xa (w+5) 0)) (QH (w.heap.size+5) zo),World.cell?_setCell_other _ _ _ _ (fun e=>absurd (congrArg Addr.off e) zs)];exact j9
       have O:aA q g w5:=Q7.out.own Qg (fun c e=>d.out.ch.dk c (.inr (.inr (.inr (.inr e))))) fun e=>by have:=H.out _ e;omega
       have Q9:Kept (fun c=>c=b) w w5:=Q8.out.trans Qg fun c hc e=>by have:=H.out c e;omega
       have QR:cB q g (w.heap.size+8) w5 (.slice xa rs.length xc) rs R.1:=⟨dY I.out.own Qg fun c e e'=>by
        obtain⟨cur,h1⟩:=iK V.out.row.own e;obtain⟨Th,h2⟩:=iK d.out.ch.row e';rw[h1]at h2;injection h2 with h2;injection h2 with _ h2;exact absurd h2 zd,I.out.len,I.out.cJ⟩
       have Qb:Hid (jJ p g b u w (.returned (Xp (w+2))) ((w5.setCell (Xa (w+2) 1) (.slice av fs.length ac)).setCell (Xa (w+2) 2) (.slice xa rs.length xc))):=by
        have e:=kB n.out.bC;have S9:Plain w5 b:=by
         obtain⟨cs,T,hb⟩:=jA QD.out (Xa (w+2) 3) (.bool R.2);exact⟨cs,T,(QH b zo).trans hb⟩
        refine wE (mv:= .slice av fs.length ac) (fs:=Q) (rs:=rs) n.out PZ Qi.out (jA (jA S9 _ _) _ _) d.out.gr ((O.setCell _ (d.out.td 1) P9).setCell _ (d.out.td 2) P9) d.out.td (Kept.setCell (X:=fun c=>c=b) (Kept.setCell (X:=fun c=>c=b) Q9 (fun h=>absurd h zs) _) (fun h=>absurd h zs) _) ?_ ?_ ?_ (by rw[QF,e]) (fun i hi S_=>by have:=QG i (by rw[←e];exact hi) S_;simpa [e]using this) (fun c e=>d.out.ch.dk c (.inr (.inr (.inr (.inr e))))) ?_ V.out.dk Rv.out
        ·exact heap_set (o:=2) (heap_set (o:=1) Qh)
        ·rw[World.cell?_setCell_other _ _ _ _ (fun e=>absurd (congrArg Addr.off e) zs),World.cell?_setCell_other _ _ _ _ (fun e=>absurd (congrArg Addr.off e) zs)];exact i6
        ·exact eC (eC SH (fun e=>by have:=H.out _ e;simp only at this;omega) _) (fun e=>by have:=H.out _ e;simp only at this;omega) _
        ·exact⟨eC (eC QR.own (fun e=>by have:=PG.out _ e;simp only at this;omega) _) (fun e=>by have:=PG.out _ e;simp only at this;omega) _,QR.len,QR.cJ⟩
       clear QE QF QG Qg SH S7 S8 QH Qh O Q9 QR V d Q7 Q8 I SG QD H PG QQ S1 S2 S3 S6 S4 S5 j6 j9 hS;go_wp2_with fail
       go_region
       all_goals
        go_wp2_with fail
        go_ret;first|exact Qb.out|exact Qb.out.drew
end Go.Proofs.YtkochlhejabdcaaGreatDoor
