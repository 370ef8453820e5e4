import Derived.Test.YtkfaiocajcjomaaGreatDoorYbf
set_option maxRecDepth 100000
set_option maxHeartbeats 8000000
set_option linter.all false
namespace Go.Proofs.YtkfaiocajcjomaaGreatDoor
open Go.RowKit TS
theorem uh(len:Nat)(p:Pm)(g:Ge)(b:Nat)(u:U)(q0:Option Addr)(pos:Int)(w:World)(hE:aq p g w)(hI:fj p g b u)(hF:fB len u)(h6:w.cell? ⟨b,6,none⟩=some (.pointer none))(hz:w.frozen? ⟨b,6,none⟩=false)(RY:p b 6=none)(S0:5<b):
 Calls Tryz.prog 69 #[.pointer q0,.int .i64 pos,.pointer (some ⟨b,0,none⟩)] w (iJ p g b u w):=by
 have Tz:= @run_makeMap Tryz.prog;have TA:∀(fn:Fn)(first cap:Array Value)(w:World),(Instr.makeFunc fn first cap).run Tryz.prog w= .ok (.func fn first cap) w:=fun _ _ _ _=>rfl;obtain⟨ck,⟨RZ,a1,c1,f1,Rw,TB,Tt,R0,R1⟩,⟨a2,c2,xs,P4,TC,_,Q6,R2,R4⟩,Rx,Ry⟩:=hI;have Qj:b<w.heap.size:=World.block_lt_of_cell? _ _ h6;have R5:Plain w b:=hE.pl _ _ _ ck;have Rz:5<w.heap.size:=by omega
 have Qx:=Lib.hid hE;have n:=Lib.hid hF;have R6:=Lib.hid R0;have R7:=Lib.hid Q6;have R8:=Lib.hid R1;have R9:=Lib.hid R2;have R_:=Lib.hid R4;have Tu:=Lib.hid R5;have QD:=Lib.hid RY;have Sa:=Lib.hid Rw;have Sb:=Lib.hid P4;have Rh:=Lib.hid Rx;have Tv:=Lib.hid Ry;have k1:=hE.kw _ _ _ Rw;have k2:=hE.kw _ _ _ P4;have k3:=hE.kw _ _ _ Rx;have k5:=hE.kw _ _ _ Ry;have QE:(u.es.drop u.m.toNat).length=u.es.length- u.m.toNat:=by simp
 have Ri:=Lib.hid QE;have Sc:=Lib.hid RZ;have S1:=Lib.hid hF.len;clear hE hF R0 Q6 R1 R2 R4 RY Rw P4 Rx Ry ck R5 QE RZ;generalize Sd:u.m.toNat=P at*;generalize Se:u.es.length- P=n2 at*;have C:=Lib.hid Sd;have Sf:=Lib.hid Se;clear Sd Se;go_enter Tryz.func69,Tryz.ntmps69;go_wp2_with fail
 refine(kV _).mono ?_;rintro e w1 ⟨rfl,Q7⟩;have Qy:w1.heap.size=w.heap.size+2:=by rw[Q7];simp
 have f:Below w.heap.size w w1:=by rw[Q7];exact((Below.refl _ _).alloc (Nat.le_refl _) _).alloc (by simp) _
 have Tw:=Lib.hid Q7;clear Q7;replace k1:=ak f k1;replace k2:=ak f k2;replace k3:=ak f k3;replace k5:=ak f k5;replace h6:=ak f h6;replace hz:=TS.frozen_kept f Qj hz;have aa:b<w1.heap.size:=by omega
 have Sg:=Lib.hid f;have P5:=Lib.hid Qy;clear f Qy;go_upto_region 11 with fail
 go_cut [7,8,9,10,11] (fun s7 s8 s9 S2 S3 wx=>s7= .map (some (w.heap.size+3))∧s8= .pointer (some ⟨w.heap.size+4,0,none⟩)∧s9= .pointer (some ⟨w.heap.size+5,0,none⟩)∧S2= .pointer (some ⟨w.heap.size+7,0,none⟩)∧
  S3= .func (.func 103) #[] #[.pointer (some ⟨w.heap.size+4,0,none⟩),.pointer (some ⟨w.heap.size+5,0,none⟩),.pointer (some ⟨w.heap.size+7,0,none⟩)]∧bH p g b u w xs [] 0 p none (.slice none 0 0) [] wx)
 case first=>
  go_wp2_with fail
  go_meet
  have h4:w1.heap.size+1+1=w.heap.size+4:=by have:=P5.out;omega
  have h5:w1.heap.size+1+1+1=w.heap.size+5:=by have:=P5.out;omega
  have h7:w1.heap.size+1+1+1+1+1=w.heap.size+7:=by have:=P5.out;omega
  have h3:w1.heap.size+1=w.heap.size+3:=by have:=P5.out;omega
  exact⟨by rw[h3],by rw[h4],by rw[h5],by rw[h7],by rw[h7,h5,h4],Cn xs Qx.out h6 QD.out S0 Qj Sg.out P5.out⟩
 case rest=>
  obtain⟨rfl,rfl,rfl,rfl,rfl,hB⟩:=hcut;have q1:wc.cell? ⟨b,1,none⟩=some (.slice a1 P c1):=hB.id.kw _ _ _ Sa.out;have S4:=Lib.hid hB;clear hB k1 k2 k3 k5 h6 hz;go_wp2_with fail
  go_loopw [57] (fun vi wr=> ∃(k:Nat)(m:Option Nat)(v:Value)(fs:List Nat),k≤P∧vi= .int .i64 k∧bH p g b u w xs ((u.es.take P).take k) 0 p m v fs wr) (fun vi _=>P- (intOf vi).toNat)
  case atStart=>exact⟨0,none,_,[],Nat.zero_le _,rfl,S4.out⟩
  case round=>
   obtain⟨k,m,v,fs,hk,rfl,hB⟩:=hrel;have s:=Lib.hid hB;clear hB q1;by_cases QF:k<P
   ·have Sh:(k:Int)<P:=by omega
    obtain⟨ab,ao,rfl,Qk⟩:=R6.out k QF;have e1:=s.out.id.kw _ _ _ Qk;have S5:k<u.es.length:=by have:=Sc.out;omega
    obtain⟨Si,RA⟩:=R8.out k QF S5;have e2:=s.out.id.kw _ _ _ RA;have Sj:k<(u.es.take P).length:=by rw[List.length_take];omega
    have l:(u.es.take P)[k]=u.es[k]:=List.getElem_take;have Rj:u.es[k]∈u.es.take u.m.toNat:=by rw[C.out,←l];exact List.getElem_mem Sj
    have Rk:cZ (u.es.take P):=by have:=n.out.two;rwa [C.out]at this
    have QG:f1 k<w.heap.size:=Qx.out.kw.lt RA
    have hC:=Lib.hid (tQ p g w.heap.size (w.heap.size+8) (w.heap.size+4) (w.heap.size+5) (w.heap.size+6) (w.heap.size+7) (f1 k) m v _ fs u.es[k] 0 true wr (m_ _) s.out.size Rz s.out.id s.out.bR Si QG (n.out.nm _ Rj)
     (by have:=s.out.bR.len;rw[this,List.length_take,List.length_take];have:=S1.out;omega))
    have Ql:Hid (bK ((u.es.take P).take k) u.es[k]=(u.es.take P).take (k+1)):=by rw[←l];exact Ck Rk Sj
    clear Qk Si RA Rj Rk l;go_wp2_with fail
    refine hC.out.mono ?_;rintro e w2 ⟨rfl,m',v',Q,Qm,QH,QI,QJ⟩;have Qz:Hid (bH p g b u w xs ((u.es.take P).take (k+1)) 0 p m' v' Q w2):=by
     rw[Ql.out]at Qm;exact s.out.add Qj Qm QH QG QI QJ
    clear Qm QH QI QJ hC;go_wp2_with fail
    refine⟨⟨k+1,m',v',Q,by omega,by go_num,Qz.out⟩,?_⟩;first|omega|(simp[intOf];omega)
   ·have RC:¬(k:Int)<P:=by omega
    have Qz:Hid (bH p g b u w xs (cL u 0) 0 p m v fs wr):=by
     have:=s.out;rw[List.take_of_length_le (by rw[List.length_take];omega)]at this;unfold cL;rw[C.out];exact this
    clear s;go_wp2_with fail
    refine(kV _).mono ?_;rintro e w3 ⟨rfl,Sk⟩;obtain⟨q,QK,M⟩:=Co Qz.out;rw[←Sk]at QK M;have k2:w3.cell? ⟨b,2,none⟩=some (.slice a2 n2 c2):=QK.id.kw _ _ _ (QK.gr.le _ _ _ Sb.out);have Rl:=Lib.hid QK;have I:=Lib.hid M;clear QK M Sk Qz;go_wp2_with fail
    go_loopw [76,14,15] (fun vi va vc wr=> ∃(k:Nat)(q:Pm)(m:Option Nat)(v:Value)(fs rs:List Nat)(R:List Tm×Bool),k≤n2∧vi= .int .i64 k∧vc= .bool R.2∧bH p g b u w xs (cL u k) k q m v fs wr∧pq g u w k q va rs R wr) (fun vi _ _ _=>n2- (intOf vi).toNat)
    case atStart=>exact⟨0,q,m,v,fs,_,_,Nat.zero_le _,rfl,rfl,Rl.out,I.out⟩
    case round=>
     clear Rl I k2 RC;obtain⟨k,q,m,v,fs,rs,R,hk,rfl,rfl,hB,hT⟩:=hrel;obtain⟨q1,xa,xc,rfl,Sl,Sm,S6,Sn,Sp,Sq,_,_,_⟩:=pn hB.id hT.row hT.dk;have f:Hid (bH p g b u w xs (cL u k) k q1 m v fs wr):=hB.gW Sl Sm fun c hc o=>by
      rw[Sq c (fun e=>hB.bR.apart (m_ _) hT.row e hc)];exact hB.bR.dk c hc o
     have D:Hid (Acc (bF u) ((u.es.drop u.m.toNat).take k) R∧R=((u.es.drop u.m.toNat).take k).foldl (fun a e=>fo a (gd e)) ([none],false)∧rs.length=R.1.length):=⟨hT.acc,hT.Rf,hT.row.len⟩
     have P6:=Lib.hid Sn;have P7:=Lib.hid Sp;have RD:=Lib.hid hB;have V:=Lib.hid hT;have j3:wr.cell? ⟨b,3,none⟩=some (.pointer none):=f.out.id.kw _ _ _ (f.out.gr.le _ _ _ Rh.out);clear hB hT Sl Sm S6 Sn Sp Sq;by_cases QF:k<n2
     ·have Sh:(k:Int)<n2:=by omega
      obtain⟨eb,eo,rfl,Qk⟩:=R7.out k QF;have e1:=f.out.id.kw _ _ _ (f.out.gr.le _ _ _ Qk);have RE:P+k<u.es.length:=by have:=Sf.out;omega
      have P8:k<(u.es.drop u.m.toNat).length:=by rw[C.out,Ri.out];exact QF
      have l:(u.es.drop u.m.toNat)[k]=u.es[P+k]:=by rw[List.getElem_drop];congr 1;rw[C.out]
      have P4:=n.out.el _ (List.getElem_mem P8);have N:=R9.out k RE;rw[l]at P4;generalize Q8:u.es[P+k]=e at*;rcases P4 with⟨Qr,Sr,hl,Ss⟩|⟨Q9,hi,hP,St,Su⟩|⟨Q9,W,hm,QL,P9⟩
      ·
       obtain⟨ub,ua,uc,uf,P_,RF,S7,Sv,Rm⟩:=N.Cl Qr;rw[P_]at e1;have kb:=ai dG 177 ub (by decide);have S8:=ba gF ub;obtain⟨K,fn,Sw,Qa,t,Qb,Sx,QE,y⟩:=zK ub wr;have Sy:=fun args w=>Go.MuLone.run_callFunc_enter Qa t Qb args w;have A:=Lib.hid y;obtain⟨F,RG,RH⟩:=f.out.um;have Qy:Sub p q1:=f.out.gr.le;have Sz:∀o,q1 (w.heap.size+3) o=none:=fun o=>by
        cases hh:q1 (w.heap.size+3) o with
        |none=>rfl
        |some z=>
         obtain⟨cs,T,hb⟩:=f.out.id.pl _ _ _ hh;obtain⟨es,cl,Qn,_⟩:=RG;rw[hb]at Qn;cases Qn
       have Qc:(u.es.getD (P+k) default).k=12∨(u.es.getD (P+k) default).k=13:=by rw[List.getD_eq_getElem?_getD,List.getElem?_eq_getElem RE,Option.getD_some,Q8];exact Qr
       have hU:=Lib.hid (BL len q1 g w.heap.size ub (w.heap.size+3) (bq e).length uc q0 0 ua uf (bq e) F (bF u) wr f.out.id RG (RH k ub (Nat.le_refl _) (by rw[C.out];exact RE) (by rw[C.out];exact Qc) P_) (Qx.out.kw.lt RF) (by omega) Rz (Qy _ _ _ RF) rfl hl (Sv.sub Qy) Sz
        (fun i hi=>(Rm i hi).sub Qy (aE.refl g)) Sr n.out.tok n.out.cJ)
       have SA:=Lib.hid RH;have SB:=Lib.hid P_;have Qo:=Lib.hid Qr;have SC:=Lib.hid Ss;have E:=Lib.hid l;clear y Qk Q8 N RF S7 Sv Rm Sr hl RG RH Sz Qc P_ Ss Qr l Qa t Qb;go_wp2_with fail
       refine A.out.mono ?_;rintro _ _ ⟨rfl,rfl⟩;go_wp2_with fail
       refine hU.out.mono ?_;rintro _ w4 ⟨q4,tb,v4,SD,S,F4,rfl,RI,B,TD,SE,SF,SG,SH,SI⟩;obtain⟨ta,tc,rfl⟩:=bd B.row.own;have s0:=B.c0;have s1:=B.c1;have s3:=B.c3;have RJ:=f.out.size;have Q_:bH p g b u w xs (cL u k) (k+1) q4 m v fs w4:=f.out.union Qj SB.out (by rw[C.out];exact R_.out) SA.out RI B.id SG SH SI;obtain⟨q5,ya,yc,e5,RK,O,SJ,S9,SK,SL,_⟩:=pn B.id B.row B.aI;obtain⟨rfl,rfl⟩:ta=ya∧tc=yc:=by cases e5;exact⟨rfl,rfl⟩
       have J:bH p g b u w xs (cL u (k+1)) (k+1) q5 m v fs w4:=by
        have hM:cL u (k+1)=cL u k:=by rw[nf P8,E.out];unfold b4;rw[if_neg (by rw[ng (Qo.out.elim .inl fun h=> .inr (.inl h))];decide)]
        rw[hM];exact Q_.gW (RK.mono (by omega)) O fun c hc o=>by
         rw[SL c (fun e=>Q_.bR.apart (m_ _) ⟨je B.row.own (by omega),B.row.len,B.row.cg⟩ e hc)];exact Q_.bR.dk c hc o
       have Qd:=RI.le.trans RK.le;have Qe:=Lib.hid (pw (Y:=(S,false)) n.out P8 J D.out.1 D.out.2.1 (by rw[E.out];exact Cb Qo.out SC.out B.wi B.na) (by rw[E.out];unfold gd;rw[if_pos Qo.out,B.fd]) xa rs.length xc (fun i=>rs.getD i 0) D.out.2.2 (fT (P6.out.sub Qd) O.kw) (fun i hi=>(P7.out i hi).sub Qd (aE.refl g)) ta SD.length tc (fun i=>SD.getD i 0) B.row.len SJ SK);clear RI B SF SG SH SI Q_ RK O SJ S9 SK SL J Qd e5 hU SE;go_wp2_with fail
       refine(gI _).mono ?_;rintro _ _ ⟨rfl,rfl⟩;go_wp2_with fail
       refine(gI _).mono ?_;rintro _ _ ⟨rfl,rfl⟩;go_wp2_with fail
       refine Qe.out.mono ?_;rintro _ w5 ⟨q6,QM,a6,c6,rfl,Qf,Qg⟩;have Qh:=Lib.hid Qf;have Qi:=Lib.hid Qg;clear Qf Qg Qe;go_wp2_with fail
       refine⟨⟨k+1,q6,m,v,fs,QM,_,by omega,by go_num,rfl,Qh.out,Qi.out⟩,?_⟩;first|omega|(simp[intOf];omega)
      ·
       obtain⟨_,Qn,Qs,QN,QO⟩:=hP.bare;obtain⟨xt,xb,rt,rb,P_,QP,hr⟩:=iE N QN hP.fl QO.1 QO.2;have Q6:rt=32∧∃u',(((under e).k=10∧u'=under e)∨((under e).k=16∧u'=cX))∧cy p g rb u':=by
        rcases hr with⟨Qp,hn⟩|⟨Qp,e2,hG⟩
        ·have Qq:(under e).k=10:=by
          unfold isIface at hi;simp only[Bool.or_eq_true,beq_iff_eq]at hi;exact hi.resolve_right Qp
         obtain⟨b',e2,hG⟩:=hn.gV Qq;cases e2;exact⟨rfl,_,.inl ⟨Qq,rfl⟩,(Qx.out.done _ _ hG).2⟩
        ·exact⟨e2,_,.inr ⟨Qp,rfl⟩,(Qx.out.done _ _ hG).2⟩
       obtain⟨rfl,u',QQ,S_⟩:=Q6;have SM:bF cX= []:=kN (by rw[gK];decide);have QR:an u'=an e:=by
        rcases QQ with⟨Qq,rfl⟩|⟨Qp,rfl⟩
        ·exact B6 Qq
        ·rw[fK (by rw[gK];decide),fK (by omega)]
       have SN:∀x∈bF u',x∈bF u:=by
        rcases QQ with⟨Qq,rfl⟩|⟨Qp,rfl⟩
        ·exact St
        ·intro x hx;rw[SM]at hx;cases hx
       have Rn:dy u'=dy e:=by
        rcases QQ with⟨Qq,rfl⟩|⟨Qp,rfl⟩
        ·exact rU Qq
        ·rw[mx (by rw[gK];decide),mx (by omega),gK,Qp];rfl
       obtain⟨tb,ma,mc,f',ta,tc,ts,cmp,t1,t2,t3,t4,t5,t6,t7,t8,t9,t10,⟨f2,t11,Ro⟩,t12,t13,t14,t15⟩:=S_;have QA:Sub p q1:=f.out.gr.le;have G:KW p wr:=f.out.id.kw.sub QA;have TE:Hid (KW p wr):=G;have RM:=Lib.hid (tO _ wr G hP N);have d1:=G _ _ _ t1;have d2:=G _ _ _ t12;have d3:=G _ _ _ t3;have SO:=Lib.hid (oZ rb tb q0 0 wr d1);have QS:aW e=true:=Cm Q9 hi;have SP:Hid (kd (bF u) e (ts,cmp)):=Cc Q9 hi QQ SN t13;have P4:Hid ((ts,cmp)=gd e):=Lib.hid (by unfold gd;rw[if_neg (by omega),if_pos hi,←Rn,t13.eq]);rw[P_]at e1 N RM;obtain⟨K,fn,Sw,Qa,t,Qb,Sx,QE,y⟩:=dS QP G;have Sy:=fun args w=>Go.MuLone.run_callFunc_enter Qa t Qb args w;have A:=Lib.hid (y _ G);have kb:=ba dG rb;have Ta:Hid (∀i(h:i<(an e).length),cP p g (an e)[i] (f' i)):=Lib.hid (by rw[←QR];exact t7);clear t7;generalize Rp:(an u').length=nm at*;have RN:Hid (∀j,(((an e).take j).foldl bK (cL u k)).length≤1048576):=fun j=>Nat.le_trans (Cj P8 (r:=an e) (fun _=>by rw[l]) (by rw[l];exact QS)) n.out.cf;have RP:Hid ((an e).foldl bK (cL u k)=cL u (k+1)):=Lib.hid (by rw[nf P8,l];unfold b4;rw[if_pos QS]);have Rq:Hid ((an e).length=nm):=Lib.hid (by rw[←QR,Rp]);have Td:=Lib.hid t6;have Te:=Lib.hid t8;have SQ:=Lib.hid t11;have SR:=Lib.hid Ro;have SS:=Lib.hid Su;have E:=Lib.hid l;clear y Qk Q8 N l Qa t Qb hr QP G hP hi St SN Rn QR SM QQ t1 t2 t3 t4 t6 t8 t9 t10 t11 Ro t12 t13 t14 t15 Qn Qs QN QO Q9 QS Su Rp;go_wp2_with fail
       refine A.out.mono ?_;rintro _ _ ⟨rfl,rfl⟩;go_wp2_with fail
       refine RM.out.mono ?_;rintro _ _ ⟨rfl,rfl⟩;go_wp2_with fail
       refine(gI _).mono ?_;rintro _ _ ⟨rfl,rfl⟩;go_wp2_with fail
       refine SO.out.mono ?_;rintro _ _ ⟨rfl,rfl⟩;go_wp2_with fail
       obtain⟨wo,rfl⟩:∃wo:World,wo=wr:=⟨_,rfl⟩
       go_loopw [124] (fun vj wx=> ∃(j:Nat)(m:Option Nat)(v:Value)(fs:List Nat),j≤nm∧vj= .int .i64 j∧bH p g b u w xs (((an e).take j).foldl bK (cL u k)) k q1 m v fs wx) (fun vj _=>nm- (intOf vj).toNat)
       case atStart=>exact⟨0,m,v,fs,Nat.zero_le _,rfl,f.out⟩
       case round=>
        clear f d1 d2 d3 SO RM A e1 j3;obtain⟨j,m,v,fs,hj,rfl,hB⟩:=hrel;have s:=Lib.hid hB;clear hB;by_cases SU:j<nm
        ·have Tf:(j:Int)<nm:=by omega
         obtain⟨mb,mo,rfl,SV⟩:=Td.out j SU;have e2:=s.out.id.kw _ _ _ (QA _ _ _ SV);have RR:j<(an e).length:=by have:=Rq.out;omega
         have RS:=Ta.out j RR;have QG:f' j<w.heap.size:=by obtain⟨sb,⟨_,h1⟩,_⟩:=RS;exact Qx.out.kw.lt h1
         have hC:=Lib.hid (tQ q1 g w.heap.size (w.heap.size+8) (w.heap.size+4) (w.heap.size+5) (w.heap.size+6) (w.heap.size+7) (f' j) m v _ fs (an e)[j] 0 false wr (m_ _) s.out.size Rz s.out.id s.out.bR (RS.sub QA (aE.refl g)) QG (SS.out _ (List.getElem_mem RR)) (by rw[s.out.bR.len];exact RN.out j));have Ql:Hid (bK (((an e).take j).foldl bK (cL u k)) (an e)[j]=((an e).take (j+1)).foldl bK (cL u k)):=(mw bK _ RR).symm;clear SV RS;go_wp2_with fail
         refine hC.out.mono ?_;rintro e' w2 ⟨rfl,m',v',Q,Qm,QH,QI,QJ⟩;have Qz:Hid (bH p g b u w xs (((an e).take (j+1)).foldl bK (cL u k)) k q1 m' v' Q w2):=by
          rw[Ql.out]at Qm;exact s.out.add Qj Qm QH QG QI QJ
         clear Qm QH QI QJ hC;go_wp2_with fail
         refine⟨⟨j+1,m',v',Q,by omega,by go_num,Qz.out⟩,?_⟩;first|omega|(simp[intOf];omega)
        ·have RC:¬(j:Int)<nm:=by omega
         have J:bH p g b u w xs (cL u (k+1)) (k+1) q1 m v fs wr:=by
          have:=s.out;rw[List.take_of_length_le (by have:=Rq.out;omega),RP.out]at this;exact this.skip
         have d4:=J.id.kw _ _ _ (QA _ _ _ Te.out);have Qe:=Lib.hid (pw (Y:=(ts,cmp)) n.out P8 J D.out.1 D.out.2.1 (by rw[E.out];exact SP.out) (by rw[E.out];exact P4.out) xa rs.length xc (fun i=>rs.getD i 0) D.out.2.2 (fT P6.out J.id.kw) P7.out ta ts.length tc f2 rfl (fT (SQ.out.sub QA) J.id.kw) (fun i hi=>(SR.out i hi).sub QA (aE.refl g)));clear J s;go_wp2_with fail
         refine Qe.out.mono ?_;rintro _ w5 ⟨q6,QM,a6,c6,rfl,Qf,Qg⟩;have Qh:=Lib.hid Qf;have Qi:=Lib.hid Qg;clear Qf Qg Qe;go_wp2_with fail
         refine⟨⟨k+1,q6,m,v,fs,QM,_,by omega,by go_num,rfl,Qh.out,Qi.out⟩,?_⟩;first|omega|(simp[intOf];omega)
      ·
       have QT:=W.ni;unfold isIface at QT;simp only[Bool.or_eq_false_iff,beq_eq_false_iff_ne,ne_eq]at QT;obtain⟨QU,Qn,Qs,_⟩:=W.vt.bare;have QN:bare (bare e)=bare e:=cd Qn Qs;have QV:=W.vu.aB;obtain⟨xt,xb,rt,rb,P_,QP,hr⟩:=iE N QN W.fl QU.aB.1 QU.aB.2;obtain⟨Tg,Ra⟩:(under e).k≠16∧TS.Node p g (under e) (ae rt rb):=hr.resolve_right fun h=>QT.2 h.1;have QW:=iH Ra QL P9;have Qc:=(Ra.tag QL P9).2;have Rr:rt≠32:=by
        rw[QW];intro e1;have:32=bf 10:=rfl;rw[this]at e1;exact QT.1 (dY e1.symm (by decide) ⟨QL,P9,Qc.1,Qc.2⟩).symm
       have Rs:rt≠177:=by
        rw[QW];rcases k_ Qc.1 Qc.2 QL QV.1 QV.2 P9 with h|h|h|h|h|h|h|h|h|h
        all_goals first|(rw[h];decide)|(rcases h with h|h|h<;>rw[h]<;>decide)
       have G:KW p wr:=f.out.id.kw.sub f.out.gr.le;have Th:=Lib.hid (tN rt rb wr G W.vu Ra QL P9);rw[P_]at e1 N;obtain⟨K,fn,Sw,Qa,t,Qb,Sx,QE,y⟩:=dS QP G;have Sy:=fun args w=>Go.MuLone.run_callFunc_enter Qa t Qb args w;have A:=Lib.hid (y _ G);have kb:=ai dG rt rb Rr;have S8:=ai gF rt rb Rs;have hd:∀o,q1 wr.heap.size o=none:=fun o=>f.out.id.kw.aI (Nat.le_refl _) o;have RJ:=f.out.size;have RV:Below wr.heap.size wr ((wr.alloc (.cells #[.bool false,.iface xt (.pointer (some ⟨xb,0,none⟩))] 181)).alloc (.cells #[.pointer (some ⟨wr.heap.size,0,none⟩)] 179)):=((Below.refl _ _).alloc (Nat.le_refl _) _).alloc (by simp) _;have Qd:Sub q1 (q1.add wr.heap.size #[.bool false,.iface xt (.pointer (some ⟨xb,0,none⟩))]):=Pm.cO hd;have O:aq (q1.add wr.heap.size #[.bool false,.iface xt (.pointer (some ⟨xb,0,none⟩))]) g ((wr.alloc (.cells #[.bool false,.iface xt (.pointer (some ⟨xb,0,none⟩))] 181)).alloc (.cells #[.pointer (some ⟨wr.heap.size,0,none⟩)] 179)):=(f.out.id.below RV).add (T:=181) hd (by rw[dC (by simp),b8 rfl]);have J:bH p g b u w xs (cL u (k+1)) (k+1) (q1.add wr.heap.size #[.bool false,.iface xt (.pointer (some ⟨xb,0,none⟩))]) m v fs ((wr.alloc (.cells #[.bool false,.iface xt (.pointer (some ⟨xb,0,none⟩))] 181)).alloc (.cells #[.pointer (some ⟨wr.heap.size,0,none⟩)] 179)):=by
        have hM:cL u (k+1)=cL u k:=by rw[nf P8,l];unfold b4;rw[if_neg (by rw[ng (.inr (.inr W.ni))];decide)]
        rw[hM];exact((f.out.below RV).gW (Pm.cW hd RJ) O fun c hc o=>by
         have:=f.out.bR.lt c hc;rw[Pm.aK _ _ _ (by omega)];exact f.out.bR.dk c hc o).skip
       have Qe:=Lib.hid (pw (Y:=([some (false,e)],false)) n.out P8 J D.out.1 D.out.2.1 (by rw[l];exact Cd W.ni hm) (by rw[l];unfold gd;rw[if_neg (by omega),if_neg (by rw[W.ni];decide)]) xa rs.length xc (fun i=>rs.getD i 0) D.out.2.2 (fT (P6.out.sub Qd) O.kw) (fun i hi=>(P7.out i hi).sub Qd (aE.refl g))
        (some ⟨wr.heap.size+1,0,none⟩) 1 1 (fun _=>wr.heap.size) rfl (fun i hi=>⟨wr.heap.size+1,0,rfl,by obtain rfl:i=0:=(by omega);simp[go_sem]⟩) (fun i hi=>by
         obtain rfl:i=0:=by simp at hi;omega
         refine⟨by rw[Pm.aT];rfl,.iface xt (.pointer (some ⟨xb,0,none⟩)),by rw[Pm.aT];rfl,N.sub (f.out.gr.le.trans Qd) (aE.refl g)⟩))
       clear y Qk Q8 N l Qa t Qb hr Ra QP QW Qc Rr Rs G QT QU Qn Qs QN QV Tg W hm hd RV Qd O J;go_wp2_with fail
       refine A.out.mono ?_;rintro _ _ ⟨rfl,rfl⟩;go_wp2_with fail
       refine Th.out.mono ?_;rintro _ _ ⟨rfl,rfl⟩;go_wp2_with fail
       refine Qe.out.mono ?_;rintro _ w5 ⟨q6,QM,a6,c6,rfl,Qf,Qg⟩;have Qh:=Lib.hid Qf;have Qi:=Lib.hid Qg;clear Qf Qg Qe;go_wp2_with fail
       refine⟨⟨k+1,q6,m,v,fs,QM,_,by omega,by go_num,rfl,Qh.out,Qi.out⟩,?_⟩;first|omega|(simp[intOf];omega)
     ·have RC:¬(k:Int)<n2:=by omega
      have Rb:(u.es.drop u.m.toNat).length≤k:=by rw[C.out,Ri.out];omega
      have RX:Hid (gD u R.1 R.2):=by
       have h1:=D.out.1;have h2:=D.out.2.1;rw[List.take_of_length_le Rb]at h1 h2;exact Acc.ok n.out.bz h1 (by rw[tZ n.out.bz];exact h2.symm)
      have hM:Hid (cL u k=ef u):=Lib.hid (by unfold cL ef;rw[List.take_of_length_le Rb]);have d:Hid (bH p g b u w xs (ef u) k q m v fs wr):=by rw[←hM.out];exact RD.out
      obtain⟨av,ac,rfl⟩:=bd d.out.bR.row;have RJ:=d.out.size;have j6:=d.out.b6;have j9:=d.out.bR.ac;have Ti:wr.cell? ⟨w.heap.size+2,1,none⟩=some (.slice none 0 0):=by simp[World.cell?,d.out.tb]
      have Tj:wr.cell? ⟨w.heap.size+2,2,none⟩=some (.slice (some ⟨w.heap.size+1,0,none⟩) 1 1):=by simp[World.cell?,d.out.tb]
      have Tk:wr.cell? ⟨w.heap.size+2,3,none⟩=some (.bool false):=by simp[World.cell?,d.out.tb]
      have Tl:wr.frozen? ⟨w.heap.size+2,2,none⟩=false:=by simp[World.frozen?,d.out.tb]
      have Tn:wr.frozen? ⟨w.heap.size+2,3,none⟩=false:=by simp[World.frozen?,d.out.tb]
      have To:wr.frozen? ⟨w.heap.size+2,1,none⟩=false:=by simp[World.frozen?,d.out.tb]
      have Tx:b≠w.heap.size+2:=by omega
      have Qt:w.heap.size+2≠5:=by omega
      have Qu:Plain wr b:=d.out.id.pl _ _ _ (d.out.gr.le _ _ _ Rh.out);have Qv:∀c,(Value.slice av fs.length ac).ownBlock=some c→w.heap.size+8≤c:=fun c e=>(d.out.bR.row.lt c e).1;have L:∀c,(Value.slice xa rs.length xc).ownBlock=some c→w.heap.size+8≤c:=fun c e=>(V.out.row.own.lt c e).1;have QX:aq q g (wr.setCell ⟨w.heap.size+2,3,none⟩ (.bool R.2)):=d.out.id.setCell _ (d.out.td 3) Qt;have Rc:Kept (fun c=>c=b) w (wr.setCell ⟨w.heap.size+2,3,none⟩ (.bool R.2)):=Kept.setCell (X:=fun c=>c=b) d.out.kept (fun h=>absurd h (by simp)) _;have M:b7 q g (w.heap.size+8) (wr.setCell ⟨w.heap.size+2,3,none⟩ (.bool R.2)) (.slice xa rs.length xc) rs R.1:=⟨eO V.out.row.own (fun e=>by have:=L _ e;simp only at this;omega) _,V.out.row.len,V.out.row.cg⟩
      have h3:=heap_set (o:=3) (v:= .bool R.2) d.out.tb;have Z:(an u).length=(ef u).length:=by rw[jv n.out.bz];unfold bZ;rw[List.length_mergeSort]
      rcases Nat.eq_zero_or_pos fs.length with h0|h0
      ·have SX:(an u).length=0:=by rw[Z,←d.out.bR.len];exact h0
       have Qw:Hid (iJ p g b u w (.returned (.pointer (some ⟨w.heap.size+2,0,none⟩))) ((wr.setCell ⟨w.heap.size+2,3,none⟩ (.bool R.2)).setCell ⟨w.heap.size+2,2,none⟩ (.slice xa rs.length xc))):=by
        refine ug (mv:= .slice none 0 0) (fs:= []) (rs:=rs) n.out Qj QD.out (iA (iA Qu _ _) _ _) d.out.gr (QX.setCell _ (d.out.td 2) Qt) d.out.td (Kept.setCell (X:=fun c=>c=b) Rc (fun h=>absurd h (by simp)) _) ?_ ?_ ?_ (by rw[SX];rfl) (fun i hi=>by omega) (fun c e=>(by cases e)) ?_ V.out.dk RX.out
        ·exact heap_set (o:=2) h3
        ·rw[World.cell?_setCell_other _ _ _ _ (fun e=>absurd (congrArg Addr.off e) (by simp)),World.cell?_setCell_other _ _ _ _ (fun e=>absurd (congrArg Addr.off e) (by simp))];exact j6
        ·exact World.ownsRow_nil _ _ _ _
        ·exact⟨eO M.own (fun e=>by have:=L _ e;simp only at this;omega) _,M.len,M.cg⟩
       rw[h0]at j9;clear d V RD D f QX Rc M h3 Qu Qv L Z SX RX hM Rb P6 P7 j3;go_wp2_with fail
       go_ret;exact Qw.out
      ·have hS:=Lib.hid (tV q g (w.heap.size+8) (ef u) fs (.slice av fs.length ac) (wr.setCell ⟨w.heap.size+2,3,none⟩ (.bool R.2)) QX.wb (eO d.out.bR.row (fun e=>by have:=Qv _ e;simp only at this;omega) _) d.out.bR.len d.out.bR.cg n.out.names (nK n.out.two) (fun c e=>d.out.bR.dk c (.inr (.inr (.inr (.inr e))))) (by omega) (by rw[d.out.bR.len];exact n.out.cf))
       have TF:¬(fs.length:Int)=0:=by omega
       have Rt:=Lib.hid QX;have Ru:=Lib.hid Rc;have I:=Lib.hid M;have SY:=Lib.hid h3;have QY:=Lib.hid Qu;have H:=Lib.hid Qv;have P3:=Lib.hid L;have Re:=Lib.hid Z;clear RD D f QX Rc M h3 Qu Qv L Z hM Rb P6 P7 j3;go_wp2_with fail
       refine hS.out.mono ?_;rintro e w5 ⟨rfl,Q,QZ,Q3,Q4,QB,_⟩;have SZ:(w5.ownsRow (w.heap.size+8) 99 1 (.slice av fs.length ac) Q.length (Q.map pv)):=QZ;have Tp:=QB.size;have Tq:(wr.setCell ⟨w.heap.size+2,3,none⟩ (.bool R.2)).heap.size=wr.heap.size:=by simp
       have Q5:∀c,c<w.heap.size+8→w5.heap[c]?=(wr.setCell ⟨w.heap.size+2,3,none⟩ (.bool R.2)).heap[c]?:=fun c hc=>QB.block c (by omega) fun e=>by have:=H.out c e;omega
       have QC:=(Q5 (w.heap.size+2) (by omega)).trans SY.out;have i1:w5.cell? ⟨w.heap.size+2,1,none⟩=some (.slice none 0 0):=by simp[World.cell?,QC]
       have i2:w5.cell? ⟨w.heap.size+2,2,none⟩=some (.slice (some ⟨w.heap.size+1,0,none⟩) 1 1):=by simp[World.cell?,QC]
       have TG:w5.frozen? ⟨w.heap.size+2,1,none⟩=false:=by simp[World.frozen?,QC]
       have TH:w5.frozen? ⟨w.heap.size+2,2,none⟩=false:=by simp[World.frozen?,QC]
       have i6:w5.cell? ⟨b,6,none⟩=some (ptr (w.heap.size+2)):=by
        rw[World.cell?_of_block (a:=⟨b,6,none⟩) (Q5 b (by omega)),World.cell?_setCell_other _ _ _ _ (fun e=>absurd (congrArg Addr.off e) (by simp))];exact j6
       have i9:w5.cell? ⟨w.heap.size+5,0,none⟩=some (.slice av fs.length ac):=by
        rw[World.cell?_of_block (a:=⟨w.heap.size+5,0,none⟩) (Q5 (w.heap.size+5) (by omega)),World.cell?_setCell_other _ _ _ _ (fun e=>absurd (congrArg Addr.off e) (by simp))];exact j9
       have O:aq q g w5:=Rt.out.own QB (fun c e=>d.out.bR.dk c (.inr (.inr (.inr (.inr e))))) fun e=>by have:=H.out _ e;omega
       have Rv:Kept (fun c=>c=b) w w5:=Ru.out.trans QB fun c hc e=>by have:=H.out c e;omega
       have Rg:b7 q g (w.heap.size+8) w5 (.slice xa rs.length xc) rs R.1:=⟨dO I.out.own QB fun c e e'=>by
        obtain⟨cur,h1⟩:=gL V.out.row.own e;obtain⟨Ty,h2⟩:=gL d.out.bR.row e';rw[h1]at h2;injection h2 with h2;injection h2 with _ h2;exact absurd h2 (by decide),I.out.len,I.out.cg⟩
       have Qw:Hid (iJ p g b u w (.returned (.pointer (some ⟨w.heap.size+2,0,none⟩))) ((w5.setCell ⟨w.heap.size+2,1,none⟩ (.slice av fs.length ac)).setCell ⟨w.heap.size+2,2,none⟩ (.slice xa rs.length xc))):=by
        have e:=jv n.out.bz;have Tr:Plain w5 b:=by
         obtain⟨cs,T,hb⟩:=iA QY.out ⟨w.heap.size+2,3,none⟩ (.bool R.2);exact⟨cs,T,(Q5 b (by omega)).trans hb⟩
        refine ug (mv:= .slice av fs.length ac) (fs:=Q) (rs:=rs) n.out Qj QD.out (iA (iA Tr _ _) _ _) d.out.gr ((O.setCell _ (d.out.td 1) Qt).setCell _ (d.out.td 2) Qt) d.out.td (Kept.setCell (X:=fun c=>c=b) (Kept.setCell (X:=fun c=>c=b) Rv (fun h=>absurd h (by simp)) _) (fun h=>absurd h (by simp)) _) ?_ ?_ ?_ (by rw[Q3,e]) (fun i hi Ts=>by have:=Q4 i (by rw[←e];exact hi) Ts;simpa [e]using this) (fun c e=>d.out.bR.dk c (.inr (.inr (.inr (.inr e))))) ?_ V.out.dk RX.out
        ·exact heap_set (o:=2) (heap_set (o:=1) QC)
        ·rw[World.cell?_setCell_other _ _ _ _ (fun e=>absurd (congrArg Addr.off e) (by simp)),World.cell?_setCell_other _ _ _ _ (fun e=>absurd (congrArg Addr.off e) (by simp))];exact i6
        ·exact eO (eO SZ (fun e=>by have:=H.out _ e;simp only at this;omega) _) (fun e=>by have:=H.out _ e;simp only at this;omega) _
        ·exact⟨eO (eO Rg.own (fun e=>by have:=P3.out _ e;simp only at this;omega) _) (fun e=>by have:=P3.out _ e;simp only at this;omega) _,Rg.len,Rg.cg⟩
       clear QZ Q3 Q4 QB SZ Tp Tq Q5 QC O Rv Rg V d Rt Ru I SY QY H P3 Re Ti Tj Tk To Tl Tn j6 j9 hS;go_wp2_with fail
       go_region
       all_goals
        go_wp2_with fail
        go_ret;first|exact Qw.out|exact Qw.out.drew
end Go.Proofs.YtkfaiocajcjomaaGreatDoor
