import Derived.Test.YtdkmnkjhhhmglaaGreatDoorYbe
set_option maxRecDepth 100000
set_option maxHeartbeats 8000000
set_option linter.all false
namespace Go.Proofs.YtdkmnkjhhhmglaaGreatDoor
open Go.RowKit TS
theorem wT(len:Nat)(p:Pm)(g:Ge)(b:Nat)(u:U)(q0:Option Addr)(pos:Int)(w:World)(hE:aw p g w)(hI:fX p g b u)(hF:gd len u)(h6:w.cell? ⟨b,6,none⟩=some (.pointer none))(hz:w.frozen? ⟨b,6,none⟩=false)(RC:p b 6=none)(SK:5<b):
 Calls Tryz.prog 74 #[.pointer q0,.int .i64 pos,.pointer (some ⟨b,0,none⟩)] w (jK p g b u w):=by
 have Tk:= @run_makeMap Tryz.prog;have Tl:∀(fn:Fn)(first cap:Array Value)(w:World),(Instr.makeFunc fn first cap).run Tryz.prog w= .ok (.func fn first cap) w:=fun _ _ _ _=>rfl;obtain⟨ck,⟨RD,a1,c1,f1,Rg,Tn,Te,RE,RF⟩,⟨a2,c2,xs,PN,To,_,QN,RG,RH⟩,Rh,Ri⟩:=hI;have P4:b<w.heap.size:=World.block_lt_of_cell? _ _ h6;have RI:Plain w b:=hE.pl _ _ _ ck;have Rj:5<w.heap.size:=by omega
 have Qh:=Lib.hid hE;have n:=Lib.hid hF;have RJ:=Lib.hid RE;have RK:=Lib.hid QN;have RM:=Lib.hid RF;have RN:=Lib.hid RG;have RP:=Lib.hid RH;have Tf:=Lib.hid RI;have Qn:=Lib.hid RC;have RR:=Lib.hid Rg;have RS:=Lib.hid PN;have QX:=Lib.hid Rh;have Tg:=Lib.hid Ri;have k1:=hE.kw _ _ _ Rg;have k2:=hE.kw _ _ _ PN;have k3:=hE.kw _ _ _ Rh;have k5:=hE.kw _ _ _ Ri;have Qo:(u.es.drop u.m.toNat).length=u.es.length- u.m.toNat:=by simp
 have QY:=Lib.hid Qo;have RV:=Lib.hid RD;have SL:=Lib.hid hF.len;clear hE hF RE QN RF RG RH RC Rg PN Rh Ri ck RI Qo RD;generalize RX:u.m.toNat=P at*;generalize RY:u.es.length- P=n2 at*;have C:=Lib.hid RX;have RZ:=Lib.hid RY;clear RX RY;go_enter Tryz.func74,Tryz.ntmps74;go_wp2_with fail
 refine(mO _).mono ?_;rintro e w1 ⟨rfl,QO⟩;have Qi:w1.heap.size=w.heap.size+2:=by rw[QO];simp
 have f:Below w.heap.size w w1:=by rw[QO];exact((Below.refl _ _).alloc (Nat.le_refl _) _).alloc (by simp) _
 have Th:=Lib.hid QO;clear QO;replace k1:=ar f k1;replace k2:=ar f k2;replace k3:=ar f k3;replace k5:=ar f k5;replace h6:=ar f h6;replace hz:=TS.frozen_kept f P4 hz;have aa:b<w1.heap.size:=by omega
 have R0:=Lib.hid f;have PO:=Lib.hid Qi;clear f Qi;go_upto_region 11 with fail
 go_cut [7,8,9,10,11] (fun s7 s8 s9 SM SN wx=>s7= .map (some (w.heap.size+3))∧s8= .pointer (some ⟨w.heap.size+4,0,none⟩)∧s9= .pointer (some ⟨w.heap.size+5,0,none⟩)∧SM= .pointer (some ⟨w.heap.size+7,0,none⟩)∧
  SN= .func (.func 123) #[] #[.pointer (some ⟨w.heap.size+4,0,none⟩),.pointer (some ⟨w.heap.size+5,0,none⟩),.pointer (some ⟨w.heap.size+7,0,none⟩)]∧bW p g b u w xs [] 0 p none (.slice none 0 0) [] wx)
 case first=>
  go_wp2_with fail
  go_meet
  have h4:w1.heap.size+1+1=w.heap.size+4:=by have:=PO.out;omega
  have h5:w1.heap.size+1+1+1=w.heap.size+5:=by have:=PO.out;omega
  have h7:w1.heap.size+1+1+1+1+1=w.heap.size+7:=by have:=PO.out;omega
  have h3:w1.heap.size+1=w.heap.size+3:=by have:=PO.out;omega
  exact⟨by rw[h3],by rw[h4],by rw[h5],by rw[h7],by rw[h7,h5,h4],Ex xs Qh.out h6 Qn.out SK P4 R0.out PO.out⟩
 case rest=>
  obtain⟨rfl,rfl,rfl,rfl,rfl,hB⟩:=hcut;have q1:wc.cell? ⟨b,1,none⟩=some (.slice a1 P c1):=hB.id.kw _ _ _ RR.out;have SO:=Lib.hid hB;clear hB k1 k2 k3 k5 h6 hz;go_wp2_with fail
  go_loopw [57] (fun vi wr=> ∃(k:Nat)(m:Option Nat)(v:Value)(fs:List Nat),k≤P∧vi= .int .i64 k∧bW p g b u w xs ((u.es.take P).take k) 0 p m v fs wr) (fun vi _=>P- (intOf vi).toNat)
  case atStart=>exact⟨0,none,_,[],Nat.zero_le _,rfl,SO.out⟩
  case round=>
   obtain⟨k,m,v,fs,hk,rfl,hB⟩:=hrel;have s:=Lib.hid hB;clear hB q1;by_cases Qp:k<P
   ·have R1:(k:Int)<P:=by omega
    obtain⟨ab,ao,rfl,P5⟩:=RJ.out k Qp;have e1:=s.out.id.kw _ _ _ P5;have SP:k<u.es.length:=by have:=RV.out;omega
    obtain⟨R2,Rk⟩:=RM.out k Qp SP;have e2:=s.out.id.kw _ _ _ Rk;have R4:k<(u.es.take P).length:=by rw[List.length_take];omega
    have l:(u.es.take P)[k]=u.es[k]:=List.getElem_take;have QZ:u.es[k]∈u.es.take u.m.toNat:=by rw[C.out,←l];exact List.getElem_mem R4
    have Q3:dG (u.es.take P):=by have:=n.out.two;rwa [C.out]at this
    have Qq:f1 k<w.heap.size:=Qh.out.kw.lt Rk
    have hC:=Lib.hid (wG p g w.heap.size (w.heap.size+8) (w.heap.size+4) (w.heap.size+5) (w.heap.size+6) (w.heap.size+7) (f1 k) m v _ fs u.es[k] 0 true wr (pd _) s.out.size Rj s.out.id s.out.cf R2 Qq (n.out.nm _ QZ)
     (by have:=s.out.cf.len;rw[this,List.length_take,List.length_take];have:=SL.out;omega))
    have P6:Hid (bG ((u.es.take P).take k) u.es[k]=(u.es.take P).take (k+1)):=by rw[←l];exact Eu Q3 R4
    clear P5 R2 Rk QZ Q3 l;go_wp2_with fail
    refine hC.out.mono ?_;rintro e w2 ⟨rfl,m',v',Q,P7,Qr,Qs,Qt⟩;have Qj:Hid (bW p g b u w xs ((u.es.take P).take (k+1)) 0 p m' v' Q w2):=by
     rw[P6.out]at P7;exact s.out.add P4 P7 Qr Qq Qs Qt
    clear P7 Qr Qs Qt hC;go_wp2_with fail
    refine⟨⟨k+1,m',v',Q,by omega,by go_num,Qj.out⟩,?_⟩;first|omega|(simp[intOf];omega)
   ·have Rl:¬(k:Int)<P:=by omega
    have Qj:Hid (bW p g b u w xs (dh u 0) 0 p m v fs wr):=by
     have:=s.out;rw[List.take_of_length_le (by rw[List.length_take];omega)]at this;unfold dh;rw[C.out];exact this
    clear s;go_wp2_with fail
    refine(mO _).mono ?_;rintro e w3 ⟨rfl,R5⟩;obtain⟨q,Qu,M⟩:=Ey Qj.out;rw[←R5]at Qu M;have k2:w3.cell? ⟨b,2,none⟩=some (.slice a2 n2 c2):=Qu.id.kw _ _ _ (Qu.gr.le _ _ _ RS.out);have Q4:=Lib.hid Qu;have I:=Lib.hid M;clear Qu M R5 Qj;go_wp2_with fail
    go_loopw [76,14,15] (fun vi va vc wr=> ∃(k:Nat)(q:Pm)(m:Option Nat)(v:Value)(fs rs:List Nat)(R:List Tm×Bool),k≤n2∧vi= .int .i64 k∧vc= .bool R.2∧bW p g b u w xs (dh u k) k q m v fs wr∧ry g u w k q va rs R wr) (fun vi _ _ _=>n2- (intOf vi).toNat)
    case atStart=>exact⟨0,q,m,v,fs,_,_,Nat.zero_le _,rfl,rfl,Q4.out,I.out⟩
    case round=>
     clear Q4 I k2 Rl;obtain⟨k,q,m,v,fs,rs,R,hk,rfl,rfl,hB,hT⟩:=hrel;obtain⟨q1,xa,xc,rfl,R6,R7,SQ,R8,R9,R_,_,_,_⟩:=ru hB.id hT.row hT.dk;have f:Hid (bW p g b u w xs (dh u k) k q1 m v fs wr):=hB.iZ R6 R7 fun c hc o=>by
      rw[R_ c (fun e=>hB.cf.apart (pd _) hT.row e hc)];exact hB.cf.dk c hc o
     have D:Hid (Acc (bL u) ((u.es.drop u.m.toNat).take k) R∧R=((u.es.drop u.m.toNat).take k).foldl (fun a e=>dp a (dw e)) ([none],false)∧rs.length=R.1.length):=⟨hT.acc,hT.Rf,hT.row.len⟩
     have PQ:=Lib.hid R8;have PR:=Lib.hid R9;have Rm:=Lib.hid hB;have V:=Lib.hid hT;have j3:wr.cell? ⟨b,3,none⟩=some (.pointer none):=f.out.id.kw _ _ _ (f.out.gr.le _ _ _ QX.out);clear hB hT R6 R7 SQ R8 R9 R_;by_cases Qp:k<n2
     ·have R1:(k:Int)<n2:=by omega
      obtain⟨eb,eo,rfl,P5⟩:=RK.out k Qp;have e1:=f.out.id.kw _ _ _ (f.out.gr.le _ _ _ P5);have Rn:P+k<u.es.length:=by have:=RZ.out;omega
      have PS:k<(u.es.drop u.m.toNat).length:=by rw[C.out,QY.out];exact Qp
      have l:(u.es.drop u.m.toNat)[k]=u.es[P+k]:=by rw[List.getElem_drop];congr 1;rw[C.out]
      have PN:=n.out.el _ (List.getElem_mem PS);have N:=RN.out k Rn;rw[l]at PN;generalize QP:u.es[P+k]=e at*;rcases PN with⟨Qb,Sa,hl,Sb⟩|⟨QQ,hi,hP,Sc,Sd⟩|⟨QQ,W,hm,Qv,PT⟩
      ·
       obtain⟨ub,ua,uc,uf,PU,Ro,SR,Se,Q5⟩:=N.Ev Qb;rw[PU]at e1;have np:=an dZ 185 ub (by decide);have SS:=bd iF ub;obtain⟨K,fn,Sf,PV,t,PW,Sg,Qo,y⟩:=B5 ub wr;have Sh:=fun args w=>Go.MuLone.run_callFunc_enter PV t PW args w;have A:=Lib.hid y;obtain⟨F,Rp,Rq⟩:=f.out.um;have Qi:Sub p q1:=f.out.gr.le;have Si:∀o,q1 (w.heap.size+3) o=none:=fun o=>by
        cases hh:q1 (w.heap.size+3) o with
        |none=>rfl
        |some z=>
         obtain⟨cs,T,hb⟩:=f.out.id.pl _ _ _ hh;obtain⟨es,cl,P8,_⟩:=Rp;rw[hb]at P8;cases P8
       have PX:(u.es.getD (P+k) default).k=12∨(u.es.getD (P+k) default).k=13:=by rw[List.getD_eq_getElem?_getD,List.getElem?_eq_getElem Rn,Option.getD_some,QP];exact Qb
       have hU:=Lib.hid (DY len q1 g w.heap.size ub (w.heap.size+3) (bj e).length uc q0 0 ua uf (bj e) F (bL u) wr f.out.id Rp (Rq k ub (Nat.le_refl _) (by rw[C.out];exact Rn) (by rw[C.out];exact PX) PU) (Qh.out.kw.lt Ro) (by omega) Rj (Qi _ _ _ Ro) rfl hl (Se.sub Qi) Si
        (fun i hi=>(Q5 i hi).sub Qi (aH.refl g)) Sa n.out.tok n.out.dm)
       have Sj:=Lib.hid Rq;have Sk:=Lib.hid PU;have P9:=Lib.hid Qb;have Sl:=Lib.hid Sb;have E:=Lib.hid l;clear y P5 QP N Ro SR Se Q5 Sa hl Rp Rq Si PX PU Sb Qb l PV t PW;go_wp2_with fail
       refine A.out.mono ?_;rintro _ _ ⟨rfl,rfl⟩;go_wp2_with fail
       refine hU.out.mono ?_;rintro _ w4 ⟨q4,tb,v4,Sm,S,F4,rfl,Rr,B,Tp,Sn,Sp,Sq,Sr,Ss⟩;obtain⟨ta,tc,rfl⟩:=bn B.row.own;have s0:=B.c0;have s1:=B.c1;have s3:=B.c3;have Rs:=f.out.size;have QR:bW p g b u w xs (dh u k) (k+1) q4 m v fs w4:=f.out.union P4 Sk.out (by rw[C.out];exact RP.out) Sj.out Rr B.id Sq Sr Ss;obtain⟨q5,ya,yc,e5,Rt,O,Su,SU,Sv,Sw,_⟩:=ru B.id B.row B.aJ;obtain⟨rfl,rfl⟩:ta=ya∧tc=yc:=by cases e5;exact⟨rfl,rfl⟩
       have J:bW p g b u w xs (dh u (k+1)) (k+1) q5 m v fs w4:=by
        have hM:dh u (k+1)=dh u k:=by rw[pf PS,E.out];unfold bH;rw[if_neg (by rw[pg (P9.out.elim .inl fun h=> .inr (.inl h))];decide)]
        rw[hM];exact QR.iZ (Rt.mono (by omega)) O fun c hc o=>by
         rw[Sw c (fun e=>QR.cf.apart (pd _) ⟨kh B.row.own (by omega),B.row.len,B.row.cM⟩ e hc)];exact QR.cf.dk c hc o
       have PY:=Rr.le.trans Rt.le;have PZ:=Lib.hid (rA (Y:=(S,false)) n.out PS J D.out.1 D.out.2.1 (by rw[E.out];exact Ek P9.out Sl.out B.wi B.na) (by rw[E.out];unfold dw;rw[if_pos P9.out,B.fd]) xa rs.length xc (fun i=>rs.getD i 0) D.out.2.2 (eX (PQ.out.sub PY) O.kw) (fun i hi=>(PR.out i hi).sub PY (aH.refl g)) ta Sm.length tc (fun i=>Sm.getD i 0) B.row.len Su Sv);clear Rr B Sp Sq Sr Ss QR Rt O Su SU Sv Sw J PY e5 hU Sn;go_wp2_with fail
       refine(iI _).mono ?_;rintro _ _ ⟨rfl,rfl⟩;go_wp2_with fail
       refine(iI _).mono ?_;rintro _ _ ⟨rfl,rfl⟩;go_wp2_with fail
       refine PZ.out.mono ?_;rintro _ w5 ⟨q6,Qw,a6,c6,rfl,P0,P1⟩;have P2:=Lib.hid P0;have P3:=Lib.hid P1;clear P0 P1 PZ;go_wp2_with fail
       refine⟨⟨k+1,q6,m,v,fs,Qw,_,by omega,by go_num,rfl,P2.out,P3.out⟩,?_⟩;first|omega|(simp[intOf];omega)
      ·
       obtain⟨_,P8,Qc,Qx,Qy⟩:=hP.bare;obtain⟨xt,xb,rt,rb,PU,Qz,hr⟩:=kD N Qx hP.fl Qy.1 Qy.2;have QN:rt=44∧∃u',(((under e).k=10∧u'=under e)∨((under e).k=16∧u'=dN))∧cY p g rb u':=by
        rcases hr with⟨P_,hn⟩|⟨P_,e2,hG⟩
        ·have Qa:(under e).k=10:=by
          unfold isIface at hi;simp only[Bool.or_eq_true,beq_iff_eq]at hi;exact hi.resolve_right P_
         obtain⟨b',e2,hG⟩:=hn.gT Qa;cases e2;exact⟨rfl,_,.inl ⟨Qa,rfl⟩,(Qh.out.done _ _ hG).2⟩
        ·exact⟨e2,_,.inr ⟨P_,rfl⟩,(Qh.out.done _ _ hG).2⟩
       obtain⟨rfl,u',QA,SV⟩:=QN;have Sx:bL dN= []:=lq (by rw[iK];decide);have QB:ai u'=ai e:=by
        rcases QA with⟨Qa,rfl⟩|⟨P_,rfl⟩
        ·exact Ee Qa
        ·rw[gB (by rw[iK];decide),gB (by omega)]
       have Sy:∀x∈bL u',x∈bL u:=by
        rcases QA with⟨Qa,rfl⟩|⟨P_,rfl⟩
        ·exact Sc
        ·intro x hx;rw[Sx]at hx;cases hx
       have Q6:bQ u'=bQ e:=by
        rcases QA with⟨Qa,rfl⟩|⟨P_,rfl⟩
        ·exact uF Qa
        ·rw[mJ (by rw[iK];decide),mJ (by omega),iK,P_];rfl
       obtain⟨tb,ma,mc,f',ta,tc,ts,cmp,t1,t2,t3,t4,t5,t6,t7,t8,t9,t10,⟨f2,t11,Q7⟩,t12,t13,t14,t15⟩:=SV;have Qk:Sub p q1:=f.out.gr.le;have G:KW p wr:=f.out.id.kw.sub Qk;have Tq:Hid (KW p wr):=G;have Ru:=Lib.hid (wE _ wr G hP N);have d1:=G _ _ _ t1;have d2:=G _ _ _ t12;have d3:=G _ _ _ t3;have Sz:=Lib.hid (qU rb tb q0 0 wr d1);have QC:aQ e=true:=Ew QQ hi;have SA:Hid (lH (bL u) e (ts,cmp)):=El QQ hi QA Sy t13;have PN:Hid ((ts,cmp)=dw e):=Lib.hid (by unfold dw;rw[if_neg (by omega),if_pos hi,←Q6,t13.eq]);rw[PU]at e1 N Ru;obtain⟨K,fn,Sf,PV,t,PW,Sg,Qo,y⟩:=eG Qz G;have Sh:=fun args w=>Go.MuLone.run_callFunc_enter PV t PW args w;have A:=Lib.hid (y _ G);have np:=bd dZ rb;have SX:Hid (∀i(h:i<(ai e).length),dn p g (ai e)[i] (f' i)):=Lib.hid (by rw[←QB];exact t7);clear t7;generalize Q8:(ai u').length=nm at*;have Rv:Hid (∀j,(((ai e).take j).foldl bG (dh u k)).length≤1048576):=fun j=>Nat.le_trans (Et PS (r:=ai e) (fun _=>by rw[l]) (by rw[l];exact QC)) n.out.cv;have Rw:Hid ((ai e).foldl bG (dh u k)=dh u (k+1)):=Lib.hid (by rw[pf PS,l];unfold bH;rw[if_pos QC]);have Q9:Hid ((ai e).length=nm):=Lib.hid (by rw[←QB,Q8]);have SY:=Lib.hid t6;have SZ:=Lib.hid t8;have SC:=Lib.hid t11;have SD:=Lib.hid Q7;have SE:=Lib.hid Sd;have E:=Lib.hid l;clear y P5 QP N l PV t PW hr Qz G hP hi Sc Sy Q6 QB Sx QA t1 t2 t3 t4 t6 t8 t9 t10 t11 Q7 t12 t13 t14 t15 P8 Qc Qx Qy QQ QC Sd Q8;go_wp2_with fail
       refine A.out.mono ?_;rintro _ _ ⟨rfl,rfl⟩;go_wp2_with fail
       refine Ru.out.mono ?_;rintro _ _ ⟨rfl,rfl⟩;go_wp2_with fail
       refine(iI _).mono ?_;rintro _ _ ⟨rfl,rfl⟩;go_wp2_with fail
       refine Sz.out.mono ?_;rintro _ _ ⟨rfl,rfl⟩;go_wp2_with fail
       obtain⟨wo,rfl⟩:∃wo:World,wo=wr:=⟨_,rfl⟩
       go_loopw [124] (fun vj wx=> ∃(j:Nat)(m:Option Nat)(v:Value)(fs:List Nat),j≤nm∧vj= .int .i64 j∧bW p g b u w xs (((ai e).take j).foldl bG (dh u k)) k q1 m v fs wx) (fun vj _=>nm- (intOf vj).toNat)
       case atStart=>exact⟨0,m,v,fs,Nat.zero_le _,rfl,f.out⟩
       case round=>
        clear f d1 d2 d3 Sz Ru A e1 j3;obtain⟨j,m,v,fs,hj,rfl,hB⟩:=hrel;have s:=Lib.hid hB;clear hB;by_cases SF:j<nm
        ·have S0:(j:Int)<nm:=by omega
         obtain⟨mb,mo,rfl,SG⟩:=SY.out j SF;have e2:=s.out.id.kw _ _ _ (Qk _ _ _ SG);have Rx:j<(ai e).length:=by have:=Q9.out;omega
         have Ry:=SX.out j Rx;have Qq:f' j<w.heap.size:=by obtain⟨sb,⟨_,h1⟩,_⟩:=Ry;exact Qh.out.kw.lt h1
         have hC:=Lib.hid (wG q1 g w.heap.size (w.heap.size+8) (w.heap.size+4) (w.heap.size+5) (w.heap.size+6) (w.heap.size+7) (f' j) m v _ fs (ai e)[j] 0 false wr (pd _) s.out.size Rj s.out.id s.out.cf (Ry.sub Qk (aH.refl g)) Qq (SE.out _ (List.getElem_mem Rx)) (by rw[s.out.cf.len];exact Rv.out j));have P6:Hid (bG (((ai e).take j).foldl bG (dh u k)) (ai e)[j]=((ai e).take (j+1)).foldl bG (dh u k)):=(oA bG _ Rx).symm;clear SG Ry;go_wp2_with fail
         refine hC.out.mono ?_;rintro e' w2 ⟨rfl,m',v',Q,P7,Qr,Qs,Qt⟩;have Qj:Hid (bW p g b u w xs (((ai e).take (j+1)).foldl bG (dh u k)) k q1 m' v' Q w2):=by
          rw[P6.out]at P7;exact s.out.add P4 P7 Qr Qq Qs Qt
         clear P7 Qr Qs Qt hC;go_wp2_with fail
         refine⟨⟨j+1,m',v',Q,by omega,by go_num,Qj.out⟩,?_⟩;first|omega|(simp[intOf];omega)
        ·have Rl:¬(j:Int)<nm:=by omega
         have J:bW p g b u w xs (dh u (k+1)) (k+1) q1 m v fs wr:=by
          have:=s.out;rw[List.take_of_length_le (by have:=Q9.out;omega),Rw.out]at this;exact this.skip
         have d4:=J.id.kw _ _ _ (Qk _ _ _ SZ.out);have PZ:=Lib.hid (rA (Y:=(ts,cmp)) n.out PS J D.out.1 D.out.2.1 (by rw[E.out];exact SA.out) (by rw[E.out];exact PN.out) xa rs.length xc (fun i=>rs.getD i 0) D.out.2.2 (eX PQ.out J.id.kw) PR.out ta ts.length tc f2 rfl (eX (SC.out.sub Qk) J.id.kw) (fun i hi=>(SD.out i hi).sub Qk (aH.refl g)));clear J s;go_wp2_with fail
         refine PZ.out.mono ?_;rintro _ w5 ⟨q6,Qw,a6,c6,rfl,P0,P1⟩;have P2:=Lib.hid P0;have P3:=Lib.hid P1;clear P0 P1 PZ;go_wp2_with fail
         refine⟨⟨k+1,q6,m,v,fs,Qw,_,by omega,by go_num,rfl,P2.out,P3.out⟩,?_⟩;first|omega|(simp[intOf];omega)
      ·
       have QD:=W.ni;unfold isIface at QD;simp only[Bool.or_eq_false_iff,beq_eq_false_iff_ne,ne_eq]at QD;obtain⟨QE,P8,Qc,_⟩:=W.vt.bare;have Qx:bare (bare e)=bare e:=cu P8 Qc;have QF:=W.vu.aE;obtain⟨xt,xb,rt,rb,PU,Qz,hr⟩:=kD N Qx W.fl QE.aE.1 QE.aE.2;obtain⟨S1,QS⟩:(under e).k≠16∧TS.Node p g (under e) (ae rt rb):=hr.resolve_right fun h=>QD.2 h.1;have QG:=jH QS Qv PT;have PX:=(QS.tag Qv PT).2;have Q_:rt≠44:=by
        rw[QG];intro e1;have:44=bq 10:=rfl;rw[this]at e1;exact QD.1 (eO e1.symm (by decide) ⟨Qv,PT,PX.1,PX.2⟩).symm
       have Ra:rt≠185:=by
        rw[QG];rcases mW PX.1 PX.2 Qv QF.1 QF.2 PT with h|h|h|h|h|h|h|h|h|h
        all_goals first|(rw[h];decide)|(rcases h with h|h|h<;>rw[h]<;>decide)
       have G:KW p wr:=f.out.id.kw.sub f.out.gr.le;have S2:=Lib.hid (wD rt rb wr G W.vu QS Qv PT);rw[PU]at e1 N;obtain⟨K,fn,Sf,PV,t,PW,Sg,Qo,y⟩:=eG Qz G;have Sh:=fun args w=>Go.MuLone.run_callFunc_enter PV t PW args w;have A:=Lib.hid (y _ G);have np:=an dZ rt rb Q_;have SS:=an iF rt rb Ra;have hd:∀o,q1 wr.heap.size o=none:=fun o=>f.out.id.kw.aJ (Nat.le_refl _) o;have Rs:=f.out.size;have Rz:Below wr.heap.size wr ((wr.alloc (.cells #[.bool false,.iface xt (.pointer (some ⟨xb,0,none⟩))] 220)).alloc (.cells #[.pointer (some ⟨wr.heap.size,0,none⟩)] 218)):=((Below.refl _ _).alloc (Nat.le_refl _) _).alloc (by simp) _;have PY:Sub q1 (q1.add wr.heap.size #[.bool false,.iface xt (.pointer (some ⟨xb,0,none⟩))]):=Pm.dj hd;have O:aw (q1.add wr.heap.size #[.bool false,.iface xt (.pointer (some ⟨xb,0,none⟩))]) g ((wr.alloc (.cells #[.bool false,.iface xt (.pointer (some ⟨xb,0,none⟩))] 220)).alloc (.cells #[.pointer (some ⟨wr.heap.size,0,none⟩)] 218)):=(f.out.id.below Rz).add (T:=220) hd (by rw[dU (by simp),cV rfl]);have J:bW p g b u w xs (dh u (k+1)) (k+1) (q1.add wr.heap.size #[.bool false,.iface xt (.pointer (some ⟨xb,0,none⟩))]) m v fs ((wr.alloc (.cells #[.bool false,.iface xt (.pointer (some ⟨xb,0,none⟩))] 220)).alloc (.cells #[.pointer (some ⟨wr.heap.size,0,none⟩)] 218)):=by
        have hM:dh u (k+1)=dh u k:=by rw[pf PS,l];unfold bH;rw[if_neg (by rw[pg (.inr (.inr W.ni))];decide)]
        rw[hM];exact((f.out.below Rz).iZ (Pm.dC hd Rs) O fun c hc o=>by
         have:=f.out.cf.lt c hc;rw[Pm.aO _ _ _ (by omega)];exact f.out.cf.dk c hc o).skip
       have PZ:=Lib.hid (rA (Y:=([some (false,e)],false)) n.out PS J D.out.1 D.out.2.1 (by rw[l];exact Em W.ni hm) (by rw[l];unfold dw;rw[if_neg (by omega),if_neg (by rw[W.ni];decide)]) xa rs.length xc (fun i=>rs.getD i 0) D.out.2.2 (eX (PQ.out.sub PY) O.kw) (fun i hi=>(PR.out i hi).sub PY (aH.refl g))
        (some ⟨wr.heap.size+1,0,none⟩) 1 1 (fun _=>wr.heap.size) rfl (fun i hi=>⟨wr.heap.size+1,0,rfl,by obtain rfl:i=0:=(by omega);simp[go_sem]⟩) (fun i hi=>by
         obtain rfl:i=0:=by simp at hi;omega
         refine⟨by rw[Pm.aX];rfl,.iface xt (.pointer (some ⟨xb,0,none⟩)),by rw[Pm.aX];rfl,N.sub (f.out.gr.le.trans PY) (aH.refl g)⟩))
       clear y P5 QP N l PV t PW hr QS Qz QG PX Q_ Ra G QD QE P8 Qc Qx QF S1 W hm hd Rz PY O J;go_wp2_with fail
       refine A.out.mono ?_;rintro _ _ ⟨rfl,rfl⟩;go_wp2_with fail
       refine S2.out.mono ?_;rintro _ _ ⟨rfl,rfl⟩;go_wp2_with fail
       refine PZ.out.mono ?_;rintro _ w5 ⟨q6,Qw,a6,c6,rfl,P0,P1⟩;have P2:=Lib.hid P0;have P3:=Lib.hid P1;clear P0 P1 PZ;go_wp2_with fail
       refine⟨⟨k+1,q6,m,v,fs,Qw,_,by omega,by go_num,rfl,P2.out,P3.out⟩,?_⟩;first|omega|(simp[intOf];omega)
     ·have Rl:¬(k:Int)<n2:=by omega
      have QT:(u.es.drop u.m.toNat).length≤k:=by rw[C.out,QY.out];omega
      have RA:Hid (iE u R.1 R.2):=by
       have h1:=D.out.1;have h2:=D.out.2.1;rw[List.take_of_length_le QT]at h1 h2;exact Acc.ok n.out.bU h1 (by rw[pc n.out.bU];exact h2.symm)
      have hM:Hid (dh u k=dW u):=Lib.hid (by unfold dh dW;rw[List.take_of_length_le QT]);have d:Hid (bW p g b u w xs (dW u) k q m v fs wr):=by rw[←hM.out];exact Rm.out
      obtain⟨av,ac,rfl⟩:=bn d.out.cf.row;have Rs:=d.out.size;have j6:=d.out.b6;have j9:=d.out.cf.ac;have S3:wr.cell? ⟨w.heap.size+2,1,none⟩=some (.slice none 0 0):=by simp[World.cell?,d.out.tb]
      have S4:wr.cell? ⟨w.heap.size+2,2,none⟩=some (.slice (some ⟨w.heap.size+1,0,none⟩) 1 1):=by simp[World.cell?,d.out.tb]
      have S5:wr.cell? ⟨w.heap.size+2,3,none⟩=some (.bool false):=by simp[World.cell?,d.out.tb]
      have S6:wr.frozen? ⟨w.heap.size+2,2,none⟩=false:=by simp[World.frozen?,d.out.tb]
      have S7:wr.frozen? ⟨w.heap.size+2,3,none⟩=false:=by simp[World.frozen?,d.out.tb]
      have S8:wr.frozen? ⟨w.heap.size+2,1,none⟩=false:=by simp[World.frozen?,d.out.tb]
      have Ti:b≠w.heap.size+2:=by omega
      have Qd:w.heap.size+2≠5:=by omega
      have Qe:Plain wr b:=d.out.id.pl _ _ _ (d.out.gr.le _ _ _ QX.out);have Qf:∀c,(Value.slice av fs.length ac).ownBlock=some c→w.heap.size+8≤c:=fun c e=>(d.out.cf.row.lt c e).1;have L:∀c,(Value.slice xa rs.length xc).ownBlock=some c→w.heap.size+8≤c:=fun c e=>(V.out.row.own.lt c e).1;have QH:aw q g (wr.setCell ⟨w.heap.size+2,3,none⟩ (.bool R.2)):=d.out.id.setCell _ (d.out.td 3) Qd;have QU:Kept (fun c=>c=b) w (wr.setCell ⟨w.heap.size+2,3,none⟩ (.bool R.2)):=Kept.setCell (X:=fun c=>c=b) d.out.kept (fun h=>absurd h (by simp)) _;have M:cD q g (w.heap.size+8) (wr.setCell ⟨w.heap.size+2,3,none⟩ (.bool R.2)) (.slice xa rs.length xc) rs R.1:=⟨fI V.out.row.own (fun e=>by have:=L _ e;simp only at this;omega) _,V.out.row.len,V.out.row.cM⟩
      have h3:=heap_set (o:=3) (v:= .bool R.2) d.out.tb;have Z:(ai u).length=(dW u).length:=by rw[jI n.out.bU];unfold b7;rw[List.length_mergeSort]
      rcases Nat.eq_zero_or_pos fs.length with h0|h0
      ·have SH:(ai u).length=0:=by rw[Z,←d.out.cf.len];exact h0
       have Qg:Hid (jK p g b u w (.returned (.pointer (some ⟨w.heap.size+2,0,none⟩))) ((wr.setCell ⟨w.heap.size+2,3,none⟩ (.bool R.2)).setCell ⟨w.heap.size+2,2,none⟩ (.slice xa rs.length xc))):=by
        refine wR (mv:= .slice none 0 0) (fs:= []) (rs:=rs) n.out P4 Qn.out (jB (jB Qe _ _) _ _) d.out.gr (QH.setCell _ (d.out.td 2) Qd) d.out.td (Kept.setCell (X:=fun c=>c=b) QU (fun h=>absurd h (by simp)) _) ?_ ?_ ?_ (by rw[SH];rfl) (fun i hi=>by omega) (fun c e=>(by cases e)) ?_ V.out.dk RA.out
        ·exact heap_set (o:=2) h3
        ·rw[World.cell?_setCell_other _ _ _ _ (fun e=>absurd (congrArg Addr.off e) (by simp)),World.cell?_setCell_other _ _ _ _ (fun e=>absurd (congrArg Addr.off e) (by simp))];exact j6
        ·exact World.ownsRow_nil _ _ _ _
        ·exact⟨fI M.own (fun e=>by have:=L _ e;simp only at this;omega) _,M.len,M.cM⟩
       rw[h0]at j9;clear d V Rm D f QH QU M h3 Qe Qf L Z SH RA hM QT PQ PR j3;go_wp2_with fail
       go_ret;exact Qg.out
      ·have hS:=Lib.hid (wL q g (w.heap.size+8) (dW u) fs (.slice av fs.length ac) (wr.setCell ⟨w.heap.size+2,3,none⟩ (.bool R.2)) QH.wb (fI d.out.cf.row (fun e=>by have:=Qf _ e;simp only at this;omega) _) d.out.cf.len d.out.cf.cM n.out.names (nQ n.out.two) (fun c e=>d.out.cf.dk c (.inr (.inr (.inr (.inr e))))) (by omega) (by rw[d.out.cf.len];exact n.out.cv))
       have Tr:¬(fs.length:Int)=0:=by omega
       have Rb:=Lib.hid QH;have Rc:=Lib.hid QU;have I:=Lib.hid M;have SI:=Lib.hid h3;have QI:=Lib.hid Qe;have H:=Lib.hid Qf;have PM:=Lib.hid L;have QV:=Lib.hid Z;clear Rm D f QH QU M h3 Qe Qf L Z hM QT PQ PR j3;go_wp2_with fail
       refine hS.out.mono ?_;rintro e w5 ⟨rfl,Q,QJ,QK,QL,Ql,_⟩;have SJ:(w5.ownsRow (w.heap.size+8) 107 1 (.slice av fs.length ac) Q.length (Q.map pv)):=QJ;have S9:=Ql.size;have S_:(wr.setCell ⟨w.heap.size+2,3,none⟩ (.bool R.2)).heap.size=wr.heap.size:=by simp
       have QM:∀c,c<w.heap.size+8→w5.heap[c]?=(wr.setCell ⟨w.heap.size+2,3,none⟩ (.bool R.2)).heap[c]?:=fun c hc=>Ql.block c (by omega) fun e=>by have:=H.out c e;omega
       have Qm:=(QM (w.heap.size+2) (by omega)).trans SI.out;have i1:w5.cell? ⟨w.heap.size+2,1,none⟩=some (.slice none 0 0):=by simp[World.cell?,Qm]
       have i2:w5.cell? ⟨w.heap.size+2,2,none⟩=some (.slice (some ⟨w.heap.size+1,0,none⟩) 1 1):=by simp[World.cell?,Qm]
       have Ts:w5.frozen? ⟨w.heap.size+2,1,none⟩=false:=by simp[World.frozen?,Qm]
       have Tt:w5.frozen? ⟨w.heap.size+2,2,none⟩=false:=by simp[World.frozen?,Qm]
       have i6:w5.cell? ⟨b,6,none⟩=some (ptr (w.heap.size+2)):=by
        rw[World.cell?_of_block (a:=⟨b,6,none⟩) (QM b (by omega)),World.cell?_setCell_other _ _ _ _ (fun e=>absurd (congrArg Addr.off e) (by simp))];exact j6
       have i9:w5.cell? ⟨w.heap.size+5,0,none⟩=some (.slice av fs.length ac):=by
        rw[World.cell?_of_block (a:=⟨w.heap.size+5,0,none⟩) (QM (w.heap.size+5) (by omega)),World.cell?_setCell_other _ _ _ _ (fun e=>absurd (congrArg Addr.off e) (by simp))];exact j9
       have O:aw q g w5:=Rb.out.own Ql (fun c e=>d.out.cf.dk c (.inr (.inr (.inr (.inr e))))) fun e=>by have:=H.out _ e;omega
       have Re:Kept (fun c=>c=b) w w5:=Rc.out.trans Ql fun c hc e=>by have:=H.out c e;omega
       have QW:cD q g (w.heap.size+8) w5 (.slice xa rs.length xc) rs R.1:=⟨eC I.out.own Ql fun c e e'=>by
        obtain⟨cur,h1⟩:=iL V.out.row.own e;obtain⟨Tj,h2⟩:=iL d.out.cf.row e';rw[h1]at h2;injection h2 with h2;injection h2 with _ h2;exact absurd h2 (by decide),I.out.len,I.out.cM⟩
       have Qg:Hid (jK p g b u w (.returned (.pointer (some ⟨w.heap.size+2,0,none⟩))) ((w5.setCell ⟨w.heap.size+2,1,none⟩ (.slice av fs.length ac)).setCell ⟨w.heap.size+2,2,none⟩ (.slice xa rs.length xc))):=by
        have e:=jI n.out.bU;have Ta:Plain w5 b:=by
         obtain⟨cs,T,hb⟩:=jB QI.out ⟨w.heap.size+2,3,none⟩ (.bool R.2);exact⟨cs,T,(QM b (by omega)).trans hb⟩
        refine wR (mv:= .slice av fs.length ac) (fs:=Q) (rs:=rs) n.out P4 Qn.out (jB (jB Ta _ _) _ _) d.out.gr ((O.setCell _ (d.out.td 1) Qd).setCell _ (d.out.td 2) Qd) d.out.td (Kept.setCell (X:=fun c=>c=b) (Kept.setCell (X:=fun c=>c=b) Re (fun h=>absurd h (by simp)) _) (fun h=>absurd h (by simp)) _) ?_ ?_ ?_ (by rw[QK,e]) (fun i hi Td=>by have:=QL i (by rw[←e];exact hi) Td;simpa [e]using this) (fun c e=>d.out.cf.dk c (.inr (.inr (.inr (.inr e))))) ?_ V.out.dk RA.out
        ·exact heap_set (o:=2) (heap_set (o:=1) Qm)
        ·rw[World.cell?_setCell_other _ _ _ _ (fun e=>absurd (congrArg Addr.off e) (by simp)),World.cell?_setCell_other _ _ _ _ (fun e=>absurd (congrArg Addr.off e) (by simp))];exact i6
        ·exact fI (fI SJ (fun e=>by have:=H.out _ e;simp only at this;omega) _) (fun e=>by have:=H.out _ e;simp only at this;omega) _
        ·exact⟨fI (fI QW.own (fun e=>by have:=PM.out _ e;simp only at this;omega) _) (fun e=>by have:=PM.out _ e;simp only at this;omega) _,QW.len,QW.cM⟩
       clear QJ QK QL Ql SJ S9 S_ QM Qm O Re QW V d Rb Rc I SI QI H PM QV S3 S4 S5 S8 S6 S7 j6 j9 hS;go_wp2_with fail
       go_region
       all_goals
        go_wp2_with fail
        go_ret;first|exact Qg.out|exact Qg.out.drew
end Go.Proofs.YtdkmnkjhhhmglaaGreatDoor
