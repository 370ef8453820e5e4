import Derived.Test.YtgbklbbknehefaaGreatDoorYbh
set_option maxRecDepth 100000
set_option maxHeartbeats 8000000
set_option linter.all false
namespace Go.Proofs.YtgbklbbknehefaaGreatDoor
open Go.RowKit TS
theorem tF(len:Nat)(p:Pm)(g:Ge)(b:Nat)(u:U)(q0:Option Addr)(pos:Int)(w:World)(hE:an p g w)(hI:eV p g b u)(hF:fj len u)(h6:w.cell? ⟨b,6,none⟩=some (.pointer none))(hz:w.frozen? ⟨b,6,none⟩=false)(R0:p b 6=none)(S2:5<b):
 Calls Tryz.prog 66 #[.pointer q0,.int .i64 pos,.pointer (some ⟨b,0,none⟩)] w (iF p g b u w):=by
 have TB:= @run_makeMap Tryz.prog;have TC:∀(fn:Fn)(first cap:Array Value)(w:World),(Instr.makeFunc fn first cap).run Tryz.prog w= .ok (.func fn first cap) w:=fun _ _ _ _=>rfl;obtain⟨ck,⟨R1,a1,c1,f1,Ry,TD,Tv,R2,R4⟩,⟨a2,c2,xs,P6,TE,_,Q8,R5,R6⟩,Rz,RA⟩:=hI;have Ql:b<w.heap.size:=World.block_lt_of_cell? _ _ h6;have R7:Plain w b:=hE.pl _ _ _ ck;have RC:5<w.heap.size:=by omega
 have Qz:=Lib.hid hE;have n:=Lib.hid hF;have R8:=Lib.hid R2;have R9:=Lib.hid Q8;have R_:=Lib.hid R4;have Sa:=Lib.hid R5;have Sb:=Lib.hid R6;have Tw:=Lib.hid R7;have QF:=Lib.hid R0;have Sc:=Lib.hid Ry;have Sd:=Lib.hid P6;have Rj:=Lib.hid Rz;have Tx:=Lib.hid RA;have k1:=hE.kw _ _ _ Ry;have k2:=hE.kw _ _ _ P6;have k3:=hE.kw _ _ _ Rz;have k5:=hE.kw _ _ _ RA;have QG:(u.es.drop u.m.toNat).length=u.es.length- u.m.toNat:=by simp
 have Rk:=Lib.hid QG;have Se:=Lib.hid R1;have S3:=Lib.hid hF.len;clear hE hF R2 Q8 R4 R5 R6 R0 Ry P6 Rz RA ck R7 QG R1;generalize Sf:u.m.toNat=P at*;generalize Sg:u.es.length- P=n2 at*;have C:=Lib.hid Sf;have Sh:=Lib.hid Sg;clear Sf Sg;go_enter Tryz.func66,Tryz.ntmps66;go_wp2_with fail
 refine(kK _).mono ?_;rintro e w1 ⟨rfl,Q9⟩;have QA:w1.heap.size=w.heap.size+2:=by rw[Q9];simp
 have f:Below w.heap.size w w1:=by rw[Q9];exact((Below.refl _ _).alloc (Nat.le_refl _) _).alloc (by simp) _
 have Ty:=Lib.hid Q9;clear Q9;replace k1:=ak f k1;replace k2:=ak f k2;replace k3:=ak f k3;replace k5:=ak f k5;replace h6:=ak f h6;replace hz:=TS.frozen_kept f Ql hz;have aa:b<w1.heap.size:=by omega
 have Si:=Lib.hid f;have P7:=Lib.hid QA;clear f QA;go_upto_region 11 with fail
 go_cut [7,8,9,10,11] (fun s7 s8 s9 S4 S5 wx=>s7= .map (some (w.heap.size+3))∧s8= .pointer (some ⟨w.heap.size+4,0,none⟩)∧s9= .pointer (some ⟨w.heap.size+5,0,none⟩)∧S4= .pointer (some ⟨w.heap.size+7,0,none⟩)∧
  S5= .func (.func 106) #[] #[.pointer (some ⟨w.heap.size+4,0,none⟩),.pointer (some ⟨w.heap.size+5,0,none⟩),.pointer (some ⟨w.heap.size+7,0,none⟩)]∧bE p g b u w xs [] 0 p none (.slice none 0 0) [] wx)
 case first=>
  go_wp2_with fail
  go_meet
  have h4:w1.heap.size+1+1=w.heap.size+4:=by have:=P7.out;omega
  have h5:w1.heap.size+1+1+1=w.heap.size+5:=by have:=P7.out;omega
  have h7:w1.heap.size+1+1+1+1+1=w.heap.size+7:=by have:=P7.out;omega
  have h3:w1.heap.size+1=w.heap.size+3:=by have:=P7.out;omega
  exact⟨by rw[h3],by rw[h4],by rw[h5],by rw[h7],by rw[h7,h5,h4],BR xs Qz.out h6 QF.out S2 Ql Si.out P7.out⟩
 case rest=>
  obtain⟨rfl,rfl,rfl,rfl,rfl,hB⟩:=hcut;have q1:wc.cell? ⟨b,1,none⟩=some (.slice a1 P c1):=hB.id.kw _ _ _ Sc.out;have S6:=Lib.hid hB;clear hB k1 k2 k3 k5 h6 hz;go_wp2_with fail
  go_loopw [57] (fun vi wr=> ∃(k:Nat)(m:Option Nat)(v:Value)(fs:List Nat),k≤P∧vi= .int .i64 k∧bE p g b u w xs ((u.es.take P).take k) 0 p m v fs wr) (fun vi _=>P- (intOf vi).toNat)
  case atStart=>exact⟨0,none,_,[],Nat.zero_le _,rfl,S6.out⟩
  case round=>
   obtain⟨k,m,v,fs,hk,rfl,hB⟩:=hrel;have s:=Lib.hid hB;clear hB q1;by_cases QH:k<P
   ·have Sj:(k:Int)<P:=by omega
    obtain⟨ab,ao,rfl,Qm⟩:=R8.out k QH;have e1:=s.out.id.kw _ _ _ Qm;have S7:k<u.es.length:=by have:=Se.out;omega
    obtain⟨Sk,RD⟩:=R_.out k QH S7;have e2:=s.out.id.kw _ _ _ RD;have Sl:k<(u.es.take P).length:=by rw[List.length_take];omega
    have l:(u.es.take P)[k]=u.es[k]:=List.getElem_take;have Rl:u.es[k]∈u.es.take u.m.toNat:=by rw[C.out,←l];exact List.getElem_mem Sl
    have Rm:cY (u.es.take P):=by have:=n.out.two;rwa [C.out]at this
    have QI:f1 k<w.heap.size:=Qz.out.kw.lt RD
    have hC:=Lib.hid (s_ p g w.heap.size (w.heap.size+8) (w.heap.size+4) (w.heap.size+5) (w.heap.size+6) (w.heap.size+7) (f1 k) m v _ fs u.es[k] 0 true wr (mK _) s.out.size RC s.out.id s.out.bO Sk QI (n.out.nm _ Rl)
     (by have:=s.out.bO.len;rw[this,List.length_take,List.length_take];have:=S3.out;omega))
    have Qn:Hid (bI ((u.es.take P).take k) u.es[k]=(u.es.take P).take (k+1)):=by rw[←l];exact BO Rm Sl
    clear Qm Sk RD Rl Rm l;go_wp2_with fail
    refine hC.out.mono ?_;rintro e w2 ⟨rfl,m',v',Q,Qo,QJ,QK,QL⟩;have QB:Hid (bE p g b u w xs ((u.es.take P).take (k+1)) 0 p m' v' Q w2):=by
     rw[Qn.out]at Qo;exact s.out.add Ql Qo QJ QI QK QL
    clear Qo QJ QK QL hC;go_wp2_with fail
    refine⟨⟨k+1,m',v',Q,by omega,by go_num,QB.out⟩,?_⟩;first|omega|(simp[intOf];omega)
   ·have RE:¬(k:Int)<P:=by omega
    have QB:Hid (bE p g b u w xs (cK u 0) 0 p m v fs wr):=by
     have:=s.out;rw[List.take_of_length_le (by rw[List.length_take];omega)]at this;unfold cK;rw[C.out];exact this
    clear s;go_wp2_with fail
    refine(kK _).mono ?_;rintro e w3 ⟨rfl,Sm⟩;obtain⟨q,QM,M⟩:=BT QB.out;rw[←Sm]at QM M;have k2:w3.cell? ⟨b,2,none⟩=some (.slice a2 n2 c2):=QM.id.kw _ _ _ (QM.gr.le _ _ _ Sd.out);have Rn:=Lib.hid QM;have I:=Lib.hid M;clear QM M Sm QB;go_wp2_with fail
    go_loopw [76,14,15] (fun vi va vc wr=> ∃(k:Nat)(q:Pm)(m:Option Nat)(v:Value)(fs rs:List Nat)(R:List Tm×Bool),k≤n2∧vi= .int .i64 k∧vc= .bool R.2∧bE p g b u w xs (cK u k) k q m v fs wr∧oV g u w k q va rs R wr) (fun vi _ _ _=>n2- (intOf vi).toNat)
    case atStart=>exact⟨0,q,m,v,fs,_,_,Nat.zero_le _,rfl,rfl,Rn.out,I.out⟩
    case round=>
     clear Rn I k2 RE;obtain⟨k,q,m,v,fs,rs,R,hk,rfl,rfl,hB,hT⟩:=hrel;obtain⟨q1,xa,xc,rfl,Sn,Sp,S8,Sq,Sr,Ss,_,_,_⟩:=oU hB.id hT.row hT.dk;have f:Hid (bE p g b u w xs (cK u k) k q1 m v fs wr):=hB.gP Sn Sp fun c hc o=>by
      rw[Ss c (fun e=>hB.bO.apart (mK _) hT.row e hc)];exact hB.bO.dk c hc o
     have D:Hid (Acc (bw u) ((u.es.drop u.m.toNat).take k) R∧R=((u.es.drop u.m.toNat).take k).foldl (fun a e=>eX a (fU e)) ([none],false)∧rs.length=R.1.length):=⟨hT.acc,hT.Rf,hT.row.len⟩
     have P8:=Lib.hid Sq;have P9:=Lib.hid Sr;have RF:=Lib.hid hB;have V:=Lib.hid hT;have j3:wr.cell? ⟨b,3,none⟩=some (.pointer none):=f.out.id.kw _ _ _ (f.out.gr.le _ _ _ Rj.out);clear hB hT Sn Sp S8 Sq Sr Ss;by_cases QH:k<n2
     ·have Sj:(k:Int)<n2:=by omega
      obtain⟨eb,eo,rfl,Qm⟩:=R9.out k QH;have e1:=f.out.id.kw _ _ _ (f.out.gr.le _ _ _ Qm);have RG:P+k<u.es.length:=by have:=Sh.out;omega
      have P_:k<(u.es.drop u.m.toNat).length:=by rw[C.out,Rk.out];exact QH
      have l:(u.es.drop u.m.toNat)[k]=u.es[P+k]:=by rw[List.getElem_drop];congr 1;rw[C.out]
      have P6:=n.out.el _ (List.getElem_mem P_);have N:=Sa.out k RG;rw[l]at P6;generalize Q_:u.es[P+k]=e at*;rcases P6 with⟨Qt,St,hl,Su⟩|⟨Ra,hi,hP,Sv,Sw⟩|⟨Ra,Z,hm,QN,Qa⟩
      ·
       obtain⟨ub,ua,uc,uf,Qb,RH,S9,Sx,Ro⟩:=N.BP Qt;rw[Qb]at e1;have jT:∀W,(Instr.typeAssert (.iface 189 (.pointer (some ⟨ub,0,none⟩))) 44 33 true).run Tryz.prog W= .ok (.tuple #[.pointer none,.bool false]) W:=fun W=>by rw[dB,if_neg (by decide)]
       have S_:∀W,(Instr.typeAssert (.iface 189 (.pointer (some ⟨ub,0,none⟩))) 44 189 true).run Tryz.prog W= .ok (.tuple #[.pointer (some ⟨ub,0,none⟩),.bool true]) W:=fun W=>by rw[gx,if_pos rfl]
       obtain⟨K,fn,Sy,Qc,t,Qd,Sz,QG,y⟩:=za ub wr;have SA:=fun args w=>Go.MuLone.run_callFunc_enter Qc t Qd args w;have A:=Lib.hid y;obtain⟨F,RI,RJ⟩:=f.out.um;have QA:Sub p q1:=f.out.gr.le;have SB:∀o,q1 (w.heap.size+3) o=none:=fun o=>by
        cases hh:q1 (w.heap.size+3) o with
        |none=>rfl
        |some z=>
         obtain⟨cs,T,hb⟩:=f.out.id.pl _ _ _ hh;obtain⟨es,cl,Qp,_⟩:=RI;rw[hb]at Qp;cases Qp
       have Qe:(u.es.getD (P+k) default).k=12∨(u.es.getD (P+k) default).k=13:=by rw[List.getD_eq_getElem?_getD,List.getElem?_eq_getElem RG,Option.getD_some,Q_];exact Qt
       have hU:=Lib.hid (Bi len q1 g w.heap.size ub (w.heap.size+3) (bk e).length uc q0 0 ua uf (bk e) F (bw u) wr f.out.id RI (RJ k ub (Nat.le_refl _) (by rw[C.out];exact RG) (by rw[C.out];exact Qe) Qb) (Qz.out.kw.lt RH) (by omega) RC (QA _ _ _ RH) rfl hl (Sx.sub QA) SB
        (fun i hi=>(Ro i hi).sub QA (aD.refl g)) St n.out.tok n.out.cI)
       have SC:=Lib.hid RJ;have SD:=Lib.hid Qb;have Qq:=Lib.hid Qt;have SE:=Lib.hid Su;have E:=Lib.hid l;clear y Qm Q_ N RH S9 Sx Ro St hl RI RJ SB Qe Qb Su Qt l Qc t Qd;go_wp2_with fail
       refine A.out.mono ?_;rintro _ _ ⟨rfl,rfl⟩;go_wp2_with fail
       refine hU.out.mono ?_;rintro _ w4 ⟨q4,tb,v4,SF,S,F4,rfl,RK,B,TF,SG,SH,SI,SJ,SK⟩;obtain⟨ta,tc,rfl⟩:=aZ B.row.own;have s0:=B.c0;have s1:=B.c1;have s3:=B.c3;have RM:=f.out.size;have Rb:bE p g b u w xs (cK u k) (k+1) q4 m v fs w4:=f.out.union Ql SD.out (by rw[C.out];exact Sb.out) SC.out RK B.id SI SJ SK;obtain⟨q5,ya,yc,e5,RN,O,SL,Ta,SM,SN,_⟩:=oU B.id B.row B.aG;obtain⟨rfl,rfl⟩:ta=ya∧tc=yc:=by cases e5;exact⟨rfl,rfl⟩
       have J:bE p g b u w xs (cK u (k+1)) (k+1) q5 m v fs w4:=by
        have hM:cK u (k+1)=cK u k:=by rw[mL P_,E.out];unfold bX;rw[if_neg (by rw[mM (Qq.out.elim .inl fun h=> .inr (.inl h))];decide)]
        rw[hM];exact Rb.gP (RN.mono (by omega)) O fun c hc o=>by
         rw[SN c (fun e=>Rb.bO.apart (mK _) ⟨ie B.row.own (by omega),B.row.len,B.row.cd⟩ e hc)];exact Rb.bO.dk c hc o
       have Qf:=RK.le.trans RN.le;have Qg:=Lib.hid (oX (Y:=(S,false)) n.out P_ J D.out.1 D.out.2.1 (by rw[E.out];exact BF Qq.out SE.out B.wi B.na) (by rw[E.out];unfold fU;rw[if_pos Qq.out,B.fd]) xa rs.length xc (fun i=>rs.getD i 0) D.out.2.2 (fL (P8.out.sub Qf) O.kw) (fun i hi=>(P9.out i hi).sub Qf (aD.refl g)) ta SF.length tc (fun i=>SF.getD i 0) B.row.len SL SM);clear RK B SH SI SJ SK Rb RN O SL Ta SM SN J Qf e5 hU SG;go_wp2_with fail
       refine(gA _).mono ?_;rintro _ _ ⟨rfl,rfl⟩;go_wp2_with fail
       refine(gA _).mono ?_;rintro _ _ ⟨rfl,rfl⟩;go_wp2_with fail
       refine Qg.out.mono ?_;rintro _ w5 ⟨q6,QO,a6,c6,rfl,Qh,Qi⟩;have Qj:=Lib.hid Qh;have Qk:=Lib.hid Qi;clear Qh Qi Qg;go_wp2_with fail
       refine⟨⟨k+1,q6,m,v,fs,QO,_,by omega,by go_num,rfl,Qj.out,Qk.out⟩,?_⟩;first|omega|(simp[intOf];omega)
      ·
       obtain⟨_,Qp,Qu,QP,QQ⟩:=hP.bare;obtain⟨xt,xb,rt,rb,Qb,QR,hr⟩:=iA N QP hP.fl QQ.1 QQ.2;have Q8:rt=33∧∃u',(((under e).k=10∧u'=under e)∨((under e).k=16∧u'=cV))∧cv p g rb u':=by
        rcases hr with⟨Qr,hn⟩|⟨Qr,e2,hG⟩
        ·have Qs:(under e).k=10:=by
          unfold isIface at hi;simp only[Bool.or_eq_true,beq_iff_eq]at hi;exact hi.resolve_right Qr
         obtain⟨b',e2,hG⟩:=hn.gN Qs;cases e2;exact⟨rfl,_,.inl ⟨Qs,rfl⟩,(Qz.out.done _ _ hG).2⟩
        ·exact⟨e2,_,.inr ⟨Qr,rfl⟩,(Qz.out.done _ _ hG).2⟩
       obtain⟨rfl,u',QS,Td⟩:=Q8;have SO:bw cV= []:=kA (by rw[gB];decide);have QT:aj u'=aj e:=by
        rcases QS with⟨Qs,rfl⟩|⟨Qr,rfl⟩
        ·exact tB Qs
        ·rw[eB (by rw[gB];decide),eB (by omega)]
       have SP:∀x∈bw u',x∈bw u:=by
        rcases QS with⟨Qs,rfl⟩|⟨Qr,rfl⟩
        ·exact Sv
        ·intro x hx;rw[SO]at hx;cases hx
       have Rp:dr u'=dr e:=by
        rcases QS with⟨Qs,rfl⟩|⟨Qr,rfl⟩
        ·exact rp Qs
        ·rw[lW (by rw[gB];decide),lW (by omega),gB,Qr];rfl
       obtain⟨tb,ma,mc,f',ta,tc,ts,cmp,t1,t2,t3,t4,t5,t6,t7,t8,t9,t10,⟨f2,t11,Rq⟩,t12,t13,t14,t15⟩:=Td;have QC:Sub p q1:=f.out.gr.le;have G:KW p wr:=f.out.id.kw.sub QC;have TG:Hid (KW p wr):=G;have RP:=Lib.hid (sY _ wr G hP N);have d1:=G _ _ _ t1;have d2:=G _ _ _ t12;have d3:=G _ _ _ t3;have SQ:=Lib.hid (oD rb tb q0 0 wr d1);have QU:aT e=true:=BQ Ra hi;have SR:Hid (jV (bw u) e (ts,cmp)):=BG Ra hi QS SP t13;have P6:Hid ((ts,cmp)=fU e):=Lib.hid (by unfold fU;rw[if_neg (by omega),if_pos hi,←Rp,t13.eq]);rw[Qb]at e1 N RP;obtain⟨K,fn,Sy,Qc,t,Qd,Sz,QG,y⟩:=dO QR G;have SA:=fun args w=>Go.MuLone.run_callFunc_enter Qc t Qd args w;have A:=Lib.hid (y _ G);have jT:∀W,(Instr.typeAssert (.iface 33 (.pointer (some ⟨rb,0,none⟩))) 44 33 true).run Tryz.prog W= .ok (.tuple #[.pointer (some ⟨rb,0,none⟩),.bool true]) W:=fun W=>by rw[dB,if_pos rfl]
       have Te:Hid (∀i(h:i<(aj e).length),cL p g (aj e)[i] (f' i)):=Lib.hid (by rw[←QT];exact t7);clear t7;generalize Rr:(aj u').length=nm at*;have RR:Hid (∀j,(((aj e).take j).foldl bI (cK u k)).length≤1048576):=fun j=>Nat.le_trans (BN P_ (r:=aj e) (fun _=>by rw[l]) (by rw[l];exact QU)) n.out.b4;have RS:Hid ((aj e).foldl bI (cK u k)=cK u (k+1)):=Lib.hid (by rw[mL P_,l];unfold bX;rw[if_pos QU]);have Rs:Hid ((aj e).length=nm):=Lib.hid (by rw[←QT,Rr]);have Tf:=Lib.hid t6;have Tg:=Lib.hid t8;have SS:=Lib.hid t11;have SU:=Lib.hid Rq;have SV:=Lib.hid Sw;have E:=Lib.hid l;clear y Qm Q_ N l Qc t Qd hr QR G hP hi Sv SP Rp QT SO QS t1 t2 t3 t4 t6 t8 t9 t10 t11 Rq t12 t13 t14 t15 Qp Qu QP QQ Ra QU Sw Rr;go_wp2_with fail
       refine A.out.mono ?_;rintro _ _ ⟨rfl,rfl⟩;go_wp2_with fail
       refine RP.out.mono ?_;rintro _ _ ⟨rfl,rfl⟩;go_wp2_with fail
       refine(gA _).mono ?_;rintro _ _ ⟨rfl,rfl⟩;go_wp2_with fail
       refine SQ.out.mono ?_;rintro _ _ ⟨rfl,rfl⟩;go_wp2_with fail
       obtain⟨wo,rfl⟩:∃wo:World,wo=wr:=⟨_,rfl⟩
       go_loopw [124] (fun vj wx=> ∃(j:Nat)(m:Option Nat)(v:Value)(fs:List Nat),j≤nm∧vj= .int .i64 j∧bE p g b u w xs (((aj e).take j).foldl bI (cK u k)) k q1 m v fs wx) (fun vj _=>nm- (intOf vj).toNat)
       case atStart=>exact⟨0,m,v,fs,Nat.zero_le _,rfl,f.out⟩
       case round=>
        clear f d1 d2 d3 SQ RP A e1 j3;obtain⟨j,m,v,fs,hj,rfl,hB⟩:=hrel;have s:=Lib.hid hB;clear hB;by_cases SX:j<nm
        ·have Th:(j:Int)<nm:=by omega
         obtain⟨mb,mo,rfl,SY⟩:=Tf.out j SX;have e2:=s.out.id.kw _ _ _ (QC _ _ _ SY);have RV:j<(aj e).length:=by have:=Rs.out;omega
         have RX:=Te.out j RV;have QI:f' j<w.heap.size:=by obtain⟨sb,⟨_,h1⟩,_⟩:=RX;exact Qz.out.kw.lt h1
         have hC:=Lib.hid (s_ q1 g w.heap.size (w.heap.size+8) (w.heap.size+4) (w.heap.size+5) (w.heap.size+6) (w.heap.size+7) (f' j) m v _ fs (aj e)[j] 0 false wr (mK _) s.out.size RC s.out.id s.out.bO (RX.sub QC (aD.refl g)) QI (SV.out _ (List.getElem_mem RV)) (by rw[s.out.bO.len];exact RR.out j));have Qn:Hid (bI (((aj e).take j).foldl bI (cK u k)) (aj e)[j]=((aj e).take (j+1)).foldl bI (cK u k)):=(lV bI _ RV).symm;clear SY RX;go_wp2_with fail
         refine hC.out.mono ?_;rintro e' w2 ⟨rfl,m',v',Q,Qo,QJ,QK,QL⟩;have QB:Hid (bE p g b u w xs (((aj e).take (j+1)).foldl bI (cK u k)) k q1 m' v' Q w2):=by
          rw[Qn.out]at Qo;exact s.out.add Ql Qo QJ QI QK QL
         clear Qo QJ QK QL hC;go_wp2_with fail
         refine⟨⟨j+1,m',v',Q,by omega,by go_num,QB.out⟩,?_⟩;first|omega|(simp[intOf];omega)
        ·have RE:¬(j:Int)<nm:=by omega
         have J:bE p g b u w xs (cK u (k+1)) (k+1) q1 m v fs wr:=by
          have:=s.out;rw[List.take_of_length_le (by have:=Rs.out;omega),RS.out]at this;exact this.skip
         have d4:=J.id.kw _ _ _ (QC _ _ _ Tg.out);have Qg:=Lib.hid (oX (Y:=(ts,cmp)) n.out P_ J D.out.1 D.out.2.1 (by rw[E.out];exact SR.out) (by rw[E.out];exact P6.out) xa rs.length xc (fun i=>rs.getD i 0) D.out.2.2 (fL P8.out J.id.kw) P9.out ta ts.length tc f2 rfl (fL (SS.out.sub QC) J.id.kw) (fun i hi=>(SU.out i hi).sub QC (aD.refl g)));clear J s;go_wp2_with fail
         refine Qg.out.mono ?_;rintro _ w5 ⟨q6,QO,a6,c6,rfl,Qh,Qi⟩;have Qj:=Lib.hid Qh;have Qk:=Lib.hid Qi;clear Qh Qi Qg;go_wp2_with fail
         refine⟨⟨k+1,q6,m,v,fs,QO,_,by omega,by go_num,rfl,Qj.out,Qk.out⟩,?_⟩;first|omega|(simp[intOf];omega)
      ·
       have QV:=Z.ni;unfold isIface at QV;simp only[Bool.or_eq_false_iff,beq_eq_false_iff_ne,ne_eq]at QV;obtain⟨QW,Qp,Qu,_⟩:=Z.vt.bare;have QP:bare (bare e)=bare e:=ca Qp Qu;have QX:=Z.vu.aA;obtain⟨xt,xb,rt,rb,Qb,QR,hr⟩:=iA N QP Z.fl QW.aA.1 QW.aA.2;obtain⟨Ti,Rc⟩:(under e).k≠16∧TS.Node p g (under e) (ae rt rb):=hr.resolve_right fun h=>QV.2 h.1;have QY:=iD Rc QN Qa;have Qe:=(Rc.tag QN Qa).2;have Rt:rt≠33:=by
        rw[QY];intro e1;have:33=ba 10:=rfl;rw[this]at e1;exact QV.1 (dT e1.symm (by decide) ⟨QN,Qa,Qe.1,Qe.2⟩).symm
       have Ru:rt≠189:=by
        rw[QY];rcases kQ Qe.1 Qe.2 QN QX.1 QX.2 Qa with h|h|h|h|h|h|h|h|h|h
        all_goals first|(rw[h];decide)|(rcases h with h|h|h<;>rw[h]<;>decide)
       have G:KW p wr:=f.out.id.kw.sub f.out.gr.le;have Tj:=Lib.hid (sX rt rb wr G Z.vu Rc QN Qa);rw[Qb]at e1 N;obtain⟨K,fn,Sy,Qc,t,Qd,Sz,QG,y⟩:=dO QR G;have SA:=fun args w=>Go.MuLone.run_callFunc_enter Qc t Qd args w;have A:=Lib.hid (y _ G);have jT:∀W,(Instr.typeAssert (.iface rt (.pointer (some ⟨rb,0,none⟩))) 44 33 true).run Tryz.prog W= .ok (.tuple #[.pointer none,.bool false]) W:=fun W=>by rw[dB,if_neg Rt]
       have S_:∀W,(Instr.typeAssert (.iface rt (.pointer (some ⟨rb,0,none⟩))) 44 189 true).run Tryz.prog W= .ok (.tuple #[.pointer none,.bool false]) W:=fun W=>by rw[gx,if_neg Ru]
       have hd:∀o,q1 wr.heap.size o=none:=fun o=>f.out.id.kw.aG (Nat.le_refl _) o;have RM:=f.out.size;have RY:Below wr.heap.size wr ((wr.alloc (.cells #[.bool false,.iface xt (.pointer (some ⟨xb,0,none⟩))] 193)).alloc (.cells #[.pointer (some ⟨wr.heap.size,0,none⟩)] 191)):=((Below.refl _ _).alloc (Nat.le_refl _) _).alloc (by simp) _;have Qf:Sub q1 (q1.add wr.heap.size #[.bool false,.iface xt (.pointer (some ⟨xb,0,none⟩))]):=Pm.cP hd;have O:an (q1.add wr.heap.size #[.bool false,.iface xt (.pointer (some ⟨xb,0,none⟩))]) g ((wr.alloc (.cells #[.bool false,.iface xt (.pointer (some ⟨xb,0,none⟩))] 193)).alloc (.cells #[.pointer (some ⟨wr.heap.size,0,none⟩)] 191)):=(f.out.id.below RY).add (T:=193) hd (by rw[dw (by simp),cf rfl]);have J:bE p g b u w xs (cK u (k+1)) (k+1) (q1.add wr.heap.size #[.bool false,.iface xt (.pointer (some ⟨xb,0,none⟩))]) m v fs ((wr.alloc (.cells #[.bool false,.iface xt (.pointer (some ⟨xb,0,none⟩))] 193)).alloc (.cells #[.pointer (some ⟨wr.heap.size,0,none⟩)] 191)):=by
        have hM:cK u (k+1)=cK u k:=by rw[mL P_,l];unfold bX;rw[if_neg (by rw[mM (.inr (.inr Z.ni))];decide)]
        rw[hM];exact((f.out.below RY).gP (Pm.cW hd RM) O fun c hc o=>by
         have:=f.out.bO.lt c hc;rw[Pm.aJ _ _ _ (by omega)];exact f.out.bO.dk c hc o).skip
       have Qg:=Lib.hid (oX (Y:=([some (false,e)],false)) n.out P_ J D.out.1 D.out.2.1 (by rw[l];exact BH Z.ni hm) (by rw[l];unfold fU;rw[if_neg (by omega),if_neg (by rw[Z.ni];decide)]) xa rs.length xc (fun i=>rs.getD i 0) D.out.2.2 (fL (P8.out.sub Qf) O.kw) (fun i hi=>(P9.out i hi).sub Qf (aD.refl g))
        (some ⟨wr.heap.size+1,0,none⟩) 1 1 (fun _=>wr.heap.size) rfl (fun i hi=>⟨wr.heap.size+1,0,rfl,by obtain rfl:i=0:=(by omega);simp[go_sem]⟩) (fun i hi=>by
         obtain rfl:i=0:=by simp at hi;omega
         refine⟨by rw[Pm.aQ];rfl,.iface xt (.pointer (some ⟨xb,0,none⟩)),by rw[Pm.aQ];rfl,N.sub (f.out.gr.le.trans Qf) (aD.refl g)⟩))
       clear y Qm Q_ N l Qc t Qd hr Rc QR QY Qe Rt Ru G QV QW Qp Qu QP QX Ti Z hm hd RY Qf O J;go_wp2_with fail
       refine A.out.mono ?_;rintro _ _ ⟨rfl,rfl⟩;go_wp2_with fail
       refine Tj.out.mono ?_;rintro _ _ ⟨rfl,rfl⟩;go_wp2_with fail
       refine Qg.out.mono ?_;rintro _ w5 ⟨q6,QO,a6,c6,rfl,Qh,Qi⟩;have Qj:=Lib.hid Qh;have Qk:=Lib.hid Qi;clear Qh Qi Qg;go_wp2_with fail
       refine⟨⟨k+1,q6,m,v,fs,QO,_,by omega,by go_num,rfl,Qj.out,Qk.out⟩,?_⟩;first|omega|(simp[intOf];omega)
     ·have RE:¬(k:Int)<n2:=by omega
      have Re:(u.es.drop u.m.toNat).length≤k:=by rw[C.out,Rk.out];omega
      have RZ:Hid (kD u R.1 R.2):=by
       have h1:=D.out.1;have h2:=D.out.2.1;rw[List.take_of_length_le Re]at h1 h2;exact Acc.ok n.out.bC h1 (by rw[tw n.out.bC];exact h2.symm)
      have hM:Hid (cK u k=dW u):=Lib.hid (by unfold cK dW;rw[List.take_of_length_le Re]);have d:Hid (bE p g b u w xs (dW u) k q m v fs wr):=by rw[←hM.out];exact RF.out
      obtain⟨av,ac,rfl⟩:=aZ d.out.bO.row;have RM:=d.out.size;have j6:=d.out.b6;have j9:=d.out.bO.ac;have Tk:wr.cell? ⟨w.heap.size+2,1,none⟩=some (.slice none 0 0):=by simp[World.cell?,d.out.tb]
      have Tl:wr.cell? ⟨w.heap.size+2,2,none⟩=some (.slice (some ⟨w.heap.size+1,0,none⟩) 1 1):=by simp[World.cell?,d.out.tb]
      have Tn:wr.cell? ⟨w.heap.size+2,3,none⟩=some (.bool false):=by simp[World.cell?,d.out.tb]
      have To:wr.frozen? ⟨w.heap.size+2,2,none⟩=false:=by simp[World.frozen?,d.out.tb]
      have Tp:wr.frozen? ⟨w.heap.size+2,3,none⟩=false:=by simp[World.frozen?,d.out.tb]
      have Tq:wr.frozen? ⟨w.heap.size+2,1,none⟩=false:=by simp[World.frozen?,d.out.tb]
      have Tz:b≠w.heap.size+2:=by omega
      have Qv:w.heap.size+2≠5:=by omega
      have Qw:Plain wr b:=d.out.id.pl _ _ _ (d.out.gr.le _ _ _ Rj.out);have Qx:∀c,(Value.slice av fs.length ac).ownBlock=some c→w.heap.size+8≤c:=fun c e=>(d.out.bO.row.lt c e).1;have L:∀c,(Value.slice xa rs.length xc).ownBlock=some c→w.heap.size+8≤c:=fun c e=>(V.out.row.own.lt c e).1;have QZ:an q g (wr.setCell ⟨w.heap.size+2,3,none⟩ (.bool R.2)):=d.out.id.setCell _ (d.out.td 3) Qv;have Rg:Kept (fun c=>c=b) w (wr.setCell ⟨w.heap.size+2,3,none⟩ (.bool R.2)):=Kept.setCell (X:=fun c=>c=b) d.out.kept (fun h=>absurd h (by simp)) _;have M:bZ q g (w.heap.size+8) (wr.setCell ⟨w.heap.size+2,3,none⟩ (.bool R.2)) (.slice xa rs.length xc) rs R.1:=⟨eH V.out.row.own (fun e=>by have:=L _ e;simp only at this;omega) _,V.out.row.len,V.out.row.cd⟩
      have h3:=heap_set (o:=3) (v:= .bool R.2) d.out.tb;have P4:(aj u).length=(dW u).length:=by rw[jo n.out.bC];unfold bW;rw[List.length_mergeSort]
      rcases Nat.eq_zero_or_pos fs.length with h0|h0
      ·have SZ:(aj u).length=0:=by rw[P4,←d.out.bO.len];exact h0
       have Qy:Hid (iF p g b u w (.returned (.pointer (some ⟨w.heap.size+2,0,none⟩))) ((wr.setCell ⟨w.heap.size+2,3,none⟩ (.bool R.2)).setCell ⟨w.heap.size+2,2,none⟩ (.slice xa rs.length xc))):=by
        refine tE (mv:= .slice none 0 0) (fs:= []) (rs:=rs) n.out Ql QF.out (ix (ix Qw _ _) _ _) d.out.gr (QZ.setCell _ (d.out.td 2) Qv) d.out.td (Kept.setCell (X:=fun c=>c=b) Rg (fun h=>absurd h (by simp)) _) ?_ ?_ ?_ (by rw[SZ];rfl) (fun i hi=>by omega) (fun c e=>(by cases e)) ?_ V.out.dk RZ.out
        ·exact heap_set (o:=2) h3
        ·rw[World.cell?_setCell_other _ _ _ _ (fun e=>absurd (congrArg Addr.off e) (by simp)),World.cell?_setCell_other _ _ _ _ (fun e=>absurd (congrArg Addr.off e) (by simp))];exact j6
        ·exact World.ownsRow_nil _ _ _ _
        ·exact⟨eH M.own (fun e=>by have:=L _ e;simp only at this;omega) _,M.len,M.cd⟩
       rw[h0]at j9;clear d V RF D f QZ Rg M h3 Qw Qx L P4 SZ RZ hM Re P8 P9 j3;go_wp2_with fail
       go_ret;exact Qy.out
      ·have hS:=Lib.hid (tm q g (w.heap.size+8) (dW u) fs (.slice av fs.length ac) (wr.setCell ⟨w.heap.size+2,3,none⟩ (.bool R.2)) QZ.wb (eH d.out.bO.row (fun e=>by have:=Qx _ e;simp only at this;omega) _) d.out.bO.len d.out.bO.cd n.out.names (nh n.out.two) (fun c e=>d.out.bO.dk c (.inr (.inr (.inr (.inr e))))) (by omega) (by rw[d.out.bO.len];exact n.out.b4))
       have TH:¬(fs.length:Int)=0:=by omega
       have Rv:=Lib.hid QZ;have Rw:=Lib.hid Rg;have I:=Lib.hid M;have S0:=Lib.hid h3;have Q3:=Lib.hid Qw;have H:=Lib.hid Qx;have P5:=Lib.hid L;have Rh:=Lib.hid P4;clear RF D f QZ Rg M h3 Qw Qx L P4 hM Re P8 P9 j3;go_wp2_with fail
       refine hS.out.mono ?_;rintro e w5 ⟨rfl,Q,Q4,Q5,Q6,QD,_⟩;have S1:(w5.ownsRow (w.heap.size+8) 38 1 (.slice av fs.length ac) Q.length (Q.map pv)):=Q4;have Tr:=QD.size;have Ts:(wr.setCell ⟨w.heap.size+2,3,none⟩ (.bool R.2)).heap.size=wr.heap.size:=by simp
       have Q7:∀c,c<w.heap.size+8→w5.heap[c]?=(wr.setCell ⟨w.heap.size+2,3,none⟩ (.bool R.2)).heap[c]?:=fun c hc=>QD.block c (by omega) fun e=>by have:=H.out c e;omega
       have QE:=(Q7 (w.heap.size+2) (by omega)).trans S0.out;have i1:w5.cell? ⟨w.heap.size+2,1,none⟩=some (.slice none 0 0):=by simp[World.cell?,QE]
       have i2:w5.cell? ⟨w.heap.size+2,2,none⟩=some (.slice (some ⟨w.heap.size+1,0,none⟩) 1 1):=by simp[World.cell?,QE]
       have TI:w5.frozen? ⟨w.heap.size+2,1,none⟩=false:=by simp[World.frozen?,QE]
       have TJ:w5.frozen? ⟨w.heap.size+2,2,none⟩=false:=by simp[World.frozen?,QE]
       have i6:w5.cell? ⟨b,6,none⟩=some (ptr (w.heap.size+2)):=by
        rw[World.cell?_of_block (a:=⟨b,6,none⟩) (Q7 b (by omega)),World.cell?_setCell_other _ _ _ _ (fun e=>absurd (congrArg Addr.off e) (by simp))];exact j6
       have i9:w5.cell? ⟨w.heap.size+5,0,none⟩=some (.slice av fs.length ac):=by
        rw[World.cell?_of_block (a:=⟨w.heap.size+5,0,none⟩) (Q7 (w.heap.size+5) (by omega)),World.cell?_setCell_other _ _ _ _ (fun e=>absurd (congrArg Addr.off e) (by simp))];exact j9
       have O:an q g w5:=Rv.out.own QD (fun c e=>d.out.bO.dk c (.inr (.inr (.inr (.inr e))))) fun e=>by have:=H.out _ e;omega
       have Rx:Kept (fun c=>c=b) w w5:=Rw.out.trans QD fun c hc e=>by have:=H.out c e;omega
       have Ri:bZ q g (w.heap.size+8) w5 (.slice xa rs.length xc) rs R.1:=⟨dL I.out.own QD fun c e e'=>by
        obtain⟨cur,h1⟩:=gC V.out.row.own e;obtain⟨TA,h2⟩:=gC d.out.bO.row e';rw[h1]at h2;injection h2 with h2;injection h2 with _ h2;exact absurd h2 (by decide),I.out.len,I.out.cd⟩
       have Qy:Hid (iF p g b u w (.returned (.pointer (some ⟨w.heap.size+2,0,none⟩))) ((w5.setCell ⟨w.heap.size+2,1,none⟩ (.slice av fs.length ac)).setCell ⟨w.heap.size+2,2,none⟩ (.slice xa rs.length xc))):=by
        have e:=jo n.out.bC;have Tt:Plain w5 b:=by
         obtain⟨cs,T,hb⟩:=ix Q3.out ⟨w.heap.size+2,3,none⟩ (.bool R.2);exact⟨cs,T,(Q7 b (by omega)).trans hb⟩
        refine tE (mv:= .slice av fs.length ac) (fs:=Q) (rs:=rs) n.out Ql QF.out (ix (ix Tt _ _) _ _) d.out.gr ((O.setCell _ (d.out.td 1) Qv).setCell _ (d.out.td 2) Qv) d.out.td (Kept.setCell (X:=fun c=>c=b) (Kept.setCell (X:=fun c=>c=b) Rx (fun h=>absurd h (by simp)) _) (fun h=>absurd h (by simp)) _) ?_ ?_ ?_ (by rw[Q5,e]) (fun i hi Tu=>by have:=Q6 i (by rw[←e];exact hi) Tu;simpa [e]using this) (fun c e=>d.out.bO.dk c (.inr (.inr (.inr (.inr e))))) ?_ V.out.dk RZ.out
        ·exact heap_set (o:=2) (heap_set (o:=1) QE)
        ·rw[World.cell?_setCell_other _ _ _ _ (fun e=>absurd (congrArg Addr.off e) (by simp)),World.cell?_setCell_other _ _ _ _ (fun e=>absurd (congrArg Addr.off e) (by simp))];exact i6
        ·exact eH (eH S1 (fun e=>by have:=H.out _ e;simp only at this;omega) _) (fun e=>by have:=H.out _ e;simp only at this;omega) _
        ·exact⟨eH (eH Ri.own (fun e=>by have:=P5.out _ e;simp only at this;omega) _) (fun e=>by have:=P5.out _ e;simp only at this;omega) _,Ri.len,Ri.cd⟩
       clear Q4 Q5 Q6 QD S1 Tr Ts Q7 QE O Rx Ri V d Rv Rw I S0 Q3 H P5 Rh Tk Tl Tn Tq To Tp j6 j9 hS;go_wp2_with fail
       go_region
       all_goals
        go_wp2_with fail
        go_ret;first|exact Qy.out|exact Qy.out.drew
end Go.Proofs.YtgbklbbknehefaaGreatDoor
