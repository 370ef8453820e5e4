import Derived.Outline
import Derived.Test.YtkochlhejabdcaaGreatDoorYaq
set_option maxRecDepth 100000
set_option maxHeartbeats 8000000
set_option linter.all false
namespace Go.Proofs.YtkochlhejabdcaaGreatDoor
open Go.RowKit TS Tryz
theorem fD(L:List R3):(aL L).length=L.length:=by simp[aL]
structure Own(p q:Pm)(D:Dl)(NS:List (List UInt8))(w wr:World)(v:Value)(L:List R3):Prop where
 up:Below w w wr
 gr:aN p q w
 kw:KW q wr
 own:wr.ownsRow w 25 7 v L.length (aX L)
 all:dX q D L
 aF:∀g,v.ownBlock=some g→∀o,q g o=none
 two:dH (aL L)
 aI:∀m∈aL L,m.nm.toList∈NS
section
variable {p q q':Pm} {D:Dl} {NS:List (List UInt8)} {w wr w1:World} {v v':Value} {L:List R3}
theorem Own.alloc(h:Own p q D NS w wr v L)(o:Obj):Own p q D NS w (wr.alloc o) v L:=
 {h with up:=h.up.alloc h.up.size o,kw:=h.kw.alloc o,own:=h.own.alloc o}
theorem Own.call(h:Own p q D NS w wr v L)(b:Below wr wr w1)(a:aN q q' wr)(hk:KW q' w1):Own p q' D NS w w1 v L:=
 {h with
  up:=h.up.trans (b.mono h.up.size),gr:=h.gr.trans a h.up.size,kw:=hk,own:=bw h.own b,all:=h.all.sub a.le
  aF:=fun g c o=>a.aF (h.own.lt g c).2 (h.aF g c) o}
theorem Own.quiet(h:Own p q D NS w wr v L)(a:Below wr wr w1):Own p q D NS w w1 v L:=h.call a (.refl _ _) (h.kw.grown a)
theorem Own.cP(h:Own p q D NS w wr v L):L.length≤NS.length:=by have:=j7 h.two h.aI;rwa [fD]at this
theorem Own.iV(h:Own p q D NS w wr v L):∃e a c,v= .slice a L.length c∧KW e wr∧Sub q e∧aq e D (aL L) a∧(0<L.length→∃g,a= .some (Xa g 0)∧w.heap.size≤g∧g<wr.heap.size∧e=q.add g (aX L).toArray):=by
 rcases Nat.eq_zero_or_pos L.length with f|f
 ·have k:L= []:=List.length_eq_zero_iff.1 f
  rcases h.own.2 with⟨d,_⟩|⟨g,cap,cur,d,_⟩
  ·exact⟨q,none,0,by rw[d,f],h.kw,.refl _,by rw[k];exact aq.ix fun x i=>(by cases i),fun h=>by omega⟩
  ·exact⟨q,.some (Xa g 0),cap,d,h.kw,.refl _,by rw[k];exact aq.ix fun x i=>(by cases i;rfl),fun h=>by omega⟩
 ·obtain⟨g,cap,d,m,n,r,s,b,_⟩:=gZ h.own f
  have l:=h.aF g (by rw[d];rfl);refine⟨q.add g (aX L).toArray,.some (Xa g 0),cap,d,h.kw.add fun o u hu=>b o u (by simpa using hu),Pm.cK l,lX (h.all.sub (Pm.cK l)) fun j u hu=> ?_,fun _=>⟨g,rfl,m,n,rfl⟩⟩;rw[Nat.zero_add,Pm.aU];simpa using hu
theorem Own.add(h:Own p q D NS w wr v L){x:R3}(c:w1.ownsRow w 25 7 v' (L.length+1) (aX L++bT x))(i:wr.grownBy w1 v.ownBlock)(l:v'.ownBlock=v.ownBlock∨v'.ownBlock=some wr.heap.size)
 (n:ai q D x.1 x.2.1 x.2.2)(r:(aL L).any (fun f=>cH f x.1)=false)(hm:x.1.nm.toList∈NS):Own p q D NS w w1 v' (L++ [x]) where
 up:=h.up.grown i h.up.size fun k hk=>(h.own.lt k hk).1
 gr:=h.gr
 kw:=fun b o u hu=>by
  rw[World.cell?_of_block (w:=wr) (i.block b (h.kw.lt hu) fun e=>by have:=h.aF b e.symm o;rw[this]at hu;cases hu)];exact h.kw b o u hu
 own:=by rw[List.length_append,p8];simpa [aX]using c
 all:=h.all.append fun y j=>by simp at j;subst j;exact n
 aF:=fun g a o=>by
  rcases l with e|e
  ·exact h.aF g (e▸a) o
  ·rw[e]at a;cases a;exact h.kw.aF zl o
 two:=by
  have:=sN h.two x.1;rw[bI,r]at this;simpa [aL]using this
 aI:=fun m d=>by
  simp only[aL,List.map_append,List.map_cons,List.map_nil,List.mem_append,List.mem_singleton]at d;rcases d with s|rfl
  ·exact h.aI m s
  ·exact hm
end
theorem kY(w:World)(cs:List Value)(T:TypeId):∀j u,cs[j]?=some u→(w.alloc (.cells cs.toArray T)).cell? (((Xa w 0):Addr).add j)=some u:=by
 intro j u a;rw[show((Xa w 0):Addr).add j=(Xa w j) by unfold Addr.add;split<;>simp_all,World.cell?_alloc_new];simpa using a
theorem lY{len:Nat}{u:U}{pos f:Nat}(c:TS.Form len u pos f)(hk:u.k=10):ef (u.es.take u.m.toNat):=by
 cases c with
 |iface _ _ _ _ _ b=>rw[List.pairwise_map]at b;exact b
 |pre a _=>omega
 |one a _ _=>omega
 |ptr a _ _ _=>omega
 |_=>omega
theorem kZ{len:Nat}{u:U}{pos f:Nat}(g:Pl len u pos f)(h:f≤2)(b:f≠0)(c:u.k≠12)(d:u.k≠13):ef (an u):=by
 obtain⟨i,_,_,e,_,_⟩:=g.under h b c d;by_cases a:(under u).k=10
 ·rw[gJ a]
  exact sP (pU (lY e.form a).noTwo)
 ·rw[fB a];exact List.Pairwise.nil
def tu:Prop:=∀(p q:Pm)(D:Dl)(NS:List (List UInt8))(w wr:World)(v:Value)(L:List R3),Own p q D NS w wr v L→L.length≤1048576→
 ∃a n c,v= .slice a n c∧n=(b7 (aL L)).length∧Xk 66 #[v,.func (.func 67) #[] #[]] wr fun e b=>
  e= .returned (.tuple #[])∧∃q',aN p q' w∧KW q' b∧aq q' D (b7 (aL L)) a∧Below w w b
def tw(D:Dl)(dc:Nat)(NS:List (List UInt8))(u:U):Prop:=
 ∀(p:Pm)(pos f:Nat)(a:Option Addr)(c:Nat)(w:World),Pl D.len u pos f→f≤2→f≠0→u.k≠12→u.k≠13→Names NS u→ai p D u a c→KW p w→
  Xk 27 #[Xd D dc,Xt u a c] w (RL p D (an u) w)
theorem zI(B:tu)(D:Dl)(dc:Nat)(NS:List (List UInt8))(QY:NS.length≤1048576):∀u,tw D dc NS u:=by
 intro u;induction u using U.bc with
 |_ u ih=>
  intro p pos f a c w hP hf P9 P_ Qa hN hu hw;obtain⟨f',QZ,QU,C,hk,PS⟩:=hP.under hf P9 P_ Qa;have PT:=hN.under;have hC:=fun W E=>f_ p D dc u pos f a c W hP hf P9 P_ Qa hu E;have ae:Up p w (w.alloc (Xt u a c)):=(Up.refl hw).alloc _;have PU:= @gJ u;have PW:= @fB u;generalize an u=r at*;generalize under u=v at*;cases bC:v.k==10
  ·have n10:(v.k !=10)=true:=by simp[bne,bC]
   have hF:=zh (PW (by simpa using bC));clear PU PW ih hP C hk PS hN PT;go_enter func27,ntmps27;go_wp2_with fail
   refine(hC _ ae.kw).mono ?_;rintro e1 w1 ⟨q,a1,c1,rfl,hg,Qb,F,aa⟩;have Qc:=(ae.step aa).up.alloc (ae.step aa).up.size (Xt v a1 c1);have QE:=hw.grown Qc;clear hC aa;go_wp2_with fail
   go_ret;exact⟨p,none,0,0,rfl,by rw[hF.out];rfl,.refl _ _,QE,by rw[hF.out];exact aq.ix fun x hx=>(by cases hx),Qc⟩
  ·have n10:(v.k !=10)=false:=by simp[bne,bC]
   have G:v.k=10:=by simpa using bC
   have hF:=zh (show r=b7 ((v.es.drop v.m.toNat).foldl bS (v.es.take v.m.toNat))from PU G);obtain⟨QF,Qd,h4⟩:=C.form.jm G;have hE:=zh fun e he=>C.elem G (e:=e) he;have hS:=zh fun e (he:e∈v.es.drop v.m.toNat)=>ih e (Nat.lt_of_lt_of_le (U.ar (List.mem_of_mem_drop he)) PS);have Qe:=zh PT;have PN:=lY C.form G;have PO:=zh PN.noTwo;have PX:=hu.cap;clear PU PW ih hP C hk PS G hN PT PN;have QG:max v.m 0=v.m:=zo;have Qf:v.m≤v.es.length:=zo;have Qg:¬v.m<0:=zo;go_enter func27,ntmps27;go_wp2_with fail
   refine(hC _ ae.kw).mono ?_;rintro e1 w1 ⟨q,a1,c1,rfl,hg,Qb,F,aa⟩;have PY:=ae.step aa;have H:=F.cap;have Z:=Qb.alloc (Xt v a1 c1);have PG:=PY.up.alloc PY.up.size (Xt v a1 c1);have QH:=H.1;have QI:=H.2;have QJ:v.m.toNat≤c1:=zo;have Qh:v.m≤c1:=zo;have Qi:=fun W E n hn=>zD q D (v.es.take v.m.toNat) a1 n c1 W hn zp (F.list.take _) E;clear hC aa H ae PY;go_wp2_with fail
   refine(Qi _ Z _ zp).mono ?_;rintro e1 w2 ⟨vo,L0,rfl,PH,hA0,t,PI⟩
   have hO:Own p q D NS w w2 vo L0:={
    up:=PG.trans (PI.mono PG.size),gr:=hg.mono zs,kw:=Z.grown PI,own:=jr t PG.size,all:=hA0
    aF:=fun g hv o=>Z.aF (t.lt g hv).1 o
    two:=by rw[PH.out];exact PO.out
    aI:=fun m hm=>by rw[PH.out]at hm;exact(Qe.out.es (List.mem_of_mem_take hm)).1}
   obtain⟨l0,l1,l2,l3,l4,l5,l6⟩:TS.L7 w2 w1.heap.size v a1 c1:=by
    repeat' apply And.intro
    all_goals exact cell_kept PI zq
   have s:Hid (aL L0=((v.es.drop v.m.toNat).take 0).foldl bS (v.es.take v.m.toNat)):=by rw[List.take_zero];exact PH.out
   clear Qi PI t hA0 Z PG PH PO;have PZ:v.m.toNat<c1∨c1=v.m.toNat:=zo;have PJ:=zh hO;clear hO;rcases PZ with PZ|rfl
   ·go_wp2_with fail
    clear l0 l1 l2 l3 l4 l5 l6;have hL:=F.list.cut _ Qd;have hlen:(v.es.drop v.m.toNat).length=v.es.length- v.m.toNat:=zs;have QV:v.es.length- v.m.toNat≤4:=zo;have QK:=zh fun e (he:e∈v.es.drop v.m.toNat)=>Qe.out.es (List.mem_of_mem_drop he);clear QG Qf Qg QF Qd h4 QH QI QJ Qh PZ PX F;generalize Option.map (fun x=>Addr.add x (v.m.toNat*7)) a1=a2 at*;generalize v.es.length- v.m.toNat=n2 at*;generalize c1- v.m.toNat=c2 at*;generalize v.es.drop v.m.toNat=ds at*;generalize v.es.take v.m.toNat=ts at*;subst hlen;go_loopw [6,29] (fun vo i wr=> ∃k L q',k≤ds.length∧i= .int .i64 k∧Own p q' D NS w wr vo L∧aL L=(ds.take k).foldl bS ts∧Sub q q') (fun _ i _=>ds.length- (intOf i).toNat)
    case atStart=>exact⟨0,L0,q,Nat.zero_le _,rfl,PJ.out,s.out,.refl _⟩
    case round=>
     clear PJ s;obtain⟨k,L,q',hk,rfl,hO,s,I⟩:=hrel;by_cases J:k<ds.length
     ·obtain⟨b,o,rfl⟩:=hL.bg zo
      obtain⟨a',c',h7,P0⟩:=(aq.sub I _ hL).get k J;have d:Hid ((ds.take (k+1)).foldl bS ts=bS (aL L) ds[k]):=by
       unfold Hid;rw[List.take_succ_eq_append_getElem J,List.foldl_append,s];rfl
      have PK:=hE.out ds[k] (zm J);have P1:=hS.out ds[k] (zm J);have P2:=(QK.out ds[k] (zm J)).2;obtain⟨e,he⟩:∃e,e=ds[k]:=⟨_,rfl⟩
      rw[←he]at h7 P0 PK P1 P2 d;clear he s;obtain⟨g0,g1,g2,g3,g4,g5,g6⟩:TS.C7 wr b (o+k*7) e a' c':=h7.world hO.kw;clear h7;have QW:(k:Int)<ds.length:=zo;have y:=zh (hO.alloc (Xt e a' c'));clear hO;cases Qj:e.k==12
      case true=>
       have hA:Hid (aL L=(ds.take (k+1)).foldl bS ts):=by unfold Hid;rw[d.out,bS,show aW e=false by simp[aW,bne,Qj]];rfl
       clear d;go_wp2_with fail
       go_roundw
       case rel=>exact⟨k+1,L,q',by omega,by go_num,y.out,hA.out,I⟩
       case measure=>simp[intOf];omega
      have h:e.k≠12:=by simpa using Qj
      cases Qk:e.k==13
      case true=>
       have hA:Hid (aL L=(ds.take (k+1)).foldl bS ts):=by unfold Hid;rw[d.out,bS,show aW e=false by simp[aW,bne,Qk]];rfl
       clear d h;go_wp2_with fail
       go_roundw
       case rel=>exact⟨k+1,L,q',by omega,by go_num,y.out,hA.out,I⟩
       case measure=>simp[intOf];omega
      have l:e.k≠13:=by simpa using Qk
      have hI:=fun W E=>fM q' D dc e 2 2 a' c' W PK zo zo h l P0 E;cases hi:isIface e
      ·have hA:Hid (aL L=(ds.take (k+1)).foldl bS ts):=by unfold Hid;rw[d.out,bS,show aW e=false by simp[aW,hi]];rfl
       have K:=fun W E=>aT (hI W E) hi;clear d h l hI hi;go_wp2_with fail
       refine(K _ y.out.kw).mono ?_;rintro e1 w3 ⟨rfl,A⟩;have N:=zh (y.out.quiet A);clear A K;go_wp2_with fail
       go_roundw
       case rel=>exact⟨k+1,L,q',by omega,by go_num,N.out,hA.out,I⟩
       case measure=>simp[intOf];omega
      ·have hA:Hid ((ds.take (k+1)).foldl bS ts=(an e).foldl bI (aL L)):=by unfold Hid;rw[d.out,bS,show aW e=true by simp[aW,hi,h,l]];rfl
       have K:=fun W E=>aT (hI W E) hi;have Ql:=fun W (E:KW q' W)=>P1 q' 2 2 a' c' W PK zo zo h l P2 P0 E;have Qm:=zh P2.cy;have QL:=zh (kZ PK zo zo h l);clear d h l hI hi P1;go_wp2_with fail
       refine(K _ y.out.kw).mono ?_;rintro e1 w3 ⟨rfl,A⟩;have N:=zh (y.out.quiet A);obtain⟨x0,x1,x2,x3,x4,x5,x6⟩:TS.L7 w3 wr.heap.size e a' c':=by
        repeat' apply And.intro
        all_goals exact cell_kept A zq
       clear A K;go_wp2_with fail
       refine(Ql _ N.out.kw).mono ?_;rintro e1 w4 ⟨q2,a3,n3,c3,rfl,Qn,P3,Qo,Qp,Qq⟩;have Qr:=zh (N.out.call Qq P3 Qo);clear Qq Ql x0 x1 x2 x3 x4 x5 x6;go_wp2_with fail
       clear Qo;obtain⟨wo,rfl⟩:∃wo:World,wo=wr:=⟨_,rfl⟩
       have Qs:=Qn.out;generalize an e=ms at*;subst Qs;clear Qn;have Q3:(ms.length:Int)≤1048576:=by have:=j7 QL.out.noTwo fun m hm=>(Qm.out m hm).1;omega
       have eg:=zh (show ∀args w,(callFunc 65 args).run Tryz.prog w= .ok (.enter 65 args) w from dG func65 zk rfl);have Q4:∀(fn:Fn)(first cap:Array Value)(w:World),(Instr.makeFunc fn first cap).run Tryz.prog w= .ok (.func fn first cap) w:=fun _ _ _ _=>rfl;have PQ:=zh Qp;clear Qp;have QM:=zh P3.le;clear P3 y N;obtain⟨i0,hi,QN,QO,QP⟩:=info_parts js;go_loopw [6,10,51] (fun vo _ i W=> ∃j M,j≤ms.length∧i= .int .i64 j∧Own p q2 D NS w W vo M∧aL M=(ms.take j).foldl bI (aL L)) (fun _ _ i _=>ms.length- (intOf i).toNat)
       case atStart=>exact⟨0,L,Nat.zero_le _,rfl,Qr.out,rfl⟩
       case round=>
        clear Qr;obtain⟨j,M,hj,rfl,O,hM⟩:=hrel;by_cases P:j<ms.length
        ·obtain⟨b3,o3,rfl⟩:=PQ.out.bg zo
         obtain⟨a5,c5,h7,Qt⟩:=PQ.out.get j P;have d:Hid ((ms.take (j+1)).foldl bI (aL L)=bI (aL M) ms[j]):=by
          unfold Hid;rw[List.take_succ_eq_append_getElem P,List.foldl_append,hM];rfl
         have Qu:=zh (Qm.out ms[j] (zm P)).1;obtain⟨m,hm⟩:∃m,m=ms[j]:=⟨_,rfl⟩
         rw[←hm]at h7 Qt d Qu;clear hm hM;have Qv:=zh Qt;obtain⟨g0,g1,g2,g3,g4,g5,g6⟩:TS.C7 wr b3 (o3+j*7) m a5 c5:=h7.world O.kw;clear h7;have QQ:(j:Int)<ms.length:=zo;have QX:=O.cP;have P4:=O.alloc (Xt m a5 c5);obtain⟨p',a6,c6,rfl,Qw,QR,Qx,_⟩:=P4.iV;have Q:=zh P4;have hX:=fZ M.length p' D (aL M) (fD M).symm a6 c6 65 #[Xp wr] (fun f=>cH f m) _ Qw Qx (by rw[fD];omega) eg.out (fun i hi W' a' c' QS Q5=>zE _ m.nm a' c' W' wr.heap.size (cell_kept QS (by simp[go_sem])));have P5:=zh hX;clear hX P4 O Qw QR Qx;go_wp2_with fail
         refine P5.out.mono ?_;rintro e1 w6 ⟨bb,rfl,PL,PM⟩;have Qy:=zh (Q.out.quiet PM);cases bb
         ·obtain⟨y0,y1,y2,y3,y4,y5,y6⟩:TS.L7 w6 wr.heap.size m a5 c5:=by
           repeat' apply And.intro
           all_goals exact cell_kept PM zq
          have PR:Hid ((aL M).any (fun f=>cH f m)=false):=PL.out.symm;have hA2:Hid ((ms.take (j+1)).foldl bI (aL L)=aL M++ [m]):=by unfold Hid;rw[d.out,bI,PR.out];rfl
          clear PL PM P5 Q d;have z:=zh (Qy.out.alloc (Xt m a5 c5));go_wp2_with (at_builtin;refine wpList_append_own_at _ rfl _ _ 23 rfl w.heap.size 25 i0 (Xt cC none 0) 7 88 underlying23 hi QN QO QP rfl zd _ _ _ rfl z.out.own (Xa w6 0) 1 1 (bT (m,a5,c5)) rfl rfl (kY w6 (bT (m,a5,c5)) 25) (fun v hv=>kW [(m,a5,c5)] v (by simpa [aX]using hv)) ?c3 ?c4 ?c5 ?_)
          case c3=>unfold maxLen;omega
          case c4=>omega
          case c5=>exact z.out.up.size
          intro v' w7 R Qz _ QA;have QT:=zh (z.out.add R Qz (by simpa using QA) Qv.out PR.out Qu.out);clear R Qz QA z y0 y1 y2 y3 y4 y5 y6;go_wp2_with fail
          go_roundw
          case rel=>exact⟨j+1,M++ [(m,a5,c5)],by omega,by go_num,QT.out,by rw[hA2.out];simp[aL]⟩
          case measure=>simp[intOf];omega
         ·have hA2:Hid ((ms.take (j+1)).foldl bI (aL L)=aL M):=by unfold Hid;rw[d.out,bI,←PL.out];rfl
          clear PL PM P5 Q d;go_wp2_with fail
          go_roundw
          case rel=>exact⟨j+1,M,by omega,by go_num,Qy.out,hA2.out.symm⟩
          case measure=>simp[intOf];omega
        ·have QB:j=ms.length:=zo
         have hB:Hid (aL M=(ds.take (k+1)).foldl bS ts):=by unfold Hid;rw[hA.out,hM,QB,List.take_length]
         clear hM QB;go_wp2_with fail
         go_roundw
         case rel=>exact⟨k+1,M,q2,by omega,by go_num,O,hB.out,I.trans QM.out⟩
         case measure=>simp[intOf];omega
     ·have QC:k=ds.length:=zo
      have hR:Hid (r=b7 (aL L)):=by unfold Hid;rw[hF.out,s,QC,List.take_length]
      clear s QC;obtain⟨a9,n9,c9,rfl,S,T⟩:=B _ _ _ _ _ _ _ _ hO (by have:=hO.cP;omega);have V:Hid (n9=r.length):=by unfold Hid;rw[hR.out];exact S
      clear S hO;go_wp2_with fail
      refine T.mono ?_;rintro e1 w9 ⟨rfl,q9,P6,P7,X,P8⟩;have Y:Hid (aq q9 D r a9):=by unfold Hid;rw[hR.out];exact X
      clear T X;go_wp2_with fail
      go_ret;exact⟨q9,a9,n9,c9,rfl,V.out,P6,P7,Y.out,P8⟩
   ·have QD:v.es.drop v.m.toNat= []:=List.drop_eq_nil_of_le zo
    have hR:Hid (r=b7 (aL L0)):=by unfold Hid;rw[hF.out,s.out,QD];rfl
    obtain⟨a9,n9,c9,rfl,S,T⟩:=B _ _ _ _ _ _ _ _ PJ.out (by have:=PJ.out.cP;omega);have V:Hid (n9=r.length):=by unfold Hid;rw[hR.out];exact S
    clear S QD s;go_wp2_with fail
    refine wp_loop_rounds 1 ?_;rw[rounds_succ];go_wp2_with fail
    refine T.mono ?_;rintro e1 w9 ⟨rfl,q9,P6,P7,X,P8⟩;have Y:Hid (aq q9 D r a9):=by unfold Hid;rw[hR.out];exact X
    clear T X;go_wp2_with fail
    go_ret;exact⟨q9,a9,n9,c9,rfl,V.out,P6,P7,Y.out,P8⟩
end Go.Proofs.YtkochlhejabdcaaGreatDoor
