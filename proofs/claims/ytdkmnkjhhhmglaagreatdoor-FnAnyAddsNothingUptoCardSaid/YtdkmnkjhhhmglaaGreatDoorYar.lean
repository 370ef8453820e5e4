import Derived.Outline
import Derived.Test.YtdkmnkjhhhmglaaGreatDoorYap
set_option maxRecDepth 100000
set_option maxHeartbeats 8000000
set_option linter.all false
namespace Go.Proofs.YtdkmnkjhhhmglaaGreatDoor
open Go.RowKit TS
theorem mq(L:List R3):(a7 L).length=L.length:=by simp[a7]
structure Own(p q:Pm)(D:Dl)(NS:List (List UInt8))(w wr:World)(v:Value)(L:List R3):Prop where
 up:Below w.heap.size w wr
 gr:aP p q w.heap.size
 kw:KW q wr
 own:wr.ownsRow w.heap.size 25 7 v L.length (cP L)
 all:fV q D L
 aJ:∀g,v.ownBlock=some g→∀o,q g o=none
 two:dG (a7 L)
 aG:∀m∈a7 L,m.nm.toList∈NS
section
variable {p q q':Pm} {D:Dl} {NS:List (List UInt8)} {w wr w1:World} {v v':Value} {L:List R3}
theorem Own.alloc(h:Own p q D NS w wr v L)(o:Obj):Own p q D NS w (wr.alloc o) v L:=
 {h with up:=h.up.alloc h.up.size o,kw:=h.kw.alloc o,own:=h.own.alloc o}
theorem Own.call(h:Own p q D NS w wr v L)(b:Below wr.heap.size wr w1)(a:aP q q' wr.heap.size)(hk:KW q' w1):Own p q' D NS w w1 v L:=
 {h with
  up:=h.up.trans (b.mono h.up.size),gr:=h.gr.trans a h.up.size,kw:=hk,own:=bO h.own b,all:=h.all.sub a.le
  aJ:=fun g c o=>a.aJ (h.own.lt g c).2 (h.aJ g c) o}
theorem Own.quiet(h:Own p q D NS w wr v L)(a:Below wr.heap.size wr w1):Own p q D NS w w1 v L:=h.call a (.refl _ _) (h.kw.grown a)
theorem Own.dm(h:Own p q D NS w wr v L):L.length≤NS.length:=by have:=iT h.two h.aG;rwa [mq]at this
theorem Own.oh(h:Own p q D NS w wr v L):∃e a c,v= .slice a L.length c∧KW e wr∧Sub q e∧aj e D (a7 L) a∧(0<L.length→∃g,a=some ⟨g,0,none⟩∧w.heap.size≤g∧g<wr.heap.size∧e=q.add g (cP L).toArray):=by
 rcases Nat.eq_zero_or_pos L.length with f|f
 ·have k:L= []:=List.length_eq_zero_iff.1 f
  rcases h.own.2 with⟨d,_⟩|⟨g,cap,cur,d,_⟩
  ·exact⟨q,none,0,by rw[d,f],h.kw,.refl _,by rw[k];exact aj.iR fun x i=>(by cases i),fun h=>by omega⟩
  ·exact⟨q,some ⟨g,0,none⟩,cap,d,h.kw,.refl _,by rw[k];exact aj.iR fun x i=>(by cases i;rfl),fun h=>by omega⟩
 ·obtain⟨g,cap,d,m,n,r,s,b,_⟩:=k_ h.own f
  have l:=h.aJ g (by rw[d];rfl);refine⟨q.add g (cP L).toArray,some ⟨g,0,none⟩,cap,d,h.kw.add fun o u hu=>b o u (by simpa using hu),Pm.dj l,p_ (h.all.sub (Pm.dj l)) fun j u hu=> ?_,fun _=>⟨g,rfl,m,n,rfl⟩⟩;rw[Nat.zero_add,Pm.aX];simpa using hu
theorem Own.add(h:Own p q D NS w wr v L){x:R3}(c:w1.ownsRow w.heap.size 25 7 v' (L.length+1) (cP L++b8 x))(i:wr.grownBy w1 v.ownBlock)(l:v'.ownBlock=v.ownBlock∨v'.ownBlock=some wr.heap.size)
 (n:ak q D x.1 x.2.1 x.2.2)(r:(a7 L).any (fun f=>cL f x.1)=false)(hm:x.1.nm.toList∈NS):Own p q D NS w w1 v' (L++ [x]) where
 up:=h.up.grown i h.up.size fun k hk=>(h.own.lt k hk).1
 gr:=h.gr
 kw:=fun b o u hu=>by
  rw[World.cell?_of_block (w:=wr) (i.block b (h.kw.lt hu) fun e=>by have:=h.aJ b e.symm o;rw[this]at hu;cases hu)];exact h.kw b o u hu
 own:=by rw[List.length_append,ze];simpa [cP]using c
 all:=h.all.append fun y j=>by simp at j;subst j;exact n
 aJ:=fun g a o=>by
  rcases l with e|e
  ·exact h.aJ g (e▸a) o
  ·rw[e]at a;cases a;exact h.kw.aJ (Nat.le_refl _) o
 two:=by
  have:=sY h.two x.1;rw[bG,r]at this;simpa [a7]using this
 aG:=fun m d=>by
  simp only[a7,List.map_append,List.map_cons,List.map_nil,List.mem_append,List.mem_singleton]at d;rcases d with s|rfl
  ·exact h.aG m s
  ·exact hm
end
theorem Ac(w:World)(cs:List Value)(T:TypeId):∀j u,cs[j]?=some u→(w.alloc (.cells cs.toArray T)).cell? ((⟨w.heap.size,0,none⟩:Addr).add j)=some u:=by
 intro j u a;rw[show(⟨w.heap.size,0,none⟩:Addr).add j=⟨w.heap.size,j,none⟩ by unfold Addr.add;split<;>simp_all,World.cell?_alloc_new];simpa using a
theorem mr{len:Nat}{u:U}{pos f:Nat}(c:TS.Form len u pos f)(hk:u.k=10):dF (u.es.take u.m.toNat):=by
 cases c with
 |iface _ _ _ _ _ b=>rw[List.pairwise_map]at b;exact b
 |pre a _=>omega
 |one a _ _=>omega
 |ptr a _ _ _=>omega
 |_=>omega
theorem lk{len:Nat}{u:U}{pos f:Nat}(g:Pl len u pos f)(h:f≤2)(b:f≠0)(c:u.k≠12)(d:u.k≠13):dF (ai u):=by
 obtain⟨i,_,_,e,_,_⟩:=g.under h b c d;by_cases a:(under u).k=10
 ·rw[iq a]
  exact pW (nQ (mr e.form a).noTwo)
 ·rw[gB a];exact List.Pairwise.nil
def tW:Prop:=∀(p q:Pm)(D:Dl)(NS:List (List UInt8))(w wr:World)(v:Value)(L:List R3),Own p q D NS w wr v L→L.length≤1048576→
 ∃a n c,v= .slice a n c∧n=(b7 (a7 L)).length∧Calls Tryz.prog 154 #[v,.func (.func 155) #[] #[]] wr fun e b=>
  e= .returned (.tuple #[])∧∃q',aP p q' w.heap.size∧KW q' b∧aj q' D (b7 (a7 L)) a∧Below w.heap.size w b
def tZ(D:Dl)(dc:Nat)(NS:List (List UInt8))(u:U):Prop:=
 ∀(p:Pm)(pos f:Nat)(a:Option Addr)(c:Nat)(w:World),Pl D.len u pos f→f≤2→f≠0→u.k≠12→u.k≠13→Names NS u→ak p D u a c→KW p w→
  Calls Tryz.prog 107 #[.slice D.a D.len dc,.agg #[.int .i64 u.k,.int .i64 u.n,.int .i64 u.m,.bool u.v,.string u.nm,.string u.tg,.slice a u.es.length c]] w (RL p D (ai u) w)
theorem Ad(B:tW)(D:Dl)(dc:Nat)(NS:List (List UInt8))(Q6:NS.length≤1048576):∀u,tZ D dc NS u:=by
 intro u;induction u using U.bg with
 |_ u ih=>
  intro p pos f a c w hP hf Qd Qe Qf hN hu hw;obtain⟨f',Q7,QZ,C,hk,PY⟩:=hP.under hf Qd Qe Qf;have PZ:=hN.under;have hC:=fun W E=>jv p D dc u pos f a c W hP hf Qd Qe Qf hu E;have ag:Up p w (w.alloc (.cells #[.int .i64 u.k,.int .i64 u.n,.int .i64 u.m,.bool u.v,.string u.nm,.string u.tg,.slice a u.es.length c] 25)):=(Up.refl hw).alloc _;have P0:= @iq u;have P1:= @gB u;generalize ai u=r at*;generalize under u=v at*;cases bU:v.k==10
  ·have n10:(v.k !=10)=true:=by simp[bne,bU]
   have hF:=Lib.hid (P1 (by simpa using bU));clear P0 P1 ih hP C hk PY hN PZ;go_enter Tryz.func107,Tryz.ntmps107;go_wp2_with fail
   refine(hC _ ag.kw).mono ?_;rintro e1 w1 ⟨q,a1,c1,rfl,hg,Qg,F,aa⟩;have Qh:=(ag.step aa).up.alloc (ag.step aa).up.size (.cells #[.int .i64 v.k,.int .i64 v.n,.int .i64 v.m,.bool v.v,.string v.nm,.string v.tg,.slice a1 v.es.length c1] 25);have QJ:=hw.grown Qh;clear hC aa;go_wp2_with fail
   go_ret;exact⟨p,none,0,0,rfl,by rw[hF.out];rfl,.refl _ _,QJ,by rw[hF.out];exact aj.iR fun x hx=>(by cases hx),Qh⟩
  ·have n10:(v.k !=10)=false:=by simp[bne,bU]
   have G:v.k=10:=by simpa using bU
   have hF:=Lib.hid (show r=b7 ((v.es.drop v.m.toNat).foldl bH (v.es.take v.m.toNat))from P0 G);obtain⟨QK,Qi,h4⟩:=C.form.lh G;have hE:=Lib.hid fun e he=>C.elem G (e:=e) he;have hS:=Lib.hid fun e (he:e∈v.es.drop v.m.toNat)=>ih e (Nat.lt_of_lt_of_le (U.az (List.mem_of_mem_drop he)) PY);have Qj:=Lib.hid PZ;have PU:=mr C.form G;have PV:=Lib.hid PU.noTwo;have P2:=hu.cap;clear P0 P1 ih hP C hk PY G hN PZ PU;have QL:max v.m 0=v.m:=by omega
   have Qk:v.m≤v.es.length:=by omega
   have Ql:¬v.m<0:=by omega
   go_enter Tryz.func107,Tryz.ntmps107;go_wp2_with fail
   refine(hC _ ag.kw).mono ?_;rintro e1 w1 ⟨q,a1,c1,rfl,hg,Qg,F,aa⟩;have P3:=ag.step aa;have H:=F.cap;have Z:=Qg.alloc (.cells #[.int .i64 v.k,.int .i64 v.n,.int .i64 v.m,.bool v.v,.string v.nm,.string v.tg,.slice a1 v.es.length c1] 25);have PM:=P3.up.alloc P3.up.size (.cells #[.int .i64 v.k,.int .i64 v.n,.int .i64 v.m,.bool v.v,.string v.nm,.string v.tg,.slice a1 v.es.length c1] 25);have QM:=H.1;have QN:=H.2;have QO:v.m.toNat≤c1:=by omega
   have Qm:v.m≤c1:=by omega
   have Qn:=fun W E n hn=>z_ q D (v.es.take v.m.toNat) a1 n c1 W hn (by simp;omega) (F.list.take _) E;clear hC aa H ag P3;go_wp2_with fail
   refine(Qn _ Z _ (by simp;omega)).mono ?_;rintro e1 w2 ⟨vo,L0,rfl,PN,hA0,t,PO⟩
   have hO:Own p q D NS w w2 vo L0:={
    up:=PM.trans (PO.mono PM.size),gr:=hg.mono (by simp),kw:=Z.grown PO,own:=kh t PM.size,all:=hA0
    aJ:=fun g hv o=>Z.aJ (t.lt g hv).1 o
    two:=by rw[PN.out];exact PV.out
    aG:=fun m hm=>by rw[PN.out]at hm;exact(Qj.out.es (List.mem_of_mem_take hm)).1}
   obtain⟨l0,l1,l2,l3,l4,l5,l6⟩:TS.L7 w2 w1.heap.size v a1 c1:=by
    repeat' apply And.intro
    all_goals exact cell_kept PO (by first|(simp[go_sem];done)|(go_keep;done))
   have s:Hid (a7 L0=((v.es.drop v.m.toNat).take 0).foldl bH (v.es.take v.m.toNat)):=by rw[List.take_zero];exact PN.out
   clear Qn PO t hA0 Z PM PN PV;have P4:v.m.toNat<c1∨c1=v.m.toNat:=by omega
   have PQ:=Lib.hid hO;clear hO;rcases P4 with P4|rfl
   ·go_wp2_with fail
    clear l0 l1 l2 l3 l4 l5 l6;have hL:=F.list.cut _ Qi;have hlen:(v.es.drop v.m.toNat).length=v.es.length- v.m.toNat:=by simp
    have Q3:v.es.length- v.m.toNat≤4:=by omega
    have QP:=Lib.hid fun e (he:e∈v.es.drop v.m.toNat)=>Qj.out.es (List.mem_of_mem_drop he);clear QL Qk Ql QK Qi h4 QM QN QO Qm P4 P2 F;generalize Option.map (fun x=>Addr.add x (v.m.toNat*7)) a1=a2 at*;generalize v.es.length- v.m.toNat=n2 at*;generalize c1- v.m.toNat=c2 at*;generalize v.es.drop v.m.toNat=ds at*;generalize v.es.take v.m.toNat=ts at*;subst hlen;go_loopw [6,29] (fun vo i wr=> ∃k L q',k≤ds.length∧i= .int .i64 k∧Own p q' D NS w wr vo L∧a7 L=(ds.take k).foldl bH ts∧Sub q q') (fun _ i _=>ds.length- (intOf i).toNat)
    case atStart=>exact⟨0,L0,q,Nat.zero_le _,rfl,PQ.out,s.out,.refl _⟩
    case round=>
     clear PQ s;obtain⟨k,L,q',hk,rfl,hO,s,I⟩:=hrel;by_cases J:k<ds.length
     ·obtain⟨b,o,rfl⟩:=hL.bN (by omega)
      obtain⟨a',c',h7,P5⟩:=(aj.sub I _ hL).get k J;have d:Hid ((ds.take (k+1)).foldl bH ts=bH (a7 L) ds[k]):=by
       unfold Hid;rw[List.take_succ_eq_append_getElem J,List.foldl_append,s];rfl
      have PR:=hE.out ds[k] (List.getElem_mem J);have P6:=hS.out ds[k] (List.getElem_mem J);have P7:=(QP.out ds[k] (List.getElem_mem J)).2;obtain⟨e,he⟩:∃e,e=ds[k]:=⟨_,rfl⟩
      rw[←he]at h7 P5 PR P6 P7 d;clear he s;obtain⟨g0,g1,g2,g3,g4,g5,g6⟩:TS.C7 wr b (o+k*7) e a' c':=h7.world hO.kw;clear h7;have Q4:(k:Int)<ds.length:=by omega
      have y:=Lib.hid (hO.alloc (.cells #[.int .i64 e.k,.int .i64 e.n,.int .i64 e.m,.bool e.v,.string e.nm,.string e.tg,.slice a' e.es.length c'] 25));clear hO;cases Qo:e.k==12
      case true=>
       have hA:Hid (a7 L=(ds.take (k+1)).foldl bH ts):=by unfold Hid;rw[d.out,bH,show aQ e=false by simp[aQ,bne,Qo]];rfl
       clear d;go_wp2_with fail
       go_roundw
       case rel=>exact⟨k+1,L,q',by omega,by go_num,y.out,hA.out,I⟩
       case measure=>simp[intOf];omega
      have h:e.k≠12:=by simpa using Qo
      cases Qp:e.k==13
      case true=>
       have hA:Hid (a7 L=(ds.take (k+1)).foldl bH ts):=by unfold Hid;rw[d.out,bH,show aQ e=false by simp[aQ,bne,Qp]];rfl
       clear d h;go_wp2_with fail
       go_roundw
       case rel=>exact⟨k+1,L,q',by omega,by go_num,y.out,hA.out,I⟩
       case measure=>simp[intOf];omega
      have l:e.k≠13:=by simpa using Qp
      have hI:=fun W E=>iA q' D dc e 2 2 a' c' W PR (by omega) (by omega) h l P5 E;cases hi:isIface e
      ·have hA:Hid (a7 L=(ds.take (k+1)).foldl bH ts):=by unfold Hid;rw[d.out,bH,show aQ e=false by simp[aQ,hi]];rfl
       have K:=fun W E=>aW (hI W E) hi;clear d h l hI hi;go_wp2_with fail
       refine(K _ y.out.kw).mono ?_;rintro e1 w3 ⟨rfl,A⟩;have N:=Lib.hid (y.out.quiet A);clear A K;go_wp2_with fail
       go_roundw
       case rel=>exact⟨k+1,L,q',by omega,by go_num,N.out,hA.out,I⟩
       case measure=>simp[intOf];omega
      ·have hA:Hid ((ds.take (k+1)).foldl bH ts=(ai e).foldl bG (a7 L)):=by unfold Hid;rw[d.out,bH,show aQ e=true by simp[aQ,hi,h,l]];rfl
       have K:=fun W E=>aW (hI W E) hi;have Qq:=fun W (E:KW q' W)=>P6 q' 2 2 a' c' W PR (by omega) (by omega) h l P7 P5 E;have Qr:=Lib.hid P7.cv;have QQ:=Lib.hid (lk PR (by omega) (by omega) h l);clear d h l hI hi P6;go_wp2_with fail
       refine(K _ y.out.kw).mono ?_;rintro e1 w3 ⟨rfl,A⟩;have N:=Lib.hid (y.out.quiet A);obtain⟨x0,x1,x2,x3,x4,x5,x6⟩:TS.L7 w3 wr.heap.size e a' c':=by
        repeat' apply And.intro
        all_goals exact cell_kept A (by first|(simp[go_sem];done)|(go_keep;done))
       clear A K;go_wp2_with fail
       refine(Qq _ N.out.kw).mono ?_;rintro e1 w4 ⟨q2,a3,n3,c3,rfl,Qs,P8,Qt,Qu,Qv⟩;have Qw:=Lib.hid (N.out.call Qv P8 Qt);clear Qv Qq x0 x1 x2 x3 x4 x5 x6;go_wp2_with fail
       clear Qt;obtain⟨wo,rfl⟩:∃wo:World,wo=wr:=⟨_,rfl⟩
       have Qx:=Qs.out;generalize ai e=ms at*;subst Qx;clear Qs;have Q8:(ms.length:Int)≤1048576:=by have:=iT QQ.out.noTwo fun m hm=>(Qr.out m hm).1;omega
       have eg:=Lib.hid (show ∀args w,(callFunc 153 args).run Tryz.prog w= .ok (.enter 153 args) w from ep Tryz.func153 (by kernel_rfl) rfl);have Q9:∀(fn:Fn)(first cap:Array Value)(w:World),(Instr.makeFunc fn first cap).run Tryz.prog w= .ok (.func fn first cap) w:=fun _ _ _ _=>rfl;have PW:=Lib.hid Qu;clear Qu;have QR:=Lib.hid P8.le;clear P8 y N;obtain⟨i0,hi,QS,QT,QU⟩:=info_parts tU;go_loopw [6,10,51] (fun vo _ i W=> ∃j M,j≤ms.length∧i= .int .i64 j∧Own p q2 D NS w W vo M∧a7 M=(ms.take j).foldl bG (a7 L)) (fun _ _ i _=>ms.length- (intOf i).toNat)
       case atStart=>exact⟨0,L,Nat.zero_le _,rfl,Qw.out,rfl⟩
       case round=>
        clear Qw;obtain⟨j,M,hj,rfl,O,hM⟩:=hrel;by_cases P:j<ms.length
        ·obtain⟨b3,o3,rfl⟩:=PW.out.bN (by omega)
         obtain⟨a5,c5,h7,Qy⟩:=PW.out.get j P;have d:Hid ((ms.take (j+1)).foldl bG (a7 L)=bG (a7 M) ms[j]):=by
          unfold Hid;rw[List.take_succ_eq_append_getElem P,List.foldl_append,hM];rfl
         have Qz:=Lib.hid (Qr.out ms[j] (List.getElem_mem P)).1;obtain⟨m,hm⟩:∃m,m=ms[j]:=⟨_,rfl⟩
         rw[←hm]at h7 Qy d Qz;clear hm hM;have QA:=Lib.hid Qy;obtain⟨g0,g1,g2,g3,g4,g5,g6⟩:TS.C7 wr b3 (o3+j*7) m a5 c5:=h7.world O.kw;clear h7;have QV:(j:Int)<ms.length:=by omega
         have Q5:=O.dm;have P9:=O.alloc (.cells #[.int .i64 m.k,.int .i64 m.n,.int .i64 m.m,.bool m.v,.string m.nm,.string m.tg,.slice a5 m.es.length c5] 25);obtain⟨p',a6,c6,rfl,QB,QW,QC,_⟩:=P9.oh;have Q:=Lib.hid P9;have hX:=iU M.length p' D (a7 M) (mq M).symm a6 c6 153 #[.pointer (some ⟨wr.heap.size,0,none⟩)] (fun f=>cL f m) _ QB QC (by rw[mq];omega) eg.out (fun i hi W' a' c' QX Q_=>Aa _ m.nm a' c' W' wr.heap.size (cell_kept QX (by simp[go_sem])));have P_:=Lib.hid hX;clear hX P9 O QB QW QC;go_wp2_with fail
         refine P_.out.mono ?_;rintro e1 w6 ⟨bb,rfl,PS,PT⟩;have QD:=Lib.hid (Q.out.quiet PT);cases bb
         ·obtain⟨y0,y1,y2,y3,y4,y5,y6⟩:TS.L7 w6 wr.heap.size m a5 c5:=by
           repeat' apply And.intro
           all_goals exact cell_kept PT (by first|(simp[go_sem];done)|(go_keep;done))
          have PX:Hid ((a7 M).any (fun f=>cL f m)=false):=PS.out.symm;have hA2:Hid ((ms.take (j+1)).foldl bG (a7 L)=a7 M++ [m]):=by unfold Hid;rw[d.out,bG,PX.out];rfl
          clear PS PT P_ Q d;have z:=Lib.hid (QD.out.alloc (.cells #[.int .i64 m.k,.int .i64 m.n,.int .i64 m.m,.bool m.v,.string m.nm,.string m.tg,.slice a5 m.es.length c5] 25));go_wp2_with (at_builtin;refine wpList_append_own_at _ rfl _ _ 23 rfl w.heap.size 25 i0 (.agg #[.int .i64 cg.k,.int .i64 cg.n,.int .i64 cg.m,.bool cg.v,.string cg.nm,.string cg.tg,.slice none cg.es.length 0]) 7 88 Tryz.underlying23 hi QS QT QU rfl (by decide) _ _ _ rfl z.out.own ⟨w6.heap.size,0,none⟩ 1 1 (b8 (m,a5,c5)) rfl rfl (Ac w6 (b8 (m,a5,c5)) 25) (fun v hv=>tw [(m,a5,c5)] v (by simpa [cP]using hv)) ?c3 ?c4 ?c5 ?_)
          case c3=>unfold maxLen;omega
          case c4=>omega
          case c5=>exact z.out.up.size
          intro v' w7 R QE _ QF;have QY:=Lib.hid (z.out.add R QE (by simpa using QF) QA.out PX.out Qz.out);clear R QE QF z y0 y1 y2 y3 y4 y5 y6;go_wp2_with fail
          go_roundw
          case rel=>exact⟨j+1,M++ [(m,a5,c5)],by omega,by go_num,QY.out,by rw[hA2.out];simp[a7]⟩
          case measure=>simp[intOf];omega
         ·have hA2:Hid ((ms.take (j+1)).foldl bG (a7 L)=a7 M):=by unfold Hid;rw[d.out,bG,←PS.out];rfl
          clear PS PT P_ Q d;go_wp2_with fail
          go_roundw
          case rel=>exact⟨j+1,M,by omega,by go_num,QD.out,hA2.out.symm⟩
          case measure=>simp[intOf];omega
        ·have QG:j=ms.length:=by omega
         have hB:Hid (a7 M=(ds.take (k+1)).foldl bH ts):=by unfold Hid;rw[hA.out,hM,QG,List.take_length]
         clear hM QG;go_wp2_with fail
         go_roundw
         case rel=>exact⟨k+1,M,q2,by omega,by go_num,O,hB.out,I.trans QR.out⟩
         case measure=>simp[intOf];omega
     ·have QH:k=ds.length:=by omega
      have hR:Hid (r=b7 (a7 L)):=by unfold Hid;rw[hF.out,s,QH,List.take_length]
      clear s QH;obtain⟨a9,n9,c9,rfl,S,T⟩:=B _ _ _ _ _ _ _ _ hO (by have:=hO.dm;omega);have V:Hid (n9=r.length):=by unfold Hid;rw[hR.out];exact S
      clear S hO;go_wp2_with fail
      refine T.mono ?_;rintro e1 w9 ⟨rfl,q9,Qa,Qb,X,Qc⟩;have Y:Hid (aj q9 D r a9):=by unfold Hid;rw[hR.out];exact X
      clear T X;go_wp2_with fail
      go_ret;exact⟨q9,a9,n9,c9,rfl,V.out,Qa,Qb,Y.out,Qc⟩
   ·have QI:v.es.drop v.m.toNat= []:=List.drop_eq_nil_of_le (by omega)
    have hR:Hid (r=b7 (a7 L0)):=by unfold Hid;rw[hF.out,s.out,QI];rfl
    obtain⟨a9,n9,c9,rfl,S,T⟩:=B _ _ _ _ _ _ _ _ PQ.out (by have:=PQ.out.dm;omega);have V:Hid (n9=r.length):=by unfold Hid;rw[hR.out];exact S
    clear S QI s;go_wp2_with fail
    refine wp_loop_rounds 1 ?_;rw[rounds_succ];go_wp2_with fail
    refine T.mono ?_;rintro e1 w9 ⟨rfl,q9,Qa,Qb,X,Qc⟩;have Y:Hid (aj q9 D r a9):=by unfold Hid;rw[hR.out];exact X
    clear T X;go_wp2_with fail
    go_ret;exact⟨q9,a9,n9,c9,rfl,V.out,Qa,Qb,Y.out,Qc⟩
end Go.Proofs.YtdkmnkjhhhmglaaGreatDoor
