import Derived.Outline
import Derived.Test.YtkfaiocajcjomaaGreatDoorYao
set_option maxRecDepth 100000
set_option maxHeartbeats 8000000
set_option linter.all false
namespace Go.Proofs.YtkfaiocajcjomaaGreatDoor
open Go.RowKit TS
theorem kE(L:List R3):(aX L).length=L.length:=by simp[aX]
structure Own(p q:Pm)(D:Dl)(NS:List (List UInt8))(w wr:World)(v:Value)(L:List R3):Prop where
 up:Below w.heap.size w wr
 gr:aL p q w.heap.size
 kw:KW q wr
 own:wr.ownsRow w.heap.size 25 7 v L.length (cq L)
 all:eZ q D L
 aI:∀g,v.ownBlock=some g→∀o,q g o=none
 two:cZ (aX L)
 aC:∀m∈aX L,m.nm.toList∈NS
section
variable {p q q':Pm} {D:Dl} {NS:List (List UInt8)} {w wr w1:World} {v v':Value} {L:List R3}
theorem Own.alloc(h:Own p q D NS w wr v L)(o:Obj):Own p q D NS w (wr.alloc o) v L:=
 {h with up:=h.up.alloc h.up.size o,kw:=h.kw.alloc o,own:=h.own.alloc o}
theorem Own.call(h:Own p q D NS w wr v L)(b:Below wr.heap.size wr w1)(a:aL q q' wr.heap.size)(hk:KW q' w1):Own p q' D NS w w1 v L:=
 {h with
  up:=h.up.trans (b.mono h.up.size),gr:=h.gr.trans a h.up.size,kw:=hk,own:=bD h.own b,all:=h.all.sub a.le
  aI:=fun g c o=>a.aI (h.own.lt g c).2 (h.aI g c) o}
theorem Own.quiet(h:Own p q D NS w wr v L)(a:Below wr.heap.size wr w1):Own p q D NS w w1 v L:=h.call a (.refl _ _) (h.kw.grown a)
theorem Own.cJ(h:Own p q D NS w wr v L):L.length≤NS.length:=by have:=jd h.two h.aC;rwa [kE]at this
theorem Own.l_(h:Own p q D NS w wr v L):∃e a c,v= .slice a L.length c∧KW e wr∧Sub q e∧au e D (aX L) a∧(0<L.length→∃g,a=some ⟨g,0,none⟩∧w.heap.size≤g∧g<wr.heap.size∧e=q.add g (cq L).toArray):=by
 rcases Nat.eq_zero_or_pos L.length with f|f
 ·have k:L= []:=List.length_eq_zero_iff.1 f
  rcases h.own.2 with⟨d,_⟩|⟨g,cap,cur,d,_⟩
  ·exact⟨q,none,0,by rw[d,f],h.kw,.refl _,by rw[k];exact au.gO fun x i=>(by cases i),fun h=>by omega⟩
  ·exact⟨q,some ⟨g,0,none⟩,cap,d,h.kw,.refl _,by rw[k];exact au.gO fun x i=>(by cases i;rfl),fun h=>by omega⟩
 ·obtain⟨g,cap,d,m,n,r,s,b,_⟩:=jO h.own f
  have l:=h.aI g (by rw[d];rfl);refine⟨q.add g (cq L).toArray,some ⟨g,0,none⟩,cap,d,h.kw.add fun o u hu=>b o u (by simpa using hu),Pm.cO l,nR (h.all.sub (Pm.cO l)) fun j u hu=> ?_,fun _=>⟨g,rfl,m,n,rfl⟩⟩;rw[Nat.zero_add,Pm.aT];simpa using hu
theorem Own.add(h:Own p q D NS w wr v L){x:R3}(c:w1.ownsRow w.heap.size 25 7 v' (L.length+1) (cq L++bL x))(i:wr.grownBy w1 v.ownBlock)(l:v'.ownBlock=v.ownBlock∨v'.ownBlock=some wr.heap.size)
 (n:aj q D x.1 x.2.1 x.2.2)(r:(aX L).any (fun f=>cG f x.1)=false)(hm:x.1.nm.toList∈NS):Own p q D NS w w1 v' (L++ [x]) where
 up:=h.up.grown i h.up.size fun k hk=>(h.own.lt k hk).1
 gr:=h.gr
 kw:=fun b o u hu=>by
  rw[World.cell?_of_block (w:=wr) (i.block b (h.kw.lt hu) fun e=>by have:=h.aI b e.symm o;rw[this]at hu;cases hu)];exact h.kw b o u hu
 own:=by rw[List.length_append,vV];simpa [cq]using c
 all:=h.all.append fun y j=>by simp at j;subst j;exact n
 aI:=fun g a o=>by
  rcases l with e|e
  ·exact h.aI g (e▸a) o
  ·rw[e]at a;cases a;exact h.kw.aI (Nat.le_refl _) o
 two:=by
  have:=qB h.two x.1;rw[bK,r]at this;simpa [aX]using this
 aC:=fun m d=>by
  simp only[aX,List.map_append,List.map_cons,List.map_nil,List.mem_append,List.mem_singleton]at d;rcases d with s|rfl
  ·exact h.aC m s
  ·exact hm
end
theorem xh(w:World)(cs:List Value)(T:TypeId):∀j u,cs[j]?=some u→(w.alloc (.cells cs.toArray T)).cell? ((⟨w.heap.size,0,none⟩:Addr).add j)=some u:=by
 intro j u a;rw[show(⟨w.heap.size,0,none⟩:Addr).add j=⟨w.heap.size,j,none⟩ by unfold Addr.add;split<;>simp_all,World.cell?_alloc_new];simpa using a
theorem kF{len:Nat}{u:U}{pos f:Nat}(c:TS.Form len u pos f)(hk:u.k=10):dE (u.es.take u.m.toNat):=by
 cases c with
 |iface _ _ _ _ _ b=>rw[List.pairwise_map]at b;exact b
 |pre a _=>omega
 |one a _ _=>omega
 |ptr a _ _ _=>omega
 |_=>omega
theorem jT{len:Nat}{u:U}{pos f:Nat}(g:Pl len u pos f)(h:f≤2)(b:f≠0)(c:u.k≠12)(d:u.k≠13):dE (an u):=by
 obtain⟨i,_,_,e,_,_⟩:=g.under h b c d;by_cases a:(under u).k=10
 ·rw[iX a]
  exact qC (nK (kF e.form a).noTwo)
 ·rw[fK a];exact List.Pairwise.nil
def rz:Prop:=∀(p q:Pm)(D:Dl)(NS:List (List UInt8))(w wr:World)(v:Value)(L:List R3),Own p q D NS w wr v L→L.length≤1048576→
 ∃a n c,v= .slice a n c∧n=(bZ (aX L)).length∧Calls Tryz.prog 167 #[v,.func (.func 168) #[] #[]] wr fun e b=>
  e= .returned (.tuple #[])∧∃q',aL p q' w.heap.size∧KW q' b∧au q' D (bZ (aX L)) a∧Below w.heap.size w b
def rA(D:Dl)(dc:Nat)(NS:List (List UInt8))(u:U):Prop:=
 ∀(p:Pm)(pos f:Nat)(a:Option Addr)(c:Nat)(w:World),Pl D.len u pos f→f≤2→f≠0→u.k≠12→u.k≠13→Names NS u→aj p D u a c→KW p w→
  Calls Tryz.prog 133 #[.slice D.a D.len dc,.agg #[.int .i64 u.k,.int .i64 u.n,.int .i64 u.m,.bool u.v,.string u.nm,.string u.tg,.slice a u.es.length c]] w (RL p D (an u) w)
theorem xi(B:rz)(D:Dl)(dc:Nat)(NS:List (List UInt8))(Rn:NS.length≤1048576):∀u,rA D dc NS u:=by
 intro u;induction u using U.bg with
 |_ u ih=>
  intro p pos f a c w hP hf Qt Qu Qv hN hu hw;obtain⟨f',Ro,Rj,C,hk,Qd⟩:=hP.under hf Qt Qu Qv;have Qe:=hN.under;have hC:=fun W E=>gA p D dc u pos f a c W hP hf Qt Qu Qv hu E;have ag:Up p w (w.alloc (.cells #[.int .i64 u.k,.int .i64 u.n,.int .i64 u.m,.bool u.v,.string u.nm,.string u.tg,.slice a u.es.length c] 25)):=(Up.refl hw).alloc _;have Qf:= @iX u;have Qg:= @fK u;generalize an u=r at*;generalize under u=v at*;cases bz:v.k==10
  ·have n10:(v.k !=10)=true:=by simp[bne,bz]
   have hF:=Lib.hid (Qg (by simpa using bz));clear Qf Qg ih hP C hk Qd hN Qe;go_enter Tryz.func133,Tryz.ntmps133;go_wp2_with fail
   refine(hC _ ag.kw).mono ?_;rintro e1 w1 ⟨q,a1,c1,rfl,hg,Qw,F,aa⟩;have Qx:=(ag.step aa).up.alloc (ag.step aa).up.size (.cells #[.int .i64 v.k,.int .i64 v.n,.int .i64 v.m,.bool v.v,.string v.nm,.string v.tg,.slice a1 v.es.length c1] 25);have QZ:=hw.grown Qx;clear hC aa;go_wp2_with fail
   go_ret;exact⟨p,none,0,0,rfl,by rw[hF.out];rfl,.refl _ _,QZ,by rw[hF.out];exact au.gO fun x hx=>(by cases hx),Qx⟩
  ·have n10:(v.k !=10)=false:=by simp[bne,bz]
   have G:v.k=10:=by simpa using bz
   have hF:=Lib.hid (show r=bZ ((v.es.drop v.m.toNat).foldl b4 (v.es.take v.m.toNat))from Qf G);obtain⟨Q3,Qy,h4⟩:=C.form.jh G;have hE:=Lib.hid fun e he=>C.elem G (e:=e) he;have hS:=Lib.hid fun e (he:e∈v.es.drop v.m.toNat)=>ih e (Nat.lt_of_lt_of_le (U.az (List.mem_of_mem_drop he)) Qd);have Qz:=Lib.hid Qe;have P_:=kF C.form G;have Qa:=Lib.hid P_.noTwo;have Qh:=hu.cap;clear Qf Qg ih hP C hk Qd G hN Qe P_;have Q4:max v.m 0=v.m:=by omega
   have QA:v.m≤v.es.length:=by omega
   have QB:¬v.m<0:=by omega
   go_enter Tryz.func133,Tryz.ntmps133;go_wp2_with fail
   refine(hC _ ag.kw).mono ?_;rintro e1 w1 ⟨q,a1,c1,rfl,hg,Qw,F,aa⟩;have Qi:=ag.step aa;have H:=F.cap;have Z:=Qw.alloc (.cells #[.int .i64 v.k,.int .i64 v.n,.int .i64 v.m,.bool v.v,.string v.nm,.string v.tg,.slice a1 v.es.length c1] 25);have P3:=Qi.up.alloc Qi.up.size (.cells #[.int .i64 v.k,.int .i64 v.n,.int .i64 v.m,.bool v.v,.string v.nm,.string v.tg,.slice a1 v.es.length c1] 25);have Q5:=H.1;have Q6:=H.2;have Q7:v.m.toNat≤c1:=by omega
   have QC:v.m≤c1:=by omega
   have QD:=fun W E n hn=>xd q D (v.es.take v.m.toNat) a1 n c1 W hn (by simp;omega) (F.list.take _) E;clear hC aa H ag Qi;go_wp2_with fail
   refine(QD _ Z _ (by simp;omega)).mono ?_;rintro e1 w2 ⟨vo,L0,rfl,P4,hA0,t,P5⟩
   have hO:Own p q D NS w w2 vo L0:={
    up:=P3.trans (P5.mono P3.size),gr:=hg.mono (by simp),kw:=Z.grown P5,own:=je t P3.size,all:=hA0
    aI:=fun g hv o=>Z.aI (t.lt g hv).1 o
    two:=by rw[P4.out];exact Qa.out
    aC:=fun m hm=>by rw[P4.out]at hm;exact(Qz.out.es (List.mem_of_mem_take hm)).1}
   obtain⟨l0,l1,l2,l3,l4,l5,l6⟩:(w2.cell? ⟨w1.heap.size,0,none⟩=some (.int .i64 v.k)∧w2.cell? ⟨w1.heap.size,1,none⟩=some (.int .i64 v.n)∧w2.cell? ⟨w1.heap.size,2,none⟩=some (.int .i64 v.m)∧w2.cell? ⟨w1.heap.size,3,none⟩=some (.bool v.v)∧w2.cell? ⟨w1.heap.size,4,none⟩=some (.string v.nm)∧w2.cell? ⟨w1.heap.size,5,none⟩=some (.string v.tg)∧w2.cell? ⟨w1.heap.size,6,none⟩=some (.slice a1 v.es.length c1)):=by
    repeat' apply And.intro
    all_goals exact cell_kept P5 (by first|(simp[go_sem];done)|(go_keep;done))
   have s:Hid (aX L0=((v.es.drop v.m.toNat).take 0).foldl b4 (v.es.take v.m.toNat)):=by rw[List.take_zero];exact P4.out
   clear QD P5 t hA0 Z P3 P4 Qa;have Qj:v.m.toNat<c1∨c1=v.m.toNat:=by omega
   have P6:=Lib.hid hO;clear hO;rcases Qj with Qj|rfl
   ·go_wp2_with fail
    clear l0 l1 l2 l3 l4 l5 l6;have hL:=F.list.cut _ Qy;have hlen:(v.es.drop v.m.toNat).length=v.es.length- v.m.toNat:=by simp
    have Rk:v.es.length- v.m.toNat≤4:=by omega
    have Q8:=Lib.hid fun e (he:e∈v.es.drop v.m.toNat)=>Qz.out.es (List.mem_of_mem_drop he);clear Q4 QA QB Q3 Qy h4 Q5 Q6 Q7 QC Qj Qh F;generalize Option.map (fun x=>Addr.add x (v.m.toNat*7)) a1=a2 at*;generalize v.es.length- v.m.toNat=n2 at*;generalize c1- v.m.toNat=c2 at*;generalize v.es.drop v.m.toNat=ds at*;generalize v.es.take v.m.toNat=ts at*;subst hlen;go_loopw [6,29] (fun vo i wr=> ∃k L q',k≤ds.length∧i= .int .i64 k∧Own p q' D NS w wr vo L∧aX L=(ds.take k).foldl b4 ts∧Sub q q') (fun _ i _=>ds.length- (intOf i).toNat)
    case atStart=>exact⟨0,L0,q,Nat.zero_le _,rfl,P6.out,s.out,.refl _⟩
    case round=>
     clear P6 s;obtain⟨k,L,q',hk,rfl,hO,s,I⟩:=hrel;by_cases J:k<ds.length
     ·obtain⟨b,o,rfl⟩:=hL.bC (by omega)
      obtain⟨a',c',h7,Qk⟩:=(au.sub I _ hL).get k J;have d:Hid ((ds.take (k+1)).foldl b4 ts=b4 (aX L) ds[k]):=by
       unfold Hid;rw[List.take_succ_eq_append_getElem J,List.foldl_append,s];rfl
      have P7:=hE.out ds[k] (List.getElem_mem J);have Ql:=hS.out ds[k] (List.getElem_mem J);have Qm:=(Q8.out ds[k] (List.getElem_mem J)).2;obtain⟨e,he⟩:∃e,e=ds[k]:=⟨_,rfl⟩
      rw[←he]at h7 Qk P7 Ql Qm d;clear he s;obtain⟨g0,g1,g2,g3,g4,g5,g6⟩:(wr.cell? ⟨b,o+k*7,none⟩=some (.int .i64 e.k)∧wr.cell? ⟨b,o+k*7+1,none⟩=some (.int .i64 e.n)∧wr.cell? ⟨b,o+k*7+2,none⟩=some (.int .i64 e.m)∧wr.cell? ⟨b,o+k*7+3,none⟩=some (.bool e.v)∧wr.cell? ⟨b,o+k*7+4,none⟩=some (.string e.nm)∧wr.cell? ⟨b,o+k*7+5,none⟩=some (.string e.tg)∧wr.cell? ⟨b,o+k*7+6,none⟩=some (.slice a' e.es.length c')):=h7.world hO.kw;clear h7;have Rl:(k:Int)<ds.length:=by omega
      have y:=Lib.hid (hO.alloc (.cells #[.int .i64 e.k,.int .i64 e.n,.int .i64 e.m,.bool e.v,.string e.nm,.string e.tg,.slice a' e.es.length c'] 25));clear hO;cases QE:e.k==12
      case true=>
       have hA:Hid (aX L=(ds.take (k+1)).foldl b4 ts):=by unfold Hid;rw[d.out,b4,show aW e=false by simp[aW,bne,QE]];rfl
       clear d;go_wp2_with fail
       go_roundw
       case rel=>exact⟨k+1,L,q',by omega,by go_num,y.out,hA.out,I⟩
       case measure=>simp[intOf];omega
      have h:e.k≠12:=by simpa using QE
      cases QF:e.k==13
      case true=>
       have hA:Hid (aX L=(ds.take (k+1)).foldl b4 ts):=by unfold Hid;rw[d.out,b4,show aW e=false by simp[aW,bne,QF]];rfl
       clear d h;go_wp2_with fail
       go_roundw
       case rel=>exact⟨k+1,L,q',by omega,by go_num,y.out,hA.out,I⟩
       case measure=>simp[intOf];omega
      have l:e.k≠13:=by simpa using QF
      have hI:=fun W E=>e_ q' D dc e 2 2 a' c' W P7 (by omega) (by omega) h l Qk E;cases hi:isIface e
      ·have hA:Hid (aX L=(ds.take (k+1)).foldl b4 ts):=by unfold Hid;rw[d.out,b4,show aW e=false by simp[aW,hi]];rfl
       have K:=fun W E=>aM (hI W E) hi;clear d h l hI hi;go_wp2_with fail
       refine(K _ y.out.kw).mono ?_;rintro e1 w3 ⟨rfl,A⟩;have N:=Lib.hid (y.out.quiet A);clear A K;go_wp2_with fail
       go_roundw
       case rel=>exact⟨k+1,L,q',by omega,by go_num,N.out,hA.out,I⟩
       case measure=>simp[intOf];omega
      ·have hA:Hid ((ds.take (k+1)).foldl b4 ts=(an e).foldl bK (aX L)):=by unfold Hid;rw[d.out,b4,show aW e=true by simp[aW,hi,h,l]];rfl
       have K:=fun W E=>aM (hI W E) hi;have QG:=fun W (E:KW q' W)=>Ql q' 2 2 a' c' W P7 (by omega) (by omega) h l Qm Qk E;have QH:=Lib.hid Qm.cf;have Q9:=Lib.hid (jT P7 (by omega) (by omega) h l);clear d h l hI hi Ql;go_wp2_with fail
       refine(K _ y.out.kw).mono ?_;rintro e1 w3 ⟨rfl,A⟩;have N:=Lib.hid (y.out.quiet A);obtain⟨x0,x1,x2,x3,x4,x5,x6⟩:(w3.cell? ⟨wr.heap.size,0,none⟩=some (.int .i64 e.k)∧w3.cell? ⟨wr.heap.size,1,none⟩=some (.int .i64 e.n)∧w3.cell? ⟨wr.heap.size,2,none⟩=some (.int .i64 e.m)∧w3.cell? ⟨wr.heap.size,3,none⟩=some (.bool e.v)∧w3.cell? ⟨wr.heap.size,4,none⟩=some (.string e.nm)∧w3.cell? ⟨wr.heap.size,5,none⟩=some (.string e.tg)∧w3.cell? ⟨wr.heap.size,6,none⟩=some (.slice a' e.es.length c')):=by
        repeat' apply And.intro
        all_goals exact cell_kept A (by first|(simp[go_sem];done)|(go_keep;done))
       clear A K;go_wp2_with fail
       refine(QG _ N.out.kw).mono ?_;rintro e1 w4 ⟨q2,a3,n3,c3,rfl,QI,Qn,QJ,QK,QL⟩;have QM:=Lib.hid (N.out.call QL Qn QJ);clear QL QG x0 x1 x2 x3 x4 x5 x6;go_wp2_with fail
       clear QJ;obtain⟨wo,rfl⟩:∃wo:World,wo=wr:=⟨_,rfl⟩
       have QN:=QI.out;generalize an e=ms at*;subst QN;clear QI;have Rp:(ms.length:Int)≤1048576:=by have:=jd Q9.out.noTwo fun m hm=>(QH.out m hm).1;omega
       have eg:=Lib.hid (show ∀args w,(callFunc 166 args).run Tryz.prog w= .ok (.enter 166 args) w from dm Tryz.func166 (by kernel_rfl) rfl);have Rq:∀(fn:Fn)(first cap:Array Value)(w:World),(Instr.makeFunc fn first cap).run Tryz.prog w= .ok (.func fn first cap) w:=fun _ _ _ _=>rfl;have Qb:=Lib.hid QK;clear QK;have Q_:=Lib.hid Qn.le;clear Qn y N;obtain⟨i0,hi,Ra,Rb,Rc⟩:=info_parts ru;go_loopw [6,10,51] (fun vo _ i W=> ∃j M,j≤ms.length∧i= .int .i64 j∧Own p q2 D NS w W vo M∧aX M=(ms.take j).foldl bK (aX L)) (fun _ _ i _=>ms.length- (intOf i).toNat)
       case atStart=>exact⟨0,L,Nat.zero_le _,rfl,QM.out,rfl⟩
       case round=>
        clear QM;obtain⟨j,M,hj,rfl,O,hM⟩:=hrel;by_cases P:j<ms.length
        ·obtain⟨b3,o3,rfl⟩:=Qb.out.bC (by omega)
         obtain⟨a5,c5,h7,QO⟩:=Qb.out.get j P;have d:Hid ((ms.take (j+1)).foldl bK (aX L)=bK (aX M) ms[j]):=by
          unfold Hid;rw[List.take_succ_eq_append_getElem P,List.foldl_append,hM];rfl
         have QP:=Lib.hid (QH.out ms[j] (List.getElem_mem P)).1;obtain⟨m,hm⟩:∃m,m=ms[j]:=⟨_,rfl⟩
         rw[←hm]at h7 QO d QP;clear hm hM;have QQ:=Lib.hid QO;obtain⟨g0,g1,g2,g3,g4,g5,g6⟩:(wr.cell? ⟨b3,o3+j*7,none⟩=some (.int .i64 m.k)∧wr.cell? ⟨b3,o3+j*7+1,none⟩=some (.int .i64 m.n)∧wr.cell? ⟨b3,o3+j*7+2,none⟩=some (.int .i64 m.m)∧wr.cell? ⟨b3,o3+j*7+3,none⟩=some (.bool m.v)∧wr.cell? ⟨b3,o3+j*7+4,none⟩=some (.string m.nm)∧wr.cell? ⟨b3,o3+j*7+5,none⟩=some (.string m.tg)∧wr.cell? ⟨b3,o3+j*7+6,none⟩=some (.slice a5 m.es.length c5)):=h7.world O.kw;clear h7;have Re:(j:Int)<ms.length:=by omega
         have Rm:=O.cJ;have Qo:=O.alloc (.cells #[.int .i64 m.k,.int .i64 m.n,.int .i64 m.m,.bool m.v,.string m.nm,.string m.tg,.slice a5 m.es.length c5] 25);obtain⟨p',a6,c6,rfl,QR,Rg,QS,_⟩:=Qo.l_;have Q:=Lib.hid Qo;have hX:=fL M.length p' D (aX M) (kE M).symm a6 c6 166 #[.pointer (some ⟨wr.heap.size,0,none⟩)] (fun f=>cG f m) _ QR QS (by rw[kE];omega) eg.out (fun i hi W' a' c' Rh Rr=>xf _ m.nm a' c' W' wr.heap.size (cell_kept Rh (by simp[go_sem])));have Qp:=Lib.hid hX;clear hX Qo O QR Rg QS;go_wp2_with fail
         refine Qp.out.mono ?_;rintro e1 w6 ⟨bb,rfl,P8,P9⟩;have QT:=Lib.hid (Q.out.quiet P9);cases bb
         ·obtain⟨y0,y1,y2,y3,y4,y5,y6⟩:(w6.cell? ⟨wr.heap.size,0,none⟩=some (.int .i64 m.k)∧w6.cell? ⟨wr.heap.size,1,none⟩=some (.int .i64 m.n)∧w6.cell? ⟨wr.heap.size,2,none⟩=some (.int .i64 m.m)∧w6.cell? ⟨wr.heap.size,3,none⟩=some (.bool m.v)∧w6.cell? ⟨wr.heap.size,4,none⟩=some (.string m.nm)∧w6.cell? ⟨wr.heap.size,5,none⟩=some (.string m.tg)∧w6.cell? ⟨wr.heap.size,6,none⟩=some (.slice a5 m.es.length c5)):=by
           repeat' apply And.intro
           all_goals exact cell_kept P9 (by first|(simp[go_sem];done)|(go_keep;done))
          have Qc:Hid ((aX M).any (fun f=>cG f m)=false):=P8.out.symm;have hA2:Hid ((ms.take (j+1)).foldl bK (aX L)=aX M++ [m]):=by unfold Hid;rw[d.out,bK,Qc.out];rfl
          clear P8 P9 Qp Q d;have z:=Lib.hid (QT.out.alloc (.cells #[.int .i64 m.k,.int .i64 m.n,.int .i64 m.m,.bool m.v,.string m.nm,.string m.tg,.slice a5 m.es.length c5] 25));go_wp2_with (at_builtin;refine wpList_append_own_at _ rfl _ _ 23 rfl w.heap.size 25 i0 (.agg #[.int .i64 bS.k,.int .i64 bS.n,.int .i64 bS.m,.bool bS.v,.string bS.nm,.string bS.tg,.slice none bS.es.length 0]) 7 88 Tryz.underlying23 hi Ra Rb Rc rfl (by decide) _ _ _ rfl z.out.own ⟨w6.heap.size,0,none⟩ 1 1 (bL (m,a5,c5)) rfl rfl (xh w6 (bL (m,a5,c5)) 25) (fun v hv=>qL [(m,a5,c5)] v (by simpa [cq]using hv)) ?c3 ?c4 ?c5 ?_)
          case c3=>unfold maxLen;omega
          case c4=>omega
          case c5=>exact z.out.up.size
          intro v' w7 R QU _ QV;have Ri:=Lib.hid (z.out.add R QU (by simpa using QV) QQ.out Qc.out QP.out);clear R QU QV z y0 y1 y2 y3 y4 y5 y6;go_wp2_with fail
          go_roundw
          case rel=>exact⟨j+1,M++ [(m,a5,c5)],by omega,by go_num,Ri.out,by rw[hA2.out];simp[aX]⟩
          case measure=>simp[intOf];omega
         ·have hA2:Hid ((ms.take (j+1)).foldl bK (aX L)=aX M):=by unfold Hid;rw[d.out,bK,←P8.out];rfl
          clear P8 P9 Qp Q d;go_wp2_with fail
          go_roundw
          case rel=>exact⟨j+1,M,by omega,by go_num,QT.out,hA2.out.symm⟩
          case measure=>simp[intOf];omega
        ·have QW:j=ms.length:=by omega
         have hB:Hid (aX M=(ds.take (k+1)).foldl b4 ts):=by unfold Hid;rw[hA.out,hM,QW,List.take_length]
         clear hM QW;go_wp2_with fail
         go_roundw
         case rel=>exact⟨k+1,M,q2,by omega,by go_num,O,hB.out,I.trans Q_.out⟩
         case measure=>simp[intOf];omega
     ·have QX:k=ds.length:=by omega
      have hR:Hid (r=bZ (aX L)):=by unfold Hid;rw[hF.out,s,QX,List.take_length]
      clear s QX;obtain⟨a9,n9,c9,rfl,S,T⟩:=B _ _ _ _ _ _ _ _ hO (by have:=hO.cJ;omega);have V:Hid (n9=r.length):=by unfold Hid;rw[hR.out];exact S
      clear S hO;go_wp2_with fail
      refine T.mono ?_;rintro e1 w9 ⟨rfl,q9,Qq,Qr,X,Qs⟩;have Y:Hid (au q9 D r a9):=by unfold Hid;rw[hR.out];exact X
      clear T X;go_wp2_with fail
      go_ret;exact⟨q9,a9,n9,c9,rfl,V.out,Qq,Qr,Y.out,Qs⟩
   ·have QY:v.es.drop v.m.toNat= []:=List.drop_eq_nil_of_le (by omega)
    have hR:Hid (r=bZ (aX L0)):=by unfold Hid;rw[hF.out,s.out,QY];rfl
    obtain⟨a9,n9,c9,rfl,S,T⟩:=B _ _ _ _ _ _ _ _ P6.out (by have:=P6.out.cJ;omega);have V:Hid (n9=r.length):=by unfold Hid;rw[hR.out];exact S
    clear S QY s;go_wp2_with fail
    refine wp_loop_rounds 1 ?_;rw[rounds_succ];go_wp2_with fail
    refine T.mono ?_;rintro e1 w9 ⟨rfl,q9,Qq,Qr,X,Qs⟩;have Y:Hid (au q9 D r a9):=by unfold Hid;rw[hR.out];exact X
    clear T X;go_wp2_with fail
    go_ret;exact⟨q9,a9,n9,c9,rfl,V.out,Qq,Qr,Y.out,Qs⟩
end Go.Proofs.YtkfaiocajcjomaaGreatDoor
