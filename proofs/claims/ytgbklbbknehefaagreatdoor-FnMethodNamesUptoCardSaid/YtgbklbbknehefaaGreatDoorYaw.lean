import Derived.Maps.AppendAt
import Derived.Outline
import Derived.Test.YtgbklbbknehefaaGreatDoorYab
import Derived.Test.YtgbklbbknehefaaGreatDoorYau
set_option maxRecDepth 100000
set_option maxHeartbeats 8000000
set_option linter.all false
namespace Go.Proofs.YtgbklbbknehefaaGreatDoor
open Go.RowKit TS
theorem ko(L:List R3):(aU L).length=L.length:=by simp[aU]
structure Own(p q:Pm)(D:Dl)(NS:List (List UInt8))(w wr:World)(v:Value)(L:List R3):Prop where
 up:Below w.heap.size w wr
 gr:aK p q w.heap.size
 kw:KW q wr
 own:wr.ownsRow w.heap.size 25 7 v L.length (cp L)
 all:eT q D L
 aG:∀g,v.ownBlock=some g→∀o,q g o=none
 two:cY (aU L)
 aB:∀m∈aU L,m.nm.toList∈NS
section
variable {p q q':Pm} {D:Dl} {NS:List (List UInt8)} {w wr w1:World} {v v':Value} {L:List R3}
theorem Own.alloc(h:Own p q D NS w wr v L)(o:Obj):Own p q D NS w (wr.alloc o) v L:=
 {h with up:=h.up.alloc h.up.size o,kw:=h.kw.alloc o,own:=h.own.alloc o}
theorem Own.call(h:Own p q D NS w wr v L)(b:Below wr.heap.size wr w1)(a:aK q q' wr.heap.size)(hk:KW q' w1):Own p q' D NS w w1 v L:=
 {h with
  up:=h.up.trans (b.mono h.up.size),gr:=h.gr.trans a h.up.size,kw:=hk,own:=bq h.own b,all:=h.all.sub a.le
  aG:=fun g c o=>a.aG (h.own.lt g c).2 (h.aG g c) o}
theorem Own.quiet(h:Own p q D NS w wr v L)(a:Below wr.heap.size wr w1):Own p q D NS w w1 v L:=h.call a (.refl _ _) (h.kw.grown a)
theorem Own.cI(h:Own p q D NS w wr v L):L.length≤NS.length:=by have:=hZ h.two h.aB;rwa [ko]at this
theorem Own.lM(h:Own p q D NS w wr v L):∃e a c,v= .slice a L.length c∧KW e wr∧Sub q e∧aw e D (aU L) a∧(0<L.length→∃g,a=some ⟨g,0,none⟩∧w.heap.size≤g∧g<wr.heap.size∧e=q.add g (cp L).toArray):=by
 rcases Nat.eq_zero_or_pos L.length with f|f
 ·have k:L= []:=List.length_eq_zero_iff.1 f
  rcases h.own.2 with⟨d,_⟩|⟨g,cap,cur,d,_⟩
  ·exact⟨q,none,0,by rw[d,f],h.kw,.refl _,by rw[k];exact aw.gG fun x i=>(by cases i),fun h=>by omega⟩
  ·exact⟨q,some ⟨g,0,none⟩,cap,d,h.kw,.refl _,by rw[k];exact aw.gG fun x i=>(by cases i;rfl),fun h=>by omega⟩
 ·obtain⟨g,cap,d,m,n,r,s,b,_⟩:=iY h.own f
  have l:=h.aG g (by rw[d];rfl);refine⟨q.add g (cp L).toArray,some ⟨g,0,none⟩,cap,d,h.kw.add fun o u hu=>b o u (by simpa using hu),Pm.cP l,nu (h.all.sub (Pm.cP l)) fun j u hu=> ?_,fun _=>⟨g,rfl,m,n,rfl⟩⟩;rw[Nat.zero_add,Pm.aQ];simpa using hu
theorem Own.add(h:Own p q D NS w wr v L){x:R3}(c:w1.ownsRow w.heap.size 25 7 v' (L.length+1) (cp L++bJ x))(i:wr.grownBy w1 v.ownBlock)(l:v'.ownBlock=v.ownBlock∨v'.ownBlock=some wr.heap.size)
 (n:ai q D x.1 x.2.1 x.2.2)(r:(aU L).any (fun f=>cF f x.1)=false)(hm:x.1.nm.toList∈NS):Own p q D NS w w1 v' (L++ [x]) where
 up:=h.up.grown i h.up.size fun k hk=>(h.own.lt k hk).1
 gr:=h.gr
 kw:=fun b o u hu=>by
  rw[World.cell?_of_block (w:=wr) (i.block b (h.kw.lt hu) fun e=>by have:=h.aG b e.symm o;rw[this]at hu;cases hu)];exact h.kw b o u hu
 own:=by rw[List.length_append,vl];simpa [cp]using c
 all:=h.all.append fun y j=>by simp at j;subst j;exact n
 aG:=fun g a o=>by
  rcases l with e|e
  ·exact h.aG g (e▸a) o
  ·rw[e]at a;cases a;exact h.kw.aG (Nat.le_refl _) o
 two:=by
  have:=pY h.two x.1;rw[bI,r]at this;simpa [aU]using this
 aB:=fun m d=>by
  simp only[aU,List.map_append,List.map_cons,List.map_nil,List.mem_append,List.mem_singleton]at d;rcases d with s|rfl
  ·exact h.aB m s
  ·exact hm
end
theorem wy(w:World)(cs:List Value)(T:TypeId):∀j u,cs[j]?=some u→(w.alloc (.cells cs.toArray T)).cell? ((⟨w.heap.size,0,none⟩:Addr).add j)=some u:=by
 intro j u a;rw[show(⟨w.heap.size,0,none⟩:Addr).add j=⟨w.heap.size,j,none⟩ by unfold Addr.add;split<;>simp_all,World.cell?_alloc_new];simpa using a
theorem kp{len:Nat}{u:U}{pos f:Nat}(c:TS.Form len u pos f)(hk:u.k=10):dy (u.es.take u.m.toNat):=by
 cases c with
 |iface _ _ _ _ _ b=>rw[List.pairwise_map]at b;exact b
 |pre a _=>omega
 |one a _ _=>omega
 |ptr a _ _ _=>omega
 |_=>omega
theorem ja{len:Nat}{u:U}{pos f:Nat}(g:Pl len u pos f)(h:f≤2)(b:f≠0)(c:u.k≠12)(d:u.k≠13):dy (aj u):=by
 obtain⟨i,_,_,e,_,_⟩:=g.under h b c d;by_cases a:(under u).k=10
 ·rw[iS a]
  exact pZ (nh (kp e.form a).noTwo)
 ·rw[eB a];exact List.Pairwise.nil
def qK:Prop:=∀(p q:Pm)(D:Dl)(NS:List (List UInt8))(w wr:World)(v:Value)(L:List R3),Own p q D NS w wr v L→L.length≤1048576→
 ∃a n c,v= .slice a n c∧n=(bW (aU L)).length∧Calls Tryz.prog 20 #[v,.func (.func 21) #[] #[]] wr fun e b=>
  e= .returned (.tuple #[])∧∃q',aK p q' w.heap.size∧KW q' b∧aw q' D (bW (aU L)) a∧Below w.heap.size w b
def qL(D:Dl)(dc:Nat)(NS:List (List UInt8))(u:U):Prop:=
 ∀(p:Pm)(pos f:Nat)(a:Option Addr)(c:Nat)(w:World),Pl D.len u pos f→f≤2→f≠0→u.k≠12→u.k≠13→Names NS u→ai p D u a c→KW p w→
  Calls Tryz.prog 7 #[.slice D.a D.len dc,.agg #[.int .i64 u.k,.int .i64 u.n,.int .i64 u.m,.bool u.v,.string u.nm,.string u.tg,.slice a u.es.length c]] w (RL p D (aj u) w)
theorem wA(B:qK)(D:Dl)(dc:Nat)(NS:List (List UInt8))(Ro:NS.length≤1048576):∀u,qL D dc NS u:=by
 intro u;induction u using U.bg with
 |_ u ih=>
  intro p pos f a c w hP hf Qu Qv Qw hN hu hw;obtain⟨f',Rp,Rk,C,hk,Qe⟩:=hP.under hf Qu Qv Qw;have Qf:=hN.under;have hC:=fun W E=>ik p D dc u pos f a c W hP hf Qu Qv Qw hu E;have ag:Up p w (w.alloc (.cells #[.int .i64 u.k,.int .i64 u.n,.int .i64 u.m,.bool u.v,.string u.nm,.string u.tg,.slice a u.es.length c] 25)):=(Up.refl hw).alloc _;have Qg:= @iS u;have Qh:= @eB u;generalize aj u=r at*;generalize under u=v at*;cases bC:v.k==10
  ·have n10:(v.k !=10)=true:=by simp[bne,bC]
   have hF:=Lib.hid (Qh (by simpa using bC));clear Qg Qh ih hP C hk Qe hN Qf;go_enter Tryz.func7,Tryz.ntmps7;go_wp2_with fail
   refine(hC _ ag.kw).mono ?_;rintro e1 w1 ⟨q,a1,c1,rfl,hg,Qx,F,aa⟩;have Qy:=(ag.step aa).up.alloc (ag.step aa).up.size (.cells #[.int .i64 v.k,.int .i64 v.n,.int .i64 v.m,.bool v.v,.string v.nm,.string v.tg,.slice a1 v.es.length c1] 25);have Q3:=hw.grown Qy;clear hC aa;go_wp2_with fail
   go_ret;exact⟨p,none,0,0,rfl,by rw[hF.out];rfl,.refl _ _,Q3,by rw[hF.out];exact aw.gG fun x hx=>(by cases hx),Qy⟩
  ·have n10:(v.k !=10)=false:=by simp[bne,bC]
   have G:v.k=10:=by simpa using bC
   have hF:=Lib.hid (show r=bW ((v.es.drop v.m.toNat).foldl bX (v.es.take v.m.toNat))from Qg G);obtain⟨Q4,Qz,h4⟩:=C.form.jG G;have hE:=Lib.hid fun e he=>C.elem G (e:=e) he;have hS:=Lib.hid fun e (he:e∈v.es.drop v.m.toNat)=>ih e (Nat.lt_of_lt_of_le (U.au (List.mem_of_mem_drop he)) Qe);have QA:=Lib.hid Qf;have Qa:=kp C.form G;have Qb:=Lib.hid Qa.noTwo;have Qi:=hu.cap;clear Qg Qh ih hP C hk Qe G hN Qf Qa;have Q5:max v.m 0=v.m:=by omega
   have QB:v.m≤v.es.length:=by omega
   have QC:¬v.m<0:=by omega
   go_enter Tryz.func7,Tryz.ntmps7;go_wp2_with fail
   refine(hC _ ag.kw).mono ?_;rintro e1 w1 ⟨q,a1,c1,rfl,hg,Qx,F,aa⟩;have Qj:=ag.step aa;have H:=F.cap;have Z:=Qx.alloc (.cells #[.int .i64 v.k,.int .i64 v.n,.int .i64 v.m,.bool v.v,.string v.nm,.string v.tg,.slice a1 v.es.length c1] 25);have P4:=Qj.up.alloc Qj.up.size (.cells #[.int .i64 v.k,.int .i64 v.n,.int .i64 v.m,.bool v.v,.string v.nm,.string v.tg,.slice a1 v.es.length c1] 25);have Q6:=H.1;have Q7:=H.2;have Q8:v.m.toNat≤c1:=by omega
   have QD:v.m≤c1:=by omega
   have QE:=fun W E n hn=>wq q D (v.es.take v.m.toNat) a1 n c1 W hn (by simp;omega) (F.list.take _) E;clear hC aa H ag Qj;go_wp2_with fail
   refine(QE _ Z _ (by simp;omega)).mono ?_;rintro e1 w2 ⟨vo,L0,rfl,P5,hA0,t,P6⟩
   have hO:Own p q D NS w w2 vo L0:={
    up:=P4.trans (P6.mono P4.size),gr:=hg.mono (by simp),kw:=Z.grown P6,own:=ie t P4.size,all:=hA0
    aG:=fun g hv o=>Z.aG (t.lt g hv).1 o
    two:=by rw[P5.out];exact Qb.out
    aB:=fun m hm=>by rw[P5.out]at hm;exact(QA.out.es (List.mem_of_mem_take hm)).1}
   obtain⟨l0,l1,l2,l3,l4,l5,l6⟩:(w2.cell? ⟨w1.heap.size,0,none⟩=some (.int .i64 v.k)∧w2.cell? ⟨w1.heap.size,1,none⟩=some (.int .i64 v.n)∧w2.cell? ⟨w1.heap.size,2,none⟩=some (.int .i64 v.m)∧w2.cell? ⟨w1.heap.size,3,none⟩=some (.bool v.v)∧w2.cell? ⟨w1.heap.size,4,none⟩=some (.string v.nm)∧w2.cell? ⟨w1.heap.size,5,none⟩=some (.string v.tg)∧w2.cell? ⟨w1.heap.size,6,none⟩=some (.slice a1 v.es.length c1)):=by
    repeat' apply And.intro
    all_goals exact cell_kept P6 (by first|(simp[go_sem];done)|(go_keep;done))
   have s:Hid (aU L0=((v.es.drop v.m.toNat).take 0).foldl bX (v.es.take v.m.toNat)):=by rw[List.take_zero];exact P5.out
   clear QE P6 t hA0 Z P4 P5 Qb;have Qk:v.m.toNat<c1∨c1=v.m.toNat:=by omega
   have P7:=Lib.hid hO;clear hO;rcases Qk with Qk|rfl
   ·go_wp2_with fail
    clear l0 l1 l2 l3 l4 l5 l6;have hL:=F.list.cut _ Qz;have hlen:(v.es.drop v.m.toNat).length=v.es.length- v.m.toNat:=by simp
    have Rl:v.es.length- v.m.toNat≤4:=by omega
    have Q9:=Lib.hid fun e (he:e∈v.es.drop v.m.toNat)=>QA.out.es (List.mem_of_mem_drop he);clear Q5 QB QC Q4 Qz h4 Q6 Q7 Q8 QD Qk Qi F;generalize Option.map (fun x=>Addr.add x (v.m.toNat*7)) a1=a2 at*;generalize v.es.length- v.m.toNat=n2 at*;generalize c1- v.m.toNat=c2 at*;generalize v.es.drop v.m.toNat=ds at*;generalize v.es.take v.m.toNat=ts at*;subst hlen;go_loopw [6,29] (fun vo i wr=> ∃k L q',k≤ds.length∧i= .int .i64 k∧Own p q' D NS w wr vo L∧aU L=(ds.take k).foldl bX ts∧Sub q q') (fun _ i _=>ds.length- (intOf i).toNat)
    case atStart=>exact⟨0,L0,q,Nat.zero_le _,rfl,P7.out,s.out,.refl _⟩
    case round=>
     clear P7 s;obtain⟨k,L,q',hk,rfl,hO,s,I⟩:=hrel;by_cases J:k<ds.length
     ·obtain⟨b,o,rfl⟩:=hL.bt (by omega)
      obtain⟨a',c',h7,Ql⟩:=(aw.sub I _ hL).get k J;have d:Hid ((ds.take (k+1)).foldl bX ts=bX (aU L) ds[k]):=by
       unfold Hid;rw[List.take_succ_eq_append_getElem J,List.foldl_append,s];rfl
      have P8:=hE.out ds[k] (List.getElem_mem J);have Qm:=hS.out ds[k] (List.getElem_mem J);have Qn:=(Q9.out ds[k] (List.getElem_mem J)).2;obtain⟨e,he⟩:∃e,e=ds[k]:=⟨_,rfl⟩
      rw[←he]at h7 Ql P8 Qm Qn d;clear he s;obtain⟨g0,g1,g2,g3,g4,g5,g6⟩:(wr.cell? ⟨b,o+k*7,none⟩=some (.int .i64 e.k)∧wr.cell? ⟨b,o+k*7+1,none⟩=some (.int .i64 e.n)∧wr.cell? ⟨b,o+k*7+2,none⟩=some (.int .i64 e.m)∧wr.cell? ⟨b,o+k*7+3,none⟩=some (.bool e.v)∧wr.cell? ⟨b,o+k*7+4,none⟩=some (.string e.nm)∧wr.cell? ⟨b,o+k*7+5,none⟩=some (.string e.tg)∧wr.cell? ⟨b,o+k*7+6,none⟩=some (.slice a' e.es.length c')):=h7.world hO.kw;clear h7;have Rm:(k:Int)<ds.length:=by omega
      have y:=Lib.hid (hO.alloc (.cells #[.int .i64 e.k,.int .i64 e.n,.int .i64 e.m,.bool e.v,.string e.nm,.string e.tg,.slice a' e.es.length c'] 25));clear hO;cases QF:e.k==12
      case true=>
       have hA:Hid (aU L=(ds.take (k+1)).foldl bX ts):=by unfold Hid;rw[d.out,bX,show aT e=false by simp[aT,bne,QF]];rfl
       clear d;go_wp2_with fail
       go_roundw
       case rel=>exact⟨k+1,L,q',by omega,by go_num,y.out,hA.out,I⟩
       case measure=>simp[intOf];omega
      have h:e.k≠12:=by simpa using QF
      cases QG:e.k==13
      case true=>
       have hA:Hid (aU L=(ds.take (k+1)).foldl bX ts):=by unfold Hid;rw[d.out,bX,show aT e=false by simp[aT,bne,QG]];rfl
       clear d h;go_wp2_with fail
       go_roundw
       case rel=>exact⟨k+1,L,q',by omega,by go_num,y.out,hA.out,I⟩
       case measure=>simp[intOf];omega
      have l:e.k≠13:=by simpa using QG
      have hI:=fun W E=>gl q' D dc e 2 2 a' c' W P8 (by omega) (by omega) h l Ql E;cases hi:isIface e
      ·have hA:Hid (aU L=(ds.take (k+1)).foldl bX ts):=by unfold Hid;rw[d.out,bX,show aT e=false by simp[aT,hi]];rfl
       have K:=fun W E=>aP (hI W E) hi;clear d h l hI hi;go_wp2_with fail
       refine(K _ y.out.kw).mono ?_;rintro e1 w3 ⟨rfl,A⟩;have N:=Lib.hid (y.out.quiet A);clear A K;go_wp2_with fail
       go_roundw
       case rel=>exact⟨k+1,L,q',by omega,by go_num,N.out,hA.out,I⟩
       case measure=>simp[intOf];omega
      ·have hA:Hid ((ds.take (k+1)).foldl bX ts=(aj e).foldl bI (aU L)):=by unfold Hid;rw[d.out,bX,show aT e=true by simp[aT,hi,h,l]];rfl
       have K:=fun W E=>aP (hI W E) hi;have QH:=fun W (E:KW q' W)=>Qm q' 2 2 a' c' W P8 (by omega) (by omega) h l Qn Ql E;have QI:=Lib.hid Qn.b4;have Q_:=Lib.hid (ja P8 (by omega) (by omega) h l);clear d h l hI hi Qm;go_wp2_with fail
       refine(K _ y.out.kw).mono ?_;rintro e1 w3 ⟨rfl,A⟩;have N:=Lib.hid (y.out.quiet A);obtain⟨x0,x1,x2,x3,x4,x5,x6⟩:(w3.cell? ⟨wr.heap.size,0,none⟩=some (.int .i64 e.k)∧w3.cell? ⟨wr.heap.size,1,none⟩=some (.int .i64 e.n)∧w3.cell? ⟨wr.heap.size,2,none⟩=some (.int .i64 e.m)∧w3.cell? ⟨wr.heap.size,3,none⟩=some (.bool e.v)∧w3.cell? ⟨wr.heap.size,4,none⟩=some (.string e.nm)∧w3.cell? ⟨wr.heap.size,5,none⟩=some (.string e.tg)∧w3.cell? ⟨wr.heap.size,6,none⟩=some (.slice a' e.es.length c')):=by
        repeat' apply And.intro
        all_goals exact cell_kept A (by first|(simp[go_sem];done)|(go_keep;done))
       clear A K;go_wp2_with fail
       refine(QH _ N.out.kw).mono ?_;rintro e1 w4 ⟨q2,a3,n3,c3,rfl,QJ,Qo,QK,QL,QM⟩;have QN:=Lib.hid (N.out.call QM Qo QK);clear QM QH x0 x1 x2 x3 x4 x5 x6;go_wp2_with fail
       clear QK;obtain⟨wo,rfl⟩:∃wo:World,wo=wr:=⟨_,rfl⟩
       have QO:=QJ.out;generalize aj e=ms at*;subst QO;clear QJ;have Rq:(ms.length:Int)≤1048576:=by have:=hZ Q_.out.noTwo fun m hm=>(QI.out m hm).1;omega
       have eg:=Lib.hid (show ∀args w,(callFunc 19 args).run Tryz.prog w= .ok (.enter 19 args) w from dI Tryz.func19 (by kernel_rfl) rfl);have Rr:∀(fn:Fn)(first cap:Array Value)(w:World),(Instr.makeFunc fn first cap).run Tryz.prog w= .ok (.func fn first cap) w:=fun _ _ _ _=>rfl;have Qc:=Lib.hid QL;clear QL;have Ra:=Lib.hid Qo.le;clear Qo y N;obtain⟨i0,hi,Rb,Rc,Re⟩:=info_parts qI;go_loopw [6,10,51] (fun vo _ i W=> ∃j M,j≤ms.length∧i= .int .i64 j∧Own p q2 D NS w W vo M∧aU M=(ms.take j).foldl bI (aU L)) (fun _ _ i _=>ms.length- (intOf i).toNat)
       case atStart=>exact⟨0,L,Nat.zero_le _,rfl,QN.out,rfl⟩
       case round=>
        clear QN;obtain⟨j,M,hj,rfl,O,hM⟩:=hrel;by_cases P:j<ms.length
        ·obtain⟨b3,o3,rfl⟩:=Qc.out.bt (by omega)
         obtain⟨a5,c5,h7,QP⟩:=Qc.out.get j P;have d:Hid ((ms.take (j+1)).foldl bI (aU L)=bI (aU M) ms[j]):=by
          unfold Hid;rw[List.take_succ_eq_append_getElem P,List.foldl_append,hM];rfl
         have QQ:=Lib.hid (QI.out ms[j] (List.getElem_mem P)).1;obtain⟨m,hm⟩:∃m,m=ms[j]:=⟨_,rfl⟩
         rw[←hm]at h7 QP d QQ;clear hm hM;have QR:=Lib.hid QP;obtain⟨g0,g1,g2,g3,g4,g5,g6⟩:(wr.cell? ⟨b3,o3+j*7,none⟩=some (.int .i64 m.k)∧wr.cell? ⟨b3,o3+j*7+1,none⟩=some (.int .i64 m.n)∧wr.cell? ⟨b3,o3+j*7+2,none⟩=some (.int .i64 m.m)∧wr.cell? ⟨b3,o3+j*7+3,none⟩=some (.bool m.v)∧wr.cell? ⟨b3,o3+j*7+4,none⟩=some (.string m.nm)∧wr.cell? ⟨b3,o3+j*7+5,none⟩=some (.string m.tg)∧wr.cell? ⟨b3,o3+j*7+6,none⟩=some (.slice a5 m.es.length c5)):=h7.world O.kw;clear h7;have Rg:(j:Int)<ms.length:=by omega
         have Rn:=O.cI;have Qp:=O.alloc (.cells #[.int .i64 m.k,.int .i64 m.n,.int .i64 m.m,.bool m.v,.string m.nm,.string m.tg,.slice a5 m.es.length c5] 25);obtain⟨p',a6,c6,rfl,QS,Rh,QT,_⟩:=Qp.lM;have Q:=Lib.hid Qp;have hX:=gK M.length p' D (aU M) (ko M).symm a6 c6 19 #[.pointer (some ⟨wr.heap.size,0,none⟩)] (fun f=>cF f m) _ QS QT (by rw[ko];omega) eg.out (fun i hi W' a' c' Ri Rs=>wu _ m.nm a' c' W' wr.heap.size (cell_kept Ri (by simp[go_sem])));have Qq:=Lib.hid hX;clear hX Qp O QS Rh QT;go_wp2_with fail
         refine Qq.out.mono ?_;rintro e1 w6 ⟨bb,rfl,P9,P_⟩;have QU:=Lib.hid (Q.out.quiet P_);cases bb
         ·obtain⟨y0,y1,y2,y3,y4,y5,y6⟩:(w6.cell? ⟨wr.heap.size,0,none⟩=some (.int .i64 m.k)∧w6.cell? ⟨wr.heap.size,1,none⟩=some (.int .i64 m.n)∧w6.cell? ⟨wr.heap.size,2,none⟩=some (.int .i64 m.m)∧w6.cell? ⟨wr.heap.size,3,none⟩=some (.bool m.v)∧w6.cell? ⟨wr.heap.size,4,none⟩=some (.string m.nm)∧w6.cell? ⟨wr.heap.size,5,none⟩=some (.string m.tg)∧w6.cell? ⟨wr.heap.size,6,none⟩=some (.slice a5 m.es.length c5)):=by
           repeat' apply And.intro
           all_goals exact cell_kept P_ (by first|(simp[go_sem];done)|(go_keep;done))
          have Qd:Hid ((aU M).any (fun f=>cF f m)=false):=P9.out.symm;have hA2:Hid ((ms.take (j+1)).foldl bI (aU L)=aU M++ [m]):=by unfold Hid;rw[d.out,bI,Qd.out];rfl
          clear P9 P_ Qq Q d;have z:=Lib.hid (QU.out.alloc (.cells #[.int .i64 m.k,.int .i64 m.n,.int .i64 m.m,.bool m.v,.string m.nm,.string m.tg,.slice a5 m.es.length c5] 25));go_wp2_with (at_builtin;refine wpList_append_own_at _ rfl _ _ 23 rfl w.heap.size 25 i0 (.agg #[.int .i64 bP.k,.int .i64 bP.n,.int .i64 bP.m,.bool bP.v,.string bP.nm,.string bP.tg,.slice none bP.es.length 0]) 7 88 Tryz.underlying23 hi Rb Rc Re rfl (by decide) _ _ _ rfl z.out.own ⟨w6.heap.size,0,none⟩ 1 1 (bJ (m,a5,c5)) rfl rfl (wy w6 (bJ (m,a5,c5)) 25) (fun v hv=>qg [(m,a5,c5)] v (by simpa [cp]using hv)) ?c3 ?c4 ?c5 ?_)
          case c3=>unfold maxLen;omega
          case c4=>omega
          case c5=>exact z.out.up.size
          intro v' w7 R QV _ QW;have Rj:=Lib.hid (z.out.add R QV (by simpa using QW) QR.out Qd.out QQ.out);clear R QV QW z y0 y1 y2 y3 y4 y5 y6;go_wp2_with fail
          go_roundw
          case rel=>exact⟨j+1,M++ [(m,a5,c5)],by omega,by go_num,Rj.out,by rw[hA2.out];simp[aU]⟩
          case measure=>simp[intOf];omega
         ·have hA2:Hid ((ms.take (j+1)).foldl bI (aU L)=aU M):=by unfold Hid;rw[d.out,bI,←P9.out];rfl
          clear P9 P_ Qq Q d;go_wp2_with fail
          go_roundw
          case rel=>exact⟨j+1,M,by omega,by go_num,QU.out,hA2.out.symm⟩
          case measure=>simp[intOf];omega
        ·have QX:j=ms.length:=by omega
         have hB:Hid (aU M=(ds.take (k+1)).foldl bX ts):=by unfold Hid;rw[hA.out,hM,QX,List.take_length]
         clear hM QX;go_wp2_with fail
         go_roundw
         case rel=>exact⟨k+1,M,q2,by omega,by go_num,O,hB.out,I.trans Ra.out⟩
         case measure=>simp[intOf];omega
     ·have QY:k=ds.length:=by omega
      have hR:Hid (r=bW (aU L)):=by unfold Hid;rw[hF.out,s,QY,List.take_length]
      clear s QY;obtain⟨a9,n9,c9,rfl,S,T⟩:=B _ _ _ _ _ _ _ _ hO (by have:=hO.cI;omega);have V:Hid (n9=r.length):=by unfold Hid;rw[hR.out];exact S
      clear S hO;go_wp2_with fail
      refine T.mono ?_;rintro e1 w9 ⟨rfl,q9,Qr,Qs,X,Qt⟩;have Y:Hid (aw q9 D r a9):=by unfold Hid;rw[hR.out];exact X
      clear T X;go_wp2_with fail
      go_ret;exact⟨q9,a9,n9,c9,rfl,V.out,Qr,Qs,Y.out,Qt⟩
   ·have QZ:v.es.drop v.m.toNat= []:=List.drop_eq_nil_of_le (by omega)
    have hR:Hid (r=bW (aU L0)):=by unfold Hid;rw[hF.out,s.out,QZ];rfl
    obtain⟨a9,n9,c9,rfl,S,T⟩:=B _ _ _ _ _ _ _ _ P7.out (by have:=P7.out.cI;omega);have V:Hid (n9=r.length):=by unfold Hid;rw[hR.out];exact S
    clear S QZ s;go_wp2_with fail
    refine wp_loop_rounds 1 ?_;rw[rounds_succ];go_wp2_with fail
    refine T.mono ?_;rintro e1 w9 ⟨rfl,q9,Qr,Qs,X,Qt⟩;have Y:Hid (aw q9 D r a9):=by unfold Hid;rw[hR.out];exact X
    clear T X;go_wp2_with fail
    go_ret;exact⟨q9,a9,n9,c9,rfl,V.out,Qr,Qs,Y.out,Qt⟩
theorem lN(x y:R3):ltOf fT x y=bh x.1 y.1:=by
 unfold ltOf fT;cases bh x.1 y.1<;>rfl
theorem wB:Sort.SWO (ltOf fT) where
 irrefl x:=by rw[lN];exact g_ _
 trans x y z h k:=by rw[lN]at*;exact gi h k
 ntrans x y z h k:=by
  rw[lN]at*;cases a:bh x.1 z.1
  ·rfl
  ·cases b:bh y.1 x.1
   ·have e:=fN.1 (jx h b)
    unfold bh at*;rw[e,k]at a;cases a
   ·have:=gi b a;rw[this]at k;cases k
theorem wC{enc:R3→List Value}{k g n:Nat}{d:Array R3}{os:Array Obj}{B:Nat}{a W:World}(h:Below B a W)(e:B≤g)(f:B≤W.heap.size):Below B a (sortWorldK enc k W g 0 n d os):=by
 refine⟨h.os,h.tape,h.output,?_,fun b c=> ?_⟩
 ·unfold sortWorldK
  rw[Sort.size_grow,Sort.size_putRowK];exact Nat.le_trans h.size (Nat.le_add_right _ _)
 ·rw[←h.block b c]
  unfold sortWorldK;rw[Sort.heap_grow_old _ _ (by rw[Sort.size_putRowK];show b<W.heap.size;omega)];unfold Sort.putRowK Sort.putRow Sort.mapBlock;simp only[Sort.ahead];rw[Array.getElem?_modify,if_neg (by omega)]
theorem qM(L:List R3)(j:Nat)(u:Value)(h:(cp L)[j]?=some u):(Sort.flatK bJ 7 L.toArray)[j]! =u∧j<(Sort.flatK bJ 7 L.toArray).size:=by
 have b:j<L.length*7:=by rw[←lC];exact(List.getElem?_eq_some_iff.1 h).1
 have a:j / 7<L.length:=by omega
 have hr:j % 7<7:=Nat.mod_lt _ (by decide);have:=qh L (j / 7) (j % 7) a hr;rw[show j / 7*7+j % 7=j by omega,h]at this;refine⟨?_,by simp;omega⟩;rw[Sort.get_flatK _ _ _ _ (by simpa using b)];rw[getElem!_pos L.toArray (j / 7) (by simpa using a)];have e:(bJ L[j / 7])[j % 7]?=some u:=this.symm;obtain⟨h1,h2⟩:=List.getElem?_eq_some_iff.1 e;rw[show L.toArray[j / 7]=L[j / 7] by simp,getElem!_pos (bJ L[j / 7]) (j % 7) h1,h2]
theorem wD{p q:Pm}{D:Dl}{NS:List (List UInt8)}{w wr:World}{v:Value}{L:List R3}(h:Own p q D NS w wr v L)
 (lO:∀(r cap:Nat)(d:Array R3)(W:World),Sort.HoldsK bJ 7 W r 0 d→r<W.heap.size→d.size<4611686018427387904→
  Calls Tryz.prog 20 #[.slice (some ⟨r,0,none⟩) d.size cap,.func (.func 21) #[] #[]] W fun e k=>
   e= .returned (.tuple #[])∧∃d' n os,Sort.PermIn 0 d.size d d'∧Sort.SortedIn (ltOf fT) 0 d.size d'∧k=sortWorldK bJ 7 W r 0 n d' os)
 (s:∀(a:Option Addr)(cap:Nat)(W:World),Calls Tryz.prog 20 #[.slice a 0 cap,.func (.func 21) #[] #[]] W fun e k=>e= .returned (.tuple #[])∧k=W)
 (hl:L.length≤1048576):
 ∃a n c,v= .slice a n c∧n=(bW (aU L)).length∧Calls Tryz.prog 20 #[v,.func (.func 21) #[] #[]] wr fun e k=>
  e= .returned (.tuple #[])∧∃t,aK p t w.heap.size∧KW t k∧aw t D (bW (aU L)) a∧Below w.heap.size w k:=by
 have hlen:(bW (aU L)).length=L.length:=by unfold bW;rw[List.length_mergeSort,ko]
 rcases Nat.eq_zero_or_pos L.length with B|B
 ·have hL:L= []:=List.length_eq_zero_iff.1 B
  have key:∀a c,v= .slice a 0 c→(∀x,a=some x→x.spot=none)→∃a n c,v= .slice a n c∧n=(bW (aU L)).length∧Calls Tryz.prog 20 #[v,.func (.func 21) #[] #[]] wr fun e k=>
   e= .returned (.tuple #[])∧∃t,aK p t w.heap.size∧KW t k∧aw t D (bW (aU L)) a∧Below w.heap.size w k:=fun a c l K=>by
   refine⟨a,0,c,l,by rw[hlen,B],?_⟩;rw[l];refine(s a c wr).mono ?_;rintro e k ⟨rfl,rfl⟩;exact⟨rfl,q,h.gr,h.kw,by rw[hL,show bW (aU [])= [] by simp[aU,bW]];exact aw.gG K,h.up⟩
  rcases h.own.2 with⟨l,_⟩|⟨g,cap,cur,l,_⟩
  ·exact key none 0 l fun x C=>by cases C
  ·rw[B]at l
   exact key (some ⟨g,0,none⟩) cap l fun x C=>by cases C;rfl
 ·obtain⟨g,cap,l,X,Y,hn,hc,y,M⟩:=iY h.own B
  have N:=h.aG g (by rw[l];rfl);have hH:Sort.HoldsK bJ 7 wr g 0 L.toArray:=fun j J=>by
   have z:j<(cp L).length:=by rw[lC];simpa using J
   obtain⟨O,_⟩:=qM L j _ (List.getElem?_eq_getElem z);rw[Nat.zero_add,O];exact⟨y j _ (List.getElem?_eq_getElem z),M j z⟩
  refine⟨some ⟨g,0,none⟩,L.length,cap,l,hlen.symm,?_⟩;rw[l];have Z:=lO g cap L.toArray wr hH Y (by simp;omega);simp only[List.size_toArray]at Z;refine Z.mono ?_;rintro e k ⟨rfl,d',n,os,hp,K,rfl⟩;obtain⟨f,rfl⟩:∃f:List R3,d'=f.toArray:=⟨d'.toList,by simp⟩
  have E:f.length=L.length:=by have:=hp.1;simpa using this
  have m:f.Perm L:=by
   have:=hp.2.2;have e:List.take L.length f=f:=List.take_of_length_le (by omega);simpa [E,List.extract_eq_take_drop,e]using this
  have P:=holdsK_sortWorldK_c bJ 7 wr g 0 L.toArray f.toArray n os hH Y (by simpa using E);have F:(aU L).Perm (aU f):=(m.map _).symm;have G:cY (aU f):=F.pairwise h.two fun{a b} A=>by rw[ng];exact A
  have H:dy (aU f):=by
   have Q:(aU f).Pairwise fun a b=>bh b a=false:=by
    rw[List.pairwise_iff_getElem];intro i j hi J R;rw[ko]at hi J;have:=K i j (Nat.zero_le _) R (by omega);rw[lN]at this;simpa [aU,getElem!_pos,hi,J]using this
   exact(Q.and G).imp fun{a b} ⟨h1,h2⟩=>by
    cases A:bh a b
    ·have:=jx A h1;rw[this]at h2;cases h2
    ·rfl
  have heq:aU f=bW (aU L):=nj h.two F H;have I:eT q D f:=fun x C=>h.all x (m.subset C);have S:Below w.heap.size w (sortWorldK bJ 7 wr g 0 n f.toArray os):=wC h.up X h.up.size;have T:KW q (sortWorldK bJ 7 wr g 0 n f.toArray os):=fun b o u hu=>by
   have hb:=h.kw.lt hu;have U:b≠g:=fun e=>by rw[e,N o]at hu;cases hu
   unfold sortWorldK;rw[Sort.cell?_grow _ _ _ (by rw[Sort.size_putRowK];exact hb),Sort.cell?_putRowK_other _ _ _ _ _ _ _ U];exact h.kw b o u hu
  refine⟨rfl,q.add g (cp f).toArray,h.gr.trans (Pm.cW N X) (Nat.le_refl _),T.add fun o u hu=> ?_,?_,S⟩
  ·have V:(cp f)[o]?=some u:=by simpa using hu
   obtain⟨O,e2⟩:=qM f o u V;have:=(P o e2).1;rw[Nat.zero_add,O]at this;exact this
  ·rw[←heq]
   refine nu (I.sub (Pm.cP N)) fun j u hu=> ?_;rw[Nat.zero_add,Pm.aQ];simpa using hu
theorem wE(a off size:Nat)(w:World):CmpLays Tryz.prog 21 #[] bJ 7 fT a off size w:=
 fun m os dk _ x y=>wv x.1 y.1 x.2.1 y.2.1 x.2.2 y.2.2 _
theorem wF:∀w,(isAgg 25).run Tryz.prog w= .ok true w:=fun _=>by kernel_rfl
theorem wG:∀w,(Go.sizeOf 25).run Tryz.prog w= .ok 7 w:=fun _=>by kernel_rfl
theorem wH:qK:=fun p q D NS w wr v L h e=>by
 refine wD h ?_ ?_ e
 ·intro b cap d W hH f g
  have i:∀args w,(callFunc 21 args).run Tryz.prog w= .ok (.enter 21 args) w:=dI Tryz.func21 (by kernel_rfl) rfl;exact AnyQ.slices_SortFunc Tryz.lO 7 wF wG bJ (fun _=>rfl) (fun x v c=>by simp only[bJ,List.mem_cons,List.not_mem_nil,or_false]at c;rcases c with rfl|rfl|rfl|rfl|rfl|rfl|rfl<;>rfl) fT wB 21 #[] b 0 cap d W i (wE _ _ _ _) hH f g
 ·intro a cap W
  exact AnyF.slices_SortFunc_none (P:=Tryz.prog) (ρ:=Tryz.qN) {Tryz.lO with} a cap _ W
theorem jI(D:Dl)(dc:Nat)(NS:List (List UInt8))(a:NS.length≤1048576)(u:U):qL D dc NS u:=wA wH D dc NS a u
end Go.Proofs.YtgbklbbknehefaaGreatDoor
