import Derived.Outline
import Derived.Test.YtkochlhejabdcaaGreatDoorYaq
set_option maxRecDepth 100000
set_option maxHeartbeats 8000000
set_option linter.all false
namespace TS
def U.dep(u:U):Nat:=(u.es.attach.foldl (fun n ⟨e,_⟩=>max n (U.dep e)) (u.un.attach.foldl (fun n ⟨e,_⟩=>max n (U.dep e)) 0))+1
termination_by u.sz
decreasing_by
 ·exact U.ar ‹_›
 ·exact U.iN ‹_›
theorem nN{α:Type}(f:α→Nat):∀(l:List α)(n:Nat),n≤l.foldl (fun n e=>max n (f e)) n∧∀e∈l,f e≤l.foldl (fun n e=>max n (f e)) n
 | [],n=>⟨Nat.le_refl _,fun e he=>by cases he⟩
 |a::r,n=>by
  have:=nN f r (max n (f a));refine⟨by have:=this.1;simp only[List.foldl_cons];omega,fun e he=> ?_⟩;rcases List.mem_cons.1 he with rfl|he
  ·have:=this.1;simp only[List.foldl_cons];omega
  ·exact this.2 e he
theorem U.l_(u:U):u.dep=(u.es.foldl (fun n e=>max n e.dep) (u.un.foldl (fun n e=>max n e.dep) 0))+1:=by
 rw[U.dep];congr 1;rw[←List.foldl_attach (l:=u.es) (f:=fun n e=>max n e.dep),←List.foldl_attach (l:=u.un) (f:=fun n e=>max n e.dep)]
theorem U.me{u e:U}(h:e∈u.es):e.dep<u.dep:=by
 rw[U.l_ u];have:=(nN U.dep u.es (u.un.foldl (fun n e=>max n e.dep) 0)).2 e h;omega
theorem U.zX{u e:U}(h:e∈u.un):e.dep<u.dep:=by
 rw[U.l_ u];have h1:=(nN U.dep u.es (u.un.foldl (fun n e=>max n e.dep) 0)).1;have a:=(nN U.dep u.un 0).2 e h;omega
theorem U.ql(u:U):1≤u.dep:=by rw[U.l_];omega
theorem zY:∀u:U,(bare u).dep≤u.dep:=by
 intro u;induction u using U.bc with
 |_ u ih=>
  rw[bare];split
  ·split
   ·rename_i e r he
    have h1:=U.me (u:=u) (e:=e) (by rw[he];simp);have:=ih e (U.ar (by rw[he];simp));omega
   ·exact Nat.le_refl _
  ·split
   ·have:bL.dep=1:=by rw[U.l_];rfl
    have:=u.ql;omega
   ·exact Nat.le_refl _
theorem tK(u:U):(under u).dep≤u.dep:=by
 have a:=zY u;rw[under];split
 ·cases b:(bare u).un with
  |nil=>exact a
  |cons x r=>have:=U.zX (u:=bare u) (e:=x) (by rw[b];simp);simp;omega
 ·exact a
theorem tL{u x:U}(h:x∈eU u):x.dep<u.dep:=by
 obtain⟨e,he,a⟩:=List.mem_flatMap.1 h;have h1:=U.me (List.mem_of_mem_drop he);split at a
 ·have:=U.me a;omega
 ·simp at a;subst a;exact h1
theorem tM{B:Int}(b:0≤B):∀{l:List U}{n:Int},(∀x∈l,0≤cz x∧cz x≤B+1)→0≤n→n≤51+B→0≤l.foldl bO n∧l.foldl bO n≤51+B
 | [],n,_,a,h1=>⟨a,h1⟩
 |x::r,n,h,a,h1=>by
  have d:=h x List.mem_cons_self;refine tM b (l:=r) (fun y c=>h y (List.mem_cons_of_mem _ c)) ?_ ?_<;>(unfold bO;split<;>(try split)<;>omega)
theorem zZ:∀u:U,0≤cz u∧cz u≤51*u.dep:=by
 intro u;induction u using U.bc with
 |_ u ih=>
  have b:=u.ql;by_cases h:(under u).k=10
  ·rw[jZ h]
   have c:=tK u;have d:=dp u;have:=tM (B:=51*((u.dep:Int)- 1)) (l:=eU (under u)) (n:=0) zo (fun x a=>by
    have h1:=jY a;have e:=tL a;have:=ih x zo;omega) zo zo
   omega
  ·rw[pW h];omega
end TS
namespace Go.Proofs.YtkochlhejabdcaaGreatDoor
open Go.RowKit TS Tryz
def tN(D:Dl)(dc:Nat)(u:U):Prop:=
 ∀(p:Pm)(pos f:Nat)(a:Option Addr)(c:Nat)(w:World),Pl D.len u pos f→f≤2→f≠0→u.k≠12→u.k≠13→u.dep≤1125899906842624→ai p D u a c→KW p w→
  Xk 143 #[Xd D dc,Xt u a c] w fun e b=>(∃n,e= .returned (.int .i64 n)∧Hid (n=cz u))∧Below w w b
theorem z8{len:Nat}{u:U}{pos f:Nat}(h:Pl len u pos f)(hk:u.k=10):∀x∈eU u,∃pos',Pl len x pos' 2∧x.k≠12:=by
 intro x b;obtain⟨e,he,b⟩:=List.mem_flatMap.1 b;have c:=h.elem hk he;split at b
 ·rename_i a
  obtain⟨i,hi,rfl⟩:=List.getElem_of_mem b;have:=c.part i hi;rw[show aS e i=1 by unfold aS;rw[if_pos a],show aO e i 2=2 by unfold aO;rw[if_pos rfl]]at this;refine⟨1,this,fun d=> ?_⟩;have g:=this.form;cases g<;>first|omega|(rename_i j _ _;omega)
 ·rename_i a
  simp at b;subst b;exact⟨2,c,a⟩
theorem mg{n:Int}(h:50<n):∀l:List U,l.foldl bO n=n
 | []=>rfl
 |x::r=>by rw[List.foldl_cons,show bO n x=n by unfold bO;rw[if_pos h]];exact mg h r
def cv(e:U):List U:=if e.k=12 then e.es else [e]
theorem z_(D:Dl)(dc:Nat):∀u,tN D dc u:=by
 intro u;induction u using U.bc with
 |_ u ih=>
  intro p pos f a c w hP hf Qa Qb Qc hd hu hw;obtain⟨f',QI,QE,T,hk,PU⟩:=hP.under hf Qa Qb Qc;have hC:=fun W J=>f_ p D dc u pos f a c W hP hf Qa Qb Qc hu J;have ae:Up p w (w.alloc (Xt u a c)):=(Up.refl hw).alloc _;have PW:= @jZ u;have PX:= @pW u;have Qd:=tK u;generalize cz u=r at*;generalize under u=v at*;cases bC:v.k==10
  ·have n10:(v.k !=10)=true:=by simp[bne,bC]
   have hF:=zh (PX (by simpa using bC));clear PW PX ih hP T hk PU;go_enter func143,ntmps143;go_wp2_with fail
   refine(hC _ ae.kw).mono ?_;rintro e1 w1 ⟨q,a1,c1,rfl,hg,PY,PN,aa⟩;have Qt:=(ae.step aa).up.alloc (ae.step aa).up.size (Xt v a1 c1);clear hC aa;go_wp2_with fail
   go_ret;exact⟨⟨_,rfl,hF.out.symm⟩,Qt⟩
  ·have n10:(v.k !=10)=false:=by simp[bne,bC]
   have V:v.k=10:=by simpa using bC
   have hF:=zh (PW V);obtain⟨PZ,Qe,h4⟩:=T.form.jm V;have hT:=zh fun x (O:x∈eU v)=>(⟨ih x (Nat.lt_of_lt_of_le (jY O) PU),z8 T V x O,Nat.le_trans (Nat.le_of_lt (Nat.lt_of_lt_of_le (tL O) Qd)) hd⟩:tN D dc x∧(∃pos',Pl D.len x pos' 2∧x.k≠12)∧x.dep≤1125899906842624)
   have P:Hid (eU v=(v.es.drop v.m.toNat).flatMap cv):=rfl;have Qf:=zh fun e he=>(T.elem V (e:=e) he).form;clear PW PX ih hP T hk PU V hd Qd;have Qu:max v.m 0=v.m:=zo;have Qg:v.m≤v.es.length:=zo;go_enter func143,ntmps143;go_wp2_with fail
   refine(hC _ ae.kw).mono ?_;rintro e1 w1 ⟨q,a1,c1,rfl,hg,PY,PN,aa⟩;have P0:=ae.step aa;have X:=PN.cap;have Qh:Up q w (w1.alloc (Xt v a1 c1)):=⟨PY.alloc _,P0.up.alloc P0.up.size _⟩
   have Qv:=X.1;have Qw:=X.2;have P1:v.m.toNat<c1∨c1=v.m.toNat:=zo;clear hC aa X ae P0 PY hg;have Y:=zh Qh;clear Qh;rcases P1 with P1|rfl
   rotate_left
   ·have Qi:v.es.drop v.m.toNat= []:=List.drop_eq_nil_of_le zo
    have hR:Hid (r=0):=by unfold Hid;rw[hF.out,P.out,Qi];rfl
    have hB:=zh Y.out.up;clear Qi hF P hT Qf;go_wp2_with fail
    refine wp_loop_rounds 1 ?_;rw[rounds_succ];go_wp2_with fail
    go_ret;exact⟨⟨_,rfl,hR.out.symm⟩,hB.out⟩
   go_wp2_with fail
   have hL:=PN.list.cut _ Qe;have hlen:(v.es.drop v.m.toNat).length=v.es.length- v.m.toNat:=zs;have QF:v.es.length- v.m.toNat≤4:=zo;clear Qu Qg PZ Qe h4 Qv Qw P1 PN;generalize Option.map (fun x=>Addr.add x (v.m.toNat*7)) a1=a2 at*;generalize v.es.length- v.m.toNat=n2 at*;generalize c1- v.m.toNat=c2 at*;generalize eU v=tl at*;generalize v.es.drop v.m.toNat=ds at*;subst hlen;go_loopw [6,24] (fun s i wr=> ∃(k:Nat)(n:Int),k≤ds.length∧i= .int .i64 k∧s= .int .i64 n∧0≤n∧n≤576460752303423488∧n=((ds.take k).flatMap cv).foldl bO 0∧Up q w wr) (fun _ i _=>ds.length- (intOf i).toNat)
   case atStart=>exact⟨0,0,Nat.zero_le _,rfl,rfl,by omega,by omega,rfl,Y.out⟩
   case round=>
    clear Y;obtain⟨k,n,hk,rfl,rfl,Qx,Qy,hn,hU⟩:=hrel;have Z:=zh hn;clear hn;by_cases PO:k<ds.length
    ·obtain⟨b,o,rfl⟩:=hL.bg zo
     obtain⟨a',c',h7,PG⟩:=hL.get k PO;have Q:Hid ((ds.take (k+1)).flatMap cv=(ds.take k).flatMap cv++cv ds[k]):=by
      unfold Hid;rw[List.take_succ_eq_append_getElem PO,List.flatMap_append];simp
     have K:Hid (ds.flatMap cv=(ds.take k).flatMap cv++cv ds[k]++(ds.drop (k+1)).flatMap cv):=by
      unfold Hid;rw[←Q.out,←List.flatMap_append,List.take_append_drop]
     have R:=zh fun x (O:x∈cv ds[k])=>hT.out x (by rw[P.out];exact List.mem_flatMap.2 ⟨_,zm PO,O⟩);have P2:=Qf.out ds[k] (zm PO);obtain⟨e,he⟩:∃e,e=ds[k]:=⟨_,rfl⟩
     rw[←he]at h7 PG Q K R P2;clear he;obtain⟨g0,g1,g2,g3,g4,g5,g6⟩:TS.C7 wr b (o+k*7) e a' c':=h7.world hU.kw;clear h7;have QG:(k:Int)<ds.length:=zo;have PQ:=hU.alloc (Xt e a' c');have PH:=PQ.alloc (Xt e a' c');have PI:=PG.cap;have key:∀(M:Pm)(W:World)(ts:List U)(a3:Option Addr)(n3 c3:Nat),n3=ts.length→ts=cv e→aq M D ts a3→Up M w W→Sub q M→Hid (Up M w W∧aq M D ts a3∧n3=ts.length∧ts=cv e∧Sub q M):=fun _ _ _ _ _ _ h1 h2 h3 h4 h5=>⟨h4,h3,h1,h2,h5⟩
     have PS:∀x∈cv e,0≤cz x∧cz x≤57420895248973824:=fun x O=>by
      have h1:=zZ x;have h2:=(R.out x O).2.2;omega
     have F:=zh PS;have N:(cv e).length≤1048576:=by
      unfold cv;split
      ·omega
      ·simp
     clear PS;obtain⟨wo,P3⟩:∃wo:World,wo=wr:=⟨_,rfl⟩
     rw[←P3]at hU PQ PH g0 g1 g2 g3 g4 g5 g6;rw[←P3];clear P3 wr;cases P4:e.k==12
     ·have B:cv e= [e]:=by unfold cv;rw[if_neg (by simpa using P4)]
      have QH:e.k≠12:=by simpa using P4
      have d:Hid (((ds.take (k+1)).flatMap cv).foldl bO 0=bO n e):=by
       unfold Hid;rw[Q.out,B,List.foldl_append,←Z.out];rfl
      have g:Hid (50<n→n=r):=fun h=>by
       rw[hF.out,P.out,K.out,List.foldl_append,List.foldl_append,←Z.out,mg h,mg h]
      obtain⟨A,⟨L,t,E⟩,PR⟩:=R.out e (by rw[B];simp);obtain⟨Qj,Qk⟩:=F.out e (by rw[B];simp);have l:=zh (PH.alloc (Xt e a' c'));clear key B hU PQ PH PI Q K R F P2 N;by_cases h:50<n
      ·have hR:=zh (g.out h)
       have t50:decide (50<n)=true:=by simp[h]
       have hB:=zh l.out.up;clear d g A t;go_wp2_with fail
       refine wp_loop_rounds 2 ?_;rw[rounds_succ];go_wp2_with fail
       go_ret;exact⟨⟨_,rfl,hR.out⟩,hB.out⟩
      have t50:decide (50<n)=false:=zp;have n50:n≤50:=zo;cases G:e.k==13
      case true=>
       have hA:Hid (n+1=((ds.take (k+1)).flatMap cv).foldl bO 0):=by unfold Hid;rw[d.out,bO,if_neg h,G];rfl
       clear d g A t h;go_wp2_with fail
       refine wp_loop_rounds 2 ?_;rw[rounds_succ];go_wp2_with fail
       rw[rounds_succ];go_wp2_with fail
       go_roundw
       case rel=>exact⟨k+1,n+1,by omega,by go_num,rfl,by omega,by omega,hA.out,l.out⟩
       case measure=>simp only[intOf];omega
      have y:e.k≠13:=by simpa using G
      have hI:=fun W J=>fM q D dc e L 2 a' c' W t zo zo E y PG J;cases hi:isIface e
      ·have C:=fun W J=>aT (hI W J) hi
       have hA:Hid (n+1=((ds.take (k+1)).flatMap cv).foldl bO 0):=by unfold Hid;rw[d.out,bO,if_neg h,G,hi];rfl
       clear d g A t h hI hi y;go_wp2_with fail
       refine wp_loop_rounds 2 ?_;rw[rounds_succ];go_wp2_with fail
       refine(C _ l.out.kw).mono ?_;rintro e1 w3 ⟨rfl,z⟩;have H:=zh (l.out.step z);clear z C;go_wp2_with fail
       rw[rounds_succ];go_wp2_with fail
       go_roundw
       case rel=>exact⟨k+1,n+1,by omega,by go_num,rfl,by omega,by omega,hA.out,H.out⟩
       case measure=>simp only[intOf];omega
      ·have C:=fun W J=>aT (hI W J) hi
       have hA:Hid (n+cz e=((ds.take (k+1)).flatMap cv).foldl bO 0):=by unfold Hid;rw[d.out,bO,if_neg h,G,hi];rfl
       have PJ:=fun W (J:KW q W)=>A q L 2 a' c' W t zo zo E y PR PG J;clear d g A t h hI hi y;generalize cz e=wx at*;go_wp2_with fail
       refine wp_loop_rounds 2 ?_;rw[rounds_succ];go_wp2_with fail
       refine(C _ l.out.kw).mono ?_;rintro e1 w3 ⟨rfl,z⟩;have H:=zh (l.out.step z);obtain⟨y0,y1,y2,y3,y4,y5,y6⟩:TS.L7 w3 (wo.heap.size+1+1) e a' c':=by
        repeat' apply And.intro
        all_goals exact cell_kept z zq
       clear z C;go_wp2_with fail
       refine(PJ _ H.out.kw).mono ?_;rintro e1 w4 ⟨⟨nx,rfl,P5⟩,PK⟩;have PL:=P5.out;subst PL;have P6:=zh (H.out.step PK);clear PK PJ;go_wp2_with fail
       rw[rounds_succ];go_wp2_with fail
       go_roundw
       case rel=>exact⟨k+1,n+nx,by omega,by go_num,rfl,by omega,by omega,hA.out,P6.out⟩
       case measure=>simp only[intOf];omega
     ·have B:cv e=e.es:=by unfold cv;rw[if_pos (by simpa using P4)]
      have Ql:=key q _ e.es a' e.es.length c' rfl B.symm PG.list PH (.refl _);obtain⟨M,hX⟩:∃M,Hid (Up M w ((wo.alloc (Xt e a' c')).alloc (Xt e a' c'))∧aq M D e.es a'∧e.es.length=e.es.length∧e.es=cv e∧Sub q M):=⟨q,Ql⟩
      clear Ql;clear key B hU PQ PH PI;go_wp2_with fail
      obtain⟨Qm,Qn,_,S,Qo⟩:=hX.out;have PT:=zh Qm;have P7:Hid (ds.flatMap cv=(ds.take k).flatMap cv++e.es++(ds.drop (k+1)).flatMap cv):=by unfold Hid;rw[S];exact K.out
      have Qp:Hid ((ds.take (k+1)).flatMap cv=(ds.take k).flatMap cv++e.es):=by unfold Hid;rw[S];exact Q.out
      have P8:=zh fun x (O:x∈e.es)=>F.out x (by rw[←S];exact O);have Qz:=zh fun x (O:x∈e.es)=>R.out x (by rw[←S];exact O);have QA:((e.es.length:Nat):Int)≤1048576:=by have:=N;rw[←S]at this;simp at this⊢ <;>omega
      have Qq:=zh Qo;clear hX S Qo Qm K Q F R N P2;go_loopw [6,11,37] (fun s _ i W=> ∃(j:Nat)(m:Int),j≤e.es.length∧i= .int .i64 j∧s= .int .i64 m∧0≤m∧m≤576460752303423488∧m=(e.es.take j).foldl bO n∧Up M w W) (fun _ _ i _=>e.es.length- (intOf i).toNat)
      case atStart=>exact⟨0,n,Nat.zero_le _,rfl,rfl,Qx,Qy,rfl,PT.out⟩
      case round=>
       clear PT;obtain⟨j,m,hj,rfl,rfl,PZ,QB,hm,PM⟩:=hrel;have P9:=zh hm;clear hm;by_cases Qr:j<e.es.length
       ·have I:j<e.es.length:=by simpa using Qr
        obtain⟨b3,o3,rfl⟩:=Qn.bg zo;obtain⟨a5,c5,h7,P_⟩:=Qn.get j I;have d:Hid ((e.es.take (j+1)).foldl bO n=bO m e.es[j]):=by
         unfold Hid;rw[List.take_succ_eq_append_getElem I,List.foldl_append,←P9.out];rfl
        have g:Hid (50<m→m=r):=fun h=>by
         have e1:ds.flatMap cv=(ds.take k).flatMap cv++e.es.take j++(e.es.drop j++(ds.drop (k+1)).flatMap cv):=by
          rw[P7.out];conv=>lhs;rw[←List.take_append_drop j e.es]
          simp only[List.append_assoc]
         rw[hF.out,P.out,e1];simp only[List.foldl_append];rw[←Z.out,←P9.out,mg h,mg h]
        obtain⟨A,⟨L,t,E⟩,PR⟩:=Qz.out _ (zm I);obtain⟨Qj,Qk⟩:=P8.out _ (zm I);obtain⟨x,O⟩:∃x,x=e.es[j]:=⟨_,rfl⟩
        rw[←O]at h7 P_ d A t E PR Qj Qk;clear O;obtain⟨z0,z1,z2,z3,z4,z5,z6⟩:TS.C7 wr b3 (o3+j*7) x a5 c5:=h7.world PM.kw;clear h7;have QC:(j:Int)<e.es.length:=zo;have Qs:=PM.alloc (Xt x a5 c5);have l:=zh Qs;clear Qs;by_cases h:50<m
        ·have hR:=zh (g.out h)
         have t50:decide (50<m)=true:=by simp[h]
         have hB:=zh l.out.up;clear d g A t;go_wp2_with fail
         go_ret;exact⟨⟨_,rfl,hR.out⟩,hB.out⟩
        have t50:decide (50<m)=false:=zp;have n50:m≤50:=zo;cases G:x.k==13
        case true=>
         have hA:Hid (m+1=(e.es.take (j+1)).foldl bO n):=by unfold Hid;rw[d.out,bO,if_neg h,G];rfl
         clear d g A t h;go_wp2_with fail
         go_roundw
         case rel=>exact⟨j+1,m+1,by omega,by go_num,rfl,by omega,by omega,hA.out,l.out⟩
         case measure=>simp only[intOf];omega
        have y:x.k≠13:=by simpa using G
        have hI:=fun W J=>fM M D dc x L 2 a5 c5 W t zo zo E y P_ J;cases hi:isIface x
        ·have C:=fun W J=>aT (hI W J) hi
         have hA:Hid (m+1=(e.es.take (j+1)).foldl bO n):=by unfold Hid;rw[d.out,bO,if_neg h,G,hi];rfl
         clear d g A t h hI hi y;go_wp2_with fail
         refine(C _ l.out.kw).mono ?_;rintro e1 w3 ⟨rfl,z⟩;have H:=zh (l.out.step z);clear z C;go_wp2_with fail
         go_roundw
         case rel=>exact⟨j+1,m+1,by omega,by go_num,rfl,by omega,by omega,hA.out,H.out⟩
         case measure=>simp only[intOf];omega
        ·have C:=fun W J=>aT (hI W J) hi
         have hA:Hid (m+cz x=(e.es.take (j+1)).foldl bO n):=by unfold Hid;rw[d.out,bO,if_neg h,G,hi];rfl
         have PJ:=fun W (J:KW M W)=>A M L 2 a5 c5 W t zo zo E y PR P_ J;clear d g A t h hI hi y;generalize cz x=wx at*;go_wp2_with fail
         refine(C _ l.out.kw).mono ?_;rintro e1 w3 ⟨rfl,z⟩;have H:=zh (l.out.step z);obtain⟨y0,y1,y2,y3,y4,y5,y6⟩:TS.L7 w3 wr.heap.size x a5 c5:=by
          repeat' apply And.intro
          all_goals exact cell_kept z zq
         clear z C;go_wp2_with fail
         refine(PJ _ H.out.kw).mono ?_;rintro e1 w4 ⟨⟨nx,rfl,P5⟩,PK⟩;have PL:=P5.out;subst PL;have P6:=zh (H.out.step PK);clear PK PJ;go_wp2_with fail
         go_roundw
         case rel=>exact⟨j+1,m+nx,by omega,by go_num,rfl,by omega,by omega,hA.out,P6.out⟩
         case measure=>simp only[intOf];omega
       ·have hM:Hid (m=((ds.take (k+1)).flatMap cv).foldl bO 0):=by
         unfold Hid;rw[Qp.out,List.foldl_append,←Z.out,P9.out,List.take_of_length_le (by first|omega|(simp;omega))]
        have QD:=zh (⟨PM.kw.sub Qq.out,PM.up⟩:Up q w wr);clear PM;go_wp2_with fail
        go_roundw
        case rel=>exact⟨k+1,m,by omega,by go_num,rfl,PZ,QB,hM.out,QD.out⟩
        case measure=>simp only[intOf];omega
    ·have hR:Hid (n=r):=by unfold Hid;rw[Z.out,hF.out,P.out,List.take_of_length_le zo]
     have hB:=hU.up;go_wp2_with fail
     go_ret;exact⟨⟨_,rfl,hR.out⟩,hB⟩
end Go.Proofs.YtkochlhejabdcaaGreatDoor
