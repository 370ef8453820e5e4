import Derived.Outline
import Derived.Test.YtkfaiocajcjomaaGreatDoorYao
set_option maxRecDepth 100000
set_option maxHeartbeats 8000000
set_option linter.all false
namespace TS
def U.dep(u:U):Nat:=(u.es.attach.foldl (fun n ⟨e,_⟩=>max n (U.dep e)) (u.un.attach.foldl (fun n ⟨e,_⟩=>max n (U.dep e)) 0))+1
termination_by u.sz
decreasing_by
 ·exact U.az ‹_›
 ·exact U.iU ‹_›
theorem mh{α:Type}(f:α→Nat):∀(l:List α)(n:Nat),n≤l.foldl (fun n e=>max n (f e)) n∧∀e∈l,f e≤l.foldl (fun n e=>max n (f e)) n
 | [],n=>⟨Nat.le_refl _,fun e he=>by cases he⟩
 |a::r,n=>by
  have:=mh f r (max n (f a));refine⟨by have:=this.1;simp only[List.foldl_cons];omega,fun e he=> ?_⟩;rcases List.mem_cons.1 he with rfl|he
  ·have:=this.1;simp only[List.foldl_cons];omega
  ·exact this.2 e he
theorem U.kJ(u:U):u.dep=(u.es.foldl (fun n e=>max n e.dep) (u.un.foldl (fun n e=>max n e.dep) 0))+1:=by
 rw[U.dep];congr 1;rw[←List.foldl_attach (l:=u.es) (f:=fun n e=>max n e.dep),←List.foldl_attach (l:=u.un) (f:=fun n e=>max n e.dep)]
theorem U.kK{u e:U}(h:e∈u.es):e.dep<u.dep:=by
 rw[U.kJ u];have:=(mh U.dep u.es (u.un.foldl (fun n e=>max n e.dep) 0)).2 e h;omega
theorem U.xA{u e:U}(h:e∈u.un):e.dep<u.dep:=by
 rw[U.kJ u];have h1:=(mh U.dep u.es (u.un.foldl (fun n e=>max n e.dep) 0)).1;have h2:=(mh U.dep u.un 0).2 e h;omega
theorem U.oB(u:U):1≤u.dep:=by rw[U.kJ];omega
theorem xB:∀u:U,(bare u).dep≤u.dep:=by
 intro u;induction u using U.bg with
 |_ u ih=>
  rw[bare];split
  ·split
   ·rename_i e r he
    have h1:=U.kK (u:=u) (e:=e) (by rw[he];simp);have:=ih e (U.az (by rw[he];simp));omega
   ·exact Nat.le_refl _
  ·split
   ·have:bw.dep=1:=by rw[U.kJ];rfl
    have:=u.oB;omega
   ·exact Nat.le_refl _
theorem rI(u:U):(under u).dep≤u.dep:=by
 have a:=xB u;rw[under];split
 ·cases b:(bare u).un with
  |nil=>exact a
  |cons x r=>have:=U.xA (u:=bare u) (e:=x) (by rw[b];simp);simp;omega
 ·exact a
theorem rJ{u x:U}(h:x∈eA u):x.dep<u.dep:=by
 obtain⟨e,he,a⟩:=List.mem_flatMap.1 h;have h1:=U.kK (List.mem_of_mem_drop he);split at a
 ·have:=U.kK a;omega
 ·simp at a;subst a;exact h1
theorem rK{B:Int}(b:0≤B):∀{l:List U}{n:Int},(∀x∈l,0≤cj x∧cj x≤B+1)→0≤n→n≤51+B→0≤l.foldl bG n∧l.foldl bG n≤51+B
 | [],n,_,a,h1=>⟨a,h1⟩
 |x::r,n,h,a,h1=>by
  have d:=h x List.mem_cons_self;refine rK b (l:=r) (fun y c=>h y (List.mem_cons_of_mem _ c)) ?_ ?_<;>(unfold bG;split<;>(try split)<;>omega)
theorem xC:∀u:U,0≤cj u∧cj u≤51*u.dep:=by
 intro u;induction u using U.bg with
 |_ u ih=>
  have b:=u.oB;by_cases h:(under u).k=10
  ·rw[lL h]
   have c:=rI u;have h2:=dn u;have:=rK (B:=51*((u.dep:Int)- 1)) (l:=eA (under u)) (n:=0) (by omega) (fun x a=>by
    have h1:=iY a;have h3:=rJ a;have:=ih x (by omega);omega) (by omega) (by omega)
   omega
  ·rw[nM h];omega
end TS
namespace Go.Proofs.YtkfaiocajcjomaaGreatDoor
open Go.RowKit TS
def rL(D:Dl)(dc:Nat)(u:U):Prop:=
 ∀(p:Pm)(pos f:Nat)(a:Option Addr)(c:Nat)(w:World),Pl D.len u pos f→f≤2→f≠0→u.k≠12→u.k≠13→u.dep≤1125899906842624→aj p D u a c→KW p w→
  Calls Tryz.prog 101 #[.slice D.a D.len dc,.agg #[.int .i64 u.k,.int .i64 u.n,.int .i64 u.m,.bool u.v,.string u.nm,.string u.tg,.slice a u.es.length c]] w fun e b=>(∃n,e= .returned (.int .i64 n)∧Hid (n=cj u))∧Below w.heap.size w b
theorem xD{len:Nat}{u:U}{pos f:Nat}(h:Pl len u pos f)(hk:u.k=10):∀x∈eA u,∃pos',Pl len x pos' 2∧x.k≠12:=by
 intro x b;obtain⟨e,he,b⟩:=List.mem_flatMap.1 b;have c:=h.elem hk he;split at b
 ·rename_i a
  obtain⟨i,hi,rfl⟩:=List.getElem_of_mem b;have:=c.part i hi;rw[show aS e i=1 by unfold aS;rw[if_pos a],show aJ e i 2=2 by unfold aJ;rw[if_pos rfl]]at this;refine⟨1,this,fun d=> ?_⟩;have g:=this.form;cases g<;>first|omega|(rename_i j _ _;omega)
 ·rename_i a
  simp at b;subst b;exact⟨2,c,a⟩
theorem kL{n:Int}(h:50<n):∀l:List U,l.foldl bG n=n
 | []=>rfl
 |x::r=>by rw[List.foldl_cons,show bG n x=n by unfold bG;rw[if_pos h]];exact kL h r
def bX(e:U):List U:=if e.k=12 then e.es else [e]
theorem xE(D:Dl)(dc:Nat):∀u,rL D dc u:=by
 intro u;induction u using U.bg with
 |_ u ih=>
  intro p pos f a c w hP hf Qw Qx Qy hd hu hw;obtain⟨f',Q7,Q3,V,hk,Qg⟩:=hP.under hf Qw Qx Qy;have hC:=fun W J=>gA p D dc u pos f a c W hP hf Qw Qx Qy hu J;have ag:Up p w (w.alloc (.cells #[.int .i64 u.k,.int .i64 u.n,.int .i64 u.m,.bool u.v,.string u.nm,.string u.tg,.slice a u.es.length c] 25)):=(Up.refl hw).alloc _;have Qh:= @lL u;have Qi:= @nM u;have Qz:=rI u;generalize cj u=r at*;generalize under u=v at*;cases bz:v.k==10
  ·have n10:(v.k !=10)=true:=by simp[bne,bz]
   have hF:=Lib.hid (Qi (by simpa using bz));clear Qh Qi ih hP V hk Qg;go_enter Tryz.func101,Tryz.ntmps101;go_wp2_with fail
   refine(hC _ ag.kw).mono ?_;rintro e1 w1 ⟨q,a1,c1,rfl,hg,Qj,Qa,aa⟩;have QP:=(ag.step aa).up.alloc (ag.step aa).up.size (.cells #[.int .i64 v.k,.int .i64 v.n,.int .i64 v.m,.bool v.v,.string v.nm,.string v.tg,.slice a1 v.es.length c1] 25);clear hC aa;go_wp2_with fail
   go_ret;exact⟨⟨_,rfl,hF.out.symm⟩,QP⟩
  ·have n10:(v.k !=10)=false:=by simp[bne,bz]
   have X:v.k=10:=by simpa using bz
   have hF:=Lib.hid (Qh X);obtain⟨Qk,QA,h4⟩:=V.form.jh X;have hT:=Lib.hid fun x (P:x∈eA v)=>(⟨ih x (Nat.lt_of_lt_of_le (iY P) Qg),xD V X x P,Nat.le_trans (Nat.le_of_lt (Nat.lt_of_lt_of_le (rJ P) Qz)) hd⟩:rL D dc x∧(∃pos',Pl D.len x pos' 2∧x.k≠12)∧x.dep≤1125899906842624)
   have Q:Hid (eA v=(v.es.drop v.m.toNat).flatMap bX):=rfl;have QB:=Lib.hid fun e he=>(V.elem X (e:=e) he).form;clear Qh Qi ih hP V hk Qg X hd Qz;have QQ:max v.m 0=v.m:=by omega
   have QC:v.m≤v.es.length:=by omega
   go_enter Tryz.func101,Tryz.ntmps101;go_wp2_with fail
   refine(hC _ ag.kw).mono ?_;rintro e1 w1 ⟨q,a1,c1,rfl,hg,Qj,Qa,aa⟩;have Ql:=ag.step aa;have Y:=Qa.cap;have QD:Up q w (w1.alloc (.cells #[.int .i64 v.k,.int .i64 v.n,.int .i64 v.m,.bool v.v,.string v.nm,.string v.tg,.slice a1 v.es.length c1] 25)):=⟨Qj.alloc _,Ql.up.alloc Ql.up.size _⟩
   have QR:=Y.1;have QS:=Y.2;have Qm:v.m.toNat<c1∨c1=v.m.toNat:=by omega
   clear hC aa Y ag Ql Qj hg;have Z:=Lib.hid QD;clear QD;rcases Qm with Qm|rfl
   rotate_left
   ·have QE:v.es.drop v.m.toNat= []:=List.drop_eq_nil_of_le (by omega)
    have hR:Hid (r=0):=by unfold Hid;rw[hF.out,Q.out,QE];rfl
    have hB:=Lib.hid Z.out.up;clear QE hF Q hT QB;go_wp2_with fail
    refine wp_loop_rounds 1 ?_;rw[rounds_succ];go_wp2_with fail
    go_ret;exact⟨⟨_,rfl,hR.out.symm⟩,hB.out⟩
   go_wp2_with fail
   have hL:=Qa.list.cut _ QA;have hlen:(v.es.drop v.m.toNat).length=v.es.length- v.m.toNat:=by simp
   have Q4:v.es.length- v.m.toNat≤4:=by omega
   clear QQ QC Qk QA h4 QR QS Qm Qa;generalize Option.map (fun x=>Addr.add x (v.m.toNat*7)) a1=a2 at*;generalize v.es.length- v.m.toNat=n2 at*;generalize c1- v.m.toNat=c2 at*;generalize eA v=tl at*;generalize v.es.drop v.m.toNat=ds at*;subst hlen;go_loopw [6,24] (fun s i wr=> ∃(k:Nat)(n:Int),k≤ds.length∧i= .int .i64 k∧s= .int .i64 n∧0≤n∧n≤576460752303423488∧n=((ds.take k).flatMap bX).foldl bG 0∧Up q w wr) (fun _ i _=>ds.length- (intOf i).toNat)
   case atStart=>exact⟨0,0,Nat.zero_le _,rfl,rfl,by omega,by omega,rfl,Z.out⟩
   case round=>
    clear Z;obtain⟨k,n,hk,rfl,rfl,QT,QU,hn,hU⟩:=hrel;have P3:=Lib.hid hn;clear hn;by_cases Qb:k<ds.length
    ·obtain⟨b,o,rfl⟩:=hL.bC (by omega)
     obtain⟨a',c',h7,P4⟩:=hL.get k Qb;have R:Hid ((ds.take (k+1)).flatMap bX=(ds.take k).flatMap bX++bX ds[k]):=by
      unfold Hid;rw[List.take_succ_eq_append_getElem Qb,List.flatMap_append];simp
     have K:Hid (ds.flatMap bX=(ds.take k).flatMap bX++bX ds[k]++(ds.drop (k+1)).flatMap bX):=by
      unfold Hid;rw[←R.out,←List.flatMap_append,List.take_append_drop]
     have S:=Lib.hid fun x (P:x∈bX ds[k])=>hT.out x (by rw[Q.out];exact List.mem_flatMap.2 ⟨_,List.getElem_mem Qb,P⟩);have Qn:=QB.out ds[k] (List.getElem_mem Qb);obtain⟨e,he⟩:∃e,e=ds[k]:=⟨_,rfl⟩
     rw[←he]at h7 P4 R K S Qn;clear he;obtain⟨g0,g1,g2,g3,g4,g5,g6⟩:(wr.cell? ⟨b,o+k*7,none⟩=some (.int .i64 e.k)∧wr.cell? ⟨b,o+k*7+1,none⟩=some (.int .i64 e.n)∧wr.cell? ⟨b,o+k*7+2,none⟩=some (.int .i64 e.m)∧wr.cell? ⟨b,o+k*7+3,none⟩=some (.bool e.v)∧wr.cell? ⟨b,o+k*7+4,none⟩=some (.string e.nm)∧wr.cell? ⟨b,o+k*7+5,none⟩=some (.string e.tg)∧wr.cell? ⟨b,o+k*7+6,none⟩=some (.slice a' e.es.length c')):=h7.world hU.kw;clear h7;have Q5:(k:Int)<ds.length:=by omega
     have Qc:=hU.alloc (.cells #[.int .i64 e.k,.int .i64 e.n,.int .i64 e.m,.bool e.v,.string e.nm,.string e.tg,.slice a' e.es.length c'] 25);have P5:=Qc.alloc (.cells #[.int .i64 e.k,.int .i64 e.n,.int .i64 e.m,.bool e.v,.string e.nm,.string e.tg,.slice a' e.es.length c'] 25);have P6:=P4.cap;have key:∀(N:Pm)(W:World)(ts:List U)(a3:Option Addr)(n3 c3:Nat),n3=ts.length→ts=bX e→au N D ts a3→Up N w W→Sub q N→Hid (Up N w W∧au N D ts a3∧n3=ts.length∧ts=bX e∧Sub q N):=fun _ _ _ _ _ _ h1 h2 h3 h4 h5=>⟨h4,h3,h1,h2,h5⟩
     have Qe:∀x∈bX e,0≤cj x∧cj x≤57420895248973824:=fun x P=>by
      have h1:=xC x;have h2:=(S.out x P).2.2;omega
     have F:=Lib.hid Qe;have O:(bX e).length≤1048576:=by
      unfold bX;split
      ·omega
      ·simp
     clear Qe;obtain⟨wo,Qo⟩:∃wo:World,wo=wr:=⟨_,rfl⟩
     rw[←Qo]at hU Qc P5 g0 g1 g2 g3 g4 g5 g6;rw[←Qo];clear Qo wr;cases Qp:e.k==12
     ·have B:bX e= [e]:=by unfold bX;rw[if_neg (by simpa using Qp)]
      have Q6:e.k≠12:=by simpa using Qp
      have d:Hid (((ds.take (k+1)).flatMap bX).foldl bG 0=bG n e):=by
       unfold Hid;rw[R.out,B,List.foldl_append,←P3.out];rfl
      have g:Hid (50<n→n=r):=fun h=>by
       rw[hF.out,Q.out,K.out,List.foldl_append,List.foldl_append,←P3.out,kL h,kL h]
      obtain⟨A,⟨L,t,E⟩,Qd⟩:=S.out e (by rw[B];simp);obtain⟨QF,QG⟩:=F.out e (by rw[B];simp);have l:=Lib.hid (P5.alloc (.cells #[.int .i64 e.k,.int .i64 e.n,.int .i64 e.m,.bool e.v,.string e.nm,.string e.tg,.slice a' e.es.length c'] 25));clear key B hU Qc P5 P6 R K S F Qn O;by_cases h:50<n
      ·have hR:=Lib.hid (g.out h)
       have t50:decide (50<n)=true:=by simp[h]
       have hB:=Lib.hid l.out.up;clear d g A t;go_wp2_with fail
       refine wp_loop_rounds 2 ?_;rw[rounds_succ];go_wp2_with fail
       go_ret;exact⟨⟨_,rfl,hR.out⟩,hB.out⟩
      have t50:decide (50<n)=false:=by simp;omega
      have n50:n≤50:=by omega
      cases G:e.k==13
      case true=>
       have hA:Hid (n+1=((ds.take (k+1)).flatMap bX).foldl bG 0):=by unfold Hid;rw[d.out,bG,if_neg h,G];rfl
       clear d g A t h;go_wp2_with fail
       refine wp_loop_rounds 2 ?_;rw[rounds_succ];go_wp2_with fail
       rw[rounds_succ];go_wp2_with fail
       go_roundw
       case rel=>exact⟨k+1,n+1,by omega,by go_num,rfl,by omega,by omega,hA.out,l.out⟩
       case measure=>simp only[intOf];omega
      have y:e.k≠13:=by simpa using G
      have hI:=fun W J=>e_ q D dc e L 2 a' c' W t (by omega) (by omega) E y P4 J;cases hi:isIface e
      ·have C:=fun W J=>aM (hI W J) hi
       have hA:Hid (n+1=((ds.take (k+1)).flatMap bX).foldl bG 0):=by unfold Hid;rw[d.out,bG,if_neg h,G,hi];rfl
       clear d g A t h hI hi y;go_wp2_with fail
       refine wp_loop_rounds 2 ?_;rw[rounds_succ];go_wp2_with fail
       refine(C _ l.out.kw).mono ?_;rintro e1 M ⟨rfl,z⟩;have H:=Lib.hid (l.out.step z);clear z C;go_wp2_with fail
       rw[rounds_succ];go_wp2_with fail
       go_roundw
       case rel=>exact⟨k+1,n+1,by omega,by go_num,rfl,by omega,by omega,hA.out,H.out⟩
       case measure=>simp only[intOf];omega
      ·have C:=fun W J=>aM (hI W J) hi
       have hA:Hid (n+cj e=((ds.take (k+1)).flatMap bX).foldl bG 0):=by unfold Hid;rw[d.out,bG,if_neg h,G,hi];rfl
       have P7:=fun W (J:KW q W)=>A q L 2 a' c' W t (by omega) (by omega) E y Qd P4 J;clear d g A t h hI hi y;generalize cj e=wx at*;go_wp2_with fail
       refine wp_loop_rounds 2 ?_;rw[rounds_succ];go_wp2_with fail
       refine(C _ l.out.kw).mono ?_;rintro e1 M ⟨rfl,z⟩;have H:=Lib.hid (l.out.step z);obtain⟨y0,y1,y2,y3,y4,y5,y6⟩:(M.cell? ⟨wo.heap.size+1+1,0,none⟩=some (.int .i64 e.k)∧M.cell? ⟨wo.heap.size+1+1,1,none⟩=some (.int .i64 e.n)∧M.cell? ⟨wo.heap.size+1+1,2,none⟩=some (.int .i64 e.m)∧M.cell? ⟨wo.heap.size+1+1,3,none⟩=some (.bool e.v)∧M.cell? ⟨wo.heap.size+1+1,4,none⟩=some (.string e.nm)∧M.cell? ⟨wo.heap.size+1+1,5,none⟩=some (.string e.tg)∧M.cell? ⟨wo.heap.size+1+1,6,none⟩=some (.slice a' e.es.length c')):=by
        repeat' apply And.intro
        all_goals exact cell_kept z (by first|(simp[go_sem];done)|(go_keep;done))
       clear z C;go_wp2_with fail
       refine(P7 _ H.out.kw).mono ?_;rintro e1 w4 ⟨⟨nx,rfl,Qq⟩,P8⟩;have P9:=Qq.out;subst P9;have Qr:=Lib.hid (H.out.step P8);clear P8 P7;go_wp2_with fail
       rw[rounds_succ];go_wp2_with fail
       go_roundw
       case rel=>exact⟨k+1,n+nx,by omega,by go_num,rfl,by omega,by omega,hA.out,Qr.out⟩
       case measure=>simp only[intOf];omega
     ·have B:bX e=e.es:=by unfold bX;rw[if_pos (by simpa using Qp)]
      have QH:=key q _ e.es a' e.es.length c' rfl B.symm P4.list P5 (.refl _);obtain⟨N,hX⟩:∃N,Hid (Up N w ((wo.alloc (.cells #[.int .i64 e.k,.int .i64 e.n,.int .i64 e.m,.bool e.v,.string e.nm,.string e.tg,.slice a' e.es.length c'] 25)).alloc (.cells #[.int .i64 e.k,.int .i64 e.n,.int .i64 e.m,.bool e.v,.string e.nm,.string e.tg,.slice a' e.es.length c'] 25))∧au N D e.es a'∧e.es.length=e.es.length∧e.es=bX e∧Sub q N):=⟨q,QH⟩
      clear QH;clear key B hU Qc P5 P6;go_wp2_with fail
      obtain⟨QI,QJ,_,T,QK⟩:=hX.out;have Qf:=Lib.hid QI;have Qs:Hid (ds.flatMap bX=(ds.take k).flatMap bX++e.es++(ds.drop (k+1)).flatMap bX):=by unfold Hid;rw[T];exact K.out
      have QL:Hid ((ds.take (k+1)).flatMap bX=(ds.take k).flatMap bX++e.es):=by unfold Hid;rw[T];exact R.out
      have Qt:=Lib.hid fun x (P:x∈e.es)=>F.out x (by rw[←T];exact P);have QV:=Lib.hid fun x (P:x∈e.es)=>S.out x (by rw[←T];exact P);have QW:((e.es.length:Nat):Int)≤1048576:=by have:=O;rw[←T]at this;simp at this⊢ <;>omega
      have QM:=Lib.hid QK;clear hX T QK QI K R F S O Qn;go_loopw [6,11,37] (fun s _ i W=> ∃(j:Nat)(m:Int),j≤e.es.length∧i= .int .i64 j∧s= .int .i64 m∧0≤m∧m≤576460752303423488∧m=(e.es.take j).foldl bG n∧Up N w W) (fun _ _ i _=>e.es.length- (intOf i).toNat)
      case atStart=>exact⟨0,n,Nat.zero_le _,rfl,rfl,QT,QU,rfl,Qf.out⟩
      case round=>
       clear Qf;obtain⟨j,m,hj,rfl,rfl,Qk,QX,hm,P_⟩:=hrel;have Qu:=Lib.hid hm;clear hm;by_cases QN:j<e.es.length
       ·have I:j<e.es.length:=by simpa using QN
        obtain⟨b3,o3,rfl⟩:=QJ.bC (by omega);obtain⟨a5,c5,h7,Qv⟩:=QJ.get j I;have d:Hid ((e.es.take (j+1)).foldl bG n=bG m e.es[j]):=by
         unfold Hid;rw[List.take_succ_eq_append_getElem I,List.foldl_append,←Qu.out];rfl
        have g:Hid (50<m→m=r):=fun h=>by
         have e1:ds.flatMap bX=(ds.take k).flatMap bX++e.es.take j++(e.es.drop j++(ds.drop (k+1)).flatMap bX):=by
          rw[Qs.out];conv=>lhs;rw[←List.take_append_drop j e.es]
          simp only[List.append_assoc]
         rw[hF.out,Q.out,e1];simp only[List.foldl_append];rw[←P3.out,←Qu.out,kL h,kL h]
        obtain⟨A,⟨L,t,E⟩,Qd⟩:=QV.out _ (List.getElem_mem I);obtain⟨QF,QG⟩:=Qt.out _ (List.getElem_mem I);obtain⟨x,P⟩:∃x,x=e.es[j]:=⟨_,rfl⟩
        rw[←P]at h7 Qv d A t E Qd QF QG;clear P;obtain⟨z0,z1,z2,z3,z4,z5,z6⟩:(wr.cell? ⟨b3,o3+j*7,none⟩=some (.int .i64 x.k)∧wr.cell? ⟨b3,o3+j*7+1,none⟩=some (.int .i64 x.n)∧wr.cell? ⟨b3,o3+j*7+2,none⟩=some (.int .i64 x.m)∧wr.cell? ⟨b3,o3+j*7+3,none⟩=some (.bool x.v)∧wr.cell? ⟨b3,o3+j*7+4,none⟩=some (.string x.nm)∧wr.cell? ⟨b3,o3+j*7+5,none⟩=some (.string x.tg)∧wr.cell? ⟨b3,o3+j*7+6,none⟩=some (.slice a5 x.es.length c5)):=h7.world P_.kw;clear h7;have QY:(j:Int)<e.es.length:=by omega
        have QO:=P_.alloc (.cells #[.int .i64 x.k,.int .i64 x.n,.int .i64 x.m,.bool x.v,.string x.nm,.string x.tg,.slice a5 x.es.length c5] 25);have l:=Lib.hid QO;clear QO;by_cases h:50<m
        ·have hR:=Lib.hid (g.out h)
         have t50:decide (50<m)=true:=by simp[h]
         have hB:=Lib.hid l.out.up;clear d g A t;go_wp2_with fail
         go_ret;exact⟨⟨_,rfl,hR.out⟩,hB.out⟩
        have t50:decide (50<m)=false:=by simp;omega
        have n50:m≤50:=by omega
        cases G:x.k==13
        case true=>
         have hA:Hid (m+1=(e.es.take (j+1)).foldl bG n):=by unfold Hid;rw[d.out,bG,if_neg h,G];rfl
         clear d g A t h;go_wp2_with fail
         go_roundw
         case rel=>exact⟨j+1,m+1,by omega,by go_num,rfl,by omega,by omega,hA.out,l.out⟩
         case measure=>simp only[intOf];omega
        have y:x.k≠13:=by simpa using G
        have hI:=fun W J=>e_ N D dc x L 2 a5 c5 W t (by omega) (by omega) E y Qv J;cases hi:isIface x
        ·have C:=fun W J=>aM (hI W J) hi
         have hA:Hid (m+1=(e.es.take (j+1)).foldl bG n):=by unfold Hid;rw[d.out,bG,if_neg h,G,hi];rfl
         clear d g A t h hI hi y;go_wp2_with fail
         refine(C _ l.out.kw).mono ?_;rintro e1 M ⟨rfl,z⟩;have H:=Lib.hid (l.out.step z);clear z C;go_wp2_with fail
         go_roundw
         case rel=>exact⟨j+1,m+1,by omega,by go_num,rfl,by omega,by omega,hA.out,H.out⟩
         case measure=>simp only[intOf];omega
        ·have C:=fun W J=>aM (hI W J) hi
         have hA:Hid (m+cj x=(e.es.take (j+1)).foldl bG n):=by unfold Hid;rw[d.out,bG,if_neg h,G,hi];rfl
         have P7:=fun W (J:KW N W)=>A N L 2 a5 c5 W t (by omega) (by omega) E y Qd Qv J;clear d g A t h hI hi y;generalize cj x=wx at*;go_wp2_with fail
         refine(C _ l.out.kw).mono ?_;rintro e1 M ⟨rfl,z⟩;have H:=Lib.hid (l.out.step z);obtain⟨y0,y1,y2,y3,y4,y5,y6⟩:(M.cell? ⟨wr.heap.size,0,none⟩=some (.int .i64 x.k)∧M.cell? ⟨wr.heap.size,1,none⟩=some (.int .i64 x.n)∧M.cell? ⟨wr.heap.size,2,none⟩=some (.int .i64 x.m)∧M.cell? ⟨wr.heap.size,3,none⟩=some (.bool x.v)∧M.cell? ⟨wr.heap.size,4,none⟩=some (.string x.nm)∧M.cell? ⟨wr.heap.size,5,none⟩=some (.string x.tg)∧M.cell? ⟨wr.heap.size,6,none⟩=some (.slice a5 x.es.length c5)):=by
          repeat' apply And.intro
          all_goals exact cell_kept z (by first|(simp[go_sem];done)|(go_keep;done))
         clear z C;go_wp2_with fail
         refine(P7 _ H.out.kw).mono ?_;rintro e1 w4 ⟨⟨nx,rfl,Qq⟩,P8⟩;have P9:=Qq.out;subst P9;have Qr:=Lib.hid (H.out.step P8);clear P8 P7;go_wp2_with fail
         go_roundw
         case rel=>exact⟨j+1,m+nx,by omega,by go_num,rfl,by omega,by omega,hA.out,Qr.out⟩
         case measure=>simp only[intOf];omega
       ·have hM:Hid (m=((ds.take (k+1)).flatMap bX).foldl bG 0):=by
         unfold Hid;rw[QL.out,List.foldl_append,←P3.out,Qu.out,List.take_of_length_le (by first|omega|(simp;omega))]
        have QZ:=Lib.hid (⟨P_.kw.sub QM.out,P_.up⟩:Up q w wr);clear P_;go_wp2_with fail
        go_roundw
        case rel=>exact⟨k+1,m,by omega,by go_num,rfl,Qk,QX,hM.out,QZ.out⟩
        case measure=>simp only[intOf];omega
    ·have hR:Hid (n=r):=by unfold Hid;rw[P3.out,hF.out,Q.out,List.take_of_length_le (by omega)]
     have hB:=hU.up;go_wp2_with fail
     go_ret;exact⟨⟨_,rfl,hR.out⟩,hB⟩
end Go.Proofs.YtkfaiocajcjomaaGreatDoor
