import Derived.Outline
import Derived.Shelf.SlSortCmp.QuietGrown
import Derived.Test.YtgbklbbknehefaaGreatDoorYav
set_option maxRecDepth 100000
set_option maxHeartbeats 8000000
set_option linter.all false
namespace TS
def U.dep(u:U):Nat:=(u.es.attach.foldl (fun n ⟨e,_⟩=>max n (U.dep e)) (u.un.attach.foldl (fun n ⟨e,_⟩=>max n (U.dep e)) 0))+1
termination_by u.sz
decreasing_by
 ·exact U.au ‹_›
 ·exact U.iP ‹_›
theorem lP{α:Type}(f:α→Nat):∀(l:List α)(n:Nat),n≤l.foldl (fun n e=>max n (f e)) n∧∀e∈l,f e≤l.foldl (fun n e=>max n (f e)) n
 | [],n=>⟨Nat.le_refl _,fun e he=>by cases he⟩
 |a::r,n=>by
  have:=lP f r (max n (f a));refine⟨by have:=this.1;simp only[List.foldl_cons];omega,fun e he=> ?_⟩;rcases List.mem_cons.1 he with rfl|he
  ·have:=this.1;simp only[List.foldl_cons];omega
  ·exact this.2 e he
theorem U.ks(u:U):u.dep=(u.es.foldl (fun n e=>max n e.dep) (u.un.foldl (fun n e=>max n e.dep) 0))+1:=by
 rw[U.dep];congr 1;rw[←List.foldl_attach (l:=u.es) (f:=fun n e=>max n e.dep),←List.foldl_attach (l:=u.un) (f:=fun n e=>max n e.dep)]
theorem U.ku{u e:U}(h:e∈u.es):e.dep<u.dep:=by
 rw[U.ks u];have:=(lP U.dep u.es (u.un.foldl (fun n e=>max n e.dep) 0)).2 e h;omega
theorem U.wM{u e:U}(h:e∈u.un):e.dep<u.dep:=by
 rw[U.ks u];have h1:=(lP U.dep u.es (u.un.foldl (fun n e=>max n e.dep) 0)).1;have h2:=(lP U.dep u.un 0).2 e h;omega
theorem U.nV(u:U):1≤u.dep:=by rw[U.ks];omega
theorem wN:∀u:U,(bare u).dep≤u.dep:=by
 intro u;induction u using U.bg with
 |_ u ih=>
  rw[bare];split
  ·split
   ·rename_i e r he
    have h1:=U.ku (u:=u) (e:=e) (by rw[he];simp);have:=ih e (U.au (by rw[he];simp));omega
   ·exact Nat.le_refl _
  ·split
   ·have:br.dep=1:=by rw[U.ks];rfl
    have:=u.nV;omega
   ·exact Nat.le_refl _
theorem qT(u:U):(under u).dep≤u.dep:=by
 have a:=wN u;rw[under];split
 ·cases b:(bare u).un with
  |nil=>exact a
  |cons x r=>have:=U.wM (u:=bare u) (e:=x) (by rw[b];simp);simp;omega
 ·exact a
theorem qU{u x:U}(h:x∈ek u):x.dep<u.dep:=by
 obtain⟨e,he,a⟩:=List.mem_flatMap.1 h;have h1:=U.ku (List.mem_of_mem_drop he);split at a
 ·have:=U.ku a;omega
 ·simp at a;subst a;exact h1
theorem qV{B:Int}(b:0≤B):∀{l:List U}{n:Int},(∀x∈l,0≤ch x∧ch x≤B+1)→0≤n→n≤51+B→0≤l.foldl bA n∧l.foldl bA n≤51+B
 | [],n,_,a,h1=>⟨a,h1⟩
 |x::r,n,h,a,h1=>by
  have d:=h x List.mem_cons_self;refine qV b (l:=r) (fun y c=>h y (List.mem_cons_of_mem _ c)) ?_ ?_<;>(unfold bA;split<;>(try split)<;>omega)
theorem wP:∀u:U,0≤ch u∧ch u≤51*u.dep:=by
 intro u;induction u using U.bg with
 |_ u ih=>
  have b:=u.nV;by_cases h:(under u).k=10
  ·rw[lv h]
   have c:=qT u;have h2:=dp u;have:=qV (B:=51*((u.dep:Int)- 1)) (l:=ek (under u)) (n:=0) (by omega) (fun x a=>by
    have h1:=iT a;have h3:=qU a;have:=ih x (by omega);omega) (by omega) (by omega)
   omega
  ·rw[nk h];omega
end TS
namespace Go.Proofs.YtgbklbbknehefaaGreatDoor
open Go.RowKit TS
def qW(D:Dl)(dc:Nat)(u:U):Prop:=
 ∀(p:Pm)(pos f:Nat)(a:Option Addr)(c:Nat)(w:World),Pl D.len u pos f→f≤2→f≠0→u.k≠12→u.k≠13→u.dep≤1125899906842624→ai p D u a c→KW p w→
  Calls Tryz.prog 102 #[.slice D.a D.len dc,.agg #[.int .i64 u.k,.int .i64 u.n,.int .i64 u.m,.bool u.v,.string u.nm,.string u.tg,.slice a u.es.length c]] w fun e b=>(∃n,e= .returned (.int .i64 n)∧Hid (n=ch u))∧Below w.heap.size w b
theorem wQ{len:Nat}{u:U}{pos f:Nat}(h:Pl len u pos f)(hk:u.k=10):∀x∈ek u,∃pos',Pl len x pos' 2∧x.k≠12:=by
 intro x b;obtain⟨e,he,b⟩:=List.mem_flatMap.1 b;have c:=h.elem hk he;split at b
 ·rename_i a
  obtain⟨i,hi,rfl⟩:=List.getElem_of_mem b;have:=c.part i hi;rw[show aS e i=1 by unfold aS;rw[if_pos a],show aI e i 2=2 by unfold aI;rw[if_pos rfl]]at this;refine⟨1,this,fun d=> ?_⟩;have g:=this.form;cases g<;>first|omega|(rename_i j _ _;omega)
 ·rename_i a
  simp at b;subst b;exact⟨2,c,a⟩
theorem kz{n:Int}(h:50<n):∀l:List U,l.foldl bA n=n
 | []=>rfl
 |x::r=>by rw[List.foldl_cons,show bA n x=n by unfold bA;rw[if_pos h]];exact kz h r
def bU(e:U):List U:=if e.k=12 then e.es else [e]
theorem wR(D:Dl)(dc:Nat):∀u,qW D dc u:=by
 intro u;induction u using U.bg with
 |_ u ih=>
  intro p pos f a c w hP hf Qx Qy Qz hd hu hw;obtain⟨f',Q8,Q4,V,hk,Qh⟩:=hP.under hf Qx Qy Qz;have hC:=fun W J=>ik p D dc u pos f a c W hP hf Qx Qy Qz hu J;have ag:Up p w (w.alloc (.cells #[.int .i64 u.k,.int .i64 u.n,.int .i64 u.m,.bool u.v,.string u.nm,.string u.tg,.slice a u.es.length c] 25)):=(Up.refl hw).alloc _;have Qi:= @lv u;have Qj:= @nk u;have QA:=qT u;generalize ch u=r at*;generalize under u=v at*;cases bC:v.k==10
  ·have n10:(v.k !=10)=true:=by simp[bne,bC]
   have hF:=Lib.hid (Qj (by simpa using bC));clear Qi Qj ih hP V hk Qh;go_enter Tryz.func102,Tryz.ntmps102;go_wp2_with fail
   refine(hC _ ag.kw).mono ?_;rintro e1 w1 ⟨q,a1,c1,rfl,hg,Qk,Qb,aa⟩;have QQ:=(ag.step aa).up.alloc (ag.step aa).up.size (.cells #[.int .i64 v.k,.int .i64 v.n,.int .i64 v.m,.bool v.v,.string v.nm,.string v.tg,.slice a1 v.es.length c1] 25);clear hC aa;go_wp2_with fail
   go_ret;exact⟨⟨_,rfl,hF.out.symm⟩,QQ⟩
  ·have n10:(v.k !=10)=false:=by simp[bne,bC]
   have X:v.k=10:=by simpa using bC
   have hF:=Lib.hid (Qi X);obtain⟨Ql,QB,h4⟩:=V.form.jG X;have hT:=Lib.hid fun x (P:x∈ek v)=>(⟨ih x (Nat.lt_of_lt_of_le (iT P) Qh),wQ V X x P,Nat.le_trans (Nat.le_of_lt (Nat.lt_of_lt_of_le (qU P) QA)) hd⟩:qW D dc x∧(∃pos',Pl D.len x pos' 2∧x.k≠12)∧x.dep≤1125899906842624)
   have Q:Hid (ek v=(v.es.drop v.m.toNat).flatMap bU):=rfl;have QC:=Lib.hid fun e he=>(V.elem X (e:=e) he).form;clear Qi Qj ih hP V hk Qh X hd QA;have QR:max v.m 0=v.m:=by omega
   have QD:v.m≤v.es.length:=by omega
   go_enter Tryz.func102,Tryz.ntmps102;go_wp2_with fail
   refine(hC _ ag.kw).mono ?_;rintro e1 w1 ⟨q,a1,c1,rfl,hg,Qk,Qb,aa⟩;have Qm:=ag.step aa;have Y:=Qb.cap;have QE:Up q w (w1.alloc (.cells #[.int .i64 v.k,.int .i64 v.n,.int .i64 v.m,.bool v.v,.string v.nm,.string v.tg,.slice a1 v.es.length c1] 25)):=⟨Qk.alloc _,Qm.up.alloc Qm.up.size _⟩
   have QS:=Y.1;have QT:=Y.2;have Qn:v.m.toNat<c1∨c1=v.m.toNat:=by omega
   clear hC aa Y ag Qm Qk hg;have Z:=Lib.hid QE;clear QE;rcases Qn with Qn|rfl
   rotate_left
   ·have QF:v.es.drop v.m.toNat= []:=List.drop_eq_nil_of_le (by omega)
    have hR:Hid (r=0):=by unfold Hid;rw[hF.out,Q.out,QF];rfl
    have hB:=Lib.hid Z.out.up;clear QF hF Q hT QC;go_wp2_with fail
    refine wp_loop_rounds 1 ?_;rw[rounds_succ];go_wp2_with fail
    go_ret;exact⟨⟨_,rfl,hR.out.symm⟩,hB.out⟩
   go_wp2_with fail
   have hL:=Qb.list.cut _ QB;have hlen:(v.es.drop v.m.toNat).length=v.es.length- v.m.toNat:=by simp
   have Q5:v.es.length- v.m.toNat≤4:=by omega
   clear QR QD Ql QB h4 QS QT Qn Qb;generalize Option.map (fun x=>Addr.add x (v.m.toNat*7)) a1=a2 at*;generalize v.es.length- v.m.toNat=n2 at*;generalize c1- v.m.toNat=c2 at*;generalize ek v=tl at*;generalize v.es.drop v.m.toNat=ds at*;subst hlen;go_loopw [6,24] (fun s i wr=> ∃(k:Nat)(n:Int),k≤ds.length∧i= .int .i64 k∧s= .int .i64 n∧0≤n∧n≤576460752303423488∧n=((ds.take k).flatMap bU).foldl bA 0∧Up q w wr) (fun _ i _=>ds.length- (intOf i).toNat)
   case atStart=>exact⟨0,0,Nat.zero_le _,rfl,rfl,by omega,by omega,rfl,Z.out⟩
   case round=>
    clear Z;obtain⟨k,n,hk,rfl,rfl,QU,QV,hn,hU⟩:=hrel;have P4:=Lib.hid hn;clear hn;by_cases Qc:k<ds.length
    ·obtain⟨b,o,rfl⟩:=hL.bt (by omega)
     obtain⟨a',c',h7,P5⟩:=hL.get k Qc;have R:Hid ((ds.take (k+1)).flatMap bU=(ds.take k).flatMap bU++bU ds[k]):=by
      unfold Hid;rw[List.take_succ_eq_append_getElem Qc,List.flatMap_append];simp
     have K:Hid (ds.flatMap bU=(ds.take k).flatMap bU++bU ds[k]++(ds.drop (k+1)).flatMap bU):=by
      unfold Hid;rw[←R.out,←List.flatMap_append,List.take_append_drop]
     have S:=Lib.hid fun x (P:x∈bU ds[k])=>hT.out x (by rw[Q.out];exact List.mem_flatMap.2 ⟨_,List.getElem_mem Qc,P⟩);have Qo:=QC.out ds[k] (List.getElem_mem Qc);obtain⟨e,he⟩:∃e,e=ds[k]:=⟨_,rfl⟩
     rw[←he]at h7 P5 R K S Qo;clear he;obtain⟨g0,g1,g2,g3,g4,g5,g6⟩:(wr.cell? ⟨b,o+k*7,none⟩=some (.int .i64 e.k)∧wr.cell? ⟨b,o+k*7+1,none⟩=some (.int .i64 e.n)∧wr.cell? ⟨b,o+k*7+2,none⟩=some (.int .i64 e.m)∧wr.cell? ⟨b,o+k*7+3,none⟩=some (.bool e.v)∧wr.cell? ⟨b,o+k*7+4,none⟩=some (.string e.nm)∧wr.cell? ⟨b,o+k*7+5,none⟩=some (.string e.tg)∧wr.cell? ⟨b,o+k*7+6,none⟩=some (.slice a' e.es.length c')):=h7.world hU.kw;clear h7;have Q6:(k:Int)<ds.length:=by omega
     have Qd:=hU.alloc (.cells #[.int .i64 e.k,.int .i64 e.n,.int .i64 e.m,.bool e.v,.string e.nm,.string e.tg,.slice a' e.es.length c'] 25);have P6:=Qd.alloc (.cells #[.int .i64 e.k,.int .i64 e.n,.int .i64 e.m,.bool e.v,.string e.nm,.string e.tg,.slice a' e.es.length c'] 25);have P7:=P5.cap;have key:∀(N:Pm)(W:World)(ts:List U)(a3:Option Addr)(n3 c3:Nat),n3=ts.length→ts=bU e→aw N D ts a3→Up N w W→Sub q N→Hid (Up N w W∧aw N D ts a3∧n3=ts.length∧ts=bU e∧Sub q N):=fun _ _ _ _ _ _ h1 h2 h3 h4 h5=>⟨h4,h3,h1,h2,h5⟩
     have Qf:∀x∈bU e,0≤ch x∧ch x≤57420895248973824:=fun x P=>by
      have h1:=wP x;have h2:=(S.out x P).2.2;omega
     have F:=Lib.hid Qf;have O:(bU e).length≤1048576:=by
      unfold bU;split
      ·omega
      ·simp
     clear Qf;obtain⟨wo,Qp⟩:∃wo:World,wo=wr:=⟨_,rfl⟩
     rw[←Qp]at hU Qd P6 g0 g1 g2 g3 g4 g5 g6;rw[←Qp];clear Qp wr;cases Qq:e.k==12
     ·have B:bU e= [e]:=by unfold bU;rw[if_neg (by simpa using Qq)]
      have Q7:e.k≠12:=by simpa using Qq
      have d:Hid (((ds.take (k+1)).flatMap bU).foldl bA 0=bA n e):=by
       unfold Hid;rw[R.out,B,List.foldl_append,←P4.out];rfl
      have g:Hid (50<n→n=r):=fun h=>by
       rw[hF.out,Q.out,K.out,List.foldl_append,List.foldl_append,←P4.out,kz h,kz h]
      obtain⟨A,⟨L,t,E⟩,Qe⟩:=S.out e (by rw[B];simp);obtain⟨QG,QH⟩:=F.out e (by rw[B];simp);have l:=Lib.hid (P6.alloc (.cells #[.int .i64 e.k,.int .i64 e.n,.int .i64 e.m,.bool e.v,.string e.nm,.string e.tg,.slice a' e.es.length c'] 25));clear key B hU Qd P6 P7 R K S F Qo O;by_cases h:50<n
      ·have hR:=Lib.hid (g.out h)
       have t50:decide (50<n)=true:=by simp[h]
       have hB:=Lib.hid l.out.up;clear d g A t;go_wp2_with fail
       refine wp_loop_rounds 2 ?_;rw[rounds_succ];go_wp2_with fail
       go_ret;exact⟨⟨_,rfl,hR.out⟩,hB.out⟩
      have t50:decide (50<n)=false:=by simp;omega
      have n50:n≤50:=by omega
      cases G:e.k==13
      case true=>
       have hA:Hid (n+1=((ds.take (k+1)).flatMap bU).foldl bA 0):=by unfold Hid;rw[d.out,bA,if_neg h,G];rfl
       clear d g A t h;go_wp2_with fail
       refine wp_loop_rounds 2 ?_;rw[rounds_succ];go_wp2_with fail
       rw[rounds_succ];go_wp2_with fail
       go_roundw
       case rel=>exact⟨k+1,n+1,by omega,by go_num,rfl,by omega,by omega,hA.out,l.out⟩
       case measure=>simp only[intOf];omega
      have y:e.k≠13:=by simpa using G
      have hI:=fun W J=>gl q D dc e L 2 a' c' W t (by omega) (by omega) E y P5 J;cases hi:isIface e
      ·have C:=fun W J=>aP (hI W J) hi
       have hA:Hid (n+1=((ds.take (k+1)).flatMap bU).foldl bA 0):=by unfold Hid;rw[d.out,bA,if_neg h,G,hi];rfl
       clear d g A t h hI hi y;go_wp2_with fail
       refine wp_loop_rounds 2 ?_;rw[rounds_succ];go_wp2_with fail
       refine(C _ l.out.kw).mono ?_;rintro e1 M ⟨rfl,z⟩;have H:=Lib.hid (l.out.step z);clear z C;go_wp2_with fail
       rw[rounds_succ];go_wp2_with fail
       go_roundw
       case rel=>exact⟨k+1,n+1,by omega,by go_num,rfl,by omega,by omega,hA.out,H.out⟩
       case measure=>simp only[intOf];omega
      ·have C:=fun W J=>aP (hI W J) hi
       have hA:Hid (n+ch e=((ds.take (k+1)).flatMap bU).foldl bA 0):=by unfold Hid;rw[d.out,bA,if_neg h,G,hi];rfl
       have P8:=fun W (J:KW q W)=>A q L 2 a' c' W t (by omega) (by omega) E y Qe P5 J;clear d g A t h hI hi y;generalize ch e=wx at*;go_wp2_with fail
       refine wp_loop_rounds 2 ?_;rw[rounds_succ];go_wp2_with fail
       refine(C _ l.out.kw).mono ?_;rintro e1 M ⟨rfl,z⟩;have H:=Lib.hid (l.out.step z);obtain⟨y0,y1,y2,y3,y4,y5,y6⟩:(M.cell? ⟨wo.heap.size+1+1,0,none⟩=some (.int .i64 e.k)∧M.cell? ⟨wo.heap.size+1+1,1,none⟩=some (.int .i64 e.n)∧M.cell? ⟨wo.heap.size+1+1,2,none⟩=some (.int .i64 e.m)∧M.cell? ⟨wo.heap.size+1+1,3,none⟩=some (.bool e.v)∧M.cell? ⟨wo.heap.size+1+1,4,none⟩=some (.string e.nm)∧M.cell? ⟨wo.heap.size+1+1,5,none⟩=some (.string e.tg)∧M.cell? ⟨wo.heap.size+1+1,6,none⟩=some (.slice a' e.es.length c')):=by
        repeat' apply And.intro
        all_goals exact cell_kept z (by first|(simp[go_sem];done)|(go_keep;done))
       clear z C;go_wp2_with fail
       refine(P8 _ H.out.kw).mono ?_;rintro e1 w4 ⟨⟨nx,rfl,Qr⟩,P9⟩;have P_:=Qr.out;subst P_;have Qs:=Lib.hid (H.out.step P9);clear P9 P8;go_wp2_with fail
       rw[rounds_succ];go_wp2_with fail
       go_roundw
       case rel=>exact⟨k+1,n+nx,by omega,by go_num,rfl,by omega,by omega,hA.out,Qs.out⟩
       case measure=>simp only[intOf];omega
     ·have B:bU e=e.es:=by unfold bU;rw[if_pos (by simpa using Qq)]
      have QI:=key q _ e.es a' e.es.length c' rfl B.symm P5.list P6 (.refl _);obtain⟨N,hX⟩:∃N,Hid (Up N w ((wo.alloc (.cells #[.int .i64 e.k,.int .i64 e.n,.int .i64 e.m,.bool e.v,.string e.nm,.string e.tg,.slice a' e.es.length c'] 25)).alloc (.cells #[.int .i64 e.k,.int .i64 e.n,.int .i64 e.m,.bool e.v,.string e.nm,.string e.tg,.slice a' e.es.length c'] 25))∧aw N D e.es a'∧e.es.length=e.es.length∧e.es=bU e∧Sub q N):=⟨q,QI⟩
      clear QI;clear key B hU Qd P6 P7;go_wp2_with fail
      obtain⟨QJ,QK,_,T,QL⟩:=hX.out;have Qg:=Lib.hid QJ;have Qt:Hid (ds.flatMap bU=(ds.take k).flatMap bU++e.es++(ds.drop (k+1)).flatMap bU):=by unfold Hid;rw[T];exact K.out
      have QM:Hid ((ds.take (k+1)).flatMap bU=(ds.take k).flatMap bU++e.es):=by unfold Hid;rw[T];exact R.out
      have Qu:=Lib.hid fun x (P:x∈e.es)=>F.out x (by rw[←T];exact P);have QW:=Lib.hid fun x (P:x∈e.es)=>S.out x (by rw[←T];exact P);have QX:((e.es.length:Nat):Int)≤1048576:=by have:=O;rw[←T]at this;simp at this⊢ <;>omega
      have QN:=Lib.hid QL;clear hX T QL QJ K R F S O Qo;go_loopw [6,11,37] (fun s _ i W=> ∃(j:Nat)(m:Int),j≤e.es.length∧i= .int .i64 j∧s= .int .i64 m∧0≤m∧m≤576460752303423488∧m=(e.es.take j).foldl bA n∧Up N w W) (fun _ _ i _=>e.es.length- (intOf i).toNat)
      case atStart=>exact⟨0,n,Nat.zero_le _,rfl,rfl,QU,QV,rfl,Qg.out⟩
      case round=>
       clear Qg;obtain⟨j,m,hj,rfl,rfl,Ql,QY,hm,Qa⟩:=hrel;have Qv:=Lib.hid hm;clear hm;by_cases QO:j<e.es.length
       ·have I:j<e.es.length:=by simpa using QO
        obtain⟨b3,o3,rfl⟩:=QK.bt (by omega);obtain⟨a5,c5,h7,Qw⟩:=QK.get j I;have d:Hid ((e.es.take (j+1)).foldl bA n=bA m e.es[j]):=by
         unfold Hid;rw[List.take_succ_eq_append_getElem I,List.foldl_append,←Qv.out];rfl
        have g:Hid (50<m→m=r):=fun h=>by
         have e1:ds.flatMap bU=(ds.take k).flatMap bU++e.es.take j++(e.es.drop j++(ds.drop (k+1)).flatMap bU):=by
          rw[Qt.out];conv=>lhs;rw[←List.take_append_drop j e.es]
          simp only[List.append_assoc]
         rw[hF.out,Q.out,e1];simp only[List.foldl_append];rw[←P4.out,←Qv.out,kz h,kz h]
        obtain⟨A,⟨L,t,E⟩,Qe⟩:=QW.out _ (List.getElem_mem I);obtain⟨QG,QH⟩:=Qu.out _ (List.getElem_mem I);obtain⟨x,P⟩:∃x,x=e.es[j]:=⟨_,rfl⟩
        rw[←P]at h7 Qw d A t E Qe QG QH;clear P;obtain⟨z0,z1,z2,z3,z4,z5,z6⟩:(wr.cell? ⟨b3,o3+j*7,none⟩=some (.int .i64 x.k)∧wr.cell? ⟨b3,o3+j*7+1,none⟩=some (.int .i64 x.n)∧wr.cell? ⟨b3,o3+j*7+2,none⟩=some (.int .i64 x.m)∧wr.cell? ⟨b3,o3+j*7+3,none⟩=some (.bool x.v)∧wr.cell? ⟨b3,o3+j*7+4,none⟩=some (.string x.nm)∧wr.cell? ⟨b3,o3+j*7+5,none⟩=some (.string x.tg)∧wr.cell? ⟨b3,o3+j*7+6,none⟩=some (.slice a5 x.es.length c5)):=h7.world Qa.kw;clear h7;have QZ:(j:Int)<e.es.length:=by omega
        have QP:=Qa.alloc (.cells #[.int .i64 x.k,.int .i64 x.n,.int .i64 x.m,.bool x.v,.string x.nm,.string x.tg,.slice a5 x.es.length c5] 25);have l:=Lib.hid QP;clear QP;by_cases h:50<m
        ·have hR:=Lib.hid (g.out h)
         have t50:decide (50<m)=true:=by simp[h]
         have hB:=Lib.hid l.out.up;clear d g A t;go_wp2_with fail
         go_ret;exact⟨⟨_,rfl,hR.out⟩,hB.out⟩
        have t50:decide (50<m)=false:=by simp;omega
        have n50:m≤50:=by omega
        cases G:x.k==13
        case true=>
         have hA:Hid (m+1=(e.es.take (j+1)).foldl bA n):=by unfold Hid;rw[d.out,bA,if_neg h,G];rfl
         clear d g A t h;go_wp2_with fail
         go_roundw
         case rel=>exact⟨j+1,m+1,by omega,by go_num,rfl,by omega,by omega,hA.out,l.out⟩
         case measure=>simp only[intOf];omega
        have y:x.k≠13:=by simpa using G
        have hI:=fun W J=>gl N D dc x L 2 a5 c5 W t (by omega) (by omega) E y Qw J;cases hi:isIface x
        ·have C:=fun W J=>aP (hI W J) hi
         have hA:Hid (m+1=(e.es.take (j+1)).foldl bA n):=by unfold Hid;rw[d.out,bA,if_neg h,G,hi];rfl
         clear d g A t h hI hi y;go_wp2_with fail
         refine(C _ l.out.kw).mono ?_;rintro e1 M ⟨rfl,z⟩;have H:=Lib.hid (l.out.step z);clear z C;go_wp2_with fail
         go_roundw
         case rel=>exact⟨j+1,m+1,by omega,by go_num,rfl,by omega,by omega,hA.out,H.out⟩
         case measure=>simp only[intOf];omega
        ·have C:=fun W J=>aP (hI W J) hi
         have hA:Hid (m+ch x=(e.es.take (j+1)).foldl bA n):=by unfold Hid;rw[d.out,bA,if_neg h,G,hi];rfl
         have P8:=fun W (J:KW N W)=>A N L 2 a5 c5 W t (by omega) (by omega) E y Qe Qw J;clear d g A t h hI hi y;generalize ch x=wx at*;go_wp2_with fail
         refine(C _ l.out.kw).mono ?_;rintro e1 M ⟨rfl,z⟩;have H:=Lib.hid (l.out.step z);obtain⟨y0,y1,y2,y3,y4,y5,y6⟩:(M.cell? ⟨wr.heap.size,0,none⟩=some (.int .i64 x.k)∧M.cell? ⟨wr.heap.size,1,none⟩=some (.int .i64 x.n)∧M.cell? ⟨wr.heap.size,2,none⟩=some (.int .i64 x.m)∧M.cell? ⟨wr.heap.size,3,none⟩=some (.bool x.v)∧M.cell? ⟨wr.heap.size,4,none⟩=some (.string x.nm)∧M.cell? ⟨wr.heap.size,5,none⟩=some (.string x.tg)∧M.cell? ⟨wr.heap.size,6,none⟩=some (.slice a5 x.es.length c5)):=by
          repeat' apply And.intro
          all_goals exact cell_kept z (by first|(simp[go_sem];done)|(go_keep;done))
         clear z C;go_wp2_with fail
         refine(P8 _ H.out.kw).mono ?_;rintro e1 w4 ⟨⟨nx,rfl,Qr⟩,P9⟩;have P_:=Qr.out;subst P_;have Qs:=Lib.hid (H.out.step P9);clear P9 P8;go_wp2_with fail
         go_roundw
         case rel=>exact⟨j+1,m+nx,by omega,by go_num,rfl,by omega,by omega,hA.out,Qs.out⟩
         case measure=>simp only[intOf];omega
       ·have hM:Hid (m=((ds.take (k+1)).flatMap bU).foldl bA 0):=by
         unfold Hid;rw[QM.out,List.foldl_append,←P4.out,Qv.out,List.take_of_length_le (by first|omega|(simp;omega))]
        have Q3:=Lib.hid (⟨Qa.kw.sub QN.out,Qa.up⟩:Up q w wr);clear Qa;go_wp2_with fail
        go_roundw
        case rel=>exact⟨k+1,m,by omega,by go_num,rfl,Ql,QY,hM.out,Q3.out⟩
        case measure=>simp only[intOf];omega
    ·have hR:Hid (n=r):=by unfold Hid;rw[P4.out,hF.out,Q.out,List.take_of_length_le (by omega)]
     have hB:=hU.up;go_wp2_with fail
     go_ret;exact⟨⟨_,rfl,hR.out⟩,hB⟩
end Go.Proofs.YtgbklbbknehefaaGreatDoor
namespace TS
open Go Go.RowKit
noncomputable def bp(F:Value→Option Value)(k v:Value):Value→Option Value:=fun y=> @ite _ (y=k) (Classical.propDecidable _) (some v) (F y)
theorem bG(F:Value→Option Value)(k v:Value):bp F k v k=some v:=by unfold bp;rw[if_pos rfl]
theorem a7(F:Value→Option Value){k v y:Value}(h:y≠k):bp F k v y=F y:=by unfold bp;rw[if_neg h]
def kM(_:World)(v:Value):Prop:=∃s,v= .string s
def fI(w:World)(a:Nat)(m:Option Nat)(F:Value→Option Value):Prop:=
 w.cell? ⟨a,0,none⟩=some (.map m)∧w.frozen? ⟨a,0,none⟩=false∧(m=none→F=fun _=>none)∧∀b,m=some b→bT kM w b F
theorem fI.of{w c:World}{b:Nat}{m:Option Nat}{F:Value→Option Value}(h:fI w b m F)(d:c.heap[b]?=w.heap[b]?)(hm:∀a,m=some a→c.heap[a]?=w.heap[a]?):fI c b m F:=
 ⟨(World.cell?_of_block (w:=w) d).trans h.1,(World.frozen?_of_block (w:=w) d).trans h.2.1,h.2.2.1,fun a e=>(h.2.2.2 a e).of (hm a e) fun _ h=>h⟩
end TS
namespace Go.Proofs.YtgbklbbknehefaaGreatDoor
open Go.RowKit TS Go.ChangeMaps
theorem kN:KeyLaw Tryz.prog 9 kM:=zj Tryz.underlying9
theorem zm(f:Nat)(w:World):(method 480 102 (.pointer (some ⟨f,0,none⟩)) "Id").run Tryz.prog w= .ok (202,.pointer (some ⟨f,0,none⟩)) w:=by kernel_rfl
theorem zn(f:Nat)(w:World):(method 480 38 (.pointer (some ⟨f,0,none⟩)) "Id").run Tryz.prog w= .ok (202,.pointer (some ⟨f,0,none⟩)) w:=by kernel_rfl
theorem zo(f:Nat)(w:World):(nilAhead 480 102 (.pointer (some ⟨f,0,none⟩)) "Id").run Tryz.prog w= .ok (some false) w:=by kernel_rfl
theorem zp(f:Nat)(w:World):(nilAhead 480 38 (.pointer (some ⟨f,0,none⟩)) "Id").run Tryz.prog w= .ok (some false) w:=by kernel_rfl
theorem oB(w:World):(zeroValue 183).run Tryz.prog w= .ok .nilIface w:=by kernel_rfl
def jM(T:TypeId):Prop:=(∀(f:Nat)(w:World),(method 480 T (.pointer (some ⟨f,0,none⟩)) "Id").run Tryz.prog w= .ok (202,.pointer (some ⟨f,0,none⟩)) w)∧∀(f:Nat)(w:World),(nilAhead 480 T (.pointer (some ⟨f,0,none⟩)) "Id").run Tryz.prog w= .ok (some false) w
theorem rY:jM 102:=⟨zm,zo⟩
theorem rZ:jM 38:=⟨zn,zp⟩
theorem zq(a:Nat)(w:World):(binOp .eql 180 (.map (some a)) (.map none)).run Tryz.prog w= .ok (.bool false) w:=by kernel_rfl
theorem zs(w:World):(binOp .eql 180 (.map none) (.map none)).run Tryz.prog w= .ok (.bool true) w:=by kernel_rfl
theorem zu(T:TypeId)(l:jM T)(g b f:Nat)(q:Option Addr)(s:ByteArray)(i:aL s=true)(F:Value→Option Value)(t:TypeId)(x:Value)(w:World)(hT:bD w)(hO:fI w g (some b) F)
 (h1:w.cell? ⟨f,1,none⟩=some (.pointer q))(h2:w.cell? ⟨f,2,none⟩=some (.string s))(hF:F (.string s)=some (.iface t x)):
 Calls Tryz.prog 107 #[.pointer (some ⟨g,0,none⟩),.iface T (.pointer (some ⟨f,0,none⟩))] w fun e j=>e= .returned (.iface t x)∧∃n,j=w.drewN n:=by
 obtain⟨hm,m⟩:=l;obtain⟨c0,_,_,a⟩:=hO;have hM:=Lib.hid (a b rfl);have o:=Lib.hid (mn f q s i w hT h1 h2);have c:=Lib.hid hF;have k:=fun(W:World)=>run_eql_iface_nil_left (P:=Tryz.prog) W t x Tryz.underlying183;clear a i hT h1 h2 hF;go_enter Tryz.func107,Tryz.ntmps107;go_wp2_with fail
 refine o.out.mono ?_;rintro e j ⟨rfl,n,rfl⟩;have d:Hid (bT kM (w.drewN n) b F):=hM.out.of rfl fun _ h=>h;go_wp2_with (first|(at_lookup;refine dM _ rfl _ _ 180 rfl kN 183 Tryz.underlying180 .nilIface oB b F rfl d.out (.string s) rfl ⟨_,rfl⟩ (.iface t x) (by rw[c.out];rfl) ?_)|fail)
 go_ret;exact⟨rfl,_,rfl⟩
theorem r7(T:TypeId)(t:jM T)(g c f:Nat)(q:Option Addr)(s:ByteArray)(p:aL s=true)(F:Value→Option Value)(w:World)(hT:bD w)(hO:fI w g (some c) F)(j:c≠g)
 (h1:w.cell? ⟨f,1,none⟩=some (.pointer q))(h2:w.cell? ⟨f,2,none⟩=some (.string s))(hF:F (.string s)=none):
 Calls Tryz.prog 107 #[.pointer (some ⟨g,0,none⟩),.iface T (.pointer (some ⟨f,0,none⟩))] w fun e l=>e= .returned .nilIface∧
  fI l g (some c) (bp F (.string s) (.iface T (.pointer (some ⟨f,0,none⟩))))∧Kept (fun k=>k=c) w l:=by
 obtain⟨hm,u⟩:=t;obtain⟨c0,f0,v,d⟩:=hO;have hM:=Lib.hid (d c rfl);have x:=Lib.hid (mn f q s p w hT h1 h2);have m:=Lib.hid hF;clear d p hT h1 h2 hF v;have z:=zq c;go_enter Tryz.func107,Tryz.ntmps107;go_wp2_with fail
 refine x.out.mono ?_;rintro e l ⟨rfl,n,rfl⟩;have i:Hid (bT kM (w.drewN n) c F):=hM.out.of rfl fun _ h=>h;go_wp2_with (first|(at_lookup;refine dM _ rfl _ _ 180 rfl kN 183 Tryz.underlying180 .nilIface oB c F rfl i.out (.string s) rfl ⟨_,rfl⟩ .nilIface (by rw[m.out];rfl) ?_)|(at_mapUpdate;refine dN _ rfl _ _ _ 180 rfl kN rV 183 Tryz.underlying180 c F rfl i.out (.string s) (.iface T (.pointer (some ⟨f,0,none⟩))) rfl rfl ⟨_,rfl⟩ ?_;intro A o a)|fail)
 go_ret;have r:A.heap[g]?=w.heap[g]?:=a.block g (World.block_lt_of_cell? _ _ c0) (fun e=>j (Option.some.inj e).symm);refine⟨rfl,⟨(World.cell?_of_block (w:=w) r).trans c0,(World.frozen?_of_block (w:=w) r).trans f0,fun h=>(by cases h),fun b e=> ?_⟩,?_⟩
 ·cases e
  exact o _ (fun y B=>a7 F B) (bG _ _ _)
 ·exact⟨a.os,a.tape,a.output,a.size,fun k hk C=>a.block k hk fun e=>C (Option.some.inj e)⟩
theorem r8(T:TypeId)(B:jM T)(a f:Nat)(q:Option Addr)(s:ByteArray)(t:aL s=true)(F:Value→Option Value)(w:World)(hT:bD w)(hO:fI w a none F)
 (h1:w.cell? ⟨f,1,none⟩=some (.pointer q))(h2:w.cell? ⟨f,2,none⟩=some (.string s)):
 Calls Tryz.prog 107 #[.pointer (some ⟨a,0,none⟩),.iface T (.pointer (some ⟨f,0,none⟩))] w fun e m=>e= .returned .nilIface∧
  ∃u,fI m a (some u) (bp F (.string s) (.iface T (.pointer (some ⟨f,0,none⟩))))∧w.heap.size≤u∧Kept (fun k=>k=a) w m:=by
 obtain⟨hm,C⟩:=B;obtain⟨c0,f0,v,_⟩:=hO;have o:=Lib.hid (v rfl);have x:=Lib.hid (mn f q s t w hT h1 h2);clear t hT h1 h2 v;have D:=zs;have E:= @run_makeMap Tryz.prog;have g:=World.block_lt_of_cell? _ _ c0;simp only at g;go_enter Tryz.func107,Tryz.ntmps107;go_wp2_with fail
 refine x.out.mono ?_;rintro e m ⟨rfl,n,rfl⟩;have i:(w.drewN n).cell? ⟨a,0,none⟩=some (.map none):=by simpa using c0
 have j:(w.drewN n).frozen? ⟨a,0,none⟩=false:=by simpa using f0
 have p:Hid (Kept (fun k=>k=a) w (w.drewN n)):=⟨rfl,rfl,rfl,Nat.le_refl _,fun _ _ _=>rfl⟩
 have d:Hid ((w.drewN n).heap.size=w.heap.size):=rfl;generalize w.drewN n=W at*;clear c0 f0 x;have c:a<W.heap.size:=by rw[d.out];exact g
 go_wp2_with (first|(at_lookup;refine iz _ rfl _ _ 180 rfl kN 183 Tryz.underlying180 .nilIface oB rfl (.string s) rfl ⟨_,rfl⟩ ?_)|(at_mapUpdate;refine dN _ rfl _ _ _ 180 rfl kN rV 183 Tryz.underlying180 W.heap.size (fun _=>none) rfl ?hM (.string s) (.iface T (.pointer (some ⟨f,0,none⟩))) rfl rfl ⟨_,rfl⟩ ?_;rotate_left;intro G r l)|fail)
 ·go_ret
  have z:G.heap[a]?=((W.setCell ⟨a,0,none⟩ (.map (some W.heap.size))).alloc (.map #[] 0)).heap[a]?:=l.block a (by simp;omega) (fun e=>by have:=Option.some.inj e;omega);refine⟨rfl,W.heap.size,⟨?_,?_,fun h=>(by cases h),fun b e=> ?_⟩,Nat.le_of_eq d.out.symm,?_⟩
  ·rw[World.cell?_of_block (w:=(W.setCell ⟨a,0,none⟩ (.map (some W.heap.size))).alloc (.map #[] 0)) z]
   simp[go_sem,i,j,c]
  ·rw[World.frozen?_of_block (w:=(W.setCell ⟨a,0,none⟩ (.map (some W.heap.size))).alloc (.map #[] 0)) z]
   simp[go_sem,i,j,c]
  ·cases e
   rw[o.out];exact r _ (fun y H=>a7 _ H) (bG _ _ _)
  ·refine((p.out.setCell (fun _=>rfl) _).alloc _).grown l fun k hk A=> ?_
   cases hk;have:=d.out;omega
 case hM=>
  have:=iy kM (W.setCell ⟨a,0,none⟩ (.map (some W.heap.size)));simpa using this
theorem zw(b:Nat)(x:Addr)(n c:Nat)(w:World)(f:w.cell? ⟨b,0,none⟩=some (.slice (some x) n c)):
 Calls Tryz.prog 161 #[.pointer (some ⟨b,0,none⟩)] w fun e d=>e= .returned (.tuple #[])∧w=d:=by
 have a:=fun(w:World)=>Lib.run_eql_slice_nil (P:=Tryz.prog) w 175 102 (some x) n c 0 0 Tryz.underlying175;go_enter Tryz.func161,Tryz.ntmps161;go_wp2_with fail
 go_end0
 exact⟨rfl,rfl⟩
theorem zx(w:World):(Instr.makeSlice 175 (.int .i64 0) (.int .i64 0)).run Tryz.prog w= .ok (.slice (some ⟨w.heap.size,0,none⟩) 0 0) (w.alloc (.cells #[] 102)):=by kernel_rfl
theorem zy(b:Nat)(n c:Nat)(w:World)(f:w.cell? ⟨b,0,none⟩=some (.slice none n c))(f0:w.frozen? ⟨b,0,none⟩=false):
 Calls Tryz.prog 161 #[.pointer (some ⟨b,0,none⟩)] w fun e g=>e= .returned (.tuple #[])∧g=(w.setCell ⟨b,0,none⟩ (.slice (some ⟨w.heap.size,0,none⟩) 0 0)).alloc (.cells #[] 102):=by
 have d:=fun(w:World)=>Lib.run_eql_slice_nil (P:=Tryz.prog) w 175 102 none n c 0 0 Tryz.underlying175;have h:=zx;have a:=World.block_lt_of_cell? _ _ f;simp only at a;go_enter Tryz.func161,Tryz.ntmps161;go_wp2_with fail
 go_end0
 exact⟨rfl,rfl⟩
end Go.Proofs.YtgbklbbknehefaaGreatDoor
namespace TS
open Go Go.RowKit
def r9(aB:Nat→ByteArray)(i:Nat)(F:Value→Option Value):Prop:=∀s:ByteArray,F (.string s)≠none→∃j,j<i∧aB j=s
end TS
namespace Go.Proofs.YtgbklbbknehefaaGreatDoor
open Go.RowKit TS Go.ChangeMaps
theorem r_{w:World}{a:Addr}{v:Value}{b:Nat}(h:∃cs T,w.heap[b]?=some (.cells cs T (0,0))):∃cs T,(w.setCell a v).heap[b]?=some (.cells cs T (0,0)):=by
 obtain⟨cs,T,h⟩:=h;by_cases e:b=a.block
 ·subst e
  refine⟨if a.spot.isSome then cs else cs.setIfInBounds a.off v,T,?_⟩;unfold World.setCell;simp only[Array.getElem?_modify,if_pos rfl,h];rfl
 ·exact⟨cs,T,by rw[Below.heap_setCell _ _ _ _ e];exact h⟩
theorem zA(a a':Option Addr)(n c c':Nat)(f:Nat→Nat)(aB:Nat→ByteArray)(qs:Nat→Option Addr)(w:World)(hn:n≤1099511627776)(hT:bD w)(ha:∀x,a=some x→x.spot=none)(hp:bj w a n f)
 (h1:∀i,i<n→w.cell? ⟨f i,1,none⟩=some (.pointer (qs i)))(h2:∀i,i<n→w.cell? ⟨f i,2,none⟩=some (.string (aB i)))(hB:∀i,i<n→aL (aB i)=true)(hd:∀i j,i<j→j<n→aB i≠aB j):
 Calls Tryz.prog 121 #[.slice a n c,.slice a' n c'] w fun e R=> ∃b a2,e= .returned (.pointer (some ⟨b,0,none⟩))∧w.heap.size≤b∧R.cell? ⟨b,0,none⟩=some (.slice a2 n (if a=none then 0 else c))∧(a=none∨a2=a)∧R.cell? ⟨b,1,none⟩=some (.slice a' n c')∧Below w.heap.size w R∧∃cs T,R.heap[b]?=some (.cells cs T (0,0)):=by
 have J:=Lib.hid hp;have S:=Lib.hid h1;have U:=Lib.hid h2;have G:=Lib.hid hB;have V:=Lib.hid hd;have W:=Lib.hid hT;have P9:=Lib.hid ha;clear hp h1 h2 hB hd hT ha;go_enter Tryz.func121,Tryz.ntmps121;go_wp2_with fail
 go_loopw [11] (fun i wr=> ∃(k:Nat)(m:Option Nat)(F:Value→Option Value),k≤n∧i= .int .i64 k∧fI wr w.heap.size m F∧r9 aB k F∧(∀t,m=some t→w.heap.size<t)∧Below w.heap.size w wr∧w.heap.size<wr.heap.size) (fun i _=>n- (intOf i).toNat)
 case atStart=>
  refine⟨0,none,fun _=>none,Nat.zero_le _,rfl,⟨by simp[go_sem],by simp[go_sem],fun _=>rfl,fun t h=>(by cases h)⟩,fun s h=>absurd rfl h,fun t h=>(by cases h),(Below.refl _ _).alloc (Nat.le_refl _) _,by simp⟩
 case round=>
  obtain⟨k,m,F,hk,rfl,hO,hN,hm,K,P_⟩:=hrel;have l:=Lib.hid hO;have L:=Lib.hid hN;have C:=Lib.hid hm;have g:=Lib.hid K;clear hO hN hm K;by_cases o:k<n
  ·have P8:(k:Int)<n:=by omega
   obtain⟨ab,ao,rfl,H⟩:=J.out k o;have hc:=(g.out.cell (p:=⟨ab,ao+k,none⟩) (World.block_lt_of_cell? _ _ H)).trans H;have u:=U.out k o;have M:=(g.out.cell (p:=⟨f k,2,none⟩) (World.block_lt_of_cell? _ _ u)).trans u;have y:=S.out k o;have N:=Lib.hid ((g.out.cell (p:=⟨f k,1,none⟩) (World.block_lt_of_cell? _ _ y)).trans y);have Qa:((aB k).toList== [95])=false:=by
    obtain⟨x,r,hx,O,D⟩:=rQ (G.out k o);rw[Lib.toList_data,hx];cases X:(x::r== [95])
    ·rfl
    ·have:=(List.cons.inj (eq_of_beq X)).1
     rw[this]at D;exact absurd D (by decide)
   have P:Hid (bD wr):=fun c O D=>by
    have:=W.out c O D;rw[g.out.cell (p:=⟨5,c,none⟩) (World.block_lt_of_cell? _ _ this)];exact this
   clear H u y;have E:∀(I:World)(t:Nat)(Y:Value→Option Value),Y=bp F (.string (aB k)) (.iface 102 (.pointer (some ⟨f k,0,none⟩)))→r9 aB (k+1) Y:=fun I t Y e s Z=>by
    rw[e]at Z;by_cases Q:s=aB k
    ·exact⟨k,by omega,Q.symm⟩
    ·rw[a7 F (fun h=>Q (by cases h;rfl))]at Z
     obtain⟨j,hj,e⟩:=L.out s Z;exact⟨j,by omega,e⟩
   have z:=Lib.hid E;clear E;match m,l,C with
   |none,l,C=>
    go_wp2_with fail
    refine(r8 102 rY w.heap.size (f k) _ (aB k) (G.out k o) F _ P.out l.out N.out M).mono ?_;rintro e I ⟨rfl,t,A,P4,q⟩;have B:=Lib.hid A;have d:=Lib.hid q;have P5:=q.size;clear A q l;go_wp2_with fail
    go_roundw
    case rel=>
     refine⟨k+1,some t,_,by omega,by go_num,B.out,z.out I t _ rfl,fun b e=> ?_,?_,by omega⟩
     ·cases e;omega
     ·exact g.out.trans ⟨d.out.os,d.out.tape,d.out.output,d.out.size,fun b hb=>d.out.block b (by omega) (by omega)⟩
    case measure=>simp[intOf];omega
   |some t,l,C=>
    have P4:=C.out t rfl;have P6:F (.string (aB k))=none:=by
     cases X:F (.string (aB k))with
     |none=>rfl
     |some v=>
      obtain⟨j,hj,e⟩:=L.out (aB k) (by rw[X];simp);exact absurd e (V.out j k hj o)
    go_wp2_with fail
    refine(r7 102 rY w.heap.size t (f k) _ (aB k) (G.out k o) F _ P.out l.out (by omega) N.out M P6).mono ?_;rintro e I ⟨rfl,A,q⟩;have B:=Lib.hid A;have d:=Lib.hid q;have P5:=q.size;clear A q l;go_wp2_with fail
    go_roundw
    case rel=>
     refine⟨k+1,some t,_,by omega,by go_num,B.out,z.out I t _ rfl,fun b e=> ?_,?_,by omega⟩
     ·cases e;omega
     ·exact g.out.trans ⟨d.out.os,d.out.tape,d.out.output,d.out.size,fun b hb=>d.out.block b (by omega) (by omega)⟩
    case measure=>simp[intOf];omega
  ·have Qb:¬(k:Int)<n:=by omega
   go_wp2_with fail
   cases a with
   |none=>
    refine(zy wr.heap.size n c _ (by simp[go_sem]) (by simp[go_sem])).mono ?_;rintro e I ⟨rfl,rfl⟩;go_wp2_with fail
    go_ret;have P7:n=0:=by
     rcases Nat.eq_zero_or_pos n with h|h
     ·exact h
     ·obtain⟨_,_,e,_⟩:=J.out 0 h;cases e
    subst P7;refine⟨wr.heap.size,rfl,(by omega),⟨some ⟨wr.heap.size+1,0,none⟩,(by simp[go_sem])⟩,(by simp[go_sem]),?_,?_⟩
    ·have:=g.out
     (repeat(first|with_reducible exact this|with_reducible refine Below.setCell ?_ ?_ _|with_reducible refine Below.alloc ?_ ?_ _|with_reducible refine Below.drew ?_));all_goals (first|omega|(simp;done)|(simp;omega))
    ·repeat(first|exact ou (by first|omega|(simp only[World.size_alloc];done)|(simp only[World.size_alloc];omega))|refine ov ?_|refine r_ ?_)
   |some x=>
    refine(zw wr.heap.size x n c _ (by simp[go_sem])).mono ?_;rintro e I ⟨rfl,rfl⟩;go_wp2_with fail
    go_ret;refine⟨wr.heap.size,rfl,(by omega),some x,(by simp[go_sem]),rfl,(by simp[go_sem]),?_,?_⟩
    ·have:=g.out
     (repeat(first|with_reducible exact this|with_reducible refine Below.setCell ?_ ?_ _|with_reducible refine Below.alloc ?_ ?_ _|with_reducible refine Below.drew ?_));all_goals (first|omega|(simp;done)|(simp;omega))
    ·repeat(first|exact ou (by first|omega|(simp only[World.size_alloc];done)|(simp only[World.size_alloc];omega))|refine ov ?_|refine r_ ?_)
end Go.Proofs.YtgbklbbknehefaaGreatDoor
namespace Go.Proofs.YtgbklbbknehefaaGreatDoor
open Go.RowKit TS
def bM(t:TypeId):Prop:=∃a i j,Tryz.prog.underlying t=some (.pointer a)∧Tryz.prog.info? t=some i∧i.comparable=true∧Tryz.prog.info? a=some j∧j.size≠0
theorem dZ{t a:TypeId}(h:Tryz.prog.underlying t=some (.pointer a))(h1:(Tryz.prog.info? t).map (·.comparable)=some true)(h2:(Tryz.prog.info? a).map (fun j=>j.size !=0)=some true):bM t:=by
 obtain⟨i,hi,b⟩:=Option.map_eq_some_iff.1 h1;obtain⟨j,c,d⟩:=Option.map_eq_some_iff.1 h2;exact⟨a,i,j,h,hi,b,c,by simpa using d⟩
theorem zB:bM 105:=dZ Tryz.underlying105 (by kernel_rfl) (by kernel_rfl)
theorem zC:bM 141:=dZ Tryz.underlying141 (by kernel_rfl) (by kernel_rfl)
theorem zD:bM 143:=dZ Tryz.underlying143 (by kernel_rfl) (by kernel_rfl)
theorem zE:bM 213:=dZ Tryz.underlying213 (by kernel_rfl) (by kernel_rfl)
theorem zF:bM 145:=dZ Tryz.underlying145 (by kernel_rfl) (by kernel_rfl)
theorem zG:bM 108:=dZ Tryz.underlying108 (by kernel_rfl) (by kernel_rfl)
theorem zH:bM 147:=dZ Tryz.underlying147 (by kernel_rfl) (by kernel_rfl)
theorem zI:bM 149:=dZ Tryz.underlying149 (by kernel_rfl) (by kernel_rfl)
theorem kO:bM 33:=dZ Tryz.underlying33 (by kernel_rfl) (by kernel_rfl)
theorem zJ:bM 66:=dZ Tryz.underlying66 (by kernel_rfl) (by kernel_rfl)
theorem sc:bM 189:=dZ Tryz.underlying189 (by kernel_rfl) (by kernel_rfl)
theorem mq:bM 109:=dZ Tryz.underlying109 (by kernel_rfl) (by kernel_rfl)
theorem zK:bM 139:=dZ Tryz.underlying139 (by kernel_rfl) (by kernel_rfl)
theorem zL:bM 73:=dZ Tryz.underlying73 (by kernel_rfl) (by kernel_rfl)
theorem jN{t:TypeId}(h:bM t)(w:World)(b c:Nat)(a:Plain w b)(d:Plain w c):(binOp .eql t (.pointer (some ⟨b,0,none⟩)) (.pointer (some ⟨c,0,none⟩))).run Tryz.prog w= .ok (.bool (decide (b=c))) w:=by
 obtain⟨n,i,j,f,hi,k,g,l⟩:=h;by_cases e:b=c
 ·subst e;rw[run_eql_ptr_same w _ f g];simp
 ·obtain⟨cs,T,a⟩:=a
  obtain⟨m,T',d⟩:=d;rw[run_eql_ptr_other w f g l (fun h=>e (by cases h;rfl)) a d];simp[e]
theorem oC{t t':TypeId}(h:bM t)(w:World)(b c:Nat)(f:Plain w b)(g:Plain w c):
 (binOp .eql 44 (.iface t (.pointer (some ⟨b,0,none⟩))) (.iface t' (.pointer (some ⟨c,0,none⟩)))).run Tryz.prog w= .ok (.bool (decide (t=t'∧b=c))) w:=by
 obtain⟨q,i,j,l,hi,a,m,n⟩:=h;by_cases k:t=t'
 ·subst k
  by_cases e:b=c
  ·subst e;rw[run_eql_iface_ptr_same w _ Tryz.underlying44 l hi a m];simp
  ·obtain⟨cs,T,f⟩:=f
   obtain⟨o,T',g⟩:=g;rw[run_eql_iface_ptr_other w Tryz.underlying44 l hi a m n (fun h=>e (by cases h;rfl)) f g];simp[e]
 ·have p:∀d,(Op.equalIn (d+1) 44 (.iface t (.pointer (some ⟨b,0,none⟩))) (.iface t' (.pointer (some ⟨c,0,none⟩)))).run Tryz.prog w= .ok false w:=fun d=>by simp[Op.equalIn,run_underlying Tryz.underlying44,k]
  simp only[binOp];simp[Op.equal,Op.maxDepth,p 9999,k]
theorem sd(b n c:Nat)(a:Option Addr)(w:World)(f:w.cell? ⟨b,0,none⟩=some (.slice a n c)):Calls Tryz.prog 197 #[.pointer (some ⟨b,0,none⟩)] w fun e d=>e= .returned (.int .i64 n)∧w=d:=by
 go_enter Tryz.func197,Tryz.ntmps197;go_wp2_with fail
 go_ret;exact⟨rfl,rfl⟩
theorem zM(b n c i:Nat)(a d:Nat)(s:ByteArray)(w:World)(h1:w.cell? ⟨b,1,none⟩=some (.slice (some ⟨a,d,none⟩) n c))(hi:i<n)(h:w.cell? ⟨a,d+i,none⟩=some (.string s)):
 Calls Tryz.prog 198 #[.pointer (some ⟨b,0,none⟩),.int .i64 i] w fun e f=>e= .returned (.string s)∧w=f:=by
 have g:(i:Int)<n:=by omega
 go_enter Tryz.func198,Tryz.ntmps198;go_wp2_with fail
 go_ret;exact⟨rfl,rfl⟩
theorem zN(b:Nat)(s:ByteArray)(a:aL s=true)(w:World)(hT:bD w)(h2:w.cell? ⟨b,2,none⟩=some (.string s)):Calls Tryz.prog 223 #[.pointer (some ⟨b,0,none⟩)] w fun e c=>e= .returned (.bool true)∧w=c:=by
 have d:=Lib.hid (mj s a w hT);clear a hT;go_enter Tryz.func223,Tryz.ntmps223;go_wp2_with fail
 refine d.out.mono ?_;rintro e c ⟨rfl,rfl⟩;go_wp2_with fail
 go_ret;exact⟨rfl,rfl⟩
theorem zO(b:Nat)(q:Option Addr)(s t:ByteArray)(a:aL s=true)(w:World)(hT:bD w)(h2:w.cell? ⟨b,2,none⟩=some (.string s)):
 Calls Tryz.prog 199 #[.pointer (some ⟨b,0,none⟩),.pointer q,.string t,.bool false] w fun e c=>e= .returned (.bool (s.toList==t.toList))∧w=c:=by
 have d:=Lib.hid (zN b s a w hT h2);clear a hT;cases f:(s.toList==t.toList)
 ·go_enter Tryz.func199,Tryz.ntmps199
  go_wp2_with fail
  go_ret;exact⟨rfl,rfl⟩
 ·go_enter Tryz.func199,Tryz.ntmps199
  go_wp2_with fail
  refine d.out.mono ?_;rintro e c ⟨rfl,rfl⟩;go_wp2_with fail
  go_ret;exact⟨rfl,rfl⟩
theorem kP(tb n c:Nat)(a:Option Addr)(w:World)(d:w.cell? ⟨tb,0,none⟩=some (.slice a n c)):Calls Tryz.prog 162 #[.pointer (some ⟨tb,0,none⟩)] w fun e b=>e= .returned (.int .i64 n)∧w=b:=by
 go_enter Tryz.func162,Tryz.ntmps162;go_wp2_with fail
 go_ret;exact⟨rfl,rfl⟩
theorem se(w:World):Calls Tryz.prog 162 #[.pointer none] w fun e a=>e= .returned (.int .i64 0)∧w=a:=by
 go_enter Tryz.func162,Tryz.ntmps162;go_wp2_with fail
 go_ret;exact⟨rfl,rfl⟩
theorem oD(b tb:Nat)(q:Option Addr)(pos:Int)(w:World)(c:w.cell? ⟨b,6,none⟩=some (.pointer (some ⟨tb,0,none⟩))):
 Calls Tryz.prog 66 #[.pointer q,.int .i64 pos,.pointer (some ⟨b,0,none⟩)] w fun e a=>e= .returned (.pointer (some ⟨tb,0,none⟩))∧w=a:=by
 go_enter Tryz.func66,Tryz.ntmps66;go_wp2_with fail
 go_ret;exact⟨rfl,rfl⟩
theorem gO(b tb:Nat)(w:World)(d:w.cell? ⟨b,0,none⟩=some (.pointer none))(c:w.cell? ⟨b,6,none⟩=some (.pointer (some ⟨tb,0,none⟩))):
 Calls Tryz.prog 40 #[.pointer (some ⟨b,0,none⟩)] w fun e a=>e= .returned (.pointer (some ⟨tb,0,none⟩))∧w=a:=by
 go_enter Tryz.func40,Tryz.ntmps40;go_wp2_with fail
 refine(oD b tb none 0 _ c).mono ?_;rintro e a ⟨rfl,rfl⟩;go_wp2_with fail
 go_ret;exact⟨rfl,rfl⟩
end Go.Proofs.YtgbklbbknehefaaGreatDoor
namespace TS
open Go Go.RowKit
theorem Plain.drewN{w:World}{b:Nat}(h:Plain w b)(n:Nat):Plain (w.drewN n) b:=h
end TS
namespace Go.Proofs.YtgbklbbknehefaaGreatDoor
open Go.RowKit TS
theorem mr(a:Option Addr)(n c:Nat)(f:Nat→Nat)(w:World)(d:bj w a n f):Calls Tryz.prog 176 #[.slice a n c] w fun e j=>e= .returned (.bool (decide (n=0)))∧w=j:=by
 by_cases b:n=0
 ·subst b
  go_enter Tryz.func176,Tryz.ntmps176;go_wp2_with fail
  go_loopw [7] (fun i wr=>i= .int .i64 0∧wr=w) (fun _ _=>0)
  case atStart=>exact⟨rfl,rfl⟩
  case round=>
   obtain⟨rfl,rfl⟩:=hrel;go_wp2_with fail
   go_ret;exact⟨rfl,rfl⟩
 ·obtain⟨l,m,rfl,k⟩:=d 0 (by omega)
  simp only[Nat.add_zero]at k;have g:(0:Int)<n:=by omega
  have h:decide (n=0)=false:=by simp[b]
  rw[h];clear d b h;go_enter Tryz.func176,Tryz.ntmps176;go_wp2_with fail
  go_loopw [7] (fun i wr=>i= .int .i64 0∧wr=w) (fun _ _=>0)
  case atStart=>exact⟨rfl,rfl⟩
  case round=>
   obtain⟨rfl,rfl⟩:=hrel;go_wp2_with fail
   go_ret;exact⟨rfl,rfl⟩
theorem sf(a:Option Addr)(n c:Nat)(f:Nat→Nat)(w:World)(b:bj w a n f)(g:0<n)(h1:w.cell? ⟨f 0,1,none⟩=some .nilIface):Calls Tryz.prog 148 #[.slice a n c] w fun e h=>e= .returned (.bool true)∧w=h:=by
 obtain⟨k,l,rfl,j⟩:=b 0 g;simp only[Nat.add_zero]at j;have d:(0:Int)<n:=by omega
 clear b;go_enter Tryz.func148,Tryz.ntmps148;go_wp2_with fail
 go_loopw [7] (fun i wr=>i= .int .i64 0∧wr=w) (fun _ _=>0)
 case atStart=>exact⟨rfl,rfl⟩
 case round=>
  obtain⟨rfl,rfl⟩:=hrel;go_wp2_with fail
  go_ret;exact⟨rfl,rfl⟩
theorem sh(a:Option Addr)(n c:Nat)(f:Nat→Nat)(w:World)(o:n≤1099511627776)(h:bj w a n f)(h1:∀i,i<n→∃t x,w.cell? ⟨f i,1,none⟩=some (.iface t x)):Calls Tryz.prog 148 #[.slice a n c] w fun e l=>e= .returned (.bool false)∧w=l:=by
 have d:=Lib.hid h;have g:=Lib.hid h1;clear h h1;go_enter Tryz.func148,Tryz.ntmps148;go_wp2_with fail
 go_loopw [7] (fun i wr=> ∃k:Nat,k≤n∧i= .int .i64 k∧wr=w) (fun i _=>n- (intOf i).toNat)
 case atStart=>exact⟨0,Nat.zero_le _,rfl,rfl⟩
 case round=>
  obtain⟨k,hk,rfl,rfl⟩:=hrel;by_cases b:k<n
  ·have j:(k:Int)<n:=by omega
   obtain⟨p,q,rfl,r⟩:=d.out k b;obtain⟨t,x,s⟩:=g.out k b;go_wp2_with fail
   refine⟨⟨k+1,by omega,by go_num,trivial⟩,?_⟩;first|omega|(simp[intOf];omega)
  ·have m:¬(k:Int)<n:=by omega
   go_wp2_with fail
   go_ret;exact⟨rfl,rfl⟩
theorem zP(x y:Nat)(w:World)(b:w.cell? ⟨y,1,none⟩=some .nilIface):Calls Tryz.prog 246 #[.pointer (some ⟨x,0,none⟩),.pointer (some ⟨y,0,none⟩)] w fun e a=>e= .returned (.bool true)∧w=a:=by
 go_enter Tryz.func246,Tryz.ntmps246;go_wp2_with fail
 go_ret;exact⟨rfl,rfl⟩
theorem zQ(a:Option Addr)(n c x:Nat)(f:Nat→Nat)(w:World)(b:bj w a n f)(h:0<n)(h1:w.cell? ⟨f 0,1,none⟩=some .nilIface):
 Calls Tryz.prog 235 #[.slice a n c,.pointer (some ⟨x,0,none⟩)] w fun e d=>e= .returned (.bool true)∧w=d:=by
 obtain⟨k,l,rfl,j⟩:=b 0 h;simp only[Nat.add_zero]at j;have g:(0:Int)<n:=by omega
 clear b;go_enter Tryz.func235,Tryz.ntmps235;go_wp2_with fail
 go_loopw [9] (fun i wr=>i= .int .i64 0∧wr=w) (fun _ _=>0)
 case atStart=>exact⟨rfl,rfl⟩
 case round=>
  obtain⟨rfl,rfl⟩:=hrel;go_wp2_with fail
  refine(zP _ _ _ h1).mono ?_;rintro e d ⟨rfl,rfl⟩;go_wp2_with fail
  go_ret;exact⟨rfl,rfl⟩
theorem si(a a':Option Addr)(n d c c':Nat)(f g:Nat→Nat)(w:World)(u:n≤1099511627776)(m:bj w a n f)(b:bj w a' d g)(h:0<d)(h1:w.cell? ⟨g 0,1,none⟩=some .nilIface):
 Calls Tryz.prog 224 #[.slice a n c,.slice a' d c'] w fun e j=>e= .returned (.bool true)∧w=j:=by
 have o:=Lib.hid (mr a' d c' g w b);have p:decide (d=0)=false:=by simp;omega
 rw[p]at o;have r:=Lib.hid fun x=>zQ a' d c' x g w b h h1;have s:=Lib.hid m;clear m b h1 p;go_enter Tryz.func224,Tryz.ntmps224;go_wp2_with fail
 refine o.out.mono ?_;rintro e j ⟨rfl,rfl⟩;go_wp2_with fail
 go_loopw [13] (fun i wr=> ∃k:Nat,k≤n∧i= .int .i64 k∧wr=w) (fun i _=>n- (intOf i).toNat)
 case atStart=>exact⟨0,Nat.zero_le _,rfl,rfl⟩
 case round=>
  obtain⟨k,hk,rfl,rfl⟩:=hrel;by_cases l:k<n
  ·have q:(k:Int)<n:=by omega
   obtain⟨v,y,rfl,z⟩:=s.out k l;go_wp2_with fail
   refine(r.out _).mono ?_;rintro e j ⟨rfl,rfl⟩;go_wp2_with fail
   refine⟨⟨k+1,by omega,by go_num,trivial⟩,?_⟩;first|omega|(simp[intOf];omega)
  ·have t:¬(k:Int)<n:=by omega
   go_wp2_with fail
   go_ret;exact⟨rfl,rfl⟩
theorem zR(a a':Option Addr)(n d c c':Nat)(f h:Nat→Nat)(w:World)(o:n≤1099511627776)(i:d≤1099511627776)(j:bj w a n f)(b:bj w a' d h)(p:0<n)(k:0<d)(h1:w.cell? ⟨f 0,1,none⟩=some .nilIface)(g:w.cell? ⟨h 0,1,none⟩=some .nilIface):
 Calls Tryz.prog 200 #[.slice a n c,.slice a' d c'] w fun e l=>e= .returned (.bool true)∧w=l:=by
 have q:=Lib.hid (si a a' n d c c' f h w o j b k g);have m:=Lib.hid (si a' a d n c' c h f w i b j p h1);clear j b h1 g;go_enter Tryz.func200,Tryz.ntmps200;go_wp2_with fail
 refine q.out.mono ?_;rintro e l ⟨rfl,rfl⟩;go_wp2_with fail
 refine m.out.mono ?_;rintro e l ⟨rfl,rfl⟩;go_wp2_with fail
 go_ret;exact⟨rfl,rfl⟩
theorem zS(b c ob oc:Nat)(w:World)(h1:w.cell? ⟨b,1,none⟩=some (.pointer (some ⟨ob,0,none⟩)))(h2:w.cell? ⟨c,1,none⟩=some (.pointer (some ⟨oc,0,none⟩)))(a:Plain w ob)(d:Plain w oc):
 Calls Tryz.prog 203 #[.pointer (some ⟨b,0,none⟩),.pointer (some ⟨c,0,none⟩)] w fun e f=>e= .returned (.bool (decide (ob=oc)))∧∃n,f=w.drewN n:=by
 have he:=fun n=>jN zL (w.drewN n) ob oc (a.drewN n) (d.drewN n);clear a d;go_enter Tryz.func203,Tryz.ntmps203;go_wp2_with fail
 go_quiet (fail)
 go_wp2_with fail
 go_ret;exact⟨rfl,_,rfl⟩
theorem zT(s q x y b c:Nat)(w:World)(t:w.cell? ⟨s,0,none⟩=some (.pointer (some ⟨x,0,none⟩)))(h1:w.cell? ⟨s,1,none⟩=some (.pointer (some ⟨y,0,none⟩)))(h2:w.cell? ⟨q,0,none⟩=some (.pointer (some ⟨b,0,none⟩)))(h3:w.cell? ⟨q,1,none⟩=some (.pointer (some ⟨c,0,none⟩)))
 (h:Plain w x)(l:Plain w y)(j:Plain w b)(k:Plain w c)(m:x≠b)(d:x=c→y≠b):
 Calls Tryz.prog 201 #[.pointer (some ⟨s,0,none⟩),.pointer (some ⟨q,0,none⟩)] w fun e r=>e= .returned (.bool false)∧∃n,r=w.drewN n:=by
 have o:=fun n=>jN kO (w.drewN n) x b (h.drewN n) (j.drewN n);have f:decide (x=b)=false:=by simp[m]
 rw[f]at o;by_cases e:x=c
 ·have g:=fun n=>jN kO (w.drewN n) x c (h.drewN n) (k.drewN n)
  have p:=fun n=>jN kO (w.drewN n) y b (l.drewN n) (j.drewN n);have a:decide (x=c)=true:=by simp[e]
  have i:decide (y=b)=false:=by simp[d e]
  rw[a]at g;rw[i]at p;clear h l j k m d e f a i;go_enter Tryz.func201,Tryz.ntmps201;go_wp2_with fail
  go_quiet (fail)
  go_wp2_with fail
  go_ret;exact⟨rfl,_,rfl⟩
 ·have g:=fun n=>jN kO (w.drewN n) x c (h.drewN n) (k.drewN n)
  have a:decide (x=c)=false:=by simp[e]
  rw[a]at g;clear h l j k m d e f a;go_enter Tryz.func201,Tryz.ntmps201;go_wp2_with fail
  go_quiet (fail)
  go_wp2_with fail
  go_ret;exact⟨rfl,_,rfl⟩
end Go.Proofs.YtgbklbbknehefaaGreatDoor
namespace TS
open Go Go.RowKit Go.Sort
def aq(w a:World):Prop:=∃(n:Nat)(os:Array Obj),a=grow (w.drewN n) os
theorem aq.refl(w:World):aq w w:=⟨0,#[],by simp[World.drewN]⟩
theorem aq.drewN(w:World)(n:Nat):aq w (w.drewN n):=⟨n,#[],by simp⟩
theorem aq.of(w:World)(n:Nat)(os:Array Obj):aq w (grow (w.drewN n) os):=⟨n,os,rfl⟩
theorem aq.alloc(w:World)(o:Obj):aq w (w.alloc o):=⟨0,#[o],by rw[alloc_eq_grow];rfl⟩
theorem aq.trans{a b c:World}(h:aq a b)(k:aq b c):aq a c:=by
 obtain⟨n,os,rfl⟩:=h;obtain⟨m,d,rfl⟩:=k;exact⟨n+m,os++d,by show grow (grow ((a.drewN n).drewN m) os) d=_;rw[grow_grow,World.drewN_drewN]⟩
theorem aq.block{w a:World}(h:aq w a){b:Nat}(c:b<w.heap.size):a.heap[b]?=w.heap[b]?:=by
 obtain⟨n,os,rfl⟩:=h;exact heap_grow_old (w.drewN n) os c
theorem aq.size{w a:World}(h:aq w a):w.heap.size≤a.heap.size:=by
 obtain⟨n,os,rfl⟩:=h;rw[size_grow];exact Nat.le_add_right _ _
theorem aq.below{w a:World}(h:aq w a):Below w.heap.size w a:=by
 have b:=h.size;have c:=fun k (hk:k<w.heap.size)=>h.block hk;obtain⟨n,os,rfl⟩:=h;exact⟨rfl,rfl,rfl,b,c⟩
theorem aq.cell{w b:World}(h:aq w b){a:Addr}{v:Value}(c:w.cell? a=some v):b.cell? a=some v:=by
 rw[World.cell?_of_block (w:=w) (h.block (World.block_lt_of_cell? _ _ c))];exact c
theorem aq.plain{w a:World}(h:aq w a){b:Nat}(d:Plain w b):Plain a b:=by
 obtain⟨cs,T,c⟩:=d;exact⟨cs,T,by rw[h.block (Array.getElem?_eq_some_iff.1 c).1];exact c⟩
theorem aq.kw{w a:World}(h:aq w a){p:Pm}(b:KW p w):KW p a:=b.grown h.below
theorem aq.cap{w a:World}(h:aq w a)(b:bD w):bD a:=fun c h1 h2=>h.cell (b c h1 h2)
end TS
