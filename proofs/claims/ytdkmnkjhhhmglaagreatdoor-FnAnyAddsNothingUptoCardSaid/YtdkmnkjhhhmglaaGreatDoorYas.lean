import Derived.Outline
import Derived.Test.YtdkmnkjhhhmglaaGreatDoorYap
set_option maxRecDepth 100000
set_option maxHeartbeats 8000000
set_option linter.all false
namespace TS
def U.dep(u:U):Nat:=(u.es.attach.foldl (fun n ⟨e,_⟩=>max n (U.dep e)) (u.un.attach.foldl (fun n ⟨e,_⟩=>max n (U.dep e)) 0))+1
termination_by u.sz
decreasing_by
 ·exact U.az ‹_›
 ·exact U.j8 ‹_›
theorem oq{α:Type}(f:α→Nat):∀(l:List α)(n:Nat),n≤l.foldl (fun n e=>max n (f e)) n∧∀e∈l,f e≤l.foldl (fun n e=>max n (f e)) n
 | [],n=>⟨Nat.le_refl _,fun e he=>by cases he⟩
 |a::r,n=>by
  have:=oq f r (max n (f a));refine⟨by have:=this.1;simp only[List.foldl_cons];omega,fun e he=> ?_⟩;rcases List.mem_cons.1 he with rfl|he
  ·have:=this.1;simp only[List.foldl_cons];omega
  ·exact this.2 e he
theorem U.mC(u:U):u.dep=(u.es.foldl (fun n e=>max n e.dep) (u.un.foldl (fun n e=>max n e.dep) 0))+1:=by
 rw[U.dep];congr 1;rw[←List.foldl_attach (l:=u.es) (f:=fun n e=>max n e.dep),←List.foldl_attach (l:=u.un) (f:=fun n e=>max n e.dep)]
theorem U.mD{u e:U}(h:e∈u.es):e.dep<u.dep:=by
 rw[U.mC u];have:=(oq U.dep u.es (u.un.foldl (fun n e=>max n e.dep) 0)).2 e h;omega
theorem U.Ap{u e:U}(h:e∈u.un):e.dep<u.dep:=by
 rw[U.mC u];have h1:=(oq U.dep u.es (u.un.foldl (fun n e=>max n e.dep) 0)).1;have h2:=(oq U.dep u.un 0).2 e h;omega
theorem U.qE(u:U):1≤u.dep:=by rw[U.mC];omega
theorem Aq:∀u:U,(bare u).dep≤u.dep:=by
 intro u;induction u using U.bg with
 |_ u ih=>
  rw[bare];split
  ·split
   ·rename_i e r he
    have h1:=U.mD (u:=u) (e:=e) (by rw[he];simp);have:=ih e (U.az (by rw[he];simp));omega
   ·exact Nat.le_refl _
  ·split
   ·have:bt.dep=1:=by rw[U.mC];rfl
    have:=u.qE;omega
   ·exact Nat.le_refl _
theorem uk(u:U):(under u).dep≤u.dep:=by
 have a:=Aq u;rw[under];split
 ·cases b:(bare u).un with
  |nil=>exact a
  |cons x r=>have:=U.Ap (u:=bare u) (e:=x) (by rw[b];simp);simp;omega
 ·exact a
theorem uo{u x:U}(h:x∈dH u):x.dep<u.dep:=by
 obtain⟨e,he,a⟩:=List.mem_flatMap.1 h;have h1:=U.mD (List.mem_of_mem_drop he);split at a
 ·have:=U.mD a;omega
 ·simp at a;subst a;exact h1
theorem uq{B:Int}(b:0≤B):∀{l:List U}{n:Int},(∀x∈l,0≤bT x∧bT x≤B+1)→0≤n→n≤51+B→0≤l.foldl bD n∧l.foldl bD n≤51+B
 | [],n,_,a,h1=>⟨a,h1⟩
 |x::r,n,h,a,h1=>by
  have d:=h x List.mem_cons_self;refine uq b (l:=r) (fun y c=>h y (List.mem_cons_of_mem _ c)) ?_ ?_<;>(unfold bD;split<;>(try split)<;>omega)
theorem Ar:∀u:U,0≤bT u∧bT u≤51*u.dep:=by
 intro u;induction u using U.bg with
 |_ u ih=>
  have b:=u.qE;by_cases h:(under u).k=10
  ·rw[jr h]
   have c:=uk u;have h2:=dE u;have:=uq (B:=51*((u.dep:Int)- 1)) (l:=dH (under u)) (n:=0) (by omega) (fun x a=>by
    have h1:=jq a;have h3:=uo a;have:=ih x (by omega);omega) (by omega) (by omega)
   omega
  ·rw[pY h];omega
end TS
namespace Go.Proofs.YtdkmnkjhhhmglaaGreatDoor
open Go.RowKit TS
def ur(D:Dl)(dc:Nat)(u:U):Prop:=
 ∀(p:Pm)(pos f:Nat)(a:Option Addr)(c:Nat)(w:World),Pl D.len u pos f→f≤2→f≠0→u.k≠12→u.k≠13→u.dep≤1125899906842624→ak p D u a c→KW p w→
  Calls Tryz.prog 119 #[.slice D.a D.len dc,.agg #[.int .i64 u.k,.int .i64 u.n,.int .i64 u.m,.bool u.v,.string u.nm,.string u.tg,.slice a u.es.length c]] w fun e b=>(∃n,e= .returned (.int .i64 n)∧Hid (n=bT u))∧Below w.heap.size w b
theorem As{len:Nat}{u:U}{pos f:Nat}(h:Pl len u pos f)(hk:u.k=10):∀x∈dH u,∃pos',Pl len x pos' 2∧x.k≠12:=by
 intro x b;obtain⟨e,he,b⟩:=List.mem_flatMap.1 b;have c:=h.elem hk he;split at b
 ·rename_i a
  obtain⟨i,hi,rfl⟩:=List.getElem_of_mem b;have:=c.part i hi;rw[show aV e i=1 by unfold aV;rw[if_pos a],show aN e i 2=2 by unfold aN;rw[if_pos rfl]]at this;refine⟨1,this,fun d=> ?_⟩;have g:=this.form;cases g<;>first|omega|(rename_i j _ _;omega)
 ·rename_i a
  simp at b;subst b;exact⟨2,c,a⟩
theorem mE{n:Int}(h:50<n):∀l:List U,l.foldl bD n=n
 | []=>rfl
 |x::r=>by rw[List.foldl_cons,show bD n x=n by unfold bD;rw[if_pos h]];exact mE h r
def cw(e:U):List U:=if e.k=12 then e.es else [e]
theorem Au(D:Dl)(dc:Nat):∀u,ur D dc u:=by
 intro u;induction u using U.bg with
 |_ u ih=>
  intro p pos f a c w hP hf Qf Qg Qh hd hu hw;obtain⟨f',QN,QJ,T,hk,P0⟩:=hP.under hf Qf Qg Qh;have hC:=fun W J=>jv p D dc u pos f a c W hP hf Qf Qg Qh hu J;have ag:Up p w (w.alloc (.cells #[.int .i64 u.k,.int .i64 u.n,.int .i64 u.m,.bool u.v,.string u.nm,.string u.tg,.slice a u.es.length c] 25)):=(Up.refl hw).alloc _;have P1:= @jr u;have P2:= @pY u;have Qi:=uk u;generalize bT u=r at*;generalize under u=v at*;cases bU:v.k==10
  ·have n10:(v.k !=10)=true:=by simp[bne,bU]
   have hF:=Lib.hid (P2 (by simpa using bU));clear P1 P2 ih hP T hk P0;go_enter Tryz.func119,Tryz.ntmps119;go_wp2_with fail
   refine(hC _ ag.kw).mono ?_;rintro e1 w1 ⟨q,a1,c1,rfl,hg,P3,PU,aa⟩;have Qy:=(ag.step aa).up.alloc (ag.step aa).up.size (.cells #[.int .i64 v.k,.int .i64 v.n,.int .i64 v.m,.bool v.v,.string v.nm,.string v.tg,.slice a1 v.es.length c1] 25);clear hC aa;go_wp2_with fail
   go_ret;exact⟨⟨_,rfl,hF.out.symm⟩,Qy⟩
  ·have n10:(v.k !=10)=false:=by simp[bne,bU]
   have V:v.k=10:=by simpa using bU
   have hF:=Lib.hid (P1 V);obtain⟨P4,Qj,h4⟩:=T.form.lh V;have hT:=Lib.hid fun x (O:x∈dH v)=>(⟨ih x (Nat.lt_of_lt_of_le (jq O) P0),As T V x O,Nat.le_trans (Nat.le_of_lt (Nat.lt_of_lt_of_le (uo O) Qi)) hd⟩:ur D dc x∧(∃pos',Pl D.len x pos' 2∧x.k≠12)∧x.dep≤1125899906842624)
   have P:Hid (dH v=(v.es.drop v.m.toNat).flatMap cw):=rfl;have Qk:=Lib.hid fun e he=>(T.elem V (e:=e) he).form;clear P1 P2 ih hP T hk P0 V hd Qi;have Qz:max v.m 0=v.m:=by omega
   have Ql:v.m≤v.es.length:=by omega
   go_enter Tryz.func119,Tryz.ntmps119;go_wp2_with fail
   refine(hC _ ag.kw).mono ?_;rintro e1 w1 ⟨q,a1,c1,rfl,hg,P3,PU,aa⟩;have P5:=ag.step aa;have X:=PU.cap;have Qm:Up q w (w1.alloc (.cells #[.int .i64 v.k,.int .i64 v.n,.int .i64 v.m,.bool v.v,.string v.nm,.string v.tg,.slice a1 v.es.length c1] 25)):=⟨P3.alloc _,P5.up.alloc P5.up.size _⟩
   have QA:=X.1;have QB:=X.2;have P6:v.m.toNat<c1∨c1=v.m.toNat:=by omega
   clear hC aa X ag P5 P3 hg;have Y:=Lib.hid Qm;clear Qm;rcases P6 with P6|rfl
   rotate_left
   ·have Qn:v.es.drop v.m.toNat= []:=List.drop_eq_nil_of_le (by omega)
    have hR:Hid (r=0):=by unfold Hid;rw[hF.out,P.out,Qn];rfl
    have hB:=Lib.hid Y.out.up;clear Qn hF P hT Qk;go_wp2_with fail
    refine wp_loop_rounds 1 ?_;rw[rounds_succ];go_wp2_with fail
    go_ret;exact⟨⟨_,rfl,hR.out.symm⟩,hB.out⟩
   go_wp2_with fail
   have hL:=PU.list.cut _ Qj;have hlen:(v.es.drop v.m.toNat).length=v.es.length- v.m.toNat:=by simp
   have QK:v.es.length- v.m.toNat≤4:=by omega
   clear Qz Ql P4 Qj h4 QA QB P6 PU;generalize Option.map (fun x=>Addr.add x (v.m.toNat*7)) a1=a2 at*;generalize v.es.length- v.m.toNat=n2 at*;generalize c1- v.m.toNat=c2 at*;generalize dH v=tl at*;generalize v.es.drop v.m.toNat=ds at*;subst hlen;go_loopw [6,24] (fun s i wr=> ∃(k:Nat)(n:Int),k≤ds.length∧i= .int .i64 k∧s= .int .i64 n∧0≤n∧n≤576460752303423488∧n=((ds.take k).flatMap cw).foldl bD 0∧Up q w wr) (fun _ i _=>ds.length- (intOf i).toNat)
   case atStart=>exact⟨0,0,Nat.zero_le _,rfl,rfl,by omega,by omega,rfl,Y.out⟩
   case round=>
    clear Y;obtain⟨k,n,hk,rfl,rfl,QC,QD,hn,hU⟩:=hrel;have Z:=Lib.hid hn;clear hn;by_cases PV:k<ds.length
    ·obtain⟨b,o,rfl⟩:=hL.bN (by omega)
     obtain⟨a',c',h7,PM⟩:=hL.get k PV;have Q:Hid ((ds.take (k+1)).flatMap cw=(ds.take k).flatMap cw++cw ds[k]):=by
      unfold Hid;rw[List.take_succ_eq_append_getElem PV,List.flatMap_append];simp
     have K:Hid (ds.flatMap cw=(ds.take k).flatMap cw++cw ds[k]++(ds.drop (k+1)).flatMap cw):=by
      unfold Hid;rw[←Q.out,←List.flatMap_append,List.take_append_drop]
     have R:=Lib.hid fun x (O:x∈cw ds[k])=>hT.out x (by rw[P.out];exact List.mem_flatMap.2 ⟨_,List.getElem_mem PV,O⟩);have P7:=Qk.out ds[k] (List.getElem_mem PV);obtain⟨e,he⟩:∃e,e=ds[k]:=⟨_,rfl⟩
     rw[←he]at h7 PM Q K R P7;clear he;obtain⟨g0,g1,g2,g3,g4,g5,g6⟩:TS.C7 wr b (o+k*7) e a' c':=h7.world hU.kw;clear h7;have QL:(k:Int)<ds.length:=by omega
     have PW:=hU.alloc (.cells #[.int .i64 e.k,.int .i64 e.n,.int .i64 e.m,.bool e.v,.string e.nm,.string e.tg,.slice a' e.es.length c'] 25);have PN:=PW.alloc (.cells #[.int .i64 e.k,.int .i64 e.n,.int .i64 e.m,.bool e.v,.string e.nm,.string e.tg,.slice a' e.es.length c'] 25);have PO:=PM.cap;have key:∀(M:Pm)(W:World)(ts:List U)(a3:Option Addr)(n3 c3:Nat),n3=ts.length→ts=cw e→aj M D ts a3→Up M w W→Sub q M→Hid (Up M w W∧aj M D ts a3∧n3=ts.length∧ts=cw e∧Sub q M):=fun _ _ _ _ _ _ h1 h2 h3 h4 h5=>⟨h4,h3,h1,h2,h5⟩
     have PY:∀x∈cw e,0≤bT x∧bT x≤57420895248973824:=fun x O=>by
      have h1:=Ar x;have h2:=(R.out x O).2.2;omega
     have F:=Lib.hid PY;have N:(cw e).length≤1048576:=by
      unfold cw;split
      ·omega
      ·simp
     clear PY;obtain⟨wo,P8⟩:∃wo:World,wo=wr:=⟨_,rfl⟩
     rw[←P8]at hU PW PN g0 g1 g2 g3 g4 g5 g6;rw[←P8];clear P8 wr;cases P9:e.k==12
     ·have B:cw e= [e]:=by unfold cw;rw[if_neg (by simpa using P9)]
      have QM:e.k≠12:=by simpa using P9
      have d:Hid (((ds.take (k+1)).flatMap cw).foldl bD 0=bD n e):=by
       unfold Hid;rw[Q.out,B,List.foldl_append,←Z.out];rfl
      have g:Hid (50<n→n=r):=fun h=>by
       rw[hF.out,P.out,K.out,List.foldl_append,List.foldl_append,←Z.out,mE h,mE h]
      obtain⟨A,⟨L,t,E⟩,PX⟩:=R.out e (by rw[B];simp);obtain⟨Qo,Qp⟩:=F.out e (by rw[B];simp);have l:=Lib.hid (PN.alloc (.cells #[.int .i64 e.k,.int .i64 e.n,.int .i64 e.m,.bool e.v,.string e.nm,.string e.tg,.slice a' e.es.length c'] 25));clear key B hU PW PN PO Q K R F P7 N;by_cases h:50<n
      ·have hR:=Lib.hid (g.out h)
       have t50:decide (50<n)=true:=by simp[h]
       have hB:=Lib.hid l.out.up;clear d g A t;go_wp2_with fail
       refine wp_loop_rounds 2 ?_;rw[rounds_succ];go_wp2_with fail
       go_ret;exact⟨⟨_,rfl,hR.out⟩,hB.out⟩
      have t50:decide (50<n)=false:=by simp;omega
      have n50:n≤50:=by omega
      cases G:e.k==13
      case true=>
       have hA:Hid (n+1=((ds.take (k+1)).flatMap cw).foldl bD 0):=by unfold Hid;rw[d.out,bD,if_neg h,G];rfl
       clear d g A t h;go_wp2_with fail
       refine wp_loop_rounds 2 ?_;rw[rounds_succ];go_wp2_with fail
       rw[rounds_succ];go_wp2_with fail
       go_roundw
       case rel=>exact⟨k+1,n+1,by omega,by go_num,rfl,by omega,by omega,hA.out,l.out⟩
       case measure=>simp only[intOf];omega
      have y:e.k≠13:=by simpa using G
      have hI:=fun W J=>iA q D dc e L 2 a' c' W t (by omega) (by omega) E y PM J;cases hi:isIface e
      ·have C:=fun W J=>aW (hI W J) hi
       have hA:Hid (n+1=((ds.take (k+1)).flatMap cw).foldl bD 0):=by unfold Hid;rw[d.out,bD,if_neg h,G,hi];rfl
       clear d g A t h hI hi y;go_wp2_with fail
       refine wp_loop_rounds 2 ?_;rw[rounds_succ];go_wp2_with fail
       refine(C _ l.out.kw).mono ?_;rintro e1 w3 ⟨rfl,z⟩;have H:=Lib.hid (l.out.step z);clear z C;go_wp2_with fail
       rw[rounds_succ];go_wp2_with fail
       go_roundw
       case rel=>exact⟨k+1,n+1,by omega,by go_num,rfl,by omega,by omega,hA.out,H.out⟩
       case measure=>simp only[intOf];omega
      ·have C:=fun W J=>aW (hI W J) hi
       have hA:Hid (n+bT e=((ds.take (k+1)).flatMap cw).foldl bD 0):=by unfold Hid;rw[d.out,bD,if_neg h,G,hi];rfl
       have PQ:=fun W (J:KW q W)=>A q L 2 a' c' W t (by omega) (by omega) E y PX PM J;clear d g A t h hI hi y;generalize bT e=wx at*;go_wp2_with fail
       refine wp_loop_rounds 2 ?_;rw[rounds_succ];go_wp2_with fail
       refine(C _ l.out.kw).mono ?_;rintro e1 w3 ⟨rfl,z⟩;have H:=Lib.hid (l.out.step z);obtain⟨y0,y1,y2,y3,y4,y5,y6⟩:TS.L7 w3 (wo.heap.size+1+1) e a' c':=by
        repeat' apply And.intro
        all_goals exact cell_kept z (by first|(simp[go_sem];done)|(go_keep;done))
       clear z C;go_wp2_with fail
       refine(PQ _ H.out.kw).mono ?_;rintro e1 w4 ⟨⟨nx,rfl,P_⟩,PR⟩;have PS:=P_.out;subst PS;have Qa:=Lib.hid (H.out.step PR);clear PR PQ;go_wp2_with fail
       rw[rounds_succ];go_wp2_with fail
       go_roundw
       case rel=>exact⟨k+1,n+nx,by omega,by go_num,rfl,by omega,by omega,hA.out,Qa.out⟩
       case measure=>simp only[intOf];omega
     ·have B:cw e=e.es:=by unfold cw;rw[if_pos (by simpa using P9)]
      have Qq:=key q _ e.es a' e.es.length c' rfl B.symm PM.list PN (.refl _);obtain⟨M,hX⟩:∃M,Hid (Up M w ((wo.alloc (.cells #[.int .i64 e.k,.int .i64 e.n,.int .i64 e.m,.bool e.v,.string e.nm,.string e.tg,.slice a' e.es.length c'] 25)).alloc (.cells #[.int .i64 e.k,.int .i64 e.n,.int .i64 e.m,.bool e.v,.string e.nm,.string e.tg,.slice a' e.es.length c'] 25))∧aj M D e.es a'∧e.es.length=e.es.length∧e.es=cw e∧Sub q M):=⟨q,Qq⟩
      clear Qq;clear key B hU PW PN PO;go_wp2_with fail
      obtain⟨Qr,Qs,_,S,Qt⟩:=hX.out;have PZ:=Lib.hid Qr;have Qb:Hid (ds.flatMap cw=(ds.take k).flatMap cw++e.es++(ds.drop (k+1)).flatMap cw):=by unfold Hid;rw[S];exact K.out
      have Qu:Hid ((ds.take (k+1)).flatMap cw=(ds.take k).flatMap cw++e.es):=by unfold Hid;rw[S];exact Q.out
      have Qc:=Lib.hid fun x (O:x∈e.es)=>F.out x (by rw[←S];exact O);have QE:=Lib.hid fun x (O:x∈e.es)=>R.out x (by rw[←S];exact O);have QF:((e.es.length:Nat):Int)≤1048576:=by have:=N;rw[←S]at this;simp at this⊢ <;>omega
      have Qv:=Lib.hid Qt;clear hX S Qt Qr K Q F R N P7;go_loopw [6,11,37] (fun s _ i W=> ∃(j:Nat)(m:Int),j≤e.es.length∧i= .int .i64 j∧s= .int .i64 m∧0≤m∧m≤576460752303423488∧m=(e.es.take j).foldl bD n∧Up M w W) (fun _ _ i _=>e.es.length- (intOf i).toNat)
      case atStart=>exact⟨0,n,Nat.zero_le _,rfl,rfl,QC,QD,rfl,PZ.out⟩
      case round=>
       clear PZ;obtain⟨j,m,hj,rfl,rfl,P4,QG,hm,PT⟩:=hrel;have Qd:=Lib.hid hm;clear hm;by_cases Qw:j<e.es.length
       ·have I:j<e.es.length:=by simpa using Qw
        obtain⟨b3,o3,rfl⟩:=Qs.bN (by omega);obtain⟨a5,c5,h7,Qe⟩:=Qs.get j I;have d:Hid ((e.es.take (j+1)).foldl bD n=bD m e.es[j]):=by
         unfold Hid;rw[List.take_succ_eq_append_getElem I,List.foldl_append,←Qd.out];rfl
        have g:Hid (50<m→m=r):=fun h=>by
         have e1:ds.flatMap cw=(ds.take k).flatMap cw++e.es.take j++(e.es.drop j++(ds.drop (k+1)).flatMap cw):=by
          rw[Qb.out];conv=>lhs;rw[←List.take_append_drop j e.es]
          simp only[List.append_assoc]
         rw[hF.out,P.out,e1];simp only[List.foldl_append];rw[←Z.out,←Qd.out,mE h,mE h]
        obtain⟨A,⟨L,t,E⟩,PX⟩:=QE.out _ (List.getElem_mem I);obtain⟨Qo,Qp⟩:=Qc.out _ (List.getElem_mem I);obtain⟨x,O⟩:∃x,x=e.es[j]:=⟨_,rfl⟩
        rw[←O]at h7 Qe d A t E PX Qo Qp;clear O;obtain⟨z0,z1,z2,z3,z4,z5,z6⟩:TS.C7 wr b3 (o3+j*7) x a5 c5:=h7.world PT.kw;clear h7;have QH:(j:Int)<e.es.length:=by omega
        have Qx:=PT.alloc (.cells #[.int .i64 x.k,.int .i64 x.n,.int .i64 x.m,.bool x.v,.string x.nm,.string x.tg,.slice a5 x.es.length c5] 25);have l:=Lib.hid Qx;clear Qx;by_cases h:50<m
        ·have hR:=Lib.hid (g.out h)
         have t50:decide (50<m)=true:=by simp[h]
         have hB:=Lib.hid l.out.up;clear d g A t;go_wp2_with fail
         go_ret;exact⟨⟨_,rfl,hR.out⟩,hB.out⟩
        have t50:decide (50<m)=false:=by simp;omega
        have n50:m≤50:=by omega
        cases G:x.k==13
        case true=>
         have hA:Hid (m+1=(e.es.take (j+1)).foldl bD n):=by unfold Hid;rw[d.out,bD,if_neg h,G];rfl
         clear d g A t h;go_wp2_with fail
         go_roundw
         case rel=>exact⟨j+1,m+1,by omega,by go_num,rfl,by omega,by omega,hA.out,l.out⟩
         case measure=>simp only[intOf];omega
        have y:x.k≠13:=by simpa using G
        have hI:=fun W J=>iA M D dc x L 2 a5 c5 W t (by omega) (by omega) E y Qe J;cases hi:isIface x
        ·have C:=fun W J=>aW (hI W J) hi
         have hA:Hid (m+1=(e.es.take (j+1)).foldl bD n):=by unfold Hid;rw[d.out,bD,if_neg h,G,hi];rfl
         clear d g A t h hI hi y;go_wp2_with fail
         refine(C _ l.out.kw).mono ?_;rintro e1 w3 ⟨rfl,z⟩;have H:=Lib.hid (l.out.step z);clear z C;go_wp2_with fail
         go_roundw
         case rel=>exact⟨j+1,m+1,by omega,by go_num,rfl,by omega,by omega,hA.out,H.out⟩
         case measure=>simp only[intOf];omega
        ·have C:=fun W J=>aW (hI W J) hi
         have hA:Hid (m+bT x=(e.es.take (j+1)).foldl bD n):=by unfold Hid;rw[d.out,bD,if_neg h,G,hi];rfl
         have PQ:=fun W (J:KW M W)=>A M L 2 a5 c5 W t (by omega) (by omega) E y PX Qe J;clear d g A t h hI hi y;generalize bT x=wx at*;go_wp2_with fail
         refine(C _ l.out.kw).mono ?_;rintro e1 w3 ⟨rfl,z⟩;have H:=Lib.hid (l.out.step z);obtain⟨y0,y1,y2,y3,y4,y5,y6⟩:TS.L7 w3 wr.heap.size x a5 c5:=by
          repeat' apply And.intro
          all_goals exact cell_kept z (by first|(simp[go_sem];done)|(go_keep;done))
         clear z C;go_wp2_with fail
         refine(PQ _ H.out.kw).mono ?_;rintro e1 w4 ⟨⟨nx,rfl,P_⟩,PR⟩;have PS:=P_.out;subst PS;have Qa:=Lib.hid (H.out.step PR);clear PR PQ;go_wp2_with fail
         go_roundw
         case rel=>exact⟨j+1,m+nx,by omega,by go_num,rfl,by omega,by omega,hA.out,Qa.out⟩
         case measure=>simp only[intOf];omega
       ·have hM:Hid (m=((ds.take (k+1)).flatMap cw).foldl bD 0):=by
         unfold Hid;rw[Qu.out,List.foldl_append,←Z.out,Qd.out,List.take_of_length_le (by first|omega|(simp;omega))]
        have QI:=Lib.hid (⟨PT.kw.sub Qv.out,PT.up⟩:Up q w wr);clear PT;go_wp2_with fail
        go_roundw
        case rel=>exact⟨k+1,m,by omega,by go_num,rfl,P4,QG,hM.out,QI.out⟩
        case measure=>simp only[intOf];omega
    ·have hR:Hid (n=r):=by unfold Hid;rw[Z.out,hF.out,P.out,List.take_of_length_le (by omega)]
     have hB:=hU.up;go_wp2_with fail
     go_ret;exact⟨⟨_,rfl,hR.out⟩,hB⟩
end Go.Proofs.YtdkmnkjhhhmglaaGreatDoor
