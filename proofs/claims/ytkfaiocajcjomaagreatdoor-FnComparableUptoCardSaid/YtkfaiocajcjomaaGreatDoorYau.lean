import Derived.RegionTactic
import Derived.Test.YtkfaiocajcjomaaGreatDoorYas
set_option maxRecDepth 100000
set_option maxHeartbeats 8000000
set_option linter.all false
namespace TS
theorem eK{x:U}(h:x.k≠13):aD x=x:=by unfold aD;rw[if_neg h]
theorem gT{x e:U}(h:x.k=13)(he:x.es= [e]):aD x=e:=by unfold aD;rw[if_pos h,he];rfl
theorem Form.gU{len:Nat}{u:U}{pos f:Nat}(h:Form len u pos f)(hk:u.k=13):u.es.length=1:=by
 cases h with
 |kp _ _ he=>exact he
 |pre a _=>omega
 |one a _ _=>omega
 |ptr a _ _ _=>omega
 |_=>omega
theorem Pl.aD{len:Nat}{x:U}{pos:Nat}(h:Pl len x pos 2)(a:x.k≠12):∃pos',Pl len (aD x) pos' 2∧(TS.aD x).k≠12∧(TS.aD x).k≠13:=by
 by_cases hk:x.k=13
 ·have h1:=h.form.gU hk
  obtain⟨e,he⟩:=cU h1;have b:=h.part 0 (by omega);have c:x.es[0]'(by omega)=e:=by simp[he]
  rw[c,show aS x 0=0 by unfold aS;rw[if_neg a,if_neg (by omega)],show aJ x 0 2=2 by unfold aJ;rw[if_pos rfl]]at b;rw[gT hk he];exact⟨0,b,b.form.aB⟩
 ·rw[eK hk];exact⟨pos,h,a,hk⟩
theorem Names.aD{NS:List (List UInt8)}{x:U}(h:Names NS x):Names NS (aD x):=by
 unfold TS.aD;split
 ·cases he:x.es with
  |nil=>exact h
  |cons e r=>exact(h.es (by rw[he];simp)).2
 ·exact h
end TS
namespace Go.Proofs.YtkfaiocajcjomaaGreatDoor
open Go.RowKit TS
theorem xz(p:Pm)(D:Dl)(dc:Nat)(NS:List (List UInt8))(Qg:NS.length≤1048576)(x y:U)(px py:Nat)(a:Option Addr)(c:Nat)(a':Option Addr)(c':Nat)(w:World)(X:Pl D.len x px 2)(Y:Pl D.len y py 2)
 (Qe:x.k≠12)(Qf:y.k≠12)(Z:Names NS x)(P3:Names NS y)(M:isIface (aD x)=false→aP (aD x)∧aP (under (aD x)))(N:isIface (aD y)=false→aP (aD y)∧aP (under (aD y)))
 (Qa:aj p D x a c)(Qb:aj p D y a' c')(hw:KW p w):
 Calls Tryz.prog 136 #[.slice D.a D.len dc,.agg #[.int .i64 x.k,.int .i64 x.n,.int .i64 x.m,.bool x.v,.string x.nm,.string x.tg,.slice a x.es.length c],.agg #[.int .i64 y.k,.int .i64 y.n,.int .i64 y.m,.bool y.v,.string y.nm,.string y.tg,.slice a' y.es.length c']] w (RB (ey x y) w):=by
 obtain⟨r,hr⟩:∃r,r=ey x y:=⟨_,rfl⟩
 rw[←hr];have Qo:=Lib.hid hr;clear hr;have ag:Up p w ((w.alloc (.cells #[.int .i64 x.k,.int .i64 x.n,.int .i64 x.m,.bool x.v,.string x.nm,.string x.tg,.slice a x.es.length c] 25)).alloc (.cells #[.int .i64 y.k,.int .i64 y.n,.int .i64 y.m,.bool y.v,.string y.nm,.string y.tg,.slice a' y.es.length c'] 25)):=((Up.refl hw).alloc _).alloc _;have HH:=Lib.hid (And.intro X (And.intro Y (And.intro Z (And.intro P3 (And.intro M N)))));clear X Y Z P3 M N;go_enter Tryz.func136,Tryz.ntmps136;go_upto_region 1 with fail
 go_cut [7,8] (fun s7 s8 d=> ∃g h,s7= .pointer (some ⟨g,0,none⟩)∧s8= .pointer (some ⟨h,0,none⟩)∧w.heap.size+1<g∧w.heap.size+1<h∧g≠h∧(d.cell? ⟨w.heap.size,0,none⟩=some (.int .i64 x.k)∧d.cell? ⟨w.heap.size,1,none⟩=some (.int .i64 x.n)∧d.cell? ⟨w.heap.size,2,none⟩=some (.int .i64 x.m)∧d.cell? ⟨w.heap.size,3,none⟩=some (.bool x.v)∧d.cell? ⟨w.heap.size,4,none⟩=some (.string x.nm)∧d.cell? ⟨w.heap.size,5,none⟩=some (.string x.tg)∧d.cell? ⟨w.heap.size,6,none⟩=some (.slice a x.es.length c))∧(d.cell? ⟨w.heap.size+1,0,none⟩=some (.int .i64 y.k)∧d.cell? ⟨w.heap.size+1,1,none⟩=some (.int .i64 y.n)∧d.cell? ⟨w.heap.size+1,2,none⟩=some (.int .i64 y.m)∧d.cell? ⟨w.heap.size+1,3,none⟩=some (.bool y.v)∧d.cell? ⟨w.heap.size+1,4,none⟩=some (.string y.nm)∧d.cell? ⟨w.heap.size+1,5,none⟩=some (.string y.tg)∧d.cell? ⟨w.heap.size+1,6,none⟩=some (.slice a' y.es.length c'))∧L7 d g x a c∧L7 d h y a' c'∧(∀o,d.frozen? ⟨g,o,none⟩=false)∧(∀o,d.frozen? ⟨h,o,none⟩=false)∧Up p w d)
 case first=>
  go_region
  all_goals
   go_wp2_with fail
   go_meet
   refine⟨_,_,rfl,rfl,by omega,by omega,by omega,?_,?_,?_,?_,?_,?_,((ag.alloc _).alloc _).drew⟩
   ·(repeat' apply And.intro)<;>simp[go_sem]
   ·(repeat' apply And.intro)<;>simp[go_sem]
   ·(repeat' apply And.intro)<;>simp[go_sem]
   ·(repeat' apply And.intro)<;>simp[go_sem]
   ·intro o;simp[go_sem]
   ·intro o;simp[go_sem]
 case rest=>
  obtain⟨g,h,rfl,rfl,hg,hh,Qv,⟨x0,x1,x2,x3,x4,x5,x6⟩,⟨y0,y1,y2,y3,y4,y5,y6⟩,⟨u0,u1,u2,u3,u4,u5,u6⟩,⟨v0,v1,v2,v3,v4,v5,v6⟩,fg,fh,u⟩:=hcut;clear ag;go_upto_if 13 with fail
  go_cut [] (fun d=> ∃a1 c1,aj p D (aD x) a1 c1∧(d.cell? ⟨w.heap.size,0,none⟩=some (.int .i64 x.k)∧d.cell? ⟨w.heap.size,1,none⟩=some (.int .i64 x.n)∧d.cell? ⟨w.heap.size,2,none⟩=some (.int .i64 x.m)∧d.cell? ⟨w.heap.size,3,none⟩=some (.bool x.v)∧d.cell? ⟨w.heap.size,4,none⟩=some (.string x.nm)∧d.cell? ⟨w.heap.size,5,none⟩=some (.string x.tg)∧d.cell? ⟨w.heap.size,6,none⟩=some (.slice a x.es.length c))∧(d.cell? ⟨w.heap.size+1,0,none⟩=some (.int .i64 y.k)∧d.cell? ⟨w.heap.size+1,1,none⟩=some (.int .i64 y.n)∧d.cell? ⟨w.heap.size+1,2,none⟩=some (.int .i64 y.m)∧d.cell? ⟨w.heap.size+1,3,none⟩=some (.bool y.v)∧d.cell? ⟨w.heap.size+1,4,none⟩=some (.string y.nm)∧d.cell? ⟨w.heap.size+1,5,none⟩=some (.string y.tg)∧d.cell? ⟨w.heap.size+1,6,none⟩=some (.slice a' y.es.length c'))∧L7 d g (aD x) a1 c1∧L7 d h y a' c'∧(∀o,d.frozen? ⟨g,o,none⟩=false)∧(∀o,d.frozen? ⟨h,o,none⟩=false)∧Up p w d)
  case first=>
   by_cases f:x.k=13
   ·have t13:(x.k==13)=true:=by simp[f]
    have h1:=HH.out.1.form.gU f;obtain⟨e,he⟩:=cU h1;have Qp:=gT f he;have hl:0<x.es.length:=by omega
    have Qr:(0:Int)<x.es.length:=by omega
    obtain⟨b,o,rfl⟩:=Qa.list.bC (by omega);obtain⟨a5,c5,h7,P4⟩:=Qa.list.get 0 (by omega);have P5:x.es[0]'(by omega)=e:=by simp[he]
    simp only[P5,Nat.zero_mul,Nat.add_zero]at h7 P4;obtain⟨z0,z1,z2,z3,z4,z5,z6⟩:(wc.cell? ⟨b,o,none⟩=some (.int .i64 e.k)∧wc.cell? ⟨b,o+1,none⟩=some (.int .i64 e.n)∧wc.cell? ⟨b,o+2,none⟩=some (.int .i64 e.m)∧wc.cell? ⟨b,o+3,none⟩=some (.bool e.v)∧wc.cell? ⟨b,o+4,none⟩=some (.string e.nm)∧wc.cell? ⟨b,o+5,none⟩=some (.string e.tg)∧wc.cell? ⟨b,o+6,none⟩=some (.slice a5 e.es.length c5)):=h7.world u.kw;have hb:=u.kw.lt h7.1;have Qs:∀o,p g o=none:=fun o=>hw.aI (by omega) o;have Qw:b≠g:=fun e=>by have:=h7.1;rw[e,Qs]at this;cases this
    have l:=Lib.hid Qp;have Qt:=Lib.hid he;clear he f h1 Qp h7 P5 HH;go_wp2_with fail
    go_meet
    rw[l.out];refine⟨a5,c5,P4,?_,?_,?_,?_,?_,?_,?_⟩
    ·(repeat' apply And.intro)<;>(simp[go_sem, *];done)
    ·(repeat' apply And.intro)<;>(simp[go_sem, *];done)
    ·(repeat' apply And.intro)<;>(simp[go_sem, *];done)
    ·(repeat' apply And.intro)<;>(simp[go_sem, *];done)
    ·intro o;simp[go_sem,fg]
    ·intro o;simp[go_sem,fh]
    ·refine oA hw ?_
     repeat(refine Below.setCell ?_ (by simp;omega) _)
     exact u.up
   ·have t13:(x.k==13)=false:=by simp[f]
    have l:=Lib.hid (eK f);clear f;go_wp2_with fail
    go_meet
    rw[l.out];exact⟨a,c,Qa,⟨x0,x1,x2,x3,x4,x5,x6⟩,⟨y0,y1,y2,y3,y4,y5,y6⟩,⟨u0,u1,u2,u3,u4,u5,u6⟩,⟨v0,v1,v2,v3,v4,v5,v6⟩,fg,fh,u⟩
  case rest=>
   clear x0 x1 x2 x3 x4 x5 x6 y0 y1 y2 y3 y4 y5 y6 u0 u1 u2 u3 u4 u5 u6 v0 v1 v2 v3 v4 v5 v6 fg fh u;obtain⟨a1,c1,Qc,⟨x0,x1,x2,x3,x4,x5,x6⟩,⟨y0,y1,y2,y3,y4,y5,y6⟩,⟨u0,u1,u2,u3,u4,u5,u6⟩,⟨v0,v1,v2,v3,v4,v5,v6⟩,fg,fh,u⟩:=hcut;go_upto_if 20 with fail
   go_cut [] (fun d=> ∃a2 c2,aj p D (aD y) a2 c2∧(d.cell? ⟨w.heap.size,0,none⟩=some (.int .i64 x.k)∧d.cell? ⟨w.heap.size,1,none⟩=some (.int .i64 x.n)∧d.cell? ⟨w.heap.size,2,none⟩=some (.int .i64 x.m)∧d.cell? ⟨w.heap.size,3,none⟩=some (.bool x.v)∧d.cell? ⟨w.heap.size,4,none⟩=some (.string x.nm)∧d.cell? ⟨w.heap.size,5,none⟩=some (.string x.tg)∧d.cell? ⟨w.heap.size,6,none⟩=some (.slice a x.es.length c))∧(d.cell? ⟨w.heap.size+1,0,none⟩=some (.int .i64 y.k)∧d.cell? ⟨w.heap.size+1,1,none⟩=some (.int .i64 y.n)∧d.cell? ⟨w.heap.size+1,2,none⟩=some (.int .i64 y.m)∧d.cell? ⟨w.heap.size+1,3,none⟩=some (.bool y.v)∧d.cell? ⟨w.heap.size+1,4,none⟩=some (.string y.nm)∧d.cell? ⟨w.heap.size+1,5,none⟩=some (.string y.tg)∧d.cell? ⟨w.heap.size+1,6,none⟩=some (.slice a' y.es.length c'))∧L7 d g (aD x) a1 c1∧L7 d h (aD y) a2 c2∧Up p w d)
   case first=>
    by_cases f:y.k=13
    ·have t13:(y.k==13)=true:=by simp[f]
     have h1:=HH.out.2.1.form.gU f;obtain⟨e,he⟩:=cU h1;have l:=Lib.hid (gT f he);have hl:0<y.es.length:=by omega
     have Qr:(0:Int)<y.es.length:=by omega
     obtain⟨b,o,rfl⟩:=Qb.list.bC (by omega);obtain⟨a5,c5,h7,P4⟩:=Qb.list.get 0 (by omega);have P5:y.es[0]'(by omega)=e:=by simp[he]
     simp only[P5,Nat.zero_mul,Nat.add_zero]at h7 P4;obtain⟨z0,z1,z2,z3,z4,z5,z6⟩:(wc.cell? ⟨b,o,none⟩=some (.int .i64 e.k)∧wc.cell? ⟨b,o+1,none⟩=some (.int .i64 e.n)∧wc.cell? ⟨b,o+2,none⟩=some (.int .i64 e.m)∧wc.cell? ⟨b,o+3,none⟩=some (.bool e.v)∧wc.cell? ⟨b,o+4,none⟩=some (.string e.nm)∧wc.cell? ⟨b,o+5,none⟩=some (.string e.tg)∧wc.cell? ⟨b,o+6,none⟩=some (.slice a5 e.es.length c5)):=h7.world u.kw;have hb:=u.kw.lt h7.1;have Qu:∀o,p h o=none:=fun o=>hw.aI (by omega) o;have Qx:b≠h:=fun e=>by have:=h7.1;rw[e,Qu]at this;cases this
     have Qt:=Lib.hid he;clear he f h1 h7 P5 HH;go_wp2_with fail
     go_meet
     rw[l.out];refine⟨a5,c5,P4,?_,?_,?_,?_,?_⟩
     ·(repeat' apply And.intro)<;>(simp[go_sem, *];done)
     ·(repeat' apply And.intro)<;>(simp[go_sem, *];done)
     ·(repeat' apply And.intro)<;>(simp[go_sem, *];done)
     ·(repeat' apply And.intro)<;>(simp[go_sem, *];done)
     ·refine oA hw ?_
      repeat(refine Below.setCell ?_ (by simp;omega) _)
      exact u.up
    ·have t13:(y.k==13)=false:=by simp[f]
     have l:=Lib.hid (eK f);clear f;go_wp2_with fail
     go_meet
     rw[l.out];exact⟨a',c',Qb,⟨x0,x1,x2,x3,x4,x5,x6⟩,⟨y0,y1,y2,y3,y4,y5,y6⟩,⟨u0,u1,u2,u3,u4,u5,u6⟩,⟨v0,v1,v2,v3,v4,v5,v6⟩,u⟩
   case rest=>
    clear x0 x1 x2 x3 x4 x5 x6 y0 y1 y2 y3 y4 y5 y6 u0 u1 u2 u3 u4 u5 u6 v0 v1 v2 v3 v4 v5 v6 fg fh u;obtain⟨a2,c2,Qd,⟨x0,x1,x2,x3,x4,x5,x6⟩,⟨y0,y1,y2,y3,y4,y5,y6⟩,⟨u0,u1,u2,u3,u4,u5,u6⟩,⟨v0,v1,v2,v3,v4,v5,v6⟩,u⟩:=hcut;obtain⟨X,Y,Z,P3,M,N⟩:=HH.out;obtain⟨pA,s,hA12,hA13⟩:=X.aD Qe;obtain⟨pB,t,E,F⟩:=Y.aD Qf;have G:=Z.aD;have H:=P3.aD;have hR:Hid (r=if isIface (aD x)||isIface (aD y)then true else if x.k=13 then !aF (aD x) (under (aD y))else if y.k=13 then !aF (under (aD x)) (aD y)else !aF (aD x) (aD y)):=Qo.out;clear HH X Y Z P3 Qo Qa Qb Qe Qf;generalize aD x=A at*;generalize aD y=B at*;have P6:=fun W O=>e_ p D dc A pA 2 a1 c1 W s (by omega) (by omega) hA12 hA13 Qc O;have P7:=fun W O=>e_ p D dc B pB 2 a2 c2 W t (by omega) (by omega) E F Qd O;cases hA:isIface A
    case true=>
     have P:=fun W O=>aM (P6 W O) hA;have hF:Hid (true=r):=by unfold Hid;rw[hR.out,hA];rfl
     clear P6 P7 M N s t G H;go_wp2_with fail
     refine(P _ u.kw).mono ?_;rintro e1 L ⟨rfl,i⟩;have hB:=Lib.hid (u.step i).up;clear i P;go_wp2_with fail
     go_ret;exact⟨_,rfl,hF.out,hB.out⟩
    have P:=fun W O=>aM (P6 W O) hA;obtain⟨R,I⟩:=M hA;cases S:isIface B
    case true=>
     have P8:=fun W O=>aM (P7 W O) S;have hF:Hid (true=r):=by unfold Hid;rw[hR.out,hA,S];rfl
     clear P6 P7 M N s t G H R I;go_wp2_with fail
     refine(P _ u.kw).mono ?_;rintro e1 L ⟨rfl,i⟩;have T:=u.step i;obtain⟨q0,q1,q2,q3,q4,q5,q6⟩:(L.cell? ⟨h,0,none⟩=some (.int .i64 B.k)∧L.cell? ⟨h,1,none⟩=some (.int .i64 B.n)∧L.cell? ⟨h,2,none⟩=some (.int .i64 B.m)∧L.cell? ⟨h,3,none⟩=some (.bool B.v)∧L.cell? ⟨h,4,none⟩=some (.string B.nm)∧L.cell? ⟨h,5,none⟩=some (.string B.tg)∧L.cell? ⟨h,6,none⟩=some (.slice a2 B.es.length c2)):=by
      repeat' apply And.intro
      all_goals exact cell_kept i (by assumption)
     clear i P;go_wp2_with fail
     refine(P8 _ T.kw).mono ?_;rintro e1 J ⟨rfl,z⟩;have hB:=Lib.hid (T.step z).up;clear z P8;go_wp2_with fail
     go_ret;exact⟨_,rfl,hF.out,hB.out⟩
    have P8:=fun W O=>aM (P7 W O) S;obtain⟨P9,Q⟩:=N S;have V:Hid (r=if x.k=13 then !aF A (under B)else if y.k=13 then !aF (under A) B else !aF A B):=by unfold Hid;rw[hR.out,hA,S];rfl
    clear P6 P7 M N hR hA S;go_upto_if 25 with(first|(go_at_call 19;(with_reducible refine(P _ u.kw).mono ?_);rintro e1 L ⟨rfl,i⟩;have T:=u.step i;obtain⟨q0,q1,q2,q3,q4,q5,q6⟩:(L.cell? ⟨h,0,none⟩=some (.int .i64 B.k)∧L.cell? ⟨h,1,none⟩=some (.int .i64 B.n)∧L.cell? ⟨h,2,none⟩=some (.int .i64 B.m)∧L.cell? ⟨h,3,none⟩=some (.bool B.v)∧L.cell? ⟨h,4,none⟩=some (.string B.nm)∧L.cell? ⟨h,5,none⟩=some (.string B.tg)∧L.cell? ⟨h,6,none⟩=some (.slice a2 B.es.length c2)):=(by(repeat' apply And.intro)<;>exact cell_kept i (by assumption)))|(go_at_call 19;(with_reducible refine(P8 _ T.kw).mono ?_);rintro e1 J ⟨rfl,z⟩))
    clear q0 q1 q2 q3 q4 q5 q6;have Qh:=T.step z;obtain⟨m0,m1,m2,m3,m4,m5,m6⟩:(J.cell? ⟨g,0,none⟩=some (.int .i64 A.k)∧J.cell? ⟨g,1,none⟩=some (.int .i64 A.n)∧J.cell? ⟨g,2,none⟩=some (.int .i64 A.m)∧J.cell? ⟨g,3,none⟩=some (.bool A.v)∧J.cell? ⟨g,4,none⟩=some (.string A.nm)∧J.cell? ⟨g,5,none⟩=some (.string A.tg)∧J.cell? ⟨g,6,none⟩=some (.slice a1 A.es.length c1)):=by
     repeat' apply And.intro
     all_goals exact cell_kept z (cell_kept i (by assumption))
    obtain⟨n0,n1,n2,n3,n4,n5,n6⟩:(J.cell? ⟨h,0,none⟩=some (.int .i64 B.k)∧J.cell? ⟨h,1,none⟩=some (.int .i64 B.n)∧J.cell? ⟨h,2,none⟩=some (.int .i64 B.m)∧J.cell? ⟨h,3,none⟩=some (.bool B.v)∧J.cell? ⟨h,4,none⟩=some (.string B.nm)∧J.cell? ⟨h,5,none⟩=some (.string B.tg)∧J.cell? ⟨h,6,none⟩=some (.slice a2 B.es.length c2)):=by
     repeat' apply And.intro
     all_goals exact cell_kept z (cell_kept i (by assumption))
    have xk:J.cell? ⟨w.heap.size,0,none⟩=some (.int .i64 x.k):=cell_kept z (cell_kept i x0);have yk:J.cell? ⟨w.heap.size+1,0,none⟩=some (.int .i64 y.k):=cell_kept z (cell_kept i y0);clear i z P P8 u T x0 x1 x2 x3 x4 x5 x6 y0 y1 y2 y3 y4 y5 y6 u0 u1 u2 u3 u4 u5 u6 v0 v1 v2 v3 v4 v5 v6;have ag:=Qh;by_cases kx:x.k=13
    ·have t13:(x.k==13)=true:=by simp[kx]
     have hF:Hid (r= !aF A (under B)):=by unfold Hid;rw[V.out,if_pos kx]
     obtain⟨fu,Qi,Qq,C,Qj,_⟩:=t.under (by omega) (by omega) E F;have hC:=Lib.hid (kI D dc NS Qg A (under B) _ _ _ _ s (by omega) hA12 hA13 C Qi C.form.aB.1 C.form.aB.2 R Q G H.under);have Qk:=fun W O=>gA p D dc B pB 2 a2 c2 W t (by omega) (by omega) E F Qd O;clear V kx s t C Qj R I P9 Q G H;go_wp2_with fail
     refine oR (fun W=>(W.cell? ⟨g,0,none⟩=some (.int .i64 A.k)∧W.cell? ⟨g,1,none⟩=some (.int .i64 A.n)∧W.cell? ⟨g,2,none⟩=some (.int .i64 A.m)∧W.cell? ⟨g,3,none⟩=some (.bool A.v)∧W.cell? ⟨g,4,none⟩=some (.string A.nm)∧W.cell? ⟨g,5,none⟩=some (.string A.tg)∧W.cell? ⟨g,6,none⟩=some (.slice a1 A.es.length c1))∧(W.cell? ⟨h,0,none⟩=some (.int .i64 B.k)∧W.cell? ⟨h,1,none⟩=some (.int .i64 B.n)∧W.cell? ⟨h,2,none⟩=some (.int .i64 B.m)∧W.cell? ⟨h,3,none⟩=some (.bool B.v)∧W.cell? ⟨h,4,none⟩=some (.string B.nm)∧W.cell? ⟨h,5,none⟩=some (.string B.tg)∧W.cell? ⟨h,6,none⟩=some (.slice a2 B.es.length c2))∧Up p w W) [(0,true),(1,true),(2,true),(3,true),(4,false),(5,false),(6,true),(7,true)] oK (fun j=> ?_);repeat(first|(refine oS ?_;try simp only[Act.put,oa,ob,oc])|(refine oF j ?_;try simp only[Act.put,oa,ob,oc])|(refine oL fun K hK=> ?_;go_simp;first|(go_at_call 15;(with_reducible refine(Qk _ (Up.kw (by first|assumption|exact ag.drew))).mono ?_);rintro e1 w5 ⟨q,a6,c6,rfl,Ql,Qm,Qn,aa⟩;(try simp only[]);refine hK _ _ oK fun j=> ?_;clear hK K;try simp only[Act.put,oa,ob,oc])|(go_at_call 164;obtain⟨⟨s0,s1,s2,s3,s4,s5,s6⟩,⟨r0,r1,r2,r3,r4,r5,r6⟩,sU⟩:=j;(refine(hC.out q a1 c1 a6 c6 _ (aj.sub Ql.le _ Qc) Qn Qm).mono ?_);rintro e1 w6 ⟨b,rfl,hb,aa⟩;(try simp only[]);refine hK _ _ oK fun j=> ?_;clear hK K;try simp only[Act.put,oa,ob,oc])))
     refine bM ?_;have hB:=Lib.hid j.2.2.up;have P_:Hid ((!b)=r):=by unfold Hid;rw[hF.out,hb.out]
     clear j hb hF aa;go_wp2_with fail
     go_ret;exact⟨_,rfl,P_.out,hB.out⟩
    have t13:(x.k==13)=false:=by simp[kx]
    by_cases ky:y.k=13
    ·have t14:(y.k==13)=true:=by simp[ky]
     have hF:Hid (r= !aF (under A) B):=by unfold Hid;rw[V.out,if_neg kx,if_pos ky]
     obtain⟨fu,Qi,Qq,C,Qj,_⟩:=s.under (by omega) (by omega) hA12 hA13;have hC:=Lib.hid (kI D dc NS Qg (under A) B _ _ _ _ C Qi C.form.aB.1 C.form.aB.2 t (by omega) E F I P9 G.under H);have Qk:=fun W O=>gA p D dc A pA 2 a1 c1 W s (by omega) (by omega) hA12 hA13 Qc O;clear V kx ky s t C Qj R I P9 Q G H;go_wp2_with fail
     refine oR (fun W=>(W.cell? ⟨g,0,none⟩=some (.int .i64 A.k)∧W.cell? ⟨g,1,none⟩=some (.int .i64 A.n)∧W.cell? ⟨g,2,none⟩=some (.int .i64 A.m)∧W.cell? ⟨g,3,none⟩=some (.bool A.v)∧W.cell? ⟨g,4,none⟩=some (.string A.nm)∧W.cell? ⟨g,5,none⟩=some (.string A.tg)∧W.cell? ⟨g,6,none⟩=some (.slice a1 A.es.length c1))∧(W.cell? ⟨h,0,none⟩=some (.int .i64 B.k)∧W.cell? ⟨h,1,none⟩=some (.int .i64 B.n)∧W.cell? ⟨h,2,none⟩=some (.int .i64 B.m)∧W.cell? ⟨h,3,none⟩=some (.bool B.v)∧W.cell? ⟨h,4,none⟩=some (.string B.nm)∧W.cell? ⟨h,5,none⟩=some (.string B.tg)∧W.cell? ⟨h,6,none⟩=some (.slice a2 B.es.length c2))∧Up p w W) [(0,true),(1,true),(2,true),(4,true),(3,false),(5,false),(6,true),(7,true)] oK (fun j=> ?_);repeat(first|(refine oS ?_;try simp only[Act.put,oa,ob,oc])|(refine oF j ?_;try simp only[Act.put,oa,ob,oc])|(refine oL fun K hK=> ?_;go_simp;first|(go_at_call 15;(with_reducible refine(Qk _ (Up.kw (by first|assumption|exact ag.drew))).mono ?_);rintro e1 w5 ⟨q,a6,c6,rfl,Ql,Qm,Qn,aa⟩;(try simp only[]);refine hK _ _ oK fun j=> ?_;clear hK K;try simp only[Act.put,oa,ob,oc])|(go_at_call 164;obtain⟨⟨s0,s1,s2,s3,s4,s5,s6⟩,⟨r0,r1,r2,r3,r4,r5,r6⟩,sU⟩:=j;(refine(hC.out q a6 c6 a2 c2 _ Qn (aj.sub Ql.le _ Qd) Qm).mono ?_);rintro e1 w6 ⟨b,rfl,hb,aa⟩;(try simp only[]);refine hK _ _ oK fun j=> ?_;clear hK K;try simp only[Act.put,oa,ob,oc])))
     refine bM ?_;have hB:=Lib.hid j.2.2.up;have P_:Hid ((!b)=r):=by unfold Hid;rw[hF.out,hb.out]
     clear j hb hF aa;go_wp2_with fail
     go_ret;exact⟨_,rfl,P_.out,hB.out⟩
    ·have t14:(y.k==13)=false:=by simp[ky]
     have hF:Hid (r= !aF A B):=by unfold Hid;rw[V.out,if_neg kx,if_neg ky]
     have hC:=Lib.hid (kI D dc NS Qg A B _ _ _ _ s (by omega) hA12 hA13 t (by omega) E F R P9 G H p);clear V kx ky s t R I P9 Q G H;go_wp2_with fail
     refine(hC.out a1 c1 a2 c2 _ Qc Qd Qh.kw).mono ?_;rintro e1 w6 ⟨b,rfl,hb,aa⟩;have hB:=Lib.hid (Qh.step aa).up;have P_:Hid ((!b)=r):=by unfold Hid;rw[hF.out,hb.out]
     clear hb hF aa;go_wp2_with fail
     go_ret;exact⟨_,rfl,P_.out,hB.out⟩
end Go.Proofs.YtkfaiocajcjomaaGreatDoor
