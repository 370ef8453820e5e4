import Derived.RegionTactic
import Derived.Test.YtkochlhejabdcaaGreatDoorYay
set_option maxRecDepth 100000
set_option maxHeartbeats 8000000
set_option linter.all false
namespace TS
theorem fE{x:U}(h:x.k≠13):aH x=x:=by unfold aH;rw[if_neg h]
theorem hZ{x e:U}(h:x.k=13)(he:x.es= [e]):aH x=e:=by unfold aH;rw[if_pos h,he];rfl
theorem Form.gM{len:Nat}{u:U}{pos f:Nat}(h:Form len u pos f)(hk:u.k=13):u.es.length=1:=by
 cases h with
 |iO _ _ he=>exact he
 |pre a _=>omega
 |one a _ _=>omega
 |ptr a _ _ _=>omega
 |_=>omega
theorem Pl.aH{len:Nat}{x:U}{pos:Nat}(h:Pl len x pos 2)(a:x.k≠12):∃pos',Pl len (aH x) pos' 2∧(TS.aH x).k≠12∧(TS.aH x).k≠13:=by
 by_cases hk:x.k=13
 ·have h1:=h.form.gM hk
  obtain⟨e,he⟩:=cL h1;have b:=h.part 0 zo;have c:x.es[0]'zo=e:=by simp[he]
  rw[c,show aS x 0=0 by unfold aS;rw[if_neg a,if_neg zo],show aO x 0 2=2 by unfold aO;rw[if_pos rfl]]at b;rw[hZ hk he];exact⟨0,b,b.form.aD⟩
 ·rw[fE hk];exact⟨pos,h,a,hk⟩
theorem Names.aH{NS:List (List UInt8)}{x:U}(h:Names NS x):Names NS (aH x):=by
 unfold TS.aH;split
 ·cases he:x.es with
  |nil=>exact h
  |cons e r=>exact(h.es (by rw[he];simp)).2
 ·exact h
end TS
namespace Go.Proofs.YtkochlhejabdcaaGreatDoor
open Go.RowKit TS Tryz
theorem zW(p:Pm)(D:Dl)(dc:Nat)(NS:List (List UInt8))(PR:NS.length≤1048576)(x y:U)(px py:Nat)(a:Option Addr)(c:Nat)(a':Option Addr)(c':Nat)(w:World)(Q:Pl D.len x px 2)(R:Pl D.len y py 2)
 (PO:x.k≠12)(PQ:y.k≠12)(S:Names NS x)(T:Names NS y)(G:isIface (aH x)=false→aM (aH x)∧aM (under (aH x)))(H:isIface (aH y)=false→aM (aH y)∧aM (under (aH y)))
 (PK:ai p D x a c)(PL:ai p D y a' c')(hw:KW p w):
 Xk 193 #[Xd D dc,Xt x a c,Xt y a' c'] w (RB (fC x y) w):=by
 obtain⟨r,hr⟩:∃r,r=fC x y:=⟨_,rfl⟩
 rw[←hr];have P0:=zh hr;clear hr;have ae:Up p w ((w.alloc (Xt x a c)).alloc (Xt y a' c')):=((Up.refl hw).alloc _).alloc _;have HH:=zh (And.intro Q (And.intro R (And.intro S (And.intro T (And.intro G H)))));clear Q R S T G H;go_enter func193,ntmps193;go_upto_region 1 with fail
 go_cut [7,8] (fun s7 s8 l=> ∃g h,s7=Xp g∧s8=Xp h∧w.heap.size+1<g∧w.heap.size+1<h∧g≠h∧(Xl l w x a c)∧(Xl l (w+1) y a' c')∧L7 l g x a c∧L7 l h y a' c'∧(∀o,l.frozen? (Xa g o)=false)∧(∀o,l.frozen? (Xa h o)=false)∧Up p w l)
 case first=>
  go_region
  all_goals
   go_wp2_with fail
   go_meet
   refine⟨_,_,rfl,rfl,by omega,by omega,by omega,?_,?_,?_,?_,?_,?_,((ae.alloc _).alloc _).drew⟩
   ·(repeat' apply And.intro)<;>simp[go_sem]
   ·(repeat' apply And.intro)<;>simp[go_sem]
   ·(repeat' apply And.intro)<;>simp[go_sem]
   ·(repeat' apply And.intro)<;>simp[go_sem]
   ·intro o;simp[go_sem]
   ·intro o;simp[go_sem]
 case rest=>
  obtain⟨g,h,rfl,rfl,hg,hh,P7,⟨x0,x1,x2,x3,x4,x5,x6⟩,⟨y0,y1,y2,y3,y4,y5,y6⟩,⟨u0,u1,u2,u3,u4,u5,u6⟩,⟨v0,v1,v2,v3,v4,v5,v6⟩,fg,fh,s⟩:=hcut;clear ae;go_upto_if 13 with fail
  go_cut [] (fun l=> ∃V c1,ai p D (aH x) V c1∧(Xl l w x a c)∧(Xl l (w+1) y a' c')∧L7 l g (aH x) V c1∧L7 l h y a' c'∧(∀o,l.frozen? (Xa g o)=false)∧(∀o,l.frozen? (Xa h o)=false)∧Up p w l)
  case first=>
   by_cases d:x.k=13
   ·have t13:(x.k==13)=true:=by simp[d]
    have h1:=HH.out.1.form.gM d;obtain⟨e,he⟩:=cL h1;have P1:=hZ d he;have hl:0<x.es.length:=zo;have P3:(0:Int)<x.es.length:=zo;obtain⟨b,o,rfl⟩:=PK.list.bg zo;obtain⟨a5,c5,h7,X⟩:=PK.list.get 0 zo;have Y:x.es[0]'zo=e:=by simp[he]
    simp only[Y,Nat.zero_mul,Nat.add_zero]at h7 X;obtain⟨z0,z1,z2,z3,z4,z5,z6⟩:TS.C7 wc b o e a5 c5:=h7.world s.kw;have hb:=s.kw.lt h7.1;have P4:∀o,p g o=none:=fun o=>hw.aF zo o;have P8:b≠g:=fun e=>by have:=h7.1;rw[e,P4]at this;cases this
    have j:=zh P1;have P5:=zh he;clear he d h1 P1 h7 Y HH;go_wp2_with fail
    go_meet
    rw[j.out];refine⟨a5,c5,X,?_,?_,?_,?_,?_,?_,?_⟩
    ·(repeat' apply And.intro)<;>(simp[go_sem, *];done)
    ·(repeat' apply And.intro)<;>(simp[go_sem, *];done)
    ·(repeat' apply And.intro)<;>(simp[go_sem, *];done)
    ·(repeat' apply And.intro)<;>(simp[go_sem, *];done)
    ·intro o;simp[go_sem,fg]
    ·intro o;simp[go_sem,fh]
    ·refine gL hw ?_
     repeat(refine Below.setCell ?_ zp _)
     exact s.up
   ·have t13:(x.k==13)=false:=by simp[d]
    have j:=zh (fE d);clear d;go_wp2_with fail
    go_meet
    rw[j.out];exact⟨a,c,PK,⟨x0,x1,x2,x3,x4,x5,x6⟩,⟨y0,y1,y2,y3,y4,y5,y6⟩,⟨u0,u1,u2,u3,u4,u5,u6⟩,⟨v0,v1,v2,v3,v4,v5,v6⟩,fg,fh,s⟩
  case rest=>
   clear x0 x1 x2 x3 x4 x5 x6 y0 y1 y2 y3 y4 y5 y6 u0 u1 u2 u3 u4 u5 u6 v0 v1 v2 v3 v4 v5 v6 fg fh s;obtain⟨V,c1,PM,⟨x0,x1,x2,x3,x4,x5,x6⟩,⟨y0,y1,y2,y3,y4,y5,y6⟩,⟨u0,u1,u2,u3,u4,u5,u6⟩,⟨v0,v1,v2,v3,v4,v5,v6⟩,fg,fh,s⟩:=hcut;go_upto_if 20 with fail
   go_cut [] (fun l=> ∃a2 c2,ai p D (aH y) a2 c2∧(Xl l w x a c)∧(Xl l (w+1) y a' c')∧L7 l g (aH x) V c1∧L7 l h (aH y) a2 c2∧Up p w l)
   case first=>
    by_cases d:y.k=13
    ·have t13:(y.k==13)=true:=by simp[d]
     have h1:=HH.out.2.1.form.gM d;obtain⟨e,he⟩:=cL h1;have j:=zh (hZ d he);have hl:0<y.es.length:=zo;have P3:(0:Int)<y.es.length:=zo;obtain⟨b,o,rfl⟩:=PL.list.bg zo;obtain⟨a5,c5,h7,X⟩:=PL.list.get 0 zo;have Y:y.es[0]'zo=e:=by simp[he]
     simp only[Y,Nat.zero_mul,Nat.add_zero]at h7 X;obtain⟨z0,z1,z2,z3,z4,z5,z6⟩:TS.C7 wc b o e a5 c5:=h7.world s.kw;have hb:=s.kw.lt h7.1;have P6:∀o,p h o=none:=fun o=>hw.aF zo o;have P9:b≠h:=fun e=>by have:=h7.1;rw[e,P6]at this;cases this
     have P5:=zh he;clear he d h1 h7 Y HH;go_wp2_with fail
     go_meet
     rw[j.out];refine⟨a5,c5,X,?_,?_,?_,?_,?_⟩
     ·(repeat' apply And.intro)<;>(simp[go_sem, *];done)
     ·(repeat' apply And.intro)<;>(simp[go_sem, *];done)
     ·(repeat' apply And.intro)<;>(simp[go_sem, *];done)
     ·(repeat' apply And.intro)<;>(simp[go_sem, *];done)
     ·refine gL hw ?_
      repeat(refine Below.setCell ?_ zp _)
      exact s.up
    ·have t13:(y.k==13)=false:=by simp[d]
     have j:=zh (fE d);clear d;go_wp2_with fail
     go_meet
     rw[j.out];exact⟨a',c',PL,⟨x0,x1,x2,x3,x4,x5,x6⟩,⟨y0,y1,y2,y3,y4,y5,y6⟩,⟨u0,u1,u2,u3,u4,u5,u6⟩,⟨v0,v1,v2,v3,v4,v5,v6⟩,s⟩
   case rest=>
    clear x0 x1 x2 x3 x4 x5 x6 y0 y1 y2 y3 y4 y5 y6 u0 u1 u2 u3 u4 u5 u6 v0 v1 v2 v3 v4 v5 v6 fg fh s;obtain⟨a2,c2,PN,⟨x0,x1,x2,x3,x4,x5,x6⟩,⟨y0,y1,y2,y3,y4,y5,y6⟩,⟨u0,u1,u2,u3,u4,u5,u6⟩,⟨v0,v1,v2,v3,v4,v5,v6⟩,s⟩:=hcut;obtain⟨Q,R,S,T,G,H⟩:=HH.out;obtain⟨pA,m,hA12,hA13⟩:=Q.aH PO;obtain⟨pB,n,v,z⟩:=R.aH PQ;have C:=S.aH;have E:=T.aH;have hR:Hid (r=if isIface (aH x)||isIface (aH y)then true else if x.k=13 then !aJ (aH x) (under (aH y))else if y.k=13 then !aJ (under (aH x)) (aH y)else !aJ (aH x) (aH y)):=P0.out;clear HH Q R S T P0 PK PL PO PQ;generalize aH x=A at*;generalize aH y=B at*;have Z:=fun W I=>fM p D dc A pA 2 V c1 W m zo zo hA12 hA13 PM I;have PG:=fun W I=>fM p D dc B pB 2 a2 c2 W n zo zo v z PN I;cases hA:isIface A
    case true=>
     have J:=fun W I=>aT (Z W I) hA;have hF:Hid (true=r):=by unfold Hid;rw[hR.out,hA];rfl
     clear Z PG G H m n C E;go_wp2_with fail
     refine(J _ s.kw).mono ?_;rintro e1 w3 ⟨rfl,f⟩;have hB:=zh (s.step f).up;clear f J;go_wp2_with fail
     go_ret;exact⟨_,rfl,hF.out,hB.out⟩
    have J:=fun W I=>aT (Z W I) hA;obtain⟨M,F⟩:=G hA;cases N:isIface B
    case true=>
     have PH:=fun W I=>aT (PG W I) N;have hF:Hid (true=r):=by unfold Hid;rw[hR.out,hA,N];rfl
     clear Z PG G H m n C E M F;go_wp2_with fail
     refine(J _ s.kw).mono ?_;rintro e1 w3 ⟨rfl,f⟩;have O:=s.step f;obtain⟨q0,q1,q2,q3,q4,q5,q6⟩:TS.L7 w3 h B a2 c2:=by
      repeat' apply And.intro
      all_goals exact cell_kept f za
     clear f J;go_wp2_with fail
     refine(PH _ O.kw).mono ?_;rintro e1 w4 ⟨rfl,t⟩;have hB:=zh (O.step t).up;clear t PH;go_wp2_with fail
     go_ret;exact⟨_,rfl,hF.out,hB.out⟩
    have PH:=fun W I=>aT (PG W I) N;obtain⟨PI,L⟩:=H N;have P:Hid (r=if x.k=13 then !aJ A (under B)else if y.k=13 then !aJ (under A) B else !aJ A B):=by unfold Hid;rw[hR.out,hA,N];rfl
    clear Z PG G H hR hA N;go_upto_if 25 with(first|(go_at_call 22;(with_reducible refine(J _ s.kw).mono ?_);rintro e1 w3 ⟨rfl,f⟩;have O:=s.step f;obtain⟨q0,q1,q2,q3,q4,q5,q6⟩:(Xl w3 h B a2 c2):=(by(repeat' apply And.intro)<;>exact cell_kept f za))|(go_at_call 22;(with_reducible refine(PH _ O.kw).mono ?_);rintro e1 w4 ⟨rfl,t⟩))
    clear q0 q1 q2 q3 q4 q5 q6;have PS:=O.step t;obtain⟨m0,m1,m2,m3,m4,m5,m6⟩:TS.L7 w4 g A V c1:=by
     repeat' apply And.intro
     all_goals exact cell_kept t (cell_kept f za)
    obtain⟨n0,n1,n2,n3,n4,n5,n6⟩:TS.L7 w4 h B a2 c2:=by
     repeat' apply And.intro
     all_goals exact cell_kept t (cell_kept f za)
    have xk:Xc w4 w 0 (.int .i64 x.k):=cell_kept t (cell_kept f x0);have yk:Xc w4 (w+1) 0 (.int .i64 y.k):=cell_kept t (cell_kept f y0);clear f t J PH s O x0 x1 x2 x3 x4 x5 x6 y0 y1 y2 y3 y4 y5 y6 u0 u1 u2 u3 u4 u5 u6 v0 v1 v2 v3 v4 v5 v6;have ae:=PS;by_cases kx:x.k=13
    ·have t13:(x.k==13)=true:=by simp[kx]
     have hF:Hid (r= !aJ A (under B)):=by unfold Hid;rw[P.out,if_pos kx]
     obtain⟨fu,PT,P2,u,PU,_⟩:=n.under zo zo v z;have hC:=zh (k_ D dc NS PR A (under B) _ _ _ _ m zo hA12 hA13 u PT u.form.aD.1 u.form.aD.2 M L C E.under);have PW:=fun W I=>f_ p D dc B pB 2 a2 c2 W n zo zo v z PN I;clear P kx m n u PU M F PI L C E;go_wp2_with fail
     refine oR (fun W=>(Xl W g A V c1)∧(Xl W h B a2 c2)∧Up p w W) [(0,true),(1,true),(2,true),(3,true),(4,false),(5,false),(6,true),(7,true)] oK (fun i=> ?_);repeat(first|(refine oS ?_;try simp only[Act.put,oa,ob,oc])|(refine oF i ?_;try simp only[Act.put,oa,ob,oc])|(refine oL fun K hK=> ?_;go_simp;first|(go_at_call 8;(with_reducible refine(PW _ (Up.kw (by first|assumption|exact ae.drew))).mono ?_);rintro e1 w5 ⟨q,a6,c6,rfl,PX,PY,PZ,aa⟩;(try simp only[]);refine hK _ _ oK fun i=> ?_;clear hK K;try simp only[Act.put,oa,ob,oc])|(go_at_call 15;obtain⟨⟨s0,s1,s2,s3,s4,s5,s6⟩,⟨r0,r1,r2,r3,r4,r5,r6⟩,sU⟩:=i;(refine(hC.out q V c1 a6 c6 _ (ai.sub PX.le _ PM) PZ PY).mono ?_);rintro e1 w6 ⟨b,rfl,hb,aa⟩;(try simp only[]);refine hK _ _ oK fun i=> ?_;clear hK K;try simp only[Act.put,oa,ob,oc])))
     refine bZ ?_;have hB:=zh i.2.2.up;have PJ:Hid ((!b)=r):=by unfold Hid;rw[hF.out,hb.out]
     clear i hb hF aa;go_wp2_with fail
     go_ret;exact⟨_,rfl,PJ.out,hB.out⟩
    have t13:(x.k==13)=false:=by simp[kx]
    by_cases ky:y.k=13
    ·have t14:(y.k==13)=true:=by simp[ky]
     have hF:Hid (r= !aJ (under A) B):=by unfold Hid;rw[P.out,if_neg kx,if_pos ky]
     obtain⟨fu,PT,P2,u,PU,_⟩:=m.under zo zo hA12 hA13;have hC:=zh (k_ D dc NS PR (under A) B _ _ _ _ u PT u.form.aD.1 u.form.aD.2 n zo v z F PI C.under E);have PW:=fun W I=>f_ p D dc A pA 2 V c1 W m zo zo hA12 hA13 PM I;clear P kx ky m n u PU M F PI L C E;go_wp2_with fail
     refine oR (fun W=>(Xl W g A V c1)∧(Xl W h B a2 c2)∧Up p w W) [(0,true),(1,true),(2,true),(4,true),(3,false),(5,false),(6,true),(7,true)] oK (fun i=> ?_);repeat(first|(refine oS ?_;try simp only[Act.put,oa,ob,oc])|(refine oF i ?_;try simp only[Act.put,oa,ob,oc])|(refine oL fun K hK=> ?_;go_simp;first|(go_at_call 8;(with_reducible refine(PW _ (Up.kw (by first|assumption|exact ae.drew))).mono ?_);rintro e1 w5 ⟨q,a6,c6,rfl,PX,PY,PZ,aa⟩;(try simp only[]);refine hK _ _ oK fun i=> ?_;clear hK K;try simp only[Act.put,oa,ob,oc])|(go_at_call 15;obtain⟨⟨s0,s1,s2,s3,s4,s5,s6⟩,⟨r0,r1,r2,r3,r4,r5,r6⟩,sU⟩:=i;(refine(hC.out q a6 c6 a2 c2 _ PZ (ai.sub PX.le _ PN) PY).mono ?_);rintro e1 w6 ⟨b,rfl,hb,aa⟩;(try simp only[]);refine hK _ _ oK fun i=> ?_;clear hK K;try simp only[Act.put,oa,ob,oc])))
     refine bZ ?_;have hB:=zh i.2.2.up;have PJ:Hid ((!b)=r):=by unfold Hid;rw[hF.out,hb.out]
     clear i hb hF aa;go_wp2_with fail
     go_ret;exact⟨_,rfl,PJ.out,hB.out⟩
    ·have t14:(y.k==13)=false:=by simp[ky]
     have hF:Hid (r= !aJ A B):=by unfold Hid;rw[P.out,if_neg kx,if_neg ky]
     have hC:=zh (k_ D dc NS PR A B _ _ _ _ m zo hA12 hA13 n zo v z M PI C E p);clear P kx ky m n M F PI L C E;go_wp2_with fail
     refine(hC.out V c1 a2 c2 _ PM PN PS.kw).mono ?_;rintro e1 w6 ⟨b,rfl,hb,aa⟩;have hB:=zh (PS.step aa).up;have PJ:Hid ((!b)=r):=by unfold Hid;rw[hF.out,hb.out]
     clear hb hF aa;go_wp2_with fail
     go_ret;exact⟨_,rfl,PJ.out,hB.out⟩
end Go.Proofs.YtkochlhejabdcaaGreatDoor
