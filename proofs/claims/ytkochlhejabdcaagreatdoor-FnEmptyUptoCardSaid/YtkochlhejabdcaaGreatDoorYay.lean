import Derived.Deep.CutBlock
import Derived.Test.YtkochlhejabdcaaGreatDoorYau
set_option maxRecDepth 100000
set_option maxHeartbeats 8000000
set_option linter.all false
namespace Go.Proofs.YtkochlhejabdcaaGreatDoor
open Go.RowKit TS Tryz
theorem kc{α β:Type}{l:List α}{r:List β}(f:α×β→Bool):(l.zip r).all f=true↔∀i(h:i<l.length)(c:i<r.length),f (l[i],r[i])=true:=by
 rw[List.all_eq_true];constructor
 ·intro h i hi a
  refine h _ ?_;have:i<(l.zip r).length:=zp;rw[show(l[i],r[i])=(l.zip r)[i] by simp];exact zm this
 ·intro h x b
  obtain⟨i,hi,rfl⟩:=List.getElem_of_mem b;simp at hi;rw[List.getElem_zip];exact h i zo zo
theorem tI{α β:Type}{l:List α}{r:List β}(f:α×β→Bool){i:Nat}(h:i<l.length)(b:i<r.length)(a:f (l[i],r[i])=false):(l.zip r).all f=false:=by
 rw[Bool.eq_false_iff];intro ha;rw[kc]at ha;rw[ha i h b]at a;cases a
theorem gL{p:Pm}{w W:World}(hw:KW p w)(h:Below w w W):Up p w W:=⟨hw.grown h,h⟩
def tJ(D:Dl)(dc:Nat)(NS:List (List UInt8))(x:U):Prop:=
 ∀(y:U)(c a d b:Nat),Pl D.len x c a→a≤2→x.k≠12→x.k≠13→Pl D.len y d b→b≤2→y.k≠12→y.k≠13→aM x→aM y→Names NS x→Names NS y→∀p,j_ p D dc x y
theorem zV(D:Dl)(dc:Nat)(NS:List (List UInt8))(z:NS.length≤1048576)(x b a:U)(J K:Nat)(ih:∀L,L.sz<x.sz→tJ D dc NS L)(M:b.sz≤x.sz)
 (n:Pl D.len b 0 J)(A:J≤2)(o:Pl D.len a 0 K)(B:K≤2)(c:aM b)(d:aM a)(g:Names NS b)(h:Names NS a)(r:b.k=10)(l:a.k=10)
 (p:Pm)(C:Option Addr)(c1:Nat)(a2:Option Addr)(c2:Nat)(E:ai p D b C c1)(F:ai p D a a2 c2)(W:World)(N:KW p W):
 Xk 35 #[Xd D dc,Xt b C c1,Xt a a2 c2] W (RB (a.k==10&&(!bd b&& !bd a&&decide ((an b).length=(an a).length)&&hasB (an b) (an a))) W):=by
 obtain⟨f1,s,i,t⟩:=n.ju A r;obtain⟨f2,u,j,v⟩:=o.ju B l;have:=zU p D dc NS z b a 0 f1 0 f2 C c1 a2 c2 W t s i r v u j l c.gen d.gen g h E F N (fun f y m hm q=>by
  obtain⟨Q,R,G,H⟩:=t.cy s i zo zo f y;obtain⟨O,P,w,I⟩:=v.cy u j zo zo m hm;have:=kP y;exact ih f zo m _ _ _ _ H G zo zo I w zo zo (c.cy y) (d.cy hm) (g.cy f y).2 (h.cy m hm).2 q)
 have e:(a.k==10&&(!bd b&& !bd a&&decide ((an b).length=(an a).length)&&hasB (an b) (an a)))=(decide ((an b).length=(an a).length)&&hasB (an b) (an a)):=by
  rw[c.gen,d.gen,show(a.k==10)=true by simp[l]];rfl
 rw[e];exact this
theorem k_(D:Dl)(dc:Nat)(NS:List (List UInt8))(Qr:NS.length≤1048576):∀x,tJ D dc NS x:=by
 intro x;induction x using U.bc with
 |_ x ih=>
  intro y px fx py fy PS N PY PZ PT PG P0 P1 P8 P9 P_ Qa p a c a' c' w Qb Qc hw;have P2:=fun W hk=>iQ p D x px fx a c W PS Qb hk;have P3:=fun W hk=>iQ p D y py fy a' c' W PT Qc hk;obtain⟨A,Qs,Qd,PJ⟩:=PS.bare N PY PZ;obtain⟨B,Qt,Qe,Qu⟩:=PT.bare PG P0 P1;have G:=P8.bare PS;have H:=P9.bare PT;have I:=P_.bare;have J:=Qa.bare;have O:= @kQ x y;have P:= @kR x y;generalize aJ x y=r at*;have ae:Up p w ((w.alloc (Xt x a c)).alloc (Xt y a' c')):=((Up.refl hw).alloc _).alloc _;clear PS PT Qb Qc P8 P9 P_ Qa;generalize bare x=d at*;generalize bare y=g at*;have HH:=zh (And.intro A (And.intro B (And.intro G (And.intro H (And.intro I (And.intro J (And.intro PJ (And.intro ih (And.intro O (And.intro P (And.intro N PG)))))))))));clear A B G H I J PJ Qu ih O P PY P0 PZ P1 Qs Qt Qd Qe N PG;go_enter func15,ntmps15;go_upto_region 1 with fail
  go_cut [] (fun wx=> ∃a1 c1 a2 c2,ai p D d a1 c1∧ai p D g a2 c2∧(Xl wx w d a1 c1)∧(Xl wx (w+1) g a2 c2)∧Up p w wx)
  case first=>
   go_region_with (first|(go_at_call 18;(with_reducible refine(P2 _ ae.drew.kw).mono ?_);rintro e1 w1 ⟨a1,c1,rfl,Q,aa⟩;obtain⟨Qf,N⟩:=eS aa;have Qv:=aa.size;simp only[World.size_drew,World.size_alloc]at Qv Qf N;have Qy:w.heap.size<w1.heap.size:=zo;have Qz:w.heap.size+1<w1.heap.size:=zo)|(go_at_call 18;(with_reducible refine(P3 _ (ae.drew.step aa).kw).mono ?_);rintro e1 w2 ⟨a2,c2,rfl,R,PM⟩;obtain⟨Qw,PG⟩:=eS PM;have QA:=PM.size))
   all_goals
    go_wp2_with fail
    go_meet
    have hB:=(ae.drew.step aa).up.trans (PM.mono (ae.drew.step aa).up.size);clear Qf N Qw PG P2 P3;obtain⟨p0,p1,p2,p3,p4,p5,p6⟩:TS.L7 w2 w.heap.size x a c:=by
     repeat' apply And.intro
     all_goals exact cell_kept PM (cell_kept aa (by simp[go_sem]))
    obtain⟨q0,q1,q2,q3,q4,q5,q6⟩:TS.L7 w2 (w.heap.size+1) y a' c':=by
     repeat' apply And.intro
     all_goals exact cell_kept PM (cell_kept aa (by simp[go_sem]))
    refine⟨a1,c1,a2,c2,Q,R,?_,?_,?_⟩
    ·repeat' apply And.intro
     all_goals (simp[go_sem,p0,p1,p2,p3,p4,p5,p6];done)
    ·repeat' apply And.intro
     all_goals (simp[go_sem,q0,q1,q2,q3,q4,q5,q6];done)
    ·refine gL hw ?_
     repeat(refine Below.setCell ?_ zs _)
     exact hB
  case rest=>
   obtain⟨a1,c1,a2,c2,Q,R,⟨x0,x1,x2,x3,x4,x5,x6⟩,⟨L,T,V,X,Y,Z,y6⟩,t⟩:=hcut;have bl:=zb L;simp only at bl;clear P2 P3 ae;have P4:=Q.cap;have P5:=R.cap;cases F:d.k==g.k
   ·have t1:(d.k !=g.k)=true:=by simp[bne,F]
    have hF:Hid (false=r):=by
     obtain⟨_,_,_,_,_,_,_,_,O,P,_,_⟩:=HH.out;unfold Hid;by_cases s:d.k=10
     ·rw[O s,show(g.k==10)=false by rw[←s,Bool.beq_comm];exact F];rfl
     ·rw[P s,F];rfl
    clear F P4 P5;go_wp2_with fail
    go_ret;exact⟨_,rfl,hF,t.up⟩
   have PN:d.k=g.k:=by simpa using F
   have t1:(d.k !=g.k)=false:=by simp[bne,F]
   by_cases s:d.k=10
   ·have t2:(d.k==10)=true:=by simp[s]
    have t3:(d.k !=10)=false:=by simp[s]
    have hS:Hid (∀W,KW p W→Xk 35 #[Xd D dc,Xt d a1 c1,Xt g a2 c2] W (RB r W)):=by
     obtain⟨A,B,G,H,I,J,PJ,ih,O,_,N,PG⟩:=HH.out;rw[O s];exact zV D dc NS Qr x d g fx fy ih PJ A N B PG G H I J s (PN▸s) p a1 c1 a2 c2 Q R
    clear F P4 P5 PN s;have PO:(d.es.length:Int)=g.es.length∨((d.es.length:Int) !=g.es.length)=true:=by
     by_cases h:(d.es.length:Int)=g.es.length
     ·exact .inl h
     ·exact .inr (by simpa using h)
    rcases PO with PO|PO
    ·have t4:((d.es.length:Int) !=g.es.length)=false:=by simp[PO]
     clear PO;go_wp2_with fail
     refine(hS.out _ t.kw).mono ?_;rintro e1 w3 ⟨b,rfl,hb,PQ⟩;have hB:=(t.step PQ).up;clear PQ hS;go_wp2_with fail
     go_ret;exact⟨_,rfl,hb,hB⟩
    ·go_wp2_with fail
     refine(hS.out _ t.kw).mono ?_;rintro e1 w3 ⟨b,rfl,hb,PQ⟩;have hB:=(t.step PQ).up;clear PQ hS;go_wp2_with fail
     go_ret;exact⟨_,rfl,hb,hB⟩
   have t2:(d.k==10)=false:=by simp[s]
   have t3:(d.k !=10)=true:=by simp[s]
   by_cases hle:d.es.length=g.es.length
   rotate_left
   ·have t4:((d.es.length:Int) !=g.es.length)=true:=zp
    have hF:Hid (false=r):=by
     obtain⟨_,_,_,_,_,_,_,_,O,P,_,_⟩:=HH.out;unfold Hid;rw[P s,decide_eq_false hle];simp
    clear F P4 P5 PN s hle;go_wp2_with fail
    go_ret;exact⟨_,rfl,hF,t.up⟩
   have t4:((d.es.length:Int) !=g.es.length)=false:=by simp[hle]
   have hR:Hid (r=(bf d g&&(d.es.zip g.es).all fun(e,f)=>aJ e f)):=by
    obtain⟨_,_,_,_,_,_,_,_,O,P,_,_⟩:=HH.out;unfold Hid;rw[P s,F,decide_eq_true hle];rfl
   have Qx:=zh PN;have Qg:=zh s;have PU:=zh hle;clear F PN s hle;go_upto_block 0 with fail
   go_cut [] (fun wz=>Hid (bf d g=true)∧(Xl wz w d a1 c1)∧(Xl wz (w+1) g a2 c2)∧Up p w wz)
   case first=>
    have z:Hid (bf d g=false→false=r):=fun h=>by rw[hR.out,h];rfl
    by_cases hc:d.k=1∨d.k=3∨d.k=9∨d.k=11
    ·have hh:bf d g=(d.n==g.n):=by unfold bf;rw[if_pos hc]
     cases hn:d.n==g.n
     ·have n1:(d.n !=g.n)=true:=by simp[bne,hn]
      have hF:=zh (z.out (hh.trans hn));clear hh hn z;rcases hc with hk|hk|hk|hk
      ·have s1:(d.k==1)=true:=by simp[hk]
       clear hk;go_wp2_with fail
       go_ret;exact⟨_,rfl,hF.out,t.up⟩
      ·have s1:(d.k==1)=false:=by simp[hk]
       have s3:(d.k==3)=true:=by simp[hk]
       clear hk;go_wp2_with fail
       go_ret;exact⟨_,rfl,hF.out,t.up⟩
      ·have s1:(d.k==1)=false:=by simp[hk]
       have s3:(d.k==3)=false:=by simp[hk]
       have s9:(d.k==9)=true:=by simp[hk]
       clear hk;go_wp2_with fail
       go_ret;exact⟨_,rfl,hF.out,t.up⟩
      ·have s1:(d.k==1)=false:=by simp[hk]
       have s3:(d.k==3)=false:=by simp[hk]
       have s9:(d.k==9)=false:=by simp[hk]
       have Qh:(d.k==11)=true:=by simp[hk]
       clear hk;go_wp2_with fail
       go_ret;exact⟨_,rfl,hF.out,t.up⟩
     ·have n1:(d.n !=g.n)=false:=by simp[bne,hn]
      have hF:=zh (hh.trans hn);clear hh hn z;rcases hc with hk|hk|hk|hk
      ·have s1:(d.k==1)=true:=by simp[hk]
       clear hk;go_wp2_with fail
       go_meet
       exact⟨hF,⟨x0,x1,x2,x3,x4,x5,x6⟩,⟨L,T,V,X,Y,Z,y6⟩,t⟩
      ·have s1:(d.k==1)=false:=by simp[hk]
       have s3:(d.k==3)=true:=by simp[hk]
       clear hk;go_wp2_with fail
       go_meet
       exact⟨hF,⟨x0,x1,x2,x3,x4,x5,x6⟩,⟨L,T,V,X,Y,Z,y6⟩,t⟩
      ·have s1:(d.k==1)=false:=by simp[hk]
       have s3:(d.k==3)=false:=by simp[hk]
       have s9:(d.k==9)=true:=by simp[hk]
       clear hk;go_wp2_with fail
       go_meet
       exact⟨hF,⟨x0,x1,x2,x3,x4,x5,x6⟩,⟨L,T,V,X,Y,Z,y6⟩,t⟩
      ·have s1:(d.k==1)=false:=by simp[hk]
       have s3:(d.k==3)=false:=by simp[hk]
       have s9:(d.k==9)=false:=by simp[hk]
       have Qh:(d.k==11)=true:=by simp[hk]
       clear hk;go_wp2_with fail
       go_meet
       exact⟨hF,⟨x0,x1,x2,x3,x4,x5,x6⟩,⟨L,T,V,X,Y,Z,y6⟩,t⟩
    have s1:(d.k==1)=false:=zp;have s3:(d.k==3)=false:=zp;have s9:(d.k==9)=false:=zp;have Qh:(d.k==11)=false:=zp;by_cases hk:d.k=7
    ·have s7:(d.k==7)=true:=by simp[hk]
     have hh:bf d g=(d.m==g.m&&d.v==g.v):=by unfold bf;rw[if_neg hc,if_pos hk]
     cases hm:d.m==g.m
     ·have m1:(d.m !=g.m)=true:=by simp[bne,hm]
      have hF:=zh (z.out (hh.trans (by rw[hm];rfl)));clear hh hm z hk hc;go_wp2_with fail
      go_ret;exact⟨_,rfl,hF.out,t.up⟩
     have m1:(d.m !=g.m)=false:=by simp[bne,hm]
     cases hv:d.v==g.v
     ·have v1:(d.v !=g.v)=true:=by simp[bne,hv]
      have hF:=zh (z.out (hh.trans (by rw[hm,hv];rfl)));clear hh hm z hk hc;go_wp2_with fail
      go_ret;exact⟨_,rfl,hF.out,t.up⟩
     ·have v1:(d.v !=g.v)=false:=by simp[bne,hv]
      have hF:=zh (hh.trans (show(d.m==g.m&&d.v==g.v)=true by rw[hm,hv];rfl));clear hh hm z hk hc;go_wp2_with fail
      go_meet
      exact⟨hF,⟨x0,x1,x2,x3,x4,x5,x6⟩,⟨L,T,V,X,Y,Z,y6⟩,t⟩
    have s7:(d.k==7)=false:=by simp[hk]
    by_cases PK:d.k=5
    rotate_left
    ·have s5:(d.k==5)=false:=by simp[PK]
     have hF:Hid (bf d g=true):=by unfold Hid bf;rw[if_neg hc,if_neg hk,if_neg PK]
     clear z hk hc PK;go_wp2_with fail
     go_meet
     exact⟨hF,⟨x0,x1,x2,x3,x4,x5,x6⟩,⟨L,T,V,X,Y,Z,y6⟩,t⟩
    have s5:(d.k==5)=true:=by simp[PK]
    have hh:bf d g=(d.es.zip g.es).all fun(e,f)=>decide (e.nm.toList=f.nm.toList)&&decide (e.tg.toList=f.tg.toList):=by unfold bf;rw[if_neg hc,if_neg hk,if_pos PK]
    have Qi:=zh hh;clear hh hc hk PK;have Qj:d.es.length≤g.es.length:=Nat.le_of_eq PU.out;have Qk:g.es.length≤d.es.length:=Nat.le_of_eq PU.out.symm;have Ql:(d.es.length:Int)≤1048576:=zo;go_wp2_with fail
    go_loopw [71] (fun i wr=> ∃k:Nat,k≤d.es.length∧i= .int .i64 k∧(∀j(h:j<k)(h1:j<d.es.length)(h2:j<g.es.length),d.es[j].nm.toList=g.es[j].nm.toList∧d.es[j].tg.toList=g.es[j].tg.toList)∧
     (Xl wr w d a1 c1)∧(Xl wr (w+1) g a2 c2)∧Up p w wr) (fun i _=>d.es.length- (intOf i).toNat)
    case atStart=>exact⟨0,Nat.zero_le _,rfl,(fun j h=>by omega),⟨x0,x1,x2,x3,x4,x5,x6⟩,⟨L,T,V,X,Y,Z,y6⟩,t⟩
    case round=>
     clear x0 x1 x2 x3 x4 x5 x6 L T V X Y Z y6 t bl;obtain⟨k,hk,rfl,PR,⟨x0,x1,x2,x3,x4,x5,x6⟩,⟨L,T,V,X,Y,Z,y6⟩,t⟩:=hrel;have bl:=zb L;simp only at bl;have S:=zh PR;clear PR;by_cases PH:k<d.es.length
     ·have C:k<g.es.length:=zo
      have Qm:(k:Int)<d.es.length:=zo;have P6:(k:Int)<g.es.length:=zo;obtain⟨P7,o1,rfl⟩:=Q.list.bg zo;obtain⟨a5,c5,h7,PW⟩:=Q.list.get k PH;obtain⟨E,o2,rfl⟩:=R.list.bg zo;obtain⟨a6,c6,h8,PX⟩:=R.list.get k C;have l:Hid (¬(d.es[k].nm.toList=g.es[k].nm.toList∧d.es[k].tg.toList=g.es[k].tg.toList)→false=r):=fun h=>z.out (by
       rw[Qi.out];refine tI _ PH C ?_;simpa using h)
      have o:Hid (d.es[k].nm.toList=g.es[k].nm.toList∧d.es[k].tg.toList=g.es[k].tg.toList→∀j(h:j<k+1)(h1:j<d.es.length)(h2:j<g.es.length),d.es[j].nm.toList=g.es[j].nm.toList∧d.es[j].tg.toList=g.es[j].tg.toList):=fun h j hj h1 h2=>by
       by_cases e:j=k
       ·subst e;exact h
       ·exact S.out j zo h1 h2
      obtain⟨e,he⟩:∃e,e=d.es[k]:=⟨_,rfl⟩
      obtain⟨f,hf⟩:∃f,f=g.es[k]:=⟨_,rfl⟩
      rw[←he]at h7 PW l o;rw[←hf]at h8 PX l o;clear he hf;obtain⟨g0,g1,g2,g3,g4,g5,g6⟩:TS.C7 wr P7 (o1+k*7) e a5 c5:=h7.world t.kw;obtain⟨r0,r1,r2,r3,r4,r5,r6⟩:TS.C7 wr E (o2+k*7) f a6 c6:=h8.world t.kw;clear h7 h8;have ae:=t.alloc (Xt e a5 c5);obtain⟨z0,z1,z2,z3,z4,z5,z6⟩:=dE wr e a5 c5 25;by_cases PI:e.nm.toList=f.nm.toList
      ·have t5:(e.nm.toList==f.nm.toList)=true:=by simp[PI]
       by_cases PL:e.tg.toList=f.tg.toList
       ·have t6:(e.tg.toList==f.tg.toList)=true:=by simp[PL]
        have hN:=zh (o.out ⟨PI,PL⟩);clear PI PL o l;go_wp2_with fail
        refine oR (fun W=>(Xl W wr e a5 c5)∧Xc W (w+1) 6 (.slice (Xa E o2) g.es.length c2)∧(Xs W E (o2+k*7) f a6 c6)∧Up p w W) [(0,true),(1,true),(2,true),(3,true),(4,true),(5,true),(6,true),(7,true),(8,true),(9,true),(10,true),(11,true),(12,true),(13,true),(14,true),(15,true),(16,true),(17,true),(18,true),(19,true)] oK (fun M=> ?_);repeat((first|refine oS ?_|refine oF M ?_);try simp only[Act.put,oa,ob,oc])
        refine bZ ?_;go_wp2_with fail
        go_roundw
        case rel=>exact⟨k+1,by omega,by go_num,hN.out,by exact(L7.alloc (w:=wr) (b:=w.heap.size) (u:=d) ⟨x0,x1,x2,x3,x4,x5,x6⟩ _),by exact(L7.alloc (w:=wr) (b:=w.heap.size+1) (u:=g) ⟨L,T,V,X,Y,Z,y6⟩ _),ae.drew⟩
        case measure=>simp[intOf];omega
       ·have t6:(e.tg.toList==f.tg.toList)=false:=by simp[PL]
        have hF:=zh (l.out fun h=>PL h.2);clear PI PL o l;go_wp2_with fail
        refine oR (fun W=>(Xl W wr e a5 c5)∧Xc W (w+1) 6 (.slice (Xa E o2) g.es.length c2)∧(Xs W E (o2+k*7) f a6 c6)∧Up p w W) [(0,true),(1,true),(2,true),(3,true),(4,true),(5,true),(6,true),(7,true),(8,true),(9,true),(10,true),(11,true),(12,true),(13,true),(14,true),(15,true),(16,true),(17,true),(18,true),(19,true)] oK (fun M=> ?_);repeat((first|refine oS ?_|refine oF M ?_);try simp only[Act.put,oa,ob,oc])
        refine bZ ?_;go_wp2_with fail
        go_ret;exact⟨_,rfl,hF.out,ae.drew.up⟩
      ·have t5:(e.nm.toList==f.nm.toList)=false:=by simp[PI]
       have hF:=zh (l.out fun h=>PI h.1);clear PI o l;go_wp2_with fail
       refine oR (fun W=>(Xl W wr e a5 c5)∧Xc W (w+1) 6 (.slice (Xa E o2) g.es.length c2)∧(Xs W E (o2+k*7) f a6 c6)∧Up p w W) [(0,true),(1,true),(2,true),(3,true),(4,true),(5,true),(6,true),(7,true),(8,true),(9,true),(10,true),(11,true),(12,true),(13,true),(14,true),(15,true),(16,true),(17,true),(18,true),(19,true)] oK (fun M=> ?_);repeat((first|refine oS ?_|refine oF M ?_);try simp only[Act.put,oa,ob,oc])
       refine bZ ?_;go_wp2_with fail
       go_ret;exact⟨_,rfl,hF.out,ae.drew.up⟩
     ·have hF:Hid (bf d g=true):=by
       unfold Hid;rw[Qi.out,kc];intro i h1 h2;simpa using S.out i zo h1 h2
      go_wp2_with fail
      go_meet
      exact⟨hF,⟨x0,x1,x2,x3,x4,x5,x6⟩,⟨L,T,V,X,Y,Z,y6⟩,t⟩
   case rest=>
    clear x0 x1 x2 x3 x4 x5 x6 L T V X Y Z y6 t bl;obtain⟨hH,⟨x0,x1,x2,x3,x4,x5,x6⟩,⟨L,T,V,X,Y,Z,y6⟩,t⟩:=hcut;have bl:=zb L;simp only at bl;have Qn:Hid (r=(d.es.zip g.es).all fun(e,f)=>aJ e f):=by unfold Hid;rw[hR.out,hH.out];rfl
    have Qj:d.es.length≤g.es.length:=Nat.le_of_eq PU.out;have Qk:g.es.length≤d.es.length:=Nat.le_of_eq PU.out.symm;have Ql:(d.es.length:Int)≤1048576:=zo;go_wp2_with fail
    go_loopw [100] (fun i wr=> ∃k:Nat,k≤d.es.length∧i= .int .i64 k∧(∀j(h:j<k)(h1:j<d.es.length)(h2:j<g.es.length),aJ d.es[j] g.es[j]=true)∧
     (Xl wr (w+1) g a2 c2)∧Up p w wr) (fun i _=>d.es.length- (intOf i).toNat)
    case atStart=>exact⟨0,Nat.zero_le _,rfl,(fun j h=>by omega),⟨L,T,V,X,Y,Z,y6⟩,t⟩
    case round=>
     clear x0 x1 x2 x3 x4 x5 x6 L T V X Y Z y6 t bl;obtain⟨k,hk,rfl,PR,⟨L,T,V,X,Y,Z,y6⟩,t⟩:=hrel;have bl:=zb L;simp only at bl;have S:=zh PR;clear PR;by_cases PH:k<d.es.length
     ·have C:k<g.es.length:=zo
      have Qm:(k:Int)<d.es.length:=zo;have P6:(k:Int)<g.es.length:=zo;obtain⟨P7,o1,rfl⟩:=Q.list.bg zo;obtain⟨a5,c5,h7,PW⟩:=Q.list.get k PH;obtain⟨E,o2,rfl⟩:=R.list.bg zo;obtain⟨a6,c6,h8,PX⟩:=R.list.get k C;have hC:Hid (∀q,j_ q D dc d.es[k] g.es[k]):=by
       obtain⟨A,B,G,H,I,J,PJ,ih,_⟩:=HH.out;have p1:=A.part k PH;have p2:=B.part k C;have Qo:d.k≠12∧d.k≠13:=A.form.aD;have Qp:g.k≠12∧g.k≠13:=B.form.aD;have e1:aS d k=0:=by unfold aS;rw[if_neg Qo.1,if_neg (fun h=>Qg.out h.1)]
       have e2:aS g k=0:=by unfold aS;rw[if_neg Qp.1,if_neg (fun h=>Qg.out (by rw[Qx.out];exact h.1))]
       rw[e1]at p1;rw[e2]at p2;have n1:=p1.form.aD;have n2:=p2.form.aD;have m1:=zm PH;have m2:=zm C;exact fun q=>ih _ (Nat.lt_of_lt_of_le (U.ar m1) PJ) _ _ _ _ _ p1 fj n1.1 n1.2 p2 fj n2.1 n2.2 (G.es m1) (H.es m2) (I.es m1).2 (J.es m2).2 q
      have l:Hid (aJ d.es[k] g.es[k]=false→false=r):=fun h=>by rw[Qn.out];exact(tI _ PH C h).symm
      have o:Hid (aJ d.es[k] g.es[k]=true→∀j(h:j<k+1)(h1:j<d.es.length)(h2:j<g.es.length),aJ d.es[j] g.es[j]=true):=fun h j hj h1 h2=>by
       by_cases e:j=k
       ·subst e;exact h
       ·exact S.out j zo h1 h2
      obtain⟨e,he⟩:∃e,e=d.es[k]:=⟨_,rfl⟩
      obtain⟨f,hf⟩:∃f,f=g.es[k]:=⟨_,rfl⟩
      rw[←he]at h7 PW l o hC;rw[←hf]at h8 PX l o hC;clear he hf;have hI:=zh fun W (hW:KW p W)=>hC.out p a5 c5 a6 c6 W PW PX hW;clear hC;obtain⟨g0,g1,g2,g3,g4,g5,g6⟩:TS.C7 wr P7 (o1+k*7) e a5 c5:=h7.world t.kw;obtain⟨r0,r1,r2,r3,r4,r5,r6⟩:TS.C7 wr E (o2+k*7) f a6 c6:=h8.world t.kw;clear h7 h8;have ae:=t.alloc (Xt e a5 c5);obtain⟨z0,z1,z2,z3,z4,z5,z6⟩:=dE wr e a5 c5 25;go_wp2_with fail
      refine oR (fun W=>(Xl W wr e a5 c5)∧(Xl W (w+1) g (Xa E o2) c2)∧(Xs W E (o2+k*7) f a6 c6)∧Up p w W) [(0,true),(1,true),(2,true),(3,true),(4,true),(5,true),(6,true),(7,false),(8,true)] oK (fun M=> ?_);repeat(first|(refine oS ?_;try simp only[Act.put,oa,ob,oc])|(refine oF M ?_;try simp only[Act.put,oa,ob,oc])|(refine oL fun K hK=> ?_;go_simp;(go_at_call 15;(with_reducible refine(hI.out _ (Up.kw (by first|assumption|exact ae.drew))).mono ?_);rintro e1 w3 ⟨b,rfl,hb,aa⟩;(try simp only[]);refine hK _ _ oK fun M=> ?_;clear hK K;try simp only[Act.put,oa,ob,oc])))
      refine bZ ?_;obtain⟨_,⟨v0,v1,v2,v3,v4,v5,v6⟩,_,Qq⟩:=M;cases b
      ·have hF:=zh (l.out hb.out.symm)
       clear hb aa o l;go_wp2_with fail
       go_ret;exact⟨_,rfl,hF.out,Qq.up⟩
      ·have hN:=zh (o.out hb.out.symm)
       clear hb aa o l;go_wp2_with fail
       go_roundw
       case rel=>exact⟨k+1,by omega,by go_num,hN.out,⟨v0,v1,v2,v3,v4,v5,v6⟩,Qq⟩
       case measure=>simp[intOf];omega
     ·have hF:Hid (true=r):=by
       unfold Hid;rw[Qn.out];symm;rw[kc];intro i h1 h2;exact S.out i zo h1 h2
      have hB:=t.up;go_wp2_with fail
      go_ret;exact⟨_,rfl,hF.out,hB⟩
end Go.Proofs.YtkochlhejabdcaaGreatDoor
