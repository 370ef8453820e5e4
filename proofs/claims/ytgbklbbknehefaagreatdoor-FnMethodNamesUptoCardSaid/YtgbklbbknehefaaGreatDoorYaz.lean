import Derived.Deep.CutBlock
import Derived.RegionTactic
import Derived.Test.YtgbklbbknehefaaGreatDoorYav
import Derived.Test.YtgbklbbknehefaaGreatDoorYaw
set_option maxRecDepth 100000
set_option maxHeartbeats 8000000
set_option linter.all false
namespace TS
open Go Go.RowKit
theorem Pl.iq{len:Nat}{u:U}{pos f:Nat}(h:Pl len u pos f)(m:f≤2)(hk:u.k=10):∃j,j≤2∧j≠0∧Pl len u 0 j:=by
 by_cases l:f=0
 ·subst l
  refine⟨1,by omega,by omega,?_⟩;rw[Pl];refine⟨?_,fun i hi=> ?_,fun n=>by omega⟩
  ·have hF:=h.form.gg (by omega) (by omega) 0
   cases hF with
   |iface a b c d e g=>exact .iface a b c d e g
   |pre a _=>omega
   |one a _ _=>omega
   |ptr a _ _ _=>omega
   |_=>omega
  ·have:=h.part i hi
   rwa [show aI u i 1=aI u i 0 by unfold aI;simp[hk]]
 ·exact⟨f,m,l,h.gg (by omega) (by omega) 0⟩
theorem Pl.b4{len:Nat}:∀{u:U}{pos f:Nat},Pl len u pos f→f≤2→f≠0→u.k≠12→u.k≠13→∀m∈aj u,m.k=7∧∃d,d≤2∧Pl len m 0 d:=by
 intro u;induction u using U.bg with
 |_ u ih=>
  intro pos f h o g i j m hm;obtain⟨d,p,n,b,_,_⟩:=h.under o g i j;obtain⟨c,hm⟩:=gI hm;rcases hm with hm|⟨e,he,a,hm⟩
  ·have:=b.ij c hm
   exact⟨this.1,_,by split<;>omega,this.2.2⟩
  ·have l:=b.elem c he
   have h1:=U.au (List.mem_of_mem_drop he);have h2:=dp u;unfold aT at a;simp only[Bool.and_eq_true,bne_iff_ne,ne_eq]at a;exact ih e (by omega) l (by omega) (by omega) a.1.1 a.1.2 m hm
end TS
namespace Go.Proofs.YtgbklbbknehefaaGreatDoor
open Go.RowKit TS
theorem wJ(p:Pm)(D:Dl)(dc:Nat)(NS:List (List UInt8))(j:NS.length≤1048576)(x y:U)(px J py L:Nat)(a:Option Addr)(c:Nat)(a':Option Addr)(c':Nat)(w:World)
 (l:Pl D.len x px J)(B:J≤2)(h:J≠0)(P4:x.k=10)(o:Pl D.len y py L)(C:L≤2)(i:L≠0)(P5:y.k=10)(M:aW x=false)(N:aW y=false)(E:Names NS x)(F:Names NS y)
 (O:ai p D x a c)(P:ai p D y a' c')(hw:KW p w)(hI:∀f∈aj x,∀m∈aj y,∀q,jc q D dc f m):
 Calls Tryz.prog 196 #[.slice D.a D.len dc,.agg #[.int .i64 x.k,.int .i64 x.n,.int .i64 x.m,.bool x.v,.string x.nm,.string x.tg,.slice a x.es.length c],.agg #[.int .i64 y.k,.int .i64 y.n,.int .i64 y.m,.bool y.v,.string y.nm,.string y.tg,.slice a' y.es.length c']] w (RB (decide ((aj x).length=(aj y).length)&&hasB (aj x) (aj y)) w):=by
 have ag:Up p w ((w.alloc (.cells #[.int .i64 x.k,.int .i64 x.n,.int .i64 x.m,.bool x.v,.string x.nm,.string x.tg,.slice a x.es.length c] 25)).alloc (.cells #[.int .i64 y.k,.int .i64 y.n,.int .i64 y.m,.bool y.v,.string y.nm,.string y.tg,.slice a' y.es.length c'] 25)):=((Up.refl hw).alloc _).alloc _;have Q:=fun W r=>aP (kl D dc x p px J a c W l B h (by omega) (by omega) O r) M;have R:=fun W r=>aP (kl D dc y p py L a' c' W o C i (by omega) (by omega) P r) N;have S:=fun W (r:KW p W)=>jI D dc NS j x p px J a c W l B h (by omega) (by omega) E O r;have T:=Lib.hid fun(q:Pm) W (hs:Sub p q) (r:KW q W)=>jI D dc NS j y q py L a' c' W o C i (by omega) (by omega) F (ai.sub hs _ P) r;have P6:(aj x).length≤1048576:=Nat.le_trans (hZ (ja l B h (by omega) (by omega)).noTwo fun m hm=>(E.b4 m hm).1) j;have P7:(aj y).length≤1048576:=Nat.le_trans (hZ (ja o C i (by omega) (by omega)).noTwo fun m hm=>(F.b4 m hm).1) j;generalize aj x=G at*;generalize aj y=H at*;have P8:=Lib.hid hI;clear hI l o P4 P5 E F M N;go_enter Tryz.func196,Tryz.ntmps196;go_wp2_with fail
 refine(Q _ ag.kw).mono ?_;rintro s d ⟨rfl,aa⟩;have I:=ag.step aa;obtain⟨x0,x1,x2,x3,x4,x5,x6⟩:(d.cell? ⟨w.heap.size,0,none⟩=some (.int .i64 x.k)∧d.cell? ⟨w.heap.size,1,none⟩=some (.int .i64 x.n)∧d.cell? ⟨w.heap.size,2,none⟩=some (.int .i64 x.m)∧d.cell? ⟨w.heap.size,3,none⟩=some (.bool x.v)∧d.cell? ⟨w.heap.size,4,none⟩=some (.string x.nm)∧d.cell? ⟨w.heap.size,5,none⟩=some (.string x.tg)∧d.cell? ⟨w.heap.size,6,none⟩=some (.slice a x.es.length c)):=by
  repeat' apply And.intro
  all_goals exact cell_kept aa (by first|(simp[go_sem];done)|(go_keep;done))
 obtain⟨y0,y1,y2,y3,y4,y5,y6⟩:(d.cell? ⟨w.heap.size+1,0,none⟩=some (.int .i64 y.k)∧d.cell? ⟨w.heap.size+1,1,none⟩=some (.int .i64 y.n)∧d.cell? ⟨w.heap.size+1,2,none⟩=some (.int .i64 y.m)∧d.cell? ⟨w.heap.size+1,3,none⟩=some (.bool y.v)∧d.cell? ⟨w.heap.size+1,4,none⟩=some (.string y.nm)∧d.cell? ⟨w.heap.size+1,5,none⟩=some (.string y.tg)∧d.cell? ⟨w.heap.size+1,6,none⟩=some (.slice a' y.es.length c')):=by
  repeat' apply And.intro
  all_goals exact cell_kept aa (by first|(simp[go_sem];done)|(go_keep;done))
 clear aa Q;go_wp2_with fail
 refine(R _ I.kw).mono ?_;rintro s e ⟨rfl,aa⟩;have P9:=I.step aa;clear ag;have ag:=P9;obtain⟨u0,u1,u2,u3,u4,u5,u6⟩:(e.cell? ⟨w.heap.size,0,none⟩=some (.int .i64 x.k)∧e.cell? ⟨w.heap.size,1,none⟩=some (.int .i64 x.n)∧e.cell? ⟨w.heap.size,2,none⟩=some (.int .i64 x.m)∧e.cell? ⟨w.heap.size,3,none⟩=some (.bool x.v)∧e.cell? ⟨w.heap.size,4,none⟩=some (.string x.nm)∧e.cell? ⟨w.heap.size,5,none⟩=some (.string x.tg)∧e.cell? ⟨w.heap.size,6,none⟩=some (.slice a x.es.length c)):=by
  repeat' apply And.intro
  all_goals exact cell_kept aa (by assumption)
 obtain⟨v0,v1,v2,v3,v4,v5,v6⟩:(e.cell? ⟨w.heap.size+1,0,none⟩=some (.int .i64 y.k)∧e.cell? ⟨w.heap.size+1,1,none⟩=some (.int .i64 y.n)∧e.cell? ⟨w.heap.size+1,2,none⟩=some (.int .i64 y.m)∧e.cell? ⟨w.heap.size+1,3,none⟩=some (.bool y.v)∧e.cell? ⟨w.heap.size+1,4,none⟩=some (.string y.nm)∧e.cell? ⟨w.heap.size+1,5,none⟩=some (.string y.tg)∧e.cell? ⟨w.heap.size+1,6,none⟩=some (.slice a' y.es.length c')):=by
  repeat' apply And.intro
  all_goals exact cell_kept aa (by assumption)
 clear aa I R x0 x1 x2 x3 x4 x5 x6 y0 y1 y2 y3 y4 y5 y6;go_wp2_with fail
 refine oR (fun W=>(W.cell? ⟨w.heap.size,0,none⟩=some (.int .i64 x.k)∧W.cell? ⟨w.heap.size,1,none⟩=some (.int .i64 x.n)∧W.cell? ⟨w.heap.size,2,none⟩=some (.int .i64 x.m)∧W.cell? ⟨w.heap.size,3,none⟩=some (.bool x.v)∧W.cell? ⟨w.heap.size,4,none⟩=some (.string x.nm)∧W.cell? ⟨w.heap.size,5,none⟩=some (.string x.tg)∧W.cell? ⟨w.heap.size,6,none⟩=some (.slice a x.es.length c))∧(W.cell? ⟨w.heap.size+1,0,none⟩=some (.int .i64 y.k)∧W.cell? ⟨w.heap.size+1,1,none⟩=some (.int .i64 y.n)∧W.cell? ⟨w.heap.size+1,2,none⟩=some (.int .i64 y.m)∧W.cell? ⟨w.heap.size+1,3,none⟩=some (.bool y.v)∧W.cell? ⟨w.heap.size+1,4,none⟩=some (.string y.nm)∧W.cell? ⟨w.heap.size+1,5,none⟩=some (.string y.tg)∧W.cell? ⟨w.heap.size+1,6,none⟩=some (.slice a' y.es.length c'))∧Up p w W) [(0,true),(1,true),(3,true),(4,true),(2,false),(5,false),(6,true),(7,true)] oK (fun g=> ?_);repeat(first|(refine oS ?_;try simp only[Act.put,oa,ob,oc])|(refine oF g ?_;try simp only[Act.put,oa,ob,oc])|(refine oL fun K hK=> ?_;go_simp;first|(go_at_call 7;(with_reducible refine(S _ (Up.kw (by first|assumption|exact ag.drew))).mono ?_);rintro s w3 ⟨q1,a1,n1,c1,rfl,u,P_,Qa,V,aa⟩;clear S;(try simp only[]);refine hK _ _ oK fun g=> ?_;clear hK K;try simp only[Act.put,oa,ob,oc])|(go_at_call 7;(with_reducible refine(T.out q1 _ P_.le Qa).mono ?_);rintro s w4 ⟨q2,a2,n2,c2,rfl,z,Qb,Qc,X,Qd⟩;have aa:=Qd;obtain⟨⟨s0,s1,s2,s3,s4,s5,s6⟩,⟨r0,r1,r2,r3,r4,r5,r6⟩,sU⟩:=g;clear T;(try simp only[]);refine hK _ _ oK fun g=> ?_;clear hK K;try simp only[Act.put,oa,ob,oc])))
 refine bR ?_;have Y:=g.2.2;have A:=aw.sub Qb.le _ V;have hA:=fun W (r:KW q2 W)=>qQ q2 D dc G H a1 n1 c1 a2 n2 c2 W u.out z.out P6 P7 A X r fun f hf m hm=>P8.out f hf m hm q2;clear g V X A;have s:=u.out;have e2:=z.out;by_cases he:G.length=H.length
 ·have t:((n1:Int)==n2)=true:=by rw[s,e2,he];simp
  have hF:Hid (hasB G H=(decide (G.length=H.length)&&hasB G H)):=by unfold Hid;rw[decide_eq_true he];rfl
  clear s e2 he u z;go_wp2_with fail
  refine(hA _ Qc).mono ?_;rintro s w6 ⟨b,rfl,hb,Z⟩;have hB:=(Y.step Z).up;clear Z hA;go_wp2_with fail
  go_ret;exact⟨_,rfl,hb.out.trans hF.out,hB⟩
 ·have t:((n1:Int)==n2)=false:=by rw[s,e2];simp;omega
  have hF:Hid (false=(decide (G.length=H.length)&&hasB G H)):=by unfold Hid;rw[decide_eq_false he];rfl
  clear s e2 he u z hA;go_wp2_with fail
  go_ret;exact⟨_,rfl,hF.out,Y.up⟩
end Go.Proofs.YtgbklbbknehefaaGreatDoor
namespace Go.Proofs.YtgbklbbknehefaaGreatDoor
open Go.RowKit TS
theorem jd{α β:Type}{l:List α}{r:List β}(f:α×β→Bool):(l.zip r).all f=true↔∀i(h:i<l.length)(c:i<r.length),f (l[i],r[i])=true:=by
 rw[List.all_eq_true];constructor
 ·intro h i hi a
  refine h _ ?_;have:i<(l.zip r).length:=by simp;omega
  rw[show(l[i],r[i])=(l.zip r)[i] by simp];exact List.getElem_mem this
 ·intro h x b
  obtain⟨i,hi,rfl⟩:=List.getElem_of_mem b;simp at hi;rw[List.getElem_zip];exact h i (by omega) (by omega)
theorem qR{α β:Type}{l:List α}{r:List β}(f:α×β→Bool){i:Nat}(h:i<l.length)(b:i<r.length)(a:f (l[i],r[i])=false):(l.zip r).all f=false:=by
 rw[Bool.eq_false_iff];intro ha;rw[jd]at ha;rw[ha i h b]at a;cases a
theorem nU{p:Pm}{w W:World}(hw:KW p w)(h:Below w.heap.size w W):Up p w W:=⟨hw.grown h,h⟩
def qS(D:Dl)(dc:Nat)(NS:List (List UInt8))(x:U):Prop:=
 ∀(y:U)(c a d b:Nat),Pl D.len x c a→a≤2→x.k≠12→x.k≠13→Pl D.len y d b→b≤2→y.k≠12→y.k≠13→aM x→aM y→Names NS x→Names NS y→∀p,jc p D dc x y
theorem wK(D:Dl)(dc:Nat)(NS:List (List UInt8))(C:NS.length≤1048576)(x c b:U)(M N:Nat)(ih:∀O,O.sz<x.sz→qS D dc NS O)(P:c.sz≤x.sz)
 (r:Pl D.len c 0 M)(E:M≤2)(s:Pl D.len b 0 N)(F:N≤2)(d:aM c)(g:aM b)(h:Names NS c)(i:Names NS b)(t:c.k=10)(o:b.k=10)
 (p:Pm)(G:Option Addr)(c1:Nat)(a2:Option Addr)(c2:Nat)(H:ai p D c G c1)(I:ai p D b a2 c2)(W:World)(Q:KW p W):
 Calls Tryz.prog 196 #[.slice D.a D.len dc,.agg #[.int .i64 c.k,.int .i64 c.n,.int .i64 c.m,.bool c.v,.string c.nm,.string c.tg,.slice G c.es.length c1],.agg #[.int .i64 b.k,.int .i64 b.n,.int .i64 b.m,.bool b.v,.string b.nm,.string b.tg,.slice a2 b.es.length c2]] W (RB (b.k==10&&(!aW c&& !aW b&&decide ((aj c).length=(aj b).length)&&hasB (aj c) (aj b))) W):=by
 obtain⟨f1,u,j,w⟩:=r.iq E t;obtain⟨f2,y,l,z⟩:=s.iq F o;have:=wJ p D dc NS C c b 0 f1 0 f2 G c1 a2 c2 W w u j t z y l o d.gen g.gen h i H I Q (fun f B m hm q=>by
  obtain⟨T,V,J,K⟩:=w.b4 u j (by omega) (by omega) f B;obtain⟨R,S,A,L⟩:=z.b4 y l (by omega) (by omega) m hm;have:=jy B;exact ih f (by omega) m _ _ _ _ K J (by omega) (by omega) L A (by omega) (by omega) (d.b4 B) (g.b4 hm) (h.b4 f B).2 (i.b4 m hm).2 q)
 have e:(b.k==10&&(!aW c&& !aW b&&decide ((aj c).length=(aj b).length)&&hasB (aj c) (aj b)))=(decide ((aj c).length=(aj b).length)&&hasB (aj c) (aj b)):=by
  rw[d.gen,g.gen,show(b.k==10)=true by simp[o]];rfl
 rw[e];exact this
theorem kq(D:Dl)(dc:Nat)(NS:List (List UInt8))(QM:NS.length≤1048576):∀x,qS D dc NS x:=by
 intro x;induction x using U.bg with
 |_ x ih=>
  intro y px fx py fy Qe P Qj Qk Qf P4 Ql Qm Qs Qt Qu Qv p a c a' c' w Qw Qx hw;have Qn:=fun W hk=>lH p D x px fx a c W Qe Qw hk;have Qo:=fun W hk=>lH p D y py fy a' c' W Qf Qx hk;obtain⟨E,QN,Qy,P7⟩:=Qe.bare P Qj Qk;obtain⟨F,QO,Qz,QP⟩:=Qf.bare P4 Ql Qm;have I:=Qs.bare Qe;have J:=Qt.bare Qf;have L:=Qu.bare;have M:=Qv.bare;have Q:= @jz x y;have R:= @jA x y;generalize aE x y=r at*;have ag:Up p w ((w.alloc (.cells #[.int .i64 x.k,.int .i64 x.n,.int .i64 x.m,.bool x.v,.string x.nm,.string x.tg,.slice a x.es.length c] 25)).alloc (.cells #[.int .i64 y.k,.int .i64 y.n,.int .i64 y.m,.bool y.v,.string y.nm,.string y.tg,.slice a' y.es.length c'] 25)):=((Up.refl hw).alloc _).alloc _;clear Qe Qf Qw Qx Qs Qt Qu Qv;generalize bare x=d at*;generalize bare y=g at*;have HH:=Lib.hid (And.intro E (And.intro F (And.intro I (And.intro J (And.intro L (And.intro M (And.intro P7 (And.intro ih (And.intro Q (And.intro R (And.intro P P4)))))))))));clear E F I J L M P7 QP ih Q R Qj Ql Qk Qm QN QO Qy Qz P P4;go_enter Tryz.func171,Tryz.ntmps171;go_upto_region 1 with fail
  go_cut [] (fun wx=> ∃a1 c1 a2 c2,ai p D d a1 c1∧ai p D g a2 c2∧(wx.cell? ⟨w.heap.size,0,none⟩=some (.int .i64 d.k)∧wx.cell? ⟨w.heap.size,1,none⟩=some (.int .i64 d.n)∧wx.cell? ⟨w.heap.size,2,none⟩=some (.int .i64 d.m)∧wx.cell? ⟨w.heap.size,3,none⟩=some (.bool d.v)∧wx.cell? ⟨w.heap.size,4,none⟩=some (.string d.nm)∧wx.cell? ⟨w.heap.size,5,none⟩=some (.string d.tg)∧wx.cell? ⟨w.heap.size,6,none⟩=some (.slice a1 d.es.length c1))∧(wx.cell? ⟨w.heap.size+1,0,none⟩=some (.int .i64 g.k)∧wx.cell? ⟨w.heap.size+1,1,none⟩=some (.int .i64 g.n)∧wx.cell? ⟨w.heap.size+1,2,none⟩=some (.int .i64 g.m)∧wx.cell? ⟨w.heap.size+1,3,none⟩=some (.bool g.v)∧wx.cell? ⟨w.heap.size+1,4,none⟩=some (.string g.nm)∧wx.cell? ⟨w.heap.size+1,5,none⟩=some (.string g.tg)∧wx.cell? ⟨w.heap.size+1,6,none⟩=some (.slice a2 g.es.length c2))∧Up p w wx)
  case first=>
   go_region_with (first|(go_at_call 43;(with_reducible refine(Qn _ ag.drew.kw).mono ?_);rintro e1 w1 ⟨a1,c1,rfl,S,aa⟩;obtain⟨QA,P⟩:=iQ aa;have QQ:=aa.size;simp only[World.size_drew,World.size_alloc]at QQ QA P;have QT:w.heap.size<w1.heap.size:=(by omega);have QU:w.heap.size+1<w1.heap.size:=(by omega))|(go_at_call 43;(with_reducible refine(Qo _ (ag.drew.step aa).kw).mono ?_);rintro e1 w2 ⟨a2,c2,rfl,T,P_⟩;obtain⟨QR,P4⟩:=iQ P_;have QV:=P_.size))
   all_goals
    go_wp2_with fail
    go_meet
    have hB:=(ag.drew.step aa).up.trans (P_.mono (ag.drew.step aa).up.size);clear QA P QR P4 Qn Qo;obtain⟨p0,p1,p2,p3,p4,p5,p6⟩:(w2.cell? ⟨w.heap.size,0,none⟩=some (.int .i64 x.k)∧w2.cell? ⟨w.heap.size,1,none⟩=some (.int .i64 x.n)∧w2.cell? ⟨w.heap.size,2,none⟩=some (.int .i64 x.m)∧w2.cell? ⟨w.heap.size,3,none⟩=some (.bool x.v)∧w2.cell? ⟨w.heap.size,4,none⟩=some (.string x.nm)∧w2.cell? ⟨w.heap.size,5,none⟩=some (.string x.tg)∧w2.cell? ⟨w.heap.size,6,none⟩=some (.slice a x.es.length c)):=by
     repeat' apply And.intro
     all_goals exact cell_kept P_ (cell_kept aa (by simp[go_sem]))
    obtain⟨q0,q1,q2,q3,q4,q5,q6⟩:(w2.cell? ⟨w.heap.size+1,0,none⟩=some (.int .i64 y.k)∧w2.cell? ⟨w.heap.size+1,1,none⟩=some (.int .i64 y.n)∧w2.cell? ⟨w.heap.size+1,2,none⟩=some (.int .i64 y.m)∧w2.cell? ⟨w.heap.size+1,3,none⟩=some (.bool y.v)∧w2.cell? ⟨w.heap.size+1,4,none⟩=some (.string y.nm)∧w2.cell? ⟨w.heap.size+1,5,none⟩=some (.string y.tg)∧w2.cell? ⟨w.heap.size+1,6,none⟩=some (.slice a' y.es.length c')):=by
     repeat' apply And.intro
     all_goals exact cell_kept P_ (cell_kept aa (by simp[go_sem]))
    refine⟨a1,c1,a2,c2,S,T,?_,?_,?_⟩
    ·repeat' apply And.intro
     all_goals (simp[go_sem,p0,p1,p2,p3,p4,p5,p6];done)
    ·repeat' apply And.intro
     all_goals (simp[go_sem,q0,q1,q2,q3,q4,q5,q6];done)
    ·refine nU hw ?_
     repeat(refine Below.setCell ?_ (by simp) _)
     exact hB
  case rest=>
   obtain⟨a1,c1,a2,c2,S,T,⟨x0,x1,x2,x3,x4,x5,x6⟩,⟨N,X,Y,Z,y4,y5,y6⟩,A⟩:=hcut;have bl:=World.block_lt_of_cell? _ _ N;simp only at bl;clear Qn Qo ag;have Qp:=S.cap;have Qq:=T.cap;cases H:d.k==g.k
   ·have t1:(d.k !=g.k)=true:=by simp[bne,H]
    have hF:Hid (false=r):=by
     obtain⟨_,_,_,_,_,_,_,_,Q,R,_,_⟩:=HH.out;unfold Hid;by_cases z:d.k=10
     ·rw[Q z,show(g.k==10)=false by rw[←z,Bool.beq_comm];exact H];rfl
     ·rw[R z,H];rfl
    clear H Qp Qq;go_wp2_with fail
    go_ret;exact⟨_,rfl,hF,A.up⟩
   have Qa:d.k=g.k:=by simpa using H
   have t1:(d.k !=g.k)=false:=by simp[bne,H]
   by_cases z:d.k=10
   ·have t2:(d.k==10)=true:=by simp[z]
    have t3:(d.k !=10)=false:=by simp[z]
    have hS:Hid (∀W,KW p W→Calls Tryz.prog 196 #[.slice D.a D.len dc,.agg #[.int .i64 d.k,.int .i64 d.n,.int .i64 d.m,.bool d.v,.string d.nm,.string d.tg,.slice a1 d.es.length c1],.agg #[.int .i64 g.k,.int .i64 g.n,.int .i64 g.m,.bool g.v,.string g.nm,.string g.tg,.slice a2 g.es.length c2]] W (RB r W)):=by
     obtain⟨E,F,I,J,L,M,P7,ih,Q,_,P,P4⟩:=HH.out;rw[Q z];exact wK D dc NS QM x d g fx fy ih P7 E P F P4 I J L M z (Qa▸z) p a1 c1 a2 c2 S T
    clear H Qp Qq Qa z;have Qb:(d.es.length:Int)=g.es.length∨((d.es.length:Int) !=g.es.length)=true:=by
     by_cases h:(d.es.length:Int)=g.es.length
     ·exact .inl h
     ·exact .inr (by simpa using h)
    rcases Qb with Qb|Qb
    ·have t4:((d.es.length:Int) !=g.es.length)=false:=by simp[Qb]
     clear Qb;go_wp2_with fail
     refine(hS.out _ A.kw).mono ?_;rintro e1 w3 ⟨b,rfl,hb,Qc⟩;have hB:=(A.step Qc).up;clear Qc hS;go_wp2_with fail
     go_ret;exact⟨_,rfl,hb,hB⟩
    ·go_wp2_with fail
     refine(hS.out _ A.kw).mono ?_;rintro e1 w3 ⟨b,rfl,hb,Qc⟩;have hB:=(A.step Qc).up;clear Qc hS;go_wp2_with fail
     go_ret;exact⟨_,rfl,hb,hB⟩
   have t2:(d.k==10)=false:=by simp[z]
   have t3:(d.k !=10)=true:=by simp[z]
   by_cases hle:d.es.length=g.es.length
   rotate_left
   ·have t4:((d.es.length:Int) !=g.es.length)=true:=by simp;omega
    have hF:Hid (false=r):=by
     obtain⟨_,_,_,_,_,_,_,_,Q,R,_,_⟩:=HH.out;unfold Hid;rw[R z,decide_eq_false hle];simp
    clear H Qp Qq Qa z hle;go_wp2_with fail
    go_ret;exact⟨_,rfl,hF,A.up⟩
   have t4:((d.es.length:Int) !=g.es.length)=false:=by simp[hle]
   have hR:Hid (r=(aX d g&&(d.es.zip g.es).all fun(e,f)=>aE e f)):=by
    obtain⟨_,_,_,_,_,_,_,_,Q,R,_,_⟩:=HH.out;unfold Hid;rw[R z,H,decide_eq_true hle];rfl
   have QS:=Lib.hid Qa;have QB:=Lib.hid z;have Qg:=Lib.hid hle;clear H Qa z hle;go_upto_block 0 with fail
   go_cut [] (fun wz=>Hid (aX d g=true)∧(wz.cell? ⟨w.heap.size,0,none⟩=some (.int .i64 d.k)∧wz.cell? ⟨w.heap.size,1,none⟩=some (.int .i64 d.n)∧wz.cell? ⟨w.heap.size,2,none⟩=some (.int .i64 d.m)∧wz.cell? ⟨w.heap.size,3,none⟩=some (.bool d.v)∧wz.cell? ⟨w.heap.size,4,none⟩=some (.string d.nm)∧wz.cell? ⟨w.heap.size,5,none⟩=some (.string d.tg)∧wz.cell? ⟨w.heap.size,6,none⟩=some (.slice a1 d.es.length c1))∧(wz.cell? ⟨w.heap.size+1,0,none⟩=some (.int .i64 g.k)∧wz.cell? ⟨w.heap.size+1,1,none⟩=some (.int .i64 g.n)∧wz.cell? ⟨w.heap.size+1,2,none⟩=some (.int .i64 g.m)∧wz.cell? ⟨w.heap.size+1,3,none⟩=some (.bool g.v)∧wz.cell? ⟨w.heap.size+1,4,none⟩=some (.string g.nm)∧wz.cell? ⟨w.heap.size+1,5,none⟩=some (.string g.tg)∧wz.cell? ⟨w.heap.size+1,6,none⟩=some (.slice a2 g.es.length c2))∧Up p w wz)
   case first=>
    have B:Hid (aX d g=false→false=r):=fun h=>by rw[hR.out,h];rfl
    by_cases hc:d.k=1∨d.k=3∨d.k=9∨d.k=11
    ·have hh:aX d g=(d.n==g.n):=by unfold aX;rw[if_pos hc]
     cases hn:d.n==g.n
     ·have n1:(d.n !=g.n)=true:=by simp[bne,hn]
      have hF:=Lib.hid (B.out (hh.trans hn));clear hh hn B;rcases hc with hk|hk|hk|hk
      ·have s1:(d.k==1)=true:=by simp[hk]
       clear hk;go_wp2_with fail
       go_ret;exact⟨_,rfl,hF.out,A.up⟩
      ·have s1:(d.k==1)=false:=by simp[hk]
       have s3:(d.k==3)=true:=by simp[hk]
       clear hk;go_wp2_with fail
       go_ret;exact⟨_,rfl,hF.out,A.up⟩
      ·have s1:(d.k==1)=false:=by simp[hk]
       have s3:(d.k==3)=false:=by simp[hk]
       have s9:(d.k==9)=true:=by simp[hk]
       clear hk;go_wp2_with fail
       go_ret;exact⟨_,rfl,hF.out,A.up⟩
      ·have s1:(d.k==1)=false:=by simp[hk]
       have s3:(d.k==3)=false:=by simp[hk]
       have s9:(d.k==9)=false:=by simp[hk]
       have QC:(d.k==11)=true:=by simp[hk]
       clear hk;go_wp2_with fail
       go_ret;exact⟨_,rfl,hF.out,A.up⟩
     ·have n1:(d.n !=g.n)=false:=by simp[bne,hn]
      have hF:=Lib.hid (hh.trans hn);clear hh hn B;rcases hc with hk|hk|hk|hk
      ·have s1:(d.k==1)=true:=by simp[hk]
       clear hk;go_wp2_with fail
       go_meet
       exact⟨hF,⟨x0,x1,x2,x3,x4,x5,x6⟩,⟨N,X,Y,Z,y4,y5,y6⟩,A⟩
      ·have s1:(d.k==1)=false:=by simp[hk]
       have s3:(d.k==3)=true:=by simp[hk]
       clear hk;go_wp2_with fail
       go_meet
       exact⟨hF,⟨x0,x1,x2,x3,x4,x5,x6⟩,⟨N,X,Y,Z,y4,y5,y6⟩,A⟩
      ·have s1:(d.k==1)=false:=by simp[hk]
       have s3:(d.k==3)=false:=by simp[hk]
       have s9:(d.k==9)=true:=by simp[hk]
       clear hk;go_wp2_with fail
       go_meet
       exact⟨hF,⟨x0,x1,x2,x3,x4,x5,x6⟩,⟨N,X,Y,Z,y4,y5,y6⟩,A⟩
      ·have s1:(d.k==1)=false:=by simp[hk]
       have s3:(d.k==3)=false:=by simp[hk]
       have s9:(d.k==9)=false:=by simp[hk]
       have QC:(d.k==11)=true:=by simp[hk]
       clear hk;go_wp2_with fail
       go_meet
       exact⟨hF,⟨x0,x1,x2,x3,x4,x5,x6⟩,⟨N,X,Y,Z,y4,y5,y6⟩,A⟩
    have s1:(d.k==1)=false:=by simp;omega
    have s3:(d.k==3)=false:=by simp;omega
    have s9:(d.k==9)=false:=by simp;omega
    have QC:(d.k==11)=false:=by simp;omega
    by_cases hk:d.k=7
    ·have s7:(d.k==7)=true:=by simp[hk]
     have hh:aX d g=(d.m==g.m&&d.v==g.v):=by unfold aX;rw[if_neg hc,if_pos hk]
     cases hm:d.m==g.m
     ·have m1:(d.m !=g.m)=true:=by simp[bne,hm]
      have hF:=Lib.hid (B.out (hh.trans (by rw[hm];rfl)));clear hh hm B hk hc;go_wp2_with fail
      go_ret;exact⟨_,rfl,hF.out,A.up⟩
     have m1:(d.m !=g.m)=false:=by simp[bne,hm]
     cases hv:d.v==g.v
     ·have v1:(d.v !=g.v)=true:=by simp[bne,hv]
      have hF:=Lib.hid (B.out (hh.trans (by rw[hm,hv];rfl)));clear hh hm B hk hc;go_wp2_with fail
      go_ret;exact⟨_,rfl,hF.out,A.up⟩
     ·have v1:(d.v !=g.v)=false:=by simp[bne,hv]
      have hF:=Lib.hid (hh.trans (show(d.m==g.m&&d.v==g.v)=true by rw[hm,hv];rfl));clear hh hm B hk hc;go_wp2_with fail
      go_meet
      exact⟨hF,⟨x0,x1,x2,x3,x4,x5,x6⟩,⟨N,X,Y,Z,y4,y5,y6⟩,A⟩
    have s7:(d.k==7)=false:=by simp[hk]
    by_cases P8:d.k=5
    rotate_left
    ·have s5:(d.k==5)=false:=by simp[P8]
     have hF:Hid (aX d g=true):=by unfold Hid aX;rw[if_neg hc,if_neg hk,if_neg P8]
     clear B hk hc P8;go_wp2_with fail
     go_meet
     exact⟨hF,⟨x0,x1,x2,x3,x4,x5,x6⟩,⟨N,X,Y,Z,y4,y5,y6⟩,A⟩
    have s5:(d.k==5)=true:=by simp[P8]
    have hh:aX d g=(d.es.zip g.es).all fun(e,f)=>decide (e.nm.toList=f.nm.toList)&&decide (e.tg.toList=f.tg.toList):=by unfold aX;rw[if_neg hc,if_neg hk,if_pos P8]
    have QD:=Lib.hid hh;clear hh hc hk P8;have QE:d.es.length≤g.es.length:=Nat.le_of_eq Qg.out;have QF:g.es.length≤d.es.length:=Nat.le_of_eq Qg.out.symm;have QG:(d.es.length:Int)≤1048576:=by omega
    go_wp2_with fail
    go_loopw [71] (fun i wr=> ∃k:Nat,k≤d.es.length∧i= .int .i64 k∧(∀j(h:j<k)(h1:j<d.es.length)(h2:j<g.es.length),d.es[j].nm.toList=g.es[j].nm.toList∧d.es[j].tg.toList=g.es[j].tg.toList)∧
     (wr.cell? ⟨w.heap.size,0,none⟩=some (.int .i64 d.k)∧wr.cell? ⟨w.heap.size,1,none⟩=some (.int .i64 d.n)∧wr.cell? ⟨w.heap.size,2,none⟩=some (.int .i64 d.m)∧wr.cell? ⟨w.heap.size,3,none⟩=some (.bool d.v)∧wr.cell? ⟨w.heap.size,4,none⟩=some (.string d.nm)∧wr.cell? ⟨w.heap.size,5,none⟩=some (.string d.tg)∧wr.cell? ⟨w.heap.size,6,none⟩=some (.slice a1 d.es.length c1))∧(wr.cell? ⟨w.heap.size+1,0,none⟩=some (.int .i64 g.k)∧wr.cell? ⟨w.heap.size+1,1,none⟩=some (.int .i64 g.n)∧wr.cell? ⟨w.heap.size+1,2,none⟩=some (.int .i64 g.m)∧wr.cell? ⟨w.heap.size+1,3,none⟩=some (.bool g.v)∧wr.cell? ⟨w.heap.size+1,4,none⟩=some (.string g.nm)∧wr.cell? ⟨w.heap.size+1,5,none⟩=some (.string g.tg)∧wr.cell? ⟨w.heap.size+1,6,none⟩=some (.slice a2 g.es.length c2))∧Up p w wr) (fun i _=>d.es.length- (intOf i).toNat)
    case atStart=>exact⟨0,Nat.zero_le _,rfl,(fun j h=>by omega),⟨x0,x1,x2,x3,x4,x5,x6⟩,⟨N,X,Y,Z,y4,y5,y6⟩,A⟩
    case round=>
     clear x0 x1 x2 x3 x4 x5 x6 N X Y Z y4 y5 y6 A bl;obtain⟨k,hk,rfl,Qd,⟨x0,x1,x2,x3,x4,x5,x6⟩,⟨N,X,Y,Z,y4,y5,y6⟩,A⟩:=hrel;have bl:=World.block_lt_of_cell? _ _ N;simp only at bl;have V:=Lib.hid Qd;clear Qd;by_cases P5:k<d.es.length
     ·have G:k<g.es.length:=by omega
      have QH:(k:Int)<d.es.length:=by omega
      have Qr:(k:Int)<g.es.length:=by omega
      obtain⟨C,o1,rfl⟩:=S.list.bt (by omega);obtain⟨a5,c5,h7,Qh⟩:=S.list.get k P5;obtain⟨l,t,rfl⟩:=T.list.bt (by omega);obtain⟨a6,c6,h8,Qi⟩:=T.list.get k G;have o:Hid (¬(d.es[k].nm.toList=g.es[k].nm.toList∧d.es[k].tg.toList=g.es[k].tg.toList)→false=r):=fun h=>B.out (by
       rw[QD.out];refine qR _ P5 G ?_;simpa using h)
      have s:Hid (d.es[k].nm.toList=g.es[k].nm.toList∧d.es[k].tg.toList=g.es[k].tg.toList→∀j(h:j<k+1)(h1:j<d.es.length)(h2:j<g.es.length),d.es[j].nm.toList=g.es[j].nm.toList∧d.es[j].tg.toList=g.es[j].tg.toList):=fun h j hj h1 h2=>by
       by_cases e:j=k
       ·subst e;exact h
       ·exact V.out j (by omega) h1 h2
      obtain⟨e,he⟩:∃e,e=d.es[k]:=⟨_,rfl⟩
      obtain⟨f,hf⟩:∃f,f=g.es[k]:=⟨_,rfl⟩
      rw[←he]at h7 Qh o s;rw[←hf]at h8 Qi o s;clear he hf;obtain⟨g0,g1,g2,g3,g4,g5,g6⟩:(wr.cell? ⟨C,o1+k*7,none⟩=some (.int .i64 e.k)∧wr.cell? ⟨C,o1+k*7+1,none⟩=some (.int .i64 e.n)∧wr.cell? ⟨C,o1+k*7+2,none⟩=some (.int .i64 e.m)∧wr.cell? ⟨C,o1+k*7+3,none⟩=some (.bool e.v)∧wr.cell? ⟨C,o1+k*7+4,none⟩=some (.string e.nm)∧wr.cell? ⟨C,o1+k*7+5,none⟩=some (.string e.tg)∧wr.cell? ⟨C,o1+k*7+6,none⟩=some (.slice a5 e.es.length c5)):=h7.world A.kw;obtain⟨r0,r1,r2,r3,r4,r5,r6⟩:(wr.cell? ⟨l,t+k*7,none⟩=some (.int .i64 f.k)∧wr.cell? ⟨l,t+k*7+1,none⟩=some (.int .i64 f.n)∧wr.cell? ⟨l,t+k*7+2,none⟩=some (.int .i64 f.m)∧wr.cell? ⟨l,t+k*7+3,none⟩=some (.bool f.v)∧wr.cell? ⟨l,t+k*7+4,none⟩=some (.string f.nm)∧wr.cell? ⟨l,t+k*7+5,none⟩=some (.string f.tg)∧wr.cell? ⟨l,t+k*7+6,none⟩=some (.slice a6 f.es.length c6)):=h8.world A.kw;clear h7 h8;have ag:=A.alloc (.cells #[.int .i64 e.k,.int .i64 e.n,.int .i64 e.m,.bool e.v,.string e.nm,.string e.tg,.slice a5 e.es.length c5] 25);obtain⟨z0,z1,z2,z3,z4,z5,z6⟩:=gW wr e a5 c5 25;by_cases P6:e.nm.toList=f.nm.toList
      ·have t5:(e.nm.toList==f.nm.toList)=true:=by simp[P6]
       by_cases P9:e.tg.toList=f.tg.toList
       ·have t6:(e.tg.toList==f.tg.toList)=true:=by simp[P9]
        have hN:=Lib.hid (s.out ⟨P6,P9⟩);clear P6 P9 s o;go_wp2_with fail
        refine oR (fun W=>(W.cell? ⟨wr.heap.size,0,none⟩=some (.int .i64 e.k)∧W.cell? ⟨wr.heap.size,1,none⟩=some (.int .i64 e.n)∧W.cell? ⟨wr.heap.size,2,none⟩=some (.int .i64 e.m)∧W.cell? ⟨wr.heap.size,3,none⟩=some (.bool e.v)∧W.cell? ⟨wr.heap.size,4,none⟩=some (.string e.nm)∧W.cell? ⟨wr.heap.size,5,none⟩=some (.string e.tg)∧W.cell? ⟨wr.heap.size,6,none⟩=some (.slice a5 e.es.length c5))∧W.cell? ⟨w.heap.size+1,6,none⟩=some (.slice (some ⟨l,t,none⟩) g.es.length c2)∧(W.cell? ⟨l,t+k*7,none⟩=some (.int .i64 f.k)∧W.cell? ⟨l,t+k*7+1,none⟩=some (.int .i64 f.n)∧W.cell? ⟨l,t+k*7+2,none⟩=some (.int .i64 f.m)∧W.cell? ⟨l,t+k*7+3,none⟩=some (.bool f.v)∧W.cell? ⟨l,t+k*7+4,none⟩=some (.string f.nm)∧W.cell? ⟨l,t+k*7+5,none⟩=some (.string f.tg)∧W.cell? ⟨l,t+k*7+6,none⟩=some (.slice a6 f.es.length c6))∧Up p w W) [(0,true),(1,true),(2,true),(3,true),(4,true),(5,true),(6,true),(7,true),(8,true),(9,true),(10,true),(11,true),(12,true),(13,true),(14,true),(15,true),(16,true),(17,true),(18,true),(19,true)] oK (fun O=> ?_);repeat((first|refine oS ?_|refine oF O ?_);try simp only[Act.put,oa,ob,oc])
        refine bR ?_;go_wp2_with fail
        go_roundw
        case rel=>exact⟨k+1,by omega,by go_num,hN.out,by exact(L7.alloc (w:=wr) (b:=w.heap.size) (u:=d) ⟨x0,x1,x2,x3,x4,x5,x6⟩ _),by exact(L7.alloc (w:=wr) (b:=w.heap.size+1) (u:=g) ⟨N,X,Y,Z,y4,y5,y6⟩ _),ag.drew⟩
        case measure=>simp[intOf];omega
       ·have t6:(e.tg.toList==f.tg.toList)=false:=by simp[P9]
        have hF:=Lib.hid (o.out fun h=>P9 h.2);clear P6 P9 s o;go_wp2_with fail
        refine oR (fun W=>(W.cell? ⟨wr.heap.size,0,none⟩=some (.int .i64 e.k)∧W.cell? ⟨wr.heap.size,1,none⟩=some (.int .i64 e.n)∧W.cell? ⟨wr.heap.size,2,none⟩=some (.int .i64 e.m)∧W.cell? ⟨wr.heap.size,3,none⟩=some (.bool e.v)∧W.cell? ⟨wr.heap.size,4,none⟩=some (.string e.nm)∧W.cell? ⟨wr.heap.size,5,none⟩=some (.string e.tg)∧W.cell? ⟨wr.heap.size,6,none⟩=some (.slice a5 e.es.length c5))∧W.cell? ⟨w.heap.size+1,6,none⟩=some (.slice (some ⟨l,t,none⟩) g.es.length c2)∧(W.cell? ⟨l,t+k*7,none⟩=some (.int .i64 f.k)∧W.cell? ⟨l,t+k*7+1,none⟩=some (.int .i64 f.n)∧W.cell? ⟨l,t+k*7+2,none⟩=some (.int .i64 f.m)∧W.cell? ⟨l,t+k*7+3,none⟩=some (.bool f.v)∧W.cell? ⟨l,t+k*7+4,none⟩=some (.string f.nm)∧W.cell? ⟨l,t+k*7+5,none⟩=some (.string f.tg)∧W.cell? ⟨l,t+k*7+6,none⟩=some (.slice a6 f.es.length c6))∧Up p w W) [(0,true),(1,true),(2,true),(3,true),(4,true),(5,true),(6,true),(7,true),(8,true),(9,true),(10,true),(11,true),(12,true),(13,true),(14,true),(15,true),(16,true),(17,true),(18,true),(19,true)] oK (fun O=> ?_);repeat((first|refine oS ?_|refine oF O ?_);try simp only[Act.put,oa,ob,oc])
        refine bR ?_;go_wp2_with fail
        go_ret;exact⟨_,rfl,hF.out,ag.drew.up⟩
      ·have t5:(e.nm.toList==f.nm.toList)=false:=by simp[P6]
       have hF:=Lib.hid (o.out fun h=>P6 h.1);clear P6 s o;go_wp2_with fail
       refine oR (fun W=>(W.cell? ⟨wr.heap.size,0,none⟩=some (.int .i64 e.k)∧W.cell? ⟨wr.heap.size,1,none⟩=some (.int .i64 e.n)∧W.cell? ⟨wr.heap.size,2,none⟩=some (.int .i64 e.m)∧W.cell? ⟨wr.heap.size,3,none⟩=some (.bool e.v)∧W.cell? ⟨wr.heap.size,4,none⟩=some (.string e.nm)∧W.cell? ⟨wr.heap.size,5,none⟩=some (.string e.tg)∧W.cell? ⟨wr.heap.size,6,none⟩=some (.slice a5 e.es.length c5))∧W.cell? ⟨w.heap.size+1,6,none⟩=some (.slice (some ⟨l,t,none⟩) g.es.length c2)∧(W.cell? ⟨l,t+k*7,none⟩=some (.int .i64 f.k)∧W.cell? ⟨l,t+k*7+1,none⟩=some (.int .i64 f.n)∧W.cell? ⟨l,t+k*7+2,none⟩=some (.int .i64 f.m)∧W.cell? ⟨l,t+k*7+3,none⟩=some (.bool f.v)∧W.cell? ⟨l,t+k*7+4,none⟩=some (.string f.nm)∧W.cell? ⟨l,t+k*7+5,none⟩=some (.string f.tg)∧W.cell? ⟨l,t+k*7+6,none⟩=some (.slice a6 f.es.length c6))∧Up p w W) [(0,true),(1,true),(2,true),(3,true),(4,true),(5,true),(6,true),(7,true),(8,true),(9,true),(10,true),(11,true),(12,true),(13,true),(14,true),(15,true),(16,true),(17,true),(18,true),(19,true)] oK (fun O=> ?_);repeat((first|refine oS ?_|refine oF O ?_);try simp only[Act.put,oa,ob,oc])
       refine bR ?_;go_wp2_with fail
       go_ret;exact⟨_,rfl,hF.out,ag.drew.up⟩
     ·have hF:Hid (aX d g=true):=by
       unfold Hid;rw[QD.out,jd];intro i h1 h2;simpa using V.out i (by omega) h1 h2
      go_wp2_with fail
      go_meet
      exact⟨hF,⟨x0,x1,x2,x3,x4,x5,x6⟩,⟨N,X,Y,Z,y4,y5,y6⟩,A⟩
   case rest=>
    clear x0 x1 x2 x3 x4 x5 x6 N X Y Z y4 y5 y6 A bl;obtain⟨hH,⟨x0,x1,x2,x3,x4,x5,x6⟩,⟨N,X,Y,Z,y4,y5,y6⟩,A⟩:=hcut;have bl:=World.block_lt_of_cell? _ _ N;simp only at bl;have QI:Hid (r=(d.es.zip g.es).all fun(e,f)=>aE e f):=by unfold Hid;rw[hR.out,hH.out];rfl
    have QE:d.es.length≤g.es.length:=Nat.le_of_eq Qg.out;have QF:g.es.length≤d.es.length:=Nat.le_of_eq Qg.out.symm;have QG:(d.es.length:Int)≤1048576:=by omega
    go_wp2_with fail
    go_loopw [100] (fun i wr=> ∃k:Nat,k≤d.es.length∧i= .int .i64 k∧(∀j(h:j<k)(h1:j<d.es.length)(h2:j<g.es.length),aE d.es[j] g.es[j]=true)∧
     (wr.cell? ⟨w.heap.size+1,0,none⟩=some (.int .i64 g.k)∧wr.cell? ⟨w.heap.size+1,1,none⟩=some (.int .i64 g.n)∧wr.cell? ⟨w.heap.size+1,2,none⟩=some (.int .i64 g.m)∧wr.cell? ⟨w.heap.size+1,3,none⟩=some (.bool g.v)∧wr.cell? ⟨w.heap.size+1,4,none⟩=some (.string g.nm)∧wr.cell? ⟨w.heap.size+1,5,none⟩=some (.string g.tg)∧wr.cell? ⟨w.heap.size+1,6,none⟩=some (.slice a2 g.es.length c2))∧Up p w wr) (fun i _=>d.es.length- (intOf i).toNat)
    case atStart=>exact⟨0,Nat.zero_le _,rfl,(fun j h=>by omega),⟨N,X,Y,Z,y4,y5,y6⟩,A⟩
    case round=>
     clear x0 x1 x2 x3 x4 x5 x6 N X Y Z y4 y5 y6 A bl;obtain⟨k,hk,rfl,Qd,⟨N,X,Y,Z,y4,y5,y6⟩,A⟩:=hrel;have bl:=World.block_lt_of_cell? _ _ N;simp only at bl;have V:=Lib.hid Qd;clear Qd;by_cases P5:k<d.es.length
     ·have G:k<g.es.length:=by omega
      have QH:(k:Int)<d.es.length:=by omega
      have Qr:(k:Int)<g.es.length:=by omega
      obtain⟨C,o1,rfl⟩:=S.list.bt (by omega);obtain⟨a5,c5,h7,Qh⟩:=S.list.get k P5;obtain⟨l,t,rfl⟩:=T.list.bt (by omega);obtain⟨a6,c6,h8,Qi⟩:=T.list.get k G;have hC:Hid (∀q,jc q D dc d.es[k] g.es[k]):=by
       obtain⟨E,F,I,J,L,M,P7,ih,_⟩:=HH.out;have p1:=E.part k P5;have p2:=F.part k G;have QJ:d.k≠12∧d.k≠13:=E.form.aA;have QK:g.k≠12∧g.k≠13:=F.form.aA;have e1:aS d k=0:=by unfold aS;rw[if_neg QJ.1,if_neg (fun h=>QB.out h.1)]
       have e2:aS g k=0:=by unfold aS;rw[if_neg QK.1,if_neg (fun h=>QB.out (by rw[QS.out];exact h.1))]
       rw[e1]at p1;rw[e2]at p2;have n1:=p1.form.aA;have n2:=p2.form.aA;have m1:=List.getElem_mem P5;have m2:=List.getElem_mem G;exact fun q=>ih _ (Nat.lt_of_lt_of_le (U.au m1) P7) _ _ _ _ _ p1 eA n1.1 n1.2 p2 eA n2.1 n2.2 (I.es m1) (J.es m2) (L.es m1).2 (M.es m2).2 q
      have o:Hid (aE d.es[k] g.es[k]=false→false=r):=fun h=>by rw[QI.out];exact(qR _ P5 G h).symm
      have s:Hid (aE d.es[k] g.es[k]=true→∀j(h:j<k+1)(h1:j<d.es.length)(h2:j<g.es.length),aE d.es[j] g.es[j]=true):=fun h j hj h1 h2=>by
       by_cases e:j=k
       ·subst e;exact h
       ·exact V.out j (by omega) h1 h2
      obtain⟨e,he⟩:∃e,e=d.es[k]:=⟨_,rfl⟩
      obtain⟨f,hf⟩:∃f,f=g.es[k]:=⟨_,rfl⟩
      rw[←he]at h7 Qh o s hC;rw[←hf]at h8 Qi o s hC;clear he hf;have hI:=Lib.hid fun W (hW:KW p W)=>hC.out p a5 c5 a6 c6 W Qh Qi hW;clear hC;obtain⟨g0,g1,g2,g3,g4,g5,g6⟩:(wr.cell? ⟨C,o1+k*7,none⟩=some (.int .i64 e.k)∧wr.cell? ⟨C,o1+k*7+1,none⟩=some (.int .i64 e.n)∧wr.cell? ⟨C,o1+k*7+2,none⟩=some (.int .i64 e.m)∧wr.cell? ⟨C,o1+k*7+3,none⟩=some (.bool e.v)∧wr.cell? ⟨C,o1+k*7+4,none⟩=some (.string e.nm)∧wr.cell? ⟨C,o1+k*7+5,none⟩=some (.string e.tg)∧wr.cell? ⟨C,o1+k*7+6,none⟩=some (.slice a5 e.es.length c5)):=h7.world A.kw;obtain⟨r0,r1,r2,r3,r4,r5,r6⟩:(wr.cell? ⟨l,t+k*7,none⟩=some (.int .i64 f.k)∧wr.cell? ⟨l,t+k*7+1,none⟩=some (.int .i64 f.n)∧wr.cell? ⟨l,t+k*7+2,none⟩=some (.int .i64 f.m)∧wr.cell? ⟨l,t+k*7+3,none⟩=some (.bool f.v)∧wr.cell? ⟨l,t+k*7+4,none⟩=some (.string f.nm)∧wr.cell? ⟨l,t+k*7+5,none⟩=some (.string f.tg)∧wr.cell? ⟨l,t+k*7+6,none⟩=some (.slice a6 f.es.length c6)):=h8.world A.kw;clear h7 h8;have ag:=A.alloc (.cells #[.int .i64 e.k,.int .i64 e.n,.int .i64 e.m,.bool e.v,.string e.nm,.string e.tg,.slice a5 e.es.length c5] 25);obtain⟨z0,z1,z2,z3,z4,z5,z6⟩:=gW wr e a5 c5 25;go_wp2_with fail
      refine oR (fun W=>(W.cell? ⟨wr.heap.size,0,none⟩=some (.int .i64 e.k)∧W.cell? ⟨wr.heap.size,1,none⟩=some (.int .i64 e.n)∧W.cell? ⟨wr.heap.size,2,none⟩=some (.int .i64 e.m)∧W.cell? ⟨wr.heap.size,3,none⟩=some (.bool e.v)∧W.cell? ⟨wr.heap.size,4,none⟩=some (.string e.nm)∧W.cell? ⟨wr.heap.size,5,none⟩=some (.string e.tg)∧W.cell? ⟨wr.heap.size,6,none⟩=some (.slice a5 e.es.length c5))∧(W.cell? ⟨w.heap.size+1,0,none⟩=some (.int .i64 g.k)∧W.cell? ⟨w.heap.size+1,1,none⟩=some (.int .i64 g.n)∧W.cell? ⟨w.heap.size+1,2,none⟩=some (.int .i64 g.m)∧W.cell? ⟨w.heap.size+1,3,none⟩=some (.bool g.v)∧W.cell? ⟨w.heap.size+1,4,none⟩=some (.string g.nm)∧W.cell? ⟨w.heap.size+1,5,none⟩=some (.string g.tg)∧W.cell? ⟨w.heap.size+1,6,none⟩=some (.slice (some ⟨l,t,none⟩) g.es.length c2))∧(W.cell? ⟨l,t+k*7,none⟩=some (.int .i64 f.k)∧W.cell? ⟨l,t+k*7+1,none⟩=some (.int .i64 f.n)∧W.cell? ⟨l,t+k*7+2,none⟩=some (.int .i64 f.m)∧W.cell? ⟨l,t+k*7+3,none⟩=some (.bool f.v)∧W.cell? ⟨l,t+k*7+4,none⟩=some (.string f.nm)∧W.cell? ⟨l,t+k*7+5,none⟩=some (.string f.tg)∧W.cell? ⟨l,t+k*7+6,none⟩=some (.slice a6 f.es.length c6))∧Up p w W) [(0,true),(1,true),(2,true),(3,true),(4,true),(5,true),(6,true),(7,false),(8,true)] oK (fun O=> ?_);repeat(first|(refine oS ?_;try simp only[Act.put,oa,ob,oc])|(refine oF O ?_;try simp only[Act.put,oa,ob,oc])|(refine oL fun K hK=> ?_;go_simp;(go_at_call 171;(with_reducible refine(hI.out _ (Up.kw (by first|assumption|exact ag.drew))).mono ?_);rintro e1 w3 ⟨b,rfl,hb,aa⟩;(try simp only[]);refine hK _ _ oK fun O=> ?_;clear hK K;try simp only[Act.put,oa,ob,oc])))
      refine bR ?_;obtain⟨_,⟨v0,v1,v2,v3,v4,v5,v6⟩,_,QL⟩:=O;cases b
      ·have hF:=Lib.hid (o.out hb.out.symm)
       clear hb aa s o;go_wp2_with fail
       go_ret;exact⟨_,rfl,hF.out,QL.up⟩
      ·have hN:=Lib.hid (s.out hb.out.symm)
       clear hb aa s o;go_wp2_with fail
       go_roundw
       case rel=>exact⟨k+1,by omega,by go_num,hN.out,⟨v0,v1,v2,v3,v4,v5,v6⟩,QL⟩
       case measure=>simp[intOf];omega
     ·have hF:Hid (true=r):=by
       unfold Hid;rw[QI.out];symm;rw[jd];intro i h1 h2;exact V.out i (by omega) h1 h2
      have hB:=A.up;go_wp2_with fail
      go_ret;exact⟨_,rfl,hF.out,hB⟩
end Go.Proofs.YtgbklbbknehefaaGreatDoor
namespace TS
theorem eD{x:U}(h:x.k≠13):aC x=x:=by unfold aC;rw[if_neg h]
theorem gL{x e:U}(h:x.k=13)(he:x.es= [e]):aC x=e:=by unfold aC;rw[if_pos h,he];rfl
theorem Form.gM{len:Nat}{u:U}{pos f:Nat}(h:Form len u pos f)(hk:u.k=13):u.es.length=1:=by
 cases h with
 |j8 _ _ he=>exact he
 |pre a _=>omega
 |one a _ _=>omega
 |ptr a _ _ _=>omega
 |_=>omega
theorem Pl.aC{len:Nat}{x:U}{pos:Nat}(h:Pl len x pos 2)(a:x.k≠12):∃pos',Pl len (aC x) pos' 2∧(TS.aC x).k≠12∧(TS.aC x).k≠13:=by
 by_cases hk:x.k=13
 ·have h1:=h.form.gM hk
  obtain⟨e,he⟩:=cT h1;have b:=h.part 0 (by omega);have c:x.es[0]'(by omega)=e:=by simp[he]
  rw[c,show aS x 0=0 by unfold aS;rw[if_neg a,if_neg (by omega)],show aI x 0 2=2 by unfold aI;rw[if_pos rfl]]at b;rw[gL hk he];exact⟨0,b,b.form.aA⟩
 ·rw[eD hk];exact⟨pos,h,a,hk⟩
theorem Names.aC{NS:List (List UInt8)}{x:U}(h:Names NS x):Names NS (aC x):=by
 unfold TS.aC;split
 ·cases he:x.es with
  |nil=>exact h
  |cons e r=>exact(h.es (by rw[he];simp)).2
 ·exact h
end TS
namespace Go.Proofs.YtgbklbbknehefaaGreatDoor
open Go.RowKit TS
theorem wL(p:Pm)(D:Dl)(dc:Nat)(NS:List (List UInt8))(Qh:NS.length≤1048576)(x y:U)(px py:Nat)(a:Option Addr)(c:Nat)(a':Option Addr)(c':Nat)(w:World)(X:Pl D.len x px 2)(Y:Pl D.len y py 2)
 (Qf:x.k≠12)(Qg:y.k≠12)(Z:Names NS x)(P4:Names NS y)(M:isIface (aC x)=false→aM (aC x)∧aM (under (aC x)))(N:isIface (aC y)=false→aM (aC y)∧aM (under (aC y)))
 (Qb:ai p D x a c)(Qc:ai p D y a' c')(hw:KW p w):
 Calls Tryz.prog 141 #[.slice D.a D.len dc,.agg #[.int .i64 x.k,.int .i64 x.n,.int .i64 x.m,.bool x.v,.string x.nm,.string x.tg,.slice a x.es.length c],.agg #[.int .i64 y.k,.int .i64 y.n,.int .i64 y.m,.bool y.v,.string y.nm,.string y.tg,.slice a' y.es.length c']] w (RB (ej x y) w):=by
 obtain⟨r,hr⟩:∃r,r=ej x y:=⟨_,rfl⟩
 rw[←hr];have Qp:=Lib.hid hr;clear hr;have ag:Up p w ((w.alloc (.cells #[.int .i64 x.k,.int .i64 x.n,.int .i64 x.m,.bool x.v,.string x.nm,.string x.tg,.slice a x.es.length c] 25)).alloc (.cells #[.int .i64 y.k,.int .i64 y.n,.int .i64 y.m,.bool y.v,.string y.nm,.string y.tg,.slice a' y.es.length c'] 25)):=((Up.refl hw).alloc _).alloc _;have HH:=Lib.hid (And.intro X (And.intro Y (And.intro Z (And.intro P4 (And.intro M N)))));clear X Y Z P4 M N;go_enter Tryz.func141,Tryz.ntmps141;go_upto_region 1 with fail
 go_cut [7,8] (fun s7 s8 d=> ∃g h,s7= .pointer (some ⟨g,0,none⟩)∧s8= .pointer (some ⟨h,0,none⟩)∧w.heap.size+1<g∧w.heap.size+1<h∧g≠h∧(d.cell? ⟨w.heap.size,0,none⟩=some (.int .i64 x.k)∧d.cell? ⟨w.heap.size,1,none⟩=some (.int .i64 x.n)∧d.cell? ⟨w.heap.size,2,none⟩=some (.int .i64 x.m)∧d.cell? ⟨w.heap.size,3,none⟩=some (.bool x.v)∧d.cell? ⟨w.heap.size,4,none⟩=some (.string x.nm)∧d.cell? ⟨w.heap.size,5,none⟩=some (.string x.tg)∧d.cell? ⟨w.heap.size,6,none⟩=some (.slice a x.es.length c))∧(d.cell? ⟨w.heap.size+1,0,none⟩=some (.int .i64 y.k)∧d.cell? ⟨w.heap.size+1,1,none⟩=some (.int .i64 y.n)∧d.cell? ⟨w.heap.size+1,2,none⟩=some (.int .i64 y.m)∧d.cell? ⟨w.heap.size+1,3,none⟩=some (.bool y.v)∧d.cell? ⟨w.heap.size+1,4,none⟩=some (.string y.nm)∧d.cell? ⟨w.heap.size+1,5,none⟩=some (.string y.tg)∧d.cell? ⟨w.heap.size+1,6,none⟩=some (.slice a' y.es.length c'))∧L7 d g x a c∧L7 d h y a' c'∧(∀o,d.frozen? ⟨g,o,none⟩=false)∧(∀o,d.frozen? ⟨h,o,none⟩=false)∧Up p w d)
 case first=>
  go_region
  all_goals
   go_wp2_with fail
   go_meet
   refine⟨_,_,rfl,rfl,by omega,by omega,by omega,?_,?_,?_,?_,?_,?_,((ag.alloc _).alloc _).drew⟩
   ·(repeat' apply And.intro)<;>simp[go_sem]
   ·(repeat' apply And.intro)<;>simp[go_sem]
   ·(repeat' apply And.intro)<;>simp[go_sem]
   ·(repeat' apply And.intro)<;>simp[go_sem]
   ·intro o;simp[go_sem]
   ·intro o;simp[go_sem]
 case rest=>
  obtain⟨g,h,rfl,rfl,hg,hh,Qw,⟨x0,x1,x2,x3,x4,x5,x6⟩,⟨y0,y1,y2,y3,y4,y5,y6⟩,⟨u0,u1,u2,u3,u4,u5,u6⟩,⟨v0,v1,v2,v3,v4,v5,v6⟩,fg,fh,u⟩:=hcut;clear ag;go_upto_if 13 with fail
  go_cut [] (fun d=> ∃a1 c1,ai p D (aC x) a1 c1∧(d.cell? ⟨w.heap.size,0,none⟩=some (.int .i64 x.k)∧d.cell? ⟨w.heap.size,1,none⟩=some (.int .i64 x.n)∧d.cell? ⟨w.heap.size,2,none⟩=some (.int .i64 x.m)∧d.cell? ⟨w.heap.size,3,none⟩=some (.bool x.v)∧d.cell? ⟨w.heap.size,4,none⟩=some (.string x.nm)∧d.cell? ⟨w.heap.size,5,none⟩=some (.string x.tg)∧d.cell? ⟨w.heap.size,6,none⟩=some (.slice a x.es.length c))∧(d.cell? ⟨w.heap.size+1,0,none⟩=some (.int .i64 y.k)∧d.cell? ⟨w.heap.size+1,1,none⟩=some (.int .i64 y.n)∧d.cell? ⟨w.heap.size+1,2,none⟩=some (.int .i64 y.m)∧d.cell? ⟨w.heap.size+1,3,none⟩=some (.bool y.v)∧d.cell? ⟨w.heap.size+1,4,none⟩=some (.string y.nm)∧d.cell? ⟨w.heap.size+1,5,none⟩=some (.string y.tg)∧d.cell? ⟨w.heap.size+1,6,none⟩=some (.slice a' y.es.length c'))∧L7 d g (aC x) a1 c1∧L7 d h y a' c'∧(∀o,d.frozen? ⟨g,o,none⟩=false)∧(∀o,d.frozen? ⟨h,o,none⟩=false)∧Up p w d)
  case first=>
   by_cases f:x.k=13
   ·have t13:(x.k==13)=true:=by simp[f]
    have h1:=HH.out.1.form.gM f;obtain⟨e,he⟩:=cT h1;have Qq:=gL f he;have hl:0<x.es.length:=by omega
    have Qs:(0:Int)<x.es.length:=by omega
    obtain⟨b,o,rfl⟩:=Qb.list.bt (by omega);obtain⟨a5,c5,h7,P5⟩:=Qb.list.get 0 (by omega);have P6:x.es[0]'(by omega)=e:=by simp[he]
    simp only[P6,Nat.zero_mul,Nat.add_zero]at h7 P5;obtain⟨z0,z1,z2,z3,z4,z5,z6⟩:(wc.cell? ⟨b,o,none⟩=some (.int .i64 e.k)∧wc.cell? ⟨b,o+1,none⟩=some (.int .i64 e.n)∧wc.cell? ⟨b,o+2,none⟩=some (.int .i64 e.m)∧wc.cell? ⟨b,o+3,none⟩=some (.bool e.v)∧wc.cell? ⟨b,o+4,none⟩=some (.string e.nm)∧wc.cell? ⟨b,o+5,none⟩=some (.string e.tg)∧wc.cell? ⟨b,o+6,none⟩=some (.slice a5 e.es.length c5)):=h7.world u.kw;have hb:=u.kw.lt h7.1;have Qt:∀o,p g o=none:=fun o=>hw.aG (by omega) o;have Qx:b≠g:=fun e=>by have:=h7.1;rw[e,Qt]at this;cases this
    have l:=Lib.hid Qq;have Qu:=Lib.hid he;clear he f h1 Qq h7 P6 HH;go_wp2_with fail
    go_meet
    rw[l.out];refine⟨a5,c5,P5,?_,?_,?_,?_,?_,?_,?_⟩
    ·(repeat' apply And.intro)<;>(simp[go_sem, *];done)
    ·(repeat' apply And.intro)<;>(simp[go_sem, *];done)
    ·(repeat' apply And.intro)<;>(simp[go_sem, *];done)
    ·(repeat' apply And.intro)<;>(simp[go_sem, *];done)
    ·intro o;simp[go_sem,fg]
    ·intro o;simp[go_sem,fh]
    ·refine nU hw ?_
     repeat(refine Below.setCell ?_ (by simp;omega) _)
     exact u.up
   ·have t13:(x.k==13)=false:=by simp[f]
    have l:=Lib.hid (eD f);clear f;go_wp2_with fail
    go_meet
    rw[l.out];exact⟨a,c,Qb,⟨x0,x1,x2,x3,x4,x5,x6⟩,⟨y0,y1,y2,y3,y4,y5,y6⟩,⟨u0,u1,u2,u3,u4,u5,u6⟩,⟨v0,v1,v2,v3,v4,v5,v6⟩,fg,fh,u⟩
  case rest=>
   clear x0 x1 x2 x3 x4 x5 x6 y0 y1 y2 y3 y4 y5 y6 u0 u1 u2 u3 u4 u5 u6 v0 v1 v2 v3 v4 v5 v6 fg fh u;obtain⟨a1,c1,Qd,⟨x0,x1,x2,x3,x4,x5,x6⟩,⟨y0,y1,y2,y3,y4,y5,y6⟩,⟨u0,u1,u2,u3,u4,u5,u6⟩,⟨v0,v1,v2,v3,v4,v5,v6⟩,fg,fh,u⟩:=hcut;go_upto_if 20 with fail
   go_cut [] (fun d=> ∃a2 c2,ai p D (aC y) a2 c2∧(d.cell? ⟨w.heap.size,0,none⟩=some (.int .i64 x.k)∧d.cell? ⟨w.heap.size,1,none⟩=some (.int .i64 x.n)∧d.cell? ⟨w.heap.size,2,none⟩=some (.int .i64 x.m)∧d.cell? ⟨w.heap.size,3,none⟩=some (.bool x.v)∧d.cell? ⟨w.heap.size,4,none⟩=some (.string x.nm)∧d.cell? ⟨w.heap.size,5,none⟩=some (.string x.tg)∧d.cell? ⟨w.heap.size,6,none⟩=some (.slice a x.es.length c))∧(d.cell? ⟨w.heap.size+1,0,none⟩=some (.int .i64 y.k)∧d.cell? ⟨w.heap.size+1,1,none⟩=some (.int .i64 y.n)∧d.cell? ⟨w.heap.size+1,2,none⟩=some (.int .i64 y.m)∧d.cell? ⟨w.heap.size+1,3,none⟩=some (.bool y.v)∧d.cell? ⟨w.heap.size+1,4,none⟩=some (.string y.nm)∧d.cell? ⟨w.heap.size+1,5,none⟩=some (.string y.tg)∧d.cell? ⟨w.heap.size+1,6,none⟩=some (.slice a' y.es.length c'))∧L7 d g (aC x) a1 c1∧L7 d h (aC y) a2 c2∧Up p w d)
   case first=>
    by_cases f:y.k=13
    ·have t13:(y.k==13)=true:=by simp[f]
     have h1:=HH.out.2.1.form.gM f;obtain⟨e,he⟩:=cT h1;have l:=Lib.hid (gL f he);have hl:0<y.es.length:=by omega
     have Qs:(0:Int)<y.es.length:=by omega
     obtain⟨b,o,rfl⟩:=Qc.list.bt (by omega);obtain⟨a5,c5,h7,P5⟩:=Qc.list.get 0 (by omega);have P6:y.es[0]'(by omega)=e:=by simp[he]
     simp only[P6,Nat.zero_mul,Nat.add_zero]at h7 P5;obtain⟨z0,z1,z2,z3,z4,z5,z6⟩:(wc.cell? ⟨b,o,none⟩=some (.int .i64 e.k)∧wc.cell? ⟨b,o+1,none⟩=some (.int .i64 e.n)∧wc.cell? ⟨b,o+2,none⟩=some (.int .i64 e.m)∧wc.cell? ⟨b,o+3,none⟩=some (.bool e.v)∧wc.cell? ⟨b,o+4,none⟩=some (.string e.nm)∧wc.cell? ⟨b,o+5,none⟩=some (.string e.tg)∧wc.cell? ⟨b,o+6,none⟩=some (.slice a5 e.es.length c5)):=h7.world u.kw;have hb:=u.kw.lt h7.1;have Qv:∀o,p h o=none:=fun o=>hw.aG (by omega) o;have Qy:b≠h:=fun e=>by have:=h7.1;rw[e,Qv]at this;cases this
     have Qu:=Lib.hid he;clear he f h1 h7 P6 HH;go_wp2_with fail
     go_meet
     rw[l.out];refine⟨a5,c5,P5,?_,?_,?_,?_,?_⟩
     ·(repeat' apply And.intro)<;>(simp[go_sem, *];done)
     ·(repeat' apply And.intro)<;>(simp[go_sem, *];done)
     ·(repeat' apply And.intro)<;>(simp[go_sem, *];done)
     ·(repeat' apply And.intro)<;>(simp[go_sem, *];done)
     ·refine nU hw ?_
      repeat(refine Below.setCell ?_ (by simp;omega) _)
      exact u.up
    ·have t13:(y.k==13)=false:=by simp[f]
     have l:=Lib.hid (eD f);clear f;go_wp2_with fail
     go_meet
     rw[l.out];exact⟨a',c',Qc,⟨x0,x1,x2,x3,x4,x5,x6⟩,⟨y0,y1,y2,y3,y4,y5,y6⟩,⟨u0,u1,u2,u3,u4,u5,u6⟩,⟨v0,v1,v2,v3,v4,v5,v6⟩,u⟩
   case rest=>
    clear x0 x1 x2 x3 x4 x5 x6 y0 y1 y2 y3 y4 y5 y6 u0 u1 u2 u3 u4 u5 u6 v0 v1 v2 v3 v4 v5 v6 fg fh u;obtain⟨a2,c2,Qe,⟨x0,x1,x2,x3,x4,x5,x6⟩,⟨y0,y1,y2,y3,y4,y5,y6⟩,⟨u0,u1,u2,u3,u4,u5,u6⟩,⟨v0,v1,v2,v3,v4,v5,v6⟩,u⟩:=hcut;obtain⟨X,Y,Z,P4,M,N⟩:=HH.out;obtain⟨pA,s,hA12,hA13⟩:=X.aC Qf;obtain⟨pB,t,E,F⟩:=Y.aC Qg;have G:=Z.aC;have H:=P4.aC;have hR:Hid (r=if isIface (aC x)||isIface (aC y)then true else if x.k=13 then !aE (aC x) (under (aC y))else if y.k=13 then !aE (under (aC x)) (aC y)else !aE (aC x) (aC y)):=Qp.out;clear HH X Y Z P4 Qp Qb Qc Qf Qg;generalize aC x=A at*;generalize aC y=B at*;have P7:=fun W O=>gl p D dc A pA 2 a1 c1 W s (by omega) (by omega) hA12 hA13 Qd O;have P8:=fun W O=>gl p D dc B pB 2 a2 c2 W t (by omega) (by omega) E F Qe O;cases hA:isIface A
    case true=>
     have P:=fun W O=>aP (P7 W O) hA;have hF:Hid (true=r):=by unfold Hid;rw[hR.out,hA];rfl
     clear P7 P8 M N s t G H;go_wp2_with fail
     refine(P _ u.kw).mono ?_;rintro e1 L ⟨rfl,i⟩;have hB:=Lib.hid (u.step i).up;clear i P;go_wp2_with fail
     go_ret;exact⟨_,rfl,hF.out,hB.out⟩
    have P:=fun W O=>aP (P7 W O) hA;obtain⟨R,I⟩:=M hA;cases S:isIface B
    case true=>
     have P9:=fun W O=>aP (P8 W O) S;have hF:Hid (true=r):=by unfold Hid;rw[hR.out,hA,S];rfl
     clear P7 P8 M N s t G H R I;go_wp2_with fail
     refine(P _ u.kw).mono ?_;rintro e1 L ⟨rfl,i⟩;have T:=u.step i;obtain⟨q0,q1,q2,q3,q4,q5,q6⟩:(L.cell? ⟨h,0,none⟩=some (.int .i64 B.k)∧L.cell? ⟨h,1,none⟩=some (.int .i64 B.n)∧L.cell? ⟨h,2,none⟩=some (.int .i64 B.m)∧L.cell? ⟨h,3,none⟩=some (.bool B.v)∧L.cell? ⟨h,4,none⟩=some (.string B.nm)∧L.cell? ⟨h,5,none⟩=some (.string B.tg)∧L.cell? ⟨h,6,none⟩=some (.slice a2 B.es.length c2)):=by
      repeat' apply And.intro
      all_goals exact cell_kept i (by assumption)
     clear i P;go_wp2_with fail
     refine(P9 _ T.kw).mono ?_;rintro e1 J ⟨rfl,z⟩;have hB:=Lib.hid (T.step z).up;clear z P9;go_wp2_with fail
     go_ret;exact⟨_,rfl,hF.out,hB.out⟩
    have P9:=fun W O=>aP (P8 W O) S;obtain⟨P_,Q⟩:=N S;have V:Hid (r=if x.k=13 then !aE A (under B)else if y.k=13 then !aE (under A) B else !aE A B):=by unfold Hid;rw[hR.out,hA,S];rfl
    clear P7 P8 M N hR hA S;go_upto_if 25 with(first|(go_at_call 17;(with_reducible refine(P _ u.kw).mono ?_);rintro e1 L ⟨rfl,i⟩;have T:=u.step i;obtain⟨q0,q1,q2,q3,q4,q5,q6⟩:(L.cell? ⟨h,0,none⟩=some (.int .i64 B.k)∧L.cell? ⟨h,1,none⟩=some (.int .i64 B.n)∧L.cell? ⟨h,2,none⟩=some (.int .i64 B.m)∧L.cell? ⟨h,3,none⟩=some (.bool B.v)∧L.cell? ⟨h,4,none⟩=some (.string B.nm)∧L.cell? ⟨h,5,none⟩=some (.string B.tg)∧L.cell? ⟨h,6,none⟩=some (.slice a2 B.es.length c2)):=(by(repeat' apply And.intro)<;>exact cell_kept i (by assumption)))|(go_at_call 17;(with_reducible refine(P9 _ T.kw).mono ?_);rintro e1 J ⟨rfl,z⟩))
    clear q0 q1 q2 q3 q4 q5 q6;have Qi:=T.step z;obtain⟨m0,m1,m2,m3,m4,m5,m6⟩:(J.cell? ⟨g,0,none⟩=some (.int .i64 A.k)∧J.cell? ⟨g,1,none⟩=some (.int .i64 A.n)∧J.cell? ⟨g,2,none⟩=some (.int .i64 A.m)∧J.cell? ⟨g,3,none⟩=some (.bool A.v)∧J.cell? ⟨g,4,none⟩=some (.string A.nm)∧J.cell? ⟨g,5,none⟩=some (.string A.tg)∧J.cell? ⟨g,6,none⟩=some (.slice a1 A.es.length c1)):=by
     repeat' apply And.intro
     all_goals exact cell_kept z (cell_kept i (by assumption))
    obtain⟨n0,n1,n2,n3,n4,n5,n6⟩:(J.cell? ⟨h,0,none⟩=some (.int .i64 B.k)∧J.cell? ⟨h,1,none⟩=some (.int .i64 B.n)∧J.cell? ⟨h,2,none⟩=some (.int .i64 B.m)∧J.cell? ⟨h,3,none⟩=some (.bool B.v)∧J.cell? ⟨h,4,none⟩=some (.string B.nm)∧J.cell? ⟨h,5,none⟩=some (.string B.tg)∧J.cell? ⟨h,6,none⟩=some (.slice a2 B.es.length c2)):=by
     repeat' apply And.intro
     all_goals exact cell_kept z (cell_kept i (by assumption))
    have xk:J.cell? ⟨w.heap.size,0,none⟩=some (.int .i64 x.k):=cell_kept z (cell_kept i x0);have yk:J.cell? ⟨w.heap.size+1,0,none⟩=some (.int .i64 y.k):=cell_kept z (cell_kept i y0);clear i z P P9 u T x0 x1 x2 x3 x4 x5 x6 y0 y1 y2 y3 y4 y5 y6 u0 u1 u2 u3 u4 u5 u6 v0 v1 v2 v3 v4 v5 v6;have ag:=Qi;by_cases kx:x.k=13
    ·have t13:(x.k==13)=true:=by simp[kx]
     have hF:Hid (r= !aE A (under B)):=by unfold Hid;rw[V.out,if_pos kx]
     obtain⟨fu,Qj,Qr,C,Qk,_⟩:=t.under (by omega) (by omega) E F;have hC:=Lib.hid (kq D dc NS Qh A (under B) _ _ _ _ s (by omega) hA12 hA13 C Qj C.form.aA.1 C.form.aA.2 R Q G H.under);have Ql:=fun W O=>ik p D dc B pB 2 a2 c2 W t (by omega) (by omega) E F Qe O;clear V kx s t C Qk R I P_ Q G H;go_wp2_with fail
     refine oR (fun W=>(W.cell? ⟨g,0,none⟩=some (.int .i64 A.k)∧W.cell? ⟨g,1,none⟩=some (.int .i64 A.n)∧W.cell? ⟨g,2,none⟩=some (.int .i64 A.m)∧W.cell? ⟨g,3,none⟩=some (.bool A.v)∧W.cell? ⟨g,4,none⟩=some (.string A.nm)∧W.cell? ⟨g,5,none⟩=some (.string A.tg)∧W.cell? ⟨g,6,none⟩=some (.slice a1 A.es.length c1))∧(W.cell? ⟨h,0,none⟩=some (.int .i64 B.k)∧W.cell? ⟨h,1,none⟩=some (.int .i64 B.n)∧W.cell? ⟨h,2,none⟩=some (.int .i64 B.m)∧W.cell? ⟨h,3,none⟩=some (.bool B.v)∧W.cell? ⟨h,4,none⟩=some (.string B.nm)∧W.cell? ⟨h,5,none⟩=some (.string B.tg)∧W.cell? ⟨h,6,none⟩=some (.slice a2 B.es.length c2))∧Up p w W) [(0,true),(1,true),(2,true),(3,true),(4,false),(5,false),(6,true),(7,true)] oK (fun j=> ?_);repeat(first|(refine oS ?_;try simp only[Act.put,oa,ob,oc])|(refine oF j ?_;try simp only[Act.put,oa,ob,oc])|(refine oL fun K hK=> ?_;go_simp;first|(go_at_call 15;(with_reducible refine(Ql _ (Up.kw (by first|assumption|exact ag.drew))).mono ?_);rintro e1 w5 ⟨q,a6,c6,rfl,Qm,Qn,Qo,aa⟩;(try simp only[]);refine hK _ _ oK fun j=> ?_;clear hK K;try simp only[Act.put,oa,ob,oc])|(go_at_call 171;obtain⟨⟨s0,s1,s2,s3,s4,s5,s6⟩,⟨r0,r1,r2,r3,r4,r5,r6⟩,sU⟩:=j;(refine(hC.out q a1 c1 a6 c6 _ (ai.sub Qm.le _ Qd) Qo Qn).mono ?_);rintro e1 w6 ⟨b,rfl,hb,aa⟩;(try simp only[]);refine hK _ _ oK fun j=> ?_;clear hK K;try simp only[Act.put,oa,ob,oc])))
     refine bR ?_;have hB:=Lib.hid j.2.2.up;have Qa:Hid ((!b)=r):=by unfold Hid;rw[hF.out,hb.out]
     clear j hb hF aa;go_wp2_with fail
     go_ret;exact⟨_,rfl,Qa.out,hB.out⟩
    have t13:(x.k==13)=false:=by simp[kx]
    by_cases ky:y.k=13
    ·have t14:(y.k==13)=true:=by simp[ky]
     have hF:Hid (r= !aE (under A) B):=by unfold Hid;rw[V.out,if_neg kx,if_pos ky]
     obtain⟨fu,Qj,Qr,C,Qk,_⟩:=s.under (by omega) (by omega) hA12 hA13;have hC:=Lib.hid (kq D dc NS Qh (under A) B _ _ _ _ C Qj C.form.aA.1 C.form.aA.2 t (by omega) E F I P_ G.under H);have Ql:=fun W O=>ik p D dc A pA 2 a1 c1 W s (by omega) (by omega) hA12 hA13 Qd O;clear V kx ky s t C Qk R I P_ Q G H;go_wp2_with fail
     refine oR (fun W=>(W.cell? ⟨g,0,none⟩=some (.int .i64 A.k)∧W.cell? ⟨g,1,none⟩=some (.int .i64 A.n)∧W.cell? ⟨g,2,none⟩=some (.int .i64 A.m)∧W.cell? ⟨g,3,none⟩=some (.bool A.v)∧W.cell? ⟨g,4,none⟩=some (.string A.nm)∧W.cell? ⟨g,5,none⟩=some (.string A.tg)∧W.cell? ⟨g,6,none⟩=some (.slice a1 A.es.length c1))∧(W.cell? ⟨h,0,none⟩=some (.int .i64 B.k)∧W.cell? ⟨h,1,none⟩=some (.int .i64 B.n)∧W.cell? ⟨h,2,none⟩=some (.int .i64 B.m)∧W.cell? ⟨h,3,none⟩=some (.bool B.v)∧W.cell? ⟨h,4,none⟩=some (.string B.nm)∧W.cell? ⟨h,5,none⟩=some (.string B.tg)∧W.cell? ⟨h,6,none⟩=some (.slice a2 B.es.length c2))∧Up p w W) [(0,true),(1,true),(2,true),(4,true),(3,false),(5,false),(6,true),(7,true)] oK (fun j=> ?_);repeat(first|(refine oS ?_;try simp only[Act.put,oa,ob,oc])|(refine oF j ?_;try simp only[Act.put,oa,ob,oc])|(refine oL fun K hK=> ?_;go_simp;first|(go_at_call 15;(with_reducible refine(Ql _ (Up.kw (by first|assumption|exact ag.drew))).mono ?_);rintro e1 w5 ⟨q,a6,c6,rfl,Qm,Qn,Qo,aa⟩;(try simp only[]);refine hK _ _ oK fun j=> ?_;clear hK K;try simp only[Act.put,oa,ob,oc])|(go_at_call 171;obtain⟨⟨s0,s1,s2,s3,s4,s5,s6⟩,⟨r0,r1,r2,r3,r4,r5,r6⟩,sU⟩:=j;(refine(hC.out q a6 c6 a2 c2 _ Qo (ai.sub Qm.le _ Qe) Qn).mono ?_);rintro e1 w6 ⟨b,rfl,hb,aa⟩;(try simp only[]);refine hK _ _ oK fun j=> ?_;clear hK K;try simp only[Act.put,oa,ob,oc])))
     refine bR ?_;have hB:=Lib.hid j.2.2.up;have Qa:Hid ((!b)=r):=by unfold Hid;rw[hF.out,hb.out]
     clear j hb hF aa;go_wp2_with fail
     go_ret;exact⟨_,rfl,Qa.out,hB.out⟩
    ·have t14:(y.k==13)=false:=by simp[ky]
     have hF:Hid (r= !aE A B):=by unfold Hid;rw[V.out,if_neg kx,if_neg ky]
     have hC:=Lib.hid (kq D dc NS Qh A B _ _ _ _ s (by omega) hA12 hA13 t (by omega) E F R P_ G H p);clear V kx ky s t R I P_ Q G H;go_wp2_with fail
     refine(hC.out a1 c1 a2 c2 _ Qd Qe Qi.kw).mono ?_;rintro e1 w6 ⟨b,rfl,hb,aa⟩;have hB:=Lib.hid (Qi.step aa).up;have Qa:Hid ((!b)=r):=by unfold Hid;rw[hF.out,hb.out]
     clear hb hF aa;go_wp2_with fail
     go_ret;exact⟨_,rfl,Qa.out,hB.out⟩
end Go.Proofs.YtgbklbbknehefaaGreatDoor
