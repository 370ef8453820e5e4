import Derived.Test.YtkochlhejabdcaaGreatDoorYbo
import Derived.Test.YtkochlhejabdcaaGreatDoorYbp
set_option maxRecDepth 100000
set_option maxHeartbeats 8000000
set_option linter.all false
namespace TS
open Go Go.RowKit Go.Proofs.Tryz
def eP(P:U→Prop)(M:List U→Prop)(u:U):Prop:=
 (u.k=12→∀e,∀_:e∈u.es,eP P M e)∧(u.k=13→P (aH u))∧(u.k≠12→u.k≠13→isIface u=false→P (bare u))∧
  (u.k≠12→u.k≠13→(under u).k=10→M ((under u).es.take (under u).m.toNat)∧∀e,∀_:e∈(under u).es.drop (under u).m.toNat,eP P M e)
termination_by u.sz
decreasing_by
 ·exact U.ar ‹_›
 ·have h1:=U.ar (List.mem_of_mem_drop ‹_›)
  have a:=dp u;omega
theorem FD{X:Xo}{u:U}(h:u.k=13):bQ X u=X.t (aH u):=by
 rw[bQ,if_neg zo,if_pos h]
theorem FE{X:Xo}{u:U}(a:u.k≠12)(b:u.k≠13)(h:(bare u).k=16):bQ X u=X.s:=by
 rw[bQ,if_neg a,if_neg b,if_pos h]
theorem FG{X:Xo}{u:U}(a:u.k≠12)(b:u.k≠13)(c:(bare u).k≠16)(hi:isIface u=false):bQ X u=X.n (bare u):=by
 rw[bQ,if_neg a,if_neg b,if_neg c,if_pos hi]
theorem FH{X:Xo}{u:U}(a:u.k≠12)(b:u.k≠13)(c:(bare u).k≠16)(hi:isIface u=true)(hu:(under u).k=16):bQ X u=X.s:=by
 rw[bQ,if_neg a,if_neg b,if_neg c,if_neg (by rw[hi];simp),if_pos hu]
end TS
namespace Go.Proofs.YtkochlhejabdcaaGreatDoor
open Go.RowKit TS Tryz
structure jM(p:Pm)(D:Dl)(dc:Nat)(x:U)(b:Option Addr)(cx:Nat)(X:Xo)(d:List U)(P:U→Prop)(M:List U→Prop):Prop where
 rK:∀(q:Pm)(y:U)(a:Option Addr)(c:Nat)(W:World),Sub p q→P y→ai q D y a c→KW q W→Xk 8 #[Xd D dc,Xt x b cx] W fun e f=> ∃V,e= .returned V∧Below W W f∧∀g,Below f f g→Xk 15 #[Xd D dc,V,Xt y a c] g (RB (X.t y) g)
 rL:∀(q:Pm)(y:U)(a:Option Addr)(c:Nat)(W:World),Sub p q→P y→ai q D y a c→KW q W→Xk 15 #[Xd D dc,Xt x b cx,Xt y a c] W (RB (X.n y) W)
 str:∀(W:World),KW p W→Xk 57 #[Xd D dc,Xt x b cx] W (RB X.s W)
 rM:∀(q:Pm)(W:World),Sub p q→KW q W→Xk 59 #[Xd D dc,Xt x b cx] W (RW q D d W)
 all:∀(q:Pm)(W:World)(a:Option Addr)(n c:Nat)(a':Option Addr)(i c':Nat)(want:List U),Sub p q→KW q W→aq q D d a→n=d.length→aq q D want a'→i=want.length→M want→want.length≤1048576→Xk 58 #[Xd D dc,.slice a n c,.slice a' i c'] W (RB (X.h want) W)
theorem jM.sub{p q:Pm}{D:Dl}{dc:Nat}{x:U}{e:Option Addr}{cx:Nat}{X:Xo}{f:List U}{P:U→Prop}{M:List U→Prop}(h:jM p D dc x e cx X f P M)(d:Sub p q):jM q D dc x e cx X f P M:=
 ⟨fun b y a c W k=>h.rK b y a c W (d.trans k),fun b y a c W k=>h.rL b y a c W (d.trans k),fun W k=>h.str W (k.sub d),fun b W k=>h.rM b W (d.trans k),fun b W a n c a' g c' want k=>h.all b W a n c a' g c' want (d.trans k)⟩
def wZ(D:Dl)(dc:Nat)(x:U)(b:Option Addr)(cx:Nat)(X:Xo)(P:U→Prop)(M:List U→Prop)(u:U):Prop:=
 ∀(p:Pm)(d:List U)(pos f:Nat)(a:Option Addr)(c:Nat)(w:World),jM p D dc x b cx X d P M→eP P M u→Pl D.len u pos f→f≤2→f≠0→(u.k=12∨u.k=13→f=2)→ai p D u a c→KW p w→
  Xk 24 #[Xd D dc,Xt x b cx,Xt u a c] w (RB (bQ X u) w)
theorem w_(p:Pm)(D:Dl)(dc:Nat)(x:U)(i:Option Addr)(cx:Nat)(X:Xo)(m:List U)(P:U→Prop)(M:List U→Prop)(e:U)(f:Nat)(a:Option Addr)(c:Nat)(w:World)(n:wZ D dc x i cx X P M e)(o:jM p D dc x i cx X m P M)(q:eP P M e)(pos:Nat)(r:Pl D.len e pos 2)(hu:ai p D e a c)(hw:KW p w)(j k:Nat)
 (h1:Xc w j 0 (Xd D dc))(s:(Xl w k x i cx)):
 Xk 56 #[Xt e a c,Xp j,Xp k] w (RB (bQ X e) w)∧Xk 60 #[Xt e a c,Xp j,Xp k] w (RB (!bQ X e) w):=by
 obtain⟨t,z,A,B,C,E,F⟩:=s;have b1:=zb h1;have u:=zb t;simp only at b1 u;have ae:=zh ((Up.refl hw).alloc (Xt e a c));have g:=zh (n p m pos 2 a c _ o q r zo zo (fun _=>rfl) hu ae.out.kw);clear n o q r hu hw;constructor
 ·go_enter func56,ntmps56
  go_wp2_with fail
  refine g.out.mono ?_;rintro v y ⟨b,rfl,h,aa⟩;have d:=zh (ae.out.step aa).up;clear aa g;go_wp2_with fail
  go_ret;exact⟨_,rfl,h,d.out⟩
 ·go_enter func60,ntmps60
  go_wp2_with fail
  refine g.out.mono ?_;rintro v y ⟨b,rfl,h,aa⟩;have d:=zh (ae.out.step aa).up;have l:Hid ((!b)= !bQ X e):=by unfold Hid;rw[h.out]
  clear aa g h;go_wp2_with fail
  go_ret;exact⟨_,rfl,l,d.out⟩
theorem FI{q:Pm}{w W:World}(hk:KW q W)(h:Below w w W):Up q w W:=⟨hk,h⟩
theorem FJ{l:List U}{P:U→Bool}:(!l.any fun e=> !P e)=l.all P:=by rw[List.not_any_eq_all_not];simp
theorem xd(D:Dl)(dc:Nat)(x:U)(N:Option Addr)(cx:Nat)(X:Xo)(P:U→Prop)(M:List U→Prop):∀u,wZ D dc x N cx X P M u:=by
 intro u;induction u using U.bc with
 |_ u ih=>
  intro p ml pos f a c w hX hO hP hf Q PK hu hw;have Qo:=hO;rw[eP]at Qo;obtain⟨PL,PM,oV,PG⟩:=Qo;have hC:=fun W hk=>iQ p D u pos f a c W hP hu hk;have ae:Up p w (((w.alloc (.cells #[Xd D dc] 22)).alloc (Xt x N cx)).alloc (Xt u a c)):=(((Up.refl hw).alloc _).alloc _).alloc _;have B:=zh hw;have QQ:∀(fn:Fn)(first cap:Array Value)(w:World),(Instr.makeFunc fn first cap).run Tryz.prog w= .ok (.func fn first cap) w:=fun _ _ _ _=>rfl;by_cases d:u.k=12
  ·have t12:(u.k==12)=true:=by simp[d]
   have hF:=zh (wQ (X:=X) d).symm;rw[bR zo zo]at hC;have PX:=hu.cap;have hle:(u.es.length:Int)≤1048576:=zo;have eg:=show ∀args w,(callFunc 56 args).run Tryz.prog w= .ok (.enter 56 args) w from dG func56 zk rfl
   have hE:=zh fun i (hi:i<u.es.length) (W':World) (QF:KW p W') a' c' (PN:ai p D u.es[i] a' c') (g1:Xc W' w 0 (Xd D dc)) (g2:(Xl W' (w+1) x N cx))=>
    (w_ p D dc x N cx X ml P M u.es[i] 2 a' c' W' (ih _ (U.ar (zm hi))) hX (PL d _ (zm hi)) 1 (by
     have h:=hP.part i hi;rwa [show aS u i=1 by unfold aS;rw[if_pos d],PK (.inl d),show aO u i 2=2 by unfold aO;rw[if_pos rfl]]at h) PN QF _ _ g1 g2).1
   clear hX hO hP hf Q PK hu hw d PL PM oV PG ih PX;go_enter func24,ntmps24;go_wp2_with fail
   refine(hC _ ae.kw).mono ?_;rintro e1 z ⟨a1,c1,rfl,s,aa⟩;have l:=ae.step aa;obtain⟨R,l1,l2,l3,l4,l5,l6⟩:TS.L7 z (w.heap.size+2) u a c:=by
    repeat' apply And.intro
    all_goals exact TS.cell_kept aa (by simp[go_sem];done)
   obtain⟨k0,k1,k2,k3,k4,k5,k6⟩:TS.L7 z (w.heap.size+1) x N cx:=by
    repeat' apply And.intro
    all_goals exact TS.cell_kept aa (by simp[go_sem];done)
   have d0:Xc z w 0 (Xd D dc):=TS.cell_kept aa (by simp[go_sem];done);have hz:=zb R;simp only at hz;have S:∀y,z.frozen? (Xa (w+2) y)=false:=fun y=>TS.frozen_kept aa (by simp[go_sem]) (by simp[go_sem]);have I:=zh l.up;clear hC aa ae;have hK:=zh fun W (hW:KW p W) lb H=>fZ u.es.length p D u.es rfl a1 c1 56 lb (bQ X) W hW s.list hle eg H;clear l s eg;go_wp2_with fail
   refine(hK.out _ (B.out.grown (by(repeat(refine Below.setCell ?_ (by simp;try omega) _));exact I.out)) _ ?_).mono ?_
   ·intro i hi W a' c' PO Qf
    refine hE.out i hi W (KW.grown (B.out.grown (by(repeat(refine Below.setCell ?_ (by simp;try omega) _));exact I.out)) PO) a' c' Qf (TS.cell_kept PO (by simp[go_sem,d0];done)) ?_;repeat' apply And.intro
    all_goals exact TS.cell_kept PO (by simp[go_sem,k0,k1,k2,k3,k4,k5,k6];done)
   rintro e9 w9 ⟨b,rfl,hb,A⟩;have T:=zh (Up.step (gL B.out (by(repeat(refine Below.setCell ?_ (by simp;try omega) _));exact I.out)) A).up;have C:=zh (hb.out.trans hF.out);clear A hb;go_wp2_with fail
   go_ret;exact⟨_,rfl,C.out,T.out⟩
  by_cases j:u.k=13
  ·have t12:(u.k==12)=false:=by simp[d]
   have t13:(u.k==13)=true:=by simp[j]
   obtain⟨e,he⟩:=cL (hP.form.gM j);have ht:aH u=e:=hZ j he;have hF:=zh (show X.t e=bQ X u by rw[FD j,ht]);have Qg:=PM j;rw[ht]at Qg;rw[bR zo zo]at hC;have h0:(0:Int)<u.es.length:=by rw[he];simp
   have QR:0<u.es.length:=by rw[he];simp
   have Qp:=zh fun a' c' W (PN:ai p D e a' c') (hW:KW p W)=>hX.rK p e a' c' W (Sub.refl p) Qg PN hW;have QG:=zh he;clear hX hO hP hf Q PK hu hw d j PL PM oV PG ih ht Qg he;go_enter func24,ntmps24;go_wp2_with fail
   refine(hC _ ae.kw).mono ?_;rintro e1 z ⟨a1,c1,rfl,s,aa⟩;have l:=ae.step aa;obtain⟨R,l1,l2,l3,l4,l5,l6⟩:TS.L7 z (w.heap.size+2) u a c:=by
    repeat' apply And.intro
    all_goals exact TS.cell_kept aa (by simp[go_sem];done)
   obtain⟨k0,k1,k2,k3,k4,k5,k6⟩:TS.L7 z (w.heap.size+1) x N cx:=by
    repeat' apply And.intro
    all_goals exact TS.cell_kept aa (by simp[go_sem];done)
   have d0:Xc z w 0 (Xd D dc):=TS.cell_kept aa (by simp[go_sem];done);have hz:=zb R;simp only at hz;have S:∀y,z.frozen? (Xa (w+2) y)=false:=fun y=>TS.frozen_kept aa (by simp[go_sem]) (by simp[go_sem]);have I:=zh l.up;clear hC aa ae;have P4:=s.list;rw[QG.out]at P4;obtain⟨b,o,rfl⟩:=P4.bg zs;obtain⟨a',c',h7,PN⟩:=P4.get 0 zs;simp only[List.getElem_cons_zero,Nat.zero_mul,Nat.add_zero]at h7 PN;obtain⟨g0,g1,g2,g3,g4,g5,g6⟩:TS.C7 z b o e a' c':=h7.world l.kw;have QS:b<w.heap.size:=B.out.lt h7.1;have Qq:b≠w.heap.size+2:=zo;have Qr:=zh PN;clear h7 P4 l s PN;go_wp2_with fail
   refine kh (fun W=>(Xc W w 0 (Xd D dc)∧(Xl W (w+1) x N cx)∧(Xl W (w+2) u (Xa b o) c1)∧(Xs W b o e a' c'))∧Up p w W) ?_ ?_
   ·refine⟨?_,(gL B.out (by(repeat(refine Below.setCell ?_ (by simp;try omega) _));exact I.out))⟩
    repeat' apply And.intro
    all_goals (simp[go_sem,d0,R,l1,l2,l3,l4,l5,l6,k0,k1,k2,k3,k4,k5,k6,g0,g1,g2,g3,g4,g5,g6,Qq];done)
   clear R l1 l2 l3 l4 l5 l6 k0 k1 k2 k3 k4 k5 k6 d0 hz S I g0 g1 g2 g3 g4 g5 g6;rintro W0 ⟨PY,PH⟩;refine oR (fun W=>Xc W w 0 (Xd D dc)∧(Xl W (w+1) x N cx)∧(Xl W (w+2) u (Xa b o) c1)∧(Xs W b o e a' c')) [(0,true),(1,true),(2,true),(4,true),(5,true),(6,true),(7,true),(3,false),(8,false),(9,true)] PY (fun r=> ?_);have G:=zh PH.drew;clear PY PH;generalize W0.drew=W1 at*;repeat((first|refine oS ?_|refine oF r ?_);try simp only[Act.put,oa,ob,oc])
   refine oL fun K hK=> ?_;go_simp;go_at_call 8
   refine(Qp.out a' c' W1 Qr.out G.out.kw).mono ?_;rintro e2 w2 ⟨V,rfl,g,Qs⟩;have Qt:=zh Qs;have Qu:=zh (G.out.step g);clear Qs;obtain⟨z0,⟨y0,y1,y2,y3,y4,y5,y6⟩,⟨x0,x1,x2,x3,x4,x5,x6⟩,g0,g1,g2,g3,g4,g5,g6⟩:=r;(try simp only[]);refine hK _ _ (by(repeat' apply And.intro)<;>exact TS.cell_kept g za) fun r=> ?_;clear hK K;try simp only[Act.put,oa,ob,oc]
   clear z0 y0 y1 y2 y3 y4 y5 y6 x0 x1 x2 x3 x4 x5 x6 g0 g1 g2 g3 g4 g5 g6 g;repeat((first|refine oS ?_|refine oF r ?_);try simp only[Act.put,oa,ob,oc])
   refine oL fun K hK=> ?_;go_simp;go_at_call 15
   refine(Qt.out w2 zB).mono ?_;rintro e3 w3 ⟨b3,rfl,hb,E⟩;have Qv:=zh (Qu.out.step E);obtain⟨z0,⟨y0,y1,y2,y3,y4,y5,y6⟩,⟨x0,x1,x2,x3,x4,x5,x6⟩,g0,g1,g2,g3,g4,g5,g6⟩:=r;(try simp only[]);refine hK _ _ (by(repeat' apply And.intro)<;>exact TS.cell_kept E za) fun r=> ?_;clear hK K;try simp only[Act.put,oa,ob,oc]
   have C:=zh (hb.out.trans hF.out);clear z0 y0 y1 y2 y3 y4 y5 y6 x0 x1 x2 x3 x4 x5 x6 g0 g1 g2 g3 g4 g5 g6 E hb;repeat((first|refine oS ?_|refine oF r ?_);try simp only[Act.put,oa,ob,oc])
   refine bZ ?_;clear r;go_wp2_with fail
   go_ret;exact⟨_,rfl,C.out,Qv.out.up⟩
  obtain⟨PQ,PI,PJ,P5⟩:=hP.bare hf d j;have J:=PQ.form.aD;have PT:under (bare u)=under u:=by unfold under;rw[bR PI PJ]
  have PZ:isIface (bare u)=isIface u:=by unfold isIface;rw[PT]
  have t12:((bare u).k==12)=false:=by simp[J.1]
  have t13:((bare u).k==13)=false:=by simp[J.2]
  have hI:=fun a' c' W (h:ai p D (bare u) a' c') hW=>fM p D dc (bare u) 0 f a' c' W PQ hf Q J.1 J.2 h hW;rw[PZ]at hI;have PU:=fun a' c' W (h:ai p D (bare u) a' c') hW=>f_ p D dc (bare u) 0 f a' c' W PQ hf Q J.1 J.2 h hW;rw[PT]at PU;have PR:=zh hX.str;by_cases L:(bare u).k=16
  ·have t16:((bare u).k==16)=true:=by simp[L]
   have hF:=zh (FE (X:=X) d j L).symm;clear hX hO hP hf Q PK hu hw d j PL PM oV PG ih PQ PI PJ P5 J PT PZ hI PU L;generalize bare u=v at*;go_enter func24,ntmps24;go_wp2_with fail
   refine(hC _ ae.kw).mono ?_;rintro e1 z ⟨a1,c1,rfl,s,aa⟩;have l:=ae.step aa;obtain⟨R,l1,l2,l3,l4,l5,l6⟩:TS.L7 z (w.heap.size+2) u a c:=by
    repeat' apply And.intro
    all_goals exact TS.cell_kept aa (by simp[go_sem];done)
   obtain⟨k0,k1,k2,k3,k4,k5,k6⟩:TS.L7 z (w.heap.size+1) x N cx:=by
    repeat' apply And.intro
    all_goals exact TS.cell_kept aa (by simp[go_sem];done)
   have d0:Xc z w 0 (Xd D dc):=TS.cell_kept aa (by simp[go_sem];done);have hz:=zb R;simp only at hz;have S:∀y,z.frozen? (Xa (w+2) y)=false:=fun y=>TS.frozen_kept aa (by simp[go_sem]) (by simp[go_sem]);have I:=zh l.up;clear hC aa ae;clear l s;go_wp2_with fail
   refine(PR.out _ (B.out.grown (by(repeat(refine Below.setCell ?_ (by simp;try omega) _));exact I.out))).mono ?_;rintro e9 w9 ⟨b,rfl,hb,A⟩;have T:=zh (Up.step (gL B.out (by(repeat(refine Below.setCell ?_ (by simp;try omega) _));exact I.out)) A).up;have C:=zh (hb.out.trans hF.out);clear A hb;go_wp2_with fail
   go_ret;exact⟨_,rfl,C.out,T.out⟩
  have t16:((bare u).k==16)=false:=by simp[L]
  cases hi:isIface u
  ·have P0:=zh fun a' c' W h hW=>aT (hI a' c' W h hW) hi
   have hF:=zh (FG (X:=X) d j L hi).symm;have hN:=zh fun a' c' W (h:ai p D (bare u) a' c') (hW:KW p W)=>hX.rL p (bare u) a' c' W (Sub.refl p) (oV d j hi) h hW;clear hX hO hP hf Q PK hu hw d j PL PM oV PG ih PQ PI PJ P5 J PT PZ hI PU L hi PR;generalize bare u=v at*;go_enter func24,ntmps24;go_wp2_with fail
   refine(hC _ ae.kw).mono ?_;rintro e1 z ⟨a1,c1,rfl,s,aa⟩;have l:=ae.step aa;obtain⟨R,l1,l2,l3,l4,l5,l6⟩:TS.L7 z (w.heap.size+2) u a c:=by
    repeat' apply And.intro
    all_goals exact TS.cell_kept aa (by simp[go_sem];done)
   obtain⟨k0,k1,k2,k3,k4,k5,k6⟩:TS.L7 z (w.heap.size+1) x N cx:=by
    repeat' apply And.intro
    all_goals exact TS.cell_kept aa (by simp[go_sem];done)
   have d0:Xc z w 0 (Xd D dc):=TS.cell_kept aa (by simp[go_sem];done);have hz:=zb R;simp only at hz;have S:∀y,z.frozen? (Xa (w+2) y)=false:=fun y=>TS.frozen_kept aa (by simp[go_sem]) (by simp[go_sem]);have I:=zh l.up;clear hC aa ae;clear l;have F:=zh s;clear s;go_wp2_with fail
   refine(P0.out a1 c1 _ F.out (B.out.grown (by(repeat(refine Below.setCell ?_ (by simp;try omega) _));exact I.out))).mono ?_;rintro e2 w2 ⟨rfl,g⟩;have Y:=zh (Up.step (gL B.out (by(repeat(refine Below.setCell ?_ (by simp;try omega) _));exact I.out)) g);obtain⟨x0,x1,x2,x3,x4,x5,x6⟩:TS.L7 w2 (w.heap.size+2) v a1 c1:=by
    repeat' apply And.intro
    all_goals exact TS.cell_kept g (by simp[go_sem,R,l1,l2,l3,l4,l5,l6];done)
   obtain⟨y0,y1,y2,y3,y4,y5,y6⟩:TS.L7 w2 (w.heap.size+1) x N cx:=by
    repeat' apply And.intro
    all_goals exact TS.cell_kept g (by simp[go_sem,k0,k1,k2,k3,k4,k5,k6];done)
   have e0:Xc w2 w 0 (Xd D dc):=TS.cell_kept g (by simp[go_sem,d0];done);clear g R l1 l2 l3 l4 l5 l6 k0 k1 k2 k3 k4 k5 k6 d0 S hz I;go_wp2_with fail
   refine(hN.out a1 c1 _ F.out Y.out.kw).mono ?_;rintro e9 w9 ⟨b,rfl,hb,A⟩;have T:=zh (Up.step Y.out A).up;have C:=zh (hb.out.trans hF.out);clear A hb;go_wp2_with fail
   go_ret;exact⟨_,rfl,C.out,T.out⟩
  have P0:=zh fun a' c' W h hW=>aT (hI a' c' W h hW) hi;have P1:=zh PU;obtain⟨f',Qw,P_,P6,hk,Qh⟩:=hP.under hf Q d j;by_cases O:(under u).k=16
  ·have QH:((under u).k==16)=true:=by simp[O]
   have hF:=zh (FH (X:=X) d j L hi O).symm;clear hX hO hP hf Q PK hu hw d j PL PM oV PG ih PQ PI PJ P5 J PT PZ hI PU L hi P6 hk Qh Qw P_ O;generalize under u=y at*;generalize bare u=v at*;go_enter func24,ntmps24;go_wp2_with fail
   refine(hC _ ae.kw).mono ?_;rintro e1 z ⟨a1,c1,rfl,s,aa⟩;have l:=ae.step aa;obtain⟨R,l1,l2,l3,l4,l5,l6⟩:TS.L7 z (w.heap.size+2) u a c:=by
    repeat' apply And.intro
    all_goals exact TS.cell_kept aa (by simp[go_sem];done)
   obtain⟨k0,k1,k2,k3,k4,k5,k6⟩:TS.L7 z (w.heap.size+1) x N cx:=by
    repeat' apply And.intro
    all_goals exact TS.cell_kept aa (by simp[go_sem];done)
   have d0:Xc z w 0 (Xd D dc):=TS.cell_kept aa (by simp[go_sem];done);have hz:=zb R;simp only at hz;have S:∀y,z.frozen? (Xa (w+2) y)=false:=fun y=>TS.frozen_kept aa (by simp[go_sem]) (by simp[go_sem]);have I:=zh l.up;clear hC aa ae;clear l;have F:=zh s;clear s;go_wp2_with fail
   refine(P0.out a1 c1 _ F.out (B.out.grown (by(repeat(refine Below.setCell ?_ (by simp;try omega) _));exact I.out))).mono ?_;rintro e2 w2 ⟨rfl,g⟩;have Y:=zh (Up.step (gL B.out (by(repeat(refine Below.setCell ?_ (by simp;try omega) _));exact I.out)) g);obtain⟨x0,x1,x2,x3,x4,x5,x6⟩:TS.L7 w2 (w.heap.size+2) v a1 c1:=by
    repeat' apply And.intro
    all_goals exact TS.cell_kept g (by simp[go_sem,R,l1,l2,l3,l4,l5,l6];done)
   obtain⟨y0,y1,y2,y3,y4,y5,y6⟩:TS.L7 w2 (w.heap.size+1) x N cx:=by
    repeat' apply And.intro
    all_goals exact TS.cell_kept g (by simp[go_sem,k0,k1,k2,k3,k4,k5,k6];done)
   have e0:Xc w2 w 0 (Xd D dc):=TS.cell_kept g (by simp[go_sem,d0];done);clear g R l1 l2 l3 l4 l5 l6 k0 k1 k2 k3 k4 k5 k6 d0 S hz I;go_wp2_with fail
   refine(P1.out a1 c1 _ F.out Y.out.kw).mono ?_;rintro e3 w3 ⟨q,a2,c2,rfl,hg,P7,P2,E⟩;have P3:=zh (Y.out.step E);obtain⟨z0,z1,z2,z3,z4,z5,z6⟩:TS.L7 w3 (w.heap.size+1) x N cx:=by
    repeat' apply And.intro
    all_goals exact TS.cell_kept E za
   have e3:Xc w3 w 0 (Xd D dc):=TS.cell_kept E e0;have P8:=zb z0;have P9:=zb e3;simp only at P8 P9;clear E hg P7 P2 x0 x1 x2 x3 x4 x5 x6 y0 y1 y2 y3 y4 y5 y6 e0;go_wp2_with fail
   refine(PR.out _ (P3.out.alloc _).kw).mono ?_;rintro e9 w9 ⟨b,rfl,hb,A⟩;have T:=zh (Up.step (P3.out.alloc _) A).up;have C:=zh (hb.out.trans hF.out);clear A hb;go_wp2_with fail
   go_ret;exact⟨_,rfl,C.out,T.out⟩
  have PW:(under u).k=10:=by
   unfold isIface at hi;simp only[Bool.or_eq_true,beq_iff_eq]at hi;exact hi.resolve_right O
  have QH:((under u).k==16)=false:=by simp[O]
  have hF:=zh (wR (X:=X) d j L PW);obtain⟨QT,QI,h4⟩:=P6.form.jm PW;have hE:=zh fun e (he:e∈(under u).es.drop (under u).m.toNat)=>And.intro (ih e (Nat.lt_of_lt_of_le (U.ar (List.mem_of_mem_drop he)) Qh)) (And.intro ((PG d j PW).2 e he) (P6.elem PW he));have QJ:=zh (PG d j PW).1;have Qi:=zh hX;clear hX hO hP hf Q PK hu hw d j PL PM oV PG ih PQ PI PJ P5 J PT PZ hI PU L hi P6 hk Qh Qw P_ O PW PR;generalize under u=y at*;generalize bare u=v at*;go_enter func24,ntmps24;go_wp2_with fail
  refine(hC _ ae.kw).mono ?_;rintro e1 z ⟨a1,c1,rfl,s,aa⟩;have l:=ae.step aa;obtain⟨R,l1,l2,l3,l4,l5,l6⟩:TS.L7 z (w.heap.size+2) u a c:=by
   repeat' apply And.intro
   all_goals exact TS.cell_kept aa (by simp[go_sem];done)
  obtain⟨k0,k1,k2,k3,k4,k5,k6⟩:TS.L7 z (w.heap.size+1) x N cx:=by
   repeat' apply And.intro
   all_goals exact TS.cell_kept aa (by simp[go_sem];done)
  have d0:Xc z w 0 (Xd D dc):=TS.cell_kept aa (by simp[go_sem];done);have hz:=zb R;simp only at hz;have S:∀y,z.frozen? (Xa (w+2) y)=false:=fun y=>TS.frozen_kept aa (by simp[go_sem]) (by simp[go_sem]);have I:=zh l.up;clear hC aa ae;clear l;have F:=zh s;clear s;go_wp2_with fail
  refine(P0.out a1 c1 _ F.out (B.out.grown (by(repeat(refine Below.setCell ?_ (by simp;try omega) _));exact I.out))).mono ?_;rintro e2 w2 ⟨rfl,g⟩;have Y:=zh (Up.step (gL B.out (by(repeat(refine Below.setCell ?_ (by simp;try omega) _));exact I.out)) g);obtain⟨x0,x1,x2,x3,x4,x5,x6⟩:TS.L7 w2 (w.heap.size+2) v a1 c1:=by
   repeat' apply And.intro
   all_goals exact TS.cell_kept g (by simp[go_sem,R,l1,l2,l3,l4,l5,l6];done)
  obtain⟨y0,y1,y2,y3,y4,y5,y6⟩:TS.L7 w2 (w.heap.size+1) x N cx:=by
   repeat' apply And.intro
   all_goals exact TS.cell_kept g (by simp[go_sem,k0,k1,k2,k3,k4,k5,k6];done)
  have e0:Xc w2 w 0 (Xd D dc):=TS.cell_kept g (by simp[go_sem,d0];done);clear g R l1 l2 l3 l4 l5 l6 k0 k1 k2 k3 k4 k5 k6 d0 S hz I;go_wp2_with fail
  refine(P1.out a1 c1 _ F.out Y.out.kw).mono ?_;rintro e3 w3 ⟨q,a2,c2,rfl,hg,P7,P2,E⟩;have P3:=zh (Y.out.step E);obtain⟨z0,z1,z2,z3,z4,z5,z6⟩:TS.L7 w3 (w.heap.size+1) x N cx:=by
   repeat' apply And.intro
   all_goals exact TS.cell_kept E za
  have e3:Xc w3 w 0 (Xd D dc):=TS.cell_kept E e0;have P8:=zb z0;have P9:=zb e3;simp only at P8 P9;have PX:=P2.cap;have QK:=PX.1;have QU:max y.m 0=y.m:=zo;have QN:y.m≤y.es.length:=zo;have QO:¬y.m<0:=zo;have QV:y.m.toNat≤c2:=zo;have QP:y.m≤c2:=zo;have Z:=zh P2.list;have Qx:=zh hg.le;have Qa:=zh P7;clear E hg P7 P2 x0 x1 x2 x3 x4 x5 x6 y0 y1 y2 y3 y4 y5 y6 e0 P0 P1;go_wp2_with fail
  refine kh (fun W=>(Xc W w 0 (Xd D dc)∧(Xl W (w+1) x N cx)∧(Xl W w3 y a2 c2))∧Up q w W) ?_ ?_
  ·refine⟨?_,FI (Qa.out.alloc (Xt y a2 c2)) (P3.out.alloc (Xt y a2 c2)).up⟩
   repeat' apply And.intro
   all_goals first|(simp[go_sem];done)|(simp[go_sem,z0,z1,z2,z3,z4,z5,z6,e3,P8,P9];done)|(go_keep;done)
  clear z0 z1 z2 z3 z4 z5 z6 e3 P3 Qa Y;rintro W0 ⟨PY,PH⟩;refine oR (fun W=>Xc W w 0 (Xd D dc)∧(Xl W (w+1) x N cx)∧(Xl W w3 y a2 c2)) [(0,true),(1,true),(2,true),(4,true),(5,true),(6,true),(7,true),(8,true),(3,false),(9,false),(10,true)] PY (fun r=> ?_);have G:=zh PH.drew;clear PY PH;generalize W0.drew=W1 at*;repeat((first|refine oS ?_|refine oF r ?_);try simp only[Act.put,oa,ob,oc])
  refine oL fun K hK=> ?_;go_simp;go_at_call 59
  refine(Qi.out.rM q W1 Qx.out G.out.kw).mono ?_;rintro e4 w4 Qy;obtain⟨q2,a4,n4,c4,rfl,Qz,Qj,QA,QB,Qk⟩:=Qy.list;have Qb:Hid (Up q2 w w4):=⟨QA,G.out.up.trans (Qk.mono G.out.up.size)⟩
  have QC:=zh (Qx.out.trans Qj.le);have Z:=zh (aq.sub Qj.le _ Z.out);have Qc:=zh QB;obtain⟨z0,⟨y0,y1,y2,y3,y4,y5,y6⟩,x0,x1,x2,x3,x4,x5,x6⟩:=r;(try simp only[]);refine hK _ _ (by(repeat' apply And.intro)<;>exact TS.cell_kept Qk za) fun r=> ?_;clear hK K;try simp only[Act.put,oa,ob,oc]
  clear z0 y0 y1 y2 y3 y4 y5 y6 x0 x1 x2 x3 x4 x5 x6 Qy Qj QA QB Qk G;have Qd:=zh (Qi.out.all q2 w4 a4 n4 c4 a2 y.m.toNat c2 (y.es.take y.m.toNat) QC.out Qb.out.kw Qc.out Qz.out (Z.out.take _) (by rw[List.length_take];omega) QJ.out (by rw[List.length_take];omega));clear Qc Qz;repeat((first|refine oS ?_|refine oF r ?_);try simp only[Act.put,oa,ob,oc])
  refine oL fun K hK=> ?_;go_simp;go_at_call 58
  refine Qd.out.mono ?_;rintro e5 w5 ⟨b5,rfl,QD,Ql⟩;have PS:=zh (Qb.out.step Ql);obtain⟨z0,⟨y0,y1,y2,y3,y4,y5,y6⟩,x0,x1,x2,x3,x4,x5,x6⟩:=r;(try simp only[]);refine hK _ _ (by(repeat' apply And.intro)<;>exact TS.cell_kept Ql za) fun r=> ?_;clear hK K;try simp only[Act.put,oa,ob,oc]
  clear z0 y0 y1 y2 y3 y4 y5 y6 x0 x1 x2 x3 x4 x5 x6 Ql Qd;repeat((first|refine oS ?_|refine oF r ?_);try simp only[Act.put,oa,ob,oc])
  refine bZ ?_;cases b5 with
  |false=>
   have C:Hid (false=bQ X u):=by unfold Hid;rw[hF.out,←QD.out];rfl
   clear r;go_wp2_with fail
   go_ret;exact⟨_,rfl,C.out,PS.out.up⟩
  |true=>
   obtain⟨z0,⟨y0,y1,y2,y3,y4,y5,y6⟩,x0,x1,x2,x3,x4,x5,x6⟩:=r;have QL:=zh (Qi.out.sub QC.out);have eg:=zh (show ∀args w,(callFunc 60 args).run Tryz.prog w= .ok (.enter 60 args) w from dG func60 zk rfl);have QM:=zh fun W (hW:KW q2 W) n (hn:n=(y.es.drop y.m.toNat).length) a2 c2 (hL:aq q2 D (y.es.drop y.m.toNat) a2) lb H=>fZ n q2 D (y.es.drop y.m.toNat) hn a2 c2 60 lb (fun e=> !bQ X e) W hW hL (by rw[List.length_drop];omega) eg.out H;have QE:=zh PS.out.up;have Qm:y.m.toNat<c2∨c2=y.m.toNat:=zo;rcases Qm with Qm|rfl
   all_goals
    go_wp2_with fail
    have Qn:=Z.out.lR QI QK;first|rw[if_pos Qm]at Qn|rw[if_neg (Nat.lt_irrefl _)]at Qn
    refine(QM.out w5 PS.out.kw _ (by simp;try omega) _ _ Qn _ ?_).mono ?_
    ·intro i hi W a' c' PO Qf
     have he:=zm hi;refine(w_ _ D dc x N cx X ml P M _ 2 a' c' W (hE.out _ he).1 QL.out (hE.out _ he).2.1 2 (hE.out _ he).2.2 Qf (PS.out.kw.grown PO) _ _ (TS.cell_kept PO z0) ?_).2;repeat' apply And.intro
     all_goals exact TS.cell_kept PO za
    rintro e9 w9 ⟨b9,rfl,A,Qe⟩;have T:=zh (QE.out.trans (Qe.mono QE.out.size));have C:Hid ((!b9)=bQ X u):=by
     unfold Hid;rw[hF.out,←QD.out,A.out,Bool.true_and,←FJ]
    clear Qe A;go_wp2_with fail
    go_ret;exact⟨_,rfl,C.out,T.out⟩
end Go.Proofs.YtkochlhejabdcaaGreatDoor
namespace TS
open Go Go.RowKit Go.Proofs.YtkochlhejabdcaaGreatDoor Go.Proofs.Tryz
def iv:U:= .mk 7 0 0 false errorName ByteArray.empty [dA] []
theorem xj:an aP= [iv]:=by
 rw[kB rfl];exact List.mergeSort_singleton _
theorem Gf(len:Nat):gB len aP:=by
 have hw:bM aP= []:=by rw[oN rfl];rfl
 refine⟨rfl,fun x a=>(by rw[hw]at a;cases a),by rw[hw];simp,fun x a=>(by rw[hw]at a;cases a),fun e he=>(by cases he),fun m hm=> ?_,?_,?_,by decide⟩
 ·have:m=iv:=by simpa [aP,U.es,U.m,iv]using hm
  subst this;decide
 ·exact List.pairwise_singleton _ _
 ·show(dN aP).length≤_
  have:dN aP= [iv]:=rfl;rw[this];simp
theorem Gg{p:Pm}{g c:Ge}{f:Nat}(h:dq p g iv f):dq p c iv f:=by
 obtain⟨d,h1,j,l,m⟩:=h;refine⟨d,h1,j,l,?_⟩;obtain⟨b,n,rv,y,xs,e,o,q,r,s,t,u,v,w⟩:=m.lj rfl;cases e;refine .func rfl o q r s t u v fun i hi=> ?_;have a:=w i hi;have:iv.es[i]=dA:=by
  have:i=0:=by simp[iv,U.es]at hi;omega
  subst this;rfl
 rw[this]at a⊢;obtain⟨z,x,k⟩:=a.kl rfl;rw[x];exact .basic rfl k
theorem Gh{p:Pm}{g q:Ge}{b:Nat}(h:cS p g b aP):cS p q b aP:=by
 obtain⟨tb,r,s,f,ta,tc,e,cmp,h1,t,u,v,w,x,h7,y,z,j,⟨A,k,a⟩,l,c,m⟩:=h;have n:e= [none]:=(c.gen (by rw[mU rfl];rfl)).1;refine⟨tb,r,s,f,ta,tc,e,cmp,h1,t,u,v,w,x,fun i hi=> ?_,y,z,j,⟨A,k,fun i hi=> ?_⟩,l,c,m⟩
 ·have hm:=h7 i hi
  have:(an aP)[i]=iv:=by
   have d:=hi;simp only[xj]at d;have:i=0:=by simp at d;omega
   subst this;simp[xj]
  rw[this]at hm⊢;exact Gg hm
 ·have o:=a i hi
  have:e[i]=none:=by
   subst n;have:i=0:=by simpa using hi
   subst this;rfl
  rw[this]at o⊢;exact o
theorem WB.box{p:Pm}{w:World}(h:WB p w)(cs:Array Value)(T:TypeId):WB (p.add w.heap.size cs) (w.alloc (.cells cs T)):=
 (h.below (zB.alloc zl _)).add (T:=T) (fun o=>h.kw.aF zl o) (cA rfl)
theorem Gi(w:World)(a b:Array Value)(c d:TypeId)(v:Value):Below w w (((w.alloc (.cells a c)).setCell (Xa w 3) v).alloc (.cells b d))∧(((w.alloc (.cells a c)).setCell (Xa w 3) v).alloc (.cells b d)).heap.size=w.heap.size+2∧
 (((w.alloc (.cells a c)).setCell (Xa w 3) v).alloc (.cells b d)).heap[w.heap.size]?=some (.cells (a.setIfInBounds 3 v) c (0,0))∧(((w.alloc (.cells a c)).setCell (Xa w 3) v).alloc (.cells b d)).heap[w.heap.size+1]?=some (.cells b d (0,0)):=by
 have hT:(w.alloc (.cells a c)).heap[w.heap.size]?=some (.cells a c (0,0)):=cA rfl;have e:=heap_set (o:=3) (v:=v) hT;exact⟨((zB.alloc zl _).setCell zl _).alloc zs _,by simp,by rw[dC zs];exact e,cA zs⟩
theorem Below.own{B:Nat}{a w c:World}{X:Nat→Prop}(h:Below B a w)(k:Kept X w c)(f:B≤w.heap.size)(d:∀b,X b→B≤b):Below B a c:=
 h.trans ⟨k.os,k.tape,k.output,k.size,fun j g=>k.block j zo fun e=>by have:=d j e;omega⟩
theorem WB.named{q:Pm}{W:World}{b o:Nat}{nil:Bool}{x:Value}(h:WB q W)(m:W.heap[b]?=some (.cells (dt (Xa o 0) nil 0 0 .nilIface .nilIface (.slice none 0 0)) 130 (0,0)))(a:∀i,i≠1→q b i=none)(d:b≠5):
 WB q (((((((W.setCell (Xa b 3) (.int .i32 1)).setCell (Xa b 6) x).setCell (Xa b 2) (.bool false)).setCell (Xa b 5) (.int .u32 7)).setCell (Xa b 7) x).setCell (Xa b 5) (.int .u32 15)).setCell (Xa b 3) (.int .i32 0))∧
 WB (((q.put b 5 (.int .u32 15)).put b 6 x).put b 7 x) (((((((W.setCell (Xa b 3) (.int .i32 1)).setCell (Xa b 6) x).setCell (Xa b 2) (.bool false)).setCell (Xa b 5) (.int .u32 7)).setCell (Xa b 7) x).setCell (Xa b 5) (.int .u32 15)).setCell (Xa b 3) (.int .i32 0))∧
 (((((((W.setCell (Xa b 3) (.int .i32 1)).setCell (Xa b 6) x).setCell (Xa b 2) (.bool false)).setCell (Xa b 5) (.int .u32 7)).setCell (Xa b 7) x).setCell (Xa b 5) (.int .u32 15)).setCell (Xa b 3) (.int .i32 0)).heap[b]?=some (.cells (dt (Xa o 0) false 0 15 x x (.slice none 0 0)) 130 (0,0))∧
 Kept (fun c=>c=b) W (((((((W.setCell (Xa b 3) (.int .i32 1)).setCell (Xa b 6) x).setCell (Xa b 2) (.bool false)).setCell (Xa b 5) (.int .u32 7)).setCell (Xa b 7) x).setCell (Xa b 5) (.int .u32 15)).setCell (Xa b 3) (.int .i32 0)):=by
 have n:Kept (fun c=>c=b) W (((((((W.setCell (Xa b 3) (.int .i32 1)).setCell (Xa b 6) x).setCell (Xa b 2) (.bool false)).setCell (Xa b 5) (.int .u32 7)).setCell (Xa b 7) x).setCell (Xa b 5) (.int .u32 15)).setCell (Xa b 3) (.int .i32 0)):=by
  refine Kept.setCell (Kept.setCell (Kept.setCell (Kept.setCell (Kept.setCell (Kept.setCell (Kept.setCell (Kept.refl _ _) ?_ _) ?_ _) ?_ _) ?_ _) ?_ _) ?_ _) ?_ _<;>exact fun _=>rfl
 have l:=((((((h.setCell (.int .i32 1) (a 3 zd) d).setCell x (a 6 zd) d).setCell (.bool false) (a 2 zd) d).setCell (.int .u32 7) (a 5 zd) d).setCell x (a 7 zd) d).setCell (.int .u32 15) (a 5 zd) d).setCell (.int .i32 0) (a 3 zd) d;have hH:=heap_set (o:=3) (v:= .int .i32 0) (heap_set (o:=5) (v:= .int .u32 15) (heap_set (o:=7) (v:=x) (heap_set (o:=5) (v:= .int .u32 7) (heap_set (o:=2) (v:= .bool false) (heap_set (o:=6) (v:=x) (heap_set (o:=3) (v:= .int .i32 1) m))))));generalize (((((((W.setCell (Xa b 3) (.int .i32 1)).setCell (Xa b 6) x).setCell (Xa b 2) (.bool false)).setCell (Xa b 5) (.int .u32 7)).setCell (Xa b 7) x).setCell (Xa b 5) (.int .u32 15)).setCell (Xa b 3) (.int .i32 0))=j at*;have f:j.heap[b]?=some (.cells (dt (Xa o 0) false 0 15 x x (.slice none 0 0)) 130 (0,0)):=by simpa using hH
 have k:∀i v,(dt (Xa o 0) false 0 15 x x (.slice none 0 0))[i]?=some v→Xc j b i v:=fun i v e=>by simp only[World.cell?,f];exact e
 have g:Plain j b:=⟨_,_,f⟩
 exact⟨l,((l.put (k 5 _ rfl) g).put (k 6 _ rfl) g).put (k 7 _ rfl) g,f,n⟩
def xm(w:World)(e:Ending)(a:World):Prop:=∃(q:Pm)(eb eo ib:Nat),e= .returned (Xp eb)∧WB q a∧Below w w a∧(∀b o v,q b o=some v→w.heap.size≤b)∧q eb 1=some (ptr eo)∧eL q eb (ah 37 ib)∧(∃o v,q eo o=some v)∧q ib 0=some (.pointer none)∧q ib 5=some (.bool true)∧eb<a.heap.size∧eo<a.heap.size∧∀g,cS q g ib aP
end TS
namespace Go.Proofs.YtkochlhejabdcaaGreatDoor
open Go.RowKit TS Tryz
def g0(eo co:Nat):Ge:=⟨fun _=>0,fun _=>0,0,0,eo,1,co,0,fun _=>none⟩
theorem Gj{q:Pm}{w:World}{eo co:Nat}(h:WB q w)(a:eo≠co)(h1:∃o v,q eo o=some v)(c:∃o v,q co o=some v):aA q (g0 eo co) w:=
 ⟨h.kw,h.pl,⟨fun i j hi=>absurd hi (Nat.not_lt_zero _),fun i j hi=>absurd hi (Nat.not_lt_zero _),fun i hi=>absurd hi (Nat.not_lt_zero _),fun i hi=>absurd hi (Nat.not_lt_zero _),(show(0:Nat)≠1 by decide),fun i hi=>absurd hi (Nat.not_lt_zero _),fun i hi=>absurd hi (Nat.not_lt_zero _),a⟩,h.cap,fun b u e=>(by cases e),fun i hi=>absurd hi (Nat.not_lt_zero _),h1,c⟩
abbrev jN(W:World)(b r recv:Nat):World:=(((((((W.alloc (.cells #[.int .i64 0,.pointer none,.string ByteArray.empty,ah 105 b,.int .u8 5,.bool false] 192)).alloc (.cells #[Xp r] 102)).alloc (.cells #[.slice (Xa (r+1) 0) 1 1] 200)).alloc (.cells #[Xp recv,.pointer none,.pointer none,Xp (r+2),.bool false] 112)).alloc (.cells #[.int .i64 0,.pointer none,.string errorName,ah 108 (r+3),.bool false,.bool false] 212)).alloc (.cells #[Xp (r+4)] 113)).alloc (.cells (dI (.slice (Xa (r+5) 0) 1 1) (.slice none 0 0) true (.pointer none)) 119))
theorem Gk{q:Pm}{W:World}{b r recv:Nat}(h:WB q W)(hr:r=W.heap.size)(X:q b 0=some (.int .i64 17))(C:b<r)(hG:5<r):
 ∃k,aN q k r∧WB k (jN W b r recv)∧Xc (jN W b r recv) (r+6) 6 (.pointer none)∧(jN W b r recv).frozen? (Xa (r+6) 6)=false∧
  (∀g,gj k g (r+6) aP)∧k (r+6) 6=none∧k r 0=some (.int .i64 0)∧k (r+1) 0=some (ptr r):=by
 unfold jN;have h1:=h.box #[.int .i64 0,.pointer none,.string ByteArray.empty,ah 105 b,.int .u8 5,.bool false] 192;have P:=h1.box #[Xp r] 102;have R:=P.box #[.slice (Xa (r+1) 0) 1 1] 200;have S:=R.box #[Xp recv,.pointer none,.pointer none,Xp (r+2),.bool false] 112;have T:=S.box #[.int .i64 0,.pointer none,.string errorName,ah 108 (r+3),.bool false,.bool false] 212;have U:=T.box #[Xp (r+4)] 113;simp only[World.size_alloc,←hr]at h1 P R S T U;have Y:∀c o,r≤c→q c o=none:=fun c o u=>h.kw.aF zo o;generalize t:((((((q.add r #[.int .i64 0,.pointer none,.string ByteArray.empty,ah 105 b,.int .u8 5,.bool false]).add (r+1) #[Xp r]).add (r+2) #[.slice (Xa (r+1) 0) 1 1]).add (r+3) #[Xp recv,.pointer none,.pointer none,Xp (r+2),.bool false]).add (r+4) #[.int .i64 0,.pointer none,.string errorName,ah 108 (r+3),.bool false,.bool false]).add (r+5) #[Xp (r+4)])=Q at*;have z:∀c o,c<r→Q c o=q c o:=fun c o u=>by rw[←t];simp only[Pm.add];repeat rw[if_neg zo]
 have A:∀o,Q r o=(#[.int .i64 0,.pointer none,.string ByteArray.empty,ah 105 b,.int .u8 5,.bool false]:Array Value)[o]?:=fun o=>by rw[←t];rw[Pm.aQ _ _ _ zo,Pm.aQ _ _ _ zo,Pm.aQ _ _ _ zo,Pm.aQ _ _ _ zo,Pm.aQ _ _ _ zo,Pm.aU]
 have B:∀o,Q (r+1) o=(#[Xp r]:Array Value)[o]?:=fun o=>by rw[←t];rw[Pm.aQ _ _ _ zo,Pm.aQ _ _ _ zo,Pm.aQ _ _ _ zo,Pm.aQ _ _ _ zo,Pm.aU]
 have D:∀o,Q (r+2) o=(#[.slice (Xa (r+1) 0) 1 1]:Array Value)[o]?:=fun o=>by rw[←t];rw[Pm.aQ _ _ _ zo,Pm.aQ _ _ _ zo,Pm.aQ _ _ _ zo,Pm.aU]
 have w:∀o,Q (r+3) o=(#[Xp recv,.pointer none,.pointer none,Xp (r+2),.bool false]:Array Value)[o]?:=fun o=>by rw[←t];rw[Pm.aQ _ _ _ zo,Pm.aQ _ _ _ zo,Pm.aU]
 have s:∀o,Q (r+4) o=(#[.int .i64 0,.pointer none,.string errorName,ah 108 (r+3),.bool false,.bool false]:Array Value)[o]?:=fun o=>by rw[←t];rw[Pm.aQ _ _ _ zo,Pm.aU]
 have E:∀o,Q (r+5) o=(#[Xp (r+4)]:Array Value)[o]?:=fun o=>by rw[←t];rw[Pm.aU]
 have F:∀c o,r+6≤c→Q c o=none:=fun c o u=>by rw[←t];simp only[Pm.add];repeat rw[if_neg zo]
                                             exact Y c o zo
 have Z:Sub q Q:=fun c o v e=>by rw[z c o (by rw[hr];exact h.kw.lt e)];exact e
 generalize G:((((((W.alloc (.cells #[.int .i64 0,.pointer none,.string ByteArray.empty,ah 105 b,.int .u8 5,.bool false] 192)).alloc (.cells #[Xp r] 102)).alloc (.cells #[.slice (Xa (r+1) 0) 1 1] 200)).alloc (.cells #[Xp recv,.pointer none,.pointer none,Xp (r+2),.bool false] 112)).alloc (.cells #[.int .i64 0,.pointer none,.string errorName,ah 108 (r+3),.bool false,.bool false] 212)).alloc (.cells #[Xp (r+4)] 113))=H at*;have I:H.heap.size=r+6:=by rw[←G];simp[←hr]
 have m:(H.alloc (.cells (dI (.slice (Xa (r+5) 0) 1 1) (.slice none 0 0) true (.pointer none)) 119)).heap[r+6]?=some (.cells (dI (.slice (Xa (r+5) 0) 1 1) (.slice none 0 0) true (.pointer none)) 119 (0,0)):=cA I.symm;have h7:=U.below (zB.alloc zl (.cells (dI (.slice (Xa (r+5) 0) 1 1) (.slice none 0 0) true (.pointer none)) 119));generalize (H.alloc (.cells (dI (.slice (Xa (r+5) 0) 1 1) (.slice none 0 0) true (.pointer none)) 119))=V at*;have l:∀o x,(dI (.slice (Xa (r+5) 0) 1 1) (.slice none 0 0) true (.pointer none))[o]?=some x→Xc V (r+6) o x:=fun o x e=>by simp only[World.cell?,m];exact e
 have n:Plain V (r+6):=⟨_,_,m⟩
 have hE:=((((h7.put (l 0 (.pointer none) rfl) n).put (l 1 (.slice (Xa (r+5) 0) 1 1) rfl) n).put (l 2 (.slice none 0 0) rfl) n).put (l 3 (.pointer none) rfl) n).put (l 5 (.bool true) rfl) n;have a:∀c o,c≠r+6→(((((Q.put (r+6) 0 (.pointer none)).put (r+6) 1 (.slice (Xa (r+5) 0) 1 1)).put (r+6) 2 (.slice none 0 0)).put (r+6) 3 (.pointer none)).put (r+6) 5 (.bool true)) c o=Q c o:=fun c o u=>by
  repeat rw[Pm.ba _ _ zo]
 have J:(((((Q.put (r+6) 0 (.pointer none)).put (r+6) 1 (.slice (Xa (r+5) 0) 1 1)).put (r+6) 2 (.slice none 0 0)).put (r+6) 3 (.pointer none)).put (r+6) 5 (.bool true)) (r+6) 0=some (.pointer none):=by simp[Pm.put]
 have K:(((((Q.put (r+6) 0 (.pointer none)).put (r+6) 1 (.slice (Xa (r+5) 0) 1 1)).put (r+6) 2 (.slice none 0 0)).put (r+6) 3 (.pointer none)).put (r+6) 5 (.bool true)) (r+6) 1=some (.slice (Xa (r+5) 0) 1 1):=by simp[Pm.put]
 have L:(((((Q.put (r+6) 0 (.pointer none)).put (r+6) 1 (.slice (Xa (r+5) 0) 1 1)).put (r+6) 2 (.slice none 0 0)).put (r+6) 3 (.pointer none)).put (r+6) 5 (.bool true)) (r+6) 2=some (.slice none 0 0):=by simp[Pm.put]
 have M:(((((Q.put (r+6) 0 (.pointer none)).put (r+6) 1 (.slice (Xa (r+5) 0) 1 1)).put (r+6) 2 (.slice none 0 0)).put (r+6) 3 (.pointer none)).put (r+6) 5 (.bool true)) (r+6) 3=some (.pointer none):=by simp[Pm.put]
 have N:(((((Q.put (r+6) 0 (.pointer none)).put (r+6) 1 (.slice (Xa (r+5) 0) 1 1)).put (r+6) 2 (.slice none 0 0)).put (r+6) 3 (.pointer none)).put (r+6) 5 (.bool true)) (r+6) 5=some (.bool true):=by simp[Pm.put]
 have O:(((((Q.put (r+6) 0 (.pointer none)).put (r+6) 1 (.slice (Xa (r+5) 0) 1 1)).put (r+6) 2 (.slice none 0 0)).put (r+6) 3 (.pointer none)).put (r+6) 5 (.bool true)) (r+6) 6=none:=by
  simp[Pm.put];exact F _ _ zl
 generalize (((((Q.put (r+6) 0 (.pointer none)).put (r+6) 1 (.slice (Xa (r+5) 0) 1 1)).put (r+6) 2 (.slice none 0 0)).put (r+6) 3 (.pointer none)).put (r+6) 5 (.bool true))=k at*;have p:∀c o,c<r→k c o=q c o:=fun c o u=>by rw[a c o zo,z c o u]
 have y:∀g,TS.Node k g iv (ah 108 (r+3)):=fun g=>by
  refine .func (f:=fun _=>r) (xs:=fun _=>ah 105 b) rfl zd (pv:= .pointer none) (rv:=ptr (r+2)) ?_ ?_ ?_ (.inl ⟨rfl,rfl⟩) (.inr ⟨by decide,r+2,.some (Xa (r+1) 0),1,rfl,?_,by decide,fun i hi=> ?_⟩) (fun i hi=> ?_) fun i hi=> ?_
  ·rw[a _ _ zo,w];rfl
  ·rw[a _ _ zo,w];rfl
  ·rw[a _ _ zo,w];rfl
  ·rw[a _ _ zo,D];rfl
  ·have d:i=0:=by have:i<1:=hi;omega
   subst d;exact⟨r+1,0,rfl,by rw[a _ _ zo,B];rfl⟩
  ·show k r 3=_
   rw[a _ _ zo,A];rfl
  ·have d:i=0:=by have:i<1:=hi;omega
   subst d;exact .basic rfl (by rw[p _ _ C];exact X)
 refine⟨k,⟨fun c o v e=>by rw[p c o (by rw[hr];exact h.kw.lt e)];exact e,fun c o v e=> ?_⟩,hE,l 6 _ rfl,by simp[World.frozen?,m],fun g=>⟨J,⟨by decide,.some (Xa (r+5) 0),1,fun _=>r+4,K,by decide,by decide,fun i hi=> ?_,fun i hi PG=> ?_⟩,⟨none,0,fun _=>undef,L,by decide,by decide,fun i hi=> ?_,fun i hi=> ?_,fun i j PH hj=> ?_⟩,M,N⟩,O,by rw[a _ _ zo,A];rfl,by rw[a _ _ zo,B];rfl⟩
 ·by_cases u:c<r
  ·rw[p c o u]at e;exact .inl e
  ·exact .inr zo
 ·have d:i=0:=by have:i<1:=hi;omega
  subst d;exact⟨r+5,0,rfl,by rw[a _ _ zo,E];rfl⟩
 ·have d:i=0:=by have:i<1:=hi;omega
  subst d;show dq k g iv (r+4)∧k (r+4) 0=some (.int .i64 0);refine⟨⟨r+3,⟨none,?_⟩,?_,?_,y g⟩,?_⟩
  ·rw[a _ _ zo,s];rfl
  ·rw[a _ _ zo,s];rfl
  ·rw[a _ _ zo,s];rfl
  ·rw[a _ _ zo,s];rfl
 ·exact absurd hi (by show ¬i<0;omega)
 ·exact absurd hi (by show ¬1+i<1;omega)
 ·exact absurd hj (by show ¬1+j<1;omega)
theorem Gl(w:World)(y:bU w)(hG:5<w.heap.size):Xk 44 #[] w (xm w):=by
 have PS:=zh y;clear y;obtain⟨n,hn⟩:∃n,Hid (n=w.heap.size):=⟨_,rfl⟩
 go_enter func44,ntmps44;go_wp2_with fail
 refine(qC _ _ _ _).mono ?_;rintro e1 w1 ⟨rfl,rfl⟩;go_wp2_with fail
 refine(uz w.heap.size _ zs (kj w _ rfl) (mw w _ rfl)).mono ?_;rintro e2 q ⟨rfl,T⟩;have hf:Below w w q∧q.heap.size=w.heap.size+2∧q.heap[w.heap.size]?=some (.cells #[.int .i64 0,.pointer none,.string ⟨#[101,114,114,111,114]⟩,Xi 60 (w+1)] 134 (0,0))∧q.heap[w.heap.size+1]?=some (.cells (dt (Xa w 0) false 0 0 .nilIface .nilIface (.slice none 0 0)) 130 (0,0)):=by
  rw[T];have:=Gi w #[.int .i64 0,.pointer none,.string ⟨#[101,114,114,111,114]⟩,.nilIface] (dt (Xa w 0) false 0 0 .nilIface .nilIface (.slice none 0 0)) 134 130 (Xi 60 (w+1));simpa using this
 obtain⟨s,PT,K,j⟩:=hf;have PX:q.heap.size≤w.heap.size+2∧w.heap.size+2≤q.heap.size:=zo;have E:WB (fun _ _=>none) w:=⟨fun _ _ _ e=>(by cases e),fun _ _ _ e=>(by cases e),PS.out⟩
 have U:=zh (((E.below s).put (b:=w.heap.size) (o:=0) (v:= .int .i64 0) (by simp[World.cell?,K]) ⟨_,_,K⟩).put (b:=w.heap.size+1) (o:=1) (v:=ptr w.heap.size) (by simp[World.cell?,j,dt]) ⟨_,_,j⟩);have L:=zh s;have M:=zh j;clear T s PT K j E;go_wp2_with fail
 refine(lh _ _ _ _ _ _ _).mono ?_;rintro e3 w3 ⟨rfl,rfl⟩;go_wp2_with fail
 refine(uC 17 zd _).mono ?_;rintro e4 d ⟨b,rfl,aa,N,V,h,W⟩;have z:Below q q (q.alloc (.cells #[.int .i64 0,.pointer none,.string ByteArray.empty,Xi 60 (w+1),.int .u8 3,.bool false] 192)):=zB.alloc zl _;have PU:=h.size;simp only[World.size_alloc]at aa PU;obtain⟨F,A⟩:∃F,Hid (F=((Pm.put (fun x PZ=>none) w.heap.size 0 (.int .i64 0)).put (w.heap.size+1) 1 (ptr w.heap.size)).put b 0 (.int .i64 17)):=⟨_,rfl⟩
 have X:Hid (WB F d):=by rw[A.out];exact((U.out.below z).below h).put V W
 have Y:Hid (F b 0=some (.int .i64 17)):=by rw[A.out];exact Pm.fT ..
 have l:Hid (F (w.heap.size+1) 1=some (ptr w.heap.size)∧F w.heap.size 0=some (.int .i64 0)∧(∀o,o≠1→F (w.heap.size+1) o=none)∧∀c o v,F c o=some v→w.heap.size≤c):=by
  rw[A.out];refine⟨by rw[Pm.ba _ _ zo,Pm.fT],by rw[Pm.ba _ _ zo,Pm.ba _ _ zo,Pm.fT],fun o ho=>by rw[Pm.ba _ _ zo,Pm.ba _ _ zo,Pm.ba _ _ zo],fun c o v e=> ?_⟩;by_cases h1:c=b∧o=0
  ·omega
  ·rw[Pm.ba _ _ h1]at e
   by_cases h2:c=w.heap.size+1∧o=1
   ·omega
   ·rw[Pm.ba _ _ h2]at e
    by_cases h3:c=w.heap.size∧o=0
    ·omega
    ·rw[Pm.ba _ _ h3]at e;cases e
 have Z:Hid (Below w w d):=((L.out.trans (z.mono zo)).trans (h.mono zp))
 have PW:Hid (d.heap[w.heap.size+1]?=some (.cells (dt (Xa w 0) false 0 0 .nilIface .nilIface (.slice none 0 0)) 130 (0,0))):=((h.block _ zp).trans (z.block _ zo)).trans M.out;obtain⟨r,hr⟩:∃r,Hid (r=d.heap.size):=⟨_,rfl⟩
 have P0:w.heap.size+3≤d.heap.size:=zo;obtain⟨q',PG,G,PH,PI,PJ,PK,PL,H⟩:=Gk (recv:=q.heap.size) X.out rfl Y.out N zo;have O:=zh G;have t:=zh PJ;have u:=zh PG;have P:=zh (And.intro PK (And.intro PL H));have PY:=zh N;clear V W h z G PJ PG PK PL H A N;go_wp2_with fail
 refine(lh _ _ _ _ _ _ _).mono ?_;rintro e5 w5 ⟨rfl,rfl⟩;go_wp2_with fail
 refine(uq _ 1 1 zd _).mono ?_;rintro e6 w6 ⟨rfl,rfl⟩;go_wp2_with fail
 refine(nW _ _ _ _ _).mono ?_;rintro e7 w7 ⟨rfl,rfl⟩;go_wp2_with fail
 have hF:=xi 0 q' (g0 d.heap.size (d.heap.size+1)) (d.heap.size+6) aP none 0 _ (Gj O.out zo ⟨_,_,P.out.2.1⟩ ⟨_,_,P.out.2.2⟩) (t.out _) (Gf 0) PH PI P.out.1 zo;refine hF.mono ?_;clear hF PH PI;rintro e8 w8 ⟨q8,tb,rfl,B,Q,PM,PN,C⟩;have PO:=C.size;simp only[World.size_alloc]at PO;have I:w.heap.size+1<(jN d b d.heap.size q.heap.size).heap.size:=by simp[jN];omega
 have D:Below d d (jN d b d.heap.size q.heap.size):=by
  unfold jN;exact((((((zB.alloc zl _).alloc zs _).alloc zp _).alloc zp _).alloc zp _).alloc zp _).alloc zp _
 have f:w8.heap[w.heap.size+1]?=some (.cells (dt (Xa w 0) false 0 0 .nilIface .nilIface (.slice none 0 0)) 130 (0,0)):=(C.block _ I zo).trans ((D.block _ zo).trans PW.out);have i:∀o,o≠1→q8 (w.heap.size+1) o=none:=fun o ho=>by
  cases hv:q8 (w.heap.size+1) o with
  |none=>rfl
  |some x=>
   rcases Q _ _ _ hv with e|e|e
   ·rcases u.out.new _ _ _ e with e|e
    ·rw[l.out.2.2.1 o ho]at e;cases e
    ·omega
   ·omega
   ·omega
 obtain⟨_,J,R,S⟩:=WB.named (x:=Xi 37 (d+6)) PM.wb f i zo;have PQ:Hid (xm w (.returned (Xp (w+1))) (((((((w8.setCell (Xa (w+1) 3) (.int .i32 1)).setCell (Xa (w+1) 6) (Xi 37 (d+6))).setCell (Xa (w+1) 2) (.bool false)).setCell (Xa (w+1) 5) (.int .u32 7)).setCell (Xa (w+1) 7) (Xi 37 (d+6))).setCell (Xa (w+1) 5) (.int .u32 15)).setCell (Xa (w+1) 3) (.int .i32 0))):=by
  have a:=((Pm.fU (p:=q8) (b:=w.heap.size+1) (o:=5) (.int .u32 15) (i 5 zd)).trans (Pm.fU (b:=w.heap.size+1) (o:=6) (ah 37 (d.heap.size+6)) (by rw[Pm.ba _ _ zo];exact i 6 zd))).trans (Pm.fU (b:=w.heap.size+1) (o:=7) (ah 37 (d.heap.size+6)) (by rw[Pm.ba _ _ zo,Pm.ba _ _ zo];exact i 7 zd));have P1:=S.size;have PR:=(u.out.le).trans B;refine⟨_,w.heap.size+1,w.heap.size,d.heap.size+6,rfl,J,Below.own (Below.own (Z.out.trans (D.mono zo)) C zo fun b e=>by omega) S zo fun b e=>by omega,fun c o v e=> ?_,a _ _ _ (PR _ _ _ l.out.1),⟨by simp[Pm.put],by simp[Pm.put],by simp[Pm.put]⟩,⟨0,_,a _ _ _ (PR _ _ _ l.out.2.1)⟩,a _ _ _ (B _ _ _ (t.out (g0 0 0)).ck),a _ _ _ (B _ _ _ (t.out (g0 0 0)).cm),by omega,by omega,fun g=>Gh (PN.sub a (aK.refl _))⟩;by_cases h1:c=w.heap.size+1
  ·omega
  ·rw[Pm.ba _ _ fun k=>h1 k.1,Pm.ba _ _ fun k=>h1 k.1,Pm.ba _ _ fun k=>h1 k.1]at e
   rcases Q _ _ _ e with e|e|e
   ·rcases u.out.new _ _ _ e with e|e
    ·exact l.out.2.2.2 _ _ _ e
    ·omega
   ·have:=D.size;omega
   ·omega
 have y:∀o v,(dt (Xa w 0) false 0 0 .nilIface .nilIface (.slice none 0 0))[o]?=some v→Xc w8 (w+1) o v:=fun o v e=>by simp only[World.cell?,f];exact e
 have m:∀o,w8.frozen? (Xa (w+1) o)=false:=fun o=>by simp[World.frozen?,f]
 have hU:=zh (qF (w.heap.size+1) 37 (Xa (d+6) 0) zd zd w8 ⟨_,y 2 _ rfl⟩ (y 3 _ rfl) (y 5 _ rfl) ⟨_,y 6 _ rfl⟩ ⟨_,y 7 _ rfl⟩ (m 2) (m 3) (m 5) (m 6) (m 7));clear J R S y m PM PN C Q B D I f i;go_wp2_with fail
 refine hU.out.mono ?_;rintro e9 w9 ⟨rfl,rfl⟩;go_wp2_with fail
 go_ret;exact PQ.out
end Go.Proofs.YtkochlhejabdcaaGreatDoor
