import Derived.Test.YtkochlhejabdcaaGreatDoorYby
import Derived.Test.YtkochlhejabdcaaGreatDoorYbz
set_option maxRecDepth 100000
set_option maxHeartbeats 8000000
set_option linter.all false
namespace TS
open Go Go.RowKit Go.Proofs.YtkochlhejabdcaaGreatDoor Go.Proofs.Tryz
theorem xN:a7 eZ= []:=by rw[qz zd zd (by rw[kD];rfl),kD];rfl
theorem Hn{P:U→Prop}{M:List U→Prop}(hM:M []):eP P M eZ:=by
 rw[eP,kD];exact⟨fun h=>absurd h zd,fun h=>absurd h zd,fun _ _ h=>(by unfold isIface at h;rw[kD]at h;cases h),fun _ _ _=>⟨hM,fun e he=>(by cases he)⟩⟩
theorem xO(len f:Nat):Pl len eZ 0 f:=by
 rw[Pl];exact⟨.pre (.inl rfl) rfl,fun i hi=>by simp[eZ,U.es]at hi,fun h=>absurd h zd⟩
theorem Ho{v:U}{b:List Tm}{cmp:Bool}(h:gO (fu v) b cmp)(a:(under v).k=10)(he:(under v).es= []):(!cmp&&dh b&&(an (fu v)).length==0)=true:=by
 have c:fu v=under v:=by unfold fu;rw[if_neg zo]
 have hu:under (under v)=under v:=cp zo zo zo zo;have hk:(under (under v)).k=10:=by rw[hu];exact a
 have h1:=h.eq;rw[c,lf hk,hu,he,List.drop_nil]at h1;cases h1;rw[c,gJ hk,hu];unfold dN;rw[he];simp[dh,b7]
section
variable {D:Dl} {T:List U} {NS:List (List UInt8)} {i:Nat}
theorem xP{u v:U}(a:(under u).k=10)(h:under u=under v):cz u=cz v:=by rw[jZ a,jZ (by rw[←h];exact a),h]
theorem Hp(E:Env D T NS i):∀(u:U){pos f:Nat}{g:Bool},Mo D.len T NS i u pos f→f≠0→u.k≠12→u.k≠13→mt T .type u g=true→(under u).k=10→cz u≤50:=by
 intro u;induction u using U.bc with
 |_ u ih=>
  intro pos f g h j y z hm a;by_cases l:u.k=2
  ·obtain⟨x,m⟩:=cL (h.pl.form.fL l)
   have A:0<u.es.length:=by rw[m];simp
   have B:u.es[0]=x:=by simp[m]
   have s:=h.part 0 A;rw[B,iP h.f2 (.inl l),show aS u 0=0 by unfold aS;rw[if_neg zo,if_neg zo]]at s;rw[kS l,m]at hm;have t:mt T .type x g=true:=by simpa using hm
   have o:=l8 l m;rw[xP a o];rw[o]at a;exact ih x (U.ar (by rw[m];simp)) s j s.pl.form.aD.1 s.pl.form.aD.2 t a
  ·by_cases p:u.k=10
   ·rw[iT p]at hm
    simp only[Bool.and_eq_true,decide_eq_true_eq]at hm;exact hm.2.2
   ·by_cases c:u.k=11
    ·have w:=h.bA.named c
     rw[if_neg j]at w;obtain⟨h1,v,C⟩:=w;have q:=nJ c C;have d:=E.mt _ h1 v;have b:T[u.n.toNat].k=10:=by rw[←q];exact a
     rw[iT b]at d;simp only[Bool.and_eq_true,decide_eq_true_eq]at d;rw[xP a (q.trans (gA b).symm)];exact d.2.2
    ·rw[jZ a]
     by_cases e:u.k=15
     ·rw[qi e (h.bA.err e)];decide
     ·by_cases r:u.k=14
      ·have:under u=bL:=by
        have F:bare u=bL:=gI r;unfold under;rw[F];rfl
       rw[this];decide
      ·rw[cp l c r e]at a;omega
theorem Hq(E:Env D T NS i){v:U}{f:Nat}{g:Bool}(a:Mo D.len T NS i v 0 f)(d:f≠0)(hm:mt T .type v g=true)(hi:isIface v=true):(a7 v).length≤50:=by
 have c:=a.pl.form.aD;rw[lg c.1,List.length_map];unfold dO;rw[if_neg c.2,hi,if_pos rfl];by_cases b:(under v).k=10
 ·have h:=Hp E v a d c.1 c.2 hm b
  have:=tT v h;omega
 ·rw[kd b];simp
theorem Hr(E:Env D T NS i){v:U}{f:Nat}{g:Bool}(a:Mo D.len T NS i v 0 f)(j:f≠0)(hm:mt T .type v g=true)(hi:isIface v=true){n:List Tm}{cmp:Bool}(h:gO (fu v) n cmp)(o:(!cmp&&dh n&&(an (fu v)).length==0)=true)(L:List U)(d:U→Xo)(q:∀x,(d x).h []=true):
 (!(L.any fun x=>bQ (d x) eZ&& !bQ (d x) v))=true:=by
 simp only[Bool.and_eq_true,Bool.not_eq_true',beq_iff_eq]at o;obtain⟨⟨p,ha⟩,hr⟩:=o;have r:=wH.1 ha;have heq:=h.eq;have l:(under v).k=10:=by
  unfold isIface at hi;simp only[Bool.or_eq_true,beq_iff_eq]at hi;refine hi.resolve_right fun m=> ?_;have e:fu v=dB:=by unfold fu;rw[if_pos m]
  have b:under dB=dB:=cp zd zd zd zd;rw[e,ke (by rw[b];decide),b]at heq;cases heq;cases p
 have e:fu v=under v:=by unfold fu;rw[if_neg zo]
 rw[e,qy l]at heq;rw[e]at hr;have hu:under (under v)=under v:=cp zo zo zo zo;rw[lZ hu]at hr;have c:=a.pl.form.aD;rw[Bool.not_eq_true',List.any_eq_false];intro x _;rw[Fx E (d x) (q x) v a j c.1 c.2 hm (by rw[heq];exact r) (by rw[heq];exact p) (List.length_eq_zero_iff.1 hr) hi];simp
end
end TS
namespace Go.Proofs.YtkochlhejabdcaaGreatDoor
open Go.RowKit TS Proofs.Tryz
theorem Hs{D:Dl}{dc:Nat}{v t:U}{f:Nat}(k:Pl D.len v 0 f)(o:f≤2)(d:f≠0)(hi:isIface v=true){a a':Option Addr}{c c':Nat}{p:Pm}{w:World}(hw:KW p w)(hu:ai p D v a c){R:Bool→Prop}
 (j:∀W,KW p W→Xk 23 #[Xd D dc,Xt v a c,Xt t a' c'] W fun e l=> ∃b,e= .returned (.bool b)∧Hid (R b)∧Below W W l):
 Xk 10 #[Xd D dc,Xt v a c,Xt t a' c'] w fun e l=> ∃b,e= .returned (.bool b)∧Hid (R b)∧Below w w l:=by
 have ae:=zh (((Up.refl hw).alloc (Xt v a c)).alloc (Xt t a' c'));have m:=k.form.aD;have q:=zh (aT (fM p D dc v 0 f a c _ k o d m.1 m.2 hu ae.out.kw) hi);have j:=zh j;clear hw hu k o d hi m;go_enter func10,ntmps10;go_wp2_with fail
 refine q.out.mono ?_;rintro F s ⟨rfl,aa⟩;have g:=zh (ae.out.step aa);obtain⟨G,H,I,J,K,L,M⟩:=((dE w v a c 25).alloc (Xt t a' c')).below aa;obtain⟨u,x,y,z,A,B,C⟩:=(dE (w.alloc (Xt v a c)) t a' c' 25).below aa;simp only[World.size_alloc]at u x y z A B C;have r:=zh (j.out s g.out.kw);clear aa q j;go_wp2_with fail
 refine r.out.mono ?_;rintro N O ⟨b,rfl,E,h⟩;have n:=zh (g.out.step h);clear h r;go_wp2_with fail
 go_ret;exact⟨_,rfl,E,n.out.up⟩
end Go.Proofs.YtkochlhejabdcaaGreatDoor
namespace Go.Proofs.YtkochlhejabdcaaGreatDoor
open Go.RowKit TS Proofs.Tryz
theorem Hv{D:Dl}{ds:List aC}{NS:List (List UInt8)}(R:Raw NS ds)(hlen:ds.length=D.len)(p:Pm)(dc:Nat)(hD:ca p D ds)(P6:aZ (ds.map aC.un)+dn ds≤1099511627776)(u:U)(hn:Names NS u)(O:u.dep≤1048576)(P7:cn u≤1099511627776)(a:Option Addr)(c:Nat)(w:World)(hu:ai p D u a c)(hw:KW p w)(PH:bU w)(hq:(⟨#[63]⟩:ByteArray).toList∈NS)(Qi:D.len≤1000000):
 Xk 3 #[Xd D dc,Xt u a c] w fun e w'=>e= .returned (.bool true)∧Below w w w':=by
 have Qj:=hD.jV;have h1:¬(2147483647:Int)<(D.len:Int):=zo;have PS:Below w w (w.alloc (Xt u a c)):=zB.alloc zl _;have hF:=zh (Ht u a c (w.alloc (Xt u a c)) hu);have P8:(w.alloc (Xt u a c)).heap[w.heap.size]?= .some (Xt u a c):=cA rfl;have PI:TS.L7 (w.alloc (Xt u a c)) w.heap.size u a c:=by(repeat' apply And.intro)<;>(simp only[World.cell?,P8];rfl)
 have PT:=zh PI;have PJ:=zh PS;have hS:Hid (∀W,Below (w.alloc (Xt u a c)).heap.size (w.alloc (Xt u a c)) W→Xk 7 #[Xd D dc,.slice (Xa W 0) 1 1] (W.alloc (Xt u a c)) fun e w'=>(∃b,e= .returned (.bool b)∧Hid (b=true→fI D ds∧gD D ds u=true))∧Below (W.alloc (Xt u a c)).heap.size (W.alloc (Xt u a c)) w'):=fun W hW=>by
  have P9:=(hw.grown PS).grown hW;have hd:∀o,p W.heap.size o=none:=fun o=>P9.aF zl o;have PK:=Pm.cK (cs:=#[.int .i64 u.k,.int .i64 u.n,.int .i64 u.m,.bool u.v,.string u.nm,.string u.tg,.slice a u.es.length c]) hd;have Qk:KW (p.add W.heap.size #[.int .i64 u.k,.int .i64 u.n,.int .i64 u.m,.bool u.v,.string u.nm,.string u.tg,.slice a u.es.length c]) (W.alloc (Xt u a c)):=(P9.alloc _).add fun o v h=>by
   have hh:(W.alloc (Xt u a c)).heap[W.heap.size]?= .some (Xt u a c):=cA rfl;simp only[World.cell?,hh];exact h
  refine Hu R hlen _ dc (hD.sub PK) u ⟨hn,O⟩ _ _ ?_ Qk;simp only[aq];refine⟨W.heap.size,0,rfl,⟨a,c,?_,ai.sub PK _ hu⟩,trivial⟩;refine⟨?_,?_,?_,?_,?_,?_,?_⟩<;>(rw[Pm.aU];rfl)
 have PU:=zh hD;have Ql:=zh hu;have PW:=zh hw;have PX:=zh PH;have P_:=zh P6;have Qa:=zh P7;have j:=zh hlen;have Qm:=zh hn;have PY:=zh O;clear hD hu hw PH P6 P7 hlen hn O PI P8 PS;go_enter func3,ntmps3;go_wp2_with fail
 refine hF.out.mono ?_;rintro e1 w1 ⟨rfl,g⟩;have Qb:=zh (hS.out w1 g);have PZ:=zh g;have z:=PT.out;obtain⟨z0,z1,z2,z3,z4,z5,z6⟩:(Xl w1 w u a c):=⟨az g z.1,az g z.2.1,az g z.2.2.1,az g z.2.2.2.1,az g z.2.2.2.2.1,az g z.2.2.2.2.2.1,az g z.2.2.2.2.2.2⟩
 have Qp:w.heap.size<w1.heap.size:=by have:=g.size;simp at this;omega
 clear g hF hS z;go_wp2_with fail
 refine Qb.out.mono ?_;rintro e2 w2 ⟨⟨b,rfl,hb⟩,P⟩;have I:=zh (show Below w w w2 from(PJ.out.trans (PZ.out.mono PJ.out.size)).trans ((((zB.alloc zl _).trans (P.mono zs))).mono zo));have s:=zh (show Below w1 w1 w2 from(zB.alloc zl _).trans (P.mono zs));clear P Qb;cases b with
 |false=>
  go_wp2_with fail
  go_ret;exact⟨rfl,I.out⟩
 |true=>
  obtain⟨V,PL⟩:=hb.out rfl;have P0:=rq PU.out;have Q:ai p D (bq ds u) a c:=lF (oO PU.out) _ _ Ql.out;obtain⟨A,S,PG,Qc⟩:=Hf R j.out V PL Qm.out PY.out Q;have E:=nf R j.out V;have Qd:=He R j.out V PU.out P_.out;have r:=A.pl.form.aD;have T:=A.pl.bare A.f2 r.1 r.2;have C:=A.eW E zo r.1 r.2;obtain⟨Qe,PM,PN⟩:bare (bare (bq ds u))=bare (bq ds u)∧(bare (bq ds u)).k≠12∧(bare (bq ds u)).k≠13:=⟨bR T.2.1 T.2.2.1,T.1.form.aD.1,T.1.form.aD.2⟩
  have PO:cn (bq ds u)≤1099511627776:=by unfold bq;rw[rV];exact Qa.out
  have P1:Hid (∀W,Below w w W→Xk 9 #[Xd D dc,Xt u a c] W fun e w'=>(∃B cmp,Hid (gO (fu (bq ds u)) B cmp)∧e= .returned (.bool (!cmp&&dh B&&(an (fu (bq ds u))).length==0)))∧Below W W w'):=fun W hW=>by
   have h:=Hm p D dc (aY ds) (bV ds) Qd P0 (bq ds u) a c W (PW.out.grown hW) (fun k h1 h2=>az hW (PX.out k h1 h2)) Q Qc S PO Qe (A.fl E zo r.1 r.2) PM PN (fun _=>cp C.2.1.1 C.2.1.2.1 C.2.1.2.2.1 C.2.1.2.2.2);simp only[o7 ds u]at h;exact h
  have P2:Hid (∀W,Below w w W→Xk 8 #[Xd D dc,Xt u a c] W (RU p D (under (bq ds u)) W)):=fun W hW=>by
   have h:=f_ p D dc (bq ds u) 0 1 a c W A.pl zo zo r.1 r.2 Q (PW.out.grown hW);simp only[o7 ds u]at h;exact h
  obtain⟨Qf,Qg⟩:=FK E (bq ds u) A zo r.1 r.2 PG (.inl S);have X:∀x∈a7 eZ++a7 (bq ds u),Gd D (aY ds) NS ds.length x:=fun x N=>by rw[xN]at N;exact Qg x (by simpa using N)
  have H:ai p D eZ none 0:=by
   unfold eZ;simp only[ai];exact⟨(by refine⟨?_,?_,?_,?_,?_,?_,?_⟩<;>decide),aq.nil,fun h=>absurd h zd⟩
  have P3:Hid (∀W,Below w w W→Xk 10 #[Xd D dc,.agg #[.int .i64 14,.int .i64 0,.int .i64 0,.bool false,.string ⟨#[]⟩,.string ⟨#[]⟩,.slice none 0 0],Xt u a c] W fun e w'=> ∃b,e= .returned (.bool b)∧Hid (∃(L:List U)(es:List aC),b= !(L.any fun x=>bQ (je es (iu es x)) eZ&& !bQ (je es (iu es x)) (bq ds u)))∧Below W W w'):=fun W hW=>by
   have h:=Hs (dc:=dc) (t:=bq ds u) (a':=a) (c':=c) (w:=W) (R:=fun b=> ∃(L:List U)(es:List aC),b= !(L.any fun x=>bQ (je es (iu es x)) eZ&& !bQ (je es (iu es x)) (bq ds u))) (xO D.len 1) zo zo Ff (PW.out.grown hW) H fun W' Qn=>
    (FV R.cP p D dc (bV ds) P0 Qi (fun d hd=>⟨(rW R j.out V d hd).1,fun m hm=>let⟨f,_,h⟩:=((rW R j.out V d hd).2 m hm).2.1.pl;⟨_,f,h⟩⟩) eZ (bq ds u) 0 1 0 1 (xO _ 1) zo zo zd zd A.pl zo zo r.1 r.2 Fg (nE rfl rfl)
     (by rw[xN];have:=Hq E A zo PG S;simp;omega) (fun x N=>let h:=X x N;⟨h.mo.pl,h.mo.pl.form.aD⟩) (fun es x=>je es (iu es x)) (PV D NS) (fun l=> ∀m∈l,PV D NS m) (fun q E' ec L es oa W1 W2 hM x N ax cx Qo=>Hj R j.out V hq X hM x N ax cx Qo) (Hn fun m hm=>by cases hm) Qf none 0 a c W' H Q Qn).mono fun e w' ⟨b,e1,⟨L,es,_,e2⟩,e3⟩=>⟨b,e1,⟨L,es,e2⟩,e3⟩
   simp only[o7 ds u]at h;exact h
  have PQ:Hid (∀B cmp,gO (fu (bq ds u)) B cmp→(under (bq ds u)).k=10→(under (bq ds u)).es= []→(!cmp&&dh B&&(an (fu (bq ds u))).length==0)=true):=fun B cmp h=>Ho h;have Qh:Hid (∀B cmp,gO (fu (bq ds u)) B cmp→(!cmp&&dh B&&(an (fu (bq ds u))).length==0)=true→∀(L:List U)(es:List aC),(!(L.any fun x=>bQ (je es (iu es x)) eZ&& !bQ (je es (iu es x)) (bq ds u)))=true):=fun B cmp h hE L es=>Hr E A zo PG S h hE L _ fun x=>rfl;clear P0 Q A S PG Qc E Qd Qe PM PN PO T C r PL Qf Qg X H;generalize bq ds u=v at P1 P2 P3 PQ Qh;have Qq:w.heap.size<w2.heap.size:=by have:=s.out.size;omega
  obtain⟨y0,y1,y2,y3,y4,y5,y6⟩:(Xl w2 w u a c):=⟨az s.out z0,az s.out z1,az s.out z2,az s.out z3,az s.out z4,az s.out z5,az s.out z6⟩
  clear z0 z1 z2 z3 z4 z5 z6 hb;go_wp2_with fail
  refine(P2.out _ I.out).mono ?_;rintro e3 w3 ⟨q,a3,c3,rfl,_,_,_,i⟩;have PR:=zh (I.out.trans (i.mono I.out.size));have Qr:w.heap.size<w3.heap.size:=by have:=i.size;omega
  obtain⟨x0,x1,x2,x3,x4,x5,x6⟩:(Xl w3 w u a c):=⟨az i y0,az i y1,az i y2,az i y3,az i y4,az i y5,az i y6⟩
  clear y0 y1 y2 y3 y4 y5 y6 i P2;have M:Hid (Below w w (w3.alloc (Xt ((under v)) a3 c3))):=PR.out.alloc PR.out.size _;have Y:=zh fun B cmp (h:gO (fu v) B cmp) (P4:((under v).k==10)=true) (e0:(((under v).es.length:Int)==0)=true)=>PQ.out B cmp h (by simpa using P4) (List.length_eq_zero_iff.1 (by simpa using e0));generalize under v=y at*;cases P4:(y.k==10)
  case' true=>cases e0:((y.es.length:Int)==0)
  case true.true=>
   have hy:=zh fun B cmp h=>Y.out B cmp h P4 e0;clear Y;go_wp2_with fail
   refine(P1.out _ M.out).mono ?_;rintro e5 w5 ⟨⟨B,cmp,F,rfl⟩,G⟩;have Z:=zh (M.out.trans (G.mono M.out.size));have N:=zh (hy.out B cmp F.out);generalize (!cmp&&dh B&&(an (fu v)).length==0)=x at*;obtain rfl:x=true:=N.out;clear G hy N F;go_wp2_with fail
   go_ret;exact⟨rfl,Z.out⟩
  all_goals
   clear Y;go_wp2_with fail
   refine(P3.out _ M.out).mono ?_;rintro e4 w4 ⟨b4,rfl,P5,J⟩;have K:=zh (M.out.trans (J.mono M.out.size));obtain⟨z0,z1,z2,z3,z4,z5,z6⟩:TS.L7 w4 w.heap.size u a c:=by
    repeat' apply And.intro
    all_goals exact az J (by simp[go_sem, *];done)
   have Qs:w.heap.size<w4.heap.size:=by have:=J.size;simp at this;omega
   clear J P3 x0 x1 x2 x3 x4 x5 x6;cases b4 with
   |true=>
    clear P5;go_wp2_with fail
    go_ret;exact⟨rfl,K.out⟩
   |false=>
    go_wp2_with fail
    refine(P1.out _ K.out).mono ?_;rintro e5 w5 ⟨⟨B,cmp,F,rfl⟩,G⟩;have Z:=zh (K.out.trans (G.mono K.out.size));have N:Hid ((!cmp&&dh B&&(an (fu v)).length==0)=false):=by
     cases hE:(!cmp&&dh B&&(an (fu v)).length==0)with
     |false=>rfl
     |true=>
      obtain⟨L,es,hL⟩:=P5.out;rw[Qh.out B cmp F.out hE L es]at hL;cases hL
    generalize (!cmp&&dh B&&(an (fu v)).length==0)=x at*;obtain rfl:x=false:=N.out;clear G N F P5;go_wp2_with fail
    go_ret;exact⟨rfl,Z.out⟩
end Go.Proofs.YtkochlhejabdcaaGreatDoor
