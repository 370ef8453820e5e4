import Derived.Test.YtkochlhejabdcaaGreatDoorYax
set_option maxRecDepth 100000
set_option maxHeartbeats 8000000
set_option linter.all false
namespace TS
open Go Go.RowKit Go.Sort Go.Proofs.Tryz
inductive ig (w:World) (b a:Nat):Value→Prop
 |nil:ig w b a (.pointer none)
 |cons {s x y:Nat} {q:Value}:Xc w s 0 (Xp x)→Xc w s 1 (Xp y)→Xc w s 2 q→Plain w x→Plain w y→x≠b→(x=a→y≠b)→kk q<s+1→ig w b a q→ig w b a (Xp s)
theorem ig.dD{w a:World}{b c:Nat}{q:Value}(h:ig w b c q)(k:aB w a):ig a b c q:=by
 induction h with
 |nil=>exact .nil
 |cons h1 d e f g i h7 j _ ih=>exact .cons (k.cell h1) (k.cell d) (k.cell e) (k.plain f) (k.plain g) i h7 j ih
theorem ig.shape{w:World}{b a:Nat}{q:Value}(h:ig w b a q):q= .pointer none∨∃s,q=Xp s:=by
 cases h with
 |nil=>exact .inl rfl
 |cons=>exact .inr ⟨_,rfl⟩
end TS
namespace Go.Proofs.YtkochlhejabdcaaGreatDoor
open Go.RowKit TS Go.Sort Tryz
def gS(nm a:Nat→ByteArray)(rs:Nat→Bool)(i:Nat):Bool:=((nm i).toList==(a i).toList)&&rs i
theorem vg{w:World}{b:Nat}{q:Option Addr}{s:ByteArray}(c:aR s=true)(hT:bU w)(h1:Xc w b 1 (.pointer q))(d:Xc w b 2 (.string s))(m:Nat)(os:Array Obj):
 Xk 134 #[Xp b] (grow (w.drewN m) os) fun e a=>e= .returned (.string s)∧∃p:GrownBy,a=grow (w.drewN p.n) p.os:=
 Calls.grown_of ((n_ b q s c _ ((aB.of w m os).cap hT) (bp h1 m os) (bp d m os)).mono fun _ _ ⟨he,k,e⟩=>⟨he,k,#[],by rw[e,grow_empty]⟩)
theorem vh{f:FuncId}{args:Array Value}{v:Value}{w:World}(h:∀W,aB w W→Xk f args W fun e b=>e= .returned v∧aB W b)(m:Nat)(os:Array Obj):
 Xk f args (grow (w.drewN m) os) fun e a=>e= .returned v∧∃p:GrownBy,a=grow (w.drewN p.n) p.os:=Calls.grown_of (h _ (aB.of w m os))
theorem CT(c b I:Nat)(x y st:Value)(w:World)(tb L n Z mc Qg tc PN nt PO:Nat)(cm:Bool)(ma PQ ta PR:Option Addr)(f f' xt xb yt yb:Nat→Nat)(nm z:Nat→ByteArray)(q q':Nat→Option Addr)(rs:Nat→Bool)(PS:st= .pointer none∨∃s,st=Xp s)(h1:Xc w c 1 (.bool false))(h0:Xc w c 0 (.bool false))
 (Q:Xk 125 #[x] w fun e F=>e= .returned (Xi 37 b)∧w=F)(R:Xk 125 #[y] w fun e F=>e= .returned (Xi 37 I)∧w=F)
 (he:(binOp .eql 49 (Xi 37 b) (Xi 37 I)).run Tryz.prog w= .ok (.bool false) w)
 (hn:n≤1099511627776)(hT:bU w)(hS:ig w b I st)(hb:Plain w b)(PT:Plain w I)
 (hk:Xc w b 0 (.pointer none))(PU:Xc w I 0 (.pointer none))(h6:Xc w b 6 (Xp tb))(PW:Xc w I 6 (Xp L))
 (h3:Xc w tb 3 (.bool cm))(PX:Xc w L 3 (.bool cm))(ht:Xc w tb 2 (.slice ta nt tc))(PY:Xc w L 2 (.slice PR PO PN))
 (PZ:∀W,aB w W→Xk 132 #[.slice ta nt tc,.slice PR PO PN] W fun e F=>e= .returned (.bool true)∧aB W F)
 (hc:Xc w tb 1 (.slice ma n mc))(P0:Xc w L 1 (.slice PQ Z Qg))(hp:bJ w ma n f)(P1:bJ w PQ Z f')
 (hm:∀i,i<n→Xc w (f i) 2 (.string (nm i))∧aR (nm i)=true∧Xc w (f i) 1 (.pointer (q i))∧Xc w (f i) 3 (.iface (xt i) (Xp (xb i))))
 (P2:∀i,i<Z→Xc w (f' i) 2 (.string (z i))∧aR (z i)=true∧Xc w (f' i) 1 (.pointer (q' i))∧Xc w (f' i) 3 (.iface (yt i) (Xp (yb i))))
 (hP:n=Z→∀(W:World)(s:Nat),aB w W→Xc W s 0 (Xp b)→Xc W s 1 (Xp I)→Xc W s 2 st→w.heap.size≤s→
  ∀i,i<n→ej c (.iface (xt i) (Xp (xb i))) (.iface (yt i) (Xp (yb i))) (Xp s) (rs i) W):
 Xk 75 #[Xp c,x,y,st] w fun e F=>e= .returned (.bool (decide (n=Z)&&bK n (gS nm z rs)))∧aB w F:=by
 obtain⟨so,rfl⟩:∃so:Option Addr,st= .pointer so:=by rcases PS with rfl|⟨s,rfl⟩<;>exact⟨_,rfl⟩
 clear PS;have A:=ak bG 37 b zd;have B:=ak cT 37 b zd;have C:=ak asSlice 37 b zd;have u:=ak di 37 b zd;have p:=ak cU 37 b zd;have D:=ak asTuple 37 b zd;have l:=ak gP 37 b zd;have E:=ak iF 37 b zd;have m:=bk ei b;have ay:=bk ei I;have hL:=zh (jD b tb w hk h6);have S:=zh (jD I L w PU PW);have PG:=zh PZ;have Qn:(cm !=cm)=false:=zs;have g1:=bp h3;have g2:=bp PX;have hq:=zh hp;have P3:=zh P1;have P4:=zh hm;have P5:=zh P2;have PJ:=zh hP;have P6:=zh hT;have P7:=zh hS;have Qh:=zh hb;have P8:=zh PT;clear PZ hp P1 hm P2 hP hT hS hb PT hk PU h6 PW h3 PX;by_cases PK:n=Z
 ·subst PK
  have Qi:((n:Int)==(n:Int))=true:=zs;have Qj:=zh (PJ.out rfl);clear PJ;go_enter func75,ntmps75;go_wp2_with fail
  refine Q.mono ?_;rintro e F ⟨rfl,rfl⟩;go_wp2_with fail
  refine R.mono ?_;rintro e F ⟨rfl,rfl⟩;go_wp2_with fail
  refine hL.out.mono ?_;rintro e F ⟨rfl,rfl⟩;go_wp2_with fail
  refine S.out.mono ?_;rintro e F ⟨rfl,rfl⟩;go_wp2_with fail
  refine wp_region_quiet_grown zk zk ?_;repeat(go_big_quiet_step (fail))
  refine wpQuiet_nil ?_;intro _ o;obtain⟨⟨nq,osq⟩,a⟩:=o;subst a;have d:aB w (grow (w.drewN nq) osq):=aB.of _ _ _;have hE:=zh (vh fun W hW=>PG.out W (d.trans hW));have u1:=bp (d.cell ht);have u2:=bp (d.cell PY);have u3:=d.cell hc;have u4:=d.cell P0;have M:=zh d;clear g1 g2 d hL S Q R he A B C u p D l E m ay;generalize grow (w.drewN nq) osq=T at*;go_wp2_with fail
  refine wp_region_quiet_grown zk zk ?_;repeat(go_big_quiet_step (first|(go_at_call 132;with_reducible exact hE.out _ _)))
  refine wpQuiet_nil ?_;intro _ o;obtain⟨⟨nq,osq⟩,a⟩:=o;subst a;have N:=M.out.trans (aB.of T nq osq);have v3:=(aB.of T nq osq).cell u3;have v4:=(aB.of T nq osq).cell u4;have r:=zh N;clear hE u1 u2 u3 u4 N;generalize grow (T.drewN nq) osq=P at*;go_wp2_with fail
  go_loopw [3] (fun v wr=>ig wr b I v∧aB P wr∧Xc wr P 0 (Xp b)∧Xc wr P 1 (Xp I)∧Xc wr P 2 (.pointer so)) (fun v _=>kk v)
  case atStart=>exact⟨(P7.out.dD r.out).dD (aB.alloc _ _),aB.alloc _ _,by simp[go_sem],by simp[go_sem],by simp[go_sem]⟩
  case round=>
   obtain⟨Qk,U,k0,k1,k2⟩:=hrel;have H:=zh U;have z3:=U.cell v3;have z4:=U.cell v4;clear U;cases Qk with
   |nil=>
    go_wp2_with fail
    go_loopw [468] (fun i wx=> ∃k:Nat,k≤n∧i= .int .i64 k∧aB w wx∧Xc wx P 0 (Xp b)∧Xc wx P 1 (Xp I)∧Xc wx P 2 (.pointer so)∧∀j,j<k→gS nm z rs j=true) (fun i _=>n- (intOf i).toNat)
    case atStart=>exact⟨0,Nat.zero_le _,rfl,r.out.trans H.out,k0,k1,k2,fun j hj=>absurd hj (Nat.not_lt_zero _)⟩
    case round=>
     obtain⟨k,hk,rfl,hG,m0,m1,m2,hA⟩:=hrel;have g:=zh hG;have P9:=zh hA;clear hG hA;by_cases t:k<n
     ·have PH:(k:Int)<n:=zo
      obtain⟨ab,ao,rfl,J⟩:=hq.out k t;obtain⟨Qo,Qp,rfl,PI⟩:=P3.out k t;have hr:=g.out.cell J;have Qq:=g.out.cell PI;obtain⟨y2,yB,y1,y3⟩:=P4.out k t;obtain⟨P_,Qa,Qb,Qc⟩:=P5.out k t;have g3:=bp (g.out.cell y3);have g4:=bp (g.out.cell Qc);have PL:=zh (vg yB (g.out.cap P6.out) (g.out.cell y1) (g.out.cell y2));have PM:=zh (vg Qa (g.out.cap P6.out) (g.out.cell Qb) (g.out.cell P_));have O:=zh (Qj.out _ P.heap.size g.out m0 m1 m2 r.out.size k t);clear J PI y2 yB y1 y3 P_ Qa Qb Qc;cases Qd:((nm k).toList==(z k).toList)
      ·have V:=zh Qd
       have hF:Hid (bK n (gS nm z rs)=false):=lu (i:=k) t (by unfold gS;rw[V.out];rfl);go_wp2_with fail
       refine wp_region_quiet_grown zk zk ?_;repeat(go_big_quiet_step (first|(go_at_call 134;first|with_reducible exact PL.out _ _|with_reducible exact PM.out _ _)|(go_at_call 75;with_reducible exact O.out.at _ _)))
       refine wpQuiet_nil ?_;intro _ o;obtain⟨⟨nq,osq⟩,a⟩:=o;subst a;go_wp2_with fail
       go_ret;exact⟨by rw[hF.out];simp,g.out.trans (aB.of _ _ _)⟩
      ·have V:=zh Qd
       cases X:rs k
       ·have J:=zh X
        rw[X]at O;have hF:Hid (bK n (gS nm z rs)=false):=lu (i:=k) t (by unfold gS;rw[V.out,J.out];rfl);go_wp2_with fail
        refine wp_region_quiet_grown zk zk ?_;repeat(go_big_quiet_step (first|(go_at_call 134;first|with_reducible exact PL.out _ _|with_reducible exact PM.out _ _)|(go_at_call 75;with_reducible exact O.out.at _ _)))
        refine wpQuiet_nil ?_;intro _ o;obtain⟨⟨nq,osq⟩,a⟩:=o;subst a;go_wp2_with fail
        go_ret;exact⟨by rw[hF.out];simp,g.out.trans (aB.of _ _ _)⟩
       ·have J:=zh X
        rw[X]at O;go_wp2_with fail
        refine wp_region_quiet_grown zk zk ?_;repeat(go_big_quiet_step (first|(go_at_call 134;first|with_reducible exact PL.out _ _|with_reducible exact PM.out _ _)|(go_at_call 75;with_reducible exact O.out.at _ _)))
        refine wpQuiet_nil ?_;intro _ o;obtain⟨⟨nq,osq⟩,a⟩:=o;subst a;go_wp2_with fail
        refine⟨⟨k+1,by omega,by go_num,g.out.trans (aB.of _ _ _),bp m0 _ _,bp m1 _ _,bp m2 _ _,fun j hj=> ?_⟩,?_⟩
        ·rcases Nat.lt_succ_iff_lt_or_eq.1 hj with h|rfl
         ·exact P9.out j h
         ·unfold gS;rw[V.out,J.out];rfl
        ·first|omega|(simp[intOf];omega)
     ·have Qr:¬(k:Int)<n:=zo
      have hF:Hid (bK n (gS nm z rs)=true):=lr fun i hi=>P9.out i zo;go_wp2_with fail
      go_ret;exact⟨by rw[hF.out];simp,g.out⟩
   |cons e0 e1 e2 p1 p2 Qe Qf t G=>
    rename_i s x0 y0 q0;have Ql:=zh (Ct s P.heap.size x0 y0 b I wr e0 e1 k0 k1 p1 p2 ((r.out.trans H.out).plain Qh.out) ((r.out.trans H.out).plain P8.out) Qe Qf);have Y:=zh G;have PH:=zh t;have Qm:=G.shape;clear p1 p2 Qe Qf G t;go_wp2_with fail
    refine Ql.out.mono ?_;rintro e wz ⟨rfl,nz,rfl⟩;have K:Hid (aB wr (wr.drewN nz)):=aB.drewN _ _;have f2:=K.out.cell e2;rcases Qm with rfl|⟨s',rfl⟩
    all_goals
     go_wp2_with fail
     refine⟨⟨Y.out.dD K.out,H.out.trans K.out,K.out.cell k0,K.out.cell k1,K.out.cell k2⟩,?_⟩;have:=PH.out;simp at this⊢;try omega
 ·have Qi:((n:Int)==(Z:Int))=false:=zp
  have hd:Hid (decide (n=Z)=false):=by simp[Hid,PK]
  clear PK PJ P4 P5 hq P3 P7;go_enter func75,ntmps75;go_wp2_with fail
  refine Q.mono ?_;rintro e F ⟨rfl,rfl⟩;go_wp2_with fail
  refine R.mono ?_;rintro e F ⟨rfl,rfl⟩;go_wp2_with fail
  refine hL.out.mono ?_;rintro e F ⟨rfl,rfl⟩;go_wp2_with fail
  refine S.out.mono ?_;rintro e F ⟨rfl,rfl⟩;go_wp2_with fail
  refine wp_region_quiet_grown zk zk ?_;repeat(go_big_quiet_step (fail))
  refine wpQuiet_nil ?_;intro _ o;obtain⟨⟨nq,osq⟩,a⟩:=o;subst a;have d:aB w (grow (w.drewN nq) osq):=aB.of _ _ _;have hE:=zh (vh fun W hW=>PG.out W (d.trans hW));have u1:=bp (d.cell ht);have u2:=bp (d.cell PY);have u3:=d.cell hc;have u4:=d.cell P0;have M:=zh d;clear g1 g2 d hL S Q R he A B C u p D l E m ay;generalize grow (w.drewN nq) osq=T at*;go_wp2_with fail
  refine wp_region_quiet_grown zk zk ?_;repeat(go_big_quiet_step (first|(go_at_call 132;with_reducible exact hE.out _ _)))
  refine wpQuiet_nil ?_;intro _ o;obtain⟨⟨nq,osq⟩,a⟩:=o;subst a;have N:=M.out.trans (aB.of T nq osq);have v3:=(aB.of T nq osq).cell u3;have v4:=(aB.of T nq osq).cell u4;have r:=zh N;clear hE u1 u2 u3 u4 N;generalize grow (T.drewN nq) osq=P at*;go_wp2_with fail
  go_ret;exact⟨by rw[hd.out];rfl,r.out⟩
end Go.Proofs.YtkochlhejabdcaaGreatDoor
