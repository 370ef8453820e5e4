import Derived.Test.YtkochlhejabdcaaGreatDoorYaw
set_option maxRecDepth 100000
set_option maxHeartbeats 8000000
set_option linter.all false
namespace Go.Proofs.YtkochlhejabdcaaGreatDoor
open Go.RowKit TS Go.Sort Tryz
def gR(tg a nm b:Nat→ByteArray)(rs:Nat→Bool)(i:Nat):Bool:=((tg i).toList==(a i).toList)&&(((nm i).toList==(b i).toList)&&rs i)
theorem vd{w:World}{b n c i a d:Nat}{s:ByteArray}(h1:Xc w b 1 (.slice (Xa a d) n c))(hi:i<n)(g:Xc w a (d+i) (.string s))(m:Nat)(os:Array Obj):
 Xk 128 #[Xp b,.int .i64 i] (grow (w.drewN m) os) fun e f=>e= .returned (.string s)∧∃p:GrownBy,f=grow (w.drewN p.n) p.os:=
 Calls.grown_of ((Cm b n c i a d s _ (bp h1 m os) hi (bp g m os)).mono fun _ _ ⟨he,e⟩=>⟨he,0,#[],by rw[←e,grow_empty];rfl⟩)
theorem CR{w:World}{b:Nat}{q:Option Addr}{s t:ByteArray}(c:aR s=true)(hT:bU w)(d:Xc w b 2 (.string s))(m:Nat)(os:Array Obj):
 Xk 129 #[Xp b,.pointer q,.string t,.bool false] (grow (w.drewN m) os) fun e a=>e= .returned (.bool (s.toList==t.toList))∧∃p:GrownBy,a=grow (w.drewN p.n) p.os:=
 Calls.grown_of ((Co b q s t c _ ((aB.of w m os).cap hT) (bp d m os)).mono fun _ _ ⟨he,e⟩=>⟨he,0,#[],by rw[←e,grow_empty];rfl⟩)
theorem CS(c b V:Nat)(x y st:Value)(w:World)(n C cc W tc PS:Nat)(a a' ta X:Option Addr)(f Y xt xb yt yb:Nat→Nat)(tg p nm m:Nat→ByteArray)(q:Nat→Option Addr)(rs:Nat→Bool)(P1:st= .pointer none∨∃s,st=Xp s)(h1:Xc w c 1 (.bool false))(h0:Xc w c 0 (.bool false))
 (P:Xk 125 #[x] w fun e u=>e= .returned (Xi 184 b)∧w=u)(Q:Xk 125 #[y] w fun e u=>e= .returned (Xi 184 V)∧w=u)
 (he:(binOp .eql 49 (Xi 184 b) (Xi 184 V)).run Tryz.prog w= .ok (.bool false) w)
 (hn:n≤1099511627776)(hT:bU w)
 (hc:Xc w b 0 (.slice a n cc))(Z:Xc w V 0 (.slice a' C W))(hp:bJ w a n f)(PG:bJ w a' C Y)
 (ht:Xc w b 1 (.slice ta n tc))(PT:Xc w V 1 (.slice X C PS))
 (PH:∀i,i<n→∃b0 o,ta= .some (Xa b0 o)∧Xc w b0 (o+i) (.string (tg i)))(M:∀i,i<C→∃b0 o,X= .some (Xa b0 o)∧Xc w b0 (o+i) (.string (p i)))
 (hm:∀i,i<n→Xc w (f i) 2 (.string (nm i))∧aR (nm i)=true∧Xc w (f i) 5 (.bool false)∧Xc w (f i) 3 (.iface (xt i) (Xp (xb i))))
 (PI:∀i,i<C→Xc w (Y i) 2 (.string (m i))∧Xc w (Y i) 1 (.pointer (q i))∧Xc w (Y i) 5 (.bool false)∧Xc w (Y i) 3 (.iface (yt i) (Xp (yb i))))
 (hP:n=C→∀i,i<n→ej c (.iface (xt i) (Xp (xb i))) (.iface (yt i) (Xp (yb i))) st (rs i) w):
 Xk 75 #[Xp c,x,y,st] w fun e u=>e= .returned (.bool (decide (n=C)&&bK n (gR tg p nm m rs)))∧aB w u:=by
 have D:=ak bG 184 b zd;have E:=ak cT 184 b zd;have F:=ak asSlice 184 b zd;have v:=bk di b;have ay:=bk di V;have hL:=zh (uY b n cc a w hc);have R:=zh (uY V C W a' w Z);have hq:=zh hp;have PJ:=zh PG;have PK:=zh hm;have PL:=zh PI;have S:=zh hP;have hu:=zh PH;have PM:=zh M;have PU:=zh hT;clear hp PG hm PI hP PH M hT;by_cases T:n=C
 ·subst T
  have PW:((n:Int)==(n:Int))=true:=zs;have PX:=zh (S.out rfl);clear S;go_enter func75,ntmps75;go_wp2_with fail
  refine P.mono ?_;rintro e u ⟨rfl,rfl⟩;go_wp2_with fail
  refine Q.mono ?_;rintro e u ⟨rfl,rfl⟩;go_wp2_with fail
  refine hL.out.mono ?_;rintro e u ⟨rfl,rfl⟩;go_wp2_with fail
  refine R.out.mono ?_;rintro e u ⟨rfl,rfl⟩;go_wp2_with fail
  clear P Q hL R he D E F v ay;have hw:Hid (aB w w):=aB.refl w;go_loopw [191] (fun i wr=> ∃k:Nat,k≤n∧i= .int .i64 k∧aB w wr∧∀j,j<k→gR tg p nm m rs j=true) (fun i _=>n- (intOf i).toNat)
  case atStart=>exact⟨0,Nat.zero_le _,rfl,hw.out,fun j hj=>absurd hj (Nat.not_lt_zero _)⟩
  case round=>
   obtain⟨k,hk,rfl,U,hA⟩:=hrel;have d:=zh U;have PN:=zh hA;have P2:=U.cell hc;have PZ:=U.cell Z;have PY:=U.cell ht;have PO:=U.cell PT;have g0:=bp (U.cell h0);clear U hA;by_cases g:k<n
   ·have P0:(k:Int)<n:=zo
    obtain⟨ab,ao,rfl,z⟩:=hq.out k g;obtain⟨P3,P4,rfl,N⟩:=PJ.out k g;have hr:=d.out.cell z;have P5:=d.out.cell N;obtain⟨v2,vB,v5,v3⟩:=PK.out k g;obtain⟨y2,y1,y5,y3⟩:=PL.out k g;have g1:=bp (d.out.cell v5);have g2:=bp (d.out.cell y5);have g3:=bp (d.out.cell v3);have g4:=bp (d.out.cell y3);have g5:=bp (d.out.cell y1);have g6:=bp (d.out.cell y2);obtain⟨tb,oo,rfl,PQ⟩:=hu.out k g;obtain⟨P6,P7,rfl,O⟩:=PM.out k g;have H:=zh (vd PY g (d.out.cell PQ));have I:=zh (vd PO g (d.out.cell O));have A:=zh (CR (q:=q k) (t:=m k) vB (d.out.cap PU.out) (d.out.cell v2));have B:=zh ((PX.out k g).dD d.out);clear z N PQ O v2 vB v5 v3 y2 y1 y5 y3;cases PR:((tg k).toList==(p k).toList)
    ·have G:=zh PR
     have hF:Hid (bK n (gR tg p nm m rs)=false):=lu (i:=k) g (by unfold gR;rw[G.out];rfl);go_wp2_with fail
     refine wp_region_quiet_grown zk zk ?_;repeat(go_big_quiet_step (first|(go_at_call 128;first|with_reducible exact H.out _ _|with_reducible exact I.out _ _)|(go_at_call 129;with_reducible exact A.out _ _)|(go_at_call 75;with_reducible exact B.out.at _ _)))
     refine wpQuiet_nil ?_;intro _ r;obtain⟨⟨nq,osq⟩,l⟩:=r;subst l;go_wp2_with fail
     go_ret;exact⟨by rw[hF.out];simp,d.out.trans (aB.of _ _ _)⟩
    ·have G:=zh PR
     cases J:((nm k).toList==(m k).toList)
     ·have K:=zh J
      rw[J]at A;have hF:Hid (bK n (gR tg p nm m rs)=false):=lu (i:=k) g (by unfold gR;rw[G.out,K.out];rfl);go_wp2_with fail
      refine wp_region_quiet_grown zk zk ?_;repeat(go_big_quiet_step (first|(go_at_call 128;first|with_reducible exact H.out _ _|with_reducible exact I.out _ _)|(go_at_call 129;with_reducible exact A.out _ _)|(go_at_call 75;with_reducible exact B.out.at _ _)))
      refine wpQuiet_nil ?_;intro _ r;obtain⟨⟨nq,osq⟩,l⟩:=r;subst l;go_wp2_with fail
      go_ret;exact⟨by rw[hF.out];simp,d.out.trans (aB.of _ _ _)⟩
     ·have K:=zh J
      rw[J]at A;cases L:rs k
      ·have z:=zh L
       rw[L]at B;have hF:Hid (bK n (gR tg p nm m rs)=false):=lu (i:=k) g (by unfold gR;rw[G.out,K.out,z.out];rfl);go_wp2_with fail
       refine wp_region_quiet_grown zk zk ?_;repeat(go_big_quiet_step (first|(go_at_call 128;first|with_reducible exact H.out _ _|with_reducible exact I.out _ _)|(go_at_call 129;with_reducible exact A.out _ _)|(go_at_call 75;with_reducible exact B.out.at _ _)))
       refine wpQuiet_nil ?_;intro _ r;obtain⟨⟨nq,osq⟩,l⟩:=r;subst l;go_wp2_with fail
       go_ret;exact⟨by rw[hF.out];simp,d.out.trans (aB.of _ _ _)⟩
      ·have z:=zh L
       rw[L]at B;go_wp2_with fail
       refine wp_region_quiet_grown zk zk ?_;repeat(go_big_quiet_step (first|(go_at_call 128;first|with_reducible exact H.out _ _|with_reducible exact I.out _ _)|(go_at_call 129;with_reducible exact A.out _ _)|(go_at_call 75;with_reducible exact B.out.at _ _)))
       refine wpQuiet_nil ?_;intro _ r;obtain⟨⟨nq,osq⟩,l⟩:=r;subst l;go_wp2_with fail
       refine⟨⟨k+1,by omega,by go_num,d.out.trans (aB.of _ _ _),fun j hj=> ?_⟩,?_⟩
       ·rcases Nat.lt_succ_iff_lt_or_eq.1 hj with h|rfl
        ·exact PN.out j h
        ·unfold gR;rw[G.out,K.out,z.out];rfl
       ·first|omega|(simp[intOf];omega)
   ·have P8:¬(k:Int)<n:=zo
    have hF:Hid (bK n (gR tg p nm m rs)=true):=lr fun i hi=>PN.out i zo;go_wp2_with fail
    go_ret;exact⟨by rw[hF.out];simp,d.out⟩
 ·have PW:((n:Int)==(C:Int))=false:=zp
  have hd:Hid (decide (n=C)=false):=by simp[Hid,T]
  clear T S PK PL hq PJ hu PM;go_enter func75,ntmps75;go_wp2_with fail
  refine P.mono ?_;rintro e u ⟨rfl,rfl⟩;go_wp2_with fail
  refine Q.mono ?_;rintro e u ⟨rfl,rfl⟩;go_wp2_with fail
  refine hL.out.mono ?_;rintro e u ⟨rfl,rfl⟩;go_wp2_with fail
  refine R.out.mono ?_;rintro e u ⟨rfl,rfl⟩;go_wp2_with fail
  go_ret;exact⟨by rw[hd.out];rfl,aB.refl _⟩
end Go.Proofs.YtkochlhejabdcaaGreatDoor
