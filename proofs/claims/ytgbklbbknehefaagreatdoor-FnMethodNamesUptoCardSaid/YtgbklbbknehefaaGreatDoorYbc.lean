import Derived.Test.YtgbklbbknehefaaGreatDoorYba
import Derived.Test.YtgbklbbknehefaaGreatDoorYbb
set_option maxRecDepth 100000
set_option maxHeartbeats 8000000
set_option linter.all false
namespace Go.Proofs.YtgbklbbknehefaaGreatDoor
open Go.RowKit TS Go.Sort
def fJ(tg a nm b:Nat→ByteArray)(rs:Nat→Bool)(i:Nat):Bool:=((tg i).toList==(a i).toList)&&(((nm i).toList==(b i).toList)&&rs i)
theorem sk{w:World}{b n c i a d:Nat}{s:ByteArray}(h1:w.cell? ⟨b,1,none⟩=some (.slice (some ⟨a,d,none⟩) n c))(hi:i<n)(g:w.cell? ⟨a,d+i,none⟩=some (.string s))(m:Nat)(os:Array Obj):
 Calls Tryz.prog 198 #[.pointer (some ⟨b,0,none⟩),.int .i64 i] (grow (w.drewN m) os) fun e f=>e= .returned (.string s)∧∃p:GrownBy,f=grow (w.drewN p.n) p.os:=
 Calls.grown_of ((zM b n c i a d s _ (a_ h1 m os) hi (a_ g m os)).mono fun _ _ ⟨he,e⟩=>⟨he,0,#[],by rw[←e,grow_empty];rfl⟩)
theorem Ao{w:World}{b:Nat}{q:Option Addr}{s t:ByteArray}(c:aL s=true)(hT:bD w)(h2:w.cell? ⟨b,2,none⟩=some (.string s))(m:Nat)(os:Array Obj):
 Calls Tryz.prog 199 #[.pointer (some ⟨b,0,none⟩),.pointer q,.string t,.bool false] (grow (w.drewN m) os) fun e a=>e= .returned (.bool (s.toList==t.toList))∧∃p:GrownBy,a=grow (w.drewN p.n) p.os:=
 Calls.grown_of ((zO b q s t c _ ((aq.of w m os).cap hT) (a_ h2 m os)).mono fun _ _ ⟨he,e⟩=>⟨he,0,#[],by rw[←e,grow_empty];rfl⟩)
theorem Ap(c b P:Nat)(x y st:Value)(w:World)(n C cc X tc Qf:Nat)(a a' ta Y:Option Addr)(f Z xt xb yt yb:Nat→Nat)(tg p nm m:Nat→ByteArray)(q:Nat→Option Addr)(rs:Nat→Bool)(Qn:st= .pointer none∨∃s,st= .pointer (some ⟨s,0,none⟩))(h1:w.cell? ⟨c,1,none⟩=some (.bool false))(h0:w.cell? ⟨c,0,none⟩=some (.bool false))
 (Q:Calls Tryz.prog 114 #[x] w fun e u=>e= .returned (.iface 213 (.pointer (some ⟨b,0,none⟩)))∧w=u)(R:Calls Tryz.prog 114 #[y] w fun e u=>e= .returned (.iface 213 (.pointer (some ⟨P,0,none⟩)))∧w=u)
 (he:(binOp .eql 44 (.iface 213 (.pointer (some ⟨b,0,none⟩))) (.iface 213 (.pointer (some ⟨P,0,none⟩)))).run Tryz.prog w= .ok (.bool false) w)
 (hn:n≤1099511627776)(hT:bD w)
 (hc:w.cell? ⟨b,0,none⟩=some (.slice a n cc))(P4:w.cell? ⟨P,0,none⟩=some (.slice a' C X))(hp:bj w a n f)(P5:bj w a' C Z)
 (ht:w.cell? ⟨b,1,none⟩=some (.slice ta n tc))(Qg:w.cell? ⟨P,1,none⟩=some (.slice Y C Qf))
 (P6:∀i,i<n→∃b0 o,ta=some ⟨b0,o,none⟩∧w.cell? ⟨b0,o+i,none⟩=some (.string (tg i)))(M:∀i,i<C→∃b0 o,Y=some ⟨b0,o,none⟩∧w.cell? ⟨b0,o+i,none⟩=some (.string (p i)))
 (hm:∀i,i<n→w.cell? ⟨f i,2,none⟩=some (.string (nm i))∧aL (nm i)=true∧w.cell? ⟨f i,5,none⟩=some (.bool false)∧w.cell? ⟨f i,3,none⟩=some (.iface (xt i) (.pointer (some ⟨xb i,0,none⟩))))
 (P7:∀i,i<C→w.cell? ⟨Z i,2,none⟩=some (.string (m i))∧w.cell? ⟨Z i,1,none⟩=some (.pointer (q i))∧w.cell? ⟨Z i,5,none⟩=some (.bool false)∧w.cell? ⟨Z i,3,none⟩=some (.iface (yt i) (.pointer (some ⟨yb i,0,none⟩))))
 (hP:n=C→∀i,i<n→dD c (.iface (xt i) (.pointer (some ⟨xb i,0,none⟩))) (.iface (yt i) (.pointer (some ⟨yb i,0,none⟩))) st (rs i) w):
 Calls Tryz.prog 174 #[.pointer (some ⟨c,0,none⟩),x,y,st] w fun e u=>e= .returned (.bool (decide (n=C)&&bu n (fJ tg p nm m rs)))∧aq w u:=by
 have D:∀W,(Instr.typeAssert (.iface 213 (.pointer (some ⟨b,0,none⟩))) 44 105 true).run Tryz.prog W= .ok (.tuple #[.pointer none,.bool false]) W:=fun W=>by rw[bn,if_neg (by decide)]
 have E:∀W,(Instr.typeAssert (.iface 213 (.pointer (some ⟨b,0,none⟩))) 44 141 true).run Tryz.prog W= .ok (.tuple #[.pointer none,.bool false]) W:=fun W=>by rw[cw,if_neg (by decide)]
 have F:∀W,(Instr.typeAssert (.iface 213 (.pointer (some ⟨b,0,none⟩))) 44 143 true).run Tryz.prog W= .ok (.tuple #[.pointer none,.bool false]) W:=fun W=>by rw[asSlice,if_neg (by decide)]
 have v:∀W,(Instr.typeAssert (.iface 213 (.pointer (some ⟨b,0,none⟩))) 44 213 true).run Tryz.prog W= .ok (.tuple #[.pointer (some ⟨b,0,none⟩),.bool true]) W:=fun W=>by rw[cJ,if_pos rfl]
 have ay:∀W,(Instr.typeAssert (.iface 213 (.pointer (some ⟨P,0,none⟩))) 44 213 true).run Tryz.prog W= .ok (.tuple #[.pointer (some ⟨P,0,none⟩),.bool true]) W:=fun W=>by rw[cJ,if_pos rfl]
 have hL:=Lib.hid (sd b n cc a w hc);have S:=Lib.hid (sd P C X a' w P4);have hq:=Lib.hid hp;have P8:=Lib.hid P5;have P9:=Lib.hid hm;have P_:=Lib.hid P7;have T:=Lib.hid hP;have hu:=Lib.hid P6;have Qa:=Lib.hid M;have Qh:=Lib.hid hT;clear hp P5 hm P7 hP P6 M hT;by_cases U:n=C
 ·subst U
  have Qi:((n:Int)==(n:Int))=true:=by simp
  have Qj:=Lib.hid (T.out rfl);clear T;go_enter Tryz.func174,Tryz.ntmps174;go_wp2_with fail
  refine Q.mono ?_;rintro e u ⟨rfl,rfl⟩;go_wp2_with fail
  refine R.mono ?_;rintro e u ⟨rfl,rfl⟩;go_wp2_with fail
  refine hL.out.mono ?_;rintro e u ⟨rfl,rfl⟩;go_wp2_with fail
  refine S.out.mono ?_;rintro e u ⟨rfl,rfl⟩;go_wp2_with fail
  clear Q R hL S he D E F v ay;have hw:Hid (aq w w):=aq.refl w;go_loopw [191] (fun i wr=> ∃k:Nat,k≤n∧i= .int .i64 k∧aq w wr∧∀j,j<k→fJ tg p nm m rs j=true) (fun i _=>n- (intOf i).toNat)
  case atStart=>exact⟨0,Nat.zero_le _,rfl,hw.out,fun j hj=>absurd hj (Nat.not_lt_zero _)⟩
  case round=>
   obtain⟨k,hk,rfl,V,hA⟩:=hrel;have d:=Lib.hid V;have Qb:=Lib.hid hA;have Qo:=V.cell hc;have Ql:=V.cell P4;have Qk:=V.cell ht;have Qc:=V.cell Qg;have g0:=a_ (V.cell h0);clear V hA;by_cases g:k<n
   ·have Qm:(k:Int)<n:=by omega
    obtain⟨ab,ao,rfl,z⟩:=hq.out k g;obtain⟨Qp,Qq,rfl,N⟩:=P8.out k g;have hr:=d.out.cell z;have Qr:=d.out.cell N;obtain⟨v2,vB,v5,v3⟩:=P9.out k g;obtain⟨y2,y1,y5,y3⟩:=P_.out k g;have g1:=a_ (d.out.cell v5);have g2:=a_ (d.out.cell y5);have g3:=a_ (d.out.cell v3);have g4:=a_ (d.out.cell y3);have g5:=a_ (d.out.cell y1);have g6:=a_ (d.out.cell y2);obtain⟨tb,oo,rfl,Qd⟩:=hu.out k g;obtain⟨Qs,Qt,rfl,O⟩:=Qa.out k g;have H:=Lib.hid (sk Qk g (d.out.cell Qd));have I:=Lib.hid (sk Qc g (d.out.cell O));have A:=Lib.hid (Ao (q:=q k) (t:=m k) vB (d.out.cap Qh.out) (d.out.cell v2));have B:=Lib.hid ((Qj.out k g).cC d.out);clear z N Qd O v2 vB v5 v3 y2 y1 y5 y3;cases Qe:((tg k).toList==(p k).toList)
    ·have G:=Lib.hid Qe
     have hF:Hid (bu n (fJ tg p nm m rs)=false):=jP (i:=k) g (by unfold fJ;rw[G.out];rfl);go_wp2_with fail
     refine wp_region_quiet_grown (by kernel_rfl) (by kernel_rfl) ?_;repeat(go_big_quiet_step (first|(go_at_call 198;first|with_reducible exact H.out _ _|with_reducible exact I.out _ _)|(go_at_call 199;with_reducible exact A.out _ _)|(go_at_call 174;with_reducible exact B.out.at _ _)))
     refine wpQuiet_nil ?_;intro _ r;obtain⟨⟨nq,osq⟩,l⟩:=r;subst l;go_wp2_with fail
     go_ret;exact⟨by rw[hF.out];simp,d.out.trans (aq.of _ _ _)⟩
    ·have G:=Lib.hid Qe
     cases J:((nm k).toList==(m k).toList)
     ·have K:=Lib.hid J
      rw[J]at A;have hF:Hid (bu n (fJ tg p nm m rs)=false):=jP (i:=k) g (by unfold fJ;rw[G.out,K.out];rfl);go_wp2_with fail
      refine wp_region_quiet_grown (by kernel_rfl) (by kernel_rfl) ?_;repeat(go_big_quiet_step (first|(go_at_call 198;first|with_reducible exact H.out _ _|with_reducible exact I.out _ _)|(go_at_call 199;with_reducible exact A.out _ _)|(go_at_call 174;with_reducible exact B.out.at _ _)))
      refine wpQuiet_nil ?_;intro _ r;obtain⟨⟨nq,osq⟩,l⟩:=r;subst l;go_wp2_with fail
      go_ret;exact⟨by rw[hF.out];simp,d.out.trans (aq.of _ _ _)⟩
     ·have K:=Lib.hid J
      rw[J]at A;cases L:rs k
      ·have z:=Lib.hid L
       rw[L]at B;have hF:Hid (bu n (fJ tg p nm m rs)=false):=jP (i:=k) g (by unfold fJ;rw[G.out,K.out,z.out];rfl);go_wp2_with fail
       refine wp_region_quiet_grown (by kernel_rfl) (by kernel_rfl) ?_;repeat(go_big_quiet_step (first|(go_at_call 198;first|with_reducible exact H.out _ _|with_reducible exact I.out _ _)|(go_at_call 199;with_reducible exact A.out _ _)|(go_at_call 174;with_reducible exact B.out.at _ _)))
       refine wpQuiet_nil ?_;intro _ r;obtain⟨⟨nq,osq⟩,l⟩:=r;subst l;go_wp2_with fail
       go_ret;exact⟨by rw[hF.out];simp,d.out.trans (aq.of _ _ _)⟩
      ·have z:=Lib.hid L
       rw[L]at B;go_wp2_with fail
       refine wp_region_quiet_grown (by kernel_rfl) (by kernel_rfl) ?_;repeat(go_big_quiet_step (first|(go_at_call 198;first|with_reducible exact H.out _ _|with_reducible exact I.out _ _)|(go_at_call 199;with_reducible exact A.out _ _)|(go_at_call 174;with_reducible exact B.out.at _ _)))
       refine wpQuiet_nil ?_;intro _ r;obtain⟨⟨nq,osq⟩,l⟩:=r;subst l;go_wp2_with fail
       refine⟨⟨k+1,by omega,by go_num,d.out.trans (aq.of _ _ _),fun j hj=> ?_⟩,?_⟩
       ·rcases Nat.lt_succ_iff_lt_or_eq.1 hj with h|rfl
        ·exact Qb.out j h
        ·unfold fJ;rw[G.out,K.out,z.out];rfl
       ·first|omega|(simp[intOf];omega)
   ·have Qu:¬(k:Int)<n:=by omega
    have hF:Hid (bu n (fJ tg p nm m rs)=true):=jO fun i hi=>Qb.out i (by omega);go_wp2_with fail
    go_ret;exact⟨by rw[hF.out];simp,d.out⟩
 ·have Qi:((n:Int)==(C:Int))=false:=by simp;omega
  have hd:Hid (decide (n=C)=false):=by simp[Hid,U]
  clear U T P9 P_ hq P8 hu Qa;go_enter Tryz.func174,Tryz.ntmps174;go_wp2_with fail
  refine Q.mono ?_;rintro e u ⟨rfl,rfl⟩;go_wp2_with fail
  refine R.mono ?_;rintro e u ⟨rfl,rfl⟩;go_wp2_with fail
  refine hL.out.mono ?_;rintro e u ⟨rfl,rfl⟩;go_wp2_with fail
  refine S.out.mono ?_;rintro e u ⟨rfl,rfl⟩;go_wp2_with fail
  go_ret;exact⟨by rw[hd.out];rfl,aq.refl _⟩
end Go.Proofs.YtgbklbbknehefaaGreatDoor
namespace TS
open Go Go.RowKit Go.Sort
inductive fW (w:World) (b a:Nat):Value→Prop
 |nil:fW w b a (.pointer none)
 |cons {s x y:Nat} {q:Value}:w.cell? ⟨s,0,none⟩=some (.pointer (some ⟨x,0,none⟩))→w.cell? ⟨s,1,none⟩=some (.pointer (some ⟨y,0,none⟩))→w.cell? ⟨s,2,none⟩=some q→Plain w x→Plain w y→x≠b→(x=a→y≠b)→kJ q<s+1→fW w b a q→fW w b a (.pointer (some ⟨s,0,none⟩))
theorem fW.cC{w a:World}{b c:Nat}{q:Value}(h:fW w b c q)(k:aq w a):fW a b c q:=by
 induction h with
 |nil=>exact .nil
 |cons h1 h2 h3 d e f h7 g _ ih=>exact .cons (k.cell h1) (k.cell h2) (k.cell h3) (k.plain d) (k.plain e) f h7 g ih
theorem fW.shape{w:World}{b a:Nat}{q:Value}(h:fW w b a q):q= .pointer none∨∃s,q= .pointer (some ⟨s,0,none⟩):=by
 cases h with
 |nil=>exact .inl rfl
 |cons=>exact .inr ⟨_,rfl⟩
end TS
namespace Go.Proofs.YtgbklbbknehefaaGreatDoor
open Go.RowKit TS Go.Sort
def fK(nm a:Nat→ByteArray)(rs:Nat→Bool)(i:Nat):Bool:=((nm i).toList==(a i).toList)&&rs i
theorem sm{w:World}{b:Nat}{q:Option Addr}{s:ByteArray}(c:aL s=true)(hT:bD w)(h1:w.cell? ⟨b,1,none⟩=some (.pointer q))(h2:w.cell? ⟨b,2,none⟩=some (.string s))(m:Nat)(os:Array Obj):
 Calls Tryz.prog 202 #[.pointer (some ⟨b,0,none⟩)] (grow (w.drewN m) os) fun e a=>e= .returned (.string s)∧∃p:GrownBy,a=grow (w.drewN p.n) p.os:=
 Calls.grown_of ((mn b q s c _ ((aq.of w m os).cap hT) (a_ h1 m os) (a_ h2 m os)).mono fun _ _ ⟨he,k,e⟩=>⟨he,k,#[],by rw[e,grow_empty]⟩)
theorem sn{w:World}{a a':Option Addr}{n b c c':Nat}{f d:Nat→Nat}(l:n≤1099511627776)(g:b≤1099511627776)(o:bj w a n f)(h:bj w a' b d)(q:0<n)(i:0<b)(h1:w.cell? ⟨f 0,1,none⟩=some .nilIface)(j:w.cell? ⟨d 0,1,none⟩=some .nilIface)(m:Nat)(os:Array Obj):
 Calls Tryz.prog 200 #[.slice a n c,.slice a' b c'] (grow (w.drewN m) os) fun e k=>e= .returned (.bool true)∧∃p:GrownBy,k=grow (w.drewN p.n) p.os:=
 Calls.grown_of ((zR a a' n b c c' f d _ l g (o.cC (aq.of w m os)) (h.cC (aq.of w m os)) q i (a_ h1 m os) (a_ j m os)).mono fun _ _ ⟨he,e⟩=>⟨he,0,#[],by rw[←e,grow_empty];rfl⟩)
theorem Aq(c b H:Nat)(x y st:Value)(w:World)(tb M n n' mc QC tc P7:Nat)(ma Qb ta Qc:Option Addr)(f f' tf Qd xt xb yt yb:Nat→Nat)(nm A:Nat→ByteArray)(q q':Nat→Option Addr)(rs:Nat→Bool)(Qe:st= .pointer none∨∃s,st= .pointer (some ⟨s,0,none⟩))(h1:w.cell? ⟨c,1,none⟩=some (.bool false))(h0:w.cell? ⟨c,0,none⟩=some (.bool false))
 (R:Calls Tryz.prog 114 #[x] w fun e J=>e= .returned (.iface 33 (.pointer (some ⟨b,0,none⟩)))∧w=J)(S:Calls Tryz.prog 114 #[y] w fun e J=>e= .returned (.iface 33 (.pointer (some ⟨H,0,none⟩)))∧w=J)
 (he:(binOp .eql 44 (.iface 33 (.pointer (some ⟨b,0,none⟩))) (.iface 33 (.pointer (some ⟨H,0,none⟩)))).run Tryz.prog w= .ok (.bool false) w)
 (hn:n≤1099511627776)(hT:bD w)(hS:fW w b H st)(hb:Plain w b)(Qf:Plain w H)
 (hk:w.cell? ⟨b,0,none⟩=some (.pointer none))(Qg:w.cell? ⟨H,0,none⟩=some (.pointer none))(h6:w.cell? ⟨b,6,none⟩=some (.pointer (some ⟨tb,0,none⟩)))(Qh:w.cell? ⟨H,6,none⟩=some (.pointer (some ⟨M,0,none⟩)))
 (h3:w.cell? ⟨tb,3,none⟩=some (.bool false))(Qi:w.cell? ⟨M,3,none⟩=some (.bool false))(ht:w.cell? ⟨tb,2,none⟩=some (.slice ta 1 tc))(Qj:w.cell? ⟨M,2,none⟩=some (.slice Qc 1 P7))
 (QD:bj w ta 1 tf)(u:bj w Qc 1 Qd)(Qk:w.cell? ⟨tf 0,1,none⟩=some .nilIface)(P4:w.cell? ⟨Qd 0,1,none⟩=some .nilIface)
 (hc:w.cell? ⟨tb,1,none⟩=some (.slice ma n mc))(Ql:w.cell? ⟨M,1,none⟩=some (.slice Qb n' QC))(hp:bj w ma n f)(Qm:bj w Qb n' f')
 (hm:∀i,i<n→w.cell? ⟨f i,2,none⟩=some (.string (nm i))∧aL (nm i)=true∧w.cell? ⟨f i,1,none⟩=some (.pointer (q i))∧w.cell? ⟨f i,3,none⟩=some (.iface (xt i) (.pointer (some ⟨xb i,0,none⟩))))
 (Qn:∀i,i<n'→w.cell? ⟨f' i,2,none⟩=some (.string (A i))∧aL (A i)=true∧w.cell? ⟨f' i,1,none⟩=some (.pointer (q' i))∧w.cell? ⟨f' i,3,none⟩=some (.iface (yt i) (.pointer (some ⟨yb i,0,none⟩))))
 (hP:n=n'→∀(W:World)(s:Nat),aq w W→W.cell? ⟨s,0,none⟩=some (.pointer (some ⟨b,0,none⟩))→W.cell? ⟨s,1,none⟩=some (.pointer (some ⟨H,0,none⟩))→W.cell? ⟨s,2,none⟩=some st→w.heap.size≤s→
  ∀i,i<n→dD c (.iface (xt i) (.pointer (some ⟨xb i,0,none⟩))) (.iface (yt i) (.pointer (some ⟨yb i,0,none⟩))) (.pointer (some ⟨s,0,none⟩)) (rs i) W):
 Calls Tryz.prog 174 #[.pointer (some ⟨c,0,none⟩),x,y,st] w fun e J=>e= .returned (.bool (decide (n=n')&&bu n (fK nm A rs)))∧aq w J:=by
 obtain⟨so,rfl⟩:∃so:Option Addr,st= .pointer so:=by rcases Qe with rfl|⟨s,rfl⟩<;>exact⟨_,rfl⟩
 clear Qe;have B:∀W,(Instr.typeAssert (.iface 33 (.pointer (some ⟨b,0,none⟩))) 44 105 true).run Tryz.prog W= .ok (.tuple #[.pointer none,.bool false]) W:=fun W=>by rw[bn,if_neg (by decide)]
 have C:∀W,(Instr.typeAssert (.iface 33 (.pointer (some ⟨b,0,none⟩))) 44 141 true).run Tryz.prog W= .ok (.tuple #[.pointer none,.bool false]) W:=fun W=>by rw[cw,if_neg (by decide)]
 have D:∀W,(Instr.typeAssert (.iface 33 (.pointer (some ⟨b,0,none⟩))) 44 143 true).run Tryz.prog W= .ok (.tuple #[.pointer none,.bool false]) W:=fun W=>by rw[asSlice,if_neg (by decide)]
 have z:∀W,(Instr.typeAssert (.iface 33 (.pointer (some ⟨b,0,none⟩))) 44 213 true).run Tryz.prog W= .ok (.tuple #[.pointer none,.bool false]) W:=fun W=>by rw[cJ,if_neg (by decide)]
 have p:∀W,(Instr.typeAssert (.iface 33 (.pointer (some ⟨b,0,none⟩))) 44 145 true).run Tryz.prog W= .ok (.tuple #[.pointer none,.bool false]) W:=fun W=>by rw[cy,if_neg (by decide)]
 have E:∀W,(Instr.typeAssert (.iface 33 (.pointer (some ⟨b,0,none⟩))) 44 109 true).run Tryz.prog W= .ok (.tuple #[.pointer none,.bool false]) W:=fun W=>by rw[asTuple,if_neg (by decide)]
 have l:∀W,(Instr.typeAssert (.iface 33 (.pointer (some ⟨b,0,none⟩))) 44 108 true).run Tryz.prog W= .ok (.tuple #[.pointer none,.bool false]) W:=fun W=>by rw[fH,if_neg (by decide)]
 have F:∀W,(Instr.typeAssert (.iface 33 (.pointer (some ⟨b,0,none⟩))) 44 189 true).run Tryz.prog W= .ok (.tuple #[.pointer none,.bool false]) W:=fun W=>by rw[gx,if_neg (by decide)]
 have m:∀W,(Instr.typeAssert (.iface 33 (.pointer (some ⟨b,0,none⟩))) 44 33 true).run Tryz.prog W= .ok (.tuple #[.pointer (some ⟨b,0,none⟩),.bool true]) W:=fun W=>by rw[dB,if_pos rfl]
 have ay:∀W,(Instr.typeAssert (.iface 33 (.pointer (some ⟨H,0,none⟩))) 44 33 true).run Tryz.prog W= .ok (.tuple #[.pointer (some ⟨H,0,none⟩),.bool true]) W:=fun W=>by rw[dB,if_pos rfl]
 have hL:=Lib.hid (gO b tb w hk h6);have T:=Lib.hid (gO H M w Qg Qh);have u:=Lib.hid (And.intro QD u);have g1:=a_ h3;have g2:=a_ Qi;have hq:=Lib.hid hp;have Qo:=Lib.hid Qm;have Qp:=Lib.hid hm;have Qq:=Lib.hid Qn;have P8:=Lib.hid hP;have Qr:=Lib.hid hT;have Qs:=Lib.hid hS;have QE:=Lib.hid hb;have Qt:=Lib.hid Qf;clear hp Qm hm Qn hP hT hS hb Qf hk Qg h6 Qh h3 Qi;by_cases P9:n=n'
 ·subst P9
  have QF:((n:Int)==(n:Int))=true:=by simp
  have QG:=Lib.hid (P8.out rfl);clear P8;go_enter Tryz.func174,Tryz.ntmps174;go_wp2_with fail
  refine R.mono ?_;rintro e J ⟨rfl,rfl⟩;go_wp2_with fail
  refine S.mono ?_;rintro e J ⟨rfl,rfl⟩;go_wp2_with fail
  refine hL.out.mono ?_;rintro e J ⟨rfl,rfl⟩;go_wp2_with fail
  refine T.out.mono ?_;rintro e J ⟨rfl,rfl⟩;go_wp2_with fail
  refine wp_region_quiet_grown (by kernel_rfl) (by kernel_rfl) ?_;repeat(go_big_quiet_step (fail))
  refine wpQuiet_nil ?_;intro _ o;obtain⟨⟨nq,osq⟩,d⟩:=o;subst d;have a:aq w (grow (w.drewN nq) osq):=aq.of _ _ _;have hE:=Lib.hid (sn (c:=tc) (c':=P7) (by decide) (by decide) (u.out.1.cC a) (u.out.2.cC a) Nat.one_pos Nat.one_pos (a.cell Qk) (a.cell P4));have u1:=a_ (a.cell ht);have u2:=a_ (a.cell Qj);have u3:=a.cell hc;have u4:=a.cell Ql;have N:=Lib.hid a;clear g1 g2 a hL T R S he B C D z p E l F m ay;generalize grow (w.drewN nq) osq=U at*;go_wp2_with fail
  refine wp_region_quiet_grown (by kernel_rfl) (by kernel_rfl) ?_;repeat(go_big_quiet_step (first|(go_at_call 200;with_reducible exact hE.out _ _)))
  refine wpQuiet_nil ?_;intro _ o;obtain⟨⟨nq,osq⟩,d⟩:=o;subst d;have O:=N.out.trans (aq.of U nq osq);have v3:=(aq.of U nq osq).cell u3;have v4:=(aq.of U nq osq).cell u4;have r:=Lib.hid O;clear hE u1 u2 u3 u4 O;generalize grow (U.drewN nq) osq=Q at*;go_wp2_with fail
  go_loopw [3] (fun v wr=>fW wr b H v∧aq Q wr∧wr.cell? ⟨Q.heap.size,0,none⟩=some (.pointer (some ⟨b,0,none⟩))∧wr.cell? ⟨Q.heap.size,1,none⟩=some (.pointer (some ⟨H,0,none⟩))∧wr.cell? ⟨Q.heap.size,2,none⟩=some (.pointer so)) (fun v _=>kJ v)
  case atStart=>exact⟨(Qs.out.cC r.out).cC (aq.alloc _ _),aq.alloc _ _,by simp[go_sem],by simp[go_sem],by simp[go_sem]⟩
  case round=>
   obtain⟨QH,V,k0,k1,k2⟩:=hrel;have I:=Lib.hid V;have z3:=V.cell v3;have z4:=V.cell v4;clear V;cases QH with
   |nil=>
    go_wp2_with fail
    go_loopw [468] (fun i wx=> ∃k:Nat,k≤n∧i= .int .i64 k∧aq w wx∧wx.cell? ⟨Q.heap.size,0,none⟩=some (.pointer (some ⟨b,0,none⟩))∧wx.cell? ⟨Q.heap.size,1,none⟩=some (.pointer (some ⟨H,0,none⟩))∧wx.cell? ⟨Q.heap.size,2,none⟩=some (.pointer so)∧∀j,j<k→fK nm A rs j=true) (fun i _=>n- (intOf i).toNat)
    case atStart=>exact⟨0,Nat.zero_le _,rfl,r.out.trans I.out,k0,k1,k2,fun j hj=>absurd hj (Nat.not_lt_zero _)⟩
    case round=>
     obtain⟨k,hk,rfl,hG,m0,m1,m2,hA⟩:=hrel;have g:=Lib.hid hG;have Qu:=Lib.hid hA;clear hG hA;by_cases t:k<n
     ·have P5:(k:Int)<n:=by omega
      obtain⟨ab,ao,rfl,K⟩:=hq.out k t;obtain⟨QK,QL,rfl,P6⟩:=Qo.out k t;have hr:=g.out.cell K;have QM:=g.out.cell P6;obtain⟨y2,yB,y1,y3⟩:=Qp.out k t;obtain⟨Qv,Qw,Qx,Qy⟩:=Qq.out k t;have g3:=a_ (g.out.cell y3);have g4:=a_ (g.out.cell Qy);have P_:=Lib.hid (sm yB (g.out.cap Qr.out) (g.out.cell y1) (g.out.cell y2));have Qa:=Lib.hid (sm Qw (g.out.cap Qr.out) (g.out.cell Qx) (g.out.cell Qv));have P:=Lib.hid (QG.out _ Q.heap.size g.out m0 m1 m2 r.out.size k t);clear K P6 y2 yB y1 y3 Qv Qw Qx Qy;cases Qz:((nm k).toList==(A k).toList)
      ·have X:=Lib.hid Qz
       have hF:Hid (bu n (fK nm A rs)=false):=jP (i:=k) t (by unfold fK;rw[X.out];rfl);go_wp2_with fail
       refine wp_region_quiet_grown (by kernel_rfl) (by kernel_rfl) ?_;repeat(go_big_quiet_step (first|(go_at_call 202;first|with_reducible exact P_.out _ _|with_reducible exact Qa.out _ _)|(go_at_call 174;with_reducible exact P.out.at _ _)))
       refine wpQuiet_nil ?_;intro _ o;obtain⟨⟨nq,osq⟩,d⟩:=o;subst d;go_wp2_with fail
       go_ret;exact⟨by rw[hF.out];simp,g.out.trans (aq.of _ _ _)⟩
      ·have X:=Lib.hid Qz
       cases Y:rs k
       ·have K:=Lib.hid Y
        rw[Y]at P;have hF:Hid (bu n (fK nm A rs)=false):=jP (i:=k) t (by unfold fK;rw[X.out,K.out];rfl);go_wp2_with fail
        refine wp_region_quiet_grown (by kernel_rfl) (by kernel_rfl) ?_;repeat(go_big_quiet_step (first|(go_at_call 202;first|with_reducible exact P_.out _ _|with_reducible exact Qa.out _ _)|(go_at_call 174;with_reducible exact P.out.at _ _)))
        refine wpQuiet_nil ?_;intro _ o;obtain⟨⟨nq,osq⟩,d⟩:=o;subst d;go_wp2_with fail
        go_ret;exact⟨by rw[hF.out];simp,g.out.trans (aq.of _ _ _)⟩
       ·have K:=Lib.hid Y
        rw[Y]at P;go_wp2_with fail
        refine wp_region_quiet_grown (by kernel_rfl) (by kernel_rfl) ?_;repeat(go_big_quiet_step (first|(go_at_call 202;first|with_reducible exact P_.out _ _|with_reducible exact Qa.out _ _)|(go_at_call 174;with_reducible exact P.out.at _ _)))
        refine wpQuiet_nil ?_;intro _ o;obtain⟨⟨nq,osq⟩,d⟩:=o;subst d;go_wp2_with fail
        refine⟨⟨k+1,by omega,by go_num,g.out.trans (aq.of _ _ _),a_ m0 _ _,a_ m1 _ _,a_ m2 _ _,fun j hj=> ?_⟩,?_⟩
        ·rcases Nat.lt_succ_iff_lt_or_eq.1 hj with h|rfl
         ·exact Qu.out j h
         ·unfold fK;rw[X.out,K.out];rfl
        ·first|omega|(simp[intOf];omega)
     ·have QN:¬(k:Int)<n:=by omega
      have hF:Hid (bu n (fK nm A rs)=true):=jO fun i hi=>Qu.out i (by omega);go_wp2_with fail
      go_ret;exact⟨by rw[hF.out];simp,g.out⟩
   |cons e0 e1 e2 p1 p2 QA QB t G=>
    rename_i s x0 y0 q0;have QI:=Lib.hid (zT s Q.heap.size x0 y0 b H wr e0 e1 k0 k1 p1 p2 ((r.out.trans I.out).plain QE.out) ((r.out.trans I.out).plain Qt.out) QA QB);have Z:=Lib.hid G;have P5:=Lib.hid t;have QJ:=G.shape;clear p1 p2 QA QB G t;go_wp2_with fail
    refine QI.out.mono ?_;rintro e wz ⟨rfl,nz,rfl⟩;have L:Hid (aq wr (wr.drewN nz)):=aq.drewN _ _;have f2:=L.out.cell e2;rcases QJ with rfl|⟨s',rfl⟩
    all_goals
     go_wp2_with fail
     refine⟨⟨Z.out.cC L.out,I.out.trans L.out,L.out.cell k0,L.out.cell k1,L.out.cell k2⟩,?_⟩;have:=P5.out;simp at this⊢;try omega
 ·have QF:((n:Int)==(n':Int))=false:=by simp;omega
  have hd:Hid (decide (n=n')=false):=by simp[Hid,P9]
  clear P9 P8 Qp Qq hq Qo Qs;go_enter Tryz.func174,Tryz.ntmps174;go_wp2_with fail
  refine R.mono ?_;rintro e J ⟨rfl,rfl⟩;go_wp2_with fail
  refine S.mono ?_;rintro e J ⟨rfl,rfl⟩;go_wp2_with fail
  refine hL.out.mono ?_;rintro e J ⟨rfl,rfl⟩;go_wp2_with fail
  refine T.out.mono ?_;rintro e J ⟨rfl,rfl⟩;go_wp2_with fail
  refine wp_region_quiet_grown (by kernel_rfl) (by kernel_rfl) ?_;repeat(go_big_quiet_step (fail))
  refine wpQuiet_nil ?_;intro _ o;obtain⟨⟨nq,osq⟩,d⟩:=o;subst d;have a:aq w (grow (w.drewN nq) osq):=aq.of _ _ _;have hE:=Lib.hid (sn (c:=tc) (c':=P7) (by decide) (by decide) (u.out.1.cC a) (u.out.2.cC a) Nat.one_pos Nat.one_pos (a.cell Qk) (a.cell P4));have u1:=a_ (a.cell ht);have u2:=a_ (a.cell Qj);have u3:=a.cell hc;have u4:=a.cell Ql;have N:=Lib.hid a;clear g1 g2 a hL T R S he B C D z p E l F m ay;generalize grow (w.drewN nq) osq=U at*;go_wp2_with fail
  refine wp_region_quiet_grown (by kernel_rfl) (by kernel_rfl) ?_;repeat(go_big_quiet_step (first|(go_at_call 200;with_reducible exact hE.out _ _)))
  refine wpQuiet_nil ?_;intro _ o;obtain⟨⟨nq,osq⟩,d⟩:=o;subst d;have O:=N.out.trans (aq.of U nq osq);have v3:=(aq.of U nq osq).cell u3;have v4:=(aq.of U nq osq).cell u4;have r:=Lib.hid O;clear hE u1 u2 u3 u4 O;generalize grow (U.drewN nq) osq=Q at*;go_wp2_with fail
  go_ret;exact⟨by rw[hd.out];rfl,r.out⟩
end Go.Proofs.YtgbklbbknehefaaGreatDoor
namespace TS
open Go Go.RowKit Go.Proofs.YtgbklbbknehefaaGreatDoor
structure jk(p:Pm)(g:Ge)(c:Nat)(w:World):Prop where
 kw:KW p w
 pl:∀b o v,p b o=some v→Plain w b
 inj:kH g
 cap:bD w
 c0:w.cell? ⟨c,0,none⟩=some (.bool false)
 c1:w.cell? ⟨c,1,none⟩=some (.bool false)
 done:∀b u,g.G b=some u→p b 0=some (.pointer none)∧cv p g b u
 po:∀i,i<g.len→∃o v,p (g.ob i) o=some v
 cD:∃o v,p g.eo o=some v
 cE:∃o v,p g.co o=some v
theorem jk.cC{p:Pm}{g:Ge}{c:Nat}{w a:World}(h:jk p g c w)(k:aq w a):jk p g c a:=
 ⟨k.kw h.kw,fun b o v d=>k.plain (h.pl b o v d),h.inj,k.cap h.cap,k.cell h.c0,k.cell h.c1,h.done,h.po,h.cD,h.cE⟩
inductive eY (g:Ge) (w:World) (n m:Nat):Value→Prop
 |nil:eY g w n m (.pointer none)
 |cons {s x y:Nat} {u v:U} {q:Value}:w.cell? ⟨s,0,none⟩=some (ptr x)→w.cell? ⟨s,1,none⟩=some (ptr y)→w.cell? ⟨s,2,none⟩=some q→g.G x=some u→g.G y=some v→n<u.sz→m<v.sz→kJ q<s+1→eY g w n m q→eY g w n m (ptr s)
theorem eY.mono{g:Ge}{w:World}{n m a b:Nat}{q:Value}(h:eY g w n m q)(f:a≤n)(hm:b≤m):eY g w a b q:=by
 induction h with
 |nil=>exact .nil
 |cons h1 h2 h3 c d i h7 e _ ih=>exact .cons h1 h2 h3 c d (by omega) (by omega) e ih
theorem eY.cC{g:Ge}{w a:World}{n m:Nat}{q:Value}(h:eY g w n m q)(k:aq w a):eY g a n m q:=by
 induction h with
 |nil=>exact .nil
 |cons h1 h2 h3 b c d h7 e _ ih=>exact .cons (k.cell h1) (k.cell h2) (k.cell h3) b c d h7 e ih
theorem eY.shape{g:Ge}{w:World}{n m:Nat}{q:Value}(h:eY g w n m q):q= .pointer none∨∃s,q= .pointer (some ⟨s,0,none⟩):=by
 cases h with
 |nil=>exact .inl rfl
 |cons=>exact .inr ⟨_,rfl⟩
end TS
namespace Go.Proofs.YtgbklbbknehefaaGreatDoor
open Go.RowKit TS
theorem oG(k:Int):bM (ba k):=by
 unfold ba;repeat' split
 ·exact zB
 ·exact zC
 ·exact zD
 ·exact zE
 ·exact zF
 ·exact zG
 ·exact zH
 ·exact zI
 ·exact kO
 ·exact sc
 ·exact zJ
theorem mw(t b:Nat)(x:Value)(p:Pm)(d:t≠139)(a:x=ae t b∨AC p x (ae t b))(w:World)(hw:KW p w):
 Calls Tryz.prog 114 #[x] w fun e f=>e= .returned (.iface t (.pointer (some ⟨b,0,none⟩)))∧w=f:=by
 rcases a with rfl|a
 ·exact ep t _ d w
 ·obtain⟨c,rfl,h3⟩:=a.start
  exact xP c t _ w (hw _ _ _ h3)
end Go.Proofs.YtgbklbbknehefaaGreatDoor
namespace TS
open Go Go.RowKit Go.Proofs.YtgbklbbknehefaaGreatDoor
theorem mx{a b c:U}(h:a.nm.toList=b.nm.toList):bh a c=bh b c:=by unfold bh;rw[h]
theorem sq{a b c:U}(h:a.nm.toList=b.nm.toList):bh c a=bh c b:=by unfold bh;rw[h]
theorem Ar:∀{l r:List U},dy l→dy r→l.length=r.length→(∀m∈r,∃f∈l,f.nm.toList=m.nm.toList)→∀(i:Nat)(h:i<l.length)(q:i<r.length),l[i].nm.toList=r[i].nm.toList:=by
 intro l;induction l with
 |nil=>intro r _ _ _ _ i h;simp at h
 |cons a l ih=>
  intro r u hr s hm;match r,hr,s,hm with
  |b::r,hr,s,hm=>
   have j:=List.pairwise_cons.1 u;have g:=List.pairwise_cons.1 hr;have k:a.nm.toList=b.nm.toList:=by
    obtain⟨f,d,e⟩:=hm b List.mem_cons_self;rcases List.mem_cons.1 d with rfl|d
    ·exact e
    ·exfalso
     have n:bh a b=true:=by rw[←sq e];exact j.1 f d
     have o:∀m∈b::r,∃f∈l,f.nm.toList=m.nm.toList:=fun m c=>by
      obtain⟨f,d,e⟩:=hm m c;rcases List.mem_cons.1 d with rfl|d
      ·exfalso
       have:bh f m=true:=by
        rcases List.mem_cons.1 c with rfl|c
        ·exact n
        ·exact gi n (g.1 m c)
       rw[mx e,g_]at this;cases this
      ·exact⟨f,d,e⟩
     have hnd:((b::r).map fun m=>m.nm.toList).Nodup:=List.pairwise_map.2 (hr.noTwo.imp fun{x y} p e=>by rw[fN.2 e]at p;cases p);have:=lD hnd (r:=l.map fun m=>m.nm.toList) fun x v=>by
      obtain⟨m,c,rfl⟩:=List.mem_map.1 v;obtain⟨f,d,e⟩:=o m c;rw[←e];exact List.mem_map_of_mem d
     simp at this s;omega
   have t:=ih j.2 g.2 (by simpa using s) fun m c=>by
    obtain⟨f,d,e⟩:=hm m (List.mem_cons_of_mem _ c);rcases List.mem_cons.1 d with rfl|d
    ·exfalso
     have:=g.1 m c;rw[←mx k,mx e,g_]at this;cases this
    ·exact⟨f,d,e⟩
   intro i h q;match i,h,q with
   |0,_,_=>exact k
   |i+1,h,q=>exact t i (by simpa using h) (by simpa using q)
theorem As{l r:List U}(o:dy l)(hr:dy r)(s:l.length=r.length){rs:Nat→Bool}(c:∀(i:Nat)(h:i<l.length)(t:i<r.length),rs i=aE l[i] r[i])
 {nm d:Nat→ByteArray}(h1:∀(i:Nat)(h:i<l.length),nm i=l[i].nm)(h2:∀(i:Nat)(h:i<r.length),d i=r[i].nm):bu l.length (fK nm d rs)=hasB l r:=by
 rw[Bool.eq_iff_iff];constructor
 ·intro ha
  unfold hasB;rw[List.all_eq_true];intro m hm;obtain⟨i,hi,rfl⟩:=List.getElem_of_mem hm;have a:i<l.length:=by omega
  unfold bu at ha;rw[List.all_eq_true]at ha;have:=ha i (List.mem_range.2 a);unfold fK at this;rw[h1 i a,h2 i hi,c i a hi,Bool.and_eq_true]at this;rw[List.any_eq_true];exact⟨l[i],List.getElem_mem a,by rw[fN.2 (by simpa using this.1),this.2];rfl⟩
 ·intro k
  unfold hasB at k;rw[List.all_eq_true]at k;have hex:∀m∈r,∃f∈l,f.nm.toList=m.nm.toList∧aE f m=true:=fun m hm=>by
   obtain⟨f,g,h⟩:=List.any_eq_true.1 (k m hm);rw[Bool.and_eq_true]at h;exact⟨f,g,fN.1 h.1,h.2⟩
  have b:=Ar o hr s fun m hm=>let⟨f,g,e,_⟩:=hex m hm;⟨f,g,e⟩;refine jO fun i hi=> ?_;have a:i<r.length:=by omega
  unfold fK;rw[h1 i hi,h2 i a,c i hi a,b i hi a];obtain⟨f,g,e,hid⟩:=hex r[i] (List.getElem_mem a);obtain⟨j,p,rfl⟩:=List.getElem_of_mem g;have n:j=i:=by
   have q:=List.pairwise_iff_getElem.1 o;rcases Nat.lt_trichotomy j i with h|h|h
   ·have:=q j i p hi h
    rw[mx (e.trans (b i hi a).symm),g_]at this;cases this
   ·exact h
   ·have:=q i j hi p h
    rw[sq (e.trans (b i hi a).symm),g_]at this;cases this
  subst n;simp[hid]
theorem my{len:Nat}:∀{u:U}{pos f:Nat},Pl len u pos f→f≤2→f≠0→u.k≠12→u.k≠13→∀m∈aj u,aL m.nm=true:=by
 intro u;induction u using U.bg with
 |_ u ih=>
  intro pos f h n d g i m hm;obtain⟨q,o,l,b,hk,p⟩:=h.under n d g i;obtain⟨c,hm⟩:=gI hm;rcases hm with hm|⟨e,he,a,hm⟩
  ·exact(b.ij c hm).2.1
  ·have j:=b.elem c he
   have h1:=U.au (List.mem_of_mem_drop he);have h2:=dp u;unfold aT at a;simp only[Bool.and_eq_true,bne_iff_ne,ne_eq]at a;exact ih e (by omega) j (by omega) (by omega) a.1.1 a.1.2 m hm
theorem Vt.my{len:Nat}{u:U}(h:Vt len u)(b:u.k=10){m:U}(hm:m∈aj u):aL m.nm=true:=by
 obtain⟨f,e,g⟩:=h.pl;obtain⟨f1,c,a,d⟩:=g.iq e b;exact TS.my d c a (by omega) (by omega) m hm
theorem Vt.sr{len:Nat}{u:U}(h:Vt len u)(b:u.k=10):dy (aj u):=by
 obtain⟨f,e,g⟩:=h.pl;obtain⟨f1,c,a,d⟩:=g.iq e b;exact ja d c a (by omega) (by omega)
theorem AC.val{p:Pm}{x y:Value}(h:AC p x y):∃t b,x=ae t b:=by obtain⟨b,rfl,_⟩:=h.start;exact⟨_,_,rfl⟩
theorem Node.val{p:Pm}{g:Ge}{u:U}{x:Value}(h:Node p g u x):∃t b,x=ae t b:=by
 induction h with
 |alias _ h _ _=>exact h.val
 |any _ _ ih=>exact ih
 |basic=>exact⟨_,_,rfl⟩
 |array=>exact⟨_,_,rfl⟩
 |slice=>exact⟨_,_,rfl⟩
 |struct=>exact⟨_,_,rfl⟩
 |pointer=>exact⟨_,_,rfl⟩
 |func=>exact⟨_,_,rfl⟩
 |map=>exact⟨_,_,rfl⟩
 |chan=>exact⟨_,_,rfl⟩
 |iface=>exact⟨_,_,rfl⟩
 |gm=>exact⟨_,_,rfl⟩
 |named=>exact⟨_,_,rfl⟩
 |union=>exact⟨_,_,rfl⟩
 |err=>exact⟨_,_,rfl⟩
 |comp=>exact⟨_,_,rfl⟩
theorem Node.plain{p:Pm}{g:Ge}{c:Nat}{w:World}{u:U}{t b:Nat}(a:jk p g c w)(h:Node p g u (ae t b))(h2:u.k≠2)(d:u.k≠14):Plain w b:=by
 cases h with
 |alias h _ _=>exact absurd h h2
 |any h _=>exact absurd h d
 |basic _ h=>exact a.pl _ _ _ h
 |array _ _ h _ _=>exact a.pl _ _ _ h
 |slice _ _ h _=>exact a.pl _ _ _ h
 |struct _ h=>exact a.pl _ _ _ h
 |pointer _ _ h _=>exact a.pl _ _ _ h
 |func _ _ h=>exact a.pl _ _ _ h
 |map _ _ h _ _ _=>exact a.pl _ _ _ h
 |chan _ _ h _ _=>exact a.pl _ _ _ h
 |iface _ h=>exact a.pl _ _ _ (a.done _ _ h).1
 |gm _ _ _ _ h=>exact a.pl _ _ _ h
 |named _ _ _ _ h=>exact a.pl _ _ _ h
 |union _ h=>exact a.pl _ _ _ h
 |err _ _ h=>exact a.pl _ _ _ h
 |comp _ h=>exact a.pl _ _ _ h
theorem Au{u v:U}(h:(bare u).k≠(bare v).k):aE u v=false:=by
 by_cases a:(bare u).k=10
 ·rw[jz a,show((bare v).k==10)=false by simp;omega];rfl
 ·rw[jA a,show((bare u).k==(bare v).k)=false by simpa using h];rfl
end TS
namespace Go.Proofs.YtgbklbbknehefaaGreatDoor
open Go.RowKit TS Go.Sort
def Av(len:Nat)(p:Pm)(g:Ge)(c:Nat)(u:U):Prop:=
 ∀(v:U)(x y st:Value)(w:World),jk p g c w→Vt len u→Vt len v→TS.Node p g u x→TS.Node p g v y→eY g w u.sz v.sz st→
  Calls Tryz.prog 174 #[.pointer (some ⟨c,0,none⟩),x,y,st] w fun e a=>e= .returned (.bool (aE u v))∧aq w a
theorem Aw{p:Pm}{g:Ge}{c:Nat}{w:World}{u v:U}{b j:Nat}{st:Value}(d:jk p g c w)(k:g.G b=some u)(f:g.G j=some v)(h:eY g w u.sz v.sz st):fW w b j st:=by
 induction h with
 |nil=>exact .nil
 |cons h1 h2 h3 a i n h7 l _ ih=>
  refine .cons h1 h2 h3 (d.pl _ _ _ (d.done _ _ a).1) (d.pl _ _ _ (d.done _ _ i).1) (fun e=> ?_) (fun e m=> ?_) l ih
  ·subst e;rw[k]at a;cases a;omega
  ·subst e;subst m;rw[f]at a;rw[k]at i;cases a;cases i;omega
theorem oH{p:Pm}{w:World}{v:Value}{n:Nat}{f:Nat→Nat}(h:dS p v n f)(hw:KW p w):(n=0∧v= .pointer none)∨(0<n∧∃tb a c,v= .pointer (some ⟨tb,0,none⟩)∧p tb 0=some (.slice a n c)∧w.cell? ⟨tb,0,none⟩=some (.slice a n c)∧bj w a n f):=by
 rcases h with h|⟨h1,tb,a,c,h2,h3,_,d⟩
 ·exact .inl h
 ·refine .inr ⟨h1,tb,a,c,h2,h3,hw _ _ _ h3,fun i hi=> ?_⟩
  obtain⟨b,o,e,g⟩:=d i hi;exact⟨b,o,e,hw _ _ _ g⟩
theorem fL{p:Pm}{w:World}{a:Option Addr}{n:Nat}{f:Nat→Nat}(h:bK p a n fun i=>ptr (f i))(hw:KW p w):bj w a n f:=fun i hi=>let⟨b,o,e,c⟩:=h i hi;⟨b,o,e,hw _ _ _ c⟩
theorem ss(p:Pm)(c n j:Nat)(v C st:Value)(f D E F G H:Nat→Nat)(rs:Nat→Bool)(w:World)(h:KW p w)(k:∀b o v,p b o=some v→Plain w b)(h1:w.cell? ⟨c,1,none⟩=some (.bool false))(m:st= .pointer none∨∃s,st= .pointer (some ⟨s,0,none⟩))(L:n≤1099511627776)
 (M:dS p v n f)(x:dS p C j D)(N:∀i,i<n→p (f i) 3=some (.iface (E i) (.pointer (some ⟨F i,0,none⟩))))(O:∀i,i<j→p (D i) 3=some (.iface (G i) (.pointer (some ⟨H i,0,none⟩))))
 (P:n=j→∀i,i<n→dD c (.iface (E i) (.pointer (some ⟨F i,0,none⟩))) (.iface (G i) (.pointer (some ⟨H i,0,none⟩))) st (rs i) w)(q:v=C→n=j→∀i,i<n→rs i=true):
 Calls Tryz.prog 174 #[.pointer (some ⟨c,0,none⟩),.iface 109 v,.iface 109 C,st] w fun e y=>e= .returned (.bool (decide (n=j)&&bu n rs))∧aq w y:=by
 rcases oH M h with⟨rfl,rfl⟩|⟨Q,tb,a,J,rfl,l,K,R⟩
 ·rcases oH x h with⟨rfl,rfl⟩|⟨z,g,a',r,rfl,d,u,A⟩
  ·refine(id_eq c _ _ st 109 0 (.pointer none) w (ep _ _ (by decide) w) (ep _ _ (by decide) w) (sj w none)).mono ?_
   rintro e y ⟨rfl,rfl⟩;exact⟨by simp[bu],aq.refl _⟩
  ·refine(Al c g j r a' st w m h1 z u).mono ?_
   rintro e y ⟨rfl,rfl⟩;have:decide (0=j)=false:=by simp;omega
   exact⟨by rw[this];rfl,aq.refl _⟩
 ·rcases oH x h with⟨rfl,rfl⟩|⟨z,g,a',r,rfl,d,u,A⟩
  ·refine(Am c tb n J a st w m h1 Q K).mono ?_
   rintro e y ⟨rfl,rfl⟩;have:decide (n=0)=false:=by simp;omega
   exact⟨by rw[this];rfl,aq.refl _⟩
  ·by_cases B:tb=g
   ·subst B
    have I:n=j:=by rw[l]at d;cases d;rfl
    subst I;have he:=oC (t:=109) (t':=109) mq w tb tb (k _ _ _ l) (k _ _ _ l);refine(id_eq c _ _ st 109 0 (.pointer (some ⟨tb,0,none⟩)) w (ep _ _ (by decide) w) (ep _ _ (by decide) w) (by simpa using he)).mono ?_;rintro e y ⟨rfl,rfl⟩;have:=jO (q rfl rfl);exact⟨by rw[this];simp,aq.refl _⟩
   ·have he:=oC (t:=109) (t':=109) mq w tb g (k _ _ _ l) (k _ _ _ d)
    have S:decide (109=109∧tb=g)=false:=by simp[B]
    rw[S]at he;exact Aj c tb g n j J r a a' f D E F G H rs st w m h1 he L K u R A (fun i hi=>h _ _ _ (N i hi)) (fun i hi=>h _ _ _ (O i hi)) P
theorem kQ{k:Int}(h1:1≤k)(h2:k≤16)(h3:k≠2)(a:k≠12)(b:k≠13)(c:k≠14):k=1∨k=3∨k=4∨k=5∨k=6∨k=7∨k=8∨k=9∨k=10∨(k=11∨k=15∨k=16):=by omega
theorem eZ{e:Ending}{w a:World}{r b:Bool}(h:e= .returned (.bool r)∧w=a)(hr:r=b):e= .returned (.bool b)∧aq w a:=⟨by rw[←hr];exact h.1,by rw[h.2];exact aq.refl _⟩
theorem mz{u v e f:U}(h2:u.k≠2)(b:u.k≠14)(c:v.k≠2)(a:v.k≠14)(d:u.k≠10)(hk:v.k=u.k)(he:u.es= [e])(g:v.es= [f]):aE u v=(aX u v&&aE e f):=by
 rw[ji h2 b c a d,hk,he,g];simp
theorem su{u v:U}(h2:u.k≠2)(b:u.k≠14)(c:v.k≠2)(a:v.k≠14)(d:u.k≠10)(he:u.es= [])(e:v.es= []):aE u v=(u.k==v.k&&aX u v):=by
 rw[ji h2 b c a d,he,e];simp
theorem oI{l r:List U}(b:l.length=r.length)(F:U→U→Bool):((l.zip r).all fun(e,f)=>F e f)=bu l.length fun i=>F (l.getD i default) (r.getD i default):=by
 rw[Bool.eq_iff_iff,jd];constructor
 ·intro h
  exact jO fun i hi=>by
   have:=h i hi (by omega);simpa [hi,show i<r.length by omega]using this
 ·intro h i hi a
  unfold bu at h;rw[List.all_eq_true]at h;have:=h i (List.mem_range.2 hi);simpa [hi,a]using this
theorem sv{n:Nat}{r b:Nat→Bool}(h:∀i,i<n→r i=b i):bu n r=bu n b:=by
 unfold bu;rw[Bool.eq_iff_iff,List.all_eq_true,List.all_eq_true];exact⟨fun a i hi=>by rw[←h i (List.mem_range.1 hi)];exact a i hi,fun a i hi=>by rw[h i (List.mem_range.1 hi)];exact a i hi⟩
theorem Ax{n m:Nat}(hm:m≤n)(r:Nat→Bool):bu n r=(bu m r&&bu (n- m) fun i=>r (m+i)):=by
 rw[Bool.eq_iff_iff,Bool.and_eq_true];unfold bu;simp only[List.all_eq_true,List.mem_range];constructor
 ·exact fun h=>⟨fun i hi=>h i (by omega),fun i hi=>h (m+i) (by omega)⟩
 ·intro⟨h1,h2⟩ i hi
  by_cases a:i<m
  ·exact h1 i a
  ·have:=h2 (i- m) (by omega)
   rwa [show m+(i- m)=i by omega]at this
theorem Ay{n:Nat}(r s:Nat→Bool):bu n (fun i=>r i&&s i)=(bu n r&&bu n s):=by
 rw[Bool.eq_iff_iff,Bool.and_eq_true];unfold bu;simp only[List.all_eq_true,List.mem_range,Bool.and_eq_true];exact⟨fun h=>⟨fun i hi=>(h i hi).1,fun i hi=>(h i hi).2⟩,fun⟨h1,h2⟩ i hi=>⟨h1 i hi,h2 i hi⟩⟩
theorem Az{u v:U}(hk:u.k=7)(b:v.k=7)(hm:0≤u.m∧u.m.toNat≤u.es.length)(e:0≤v.m∧v.m.toNat≤v.es.length)(rs:Nat→Bool)(c:∀i,i<u.es.length→i<v.es.length→rs i=aE (u.es.getD i default) (v.es.getD i default)):
 aE u v=((u.v==v.v)&&((decide (u.m.toNat=v.m.toNat)&&bu u.m.toNat rs)&&(decide (u.es.length- u.m.toNat=v.es.length- v.m.toNat)&&bu (u.es.length- u.m.toNat) fun i=>aE (u.es.getD (u.m.toNat+i) default) (v.es.getD (v.m.toNat+i) default)))):=by
 rw[ji (by omega) (by omega) (by omega) (by omega) (by omega),hk,b];have f:aX u v=(u.m==v.m&&u.v==v.v):=by unfold aX;rw[if_neg (by omega),if_pos hk]
 rw[f];by_cases a:u.m=v.m
 ·by_cases d:u.es.length=v.es.length
  ·rw[oI d,Ax (n:=u.es.length) hm.2,a,d]
   have g:bu v.m.toNat (fun i=>aE (u.es.getD i default) (v.es.getD i default))=bu v.m.toNat rs:=sv fun i hi=>(c i (by omega) (by omega)).symm;rw[g];simp
  ·have h1:decide (u.es.length=v.es.length)=false:=by simp[d]
   have h2:decide (u.es.length- u.m.toNat=v.es.length- v.m.toNat)=false:=by simp;omega
   rw[h1,h2];simp
 ·have h1:(u.m==v.m)=false:=by simp[a]
  have h2:decide (u.m.toNat=v.m.toNat)=false:=by simp;omega
  rw[h1,h2];simp
theorem AA{u v:U}(hk:u.k=5)(a:v.k=5)(rs:Nat→Bool)(b:∀i,i<u.es.length→i<v.es.length→rs i=aE (u.es.getD i default) (v.es.getD i default)):
 aE u v=(decide (u.es.length=v.es.length)&&bu u.es.length (fJ (fun i=>(u.es.getD i default).tg) (fun i=>(v.es.getD i default).tg) (fun i=>(u.es.getD i default).nm) (fun i=>(v.es.getD i default).nm) rs)):=by
 rw[ji (by omega) (by omega) (by omega) (by omega) (by omega),hk,a];by_cases c:u.es.length=v.es.length
 ·have d:aX u v=bu u.es.length fun i=>decide ((u.es.getD i default).nm.toList=(v.es.getD i default).nm.toList)&&decide ((u.es.getD i default).tg.toList=(v.es.getD i default).tg.toList):=by
   unfold aX;rw[if_neg (by omega),if_neg (by omega),if_pos hk];exact oI c fun e f=>decide (e.nm.toList=f.nm.toList)&&decide (e.tg.toList=f.tg.toList)
  rw[d,oI c,←Ay];simp only[beq_self_eq_true,Bool.true_and];congr 1;refine sv fun i hi=> ?_;unfold fJ;rw[b i hi (by omega)];have b1:((u.es.getD i default).tg.toList==(v.es.getD i default).tg.toList)=decide ((u.es.getD i default).tg.toList=(v.es.getD i default).tg.toList):=by rw[Bool.eq_iff_iff];simp
  have g:((u.es.getD i default).nm.toList==(v.es.getD i default).nm.toList)=decide ((u.es.getD i default).nm.toList=(v.es.getD i default).nm.toList):=by rw[Bool.eq_iff_iff];simp
  rw[b1,g];cases decide ((u.es.getD i default).tg.toList=(v.es.getD i default).tg.toList)<;>cases decide ((u.es.getD i default).nm.toList=(v.es.getD i default).nm.toList)<;>rfl
 ·have h1:decide (u.es.length=v.es.length)=false:=by simp[c]
  rw[h1];simp
theorem kR{n:Nat}{xs:Nat→Value}(h:∀i,i<n→∃t b,xs i=ae t b):∃(c d:Nat→Nat),∀i,i<n→xs i=ae (c i) (d i):=
 ⟨fun i=>match xs i with| .iface t _=>t|_=>0,fun i=>match xs i with| .iface _ (.pointer (some a))=>a.block|_=>0,fun i hi=>by obtain⟨t,b,e⟩:=h i hi;simp[e]⟩
theorem _root_.TS.dS.shape{p:Pm}{v:Value}{n:Nat}{f:Nat→Nat}(h:dS p v n f):∃a,v= .pointer a:=by
 rcases h with⟨_,rfl⟩|⟨_,tb,_,_,rfl,_⟩<;>exact⟨_,rfl⟩
theorem _root_.TS.Form.sw{len:Nat}{u:U}{pos f:Nat}(h:TS.Form len u pos f)(hk:u.k=3):0≤u.n:=by
 cases h with
 |one _ h _=>exact h
 |pre a _=>omega
 |ptr a _ _ _=>omega
 |_=>omega
theorem _root_.TS.Form.AB{len:Nat}{u:U}{pos f:Nat}(h:TS.Form len u pos f)(hk:u.k=5):∀e∈u.es,aL e.nm=true:=by
 cases h with
 |struct _ h _=>exact h
 |pre a _=>omega
 |one a _ _=>omega
 |ptr a _ _ _=>omega
 |_=>omega
theorem sy{p:Pm}{g:Ge}{l:List U}{f:Nat→Nat}(h:∀i(h:i<l.length),cL p g l[i] (f i)):
 ∃(a:Nat→Nat)(b:Nat→Option Addr),∀i(hi:i<l.length),p (f i) 1=some (.pointer (b i))∧p (f i) 2=some (.string l[i].nm)∧p (f i) 3=some (ae 108 (a i))∧TS.Node p g l[i] (ae 108 (a i)):=
 ⟨fun i=>if hi:i<l.length then(h i hi).choose else 0,fun i=>if hi:i<l.length then(h i hi).choose_spec.1.choose else none,fun i hi=>by
  simp only[hi,dite_true];exact⟨(h i hi).choose_spec.1.choose_spec,(h i hi).choose_spec.2⟩⟩
theorem sA{p:Pm}{g:Ge}{c:Nat}{w:World}{u:U}{t b:Nat}(d:jk p g c w)(h:TS.Node p g u (ae t b))(hk:u.k=11∨u.k=15∨u.k=16):
 ∃o,p b 1=some (ptr o)∧Plain w o∧(u.k=11→o=g.ob u.n.toNat∧u.n.toNat<g.len∧0≤u.n)∧(u.k=15→o=g.eo)∧(u.k=16→o=g.co):=by
 rcases hk with h1|h1|h1
 ·obtain⟨e,j,i,f,_⟩:=h.iu h1
  cases e;obtain⟨_,_,a⟩:=d.po _ i;exact⟨_,f,d.pl _ _ _ a,fun _=>⟨rfl,i,j⟩,fun h=>by omega,fun h=>by omega⟩
 ·obtain⟨e,_,f,_⟩:=h.jK h1
  cases e;obtain⟨_,_,a⟩:=d.cD;exact⟨_,f,d.pl _ _ _ a,fun h=>by omega,fun _=>rfl,fun h=>by omega⟩
 ·obtain⟨e,f,_⟩:=h.kF h1
  cases e;obtain⟨_,_,a⟩:=d.cE;exact⟨_,f,d.pl _ _ _ a,fun h=>by omega,fun h=>by omega,fun _=>rfl⟩
theorem c_{t t' a b:Nat}(h:ae t a=ae t' b):a=b:=by cases h;rfl
theorem AD(len:Nat)(p:Pm)(g:Ge)(c:Nat):∀u,Av len p g c u:=by
 intro u;induction u using U.bg with
 |_ u ih=>
  intro v x y st w l hu hv Qm Qn hS;obtain⟨b,hn,ht,hx⟩:=hu.strip Qm;obtain⟨K,kn,kt,hy⟩:=hv.strip Qn;have B:=mw _ b x p ht hx w l.kw;have C:=mw _ K y p kt hy w l.kw;have E:=hS.shape;rw[←ru (iv hu) (iv hv)];obtain⟨G,u2,u14,hs⟩:=hu.bare;obtain⟨I,v2,O,Qw⟩:=hv.bare;have Qg:=hS.mono hs Qw;have Qo:=hn.plain l u2 u14;have Qp:=kn.plain l v2 O;have he:=oC (t:=ba (bare u).k) (t':=ba (bare v).k) (oG _) w b K Qo Qp;have Qx:ba (bare u).k=ba (bare v).k→b=K→aE (bare u) (bare v)=true:=fun P Q=>rz l.inj G I hn (by rw[P,Q];exact kn);have T:∀e f,e.sz<u.sz→f.sz≤v.sz→Vt len e→Vt len f→∀xe yf,TS.Node p g e xe→TS.Node p g f yf→dD c xe yf st (aE e f) w:=fun e f h1 h2 h3 S xe yf h5 h6 n os=>
   ih e h1 f xe yf st _ (l.cC (aq.of w n os)) h3 S h5 h6 ((hS.mono (by omega) h2).cC (aq.of w n os))
  have Qq:=(hn.tag u2 u14).2;have Q4:=(kn.tag v2 O).2;have Qd:=G.aA;have QX:=I.aA;have Qh:=iv hu;have Qe:=iv hv;clear Qm Qn hx hy hS hu hv;generalize bare u=D at*;generalize bare v=q at*;by_cases L:ba D.k=ba q.k∧b=K
  ·have hd:decide (ba D.k=ba q.k∧b=K)=true:=by simp[L]
   rw[hd]at he;rw[←L.1,←L.2]at he C;refine(id_eq c x y st _ 0 _ w B C he).mono ?_;intro e w' h;exact eZ h (Qx L.1 L.2).symm
  ·have hd:decide (ba D.k=ba q.k∧b=K)=false:=by simp only[decide_eq_false_iff_not];exact L
   rw[hd]at he;have Qr:=kQ Qq.1 Qq.2 u2 Qd.1 Qd.2 u14;by_cases J:ba D.k=ba q.k
   ·rcases Qr with h|h|h|h|h|h|h|h|h|h
    ·have A:q.k=1:=by rw[←h];exact(dT J (by omega) (by omega)).symm
     obtain⟨b1,P,h1⟩:=hn.jf h;obtain⟨b2,Q,h2⟩:=kn.jf A;cases c_ P;cases c_ Q;obtain⟨_,hf⟩:=G.form;obtain⟨_,R⟩:=I.form;have hr:((D.n+1)==(q.n+1))=aE D q:=by
      rw[su u2 u14 v2 O (by omega) (hf.lens (by omega)) (R.lens (by omega)),h,A];unfold aX;rw[if_pos (by omega)];rw[Bool.eq_iff_iff];simp
     rw[h]at B he;rw[A]at C he;rw[←hr];exact Ae c b K x y st w (D.n+1) (q.n+1) E l.c1 l.c0 B C he (l.kw _ _ _ h1) (l.kw _ _ _ h2)
    ·have A:q.k=3:=by rw[←h];exact(dT J (by omega) (by omega)).symm
     obtain⟨b1,e,z,P,M,h1,h3,n1⟩:=hn.jg h;obtain⟨b2,f,z',Q,N,h2,S,n2⟩:=kn.jg A;cases c_ P;cases c_ Q;obtain⟨_,hf⟩:=G.form;obtain⟨_,R⟩:=I.form;obtain⟨V,X,rfl⟩:=n1.val;obtain⟨Y,Z,rfl⟩:=n2.val;have s1:=U.au (u:=D) (e:=e) (by rw[M];simp);have s2:=U.au (u:=q) (e:=f) (by rw[N];simp);rw[mz u2 u14 v2 O (by omega) (by omega) M N,show aX D q=(D.n==q.n) by unfold aX;rw[if_pos (by omega)]];rw[h]at B he;rw[A]at C he;exact Af c b K x y st w D.n q.n (hf.sw h) (R.sw A) V X Y Z _ E l.c1 l.c0 B C he (l.kw _ _ _ h1) (l.kw _ _ _ h2) (l.kw _ _ _ h3) (l.kw _ _ _ S) (T e f (by omega) (by omega) (G.one (by omega) M) (I.one (by omega) N) _ _ n1 n2)
    ·have A:q.k=4:=by rw[←h];exact(dT J (by omega) (by omega)).symm
     obtain⟨b1,e,z,P,M,h3,n1⟩:=hn.kE h;obtain⟨b2,f,z',Q,N,S,n2⟩:=kn.kE A;cases c_ P;cases c_ Q;obtain⟨V,X,rfl⟩:=n1.val;obtain⟨Y,Z,rfl⟩:=n2.val;have s1:=U.au (u:=D) (e:=e) (by rw[M];simp);have s2:=U.au (u:=q) (e:=f) (by rw[N];simp);rw[mz u2 u14 v2 O (by omega) (by omega) M N,show aX D q=true by unfold aX;rw[if_neg (by omega),if_neg (by omega),if_neg (by omega)],Bool.true_and];rw[h]at B he;rw[A]at C he;exact Ab c b K x y st w V X Y Z _ E l.c1 l.c0 B C he (l.kw _ _ _ h3) (l.kw _ _ _ S) (T e f (by omega) (by omega) (G.one (by omega) M) (I.one (by omega) N) _ _ n1 n2)
    ·have A:q.k=5:=by rw[←h];exact(dT J (by omega) (by omega)).symm
     obtain⟨b1,a,a',d,d',f,xs,P,h1,h2,q1,q2,h3,S,h5,h6⟩:=hn.jh h;obtain⟨b2,a2,Qy,r,r',f',ys,Q,k1,k2,Q5,Q6,k3,k4,k5,k6⟩:=kn.jh A;cases c_ P;cases c_ Q;have Qz:∀i,i<D.es.length→∃t b,xs i=ae t b:=fun i hi=>(h6 i hi).val;have QA:∀i,i<q.es.length→∃t b,ys i=ae t b:=fun i hi=>(k6 i hi).val;obtain⟨V,X,P6⟩:=kR Qz;obtain⟨Y,Z,P7⟩:=kR QA;obtain⟨_,hf⟩:=G.form;have Qc:=hf.AB h;rw[AA h A (fun i=>aE (D.es.getD i default) (q.es.getD i default)) (fun _ _ _=>rfl)];rw[h]at B he;rw[A]at C he;refine Ap c b K x y st w D.es.length q.es.length d r d' r' a a2 a' Qy f f' V X Y Z _ _ _ _ (fun _=>some ⟨g.pk,0,none⟩) _ E l.c1 l.c0 B C he q2 l.cap (l.kw _ _ _ h1) (l.kw _ _ _ k1) (fL h3 l.kw) (fL k3 l.kw) (l.kw _ _ _ h2) (l.kw _ _ _ k2) ?_ ?_ ?_ ?_ ?_
     ·intro i hi
      obtain⟨b0,o,e,hc⟩:=S i hi;exact⟨b0,o,e,by simpa [hi]using l.kw _ _ _ hc⟩
     ·intro i hi
      obtain⟨b0,o,e,hc⟩:=k4 i hi;exact⟨b0,o,e,by simpa [hi]using l.kw _ _ _ hc⟩
     ·intro i hi
      obtain⟨p1,p2,p3,p5⟩:=h5 i hi;refine⟨by simpa [hi]using l.kw _ _ _ p2,by simpa [hi]using Qc _ (List.getElem_mem hi),l.kw _ _ _ p5,by have:=l.kw _ _ _ p3;rw[P6 i hi]at this;exact this⟩
     ·intro i hi
      obtain⟨p1,p2,p3,p5⟩:=k5 i hi;refine⟨by simpa [hi]using l.kw _ _ _ p2,l.kw _ _ _ p1,l.kw _ _ _ p5,by have:=l.kw _ _ _ p3;rw[P7 i hi]at this;exact this⟩
     ·intro P8 i hi
      have F:i<q.es.length:=by omega
      have s1:=U.au (List.getElem_mem hi);have s2:=U.au (List.getElem_mem F);have:=T D.es[i] q.es[i] (by omega) (by omega) (G.part (by omega) hi) (I.part (by omega) F) _ _ (h6 i hi) (k6 i F);rw[P6 i hi,P7 i F]at this;simpa [hi,F]using this
    ·have A:q.k=6:=by rw[←h];exact(dT J (by omega) (by omega)).symm
     obtain⟨b1,e,z,P,M,h3,n1⟩:=hn.lY h;obtain⟨b2,f,z',Q,N,S,n2⟩:=kn.lY A;cases c_ P;cases c_ Q;obtain⟨V,X,rfl⟩:=n1.val;obtain⟨Y,Z,rfl⟩:=n2.val;have s1:=U.au (u:=D) (e:=e) (by rw[M];simp);have s2:=U.au (u:=q) (e:=f) (by rw[N];simp);rw[mz u2 u14 v2 O (by omega) (by omega) M N,show aX D q=true by unfold aX;rw[if_neg (by omega),if_neg (by omega),if_neg (by omega)],Bool.true_and];rw[h]at B he;rw[A]at C he;exact Ac c b K x y st w V X Y Z _ E l.c1 l.c0 B C he (l.kw _ _ _ h3) (l.kw _ _ _ S) (T e f (by omega) (by omega) (G.one (by omega) M) (I.one (by omega) N) _ _ n1 n2)
    ·have A:q.k=7:=by rw[←h];exact(dT J (by omega) (by omega)).symm
     obtain⟨b1,pv,rv,f,xs,P,⟨hm,QY⟩,h1,h2,h3,S,h5,h6,h7⟩:=hn.jJ h;obtain⟨b2,Q7,Q8,f',ys,Q,⟨km,QZ⟩,k1,k2,k3,k4,k5,k6,k7⟩:=kn.jJ A;cases c_ P;cases c_ Q;obtain⟨V,X,P6⟩:=kR fun i hi=>(h7 i hi).val;obtain⟨Y,Z,P7⟩:=kR fun i hi=>(k7 i hi).val;obtain⟨_,hf⟩:=G.form;obtain⟨_,R⟩:=I.form;obtain⟨pa,rfl⟩:=S.shape;obtain⟨QB,rfl⟩:=k4.shape;obtain⟨ra,rfl⟩:=h5.shape;obtain⟨QC,rfl⟩:=k5.shape;have P9:∀i j,i<D.es.length→j<q.es.length→dD c (.iface (V i) (.pointer (some ⟨X i,0,none⟩))) (.iface (Y j) (.pointer (some ⟨Z j,0,none⟩))) st (aE (D.es.getD i default) (q.es.getD j default)) w:=fun i j hi F=>by
      have s1:=U.au (List.getElem_mem hi);have s2:=U.au (List.getElem_mem F);have:=T D.es[i] q.es[j] (by omega) (by omega) (G.part (by omega) hi) (I.part (by omega) F) _ _ (h7 i hi) (k7 j F);rw[P6 i hi,P7 j F]at this;simpa [hi,F]using this
     have P5:∀i j,i<D.es.length→j<q.es.length→f i=f' j→aE (D.es.getD i default) (q.es.getD j default)=true:=fun i j hi F e=>by
      have g1:=h6 i hi;have g2:=k6 j F;rw[←e,g1]at g2;have:=rz l.inj (G.part (by omega) hi) (I.part (by omega) F) (h7 i hi) (by rw[Option.some.inj g2];exact k7 j F);simpa [hi,F]using this
     rw[Az h A (hf.l9 h) (R.l9 A) (fun i=>aE (D.es.getD i default) (q.es.getD i default)) (fun _ _ _=>rfl)];rw[h]at B he;rw[A]at C he;refine An c b K x y st w pa QB ra QC _ _ _ _ E l.c1 l.c0 B C he (l.kw _ _ _ h3) (l.kw _ _ _ k3) (l.kw _ _ _ h1) (l.kw _ _ _ k1) (l.kw _ _ _ h2) (l.kw _ _ _ k2) ?_ ?_
     ·intro n os
      have hk:=aq.of w n os;have P4:=l.cC hk
      exact ss p c D.m.toNat q.m.toNat _ _ st f f' V X Y Z _ _ P4.kw P4.pl P4.c1 E (by omega) S k4 (fun i hi=>by have:=h6 i (by omega);rw[P6 i (by omega)]at this;exact this) (fun i hi=>by have:=k6 i (by omega);rw[P7 i (by omega)]at this;exact this)
       (fun P8 i hi=>(P9 i i (by omega) (by omega)).cC hk) fun hv P8 i hi=>P5 i i (by omega) (by omega) (by rw[hv]at S;exact(S.unique k4).2 i hi)
     ·intro n os
      have hk:=aq.of w n os;have P4:=l.cC hk
      refine ss p c (D.es.length- D.m.toNat) (q.es.length- q.m.toNat) _ _ st (fun i=>f (D.m.toNat+i)) (fun i=>f' (q.m.toNat+i)) (fun i=>V (D.m.toNat+i)) (fun i=>X (D.m.toNat+i)) (fun i=>Y (q.m.toNat+i)) (fun i=>Z (q.m.toNat+i)) _ _ P4.kw P4.pl P4.c1 E (by omega) h5 k5
       (fun i hi=>by have:=h6 (D.m.toNat+i) (by omega);rw[P6 _ (by omega)]at this;exact this) (fun i hi=>by have:=k6 (q.m.toNat+i) (by omega);rw[P7 _ (by omega)]at this;exact this) (fun P8 i hi=> ?_) fun hv P8 i hi=> ?_
      ·exact(P9 _ _ (by omega) (by omega)).cC hk
      ·rw[hv]at h5
       exact P5 _ _ (by omega) (by omega) ((h5.unique k5).2 i hi)
    ·have A:q.k=8:=by rw[←h];exact(dT J (by omega) (by omega)).symm
     obtain⟨b1,d,e,y1,z1,P,M,h1,h3,n1,n2⟩:=hn.lZ h;obtain⟨b2,d',e',Q9,Q_,Q,N,h2,S,n3,n4⟩:=kn.lZ A;cases c_ P;cases c_ Q;obtain⟨V,X,rfl⟩:=n1.val;obtain⟨QD,QE,rfl⟩:=n2.val;obtain⟨Y,Z,rfl⟩:=n3.val;obtain⟨QF,QG,rfl⟩:=n4.val;have s1:=U.au (u:=D) (e:=d) (by rw[M];simp);have s2:=U.au (u:=q) (e:=d') (by rw[N];simp);have s3:=U.au (u:=D) (e:=e) (by rw[M];simp);have s4:=U.au (u:=q) (e:=e') (by rw[N];simp);have w1:=G.part (i:=0) (by omega) (by rw[M];simp);have w2:=G.part (i:=1) (by omega) (by rw[M];simp);have w3:=I.part (i:=0) (by omega) (by rw[N];simp);have w4:=I.part (i:=1) (by omega) (by rw[N];simp);simp only[M,N,List.getElem_cons_zero,List.getElem_cons_succ]at w1 w2 w3 w4;have hr:aE D q=(aE d d'&&aE e e'):=by
      rw[ji u2 u14 v2 O (by omega),h,A,M,N,show aX D q=true by unfold aX;rw[if_neg (by omega),if_neg (by omega),if_neg (by omega)]];simp
     rw[hr];rw[h]at B he;rw[A]at C he;exact Ah c b K x y st w V X Y Z QD QE QF QG _ _ E l.c1 l.c0 B C he (l.kw _ _ _ h1) (l.kw _ _ _ h2) (l.kw _ _ _ h3) (l.kw _ _ _ S) (T d d' (by omega) (by omega) w1 w3 _ _ n1 n3) (T e e' (by omega) (by omega) w2 w4 _ _ n2 n4)
    ·have A:q.k=9:=by rw[←h];exact(dT J (by omega) (by omega)).symm
     obtain⟨b1,e,z,P,M,h1,h3,n1⟩:=hn.l8 h;obtain⟨b2,f,z',Q,N,h2,S,n2⟩:=kn.l8 A;cases c_ P;cases c_ Q;obtain⟨_,hf⟩:=G.form;obtain⟨_,R⟩:=I.form;obtain⟨V,X,rfl⟩:=n1.val;obtain⟨Y,Z,rfl⟩:=n2.val;have s1:=U.au (u:=D) (e:=e) (by rw[M];simp);have s2:=U.au (u:=q) (e:=f) (by rw[N];simp);have QH:(D.n==q.n)=(eU D.n==eU q.n):=by
      rw[Bool.eq_iff_iff];simp only[beq_iff_eq];exact⟨fun e=>by rw[e],fun e=>ry (hf.l_ h) (R.l_ A) e⟩
     rw[mz u2 u14 v2 O (by omega) (by omega) M N,show aX D q=(D.n==q.n) by unfold aX;rw[if_pos (by omega)],QH];rw[h]at B he;rw[A]at C he;exact Ag c b K x y st w (eU D.n) (eU q.n) V X Y Z _ E l.c1 l.c0 B C he (l.kw _ _ _ h1) (l.kw _ _ _ h2) (l.kw _ _ _ h3) (l.kw _ _ _ S) (T e f (by omega) (by omega) (G.one (by omega) M) (I.one (by omega) N) _ _ n1 n2)
    ·have A:q.k=10:=by rw[←h];exact(dT J (by omega) (by omega)).symm
     obtain⟨b1,P,hG⟩:=hn.gN h;obtain⟨b2,Q,kG⟩:=kn.gN A;cases c_ P;cases c_ Q;obtain⟨ck,tb,ma,mc,f,ta,tc,ts,cmp,q6,q0,q1,qn,qm,qr,qf,q2,Ra,Rb,⟨tf,tr,tt⟩,q3,tok,_⟩:=l.done _ _ hG;obtain⟨QI,QJ,QK,QL,f',QM,QN,Rc,Q3,r6,r0,r1,rn,rm,rr,rf,r2,Re,Rg,⟨QO,QP,QQ⟩,r3,Qs,_⟩:=l.done _ _ kG;obtain⟨rfl,rfl⟩:=tok.gen G.val.gen;obtain⟨rfl,rfl⟩:=Qs.gen I.val.gen;obtain⟨sb,qs,Qt⟩:=sy qf;obtain⟨QR,QS,Qf⟩:=sy rf;have hr:aE D q=(decide ((aj D).length=(aj q).length)&&bu (aj D).length (fK (fun i=>((aj D).getD i default).nm) (fun i=>((aj q).getD i default).nm) (fun i=>aE ((aj D).getD i default) ((aj q).getD i default)))):=by
      rw[jz (by rw[Qh];exact h),Qh,Qe,G.val.gen,I.val.gen,A];by_cases hl:(aj D).length=(aj q).length
      ·rw[As (G.sr h) (I.sr A) hl (rs:=fun i=>aE ((aj D).getD i default) ((aj q).getD i default)) (fun i hi F=>by simp[hi,F]) (fun i hi=>by simp[hi]) (fun i hi=>by simp[hi])]
       simp
      ·have:decide ((aj D).length=(aj q).length)=false:=by simp[hl]
       rw[this];simp
     rw[hr];rw[h]at B he;rw[A]at C he
     refine Aq c b K x y st w tb QJ (aj D).length (aj q).length mc QL tc QN ma QK ta QM f f' tf QO (fun _=>108) sb (fun _=>108) QR _ _ qs QS _ E l.c1 l.c0 B C he (by omega) l.cap (Aw l hG kG Qg) Qo Qp
      (l.kw _ _ _ ck) (l.kw _ _ _ QI) (l.kw _ _ _ q6) (l.kw _ _ _ r6) (l.kw _ _ _ q3) (l.kw _ _ _ r3) (l.kw _ _ _ q2) (l.kw _ _ _ r2) (fL tr l.kw) (fL QP l.kw) (l.kw _ _ _ (tt 0 (by simp))) (l.kw _ _ _ (QQ 0 (by simp)))
      (l.kw _ _ _ q1) (l.kw _ _ _ r1) (fL qr l.kw) (fL rr l.kw) ?_ ?_ ?_
     ·intro i hi
      obtain⟨p1,p2,p3,_⟩:=Qt i hi;exact⟨by simpa [hi]using l.kw _ _ _ p2,by simpa [hi]using G.my h (List.getElem_mem hi),l.kw _ _ _ p1,l.kw _ _ _ p3⟩
     ·intro i hi
      obtain⟨p1,p2,p3,_⟩:=Qf i hi;exact⟨by simpa [hi]using l.kw _ _ _ p2,by simpa [hi]using I.my A (List.getElem_mem hi),l.kw _ _ _ p1,l.kw _ _ _ p3⟩
     ·intro P8 W s hW k0 k1 k2 Rh i hi n os
      have F:i<(aj q).length:=by omega
      have z1:=jy (List.getElem_mem hi);have z2:=jy (List.getElem_mem F);have hk:=hW.trans (aq.of W n os);have Qi:=aq.of W n os;have QT:kJ st<s+1:=by
       rcases E with rfl|⟨s0,rfl⟩
       ·simp
       ·cases Qg with
        |cons c0=>have:=World.block_lt_of_cell? _ _ c0;simp at this⊢;omega
      have:=ih (aj D)[i] (by omega) (aj q)[i] _ _ (.pointer (some ⟨s,0,none⟩)) _ (l.cC hk) (G.b4 h (List.getElem_mem hi)).1 (I.b4 A (List.getElem_mem F)).1 (Qt i hi).2.2.2 (Qf i F).2.2.2
       (.cons (Qi.cell k0) (Qi.cell k1) (Qi.cell k2) hG kG z1 z2 QT ((Qg.mono (by omega) (by omega)).cC hk))
      simpa [hi,F]using this
    ·have Qu:q.k=11∨q.k=15∨q.k=16:=by
      by_cases Qv:q.k=11∨q.k=15∨q.k=16
      ·exact Qv
      ·have:=dT J.symm ⟨v2,O,by omega,by omega,by omega,by omega,by omega,by omega,by omega⟩ ⟨u2,u14,by omega,by omega⟩
       omega
     have hT:ba D.k=66:=by rcases h with e|e|e<;>rw[e]<;>rfl
     have QU:ba q.k=66:=by rw[←J];exact hT
     obtain⟨o,ho,po,Qj,Qk,Ql⟩:=sA l hn h;obtain⟨o',QV,QW,P_,Qa,Qb⟩:=sA l kn Qu;obtain⟨_,hf⟩:=G.form;obtain⟨_,R⟩:=I.form;have hr:decide (o=o')=aE D q:=by
      rw[su u2 u14 v2 O (by omega) (hf.lens (by omega)) (R.lens (by omega)),Bool.eq_iff_iff];simp only[decide_eq_true_eq,Bool.and_eq_true,beq_iff_eq];rcases h with h1|h1|h1<;>rcases Qu with h2|h2|h2
      ·obtain⟨x1,x2,x3⟩:=Qj h1
       obtain⟨y1,y2,y3⟩:=P_ h2;rw[show aX D q=(D.n==q.n) by unfold aX;rw[if_pos (by omega)]];constructor
       ·intro e
        have:=l.inj.ob _ _ x2 y2 (by rw[←x1,←y1];exact e);exact⟨by rw[h1,h2],by simp;omega⟩
       ·intro⟨_,e⟩
        rw[x1,y1,show D.n=q.n by simpa using e]
      ·obtain⟨x1,x2,_⟩:=Qj h1
       exact⟨fun e=>absurd (by rw[←x1,e];exact Qa h2) (l.inj.oe _ x2),fun⟨e,_⟩=>by omega⟩
      ·obtain⟨x1,x2,_⟩:=Qj h1
       exact⟨fun e=>absurd (by rw[←x1,e];exact Qb h2) (l.inj.oc _ x2),fun⟨e,_⟩=>by omega⟩
      ·obtain⟨x1,x2,_⟩:=P_ h2
       exact⟨fun e=>absurd (by rw[←x1,←e];exact Qk h1) (l.inj.oe _ x2),fun⟨e,_⟩=>by omega⟩
      ·rw[Qk h1,Qa h2,h1,h2];simp[aX,h1]
      ·exact⟨fun e=>absurd (by rw[←Qk h1,e];exact Qb h2) l.inj.ac,fun⟨e,_⟩=>by omega⟩
      ·obtain⟨x1,x2,_⟩:=P_ h2
       exact⟨fun e=>absurd (by rw[←x1,←e];exact Ql h1) (l.inj.oc _ x2),fun⟨e,_⟩=>by omega⟩
      ·exact⟨fun e=>absurd (by rw[←Qa h2,←e];exact Ql h1) l.inj.ac,fun⟨e,_⟩=>by omega⟩
      ·rw[Ql h1,Qb h2,h1,h2];simp[aX,h1]
     rw[←hr];rw[hT]at B he;rw[QU]at C he;exact Ai c b K x y st w o o' E l.c1 l.c0 B C he (l.kw _ _ _ ho) (l.kw _ _ _ QV) po QW
   ·have hr:aE D q=false:=Au (by rw[Qh,Qe];intro e;rw[e]at J;exact J rfl)
    rw[hr];have H:ba q.k≠ba D.k:=fun e=>J e.symm;rcases Qr with h|h|h|h|h|h|h|h|h|h
    all_goals
     first
      |(rw[h]at B he H)
      |(rcases h with h|h|h<;>rw[h]at B he H)
    ·exact(zU c b K _ x y st w E kt H l.c1 B C he).mono fun e w' h=>eZ h rfl
    ·exact(zV c b K _ x y st w E kt H l.c1 B C he).mono fun e w' h=>eZ h rfl
    ·exact(zW c b K _ x y st w E kt H l.c1 B C he).mono fun e w' h=>eZ h rfl
    ·exact(zX c b K _ x y st w E kt H l.c1 B C he).mono fun e w' h=>eZ h rfl
    ·exact(zY c b K _ x y st w E kt H l.c1 B C he).mono fun e w' h=>eZ h rfl
    ·exact(zZ c b K _ x y st w E kt H l.c1 B C he).mono fun e w' h=>eZ h rfl
    ·exact(z_ c b K _ x y st w E kt H l.c1 B C he).mono fun e w' h=>eZ h rfl
    ·exact(Aa c b K _ x y st w E kt H l.c1 B C he).mono fun e w' h=>eZ h rfl
    ·exact(z8 c b K _ x y st w E kt H l.c1 B C he).mono fun e w' h=>eZ h rfl
    ·exact(oE c b K _ x y st w E kt H l.c1 B C he).mono fun e w' h=>eZ h rfl
    ·exact(oE c b K _ x y st w E kt H l.c1 B C he).mono fun e w' h=>eZ h rfl
    ·exact(oE c b K _ x y st w E kt H l.c1 B C he).mono fun e w' h=>eZ h rfl
end Go.Proofs.YtgbklbbknehefaaGreatDoor
