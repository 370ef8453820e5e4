import Derived.Test.YtkochlhejabdcaaGreatDoorYas
set_option maxRecDepth 100000
set_option maxHeartbeats 8000000
set_option linter.all false
namespace TS
open Go Go.RowKit Go.Sort Go.Proofs.Tryz
def bK(n:Nat)(r:Nat→Bool):Bool:=(List.range n).all r
theorem lr{n:Nat}{r:Nat→Bool}(h:∀i,i<n→r i=true):bK n r=true:=by unfold bK;rw[List.all_eq_true];intro i hi;exact h i (List.mem_range.1 hi)
theorem lu{n:Nat}{r:Nat→Bool}{i:Nat}(hi:i<n)(h:r i=false):bK n r=false:=by
 rw[Bool.eq_false_iff];intro ha;unfold bK at ha;rw[List.all_eq_true]at ha;rw[ha i (List.mem_range.2 hi)]at h;cases h
theorem bJ.dD{w c:World}{a:Option Addr}{n:Nat}{f:Nat→Nat}(h:bJ w a n f)(k:aB w c):bJ c a n f:=fun i hi=>let⟨b,o,e,d⟩:=h i hi;⟨b,o,e,k.cell d⟩
end TS
namespace Go.Proofs.YtkochlhejabdcaaGreatDoor
open Go.RowKit TS Go.Sort Tryz
theorem CM(c b G n v W H:Nat)(a a':Option Addr)(f X Y Z yt yb:Nat→Nat)(rs:Nat→Bool)(st:Value)(w:World)(PI:st= .pointer none∨∃s,st=Xp s)(h1:Xc w c 1 (.bool false))
 (he:(binOp .eql 49 (Xi 109 b) (Xi 109 G)).run Tryz.prog w= .ok (.bool false) w)(hn:n≤1099511627776)
 (hc:Xc w b 0 (.slice a n W))(I:Xc w G 0 (.slice a' v H))(hp:bJ w a n f)(J:bJ w a' v X)
 (hx:∀i,i<n→Xc w (f i) 3 (.iface (Y i) (Xp (Z i))))(hy:∀i,i<v→Xc w (X i) 3 (.iface (yt i) (Xp (yb i))))
 (hP:n=v→∀i,i<n→ej c (.iface (Y i) (Xp (Z i))) (.iface (yt i) (Xp (yb i))) st (rs i) w):
 Xk 75 #[Xp c,Xi 109 b,Xi 109 G,st] w fun e x=>e= .returned (.bool (decide (n=v)&&bK n rs))∧aB w x:=by
 have p:=ak bG 109 b zd;have q:=ak cT 109 b zd;have r:=ak asSlice 109 b zd;have l:=ak di 109 b zd;have g:=ak cU 109 b zd;have t:=bk asTuple b;have ay:=bk asTuple G;have A:=zh (fF 109 (Xp b) zd w);have B:=zh (fF 109 (Xp G) zd w);have R:=zh (mI b n W a w hc);have C:=zh (mI G v H a' w I);have hq:=zh hp;have K:=zh J;have L:=zh hx;have M:=zh hy;have D:=zh hP;clear hp J hx hy hP;by_cases E:n=v
 ·subst E
  have S:((n:Int)==(n:Int))=true:=zs;have T:=zh (D.out rfl);clear D;go_enter func75,ntmps75;go_wp2_with fail
  refine A.out.mono ?_;rintro e x ⟨rfl,rfl⟩;go_wp2_with fail
  refine B.out.mono ?_;rintro e x ⟨rfl,rfl⟩;go_wp2_with fail
  refine R.out.mono ?_;rintro e x ⟨rfl,rfl⟩;go_wp2_with fail
  refine C.out.mono ?_;rintro e x ⟨rfl,rfl⟩;go_wp2_with fail
  clear A B R C he p q r l g t ay;have hw:Hid (aB w w):=aB.refl w;go_loopw [303] (fun i wr=> ∃k:Nat,k≤n∧i= .int .i64 k∧aB w wr∧∀j,j<k→rs j=true) (fun i _=>n- (intOf i).toNat)
  case atStart=>exact⟨0,Nat.zero_le _,rfl,hw.out,fun j U=>absurd U (Nat.not_lt_zero _)⟩
  case round=>
   obtain⟨k,hk,rfl,Q,hA⟩:=hrel;have d:=zh Q;have N:=zh hA;have PJ:=Q.cell hc;have PG:=Q.cell I;clear Q hA;by_cases m:k<n
   ·have PH:(k:Int)<n:=zo
    obtain⟨ab,ao,rfl,O⟩:=hq.out k m;obtain⟨PK,PL,rfl,z⟩:=K.out k m;have hr:=d.out.cell O;have PM:=d.out.cell z;have hv:=d.out.cell (L.out k m);have V:=d.out.cell (M.out k m);have g1:=bp hv;have g2:=bp V;have y:=zh ((T.out k m).dD d.out);clear O z;cases o:rs k
    ·have hF:Hid (bK n rs=false):=lu m o
     rw[o]at y;clear o;go_wp2_with fail
     refine wp_region_quiet_grown zk zk ?_;repeat(go_big_quiet_step (first|(go_at_call 75;with_reducible exact y.out.at _ _)))
     refine wpQuiet_nil ?_;intro _ F;obtain⟨⟨nq,osq⟩,u⟩:=F;subst u;go_wp2_with fail
     go_ret;exact⟨by rw[hF.out];simp,d.out.trans (aB.of _ _ _)⟩
    ·rw[o]at y
     have P:=zh o;clear o;go_wp2_with fail
     refine wp_region_quiet_grown zk zk ?_;repeat(go_big_quiet_step (first|(go_at_call 75;with_reducible exact y.out.at _ _)))
     refine wpQuiet_nil ?_;intro _ F;obtain⟨⟨nq,osq⟩,u⟩:=F;subst u;go_wp2_with fail
     refine⟨⟨k+1,by omega,by go_num,d.out.trans (aB.of _ _ _),fun j U=> ?_⟩,?_⟩
     ·rcases Nat.lt_succ_iff_lt_or_eq.1 U with h|rfl
      ·exact N.out j h
      ·exact P.out
     ·first|omega|(simp[intOf];omega)
   ·have PN:¬(k:Int)<n:=zo
    have hT:Hid (bK n rs=true):=lr fun i hi=>N.out i zo;go_wp2_with fail
    go_ret;exact⟨by rw[hT.out];simp,d.out⟩
 ·have S:((n:Int)==(v:Int))=false:=zp
  have hd:Hid (decide (n=v)=false):=by simp[Hid,E]
  clear E D L M hq K;go_enter func75,ntmps75;go_wp2_with fail
  refine A.out.mono ?_;rintro e x ⟨rfl,rfl⟩;go_wp2_with fail
  refine B.out.mono ?_;rintro e x ⟨rfl,rfl⟩;go_wp2_with fail
  refine R.out.mono ?_;rintro e x ⟨rfl,rfl⟩;go_wp2_with fail
  refine C.out.mono ?_;rintro e x ⟨rfl,rfl⟩;go_wp2_with fail
  go_ret;exact⟨by rw[hd.out];rfl,aB.refl _⟩
theorem vb(W:World)(v:Option Addr):(binOp .eql 49 (.iface 109 (.pointer none)) (.iface 109 (.pointer v))).run Tryz.prog W= .ok (.bool v.isNone) W:=by
 obtain⟨e,i,j,b,hi,a,f,g⟩:=ot;have c:∀d,(Op.equalIn (d+2) 49 (.iface 109 (.pointer none)) (.iface 109 (.pointer v))).run Tryz.prog W= .ok v.isNone W:=fun d=>by simp[Op.equalIn,run_underlying underlying49,run_underlying b,typeInfo,hi,a]
 simp only[binOp];simp[Op.equal,Op.maxDepth,c 9998]
theorem CN(W:World)(a:Addr):(binOp .eql 49 (.iface 109 (.pointer (some a))) (.iface 109 (.pointer none))).run Tryz.prog W= .ok (.bool false) W:=by
 obtain⟨f,i,j,c,hi,b,g,h⟩:=ot;have e:∀d,(Op.equalIn (d+2) 49 (.iface 109 (.pointer (some a))) (.iface 109 (.pointer none))).run Tryz.prog W= .ok false W:=fun d=>by simp[Op.equalIn,run_underlying underlying49,run_underlying c,typeInfo,hi,b]
 simp only[binOp];simp[Op.equal,Op.maxDepth,e 9998]
theorem id_eq(c:Nat)(x y st:Value)(t b:Nat)(v:Value)(w:World)(d:Xk 125 #[x] w fun e a=>e= .returned (.iface t v)∧w=a)(f:Xk 125 #[y] w fun e a=>e= .returned (.iface t v)∧w=a)
 (he:(binOp .eql 49 (.iface t v) (.iface t v)).run Tryz.prog w= .ok (.bool true) w):
 Xk 75 #[Xp c,x,y,st] w fun e a=>e= .returned (.bool true)∧w=a:=by
 go_enter func75,ntmps75;go_wp2_with fail
 refine d.mono ?_;rintro e a ⟨rfl,rfl⟩;go_wp2_with fail
 refine f.mono ?_;rintro e a ⟨rfl,rfl⟩;go_wp2_with fail
 go_ret;exact⟨rfl,rfl⟩
theorem CO(c a l f:Nat)(a':Option Addr)(st:Value)(w:World)(q:st= .pointer none∨∃s,st=Xp s)(h1:Xc w c 1 (.bool false))(r:0<l)(m:Xc w a 0 (.slice a' l f)):
 Xk 75 #[Xp c,.iface 109 (.pointer none),Xi 109 a,st] w fun e g=>e= .returned (.bool false)∧w=g:=by
 have h:∀W,(Instr.typeAssert (.iface 109 (.pointer none)) 49 105 true).run Tryz.prog W= .ok (.tuple #[.pointer none,.bool false]) W:=fun W=>by rw[bG,if_neg zd]
 have i:∀W,(Instr.typeAssert (.iface 109 (.pointer none)) 49 144 true).run Tryz.prog W= .ok (.tuple #[.pointer none,.bool false]) W:=fun W=>by rw[cT,if_neg zd]
 have j:∀W,(Instr.typeAssert (.iface 109 (.pointer none)) 49 146 true).run Tryz.prog W= .ok (.tuple #[.pointer none,.bool false]) W:=fun W=>by rw[asSlice,if_neg zd]
 have d:∀W,(Instr.typeAssert (.iface 109 (.pointer none)) 49 184 true).run Tryz.prog W= .ok (.tuple #[.pointer none,.bool false]) W:=fun W=>by rw[di,if_neg zd]
 have b:∀W,(Instr.typeAssert (.iface 109 (.pointer none)) 49 148 true).run Tryz.prog W= .ok (.tuple #[.pointer none,.bool false]) W:=fun W=>by rw[cU,if_neg zd]
 have k:∀W,(Instr.typeAssert (.iface 109 (.pointer none)) 49 109 true).run Tryz.prog W= .ok (.tuple #[.pointer none,.bool true]) W:=fun W=>by rw[asTuple,if_pos rfl]
 have v:=bk asTuple a;have n:=zh (fF 109 (.pointer none) zd w);have o:=zh (fF 109 (Xp a) zd w);have t:=zh (uZ w);have p:=zh (mI a l f a' w m);have he:(binOp .eql 49 (.iface 109 (.pointer none)) (Xi 109 a)).run Tryz.prog w= .ok (.bool false) w:=vb w (Xa a 0);have u:((0:Int)==(l:Int))=false:=zp;go_enter func75,ntmps75;go_wp2_with fail
 refine n.out.mono ?_;rintro e g ⟨rfl,rfl⟩;go_wp2_with fail
 refine o.out.mono ?_;rintro e g ⟨rfl,rfl⟩;go_wp2_with fail
 refine t.out.mono ?_;rintro e g ⟨rfl,rfl⟩;go_wp2_with fail
 refine p.out.mono ?_;rintro e g ⟨rfl,rfl⟩;go_wp2_with fail
 go_ret;exact⟨rfl,rfl⟩
theorem CP(c b n p:Nat)(a:Option Addr)(st:Value)(w:World)(q:st= .pointer none∨∃s,st=Xp s)(h1:Xc w c 1 (.bool false))(r:0<n)(t:Xc w b 0 (.slice a n p)):
 Xk 75 #[Xp c,Xi 109 b,.iface 109 (.pointer none),st] w fun e g=>e= .returned (.bool false)∧w=g:=by
 have h:=ak bG 109 b zd;have i:=ak cT 109 b zd;have j:=ak asSlice 109 b zd;have f:=ak di 109 b zd;have d:=ak cU 109 b zd;have k:=bk asTuple b;have x:∀W,(Instr.typeAssert (.iface 109 (.pointer none)) 49 109 true).run Tryz.prog W= .ok (.tuple #[.pointer none,.bool true]) W:=fun W=>by rw[asTuple,if_pos rfl]
 have l:=zh (fF 109 (Xp b) zd w);have m:=zh (fF 109 (.pointer none) zd w);have u:=zh (mI b n p a w t);have o:=zh (uZ w);have he:(binOp .eql 49 (Xi 109 b) (.iface 109 (.pointer none))).run Tryz.prog w= .ok (.bool false) w:=CN w (Xa b 0);have v:((n:Int)==(0:Int))=false:=zp;go_enter func75,ntmps75;go_wp2_with fail
 refine l.out.mono ?_;rintro e g ⟨rfl,rfl⟩;go_wp2_with fail
 refine m.out.mono ?_;rintro e g ⟨rfl,rfl⟩;go_wp2_with fail
 refine u.out.mono ?_;rintro e g ⟨rfl,rfl⟩;go_wp2_with fail
 refine o.out.mono ?_;rintro e g ⟨rfl,rfl⟩;go_wp2_with fail
 go_ret;exact⟨rfl,rfl⟩
theorem CQ(c b g:Nat)(x y st:Value)(w:World)(pa i E j:Option Addr)(v p r F:Bool)(I:st= .pointer none∨∃s,st=Xp s)(h1:Xc w c 1 (.bool false))(N:Xc w c 0 (.bool false))
 (q:Xk 125 #[x] w fun e d=>e= .returned (Xi 108 b)∧w=d)(t:Xk 125 #[y] w fun e d=>e= .returned (Xi 108 g)∧w=d)
 (he:(binOp .eql 49 (Xi 108 b) (Xi 108 g)).run Tryz.prog w= .ok (.bool false) w)
 (J:Xc w b 4 (.bool v))(u:Xc w g 4 (.bool p))(K:Xc w b 2 (.pointer pa))(z:Xc w g 2 (.pointer i))(L:Xc w b 3 (.pointer E))(A:Xc w g 3 (.pointer j))(G:ej c (.iface 109 (.pointer pa)) (.iface 109 (.pointer i)) st r w)(H:ej c (.iface 109 (.pointer E)) (.iface 109 (.pointer j)) st F w):
 Xk 75 #[Xp c,x,y,st] w fun e d=>e= .returned (.bool ((v==p)&&(r&&F)))∧aB w d:=by
 have k:=ak bG 108 b zd;have l:=ak cT 108 b zd;have m:=ak asSlice 108 b zd;have h:=ak di 108 b zd;have f:=ak cU 108 b zd;have n:=ak asTuple 108 b zd;have a:=bk gP b;have O:=bk gP g;have g1:=bp K;have g2:=bp z;have g3:=bp L;have g4:=bp A;have g5:=bp J;have g6:=bp u;have B:=zh G;have C:=zh H;clear G H;cases M:(v==p)<;>cases r
 all_goals
  go_enter func75,ntmps75;go_wp2_with fail
  refine q.mono ?_;rintro e d ⟨rfl,rfl⟩;go_wp2_with fail
  refine t.mono ?_;rintro e d ⟨rfl,rfl⟩;go_wp2_with fail
  refine wp_region_quiet_grown zk zk ?_;repeat(go_big_quiet_step (first|(go_at_call 75;first|with_reducible exact B.out.at _ _|with_reducible exact C.out.at _ _)))
  refine wpQuiet_nil ?_;intro _ D;obtain⟨⟨nq,osq⟩,o⟩:=D;subst o;go_wp2_with fail
  go_ret;exact⟨by simp,_,_,rfl⟩
end Go.Proofs.YtkochlhejabdcaaGreatDoor
