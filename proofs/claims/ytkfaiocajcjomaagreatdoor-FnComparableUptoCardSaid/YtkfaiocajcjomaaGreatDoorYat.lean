import Derived.Test.YtkfaiocajcjomaaGreatDoorYan
set_option maxRecDepth 100000
set_option maxHeartbeats 8000000
set_option linter.all false
namespace TS
open Go Go.RowKit Go.Sort
theorem bc{w:World}{a:Addr}{v:Value}(h:w.cell? a=some v):∀(n:Nat)(os:Array Obj),(grow (w.drewN n) os).cell? a=some v:=fun n os=>(ar.of w n os).cell h
end TS
namespace Go.Proofs.YtkfaiocajcjomaaGreatDoor
open Go.RowKit TS Go.Sort
def dH(c:Nat)(x y st:Value)(r:Bool)(w:World):Prop:=∀(n:Nat)(os:Array Obj),Calls Tryz.prog 171 #[.pointer (some ⟨c,0,none⟩),x,y,st] (grow (w.drewN n) os) fun e a=>e= .returned (.bool r)∧ar (grow (w.drewN n) os) a
theorem dH.at{c:Nat}{x y st:Value}{r:Bool}{w:World}(h:dH c x y st r w)(n:Nat)(os:Array Obj):
 Calls Tryz.prog 171 #[.pointer (some ⟨c,0,none⟩),x,y,st] (grow (w.drewN n) os) fun e a=>e= .returned (.bool r)∧∃p:GrownBy,a=grow (w.drewN p.n) p.os:=
 Calls.grown_of ((h n os).mono fun _ _ ⟨he,m,b,e⟩=>⟨he,m,b,e⟩)
theorem AG(c b i:Nat)(x y st:Value)(w:World)(o p q t:Nat)(r:Bool)(v:st= .pointer none∨∃s,st= .pointer (some ⟨s,0,none⟩))(h1:w.cell? ⟨c,1,none⟩=some (.bool false))(A:w.cell? ⟨c,0,none⟩=some (.bool false))
 (j:Calls Tryz.prog 110 #[x] w fun e a=>e= .returned (.iface 132 (.pointer (some ⟨b,0,none⟩)))∧w=a)(k:Calls Tryz.prog 110 #[y] w fun e a=>e= .returned (.iface 132 (.pointer (some ⟨i,0,none⟩)))∧w=a)
 (he:(binOp .eql 39 (.iface 132 (.pointer (some ⟨b,0,none⟩))) (.iface 132 (.pointer (some ⟨i,0,none⟩)))).run Tryz.prog w= .ok (.bool false) w)
 (z:w.cell? ⟨b,0,none⟩=some (.iface o (.pointer (some ⟨p,0,none⟩))))(l:w.cell? ⟨i,0,none⟩=some (.iface q (.pointer (some ⟨t,0,none⟩))))(u:dH c (.iface o (.pointer (some ⟨p,0,none⟩))) (.iface q (.pointer (some ⟨t,0,none⟩))) st r w):
 Calls Tryz.prog 171 #[.pointer (some ⟨c,0,none⟩),x,y,st] w fun e a=>e= .returned (.bool r)∧ar w a:=by
 have d:=ai br 132 b (by decide);have f:=ai cz 132 b (by decide);have g:=ba asSlice b;have B:=ba asSlice i;have g1:=bc z;have g2:=bc l;have m:=Lib.hid u;clear u;go_enter Tryz.func171,Tryz.ntmps171;go_wp2_with fail
 refine j.mono ?_;rintro e a ⟨rfl,rfl⟩;go_wp2_with fail
 refine k.mono ?_;rintro e a ⟨rfl,rfl⟩;go_wp2_with fail
 refine wp_region_quiet_grown (by kernel_rfl) (by kernel_rfl) ?_;repeat(go_big_quiet_step (first|(go_at_call 171;with_reducible exact m.out.at _ _)))
 refine wpQuiet_nil ?_;intro _ n;obtain⟨⟨nq,osq⟩,h⟩:=n;subst h;go_wp2_with fail
 go_ret;exact⟨rfl,_,_,rfl⟩
theorem AH(c b k:Nat)(x y st:Value)(w:World)(q t u v:Nat)(r:Bool)(A:st= .pointer none∨∃s,st= .pointer (some ⟨s,0,none⟩))(h1:w.cell? ⟨c,1,none⟩=some (.bool false))(C:w.cell? ⟨c,0,none⟩=some (.bool false))
 (l:Calls Tryz.prog 110 #[x] w fun e a=>e= .returned (.iface 134 (.pointer (some ⟨b,0,none⟩)))∧w=a)(m:Calls Tryz.prog 110 #[y] w fun e a=>e= .returned (.iface 134 (.pointer (some ⟨k,0,none⟩)))∧w=a)
 (he:(binOp .eql 39 (.iface 134 (.pointer (some ⟨b,0,none⟩))) (.iface 134 (.pointer (some ⟨k,0,none⟩)))).run Tryz.prog w= .ok (.bool false) w)
 (B:w.cell? ⟨b,0,none⟩=some (.iface q (.pointer (some ⟨t,0,none⟩))))(n:w.cell? ⟨k,0,none⟩=some (.iface u (.pointer (some ⟨v,0,none⟩))))(z:dH c (.iface q (.pointer (some ⟨t,0,none⟩))) (.iface u (.pointer (some ⟨v,0,none⟩))) st r w):
 Calls Tryz.prog 171 #[.pointer (some ⟨c,0,none⟩),x,y,st] w fun e a=>e= .returned (.bool r)∧ar w a:=by
 have g:=ai br 134 b (by decide);have h:=ai cz 134 b (by decide);have i:=ai asSlice 134 b (by decide);have f:=ai cK 134 b (by decide);have d:=ba cA b;have D:=ba cA k;have g1:=bc B;have g2:=bc n;have o:=Lib.hid z;clear z;go_enter Tryz.func171,Tryz.ntmps171;go_wp2_with fail
 refine l.mono ?_;rintro e a ⟨rfl,rfl⟩;go_wp2_with fail
 refine m.mono ?_;rintro e a ⟨rfl,rfl⟩;go_wp2_with fail
 refine wp_region_quiet_grown (by kernel_rfl) (by kernel_rfl) ?_;repeat(go_big_quiet_step (first|(go_at_call 171;with_reducible exact o.out.at _ _)))
 refine wpQuiet_nil ?_;intro _ p;obtain⟨⟨nq,osq⟩,j⟩:=p;subst j;go_wp2_with fail
 go_ret;exact⟨rfl,_,_,rfl⟩
theorem dH.cV{c:Nat}{x y st:Value}{r:Bool}{w b:World}(h:dH c x y st r w)(k:ar w b):dH c x y st r b:=by
 intro n os;obtain⟨m,a,rfl⟩:=k;have:=h (m+n) (a++os);have e:grow (w.drewN (m+n)) (a++os)=grow ((grow (w.drewN m) a).drewN n) os:=by rw[←grow_grow,←World.drewN_drewN];rfl
 rw[e]at this;exact this
theorem AI(b:Nat)(w:World):Calls Tryz.prog 70 #[.iface 56 (.pointer (some ⟨b,0,none⟩))] w fun e a=>e= .returned (.pointer (some ⟨b,0,none⟩))∧w=a:=by
 have h1:=ba asNamed b;go_enter Tryz.func70,Tryz.ntmps70;go_wp2_with fail
 refine(eC 56 _ (by decide) _).mono ?_;rintro e a ⟨rfl,rfl⟩;go_wp2_with fail
 go_ret;exact⟨rfl,rfl⟩
theorem AJ(c b g:Nat)(x y st:Value)(w:World)(k m:Int)(n:st= .pointer none∨∃s,st= .pointer (some ⟨s,0,none⟩))(h1:w.cell? ⟨c,1,none⟩=some (.bool false))(p:w.cell? ⟨c,0,none⟩=some (.bool false))
 (h:Calls Tryz.prog 110 #[x] w fun e a=>e= .returned (.iface 91 (.pointer (some ⟨b,0,none⟩)))∧w=a)(i:Calls Tryz.prog 110 #[y] w fun e a=>e= .returned (.iface 91 (.pointer (some ⟨g,0,none⟩)))∧w=a)
 (he:(binOp .eql 39 (.iface 91 (.pointer (some ⟨b,0,none⟩))) (.iface 91 (.pointer (some ⟨g,0,none⟩)))).run Tryz.prog w= .ok (.bool false) w)
 (o:w.cell? ⟨b,0,none⟩=some (.int .i64 k))(j:w.cell? ⟨g,0,none⟩=some (.int .i64 m)):
 Calls Tryz.prog 171 #[.pointer (some ⟨c,0,none⟩),x,y,st] w fun e a=>e= .returned (.bool (k==m))∧ar w a:=by
 have d:=ba br b;have q:=ba br g;have g1:=bc o;have g2:=bc j;go_enter Tryz.func171,Tryz.ntmps171;go_wp2_with fail
 refine h.mono ?_;rintro e a ⟨rfl,rfl⟩;go_wp2_with fail
 refine i.mono ?_;rintro e a ⟨rfl,rfl⟩;go_wp2_with fail
 refine wp_region_quiet_grown (by kernel_rfl) (by kernel_rfl) ?_;repeat(go_big_quiet_step (fail))
 refine wpQuiet_nil ?_;intro _ l;obtain⟨⟨nq,osq⟩,f⟩:=l;subst f;go_wp2_with fail
 go_ret;exact⟨rfl,_,_,rfl⟩
theorem AK(c b d:Nat)(x y st:Value)(w:World)(n f:Int)(B:0≤n)(j:0≤f)(t u v z:Nat)(r:Bool)(C:st= .pointer none∨∃s,st= .pointer (some ⟨s,0,none⟩))(h1:w.cell? ⟨c,1,none⟩=some (.bool false))(G:w.cell? ⟨c,0,none⟩=some (.bool false))
 (k:Calls Tryz.prog 110 #[x] w fun e a=>e= .returned (.iface 130 (.pointer (some ⟨b,0,none⟩)))∧w=a)(l:Calls Tryz.prog 110 #[y] w fun e a=>e= .returned (.iface 130 (.pointer (some ⟨d,0,none⟩)))∧w=a)
 (he:(binOp .eql 39 (.iface 130 (.pointer (some ⟨b,0,none⟩))) (.iface 130 (.pointer (some ⟨d,0,none⟩)))).run Tryz.prog w= .ok (.bool false) w)
 (D:w.cell? ⟨b,0,none⟩=some (.int .i64 n))(m:w.cell? ⟨d,0,none⟩=some (.int .i64 f))(E:w.cell? ⟨b,1,none⟩=some (.iface t (.pointer (some ⟨u,0,none⟩))))(o:w.cell? ⟨d,1,none⟩=some (.iface v (.pointer (some ⟨z,0,none⟩))))(A:dH c (.iface t (.pointer (some ⟨u,0,none⟩))) (.iface v (.pointer (some ⟨z,0,none⟩))) st r w):
 Calls Tryz.prog 171 #[.pointer (some ⟨c,0,none⟩),x,y,st] w fun e a=>e= .returned (.bool ((n==f)&&r))∧ar w a:=by
 have g:=ai br 130 b (by decide);have h:=ba cz b;have H:=ba cz d;have g1:=bc D;have g2:=bc m;have g3:=bc E;have g4:=bc o;have I:decide (n<0)=false:=by simp;omega
 have J:decide (f<0)=false:=by simp;omega
 clear B j;have p:=Lib.hid A;clear A;cases F:(n==f)
 all_goals
  go_enter Tryz.func171,Tryz.ntmps171;go_wp2_with fail
  refine k.mono ?_;rintro e a ⟨rfl,rfl⟩;go_wp2_with fail
  refine l.mono ?_;rintro e a ⟨rfl,rfl⟩;go_wp2_with fail
  refine wp_region_quiet_grown (by kernel_rfl) (by kernel_rfl) ?_;repeat(go_big_quiet_step (first|(go_at_call 171;with_reducible exact p.out.at _ _)))
  refine wpQuiet_nil ?_;intro _ q;obtain⟨⟨nq,osq⟩,i⟩:=q;subst i;go_wp2_with fail
  go_ret;exact⟨by simp,_,_,rfl⟩
theorem AL(c b i:Nat)(x y st:Value)(w:World)(n t:Int)(E F G H:Nat)(r:Bool)(J:st= .pointer none∨∃s,st= .pointer (some ⟨s,0,none⟩))(h1:w.cell? ⟨c,1,none⟩=some (.bool false))(N:w.cell? ⟨c,0,none⟩=some (.bool false))
 (u:Calls Tryz.prog 110 #[x] w fun e f=>e= .returned (.iface 138 (.pointer (some ⟨b,0,none⟩)))∧w=f)(v:Calls Tryz.prog 110 #[y] w fun e f=>e= .returned (.iface 138 (.pointer (some ⟨i,0,none⟩)))∧w=f)
 (he:(binOp .eql 39 (.iface 138 (.pointer (some ⟨b,0,none⟩))) (.iface 138 (.pointer (some ⟨i,0,none⟩)))).run Tryz.prog w= .ok (.bool false) w)
 (K:w.cell? ⟨b,0,none⟩=some (.int .i64 n))(z:w.cell? ⟨i,0,none⟩=some (.int .i64 t))(L:w.cell? ⟨b,1,none⟩=some (.iface E (.pointer (some ⟨F,0,none⟩))))(A:w.cell? ⟨i,1,none⟩=some (.iface G (.pointer (some ⟨H,0,none⟩))))(I:dH c (.iface E (.pointer (some ⟨F,0,none⟩))) (.iface G (.pointer (some ⟨H,0,none⟩))) st r w):
 Calls Tryz.prog 171 #[.pointer (some ⟨c,0,none⟩),x,y,st] w fun e f=>e= .returned (.bool ((n==t)&&r))∧ar w f:=by
 have j:=ai br 138 b (by decide);have k:=ai cz 138 b (by decide);have l:=ai asSlice 138 b (by decide);have h:=ai cK 138 b (by decide);have g:=ai cA 138 b (by decide);have m:=ai asTuple 138 b (by decide);have a:=ai fP 138 b (by decide);have o:=ai gF 138 b (by decide);have d:=ai dG 138 b (by decide);have B:=ai iz 138 b (by decide);have q:=ba dN b;have O:=ba dN i;have g1:=bc K;have g2:=bc z;have g3:=bc L;have g4:=bc A;have C:=Lib.hid I;clear I;cases M:(n==t)
 all_goals
  go_enter Tryz.func171,Tryz.ntmps171;go_wp2_with fail
  refine u.mono ?_;rintro e f ⟨rfl,rfl⟩;go_wp2_with fail
  refine v.mono ?_;rintro e f ⟨rfl,rfl⟩;go_wp2_with fail
  refine wp_region_quiet_grown (by kernel_rfl) (by kernel_rfl) ?_;repeat(go_big_quiet_step (first|(go_at_call 171;with_reducible exact C.out.at _ _)))
  refine wpQuiet_nil ?_;intro _ D;obtain⟨⟨nq,osq⟩,p⟩:=D;subst p;go_wp2_with fail
  go_ret;exact⟨by simp,_,_,rfl⟩
theorem AM(c b i:Nat)(x y st:Value)(w:World)(G H I J j k l m:Nat)(r K:Bool)(N:st= .pointer none∨∃s,st= .pointer (some ⟨s,0,none⟩))(h1:w.cell? ⟨c,1,none⟩=some (.bool false))(Q:w.cell? ⟨c,0,none⟩=some (.bool false))
 (v:Calls Tryz.prog 110 #[x] w fun e f=>e= .returned (.iface 136 (.pointer (some ⟨b,0,none⟩)))∧w=f)(z:Calls Tryz.prog 110 #[y] w fun e f=>e= .returned (.iface 136 (.pointer (some ⟨i,0,none⟩)))∧w=f)
 (he:(binOp .eql 39 (.iface 136 (.pointer (some ⟨b,0,none⟩))) (.iface 136 (.pointer (some ⟨i,0,none⟩)))).run Tryz.prog w= .ok (.bool false) w)
 (O:w.cell? ⟨b,0,none⟩=some (.iface G (.pointer (some ⟨H,0,none⟩))))(A:w.cell? ⟨i,0,none⟩=some (.iface I (.pointer (some ⟨J,0,none⟩))))(P:w.cell? ⟨b,1,none⟩=some (.iface j (.pointer (some ⟨k,0,none⟩))))(B:w.cell? ⟨i,1,none⟩=some (.iface l (.pointer (some ⟨m,0,none⟩))))(L:dH c (.iface G (.pointer (some ⟨H,0,none⟩))) (.iface I (.pointer (some ⟨J,0,none⟩))) st r w)(M:dH c (.iface j (.pointer (some ⟨k,0,none⟩))) (.iface l (.pointer (some ⟨m,0,none⟩))) st K w):
 Calls Tryz.prog 171 #[.pointer (some ⟨c,0,none⟩),x,y,st] w fun e f=>e= .returned (.bool (r&&K))∧ar w f:=by
 have n:=ai br 136 b (by decide);have o:=ai cz 136 b (by decide);have p:=ai asSlice 136 b (by decide);have h:=ai cK 136 b (by decide);have g:=ai cA 136 b (by decide);have q:=ai asTuple 136 b (by decide);have a:=ai fP 136 b (by decide);have t:=ai gF 136 b (by decide);have d:=ai dG 136 b (by decide);have C:=ba iz b;have R:=ba iz i;have g1:=bc O;have g2:=bc A;have g3:=bc P;have g4:=bc B;have D:=Lib.hid L;have E:=Lib.hid M;clear L M;cases r
 all_goals
  go_enter Tryz.func171,Tryz.ntmps171;go_wp2_with fail
  refine v.mono ?_;rintro e f ⟨rfl,rfl⟩;go_wp2_with fail
  refine z.mono ?_;rintro e f ⟨rfl,rfl⟩;go_wp2_with fail
  refine wp_region_quiet_grown (by kernel_rfl) (by kernel_rfl) ?_;repeat(go_big_quiet_step (first|(go_at_call 171;first|with_reducible exact D.out.at _ _|with_reducible exact E.out.at _ _)))
  refine wpQuiet_nil ?_;intro _ F;obtain⟨⟨nq,osq⟩,u⟩:=F;subst u;go_wp2_with fail
  go_ret;exact⟨by simp,_,_,rfl⟩
theorem AN(c b i:Nat)(x y st:Value)(w:World)(ob oc:Nat)(B:st= .pointer none∨∃s,st= .pointer (some ⟨s,0,none⟩))(h1:w.cell? ⟨c,1,none⟩=some (.bool false))(F:w.cell? ⟨c,0,none⟩=some (.bool false))
 (r:Calls Tryz.prog 110 #[x] w fun e a=>e= .returned (.iface 56 (.pointer (some ⟨b,0,none⟩)))∧w=a)(t:Calls Tryz.prog 110 #[y] w fun e a=>e= .returned (.iface 56 (.pointer (some ⟨i,0,none⟩)))∧w=a)
 (he:(binOp .eql 39 (.iface 56 (.pointer (some ⟨b,0,none⟩))) (.iface 56 (.pointer (some ⟨i,0,none⟩)))).run Tryz.prog w= .ok (.bool false) w)
 (C:w.cell? ⟨b,1,none⟩=some (.pointer (some ⟨ob,0,none⟩)))(u:w.cell? ⟨i,1,none⟩=some (.pointer (some ⟨oc,0,none⟩)))(z:Plain w ob)(A:Plain w oc):
 Calls Tryz.prog 171 #[.pointer (some ⟨c,0,none⟩),x,y,st] w fun e a=>e= .returned (.bool (decide (ob=oc)))∧ar w a:=by
 have j:=ai br 56 b (by decide);have k:=ai cz 56 b (by decide);have l:=ai asSlice 56 b (by decide);have h:=ai cK 56 b (by decide);have g:=ai cA 56 b (by decide);have m:=ai asTuple 56 b (by decide);have d:=ai fP 56 b (by decide);have o:=ai gF 56 b (by decide);have f:=ai dG 56 b (by decide);have v:=ai iz 56 b (by decide);have q:=ai dN 56 b (by decide);have p:=ba asNamed b;have D:=Lib.hid (AI i w);have E:=Lib.hid (Au b i ob oc w C u z A);clear z A;go_enter Tryz.func171,Tryz.ntmps171;go_wp2_with fail
 refine r.mono ?_;rintro e a ⟨rfl,rfl⟩;go_wp2_with fail
 refine t.mono ?_;rintro e a ⟨rfl,rfl⟩;go_wp2_with fail
 refine D.out.mono ?_;rintro e a ⟨rfl,rfl⟩;go_wp2_with fail
 refine E.out.mono ?_;rintro e a ⟨rfl,n,rfl⟩;go_wp2_with fail
 go_ret;exact⟨rfl,ar.drewN _ _⟩
end Go.Proofs.YtkfaiocajcjomaaGreatDoor
namespace TS
open Go Go.RowKit Go.Sort
def bB(n:Nat)(r:Nat→Bool):Bool:=(List.range n).all r
theorem j0{n:Nat}{r:Nat→Bool}(h:∀i,i<n→r i=true):bB n r=true:=by unfold bB;rw[List.all_eq_true];intro i hi;exact h i (List.mem_range.1 hi)
theorem j5{n:Nat}{r:Nat→Bool}{i:Nat}(hi:i<n)(h:r i=false):bB n r=false:=by
 rw[Bool.eq_false_iff];intro ha;unfold bB at ha;rw[List.all_eq_true]at ha;rw[ha i (List.mem_range.2 hi)]at h;cases h
theorem bA.cV{w c:World}{a:Option Addr}{n:Nat}{f:Nat→Nat}(h:bA w a n f)(k:ar w c):bA c a n f:=fun i hi=>let⟨b,o,e,d⟩:=h i hi;⟨b,o,e,k.cell d⟩
end TS
namespace Go.Proofs.YtkfaiocajcjomaaGreatDoor
open Go.RowKit TS Go.Sort
theorem AO(c b G n v W H:Nat)(a a':Option Addr)(f X Y Z yt yb:Nat→Nat)(rs:Nat→Bool)(st:Value)(w:World)(P5:st= .pointer none∨∃s,st= .pointer (some ⟨s,0,none⟩))(h1:w.cell? ⟨c,1,none⟩=some (.bool false))
 (he:(binOp .eql 39 (.iface 95 (.pointer (some ⟨b,0,none⟩))) (.iface 95 (.pointer (some ⟨G,0,none⟩)))).run Tryz.prog w= .ok (.bool false) w)(hn:n≤1099511627776)
 (hc:w.cell? ⟨b,0,none⟩=some (.slice a n W))(I:w.cell? ⟨G,0,none⟩=some (.slice a' v H))(hp:bA w a n f)(J:bA w a' v X)
 (hx:∀i,i<n→w.cell? ⟨f i,3,none⟩=some (.iface (Y i) (.pointer (some ⟨Z i,0,none⟩))))(hy:∀i,i<v→w.cell? ⟨X i,3,none⟩=some (.iface (yt i) (.pointer (some ⟨yb i,0,none⟩))))
 (hP:n=v→∀i,i<n→dH c (.iface (Y i) (.pointer (some ⟨Z i,0,none⟩))) (.iface (yt i) (.pointer (some ⟨yb i,0,none⟩))) st (rs i) w):
 Calls Tryz.prog 171 #[.pointer (some ⟨c,0,none⟩),.iface 95 (.pointer (some ⟨b,0,none⟩)),.iface 95 (.pointer (some ⟨G,0,none⟩)),st] w fun e x=>e= .returned (.bool (decide (n=v)&&bB n rs))∧ar w x:=by
 have p:=ai br 95 b (by decide);have q:=ai cz 95 b (by decide);have r:=ai asSlice 95 b (by decide);have l:=ai cK 95 b (by decide);have g:=ai cA 95 b (by decide);have t:=ba asTuple b;have ay:=ba asTuple G;have A:=Lib.hid (eC 95 (.pointer (some ⟨b,0,none⟩)) (by decide) w);have B:=Lib.hid (eC 95 (.pointer (some ⟨G,0,none⟩)) (by decide) w);have R:=Lib.hid (k9 b n W a w hc);have C:=Lib.hid (k9 G v H a' w I);have hq:=Lib.hid hp;have K:=Lib.hid J;have L:=Lib.hid hx;have M:=Lib.hid hy;have D:=Lib.hid hP;clear hp J hx hy hP;by_cases E:n=v
 ·subst E
  have S:((n:Int)==(n:Int))=true:=by simp
  have T:=Lib.hid (D.out rfl);clear D;go_enter Tryz.func171,Tryz.ntmps171;go_wp2_with fail
  refine A.out.mono ?_;rintro e x ⟨rfl,rfl⟩;go_wp2_with fail
  refine B.out.mono ?_;rintro e x ⟨rfl,rfl⟩;go_wp2_with fail
  refine R.out.mono ?_;rintro e x ⟨rfl,rfl⟩;go_wp2_with fail
  refine C.out.mono ?_;rintro e x ⟨rfl,rfl⟩;go_wp2_with fail
  clear A B R C he p q r l g t ay;have hw:Hid (ar w w):=ar.refl w;go_loopw [303] (fun i wr=> ∃k:Nat,k≤n∧i= .int .i64 k∧ar w wr∧∀j,j<k→rs j=true) (fun i _=>n- (intOf i).toNat)
  case atStart=>exact⟨0,Nat.zero_le _,rfl,hw.out,fun j U=>absurd U (Nat.not_lt_zero _)⟩
  case round=>
   obtain⟨k,hk,rfl,Q,hA⟩:=hrel;have d:=Lib.hid Q;have N:=Lib.hid hA;have P6:=Q.cell hc;have P3:=Q.cell I;clear Q hA;by_cases m:k<n
   ·have P4:(k:Int)<n:=by omega
    obtain⟨ab,ao,rfl,O⟩:=hq.out k m;obtain⟨P7,P8,rfl,z⟩:=K.out k m;have hr:=d.out.cell O;have P9:=d.out.cell z;have hv:=d.out.cell (L.out k m);have V:=d.out.cell (M.out k m);have g1:=bc hv;have g2:=bc V;have y:=Lib.hid ((T.out k m).cV d.out);clear O z;cases o:rs k
    ·have hF:Hid (bB n rs=false):=j5 m o
     rw[o]at y;clear o;go_wp2_with fail
     refine wp_region_quiet_grown (by kernel_rfl) (by kernel_rfl) ?_;repeat(go_big_quiet_step (first|(go_at_call 171;with_reducible exact y.out.at _ _)))
     refine wpQuiet_nil ?_;intro _ F;obtain⟨⟨nq,osq⟩,u⟩:=F;subst u;go_wp2_with fail
     go_ret;exact⟨by rw[hF.out];simp,d.out.trans (ar.of _ _ _)⟩
    ·rw[o]at y
     have P:=Lib.hid o;clear o;go_wp2_with fail
     refine wp_region_quiet_grown (by kernel_rfl) (by kernel_rfl) ?_;repeat(go_big_quiet_step (first|(go_at_call 171;with_reducible exact y.out.at _ _)))
     refine wpQuiet_nil ?_;intro _ F;obtain⟨⟨nq,osq⟩,u⟩:=F;subst u;go_wp2_with fail
     refine⟨⟨k+1,by omega,by go_num,d.out.trans (ar.of _ _ _),fun j U=> ?_⟩,?_⟩
     ·rcases Nat.lt_succ_iff_lt_or_eq.1 U with h|rfl
      ·exact N.out j h
      ·exact P.out
     ·first|omega|(simp[intOf];omega)
   ·have P_:¬(k:Int)<n:=by omega
    have hT:Hid (bB n rs=true):=j0 fun i hi=>N.out i (by omega);go_wp2_with fail
    go_ret;exact⟨by rw[hT.out];simp,d.out⟩
 ·have S:((n:Int)==(v:Int))=false:=by simp;omega
  have hd:Hid (decide (n=v)=false):=by simp[Hid,E]
  clear E D L M hq K;go_enter Tryz.func171,Tryz.ntmps171;go_wp2_with fail
  refine A.out.mono ?_;rintro e x ⟨rfl,rfl⟩;go_wp2_with fail
  refine B.out.mono ?_;rintro e x ⟨rfl,rfl⟩;go_wp2_with fail
  refine R.out.mono ?_;rintro e x ⟨rfl,rfl⟩;go_wp2_with fail
  refine C.out.mono ?_;rintro e x ⟨rfl,rfl⟩;go_wp2_with fail
  go_ret;exact⟨by rw[hd.out];rfl,ar.refl _⟩
theorem sM(W:World)(v:Option Addr):(binOp .eql 39 (.iface 95 (.pointer none)) (.iface 95 (.pointer v))).run Tryz.prog W= .ok (.bool v.isNone) W:=by
 obtain⟨e,i,j,b,hi,a,f,g⟩:=mL;have c:∀d,(Op.equalIn (d+2) 39 (.iface 95 (.pointer none)) (.iface 95 (.pointer v))).run Tryz.prog W= .ok v.isNone W:=fun d=>by simp[Op.equalIn,run_underlying Tryz.underlying39,run_underlying b,typeInfo,hi,a]
 simp only[binOp];simp[Op.equal,Op.maxDepth,c 9998]
theorem AP(W:World)(a:Addr):(binOp .eql 39 (.iface 95 (.pointer (some a))) (.iface 95 (.pointer none))).run Tryz.prog W= .ok (.bool false) W:=by
 obtain⟨f,i,j,c,hi,b,g,h⟩:=mL;have e:∀d,(Op.equalIn (d+2) 39 (.iface 95 (.pointer (some a))) (.iface 95 (.pointer none))).run Tryz.prog W= .ok false W:=fun d=>by simp[Op.equalIn,run_underlying Tryz.underlying39,run_underlying c,typeInfo,hi,b]
 simp only[binOp];simp[Op.equal,Op.maxDepth,e 9998]
theorem id_eq(c:Nat)(x y st:Value)(t b:Nat)(v:Value)(w:World)(d:Calls Tryz.prog 110 #[x] w fun e a=>e= .returned (.iface t v)∧w=a)(f:Calls Tryz.prog 110 #[y] w fun e a=>e= .returned (.iface t v)∧w=a)
 (he:(binOp .eql 39 (.iface t v) (.iface t v)).run Tryz.prog w= .ok (.bool true) w):
 Calls Tryz.prog 171 #[.pointer (some ⟨c,0,none⟩),x,y,st] w fun e a=>e= .returned (.bool true)∧w=a:=by
 go_enter Tryz.func171,Tryz.ntmps171;go_wp2_with fail
 refine d.mono ?_;rintro e a ⟨rfl,rfl⟩;go_wp2_with fail
 refine f.mono ?_;rintro e a ⟨rfl,rfl⟩;go_wp2_with fail
 go_ret;exact⟨rfl,rfl⟩
theorem AQ(c a l f:Nat)(a':Option Addr)(st:Value)(w:World)(q:st= .pointer none∨∃s,st= .pointer (some ⟨s,0,none⟩))(h1:w.cell? ⟨c,1,none⟩=some (.bool false))(r:0<l)(m:w.cell? ⟨a,0,none⟩=some (.slice a' l f)):
 Calls Tryz.prog 171 #[.pointer (some ⟨c,0,none⟩),.iface 95 (.pointer none),.iface 95 (.pointer (some ⟨a,0,none⟩)),st] w fun e g=>e= .returned (.bool false)∧w=g:=by
 have h:∀W,(Instr.typeAssert (.iface 95 (.pointer none)) 39 91 true).run Tryz.prog W= .ok (.tuple #[.pointer none,.bool false]) W:=fun W=>by rw[br,if_neg (by decide)]
 have i:∀W,(Instr.typeAssert (.iface 95 (.pointer none)) 39 130 true).run Tryz.prog W= .ok (.tuple #[.pointer none,.bool false]) W:=fun W=>by rw[cz,if_neg (by decide)]
 have j:∀W,(Instr.typeAssert (.iface 95 (.pointer none)) 39 132 true).run Tryz.prog W= .ok (.tuple #[.pointer none,.bool false]) W:=fun W=>by rw[asSlice,if_neg (by decide)]
 have d:∀W,(Instr.typeAssert (.iface 95 (.pointer none)) 39 150 true).run Tryz.prog W= .ok (.tuple #[.pointer none,.bool false]) W:=fun W=>by rw[cK,if_neg (by decide)]
 have b:∀W,(Instr.typeAssert (.iface 95 (.pointer none)) 39 134 true).run Tryz.prog W= .ok (.tuple #[.pointer none,.bool false]) W:=fun W=>by rw[cA,if_neg (by decide)]
 have k:∀W,(Instr.typeAssert (.iface 95 (.pointer none)) 39 95 true).run Tryz.prog W= .ok (.tuple #[.pointer none,.bool true]) W:=fun W=>by rw[asTuple,if_pos rfl]
 have v:=ba asTuple a;have n:=Lib.hid (eC 95 (.pointer none) (by decide) w);have o:=Lib.hid (eC 95 (.pointer (some ⟨a,0,none⟩)) (by decide) w);have t:=Lib.hid (sK w);have p:=Lib.hid (k9 a l f a' w m);have he:(binOp .eql 39 (.iface 95 (.pointer none)) (.iface 95 (.pointer (some ⟨a,0,none⟩)))).run Tryz.prog w= .ok (.bool false) w:=sM w (some ⟨a,0,none⟩);have u:((0:Int)==(l:Int))=false:=by simp;omega
 go_enter Tryz.func171,Tryz.ntmps171;go_wp2_with fail
 refine n.out.mono ?_;rintro e g ⟨rfl,rfl⟩;go_wp2_with fail
 refine o.out.mono ?_;rintro e g ⟨rfl,rfl⟩;go_wp2_with fail
 refine t.out.mono ?_;rintro e g ⟨rfl,rfl⟩;go_wp2_with fail
 refine p.out.mono ?_;rintro e g ⟨rfl,rfl⟩;go_wp2_with fail
 go_ret;exact⟨rfl,rfl⟩
theorem AR(c b n p:Nat)(a:Option Addr)(st:Value)(w:World)(q:st= .pointer none∨∃s,st= .pointer (some ⟨s,0,none⟩))(h1:w.cell? ⟨c,1,none⟩=some (.bool false))(r:0<n)(t:w.cell? ⟨b,0,none⟩=some (.slice a n p)):
 Calls Tryz.prog 171 #[.pointer (some ⟨c,0,none⟩),.iface 95 (.pointer (some ⟨b,0,none⟩)),.iface 95 (.pointer none),st] w fun e g=>e= .returned (.bool false)∧w=g:=by
 have h:=ai br 95 b (by decide);have i:=ai cz 95 b (by decide);have j:=ai asSlice 95 b (by decide);have f:=ai cK 95 b (by decide);have d:=ai cA 95 b (by decide);have k:=ba asTuple b;have x:∀W,(Instr.typeAssert (.iface 95 (.pointer none)) 39 95 true).run Tryz.prog W= .ok (.tuple #[.pointer none,.bool true]) W:=fun W=>by rw[asTuple,if_pos rfl]
 have l:=Lib.hid (eC 95 (.pointer (some ⟨b,0,none⟩)) (by decide) w);have m:=Lib.hid (eC 95 (.pointer none) (by decide) w);have u:=Lib.hid (k9 b n p a w t);have o:=Lib.hid (sK w);have he:(binOp .eql 39 (.iface 95 (.pointer (some ⟨b,0,none⟩))) (.iface 95 (.pointer none))).run Tryz.prog w= .ok (.bool false) w:=AP w ⟨b,0,none⟩;have v:((n:Int)==(0:Int))=false:=by simp;omega
 go_enter Tryz.func171,Tryz.ntmps171;go_wp2_with fail
 refine l.out.mono ?_;rintro e g ⟨rfl,rfl⟩;go_wp2_with fail
 refine m.out.mono ?_;rintro e g ⟨rfl,rfl⟩;go_wp2_with fail
 refine u.out.mono ?_;rintro e g ⟨rfl,rfl⟩;go_wp2_with fail
 refine o.out.mono ?_;rintro e g ⟨rfl,rfl⟩;go_wp2_with fail
 go_ret;exact⟨rfl,rfl⟩
theorem AS(c b g:Nat)(x y st:Value)(w:World)(pa i E j:Option Addr)(v p r F:Bool)(I:st= .pointer none∨∃s,st= .pointer (some ⟨s,0,none⟩))(h1:w.cell? ⟨c,1,none⟩=some (.bool false))(N:w.cell? ⟨c,0,none⟩=some (.bool false))
 (q:Calls Tryz.prog 110 #[x] w fun e d=>e= .returned (.iface 94 (.pointer (some ⟨b,0,none⟩)))∧w=d)(t:Calls Tryz.prog 110 #[y] w fun e d=>e= .returned (.iface 94 (.pointer (some ⟨g,0,none⟩)))∧w=d)
 (he:(binOp .eql 39 (.iface 94 (.pointer (some ⟨b,0,none⟩))) (.iface 94 (.pointer (some ⟨g,0,none⟩)))).run Tryz.prog w= .ok (.bool false) w)
 (J:w.cell? ⟨b,4,none⟩=some (.bool v))(u:w.cell? ⟨g,4,none⟩=some (.bool p))(K:w.cell? ⟨b,2,none⟩=some (.pointer pa))(z:w.cell? ⟨g,2,none⟩=some (.pointer i))(L:w.cell? ⟨b,3,none⟩=some (.pointer E))(A:w.cell? ⟨g,3,none⟩=some (.pointer j))(G:dH c (.iface 95 (.pointer pa)) (.iface 95 (.pointer i)) st r w)(H:dH c (.iface 95 (.pointer E)) (.iface 95 (.pointer j)) st F w):
 Calls Tryz.prog 171 #[.pointer (some ⟨c,0,none⟩),x,y,st] w fun e d=>e= .returned (.bool ((v==p)&&(r&&F)))∧ar w d:=by
 have k:=ai br 94 b (by decide);have l:=ai cz 94 b (by decide);have m:=ai asSlice 94 b (by decide);have h:=ai cK 94 b (by decide);have f:=ai cA 94 b (by decide);have n:=ai asTuple 94 b (by decide);have a:=ba fP b;have O:=ba fP g;have g1:=bc K;have g2:=bc z;have g3:=bc L;have g4:=bc A;have g5:=bc J;have g6:=bc u;have B:=Lib.hid G;have C:=Lib.hid H;clear G H;cases M:(v==p)<;>cases r
 all_goals
  go_enter Tryz.func171,Tryz.ntmps171;go_wp2_with fail
  refine q.mono ?_;rintro e d ⟨rfl,rfl⟩;go_wp2_with fail
  refine t.mono ?_;rintro e d ⟨rfl,rfl⟩;go_wp2_with fail
  refine wp_region_quiet_grown (by kernel_rfl) (by kernel_rfl) ?_;repeat(go_big_quiet_step (first|(go_at_call 171;first|with_reducible exact B.out.at _ _|with_reducible exact C.out.at _ _)))
  refine wpQuiet_nil ?_;intro _ D;obtain⟨⟨nq,osq⟩,o⟩:=D;subst o;go_wp2_with fail
  go_ret;exact⟨by simp,_,_,rfl⟩
end Go.Proofs.YtkfaiocajcjomaaGreatDoor
namespace Go.Proofs.YtkfaiocajcjomaaGreatDoor
open Go.RowKit TS Go.Sort
def fR(tg a nm b:Nat→ByteArray)(rs:Nat→Bool)(i:Nat):Bool:=((tg i).toList==(a i).toList)&&(((nm i).toList==(b i).toList)&&rs i)
theorem sN{w:World}{b n c i a d:Nat}{s:ByteArray}(h1:w.cell? ⟨b,1,none⟩=some (.slice (some ⟨a,d,none⟩) n c))(hi:i<n)(g:w.cell? ⟨a,d+i,none⟩=some (.string s))(m:Nat)(os:Array Obj):
 Calls Tryz.prog 193 #[.pointer (some ⟨b,0,none⟩),.int .i64 i] (grow (w.drewN m) os) fun e f=>e= .returned (.string s)∧∃p:GrownBy,f=grow (w.drewN p.n) p.os:=
 Calls.grown_of ((An b n c i a d s _ (bc h1 m os) hi (bc g m os)).mono fun _ _ ⟨he,e⟩=>⟨he,0,#[],by rw[←e,grow_empty];rfl⟩)
theorem AT{w:World}{b:Nat}{q:Option Addr}{s t:ByteArray}(c:aO s=true)(hT:bu w)(h2:w.cell? ⟨b,2,none⟩=some (.string s))(m:Nat)(os:Array Obj):
 Calls Tryz.prog 194 #[.pointer (some ⟨b,0,none⟩),.pointer q,.string t,.bool false] (grow (w.drewN m) os) fun e a=>e= .returned (.bool (s.toList==t.toList))∧∃p:GrownBy,a=grow (w.drewN p.n) p.os:=
 Calls.grown_of ((Ap b q s t c _ ((ar.of w m os).cap hT) (bc h2 m os)).mono fun _ _ ⟨he,e⟩=>⟨he,0,#[],by rw[←e,grow_empty];rfl⟩)
theorem AU(c b V:Nat)(x y st:Value)(w:World)(n C cc W tc Qd:Nat)(a a' ta X:Option Addr)(f Y xt xb yt yb:Nat→Nat)(tg p nm m:Nat→ByteArray)(q:Nat→Option Addr)(rs:Nat→Bool)(Ql:st= .pointer none∨∃s,st= .pointer (some ⟨s,0,none⟩))(h1:w.cell? ⟨c,1,none⟩=some (.bool false))(h0:w.cell? ⟨c,0,none⟩=some (.bool false))
 (P:Calls Tryz.prog 110 #[x] w fun e u=>e= .returned (.iface 150 (.pointer (some ⟨b,0,none⟩)))∧w=u)(Q:Calls Tryz.prog 110 #[y] w fun e u=>e= .returned (.iface 150 (.pointer (some ⟨V,0,none⟩)))∧w=u)
 (he:(binOp .eql 39 (.iface 150 (.pointer (some ⟨b,0,none⟩))) (.iface 150 (.pointer (some ⟨V,0,none⟩)))).run Tryz.prog w= .ok (.bool false) w)
 (hn:n≤1099511627776)(hT:bu w)
 (hc:w.cell? ⟨b,0,none⟩=some (.slice a n cc))(Z:w.cell? ⟨V,0,none⟩=some (.slice a' C W))(hp:bA w a n f)(P3:bA w a' C Y)
 (ht:w.cell? ⟨b,1,none⟩=some (.slice ta n tc))(Qe:w.cell? ⟨V,1,none⟩=some (.slice X C Qd))
 (P4:∀i,i<n→∃b0 o,ta=some ⟨b0,o,none⟩∧w.cell? ⟨b0,o+i,none⟩=some (.string (tg i)))(M:∀i,i<C→∃b0 o,X=some ⟨b0,o,none⟩∧w.cell? ⟨b0,o+i,none⟩=some (.string (p i)))
 (hm:∀i,i<n→w.cell? ⟨f i,2,none⟩=some (.string (nm i))∧aO (nm i)=true∧w.cell? ⟨f i,5,none⟩=some (.bool false)∧w.cell? ⟨f i,3,none⟩=some (.iface (xt i) (.pointer (some ⟨xb i,0,none⟩))))
 (P5:∀i,i<C→w.cell? ⟨Y i,2,none⟩=some (.string (m i))∧w.cell? ⟨Y i,1,none⟩=some (.pointer (q i))∧w.cell? ⟨Y i,5,none⟩=some (.bool false)∧w.cell? ⟨Y i,3,none⟩=some (.iface (yt i) (.pointer (some ⟨yb i,0,none⟩))))
 (hP:n=C→∀i,i<n→dH c (.iface (xt i) (.pointer (some ⟨xb i,0,none⟩))) (.iface (yt i) (.pointer (some ⟨yb i,0,none⟩))) st (rs i) w):
 Calls Tryz.prog 171 #[.pointer (some ⟨c,0,none⟩),x,y,st] w fun e u=>e= .returned (.bool (decide (n=C)&&bB n (fR tg p nm m rs)))∧ar w u:=by
 have D:=ai br 150 b (by decide);have E:=ai cz 150 b (by decide);have F:=ai asSlice 150 b (by decide);have v:=ba cK b;have ay:=ba cK V;have hL:=Lib.hid (sJ b n cc a w hc);have R:=Lib.hid (sJ V C W a' w Z);have hq:=Lib.hid hp;have P6:=Lib.hid P3;have P7:=Lib.hid hm;have P8:=Lib.hid P5;have S:=Lib.hid hP;have hu:=Lib.hid P4;have P9:=Lib.hid M;have Qf:=Lib.hid hT;clear hp P3 hm P5 hP P4 M hT;by_cases T:n=C
 ·subst T
  have Qg:((n:Int)==(n:Int))=true:=by simp
  have Qh:=Lib.hid (S.out rfl);clear S;go_enter Tryz.func171,Tryz.ntmps171;go_wp2_with fail
  refine P.mono ?_;rintro e u ⟨rfl,rfl⟩;go_wp2_with fail
  refine Q.mono ?_;rintro e u ⟨rfl,rfl⟩;go_wp2_with fail
  refine hL.out.mono ?_;rintro e u ⟨rfl,rfl⟩;go_wp2_with fail
  refine R.out.mono ?_;rintro e u ⟨rfl,rfl⟩;go_wp2_with fail
  clear P Q hL R he D E F v ay;have hw:Hid (ar w w):=ar.refl w;go_loopw [191] (fun i wr=> ∃k:Nat,k≤n∧i= .int .i64 k∧ar w wr∧∀j,j<k→fR tg p nm m rs j=true) (fun i _=>n- (intOf i).toNat)
  case atStart=>exact⟨0,Nat.zero_le _,rfl,hw.out,fun j hj=>absurd hj (Nat.not_lt_zero _)⟩
  case round=>
   obtain⟨k,hk,rfl,U,hA⟩:=hrel;have d:=Lib.hid U;have P_:=Lib.hid hA;have Qm:=U.cell hc;have Qj:=U.cell Z;have Qi:=U.cell ht;have Qa:=U.cell Qe;have g0:=bc (U.cell h0);clear U hA;by_cases g:k<n
   ·have Qk:(k:Int)<n:=by omega
    obtain⟨ab,ao,rfl,z⟩:=hq.out k g;obtain⟨Qn,Qo,rfl,N⟩:=P6.out k g;have hr:=d.out.cell z;have Qp:=d.out.cell N;obtain⟨v2,vB,v5,v3⟩:=P7.out k g;obtain⟨y2,y1,y5,y3⟩:=P8.out k g;have g1:=bc (d.out.cell v5);have g2:=bc (d.out.cell y5);have g3:=bc (d.out.cell v3);have g4:=bc (d.out.cell y3);have g5:=bc (d.out.cell y1);have g6:=bc (d.out.cell y2);obtain⟨tb,oo,rfl,Qb⟩:=hu.out k g;obtain⟨Qq,Qr,rfl,O⟩:=P9.out k g;have H:=Lib.hid (sN Qi g (d.out.cell Qb));have I:=Lib.hid (sN Qa g (d.out.cell O));have A:=Lib.hid (AT (q:=q k) (t:=m k) vB (d.out.cap Qf.out) (d.out.cell v2));have B:=Lib.hid ((Qh.out k g).cV d.out);clear z N Qb O v2 vB v5 v3 y2 y1 y5 y3;cases Qc:((tg k).toList==(p k).toList)
    ·have G:=Lib.hid Qc
     have hF:Hid (bB n (fR tg p nm m rs)=false):=j5 (i:=k) g (by unfold fR;rw[G.out];rfl);go_wp2_with fail
     refine wp_region_quiet_grown (by kernel_rfl) (by kernel_rfl) ?_;repeat(go_big_quiet_step (first|(go_at_call 193;first|with_reducible exact H.out _ _|with_reducible exact I.out _ _)|(go_at_call 194;with_reducible exact A.out _ _)|(go_at_call 171;with_reducible exact B.out.at _ _)))
     refine wpQuiet_nil ?_;intro _ r;obtain⟨⟨nq,osq⟩,l⟩:=r;subst l;go_wp2_with fail
     go_ret;exact⟨by rw[hF.out];simp,d.out.trans (ar.of _ _ _)⟩
    ·have G:=Lib.hid Qc
     cases J:((nm k).toList==(m k).toList)
     ·have K:=Lib.hid J
      rw[J]at A;have hF:Hid (bB n (fR tg p nm m rs)=false):=j5 (i:=k) g (by unfold fR;rw[G.out,K.out];rfl);go_wp2_with fail
      refine wp_region_quiet_grown (by kernel_rfl) (by kernel_rfl) ?_;repeat(go_big_quiet_step (first|(go_at_call 193;first|with_reducible exact H.out _ _|with_reducible exact I.out _ _)|(go_at_call 194;with_reducible exact A.out _ _)|(go_at_call 171;with_reducible exact B.out.at _ _)))
      refine wpQuiet_nil ?_;intro _ r;obtain⟨⟨nq,osq⟩,l⟩:=r;subst l;go_wp2_with fail
      go_ret;exact⟨by rw[hF.out];simp,d.out.trans (ar.of _ _ _)⟩
     ·have K:=Lib.hid J
      rw[J]at A;cases L:rs k
      ·have z:=Lib.hid L
       rw[L]at B;have hF:Hid (bB n (fR tg p nm m rs)=false):=j5 (i:=k) g (by unfold fR;rw[G.out,K.out,z.out];rfl);go_wp2_with fail
       refine wp_region_quiet_grown (by kernel_rfl) (by kernel_rfl) ?_;repeat(go_big_quiet_step (first|(go_at_call 193;first|with_reducible exact H.out _ _|with_reducible exact I.out _ _)|(go_at_call 194;with_reducible exact A.out _ _)|(go_at_call 171;with_reducible exact B.out.at _ _)))
       refine wpQuiet_nil ?_;intro _ r;obtain⟨⟨nq,osq⟩,l⟩:=r;subst l;go_wp2_with fail
       go_ret;exact⟨by rw[hF.out];simp,d.out.trans (ar.of _ _ _)⟩
      ·have z:=Lib.hid L
       rw[L]at B;go_wp2_with fail
       refine wp_region_quiet_grown (by kernel_rfl) (by kernel_rfl) ?_;repeat(go_big_quiet_step (first|(go_at_call 193;first|with_reducible exact H.out _ _|with_reducible exact I.out _ _)|(go_at_call 194;with_reducible exact A.out _ _)|(go_at_call 171;with_reducible exact B.out.at _ _)))
       refine wpQuiet_nil ?_;intro _ r;obtain⟨⟨nq,osq⟩,l⟩:=r;subst l;go_wp2_with fail
       refine⟨⟨k+1,by omega,by go_num,d.out.trans (ar.of _ _ _),fun j hj=> ?_⟩,?_⟩
       ·rcases Nat.lt_succ_iff_lt_or_eq.1 hj with h|rfl
        ·exact P_.out j h
        ·unfold fR;rw[G.out,K.out,z.out];rfl
       ·first|omega|(simp[intOf];omega)
   ·have Qs:¬(k:Int)<n:=by omega
    have hF:Hid (bB n (fR tg p nm m rs)=true):=j0 fun i hi=>P_.out i (by omega);go_wp2_with fail
    go_ret;exact⟨by rw[hF.out];simp,d.out⟩
 ·have Qg:((n:Int)==(C:Int))=false:=by simp;omega
  have hd:Hid (decide (n=C)=false):=by simp[Hid,T]
  clear T S P7 P8 hq P6 hu P9;go_enter Tryz.func171,Tryz.ntmps171;go_wp2_with fail
  refine P.mono ?_;rintro e u ⟨rfl,rfl⟩;go_wp2_with fail
  refine Q.mono ?_;rintro e u ⟨rfl,rfl⟩;go_wp2_with fail
  refine hL.out.mono ?_;rintro e u ⟨rfl,rfl⟩;go_wp2_with fail
  refine R.out.mono ?_;rintro e u ⟨rfl,rfl⟩;go_wp2_with fail
  go_ret;exact⟨by rw[hd.out];rfl,ar.refl _⟩
end Go.Proofs.YtkfaiocajcjomaaGreatDoor
namespace TS
open Go Go.RowKit Go.Sort
inductive gg (w:World) (b a:Nat):Value→Prop
 |nil:gg w b a (.pointer none)
 |cons {s x y:Nat} {q:Value}:w.cell? ⟨s,0,none⟩=some (.pointer (some ⟨x,0,none⟩))→w.cell? ⟨s,1,none⟩=some (.pointer (some ⟨y,0,none⟩))→w.cell? ⟨s,2,none⟩=some q→Plain w x→Plain w y→x≠b→(x=a→y≠b)→jq q<s+1→gg w b a q→gg w b a (.pointer (some ⟨s,0,none⟩))
theorem gg.cV{w a:World}{b c:Nat}{q:Value}(h:gg w b c q)(k:ar w a):gg a b c q:=by
 induction h with
 |nil=>exact .nil
 |cons h1 h2 h3 d e f h7 g _ ih=>exact .cons (k.cell h1) (k.cell h2) (k.cell h3) (k.plain d) (k.plain e) f h7 g ih
theorem gg.shape{w:World}{b a:Nat}{q:Value}(h:gg w b a q):q= .pointer none∨∃s,q= .pointer (some ⟨s,0,none⟩):=by
 cases h with
 |nil=>exact .inl rfl
 |cons=>exact .inr ⟨_,rfl⟩
end TS
namespace Go.Proofs.YtkfaiocajcjomaaGreatDoor
open Go.RowKit TS Go.Sort
def fS(nm a:Nat→ByteArray)(rs:Nat→Bool)(i:Nat):Bool:=((nm i).toList==(a i).toList)&&rs i
theorem sP{w:World}{b:Nat}{q:Option Addr}{s:ByteArray}(c:aO s=true)(hT:bu w)(h1:w.cell? ⟨b,1,none⟩=some (.pointer q))(h2:w.cell? ⟨b,2,none⟩=some (.string s))(m:Nat)(os:Array Obj):
 Calls Tryz.prog 197 #[.pointer (some ⟨b,0,none⟩)] (grow (w.drewN m) os) fun e a=>e= .returned (.string s)∧∃p:GrownBy,a=grow (w.drewN p.n) p.os:=
 Calls.grown_of ((mK b q s c _ ((ar.of w m os).cap hT) (bc h1 m os) (bc h2 m os)).mono fun _ _ ⟨he,k,e⟩=>⟨he,k,#[],by rw[e,grow_empty]⟩)
theorem sQ{f:FuncId}{args:Array Value}{v:Value}{w:World}(h:∀W,ar w W→Calls Tryz.prog f args W fun e b=>e= .returned v∧ar W b)(m:Nat)(os:Array Obj):
 Calls Tryz.prog f args (grow (w.drewN m) os) fun e a=>e= .returned v∧∃p:GrownBy,a=grow (w.drewN p.n) p.os:=Calls.grown_of (h _ (ar.of w m os))
theorem AV(c b I:Nat)(x y st:Value)(w:World)(tb L n Z mc QB tc P_ nt Qa:Nat)(cm:Bool)(ma Qb ta Qc:Option Addr)(f f' xt xb yt yb:Nat→Nat)(nm z:Nat→ByteArray)(q q':Nat→Option Addr)(rs:Nat→Bool)(Qd:st= .pointer none∨∃s,st= .pointer (some ⟨s,0,none⟩))(h1:w.cell? ⟨c,1,none⟩=some (.bool false))(h0:w.cell? ⟨c,0,none⟩=some (.bool false))
 (Q:Calls Tryz.prog 110 #[x] w fun e F=>e= .returned (.iface 32 (.pointer (some ⟨b,0,none⟩)))∧w=F)(R:Calls Tryz.prog 110 #[y] w fun e F=>e= .returned (.iface 32 (.pointer (some ⟨I,0,none⟩)))∧w=F)
 (he:(binOp .eql 39 (.iface 32 (.pointer (some ⟨b,0,none⟩))) (.iface 32 (.pointer (some ⟨I,0,none⟩)))).run Tryz.prog w= .ok (.bool false) w)
 (hn:n≤1099511627776)(hT:bu w)(hS:gg w b I st)(hb:Plain w b)(Qe:Plain w I)
 (hk:w.cell? ⟨b,0,none⟩=some (.pointer none))(Qf:w.cell? ⟨I,0,none⟩=some (.pointer none))(h6:w.cell? ⟨b,6,none⟩=some (.pointer (some ⟨tb,0,none⟩)))(Qg:w.cell? ⟨I,6,none⟩=some (.pointer (some ⟨L,0,none⟩)))
 (h3:w.cell? ⟨tb,3,none⟩=some (.bool cm))(Qh:w.cell? ⟨L,3,none⟩=some (.bool cm))(ht:w.cell? ⟨tb,2,none⟩=some (.slice ta nt tc))(Qi:w.cell? ⟨L,2,none⟩=some (.slice Qc Qa P_))
 (Qj:∀W,ar w W→Calls Tryz.prog 195 #[.slice ta nt tc,.slice Qc Qa P_] W fun e F=>e= .returned (.bool true)∧ar W F)
 (hc:w.cell? ⟨tb,1,none⟩=some (.slice ma n mc))(Qk:w.cell? ⟨L,1,none⟩=some (.slice Qb Z QB))(hp:bA w ma n f)(Ql:bA w Qb Z f')
 (hm:∀i,i<n→w.cell? ⟨f i,2,none⟩=some (.string (nm i))∧aO (nm i)=true∧w.cell? ⟨f i,1,none⟩=some (.pointer (q i))∧w.cell? ⟨f i,3,none⟩=some (.iface (xt i) (.pointer (some ⟨xb i,0,none⟩))))
 (Qm:∀i,i<Z→w.cell? ⟨f' i,2,none⟩=some (.string (z i))∧aO (z i)=true∧w.cell? ⟨f' i,1,none⟩=some (.pointer (q' i))∧w.cell? ⟨f' i,3,none⟩=some (.iface (yt i) (.pointer (some ⟨yb i,0,none⟩))))
 (hP:n=Z→∀(W:World)(s:Nat),ar w W→W.cell? ⟨s,0,none⟩=some (.pointer (some ⟨b,0,none⟩))→W.cell? ⟨s,1,none⟩=some (.pointer (some ⟨I,0,none⟩))→W.cell? ⟨s,2,none⟩=some st→w.heap.size≤s→
  ∀i,i<n→dH c (.iface (xt i) (.pointer (some ⟨xb i,0,none⟩))) (.iface (yt i) (.pointer (some ⟨yb i,0,none⟩))) (.pointer (some ⟨s,0,none⟩)) (rs i) W):
 Calls Tryz.prog 171 #[.pointer (some ⟨c,0,none⟩),x,y,st] w fun e F=>e= .returned (.bool (decide (n=Z)&&bB n (fS nm z rs)))∧ar w F:=by
 obtain⟨so,rfl⟩:∃so:Option Addr,st= .pointer so:=by rcases Qd with rfl|⟨s,rfl⟩<;>exact⟨_,rfl⟩
 clear Qd;have A:=ai br 32 b (by decide);have B:=ai cz 32 b (by decide);have C:=ai asSlice 32 b (by decide);have u:=ai cK 32 b (by decide);have p:=ai cA 32 b (by decide);have D:=ai asTuple 32 b (by decide);have l:=ai fP 32 b (by decide);have E:=ai gF 32 b (by decide);have m:=ba dG b;have ay:=ba dG I;have hL:=Lib.hid (iD b tb w hk h6);have S:=Lib.hid (iD I L w Qf Qg);have P3:=Lib.hid Qj;have QI:(cm !=cm)=false:=by simp
 have g1:=bc h3;have g2:=bc Qh;have hq:=Lib.hid hp;have Qn:=Lib.hid Ql;have Qo:=Lib.hid hm;have Qp:=Lib.hid Qm;have P6:=Lib.hid hP;have Qq:=Lib.hid hT;have Qr:=Lib.hid hS;have QC:=Lib.hid hb;have Qs:=Lib.hid Qe;clear Qj hp Ql hm Qm hP hT hS hb Qe hk Qf h6 Qg h3 Qh;by_cases P7:n=Z
 ·subst P7
  have QD:((n:Int)==(n:Int))=true:=by simp
  have QE:=Lib.hid (P6.out rfl);clear P6;go_enter Tryz.func171,Tryz.ntmps171;go_wp2_with fail
  refine Q.mono ?_;rintro e F ⟨rfl,rfl⟩;go_wp2_with fail
  refine R.mono ?_;rintro e F ⟨rfl,rfl⟩;go_wp2_with fail
  refine hL.out.mono ?_;rintro e F ⟨rfl,rfl⟩;go_wp2_with fail
  refine S.out.mono ?_;rintro e F ⟨rfl,rfl⟩;go_wp2_with fail
  refine wp_region_quiet_grown (by kernel_rfl) (by kernel_rfl) ?_;repeat(go_big_quiet_step (fail))
  refine wpQuiet_nil ?_;intro _ o;obtain⟨⟨nq,osq⟩,a⟩:=o;subst a;have d:ar w (grow (w.drewN nq) osq):=ar.of _ _ _;have hE:=Lib.hid (sQ fun W hW=>P3.out W (d.trans hW));have u1:=bc (d.cell ht);have u2:=bc (d.cell Qi);have u3:=d.cell hc;have u4:=d.cell Qk;have M:=Lib.hid d;clear g1 g2 d hL S Q R he A B C u p D l E m ay;generalize grow (w.drewN nq) osq=T at*;go_wp2_with fail
  refine wp_region_quiet_grown (by kernel_rfl) (by kernel_rfl) ?_;repeat(go_big_quiet_step (first|(go_at_call 195;with_reducible exact hE.out _ _)))
  refine wpQuiet_nil ?_;intro _ o;obtain⟨⟨nq,osq⟩,a⟩:=o;subst a;have N:=M.out.trans (ar.of T nq osq);have v3:=(ar.of T nq osq).cell u3;have v4:=(ar.of T nq osq).cell u4;have r:=Lib.hid N;clear hE u1 u2 u3 u4 N;generalize grow (T.drewN nq) osq=P at*;go_wp2_with fail
  go_loopw [3] (fun v wr=>gg wr b I v∧ar P wr∧wr.cell? ⟨P.heap.size,0,none⟩=some (.pointer (some ⟨b,0,none⟩))∧wr.cell? ⟨P.heap.size,1,none⟩=some (.pointer (some ⟨I,0,none⟩))∧wr.cell? ⟨P.heap.size,2,none⟩=some (.pointer so)) (fun v _=>jq v)
  case atStart=>exact⟨(Qr.out.cV r.out).cV (ar.alloc _ _),ar.alloc _ _,by simp[go_sem],by simp[go_sem],by simp[go_sem]⟩
  case round=>
   obtain⟨QF,U,k0,k1,k2⟩:=hrel;have H:=Lib.hid U;have z3:=U.cell v3;have z4:=U.cell v4;clear U;cases QF with
   |nil=>
    go_wp2_with fail
    go_loopw [468] (fun i wx=> ∃k:Nat,k≤n∧i= .int .i64 k∧ar w wx∧wx.cell? ⟨P.heap.size,0,none⟩=some (.pointer (some ⟨b,0,none⟩))∧wx.cell? ⟨P.heap.size,1,none⟩=some (.pointer (some ⟨I,0,none⟩))∧wx.cell? ⟨P.heap.size,2,none⟩=some (.pointer so)∧∀j,j<k→fS nm z rs j=true) (fun i _=>n- (intOf i).toNat)
    case atStart=>exact⟨0,Nat.zero_le _,rfl,r.out.trans H.out,k0,k1,k2,fun j hj=>absurd hj (Nat.not_lt_zero _)⟩
    case round=>
     obtain⟨k,hk,rfl,hG,m0,m1,m2,hA⟩:=hrel;have g:=Lib.hid hG;have Qt:=Lib.hid hA;clear hG hA;by_cases t:k<n
     ·have P4:(k:Int)<n:=by omega
      obtain⟨ab,ao,rfl,J⟩:=hq.out k t;obtain⟨QJ,QK,rfl,P5⟩:=Qn.out k t;have hr:=g.out.cell J;have QL:=g.out.cell P5;obtain⟨y2,yB,y1,y3⟩:=Qo.out k t;obtain⟨Qu,Qv,Qw,Qx⟩:=Qp.out k t;have g3:=bc (g.out.cell y3);have g4:=bc (g.out.cell Qx);have P8:=Lib.hid (sP yB (g.out.cap Qq.out) (g.out.cell y1) (g.out.cell y2));have P9:=Lib.hid (sP Qv (g.out.cap Qq.out) (g.out.cell Qw) (g.out.cell Qu));have O:=Lib.hid (QE.out _ P.heap.size g.out m0 m1 m2 r.out.size k t);clear J P5 y2 yB y1 y3 Qu Qv Qw Qx;cases Qy:((nm k).toList==(z k).toList)
      ·have V:=Lib.hid Qy
       have hF:Hid (bB n (fS nm z rs)=false):=j5 (i:=k) t (by unfold fS;rw[V.out];rfl);go_wp2_with fail
       refine wp_region_quiet_grown (by kernel_rfl) (by kernel_rfl) ?_;repeat(go_big_quiet_step (first|(go_at_call 197;first|with_reducible exact P8.out _ _|with_reducible exact P9.out _ _)|(go_at_call 171;with_reducible exact O.out.at _ _)))
       refine wpQuiet_nil ?_;intro _ o;obtain⟨⟨nq,osq⟩,a⟩:=o;subst a;go_wp2_with fail
       go_ret;exact⟨by rw[hF.out];simp,g.out.trans (ar.of _ _ _)⟩
      ·have V:=Lib.hid Qy
       cases X:rs k
       ·have J:=Lib.hid X
        rw[X]at O;have hF:Hid (bB n (fS nm z rs)=false):=j5 (i:=k) t (by unfold fS;rw[V.out,J.out];rfl);go_wp2_with fail
        refine wp_region_quiet_grown (by kernel_rfl) (by kernel_rfl) ?_;repeat(go_big_quiet_step (first|(go_at_call 197;first|with_reducible exact P8.out _ _|with_reducible exact P9.out _ _)|(go_at_call 171;with_reducible exact O.out.at _ _)))
        refine wpQuiet_nil ?_;intro _ o;obtain⟨⟨nq,osq⟩,a⟩:=o;subst a;go_wp2_with fail
        go_ret;exact⟨by rw[hF.out];simp,g.out.trans (ar.of _ _ _)⟩
       ·have J:=Lib.hid X
        rw[X]at O;go_wp2_with fail
        refine wp_region_quiet_grown (by kernel_rfl) (by kernel_rfl) ?_;repeat(go_big_quiet_step (first|(go_at_call 197;first|with_reducible exact P8.out _ _|with_reducible exact P9.out _ _)|(go_at_call 171;with_reducible exact O.out.at _ _)))
        refine wpQuiet_nil ?_;intro _ o;obtain⟨⟨nq,osq⟩,a⟩:=o;subst a;go_wp2_with fail
        refine⟨⟨k+1,by omega,by go_num,g.out.trans (ar.of _ _ _),bc m0 _ _,bc m1 _ _,bc m2 _ _,fun j hj=> ?_⟩,?_⟩
        ·rcases Nat.lt_succ_iff_lt_or_eq.1 hj with h|rfl
         ·exact Qt.out j h
         ·unfold fS;rw[V.out,J.out];rfl
        ·first|omega|(simp[intOf];omega)
     ·have QM:¬(k:Int)<n:=by omega
      have hF:Hid (bB n (fS nm z rs)=true):=j0 fun i hi=>Qt.out i (by omega);go_wp2_with fail
      go_ret;exact⟨by rw[hF.out];simp,g.out⟩
   |cons e0 e1 e2 p1 p2 Qz QA t G=>
    rename_i s x0 y0 q0;have QG:=Lib.hid (Av s P.heap.size x0 y0 b I wr e0 e1 k0 k1 p1 p2 ((r.out.trans H.out).plain QC.out) ((r.out.trans H.out).plain Qs.out) Qz QA);have Y:=Lib.hid G;have P4:=Lib.hid t;have QH:=G.shape;clear p1 p2 Qz QA G t;go_wp2_with fail
    refine QG.out.mono ?_;rintro e wz ⟨rfl,nz,rfl⟩;have K:Hid (ar wr (wr.drewN nz)):=ar.drewN _ _;have f2:=K.out.cell e2;rcases QH with rfl|⟨s',rfl⟩
    all_goals
     go_wp2_with fail
     refine⟨⟨Y.out.cV K.out,H.out.trans K.out,K.out.cell k0,K.out.cell k1,K.out.cell k2⟩,?_⟩;have:=P4.out;simp at this⊢;try omega
 ·have QD:((n:Int)==(Z:Int))=false:=by simp;omega
  have hd:Hid (decide (n=Z)=false):=by simp[Hid,P7]
  clear P7 P6 Qo Qp hq Qn Qr;go_enter Tryz.func171,Tryz.ntmps171;go_wp2_with fail
  refine Q.mono ?_;rintro e F ⟨rfl,rfl⟩;go_wp2_with fail
  refine R.mono ?_;rintro e F ⟨rfl,rfl⟩;go_wp2_with fail
  refine hL.out.mono ?_;rintro e F ⟨rfl,rfl⟩;go_wp2_with fail
  refine S.out.mono ?_;rintro e F ⟨rfl,rfl⟩;go_wp2_with fail
  refine wp_region_quiet_grown (by kernel_rfl) (by kernel_rfl) ?_;repeat(go_big_quiet_step (fail))
  refine wpQuiet_nil ?_;intro _ o;obtain⟨⟨nq,osq⟩,a⟩:=o;subst a;have d:ar w (grow (w.drewN nq) osq):=ar.of _ _ _;have hE:=Lib.hid (sQ fun W hW=>P3.out W (d.trans hW));have u1:=bc (d.cell ht);have u2:=bc (d.cell Qi);have u3:=d.cell hc;have u4:=d.cell Qk;have M:=Lib.hid d;clear g1 g2 d hL S Q R he A B C u p D l E m ay;generalize grow (w.drewN nq) osq=T at*;go_wp2_with fail
  refine wp_region_quiet_grown (by kernel_rfl) (by kernel_rfl) ?_;repeat(go_big_quiet_step (first|(go_at_call 195;with_reducible exact hE.out _ _)))
  refine wpQuiet_nil ?_;intro _ o;obtain⟨⟨nq,osq⟩,a⟩:=o;subst a;have N:=M.out.trans (ar.of T nq osq);have v3:=(ar.of T nq osq).cell u3;have v4:=(ar.of T nq osq).cell u4;have r:=Lib.hid N;clear hE u1 u2 u3 u4 N;generalize grow (T.drewN nq) osq=P at*;go_wp2_with fail
  go_ret;exact⟨by rw[hd.out];rfl,r.out⟩
end Go.Proofs.YtkfaiocajcjomaaGreatDoor
