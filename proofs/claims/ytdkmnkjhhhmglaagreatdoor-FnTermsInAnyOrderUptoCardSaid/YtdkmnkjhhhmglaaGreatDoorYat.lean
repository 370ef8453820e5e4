import Derived.Test.YtdkmnkjhhhmglaaGreatDoorYao
set_option maxRecDepth 100000
set_option maxHeartbeats 8000000
set_option linter.all false
namespace TS
open Go Go.RowKit Go.Sort
theorem bf{w:World}{a:Addr}{v:Value}(h:w.cell? a=some v):∀(n:Nat)(os:Array Obj),(grow (w.drewN n) os).cell? a=some v:=fun n os=>(au.of w n os).cell h
end TS
namespace Go.Proofs.YtdkmnkjhhhmglaaGreatDoor
open Go.RowKit TS Go.Sort
def ee(c:Nat)(x y st:Value)(r:Bool)(w:World):Prop:=∀(n:Nat)(os:Array Obj),Calls Tryz.prog 43 #[.pointer (some ⟨c,0,none⟩),x,y,st] (grow (w.drewN n) os) fun e a=>e= .returned (.bool r)∧au (grow (w.drewN n) os) a
theorem ee.at{c:Nat}{x y st:Value}{r:Bool}{w:World}(h:ee c x y st r w)(n:Nat)(os:Array Obj):
 Calls Tryz.prog 43 #[.pointer (some ⟨c,0,none⟩),x,y,st] (grow (w.drewN n) os) fun e a=>e= .returned (.bool r)∧∃p:GrownBy,a=grow (w.drewN p.n) p.os:=
 Calls.grown_of ((h n os).mono fun _ _ ⟨he,m,b,e⟩=>⟨he,m,b,e⟩)
theorem CQ(c b i:Nat)(x y st:Value)(w:World)(o p q t:Nat)(r:Bool)(v:st= .pointer none∨∃s,st= .pointer (some ⟨s,0,none⟩))(h1:w.cell? ⟨c,1,none⟩=some (.bool false))(A:w.cell? ⟨c,0,none⟩=some (.bool false))
 (j:Calls Tryz.prog 94 #[x] w fun e a=>e= .returned (.iface 140 (.pointer (some ⟨b,0,none⟩)))∧w=a)(k:Calls Tryz.prog 94 #[y] w fun e a=>e= .returned (.iface 140 (.pointer (some ⟨i,0,none⟩)))∧w=a)
 (he:(binOp .eql 38 (.iface 140 (.pointer (some ⟨b,0,none⟩))) (.iface 140 (.pointer (some ⟨i,0,none⟩)))).run Tryz.prog w= .ok (.bool false) w)
 (z:w.cell? ⟨b,0,none⟩=some (.iface o (.pointer (some ⟨p,0,none⟩))))(l:w.cell? ⟨i,0,none⟩=some (.iface q (.pointer (some ⟨t,0,none⟩))))(u:ee c (.iface o (.pointer (some ⟨p,0,none⟩))) (.iface q (.pointer (some ⟨t,0,none⟩))) st r w):
 Calls Tryz.prog 43 #[.pointer (some ⟨c,0,none⟩),x,y,st] w fun e a=>e= .returned (.bool r)∧au w a:=by
 have d:=an bE 140 b (by decide);have f:=an cS 140 b (by decide);have g:=bd asSlice b;have B:=bd asSlice i;have g1:=bf z;have g2:=bf l;have m:=Lib.hid u;clear u;go_enter Tryz.func43,Tryz.ntmps43;go_wp2_with fail
 refine j.mono ?_;rintro e a ⟨rfl,rfl⟩;go_wp2_with fail
 refine k.mono ?_;rintro e a ⟨rfl,rfl⟩;go_wp2_with fail
 refine wp_region_quiet_grown (by kernel_rfl) (by kernel_rfl) ?_;repeat(go_big_quiet_step (first|(go_at_call 43;with_reducible exact m.out.at _ _)))
 refine wpQuiet_nil ?_;intro _ n;obtain⟨⟨nq,osq⟩,h⟩:=n;subst h;go_wp2_with fail
 go_ret;exact⟨rfl,_,_,rfl⟩
theorem CR(c b k:Nat)(x y st:Value)(w:World)(q t u v:Nat)(r:Bool)(A:st= .pointer none∨∃s,st= .pointer (some ⟨s,0,none⟩))(h1:w.cell? ⟨c,1,none⟩=some (.bool false))(C:w.cell? ⟨c,0,none⟩=some (.bool false))
 (l:Calls Tryz.prog 94 #[x] w fun e a=>e= .returned (.iface 142 (.pointer (some ⟨b,0,none⟩)))∧w=a)(m:Calls Tryz.prog 94 #[y] w fun e a=>e= .returned (.iface 142 (.pointer (some ⟨k,0,none⟩)))∧w=a)
 (he:(binOp .eql 38 (.iface 142 (.pointer (some ⟨b,0,none⟩))) (.iface 142 (.pointer (some ⟨k,0,none⟩)))).run Tryz.prog w= .ok (.bool false) w)
 (B:w.cell? ⟨b,0,none⟩=some (.iface q (.pointer (some ⟨t,0,none⟩))))(n:w.cell? ⟨k,0,none⟩=some (.iface u (.pointer (some ⟨v,0,none⟩))))(z:ee c (.iface q (.pointer (some ⟨t,0,none⟩))) (.iface u (.pointer (some ⟨v,0,none⟩))) st r w):
 Calls Tryz.prog 43 #[.pointer (some ⟨c,0,none⟩),x,y,st] w fun e a=>e= .returned (.bool r)∧au w a:=by
 have g:=an bE 142 b (by decide);have h:=an cS 142 b (by decide);have i:=an asSlice 142 b (by decide);have f:=an dg 142 b (by decide);have d:=bd cT b;have D:=bd cT k;have g1:=bf B;have g2:=bf n;have o:=Lib.hid z;clear z;go_enter Tryz.func43,Tryz.ntmps43;go_wp2_with fail
 refine l.mono ?_;rintro e a ⟨rfl,rfl⟩;go_wp2_with fail
 refine m.mono ?_;rintro e a ⟨rfl,rfl⟩;go_wp2_with fail
 refine wp_region_quiet_grown (by kernel_rfl) (by kernel_rfl) ?_;repeat(go_big_quiet_step (first|(go_at_call 43;with_reducible exact o.out.at _ _)))
 refine wpQuiet_nil ?_;intro _ p;obtain⟨⟨nq,osq⟩,j⟩:=p;subst j;go_wp2_with fail
 go_ret;exact⟨rfl,_,_,rfl⟩
theorem ee.b_{c:Nat}{x y st:Value}{r:Bool}{w b:World}(h:ee c x y st r w)(k:au w b):ee c x y st r b:=by
 intro n os;obtain⟨m,a,rfl⟩:=k;have:=h (m+n) (a++os);have e:grow (w.drewN (m+n)) (a++os)=grow ((grow (w.drewN m) a).drewN n) os:=by rw[←grow_grow,←World.drewN_drewN];rfl
 rw[e]at this;exact this
theorem CS(b:Nat)(w:World):Calls Tryz.prog 75 #[.iface 58 (.pointer (some ⟨b,0,none⟩))] w fun e a=>e= .returned (.pointer (some ⟨b,0,none⟩))∧w=a:=by
 have h1:=bd asNamed b;go_enter Tryz.func75,Tryz.ntmps75;go_wp2_with fail
 refine(d_ 58 _ (by decide) _).mono ?_;rintro e a ⟨rfl,rfl⟩;go_wp2_with fail
 go_ret;exact⟨rfl,rfl⟩
theorem CT(c b g:Nat)(x y st:Value)(w:World)(k m:Int)(n:st= .pointer none∨∃s,st= .pointer (some ⟨s,0,none⟩))(h1:w.cell? ⟨c,1,none⟩=some (.bool false))(p:w.cell? ⟨c,0,none⟩=some (.bool false))
 (h:Calls Tryz.prog 94 #[x] w fun e a=>e= .returned (.iface 99 (.pointer (some ⟨b,0,none⟩)))∧w=a)(i:Calls Tryz.prog 94 #[y] w fun e a=>e= .returned (.iface 99 (.pointer (some ⟨g,0,none⟩)))∧w=a)
 (he:(binOp .eql 38 (.iface 99 (.pointer (some ⟨b,0,none⟩))) (.iface 99 (.pointer (some ⟨g,0,none⟩)))).run Tryz.prog w= .ok (.bool false) w)
 (o:w.cell? ⟨b,0,none⟩=some (.int .i64 k))(j:w.cell? ⟨g,0,none⟩=some (.int .i64 m)):
 Calls Tryz.prog 43 #[.pointer (some ⟨c,0,none⟩),x,y,st] w fun e a=>e= .returned (.bool (k==m))∧au w a:=by
 have d:=bd bE b;have q:=bd bE g;have g1:=bf o;have g2:=bf j;go_enter Tryz.func43,Tryz.ntmps43;go_wp2_with fail
 refine h.mono ?_;rintro e a ⟨rfl,rfl⟩;go_wp2_with fail
 refine i.mono ?_;rintro e a ⟨rfl,rfl⟩;go_wp2_with fail
 refine wp_region_quiet_grown (by kernel_rfl) (by kernel_rfl) ?_;repeat(go_big_quiet_step (fail))
 refine wpQuiet_nil ?_;intro _ l;obtain⟨⟨nq,osq⟩,f⟩:=l;subst f;go_wp2_with fail
 go_ret;exact⟨rfl,_,_,rfl⟩
theorem CU(c b d:Nat)(x y st:Value)(w:World)(n f:Int)(B:0≤n)(j:0≤f)(t u v z:Nat)(r:Bool)(C:st= .pointer none∨∃s,st= .pointer (some ⟨s,0,none⟩))(h1:w.cell? ⟨c,1,none⟩=some (.bool false))(G:w.cell? ⟨c,0,none⟩=some (.bool false))
 (k:Calls Tryz.prog 94 #[x] w fun e a=>e= .returned (.iface 138 (.pointer (some ⟨b,0,none⟩)))∧w=a)(l:Calls Tryz.prog 94 #[y] w fun e a=>e= .returned (.iface 138 (.pointer (some ⟨d,0,none⟩)))∧w=a)
 (he:(binOp .eql 38 (.iface 138 (.pointer (some ⟨b,0,none⟩))) (.iface 138 (.pointer (some ⟨d,0,none⟩)))).run Tryz.prog w= .ok (.bool false) w)
 (D:w.cell? ⟨b,0,none⟩=some (.int .i64 n))(m:w.cell? ⟨d,0,none⟩=some (.int .i64 f))(E:w.cell? ⟨b,1,none⟩=some (.iface t (.pointer (some ⟨u,0,none⟩))))(o:w.cell? ⟨d,1,none⟩=some (.iface v (.pointer (some ⟨z,0,none⟩))))(A:ee c (.iface t (.pointer (some ⟨u,0,none⟩))) (.iface v (.pointer (some ⟨z,0,none⟩))) st r w):
 Calls Tryz.prog 43 #[.pointer (some ⟨c,0,none⟩),x,y,st] w fun e a=>e= .returned (.bool ((n==f)&&r))∧au w a:=by
 have g:=an bE 138 b (by decide);have h:=bd cS b;have H:=bd cS d;have g1:=bf D;have g2:=bf m;have g3:=bf E;have g4:=bf o;have I:decide (n<0)=false:=by simp;omega
 have J:decide (f<0)=false:=by simp;omega
 clear B j;have p:=Lib.hid A;clear A;cases F:(n==f)
 all_goals
  go_enter Tryz.func43,Tryz.ntmps43;go_wp2_with fail
  refine k.mono ?_;rintro e a ⟨rfl,rfl⟩;go_wp2_with fail
  refine l.mono ?_;rintro e a ⟨rfl,rfl⟩;go_wp2_with fail
  refine wp_region_quiet_grown (by kernel_rfl) (by kernel_rfl) ?_;repeat(go_big_quiet_step (first|(go_at_call 43;with_reducible exact p.out.at _ _)))
  refine wpQuiet_nil ?_;intro _ q;obtain⟨⟨nq,osq⟩,i⟩:=q;subst i;go_wp2_with fail
  go_ret;exact⟨by simp,_,_,rfl⟩
theorem CV(c b i:Nat)(x y st:Value)(w:World)(n t:Int)(E F G H:Nat)(r:Bool)(J:st= .pointer none∨∃s,st= .pointer (some ⟨s,0,none⟩))(h1:w.cell? ⟨c,1,none⟩=some (.bool false))(N:w.cell? ⟨c,0,none⟩=some (.bool false))
 (u:Calls Tryz.prog 94 #[x] w fun e f=>e= .returned (.iface 146 (.pointer (some ⟨b,0,none⟩)))∧w=f)(v:Calls Tryz.prog 94 #[y] w fun e f=>e= .returned (.iface 146 (.pointer (some ⟨i,0,none⟩)))∧w=f)
 (he:(binOp .eql 38 (.iface 146 (.pointer (some ⟨b,0,none⟩))) (.iface 146 (.pointer (some ⟨i,0,none⟩)))).run Tryz.prog w= .ok (.bool false) w)
 (K:w.cell? ⟨b,0,none⟩=some (.int .i64 n))(z:w.cell? ⟨i,0,none⟩=some (.int .i64 t))(L:w.cell? ⟨b,1,none⟩=some (.iface E (.pointer (some ⟨F,0,none⟩))))(A:w.cell? ⟨i,1,none⟩=some (.iface G (.pointer (some ⟨H,0,none⟩))))(I:ee c (.iface E (.pointer (some ⟨F,0,none⟩))) (.iface G (.pointer (some ⟨H,0,none⟩))) st r w):
 Calls Tryz.prog 43 #[.pointer (some ⟨c,0,none⟩),x,y,st] w fun e f=>e= .returned (.bool ((n==t)&&r))∧au w f:=by
 have j:=an bE 146 b (by decide);have k:=an cS 146 b (by decide);have l:=an asSlice 146 b (by decide);have h:=an dg 146 b (by decide);have g:=an cT 146 b (by decide);have m:=an asTuple 146 b (by decide);have a:=an gG 146 b (by decide);have o:=an iF 146 b (by decide);have d:=an dZ 146 b (by decide);have B:=an jA 146 b (by decide);have q:=bd eA b;have O:=bd eA i;have g1:=bf K;have g2:=bf z;have g3:=bf L;have g4:=bf A;have C:=Lib.hid I;clear I;cases M:(n==t)
 all_goals
  go_enter Tryz.func43,Tryz.ntmps43;go_wp2_with fail
  refine u.mono ?_;rintro e f ⟨rfl,rfl⟩;go_wp2_with fail
  refine v.mono ?_;rintro e f ⟨rfl,rfl⟩;go_wp2_with fail
  refine wp_region_quiet_grown (by kernel_rfl) (by kernel_rfl) ?_;repeat(go_big_quiet_step (first|(go_at_call 43;with_reducible exact C.out.at _ _)))
  refine wpQuiet_nil ?_;intro _ D;obtain⟨⟨nq,osq⟩,p⟩:=D;subst p;go_wp2_with fail
  go_ret;exact⟨by simp,_,_,rfl⟩
theorem CW(c b i:Nat)(x y st:Value)(w:World)(G H I J j k l m:Nat)(r K:Bool)(N:st= .pointer none∨∃s,st= .pointer (some ⟨s,0,none⟩))(h1:w.cell? ⟨c,1,none⟩=some (.bool false))(Q:w.cell? ⟨c,0,none⟩=some (.bool false))
 (v:Calls Tryz.prog 94 #[x] w fun e f=>e= .returned (.iface 144 (.pointer (some ⟨b,0,none⟩)))∧w=f)(z:Calls Tryz.prog 94 #[y] w fun e f=>e= .returned (.iface 144 (.pointer (some ⟨i,0,none⟩)))∧w=f)
 (he:(binOp .eql 38 (.iface 144 (.pointer (some ⟨b,0,none⟩))) (.iface 144 (.pointer (some ⟨i,0,none⟩)))).run Tryz.prog w= .ok (.bool false) w)
 (O:w.cell? ⟨b,0,none⟩=some (.iface G (.pointer (some ⟨H,0,none⟩))))(A:w.cell? ⟨i,0,none⟩=some (.iface I (.pointer (some ⟨J,0,none⟩))))(P:w.cell? ⟨b,1,none⟩=some (.iface j (.pointer (some ⟨k,0,none⟩))))(B:w.cell? ⟨i,1,none⟩=some (.iface l (.pointer (some ⟨m,0,none⟩))))(L:ee c (.iface G (.pointer (some ⟨H,0,none⟩))) (.iface I (.pointer (some ⟨J,0,none⟩))) st r w)(M:ee c (.iface j (.pointer (some ⟨k,0,none⟩))) (.iface l (.pointer (some ⟨m,0,none⟩))) st K w):
 Calls Tryz.prog 43 #[.pointer (some ⟨c,0,none⟩),x,y,st] w fun e f=>e= .returned (.bool (r&&K))∧au w f:=by
 have n:=an bE 144 b (by decide);have o:=an cS 144 b (by decide);have p:=an asSlice 144 b (by decide);have h:=an dg 144 b (by decide);have g:=an cT 144 b (by decide);have q:=an asTuple 144 b (by decide);have a:=an gG 144 b (by decide);have t:=an iF 144 b (by decide);have d:=an dZ 144 b (by decide);have C:=bd jA b;have R:=bd jA i;have g1:=bf O;have g2:=bf A;have g3:=bf P;have g4:=bf B;have D:=Lib.hid L;have E:=Lib.hid M;clear L M;cases r
 all_goals
  go_enter Tryz.func43,Tryz.ntmps43;go_wp2_with fail
  refine v.mono ?_;rintro e f ⟨rfl,rfl⟩;go_wp2_with fail
  refine z.mono ?_;rintro e f ⟨rfl,rfl⟩;go_wp2_with fail
  refine wp_region_quiet_grown (by kernel_rfl) (by kernel_rfl) ?_;repeat(go_big_quiet_step (first|(go_at_call 43;first|with_reducible exact D.out.at _ _|with_reducible exact E.out.at _ _)))
  refine wpQuiet_nil ?_;intro _ F;obtain⟨⟨nq,osq⟩,u⟩:=F;subst u;go_wp2_with fail
  go_ret;exact⟨by simp,_,_,rfl⟩
theorem CX(c b i:Nat)(x y st:Value)(w:World)(ob oc:Nat)(B:st= .pointer none∨∃s,st= .pointer (some ⟨s,0,none⟩))(h1:w.cell? ⟨c,1,none⟩=some (.bool false))(F:w.cell? ⟨c,0,none⟩=some (.bool false))
 (r:Calls Tryz.prog 94 #[x] w fun e a=>e= .returned (.iface 58 (.pointer (some ⟨b,0,none⟩)))∧w=a)(t:Calls Tryz.prog 94 #[y] w fun e a=>e= .returned (.iface 58 (.pointer (some ⟨i,0,none⟩)))∧w=a)
 (he:(binOp .eql 38 (.iface 58 (.pointer (some ⟨b,0,none⟩))) (.iface 58 (.pointer (some ⟨i,0,none⟩)))).run Tryz.prog w= .ok (.bool false) w)
 (C:w.cell? ⟨b,1,none⟩=some (.pointer (some ⟨ob,0,none⟩)))(u:w.cell? ⟨i,1,none⟩=some (.pointer (some ⟨oc,0,none⟩)))(z:Plain w ob)(A:Plain w oc):
 Calls Tryz.prog 43 #[.pointer (some ⟨c,0,none⟩),x,y,st] w fun e a=>e= .returned (.bool (decide (ob=oc)))∧au w a:=by
 have j:=an bE 58 b (by decide);have k:=an cS 58 b (by decide);have l:=an asSlice 58 b (by decide);have h:=an dg 58 b (by decide);have g:=an cT 58 b (by decide);have m:=an asTuple 58 b (by decide);have d:=an gG 58 b (by decide);have o:=an iF 58 b (by decide);have f:=an dZ 58 b (by decide);have v:=an jA 58 b (by decide);have q:=an eA 58 b (by decide);have p:=bd asNamed b;have D:=Lib.hid (CS i w);have E:=Lib.hid (CF b i ob oc w C u z A);clear z A;go_enter Tryz.func43,Tryz.ntmps43;go_wp2_with fail
 refine r.mono ?_;rintro e a ⟨rfl,rfl⟩;go_wp2_with fail
 refine t.mono ?_;rintro e a ⟨rfl,rfl⟩;go_wp2_with fail
 refine D.out.mono ?_;rintro e a ⟨rfl,rfl⟩;go_wp2_with fail
 refine E.out.mono ?_;rintro e a ⟨rfl,n,rfl⟩;go_wp2_with fail
 go_ret;exact⟨rfl,au.drewN _ _⟩
end Go.Proofs.YtdkmnkjhhhmglaaGreatDoor
namespace TS
open Go Go.RowKit Go.Sort
def bJ(n:Nat)(r:Nat→Bool):Bool:=(List.range n).all r
theorem kC{n:Nat}{r:Nat→Bool}(h:∀i,i<n→r i=true):bJ n r=true:=by unfold bJ;rw[List.all_eq_true];intro i hi;exact h i (List.mem_range.1 hi)
theorem lC{n:Nat}{r:Nat→Bool}{i:Nat}(hi:i<n)(h:r i=false):bJ n r=false:=by
 rw[Bool.eq_false_iff];intro ha;unfold bJ at ha;rw[List.all_eq_true]at ha;rw[ha i (List.mem_range.2 hi)]at h;cases h
theorem bw.b_{w c:World}{a:Option Addr}{n:Nat}{f:Nat→Nat}(h:bw w a n f)(k:au w c):bw c a n f:=fun i hi=>let⟨b,o,e,d⟩:=h i hi;⟨b,o,e,k.cell d⟩
end TS
namespace Go.Proofs.YtdkmnkjhhhmglaaGreatDoor
open Go.RowKit TS Go.Sort
theorem CY(c b G n v W H:Nat)(a a':Option Addr)(f X Y Z yt yb:Nat→Nat)(rs:Nat→Bool)(st:Value)(w:World)(PO:st= .pointer none∨∃s,st= .pointer (some ⟨s,0,none⟩))(h1:w.cell? ⟨c,1,none⟩=some (.bool false))
 (he:(binOp .eql 38 (.iface 103 (.pointer (some ⟨b,0,none⟩))) (.iface 103 (.pointer (some ⟨G,0,none⟩)))).run Tryz.prog w= .ok (.bool false) w)(hn:n≤1099511627776)
 (hc:w.cell? ⟨b,0,none⟩=some (.slice a n W))(I:w.cell? ⟨G,0,none⟩=some (.slice a' v H))(hp:bw w a n f)(J:bw w a' v X)
 (hx:∀i,i<n→w.cell? ⟨f i,3,none⟩=some (.iface (Y i) (.pointer (some ⟨Z i,0,none⟩))))(hy:∀i,i<v→w.cell? ⟨X i,3,none⟩=some (.iface (yt i) (.pointer (some ⟨yb i,0,none⟩))))
 (hP:n=v→∀i,i<n→ee c (.iface (Y i) (.pointer (some ⟨Z i,0,none⟩))) (.iface (yt i) (.pointer (some ⟨yb i,0,none⟩))) st (rs i) w):
 Calls Tryz.prog 43 #[.pointer (some ⟨c,0,none⟩),.iface 103 (.pointer (some ⟨b,0,none⟩)),.iface 103 (.pointer (some ⟨G,0,none⟩)),st] w fun e x=>e= .returned (.bool (decide (n=v)&&bJ n rs))∧au w x:=by
 have p:=an bE 103 b (by decide);have q:=an cS 103 b (by decide);have r:=an asSlice 103 b (by decide);have l:=an dg 103 b (by decide);have g:=an cT 103 b (by decide);have t:=bd asTuple b;have ay:=bd asTuple G;have A:=Lib.hid (d_ 103 (.pointer (some ⟨b,0,none⟩)) (by decide) w);have B:=Lib.hid (d_ 103 (.pointer (some ⟨G,0,none⟩)) (by decide) w);have R:=Lib.hid (mU b n W a w hc);have C:=Lib.hid (mU G v H a' w I);have hq:=Lib.hid hp;have K:=Lib.hid J;have L:=Lib.hid hx;have M:=Lib.hid hy;have D:=Lib.hid hP;clear hp J hx hy hP;by_cases E:n=v
 ·subst E
  have S:((n:Int)==(n:Int))=true:=by simp
  have T:=Lib.hid (D.out rfl);clear D;go_enter Tryz.func43,Tryz.ntmps43;go_wp2_with fail
  refine A.out.mono ?_;rintro e x ⟨rfl,rfl⟩;go_wp2_with fail
  refine B.out.mono ?_;rintro e x ⟨rfl,rfl⟩;go_wp2_with fail
  refine R.out.mono ?_;rintro e x ⟨rfl,rfl⟩;go_wp2_with fail
  refine C.out.mono ?_;rintro e x ⟨rfl,rfl⟩;go_wp2_with fail
  clear A B R C he p q r l g t ay;have hw:Hid (au w w):=au.refl w;go_loopw [303] (fun i wr=> ∃k:Nat,k≤n∧i= .int .i64 k∧au w wr∧∀j,j<k→rs j=true) (fun i _=>n- (intOf i).toNat)
  case atStart=>exact⟨0,Nat.zero_le _,rfl,hw.out,fun j U=>absurd U (Nat.not_lt_zero _)⟩
  case round=>
   obtain⟨k,hk,rfl,Q,hA⟩:=hrel;have d:=Lib.hid Q;have N:=Lib.hid hA;have PQ:=Q.cell hc;have PM:=Q.cell I;clear Q hA;by_cases m:k<n
   ·have PN:(k:Int)<n:=by omega
    obtain⟨ab,ao,rfl,O⟩:=hq.out k m;obtain⟨PR,PS,rfl,z⟩:=K.out k m;have hr:=d.out.cell O;have PT:=d.out.cell z;have hv:=d.out.cell (L.out k m);have V:=d.out.cell (M.out k m);have g1:=bf hv;have g2:=bf V;have y:=Lib.hid ((T.out k m).b_ d.out);clear O z;cases o:rs k
    ·have hF:Hid (bJ n rs=false):=lC m o
     rw[o]at y;clear o;go_wp2_with fail
     refine wp_region_quiet_grown (by kernel_rfl) (by kernel_rfl) ?_;repeat(go_big_quiet_step (first|(go_at_call 43;with_reducible exact y.out.at _ _)))
     refine wpQuiet_nil ?_;intro _ F;obtain⟨⟨nq,osq⟩,u⟩:=F;subst u;go_wp2_with fail
     go_ret;exact⟨by rw[hF.out];simp,d.out.trans (au.of _ _ _)⟩
    ·rw[o]at y
     have P:=Lib.hid o;clear o;go_wp2_with fail
     refine wp_region_quiet_grown (by kernel_rfl) (by kernel_rfl) ?_;repeat(go_big_quiet_step (first|(go_at_call 43;with_reducible exact y.out.at _ _)))
     refine wpQuiet_nil ?_;intro _ F;obtain⟨⟨nq,osq⟩,u⟩:=F;subst u;go_wp2_with fail
     refine⟨⟨k+1,by omega,by go_num,d.out.trans (au.of _ _ _),fun j U=> ?_⟩,?_⟩
     ·rcases Nat.lt_succ_iff_lt_or_eq.1 U with h|rfl
      ·exact N.out j h
      ·exact P.out
     ·first|omega|(simp[intOf];omega)
   ·have PU:¬(k:Int)<n:=by omega
    have hT:Hid (bJ n rs=true):=kC fun i hi=>N.out i (by omega);go_wp2_with fail
    go_ret;exact⟨by rw[hT.out];simp,d.out⟩
 ·have S:((n:Int)==(v:Int))=false:=by simp;omega
  have hd:Hid (decide (n=v)=false):=by simp[Hid,E]
  clear E D L M hq K;go_enter Tryz.func43,Tryz.ntmps43;go_wp2_with fail
  refine A.out.mono ?_;rintro e x ⟨rfl,rfl⟩;go_wp2_with fail
  refine B.out.mono ?_;rintro e x ⟨rfl,rfl⟩;go_wp2_with fail
  refine R.out.mono ?_;rintro e x ⟨rfl,rfl⟩;go_wp2_with fail
  refine C.out.mono ?_;rintro e x ⟨rfl,rfl⟩;go_wp2_with fail
  go_ret;exact⟨by rw[hd.out];rfl,au.refl _⟩
theorem vI(W:World)(v:Option Addr):(binOp .eql 38 (.iface 103 (.pointer none)) (.iface 103 (.pointer v))).run Tryz.prog W= .ok (.bool v.isNone) W:=by
 obtain⟨e,i,j,b,hi,a,f,g⟩:=oQ;have c:∀d,(Op.equalIn (d+2) 38 (.iface 103 (.pointer none)) (.iface 103 (.pointer v))).run Tryz.prog W= .ok v.isNone W:=fun d=>by simp[Op.equalIn,run_underlying Tryz.underlying38,run_underlying b,typeInfo,hi,a]
 simp only[binOp];simp[Op.equal,Op.maxDepth,c 9998]
theorem CZ(W:World)(a:Addr):(binOp .eql 38 (.iface 103 (.pointer (some a))) (.iface 103 (.pointer none))).run Tryz.prog W= .ok (.bool false) W:=by
 obtain⟨f,i,j,c,hi,b,g,h⟩:=oQ;have e:∀d,(Op.equalIn (d+2) 38 (.iface 103 (.pointer (some a))) (.iface 103 (.pointer none))).run Tryz.prog W= .ok false W:=fun d=>by simp[Op.equalIn,run_underlying Tryz.underlying38,run_underlying c,typeInfo,hi,b]
 simp only[binOp];simp[Op.equal,Op.maxDepth,e 9998]
theorem id_eq(c:Nat)(x y st:Value)(t b:Nat)(v:Value)(w:World)(d:Calls Tryz.prog 94 #[x] w fun e a=>e= .returned (.iface t v)∧w=a)(f:Calls Tryz.prog 94 #[y] w fun e a=>e= .returned (.iface t v)∧w=a)
 (he:(binOp .eql 38 (.iface t v) (.iface t v)).run Tryz.prog w= .ok (.bool true) w):
 Calls Tryz.prog 43 #[.pointer (some ⟨c,0,none⟩),x,y,st] w fun e a=>e= .returned (.bool true)∧w=a:=by
 go_enter Tryz.func43,Tryz.ntmps43;go_wp2_with fail
 refine d.mono ?_;rintro e a ⟨rfl,rfl⟩;go_wp2_with fail
 refine f.mono ?_;rintro e a ⟨rfl,rfl⟩;go_wp2_with fail
 go_ret;exact⟨rfl,rfl⟩
theorem C0(c a l f:Nat)(a':Option Addr)(st:Value)(w:World)(q:st= .pointer none∨∃s,st= .pointer (some ⟨s,0,none⟩))(h1:w.cell? ⟨c,1,none⟩=some (.bool false))(r:0<l)(m:w.cell? ⟨a,0,none⟩=some (.slice a' l f)):
 Calls Tryz.prog 43 #[.pointer (some ⟨c,0,none⟩),.iface 103 (.pointer none),.iface 103 (.pointer (some ⟨a,0,none⟩)),st] w fun e g=>e= .returned (.bool false)∧w=g:=by
 have h:∀W,(Instr.typeAssert (.iface 103 (.pointer none)) 38 99 true).run Tryz.prog W= .ok (.tuple #[.pointer none,.bool false]) W:=fun W=>by rw[bE,if_neg (by decide)]
 have i:∀W,(Instr.typeAssert (.iface 103 (.pointer none)) 38 138 true).run Tryz.prog W= .ok (.tuple #[.pointer none,.bool false]) W:=fun W=>by rw[cS,if_neg (by decide)]
 have j:∀W,(Instr.typeAssert (.iface 103 (.pointer none)) 38 140 true).run Tryz.prog W= .ok (.tuple #[.pointer none,.bool false]) W:=fun W=>by rw[asSlice,if_neg (by decide)]
 have d:∀W,(Instr.typeAssert (.iface 103 (.pointer none)) 38 167 true).run Tryz.prog W= .ok (.tuple #[.pointer none,.bool false]) W:=fun W=>by rw[dg,if_neg (by decide)]
 have b:∀W,(Instr.typeAssert (.iface 103 (.pointer none)) 38 142 true).run Tryz.prog W= .ok (.tuple #[.pointer none,.bool false]) W:=fun W=>by rw[cT,if_neg (by decide)]
 have k:∀W,(Instr.typeAssert (.iface 103 (.pointer none)) 38 103 true).run Tryz.prog W= .ok (.tuple #[.pointer none,.bool true]) W:=fun W=>by rw[asTuple,if_pos rfl]
 have v:=bd asTuple a;have n:=Lib.hid (d_ 103 (.pointer none) (by decide) w);have o:=Lib.hid (d_ 103 (.pointer (some ⟨a,0,none⟩)) (by decide) w);have t:=Lib.hid (vD w);have p:=Lib.hid (mU a l f a' w m);have he:(binOp .eql 38 (.iface 103 (.pointer none)) (.iface 103 (.pointer (some ⟨a,0,none⟩)))).run Tryz.prog w= .ok (.bool false) w:=vI w (some ⟨a,0,none⟩);have u:((0:Int)==(l:Int))=false:=by simp;omega
 go_enter Tryz.func43,Tryz.ntmps43;go_wp2_with fail
 refine n.out.mono ?_;rintro e g ⟨rfl,rfl⟩;go_wp2_with fail
 refine o.out.mono ?_;rintro e g ⟨rfl,rfl⟩;go_wp2_with fail
 refine t.out.mono ?_;rintro e g ⟨rfl,rfl⟩;go_wp2_with fail
 refine p.out.mono ?_;rintro e g ⟨rfl,rfl⟩;go_wp2_with fail
 go_ret;exact⟨rfl,rfl⟩
theorem C1(c b n p:Nat)(a:Option Addr)(st:Value)(w:World)(q:st= .pointer none∨∃s,st= .pointer (some ⟨s,0,none⟩))(h1:w.cell? ⟨c,1,none⟩=some (.bool false))(r:0<n)(t:w.cell? ⟨b,0,none⟩=some (.slice a n p)):
 Calls Tryz.prog 43 #[.pointer (some ⟨c,0,none⟩),.iface 103 (.pointer (some ⟨b,0,none⟩)),.iface 103 (.pointer none),st] w fun e g=>e= .returned (.bool false)∧w=g:=by
 have h:=an bE 103 b (by decide);have i:=an cS 103 b (by decide);have j:=an asSlice 103 b (by decide);have f:=an dg 103 b (by decide);have d:=an cT 103 b (by decide);have k:=bd asTuple b;have x:∀W,(Instr.typeAssert (.iface 103 (.pointer none)) 38 103 true).run Tryz.prog W= .ok (.tuple #[.pointer none,.bool true]) W:=fun W=>by rw[asTuple,if_pos rfl]
 have l:=Lib.hid (d_ 103 (.pointer (some ⟨b,0,none⟩)) (by decide) w);have m:=Lib.hid (d_ 103 (.pointer none) (by decide) w);have u:=Lib.hid (mU b n p a w t);have o:=Lib.hid (vD w);have he:(binOp .eql 38 (.iface 103 (.pointer (some ⟨b,0,none⟩))) (.iface 103 (.pointer none))).run Tryz.prog w= .ok (.bool false) w:=CZ w ⟨b,0,none⟩;have v:((n:Int)==(0:Int))=false:=by simp;omega
 go_enter Tryz.func43,Tryz.ntmps43;go_wp2_with fail
 refine l.out.mono ?_;rintro e g ⟨rfl,rfl⟩;go_wp2_with fail
 refine m.out.mono ?_;rintro e g ⟨rfl,rfl⟩;go_wp2_with fail
 refine u.out.mono ?_;rintro e g ⟨rfl,rfl⟩;go_wp2_with fail
 refine o.out.mono ?_;rintro e g ⟨rfl,rfl⟩;go_wp2_with fail
 go_ret;exact⟨rfl,rfl⟩
theorem C2(c b g:Nat)(x y st:Value)(w:World)(pa i E j:Option Addr)(v p r F:Bool)(I:st= .pointer none∨∃s,st= .pointer (some ⟨s,0,none⟩))(h1:w.cell? ⟨c,1,none⟩=some (.bool false))(N:w.cell? ⟨c,0,none⟩=some (.bool false))
 (q:Calls Tryz.prog 94 #[x] w fun e d=>e= .returned (.iface 102 (.pointer (some ⟨b,0,none⟩)))∧w=d)(t:Calls Tryz.prog 94 #[y] w fun e d=>e= .returned (.iface 102 (.pointer (some ⟨g,0,none⟩)))∧w=d)
 (he:(binOp .eql 38 (.iface 102 (.pointer (some ⟨b,0,none⟩))) (.iface 102 (.pointer (some ⟨g,0,none⟩)))).run Tryz.prog w= .ok (.bool false) w)
 (J:w.cell? ⟨b,4,none⟩=some (.bool v))(u:w.cell? ⟨g,4,none⟩=some (.bool p))(K:w.cell? ⟨b,2,none⟩=some (.pointer pa))(z:w.cell? ⟨g,2,none⟩=some (.pointer i))(L:w.cell? ⟨b,3,none⟩=some (.pointer E))(A:w.cell? ⟨g,3,none⟩=some (.pointer j))(G:ee c (.iface 103 (.pointer pa)) (.iface 103 (.pointer i)) st r w)(H:ee c (.iface 103 (.pointer E)) (.iface 103 (.pointer j)) st F w):
 Calls Tryz.prog 43 #[.pointer (some ⟨c,0,none⟩),x,y,st] w fun e d=>e= .returned (.bool ((v==p)&&(r&&F)))∧au w d:=by
 have k:=an bE 102 b (by decide);have l:=an cS 102 b (by decide);have m:=an asSlice 102 b (by decide);have h:=an dg 102 b (by decide);have f:=an cT 102 b (by decide);have n:=an asTuple 102 b (by decide);have a:=bd gG b;have O:=bd gG g;have g1:=bf K;have g2:=bf z;have g3:=bf L;have g4:=bf A;have g5:=bf J;have g6:=bf u;have B:=Lib.hid G;have C:=Lib.hid H;clear G H;cases M:(v==p)<;>cases r
 all_goals
  go_enter Tryz.func43,Tryz.ntmps43;go_wp2_with fail
  refine q.mono ?_;rintro e d ⟨rfl,rfl⟩;go_wp2_with fail
  refine t.mono ?_;rintro e d ⟨rfl,rfl⟩;go_wp2_with fail
  refine wp_region_quiet_grown (by kernel_rfl) (by kernel_rfl) ?_;repeat(go_big_quiet_step (first|(go_at_call 43;first|with_reducible exact B.out.at _ _|with_reducible exact C.out.at _ _)))
  refine wpQuiet_nil ?_;intro _ D;obtain⟨⟨nq,osq⟩,o⟩:=D;subst o;go_wp2_with fail
  go_ret;exact⟨by simp,_,_,rfl⟩
end Go.Proofs.YtdkmnkjhhhmglaaGreatDoor
namespace Go.Proofs.YtdkmnkjhhhmglaaGreatDoor
open Go.RowKit TS Go.Sort
def gI(tg a nm b:Nat→ByteArray)(rs:Nat→Bool)(i:Nat):Bool:=((tg i).toList==(a i).toList)&&(((nm i).toList==(b i).toList)&&rs i)
theorem vJ{w:World}{b n c i a d:Nat}{s:ByteArray}(h1:w.cell? ⟨b,1,none⟩=some (.slice (some ⟨a,d,none⟩) n c))(hi:i<n)(g:w.cell? ⟨a,d+i,none⟩=some (.string s))(m:Nat)(os:Array Obj):
 Calls Tryz.prog 97 #[.pointer (some ⟨b,0,none⟩),.int .i64 i] (grow (w.drewN m) os) fun e f=>e= .returned (.string s)∧∃p:GrownBy,f=grow (w.drewN p.n) p.os:=
 Calls.grown_of ((CA b n c i a d s _ (bf h1 m os) hi (bf g m os)).mono fun _ _ ⟨he,e⟩=>⟨he,0,#[],by rw[←e,grow_empty];rfl⟩)
theorem C3{w:World}{b:Nat}{q:Option Addr}{s t:ByteArray}(c:aM s=true)(hT:br w)(h2:w.cell? ⟨b,2,none⟩=some (.string s))(m:Nat)(os:Array Obj):
 Calls Tryz.prog 98 #[.pointer (some ⟨b,0,none⟩),.pointer q,.string t,.bool false] (grow (w.drewN m) os) fun e a=>e= .returned (.bool (s.toList==t.toList))∧∃p:GrownBy,a=grow (w.drewN p.n) p.os:=
 Calls.grown_of ((CC b q s t c _ ((au.of w m os).cap hT) (bf h2 m os)).mono fun _ _ ⟨he,e⟩=>⟨he,0,#[],by rw[←e,grow_empty];rfl⟩)
theorem C4(c b V:Nat)(x y st:Value)(w:World)(n C cc W tc PY:Nat)(a a' ta X:Option Addr)(f Y xt xb yt yb:Nat→Nat)(tg p nm m:Nat→ByteArray)(q:Nat→Option Addr)(rs:Nat→Bool)(P6:st= .pointer none∨∃s,st= .pointer (some ⟨s,0,none⟩))(h1:w.cell? ⟨c,1,none⟩=some (.bool false))(h0:w.cell? ⟨c,0,none⟩=some (.bool false))
 (P:Calls Tryz.prog 94 #[x] w fun e u=>e= .returned (.iface 167 (.pointer (some ⟨b,0,none⟩)))∧w=u)(Q:Calls Tryz.prog 94 #[y] w fun e u=>e= .returned (.iface 167 (.pointer (some ⟨V,0,none⟩)))∧w=u)
 (he:(binOp .eql 38 (.iface 167 (.pointer (some ⟨b,0,none⟩))) (.iface 167 (.pointer (some ⟨V,0,none⟩)))).run Tryz.prog w= .ok (.bool false) w)
 (hn:n≤1099511627776)(hT:br w)
 (hc:w.cell? ⟨b,0,none⟩=some (.slice a n cc))(Z:w.cell? ⟨V,0,none⟩=some (.slice a' C W))(hp:bw w a n f)(PM:bw w a' C Y)
 (ht:w.cell? ⟨b,1,none⟩=some (.slice ta n tc))(PZ:w.cell? ⟨V,1,none⟩=some (.slice X C PY))
 (PN:∀i,i<n→∃b0 o,ta=some ⟨b0,o,none⟩∧w.cell? ⟨b0,o+i,none⟩=some (.string (tg i)))(M:∀i,i<C→∃b0 o,X=some ⟨b0,o,none⟩∧w.cell? ⟨b0,o+i,none⟩=some (.string (p i)))
 (hm:∀i,i<n→w.cell? ⟨f i,2,none⟩=some (.string (nm i))∧aM (nm i)=true∧w.cell? ⟨f i,5,none⟩=some (.bool false)∧w.cell? ⟨f i,3,none⟩=some (.iface (xt i) (.pointer (some ⟨xb i,0,none⟩))))
 (PO:∀i,i<C→w.cell? ⟨Y i,2,none⟩=some (.string (m i))∧w.cell? ⟨Y i,1,none⟩=some (.pointer (q i))∧w.cell? ⟨Y i,5,none⟩=some (.bool false)∧w.cell? ⟨Y i,3,none⟩=some (.iface (yt i) (.pointer (some ⟨yb i,0,none⟩))))
 (hP:n=C→∀i,i<n→ee c (.iface (xt i) (.pointer (some ⟨xb i,0,none⟩))) (.iface (yt i) (.pointer (some ⟨yb i,0,none⟩))) st (rs i) w):
 Calls Tryz.prog 43 #[.pointer (some ⟨c,0,none⟩),x,y,st] w fun e u=>e= .returned (.bool (decide (n=C)&&bJ n (gI tg p nm m rs)))∧au w u:=by
 have D:=an bE 167 b (by decide);have E:=an cS 167 b (by decide);have F:=an asSlice 167 b (by decide);have v:=bd dg b;have ay:=bd dg V;have hL:=Lib.hid (vC b n cc a w hc);have R:=Lib.hid (vC V C W a' w Z);have hq:=Lib.hid hp;have PQ:=Lib.hid PM;have PR:=Lib.hid hm;have PS:=Lib.hid PO;have S:=Lib.hid hP;have hu:=Lib.hid PN;have PT:=Lib.hid M;have P0:=Lib.hid hT;clear hp PM hm PO hP PN M hT;by_cases T:n=C
 ·subst T
  have P1:((n:Int)==(n:Int))=true:=by simp
  have P2:=Lib.hid (S.out rfl);clear S;go_enter Tryz.func43,Tryz.ntmps43;go_wp2_with fail
  refine P.mono ?_;rintro e u ⟨rfl,rfl⟩;go_wp2_with fail
  refine Q.mono ?_;rintro e u ⟨rfl,rfl⟩;go_wp2_with fail
  refine hL.out.mono ?_;rintro e u ⟨rfl,rfl⟩;go_wp2_with fail
  refine R.out.mono ?_;rintro e u ⟨rfl,rfl⟩;go_wp2_with fail
  clear P Q hL R he D E F v ay;have hw:Hid (au w w):=au.refl w;go_loopw [191] (fun i wr=> ∃k:Nat,k≤n∧i= .int .i64 k∧au w wr∧∀j,j<k→gI tg p nm m rs j=true) (fun i _=>n- (intOf i).toNat)
  case atStart=>exact⟨0,Nat.zero_le _,rfl,hw.out,fun j hj=>absurd hj (Nat.not_lt_zero _)⟩
  case round=>
   obtain⟨k,hk,rfl,U,hA⟩:=hrel;have d:=Lib.hid U;have PU:=Lib.hid hA;have P7:=U.cell hc;have P4:=U.cell Z;have P3:=U.cell ht;have PV:=U.cell PZ;have g0:=bf (U.cell h0);clear U hA;by_cases g:k<n
   ·have P5:(k:Int)<n:=by omega
    obtain⟨ab,ao,rfl,z⟩:=hq.out k g;obtain⟨P8,P9,rfl,N⟩:=PQ.out k g;have hr:=d.out.cell z;have P_:=d.out.cell N;obtain⟨v2,vB,v5,v3⟩:=PR.out k g;obtain⟨y2,y1,y5,y3⟩:=PS.out k g;have g1:=bf (d.out.cell v5);have g2:=bf (d.out.cell y5);have g3:=bf (d.out.cell v3);have g4:=bf (d.out.cell y3);have g5:=bf (d.out.cell y1);have g6:=bf (d.out.cell y2);obtain⟨tb,oo,rfl,PW⟩:=hu.out k g;obtain⟨Qa,Qb,rfl,O⟩:=PT.out k g;have H:=Lib.hid (vJ P3 g (d.out.cell PW));have I:=Lib.hid (vJ PV g (d.out.cell O));have A:=Lib.hid (C3 (q:=q k) (t:=m k) vB (d.out.cap P0.out) (d.out.cell v2));have B:=Lib.hid ((P2.out k g).b_ d.out);clear z N PW O v2 vB v5 v3 y2 y1 y5 y3;cases PX:((tg k).toList==(p k).toList)
    ·have G:=Lib.hid PX
     have hF:Hid (bJ n (gI tg p nm m rs)=false):=lC (i:=k) g (by unfold gI;rw[G.out];rfl);go_wp2_with fail
     refine wp_region_quiet_grown (by kernel_rfl) (by kernel_rfl) ?_;repeat(go_big_quiet_step (first|(go_at_call 97;first|with_reducible exact H.out _ _|with_reducible exact I.out _ _)|(go_at_call 98;with_reducible exact A.out _ _)|(go_at_call 43;with_reducible exact B.out.at _ _)))
     refine wpQuiet_nil ?_;intro _ r;obtain⟨⟨nq,osq⟩,l⟩:=r;subst l;go_wp2_with fail
     go_ret;exact⟨by rw[hF.out];simp,d.out.trans (au.of _ _ _)⟩
    ·have G:=Lib.hid PX
     cases J:((nm k).toList==(m k).toList)
     ·have K:=Lib.hid J
      rw[J]at A;have hF:Hid (bJ n (gI tg p nm m rs)=false):=lC (i:=k) g (by unfold gI;rw[G.out,K.out];rfl);go_wp2_with fail
      refine wp_region_quiet_grown (by kernel_rfl) (by kernel_rfl) ?_;repeat(go_big_quiet_step (first|(go_at_call 97;first|with_reducible exact H.out _ _|with_reducible exact I.out _ _)|(go_at_call 98;with_reducible exact A.out _ _)|(go_at_call 43;with_reducible exact B.out.at _ _)))
      refine wpQuiet_nil ?_;intro _ r;obtain⟨⟨nq,osq⟩,l⟩:=r;subst l;go_wp2_with fail
      go_ret;exact⟨by rw[hF.out];simp,d.out.trans (au.of _ _ _)⟩
     ·have K:=Lib.hid J
      rw[J]at A;cases L:rs k
      ·have z:=Lib.hid L
       rw[L]at B;have hF:Hid (bJ n (gI tg p nm m rs)=false):=lC (i:=k) g (by unfold gI;rw[G.out,K.out,z.out];rfl);go_wp2_with fail
       refine wp_region_quiet_grown (by kernel_rfl) (by kernel_rfl) ?_;repeat(go_big_quiet_step (first|(go_at_call 97;first|with_reducible exact H.out _ _|with_reducible exact I.out _ _)|(go_at_call 98;with_reducible exact A.out _ _)|(go_at_call 43;with_reducible exact B.out.at _ _)))
       refine wpQuiet_nil ?_;intro _ r;obtain⟨⟨nq,osq⟩,l⟩:=r;subst l;go_wp2_with fail
       go_ret;exact⟨by rw[hF.out];simp,d.out.trans (au.of _ _ _)⟩
      ·have z:=Lib.hid L
       rw[L]at B;go_wp2_with fail
       refine wp_region_quiet_grown (by kernel_rfl) (by kernel_rfl) ?_;repeat(go_big_quiet_step (first|(go_at_call 97;first|with_reducible exact H.out _ _|with_reducible exact I.out _ _)|(go_at_call 98;with_reducible exact A.out _ _)|(go_at_call 43;with_reducible exact B.out.at _ _)))
       refine wpQuiet_nil ?_;intro _ r;obtain⟨⟨nq,osq⟩,l⟩:=r;subst l;go_wp2_with fail
       refine⟨⟨k+1,by omega,by go_num,d.out.trans (au.of _ _ _),fun j hj=> ?_⟩,?_⟩
       ·rcases Nat.lt_succ_iff_lt_or_eq.1 hj with h|rfl
        ·exact PU.out j h
        ·unfold gI;rw[G.out,K.out,z.out];rfl
       ·first|omega|(simp[intOf];omega)
   ·have Qc:¬(k:Int)<n:=by omega
    have hF:Hid (bJ n (gI tg p nm m rs)=true):=kC fun i hi=>PU.out i (by omega);go_wp2_with fail
    go_ret;exact⟨by rw[hF.out];simp,d.out⟩
 ·have P1:((n:Int)==(C:Int))=false:=by simp;omega
  have hd:Hid (decide (n=C)=false):=by simp[Hid,T]
  clear T S PR PS hq PQ hu PT;go_enter Tryz.func43,Tryz.ntmps43;go_wp2_with fail
  refine P.mono ?_;rintro e u ⟨rfl,rfl⟩;go_wp2_with fail
  refine Q.mono ?_;rintro e u ⟨rfl,rfl⟩;go_wp2_with fail
  refine hL.out.mono ?_;rintro e u ⟨rfl,rfl⟩;go_wp2_with fail
  refine R.out.mono ?_;rintro e u ⟨rfl,rfl⟩;go_wp2_with fail
  go_ret;exact⟨by rw[hd.out];rfl,au.refl _⟩
end Go.Proofs.YtdkmnkjhhhmglaaGreatDoor
namespace TS
open Go Go.RowKit Go.Sort
inductive gU (w:World) (b a:Nat):Value→Prop
 |nil:gU w b a (.pointer none)
 |cons {s x y:Nat} {q:Value}:w.cell? ⟨s,0,none⟩=some (.pointer (some ⟨x,0,none⟩))→w.cell? ⟨s,1,none⟩=some (.pointer (some ⟨y,0,none⟩))→w.cell? ⟨s,2,none⟩=some q→Plain w x→Plain w y→x≠b→(x=a→y≠b)→kA q<s+1→gU w b a q→gU w b a (.pointer (some ⟨s,0,none⟩))
theorem gU.b_{w a:World}{b c:Nat}{q:Value}(h:gU w b c q)(k:au w a):gU a b c q:=by
 induction h with
 |nil=>exact .nil
 |cons h1 h2 h3 d e f h7 g _ ih=>exact .cons (k.cell h1) (k.cell h2) (k.cell h3) (k.plain d) (k.plain e) f h7 g ih
theorem gU.shape{w:World}{b a:Nat}{q:Value}(h:gU w b a q):q= .pointer none∨∃s,q= .pointer (some ⟨s,0,none⟩):=by
 cases h with
 |nil=>exact .inl rfl
 |cons=>exact .inr ⟨_,rfl⟩
end TS
namespace Go.Proofs.YtdkmnkjhhhmglaaGreatDoor
open Go.RowKit TS Go.Sort
def fK(nm a:Nat→ByteArray)(rs:Nat→Bool)(i:Nat):Bool:=((nm i).toList==(a i).toList)&&rs i
theorem vK{w:World}{b:Nat}{q:Option Addr}{s:ByteArray}(c:aM s=true)(hT:br w)(h1:w.cell? ⟨b,1,none⟩=some (.pointer q))(h2:w.cell? ⟨b,2,none⟩=some (.string s))(m:Nat)(os:Array Obj):
 Calls Tryz.prog 103 #[.pointer (some ⟨b,0,none⟩)] (grow (w.drewN m) os) fun e a=>e= .returned (.string s)∧∃p:GrownBy,a=grow (w.drewN p.n) p.os:=
 Calls.grown_of ((oP b q s c _ ((au.of w m os).cap hT) (bf h1 m os) (bf h2 m os)).mono fun _ _ ⟨he,k,e⟩=>⟨he,k,#[],by rw[e,grow_empty]⟩)
theorem vL{f:FuncId}{args:Array Value}{v:Value}{w:World}(h:∀W,au w W→Calls Tryz.prog f args W fun e b=>e= .returned v∧au W b)(m:Nat)(os:Array Obj):
 Calls Tryz.prog f args (grow (w.drewN m) os) fun e a=>e= .returned v∧∃p:GrownBy,a=grow (w.drewN p.n) p.os:=Calls.grown_of (h _ (au.of w m os))
theorem vM(c b I:Nat)(x y st:Value)(w:World)(tb L n Z mc Ql tc PU nt PV:Nat)(cm:Bool)(ma PW ta PX:Option Addr)(f f' xt xb yt yb:Nat→Nat)(nm z:Nat→ByteArray)(q q':Nat→Option Addr)(rs:Nat→Bool)(PY:st= .pointer none∨∃s,st= .pointer (some ⟨s,0,none⟩))(h1:w.cell? ⟨c,1,none⟩=some (.bool false))(h0:w.cell? ⟨c,0,none⟩=some (.bool false))
 (Q:Calls Tryz.prog 94 #[x] w fun e F=>e= .returned (.iface 44 (.pointer (some ⟨b,0,none⟩)))∧w=F)(R:Calls Tryz.prog 94 #[y] w fun e F=>e= .returned (.iface 44 (.pointer (some ⟨I,0,none⟩)))∧w=F)
 (he:(binOp .eql 38 (.iface 44 (.pointer (some ⟨b,0,none⟩))) (.iface 44 (.pointer (some ⟨I,0,none⟩)))).run Tryz.prog w= .ok (.bool false) w)
 (hn:n≤1099511627776)(hT:br w)(hS:gU w b I st)(hb:Plain w b)(PZ:Plain w I)
 (hk:w.cell? ⟨b,0,none⟩=some (.pointer none))(P0:w.cell? ⟨I,0,none⟩=some (.pointer none))(h6:w.cell? ⟨b,6,none⟩=some (.pointer (some ⟨tb,0,none⟩)))(P1:w.cell? ⟨I,6,none⟩=some (.pointer (some ⟨L,0,none⟩)))
 (h3:w.cell? ⟨tb,3,none⟩=some (.bool cm))(P2:w.cell? ⟨L,3,none⟩=some (.bool cm))(ht:w.cell? ⟨tb,2,none⟩=some (.slice ta nt tc))(P3:w.cell? ⟨L,2,none⟩=some (.slice PX PV PU))
 (P4:∀W,au w W→Calls Tryz.prog 101 #[.slice ta nt tc,.slice PX PV PU] W fun e F=>e= .returned (.bool true)∧au W F)
 (hc:w.cell? ⟨tb,1,none⟩=some (.slice ma n mc))(P5:w.cell? ⟨L,1,none⟩=some (.slice PW Z Ql))(hp:bw w ma n f)(P6:bw w PW Z f')
 (hm:∀i,i<n→w.cell? ⟨f i,2,none⟩=some (.string (nm i))∧aM (nm i)=true∧w.cell? ⟨f i,1,none⟩=some (.pointer (q i))∧w.cell? ⟨f i,3,none⟩=some (.iface (xt i) (.pointer (some ⟨xb i,0,none⟩))))
 (P7:∀i,i<Z→w.cell? ⟨f' i,2,none⟩=some (.string (z i))∧aM (z i)=true∧w.cell? ⟨f' i,1,none⟩=some (.pointer (q' i))∧w.cell? ⟨f' i,3,none⟩=some (.iface (yt i) (.pointer (some ⟨yb i,0,none⟩))))
 (hP:n=Z→∀(W:World)(s:Nat),au w W→W.cell? ⟨s,0,none⟩=some (.pointer (some ⟨b,0,none⟩))→W.cell? ⟨s,1,none⟩=some (.pointer (some ⟨I,0,none⟩))→W.cell? ⟨s,2,none⟩=some st→w.heap.size≤s→
  ∀i,i<n→ee c (.iface (xt i) (.pointer (some ⟨xb i,0,none⟩))) (.iface (yt i) (.pointer (some ⟨yb i,0,none⟩))) (.pointer (some ⟨s,0,none⟩)) (rs i) W):
 Calls Tryz.prog 43 #[.pointer (some ⟨c,0,none⟩),x,y,st] w fun e F=>e= .returned (.bool (decide (n=Z)&&bJ n (fK nm z rs)))∧au w F:=by
 obtain⟨so,rfl⟩:∃so:Option Addr,st= .pointer so:=by rcases PY with rfl|⟨s,rfl⟩<;>exact⟨_,rfl⟩
 clear PY;have A:=an bE 44 b (by decide);have B:=an cS 44 b (by decide);have C:=an asSlice 44 b (by decide);have u:=an dg 44 b (by decide);have p:=an cT 44 b (by decide);have D:=an asTuple 44 b (by decide);have l:=an gG 44 b (by decide);have E:=an iF 44 b (by decide);have m:=bd dZ b;have ay:=bd dZ I;have hL:=Lib.hid (kB b tb w hk h6);have S:=Lib.hid (kB I L w P0 P1);have PM:=Lib.hid P4;have Qs:(cm !=cm)=false:=by simp
 have g1:=bf h3;have g2:=bf P2;have hq:=Lib.hid hp;have P8:=Lib.hid P6;have P9:=Lib.hid hm;have P_:=Lib.hid P7;have PQ:=Lib.hid hP;have Qa:=Lib.hid hT;have Qb:=Lib.hid hS;have Qm:=Lib.hid hb;have Qc:=Lib.hid PZ;clear P4 hp P6 hm P7 hP hT hS hb PZ hk P0 h6 P1 h3 P2;by_cases PR:n=Z
 ·subst PR
  have Qn:((n:Int)==(n:Int))=true:=by simp
  have Qo:=Lib.hid (PQ.out rfl);clear PQ;go_enter Tryz.func43,Tryz.ntmps43;go_wp2_with fail
  refine Q.mono ?_;rintro e F ⟨rfl,rfl⟩;go_wp2_with fail
  refine R.mono ?_;rintro e F ⟨rfl,rfl⟩;go_wp2_with fail
  refine hL.out.mono ?_;rintro e F ⟨rfl,rfl⟩;go_wp2_with fail
  refine S.out.mono ?_;rintro e F ⟨rfl,rfl⟩;go_wp2_with fail
  refine wp_region_quiet_grown (by kernel_rfl) (by kernel_rfl) ?_;repeat(go_big_quiet_step (fail))
  refine wpQuiet_nil ?_;intro _ o;obtain⟨⟨nq,osq⟩,a⟩:=o;subst a;have d:au w (grow (w.drewN nq) osq):=au.of _ _ _;have hE:=Lib.hid (vL fun W hW=>PM.out W (d.trans hW));have u1:=bf (d.cell ht);have u2:=bf (d.cell P3);have u3:=d.cell hc;have u4:=d.cell P5;have M:=Lib.hid d;clear g1 g2 d hL S Q R he A B C u p D l E m ay;generalize grow (w.drewN nq) osq=T at*;go_wp2_with fail
  refine wp_region_quiet_grown (by kernel_rfl) (by kernel_rfl) ?_;repeat(go_big_quiet_step (first|(go_at_call 101;with_reducible exact hE.out _ _)))
  refine wpQuiet_nil ?_;intro _ o;obtain⟨⟨nq,osq⟩,a⟩:=o;subst a;have N:=M.out.trans (au.of T nq osq);have v3:=(au.of T nq osq).cell u3;have v4:=(au.of T nq osq).cell u4;have r:=Lib.hid N;clear hE u1 u2 u3 u4 N;generalize grow (T.drewN nq) osq=P at*;go_wp2_with fail
  go_loopw [3] (fun v wr=>gU wr b I v∧au P wr∧wr.cell? ⟨P.heap.size,0,none⟩=some (.pointer (some ⟨b,0,none⟩))∧wr.cell? ⟨P.heap.size,1,none⟩=some (.pointer (some ⟨I,0,none⟩))∧wr.cell? ⟨P.heap.size,2,none⟩=some (.pointer so)) (fun v _=>kA v)
  case atStart=>exact⟨(Qb.out.b_ r.out).b_ (au.alloc _ _),au.alloc _ _,by simp[go_sem],by simp[go_sem],by simp[go_sem]⟩
  case round=>
   obtain⟨Qp,U,k0,k1,k2⟩:=hrel;have H:=Lib.hid U;have z3:=U.cell v3;have z4:=U.cell v4;clear U;cases Qp with
   |nil=>
    go_wp2_with fail
    go_loopw [468] (fun i wx=> ∃k:Nat,k≤n∧i= .int .i64 k∧au w wx∧wx.cell? ⟨P.heap.size,0,none⟩=some (.pointer (some ⟨b,0,none⟩))∧wx.cell? ⟨P.heap.size,1,none⟩=some (.pointer (some ⟨I,0,none⟩))∧wx.cell? ⟨P.heap.size,2,none⟩=some (.pointer so)∧∀j,j<k→fK nm z rs j=true) (fun i _=>n- (intOf i).toNat)
    case atStart=>exact⟨0,Nat.zero_le _,rfl,r.out.trans H.out,k0,k1,k2,fun j hj=>absurd hj (Nat.not_lt_zero _)⟩
    case round=>
     obtain⟨k,hk,rfl,hG,m0,m1,m2,hA⟩:=hrel;have g:=Lib.hid hG;have Qd:=Lib.hid hA;clear hG hA;by_cases t:k<n
     ·have PN:(k:Int)<n:=by omega
      obtain⟨ab,ao,rfl,J⟩:=hq.out k t;obtain⟨Qt,Qu,rfl,PO⟩:=P8.out k t;have hr:=g.out.cell J;have Qv:=g.out.cell PO;obtain⟨y2,yB,y1,y3⟩:=P9.out k t;obtain⟨Qe,Qf,Qg,Qh⟩:=P_.out k t;have g3:=bf (g.out.cell y3);have g4:=bf (g.out.cell Qh);have PS:=Lib.hid (vK yB (g.out.cap Qa.out) (g.out.cell y1) (g.out.cell y2));have PT:=Lib.hid (vK Qf (g.out.cap Qa.out) (g.out.cell Qg) (g.out.cell Qe));have O:=Lib.hid (Qo.out _ P.heap.size g.out m0 m1 m2 r.out.size k t);clear J PO y2 yB y1 y3 Qe Qf Qg Qh;cases Qi:((nm k).toList==(z k).toList)
      ·have V:=Lib.hid Qi
       have hF:Hid (bJ n (fK nm z rs)=false):=lC (i:=k) t (by unfold fK;rw[V.out];rfl);go_wp2_with fail
       refine wp_region_quiet_grown (by kernel_rfl) (by kernel_rfl) ?_;repeat(go_big_quiet_step (first|(go_at_call 103;first|with_reducible exact PS.out _ _|with_reducible exact PT.out _ _)|(go_at_call 43;with_reducible exact O.out.at _ _)))
       refine wpQuiet_nil ?_;intro _ o;obtain⟨⟨nq,osq⟩,a⟩:=o;subst a;go_wp2_with fail
       go_ret;exact⟨by rw[hF.out];simp,g.out.trans (au.of _ _ _)⟩
      ·have V:=Lib.hid Qi
       cases X:rs k
       ·have J:=Lib.hid X
        rw[X]at O;have hF:Hid (bJ n (fK nm z rs)=false):=lC (i:=k) t (by unfold fK;rw[V.out,J.out];rfl);go_wp2_with fail
        refine wp_region_quiet_grown (by kernel_rfl) (by kernel_rfl) ?_;repeat(go_big_quiet_step (first|(go_at_call 103;first|with_reducible exact PS.out _ _|with_reducible exact PT.out _ _)|(go_at_call 43;with_reducible exact O.out.at _ _)))
        refine wpQuiet_nil ?_;intro _ o;obtain⟨⟨nq,osq⟩,a⟩:=o;subst a;go_wp2_with fail
        go_ret;exact⟨by rw[hF.out];simp,g.out.trans (au.of _ _ _)⟩
       ·have J:=Lib.hid X
        rw[X]at O;go_wp2_with fail
        refine wp_region_quiet_grown (by kernel_rfl) (by kernel_rfl) ?_;repeat(go_big_quiet_step (first|(go_at_call 103;first|with_reducible exact PS.out _ _|with_reducible exact PT.out _ _)|(go_at_call 43;with_reducible exact O.out.at _ _)))
        refine wpQuiet_nil ?_;intro _ o;obtain⟨⟨nq,osq⟩,a⟩:=o;subst a;go_wp2_with fail
        refine⟨⟨k+1,by omega,by go_num,g.out.trans (au.of _ _ _),bf m0 _ _,bf m1 _ _,bf m2 _ _,fun j hj=> ?_⟩,?_⟩
        ·rcases Nat.lt_succ_iff_lt_or_eq.1 hj with h|rfl
         ·exact Qd.out j h
         ·unfold fK;rw[V.out,J.out];rfl
        ·first|omega|(simp[intOf];omega)
     ·have Qw:¬(k:Int)<n:=by omega
      have hF:Hid (bJ n (fK nm z rs)=true):=kC fun i hi=>Qd.out i (by omega);go_wp2_with fail
      go_ret;exact⟨by rw[hF.out];simp,g.out⟩
   |cons e0 e1 e2 p1 p2 Qj Qk t G=>
    rename_i s x0 y0 q0;have Qq:=Lib.hid (CG s P.heap.size x0 y0 b I wr e0 e1 k0 k1 p1 p2 ((r.out.trans H.out).plain Qm.out) ((r.out.trans H.out).plain Qc.out) Qj Qk);have Y:=Lib.hid G;have PN:=Lib.hid t;have Qr:=G.shape;clear p1 p2 Qj Qk G t;go_wp2_with fail
    refine Qq.out.mono ?_;rintro e wz ⟨rfl,nz,rfl⟩;have K:Hid (au wr (wr.drewN nz)):=au.drewN _ _;have f2:=K.out.cell e2;rcases Qr with rfl|⟨s',rfl⟩
    all_goals
     go_wp2_with fail
     refine⟨⟨Y.out.b_ K.out,H.out.trans K.out,K.out.cell k0,K.out.cell k1,K.out.cell k2⟩,?_⟩;have:=PN.out;simp at this⊢;try omega
 ·have Qn:((n:Int)==(Z:Int))=false:=by simp;omega
  have hd:Hid (decide (n=Z)=false):=by simp[Hid,PR]
  clear PR PQ P9 P_ hq P8 Qb;go_enter Tryz.func43,Tryz.ntmps43;go_wp2_with fail
  refine Q.mono ?_;rintro e F ⟨rfl,rfl⟩;go_wp2_with fail
  refine R.mono ?_;rintro e F ⟨rfl,rfl⟩;go_wp2_with fail
  refine hL.out.mono ?_;rintro e F ⟨rfl,rfl⟩;go_wp2_with fail
  refine S.out.mono ?_;rintro e F ⟨rfl,rfl⟩;go_wp2_with fail
  refine wp_region_quiet_grown (by kernel_rfl) (by kernel_rfl) ?_;repeat(go_big_quiet_step (fail))
  refine wpQuiet_nil ?_;intro _ o;obtain⟨⟨nq,osq⟩,a⟩:=o;subst a;have d:au w (grow (w.drewN nq) osq):=au.of _ _ _;have hE:=Lib.hid (vL fun W hW=>PM.out W (d.trans hW));have u1:=bf (d.cell ht);have u2:=bf (d.cell P3);have u3:=d.cell hc;have u4:=d.cell P5;have M:=Lib.hid d;clear g1 g2 d hL S Q R he A B C u p D l E m ay;generalize grow (w.drewN nq) osq=T at*;go_wp2_with fail
  refine wp_region_quiet_grown (by kernel_rfl) (by kernel_rfl) ?_;repeat(go_big_quiet_step (first|(go_at_call 101;with_reducible exact hE.out _ _)))
  refine wpQuiet_nil ?_;intro _ o;obtain⟨⟨nq,osq⟩,a⟩:=o;subst a;have N:=M.out.trans (au.of T nq osq);have v3:=(au.of T nq osq).cell u3;have v4:=(au.of T nq osq).cell u4;have r:=Lib.hid N;clear hE u1 u2 u3 u4 N;generalize grow (T.drewN nq) osq=P at*;go_wp2_with fail
  go_ret;exact⟨by rw[hd.out];rfl,r.out⟩
end Go.Proofs.YtdkmnkjhhhmglaaGreatDoor
