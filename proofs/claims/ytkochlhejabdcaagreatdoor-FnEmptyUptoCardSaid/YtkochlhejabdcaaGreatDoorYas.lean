import Derived.Test.YtkochlhejabdcaaGreatDoorYap
set_option maxRecDepth 100000
set_option maxHeartbeats 8000000
set_option linter.all false
namespace TS
open Go Go.RowKit Go.Sort Go.Proofs.Tryz
theorem bp{w:World}{a:Addr}{v:Value}(h:w.cell? a=some v):∀(n:Nat)(os:Array Obj),(grow (w.drewN n) os).cell? a=some v:=fun n os=>(aB.of w n os).cell h
end TS
namespace Go.Proofs.YtkochlhejabdcaaGreatDoor
open Go.RowKit TS Go.Sort Tryz
def ej(c:Nat)(x y st:Value)(r:Bool)(w:World):Prop:=∀(n:Nat)(os:Array Obj),Xk 75 #[Xp c,x,y,st] (grow (w.drewN n) os) fun e a=>e= .returned (.bool r)∧aB (grow (w.drewN n) os) a
theorem ej.at{c:Nat}{x y st:Value}{r:Bool}{w:World}(h:ej c x y st r w)(n:Nat)(os:Array Obj):
 Xk 75 #[Xp c,x,y,st] (grow (w.drewN n) os) fun e a=>e= .returned (.bool r)∧∃p:GrownBy,a=grow (w.drewN p.n) p.os:=
 Calls.grown_of ((h n os).mono fun _ _ ⟨he,m,b,e⟩=>⟨he,m,b,e⟩)
theorem CE(c b i:Nat)(x y st:Value)(w:World)(o p q t:Nat)(r:Bool)(v:st= .pointer none∨∃s,st=Xp s)(h1:Xc w c 1 (.bool false))(A:Xc w c 0 (.bool false))
 (j:Xk 125 #[x] w fun e a=>e= .returned (Xi 146 b)∧w=a)(k:Xk 125 #[y] w fun e a=>e= .returned (Xi 146 i)∧w=a)
 (he:(binOp .eql 49 (Xi 146 b) (Xi 146 i)).run Tryz.prog w= .ok (.bool false) w)
 (z:Xc w b 0 (Xi o p))(l:Xc w i 0 (Xi q t))(u:ej c (Xi o p) (Xi q t) st r w):
 Xk 75 #[Xp c,x,y,st] w fun e a=>e= .returned (.bool r)∧aB w a:=by
 have d:=ak bG 146 b zd;have f:=ak cT 146 b zd;have g:=bk asSlice b;have B:=bk asSlice i;have g1:=bp z;have g2:=bp l;have m:=zh u;clear u;go_enter func75,ntmps75;go_wp2_with fail
 refine j.mono ?_;rintro e a ⟨rfl,rfl⟩;go_wp2_with fail
 refine k.mono ?_;rintro e a ⟨rfl,rfl⟩;go_wp2_with fail
 refine wp_region_quiet_grown zk zk ?_;repeat(go_big_quiet_step (first|(go_at_call 75;with_reducible exact m.out.at _ _)))
 refine wpQuiet_nil ?_;intro _ n;obtain⟨⟨nq,osq⟩,h⟩:=n;subst h;go_wp2_with fail
 go_ret;exact⟨rfl,_,_,rfl⟩
theorem CF(c b k:Nat)(x y st:Value)(w:World)(q t u v:Nat)(r:Bool)(A:st= .pointer none∨∃s,st=Xp s)(h1:Xc w c 1 (.bool false))(C:Xc w c 0 (.bool false))
 (l:Xk 125 #[x] w fun e a=>e= .returned (Xi 148 b)∧w=a)(m:Xk 125 #[y] w fun e a=>e= .returned (Xi 148 k)∧w=a)
 (he:(binOp .eql 49 (Xi 148 b) (Xi 148 k)).run Tryz.prog w= .ok (.bool false) w)
 (B:Xc w b 0 (Xi q t))(n:Xc w k 0 (Xi u v))(z:ej c (Xi q t) (Xi u v) st r w):
 Xk 75 #[Xp c,x,y,st] w fun e a=>e= .returned (.bool r)∧aB w a:=by
 have g:=ak bG 148 b zd;have h:=ak cT 148 b zd;have i:=ak asSlice 148 b zd;have f:=ak di 148 b zd;have d:=bk cU b;have D:=bk cU k;have g1:=bp B;have g2:=bp n;have o:=zh z;clear z;go_enter func75,ntmps75;go_wp2_with fail
 refine l.mono ?_;rintro e a ⟨rfl,rfl⟩;go_wp2_with fail
 refine m.mono ?_;rintro e a ⟨rfl,rfl⟩;go_wp2_with fail
 refine wp_region_quiet_grown zk zk ?_;repeat(go_big_quiet_step (first|(go_at_call 75;with_reducible exact o.out.at _ _)))
 refine wpQuiet_nil ?_;intro _ p;obtain⟨⟨nq,osq⟩,j⟩:=p;subst j;go_wp2_with fail
 go_ret;exact⟨rfl,_,_,rfl⟩
theorem ej.dD{c:Nat}{x y st:Value}{r:Bool}{w b:World}(h:ej c x y st r w)(k:aB w b):ej c x y st r b:=by
 intro n os;obtain⟨m,a,rfl⟩:=k;have:=h (m+n) (a++os);have e:grow (w.drewN (m+n)) (a++os)=grow ((grow (w.drewN m) a).drewN n) os:=by rw[←grow_grow,←World.drewN_drewN];rfl
 rw[e]at this;exact this
theorem CG(b:Nat)(w:World):Xk 95 #[Xi 60 b] w fun e a=>e= .returned (Xp b)∧w=a:=by
 have h1:=bk asNamed b;go_enter func95,ntmps95;go_wp2_with fail
 refine(fF 60 _ zd _).mono ?_;rintro e a ⟨rfl,rfl⟩;go_wp2_with fail
 go_ret;exact⟨rfl,rfl⟩
theorem CH(c b g:Nat)(x y st:Value)(w:World)(k m:Int)(n:st= .pointer none∨∃s,st=Xp s)(h1:Xc w c 1 (.bool false))(p:Xc w c 0 (.bool false))
 (h:Xk 125 #[x] w fun e a=>e= .returned (Xi 105 b)∧w=a)(i:Xk 125 #[y] w fun e a=>e= .returned (Xi 105 g)∧w=a)
 (he:(binOp .eql 49 (Xi 105 b) (Xi 105 g)).run Tryz.prog w= .ok (.bool false) w)
 (o:Xc w b 0 (.int .i64 k))(j:Xc w g 0 (.int .i64 m)):
 Xk 75 #[Xp c,x,y,st] w fun e a=>e= .returned (.bool (k==m))∧aB w a:=by
 have d:=bk bG b;have q:=bk bG g;have g1:=bp o;have g2:=bp j;go_enter func75,ntmps75;go_wp2_with fail
 refine h.mono ?_;rintro e a ⟨rfl,rfl⟩;go_wp2_with fail
 refine i.mono ?_;rintro e a ⟨rfl,rfl⟩;go_wp2_with fail
 refine wp_region_quiet_grown zk zk ?_;repeat(go_big_quiet_step (fail))
 refine wpQuiet_nil ?_;intro _ l;obtain⟨⟨nq,osq⟩,f⟩:=l;subst f;go_wp2_with fail
 go_ret;exact⟨rfl,_,_,rfl⟩
theorem CI(c b d:Nat)(x y st:Value)(w:World)(n f:Int)(B:0≤n)(j:0≤f)(t u v z:Nat)(r:Bool)(C:st= .pointer none∨∃s,st=Xp s)(h1:Xc w c 1 (.bool false))(G:Xc w c 0 (.bool false))
 (k:Xk 125 #[x] w fun e a=>e= .returned (Xi 144 b)∧w=a)(l:Xk 125 #[y] w fun e a=>e= .returned (Xi 144 d)∧w=a)
 (he:(binOp .eql 49 (Xi 144 b) (Xi 144 d)).run Tryz.prog w= .ok (.bool false) w)
 (D:Xc w b 0 (.int .i64 n))(m:Xc w d 0 (.int .i64 f))(E:Xc w b 1 (Xi t u))(o:Xc w d 1 (Xi v z))(A:ej c (Xi t u) (Xi v z) st r w):
 Xk 75 #[Xp c,x,y,st] w fun e a=>e= .returned (.bool ((n==f)&&r))∧aB w a:=by
 have g:=ak bG 144 b zd;have h:=bk cT b;have H:=bk cT d;have g1:=bp D;have g2:=bp m;have g3:=bp E;have g4:=bp o;have I:decide (n<0)=false:=zp;have J:decide (f<0)=false:=zp;clear B j;have p:=zh A;clear A;cases F:(n==f)
 all_goals
  go_enter func75,ntmps75;go_wp2_with fail
  refine k.mono ?_;rintro e a ⟨rfl,rfl⟩;go_wp2_with fail
  refine l.mono ?_;rintro e a ⟨rfl,rfl⟩;go_wp2_with fail
  refine wp_region_quiet_grown zk zk ?_;repeat(go_big_quiet_step (first|(go_at_call 75;with_reducible exact p.out.at _ _)))
  refine wpQuiet_nil ?_;intro _ q;obtain⟨⟨nq,osq⟩,i⟩:=q;subst i;go_wp2_with fail
  go_ret;exact⟨by simp,_,_,rfl⟩
theorem CJ(c b i:Nat)(x y st:Value)(w:World)(n t:Int)(E F G H:Nat)(r:Bool)(J:st= .pointer none∨∃s,st=Xp s)(h1:Xc w c 1 (.bool false))(N:Xc w c 0 (.bool false))
 (u:Xk 125 #[x] w fun e f=>e= .returned (Xi 152 b)∧w=f)(v:Xk 125 #[y] w fun e f=>e= .returned (Xi 152 i)∧w=f)
 (he:(binOp .eql 49 (Xi 152 b) (Xi 152 i)).run Tryz.prog w= .ok (.bool false) w)
 (K:Xc w b 0 (.int .i64 n))(z:Xc w i 0 (.int .i64 t))(L:Xc w b 1 (Xi E F))(A:Xc w i 1 (Xi G H))(I:ej c (Xi E F) (Xi G H) st r w):
 Xk 75 #[Xp c,x,y,st] w fun e f=>e= .returned (.bool ((n==t)&&r))∧aB w f:=by
 have j:=ak bG 152 b zd;have k:=ak cT 152 b zd;have l:=ak asSlice 152 b zd;have h:=ak di 152 b zd;have g:=ak cU 152 b zd;have m:=ak asTuple 152 b zd;have a:=ak gP 152 b zd;have o:=ak iF 152 b zd;have d:=ak ei 152 b zd;have B:=ak jx 152 b zd;have q:=bk eB b;have O:=bk eB i;have g1:=bp K;have g2:=bp z;have g3:=bp L;have g4:=bp A;have C:=zh I;clear I;cases M:(n==t)
 all_goals
  go_enter func75,ntmps75;go_wp2_with fail
  refine u.mono ?_;rintro e f ⟨rfl,rfl⟩;go_wp2_with fail
  refine v.mono ?_;rintro e f ⟨rfl,rfl⟩;go_wp2_with fail
  refine wp_region_quiet_grown zk zk ?_;repeat(go_big_quiet_step (first|(go_at_call 75;with_reducible exact C.out.at _ _)))
  refine wpQuiet_nil ?_;intro _ D;obtain⟨⟨nq,osq⟩,p⟩:=D;subst p;go_wp2_with fail
  go_ret;exact⟨by simp,_,_,rfl⟩
theorem CK(c b i:Nat)(x y st:Value)(w:World)(G H I J j k l m:Nat)(r K:Bool)(N:st= .pointer none∨∃s,st=Xp s)(h1:Xc w c 1 (.bool false))(Q:Xc w c 0 (.bool false))
 (v:Xk 125 #[x] w fun e f=>e= .returned (Xi 150 b)∧w=f)(z:Xk 125 #[y] w fun e f=>e= .returned (Xi 150 i)∧w=f)
 (he:(binOp .eql 49 (Xi 150 b) (Xi 150 i)).run Tryz.prog w= .ok (.bool false) w)
 (O:Xc w b 0 (Xi G H))(A:Xc w i 0 (Xi I J))(P:Xc w b 1 (Xi j k))(B:Xc w i 1 (Xi l m))(L:ej c (Xi G H) (Xi I J) st r w)(M:ej c (Xi j k) (Xi l m) st K w):
 Xk 75 #[Xp c,x,y,st] w fun e f=>e= .returned (.bool (r&&K))∧aB w f:=by
 have n:=ak bG 150 b zd;have o:=ak cT 150 b zd;have p:=ak asSlice 150 b zd;have h:=ak di 150 b zd;have g:=ak cU 150 b zd;have q:=ak asTuple 150 b zd;have a:=ak gP 150 b zd;have t:=ak iF 150 b zd;have d:=ak ei 150 b zd;have C:=bk jx b;have R:=bk jx i;have g1:=bp O;have g2:=bp A;have g3:=bp P;have g4:=bp B;have D:=zh L;have E:=zh M;clear L M;cases r
 all_goals
  go_enter func75,ntmps75;go_wp2_with fail
  refine v.mono ?_;rintro e f ⟨rfl,rfl⟩;go_wp2_with fail
  refine z.mono ?_;rintro e f ⟨rfl,rfl⟩;go_wp2_with fail
  refine wp_region_quiet_grown zk zk ?_;repeat(go_big_quiet_step (first|(go_at_call 75;first|with_reducible exact D.out.at _ _|with_reducible exact E.out.at _ _)))
  refine wpQuiet_nil ?_;intro _ F;obtain⟨⟨nq,osq⟩,u⟩:=F;subst u;go_wp2_with fail
  go_ret;exact⟨by simp,_,_,rfl⟩
theorem CL(c b i:Nat)(x y st:Value)(w:World)(ob oc:Nat)(B:st= .pointer none∨∃s,st=Xp s)(h1:Xc w c 1 (.bool false))(F:Xc w c 0 (.bool false))
 (r:Xk 125 #[x] w fun e a=>e= .returned (Xi 60 b)∧w=a)(t:Xk 125 #[y] w fun e a=>e= .returned (Xi 60 i)∧w=a)
 (he:(binOp .eql 49 (Xi 60 b) (Xi 60 i)).run Tryz.prog w= .ok (.bool false) w)
 (C:Xc w b 1 (Xp ob))(u:Xc w i 1 (Xp oc))(z:Plain w ob)(A:Plain w oc):
 Xk 75 #[Xp c,x,y,st] w fun e a=>e= .returned (.bool (decide (ob=oc)))∧aB w a:=by
 have j:=ak bG 60 b zd;have k:=ak cT 60 b zd;have l:=ak asSlice 60 b zd;have h:=ak di 60 b zd;have g:=ak cU 60 b zd;have m:=ak asTuple 60 b zd;have d:=ak gP 60 b zd;have o:=ak iF 60 b zd;have f:=ak ei 60 b zd;have v:=ak jx 60 b zd;have q:=ak eB 60 b zd;have p:=bk asNamed b;have D:=zh (CG i w);have E:=zh (Cs b i ob oc w C u z A);clear z A;go_enter func75,ntmps75;go_wp2_with fail
 refine r.mono ?_;rintro e a ⟨rfl,rfl⟩;go_wp2_with fail
 refine t.mono ?_;rintro e a ⟨rfl,rfl⟩;go_wp2_with fail
 refine D.out.mono ?_;rintro e a ⟨rfl,rfl⟩;go_wp2_with fail
 refine E.out.mono ?_;rintro e a ⟨rfl,n,rfl⟩;go_wp2_with fail
 go_ret;exact⟨rfl,aB.drewN _ _⟩
end Go.Proofs.YtkochlhejabdcaaGreatDoor
