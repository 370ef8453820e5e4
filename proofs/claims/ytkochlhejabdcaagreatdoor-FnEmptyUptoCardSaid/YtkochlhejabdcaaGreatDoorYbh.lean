import Derived.Test.YtkochlhejabdcaaGreatDoorYbe
set_option maxRecDepth 100000
set_option maxHeartbeats 8000000
set_option linter.all false
namespace Go.Proofs.YtkochlhejabdcaaGreatDoor
open Go.RowKit TS Tryz
def cF(w:World)(a:Nat)(F:Value→Option Value):Prop:=cr (fG Tryz.prog) w a F∧∀x v,F x=some v→v= .bool true
def i_(G:Value→Prop)(c:Bool)(F:Value→Option Value)(m:Option Nat)(w:World)(e:Ending)(a:World):Prop:=
 (∃o,e= .returned (.pointer o)∧c=o.isNone)∧Kept (fun k=>m=some k) w a∧∀b,m=some b→∃d,cF a b d∧(c=true→∀y v,d y=some v→F y=some v∨G y)
def gy(p:Pm)(g:Ge)(d:Bool)(G P:Value→Prop)(c:Bool)(x:Value):Prop:=∀(a:Nat)(w:World)(F:Value→Option Value),aA p g w→cF w a F→(∀y v,F y=some v→P y∨G y)→Xk 124 #[x,.bool d,.map (some a)] w (i_ G c F (some a) w)
theorem vK{G P:Value→Prop}{F a:Value→Option Value}{x:Value}(h1:∀y v,F y=some v→(P y∨y=x)∨G y)(b:∀y v,a y=some v→F y=some v∨G y):∀y v,a y=some v→(P y∨y=x)∨G y:=fun y v h=>(b y v h).elim (h1 y v) .inr
theorem lz{G:Value→Prop}{F a:Value→Option Value}{x:Value}{c:Bool}(b:c=true→G x)(d:∀y v,a y=some v→bH F x (.bool true) y=some v∨G y):c=true→∀y v,a y=some v→F y=some v∨G y:=fun f y v h=>by
 rcases d y v h with h|h
 ·by_cases e:y=x
  ·subst e;exact .inr (b f)
  ·rw[bj F e]at h;exact .inl h
 ·exact .inr h
theorem vL{G:Value→Prop}{F b a:Value→Option Value}(h1:∀y v,b y=some v→F y=some v∨G y)(c:∀y v,a y=some v→b y=some v∨G y):∀y v,a y=some v→F y=some v∨G y:=fun y v h=>(c y v h).elim (h1 y v) .inr
theorem cF.jF{w:World}{b:Nat}{F:Value→Option Value}(h:cF w b F):¬Plain w b:=by
 obtain⟨⟨es,c,a,_⟩,_⟩:=h;rintro⟨cs,T,h⟩;rw[a]at h;cases h
theorem ku(a:Nat)(w:World):(binOp .eql 162 (.map (some a)) (.map none)).run Tryz.prog w= .ok (.bool false) w:=zk
theorem kz(w:World):(binOp .eql 162 (.map none) (.map none)).run Tryz.prog w= .ok (.bool true) w:=zk
theorem jG{w:World}{b o:Nat}{v:Value}{F:Value→Option Value}(a:cF w b F)(h:Xc w b o v):False:=by
 obtain⟨⟨es,c,d,_⟩,_⟩:=a;simp[World.cell?,d]at h
theorem eG{p:Pm}{t b:Nat}{r:Value}{w:World}(h:∀W:World,KW p W→cE W t b r)(hw:KW p w):∃K fn c,Tryz.prog.funcs[K]?=some fn∧(fn.name== "runtime.NumGoroutine")=false∧fn.body=some c∧(∀W:World,(method 480 t (Xp b) "Underlying").run Tryz.prog W= .ok (K,Xp b) W)∧
 (∀W:World,(nilAhead 480 t (Xp b) "Underlying").run Tryz.prog W= .ok (some false) W)∧∀W:World,KW p W→Xk K #[Xp b] W fun e d=>e= .returned r∧W=d:=by
 obtain⟨K,fn,c,h1,f,g,a,i,_⟩:=h w hw;refine⟨K,fn,c,h1,f,g,a,i,fun W j=> ?_⟩;obtain⟨k,l,c',_,_,_,m,_,n⟩:=h W j;have e:=a W;rw[m W]at e;have:k=K:=by injection e with e;injection e
 rw[←this];exact n
theorem oE{w a:World}{b:Nat}{F:Value→Option Value}(h:cF w b F)(k:Below w w a):cF a b F:=by
 obtain⟨hM,c⟩:=h;refine⟨hM.of (k.block b hM.lt) fun v d=> ?_,c⟩;exact Dh (Kept.of (X:=fun _=>False) k) (fun _ h=>h.elim) d
theorem vM{p:Pm}{g:Ge}{w a:World}{c:Nat}{F:Value→Option Value}(d:aA p g w)(f:cF w c F)(k:Kept (fun k=>some c=some k) w a):aA p g a:=
 d.kept k (fun b e=>by cases e;exact f.jF) fun e=>by
  cases e;exact jG f (d.cap 65 zd zd)
theorem Dj(p:Pm)(g:Ge)(d:Bool)(G P:Value→Prop)(c:Bool)(a f N:Nat)(X:cf a)(A:∀w,aA p g w→Plain w f)(n:P (Xi a f)∨G (Xi a f)→c=true)(Y:c=true→G (Xi a f))(k:Int)(hc:p N 0=some (.int .i64 k))(Z:(k==25)=false)(O:c=true)(hU:∀W:World,KW p W→cE W a f (Xi 105 N)):
 gy p g d G P c (Xi a f):=by
 have B:=bk bG N;have PG:= @run_makeMap Tryz.prog;intro t w F M hS hP;obtain⟨hM,Q⟩:=hS;have l:=zh hM;have o:=zh Q;have u:=zh hP;have R:=zh Y;have i:=zh (dT X (A w M));have C:=zh M;obtain⟨K,fn,PH,D,q,E,hm,PI,r⟩:=eG hU M.kw;have PJ:=fun args w=>Go.MuLone.run_callFunc_enter D q E args w;have s:=zh r;clear D q E r;have S:Hid (¬Plain w t):=cF.jF ⟨hM,Q⟩;have PK:∀W,(binOp .eql 162 (.map (some t)) (.map none)).run Tryz.prog W= .ok (.bool false) W:=fun W=>ku t W;clear hM Q M hU X A hP Y;cases m:F (Xi a f)with
 |some v=>
  have z:=o.out _ _ m;have T:Hid (c=true):=n (u.out _ _ m);have j:Hid ((F (Xi a f)).getD (.bool false)= .bool true):=by rw[m,z];rfl
  clear m z n;go_enter func124,ntmps124;go_wp2_with (first|(at_lookup;refine eE _ rfl _ _ 162 rfl cg 4 underlying162 (.bool false) dU t F rfl l.out (Xi a f) rfl i.out (.bool true) j.out ?_)|fail)
  go_ret;exact⟨⟨none,rfl,T.out⟩,Kept.refl _ _,fun b e=>by cases e;exact⟨F,⟨l.out,o.out⟩,fun _ y v h=> .inl h⟩⟩
 |none=>
 have j:Hid ((F (Xi a f)).getD (.bool false)= .bool false):=by rw[m];rfl
 clear m n;go_enter func124,ntmps124;go_wp2_with (first|(at_lookup;refine eE _ rfl _ _ 162 rfl cg 4 underlying162 (.bool false) dU t F rfl l.out (Xi a f) rfl i.out (.bool false) j.out ?_)|(at_mapUpdate;refine eF _ rfl _ _ _ 162 rfl cg (fR _) 4 underlying162 t F rfl l.out (Xi a f) (.bool true) rfl rfl i.out ?_;intro U H I)|fail)
 have V:Hid (cF U t (bH F (Xi a f) (.bool true))):=⟨H _ (fun y hy=>bj F hy) (b_ _ _ _),fun x v z=>by
  by_cases e:x=(Xi a f)
  ·rw[e,b_]at z;cases z;rfl
  ·rw[bj F e]at z;exact o.out _ _ z⟩
 have PL:Hid (∀y v,bH F (Xi a f) (.bool true) y=some v→(P y∨y=(Xi a f))∨G y):=fun y v h=>by
  by_cases e:y=(Xi a f)
  ·exact .inl (.inr e)
  ·rw[bj F e]at h;exact(u.out y v h).imp .inl id
 have J:Hid (Kept (fun k=>some t=some k) w U):=(Kept.refl _ _).grown I fun k hk _=>hk;have L:Hid (aA p g U):=C.out.kept J.out (fun b e=>by cases e;exact S.out) (fun e=>by
  cases e;have h:=C.out.cap 65 zd zd;exact jG ⟨l.out,o.out⟩ h)
 clear H I i l j u o;have c0:=L.out.kw _ _ _ hc;go_wp2_with fail
 refine(s.out _ L.out.kw).mono ?_;rintro e w' ⟨rfl,rfl⟩;go_wp2_with fail
 go_ret;exact⟨⟨none,rfl,O⟩,J.out,fun b e=>(by cases e;exact⟨_,V.out,lz R.out fun y v h=> .inl h⟩)⟩
theorem Dk(p:Pm)(g:Ge)(d:Bool)(G P:Value→Prop)(c:Bool)(a f F:Nat)(w:World)(r:aA p g w)(H:cf a)(o:∀w,aA p g w→Plain w f)(M:c=true→G (Xi a f))(k:Int)(Q:p F 0=some (.int .i64 k))(N:(k==25)=false)(I:c=true)(O:∀W:World,KW p W→cE W a f (Xi 105 F)):
 Xk 124 #[(Xi a f),.bool d,.map none] w (i_ G c (fun _=>none) none w):=by
 have s:=bk bG F;have R:= @run_makeMap Tryz.prog;have n:=zh (dT H (o w r));have S:=zh M;have i:=zh (dT H (w:=w.alloc (.map #[] 0)) ((o w r).below (zB.alloc zl _)));have J:=zh r;obtain⟨K,fn,T,t,j,u,hm,U,l⟩:=eG O r.kw;have V:=fun args w=>Go.MuLone.run_callFunc_enter t j u args w;have m:=zh l;clear t j u l;have z:=zh (jB (fG Tryz.prog) w);have X:=kz;clear r O H o M;go_enter func124,ntmps124;go_wp2_with (first|(at_lookup;refine jC _ rfl _ _ 162 rfl cg 4 underlying162 (.bool false) dU rfl (Xi a f) rfl n.out ?_)|(at_mapUpdate;refine eF _ rfl _ _ _ 162 rfl cg (fR _) 4 underlying162 w.heap.size (fun _=>none) rfl z.out (Xi a f) (.bool true) rfl rfl i.out ?_;intro D A B)|fail)
 have Y:Hid (cF D w.heap.size (bH (fun _=>none) (Xi a f) (.bool true))):=⟨A _ (fun y Z=>bj _ Z) (b_ _ _ _),fun x v E=>by
  by_cases e:x=(Xi a f)
  ·rw[e,b_]at E;cases E;rfl
  ·rw[bj _ e]at E;cases E⟩
 have PG:Hid (∀y v,bH (fun _=>none) (Xi a f) (.bool true) y=some v→(P y∨y=(Xi a f))∨G y):=fun y v h=>by
  by_cases e:y=(Xi a f)
  ·exact .inl (.inr e)
  ·rw[bj _ e]at h;cases h
 have q:Below w w D:=(zB.alloc zl _).grown B zs fun k hk=>by cases hk;exact Nat.le_refl _
 have L:Hid (Kept (fun k=>(none:Option Nat)=some k) w D):=Kept.of q;have C:Hid (aA p g D):=J.out.below q;clear A B n i z q;have c0:=C.out.kw _ _ _ Q;go_wp2_with fail
 refine(m.out _ C.out.kw).mono ?_;rintro e w' ⟨rfl,rfl⟩;go_wp2_with fail
 go_ret;exact⟨⟨none,rfl,I⟩,L.out,fun b e=>(by cases e)⟩
theorem Dm(p:Pm)(g:Ge)(d:Bool)(G P:Value→Prop)(c:Bool)(a f M:Nat)(Z:cf a)(B:∀w,aA p g w→Plain w f)(n:P (Xi a f)∨G (Xi a f)→c=true)(hG:c=true→G (Xi a f))(Q:c=true)(hU:∀W:World,KW p W→cE W a f (Xi 148 M)):
 gy p g d G P c (Xi a f):=by
 have C:=ak bG 148 M zd;have u:=bk cU M;have N:=ak eB 148 M zd;have PG:= @run_makeMap Tryz.prog;intro t w F O hS hP;obtain⟨hM,R⟩:=hS;have l:=zh hM;have o:=zh R;have z:=zh hP;have S:=zh hG;have i:=zh (dT Z (B w O));have D:=zh O;obtain⟨K,fn,PH,E,q,H,hm,PI,r⟩:=eG hU O.kw;have PJ:=fun args w=>Go.MuLone.run_callFunc_enter E q H args w;have s:=zh r;clear E q H r;have T:Hid (¬Plain w t):=cF.jF ⟨hM,R⟩;have PK:∀W,(binOp .eql 162 (.map (some t)) (.map none)).run Tryz.prog W= .ok (.bool false) W:=fun W=>ku t W;clear hM R O hU Z B hP hG;cases m:F (Xi a f)with
 |some v=>
  have A:=o.out _ _ m;have U:Hid (c=true):=n (z.out _ _ m);have j:Hid ((F (Xi a f)).getD (.bool false)= .bool true):=by rw[m,A];rfl
  clear m A n;go_enter func124,ntmps124;go_wp2_with (first|(at_lookup;refine eE _ rfl _ _ 162 rfl cg 4 underlying162 (.bool false) dU t F rfl l.out (Xi a f) rfl i.out (.bool true) j.out ?_)|fail)
  go_ret;exact⟨⟨none,rfl,U.out⟩,Kept.refl _ _,fun b e=>by cases e;exact⟨F,⟨l.out,o.out⟩,fun _ y v h=> .inl h⟩⟩
 |none=>
 have j:Hid ((F (Xi a f)).getD (.bool false)= .bool false):=by rw[m];rfl
 clear m n;go_enter func124,ntmps124;go_wp2_with (first|(at_lookup;refine eE _ rfl _ _ 162 rfl cg 4 underlying162 (.bool false) dU t F rfl l.out (Xi a f) rfl i.out (.bool false) j.out ?_)|(at_mapUpdate;refine eF _ rfl _ _ _ 162 rfl cg (fR _) 4 underlying162 t F rfl l.out (Xi a f) (.bool true) rfl rfl i.out ?_;intro V I J)|fail)
 have X:Hid (cF V t (bH F (Xi a f) (.bool true))):=⟨I _ (fun y hy=>bj F hy) (b_ _ _ _),fun x v A=>by
  by_cases e:x=(Xi a f)
  ·rw[e,b_]at A;cases A;rfl
  ·rw[bj F e]at A;exact o.out _ _ A⟩
 have PL:Hid (∀y v,bH F (Xi a f) (.bool true) y=some v→(P y∨y=(Xi a f))∨G y):=fun y v h=>by
  by_cases e:y=(Xi a f)
  ·exact .inl (.inr e)
  ·rw[bj F e]at h;exact(z.out y v h).imp .inl id
 have L:Hid (Kept (fun k=>some t=some k) w V):=(Kept.refl _ _).grown J fun k hk _=>hk;have Y:Hid (aA p g V):=D.out.kept L.out (fun b e=>by cases e;exact T.out) (fun e=>by
  cases e;have h:=D.out.cap 65 zd zd;exact jG ⟨l.out,o.out⟩ h)
 clear I J i l j z o;go_wp2_with fail
 refine(s.out _ Y.out.kw).mono ?_;rintro e w' ⟨rfl,rfl⟩;go_wp2_with fail
 go_ret;exact⟨⟨none,rfl,Q⟩,L.out,fun b e=>(by cases e;exact⟨_,X.out,lz S.out fun y v h=> .inl h⟩)⟩
theorem Dp(p:Pm)(g:Ge)(d:Bool)(G P:Value→Prop)(c:Bool)(a f D:Nat)(w:World)(s:aA p g w)(I:cf a)(o:∀w,aA p g w→Plain w f)(O:c=true→G (Xi a f))(J:c=true)(Q:∀W:World,KW p W→cE W a f (Xi 148 D)):
 Xk 124 #[(Xi a f),.bool d,.map none] w (i_ G c (fun _=>none) none w):=by
 have t:=ak bG 148 D zd;have q:=bk cU D;have E:=ak eB 148 D zd;have R:= @run_makeMap Tryz.prog;have n:=zh (dT I (o w s));have S:=zh O;have i:=zh (dT I (w:=w.alloc (.map #[] 0)) ((o w s).below (zB.alloc zl _)));have L:=zh s;obtain⟨K,fn,T,u,j,z,hm,U,l⟩:=eG Q s.kw;have V:=fun args w=>Go.MuLone.run_callFunc_enter u j z args w;have m:=zh l;clear u j z l;have A:=zh (jB (fG Tryz.prog) w);have X:=kz;clear s Q I o O;go_enter func124,ntmps124;go_wp2_with (first|(at_lookup;refine jC _ rfl _ _ 162 rfl cg 4 underlying162 (.bool false) dU rfl (Xi a f) rfl n.out ?_)|(at_mapUpdate;refine eF _ rfl _ _ _ 162 rfl cg (fR _) 4 underlying162 w.heap.size (fun _=>none) rfl A.out (Xi a f) (.bool true) rfl rfl i.out ?_;intro F B C)|fail)
 have Y:Hid (cF F w.heap.size (bH (fun _=>none) (Xi a f) (.bool true))):=⟨B _ (fun y Z=>bj _ Z) (b_ _ _ _),fun x v H=>by
  by_cases e:x=(Xi a f)
  ·rw[e,b_]at H;cases H;rfl
  ·rw[bj _ e]at H;cases H⟩
 have PG:Hid (∀y v,bH (fun _=>none) (Xi a f) (.bool true) y=some v→(P y∨y=(Xi a f))∨G y):=fun y v h=>by
  by_cases e:y=(Xi a f)
  ·exact .inl (.inr e)
  ·rw[bj _ e]at h;cases h
 have r:Below w w F:=(zB.alloc zl _).grown C zs fun k hk=>by cases hk;exact Nat.le_refl _
 have M:Hid (Kept (fun k=>(none:Option Nat)=some k) w F):=Kept.of r;have N:Hid (aA p g F):=L.out.below r;clear B C n i A r;go_wp2_with fail
 refine(m.out _ N.out.kw).mono ?_;rintro e w' ⟨rfl,rfl⟩;go_wp2_with fail
 go_ret;exact⟨⟨none,rfl,J⟩,M.out,fun b e=>(by cases e)⟩
theorem Dq(p:Pm)(g:Ge)(d:Bool)(G P:Value→Prop)(c:Bool)(a f M:Nat)(Z:cf a)(B:∀w,aA p g w→Plain w f)(n:P (Xi a f)∨G (Xi a f)→c=true)(hG:c=true→G (Xi a f))(Q:c=true)(hU:∀W:World,KW p W→cE W a f (Xi 152 M)):
 gy p g d G P c (Xi a f):=by
 have C:=ak bG 152 M zd;have u:=ak cU 152 M zd;have N:=bk eB M;have PG:= @run_makeMap Tryz.prog;intro t w F O hS hP;obtain⟨hM,R⟩:=hS;have l:=zh hM;have o:=zh R;have z:=zh hP;have S:=zh hG;have i:=zh (dT Z (B w O));have D:=zh O;obtain⟨K,fn,PH,E,q,H,hm,PI,r⟩:=eG hU O.kw;have PJ:=fun args w=>Go.MuLone.run_callFunc_enter E q H args w;have s:=zh r;clear E q H r;have T:Hid (¬Plain w t):=cF.jF ⟨hM,R⟩;have PK:∀W,(binOp .eql 162 (.map (some t)) (.map none)).run Tryz.prog W= .ok (.bool false) W:=fun W=>ku t W;clear hM R O hU Z B hP hG;cases m:F (Xi a f)with
 |some v=>
  have A:=o.out _ _ m;have U:Hid (c=true):=n (z.out _ _ m);have j:Hid ((F (Xi a f)).getD (.bool false)= .bool true):=by rw[m,A];rfl
  clear m A n;go_enter func124,ntmps124;go_wp2_with (first|(at_lookup;refine eE _ rfl _ _ 162 rfl cg 4 underlying162 (.bool false) dU t F rfl l.out (Xi a f) rfl i.out (.bool true) j.out ?_)|fail)
  go_ret;exact⟨⟨none,rfl,U.out⟩,Kept.refl _ _,fun b e=>by cases e;exact⟨F,⟨l.out,o.out⟩,fun _ y v h=> .inl h⟩⟩
 |none=>
 have j:Hid ((F (Xi a f)).getD (.bool false)= .bool false):=by rw[m];rfl
 clear m n;go_enter func124,ntmps124;go_wp2_with (first|(at_lookup;refine eE _ rfl _ _ 162 rfl cg 4 underlying162 (.bool false) dU t F rfl l.out (Xi a f) rfl i.out (.bool false) j.out ?_)|(at_mapUpdate;refine eF _ rfl _ _ _ 162 rfl cg (fR _) 4 underlying162 t F rfl l.out (Xi a f) (.bool true) rfl rfl i.out ?_;intro V I J)|fail)
 have X:Hid (cF V t (bH F (Xi a f) (.bool true))):=⟨I _ (fun y hy=>bj F hy) (b_ _ _ _),fun x v A=>by
  by_cases e:x=(Xi a f)
  ·rw[e,b_]at A;cases A;rfl
  ·rw[bj F e]at A;exact o.out _ _ A⟩
 have PL:Hid (∀y v,bH F (Xi a f) (.bool true) y=some v→(P y∨y=(Xi a f))∨G y):=fun y v h=>by
  by_cases e:y=(Xi a f)
  ·exact .inl (.inr e)
  ·rw[bj F e]at h;exact(z.out y v h).imp .inl id
 have L:Hid (Kept (fun k=>some t=some k) w V):=(Kept.refl _ _).grown J fun k hk _=>hk;have Y:Hid (aA p g V):=D.out.kept L.out (fun b e=>by cases e;exact T.out) (fun e=>by
  cases e;have h:=D.out.cap 65 zd zd;exact jG ⟨l.out,o.out⟩ h)
 clear I J i l j z o;go_wp2_with fail
 refine(s.out _ Y.out.kw).mono ?_;rintro e w' ⟨rfl,rfl⟩;go_wp2_with fail
 go_ret;exact⟨⟨none,rfl,Q⟩,L.out,fun b e=>(by cases e;exact⟨_,X.out,lz S.out fun y v h=> .inl h⟩)⟩
theorem Dr(p:Pm)(g:Ge)(d:Bool)(G P:Value→Prop)(c:Bool)(a f D:Nat)(w:World)(s:aA p g w)(I:cf a)(o:∀w,aA p g w→Plain w f)(O:c=true→G (Xi a f))(J:c=true)(Q:∀W:World,KW p W→cE W a f (Xi 152 D)):
 Xk 124 #[(Xi a f),.bool d,.map none] w (i_ G c (fun _=>none) none w):=by
 have t:=ak bG 152 D zd;have q:=ak cU 152 D zd;have E:=bk eB D;have R:= @run_makeMap Tryz.prog;have n:=zh (dT I (o w s));have S:=zh O;have i:=zh (dT I (w:=w.alloc (.map #[] 0)) ((o w s).below (zB.alloc zl _)));have L:=zh s;obtain⟨K,fn,T,u,j,z,hm,U,l⟩:=eG Q s.kw;have V:=fun args w=>Go.MuLone.run_callFunc_enter u j z args w;have m:=zh l;clear u j z l;have A:=zh (jB (fG Tryz.prog) w);have X:=kz;clear s Q I o O;go_enter func124,ntmps124;go_wp2_with (first|(at_lookup;refine jC _ rfl _ _ 162 rfl cg 4 underlying162 (.bool false) dU rfl (Xi a f) rfl n.out ?_)|(at_mapUpdate;refine eF _ rfl _ _ _ 162 rfl cg (fR _) 4 underlying162 w.heap.size (fun _=>none) rfl A.out (Xi a f) (.bool true) rfl rfl i.out ?_;intro F B C)|fail)
 have Y:Hid (cF F w.heap.size (bH (fun _=>none) (Xi a f) (.bool true))):=⟨B _ (fun y Z=>bj _ Z) (b_ _ _ _),fun x v H=>by
  by_cases e:x=(Xi a f)
  ·rw[e,b_]at H;cases H;rfl
  ·rw[bj _ e]at H;cases H⟩
 have PG:Hid (∀y v,bH (fun _=>none) (Xi a f) (.bool true) y=some v→(P y∨y=(Xi a f))∨G y):=fun y v h=>by
  by_cases e:y=(Xi a f)
  ·exact .inl (.inr e)
  ·rw[bj _ e]at h;cases h
 have r:Below w w F:=(zB.alloc zl _).grown C zs fun k hk=>by cases hk;exact Nat.le_refl _
 have M:Hid (Kept (fun k=>(none:Option Nat)=some k) w F):=Kept.of r;have N:Hid (aA p g F):=L.out.below r;clear B C n i A r;go_wp2_with fail
 refine(m.out _ N.out.kw).mono ?_;rintro e w' ⟨rfl,rfl⟩;go_wp2_with fail
 go_ret;exact⟨⟨none,rfl,J⟩,M.out,fun b e=>(by cases e)⟩
theorem Ds(p:Pm)(g:Ge)(d:Bool)(G P:Value→Prop)(c:Bool)(l m X:Nat)(hK:cf l)(Z:∀w,aA p g w→Plain w m)(A:P (Xi l m)∨G (Xi l m)→c=true)(hG:c=true→G (Xi l m))(n cc:Nat)(a:Option Addr)(f ft fb:Nat→Nat)(ci:Nat→Bool)(hn:n≤1099511627776)(hc:p X 0=some (.slice a n cc))(hr:cd p a n fun i=>ptr (f i))(hf:∀i,i<n→p (f i) 3=some (.iface (ft i) (Xp (fb i))))(hI:∀i,i<n→gy p g d G (fun y=>P y∨y=(Xi l m)) (ci i) (.iface (ft i) (Xp (fb i))))(PG:(∀i,i<n→ci i=true)→c=true)(PH:∀i,i<n→ci i=false→c=false)(hU:∀W:World,KW p W→cE W l m (Xi 184 X)):
 gy p g d G P c (Xi l m):=by
 have PI:=ak bG 184 X zd;have R:=ak cU 184 X zd;have P8:=ak eB 184 X zd;have Y:=bk di X;have Qi:= @run_makeMap Tryz.prog;intro t w F hE hS hP;obtain⟨hM,hb⟩:=hS;have u:=zh hM;have B:=zh hb;have S:=zh hP;have P9:=zh hG;have q:=zh (dT hK (Z w hE));have PJ:=zh hE;obtain⟨K,fn,Qj,PK,C,PL,hm,Qk,D⟩:=eG hU hE.kw;have Ql:=fun args w=>Go.MuLone.run_callFunc_enter PK C PL args w;have L:=zh D;clear PK C PL D;have P_:Hid (¬Plain w t):=cF.jF ⟨hM,hb⟩;have Qm:∀W,(binOp .eql 162 (.map (some t)) (.map none)).run Tryz.prog W= .ok (.bool false) W:=fun W=>ku t W;clear hM hb hE hU hK Z hP hG;cases z:F (Xi l m)with
 |some v=>
  have T:=B.out _ _ z;have Qa:Hid (c=true):=A (S.out _ _ z);have r:Hid ((F (Xi l m)).getD (.bool false)= .bool true):=by rw[z,T];rfl
  clear z T A;go_enter func124,ntmps124;go_wp2_with (first|(at_lookup;refine eE _ rfl _ _ 162 rfl cg 4 underlying162 (.bool false) dU t F rfl u.out (Xi l m) rfl q.out (.bool true) r.out ?_)|fail)
  go_ret;exact⟨⟨none,rfl,Qa.out⟩,Kept.refl _ _,fun b e=>by cases e;exact⟨F,⟨u.out,B.out⟩,fun _ y v h=> .inl h⟩⟩
 |none=>
 have r:Hid ((F (Xi l m)).getD (.bool false)= .bool false):=by rw[z];rfl
 clear z A;go_enter func124,ntmps124;go_wp2_with (first|(at_lookup;refine eE _ rfl _ _ 162 rfl cg 4 underlying162 (.bool false) dU t F rfl u.out (Xi l m) rfl q.out (.bool false) r.out ?_)|(at_mapUpdate;refine eF _ rfl _ _ _ 162 rfl cg (fR _) 4 underlying162 t F rfl u.out (Xi l m) (.bool true) rfl rfl q.out ?_;intro w1 PM PN)|fail)
 have Qb:Hid (cF w1 t (bH F (Xi l m) (.bool true))):=⟨PM _ (fun y hy=>bj F hy) (b_ _ _ _),fun x v T=>by
  by_cases e:x=(Xi l m)
  ·rw[e,b_]at T;cases T;rfl
  ·rw[bj F e]at T;exact B.out _ _ T⟩
 have Qc:Hid (∀y v,bH F (Xi l m) (.bool true) y=some v→(P y∨y=(Xi l m))∨G y):=fun y v h=>by
  by_cases e:y=(Xi l m)
  ·exact .inl (.inr e)
  ·rw[bj F e]at h;exact(S.out y v h).imp .inl id
 have PO:Hid (Kept (fun k=>some t=some k) w w1):=(Kept.refl _ _).grown PN fun k hk _=>hk;have U:Hid (aA p g w1):=PJ.out.kept PO.out (fun b e=>by cases e;exact P_.out) (fun e=>by
  cases e;have h:=PJ.out.cap 65 zd zd;exact jG ⟨u.out,B.out⟩ h)
 clear PM PN q u r S B;have c0:=U.out.kw _ _ _ hc;have Qd:=zh hI;have Qe:=zh hr;have PQ:=zh hf;have PR:=zh PG;have PS:=zh PH;clear hI hr hf PG PH;go_wp2_with fail
 refine(L.out _ U.out.kw).mono ?_;rintro e w' ⟨rfl,rfl⟩;go_wp2_with fail
 go_loopw [51] (fun i wr=> ∃(k:Nat)(F':Value→Option Value),k≤n∧i= .int .i64 k∧Kept (fun k=>some t=some k) w wr∧cF wr t F'∧aA p g wr∧(∀j,j<k→ci j=true)∧(∀y v,F' y=some v→(bH F (Xi l m) (.bool true)) y=some v∨G y)) (fun i _=>n- (intOf i).toNat)
 case atStart=>exact⟨0,_,Nat.zero_le _,rfl,PO.out,Qb.out,U.out,fun j hj=>absurd hj (Nat.not_lt_zero _),fun y v h=> .inl h⟩
 case round=>
  obtain⟨k,Fr,hk,rfl,PT,PU,PW,PX,PY⟩:=hrel;have N:=zh PT;have E:=zh PU;have s:=zh PW;have O:=zh PX;have H:=zh PY;clear PT PU PW PX PY;by_cases I:k<n
  ·have Qh:(k:Int)<n:=zo
   obtain⟨ab,ao,rfl,PZ⟩:=Qe.out k I;have d0:=s.out.kw _ _ _ PZ;have d3:=s.out.kw _ _ _ (PQ.out k I);clear PZ;go_wp2_with fail
   refine(Qd.out k I t wr _ s.out E.out (vK Qc.out H.out)).mono ?_;rintro e w2 ⟨⟨o,rfl,P0⟩,V,P1⟩;have P2:Hid (Kept (fun k=>some t=some k) w w2):=N.out.trans V fun b hb e=>e;obtain⟨F2,P3,P4⟩:=P1 t rfl;have Q:=zh P3;have P5:=zh P4;have J:=zh P0;have P6:Hid (aA p g w2):=vM s.out E.out V;have d4:=P6.out.kw _ _ _ (PQ.out k I);clear V P1 P3 P4 P0;cases o with
   |none=>
    go_wp2_with fail
    refine⟨⟨k+1,F2,by omega,by go_num,P2.out,Q.out,P6.out,fun j hj=> ?_,vL H.out (P5.out J.out)⟩,?_⟩
    ·by_cases Qf:j<k
     ·exact O.out j Qf
     ·obtain rfl:j=k:=zo
      exact J.out
    ·first|omega|(simp[intOf];omega)
   |some o=>
    go_wp2_with fail
    refine(lv _ zk _ _ _ _).mono ?_;rintro e w3 ⟨⟨o',rfl⟩,Qg⟩;have P7:Below w2 w2 w3:=(zB.alloc zl _).trans (Qg.mono zs);have M:c=false:=PS.out k I J.out;go_wp2_with fail
    go_ret;exact⟨⟨some o',rfl,M⟩,P2.out.below P7,fun b e=>(by cases e;exact⟨_,oE Q.out P7,fun h=>absurd h (by rw[M];exact Bool.false_ne_true)⟩)⟩
  ·have Qn:¬(k:Int)<n:=zo
   have M:Hid (c=true):=PR.out fun i hi=>O.out i zo;go_wp2_with fail
   go_ret;exact⟨⟨none,rfl,M.out⟩,N.out,fun b e=>(by cases e;exact⟨_,E.out,lz P9.out H.out⟩)⟩
theorem Dt(p:Pm)(g:Ge)(d:Bool)(G P:Value→Prop)(c:Bool)(m q O:Nat)(w:World)(R:aA p g w)(hK:cf m)(H:∀w,aA p g w→Plain w q)(hG:c=true→G (Xi m q))(n cc:Nat)(a:Option Addr)(f ft fb:Nat→Nat)(ci:Nat→Bool)(hn:n≤1099511627776)(hc:p O 0=some (.slice a n cc))(hr:cd p a n fun i=>ptr (f i))(hf:∀i,i<n→p (f i) 3=some (.iface (ft i) (Xp (fb i))))(hI:∀i,i<n→gy p g d G (fun y=>P y∨y=(Xi m q)) (ci i) (.iface (ft i) (Xp (fb i))))(S:(∀i,i<n→ci i=true)→c=true)(T:∀i,i<n→ci i=false→c=false)(hU:∀W:World,KW p W→cE W m q (Xi 184 O)):
 Xk 124 #[(Xi m q),.bool d,.map none] w (i_ G c (fun _=>none) none w):=by
 have U:=ak bG 184 O zd;have I:=ak cU 184 O zd;have P0:=ak eB 184 O zd;have Q:=bk di O;have Qa:= @run_makeMap Tryz.prog;have B:=zh (dT hK (H w R));have Qb:=zh hG;have r:=zh (dT hK (w:=w.alloc (.map #[] 0)) ((H w R).below (zB.alloc zl _)));have P1:=zh R;obtain⟨K,fn,Qc,V,s,X,hm,Qd,t⟩:=eG hU R.kw;have Qe:=fun args w=>Go.MuLone.run_callFunc_enter V s X args w;have A:=zh t;clear V s X t;have Y:=zh (jB (fG Tryz.prog) w);have Qf:=kz;clear R hU hK H hG;go_enter func124,ntmps124;go_wp2_with (first|(at_lookup;refine jC _ rfl _ _ 162 rfl cg 4 underlying162 (.bool false) dU rfl (Xi m q) rfl B.out ?_)|(at_mapUpdate;refine eF _ rfl _ _ _ 162 rfl cg (fR _) 4 underlying162 w.heap.size (fun _=>none) rfl Y.out (Xi m q) (.bool true) rfl rfl r.out ?_;intro w1 Z PG)|fail)
 have P2:Hid (cF w1 w.heap.size (bH (fun _=>none) (Xi m q) (.bool true))):=⟨Z _ (fun y hy=>bj _ hy) (b_ _ _ _),fun x v hv=>by
  by_cases e:x=(Xi m q)
  ·rw[e,b_]at hv;cases hv;rfl
  ·rw[bj _ e]at hv;cases hv⟩
 have P3:Hid (∀y v,bH (fun _=>none) (Xi m q) (.bool true) y=some v→(P y∨y=(Xi m q))∨G y):=fun y v h=>by
  by_cases e:y=(Xi m q)
  ·exact .inl (.inr e)
  ·rw[bj _ e]at h;cases h
 have J:Below w w w1:=(zB.alloc zl _).grown PG zs fun k hk=>by cases hk;exact Nat.le_refl _
 have P4:Hid (Kept (fun k=>(none:Option Nat)=some k) w w1):=Kept.of J;have L:Hid (aA p g w1):=P1.out.below J;clear Z PG B r Y J;have c0:=L.out.kw _ _ _ hc;have P5:=zh hI;have P6:=zh hr;have PH:=zh hf;have PI:=zh S;have PJ:=zh T;clear hI hr hf S T;go_wp2_with fail
 refine(A.out _ L.out.kw).mono ?_;rintro e w' ⟨rfl,rfl⟩;go_wp2_with fail
 go_loopw [51] (fun i wr=> ∃(k:Nat)(F':Value→Option Value),k≤n∧i= .int .i64 k∧Kept (fun k=>(none:Option Nat)=some k) w wr∧cF wr w.heap.size F'∧aA p g wr∧(∀j,j<k→ci j=true)∧(∀y v,F' y=some v→(bH (fun _=>none) (Xi m q) (.bool true)) y=some v∨G y)) (fun i _=>n- (intOf i).toNat)
 case atStart=>exact⟨0,_,Nat.zero_le _,rfl,P4.out,P2.out,L.out,fun j hj=>absurd hj (Nat.not_lt_zero _),fun y v h=> .inl h⟩
 case round=>
  obtain⟨k,Fr,hk,rfl,PK,PL,PM,PN,PO⟩:=hrel;have C:=zh PK;have D:=zh PL;have l:=zh PM;have E:=zh PN;have F:=zh PO;clear PK PL PM PN PO;by_cases u:k<n
  ·have P_:(k:Int)<n:=zo
   obtain⟨ab,ao,rfl,PQ⟩:=P6.out k u;have d0:=l.out.kw _ _ _ PQ;have d3:=l.out.kw _ _ _ (PH.out k u);clear PQ;go_wp2_with fail
   refine(P5.out k u w.heap.size wr _ l.out D.out (vK P3.out F.out)).mono ?_;rintro e w2 ⟨⟨o,rfl,PR⟩,M,PS⟩;have PT:Hid (Kept (fun k=>(none:Option Nat)=some k) w w2):=C.out.trans M fun b hb e=>(by have e:=Option.some.inj e;omega)
   obtain⟨F2,PU,PW⟩:=PS w.heap.size rfl;have PX:=zh PU;have PY:=zh PW;have z:=zh PR;have PZ:Hid (aA p g w2):=vM l.out D.out M;have d4:=PZ.out.kw _ _ _ (PH.out k u);clear M PS PU PW PR;cases o with
   |none=>
    go_wp2_with fail
    refine⟨⟨k+1,F2,by omega,by go_num,PT.out,PX.out,PZ.out,fun j hj=> ?_,vL F.out (PY.out z.out)⟩,?_⟩
    ·by_cases P7:j<k
     ·exact E.out j P7
     ·obtain rfl:j=k:=zo
      exact z.out
    ·first|omega|(simp[intOf];omega)
   |some o=>
    go_wp2_with fail
    refine(lv _ zk _ _ _ _).mono ?_;rintro e w3 ⟨⟨o',rfl⟩,P8⟩;have P9:Below w2 w2 w3:=(zB.alloc zl _).trans (P8.mono zs);have N:c=false:=PJ.out k u z.out;go_wp2_with fail
    go_ret;exact⟨⟨some o',rfl,N⟩,PT.out.below P9,fun b e=>(by cases e)⟩
  ·have Qg:¬(k:Int)<n:=zo
   have N:Hid (c=true):=PI.out fun i hi=>E.out i zo;go_wp2_with fail
   go_ret;exact⟨⟨none,rfl,N.out⟩,C.out,fun b e=>(by cases e)⟩
theorem Du(p:Pm)(g:Ge)(d:Bool)(G P:Value→Prop)(c:Bool)(a f B:Nat)(hK:cf a)(J:∀w,aA p g w→Plain w f)(q:P (Xi a f)∨G (Xi a f)→c=true)(hG:c=true→G (Xi a f))(et eb:Nat)(hc:p B 1= .some (Xi et eb))(hI:gy p g d G (fun y=>P y∨y=(Xi a f)) c (Xi et eb))(hU:∀W:World,KW p W→cE W a f (Xi 144 B)):
 gy p g d G P c (Xi a f):=by
 have L:=ak bG 144 B zd;have C:=ak cU 144 B zd;have PJ:=ak eB 144 B zd;have I:=ak di 144 B zd;have M:=bk cT B;have PS:= @run_makeMap Tryz.prog;intro r w F hE hS hP;obtain⟨hM,hb⟩:=hS;have m:=zh hM;have s:=zh hb;have D:=zh hP;have PK:=zh hG;have i:=zh (dT hK (J w hE));have N:=zh hE;obtain⟨K,fn,PT,O,t,Q,hm,PU,u⟩:=eG hU hE.kw;have PW:=fun args w=>Go.MuLone.run_callFunc_enter O t Q args w;have z:=zh u;clear O t Q u;have PL:Hid (¬Plain w r):=cF.jF ⟨hM,hb⟩;have PX:∀W,(binOp .eql 162 (.map (some r)) (.map none)).run Tryz.prog W= .ok (.bool false) W:=fun W=>ku r W;clear hM hb hE hU hK J hP hG;cases n:F (Xi a f)with
 |some v=>
  have E:=s.out _ _ n;have PM:Hid (c=true):=q (D.out _ _ n);have j:Hid ((F (Xi a f)).getD (.bool false)= .bool true):=by rw[n,E];rfl
  clear n E q;go_enter func124,ntmps124;go_wp2_with (first|(at_lookup;refine eE _ rfl _ _ 162 rfl cg 4 underlying162 (.bool false) dU r F rfl m.out (Xi a f) rfl i.out (.bool true) j.out ?_)|fail)
  go_ret;exact⟨⟨none,rfl,PM.out⟩,Kept.refl _ _,fun b e=>by cases e;exact⟨F,⟨m.out,s.out⟩,fun _ y v h=> .inl h⟩⟩
 |none=>
 have j:Hid ((F (Xi a f)).getD (.bool false)= .bool false):=by rw[n];rfl
 clear n q;go_enter func124,ntmps124;go_wp2_with (first|(at_lookup;refine eE _ rfl _ _ 162 rfl cg 4 underlying162 (.bool false) dU r F rfl m.out (Xi a f) rfl i.out (.bool false) j.out ?_)|(at_mapUpdate;refine eF _ rfl _ _ _ 162 rfl cg (fR _) 4 underlying162 r F rfl m.out (Xi a f) (.bool true) rfl rfl i.out ?_;intro w1 R S)|fail)
 have PN:Hid (cF w1 r (bH F (Xi a f) (.bool true))):=⟨R _ (fun y hy=>bj F hy) (b_ _ _ _),fun x v E=>by
  by_cases e:x=(Xi a f)
  ·rw[e,b_]at E;cases E;rfl
  ·rw[bj F e]at E;exact s.out _ _ E⟩
 have PO:Hid (∀y v,bH F (Xi a f) (.bool true) y=some v→(P y∨y=(Xi a f))∨G y):=fun y v h=>by
  by_cases e:y=(Xi a f)
  ·exact .inl (.inr e)
  ·rw[bj F e]at h;exact(D.out y v h).imp .inl id
 have T:Hid (Kept (fun k=>some r=some k) w w1):=(Kept.refl _ _).grown S fun k hk _=>hk;have H:Hid (aA p g w1):=N.out.kept T.out (fun b e=>by cases e;exact PL.out) (fun e=>by
  cases e;have h:=N.out.cap 65 zd zd;exact jG ⟨m.out,s.out⟩ h)
 clear R S i m j D s;have c0:=H.out.kw _ _ _ hc;have PQ:=zh hI;clear hI;go_wp2_with fail
 refine(z.out _ H.out.kw).mono ?_;rintro e w' ⟨rfl,rfl⟩;go_wp2_with fail
 refine(PQ.out r w1 _ H.out PN.out PO.out).mono ?_;rintro e w2 ⟨⟨o,rfl,U⟩,V,X⟩;have Y:Hid (Kept (fun k=>some r=some k) w w2):=T.out.trans V fun b hb e=>e;obtain⟨F2,Z,PG⟩:=X r rfl;have A:=zh Z;have PH:=zh PG;have l:=zh U;clear V X Z PG U;cases o with
 |none=>
  go_wp2_with fail
  go_ret;exact⟨⟨none,rfl,l.out⟩,Y.out,fun b e=>(by cases e;exact⟨_,A.out,lz PK.out (PH.out l.out)⟩)⟩
 |some o=>
  go_wp2_with fail
  refine(lv _ zk _ _ _ _).mono ?_;rintro e w3 ⟨⟨o',rfl⟩,PR⟩;have PI:Below w2 w2 w3:=(zB.alloc zl _).trans (PR.mono zs);go_wp2_with fail
  go_ret;exact⟨⟨some o',rfl,l.out⟩,Y.out.below PI,fun b e=>(by cases e;exact⟨_,oE A.out PI,fun h=>absurd h (by rw[l.out];exact Bool.false_ne_true)⟩)⟩
theorem Dv(p:Pm)(g:Ge)(d:Bool)(G P:Value→Prop)(c:Bool)(a f r:Nat)(w:World)(B:aA p g w)(V:cf a)(s:∀w,aA p g w→Plain w f)(hG:c=true→G (Xi a f))(et eb:Nat)(hc:p r 1= .some (Xi et eb))(hI:gy p g d G (fun y=>P y∨y=(Xi a f)) c (Xi et eb))(hU:∀W:World,KW p W→cE W a f (Xi 144 r)):
 Xk 124 #[(Xi a f),.bool d,.map none] w (i_ G c (fun _=>none) none w):=by
 have C:=ak bG 144 r zd;have t:=ak cU 144 r zd;have T:=ak eB 144 r zd;have A:=ak di 144 r zd;have D:=bk cT r;have PM:= @run_makeMap Tryz.prog;have n:=zh (dT V (s w B));have PN:=zh hG;have i:=zh (dT V (w:=w.alloc (.map #[] 0)) ((s w B).below (zB.alloc zl _)));have X:=zh B;obtain⟨K,fn,PO,E,j,F,hm,PQ,l⟩:=eG hU B.kw;have PR:=fun args w=>Go.MuLone.run_callFunc_enter E j F args w;have m:=zh l;clear E j F l;have H:=zh (jB (fG Tryz.prog) w);have PS:=kz;clear B hU V s hG;go_enter func124,ntmps124;go_wp2_with (first|(at_lookup;refine jC _ rfl _ _ 162 rfl cg 4 underlying162 (.bool false) dU rfl (Xi a f) rfl n.out ?_)|(at_mapUpdate;refine eF _ rfl _ _ _ 162 rfl cg (fR _) 4 underlying162 w.heap.size (fun _=>none) rfl H.out (Xi a f) (.bool true) rfl rfl i.out ?_;intro I J L)|fail)
 have Y:Hid (cF I w.heap.size (bH (fun _=>none) (Xi a f) (.bool true))):=⟨J _ (fun y hy=>bj _ hy) (b_ _ _ _),fun x v U=>by
  by_cases e:x=(Xi a f)
  ·rw[e,b_]at U;cases U;rfl
  ·rw[bj _ e]at U;cases U⟩
 have Z:Hid (∀y v,bH (fun _=>none) (Xi a f) (.bool true) y=some v→(P y∨y=(Xi a f))∨G y):=fun y v h=>by
  by_cases e:y=(Xi a f)
  ·exact .inl (.inr e)
  ·rw[bj _ e]at h;cases h
 have u:Below w w I:=(zB.alloc zl _).grown L zs fun k hk=>by cases hk;exact Nat.le_refl _
 have PG:Hid (Kept (fun k=>(none:Option Nat)=some k) w I):=Kept.of u;have z:Hid (aA p g I):=X.out.below u;clear J L n i H u;have c0:=z.out.kw _ _ _ hc;have PH:=zh hI;clear hI;go_wp2_with fail
 refine(m.out _ z.out.kw).mono ?_;rintro e w' ⟨rfl,rfl⟩;go_wp2_with fail
 refine(PH.out w.heap.size I _ z.out Y.out Z.out).mono ?_;rintro e w2 ⟨⟨o,rfl,M⟩,N,O⟩;have Q:Hid (Kept (fun k=>(none:Option Nat)=some k) w w2):=PG.out.trans N fun b hb e=>(by have e:=Option.some.inj e;omega)
 obtain⟨F2,R,S⟩:=O w.heap.size rfl;have PK:=zh R;have PL:=zh S;have q:=zh M;clear N O R S M;cases o with
 |none=>
  go_wp2_with fail
  go_ret;exact⟨⟨none,rfl,q.out⟩,Q.out,fun b e=>(by cases e)⟩
 |some o=>
  go_wp2_with fail
  refine(lv _ zk _ _ _ _).mono ?_;rintro e w3 ⟨⟨o',rfl⟩,PI⟩;have PJ:Below w2 w2 w3:=(zB.alloc zl _).trans (PI.mono zs);go_wp2_with fail
  go_ret;exact⟨⟨some o',rfl,q.out⟩,Q.out.below PJ,fun b e=>(by cases e)⟩
theorem Dw(p:Pm)(g:Ge)(d:Bool)(G P:Value→Prop)(c:Bool)(f j t:Nat)(hK:cf f)(O:∀w,aA p g w→Plain w j)(u:P (Xi f j)∨G (Xi f j)→c=true)(hG:c=true→G (Xi f j))(tb tc:Nat)(ta:Option Addr)(Q:Nat→Nat)(hc:p t 0=some (.pointer none))(h6:p t 6=some (ptr tb))(h2:p tb 2=some (.slice ta 1 tc))(h3:p tb 3=some (.bool false))(PM:cd p ta 1 fun i=>ptr (Q i))(PN:p (Q 0) 1=some .nilIface)(R:∀W,KW p W→Xk 149 #[(Xi f j)] W fun e w'=>e= .returned (.bool false)∧W=w')(H:c=d)(hU:∀W:World,KW p W→cE W f j (Xi 37 t)):
 gy p g d G P c (Xi f j):=by
 have S:=ak bG 37 t zd;have I:=ak cU 37 t zd;have PL:=ak eB 37 t zd;have N:=ak di 37 t zd;have T:=ak cT 37 t zd;have C:=bk ei t;have PT:= @run_makeMap Tryz.prog;intro D w F hE hS hP;obtain⟨hM,hb⟩:=hS;have q:=zh hM;have z:=zh hb;have J:=zh hP;have PO:=zh hG;have l:=zh (dT hK (O w hE));have U:=zh hE;obtain⟨K,fn,PU,V,A,X,hm,PW,B⟩:=eG hU hE.kw;have PX:=fun args w=>Go.MuLone.run_callFunc_enter V A X args w;have m:=zh B;clear V A X B;have PQ:Hid (¬Plain w D):=cF.jF ⟨hM,hb⟩;have PY:∀W,(binOp .eql 162 (.map (some D)) (.map none)).run Tryz.prog W= .ok (.bool false) W:=fun W=>ku D W;clear hM hb hE hU hK O hP hG;cases r:F (Xi f j)with
 |some v=>
  have L:=z.out _ _ r;have PR:Hid (c=true):=u (J.out _ _ r);have n:Hid ((F (Xi f j)).getD (.bool false)= .bool true):=by rw[r,L];rfl
  clear r L u;go_enter func124,ntmps124;go_wp2_with (first|(at_lookup;refine eE _ rfl _ _ 162 rfl cg 4 underlying162 (.bool false) dU D F rfl q.out (Xi f j) rfl l.out (.bool true) n.out ?_)|fail)
  go_ret;exact⟨⟨none,rfl,PR.out⟩,Kept.refl _ _,fun b e=>by cases e;exact⟨F,⟨q.out,z.out⟩,fun _ y v h=> .inl h⟩⟩
 |none=>
 have n:Hid ((F (Xi f j)).getD (.bool false)= .bool false):=by rw[r];rfl
 clear r u;go_enter func124,ntmps124;go_wp2_with (first|(at_lookup;refine eE _ rfl _ _ 162 rfl cg 4 underlying162 (.bool false) dU D F rfl q.out (Xi f j) rfl l.out (.bool false) n.out ?_)|(at_mapUpdate;refine eF _ rfl _ _ _ 162 rfl cg (fR _) 4 underlying162 D F rfl q.out (Xi f j) (.bool true) rfl rfl l.out ?_;intro w1 Y Z)|fail)
 have PG:Hid (cF w1 D (bH F (Xi f j) (.bool true))):=⟨Y _ (fun y hy=>bj F hy) (b_ _ _ _),fun x v L=>by
  by_cases e:x=(Xi f j)
  ·rw[e,b_]at L;cases L;rfl
  ·rw[bj F e]at L;exact z.out _ _ L⟩
 have PZ:Hid (∀y v,bH F (Xi f j) (.bool true) y=some v→(P y∨y=(Xi f j))∨G y):=fun y v h=>by
  by_cases e:y=(Xi f j)
  ·exact .inl (.inr e)
  ·rw[bj F e]at h;exact(J.out y v h).imp .inl id
 have M:Hid (Kept (fun k=>some D=some k) w w1):=(Kept.refl _ _).grown Z fun k hk _=>hk;have a:Hid (aA p g w1):=U.out.kept M.out (fun b e=>by cases e;exact PQ.out) (fun e=>by
  cases e;have h:=U.out.cap 65 zd zd;exact jG ⟨q.out,z.out⟩ h)
 clear Y Z l q n J z;have c0:=a.out.kw _ _ _ hc;have c6:=a.out.kw _ _ _ h6;have c2:=a.out.kw _ _ _ h2;have c3:=a.out.kw _ _ _ h3;have ct:=a.out.kw _ _ _ PN;have PH:=zh (gT PM a.out.kw);have PI:=zh R;clear R;cases d with
 |true=>
  go_wp2_with fail
  refine(m.out _ a.out.kw).mono ?_;rintro e w' ⟨rfl,rfl⟩;go_wp2_with fail
  refine(PI.out _ a.out.kw).mono ?_;rintro e w' ⟨rfl,rfl⟩;go_wp2_with fail
  go_ret;exact⟨⟨none,rfl,H⟩,M.out,fun b e=>(by cases e;exact⟨_,PG.out,lz PO.out fun y v h=> .inl h⟩)⟩
 |false=>
 go_wp2_with fail
 refine(m.out _ a.out.kw).mono ?_;rintro e w' ⟨rfl,rfl⟩;go_wp2_with fail
 refine(jD t tb _ c0 c6).mono ?_;rintro e w2 ⟨rfl,rfl⟩;go_wp2_with fail
 refine(vI tb 1 tc ta Q false _ c2 c3 PH.out Nat.one_pos ct (some D)).mono ?_;rintro e w2 ⟨rfl,s⟩;have f0:=az s c0;have f6:=az s c6;have f2:=az s c2;have PJ:Hid (bJ w2 ta 1 Q):=fun i hi=>let⟨b,o,e,hc⟩:=PH.out i hi;⟨b,o,e,az s hc⟩;have E:=zh s;clear s;go_wp2_with fail
 refine(jD t tb _ f0 f6).mono ?_;rintro e w3 ⟨rfl,rfl⟩;go_wp2_with fail
 refine(vJ tb 1 tc ta Q _ f2 PJ.out).mono ?_;rintro e w3 ⟨rfl,rfl⟩;go_wp2_with fail
 refine(lv _ zk _ _ _ _).mono ?_;rintro e w3 ⟨⟨o',rfl⟩,PS⟩;have PK:=E.out.trans (PS.mono E.out.size);go_wp2_with fail
 go_ret;exact⟨⟨some o',rfl,H⟩,M.out.below PK,fun b e=>(by cases e;exact⟨_,oE PG.out PK,fun h=>absurd h (by rw[H];exact Bool.false_ne_true)⟩)⟩
theorem Dx(p:Pm)(g:Ge)(d:Bool)(G P:Value→Prop)(c:Bool)(l m n:Nat)(w:World)(E:aA p g w)(hK:cf l)(A:∀w,aA p g w→Plain w m)(hG:c=true→G (Xi l m))(tb tc:Nat)(ta:Option Addr)(F:Nat→Nat)(hc:p n 0=some (.pointer none))(h6:p n 6=some (ptr tb))(h2:p tb 2=some (.slice ta 1 tc))(h3:p tb 3=some (.bool false))(PG:cd p ta 1 fun i=>ptr (F i))(PH:p (F 0) 1=some .nilIface)(H:∀W,KW p W→Xk 149 #[(Xi l m)] W fun e X=>e= .returned (.bool false)∧W=X)(I:c=d)(hU:∀W:World,KW p W→cE W l m (Xi 37 n)):
 Xk 124 #[(Xi l m),.bool d,.map none] w (i_ G c (fun _=>none) none w):=by
 have J:=ak bG 37 n zd;have B:=ak cU 37 n zd;have Y:=ak eB 37 n zd;have D:=ak di 37 n zd;have L:=ak cT 37 n zd;have t:=bk ei n;have PL:= @run_makeMap Tryz.prog;have u:=zh (dT hK (A w E));have PM:=zh hG;have q:=zh (dT hK (w:=w.alloc (.map #[] 0)) ((A w E).below (zB.alloc zl _)));have PI:=zh E;obtain⟨K,fn,PN,M,r,N,hm,PO,s⟩:=eG hU E.kw;have PQ:=fun args w=>Go.MuLone.run_callFunc_enter M r N args w;have f:=zh s;clear M r N s;have O:=zh (jB (fG Tryz.prog) w);have PR:=kz;clear E hU hK A hG;go_enter func124,ntmps124;go_wp2_with (first|(at_lookup;refine jC _ rfl _ _ 162 rfl cg 4 underlying162 (.bool false) dU rfl (Xi l m) rfl u.out ?_)|(at_mapUpdate;refine eF _ rfl _ _ _ 162 rfl cg (fR _) 4 underlying162 w.heap.size (fun _=>none) rfl O.out (Xi l m) (.bool true) rfl rfl q.out ?_;intro Z Q R)|fail)
 have PS:Hid (cF Z w.heap.size (bH (fun _=>none) (Xi l m) (.bool true))):=⟨Q _ (fun y hy=>bj _ hy) (b_ _ _ _),fun x v hv=>by
  by_cases e:x=(Xi l m)
  ·rw[e,b_]at hv;cases hv;rfl
  ·rw[bj _ e]at hv;cases hv⟩
 have PT:Hid (∀y v,bH (fun _=>none) (Xi l m) (.bool true) y=some v→(P y∨y=(Xi l m))∨G y):=fun y v h=>by
  by_cases e:y=(Xi l m)
  ·exact .inl (.inr e)
  ·rw[bj _ e]at h;cases h
 have C:Below w w Z:=(zB.alloc zl _).grown R zs fun k hk=>by cases hk;exact Nat.le_refl _
 have S:Hid (Kept (fun k=>(none:Option Nat)=some k) w Z):=Kept.of C;have a:Hid (aA p g Z):=PI.out.below C;clear Q R u q O C;have c0:=a.out.kw _ _ _ hc;have c6:=a.out.kw _ _ _ h6;have c2:=a.out.kw _ _ _ h2;have c3:=a.out.kw _ _ _ h3;have ct:=a.out.kw _ _ _ PH;have T:=zh (gT PG a.out.kw);have U:=zh H;clear H;cases d with
 |true=>
  go_wp2_with fail
  refine(f.out _ a.out.kw).mono ?_;rintro e X ⟨rfl,rfl⟩;go_wp2_with fail
  refine(U.out _ a.out.kw).mono ?_;rintro e X ⟨rfl,rfl⟩;go_wp2_with fail
  go_ret;exact⟨⟨none,rfl,I⟩,S.out,fun b e=>(by cases e)⟩
 |false=>
 go_wp2_with fail
 refine(f.out _ a.out.kw).mono ?_;rintro e X ⟨rfl,rfl⟩;go_wp2_with fail
 refine(jD n tb _ c0 c6).mono ?_;rintro e w2 ⟨rfl,rfl⟩;go_wp2_with fail
 refine(vI tb 1 tc ta F false _ c2 c3 T.out Nat.one_pos ct (some w.heap.size)).mono ?_;rintro e w2 ⟨rfl,j⟩;have f0:=az j c0;have f6:=az j c6;have f2:=az j c2;have V:Hid (bJ w2 ta 1 F):=fun i hi=>let⟨b,o,e,hc⟩:=T.out i hi;⟨b,o,e,az j hc⟩;have z:=zh j;clear j;go_wp2_with fail
 refine(jD n tb _ f0 f6).mono ?_;rintro e w3 ⟨rfl,rfl⟩;go_wp2_with fail
 refine(vJ tb 1 tc ta F _ f2 V.out).mono ?_;rintro e w3 ⟨rfl,rfl⟩;go_wp2_with fail
 refine(lv _ zk _ _ _ _).mono ?_;rintro e w3 ⟨⟨o',rfl⟩,PJ⟩;have PK:=z.out.trans (PJ.mono z.out.size);go_wp2_with fail
 go_ret;exact⟨⟨some o',rfl,I⟩,S.out.below PK,fun b e=>(by cases e)⟩
theorem qY(p:Pm)(g:Ge)(d:Bool)(G P:Value→Prop)(c:Bool)(f i I:Nat)(hK:cf f)(O:∀w,aA p g w→Plain w i)(s:P (Xi f i)∨G (Xi f i)→c=true)(hG:c=true→G (Xi f i))(rt:Nat)(t:rt≠105)(j:rt≠148)(C:rt≠152)(n:rt≠184)(u:rt≠144)(a:rt≠37)(Q:c=false)(hU:∀W:World,KW p W→cE W f i (Xi rt I)):
 gy p g d G P c (Xi f i):=by
 have R:=ak bG rt I (t);have J:=ak cU rt I (j);have PH:=ak eB rt I (C);have N:=ak di rt I (n);have S:=ak cT rt I (u);have D:=ak ei rt I (a);have PM:= @run_makeMap Tryz.prog;intro H w F hE hS hP;obtain⟨hM,hb⟩:=hS;have q:=zh hM;have z:=zh hb;have L:=zh hP;have PN:=zh hG;have l:=zh (dT hK (O w hE));have T:=zh hE;obtain⟨K,fn,PO,U,A,V,hm,PQ,B⟩:=eG hU hE.kw;have PR:=fun args w=>Go.MuLone.run_callFunc_enter U A V args w;have E:=zh B;clear U A V B;have PI:Hid (¬Plain w H):=cF.jF ⟨hM,hb⟩;have PS:∀W,(binOp .eql 162 (.map (some H)) (.map none)).run Tryz.prog W= .ok (.bool false) W:=fun W=>ku H W;clear hM hb hE hU hK O hP hG;cases r:F (Xi f i)with
 |some v=>
  have M:=z.out _ _ r;have PJ:Hid (c=true):=s (L.out _ _ r);have m:Hid ((F (Xi f i)).getD (.bool false)= .bool true):=by rw[r,M];rfl
  clear r M s;go_enter func124,ntmps124;go_wp2_with (first|(at_lookup;refine eE _ rfl _ _ 162 rfl cg 4 underlying162 (.bool false) dU H F rfl q.out (Xi f i) rfl l.out (.bool true) m.out ?_)|fail)
  go_ret;exact⟨⟨none,rfl,PJ.out⟩,Kept.refl _ _,fun b e=>by cases e;exact⟨F,⟨q.out,z.out⟩,fun _ y v h=> .inl h⟩⟩
 |none=>
 have m:Hid ((F (Xi f i)).getD (.bool false)= .bool false):=by rw[r];rfl
 clear r s;go_enter func124,ntmps124;go_wp2_with (first|(at_lookup;refine eE _ rfl _ _ 162 rfl cg 4 underlying162 (.bool false) dU H F rfl q.out (Xi f i) rfl l.out (.bool false) m.out ?_)|(at_mapUpdate;refine eF _ rfl _ _ _ 162 rfl cg (fR _) 4 underlying162 H F rfl q.out (Xi f i) (.bool true) rfl rfl l.out ?_;intro w1 X Y)|fail)
 have PK:Hid (cF w1 H (bH F (Xi f i) (.bool true))):=⟨X _ (fun y hy=>bj F hy) (b_ _ _ _),fun x v M=>by
  by_cases e:x=(Xi f i)
  ·rw[e,b_]at M;cases M;rfl
  ·rw[bj F e]at M;exact z.out _ _ M⟩
 have PT:Hid (∀y v,bH F (Xi f i) (.bool true) y=some v→(P y∨y=(Xi f i))∨G y):=fun y v h=>by
  by_cases e:y=(Xi f i)
  ·exact .inl (.inr e)
  ·rw[bj F e]at h;exact(L.out y v h).imp .inl id
 have Z:Hid (Kept (fun k=>some H=some k) w w1):=(Kept.refl _ _).grown Y fun k hk _=>hk;have PL:Hid (aA p g w1):=T.out.kept Z.out (fun b e=>by cases e;exact PI.out) (fun e=>by
  cases e;have h:=T.out.cap 65 zd zd;exact jG ⟨q.out,z.out⟩ h)
 clear X Y l q m L z;go_wp2_with fail
 refine(E.out _ PL.out.kw).mono ?_;rintro e w' ⟨rfl,rfl⟩;go_wp2_with fail
 refine(vH _ _ _ _).mono ?_;rintro e w2 ⟨⟨o,rfl⟩,PG⟩;go_wp2_with fail
 go_ret;exact⟨⟨some o,rfl,Q⟩,Z.out.below PG,fun b e=>(by cases e;exact⟨_,oE PK.out PG,fun h=>absurd h (by rw[Q];exact Bool.false_ne_true)⟩)⟩
theorem qZ(p:Pm)(g:Ge)(d:Bool)(G P:Value→Prop)(c:Bool)(j l B:Nat)(w:World)(H:aA p g w)(U:cf j)(C:∀w,aA p g w→Plain w l)(hG:c=true→G (Xi j l))(rt:Nat)(m:rt≠105)(f:rt≠148)(t:rt≠152)(i:rt≠184)(n:rt≠144)(a:rt≠37)(V:c=false)(hU:∀W:World,KW p W→cE W j l (Xi rt B)):
 Xk 124 #[(Xi j l),.bool d,.map none] w (i_ G c (fun _=>none) none w):=by
 have I:=ak bG rt B (m);have D:=ak cU rt B (f);have R:=ak eB rt B (t);have F:=ak di rt B (i);have J:=ak cT rt B (n);have u:=ak ei rt B (a);have PH:= @run_makeMap Tryz.prog;have A:=zh (dT U (C w H));have PI:=zh hG;have q:=zh (dT U (w:=w.alloc (.map #[] 0)) ((C w H).below (zB.alloc zl _)));have X:=zh H;obtain⟨K,fn,PJ,L,r,M,hm,PK,s⟩:=eG hU H.kw;have PL:=fun args w=>Go.MuLone.run_callFunc_enter L r M args w;have z:=zh s;clear L r M s;have N:=zh (jB (fG Tryz.prog) w);have PM:=kz;clear H hU U C hG;go_enter func124,ntmps124;go_wp2_with (first|(at_lookup;refine jC _ rfl _ _ 162 rfl cg 4 underlying162 (.bool false) dU rfl (Xi j l) rfl A.out ?_)|(at_mapUpdate;refine eF _ rfl _ _ _ 162 rfl cg (fR _) 4 underlying162 w.heap.size (fun _=>none) rfl N.out (Xi j l) (.bool true) rfl rfl q.out ?_;intro S O Q)|fail)
 have PN:Hid (cF S w.heap.size (bH (fun _=>none) (Xi j l) (.bool true))):=⟨O _ (fun y hy=>bj _ hy) (b_ _ _ _),fun x v T=>by
  by_cases e:x=(Xi j l)
  ·rw[e,b_]at T;cases T;rfl
  ·rw[bj _ e]at T;cases T⟩
 have PO:Hid (∀y v,bH (fun _=>none) (Xi j l) (.bool true) y=some v→(P y∨y=(Xi j l))∨G y):=fun y v h=>by
  by_cases e:y=(Xi j l)
  ·exact .inl (.inr e)
  ·rw[bj _ e]at h;cases h
 have E:Below w w S:=(zB.alloc zl _).grown Q zs fun k hk=>by cases hk;exact Nat.le_refl _
 have Y:Hid (Kept (fun k=>(none:Option Nat)=some k) w S):=Kept.of E;have Z:Hid (aA p g S):=X.out.below E;clear O Q A q N E;go_wp2_with fail
 refine(z.out _ Z.out.kw).mono ?_;rintro e w' ⟨rfl,rfl⟩;go_wp2_with fail
 refine(vH _ _ _ _).mono ?_;rintro e w2 ⟨⟨o,rfl⟩,PG⟩;go_wp2_with fail
 go_ret;exact⟨⟨some o,rfl,V⟩,Y.out.below PG,fun b e=>(by cases e)⟩
end Go.Proofs.YtkochlhejabdcaaGreatDoor
