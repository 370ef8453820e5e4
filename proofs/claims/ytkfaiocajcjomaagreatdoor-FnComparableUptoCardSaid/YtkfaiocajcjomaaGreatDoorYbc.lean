import Derived.Test.YtkfaiocajcjomaaGreatDoorYaz
set_option maxRecDepth 100000
set_option maxHeartbeats 8000000
set_option linter.all false
namespace Go.Proofs.YtkfaiocajcjomaaGreatDoor
open Go.RowKit TS
def ca(w:World)(a:Nat)(F:Value→Option Value):Prop:=bV (eD Tryz.prog) w a F∧∀x v,F x=some v→v= .bool true
def gJ(G:Value→Prop)(c:Bool)(F:Value→Option Value)(m:Option Nat)(w:World)(e:Ending)(a:World):Prop:=
 (∃o,e= .returned (.pointer o)∧c=o.isNone)∧Kept (fun k=>m=some k) w a∧∀b,m=some b→∃d,ca a b d∧(c=true→∀y v,d y=some v→F y=some v∨G y)
def fw(p:Pm)(g:Ge)(d:Bool)(G P:Value→Prop)(c:Bool)(x:Value):Prop:=∀(a:Nat)(w:World)(F:Value→Option Value),aq p g w→ca w a F→(∀y v,F y=some v→P y∨G y)→Calls Tryz.prog 51 #[x,.bool d,.map (some a)] w (gJ G c F (some a) w)
theorem tA{G P:Value→Prop}{F a:Value→Option Value}{x:Value}(h1:∀y v,F y=some v→(P y∨y=x)∨G y)(h2:∀y v,a y=some v→F y=some v∨G y):∀y v,a y=some v→(P y∨y=x)∨G y:=fun y v h=>(h2 y v h).elim (h1 y v) .inr
theorem j8{G:Value→Prop}{F a:Value→Option Value}{x:Value}{c:Bool}(b:c=true→G x)(h2:∀y v,a y=some v→bt F x (.bool true) y=some v∨G y):c=true→∀y v,a y=some v→F y=some v∨G y:=fun d y v h=>by
 rcases h2 y v h with h|h
 ·by_cases e:y=x
  ·subst e;exact .inr (b d)
  ·rw[a_ F e]at h;exact .inl h
 ·exact .inr h
theorem tB{G:Value→Prop}{F b a:Value→Option Value}(h1:∀y v,b y=some v→F y=some v∨G y)(h2:∀y v,a y=some v→b y=some v∨G y):∀y v,a y=some v→F y=some v∨G y:=fun y v h=>(h2 y v h).elim (h1 y v) .inr
theorem ca.iF{w:World}{b:Nat}{F:Value→Option Value}(h:ca w b F):¬Plain w b:=by
 obtain⟨⟨es,c,a,_⟩,_⟩:=h;rintro⟨cs,T,h⟩;rw[a]at h;cases h
theorem js(a:Nat)(w:World):(binOp .eql 145 (.map (some a)) (.map none)).run Tryz.prog w= .ok (.bool false) w:=by kernel_rfl
theorem jt(w:World):(binOp .eql 145 (.map none) (.map none)).run Tryz.prog w= .ok (.bool true) w:=by kernel_rfl
theorem iG{w:World}{b o:Nat}{v:Value}{F:Value→Option Value}(a:ca w b F)(h:w.cell? ⟨b,o,none⟩=some v):False:=by
 obtain⟨⟨es,c,d,_⟩,_⟩:=a;simp[World.cell?,d]at h
theorem dS{p:Pm}{t b:Nat}{r:Value}{w:World}(h:∀W:World,KW p W→b_ W t b r)(hw:KW p w):∃K fn c,Tryz.prog.funcs[K]?=some fn∧(fn.name== "runtime.NumGoroutine")=false∧fn.body=some c∧(∀W:World,(method 478 t (.pointer (some ⟨b,0,none⟩)) "Underlying").run Tryz.prog W= .ok (K,.pointer (some ⟨b,0,none⟩)) W)∧
 (∀W:World,(nilAhead 478 t (.pointer (some ⟨b,0,none⟩)) "Underlying").run Tryz.prog W= .ok (some false) W)∧∀W:World,KW p W→Calls Tryz.prog K #[.pointer (some ⟨b,0,none⟩)] W fun e d=>e= .returned r∧W=d:=by
 obtain⟨K,fn,c,h1,h2,h3,a,f,_⟩:=h w hw;refine⟨K,fn,c,h1,h2,h3,a,f,fun W g=> ?_⟩;obtain⟨i,j,c',_,_,_,k,_,l⟩:=h W g;have e:=a W;rw[k W]at e;have:i=K:=by injection e with e;injection e
 rw[←this];exact l
theorem mT{w a:World}{b:Nat}{F:Value→Option Value}(h:ca w b F)(k:Below w.heap.size w a):ca a b F:=by
 obtain⟨hM,c⟩:=h;refine⟨hM.of (k.block b hM.lt) fun v d=> ?_,c⟩;exact Bh (Kept.of (X:=fun _=>False) k) (fun _ h=>h.elim) d
theorem tC{p:Pm}{g:Ge}{w a:World}{c:Nat}{F:Value→Option Value}(d:aq p g w)(f:ca w c F)(k:Kept (fun k=>some c=some k) w a):aq p g a:=
 d.kept k (fun b e=>by cases e;exact f.iF) fun e=>by
  cases e;exact iG f (d.cap 65 (by decide) (by decide))
theorem Bj(p:Pm)(g:Ge)(d:Bool)(G P:Value→Prop)(c:Bool)(a f N:Nat)(X:bP a)(A:∀w,aq p g w→Plain w f)(n:P (.iface a (.pointer (some ⟨f,0,none⟩)))∨G (.iface a (.pointer (some ⟨f,0,none⟩)))→c=true)(Y:c=true→G (.iface a (.pointer (some ⟨f,0,none⟩))))(k:Int)(hc:p N 0=some (.int .i64 k))(Z:(k==25)=false)(O:c=true)(hU:∀W:World,KW p W→b_ W a f (.iface 91 (.pointer (some ⟨N,0,none⟩)))):
 fw p g d G P c (.iface a (.pointer (some ⟨f,0,none⟩))):=by
 have B:=ba br N;have P3:= @run_makeMap Tryz.prog;intro t w F M hS hP;obtain⟨hM,Q⟩:=hS;have l:=Lib.hid hM;have o:=Lib.hid Q;have u:=Lib.hid hP;have R:=Lib.hid Y;have i:=Lib.hid (dr X (A w M));have C:=Lib.hid M;obtain⟨K,fn,P4,D,q,E,hm,P5,r⟩:=dS hU M.kw;have P6:=fun args w=>Go.MuLone.run_callFunc_enter D q E args w;have s:=Lib.hid r;clear D q E r;have S:Hid (¬Plain w t):=ca.iF ⟨hM,Q⟩;have P7:∀W,(binOp .eql 145 (.map (some t)) (.map none)).run Tryz.prog W= .ok (.bool false) W:=fun W=>js t W;clear hM Q M hU X A hP Y;cases m:F (.iface a (.pointer (some ⟨f,0,none⟩)))with
 |some v=>
  have z:=o.out _ _ m;have T:Hid (c=true):=n (u.out _ _ m);have j:Hid ((F (.iface a (.pointer (some ⟨f,0,none⟩)))).getD (.bool false)= .bool true):=by rw[m,z];rfl
  clear m z n;go_enter Tryz.func51,Tryz.ntmps51;go_wp2_with (first|(at_lookup;refine dQ _ rfl _ _ 145 rfl bQ 4 Tryz.underlying145 (.bool false) dt t F rfl l.out (.iface a (.pointer (some ⟨f,0,none⟩))) rfl i.out (.bool true) j.out ?_)|fail)
  go_ret;exact⟨⟨none,rfl,T.out⟩,Kept.refl _ _,fun b e=>by cases e;exact⟨F,⟨l.out,o.out⟩,fun _ y v h=> .inl h⟩⟩
 |none=>
 have j:Hid ((F (.iface a (.pointer (some ⟨f,0,none⟩)))).getD (.bool false)= .bool false):=by rw[m];rfl
 clear m n;go_enter Tryz.func51,Tryz.ntmps51;go_wp2_with (first|(at_lookup;refine dQ _ rfl _ _ 145 rfl bQ 4 Tryz.underlying145 (.bool false) dt t F rfl l.out (.iface a (.pointer (some ⟨f,0,none⟩))) rfl i.out (.bool false) j.out ?_)|(at_mapUpdate;refine dR _ rfl _ _ _ 145 rfl bQ (eP _) 4 Tryz.underlying145 t F rfl l.out (.iface a (.pointer (some ⟨f,0,none⟩))) (.bool true) rfl rfl i.out ?_;intro U H I)|fail)
 have V:Hid (ca U t (bt F (.iface a (.pointer (some ⟨f,0,none⟩))) (.bool true))):=⟨H _ (fun y hy=>a_ F hy) (bJ _ _ _),fun x v z=>by
  by_cases e:x=(.iface a (.pointer (some ⟨f,0,none⟩)))
  ·rw[e,bJ]at z;cases z;rfl
  ·rw[a_ F e]at z;exact o.out _ _ z⟩
 have P8:Hid (∀y v,bt F (.iface a (.pointer (some ⟨f,0,none⟩))) (.bool true) y=some v→(P y∨y=(.iface a (.pointer (some ⟨f,0,none⟩))))∨G y):=fun y v h=>by
  by_cases e:y=(.iface a (.pointer (some ⟨f,0,none⟩)))
  ·exact .inl (.inr e)
  ·rw[a_ F e]at h;exact(u.out y v h).imp .inl id
 have J:Hid (Kept (fun k=>some t=some k) w U):=(Kept.refl _ _).grown I fun k hk _=>hk;have L:Hid (aq p g U):=C.out.kept J.out (fun b e=>by cases e;exact S.out) (fun e=>by
  cases e;have h:=C.out.cap 65 (by decide) (by decide);exact iG ⟨l.out,o.out⟩ h)
 clear H I i l j u o;have c0:=L.out.kw _ _ _ hc;go_wp2_with fail
 refine(s.out _ L.out.kw).mono ?_;rintro e w' ⟨rfl,rfl⟩;go_wp2_with fail
 go_ret;exact⟨⟨none,rfl,O⟩,J.out,fun b e=>(by cases e;exact⟨_,V.out,j8 R.out fun y v h=> .inl h⟩)⟩
theorem Bk(p:Pm)(g:Ge)(d:Bool)(G P:Value→Prop)(c:Bool)(a f F:Nat)(w:World)(r:aq p g w)(H:bP a)(o:∀w,aq p g w→Plain w f)(M:c=true→G (.iface a (.pointer (some ⟨f,0,none⟩))))(k:Int)(Q:p F 0=some (.int .i64 k))(N:(k==25)=false)(I:c=true)(O:∀W:World,KW p W→b_ W a f (.iface 91 (.pointer (some ⟨F,0,none⟩)))):
 Calls Tryz.prog 51 #[(.iface a (.pointer (some ⟨f,0,none⟩))),.bool d,.map none] w (gJ G c (fun _=>none) none w):=by
 have s:=ba br F;have R:= @run_makeMap Tryz.prog;have n:=Lib.hid (dr H (o w r));have S:=Lib.hid M;have i:=Lib.hid (dr H (w:=w.alloc (.map #[] 0)) ((o w r).below ((Below.refl _ _).alloc (Nat.le_refl _) _)));have J:=Lib.hid r;obtain⟨K,fn,T,t,j,u,hm,U,l⟩:=dS O r.kw;have V:=fun args w=>Go.MuLone.run_callFunc_enter t j u args w;have m:=Lib.hid l;clear t j u l;have z:=Lib.hid (iB (eD Tryz.prog) w);have X:=jt;clear r O H o M;go_enter Tryz.func51,Tryz.ntmps51;go_wp2_with (first|(at_lookup;refine iC _ rfl _ _ 145 rfl bQ 4 Tryz.underlying145 (.bool false) dt rfl (.iface a (.pointer (some ⟨f,0,none⟩))) rfl n.out ?_)|(at_mapUpdate;refine dR _ rfl _ _ _ 145 rfl bQ (eP _) 4 Tryz.underlying145 w.heap.size (fun _=>none) rfl z.out (.iface a (.pointer (some ⟨f,0,none⟩))) (.bool true) rfl rfl i.out ?_;intro D A B)|fail)
 have Y:Hid (ca D w.heap.size (bt (fun _=>none) (.iface a (.pointer (some ⟨f,0,none⟩))) (.bool true))):=⟨A _ (fun y Z=>a_ _ Z) (bJ _ _ _),fun x v E=>by
  by_cases e:x=(.iface a (.pointer (some ⟨f,0,none⟩)))
  ·rw[e,bJ]at E;cases E;rfl
  ·rw[a_ _ e]at E;cases E⟩
 have P3:Hid (∀y v,bt (fun _=>none) (.iface a (.pointer (some ⟨f,0,none⟩))) (.bool true) y=some v→(P y∨y=(.iface a (.pointer (some ⟨f,0,none⟩))))∨G y):=fun y v h=>by
  by_cases e:y=(.iface a (.pointer (some ⟨f,0,none⟩)))
  ·exact .inl (.inr e)
  ·rw[a_ _ e]at h;cases h
 have q:Below w.heap.size w D:=((Below.refl _ _).alloc (Nat.le_refl _) _).grown B (by simp) fun k hk=>by cases hk;exact Nat.le_refl _
 have L:Hid (Kept (fun k=>(none:Option Nat)=some k) w D):=Kept.of q;have C:Hid (aq p g D):=J.out.below q;clear A B n i z q;have c0:=C.out.kw _ _ _ Q;go_wp2_with fail
 refine(m.out _ C.out.kw).mono ?_;rintro e w' ⟨rfl,rfl⟩;go_wp2_with fail
 go_ret;exact⟨⟨none,rfl,I⟩,L.out,fun b e=>(by cases e)⟩
theorem Bl(p:Pm)(g:Ge)(d:Bool)(G P:Value→Prop)(c:Bool)(a f M:Nat)(Z:bP a)(B:∀w,aq p g w→Plain w f)(n:P (.iface a (.pointer (some ⟨f,0,none⟩)))∨G (.iface a (.pointer (some ⟨f,0,none⟩)))→c=true)(hG:c=true→G (.iface a (.pointer (some ⟨f,0,none⟩))))(Q:c=true)(hU:∀W:World,KW p W→b_ W a f (.iface 134 (.pointer (some ⟨M,0,none⟩)))):
 fw p g d G P c (.iface a (.pointer (some ⟨f,0,none⟩))):=by
 have C:=ai br 134 M (by decide);have u:=ba cA M;have N:=ai dN 134 M (by decide);have P3:= @run_makeMap Tryz.prog;intro t w F O hS hP;obtain⟨hM,R⟩:=hS;have l:=Lib.hid hM;have o:=Lib.hid R;have z:=Lib.hid hP;have S:=Lib.hid hG;have i:=Lib.hid (dr Z (B w O));have D:=Lib.hid O;obtain⟨K,fn,P4,E,q,H,hm,P5,r⟩:=dS hU O.kw;have P6:=fun args w=>Go.MuLone.run_callFunc_enter E q H args w;have s:=Lib.hid r;clear E q H r;have T:Hid (¬Plain w t):=ca.iF ⟨hM,R⟩;have P7:∀W,(binOp .eql 145 (.map (some t)) (.map none)).run Tryz.prog W= .ok (.bool false) W:=fun W=>js t W;clear hM R O hU Z B hP hG;cases m:F (.iface a (.pointer (some ⟨f,0,none⟩)))with
 |some v=>
  have A:=o.out _ _ m;have U:Hid (c=true):=n (z.out _ _ m);have j:Hid ((F (.iface a (.pointer (some ⟨f,0,none⟩)))).getD (.bool false)= .bool true):=by rw[m,A];rfl
  clear m A n;go_enter Tryz.func51,Tryz.ntmps51;go_wp2_with (first|(at_lookup;refine dQ _ rfl _ _ 145 rfl bQ 4 Tryz.underlying145 (.bool false) dt t F rfl l.out (.iface a (.pointer (some ⟨f,0,none⟩))) rfl i.out (.bool true) j.out ?_)|fail)
  go_ret;exact⟨⟨none,rfl,U.out⟩,Kept.refl _ _,fun b e=>by cases e;exact⟨F,⟨l.out,o.out⟩,fun _ y v h=> .inl h⟩⟩
 |none=>
 have j:Hid ((F (.iface a (.pointer (some ⟨f,0,none⟩)))).getD (.bool false)= .bool false):=by rw[m];rfl
 clear m n;go_enter Tryz.func51,Tryz.ntmps51;go_wp2_with (first|(at_lookup;refine dQ _ rfl _ _ 145 rfl bQ 4 Tryz.underlying145 (.bool false) dt t F rfl l.out (.iface a (.pointer (some ⟨f,0,none⟩))) rfl i.out (.bool false) j.out ?_)|(at_mapUpdate;refine dR _ rfl _ _ _ 145 rfl bQ (eP _) 4 Tryz.underlying145 t F rfl l.out (.iface a (.pointer (some ⟨f,0,none⟩))) (.bool true) rfl rfl i.out ?_;intro V I J)|fail)
 have X:Hid (ca V t (bt F (.iface a (.pointer (some ⟨f,0,none⟩))) (.bool true))):=⟨I _ (fun y hy=>a_ F hy) (bJ _ _ _),fun x v A=>by
  by_cases e:x=(.iface a (.pointer (some ⟨f,0,none⟩)))
  ·rw[e,bJ]at A;cases A;rfl
  ·rw[a_ F e]at A;exact o.out _ _ A⟩
 have P8:Hid (∀y v,bt F (.iface a (.pointer (some ⟨f,0,none⟩))) (.bool true) y=some v→(P y∨y=(.iface a (.pointer (some ⟨f,0,none⟩))))∨G y):=fun y v h=>by
  by_cases e:y=(.iface a (.pointer (some ⟨f,0,none⟩)))
  ·exact .inl (.inr e)
  ·rw[a_ F e]at h;exact(z.out y v h).imp .inl id
 have L:Hid (Kept (fun k=>some t=some k) w V):=(Kept.refl _ _).grown J fun k hk _=>hk;have Y:Hid (aq p g V):=D.out.kept L.out (fun b e=>by cases e;exact T.out) (fun e=>by
  cases e;have h:=D.out.cap 65 (by decide) (by decide);exact iG ⟨l.out,o.out⟩ h)
 clear I J i l j z o;go_wp2_with fail
 refine(s.out _ Y.out.kw).mono ?_;rintro e w' ⟨rfl,rfl⟩;go_wp2_with fail
 go_ret;exact⟨⟨none,rfl,Q⟩,L.out,fun b e=>(by cases e;exact⟨_,X.out,j8 S.out fun y v h=> .inl h⟩)⟩
theorem Bm(p:Pm)(g:Ge)(d:Bool)(G P:Value→Prop)(c:Bool)(a f D:Nat)(w:World)(s:aq p g w)(I:bP a)(o:∀w,aq p g w→Plain w f)(O:c=true→G (.iface a (.pointer (some ⟨f,0,none⟩))))(J:c=true)(Q:∀W:World,KW p W→b_ W a f (.iface 134 (.pointer (some ⟨D,0,none⟩)))):
 Calls Tryz.prog 51 #[(.iface a (.pointer (some ⟨f,0,none⟩))),.bool d,.map none] w (gJ G c (fun _=>none) none w):=by
 have t:=ai br 134 D (by decide);have q:=ba cA D;have E:=ai dN 134 D (by decide);have R:= @run_makeMap Tryz.prog;have n:=Lib.hid (dr I (o w s));have S:=Lib.hid O;have i:=Lib.hid (dr I (w:=w.alloc (.map #[] 0)) ((o w s).below ((Below.refl _ _).alloc (Nat.le_refl _) _)));have L:=Lib.hid s;obtain⟨K,fn,T,u,j,z,hm,U,l⟩:=dS Q s.kw;have V:=fun args w=>Go.MuLone.run_callFunc_enter u j z args w;have m:=Lib.hid l;clear u j z l;have A:=Lib.hid (iB (eD Tryz.prog) w);have X:=jt;clear s Q I o O;go_enter Tryz.func51,Tryz.ntmps51;go_wp2_with (first|(at_lookup;refine iC _ rfl _ _ 145 rfl bQ 4 Tryz.underlying145 (.bool false) dt rfl (.iface a (.pointer (some ⟨f,0,none⟩))) rfl n.out ?_)|(at_mapUpdate;refine dR _ rfl _ _ _ 145 rfl bQ (eP _) 4 Tryz.underlying145 w.heap.size (fun _=>none) rfl A.out (.iface a (.pointer (some ⟨f,0,none⟩))) (.bool true) rfl rfl i.out ?_;intro F B C)|fail)
 have Y:Hid (ca F w.heap.size (bt (fun _=>none) (.iface a (.pointer (some ⟨f,0,none⟩))) (.bool true))):=⟨B _ (fun y Z=>a_ _ Z) (bJ _ _ _),fun x v H=>by
  by_cases e:x=(.iface a (.pointer (some ⟨f,0,none⟩)))
  ·rw[e,bJ]at H;cases H;rfl
  ·rw[a_ _ e]at H;cases H⟩
 have P3:Hid (∀y v,bt (fun _=>none) (.iface a (.pointer (some ⟨f,0,none⟩))) (.bool true) y=some v→(P y∨y=(.iface a (.pointer (some ⟨f,0,none⟩))))∨G y):=fun y v h=>by
  by_cases e:y=(.iface a (.pointer (some ⟨f,0,none⟩)))
  ·exact .inl (.inr e)
  ·rw[a_ _ e]at h;cases h
 have r:Below w.heap.size w F:=((Below.refl _ _).alloc (Nat.le_refl _) _).grown C (by simp) fun k hk=>by cases hk;exact Nat.le_refl _
 have M:Hid (Kept (fun k=>(none:Option Nat)=some k) w F):=Kept.of r;have N:Hid (aq p g F):=L.out.below r;clear B C n i A r;go_wp2_with fail
 refine(m.out _ N.out.kw).mono ?_;rintro e w' ⟨rfl,rfl⟩;go_wp2_with fail
 go_ret;exact⟨⟨none,rfl,J⟩,M.out,fun b e=>(by cases e)⟩
theorem Bn(p:Pm)(g:Ge)(d:Bool)(G P:Value→Prop)(c:Bool)(a f M:Nat)(Z:bP a)(B:∀w,aq p g w→Plain w f)(n:P (.iface a (.pointer (some ⟨f,0,none⟩)))∨G (.iface a (.pointer (some ⟨f,0,none⟩)))→c=true)(hG:c=true→G (.iface a (.pointer (some ⟨f,0,none⟩))))(Q:c=true)(hU:∀W:World,KW p W→b_ W a f (.iface 138 (.pointer (some ⟨M,0,none⟩)))):
 fw p g d G P c (.iface a (.pointer (some ⟨f,0,none⟩))):=by
 have C:=ai br 138 M (by decide);have u:=ai cA 138 M (by decide);have N:=ba dN M;have P3:= @run_makeMap Tryz.prog;intro t w F O hS hP;obtain⟨hM,R⟩:=hS;have l:=Lib.hid hM;have o:=Lib.hid R;have z:=Lib.hid hP;have S:=Lib.hid hG;have i:=Lib.hid (dr Z (B w O));have D:=Lib.hid O;obtain⟨K,fn,P4,E,q,H,hm,P5,r⟩:=dS hU O.kw;have P6:=fun args w=>Go.MuLone.run_callFunc_enter E q H args w;have s:=Lib.hid r;clear E q H r;have T:Hid (¬Plain w t):=ca.iF ⟨hM,R⟩;have P7:∀W,(binOp .eql 145 (.map (some t)) (.map none)).run Tryz.prog W= .ok (.bool false) W:=fun W=>js t W;clear hM R O hU Z B hP hG;cases m:F (.iface a (.pointer (some ⟨f,0,none⟩)))with
 |some v=>
  have A:=o.out _ _ m;have U:Hid (c=true):=n (z.out _ _ m);have j:Hid ((F (.iface a (.pointer (some ⟨f,0,none⟩)))).getD (.bool false)= .bool true):=by rw[m,A];rfl
  clear m A n;go_enter Tryz.func51,Tryz.ntmps51;go_wp2_with (first|(at_lookup;refine dQ _ rfl _ _ 145 rfl bQ 4 Tryz.underlying145 (.bool false) dt t F rfl l.out (.iface a (.pointer (some ⟨f,0,none⟩))) rfl i.out (.bool true) j.out ?_)|fail)
  go_ret;exact⟨⟨none,rfl,U.out⟩,Kept.refl _ _,fun b e=>by cases e;exact⟨F,⟨l.out,o.out⟩,fun _ y v h=> .inl h⟩⟩
 |none=>
 have j:Hid ((F (.iface a (.pointer (some ⟨f,0,none⟩)))).getD (.bool false)= .bool false):=by rw[m];rfl
 clear m n;go_enter Tryz.func51,Tryz.ntmps51;go_wp2_with (first|(at_lookup;refine dQ _ rfl _ _ 145 rfl bQ 4 Tryz.underlying145 (.bool false) dt t F rfl l.out (.iface a (.pointer (some ⟨f,0,none⟩))) rfl i.out (.bool false) j.out ?_)|(at_mapUpdate;refine dR _ rfl _ _ _ 145 rfl bQ (eP _) 4 Tryz.underlying145 t F rfl l.out (.iface a (.pointer (some ⟨f,0,none⟩))) (.bool true) rfl rfl i.out ?_;intro V I J)|fail)
 have X:Hid (ca V t (bt F (.iface a (.pointer (some ⟨f,0,none⟩))) (.bool true))):=⟨I _ (fun y hy=>a_ F hy) (bJ _ _ _),fun x v A=>by
  by_cases e:x=(.iface a (.pointer (some ⟨f,0,none⟩)))
  ·rw[e,bJ]at A;cases A;rfl
  ·rw[a_ F e]at A;exact o.out _ _ A⟩
 have P8:Hid (∀y v,bt F (.iface a (.pointer (some ⟨f,0,none⟩))) (.bool true) y=some v→(P y∨y=(.iface a (.pointer (some ⟨f,0,none⟩))))∨G y):=fun y v h=>by
  by_cases e:y=(.iface a (.pointer (some ⟨f,0,none⟩)))
  ·exact .inl (.inr e)
  ·rw[a_ F e]at h;exact(z.out y v h).imp .inl id
 have L:Hid (Kept (fun k=>some t=some k) w V):=(Kept.refl _ _).grown J fun k hk _=>hk;have Y:Hid (aq p g V):=D.out.kept L.out (fun b e=>by cases e;exact T.out) (fun e=>by
  cases e;have h:=D.out.cap 65 (by decide) (by decide);exact iG ⟨l.out,o.out⟩ h)
 clear I J i l j z o;go_wp2_with fail
 refine(s.out _ Y.out.kw).mono ?_;rintro e w' ⟨rfl,rfl⟩;go_wp2_with fail
 go_ret;exact⟨⟨none,rfl,Q⟩,L.out,fun b e=>(by cases e;exact⟨_,X.out,j8 S.out fun y v h=> .inl h⟩)⟩
theorem Bo(p:Pm)(g:Ge)(d:Bool)(G P:Value→Prop)(c:Bool)(a f D:Nat)(w:World)(s:aq p g w)(I:bP a)(o:∀w,aq p g w→Plain w f)(O:c=true→G (.iface a (.pointer (some ⟨f,0,none⟩))))(J:c=true)(Q:∀W:World,KW p W→b_ W a f (.iface 138 (.pointer (some ⟨D,0,none⟩)))):
 Calls Tryz.prog 51 #[(.iface a (.pointer (some ⟨f,0,none⟩))),.bool d,.map none] w (gJ G c (fun _=>none) none w):=by
 have t:=ai br 138 D (by decide);have q:=ai cA 138 D (by decide);have E:=ba dN D;have R:= @run_makeMap Tryz.prog;have n:=Lib.hid (dr I (o w s));have S:=Lib.hid O;have i:=Lib.hid (dr I (w:=w.alloc (.map #[] 0)) ((o w s).below ((Below.refl _ _).alloc (Nat.le_refl _) _)));have L:=Lib.hid s;obtain⟨K,fn,T,u,j,z,hm,U,l⟩:=dS Q s.kw;have V:=fun args w=>Go.MuLone.run_callFunc_enter u j z args w;have m:=Lib.hid l;clear u j z l;have A:=Lib.hid (iB (eD Tryz.prog) w);have X:=jt;clear s Q I o O;go_enter Tryz.func51,Tryz.ntmps51;go_wp2_with (first|(at_lookup;refine iC _ rfl _ _ 145 rfl bQ 4 Tryz.underlying145 (.bool false) dt rfl (.iface a (.pointer (some ⟨f,0,none⟩))) rfl n.out ?_)|(at_mapUpdate;refine dR _ rfl _ _ _ 145 rfl bQ (eP _) 4 Tryz.underlying145 w.heap.size (fun _=>none) rfl A.out (.iface a (.pointer (some ⟨f,0,none⟩))) (.bool true) rfl rfl i.out ?_;intro F B C)|fail)
 have Y:Hid (ca F w.heap.size (bt (fun _=>none) (.iface a (.pointer (some ⟨f,0,none⟩))) (.bool true))):=⟨B _ (fun y Z=>a_ _ Z) (bJ _ _ _),fun x v H=>by
  by_cases e:x=(.iface a (.pointer (some ⟨f,0,none⟩)))
  ·rw[e,bJ]at H;cases H;rfl
  ·rw[a_ _ e]at H;cases H⟩
 have P3:Hid (∀y v,bt (fun _=>none) (.iface a (.pointer (some ⟨f,0,none⟩))) (.bool true) y=some v→(P y∨y=(.iface a (.pointer (some ⟨f,0,none⟩))))∨G y):=fun y v h=>by
  by_cases e:y=(.iface a (.pointer (some ⟨f,0,none⟩)))
  ·exact .inl (.inr e)
  ·rw[a_ _ e]at h;cases h
 have r:Below w.heap.size w F:=((Below.refl _ _).alloc (Nat.le_refl _) _).grown C (by simp) fun k hk=>by cases hk;exact Nat.le_refl _
 have M:Hid (Kept (fun k=>(none:Option Nat)=some k) w F):=Kept.of r;have N:Hid (aq p g F):=L.out.below r;clear B C n i A r;go_wp2_with fail
 refine(m.out _ N.out.kw).mono ?_;rintro e w' ⟨rfl,rfl⟩;go_wp2_with fail
 go_ret;exact⟨⟨none,rfl,J⟩,M.out,fun b e=>(by cases e)⟩
theorem Bp(p:Pm)(g:Ge)(d:Bool)(G P:Value→Prop)(c:Bool)(l m X:Nat)(hK:bP l)(Z:∀w,aq p g w→Plain w m)(A:P (.iface l (.pointer (some ⟨m,0,none⟩)))∨G (.iface l (.pointer (some ⟨m,0,none⟩)))→c=true)(hG:c=true→G (.iface l (.pointer (some ⟨m,0,none⟩))))(n cc:Nat)(a:Option Addr)(f ft fb:Nat→Nat)(ci:Nat→Bool)(hn:n≤1099511627776)(hc:p X 0=some (.slice a n cc))(hr:bN p a n fun i=>ptr (f i))(hf:∀i,i<n→p (f i) 3=some (.iface (ft i) (.pointer (some ⟨fb i,0,none⟩))))(hI:∀i,i<n→fw p g d G (fun y=>P y∨y=(.iface l (.pointer (some ⟨m,0,none⟩)))) (ci i) (.iface (ft i) (.pointer (some ⟨fb i,0,none⟩))))(P3:(∀i,i<n→ci i=true)→c=true)(P4:∀i,i<n→ci i=false→c=false)(hU:∀W:World,KW p W→b_ W l m (.iface 150 (.pointer (some ⟨X,0,none⟩)))):
 fw p g d G P c (.iface l (.pointer (some ⟨m,0,none⟩))):=by
 have P5:=ai br 150 X (by decide);have R:=ai cA 150 X (by decide);have Qs:=ai dN 150 X (by decide);have Y:=ba cK X;have QD:= @run_makeMap Tryz.prog;intro t w F hE hS hP;obtain⟨hM,hb⟩:=hS;have u:=Lib.hid hM;have B:=Lib.hid hb;have S:=Lib.hid hP;have Qt:=Lib.hid hG;have q:=Lib.hid (dr hK (Z w hE));have P6:=Lib.hid hE;obtain⟨K,fn,QE,P7,C,P8,hm,QF,D⟩:=dS hU hE.kw;have QG:=fun args w=>Go.MuLone.run_callFunc_enter P7 C P8 args w;have L:=Lib.hid D;clear P7 C P8 D;have Qu:Hid (¬Plain w t):=ca.iF ⟨hM,hb⟩;have QH:∀W,(binOp .eql 145 (.map (some t)) (.map none)).run Tryz.prog W= .ok (.bool false) W:=fun W=>js t W;clear hM hb hE hU hK Z hP hG;cases z:F (.iface l (.pointer (some ⟨m,0,none⟩)))with
 |some v=>
  have T:=B.out _ _ z;have Qv:Hid (c=true):=A (S.out _ _ z);have r:Hid ((F (.iface l (.pointer (some ⟨m,0,none⟩)))).getD (.bool false)= .bool true):=by rw[z,T];rfl
  clear z T A;go_enter Tryz.func51,Tryz.ntmps51;go_wp2_with (first|(at_lookup;refine dQ _ rfl _ _ 145 rfl bQ 4 Tryz.underlying145 (.bool false) dt t F rfl u.out (.iface l (.pointer (some ⟨m,0,none⟩))) rfl q.out (.bool true) r.out ?_)|fail)
  go_ret;exact⟨⟨none,rfl,Qv.out⟩,Kept.refl _ _,fun b e=>by cases e;exact⟨F,⟨u.out,B.out⟩,fun _ y v h=> .inl h⟩⟩
 |none=>
 have r:Hid ((F (.iface l (.pointer (some ⟨m,0,none⟩)))).getD (.bool false)= .bool false):=by rw[z];rfl
 clear z A;go_enter Tryz.func51,Tryz.ntmps51;go_wp2_with (first|(at_lookup;refine dQ _ rfl _ _ 145 rfl bQ 4 Tryz.underlying145 (.bool false) dt t F rfl u.out (.iface l (.pointer (some ⟨m,0,none⟩))) rfl q.out (.bool false) r.out ?_)|(at_mapUpdate;refine dR _ rfl _ _ _ 145 rfl bQ (eP _) 4 Tryz.underlying145 t F rfl u.out (.iface l (.pointer (some ⟨m,0,none⟩))) (.bool true) rfl rfl q.out ?_;intro w1 P9 P_)|fail)
 have Qw:Hid (ca w1 t (bt F (.iface l (.pointer (some ⟨m,0,none⟩))) (.bool true))):=⟨P9 _ (fun y hy=>a_ F hy) (bJ _ _ _),fun x v T=>by
  by_cases e:x=(.iface l (.pointer (some ⟨m,0,none⟩)))
  ·rw[e,bJ]at T;cases T;rfl
  ·rw[a_ F e]at T;exact B.out _ _ T⟩
 have Qx:Hid (∀y v,bt F (.iface l (.pointer (some ⟨m,0,none⟩))) (.bool true) y=some v→(P y∨y=(.iface l (.pointer (some ⟨m,0,none⟩))))∨G y):=fun y v h=>by
  by_cases e:y=(.iface l (.pointer (some ⟨m,0,none⟩)))
  ·exact .inl (.inr e)
  ·rw[a_ F e]at h;exact(S.out y v h).imp .inl id
 have Qa:Hid (Kept (fun k=>some t=some k) w w1):=(Kept.refl _ _).grown P_ fun k hk _=>hk;have U:Hid (aq p g w1):=P6.out.kept Qa.out (fun b e=>by cases e;exact Qu.out) (fun e=>by
  cases e;have h:=P6.out.cap 65 (by decide) (by decide);exact iG ⟨u.out,B.out⟩ h)
 clear P9 P_ q u r S B;have c0:=U.out.kw _ _ _ hc;have Qy:=Lib.hid hI;have Qz:=Lib.hid hr;have Qb:=Lib.hid hf;have Qc:=Lib.hid P3;have Qd:=Lib.hid P4;clear hI hr hf P3 P4;go_wp2_with fail
 refine(L.out _ U.out.kw).mono ?_;rintro e w' ⟨rfl,rfl⟩;go_wp2_with fail
 go_loopw [51] (fun i wr=> ∃(k:Nat)(F':Value→Option Value),k≤n∧i= .int .i64 k∧Kept (fun k=>some t=some k) w wr∧ca wr t F'∧aq p g wr∧(∀j,j<k→ci j=true)∧(∀y v,F' y=some v→(bt F (.iface l (.pointer (some ⟨m,0,none⟩))) (.bool true)) y=some v∨G y)) (fun i _=>n- (intOf i).toNat)
 case atStart=>exact⟨0,_,Nat.zero_le _,rfl,Qa.out,Qw.out,U.out,fun j hj=>absurd hj (Nat.not_lt_zero _),fun y v h=> .inl h⟩
 case round=>
  obtain⟨k,Fr,hk,rfl,Qe,Qf,Qg,Qh,Qi⟩:=hrel;have N:=Lib.hid Qe;have E:=Lib.hid Qf;have s:=Lib.hid Qg;have O:=Lib.hid Qh;have H:=Lib.hid Qi;clear Qe Qf Qg Qh Qi;by_cases I:k<n
  ·have QC:(k:Int)<n:=by omega
   obtain⟨ab,ao,rfl,Qj⟩:=Qz.out k I;have d0:=s.out.kw _ _ _ Qj;have d3:=s.out.kw _ _ _ (Qb.out k I);clear Qj;go_wp2_with fail
   refine(Qy.out k I t wr _ s.out E.out (tA Qx.out H.out)).mono ?_;rintro e w2 ⟨⟨o,rfl,Qk⟩,V,Ql⟩;have Qm:Hid (Kept (fun k=>some t=some k) w w2):=N.out.trans V fun b hb e=>e;obtain⟨F2,Qn,Qo⟩:=Ql t rfl;have Q:=Lib.hid Qn;have Qp:=Lib.hid Qo;have J:=Lib.hid Qk;have Qq:Hid (aq p g w2):=tC s.out E.out V;have d4:=Qq.out.kw _ _ _ (Qb.out k I);clear V Ql Qn Qo Qk;cases o with
   |none=>
    go_wp2_with fail
    refine⟨⟨k+1,F2,by omega,by go_num,Qm.out,Q.out,Qq.out,fun j hj=> ?_,tB H.out (Qp.out J.out)⟩,?_⟩
    ·by_cases QA:j<k
     ·exact O.out j QA
     ·obtain rfl:j=k:=by omega
      exact J.out
    ·first|omega|(simp[intOf];omega)
   |some o=>
    go_wp2_with fail
    refine(j7 _ (by kernel_rfl) _ _ _ _).mono ?_;rintro e w3 ⟨⟨o',rfl⟩,QB⟩;have Qr:Below w2.heap.size w2 w3:=((Below.refl _ _).alloc (Nat.le_refl _) _).trans (QB.mono (by simp));have M:c=false:=Qd.out k I J.out;go_wp2_with fail
    go_ret;exact⟨⟨some o',rfl,M⟩,Qm.out.below Qr,fun b e=>(by cases e;exact⟨_,mT Q.out Qr,fun h=>absurd h (by rw[M];exact Bool.false_ne_true)⟩)⟩
  ·have QI:¬(k:Int)<n:=by omega
   have M:Hid (c=true):=Qc.out fun i hi=>O.out i (by omega);go_wp2_with fail
   go_ret;exact⟨⟨none,rfl,M.out⟩,N.out,fun b e=>(by cases e;exact⟨_,E.out,j8 Qt.out H.out⟩)⟩
theorem Bq(p:Pm)(g:Ge)(d:Bool)(G P:Value→Prop)(c:Bool)(m q O:Nat)(w:World)(R:aq p g w)(hK:bP m)(H:∀w,aq p g w→Plain w q)(hG:c=true→G (.iface m (.pointer (some ⟨q,0,none⟩))))(n cc:Nat)(a:Option Addr)(f ft fb:Nat→Nat)(ci:Nat→Bool)(hn:n≤1099511627776)(hc:p O 0=some (.slice a n cc))(hr:bN p a n fun i=>ptr (f i))(hf:∀i,i<n→p (f i) 3=some (.iface (ft i) (.pointer (some ⟨fb i,0,none⟩))))(hI:∀i,i<n→fw p g d G (fun y=>P y∨y=(.iface m (.pointer (some ⟨q,0,none⟩)))) (ci i) (.iface (ft i) (.pointer (some ⟨fb i,0,none⟩))))(S:(∀i,i<n→ci i=true)→c=true)(T:∀i,i<n→ci i=false→c=false)(hU:∀W:World,KW p W→b_ W m q (.iface 150 (.pointer (some ⟨O,0,none⟩)))):
 Calls Tryz.prog 51 #[(.iface m (.pointer (some ⟨q,0,none⟩))),.bool d,.map none] w (gJ G c (fun _=>none) none w):=by
 have U:=ai br 150 O (by decide);have I:=ai cA 150 O (by decide);have Qk:=ai dN 150 O (by decide);have Q:=ba cK O;have Qv:= @run_makeMap Tryz.prog;have B:=Lib.hid (dr hK (H w R));have Qw:=Lib.hid hG;have r:=Lib.hid (dr hK (w:=w.alloc (.map #[] 0)) ((H w R).below ((Below.refl _ _).alloc (Nat.le_refl _) _)));have Ql:=Lib.hid R;obtain⟨K,fn,Qx,V,s,X,hm,Qy,t⟩:=dS hU R.kw;have Qz:=fun args w=>Go.MuLone.run_callFunc_enter V s X args w;have A:=Lib.hid t;clear V s X t;have Y:=Lib.hid (iB (eD Tryz.prog) w);have QA:=jt;clear R hU hK H hG;go_enter Tryz.func51,Tryz.ntmps51;go_wp2_with (first|(at_lookup;refine iC _ rfl _ _ 145 rfl bQ 4 Tryz.underlying145 (.bool false) dt rfl (.iface m (.pointer (some ⟨q,0,none⟩))) rfl B.out ?_)|(at_mapUpdate;refine dR _ rfl _ _ _ 145 rfl bQ (eP _) 4 Tryz.underlying145 w.heap.size (fun _=>none) rfl Y.out (.iface m (.pointer (some ⟨q,0,none⟩))) (.bool true) rfl rfl r.out ?_;intro w1 Z P3)|fail)
 have Qm:Hid (ca w1 w.heap.size (bt (fun _=>none) (.iface m (.pointer (some ⟨q,0,none⟩))) (.bool true))):=⟨Z _ (fun y hy=>a_ _ hy) (bJ _ _ _),fun x v hv=>by
  by_cases e:x=(.iface m (.pointer (some ⟨q,0,none⟩)))
  ·rw[e,bJ]at hv;cases hv;rfl
  ·rw[a_ _ e]at hv;cases hv⟩
 have Qn:Hid (∀y v,bt (fun _=>none) (.iface m (.pointer (some ⟨q,0,none⟩))) (.bool true) y=some v→(P y∨y=(.iface m (.pointer (some ⟨q,0,none⟩))))∨G y):=fun y v h=>by
  by_cases e:y=(.iface m (.pointer (some ⟨q,0,none⟩)))
  ·exact .inl (.inr e)
  ·rw[a_ _ e]at h;cases h
 have J:Below w.heap.size w w1:=((Below.refl _ _).alloc (Nat.le_refl _) _).grown P3 (by simp) fun k hk=>by cases hk;exact Nat.le_refl _
 have Qo:Hid (Kept (fun k=>(none:Option Nat)=some k) w w1):=Kept.of J;have L:Hid (aq p g w1):=Ql.out.below J;clear Z P3 B r Y J;have c0:=L.out.kw _ _ _ hc;have Qp:=Lib.hid hI;have Qq:=Lib.hid hr;have P4:=Lib.hid hf;have P5:=Lib.hid S;have P6:=Lib.hid T;clear hI hr hf S T;go_wp2_with fail
 refine(A.out _ L.out.kw).mono ?_;rintro e w' ⟨rfl,rfl⟩;go_wp2_with fail
 go_loopw [51] (fun i wr=> ∃(k:Nat)(F':Value→Option Value),k≤n∧i= .int .i64 k∧Kept (fun k=>(none:Option Nat)=some k) w wr∧ca wr w.heap.size F'∧aq p g wr∧(∀j,j<k→ci j=true)∧(∀y v,F' y=some v→(bt (fun _=>none) (.iface m (.pointer (some ⟨q,0,none⟩))) (.bool true)) y=some v∨G y)) (fun i _=>n- (intOf i).toNat)
 case atStart=>exact⟨0,_,Nat.zero_le _,rfl,Qo.out,Qm.out,L.out,fun j hj=>absurd hj (Nat.not_lt_zero _),fun y v h=> .inl h⟩
 case round=>
  obtain⟨k,Fr,hk,rfl,P7,P8,P9,P_,Qa⟩:=hrel;have C:=Lib.hid P7;have D:=Lib.hid P8;have l:=Lib.hid P9;have E:=Lib.hid P_;have F:=Lib.hid Qa;clear P7 P8 P9 P_ Qa;by_cases u:k<n
  ·have Qu:(k:Int)<n:=by omega
   obtain⟨ab,ao,rfl,Qb⟩:=Qq.out k u;have d0:=l.out.kw _ _ _ Qb;have d3:=l.out.kw _ _ _ (P4.out k u);clear Qb;go_wp2_with fail
   refine(Qp.out k u w.heap.size wr _ l.out D.out (tA Qn.out F.out)).mono ?_;rintro e w2 ⟨⟨o,rfl,Qc⟩,M,Qd⟩;have Qe:Hid (Kept (fun k=>(none:Option Nat)=some k) w w2):=C.out.trans M fun b hb e=>(by have e:=Option.some.inj e;omega)
   obtain⟨F2,Qf,Qg⟩:=Qd w.heap.size rfl;have Qh:=Lib.hid Qf;have Qi:=Lib.hid Qg;have z:=Lib.hid Qc;have Qj:Hid (aq p g w2):=tC l.out D.out M;have d4:=Qj.out.kw _ _ _ (P4.out k u);clear M Qd Qf Qg Qc;cases o with
   |none=>
    go_wp2_with fail
    refine⟨⟨k+1,F2,by omega,by go_num,Qe.out,Qh.out,Qj.out,fun j hj=> ?_,tB F.out (Qi.out z.out)⟩,?_⟩
    ·by_cases Qr:j<k
     ·exact E.out j Qr
     ·obtain rfl:j=k:=by omega
      exact z.out
    ·first|omega|(simp[intOf];omega)
   |some o=>
    go_wp2_with fail
    refine(j7 _ (by kernel_rfl) _ _ _ _).mono ?_;rintro e w3 ⟨⟨o',rfl⟩,Qs⟩;have Qt:Below w2.heap.size w2 w3:=((Below.refl _ _).alloc (Nat.le_refl _) _).trans (Qs.mono (by simp));have N:c=false:=P6.out k u z.out;go_wp2_with fail
    go_ret;exact⟨⟨some o',rfl,N⟩,Qe.out.below Qt,fun b e=>(by cases e)⟩
  ·have QB:¬(k:Int)<n:=by omega
   have N:Hid (c=true):=P5.out fun i hi=>E.out i (by omega);go_wp2_with fail
   go_ret;exact⟨⟨none,rfl,N.out⟩,C.out,fun b e=>(by cases e)⟩
theorem Br(p:Pm)(g:Ge)(d:Bool)(G P:Value→Prop)(c:Bool)(a f B:Nat)(hK:bP a)(J:∀w,aq p g w→Plain w f)(q:P (.iface a (.pointer (some ⟨f,0,none⟩)))∨G (.iface a (.pointer (some ⟨f,0,none⟩)))→c=true)(hG:c=true→G (.iface a (.pointer (some ⟨f,0,none⟩))))(et eb:Nat)(hc:p B 1=some (.iface et (.pointer (some ⟨eb,0,none⟩))))(hI:fw p g d G (fun y=>P y∨y=(.iface a (.pointer (some ⟨f,0,none⟩)))) c (.iface et (.pointer (some ⟨eb,0,none⟩))))(hU:∀W:World,KW p W→b_ W a f (.iface 130 (.pointer (some ⟨B,0,none⟩)))):
 fw p g d G P c (.iface a (.pointer (some ⟨f,0,none⟩))):=by
 have L:=ai br 130 B (by decide);have C:=ai cA 130 B (by decide);have P6:=ai dN 130 B (by decide);have I:=ai cK 130 B (by decide);have M:=ba cz B;have Qd:= @run_makeMap Tryz.prog;intro r w F hE hS hP;obtain⟨hM,hb⟩:=hS;have m:=Lib.hid hM;have s:=Lib.hid hb;have D:=Lib.hid hP;have P7:=Lib.hid hG;have i:=Lib.hid (dr hK (J w hE));have N:=Lib.hid hE;obtain⟨K,fn,Qe,O,t,Q,hm,Qf,u⟩:=dS hU hE.kw;have Qg:=fun args w=>Go.MuLone.run_callFunc_enter O t Q args w;have z:=Lib.hid u;clear O t Q u;have P8:Hid (¬Plain w r):=ca.iF ⟨hM,hb⟩;have Qh:∀W,(binOp .eql 145 (.map (some r)) (.map none)).run Tryz.prog W= .ok (.bool false) W:=fun W=>js r W;clear hM hb hE hU hK J hP hG;cases n:F (.iface a (.pointer (some ⟨f,0,none⟩)))with
 |some v=>
  have E:=s.out _ _ n;have P9:Hid (c=true):=q (D.out _ _ n);have j:Hid ((F (.iface a (.pointer (some ⟨f,0,none⟩)))).getD (.bool false)= .bool true):=by rw[n,E];rfl
  clear n E q;go_enter Tryz.func51,Tryz.ntmps51;go_wp2_with (first|(at_lookup;refine dQ _ rfl _ _ 145 rfl bQ 4 Tryz.underlying145 (.bool false) dt r F rfl m.out (.iface a (.pointer (some ⟨f,0,none⟩))) rfl i.out (.bool true) j.out ?_)|fail)
  go_ret;exact⟨⟨none,rfl,P9.out⟩,Kept.refl _ _,fun b e=>by cases e;exact⟨F,⟨m.out,s.out⟩,fun _ y v h=> .inl h⟩⟩
 |none=>
 have j:Hid ((F (.iface a (.pointer (some ⟨f,0,none⟩)))).getD (.bool false)= .bool false):=by rw[n];rfl
 clear n q;go_enter Tryz.func51,Tryz.ntmps51;go_wp2_with (first|(at_lookup;refine dQ _ rfl _ _ 145 rfl bQ 4 Tryz.underlying145 (.bool false) dt r F rfl m.out (.iface a (.pointer (some ⟨f,0,none⟩))) rfl i.out (.bool false) j.out ?_)|(at_mapUpdate;refine dR _ rfl _ _ _ 145 rfl bQ (eP _) 4 Tryz.underlying145 r F rfl m.out (.iface a (.pointer (some ⟨f,0,none⟩))) (.bool true) rfl rfl i.out ?_;intro w1 R S)|fail)
 have P_:Hid (ca w1 r (bt F (.iface a (.pointer (some ⟨f,0,none⟩))) (.bool true))):=⟨R _ (fun y hy=>a_ F hy) (bJ _ _ _),fun x v E=>by
  by_cases e:x=(.iface a (.pointer (some ⟨f,0,none⟩)))
  ·rw[e,bJ]at E;cases E;rfl
  ·rw[a_ F e]at E;exact s.out _ _ E⟩
 have Qa:Hid (∀y v,bt F (.iface a (.pointer (some ⟨f,0,none⟩))) (.bool true) y=some v→(P y∨y=(.iface a (.pointer (some ⟨f,0,none⟩))))∨G y):=fun y v h=>by
  by_cases e:y=(.iface a (.pointer (some ⟨f,0,none⟩)))
  ·exact .inl (.inr e)
  ·rw[a_ F e]at h;exact(D.out y v h).imp .inl id
 have T:Hid (Kept (fun k=>some r=some k) w w1):=(Kept.refl _ _).grown S fun k hk _=>hk;have H:Hid (aq p g w1):=N.out.kept T.out (fun b e=>by cases e;exact P8.out) (fun e=>by
  cases e;have h:=N.out.cap 65 (by decide) (by decide);exact iG ⟨m.out,s.out⟩ h)
 clear R S i m j D s;have c0:=H.out.kw _ _ _ hc;have Qb:=Lib.hid hI;clear hI;go_wp2_with fail
 refine(z.out _ H.out.kw).mono ?_;rintro e w' ⟨rfl,rfl⟩;go_wp2_with fail
 refine(Qb.out r w1 _ H.out P_.out Qa.out).mono ?_;rintro e w2 ⟨⟨o,rfl,U⟩,V,X⟩;have Y:Hid (Kept (fun k=>some r=some k) w w2):=T.out.trans V fun b hb e=>e;obtain⟨F2,Z,P3⟩:=X r rfl;have A:=Lib.hid Z;have P4:=Lib.hid P3;have l:=Lib.hid U;clear V X Z P3 U;cases o with
 |none=>
  go_wp2_with fail
  go_ret;exact⟨⟨none,rfl,l.out⟩,Y.out,fun b e=>(by cases e;exact⟨_,A.out,j8 P7.out (P4.out l.out)⟩)⟩
 |some o=>
  go_wp2_with fail
  refine(j7 _ (by kernel_rfl) _ _ _ _).mono ?_;rintro e w3 ⟨⟨o',rfl⟩,Qc⟩;have P5:Below w2.heap.size w2 w3:=((Below.refl _ _).alloc (Nat.le_refl _) _).trans (Qc.mono (by simp));go_wp2_with fail
  go_ret;exact⟨⟨some o',rfl,l.out⟩,Y.out.below P5,fun b e=>(by cases e;exact⟨_,mT A.out P5,fun h=>absurd h (by rw[l.out];exact Bool.false_ne_true)⟩)⟩
theorem Bs(p:Pm)(g:Ge)(d:Bool)(G P:Value→Prop)(c:Bool)(a f r:Nat)(w:World)(B:aq p g w)(V:bP a)(s:∀w,aq p g w→Plain w f)(hG:c=true→G (.iface a (.pointer (some ⟨f,0,none⟩))))(et eb:Nat)(hc:p r 1=some (.iface et (.pointer (some ⟨eb,0,none⟩))))(hI:fw p g d G (fun y=>P y∨y=(.iface a (.pointer (some ⟨f,0,none⟩)))) c (.iface et (.pointer (some ⟨eb,0,none⟩))))(hU:∀W:World,KW p W→b_ W a f (.iface 130 (.pointer (some ⟨r,0,none⟩)))):
 Calls Tryz.prog 51 #[(.iface a (.pointer (some ⟨f,0,none⟩))),.bool d,.map none] w (gJ G c (fun _=>none) none w):=by
 have C:=ai br 130 r (by decide);have t:=ai cA 130 r (by decide);have T:=ai dN 130 r (by decide);have A:=ai cK 130 r (by decide);have D:=ba cz r;have P9:= @run_makeMap Tryz.prog;have n:=Lib.hid (dr V (s w B));have P_:=Lib.hid hG;have i:=Lib.hid (dr V (w:=w.alloc (.map #[] 0)) ((s w B).below ((Below.refl _ _).alloc (Nat.le_refl _) _)));have X:=Lib.hid B;obtain⟨K,fn,Qa,E,j,F,hm,Qb,l⟩:=dS hU B.kw;have Qc:=fun args w=>Go.MuLone.run_callFunc_enter E j F args w;have m:=Lib.hid l;clear E j F l;have H:=Lib.hid (iB (eD Tryz.prog) w);have Qd:=jt;clear B hU V s hG;go_enter Tryz.func51,Tryz.ntmps51;go_wp2_with (first|(at_lookup;refine iC _ rfl _ _ 145 rfl bQ 4 Tryz.underlying145 (.bool false) dt rfl (.iface a (.pointer (some ⟨f,0,none⟩))) rfl n.out ?_)|(at_mapUpdate;refine dR _ rfl _ _ _ 145 rfl bQ (eP _) 4 Tryz.underlying145 w.heap.size (fun _=>none) rfl H.out (.iface a (.pointer (some ⟨f,0,none⟩))) (.bool true) rfl rfl i.out ?_;intro I J L)|fail)
 have Y:Hid (ca I w.heap.size (bt (fun _=>none) (.iface a (.pointer (some ⟨f,0,none⟩))) (.bool true))):=⟨J _ (fun y hy=>a_ _ hy) (bJ _ _ _),fun x v U=>by
  by_cases e:x=(.iface a (.pointer (some ⟨f,0,none⟩)))
  ·rw[e,bJ]at U;cases U;rfl
  ·rw[a_ _ e]at U;cases U⟩
 have Z:Hid (∀y v,bt (fun _=>none) (.iface a (.pointer (some ⟨f,0,none⟩))) (.bool true) y=some v→(P y∨y=(.iface a (.pointer (some ⟨f,0,none⟩))))∨G y):=fun y v h=>by
  by_cases e:y=(.iface a (.pointer (some ⟨f,0,none⟩)))
  ·exact .inl (.inr e)
  ·rw[a_ _ e]at h;cases h
 have u:Below w.heap.size w I:=((Below.refl _ _).alloc (Nat.le_refl _) _).grown L (by simp) fun k hk=>by cases hk;exact Nat.le_refl _
 have P3:Hid (Kept (fun k=>(none:Option Nat)=some k) w I):=Kept.of u;have z:Hid (aq p g I):=X.out.below u;clear J L n i H u;have c0:=z.out.kw _ _ _ hc;have P4:=Lib.hid hI;clear hI;go_wp2_with fail
 refine(m.out _ z.out.kw).mono ?_;rintro e w' ⟨rfl,rfl⟩;go_wp2_with fail
 refine(P4.out w.heap.size I _ z.out Y.out Z.out).mono ?_;rintro e w2 ⟨⟨o,rfl,M⟩,N,O⟩;have Q:Hid (Kept (fun k=>(none:Option Nat)=some k) w w2):=P3.out.trans N fun b hb e=>(by have e:=Option.some.inj e;omega)
 obtain⟨F2,R,S⟩:=O w.heap.size rfl;have P7:=Lib.hid R;have P8:=Lib.hid S;have q:=Lib.hid M;clear N O R S M;cases o with
 |none=>
  go_wp2_with fail
  go_ret;exact⟨⟨none,rfl,q.out⟩,Q.out,fun b e=>(by cases e)⟩
 |some o=>
  go_wp2_with fail
  refine(j7 _ (by kernel_rfl) _ _ _ _).mono ?_;rintro e w3 ⟨⟨o',rfl⟩,P5⟩;have P6:Below w2.heap.size w2 w3:=((Below.refl _ _).alloc (Nat.le_refl _) _).trans (P5.mono (by simp));go_wp2_with fail
  go_ret;exact⟨⟨some o',rfl,q.out⟩,Q.out.below P6,fun b e=>(by cases e)⟩
theorem Bt(p:Pm)(g:Ge)(d:Bool)(G P:Value→Prop)(c:Bool)(f j t:Nat)(hK:bP f)(O:∀w,aq p g w→Plain w j)(u:P (.iface f (.pointer (some ⟨j,0,none⟩)))∨G (.iface f (.pointer (some ⟨j,0,none⟩)))→c=true)(hG:c=true→G (.iface f (.pointer (some ⟨j,0,none⟩))))(tb tc:Nat)(ta:Option Addr)(Q:Nat→Nat)(hc:p t 0=some (.pointer none))(h6:p t 6=some (ptr tb))(h2:p tb 2=some (.slice ta 1 tc))(h3:p tb 3=some (.bool false))(P9:bN p ta 1 fun i=>ptr (Q i))(P_:p (Q 0) 1=some .nilIface)(R:∀W,KW p W→Calls Tryz.prog 93 #[(.iface f (.pointer (some ⟨j,0,none⟩)))] W fun e w'=>e= .returned (.bool false)∧W=w')(H:c=d)(hU:∀W:World,KW p W→b_ W f j (.iface 32 (.pointer (some ⟨t,0,none⟩)))):
 fw p g d G P c (.iface f (.pointer (some ⟨j,0,none⟩))):=by
 have S:=ai br 32 t (by decide);have I:=ai cA 32 t (by decide);have P8:=ai dN 32 t (by decide);have N:=ai cK 32 t (by decide);have T:=ai cz 32 t (by decide);have C:=ba dG t;have Qe:= @run_makeMap Tryz.prog;intro D w F hE hS hP;obtain⟨hM,hb⟩:=hS;have q:=Lib.hid hM;have z:=Lib.hid hb;have J:=Lib.hid hP;have Qa:=Lib.hid hG;have l:=Lib.hid (dr hK (O w hE));have U:=Lib.hid hE;obtain⟨K,fn,Qf,V,A,X,hm,Qg,B⟩:=dS hU hE.kw;have Qh:=fun args w=>Go.MuLone.run_callFunc_enter V A X args w;have m:=Lib.hid B;clear V A X B;have Qb:Hid (¬Plain w D):=ca.iF ⟨hM,hb⟩;have Qi:∀W,(binOp .eql 145 (.map (some D)) (.map none)).run Tryz.prog W= .ok (.bool false) W:=fun W=>js D W;clear hM hb hE hU hK O hP hG;cases r:F (.iface f (.pointer (some ⟨j,0,none⟩)))with
 |some v=>
  have L:=z.out _ _ r;have Qc:Hid (c=true):=u (J.out _ _ r);have n:Hid ((F (.iface f (.pointer (some ⟨j,0,none⟩)))).getD (.bool false)= .bool true):=by rw[r,L];rfl
  clear r L u;go_enter Tryz.func51,Tryz.ntmps51;go_wp2_with (first|(at_lookup;refine dQ _ rfl _ _ 145 rfl bQ 4 Tryz.underlying145 (.bool false) dt D F rfl q.out (.iface f (.pointer (some ⟨j,0,none⟩))) rfl l.out (.bool true) n.out ?_)|fail)
  go_ret;exact⟨⟨none,rfl,Qc.out⟩,Kept.refl _ _,fun b e=>by cases e;exact⟨F,⟨q.out,z.out⟩,fun _ y v h=> .inl h⟩⟩
 |none=>
 have n:Hid ((F (.iface f (.pointer (some ⟨j,0,none⟩)))).getD (.bool false)= .bool false):=by rw[r];rfl
 clear r u;go_enter Tryz.func51,Tryz.ntmps51;go_wp2_with (first|(at_lookup;refine dQ _ rfl _ _ 145 rfl bQ 4 Tryz.underlying145 (.bool false) dt D F rfl q.out (.iface f (.pointer (some ⟨j,0,none⟩))) rfl l.out (.bool false) n.out ?_)|(at_mapUpdate;refine dR _ rfl _ _ _ 145 rfl bQ (eP _) 4 Tryz.underlying145 D F rfl q.out (.iface f (.pointer (some ⟨j,0,none⟩))) (.bool true) rfl rfl l.out ?_;intro w1 Y Z)|fail)
 have P3:Hid (ca w1 D (bt F (.iface f (.pointer (some ⟨j,0,none⟩))) (.bool true))):=⟨Y _ (fun y hy=>a_ F hy) (bJ _ _ _),fun x v L=>by
  by_cases e:x=(.iface f (.pointer (some ⟨j,0,none⟩)))
  ·rw[e,bJ]at L;cases L;rfl
  ·rw[a_ F e]at L;exact z.out _ _ L⟩
 have Qj:Hid (∀y v,bt F (.iface f (.pointer (some ⟨j,0,none⟩))) (.bool true) y=some v→(P y∨y=(.iface f (.pointer (some ⟨j,0,none⟩))))∨G y):=fun y v h=>by
  by_cases e:y=(.iface f (.pointer (some ⟨j,0,none⟩)))
  ·exact .inl (.inr e)
  ·rw[a_ F e]at h;exact(J.out y v h).imp .inl id
 have M:Hid (Kept (fun k=>some D=some k) w w1):=(Kept.refl _ _).grown Z fun k hk _=>hk;have a:Hid (aq p g w1):=U.out.kept M.out (fun b e=>by cases e;exact Qb.out) (fun e=>by
  cases e;have h:=U.out.cap 65 (by decide) (by decide);exact iG ⟨q.out,z.out⟩ h)
 clear Y Z l q n J z;have c0:=a.out.kw _ _ _ hc;have c6:=a.out.kw _ _ _ h6;have c2:=a.out.kw _ _ _ h2;have c3:=a.out.kw _ _ _ h3;have ct:=a.out.kw _ _ _ P_;have P4:=Lib.hid (fT P9 a.out.kw);have P5:=Lib.hid R;clear R;cases d with
 |true=>
  go_wp2_with fail
  refine(m.out _ a.out.kw).mono ?_;rintro e w' ⟨rfl,rfl⟩;go_wp2_with fail
  refine(P5.out _ a.out.kw).mono ?_;rintro e w' ⟨rfl,rfl⟩;go_wp2_with fail
  go_ret;exact⟨⟨none,rfl,H⟩,M.out,fun b e=>(by cases e;exact⟨_,P3.out,j8 Qa.out fun y v h=> .inl h⟩)⟩
 |false=>
 go_wp2_with fail
 refine(m.out _ a.out.kw).mono ?_;rintro e w' ⟨rfl,rfl⟩;go_wp2_with fail
 refine(iD t tb _ c0 c6).mono ?_;rintro e w2 ⟨rfl,rfl⟩;go_wp2_with fail
 refine(tu tb 1 tc ta Q false _ c2 c3 P4.out Nat.one_pos ct (some D)).mono ?_;rintro e w2 ⟨rfl,s⟩;have f0:=ak s c0;have f6:=ak s c6;have f2:=ak s c2;have P6:Hid (bA w2 ta 1 Q):=fun i hi=>let⟨b,o,e,hc⟩:=P4.out i hi;⟨b,o,e,ak s hc⟩;have E:=Lib.hid s;clear s;go_wp2_with fail
 refine(iD t tb _ f0 f6).mono ?_;rintro e w3 ⟨rfl,rfl⟩;go_wp2_with fail
 refine(tw tb 1 tc ta Q _ f2 P6.out).mono ?_;rintro e w3 ⟨rfl,rfl⟩;go_wp2_with fail
 refine(j7 _ (by kernel_rfl) _ _ _ _).mono ?_;rintro e w3 ⟨⟨o',rfl⟩,Qd⟩;have P7:=E.out.trans (Qd.mono E.out.size);go_wp2_with fail
 go_ret;exact⟨⟨some o',rfl,H⟩,M.out.below P7,fun b e=>(by cases e;exact⟨_,mT P3.out P7,fun h=>absurd h (by rw[H];exact Bool.false_ne_true)⟩)⟩
theorem Bu(p:Pm)(g:Ge)(d:Bool)(G P:Value→Prop)(c:Bool)(l m n:Nat)(w:World)(E:aq p g w)(hK:bP l)(A:∀w,aq p g w→Plain w m)(hG:c=true→G (.iface l (.pointer (some ⟨m,0,none⟩))))(tb tc:Nat)(ta:Option Addr)(F:Nat→Nat)(hc:p n 0=some (.pointer none))(h6:p n 6=some (ptr tb))(h2:p tb 2=some (.slice ta 1 tc))(h3:p tb 3=some (.bool false))(P3:bN p ta 1 fun i=>ptr (F i))(P4:p (F 0) 1=some .nilIface)(H:∀W,KW p W→Calls Tryz.prog 93 #[(.iface l (.pointer (some ⟨m,0,none⟩)))] W fun e X=>e= .returned (.bool false)∧W=X)(I:c=d)(hU:∀W:World,KW p W→b_ W l m (.iface 32 (.pointer (some ⟨n,0,none⟩)))):
 Calls Tryz.prog 51 #[(.iface l (.pointer (some ⟨m,0,none⟩))),.bool d,.map none] w (gJ G c (fun _=>none) none w):=by
 have J:=ai br 32 n (by decide);have B:=ai cA 32 n (by decide);have Y:=ai dN 32 n (by decide);have D:=ai cK 32 n (by decide);have L:=ai cz 32 n (by decide);have t:=ba dG n;have P8:= @run_makeMap Tryz.prog;have u:=Lib.hid (dr hK (A w E));have P9:=Lib.hid hG;have q:=Lib.hid (dr hK (w:=w.alloc (.map #[] 0)) ((A w E).below ((Below.refl _ _).alloc (Nat.le_refl _) _)));have P5:=Lib.hid E;obtain⟨K,fn,P_,M,r,N,hm,Qa,s⟩:=dS hU E.kw;have Qb:=fun args w=>Go.MuLone.run_callFunc_enter M r N args w;have f:=Lib.hid s;clear M r N s;have O:=Lib.hid (iB (eD Tryz.prog) w);have Qc:=jt;clear E hU hK A hG;go_enter Tryz.func51,Tryz.ntmps51;go_wp2_with (first|(at_lookup;refine iC _ rfl _ _ 145 rfl bQ 4 Tryz.underlying145 (.bool false) dt rfl (.iface l (.pointer (some ⟨m,0,none⟩))) rfl u.out ?_)|(at_mapUpdate;refine dR _ rfl _ _ _ 145 rfl bQ (eP _) 4 Tryz.underlying145 w.heap.size (fun _=>none) rfl O.out (.iface l (.pointer (some ⟨m,0,none⟩))) (.bool true) rfl rfl q.out ?_;intro Z Q R)|fail)
 have Qd:Hid (ca Z w.heap.size (bt (fun _=>none) (.iface l (.pointer (some ⟨m,0,none⟩))) (.bool true))):=⟨Q _ (fun y hy=>a_ _ hy) (bJ _ _ _),fun x v hv=>by
  by_cases e:x=(.iface l (.pointer (some ⟨m,0,none⟩)))
  ·rw[e,bJ]at hv;cases hv;rfl
  ·rw[a_ _ e]at hv;cases hv⟩
 have Qe:Hid (∀y v,bt (fun _=>none) (.iface l (.pointer (some ⟨m,0,none⟩))) (.bool true) y=some v→(P y∨y=(.iface l (.pointer (some ⟨m,0,none⟩))))∨G y):=fun y v h=>by
  by_cases e:y=(.iface l (.pointer (some ⟨m,0,none⟩)))
  ·exact .inl (.inr e)
  ·rw[a_ _ e]at h;cases h
 have C:Below w.heap.size w Z:=((Below.refl _ _).alloc (Nat.le_refl _) _).grown R (by simp) fun k hk=>by cases hk;exact Nat.le_refl _
 have S:Hid (Kept (fun k=>(none:Option Nat)=some k) w Z):=Kept.of C;have a:Hid (aq p g Z):=P5.out.below C;clear Q R u q O C;have c0:=a.out.kw _ _ _ hc;have c6:=a.out.kw _ _ _ h6;have c2:=a.out.kw _ _ _ h2;have c3:=a.out.kw _ _ _ h3;have ct:=a.out.kw _ _ _ P4;have T:=Lib.hid (fT P3 a.out.kw);have U:=Lib.hid H;clear H;cases d with
 |true=>
  go_wp2_with fail
  refine(f.out _ a.out.kw).mono ?_;rintro e X ⟨rfl,rfl⟩;go_wp2_with fail
  refine(U.out _ a.out.kw).mono ?_;rintro e X ⟨rfl,rfl⟩;go_wp2_with fail
  go_ret;exact⟨⟨none,rfl,I⟩,S.out,fun b e=>(by cases e)⟩
 |false=>
 go_wp2_with fail
 refine(f.out _ a.out.kw).mono ?_;rintro e X ⟨rfl,rfl⟩;go_wp2_with fail
 refine(iD n tb _ c0 c6).mono ?_;rintro e w2 ⟨rfl,rfl⟩;go_wp2_with fail
 refine(tu tb 1 tc ta F false _ c2 c3 T.out Nat.one_pos ct (some w.heap.size)).mono ?_;rintro e w2 ⟨rfl,j⟩;have f0:=ak j c0;have f6:=ak j c6;have f2:=ak j c2;have V:Hid (bA w2 ta 1 F):=fun i hi=>let⟨b,o,e,hc⟩:=T.out i hi;⟨b,o,e,ak j hc⟩;have z:=Lib.hid j;clear j;go_wp2_with fail
 refine(iD n tb _ f0 f6).mono ?_;rintro e w3 ⟨rfl,rfl⟩;go_wp2_with fail
 refine(tw tb 1 tc ta F _ f2 V.out).mono ?_;rintro e w3 ⟨rfl,rfl⟩;go_wp2_with fail
 refine(j7 _ (by kernel_rfl) _ _ _ _).mono ?_;rintro e w3 ⟨⟨o',rfl⟩,P6⟩;have P7:=z.out.trans (P6.mono z.out.size);go_wp2_with fail
 go_ret;exact⟨⟨some o',rfl,I⟩,S.out.below P7,fun b e=>(by cases e)⟩
theorem pc(p:Pm)(g:Ge)(d:Bool)(G P:Value→Prop)(c:Bool)(f i I:Nat)(hK:bP f)(O:∀w,aq p g w→Plain w i)(s:P (.iface f (.pointer (some ⟨i,0,none⟩)))∨G (.iface f (.pointer (some ⟨i,0,none⟩)))→c=true)(hG:c=true→G (.iface f (.pointer (some ⟨i,0,none⟩))))(rt:Nat)(t:rt≠91)(j:rt≠134)(C:rt≠138)(n:rt≠150)(u:rt≠130)(a:rt≠32)(Q:c=false)(hU:∀W:World,KW p W→b_ W f i (.iface rt (.pointer (some ⟨I,0,none⟩)))):
 fw p g d G P c (.iface f (.pointer (some ⟨i,0,none⟩))):=by
 have R:=ai br rt I (t);have J:=ai cA rt I (j);have P4:=ai dN rt I (C);have N:=ai cK rt I (n);have S:=ai cz rt I (u);have D:=ai dG rt I (a);have P9:= @run_makeMap Tryz.prog;intro H w F hE hS hP;obtain⟨hM,hb⟩:=hS;have q:=Lib.hid hM;have z:=Lib.hid hb;have L:=Lib.hid hP;have P_:=Lib.hid hG;have l:=Lib.hid (dr hK (O w hE));have T:=Lib.hid hE;obtain⟨K,fn,Qa,U,A,V,hm,Qb,B⟩:=dS hU hE.kw;have Qc:=fun args w=>Go.MuLone.run_callFunc_enter U A V args w;have E:=Lib.hid B;clear U A V B;have P5:Hid (¬Plain w H):=ca.iF ⟨hM,hb⟩;have Qd:∀W,(binOp .eql 145 (.map (some H)) (.map none)).run Tryz.prog W= .ok (.bool false) W:=fun W=>js H W;clear hM hb hE hU hK O hP hG;cases r:F (.iface f (.pointer (some ⟨i,0,none⟩)))with
 |some v=>
  have M:=z.out _ _ r;have P6:Hid (c=true):=s (L.out _ _ r);have m:Hid ((F (.iface f (.pointer (some ⟨i,0,none⟩)))).getD (.bool false)= .bool true):=by rw[r,M];rfl
  clear r M s;go_enter Tryz.func51,Tryz.ntmps51;go_wp2_with (first|(at_lookup;refine dQ _ rfl _ _ 145 rfl bQ 4 Tryz.underlying145 (.bool false) dt H F rfl q.out (.iface f (.pointer (some ⟨i,0,none⟩))) rfl l.out (.bool true) m.out ?_)|fail)
  go_ret;exact⟨⟨none,rfl,P6.out⟩,Kept.refl _ _,fun b e=>by cases e;exact⟨F,⟨q.out,z.out⟩,fun _ y v h=> .inl h⟩⟩
 |none=>
 have m:Hid ((F (.iface f (.pointer (some ⟨i,0,none⟩)))).getD (.bool false)= .bool false):=by rw[r];rfl
 clear r s;go_enter Tryz.func51,Tryz.ntmps51;go_wp2_with (first|(at_lookup;refine dQ _ rfl _ _ 145 rfl bQ 4 Tryz.underlying145 (.bool false) dt H F rfl q.out (.iface f (.pointer (some ⟨i,0,none⟩))) rfl l.out (.bool false) m.out ?_)|(at_mapUpdate;refine dR _ rfl _ _ _ 145 rfl bQ (eP _) 4 Tryz.underlying145 H F rfl q.out (.iface f (.pointer (some ⟨i,0,none⟩))) (.bool true) rfl rfl l.out ?_;intro w1 X Y)|fail)
 have P7:Hid (ca w1 H (bt F (.iface f (.pointer (some ⟨i,0,none⟩))) (.bool true))):=⟨X _ (fun y hy=>a_ F hy) (bJ _ _ _),fun x v M=>by
  by_cases e:x=(.iface f (.pointer (some ⟨i,0,none⟩)))
  ·rw[e,bJ]at M;cases M;rfl
  ·rw[a_ F e]at M;exact z.out _ _ M⟩
 have Qe:Hid (∀y v,bt F (.iface f (.pointer (some ⟨i,0,none⟩))) (.bool true) y=some v→(P y∨y=(.iface f (.pointer (some ⟨i,0,none⟩))))∨G y):=fun y v h=>by
  by_cases e:y=(.iface f (.pointer (some ⟨i,0,none⟩)))
  ·exact .inl (.inr e)
  ·rw[a_ F e]at h;exact(L.out y v h).imp .inl id
 have Z:Hid (Kept (fun k=>some H=some k) w w1):=(Kept.refl _ _).grown Y fun k hk _=>hk;have P8:Hid (aq p g w1):=T.out.kept Z.out (fun b e=>by cases e;exact P5.out) (fun e=>by
  cases e;have h:=T.out.cap 65 (by decide) (by decide);exact iG ⟨q.out,z.out⟩ h)
 clear X Y l q m L z;go_wp2_with fail
 refine(E.out _ P8.out.kw).mono ?_;rintro e w' ⟨rfl,rfl⟩;go_wp2_with fail
 refine(tk _ _ _ _).mono ?_;rintro e w2 ⟨⟨o,rfl⟩,P3⟩;go_wp2_with fail
 go_ret;exact⟨⟨some o,rfl,Q⟩,Z.out.below P3,fun b e=>(by cases e;exact⟨_,mT P7.out P3,fun h=>absurd h (by rw[Q];exact Bool.false_ne_true)⟩)⟩
theorem pd(p:Pm)(g:Ge)(d:Bool)(G P:Value→Prop)(c:Bool)(j l B:Nat)(w:World)(H:aq p g w)(U:bP j)(C:∀w,aq p g w→Plain w l)(hG:c=true→G (.iface j (.pointer (some ⟨l,0,none⟩))))(rt:Nat)(m:rt≠91)(f:rt≠134)(t:rt≠138)(i:rt≠150)(n:rt≠130)(a:rt≠32)(V:c=false)(hU:∀W:World,KW p W→b_ W j l (.iface rt (.pointer (some ⟨B,0,none⟩)))):
 Calls Tryz.prog 51 #[(.iface j (.pointer (some ⟨l,0,none⟩))),.bool d,.map none] w (gJ G c (fun _=>none) none w):=by
 have I:=ai br rt B (m);have D:=ai cA rt B (f);have R:=ai dN rt B (t);have F:=ai cK rt B (i);have J:=ai cz rt B (n);have u:=ai dG rt B (a);have P4:= @run_makeMap Tryz.prog;have A:=Lib.hid (dr U (C w H));have P5:=Lib.hid hG;have q:=Lib.hid (dr U (w:=w.alloc (.map #[] 0)) ((C w H).below ((Below.refl _ _).alloc (Nat.le_refl _) _)));have X:=Lib.hid H;obtain⟨K,fn,P6,L,r,M,hm,P7,s⟩:=dS hU H.kw;have P8:=fun args w=>Go.MuLone.run_callFunc_enter L r M args w;have z:=Lib.hid s;clear L r M s;have N:=Lib.hid (iB (eD Tryz.prog) w);have P9:=jt;clear H hU U C hG;go_enter Tryz.func51,Tryz.ntmps51;go_wp2_with (first|(at_lookup;refine iC _ rfl _ _ 145 rfl bQ 4 Tryz.underlying145 (.bool false) dt rfl (.iface j (.pointer (some ⟨l,0,none⟩))) rfl A.out ?_)|(at_mapUpdate;refine dR _ rfl _ _ _ 145 rfl bQ (eP _) 4 Tryz.underlying145 w.heap.size (fun _=>none) rfl N.out (.iface j (.pointer (some ⟨l,0,none⟩))) (.bool true) rfl rfl q.out ?_;intro S O Q)|fail)
 have P_:Hid (ca S w.heap.size (bt (fun _=>none) (.iface j (.pointer (some ⟨l,0,none⟩))) (.bool true))):=⟨O _ (fun y hy=>a_ _ hy) (bJ _ _ _),fun x v T=>by
  by_cases e:x=(.iface j (.pointer (some ⟨l,0,none⟩)))
  ·rw[e,bJ]at T;cases T;rfl
  ·rw[a_ _ e]at T;cases T⟩
 have Qa:Hid (∀y v,bt (fun _=>none) (.iface j (.pointer (some ⟨l,0,none⟩))) (.bool true) y=some v→(P y∨y=(.iface j (.pointer (some ⟨l,0,none⟩))))∨G y):=fun y v h=>by
  by_cases e:y=(.iface j (.pointer (some ⟨l,0,none⟩)))
  ·exact .inl (.inr e)
  ·rw[a_ _ e]at h;cases h
 have E:Below w.heap.size w S:=((Below.refl _ _).alloc (Nat.le_refl _) _).grown Q (by simp) fun k hk=>by cases hk;exact Nat.le_refl _
 have Y:Hid (Kept (fun k=>(none:Option Nat)=some k) w S):=Kept.of E;have Z:Hid (aq p g S):=X.out.below E;clear O Q A q N E;go_wp2_with fail
 refine(z.out _ Z.out.kw).mono ?_;rintro e w' ⟨rfl,rfl⟩;go_wp2_with fail
 refine(tk _ _ _ _).mono ?_;rintro e w2 ⟨⟨o,rfl⟩,P3⟩;go_wp2_with fail
 go_ret;exact⟨⟨some o,rfl,V⟩,Y.out.below P3,fun b e=>(by cases e)⟩
end Go.Proofs.YtkfaiocajcjomaaGreatDoor
