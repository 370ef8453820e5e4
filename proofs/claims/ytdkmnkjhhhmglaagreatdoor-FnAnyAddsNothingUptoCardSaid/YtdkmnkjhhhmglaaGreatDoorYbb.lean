import Derived.Test.YtdkmnkjhhhmglaaGreatDoorYay
set_option maxRecDepth 100000
set_option maxHeartbeats 8000000
set_option linter.all false
namespace Go.Proofs.YtdkmnkjhhhmglaaGreatDoor
open Go.RowKit TS
def cK(w:World)(a:Nat)(F:Value→Option Value):Prop:=cq (fA Tryz.prog) w a F∧∀x v,F x=some v→v= .bool true
def i_(G:Value→Prop)(c:Bool)(F:Value→Option Value)(m:Option Nat)(w:World)(e:Ending)(a:World):Prop:=
 (∃o,e= .returned (.pointer o)∧c=o.isNone)∧Kept (fun k=>m=some k) w a∧∀b,m=some b→∃d,cK a b d∧(c=true→∀y v,d y=some v→F y=some v∨G y)
def f_(p:Pm)(g:Ge)(d:Bool)(G P:Value→Prop)(c:Bool)(x:Value):Prop:=∀(a:Nat)(w:World)(F:Value→Option Value),aw p g w→cK w a F→(∀y v,F y=some v→P y∨G y)→Calls Tryz.prog 166 #[x,.bool d,.map (some a)] w (i_ G c F (some a) w)
theorem v7{G P:Value→Prop}{F a:Value→Option Value}{x:Value}(h1:∀y v,F y=some v→(P y∨y=x)∨G y)(h2:∀y v,a y=some v→F y=some v∨G y):∀y v,a y=some v→(P y∨y=x)∨G y:=fun y v h=>(h2 y v h).elim (h1 y v) .inr
theorem lE{G:Value→Prop}{F a:Value→Option Value}{x:Value}{c:Bool}(b:c=true→G x)(h2:∀y v,a y=some v→bF F x (.bool true) y=some v∨G y):c=true→∀y v,a y=some v→F y=some v∨G y:=fun d y v h=>by
 rcases h2 y v h with h|h
 ·by_cases e:y=x
  ·subst e;exact .inr (b d)
  ·rw[ba F e]at h;exact .inl h
 ·exact .inr h
theorem v_{G:Value→Prop}{F b a:Value→Option Value}(h1:∀y v,b y=some v→F y=some v∨G y)(h2:∀y v,a y=some v→b y=some v∨G y):∀y v,a y=some v→F y=some v∨G y:=fun y v h=>(h2 y v h).elim (h1 y v) .inr
theorem cK.jF{w:World}{b:Nat}{F:Value→Option Value}(h:cK w b F):¬Plain w b:=by
 obtain⟨⟨es,c,a,_⟩,_⟩:=h;rintro⟨cs,T,h⟩;rw[a]at h;cases h
theorem kE(a:Nat)(w:World):(binOp .eql 281 (.map (some a)) (.map none)).run Tryz.prog w= .ok (.bool false) w:=by kernel_rfl
theorem kF(w:World):(binOp .eql 281 (.map none) (.map none)).run Tryz.prog w= .ok (.bool true) w:=by kernel_rfl
theorem jG{w:World}{b o:Nat}{v:Value}{F:Value→Option Value}(a:cK w b F)(h:w.cell? ⟨b,o,none⟩=some v):False:=by
 obtain⟨⟨es,c,d,_⟩,_⟩:=a;simp[World.cell?,d]at h
theorem eG{p:Pm}{t b:Nat}{r:Value}{w:World}(h:∀W:World,KW p W→cG W t b r)(hw:KW p w):∃K fn c,Tryz.prog.funcs[K]?=some fn∧(fn.name== "runtime.NumGoroutine")=false∧fn.body=some c∧(∀W:World,(method 480 t (.pointer (some ⟨b,0,none⟩)) "Underlying").run Tryz.prog W= .ok (K,.pointer (some ⟨b,0,none⟩)) W)∧
 (∀W:World,(nilAhead 480 t (.pointer (some ⟨b,0,none⟩)) "Underlying").run Tryz.prog W= .ok (some false) W)∧∀W:World,KW p W→Calls Tryz.prog K #[.pointer (some ⟨b,0,none⟩)] W fun e d=>e= .returned r∧W=d:=by
 obtain⟨K,fn,c,h1,h2,h3,a,f,_⟩:=h w hw;refine⟨K,fn,c,h1,h2,h3,a,f,fun W g=> ?_⟩;obtain⟨i,j,c',_,_,_,k,_,l⟩:=h W g;have e:=a W;rw[k W]at e;have:i=K:=by injection e with e;injection e
 rw[←this];exact l
theorem o4{w a:World}{b:Nat}{F:Value→Option Value}(h:cK w b F)(k:Below w.heap.size w a):cK a b F:=by
 obtain⟨hM,c⟩:=h;refine⟨hM.of (k.block b hM.lt) fun v d=> ?_,c⟩;exact Dt (Kept.of (X:=fun _=>False) k) (fun _ h=>h.elim) d
theorem we{p:Pm}{g:Ge}{w a:World}{c:Nat}{F:Value→Option Value}(d:aw p g w)(f:cK w c F)(k:Kept (fun k=>some c=some k) w a):aw p g a:=
 d.kept k (fun b e=>by cases e;exact f.jF) fun e=>by
  cases e;exact jG f (d.cap 65 (by decide) (by decide))
theorem Dv(p:Pm)(g:Ge)(d:Bool)(G P:Value→Prop)(c:Bool)(a f N:Nat)(X:bV a)(A:∀w,aw p g w→Plain w f)(n:P (.iface a (.pointer (some ⟨f,0,none⟩)))∨G (.iface a (.pointer (some ⟨f,0,none⟩)))→c=true)(Y:c=true→G (.iface a (.pointer (some ⟨f,0,none⟩))))(k:Int)(hc:p N 0=some (.int .i64 k))(Z:(k==25)=false)(O:c=true)(hU:∀W:World,KW p W→cG W a f (.iface 99 (.pointer (some ⟨N,0,none⟩)))):
 f_ p g d G P c (.iface a (.pointer (some ⟨f,0,none⟩))):=by
 have B:=bd bE N;have PM:= @run_makeMap Tryz.prog;intro t w F M hS hP;obtain⟨hM,Q⟩:=hS;have l:=Lib.hid hM;have o:=Lib.hid Q;have u:=Lib.hid hP;have R:=Lib.hid Y;have i:=Lib.hid (dO X (A w M));have C:=Lib.hid M;obtain⟨K,fn,PN,D,q,E,hm,PO,r⟩:=eG hU M.kw;have PQ:=fun args w=>Go.MuLone.run_callFunc_enter D q E args w;have s:=Lib.hid r;clear D q E r;have S:Hid (¬Plain w t):=cK.jF ⟨hM,Q⟩;have PR:∀W,(binOp .eql 281 (.map (some t)) (.map none)).run Tryz.prog W= .ok (.bool false) W:=fun W=>kE t W;clear hM Q M hU X A hP Y;cases m:F (.iface a (.pointer (some ⟨f,0,none⟩)))with
 |some v=>
  have z:=o.out _ _ m;have T:Hid (c=true):=n (u.out _ _ m);have j:Hid ((F (.iface a (.pointer (some ⟨f,0,none⟩)))).getD (.bool false)= .bool true):=by rw[m,z];rfl
  clear m z n;go_enter Tryz.func166,Tryz.ntmps166;go_wp2_with (first|(at_lookup;refine eE _ rfl _ _ 281 rfl cd 4 Tryz.underlying281 (.bool false) dP t F rfl l.out (.iface a (.pointer (some ⟨f,0,none⟩))) rfl i.out (.bool true) j.out ?_)|fail)
  go_ret;exact⟨⟨none,rfl,T.out⟩,Kept.refl _ _,fun b e=>by cases e;exact⟨F,⟨l.out,o.out⟩,fun _ y v h=> .inl h⟩⟩
 |none=>
 have j:Hid ((F (.iface a (.pointer (some ⟨f,0,none⟩)))).getD (.bool false)= .bool false):=by rw[m];rfl
 clear m n;go_enter Tryz.func166,Tryz.ntmps166;go_wp2_with (first|(at_lookup;refine eE _ rfl _ _ 281 rfl cd 4 Tryz.underlying281 (.bool false) dP t F rfl l.out (.iface a (.pointer (some ⟨f,0,none⟩))) rfl i.out (.bool false) j.out ?_)|(at_mapUpdate;refine eF _ rfl _ _ _ 281 rfl cd (fJ _) 4 Tryz.underlying281 t F rfl l.out (.iface a (.pointer (some ⟨f,0,none⟩))) (.bool true) rfl rfl i.out ?_;intro U H I)|fail)
 have V:Hid (cK U t (bF F (.iface a (.pointer (some ⟨f,0,none⟩))) (.bool true))):=⟨H _ (fun y hy=>ba F hy) (bX _ _ _),fun x v z=>by
  by_cases e:x=(.iface a (.pointer (some ⟨f,0,none⟩)))
  ·rw[e,bX]at z;cases z;rfl
  ·rw[ba F e]at z;exact o.out _ _ z⟩
 have PS:Hid (∀y v,bF F (.iface a (.pointer (some ⟨f,0,none⟩))) (.bool true) y=some v→(P y∨y=(.iface a (.pointer (some ⟨f,0,none⟩))))∨G y):=fun y v h=>by
  by_cases e:y=(.iface a (.pointer (some ⟨f,0,none⟩)))
  ·exact .inl (.inr e)
  ·rw[ba F e]at h;exact(u.out y v h).imp .inl id
 have J:Hid (Kept (fun k=>some t=some k) w U):=(Kept.refl _ _).grown I fun k hk _=>hk;have L:Hid (aw p g U):=C.out.kept J.out (fun b e=>by cases e;exact S.out) (fun e=>by
  cases e;have h:=C.out.cap 65 (by decide) (by decide);exact jG ⟨l.out,o.out⟩ h)
 clear H I i l j u o;have c0:=L.out.kw _ _ _ hc;go_wp2_with fail
 refine(s.out _ L.out.kw).mono ?_;rintro e w' ⟨rfl,rfl⟩;go_wp2_with fail
 go_ret;exact⟨⟨none,rfl,O⟩,J.out,fun b e=>(by cases e;exact⟨_,V.out,lE R.out fun y v h=> .inl h⟩)⟩
theorem Dw(p:Pm)(g:Ge)(d:Bool)(G P:Value→Prop)(c:Bool)(a f F:Nat)(w:World)(r:aw p g w)(H:bV a)(o:∀w,aw p g w→Plain w f)(M:c=true→G (.iface a (.pointer (some ⟨f,0,none⟩))))(k:Int)(Q:p F 0=some (.int .i64 k))(N:(k==25)=false)(I:c=true)(O:∀W:World,KW p W→cG W a f (.iface 99 (.pointer (some ⟨F,0,none⟩)))):
 Calls Tryz.prog 166 #[(.iface a (.pointer (some ⟨f,0,none⟩))),.bool d,.map none] w (i_ G c (fun _=>none) none w):=by
 have s:=bd bE F;have R:= @run_makeMap Tryz.prog;have n:=Lib.hid (dO H (o w r));have S:=Lib.hid M;have i:=Lib.hid (dO H (w:=w.alloc (.map #[] 0)) ((o w r).below ((Below.refl _ _).alloc (Nat.le_refl _) _)));have J:=Lib.hid r;obtain⟨K,fn,T,t,j,u,hm,U,l⟩:=eG O r.kw;have V:=fun args w=>Go.MuLone.run_callFunc_enter t j u args w;have m:=Lib.hid l;clear t j u l;have z:=Lib.hid (jC (fA Tryz.prog) w);have X:=kF;clear r O H o M;go_enter Tryz.func166,Tryz.ntmps166;go_wp2_with (first|(at_lookup;refine jD _ rfl _ _ 281 rfl cd 4 Tryz.underlying281 (.bool false) dP rfl (.iface a (.pointer (some ⟨f,0,none⟩))) rfl n.out ?_)|(at_mapUpdate;refine eF _ rfl _ _ _ 281 rfl cd (fJ _) 4 Tryz.underlying281 w.heap.size (fun _=>none) rfl z.out (.iface a (.pointer (some ⟨f,0,none⟩))) (.bool true) rfl rfl i.out ?_;intro D A B)|fail)
 have Y:Hid (cK D w.heap.size (bF (fun _=>none) (.iface a (.pointer (some ⟨f,0,none⟩))) (.bool true))):=⟨A _ (fun y Z=>ba _ Z) (bX _ _ _),fun x v E=>by
  by_cases e:x=(.iface a (.pointer (some ⟨f,0,none⟩)))
  ·rw[e,bX]at E;cases E;rfl
  ·rw[ba _ e]at E;cases E⟩
 have PM:Hid (∀y v,bF (fun _=>none) (.iface a (.pointer (some ⟨f,0,none⟩))) (.bool true) y=some v→(P y∨y=(.iface a (.pointer (some ⟨f,0,none⟩))))∨G y):=fun y v h=>by
  by_cases e:y=(.iface a (.pointer (some ⟨f,0,none⟩)))
  ·exact .inl (.inr e)
  ·rw[ba _ e]at h;cases h
 have q:Below w.heap.size w D:=((Below.refl _ _).alloc (Nat.le_refl _) _).grown B (by simp) fun k hk=>by cases hk;exact Nat.le_refl _
 have L:Hid (Kept (fun k=>(none:Option Nat)=some k) w D):=Kept.of q;have C:Hid (aw p g D):=J.out.below q;clear A B n i z q;have c0:=C.out.kw _ _ _ Q;go_wp2_with fail
 refine(m.out _ C.out.kw).mono ?_;rintro e w' ⟨rfl,rfl⟩;go_wp2_with fail
 go_ret;exact⟨⟨none,rfl,I⟩,L.out,fun b e=>(by cases e)⟩
theorem Dx(p:Pm)(g:Ge)(d:Bool)(G P:Value→Prop)(c:Bool)(a f M:Nat)(Z:bV a)(B:∀w,aw p g w→Plain w f)(n:P (.iface a (.pointer (some ⟨f,0,none⟩)))∨G (.iface a (.pointer (some ⟨f,0,none⟩)))→c=true)(hG:c=true→G (.iface a (.pointer (some ⟨f,0,none⟩))))(Q:c=true)(hU:∀W:World,KW p W→cG W a f (.iface 142 (.pointer (some ⟨M,0,none⟩)))):
 f_ p g d G P c (.iface a (.pointer (some ⟨f,0,none⟩))):=by
 have C:=an bE 142 M (by decide);have u:=bd cT M;have N:=an eA 142 M (by decide);have PM:= @run_makeMap Tryz.prog;intro t w F O hS hP;obtain⟨hM,R⟩:=hS;have l:=Lib.hid hM;have o:=Lib.hid R;have z:=Lib.hid hP;have S:=Lib.hid hG;have i:=Lib.hid (dO Z (B w O));have D:=Lib.hid O;obtain⟨K,fn,PN,E,q,H,hm,PO,r⟩:=eG hU O.kw;have PQ:=fun args w=>Go.MuLone.run_callFunc_enter E q H args w;have s:=Lib.hid r;clear E q H r;have T:Hid (¬Plain w t):=cK.jF ⟨hM,R⟩;have PR:∀W,(binOp .eql 281 (.map (some t)) (.map none)).run Tryz.prog W= .ok (.bool false) W:=fun W=>kE t W;clear hM R O hU Z B hP hG;cases m:F (.iface a (.pointer (some ⟨f,0,none⟩)))with
 |some v=>
  have A:=o.out _ _ m;have U:Hid (c=true):=n (z.out _ _ m);have j:Hid ((F (.iface a (.pointer (some ⟨f,0,none⟩)))).getD (.bool false)= .bool true):=by rw[m,A];rfl
  clear m A n;go_enter Tryz.func166,Tryz.ntmps166;go_wp2_with (first|(at_lookup;refine eE _ rfl _ _ 281 rfl cd 4 Tryz.underlying281 (.bool false) dP t F rfl l.out (.iface a (.pointer (some ⟨f,0,none⟩))) rfl i.out (.bool true) j.out ?_)|fail)
  go_ret;exact⟨⟨none,rfl,U.out⟩,Kept.refl _ _,fun b e=>by cases e;exact⟨F,⟨l.out,o.out⟩,fun _ y v h=> .inl h⟩⟩
 |none=>
 have j:Hid ((F (.iface a (.pointer (some ⟨f,0,none⟩)))).getD (.bool false)= .bool false):=by rw[m];rfl
 clear m n;go_enter Tryz.func166,Tryz.ntmps166;go_wp2_with (first|(at_lookup;refine eE _ rfl _ _ 281 rfl cd 4 Tryz.underlying281 (.bool false) dP t F rfl l.out (.iface a (.pointer (some ⟨f,0,none⟩))) rfl i.out (.bool false) j.out ?_)|(at_mapUpdate;refine eF _ rfl _ _ _ 281 rfl cd (fJ _) 4 Tryz.underlying281 t F rfl l.out (.iface a (.pointer (some ⟨f,0,none⟩))) (.bool true) rfl rfl i.out ?_;intro V I J)|fail)
 have X:Hid (cK V t (bF F (.iface a (.pointer (some ⟨f,0,none⟩))) (.bool true))):=⟨I _ (fun y hy=>ba F hy) (bX _ _ _),fun x v A=>by
  by_cases e:x=(.iface a (.pointer (some ⟨f,0,none⟩)))
  ·rw[e,bX]at A;cases A;rfl
  ·rw[ba F e]at A;exact o.out _ _ A⟩
 have PS:Hid (∀y v,bF F (.iface a (.pointer (some ⟨f,0,none⟩))) (.bool true) y=some v→(P y∨y=(.iface a (.pointer (some ⟨f,0,none⟩))))∨G y):=fun y v h=>by
  by_cases e:y=(.iface a (.pointer (some ⟨f,0,none⟩)))
  ·exact .inl (.inr e)
  ·rw[ba F e]at h;exact(z.out y v h).imp .inl id
 have L:Hid (Kept (fun k=>some t=some k) w V):=(Kept.refl _ _).grown J fun k hk _=>hk;have Y:Hid (aw p g V):=D.out.kept L.out (fun b e=>by cases e;exact T.out) (fun e=>by
  cases e;have h:=D.out.cap 65 (by decide) (by decide);exact jG ⟨l.out,o.out⟩ h)
 clear I J i l j z o;go_wp2_with fail
 refine(s.out _ Y.out.kw).mono ?_;rintro e w' ⟨rfl,rfl⟩;go_wp2_with fail
 go_ret;exact⟨⟨none,rfl,Q⟩,L.out,fun b e=>(by cases e;exact⟨_,X.out,lE S.out fun y v h=> .inl h⟩)⟩
theorem Dy(p:Pm)(g:Ge)(d:Bool)(G P:Value→Prop)(c:Bool)(a f D:Nat)(w:World)(s:aw p g w)(I:bV a)(o:∀w,aw p g w→Plain w f)(O:c=true→G (.iface a (.pointer (some ⟨f,0,none⟩))))(J:c=true)(Q:∀W:World,KW p W→cG W a f (.iface 142 (.pointer (some ⟨D,0,none⟩)))):
 Calls Tryz.prog 166 #[(.iface a (.pointer (some ⟨f,0,none⟩))),.bool d,.map none] w (i_ G c (fun _=>none) none w):=by
 have t:=an bE 142 D (by decide);have q:=bd cT D;have E:=an eA 142 D (by decide);have R:= @run_makeMap Tryz.prog;have n:=Lib.hid (dO I (o w s));have S:=Lib.hid O;have i:=Lib.hid (dO I (w:=w.alloc (.map #[] 0)) ((o w s).below ((Below.refl _ _).alloc (Nat.le_refl _) _)));have L:=Lib.hid s;obtain⟨K,fn,T,u,j,z,hm,U,l⟩:=eG Q s.kw;have V:=fun args w=>Go.MuLone.run_callFunc_enter u j z args w;have m:=Lib.hid l;clear u j z l;have A:=Lib.hid (jC (fA Tryz.prog) w);have X:=kF;clear s Q I o O;go_enter Tryz.func166,Tryz.ntmps166;go_wp2_with (first|(at_lookup;refine jD _ rfl _ _ 281 rfl cd 4 Tryz.underlying281 (.bool false) dP rfl (.iface a (.pointer (some ⟨f,0,none⟩))) rfl n.out ?_)|(at_mapUpdate;refine eF _ rfl _ _ _ 281 rfl cd (fJ _) 4 Tryz.underlying281 w.heap.size (fun _=>none) rfl A.out (.iface a (.pointer (some ⟨f,0,none⟩))) (.bool true) rfl rfl i.out ?_;intro F B C)|fail)
 have Y:Hid (cK F w.heap.size (bF (fun _=>none) (.iface a (.pointer (some ⟨f,0,none⟩))) (.bool true))):=⟨B _ (fun y Z=>ba _ Z) (bX _ _ _),fun x v H=>by
  by_cases e:x=(.iface a (.pointer (some ⟨f,0,none⟩)))
  ·rw[e,bX]at H;cases H;rfl
  ·rw[ba _ e]at H;cases H⟩
 have PM:Hid (∀y v,bF (fun _=>none) (.iface a (.pointer (some ⟨f,0,none⟩))) (.bool true) y=some v→(P y∨y=(.iface a (.pointer (some ⟨f,0,none⟩))))∨G y):=fun y v h=>by
  by_cases e:y=(.iface a (.pointer (some ⟨f,0,none⟩)))
  ·exact .inl (.inr e)
  ·rw[ba _ e]at h;cases h
 have r:Below w.heap.size w F:=((Below.refl _ _).alloc (Nat.le_refl _) _).grown C (by simp) fun k hk=>by cases hk;exact Nat.le_refl _
 have M:Hid (Kept (fun k=>(none:Option Nat)=some k) w F):=Kept.of r;have N:Hid (aw p g F):=L.out.below r;clear B C n i A r;go_wp2_with fail
 refine(m.out _ N.out.kw).mono ?_;rintro e w' ⟨rfl,rfl⟩;go_wp2_with fail
 go_ret;exact⟨⟨none,rfl,J⟩,M.out,fun b e=>(by cases e)⟩
theorem Dz(p:Pm)(g:Ge)(d:Bool)(G P:Value→Prop)(c:Bool)(a f M:Nat)(Z:bV a)(B:∀w,aw p g w→Plain w f)(n:P (.iface a (.pointer (some ⟨f,0,none⟩)))∨G (.iface a (.pointer (some ⟨f,0,none⟩)))→c=true)(hG:c=true→G (.iface a (.pointer (some ⟨f,0,none⟩))))(Q:c=true)(hU:∀W:World,KW p W→cG W a f (.iface 146 (.pointer (some ⟨M,0,none⟩)))):
 f_ p g d G P c (.iface a (.pointer (some ⟨f,0,none⟩))):=by
 have C:=an bE 146 M (by decide);have u:=an cT 146 M (by decide);have N:=bd eA M;have PM:= @run_makeMap Tryz.prog;intro t w F O hS hP;obtain⟨hM,R⟩:=hS;have l:=Lib.hid hM;have o:=Lib.hid R;have z:=Lib.hid hP;have S:=Lib.hid hG;have i:=Lib.hid (dO Z (B w O));have D:=Lib.hid O;obtain⟨K,fn,PN,E,q,H,hm,PO,r⟩:=eG hU O.kw;have PQ:=fun args w=>Go.MuLone.run_callFunc_enter E q H args w;have s:=Lib.hid r;clear E q H r;have T:Hid (¬Plain w t):=cK.jF ⟨hM,R⟩;have PR:∀W,(binOp .eql 281 (.map (some t)) (.map none)).run Tryz.prog W= .ok (.bool false) W:=fun W=>kE t W;clear hM R O hU Z B hP hG;cases m:F (.iface a (.pointer (some ⟨f,0,none⟩)))with
 |some v=>
  have A:=o.out _ _ m;have U:Hid (c=true):=n (z.out _ _ m);have j:Hid ((F (.iface a (.pointer (some ⟨f,0,none⟩)))).getD (.bool false)= .bool true):=by rw[m,A];rfl
  clear m A n;go_enter Tryz.func166,Tryz.ntmps166;go_wp2_with (first|(at_lookup;refine eE _ rfl _ _ 281 rfl cd 4 Tryz.underlying281 (.bool false) dP t F rfl l.out (.iface a (.pointer (some ⟨f,0,none⟩))) rfl i.out (.bool true) j.out ?_)|fail)
  go_ret;exact⟨⟨none,rfl,U.out⟩,Kept.refl _ _,fun b e=>by cases e;exact⟨F,⟨l.out,o.out⟩,fun _ y v h=> .inl h⟩⟩
 |none=>
 have j:Hid ((F (.iface a (.pointer (some ⟨f,0,none⟩)))).getD (.bool false)= .bool false):=by rw[m];rfl
 clear m n;go_enter Tryz.func166,Tryz.ntmps166;go_wp2_with (first|(at_lookup;refine eE _ rfl _ _ 281 rfl cd 4 Tryz.underlying281 (.bool false) dP t F rfl l.out (.iface a (.pointer (some ⟨f,0,none⟩))) rfl i.out (.bool false) j.out ?_)|(at_mapUpdate;refine eF _ rfl _ _ _ 281 rfl cd (fJ _) 4 Tryz.underlying281 t F rfl l.out (.iface a (.pointer (some ⟨f,0,none⟩))) (.bool true) rfl rfl i.out ?_;intro V I J)|fail)
 have X:Hid (cK V t (bF F (.iface a (.pointer (some ⟨f,0,none⟩))) (.bool true))):=⟨I _ (fun y hy=>ba F hy) (bX _ _ _),fun x v A=>by
  by_cases e:x=(.iface a (.pointer (some ⟨f,0,none⟩)))
  ·rw[e,bX]at A;cases A;rfl
  ·rw[ba F e]at A;exact o.out _ _ A⟩
 have PS:Hid (∀y v,bF F (.iface a (.pointer (some ⟨f,0,none⟩))) (.bool true) y=some v→(P y∨y=(.iface a (.pointer (some ⟨f,0,none⟩))))∨G y):=fun y v h=>by
  by_cases e:y=(.iface a (.pointer (some ⟨f,0,none⟩)))
  ·exact .inl (.inr e)
  ·rw[ba F e]at h;exact(z.out y v h).imp .inl id
 have L:Hid (Kept (fun k=>some t=some k) w V):=(Kept.refl _ _).grown J fun k hk _=>hk;have Y:Hid (aw p g V):=D.out.kept L.out (fun b e=>by cases e;exact T.out) (fun e=>by
  cases e;have h:=D.out.cap 65 (by decide) (by decide);exact jG ⟨l.out,o.out⟩ h)
 clear I J i l j z o;go_wp2_with fail
 refine(s.out _ Y.out.kw).mono ?_;rintro e w' ⟨rfl,rfl⟩;go_wp2_with fail
 go_ret;exact⟨⟨none,rfl,Q⟩,L.out,fun b e=>(by cases e;exact⟨_,X.out,lE S.out fun y v h=> .inl h⟩)⟩
theorem DA(p:Pm)(g:Ge)(d:Bool)(G P:Value→Prop)(c:Bool)(a f D:Nat)(w:World)(s:aw p g w)(I:bV a)(o:∀w,aw p g w→Plain w f)(O:c=true→G (.iface a (.pointer (some ⟨f,0,none⟩))))(J:c=true)(Q:∀W:World,KW p W→cG W a f (.iface 146 (.pointer (some ⟨D,0,none⟩)))):
 Calls Tryz.prog 166 #[(.iface a (.pointer (some ⟨f,0,none⟩))),.bool d,.map none] w (i_ G c (fun _=>none) none w):=by
 have t:=an bE 146 D (by decide);have q:=an cT 146 D (by decide);have E:=bd eA D;have R:= @run_makeMap Tryz.prog;have n:=Lib.hid (dO I (o w s));have S:=Lib.hid O;have i:=Lib.hid (dO I (w:=w.alloc (.map #[] 0)) ((o w s).below ((Below.refl _ _).alloc (Nat.le_refl _) _)));have L:=Lib.hid s;obtain⟨K,fn,T,u,j,z,hm,U,l⟩:=eG Q s.kw;have V:=fun args w=>Go.MuLone.run_callFunc_enter u j z args w;have m:=Lib.hid l;clear u j z l;have A:=Lib.hid (jC (fA Tryz.prog) w);have X:=kF;clear s Q I o O;go_enter Tryz.func166,Tryz.ntmps166;go_wp2_with (first|(at_lookup;refine jD _ rfl _ _ 281 rfl cd 4 Tryz.underlying281 (.bool false) dP rfl (.iface a (.pointer (some ⟨f,0,none⟩))) rfl n.out ?_)|(at_mapUpdate;refine eF _ rfl _ _ _ 281 rfl cd (fJ _) 4 Tryz.underlying281 w.heap.size (fun _=>none) rfl A.out (.iface a (.pointer (some ⟨f,0,none⟩))) (.bool true) rfl rfl i.out ?_;intro F B C)|fail)
 have Y:Hid (cK F w.heap.size (bF (fun _=>none) (.iface a (.pointer (some ⟨f,0,none⟩))) (.bool true))):=⟨B _ (fun y Z=>ba _ Z) (bX _ _ _),fun x v H=>by
  by_cases e:x=(.iface a (.pointer (some ⟨f,0,none⟩)))
  ·rw[e,bX]at H;cases H;rfl
  ·rw[ba _ e]at H;cases H⟩
 have PM:Hid (∀y v,bF (fun _=>none) (.iface a (.pointer (some ⟨f,0,none⟩))) (.bool true) y=some v→(P y∨y=(.iface a (.pointer (some ⟨f,0,none⟩))))∨G y):=fun y v h=>by
  by_cases e:y=(.iface a (.pointer (some ⟨f,0,none⟩)))
  ·exact .inl (.inr e)
  ·rw[ba _ e]at h;cases h
 have r:Below w.heap.size w F:=((Below.refl _ _).alloc (Nat.le_refl _) _).grown C (by simp) fun k hk=>by cases hk;exact Nat.le_refl _
 have M:Hid (Kept (fun k=>(none:Option Nat)=some k) w F):=Kept.of r;have N:Hid (aw p g F):=L.out.below r;clear B C n i A r;go_wp2_with fail
 refine(m.out _ N.out.kw).mono ?_;rintro e w' ⟨rfl,rfl⟩;go_wp2_with fail
 go_ret;exact⟨⟨none,rfl,J⟩,M.out,fun b e=>(by cases e)⟩
theorem DB(p:Pm)(g:Ge)(d:Bool)(G P:Value→Prop)(c:Bool)(l m X:Nat)(hK:bV l)(Z:∀w,aw p g w→Plain w m)(A:P (.iface l (.pointer (some ⟨m,0,none⟩)))∨G (.iface l (.pointer (some ⟨m,0,none⟩)))→c=true)(hG:c=true→G (.iface l (.pointer (some ⟨m,0,none⟩))))(n cc:Nat)(a:Option Addr)(f ft fb:Nat→Nat)(ci:Nat→Bool)(hn:n≤1099511627776)(hc:p X 0=some (.slice a n cc))(hr:b9 p a n fun i=>ptr (f i))(hf:∀i,i<n→p (f i) 3=some (.iface (ft i) (.pointer (some ⟨fb i,0,none⟩))))(hI:∀i,i<n→f_ p g d G (fun y=>P y∨y=(.iface l (.pointer (some ⟨m,0,none⟩)))) (ci i) (.iface (ft i) (.pointer (some ⟨fb i,0,none⟩))))(PM:(∀i,i<n→ci i=true)→c=true)(PN:∀i,i<n→ci i=false→c=false)(hU:∀W:World,KW p W→cG W l m (.iface 167 (.pointer (some ⟨X,0,none⟩)))):
 f_ p g d G P c (.iface l (.pointer (some ⟨m,0,none⟩))):=by
 have PO:=an bE 167 X (by decide);have R:=an cT 167 X (by decide);have Qc:=an eA 167 X (by decide);have Y:=bd dg X;have Qn:= @run_makeMap Tryz.prog;intro t w F hE hS hP;obtain⟨hM,hb⟩:=hS;have u:=Lib.hid hM;have B:=Lib.hid hb;have S:=Lib.hid hP;have Qd:=Lib.hid hG;have q:=Lib.hid (dO hK (Z w hE));have PQ:=Lib.hid hE;obtain⟨K,fn,Qo,PR,C,PS,hm,Qp,D⟩:=eG hU hE.kw;have Qq:=fun args w=>Go.MuLone.run_callFunc_enter PR C PS args w;have L:=Lib.hid D;clear PR C PS D;have Qe:Hid (¬Plain w t):=cK.jF ⟨hM,hb⟩;have Qr:∀W,(binOp .eql 281 (.map (some t)) (.map none)).run Tryz.prog W= .ok (.bool false) W:=fun W=>kE t W;clear hM hb hE hU hK Z hP hG;cases z:F (.iface l (.pointer (some ⟨m,0,none⟩)))with
 |some v=>
  have T:=B.out _ _ z;have Qf:Hid (c=true):=A (S.out _ _ z);have r:Hid ((F (.iface l (.pointer (some ⟨m,0,none⟩)))).getD (.bool false)= .bool true):=by rw[z,T];rfl
  clear z T A;go_enter Tryz.func166,Tryz.ntmps166;go_wp2_with (first|(at_lookup;refine eE _ rfl _ _ 281 rfl cd 4 Tryz.underlying281 (.bool false) dP t F rfl u.out (.iface l (.pointer (some ⟨m,0,none⟩))) rfl q.out (.bool true) r.out ?_)|fail)
  go_ret;exact⟨⟨none,rfl,Qf.out⟩,Kept.refl _ _,fun b e=>by cases e;exact⟨F,⟨u.out,B.out⟩,fun _ y v h=> .inl h⟩⟩
 |none=>
 have r:Hid ((F (.iface l (.pointer (some ⟨m,0,none⟩)))).getD (.bool false)= .bool false):=by rw[z];rfl
 clear z A;go_enter Tryz.func166,Tryz.ntmps166;go_wp2_with (first|(at_lookup;refine eE _ rfl _ _ 281 rfl cd 4 Tryz.underlying281 (.bool false) dP t F rfl u.out (.iface l (.pointer (some ⟨m,0,none⟩))) rfl q.out (.bool false) r.out ?_)|(at_mapUpdate;refine eF _ rfl _ _ _ 281 rfl cd (fJ _) 4 Tryz.underlying281 t F rfl u.out (.iface l (.pointer (some ⟨m,0,none⟩))) (.bool true) rfl rfl q.out ?_;intro w1 PT PU)|fail)
 have Qg:Hid (cK w1 t (bF F (.iface l (.pointer (some ⟨m,0,none⟩))) (.bool true))):=⟨PT _ (fun y hy=>ba F hy) (bX _ _ _),fun x v T=>by
  by_cases e:x=(.iface l (.pointer (some ⟨m,0,none⟩)))
  ·rw[e,bX]at T;cases T;rfl
  ·rw[ba F e]at T;exact B.out _ _ T⟩
 have Qh:Hid (∀y v,bF F (.iface l (.pointer (some ⟨m,0,none⟩))) (.bool true) y=some v→(P y∨y=(.iface l (.pointer (some ⟨m,0,none⟩))))∨G y):=fun y v h=>by
  by_cases e:y=(.iface l (.pointer (some ⟨m,0,none⟩)))
  ·exact .inl (.inr e)
  ·rw[ba F e]at h;exact(S.out y v h).imp .inl id
 have PV:Hid (Kept (fun k=>some t=some k) w w1):=(Kept.refl _ _).grown PU fun k hk _=>hk;have U:Hid (aw p g w1):=PQ.out.kept PV.out (fun b e=>by cases e;exact Qe.out) (fun e=>by
  cases e;have h:=PQ.out.cap 65 (by decide) (by decide);exact jG ⟨u.out,B.out⟩ h)
 clear PT PU q u r S B;have c0:=U.out.kw _ _ _ hc;have Qi:=Lib.hid hI;have Qj:=Lib.hid hr;have PW:=Lib.hid hf;have PX:=Lib.hid PM;have PY:=Lib.hid PN;clear hI hr hf PM PN;go_wp2_with fail
 refine(L.out _ U.out.kw).mono ?_;rintro e w' ⟨rfl,rfl⟩;go_wp2_with fail
 go_loopw [51] (fun i wr=> ∃(k:Nat)(F':Value→Option Value),k≤n∧i= .int .i64 k∧Kept (fun k=>some t=some k) w wr∧cK wr t F'∧aw p g wr∧(∀j,j<k→ci j=true)∧(∀y v,F' y=some v→(bF F (.iface l (.pointer (some ⟨m,0,none⟩))) (.bool true)) y=some v∨G y)) (fun i _=>n- (intOf i).toNat)
 case atStart=>exact⟨0,_,Nat.zero_le _,rfl,PV.out,Qg.out,U.out,fun j hj=>absurd hj (Nat.not_lt_zero _),fun y v h=> .inl h⟩
 case round=>
  obtain⟨k,Fr,hk,rfl,PZ,P0,P1,P2,P3⟩:=hrel;have N:=Lib.hid PZ;have E:=Lib.hid P0;have s:=Lib.hid P1;have O:=Lib.hid P2;have H:=Lib.hid P3;clear PZ P0 P1 P2 P3;by_cases I:k<n
  ·have Qm:(k:Int)<n:=by omega
   obtain⟨ab,ao,rfl,P4⟩:=Qj.out k I;have d0:=s.out.kw _ _ _ P4;have d3:=s.out.kw _ _ _ (PW.out k I);clear P4;go_wp2_with fail
   refine(Qi.out k I t wr _ s.out E.out (v7 Qh.out H.out)).mono ?_;rintro e w2 ⟨⟨o,rfl,P5⟩,V,P6⟩;have P7:Hid (Kept (fun k=>some t=some k) w w2):=N.out.trans V fun b hb e=>e;obtain⟨F2,P8,P9⟩:=P6 t rfl;have Q:=Lib.hid P8;have P_:=Lib.hid P9;have J:=Lib.hid P5;have Qa:Hid (aw p g w2):=we s.out E.out V;have d4:=Qa.out.kw _ _ _ (PW.out k I);clear V P6 P8 P9 P5;cases o with
   |none=>
    go_wp2_with fail
    refine⟨⟨k+1,F2,by omega,by go_num,P7.out,Q.out,Qa.out,fun j hj=> ?_,v_ H.out (P_.out J.out)⟩,?_⟩
    ·by_cases Qk:j<k
     ·exact O.out j Qk
     ·obtain rfl:j=k:=by omega
      exact J.out
    ·first|omega|(simp[intOf];omega)
   |some o=>
    go_wp2_with fail
    refine(lD _ (by kernel_rfl) _ _ _ _).mono ?_;rintro e w3 ⟨⟨o',rfl⟩,Ql⟩;have Qb:Below w2.heap.size w2 w3:=((Below.refl _ _).alloc (Nat.le_refl _) _).trans (Ql.mono (by simp));have M:c=false:=PY.out k I J.out;go_wp2_with fail
    go_ret;exact⟨⟨some o',rfl,M⟩,P7.out.below Qb,fun b e=>(by cases e;exact⟨_,o4 Q.out Qb,fun h=>absurd h (by rw[M];exact Bool.false_ne_true)⟩)⟩
  ·have Qs:¬(k:Int)<n:=by omega
   have M:Hid (c=true):=PX.out fun i hi=>O.out i (by omega);go_wp2_with fail
   go_ret;exact⟨⟨none,rfl,M.out⟩,N.out,fun b e=>(by cases e;exact⟨_,E.out,lE Qd.out H.out⟩)⟩
theorem DC(p:Pm)(g:Ge)(d:Bool)(G P:Value→Prop)(c:Bool)(m q O:Nat)(w:World)(R:aw p g w)(hK:bV m)(H:∀w,aw p g w→Plain w q)(hG:c=true→G (.iface m (.pointer (some ⟨q,0,none⟩))))(n cc:Nat)(a:Option Addr)(f ft fb:Nat→Nat)(ci:Nat→Bool)(hn:n≤1099511627776)(hc:p O 0=some (.slice a n cc))(hr:b9 p a n fun i=>ptr (f i))(hf:∀i,i<n→p (f i) 3=some (.iface (ft i) (.pointer (some ⟨fb i,0,none⟩))))(hI:∀i,i<n→f_ p g d G (fun y=>P y∨y=(.iface m (.pointer (some ⟨q,0,none⟩)))) (ci i) (.iface (ft i) (.pointer (some ⟨fb i,0,none⟩))))(S:(∀i,i<n→ci i=true)→c=true)(T:∀i,i<n→ci i=false→c=false)(hU:∀W:World,KW p W→cG W m q (.iface 167 (.pointer (some ⟨O,0,none⟩)))):
 Calls Tryz.prog 166 #[(.iface m (.pointer (some ⟨q,0,none⟩))),.bool d,.map none] w (i_ G c (fun _=>none) none w):=by
 have U:=an bE 167 O (by decide);have I:=an cT 167 O (by decide);have P5:=an eA 167 O (by decide);have Q:=bd dg O;have Qf:= @run_makeMap Tryz.prog;have B:=Lib.hid (dO hK (H w R));have Qg:=Lib.hid hG;have r:=Lib.hid (dO hK (w:=w.alloc (.map #[] 0)) ((H w R).below ((Below.refl _ _).alloc (Nat.le_refl _) _)));have P6:=Lib.hid R;obtain⟨K,fn,Qh,V,s,X,hm,Qi,t⟩:=eG hU R.kw;have Qj:=fun args w=>Go.MuLone.run_callFunc_enter V s X args w;have A:=Lib.hid t;clear V s X t;have Y:=Lib.hid (jC (fA Tryz.prog) w);have Qk:=kF;clear R hU hK H hG;go_enter Tryz.func166,Tryz.ntmps166;go_wp2_with (first|(at_lookup;refine jD _ rfl _ _ 281 rfl cd 4 Tryz.underlying281 (.bool false) dP rfl (.iface m (.pointer (some ⟨q,0,none⟩))) rfl B.out ?_)|(at_mapUpdate;refine eF _ rfl _ _ _ 281 rfl cd (fJ _) 4 Tryz.underlying281 w.heap.size (fun _=>none) rfl Y.out (.iface m (.pointer (some ⟨q,0,none⟩))) (.bool true) rfl rfl r.out ?_;intro w1 Z PM)|fail)
 have P7:Hid (cK w1 w.heap.size (bF (fun _=>none) (.iface m (.pointer (some ⟨q,0,none⟩))) (.bool true))):=⟨Z _ (fun y hy=>ba _ hy) (bX _ _ _),fun x v hv=>by
  by_cases e:x=(.iface m (.pointer (some ⟨q,0,none⟩)))
  ·rw[e,bX]at hv;cases hv;rfl
  ·rw[ba _ e]at hv;cases hv⟩
 have P8:Hid (∀y v,bF (fun _=>none) (.iface m (.pointer (some ⟨q,0,none⟩))) (.bool true) y=some v→(P y∨y=(.iface m (.pointer (some ⟨q,0,none⟩))))∨G y):=fun y v h=>by
  by_cases e:y=(.iface m (.pointer (some ⟨q,0,none⟩)))
  ·exact .inl (.inr e)
  ·rw[ba _ e]at h;cases h
 have J:Below w.heap.size w w1:=((Below.refl _ _).alloc (Nat.le_refl _) _).grown PM (by simp) fun k hk=>by cases hk;exact Nat.le_refl _
 have P9:Hid (Kept (fun k=>(none:Option Nat)=some k) w w1):=Kept.of J;have L:Hid (aw p g w1):=P6.out.below J;clear Z PM B r Y J;have c0:=L.out.kw _ _ _ hc;have P_:=Lib.hid hI;have Qa:=Lib.hid hr;have PN:=Lib.hid hf;have PO:=Lib.hid S;have PQ:=Lib.hid T;clear hI hr hf S T;go_wp2_with fail
 refine(A.out _ L.out.kw).mono ?_;rintro e w' ⟨rfl,rfl⟩;go_wp2_with fail
 go_loopw [51] (fun i wr=> ∃(k:Nat)(F':Value→Option Value),k≤n∧i= .int .i64 k∧Kept (fun k=>(none:Option Nat)=some k) w wr∧cK wr w.heap.size F'∧aw p g wr∧(∀j,j<k→ci j=true)∧(∀y v,F' y=some v→(bF (fun _=>none) (.iface m (.pointer (some ⟨q,0,none⟩))) (.bool true)) y=some v∨G y)) (fun i _=>n- (intOf i).toNat)
 case atStart=>exact⟨0,_,Nat.zero_le _,rfl,P9.out,P7.out,L.out,fun j hj=>absurd hj (Nat.not_lt_zero _),fun y v h=> .inl h⟩
 case round=>
  obtain⟨k,Fr,hk,rfl,PR,PS,PT,PU,PV⟩:=hrel;have C:=Lib.hid PR;have D:=Lib.hid PS;have l:=Lib.hid PT;have E:=Lib.hid PU;have F:=Lib.hid PV;clear PR PS PT PU PV;by_cases u:k<n
  ·have Qe:(k:Int)<n:=by omega
   obtain⟨ab,ao,rfl,PW⟩:=Qa.out k u;have d0:=l.out.kw _ _ _ PW;have d3:=l.out.kw _ _ _ (PN.out k u);clear PW;go_wp2_with fail
   refine(P_.out k u w.heap.size wr _ l.out D.out (v7 P8.out F.out)).mono ?_;rintro e w2 ⟨⟨o,rfl,PX⟩,M,PY⟩;have PZ:Hid (Kept (fun k=>(none:Option Nat)=some k) w w2):=C.out.trans M fun b hb e=>(by have e:=Option.some.inj e;omega)
   obtain⟨F2,P0,P1⟩:=PY w.heap.size rfl;have P2:=Lib.hid P0;have P3:=Lib.hid P1;have z:=Lib.hid PX;have P4:Hid (aw p g w2):=we l.out D.out M;have d4:=P4.out.kw _ _ _ (PN.out k u);clear M PY P0 P1 PX;cases o with
   |none=>
    go_wp2_with fail
    refine⟨⟨k+1,F2,by omega,by go_num,PZ.out,P2.out,P4.out,fun j hj=> ?_,v_ F.out (P3.out z.out)⟩,?_⟩
    ·by_cases Qb:j<k
     ·exact E.out j Qb
     ·obtain rfl:j=k:=by omega
      exact z.out
    ·first|omega|(simp[intOf];omega)
   |some o=>
    go_wp2_with fail
    refine(lD _ (by kernel_rfl) _ _ _ _).mono ?_;rintro e w3 ⟨⟨o',rfl⟩,Qc⟩;have Qd:Below w2.heap.size w2 w3:=((Below.refl _ _).alloc (Nat.le_refl _) _).trans (Qc.mono (by simp));have N:c=false:=PQ.out k u z.out;go_wp2_with fail
    go_ret;exact⟨⟨some o',rfl,N⟩,PZ.out.below Qd,fun b e=>(by cases e)⟩
  ·have Ql:¬(k:Int)<n:=by omega
   have N:Hid (c=true):=PO.out fun i hi=>E.out i (by omega);go_wp2_with fail
   go_ret;exact⟨⟨none,rfl,N.out⟩,C.out,fun b e=>(by cases e)⟩
theorem DD(p:Pm)(g:Ge)(d:Bool)(G P:Value→Prop)(c:Bool)(a f B:Nat)(hK:bV a)(J:∀w,aw p g w→Plain w f)(q:P (.iface a (.pointer (some ⟨f,0,none⟩)))∨G (.iface a (.pointer (some ⟨f,0,none⟩)))→c=true)(hG:c=true→G (.iface a (.pointer (some ⟨f,0,none⟩))))(et eb:Nat)(hc:p B 1=some (.iface et (.pointer (some ⟨eb,0,none⟩))))(hI:f_ p g d G (fun y=>P y∨y=(.iface a (.pointer (some ⟨f,0,none⟩)))) c (.iface et (.pointer (some ⟨eb,0,none⟩))))(hU:∀W:World,KW p W→cG W a f (.iface 138 (.pointer (some ⟨B,0,none⟩)))):
 f_ p g d G P c (.iface a (.pointer (some ⟨f,0,none⟩))):=by
 have L:=an bE 138 B (by decide);have C:=an cT 138 B (by decide);have PQ:=an eA 138 B (by decide);have I:=an dg 138 B (by decide);have M:=bd cS B;have PY:= @run_makeMap Tryz.prog;intro r w F hE hS hP;obtain⟨hM,hb⟩:=hS;have m:=Lib.hid hM;have s:=Lib.hid hb;have D:=Lib.hid hP;have PR:=Lib.hid hG;have i:=Lib.hid (dO hK (J w hE));have N:=Lib.hid hE;obtain⟨K,fn,PZ,O,t,Q,hm,P0,u⟩:=eG hU hE.kw;have P1:=fun args w=>Go.MuLone.run_callFunc_enter O t Q args w;have z:=Lib.hid u;clear O t Q u;have PS:Hid (¬Plain w r):=cK.jF ⟨hM,hb⟩;have P2:∀W,(binOp .eql 281 (.map (some r)) (.map none)).run Tryz.prog W= .ok (.bool false) W:=fun W=>kE r W;clear hM hb hE hU hK J hP hG;cases n:F (.iface a (.pointer (some ⟨f,0,none⟩)))with
 |some v=>
  have E:=s.out _ _ n;have PT:Hid (c=true):=q (D.out _ _ n);have j:Hid ((F (.iface a (.pointer (some ⟨f,0,none⟩)))).getD (.bool false)= .bool true):=by rw[n,E];rfl
  clear n E q;go_enter Tryz.func166,Tryz.ntmps166;go_wp2_with (first|(at_lookup;refine eE _ rfl _ _ 281 rfl cd 4 Tryz.underlying281 (.bool false) dP r F rfl m.out (.iface a (.pointer (some ⟨f,0,none⟩))) rfl i.out (.bool true) j.out ?_)|fail)
  go_ret;exact⟨⟨none,rfl,PT.out⟩,Kept.refl _ _,fun b e=>by cases e;exact⟨F,⟨m.out,s.out⟩,fun _ y v h=> .inl h⟩⟩
 |none=>
 have j:Hid ((F (.iface a (.pointer (some ⟨f,0,none⟩)))).getD (.bool false)= .bool false):=by rw[n];rfl
 clear n q;go_enter Tryz.func166,Tryz.ntmps166;go_wp2_with (first|(at_lookup;refine eE _ rfl _ _ 281 rfl cd 4 Tryz.underlying281 (.bool false) dP r F rfl m.out (.iface a (.pointer (some ⟨f,0,none⟩))) rfl i.out (.bool false) j.out ?_)|(at_mapUpdate;refine eF _ rfl _ _ _ 281 rfl cd (fJ _) 4 Tryz.underlying281 r F rfl m.out (.iface a (.pointer (some ⟨f,0,none⟩))) (.bool true) rfl rfl i.out ?_;intro w1 R S)|fail)
 have PU:Hid (cK w1 r (bF F (.iface a (.pointer (some ⟨f,0,none⟩))) (.bool true))):=⟨R _ (fun y hy=>ba F hy) (bX _ _ _),fun x v E=>by
  by_cases e:x=(.iface a (.pointer (some ⟨f,0,none⟩)))
  ·rw[e,bX]at E;cases E;rfl
  ·rw[ba F e]at E;exact s.out _ _ E⟩
 have PV:Hid (∀y v,bF F (.iface a (.pointer (some ⟨f,0,none⟩))) (.bool true) y=some v→(P y∨y=(.iface a (.pointer (some ⟨f,0,none⟩))))∨G y):=fun y v h=>by
  by_cases e:y=(.iface a (.pointer (some ⟨f,0,none⟩)))
  ·exact .inl (.inr e)
  ·rw[ba F e]at h;exact(D.out y v h).imp .inl id
 have T:Hid (Kept (fun k=>some r=some k) w w1):=(Kept.refl _ _).grown S fun k hk _=>hk;have H:Hid (aw p g w1):=N.out.kept T.out (fun b e=>by cases e;exact PS.out) (fun e=>by
  cases e;have h:=N.out.cap 65 (by decide) (by decide);exact jG ⟨m.out,s.out⟩ h)
 clear R S i m j D s;have c0:=H.out.kw _ _ _ hc;have PW:=Lib.hid hI;clear hI;go_wp2_with fail
 refine(z.out _ H.out.kw).mono ?_;rintro e w' ⟨rfl,rfl⟩;go_wp2_with fail
 refine(PW.out r w1 _ H.out PU.out PV.out).mono ?_;rintro e w2 ⟨⟨o,rfl,U⟩,V,X⟩;have Y:Hid (Kept (fun k=>some r=some k) w w2):=T.out.trans V fun b hb e=>e;obtain⟨F2,Z,PM⟩:=X r rfl;have A:=Lib.hid Z;have PN:=Lib.hid PM;have l:=Lib.hid U;clear V X Z PM U;cases o with
 |none=>
  go_wp2_with fail
  go_ret;exact⟨⟨none,rfl,l.out⟩,Y.out,fun b e=>(by cases e;exact⟨_,A.out,lE PR.out (PN.out l.out)⟩)⟩
 |some o=>
  go_wp2_with fail
  refine(lD _ (by kernel_rfl) _ _ _ _).mono ?_;rintro e w3 ⟨⟨o',rfl⟩,PX⟩;have PO:Below w2.heap.size w2 w3:=((Below.refl _ _).alloc (Nat.le_refl _) _).trans (PX.mono (by simp));go_wp2_with fail
  go_ret;exact⟨⟨some o',rfl,l.out⟩,Y.out.below PO,fun b e=>(by cases e;exact⟨_,o4 A.out PO,fun h=>absurd h (by rw[l.out];exact Bool.false_ne_true)⟩)⟩
theorem DE(p:Pm)(g:Ge)(d:Bool)(G P:Value→Prop)(c:Bool)(a f r:Nat)(w:World)(B:aw p g w)(V:bV a)(s:∀w,aw p g w→Plain w f)(hG:c=true→G (.iface a (.pointer (some ⟨f,0,none⟩))))(et eb:Nat)(hc:p r 1=some (.iface et (.pointer (some ⟨eb,0,none⟩))))(hI:f_ p g d G (fun y=>P y∨y=(.iface a (.pointer (some ⟨f,0,none⟩)))) c (.iface et (.pointer (some ⟨eb,0,none⟩))))(hU:∀W:World,KW p W→cG W a f (.iface 138 (.pointer (some ⟨r,0,none⟩)))):
 Calls Tryz.prog 166 #[(.iface a (.pointer (some ⟨f,0,none⟩))),.bool d,.map none] w (i_ G c (fun _=>none) none w):=by
 have C:=an bE 138 r (by decide);have t:=an cT 138 r (by decide);have T:=an eA 138 r (by decide);have A:=an dg 138 r (by decide);have D:=bd cS r;have PT:= @run_makeMap Tryz.prog;have n:=Lib.hid (dO V (s w B));have PU:=Lib.hid hG;have i:=Lib.hid (dO V (w:=w.alloc (.map #[] 0)) ((s w B).below ((Below.refl _ _).alloc (Nat.le_refl _) _)));have X:=Lib.hid B;obtain⟨K,fn,PV,E,j,F,hm,PW,l⟩:=eG hU B.kw;have PX:=fun args w=>Go.MuLone.run_callFunc_enter E j F args w;have m:=Lib.hid l;clear E j F l;have H:=Lib.hid (jC (fA Tryz.prog) w);have PY:=kF;clear B hU V s hG;go_enter Tryz.func166,Tryz.ntmps166;go_wp2_with (first|(at_lookup;refine jD _ rfl _ _ 281 rfl cd 4 Tryz.underlying281 (.bool false) dP rfl (.iface a (.pointer (some ⟨f,0,none⟩))) rfl n.out ?_)|(at_mapUpdate;refine eF _ rfl _ _ _ 281 rfl cd (fJ _) 4 Tryz.underlying281 w.heap.size (fun _=>none) rfl H.out (.iface a (.pointer (some ⟨f,0,none⟩))) (.bool true) rfl rfl i.out ?_;intro I J L)|fail)
 have Y:Hid (cK I w.heap.size (bF (fun _=>none) (.iface a (.pointer (some ⟨f,0,none⟩))) (.bool true))):=⟨J _ (fun y hy=>ba _ hy) (bX _ _ _),fun x v U=>by
  by_cases e:x=(.iface a (.pointer (some ⟨f,0,none⟩)))
  ·rw[e,bX]at U;cases U;rfl
  ·rw[ba _ e]at U;cases U⟩
 have Z:Hid (∀y v,bF (fun _=>none) (.iface a (.pointer (some ⟨f,0,none⟩))) (.bool true) y=some v→(P y∨y=(.iface a (.pointer (some ⟨f,0,none⟩))))∨G y):=fun y v h=>by
  by_cases e:y=(.iface a (.pointer (some ⟨f,0,none⟩)))
  ·exact .inl (.inr e)
  ·rw[ba _ e]at h;cases h
 have u:Below w.heap.size w I:=((Below.refl _ _).alloc (Nat.le_refl _) _).grown L (by simp) fun k hk=>by cases hk;exact Nat.le_refl _
 have PM:Hid (Kept (fun k=>(none:Option Nat)=some k) w I):=Kept.of u;have z:Hid (aw p g I):=X.out.below u;clear J L n i H u;have c0:=z.out.kw _ _ _ hc;have PN:=Lib.hid hI;clear hI;go_wp2_with fail
 refine(m.out _ z.out.kw).mono ?_;rintro e w' ⟨rfl,rfl⟩;go_wp2_with fail
 refine(PN.out w.heap.size I _ z.out Y.out Z.out).mono ?_;rintro e w2 ⟨⟨o,rfl,M⟩,N,O⟩;have Q:Hid (Kept (fun k=>(none:Option Nat)=some k) w w2):=PM.out.trans N fun b hb e=>(by have e:=Option.some.inj e;omega)
 obtain⟨F2,R,S⟩:=O w.heap.size rfl;have PR:=Lib.hid R;have PS:=Lib.hid S;have q:=Lib.hid M;clear N O R S M;cases o with
 |none=>
  go_wp2_with fail
  go_ret;exact⟨⟨none,rfl,q.out⟩,Q.out,fun b e=>(by cases e)⟩
 |some o=>
  go_wp2_with fail
  refine(lD _ (by kernel_rfl) _ _ _ _).mono ?_;rintro e w3 ⟨⟨o',rfl⟩,PO⟩;have PQ:Below w2.heap.size w2 w3:=((Below.refl _ _).alloc (Nat.le_refl _) _).trans (PO.mono (by simp));go_wp2_with fail
  go_ret;exact⟨⟨some o',rfl,q.out⟩,Q.out.below PQ,fun b e=>(by cases e)⟩
theorem DF(p:Pm)(g:Ge)(d:Bool)(G P:Value→Prop)(c:Bool)(f j t:Nat)(hK:bV f)(O:∀w,aw p g w→Plain w j)(u:P (.iface f (.pointer (some ⟨j,0,none⟩)))∨G (.iface f (.pointer (some ⟨j,0,none⟩)))→c=true)(hG:c=true→G (.iface f (.pointer (some ⟨j,0,none⟩))))(tb tc:Nat)(ta:Option Addr)(Q:Nat→Nat)(hc:p t 0=some (.pointer none))(h6:p t 6=some (ptr tb))(h2:p tb 2=some (.slice ta 1 tc))(h3:p tb 3=some (.bool false))(PT:b9 p ta 1 fun i=>ptr (Q i))(PU:p (Q 0) 1=some .nilIface)(R:∀W,KW p W→Calls Tryz.prog 126 #[(.iface f (.pointer (some ⟨j,0,none⟩)))] W fun e w'=>e= .returned (.bool false)∧W=w')(H:c=d)(hU:∀W:World,KW p W→cG W f j (.iface 44 (.pointer (some ⟨t,0,none⟩)))):
 f_ p g d G P c (.iface f (.pointer (some ⟨j,0,none⟩))):=by
 have S:=an bE 44 t (by decide);have I:=an cT 44 t (by decide);have PS:=an eA 44 t (by decide);have N:=an dg 44 t (by decide);have T:=an cS 44 t (by decide);have C:=bd dZ t;have PZ:= @run_makeMap Tryz.prog;intro D w F hE hS hP;obtain⟨hM,hb⟩:=hS;have q:=Lib.hid hM;have z:=Lib.hid hb;have J:=Lib.hid hP;have PV:=Lib.hid hG;have l:=Lib.hid (dO hK (O w hE));have U:=Lib.hid hE;obtain⟨K,fn,P0,V,A,X,hm,P1,B⟩:=eG hU hE.kw;have P2:=fun args w=>Go.MuLone.run_callFunc_enter V A X args w;have m:=Lib.hid B;clear V A X B;have PW:Hid (¬Plain w D):=cK.jF ⟨hM,hb⟩;have P3:∀W,(binOp .eql 281 (.map (some D)) (.map none)).run Tryz.prog W= .ok (.bool false) W:=fun W=>kE D W;clear hM hb hE hU hK O hP hG;cases r:F (.iface f (.pointer (some ⟨j,0,none⟩)))with
 |some v=>
  have L:=z.out _ _ r;have PX:Hid (c=true):=u (J.out _ _ r);have n:Hid ((F (.iface f (.pointer (some ⟨j,0,none⟩)))).getD (.bool false)= .bool true):=by rw[r,L];rfl
  clear r L u;go_enter Tryz.func166,Tryz.ntmps166;go_wp2_with (first|(at_lookup;refine eE _ rfl _ _ 281 rfl cd 4 Tryz.underlying281 (.bool false) dP D F rfl q.out (.iface f (.pointer (some ⟨j,0,none⟩))) rfl l.out (.bool true) n.out ?_)|fail)
  go_ret;exact⟨⟨none,rfl,PX.out⟩,Kept.refl _ _,fun b e=>by cases e;exact⟨F,⟨q.out,z.out⟩,fun _ y v h=> .inl h⟩⟩
 |none=>
 have n:Hid ((F (.iface f (.pointer (some ⟨j,0,none⟩)))).getD (.bool false)= .bool false):=by rw[r];rfl
 clear r u;go_enter Tryz.func166,Tryz.ntmps166;go_wp2_with (first|(at_lookup;refine eE _ rfl _ _ 281 rfl cd 4 Tryz.underlying281 (.bool false) dP D F rfl q.out (.iface f (.pointer (some ⟨j,0,none⟩))) rfl l.out (.bool false) n.out ?_)|(at_mapUpdate;refine eF _ rfl _ _ _ 281 rfl cd (fJ _) 4 Tryz.underlying281 D F rfl q.out (.iface f (.pointer (some ⟨j,0,none⟩))) (.bool true) rfl rfl l.out ?_;intro w1 Y Z)|fail)
 have PM:Hid (cK w1 D (bF F (.iface f (.pointer (some ⟨j,0,none⟩))) (.bool true))):=⟨Y _ (fun y hy=>ba F hy) (bX _ _ _),fun x v L=>by
  by_cases e:x=(.iface f (.pointer (some ⟨j,0,none⟩)))
  ·rw[e,bX]at L;cases L;rfl
  ·rw[ba F e]at L;exact z.out _ _ L⟩
 have P4:Hid (∀y v,bF F (.iface f (.pointer (some ⟨j,0,none⟩))) (.bool true) y=some v→(P y∨y=(.iface f (.pointer (some ⟨j,0,none⟩))))∨G y):=fun y v h=>by
  by_cases e:y=(.iface f (.pointer (some ⟨j,0,none⟩)))
  ·exact .inl (.inr e)
  ·rw[ba F e]at h;exact(J.out y v h).imp .inl id
 have M:Hid (Kept (fun k=>some D=some k) w w1):=(Kept.refl _ _).grown Z fun k hk _=>hk;have a:Hid (aw p g w1):=U.out.kept M.out (fun b e=>by cases e;exact PW.out) (fun e=>by
  cases e;have h:=U.out.cap 65 (by decide) (by decide);exact jG ⟨q.out,z.out⟩ h)
 clear Y Z l q n J z;have c0:=a.out.kw _ _ _ hc;have c6:=a.out.kw _ _ _ h6;have c2:=a.out.kw _ _ _ h2;have c3:=a.out.kw _ _ _ h3;have ct:=a.out.kw _ _ _ PU;have PN:=Lib.hid (eX PT a.out.kw);have PO:=Lib.hid R;clear R;cases d with
 |true=>
  go_wp2_with fail
  refine(m.out _ a.out.kw).mono ?_;rintro e w' ⟨rfl,rfl⟩;go_wp2_with fail
  refine(PO.out _ a.out.kw).mono ?_;rintro e w' ⟨rfl,rfl⟩;go_wp2_with fail
  go_ret;exact⟨⟨none,rfl,H⟩,M.out,fun b e=>(by cases e;exact⟨_,PM.out,lE PV.out fun y v h=> .inl h⟩)⟩
 |false=>
 go_wp2_with fail
 refine(m.out _ a.out.kw).mono ?_;rintro e w' ⟨rfl,rfl⟩;go_wp2_with fail
 refine(kB t tb _ c0 c6).mono ?_;rintro e w2 ⟨rfl,rfl⟩;go_wp2_with fail
 refine(vY tb 1 tc ta Q false _ c2 c3 PN.out Nat.one_pos ct (some D)).mono ?_;rintro e w2 ⟨rfl,s⟩;have f0:=ar s c0;have f6:=ar s c6;have f2:=ar s c2;have PQ:Hid (bw w2 ta 1 Q):=fun i hi=>let⟨b,o,e,hc⟩:=PN.out i hi;⟨b,o,e,ar s hc⟩;have E:=Lib.hid s;clear s;go_wp2_with fail
 refine(kB t tb _ f0 f6).mono ?_;rintro e w3 ⟨rfl,rfl⟩;go_wp2_with fail
 refine(vZ tb 1 tc ta Q _ f2 PQ.out).mono ?_;rintro e w3 ⟨rfl,rfl⟩;go_wp2_with fail
 refine(lD _ (by kernel_rfl) _ _ _ _).mono ?_;rintro e w3 ⟨⟨o',rfl⟩,PY⟩;have PR:=E.out.trans (PY.mono E.out.size);go_wp2_with fail
 go_ret;exact⟨⟨some o',rfl,H⟩,M.out.below PR,fun b e=>(by cases e;exact⟨_,o4 PM.out PR,fun h=>absurd h (by rw[H];exact Bool.false_ne_true)⟩)⟩
theorem DG(p:Pm)(g:Ge)(d:Bool)(G P:Value→Prop)(c:Bool)(l m n:Nat)(w:World)(E:aw p g w)(hK:bV l)(A:∀w,aw p g w→Plain w m)(hG:c=true→G (.iface l (.pointer (some ⟨m,0,none⟩))))(tb tc:Nat)(ta:Option Addr)(F:Nat→Nat)(hc:p n 0=some (.pointer none))(h6:p n 6=some (ptr tb))(h2:p tb 2=some (.slice ta 1 tc))(h3:p tb 3=some (.bool false))(PM:b9 p ta 1 fun i=>ptr (F i))(PN:p (F 0) 1=some .nilIface)(H:∀W,KW p W→Calls Tryz.prog 126 #[(.iface l (.pointer (some ⟨m,0,none⟩)))] W fun e X=>e= .returned (.bool false)∧W=X)(I:c=d)(hU:∀W:World,KW p W→cG W l m (.iface 44 (.pointer (some ⟨n,0,none⟩)))):
 Calls Tryz.prog 166 #[(.iface l (.pointer (some ⟨m,0,none⟩))),.bool d,.map none] w (i_ G c (fun _=>none) none w):=by
 have J:=an bE 44 n (by decide);have B:=an cT 44 n (by decide);have Y:=an eA 44 n (by decide);have D:=an dg 44 n (by decide);have L:=an cS 44 n (by decide);have t:=bd dZ n;have PS:= @run_makeMap Tryz.prog;have u:=Lib.hid (dO hK (A w E));have PT:=Lib.hid hG;have q:=Lib.hid (dO hK (w:=w.alloc (.map #[] 0)) ((A w E).below ((Below.refl _ _).alloc (Nat.le_refl _) _)));have PO:=Lib.hid E;obtain⟨K,fn,PU,M,r,N,hm,PV,s⟩:=eG hU E.kw;have PW:=fun args w=>Go.MuLone.run_callFunc_enter M r N args w;have f:=Lib.hid s;clear M r N s;have O:=Lib.hid (jC (fA Tryz.prog) w);have PX:=kF;clear E hU hK A hG;go_enter Tryz.func166,Tryz.ntmps166;go_wp2_with (first|(at_lookup;refine jD _ rfl _ _ 281 rfl cd 4 Tryz.underlying281 (.bool false) dP rfl (.iface l (.pointer (some ⟨m,0,none⟩))) rfl u.out ?_)|(at_mapUpdate;refine eF _ rfl _ _ _ 281 rfl cd (fJ _) 4 Tryz.underlying281 w.heap.size (fun _=>none) rfl O.out (.iface l (.pointer (some ⟨m,0,none⟩))) (.bool true) rfl rfl q.out ?_;intro Z Q R)|fail)
 have PY:Hid (cK Z w.heap.size (bF (fun _=>none) (.iface l (.pointer (some ⟨m,0,none⟩))) (.bool true))):=⟨Q _ (fun y hy=>ba _ hy) (bX _ _ _),fun x v hv=>by
  by_cases e:x=(.iface l (.pointer (some ⟨m,0,none⟩)))
  ·rw[e,bX]at hv;cases hv;rfl
  ·rw[ba _ e]at hv;cases hv⟩
 have PZ:Hid (∀y v,bF (fun _=>none) (.iface l (.pointer (some ⟨m,0,none⟩))) (.bool true) y=some v→(P y∨y=(.iface l (.pointer (some ⟨m,0,none⟩))))∨G y):=fun y v h=>by
  by_cases e:y=(.iface l (.pointer (some ⟨m,0,none⟩)))
  ·exact .inl (.inr e)
  ·rw[ba _ e]at h;cases h
 have C:Below w.heap.size w Z:=((Below.refl _ _).alloc (Nat.le_refl _) _).grown R (by simp) fun k hk=>by cases hk;exact Nat.le_refl _
 have S:Hid (Kept (fun k=>(none:Option Nat)=some k) w Z):=Kept.of C;have a:Hid (aw p g Z):=PO.out.below C;clear Q R u q O C;have c0:=a.out.kw _ _ _ hc;have c6:=a.out.kw _ _ _ h6;have c2:=a.out.kw _ _ _ h2;have c3:=a.out.kw _ _ _ h3;have ct:=a.out.kw _ _ _ PN;have T:=Lib.hid (eX PM a.out.kw);have U:=Lib.hid H;clear H;cases d with
 |true=>
  go_wp2_with fail
  refine(f.out _ a.out.kw).mono ?_;rintro e X ⟨rfl,rfl⟩;go_wp2_with fail
  refine(U.out _ a.out.kw).mono ?_;rintro e X ⟨rfl,rfl⟩;go_wp2_with fail
  go_ret;exact⟨⟨none,rfl,I⟩,S.out,fun b e=>(by cases e)⟩
 |false=>
 go_wp2_with fail
 refine(f.out _ a.out.kw).mono ?_;rintro e X ⟨rfl,rfl⟩;go_wp2_with fail
 refine(kB n tb _ c0 c6).mono ?_;rintro e w2 ⟨rfl,rfl⟩;go_wp2_with fail
 refine(vY tb 1 tc ta F false _ c2 c3 T.out Nat.one_pos ct (some w.heap.size)).mono ?_;rintro e w2 ⟨rfl,j⟩;have f0:=ar j c0;have f6:=ar j c6;have f2:=ar j c2;have V:Hid (bw w2 ta 1 F):=fun i hi=>let⟨b,o,e,hc⟩:=T.out i hi;⟨b,o,e,ar j hc⟩;have z:=Lib.hid j;clear j;go_wp2_with fail
 refine(kB n tb _ f0 f6).mono ?_;rintro e w3 ⟨rfl,rfl⟩;go_wp2_with fail
 refine(vZ tb 1 tc ta F _ f2 V.out).mono ?_;rintro e w3 ⟨rfl,rfl⟩;go_wp2_with fail
 refine(lD _ (by kernel_rfl) _ _ _ _).mono ?_;rintro e w3 ⟨⟨o',rfl⟩,PQ⟩;have PR:=z.out.trans (PQ.mono z.out.size);go_wp2_with fail
 go_ret;exact⟨⟨some o',rfl,I⟩,S.out.below PR,fun b e=>(by cases e)⟩
theorem re(p:Pm)(g:Ge)(d:Bool)(G P:Value→Prop)(c:Bool)(f i I:Nat)(hK:bV f)(O:∀w,aw p g w→Plain w i)(s:P (.iface f (.pointer (some ⟨i,0,none⟩)))∨G (.iface f (.pointer (some ⟨i,0,none⟩)))→c=true)(hG:c=true→G (.iface f (.pointer (some ⟨i,0,none⟩))))(rt:Nat)(t:rt≠99)(j:rt≠142)(C:rt≠146)(n:rt≠167)(u:rt≠138)(a:rt≠44)(Q:c=false)(hU:∀W:World,KW p W→cG W f i (.iface rt (.pointer (some ⟨I,0,none⟩)))):
 f_ p g d G P c (.iface f (.pointer (some ⟨i,0,none⟩))):=by
 have R:=an bE rt I (t);have J:=an cT rt I (j);have PN:=an eA rt I (C);have N:=an dg rt I (n);have S:=an cS rt I (u);have D:=an dZ rt I (a);have PT:= @run_makeMap Tryz.prog;intro H w F hE hS hP;obtain⟨hM,hb⟩:=hS;have q:=Lib.hid hM;have z:=Lib.hid hb;have L:=Lib.hid hP;have PU:=Lib.hid hG;have l:=Lib.hid (dO hK (O w hE));have T:=Lib.hid hE;obtain⟨K,fn,PV,U,A,V,hm,PW,B⟩:=eG hU hE.kw;have PX:=fun args w=>Go.MuLone.run_callFunc_enter U A V args w;have E:=Lib.hid B;clear U A V B;have PO:Hid (¬Plain w H):=cK.jF ⟨hM,hb⟩;have PY:∀W,(binOp .eql 281 (.map (some H)) (.map none)).run Tryz.prog W= .ok (.bool false) W:=fun W=>kE H W;clear hM hb hE hU hK O hP hG;cases r:F (.iface f (.pointer (some ⟨i,0,none⟩)))with
 |some v=>
  have M:=z.out _ _ r;have PQ:Hid (c=true):=s (L.out _ _ r);have m:Hid ((F (.iface f (.pointer (some ⟨i,0,none⟩)))).getD (.bool false)= .bool true):=by rw[r,M];rfl
  clear r M s;go_enter Tryz.func166,Tryz.ntmps166;go_wp2_with (first|(at_lookup;refine eE _ rfl _ _ 281 rfl cd 4 Tryz.underlying281 (.bool false) dP H F rfl q.out (.iface f (.pointer (some ⟨i,0,none⟩))) rfl l.out (.bool true) m.out ?_)|fail)
  go_ret;exact⟨⟨none,rfl,PQ.out⟩,Kept.refl _ _,fun b e=>by cases e;exact⟨F,⟨q.out,z.out⟩,fun _ y v h=> .inl h⟩⟩
 |none=>
 have m:Hid ((F (.iface f (.pointer (some ⟨i,0,none⟩)))).getD (.bool false)= .bool false):=by rw[r];rfl
 clear r s;go_enter Tryz.func166,Tryz.ntmps166;go_wp2_with (first|(at_lookup;refine eE _ rfl _ _ 281 rfl cd 4 Tryz.underlying281 (.bool false) dP H F rfl q.out (.iface f (.pointer (some ⟨i,0,none⟩))) rfl l.out (.bool false) m.out ?_)|(at_mapUpdate;refine eF _ rfl _ _ _ 281 rfl cd (fJ _) 4 Tryz.underlying281 H F rfl q.out (.iface f (.pointer (some ⟨i,0,none⟩))) (.bool true) rfl rfl l.out ?_;intro w1 X Y)|fail)
 have PR:Hid (cK w1 H (bF F (.iface f (.pointer (some ⟨i,0,none⟩))) (.bool true))):=⟨X _ (fun y hy=>ba F hy) (bX _ _ _),fun x v M=>by
  by_cases e:x=(.iface f (.pointer (some ⟨i,0,none⟩)))
  ·rw[e,bX]at M;cases M;rfl
  ·rw[ba F e]at M;exact z.out _ _ M⟩
 have PZ:Hid (∀y v,bF F (.iface f (.pointer (some ⟨i,0,none⟩))) (.bool true) y=some v→(P y∨y=(.iface f (.pointer (some ⟨i,0,none⟩))))∨G y):=fun y v h=>by
  by_cases e:y=(.iface f (.pointer (some ⟨i,0,none⟩)))
  ·exact .inl (.inr e)
  ·rw[ba F e]at h;exact(L.out y v h).imp .inl id
 have Z:Hid (Kept (fun k=>some H=some k) w w1):=(Kept.refl _ _).grown Y fun k hk _=>hk;have PS:Hid (aw p g w1):=T.out.kept Z.out (fun b e=>by cases e;exact PO.out) (fun e=>by
  cases e;have h:=T.out.cap 65 (by decide) (by decide);exact jG ⟨q.out,z.out⟩ h)
 clear X Y l q m L z;go_wp2_with fail
 refine(E.out _ PS.out.kw).mono ?_;rintro e w' ⟨rfl,rfl⟩;go_wp2_with fail
 refine(vX _ _ _ _).mono ?_;rintro e w2 ⟨⟨o,rfl⟩,PM⟩;go_wp2_with fail
 go_ret;exact⟨⟨some o,rfl,Q⟩,Z.out.below PM,fun b e=>(by cases e;exact⟨_,o4 PR.out PM,fun h=>absurd h (by rw[Q];exact Bool.false_ne_true)⟩)⟩
theorem rh(p:Pm)(g:Ge)(d:Bool)(G P:Value→Prop)(c:Bool)(j l B:Nat)(w:World)(H:aw p g w)(U:bV j)(C:∀w,aw p g w→Plain w l)(hG:c=true→G (.iface j (.pointer (some ⟨l,0,none⟩))))(rt:Nat)(m:rt≠99)(f:rt≠142)(t:rt≠146)(i:rt≠167)(n:rt≠138)(a:rt≠44)(V:c=false)(hU:∀W:World,KW p W→cG W j l (.iface rt (.pointer (some ⟨B,0,none⟩)))):
 Calls Tryz.prog 166 #[(.iface j (.pointer (some ⟨l,0,none⟩))),.bool d,.map none] w (i_ G c (fun _=>none) none w):=by
 have I:=an bE rt B (m);have D:=an cT rt B (f);have R:=an eA rt B (t);have F:=an dg rt B (i);have J:=an cS rt B (n);have u:=an dZ rt B (a);have PN:= @run_makeMap Tryz.prog;have A:=Lib.hid (dO U (C w H));have PO:=Lib.hid hG;have q:=Lib.hid (dO U (w:=w.alloc (.map #[] 0)) ((C w H).below ((Below.refl _ _).alloc (Nat.le_refl _) _)));have X:=Lib.hid H;obtain⟨K,fn,PQ,L,r,M,hm,PR,s⟩:=eG hU H.kw;have PS:=fun args w=>Go.MuLone.run_callFunc_enter L r M args w;have z:=Lib.hid s;clear L r M s;have N:=Lib.hid (jC (fA Tryz.prog) w);have PT:=kF;clear H hU U C hG;go_enter Tryz.func166,Tryz.ntmps166;go_wp2_with (first|(at_lookup;refine jD _ rfl _ _ 281 rfl cd 4 Tryz.underlying281 (.bool false) dP rfl (.iface j (.pointer (some ⟨l,0,none⟩))) rfl A.out ?_)|(at_mapUpdate;refine eF _ rfl _ _ _ 281 rfl cd (fJ _) 4 Tryz.underlying281 w.heap.size (fun _=>none) rfl N.out (.iface j (.pointer (some ⟨l,0,none⟩))) (.bool true) rfl rfl q.out ?_;intro S O Q)|fail)
 have PU:Hid (cK S w.heap.size (bF (fun _=>none) (.iface j (.pointer (some ⟨l,0,none⟩))) (.bool true))):=⟨O _ (fun y hy=>ba _ hy) (bX _ _ _),fun x v T=>by
  by_cases e:x=(.iface j (.pointer (some ⟨l,0,none⟩)))
  ·rw[e,bX]at T;cases T;rfl
  ·rw[ba _ e]at T;cases T⟩
 have PV:Hid (∀y v,bF (fun _=>none) (.iface j (.pointer (some ⟨l,0,none⟩))) (.bool true) y=some v→(P y∨y=(.iface j (.pointer (some ⟨l,0,none⟩))))∨G y):=fun y v h=>by
  by_cases e:y=(.iface j (.pointer (some ⟨l,0,none⟩)))
  ·exact .inl (.inr e)
  ·rw[ba _ e]at h;cases h
 have E:Below w.heap.size w S:=((Below.refl _ _).alloc (Nat.le_refl _) _).grown Q (by simp) fun k hk=>by cases hk;exact Nat.le_refl _
 have Y:Hid (Kept (fun k=>(none:Option Nat)=some k) w S):=Kept.of E;have Z:Hid (aw p g S):=X.out.below E;clear O Q A q N E;go_wp2_with fail
 refine(z.out _ Z.out.kw).mono ?_;rintro e w' ⟨rfl,rfl⟩;go_wp2_with fail
 refine(vX _ _ _ _).mono ?_;rintro e w2 ⟨⟨o,rfl⟩,PM⟩;go_wp2_with fail
 go_ret;exact⟨⟨some o,rfl,V⟩,Y.out.below PM,fun b e=>(by cases e)⟩
end Go.Proofs.YtdkmnkjhhhmglaaGreatDoor
