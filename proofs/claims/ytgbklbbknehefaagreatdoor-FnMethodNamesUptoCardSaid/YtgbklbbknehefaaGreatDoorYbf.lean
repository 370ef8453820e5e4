import Derived.Test.YtgbklbbknehefaaGreatDoorYbd
set_option maxRecDepth 100000
set_option maxHeartbeats 8000000
set_option linter.all false
namespace Go.Proofs.YtgbklbbknehefaaGreatDoor
open Go.RowKit TS
def b_(w:World)(a:Nat)(F:Value→Option Value):Prop:=bT (eu Tryz.prog) w a F∧∀x v,F x=some v→v= .bool true
def gQ(G:Value→Prop)(c:Bool)(F:Value→Option Value)(m:Option Nat)(w:World)(e:Ending)(a:World):Prop:=
 (∃o,e= .returned (.pointer o)∧c=o.isNone)∧Kept (fun k=>m=some k) w a∧∀b,m=some b→∃d,b_ a b d∧(c=true→∀y v,d y=some v→F y=some v∨G y)
def e_(p:Pm)(g:Ge)(d:Bool)(G P:Value→Prop)(c:Bool)(x:Value):Prop:=∀(a:Nat)(w:World)(F:Value→Option Value),an p g w→b_ w a F→(∀y v,F y=some v→P y∨G y)→Calls Tryz.prog 149 #[x,.bool d,.map (some a)] w (gQ G c F (some a) w)
theorem sJ{G P:Value→Prop}{F a:Value→Option Value}{x:Value}(h1:∀y v,F y=some v→(P y∨y=x)∨G y)(h2:∀y v,a y=some v→F y=some v∨G y):∀y v,a y=some v→(P y∨y=x)∨G y:=fun y v h=>(h2 y v h).elim (h1 y v) .inr
theorem jR{G:Value→Prop}{F a:Value→Option Value}{x:Value}{c:Bool}(b:c=true→G x)(h2:∀y v,a y=some v→bp F x (.bool true) y=some v∨G y):c=true→∀y v,a y=some v→F y=some v∨G y:=fun d y v h=>by
 rcases h2 y v h with h|h
 ·by_cases e:y=x
  ·subst e;exact .inr (b d)
  ·rw[a7 F e]at h;exact .inl h
 ·exact .inr h
theorem sK{G:Value→Prop}{F b a:Value→Option Value}(h1:∀y v,b y=some v→F y=some v∨G y)(h2:∀y v,a y=some v→b y=some v∨G y):∀y v,a y=some v→F y=some v∨G y:=fun y v h=>(h2 y v h).elim (h1 y v) .inr
theorem b_.iB{w:World}{b:Nat}{F:Value→Option Value}(h:b_ w b F):¬Plain w b:=by
 obtain⟨⟨es,c,a,_⟩,_⟩:=h;rintro⟨cs,T,h⟩;rw[a]at h;cases h
theorem jl(a:Nat)(w:World):(binOp .eql 275 (.map (some a)) (.map none)).run Tryz.prog w= .ok (.bool false) w:=by kernel_rfl
theorem jm(w:World):(binOp .eql 275 (.map none) (.map none)).run Tryz.prog w= .ok (.bool true) w:=by kernel_rfl
theorem iC{w:World}{b o:Nat}{v:Value}{F:Value→Option Value}(a:b_ w b F)(h:w.cell? ⟨b,o,none⟩=some v):False:=by
 obtain⟨⟨es,c,d,_⟩,_⟩:=a;simp[World.cell?,d]at h
theorem dO{p:Pm}{t b:Nat}{r:Value}{w:World}(h:∀W:World,KW p W→b8 W t b r)(hw:KW p w):∃K fn c,Tryz.prog.funcs[K]?=some fn∧(fn.name== "runtime.NumGoroutine")=false∧fn.body=some c∧(∀W:World,(method 480 t (.pointer (some ⟨b,0,none⟩)) "Underlying").run Tryz.prog W= .ok (K,.pointer (some ⟨b,0,none⟩)) W)∧
 (∀W:World,(nilAhead 480 t (.pointer (some ⟨b,0,none⟩)) "Underlying").run Tryz.prog W= .ok (some false) W)∧∀W:World,KW p W→Calls Tryz.prog K #[.pointer (some ⟨b,0,none⟩)] W fun e d=>e= .returned r∧W=d:=by
 obtain⟨K,fn,c,h1,h2,h3,a,f,_⟩:=h w hw;refine⟨K,fn,c,h1,h2,h3,a,f,fun W g=> ?_⟩;obtain⟨i,j,c',_,_,_,k,_,l⟩:=h W g;have e:=a W;rw[k W]at e;have:i=K:=by injection e with e;injection e
 rw[←this];exact l
theorem mD{w a:World}{b:Nat}{F:Value→Option Value}(h:b_ w b F)(k:Below w.heap.size w a):b_ a b F:=by
 obtain⟨hM,c⟩:=h;refine⟨hM.of (k.block b hM.lt) fun v d=> ?_,c⟩;exact AP (Kept.of (X:=fun _=>False) k) (fun _ h=>h.elim) d
theorem sL{p:Pm}{g:Ge}{w a:World}{c:Nat}{F:Value→Option Value}(d:an p g w)(f:b_ w c F)(k:Kept (fun k=>some c=some k) w a):an p g a:=
 d.kept k (fun b e=>by cases e;exact f.iB) fun e=>by
  cases e;exact iC f (d.cap 65 (by decide) (by decide))
theorem AR(p:Pm)(g:Ge)(d:Bool)(G P:Value→Prop)(c:Bool)(a f M:Nat)(X:bM a)(A:∀w,an p g w→Plain w f)(n:P (.iface a (.pointer (some ⟨f,0,none⟩)))∨G (.iface a (.pointer (some ⟨f,0,none⟩)))→c=true)(Y:c=true→G (.iface a (.pointer (some ⟨f,0,none⟩))))(k:Int)(hc:p M 0=some (.int .i64 k))(Z:(k==25)=false)(O:c=true)(hU:∀W:World,KW p W→b8 W a f (.iface 105 (.pointer (some ⟨M,0,none⟩)))):
 e_ p g d G P c (.iface a (.pointer (some ⟨f,0,none⟩))):=by
 have B:∀W,(Instr.typeAssert (.iface 105 (.pointer (some ⟨M,0,none⟩))) 44 105 true).run Tryz.prog W= .ok (.tuple #[.pointer (some ⟨M,0,none⟩),.bool true]) W:=fun W=>by rw[bn,if_pos rfl]
 have P4:= @run_makeMap Tryz.prog;intro t w F N hS hP;obtain⟨hM,Q⟩:=hS;have l:=Lib.hid hM;have o:=Lib.hid Q;have u:=Lib.hid hP;have R:=Lib.hid Y;have i:=Lib.hid (di X (A w N));have C:=Lib.hid N;obtain⟨K,fn,P5,D,q,E,hm,P6,r⟩:=dO hU N.kw;have P7:=fun args w=>Go.MuLone.run_callFunc_enter D q E args w;have s:=Lib.hid r;clear D q E r;have S:Hid (¬Plain w t):=b_.iB ⟨hM,Q⟩;have P8:∀W,(binOp .eql 275 (.map (some t)) (.map none)).run Tryz.prog W= .ok (.bool false) W:=fun W=>jl t W;clear hM Q N hU X A hP Y;cases m:F (.iface a (.pointer (some ⟨f,0,none⟩)))with
 |some v=>
  have z:=o.out _ _ m;have T:Hid (c=true):=n (u.out _ _ m);have j:Hid ((F (.iface a (.pointer (some ⟨f,0,none⟩)))).getD (.bool false)= .bool true):=by rw[m,z];rfl
  clear m z n;go_enter Tryz.func149,Tryz.ntmps149;go_wp2_with (first|(at_lookup;refine dM _ rfl _ _ 275 rfl bN 4 Tryz.underlying275 (.bool false) dj t F rfl l.out (.iface a (.pointer (some ⟨f,0,none⟩))) rfl i.out (.bool true) j.out ?_)|fail)
  go_ret;exact⟨⟨none,rfl,T.out⟩,Kept.refl _ _,fun b e=>by cases e;exact⟨F,⟨l.out,o.out⟩,fun _ y v h=> .inl h⟩⟩
 |none=>
 have j:Hid ((F (.iface a (.pointer (some ⟨f,0,none⟩)))).getD (.bool false)= .bool false):=by rw[m];rfl
 clear m n;go_enter Tryz.func149,Tryz.ntmps149;go_wp2_with (first|(at_lookup;refine dM _ rfl _ _ 275 rfl bN 4 Tryz.underlying275 (.bool false) dj t F rfl l.out (.iface a (.pointer (some ⟨f,0,none⟩))) rfl i.out (.bool false) j.out ?_)|(at_mapUpdate;refine dN _ rfl _ _ _ 275 rfl bN (eJ _) 4 Tryz.underlying275 t F rfl l.out (.iface a (.pointer (some ⟨f,0,none⟩))) (.bool true) rfl rfl i.out ?_;intro U H I)|fail)
 have V:Hid (b_ U t (bp F (.iface a (.pointer (some ⟨f,0,none⟩))) (.bool true))):=⟨H _ (fun y hy=>a7 F hy) (bG _ _ _),fun x v z=>by
  by_cases e:x=(.iface a (.pointer (some ⟨f,0,none⟩)))
  ·rw[e,bG]at z;cases z;rfl
  ·rw[a7 F e]at z;exact o.out _ _ z⟩
 have P9:Hid (∀y v,bp F (.iface a (.pointer (some ⟨f,0,none⟩))) (.bool true) y=some v→(P y∨y=(.iface a (.pointer (some ⟨f,0,none⟩))))∨G y):=fun y v h=>by
  by_cases e:y=(.iface a (.pointer (some ⟨f,0,none⟩)))
  ·exact .inl (.inr e)
  ·rw[a7 F e]at h;exact(u.out y v h).imp .inl id
 have J:Hid (Kept (fun k=>some t=some k) w U):=(Kept.refl _ _).grown I fun k hk _=>hk;have L:Hid (an p g U):=C.out.kept J.out (fun b e=>by cases e;exact S.out) (fun e=>by
  cases e;have h:=C.out.cap 65 (by decide) (by decide);exact iC ⟨l.out,o.out⟩ h)
 clear H I i l j u o;have c0:=L.out.kw _ _ _ hc;go_wp2_with fail
 refine(s.out _ L.out.kw).mono ?_;rintro e w' ⟨rfl,rfl⟩;go_wp2_with fail
 go_ret;exact⟨⟨none,rfl,O⟩,J.out,fun b e=>(by cases e;exact⟨_,V.out,jR R.out fun y v h=> .inl h⟩)⟩
theorem AS(p:Pm)(g:Ge)(d:Bool)(G P:Value→Prop)(c:Bool)(a f D:Nat)(w:World)(r:an p g w)(H:bM a)(o:∀w,an p g w→Plain w f)(M:c=true→G (.iface a (.pointer (some ⟨f,0,none⟩))))(k:Int)(Q:p D 0=some (.int .i64 k))(N:(k==25)=false)(I:c=true)(O:∀W:World,KW p W→b8 W a f (.iface 105 (.pointer (some ⟨D,0,none⟩)))):
 Calls Tryz.prog 149 #[(.iface a (.pointer (some ⟨f,0,none⟩))),.bool d,.map none] w (gQ G c (fun _=>none) none w):=by
 have s:∀W,(Instr.typeAssert (.iface 105 (.pointer (some ⟨D,0,none⟩))) 44 105 true).run Tryz.prog W= .ok (.tuple #[.pointer (some ⟨D,0,none⟩),.bool true]) W:=fun W=>by rw[bn,if_pos rfl]
 have R:= @run_makeMap Tryz.prog;have n:=Lib.hid (di H (o w r));have S:=Lib.hid M;have i:=Lib.hid (di H (w:=w.alloc (.map #[] 0)) ((o w r).below ((Below.refl _ _).alloc (Nat.le_refl _) _)));have J:=Lib.hid r;obtain⟨K,fn,T,t,j,u,hm,U,l⟩:=dO O r.kw;have V:=fun args w=>Go.MuLone.run_callFunc_enter t j u args w;have m:=Lib.hid l;clear t j u l;have z:=Lib.hid (iy (eu Tryz.prog) w);have X:=jm;clear r O H o M;go_enter Tryz.func149,Tryz.ntmps149;go_wp2_with (first|(at_lookup;refine iz _ rfl _ _ 275 rfl bN 4 Tryz.underlying275 (.bool false) dj rfl (.iface a (.pointer (some ⟨f,0,none⟩))) rfl n.out ?_)|(at_mapUpdate;refine dN _ rfl _ _ _ 275 rfl bN (eJ _) 4 Tryz.underlying275 w.heap.size (fun _=>none) rfl z.out (.iface a (.pointer (some ⟨f,0,none⟩))) (.bool true) rfl rfl i.out ?_;intro E A B)|fail)
 have Y:Hid (b_ E w.heap.size (bp (fun _=>none) (.iface a (.pointer (some ⟨f,0,none⟩))) (.bool true))):=⟨A _ (fun y Z=>a7 _ Z) (bG _ _ _),fun x v F=>by
  by_cases e:x=(.iface a (.pointer (some ⟨f,0,none⟩)))
  ·rw[e,bG]at F;cases F;rfl
  ·rw[a7 _ e]at F;cases F⟩
 have P4:Hid (∀y v,bp (fun _=>none) (.iface a (.pointer (some ⟨f,0,none⟩))) (.bool true) y=some v→(P y∨y=(.iface a (.pointer (some ⟨f,0,none⟩))))∨G y):=fun y v h=>by
  by_cases e:y=(.iface a (.pointer (some ⟨f,0,none⟩)))
  ·exact .inl (.inr e)
  ·rw[a7 _ e]at h;cases h
 have q:Below w.heap.size w E:=((Below.refl _ _).alloc (Nat.le_refl _) _).grown B (by simp) fun k hk=>by cases hk;exact Nat.le_refl _
 have L:Hid (Kept (fun k=>(none:Option Nat)=some k) w E):=Kept.of q;have C:Hid (an p g E):=J.out.below q;clear A B n i z q;have c0:=C.out.kw _ _ _ Q;go_wp2_with fail
 refine(m.out _ C.out.kw).mono ?_;rintro e w' ⟨rfl,rfl⟩;go_wp2_with fail
 go_ret;exact⟨⟨none,rfl,I⟩,L.out,fun b e=>(by cases e)⟩
theorem AT(p:Pm)(g:Ge)(d:Bool)(G P:Value→Prop)(c:Bool)(a f B:Nat)(Z:bM a)(C:∀w,an p g w→Plain w f)(n:P (.iface a (.pointer (some ⟨f,0,none⟩)))∨G (.iface a (.pointer (some ⟨f,0,none⟩)))→c=true)(hG:c=true→G (.iface a (.pointer (some ⟨f,0,none⟩))))(Q:c=true)(hU:∀W:World,KW p W→b8 W a f (.iface 145 (.pointer (some ⟨B,0,none⟩)))):
 e_ p g d G P c (.iface a (.pointer (some ⟨f,0,none⟩))):=by
 have D:∀W,(Instr.typeAssert (.iface 145 (.pointer (some ⟨B,0,none⟩))) 44 105 true).run Tryz.prog W= .ok (.tuple #[.pointer none,.bool false]) W:=fun W=>by rw[bn,if_neg (by decide)]
 have u:∀W,(Instr.typeAssert (.iface 145 (.pointer (some ⟨B,0,none⟩))) 44 145 true).run Tryz.prog W= .ok (.tuple #[.pointer (some ⟨B,0,none⟩),.bool true]) W:=fun W=>by rw[cy,if_pos rfl]
 have N:∀W,(Instr.typeAssert (.iface 145 (.pointer (some ⟨B,0,none⟩))) 44 149 true).run Tryz.prog W= .ok (.tuple #[.pointer none,.bool false]) W:=fun W=>by rw[dK,if_neg (by decide)]
 have P4:= @run_makeMap Tryz.prog;intro t w F O hS hP;obtain⟨hM,R⟩:=hS;have l:=Lib.hid hM;have o:=Lib.hid R;have z:=Lib.hid hP;have S:=Lib.hid hG;have i:=Lib.hid (di Z (C w O));have E:=Lib.hid O;obtain⟨K,fn,P5,H,q,I,hm,P6,r⟩:=dO hU O.kw;have P7:=fun args w=>Go.MuLone.run_callFunc_enter H q I args w;have s:=Lib.hid r;clear H q I r;have T:Hid (¬Plain w t):=b_.iB ⟨hM,R⟩;have P8:∀W,(binOp .eql 275 (.map (some t)) (.map none)).run Tryz.prog W= .ok (.bool false) W:=fun W=>jl t W;clear hM R O hU Z C hP hG;cases m:F (.iface a (.pointer (some ⟨f,0,none⟩)))with
 |some v=>
  have A:=o.out _ _ m;have U:Hid (c=true):=n (z.out _ _ m);have j:Hid ((F (.iface a (.pointer (some ⟨f,0,none⟩)))).getD (.bool false)= .bool true):=by rw[m,A];rfl
  clear m A n;go_enter Tryz.func149,Tryz.ntmps149;go_wp2_with (first|(at_lookup;refine dM _ rfl _ _ 275 rfl bN 4 Tryz.underlying275 (.bool false) dj t F rfl l.out (.iface a (.pointer (some ⟨f,0,none⟩))) rfl i.out (.bool true) j.out ?_)|fail)
  go_ret;exact⟨⟨none,rfl,U.out⟩,Kept.refl _ _,fun b e=>by cases e;exact⟨F,⟨l.out,o.out⟩,fun _ y v h=> .inl h⟩⟩
 |none=>
 have j:Hid ((F (.iface a (.pointer (some ⟨f,0,none⟩)))).getD (.bool false)= .bool false):=by rw[m];rfl
 clear m n;go_enter Tryz.func149,Tryz.ntmps149;go_wp2_with (first|(at_lookup;refine dM _ rfl _ _ 275 rfl bN 4 Tryz.underlying275 (.bool false) dj t F rfl l.out (.iface a (.pointer (some ⟨f,0,none⟩))) rfl i.out (.bool false) j.out ?_)|(at_mapUpdate;refine dN _ rfl _ _ _ 275 rfl bN (eJ _) 4 Tryz.underlying275 t F rfl l.out (.iface a (.pointer (some ⟨f,0,none⟩))) (.bool true) rfl rfl i.out ?_;intro V J L)|fail)
 have X:Hid (b_ V t (bp F (.iface a (.pointer (some ⟨f,0,none⟩))) (.bool true))):=⟨J _ (fun y hy=>a7 F hy) (bG _ _ _),fun x v A=>by
  by_cases e:x=(.iface a (.pointer (some ⟨f,0,none⟩)))
  ·rw[e,bG]at A;cases A;rfl
  ·rw[a7 F e]at A;exact o.out _ _ A⟩
 have P9:Hid (∀y v,bp F (.iface a (.pointer (some ⟨f,0,none⟩))) (.bool true) y=some v→(P y∨y=(.iface a (.pointer (some ⟨f,0,none⟩))))∨G y):=fun y v h=>by
  by_cases e:y=(.iface a (.pointer (some ⟨f,0,none⟩)))
  ·exact .inl (.inr e)
  ·rw[a7 F e]at h;exact(z.out y v h).imp .inl id
 have M:Hid (Kept (fun k=>some t=some k) w V):=(Kept.refl _ _).grown L fun k hk _=>hk;have Y:Hid (an p g V):=E.out.kept M.out (fun b e=>by cases e;exact T.out) (fun e=>by
  cases e;have h:=E.out.cap 65 (by decide) (by decide);exact iC ⟨l.out,o.out⟩ h)
 clear J L i l j z o;go_wp2_with fail
 refine(s.out _ Y.out.kw).mono ?_;rintro e w' ⟨rfl,rfl⟩;go_wp2_with fail
 go_ret;exact⟨⟨none,rfl,Q⟩,M.out,fun b e=>(by cases e;exact⟨_,X.out,jR S.out fun y v h=> .inl h⟩)⟩
theorem AU(p:Pm)(g:Ge)(d:Bool)(G P:Value→Prop)(c:Bool)(a f s:Nat)(w:World)(t:an p g w)(I:bM a)(o:∀w,an p g w→Plain w f)(O:c=true→G (.iface a (.pointer (some ⟨f,0,none⟩))))(J:c=true)(Q:∀W:World,KW p W→b8 W a f (.iface 145 (.pointer (some ⟨s,0,none⟩)))):
 Calls Tryz.prog 149 #[(.iface a (.pointer (some ⟨f,0,none⟩))),.bool d,.map none] w (gQ G c (fun _=>none) none w):=by
 have u:∀W,(Instr.typeAssert (.iface 145 (.pointer (some ⟨s,0,none⟩))) 44 105 true).run Tryz.prog W= .ok (.tuple #[.pointer none,.bool false]) W:=fun W=>by rw[bn,if_neg (by decide)]
 have q:∀W,(Instr.typeAssert (.iface 145 (.pointer (some ⟨s,0,none⟩))) 44 145 true).run Tryz.prog W= .ok (.tuple #[.pointer (some ⟨s,0,none⟩),.bool true]) W:=fun W=>by rw[cy,if_pos rfl]
 have E:∀W,(Instr.typeAssert (.iface 145 (.pointer (some ⟨s,0,none⟩))) 44 149 true).run Tryz.prog W= .ok (.tuple #[.pointer none,.bool false]) W:=fun W=>by rw[dK,if_neg (by decide)]
 have R:= @run_makeMap Tryz.prog;have n:=Lib.hid (di I (o w t));have S:=Lib.hid O;have i:=Lib.hid (di I (w:=w.alloc (.map #[] 0)) ((o w t).below ((Below.refl _ _).alloc (Nat.le_refl _) _)));have L:=Lib.hid t;obtain⟨K,fn,T,z,j,A,hm,U,l⟩:=dO Q t.kw;have V:=fun args w=>Go.MuLone.run_callFunc_enter z j A args w;have m:=Lib.hid l;clear z j A l;have B:=Lib.hid (iy (eu Tryz.prog) w);have X:=jm;clear t Q I o O;go_enter Tryz.func149,Tryz.ntmps149;go_wp2_with (first|(at_lookup;refine iz _ rfl _ _ 275 rfl bN 4 Tryz.underlying275 (.bool false) dj rfl (.iface a (.pointer (some ⟨f,0,none⟩))) rfl n.out ?_)|(at_mapUpdate;refine dN _ rfl _ _ _ 275 rfl bN (eJ _) 4 Tryz.underlying275 w.heap.size (fun _=>none) rfl B.out (.iface a (.pointer (some ⟨f,0,none⟩))) (.bool true) rfl rfl i.out ?_;intro F C D)|fail)
 have Y:Hid (b_ F w.heap.size (bp (fun _=>none) (.iface a (.pointer (some ⟨f,0,none⟩))) (.bool true))):=⟨C _ (fun y Z=>a7 _ Z) (bG _ _ _),fun x v H=>by
  by_cases e:x=(.iface a (.pointer (some ⟨f,0,none⟩)))
  ·rw[e,bG]at H;cases H;rfl
  ·rw[a7 _ e]at H;cases H⟩
 have P4:Hid (∀y v,bp (fun _=>none) (.iface a (.pointer (some ⟨f,0,none⟩))) (.bool true) y=some v→(P y∨y=(.iface a (.pointer (some ⟨f,0,none⟩))))∨G y):=fun y v h=>by
  by_cases e:y=(.iface a (.pointer (some ⟨f,0,none⟩)))
  ·exact .inl (.inr e)
  ·rw[a7 _ e]at h;cases h
 have r:Below w.heap.size w F:=((Below.refl _ _).alloc (Nat.le_refl _) _).grown D (by simp) fun k hk=>by cases hk;exact Nat.le_refl _
 have M:Hid (Kept (fun k=>(none:Option Nat)=some k) w F):=Kept.of r;have N:Hid (an p g F):=L.out.below r;clear C D n i B r;go_wp2_with fail
 refine(m.out _ N.out.kw).mono ?_;rintro e w' ⟨rfl,rfl⟩;go_wp2_with fail
 go_ret;exact⟨⟨none,rfl,J⟩,M.out,fun b e=>(by cases e)⟩
theorem AV(p:Pm)(g:Ge)(d:Bool)(G P:Value→Prop)(c:Bool)(a f B:Nat)(Z:bM a)(C:∀w,an p g w→Plain w f)(n:P (.iface a (.pointer (some ⟨f,0,none⟩)))∨G (.iface a (.pointer (some ⟨f,0,none⟩)))→c=true)(hG:c=true→G (.iface a (.pointer (some ⟨f,0,none⟩))))(Q:c=true)(hU:∀W:World,KW p W→b8 W a f (.iface 149 (.pointer (some ⟨B,0,none⟩)))):
 e_ p g d G P c (.iface a (.pointer (some ⟨f,0,none⟩))):=by
 have D:∀W,(Instr.typeAssert (.iface 149 (.pointer (some ⟨B,0,none⟩))) 44 105 true).run Tryz.prog W= .ok (.tuple #[.pointer none,.bool false]) W:=fun W=>by rw[bn,if_neg (by decide)]
 have u:∀W,(Instr.typeAssert (.iface 149 (.pointer (some ⟨B,0,none⟩))) 44 145 true).run Tryz.prog W= .ok (.tuple #[.pointer none,.bool false]) W:=fun W=>by rw[cy,if_neg (by decide)]
 have N:∀W,(Instr.typeAssert (.iface 149 (.pointer (some ⟨B,0,none⟩))) 44 149 true).run Tryz.prog W= .ok (.tuple #[.pointer (some ⟨B,0,none⟩),.bool true]) W:=fun W=>by rw[dK,if_pos rfl]
 have P4:= @run_makeMap Tryz.prog;intro t w F O hS hP;obtain⟨hM,R⟩:=hS;have l:=Lib.hid hM;have o:=Lib.hid R;have z:=Lib.hid hP;have S:=Lib.hid hG;have i:=Lib.hid (di Z (C w O));have E:=Lib.hid O;obtain⟨K,fn,P5,H,q,I,hm,P6,r⟩:=dO hU O.kw;have P7:=fun args w=>Go.MuLone.run_callFunc_enter H q I args w;have s:=Lib.hid r;clear H q I r;have T:Hid (¬Plain w t):=b_.iB ⟨hM,R⟩;have P8:∀W,(binOp .eql 275 (.map (some t)) (.map none)).run Tryz.prog W= .ok (.bool false) W:=fun W=>jl t W;clear hM R O hU Z C hP hG;cases m:F (.iface a (.pointer (some ⟨f,0,none⟩)))with
 |some v=>
  have A:=o.out _ _ m;have U:Hid (c=true):=n (z.out _ _ m);have j:Hid ((F (.iface a (.pointer (some ⟨f,0,none⟩)))).getD (.bool false)= .bool true):=by rw[m,A];rfl
  clear m A n;go_enter Tryz.func149,Tryz.ntmps149;go_wp2_with (first|(at_lookup;refine dM _ rfl _ _ 275 rfl bN 4 Tryz.underlying275 (.bool false) dj t F rfl l.out (.iface a (.pointer (some ⟨f,0,none⟩))) rfl i.out (.bool true) j.out ?_)|fail)
  go_ret;exact⟨⟨none,rfl,U.out⟩,Kept.refl _ _,fun b e=>by cases e;exact⟨F,⟨l.out,o.out⟩,fun _ y v h=> .inl h⟩⟩
 |none=>
 have j:Hid ((F (.iface a (.pointer (some ⟨f,0,none⟩)))).getD (.bool false)= .bool false):=by rw[m];rfl
 clear m n;go_enter Tryz.func149,Tryz.ntmps149;go_wp2_with (first|(at_lookup;refine dM _ rfl _ _ 275 rfl bN 4 Tryz.underlying275 (.bool false) dj t F rfl l.out (.iface a (.pointer (some ⟨f,0,none⟩))) rfl i.out (.bool false) j.out ?_)|(at_mapUpdate;refine dN _ rfl _ _ _ 275 rfl bN (eJ _) 4 Tryz.underlying275 t F rfl l.out (.iface a (.pointer (some ⟨f,0,none⟩))) (.bool true) rfl rfl i.out ?_;intro V J L)|fail)
 have X:Hid (b_ V t (bp F (.iface a (.pointer (some ⟨f,0,none⟩))) (.bool true))):=⟨J _ (fun y hy=>a7 F hy) (bG _ _ _),fun x v A=>by
  by_cases e:x=(.iface a (.pointer (some ⟨f,0,none⟩)))
  ·rw[e,bG]at A;cases A;rfl
  ·rw[a7 F e]at A;exact o.out _ _ A⟩
 have P9:Hid (∀y v,bp F (.iface a (.pointer (some ⟨f,0,none⟩))) (.bool true) y=some v→(P y∨y=(.iface a (.pointer (some ⟨f,0,none⟩))))∨G y):=fun y v h=>by
  by_cases e:y=(.iface a (.pointer (some ⟨f,0,none⟩)))
  ·exact .inl (.inr e)
  ·rw[a7 F e]at h;exact(z.out y v h).imp .inl id
 have M:Hid (Kept (fun k=>some t=some k) w V):=(Kept.refl _ _).grown L fun k hk _=>hk;have Y:Hid (an p g V):=E.out.kept M.out (fun b e=>by cases e;exact T.out) (fun e=>by
  cases e;have h:=E.out.cap 65 (by decide) (by decide);exact iC ⟨l.out,o.out⟩ h)
 clear J L i l j z o;go_wp2_with fail
 refine(s.out _ Y.out.kw).mono ?_;rintro e w' ⟨rfl,rfl⟩;go_wp2_with fail
 go_ret;exact⟨⟨none,rfl,Q⟩,M.out,fun b e=>(by cases e;exact⟨_,X.out,jR S.out fun y v h=> .inl h⟩)⟩
theorem AW(p:Pm)(g:Ge)(d:Bool)(G P:Value→Prop)(c:Bool)(a f s:Nat)(w:World)(t:an p g w)(I:bM a)(o:∀w,an p g w→Plain w f)(O:c=true→G (.iface a (.pointer (some ⟨f,0,none⟩))))(J:c=true)(Q:∀W:World,KW p W→b8 W a f (.iface 149 (.pointer (some ⟨s,0,none⟩)))):
 Calls Tryz.prog 149 #[(.iface a (.pointer (some ⟨f,0,none⟩))),.bool d,.map none] w (gQ G c (fun _=>none) none w):=by
 have u:∀W,(Instr.typeAssert (.iface 149 (.pointer (some ⟨s,0,none⟩))) 44 105 true).run Tryz.prog W= .ok (.tuple #[.pointer none,.bool false]) W:=fun W=>by rw[bn,if_neg (by decide)]
 have q:∀W,(Instr.typeAssert (.iface 149 (.pointer (some ⟨s,0,none⟩))) 44 145 true).run Tryz.prog W= .ok (.tuple #[.pointer none,.bool false]) W:=fun W=>by rw[cy,if_neg (by decide)]
 have E:∀W,(Instr.typeAssert (.iface 149 (.pointer (some ⟨s,0,none⟩))) 44 149 true).run Tryz.prog W= .ok (.tuple #[.pointer (some ⟨s,0,none⟩),.bool true]) W:=fun W=>by rw[dK,if_pos rfl]
 have R:= @run_makeMap Tryz.prog;have n:=Lib.hid (di I (o w t));have S:=Lib.hid O;have i:=Lib.hid (di I (w:=w.alloc (.map #[] 0)) ((o w t).below ((Below.refl _ _).alloc (Nat.le_refl _) _)));have L:=Lib.hid t;obtain⟨K,fn,T,z,j,A,hm,U,l⟩:=dO Q t.kw;have V:=fun args w=>Go.MuLone.run_callFunc_enter z j A args w;have m:=Lib.hid l;clear z j A l;have B:=Lib.hid (iy (eu Tryz.prog) w);have X:=jm;clear t Q I o O;go_enter Tryz.func149,Tryz.ntmps149;go_wp2_with (first|(at_lookup;refine iz _ rfl _ _ 275 rfl bN 4 Tryz.underlying275 (.bool false) dj rfl (.iface a (.pointer (some ⟨f,0,none⟩))) rfl n.out ?_)|(at_mapUpdate;refine dN _ rfl _ _ _ 275 rfl bN (eJ _) 4 Tryz.underlying275 w.heap.size (fun _=>none) rfl B.out (.iface a (.pointer (some ⟨f,0,none⟩))) (.bool true) rfl rfl i.out ?_;intro F C D)|fail)
 have Y:Hid (b_ F w.heap.size (bp (fun _=>none) (.iface a (.pointer (some ⟨f,0,none⟩))) (.bool true))):=⟨C _ (fun y Z=>a7 _ Z) (bG _ _ _),fun x v H=>by
  by_cases e:x=(.iface a (.pointer (some ⟨f,0,none⟩)))
  ·rw[e,bG]at H;cases H;rfl
  ·rw[a7 _ e]at H;cases H⟩
 have P4:Hid (∀y v,bp (fun _=>none) (.iface a (.pointer (some ⟨f,0,none⟩))) (.bool true) y=some v→(P y∨y=(.iface a (.pointer (some ⟨f,0,none⟩))))∨G y):=fun y v h=>by
  by_cases e:y=(.iface a (.pointer (some ⟨f,0,none⟩)))
  ·exact .inl (.inr e)
  ·rw[a7 _ e]at h;cases h
 have r:Below w.heap.size w F:=((Below.refl _ _).alloc (Nat.le_refl _) _).grown D (by simp) fun k hk=>by cases hk;exact Nat.le_refl _
 have M:Hid (Kept (fun k=>(none:Option Nat)=some k) w F):=Kept.of r;have N:Hid (an p g F):=L.out.below r;clear C D n i B r;go_wp2_with fail
 refine(m.out _ N.out.kw).mono ?_;rintro e w' ⟨rfl,rfl⟩;go_wp2_with fail
 go_ret;exact⟨⟨none,rfl,J⟩,M.out,fun b e=>(by cases e)⟩
theorem AX(p:Pm)(g:Ge)(d:Bool)(G P:Value→Prop)(c:Bool)(l m R:Nat)(hK:bM l)(Z:∀w,an p g w→Plain w m)(A:P (.iface l (.pointer (some ⟨m,0,none⟩)))∨G (.iface l (.pointer (some ⟨m,0,none⟩)))→c=true)(hG:c=true→G (.iface l (.pointer (some ⟨m,0,none⟩))))(n cc:Nat)(a:Option Addr)(f ft fb:Nat→Nat)(ci:Nat→Bool)(hn:n≤1099511627776)(hc:p R 0=some (.slice a n cc))(hr:bK p a n fun i=>ptr (f i))(hf:∀i,i<n→p (f i) 3=some (.iface (ft i) (.pointer (some ⟨fb i,0,none⟩))))(hI:∀i,i<n→e_ p g d G (fun y=>P y∨y=(.iface l (.pointer (some ⟨m,0,none⟩)))) (ci i) (.iface (ft i) (.pointer (some ⟨fb i,0,none⟩))))(P4:(∀i,i<n→ci i=true)→c=true)(P5:∀i,i<n→ci i=false→c=false)(hU:∀W:World,KW p W→b8 W l m (.iface 213 (.pointer (some ⟨R,0,none⟩)))):
 e_ p g d G P c (.iface l (.pointer (some ⟨m,0,none⟩))):=by
 have P6:∀W,(Instr.typeAssert (.iface 213 (.pointer (some ⟨R,0,none⟩))) 44 105 true).run Tryz.prog W= .ok (.tuple #[.pointer none,.bool false]) W:=fun W=>by rw[bn,if_neg (by decide)]
 have S:∀W,(Instr.typeAssert (.iface 213 (.pointer (some ⟨R,0,none⟩))) 44 145 true).run Tryz.prog W= .ok (.tuple #[.pointer none,.bool false]) W:=fun W=>by rw[cy,if_neg (by decide)]
 have Qt:∀W,(Instr.typeAssert (.iface 213 (.pointer (some ⟨R,0,none⟩))) 44 149 true).run Tryz.prog W= .ok (.tuple #[.pointer none,.bool false]) W:=fun W=>by rw[dK,if_neg (by decide)]
 have Y:∀W,(Instr.typeAssert (.iface 213 (.pointer (some ⟨R,0,none⟩))) 44 213 true).run Tryz.prog W= .ok (.tuple #[.pointer (some ⟨R,0,none⟩),.bool true]) W:=fun W=>by rw[cJ,if_pos rfl]
 have QE:= @run_makeMap Tryz.prog;intro t w F hE hS hP;obtain⟨hM,hb⟩:=hS;have u:=Lib.hid hM;have B:=Lib.hid hb;have T:=Lib.hid hP;have Qu:=Lib.hid hG;have q:=Lib.hid (di hK (Z w hE));have P7:=Lib.hid hE;obtain⟨K,fn,QF,P8,C,P9,hm,QG,D⟩:=dO hU hE.kw;have QH:=fun args w=>Go.MuLone.run_callFunc_enter P8 C P9 args w;have L:=Lib.hid D;clear P8 C P9 D;have Qv:Hid (¬Plain w t):=b_.iB ⟨hM,hb⟩;have QI:∀W,(binOp .eql 275 (.map (some t)) (.map none)).run Tryz.prog W= .ok (.bool false) W:=fun W=>jl t W;clear hM hb hE hU hK Z hP hG;cases z:F (.iface l (.pointer (some ⟨m,0,none⟩)))with
 |some v=>
  have U:=B.out _ _ z;have Qw:Hid (c=true):=A (T.out _ _ z);have r:Hid ((F (.iface l (.pointer (some ⟨m,0,none⟩)))).getD (.bool false)= .bool true):=by rw[z,U];rfl
  clear z U A;go_enter Tryz.func149,Tryz.ntmps149;go_wp2_with (first|(at_lookup;refine dM _ rfl _ _ 275 rfl bN 4 Tryz.underlying275 (.bool false) dj t F rfl u.out (.iface l (.pointer (some ⟨m,0,none⟩))) rfl q.out (.bool true) r.out ?_)|fail)
  go_ret;exact⟨⟨none,rfl,Qw.out⟩,Kept.refl _ _,fun b e=>by cases e;exact⟨F,⟨u.out,B.out⟩,fun _ y v h=> .inl h⟩⟩
 |none=>
 have r:Hid ((F (.iface l (.pointer (some ⟨m,0,none⟩)))).getD (.bool false)= .bool false):=by rw[z];rfl
 clear z A;go_enter Tryz.func149,Tryz.ntmps149;go_wp2_with (first|(at_lookup;refine dM _ rfl _ _ 275 rfl bN 4 Tryz.underlying275 (.bool false) dj t F rfl u.out (.iface l (.pointer (some ⟨m,0,none⟩))) rfl q.out (.bool false) r.out ?_)|(at_mapUpdate;refine dN _ rfl _ _ _ 275 rfl bN (eJ _) 4 Tryz.underlying275 t F rfl u.out (.iface l (.pointer (some ⟨m,0,none⟩))) (.bool true) rfl rfl q.out ?_;intro w1 P_ Qa)|fail)
 have Qx:Hid (b_ w1 t (bp F (.iface l (.pointer (some ⟨m,0,none⟩))) (.bool true))):=⟨P_ _ (fun y hy=>a7 F hy) (bG _ _ _),fun x v U=>by
  by_cases e:x=(.iface l (.pointer (some ⟨m,0,none⟩)))
  ·rw[e,bG]at U;cases U;rfl
  ·rw[a7 F e]at U;exact B.out _ _ U⟩
 have Qy:Hid (∀y v,bp F (.iface l (.pointer (some ⟨m,0,none⟩))) (.bool true) y=some v→(P y∨y=(.iface l (.pointer (some ⟨m,0,none⟩))))∨G y):=fun y v h=>by
  by_cases e:y=(.iface l (.pointer (some ⟨m,0,none⟩)))
  ·exact .inl (.inr e)
  ·rw[a7 F e]at h;exact(T.out y v h).imp .inl id
 have Qb:Hid (Kept (fun k=>some t=some k) w w1):=(Kept.refl _ _).grown Qa fun k hk _=>hk;have V:Hid (an p g w1):=P7.out.kept Qb.out (fun b e=>by cases e;exact Qv.out) (fun e=>by
  cases e;have h:=P7.out.cap 65 (by decide) (by decide);exact iC ⟨u.out,B.out⟩ h)
 clear P_ Qa q u r T B;have c0:=V.out.kw _ _ _ hc;have Qz:=Lib.hid hI;have QA:=Lib.hid hr;have Qc:=Lib.hid hf;have Qd:=Lib.hid P4;have Qe:=Lib.hid P5;clear hI hr hf P4 P5;go_wp2_with fail
 refine(L.out _ V.out.kw).mono ?_;rintro e w' ⟨rfl,rfl⟩;go_wp2_with fail
 go_loopw [51] (fun i wr=> ∃(k:Nat)(F':Value→Option Value),k≤n∧i= .int .i64 k∧Kept (fun k=>some t=some k) w wr∧b_ wr t F'∧an p g wr∧(∀j,j<k→ci j=true)∧(∀y v,F' y=some v→(bp F (.iface l (.pointer (some ⟨m,0,none⟩))) (.bool true)) y=some v∨G y)) (fun i _=>n- (intOf i).toNat)
 case atStart=>exact⟨0,_,Nat.zero_le _,rfl,Qb.out,Qx.out,V.out,fun j hj=>absurd hj (Nat.not_lt_zero _),fun y v h=> .inl h⟩
 case round=>
  obtain⟨k,Fr,hk,rfl,Qf,Qg,Qh,Qi,Qj⟩:=hrel;have N:=Lib.hid Qf;have E:=Lib.hid Qg;have s:=Lib.hid Qh;have O:=Lib.hid Qi;have H:=Lib.hid Qj;clear Qf Qg Qh Qi Qj;by_cases I:k<n
  ·have QD:(k:Int)<n:=by omega
   obtain⟨ab,ao,rfl,Qk⟩:=QA.out k I;have d0:=s.out.kw _ _ _ Qk;have d3:=s.out.kw _ _ _ (Qc.out k I);clear Qk;go_wp2_with fail
   refine(Qz.out k I t wr _ s.out E.out (sJ Qy.out H.out)).mono ?_;rintro e w2 ⟨⟨o,rfl,Ql⟩,X,Qm⟩;have Qn:Hid (Kept (fun k=>some t=some k) w w2):=N.out.trans X fun b hb e=>e;obtain⟨F2,Qo,Qp⟩:=Qm t rfl;have Q:=Lib.hid Qo;have Qq:=Lib.hid Qp;have J:=Lib.hid Ql;have Qr:Hid (an p g w2):=sL s.out E.out X;have d4:=Qr.out.kw _ _ _ (Qc.out k I);clear X Qm Qo Qp Ql;cases o with
   |none=>
    go_wp2_with fail
    refine⟨⟨k+1,F2,by omega,by go_num,Qn.out,Q.out,Qr.out,fun j hj=> ?_,sK H.out (Qq.out J.out)⟩,?_⟩
    ·by_cases QB:j<k
     ·exact O.out j QB
     ·obtain rfl:j=k:=by omega
      exact J.out
    ·first|omega|(simp[intOf];omega)
   |some o=>
    go_wp2_with fail
    refine(jQ _ (by kernel_rfl) _ _ _ _).mono ?_;rintro e w3 ⟨⟨o',rfl⟩,QC⟩;have Qs:Below w2.heap.size w2 w3:=((Below.refl _ _).alloc (Nat.le_refl _) _).trans (QC.mono (by simp));have M:c=false:=Qe.out k I J.out;go_wp2_with fail
    go_ret;exact⟨⟨some o',rfl,M⟩,Qn.out.below Qs,fun b e=>(by cases e;exact⟨_,mD Q.out Qs,fun h=>absurd h (by rw[M];exact Bool.false_ne_true)⟩)⟩
  ·have QJ:¬(k:Int)<n:=by omega
   have M:Hid (c=true):=Qd.out fun i hi=>O.out i (by omega);go_wp2_with fail
   go_ret;exact⟨⟨none,rfl,M.out⟩,N.out,fun b e=>(by cases e;exact⟨_,E.out,jR Qu.out H.out⟩)⟩
theorem AY(p:Pm)(g:Ge)(d:Bool)(G P:Value→Prop)(c:Bool)(m q H:Nat)(w:World)(R:an p g w)(hK:bM m)(I:∀w,an p g w→Plain w q)(hG:c=true→G (.iface m (.pointer (some ⟨q,0,none⟩))))(n cc:Nat)(a:Option Addr)(f ft fb:Nat→Nat)(ci:Nat→Bool)(hn:n≤1099511627776)(hc:p H 0=some (.slice a n cc))(hr:bK p a n fun i=>ptr (f i))(hf:∀i,i<n→p (f i) 3=some (.iface (ft i) (.pointer (some ⟨fb i,0,none⟩))))(hI:∀i,i<n→e_ p g d G (fun y=>P y∨y=(.iface m (.pointer (some ⟨q,0,none⟩)))) (ci i) (.iface (ft i) (.pointer (some ⟨fb i,0,none⟩))))(S:(∀i,i<n→ci i=true)→c=true)(T:∀i,i<n→ci i=false→c=false)(hU:∀W:World,KW p W→b8 W m q (.iface 213 (.pointer (some ⟨H,0,none⟩)))):
 Calls Tryz.prog 149 #[(.iface m (.pointer (some ⟨q,0,none⟩))),.bool d,.map none] w (gQ G c (fun _=>none) none w):=by
 have U:∀W,(Instr.typeAssert (.iface 213 (.pointer (some ⟨H,0,none⟩))) 44 105 true).run Tryz.prog W= .ok (.tuple #[.pointer none,.bool false]) W:=fun W=>by rw[bn,if_neg (by decide)]
 have J:∀W,(Instr.typeAssert (.iface 213 (.pointer (some ⟨H,0,none⟩))) 44 145 true).run Tryz.prog W= .ok (.tuple #[.pointer none,.bool false]) W:=fun W=>by rw[cy,if_neg (by decide)]
 have Ql:∀W,(Instr.typeAssert (.iface 213 (.pointer (some ⟨H,0,none⟩))) 44 149 true).run Tryz.prog W= .ok (.tuple #[.pointer none,.bool false]) W:=fun W=>by rw[dK,if_neg (by decide)]
 have Q:∀W,(Instr.typeAssert (.iface 213 (.pointer (some ⟨H,0,none⟩))) 44 213 true).run Tryz.prog W= .ok (.tuple #[.pointer (some ⟨H,0,none⟩),.bool true]) W:=fun W=>by rw[cJ,if_pos rfl]
 have Qw:= @run_makeMap Tryz.prog;have B:=Lib.hid (di hK (I w R));have Qx:=Lib.hid hG;have r:=Lib.hid (di hK (w:=w.alloc (.map #[] 0)) ((I w R).below ((Below.refl _ _).alloc (Nat.le_refl _) _)));have Qm:=Lib.hid R;obtain⟨K,fn,Qy,V,s,X,hm,Qz,t⟩:=dO hU R.kw;have QA:=fun args w=>Go.MuLone.run_callFunc_enter V s X args w;have A:=Lib.hid t;clear V s X t;have Y:=Lib.hid (iy (eu Tryz.prog) w);have QB:=jm;clear R hU hK I hG;go_enter Tryz.func149,Tryz.ntmps149;go_wp2_with (first|(at_lookup;refine iz _ rfl _ _ 275 rfl bN 4 Tryz.underlying275 (.bool false) dj rfl (.iface m (.pointer (some ⟨q,0,none⟩))) rfl B.out ?_)|(at_mapUpdate;refine dN _ rfl _ _ _ 275 rfl bN (eJ _) 4 Tryz.underlying275 w.heap.size (fun _=>none) rfl Y.out (.iface m (.pointer (some ⟨q,0,none⟩))) (.bool true) rfl rfl r.out ?_;intro w1 Z P4)|fail)
 have Qn:Hid (b_ w1 w.heap.size (bp (fun _=>none) (.iface m (.pointer (some ⟨q,0,none⟩))) (.bool true))):=⟨Z _ (fun y hy=>a7 _ hy) (bG _ _ _),fun x v hv=>by
  by_cases e:x=(.iface m (.pointer (some ⟨q,0,none⟩)))
  ·rw[e,bG]at hv;cases hv;rfl
  ·rw[a7 _ e]at hv;cases hv⟩
 have Qo:Hid (∀y v,bp (fun _=>none) (.iface m (.pointer (some ⟨q,0,none⟩))) (.bool true) y=some v→(P y∨y=(.iface m (.pointer (some ⟨q,0,none⟩))))∨G y):=fun y v h=>by
  by_cases e:y=(.iface m (.pointer (some ⟨q,0,none⟩)))
  ·exact .inl (.inr e)
  ·rw[a7 _ e]at h;cases h
 have L:Below w.heap.size w w1:=((Below.refl _ _).alloc (Nat.le_refl _) _).grown P4 (by simp) fun k hk=>by cases hk;exact Nat.le_refl _
 have Qp:Hid (Kept (fun k=>(none:Option Nat)=some k) w w1):=Kept.of L;have M:Hid (an p g w1):=Qm.out.below L;clear Z P4 B r Y L;have c0:=M.out.kw _ _ _ hc;have Qq:=Lib.hid hI;have Qr:=Lib.hid hr;have P5:=Lib.hid hf;have P6:=Lib.hid S;have P7:=Lib.hid T;clear hI hr hf S T;go_wp2_with fail
 refine(A.out _ M.out.kw).mono ?_;rintro e w' ⟨rfl,rfl⟩;go_wp2_with fail
 go_loopw [51] (fun i wr=> ∃(k:Nat)(F':Value→Option Value),k≤n∧i= .int .i64 k∧Kept (fun k=>(none:Option Nat)=some k) w wr∧b_ wr w.heap.size F'∧an p g wr∧(∀j,j<k→ci j=true)∧(∀y v,F' y=some v→(bp (fun _=>none) (.iface m (.pointer (some ⟨q,0,none⟩))) (.bool true)) y=some v∨G y)) (fun i _=>n- (intOf i).toNat)
 case atStart=>exact⟨0,_,Nat.zero_le _,rfl,Qp.out,Qn.out,M.out,fun j hj=>absurd hj (Nat.not_lt_zero _),fun y v h=> .inl h⟩
 case round=>
  obtain⟨k,Fr,hk,rfl,P8,P9,P_,Qa,Qb⟩:=hrel;have C:=Lib.hid P8;have D:=Lib.hid P9;have l:=Lib.hid P_;have E:=Lib.hid Qa;have F:=Lib.hid Qb;clear P8 P9 P_ Qa Qb;by_cases u:k<n
  ·have Qv:(k:Int)<n:=by omega
   obtain⟨ab,ao,rfl,Qc⟩:=Qr.out k u;have d0:=l.out.kw _ _ _ Qc;have d3:=l.out.kw _ _ _ (P5.out k u);clear Qc;go_wp2_with fail
   refine(Qq.out k u w.heap.size wr _ l.out D.out (sJ Qo.out F.out)).mono ?_;rintro e w2 ⟨⟨o,rfl,Qd⟩,N,Qe⟩;have Qf:Hid (Kept (fun k=>(none:Option Nat)=some k) w w2):=C.out.trans N fun b hb e=>(by have e:=Option.some.inj e;omega)
   obtain⟨F2,Qg,Qh⟩:=Qe w.heap.size rfl;have Qi:=Lib.hid Qg;have Qj:=Lib.hid Qh;have z:=Lib.hid Qd;have Qk:Hid (an p g w2):=sL l.out D.out N;have d4:=Qk.out.kw _ _ _ (P5.out k u);clear N Qe Qg Qh Qd;cases o with
   |none=>
    go_wp2_with fail
    refine⟨⟨k+1,F2,by omega,by go_num,Qf.out,Qi.out,Qk.out,fun j hj=> ?_,sK F.out (Qj.out z.out)⟩,?_⟩
    ·by_cases Qs:j<k
     ·exact E.out j Qs
     ·obtain rfl:j=k:=by omega
      exact z.out
    ·first|omega|(simp[intOf];omega)
   |some o=>
    go_wp2_with fail
    refine(jQ _ (by kernel_rfl) _ _ _ _).mono ?_;rintro e w3 ⟨⟨o',rfl⟩,Qt⟩;have Qu:Below w2.heap.size w2 w3:=((Below.refl _ _).alloc (Nat.le_refl _) _).trans (Qt.mono (by simp));have O:c=false:=P7.out k u z.out;go_wp2_with fail
    go_ret;exact⟨⟨some o',rfl,O⟩,Qf.out.below Qu,fun b e=>(by cases e)⟩
  ·have QC:¬(k:Int)<n:=by omega
   have O:Hid (c=true):=P6.out fun i hi=>E.out i (by omega);go_wp2_with fail
   go_ret;exact⟨⟨none,rfl,O.out⟩,C.out,fun b e=>(by cases e)⟩
theorem AZ(p:Pm)(g:Ge)(d:Bool)(G P:Value→Prop)(c:Bool)(a f A:Nat)(hK:bM a)(J:∀w,an p g w→Plain w f)(q:P (.iface a (.pointer (some ⟨f,0,none⟩)))∨G (.iface a (.pointer (some ⟨f,0,none⟩)))→c=true)(hG:c=true→G (.iface a (.pointer (some ⟨f,0,none⟩))))(et eb:Nat)(hc:p A 1=some (.iface et (.pointer (some ⟨eb,0,none⟩))))(hI:e_ p g d G (fun y=>P y∨y=(.iface a (.pointer (some ⟨f,0,none⟩)))) c (.iface et (.pointer (some ⟨eb,0,none⟩))))(hU:∀W:World,KW p W→b8 W a f (.iface 141 (.pointer (some ⟨A,0,none⟩)))):
 e_ p g d G P c (.iface a (.pointer (some ⟨f,0,none⟩))):=by
 have L:∀W,(Instr.typeAssert (.iface 141 (.pointer (some ⟨A,0,none⟩))) 44 105 true).run Tryz.prog W= .ok (.tuple #[.pointer none,.bool false]) W:=fun W=>by rw[bn,if_neg (by decide)]
 have C:∀W,(Instr.typeAssert (.iface 141 (.pointer (some ⟨A,0,none⟩))) 44 145 true).run Tryz.prog W= .ok (.tuple #[.pointer none,.bool false]) W:=fun W=>by rw[cy,if_neg (by decide)]
 have P7:∀W,(Instr.typeAssert (.iface 141 (.pointer (some ⟨A,0,none⟩))) 44 149 true).run Tryz.prog W= .ok (.tuple #[.pointer none,.bool false]) W:=fun W=>by rw[dK,if_neg (by decide)]
 have I:∀W,(Instr.typeAssert (.iface 141 (.pointer (some ⟨A,0,none⟩))) 44 213 true).run Tryz.prog W= .ok (.tuple #[.pointer none,.bool false]) W:=fun W=>by rw[cJ,if_neg (by decide)]
 have M:∀W,(Instr.typeAssert (.iface 141 (.pointer (some ⟨A,0,none⟩))) 44 141 true).run Tryz.prog W= .ok (.tuple #[.pointer (some ⟨A,0,none⟩),.bool true]) W:=fun W=>by rw[cw,if_pos rfl]
 have Qe:= @run_makeMap Tryz.prog;intro r w F hE hS hP;obtain⟨hM,hb⟩:=hS;have m:=Lib.hid hM;have s:=Lib.hid hb;have D:=Lib.hid hP;have P8:=Lib.hid hG;have i:=Lib.hid (di hK (J w hE));have N:=Lib.hid hE;obtain⟨K,fn,Qf,O,t,Q,hm,Qg,u⟩:=dO hU hE.kw;have Qh:=fun args w=>Go.MuLone.run_callFunc_enter O t Q args w;have z:=Lib.hid u;clear O t Q u;have P9:Hid (¬Plain w r):=b_.iB ⟨hM,hb⟩;have Qi:∀W,(binOp .eql 275 (.map (some r)) (.map none)).run Tryz.prog W= .ok (.bool false) W:=fun W=>jl r W;clear hM hb hE hU hK J hP hG;cases n:F (.iface a (.pointer (some ⟨f,0,none⟩)))with
 |some v=>
  have E:=s.out _ _ n;have P_:Hid (c=true):=q (D.out _ _ n);have j:Hid ((F (.iface a (.pointer (some ⟨f,0,none⟩)))).getD (.bool false)= .bool true):=by rw[n,E];rfl
  clear n E q;go_enter Tryz.func149,Tryz.ntmps149;go_wp2_with (first|(at_lookup;refine dM _ rfl _ _ 275 rfl bN 4 Tryz.underlying275 (.bool false) dj r F rfl m.out (.iface a (.pointer (some ⟨f,0,none⟩))) rfl i.out (.bool true) j.out ?_)|fail)
  go_ret;exact⟨⟨none,rfl,P_.out⟩,Kept.refl _ _,fun b e=>by cases e;exact⟨F,⟨m.out,s.out⟩,fun _ y v h=> .inl h⟩⟩
 |none=>
 have j:Hid ((F (.iface a (.pointer (some ⟨f,0,none⟩)))).getD (.bool false)= .bool false):=by rw[n];rfl
 clear n q;go_enter Tryz.func149,Tryz.ntmps149;go_wp2_with (first|(at_lookup;refine dM _ rfl _ _ 275 rfl bN 4 Tryz.underlying275 (.bool false) dj r F rfl m.out (.iface a (.pointer (some ⟨f,0,none⟩))) rfl i.out (.bool false) j.out ?_)|(at_mapUpdate;refine dN _ rfl _ _ _ 275 rfl bN (eJ _) 4 Tryz.underlying275 r F rfl m.out (.iface a (.pointer (some ⟨f,0,none⟩))) (.bool true) rfl rfl i.out ?_;intro w1 R S)|fail)
 have Qa:Hid (b_ w1 r (bp F (.iface a (.pointer (some ⟨f,0,none⟩))) (.bool true))):=⟨R _ (fun y hy=>a7 F hy) (bG _ _ _),fun x v E=>by
  by_cases e:x=(.iface a (.pointer (some ⟨f,0,none⟩)))
  ·rw[e,bG]at E;cases E;rfl
  ·rw[a7 F e]at E;exact s.out _ _ E⟩
 have Qb:Hid (∀y v,bp F (.iface a (.pointer (some ⟨f,0,none⟩))) (.bool true) y=some v→(P y∨y=(.iface a (.pointer (some ⟨f,0,none⟩))))∨G y):=fun y v h=>by
  by_cases e:y=(.iface a (.pointer (some ⟨f,0,none⟩)))
  ·exact .inl (.inr e)
  ·rw[a7 F e]at h;exact(D.out y v h).imp .inl id
 have T:Hid (Kept (fun k=>some r=some k) w w1):=(Kept.refl _ _).grown S fun k hk _=>hk;have H:Hid (an p g w1):=N.out.kept T.out (fun b e=>by cases e;exact P9.out) (fun e=>by
  cases e;have h:=N.out.cap 65 (by decide) (by decide);exact iC ⟨m.out,s.out⟩ h)
 clear R S i m j D s;have c0:=H.out.kw _ _ _ hc;have Qc:=Lib.hid hI;clear hI;go_wp2_with fail
 refine(z.out _ H.out.kw).mono ?_;rintro e w' ⟨rfl,rfl⟩;go_wp2_with fail
 refine(Qc.out r w1 _ H.out Qa.out Qb.out).mono ?_;rintro e w2 ⟨⟨o,rfl,U⟩,V,X⟩;have Y:Hid (Kept (fun k=>some r=some k) w w2):=T.out.trans V fun b hb e=>e;obtain⟨F2,Z,P4⟩:=X r rfl;have B:=Lib.hid Z;have P5:=Lib.hid P4;have l:=Lib.hid U;clear V X Z P4 U;cases o with
 |none=>
  go_wp2_with fail
  go_ret;exact⟨⟨none,rfl,l.out⟩,Y.out,fun b e=>(by cases e;exact⟨_,B.out,jR P8.out (P5.out l.out)⟩)⟩
 |some o=>
  go_wp2_with fail
  refine(jQ _ (by kernel_rfl) _ _ _ _).mono ?_;rintro e w3 ⟨⟨o',rfl⟩,Qd⟩;have P6:Below w2.heap.size w2 w3:=((Below.refl _ _).alloc (Nat.le_refl _) _).trans (Qd.mono (by simp));go_wp2_with fail
  go_ret;exact⟨⟨some o',rfl,l.out⟩,Y.out.below P6,fun b e=>(by cases e;exact⟨_,mD B.out P6,fun h=>absurd h (by rw[l.out];exact Bool.false_ne_true)⟩)⟩
theorem A0(p:Pm)(g:Ge)(d:Bool)(G P:Value→Prop)(c:Bool)(a f n:Nat)(w:World)(B:an p g w)(V:bM a)(s:∀w,an p g w→Plain w f)(hG:c=true→G (.iface a (.pointer (some ⟨f,0,none⟩))))(et eb:Nat)(hc:p n 1=some (.iface et (.pointer (some ⟨eb,0,none⟩))))(hI:e_ p g d G (fun y=>P y∨y=(.iface a (.pointer (some ⟨f,0,none⟩)))) c (.iface et (.pointer (some ⟨eb,0,none⟩))))(hU:∀W:World,KW p W→b8 W a f (.iface 141 (.pointer (some ⟨n,0,none⟩)))):
 Calls Tryz.prog 149 #[(.iface a (.pointer (some ⟨f,0,none⟩))),.bool d,.map none] w (gQ G c (fun _=>none) none w):=by
 have C:∀W,(Instr.typeAssert (.iface 141 (.pointer (some ⟨n,0,none⟩))) 44 105 true).run Tryz.prog W= .ok (.tuple #[.pointer none,.bool false]) W:=fun W=>by rw[bn,if_neg (by decide)]
 have t:∀W,(Instr.typeAssert (.iface 141 (.pointer (some ⟨n,0,none⟩))) 44 145 true).run Tryz.prog W= .ok (.tuple #[.pointer none,.bool false]) W:=fun W=>by rw[cy,if_neg (by decide)]
 have T:∀W,(Instr.typeAssert (.iface 141 (.pointer (some ⟨n,0,none⟩))) 44 149 true).run Tryz.prog W= .ok (.tuple #[.pointer none,.bool false]) W:=fun W=>by rw[dK,if_neg (by decide)]
 have A:∀W,(Instr.typeAssert (.iface 141 (.pointer (some ⟨n,0,none⟩))) 44 213 true).run Tryz.prog W= .ok (.tuple #[.pointer none,.bool false]) W:=fun W=>by rw[cJ,if_neg (by decide)]
 have D:∀W,(Instr.typeAssert (.iface 141 (.pointer (some ⟨n,0,none⟩))) 44 141 true).run Tryz.prog W= .ok (.tuple #[.pointer (some ⟨n,0,none⟩),.bool true]) W:=fun W=>by rw[cw,if_pos rfl]
 have P_:= @run_makeMap Tryz.prog;have q:=Lib.hid (di V (s w B));have Qa:=Lib.hid hG;have i:=Lib.hid (di V (w:=w.alloc (.map #[] 0)) ((s w B).below ((Below.refl _ _).alloc (Nat.le_refl _) _)));have X:=Lib.hid B;obtain⟨K,fn,Qb,E,j,F,hm,Qc,l⟩:=dO hU B.kw;have Qd:=fun args w=>Go.MuLone.run_callFunc_enter E j F args w;have m:=Lib.hid l;clear E j F l;have H:=Lib.hid (iy (eu Tryz.prog) w);have Qe:=jm;clear B hU V s hG;go_enter Tryz.func149,Tryz.ntmps149;go_wp2_with (first|(at_lookup;refine iz _ rfl _ _ 275 rfl bN 4 Tryz.underlying275 (.bool false) dj rfl (.iface a (.pointer (some ⟨f,0,none⟩))) rfl q.out ?_)|(at_mapUpdate;refine dN _ rfl _ _ _ 275 rfl bN (eJ _) 4 Tryz.underlying275 w.heap.size (fun _=>none) rfl H.out (.iface a (.pointer (some ⟨f,0,none⟩))) (.bool true) rfl rfl i.out ?_;intro I J L)|fail)
 have Y:Hid (b_ I w.heap.size (bp (fun _=>none) (.iface a (.pointer (some ⟨f,0,none⟩))) (.bool true))):=⟨J _ (fun y hy=>a7 _ hy) (bG _ _ _),fun x v U=>by
  by_cases e:x=(.iface a (.pointer (some ⟨f,0,none⟩)))
  ·rw[e,bG]at U;cases U;rfl
  ·rw[a7 _ e]at U;cases U⟩
 have Z:Hid (∀y v,bp (fun _=>none) (.iface a (.pointer (some ⟨f,0,none⟩))) (.bool true) y=some v→(P y∨y=(.iface a (.pointer (some ⟨f,0,none⟩))))∨G y):=fun y v h=>by
  by_cases e:y=(.iface a (.pointer (some ⟨f,0,none⟩)))
  ·exact .inl (.inr e)
  ·rw[a7 _ e]at h;cases h
 have u:Below w.heap.size w I:=((Below.refl _ _).alloc (Nat.le_refl _) _).grown L (by simp) fun k hk=>by cases hk;exact Nat.le_refl _
 have P4:Hid (Kept (fun k=>(none:Option Nat)=some k) w I):=Kept.of u;have z:Hid (an p g I):=X.out.below u;clear J L q i H u;have c0:=z.out.kw _ _ _ hc;have P5:=Lib.hid hI;clear hI;go_wp2_with fail
 refine(m.out _ z.out.kw).mono ?_;rintro e w' ⟨rfl,rfl⟩;go_wp2_with fail
 refine(P5.out w.heap.size I _ z.out Y.out Z.out).mono ?_;rintro e w2 ⟨⟨o,rfl,M⟩,N,O⟩;have Q:Hid (Kept (fun k=>(none:Option Nat)=some k) w w2):=P4.out.trans N fun b hb e=>(by have e:=Option.some.inj e;omega)
 obtain⟨F2,R,S⟩:=O w.heap.size rfl;have P8:=Lib.hid R;have P9:=Lib.hid S;have r:=Lib.hid M;clear N O R S M;cases o with
 |none=>
  go_wp2_with fail
  go_ret;exact⟨⟨none,rfl,r.out⟩,Q.out,fun b e=>(by cases e)⟩
 |some o=>
  go_wp2_with fail
  refine(jQ _ (by kernel_rfl) _ _ _ _).mono ?_;rintro e w3 ⟨⟨o',rfl⟩,P6⟩;have P7:Below w2.heap.size w2 w3:=((Below.refl _ _).alloc (Nat.le_refl _) _).trans (P6.mono (by simp));go_wp2_with fail
  go_ret;exact⟨⟨some o',rfl,r.out⟩,Q.out.below P7,fun b e=>(by cases e)⟩
theorem A1(p:Pm)(g:Ge)(d:Bool)(G P:Value→Prop)(c:Bool)(f j t:Nat)(hK:bM f)(O:∀w,an p g w→Plain w j)(u:P (.iface f (.pointer (some ⟨j,0,none⟩)))∨G (.iface f (.pointer (some ⟨j,0,none⟩)))→c=true)(hG:c=true→G (.iface f (.pointer (some ⟨j,0,none⟩))))(tb tc:Nat)(ta:Option Addr)(Q:Nat→Nat)(hc:p t 0=some (.pointer none))(h6:p t 6=some (ptr tb))(h2:p tb 2=some (.slice ta 1 tc))(h3:p tb 3=some (.bool false))(P_:bK p ta 1 fun i=>ptr (Q i))(Qa:p (Q 0) 1=some .nilIface)(R:∀W,KW p W→Calls Tryz.prog 109 #[(.iface f (.pointer (some ⟨j,0,none⟩)))] W fun e w'=>e= .returned (.bool false)∧W=w')(H:c=d)(hU:∀W:World,KW p W→b8 W f j (.iface 33 (.pointer (some ⟨t,0,none⟩)))):
 e_ p g d G P c (.iface f (.pointer (some ⟨j,0,none⟩))):=by
 have S:∀W,(Instr.typeAssert (.iface 33 (.pointer (some ⟨t,0,none⟩))) 44 105 true).run Tryz.prog W= .ok (.tuple #[.pointer none,.bool false]) W:=fun W=>by rw[bn,if_neg (by decide)]
 have I:∀W,(Instr.typeAssert (.iface 33 (.pointer (some ⟨t,0,none⟩))) 44 145 true).run Tryz.prog W= .ok (.tuple #[.pointer none,.bool false]) W:=fun W=>by rw[cy,if_neg (by decide)]
 have P9:∀W,(Instr.typeAssert (.iface 33 (.pointer (some ⟨t,0,none⟩))) 44 149 true).run Tryz.prog W= .ok (.tuple #[.pointer none,.bool false]) W:=fun W=>by rw[dK,if_neg (by decide)]
 have N:∀W,(Instr.typeAssert (.iface 33 (.pointer (some ⟨t,0,none⟩))) 44 213 true).run Tryz.prog W= .ok (.tuple #[.pointer none,.bool false]) W:=fun W=>by rw[cJ,if_neg (by decide)]
 have T:∀W,(Instr.typeAssert (.iface 33 (.pointer (some ⟨t,0,none⟩))) 44 141 true).run Tryz.prog W= .ok (.tuple #[.pointer none,.bool false]) W:=fun W=>by rw[cw,if_neg (by decide)]
 have C:∀W,(Instr.typeAssert (.iface 33 (.pointer (some ⟨t,0,none⟩))) 44 33 true).run Tryz.prog W= .ok (.tuple #[.pointer (some ⟨t,0,none⟩),.bool true]) W:=fun W=>by rw[dB,if_pos rfl]
 have Qf:= @run_makeMap Tryz.prog;intro D w F hE hS hP;obtain⟨hM,hb⟩:=hS;have q:=Lib.hid hM;have z:=Lib.hid hb;have J:=Lib.hid hP;have Qb:=Lib.hid hG;have l:=Lib.hid (di hK (O w hE));have U:=Lib.hid hE;obtain⟨K,fn,Qg,V,A,X,hm,Qh,B⟩:=dO hU hE.kw;have Qi:=fun args w=>Go.MuLone.run_callFunc_enter V A X args w;have m:=Lib.hid B;clear V A X B;have Qc:Hid (¬Plain w D):=b_.iB ⟨hM,hb⟩;have Qj:∀W,(binOp .eql 275 (.map (some D)) (.map none)).run Tryz.prog W= .ok (.bool false) W:=fun W=>jl D W;clear hM hb hE hU hK O hP hG;cases r:F (.iface f (.pointer (some ⟨j,0,none⟩)))with
 |some v=>
  have L:=z.out _ _ r;have Qd:Hid (c=true):=u (J.out _ _ r);have n:Hid ((F (.iface f (.pointer (some ⟨j,0,none⟩)))).getD (.bool false)= .bool true):=by rw[r,L];rfl
  clear r L u;go_enter Tryz.func149,Tryz.ntmps149;go_wp2_with (first|(at_lookup;refine dM _ rfl _ _ 275 rfl bN 4 Tryz.underlying275 (.bool false) dj D F rfl q.out (.iface f (.pointer (some ⟨j,0,none⟩))) rfl l.out (.bool true) n.out ?_)|fail)
  go_ret;exact⟨⟨none,rfl,Qd.out⟩,Kept.refl _ _,fun b e=>by cases e;exact⟨F,⟨q.out,z.out⟩,fun _ y v h=> .inl h⟩⟩
 |none=>
 have n:Hid ((F (.iface f (.pointer (some ⟨j,0,none⟩)))).getD (.bool false)= .bool false):=by rw[r];rfl
 clear r u;go_enter Tryz.func149,Tryz.ntmps149;go_wp2_with (first|(at_lookup;refine dM _ rfl _ _ 275 rfl bN 4 Tryz.underlying275 (.bool false) dj D F rfl q.out (.iface f (.pointer (some ⟨j,0,none⟩))) rfl l.out (.bool false) n.out ?_)|(at_mapUpdate;refine dN _ rfl _ _ _ 275 rfl bN (eJ _) 4 Tryz.underlying275 D F rfl q.out (.iface f (.pointer (some ⟨j,0,none⟩))) (.bool true) rfl rfl l.out ?_;intro w1 Y Z)|fail)
 have P4:Hid (b_ w1 D (bp F (.iface f (.pointer (some ⟨j,0,none⟩))) (.bool true))):=⟨Y _ (fun y hy=>a7 F hy) (bG _ _ _),fun x v L=>by
  by_cases e:x=(.iface f (.pointer (some ⟨j,0,none⟩)))
  ·rw[e,bG]at L;cases L;rfl
  ·rw[a7 F e]at L;exact z.out _ _ L⟩
 have Qk:Hid (∀y v,bp F (.iface f (.pointer (some ⟨j,0,none⟩))) (.bool true) y=some v→(P y∨y=(.iface f (.pointer (some ⟨j,0,none⟩))))∨G y):=fun y v h=>by
  by_cases e:y=(.iface f (.pointer (some ⟨j,0,none⟩)))
  ·exact .inl (.inr e)
  ·rw[a7 F e]at h;exact(J.out y v h).imp .inl id
 have M:Hid (Kept (fun k=>some D=some k) w w1):=(Kept.refl _ _).grown Z fun k hk _=>hk;have a:Hid (an p g w1):=U.out.kept M.out (fun b e=>by cases e;exact Qc.out) (fun e=>by
  cases e;have h:=U.out.cap 65 (by decide) (by decide);exact iC ⟨q.out,z.out⟩ h)
 clear Y Z l q n J z;have c0:=a.out.kw _ _ _ hc;have c6:=a.out.kw _ _ _ h6;have c2:=a.out.kw _ _ _ h2;have c3:=a.out.kw _ _ _ h3;have ct:=a.out.kw _ _ _ Qa;have P5:=Lib.hid (fL P_ a.out.kw);have P6:=Lib.hid R;clear R;cases d with
 |true=>
  go_wp2_with fail
  refine(m.out _ a.out.kw).mono ?_;rintro e w' ⟨rfl,rfl⟩;go_wp2_with fail
  refine(P6.out _ a.out.kw).mono ?_;rintro e w' ⟨rfl,rfl⟩;go_wp2_with fail
  go_ret;exact⟨⟨none,rfl,H⟩,M.out,fun b e=>(by cases e;exact⟨_,P4.out,jR Qb.out fun y v h=> .inl h⟩)⟩
 |false=>
 go_wp2_with fail
 refine(m.out _ a.out.kw).mono ?_;rintro e w' ⟨rfl,rfl⟩;go_wp2_with fail
 refine(gO t tb _ c0 c6).mono ?_;rintro e w2 ⟨rfl,rfl⟩;go_wp2_with fail
 refine(sH tb 1 tc ta Q false _ c2 c3 P5.out Nat.one_pos ct (some D)).mono ?_;rintro e w2 ⟨rfl,s⟩;have f0:=ak s c0;have f6:=ak s c6;have f2:=ak s c2;have P7:Hid (bj w2 ta 1 Q):=fun i hi=>let⟨b,o,e,hc⟩:=P5.out i hi;⟨b,o,e,ak s hc⟩;have E:=Lib.hid s;clear s;go_wp2_with fail
 refine(gO t tb _ f0 f6).mono ?_;rintro e w3 ⟨rfl,rfl⟩;go_wp2_with fail
 refine(sI tb 1 tc ta Q _ f2 P7.out).mono ?_;rintro e w3 ⟨rfl,rfl⟩;go_wp2_with fail
 refine(jQ _ (by kernel_rfl) _ _ _ _).mono ?_;rintro e w3 ⟨⟨o',rfl⟩,Qe⟩;have P8:=E.out.trans (Qe.mono E.out.size);go_wp2_with fail
 go_ret;exact⟨⟨some o',rfl,H⟩,M.out.below P8,fun b e=>(by cases e;exact⟨_,mD P4.out P8,fun h=>absurd h (by rw[H];exact Bool.false_ne_true)⟩)⟩
theorem A2(p:Pm)(g:Ge)(d:Bool)(G P:Value→Prop)(c:Bool)(l m n:Nat)(w:World)(E:an p g w)(hK:bM l)(A:∀w,an p g w→Plain w m)(hG:c=true→G (.iface l (.pointer (some ⟨m,0,none⟩))))(tb tc:Nat)(ta:Option Addr)(F:Nat→Nat)(hc:p n 0=some (.pointer none))(h6:p n 6=some (ptr tb))(h2:p tb 2=some (.slice ta 1 tc))(h3:p tb 3=some (.bool false))(P4:bK p ta 1 fun i=>ptr (F i))(P5:p (F 0) 1=some .nilIface)(H:∀W,KW p W→Calls Tryz.prog 109 #[(.iface l (.pointer (some ⟨m,0,none⟩)))] W fun e X=>e= .returned (.bool false)∧W=X)(I:c=d)(hU:∀W:World,KW p W→b8 W l m (.iface 33 (.pointer (some ⟨n,0,none⟩)))):
 Calls Tryz.prog 149 #[(.iface l (.pointer (some ⟨m,0,none⟩))),.bool d,.map none] w (gQ G c (fun _=>none) none w):=by
 have J:∀W,(Instr.typeAssert (.iface 33 (.pointer (some ⟨n,0,none⟩))) 44 105 true).run Tryz.prog W= .ok (.tuple #[.pointer none,.bool false]) W:=fun W=>by rw[bn,if_neg (by decide)]
 have B:∀W,(Instr.typeAssert (.iface 33 (.pointer (some ⟨n,0,none⟩))) 44 145 true).run Tryz.prog W= .ok (.tuple #[.pointer none,.bool false]) W:=fun W=>by rw[cy,if_neg (by decide)]
 have Y:∀W,(Instr.typeAssert (.iface 33 (.pointer (some ⟨n,0,none⟩))) 44 149 true).run Tryz.prog W= .ok (.tuple #[.pointer none,.bool false]) W:=fun W=>by rw[dK,if_neg (by decide)]
 have D:∀W,(Instr.typeAssert (.iface 33 (.pointer (some ⟨n,0,none⟩))) 44 213 true).run Tryz.prog W= .ok (.tuple #[.pointer none,.bool false]) W:=fun W=>by rw[cJ,if_neg (by decide)]
 have L:∀W,(Instr.typeAssert (.iface 33 (.pointer (some ⟨n,0,none⟩))) 44 141 true).run Tryz.prog W= .ok (.tuple #[.pointer none,.bool false]) W:=fun W=>by rw[cw,if_neg (by decide)]
 have t:∀W,(Instr.typeAssert (.iface 33 (.pointer (some ⟨n,0,none⟩))) 44 33 true).run Tryz.prog W= .ok (.tuple #[.pointer (some ⟨n,0,none⟩),.bool true]) W:=fun W=>by rw[dB,if_pos rfl]
 have P9:= @run_makeMap Tryz.prog;have u:=Lib.hid (di hK (A w E));have P_:=Lib.hid hG;have q:=Lib.hid (di hK (w:=w.alloc (.map #[] 0)) ((A w E).below ((Below.refl _ _).alloc (Nat.le_refl _) _)));have P6:=Lib.hid E;obtain⟨K,fn,Qa,M,r,N,hm,Qb,s⟩:=dO hU E.kw;have Qc:=fun args w=>Go.MuLone.run_callFunc_enter M r N args w;have f:=Lib.hid s;clear M r N s;have O:=Lib.hid (iy (eu Tryz.prog) w);have Qd:=jm;clear E hU hK A hG;go_enter Tryz.func149,Tryz.ntmps149;go_wp2_with (first|(at_lookup;refine iz _ rfl _ _ 275 rfl bN 4 Tryz.underlying275 (.bool false) dj rfl (.iface l (.pointer (some ⟨m,0,none⟩))) rfl u.out ?_)|(at_mapUpdate;refine dN _ rfl _ _ _ 275 rfl bN (eJ _) 4 Tryz.underlying275 w.heap.size (fun _=>none) rfl O.out (.iface l (.pointer (some ⟨m,0,none⟩))) (.bool true) rfl rfl q.out ?_;intro Z Q R)|fail)
 have Qe:Hid (b_ Z w.heap.size (bp (fun _=>none) (.iface l (.pointer (some ⟨m,0,none⟩))) (.bool true))):=⟨Q _ (fun y hy=>a7 _ hy) (bG _ _ _),fun x v hv=>by
  by_cases e:x=(.iface l (.pointer (some ⟨m,0,none⟩)))
  ·rw[e,bG]at hv;cases hv;rfl
  ·rw[a7 _ e]at hv;cases hv⟩
 have Qf:Hid (∀y v,bp (fun _=>none) (.iface l (.pointer (some ⟨m,0,none⟩))) (.bool true) y=some v→(P y∨y=(.iface l (.pointer (some ⟨m,0,none⟩))))∨G y):=fun y v h=>by
  by_cases e:y=(.iface l (.pointer (some ⟨m,0,none⟩)))
  ·exact .inl (.inr e)
  ·rw[a7 _ e]at h;cases h
 have C:Below w.heap.size w Z:=((Below.refl _ _).alloc (Nat.le_refl _) _).grown R (by simp) fun k hk=>by cases hk;exact Nat.le_refl _
 have S:Hid (Kept (fun k=>(none:Option Nat)=some k) w Z):=Kept.of C;have a:Hid (an p g Z):=P6.out.below C;clear Q R u q O C;have c0:=a.out.kw _ _ _ hc;have c6:=a.out.kw _ _ _ h6;have c2:=a.out.kw _ _ _ h2;have c3:=a.out.kw _ _ _ h3;have ct:=a.out.kw _ _ _ P5;have T:=Lib.hid (fL P4 a.out.kw);have U:=Lib.hid H;clear H;cases d with
 |true=>
  go_wp2_with fail
  refine(f.out _ a.out.kw).mono ?_;rintro e X ⟨rfl,rfl⟩;go_wp2_with fail
  refine(U.out _ a.out.kw).mono ?_;rintro e X ⟨rfl,rfl⟩;go_wp2_with fail
  go_ret;exact⟨⟨none,rfl,I⟩,S.out,fun b e=>(by cases e)⟩
 |false=>
 go_wp2_with fail
 refine(f.out _ a.out.kw).mono ?_;rintro e X ⟨rfl,rfl⟩;go_wp2_with fail
 refine(gO n tb _ c0 c6).mono ?_;rintro e w2 ⟨rfl,rfl⟩;go_wp2_with fail
 refine(sH tb 1 tc ta F false _ c2 c3 T.out Nat.one_pos ct (some w.heap.size)).mono ?_;rintro e w2 ⟨rfl,j⟩;have f0:=ak j c0;have f6:=ak j c6;have f2:=ak j c2;have V:Hid (bj w2 ta 1 F):=fun i hi=>let⟨b,o,e,hc⟩:=T.out i hi;⟨b,o,e,ak j hc⟩;have z:=Lib.hid j;clear j;go_wp2_with fail
 refine(gO n tb _ f0 f6).mono ?_;rintro e w3 ⟨rfl,rfl⟩;go_wp2_with fail
 refine(sI tb 1 tc ta F _ f2 V.out).mono ?_;rintro e w3 ⟨rfl,rfl⟩;go_wp2_with fail
 refine(jQ _ (by kernel_rfl) _ _ _ _).mono ?_;rintro e w3 ⟨⟨o',rfl⟩,P7⟩;have P8:=z.out.trans (P7.mono z.out.size);go_wp2_with fail
 go_ret;exact⟨⟨some o',rfl,I⟩,S.out.below P8,fun b e=>(by cases e)⟩
theorem oM(p:Pm)(g:Ge)(d:Bool)(G P:Value→Prop)(c:Bool)(f i I:Nat)(hK:bM f)(O:∀w,an p g w→Plain w i)(s:P (.iface f (.pointer (some ⟨i,0,none⟩)))∨G (.iface f (.pointer (some ⟨i,0,none⟩)))→c=true)(hG:c=true→G (.iface f (.pointer (some ⟨i,0,none⟩))))(rt:Nat)(t:rt≠105)(j:rt≠145)(C:rt≠149)(n:rt≠213)(u:rt≠141)(a:rt≠33)(Q:c=false)(hU:∀W:World,KW p W→b8 W f i (.iface rt (.pointer (some ⟨I,0,none⟩)))):
 e_ p g d G P c (.iface f (.pointer (some ⟨i,0,none⟩))):=by
 have R:∀W,(Instr.typeAssert (.iface rt (.pointer (some ⟨I,0,none⟩))) 44 105 true).run Tryz.prog W= .ok (.tuple #[.pointer none,.bool false]) W:=fun W=>by rw[bn,if_neg (t)]
 have J:∀W,(Instr.typeAssert (.iface rt (.pointer (some ⟨I,0,none⟩))) 44 145 true).run Tryz.prog W= .ok (.tuple #[.pointer none,.bool false]) W:=fun W=>by rw[cy,if_neg (j)]
 have P5:∀W,(Instr.typeAssert (.iface rt (.pointer (some ⟨I,0,none⟩))) 44 149 true).run Tryz.prog W= .ok (.tuple #[.pointer none,.bool false]) W:=fun W=>by rw[dK,if_neg (C)]
 have N:∀W,(Instr.typeAssert (.iface rt (.pointer (some ⟨I,0,none⟩))) 44 213 true).run Tryz.prog W= .ok (.tuple #[.pointer none,.bool false]) W:=fun W=>by rw[cJ,if_neg (n)]
 have S:∀W,(Instr.typeAssert (.iface rt (.pointer (some ⟨I,0,none⟩))) 44 141 true).run Tryz.prog W= .ok (.tuple #[.pointer none,.bool false]) W:=fun W=>by rw[cw,if_neg (u)]
 have D:∀W,(Instr.typeAssert (.iface rt (.pointer (some ⟨I,0,none⟩))) 44 33 true).run Tryz.prog W= .ok (.tuple #[.pointer none,.bool false]) W:=fun W=>by rw[dB,if_neg (a)]
 have P_:= @run_makeMap Tryz.prog;intro H w F hE hS hP;obtain⟨hM,hb⟩:=hS;have q:=Lib.hid hM;have z:=Lib.hid hb;have L:=Lib.hid hP;have Qa:=Lib.hid hG;have l:=Lib.hid (di hK (O w hE));have T:=Lib.hid hE;obtain⟨K,fn,Qb,U,A,V,hm,Qc,B⟩:=dO hU hE.kw;have Qd:=fun args w=>Go.MuLone.run_callFunc_enter U A V args w;have E:=Lib.hid B;clear U A V B;have P6:Hid (¬Plain w H):=b_.iB ⟨hM,hb⟩;have Qe:∀W,(binOp .eql 275 (.map (some H)) (.map none)).run Tryz.prog W= .ok (.bool false) W:=fun W=>jl H W;clear hM hb hE hU hK O hP hG;cases r:F (.iface f (.pointer (some ⟨i,0,none⟩)))with
 |some v=>
  have M:=z.out _ _ r;have P7:Hid (c=true):=s (L.out _ _ r);have m:Hid ((F (.iface f (.pointer (some ⟨i,0,none⟩)))).getD (.bool false)= .bool true):=by rw[r,M];rfl
  clear r M s;go_enter Tryz.func149,Tryz.ntmps149;go_wp2_with (first|(at_lookup;refine dM _ rfl _ _ 275 rfl bN 4 Tryz.underlying275 (.bool false) dj H F rfl q.out (.iface f (.pointer (some ⟨i,0,none⟩))) rfl l.out (.bool true) m.out ?_)|fail)
  go_ret;exact⟨⟨none,rfl,P7.out⟩,Kept.refl _ _,fun b e=>by cases e;exact⟨F,⟨q.out,z.out⟩,fun _ y v h=> .inl h⟩⟩
 |none=>
 have m:Hid ((F (.iface f (.pointer (some ⟨i,0,none⟩)))).getD (.bool false)= .bool false):=by rw[r];rfl
 clear r s;go_enter Tryz.func149,Tryz.ntmps149;go_wp2_with (first|(at_lookup;refine dM _ rfl _ _ 275 rfl bN 4 Tryz.underlying275 (.bool false) dj H F rfl q.out (.iface f (.pointer (some ⟨i,0,none⟩))) rfl l.out (.bool false) m.out ?_)|(at_mapUpdate;refine dN _ rfl _ _ _ 275 rfl bN (eJ _) 4 Tryz.underlying275 H F rfl q.out (.iface f (.pointer (some ⟨i,0,none⟩))) (.bool true) rfl rfl l.out ?_;intro w1 X Y)|fail)
 have P8:Hid (b_ w1 H (bp F (.iface f (.pointer (some ⟨i,0,none⟩))) (.bool true))):=⟨X _ (fun y hy=>a7 F hy) (bG _ _ _),fun x v M=>by
  by_cases e:x=(.iface f (.pointer (some ⟨i,0,none⟩)))
  ·rw[e,bG]at M;cases M;rfl
  ·rw[a7 F e]at M;exact z.out _ _ M⟩
 have Qf:Hid (∀y v,bp F (.iface f (.pointer (some ⟨i,0,none⟩))) (.bool true) y=some v→(P y∨y=(.iface f (.pointer (some ⟨i,0,none⟩))))∨G y):=fun y v h=>by
  by_cases e:y=(.iface f (.pointer (some ⟨i,0,none⟩)))
  ·exact .inl (.inr e)
  ·rw[a7 F e]at h;exact(L.out y v h).imp .inl id
 have Z:Hid (Kept (fun k=>some H=some k) w w1):=(Kept.refl _ _).grown Y fun k hk _=>hk;have P9:Hid (an p g w1):=T.out.kept Z.out (fun b e=>by cases e;exact P6.out) (fun e=>by
  cases e;have h:=T.out.cap 65 (by decide) (by decide);exact iC ⟨q.out,z.out⟩ h)
 clear X Y l q m L z;go_wp2_with fail
 refine(E.out _ P9.out.kw).mono ?_;rintro e w' ⟨rfl,rfl⟩;go_wp2_with fail
 refine(sF _ _ _ _).mono ?_;rintro e w2 ⟨⟨o,rfl⟩,P4⟩;go_wp2_with fail
 go_ret;exact⟨⟨some o,rfl,Q⟩,Z.out.below P4,fun b e=>(by cases e;exact⟨_,mD P8.out P4,fun h=>absurd h (by rw[Q];exact Bool.false_ne_true)⟩)⟩
theorem oN(p:Pm)(g:Ge)(d:Bool)(G P:Value→Prop)(c:Bool)(j l B:Nat)(w:World)(H:an p g w)(U:bM j)(C:∀w,an p g w→Plain w l)(hG:c=true→G (.iface j (.pointer (some ⟨l,0,none⟩))))(rt:Nat)(m:rt≠105)(f:rt≠145)(t:rt≠149)(i:rt≠213)(n:rt≠141)(a:rt≠33)(V:c=false)(hU:∀W:World,KW p W→b8 W j l (.iface rt (.pointer (some ⟨B,0,none⟩)))):
 Calls Tryz.prog 149 #[(.iface j (.pointer (some ⟨l,0,none⟩))),.bool d,.map none] w (gQ G c (fun _=>none) none w):=by
 have I:∀W,(Instr.typeAssert (.iface rt (.pointer (some ⟨B,0,none⟩))) 44 105 true).run Tryz.prog W= .ok (.tuple #[.pointer none,.bool false]) W:=fun W=>by rw[bn,if_neg (m)]
 have D:∀W,(Instr.typeAssert (.iface rt (.pointer (some ⟨B,0,none⟩))) 44 145 true).run Tryz.prog W= .ok (.tuple #[.pointer none,.bool false]) W:=fun W=>by rw[cy,if_neg (f)]
 have R:∀W,(Instr.typeAssert (.iface rt (.pointer (some ⟨B,0,none⟩))) 44 149 true).run Tryz.prog W= .ok (.tuple #[.pointer none,.bool false]) W:=fun W=>by rw[dK,if_neg (t)]
 have F:∀W,(Instr.typeAssert (.iface rt (.pointer (some ⟨B,0,none⟩))) 44 213 true).run Tryz.prog W= .ok (.tuple #[.pointer none,.bool false]) W:=fun W=>by rw[cJ,if_neg (i)]
 have J:∀W,(Instr.typeAssert (.iface rt (.pointer (some ⟨B,0,none⟩))) 44 141 true).run Tryz.prog W= .ok (.tuple #[.pointer none,.bool false]) W:=fun W=>by rw[cw,if_neg (n)]
 have u:∀W,(Instr.typeAssert (.iface rt (.pointer (some ⟨B,0,none⟩))) 44 33 true).run Tryz.prog W= .ok (.tuple #[.pointer none,.bool false]) W:=fun W=>by rw[dB,if_neg (a)]
 have P5:= @run_makeMap Tryz.prog;have A:=Lib.hid (di U (C w H));have P6:=Lib.hid hG;have q:=Lib.hid (di U (w:=w.alloc (.map #[] 0)) ((C w H).below ((Below.refl _ _).alloc (Nat.le_refl _) _)));have X:=Lib.hid H;obtain⟨K,fn,P7,L,r,M,hm,P8,s⟩:=dO hU H.kw;have P9:=fun args w=>Go.MuLone.run_callFunc_enter L r M args w;have z:=Lib.hid s;clear L r M s;have N:=Lib.hid (iy (eu Tryz.prog) w);have P_:=jm;clear H hU U C hG;go_enter Tryz.func149,Tryz.ntmps149;go_wp2_with (first|(at_lookup;refine iz _ rfl _ _ 275 rfl bN 4 Tryz.underlying275 (.bool false) dj rfl (.iface j (.pointer (some ⟨l,0,none⟩))) rfl A.out ?_)|(at_mapUpdate;refine dN _ rfl _ _ _ 275 rfl bN (eJ _) 4 Tryz.underlying275 w.heap.size (fun _=>none) rfl N.out (.iface j (.pointer (some ⟨l,0,none⟩))) (.bool true) rfl rfl q.out ?_;intro S O Q)|fail)
 have Qa:Hid (b_ S w.heap.size (bp (fun _=>none) (.iface j (.pointer (some ⟨l,0,none⟩))) (.bool true))):=⟨O _ (fun y hy=>a7 _ hy) (bG _ _ _),fun x v T=>by
  by_cases e:x=(.iface j (.pointer (some ⟨l,0,none⟩)))
  ·rw[e,bG]at T;cases T;rfl
  ·rw[a7 _ e]at T;cases T⟩
 have Qb:Hid (∀y v,bp (fun _=>none) (.iface j (.pointer (some ⟨l,0,none⟩))) (.bool true) y=some v→(P y∨y=(.iface j (.pointer (some ⟨l,0,none⟩))))∨G y):=fun y v h=>by
  by_cases e:y=(.iface j (.pointer (some ⟨l,0,none⟩)))
  ·exact .inl (.inr e)
  ·rw[a7 _ e]at h;cases h
 have E:Below w.heap.size w S:=((Below.refl _ _).alloc (Nat.le_refl _) _).grown Q (by simp) fun k hk=>by cases hk;exact Nat.le_refl _
 have Y:Hid (Kept (fun k=>(none:Option Nat)=some k) w S):=Kept.of E;have Z:Hid (an p g S):=X.out.below E;clear O Q A q N E;go_wp2_with fail
 refine(z.out _ Z.out.kw).mono ?_;rintro e w' ⟨rfl,rfl⟩;go_wp2_with fail
 refine(sF _ _ _ _).mono ?_;rintro e w2 ⟨⟨o,rfl⟩,P4⟩;go_wp2_with fail
 go_ret;exact⟨⟨some o,rfl,V⟩,Y.out.below P4,fun b e=>(by cases e)⟩
end Go.Proofs.YtgbklbbknehefaaGreatDoor
