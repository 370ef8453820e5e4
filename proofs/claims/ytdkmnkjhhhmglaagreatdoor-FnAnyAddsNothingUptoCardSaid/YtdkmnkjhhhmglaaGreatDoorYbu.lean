import Derived.Test.YtdkmnkjhhhmglaaGreatDoorYbt
set_option maxRecDepth 100000
set_option maxHeartbeats 8000000
set_option linter.all false
namespace TS
open Go Go.RowKit Go.Proofs.YtdkmnkjhhhmglaaGreatDoor
section
variable {D:Dl} {T:List U} {NS:List (List UInt8)} {i:Nat}
theorem Hx(E:Env D T NS i){A:U}(h:Mo D.len T NS i (aq [A]) 0 1)(hm:mt T .type (aq [A]) true=true)(l:Mo D.len T NS i (aq [A,bS]) 0 1)(c:mt T .type (aq [A,bS]) true=true):
 jg (ai (aq [A,bS])) (ai (aq [A]))∧jZ D.len (aq [A,bS]) (aq [A]):=by
 refine⟨by rw[yl];exact GJ fun m d=>(pI E h (by omega) (by rw[e_];decide) (by rw[e_];decide) hm m d).1,fun n g o cmp b hk=> ?_⟩;obtain⟨e,s1,s2⟩:=GV E h (by omega) (by rw[e_];decide) (by rw[e_];decide) hm (by rw[eJ];rfl) (by rw[eJ];rfl) (u2:=aq [A,bS]) (a:=bS) (by rw[eJ,eJ];rfl) rfl hk b;have j:=lT E h hm;have k:=lT E l c;rw[hk.eq]at j;rw[b.eq]at k;exact⟨e.symm,s1,s2,fun t f=>(k.1 t f).ok E,fun t f=>(j.1 t f).ok E⟩
end
end TS
namespace Go.Proofs.YtdkmnkjhhhmglaaGreatDoor
open Go.RowKit TS
theorem Hy{D:Dl}{ds:List aF}{NS:List (List UInt8)}(R:Raw NS ds)(hlen:ds.length=D.len)(V:eR D ds)(dc:Nat){u:U}(b:di D ds (aq [u])=true)(h:Names NS u∧u.nm.toList∈NS)(d:u.dep≤1048574)(r:cn u≤1048576)(j:aK (ds.map aF.un)+cB ds≤1099511627776){q:Pm}(k:cE q D ds){W:World}(s:KW q W)(f:br W){l b1:Nat}
 (h2:aj q D [u,bS] (some ⟨l,0,none⟩))(h1:aj q D [u] (some ⟨b1,0,none⟩)):
 Calls Tryz.prog 9 #[.slice D.a D.len dc,.agg #[.int .i64 10,.int .i64 0,.int .i64 0,.bool false,.string ⟨#[]⟩,.string ⟨#[]⟩,.slice (some ⟨l,0,none⟩) 2 2],.agg #[.int .i64 10,.int .i64 0,.int .i64 0,.bool false,.string ⟨#[]⟩,.string ⟨#[]⟩,.slice (some ⟨b1,0,none⟩) 1 1]] W fun e t=>e= .returned (.bool true)∧Below W.heap.size W t:=by
 have E:=kQ R hlen V;have m:Names NS (aq [u]):=jj fun e he=>by
  obtain rfl:e=u:=by simpa using he
  exact⟨h.2,h.1⟩
 have o:Names NS (aq [u,bS]):=jj fun e he=>by
  rcases(by simpa using he:e=u∨e=bS)with rfl|rfl
  ·exact⟨h.2,h.1⟩
  ·exact⟨R.emp,Hv NS⟩
 have da:=Hw;have d1:(aq [u]).dep≤1048575:=jk (n:=1048574) fun e he=>by
  obtain rfl:e=u:=by simpa using he
  exact d
 have d2:(aq [u,bS]).dep≤1048575:=jk (n:=1048574) fun e he=>by
  rcases(by simpa using he:e=u∨e=bS)with rfl|rfl
  ·exact d
  ·omega
 have u1:=ji (c:=1) (by simp) (by omega) h1;have u2:=ji (c:=2) (by simp) (by omega) h2;have g:=G_ b;obtain⟨m1,_,s1,_⟩:=jX R hlen V b m (by omega) (gg (gX k) _ 1 u1);obtain⟨m2,_,s2,_⟩:=jX R hlen V g o (by omega) (gg (gX k) _ 1 u2);rw[pE]at m1 s1;rw[pF]at m2 s2;have p:=Hx E m1 s1 m2 s2;have v:cn bS=1:=by rw[cW];rfl
 have c1:cn (aq [u])=1+cn u:=by rw[cW];simp[aq,U.es,aK]
 have c2:cn (aq [u,bS])=1+(cn u+1):=by rw[cW];simp[aq,U.es,aK,v]
 exact sj R hlen V dc k j g b o m (by omega) (by omega) (by omega) (by omega) rfl rfl (by rw[pF,pE];exact p.1) (by rw[pF,pE];exact p.2) u2 u1 s f
theorem sk{D:Dl}{ds:List aF}{NS:List (List UInt8)}(R:Raw NS ds)(hlen:ds.length=D.len)(p:Pm)(dc:Nat)(hD:cE p D ds)(P0:aK (ds.map aF.un)+cB ds≤1099511627776)(u:U)(hn:Names NS u∧u.nm.toList∈NS)(PS:u.dep≤1048574)(P1:cn u≤1048576)(a:Option Addr)(c:Nat)(w:World)(hu:ak p D u a c)(hw:KW p w)(PT:br w):
 Calls Tryz.prog 3 #[.slice D.a D.len dc,.agg #[.int .i64 u.k,.int .i64 u.n,.int .i64 u.m,.bool u.v,.string u.nm,.string u.tg,.slice a u.es.length c]] w fun e w'=>e= .returned (.bool true)∧Below w.heap.size w w':=by
 have Qg:=hD.kW;have h1:¬(2147483647:Int)<(D.len:Int):=by omega
 have P2:Below w.heap.size w (w.alloc (.cells #[.int .i64 u.k,.int .i64 u.n,.int .i64 u.m,.bool u.v,.string u.nm,.string u.tg,.slice a u.es.length c] 25)):=(Below.refl _ _).alloc (Nat.le_refl _) _;have hF:=Lib.hid (se u a c (w.alloc (.cells #[.int .i64 u.k,.int .i64 u.n,.int .i64 u.m,.bool u.v,.string u.nm,.string u.tg,.slice a u.es.length c] 25)) hu);have P3:(w.alloc (.cells #[.int .i64 u.k,.int .i64 u.n,.int .i64 u.m,.bool u.v,.string u.nm,.string u.tg,.slice a u.es.length c] 25)).heap[w.heap.size]?=some (.cells #[.int .i64 u.k,.int .i64 u.n,.int .i64 u.m,.bool u.v,.string u.nm,.string u.tg,.slice a u.es.length c] 25):=cV rfl;have PU:TS.L7 (w.alloc (.cells #[.int .i64 u.k,.int .i64 u.n,.int .i64 u.m,.bool u.v,.string u.nm,.string u.tg,.slice a u.es.length c] 25)) w.heap.size u a c:=by(repeat' apply And.intro)<;>(simp only[World.cell?,P3];rfl)
 have PX:=Lib.hid PU;have PV:=Lib.hid P2;have P4:=Lib.hid hD;have P5:=Lib.hid hu;have P6:=Lib.hid hw;have L:=Lib.hid PT;have P7:=Lib.hid P0;have P8:=Lib.hid P1;have X:=Lib.hid hlen;have PY:=Lib.hid hn;have Y:=Lib.hid PS;clear hD hu hw PT P0 P1 hlen hn PS PU P3 P2;go_enter Tryz.func3,Tryz.ntmps3;go_wp2_with fail
 refine hF.out.mono ?_;rintro e1 J ⟨rfl,s⟩;have Qh:=Lib.hid s;have z:=PX.out;obtain⟨z0,z1,z2,z3,z4,z5,z6⟩:(J.cell? ⟨w.heap.size,0,none⟩=some (.int .i64 u.k)∧J.cell? ⟨w.heap.size,1,none⟩=some (.int .i64 u.n)∧J.cell? ⟨w.heap.size,2,none⟩=some (.int .i64 u.m)∧J.cell? ⟨w.heap.size,3,none⟩=some (.bool u.v)∧J.cell? ⟨w.heap.size,4,none⟩=some (.string u.nm)∧J.cell? ⟨w.heap.size,5,none⟩=some (.string u.tg)∧J.cell? ⟨w.heap.size,6,none⟩=some (.slice a u.es.length c)):=⟨ar s z.1,ar s z.2.1,ar s z.2.2.1,ar s z.2.2.2.1,ar s z.2.2.2.2.1,ar s z.2.2.2.2.2.1,ar s z.2.2.2.2.2.2⟩
 have G:w.heap.size<J.heap.size:=by have:=s.size;simp at this;omega
 have O:=Lib.hid (show Below w.heap.size w J from PV.out.trans (s.mono PV.out.size));have P9:=Lib.hid (P6.out.grown O.out);clear s hF z;go_wp2_with fail
 refine(eT _ _ _ _).mono ?_;rintro e2 w2 ⟨rfl,P⟩;obtain⟨q1,P_,I,Qa⟩:=aj.iQ P9.out P5.out;have Z:=I.grown P;have Qb:=ji (c:=1) (by simp) (by omega) Qa;obtain⟨q2,Qc,Qd,Qe⟩:=aj.iQ Z Qb;have PM:=Lib.hid (show Below w.heap.size w w2 from(O.out.alloc O.out.size _).trans (P.mono (by have:=O.out.size;simp;omega)));have Qf:Hid (Calls Tryz.prog 7 #[.slice D.a D.len dc,.slice (some ⟨w2.heap.size,0,none⟩) 1 1] (w2.alloc (.cells #[.int .i64 10,.int .i64 0,.int .i64 0,.bool false,.string ⟨#[]⟩,.string ⟨#[]⟩,.slice (some ⟨J.heap.size,0,none⟩) 1 1] 25)) fun e w'=>(∃b,e= .returned (.bool b)∧Hid (b=true→eR D ds∧di D ds (aq [u])=true))∧Below (w2.alloc (.cells #[.int .i64 10,.int .i64 0,.int .i64 0,.bool false,.string ⟨#[]⟩,.string ⟨#[]⟩,.slice (some ⟨J.heap.size,0,none⟩) 1 1] 25)).heap.size (w2.alloc (.cells #[.int .i64 10,.int .i64 0,.int .i64 0,.bool false,.string ⟨#[]⟩,.string ⟨#[]⟩,.slice (some ⟨J.heap.size,0,none⟩) 1 1] 25)) w'):=
  sf R X.out q2 dc (P4.out.sub (P_.trans Qc)) (aq [u]) ⟨jj fun e he=>by
   obtain rfl:e=u:=by simpa using he
   exact⟨PY.out.2,PY.out.1⟩,Nat.le_trans (jk (n:=1048574) fun e he=>by
   obtain rfl:e=u:=by simpa using he
   exact Y.out) (by decide)⟩ _ _ Qe Qd
 have Q:=Lib.hid (show Below J.heap.size J w2 from((Below.refl _ _).alloc (Nat.le_refl _) _).trans (P.mono (by simp)));have PN:w.heap.size<w2.heap.size:=by have:=Q.out.size;omega
 clear P I Z Qd Qa Qe Qb P_ Qc;go_wp2_with fail
 refine Qf.out.mono ?_;rintro e3 w3 ⟨⟨b,rfl,hb⟩,PO⟩;have PQ:=Lib.hid (show Below w.heap.size w w3 from(PM.out.alloc PM.out.size _).trans (PO.mono (by have:=PM.out.size;simp;omega)));have F:=Lib.hid (show Below J.heap.size J w3 from(Q.out.alloc Q.out.size _).trans (PO.mono (by have:=Q.out.size;simp;omega)));clear PO Qf;cases b with
 |false=>
  go_wp2_with fail
  go_ret;exact⟨rfl,PQ.out⟩
 |true=>
  obtain⟨V,PW⟩:=hb.out rfl;have PZ:=Lib.hid fun(q:Pm) (W:World) (b2 b1:Nat) (hs:Sub p q) (M:KW q W) (hc:br W) (g2:aj q D [u,bS] (some ⟨b2,0,none⟩)) (g1:aj q D [u] (some ⟨b1,0,none⟩))=>Hy R X.out V dc PW PY.out Y.out P8.out P7.out (P4.out.sub hs) M hc g2 g1;have Qi:w.heap.size<w3.heap.size:=by have:=F.out.size;omega
  obtain⟨y0,y1,y2,y3,y4,y5,y6⟩:(w3.cell? ⟨w.heap.size,0,none⟩=some (.int .i64 u.k)∧w3.cell? ⟨w.heap.size,1,none⟩=some (.int .i64 u.n)∧w3.cell? ⟨w.heap.size,2,none⟩=some (.int .i64 u.m)∧w3.cell? ⟨w.heap.size,3,none⟩=some (.bool u.v)∧w3.cell? ⟨w.heap.size,4,none⟩=some (.string u.nm)∧w3.cell? ⟨w.heap.size,5,none⟩=some (.string u.tg)∧w3.cell? ⟨w.heap.size,6,none⟩=some (.slice a u.es.length c)):=⟨ar F.out z0,ar F.out z1,ar F.out z2,ar F.out z3,ar F.out z4,ar F.out z5,ar F.out z6⟩
  have j:=Lib.hid (P6.out.grown PQ.out.drew);have d:=Lib.hid PQ.out.drew;have t:=Lib.hid P5.out;have x:=Lib.hid (Sub.refl p);clear z0 z1 z2 z3 z4 z5 z6 hb PW;go_wp2_with fail
  refine rN (fun W=>(W.cell? ⟨w.heap.size,0,none⟩=some (.int .i64 u.k)∧W.cell? ⟨w.heap.size,1,none⟩=some (.int .i64 u.n)∧W.cell? ⟨w.heap.size,2,none⟩=some (.int .i64 u.m)∧W.cell? ⟨w.heap.size,3,none⟩=some (.bool u.v)∧W.cell? ⟨w.heap.size,4,none⟩=some (.string u.nm)∧W.cell? ⟨w.heap.size,5,none⟩=some (.string u.tg)∧W.cell? ⟨w.heap.size,6,none⟩=some (.slice a u.es.length c))) (.one 0 true (.one 1 true (.one 2 true (.one 5 true (.two 3 6 (.two 4 6 (.one 6 false (.one 7 false (.one 8 false (.one 9 true .done)))) (.one 4 false (.one 7 false (.one 8 false (.one 9 true .done))))) (.one 3 false (.one 4 false (.one 7 false (.one 8 false (.one 9 true .done)))))))))) (by kernel_rfl) (by kernel_rfl) (by kernel_rfl) (by decide) (by(repeat' apply And.intro)<;>assumption) (fun h=> ?_);generalize w3.drew=W0 at*;(refine cC rfl (by rfl) (by intro W M;(try dsimp only at M);go_simp<;>with_reducible rfl) ?_;try simp only[Act.put,oa,ob,oc])
  (refine cC rfl (by rfl) (by intro W M;(try dsimp only at M);go_simp<;>with_reducible rfl) ?_;try simp only[Act.put,oa,ob,oc])
  (refine cC rfl (by rfl) (by intro W M;(try dsimp only at M);go_simp<;>with_reducible rfl) ?_;try simp only[Act.put,oa,ob,oc])
  (refine cC rfl (by rfl) (by intro W M;(try dsimp only at M);go_simp<;>with_reducible rfl) ?_;try simp only[Act.put,oa,ob,oc])
  refine kP rfl rfl (by rfl) (by rfl) (fun K l=> ?_) (fun K l=> ?_)
  ·obtain⟨q0,N,PR,r⟩:∃H,Sub p H∧KW H (W0.alloc (.cells #[.int .i64 u.k,.int .i64 u.n,.int .i64 u.m,.bool u.v,.string u.nm,.string u.tg,.slice a u.es.length c,.int .i64 14,.int .i64 0,.int .i64 0,.bool false,.string ⟨#[]⟩,.string ⟨#[]⟩,.slice none 0 0] 25))∧aj H D [u,bS] (some ⟨W0.heap.size,0,none⟩):=aj.j7 j.out t.out (yF p D)
   have r:=Lib.hid r;have t:=Lib.hid (ak.sub N _ t.out);have x:=Lib.hid (x.out.trans N);have j:=Lib.hid PR;have f:=Lib.hid ((Below.refl W0.heap.size W0).alloc (Nat.le_refl _) (.cells #[.int .i64 u.k,.int .i64 u.n,.int .i64 u.m,.bool u.v,.string u.nm,.string u.tg,.slice a u.es.length c,.int .i64 14,.int .i64 0,.int .i64 0,.bool false,.string ⟨#[]⟩,.string ⟨#[]⟩,.slice none 0 0] 25));have d:=Lib.hid (d.out.trans (f.out.mono d.out.size));clear PR N;go_simp
   obtain⟨y,s1,s2,A,B,C,E⟩:=h;((try simp only[]);refine l _ _ (by(repeat' apply And.intro)<;>exact ar f.out (by assumption)) (fun h=> ?_);clear l K;try simp only[Act.put,oa,ob,oc])
   clear y s1 s2 A B C E;generalize W0.alloc (.cells #[.int .i64 u.k,.int .i64 u.n,.int .i64 u.m,.bool u.v,.string u.nm,.string u.tg,.slice a u.es.length c,.int .i64 14,.int .i64 0,.int .i64 0,.bool false,.string ⟨#[]⟩,.string ⟨#[]⟩,.slice none 0 0] 25)=S at*;refine kP rfl rfl (by rfl) (by rfl) (fun K l=> ?_) (fun K l=> ?_)
   ·go_simp
    go_at_call 8
    refine(eT _ _ _ S).mono ?_;rintro e1 W2 ⟨rfl,g⟩;have f:=Lib.hid g;have d:=Lib.hid (d.out.trans (f.out.mono d.out.size));have j:=Lib.hid (j.out.grown g);clear g;obtain⟨y,s1,s2,A,B,C,E⟩:=h;((try simp only[]);refine l _ _ (by(repeat' apply And.intro)<;>exact ar f.out (by assumption)) (fun h=> ?_);clear l K;try simp only[Act.put,oa,ob,oc])
    clear y s1 s2 A B C E;obtain⟨q2,PN,Z,o⟩:∃H,Sub q0 H∧KW H (W2.alloc (.cells #[.int .i64 u.k,.int .i64 u.n,.int .i64 u.m,.bool u.v,.string u.nm,.string u.tg,.slice a u.es.length c] 25))∧aj H D [u] (some ⟨W2.heap.size,0,none⟩):=aj.iQ j.out t.out;have r:=Lib.hid (aj.sub PN _ r.out);have o:=Lib.hid o;have t:=Lib.hid (ak.sub PN _ t.out);have x:=Lib.hid (x.out.trans PN);have j:=Lib.hid Z;have f:=Lib.hid ((Below.refl W2.heap.size W2).alloc (Nat.le_refl _) (.cells #[.int .i64 u.k,.int .i64 u.n,.int .i64 u.m,.bool u.v,.string u.nm,.string u.tg,.slice a u.es.length c] 25));have d:=Lib.hid (d.out.trans (f.out.mono d.out.size));clear Z PN;refine bR rfl (by rfl) (fun K l=> ?_);go_simp
    obtain⟨y,s1,s2,A,B,C,E⟩:=h;((try simp only[]);refine l _ _ (by(repeat' apply And.intro)<;>exact ar f.out (by assumption)) (fun h=> ?_);clear l K;try simp only[Act.put,oa,ob,oc])
    clear y s1 s2 A B C E;generalize W2.alloc (.cells #[.int .i64 u.k,.int .i64 u.n,.int .i64 u.m,.bool u.v,.string u.nm,.string u.tg,.slice a u.es.length c] 25)=W3 at*;refine bR rfl (by rfl) (fun K l=> ?_);go_simp
    go_at_call 8
    refine(eT _ _ _ W3).mono ?_;rintro e3 W4 ⟨rfl,g⟩;have f:=Lib.hid g;have d:=Lib.hid (d.out.trans (f.out.mono d.out.size));have j:=Lib.hid (j.out.grown g);clear g;obtain⟨y,s1,s2,A,B,C,E⟩:=h;((try simp only[]);refine l _ _ (by(repeat' apply And.intro)<;>exact ar f.out (by assumption)) (fun h=> ?_);clear l K;try simp only[Act.put,oa,ob,oc])
    clear y s1 s2 A B C E;refine bR rfl (by rfl) (fun K l=> ?_);go_simp
    go_at_call 9
    refine(PZ.out q2 W4 _ _ x.out j.out (fun k h1 h2=>ar d.out (L.out k h1 h2)) r.out o.out).mono ?_;rintro e9 W9 ⟨rfl,g⟩;have f:=Lib.hid g;have d:=Lib.hid (d.out.trans (f.out.mono d.out.size));clear g;obtain⟨y,s1,s2,A,B,C,E⟩:=h;((try simp only[]);refine l _ _ (by(repeat' apply And.intro)<;>exact ar f.out (by assumption)) (fun h=> ?_);clear l K;try simp only[Act.put,oa,ob,oc])
    clear y s1 s2 A B C E;(refine cC rfl (by rfl) (by intro W M;(try dsimp only at M);go_simp<;>with_reducible rfl) ?_;try simp only[Act.put,oa,ob,oc])
    refine gL ?_;clear h;go_wp2_with fail
    go_ret;exact⟨rfl,d.out⟩
   ·obtain⟨q1,G,I,o⟩:∃H,Sub q0 H∧KW H (S.alloc (.cells #[.int .i64 u.k,.int .i64 u.n,.int .i64 u.m,.bool u.v,.string u.nm,.string u.tg,.slice a u.es.length c] 25))∧aj H D [u] (some ⟨S.heap.size,0,none⟩):=aj.iQ j.out t.out
    have r:=Lib.hid (aj.sub G _ r.out);have o:=Lib.hid o;have t:=Lib.hid (ak.sub G _ t.out);have x:=Lib.hid (x.out.trans G);have j:=Lib.hid I;have f:=Lib.hid ((Below.refl S.heap.size S).alloc (Nat.le_refl _) (.cells #[.int .i64 u.k,.int .i64 u.n,.int .i64 u.m,.bool u.v,.string u.nm,.string u.tg,.slice a u.es.length c] 25));have d:=Lib.hid (d.out.trans (f.out.mono d.out.size));clear I G;go_simp
    obtain⟨y,s1,s2,A,B,C,E⟩:=h;((try simp only[]);refine l _ _ (by(repeat' apply And.intro)<;>exact ar f.out (by assumption)) (fun h=> ?_);clear l K;try simp only[Act.put,oa,ob,oc])
    clear y s1 s2 A B C E;generalize S.alloc (.cells #[.int .i64 u.k,.int .i64 u.n,.int .i64 u.m,.bool u.v,.string u.nm,.string u.tg,.slice a u.es.length c] 25)=W2 at*;refine bR rfl (by rfl) (fun K l=> ?_);go_simp
    go_at_call 8
    refine(eT _ _ _ W2).mono ?_;rintro e2 W3 ⟨rfl,g⟩;have f:=Lib.hid g;have d:=Lib.hid (d.out.trans (f.out.mono d.out.size));have j:=Lib.hid (j.out.grown g);clear g;obtain⟨y,s1,s2,A,B,C,E⟩:=h;((try simp only[]);refine l _ _ (by(repeat' apply And.intro)<;>exact ar f.out (by assumption)) (fun h=> ?_);clear l K;try simp only[Act.put,oa,ob,oc])
    clear y s1 s2 A B C E;refine bR rfl (by rfl) (fun K l=> ?_);go_simp
    go_at_call 8
    refine(eT _ _ _ W3).mono ?_;rintro e3 W4 ⟨rfl,g⟩;have f:=Lib.hid g;have d:=Lib.hid (d.out.trans (f.out.mono d.out.size));have j:=Lib.hid (j.out.grown g);clear g;obtain⟨y,s1,s2,A,B,C,E⟩:=h;((try simp only[]);refine l _ _ (by(repeat' apply And.intro)<;>exact ar f.out (by assumption)) (fun h=> ?_);clear l K;try simp only[Act.put,oa,ob,oc])
    clear y s1 s2 A B C E;refine bR rfl (by rfl) (fun K l=> ?_);go_simp
    go_at_call 9
    refine(PZ.out q1 W4 _ _ x.out j.out (fun k h1 h2=>ar d.out (L.out k h1 h2)) r.out o.out).mono ?_;rintro e9 W9 ⟨rfl,g⟩;have f:=Lib.hid g;have d:=Lib.hid (d.out.trans (f.out.mono d.out.size));clear g;obtain⟨y,s1,s2,A,B,C,E⟩:=h;((try simp only[]);refine l _ _ (by(repeat' apply And.intro)<;>exact ar f.out (by assumption)) (fun h=> ?_);clear l K;try simp only[Act.put,oa,ob,oc])
    clear y s1 s2 A B C E;(refine cC rfl (by rfl) (by intro W M;(try dsimp only at M);go_simp<;>with_reducible rfl) ?_;try simp only[Act.put,oa,ob,oc])
    refine gL ?_;clear h;go_wp2_with fail
    go_ret;exact⟨rfl,d.out⟩
  ·obtain⟨q0,N,PR,o⟩:∃H,Sub p H∧KW H (W0.alloc (.cells #[.int .i64 u.k,.int .i64 u.n,.int .i64 u.m,.bool u.v,.string u.nm,.string u.tg,.slice a u.es.length c] 25))∧aj H D [u] (some ⟨W0.heap.size,0,none⟩):=aj.iQ j.out t.out
   have o:=Lib.hid o;have t:=Lib.hid (ak.sub N _ t.out);have x:=Lib.hid (x.out.trans N);have j:=Lib.hid PR;have f:=Lib.hid ((Below.refl W0.heap.size W0).alloc (Nat.le_refl _) (.cells #[.int .i64 u.k,.int .i64 u.n,.int .i64 u.m,.bool u.v,.string u.nm,.string u.tg,.slice a u.es.length c] 25));have d:=Lib.hid (d.out.trans (f.out.mono d.out.size));clear PR N;go_simp
   obtain⟨y,s1,s2,A,B,C,E⟩:=h;((try simp only[]);refine l _ _ (by(repeat' apply And.intro)<;>exact ar f.out (by assumption)) (fun h=> ?_);clear l K;try simp only[Act.put,oa,ob,oc])
   clear y s1 s2 A B C E;generalize W0.alloc (.cells #[.int .i64 u.k,.int .i64 u.n,.int .i64 u.m,.bool u.v,.string u.nm,.string u.tg,.slice a u.es.length c] 25)=S at*;obtain⟨q1,G,I,r⟩:∃H,Sub q0 H∧KW H (S.alloc (.cells #[.int .i64 u.k,.int .i64 u.n,.int .i64 u.m,.bool u.v,.string u.nm,.string u.tg,.slice a u.es.length c,.int .i64 14,.int .i64 0,.int .i64 0,.bool false,.string ⟨#[]⟩,.string ⟨#[]⟩,.slice none 0 0] 25))∧aj H D [u,bS] (some ⟨S.heap.size,0,none⟩):=aj.j7 j.out t.out (yF q0 D);have o:=Lib.hid (aj.sub G _ o.out);have r:=Lib.hid r;have t:=Lib.hid (ak.sub G _ t.out);have x:=Lib.hid (x.out.trans G);have j:=Lib.hid I;have f:=Lib.hid ((Below.refl S.heap.size S).alloc (Nat.le_refl _) (.cells #[.int .i64 u.k,.int .i64 u.n,.int .i64 u.m,.bool u.v,.string u.nm,.string u.tg,.slice a u.es.length c,.int .i64 14,.int .i64 0,.int .i64 0,.bool false,.string ⟨#[]⟩,.string ⟨#[]⟩,.slice none 0 0] 25));have d:=Lib.hid (d.out.trans (f.out.mono d.out.size));clear I G;refine bR rfl (by rfl) (fun K l=> ?_);go_simp
   obtain⟨y,s1,s2,A,B,C,E⟩:=h;((try simp only[]);refine l _ _ (by(repeat' apply And.intro)<;>exact ar f.out (by assumption)) (fun h=> ?_);clear l K;try simp only[Act.put,oa,ob,oc])
   clear y s1 s2 A B C E;generalize S.alloc (.cells #[.int .i64 u.k,.int .i64 u.n,.int .i64 u.m,.bool u.v,.string u.nm,.string u.tg,.slice a u.es.length c,.int .i64 14,.int .i64 0,.int .i64 0,.bool false,.string ⟨#[]⟩,.string ⟨#[]⟩,.slice none 0 0] 25)=W2 at*;refine bR rfl (by rfl) (fun K l=> ?_);go_simp
   go_at_call 8
   refine(eT _ _ _ W2).mono ?_;rintro e2 W3 ⟨rfl,g⟩;have f:=Lib.hid g;have d:=Lib.hid (d.out.trans (f.out.mono d.out.size));have j:=Lib.hid (j.out.grown g);clear g;obtain⟨y,s1,s2,A,B,C,E⟩:=h;((try simp only[]);refine l _ _ (by(repeat' apply And.intro)<;>exact ar f.out (by assumption)) (fun h=> ?_);clear l K;try simp only[Act.put,oa,ob,oc])
   clear y s1 s2 A B C E;refine bR rfl (by rfl) (fun K l=> ?_);go_simp
   go_at_call 8
   refine(eT _ _ _ W3).mono ?_;rintro e3 W4 ⟨rfl,g⟩;have f:=Lib.hid g;have d:=Lib.hid (d.out.trans (f.out.mono d.out.size));have j:=Lib.hid (j.out.grown g);clear g;obtain⟨y,s1,s2,A,B,C,E⟩:=h;((try simp only[]);refine l _ _ (by(repeat' apply And.intro)<;>exact ar f.out (by assumption)) (fun h=> ?_);clear l K;try simp only[Act.put,oa,ob,oc])
   clear y s1 s2 A B C E;refine bR rfl (by rfl) (fun K l=> ?_);go_simp
   go_at_call 9
   refine(PZ.out q1 W4 _ _ x.out j.out (fun k h1 h2=>ar d.out (L.out k h1 h2)) r.out o.out).mono ?_;rintro e9 W9 ⟨rfl,g⟩;have f:=Lib.hid g;have d:=Lib.hid (d.out.trans (f.out.mono d.out.size));clear g;obtain⟨y,s1,s2,A,B,C,E⟩:=h;((try simp only[]);refine l _ _ (by(repeat' apply And.intro)<;>exact ar f.out (by assumption)) (fun h=> ?_);clear l K;try simp only[Act.put,oa,ob,oc])
   clear y s1 s2 A B C E;(refine cC rfl (by rfl) (by intro W M;(try dsimp only at M);go_simp<;>with_reducible rfl) ?_;try simp only[Act.put,oa,ob,oc])
   refine gL ?_;clear h;go_wp2_with fail
   go_ret;exact⟨rfl,d.out⟩
end Go.Proofs.YtdkmnkjhhhmglaaGreatDoor
