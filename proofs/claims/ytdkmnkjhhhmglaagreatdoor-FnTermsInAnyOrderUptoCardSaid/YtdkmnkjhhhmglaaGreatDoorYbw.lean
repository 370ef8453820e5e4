import Derived.Test.YtdkmnkjhhhmglaaGreatDoorYam
import Derived.Test.YtdkmnkjhhhmglaaGreatDoorYbt
set_option maxRecDepth 100000
set_option maxHeartbeats 8000000
set_option linter.all false
namespace TS
open Go Go.RowKit Go.Proofs.YtdkmnkjhhhmglaaGreatDoor
theorem sK{p:Pm}{D:Dl}{l:List U}{a:Option Addr}{c:Nat}(b:l.length≤c)(h2:c≤2)(h:aj p D l a):ak p D (aT l) a c:=by
 unfold aT;simp only[ak];exact⟨⟨b,by omega,by decide,by decide,by decide,by decide,by decide⟩,h,fun h=>absurd h (by decide)⟩
end TS
namespace Go.Proofs.YtdkmnkjhhhmglaaGreatDoor
open Go.RowKit TS
theorem sL{p:Pm}{D:Dl}{u v:U}{a a':Option Addr}{c c':Nat}{w:World}(hw:KW p w)(hu:ak p D u a c)(h:ak p D v a' c'):
 Calls Tryz.prog 10 #[.agg #[.int .i64 u.k,.int .i64 u.n,.int .i64 u.m,.bool u.v,.string u.nm,.string u.tg,.slice a u.es.length c],.agg #[.int .i64 v.k,.int .i64 v.n,.int .i64 v.m,.bool v.v,.string v.nm,.string v.tg,.slice a' v.es.length c']] w fun e i=> ∃q g,e= .returned (.agg #[.int .i64 12,.int .i64 0,.int .i64 0,.bool false,.string ⟨#[]⟩,.string ⟨#[]⟩,.slice (some ⟨g,0,none⟩) 2 2])∧Sub p q∧KW q i∧aj q D [u,v] (some ⟨g,0,none⟩)∧Below w.heap.size w i:=by
 have b:Below w.heap.size w (((w.alloc (.cells #[.int .i64 u.k,.int .i64 u.n,.int .i64 u.m,.bool u.v,.string u.nm,.string u.tg,.slice a u.es.length c] 25)).alloc (.cells #[.int .i64 v.k,.int .i64 v.n,.int .i64 v.m,.bool v.v,.string v.nm,.string v.tg,.slice a' v.es.length c'] 25)).alloc (.cells #[.int .i64 12,.int .i64 0,.int .i64 0,.bool false,.string ⟨#[]⟩,.string ⟨#[]⟩,.slice (some ⟨w.heap.size+1+1+1,0,none⟩) 2 2] 25)):=(((Below.refl _ _).alloc (Nat.le_refl _) _).alloc (by simp) _).alloc (by simp;omega) _;obtain⟨q,j,hk,l⟩:=aj.yE (hw.grown b) hu h;have d:=Lib.hid (b.alloc b.size (.cells #[.int .i64 u.k,.int .i64 u.n,.int .i64 u.m,.bool u.v,.string u.nm,.string u.tg,.slice a u.es.length c,.int .i64 v.k,.int .i64 v.n,.int .i64 v.m,.bool v.v,.string v.nm,.string v.tg,.slice a' v.es.length c'] 25));have f:=Lib.hid (And.intro j (And.intro hk l));clear b j hk l hw hu h;go_enter Tryz.func10,Tryz.ntmps10;go_wp2_with fail
 refine bodyPost_ret (v:= .agg #[.int .i64 12,.int .i64 0,.int .i64 0,.bool false,.string ⟨#[]⟩,.string ⟨#[]⟩,.slice (some ⟨w.heap.size+3,0,none⟩) 2 2]) (by simp[results,Tryz.results10,go_sem]) rfl ?_;refine⟨q,w.heap.size+3,rfl,f.out.1.le,?_,?_,?_⟩
 ·exact f.out.2.1
 ·have:=f.out.2.2
  simpa using this
 ·exact d.out
abbrev SB(w:World)(u:U)(a:Option Addr)(c:Nat)(v:U)(a':Option Addr)(c':Nat)(W:World):Prop:=(W.cell? ⟨w.heap.size,0,none⟩=some (.int .i64 u.k)∧W.cell? ⟨w.heap.size,1,none⟩=some (.int .i64 u.n)∧W.cell? ⟨w.heap.size,2,none⟩=some (.int .i64 u.m)∧W.cell? ⟨w.heap.size,3,none⟩=some (.bool u.v)∧W.cell? ⟨w.heap.size,4,none⟩=some (.string u.nm)∧W.cell? ⟨w.heap.size,5,none⟩=some (.string u.tg)∧W.cell? ⟨w.heap.size,6,none⟩=some (.slice a u.es.length c))∧(W.cell? ⟨w.heap.size+1,0,none⟩=some (.int .i64 v.k)∧W.cell? ⟨w.heap.size+1,1,none⟩=some (.int .i64 v.n)∧W.cell? ⟨w.heap.size+1,2,none⟩=some (.int .i64 v.m)∧W.cell? ⟨w.heap.size+1,3,none⟩=some (.bool v.v)∧W.cell? ⟨w.heap.size+1,4,none⟩=some (.string v.nm)∧W.cell? ⟨w.heap.size+1,5,none⟩=some (.string v.tg)∧W.cell? ⟨w.heap.size+1,6,none⟩=some (.slice a' v.es.length c'))
theorem SB.up{w W W':World}{u v:U}{a a':Option Addr}{c c':Nat}(h:SB w u a c v a' c' W)(b:Below W.heap.size W W'):SB w u a c v a' c' W':=by
 obtain⟨⟨d,s1,s2,e,f,g,i⟩,t0,t1,t2,t3,t4,t5,t6⟩:=h;(repeat' apply And.intro)<;>exact ar b (by assumption)
structure St(p q:Pm)(D:Dl)(w W:World)(u:U)(a:Option Addr)(c:Nat)(v:U)(a':Option Addr)(c':Nat):Prop where
 kw:KW q W
 b:Below w.heap.size w W
 u:ak q D u a c
 v:ak q D v a' c'
 s:Sub p q
section
variable {p q q':Pm} {D:Dl} {w W W':World} {u v:U} {a a':Option Addr} {c c':Nat}
theorem St.grown(h:St p q D w W u a c v a' c')(d:Below W.heap.size W W'):St p q D w W' u a c v a' c':={h with kw:=h.kw.grown d,b:=h.b.trans (d.mono h.b.size)}
theorem St.grow(h:St p q D w W u a c v a' c')(e:Below W.heap.size W W')(d:Sub q q')(hk:KW q' W'):St p q' D w W' u a c v a' c':=⟨hk,h.b.trans (e.mono h.b.size),ak.sub d _ h.u,ak.sub d _ h.v,h.s.trans d⟩
end
theorem HI{D:Dl}{ds:List aF}{NS:List (List UInt8)}(R:Raw NS ds)(hlen:ds.length=D.len)(V:eR D ds)(dc:Nat){u v:U}(b:di D ds (aq [u,v])=true)(d:∀e,e=u∨e=v→e.nm.toList∈NS∧Names NS e)(f:∀e,e=u∨e=v→e.dep≤1048574)(n:cn u≤1048576)(o:cn v≤1048576)(i:aK (ds.map aF.un)+cB ds≤1099511627776){q:Pm}(j:cE q D ds){W:World}(r:KW q W)(g:br W){b1 k:Nat}
 (h1:aj q D [u,v] (some ⟨b1,0,none⟩))(h2:aj q D [v,u] (some ⟨k,0,none⟩)):
 Calls Tryz.prog 9 #[.slice D.a D.len dc,.agg #[.int .i64 10,.int .i64 0,.int .i64 0,.bool false,.string ⟨#[]⟩,.string ⟨#[]⟩,.slice (some ⟨b1,0,none⟩) 2 2],.agg #[.int .i64 10,.int .i64 0,.int .i64 0,.bool false,.string ⟨#[]⟩,.string ⟨#[]⟩,.slice (some ⟨k,0,none⟩) 2 2]] W fun e s=>e= .returned (.bool true)∧Below W.heap.size W s:=by
 have E:=kQ R hlen V;have l:Names NS (aq [u,v]):=jj fun e he=>d e (by simpa using he);have m:Names NS (aq [v,u]):=jj fun e he=>d e (by simpa [or_comm]using he);have d1:(aq [u,v]).dep≤1048575:=jk fun e he=>f e (by simpa using he);have d2:(aq [v,u]).dep≤1048575:=jk fun e he=>f e (by simpa [or_comm]using he);have u1:=ji (c:=2) (by simp) (by omega) h1;have u2:=ji (c:=2) (by simp) (by omega) h2;obtain⟨m1,_,s1,_⟩:=jX R hlen V b l (by omega) (gg (gX j) _ 1 u1);have h:=Hr E m1 b;obtain⟨m2,_,s2,_⟩:=jX R hlen V h m (by omega) (gg (gX j) _ 1 u2);rw[lP]at m1 s1 m2 s2;have c1:cn (aq [u,v])=1+(cn u+cn v):=by rw[cW];simp[aq,U.es,aK]
 have c2:cn (aq [v,u])=1+(cn v+cn u):=by rw[cW];simp[aq,U.es,aK]
 exact sj R hlen V dc j i b h l m (by omega) (by omega) (by omega) (by omega) rfl rfl (by rw[lP,lP];exact(yA E m1 s1).2) (by rw[lP,lP];exact Ht E m1 s1 m2 s2) u1 u2 r g
theorem HJ{D:Dl}{ds:List aF}{NS:List (List UInt8)}(R:Raw NS ds)(hlen:ds.length=D.len)(V:eR D ds)(dc:Nat){u v:U}(b:di D ds (aq [aT [u,v]])=true)(d:∀e,e=u∨e=v→e.nm.toList∈NS∧Names NS e)(f:∀e,e=u∨e=v→e.dep≤1048574)(s:cn u≤1048576)(t:cn v≤1048576)(k:aK (ds.map aF.un)+cB ds≤1099511627776){q:Pm}(l:cE q D ds){W:World}(x:KW q W)(g:br W){b1 m:Nat}
 (h1:aj q D [aT [u,v]] (some ⟨b1,0,none⟩))(h2:aj q D [aT [v,u]] (some ⟨m,0,none⟩)):
 Calls Tryz.prog 9 #[.slice D.a D.len dc,.agg #[.int .i64 10,.int .i64 0,.int .i64 0,.bool false,.string ⟨#[]⟩,.string ⟨#[]⟩,.slice (some ⟨b1,0,none⟩) 1 1],.agg #[.int .i64 10,.int .i64 0,.int .i64 0,.bool false,.string ⟨#[]⟩,.string ⟨#[]⟩,.slice (some ⟨m,0,none⟩) 1 1]] W fun e y=>e= .returned (.bool true)∧Below W.heap.size W y:=by
 have E:=kQ R hlen V;have o:Names NS (aq [aT [u,v]]):=jj fun e he=>(by simpa using he:e=aT [u,v])▸⟨R.emp,sh fun e he=>d e (by simpa using he)⟩;have r:Names NS (aq [aT [v,u]]):=jj fun e he=>(by simpa using he:e=aT [v,u])▸⟨R.emp,sh fun e he=>d e (by simpa [or_comm]using he)⟩;have d1:(aq [aT [u,v]]).dep≤1048576:=jk (n:=1048575) fun e he=>(by simpa using he:e=aT [u,v])▸si fun e he=>f e (by simpa using he);have d2:(aq [aT [v,u]]).dep≤1048576:=jk (n:=1048575) fun e he=>(by simpa using he:e=aT [v,u])▸si fun e he=>f e (by simpa [or_comm]using he);have u1:=ji (c:=1) (by simp) (by omega) h1;have u2:=ji (c:=1) (by simp) (by omega) h2;obtain⟨m1,_,s1,_⟩:=jX R hlen V b o d1 (gg (gX l) _ 1 u1);have i:=Hs E m1 b;obtain⟨m2,_,s2,_⟩:=jX R hlen V i r d2 (gg (gX l) _ 1 u2);rw[lQ]at m1 s1 m2 s2;have c1:cn (aq [aT [u,v]])=1+(1+(cn u+cn v)):=by rw[cW];simp only[aq,U.es,aK,List.map_cons,List.map_nil,List.sum_cons,List.sum_nil];rw[cW (aT [u,v])];simp[aT,U.es,aK]
 have c2:cn (aq [aT [v,u]])=1+(1+(cn v+cn u)):=by rw[cW];simp only[aq,U.es,aK,List.map_cons,List.map_nil,List.sum_cons,List.sum_nil];rw[cW (aT [v,u])];simp[aT,U.es,aK]
 exact sj R hlen V dc l k b i o r d1 d2 (by omega) (by omega) rfl rfl (by rw[lQ,lQ,yz,yz];exact⟨rfl,fun j h=>absurd h (by simp)⟩) (by rw[lQ,lQ];exact Hu E m1 s1 m2 s2) u1 u2 x g
theorem sk{D:Dl}{ds:List aF}{NS:List (List UInt8)}(R:Raw NS ds)(hlen:ds.length=D.len)(p:Pm)(dc:Nat)(hD:cE p D ds)(PT:aK (ds.map aF.un)+cB ds≤1099511627776)(u v:U)(PR:Names NS u∧u.nm.toList∈NS)(PS:Names NS v∧v.nm.toList∈NS)(PU:u.dep≤1048574)(PV:v.dep≤1048574)(PW:cn u≤1048576)(PX:cn v≤1048576)(a a':Option Addr)(c c':Nat)(w:World)(hu:ak p D u a c)(hv:ak p D v a' c')(hw:KW p w)(Z:br w):
 Calls Tryz.prog 4 #[.slice D.a D.len dc,.agg #[.int .i64 u.k,.int .i64 u.n,.int .i64 u.m,.bool u.v,.string u.nm,.string u.tg,.slice a u.es.length c],.agg #[.int .i64 v.k,.int .i64 v.n,.int .i64 v.m,.bool v.v,.string v.nm,.string v.tg,.slice a' v.es.length c']] w fun e w'=>e= .returned (.bool true)∧Below w.heap.size w w':=by
 have P5:=hD.kW;have h1:¬(2147483647:Int)<(D.len:Int):=by omega
 have PY:Below w.heap.size w ((w.alloc (.cells #[.int .i64 u.k,.int .i64 u.n,.int .i64 u.m,.bool u.v,.string u.nm,.string u.tg,.slice a u.es.length c] 25)).alloc (.cells #[.int .i64 v.k,.int .i64 v.n,.int .i64 v.m,.bool v.v,.string v.nm,.string v.tg,.slice a' v.es.length c'] 25)):=((Below.refl _ _).alloc (Nat.le_refl _) _).alloc (by simp) _;have hF:=Lib.hid (se u a c ((w.alloc (.cells #[.int .i64 u.k,.int .i64 u.n,.int .i64 u.m,.bool u.v,.string u.nm,.string u.tg,.slice a u.es.length c] 25)).alloc (.cells #[.int .i64 v.k,.int .i64 v.n,.int .i64 v.m,.bool v.v,.string v.nm,.string v.tg,.slice a' v.es.length c'] 25)) hu);have PZ:=Lib.hid fun W=>se v a' c' W hv;have PM:SB w u a c v a' c' ((w.alloc (.cells #[.int .i64 u.k,.int .i64 u.n,.int .i64 u.m,.bool u.v,.string u.nm,.string u.tg,.slice a u.es.length c] 25)).alloc (.cells #[.int .i64 v.k,.int .i64 v.n,.int .i64 v.m,.bool v.v,.string v.nm,.string v.tg,.slice a' v.es.length c'] 25)):=by(repeat' apply And.intro)<;>(simp[go_sem];done)
 have E:=Lib.hid PM;have M:=Lib.hid PY;have Y:=Lib.hid hD;have P0:=Lib.hid hu;have P1:=Lib.hid hv;have P2:=Lib.hid hw;have A:=Lib.hid Z;have PN:=Lib.hid PT;have PO:=Lib.hid PW;have PQ:=Lib.hid PX;have B:=Lib.hid hlen;have G:Hid (∀e,e=u∨e=v→e.nm.toList∈NS∧Names NS e):=fun e he=>by
  rcases he with rfl|rfl
  ·exact⟨PR.2,PR.1⟩
  ·exact⟨PS.2,PS.1⟩
 have H:Hid (∀e,e=u∨e=v→e.dep≤1048574):=fun e he=>by
  rcases he with rfl|rfl
  ·exact PU
  ·exact PV
 clear hD hu hv hw Z PT hlen PR PS PU PV PW PX PM PY;go_enter Tryz.func4,Tryz.ntmps4;go_wp2_with fail
 refine hF.out.mono ?_;rintro e1 w1 ⟨rfl,I⟩;have N:=Lib.hid (show Below w.heap.size w w1 from M.out.trans (I.mono M.out.size));have E:=Lib.hid (E.out.up I);obtain⟨⟨x0,x1,x2,x3,x4,x5,x6⟩,y0,y1,y2,y3,y4,y5,y6⟩:=E.out;have P6:w.heap.size+1<w1.heap.size:=by have:=I.size;simp at this;omega
 clear I hF M;go_wp2_with fail
 refine(PZ.out w1).mono ?_;rintro e2 w2 ⟨rfl,J⟩;have O:=Lib.hid (show Below w.heap.size w w2 from N.out.trans (J.mono N.out.size));have E:=Lib.hid (E.out.up J);have P7:w.heap.size+1<w2.heap.size:=by have:=J.size;omega
 clear J PZ x0 x1 x2 x3 x4 x5 x6 y0 y1 y2 y3 y4 y5 y6 P6;go_upto_region 3 with fail
 go_cut [42] (fun z wx=>z= .bool false∧Below w.heap.size w wx∧SB w u a c v a' c' wx)
 case first=>
  have d:St p p D w w2.drew u a c v a' c':=⟨P2.out.grown O.out.drew,O.out.drew,P0.out,P1.out,Sub.refl p⟩
  refine oR (SB w u a c v a' c') [(0,true),(1,true),(2,true),(3,false),(4,false),(5,false),(6,false),(7,false),(8,true),(9,true),(10,true),(11,true),(15,true),(16,true),(12,false),(13,false),(14,false),(17,false),(18,false),(19,false),(20,false),(21,true),(22,true)] E.out (fun f=> ?_);generalize w2.drew=W0 at*;repeat((first|refine oS ?_|refine oF f ?_);try simp only[Act.put,oa,ob,oc])
  refine fp rfl (by rfl) (fun K i=> ?_);go_simp
  go_at_call 10
  refine(sL d.kw d.u d.v).mono ?_;rintro e1 X1 ⟨q1,g1,rfl,j,hk,x,g⟩;have h:=Lib.hid g;have d:=d.grow g j hk;have x:=Lib.hid x;clear hk j g;((try simp only[]);refine i _ _ (f.up h.out) (fun f=> ?_);clear i K;try simp only[Act.put,oa,ob,oc])
  obtain⟨q2,j,hk,l⟩:=aj.iQ d.kw (sK (c:=2) (by simp) (by omega) x.out);have h:=Lib.hid ((Below.refl X1.heap.size X1).alloc (Nat.le_refl _) (.cells #[.int .i64 12,.int .i64 0,.int .i64 0,.bool false,.string ⟨#[]⟩,.string ⟨#[]⟩,.slice (some ⟨g1,0,none⟩) 2 2] 25));have d:=d.grow h.out j hk;have x:=Lib.hid (aj.sub j _ x.out);have l:Hid (aj q2 D [aT [u,v]] (some ⟨X1.heap.size,0,none⟩)):=l;clear hk j;refine fp rfl (by rfl) (fun K i=> ?_);go_simp
  ((try simp only[]);refine i _ _ (f.up h.out) (fun f=> ?_);clear i K;try simp only[Act.put,oa,ob,oc])
  generalize X1.alloc (.cells #[.int .i64 12,.int .i64 0,.int .i64 0,.bool false,.string ⟨#[]⟩,.string ⟨#[]⟩,.slice (some ⟨g1,0,none⟩) 2 2] 25)=X2 at*;refine fp rfl (by rfl) (fun K i=> ?_);go_simp
  go_at_call 8
  refine(eT _ _ _ X2).mono ?_;rintro e3 X3 ⟨rfl,g⟩;have h:=Lib.hid g;have d:=d.grown g;clear g;((try simp only[]);refine i _ _ (f.up h.out) (fun f=> ?_);clear i K;try simp only[Act.put,oa,ob,oc])
  obtain⟨q4,j,hk,o⟩:=aj.iQ d.kw (ji (c:=1) (by simp) (by omega) l.out);have h:=Lib.hid ((Below.refl X3.heap.size X3).alloc (Nat.le_refl _) (.cells #[.int .i64 10,.int .i64 0,.int .i64 0,.bool false,.string ⟨#[]⟩,.string ⟨#[]⟩,.slice (some ⟨X1.heap.size,0,none⟩) 1 1] 25));have d:=d.grow h.out j hk;have x:=Lib.hid (aj.sub j _ x.out);have l:=Lib.hid (aj.sub j _ l.out);have o:Hid (aj q4 D [aq [aT [u,v]]] (some ⟨X3.heap.size,0,none⟩)):=o;clear hk j;refine fp rfl (by rfl) (fun K i=> ?_);go_simp
  ((try simp only[]);refine i _ _ (f.up h.out) (fun f=> ?_);clear i K;try simp only[Act.put,oa,ob,oc])
  generalize X3.alloc (.cells #[.int .i64 10,.int .i64 0,.int .i64 0,.bool false,.string ⟨#[]⟩,.string ⟨#[]⟩,.slice (some ⟨X1.heap.size,0,none⟩) 1 1] 25)=X at*;have P:=Lib.hid (sf R B.out q4 dc (Y.out.sub d.s) (aq [aT [u,v]]) ⟨jj fun e he=>(by simpa using he:e=aT [u,v])▸⟨R.emp,sh fun e he=>G.out e (by simpa using he)⟩,jk (n:=1048575) fun e he=>(by simpa using he:e=aT [u,v])▸si fun e he=>H.out e (by simpa using he)⟩ _ X o.out d.kw);refine fp rfl (by rfl) (fun K i=> ?_);go_simp
  go_at_call 7
  refine P.out.mono ?_;rintro e5 Q ⟨⟨b,rfl,hb⟩,g⟩;have h:=Lib.hid g;have d:=d.grown g;clear g P;((try simp only[]);refine i _ _ (f.up h.out) (fun f=> ?_);clear i K;try simp only[Act.put,oa,ob,oc])
  cases b with
  |false=>
   clear hb;repeat((first|refine oS ?_|refine oF f ?_);try simp only[Act.put,oa,ob,oc])
   refine ch ?_;go_wp2_with fail
   go_meet
   exact⟨rfl,d.b,f⟩
  |true=>
   obtain⟨V,F⟩:=hb.out rfl;have S:=Lib.hid fun(q:Pm) (W:World) (b1 b2:Nat) (j:Sub p q) (y:KW q W) (hc:br W) (g1:aj q D [aT [u,v]] (some ⟨b1,0,none⟩)) (g2:aj q D [aT [v,u]] (some ⟨b2,0,none⟩))=>HJ R B.out V dc F G.out H.out PO.out PQ.out PN.out (Y.out.sub j) y hc g1 g2;clear hb F;repeat((first|refine oS ?_|refine oF f ?_);try simp only[Act.put,oa,ob,oc])
   refine fp rfl (by rfl) (fun K i=> ?_);go_simp
   go_at_call 10
   refine(sL d.kw d.u d.v).mono ?_;rintro e6 L ⟨q6,g6,rfl,j,hk,C,g⟩;have h:=Lib.hid g;have d:=d.grow g j hk;have x:=Lib.hid (aj.sub j _ x.out);have l:=Lib.hid (aj.sub j _ l.out);have o:=Lib.hid (aj.sub j _ o.out);have C:=Lib.hid C;clear hk j g;((try simp only[]);refine i _ _ (f.up h.out) (fun f=> ?_);clear i K;try simp only[Act.put,oa,ob,oc])
   obtain⟨q7,j,hk,r⟩:=aj.iQ d.kw (sK (c:=2) (by simp) (by omega) C.out);have h:=Lib.hid ((Below.refl L.heap.size L).alloc (Nat.le_refl _) (.cells #[.int .i64 12,.int .i64 0,.int .i64 0,.bool false,.string ⟨#[]⟩,.string ⟨#[]⟩,.slice (some ⟨g6,0,none⟩) 2 2] 25));have d:=d.grow h.out j hk;have x:=Lib.hid (aj.sub j _ x.out);have l:=Lib.hid (aj.sub j _ l.out);have o:=Lib.hid (aj.sub j _ o.out);have C:=Lib.hid (aj.sub j _ C.out);have r:Hid (aj q7 D [aT [u,v]] (some ⟨L.heap.size,0,none⟩)):=r;clear hk j;refine fp rfl (by rfl) (fun K i=> ?_);go_simp
   ((try simp only[]);refine i _ _ (f.up h.out) (fun f=> ?_);clear i K;try simp only[Act.put,oa,ob,oc])
   generalize L.alloc (.cells #[.int .i64 12,.int .i64 0,.int .i64 0,.bool false,.string ⟨#[]⟩,.string ⟨#[]⟩,.slice (some ⟨g6,0,none⟩) 2 2] 25)=X7 at*;refine fp rfl (by rfl) (fun K i=> ?_);go_simp
   go_at_call 8
   refine(eT _ _ _ X7).mono ?_;rintro e8 X8 ⟨rfl,g⟩;have h:=Lib.hid g;have d:=d.grown g;clear g;((try simp only[]);refine i _ _ (f.up h.out) (fun f=> ?_);clear i K;try simp only[Act.put,oa,ob,oc])
   refine fp rfl (by rfl) (fun K i=> ?_);go_simp
   go_at_call 10
   refine(sL d.kw d.v d.u).mono ?_;rintro e9 X9 ⟨q9,g9,rfl,j,hk,T,g⟩;have h:=Lib.hid g;have d:=d.grow g j hk;have x:=Lib.hid (aj.sub j _ x.out);have l:=Lib.hid (aj.sub j _ l.out);have o:=Lib.hid (aj.sub j _ o.out);have C:=Lib.hid (aj.sub j _ C.out);have r:=Lib.hid (aj.sub j _ r.out);have T:=Lib.hid T;clear hk j g;((try simp only[]);refine i _ _ (f.up h.out) (fun f=> ?_);clear i K;try simp only[Act.put,oa,ob,oc])
   obtain⟨P3,j,hk,t⟩:=aj.iQ d.kw (sK (c:=2) (by simp) (by omega) T.out);have h:=Lib.hid ((Below.refl X9.heap.size X9).alloc (Nat.le_refl _) (.cells #[.int .i64 12,.int .i64 0,.int .i64 0,.bool false,.string ⟨#[]⟩,.string ⟨#[]⟩,.slice (some ⟨g9,0,none⟩) 2 2] 25));have d:=d.grow h.out j hk;have x:=Lib.hid (aj.sub j _ x.out);have l:=Lib.hid (aj.sub j _ l.out);have o:=Lib.hid (aj.sub j _ o.out);have C:=Lib.hid (aj.sub j _ C.out);have r:=Lib.hid (aj.sub j _ r.out);have T:=Lib.hid (aj.sub j _ T.out);have t:Hid (aj P3 D [aT [v,u]] (some ⟨X9.heap.size,0,none⟩)):=t;clear hk j;refine fp rfl (by rfl) (fun K i=> ?_);go_simp
   ((try simp only[]);refine i _ _ (f.up h.out) (fun f=> ?_);clear i K;try simp only[Act.put,oa,ob,oc])
   generalize X9.alloc (.cells #[.int .i64 12,.int .i64 0,.int .i64 0,.bool false,.string ⟨#[]⟩,.string ⟨#[]⟩,.slice (some ⟨g9,0,none⟩) 2 2] 25)=P8 at*;refine fp rfl (by rfl) (fun K i=> ?_);go_simp
   go_at_call 8
   refine(eT _ _ _ P8).mono ?_;rintro P_ P9 ⟨rfl,g⟩;have h:=Lib.hid g;have d:=d.grown g;clear g;((try simp only[]);refine i _ _ (f.up h.out) (fun f=> ?_);clear i K;try simp only[Act.put,oa,ob,oc])
   refine fp rfl (by rfl) (fun K i=> ?_);go_simp
   go_at_call 9
   refine(S.out P3 P9 _ _ d.s d.kw (fun k h1 h2=>ar d.b (A.out k h1 h2)) r.out t.out).mono ?_;rintro Qa Qb ⟨rfl,g⟩;have h:=Lib.hid g;have d:=d.grown g;clear g;((try simp only[]);refine i _ _ (f.up h.out) (fun f=> ?_);clear i K;try simp only[Act.put,oa,ob,oc])
   repeat((first|refine oS ?_|refine oF f ?_);try simp only[Act.put,oa,ob,oc])
   refine ch ?_;go_wp2_with fail
   go_meet
   exact⟨rfl,d.b,f⟩
 case rest=>
  obtain⟨rfl,hB,hS⟩:=hcut;have P4:=Lib.hid hB;have E:=Lib.hid hS;clear hB hS N O P7;go_wp2_with fail
  have d:=St.mk (P2.out.grown P4.out.drew) P4.out.drew P0.out P1.out (Sub.refl p);refine rN (SB w u a c v a' c') (.one 0 true (.one 1 true (.one 2 true (.one 3 false (.one 4 false (.one 5 false (.one 6 false (.one 7 true (.one 8 true (.one 9 true (.one 10 true (.one 11 true (.one 14 true (.one 15 true (.two 12 16 (.two 13 16 (.one 16 false (.one 17 false (.one 18 false (.one 19 true (.one 20 true .done))))) (.one 13 false (.one 17 false (.one 18 false (.one 19 true (.one 20 true .done)))))) (.one 12 false (.one 13 false (.one 17 false (.one 18 false (.one 19 true (.one 20 true .done))))))))))))))))))))) (by kernel_rfl) (by kernel_rfl) (by kernel_rfl) (by decide) E.out (fun f=> ?_);generalize World.drew _=W0 at*;(refine cC rfl (by rfl) (by intro W y;(try dsimp only at y);go_simp<;>with_reducible rfl) ?_;try simp only[Act.put,oa,ob,oc])
  (refine cC rfl (by rfl) (by intro W y;(try dsimp only at y);go_simp<;>with_reducible rfl) ?_;try simp only[Act.put,oa,ob,oc])
  (refine cC rfl (by rfl) (by intro W y;(try dsimp only at y);go_simp<;>with_reducible rfl) ?_;try simp only[Act.put,oa,ob,oc])
  obtain⟨q1,j,hk,l⟩:=aj.j7 d.kw d.u d.v;have h:=Lib.hid ((Below.refl W0.heap.size W0).alloc (Nat.le_refl _) (.cells #[.int .i64 u.k,.int .i64 u.n,.int .i64 u.m,.bool u.v,.string u.nm,.string u.tg,.slice a u.es.length c,.int .i64 v.k,.int .i64 v.n,.int .i64 v.m,.bool v.v,.string v.nm,.string v.tg,.slice a' v.es.length c'] 25));have d:=d.grow h.out j hk;have l:Hid (aj q1 D [u,v] (some ⟨W0.heap.size,0,none⟩)):=l;clear hk j;refine bR rfl (by rfl) (fun K i=> ?_);go_simp
  ((try simp only[]);refine i _ _ (f.up h.out) (fun f=> ?_);clear i K;try simp only[Act.put,oa,ob,oc])
  generalize W0.alloc (.cells #[.int .i64 u.k,.int .i64 u.n,.int .i64 u.m,.bool u.v,.string u.nm,.string u.tg,.slice a u.es.length c,.int .i64 v.k,.int .i64 v.n,.int .i64 v.m,.bool v.v,.string v.nm,.string v.tg,.slice a' v.es.length c'] 25)=X1 at*;refine bR rfl (by rfl) (fun K i=> ?_);go_simp
  go_at_call 8
  refine(eT _ _ _ X1).mono ?_;rintro e2 X2 ⟨rfl,g⟩;have h:=Lib.hid g;have d:=d.grown g;clear g;((try simp only[]);refine i _ _ (f.up h.out) (fun f=> ?_);clear i K;try simp only[Act.put,oa,ob,oc])
  obtain⟨q3,j,hk,o⟩:=aj.iQ d.kw (ji (c:=2) (by simp) (by omega) l.out);have h:=Lib.hid ((Below.refl X2.heap.size X2).alloc (Nat.le_refl _) (.cells #[.int .i64 10,.int .i64 0,.int .i64 0,.bool false,.string ⟨#[]⟩,.string ⟨#[]⟩,.slice (some ⟨W0.heap.size,0,none⟩) 2 2] 25));have d:=d.grow h.out j hk;have l:=Lib.hid (aj.sub j _ l.out);have o:Hid (aj q3 D [aq [u,v]] (some ⟨X2.heap.size,0,none⟩)):=o;clear hk j;refine bR rfl (by rfl) (fun K i=> ?_);go_simp
  ((try simp only[]);refine i _ _ (f.up h.out) (fun f=> ?_);clear i K;try simp only[Act.put,oa,ob,oc])
  generalize X2.alloc (.cells #[.int .i64 10,.int .i64 0,.int .i64 0,.bool false,.string ⟨#[]⟩,.string ⟨#[]⟩,.slice (some ⟨W0.heap.size,0,none⟩) 2 2] 25)=X3 at*;have P:=Lib.hid (sf R B.out q3 dc (Y.out.sub d.s) (aq [u,v]) ⟨jj fun e he=>G.out e (by simpa using he),Nat.le_trans (jk fun e he=>H.out e (by simpa using he)) (by decide)⟩ _ X3 o.out d.kw);refine bR rfl (by rfl) (fun K i=> ?_);go_simp
  go_at_call 7
  refine P.out.mono ?_;rintro e4 X ⟨⟨b,rfl,hb⟩,g⟩;have h:=Lib.hid g;have d:=d.grown g;clear g P;((try simp only[]);refine i _ _ (f.up h.out) (fun f=> ?_);clear i K;try simp only[Act.put,oa,ob,oc])
  cases b with
  |false=>
   clear hb;iterate 7 first|(refine cC rfl (by rfl) (by intro W y;(try dsimp only at y);go_simp<;>with_reducible rfl) ?_;try simp only[Act.put,oa,ob,oc])|(refine sJ rfl (by rfl) f ?_;try simp only[Act.put,oa,ob,oc])
   refine yQ rfl rfl (by rfl) (by rfl) f ?_ ?_
   ·try simp only[Act.put,oa,ob,oc]
    refine yQ rfl rfl (by rfl) (by rfl) f ?_ ?_
    all_goals
     try simp only[Act.put,oa,ob,oc]
     iterate 5 (try first|(refine cC rfl (by rfl) (by intro W y;(try dsimp only at y);go_simp<;>with_reducible rfl) ?_;try simp only[Act.put,oa,ob,oc])|(refine sJ rfl (by rfl) f ?_;try simp only[Act.put,oa,ob,oc]))
     refine gL ?_;clear f;go_wp2_with fail
     go_ret;exact⟨rfl,d.b⟩
   ·try simp only[Act.put,oa,ob,oc]
    iterate 6 (try first|(refine cC rfl (by rfl) (by intro W y;(try dsimp only at y);go_simp<;>with_reducible rfl) ?_;try simp only[Act.put,oa,ob,oc])|(refine sJ rfl (by rfl) f ?_;try simp only[Act.put,oa,ob,oc]))
    refine gL ?_;clear f;go_wp2_with fail
    go_ret;exact⟨rfl,d.b⟩
  |true=>
   obtain⟨V,F⟩:=hb.out rfl;have S:=Lib.hid fun(q:Pm) (W:World) (b1 b2:Nat) (j:Sub p q) (y:KW q W) (hc:br W) (g1:aj q D [u,v] (some ⟨b1,0,none⟩)) (g2:aj q D [v,u] (some ⟨b2,0,none⟩))=>HI R B.out V dc F G.out H.out PO.out PQ.out PN.out (Y.out.sub j) y hc g1 g2;clear hb F;iterate 7 (refine cC rfl (by rfl) (by intro W y;(try dsimp only at y);go_simp<;>with_reducible rfl) ?_;try simp only[Act.put,oa,ob,oc])
   refine kP rfl rfl (by rfl) (by rfl) (fun K i=> ?_) (fun K i=> ?_)
   ·obtain⟨q5,j,hk,r⟩:=aj.j7 d.kw d.u d.v
    have h:=Lib.hid ((Below.refl X.heap.size X).alloc (Nat.le_refl _) (.cells #[.int .i64 u.k,.int .i64 u.n,.int .i64 u.m,.bool u.v,.string u.nm,.string u.tg,.slice a u.es.length c,.int .i64 v.k,.int .i64 v.n,.int .i64 v.m,.bool v.v,.string v.nm,.string v.tg,.slice a' v.es.length c'] 25));have d:=d.grow h.out j hk;have l:=Lib.hid (aj.sub j _ l.out);have o:=Lib.hid (aj.sub j _ o.out);have r:Hid (aj q5 D [u,v] (some ⟨X.heap.size,0,none⟩)):=r;clear hk j;go_simp
    ((try simp only[]);refine i _ _ (f.up h.out) (fun f=> ?_);clear i K;try simp only[Act.put,oa,ob,oc])
    generalize X.alloc (.cells #[.int .i64 u.k,.int .i64 u.n,.int .i64 u.m,.bool u.v,.string u.nm,.string u.tg,.slice a u.es.length c,.int .i64 v.k,.int .i64 v.n,.int .i64 v.m,.bool v.v,.string v.nm,.string v.tg,.slice a' v.es.length c'] 25)=Q at*;refine kP rfl rfl (by rfl) (by rfl) (fun K i=> ?_) (fun K i=> ?_)
    ·go_simp
     go_at_call 8
     refine(eT _ _ _ Q).mono ?_;rintro e6 L ⟨rfl,g⟩;have h:=Lib.hid g;have d:=d.grown g;clear g;((try simp only[]);refine i _ _ (f.up h.out) (fun f=> ?_);clear i K;try simp only[Act.put,oa,ob,oc])
     obtain⟨q7,j,hk,t⟩:=aj.j7 d.kw d.v d.u;have h:=Lib.hid ((Below.refl L.heap.size L).alloc (Nat.le_refl _) (.cells #[.int .i64 v.k,.int .i64 v.n,.int .i64 v.m,.bool v.v,.string v.nm,.string v.tg,.slice a' v.es.length c',.int .i64 u.k,.int .i64 u.n,.int .i64 u.m,.bool u.v,.string u.nm,.string u.tg,.slice a u.es.length c] 25));have d:=d.grow h.out j hk;have l:=Lib.hid (aj.sub j _ l.out);have o:=Lib.hid (aj.sub j _ o.out);have r:=Lib.hid (aj.sub j _ r.out);have t:Hid (aj q7 D [v,u] (some ⟨L.heap.size,0,none⟩)):=t;clear hk j;refine bR rfl (by rfl) (fun K i=> ?_);go_simp
     ((try simp only[]);refine i _ _ (f.up h.out) (fun f=> ?_);clear i K;try simp only[Act.put,oa,ob,oc])
     generalize L.alloc (.cells #[.int .i64 v.k,.int .i64 v.n,.int .i64 v.m,.bool v.v,.string v.nm,.string v.tg,.slice a' v.es.length c',.int .i64 u.k,.int .i64 u.n,.int .i64 u.m,.bool u.v,.string u.nm,.string u.tg,.slice a u.es.length c] 25)=X7 at*;refine bR rfl (by rfl) (fun K i=> ?_);go_simp
     go_at_call 8
     refine(eT _ _ _ X7).mono ?_;rintro e8 X8 ⟨rfl,g⟩;have h:=Lib.hid g;have d:=d.grown g;clear g;((try simp only[]);refine i _ _ (f.up h.out) (fun f=> ?_);clear i K;try simp only[Act.put,oa,ob,oc])
     refine bR rfl (by rfl) (fun K i=> ?_);go_simp
     go_at_call 9
     refine(S.out q7 X8 _ _ d.s d.kw (fun k h1 h2=>ar d.b (A.out k h1 h2)) r.out t.out).mono ?_;rintro e9 X9 ⟨rfl,g⟩;have h:=Lib.hid g;have d:=d.grown g;clear g;((try simp only[]);refine i _ _ (f.up h.out) (fun f=> ?_);clear i K;try simp only[Act.put,oa,ob,oc])
     (refine cC rfl (by rfl) (by intro W y;(try dsimp only at y);go_simp<;>with_reducible rfl) ?_;try simp only[Act.put,oa,ob,oc])
     (refine cC rfl (by rfl) (by intro W y;(try dsimp only at y);go_simp<;>with_reducible rfl) ?_;try simp only[Act.put,oa,ob,oc])
     refine gL ?_;clear f;go_wp2_with fail
     go_ret;exact⟨rfl,d.b⟩
    ·obtain⟨q6,j,hk,t⟩:=aj.j7 d.kw d.v d.u
     have h:=Lib.hid ((Below.refl Q.heap.size Q).alloc (Nat.le_refl _) (.cells #[.int .i64 v.k,.int .i64 v.n,.int .i64 v.m,.bool v.v,.string v.nm,.string v.tg,.slice a' v.es.length c',.int .i64 u.k,.int .i64 u.n,.int .i64 u.m,.bool u.v,.string u.nm,.string u.tg,.slice a u.es.length c] 25));have d:=d.grow h.out j hk;have l:=Lib.hid (aj.sub j _ l.out);have o:=Lib.hid (aj.sub j _ o.out);have r:=Lib.hid (aj.sub j _ r.out);have t:Hid (aj q6 D [v,u] (some ⟨Q.heap.size,0,none⟩)):=t;clear hk j;go_simp
     ((try simp only[]);refine i _ _ (f.up h.out) (fun f=> ?_);clear i K;try simp only[Act.put,oa,ob,oc])
     generalize Q.alloc (.cells #[.int .i64 v.k,.int .i64 v.n,.int .i64 v.m,.bool v.v,.string v.nm,.string v.tg,.slice a' v.es.length c',.int .i64 u.k,.int .i64 u.n,.int .i64 u.m,.bool u.v,.string u.nm,.string u.tg,.slice a u.es.length c] 25)=L at*;refine bR rfl (by rfl) (fun K i=> ?_);go_simp
     go_at_call 8
     refine(eT _ _ _ L).mono ?_;rintro e7 X7 ⟨rfl,g⟩;have h:=Lib.hid g;have d:=d.grown g;clear g;((try simp only[]);refine i _ _ (f.up h.out) (fun f=> ?_);clear i K;try simp only[Act.put,oa,ob,oc])
     refine bR rfl (by rfl) (fun K i=> ?_);go_simp
     go_at_call 8
     refine(eT _ _ _ X7).mono ?_;rintro e8 X8 ⟨rfl,g⟩;have h:=Lib.hid g;have d:=d.grown g;clear g;((try simp only[]);refine i _ _ (f.up h.out) (fun f=> ?_);clear i K;try simp only[Act.put,oa,ob,oc])
     refine bR rfl (by rfl) (fun K i=> ?_);go_simp
     go_at_call 9
     refine(S.out q6 X8 _ _ d.s d.kw (fun k h1 h2=>ar d.b (A.out k h1 h2)) r.out t.out).mono ?_;rintro e9 X9 ⟨rfl,g⟩;have h:=Lib.hid g;have d:=d.grown g;clear g;((try simp only[]);refine i _ _ (f.up h.out) (fun f=> ?_);clear i K;try simp only[Act.put,oa,ob,oc])
     (refine cC rfl (by rfl) (by intro W y;(try dsimp only at y);go_simp<;>with_reducible rfl) ?_;try simp only[Act.put,oa,ob,oc])
     (refine cC rfl (by rfl) (by intro W y;(try dsimp only at y);go_simp<;>with_reducible rfl) ?_;try simp only[Act.put,oa,ob,oc])
     refine gL ?_;clear f;go_wp2_with fail
     go_ret;exact⟨rfl,d.b⟩
   ·obtain⟨q5,j,hk,t⟩:=aj.j7 d.kw d.v d.u
    have h:=Lib.hid ((Below.refl X.heap.size X).alloc (Nat.le_refl _) (.cells #[.int .i64 v.k,.int .i64 v.n,.int .i64 v.m,.bool v.v,.string v.nm,.string v.tg,.slice a' v.es.length c',.int .i64 u.k,.int .i64 u.n,.int .i64 u.m,.bool u.v,.string u.nm,.string u.tg,.slice a u.es.length c] 25));have d:=d.grow h.out j hk;have l:=Lib.hid (aj.sub j _ l.out);have o:=Lib.hid (aj.sub j _ o.out);have t:Hid (aj q5 D [v,u] (some ⟨X.heap.size,0,none⟩)):=t;clear hk j;go_simp
    ((try simp only[]);refine i _ _ (f.up h.out) (fun f=> ?_);clear i K;try simp only[Act.put,oa,ob,oc])
    generalize X.alloc (.cells #[.int .i64 v.k,.int .i64 v.n,.int .i64 v.m,.bool v.v,.string v.nm,.string v.tg,.slice a' v.es.length c',.int .i64 u.k,.int .i64 u.n,.int .i64 u.m,.bool u.v,.string u.nm,.string u.tg,.slice a u.es.length c] 25)=Q at*;obtain⟨q6,j,hk,r⟩:=aj.j7 d.kw d.u d.v;have h:=Lib.hid ((Below.refl Q.heap.size Q).alloc (Nat.le_refl _) (.cells #[.int .i64 u.k,.int .i64 u.n,.int .i64 u.m,.bool u.v,.string u.nm,.string u.tg,.slice a u.es.length c,.int .i64 v.k,.int .i64 v.n,.int .i64 v.m,.bool v.v,.string v.nm,.string v.tg,.slice a' v.es.length c'] 25));have d:=d.grow h.out j hk;have l:=Lib.hid (aj.sub j _ l.out);have o:=Lib.hid (aj.sub j _ o.out);have t:=Lib.hid (aj.sub j _ t.out);have r:Hid (aj q6 D [u,v] (some ⟨Q.heap.size,0,none⟩)):=r;clear hk j;refine bR rfl (by rfl) (fun K i=> ?_);go_simp
    ((try simp only[]);refine i _ _ (f.up h.out) (fun f=> ?_);clear i K;try simp only[Act.put,oa,ob,oc])
    generalize Q.alloc (.cells #[.int .i64 u.k,.int .i64 u.n,.int .i64 u.m,.bool u.v,.string u.nm,.string u.tg,.slice a u.es.length c,.int .i64 v.k,.int .i64 v.n,.int .i64 v.m,.bool v.v,.string v.nm,.string v.tg,.slice a' v.es.length c'] 25)=L at*;refine bR rfl (by rfl) (fun K i=> ?_);go_simp
    go_at_call 8
    refine(eT _ _ _ L).mono ?_;rintro e7 X7 ⟨rfl,g⟩;have h:=Lib.hid g;have d:=d.grown g;clear g;((try simp only[]);refine i _ _ (f.up h.out) (fun f=> ?_);clear i K;try simp only[Act.put,oa,ob,oc])
    refine bR rfl (by rfl) (fun K i=> ?_);go_simp
    go_at_call 8
    refine(eT _ _ _ X7).mono ?_;rintro e8 X8 ⟨rfl,g⟩;have h:=Lib.hid g;have d:=d.grown g;clear g;((try simp only[]);refine i _ _ (f.up h.out) (fun f=> ?_);clear i K;try simp only[Act.put,oa,ob,oc])
    refine bR rfl (by rfl) (fun K i=> ?_);go_simp
    go_at_call 9
    refine(S.out q6 X8 _ _ d.s d.kw (fun k h1 h2=>ar d.b (A.out k h1 h2)) r.out t.out).mono ?_;rintro e9 X9 ⟨rfl,g⟩;have h:=Lib.hid g;have d:=d.grown g;clear g;((try simp only[]);refine i _ _ (f.up h.out) (fun f=> ?_);clear i K;try simp only[Act.put,oa,ob,oc])
    (refine cC rfl (by rfl) (by intro W y;(try dsimp only at y);go_simp<;>with_reducible rfl) ?_;try simp only[Act.put,oa,ob,oc])
    (refine cC rfl (by rfl) (by intro W y;(try dsimp only at y);go_simp<;>with_reducible rfl) ?_;try simp only[Act.put,oa,ob,oc])
    refine gL ?_;clear f;go_wp2_with fail
    go_ret;exact⟨rfl,d.b⟩
end Go.Proofs.YtdkmnkjhhhmglaaGreatDoor
