import Derived.Test.YtkfaiocajcjomaaGreatDoorYbi
set_option maxRecDepth 100000
set_option maxHeartbeats 8000000
set_option linter.all false
namespace TS
open Go Go.RowKit Go.Proofs.YtkfaiocajcjomaaGreatDoor
theorem AC.world{p:Pm}{x y:Value}(h:AC p x y){w:World}(hw:KW p w):∃b t c,x=ae 128 b∧y=ae t c∧t≠128∧gG w 128 t (some ⟨c,0,none⟩) b:=by
 induction h with
 | @last b t c h1 h2 h3=>exact⟨b,t,c,rfl,rfl,h1,.last (hw _ _ _ h2)⟩
 | @next b c y h1 h2 h3 _ ih=>
   obtain⟨g,t,c',a,d,e,f⟩:=ih;cases a;exact⟨b,t,c',rfl,d,e,.next (hw _ _ _ h1) h2 f⟩
theorem WB.put{p:Pm}{w:World}{b o:Nat}{v:Value}(h:WB p w)(f:w.cell? ⟨b,o,none⟩=some v)(g:Plain w b):WB (p.put b o v) w where
 kw:=fun c d x a=>by
  by_cases e:c=b∧d=o
  ·obtain⟨rfl,rfl⟩:=e;rw[Pm.eQ]at a;cases a;exact f
  ·rw[Pm.aY _ _ e]at a;exact h.kw _ _ _ a
 pl:=fun c d x a=>by
  by_cases e:c=b∧d=o
  ·obtain⟨rfl,rfl⟩:=e;exact g
  ·rw[Pm.aY _ _ e]at a;exact h.pl _ _ _ a
 cap:=h.cap
theorem Pm.dT{p:Pm}{b o n:Nat}{v:Value}(h:p b o=none)(f:n≤b):aL p (p.put b o v) n:=
 ⟨Pm.eR v h,fun c d x a=>by
  by_cases e:c=b∧d=o
  ·exact .inr (by omega)
  ·rw[Pm.aY _ _ e]at a;exact .inl a⟩
theorem CL{p:Pm}{g:Ge}{u:U}{x:Value}(h:Node p g u x)(e:u.k≠12∧u.k≠13):∃t c y,x=ae t c∧Node p g (bare u) y∧((t≠128∧y=ae t c)∨AC p (ae t c) y):=by
 by_cases h2:u.k=2
 ·cases h with
  |alias _ ha f=>
   obtain⟨b,rfl⟩:∃b,x=ae 128 b:=by cases ha<;>exact⟨_,rfl⟩
   exact⟨_,_,_,rfl,f,.inr ha⟩
  |_=>omega
 ·by_cases a:u.k=14
  ·rw[gq a]
   cases h with
   |any _ d=>
    obtain⟨b,rfl,_⟩:=d.gV rfl;exact⟨_,_,_,rfl,d,.inl ⟨by decide,rfl⟩⟩
   |_=>omega
  ·rw[cd h2 a]
   have i:=h;cases h with
   |alias|any|union=>omega
   |_=>exact⟨_,_,_,rfl,i,.inl ⟨by decide,rfl⟩⟩
end TS
namespace Go.Proofs.YtkfaiocajcjomaaGreatDoor
open Go.RowKit TS
theorem CM(a:Nat)(t c:Nat)(y:Value)(p:Pm)(w:World)(hw:KW p w)(h:(t≠128∧y=ae t c)∨AC p (ae t c) y)(g:a<w.heap.size)(i:w.cell? ⟨a,3,none⟩=some .nilIface)(j:w.frozen? ⟨a,3,none⟩=false):
 Calls Tryz.prog 75 #[.pointer (some ⟨a,0,none⟩),ae t c] w fun e k=>e= .returned (.pointer (some ⟨w.heap.size,0,none⟩))∧
  k=(w.setCell ⟨a,3,none⟩ (ae 128 w.heap.size)).alloc (.cells (gH ⟨a,0,none⟩ ⟨w.heap.size,0,none⟩ (ae t c) y) 238):=by
 rcases h with⟨h,rfl⟩|h
 ·exact yS a t _ h w g i j
 ·obtain⟨b,t',c',l,rfl,m,d⟩:=h.world hw
  cases l;have f:c<w.heap.size:=by cases d<;>exact World.block_lt_of_cell? _ _ ‹_›
  exact yT a c t' _ m w g i j f d
theorem CN(C:BC)(u e:U)(hk:u.k=2)(he:u.es= [e])(hT:fD C e)(Qe:e.k≠12∧e.k≠13)(hI:bI C e):bI C u:=by
 intro p g mv ms a c w O Qn hu;have Q:=Lib.hid (lC he);obtain⟨eb,eo,a',c',rfl,hl,R,⟨z0,z1,z2,z3,z4,z5,z6⟩,S⟩:=jw hu O.ka he;have Qo:=kf 1 hk;have F:=kt hk;have j:Below w.heap.size w ((w.alloc (.cells #[.int .i64 u.k,.int .i64 u.n,.int .i64 u.m,.bool u.v,.string u.nm,.string u.tg,.slice (some ⟨eb,eo,none⟩) u.es.length c] 25)).drew):=((Below.refl _ _).alloc (Nat.le_refl _) _).drew;have G:Below w.heap.size w (((w.alloc (.cells #[.int .i64 u.k,.int .i64 u.n,.int .i64 u.m,.bool u.v,.string u.nm,.string u.tg,.slice (some ⟨eb,eo,none⟩) u.es.length c] 25)).drew).alloc (.cells #[.int .i64 0,ptr g.pk,.string ⟨#[65]⟩,.nilIface] 120)):=j.alloc (by simp) _;have H:(((w.alloc (.cells #[.int .i64 u.k,.int .i64 u.n,.int .i64 u.m,.bool u.v,.string u.nm,.string u.tg,.slice (some ⟨eb,eo,none⟩) u.es.length c] 25)).drew).alloc (.cells #[.int .i64 0,ptr g.pk,.string ⟨#[65]⟩,.nilIface] 120)).heap[w.heap.size+1]?=some (.cells #[.int .i64 0,ptr g.pk,.string ⟨#[65]⟩,.nilIface] 120 (0,0)):=b8 (by simp);have T:(((w.alloc (.cells #[.int .i64 u.k,.int .i64 u.n,.int .i64 u.m,.bool u.v,.string u.nm,.string u.tg,.slice (some ⟨eb,eo,none⟩) u.es.length c] 25)).drew).alloc (.cells #[.int .i64 0,ptr g.pk,.string ⟨#[65]⟩,.nilIface] 120)).heap.size=w.heap.size+2:=by simp
 have Qf:=Lib.hid (show(((w.alloc (.cells #[.int .i64 u.k,.int .i64 u.n,.int .i64 u.m,.bool u.v,.string u.nm,.string u.tg,.slice (some ⟨eb,eo,none⟩) u.es.length c] 25)).drew).alloc (.cells #[.int .i64 0,ptr g.pk,.string ⟨#[65]⟩,.nilIface] 120)).cell? ⟨w.heap.size+1,3,none⟩=some .nilIface by simp only[World.cell?,H];rfl);have Qg:=Lib.hid (show(((w.alloc (.cells #[.int .i64 u.k,.int .i64 u.n,.int .i64 u.m,.bool u.v,.string u.nm,.string u.tg,.slice (some ⟨eb,eo,none⟩) u.es.length c] 25)).drew).alloc (.cells #[.int .i64 0,ptr g.pk,.string ⟨#[65]⟩,.nilIface] 120)).frozen? ⟨w.heap.size+1,3,none⟩=false by simp only[World.frozen?,H];rfl);have V:=Lib.hid T;clear H T;have Y:=Lib.hid (hI p g mv ms a' c' _ (O.below G) (by have:=Q.out;omega) R);have Qh:eb<C.B0:=by
  obtain⟨a2,c2,h7,_⟩:=hu.list.get 0 hl;exact O.la _ _ _ h7.1
 have Z:((w.alloc (.cells #[.int .i64 u.k,.int .i64 u.n,.int .i64 u.m,.bool u.v,.string u.nm,.string u.tg,.slice (some ⟨eb,eo,none⟩) u.es.length c] 25)).drew).cell? ⟨C.bb,0,none⟩=some (ptr g.pk):=ak j O.c0;have I:=Lib.hid hk;have l:=Lib.hid G;have P3:=Lib.hid Z;have Qi:=Lib.hid he;have r:=Lib.hid O;have Qp:=Lib.hid hT;clear hk hu R O G j he Z hT hI;go_enter Tryz.func44,Tryz.ntmps44;go_wp2_with fail
 refine oR (fun W=>(W.cell? ⟨w.heap.size,0,none⟩=some (.int .i64 u.k)∧W.cell? ⟨w.heap.size,1,none⟩=some (.int .i64 u.n)∧W.cell? ⟨w.heap.size,2,none⟩=some (.int .i64 u.m)∧W.cell? ⟨w.heap.size,3,none⟩=some (.bool u.v)∧W.cell? ⟨w.heap.size,4,none⟩=some (.string u.nm)∧W.cell? ⟨w.heap.size,5,none⟩=some (.string u.tg)∧W.cell? ⟨w.heap.size,6,none⟩=some (.slice (some ⟨eb,eo,none⟩) u.es.length c))∧(W.cell? ⟨eb,eo,none⟩=some (.int .i64 e.k)∧W.cell? ⟨eb,eo+1,none⟩=some (.int .i64 e.n)∧W.cell? ⟨eb,eo+2,none⟩=some (.int .i64 e.m)∧W.cell? ⟨eb,eo+3,none⟩=some (.bool e.v)∧W.cell? ⟨eb,eo+4,none⟩=some (.string e.nm)∧W.cell? ⟨eb,eo+5,none⟩=some (.string e.tg)∧W.cell? ⟨eb,eo+6,none⟩=some (.slice a' e.es.length c'))) [(0,true),(2,true),(3,true),(4,true),(5,true),(6,true),(1,false),(7,false),(8,false),(9,true),(10,true)] (by(repeat' apply And.intro)<;>first|(simp[go_sem];done)|(go_keep;done)) (fun f=> ?_);repeat((first|refine oS ?_|refine oF f ?_);try simp only[Act.put,oa,ob,oc])
 refine oL fun K B=> ?_;go_simp;go_at_call 42
 refine(sm C.bb (some ⟨g.pk,0,none⟩) _ _ P3.out).mono ?_;rintro e0 w0 ⟨rfl,rfl⟩;obtain⟨⟨s0,s1,s2,s3,s4,s5,s6⟩,r0,r1,r2,r3,r4,r5,r6⟩:=f;(try simp only[]);refine B _ _ (by(repeat' apply And.intro)<;>exact ak ((Below.refl _ _).alloc (Nat.le_refl _) _) (by assumption)) fun f=> ?_;clear B K;try simp only[Act.put,oa,ob,oc]
 clear s0 s1 s2 s3 s4 s5 s6 r0 r1 r2 r3 r4 r5 r6;repeat((first|refine oS ?_|refine oF f ?_);try simp only[Act.put,oa,ob,oc])
 refine oL fun K B=> ?_;go_simp;go_at_call 44
 refine Y.out.mono ?_;rintro e1 d ⟨x,q,g',P4,Qj,rfl,hn,i,s,J,_,Qq⟩;obtain⟨L,D,y,rfl,P5,P⟩:=CL hn Qe;obtain⟨E,t⟩:=gY r.out l.out.size s;have hz:=V.out;have P6:d.cell? ⟨w.heap.size+1,3,none⟩=some .nilIface:=t _ _ _ (by omega) Qf.out;have P7:=World.block_lt_of_cell? _ _ P6;simp only at P7;have Qk:d.frozen? ⟨w.heap.size+1,3,none⟩=false:=by
  rw[s.kept.frozen (by omega) fun e=>by have:=(r.out.ib (b:=w.heap.size+1) (e.imp Eq.symm fun h=>h)).2.1;omega];exact Qg.out
 have P8:∀o,q (w.heap.size+1) o=none:=s.gr.aI (by omega) fun o=>r.out.wb.kw.aI (by omega) o;have hX:∀b,b=w.heap.size+1→C.B0≤b∧(∀o,q b o=none)∧b≠C.bb∧P4.ownBlock≠some b:=by
  rintro _ rfl;have h1:=(r.out.ib (b:=C.bb) (.inl rfl))
  refine⟨by omega,P8,by omega,fun e=> ?_⟩;rcases J _ e with e|e
  ·have:=(r.out.ib (b:=w.heap.size+1) (.inr e)).2.1;omega
  ·omega
 have z:Kept (fun b=>b=w.heap.size+1) d (d.setCell ⟨w.heap.size+1,3,none⟩ (ae 128 d.heap.size)):=Kept.setCell (X:=fun b=>b=w.heap.size+1) (Kept.refl _ _) (fun _=>rfl) _;obtain⟨⟨s0,s1,s2,s3,s4,s5,s6⟩,r0,r1,r2,r3,r4,r5,r6⟩:=f;have P9:(d.cell? ⟨w.heap.size,0,none⟩=some (.int .i64 u.k)∧d.cell? ⟨w.heap.size,1,none⟩=some (.int .i64 u.n)∧d.cell? ⟨w.heap.size,2,none⟩=some (.int .i64 u.m)∧d.cell? ⟨w.heap.size,3,none⟩=some (.bool u.v)∧d.cell? ⟨w.heap.size,4,none⟩=some (.string u.nm)∧d.cell? ⟨w.heap.size,5,none⟩=some (.string u.tg)∧d.cell? ⟨w.heap.size,6,none⟩=some (.slice (some ⟨eb,eo,none⟩) u.es.length c))∧(d.cell? ⟨eb,eo,none⟩=some (.int .i64 e.k)∧d.cell? ⟨eb,eo+1,none⟩=some (.int .i64 e.n)∧d.cell? ⟨eb,eo+2,none⟩=some (.int .i64 e.m)∧d.cell? ⟨eb,eo+3,none⟩=some (.bool e.v)∧d.cell? ⟨eb,eo+4,none⟩=some (.string e.nm)∧d.cell? ⟨eb,eo+5,none⟩=some (.string e.tg)∧d.cell? ⟨eb,eo+6,none⟩=some (.slice a' e.es.length c')):=by(repeat' apply And.intro)<;>first|exact t _ _ _ (Nat.le_refl _) (by assumption)|exact E _ _ _ Qh (by assumption)
 (try simp only[]);refine B _ _ (P9) fun f=> ?_;clear B K;try simp only[Act.put,oa,ob,oc]
 clear E t s0 s1 s2 s3 s4 s5 s6 r0 r1 r2 r3 r4 r5 r6;have M:=(i.own z hX).box (gH ⟨w.heap.size+1,0,none⟩ ⟨d.heap.size,0,none⟩ (ae L D) y) 238;have N:=(aA.ahead l.out s|>.own z fun b e=>by subst e;omega).box (i.own z hX) (gH ⟨w.heap.size+1,0,none⟩ ⟨d.heap.size,0,none⟩ (ae L D) y) 238;have P_:(d.setCell ⟨w.heap.size+1,3,none⟩ (ae 128 d.heap.size)).heap.size=d.heap.size:=by simp
 rw[P_]at M N;have hd:∀o,q d.heap.size o=none:=fun o=>i.wb.kw.aI (Nat.le_refl _) o;have A:=Pm.cO (cs:=gH ⟨w.heap.size+1,0,none⟩ ⟨d.heap.size,0,none⟩ (ae L D) y) hd;have Qa:AC (q.add d.heap.size (gH ⟨w.heap.size+1,0,none⟩ ⟨d.heap.size,0,none⟩ (ae L D) y)) (ae 128 d.heap.size) y:=by
  rcases P with⟨ht,rfl⟩|P
  ·exact .last ht (by rw[Pm.aT];rfl) (by rw[Pm.aT];rfl)
  ·have S:D<d.heap.size:=by cases P<;>exact i.wb.kw.lt ‹_›
   obtain⟨_,_,_,e1,_⟩:=P.world i.wb.kw;cases e1;exact .next (by rw[Pm.aT];rfl) S (by rw[Pm.aT];rfl) (P.sub A)
 have Qb:bare u=bare e:=iW I.out Qi.out;have Qc:Hid (bn C u p g mv ms w (.returned (.iface 128 (.pointer (some ⟨d.heap.size,0,none⟩)))) ((d.setCell ⟨w.heap.size+1,3,none⟩ (ae 128 d.heap.size)).alloc (.cells (gH ⟨w.heap.size+1,0,none⟩ ⟨d.heap.size,0,none⟩ (ae L D) y) 238))):=
  ⟨_,_,g',P4,Qj,rfl,.alias I.out Qa (by rw[Qb];exact P5.sub A (aE.refl _)),M,N,fun b e=>(J b e).imp (fun h=>h) fun h=>Nat.le_trans l.out.size h,fun h=>(by have:=I.out;omega),by have:=Q.out;omega⟩
 have Ql:=i.wb.kw;have F:Hid (∀b o v,b≠w.heap.size+1→d.cell? ⟨b,o,none⟩=some v→((d.setCell ⟨w.heap.size+1,3,none⟩ (ae 128 d.heap.size)).alloc (.cells (gH ⟨w.heap.size+1,0,none⟩ ⟨d.heap.size,0,none⟩ (ae L D) y) 238)).cell? ⟨b,o,none⟩=some v):=fun b o v hb h=>by
  rw[(z.alloc _).cell (World.block_lt_of_cell? _ _ h) hb];exact h
 have Qm:w.heap.size≠w.heap.size+1:=by omega
 have Qd:eb≠w.heap.size+1:=by omega
 clear hn i s J M N hd A Qa Qb P5 Y hX z P_ P8 P9;repeat((first|refine oS ?_|refine oF f ?_);try simp only[Act.put,oa,ob,oc])
 refine oL fun K B=> ?_;go_simp;go_at_call 75
 refine(CM (w.heap.size+1) L D y q _ Ql P P7 P6 Qk).mono ?_;rintro e2 w2 ⟨rfl,rfl⟩;obtain⟨⟨s0,s1,s2,s3,s4,s5,s6⟩,r0,r1,r2,r3,r4,r5,r6⟩:=f;(try simp only[]);refine B _ _ (by(repeat' apply And.intro)<;>first|exact F.out _ _ _ Qm (by assumption)|exact F.out _ _ _ Qd (by assumption)) fun f=> ?_;clear B K;try simp only[Act.put,oa,ob,oc]
 clear s0 s1 s2 s3 s4 s5 s6 r0 r1 r2 r3 r4 r5 r6;repeat((first|refine oS ?_|refine oF f ?_);try simp only[Act.put,oa,ob,oc])
 refine bM ?_;clear f;go_wp2_with fail
 go_ret;exact Qc.out
theorem CO(C:BC)(u:U)(hk:u.k=1)(x:0≤u.n∧u.n<18):bI C u:=by
 intro p g mv ms a c w y D hu;have E:=kt hk;have f:Below w.heap.size w (w.alloc (.cells #[.int .i64 u.k,.int .i64 u.n,.int .i64 u.m,.bool u.v,.string u.nm,.string u.tg,.slice a u.es.length c] 25)):=(Below.refl _ _).alloc (Nat.le_refl _) _;have i:=Lib.hid (y.below f);have l:=Lib.hid hk;have j:=Lib.hid x;have q:=Lib.hid f;have hw:(1+u.n) % 18446744073709551616=1+u.n:=by omega
 have F:¬(9223372036854775808≤1+u.n):=by omega
 clear hu y f hk x;go_enter Tryz.func44,Tryz.ntmps44;go_wp2_with fail
 rw[show 1+u.n=((u.n+1).toNat:Int) by have:=j.out;omega];refine(sk (u.n+1).toNat (by have:=j.out;omega) _).mono ?_;rintro e G ⟨b,rfl,aa,s,z,d,A⟩;have B:∀o,p b o=none:=fun o=>i.out.wb.kw.aI aa o;have t:=Pm.dT (v:= .int .i64 ((u.n+1).toNat:Int)) (o:=0) (B 0) aa;have r:Hid (bn C u p g mv ms w (.returned (.iface 91 (.pointer (some ⟨b,0,none⟩)))) G):=
  ⟨_,_,g,mv,ms,rfl,.basic l.out (by rw[Pm.eQ,show(((u.n+1).toNat:Nat):Int)=u.n+1 by have:=j.out;omega]),i.out.grow d t ((i.out.wb.below d).put z A),aA.ahead q.out ((aA.refl _ _ _ _ _ _).grow d t),fun b e=> .inl e,fun h=>(by have:=l.out;omega),by omega⟩
 clear aa s z d A B t;go_wp2_with fail
 go_ret;exact r.out
end Go.Proofs.YtkfaiocajcjomaaGreatDoor
namespace TS
open Go Go.RowKit Go.Proofs.YtkfaiocajcjomaaGreatDoor
theorem uz{p:Pm}{B:Nat}{w:World}{e:TypeId}{v:Value}{xs:List Value}(l:WB p w)(h:w.ownsRow B e 1 v xs.length xs)(n:∀b,v.ownBlock=some b→∀o,p b o=none):
 ∃q a c,v= .slice a xs.length c∧aL p q B∧WB q w∧bN q a xs.length (fun i=>xs.getD i undef)∧(∀b,v.ownBlock≠some b→∀o,q b o=p b o)∧xs.length≤c∧(a=none→c=0)∧∀x,a=some x→x.spot=none:=by
 rcases h.2 with⟨j,s⟩|⟨b,cap,cur,j,t,u,y,m,z,d⟩
 ·exact⟨p,none,0,by rw[j,s],aL.refl _ _,l,fun i hi=>by omega,fun _ _ _=>rfl,by omega,fun _=>rfl,fun x h=>(by cases h)⟩
 ·have k:=n b (by rw[j];rfl)
  have f:∀i,i<xs.length→cur[i]?=some (xs.getD i undef):=fun i hi=>by
   have:(cur.toList.take (xs.length*1))[i]?=some (xs.getD i undef):=by rw[d];simp[hi]
   rw[List.getElem?_take,if_pos (by omega)]at this;simpa using this
  refine⟨p.add b cur,some ⟨b,0,none⟩,cap,j,Pm.cW k t,l.add k u,fun i hi=>⟨b,0,rfl,?_⟩,fun c m o=>Pm.aK _ _ _ fun e=>m (by rw[j,e];rfl),y,fun h=>(by cases h),fun x h=>by cases h;rfl⟩;rw[Pm.aT,Nat.zero_add];exact f i hi
section
variable {C:BC} {p q r:Pm} {g g1 g2:Ge} {mv mv1:Value} {ms ms1 ms2:List Nat} {w w1 w2:World}
theorem BS.iN(h:BS C p g mv ms w)(a:Sub p q)(j:WB q w)(c:∀b o v,q b o=some v→C.B0≤b)(d:∀o,q C.bb o=none)(f:∀b,mv.ownBlock=some b→∀o,q b o=none)(k:∀b u,g.G b=some u→p b 6=none→q b 6=none):BS C q g mv ms w where
 ka:=h.ka
 la:=h.la
 wb:=j
 lp:=c
 inj:=h.inj
 gv:=h.gv
 bl:=h.bl
 pb:=d
 c0:=h.c0
 c1:=let⟨h1,h2⟩:=h.c1;⟨h1,h2.sub a⟩
 c2:=h.c2
 c3:=h.c3
 c4:=h.c4
 f4:=h.f4
 row:=h.row
 rd:=fun b e=>⟨(h.rd b e).1,f b e⟩
 ord:=h.ord
 mlt:=h.mlt
 ifs:=fun b u e=>(h.ifs b u e).mono a (aE.refl g) (fun _ h=>h) (Nat.le_refl _) rfl rfl (k b u e)
 len:=h.len
 nm:=fun i hi=>a _ _ _ (h.nm i hi)
 po:=fun i hi=>let⟨o,v,e⟩:=h.po i hi;⟨o,v,a _ _ _ e⟩
 cB:=let⟨o,v,e⟩:=h.cB;⟨o,v,a _ _ _ e⟩
 cC:=let⟨o,v,e⟩:=h.cC;⟨o,v,a _ _ _ e⟩
 err:=let⟨h1,x,h2,h3⟩:=h.err;⟨a _ _ _ h1,x,h2.sub a,h3.sub a (aE.refl g)⟩
 cmp:=let⟨h1,b,h2,h3⟩:=h.cmp;⟨a _ _ _ h1,b,h2.sub a,h3⟩
 tn:=fun n l hi=>let⟨x,h1,h2⟩:=h.tn n l hi;⟨x,h1.sub a,h2.sub a (aE.refl g)⟩
theorem BS.apart(h:BS C p g mv ms w){e:TypeId}(he:e≠32){B:Nat}{v:Value}{n:Nat}{xs:List Value}(a:w.ownsRow B e 1 v n xs)(i:C.bb<B){b:Nat}(c:v.ownBlock=some b):b≠C.bb∧mv.ownBlock≠some b:=by
 refine⟨fun e=> ?_,fun f=> ?_⟩
 ·have:=(a.lt b c).1;omega
 ·obtain⟨cur,h1⟩:=gL a c
  obtain⟨d,h2⟩:=gL h.row f;rw[h1]at h2;injection h2 with h2;injection h2 with _ h2;exact he h2
theorem aA.row(h:BS C p g mv ms w)(k:aA C p g mv ms w q g1 ms1 w1){e:TypeId}(he:e≠32){B:Nat}{v:Value}{n:Nat}{xs:List Value}(a:w.ownsRow B e 1 v n xs)(c:C.bb<B)(d:∀b,v.ownBlock=some b→∀o,p b o=none):
 w1.ownsRow B e 1 v n xs∧∀b,v.ownBlock=some b→∀o,q b o=none:=
 ⟨dO a k.kept fun b f i=>by
  have:=h.apart he a c f;exact i.elim this.1 this.2,fun b e o=>k.gr.aI (a.lt b e).2 (d b e) o⟩
theorem aA.iN(h:aA C p g mv ms w q g1 ms1 w1)(a:aL q r w.heap.size):aA C p g mv ms w r g1 ms1 w1:=⟨h.gr.trans a (Nat.le_refl _),h.gs,h.gn,h.kept,h.mm⟩
theorem BS.iO(h:BS C q g mv ms w){e:TypeId}(he:e≠32){l:Nat}{v:Value}{xs:List Value}(n:w.ownsRow l e 1 v xs.length xs)(s:∀b,v.ownBlock=some b→∀o,q b o=none)(t:C.bb<l):
 ∃f a c,v= .slice a xs.length c∧aL q f l∧BS C f g mv ms w∧bN f a xs.length (fun i=>xs.getD i undef)∧(∀b,v.ownBlock≠some b→∀o,f b o=q b o)∧xs.length≤c∧(a=none→c=0)∧∀x,a=some x→x.spot=none:=by
 obtain⟨f,a,c,h1,h2,h3,y,k,m⟩:=uz h.wb n s;have j:=fun b (d:v.ownBlock=some b)=>h.apart he n t d;have z:=h.bl;refine⟨f,a,c,h1,h2,h.iN h2.le h3 (fun b o x A=>(h2.new _ _ _ A).elim (h.lp b o x) fun h=>by omega) (fun o=> ?_) (fun b d o=> ?_) (fun b u hu m=> ?_),y,k,m⟩
 ·rw[k _ fun d=>(j _ d).1 rfl];exact h.pb o
 ·rw[k _ fun B=>(j _ B).2 d];exact(h.rd b d).2 o
 ·rw[k _ fun d=> ?_]
  ·exact m
  ·have:=(h.ifs b u hu).2.1
   rw[s b d 0]at this;cases this
theorem BS.appended{a:World}(h:BS C q g mv ms w){e:TypeId}(he:e≠32){d:Nat}{v:Value}{n:Nat}{xs:List Value}(f:w.ownsRow d e 1 v n xs)(i:∀b,v.ownBlock=some b→∀o,q b o=none)(j:C.bb<d)(l:w.grownBy a v.ownBlock):BS C q g mv ms a∧Kept (fun b=>v.ownBlock=some b) w a:=by
 have hk:Kept (fun b=>v.ownBlock=some b) w a:=(Kept.refl _ _).grown l fun k hk _=>hk;refine⟨h.own hk fun b c=> ?_,hk⟩;have h1:=h.apart he f j c;have h2:=(f.lt b c).1;have h3:=h.bl;exact⟨by omega,i b c,h1.1,h1.2⟩
theorem jx{B i:Nat}{e f:TypeId}(he:e≠f){v v2:Value}{n j:Nat}{xs c:List Value}(k:w.ownsRow B e 1 v n xs)(d:w.ownsRow i f 1 v2 j c){b:Nat}(h:v.ownBlock=some b):v2.ownBlock≠some b:=fun l=>by
 obtain⟨c1,m⟩:=gL k h;obtain⟨c2,a⟩:=gL d l;rw[m]at a;injection a with a;injection a with _ a;exact he a
theorem jy{v c:Value}(h:WB q w)(d:∀b,v.ownBlock=some b→∀o,q b o=none)(a:c.ownBlock=v.ownBlock∨c.ownBlock=some w.heap.size):∀b,c.ownBlock=some b→∀o,q b o=none:=fun b e o=>by
 rcases a with a|a
 ·exact d b (a▸e) o
 ·rw[a]at e;cases e;exact h.kw.aI (Nat.le_refl _) o
end
structure gZ(C:BC)(u:U)(p:Pm)(g:Ge)(mv:Value)(ms:List Nat)(w:World)(k:Nat)(q:Pm)(d:Ge)(c:Value)(a fs:List Nat)(xs:Nat→Value)(f vt:Value)(wr:World):Prop where
 bs:BS C q d c a wr
 st:aA C p g mv ms w q d a wr
 om:∀b,c.ownBlock=some b→mv.ownBlock=some b∨w.heap.size≤b
 fl:fs.length=k
 fr:wr.ownsRow w.heap.size 88 1 f fs.length (fs.map pv)
 tr:wr.ownsRow w.heap.size 9 1 vt ((u.es.take k).map fun e=>Value.string e.tg).length ((u.es.take k).map fun e=>Value.string e.tg)
 fd:∀b,f.ownBlock=some b→∀o,q b o=none
 td:∀b,vt.ownBlock=some b→∀o,q b o=none
 cl:∀i(h:i<u.es.length),i<k→q (fs.getD i 0) 1=some (ptr g.pk)∧q (fs.getD i 0) 2=some (.string u.es[i].nm)∧q (fs.getD i 0) 3=some (xs i)∧q (fs.getD i 0) 5=some (.bool false)
 nd:∀i(h:i<u.es.length),i<k→Node q d u.es[i] (xs i)
 ct:a.length≤ms.length+aR (u.es.take k)
theorem gZ.step{C:BC}{u e:U}{p q F:Pm}{g g' g1:Ge}{mv G mv1:Value}{ms H ms1 fs:List Nat}{w Z wr w1 I w5:World}{k:Nat}{xs:Nat→Value}{Y vt t v x:Value}
 (hF:gZ C u p g mv ms w k q g' G H fs xs Y vt wr)(y:C.bb<w.heap.size)(M:u.es[k]?=some e)(c:Below wr.heap.size wr Z)
 (P3:Node F g1 e x)(J:BS C F g1 mv1 ms1 w1)(f:aA C q g' G H Z F g1 ms1 w1)(P4:∀b,mv1.ownBlock=some b→G.ownBlock=some b∨Z.heap.size≤b)(Qi:ms1.length≤H.length+cn e)
 {bs cs:Array Value}{Tb Tc:TypeId}(P5:I.ownsRow w.heap.size 88 1 t (fs.length+1) (fs.map pv++ [pv w1.heap.size]))
 (P6:((w1.alloc (.cells #[.int .i64 0,ptr g.pk,.string e.nm,x,.int .u8 6,.bool false] 156)).alloc (.cells bs Tb)).grownBy I Y.ownBlock)
 (P7:t.ownBlock=Y.ownBlock∨t.ownBlock=some ((w1.alloc (.cells #[.int .i64 0,ptr g.pk,.string e.nm,x,.int .u8 6,.bool false] 156)).alloc (.cells bs Tb)).heap.size)
 (P8:w5.ownsRow w.heap.size 9 1 v (((u.es.take k).map fun e=>Value.string e.tg).length+1) (((u.es.take k).map fun e=>Value.string e.tg)++ [.string e.tg]))
 (P9:(I.alloc (.cells cs Tc)).grownBy w5 vt.ownBlock)(P_:v.ownBlock=vt.ownBlock∨v.ownBlock=some (I.alloc (.cells cs Tc)).heap.size):
 gZ C u p g mv ms w (k+1) (F.add w1.heap.size #[.int .i64 0,ptr g.pk,.string e.nm,x,.int .u8 6,.bool false]) g1 mv1 ms1 (fs++ [w1.heap.size]) (fun i=>if i=k then x else xs i) t v w5:=by
 obtain⟨hk,j⟩:=List.getElem?_eq_some_iff.1 M;have K:=aA.row (hF.bs.below c) f (by decide) (bD hF.fr c) y hF.fd;have L:=aA.row (hF.bs.below c) f (by decide) (bD hF.tr c) y hF.td;have Qa:=J.box #[.int .i64 0,ptr g.pk,.string e.nm,x,.int .u8 6,.bool false] 156;have Qb:=hF.st.trans (aA.ahead c f) hF.om;have Qc:=Qb.box J #[.int .i64 0,ptr g.pk,.string e.nm,x,.int .u8 6,.bool false] 156;have hd:∀o,F w1.heap.size o=none:=fun o=>J.wb.kw.aI (Nat.le_refl _) o;have z:=Pm.cO (cs:=#[.int .i64 0,ptr g.pk,.string e.nm,x,.int .u8 6,.bool false]) hd;generalize Qd:#[.int .i64 0,ptr g.pk,.string e.nm,x,.int .u8 6,.bool false]=d at*;have A:Below w1.heap.size w1 ((w1.alloc (.cells d 156)).alloc (.cells bs Tb)):=((Below.refl _ _).alloc (Nat.le_refl _) _).alloc (by simp) _;have N:Below (w1.alloc (.cells d 156)).heap.size (w1.alloc (.cells d 156)) ((w1.alloc (.cells d 156)).alloc (.cells bs Tb)):=(Below.refl _ _).alloc (Nat.le_refl _) _;have B:=Qa.below N;have O:=Qc.below N;have P:∀b,Y.ownBlock=some b→∀o,F.add w1.heap.size d b o=none:=fun b a o=>by
  rw[Pm.aK _ _ _ fun e2=>by have:=(K.1.lt b a).2;omega];exact K.2 b a o
 have Q:∀b,vt.ownBlock=some b→∀o,F.add w1.heap.size d b o=none:=fun b a o=>by
  rw[Pm.aK _ _ _ fun e2=>by have:=(L.1.lt b a).2;omega];exact L.2 b a o
 have l:=bD K.1 A;have D:=bD L.1 A;obtain⟨R,S⟩:=B.appended (by decide) l P y P6;have Qe:=O.own S fun b a=>(l.lt b a).1;have T:=dO D S fun b a=>jx (by decide) D l a;have m:Below I.heap.size I (I.alloc (.cells cs Tc)):=(Below.refl _ _).alloc (Nat.le_refl _) _;have n:=bD T m;have E:=bD P5 m;obtain⟨Qf,V⟩:=(R.below m).appended (by decide) n Q y P9;have Qg:=(Qe.below m).own V fun b a=>(n.lt b a).1;have W:=dO E V fun b a=>jx (by decide) E n a;have X:=hF.fl;have s:=f.gr.le.trans z;have Qh:=f.gs;refine⟨Qf,Qg,fun b a=> ?_,by simp[X],by simpa using W,?_,jy B.wb P P7,jy (R.below m).wb Q P_,fun i h hi=> ?_,fun i h hi=> ?_,by have:=hF.ct;have:=fE M;omega⟩
 ·rcases P4 b a with a|a
  ·exact hF.om b a
  ·have:=c.size;have:=hF.st.size;exact .inr (by omega)
 ·rw[List.take_succ_eq_append_getElem hk,j]
  simpa using P8
 ·by_cases a:i=k
  ·subst a
   rw[j,if_pos rfl,show(fs++ [w1.heap.size]).getD i 0=w1.heap.size by simp[List.getD,←X]];simp only[Pm.aT,←Qd];exact⟨rfl,rfl,rfl,rfl⟩
  ·rw[if_neg a,show(fs++ [w1.heap.size]).getD i 0=fs.getD i 0 by simp[List.getD,List.getElem?_append_left (show i<fs.length by omega)]]
   obtain⟨h1,h2,h3,h4⟩:=hF.cl i h (by omega);exact⟨s _ _ _ h1,s _ _ _ h2,s _ _ _ h3,s _ _ _ h4⟩
 ·by_cases a:i=k
  ·subst a
   rw[j,if_pos rfl];exact P3.sub z (aE.refl _)
  ·rw[if_neg a];exact(hF.nd i h (by omega)).sub s Qh
structure pH(C:BC)(u:U)(p:Pm)(g:Ge)(mv:Value)(ms:List Nat)(w:World)(q:Pm)(d:Ge)(c:Value)(a fs:List Nat)(xs:Nat→Value)(fa ta:Option Addr)(e:Nat)(wr:World):Prop where
 bs:BS C q d c a wr
 st:aA C p g mv ms w q d a wr
 om:∀b,c.ownBlock=some b→mv.ownBlock=some b∨w.heap.size≤b
 fr:bN q fa u.es.length fun i=>ptr (fs.getD i 0)
 tr:∀i(h:i<u.es.length),∃b o,ta=some ⟨b,o,none⟩∧q b (o+i)=some (.string u.es[i].tg)
 cl:∀i(h:i<u.es.length),q (fs.getD i 0) 1=some (ptr d.pk)∧q (fs.getD i 0) 2=some (.string u.es[i].nm)∧q (fs.getD i 0) 3=some (xs i)∧q (fs.getD i 0) 5=some (.bool false)
 nd:∀i(h:i<u.es.length),Node q d u.es[i] (xs i)
 le:u.es.length≤e
 sp:∀x,fa=some x→x.spot=none
 ct:a.length≤ms.length+aR u.es
theorem gZ.ready{C:BC}{u:U}{p q:Pm}{g G:Ge}{mv c:Value}{ms d fs:List Nat}{w wr:World}{xs:Nat→Value}{fa ta:Option Addr}{H tc fn tn:Nat}(hF:gZ C u p g mv ms w u.es.length q G c d fs xs (.slice fa fn H) (.slice ta tn tc) wr)(f:C.bb<w.heap.size):
 ∃k,pH C u p g mv ms w k G c d fs xs fa ta H wr:=by
 have l:=hF.fl;obtain⟨Q,R,c1,I,h,m,n,s,t,_,v⟩:=hF.bs.iO (e:=88) (xs:=fs.map pv) (by decide) (by simpa using hF.fr) hF.fd f;obtain⟨k,a2,c2,J,a,x,y,K,L,_⟩:=m.iO (e:=9) (by decide) hF.tr (fun b e o=>by rw[s b fun M=>jx (by decide) hF.tr hF.fr e M];exact hF.td b e o) f;injection I with z N A
 injection J with B O D
 subst z;subst A;subst B;subst D;have j:=h.le.trans a.le;refine⟨k,x,hF.st.iN (h.trans a (Nat.le_refl _)),hF.om,fun i hi=> ?_,fun i hi=> ?_,fun i hi=> ?_,fun i hi=>(hF.nd i hi hi).sub j (aE.refl _),by simpa [l]using t,v,by have:=hF.ct;rwa [List.take_length]at this⟩
 ·obtain⟨b,o,E,F⟩:=n i (by simp;omega)
  refine⟨b,o,E,a.le _ _ _ ?_⟩;rw[F];simp[List.getD,List.getElem?_eq_getElem (show i<fs.length by omega),pv]
 ·obtain⟨b,o,E,F⟩:=y i (by simp;omega)
  refine⟨b,o,E,?_⟩;rw[F];simp[List.getD,hi]
 ·obtain⟨h1,h2,h3,P⟩:=hF.cl i hi hi
  exact⟨by rw[hF.st.gs.pk];exact j _ _ _ h1,j _ _ _ h2,j _ _ _ h3,j _ _ _ P⟩
theorem pH.done{C:BC}{u:U}{p q:Pm}{g B:Ge}{mv l:Value}{ms m fs:List Nat}{w wr n:World}{xs:Nat→Value}{fa ta a2:Option Addr}{s tc b:Nat}(c:pH C u p g mv ms w q B l m fs xs fa ta s wr)(hk:u.k=5)(H:u.es.length≤1099511627776)
 (t:wr.heap.size≤b)(D:n.cell? ⟨b,0,none⟩=some (.slice a2 u.es.length (if fa=none then 0 else s)))(ha:fa=none∨a2=fa)(h1:n.cell? ⟨b,1,none⟩=some (.slice ta u.es.length tc))(x:Below wr.heap.size wr n)(E:Plain n b):
 bn C u p g mv ms w (.returned (ae 150 b)) n:=by
 have F:∀o,q b o=none:=fun o=>c.bs.wb.kw.aI t o;have y:=Pm.dT (v:= .slice a2 u.es.length (if fa=none then 0 else s)) (F 0) t;have z:=Pm.dT (p:=q.put b 0 (.slice a2 u.es.length (if fa=none then 0 else s))) (v:= .slice ta u.es.length tc) (o:=1) (by rw[Pm.aY _ _ (by omega)];exact F 1) t;have d:=y.trans z (Nat.le_refl _);have hw:=((c.bs.wb.below x).put D E).put h1 E;have I:=c.bs.grow x d hw;have G:u.es.length≤(if fa=none then 0 else s)∧bN q a2 u.es.length fun i=>ptr (fs.getD i 0):=by
  by_cases j:fa=none
  ·have D:u.es.length=0:=Nat.eq_zero_of_not_pos fun h=>by obtain⟨_,_,h,_⟩:=c.fr 0 h;rw[j]at h;cases h
   exact⟨by omega,fun i hi=>by omega⟩
  ·rw[if_neg j]
   refine⟨c.le,?_⟩;rcases ha with h|rfl
   ·exact absurd h j
   ·exact c.fr
 have A:=c.om;refine⟨_,_,B,l,m,rfl,.struct (f:=fun i=>fs.getD i 0) (xs:=xs) (a:=a2) (a':=ta) hk (by rw[Pm.aY _ _ (by omega),Pm.eQ]) (Pm.eQ ..) G.1 H (G.2.sub d.le) (fun i hi=> ?_) (fun i hi=> ?_) (fun i hi=>(c.nd i hi).sub d.le (aE.refl _)),I,c.st.grow x d,A,fun h=>(by omega),by have:=c.ct;rw[dD];omega⟩
 ·obtain⟨b,o,e,h⟩:=c.tr i hi;exact⟨b,o,e,d.le _ _ _ h⟩
 ·obtain⟨h1,h2,h3,J⟩:=c.cl i hi;exact⟨d.le _ _ _ h1,d.le _ _ _ h2,d.le _ _ _ h3,d.le _ _ _ J⟩
end TS
namespace Go.Proofs.YtkfaiocajcjomaaGreatDoor
open Go.RowKit TS
theorem CW:(Tryz.prog.info? 9).map (fun i=>(i.zero,i.size,i.bytes))=some (some (.string ByteArray.empty),1,16):=by kernel_rfl
theorem CX(C:BC)(u:U)(hk:u.k=5)(Qc:∀e∈u.es,aO e.nm=true)(hnd:(u.es.map U.nm).Nodup)(hI:∀e∈u.es,bI C e)(p:Pm)(g:Ge)(mv:Value)(ms:List Nat)(a:Option Addr)(c:Nat)(w:World)(hB:BS C p g mv ms w)(QW:ms.length+cn u≤1099511627776)(hu:aj C.pa C.D u a c):
 Calls Tryz.prog 82 #[.pointer (some ⟨C.bb,0,none⟩),.agg #[.int .i64 u.k,.int .i64 u.n,.int .i64 u.m,.bool u.v,.string u.nm,.string u.tg,.slice a u.es.length c]] w (bn C u p g mv ms w):=by
 have Qd:=hu.cap;have QI:Hid (∀k e,u.es[k]?=some e→∃eb eo a' c',a=some ⟨eb,eo,none⟩∧cN C.pa eb (eo+k*7) e a' c'∧aj C.pa C.D e a' c'):=fun k e he=>by
  obtain⟨hk,rfl⟩:=List.getElem?_eq_some_iff.1 he;obtain⟨eb,eo,rfl⟩:=hu.list.bC (by omega);obtain⟨a',c',h7,G⟩:=hu.list.get k hk;exact⟨eb,eo,a',c',rfl,h7,G⟩
 have H:=(hB.ib (b:=C.bb) (.inl rfl)).2.1;have Z:Below w.heap.size w (w.alloc (.cells #[.int .i64 u.k,.int .i64 u.n,.int .i64 u.m,.bool u.v,.string u.nm,.string u.tg,.slice a u.es.length c] 25)):=(Below.refl _ _).alloc (Nat.le_refl _) _;have QJ:=Lib.hid (hB.below Z);have QX:=Lib.hid hB;have Qe:=Lib.hid Z;have QY:u.es.length≤1048576:=by omega
 have QQ:u.es.length≤1099511627776:=by omega
 have QK:=Lib.hid hk;have Qf:=Lib.hid Qc;have Qg:=Lib.hid hnd;have QL:=Lib.hid hI;obtain⟨i0,QM,Qh,Qi,Qj⟩:=info_parts ss;obtain⟨i1,QN,Qk,Ql,Qm⟩:=info_parts CW;clear hu hB Z Qd hk Qc hnd hI;generalize hn:u.es.length=n at*;have P3:=Lib.hid hn;clear hn;go_enter Tryz.func82,Tryz.ntmps82;go_wp2_with fail
 go_loopw [12,5,6] (fun vi vf vt wr=> ∃(k:Nat)(q:Pm)(g':Ge)(P4:Value)(P5 fs:List Nat)(xs:Nat→Value),k≤n∧vi= .int .i64 k∧gZ C u p g mv ms w k q g' P4 P5 fs xs vf vt wr) (fun vi _ _ _=>n- (intOf vi).toNat)
 case atStart=>exact⟨0,p,g,mv,ms,[],fun _=>undef,Nat.zero_le _,rfl,QJ.out,aA.ahead Qe.out (aA.refl _ _ _ _ _ _),fun b e=> .inl e,rfl,World.ownsRow_nil _ _ _ _,World.ownsRow_nil _ _ _ _,fun b e=>(by cases e),fun b e=>(by cases e),fun i _ hi=>absurd hi (Nat.not_lt_zero _),fun i _ hi=>absurd hi (Nat.not_lt_zero _),Nat.le_add_right _ _⟩
 case round=>
  obtain⟨k,q,g',P4,P5,fs,xs,P6,rfl,hF⟩:=hrel;have d:=Lib.hid hF;obtain⟨fa,I,rfl⟩:=bd hF.fr;obtain⟨ta,tc,rfl⟩:=bd hF.tr;have Qn:=Lib.hid hF.tr;clear hF;obtain⟨A,J⟩:∃A,Hid ((u.es.take k).map (fun e=>Value.string e.tg)=A):=⟨_,rfl⟩
  rw[J.out]at d Qn⊢;have Qo:=Lib.hid (show A.length≤k by rw[←J.out];simp;omega);by_cases QZ:k<n
  ·have QR:(k:Int)<n:=by omega
   obtain⟨e,B⟩:∃e,u.es[k]?=some e:=⟨_,List.getElem?_eq_getElem (by have:=P3.out;omega)⟩
   obtain⟨eb,eo,a',c',rfl,h7,G⟩:=QI.out k e B;have Qp:=QL.out _ (List.mem_of_getElem? B);obtain⟨z0,z1,z2,z3,z4,z5,z6⟩:(wr.cell? ⟨eb,eo+k*7,none⟩=some (.int .i64 e.k)∧wr.cell? ⟨eb,eo+k*7+1,none⟩=some (.int .i64 e.n)∧wr.cell? ⟨eb,eo+k*7+2,none⟩=some (.int .i64 e.m)∧wr.cell? ⟨eb,eo+k*7+3,none⟩=some (.bool e.v)∧wr.cell? ⟨eb,eo+k*7+4,none⟩=some (.string e.nm)∧wr.cell? ⟨eb,eo+k*7+5,none⟩=some (.string e.tg)∧wr.cell? ⟨eb,eo+k*7+6,none⟩=some (.slice a' e.es.length c')):=h7.world d.out.bs.ka;have QS:eb<wr.heap.size:=d.out.bs.ka.lt h7.1;have P7:Below wr.heap.size wr ((wr.alloc (.cells #[.int .i64 e.k,.int .i64 e.n,.int .i64 e.m,.bool e.v,.string e.nm,.string e.tg,.slice a' e.es.length c'] 25)).drew):=((Below.refl _ _).alloc (Nat.le_refl _) _).drew;have hT:=Lib.hid (Qp q g' P4 P5 a' c' _ (d.out.bs.below P7) (by have:=d.out.ct;have:=np B;omega) G);have Qq:=Lib.hid B;have l:=Lib.hid P7;have P:=d.out.bs.c0;have Q:g'.pk=g.pk:=d.out.st.gs.pk;rw[Q]at P;have Qr:=World.block_lt_of_cell? _ _ P;simp only at Qr;clear h7 G Qp B P7;go_wp2_with fail
   refine oR (fun W=>W.cell? ⟨C.bb,0,none⟩=some (ptr g.pk)∧(W.cell? ⟨wr.heap.size,0,none⟩=some (.int .i64 e.k)∧W.cell? ⟨wr.heap.size,1,none⟩=some (.int .i64 e.n)∧W.cell? ⟨wr.heap.size,2,none⟩=some (.int .i64 e.m)∧W.cell? ⟨wr.heap.size,3,none⟩=some (.bool e.v)∧W.cell? ⟨wr.heap.size,4,none⟩=some (.string e.nm)∧W.cell? ⟨wr.heap.size,5,none⟩=some (.string e.tg)∧W.cell? ⟨wr.heap.size,6,none⟩=some (.slice a' e.es.length c'))) [(0,true),(1,true),(2,true),(3,true),(4,true),(5,true),(6,true),(7,true),(8,true),(9,false),(10,false),(11,false),(12,false),(13,true)] (by(repeat' apply And.intro)<;>first|(simp[go_sem];done)|(go_keep;done)) (fun f=> ?_);repeat((first|refine oS ?_|refine oF f ?_);try simp only[Act.put,oa,ob,oc])
   refine oL fun K E=> ?_;go_simp;go_at_call 44
   refine hT.out.mono ?_;rintro e1 w1 ⟨x,q1,g1,mv1,ms1,rfl,P8,L,s,Qs,_,QO⟩;obtain⟨R,S,rfl⟩:=P8.val;have T:w1.cell? ⟨C.bb,0,none⟩=some (ptr g.pk):=by
    have h1:=L.c0;rwa [s.gs.pk,Q]at h1
   have V:=(gY d.out.bs l.out.size s).2;obtain⟨_,s0,s1,s2,s3,s4,s5,s6⟩:=f;(try simp only[]);refine E _ _ (by(repeat' apply And.intro)<;>first|exact T|exact V _ _ _ (Nat.le_refl _) (by assumption)) fun f=> ?_;clear E K;try simp only[Act.put,oa,ob,oc]
   clear s0 s1 s2 s3 s4 s5 s6;have Q3:wr.heap.size<w1.heap.size:=by
    have:=s.size;simp at this;omega
   have QT:=(L.ib (b:=C.bb) (.inl rfl)).2.1;have Q4:w.heap.size<w1.heap.size:=by have:=d.out.st.size;omega
   have Qt:(Value.slice fa fs.length I).ownBlock≠some C.bb∧(Value.slice fa fs.length I).ownBlock≠some wr.heap.size:=⟨fun e=>by have:=(d.out.fr.lt _ e).1;omega,fun e=>by have:=(d.out.fr.lt _ e).2;omega⟩
   have Qu:=Lib.hid (show fs.length=k from d.out.fl);have Qv:=Lib.hid (show ∀j u,[Value.pointer (some ⟨w1.heap.size,0,none⟩)][j]?=some u→((w1.alloc (.cells #[.int .i64 0,ptr g.pk,.string e.nm,ae R S,.int .u8 6,.bool false] 156)).alloc (.cells #[.pointer (some ⟨w1.heap.size,0,none⟩)] 88)).cell? ((⟨w1.heap.size+1,0,none⟩:Addr).add j)=some u from fun j u h=>by
    have h1:=TS.dP (w1.alloc (.cells #[.int .i64 0,ptr g.pk,.string e.nm,ae R S,.int .u8 6,.bool false] 156)) (.pointer (some ⟨w1.heap.size,0,none⟩)) 88 j u h;rwa [show(w1.alloc (.cells #[.int .i64 0,ptr g.pk,.string e.nm,ae R S,.int .u8 6,.bool false] 156)).heap.size=w1.heap.size+1 by simp]at h1)
   have X:=Lib.hid ((((aA.row (d.out.bs.below l.out) s (by decide) (bD d.out.fr l.out) H d.out.fd).1).alloc (.cells #[.int .i64 0,ptr g.pk,.string e.nm,ae R S,.int .u8 6,.bool false] 156)).alloc (.cells #[.pointer (some ⟨w1.heap.size,0,none⟩)] 88));have Qw:=Lib.hid (show ∀M,((w1.alloc (.cells #[.int .i64 0,ptr g.pk,.string e.nm,ae R S,.int .u8 6,.bool false] 156)).alloc (.cells #[.pointer (some ⟨w1.heap.size,0,none⟩)] 88)).grownBy M (Value.slice fa fs.length I).ownBlock→M.ownsRow w.heap.size 9 1 (.slice ta A.length tc) A.length A from fun M hg=>by
    have h1:=(((aA.row (d.out.bs.below l.out) s (by decide) (bD Qn.out l.out) H d.out.td).1).alloc (.cells #[.int .i64 0,ptr g.pk,.string e.nm,ae R S,.int .u8 6,.bool false] 156)).alloc (.cells #[.pointer (some ⟨w1.heap.size,0,none⟩)] 88);exact dO h1 ((Kept.refl (fun b=>(Value.slice fa fs.length I).ownBlock=some b) _).grown hg fun k hk _=>hk) fun b e1=>jx (by decide) h1 X.out e1)
   have Qx:=Lib.hid L;have Qy:=Lib.hid s;have Qz:=Lib.hid P8;have QA:=Lib.hid Qs;clear L s P8 Qs T V hT;repeat((first|refine oS ?_|refine oF f ?_);try simp only[Act.put,oa,ob,oc])
   refine oL fun K E=> ?_;go_simp;go_at_call 116
   refine(yd _ _ _ _ _ _ _).mono ?_;rintro e2 w2 ⟨rfl,rfl⟩;obtain⟨_,s0,s1,s2,s3,s4,s5,s6⟩:=f;(try simp only[]);refine E _ _ (by(repeat' apply And.intro)<;>exact ak ((Below.refl _ _).alloc (Nat.le_refl _) _) (by assumption)) fun f=> ?_;clear E K;try simp only[Act.put,oa,ob,oc]
   clear s0 s1 s2 s3 s4 s5 s6;repeat((first|refine oS ?_|refine oF f ?_);try simp only[Act.put,oa,ob,oc])
   refine oL fun K E=> ?_;go_simp;obtain⟨_,s0,s1,s2,s3,s4,s5,s6⟩:=f;(try simp only[]);refine E _ _ (by(repeat' apply And.intro)<;>exact ak ((Below.refl _ _).alloc (Nat.le_refl _) _) (by assumption)) fun f=> ?_;clear E K;try simp only[Act.put,oa,ob,oc]
   repeat((first|refine oS ?_|refine oF f ?_);try simp only[Act.put,oa,ob,oc])
   refine nX rfl (by rfl) (fun K E=> ?_);refine ki _ _ 151 rfl w.heap.size 88 i0 (.pointer none) 1 8 Tryz.underlying151 QM Qh Qi Qj rfl (by decide) (.slice fa fs.length I) fs.length (fs.map pv) rfl X.out ⟨w1.heap.size+1,0,none⟩ 1 1 [.pointer (some ⟨w1.heap.size,0,none⟩)] rfl rfl Qv.out (TS.one_one rfl) ?c3 ?c4 ?c5 ?_
   case c3=>have:=Qu.out;unfold maxLen;omega
   case c4=>have:=Qu.out;omega
   case c5=>(try simp);omega
   intro Q5 M t P9 _ QB;have P_:∀b o v,(Value.slice fa fs.length I).ownBlock≠some b→((w1.alloc (.cells #[.int .i64 0,ptr g.pk,.string e.nm,ae R S,.int .u8 6,.bool false] 156)).alloc (.cells #[.pointer (some ⟨w1.heap.size,0,none⟩)] 88)).cell? ⟨b,o,none⟩=some v→M.cell? ⟨b,o,none⟩=some v:=fun b o v hb h=>by
    rw[((Kept.refl (fun b=>(Value.slice fa fs.length I).ownBlock=some b) _).grown P9 fun k hk _=>hk).cell (World.block_lt_of_cell? _ _ h) hb];exact h
   obtain⟨_,s0,s1,s2,s3,s4,s5,s6⟩:=f;(try simp only[]);refine E _ _ (by(repeat' apply And.intro)<;>first|exact P_ _ _ _ Qt.1 (by assumption)|exact P_ _ _ _ Qt.2 (by assumption)) fun f=> ?_;clear E K;try simp only[Act.put,oa,ob,oc]
   clear s0 s1 s2 s3 s4 s5 s6 P_;repeat((first|refine oS ?_|refine oF f ?_);try simp only[Act.put,oa,ob,oc])
   refine bM ?_;obtain⟨d0,s0,s1,s2,s3,s4,s5,s6⟩:=f;obtain⟨a3,c3,rfl⟩:=bd t;have F:=Lib.hid P9;have N:=Lib.hid t;have QC:=Lib.hid QB;clear P9 t QB;have Qa:=Lib.hid (Qw.out M F.out);have QU:w1.heap.size+2≤M.heap.size:=by have:=((Kept.refl (fun b=>(Value.slice fa fs.length I).ownBlock=some b) _).grown F.out fun k hk _=>hk).size;simpa using this
   go_wp2_with (first|(at_builtin;refine wpList_append_own_at _ rfl _ _ 152 rfl w.heap.size 9 i1 (.string ByteArray.empty) 1 16 Tryz.underlying152 QN Qk Ql Qm rfl (by decide) (.slice ta A.length tc) A.length A rfl (Qa.out.alloc _) ⟨M.heap.size,0,none⟩ 1 1 [.string e.tg] rfl rfl (TS.dP M _ _) (TS.one_one rfl) ?c3 ?c4 ?c5 ?_)|fail)
   case c3=>have:=Qo.out;unfold maxLen;omega
   case c4=>have:=Qo.out;omega
   case c5=>(try simp);omega
   intro Q6 w5 y QD _ QE;obtain⟨a5,c5,rfl⟩:=bd y;have z:gZ C u p g mv ms w (k+1) _ g1 mv1 ms1 (fs++ [w1.heap.size]) (fun i=>if i=k then ae R S else xs i) (.slice a3 (fs.length+1) c3) (.slice a5 (A.length+1) c5) w5:=
    gZ.step d.out H Qq.out l.out Qz.out Qx.out Qy.out QA.out QO N.out F.out QC.out (by rw[J.out];exact y) QD (QE.imp id fun h=>h.trans (by simp))
   have Qb:=Lib.hid z;have QV:fs.length+1=(fs++ [w1.heap.size]).length:=by simp
   clear z y QD QE;go_wp2_with fail
   exact⟨⟨k+1,_,g1,mv1,ms1,_,_,by omega,by go_num,Qb.out⟩,by first|omega|(simp[intOf];omega)⟩
  ·have Q7:¬(k:Int)<n:=by omega
   obtain rfl:k=n:=by omega
   have P6:=P3.out;obtain⟨q2,Y⟩:=gZ.ready (P3.out.symm▸d.out) H;have O:=Lib.hid Y;have QF:=Lib.hid (d.out.fl);have h1:Hid (∀i,i<k→wr.cell? ⟨fs.getD i 0,1,none⟩=some (.pointer (some ⟨g'.pk,0,none⟩))):=fun i hi=>Y.bs.wb.kw _ _ _ (Y.cl i (by omega)).1;have h2:Hid (∀i,i<k→wr.cell? ⟨fs.getD i 0,2,none⟩=some (.string (u.es.getD i aG).nm)):=fun i hi=>by
    rw[Y.bs.wb.kw _ _ _ (Y.cl i (by omega)).2.1];simp[List.getD,List.getElem?_eq_getElem (show i<u.es.length by omega)]
   have h3:Hid (∀i,i<k→aO (u.es.getD i aG).nm=true):=fun i hi=>Qf.out _ (by simp[List.getD,List.getElem?_eq_getElem (show i<u.es.length by omega)]);have h4:Hid (∀i j,i<j→j<k→(u.es.getD i aG).nm≠(u.es.getD j aG).nm):=fun i j QP hj=>by
    have h:=List.pairwise_iff_getElem.1 Qg.out i j (by simp;omega) (by simp;omega) QP;simpa [List.getD,List.getElem?_eq_getElem (show i<u.es.length by omega),List.getElem?_eq_getElem (show j<u.es.length by omega)]using h
   have h5:Hid (bA wr fa k fun i=>fs.getD i 0):=fun i hi=>by
    obtain⟨b,o,e1,e2⟩:=Y.fr i (by omega);exact⟨b,o,e1,Y.bs.wb.kw _ _ _ e2⟩
   clear Y;go_wp2_with fail
   rw[QF.out,show A.length=k by rw[←J.out];simp;omega];refine(Ab fa ta k I tc (fun i=>fs.getD i 0) (fun i=>(u.es.getD i aG).nm) (fun _=>some ⟨g'.pk,0,none⟩) wr (by omega) O.out.bs.wb.cap O.out.sp h5.out h1.out h2.out h3.out h4.out).mono ?_;rintro e2 w2 ⟨b,a2,rfl,hb,c0,ha,c1,QG,QH⟩;have z:Hid (bn C u p g mv ms w (.returned (.iface 150 (.pointer (some ⟨b,0,none⟩)))) w2):=
    O.out.done (tc:=tc) QK.out (by omega) hb (by rw[P6];exact c0) ha (by rw[P6];exact c1) QG QH
   clear hb c0 c1 ha QG QH h1 h2 h3 h4 h5 O QF;go_wp2_with fail
   go_ret;exact z.out
end Go.Proofs.YtkfaiocajcjomaaGreatDoor
