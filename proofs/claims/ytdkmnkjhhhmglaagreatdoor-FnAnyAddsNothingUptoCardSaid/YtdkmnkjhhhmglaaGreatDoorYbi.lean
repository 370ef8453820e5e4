import Derived.Test.YtdkmnkjhhhmglaaGreatDoorYbh
set_option maxRecDepth 100000
set_option maxHeartbeats 8000000
set_option linter.all false
namespace TS
open Go Go.RowKit Go.Proofs.YtdkmnkjhhhmglaaGreatDoor
theorem AC.world{p:Pm}{x y:Value}(h:AC p x y){w:World}(hw:KW p w):∃b t c,x=ae 136 b∧y=ae t c∧t≠136∧iG w 136 t (some ⟨c,0,none⟩) b:=by
 induction h with
 | @last b t c h1 h2 h3=>exact⟨b,t,c,rfl,rfl,h1,.last (hw _ _ _ h2)⟩
 | @next b c y h1 h2 h3 _ ih=>
   obtain⟨g,t,c',a,d,e,f⟩:=ih;cases a;exact⟨b,t,c',rfl,d,e,.next (hw _ _ _ h1) h2 f⟩
theorem WB.put{p:Pm}{w:World}{b o:Nat}{v:Value}(h:WB p w)(f:w.cell? ⟨b,o,none⟩=some v)(g:Plain w b):WB (p.put b o v) w where
 kw:=fun c d x a=>by
  by_cases e:c=b∧d=o
  ·obtain⟨rfl,rfl⟩:=e;rw[Pm.fL]at a;cases a;exact f
  ·rw[Pm.a_ _ _ e]at a;exact h.kw _ _ _ a
 pl:=fun c d x a=>by
  by_cases e:c=b∧d=o
  ·obtain⟨rfl,rfl⟩:=e;exact g
  ·rw[Pm.a_ _ _ e]at a;exact h.pl _ _ _ a
 cap:=h.cap
theorem Pm.eH{p:Pm}{b o n:Nat}{v:Value}(h:p b o=none)(f:n≤b):aP p (p.put b o v) n:=
 ⟨Pm.fM v h,fun c d x a=>by
  by_cases e:c=b∧d=o
  ·exact .inr (by omega)
  ·rw[Pm.a_ _ _ e]at a;exact .inl a⟩
theorem EW{p:Pm}{g:Ge}{u:U}{x:Value}(h:Node p g u x)(e:u.k≠12∧u.k≠13):∃t c y,x=ae t c∧Node p g (bare u) y∧((t≠136∧y=ae t c)∨AC p (ae t c) y):=by
 by_cases h2:u.k=2
 ·cases h with
  |alias _ ha f=>
   obtain⟨b,rfl⟩:∃b,x=ae 136 b:=by cases ha<;>exact⟨_,rfl⟩
   exact⟨_,_,_,rfl,f,.inr ha⟩
  |_=>omega
 ·by_cases a:u.k=14
  ·rw[gq a]
   cases h with
   |any _ d=>
    obtain⟨b,rfl,_⟩:=d.gT rfl;exact⟨_,_,_,rfl,d,.inl ⟨by decide,rfl⟩⟩
   |_=>omega
  ·rw[cu h2 a]
   have i:=h;cases h with
   |alias|any|union=>omega
   |_=>exact⟨_,_,_,rfl,i,.inl ⟨by decide,rfl⟩⟩
end TS
namespace Go.Proofs.YtdkmnkjhhhmglaaGreatDoor
open Go.RowKit TS
theorem EX(a:Nat)(t c:Nat)(y:Value)(p:Pm)(w:World)(hw:KW p w)(h:(t≠136∧y=ae t c)∨AC p (ae t c) y)(g:a<w.heap.size)(i:w.cell? ⟨a,3,none⟩=some .nilIface)(j:w.frozen? ⟨a,3,none⟩=false):
 Calls Tryz.prog 80 #[.pointer (some ⟨a,0,none⟩),ae t c] w fun e k=>e= .returned (.pointer (some ⟨w.heap.size,0,none⟩))∧
  k=(w.setCell ⟨a,3,none⟩ (ae 136 w.heap.size)).alloc (.cells (iH ⟨a,0,none⟩ ⟨w.heap.size,0,none⟩ (ae t c) y) 265):=by
 rcases h with⟨h,rfl⟩|h
 ·exact Bl a t _ h w g i j
 ·obtain⟨b,t',c',l,rfl,m,d⟩:=h.world hw
  cases l;have f:c<w.heap.size:=by cases d<;>exact World.block_lt_of_cell? _ _ ‹_›
  exact Bm a c t' _ m w g i j f d
theorem EY(C:BC)(u e:U)(hk:u.k=2)(he:u.es= [e])(hT:gK C e)(PZ:e.k≠12∧e.k≠13)(hI:bZ C e):bZ C u:=by
 intro p g mv ms a c w O P8 hu;have Q:=Lib.hid (nv he);obtain⟨eb,eo,a',c',rfl,hl,R,⟨z0,z1,z2,z3,z4,z5,z6⟩,S⟩:=kK hu O.ka he;have P9:=kf 1 hk;have F:=kt hk;have j:Below w.heap.size w ((w.alloc (.cells #[.int .i64 u.k,.int .i64 u.n,.int .i64 u.m,.bool u.v,.string u.nm,.string u.tg,.slice (some ⟨eb,eo,none⟩) u.es.length c] 25)).drew):=((Below.refl _ _).alloc (Nat.le_refl _) _).drew;have G:Below w.heap.size w (((w.alloc (.cells #[.int .i64 u.k,.int .i64 u.n,.int .i64 u.m,.bool u.v,.string u.nm,.string u.tg,.slice (some ⟨eb,eo,none⟩) u.es.length c] 25)).drew).alloc (.cells #[.int .i64 0,ptr g.pk,.string ⟨#[65]⟩,.nilIface] 128)):=j.alloc (by simp) _;have H:(((w.alloc (.cells #[.int .i64 u.k,.int .i64 u.n,.int .i64 u.m,.bool u.v,.string u.nm,.string u.tg,.slice (some ⟨eb,eo,none⟩) u.es.length c] 25)).drew).alloc (.cells #[.int .i64 0,ptr g.pk,.string ⟨#[65]⟩,.nilIface] 128)).heap[w.heap.size+1]?=some (.cells #[.int .i64 0,ptr g.pk,.string ⟨#[65]⟩,.nilIface] 128 (0,0)):=cV (by simp);have T:(((w.alloc (.cells #[.int .i64 u.k,.int .i64 u.n,.int .i64 u.m,.bool u.v,.string u.nm,.string u.tg,.slice (some ⟨eb,eo,none⟩) u.es.length c] 25)).drew).alloc (.cells #[.int .i64 0,ptr g.pk,.string ⟨#[65]⟩,.nilIface] 128)).heap.size=w.heap.size+2:=by simp
 have P0:=Lib.hid (show(((w.alloc (.cells #[.int .i64 u.k,.int .i64 u.n,.int .i64 u.m,.bool u.v,.string u.nm,.string u.tg,.slice (some ⟨eb,eo,none⟩) u.es.length c] 25)).drew).alloc (.cells #[.int .i64 0,ptr g.pk,.string ⟨#[65]⟩,.nilIface] 128)).cell? ⟨w.heap.size+1,3,none⟩=some .nilIface by simp only[World.cell?,H];rfl);have P1:=Lib.hid (show(((w.alloc (.cells #[.int .i64 u.k,.int .i64 u.n,.int .i64 u.m,.bool u.v,.string u.nm,.string u.tg,.slice (some ⟨eb,eo,none⟩) u.es.length c] 25)).drew).alloc (.cells #[.int .i64 0,ptr g.pk,.string ⟨#[65]⟩,.nilIface] 128)).frozen? ⟨w.heap.size+1,3,none⟩=false by simp only[World.frozen?,H];rfl);have V:=Lib.hid T;clear H T;have Y:=Lib.hid (hI p g mv ms a' c' _ (O.below G) (by have:=Q.out;omega) R);have P2:eb<C.B0:=by
  obtain⟨a2,c2,h7,_⟩:=hu.list.get 0 hl;exact O.la _ _ _ h7.1
 have Z:((w.alloc (.cells #[.int .i64 u.k,.int .i64 u.n,.int .i64 u.m,.bool u.v,.string u.nm,.string u.tg,.slice (some ⟨eb,eo,none⟩) u.es.length c] 25)).drew).cell? ⟨C.bb,0,none⟩=some (ptr g.pk):=ar j O.c0;have I:=Lib.hid hk;have l:=Lib.hid G;have PM:=Lib.hid Z;have P3:=Lib.hid he;have r:=Lib.hid O;have P_:=Lib.hid hT;clear hk hu R O G j he Z hT hI;go_enter Tryz.func40,Tryz.ntmps40;go_wp2_with fail
 refine oR (fun W=>(W.cell? ⟨w.heap.size,0,none⟩=some (.int .i64 u.k)∧W.cell? ⟨w.heap.size,1,none⟩=some (.int .i64 u.n)∧W.cell? ⟨w.heap.size,2,none⟩=some (.int .i64 u.m)∧W.cell? ⟨w.heap.size,3,none⟩=some (.bool u.v)∧W.cell? ⟨w.heap.size,4,none⟩=some (.string u.nm)∧W.cell? ⟨w.heap.size,5,none⟩=some (.string u.tg)∧W.cell? ⟨w.heap.size,6,none⟩=some (.slice (some ⟨eb,eo,none⟩) u.es.length c))∧(W.cell? ⟨eb,eo,none⟩=some (.int .i64 e.k)∧W.cell? ⟨eb,eo+1,none⟩=some (.int .i64 e.n)∧W.cell? ⟨eb,eo+2,none⟩=some (.int .i64 e.m)∧W.cell? ⟨eb,eo+3,none⟩=some (.bool e.v)∧W.cell? ⟨eb,eo+4,none⟩=some (.string e.nm)∧W.cell? ⟨eb,eo+5,none⟩=some (.string e.tg)∧W.cell? ⟨eb,eo+6,none⟩=some (.slice a' e.es.length c'))) [(0,true),(2,true),(3,true),(4,true),(5,true),(6,true),(1,false),(7,false),(8,false),(9,true),(10,true)] (by(repeat' apply And.intro)<;>first|(simp[go_sem];done)|(go_keep;done)) (fun f=> ?_);repeat((first|refine oS ?_|refine oF f ?_);try simp only[Act.put,oa,ob,oc])
 refine oL fun K B=> ?_;go_simp;go_at_call 38
 refine(uX C.bb (some ⟨g.pk,0,none⟩) _ _ PM.out).mono ?_;rintro e0 w0 ⟨rfl,rfl⟩;obtain⟨⟨s0,s1,s2,s3,s4,s5,s6⟩,r0,r1,r2,r3,r4,r5,r6⟩:=f;(try simp only[]);refine B _ _ (by(repeat' apply And.intro)<;>exact ar ((Below.refl _ _).alloc (Nat.le_refl _) _) (by assumption)) fun f=> ?_;clear B K;try simp only[Act.put,oa,ob,oc]
 clear s0 s1 s2 s3 s4 s5 s6 r0 r1 r2 r3 r4 r5 r6;repeat((first|refine oS ?_|refine oF f ?_);try simp only[Act.put,oa,ob,oc])
 refine oL fun K B=> ?_;go_simp;go_at_call 40
 refine Y.out.mono ?_;rintro e1 d ⟨x,q,g',PN,P4,rfl,hn,i,s,J,_,Qa⟩;obtain⟨L,D,y,rfl,PO,P⟩:=EW hn PZ;obtain⟨E,t⟩:=jc r.out l.out.size s;have hz:=V.out;have PQ:d.cell? ⟨w.heap.size+1,3,none⟩=some .nilIface:=t _ _ _ (by omega) P0.out;have PR:=World.block_lt_of_cell? _ _ PQ;simp only at PR;have P5:d.frozen? ⟨w.heap.size+1,3,none⟩=false:=by
  rw[s.kept.frozen (by omega) fun e=>by have:=(r.out.ib (b:=w.heap.size+1) (e.imp Eq.symm fun h=>h)).2.1;omega];exact P1.out
 have PS:∀o,q (w.heap.size+1) o=none:=s.gr.aJ (by omega) fun o=>r.out.wb.kw.aJ (by omega) o;have hX:∀b,b=w.heap.size+1→C.B0≤b∧(∀o,q b o=none)∧b≠C.bb∧PN.ownBlock≠some b:=by
  rintro _ rfl;have h1:=(r.out.ib (b:=C.bb) (.inl rfl))
  refine⟨by omega,PS,by omega,fun e=> ?_⟩;rcases J _ e with e|e
  ·have:=(r.out.ib (b:=w.heap.size+1) (.inr e)).2.1;omega
  ·omega
 have z:Kept (fun b=>b=w.heap.size+1) d (d.setCell ⟨w.heap.size+1,3,none⟩ (ae 136 d.heap.size)):=Kept.setCell (X:=fun b=>b=w.heap.size+1) (Kept.refl _ _) (fun _=>rfl) _;obtain⟨⟨s0,s1,s2,s3,s4,s5,s6⟩,r0,r1,r2,r3,r4,r5,r6⟩:=f;have PT:(d.cell? ⟨w.heap.size,0,none⟩=some (.int .i64 u.k)∧d.cell? ⟨w.heap.size,1,none⟩=some (.int .i64 u.n)∧d.cell? ⟨w.heap.size,2,none⟩=some (.int .i64 u.m)∧d.cell? ⟨w.heap.size,3,none⟩=some (.bool u.v)∧d.cell? ⟨w.heap.size,4,none⟩=some (.string u.nm)∧d.cell? ⟨w.heap.size,5,none⟩=some (.string u.tg)∧d.cell? ⟨w.heap.size,6,none⟩=some (.slice (some ⟨eb,eo,none⟩) u.es.length c))∧(d.cell? ⟨eb,eo,none⟩=some (.int .i64 e.k)∧d.cell? ⟨eb,eo+1,none⟩=some (.int .i64 e.n)∧d.cell? ⟨eb,eo+2,none⟩=some (.int .i64 e.m)∧d.cell? ⟨eb,eo+3,none⟩=some (.bool e.v)∧d.cell? ⟨eb,eo+4,none⟩=some (.string e.nm)∧d.cell? ⟨eb,eo+5,none⟩=some (.string e.tg)∧d.cell? ⟨eb,eo+6,none⟩=some (.slice a' e.es.length c')):=by(repeat' apply And.intro)<;>first|exact t _ _ _ (Nat.le_refl _) (by assumption)|exact E _ _ _ P2 (by assumption)
 (try simp only[]);refine B _ _ (PT) fun f=> ?_;clear B K;try simp only[Act.put,oa,ob,oc]
 clear E t s0 s1 s2 s3 s4 s5 s6 r0 r1 r2 r3 r4 r5 r6;have M:=(i.own z hX).box (iH ⟨w.heap.size+1,0,none⟩ ⟨d.heap.size,0,none⟩ (ae L D) y) 265;have N:=(aD.ahead l.out s|>.own z fun b e=>by subst e;omega).box (i.own z hX) (iH ⟨w.heap.size+1,0,none⟩ ⟨d.heap.size,0,none⟩ (ae L D) y) 265;have PU:(d.setCell ⟨w.heap.size+1,3,none⟩ (ae 136 d.heap.size)).heap.size=d.heap.size:=by simp
 rw[PU]at M N;have hd:∀o,q d.heap.size o=none:=fun o=>i.wb.kw.aJ (Nat.le_refl _) o;have A:=Pm.dj (cs:=iH ⟨w.heap.size+1,0,none⟩ ⟨d.heap.size,0,none⟩ (ae L D) y) hd;have PV:AC (q.add d.heap.size (iH ⟨w.heap.size+1,0,none⟩ ⟨d.heap.size,0,none⟩ (ae L D) y)) (ae 136 d.heap.size) y:=by
  rcases P with⟨ht,rfl⟩|P
  ·exact .last ht (by rw[Pm.aX];rfl) (by rw[Pm.aX];rfl)
  ·have S:D<d.heap.size:=by cases P<;>exact i.wb.kw.lt ‹_›
   obtain⟨_,_,_,e1,_⟩:=P.world i.wb.kw;cases e1;exact .next (by rw[Pm.aX];rfl) S (by rw[Pm.aX];rfl) (P.sub A)
 have PW:bare u=bare e:=kb I.out P3.out;have PX:Hid (bA C u p g mv ms w (.returned (.iface 136 (.pointer (some ⟨d.heap.size,0,none⟩)))) ((d.setCell ⟨w.heap.size+1,3,none⟩ (ae 136 d.heap.size)).alloc (.cells (iH ⟨w.heap.size+1,0,none⟩ ⟨d.heap.size,0,none⟩ (ae L D) y) 265))):=
  ⟨_,_,g',PN,P4,rfl,.alias I.out PV (by rw[PW];exact PO.sub A (aH.refl _)),M,N,fun b e=>(J b e).imp (fun h=>h) fun h=>Nat.le_trans l.out.size h,fun h=>(by have:=I.out;omega),by have:=Q.out;omega⟩
 have P6:=i.wb.kw;have F:Hid (∀b o v,b≠w.heap.size+1→d.cell? ⟨b,o,none⟩=some v→((d.setCell ⟨w.heap.size+1,3,none⟩ (ae 136 d.heap.size)).alloc (.cells (iH ⟨w.heap.size+1,0,none⟩ ⟨d.heap.size,0,none⟩ (ae L D) y) 265)).cell? ⟨b,o,none⟩=some v):=fun b o v hb h=>by
  rw[(z.alloc _).cell (World.block_lt_of_cell? _ _ h) hb];exact h
 have P7:w.heap.size≠w.heap.size+1:=by omega
 have PY:eb≠w.heap.size+1:=by omega
 clear hn i s J M N hd A PV PW PO Y hX z PU PS PT;repeat((first|refine oS ?_|refine oF f ?_);try simp only[Act.put,oa,ob,oc])
 refine oL fun K B=> ?_;go_simp;go_at_call 80
 refine(EX (w.heap.size+1) L D y q _ P6 P PR PQ P5).mono ?_;rintro e2 w2 ⟨rfl,rfl⟩;obtain⟨⟨s0,s1,s2,s3,s4,s5,s6⟩,r0,r1,r2,r3,r4,r5,r6⟩:=f;(try simp only[]);refine B _ _ (by(repeat' apply And.intro)<;>first|exact F.out _ _ _ P7 (by assumption)|exact F.out _ _ _ PY (by assumption)) fun f=> ?_;clear B K;try simp only[Act.put,oa,ob,oc]
 clear s0 s1 s2 s3 s4 s5 s6 r0 r1 r2 r3 r4 r5 r6;repeat((first|refine oS ?_|refine oF f ?_);try simp only[Act.put,oa,ob,oc])
 refine ch ?_;clear f;go_wp2_with fail
 go_ret;exact PX.out
theorem EZ(C:BC)(u:U)(hk:u.k=1)(x:0≤u.n∧u.n<18):bZ C u:=by
 intro p g mv ms a c w y D hu;have E:=kt hk;have f:Below w.heap.size w (w.alloc (.cells #[.int .i64 u.k,.int .i64 u.n,.int .i64 u.m,.bool u.v,.string u.nm,.string u.tg,.slice a u.es.length c] 25)):=(Below.refl _ _).alloc (Nat.le_refl _) _;have i:=Lib.hid (y.below f);have l:=Lib.hid hk;have j:=Lib.hid x;have q:=Lib.hid f;have hw:(1+u.n) % 18446744073709551616=1+u.n:=by omega
 have F:¬(9223372036854775808≤1+u.n):=by omega
 clear hu y f hk x;go_enter Tryz.func40,Tryz.ntmps40;go_wp2_with fail
 rw[show 1+u.n=((u.n+1).toNat:Int) by have:=j.out;omega];refine(uW (u.n+1).toNat (by have:=j.out;omega) _).mono ?_;rintro e G ⟨b,rfl,aa,s,z,d,A⟩;have B:∀o,p b o=none:=fun o=>i.out.wb.kw.aJ aa o;have t:=Pm.eH (v:= .int .i64 ((u.n+1).toNat:Int)) (o:=0) (B 0) aa;have r:Hid (bA C u p g mv ms w (.returned (.iface 99 (.pointer (some ⟨b,0,none⟩)))) G):=
  ⟨_,_,g,mv,ms,rfl,.basic l.out (by rw[Pm.fL,show(((u.n+1).toNat:Nat):Int)=u.n+1 by have:=j.out;omega]),i.out.grow d t ((i.out.wb.below d).put z A),aD.ahead q.out ((aD.refl _ _ _ _ _ _).grow d t),fun b e=> .inl e,fun h=>(by have:=l.out;omega),by omega⟩
 clear aa s z d A B t;go_wp2_with fail
 go_ret;exact r.out
end Go.Proofs.YtdkmnkjhhhmglaaGreatDoor
namespace TS
open Go Go.RowKit Go.Proofs.YtdkmnkjhhhmglaaGreatDoor
theorem xh{p:Pm}{B:Nat}{w:World}{e:TypeId}{v:Value}{xs:List Value}(l:WB p w)(h:w.ownsRow B e 1 v xs.length xs)(n:∀b,v.ownBlock=some b→∀o,p b o=none):
 ∃q a c,v= .slice a xs.length c∧aP p q B∧WB q w∧b9 q a xs.length (fun i=>xs.getD i undef)∧(∀b,v.ownBlock≠some b→∀o,q b o=p b o)∧xs.length≤c∧(a=none→c=0)∧∀x,a=some x→x.spot=none:=by
 rcases h.2 with⟨j,s⟩|⟨b,cap,cur,j,t,u,y,m,z,d⟩
 ·exact⟨p,none,0,by rw[j,s],aP.refl _ _,l,fun i hi=>by omega,fun _ _ _=>rfl,by omega,fun _=>rfl,fun x h=>(by cases h)⟩
 ·have k:=n b (by rw[j];rfl)
  have f:∀i,i<xs.length→cur[i]?=some (xs.getD i undef):=fun i hi=>by
   have:(cur.toList.take (xs.length*1))[i]?=some (xs.getD i undef):=by rw[d];simp[hi]
   rw[List.getElem?_take,if_pos (by omega)]at this;simpa using this
  refine⟨p.add b cur,some ⟨b,0,none⟩,cap,j,Pm.dC k t,l.add k u,fun i hi=>⟨b,0,rfl,?_⟩,fun c m o=>Pm.aO _ _ _ fun e=>m (by rw[j,e];rfl),y,fun h=>(by cases h),fun x h=>by cases h;rfl⟩;rw[Pm.aX,Nat.zero_add];exact f i hi
section
variable {C:BC} {p q r:Pm} {g g1 g2:Ge} {mv mv1:Value} {ms ms1 ms2:List Nat} {w w1 w2:World}
theorem BS.jO(h:BS C p g mv ms w)(a:Sub p q)(j:WB q w)(c:∀b o v,q b o=some v→C.B0≤b)(d:∀o,q C.bb o=none)(f:∀b,mv.ownBlock=some b→∀o,q b o=none)(k:∀b u,g.G b=some u→p b 6=none→q b 6=none):BS C q g mv ms w where
 ka:=h.ka
 la:=h.la
 wb:=j
 lp:=c
 inj:=h.inj
 gv:=h.gv
 bl:=h.bl
 pb:=d
 c0:=h.c0
 c1:=let⟨h1,h2⟩:=h.c1;⟨h1,h2.sub a⟩
 c2:=h.c2
 c3:=h.c3
 c4:=h.c4
 f4:=h.f4
 row:=h.row
 rd:=fun b e=>⟨(h.rd b e).1,f b e⟩
 ord:=h.ord
 mlt:=h.mlt
 ifs:=fun b u e=>(h.ifs b u e).mono a (aH.refl g) (fun _ h=>h) (Nat.le_refl _) rfl rfl (k b u e)
 len:=h.len
 nm:=fun i hi=>a _ _ _ (h.nm i hi)
 po:=fun i hi=>let⟨o,v,e⟩:=h.po i hi;⟨o,v,a _ _ _ e⟩
 cH:=let⟨o,v,e⟩:=h.cH;⟨o,v,a _ _ _ e⟩
 cI:=let⟨o,v,e⟩:=h.cI;⟨o,v,a _ _ _ e⟩
 err:=let⟨h1,x,h2,h3⟩:=h.err;⟨a _ _ _ h1,x,h2.sub a,h3.sub a (aH.refl g)⟩
 cmp:=let⟨h1,b,h2,h3⟩:=h.cmp;⟨a _ _ _ h1,b,h2.sub a,h3⟩
 tn:=fun n l hi=>let⟨x,h1,h2⟩:=h.tn n l hi;⟨x,h1.sub a,h2.sub a (aH.refl g)⟩
theorem BS.apart(h:BS C p g mv ms w){e:TypeId}(he:e≠44){B:Nat}{v:Value}{n:Nat}{xs:List Value}(a:w.ownsRow B e 1 v n xs)(i:C.bb<B){b:Nat}(c:v.ownBlock=some b):b≠C.bb∧mv.ownBlock≠some b:=by
 refine⟨fun e=> ?_,fun f=> ?_⟩
 ·have:=(a.lt b c).1;omega
 ·obtain⟨cur,h1⟩:=iL a c
  obtain⟨d,h2⟩:=iL h.row f;rw[h1]at h2;injection h2 with h2;injection h2 with _ h2;exact he h2
theorem aD.row(h:BS C p g mv ms w)(k:aD C p g mv ms w q g1 ms1 w1){e:TypeId}(he:e≠44){B:Nat}{v:Value}{n:Nat}{xs:List Value}(a:w.ownsRow B e 1 v n xs)(c:C.bb<B)(d:∀b,v.ownBlock=some b→∀o,p b o=none):
 w1.ownsRow B e 1 v n xs∧∀b,v.ownBlock=some b→∀o,q b o=none:=
 ⟨eC a k.kept fun b f i=>by
  have:=h.apart he a c f;exact i.elim this.1 this.2,fun b e o=>k.gr.aJ (a.lt b e).2 (d b e) o⟩
theorem aD.jO(h:aD C p g mv ms w q g1 ms1 w1)(a:aP q r w.heap.size):aD C p g mv ms w r g1 ms1 w1:=⟨h.gr.trans a (Nat.le_refl _),h.gs,h.gn,h.kept,h.mm⟩
theorem BS.jP(h:BS C q g mv ms w){e:TypeId}(he:e≠44){l:Nat}{v:Value}{xs:List Value}(n:w.ownsRow l e 1 v xs.length xs)(s:∀b,v.ownBlock=some b→∀o,q b o=none)(t:C.bb<l):
 ∃f a c,v= .slice a xs.length c∧aP q f l∧BS C f g mv ms w∧b9 f a xs.length (fun i=>xs.getD i undef)∧(∀b,v.ownBlock≠some b→∀o,f b o=q b o)∧xs.length≤c∧(a=none→c=0)∧∀x,a=some x→x.spot=none:=by
 obtain⟨f,a,c,h1,h2,h3,y,k,m⟩:=xh h.wb n s;have j:=fun b (d:v.ownBlock=some b)=>h.apart he n t d;have z:=h.bl;refine⟨f,a,c,h1,h2,h.jO h2.le h3 (fun b o x A=>(h2.new _ _ _ A).elim (h.lp b o x) fun h=>by omega) (fun o=> ?_) (fun b d o=> ?_) (fun b u hu m=> ?_),y,k,m⟩
 ·rw[k _ fun d=>(j _ d).1 rfl];exact h.pb o
 ·rw[k _ fun B=>(j _ B).2 d];exact(h.rd b d).2 o
 ·rw[k _ fun d=> ?_]
  ·exact m
  ·have:=(h.ifs b u hu).2.1
   rw[s b d 0]at this;cases this
theorem BS.appended{a:World}(h:BS C q g mv ms w){e:TypeId}(he:e≠44){d:Nat}{v:Value}{n:Nat}{xs:List Value}(f:w.ownsRow d e 1 v n xs)(i:∀b,v.ownBlock=some b→∀o,q b o=none)(j:C.bb<d)(l:w.grownBy a v.ownBlock):BS C q g mv ms a∧Kept (fun b=>v.ownBlock=some b) w a:=by
 have hk:Kept (fun b=>v.ownBlock=some b) w a:=(Kept.refl _ _).grown l fun k hk _=>hk;refine⟨h.own hk fun b c=> ?_,hk⟩;have h1:=h.apart he f j c;have h2:=(f.lt b c).1;have h3:=h.bl;exact⟨by omega,i b c,h1.1,h1.2⟩
theorem kL{B i:Nat}{e f:TypeId}(he:e≠f){v v2:Value}{n j:Nat}{xs c:List Value}(k:w.ownsRow B e 1 v n xs)(d:w.ownsRow i f 1 v2 j c){b:Nat}(h:v.ownBlock=some b):v2.ownBlock≠some b:=fun l=>by
 obtain⟨c1,m⟩:=iL k h;obtain⟨c2,a⟩:=iL d l;rw[m]at a;injection a with a;injection a with _ a;exact he a
theorem kM{v c:Value}(h:WB q w)(d:∀b,v.ownBlock=some b→∀o,q b o=none)(a:c.ownBlock=v.ownBlock∨c.ownBlock=some w.heap.size):∀b,c.ownBlock=some b→∀o,q b o=none:=fun b e o=>by
 rcases a with a|a
 ·exact d b (a▸e) o
 ·rw[a]at e;cases e;exact h.kw.aJ (Nat.le_refl _) o
end
structure jd(C:BC)(u:U)(p:Pm)(g:Ge)(mv:Value)(ms:List Nat)(w:World)(k:Nat)(q:Pm)(d:Ge)(c:Value)(a fs:List Nat)(xs:Nat→Value)(f vt:Value)(wr:World):Prop where
 bs:BS C q d c a wr
 st:aD C p g mv ms w q d a wr
 om:∀b,c.ownBlock=some b→mv.ownBlock=some b∨w.heap.size≤b
 fl:fs.length=k
 fr:wr.ownsRow w.heap.size 96 1 f fs.length (fs.map pv)
 tr:wr.ownsRow w.heap.size 9 1 vt ((u.es.take k).map fun e=>Value.string e.tg).length ((u.es.take k).map fun e=>Value.string e.tg)
 fd:∀b,f.ownBlock=some b→∀o,q b o=none
 td:∀b,vt.ownBlock=some b→∀o,q b o=none
 cl:∀i(h:i<u.es.length),i<k→q (fs.getD i 0) 1=some (ptr g.pk)∧q (fs.getD i 0) 2=some (.string u.es[i].nm)∧q (fs.getD i 0) 3=some (xs i)∧q (fs.getD i 0) 5=some (.bool false)
 nd:∀i(h:i<u.es.length),i<k→Node q d u.es[i] (xs i)
 ct:a.length≤ms.length+aK (u.es.take k)
theorem jd.step{C:BC}{u e:U}{p q F:Pm}{g g' g1:Ge}{mv G mv1:Value}{ms H ms1 fs:List Nat}{w Z wr w1 I w5:World}{k:Nat}{xs:Nat→Value}{Y vt t v x:Value}
 (hF:jd C u p g mv ms w k q g' G H fs xs Y vt wr)(y:C.bb<w.heap.size)(M:u.es[k]?=some e)(c:Below wr.heap.size wr Z)
 (PM:Node F g1 e x)(J:BS C F g1 mv1 ms1 w1)(f:aD C q g' G H Z F g1 ms1 w1)(PN:∀b,mv1.ownBlock=some b→G.ownBlock=some b∨Z.heap.size≤b)(P3:ms1.length≤H.length+cn e)
 {bs cs:Array Value}{Tb Tc:TypeId}(PO:I.ownsRow w.heap.size 96 1 t (fs.length+1) (fs.map pv++ [pv w1.heap.size]))
 (PQ:((w1.alloc (.cells #[.int .i64 0,ptr g.pk,.string e.nm,x,.int .u8 6,.bool false] 175)).alloc (.cells bs Tb)).grownBy I Y.ownBlock)
 (PR:t.ownBlock=Y.ownBlock∨t.ownBlock=some ((w1.alloc (.cells #[.int .i64 0,ptr g.pk,.string e.nm,x,.int .u8 6,.bool false] 175)).alloc (.cells bs Tb)).heap.size)
 (PS:w5.ownsRow w.heap.size 9 1 v (((u.es.take k).map fun e=>Value.string e.tg).length+1) (((u.es.take k).map fun e=>Value.string e.tg)++ [.string e.tg]))
 (PT:(I.alloc (.cells cs Tc)).grownBy w5 vt.ownBlock)(PU:v.ownBlock=vt.ownBlock∨v.ownBlock=some (I.alloc (.cells cs Tc)).heap.size):
 jd C u p g mv ms w (k+1) (F.add w1.heap.size #[.int .i64 0,ptr g.pk,.string e.nm,x,.int .u8 6,.bool false]) g1 mv1 ms1 (fs++ [w1.heap.size]) (fun i=>if i=k then x else xs i) t v w5:=by
 obtain⟨hk,j⟩:=List.getElem?_eq_some_iff.1 M;have K:=aD.row (hF.bs.below c) f (by decide) (bO hF.fr c) y hF.fd;have L:=aD.row (hF.bs.below c) f (by decide) (bO hF.tr c) y hF.td;have PV:=J.box #[.int .i64 0,ptr g.pk,.string e.nm,x,.int .u8 6,.bool false] 175;have PW:=hF.st.trans (aD.ahead c f) hF.om;have PX:=PW.box J #[.int .i64 0,ptr g.pk,.string e.nm,x,.int .u8 6,.bool false] 175;have hd:∀o,F w1.heap.size o=none:=fun o=>J.wb.kw.aJ (Nat.le_refl _) o;have z:=Pm.dj (cs:=#[.int .i64 0,ptr g.pk,.string e.nm,x,.int .u8 6,.bool false]) hd;generalize PY:#[.int .i64 0,ptr g.pk,.string e.nm,x,.int .u8 6,.bool false]=d at*;have A:Below w1.heap.size w1 ((w1.alloc (.cells d 175)).alloc (.cells bs Tb)):=((Below.refl _ _).alloc (Nat.le_refl _) _).alloc (by simp) _;have N:Below (w1.alloc (.cells d 175)).heap.size (w1.alloc (.cells d 175)) ((w1.alloc (.cells d 175)).alloc (.cells bs Tb)):=(Below.refl _ _).alloc (Nat.le_refl _) _;have B:=PV.below N;have O:=PX.below N;have P:∀b,Y.ownBlock=some b→∀o,F.add w1.heap.size d b o=none:=fun b a o=>by
  rw[Pm.aO _ _ _ fun e2=>by have:=(K.1.lt b a).2;omega];exact K.2 b a o
 have Q:∀b,vt.ownBlock=some b→∀o,F.add w1.heap.size d b o=none:=fun b a o=>by
  rw[Pm.aO _ _ _ fun e2=>by have:=(L.1.lt b a).2;omega];exact L.2 b a o
 have l:=bO K.1 A;have D:=bO L.1 A;obtain⟨R,S⟩:=B.appended (by decide) l P y PQ;have PZ:=O.own S fun b a=>(l.lt b a).1;have T:=eC D S fun b a=>kL (by decide) D l a;have m:Below I.heap.size I (I.alloc (.cells cs Tc)):=(Below.refl _ _).alloc (Nat.le_refl _) _;have n:=bO T m;have E:=bO PO m;obtain⟨P0,V⟩:=(R.below m).appended (by decide) n Q y PT;have P1:=(PZ.below m).own V fun b a=>(n.lt b a).1;have W:=eC E V fun b a=>kL (by decide) E n a;have X:=hF.fl;have s:=f.gr.le.trans z;have P2:=f.gs;refine⟨P0,P1,fun b a=> ?_,by simp[X],by simpa using W,?_,kM B.wb P PR,kM (R.below m).wb Q PU,fun i h hi=> ?_,fun i h hi=> ?_,by have:=hF.ct;have:=gi M;omega⟩
 ·rcases PN b a with a|a
  ·exact hF.om b a
  ·have:=c.size;have:=hF.st.size;exact .inr (by omega)
 ·rw[List.take_succ_eq_append_getElem hk,j]
  simpa using PS
 ·by_cases a:i=k
  ·subst a
   rw[j,if_pos rfl,show(fs++ [w1.heap.size]).getD i 0=w1.heap.size by simp[List.getD,←X]];simp only[Pm.aX,←PY];exact⟨rfl,rfl,rfl,rfl⟩
  ·rw[if_neg a,show(fs++ [w1.heap.size]).getD i 0=fs.getD i 0 by simp[List.getD,List.getElem?_append_left (show i<fs.length by omega)]]
   obtain⟨h1,h2,h3,h4⟩:=hF.cl i h (by omega);exact⟨s _ _ _ h1,s _ _ _ h2,s _ _ _ h3,s _ _ _ h4⟩
 ·by_cases a:i=k
  ·subst a
   rw[j,if_pos rfl];exact PM.sub z (aH.refl _)
  ·rw[if_neg a];exact(hF.nd i h (by omega)).sub s P2
structure rI(C:BC)(u:U)(p:Pm)(g:Ge)(mv:Value)(ms:List Nat)(w:World)(q:Pm)(d:Ge)(c:Value)(a fs:List Nat)(xs:Nat→Value)(fa ta:Option Addr)(e:Nat)(wr:World):Prop where
 bs:BS C q d c a wr
 st:aD C p g mv ms w q d a wr
 om:∀b,c.ownBlock=some b→mv.ownBlock=some b∨w.heap.size≤b
 fr:b9 q fa u.es.length fun i=>ptr (fs.getD i 0)
 tr:∀i(h:i<u.es.length),∃b o,ta=some ⟨b,o,none⟩∧q b (o+i)=some (.string u.es[i].tg)
 cl:∀i(h:i<u.es.length),q (fs.getD i 0) 1=some (ptr d.pk)∧q (fs.getD i 0) 2=some (.string u.es[i].nm)∧q (fs.getD i 0) 3=some (xs i)∧q (fs.getD i 0) 5=some (.bool false)
 nd:∀i(h:i<u.es.length),Node q d u.es[i] (xs i)
 le:u.es.length≤e
 sp:∀x,fa=some x→x.spot=none
 ct:a.length≤ms.length+aK u.es
theorem jd.ready{C:BC}{u:U}{p q:Pm}{g G:Ge}{mv c:Value}{ms d fs:List Nat}{w wr:World}{xs:Nat→Value}{fa ta:Option Addr}{H tc fn tn:Nat}(hF:jd C u p g mv ms w u.es.length q G c d fs xs (.slice fa fn H) (.slice ta tn tc) wr)(f:C.bb<w.heap.size):
 ∃k,rI C u p g mv ms w k G c d fs xs fa ta H wr:=by
 have l:=hF.fl;obtain⟨Q,R,c1,I,h,m,n,s,t,_,v⟩:=hF.bs.jP (e:=96) (xs:=fs.map pv) (by decide) (by simpa using hF.fr) hF.fd f;obtain⟨k,a2,c2,J,a,x,y,K,L,_⟩:=m.jP (e:=9) (by decide) hF.tr (fun b e o=>by rw[s b fun M=>kL (by decide) hF.tr hF.fr e M];exact hF.td b e o) f;injection I with z N A
 injection J with B O D
 subst z;subst A;subst B;subst D;have j:=h.le.trans a.le;refine⟨k,x,hF.st.jO (h.trans a (Nat.le_refl _)),hF.om,fun i hi=> ?_,fun i hi=> ?_,fun i hi=> ?_,fun i hi=>(hF.nd i hi hi).sub j (aH.refl _),by simpa [l]using t,v,by have:=hF.ct;rwa [List.take_length]at this⟩
 ·obtain⟨b,o,E,F⟩:=n i (by simp;omega)
  refine⟨b,o,E,a.le _ _ _ ?_⟩;rw[F];simp[List.getD,List.getElem?_eq_getElem (show i<fs.length by omega),pv]
 ·obtain⟨b,o,E,F⟩:=y i (by simp;omega)
  refine⟨b,o,E,?_⟩;rw[F];simp[List.getD,hi]
 ·obtain⟨h1,h2,h3,P⟩:=hF.cl i hi hi
  exact⟨by rw[hF.st.gs.pk];exact j _ _ _ h1,j _ _ _ h2,j _ _ _ h3,j _ _ _ P⟩
theorem rI.done{C:BC}{u:U}{p q:Pm}{g B:Ge}{mv l:Value}{ms m fs:List Nat}{w wr n:World}{xs:Nat→Value}{fa ta a2:Option Addr}{s tc b:Nat}(c:rI C u p g mv ms w q B l m fs xs fa ta s wr)(hk:u.k=5)(H:u.es.length≤1099511627776)
 (t:wr.heap.size≤b)(D:n.cell? ⟨b,0,none⟩=some (.slice a2 u.es.length (if fa=none then 0 else s)))(ha:fa=none∨a2=fa)(h1:n.cell? ⟨b,1,none⟩=some (.slice ta u.es.length tc))(x:Below wr.heap.size wr n)(E:Plain n b):
 bA C u p g mv ms w (.returned (ae 167 b)) n:=by
 have F:∀o,q b o=none:=fun o=>c.bs.wb.kw.aJ t o;have y:=Pm.eH (v:= .slice a2 u.es.length (if fa=none then 0 else s)) (F 0) t;have z:=Pm.eH (p:=q.put b 0 (.slice a2 u.es.length (if fa=none then 0 else s))) (v:= .slice ta u.es.length tc) (o:=1) (by rw[Pm.a_ _ _ (by omega)];exact F 1) t;have d:=y.trans z (Nat.le_refl _);have hw:=((c.bs.wb.below x).put D E).put h1 E;have I:=c.bs.grow x d hw;have G:u.es.length≤(if fa=none then 0 else s)∧b9 q a2 u.es.length fun i=>ptr (fs.getD i 0):=by
  by_cases j:fa=none
  ·have D:u.es.length=0:=Nat.eq_zero_of_not_pos fun h=>by obtain⟨_,_,h,_⟩:=c.fr 0 h;rw[j]at h;cases h
   exact⟨by omega,fun i hi=>by omega⟩
  ·rw[if_neg j]
   refine⟨c.le,?_⟩;rcases ha with h|rfl
   ·exact absurd h j
   ·exact c.fr
 have A:=c.om;refine⟨_,_,B,l,m,rfl,.struct (f:=fun i=>fs.getD i 0) (xs:=xs) (a:=a2) (a':=ta) hk (by rw[Pm.a_ _ _ (by omega),Pm.fL]) (Pm.fL ..) G.1 H (G.2.sub d.le) (fun i hi=> ?_) (fun i hi=> ?_) (fun i hi=>(c.nd i hi).sub d.le (aH.refl _)),I,c.st.grow x d,A,fun h=>(by omega),by have:=c.ct;rw[cW];omega⟩
 ·obtain⟨b,o,e,h⟩:=c.tr i hi;exact⟨b,o,e,d.le _ _ _ h⟩
 ·obtain⟨h1,h2,h3,J⟩:=c.cl i hi;exact⟨d.le _ _ _ h1,d.le _ _ _ h2,d.le _ _ _ h3,d.le _ _ _ J⟩
end TS
namespace Go.Proofs.YtdkmnkjhhhmglaaGreatDoor
open Go.RowKit TS
theorem E7:(Tryz.prog.info? 9).map (fun i=>(i.zero,i.size,i.bytes))=some (some (.string ByteArray.empty),1,16):=by kernel_rfl
theorem E8(C:BC)(u:U)(hk:u.k=5)(PX:∀e∈u.es,aM e.nm=true)(hnd:(u.es.map U.nm).Nodup)(hI:∀e∈u.es,bZ C e)(p:Pm)(g:Ge)(mv:Value)(ms:List Nat)(a:Option Addr)(c:Nat)(w:World)(hB:BS C p g mv ms w)(QG:ms.length+cn u≤1099511627776)(hu:ak C.pa C.D u a c):
 Calls Tryz.prog 87 #[.pointer (some ⟨C.bb,0,none⟩),.agg #[.int .i64 u.k,.int .i64 u.n,.int .i64 u.m,.bool u.v,.string u.nm,.string u.tg,.slice a u.es.length c]] w (bA C u p g mv ms w):=by
 have PY:=hu.cap;have Qs:Hid (∀k e,u.es[k]?=some e→∃eb eo a' c',a=some ⟨eb,eo,none⟩∧dr C.pa eb (eo+k*7) e a' c'∧ak C.pa C.D e a' c'):=fun k e he=>by
  obtain⟨hk,rfl⟩:=List.getElem?_eq_some_iff.1 he;obtain⟨eb,eo,rfl⟩:=hu.list.bN (by omega);obtain⟨a',c',h7,G⟩:=hu.list.get k hk;exact⟨eb,eo,a',c',rfl,h7,G⟩
 have H:=(hB.ib (b:=C.bb) (.inl rfl)).2.1;have Z:Below w.heap.size w (w.alloc (.cells #[.int .i64 u.k,.int .i64 u.n,.int .i64 u.m,.bool u.v,.string u.nm,.string u.tg,.slice a u.es.length c] 25)):=(Below.refl _ _).alloc (Nat.le_refl _) _;have Qt:=Lib.hid (hB.below Z);have QH:=Lib.hid hB;have PZ:=Lib.hid Z;have QI:u.es.length≤1048576:=by omega
 have QA:u.es.length≤1099511627776:=by omega
 have Qu:=Lib.hid hk;have P0:=Lib.hid PX;have P1:=Lib.hid hnd;have Qv:=Lib.hid hI;obtain⟨i0,Qw,P2,P3,P4⟩:=info_parts vb;obtain⟨i1,Qx,P5,P6,P7⟩:=info_parts E7;clear hu hB Z PY hk PX hnd hI;generalize hn:u.es.length=n at*;have PM:=Lib.hid hn;clear hn;go_enter Tryz.func87,Tryz.ntmps87;go_wp2_with fail
 go_loopw [12,5,6] (fun vi vf vt wr=> ∃(k:Nat)(q:Pm)(g':Ge)(PN:Value)(PO fs:List Nat)(xs:Nat→Value),k≤n∧vi= .int .i64 k∧jd C u p g mv ms w k q g' PN PO fs xs vf vt wr) (fun vi _ _ _=>n- (intOf vi).toNat)
 case atStart=>exact⟨0,p,g,mv,ms,[],fun _=>undef,Nat.zero_le _,rfl,Qt.out,aD.ahead PZ.out (aD.refl _ _ _ _ _ _),fun b e=> .inl e,rfl,World.ownsRow_nil _ _ _ _,World.ownsRow_nil _ _ _ _,fun b e=>(by cases e),fun b e=>(by cases e),fun i _ hi=>absurd hi (Nat.not_lt_zero _),fun i _ hi=>absurd hi (Nat.not_lt_zero _),Nat.le_add_right _ _⟩
 case round=>
  obtain⟨k,q,g',PN,PO,fs,xs,PQ,rfl,hF⟩:=hrel;have d:=Lib.hid hF;obtain⟨fa,I,rfl⟩:=bn hF.fr;obtain⟨ta,tc,rfl⟩:=bn hF.tr;have P8:=Lib.hid hF.tr;clear hF;obtain⟨A,J⟩:∃A,Hid ((u.es.take k).map (fun e=>Value.string e.tg)=A):=⟨_,rfl⟩
  rw[J.out]at d P8⊢;have P9:=Lib.hid (show A.length≤k by rw[←J.out];simp;omega);by_cases QJ:k<n
  ·have QB:(k:Int)<n:=by omega
   obtain⟨e,B⟩:∃e,u.es[k]?=some e:=⟨_,List.getElem?_eq_getElem (by have:=PM.out;omega)⟩
   obtain⟨eb,eo,a',c',rfl,h7,G⟩:=Qs.out k e B;have P_:=Qv.out _ (List.mem_of_getElem? B);obtain⟨z0,z1,z2,z3,z4,z5,z6⟩:TS.C7 wr eb (eo+k*7) e a' c':=h7.world d.out.bs.ka;have QC:eb<wr.heap.size:=d.out.bs.ka.lt h7.1;have PR:Below wr.heap.size wr ((wr.alloc (.cells #[.int .i64 e.k,.int .i64 e.n,.int .i64 e.m,.bool e.v,.string e.nm,.string e.tg,.slice a' e.es.length c'] 25)).drew):=((Below.refl _ _).alloc (Nat.le_refl _) _).drew;have hT:=Lib.hid (P_ q g' PN PO a' c' _ (d.out.bs.below PR) (by have:=d.out.ct;have:=pn B;omega) G);have Qa:=Lib.hid B;have l:=Lib.hid PR;have P:=d.out.bs.c0;have Q:g'.pk=g.pk:=d.out.st.gs.pk;rw[Q]at P;have Qb:=World.block_lt_of_cell? _ _ P;simp only at Qb;clear h7 G P_ B PR;go_wp2_with fail
   refine oR (fun W=>W.cell? ⟨C.bb,0,none⟩=some (ptr g.pk)∧(W.cell? ⟨wr.heap.size,0,none⟩=some (.int .i64 e.k)∧W.cell? ⟨wr.heap.size,1,none⟩=some (.int .i64 e.n)∧W.cell? ⟨wr.heap.size,2,none⟩=some (.int .i64 e.m)∧W.cell? ⟨wr.heap.size,3,none⟩=some (.bool e.v)∧W.cell? ⟨wr.heap.size,4,none⟩=some (.string e.nm)∧W.cell? ⟨wr.heap.size,5,none⟩=some (.string e.tg)∧W.cell? ⟨wr.heap.size,6,none⟩=some (.slice a' e.es.length c'))) [(0,true),(1,true),(2,true),(3,true),(4,true),(5,true),(6,true),(7,true),(8,true),(9,false),(10,false),(11,false),(12,false),(13,true)] (by(repeat' apply And.intro)<;>first|(simp[go_sem];done)|(go_keep;done)) (fun f=> ?_);repeat((first|refine oS ?_|refine oF f ?_);try simp only[Act.put,oa,ob,oc])
   refine oL fun K E=> ?_;go_simp;go_at_call 40
   refine hT.out.mono ?_;rintro e1 w1 ⟨x,q1,g1,mv1,ms1,rfl,PS,L,s,Qc,_,Qy⟩;obtain⟨R,S,rfl⟩:=PS.val;have T:w1.cell? ⟨C.bb,0,none⟩=some (ptr g.pk):=by
    have h1:=L.c0;rwa [s.gs.pk,Q]at h1
   have V:=(jc d.out.bs l.out.size s).2;obtain⟨_,s0,s1,s2,s3,s4,s5,s6⟩:=f;(try simp only[]);refine E _ _ (by(repeat' apply And.intro)<;>first|exact T|exact V _ _ _ (Nat.le_refl _) (by assumption)) fun f=> ?_;clear E K;try simp only[Act.put,oa,ob,oc]
   clear s0 s1 s2 s3 s4 s5 s6;have QK:wr.heap.size<w1.heap.size:=by
    have:=s.size;simp at this;omega
   have QD:=(L.ib (b:=C.bb) (.inl rfl)).2.1;have QL:w.heap.size<w1.heap.size:=by have:=d.out.st.size;omega
   have Qd:(Value.slice fa fs.length I).ownBlock≠some C.bb∧(Value.slice fa fs.length I).ownBlock≠some wr.heap.size:=⟨fun e=>by have:=(d.out.fr.lt _ e).1;omega,fun e=>by have:=(d.out.fr.lt _ e).2;omega⟩
   have Qe:=Lib.hid (show fs.length=k from d.out.fl);have Qf:=Lib.hid (show ∀j u,[Value.pointer (some ⟨w1.heap.size,0,none⟩)][j]?=some u→((w1.alloc (.cells #[.int .i64 0,ptr g.pk,.string e.nm,ae R S,.int .u8 6,.bool false] 175)).alloc (.cells #[.pointer (some ⟨w1.heap.size,0,none⟩)] 96)).cell? ((⟨w1.heap.size+1,0,none⟩:Addr).add j)=some u from fun j u h=>by
    have h1:=TS.eD (w1.alloc (.cells #[.int .i64 0,ptr g.pk,.string e.nm,ae R S,.int .u8 6,.bool false] 175)) (.pointer (some ⟨w1.heap.size,0,none⟩)) 96 j u h;rwa [show(w1.alloc (.cells #[.int .i64 0,ptr g.pk,.string e.nm,ae R S,.int .u8 6,.bool false] 175)).heap.size=w1.heap.size+1 by simp]at h1)
   have X:=Lib.hid ((((aD.row (d.out.bs.below l.out) s (by decide) (bO d.out.fr l.out) H d.out.fd).1).alloc (.cells #[.int .i64 0,ptr g.pk,.string e.nm,ae R S,.int .u8 6,.bool false] 175)).alloc (.cells #[.pointer (some ⟨w1.heap.size,0,none⟩)] 96));have Qg:=Lib.hid (show ∀M,((w1.alloc (.cells #[.int .i64 0,ptr g.pk,.string e.nm,ae R S,.int .u8 6,.bool false] 175)).alloc (.cells #[.pointer (some ⟨w1.heap.size,0,none⟩)] 96)).grownBy M (Value.slice fa fs.length I).ownBlock→M.ownsRow w.heap.size 9 1 (.slice ta A.length tc) A.length A from fun M hg=>by
    have h1:=(((aD.row (d.out.bs.below l.out) s (by decide) (bO P8.out l.out) H d.out.td).1).alloc (.cells #[.int .i64 0,ptr g.pk,.string e.nm,ae R S,.int .u8 6,.bool false] 175)).alloc (.cells #[.pointer (some ⟨w1.heap.size,0,none⟩)] 96);exact eC h1 ((Kept.refl (fun b=>(Value.slice fa fs.length I).ownBlock=some b) _).grown hg fun k hk _=>hk) fun b e1=>kL (by decide) h1 X.out e1)
   have Qh:=Lib.hid L;have Qi:=Lib.hid s;have Qj:=Lib.hid PS;have Qk:=Lib.hid Qc;clear L s PS Qc T V hT;repeat((first|refine oS ?_|refine oF f ?_);try simp only[Act.put,oa,ob,oc])
   refine oL fun K E=> ?_;go_simp;go_at_call 134
   refine(AP _ _ _ _ _ _ _).mono ?_;rintro e2 w2 ⟨rfl,rfl⟩;obtain⟨_,s0,s1,s2,s3,s4,s5,s6⟩:=f;(try simp only[]);refine E _ _ (by(repeat' apply And.intro)<;>exact ar ((Below.refl _ _).alloc (Nat.le_refl _) _) (by assumption)) fun f=> ?_;clear E K;try simp only[Act.put,oa,ob,oc]
   clear s0 s1 s2 s3 s4 s5 s6;repeat((first|refine oS ?_|refine oF f ?_);try simp only[Act.put,oa,ob,oc])
   refine oL fun K E=> ?_;go_simp;obtain⟨_,s0,s1,s2,s3,s4,s5,s6⟩:=f;(try simp only[]);refine E _ _ (by(repeat' apply And.intro)<;>exact ar ((Below.refl _ _).alloc (Nat.le_refl _) _) (by assumption)) fun f=> ?_;clear E K;try simp only[Act.put,oa,ob,oc]
   repeat((first|refine oS ?_|refine oF f ?_);try simp only[Act.put,oa,ob,oc])
   refine fp rfl (by rfl) (fun K E=> ?_);refine lK _ _ 170 rfl w.heap.size 96 i0 (.pointer none) 1 8 Tryz.underlying170 Qw P2 P3 P4 rfl (by decide) (.slice fa fs.length I) fs.length (fs.map pv) rfl X.out ⟨w1.heap.size+1,0,none⟩ 1 1 [.pointer (some ⟨w1.heap.size,0,none⟩)] rfl rfl Qf.out (TS.one_one rfl) ?c3 ?c4 ?c5 ?_
   case c3=>have:=Qe.out;unfold maxLen;omega
   case c4=>have:=Qe.out;omega
   case c5=>(try simp);omega
   intro QM M t PT _ Ql;have PU:∀b o v,(Value.slice fa fs.length I).ownBlock≠some b→((w1.alloc (.cells #[.int .i64 0,ptr g.pk,.string e.nm,ae R S,.int .u8 6,.bool false] 175)).alloc (.cells #[.pointer (some ⟨w1.heap.size,0,none⟩)] 96)).cell? ⟨b,o,none⟩=some v→M.cell? ⟨b,o,none⟩=some v:=fun b o v hb h=>by
    rw[((Kept.refl (fun b=>(Value.slice fa fs.length I).ownBlock=some b) _).grown PT fun k hk _=>hk).cell (World.block_lt_of_cell? _ _ h) hb];exact h
   obtain⟨_,s0,s1,s2,s3,s4,s5,s6⟩:=f;(try simp only[]);refine E _ _ (by(repeat' apply And.intro)<;>first|exact PU _ _ _ Qd.1 (by assumption)|exact PU _ _ _ Qd.2 (by assumption)) fun f=> ?_;clear E K;try simp only[Act.put,oa,ob,oc]
   clear s0 s1 s2 s3 s4 s5 s6 PU;repeat((first|refine oS ?_|refine oF f ?_);try simp only[Act.put,oa,ob,oc])
   refine ch ?_;obtain⟨d0,s0,s1,s2,s3,s4,s5,s6⟩:=f;obtain⟨a3,c3,rfl⟩:=bn t;have F:=Lib.hid PT;have N:=Lib.hid t;have Qm:=Lib.hid Ql;clear PT t Ql;have PV:=Lib.hid (Qg.out M F.out);have QE:w1.heap.size+2≤M.heap.size:=by have:=((Kept.refl (fun b=>(Value.slice fa fs.length I).ownBlock=some b) _).grown F.out fun k hk _=>hk).size;simpa using this
   go_wp2_with (first|(at_builtin;refine wpList_append_own_at _ rfl _ _ 171 rfl w.heap.size 9 i1 (.string ByteArray.empty) 1 16 Tryz.underlying171 Qx P5 P6 P7 rfl (by decide) (.slice ta A.length tc) A.length A rfl (PV.out.alloc _) ⟨M.heap.size,0,none⟩ 1 1 [.string e.tg] rfl rfl (TS.eD M _ _) (TS.one_one rfl) ?c3 ?c4 ?c5 ?_)|fail)
   case c3=>have:=P9.out;unfold maxLen;omega
   case c4=>have:=P9.out;omega
   case c5=>(try simp);omega
   intro QN w5 y Qn _ Qo;obtain⟨a5,c5,rfl⟩:=bn y;have z:jd C u p g mv ms w (k+1) _ g1 mv1 ms1 (fs++ [w1.heap.size]) (fun i=>if i=k then ae R S else xs i) (.slice a3 (fs.length+1) c3) (.slice a5 (A.length+1) c5) w5:=
    jd.step d.out H Qa.out l.out Qj.out Qh.out Qi.out Qk.out Qy N.out F.out Qm.out (by rw[J.out];exact y) Qn (Qo.imp id fun h=>h.trans (by simp))
   have PW:=Lib.hid z;have QF:fs.length+1=(fs++ [w1.heap.size]).length:=by simp
   clear z y Qn Qo;go_wp2_with fail
   exact⟨⟨k+1,_,g1,mv1,ms1,_,_,by omega,by go_num,PW.out⟩,by first|omega|(simp[intOf];omega)⟩
  ·have QO:¬(k:Int)<n:=by omega
   obtain rfl:k=n:=by omega
   have PQ:=PM.out;obtain⟨q2,Y⟩:=jd.ready (PM.out.symm▸d.out) H;have O:=Lib.hid Y;have Qp:=Lib.hid (d.out.fl);have h1:Hid (∀i,i<k→wr.cell? ⟨fs.getD i 0,1,none⟩=some (.pointer (some ⟨g'.pk,0,none⟩))):=fun i hi=>Y.bs.wb.kw _ _ _ (Y.cl i (by omega)).1;have h2:Hid (∀i,i<k→wr.cell? ⟨fs.getD i 0,2,none⟩=some (.string (u.es.getD i aI).nm)):=fun i hi=>by
    rw[Y.bs.wb.kw _ _ _ (Y.cl i (by omega)).2.1];simp[List.getD,List.getElem?_eq_getElem (show i<u.es.length by omega)]
   have h3:Hid (∀i,i<k→aM (u.es.getD i aI).nm=true):=fun i hi=>P0.out _ (by simp[List.getD,List.getElem?_eq_getElem (show i<u.es.length by omega)]);have h4:Hid (∀i j,i<j→j<k→(u.es.getD i aI).nm≠(u.es.getD j aI).nm):=fun i j Qz hj=>by
    have h:=List.pairwise_iff_getElem.1 P1.out i j (by simp;omega) (by simp;omega) Qz;simpa [List.getD,List.getElem?_eq_getElem (show i<u.es.length by omega),List.getElem?_eq_getElem (show j<u.es.length by omega)]using h
   have h5:Hid (bw wr fa k fun i=>fs.getD i 0):=fun i hi=>by
    obtain⟨b,o,e1,e2⟩:=Y.fr i (by omega);exact⟨b,o,e1,Y.bs.wb.kw _ _ _ e2⟩
   clear Y;go_wp2_with fail
   rw[Qp.out,show A.length=k by rw[←J.out];simp;omega];refine(Cn fa ta k I tc (fun i=>fs.getD i 0) (fun i=>(u.es.getD i aI).nm) (fun _=>some ⟨g'.pk,0,none⟩) wr (by omega) O.out.bs.wb.cap O.out.sp h5.out h1.out h2.out h3.out h4.out).mono ?_;rintro e2 w2 ⟨b,a2,rfl,hb,c0,ha,c1,Qq,Qr⟩;have z:Hid (bA C u p g mv ms w (.returned (.iface 167 (.pointer (some ⟨b,0,none⟩)))) w2):=
    O.out.done (tc:=tc) Qu.out (by omega) hb (by rw[PQ];exact c0) ha (by rw[PQ];exact c1) Qq Qr
   clear hb c0 c1 ha Qq Qr h1 h2 h3 h4 h5 O Qp;go_wp2_with fail
   go_ret;exact z.out
end Go.Proofs.YtdkmnkjhhhmglaaGreatDoor
