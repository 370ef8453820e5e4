import Derived.Test.YtgbklbbknehefaaGreatDoorYbi
import Derived.Test.YtgbklbbknehefaaGreatDoorYbj
set_option maxRecDepth 100000
set_option maxHeartbeats 8000000
set_option linter.all false
namespace TS
open Go Go.RowKit Go.Proofs.YtgbklbbknehefaaGreatDoor
theorem AC.world{p:Pm}{x y:Value}(h:AC p x y){w:World}(hw:KW p w):∃b t c,x=ae 139 b∧y=ae t c∧t≠139∧gy w 139 t (some ⟨c,0,none⟩) b:=by
 induction h with
 | @last b t c h1 h2 h3=>exact⟨b,t,c,rfl,rfl,h1,.last (hw _ _ _ h2)⟩
 | @next b c y h1 h2 h3 _ ih=>
   obtain⟨g,t,c',a,d,e,f⟩:=ih;cases a;exact⟨b,t,c',rfl,d,e,.next (hw _ _ _ h1) h2 f⟩
theorem WB.put{p:Pm}{w:World}{b o:Nat}{v:Value}(h:WB p w)(f:w.cell? ⟨b,o,none⟩=some v)(g:Plain w b):WB (p.put b o v) w where
 kw:=fun c d x a=>by
  by_cases e:c=b∧d=o
  ·obtain⟨rfl,rfl⟩:=e;rw[Pm.eK]at a;cases a;exact f
  ·rw[Pm.aV _ _ e]at a;exact h.kw _ _ _ a
 pl:=fun c d x a=>by
  by_cases e:c=b∧d=o
  ·obtain⟨rfl,rfl⟩:=e;exact g
  ·rw[Pm.aV _ _ e]at a;exact h.pl _ _ _ a
 cap:=h.cap
theorem Pm.dP{p:Pm}{b o n:Nat}{v:Value}(h:p b o=none)(f:n≤b):aK p (p.put b o v) n:=
 ⟨Pm.eL v h,fun c d x a=>by
  by_cases e:c=b∧d=o
  ·exact .inr (by omega)
  ·rw[Pm.aV _ _ e]at a;exact .inl a⟩
theorem Ch{p:Pm}{g:Ge}{u:U}{x:Value}(h:Node p g u x)(e:u.k≠12∧u.k≠13):∃t c y,x=ae t c∧Node p g (bare u) y∧((t≠139∧y=ae t c)∨AC p (ae t c) y):=by
 by_cases h2:u.k=2
 ·cases h with
  |alias _ ha f=>
   obtain⟨b,rfl⟩:∃b,x=ae 139 b:=by cases ha<;>exact⟨_,rfl⟩
   exact⟨_,_,_,rfl,f,.inr ha⟩
  |_=>omega
 ·by_cases a:u.k=14
  ·rw[gd a]
   cases h with
   |any _ d=>
    obtain⟨b,rfl,_⟩:=d.gN rfl;exact⟨_,_,_,rfl,d,.inl ⟨by decide,rfl⟩⟩
   |_=>omega
  ·rw[ca h2 a]
   have i:=h;cases h with
   |alias|any|union=>omega
   |_=>exact⟨_,_,_,rfl,i,.inl ⟨by decide,rfl⟩⟩
end TS
namespace Go.Proofs.YtgbklbbknehefaaGreatDoor
open Go.RowKit TS
theorem Ci(a:Nat)(t c:Nat)(y:Value)(p:Pm)(w:World)(hw:KW p w)(h:(t≠139∧y=ae t c)∨AC p (ae t c) y)(g:a<w.heap.size)(i:w.cell? ⟨a,3,none⟩=some .nilIface)(j:w.frozen? ⟨a,3,none⟩=false):
 Calls Tryz.prog 72 #[.pointer (some ⟨a,0,none⟩),ae t c] w fun e k=>e= .returned (.pointer (some ⟨w.heap.size,0,none⟩))∧
  k=(w.setCell ⟨a,3,none⟩ (ae 139 w.heap.size)).alloc (.cells (gz ⟨a,0,none⟩ ⟨w.heap.size,0,none⟩ (ae t c) y) 255):=by
 rcases h with⟨h,rfl⟩|h
 ·exact yi a t _ h w g i j
 ·obtain⟨b,t',c',l,rfl,m,d⟩:=h.world hw
  cases l;have f:c<w.heap.size:=by cases d<;>exact World.block_lt_of_cell? _ _ ‹_›
  exact yj a c t' _ m w g i j f d
theorem Cj(C:BC)(u e:U)(hk:u.k=2)(he:u.es= [e])(hT:fZ C e)(Qf:e.k≠12∧e.k≠13)(hI:bF C e):bF C u:=by
 intro p g mv ms a c w O Qo hu;have Q:=Lib.hid (lh he);obtain⟨eb,eo,a',c',rfl,hl,R,⟨z0,z1,z2,z3,z4,z5,z6⟩,S⟩:=jq hu O.ka he;have Qp:=kf 1 hk;have F:=kt hk;have j:Below w.heap.size w ((w.alloc (.cells #[.int .i64 u.k,.int .i64 u.n,.int .i64 u.m,.bool u.v,.string u.nm,.string u.tg,.slice (some ⟨eb,eo,none⟩) u.es.length c] 25)).drew):=((Below.refl _ _).alloc (Nat.le_refl _) _).drew;have G:Below w.heap.size w (((w.alloc (.cells #[.int .i64 u.k,.int .i64 u.n,.int .i64 u.m,.bool u.v,.string u.nm,.string u.tg,.slice (some ⟨eb,eo,none⟩) u.es.length c] 25)).drew).alloc (.cells #[.int .i64 0,ptr g.pk,.string ⟨#[65]⟩,.nilIface] 131)):=j.alloc (by simp) _;have H:(((w.alloc (.cells #[.int .i64 u.k,.int .i64 u.n,.int .i64 u.m,.bool u.v,.string u.nm,.string u.tg,.slice (some ⟨eb,eo,none⟩) u.es.length c] 25)).drew).alloc (.cells #[.int .i64 0,ptr g.pk,.string ⟨#[65]⟩,.nilIface] 131)).heap[w.heap.size+1]?=some (.cells #[.int .i64 0,ptr g.pk,.string ⟨#[65]⟩,.nilIface] 131 (0,0)):=cf (by simp);have T:(((w.alloc (.cells #[.int .i64 u.k,.int .i64 u.n,.int .i64 u.m,.bool u.v,.string u.nm,.string u.tg,.slice (some ⟨eb,eo,none⟩) u.es.length c] 25)).drew).alloc (.cells #[.int .i64 0,ptr g.pk,.string ⟨#[65]⟩,.nilIface] 131)).heap.size=w.heap.size+2:=by simp
 have Qg:=Lib.hid (show(((w.alloc (.cells #[.int .i64 u.k,.int .i64 u.n,.int .i64 u.m,.bool u.v,.string u.nm,.string u.tg,.slice (some ⟨eb,eo,none⟩) u.es.length c] 25)).drew).alloc (.cells #[.int .i64 0,ptr g.pk,.string ⟨#[65]⟩,.nilIface] 131)).cell? ⟨w.heap.size+1,3,none⟩=some .nilIface by simp only[World.cell?,H];rfl);have Qh:=Lib.hid (show(((w.alloc (.cells #[.int .i64 u.k,.int .i64 u.n,.int .i64 u.m,.bool u.v,.string u.nm,.string u.tg,.slice (some ⟨eb,eo,none⟩) u.es.length c] 25)).drew).alloc (.cells #[.int .i64 0,ptr g.pk,.string ⟨#[65]⟩,.nilIface] 131)).frozen? ⟨w.heap.size+1,3,none⟩=false by simp only[World.frozen?,H];rfl);have V:=Lib.hid T;clear H T;have Y:=Lib.hid (hI p g mv ms a' c' _ (O.below G) (by have:=Q.out;omega) R);have Qi:eb<C.B0:=by
  obtain⟨a2,c2,h7,_⟩:=hu.list.get 0 hl;exact O.la _ _ _ h7.1
 have Z:((w.alloc (.cells #[.int .i64 u.k,.int .i64 u.n,.int .i64 u.m,.bool u.v,.string u.nm,.string u.tg,.slice (some ⟨eb,eo,none⟩) u.es.length c] 25)).drew).cell? ⟨C.bb,0,none⟩=some (ptr g.pk):=ak j O.c0;have I:=Lib.hid hk;have l:=Lib.hid G;have P4:=Lib.hid Z;have Qj:=Lib.hid he;have r:=Lib.hid O;have Qq:=Lib.hid hT;clear hk hu R O G j he Z hT hI;go_enter Tryz.func36,Tryz.ntmps36;go_wp2_with fail
 refine oR (fun W=>(W.cell? ⟨w.heap.size,0,none⟩=some (.int .i64 u.k)∧W.cell? ⟨w.heap.size,1,none⟩=some (.int .i64 u.n)∧W.cell? ⟨w.heap.size,2,none⟩=some (.int .i64 u.m)∧W.cell? ⟨w.heap.size,3,none⟩=some (.bool u.v)∧W.cell? ⟨w.heap.size,4,none⟩=some (.string u.nm)∧W.cell? ⟨w.heap.size,5,none⟩=some (.string u.tg)∧W.cell? ⟨w.heap.size,6,none⟩=some (.slice (some ⟨eb,eo,none⟩) u.es.length c))∧(W.cell? ⟨eb,eo,none⟩=some (.int .i64 e.k)∧W.cell? ⟨eb,eo+1,none⟩=some (.int .i64 e.n)∧W.cell? ⟨eb,eo+2,none⟩=some (.int .i64 e.m)∧W.cell? ⟨eb,eo+3,none⟩=some (.bool e.v)∧W.cell? ⟨eb,eo+4,none⟩=some (.string e.nm)∧W.cell? ⟨eb,eo+5,none⟩=some (.string e.tg)∧W.cell? ⟨eb,eo+6,none⟩=some (.slice a' e.es.length c'))) [(0,true),(2,true),(3,true),(4,true),(5,true),(6,true),(1,false),(7,false),(8,false),(9,true),(10,true)] (by(repeat' apply And.intro)<;>first|(simp[go_sem];done)|(go_keep;done)) (fun f=> ?_);repeat((first|refine oS ?_|refine oF f ?_);try simp only[Act.put,oa,ob,oc])
 refine oL fun K B=> ?_;go_simp;go_at_call 34
 refine(rO C.bb (some ⟨g.pk,0,none⟩) _ _ P4.out).mono ?_;rintro e0 w0 ⟨rfl,rfl⟩;obtain⟨⟨s0,s1,s2,s3,s4,s5,s6⟩,r0,r1,r2,r3,r4,r5,r6⟩:=f;(try simp only[]);refine B _ _ (by(repeat' apply And.intro)<;>exact ak ((Below.refl _ _).alloc (Nat.le_refl _) _) (by assumption)) fun f=> ?_;clear B K;try simp only[Act.put,oa,ob,oc]
 clear s0 s1 s2 s3 s4 s5 s6 r0 r1 r2 r3 r4 r5 r6;repeat((first|refine oS ?_|refine oF f ?_);try simp only[Act.put,oa,ob,oc])
 refine oL fun K B=> ?_;go_simp;go_at_call 36
 refine Y.out.mono ?_;rintro e1 d ⟨x,q,g',P5,Qk,rfl,hn,i,s,J,_,Qr⟩;obtain⟨L,D,y,rfl,P6,P⟩:=Ch hn Qf;obtain⟨E,t⟩:=gS r.out l.out.size s;have hz:=V.out;have P7:d.cell? ⟨w.heap.size+1,3,none⟩=some .nilIface:=t _ _ _ (by omega) Qg.out;have P8:=World.block_lt_of_cell? _ _ P7;simp only at P8;have Ql:d.frozen? ⟨w.heap.size+1,3,none⟩=false:=by
  rw[s.kept.frozen (by omega) fun e=>by have:=(r.out.ib (b:=w.heap.size+1) (e.imp Eq.symm fun h=>h)).2.1;omega];exact Qh.out
 have P9:∀o,q (w.heap.size+1) o=none:=s.gr.aG (by omega) fun o=>r.out.wb.kw.aG (by omega) o;have hX:∀b,b=w.heap.size+1→C.B0≤b∧(∀o,q b o=none)∧b≠C.bb∧P5.ownBlock≠some b:=by
  rintro _ rfl;have h1:=(r.out.ib (b:=C.bb) (.inl rfl))
  refine⟨by omega,P9,by omega,fun e=> ?_⟩;rcases J _ e with e|e
  ·have:=(r.out.ib (b:=w.heap.size+1) (.inr e)).2.1;omega
  ·omega
 have z:Kept (fun b=>b=w.heap.size+1) d (d.setCell ⟨w.heap.size+1,3,none⟩ (ae 139 d.heap.size)):=Kept.setCell (X:=fun b=>b=w.heap.size+1) (Kept.refl _ _) (fun _=>rfl) _;obtain⟨⟨s0,s1,s2,s3,s4,s5,s6⟩,r0,r1,r2,r3,r4,r5,r6⟩:=f;have P_:(d.cell? ⟨w.heap.size,0,none⟩=some (.int .i64 u.k)∧d.cell? ⟨w.heap.size,1,none⟩=some (.int .i64 u.n)∧d.cell? ⟨w.heap.size,2,none⟩=some (.int .i64 u.m)∧d.cell? ⟨w.heap.size,3,none⟩=some (.bool u.v)∧d.cell? ⟨w.heap.size,4,none⟩=some (.string u.nm)∧d.cell? ⟨w.heap.size,5,none⟩=some (.string u.tg)∧d.cell? ⟨w.heap.size,6,none⟩=some (.slice (some ⟨eb,eo,none⟩) u.es.length c))∧(d.cell? ⟨eb,eo,none⟩=some (.int .i64 e.k)∧d.cell? ⟨eb,eo+1,none⟩=some (.int .i64 e.n)∧d.cell? ⟨eb,eo+2,none⟩=some (.int .i64 e.m)∧d.cell? ⟨eb,eo+3,none⟩=some (.bool e.v)∧d.cell? ⟨eb,eo+4,none⟩=some (.string e.nm)∧d.cell? ⟨eb,eo+5,none⟩=some (.string e.tg)∧d.cell? ⟨eb,eo+6,none⟩=some (.slice a' e.es.length c')):=by(repeat' apply And.intro)<;>first|exact t _ _ _ (Nat.le_refl _) (by assumption)|exact E _ _ _ Qi (by assumption)
 (try simp only[]);refine B _ _ (P_) fun f=> ?_;clear B K;try simp only[Act.put,oa,ob,oc]
 clear E t s0 s1 s2 s3 s4 s5 s6 r0 r1 r2 r3 r4 r5 r6;have M:=(i.own z hX).box (gz ⟨w.heap.size+1,0,none⟩ ⟨d.heap.size,0,none⟩ (ae L D) y) 255;have N:=(az.ahead l.out s|>.own z fun b e=>by subst e;omega).box (i.own z hX) (gz ⟨w.heap.size+1,0,none⟩ ⟨d.heap.size,0,none⟩ (ae L D) y) 255;have Qa:(d.setCell ⟨w.heap.size+1,3,none⟩ (ae 139 d.heap.size)).heap.size=d.heap.size:=by simp
 rw[Qa]at M N;have hd:∀o,q d.heap.size o=none:=fun o=>i.wb.kw.aG (Nat.le_refl _) o;have A:=Pm.cP (cs:=gz ⟨w.heap.size+1,0,none⟩ ⟨d.heap.size,0,none⟩ (ae L D) y) hd;have Qb:AC (q.add d.heap.size (gz ⟨w.heap.size+1,0,none⟩ ⟨d.heap.size,0,none⟩ (ae L D) y)) (ae 139 d.heap.size) y:=by
  rcases P with⟨ht,rfl⟩|P
  ·exact .last ht (by rw[Pm.aQ];rfl) (by rw[Pm.aQ];rfl)
  ·have S:D<d.heap.size:=by cases P<;>exact i.wb.kw.lt ‹_›
   obtain⟨_,_,_,e1,_⟩:=P.world i.wb.kw;cases e1;exact .next (by rw[Pm.aQ];rfl) S (by rw[Pm.aQ];rfl) (P.sub A)
 have Qc:bare u=bare e:=iR I.out Qj.out;have Qd:Hid (bf C u p g mv ms w (.returned (.iface 139 (.pointer (some ⟨d.heap.size,0,none⟩)))) ((d.setCell ⟨w.heap.size+1,3,none⟩ (ae 139 d.heap.size)).alloc (.cells (gz ⟨w.heap.size+1,0,none⟩ ⟨d.heap.size,0,none⟩ (ae L D) y) 255))):=
  ⟨_,_,g',P5,Qk,rfl,.alias I.out Qb (by rw[Qc];exact P6.sub A (aD.refl _)),M,N,fun b e=>(J b e).imp (fun h=>h) fun h=>Nat.le_trans l.out.size h,fun h=>(by have:=I.out;omega),by have:=Q.out;omega⟩
 have Qm:=i.wb.kw;have F:Hid (∀b o v,b≠w.heap.size+1→d.cell? ⟨b,o,none⟩=some v→((d.setCell ⟨w.heap.size+1,3,none⟩ (ae 139 d.heap.size)).alloc (.cells (gz ⟨w.heap.size+1,0,none⟩ ⟨d.heap.size,0,none⟩ (ae L D) y) 255)).cell? ⟨b,o,none⟩=some v):=fun b o v hb h=>by
  rw[(z.alloc _).cell (World.block_lt_of_cell? _ _ h) hb];exact h
 have Qn:w.heap.size≠w.heap.size+1:=by omega
 have Qe:eb≠w.heap.size+1:=by omega
 clear hn i s J M N hd A Qb Qc P6 Y hX z Qa P9 P_;repeat((first|refine oS ?_|refine oF f ?_);try simp only[Act.put,oa,ob,oc])
 refine oL fun K B=> ?_;go_simp;go_at_call 72
 refine(Ci (w.heap.size+1) L D y q _ Qm P P8 P7 Ql).mono ?_;rintro e2 w2 ⟨rfl,rfl⟩;obtain⟨⟨s0,s1,s2,s3,s4,s5,s6⟩,r0,r1,r2,r3,r4,r5,r6⟩:=f;(try simp only[]);refine B _ _ (by(repeat' apply And.intro)<;>first|exact F.out _ _ _ Qn (by assumption)|exact F.out _ _ _ Qe (by assumption)) fun f=> ?_;clear B K;try simp only[Act.put,oa,ob,oc]
 clear s0 s1 s2 s3 s4 s5 s6 r0 r1 r2 r3 r4 r5 r6;repeat((first|refine oS ?_|refine oF f ?_);try simp only[Act.put,oa,ob,oc])
 refine bR ?_;clear f;go_wp2_with fail
 go_ret;exact Qd.out
theorem Ck(C:BC)(u:U)(hk:u.k=1)(x:0≤u.n∧u.n<18):bF C u:=by
 intro p g mv ms a c w y D hu;have E:=kt hk;have f:Below w.heap.size w (w.alloc (.cells #[.int .i64 u.k,.int .i64 u.n,.int .i64 u.m,.bool u.v,.string u.nm,.string u.tg,.slice a u.es.length c] 25)):=(Below.refl _ _).alloc (Nat.le_refl _) _;have i:=Lib.hid (y.below f);have l:=Lib.hid hk;have j:=Lib.hid x;have q:=Lib.hid f;have hw:(1+u.n) % 18446744073709551616=1+u.n:=by omega
 have F:¬(9223372036854775808≤1+u.n):=by omega
 clear hu y f hk x;go_enter Tryz.func36,Tryz.ntmps36;go_wp2_with fail
 rw[show 1+u.n=((u.n+1).toNat:Int) by have:=j.out;omega];refine(rN (u.n+1).toNat (by have:=j.out;omega) _).mono ?_;rintro e G ⟨b,rfl,aa,s,z,d,A⟩;have B:∀o,p b o=none:=fun o=>i.out.wb.kw.aG aa o;have t:=Pm.dP (v:= .int .i64 ((u.n+1).toNat:Int)) (o:=0) (B 0) aa;have r:Hid (bf C u p g mv ms w (.returned (.iface 105 (.pointer (some ⟨b,0,none⟩)))) G):=
  ⟨_,_,g,mv,ms,rfl,.basic l.out (by rw[Pm.eK,show(((u.n+1).toNat:Nat):Int)=u.n+1 by have:=j.out;omega]),i.out.grow d t ((i.out.wb.below d).put z A),az.ahead q.out ((az.refl _ _ _ _ _ _).grow d t),fun b e=> .inl e,fun h=>(by have:=l.out;omega),by omega⟩
 clear aa s z d A B t;go_wp2_with fail
 go_ret;exact r.out
end Go.Proofs.YtgbklbbknehefaaGreatDoor
namespace TS
open Go Go.RowKit Go.Proofs.YtgbklbbknehefaaGreatDoor
def f_:U:= .mk 7 0 0 false errorName ByteArray.empty [cS] []
theorem tP:aj aF= [f_]:=by
 rw[jo rfl];exact List.mergeSort_singleton _
theorem Cl(len:Nat):fj len aF:=by
 have hw:bw aF= []:=by rw[mJ rfl];rfl
 refine⟨rfl,fun x a=>(by rw[hw]at a;cases a),by rw[hw];simp,fun x a=>(by rw[hw]at a;cases a),fun e he=>(by cases he),fun m hm=> ?_,?_,?_,by decide⟩
 ·have:m=f_:=by simpa [aF,U.es,U.m,f_]using hm
  subst this;decide
 ·exact List.pairwise_singleton _ _
 ·show(dW aF).length≤_
  have:dW aF= [f_]:=rfl;rw[this];simp
theorem Cm{p:Pm}{g c:Ge}{f:Nat}(h:cL p g f_ f):cL p c f_ f:=by
 obtain⟨d,h1,h2,h3,j⟩:=h;refine⟨d,h1,h2,h3,?_⟩;obtain⟨b,l,rv,w,xs,e,m,n,o,q,r,s,t,u⟩:=j.jJ rfl;cases e;refine .func rfl m n o q r s t fun i hi=> ?_;have a:=u i hi;have:f_.es[i]=cS:=by
  have:i=0:=by simp[f_,U.es]at hi;omega
  subst this;rfl
 rw[this]at a⊢;obtain⟨x,v,k⟩:=a.jf rfl;rw[v];exact .basic rfl k
theorem Cn{p:Pm}{g q:Ge}{b:Nat}(h:cv p g b aF):cv p q b aF:=by
 obtain⟨tb,r,s,f,ta,tc,e,cmp,h1,h2,h3,t,u,v,h7,w,x,j,⟨y,k,a⟩,l,c,m⟩:=h;have n:e= [none]:=(c.gen (by rw[k_ rfl];rfl)).1;refine⟨tb,r,s,f,ta,tc,e,cmp,h1,h2,h3,t,u,v,fun i hi=> ?_,w,x,j,⟨y,k,fun i hi=> ?_⟩,l,c,m⟩
 ·have hm:=h7 i hi
  have:(aj aF)[i]=f_:=by
   have d:=hi;simp only[tP]at d;have:i=0:=by simp at d;omega
   subst this;simp[tP]
  rw[this]at hm⊢;exact Cm hm
 ·have o:=a i hi
  have:e[i]=none:=by
   subst n;have:i=0:=by simpa using hi
   subst this;rfl
  rw[this]at o⊢;exact o
theorem WB.box{p:Pm}{w:World}(h:WB p w)(cs:Array Value)(T:TypeId):WB (p.add w.heap.size cs) (w.alloc (.cells cs T)):=
 (h.below ((Below.refl _ _).alloc (Nat.le_refl _) _)).add (T:=T) (fun o=>h.kw.aG (Nat.le_refl _) o) (cf rfl)
theorem Co(w:World)(a b:Array Value)(c d:TypeId)(v:Value):Below w.heap.size w (((w.alloc (.cells a c)).setCell ⟨w.heap.size,3,none⟩ v).alloc (.cells b d))∧(((w.alloc (.cells a c)).setCell ⟨w.heap.size,3,none⟩ v).alloc (.cells b d)).heap.size=w.heap.size+2∧
 (((w.alloc (.cells a c)).setCell ⟨w.heap.size,3,none⟩ v).alloc (.cells b d)).heap[w.heap.size]?=some (.cells (a.setIfInBounds 3 v) c (0,0))∧(((w.alloc (.cells a c)).setCell ⟨w.heap.size,3,none⟩ v).alloc (.cells b d)).heap[w.heap.size+1]?=some (.cells b d (0,0)):=by
 have hT:(w.alloc (.cells a c)).heap[w.heap.size]?=some (.cells a c (0,0)):=cf rfl;have e:=heap_set (o:=3) (v:=v) hT;exact⟨(((Below.refl _ _).alloc (Nat.le_refl _) _).setCell (Nat.le_refl _) _).alloc (by simp) _,by simp,by rw[dw (by simp)];exact e,cf (by simp)⟩
theorem Below.own{B:Nat}{a w c:World}{X:Nat→Prop}(h:Below B a w)(k:Kept X w c)(f:B≤w.heap.size)(d:∀b,X b→B≤b):Below B a c:=
 h.trans ⟨k.os,k.tape,k.output,k.size,fun j g=>k.block j (by omega) fun e=>by have:=d j e;omega⟩
theorem WB.named{q:Pm}{W:World}{b o:Nat}{nil:Bool}{x:Value}(h:WB q W)(m:W.heap[b]?=some (.cells (cM ⟨o,0,none⟩ nil 0 0 .nilIface .nilIface (.slice none 0 0)) 129 (0,0)))(a:∀i,i≠1→q b i=none)(d:b≠5):
 WB q (((((((W.setCell ⟨b,3,none⟩ (.int .i32 1)).setCell ⟨b,6,none⟩ x).setCell ⟨b,2,none⟩ (.bool false)).setCell ⟨b,5,none⟩ (.int .u32 7)).setCell ⟨b,7,none⟩ x).setCell ⟨b,5,none⟩ (.int .u32 15)).setCell ⟨b,3,none⟩ (.int .i32 0))∧
 WB (((q.put b 5 (.int .u32 15)).put b 6 x).put b 7 x) (((((((W.setCell ⟨b,3,none⟩ (.int .i32 1)).setCell ⟨b,6,none⟩ x).setCell ⟨b,2,none⟩ (.bool false)).setCell ⟨b,5,none⟩ (.int .u32 7)).setCell ⟨b,7,none⟩ x).setCell ⟨b,5,none⟩ (.int .u32 15)).setCell ⟨b,3,none⟩ (.int .i32 0))∧
 (((((((W.setCell ⟨b,3,none⟩ (.int .i32 1)).setCell ⟨b,6,none⟩ x).setCell ⟨b,2,none⟩ (.bool false)).setCell ⟨b,5,none⟩ (.int .u32 7)).setCell ⟨b,7,none⟩ x).setCell ⟨b,5,none⟩ (.int .u32 15)).setCell ⟨b,3,none⟩ (.int .i32 0)).heap[b]?=some (.cells (cM ⟨o,0,none⟩ false 0 15 x x (.slice none 0 0)) 129 (0,0))∧
 Kept (fun c=>c=b) W (((((((W.setCell ⟨b,3,none⟩ (.int .i32 1)).setCell ⟨b,6,none⟩ x).setCell ⟨b,2,none⟩ (.bool false)).setCell ⟨b,5,none⟩ (.int .u32 7)).setCell ⟨b,7,none⟩ x).setCell ⟨b,5,none⟩ (.int .u32 15)).setCell ⟨b,3,none⟩ (.int .i32 0)):=by
 have n:Kept (fun c=>c=b) W (((((((W.setCell ⟨b,3,none⟩ (.int .i32 1)).setCell ⟨b,6,none⟩ x).setCell ⟨b,2,none⟩ (.bool false)).setCell ⟨b,5,none⟩ (.int .u32 7)).setCell ⟨b,7,none⟩ x).setCell ⟨b,5,none⟩ (.int .u32 15)).setCell ⟨b,3,none⟩ (.int .i32 0)):=by
  refine Kept.setCell (Kept.setCell (Kept.setCell (Kept.setCell (Kept.setCell (Kept.setCell (Kept.setCell (Kept.refl _ _) ?_ _) ?_ _) ?_ _) ?_ _) ?_ _) ?_ _) ?_ _<;>exact fun _=>rfl
 have l:=((((((h.setCell (.int .i32 1) (a 3 (by decide)) d).setCell x (a 6 (by decide)) d).setCell (.bool false) (a 2 (by decide)) d).setCell (.int .u32 7) (a 5 (by decide)) d).setCell x (a 7 (by decide)) d).setCell (.int .u32 15) (a 5 (by decide)) d).setCell (.int .i32 0) (a 3 (by decide)) d;have hH:=heap_set (o:=3) (v:= .int .i32 0) (heap_set (o:=5) (v:= .int .u32 15) (heap_set (o:=7) (v:=x) (heap_set (o:=5) (v:= .int .u32 7) (heap_set (o:=2) (v:= .bool false) (heap_set (o:=6) (v:=x) (heap_set (o:=3) (v:= .int .i32 1) m))))));generalize (((((((W.setCell ⟨b,3,none⟩ (.int .i32 1)).setCell ⟨b,6,none⟩ x).setCell ⟨b,2,none⟩ (.bool false)).setCell ⟨b,5,none⟩ (.int .u32 7)).setCell ⟨b,7,none⟩ x).setCell ⟨b,5,none⟩ (.int .u32 15)).setCell ⟨b,3,none⟩ (.int .i32 0))=j at*;have f:j.heap[b]?=some (.cells (cM ⟨o,0,none⟩ false 0 15 x x (.slice none 0 0)) 129 (0,0)):=by simpa using hH
 have k:∀i v,(cM ⟨o,0,none⟩ false 0 15 x x (.slice none 0 0))[i]?=some v→j.cell? ⟨b,i,none⟩=some v:=fun i v e=>by simp only[World.cell?,f];exact e
 have g:Plain j b:=⟨_,_,f⟩
 exact⟨l,((l.put (k 5 _ rfl) g).put (k 6 _ rfl) g).put (k 7 _ rfl) g,f,n⟩
def tQ(w:World)(e:Ending)(a:World):Prop:=∃(q:Pm)(eb eo ib:Nat),e= .returned (.pointer (some ⟨eb,0,none⟩))∧WB q a∧Below w.heap.size w a∧(∀b o v,q b o=some v→w.heap.size≤b)∧q eb 1=some (ptr eo)∧dR q eb (ae 33 ib)∧(∃o v,q eo o=some v)∧q ib 0=some (.pointer none)∧q ib 5=some (.bool true)∧eb<a.heap.size∧eo<a.heap.size∧∀g,cv q g ib aF
end TS
namespace Go.Proofs.YtgbklbbknehefaaGreatDoor
open Go.RowKit TS
def g0(eo co:Nat):Ge:=⟨fun _=>0,fun _=>0,0,0,eo,1,co,0,fun _=>none⟩
theorem Cp{q:Pm}{w:World}{eo co:Nat}(h:WB q w)(a:eo≠co)(h1:∃o v,q eo o=some v)(h2:∃o v,q co o=some v):an q (g0 eo co) w:=
 ⟨h.kw,h.pl,⟨fun i j hi=>absurd hi (Nat.not_lt_zero _),fun i j hi=>absurd hi (Nat.not_lt_zero _),fun i hi=>absurd hi (Nat.not_lt_zero _),fun i hi=>absurd hi (Nat.not_lt_zero _),(show(0:Nat)≠1 by decide),fun i hi=>absurd hi (Nat.not_lt_zero _),fun i hi=>absurd hi (Nat.not_lt_zero _),a⟩,h.cap,fun b u e=>(by cases e),fun i hi=>absurd hi (Nat.not_lt_zero _),h1,h2⟩
abbrev iH(W:World)(b r recv:Nat):World:=(((((((W.alloc (.cells #[.int .i64 0,.pointer none,.string ByteArray.empty,ae 105 b,.int .u8 5,.bool false] 170)).alloc (.cells #[.pointer (some ⟨r,0,none⟩)] 102)).alloc (.cells #[.slice (some ⟨r+1,0,none⟩) 1 1] 177)).alloc (.cells #[.pointer (some ⟨recv,0,none⟩),.pointer none,.pointer none,.pointer (some ⟨r+2,0,none⟩),.bool false] 112)).alloc (.cells #[.int .i64 0,.pointer none,.string errorName,ae 108 (r+3),.bool false,.bool false] 48)).alloc (.cells #[.pointer (some ⟨r+4,0,none⟩)] 38)).alloc (.cells (cZ (.slice (some ⟨r+5,0,none⟩) 1 1) (.slice none 0 0) true (.pointer none)) 118))
theorem Cq{q:Pm}{W:World}{b r recv:Nat}(h:WB q W)(hr:r=W.heap.size)(U:q b 0=some (.int .i64 17))(C:b<r)(hG:5<r):
 ∃k,aK q k r∧WB k (iH W b r recv)∧(iH W b r recv).cell? ⟨r+6,6,none⟩=some (.pointer none)∧(iH W b r recv).frozen? ⟨r+6,6,none⟩=false∧
  (∀g,eV k g (r+6) aF)∧k (r+6) 6=none∧k r 0=some (.int .i64 0)∧k (r+1) 0=some (ptr r):=by
 unfold iH;have h1:=h.box #[.int .i64 0,.pointer none,.string ByteArray.empty,ae 105 b,.int .u8 5,.bool false] 170;have h2:=h1.box #[.pointer (some ⟨r,0,none⟩)] 102;have h3:=h2.box #[.slice (some ⟨r+1,0,none⟩) 1 1] 177;have P:=h3.box #[.pointer (some ⟨recv,0,none⟩),.pointer none,.pointer none,.pointer (some ⟨r+2,0,none⟩),.bool false] 112;have R:=P.box #[.int .i64 0,.pointer none,.string errorName,ae 108 (r+3),.bool false,.bool false] 48;have S:=R.box #[.pointer (some ⟨r+4,0,none⟩)] 38;simp only[World.size_alloc,←hr]at h1 h2 h3 P R S;have V:∀c o,r≤c→q c o=none:=fun c o u=>h.kw.aG (by omega) o;generalize t:((((((q.add r #[.int .i64 0,.pointer none,.string ByteArray.empty,ae 105 b,.int .u8 5,.bool false]).add (r+1) #[.pointer (some ⟨r,0,none⟩)]).add (r+2) #[.slice (some ⟨r+1,0,none⟩) 1 1]).add (r+3) #[.pointer (some ⟨recv,0,none⟩),.pointer none,.pointer none,.pointer (some ⟨r+2,0,none⟩),.bool false]).add (r+4) #[.int .i64 0,.pointer none,.string errorName,ae 108 (r+3),.bool false,.bool false]).add (r+5) #[.pointer (some ⟨r+4,0,none⟩)])=Q at*;have z:∀c o,c<r→Q c o=q c o:=fun c o u=>by rw[←t];simp only[Pm.add];repeat rw[if_neg (by omega)]
 have A:∀o,Q r o=(#[.int .i64 0,.pointer none,.string ByteArray.empty,ae 105 b,.int .u8 5,.bool false]:Array Value)[o]?:=fun o=>by rw[←t];rw[Pm.aJ _ _ _ (by omega),Pm.aJ _ _ _ (by omega),Pm.aJ _ _ _ (by omega),Pm.aJ _ _ _ (by omega),Pm.aJ _ _ _ (by omega),Pm.aQ]
 have B:∀o,Q (r+1) o=(#[.pointer (some ⟨r,0,none⟩)]:Array Value)[o]?:=fun o=>by rw[←t];rw[Pm.aJ _ _ _ (by omega),Pm.aJ _ _ _ (by omega),Pm.aJ _ _ _ (by omega),Pm.aJ _ _ _ (by omega),Pm.aQ]
 have D:∀o,Q (r+2) o=(#[.slice (some ⟨r+1,0,none⟩) 1 1]:Array Value)[o]?:=fun o=>by rw[←t];rw[Pm.aJ _ _ _ (by omega),Pm.aJ _ _ _ (by omega),Pm.aJ _ _ _ (by omega),Pm.aQ]
 have w:∀o,Q (r+3) o=(#[.pointer (some ⟨recv,0,none⟩),.pointer none,.pointer none,.pointer (some ⟨r+2,0,none⟩),.bool false]:Array Value)[o]?:=fun o=>by rw[←t];rw[Pm.aJ _ _ _ (by omega),Pm.aJ _ _ _ (by omega),Pm.aQ]
 have s:∀o,Q (r+4) o=(#[.int .i64 0,.pointer none,.string errorName,ae 108 (r+3),.bool false,.bool false]:Array Value)[o]?:=fun o=>by rw[←t];rw[Pm.aJ _ _ _ (by omega),Pm.aQ]
 have E:∀o,Q (r+5) o=(#[.pointer (some ⟨r+4,0,none⟩)]:Array Value)[o]?:=fun o=>by rw[←t];rw[Pm.aQ]
 have F:∀c o,r+6≤c→Q c o=none:=fun c o u=>by rw[←t];simp only[Pm.add];repeat rw[if_neg (by omega)]
                                             exact V c o (by omega)
 have X:Sub q Q:=fun c o v e=>by rw[z c o (by rw[hr];exact h.kw.lt e)];exact e
 generalize G:((((((W.alloc (.cells #[.int .i64 0,.pointer none,.string ByteArray.empty,ae 105 b,.int .u8 5,.bool false] 170)).alloc (.cells #[.pointer (some ⟨r,0,none⟩)] 102)).alloc (.cells #[.slice (some ⟨r+1,0,none⟩) 1 1] 177)).alloc (.cells #[.pointer (some ⟨recv,0,none⟩),.pointer none,.pointer none,.pointer (some ⟨r+2,0,none⟩),.bool false] 112)).alloc (.cells #[.int .i64 0,.pointer none,.string errorName,ae 108 (r+3),.bool false,.bool false] 48)).alloc (.cells #[.pointer (some ⟨r+4,0,none⟩)] 38))=H at*;have I:H.heap.size=r+6:=by rw[←G];simp[←hr]
 have m:(H.alloc (.cells (cZ (.slice (some ⟨r+5,0,none⟩) 1 1) (.slice none 0 0) true (.pointer none)) 118)).heap[r+6]?=some (.cells (cZ (.slice (some ⟨r+5,0,none⟩) 1 1) (.slice none 0 0) true (.pointer none)) 118 (0,0)):=cf I.symm;have h7:=S.below ((Below.refl _ _).alloc (Nat.le_refl _) (.cells (cZ (.slice (some ⟨r+5,0,none⟩) 1 1) (.slice none 0 0) true (.pointer none)) 118));generalize (H.alloc (.cells (cZ (.slice (some ⟨r+5,0,none⟩) 1 1) (.slice none 0 0) true (.pointer none)) 118))=T at*;have l:∀o x,(cZ (.slice (some ⟨r+5,0,none⟩) 1 1) (.slice none 0 0) true (.pointer none))[o]?=some x→T.cell? ⟨r+6,o,none⟩=some x:=fun o x e=>by simp only[World.cell?,m];exact e
 have n:Plain T (r+6):=⟨_,_,m⟩
 have Y:=((((h7.put (l 0 (.pointer none) rfl) n).put (l 1 (.slice (some ⟨r+5,0,none⟩) 1 1) rfl) n).put (l 2 (.slice none 0 0) rfl) n).put (l 3 (.pointer none) rfl) n).put (l 5 (.bool true) rfl) n;have a:∀c o,c≠r+6→(((((Q.put (r+6) 0 (.pointer none)).put (r+6) 1 (.slice (some ⟨r+5,0,none⟩) 1 1)).put (r+6) 2 (.slice none 0 0)).put (r+6) 3 (.pointer none)).put (r+6) 5 (.bool true)) c o=Q c o:=fun c o u=>by
  repeat rw[Pm.aV _ _ (by omega)]
 have J:(((((Q.put (r+6) 0 (.pointer none)).put (r+6) 1 (.slice (some ⟨r+5,0,none⟩) 1 1)).put (r+6) 2 (.slice none 0 0)).put (r+6) 3 (.pointer none)).put (r+6) 5 (.bool true)) (r+6) 0=some (.pointer none):=by simp[Pm.put]
 have K:(((((Q.put (r+6) 0 (.pointer none)).put (r+6) 1 (.slice (some ⟨r+5,0,none⟩) 1 1)).put (r+6) 2 (.slice none 0 0)).put (r+6) 3 (.pointer none)).put (r+6) 5 (.bool true)) (r+6) 1=some (.slice (some ⟨r+5,0,none⟩) 1 1):=by simp[Pm.put]
 have L:(((((Q.put (r+6) 0 (.pointer none)).put (r+6) 1 (.slice (some ⟨r+5,0,none⟩) 1 1)).put (r+6) 2 (.slice none 0 0)).put (r+6) 3 (.pointer none)).put (r+6) 5 (.bool true)) (r+6) 2=some (.slice none 0 0):=by simp[Pm.put]
 have M:(((((Q.put (r+6) 0 (.pointer none)).put (r+6) 1 (.slice (some ⟨r+5,0,none⟩) 1 1)).put (r+6) 2 (.slice none 0 0)).put (r+6) 3 (.pointer none)).put (r+6) 5 (.bool true)) (r+6) 3=some (.pointer none):=by simp[Pm.put]
 have N:(((((Q.put (r+6) 0 (.pointer none)).put (r+6) 1 (.slice (some ⟨r+5,0,none⟩) 1 1)).put (r+6) 2 (.slice none 0 0)).put (r+6) 3 (.pointer none)).put (r+6) 5 (.bool true)) (r+6) 5=some (.bool true):=by simp[Pm.put]
 have O:(((((Q.put (r+6) 0 (.pointer none)).put (r+6) 1 (.slice (some ⟨r+5,0,none⟩) 1 1)).put (r+6) 2 (.slice none 0 0)).put (r+6) 3 (.pointer none)).put (r+6) 5 (.bool true)) (r+6) 6=none:=by
  simp[Pm.put];exact F _ _ (Nat.le_refl _)
 generalize (((((Q.put (r+6) 0 (.pointer none)).put (r+6) 1 (.slice (some ⟨r+5,0,none⟩) 1 1)).put (r+6) 2 (.slice none 0 0)).put (r+6) 3 (.pointer none)).put (r+6) 5 (.bool true))=k at*;have p:∀c o,c<r→k c o=q c o:=fun c o u=>by rw[a c o (by omega),z c o u]
 have y:∀g,TS.Node k g f_ (ae 108 (r+3)):=fun g=>by
  refine .func (f:=fun _=>r) (xs:=fun _=>ae 105 b) rfl (by decide) (pv:= .pointer none) (rv:=ptr (r+2)) ?_ ?_ ?_ (.inl ⟨rfl,rfl⟩) (.inr ⟨by decide,r+2,some ⟨r+1,0,none⟩,1,rfl,?_,by decide,fun i hi=> ?_⟩) (fun i hi=> ?_) fun i hi=> ?_
  ·rw[a _ _ (by omega),w];rfl
  ·rw[a _ _ (by omega),w];rfl
  ·rw[a _ _ (by omega),w];rfl
  ·rw[a _ _ (by omega),D];rfl
  ·have d:i=0:=by have:i<1:=hi;omega
   subst d;exact⟨r+1,0,rfl,by rw[a _ _ (by omega),B];rfl⟩
  ·show k r 3=_
   rw[a _ _ (by omega),A];rfl
  ·have d:i=0:=by have:i<1:=hi;omega
   subst d;exact .basic rfl (by rw[p _ _ C];exact U)
 refine⟨k,⟨fun c o v e=>by rw[p c o (by rw[hr];exact h.kw.lt e)];exact e,fun c o v e=> ?_⟩,Y,l 6 _ rfl,by simp[World.frozen?,m],fun g=>⟨J,⟨by decide,some ⟨r+5,0,none⟩,1,fun _=>r+4,K,by decide,by decide,fun i hi=> ?_,fun i hi Z=> ?_⟩,⟨none,0,fun _=>undef,L,by decide,by decide,fun i hi=> ?_,fun i hi=> ?_,fun i j P4 hj=> ?_⟩,M,N⟩,O,by rw[a _ _ (by omega),A];rfl,by rw[a _ _ (by omega),B];rfl⟩
 ·by_cases u:c<r
  ·rw[p c o u]at e;exact .inl e
  ·exact .inr (by omega)
 ·have d:i=0:=by have:i<1:=hi;omega
  subst d;exact⟨r+5,0,rfl,by rw[a _ _ (by omega),E];rfl⟩
 ·have d:i=0:=by have:i<1:=hi;omega
  subst d;show cL k g f_ (r+4)∧k (r+4) 0=some (.int .i64 0);refine⟨⟨r+3,⟨none,?_⟩,?_,?_,y g⟩,?_⟩
  ·rw[a _ _ (by omega),s];rfl
  ·rw[a _ _ (by omega),s];rfl
  ·rw[a _ _ (by omega),s];rfl
  ·rw[a _ _ (by omega),s];rfl
 ·exact absurd hi (by show ¬i<0;omega)
 ·exact absurd hi (by show ¬1+i<1;omega)
 ·exact absurd hj (by show ¬1+j<1;omega)
theorem Cr(w:World)(y:bD w)(hG:5<w.heap.size):Calls Tryz.prog 30 #[] w (tQ w):=by
 have Qe:=Lib.hid y;clear y;obtain⟨n,hn⟩:∃n,Hid (n=w.heap.size):=⟨_,rfl⟩
 go_enter Tryz.func30,Tryz.ntmps30;go_wp2_with fail
 refine(oi _ _ _ _).mono ?_;rintro e1 w1 ⟨rfl,rfl⟩;go_wp2_with fail
 refine(rK w.heap.size _ (by simp) (jj w _ rfl) (kI w _ rfl)).mono ?_;rintro e2 q ⟨rfl,T⟩;have hf:Below w.heap.size w q∧q.heap.size=w.heap.size+2∧q.heap[w.heap.size]?=some (.cells #[.int .i64 0,.pointer none,.string ⟨#[101,114,114,111,114]⟩,.iface 66 (.pointer (some ⟨w.heap.size+1,0,none⟩))] 131 (0,0))∧q.heap[w.heap.size+1]?=some (.cells (cM ⟨w.heap.size,0,none⟩ false 0 0 .nilIface .nilIface (.slice none 0 0)) 129 (0,0)):=by
  rw[T];have:=Co w #[.int .i64 0,.pointer none,.string ⟨#[101,114,114,111,114]⟩,.nilIface] (cM ⟨w.heap.size,0,none⟩ false 0 0 .nilIface .nilIface (.slice none 0 0)) 131 129 (.iface 66 (.pointer (some ⟨w.heap.size+1,0,none⟩)));simpa using this
 obtain⟨s,Qf,K,j⟩:=hf;have Qi:q.heap.size≤w.heap.size+2∧w.heap.size+2≤q.heap.size:=by omega
 have E:WB (fun _ _=>none) w:=⟨fun _ _ _ e=>(by cases e),fun _ _ _ e=>(by cases e),Qe.out⟩
 have U:=Lib.hid (((E.below s).put (b:=w.heap.size) (o:=0) (v:= .int .i64 0) (by simp[World.cell?,K]) ⟨_,_,K⟩).put (b:=w.heap.size+1) (o:=1) (v:=ptr w.heap.size) (by simp[World.cell?,j,cM]) ⟨_,_,j⟩);have L:=Lib.hid s;have M:=Lib.hid j;clear T s Qf K j E;go_wp2_with fail
 refine(jL _ _ _ _ _ _ _).mono ?_;rintro e3 w3 ⟨rfl,rfl⟩;go_wp2_with fail
 refine(rN 17 (by decide) _).mono ?_;rintro e4 d ⟨b,rfl,aa,N,V,h,W⟩;have z:Below q.heap.size q (q.alloc (.cells #[.int .i64 0,.pointer none,.string ByteArray.empty,.iface 66 (.pointer (some ⟨w.heap.size+1,0,none⟩)),.int .u8 3,.bool false] 170)):=(Below.refl _ _).alloc (Nat.le_refl _) _;have Qg:=h.size;simp only[World.size_alloc]at aa Qg;obtain⟨F,A⟩:∃F,Hid (F=((Pm.put (fun x Qk=>none) w.heap.size 0 (.int .i64 0)).put (w.heap.size+1) 1 (ptr w.heap.size)).put b 0 (.int .i64 17)):=⟨_,rfl⟩
 have X:Hid (WB F d):=by rw[A.out];exact((U.out.below z).below h).put V W
 have Y:Hid (F b 0=some (.int .i64 17)):=by rw[A.out];exact Pm.eK ..
 have l:Hid (F (w.heap.size+1) 1=some (ptr w.heap.size)∧F w.heap.size 0=some (.int .i64 0)∧(∀o,o≠1→F (w.heap.size+1) o=none)∧∀c o v,F c o=some v→w.heap.size≤c):=by
  rw[A.out];refine⟨by rw[Pm.aV _ _ (by omega),Pm.eK],by rw[Pm.aV _ _ (by omega),Pm.aV _ _ (by omega),Pm.eK],fun o ho=>by rw[Pm.aV _ _ (by omega),Pm.aV _ _ (by omega),Pm.aV _ _ (by omega)],fun c o v e=> ?_⟩;by_cases h1:c=b∧o=0
  ·omega
  ·rw[Pm.aV _ _ h1]at e
   by_cases h2:c=w.heap.size+1∧o=1
   ·omega
   ·rw[Pm.aV _ _ h2]at e
    by_cases h3:c=w.heap.size∧o=0
    ·omega
    ·rw[Pm.aV _ _ h3]at e;cases e
 have Z:Hid (Below w.heap.size w d):=((L.out.trans (z.mono (by omega))).trans (h.mono (by simp;omega)))
 have Qh:Hid (d.heap[w.heap.size+1]?=some (.cells (cM ⟨w.heap.size,0,none⟩ false 0 0 .nilIface .nilIface (.slice none 0 0)) 129 (0,0))):=((h.block _ (by simp;omega)).trans (z.block _ (by omega))).trans M.out;obtain⟨r,hr⟩:∃r,Hid (r=d.heap.size):=⟨_,rfl⟩
 have Ql:w.heap.size+3≤d.heap.size:=by omega
 obtain⟨q',P4,G,P5,P6,P7,P8,P9,H⟩:=Cq (recv:=q.heap.size) X.out rfl Y.out N (by omega);have O:=Lib.hid G;have t:=Lib.hid P7;have u:=Lib.hid P4;have P:=Lib.hid (And.intro P8 (And.intro P9 H));have Qj:=Lib.hid N;clear V W h z G P7 P4 P8 P9 H A N;go_wp2_with fail
 refine(jL _ _ _ _ _ _ _).mono ?_;rintro e5 w5 ⟨rfl,rfl⟩;go_wp2_with fail
 refine(rD _ 1 1 (by decide) _).mono ?_;rintro e6 w6 ⟨rfl,rfl⟩;go_wp2_with fail
 refine(mg _ _ _ _ _).mono ?_;rintro e7 w7 ⟨rfl,rfl⟩;go_wp2_with fail
 have hF:=tF 0 q' (g0 d.heap.size (d.heap.size+1)) (d.heap.size+6) aF none 0 _ (Cp O.out (by omega) ⟨_,_,P.out.2.1⟩ ⟨_,_,P.out.2.2⟩) (t.out _) (Cl 0) P5 P6 P.out.1 (by omega);refine hF.mono ?_;clear hF P5 P6;rintro e8 w8 ⟨q8,tb,rfl,B,Q,P_,Qa,C⟩;have Qb:=C.size;simp only[World.size_alloc]at Qb;have I:w.heap.size+1<(iH d b d.heap.size q.heap.size).heap.size:=by simp[iH];omega
 have D:Below d.heap.size d (iH d b d.heap.size q.heap.size):=by
  unfold iH;exact(((((((Below.refl _ _).alloc (Nat.le_refl _) _).alloc (by simp) _).alloc (by simp;omega) _).alloc (by simp;omega) _).alloc (by simp;omega) _).alloc (by simp;omega) _).alloc (by simp;omega) _
 have f:w8.heap[w.heap.size+1]?=some (.cells (cM ⟨w.heap.size,0,none⟩ false 0 0 .nilIface .nilIface (.slice none 0 0)) 129 (0,0)):=(C.block _ I (by omega)).trans ((D.block _ (by omega)).trans Qh.out);have i:∀o,o≠1→q8 (w.heap.size+1) o=none:=fun o ho=>by
  cases hv:q8 (w.heap.size+1) o with
  |none=>rfl
  |some x=>
   rcases Q _ _ _ hv with e|e|e
   ·rcases u.out.new _ _ _ e with e|e
    ·rw[l.out.2.2.1 o ho]at e;cases e
    ·omega
   ·omega
   ·omega
 obtain⟨_,J,R,S⟩:=WB.named (x:= .iface 33 (.pointer (some ⟨d.heap.size+6,0,none⟩))) P_.wb f i (by omega);have Qc:Hid (tQ w (.returned (.pointer (some ⟨w.heap.size+1,0,none⟩))) (((((((w8.setCell ⟨w.heap.size+1,3,none⟩ (.int .i32 1)).setCell ⟨w.heap.size+1,6,none⟩ (.iface 33 (.pointer (some ⟨d.heap.size+6,0,none⟩)))).setCell ⟨w.heap.size+1,2,none⟩ (.bool false)).setCell ⟨w.heap.size+1,5,none⟩ (.int .u32 7)).setCell ⟨w.heap.size+1,7,none⟩ (.iface 33 (.pointer (some ⟨d.heap.size+6,0,none⟩)))).setCell ⟨w.heap.size+1,5,none⟩ (.int .u32 15)).setCell ⟨w.heap.size+1,3,none⟩ (.int .i32 0))):=by
  have a:=((Pm.eL (p:=q8) (b:=w.heap.size+1) (o:=5) (.int .u32 15) (i 5 (by decide))).trans (Pm.eL (b:=w.heap.size+1) (o:=6) (ae 33 (d.heap.size+6)) (by rw[Pm.aV _ _ (by omega)];exact i 6 (by decide)))).trans (Pm.eL (b:=w.heap.size+1) (o:=7) (ae 33 (d.heap.size+6)) (by rw[Pm.aV _ _ (by omega),Pm.aV _ _ (by omega)];exact i 7 (by decide)));have Qm:=S.size;have Qd:=(u.out.le).trans B;refine⟨_,w.heap.size+1,w.heap.size,d.heap.size+6,rfl,J,Below.own (Below.own (Z.out.trans (D.mono (by omega))) C (by omega) fun b e=>by omega) S (by omega) fun b e=>by omega,fun c o v e=> ?_,a _ _ _ (Qd _ _ _ l.out.1),⟨by simp[Pm.put],by simp[Pm.put],by simp[Pm.put]⟩,⟨0,_,a _ _ _ (Qd _ _ _ l.out.2.1)⟩,a _ _ _ (B _ _ _ (t.out (g0 0 0)).ck),a _ _ _ (B _ _ _ (t.out (g0 0 0)).cm),by omega,by omega,fun g=>Cn (Qa.sub a (aD.refl _))⟩;by_cases h1:c=w.heap.size+1
  ·omega
  ·rw[Pm.aV _ _ fun k=>h1 k.1,Pm.aV _ _ fun k=>h1 k.1,Pm.aV _ _ fun k=>h1 k.1]at e
   rcases Q _ _ _ e with e|e|e
   ·rcases u.out.new _ _ _ e with e|e
    ·exact l.out.2.2.2 _ _ _ e
    ·omega
   ·have:=D.size;omega
   ·omega
 have y:∀o v,(cM ⟨w.heap.size,0,none⟩ false 0 0 .nilIface .nilIface (.slice none 0 0))[o]?=some v→w8.cell? ⟨w.heap.size+1,o,none⟩=some v:=fun o v e=>by simp only[World.cell?,f];exact e
 have m:∀o,w8.frozen? ⟨w.heap.size+1,o,none⟩=false:=fun o=>by simp[World.frozen?,f]
 have hU:=Lib.hid (ot (w.heap.size+1) 33 (some ⟨d.heap.size+6,0,none⟩) (by decide) (by decide) w8 ⟨_,y 2 _ rfl⟩ (y 3 _ rfl) (y 5 _ rfl) ⟨_,y 6 _ rfl⟩ ⟨_,y 7 _ rfl⟩ (m 2) (m 3) (m 5) (m 6) (m 7));clear J R S y m P_ Qa C Q B D I f i;go_wp2_with fail
 refine hU.out.mono ?_;rintro e9 w9 ⟨rfl,rfl⟩;go_wp2_with fail
 go_ret;exact Qc.out
end Go.Proofs.YtgbklbbknehefaaGreatDoor
