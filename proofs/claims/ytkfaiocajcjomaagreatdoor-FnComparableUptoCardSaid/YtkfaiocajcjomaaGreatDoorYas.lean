import Derived.Deep.CutBlock
import Derived.Test.YtkfaiocajcjomaaGreatDoorYan
import Derived.Test.YtkfaiocajcjomaaGreatDoorYap
import Derived.Test.YtkfaiocajcjomaaGreatDoorYaq
set_option maxRecDepth 100000
set_option maxHeartbeats 8000000
set_option linter.all false
namespace Go.Proofs.YtkfaiocajcjomaaGreatDoor
open Go.RowKit TS
theorem me(x y:R3):ltOf ga x y=bp x.1 y.1:=by
 unfold ltOf ga;cases bp x.1 y.1<;>rfl
theorem xj:Sort.SWO (ltOf ga) where
 irrefl x:=by rw[me];exact iq _
 trans x y z h k:=by rw[me]at*;exact gy h k
 ntrans x y z h k:=by
  rw[me]at*;cases a:bp x.1 z.1
  ·rfl
  ·cases b:bp y.1 x.1
   ·have e:=fV.1 (jH h b)
    unfold bp at*;rw[e,k]at a;cases a
   ·have:=gy b a;rw[this]at k;cases k
theorem xm{enc:R3→List Value}{k g n:Nat}{d:Array R3}{os:Array Obj}{B:Nat}{a W:World}(h:Below B a W)(e:B≤g)(f:B≤W.heap.size):Below B a (sortWorldK enc k W g 0 n d os):=by
 refine⟨h.os,h.tape,h.output,?_,fun b c=> ?_⟩
 ·unfold sortWorldK
  rw[Sort.size_grow,Sort.size_putRowK];exact Nat.le_trans h.size (Nat.le_add_right _ _)
 ·rw[←h.block b c]
  unfold sortWorldK;rw[Sort.heap_grow_old _ _ (by rw[Sort.size_putRowK];show b<W.heap.size;omega)];unfold Sort.putRowK Sort.putRow Sort.mapBlock;simp only[Sort.ahead];rw[Array.getElem?_modify,if_neg (by omega)]
theorem rB(L:List R3)(j:Nat)(u:Value)(h:(cq L)[j]?=some u):(Sort.flatK bL 7 L.toArray)[j]! =u∧j<(Sort.flatK bL 7 L.toArray).size:=by
 have b:j<L.length*7:=by rw[←lP];exact(List.getElem?_eq_some_iff.1 h).1
 have a:j / 7<L.length:=by omega
 have hr:j % 7<7:=Nat.mod_lt _ (by decide);have:=qM L (j / 7) (j % 7) a hr;rw[show j / 7*7+j % 7=j by omega,h]at this;refine⟨?_,by simp;omega⟩;rw[Sort.get_flatK _ _ _ _ (by simpa using b)];rw[getElem!_pos L.toArray (j / 7) (by simpa using a)];have e:(bL L[j / 7])[j % 7]?=some u:=this.symm;obtain⟨h1,h2⟩:=List.getElem?_eq_some_iff.1 e;rw[show L.toArray[j / 7]=L[j / 7] by simp,getElem!_pos (bL L[j / 7]) (j % 7) h1,h2]
theorem xn{p q:Pm}{D:Dl}{NS:List (List UInt8)}{w wr:World}{v:Value}{L:List R3}(h:Own p q D NS w wr v L)
 (mg:∀(r cap:Nat)(d:Array R3)(W:World),Sort.HoldsK bL 7 W r 0 d→r<W.heap.size→d.size<4611686018427387904→
  Calls Tryz.prog 167 #[.slice (some ⟨r,0,none⟩) d.size cap,.func (.func 168) #[] #[]] W fun e k=>
   e= .returned (.tuple #[])∧∃d' n os,Sort.PermIn 0 d.size d d'∧Sort.SortedIn (ltOf ga) 0 d.size d'∧k=sortWorldK bL 7 W r 0 n d' os)
 (s:∀(a:Option Addr)(cap:Nat)(W:World),Calls Tryz.prog 167 #[.slice a 0 cap,.func (.func 168) #[] #[]] W fun e k=>e= .returned (.tuple #[])∧k=W)
 (hl:L.length≤1048576):
 ∃a n c,v= .slice a n c∧n=(bZ (aX L)).length∧Calls Tryz.prog 167 #[v,.func (.func 168) #[] #[]] wr fun e k=>
  e= .returned (.tuple #[])∧∃t,aL p t w.heap.size∧KW t k∧au t D (bZ (aX L)) a∧Below w.heap.size w k:=by
 have hlen:(bZ (aX L)).length=L.length:=by unfold bZ;rw[List.length_mergeSort,kE]
 rcases Nat.eq_zero_or_pos L.length with B|B
 ·have hL:L= []:=List.length_eq_zero_iff.1 B
  have key:∀a c,v= .slice a 0 c→(∀x,a=some x→x.spot=none)→∃a n c,v= .slice a n c∧n=(bZ (aX L)).length∧Calls Tryz.prog 167 #[v,.func (.func 168) #[] #[]] wr fun e k=>
   e= .returned (.tuple #[])∧∃t,aL p t w.heap.size∧KW t k∧au t D (bZ (aX L)) a∧Below w.heap.size w k:=fun a c l K=>by
   refine⟨a,0,c,l,by rw[hlen,B],?_⟩;rw[l];refine(s a c wr).mono ?_;rintro e k ⟨rfl,rfl⟩;exact⟨rfl,q,h.gr,h.kw,by rw[hL,show bZ (aX [])= [] by simp[aX,bZ]];exact au.gO K,h.up⟩
  rcases h.own.2 with⟨l,_⟩|⟨g,cap,cur,l,_⟩
  ·exact key none 0 l fun x C=>by cases C
  ·rw[B]at l
   exact key (some ⟨g,0,none⟩) cap l fun x C=>by cases C;rfl
 ·obtain⟨g,cap,l,X,Y,hn,hc,y,M⟩:=jO h.own B
  have N:=h.aI g (by rw[l];rfl);have hH:Sort.HoldsK bL 7 wr g 0 L.toArray:=fun j J=>by
   have z:j<(cq L).length:=by rw[lP];simpa using J
   obtain⟨O,_⟩:=rB L j _ (List.getElem?_eq_getElem z);rw[Nat.zero_add,O];exact⟨y j _ (List.getElem?_eq_getElem z),M j z⟩
  refine⟨some ⟨g,0,none⟩,L.length,cap,l,hlen.symm,?_⟩;rw[l];have Z:=mg g cap L.toArray wr hH Y (by simp;omega);simp only[List.size_toArray]at Z;refine Z.mono ?_;rintro e k ⟨rfl,d',n,os,hp,K,rfl⟩;obtain⟨f,rfl⟩:∃f:List R3,d'=f.toArray:=⟨d'.toList,by simp⟩
  have E:f.length=L.length:=by have:=hp.1;simpa using this
  have m:f.Perm L:=by
   have:=hp.2.2;have e:List.take L.length f=f:=List.take_of_length_le (by omega);simpa [E,List.extract_eq_take_drop,e]using this
  have P:=holdsK_sortWorldK_c bL 7 wr g 0 L.toArray f.toArray n os hH Y (by simpa using E);have F:(aX L).Perm (aX f):=(m.map _).symm;have G:cZ (aX f):=F.pairwise h.two fun{a b} A=>by rw[nJ];exact A
  have H:dE (aX f):=by
   have Q:(aX f).Pairwise fun a b=>bp b a=false:=by
    rw[List.pairwise_iff_getElem];intro i j hi J R;rw[kE]at hi J;have:=K i j (Nat.zero_le _) R (by omega);rw[me]at this;simpa [aX,getElem!_pos,hi,J]using this
   exact(Q.and G).imp fun{a b} ⟨h1,h2⟩=>by
    cases A:bp a b
    ·have:=jH A h1;rw[this]at h2;cases h2
    ·rfl
  have heq:aX f=bZ (aX L):=nL h.two F H;have I:eZ q D f:=fun x C=>h.all x (m.subset C);have S:Below w.heap.size w (sortWorldK bL 7 wr g 0 n f.toArray os):=xm h.up X h.up.size;have T:KW q (sortWorldK bL 7 wr g 0 n f.toArray os):=fun b o u hu=>by
   have hb:=h.kw.lt hu;have U:b≠g:=fun e=>by rw[e,N o]at hu;cases hu
   unfold sortWorldK;rw[Sort.cell?_grow _ _ _ (by rw[Sort.size_putRowK];exact hb),Sort.cell?_putRowK_other _ _ _ _ _ _ _ U];exact h.kw b o u hu
  refine⟨rfl,q.add g (cq f).toArray,h.gr.trans (Pm.cW N X) (Nat.le_refl _),T.add fun o u hu=> ?_,?_,S⟩
  ·have V:(cq f)[o]?=some u:=by simpa using hu
   obtain⟨O,e2⟩:=rB f o u V;have:=(P o e2).1;rw[Nat.zero_add,O]at this;exact this
  ·rw[←heq]
   refine nR (I.sub (Pm.cO N)) fun j u hu=> ?_;rw[Nat.zero_add,Pm.aT];simpa using hu
theorem xp(a off size:Nat)(w:World):CmpLays Tryz.prog 168 #[] bL 7 ga a off size w:=
 fun m os dk _ x y=>xg x.1 y.1 x.2.1 y.2.1 x.2.2 y.2.2 _
theorem xq:∀w,(isAgg 25).run Tryz.prog w= .ok true w:=fun _=>by kernel_rfl
theorem xr:∀w,(Go.sizeOf 25).run Tryz.prog w= .ok 7 w:=fun _=>by kernel_rfl
theorem xu:rz:=fun p q D NS w wr v L h e=>by
 refine xn h ?_ ?_ e
 ·intro b cap d W hH f g
  have i:∀args w,(callFunc 168 args).run Tryz.prog w= .ok (.enter 168 args) w:=dm Tryz.func168 (by kernel_rfl) rfl;exact AnyQ.slices_SortFunc Tryz.mg 7 xq xr bL (fun _=>rfl) (fun x v c=>by simp only[bL,List.mem_cons,List.not_mem_nil,or_false]at c;rcases c with rfl|rfl|rfl|rfl|rfl|rfl|rfl<;>rfl) ga xj 168 #[] b 0 cap d W i (xp _ _ _ _) hH f g
 ·intro a cap W
  exact AnyF.slices_SortFunc_none (P:=Tryz.prog) (ρ:=Tryz.rC) {Tryz.mg with} a cap _ W
theorem kH(D:Dl)(dc:Nat)(NS:List (List UInt8))(a:NS.length≤1048576)(u:U):rA D dc NS u:=xi xu D dc NS a u
end Go.Proofs.YtkfaiocajcjomaaGreatDoor
namespace TS
open Go Go.RowKit
theorem Pl.iw{len:Nat}{u:U}{pos f:Nat}(h:Pl len u pos f)(m:f≤2)(hk:u.k=10):∃j,j≤2∧j≠0∧Pl len u 0 j:=by
 by_cases l:f=0
 ·subst l
  refine⟨1,by omega,by omega,?_⟩;rw[Pl];refine⟨?_,fun i hi=> ?_,fun n=>by omega⟩
  ·have hF:=h.form.gw (by omega) (by omega) 0
   cases hF with
   |iface a b c d e g=>exact .iface a b c d e g
   |pre a _=>omega
   |one a _ _=>omega
   |ptr a _ _ _=>omega
   |_=>omega
  ·have:=h.part i hi
   rwa [show aJ u i 1=aJ u i 0 by unfold aJ;simp[hk]]
 ·exact⟨f,m,l,h.gw (by omega) (by omega) 0⟩
theorem Pl.cf{len:Nat}:∀{u:U}{pos f:Nat},Pl len u pos f→f≤2→f≠0→u.k≠12→u.k≠13→∀m∈an u,m.k=7∧∃d,d≤2∧Pl len m 0 d:=by
 intro u;induction u using U.bg with
 |_ u ih=>
  intro pos f h o g i j m hm;obtain⟨d,p,n,b,_,_⟩:=h.under o g i j;obtain⟨c,hm⟩:=gQ hm;rcases hm with hm|⟨e,he,a,hm⟩
  ·have:=b.iv c hm
   exact⟨this.1,_,by split<;>omega,this.2.2⟩
  ·have l:=b.elem c he
   have h1:=U.az (List.mem_of_mem_drop he);have h2:=dn u;unfold aW at a;simp only[Bool.and_eq_true,bne_iff_ne,ne_eq]at a;exact ih e (by omega) l (by omega) (by omega) a.1.1 a.1.2 m hm
end TS
namespace Go.Proofs.YtkfaiocajcjomaaGreatDoor
open Go.RowKit TS
theorem xx(p:Pm)(D:Dl)(dc:Nat)(NS:List (List UInt8))(j:NS.length≤1048576)(x y:U)(px J py L:Nat)(a:Option Addr)(c:Nat)(a':Option Addr)(c':Nat)(w:World)
 (l:Pl D.len x px J)(B:J≤2)(h:J≠0)(P3:x.k=10)(o:Pl D.len y py L)(C:L≤2)(i:L≠0)(P4:y.k=10)(M:aU x=false)(N:aU y=false)(E:Names NS x)(F:Names NS y)
 (O:aj p D x a c)(P:aj p D y a' c')(hw:KW p w)(hI:∀f∈an x,∀m∈an y,∀q,ji q D dc f m):
 Calls Tryz.prog 190 #[.slice D.a D.len dc,.agg #[.int .i64 x.k,.int .i64 x.n,.int .i64 x.m,.bool x.v,.string x.nm,.string x.tg,.slice a x.es.length c],.agg #[.int .i64 y.k,.int .i64 y.n,.int .i64 y.m,.bool y.v,.string y.nm,.string y.tg,.slice a' y.es.length c']] w (RB (decide ((an x).length=(an y).length)&&hasB (an x) (an y)) w):=by
 have ag:Up p w ((w.alloc (.cells #[.int .i64 x.k,.int .i64 x.n,.int .i64 x.m,.bool x.v,.string x.nm,.string x.tg,.slice a x.es.length c] 25)).alloc (.cells #[.int .i64 y.k,.int .i64 y.n,.int .i64 y.m,.bool y.v,.string y.nm,.string y.tg,.slice a' y.es.length c'] 25)):=((Up.refl hw).alloc _).alloc _;have Q:=fun W r=>aM (jR D dc x p px J a c W l B h (by omega) (by omega) O r) M;have R:=fun W r=>aM (jR D dc y p py L a' c' W o C i (by omega) (by omega) P r) N;have S:=fun W (r:KW p W)=>kH D dc NS j x p px J a c W l B h (by omega) (by omega) E O r;have T:=Lib.hid fun(q:Pm) W (hs:Sub p q) (r:KW q W)=>kH D dc NS j y q py L a' c' W o C i (by omega) (by omega) F (aj.sub hs _ P) r;have P5:(an x).length≤1048576:=Nat.le_trans (jd (jT l B h (by omega) (by omega)).noTwo fun m hm=>(E.cf m hm).1) j;have P6:(an y).length≤1048576:=Nat.le_trans (jd (jT o C i (by omega) (by omega)).noTwo fun m hm=>(F.cf m hm).1) j;generalize an x=G at*;generalize an y=H at*;have P7:=Lib.hid hI;clear hI l o P3 P4 E F M N;go_enter Tryz.func190,Tryz.ntmps190;go_wp2_with fail
 refine(Q _ ag.kw).mono ?_;rintro s d ⟨rfl,aa⟩;have I:=ag.step aa;obtain⟨x0,x1,x2,x3,x4,x5,x6⟩:(d.cell? ⟨w.heap.size,0,none⟩=some (.int .i64 x.k)∧d.cell? ⟨w.heap.size,1,none⟩=some (.int .i64 x.n)∧d.cell? ⟨w.heap.size,2,none⟩=some (.int .i64 x.m)∧d.cell? ⟨w.heap.size,3,none⟩=some (.bool x.v)∧d.cell? ⟨w.heap.size,4,none⟩=some (.string x.nm)∧d.cell? ⟨w.heap.size,5,none⟩=some (.string x.tg)∧d.cell? ⟨w.heap.size,6,none⟩=some (.slice a x.es.length c)):=by
  repeat' apply And.intro
  all_goals exact cell_kept aa (by first|(simp[go_sem];done)|(go_keep;done))
 obtain⟨y0,y1,y2,y3,y4,y5,y6⟩:(d.cell? ⟨w.heap.size+1,0,none⟩=some (.int .i64 y.k)∧d.cell? ⟨w.heap.size+1,1,none⟩=some (.int .i64 y.n)∧d.cell? ⟨w.heap.size+1,2,none⟩=some (.int .i64 y.m)∧d.cell? ⟨w.heap.size+1,3,none⟩=some (.bool y.v)∧d.cell? ⟨w.heap.size+1,4,none⟩=some (.string y.nm)∧d.cell? ⟨w.heap.size+1,5,none⟩=some (.string y.tg)∧d.cell? ⟨w.heap.size+1,6,none⟩=some (.slice a' y.es.length c')):=by
  repeat' apply And.intro
  all_goals exact cell_kept aa (by first|(simp[go_sem];done)|(go_keep;done))
 clear aa Q;go_wp2_with fail
 refine(R _ I.kw).mono ?_;rintro s e ⟨rfl,aa⟩;have P8:=I.step aa;clear ag;have ag:=P8;obtain⟨u0,u1,u2,u3,u4,u5,u6⟩:(e.cell? ⟨w.heap.size,0,none⟩=some (.int .i64 x.k)∧e.cell? ⟨w.heap.size,1,none⟩=some (.int .i64 x.n)∧e.cell? ⟨w.heap.size,2,none⟩=some (.int .i64 x.m)∧e.cell? ⟨w.heap.size,3,none⟩=some (.bool x.v)∧e.cell? ⟨w.heap.size,4,none⟩=some (.string x.nm)∧e.cell? ⟨w.heap.size,5,none⟩=some (.string x.tg)∧e.cell? ⟨w.heap.size,6,none⟩=some (.slice a x.es.length c)):=by
  repeat' apply And.intro
  all_goals exact cell_kept aa (by assumption)
 obtain⟨v0,v1,v2,v3,v4,v5,v6⟩:(e.cell? ⟨w.heap.size+1,0,none⟩=some (.int .i64 y.k)∧e.cell? ⟨w.heap.size+1,1,none⟩=some (.int .i64 y.n)∧e.cell? ⟨w.heap.size+1,2,none⟩=some (.int .i64 y.m)∧e.cell? ⟨w.heap.size+1,3,none⟩=some (.bool y.v)∧e.cell? ⟨w.heap.size+1,4,none⟩=some (.string y.nm)∧e.cell? ⟨w.heap.size+1,5,none⟩=some (.string y.tg)∧e.cell? ⟨w.heap.size+1,6,none⟩=some (.slice a' y.es.length c')):=by
  repeat' apply And.intro
  all_goals exact cell_kept aa (by assumption)
 clear aa I R x0 x1 x2 x3 x4 x5 x6 y0 y1 y2 y3 y4 y5 y6;go_wp2_with fail
 refine oR (fun W=>(W.cell? ⟨w.heap.size,0,none⟩=some (.int .i64 x.k)∧W.cell? ⟨w.heap.size,1,none⟩=some (.int .i64 x.n)∧W.cell? ⟨w.heap.size,2,none⟩=some (.int .i64 x.m)∧W.cell? ⟨w.heap.size,3,none⟩=some (.bool x.v)∧W.cell? ⟨w.heap.size,4,none⟩=some (.string x.nm)∧W.cell? ⟨w.heap.size,5,none⟩=some (.string x.tg)∧W.cell? ⟨w.heap.size,6,none⟩=some (.slice a x.es.length c))∧(W.cell? ⟨w.heap.size+1,0,none⟩=some (.int .i64 y.k)∧W.cell? ⟨w.heap.size+1,1,none⟩=some (.int .i64 y.n)∧W.cell? ⟨w.heap.size+1,2,none⟩=some (.int .i64 y.m)∧W.cell? ⟨w.heap.size+1,3,none⟩=some (.bool y.v)∧W.cell? ⟨w.heap.size+1,4,none⟩=some (.string y.nm)∧W.cell? ⟨w.heap.size+1,5,none⟩=some (.string y.tg)∧W.cell? ⟨w.heap.size+1,6,none⟩=some (.slice a' y.es.length c'))∧Up p w W) [(0,true),(1,true),(3,true),(4,true),(2,false),(5,false),(6,true),(7,true)] oK (fun g=> ?_);repeat(first|(refine oS ?_;try simp only[Act.put,oa,ob,oc])|(refine oF g ?_;try simp only[Act.put,oa,ob,oc])|(refine oL fun K hK=> ?_;go_simp;first|(go_at_call 133;(with_reducible refine(S _ (Up.kw (by first|assumption|exact ag.drew))).mono ?_);rintro s w3 ⟨q1,a1,n1,c1,rfl,u,P9,P_,V,aa⟩;clear S;(try simp only[]);refine hK _ _ oK fun g=> ?_;clear hK K;try simp only[Act.put,oa,ob,oc])|(go_at_call 133;(with_reducible refine(T.out q1 _ P9.le P_).mono ?_);rintro s w4 ⟨q2,a2,n2,c2,rfl,z,Qa,Qb,X,Qc⟩;have aa:=Qc;obtain⟨⟨s0,s1,s2,s3,s4,s5,s6⟩,⟨r0,r1,r2,r3,r4,r5,r6⟩,sU⟩:=g;clear T;(try simp only[]);refine hK _ _ oK fun g=> ?_;clear hK K;try simp only[Act.put,oa,ob,oc])))
 refine bM ?_;have Y:=g.2.2;have A:=au.sub Qa.le _ V;have hA:=fun W (r:KW q2 W)=>rF q2 D dc G H a1 n1 c1 a2 n2 c2 W u.out z.out P5 P6 A X r fun f hf m hm=>P7.out f hf m hm q2;clear g V X A;have s:=u.out;have e2:=z.out;by_cases he:G.length=H.length
 ·have t:((n1:Int)==n2)=true:=by rw[s,e2,he];simp
  have hF:Hid (hasB G H=(decide (G.length=H.length)&&hasB G H)):=by unfold Hid;rw[decide_eq_true he];rfl
  clear s e2 he u z;go_wp2_with fail
  refine(hA _ Qb).mono ?_;rintro s w6 ⟨b,rfl,hb,Z⟩;have hB:=(Y.step Z).up;clear Z hA;go_wp2_with fail
  go_ret;exact⟨_,rfl,hb.out.trans hF.out,hB⟩
 ·have t:((n1:Int)==n2)=false:=by rw[s,e2];simp;omega
  have hF:Hid (false=(decide (G.length=H.length)&&hasB G H)):=by unfold Hid;rw[decide_eq_false he];rfl
  clear s e2 he u z hA;go_wp2_with fail
  go_ret;exact⟨_,rfl,hF.out,Y.up⟩
end Go.Proofs.YtkfaiocajcjomaaGreatDoor
namespace Go.Proofs.YtkfaiocajcjomaaGreatDoor
open Go.RowKit TS
theorem jj{α β:Type}{l:List α}{r:List β}(f:α×β→Bool):(l.zip r).all f=true↔∀i(h:i<l.length)(c:i<r.length),f (l[i],r[i])=true:=by
 rw[List.all_eq_true];constructor
 ·intro h i hi a
  refine h _ ?_;have:i<(l.zip r).length:=by simp;omega
  rw[show(l[i],r[i])=(l.zip r)[i] by simp];exact List.getElem_mem this
 ·intro h x b
  obtain⟨i,hi,rfl⟩:=List.getElem_of_mem b;simp at hi;rw[List.getElem_zip];exact h i (by omega) (by omega)
theorem rG{α β:Type}{l:List α}{r:List β}(f:α×β→Bool){i:Nat}(h:i<l.length)(b:i<r.length)(a:f (l[i],r[i])=false):(l.zip r).all f=false:=by
 rw[Bool.eq_false_iff];intro ha;rw[jj]at ha;rw[ha i h b]at a;cases a
theorem oA{p:Pm}{w W:World}(hw:KW p w)(h:Below w.heap.size w W):Up p w W:=⟨hw.grown h,h⟩
def rH(D:Dl)(dc:Nat)(NS:List (List UInt8))(x:U):Prop:=
 ∀(y:U)(c a d b:Nat),Pl D.len x c a→a≤2→x.k≠12→x.k≠13→Pl D.len y d b→b≤2→y.k≠12→y.k≠13→aP x→aP y→Names NS x→Names NS y→∀p,ji p D dc x y
theorem xy(D:Dl)(dc:Nat)(NS:List (List UInt8))(C:NS.length≤1048576)(x c b:U)(M N:Nat)(ih:∀O,O.sz<x.sz→rH D dc NS O)(P:c.sz≤x.sz)
 (r:Pl D.len c 0 M)(E:M≤2)(s:Pl D.len b 0 N)(F:N≤2)(d:aP c)(g:aP b)(h:Names NS c)(i:Names NS b)(t:c.k=10)(o:b.k=10)
 (p:Pm)(G:Option Addr)(c1:Nat)(a2:Option Addr)(c2:Nat)(H:aj p D c G c1)(I:aj p D b a2 c2)(W:World)(Q:KW p W):
 Calls Tryz.prog 190 #[.slice D.a D.len dc,.agg #[.int .i64 c.k,.int .i64 c.n,.int .i64 c.m,.bool c.v,.string c.nm,.string c.tg,.slice G c.es.length c1],.agg #[.int .i64 b.k,.int .i64 b.n,.int .i64 b.m,.bool b.v,.string b.nm,.string b.tg,.slice a2 b.es.length c2]] W (RB (b.k==10&&(!aU c&& !aU b&&decide ((an c).length=(an b).length)&&hasB (an c) (an b))) W):=by
 obtain⟨f1,u,j,w⟩:=r.iw E t;obtain⟨f2,y,l,z⟩:=s.iw F o;have:=xx p D dc NS C c b 0 f1 0 f2 G c1 a2 c2 W w u j t z y l o d.gen g.gen h i H I Q (fun f B m hm q=>by
  obtain⟨T,V,J,K⟩:=w.cf u j (by omega) (by omega) f B;obtain⟨R,S,A,L⟩:=z.cf y l (by omega) (by omega) m hm;have:=jI B;exact ih f (by omega) m _ _ _ _ K J (by omega) (by omega) L A (by omega) (by omega) (d.cf B) (g.cf hm) (h.cf f B).2 (i.cf m hm).2 q)
 have e:(b.k==10&&(!aU c&& !aU b&&decide ((an c).length=(an b).length)&&hasB (an c) (an b)))=(decide ((an c).length=(an b).length)&&hasB (an c) (an b)):=by
  rw[d.gen,g.gen,show(b.k==10)=true by simp[o]];rfl
 rw[e];exact this
theorem kI(D:Dl)(dc:Nat)(NS:List (List UInt8))(QL:NS.length≤1048576):∀x,rH D dc NS x:=by
 intro x;induction x using U.bg with
 |_ x ih=>
  intro y px fx py fy Qd P Qi Qj Qe P3 Qk Ql Qr Qs Qt Qu p a c a' c' w Qv Qw hw;have Qm:=fun W hk=>lV p D x px fx a c W Qd Qv hk;have Qn:=fun W hk=>lV p D y py fy a' c' W Qe Qw hk;obtain⟨E,QM,Qx,P6⟩:=Qd.bare P Qi Qj;obtain⟨F,QN,Qy,QO⟩:=Qe.bare P3 Qk Ql;have I:=Qr.bare Qd;have J:=Qs.bare Qe;have L:=Qt.bare;have M:=Qu.bare;have Q:= @jJ x y;have R:= @jK x y;generalize aF x y=r at*;have ag:Up p w ((w.alloc (.cells #[.int .i64 x.k,.int .i64 x.n,.int .i64 x.m,.bool x.v,.string x.nm,.string x.tg,.slice a x.es.length c] 25)).alloc (.cells #[.int .i64 y.k,.int .i64 y.n,.int .i64 y.m,.bool y.v,.string y.nm,.string y.tg,.slice a' y.es.length c'] 25)):=((Up.refl hw).alloc _).alloc _;clear Qd Qe Qv Qw Qr Qs Qt Qu;generalize bare x=d at*;generalize bare y=g at*;have HH:=Lib.hid (And.intro E (And.intro F (And.intro I (And.intro J (And.intro L (And.intro M (And.intro P6 (And.intro ih (And.intro Q (And.intro R (And.intro P P3)))))))))));clear E F I J L M P6 QO ih Q R Qi Qk Qj Ql QM QN Qx Qy P P3;go_enter Tryz.func164,Tryz.ntmps164;go_upto_region 1 with fail
  go_cut [] (fun wx=> ∃a1 c1 a2 c2,aj p D d a1 c1∧aj p D g a2 c2∧(wx.cell? ⟨w.heap.size,0,none⟩=some (.int .i64 d.k)∧wx.cell? ⟨w.heap.size,1,none⟩=some (.int .i64 d.n)∧wx.cell? ⟨w.heap.size,2,none⟩=some (.int .i64 d.m)∧wx.cell? ⟨w.heap.size,3,none⟩=some (.bool d.v)∧wx.cell? ⟨w.heap.size,4,none⟩=some (.string d.nm)∧wx.cell? ⟨w.heap.size,5,none⟩=some (.string d.tg)∧wx.cell? ⟨w.heap.size,6,none⟩=some (.slice a1 d.es.length c1))∧(wx.cell? ⟨w.heap.size+1,0,none⟩=some (.int .i64 g.k)∧wx.cell? ⟨w.heap.size+1,1,none⟩=some (.int .i64 g.n)∧wx.cell? ⟨w.heap.size+1,2,none⟩=some (.int .i64 g.m)∧wx.cell? ⟨w.heap.size+1,3,none⟩=some (.bool g.v)∧wx.cell? ⟨w.heap.size+1,4,none⟩=some (.string g.nm)∧wx.cell? ⟨w.heap.size+1,5,none⟩=some (.string g.tg)∧wx.cell? ⟨w.heap.size+1,6,none⟩=some (.slice a2 g.es.length c2))∧Up p w wx)
  case first=>
   go_region_with (first|(go_at_call 35;(with_reducible refine(Qm _ ag.drew.kw).mono ?_);rintro e1 w1 ⟨a1,c1,rfl,S,aa⟩;obtain⟨Qz,P⟩:=iV aa;have QP:=aa.size;simp only[World.size_drew,World.size_alloc]at QP Qz P;have QS:w.heap.size<w1.heap.size:=(by omega);have QT:w.heap.size+1<w1.heap.size:=(by omega))|(go_at_call 35;(with_reducible refine(Qn _ (ag.drew.step aa).kw).mono ?_);rintro e1 w2 ⟨a2,c2,rfl,T,P9⟩;obtain⟨QQ,P3⟩:=iV P9;have QU:=P9.size))
   all_goals
    go_wp2_with fail
    go_meet
    have hB:=(ag.drew.step aa).up.trans (P9.mono (ag.drew.step aa).up.size);clear Qz P QQ P3 Qm Qn;obtain⟨p0,p1,p2,p3,p4,p5,p6⟩:(w2.cell? ⟨w.heap.size,0,none⟩=some (.int .i64 x.k)∧w2.cell? ⟨w.heap.size,1,none⟩=some (.int .i64 x.n)∧w2.cell? ⟨w.heap.size,2,none⟩=some (.int .i64 x.m)∧w2.cell? ⟨w.heap.size,3,none⟩=some (.bool x.v)∧w2.cell? ⟨w.heap.size,4,none⟩=some (.string x.nm)∧w2.cell? ⟨w.heap.size,5,none⟩=some (.string x.tg)∧w2.cell? ⟨w.heap.size,6,none⟩=some (.slice a x.es.length c)):=by
     repeat' apply And.intro
     all_goals exact cell_kept P9 (cell_kept aa (by simp[go_sem]))
    obtain⟨q0,q1,q2,q3,q4,q5,q6⟩:(w2.cell? ⟨w.heap.size+1,0,none⟩=some (.int .i64 y.k)∧w2.cell? ⟨w.heap.size+1,1,none⟩=some (.int .i64 y.n)∧w2.cell? ⟨w.heap.size+1,2,none⟩=some (.int .i64 y.m)∧w2.cell? ⟨w.heap.size+1,3,none⟩=some (.bool y.v)∧w2.cell? ⟨w.heap.size+1,4,none⟩=some (.string y.nm)∧w2.cell? ⟨w.heap.size+1,5,none⟩=some (.string y.tg)∧w2.cell? ⟨w.heap.size+1,6,none⟩=some (.slice a' y.es.length c')):=by
     repeat' apply And.intro
     all_goals exact cell_kept P9 (cell_kept aa (by simp[go_sem]))
    refine⟨a1,c1,a2,c2,S,T,?_,?_,?_⟩
    ·repeat' apply And.intro
     all_goals (simp[go_sem,p0,p1,p2,p3,p4,p5,p6];done)
    ·repeat' apply And.intro
     all_goals (simp[go_sem,q0,q1,q2,q3,q4,q5,q6];done)
    ·refine oA hw ?_
     repeat(refine Below.setCell ?_ (by simp) _)
     exact hB
  case rest=>
   obtain⟨a1,c1,a2,c2,S,T,⟨x0,x1,x2,x3,x4,x5,x6⟩,⟨N,X,Y,Z,y4,y5,y6⟩,A⟩:=hcut;have bl:=World.block_lt_of_cell? _ _ N;simp only at bl;clear Qm Qn ag;have Qo:=S.cap;have Qp:=T.cap;cases H:d.k==g.k
   ·have t1:(d.k !=g.k)=true:=by simp[bne,H]
    have hF:Hid (false=r):=by
     obtain⟨_,_,_,_,_,_,_,_,Q,R,_,_⟩:=HH.out;unfold Hid;by_cases z:d.k=10
     ·rw[Q z,show(g.k==10)=false by rw[←z,Bool.beq_comm];exact H];rfl
     ·rw[R z,H];rfl
    clear H Qo Qp;go_wp2_with fail
    go_ret;exact⟨_,rfl,hF,A.up⟩
   have P_:d.k=g.k:=by simpa using H
   have t1:(d.k !=g.k)=false:=by simp[bne,H]
   by_cases z:d.k=10
   ·have t2:(d.k==10)=true:=by simp[z]
    have t3:(d.k !=10)=false:=by simp[z]
    have hS:Hid (∀W,KW p W→Calls Tryz.prog 190 #[.slice D.a D.len dc,.agg #[.int .i64 d.k,.int .i64 d.n,.int .i64 d.m,.bool d.v,.string d.nm,.string d.tg,.slice a1 d.es.length c1],.agg #[.int .i64 g.k,.int .i64 g.n,.int .i64 g.m,.bool g.v,.string g.nm,.string g.tg,.slice a2 g.es.length c2]] W (RB r W)):=by
     obtain⟨E,F,I,J,L,M,P6,ih,Q,_,P,P3⟩:=HH.out;rw[Q z];exact xy D dc NS QL x d g fx fy ih P6 E P F P3 I J L M z (P_▸z) p a1 c1 a2 c2 S T
    clear H Qo Qp P_ z;have Qa:(d.es.length:Int)=g.es.length∨((d.es.length:Int) !=g.es.length)=true:=by
     by_cases h:(d.es.length:Int)=g.es.length
     ·exact .inl h
     ·exact .inr (by simpa using h)
    rcases Qa with Qa|Qa
    ·have t4:((d.es.length:Int) !=g.es.length)=false:=by simp[Qa]
     clear Qa;go_wp2_with fail
     refine(hS.out _ A.kw).mono ?_;rintro e1 w3 ⟨b,rfl,hb,Qb⟩;have hB:=(A.step Qb).up;clear Qb hS;go_wp2_with fail
     go_ret;exact⟨_,rfl,hb,hB⟩
    ·go_wp2_with fail
     refine(hS.out _ A.kw).mono ?_;rintro e1 w3 ⟨b,rfl,hb,Qb⟩;have hB:=(A.step Qb).up;clear Qb hS;go_wp2_with fail
     go_ret;exact⟨_,rfl,hb,hB⟩
   have t2:(d.k==10)=false:=by simp[z]
   have t3:(d.k !=10)=true:=by simp[z]
   by_cases hle:d.es.length=g.es.length
   rotate_left
   ·have t4:((d.es.length:Int) !=g.es.length)=true:=by simp;omega
    have hF:Hid (false=r):=by
     obtain⟨_,_,_,_,_,_,_,_,Q,R,_,_⟩:=HH.out;unfold Hid;rw[R z,decide_eq_false hle];simp
    clear H Qo Qp P_ z hle;go_wp2_with fail
    go_ret;exact⟨_,rfl,hF,A.up⟩
   have t4:((d.es.length:Int) !=g.es.length)=false:=by simp[hle]
   have hR:Hid (r=(aZ d g&&(d.es.zip g.es).all fun(e,f)=>aF e f)):=by
    obtain⟨_,_,_,_,_,_,_,_,Q,R,_,_⟩:=HH.out;unfold Hid;rw[R z,H,decide_eq_true hle];rfl
   have QR:=Lib.hid P_;have QA:=Lib.hid z;have Qf:=Lib.hid hle;clear H P_ z hle;go_upto_block 0 with fail
   go_cut [] (fun wz=>Hid (aZ d g=true)∧(wz.cell? ⟨w.heap.size,0,none⟩=some (.int .i64 d.k)∧wz.cell? ⟨w.heap.size,1,none⟩=some (.int .i64 d.n)∧wz.cell? ⟨w.heap.size,2,none⟩=some (.int .i64 d.m)∧wz.cell? ⟨w.heap.size,3,none⟩=some (.bool d.v)∧wz.cell? ⟨w.heap.size,4,none⟩=some (.string d.nm)∧wz.cell? ⟨w.heap.size,5,none⟩=some (.string d.tg)∧wz.cell? ⟨w.heap.size,6,none⟩=some (.slice a1 d.es.length c1))∧(wz.cell? ⟨w.heap.size+1,0,none⟩=some (.int .i64 g.k)∧wz.cell? ⟨w.heap.size+1,1,none⟩=some (.int .i64 g.n)∧wz.cell? ⟨w.heap.size+1,2,none⟩=some (.int .i64 g.m)∧wz.cell? ⟨w.heap.size+1,3,none⟩=some (.bool g.v)∧wz.cell? ⟨w.heap.size+1,4,none⟩=some (.string g.nm)∧wz.cell? ⟨w.heap.size+1,5,none⟩=some (.string g.tg)∧wz.cell? ⟨w.heap.size+1,6,none⟩=some (.slice a2 g.es.length c2))∧Up p w wz)
   case first=>
    have B:Hid (aZ d g=false→false=r):=fun h=>by rw[hR.out,h];rfl
    by_cases hc:d.k=1∨d.k=3∨d.k=9∨d.k=11
    ·have hh:aZ d g=(d.n==g.n):=by unfold aZ;rw[if_pos hc]
     cases hn:d.n==g.n
     ·have n1:(d.n !=g.n)=true:=by simp[bne,hn]
      have hF:=Lib.hid (B.out (hh.trans hn));clear hh hn B;rcases hc with hk|hk|hk|hk
      ·have s1:(d.k==1)=true:=by simp[hk]
       clear hk;go_wp2_with fail
       go_ret;exact⟨_,rfl,hF.out,A.up⟩
      ·have s1:(d.k==1)=false:=by simp[hk]
       have s3:(d.k==3)=true:=by simp[hk]
       clear hk;go_wp2_with fail
       go_ret;exact⟨_,rfl,hF.out,A.up⟩
      ·have s1:(d.k==1)=false:=by simp[hk]
       have s3:(d.k==3)=false:=by simp[hk]
       have s9:(d.k==9)=true:=by simp[hk]
       clear hk;go_wp2_with fail
       go_ret;exact⟨_,rfl,hF.out,A.up⟩
      ·have s1:(d.k==1)=false:=by simp[hk]
       have s3:(d.k==3)=false:=by simp[hk]
       have s9:(d.k==9)=false:=by simp[hk]
       have QB:(d.k==11)=true:=by simp[hk]
       clear hk;go_wp2_with fail
       go_ret;exact⟨_,rfl,hF.out,A.up⟩
     ·have n1:(d.n !=g.n)=false:=by simp[bne,hn]
      have hF:=Lib.hid (hh.trans hn);clear hh hn B;rcases hc with hk|hk|hk|hk
      ·have s1:(d.k==1)=true:=by simp[hk]
       clear hk;go_wp2_with fail
       go_meet
       exact⟨hF,⟨x0,x1,x2,x3,x4,x5,x6⟩,⟨N,X,Y,Z,y4,y5,y6⟩,A⟩
      ·have s1:(d.k==1)=false:=by simp[hk]
       have s3:(d.k==3)=true:=by simp[hk]
       clear hk;go_wp2_with fail
       go_meet
       exact⟨hF,⟨x0,x1,x2,x3,x4,x5,x6⟩,⟨N,X,Y,Z,y4,y5,y6⟩,A⟩
      ·have s1:(d.k==1)=false:=by simp[hk]
       have s3:(d.k==3)=false:=by simp[hk]
       have s9:(d.k==9)=true:=by simp[hk]
       clear hk;go_wp2_with fail
       go_meet
       exact⟨hF,⟨x0,x1,x2,x3,x4,x5,x6⟩,⟨N,X,Y,Z,y4,y5,y6⟩,A⟩
      ·have s1:(d.k==1)=false:=by simp[hk]
       have s3:(d.k==3)=false:=by simp[hk]
       have s9:(d.k==9)=false:=by simp[hk]
       have QB:(d.k==11)=true:=by simp[hk]
       clear hk;go_wp2_with fail
       go_meet
       exact⟨hF,⟨x0,x1,x2,x3,x4,x5,x6⟩,⟨N,X,Y,Z,y4,y5,y6⟩,A⟩
    have s1:(d.k==1)=false:=by simp;omega
    have s3:(d.k==3)=false:=by simp;omega
    have s9:(d.k==9)=false:=by simp;omega
    have QB:(d.k==11)=false:=by simp;omega
    by_cases hk:d.k=7
    ·have s7:(d.k==7)=true:=by simp[hk]
     have hh:aZ d g=(d.m==g.m&&d.v==g.v):=by unfold aZ;rw[if_neg hc,if_pos hk]
     cases hm:d.m==g.m
     ·have m1:(d.m !=g.m)=true:=by simp[bne,hm]
      have hF:=Lib.hid (B.out (hh.trans (by rw[hm];rfl)));clear hh hm B hk hc;go_wp2_with fail
      go_ret;exact⟨_,rfl,hF.out,A.up⟩
     have m1:(d.m !=g.m)=false:=by simp[bne,hm]
     cases hv:d.v==g.v
     ·have v1:(d.v !=g.v)=true:=by simp[bne,hv]
      have hF:=Lib.hid (B.out (hh.trans (by rw[hm,hv];rfl)));clear hh hm B hk hc;go_wp2_with fail
      go_ret;exact⟨_,rfl,hF.out,A.up⟩
     ·have v1:(d.v !=g.v)=false:=by simp[bne,hv]
      have hF:=Lib.hid (hh.trans (show(d.m==g.m&&d.v==g.v)=true by rw[hm,hv];rfl));clear hh hm B hk hc;go_wp2_with fail
      go_meet
      exact⟨hF,⟨x0,x1,x2,x3,x4,x5,x6⟩,⟨N,X,Y,Z,y4,y5,y6⟩,A⟩
    have s7:(d.k==7)=false:=by simp[hk]
    by_cases P7:d.k=5
    rotate_left
    ·have s5:(d.k==5)=false:=by simp[P7]
     have hF:Hid (aZ d g=true):=by unfold Hid aZ;rw[if_neg hc,if_neg hk,if_neg P7]
     clear B hk hc P7;go_wp2_with fail
     go_meet
     exact⟨hF,⟨x0,x1,x2,x3,x4,x5,x6⟩,⟨N,X,Y,Z,y4,y5,y6⟩,A⟩
    have s5:(d.k==5)=true:=by simp[P7]
    have hh:aZ d g=(d.es.zip g.es).all fun(e,f)=>decide (e.nm.toList=f.nm.toList)&&decide (e.tg.toList=f.tg.toList):=by unfold aZ;rw[if_neg hc,if_neg hk,if_pos P7]
    have QC:=Lib.hid hh;clear hh hc hk P7;have QD:d.es.length≤g.es.length:=Nat.le_of_eq Qf.out;have QE:g.es.length≤d.es.length:=Nat.le_of_eq Qf.out.symm;have QF:(d.es.length:Int)≤1048576:=by omega
    go_wp2_with fail
    go_loopw [71] (fun i wr=> ∃k:Nat,k≤d.es.length∧i= .int .i64 k∧(∀j(h:j<k)(h1:j<d.es.length)(h2:j<g.es.length),d.es[j].nm.toList=g.es[j].nm.toList∧d.es[j].tg.toList=g.es[j].tg.toList)∧
     (wr.cell? ⟨w.heap.size,0,none⟩=some (.int .i64 d.k)∧wr.cell? ⟨w.heap.size,1,none⟩=some (.int .i64 d.n)∧wr.cell? ⟨w.heap.size,2,none⟩=some (.int .i64 d.m)∧wr.cell? ⟨w.heap.size,3,none⟩=some (.bool d.v)∧wr.cell? ⟨w.heap.size,4,none⟩=some (.string d.nm)∧wr.cell? ⟨w.heap.size,5,none⟩=some (.string d.tg)∧wr.cell? ⟨w.heap.size,6,none⟩=some (.slice a1 d.es.length c1))∧(wr.cell? ⟨w.heap.size+1,0,none⟩=some (.int .i64 g.k)∧wr.cell? ⟨w.heap.size+1,1,none⟩=some (.int .i64 g.n)∧wr.cell? ⟨w.heap.size+1,2,none⟩=some (.int .i64 g.m)∧wr.cell? ⟨w.heap.size+1,3,none⟩=some (.bool g.v)∧wr.cell? ⟨w.heap.size+1,4,none⟩=some (.string g.nm)∧wr.cell? ⟨w.heap.size+1,5,none⟩=some (.string g.tg)∧wr.cell? ⟨w.heap.size+1,6,none⟩=some (.slice a2 g.es.length c2))∧Up p w wr) (fun i _=>d.es.length- (intOf i).toNat)
    case atStart=>exact⟨0,Nat.zero_le _,rfl,(fun j h=>by omega),⟨x0,x1,x2,x3,x4,x5,x6⟩,⟨N,X,Y,Z,y4,y5,y6⟩,A⟩
    case round=>
     clear x0 x1 x2 x3 x4 x5 x6 N X Y Z y4 y5 y6 A bl;obtain⟨k,hk,rfl,Qc,⟨x0,x1,x2,x3,x4,x5,x6⟩,⟨N,X,Y,Z,y4,y5,y6⟩,A⟩:=hrel;have bl:=World.block_lt_of_cell? _ _ N;simp only at bl;have V:=Lib.hid Qc;clear Qc;by_cases P4:k<d.es.length
     ·have G:k<g.es.length:=by omega
      have QG:(k:Int)<d.es.length:=by omega
      have Qq:(k:Int)<g.es.length:=by omega
      obtain⟨C,o1,rfl⟩:=S.list.bC (by omega);obtain⟨a5,c5,h7,Qg⟩:=S.list.get k P4;obtain⟨l,t,rfl⟩:=T.list.bC (by omega);obtain⟨a6,c6,h8,Qh⟩:=T.list.get k G;have o:Hid (¬(d.es[k].nm.toList=g.es[k].nm.toList∧d.es[k].tg.toList=g.es[k].tg.toList)→false=r):=fun h=>B.out (by
       rw[QC.out];refine rG _ P4 G ?_;simpa using h)
      have s:Hid (d.es[k].nm.toList=g.es[k].nm.toList∧d.es[k].tg.toList=g.es[k].tg.toList→∀j(h:j<k+1)(h1:j<d.es.length)(h2:j<g.es.length),d.es[j].nm.toList=g.es[j].nm.toList∧d.es[j].tg.toList=g.es[j].tg.toList):=fun h j hj h1 h2=>by
       by_cases e:j=k
       ·subst e;exact h
       ·exact V.out j (by omega) h1 h2
      obtain⟨e,he⟩:∃e,e=d.es[k]:=⟨_,rfl⟩
      obtain⟨f,hf⟩:∃f,f=g.es[k]:=⟨_,rfl⟩
      rw[←he]at h7 Qg o s;rw[←hf]at h8 Qh o s;clear he hf;obtain⟨g0,g1,g2,g3,g4,g5,g6⟩:(wr.cell? ⟨C,o1+k*7,none⟩=some (.int .i64 e.k)∧wr.cell? ⟨C,o1+k*7+1,none⟩=some (.int .i64 e.n)∧wr.cell? ⟨C,o1+k*7+2,none⟩=some (.int .i64 e.m)∧wr.cell? ⟨C,o1+k*7+3,none⟩=some (.bool e.v)∧wr.cell? ⟨C,o1+k*7+4,none⟩=some (.string e.nm)∧wr.cell? ⟨C,o1+k*7+5,none⟩=some (.string e.tg)∧wr.cell? ⟨C,o1+k*7+6,none⟩=some (.slice a5 e.es.length c5)):=h7.world A.kw;obtain⟨r0,r1,r2,r3,r4,r5,r6⟩:(wr.cell? ⟨l,t+k*7,none⟩=some (.int .i64 f.k)∧wr.cell? ⟨l,t+k*7+1,none⟩=some (.int .i64 f.n)∧wr.cell? ⟨l,t+k*7+2,none⟩=some (.int .i64 f.m)∧wr.cell? ⟨l,t+k*7+3,none⟩=some (.bool f.v)∧wr.cell? ⟨l,t+k*7+4,none⟩=some (.string f.nm)∧wr.cell? ⟨l,t+k*7+5,none⟩=some (.string f.tg)∧wr.cell? ⟨l,t+k*7+6,none⟩=some (.slice a6 f.es.length c6)):=h8.world A.kw;clear h7 h8;have ag:=A.alloc (.cells #[.int .i64 e.k,.int .i64 e.n,.int .i64 e.m,.bool e.v,.string e.nm,.string e.tg,.slice a5 e.es.length c5] 25);obtain⟨z0,z1,z2,z3,z4,z5,z6⟩:=ig wr e a5 c5 25;by_cases P5:e.nm.toList=f.nm.toList
      ·have t5:(e.nm.toList==f.nm.toList)=true:=by simp[P5]
       by_cases P8:e.tg.toList=f.tg.toList
       ·have t6:(e.tg.toList==f.tg.toList)=true:=by simp[P8]
        have hN:=Lib.hid (s.out ⟨P5,P8⟩);clear P5 P8 s o;go_wp2_with fail
        refine oR (fun W=>(W.cell? ⟨wr.heap.size,0,none⟩=some (.int .i64 e.k)∧W.cell? ⟨wr.heap.size,1,none⟩=some (.int .i64 e.n)∧W.cell? ⟨wr.heap.size,2,none⟩=some (.int .i64 e.m)∧W.cell? ⟨wr.heap.size,3,none⟩=some (.bool e.v)∧W.cell? ⟨wr.heap.size,4,none⟩=some (.string e.nm)∧W.cell? ⟨wr.heap.size,5,none⟩=some (.string e.tg)∧W.cell? ⟨wr.heap.size,6,none⟩=some (.slice a5 e.es.length c5))∧W.cell? ⟨w.heap.size+1,6,none⟩=some (.slice (some ⟨l,t,none⟩) g.es.length c2)∧(W.cell? ⟨l,t+k*7,none⟩=some (.int .i64 f.k)∧W.cell? ⟨l,t+k*7+1,none⟩=some (.int .i64 f.n)∧W.cell? ⟨l,t+k*7+2,none⟩=some (.int .i64 f.m)∧W.cell? ⟨l,t+k*7+3,none⟩=some (.bool f.v)∧W.cell? ⟨l,t+k*7+4,none⟩=some (.string f.nm)∧W.cell? ⟨l,t+k*7+5,none⟩=some (.string f.tg)∧W.cell? ⟨l,t+k*7+6,none⟩=some (.slice a6 f.es.length c6))∧Up p w W) [(0,true),(1,true),(2,true),(3,true),(4,true),(5,true),(6,true),(7,true),(8,true),(9,true),(10,true),(11,true),(12,true),(13,true),(14,true),(15,true),(16,true),(17,true),(18,true),(19,true)] oK (fun O=> ?_);repeat((first|refine oS ?_|refine oF O ?_);try simp only[Act.put,oa,ob,oc])
        refine bM ?_;go_wp2_with fail
        go_roundw
        case rel=>exact⟨k+1,by omega,by go_num,hN.out,by exact(L7.alloc (w:=wr) (b:=w.heap.size) (u:=d) ⟨x0,x1,x2,x3,x4,x5,x6⟩ _),by exact(L7.alloc (w:=wr) (b:=w.heap.size+1) (u:=g) ⟨N,X,Y,Z,y4,y5,y6⟩ _),ag.drew⟩
        case measure=>simp[intOf];omega
       ·have t6:(e.tg.toList==f.tg.toList)=false:=by simp[P8]
        have hF:=Lib.hid (o.out fun h=>P8 h.2);clear P5 P8 s o;go_wp2_with fail
        refine oR (fun W=>(W.cell? ⟨wr.heap.size,0,none⟩=some (.int .i64 e.k)∧W.cell? ⟨wr.heap.size,1,none⟩=some (.int .i64 e.n)∧W.cell? ⟨wr.heap.size,2,none⟩=some (.int .i64 e.m)∧W.cell? ⟨wr.heap.size,3,none⟩=some (.bool e.v)∧W.cell? ⟨wr.heap.size,4,none⟩=some (.string e.nm)∧W.cell? ⟨wr.heap.size,5,none⟩=some (.string e.tg)∧W.cell? ⟨wr.heap.size,6,none⟩=some (.slice a5 e.es.length c5))∧W.cell? ⟨w.heap.size+1,6,none⟩=some (.slice (some ⟨l,t,none⟩) g.es.length c2)∧(W.cell? ⟨l,t+k*7,none⟩=some (.int .i64 f.k)∧W.cell? ⟨l,t+k*7+1,none⟩=some (.int .i64 f.n)∧W.cell? ⟨l,t+k*7+2,none⟩=some (.int .i64 f.m)∧W.cell? ⟨l,t+k*7+3,none⟩=some (.bool f.v)∧W.cell? ⟨l,t+k*7+4,none⟩=some (.string f.nm)∧W.cell? ⟨l,t+k*7+5,none⟩=some (.string f.tg)∧W.cell? ⟨l,t+k*7+6,none⟩=some (.slice a6 f.es.length c6))∧Up p w W) [(0,true),(1,true),(2,true),(3,true),(4,true),(5,true),(6,true),(7,true),(8,true),(9,true),(10,true),(11,true),(12,true),(13,true),(14,true),(15,true),(16,true),(17,true),(18,true),(19,true)] oK (fun O=> ?_);repeat((first|refine oS ?_|refine oF O ?_);try simp only[Act.put,oa,ob,oc])
        refine bM ?_;go_wp2_with fail
        go_ret;exact⟨_,rfl,hF.out,ag.drew.up⟩
      ·have t5:(e.nm.toList==f.nm.toList)=false:=by simp[P5]
       have hF:=Lib.hid (o.out fun h=>P5 h.1);clear P5 s o;go_wp2_with fail
       refine oR (fun W=>(W.cell? ⟨wr.heap.size,0,none⟩=some (.int .i64 e.k)∧W.cell? ⟨wr.heap.size,1,none⟩=some (.int .i64 e.n)∧W.cell? ⟨wr.heap.size,2,none⟩=some (.int .i64 e.m)∧W.cell? ⟨wr.heap.size,3,none⟩=some (.bool e.v)∧W.cell? ⟨wr.heap.size,4,none⟩=some (.string e.nm)∧W.cell? ⟨wr.heap.size,5,none⟩=some (.string e.tg)∧W.cell? ⟨wr.heap.size,6,none⟩=some (.slice a5 e.es.length c5))∧W.cell? ⟨w.heap.size+1,6,none⟩=some (.slice (some ⟨l,t,none⟩) g.es.length c2)∧(W.cell? ⟨l,t+k*7,none⟩=some (.int .i64 f.k)∧W.cell? ⟨l,t+k*7+1,none⟩=some (.int .i64 f.n)∧W.cell? ⟨l,t+k*7+2,none⟩=some (.int .i64 f.m)∧W.cell? ⟨l,t+k*7+3,none⟩=some (.bool f.v)∧W.cell? ⟨l,t+k*7+4,none⟩=some (.string f.nm)∧W.cell? ⟨l,t+k*7+5,none⟩=some (.string f.tg)∧W.cell? ⟨l,t+k*7+6,none⟩=some (.slice a6 f.es.length c6))∧Up p w W) [(0,true),(1,true),(2,true),(3,true),(4,true),(5,true),(6,true),(7,true),(8,true),(9,true),(10,true),(11,true),(12,true),(13,true),(14,true),(15,true),(16,true),(17,true),(18,true),(19,true)] oK (fun O=> ?_);repeat((first|refine oS ?_|refine oF O ?_);try simp only[Act.put,oa,ob,oc])
       refine bM ?_;go_wp2_with fail
       go_ret;exact⟨_,rfl,hF.out,ag.drew.up⟩
     ·have hF:Hid (aZ d g=true):=by
       unfold Hid;rw[QC.out,jj];intro i h1 h2;simpa using V.out i (by omega) h1 h2
      go_wp2_with fail
      go_meet
      exact⟨hF,⟨x0,x1,x2,x3,x4,x5,x6⟩,⟨N,X,Y,Z,y4,y5,y6⟩,A⟩
   case rest=>
    clear x0 x1 x2 x3 x4 x5 x6 N X Y Z y4 y5 y6 A bl;obtain⟨hH,⟨x0,x1,x2,x3,x4,x5,x6⟩,⟨N,X,Y,Z,y4,y5,y6⟩,A⟩:=hcut;have bl:=World.block_lt_of_cell? _ _ N;simp only at bl;have QH:Hid (r=(d.es.zip g.es).all fun(e,f)=>aF e f):=by unfold Hid;rw[hR.out,hH.out];rfl
    have QD:d.es.length≤g.es.length:=Nat.le_of_eq Qf.out;have QE:g.es.length≤d.es.length:=Nat.le_of_eq Qf.out.symm;have QF:(d.es.length:Int)≤1048576:=by omega
    go_wp2_with fail
    go_loopw [100] (fun i wr=> ∃k:Nat,k≤d.es.length∧i= .int .i64 k∧(∀j(h:j<k)(h1:j<d.es.length)(h2:j<g.es.length),aF d.es[j] g.es[j]=true)∧
     (wr.cell? ⟨w.heap.size+1,0,none⟩=some (.int .i64 g.k)∧wr.cell? ⟨w.heap.size+1,1,none⟩=some (.int .i64 g.n)∧wr.cell? ⟨w.heap.size+1,2,none⟩=some (.int .i64 g.m)∧wr.cell? ⟨w.heap.size+1,3,none⟩=some (.bool g.v)∧wr.cell? ⟨w.heap.size+1,4,none⟩=some (.string g.nm)∧wr.cell? ⟨w.heap.size+1,5,none⟩=some (.string g.tg)∧wr.cell? ⟨w.heap.size+1,6,none⟩=some (.slice a2 g.es.length c2))∧Up p w wr) (fun i _=>d.es.length- (intOf i).toNat)
    case atStart=>exact⟨0,Nat.zero_le _,rfl,(fun j h=>by omega),⟨N,X,Y,Z,y4,y5,y6⟩,A⟩
    case round=>
     clear x0 x1 x2 x3 x4 x5 x6 N X Y Z y4 y5 y6 A bl;obtain⟨k,hk,rfl,Qc,⟨N,X,Y,Z,y4,y5,y6⟩,A⟩:=hrel;have bl:=World.block_lt_of_cell? _ _ N;simp only at bl;have V:=Lib.hid Qc;clear Qc;by_cases P4:k<d.es.length
     ·have G:k<g.es.length:=by omega
      have QG:(k:Int)<d.es.length:=by omega
      have Qq:(k:Int)<g.es.length:=by omega
      obtain⟨C,o1,rfl⟩:=S.list.bC (by omega);obtain⟨a5,c5,h7,Qg⟩:=S.list.get k P4;obtain⟨l,t,rfl⟩:=T.list.bC (by omega);obtain⟨a6,c6,h8,Qh⟩:=T.list.get k G;have hC:Hid (∀q,ji q D dc d.es[k] g.es[k]):=by
       obtain⟨E,F,I,J,L,M,P6,ih,_⟩:=HH.out;have p1:=E.part k P4;have p2:=F.part k G;have QI:d.k≠12∧d.k≠13:=E.form.aB;have QJ:g.k≠12∧g.k≠13:=F.form.aB;have e1:aS d k=0:=by unfold aS;rw[if_neg QI.1,if_neg (fun h=>QA.out h.1)]
       have e2:aS g k=0:=by unfold aS;rw[if_neg QJ.1,if_neg (fun h=>QA.out (by rw[QR.out];exact h.1))]
       rw[e1]at p1;rw[e2]at p2;have n1:=p1.form.aB;have n2:=p2.form.aB;have m1:=List.getElem_mem P4;have m2:=List.getElem_mem G;exact fun q=>ih _ (Nat.lt_of_lt_of_le (U.az m1) P6) _ _ _ _ _ p1 eG n1.1 n1.2 p2 eG n2.1 n2.2 (I.es m1) (J.es m2) (L.es m1).2 (M.es m2).2 q
      have o:Hid (aF d.es[k] g.es[k]=false→false=r):=fun h=>by rw[QH.out];exact(rG _ P4 G h).symm
      have s:Hid (aF d.es[k] g.es[k]=true→∀j(h:j<k+1)(h1:j<d.es.length)(h2:j<g.es.length),aF d.es[j] g.es[j]=true):=fun h j hj h1 h2=>by
       by_cases e:j=k
       ·subst e;exact h
       ·exact V.out j (by omega) h1 h2
      obtain⟨e,he⟩:∃e,e=d.es[k]:=⟨_,rfl⟩
      obtain⟨f,hf⟩:∃f,f=g.es[k]:=⟨_,rfl⟩
      rw[←he]at h7 Qg o s hC;rw[←hf]at h8 Qh o s hC;clear he hf;have hI:=Lib.hid fun W (hW:KW p W)=>hC.out p a5 c5 a6 c6 W Qg Qh hW;clear hC;obtain⟨g0,g1,g2,g3,g4,g5,g6⟩:(wr.cell? ⟨C,o1+k*7,none⟩=some (.int .i64 e.k)∧wr.cell? ⟨C,o1+k*7+1,none⟩=some (.int .i64 e.n)∧wr.cell? ⟨C,o1+k*7+2,none⟩=some (.int .i64 e.m)∧wr.cell? ⟨C,o1+k*7+3,none⟩=some (.bool e.v)∧wr.cell? ⟨C,o1+k*7+4,none⟩=some (.string e.nm)∧wr.cell? ⟨C,o1+k*7+5,none⟩=some (.string e.tg)∧wr.cell? ⟨C,o1+k*7+6,none⟩=some (.slice a5 e.es.length c5)):=h7.world A.kw;obtain⟨r0,r1,r2,r3,r4,r5,r6⟩:(wr.cell? ⟨l,t+k*7,none⟩=some (.int .i64 f.k)∧wr.cell? ⟨l,t+k*7+1,none⟩=some (.int .i64 f.n)∧wr.cell? ⟨l,t+k*7+2,none⟩=some (.int .i64 f.m)∧wr.cell? ⟨l,t+k*7+3,none⟩=some (.bool f.v)∧wr.cell? ⟨l,t+k*7+4,none⟩=some (.string f.nm)∧wr.cell? ⟨l,t+k*7+5,none⟩=some (.string f.tg)∧wr.cell? ⟨l,t+k*7+6,none⟩=some (.slice a6 f.es.length c6)):=h8.world A.kw;clear h7 h8;have ag:=A.alloc (.cells #[.int .i64 e.k,.int .i64 e.n,.int .i64 e.m,.bool e.v,.string e.nm,.string e.tg,.slice a5 e.es.length c5] 25);obtain⟨z0,z1,z2,z3,z4,z5,z6⟩:=ig wr e a5 c5 25;go_wp2_with fail
      refine oR (fun W=>(W.cell? ⟨wr.heap.size,0,none⟩=some (.int .i64 e.k)∧W.cell? ⟨wr.heap.size,1,none⟩=some (.int .i64 e.n)∧W.cell? ⟨wr.heap.size,2,none⟩=some (.int .i64 e.m)∧W.cell? ⟨wr.heap.size,3,none⟩=some (.bool e.v)∧W.cell? ⟨wr.heap.size,4,none⟩=some (.string e.nm)∧W.cell? ⟨wr.heap.size,5,none⟩=some (.string e.tg)∧W.cell? ⟨wr.heap.size,6,none⟩=some (.slice a5 e.es.length c5))∧(W.cell? ⟨w.heap.size+1,0,none⟩=some (.int .i64 g.k)∧W.cell? ⟨w.heap.size+1,1,none⟩=some (.int .i64 g.n)∧W.cell? ⟨w.heap.size+1,2,none⟩=some (.int .i64 g.m)∧W.cell? ⟨w.heap.size+1,3,none⟩=some (.bool g.v)∧W.cell? ⟨w.heap.size+1,4,none⟩=some (.string g.nm)∧W.cell? ⟨w.heap.size+1,5,none⟩=some (.string g.tg)∧W.cell? ⟨w.heap.size+1,6,none⟩=some (.slice (some ⟨l,t,none⟩) g.es.length c2))∧(W.cell? ⟨l,t+k*7,none⟩=some (.int .i64 f.k)∧W.cell? ⟨l,t+k*7+1,none⟩=some (.int .i64 f.n)∧W.cell? ⟨l,t+k*7+2,none⟩=some (.int .i64 f.m)∧W.cell? ⟨l,t+k*7+3,none⟩=some (.bool f.v)∧W.cell? ⟨l,t+k*7+4,none⟩=some (.string f.nm)∧W.cell? ⟨l,t+k*7+5,none⟩=some (.string f.tg)∧W.cell? ⟨l,t+k*7+6,none⟩=some (.slice a6 f.es.length c6))∧Up p w W) [(0,true),(1,true),(2,true),(3,true),(4,true),(5,true),(6,true),(7,false),(8,true)] oK (fun O=> ?_);repeat(first|(refine oS ?_;try simp only[Act.put,oa,ob,oc])|(refine oF O ?_;try simp only[Act.put,oa,ob,oc])|(refine oL fun K hK=> ?_;go_simp;(go_at_call 164;(with_reducible refine(hI.out _ (Up.kw (by first|assumption|exact ag.drew))).mono ?_);rintro e1 w3 ⟨b,rfl,hb,aa⟩;(try simp only[]);refine hK _ _ oK fun O=> ?_;clear hK K;try simp only[Act.put,oa,ob,oc])))
      refine bM ?_;obtain⟨_,⟨v0,v1,v2,v3,v4,v5,v6⟩,_,QK⟩:=O;cases b
      ·have hF:=Lib.hid (o.out hb.out.symm)
       clear hb aa s o;go_wp2_with fail
       go_ret;exact⟨_,rfl,hF.out,QK.up⟩
      ·have hN:=Lib.hid (s.out hb.out.symm)
       clear hb aa s o;go_wp2_with fail
       go_roundw
       case rel=>exact⟨k+1,by omega,by go_num,hN.out,⟨v0,v1,v2,v3,v4,v5,v6⟩,QK⟩
       case measure=>simp[intOf];omega
     ·have hF:Hid (true=r):=by
       unfold Hid;rw[QH.out];symm;rw[jj];intro i h1 h2;exact V.out i (by omega) h1 h2
      have hB:=A.up;go_wp2_with fail
      go_ret;exact⟨_,rfl,hF.out,hB⟩
end Go.Proofs.YtkfaiocajcjomaaGreatDoor
