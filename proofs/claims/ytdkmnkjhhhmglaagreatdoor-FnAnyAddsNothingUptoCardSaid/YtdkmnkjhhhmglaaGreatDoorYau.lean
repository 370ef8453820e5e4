import Derived.Deep.CutBlock
import Derived.RegionTactic
import Derived.Test.YtdkmnkjhhhmglaaGreatDoorYao
import Derived.Test.YtdkmnkjhhhmglaaGreatDoorYaq
import Derived.Test.YtdkmnkjhhhmglaaGreatDoorYar
set_option maxRecDepth 100000
set_option maxHeartbeats 8000000
set_option linter.all false
namespace Go.Proofs.YtdkmnkjhhhmglaaGreatDoor
open Go.RowKit TS
theorem oi(x y:R3):ltOf gR x y=bC x.1 y.1:=by
 unfold ltOf gR;cases bC x.1 y.1<;>rfl
theorem Ae:Sort.SWO (ltOf gR) where
 irrefl x:=by rw[oi];exact gA _
 trans x y z h k:=by rw[oi]at*;exact im h k
 ntrans x y z h k:=by
  rw[oi]at*;cases a:bC x.1 z.1
  ·rfl
  ·cases b:bC y.1 x.1
   ·have e:=fE.1 (kX h b)
    unfold bC at*;rw[e,k]at a;cases a
   ·have:=im b a;rw[this]at k;cases k
theorem Af{enc:R3→List Value}{k g n:Nat}{d:Array R3}{os:Array Obj}{B:Nat}{a W:World}(h:Below B a W)(e:B≤g)(f:B≤W.heap.size):Below B a (sortWorldK enc k W g 0 n d os):=by
 refine⟨h.os,h.tape,h.output,?_,fun b c=> ?_⟩
 ·unfold sortWorldK
  rw[Sort.size_grow,Sort.size_putRowK];exact Nat.le_trans h.size (Nat.le_add_right _ _)
 ·rw[←h.block b c]
  unfold sortWorldK;rw[Sort.heap_grow_old _ _ (by rw[Sort.size_putRowK];show b<W.heap.size;omega)];unfold Sort.putRowK Sort.putRow Sort.mapBlock;simp only[Sort.ahead];rw[Array.getElem?_modify,if_neg (by omega)]
theorem t_(L:List R3)(j:Nat)(u:Value)(h:(cP L)[j]?=some u):(Sort.flatK b8 7 L.toArray)[j]! =u∧j<(Sort.flatK b8 7 L.toArray).size:=by
 have b:j<L.length*7:=by rw[←nS];exact(List.getElem?_eq_some_iff.1 h).1
 have a:j / 7<L.length:=by omega
 have hr:j % 7<7:=Nat.mod_lt _ (by decide);have:=tA L (j / 7) (j % 7) a hr;rw[show j / 7*7+j % 7=j by omega,h]at this;refine⟨?_,by simp;omega⟩;rw[Sort.get_flatK _ _ _ _ (by simpa using b)];rw[getElem!_pos L.toArray (j / 7) (by simpa using a)];have e:(b8 L[j / 7])[j % 7]?=some u:=this.symm;obtain⟨h1,h2⟩:=List.getElem?_eq_some_iff.1 e;rw[show L.toArray[j / 7]=L[j / 7] by simp,getElem!_pos (b8 L[j / 7]) (j % 7) h1,h2]
theorem Ag{p q:Pm}{D:Dl}{NS:List (List UInt8)}{w wr:World}{v:Value}{L:List R3}(h:Own p q D NS w wr v L)
 (oj:∀(r cap:Nat)(d:Array R3)(W:World),Sort.HoldsK b8 7 W r 0 d→r<W.heap.size→d.size<4611686018427387904→
  Calls Tryz.prog 154 #[.slice (some ⟨r,0,none⟩) d.size cap,.func (.func 155) #[] #[]] W fun e k=>
   e= .returned (.tuple #[])∧∃d' n os,Sort.PermIn 0 d.size d d'∧Sort.SortedIn (ltOf gR) 0 d.size d'∧k=sortWorldK b8 7 W r 0 n d' os)
 (s:∀(a:Option Addr)(cap:Nat)(W:World),Calls Tryz.prog 154 #[.slice a 0 cap,.func (.func 155) #[] #[]] W fun e k=>e= .returned (.tuple #[])∧k=W)
 (hl:L.length≤1048576):
 ∃a n c,v= .slice a n c∧n=(b7 (a7 L)).length∧Calls Tryz.prog 154 #[v,.func (.func 155) #[] #[]] wr fun e k=>
  e= .returned (.tuple #[])∧∃t,aP p t w.heap.size∧KW t k∧aj t D (b7 (a7 L)) a∧Below w.heap.size w k:=by
 have hlen:(b7 (a7 L)).length=L.length:=by unfold b7;rw[List.length_mergeSort,mq]
 rcases Nat.eq_zero_or_pos L.length with B|B
 ·have hL:L= []:=List.length_eq_zero_iff.1 B
  have key:∀a c,v= .slice a 0 c→(∀x,a=some x→x.spot=none)→∃a n c,v= .slice a n c∧n=(b7 (a7 L)).length∧Calls Tryz.prog 154 #[v,.func (.func 155) #[] #[]] wr fun e k=>
   e= .returned (.tuple #[])∧∃t,aP p t w.heap.size∧KW t k∧aj t D (b7 (a7 L)) a∧Below w.heap.size w k:=fun a c l K=>by
   refine⟨a,0,c,l,by rw[hlen,B],?_⟩;rw[l];refine(s a c wr).mono ?_;rintro e k ⟨rfl,rfl⟩;exact⟨rfl,q,h.gr,h.kw,by rw[hL,show b7 (a7 [])= [] by simp[a7,b7]];exact aj.iR K,h.up⟩
  rcases h.own.2 with⟨l,_⟩|⟨g,cap,cur,l,_⟩
  ·exact key none 0 l fun x C=>by cases C
  ·rw[B]at l
   exact key (some ⟨g,0,none⟩) cap l fun x C=>by cases C;rfl
 ·obtain⟨g,cap,l,X,Y,hn,hc,y,M⟩:=k_ h.own B
  have N:=h.aJ g (by rw[l];rfl);have hH:Sort.HoldsK b8 7 wr g 0 L.toArray:=fun j J=>by
   have z:j<(cP L).length:=by rw[nS];simpa using J
   obtain⟨O,_⟩:=t_ L j _ (List.getElem?_eq_getElem z);rw[Nat.zero_add,O];exact⟨y j _ (List.getElem?_eq_getElem z),M j z⟩
  refine⟨some ⟨g,0,none⟩,L.length,cap,l,hlen.symm,?_⟩;rw[l];have Z:=oj g cap L.toArray wr hH Y (by simp;omega);simp only[List.size_toArray]at Z;refine Z.mono ?_;rintro e k ⟨rfl,d',n,os,hp,K,rfl⟩;obtain⟨f,rfl⟩:∃f:List R3,d'=f.toArray:=⟨d'.toList,by simp⟩
  have E:f.length=L.length:=by have:=hp.1;simpa using this
  have m:f.Perm L:=by
   have:=hp.2.2;have e:List.take L.length f=f:=List.take_of_length_le (by omega);simpa [E,List.extract_eq_take_drop,e]using this
  have P:=holdsK_sortWorldK_c b8 7 wr g 0 L.toArray f.toArray n os hH Y (by simpa using E);have F:(a7 L).Perm (a7 f):=(m.map _).symm;have G:dG (a7 f):=F.pairwise h.two fun{a b} A=>by rw[pV];exact A
  have H:dF (a7 f):=by
   have Q:(a7 f).Pairwise fun a b=>bC b a=false:=by
    rw[List.pairwise_iff_getElem];intro i j hi J R;rw[mq]at hi J;have:=K i j (Nat.zero_le _) R (by omega);rw[oi]at this;simpa [a7,getElem!_pos,hi,J]using this
   exact(Q.and G).imp fun{a b} ⟨h1,h2⟩=>by
    cases A:bC a b
    ·have:=kX A h1;rw[this]at h2;cases h2
    ·rfl
  have heq:a7 f=b7 (a7 L):=pX h.two F H;have I:fV q D f:=fun x C=>h.all x (m.subset C);have S:Below w.heap.size w (sortWorldK b8 7 wr g 0 n f.toArray os):=Af h.up X h.up.size;have T:KW q (sortWorldK b8 7 wr g 0 n f.toArray os):=fun b o u hu=>by
   have hb:=h.kw.lt hu;have U:b≠g:=fun e=>by rw[e,N o]at hu;cases hu
   unfold sortWorldK;rw[Sort.cell?_grow _ _ _ (by rw[Sort.size_putRowK];exact hb),Sort.cell?_putRowK_other _ _ _ _ _ _ _ U];exact h.kw b o u hu
  refine⟨rfl,q.add g (cP f).toArray,h.gr.trans (Pm.dC N X) (Nat.le_refl _),T.add fun o u hu=> ?_,?_,S⟩
  ·have V:(cP f)[o]?=some u:=by simpa using hu
   obtain⟨O,e2⟩:=t_ f o u V;have:=(P o e2).1;rw[Nat.zero_add,O]at this;exact this
  ·rw[←heq]
   refine p_ (I.sub (Pm.dj N)) fun j u hu=> ?_;rw[Nat.zero_add,Pm.aX];simpa using hu
theorem Ah(a off size:Nat)(w:World):CmpLays Tryz.prog 155 #[] b8 7 gR a off size w:=
 fun m os dk _ x y=>Ab x.1 y.1 x.2.1 y.2.1 x.2.2 y.2.2 _
theorem Ai:∀w,(isAgg 25).run Tryz.prog w= .ok true w:=fun _=>by kernel_rfl
theorem Aj:∀w,(Go.sizeOf 25).run Tryz.prog w= .ok 7 w:=fun _=>by kernel_rfl
theorem Ak:tW:=fun p q D NS w wr v L h e=>by
 refine Ag h ?_ ?_ e
 ·intro b cap d W hH f g
  have i:∀args w,(callFunc 155 args).run Tryz.prog w= .ok (.enter 155 args) w:=ep Tryz.func155 (by kernel_rfl) rfl;exact AnyQ.slices_SortFunc Tryz.oj 7 Ai Aj b8 (fun _=>rfl) (fun x v c=>by simp only[b8,List.mem_cons,List.not_mem_nil,or_false]at c;rcases c with rfl|rfl|rfl|rfl|rfl|rfl|rfl<;>rfl) gR Ae 155 #[] b 0 cap d W i (Ah _ _ _ _) hH f g
 ·intro a cap W
  exact AnyF.slices_SortFunc_none (P:=Tryz.prog) (ρ:=Tryz.ud) {Tryz.oj with} a cap _ W
theorem mw(D:Dl)(dc:Nat)(NS:List (List UInt8))(a:NS.length≤1048576)(u:U):tZ D dc NS u:=Ad Ak D dc NS a u
end Go.Proofs.YtdkmnkjhhhmglaaGreatDoor
namespace TS
open Go Go.RowKit
theorem Pl.jx{len:Nat}{u:U}{pos f:Nat}(h:Pl len u pos f)(m:f≤2)(hk:u.k=10):∃j,j≤2∧j≠0∧Pl len u 0 j:=by
 by_cases l:f=0
 ·subst l
  refine⟨1,by omega,by omega,?_⟩;rw[Pl];refine⟨?_,fun i hi=> ?_,fun n=>by omega⟩
  ·have hF:=h.form.ig (by omega) (by omega) 0
   cases hF with
   |iface a b c d e g=>exact .iface a b c d e g
   |pre a _=>omega
   |one a _ _=>omega
   |ptr a _ _ _=>omega
   |_=>omega
  ·have:=h.part i hi
   rwa [show aN u i 1=aN u i 0 by unfold aN;simp[hk]]
 ·exact⟨f,m,l,h.ig (by omega) (by omega) 0⟩
theorem Pl.cv{len:Nat}:∀{u:U}{pos f:Nat},Pl len u pos f→f≤2→f≠0→u.k≠12→u.k≠13→∀m∈ai u,m.k=7∧∃d,d≤2∧Pl len m 0 d:=by
 intro u;induction u using U.bg with
 |_ u ih=>
  intro pos f h o g i j m hm;obtain⟨d,p,n,b,_,_⟩:=h.under o g i j;obtain⟨c,hm⟩:=iu hm;rcases hm with hm|⟨e,he,a,hm⟩
  ·have:=b.ju c hm
   exact⟨this.1,_,by split<;>omega,this.2.2⟩
  ·have l:=b.elem c he
   have h1:=U.az (List.mem_of_mem_drop he);have h2:=dE u;unfold aQ at a;simp only[Bool.and_eq_true,bne_iff_ne,ne_eq]at a;exact ih e (by omega) l (by omega) (by omega) a.1.1 a.1.2 m hm
end TS
namespace Go.Proofs.YtdkmnkjhhhmglaaGreatDoor
open Go.RowKit TS
theorem Am(p:Pm)(D:Dl)(dc:Nat)(NS:List (List UInt8))(h:NS.length≤1048576)(x y:U)(px H py I:Nat)(a:Option Addr)(c:Nat)(a':Option Addr)(c':Nat)(w:World)
 (i:Pl D.len x px H)(z:H≤2)(e:H≠0)(PM:x.k=10)(j:Pl D.len y py I)(A:I≤2)(g:I≠0)(PN:y.k=10)(J:aZ x=false)(L:aZ y=false)(B:Names NS x)(C:Names NS y)
 (M:ak p D x a c)(N:ak p D y a' c')(hw:KW p w)(hI:∀f∈ai x,∀m∈ai y,∀q,kk q D dc f m):
 Calls Tryz.prog 110 #[.slice D.a D.len dc,.agg #[.int .i64 x.k,.int .i64 x.n,.int .i64 x.m,.bool x.v,.string x.nm,.string x.tg,.slice a x.es.length c],.agg #[.int .i64 y.k,.int .i64 y.n,.int .i64 y.m,.bool y.v,.string y.nm,.string y.tg,.slice a' y.es.length c']] w (RB (decide ((ai x).length=(ai y).length)&&hasB (ai x) (ai y)) w):=by
 have ag:Up p w ((w.alloc (.cells #[.int .i64 x.k,.int .i64 x.n,.int .i64 x.m,.bool x.v,.string x.nm,.string x.tg,.slice a x.es.length c] 25)).alloc (.cells #[.int .i64 y.k,.int .i64 y.n,.int .i64 y.m,.bool y.v,.string y.nm,.string y.tg,.slice a' y.es.length c'] 25)):=((Up.refl hw).alloc _).alloc _;have O:=fun W l=>aW (mn D dc x p px H a c W i z e (by omega) (by omega) M l) J;have P:=fun W l=>aW (mn D dc y p py I a' c' W j A g (by omega) (by omega) N l) L;have Q:=fun W (l:KW p W)=>mw D dc NS h x p px H a c W i z e (by omega) (by omega) B M l;have R:=Lib.hid fun(q:Pm) W (hs:Sub p q) (l:KW q W)=>mw D dc NS h y q py I a' c' W j A g (by omega) (by omega) C (ak.sub hs _ N) l;have PO:(ai x).length≤1048576:=Nat.le_trans (iT (lk i z e (by omega) (by omega)).noTwo fun m hm=>(B.cv m hm).1) h;have PQ:(ai y).length≤1048576:=Nat.le_trans (iT (lk j A g (by omega) (by omega)).noTwo fun m hm=>(C.cv m hm).1) h;generalize ai x=E at*;generalize ai y=F at*;have PR:=Lib.hid hI;clear hI i j PM PN B C J L;go_enter Tryz.func110,Tryz.ntmps110;go_wp2_with fail
 refine(O _ ag.kw).mono ?_;rintro o w1 ⟨rfl,aa⟩;have G:=ag.step aa;obtain⟨x0,x1,x2,x3,x4,x5,x6⟩:TS.L7 w1 w.heap.size x a c:=by
  repeat' apply And.intro
  all_goals exact cell_kept aa (by first|(simp[go_sem];done)|(go_keep;done))
 obtain⟨y0,y1,y2,y3,y4,y5,y6⟩:TS.L7 w1 (w.heap.size+1) y a' c':=by
  repeat' apply And.intro
  all_goals exact cell_kept aa (by first|(simp[go_sem];done)|(go_keep;done))
 clear aa O;go_wp2_with fail
 refine(P _ G.kw).mono ?_;rintro o w2 ⟨rfl,aa⟩;have PS:=G.step aa;clear ag;have ag:=PS;obtain⟨u0,u1,u2,u3,u4,u5,u6⟩:TS.L7 w2 w.heap.size x a c:=by
  repeat' apply And.intro
  all_goals exact cell_kept aa (by assumption)
 obtain⟨v0,v1,v2,v3,v4,v5,v6⟩:TS.L7 w2 (w.heap.size+1) y a' c':=by
  repeat' apply And.intro
  all_goals exact cell_kept aa (by assumption)
 clear aa G P x0 x1 x2 x3 x4 x5 x6 y0 y1 y2 y3 y4 y5 y6;go_wp2_with fail
 refine oR (fun W=>(W.cell? ⟨w.heap.size,0,none⟩=some (.int .i64 x.k)∧W.cell? ⟨w.heap.size,1,none⟩=some (.int .i64 x.n)∧W.cell? ⟨w.heap.size,2,none⟩=some (.int .i64 x.m)∧W.cell? ⟨w.heap.size,3,none⟩=some (.bool x.v)∧W.cell? ⟨w.heap.size,4,none⟩=some (.string x.nm)∧W.cell? ⟨w.heap.size,5,none⟩=some (.string x.tg)∧W.cell? ⟨w.heap.size,6,none⟩=some (.slice a x.es.length c))∧(W.cell? ⟨w.heap.size+1,0,none⟩=some (.int .i64 y.k)∧W.cell? ⟨w.heap.size+1,1,none⟩=some (.int .i64 y.n)∧W.cell? ⟨w.heap.size+1,2,none⟩=some (.int .i64 y.m)∧W.cell? ⟨w.heap.size+1,3,none⟩=some (.bool y.v)∧W.cell? ⟨w.heap.size+1,4,none⟩=some (.string y.nm)∧W.cell? ⟨w.heap.size+1,5,none⟩=some (.string y.tg)∧W.cell? ⟨w.heap.size+1,6,none⟩=some (.slice a' y.es.length c'))∧Up p w W) [(0,true),(1,true),(3,true),(4,true),(2,false),(5,false),(6,true),(7,true)] oK (fun d=> ?_);repeat(first|(refine oS ?_;try simp only[Act.put,oa,ob,oc])|(refine oF d ?_;try simp only[Act.put,oa,ob,oc])|(refine oL fun K Y=> ?_;go_simp;first|(go_at_call 107;(with_reducible refine(Q _ (Up.kw (by first|assumption|exact ag.drew))).mono ?_);rintro o w3 ⟨q1,a1,n1,c1,rfl,r,PT,PU,S,aa⟩;clear Q;(try simp only[]);refine Y _ _ oK fun d=> ?_;clear Y K;try simp only[Act.put,oa,ob,oc])|(go_at_call 107;(with_reducible refine(R.out q1 _ PT.le PU).mono ?_);rintro o w4 ⟨q2,a2,n2,c2,rfl,s,PV,PW,T,PX⟩;have aa:=PX;obtain⟨⟨s0,s1,s2,s3,s4,s5,s6⟩,⟨r0,r1,r2,r3,r4,r5,r6⟩,sU⟩:=d;clear R;(try simp only[]);refine Y _ _ oK fun d=> ?_;clear Y K;try simp only[Act.put,oa,ob,oc])))
 refine ch ?_;have V:=d.2.2;have u:=aj.sub PV.le _ S;have hA:=fun W (l:KW q2 W)=>uh q2 D dc E F a1 n1 c1 a2 n2 c2 W r.out s.out PO PQ u T l fun f hf m hm=>PR.out f hf m hm q2;clear d S T u;have o:=r.out;have Z:=s.out;by_cases he:E.length=F.length
 ·have t:((n1:Int)==n2)=true:=by rw[o,Z,he];simp
  have hF:Hid (hasB E F=(decide (E.length=F.length)&&hasB E F)):=by unfold Hid;rw[decide_eq_true he];rfl
  clear o Z he r s;go_wp2_with fail
  refine(hA _ PW).mono ?_;rintro o w6 ⟨b,rfl,hb,X⟩;have hB:=(V.step X).up;clear X hA;go_wp2_with fail
  go_ret;exact⟨_,rfl,hb.out.trans hF.out,hB⟩
 ·have t:((n1:Int)==n2)=false:=by rw[o,Z];simp;omega
  have hF:Hid (false=(decide (E.length=F.length)&&hasB E F)):=by unfold Hid;rw[decide_eq_false he];rfl
  clear o Z he r s hA;go_wp2_with fail
  go_ret;exact⟨_,rfl,hF.out,V.up⟩
end Go.Proofs.YtdkmnkjhhhmglaaGreatDoor
namespace Go.Proofs.YtdkmnkjhhhmglaaGreatDoor
open Go.RowKit TS
theorem iC{α β:Type}{l:List α}{r:List β}(f:α×β→Bool):(l.zip r).all f=true↔∀i(h:i<l.length)(c:i<r.length),f (l[i],r[i])=true:=by
 rw[List.all_eq_true];constructor
 ·intro h i hi a
  refine h _ ?_;have:i<(l.zip r).length:=by simp;omega
  rw[show(l[i],r[i])=(l.zip r)[i] by simp];exact List.getElem_mem this
 ·intro h x b
  obtain⟨i,hi,rfl⟩:=List.getElem_of_mem b;simp at hi;rw[List.getElem_zip];exact h i (by omega) (by omega)
theorem ui{α β:Type}{l:List α}{r:List β}(f:α×β→Bool){i:Nat}(h:i<l.length)(b:i<r.length)(a:f (l[i],r[i])=false):(l.zip r).all f=false:=by
 rw[Bool.eq_false_iff];intro ha;rw[iC]at ha;rw[ha i h b]at a;cases a
theorem qD{p:Pm}{w W:World}(hw:KW p w)(h:Below w.heap.size w W):Up p w W:=⟨hw.grown h,h⟩
def uj(D:Dl)(dc:Nat)(NS:List (List UInt8))(x:U):Prop:=
 ∀(y:U)(c a d b:Nat),Pl D.len x c a→a≤2→x.k≠12→x.k≠13→Pl D.len y d b→b≤2→y.k≠12→y.k≠13→aR x→aR y→Names NS x→Names NS y→∀p,kk p D dc x y
theorem An(D:Dl)(dc:Nat)(NS:List (List UInt8))(C:NS.length≤1048576)(x c b:U)(M N:Nat)(ih:∀O,O.sz<x.sz→uj D dc NS O)(P:c.sz≤x.sz)
 (r:Pl D.len c 0 M)(E:M≤2)(s:Pl D.len b 0 N)(F:N≤2)(d:aR c)(g:aR b)(h:Names NS c)(i:Names NS b)(t:c.k=10)(o:b.k=10)
 (p:Pm)(G:Option Addr)(c1:Nat)(a2:Option Addr)(c2:Nat)(H:ak p D c G c1)(I:ak p D b a2 c2)(W:World)(Q:KW p W):
 Calls Tryz.prog 110 #[.slice D.a D.len dc,.agg #[.int .i64 c.k,.int .i64 c.n,.int .i64 c.m,.bool c.v,.string c.nm,.string c.tg,.slice G c.es.length c1],.agg #[.int .i64 b.k,.int .i64 b.n,.int .i64 b.m,.bool b.v,.string b.nm,.string b.tg,.slice a2 b.es.length c2]] W (RB (b.k==10&&(!aZ c&& !aZ b&&decide ((ai c).length=(ai b).length)&&hasB (ai c) (ai b))) W):=by
 obtain⟨f1,u,j,w⟩:=r.jx E t;obtain⟨f2,y,l,z⟩:=s.jx F o;have:=Am p D dc NS C c b 0 f1 0 f2 G c1 a2 c2 W w u j t z y l o d.gen g.gen h i H I Q (fun f B m hm q=>by
  obtain⟨T,V,J,K⟩:=w.cv u j (by omega) (by omega) f B;obtain⟨R,S,A,L⟩:=z.cv y l (by omega) (by omega) m hm;have:=iv B;exact ih f (by omega) m _ _ _ _ K J (by omega) (by omega) L A (by omega) (by omega) (d.cv B) (g.cv hm) (h.cv f B).2 (i.cv m hm).2 q)
 have e:(b.k==10&&(!aZ c&& !aZ b&&decide ((ai c).length=(ai b).length)&&hasB (ai c) (ai b)))=(decide ((ai c).length=(ai b).length)&&hasB (ai c) (ai b)):=by
  rw[d.gen,g.gen,show(b.k==10)=true by simp[o]];rfl
 rw[e];exact this
theorem mz(D:Dl)(dc:Nat)(NS:List (List UInt8))(Qw:NS.length≤1048576):∀x,uj D dc NS x:=by
 intro x;induction x using U.bg with
 |_ x ih=>
  intro y px fx py fy PY O P3 P4 PZ PM P5 P6 Qc Qd Qe Qf p a c a' c' w Qg Qh hw;have P7:=fun W hk=>nX p D x px fx a c W PY Qg hk;have P8:=fun W hk=>nX p D y py fy a' c' W PZ Qh hk;obtain⟨C,Qx,Qi,PQ⟩:=PY.bare O P3 P4;obtain⟨E,Qy,Qj,Qz⟩:=PZ.bare PM P5 P6;have H:=Qc.bare PY;have I:=Qd.bare PZ;have J:=Qe.bare;have L:=Qf.bare;have P:= @kc x y;have Q:= @kd x y;generalize aB x y=r at*;have ag:Up p w ((w.alloc (.cells #[.int .i64 x.k,.int .i64 x.n,.int .i64 x.m,.bool x.v,.string x.nm,.string x.tg,.slice a x.es.length c] 25)).alloc (.cells #[.int .i64 y.k,.int .i64 y.n,.int .i64 y.m,.bool y.v,.string y.nm,.string y.tg,.slice a' y.es.length c'] 25)):=((Up.refl hw).alloc _).alloc _;clear PY PZ Qg Qh Qc Qd Qe Qf;generalize bare x=d at*;generalize bare y=g at*;have HH:=Lib.hid (And.intro C (And.intro E (And.intro H (And.intro I (And.intro J (And.intro L (And.intro PQ (And.intro ih (And.intro P (And.intro Q (And.intro O PM)))))))))));clear C E H I J L PQ Qz ih P Q P3 P5 P4 P6 Qx Qy Qi Qj O PM;go_enter Tryz.func49,Tryz.ntmps49;go_upto_region 1 with fail
  go_cut [] (fun wx=> ∃a1 c1 a2 c2,ak p D d a1 c1∧ak p D g a2 c2∧(wx.cell? ⟨w.heap.size,0,none⟩=some (.int .i64 d.k)∧wx.cell? ⟨w.heap.size,1,none⟩=some (.int .i64 d.n)∧wx.cell? ⟨w.heap.size,2,none⟩=some (.int .i64 d.m)∧wx.cell? ⟨w.heap.size,3,none⟩=some (.bool d.v)∧wx.cell? ⟨w.heap.size,4,none⟩=some (.string d.nm)∧wx.cell? ⟨w.heap.size,5,none⟩=some (.string d.tg)∧wx.cell? ⟨w.heap.size,6,none⟩=some (.slice a1 d.es.length c1))∧(wx.cell? ⟨w.heap.size+1,0,none⟩=some (.int .i64 g.k)∧wx.cell? ⟨w.heap.size+1,1,none⟩=some (.int .i64 g.n)∧wx.cell? ⟨w.heap.size+1,2,none⟩=some (.int .i64 g.m)∧wx.cell? ⟨w.heap.size+1,3,none⟩=some (.bool g.v)∧wx.cell? ⟨w.heap.size+1,4,none⟩=some (.string g.nm)∧wx.cell? ⟨w.heap.size+1,5,none⟩=some (.string g.tg)∧wx.cell? ⟨w.heap.size+1,6,none⟩=some (.slice a2 g.es.length c2))∧Up p w wx)
  case first=>
   go_region_with (first|(go_at_call 19;(with_reducible refine(P7 _ ag.drew.kw).mono ?_);rintro e1 w1 ⟨a1,c1,rfl,R,aa⟩;obtain⟨Qk,O⟩:=j_ aa;have QA:=aa.size;simp only[World.size_drew,World.size_alloc]at QA Qk O;have QD:w.heap.size<w1.heap.size:=(by omega);have QE:w.heap.size+1<w1.heap.size:=(by omega))|(go_at_call 19;(with_reducible refine(P8 _ (ag.drew.step aa).kw).mono ?_);rintro e1 w2 ⟨a2,c2,rfl,S,PT⟩;obtain⟨QB,PM⟩:=j_ PT;have QF:=PT.size))
   all_goals
    go_wp2_with fail
    go_meet
    have hB:=(ag.drew.step aa).up.trans (PT.mono (ag.drew.step aa).up.size);clear Qk O QB PM P7 P8;obtain⟨p0,p1,p2,p3,p4,p5,p6⟩:TS.L7 w2 w.heap.size x a c:=by
     repeat' apply And.intro
     all_goals exact cell_kept PT (cell_kept aa (by simp[go_sem]))
    obtain⟨q0,q1,q2,q3,q4,q5,q6⟩:TS.L7 w2 (w.heap.size+1) y a' c':=by
     repeat' apply And.intro
     all_goals exact cell_kept PT (cell_kept aa (by simp[go_sem]))
    refine⟨a1,c1,a2,c2,R,S,?_,?_,?_⟩
    ·repeat' apply And.intro
     all_goals (simp[go_sem,p0,p1,p2,p3,p4,p5,p6];done)
    ·repeat' apply And.intro
     all_goals (simp[go_sem,q0,q1,q2,q3,q4,q5,q6];done)
    ·refine qD hw ?_
     repeat(refine Below.setCell ?_ (by simp) _)
     exact hB
  case rest=>
   obtain⟨a1,c1,a2,c2,R,S,⟨x0,x1,x2,x3,x4,x5,x6⟩,⟨M,V,X,Y,Z,y5,y6⟩,A⟩:=hcut;have bl:=World.block_lt_of_cell? _ _ M;simp only at bl;clear P7 P8 ag;have P9:=R.cap;have P_:=S.cap;cases G:d.k==g.k
   ·have t1:(d.k !=g.k)=true:=by simp[bne,G]
    have hF:Hid (false=r):=by
     obtain⟨_,_,_,_,_,_,_,_,P,Q,_,_⟩:=HH.out;unfold Hid;by_cases t:d.k=10
     ·rw[P t,show(g.k==10)=false by rw[←t,Bool.beq_comm];exact G];rfl
     ·rw[Q t,G];rfl
    clear G P9 P_;go_wp2_with fail
    go_ret;exact⟨_,rfl,hF,A.up⟩
   have PU:d.k=g.k:=by simpa using G
   have t1:(d.k !=g.k)=false:=by simp[bne,G]
   by_cases t:d.k=10
   ·have t2:(d.k==10)=true:=by simp[t]
    have t3:(d.k !=10)=false:=by simp[t]
    have hS:Hid (∀W,KW p W→Calls Tryz.prog 110 #[.slice D.a D.len dc,.agg #[.int .i64 d.k,.int .i64 d.n,.int .i64 d.m,.bool d.v,.string d.nm,.string d.tg,.slice a1 d.es.length c1],.agg #[.int .i64 g.k,.int .i64 g.n,.int .i64 g.m,.bool g.v,.string g.nm,.string g.tg,.slice a2 g.es.length c2]] W (RB r W)):=by
     obtain⟨C,E,H,I,J,L,PQ,ih,P,_,O,PM⟩:=HH.out;rw[P t];exact An D dc NS Qw x d g fx fy ih PQ C O E PM H I J L t (PU▸t) p a1 c1 a2 c2 R S
    clear G P9 P_ PU t;have PV:(d.es.length:Int)=g.es.length∨((d.es.length:Int) !=g.es.length)=true:=by
     by_cases h:(d.es.length:Int)=g.es.length
     ·exact .inl h
     ·exact .inr (by simpa using h)
    rcases PV with PV|PV
    ·have t4:((d.es.length:Int) !=g.es.length)=false:=by simp[PV]
     clear PV;go_wp2_with fail
     refine(hS.out _ A.kw).mono ?_;rintro e1 w3 ⟨b,rfl,hb,PW⟩;have hB:=(A.step PW).up;clear PW hS;go_wp2_with fail
     go_ret;exact⟨_,rfl,hb,hB⟩
    ·go_wp2_with fail
     refine(hS.out _ A.kw).mono ?_;rintro e1 w3 ⟨b,rfl,hb,PW⟩;have hB:=(A.step PW).up;clear PW hS;go_wp2_with fail
     go_ret;exact⟨_,rfl,hb,hB⟩
   have t2:(d.k==10)=false:=by simp[t]
   have t3:(d.k !=10)=true:=by simp[t]
   by_cases hle:d.es.length=g.es.length
   rotate_left
   ·have t4:((d.es.length:Int) !=g.es.length)=true:=by simp;omega
    have hF:Hid (false=r):=by
     obtain⟨_,_,_,_,_,_,_,_,P,Q,_,_⟩:=HH.out;unfold Hid;rw[Q t,decide_eq_false hle];simp
    clear G P9 P_ PU t hle;go_wp2_with fail
    go_ret;exact⟨_,rfl,hF,A.up⟩
   have t4:((d.es.length:Int) !=g.es.length)=false:=by simp[hle]
   have hR:Hid (r=(aU d g&&(d.es.zip g.es).all fun(e,f)=>aB e f)):=by
    obtain⟨_,_,_,_,_,_,_,_,P,Q,_,_⟩:=HH.out;unfold Hid;rw[Q t,G,decide_eq_true hle];rfl
   have QC:=Lib.hid PU;have Ql:=Lib.hid t;have P0:=Lib.hid hle;clear G PU t hle;go_upto_block 0 with fail
   go_cut [] (fun wz=>Hid (aU d g=true)∧(wz.cell? ⟨w.heap.size,0,none⟩=some (.int .i64 d.k)∧wz.cell? ⟨w.heap.size,1,none⟩=some (.int .i64 d.n)∧wz.cell? ⟨w.heap.size,2,none⟩=some (.int .i64 d.m)∧wz.cell? ⟨w.heap.size,3,none⟩=some (.bool d.v)∧wz.cell? ⟨w.heap.size,4,none⟩=some (.string d.nm)∧wz.cell? ⟨w.heap.size,5,none⟩=some (.string d.tg)∧wz.cell? ⟨w.heap.size,6,none⟩=some (.slice a1 d.es.length c1))∧(wz.cell? ⟨w.heap.size+1,0,none⟩=some (.int .i64 g.k)∧wz.cell? ⟨w.heap.size+1,1,none⟩=some (.int .i64 g.n)∧wz.cell? ⟨w.heap.size+1,2,none⟩=some (.int .i64 g.m)∧wz.cell? ⟨w.heap.size+1,3,none⟩=some (.bool g.v)∧wz.cell? ⟨w.heap.size+1,4,none⟩=some (.string g.nm)∧wz.cell? ⟨w.heap.size+1,5,none⟩=some (.string g.tg)∧wz.cell? ⟨w.heap.size+1,6,none⟩=some (.slice a2 g.es.length c2))∧Up p w wz)
   case first=>
    have B:Hid (aU d g=false→false=r):=fun h=>by rw[hR.out,h];rfl
    by_cases hc:d.k=1∨d.k=3∨d.k=9∨d.k=11
    ·have hh:aU d g=(d.n==g.n):=by unfold aU;rw[if_pos hc]
     cases hn:d.n==g.n
     ·have n1:(d.n !=g.n)=true:=by simp[bne,hn]
      have hF:=Lib.hid (B.out (hh.trans hn));clear hh hn B;rcases hc with hk|hk|hk|hk
      ·have s1:(d.k==1)=true:=by simp[hk]
       clear hk;go_wp2_with fail
       go_ret;exact⟨_,rfl,hF.out,A.up⟩
      ·have s1:(d.k==1)=false:=by simp[hk]
       have s3:(d.k==3)=true:=by simp[hk]
       clear hk;go_wp2_with fail
       go_ret;exact⟨_,rfl,hF.out,A.up⟩
      ·have s1:(d.k==1)=false:=by simp[hk]
       have s3:(d.k==3)=false:=by simp[hk]
       have s9:(d.k==9)=true:=by simp[hk]
       clear hk;go_wp2_with fail
       go_ret;exact⟨_,rfl,hF.out,A.up⟩
      ·have s1:(d.k==1)=false:=by simp[hk]
       have s3:(d.k==3)=false:=by simp[hk]
       have s9:(d.k==9)=false:=by simp[hk]
       have Qm:(d.k==11)=true:=by simp[hk]
       clear hk;go_wp2_with fail
       go_ret;exact⟨_,rfl,hF.out,A.up⟩
     ·have n1:(d.n !=g.n)=false:=by simp[bne,hn]
      have hF:=Lib.hid (hh.trans hn);clear hh hn B;rcases hc with hk|hk|hk|hk
      ·have s1:(d.k==1)=true:=by simp[hk]
       clear hk;go_wp2_with fail
       go_meet
       exact⟨hF,⟨x0,x1,x2,x3,x4,x5,x6⟩,⟨M,V,X,Y,Z,y5,y6⟩,A⟩
      ·have s1:(d.k==1)=false:=by simp[hk]
       have s3:(d.k==3)=true:=by simp[hk]
       clear hk;go_wp2_with fail
       go_meet
       exact⟨hF,⟨x0,x1,x2,x3,x4,x5,x6⟩,⟨M,V,X,Y,Z,y5,y6⟩,A⟩
      ·have s1:(d.k==1)=false:=by simp[hk]
       have s3:(d.k==3)=false:=by simp[hk]
       have s9:(d.k==9)=true:=by simp[hk]
       clear hk;go_wp2_with fail
       go_meet
       exact⟨hF,⟨x0,x1,x2,x3,x4,x5,x6⟩,⟨M,V,X,Y,Z,y5,y6⟩,A⟩
      ·have s1:(d.k==1)=false:=by simp[hk]
       have s3:(d.k==3)=false:=by simp[hk]
       have s9:(d.k==9)=false:=by simp[hk]
       have Qm:(d.k==11)=true:=by simp[hk]
       clear hk;go_wp2_with fail
       go_meet
       exact⟨hF,⟨x0,x1,x2,x3,x4,x5,x6⟩,⟨M,V,X,Y,Z,y5,y6⟩,A⟩
    have s1:(d.k==1)=false:=by simp;omega
    have s3:(d.k==3)=false:=by simp;omega
    have s9:(d.k==9)=false:=by simp;omega
    have Qm:(d.k==11)=false:=by simp;omega
    by_cases hk:d.k=7
    ·have s7:(d.k==7)=true:=by simp[hk]
     have hh:aU d g=(d.m==g.m&&d.v==g.v):=by unfold aU;rw[if_neg hc,if_pos hk]
     cases hm:d.m==g.m
     ·have m1:(d.m !=g.m)=true:=by simp[bne,hm]
      have hF:=Lib.hid (B.out (hh.trans (by rw[hm];rfl)));clear hh hm B hk hc;go_wp2_with fail
      go_ret;exact⟨_,rfl,hF.out,A.up⟩
     have m1:(d.m !=g.m)=false:=by simp[bne,hm]
     cases hv:d.v==g.v
     ·have v1:(d.v !=g.v)=true:=by simp[bne,hv]
      have hF:=Lib.hid (B.out (hh.trans (by rw[hm,hv];rfl)));clear hh hm B hk hc;go_wp2_with fail
      go_ret;exact⟨_,rfl,hF.out,A.up⟩
     ·have v1:(d.v !=g.v)=false:=by simp[bne,hv]
      have hF:=Lib.hid (hh.trans (show(d.m==g.m&&d.v==g.v)=true by rw[hm,hv];rfl));clear hh hm B hk hc;go_wp2_with fail
      go_meet
      exact⟨hF,⟨x0,x1,x2,x3,x4,x5,x6⟩,⟨M,V,X,Y,Z,y5,y6⟩,A⟩
    have s7:(d.k==7)=false:=by simp[hk]
    by_cases PR:d.k=5
    rotate_left
    ·have s5:(d.k==5)=false:=by simp[PR]
     have hF:Hid (aU d g=true):=by unfold Hid aU;rw[if_neg hc,if_neg hk,if_neg PR]
     clear B hk hc PR;go_wp2_with fail
     go_meet
     exact⟨hF,⟨x0,x1,x2,x3,x4,x5,x6⟩,⟨M,V,X,Y,Z,y5,y6⟩,A⟩
    have s5:(d.k==5)=true:=by simp[PR]
    have hh:aU d g=(d.es.zip g.es).all fun(e,f)=>decide (e.nm.toList=f.nm.toList)&&decide (e.tg.toList=f.tg.toList):=by unfold aU;rw[if_neg hc,if_neg hk,if_pos PR]
    have Qn:=Lib.hid hh;clear hh hc hk PR;have Qo:d.es.length≤g.es.length:=Nat.le_of_eq P0.out;have Qp:g.es.length≤d.es.length:=Nat.le_of_eq P0.out.symm;have Qq:(d.es.length:Int)≤1048576:=by omega
    go_wp2_with fail
    go_loopw [71] (fun i wr=> ∃k:Nat,k≤d.es.length∧i= .int .i64 k∧(∀j(h:j<k)(h1:j<d.es.length)(h2:j<g.es.length),d.es[j].nm.toList=g.es[j].nm.toList∧d.es[j].tg.toList=g.es[j].tg.toList)∧
     (wr.cell? ⟨w.heap.size,0,none⟩=some (.int .i64 d.k)∧wr.cell? ⟨w.heap.size,1,none⟩=some (.int .i64 d.n)∧wr.cell? ⟨w.heap.size,2,none⟩=some (.int .i64 d.m)∧wr.cell? ⟨w.heap.size,3,none⟩=some (.bool d.v)∧wr.cell? ⟨w.heap.size,4,none⟩=some (.string d.nm)∧wr.cell? ⟨w.heap.size,5,none⟩=some (.string d.tg)∧wr.cell? ⟨w.heap.size,6,none⟩=some (.slice a1 d.es.length c1))∧(wr.cell? ⟨w.heap.size+1,0,none⟩=some (.int .i64 g.k)∧wr.cell? ⟨w.heap.size+1,1,none⟩=some (.int .i64 g.n)∧wr.cell? ⟨w.heap.size+1,2,none⟩=some (.int .i64 g.m)∧wr.cell? ⟨w.heap.size+1,3,none⟩=some (.bool g.v)∧wr.cell? ⟨w.heap.size+1,4,none⟩=some (.string g.nm)∧wr.cell? ⟨w.heap.size+1,5,none⟩=some (.string g.tg)∧wr.cell? ⟨w.heap.size+1,6,none⟩=some (.slice a2 g.es.length c2))∧Up p w wr) (fun i _=>d.es.length- (intOf i).toNat)
    case atStart=>exact⟨0,Nat.zero_le _,rfl,(fun j h=>by omega),⟨x0,x1,x2,x3,x4,x5,x6⟩,⟨M,V,X,Y,Z,y5,y6⟩,A⟩
    case round=>
     clear x0 x1 x2 x3 x4 x5 x6 M V X Y Z y5 y6 A bl;obtain⟨k,hk,rfl,PX,⟨x0,x1,x2,x3,x4,x5,x6⟩,⟨M,V,X,Y,Z,y5,y6⟩,A⟩:=hrel;have bl:=World.block_lt_of_cell? _ _ M;simp only at bl;have T:=Lib.hid PX;clear PX;by_cases PN:k<d.es.length
     ·have F:k<g.es.length:=by omega
      have Qr:(k:Int)<d.es.length:=by omega
      have Qa:(k:Int)<g.es.length:=by omega
      obtain⟨Qb,o1,rfl⟩:=R.list.bN (by omega);obtain⟨a5,c5,h7,P1⟩:=R.list.get k PN;obtain⟨l,z,rfl⟩:=S.list.bN (by omega);obtain⟨a6,c6,h8,P2⟩:=S.list.get k F;have o:Hid (¬(d.es[k].nm.toList=g.es[k].nm.toList∧d.es[k].tg.toList=g.es[k].tg.toList)→false=r):=fun h=>B.out (by
       rw[Qn.out];refine ui _ PN F ?_;simpa using h)
      have s:Hid (d.es[k].nm.toList=g.es[k].nm.toList∧d.es[k].tg.toList=g.es[k].tg.toList→∀j(h:j<k+1)(h1:j<d.es.length)(h2:j<g.es.length),d.es[j].nm.toList=g.es[j].nm.toList∧d.es[j].tg.toList=g.es[j].tg.toList):=fun h j hj h1 h2=>by
       by_cases e:j=k
       ·subst e;exact h
       ·exact T.out j (by omega) h1 h2
      obtain⟨e,he⟩:∃e,e=d.es[k]:=⟨_,rfl⟩
      obtain⟨f,hf⟩:∃f,f=g.es[k]:=⟨_,rfl⟩
      rw[←he]at h7 P1 o s;rw[←hf]at h8 P2 o s;clear he hf;obtain⟨g0,g1,g2,g3,g4,g5,g6⟩:TS.C7 wr Qb (o1+k*7) e a5 c5:=h7.world A.kw;obtain⟨r0,r1,r2,r3,r4,r5,r6⟩:TS.C7 wr l (z+k*7) f a6 c6:=h8.world A.kw;clear h7 h8;have ag:=A.alloc (.cells #[.int .i64 e.k,.int .i64 e.n,.int .i64 e.m,.bool e.v,.string e.nm,.string e.tg,.slice a5 e.es.length c5] 25);obtain⟨z0,z1,z2,z3,z4,z5,z6⟩:=jm wr e a5 c5 25;by_cases PO:e.nm.toList=f.nm.toList
      ·have t5:(e.nm.toList==f.nm.toList)=true:=by simp[PO]
       by_cases PS:e.tg.toList=f.tg.toList
       ·have t6:(e.tg.toList==f.tg.toList)=true:=by simp[PS]
        have hN:=Lib.hid (s.out ⟨PO,PS⟩);clear PO PS s o;go_wp2_with fail
        refine oR (fun W=>(W.cell? ⟨wr.heap.size,0,none⟩=some (.int .i64 e.k)∧W.cell? ⟨wr.heap.size,1,none⟩=some (.int .i64 e.n)∧W.cell? ⟨wr.heap.size,2,none⟩=some (.int .i64 e.m)∧W.cell? ⟨wr.heap.size,3,none⟩=some (.bool e.v)∧W.cell? ⟨wr.heap.size,4,none⟩=some (.string e.nm)∧W.cell? ⟨wr.heap.size,5,none⟩=some (.string e.tg)∧W.cell? ⟨wr.heap.size,6,none⟩=some (.slice a5 e.es.length c5))∧W.cell? ⟨w.heap.size+1,6,none⟩=some (.slice (some ⟨l,z,none⟩) g.es.length c2)∧(W.cell? ⟨l,z+k*7,none⟩=some (.int .i64 f.k)∧W.cell? ⟨l,z+k*7+1,none⟩=some (.int .i64 f.n)∧W.cell? ⟨l,z+k*7+2,none⟩=some (.int .i64 f.m)∧W.cell? ⟨l,z+k*7+3,none⟩=some (.bool f.v)∧W.cell? ⟨l,z+k*7+4,none⟩=some (.string f.nm)∧W.cell? ⟨l,z+k*7+5,none⟩=some (.string f.tg)∧W.cell? ⟨l,z+k*7+6,none⟩=some (.slice a6 f.es.length c6))∧Up p w W) [(0,true),(1,true),(2,true),(3,true),(4,true),(5,true),(6,true),(7,true),(8,true),(9,true),(10,true),(11,true),(12,true),(13,true),(14,true),(15,true),(16,true),(17,true),(18,true),(19,true)] oK (fun N=> ?_);repeat((first|refine oS ?_|refine oF N ?_);try simp only[Act.put,oa,ob,oc])
        refine ch ?_;go_wp2_with fail
        go_roundw
        case rel=>exact⟨k+1,by omega,by go_num,hN.out,by exact(L7.alloc (w:=wr) (b:=w.heap.size) (u:=d) ⟨x0,x1,x2,x3,x4,x5,x6⟩ _),by exact(L7.alloc (w:=wr) (b:=w.heap.size+1) (u:=g) ⟨M,V,X,Y,Z,y5,y6⟩ _),ag.drew⟩
        case measure=>simp[intOf];omega
       ·have t6:(e.tg.toList==f.tg.toList)=false:=by simp[PS]
        have hF:=Lib.hid (o.out fun h=>PS h.2);clear PO PS s o;go_wp2_with fail
        refine oR (fun W=>(W.cell? ⟨wr.heap.size,0,none⟩=some (.int .i64 e.k)∧W.cell? ⟨wr.heap.size,1,none⟩=some (.int .i64 e.n)∧W.cell? ⟨wr.heap.size,2,none⟩=some (.int .i64 e.m)∧W.cell? ⟨wr.heap.size,3,none⟩=some (.bool e.v)∧W.cell? ⟨wr.heap.size,4,none⟩=some (.string e.nm)∧W.cell? ⟨wr.heap.size,5,none⟩=some (.string e.tg)∧W.cell? ⟨wr.heap.size,6,none⟩=some (.slice a5 e.es.length c5))∧W.cell? ⟨w.heap.size+1,6,none⟩=some (.slice (some ⟨l,z,none⟩) g.es.length c2)∧(W.cell? ⟨l,z+k*7,none⟩=some (.int .i64 f.k)∧W.cell? ⟨l,z+k*7+1,none⟩=some (.int .i64 f.n)∧W.cell? ⟨l,z+k*7+2,none⟩=some (.int .i64 f.m)∧W.cell? ⟨l,z+k*7+3,none⟩=some (.bool f.v)∧W.cell? ⟨l,z+k*7+4,none⟩=some (.string f.nm)∧W.cell? ⟨l,z+k*7+5,none⟩=some (.string f.tg)∧W.cell? ⟨l,z+k*7+6,none⟩=some (.slice a6 f.es.length c6))∧Up p w W) [(0,true),(1,true),(2,true),(3,true),(4,true),(5,true),(6,true),(7,true),(8,true),(9,true),(10,true),(11,true),(12,true),(13,true),(14,true),(15,true),(16,true),(17,true),(18,true),(19,true)] oK (fun N=> ?_);repeat((first|refine oS ?_|refine oF N ?_);try simp only[Act.put,oa,ob,oc])
        refine ch ?_;go_wp2_with fail
        go_ret;exact⟨_,rfl,hF.out,ag.drew.up⟩
      ·have t5:(e.nm.toList==f.nm.toList)=false:=by simp[PO]
       have hF:=Lib.hid (o.out fun h=>PO h.1);clear PO s o;go_wp2_with fail
       refine oR (fun W=>(W.cell? ⟨wr.heap.size,0,none⟩=some (.int .i64 e.k)∧W.cell? ⟨wr.heap.size,1,none⟩=some (.int .i64 e.n)∧W.cell? ⟨wr.heap.size,2,none⟩=some (.int .i64 e.m)∧W.cell? ⟨wr.heap.size,3,none⟩=some (.bool e.v)∧W.cell? ⟨wr.heap.size,4,none⟩=some (.string e.nm)∧W.cell? ⟨wr.heap.size,5,none⟩=some (.string e.tg)∧W.cell? ⟨wr.heap.size,6,none⟩=some (.slice a5 e.es.length c5))∧W.cell? ⟨w.heap.size+1,6,none⟩=some (.slice (some ⟨l,z,none⟩) g.es.length c2)∧(W.cell? ⟨l,z+k*7,none⟩=some (.int .i64 f.k)∧W.cell? ⟨l,z+k*7+1,none⟩=some (.int .i64 f.n)∧W.cell? ⟨l,z+k*7+2,none⟩=some (.int .i64 f.m)∧W.cell? ⟨l,z+k*7+3,none⟩=some (.bool f.v)∧W.cell? ⟨l,z+k*7+4,none⟩=some (.string f.nm)∧W.cell? ⟨l,z+k*7+5,none⟩=some (.string f.tg)∧W.cell? ⟨l,z+k*7+6,none⟩=some (.slice a6 f.es.length c6))∧Up p w W) [(0,true),(1,true),(2,true),(3,true),(4,true),(5,true),(6,true),(7,true),(8,true),(9,true),(10,true),(11,true),(12,true),(13,true),(14,true),(15,true),(16,true),(17,true),(18,true),(19,true)] oK (fun N=> ?_);repeat((first|refine oS ?_|refine oF N ?_);try simp only[Act.put,oa,ob,oc])
       refine ch ?_;go_wp2_with fail
       go_ret;exact⟨_,rfl,hF.out,ag.drew.up⟩
     ·have hF:Hid (aU d g=true):=by
       unfold Hid;rw[Qn.out,iC];intro i h1 h2;simpa using T.out i (by omega) h1 h2
      go_wp2_with fail
      go_meet
      exact⟨hF,⟨x0,x1,x2,x3,x4,x5,x6⟩,⟨M,V,X,Y,Z,y5,y6⟩,A⟩
   case rest=>
    clear x0 x1 x2 x3 x4 x5 x6 M V X Y Z y5 y6 A bl;obtain⟨hH,⟨x0,x1,x2,x3,x4,x5,x6⟩,⟨M,V,X,Y,Z,y5,y6⟩,A⟩:=hcut;have bl:=World.block_lt_of_cell? _ _ M;simp only at bl;have Qs:Hid (r=(d.es.zip g.es).all fun(e,f)=>aB e f):=by unfold Hid;rw[hR.out,hH.out];rfl
    have Qo:d.es.length≤g.es.length:=Nat.le_of_eq P0.out;have Qp:g.es.length≤d.es.length:=Nat.le_of_eq P0.out.symm;have Qq:(d.es.length:Int)≤1048576:=by omega
    go_wp2_with fail
    go_loopw [100] (fun i wr=> ∃k:Nat,k≤d.es.length∧i= .int .i64 k∧(∀j(h:j<k)(h1:j<d.es.length)(h2:j<g.es.length),aB d.es[j] g.es[j]=true)∧
     (wr.cell? ⟨w.heap.size+1,0,none⟩=some (.int .i64 g.k)∧wr.cell? ⟨w.heap.size+1,1,none⟩=some (.int .i64 g.n)∧wr.cell? ⟨w.heap.size+1,2,none⟩=some (.int .i64 g.m)∧wr.cell? ⟨w.heap.size+1,3,none⟩=some (.bool g.v)∧wr.cell? ⟨w.heap.size+1,4,none⟩=some (.string g.nm)∧wr.cell? ⟨w.heap.size+1,5,none⟩=some (.string g.tg)∧wr.cell? ⟨w.heap.size+1,6,none⟩=some (.slice a2 g.es.length c2))∧Up p w wr) (fun i _=>d.es.length- (intOf i).toNat)
    case atStart=>exact⟨0,Nat.zero_le _,rfl,(fun j h=>by omega),⟨M,V,X,Y,Z,y5,y6⟩,A⟩
    case round=>
     clear x0 x1 x2 x3 x4 x5 x6 M V X Y Z y5 y6 A bl;obtain⟨k,hk,rfl,PX,⟨M,V,X,Y,Z,y5,y6⟩,A⟩:=hrel;have bl:=World.block_lt_of_cell? _ _ M;simp only at bl;have T:=Lib.hid PX;clear PX;by_cases PN:k<d.es.length
     ·have F:k<g.es.length:=by omega
      have Qr:(k:Int)<d.es.length:=by omega
      have Qa:(k:Int)<g.es.length:=by omega
      obtain⟨Qb,o1,rfl⟩:=R.list.bN (by omega);obtain⟨a5,c5,h7,P1⟩:=R.list.get k PN;obtain⟨l,z,rfl⟩:=S.list.bN (by omega);obtain⟨a6,c6,h8,P2⟩:=S.list.get k F;have hC:Hid (∀q,kk q D dc d.es[k] g.es[k]):=by
       obtain⟨C,E,H,I,J,L,PQ,ih,_⟩:=HH.out;have p1:=C.part k PN;have p2:=E.part k F;have Qt:d.k≠12∧d.k≠13:=C.form.aE;have Qu:g.k≠12∧g.k≠13:=E.form.aE;have e1:aV d k=0:=by unfold aV;rw[if_neg Qt.1,if_neg (fun h=>Ql.out h.1)]
       have e2:aV g k=0:=by unfold aV;rw[if_neg Qu.1,if_neg (fun h=>Ql.out (by rw[QC.out];exact h.1))]
       rw[e1]at p1;rw[e2]at p2;have n1:=p1.form.aE;have n2:=p2.form.aE;have m1:=List.getElem_mem PN;have m2:=List.getElem_mem F;exact fun q=>ih _ (Nat.lt_of_lt_of_le (U.az m1) PQ) _ _ _ _ _ p1 fD n1.1 n1.2 p2 fD n2.1 n2.2 (H.es m1) (I.es m2) (J.es m1).2 (L.es m2).2 q
      have o:Hid (aB d.es[k] g.es[k]=false→false=r):=fun h=>by rw[Qs.out];exact(ui _ PN F h).symm
      have s:Hid (aB d.es[k] g.es[k]=true→∀j(h:j<k+1)(h1:j<d.es.length)(h2:j<g.es.length),aB d.es[j] g.es[j]=true):=fun h j hj h1 h2=>by
       by_cases e:j=k
       ·subst e;exact h
       ·exact T.out j (by omega) h1 h2
      obtain⟨e,he⟩:∃e,e=d.es[k]:=⟨_,rfl⟩
      obtain⟨f,hf⟩:∃f,f=g.es[k]:=⟨_,rfl⟩
      rw[←he]at h7 P1 o s hC;rw[←hf]at h8 P2 o s hC;clear he hf;have hI:=Lib.hid fun W (hW:KW p W)=>hC.out p a5 c5 a6 c6 W P1 P2 hW;clear hC;obtain⟨g0,g1,g2,g3,g4,g5,g6⟩:TS.C7 wr Qb (o1+k*7) e a5 c5:=h7.world A.kw;obtain⟨r0,r1,r2,r3,r4,r5,r6⟩:TS.C7 wr l (z+k*7) f a6 c6:=h8.world A.kw;clear h7 h8;have ag:=A.alloc (.cells #[.int .i64 e.k,.int .i64 e.n,.int .i64 e.m,.bool e.v,.string e.nm,.string e.tg,.slice a5 e.es.length c5] 25);obtain⟨z0,z1,z2,z3,z4,z5,z6⟩:=jm wr e a5 c5 25;go_wp2_with fail
      refine oR (fun W=>(W.cell? ⟨wr.heap.size,0,none⟩=some (.int .i64 e.k)∧W.cell? ⟨wr.heap.size,1,none⟩=some (.int .i64 e.n)∧W.cell? ⟨wr.heap.size,2,none⟩=some (.int .i64 e.m)∧W.cell? ⟨wr.heap.size,3,none⟩=some (.bool e.v)∧W.cell? ⟨wr.heap.size,4,none⟩=some (.string e.nm)∧W.cell? ⟨wr.heap.size,5,none⟩=some (.string e.tg)∧W.cell? ⟨wr.heap.size,6,none⟩=some (.slice a5 e.es.length c5))∧(W.cell? ⟨w.heap.size+1,0,none⟩=some (.int .i64 g.k)∧W.cell? ⟨w.heap.size+1,1,none⟩=some (.int .i64 g.n)∧W.cell? ⟨w.heap.size+1,2,none⟩=some (.int .i64 g.m)∧W.cell? ⟨w.heap.size+1,3,none⟩=some (.bool g.v)∧W.cell? ⟨w.heap.size+1,4,none⟩=some (.string g.nm)∧W.cell? ⟨w.heap.size+1,5,none⟩=some (.string g.tg)∧W.cell? ⟨w.heap.size+1,6,none⟩=some (.slice (some ⟨l,z,none⟩) g.es.length c2))∧(W.cell? ⟨l,z+k*7,none⟩=some (.int .i64 f.k)∧W.cell? ⟨l,z+k*7+1,none⟩=some (.int .i64 f.n)∧W.cell? ⟨l,z+k*7+2,none⟩=some (.int .i64 f.m)∧W.cell? ⟨l,z+k*7+3,none⟩=some (.bool f.v)∧W.cell? ⟨l,z+k*7+4,none⟩=some (.string f.nm)∧W.cell? ⟨l,z+k*7+5,none⟩=some (.string f.tg)∧W.cell? ⟨l,z+k*7+6,none⟩=some (.slice a6 f.es.length c6))∧Up p w W) [(0,true),(1,true),(2,true),(3,true),(4,true),(5,true),(6,true),(7,false),(8,true)] oK (fun N=> ?_);repeat(first|(refine oS ?_;try simp only[Act.put,oa,ob,oc])|(refine oF N ?_;try simp only[Act.put,oa,ob,oc])|(refine oL fun K hK=> ?_;go_simp;(go_at_call 49;(with_reducible refine(hI.out _ (Up.kw (by first|assumption|exact ag.drew))).mono ?_);rintro e1 w3 ⟨b,rfl,hb,aa⟩;(try simp only[]);refine hK _ _ oK fun N=> ?_;clear hK K;try simp only[Act.put,oa,ob,oc])))
      refine ch ?_;obtain⟨_,⟨v0,v1,v2,v3,v4,v5,v6⟩,_,Qv⟩:=N;cases b
      ·have hF:=Lib.hid (o.out hb.out.symm)
       clear hb aa s o;go_wp2_with fail
       go_ret;exact⟨_,rfl,hF.out,Qv.up⟩
      ·have hN:=Lib.hid (s.out hb.out.symm)
       clear hb aa s o;go_wp2_with fail
       go_roundw
       case rel=>exact⟨k+1,by omega,by go_num,hN.out,⟨v0,v1,v2,v3,v4,v5,v6⟩,Qv⟩
       case measure=>simp[intOf];omega
     ·have hF:Hid (true=r):=by
       unfold Hid;rw[Qs.out];symm;rw[iC];intro i h1 h2;exact T.out i (by omega) h1 h2
      have hB:=A.up;go_wp2_with fail
      go_ret;exact⟨_,rfl,hF.out,hB⟩
end Go.Proofs.YtdkmnkjhhhmglaaGreatDoor
namespace TS
theorem dY{x:U}(h:x.k≠13):aC x=x:=by unfold aC;rw[if_neg h]
theorem iV{x e:U}(h:x.k=13)(he:x.es= [e]):aC x=e:=by unfold aC;rw[if_pos h,he];rfl
theorem Form.iW{len:Nat}{u:U}{pos f:Nat}(h:Form len u pos f)(hk:u.k=13):u.es.length=1:=by
 cases h with
 |lV _ _ he=>exact he
 |pre a _=>omega
 |one a _ _=>omega
 |ptr a _ _ _=>omega
 |_=>omega
theorem Pl.aC{len:Nat}{x:U}{pos:Nat}(h:Pl len x pos 2)(a:x.k≠12):∃pos',Pl len (aC x) pos' 2∧(TS.aC x).k≠12∧(TS.aC x).k≠13:=by
 by_cases hk:x.k=13
 ·have h1:=h.form.iW hk
  obtain⟨e,he⟩:=dD h1;have b:=h.part 0 (by omega);have c:x.es[0]'(by omega)=e:=by simp[he]
  rw[c,show aV x 0=0 by unfold aV;rw[if_neg a,if_neg (by omega)],show aN x 0 2=2 by unfold aN;rw[if_pos rfl]]at b;rw[iV hk he];exact⟨0,b,b.form.aE⟩
 ·rw[dY hk];exact⟨pos,h,a,hk⟩
theorem Names.aC{NS:List (List UInt8)}{x:U}(h:Names NS x):Names NS (aC x):=by
 unfold TS.aC;split
 ·cases he:x.es with
  |nil=>exact h
  |cons e r=>exact(h.es (by rw[he];simp)).2
 ·exact h
end TS
namespace Go.Proofs.YtdkmnkjhhhmglaaGreatDoor
open Go.RowKit TS
theorem Ao(p:Pm)(D:Dl)(dc:Nat)(NS:List (List UInt8))(P0:NS.length≤1048576)(x y:U)(px py:Nat)(a:Option Addr)(c:Nat)(a':Option Addr)(c':Nat)(w:World)(T:Pl D.len x px 2)(V:Pl D.len y py 2)
 (PY:x.k≠12)(PZ:y.k≠12)(X:Names NS x)(Y:Names NS y)(J:isIface (aC x)=false→aR (aC x)∧aR (under (aC x)))(L:isIface (aC y)=false→aR (aC y)∧aR (under (aC y)))
 (PU:ak p D x a c)(PV:ak p D y a' c')(hw:KW p w):
 Calls Tryz.prog 163 #[.slice D.a D.len dc,.agg #[.int .i64 x.k,.int .i64 x.n,.int .i64 x.m,.bool x.v,.string x.nm,.string x.tg,.slice a x.es.length c],.agg #[.int .i64 y.k,.int .i64 y.n,.int .i64 y.m,.bool y.v,.string y.nm,.string y.tg,.slice a' y.es.length c']] w (RB (eu x y) w):=by
 obtain⟨r,hr⟩:∃r,r=eu x y:=⟨_,rfl⟩
 rw[←hr];have P8:=Lib.hid hr;clear hr;have ag:Up p w ((w.alloc (.cells #[.int .i64 x.k,.int .i64 x.n,.int .i64 x.m,.bool x.v,.string x.nm,.string x.tg,.slice a x.es.length c] 25)).alloc (.cells #[.int .i64 y.k,.int .i64 y.n,.int .i64 y.m,.bool y.v,.string y.nm,.string y.tg,.slice a' y.es.length c'] 25)):=((Up.refl hw).alloc _).alloc _;have HH:=Lib.hid (And.intro T (And.intro V (And.intro X (And.intro Y (And.intro J L)))));clear T V X Y J L;go_enter Tryz.func163,Tryz.ntmps163;go_upto_region 1 with fail
 go_cut [7,8] (fun s7 s8 d=> ∃g h,s7= .pointer (some ⟨g,0,none⟩)∧s8= .pointer (some ⟨h,0,none⟩)∧w.heap.size+1<g∧w.heap.size+1<h∧g≠h∧(d.cell? ⟨w.heap.size,0,none⟩=some (.int .i64 x.k)∧d.cell? ⟨w.heap.size,1,none⟩=some (.int .i64 x.n)∧d.cell? ⟨w.heap.size,2,none⟩=some (.int .i64 x.m)∧d.cell? ⟨w.heap.size,3,none⟩=some (.bool x.v)∧d.cell? ⟨w.heap.size,4,none⟩=some (.string x.nm)∧d.cell? ⟨w.heap.size,5,none⟩=some (.string x.tg)∧d.cell? ⟨w.heap.size,6,none⟩=some (.slice a x.es.length c))∧(d.cell? ⟨w.heap.size+1,0,none⟩=some (.int .i64 y.k)∧d.cell? ⟨w.heap.size+1,1,none⟩=some (.int .i64 y.n)∧d.cell? ⟨w.heap.size+1,2,none⟩=some (.int .i64 y.m)∧d.cell? ⟨w.heap.size+1,3,none⟩=some (.bool y.v)∧d.cell? ⟨w.heap.size+1,4,none⟩=some (.string y.nm)∧d.cell? ⟨w.heap.size+1,5,none⟩=some (.string y.tg)∧d.cell? ⟨w.heap.size+1,6,none⟩=some (.slice a' y.es.length c'))∧L7 d g x a c∧L7 d h y a' c'∧(∀o,d.frozen? ⟨g,o,none⟩=false)∧(∀o,d.frozen? ⟨h,o,none⟩=false)∧Up p w d)
 case first=>
  go_region
  all_goals
   go_wp2_with fail
   go_meet
   refine⟨_,_,rfl,rfl,by omega,by omega,by omega,?_,?_,?_,?_,?_,?_,((ag.alloc _).alloc _).drew⟩
   ·(repeat' apply And.intro)<;>simp[go_sem]
   ·(repeat' apply And.intro)<;>simp[go_sem]
   ·(repeat' apply And.intro)<;>simp[go_sem]
   ·(repeat' apply And.intro)<;>simp[go_sem]
   ·intro o;simp[go_sem]
   ·intro o;simp[go_sem]
 case rest=>
  obtain⟨g,h,rfl,rfl,hg,hh,Qe,⟨x0,x1,x2,x3,x4,x5,x6⟩,⟨y0,y1,y2,y3,y4,y5,y6⟩,⟨u0,u1,u2,u3,u4,u5,u6⟩,⟨v0,v1,v2,v3,v4,v5,v6⟩,fg,fh,u⟩:=hcut;clear ag;go_upto_if 13 with fail
  go_cut [] (fun d=> ∃Z c1,ak p D (aC x) Z c1∧(d.cell? ⟨w.heap.size,0,none⟩=some (.int .i64 x.k)∧d.cell? ⟨w.heap.size,1,none⟩=some (.int .i64 x.n)∧d.cell? ⟨w.heap.size,2,none⟩=some (.int .i64 x.m)∧d.cell? ⟨w.heap.size,3,none⟩=some (.bool x.v)∧d.cell? ⟨w.heap.size,4,none⟩=some (.string x.nm)∧d.cell? ⟨w.heap.size,5,none⟩=some (.string x.tg)∧d.cell? ⟨w.heap.size,6,none⟩=some (.slice a x.es.length c))∧(d.cell? ⟨w.heap.size+1,0,none⟩=some (.int .i64 y.k)∧d.cell? ⟨w.heap.size+1,1,none⟩=some (.int .i64 y.n)∧d.cell? ⟨w.heap.size+1,2,none⟩=some (.int .i64 y.m)∧d.cell? ⟨w.heap.size+1,3,none⟩=some (.bool y.v)∧d.cell? ⟨w.heap.size+1,4,none⟩=some (.string y.nm)∧d.cell? ⟨w.heap.size+1,5,none⟩=some (.string y.tg)∧d.cell? ⟨w.heap.size+1,6,none⟩=some (.slice a' y.es.length c'))∧L7 d g (aC x) Z c1∧L7 d h y a' c'∧(∀o,d.frozen? ⟨g,o,none⟩=false)∧(∀o,d.frozen? ⟨h,o,none⟩=false)∧Up p w d)
  case first=>
   by_cases f:x.k=13
   ·have t13:(x.k==13)=true:=by simp[f]
    have h1:=HH.out.1.form.iW f;obtain⟨e,he⟩:=dD h1;have P9:=iV f he;have hl:0<x.es.length:=by omega
    have Qa:(0:Int)<x.es.length:=by omega
    obtain⟨b,o,rfl⟩:=PU.list.bN (by omega);obtain⟨a5,c5,h7,PM⟩:=PU.list.get 0 (by omega);have PN:x.es[0]'(by omega)=e:=by simp[he]
    simp only[PN,Nat.zero_mul,Nat.add_zero]at h7 PM;obtain⟨z0,z1,z2,z3,z4,z5,z6⟩:TS.C7 wc b o e a5 c5:=h7.world u.kw;have hb:=u.kw.lt h7.1;have Qb:∀o,p g o=none:=fun o=>hw.aJ (by omega) o;have Qf:b≠g:=fun e=>by have:=h7.1;rw[e,Qb]at this;cases this
    have l:=Lib.hid P9;have Qc:=Lib.hid he;clear he f h1 P9 h7 PN HH;go_wp2_with fail
    go_meet
    rw[l.out];refine⟨a5,c5,PM,?_,?_,?_,?_,?_,?_,?_⟩
    ·(repeat' apply And.intro)<;>(simp[go_sem, *];done)
    ·(repeat' apply And.intro)<;>(simp[go_sem, *];done)
    ·(repeat' apply And.intro)<;>(simp[go_sem, *];done)
    ·(repeat' apply And.intro)<;>(simp[go_sem, *];done)
    ·intro o;simp[go_sem,fg]
    ·intro o;simp[go_sem,fh]
    ·refine qD hw ?_
     repeat(refine Below.setCell ?_ (by simp;omega) _)
     exact u.up
   ·have t13:(x.k==13)=false:=by simp[f]
    have l:=Lib.hid (dY f);clear f;go_wp2_with fail
    go_meet
    rw[l.out];exact⟨a,c,PU,⟨x0,x1,x2,x3,x4,x5,x6⟩,⟨y0,y1,y2,y3,y4,y5,y6⟩,⟨u0,u1,u2,u3,u4,u5,u6⟩,⟨v0,v1,v2,v3,v4,v5,v6⟩,fg,fh,u⟩
  case rest=>
   clear x0 x1 x2 x3 x4 x5 x6 y0 y1 y2 y3 y4 y5 y6 u0 u1 u2 u3 u4 u5 u6 v0 v1 v2 v3 v4 v5 v6 fg fh u;obtain⟨Z,c1,PW,⟨x0,x1,x2,x3,x4,x5,x6⟩,⟨y0,y1,y2,y3,y4,y5,y6⟩,⟨u0,u1,u2,u3,u4,u5,u6⟩,⟨v0,v1,v2,v3,v4,v5,v6⟩,fg,fh,u⟩:=hcut;go_upto_if 20 with fail
   go_cut [] (fun d=> ∃a2 c2,ak p D (aC y) a2 c2∧(d.cell? ⟨w.heap.size,0,none⟩=some (.int .i64 x.k)∧d.cell? ⟨w.heap.size,1,none⟩=some (.int .i64 x.n)∧d.cell? ⟨w.heap.size,2,none⟩=some (.int .i64 x.m)∧d.cell? ⟨w.heap.size,3,none⟩=some (.bool x.v)∧d.cell? ⟨w.heap.size,4,none⟩=some (.string x.nm)∧d.cell? ⟨w.heap.size,5,none⟩=some (.string x.tg)∧d.cell? ⟨w.heap.size,6,none⟩=some (.slice a x.es.length c))∧(d.cell? ⟨w.heap.size+1,0,none⟩=some (.int .i64 y.k)∧d.cell? ⟨w.heap.size+1,1,none⟩=some (.int .i64 y.n)∧d.cell? ⟨w.heap.size+1,2,none⟩=some (.int .i64 y.m)∧d.cell? ⟨w.heap.size+1,3,none⟩=some (.bool y.v)∧d.cell? ⟨w.heap.size+1,4,none⟩=some (.string y.nm)∧d.cell? ⟨w.heap.size+1,5,none⟩=some (.string y.tg)∧d.cell? ⟨w.heap.size+1,6,none⟩=some (.slice a' y.es.length c'))∧L7 d g (aC x) Z c1∧L7 d h (aC y) a2 c2∧Up p w d)
   case first=>
    by_cases f:y.k=13
    ·have t13:(y.k==13)=true:=by simp[f]
     have h1:=HH.out.2.1.form.iW f;obtain⟨e,he⟩:=dD h1;have l:=Lib.hid (iV f he);have hl:0<y.es.length:=by omega
     have Qa:(0:Int)<y.es.length:=by omega
     obtain⟨b,o,rfl⟩:=PV.list.bN (by omega);obtain⟨a5,c5,h7,PM⟩:=PV.list.get 0 (by omega);have PN:y.es[0]'(by omega)=e:=by simp[he]
     simp only[PN,Nat.zero_mul,Nat.add_zero]at h7 PM;obtain⟨z0,z1,z2,z3,z4,z5,z6⟩:TS.C7 wc b o e a5 c5:=h7.world u.kw;have hb:=u.kw.lt h7.1;have Qd:∀o,p h o=none:=fun o=>hw.aJ (by omega) o;have Qg:b≠h:=fun e=>by have:=h7.1;rw[e,Qd]at this;cases this
     have Qc:=Lib.hid he;clear he f h1 h7 PN HH;go_wp2_with fail
     go_meet
     rw[l.out];refine⟨a5,c5,PM,?_,?_,?_,?_,?_⟩
     ·(repeat' apply And.intro)<;>(simp[go_sem, *];done)
     ·(repeat' apply And.intro)<;>(simp[go_sem, *];done)
     ·(repeat' apply And.intro)<;>(simp[go_sem, *];done)
     ·(repeat' apply And.intro)<;>(simp[go_sem, *];done)
     ·refine qD hw ?_
      repeat(refine Below.setCell ?_ (by simp;omega) _)
      exact u.up
    ·have t13:(y.k==13)=false:=by simp[f]
     have l:=Lib.hid (dY f);clear f;go_wp2_with fail
     go_meet
     rw[l.out];exact⟨a',c',PV,⟨x0,x1,x2,x3,x4,x5,x6⟩,⟨y0,y1,y2,y3,y4,y5,y6⟩,⟨u0,u1,u2,u3,u4,u5,u6⟩,⟨v0,v1,v2,v3,v4,v5,v6⟩,u⟩
   case rest=>
    clear x0 x1 x2 x3 x4 x5 x6 y0 y1 y2 y3 y4 y5 y6 u0 u1 u2 u3 u4 u5 u6 v0 v1 v2 v3 v4 v5 v6 fg fh u;obtain⟨a2,c2,PX,⟨x0,x1,x2,x3,x4,x5,x6⟩,⟨y0,y1,y2,y3,y4,y5,y6⟩,⟨u0,u1,u2,u3,u4,u5,u6⟩,⟨v0,v1,v2,v3,v4,v5,v6⟩,u⟩:=hcut;obtain⟨T,V,X,Y,J,L⟩:=HH.out;obtain⟨pA,s,hA12,hA13⟩:=T.aC PY;obtain⟨pB,t,E,F⟩:=V.aC PZ;have G:=X.aC;have H:=Y.aC;have hR:Hid (r=if isIface (aC x)||isIface (aC y)then true else if x.k=13 then !aB (aC x) (under (aC y))else if y.k=13 then !aB (under (aC x)) (aC y)else !aB (aC x) (aC y)):=P8.out;clear HH T V X Y P8 PU PV PY PZ;generalize aC x=A at*;generalize aC y=B at*;have PO:=fun W M=>iA p D dc A pA 2 Z c1 W s (by omega) (by omega) hA12 hA13 PW M;have PQ:=fun W M=>iA p D dc B pB 2 a2 c2 W t (by omega) (by omega) E F PX M;cases hA:isIface A
    case true=>
     have N:=fun W M=>aW (PO W M) hA;have hF:Hid (true=r):=by unfold Hid;rw[hR.out,hA];rfl
     clear PO PQ J L s t G H;go_wp2_with fail
     refine(N _ u.kw).mono ?_;rintro e1 w3 ⟨rfl,i⟩;have hB:=Lib.hid (u.step i).up;clear i N;go_wp2_with fail
     go_ret;exact⟨_,rfl,hF.out,hB.out⟩
    have N:=fun W M=>aW (PO W M) hA;obtain⟨P,I⟩:=J hA;cases Q:isIface B
    case true=>
     have PR:=fun W M=>aW (PQ W M) Q;have hF:Hid (true=r):=by unfold Hid;rw[hR.out,hA,Q];rfl
     clear PO PQ J L s t G H P I;go_wp2_with fail
     refine(N _ u.kw).mono ?_;rintro e1 w3 ⟨rfl,i⟩;have R:=u.step i;obtain⟨q0,q1,q2,q3,q4,q5,q6⟩:TS.L7 w3 h B a2 c2:=by
      repeat' apply And.intro
      all_goals exact cell_kept i (by assumption)
     clear i N;go_wp2_with fail
     refine(PR _ R.kw).mono ?_;rintro e1 w4 ⟨rfl,z⟩;have hB:=Lib.hid (R.step z).up;clear z PR;go_wp2_with fail
     go_ret;exact⟨_,rfl,hF.out,hB.out⟩
    have PR:=fun W M=>aW (PQ W M) Q;obtain⟨PS,O⟩:=L Q;have S:Hid (r=if x.k=13 then !aB A (under B)else if y.k=13 then !aB (under A) B else !aB A B):=by unfold Hid;rw[hR.out,hA,Q];rfl
    clear PO PQ J L hR hA Q;go_upto_if 25 with(first|(go_at_call 22;(with_reducible refine(N _ u.kw).mono ?_);rintro e1 w3 ⟨rfl,i⟩;have R:=u.step i;obtain⟨q0,q1,q2,q3,q4,q5,q6⟩:(w3.cell? ⟨h,0,none⟩=some (.int .i64 B.k)∧w3.cell? ⟨h,1,none⟩=some (.int .i64 B.n)∧w3.cell? ⟨h,2,none⟩=some (.int .i64 B.m)∧w3.cell? ⟨h,3,none⟩=some (.bool B.v)∧w3.cell? ⟨h,4,none⟩=some (.string B.nm)∧w3.cell? ⟨h,5,none⟩=some (.string B.tg)∧w3.cell? ⟨h,6,none⟩=some (.slice a2 B.es.length c2)):=(by(repeat' apply And.intro)<;>exact cell_kept i (by assumption)))|(go_at_call 22;(with_reducible refine(PR _ R.kw).mono ?_);rintro e1 w4 ⟨rfl,z⟩))
    clear q0 q1 q2 q3 q4 q5 q6;have P1:=R.step z;obtain⟨m0,m1,m2,m3,m4,m5,m6⟩:TS.L7 w4 g A Z c1:=by
     repeat' apply And.intro
     all_goals exact cell_kept z (cell_kept i (by assumption))
    obtain⟨n0,n1,n2,n3,n4,n5,n6⟩:TS.L7 w4 h B a2 c2:=by
     repeat' apply And.intro
     all_goals exact cell_kept z (cell_kept i (by assumption))
    have xk:w4.cell? ⟨w.heap.size,0,none⟩=some (.int .i64 x.k):=cell_kept z (cell_kept i x0);have yk:w4.cell? ⟨w.heap.size+1,0,none⟩=some (.int .i64 y.k):=cell_kept z (cell_kept i y0);clear i z N PR u R x0 x1 x2 x3 x4 x5 x6 y0 y1 y2 y3 y4 y5 y6 u0 u1 u2 u3 u4 u5 u6 v0 v1 v2 v3 v4 v5 v6;have ag:=P1;by_cases kx:x.k=13
    ·have t13:(x.k==13)=true:=by simp[kx]
     have hF:Hid (r= !aB A (under B)):=by unfold Hid;rw[S.out,if_pos kx]
     obtain⟨fu,P2,P_,C,P3,_⟩:=t.under (by omega) (by omega) E F;have hC:=Lib.hid (mz D dc NS P0 A (under B) _ _ _ _ s (by omega) hA12 hA13 C P2 C.form.aE.1 C.form.aE.2 P O G H.under);have P4:=fun W M=>jv p D dc B pB 2 a2 c2 W t (by omega) (by omega) E F PX M;clear S kx s t C P3 P I PS O G H;go_wp2_with fail
     refine oR (fun W=>(W.cell? ⟨g,0,none⟩=some (.int .i64 A.k)∧W.cell? ⟨g,1,none⟩=some (.int .i64 A.n)∧W.cell? ⟨g,2,none⟩=some (.int .i64 A.m)∧W.cell? ⟨g,3,none⟩=some (.bool A.v)∧W.cell? ⟨g,4,none⟩=some (.string A.nm)∧W.cell? ⟨g,5,none⟩=some (.string A.tg)∧W.cell? ⟨g,6,none⟩=some (.slice Z A.es.length c1))∧(W.cell? ⟨h,0,none⟩=some (.int .i64 B.k)∧W.cell? ⟨h,1,none⟩=some (.int .i64 B.n)∧W.cell? ⟨h,2,none⟩=some (.int .i64 B.m)∧W.cell? ⟨h,3,none⟩=some (.bool B.v)∧W.cell? ⟨h,4,none⟩=some (.string B.nm)∧W.cell? ⟨h,5,none⟩=some (.string B.tg)∧W.cell? ⟨h,6,none⟩=some (.slice a2 B.es.length c2))∧Up p w W) [(0,true),(1,true),(2,true),(3,true),(4,false),(5,false),(6,true),(7,true)] oK (fun j=> ?_);repeat(first|(refine oS ?_;try simp only[Act.put,oa,ob,oc])|(refine oF j ?_;try simp only[Act.put,oa,ob,oc])|(refine oL fun K hK=> ?_;go_simp;first|(go_at_call 11;(with_reducible refine(P4 _ (Up.kw (by first|assumption|exact ag.drew))).mono ?_);rintro e1 w5 ⟨q,a6,c6,rfl,P5,P6,P7,aa⟩;(try simp only[]);refine hK _ _ oK fun j=> ?_;clear hK K;try simp only[Act.put,oa,ob,oc])|(go_at_call 49;obtain⟨⟨s0,s1,s2,s3,s4,s5,s6⟩,⟨r0,r1,r2,r3,r4,r5,r6⟩,sU⟩:=j;(refine(hC.out q Z c1 a6 c6 _ (ak.sub P5.le _ PW) P7 P6).mono ?_);rintro e1 w6 ⟨b,rfl,hb,aa⟩;(try simp only[]);refine hK _ _ oK fun j=> ?_;clear hK K;try simp only[Act.put,oa,ob,oc])))
     refine ch ?_;have hB:=Lib.hid j.2.2.up;have PT:Hid ((!b)=r):=by unfold Hid;rw[hF.out,hb.out]
     clear j hb hF aa;go_wp2_with fail
     go_ret;exact⟨_,rfl,PT.out,hB.out⟩
    have t13:(x.k==13)=false:=by simp[kx]
    by_cases ky:y.k=13
    ·have t14:(y.k==13)=true:=by simp[ky]
     have hF:Hid (r= !aB (under A) B):=by unfold Hid;rw[S.out,if_neg kx,if_pos ky]
     obtain⟨fu,P2,P_,C,P3,_⟩:=s.under (by omega) (by omega) hA12 hA13;have hC:=Lib.hid (mz D dc NS P0 (under A) B _ _ _ _ C P2 C.form.aE.1 C.form.aE.2 t (by omega) E F I PS G.under H);have P4:=fun W M=>jv p D dc A pA 2 Z c1 W s (by omega) (by omega) hA12 hA13 PW M;clear S kx ky s t C P3 P I PS O G H;go_wp2_with fail
     refine oR (fun W=>(W.cell? ⟨g,0,none⟩=some (.int .i64 A.k)∧W.cell? ⟨g,1,none⟩=some (.int .i64 A.n)∧W.cell? ⟨g,2,none⟩=some (.int .i64 A.m)∧W.cell? ⟨g,3,none⟩=some (.bool A.v)∧W.cell? ⟨g,4,none⟩=some (.string A.nm)∧W.cell? ⟨g,5,none⟩=some (.string A.tg)∧W.cell? ⟨g,6,none⟩=some (.slice Z A.es.length c1))∧(W.cell? ⟨h,0,none⟩=some (.int .i64 B.k)∧W.cell? ⟨h,1,none⟩=some (.int .i64 B.n)∧W.cell? ⟨h,2,none⟩=some (.int .i64 B.m)∧W.cell? ⟨h,3,none⟩=some (.bool B.v)∧W.cell? ⟨h,4,none⟩=some (.string B.nm)∧W.cell? ⟨h,5,none⟩=some (.string B.tg)∧W.cell? ⟨h,6,none⟩=some (.slice a2 B.es.length c2))∧Up p w W) [(0,true),(1,true),(2,true),(4,true),(3,false),(5,false),(6,true),(7,true)] oK (fun j=> ?_);repeat(first|(refine oS ?_;try simp only[Act.put,oa,ob,oc])|(refine oF j ?_;try simp only[Act.put,oa,ob,oc])|(refine oL fun K hK=> ?_;go_simp;first|(go_at_call 11;(with_reducible refine(P4 _ (Up.kw (by first|assumption|exact ag.drew))).mono ?_);rintro e1 w5 ⟨q,a6,c6,rfl,P5,P6,P7,aa⟩;(try simp only[]);refine hK _ _ oK fun j=> ?_;clear hK K;try simp only[Act.put,oa,ob,oc])|(go_at_call 49;obtain⟨⟨s0,s1,s2,s3,s4,s5,s6⟩,⟨r0,r1,r2,r3,r4,r5,r6⟩,sU⟩:=j;(refine(hC.out q a6 c6 a2 c2 _ P7 (ak.sub P5.le _ PX) P6).mono ?_);rintro e1 w6 ⟨b,rfl,hb,aa⟩;(try simp only[]);refine hK _ _ oK fun j=> ?_;clear hK K;try simp only[Act.put,oa,ob,oc])))
     refine ch ?_;have hB:=Lib.hid j.2.2.up;have PT:Hid ((!b)=r):=by unfold Hid;rw[hF.out,hb.out]
     clear j hb hF aa;go_wp2_with fail
     go_ret;exact⟨_,rfl,PT.out,hB.out⟩
    ·have t14:(y.k==13)=false:=by simp[ky]
     have hF:Hid (r= !aB A B):=by unfold Hid;rw[S.out,if_neg kx,if_neg ky]
     have hC:=Lib.hid (mz D dc NS P0 A B _ _ _ _ s (by omega) hA12 hA13 t (by omega) E F P PS G H p);clear S kx ky s t P I PS O G H;go_wp2_with fail
     refine(hC.out Z c1 a2 c2 _ PW PX P1.kw).mono ?_;rintro e1 w6 ⟨b,rfl,hb,aa⟩;have hB:=Lib.hid (P1.step aa).up;have PT:Hid ((!b)=r):=by unfold Hid;rw[hF.out,hb.out]
     clear hb hF aa;go_wp2_with fail
     go_ret;exact⟨_,rfl,PT.out,hB.out⟩
end Go.Proofs.YtdkmnkjhhhmglaaGreatDoor
