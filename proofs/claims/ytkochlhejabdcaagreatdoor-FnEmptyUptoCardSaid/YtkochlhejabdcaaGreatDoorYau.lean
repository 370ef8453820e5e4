import Derived.Test.YtkochlhejabdcaaGreatDoorYap
import Derived.Test.YtkochlhejabdcaaGreatDoorYar
import Derived.Test.YtkochlhejabdcaaGreatDoorYat
set_option maxRecDepth 100000
set_option maxHeartbeats 8000000
set_option linter.all false
namespace Go.Proofs.YtkochlhejabdcaaGreatDoor
open Go.RowKit TS
theorem nL(x y:R3):ltOf g_ x y=bF x.1 y.1:=by
 unfold ltOf g_;cases bF x.1 y.1<;>rfl
theorem zM:Sort.SWO (ltOf g_) where
 irrefl x:=by rw[nL];exact jo _
 trans x y z h k:=by rw[nL]at*;exact iA h k
 ntrans x y z h k:=by
  rw[nL]at*;cases a:bF x.1 z.1
  ·rfl
  ·cases b:bF y.1 x.1
   ·have e:=gV.1 (kO h b)
    unfold bF at*;rw[e,k]at a;cases a
   ·have:=iA b a;rw[this]at k;cases k
theorem zN{enc:R3→List Value}{k g n:Nat}{d:Array R3}{os:Array Obj}{B:Nat}{a W:World}(h:Below B a W)(e:B≤g)(f:B≤W.heap.size):Below B a (sortWorldK enc k W g 0 n d os):=by
 refine⟨h.os,h.tape,h.output,?_,fun b c=> ?_⟩
 ·unfold sortWorldK
  rw[Sort.size_grow,Sort.size_putRowK];exact Nat.le_trans h.size (Nat.le_add_right _ _)
 ·rw[←h.block b c]
  unfold sortWorldK;rw[Sort.heap_grow_old _ _ (by rw[Sort.size_putRowK];show b<W.heap.size;omega)];unfold Sort.putRowK Sort.putRow Sort.mapBlock;simp only[Sort.ahead];rw[Array.getElem?_modify,if_neg zo]
theorem tE(L:List R3)(j:Nat)(u:Value)(h:(aX L)[j]?=some u):(Sort.flatK bT 7 L.toArray)[j]! =u∧j<(Sort.flatK bT 7 L.toArray).size:=by
 have b:j<L.length*7:=by rw[←gh];exact(List.getElem?_eq_some_iff.1 h).1
 have a:j / 7<L.length:=zo;have hr:j % 7<7:=Nat.mod_lt _ zd;have:=sZ L (j / 7) (j % 7) a hr;rw[show j / 7*7+j % 7=j by omega,h]at this;refine⟨?_,by simp;omega⟩;rw[Sort.get_flatK _ _ _ _ (by simpa using b)];rw[getElem!_pos L.toArray (j / 7) (by simpa using a)];have e:(bT L[j / 7])[j % 7]?=some u:=this.symm;obtain⟨h1,c⟩:=List.getElem?_eq_some_iff.1 e;rw[show L.toArray[j / 7]=L[j / 7] by simp,getElem!_pos (bT L[j / 7]) (j % 7) h1,c]
theorem zO{p q:Pm}{D:Dl}{NS:List (List UInt8)}{w wr:World}{v:Value}{L:List R3}(h:Own p q D NS w wr v L)
 (nM:∀(r cap:Nat)(d:Array R3)(W:World),Sort.HoldsK bT 7 W r 0 d→r<W.heap.size→d.size<4611686018427387904→
  Xk 66 #[.slice (Xa r 0) d.size cap,.func (.func 67) #[] #[]] W fun e k=>
   e= .returned (.tuple #[])∧∃d' n os,Sort.PermIn 0 d.size d d'∧Sort.SortedIn (ltOf g_) 0 d.size d'∧k=sortWorldK bT 7 W r 0 n d' os)
 (s:∀(a:Option Addr)(cap:Nat)(W:World),Xk 66 #[.slice a 0 cap,.func (.func 67) #[] #[]] W fun e k=>e= .returned (.tuple #[])∧k=W)
 (hl:L.length≤1048576):
 ∃a n c,v= .slice a n c∧n=(b7 (aL L)).length∧Xk 66 #[v,.func (.func 67) #[] #[]] wr fun e k=>
  e= .returned (.tuple #[])∧∃t,aN p t w∧KW t k∧aq t D (b7 (aL L)) a∧Below w w k:=by
 have hlen:(b7 (aL L)).length=L.length:=by unfold b7;rw[List.length_mergeSort,fD]
 rcases Nat.eq_zero_or_pos L.length with B|B
 ·have hL:L= []:=List.length_eq_zero_iff.1 B
  have key:∀a c,v= .slice a 0 c→(∀x,a=some x→x.spot=none)→∃a n c,v= .slice a n c∧n=(b7 (aL L)).length∧Xk 66 #[v,.func (.func 67) #[] #[]] wr fun e k=>
   e= .returned (.tuple #[])∧∃t,aN p t w∧KW t k∧aq t D (b7 (aL L)) a∧Below w w k:=fun a c l K=>by
   refine⟨a,0,c,l,by rw[hlen,B],?_⟩;rw[l];refine(s a c wr).mono ?_;rintro e k ⟨rfl,rfl⟩;exact⟨rfl,q,h.gr,h.kw,by rw[hL,show b7 (aL [])= [] by simp[aL,b7]];exact aq.ix K,h.up⟩
  rcases h.own.2 with⟨l,_⟩|⟨g,cap,cur,l,_⟩
  ·exact key none 0 l fun x C=>by cases C
  ·rw[B]at l
   exact key (Xa g 0) cap l fun x C=>by cases C;rfl
 ·obtain⟨g,cap,l,X,Y,hn,hc,y,M⟩:=gZ h.own B
  have N:=h.aF g (by rw[l];rfl);have hH:Sort.HoldsK bT 7 wr g 0 L.toArray:=fun j J=>by
   have z:j<(aX L).length:=by rw[gh];simpa using J
   obtain⟨O,_⟩:=tE L j _ (List.getElem?_eq_getElem z);rw[Nat.zero_add,O];exact⟨y j _ (List.getElem?_eq_getElem z),M j z⟩
  refine⟨.some (Xa g 0),L.length,cap,l,hlen.symm,?_⟩;rw[l];have Z:=nM g cap L.toArray wr hH Y zp;simp only[List.size_toArray]at Z;refine Z.mono ?_;rintro e k ⟨rfl,d',n,os,hp,K,rfl⟩;obtain⟨f,rfl⟩:∃f:List R3,d'=f.toArray:=⟨d'.toList,by simp⟩
  have E:f.length=L.length:=by have:=hp.1;simpa using this
  have m:f.Perm L:=by
   have:=hp.2.2;have e:List.take L.length f=f:=List.take_of_length_le zo;simpa [E,List.extract_eq_take_drop,e]using this
  have P:=holdsK_sortWorldK_c bT 7 wr g 0 L.toArray f.toArray n os hH Y (by simpa using E);have F:(aL L).Perm (aL f):=(m.map _).symm;have G:dH (aL f):=F.pairwise h.two fun{a b} A=>by rw[pT];exact A
  have H:ef (aL f):=by
   have Q:(aL f).Pairwise fun a b=>bF b a=false:=by
    rw[List.pairwise_iff_getElem];intro i j hi J R;rw[fD]at hi J;have:=K i j (Nat.zero_le _) R zo;rw[nL]at this;simpa [aL,getElem!_pos,hi,J]using this
   exact(Q.and G).imp fun{a b} ⟨h1,h2⟩=>by
    cases A:bF a b
    ·have:=kO A h1;rw[this]at h2;cases h2
    ·rfl
  have heq:aL f=b7 (aL L):=pV h.two F H;have I:dX q D f:=fun x C=>h.all x (m.subset C);have S:Below w w (sortWorldK bT 7 wr g 0 n f.toArray os):=zN h.up X h.up.size;have T:KW q (sortWorldK bT 7 wr g 0 n f.toArray os):=fun b o u hu=>by
   have hb:=h.kw.lt hu;have U:b≠g:=fun e=>by rw[e,N o]at hu;cases hu
   unfold sortWorldK;rw[Sort.cell?_grow _ _ _ (by rw[Sort.size_putRowK];exact hb),Sort.cell?_putRowK_other _ _ _ _ _ _ _ U];exact h.kw b o u hu
  refine⟨rfl,q.add g (aX f).toArray,h.gr.trans (Pm.du N X) zl,T.add fun o u hu=> ?_,?_,S⟩
  ·have V:(aX f)[o]?=some u:=by simpa using hu
   obtain⟨O,e2⟩:=tE f o u V;have:=(P o e2).1;rw[Nat.zero_add,O]at this;exact this
  ·rw[←heq]
   refine lX (I.sub (Pm.cK N)) fun j u hu=> ?_;rw[Nat.zero_add,Pm.aU];simpa using hu
end Go.Proofs.YtkochlhejabdcaaGreatDoor
namespace Go.Proofs.YtkochlhejabdcaaGreatDoor
open Go.RowKit TS Tryz
theorem zP(a off size:Nat)(w:World):CmpLays Tryz.prog 67 #[] bT 7 g_ a off size w:=
 fun m os dk _ x y=>zF x.1 y.1 x.2.1 y.2.1 x.2.2 y.2.2 _
theorem zQ:∀w,(isAgg 25).run Tryz.prog w= .ok true w:=fun _=>by kernel_rfl
theorem zR:∀w,(Go.sizeOf 25).run Tryz.prog w= .ok 7 w:=fun _=>by kernel_rfl
theorem zS:tu:=fun p q D NS w wr v L h e=>by
 refine zO h ?_ ?_ e
 ·intro b cap d W hH f g
  have i:∀args w,(callFunc 67 args).run Tryz.prog w= .ok (.enter 67 args) w:=dG func67 zk rfl;exact AnyQ.slices_SortFunc Tryz.nM 7 zQ zR bT (fun _=>rfl) (fun x v c=>by simp only[bT,List.mem_cons,List.not_mem_nil,or_false]at c;rcases c with rfl|rfl|rfl|rfl|rfl|rfl|rfl<;>rfl) g_ zM 67 #[] b 0 cap d W i (zP _ _ _ _) hH f g
 ·intro a cap W
  exact AnyF.slices_SortFunc_none (P:=Tryz.prog) (ρ:=Tryz.tF) {Tryz.nM with} a cap _ W
theorem k9(D:Dl)(dc:Nat)(NS:List (List UInt8))(a:NS.length≤1048576)(u:U):tw D dc NS u:=zI zS D dc NS a u
end Go.Proofs.YtkochlhejabdcaaGreatDoor
namespace TS
open Go Go.RowKit Go.Proofs.Tryz
theorem Pl.ju{len:Nat}{u:U}{pos f:Nat}(h:Pl len u pos f)(m:f≤2)(hk:u.k=10):∃j,j≤2∧j≠0∧Pl len u 0 j:=by
 by_cases l:f=0
 ·subst l
  refine⟨1,by omega,by omega,?_⟩;rw[Pl];refine⟨?_,fun i hi=> ?_,fun n=>by omega⟩
  ·have hF:=h.form.iy zo zo 0
   cases hF with
   |iface a b c d e g=>exact .iface a b c d e g
   |pre a _=>omega
   |one a _ _=>omega
   |ptr a _ _ _=>omega
   |_=>omega
  ·have:=h.part i hi
   rwa [show aO u i 1=aO u i 0 by unfold aO;simp[hk]]
 ·exact⟨f,m,l,h.iy zo zo 0⟩
theorem Pl.cy{len:Nat}:∀{u:U}{pos f:Nat},Pl len u pos f→f≤2→f≠0→u.k≠12→u.k≠13→∀m∈an u,m.k=7∧∃d,d≤2∧Pl len m 0 d:=by
 intro u;induction u using U.bc with
 |_ u ih=>
  intro pos f h o g i j m hm;obtain⟨d,p,n,b,_,_⟩:=h.under o g i j;obtain⟨c,hm⟩:=iS hm;rcases hm with hm|⟨e,he,a,hm⟩
  ·have:=b.jn c hm
   exact⟨this.1,_,by split<;>omega,this.2.2⟩
  ·have l:=b.elem c he
   have h1:=U.ar (List.mem_of_mem_drop he);have q:=dp u;unfold aW at a;simp only[Bool.and_eq_true,bne_iff_ne,ne_eq]at a;exact ih e zo l zo zo a.1.1 a.1.2 m hm
end TS
namespace Go.Proofs.YtkochlhejabdcaaGreatDoor
open Go.RowKit TS Tryz
theorem zU(p:Pm)(D:Dl)(dc:Nat)(NS:List (List UInt8))(h:NS.length≤1048576)(x y:U)(Y F Z G:Nat)(a:Option Addr)(c:Nat)(a':Option Addr)(c':Nat)(w:World)
 (i:Pl D.len x Y F)(u:F≤2)(e:F≠0)(PG:x.k=10)(j:Pl D.len y Z G)(v:G≤2)(g:G≠0)(PH:y.k=10)(H:bd x=false)(I:bd y=false)(z:Names NS x)(A:Names NS y)
 (J:ai p D x a c)(L:ai p D y a' c')(hw:KW p w)(hI:∀f∈an x,∀m∈an y,∀q,j_ q D dc f m):
 Xk 35 #[Xd D dc,Xt x a c,Xt y a' c'] w (RB (decide ((an x).length=(an y).length)&&hasB (an x) (an y)) w):=by
 have ae:Up p w ((w.alloc (Xt x a c)).alloc (Xt y a' c')):=((Up.refl hw).alloc _).alloc _;have M:=fun W l=>aT (lS D dc x p Y F a c W i u e zo zo J l) H;have N:=fun W l=>aT (lS D dc y p Z G a' c' W j v g zo zo L l) I;have O:=fun W (l:KW p W)=>k9 D dc NS h x p Y F a c W i u e zo zo z J l;have P:=zh fun(q:Pm) W (hs:Sub p q) (l:KW q W)=>k9 D dc NS h y q Z G a' c' W j v g zo zo A (ai.sub hs _ L) l;have PI:(an x).length≤1048576:=Nat.le_trans (j7 (kZ i u e zo zo).noTwo fun m hm=>(z.cy m hm).1) h;have PJ:(an y).length≤1048576:=Nat.le_trans (j7 (kZ j v g zo zo).noTwo fun m hm=>(A.cy m hm).1) h;generalize an x=B at*;generalize an y=C at*;have PK:=zh hI;clear hI i j PG PH z A H I;go_enter func35,ntmps35;go_wp2_with fail
 refine(M _ ae.kw).mono ?_;rintro n w1 ⟨rfl,aa⟩;have E:=ae.step aa;obtain⟨x0,x1,x2,x3,x4,x5,x6⟩:TS.L7 w1 w.heap.size x a c:=by
  repeat' apply And.intro
  all_goals exact cell_kept aa zq
 obtain⟨y0,y1,y2,y3,y4,y5,y6⟩:TS.L7 w1 (w.heap.size+1) y a' c':=by
  repeat' apply And.intro
  all_goals exact cell_kept aa zq
 clear aa M;go_wp2_with fail
 refine(N _ E.kw).mono ?_;rintro n w2 ⟨rfl,aa⟩;have PL:=E.step aa;clear ae;have ae:=PL;obtain⟨u0,u1,u2,u3,u4,u5,u6⟩:TS.L7 w2 w.heap.size x a c:=by
  repeat' apply And.intro
  all_goals exact cell_kept aa za
 obtain⟨v0,v1,v2,v3,v4,v5,v6⟩:TS.L7 w2 (w.heap.size+1) y a' c':=by
  repeat' apply And.intro
  all_goals exact cell_kept aa za
 clear aa E N x0 x1 x2 x3 x4 x5 x6 y0 y1 y2 y3 y4 y5 y6;go_wp2_with fail
 refine oR (fun W=>(Xl W w x a c)∧(Xl W (w+1) y a' c')∧Up p w W) [(0,true),(1,true),(3,true),(4,true),(2,false),(5,false),(6,true),(7,true)] oK (fun d=> ?_);repeat(first|(refine oS ?_;try simp only[Act.put,oa,ob,oc])|(refine oF d ?_;try simp only[Act.put,oa,ob,oc])|(refine oL fun K V=> ?_;go_simp;first|(go_at_call 27;(with_reducible refine(O _ (Up.kw (by first|assumption|exact ae.drew))).mono ?_);rintro n w3 ⟨q1,a1,n1,c1,rfl,o,PM,PN,Q,aa⟩;clear O;(try simp only[]);refine V _ _ oK fun d=> ?_;clear V K;try simp only[Act.put,oa,ob,oc])|(go_at_call 27;(with_reducible refine(P.out q1 _ PM.le PN).mono ?_);rintro n w4 ⟨q2,a2,n2,c2,rfl,r,PO,PQ,R,PR⟩;have aa:=PR;obtain⟨⟨s0,s1,s2,s3,s4,s5,s6⟩,⟨r0,r1,r2,r3,r4,r5,r6⟩,sU⟩:=d;clear P;(try simp only[]);refine V _ _ oK fun d=> ?_;clear V K;try simp only[Act.put,oa,ob,oc])))
 refine bZ ?_;have S:=d.2.2;have s:=aq.sub PO.le _ Q;have hA:=fun W (l:KW q2 W)=>qk q2 D dc B C a1 n1 c1 a2 n2 c2 W o.out r.out PI PJ s R l fun f hf m hm=>PK.out f hf m hm q2;clear d Q R s;have n:=o.out;have X:=r.out;by_cases he:B.length=C.length
 ·have t:((n1:Int)==n2)=true:=by rw[n,X,he];simp
  have hF:Hid (hasB B C=(decide (B.length=C.length)&&hasB B C)):=by unfold Hid;rw[decide_eq_true he];rfl
  clear n X he o r;go_wp2_with fail
  refine(hA _ PQ).mono ?_;rintro n w6 ⟨b,rfl,hb,T⟩;have hB:=(S.step T).up;clear T hA;go_wp2_with fail
  go_ret;exact⟨_,rfl,hb.out.trans hF.out,hB⟩
 ·have t:((n1:Int)==n2)=false:=by rw[n,X];simp;omega
  have hF:Hid (false=(decide (B.length=C.length)&&hasB B C)):=by unfold Hid;rw[decide_eq_false he];rfl
  clear n X he o r hA;go_wp2_with fail
  go_ret;exact⟨_,rfl,hF.out,S.up⟩
end Go.Proofs.YtkochlhejabdcaaGreatDoor
