import Derived.Test.YtkochlhejabdcaaGreatDoorYbb
set_option maxRecDepth 100000
set_option maxHeartbeats 8000000
set_option linter.all false
namespace Go.Proofs.YtkochlhejabdcaaGreatDoor
open Go.RowKit TS Tryz
def p_:Value:= .agg #[.int .i64 0,.int .i64 0,.int .i64 0,.bool false,.string ⟨#[]⟩,.string ⟨#[]⟩,.slice none 0 0,.slice none 0 0]
theorem tk:(Tryz.prog.info? 36).map (fun i=>(i.zero,i.size,i.bytes))=some (some p_,8,112):=zk
def RD(p:Pm)(D:Dl)(ds:List aC)(w:World)(e:Ending)(c:World):Prop:=
 ∃v L,e= .returned v∧Hid (cI L=ds)∧eK p D L∧Hid (∀b o,D.a= .some (Xa b o)→∀j u,(bz L)[j]?=some u→p b (o+j)=some u)∧c.ownsRow w 36 8 v L.length (bz L)∧Below w w c
theorem zH(p:Pm)(D:Dl)(dc:Nat)(ds:List aC)(w:World)(l:ca p D ds)(hw:KW p w):
 Xk 68 #[Xd D dc] w (RD p D ds w):=by
 have B:=l.len;have O:=l.jV;obtain⟨a,n⟩:=D;cases a with
 |none=>
  have Q:ds= []:=by
   cases ds with
   |nil=>rfl
   |cons e r=>obtain⟨b,o,h⟩:=l.bg zs;cases h
  subst Q;simp only[List.length_nil]at B;obtain rfl:n=0:=zo;have hr:RD p ⟨none,0⟩ [] w (.returned (.slice none 0 0)) w:=⟨_,[],rfl,rfl,(fun x R=>by cases R),(fun b o h=>by cases h),World.ownsRow_nil _ _ _ _,Below.refl _ _⟩
  have E:=zh hr;clear hr l;have t:=fun(w:World)=>Lib.run_eql_slice_nil (P:=Tryz.prog) w 22 36 none 0 dc 0 0 underlying22;go_enter func68,ntmps68;go_wp2_with fail
  go_ret;exact E.out
 |some x=>
  obtain⟨L,d,C,F,v⟩:∃L,cI L=ds∧eK p ⟨some x,n⟩ L∧Hid (∀b o,(⟨some x,n⟩:Dl).a= .some (Xa b o)→∀j u,(bz L)[j]?=some u→p b (o+j)=some u)∧∀j u,(bz L)[j]?=some u→w.cell? (x.add j)=some u∧(x.add j).block<w.heap.size:=by
   obtain⟨b,o,s⟩:=x;obtain rfl:=l.spot _ rfl;obtain⟨L,d,C,v⟩:=zG l rfl;refine⟨L,d,C,(fun T U e j u hu=>by cases e;exact v j u hu),fun j u hu=> ?_⟩;have:=hw _ _ _ (v j u hu);rw[show((Xa b o):Addr).add j=(Xa b (o+j)) by unfold Addr.add;split<;>simp_all];exact⟨this,zb this⟩
  have m:L.length=n:=by rw[←d]at B;simpa [cI]using B
  have G:Hid (∀j u,(bz L)[j]?=some u→(w.alloc (.cells #[] 36)).cell? (x.add j)=some u):=fun j u hu=>by
   have:=v j u hu;rw[World.cell?_alloc_lt _ _ _ this.2];exact this.1
  have H:=zh C;have y:=zh d;have h1:=zh (th L);have hlen:=zh (show(bz L).length=n*8 by rw[kX,m]);have i:(w.alloc (.cells #[] 36)).ownsRow w 36 8 (.slice (Xa w 0) 0 0) 0 []:=World.ownsRow_made w #[] 0 zl (by unfold maxLen;omega) zs;have q:=zh i;have aa:n≤1048576:=zo;have z:=zh m;clear C d v B O i m l;obtain⟨i0,hi,I,J,K⟩:=info_parts tk;have t:=fun(w:World)=>Lib.run_eql_slice_nil (P:=Tryz.prog) w 22 36 (some x) n dc 0 0 underlying22;go_enter func68,ntmps68;go_wp2_with (at_builtin;refine wpList_append_own _ rfl _ _ 22 rfl w.heap.size 36 i0 p_ 8 112 underlying22 hi I J K rfl zd _ _ _ rfl q.out x n dc (bz L) rfl hlen.out G.out h1.out ?c3 ?c4 ?c5 ?_)
  case c3=>unfold maxLen;omega
  case c4=>omega
  try(case c5=>simp)
  intro S N f A _;have c:N.ownsRow w 36 8 S L.length (bz L):=by rw[z.out];simpa only[Nat.zero_add,List.nil_append]using f
  have g:=zh c;clear c;have M:Below w w N:=((Below.refl w.heap.size w).alloc zl _).grown A zs fun k hk=>by simp[Value.ownBlock]at hk;omega
  clear f A;go_wp2_with fail
  go_ret;exact⟨_,L,rfl,y.out,H.out,F.out,g.out,M⟩
end Go.Proofs.YtkochlhejabdcaaGreatDoor
namespace TS
open Go Go.RowKit Go.Proofs.Tryz
def tZ(x:Bool×U):U:=if x.1 then x.2 else bare x.2
def a7(e:U):List U:=((if e.k=12 then e.es else [e]).flatMap dO).map tZ
theorem As{l:List U}{f g:U→List U}(h:∀x∈l,f x=g x):l.flatMap f=l.flatMap g:=by
 induction l with
 |nil=>rfl
 |cons a r ih=>rw[List.flatMap_cons,List.flatMap_cons,h a List.mem_cons_self,ih fun x b=>h x (List.mem_cons_of_mem _ b)]
theorem lg{e:U}(h:e.k≠12):a7 e=(dO e).map tZ:=by
 unfold a7;rw[if_neg h,List.flatMap_cons,List.flatMap_nil,List.append_nil]
theorem t_{e:U}(h:e.k=12)(a:∀x∈e.es,x.k≠12):a7 e=e.es.flatMap a7:=by
 unfold a7;rw[if_pos h,List.map_flatMap];exact As fun x b=>(lg (a x b)).symm
theorem ud{e x:U}(h:e.k=13)(he:e.es= [x]):a7 e= [x]:=by
 rw[lg zo];unfold dO aH;rw[if_pos h,if_pos h,he];rfl
theorem ue{e:U}(a:e.k≠12)(b:e.k≠13)(hi:isIface e=false):a7 e= [bare e]:=by
 rw[lg a];unfold dO;rw[if_neg b,hi];rfl
theorem ug{e:U}(a:e.k≠12)(b:e.k≠13)(hi:isIface e=true)(c:(under e).k≠10):a7 e= []:=by
 rw[lg a];unfold dO;rw[if_neg b,hi,kd c];rfl
theorem qz{e:U}(b:e.k≠12)(c:e.k≠13)(a:(under e).k=10):a7 e=((under e).es.drop (under e).m.toNat).flatMap a7:=by
 have hi:isIface e=true:=by unfold isIface;rw[a];rfl
 rw[lg b];unfold dO;rw[if_neg c,hi,if_pos rfl,mj a];unfold eU;rw[List.flatMap_assoc,List.map_flatMap];rfl
end TS
namespace Go.Proofs.YtkochlhejabdcaaGreatDoor
open Go.RowKit TS Tryz
structure Row(p q:Pm)(D:Dl)(w wr:World)(v:Value)(L:List R3):Prop where
 up:Below w w wr
 gr:aN p q w
 kw:KW q wr
 own:wr.ownsRow w 25 7 v L.length (aX L)
 all:dX q D L
 aF:∀g,v.ownBlock=some g→∀o,q g o=none
section
variable {p q q':Pm} {D:Dl} {w wr w1:World} {v v':Value} {L:List R3}
theorem Row.alloc(h:Row p q D w wr v L)(o:Obj):Row p q D w (wr.alloc o) v L:=
 {h with up:=h.up.alloc h.up.size o,kw:=h.kw.alloc o,own:=h.own.alloc o}
theorem Row.call(h:Row p q D w wr v L)(b:Below wr wr w1)(a:aN q q' wr)(hk:KW q' w1):Row p q' D w w1 v L:=
 {h with
  up:=h.up.trans (b.mono h.up.size),gr:=h.gr.trans a h.up.size,kw:=hk,own:=bw h.own b,all:=h.all.sub a.le
  aF:=fun g c o=>a.aF (h.own.lt g c).2 (h.aF g c) o}
theorem Row.iV(h:Row p q D w wr v L):∃i a c,v= .slice a L.length c∧KW i wr∧aN p i w∧aq i D (aL L) a:=by
 rcases Nat.eq_zero_or_pos L.length with f|f
 ·have l:L= []:=List.length_eq_zero_iff.1 f
  rcases h.own.2 with⟨d,_⟩|⟨g,cap,cur,d,_⟩
  ·exact⟨q,none,0,by rw[d,f],h.kw,h.gr,by rw[l];exact aq.nil⟩
  ·exact⟨q,.some (Xa g 0),cap,d,h.kw,h.gr,by rw[l];exact aq.nil⟩
 ·obtain⟨g,cap,d,n,r,s,t,e,_⟩:=gZ h.own f
  have m:=h.aF g (by rw[d];rfl);refine⟨q.add g (aX L).toArray,.some (Xa g 0),cap,d,h.kw.add fun o u hu=>e o u (by simpa using hu),h.gr.trans ⟨Pm.cK m,fun b o v d=> ?_⟩ n,lX (h.all.sub (Pm.cK m)) fun j u hu=> ?_⟩
  ·by_cases k:b=g
   ·exact .inr zo
   ·left
    unfold Pm.add at d;rwa [if_neg k]at d
  ·rw[Nat.zero_add,Pm.aU];simpa using hu
theorem Row.nU(h:Row p q D w wr v L){M:List R3}(c:w1.ownsRow w 25 7 v' (L.length+M.length) (aX L++aX M))(d:wr.grownBy w1 v.ownBlock)(f:v'.ownBlock=v.ownBlock∨v'.ownBlock=some wr.heap.size)
 (i:dX q D M):Row p q D w w1 v' (L++M) where
 up:=h.up.grown d h.up.size fun k hk=>(h.own.lt k hk).1
 gr:=h.gr
 kw:=fun b o u hu=>by
  rw[World.cell?_of_block (w:=wr) (d.block b (h.kw.lt hu) fun e=>by have:=h.aF b e.symm o;rw[this]at hu;cases hu)];exact h.kw b o u hu
 own:=by rw[List.length_append,p8];exact c
 all:=h.all.append i
 aF:=fun g a o=>by
  rcases f with e|e
  ·exact h.aF g (e▸a) o
  ·rw[e]at a;cases a;exact h.kw.aF zl o
end
theorem Row.nil{p:Pm}{D:Dl}{w wr:World}(b:Below w w wr){q:Pm}(a:aN p q w)(c:KW q wr):Row p q D w wr (.slice none 0 0) []:=
 ⟨b,a,c,World.ownsRow_nil _ _ _ _,fun x d=>(by cases d),fun g a=>(by cases a)⟩
theorem Row.one{p q:Pm}{D:Dl}{w wr:World}(b:Below w w wr)(e:aN p q w)(d:KW q wr){u:U}{a:Option Addr}{c:Nat}(hu:ai q D u a c):Row p q D w (wr.alloc (Xt u a c)) (.slice (Xa wr 0) 1 1) [(u,a,c)] where
 up:=b.alloc b.size _
 gr:=e
 kw:=d.alloc _
 own:=⟨rfl,.inr ⟨wr.heap.size,1,_,rfl,b.size,heap_alloc_new wr _,Nat.le_refl _,by decide,rfl,rfl⟩⟩
 all:=fun x f=>by
  obtain rfl:x=(u,a,c):=by simpa using f
  exact hu
 aF:=fun g h o=>by
  cases h;exact d.aF zl o
def RW(p:Pm)(D:Dl)(l:List U)(w:World)(e:Ending)(a:World):Prop:=∃q v L,e= .returned v∧Hid (aL L=l)∧Row p q D w a v L
theorem RW.list{p:Pm}{D:Dl}{l:List U}{w b:World}{e:Ending}(h:RW p D l w e b):RL p D l w e b:=by
 obtain⟨q,v,L,rfl,d,hr⟩:=h;obtain⟨g,a,c,rfl,hk,i,f⟩:=hr.iV;rw[d.out]at f;exact⟨g,a,_,c,rfl,by unfold Hid;rw[←d.out,fD],i,hk,f,hr.up⟩
def qA(D:Dl)(dc:Nat)(u:U):Prop:=
 ∀(p:Pm)(pos f:Nat)(a:Option Addr)(c:Nat)(w:World),Pl D.len u pos f→f≤2→f≠0→(u.k=12∨u.k=13→f=2)→(a7 u).length≤1048576→ai p D u a c→KW p w→
  Xk 71 #[Xd D dc,Xt u a c] w fun e b=>RL p D (a7 u) w e b∧(u.k≠13→RW p D (a7 u) w e b)
theorem uh{P:Program}(w:World)(base:Nat)(t ty e:TypeId)(i:TypeInfo)(h:P.underlying t=some (.slice e))(hi:P.info? e=some i)(size:Nat)(v:Value)(n:Nat)(xs:List Value)(b:w.ownsRow base e size v n xs)(a:Option Addr)(c:Nat):
 (Builtin.append_ #[t,t] ty #[v,.slice a 0 c]).run P w= .ok v w:=by
 rcases b.2 with⟨rfl,rfl⟩|⟨g,cap,cur,rfl,j,m,d,k,l,f⟩
 ·simp[Builtin.append_,run_underlying h,sizeOf,typeInfo,hi,Builtin.lenOf,Builtin.firstCells]
  cases a<;>simp[loadCells,loadCellsFrom]
 ·simp[Builtin.append_,run_underlying h,sizeOf,typeInfo,hi,Builtin.lenOf,Builtin.firstCells,d]
  cases a<;>simp[loadCells,loadCellsFrom,storeCells]
theorem Au{P:Program}{ops:Array Oper}{rest:List Oper}{o:Oper}{a:Act}{w:World}{Q:Exit→Act→World→Prop}(d:o.guard=none)(s x:Operand)(t:TypeId)
 (g:o.op= .call {callee:= .builtin .append,args:=#[s,x],argTypes:=#[t,t]})(base:Nat)(e:TypeId)(i:TypeInfo)(size:Nat)(j:P.underlying t=some (.slice e))(hi:P.info? e=some i)
 (v:Value)(n:Nat)(xs:List Value)(k:a.eval s=v)(b:w.ownsRow base e size v n xs)(f:Option Addr)(c:Nat)(l:a.eval x= .slice f 0 c)(h:wpList P ops Q rest (a.put o.dst v) w):wpList P ops Q (o::rest) a w:=by
 refine wpList_plain d fun K m=> ?_;have hr:=uh (P:=P) w base t o.type e i j hi size v n xs b f c;unfold Oper.wp execOp;simp only[g,resolve,invoke,builtin,Sem.run_bind,Sem.run_pure,Result.andThen_ok,List.map_toArray,List.map_cons,List.map_nil,k,l,hr];exact m _ _ h
theorem kh{P:Program}{code:Code}{Q:Exit→Act→World→Prop}{a:Act}{w:World}(R:World→Prop)(h:R w)(k:∀b,R b→code.wp P Q a b):code.wp P Q a w:=k w h
theorem ui(D:Dl)(dc:Nat):∀u,qA D dc u:=by
 intro u;induction u using U.bc with
 |_ u ih=>
  intro p pos f a c w hP hf C T hlen hu hw;have R:=fun W hk=>iQ p D u pos f a c W hP hu hk;have ae:Up p w (w.alloc (Xt u a c)):=(Up.refl hw).alloc _;by_cases g:u.k=13
  ·obtain⟨x,hx⟩:=cL (hP.form.gM g)
   have hT:=zh (show a7 u=u.es by rw[ud g hx,hx]);rw[bR zo zo]at R;have t13:(u.k==13)=true:=by simp[g]
   have Qr:=zh g;clear ih hP hlen hx g;go_enter func71,ntmps71;go_wp2_with fail
   refine(R _ ae.kw).mono ?_;rintro e1 w1 ⟨K,c1,rfl,l,aa⟩;have n:=ae.step aa;obtain⟨E,l1,l2,l3,l4,l5,l6⟩:=(dE w u a c 25).below aa;have S:=zb E;simp only at S;obtain⟨F,G⟩:=eS aa;clear R aa;go_wp2_with fail
   go_ret;refine⟨⟨p,K,_,c1,rfl,by unfold Hid;rw[hT.out],.refl _ _,?_,by rw[hT.out];exact l.list,?_⟩,fun h=>absurd Qr.out h⟩
   ·refine hw.grown ?_
    repeat(refine Below.setCell ?_ zs _)
    exact n.up
   ·repeat(refine Below.setCell ?_ zs _)
    exact n.up
  have t13:(u.k==13)=false:=by simp[g]
  have PZ:=zh hlen;have H:=zh hw;by_cases s:u.k=12
  case' pos=>
   have V:∀x∈u.es,x.k≠12∧Pl D.len x 1 2:=fun x hx=>by
    obtain⟨j,hj,rfl⟩:=List.getElem_of_mem hx;have h:=hP.part j hj;rw[show aS u j=1 by unfold aS;rw[if_pos s],T (.inl s),show aO u j 2=2 by unfold aO;rw[if_pos rfl]]at h;exact⟨fun hk=>by cases h.form<;>omega,h⟩
   have hF:=zh (t_ s fun x hx=>(V x hx).1);have hE:Hid (∀e∈u.es,∃pos',Pl D.len e pos' 2∧qA D dc e):=fun e he=>⟨1,(V e he).2,ih e (U.ar he)⟩
   have B:=hu.cap;rw[bR zo zo]at R;have t12:(u.k !=12)=false:=by simp[s]
   clear hP hf C T hlen ih g V s;generalize a7 u=r at*;go_enter func71,ntmps71;go_wp2_with fail
   refine(R _ ae.kw).mono ?_;rintro e1 w1 ⟨K,c1,rfl,l,aa⟩;have n:=ae.step aa;obtain⟨E,l1,l2,l3,l4,l5,l6⟩:=(dE w u a c 25).below aa;have S:=zb E;simp only at S;obtain⟨F,G⟩:=eS aa;clear R aa ae;go_wp2_with fail
   have hB:Below w w w1:=n.up;have t:Hid (∀wx,Below w w wx→Row p p D w wx (.slice none 0 0) []):=fun wx h=>Row.nil h (.refl _ _) (H.out.grown h);have P0:=zh B;have I:=zh l.list;generalize u.es=ds at*;clear l n B;have Qs:(ds.length:Int)≤1048576:=by have:=P0.out;omega
   obtain⟨q,hq⟩:∃q,q=p:=⟨_,rfl⟩
   rw[←hq]at I
  case' neg=>
   obtain⟨P,d,N,P1⟩:=hP.bare hf s g;have z:=P.form.aD;have X:under (bare u)=under u:=by unfold under;rw[bR d N]
   have PM:isIface (bare u)=isIface u:=by unfold isIface;rw[X]
   have hI:=fun a' c' W (h:ai p D (bare u) a' c') hW=>fM p D dc (bare u) 0 f a' c' W P hf C z.1 z.2 h hW;have Y:=fun a' c' W (h:ai p D (bare u) a' c') hW=>f_ p D dc (bare u) 0 f a' c' W P hf C z.1 z.2 h hW;have t12:((bare u).k !=12)=true:=by simp[z.1]
   have QC:((bare u).k==13)=false:=by simp[z.2]
   rw[PM]at hI;rw[X]at Y;cases hi:isIface u
   ·have hF:=zh (ue s g hi)
    have J:=zh fun a' c' W h hW=>aT (hI a' c' W h hW) hi;clear hP hf C T hlen ih g s hi hI Y P z d N P1 X PM t13;generalize a7 u=r at*;generalize bare u=v at*;go_enter func71,ntmps71;go_wp2_with fail
    refine(R _ ae.kw).mono ?_;rintro e1 w1 ⟨K,c1,rfl,l,aa⟩;have n:=ae.step aa;obtain⟨E,l1,l2,l3,l4,l5,l6⟩:=(dE w u a c 25).below aa;have S:=zb E;simp only at S;obtain⟨F,G⟩:=eS aa;have hB:Below w w w1:=n.up;clear R aa ae n;go_wp2_with fail
    refine(J.out K c1 _ l (H.out.grown ?kw)).mono ?_
    case kw=>
     repeat(refine Below.setCell ?_ zs _)
     exact hB
    rintro e2 w2 ⟨rfl,d⟩
    have A:=zh (Up.step (gL H.out (by repeat(refine Below.setCell ?_ zs _)
                                      exact hB)) d)
    obtain⟨x0,x1,x2,x3,x4,x5,x6⟩:TS.L7 w2 w.heap.size v K c1:=by
     repeat' apply And.intro
     all_goals exact TS.cell_kept d (by simp[go_sem,E,l1,l2,l3,l4,l5,l6];done)
    clear d J E l1 l2 l3 l4 l5 l6 F G S;go_wp2_with fail
    go_ret;have Z:Hid (aL [(v,K,c1)]=r):=by unfold Hid;rw[hF.out];rfl
    have hO:=Row.one (c:=c1) A.out.up (.refl _ _) A.out.kw l;exact⟨RW.list ⟨p,_,_,rfl,Z.out,hO⟩,fun _=>⟨p,_,_,rfl,Z.out,hO⟩⟩
   have J:=zh fun a' c' W h hW=>aT (hI a' c' W h hW) hi;have O:=zh Y;obtain⟨f',P9,PW,PN,hk,P2⟩:=hP.under hf C s g;cases bC:(under u).k==10
   ·have n10:((under u).k !=10)=true:=by simp[bne,bC]
    have hF:=zh (ug s g hi (by simpa using bC));clear hP hf C T hlen ih g s hi hI Y P z d N P1 X PM t13 PN hk P2 P9 PW bC;generalize a7 u=r at*;generalize under u=x at*;generalize bare u=v at*;go_enter func71,ntmps71;go_wp2_with fail
    refine(R _ ae.kw).mono ?_;rintro e1 w1 ⟨K,c1,rfl,l,aa⟩;have n:=ae.step aa;obtain⟨E,l1,l2,l3,l4,l5,l6⟩:=(dE w u a c 25).below aa;have S:=zb E;simp only at S;obtain⟨F,G⟩:=eS aa;have hB:Below w w w1:=n.up;clear R aa ae n;go_wp2_with fail
    refine(J.out K c1 _ l (H.out.grown ?kw)).mono ?_
    case kw=>
     repeat(refine Below.setCell ?_ zs _)
     exact hB
    rintro e2 w2 ⟨rfl,d⟩
    have A:=zh (Up.step (gL H.out (by repeat(refine Below.setCell ?_ zs _)
                                      exact hB)) d)
    obtain⟨x0,x1,x2,x3,x4,x5,x6⟩:TS.L7 w2 w.heap.size v K c1:=by
     repeat' apply And.intro
     all_goals exact TS.cell_kept d (by simp[go_sem,E,l1,l2,l3,l4,l5,l6];done)
    clear d J E l1 l2 l3 l4 l5 l6 F G S;go_wp2_with fail
    refine(O.out K c1 _ l A.out.kw).mono ?_;rintro e3 w3 ⟨q,a2,c2,rfl,hg,P3,PG,PH⟩;have PO:=zh (A.out.step PH);clear PH O hg P3 PG;go_wp2_with fail
    go_ret;have Z:Hid (aL []=r):=by unfold Hid;rw[hF.out];rfl
    have P_:=PO.out.alloc (Xt x a2 c2);have hO:=Row.nil (D:=D) P_.up (.refl p _) P_.kw;exact⟨RW.list ⟨p,_,_,rfl,Z.out,hO⟩,fun _=>⟨p,_,_,rfl,Z.out,hO⟩⟩
   have PQ:(under u).k=10:=by simpa using bC
   have n10:((under u).k !=10)=false:=by simp[bne,bC]
   have hF:=zh (qz s g PQ);obtain⟨Qt,Qa,h4⟩:=PN.form.jm PQ;have hE:Hid (∀e∈(under u).es.drop (under u).m.toNat,∃pos',Pl D.len e pos' 2∧qA D dc e):=fun e he=>⟨2,PN.elem PQ he,ih e (Nat.lt_of_lt_of_le (U.ar (List.mem_of_mem_drop he)) P2)⟩
   clear hP hf C T hlen ih g s hi hI Y P z d N P1 X PM t13 PN hk P2 P9 PW bC PQ;generalize a7 u=r at*;generalize under u=x at*;generalize bare u=v at*;go_enter func71,ntmps71;go_wp2_with fail
   refine(R _ ae.kw).mono ?_;rintro e1 w1 ⟨K,c1,rfl,l,aa⟩;have n:=ae.step aa;obtain⟨E,l1,l2,l3,l4,l5,l6⟩:=(dE w u a c 25).below aa;have S:=zb E;simp only at S;obtain⟨F,G⟩:=eS aa;have hB:Below w w w1:=n.up;clear R aa ae n;go_wp2_with fail
   refine(J.out K c1 _ l (H.out.grown ?kw)).mono ?_
   case' kw=>
    repeat(refine Below.setCell ?_ zs _)
    exact hB
   rintro e2 w2 ⟨rfl,d⟩
   have A:=zh (Up.step (gL H.out (by repeat(refine Below.setCell ?_ zs _)
                                     exact hB)) d)
   obtain⟨x0,x1,x2,x3,x4,x5,x6⟩:TS.L7 w2 w.heap.size v K c1:=by
    repeat' apply And.intro
    all_goals exact TS.cell_kept d (by simp[go_sem,E,l1,l2,l3,l4,l5,l6];done)
   clear d J E l1 l2 l3 l4 l5 l6 F G S;go_wp2_with fail
   refine(O.out K c1 _ l A.out.kw).mono ?_;rintro e3 w3 ⟨q,a2,c2,rfl,hg,P3,PG,PH⟩;have PO:=A.out.step PH;have B:=PG.cap;have Qb:=B.1;have Qu:max x.m 0=x.m:=zo;have Qc:x.m≤x.es.length:=zo;have PI:=zh PG.list;have t:=zh (Row.nil (D:=D) (PO.alloc (Xt x a2 c2)).up (hg.mono A.out.up.size) (P3.alloc (Xt x a2 c2)));clear PH O PO l x0 x1 x2 x3 x4 x5 x6 PG;have P4:x.m.toNat<c2∨c2=x.m.toNat:=zo;rcases P4 with P4|rfl
   case' inr=>
    have Qd:x.es.drop x.m.toNat= []:=List.drop_eq_nil_of_le zo;have Z:Hid (aL []=r):=by unfold Hid;rw[hF.out,Qd];rfl
    clear Qd hF hE;go_wp2_with fail
    refine wp_loop_rounds 1 ?_;rw[rounds_succ];go_wp2_with fail
    go_ret;exact⟨RW.list ⟨q,_,_,rfl,Z.out,t.out⟩,fun _=>⟨q,_,_,rfl,Z.out,t.out⟩⟩
   go_wp2_with fail
   have I:=PI.out.lR Qa Qb;rw[if_pos P4]at I;have I:=zh I;have Qs:((x.es.drop x.m.toNat).length:Int)≤1048576:=by rw[List.length_drop];omega
   have Qv:(x.es.drop x.m.toNat).length=x.es.length- x.m.toNat:=List.length_drop;clear B Qu Qc PI Qt h4 Qa Qb;generalize Option.map (fun y=>Addr.add y (x.m.toNat*7)) a2=a3 at*;generalize x.es.length- x.m.toNat=n2 at*;generalize x.es.drop x.m.toNat=ds at*;subst Qv
  all_goals
   go_loopw [7,41] (fun vo i wr=> ∃k L q',k≤ds.length∧i= .int .i64 k∧Row p q' D w wr vo L∧aL L=(ds.take k).flatMap a7∧Sub q q') (fun _ i _=>ds.length- (intOf i).toNat)
   case atStart=>
    refine⟨0,[],q,Nat.zero_le _,rfl,?_,by rw[List.take_zero];rfl,.refl _⟩
    first
     |exact t.out
     |rw[hq]
      refine t.out _ ?_;repeat(refine Below.setCell ?_ zs _)
      exact hB
   case round=>
    clear t;obtain⟨k,L,q',hk,rfl,hO,PR,Qe⟩:=hrel;by_cases P5:k<ds.length
    ·obtain⟨b,o,rfl⟩:=I.out.bg zo
     obtain⟨a',c',h7,Qf⟩:=(aq.sub Qe _ I.out).get k P5;have Q:Hid ((ds.take (k+1)).flatMap a7=aL L++a7 ds[k]):=by
      unfold Hid;rw[List.take_succ_eq_append_getElem P5,List.flatMap_append,PR,List.flatMap_cons,List.flatMap_nil,List.append_nil]
     have hle:L.length+(a7 ds[k]).length≤1048576:=by
      have e1:(ds.flatMap a7).length=((ds.take (k+1)).flatMap a7).length+((ds.drop (k+1)).flatMap a7).length:=by rw[←List.length_append,←List.flatMap_append,List.take_append_drop]
      have e2:=congrArg List.length Q.out;rw[List.length_append,fD]at e2;have e3:=congrArg List.length hF.out;have:=PZ.out;omega
     obtain⟨pos',Qg,P6⟩:=hE.out ds[k] (zm P5);obtain⟨e,he⟩:∃e,e=ds[k]:=⟨_,rfl⟩
     rw[←he]at h7 Qf Qg P6 Q hle;clear he PR;have Qh:=zh fun W (hW:KW q' W)=>P6 q' pos' 2 a' c' W Qg zo zo (fun _=>rfl) zo Qf hW;obtain⟨g0,g1,g2,g3,g4,g5,g6⟩:TS.C7 wr b (o+k*7) e a' c':=h7.world hO.kw;clear h7 P6;have QA:(k:Int)<ds.length:=zo;have P7:=zh (hO.alloc (Xt e a' c'));clear hO;obtain⟨i0,hi,Qw,Qx,Qy⟩:=info_parts js;go_wp2_with fail
     refine(Qh.out _ P7.out.kw).mono ?_;rintro e1 w4 ⟨⟨q2,a3,n3,c3,rfl,PS,P8,PT,PU,Qi⟩,_⟩;have PJ:=zh (P7.out.call Qi P8 PT);have Qj:=zh (Qe.trans P8.le);clear Qi Qh P8 P7;by_cases h0:n3=0
     ·subst h0
      have hA:Hid (aL L=(ds.take (k+1)).flatMap a7):=by
       unfold Hid;rw[Q.out,List.length_eq_zero_iff.1 PS.out.symm,List.append_nil]
      clear Q PS PU PT;go_wp2_with (at_builtin;refine Au rfl _ _ 23 rfl w.heap.size 25 i0 7 underlying23 hi _ _ _ rfl PJ.out.own a3 c3 rfl ?_)
      go_roundw
      case rel=>exact⟨k+1,L,q2,by omega,by go_num,PJ.out,hA.out,Qj.out⟩
      case measure=>simp[intOf];omega
     ·have PK:=PS.out
      obtain⟨b3,o3,rfl⟩:=PU.bg zo;obtain⟨M,hM,Qk,Ql⟩:=nD PU;have Qm:n3=M.length:=by rw[PK,←hM,fD]
      have hA:Hid (aL (L++M)=(ds.take (k+1)).flatMap a7):=by
       unfold Hid;rw[Q.out,←hM];simp[aL]
      have Qn:∀j x,(aX M)[j]?=some x→w4.cell? (((Xa b3 o3):Addr).add j)=some x:=fun j x hj=>by
       rw[show((Xa b3 o3):Addr).add j=(Xa b3 (o3+j)) by unfold Addr.add;split<;>simp_all];exact PT _ _ _ (Ql j x hj)
      have QB:L.length+M.length≤1048576:=by rw[←Qm,PK];exact hle
      have PX:=zh Qn;have PY:=zh Qk;clear Q PS PU PT h0 hM Ql PK Qn Qk hle;subst Qm;go_wp2_with (at_builtin;refine wpList_append_own_at _ rfl _ _ 23 rfl w.heap.size 25 i0 (Xt cC none 0) 7 88 underlying23 hi Qw Qx Qy rfl zd _ _ _ rfl PJ.out.own (Xa b3 o3) M.length c3 (aX M) rfl (gh M) PX.out (kW M) ?c3 ?c4 ?c5 ?_)
      case c3=>unfold maxLen;omega
      case c4=>omega
      case c5=>exact PJ.out.up.size
      intro v' w7 PL Qo _ Qp;have Qz:=zh (PJ.out.nU PL Qo Qp PY.out);clear PL Qo Qp PX PY;go_wp2_with fail
      go_roundw
      case rel=>exact⟨k+1,L++M,q2,by omega,by go_num,Qz.out,hA.out,Qj.out⟩
      case measure=>simp[intOf];omega
    ·have Qq:k=ds.length:=zo
     have Z:Hid (aL L=r):=by unfold Hid;rw[hF.out,PR,Qq,List.take_length]
     clear PR Qq;go_wp2_with fail
     go_ret;exact⟨RW.list ⟨q',_,L,rfl,Z.out,hO⟩,fun _=>⟨q',_,L,rfl,Z.out,hO⟩⟩
end Go.Proofs.YtkochlhejabdcaaGreatDoor
namespace TS
open Go Go.RowKit
def cV(b:List Tm)(F:Nat→Bool)(a m:Nat):List Tm:=(List.range' a m).filterMap fun i=>if F i then none else some (b.getD i none)
theorem oC(b:List Tm)(F:Nat→Bool)(a:Nat):cV b F a 0= []:=rfl
theorem oD(b:List Tm)(F:Nat→Bool)(a m:Nat):cV b F a (m+1)=if F a then cV b F (a+1) m else b.getD a none::cV b F (a+1) m:=by
 unfold cV;rw[List.range'_succ];by_cases h:F a
 ·simp[h]
 ·simp[h]
theorem qX(b:List Tm)(F:Nat→Bool)(a m:Nat):cV b F a (m+1)=cV b F a m++if F (a+m)then []else [b.getD (a+m) none]:=by
 unfold cV;rw[List.range'_concat];by_cases h:F (a+m)
 ·simp[h]
 ·simp[h]
theorem vE(b:List Tm){F G:Nat→Bool}:∀{m a:Nat},(∀i,a≤i→i<a+m→F i=G i)→cV b F a m=cV b G a m:=by
 intro m;induction m with
 |zero=>intro a _;rfl
 |succ m ih=>
  intro a h;rw[oD,oD,h a zl zo,ih fun i h1 c=>h i zo zo]
theorem C8(a:List Tm):cV a (fun _=>false) 0 a.length=a:=by
 have key:∀m,m≤a.length→cV a (fun _=>false) 0 m=a.take m:=by
  intro m;induction m with
  |zero=>intro _;simp[oC]
  |succ m ih=>
   intro h;rw[qX,ih zo];have hm:a[m]?=some a[m]:=List.getElem?_eq_getElem zo;rw[List.take_add_one,hm];simp only[Nat.zero_add,Option.toList_some,List.append_cancel_left_eq,if_neg Bool.false_ne_true,List.getD_eq_getElem?_getD,hm,Option.getD_some]
 rw[key _ zl,List.take_length]
def dZ(x:Tm)(l:List Tm)(z:Tm)(A r:List Tm):Prop:=bP x l=(bP z r).map fun y=>(y.1,A++y.2)
theorem C9(x:Tm)(l:List Tm):dZ x l x [] l:=by
 unfold dZ;cases bP x l<;>simp
theorem dZ.iZ{x z y:Tm}{l A r:List Tm}(h:dZ x l z A (y::r))(a:cQ z y=none):dZ x l z (A++ [y]) r:=by
 unfold dZ at*;rw[h,bP,a];cases bP z r<;>simp
theorem dZ.take{x z y z2:Tm}{l A r:List Tm}(h:dZ x l z A (y::r))(a:cQ z y=some z2)(b:z2≠none):dZ x l z2 A r:=by
 unfold dZ at*;rw[h,bP,a];simp only;rw[if_neg b]
theorem dZ.all{x z y:Tm}{l A r:List Tm}(h:dZ x l z A (y::r))(a:cQ z y=some none):bP x l=none:=by
 unfold dZ at h;rw[h,bP,a];simp
theorem dZ.done{x z:Tm}{l A:List Tm}(h:dZ x l z A []):bP x l=some (z,A):=by
 unfold dZ at h;rw[h];simp[bP]
def eO(a R r:List Tm):Prop:=cX a=(cX r).map fun l=>R++l
theorem C_(a:List Tm):eO a [] a:=by unfold eO;cases cX a<;>simp
theorem eO.step{b R r A:List Tm}{x z:Tm}(h:eO b R (x::r))(c:bP x r=some (z,A)):eO b (R++ [z]) A:=by
 unfold eO at*;rw[h,cX];split
 ·rename_i a;rw[c]at a;cases a
 ·rename_i d e a
  rw[c]at a;cases a;cases cX A<;>simp
theorem eO.all{a R r:List Tm}{x:Tm}(h:eO a R (x::r))(c:bP x r=none):eh a= [none]:=by
 unfold eO at h;unfold eh;rw[h,cX];split
 ·rfl
 ·rename_i b;rw[c]at b;cases b
theorem eO.done{a R:List Tm}(h:eO a R []):eh a=R:=by
 unfold eO at h;unfold eh;rw[h];simp[cX]
theorem wq{α:Type}{P:List α→Prop}(b:P [])(h1:∀l a,P l→P (l++ [a]))(l:List α):P l:=by
 have key:∀r:List α,P r.reverse:=fun r=>by
  induction r with
  |nil=>exact b
  |cons a r ih=>rw[List.reverse_cons];exact h1 _ _ ih
 have:=key l.reverse;rwa [List.reverse_reverse]at this
def dy:List U→List U:=List.foldl (fun T d=>T++ [aV T 1 d]) []
theorem lE(l:List U)(d:U):dy (l++ [d])=dy l++ [aV (dy l) 1 d]:=by unfold dy;rw[List.foldl_append];rfl
theorem ja(l:List U):(dy l).length=l.length:=by
 refine wq (P:=fun l=>(dy l).length=l.length) rfl (fun l d ih=> ?_) l;rw[lE];simp[ih]
theorem wu(l:List U):∀j,j≤l.length→dy (l.take j)=(dy l).take j:=by
 refine wq (P:=fun l=> ∀j,j≤l.length→dy (l.take j)=(dy l).take j) (fun j a=>by simp at a;subst a;rfl) (fun l d ih=> ?_) l
 ·intro j a
  rw[lE];simp only[List.length_append,List.length_singleton]at a;by_cases h:j≤l.length
  ·rw[List.take_append_of_le_length h,ih j h,List.take_append_of_le_length (by rw[ja];exact h)]
  ·have:j=l.length+1:=zo
   rw[List.take_of_length_le zp,lE,List.take_of_length_le (by simp[ja];omega)]
theorem Ei(l:List U)(j:Nat)(a:j<l.length):(dy l)[j]'(by rw[ja];exact a)=aV ((dy l).take j) 1 l[j]:=by
 have h1:=wu l (j+1) zo;rw[List.take_succ_eq_append_getElem a,lE,wu l j zo,List.take_succ_eq_append_getElem (by rw[ja];exact a)]at h1;have:=List.append_inj h1 rfl;simpa using this.2.symm
theorem wv{len:Nat}{T T':List U}(i:Nat)(hi:T'.length≤i)(R:∀n(h:n<T'.length),∃a:n<T.length,T'[n]=T[n]):
 ∀(u:U)(q:Pc)(s:Pt),aj len u q s=true→q.d≤T'.length→(s≠ .type→q.t=true)→bn T i q.f (aV T' q.f u):=by
 intro u;induction u using U.bc with
 |_ u ih=>
  intro q s h L M;have z:q.behind.f=if q.f=2 then 2 else 0:=by
   unfold Pc.f Pc.behind;cases q.t<;>simp;cases q.v<;>simp
  have F:q.inside.f=2:=by unfold Pc.f Pc.inside;simp
  have A:q.f≤2:=by unfold Pc.f;split<;>(try split)<;>omega
  have mk:(u.k=11→q.f≠0→u.n.toNat<T'.length)→(∀j(b:j<u.es.length),bn T i (aO u j q.f) (aV T' (aO u j q.f) u.es[j]))→bn T i q.f (aV T' q.f u):=fun h1 x=>by
   rw[bn];refine⟨fun hk=> ?_,⟨fun hk=> ?_,fun hk=> ?_⟩,fun j b=> ?_⟩
   ·rw[cN]at hk
    by_cases f0:q.f=0
    ·rw[if_pos f0,jq,if_neg zo,if_neg (by simp[f0])]
    ·rw[if_neg f0,jq,if_neg zo,if_pos ⟨hk,f0⟩]
     simp only[gY];have o:=h1 hk f0;obtain⟨a,e⟩:=R _ o;exact⟨a,by omega,by rw[List.getElem?_eq_getElem o,e];rfl⟩
   ·rw[cN]at hk;rw[jq,if_pos hk]
   ·rw[cN]at hk;rw[jq,if_neg zo,if_neg zo]
   ·rw[p7,iB]
    exact x j (by rw[cO]at b;exact b)
  have all:∀(y:Pc)(E:Pt),y.d=q.d→(E≠ .type→y.t=true)→(∀e∈u.es,aj len e y E=true)→(∀j,j<u.es.length→aO u j q.f=y.f)→∀j(b:j<u.es.length),bn T i (aO u j q.f) (aV T' (aO u j q.f) u.es[j]):=by
   intro y E X G H S j b;rw[S j b];exact ih _ (U.ar (zm b)) y E (H _ (zm b)) zo G
  have c:u.es= []→∀j(b:j<u.es.length),bn T i (aO u j q.f) (aV T' (aO u j q.f) u.es[j]):=fun he j b=>by rw[he]at b;simp at b
  have p:u.k≠10→u.k≠2→u.k≠3→u.k≠5→∀j,j<u.es.length→aO u j q.f=q.behind.f:=fun h1 x Y Z j _=>by
   rw[z];unfold aO;split
   ·rfl
   ·rw[if_neg zo,if_neg zo]
  have type:aj len u q .type=true→bn T i q.f (aV T' q.f u):=fun h=>by
   by_cases N:u.k=1
   ·rw[aj.eq_def]at h;simp only[N,if_true,Bool.and_eq_true,decide_eq_true_eq,List.length_eq_zero_iff]at h
    exact mk (fun hk=>by omega) (c h.2)
   by_cases r:u.k=14∨u.k=15∨u.k=16
   ·have he:u.es= []:=by
     rw[aj.eq_def]at h;rcases r with e|e|e<;>simpa [e,List.length_eq_zero_iff]using h
    exact mk (fun hk=>by omega) (c he)
   by_cases B:u.k=11
   ·rw[aj.eq_def]at h
    simp only[B,Int.reduceEq,if_false,or_self,if_true,Bool.and_eq_true,Bool.or_eq_true,Bool.not_eq_true',decide_eq_true_eq,cj,List.length_eq_zero_iff]at h;obtain⟨⟨⟨h0,h1⟩,x⟩,he⟩:=h;refine mk (fun _ V=> ?_) (c he);have:u.n<q.d:=by
     rcases x with⟨W,l⟩|x
     ·exfalso;apply V;unfold Pc.f;simp[W,l]
     ·exact x
    omega
   by_cases I:u.k=2∨u.k=3
   ·rw[aj.eq_def]at h
    have a:0≤u.n∧u.es.length=1∧∀e∈u.es,aj len e q .type=true:=by
     rcases I with e|e<;>simpa [e,and_assoc]using h
    exact mk (fun hk=>by omega) (all q .type rfl (fun h=>absurd rfl h) a.2.2 fun j _=>iP A zo j)
   by_cases O:u.k=5
   ·rw[aj.eq_def]at h
    have a:fm u.es=true∧∀e∈u.es,aj len e q .type=true:=by simpa [O]using h
    exact mk (fun hk=>by omega) (all q .type rfl (fun h=>absurd rfl h) a.2 fun j _=>iP A zo j)
   by_cases bC:u.k=10
   ·rw[aj.eq_def]at h
    have a:cj u.m (u.es.length+1)=true∧(u.es.length- u.m≤4)∧eJ (u.es.take u.m.toNat)=true∧(∀e∈u.es.take u.m.toNat,aj len e q.behind .type=true)∧∀e∈u.es.drop u.m.toNat,aj len e q.inside .elem=true:=by
     simpa [bC,and_assoc]using h
    obtain⟨_,_,_,l,J⟩:=a;refine mk (fun hk=>by omega) fun j b=> ?_;by_cases o:j<u.m.toNat
    ·have w:aO u j q.f=q.behind.f:=by
      rw[z];unfold aO;split
      ·rfl
      ·rw[if_neg zo,if_neg zo]
     rw[w];refine ih _ (U.ar (zm b)) q.behind .type (l _ ?_) L (fun h=>absurd rfl h);rw[show u.es[j]=(u.es.take u.m.toNat)[j]'(by rw[List.length_take];omega) by rw[List.getElem_take]];exact zm _
    ·have w:aO u j q.f=q.inside.f:=by
      rw[F];unfold aO;split
      ·rfl
      ·rw[if_pos ⟨bC,by omega⟩]
     rw[w];refine ih _ (U.ar (zm b)) q.inside .elem (J _ ?_) L (fun _=>rfl);rw[show u.es[j]=(u.es.drop u.m.toNat)[j- u.m.toNat]'(by rw[List.length_drop];omega) by rw[List.getElem_drop];congr 1;omega];exact zm _
   by_cases K:u.k=4∨u.k=6∨u.k=9
   ·rw[aj.eq_def]at h
    have a:cj u.n 3=true∧u.es.length=1∧∀e∈u.es,aj len e q.behind .type=true:=by
     rcases K with e|e|e<;>simpa [e,and_assoc]using h
    exact mk (fun hk=>by omega) (all q.behind .type rfl (fun h=>absurd rfl h) a.2.2 (p zo zo zo zo))
   by_cases P:u.k=8
   ·rw[aj.eq_def]at h
    have a:u.es.length=2∧∀e∈u.es,aj len e q.behind .type=true:=by simpa [P]using h
    exact mk (fun hk=>by omega) (all q.behind .type rfl (fun h=>absurd rfl h) a.2 (p zo zo zo zo))
   by_cases Q:u.k=7
   ·rw[aj.eq_def]at h
    have a:cj u.m (u.es.length+1)=true∧(u.v=false∨0<u.m∧(u.es.getD (u.m.toNat- 1) cC).k=4)∧∀e∈u.es,aj len e q.behind .type=true:=by
     simpa [Q,and_assoc]using h
    exact mk (fun hk=>by omega) (all q.behind .type rfl (fun h=>absurd rfl h) a.2.2 (p zo zo zo zo))
   ·exfalso
    rw[aj.eq_def]at h;simp only[not_or]at r I K;simp[N,r,B,I,O,bC,K,P,Q]at h
  have term:aj len u q .term=true→q.t=true→bn T i q.f (aV T' q.f u):=fun h l=>by
   have g:q.f=2:=by unfold Pc.f;simp[l]
   by_cases C:u.k=13
   ·rw[aj.eq_def]at h
    have a:u.es.length=1∧∀e∈u.es,aj len e q .type=true:=by simpa [C]using h
    exact mk (fun hk=>by omega) (all q .type rfl (fun h=>absurd rfl h) a.2 fun j _=>by unfold aO;rw[if_pos g,g])
   ·rw[aj.eq_def]at h
    simp only[C,if_false]at h;exact type h
  cases s with
  |type=>exact type h
  |term=>exact term h (M zs)
  |elem=>
   have l:=M zs;have g:q.f=2:=by unfold Pc.f;simp[l]
   by_cases D:u.k=12
   ·rw[aj.eq_def]at h
    have a:2≤u.es.length∧u.es.length≤8∧∀e∈u.es,aj len e q .term=true:=by simpa [D,and_assoc]using h
    exact mk (fun hk=>by omega) (all q .term rfl (fun _=>l) a.2.2 fun j _=>by unfold aO;rw[if_pos g,g])
   ·refine term ?_ l
    rw[aj.eq_def]at h⊢;simpa only[D,if_false]using h
theorem Ej{l:List U}{j:Nat}(_hj:j<l.length)(n:Nat)(h:n<((dy l).take j).length):∃a:n<(dy l).length,((dy l).take j)[n]=(dy l)[n]:=by
 rw[List.length_take]at h;exact⟨by omega,by rw[List.getElem_take]⟩
theorem lF{p:Pm}{D:Dl}{T:List U}(hT:eV p D T):∀(u:U)(f:Nat){a:Option Addr}{c:Nat},ai p D u a c→ai p D (aV T f u) a c
 | .mk k n m v nm tg es un,f,a,c,h=>by
   simp only[ai,aV]at h⊢;refine⟨by rw[pZ];exact h.1,iV es f k m 0 h.2.1,fun h1 l o=> ?_⟩;obtain⟨q,d,e,_⟩:=h.2.2 h1 l o;refine⟨q,d,e,?_⟩;rw[if_neg zo];split
   ·cases r:T[n.toNat]? with
    |none=>simp only[Option.toList_none,ey]
    |some t=>
     obtain⟨g,i⟩:=List.getElem?_eq_some_iff.1 r;obtain⟨s,d',j,a',c',h7,b⟩:=hT n.toNat g;rw[e]at j;simp only[Option.some.injEq,Addr.mk.injEq]at j;obtain⟨rfl,rfl,_⟩:=j;simp only[Option.toList_some,ey];rw[i]at h7 b;exact⟨a',c',h7,b⟩
   ·simp only[ey]
where iV:∀(l:List U)(f:Nat)(k m:Int)(i:Nat){a:Option Addr},aq p D l a→aq p D (gX T f k m i l) a
 | [],f,k,m,i,a,h=>by simp only[gX];exact h
 |e::r,f,k,m,i,a,h=>by
  simp only[aq,gX]at h⊢
  obtain⟨b,o,ha,⟨a',c',h7,hu⟩,hr⟩:=h
  refine⟨b,o,ha,⟨a',c',?_,lF hT e _ hu⟩,iV r f k m (i+1) hr⟩
  unfold c_ at h7⊢
  rw[cN,gY,gd,nC,j5,pY,cO]
  exact h7
theorem rl{p:Pm}{b o:Nat}{u:U}{a:Option Addr}{c:Nat}(T:List U)(f:Nat)(h7:c_ p b o u a c):c_ p b o (aV T f u) a c:=by
 unfold c_ at h7⊢;rw[cN,gY,gd,nC,j5,pY,cO];exact h7
theorem wy{p:Pm}{D:Dl}{ds:List aC}(h:ca p D ds):∀j,j≤ds.length→eV p D (dy ((ds.take j).map aC.un))
 |0,_=>fun n i=>by simp[dy]at i
 |j+1,r=>fun n i=>by
  have ih:=wy h j zo;have f:j<ds.length:=zo;have k:(ds.take (j+1)).map aC.un=(ds.take j).map aC.un++ [ds[j].un]:=by rw[List.take_succ_eq_append_getElem f,List.map_append];rfl
  rw[ja]at i;simp only[List.length_map,List.length_take]at i;have l:(dy ((ds.take j).map aC.un)).length=j:=by rw[ja];simp;omega
  by_cases m:n<j
  ·obtain⟨q,d,e,a,c,h7,hu⟩:=ih n zo
   have g:(dy ((ds.take (j+1)).map aC.un))[n]'(by rw[ja];simp;omega)=(dy ((ds.take j).map aC.un))[n]'zo:=by
    simp only[k,lE];rw[List.getElem_append_left zo]
   exact⟨q,d,e,a,c,by rw[g];exact h7,by rw[g];exact hu⟩
  ·obtain rfl:n=j:=zo
   obtain⟨b,o,e,a,c,s,t,h7,_,hu,_⟩:=h.at' n f;have g:(dy ((ds.take (n+1)).map aC.un))[n]'(by rw[ja];simp;omega)=aV (dy ((ds.take n).map aC.un)) 1 ds[n].un:=by
    simp only[k,lE];rw[List.getElem_append_right zo];simp[l]
   exact⟨b,o,e,a,c,by rw[g];exact rl _ _ h7,by rw[g];exact lF ih _ _ hu⟩
theorem Ek{p:Pm}{D:Dl}{ds:List aC}(h:ca p D ds):eV p D (dy (ds.map aC.un)):=by
 have:=wy h ds.length zl;rwa [List.take_length]at this
def aY(ds:List aC):List U:=dy (ds.map aC.un)
theorem dF(ds:List aC):(aY ds).length=ds.length:=by unfold aY;rw[ja];simp
theorem lG(ds:List aC)(j:Nat)(a:j<ds.length):(aY ds)[j]'(by rw[dF];exact a)=aV ((aY ds).take j) 1 ds[j].un:=by
 unfold aY;rw[Ei (ds.map aC.un) j (by simpa using a)];simp
end TS
namespace Go.Proofs.YtkochlhejabdcaaGreatDoor
open Go.RowKit TS
theorem rp{len:Nat}{ds:List aC}:∀j,(o:j≤ds.length)→(∀k(h:k<ds.length),k<j→dM len k ds[k]=true)→∀k(h:k<j),lW len ((aY ds)[k]'(by rw[dF];omega))∧bn (aY ds) k 1 ((aY ds)[k]'(by rw[dF];omega))
 |0,_,_,k,h=>by omega
 |j+1,o,m,k,h=>by
  have ih:=rp j zo (fun k h1 r=>m k h1 zo);by_cases e:k<j
  ·exact ih k e
  ·obtain rfl:k=j:=zo
   have a:k<ds.length:=zo;have g:=m k a zo;unfold dM at g;simp only[Bool.and_eq_true,Bool.not_eq_true',Bool.or_eq_false_iff,decide_eq_false_iff_not,beq_eq_false_iff_ne]at g;obtain⟨⟨⟨⟨⟨d1,d2⟩,d3⟩,b⟩,_⟩,_⟩:=g;have c:((aY ds).take k).length=k:=by rw[List.length_take,dF];omega
   have d:∀t∈(aY ds).take k,lW len t:=fun t p=>by
    obtain⟨i,hi,rfl⟩:=List.getElem_of_mem p;rw[List.getElem_take];exact(ih i zo).1
   rw[lG ds k a];have s:(⟨(k:Int),true,false⟩:Pc).f=1:=rfl;refine⟨⟨by rw[cN];omega,by rw[cN];omega,by rw[cN];exact d2,?_⟩,?_⟩
   ·have:=sY d ds[k].un ⟨k,true,false⟩ .type b (by simp[c]) (fun h=>absurd rfl h)
    exact this
   ·have:=wv (T:=aY ds) (T':=(aY ds).take k) k zo (fun n q=>Ej (l:=ds.map aC.un) (by simpa using a) n q) ds[k].un ⟨k,true,false⟩ .type b (by simp[c]) (fun h=>absurd rfl h)
    exact this
end Go.Proofs.YtkochlhejabdcaaGreatDoor
namespace Go.Proofs.YtkochlhejabdcaaGreatDoor
open Go.RowKit TS Tryz
theorem ES(D:Dl)(dc:Nat)(NS:List (List UInt8))(j:NS.length≤1048576){t e:U}{C l E n:Nat}(o:Pl D.len t C l)(p:l≤2)(a:l≠0)(b:t.k≠12)(c:t.k≠13)
 (r:Pl D.len e E n)(s:n≤2)(d:n≠0)(g:e.k≠12)(h:e.k≠13)(u:Names NS t)(v:Names NS e)(w:∀f∈an t,aM f)(x:∀m∈an e,aM m):
 ∀f∈an t,∀m∈an e,∀q,j_ q D dc f m:=fun f y m hm q=>by
 obtain⟨H,I,z,A⟩:=o.cy p a b c f y;obtain⟨F,G,i,B⟩:=r.cy s d g h m hm;exact k_ D dc NS j f m _ _ _ _ A z zo zo B i zo zo (w f y) (x m hm) (u.cy f y).2 (v.cy m hm).2 q
theorem ET(p:Pm)(D:Dl)(dc:Nat)(NS:List (List UInt8))(o:NS.length≤1048576)(lt:List U)(n:Option Addr)(cl:Nat)(e:U)(a:Option Addr)(c:Nat)(w:World)(r:Pl D.len e 2 2)
 (y:Names NS e)(z:lt.length≤1048576)(Q:aq p D lt n)(A:aW e=true→∀f∈lt,∀m∈an e,∀q,j_ q D dc f m)(hu:ai p D e a c)(hw:KW p w)(s t:Nat)(nl:Nat)(i:nl=lt.length)
 (h1:Xc w s 0 (Xd D dc))(L:Xc w t 0 (.slice n nl cl)):
 Xk 194 #[Xt e a c,Xp s,Xp t] w (RB (aW e&& !hasB lt (an e)) w):=by
 have b1:=zb h1;have M:=zb L;simp only at b1 M;have ae:Up p w (w.alloc (Xt e a c)):=(Up.refl hw).alloc _;have x:=fun W g=>nA p D dc e 2 2 a c W r zo zo hu g;have g1:(w.alloc (Xt e a c)).drew.cell? (Xa s 0)= .some (Xd D dc):=by show(w.alloc _).cell? _=_;rw[World.cell?_alloc_lt _ _ _ b1];exact h1
 have g2:(w.alloc (Xt e a c)).drew.cell? (Xa t 0)=some (.slice n nl cl):=by show(w.alloc _).cell? _=_;rw[World.cell?_alloc_lt _ _ _ M];exact L
 cases he:aW e
 ·have j:=fun W g=>aT (x W g) he
  clear x he r A;go_enter func194,ntmps194;go_wp2_with fail
  refine oR (fun W=>Xc W s 0 (Xd D dc)∧Xc W t 0 (.slice n nl cl)∧(Xl W w e a c)∧Up p w W) [(0,true),(1,true),(2,false),(3,true),(4,true),(5,true),(6,true),(7,true),(8,false),(9,false),(10,true),(11,true),(12,true)] oK (fun d=> ?_);repeat(first|(refine oS ?_;try simp only[Act.put,oa,ob,oc])|(refine oF d ?_;try simp only[Act.put,oa,ob,oc])|(refine oL fun K h=> ?_;go_simp;(go_at_call 190;(with_reducible refine(j _ (Up.kw (by first|assumption|exact ae.drew))).mono ?_);rintro B R ⟨rfl,aa⟩;(try simp only[]);refine h _ _ oK fun d=> ?_;clear h K;try simp only[Act.put,oa,ob,oc])))
  refine bZ ?_;have C:=(ae.drew.step aa).up;clear aa d;go_wp2_with fail
  go_ret;exact⟨_,rfl,rfl,C⟩
 ·obtain⟨k,l,hi⟩:=kN.1 he
  have j:=fun W g=>aT (x W g) he;have u:=zh (A he);have N:=fun W (g:KW p W)=>k9 D dc NS o e p 2 2 a c W r zo zo k l y hu g;have hle:(an e).length≤1048576:=Nat.le_trans (j7 (kZ r zo zo k l).noTwo fun m hm=>(y.cy m hm).1) o;generalize an e=le at*;have S:=zh fun(q:Pm) (T:Sub p q) a2 O c2 (E:O=le.length) (F:aq q D le a2) W (g:KW q W)=>qk q D dc lt le n nl cl a2 O c2 W i E z hle (aq.sub T _ Q) F g fun f V m hm=>u.out f V m hm q;have P:=zh i;clear x he r A hi k l y u i;go_enter func194,ntmps194;go_wp2_with fail
  refine oR (fun W=>Xc W s 0 (Xd D dc)∧Xc W t 0 (.slice n nl cl)∧(Xl W w e a c)∧Up p w W) [(0,true),(1,true),(2,false),(3,true),(4,true),(5,true),(6,true),(7,true),(8,false),(9,false),(10,true),(11,true),(12,true)] oK (fun d=> ?_);repeat(first|(refine oS ?_;try simp only[Act.put,oa,ob,oc])|(refine oF d ?_;try simp only[Act.put,oa,ob,oc])|(refine oL fun K h=> ?_;go_simp;first|(go_at_call 190;(with_reducible refine(j _ (Up.kw (by first|assumption|exact ae.drew))).mono ?_);rintro B R ⟨rfl,aa⟩;have X:=aa;(try simp only[]);refine h _ _ oK fun d=> ?_;clear h K;try simp only[Act.put,oa,ob,oc])|(go_at_call 27;obtain⟨s1,s2,⟨t0,t1,t2,t3,t4,t5,t6⟩,v⟩:=d;(with_reducible refine(N _ v.kw).mono ?_);rintro B w3 ⟨Y,Z,n1,c1,rfl,G,H,I,J,aa⟩;clear N;(try simp only[]);refine h _ _ oK fun d=> ?_;clear h K;try simp only[Act.put,oa,ob,oc])|(go_at_call 58;obtain⟨s1,s2,⟨t0,t1,t2,t3,t4,t5,t6⟩,v⟩:=d;(with_reducible refine(S.out Y H.le Z n1 c1 G.out J _ I).mono ?_);rintro B w4 ⟨b,rfl,hb,aa⟩;(try simp only[]);refine h _ _ oK fun d=> ?_;clear h K;try simp only[Act.put,oa,ob,oc])))
  refine bZ ?_;obtain⟨s1,s2,_,v⟩:=d;have C:=v.up;have hF:Hid ((!b)=(true&& !hasB lt le)):=by unfold Hid;rw[hb.out];rfl
  clear aa s1 s2 v;go_wp2_with fail
  go_ret;exact⟨_,rfl,hF.out,C⟩
theorem EU(p:Pm)(D:Dl)(dc:Nat)(NS:List (List UInt8))(j:NS.length≤1048576)(t:U)(pt ft:Nat)(a:Option Addr)(c:Nat)(w:World)(hP:Pl D.len t pt ft)(y:ft≤2)(h:t.k=10)(x:Names NS t)
 (z:∀f∈an t,aM f)(A:∀e∈t.es.drop t.m.toNat,aW e=true→∀m∈an e,aM m)(hu:ai p D t a c)(hw:KW p w):
 Xk 142 #[Xd D dc,Xt t a c] w (RB (gW t) w):=by
 obtain⟨f1,l,g,d⟩:=hP.ju y h;obtain⟨PI,F,h4⟩:=d.form.jm h;have hI:=zh fun e (he:e∈t.es.drop t.m.toNat) (s:aW e=true)=>ES D dc NS j d l g zo zo (d.elem h he) zo zo (kN.1 s).1 (kN.1 s).2.1 x (x.es (List.mem_of_mem_drop he)).2 z (A e he s);have hE:=zh fun e he=>d.elem h (e:=e) he;have G:=zh fun e (he:e∈t.es.drop t.m.toNat)=>(x.es (List.mem_of_mem_drop he)).2;have hR:=fun W (I:KW p W)=>k9 D dc NS j t p 0 f1 a c W d l g zo zo x hu I;have J:(an t).length≤1048576:=Nat.le_trans (j7 (kZ d l g zo zo).noTwo fun m hm=>(x.cy m hm).1) j;have ae:Up p w ((w.alloc (.cells #[Xd D dc] 22)).alloc (Xt t a c)):=((Up.refl hw).alloc _).alloc _;have hF:Hid (gW t= !((t.es.drop t.m.toNat).any fun e=>aW e&& !hasB (an t) (an e))):=by
  unfold Hid gW;simp only[List.not_any_eq_all_not,Bool.not_and,Bool.not_not]
 obtain⟨r,hr⟩:∃r,r=gW t:=⟨_,rfl⟩
 rw[←hr]at hF⊢;clear hr;have o:=hu.cap;generalize an t=lt at*;have PJ:max t.m 0=t.m:=zo;have PH:t.m≤t.es.length:=zo;have PK:∀(fn:Fn)(first cap:Array Value)(w:World),(Instr.makeFunc fn first cap).run Tryz.prog w= .ok (.func fn first cap) w:=fun _ _ _ _=>rfl;have eg:=zh (show ∀args w,(callFunc 194 args).run Tryz.prog w= .ok (.enter 194 args) w from dG func194 zk rfl);have K:=o.1;have u:t.m.toNat<c∨c=t.m.toNat:=zo;clear hP d l g y h z A x o;go_enter func142,ntmps142;go_wp2_with fail
 refine(hR _ ae.kw).mono ?_;rintro e1 L ⟨q,M,N,c1,rfl,O,P,Q,R,aa⟩;have S:=ae.step aa;obtain⟨x0,x1,x2,x3,x4,x5,x6⟩:TS.L7 L (w.heap.size+1) t a c:=by
  repeat' apply And.intro
  all_goals exact TS.cell_kept aa zq
 have c0:Xc L w 0 (Xd D dc):=TS.cell_kept aa (by simp[go_sem]);clear hR aa ae;have T:=S.alloc (.cells #[.slice M N c1] 23);have B:=Q.alloc (.cells #[.slice M N c1] 23);have V:=aq.sub P.le _ hu.list;have X:=zh fun W (I:KW q W) n (hn:n=(t.es.drop t.m.toNat).length) a2 c2 (C:aq q D (t.es.drop t.m.toNat) a2) lb H=>fZ n q D (t.es.drop t.m.toNat) hn a2 c2 194 lb (fun e=>aW e&& !hasB lt (an e)) W I C zp eg.out H;have b0:=zb c0;simp only at b0;have b6:=zb x0;simp only at b6;rcases u with u|rfl
 all_goals
  go_wp2_with fail
  have C:=V.lR F K;first|rw[if_pos u]at C|rw[if_neg (Nat.lt_irrefl _)]at C
  refine(X.out _ B _ (by simp;try omega) _ _ C _ ?_).mono ?_
  ·intro i hi W a' c' v Y
   have he:=zm hi;exact ET q D dc NS j lt M c1 _ a' c' W (hE.out _ he) (G.out _ he) J R (hI.out _ he) Y (B.grown v) _ L.heap.size N O.out (TS.cell_kept v (by rw[World.cell?_alloc_lt _ _ _ b0];exact c0)) (TS.cell_kept v (by simp[go_sem]))
  rintro e1 w2 ⟨b,rfl,hb,E⟩;have Z:=(T.step E).up;have PG:Hid ((!b)=r):=by unfold Hid;rw[hb.out];exact hF.out.symm
  clear E hb hF;go_wp2_with fail
  go_ret;exact⟨_,rfl,PG.out,Z⟩
end Go.Proofs.YtkochlhejabdcaaGreatDoor
