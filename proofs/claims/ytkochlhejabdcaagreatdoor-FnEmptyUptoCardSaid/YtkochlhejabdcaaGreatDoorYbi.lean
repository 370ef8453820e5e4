import Derived.Test.YtkochlhejabdcaaGreatDoorYbg
set_option maxRecDepth 100000
set_option maxHeartbeats 8000000
set_option linter.all false
namespace Go.Proofs.YtkochlhejabdcaaGreatDoor
open Go.RowKit TS Tryz
theorem E3(p:Pm)(D:Dl)(dc:Nat)(m:br)(x:Bool)(a:Option Addr)(c:Nat)(w:World)(e:∀W,KW p W→Xk 42 #[Xd D dc,Xt m.sig a c,.bool false] W (RB x W))(hw:KW p w)(f:Nat)
 (h1:Xc w f 0 (Xd D dc)):
 Xk 82 #[Xm m a c,Xp f] w (RB (!x) w):=by
 have b1:=zb h1;simp only at b1;have ae:Up p w (w.alloc (Xm m a c)):=(Up.refl hw).alloc _;go_enter func82,ntmps82;go_wp2_with fail
 refine(e _ ae.kw).mono ?_;rintro h i ⟨b,rfl,g,aa⟩;have d:=(ae.step aa).up;have hF:Hid ((!b)= !x):=by unfold Hid;rw[g.out]
 clear g aa e;go_wp2_with fail
 go_ret;exact⟨_,rfl,hF,d⟩
theorem E4(p:Pm)(D:Dl)(dc:Nat)(T:List U)(d:aC)(a:Option Addr)(c:Nat)(l:Option Addr)(j:Nat)(w:World)
 (u:∀W,KW p W→Xk 42 #[Xd D dc,Xt d.un a c,.bool true] W (RB (mt T .type d.un true) W))
 (x:∀m∈d.ms,∀a c W,ai p D m.sig a c→KW p W→Xk 42 #[Xd D dc,Xt m.sig a c,.bool false] W (RB (mt T .type m.sig false) W))
 (hm:cM p D d.ms l)(o:d.ms.length≤j∧j≤1048576)(hw:KW p w):
 Xk 39 #[Xd D dc,Xe d a c l j] w (RB (fS T d) w):=by
 have I:=zh (show ∀args w,(callFunc 82 args).run Tryz.prog w= .ok (.enter 82 args) w from dG func82 zk rfl);have J:∀(fn:Fn)(first cap:Array Value)(w:World),(Instr.makeFunc fn first cap).run Tryz.prog w= .ok (.func fn first cap) w:=fun _ _ _ _=>rfl;have ae:Up p w ((w.alloc (.cells #[Xd D dc] 22)).alloc (Xe d a c l j)):=((Up.refl hw).alloc _).alloc _;obtain⟨r,hr⟩:∃r,r=fS T d:=⟨_,rfl⟩
 rw[←hr];cases e:mt T .type d.un true
 ·have f:=fun W q=>aT (u W q) e
  have hF:Hid (false=r):=by unfold Hid;rw[hr,fS,e];rfl
  clear u e hr x o;go_enter func39,ntmps39;go_wp2_with fail
  refine(f _ ae.kw).mono ?_;rintro E g ⟨rfl,aa⟩;have y:=zh (ae.step aa).up;clear aa f;go_wp2_with fail
  go_ret;exact⟨_,rfl,hF.out,y.out⟩
 have f:=fun W q=>aT (u W q) e;have hF:Hid (r= !(d.ms.any fun m=> !mt T .type m.sig false)):=by unfold Hid;rw[hr,fS,e];simp[List.not_any_eq_all_not]
 have F:=zh fun W (q:KW p W) lb H=>sD d.ms.length p D d.ms rfl l j 82 lb (fun m=> !mt T .type m.sig false) W q hm zo I.out H;have z:=zh x;clear u e hr x o;go_enter func39,ntmps39;go_wp2_with fail
 refine(f _ ae.kw).mono ?_;rintro E g ⟨rfl,aa⟩;have h:=ae.step aa;have c0:Xc g w 0 (Xd D dc):=TS.cell_kept aa (by simp[go_sem]);obtain⟨L,M,N,O,P,Q,R,S⟩:(Xc g (w+1) 0 (.int .i64 d.un.k)∧Xc g (w+1) 1 (.int .i64 d.un.n)∧Xc g (w+1) 2 (.int .i64 d.un.m)∧Xc g (w+1) 3 (.bool d.un.v)∧Xc g (w+1) 4 (.string d.un.nm)∧Xc g (w+1) 5 (.string d.un.tg)∧Xc g (w+1) 6 (.slice a d.un.es.length c)∧Xc g (w+1) 7 (.slice l d.ms.length j)):=by
  repeat' apply And.intro
  all_goals exact TS.cell_kept aa zq
 clear aa f ae;go_wp2_with fail
 refine(F.out _ h.kw _ ?_).mono ?_
 ·intro i hi W a' c' s A
  exact E3 p D dc d.ms[i] _ a' c' W (fun K B=>z.out _ (zm hi) a' c' K A B) (h.kw.grown s) _ (TS.cell_kept s c0)
 rintro E V ⟨b,rfl,G,t⟩;have y:=zh (h.step t).up;have C:Hid ((!b)=r):=by unfold Hid;rw[G.out];exact hF.out.symm
 clear G t F;go_wp2_with fail
 go_ret;exact⟨_,rfl,C.out,y.out⟩
theorem E5(p:Pm)(D:Dl)(es:List aC)(dc g:Nat)(lb:Array Value)(P:aC→Bool)(w:World)(hw:KW p w)(r:ca p D es)(G:(es.length:Int)≤1048576)
 (I:∀args w,(callFunc g args).run Tryz.prog w= .ok (.enter g args) w)
 (H:∀i(h:i<es.length) W a' c' n f,(∀x∈es.take i,P x=false)→Below w w W→ai p D es[i].un a' c'→cM p D es[i].ms n→es[i].ms.length≤f∧f≤1048576→Xk g (#[(Xe es[i] a' c' n f:Value)]++lb) W (RB (P es[i]) W)):
 Xk 81 #[Xd D dc,.func (.func g) #[] lb] w fun e s=>(∃k:Nat,e= .returned (.int .i64 k)∧∃h:k<es.length,P es[k]=true)∧Below w w s∨(e= .returned (.int .i64 (-1))∧∀x∈es,P x=false)∧Below w w s:=by
 have E:=zh H;clear H;have hlen:=r.len;obtain⟨J,K⟩:=D;simp only at hlen;subst hlen;go_enter func81,ntmps81;go_wp2_with fail
 go_loopw [8] (fun t wr=> ∃k:Nat,k≤es.length∧t= .int .i64 k∧(∀x∈es.take k,P x=false)∧Below w w wr) (fun t _=>es.length- (intOf t).toNat)
 case atStart=>exact⟨0,Nat.zero_le _,rfl,by simp,Below.refl _ _⟩
 case round=>
  obtain⟨k,hk,rfl,c,a⟩:=hrel;by_cases d:k<es.length
  ·obtain⟨b,o,j⟩:=r.bg zo
   simp only at j;subst j;obtain⟨a',c',n,f,h7,z,hu,u,v,hm⟩:=r.get rfl k d;have F:=E.out k d wr a' c' n f c a hu hm ⟨u,v⟩;have l:=hw.grown a;have m:=zh c;clear c;generalize A:es[k]=x at*;obtain⟨g0,g1,g2,g3,g4,g5,g6⟩:TS.C7 wr b (o+k*8) x.un a' c':=h7.world l;have gs:=l _ _ _ z;clear h7 z;go_wp2_with fail
   refine F.mono ?_;rintro e s ⟨bb,rfl,B,C⟩;cases bb<;>go_wp2_with fail
   ·go_roundw
    case rel=>
     refine⟨k+1,by omega,by go_num,?_,a.trans (C.mono a.size)⟩;intro y q;rw[List.take_succ_eq_append_getElem d,List.mem_append,List.mem_singleton,A]at q;rcases q with q|rfl
     ·exact m.out y q
     ·exact B.out.symm
    case measure=>simp[intOf];omega
   ·go_ret
    exact .inl ⟨⟨k,rfl,d,by rw[A];exact B.out.symm⟩,a.trans (C.mono a.size)⟩
  ·go_wp2_with fail
   go_ret;rw[List.take_of_length_le zo]at c;exact .inr ⟨⟨rfl,c⟩,a⟩
theorem E6(p:Pm)(D:Dl)(es:List aC)(dc g:Nat)(lb:Array Value)(P:aC→Bool)(w:World)(hw:KW p w)(j:ca p D es)(l:(es.length:Int)≤1048576)
 (m:∀args w,(callFunc g args).run Tryz.prog w= .ok (.enter g args) w)
 (H:∀i(h:i<es.length) W a' c' f b,(∀x∈es.take i,P x=false)→Below w w W→ai p D es[i].un a' c'→cM p D es[i].ms f→es[i].ms.length≤b∧b≤1048576→Xk g (#[(Xe es[i] a' c' f b:Value)]++lb) W (RB (P es[i]) W)):
 Xk 37 #[Xd D dc,.func (.func g) #[] lb] w (RB (es.any P) w):=by
 have n:=zh (E5 p D es dc g lb P w hw j l m H);clear H;go_enter func37,ntmps37;go_wp2_with fail
 refine n.out.mono ?_;rintro e q (⟨⟨k,rfl,hk,a⟩,c⟩|⟨⟨rfl,a⟩,c⟩)
 ·have d:Hid (true=es.any P):=(List.any_eq_true.2 ⟨_,zm hk,a⟩).symm
  clear a;go_wp2_with fail
  go_ret;exact⟨_,rfl,d,c⟩
 ·have d:Hid (false=es.any P):=(List.any_eq_false.2 fun x o=>by simp[a x o]).symm
  clear a;go_wp2_with fail
  go_ret;exact⟨_,rfl,d,c⟩
theorem E7(p:Pm)(D:Dl)(dc:Nat)(d:aC)(x:Bool)(a:Option Addr)(c:Nat)(e:Option Addr)(f:Nat)(w:World)(h:∀W,KW p W→Xk 39 #[Xd D dc,Xe d a c e f] W (RB x W))(hw:KW p w)(i:Nat)
 (h1:Xc w i 0 (Xd D dc)):
 Xk 38 #[Xe d a c e f,Xp i] w (RB (!x) w):=by
 have b1:=zb h1;simp only at b1;have ae:Up p w (w.alloc (Xe d a c e f)):=(Up.refl hw).alloc _;go_enter func38,ntmps38;go_wp2_with fail
 refine(h _ ae.kw).mono ?_;rintro k l ⟨b,rfl,j,aa⟩;have g:=(ae.step aa).up;have hF:Hid ((!b)= !x):=by unfold Hid;rw[j.out]
 clear j aa h;go_wp2_with fail
 go_ret;exact⟨_,rfl,hF,g⟩
structure fI(D:Dl)(ds:List aC):Prop where
 pl:∀k(h:k<ds.length),dM D.len k ds[k]=true
 mt:∀d∈bV ds,fS (aY ds) d=true
theorem E8{D:Dl}{ds:List aC}{NS:List (List UInt8)}(R:Raw NS ds)(hlen:ds.length=D.len)(F:∀k(h:k<ds.length),dM D.len k ds[k]=true)(p:Pm)(dc:Nat)(H:ca p D ds)(i:Nat)(hi:i<(bV ds).length)
 (w:∀x∈(bV ds).take i,(!fS (aY ds) x)=false)(a:Option Addr)(c:Nat)(y:Option Addr)(s:Nat)(hu:ai p D (bV ds)[i].un a c)(hm:cM p D (bV ds)[i].ms y)(z:(bV ds)[i].ms.length≤s∧s≤1048576)(W:World)(I:KW p W):
 Xk 39 #[Xd D dc,.agg #[.int .i64 ((bV ds)[i].un).k,.int .i64 ((bV ds)[i].un).n,.int .i64 ((bV ds)[i].un).m,.bool ((bV ds)[i].un).v,.string ((bV ds)[i].un).nm,.string ((bV ds)[i].un).tg,.slice a ((bV ds)[i].un).es.length c,.slice y (bV ds)[i].ms.length s]] W (RB (fS (aY ds) (bV ds)[i]) W):=by
 have b:i<ds.length:=by rw[fH]at hi;exact hi
 have E:Env D (aY ds) NS i:=ru R hlen F i fun j A J=>by
  rw[dF]at A;have K:j<(bV ds).length:=by rw[fH];exact A
  have l:(bV ds)[j]∈(bV ds).take i:=by
   rw[show(bV ds)[j]=((bV ds).take i)[j]'(by rw[List.length_take];omega) by rw[List.getElem_take]];exact zm _
  have:=w _ l;rw[im ds j A]at this;unfold fS at this;simp only[Bool.not_eq_false',Bool.and_eq_true]at this;exact this.1
 have hT:=oO H;have L:=im ds i b;generalize (bV ds)[i]=d at*;subst L;refine E4 p D dc (aY ds) _ a c y s W (fun B e=> ?_) (fun m o a' c' B C e=> ?_) hm z I
 ·have hk:=ry R E b
  exact rH E dc _ true p 0 1 a c B hk hk.pl.form.aD.1 hk.pl.form.aD.2 hT hu e
 ·simp only[List.mem_map]at o
  obtain⟨m0,r,rfl⟩:=o;have f:=F i b;unfold dM fw at f;simp only[Bool.and_eq_true,List.all_eq_true]at f;have g:=f.1.2.1 m0 r;unfold ga at g;simp only[Bool.and_eq_true]at g;have G:=R.ms _ (zm b) m0 r;have hk:=oP E (by rw[dF];omega) R.err R.emp (fun t M=>(lH R M).2) (u:=m0.sig) (q:=⟨i,false,false⟩) zs g.1.2 G.1 G.2;exact rH E dc _ false p 0 0 a' c' B hk hk.pl.form.aD.1 hk.pl.form.aD.2 hT C e
theorem E9(p:Pm)(D:Dl)(dc:Nat)(ds:List aC)(NS:List (List UInt8))(R:Raw NS ds)(l:ca p D ds)(w:World)(hw:KW p w):
 Xk 16 #[Xd D dc] w fun e Y=>(∃b,e= .returned (.bool b)∧Hid (b=true→fI D ds))∧Below w w Y:=by
 have ae:Up p w (w.alloc (.cells #[Xd D dc] 22)):=(Up.refl hw).alloc _;have hlen:=l.len;have g:=l.jV;have q:=zh fun(E:∀k(h:k<ds.length),dM D.len k ds[k]=true) W (m:KW p W) (G:Xc W w 0 (Xd D dc))=>
  E6 p D (bV ds) dc 38 #[Xp w] (fun d=> !fS (aY ds) d) W m (rq l) (by rw[fH];omega)
   (dG func38 zk rfl) (fun i hi Z a' c' r s H T hu hm I=>E7 p D dc _ _ a' c' r s Z (fun J t=>E8 R hlen E p dc l i hi H a' c' r s hu hm I J t) (m.grown T) _ (TS.cell_kept T G))
 have PG:∀(fn:Fn)(first cap:Array Value)(w:World),(Instr.makeFunc fn first cap).run Tryz.prog w= .ok (.func fn first cap) w:=fun _ _ _ _=>rfl;have PH:(ds.length:Int)≤1048576:=zo;have PI:ds.length≤1048576:=zo;have K:=zh hlen;obtain⟨U,Dn⟩:=D;simp only at hlen;subst hlen;clear g;go_enter func16,ntmps16;go_wp2_with fail
 go_loopw [7] (fun i wr=> ∃k:Nat,k≤ds.length∧i= .int .i64 k∧(∀j(h:j<k)(L:j<ds.length),dM ds.length j ds[j]=true)∧Xc wr w 0 (.slice U ds.length dc)∧Up p w wr) (fun i _=>ds.length- (intOf i).toNat)
 case atStart=>exact⟨0,Nat.zero_le _,rfl,(fun j h=>by omega),by simp,ae⟩
 case round=>
  clear ae;obtain⟨k,hk,rfl,f,c0,u⟩:=hrel;have b0:=zb c0;simp only at b0;have c:=zh f;clear f;by_cases M:k<ds.length
  ·have V:(k:Int)<ds.length:=zo
   obtain⟨b,o,v⟩:=l.bg zo;simp only at v;subst v;obtain⟨a',c',r,s,h7,N,hu,z,O,hm⟩:=l.get rfl k M;have a:Hid (dM ds.length k ds[k]=true→∀j(h:j<k+1)(L:j<ds.length),dM ds.length j ds[j]=true):=fun h j hj L=>by
    by_cases e:j=k
    ·subst e;exact h
    ·exact c.out j zo L
   obtain⟨d,F⟩:∃d,d=ds[k]:=⟨_,rfl⟩
   rw[←F]at h7 N hu z hm a;clear F;obtain⟨g0,g1,g2,g3,g4,g5,g6⟩:TS.C7 wr b (o+k*8) d.un a' c':=h7.world u.kw;have gs:=u.kw _ _ _ N;clear h7 N;have A:=u.alloc (Xe d a' c' r s);have P:=fun W m=>yX p ⟨.some (Xa b o),ds.length⟩ dc d k a' c' r s W hu hm ⟨z,O⟩ m;simp only at P;generalize dM ds.length k d=x at*;go_wp2_with fail
   refine(P _ A.kw).mono ?_;rintro e1 X ⟨y,rfl,n,aa⟩;have B:=zh (A.step aa);have c2:Xc X w 0 (.slice (Xa b o) ds.length dc):=TS.cell_kept aa (by rw[World.cell?_alloc_lt _ _ _ b0];exact c0);clear aa P;cases y
   ·have Q:=zh B.out.up
    clear n a;go_wp2_with fail
    go_ret;exact⟨⟨_,rfl,fun h=>by cases h⟩,Q.out⟩
   ·have hN:=zh (a.out n.out.symm)
    clear n a;go_wp2_with fail
    go_roundw
    case rel=>exact⟨k+1,by omega,by go_num,hN.out,c2,B.out⟩
    case measure=>simp only[intOf];omega
  ·have E:Hid (∀k(h:k<ds.length),dM ds.length k ds[k]=true):=fun j h=>c.out j zo h
   have S:=fun W m G=>q.out E.out W m G;try simp only at S
   clear q c;go_wp2_with fail
   refine(S _ u.kw c0).mono ?_;rintro e1 X ⟨y,rfl,n,aa⟩;have Q:=zh (u.step aa).up;have hF:Hid ((!y)=true→fI ⟨U,ds.length⟩ ds):=fun h=>⟨E.out,fun d F=>by
    have C:=n.out;rw[show y=false by simpa using h]at C;have:=List.any_eq_false.1 C.symm d F;simpa using this⟩
   clear aa S n;go_wp2_with fail
   go_ret;exact⟨⟨_,rfl,hF⟩,Q.out⟩
theorem E_{α:Type}{l:List α}{f g:α→Bool}(h:∀x∈l,f x=g x):l.all f=l.all g:=by
 rw[Bool.eq_iff_iff,List.all_eq_true,List.all_eq_true];exact⟨fun k x a=>by rw[←h x a];exact k x a,fun k x a=>by rw[h x a];exact k x a⟩
theorem Fa{len:Nat}:∀(u:U)(q a:Pc)(s:Pt),q.d=len→a.d=len→aj len u q s=aj len u a s:=by
 intro u;induction u using U.bc with
 |_ u ih=>
  intro q a s h b;have parts:∀(l:List U)(s:Pt),(∀e∈l,e∈u.es)→∀p m:Pc,p.d=len→m.d=len→(l.all fun e=>aj len e p s)=l.all fun e=>aj len e m s:=fun l s A p m h1 B=>E_ fun e he=>ih e (U.ar (A e he)) p m s h1 B;have type:aj len u q .type=aj len u a .type:=by
   have o:q.behind.d=len:=h;have c:a.behind.d=len:=b;by_cases r:u.k=1
   ·rw[pH r,pH r]
   by_cases i:u.k=14∨u.k=15∨u.k=16
   ·rw[lP i,lP i]
   by_cases j:u.k=11
   ·rw[pI j,pI j,h,b]
    cases hw:cj u.n len
    ·simp
    ·have:decide (u.n<(len:Int))=true:=by unfold cj at hw;simp only[Bool.and_eq_true]at hw;exact hw.2
     rw[this];simp
   by_cases t:u.k=2∨u.k=3
   ·rw[nw t,nw t,parts u.es .type (fun e he=>he) q a h b]
   by_cases v:u.k=5
   ·rw[pJ v,pJ v,parts u.es .type (fun e he=>he) q a h b]
   by_cases bC:u.k=10
   ·rw[pK bC,pK bC,fo,fo,parts _ .type (fun e he=>List.mem_of_mem_take he) q.behind a.behind o c,parts _ .elem (fun e he=>List.mem_of_mem_drop he) q.inside a.inside h b]
   by_cases w:u.k=4∨u.k=6∨u.k=9
   ·rw[lQ w,lQ w,parts u.es .type (fun e he=>he) q.behind a.behind o c]
   by_cases x:u.k=8
   ·rw[pL x,pL x,parts u.es .type (fun e he=>he) q.behind a.behind o c]
   by_cases y:u.k=7
   ·rw[pM y,pM y,parts u.es .type (fun e he=>he) q.behind a.behind o c]
   ·have z:¬(u.k=1∨(u.k=14∨u.k=15∨u.k=16)∨u.k=11∨(u.k=2∨u.k=3)∨u.k=5∨u.k=10∨(u.k=4∨u.k=6∨u.k=9)∨u.k=8∨u.k=7):=zo
    rw[pN z,pN z]
  have term:aj len u q .term=aj len u a .term:=by
   by_cases f:u.k=13
   ·rw[pC f,pC f,parts u.es .type (fun e he=>he) q a h b]
   ·rw[pD f,pD f,type]
  cases s with
  |type=>exact type
  |term=>exact term
  |elem=>
   by_cases g:u.k=12
   ·rw[pE g,pE g,parts u.es .term (fun e he=>he) q a h b]
   ·rw[pF g,pF g,term]
def bq(ds:List aC)(u:U):U:=aV (aY ds) 1 u
def gD(D:Dl)(ds:List aC)(u:U):Bool:=aj D.len u ⟨D.len,false,false⟩ .type&&isIface (bq ds u)&&mt (aY ds) .type (bq ds u) true
theorem nf{D:Dl}{ds:List aC}{NS:List (List UInt8)}(R:Raw NS ds)(hlen:ds.length=D.len)(V:fI D ds):Env D (aY ds) NS ds.length:=
 ru R hlen V.pl _ fun j a _=>by
  rw[dF]at a;have b:j<(bV ds).length:=by rw[fH];exact a
  have:=V.mt _ (zm b);rw[im ds j a]at this;unfold fS at this;simp only[Bool.and_eq_true]at this;exact this.1
theorem wN{D:Dl}{ds:List aC}{NS:List (List UInt8)}(R:Raw NS ds)(hlen:ds.length=D.len)(V:fI D ds){u:U}(b:aj D.len u ⟨D.len,false,false⟩ .type=true)(c:Names NS u)(a:u.dep≤1048576):cD D (aY ds) NS ds.length (bq ds u) 0 1:=by
 have:=oP (nf R hlen V) (by rw[dF];omega) R.err R.emp (fun t d=>(lH R d).2) (u:=u) (q:=⟨D.len,true,false⟩) (by simp[hlen]) (by rw[←Fa u ⟨D.len,false,false⟩ _ _ rfl rfl];exact b) c a;rw[List.take_of_length_le (by rw[dF];omega)]at this;exact this
theorem o7(ds:List aC)(u:U):(bq ds u).k=u.k∧(bq ds u).n=u.n∧(bq ds u).m=u.m∧(bq ds u).v=u.v∧(bq ds u).nm=u.nm∧(bq ds u).tg=u.tg∧(bq ds u).es.length=u.es.length:=
 ⟨cN _ _ _,gY _ _ _,gd _ _ _,nC _ _ _,j5 _ _ _,pY _ _ _,cO _ _ _⟩
theorem Fb{D:Dl}{ds:List aC}{NS:List (List UInt8)}(R:Raw NS ds)(hlen:ds.length=D.len)(V:fI D ds)(p:Pm)(dc:Nat)(A:ca p D ds)(u:U)(M:Names NS u)(l:u.dep≤1048576)(a:Option Addr)(c:Nat)(w:World)(hu:ai p D u a c)(hw:KW p w)(m:Nat)
 (h1:Xc w m 0 (Xd D dc)):
 Xk 40 #[Xt u a c,Xp m] w (RB (!gD D ds u) w):=by
 have b1:=zb h1;simp only at b1;have ae:Up p w (w.alloc (Xt u a c)):=(Up.refl hw).alloc _;have n:=fun W g=>pP p D dc u ⟨D.len,false,false⟩ a c W hu g;simp only at n;obtain⟨r,hr⟩:∃r,r=gD D ds u:=⟨_,rfl⟩
 rw[←hr];cases d:aj D.len u ⟨D.len,false,false⟩ .type
 ·have e:=fun W g=>aT (n W g) d
  have hF:Hid (true= !r):=by unfold Hid;rw[hr,gD,d];rfl
  clear n d hr V R A;go_enter func40,ntmps40;go_wp2_with fail
  refine(e _ ae.kw).mono ?_;rintro o k ⟨rfl,aa⟩;have q:=zh (ae.step aa).up;clear aa e;go_wp2_with fail
  go_ret;exact⟨_,rfl,hF.out,q.out⟩
 have e:=fun W g=>aT (n W g) d;have hk:=wN R hlen V d M l;have hT:=oO A;have j:ai p D (bq ds u) a c:=lF hT u 1 hu;have s:=fun W g=>fM p D dc (bq ds u) 0 1 a c W hk.pl zo zo hk.pl.form.aD.1 hk.pl.form.aD.2 j g;have hM:=fun W g=>rH (nf R hlen V) dc (bq ds u) true p 0 1 a c W hk hk.pl.form.aD.1 hk.pl.form.aD.2 hT j g;obtain⟨f1,f2,f3,f4,f5,f6,f7⟩:=o7 ds u;rw[f1,f2,f3,f4,f5,f6,f7]at s hM;have z:Hid (r=(isIface (bq ds u)&&mt (aY ds) .type (bq ds u) true)):=by unfold Hid;rw[hr,gD,d];rfl
 generalize isIface (bq ds u)=x at*;generalize mt (aY ds) .type (bq ds u) true=y at*;clear n d hr V R A hk hT j f1 f2 f3 f4 f5 f6 f7 hlen;cases x
 ·have i:=fun W g=>aT (s W g) rfl
  have hF:Hid (true= !r):=by unfold Hid;rw[z.out];rfl
  clear s hM z;go_enter func40,ntmps40;go_wp2_with fail
  refine(e _ ae.kw).mono ?_;rintro o k ⟨rfl,aa⟩;have h:=ae.step aa;have c0:Xc k m 0 (Xd D dc):=TS.cell_kept aa (by rw[World.cell?_alloc_lt _ _ _ b1];exact h1);obtain⟨E,F,G,H,I,J,K⟩:TS.L7 k w.heap.size u a c:=by
   repeat' apply And.intro
   all_goals exact TS.cell_kept aa zq
  clear aa e ae;go_wp2_with fail
  refine(i _ h.kw).mono ?_;rintro o B ⟨rfl,f⟩;have q:=zh (h.step f).up;clear f i;go_wp2_with fail
  go_ret;exact⟨_,rfl,hF.out,q.out⟩
 have i:=fun W g=>aT (s W g) rfl;have hF:Hid (r=y):=by unfold Hid;rw[z.out];rfl
 clear s z;go_enter func40,ntmps40;go_wp2_with fail
 refine(e _ ae.kw).mono ?_;rintro o k ⟨rfl,aa⟩;have h:=ae.step aa;have c0:Xc k m 0 (Xd D dc):=TS.cell_kept aa (by rw[World.cell?_alloc_lt _ _ _ b1];exact h1);obtain⟨E,F,G,H,I,J,K⟩:TS.L7 k w.heap.size u a c:=by
  repeat' apply And.intro
  all_goals exact TS.cell_kept aa zq
 clear aa e ae;go_wp2_with fail
 refine(i _ h.kw).mono ?_;rintro o B ⟨rfl,f⟩;have t:=h.step f;have d0:Xc B m 0 (Xd D dc):=TS.cell_kept f c0;obtain⟨N,O,P,Q,S,T,X⟩:TS.L7 B w.heap.size u a c:=by
  repeat' apply And.intro
  all_goals exact TS.cell_kept f za
 clear f i h E F G H I J K c0;go_wp2_with fail
 refine(hM _ t.kw).mono ?_;rintro o Y ⟨b,rfl,L,v⟩;have q:=zh (t.step v).up;have C:Hid ((!b)= !r):=by unfold Hid;rw[L.out,hF.out]
 clear L v hM;go_wp2_with fail
 go_ret;exact⟨_,rfl,C.out,q.out⟩
theorem Fc{D:Dl}{ds:List aC}{NS:List (List UInt8)}(R:Raw NS ds)(hlen:ds.length=D.len)(V:fI D ds)(p:Pm)(dc:Nat)(j:ca p D ds)(l:List U)(f:∀u∈l,Names NS u∧u.dep≤1048576)(a:Option Addr)(n c:Nat)(w:World)(d:n=l.length)(o:(l.length:Int)≤1048576)(q:aq p D l a)(hw:KW p w):
 Xk 17 #[Xd D dc,.slice a n c] w (RB (l.all (gD D ds)) w):=by
 have k:∀args w,(callFunc 40 args).run Tryz.prog w= .ok (.enter 40 args) w:=dG func40 zk rfl;have ae:Up p w (w.alloc (.cells #[Xd D dc] 22)):=(Up.refl hw).alloc _
 have r:=zh (fZ n p D l d a c 40 #[Xp w] (fun u=> !gD D ds u) _ ae.kw q o k
  (fun i hi W a' c' e g=>Fb R hlen V p dc j l[i] (f _ (zm hi)).1 (f _ (zm hi)).2 a' c' W g (ae.kw.grown e) w.heap.size (TS.cell_kept e zs)))
 have s:=zh (kL l (gD D ds));have t:∀(fn:Fn)(first cap:Array Value)(w:World),(Instr.makeFunc fn first cap).run Tryz.prog w= .ok (.func fn first cap) w:=fun _ _ _ _=>rfl;clear hlen V R j f k d;go_enter func17,ntmps17;go_wp2_with fail
 refine r.out.mono ?_;rintro v x ⟨b,rfl,m,aa⟩;have h:=(ae.step aa).up;have hF:Hid ((!b)=l.all (gD D ds)):=by unfold Hid;rw[m.out,s.out];simp
 clear m aa;go_wp2_with fail
 go_ret;exact⟨_,rfl,hF.out,h⟩
end Go.Proofs.YtkochlhejabdcaaGreatDoor
namespace TS
open Go Go.RowKit Go.Proofs.Tryz
end TS
namespace Go.Proofs.YtkochlhejabdcaaGreatDoor
open Go.RowKit TS Go.Sort Tryz
end Go.Proofs.YtkochlhejabdcaaGreatDoor
namespace TS
open Go Go.RowKit Go.Proofs.YtkochlhejabdcaaGreatDoor Go.Proofs.Tryz
end TS
namespace Go.Proofs.YtkochlhejabdcaaGreatDoor
open Go.RowKit TS Go.Sort Tryz
end Go.Proofs.YtkochlhejabdcaaGreatDoor
