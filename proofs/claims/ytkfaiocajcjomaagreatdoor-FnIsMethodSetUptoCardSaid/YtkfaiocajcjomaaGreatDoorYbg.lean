import Derived.Test.YtkfaiocajcjomaaGreatDoorYbf
set_option maxRecDepth 100000
set_option maxHeartbeats 8000000
set_option linter.all false
namespace TS
open Go Go.RowKit Go.Proofs.YtkfaiocajcjomaaGreatDoor
theorem Cw(T:List U)(i f:Nat):bh T i f aG:=by
 rw[bh];refine⟨fun h=>absurd h (by decide),fun h=>absurd h (by decide),fun j a=> ?_⟩;obtain rfl:j=0:=by simp[aG,U.es]at a;omega
 show bh T i _ (.mk 7 0 0 false errorName ByteArray.empty [cT] []);rw[bh];refine⟨fun h=>absurd h (by decide),fun h=>absurd h (by decide),fun j a=> ?_⟩;obtain rfl:j=0:=by simp[U.es]at a;omega
 show bh T i _ cT;exact qP rfl (by decide) fun h=>absurd h (by decide)
theorem Cy:aP aG:=by
 have hu:=lU;rw[aP];refine⟨?_,fun e he=> ?_,fun m hm=>qT hm⟩
 ·rw[gP (by rw[hu];rfl),hu];rfl
 ·simp only[aG,U.es,List.mem_singleton]at he
  subst he;exact qS
structure Mo(len:Nat)(T:List U)(NS:List (List UInt8))(i:Nat)(u:U)(pos f:Nat):Prop where
 pl:Pl len u pos f
 f2:f≤2
 bE:bh T i f u
 aC:Names NS u
section
variable {D:Dl} {T:List U} {NS:List (List UInt8)} {i:Nat} {u:U} {pos f:Nat}
theorem b9.mo(h:b9 D T NS i u pos f):Mo D.len T NS i u pos f:=⟨h.pl,h.f2,h.bE,h.aC⟩
theorem Mo.part(h:Mo D.len T NS i u pos f)(j:Nat)(a:j<u.es.length):Mo D.len T NS i u.es[j] (aS u j) (aJ u j f):=
 ⟨h.pl.part j a,eG,h.bE.part j a,(h.aC.es (List.getElem_mem a)).2⟩
theorem Mo.elem(h:Mo D.len T NS i u pos f)(a:u.k=10){e:U}(he:e∈u.es.drop u.m.toNat):Mo D.len T NS i e 2 2:=by
 obtain⟨j,c,b,rfl⟩:=nU he;have:=h.part j c;rw[show aS u j=2 by unfold aS;rw[if_neg (by omega),if_pos ⟨a,b⟩]]at this;rwa [show aJ u j f=2 by unfold aJ;split;rfl;rw[if_pos ⟨a,b⟩]]at this
theorem Mo.union(h:Mo D.len T NS i u pos 2)(a:u.k=12){e:U}(he:e∈u.es):Mo D.len T NS i e 1 2:=by
 obtain⟨j,b,rfl⟩:=List.getElem_of_mem he;have:=h.part j b;rw[show aS u j=1 by unfold aS;rw[if_pos a]]at this;rwa [show aJ u j 2=2 by unfold aJ;rw[if_pos rfl]]at this
theorem Mo.bare(h:Mo D.len T NS i u pos f)(a:u.k≠12)(b:u.k≠13):Mo D.len T NS i (TS.bare u) 0 f:=
 ⟨(h.pl.bare h.f2 a b).1,h.f2,h.bE.bare h.pl h.f2 a b,h.aC.bare⟩
theorem Mo.gw(h:Mo D.len T NS i u pos f)(a:u.k≠12)(b:u.k≠13):Mo D.len T NS i u 0 f:=⟨h.pl.gw a b 0,h.f2,h.bE,h.aC⟩
theorem Mo.eN(E:Env D T NS i)(h:Mo D.len T NS i u pos f)(b:f≠0)(g:u.k≠12)(j:u.k≠13):
 (∃m,m≠0∧Mo D.len T NS i (under u) 0 m)∧((under u).k≠2∧(under u).k≠11∧(under u).k≠14∧(under u).k≠15)∧((TS.bare u).k=11→∃(o:(TS.bare u).n.toNat<T.length),(TS.bare u).n.toNat<i∧(TS.bare u).un= [T[(TS.bare u).n.toNat]]∧under u=T[(TS.bare u).n.toNat]∧T[(TS.bare u).n.toNat].k≤10):=by
 obtain⟨_,_,_,_,hk,_⟩:=h.pl.under h.f2 b g j;have d:=h.bare g j;refine⟨?_,hk,fun a=> ?_⟩
 ·by_cases a:(TS.bare u).k=11
  ·have l:=d.bE.named a
   rw[if_neg b]at l;obtain⟨h1,h2,h3⟩:=l;rw[ik a h3];exact⟨1,by omega,(E.ok _ (List.getElem_mem h1)).pl,by omega,(E.bE _ h1).mono (by omega),E.aC _ (List.getElem_mem h1)⟩
  ·by_cases c:(TS.bare u).k=15
   ·rw[im c (d.bE.err c)]
    refine⟨1,by omega,qo _,by omega,Cw _ _ _,?_⟩;have:=d.aC.un (e:=aG) (by rw[d.bE.err c];simp);exact this
   ·rw[gx a c];exact⟨f,b,d⟩
 ·have l:=d.bE.named a
  rw[if_neg b]at l;obtain⟨h1,h2,h3⟩:=l;exact⟨h1,h2,h3,ik a h3,(E.ok _ (List.getElem_mem h1)).hi⟩
theorem Mo.uv(E:Env D T NS i)(h:Mo D.len T NS i u pos f)(g:f≠0)(c:u.k≠12)(d:u.k≠13)(l:aP u):aP (under u):=by
 obtain⟨_,hk,o⟩:=h.eN E g c d;by_cases e:(TS.bare u).k=11
 ·obtain⟨h1,h2,h3,m,p⟩:=o e
  have a:=E.ok _ (List.getElem_mem h1);have j:under T[(TS.bare u).n.toNat]=T[(TS.bare u).n.toNat]:=cr a.jM (by have:=a.hi;omega) (by have:=a.hi;omega) (by have:=a.hi;omega);rw[m];refine(jP E.ok E.bE E.mt _ 0 1 true i (Nat.le_refl _) ((E.bE _ h1).mono (by omega)) a.pl (by omega) (by have:=a.hi;omega) (by have:=a.hi;omega) (E.mt _ h1 h2)).2 ?_;rw[lR (u:=T[(TS.bare u).n.toNat]) (v:=u) (by rw[j,m])];exact l.gen
 ·by_cases b:(TS.bare u).k=15
  ·rw[im b ((h.bare c d).bE.err b)];exact Cy
  ·rw[gx e b];exact l.bare h.pl
theorem Mo.vt(h:Mo D.len T NS i u 0 f)(a:aP u):Vt D.len u:=⟨a,f,h.f2,h.pl⟩
theorem Mo.fl(E:Env D T NS i)(h:Mo D.len T NS i u pos f)(a:f≠0)(b:u.k≠12)(c:u.k≠13):(TS.bare u).k=11→∃y,(TS.bare u).un= [y]∧y.k≠16:=fun d=>by
 obtain⟨h1,_,h3,_,e⟩:=(h.eN E a b c).2.2 d;exact⟨_,h3,by omega⟩
end
theorem lB{D:Dl}{T:List U}{NS:List (List UInt8)}{i:Nat}(E:Env D T NS i):∀(u:U){f:Nat},Mo D.len T NS i u 0 f→f≠0→aP u→dh D.len u:=by
 intro u;induction u using U.bg with
 |_ u ih=>
  intro f h b g;have a:=h.pl.form.aB;obtain⟨⟨q,l,hu⟩,hk,_⟩:=h.eN E b a.1 a.2;have c:=h.uv E b a.1 a.2 g;have d:(under u).k≠16:=fun m=>by
   have:=g.gen;rw[eH (by omega),m]at this;cases this
  refine .mk (h.vt g) (hu.vt c) (h.fl E b a.1 a.2) hk.1 hk.2.2.1 hk.2.1 hk.2.2.2 d fun e he p=> ?_;obtain⟨j,n,rfl⟩:=List.getElem_of_mem he;have o:=hu.part j n;rw[ij hu.f2 (by omega),show aS (under u) j=0 by unfold aS;rw[if_neg (by omega),if_neg (by omega)]]at o;have h1:=U.az (List.getElem_mem n);have h2:=dn u;exact ih _ (by omega) o l (c.es (List.getElem_mem n))
theorem nj{D:Dl}{T:List U}{NS:List (List UInt8)}{i:Nat}(E:Env D T NS i){u:U}{f:Nat}(h:Mo D.len T NS i u 0 f)(b:f≠0)(c:aP u)(hi:isIface u=false):Tok D.len u:=by
 have a:=h.pl.form.aB;obtain⟨⟨e,d,hu⟩,_⟩:=h.eN E b a.1 a.2;exact⟨h.vt c,hu.vt (h.uv E b a.1 a.2 c),h.fl E b a.1 a.2,hi⟩
end TS
namespace Go.Proofs.YtkfaiocajcjomaaGreatDoor
open Go.RowKit TS
theorem Ea{α:Type}{l:List α}{f g:α→Bool}(h:∀x∈l,f x=g x):l.all f=l.all g:=by
 rw[Bool.eq_iff_iff,List.all_eq_true,List.all_eq_true];exact⟨fun k x a=>by rw[←h x a];exact k x a,fun k x a=>by rw[h x a];exact k x a⟩
theorem Eb{len:Nat}:∀(u:U)(q a:Pc)(s:Pt),q.d=len→a.d=len→ah len u q s=ah len u a s:=by
 intro u;induction u using U.bg with
 |_ u ih=>
  intro q a s h b;have parts:∀(l:List U)(s:Pt),(∀e∈l,e∈u.es)→∀p m:Pc,p.d=len→m.d=len→(l.all fun e=>ah len e p s)=l.all fun e=>ah len e m s:=fun l s A p m h1 h2=>Ea fun e he=>ih e (U.az (A e he)) p m s h1 h2;have type:ah len u q .type=ah len u a .type:=by
   have o:q.behind.d=len:=h;have c:a.behind.d=len:=b;by_cases r:u.k=1
   ·rw[oh r,oh r]
   by_cases i:u.k=14∨u.k=15∨u.k=16
   ·rw[kC i,kC i]
   by_cases j:u.k=11
   ·rw[oi j,oi j,h,b]
    cases hw:bT u.n len
    ·simp
    ·have:decide (u.n<(len:Int))=true:=by unfold bT at hw;simp only[Bool.and_eq_true]at hw;exact hw.2
     rw[this];simp
   by_cases t:u.k=2∨u.k=3
   ·rw[lX t,lX t,parts u.es .type (fun e he=>he) q a h b]
   by_cases v:u.k=5
   ·rw[oj v,oj v,parts u.es .type (fun e he=>he) q a h b]
   by_cases bz:u.k=10
   ·rw[oq bz,oq bz,eB,eB,parts _ .type (fun e he=>List.mem_of_mem_take he) q.behind a.behind o c,parts _ .elem (fun e he=>List.mem_of_mem_drop he) q.inside a.inside h b]
   by_cases w:u.k=4∨u.k=6∨u.k=9
   ·rw[kD w,kD w,parts u.es .type (fun e he=>he) q.behind a.behind o c]
   by_cases x:u.k=8
   ·rw[ot x,ot x,parts u.es .type (fun e he=>he) q.behind a.behind o c]
   by_cases y:u.k=7
   ·rw[ou y,ou y,parts u.es .type (fun e he=>he) q.behind a.behind o c]
   ·have z:¬(u.k=1∨(u.k=14∨u.k=15∨u.k=16)∨u.k=11∨(u.k=2∨u.k=3)∨u.k=5∨u.k=10∨(u.k=4∨u.k=6∨u.k=9)∨u.k=8∨u.k=7):=by omega
    rw[ov z,ov z]
  have term:ah len u q .term=ah len u a .term:=by
   by_cases f:u.k=13
   ·rw[nY f,nY f,parts u.es .type (fun e he=>he) q a h b]
   ·rw[nZ f,nZ f,type]
  cases s with
  |type=>exact type
  |term=>exact term
  |elem=>
   by_cases g:u.k=12
   ·rw[n_ g,n_ g,parts u.es .term (fun e he=>he) q a h b]
   ·rw[od g,od g,term]
def aV(ds:List aH)(u:U):U:=aQ (aN ds) 1 u
def fH(D:Dl)(ds:List aH)(u:U):Bool:=ah D.len u ⟨D.len,false,false⟩ .type&&isIface (aV ds u)&&mt (aN ds) .type (aV ds u) true
theorem kl{D:Dl}{ds:List aH}{NS:List (List UInt8)}(R:Raw NS ds)(hlen:ds.length=D.len)(V:dL D ds):Env D (aN ds) NS ds.length:=
 pF R hlen V.pl _ fun j a _=>by
  rw[di]at a;have b:j<(bW ds).length:=by rw[eS];exact a
  have:=V.mt _ (List.getElem_mem b);rw[gM ds j a]at this;unfold fC at this;simp only[Bool.and_eq_true]at this;exact this.1
theorem nC{D:Dl}{ds:List aH}{NS:List (List UInt8)}(R:Raw NS ds)(hlen:ds.length=D.len)(V:dL D ds){u:U}(b:ah D.len u ⟨D.len,false,false⟩ .type=true)(c:Names NS u)(a:u.dep≤1048576):b9 D (aN ds) NS ds.length (aV ds u) 0 1:=by
 have:=pG (kl R hlen V) (by rw[di];omega) R.err R.emp (fun t d=>(lA R d).2) (u:=u) (q:=⟨D.len,true,false⟩) (by simp[hlen]) (by rw[←Eb u ⟨D.len,false,false⟩ _ _ rfl rfl];exact b) c a;rw[List.take_of_length_le (by rw[di];omega)]at this;exact this
theorem jB(ds:List aH)(u:U):(aV ds u).k=u.k∧(aV ds u).n=u.n∧(aV ds u).m=u.m∧(aV ds u).v=u.v∧(aV ds u).nm=u.nm∧(aV ds u).tg=u.tg∧(aV ds u).es.length=u.es.length:=
 ⟨cH _ _ _,fY _ _ _,eX _ _ _,lO _ _ _,ja _ _ _,nO _ _ _,cp _ _ _⟩
theorem Ec{D:Dl}{ds:List aH}{NS:List (List UInt8)}(R:Raw NS ds)(hlen:ds.length=D.len)(V:dL D ds)(p:Pm)(dc:Nat)(G:cF p D ds)(u:U)(Q:Names NS u)(q:u.dep≤1048576)(a:Option Addr)(c:Nat)(w:World)(hu:aj p D u a c)(hw:KW p w)(s:Nat)
 (h1:w.cell? ⟨s,0,none⟩=some (.slice D.a D.len dc)):
 Calls Tryz.prog 32 #[.agg #[.int .i64 u.k,.int .i64 u.n,.int .i64 u.m,.bool u.v,.string u.nm,.string u.tg,.slice a u.es.length c],.pointer (some ⟨s,0,none⟩)] w (RB (!fH D ds u) w):=by
 have b1:=World.block_lt_of_cell? _ _ h1;simp only at b1;have ag:Up p w (w.alloc (.cells #[.int .i64 u.k,.int .i64 u.n,.int .i64 u.m,.bool u.v,.string u.nm,.string u.tg,.slice a u.es.length c] 25)):=(Up.refl hw).alloc _;have t:=fun W h=>lZ p D dc u ⟨D.len,false,false⟩ a c W hu h;simp only at t;obtain⟨r,hr⟩:∃r,r=fH D ds u:=⟨_,rfl⟩
 rw[←hr];cases e:ah D.len u ⟨D.len,false,false⟩ .type
 ·have f:=fun W h=>aM (t W h) e
  have hF:Hid (true= !r):=by unfold Hid;rw[hr,fH,e];rfl
  clear t e hr V R G;go_enter Tryz.func32,Tryz.ntmps32;go_wp2_with fail
  refine(f _ ag.kw).mono ?_;rintro z d ⟨rfl,aa⟩;have A:=Lib.hid (ag.step aa).up;clear aa f;go_wp2_with fail
  go_ret;exact⟨_,rfl,hF.out,A.out⟩
 have f:=fun W h=>aM (t W h) e;have hk:=nC R hlen V e Q q;have hT:=kh G;have o:aj p D (aV ds u) a c:=iK hT u 1 hu;have B:=fun W h=>e_ p D dc (aV ds u) 0 1 a c W hk.pl (by omega) (by omega) hk.pl.form.aB.1 hk.pl.form.aB.2 o h;have hM:=fun W h=>nB (kl R hlen V) dc (aV ds u) true p 0 1 a c W hk hk.pl.form.aB.1 hk.pl.form.aB.2 hT o h;obtain⟨f1,f2,f3,f4,f5,f6,f7⟩:=jB ds u;rw[f1,f2,f3,f4,f5,f6,f7]at B hM;have F:Hid (r=(isIface (aV ds u)&&mt (aN ds) .type (aV ds u) true)):=by unfold Hid;rw[hr,fH,e];rfl
 generalize isIface (aV ds u)=x at*;generalize mt (aN ds) .type (aV ds u) true=y at*;clear t e hr V R G hk hT o f1 f2 f3 f4 f5 f6 f7 hlen;cases x
 ·have j:=fun W h=>aM (B W h) rfl
  have hF:Hid (true= !r):=by unfold Hid;rw[F.out];rfl
  clear B hM F;go_enter Tryz.func32,Tryz.ntmps32;go_wp2_with fail
  refine(f _ ag.kw).mono ?_;rintro z d ⟨rfl,aa⟩;have i:=ag.step aa;have c0:d.cell? ⟨s,0,none⟩=some (.slice D.a D.len dc):=TS.cell_kept aa (by rw[World.cell?_alloc_lt _ _ _ b1];exact h1);obtain⟨I,J,K,L,M,N,O⟩:(d.cell? ⟨w.heap.size,0,none⟩=some (.int .i64 u.k)∧d.cell? ⟨w.heap.size,1,none⟩=some (.int .i64 u.n)∧d.cell? ⟨w.heap.size,2,none⟩=some (.int .i64 u.m)∧d.cell? ⟨w.heap.size,3,none⟩=some (.bool u.v)∧d.cell? ⟨w.heap.size,4,none⟩=some (.string u.nm)∧d.cell? ⟨w.heap.size,5,none⟩=some (.string u.tg)∧d.cell? ⟨w.heap.size,6,none⟩=some (.slice a u.es.length c)):=by
   repeat' apply And.intro
   all_goals exact TS.cell_kept aa (by first|(simp[go_sem];done)|(go_keep;done))
  clear aa f ag;go_wp2_with fail
  refine(j _ i.kw).mono ?_;rintro z l ⟨rfl,g⟩;have A:=Lib.hid (i.step g).up;clear g j;go_wp2_with fail
  go_ret;exact⟨_,rfl,hF.out,A.out⟩
 have j:=fun W h=>aM (B W h) rfl;have hF:Hid (r=y):=by unfold Hid;rw[F.out];rfl
 clear B F;go_enter Tryz.func32,Tryz.ntmps32;go_wp2_with fail
 refine(f _ ag.kw).mono ?_;rintro z d ⟨rfl,aa⟩;have i:=ag.step aa;have c0:d.cell? ⟨s,0,none⟩=some (.slice D.a D.len dc):=TS.cell_kept aa (by rw[World.cell?_alloc_lt _ _ _ b1];exact h1);obtain⟨I,J,K,L,M,N,O⟩:(d.cell? ⟨w.heap.size,0,none⟩=some (.int .i64 u.k)∧d.cell? ⟨w.heap.size,1,none⟩=some (.int .i64 u.n)∧d.cell? ⟨w.heap.size,2,none⟩=some (.int .i64 u.m)∧d.cell? ⟨w.heap.size,3,none⟩=some (.bool u.v)∧d.cell? ⟨w.heap.size,4,none⟩=some (.string u.nm)∧d.cell? ⟨w.heap.size,5,none⟩=some (.string u.tg)∧d.cell? ⟨w.heap.size,6,none⟩=some (.slice a u.es.length c)):=by
  repeat' apply And.intro
  all_goals exact TS.cell_kept aa (by first|(simp[go_sem];done)|(go_keep;done))
 clear aa f ag;go_wp2_with fail
 refine(j _ i.kw).mono ?_;rintro z l ⟨rfl,g⟩;have C:=i.step g;have d0:l.cell? ⟨s,0,none⟩=some (.slice D.a D.len dc):=TS.cell_kept g c0;obtain⟨S,T,X,Y,Z,y5,y6⟩:(l.cell? ⟨w.heap.size,0,none⟩=some (.int .i64 u.k)∧l.cell? ⟨w.heap.size,1,none⟩=some (.int .i64 u.n)∧l.cell? ⟨w.heap.size,2,none⟩=some (.int .i64 u.m)∧l.cell? ⟨w.heap.size,3,none⟩=some (.bool u.v)∧l.cell? ⟨w.heap.size,4,none⟩=some (.string u.nm)∧l.cell? ⟨w.heap.size,5,none⟩=some (.string u.tg)∧l.cell? ⟨w.heap.size,6,none⟩=some (.slice a u.es.length c)):=by
  repeat' apply And.intro
  all_goals exact TS.cell_kept g (by assumption)
 clear g j i I J K L M N O c0;go_wp2_with fail
 refine(hM _ C.kw).mono ?_;rintro z w3 ⟨b,rfl,P,E⟩;have A:=Lib.hid (C.step E).up;have H:Hid ((!b)= !r):=by unfold Hid;rw[P.out,hF.out]
 clear P E hM;go_wp2_with fail
 go_ret;exact⟨_,rfl,H.out,A.out⟩
theorem Ed{D:Dl}{ds:List aH}{NS:List (List UInt8)}(R:Raw NS ds)(hlen:ds.length=D.len)(V:dL D ds)(p:Pm)(dc:Nat)(j:cF p D ds)(l:List U)(f:∀u∈l,Names NS u∧u.dep≤1048576)(a:Option Addr)(n c:Nat)(w:World)(d:n=l.length)(o:(l.length:Int)≤1048576)(q:au p D l a)(hw:KW p w):
 Calls Tryz.prog 14 #[.slice D.a D.len dc,.slice a n c] w (RB (l.all (fH D ds)) w):=by
 have k:∀args w,(callFunc 32 args).run Tryz.prog w= .ok (.enter 32 args) w:=dm Tryz.func32 (by kernel_rfl) rfl;have ag:Up p w (w.alloc (.cells #[.slice D.a D.len dc] 22)):=(Up.refl hw).alloc _
 have r:=Lib.hid (fL n p D l d a c 32 #[.pointer (some ⟨w.heap.size,0,none⟩)] (fun u=> !fH D ds u) _ ag.kw q o k
  (fun i hi W a' c' e g=>Ec R hlen V p dc j l[i] (f _ (List.getElem_mem hi)).1 (f _ (List.getElem_mem hi)).2 a' c' W g (ag.kw.grown e) w.heap.size (TS.cell_kept e (by simp))))
 have s:=Lib.hid (jE l (fH D ds));have t:∀(fn:Fn)(first cap:Array Value)(w:World),(Instr.makeFunc fn first cap).run Tryz.prog w= .ok (.func fn first cap) w:=fun _ _ _ _=>rfl;clear hlen V R j f k d;go_enter Tryz.func14,Tryz.ntmps14;go_wp2_with fail
 refine r.out.mono ?_;rintro v x ⟨b,rfl,m,aa⟩;have h:=(ag.step aa).up;have hF:Hid ((!b)=l.all (fH D ds)):=by unfold Hid;rw[m.out,s.out];simp
 clear m aa;go_wp2_with fail
 go_ret;exact⟨_,rfl,hF.out,h⟩
theorem vd{p:Pm}{D:Dl}(u:U)(a:Option Addr)(c:Nat)(w:World)(hu:aj p D u a c):Calls Tryz.prog 5 #[.agg #[.int .i64 u.k,.int .i64 u.n,.int .i64 u.m,.bool u.v,.string u.nm,.string u.tg,.slice a u.es.length c]] w fun e f=>e= .returned (.bool true)∧Below w.heap.size w f:=by
 have h1:¬(2147483647:Int)<(u.nm.size:Int):=by have:=hu.names.1;omega
 have h2:¬(2147483647:Int)<(u.tg.size:Int):=by have:=hu.names.2;omega
 have h3:¬(2147483647:Int)<(u.es.length:Int):=by have:=hu.cap;omega
 have d:Below w.heap.size w (w.alloc (.cells #[.int .i64 u.k,.int .i64 u.n,.int .i64 u.m,.bool u.v,.string u.nm,.string u.tg,.slice a u.es.length c] 25)):=(Below.refl _ _).alloc (Nat.le_refl _) _;have b:=Lib.hid d;clear hu d;go_enter Tryz.func5,Tryz.ntmps5;go_wp2_with fail
 go_ret;exact⟨rfl,b.out⟩
theorem Em{D:Dl}{ds:List aH}{NS:List (List UInt8)}(R:Raw NS ds)(hlen:ds.length=D.len)(p:Pm)(dc:Nat)(k:cF p D ds)(u:U)(o:Names NS u∧u.dep≤1048576)(a:Option Addr)(w:World)(q:au p D [u] a)(hw:KW p w):
 Calls Tryz.prog 6 #[.slice D.a D.len dc,.slice a 1 1] w fun e t=>(∃b,e= .returned (.bool b)∧Hid (b=true→dL D ds∧fH D ds u=true))∧Below w.heap.size w t:=by
 have v:=Lib.hid (uZ p D dc ds NS R k w hw);have r:=Lib.hid (fun(V:dL D ds) W (y:KW p W)=>Ed R hlen V p dc k [u] (fun x z=>by have e:x=u:=(by simpa using z);rw[e];exact o) a 1 1 W rfl (by simp) q y);have l:=Lib.hid hw;clear R hlen k o q hw;go_enter Tryz.func6,Tryz.ntmps6;go_wp2_with fail
 refine v.out.mono ?_;rintro C A ⟨⟨b,rfl,s⟩,c⟩;cases b with
 |false=>
  go_wp2_with fail
  go_ret;exact⟨⟨_,rfl,Lib.hid fun h=>by cases h⟩,c⟩
 |true=>
  have g:=Lib.hid (s.out rfl);have m:=Lib.hid (r.out g.out A (l.out.grown c));have d:=Lib.hid c;clear s c r;go_wp2_with fail
  refine m.out.mono ?_;rintro E F ⟨B,rfl,i,f⟩;have j:Hid (B=true→dL D ds∧fH D ds u=true):=fun h=>⟨g.out,by have:=i.out;rw[h]at this;simpa using this.symm⟩
  have n:=Lib.hid (d.out.trans (f.mono d.out.size));clear i f;go_wp2_with fail
  go_ret;exact⟨⟨_,rfl,j⟩,n.out⟩
end Go.Proofs.YtkfaiocajcjomaaGreatDoor
