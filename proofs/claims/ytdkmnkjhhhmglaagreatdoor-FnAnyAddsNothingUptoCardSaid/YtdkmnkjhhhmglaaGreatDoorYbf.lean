import Derived.Test.YtdkmnkjhhhmglaaGreatDoorYbe
set_option maxRecDepth 100000
set_option maxHeartbeats 8000000
set_option linter.all false
namespace TS
open Go Go.RowKit Go.Proofs.YtdkmnkjhhhmglaaGreatDoor
theorem EG(T:List U)(i f:Nat):bh T i f aI:=by
 rw[bh];refine⟨fun h=>absurd h (by decide),fun h=>absurd h (by decide),fun j a=> ?_⟩;obtain rfl:j=0:=by simp[aI,U.es]at a;omega
 show bh T i _ (.mk 7 0 0 false errorName ByteArray.empty [dB] []);rw[bh];refine⟨fun h=>absurd h (by decide),fun h=>absurd h (by decide),fun j a=> ?_⟩;obtain rfl:j=0:=by simp[U.es]at a;omega
 show bh T i _ dB;exact tC rfl (by decide) fun h=>absurd h (by decide)
theorem EH:aR aI:=by
 have hu:=nW;rw[aR];refine⟨?_,fun e he=> ?_,fun m hm=>tG hm⟩
 ·rw[iS (by rw[hu];rfl),hu];rfl
 ·simp only[aI,U.es,List.mem_singleton]at he
  subst he;exact tF
structure Mo(len:Nat)(T:List U)(NS:List (List UInt8))(i:Nat)(u:U)(pos f:Nat):Prop where
 pl:Pl len u pos f
 f2:f≤2
 bp:bh T i f u
 aG:Names NS u
section
variable {D:Dl} {T:List U} {NS:List (List UInt8)} {i:Nat} {u:U} {pos f:Nat}
theorem cF.mo(h:cF D T NS i u pos f):Mo D.len T NS i u pos f:=⟨h.pl,h.f2,h.bp,h.aG⟩
theorem Mo.part(h:Mo D.len T NS i u pos f)(j:Nat)(a:j<u.es.length):Mo D.len T NS i u.es[j] (aV u j) (aN u j f):=
 ⟨h.pl.part j a,fD,h.bp.part j a,(h.aG.es (List.getElem_mem a)).2⟩
theorem Mo.elem(h:Mo D.len T NS i u pos f)(a:u.k=10){e:U}(he:e∈u.es.drop u.m.toNat):Mo D.len T NS i e 2 2:=by
 obtain⟨j,c,b,rfl⟩:=qg he;have:=h.part j c;rw[show aV u j=2 by unfold aV;rw[if_neg (by omega),if_pos ⟨a,b⟩]]at this;rwa [show aN u j f=2 by unfold aN;split;rfl;rw[if_pos ⟨a,b⟩]]at this
theorem Mo.union(h:Mo D.len T NS i u pos 2)(a:u.k=12){e:U}(he:e∈u.es):Mo D.len T NS i e 1 2:=by
 obtain⟨j,b,rfl⟩:=List.getElem_of_mem he;have:=h.part j b;rw[show aV u j=1 by unfold aV;rw[if_pos a]]at this;rwa [show aN u j 2=2 by unfold aN;rw[if_pos rfl]]at this
theorem Mo.bare(h:Mo D.len T NS i u pos f)(a:u.k≠12)(b:u.k≠13):Mo D.len T NS i (TS.bare u) 0 f:=
 ⟨(h.pl.bare h.f2 a b).1,h.f2,h.bp.bare h.pl h.f2 a b,h.aG.bare⟩
theorem Mo.ig(h:Mo D.len T NS i u pos f)(a:u.k≠12)(b:u.k≠13):Mo D.len T NS i u 0 f:=⟨h.pl.ig a b 0,h.f2,h.bp,h.aG⟩
theorem Mo.eB(E:Env D T NS i)(h:Mo D.len T NS i u pos f)(b:f≠0)(g:u.k≠12)(j:u.k≠13):
 (∃m,m≠0∧Mo D.len T NS i (under u) 0 m)∧((under u).k≠2∧(under u).k≠11∧(under u).k≠14∧(under u).k≠15)∧((TS.bare u).k=11→∃(o:(TS.bare u).n.toNat<T.length),(TS.bare u).n.toNat<i∧(TS.bare u).un= [T[(TS.bare u).n.toNat]]∧under u=T[(TS.bare u).n.toNat]∧T[(TS.bare u).n.toNat].k≤10):=by
 obtain⟨_,_,_,_,hk,_⟩:=h.pl.under h.f2 b g j;have d:=h.bare g j;refine⟨?_,hk,fun a=> ?_⟩
 ·by_cases a:(TS.bare u).k=11
  ·have l:=d.bp.named a
   rw[if_neg b]at l;obtain⟨h1,h2,h3⟩:=l;rw[jn a h3];exact⟨1,by omega,(E.ok _ (List.getElem_mem h1)).pl,by omega,(E.bp _ h1).mono (by omega),E.aG _ (List.getElem_mem h1)⟩
  ·by_cases c:(TS.bare u).k=15
   ·rw[jo c (d.bp.err c)]
    refine⟨1,by omega,sP _,by omega,EG _ _ _,?_⟩;have:=d.aG.un (e:=aI) (by rw[d.bp.err c];simp);exact this
   ·rw[ik a c];exact⟨f,b,d⟩
 ·have l:=d.bp.named a
  rw[if_neg b]at l;obtain⟨h1,h2,h3⟩:=l;exact⟨h1,h2,h3,jn a h3,(E.ok _ (List.getElem_mem h1)).hi⟩
theorem Mo.kI(E:Env D T NS i)(h:Mo D.len T NS i u pos f)(g:f≠0)(c:u.k≠12)(d:u.k≠13)(l:aR u):aR (under u):=by
 obtain⟨_,hk,o⟩:=h.eB E g c d;by_cases e:(TS.bare u).k=11
 ·obtain⟨h1,h2,h3,m,p⟩:=o e
  have a:=E.ok _ (List.getElem_mem h1);have j:under T[(TS.bare u).n.toNat]=T[(TS.bare u).n.toNat]:=cQ a.kZ (by have:=a.hi;omega) (by have:=a.hi;omega) (by have:=a.hi;omega);rw[m];refine(ki E.ok E.bp E.mt _ 0 1 true i (Nat.le_refl _) ((E.bp _ h1).mono (by omega)) a.pl (by omega) (by have:=a.hi;omega) (by have:=a.hi;omega) (E.mt _ h1 h2)).2 ?_;rw[qc (u:=T[(TS.bare u).n.toNat]) (v:=u) (by rw[j,m])];exact l.gen
 ·by_cases b:(TS.bare u).k=15
  ·rw[jo b ((h.bare c d).bp.err b)];exact EH
  ·rw[ik e b];exact l.bare h.pl
theorem Mo.vt(h:Mo D.len T NS i u 0 f)(a:aR u):Vt D.len u:=⟨a,f,h.f2,h.pl⟩
theorem Mo.fl(E:Env D T NS i)(h:Mo D.len T NS i u pos f)(a:f≠0)(b:u.k≠12)(c:u.k≠13):(TS.bare u).k=11→∃y,(TS.bare u).un= [y]∧y.k≠16:=fun d=>by
 obtain⟨h1,_,h3,_,e⟩:=(h.eB E a b c).2.2 d;exact⟨_,h3,by omega⟩
end
theorem ph{D:Dl}{T:List U}{NS:List (List UInt8)}{i:Nat}(E:Env D T NS i):∀(u:U){f:Nat},Mo D.len T NS i u 0 f→f≠0→aR u→eh D.len u:=by
 intro u;induction u using U.bg with
 |_ u ih=>
  intro f h b g;have a:=h.pl.form.aE;obtain⟨⟨q,l,hu⟩,hk,_⟩:=h.eB E b a.1 a.2;have c:=h.kI E b a.1 a.2 g;have d:(under u).k≠16:=fun m=>by
   have:=g.gen;rw[gw (by omega),m]at this;cases this
  refine .mk (h.vt g) (hu.vt c) (h.fl E b a.1 a.2) hk.1 hk.2.2.1 hk.2.1 hk.2.2.2 d fun e he p=> ?_;obtain⟨j,n,rfl⟩:=List.getElem_of_mem he;have o:=hu.part j n;rw[ij hu.f2 (by omega),show aV (under u) j=0 by unfold aV;rw[if_neg (by omega),if_neg (by omega)]]at o;have h1:=U.az (List.getElem_mem n);have h2:=dE u;exact ih _ (by omega) o l (c.es (List.getElem_mem n))
theorem kJ{D:Dl}{T:List U}{NS:List (List UInt8)}{i:Nat}(E:Env D T NS i){u:U}{f:Nat}(h:Mo D.len T NS i u 0 f)(b:f≠0)(c:aR u)(hi:isIface u=false):Tok D.len u:=by
 have a:=h.pl.form.aE;obtain⟨⟨e,d,hu⟩,_⟩:=h.eB E b a.1 a.2;exact⟨h.vt c,hu.vt (h.kI E b a.1 a.2 c),h.fl E b a.1 a.2,hi⟩
end TS
namespace Go.Proofs.YtdkmnkjhhhmglaaGreatDoor
open Go.RowKit TS
theorem Gp{α:Type}{l:List α}{f g:α→Bool}(h:∀x∈l,f x=g x):l.all f=l.all g:=by
 rw[Bool.eq_iff_iff,List.all_eq_true,List.all_eq_true];exact⟨fun k x a=>by rw[←h x a];exact k x a,fun k x a=>by rw[h x a];exact k x a⟩
theorem Gq{len:Nat}:∀(u:U)(q a:Pc)(s:Pt),q.d=len→a.d=len→ah len u q s=ah len u a s:=by
 intro u;induction u using U.bg with
 |_ u ih=>
  intro q a s h b;have parts:∀(l:List U)(s:Pt),(∀e∈l,e∈u.es)→∀p m:Pc,p.d=len→m.d=len→(l.all fun e=>ah len e p s)=l.all fun e=>ah len e m s:=fun l s A p m h1 h2=>Gp fun e he=>ih e (U.az (A e he)) p m s h1 h2;have type:ah len u q .type=ah len u a .type:=by
   have o:q.behind.d=len:=h;have c:a.behind.d=len:=b;by_cases r:u.k=1
   ·rw[qp r,qp r]
   by_cases i:u.k=14∨u.k=15∨u.k=16
   ·rw[lg i,lg i]
   by_cases j:u.k=11
   ·rw[qq j,qq j,h,b]
    cases hw:b4 u.n len
    ·simp
    ·have:decide (u.n<(len:Int))=true:=by unfold b4 at hw;simp only[Bool.and_eq_true]at hw;exact hw.2
     rw[this];simp
   by_cases t:u.k=2∨u.k=3
   ·rw[n_ t,n_ t,parts u.es .type (fun e he=>he) q a h b]
   by_cases v:u.k=5
   ·rw[qu v,qu v,parts u.es .type (fun e he=>he) q a h b]
   by_cases bU:u.k=10
   ·rw[mi bU,mi bU,eL,eL,parts _ .type (fun e he=>List.mem_of_mem_take he) q.behind a.behind o c,parts _ .elem (fun e he=>List.mem_of_mem_drop he) q.inside a.inside h b]
   by_cases w:u.k=4∨u.k=6∨u.k=9
   ·rw[mj w,mj w,parts u.es .type (fun e he=>he) q.behind a.behind o c]
   by_cases x:u.k=8
   ·rw[qw x,qw x,parts u.es .type (fun e he=>he) q.behind a.behind o c]
   by_cases y:u.k=7
   ·rw[qx y,qx y,parts u.es .type (fun e he=>he) q.behind a.behind o c]
   ·have z:¬(u.k=1∨(u.k=14∨u.k=15∨u.k=16)∨u.k=11∨(u.k=2∨u.k=3)∨u.k=5∨u.k=10∨(u.k=4∨u.k=6∨u.k=9)∨u.k=8∨u.k=7):=by omega
    rw[qy z,qy z]
  have term:ah len u q .term=ah len u a .term:=by
   by_cases f:u.k=13
   ·rw[qj f,qj f,parts u.es .type (fun e he=>he) q a h b]
   ·rw[qk f,qk f,type]
  cases s with
  |type=>exact type
  |term=>exact term
  |elem=>
   by_cases g:u.k=12
   ·rw[nZ g,nZ g,parts u.es .term (fun e he=>he) q a h b]
   ·rw[ql g,ql g,term]
def bM(ds:List aF)(u:U):U:=aL (aS ds) 1 u
def di(D:Dl)(ds:List aF)(u:U):Bool:=ah D.len u ⟨D.len,false,false⟩ .type&&isIface (bM ds u)&&mt (aS ds) .type (bM ds u) true
theorem kQ{D:Dl}{ds:List aF}{NS:List (List UInt8)}(R:Raw NS ds)(hlen:ds.length=D.len)(V:eR D ds):Env D (aS ds) NS ds.length:=
 rG R hlen V.pl _ fun j a _=>by
  rw[dL]at a;have b:j<(cA ds).length:=by rw[fN];exact a
  have:=V.mt _ (List.getElem_mem b);rw[iM ds j a]at this;unfold gh at this;simp only[Bool.and_eq_true]at this;exact this.1
theorem xP{D:Dl}{ds:List aF}{NS:List (List UInt8)}(R:Raw NS ds)(hlen:ds.length=D.len)(V:eR D ds){u:U}(b:ah D.len u ⟨D.len,false,false⟩ .type=true)(c:Names NS u)(a:u.dep≤1048576):cF D (aS ds) NS ds.length (bM ds u) 0 1:=by
 have:=rH (kQ R hlen V) (by rw[dL];omega) R.err R.emp (fun t d=>(nu R d).2) (u:=u) (q:=⟨D.len,true,false⟩) (by simp[hlen]) (by rw[←Gq u ⟨D.len,false,false⟩ _ _ rfl rfl];exact b) c a;rw[List.take_of_length_le (by rw[dL];omega)]at this;exact this
theorem nG(ds:List aF)(u:U):(bM ds u).k=u.k∧(bM ds u).n=u.n∧(bM ds u).m=u.m∧(bM ds u).v=u.v∧(bM ds u).nm=u.nm∧(bM ds u).tg=u.tg∧(bM ds u).es.length=u.es.length:=
 ⟨cZ _ _ _,gO _ _ _,fT _ _ _,nR _ _ _,ke _ _ _,p7 _ _ _,cO _ _ _⟩
theorem Gr{D:Dl}{ds:List aF}{NS:List (List UInt8)}(R:Raw NS ds)(hlen:ds.length=D.len)(V:eR D ds)(p:Pm)(dc:Nat)(F:cE p D ds)(u:U)(Q:Names NS u)(o:u.dep≤1048576)(a:Option Addr)(c:Nat)(w:World)(hu:ak p D u a c)(hw:KW p w)(q:Nat)
 (h1:w.cell? ⟨q,0,none⟩=some (.slice D.a D.len dc)):
 Calls Tryz.prog 30 #[.agg #[.int .i64 u.k,.int .i64 u.n,.int .i64 u.m,.bool u.v,.string u.nm,.string u.tg,.slice a u.es.length c],.pointer (some ⟨q,0,none⟩)] w (RB (!di D ds u) w):=by
 have b1:=World.block_lt_of_cell? _ _ h1;simp only at b1;have ag:Up p w (w.alloc (.cells #[.int .i64 u.k,.int .i64 u.n,.int .i64 u.m,.bool u.v,.string u.nm,.string u.tg,.slice a u.es.length c] 25)):=(Up.refl hw).alloc _;have s:=fun W g=>qA p D dc u ⟨D.len,false,false⟩ a c W hu g;simp only at s;obtain⟨r,hr⟩:∃r,r=di D ds u:=⟨_,rfl⟩
 rw[←hr];cases d:ah D.len u ⟨D.len,false,false⟩ .type
 ·have e:=fun W g=>aW (s W g) d
  have hF:Hid (true= !r):=by unfold Hid;rw[hr,di,d];rfl
  clear s d hr V R F;go_enter Tryz.func30,Tryz.ntmps30;go_wp2_with fail
  refine(e _ ag.kw).mono ?_;rintro t l ⟨rfl,aa⟩;have z:=Lib.hid (ag.step aa).up;clear aa e;go_wp2_with fail
  go_ret;exact⟨_,rfl,hF.out,z.out⟩
 have e:=fun W g=>aW (s W g) d;have hk:=xP R hlen V d Q o;have hT:=gX F;have j:ak p D (bM ds u) a c:=gg hT u 1 hu;have A:=fun W g=>iA p D dc (bM ds u) 0 1 a c W hk.pl (by omega) (by omega) hk.pl.form.aE.1 hk.pl.form.aE.2 j g;have hM:=fun W g=>rQ (kQ R hlen V) dc (bM ds u) true p 0 1 a c W hk hk.pl.form.aE.1 hk.pl.form.aE.2 hT j g;obtain⟨f1,f2,f3,f4,f5,f6,f7⟩:=nG ds u;rw[f1,f2,f3,f4,f5,f6,f7]at A hM;have E:Hid (r=(isIface (bM ds u)&&mt (aS ds) .type (bM ds u) true)):=by unfold Hid;rw[hr,di,d];rfl
 generalize isIface (bM ds u)=x at*;generalize mt (aS ds) .type (bM ds u) true=y at*;clear s d hr V R F hk hT j f1 f2 f3 f4 f5 f6 f7 hlen;cases x
 ·have i:=fun W g=>aW (A W g) rfl
  have hF:Hid (true= !r):=by unfold Hid;rw[E.out];rfl
  clear A hM E;go_enter Tryz.func30,Tryz.ntmps30;go_wp2_with fail
  refine(e _ ag.kw).mono ?_;rintro t l ⟨rfl,aa⟩;have h:=ag.step aa;have c0:l.cell? ⟨q,0,none⟩=some (.slice D.a D.len dc):=TS.cell_kept aa (by rw[World.cell?_alloc_lt _ _ _ b1];exact h1);obtain⟨I,J,K,L,M,N,O⟩:TS.L7 l w.heap.size u a c:=by
   repeat' apply And.intro
   all_goals exact TS.cell_kept aa (by first|(simp[go_sem];done)|(go_keep;done))
  clear aa e ag;go_wp2_with fail
  refine(i _ h.kw).mono ?_;rintro t G ⟨rfl,f⟩;have z:=Lib.hid (h.step f).up;clear f i;go_wp2_with fail
  go_ret;exact⟨_,rfl,hF.out,z.out⟩
 have i:=fun W g=>aW (A W g) rfl;have hF:Hid (r=y):=by unfold Hid;rw[E.out];rfl
 clear A E;go_enter Tryz.func30,Tryz.ntmps30;go_wp2_with fail
 refine(e _ ag.kw).mono ?_;rintro t l ⟨rfl,aa⟩;have h:=ag.step aa;have c0:l.cell? ⟨q,0,none⟩=some (.slice D.a D.len dc):=TS.cell_kept aa (by rw[World.cell?_alloc_lt _ _ _ b1];exact h1);obtain⟨I,J,K,L,M,N,O⟩:TS.L7 l w.heap.size u a c:=by
  repeat' apply And.intro
  all_goals exact TS.cell_kept aa (by first|(simp[go_sem];done)|(go_keep;done))
 clear aa e ag;go_wp2_with fail
 refine(i _ h.kw).mono ?_;rintro t G ⟨rfl,f⟩;have B:=h.step f;have d0:G.cell? ⟨q,0,none⟩=some (.slice D.a D.len dc):=TS.cell_kept f c0;obtain⟨S,T,X,Y,Z,y5,y6⟩:TS.L7 G w.heap.size u a c:=by
  repeat' apply And.intro
  all_goals exact TS.cell_kept f (by assumption)
 clear f i h I J K L M N O c0;go_wp2_with fail
 refine(hM _ B.kw).mono ?_;rintro t w3 ⟨b,rfl,P,C⟩;have z:=Lib.hid (B.step C).up;have H:Hid ((!b)= !r):=by unfold Hid;rw[P.out,hF.out]
 clear P C hM;go_wp2_with fail
 go_ret;exact⟨_,rfl,H.out,z.out⟩
theorem Gs{D:Dl}{ds:List aF}{NS:List (List UInt8)}(R:Raw NS ds)(hlen:ds.length=D.len)(V:eR D ds)(p:Pm)(dc:Nat)(j:cE p D ds)(l:List U)(f:∀u∈l,Names NS u∧u.dep≤1048576)(a:Option Addr)(n c:Nat)(w:World)(d:n=l.length)(o:(l.length:Int)≤1048576)(q:aj p D l a)(hw:KW p w):
 Calls Tryz.prog 15 #[.slice D.a D.len dc,.slice a n c] w (RB (l.all (di D ds)) w):=by
 have k:∀args w,(callFunc 30 args).run Tryz.prog w= .ok (.enter 30 args) w:=ep Tryz.func30 (by kernel_rfl) rfl;have ag:Up p w (w.alloc (.cells #[.slice D.a D.len dc] 22)):=(Up.refl hw).alloc _
 have r:=Lib.hid (iU n p D l d a c 30 #[.pointer (some ⟨w.heap.size,0,none⟩)] (fun u=> !di D ds u) _ ag.kw q o k
  (fun i hi W a' c' e g=>Gr R hlen V p dc j l[i] (f _ (List.getElem_mem hi)).1 (f _ (List.getElem_mem hi)).2 a' c' W g (ag.kw.grown e) w.heap.size (TS.cell_kept e (by simp))))
 have s:=Lib.hid (lW l (di D ds));have t:∀(fn:Fn)(first cap:Array Value)(w:World),(Instr.makeFunc fn first cap).run Tryz.prog w= .ok (.func fn first cap) w:=fun _ _ _ _=>rfl;clear hlen V R j f k d;go_enter Tryz.func15,Tryz.ntmps15;go_wp2_with fail
 refine r.out.mono ?_;rintro v x ⟨b,rfl,m,aa⟩;have h:=(ag.step aa).up;have hF:Hid ((!b)=l.all (di D ds)):=by unfold Hid;rw[m.out,s.out];simp
 clear m aa;go_wp2_with fail
 go_ret;exact⟨_,rfl,hF.out,h⟩
theorem se{p:Pm}{D:Dl}(u:U)(a:Option Addr)(c:Nat)(w:World)(hu:ak p D u a c):Calls Tryz.prog 6 #[.agg #[.int .i64 u.k,.int .i64 u.n,.int .i64 u.m,.bool u.v,.string u.nm,.string u.tg,.slice a u.es.length c]] w fun e f=>e= .returned (.bool true)∧Below w.heap.size w f:=by
 have h1:¬(2147483647:Int)<(u.nm.size:Int):=by have:=hu.names.1;omega
 have h2:¬(2147483647:Int)<(u.tg.size:Int):=by have:=hu.names.2;omega
 have h3:¬(2147483647:Int)<(u.es.length:Int):=by have:=hu.cap;omega
 have d:Below w.heap.size w (w.alloc (.cells #[.int .i64 u.k,.int .i64 u.n,.int .i64 u.m,.bool u.v,.string u.nm,.string u.tg,.slice a u.es.length c] 25)):=(Below.refl _ _).alloc (Nat.le_refl _) _;have b:=Lib.hid d;clear hu d;go_enter Tryz.func6,Tryz.ntmps6;go_wp2_with fail
 go_ret;exact⟨rfl,b.out⟩
theorem sf{D:Dl}{ds:List aF}{NS:List (List UInt8)}(R:Raw NS ds)(hlen:ds.length=D.len)(p:Pm)(dc:Nat)(k:cE p D ds)(u:U)(o:Names NS u∧u.dep≤1048576)(a:Option Addr)(w:World)(q:aj p D [u] a)(hw:KW p w):
 Calls Tryz.prog 7 #[.slice D.a D.len dc,.slice a 1 1] w fun e t=>(∃b,e= .returned (.bool b)∧Hid (b=true→eR D ds∧di D ds u=true))∧Below w.heap.size w t:=by
 have v:=Lib.hid (Gn p D dc ds NS R k w hw);have r:=Lib.hid (fun(V:eR D ds) W (y:KW p W)=>Gs R hlen V p dc k [u] (fun x z=>by have e:x=u:=(by simpa using z);rw[e];exact o) a 1 1 W rfl (by simp) q y);have l:=Lib.hid hw;clear R hlen k o q hw;go_enter Tryz.func7,Tryz.ntmps7;go_wp2_with fail
 refine v.out.mono ?_;rintro C A ⟨⟨b,rfl,s⟩,c⟩;cases b with
 |false=>
  go_wp2_with fail
  go_ret;exact⟨⟨_,rfl,Lib.hid fun h=>by cases h⟩,c⟩
 |true=>
  have g:=Lib.hid (s.out rfl);have m:=Lib.hid (r.out g.out A (l.out.grown c));have d:=Lib.hid c;clear s c r;go_wp2_with fail
  refine m.out.mono ?_;rintro E F ⟨B,rfl,i,f⟩;have j:Hid (B=true→eR D ds∧di D ds u=true):=fun h=>⟨g.out,by have:=i.out;rw[h]at this;simpa using this.symm⟩
  have n:=Lib.hid (d.out.trans (f.mono d.out.size));clear i f;go_wp2_with fail
  go_ret;exact⟨⟨_,rfl,j⟩,n.out⟩
end Go.Proofs.YtdkmnkjhhhmglaaGreatDoor
