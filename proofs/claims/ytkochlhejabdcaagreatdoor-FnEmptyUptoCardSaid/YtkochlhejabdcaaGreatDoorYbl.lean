import Derived.Test.YtkochlhejabdcaaGreatDoorYbi
import Derived.Test.YtkochlhejabdcaaGreatDoorYbk
set_option maxRecDepth 100000
set_option maxHeartbeats 8000000
set_option linter.all false
namespace TS
open Go Go.RowKit Go.Proofs.YtkochlhejabdcaaGreatDoor
theorem Ep(T:List U)(i f:Nat):bn T i f aP:=by
 rw[bn];refine⟨fun h=>absurd h zd,⟨fun h=>absurd h zd,fun _=>rfl⟩,fun j a=> ?_⟩;obtain rfl:j=0:=by simp[aP,U.es]at a;omega
 show bn T i _ (.mk 7 0 0 false errorName ByteArray.empty [dA] []);rw[bn];refine⟨fun h=>absurd h zd,⟨fun h=>absurd h zd,fun _=>rfl⟩,fun j a=> ?_⟩;obtain rfl:j=0:=by simp[U.es]at a;omega
 show bn T i _ dA;exact tA rfl zd fun h=>absurd h zd
theorem Er:aM aP:=by
 have hu:=nK;rw[aM];refine⟨?_,fun e he=> ?_,fun m hm=>tC hm⟩
 ·rw[iR (by rw[hu];rfl),hu];rfl
 ·simp only[aP,U.es,List.mem_singleton]at he
  subst he;exact tB
structure Mo(len:Nat)(T:List U)(NS:List (List UInt8))(i:Nat)(u:U)(pos f:Nat):Prop where
 pl:Pl len u pos f
 f2:f≤2
 bA:bn T i f u
 aI:Names NS u
section
variable {D:Dl} {T:List U} {NS:List (List UInt8)} {i:Nat} {u:U} {pos f:Nat}
theorem cD.mo(h:cD D T NS i u pos f):Mo D.len T NS i u pos f:=⟨h.pl,h.f2,h.bA,h.aI⟩
theorem Mo.part(h:Mo D.len T NS i u pos f)(j:Nat)(a:j<u.es.length):Mo D.len T NS i u.es[j] (aS u j) (aO u j f):=
 ⟨h.pl.part j a,fj,h.bA.part j a,(h.aI.es (zm a)).2⟩
theorem Mo.elem(h:Mo D.len T NS i u pos f)(a:u.k=10){e:U}(he:e∈u.es.drop u.m.toNat):Mo D.len T NS i e 2 2:=by
 obtain⟨j,c,b,rfl⟩:=qj he;have:=h.part j c;rw[show aS u j=2 by unfold aS;rw[if_neg zo,if_pos ⟨a,b⟩]]at this;rwa [show aO u j f=2 by unfold aO;split;rfl;rw[if_pos ⟨a,b⟩]]at this
theorem Mo.union(h:Mo D.len T NS i u pos 2)(a:u.k=12){e:U}(he:e∈u.es):Mo D.len T NS i e 1 2:=by
 obtain⟨j,b,rfl⟩:=List.getElem_of_mem he;have:=h.part j b;rw[show aS u j=1 by unfold aS;rw[if_pos a]]at this;rwa [show aO u j 2=2 by unfold aO;rw[if_pos rfl]]at this
theorem Mo.bare(h:Mo D.len T NS i u pos f)(a:u.k≠12)(b:u.k≠13):Mo D.len T NS i (TS.bare u) 0 f:=
 ⟨(h.pl.bare h.f2 a b).1,h.f2,h.bA.bare h.pl h.f2 a b,h.aI.bare⟩
theorem Mo.iy(h:Mo D.len T NS i u pos f)(a:u.k≠12)(b:u.k≠13):Mo D.len T NS i u 0 f:=⟨h.pl.iy a b 0,h.f2,h.bA,h.aI⟩
theorem Mo.eW(E:Env D T NS i)(h:Mo D.len T NS i u pos f)(b:f≠0)(g:u.k≠12)(j:u.k≠13):
 (∃o,o≠0∧Mo D.len T NS i (under u) 0 o)∧((under u).k≠2∧(under u).k≠11∧(under u).k≠14∧(under u).k≠15)∧((TS.bare u).k=11→∃(q:(TS.bare u).n.toNat<T.length),(TS.bare u).n.toNat<i∧(TS.bare u).un= [T[(TS.bare u).n.toNat]]∧under u=T[(TS.bare u).n.toNat]∧T[(TS.bare u).n.toNat].k≤10):=by
 obtain⟨_,_,_,_,hk,_⟩:=h.pl.under h.f2 b g j;have d:=h.bare g j;refine⟨?_,hk,fun a=> ?_⟩
 ·by_cases a:(TS.bare u).k=11
  ·have l:=d.bA.named a
   rw[if_neg b]at l;obtain⟨h1,p,m⟩:=l;rw[jj a m];exact⟨1,by omega,(E.ok _ (zm h1)).pl,by omega,(E.bA _ h1).mono zo,E.aI _ (zm h1)⟩
  ·by_cases c:(TS.bare u).k=15
   ·rw[jk c (d.bA.err c)]
    refine⟨1,by omega,si _,by omega,Ep _ _ _,?_⟩;have:=d.aI.un (e:=aP) (by rw[d.bA.err c];simp);exact this
   ·rw[iz a c];exact⟨f,b,d⟩
 ·have l:=d.bA.named a
  rw[if_neg b]at l;obtain⟨h1,p,m⟩:=l;exact⟨h1,p,m,jj a m,(E.ok _ (zm h1)).hi⟩
theorem Mo.mW(E:Env D T NS i)(h:Mo D.len T NS i u pos f)(g:f≠0)(c:u.k≠12)(d:u.k≠13)(l:aM u):aM (under u):=by
 obtain⟨_,hk,o⟩:=h.eW E g c d;by_cases e:(TS.bare u).k=11
 ·obtain⟨h1,p,q,m,r⟩:=o e
  have a:=E.ok _ (zm h1);have j:under T[(TS.bare u).n.toNat]=T[(TS.bare u).n.toNat]:=cp a.kU (by have:=a.hi;omega) (by have:=a.hi;omega) (by have:=a.hi;omega);rw[m];refine(j8 E.ok E.bA E.mt _ 0 1 true i zl ((E.bA _ h1).mono zo) a.pl zo (by have:=a.hi;omega) (by have:=a.hi;omega) (E.mt _ h1 p)).2 ?_;rw[qg (u:=T[(TS.bare u).n.toNat]) (v:=u) (by rw[j,m])];exact l.gen
 ·by_cases b:(TS.bare u).k=15
  ·rw[jk b ((h.bare c d).bA.err b)];exact Er
  ·rw[iz e b];exact l.bare h.pl
theorem Mo.vt(h:Mo D.len T NS i u 0 f)(a:aM u):Vt D.len u:=⟨a,f,h.f2,h.pl⟩
theorem Mo.fl(E:Env D T NS i)(h:Mo D.len T NS i u pos f)(a:f≠0)(b:u.k≠12)(c:u.k≠13):(TS.bare u).k=11→∃y,(TS.bare u).un= [y]∧y.k≠16:=fun d=>by
 obtain⟨h1,_,e,_,g⟩:=(h.eW E a b c).2.2 d;exact⟨_,e,by omega⟩
end
theorem oQ{D:Dl}{T:List U}{NS:List (List UInt8)}{i:Nat}(E:Env D T NS i):∀(u:U){f:Nat},Mo D.len T NS i u 0 f→f≠0→aM u→ek D.len u:=by
 intro u;induction u using U.bc with
 |_ u ih=>
  intro f h b g;have a:=h.pl.form.aD;obtain⟨⟨q,l,hu⟩,hk,_⟩:=h.eW E b a.1 a.2;have c:=h.mW E b a.1 a.2 g;have d:(under u).k≠16:=fun m=>by
   have:=g.gen;rw[fA zo,m]at this;cases this
  refine .mk (h.vt g) (hu.vt c) (h.fl E b a.1 a.2) hk.1 hk.2.2.1 hk.2.1 hk.2.2.2 d fun e he p=> ?_;obtain⟨j,n,rfl⟩:=List.getElem_of_mem he;have o:=hu.part j n;rw[iP hu.f2 zo,show aS (under u) j=0 by unfold aS;rw[if_neg zo,if_neg zo]]at o;have h1:=U.ar (zm n);have r:=dp u;exact ih _ zo o l (c.es (zm n))
theorem mX{D:Dl}{T:List U}{NS:List (List UInt8)}{i:Nat}(E:Env D T NS i){u:U}{f:Nat}(h:Mo D.len T NS i u 0 f)(b:f≠0)(c:aM u)(hi:isIface u=false):Tok D.len u:=by
 have a:=h.pl.form.aD;obtain⟨⟨e,d,hu⟩,_⟩:=h.eW E b a.1 a.2;exact⟨h.vt c,hu.vt (h.mW E b a.1 a.2 c),h.fl E b a.1 a.2,hi⟩
end TS
namespace Go.Proofs.YtkochlhejabdcaaGreatDoor
open Go.RowKit TS Tryz
def eQ(s:Bool)(u:U):Bool:=
 if(under u).k=10∨(under u).k=16 then !s
 else if(under u).k=3∨(under u).k=5 then(under u).es.attach.all fun⟨e,_⟩=>eQ s e
 else(under u).k==1||(under u).k==6||(under u).k==9
termination_by u.sz
decreasing_by
 have h1:=U.ar ‹_›;have a:=dp u;omega
theorem FL{s:Bool}{u:U}(h:isIface u=true):eQ s u= !s:=by
 unfold isIface at h;simp only[Bool.or_eq_true,beq_iff_eq]at h;rw[eQ,if_pos h]
theorem FM{s:Bool}{u:U}(h:(under u).k=3∨(under u).k=5):eQ s u=(under u).es.all (eQ s):=by
 rw[eQ,if_neg zo,if_pos h];conv=>rhs;rw[←List.attach_map_subtype_val (under u).es,List.all_map]
 rfl
theorem FN{s:Bool}{u:U}(hi:isIface u=false)(h:¬((under u).k=3∨(under u).k=5)):eQ s u=((under u).k==1||(under u).k==6||(under u).k==9):=by
 unfold isIface at hi;simp only[Bool.or_eq_false_iff,beq_eq_false_iff_ne]at hi;rw[eQ,if_neg zo,if_neg h]
def xf(s:Bool)(D:Dl)(dc:Nat)(u:U):Prop:=
 ∀(p:Pm)(pos f:Nat)(a:Option Addr)(c:Nat)(w:World),Pl D.len u pos f→f≤2→f≠0→u.k≠12→u.k≠13→ai p D u a c→KW p w→
  Xk 31 #[Xd D dc,Xt u a c,.bool s] w (RB (eQ s u) w)
theorem FO(s:Bool)(p:Pm)(D:Dl)(dc:Nat)(u:U)(f:Nat)(a:Option Addr)(c:Nat)(w:World)(i:xf s D dc u)(e:Pl D.len u 0 f)(n:f≤2)(g:f≠0)(hu:ai p D u a c)(hw:KW p w)(j k:Nat)
 (h1:Xc w j 0 (Xd D dc))(o:Xc w k 0 (.bool s)):
 Xk 73 #[Xt u a c,Xp j,Xp k] w (RB (!eQ s u) w):=by
 have b1:=zb h1;have q:=zb o;simp only at b1 q;have ae:Up p w (w.alloc (Xt u a c)):=(Up.refl hw).alloc _;have d:=e.form.aD;have l:=fun W r=>i p 0 f a c W e n g d.1 d.2 hu r;clear e i d;go_enter func73,ntmps73;go_wp2_with fail
 refine(l _ ae.kw).mono ?_;rintro t v ⟨b,rfl,m,aa⟩;have h:=(ae.step aa).up;have hF:Hid ((!b)= !eQ s u):=by unfold Hid;rw[m.out]
 clear m aa l;go_wp2_with fail
 go_ret;exact⟨_,rfl,hF,h⟩
theorem FP(s:Bool)(D:Dl)(dc:Nat):∀u,xf s D dc u:=by
 intro u;induction u using U.bc with
 |_ u ih=>
  intro p pos f a c w C O y l m hu hw;obtain⟨L,P,E,o,hk,t⟩:=C.under O y l m;have M:=fun W z=>fM p D dc u pos f a c W C O y l m hu z;have F:=zh fun W hk=>f_ p D dc u pos f a c W C O y l m hu hk;have ae:Up p w (((w.alloc (.cells #[Xd D dc] 22)).alloc (Xt u a c)).alloc (.cells #[.bool s] 4)):=(((Up.refl hw).alloc _).alloc _).alloc _;cases hi:isIface u
  case true=>
   have d:=fun W z=>aT (M W z) hi;have hF:Hid ((!s)=eQ s u):=(FL hi).symm;clear M hi ih C o hk t F l m;go_enter func31,ntmps31;go_wp2_with fail
   refine(d _ ae.kw).mono ?_;rintro Q x ⟨rfl,aa⟩;have R:Xc x (w+2) 0 (.bool s):=TS.cell_kept aa zq;have S:=(ae.step aa).up;clear aa d;go_wp2_with fail
   go_ret;exact⟨_,rfl,hF,S⟩
  have d:=fun W z=>aT (M W z) hi;have T:= @FM s u;have V:= @FN s u hi;generalize eQ s u=r at*;have X:under u=under u:=rfl;generalize under u=v at*;clear M hi X l m C;by_cases n:v.k=3∨v.k=5
  ·have hF:=zh (T n)
   have hE:Hid (∀i(hi:i<v.es.length),Pl D.len v.es[i] 0 L):=fun i hi=>by
    have h:=o.part i hi;rw[show aS v i=0 by unfold aS;rw[if_neg zo,if_neg zo]]at h;rwa [show aO v i L=L by unfold aO;split;omega;rw[if_neg zo];split;omega;omega]at h
   have hS:=zh fun e (he:e∈v.es)=>ih e (Nat.lt_of_lt_of_le (U.ar he) t);have PM:∀(fn:Fn)(first cap:Array Value)(w:World),(Instr.makeFunc fn first cap).run Tryz.prog w= .ok (.func fn first cap) w:=fun _ _ _ _=>rfl;have eg:=zh (show ∀args w,(callFunc 73 args).run Tryz.prog w= .ok (.enter 73 args) w from dG func73 zk rfl);have hA:=zh (kL v.es (eQ s));clear T V ih o t;have t1:(v.k==1)=false:=zp;have t6:(v.k==6)=false:=zp;have t9:(v.k==9)=false:=zp;have t35:((v.k==3)=true∧(v.k==5)=false)∨((v.k==3)=false∧(v.k==5)=true):=by rcases n with h|h<;>simp[h]
   clear hk n;rcases t35 with⟨t3,t5⟩|⟨t3,t5⟩
   all_goals
    go_enter func31,ntmps31;go_wp2_with fail
    refine(d _ ae.kw).mono ?_;rintro Q x ⟨rfl,aa⟩;have j:=ae.step aa;obtain⟨Y,Z,x2,x3,x4,x5,x6⟩:TS.L7 x (w.heap.size+1) u a c:=by
     repeat' apply And.intro
     all_goals exact TS.cell_kept aa zq
    have d0:Xc x w 0 (Xd D dc):=TS.cell_kept aa zq;have R:Xc x (w+2) 0 (.bool s):=TS.cell_kept aa zq;clear aa d ae;go_wp2_with fail
    refine(F.out _ j.kw).mono ?_;rintro e2 w2 ⟨q,N,c1,rfl,hg,G,A,g⟩;have PG:=j.step g;have d2:Xc w2 w 0 (Xd D dc):=TS.cell_kept g d0;have s2:Xc w2 (w+2) 0 (.bool s):=TS.cell_kept g R;have PL:=A.cap;have hle:(v.es.length:Int)≤1048576:=zo;have hK:=zh fun W (z:KW q W) lb H=>fZ v.es.length q D v.es rfl N c1 73 lb (fun e=> !eQ s e) W z A.list hle eg.out H;have PH:=PG.alloc (Xt v N c1);have I:=G.alloc (Xt v N c1);have b0:=zb d2;have bs:=zb s2;simp only at b0 bs;clear F g d0 R Y Z x2 x3 x4 x5 x6 j;go_wp2_with fail
    refine(hK.out _ I _ ?_).mono ?_
    ·intro i hi W a' c' B PI
     exact FO s q D dc _ L a' c' W (hS.out _ (zm hi)) (hE.out i hi) P E PI (I.grown B) _ _ (TS.cell_kept B (by rw[World.cell?_alloc_lt _ _ _ b0];exact d2)) (TS.cell_kept B (by rw[World.cell?_alloc_lt _ _ _ bs];exact s2))
    rintro Q w3 ⟨b,rfl,hb,J⟩;have PJ:=(PH.step J).up;have PK:Hid ((!b)=r):=by unfold Hid;rw[hb.out,hF.out,hA.out];simp
    clear hb J;go_wp2_with fail
    go_ret;exact⟨_,rfl,PK,PJ⟩
  ·have hF:=zh (V n)
   clear T V ih o t hk;have t3:(v.k==3)=false:=zp;have t5:(v.k==5)=false:=zp;cases t1:v.k==1<;>cases t6:v.k==6<;>cases t9:v.k==9
   all_goals
    first
    |(exfalso;simp at t1 t6 t9;omega)
    |rw[t1,t6,t9]at hF
     simp only[Bool.or_false,Bool.or_true,Bool.false_or,Bool.true_or]at hF;clear n;go_enter func31,ntmps31;go_wp2_with fail
     refine(d _ ae.kw).mono ?_;rintro Q x ⟨rfl,aa⟩;have j:=ae.step aa;obtain⟨Y,Z,x2,x3,x4,x5,x6⟩:TS.L7 x (w.heap.size+1) u a c:=by
      repeat' apply And.intro
      all_goals exact TS.cell_kept aa zq
     have d0:Xc x w 0 (Xd D dc):=TS.cell_kept aa zq;clear aa d ae;go_wp2_with fail
     refine(F.out _ j.kw).mono ?_;rintro e2 w2 ⟨q,N,c1,rfl,hg,G,A,g⟩;have K:=(j.step g).up;clear F g Y Z x2 x3 x4 x5 x6 d0;go_wp2_with fail
     go_ret;exact⟨_,rfl,zh hF.out.symm,K.alloc K.size _⟩
theorem FQ(p:Pm)(D:Dl)(dc:Nat)(u:U)(pos f:Nat)(a:Option Addr)(c:Nat)(w:World)(i:Pl D.len u pos f)(l:f≤2)(g:f≠0)(d:u.k≠12)(e:u.k≠13)(hu:ai p D u a c)(hw:KW p w):
 Xk 57 #[Xd D dc,Xt u a c] w (RB (eQ true u) w):=by
 have j:=zh fun W m=>FP true D dc u p pos f a c W i l g d e hu m;have ae:=zh ((Up.refl hw).alloc (Xt u a c));clear i d e hu hw;go_enter func57,ntmps57;go_wp2_with fail
 refine(j.out _ ae.out.kw).mono ?_;rintro o q ⟨b,rfl,n,aa⟩;have h:=zh (ae.out.step aa).up;clear aa j ae;go_wp2_with fail
 go_ret;exact⟨_,rfl,n,h.out⟩
theorem Ht{p:Pm}{D:Dl}(u:U)(a:Option Addr)(c:Nat)(w:World)(hu:ai p D u a c):Xk 6 #[Xt u a c] w fun e f=>e= .returned (.bool true)∧Below w w f:=by
 have h1:¬(2147483647:Int)<(u.nm.size:Int):=by have:=hu.names.1;omega
 have g:¬(2147483647:Int)<(u.tg.size:Int):=by have:=hu.names.2;omega
 have h:¬(2147483647:Int)<(u.es.length:Int):=by have:=hu.cap;omega
 have d:Below w w (w.alloc (Xt u a c)):=zB.alloc zl _;have b:=zh d;clear hu d;go_enter func6,ntmps6;go_wp2_with fail
 go_ret;exact⟨rfl,b.out⟩
theorem Hu{D:Dl}{ds:List aC}{NS:List (List UInt8)}(R:Raw NS ds)(hlen:ds.length=D.len)(p:Pm)(dc:Nat)(k:ca p D ds)(u:U)(o:Names NS u∧u.dep≤1048576)(a:Option Addr)(w:World)(q:aq p D [u] a)(hw:KW p w):
 Xk 7 #[Xd D dc,.slice a 1 1] w fun e t=>(∃b,e= .returned (.bool b)∧Hid (b=true→fI D ds∧gD D ds u=true))∧Below w w t:=by
 have v:=zh (E9 p D dc ds NS R k w hw);have r:=zh (fun(V:fI D ds) W (y:KW p W)=>Fc R hlen V p dc k [u] (fun x z=>by have e:x=u:=(by simpa using z);rw[e];exact o) a 1 1 W rfl zs q y);have l:=zh hw;clear R hlen k o q hw;go_enter func7,ntmps7;go_wp2_with fail
 refine v.out.mono ?_;rintro C A ⟨⟨b,rfl,s⟩,c⟩;cases b with
 |false=>
  go_wp2_with fail
  go_ret;exact⟨⟨_,rfl,zh fun h=>by cases h⟩,c⟩
 |true=>
  have g:=zh (s.out rfl);have m:=zh (r.out g.out A (l.out.grown c));have d:=zh c;clear s c r;go_wp2_with fail
  refine m.out.mono ?_;rintro E F ⟨B,rfl,i,f⟩;have j:Hid (B=true→fI D ds∧gD D ds u=true):=fun h=>⟨g.out,by have:=i.out;rw[h]at this;simpa using this.symm⟩
  have n:=zh (d.out.trans (f.mono d.out.size));clear i f;go_wp2_with fail
  go_ret;exact⟨⟨_,rfl,j⟩,n.out⟩
end Go.Proofs.YtkochlhejabdcaaGreatDoor
