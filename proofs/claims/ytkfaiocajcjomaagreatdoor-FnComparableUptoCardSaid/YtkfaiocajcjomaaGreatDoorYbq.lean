import Derived.Test.YtkfaiocajcjomaaGreatDoorYbo
set_option maxRecDepth 100000
set_option maxHeartbeats 8000000
set_option linter.all false
namespace TS
open Go Go.RowKit Go.Proofs.YtkfaiocajcjomaaGreatDoor
theorem BS.whole{C:BC}{p:Pm}{g:Ge}{mv:Value}{w:World}(h:BS C p g mv [] w):aq p g w:=
 ⟨h.wb.kw,h.wb.pl,h.inj,h.wb.cap,fun b u k=>⟨(h.ifs b u k).2.1,by
  rcases(h.ifs b u k).2.2.2 with h1|⟨h1,_⟩
  ·exact h1.sub (Sub.refl p) (g.xG b)
  ·cases h1⟩,h.po,h.cB,h.cC⟩
end TS
namespace Go.Proofs.YtkfaiocajcjomaaGreatDoor
open Go.RowKit TS
def ee(u:U):Bool:=
 if(under u).k=10∨(under u).k=16 then true
 else if(under u).k=3∨(under u).k=5 then(under u).es.attach.all fun⟨e,_⟩=>ee e
 else(under u).k==1||(under u).k==6||(under u).k==9
termination_by u.sz
decreasing_by
 have h1:=U.az ‹_›
 have h2:=dn u
 omega
theorem vz{u:U}(h:isIface u=true):ee u=true:=by
 unfold isIface at h;simp only[Bool.or_eq_true,beq_iff_eq]at h;rw[ee,if_pos h]
theorem vA{u:U}(h:(under u).k=3∨(under u).k=5):ee u=(under u).es.all ee:=by
 rw[ee,if_neg (by omega),if_pos h];conv=>rhs;rw[←List.attach_map_subtype_val (under u).es,List.all_map]
 rfl
theorem vC{u:U}(hi:isIface u=false)(h:¬((under u).k=3∨(under u).k=5)):ee u=((under u).k==1||(under u).k==6||(under u).k==9):=by
 unfold isIface at hi;simp only[Bool.or_eq_false_iff,beq_eq_false_iff_ne]at hi;rw[ee,if_neg (by omega),if_neg h]
theorem Ez{len:Nat}{u:U}(h:dh len u):ee u=bj true u:=by
 induction h with
 | @mk u _ _ _ _ _ _ _ d _ ih=>
   by_cases a:(under u).k=3∨(under u).k=5
   ·rw[vA a,jU a,Bool.eq_iff_iff,List.all_eq_true,List.all_eq_true]
    exact⟨fun k x c=>by rw[←ih x c a];exact k x c,fun k x c=>by rw[ih x c a];exact k x c⟩
   ·rw[mr a]
    by_cases b:(under u).k=10
    ·rw[vz (by unfold isIface;simp[b]),b];rfl
    ·rw[vC (by unfold isIface;simp[b,d]) a]
     simp[b]
def vD(D:Dl)(dc:Nat)(u:U):Prop:=
 ∀(p:Pm)(pos f:Nat)(a:Option Addr)(c:Nat)(w:World),Pl D.len u pos f→f≤2→f≠0→u.k≠12→u.k≠13→aj p D u a c→KW p w→
  Calls Tryz.prog 27 #[.slice D.a D.len dc,.agg #[.int .i64 u.k,.int .i64 u.n,.int .i64 u.m,.bool u.v,.string u.nm,.string u.tg,.slice a u.es.length c],.bool false] w (RB (ee u) w)
theorem EA(p:Pm)(D:Dl)(dc:Nat)(u:U)(f:Nat)(a:Option Addr)(c:Nat)(w:World)(i:vD D dc u)(e:Pl D.len u 0 f)(r:f≤2)(g:f≠0)(hu:aj p D u a c)(hw:KW p w)(j l:Nat)
 (h1:w.cell? ⟨j,0,none⟩=some (.slice D.a D.len dc))(h2:w.cell? ⟨l,0,none⟩=some (.bool false)):
 Calls Tryz.prog 52 #[.agg #[.int .i64 u.k,.int .i64 u.n,.int .i64 u.m,.bool u.v,.string u.nm,.string u.tg,.slice a u.es.length c],.pointer (some ⟨j,0,none⟩),.pointer (some ⟨l,0,none⟩)] w (RB (!ee u) w):=by
 have b1:=World.block_lt_of_cell? _ _ h1;have s:=World.block_lt_of_cell? _ _ h2;simp only at b1 s;have ag:Up p w (w.alloc (.cells #[.int .i64 u.k,.int .i64 u.n,.int .i64 u.m,.bool u.v,.string u.nm,.string u.tg,.slice a u.es.length c] 25)):=(Up.refl hw).alloc _;have d:=e.form.aB;have o:=fun W t=>i p 0 f a c W e r g d.1 d.2 hu t;clear e i d;go_enter Tryz.func52,Tryz.ntmps52;go_wp2_with fail
 refine(o _ ag.kw).mono ?_;rintro x y ⟨b,rfl,q,aa⟩;have h:=(ag.step aa).up;have hF:Hid ((!b)= !ee u):=by unfold Hid;rw[q.out]
 clear q aa o;go_wp2_with fail
 go_ret;exact⟨_,rfl,hF,h⟩
theorem EB(D:Dl)(dc:Nat):∀u,vD D dc u:=by
 intro u;induction u using U.bg with
 |_ u ih=>
  intro p pos f a c w E P z o s hu hw;obtain⟨M,Q,F,x,hk,y⟩:=E.under P z o s;have N:=fun W A=>e_ p D dc u pos f a c W E P z o s hu A;have G:=Lib.hid fun W hk=>gA p D dc u pos f a c W E P z o s hu hk;have ag:Up p w (((w.alloc (.cells #[.slice D.a D.len dc] 22)).alloc (.cells #[.int .i64 u.k,.int .i64 u.n,.int .i64 u.m,.bool u.v,.string u.nm,.string u.tg,.slice a u.es.length c] 25)).alloc (.cells #[.bool false] 4)):=(((Up.refl hw).alloc _).alloc _).alloc _;cases hi:isIface u
  case true=>
   have g:=fun W A=>aM (N W A) hi;have hF:Hid (true=ee u):=(vz hi).symm;clear N hi ih E x hk y G o s;go_enter Tryz.func27,Tryz.ntmps27;go_wp2_with fail
   refine(g _ ag.kw).mono ?_;rintro R d ⟨rfl,aa⟩;have S:d.cell? ⟨w.heap.size+2,0,none⟩=some (.bool false):=TS.cell_kept aa (by first|(simp[go_sem];done)|(go_keep;done));have T:=(ag.step aa).up;clear aa g;go_wp2_with fail
   go_ret;exact⟨_,rfl,hF,T⟩
  have g:=fun W A=>aM (N W A) hi;have V:= @vA u;have X:= @vC u hi;generalize ee u=r at*;have Y:under u=under u:=rfl;generalize under u=v at*;clear N hi Y o s E;by_cases t:v.k=3∨v.k=5
  ·have hF:=Lib.hid (V t)
   have hE:Hid (∀i(hi:i<v.es.length),Pl D.len v.es[i] 0 M):=fun i hi=>by
    have h:=x.part i hi;rw[show aS v i=0 by unfold aS;rw[if_neg (by omega),if_neg (by omega)]]at h;rwa [show aJ v i M=M by unfold aJ;split;omega;rw[if_neg (by omega)];split;omega;omega]at h
   have hS:=Lib.hid fun e (he:e∈v.es)=>ih e (Nat.lt_of_lt_of_le (U.az he) y);have P9:∀(fn:Fn)(first cap:Array Value)(w:World),(Instr.makeFunc fn first cap).run Tryz.prog w= .ok (.func fn first cap) w:=fun _ _ _ _=>rfl;have eg:=Lib.hid (show ∀args w,(callFunc 52 args).run Tryz.prog w= .ok (.enter 52 args) w from dm Tryz.func52 (by kernel_rfl) rfl);have hA:=Lib.hid (jE v.es ee);clear V X ih x y;have t1:(v.k==1)=false:=by simp;omega
   have t6:(v.k==6)=false:=by simp;omega
   have t9:(v.k==9)=false:=by simp;omega
   have t35:((v.k==3)=true∧(v.k==5)=false)∨((v.k==3)=false∧(v.k==5)=true):=by rcases t with h|h<;>simp[h]
   clear hk t;rcases t35 with⟨t3,t5⟩|⟨t3,t5⟩
   all_goals
    go_enter Tryz.func27,Tryz.ntmps27;go_wp2_with fail
    refine(g _ ag.kw).mono ?_;rintro R d ⟨rfl,aa⟩;have l:=ag.step aa;obtain⟨Z,x1,x2,x3,x4,x5,x6⟩:(d.cell? ⟨w.heap.size+1,0,none⟩=some (.int .i64 u.k)∧d.cell? ⟨w.heap.size+1,1,none⟩=some (.int .i64 u.n)∧d.cell? ⟨w.heap.size+1,2,none⟩=some (.int .i64 u.m)∧d.cell? ⟨w.heap.size+1,3,none⟩=some (.bool u.v)∧d.cell? ⟨w.heap.size+1,4,none⟩=some (.string u.nm)∧d.cell? ⟨w.heap.size+1,5,none⟩=some (.string u.tg)∧d.cell? ⟨w.heap.size+1,6,none⟩=some (.slice a u.es.length c)):=by
     repeat' apply And.intro
     all_goals exact TS.cell_kept aa (by first|(simp[go_sem];done)|(go_keep;done))
    have d0:d.cell? ⟨w.heap.size,0,none⟩=some (.slice D.a D.len dc):=TS.cell_kept aa (by first|(simp[go_sem];done)|(go_keep;done));have S:d.cell? ⟨w.heap.size+2,0,none⟩=some (.bool false):=TS.cell_kept aa (by first|(simp[go_sem];done)|(go_keep;done));clear aa g ag;go_wp2_with fail
    refine(G.out _ l.kw).mono ?_;rintro e2 w2 ⟨q,O,c1,rfl,hg,I,B,j⟩;have P3:=l.step j;have d2:w2.cell? ⟨w.heap.size,0,none⟩=some (.slice D.a D.len dc):=TS.cell_kept j d0;have s2:w2.cell? ⟨w.heap.size+2,0,none⟩=some (.bool false):=TS.cell_kept j S;have P8:=B.cap;have hle:(v.es.length:Int)≤1048576:=by omega
    have hK:=Lib.hid fun W (A:KW q W) lb H=>fL v.es.length q D v.es rfl O c1 52 lb (fun e=> !ee e) W A B.list hle eg.out H;have P4:=P3.alloc (.cells #[.int .i64 v.k,.int .i64 v.n,.int .i64 v.m,.bool v.v,.string v.nm,.string v.tg,.slice O v.es.length c1] 25);have J:=I.alloc (.cells #[.int .i64 v.k,.int .i64 v.n,.int .i64 v.m,.bool v.v,.string v.nm,.string v.tg,.slice O v.es.length c1] 25);have b0:=World.block_lt_of_cell? _ _ d2;have bs:=World.block_lt_of_cell? _ _ s2;simp only at b0 bs;clear G j d0 S Z x1 x2 x3 x4 x5 x6 l;go_wp2_with fail
    refine(hK.out _ J _ ?_).mono ?_
    ·intro i hi W a' c' C P5
     exact EA q D dc _ M a' c' W (hS.out _ (List.getElem_mem hi)) (hE.out i hi) Q F P5 (J.grown C) _ _ (TS.cell_kept C (by rw[World.cell?_alloc_lt _ _ _ b0];exact d2)) (TS.cell_kept C (by rw[World.cell?_alloc_lt _ _ _ bs];exact s2))
    rintro R w3 ⟨b,rfl,hb,K⟩;have P6:=(P4.step K).up;have P7:Hid ((!b)=r):=by unfold Hid;rw[hb.out,hF.out,hA.out];simp
    clear hb K;go_wp2_with fail
    go_ret;exact⟨_,rfl,P7,P6⟩
  ·have hF:=Lib.hid (X t)
   clear V X ih x y hk;have t3:(v.k==3)=false:=by simp;omega
   have t5:(v.k==5)=false:=by simp;omega
   cases t1:v.k==1<;>cases t6:v.k==6<;>cases t9:v.k==9
   all_goals
    first
    |(exfalso;simp at t1 t6 t9;omega)
    |rw[t1,t6,t9]at hF
     simp only[Bool.or_false,Bool.or_true,Bool.false_or,Bool.true_or]at hF;clear t;go_enter Tryz.func27,Tryz.ntmps27;go_wp2_with fail
     refine(g _ ag.kw).mono ?_;rintro R d ⟨rfl,aa⟩;have l:=ag.step aa;obtain⟨Z,x1,x2,x3,x4,x5,x6⟩:(d.cell? ⟨w.heap.size+1,0,none⟩=some (.int .i64 u.k)∧d.cell? ⟨w.heap.size+1,1,none⟩=some (.int .i64 u.n)∧d.cell? ⟨w.heap.size+1,2,none⟩=some (.int .i64 u.m)∧d.cell? ⟨w.heap.size+1,3,none⟩=some (.bool u.v)∧d.cell? ⟨w.heap.size+1,4,none⟩=some (.string u.nm)∧d.cell? ⟨w.heap.size+1,5,none⟩=some (.string u.tg)∧d.cell? ⟨w.heap.size+1,6,none⟩=some (.slice a u.es.length c)):=by
      repeat' apply And.intro
      all_goals exact TS.cell_kept aa (by first|(simp[go_sem];done)|(go_keep;done))
     have d0:d.cell? ⟨w.heap.size,0,none⟩=some (.slice D.a D.len dc):=TS.cell_kept aa (by first|(simp[go_sem];done)|(go_keep;done));clear aa g ag;go_wp2_with fail
     refine(G.out _ l.kw).mono ?_;rintro e2 w2 ⟨q,O,c1,rfl,hg,I,B,j⟩;have L:=(l.step j).up;clear G j Z x1 x2 x3 x4 x5 x6 d0;go_wp2_with fail
     go_ret;exact⟨_,rfl,Lib.hid hF.out.symm,L.alloc L.size _⟩
theorem EC(p:Pm)(D:Dl)(dc:Nat)(u:U)(f:Nat)(a:Option Addr)(c:Nat)(w:World)(g:Pl D.len u 0 f)(l:f≤2)(h:f≠0)(hu:aj p D u a c)(hw:KW p w):
 Calls Tryz.prog 12 #[.slice D.a D.len dc,.agg #[.int .i64 u.k,.int .i64 u.n,.int .i64 u.m,.bool u.v,.string u.nm,.string u.tg,.slice a u.es.length c]] w (RB (ee u) w):=by
 have d:=g.form.aB;have j:=Lib.hid fun W o=>EB D dc u p 0 f a c W g l h d.1 d.2 hu o;have e:=Lib.hid hw;clear g d hu hw;have ag:Up p w (w.alloc (.cells #[.int .i64 u.k,.int .i64 u.n,.int .i64 u.m,.bool u.v,.string u.nm,.string u.tg,.slice a u.es.length c] 25)):=(Up.refl e.out).alloc _;go_enter Tryz.func12,Tryz.ntmps12;go_wp2_with fail
 refine(j.out _ (by first|exact ag.kw|exact e.out)).mono ?_;rintro s q ⟨b,rfl,r,aa⟩;have i:=Lib.hid (by first|exact(ag.step aa).up|exact aa:Below w.heap.size w q);clear aa j ag;go_wp2_with fail
 go_ret;exact⟨_,rfl,r,i.out⟩
def hZ(D:Dl)(ds:List aH)(u:U):Bool:=ah D.len u ⟨D.len,false,false⟩ .type&&mt (aN ds) .type (aV ds u) false
theorem ED{p:Pm}{D:Dl}{ds:List aH}(hT:dV p D (aN ds)){u:U}{a:Option Addr}(h:au p D [u] a):au p D [aV ds u] a:=by
 simp only[au]at h⊢;obtain⟨b,o,rfl,⟨a',c',h7,hu⟩,_⟩:=h;refine⟨b,o,rfl,⟨a',c',?_,iK hT u 1 hu⟩,trivial⟩;obtain⟨f1,f2,f3,f4,f5,f6,f7⟩:=jB ds u;unfold cN at*;rw[f1,f2,f3,f4,f5,f6,f7];exact h7
theorem EE{D:Dl}{ds:List aH}{NS:List (List UInt8)}(R:Raw NS ds)(hlen:ds.length=D.len)(V:dL D ds)(p:Pm)(dc:Nat)(o:cF p D ds)(u:U)(x:Names NS u)(j:u.dep≤1048576)(a:Option Addr)(w:World)(n:au p D [u] a)(hw:KW p w):
 Calls Tryz.prog 24 #[.slice D.a D.len dc,.slice a 1 1] w (RB (hZ D ds u) w):=by
 have k:=fun W (g:KW p W)=>gS p D dc [u] ⟨D.len,false,false⟩ a 1 W (fun e he=>fun q a c W hu g=>lZ p D dc e q a c W hu g) n (by simp) g;simp only[List.length_cons,List.length_nil,Nat.zero_add,List.all_cons,List.all_nil,Bool.and_true]at k;obtain⟨r,hr⟩:∃r,r=hZ D ds u:=⟨_,rfl⟩
 rw[←hr];cases d:ah D.len u ⟨D.len,false,false⟩ .type
 ·have i:=Lib.hid fun W g=>aM (k W g) d
  have hF:Hid (false=r):=by unfold Hid;rw[hr,hZ,d];rfl
  have h:=Lib.hid hw;clear k d hr V R o n hw;go_enter Tryz.func24,Tryz.ntmps24;go_wp2_with fail
  refine(i.out _ h.out).mono ?_;rintro s z ⟨rfl,aa⟩;have f:=Lib.hid aa;clear aa;go_wp2_with fail
  go_ret;exact⟨_,rfl,hF,f.out⟩
 have i:=Lib.hid fun W g=>aM (k W g) d;have hk:=nC R hlen V d x j;have hT:=kh o;have hM:=fun W g=>pQ p D dc (aN ds) [aV ds u] a 1 1 W (by simp) (fun e he a c W hu g=>by
  have s:e=aV ds u:=by simpa using he
  subst s;exact nB (kl R hlen V) dc (aV ds u) false p 0 1 a c W hk hk.pl.form.aB.1 hk.pl.form.aB.2 hT hu g) (ED hT n) (by simp) g
 simp only[List.all_cons,List.all_nil,Bool.and_true]at hM;have hF:Hid (mt (aN ds) .type (aV ds u) false=r):=by unfold Hid;rw[hr,hZ,d];rfl
 generalize mt (aN ds) .type (aV ds u) false=y at*;have l:=Lib.hid hM;have h:=Lib.hid hw;clear k d hr V R o n hw hM hk hT x;go_enter Tryz.func24,Tryz.ntmps24;go_wp2_with fail
 refine(i.out _ h.out).mono ?_;rintro s z ⟨rfl,aa⟩;have f:=Lib.hid aa;have t:=Lib.hid (l.out z (h.out.grown aa));clear aa l;go_wp2_with fail
 refine t.out.mono ?_;rintro C E ⟨b,rfl,A,m⟩;have B:=Lib.hid (f.out.trans (m.mono f.out.size));have v:=Lib.hid (A.out.trans hF.out);clear A m;go_wp2_with fail
 go_ret;exact⟨_,rfl,v,B.out⟩
end Go.Proofs.YtkfaiocajcjomaaGreatDoor
