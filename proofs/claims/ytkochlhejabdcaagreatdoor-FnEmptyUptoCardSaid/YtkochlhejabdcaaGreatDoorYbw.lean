import Derived.ChangeArms
import Derived.Deep.Slices
import Derived.Test.YtkochlhejabdcaaGreatDoorRows
import Derived.Test.YtkochlhejabdcaaGreatDoorYbu
import Derived.Test.YtkochlhejabdcaaGreatDoorYbv
set_option maxRecDepth 100000
set_option maxHeartbeats 8000000
set_option linter.all false
namespace TS
open Go Go.RowKit Go.Proofs.YtkochlhejabdcaaGreatDoor
theorem e_.trans{p q r:Pm}{D E F:Dl}(h:e_ p D q E)(k:e_ q E r F):e_ p D r F:=
 ⟨h.sub.trans k.sub,Nat.le_trans h.len k.len,fun n b=>by
  obtain⟨i,d,eb,e,h1,l,m⟩:=h.at' n b;obtain⟨a,o,s,f,c,t,u⟩:=k.at' n (Nat.lt_of_lt_of_le b h.len);rw[l]at c;obtain⟨rfl,rfl⟩:eb=a∧e=o:=by simpa using c
  exact⟨i,d,s,f,h1,t,fun j g v w=>u j g v (m j g v w)⟩⟩
def Pm.row(q:Pm)(v:Value)(xs:List Value):Pm:=fun b o=>if v.ownBlock=some b then xs[o]? else q b o
section
variable {q:Pm} {W:World} {base size n:Nat} {e:TypeId} {v:Value} {xs:List Value}
theorem Pm.FR(ag:∀b,v.ownBlock=some b→∀o u,q b o=some u→xs[o]?=some u):Sub q (q.row v xs):=fun b o u hu=>by
 unfold Pm.row;split
 ·exact ag b ‹_› o u hu
 ·exact hu
theorem KW.row(hk:KW q W)(a:W.ownsRow base e size v n xs):KW (q.row v xs) W:=fun b o u hu=>by
 unfold Pm.row at hu;split at hu
 ·rename_i c
  rcases a.2 with⟨rfl,_⟩|⟨g,cap,cur,rfl,_⟩
  ·cases c
  ·obtain rfl:g=b:=by simpa [Value.ownBlock]using c
   have h:=a.cells (g:=g) rfl o u hu;rwa [show((Xa g 0):Addr).add o=(Xa g o) by unfold Addr.add;split<;>simp_all]at h
 ·exact hk b o u hu
theorem Pm.xg(a:W.ownsRow base e size v n xs)(ag:∀b,v.ownBlock=some b→∀o u,q b o=some u→xs[o]?=some u):aN q (q.row v xs) base:=⟨Pm.FR ag,fun b o u hu=>by
 unfold Pm.row at hu;split at hu
 ·exact .inr (a.lt b ‹_›).1
 ·exact .inl hu⟩
end
theorem pd(len n:Nat):Pl len (ep n) 0 1∧Pl len (jd (ep n)) 0 1:=by
 have b:∀f,Pl len (.mk 1 0 0 false ⟨#[]⟩ ⟨#[]⟩ [] []) 0 f:=fun f=>by
  rw[Pl];exact⟨.basic rfl zd zd rfl,fun i hi=>by simp[U.es]at hi,fun h=>absurd h zd⟩
 have ha:∀f,Pl len (.mk 3 n 0 false ⟨#[63]⟩ ⟨#[]⟩ [.mk 1 0 0 false ⟨#[]⟩ ⟨#[]⟩ [] []] []) 0 f:=fun f=>by
  rw[Pl];refine⟨.one (.inr rfl) (by simp[U.n]) rfl,fun i hi=> ?_,fun h=>absurd h (show(3:Int)≠11 by decide)⟩;obtain rfl:i=0:=by simp[U.es]at hi;omega
  exact b _
 have a:∀f,Pl len (ep n) 0 f:=fun f=>by
  unfold ep;rw[Pl];refine⟨.struct rfl (fun h=>by cases h) (by simp[U.es]),fun i hi=> ?_,fun h=>absurd h (show(5:Int)≠11 by decide)⟩;obtain rfl:i=0:=by simp[U.es]at hi;omega
  exact ha _
 refine⟨a 1,?_⟩;unfold jd;rw[Pl];refine⟨.ptr (.inl rfl) (show(0:Int)≤0 by decide) (show(0:Int)<3 by decide) rfl,fun i hi=> ?_,fun h=>absurd h (show(4:Int)≠11 by decide)⟩;obtain rfl:i=0:=by simp[U.es]at hi;omega
 exact a _
theorem FT{p q:Pm}{D E:Dl}{j:Nat}{a:Option Addr}{c:Nat}{b o:Nat}(d:E.a= .some (Xa b o))(h:ai p D (dJ j) a c):ai q E (dJ j) a c:=by
 simp only[dJ,ai]at h⊢;exact⟨h.1,aq.nil,fun _ _ _=>⟨b,o,d,trivial⟩⟩
end TS
namespace Go.Proofs.YtkochlhejabdcaaGreatDoor
open Go.RowKit TS
structure rN(p:Pm)(D:Dl)(ds:List aC)(T:List U)(w a:World)(q:Pm)(E:Dl)(L:List U)(es:List aC)(oa:Option Addr):Prop where
 up:Below w w a
 gr:aN p q w
 kw:KW q a
 dx:e_ p D q E
 jL:ca q E es
 iV:aq q E L oa
 nh:fV D.len ds [] T L es
 ln:L.length≤1048576
theorem o_.done{p:Pm}{D:Dl}{ds:List aC}{T:List U}{w w':World}{e:Ending}(h:o_ p D ds T w e w')(Y:∀d∈ds,(∃pos f,Pl D.len d.un pos f)∧∀m∈d.ms,∃pos f,Pl D.len m.sig pos f)(hT:∀x∈T,Pl D.len x 0 2∧x.k≠12∧x.k≠13):
 ∃q E ec oa on oc L es,e= .returned (.tuple #[Xd E ec,.slice oa on oc])∧on=L.length∧rN p D ds T w w' q E L es oa:=by
 obtain⟨q,D0,B1,B2,B3,vo,aw,F,l,a,rfl,⟨Z,PG,PH,PI⟩,t,H,B,i,s⟩:=h;obtain⟨go,co,rfl,PU,PW,_,_,_,_⟩:=gZ i.rt Z;obtain⟨c,PX,C,PY,PZ,_,_,_,_⟩:=gZ i.rd PG;cases C;have PJ:∀b,(Value.slice (Xa go 0) l.length co).ownBlock=some b→∀o u,q b o=some u→(aX l)[o]?=some u:=fun b hb o u hu=>by
  rw[i.dk b (.inr (.inr (.inr hb))) o]at hu;cases hu
 have I:=qK i.rd i.rt zd (g:=c) rfl;have J:c≠go:=fun e=>I (by rw[e];rfl);have PK:∀b,(Value.slice (Xa c 0) a.length F).ownBlock=some b→∀o u,q.row (.slice (Xa go 0) l.length co) (aX l) b o=some u→(bz a)[o]?=some u:=fun b hb o u hu=>by
  obtain rfl:c=b:=by simpa [Value.ownBlock]using hb
  unfold Pm.row at hu;rw[if_neg I]at hu;exact i.ag c rfl o u hu
 have PL:=Pm.xg i.rt PJ;have PM:=Pm.xg i.rd PK;have PN:=(i.kw.row i.rt).row i.rd;have K:=(PL.trans PM zl)
 have M:∀j u,(bz a)[j]?=some u→((q.row (.slice (Xa go 0) l.length co) (aX l)).row (.slice (Xa c 0) a.length F) (bz a)) c j=some u:=fun j u hu=>by
  unfold Pm.row;rw[if_pos (show(Value.slice (Xa c 0) a.length F).ownBlock=some c from rfl)];exact hu
 have PO:∀j u,(aX l)[j]?=some u→((q.row (.slice (Xa go 0) l.length co) (aX l)).row (.slice (Xa c 0) a.length F) (bz a)) go j=some u:=fun j u hu=>by
  unfold Pm.row;rw[if_neg (by simpa [Value.ownBlock]using J),if_pos (show(Value.slice (Xa go 0) l.length co).ownBlock=some go from rfl)];exact hu
 generalize (q.row (.slice (Xa go 0) l.length co) (aX l)).row (.slice (Xa c 0) a.length F) (bz a)=V at*;have G:e_ q D0 V ⟨.some (Xa c 0),a.length⟩:=⟨K.le,B.1,fun n hn=>by
  obtain⟨db,d,eb,e,h1,N,h3⟩:=H.at' n zo;obtain⟨P0,e',O,P⟩:=B.2 n hn eb e N;cases O;refine⟨eb,e,c,0,N,rfl,fun j X v C=> ?_⟩;have Q:n*8+j<(bz a).length:=by have:=B.1;rw[kX];simp only at this;omega
  have hc:=i.rd.cells (g:=c) rfl (n*8+j) _ (List.getElem?_eq_getElem Q);rw[show((Xa c 0):Addr).add (n*8+j)=(Xa c (n*8+j)) by unfold Addr.add;split<;>simp_all]at hc;have R:=P j X v C;rw[Nat.zero_add,hc]at R;rw[Nat.zero_add,M _ _ (List.getElem?_eq_getElem Q)];exact R⟩
 have P1:a.length=(cI a).length:=by simp[cI]
 have PQ:∀x∈l,ai V ⟨.some (Xa c 0),a.length⟩ x.1 x.2.1 x.2.2:=fun x r=>by
  rcases s.ty x.1 (List.mem_map.2 ⟨x,r,rfl⟩)with hy|⟨j,_,_,X⟩
  ·exact ai.ext G _ (.inr ⟨0,2,by rw[t];exact(hT _ hy).1⟩) (i.tt x r)
  ·have:=i.tt x r
   rw[X]at this⊢;exact FT rfl this
 have PR:eK V ⟨.some (Xa c 0),a.length⟩ a:=fun x r=>by
  obtain⟨j,X,rfl⟩:=List.getElem_of_mem r;obtain⟨h1,N,h3,h4⟩:=i.dd _ r;have PS:j<(cI a).length:=zo;have S:(cI a)[j]=a[j].1:=by simp[cI]
  by_cases P2:j<D.len
  ·have hm:a[j].1∈ds:=by
    rw[←S,←s.iX];exact List.mem_take_iff_getElem.2 ⟨j,by omega,rfl⟩
   obtain⟨⟨_,_,O⟩,P⟩:=Y _ hm;exact⟨ai.ext G _ (.inr ⟨_,_,by rw[t];exact O⟩) h1,N,h3,cM.ext G (fun m z=>let⟨_,_,k⟩:=P m z; .inr ⟨_,_,by rw[t];exact k⟩) h4⟩
  ·obtain⟨e1,A⟩:=s.de j PS zo
   rw[S]at e1 A;have PT:a[j].1.ms= []:=by rw[e1];split<;>rfl
   refine⟨ai.ext G _ (.inr ?_) h1,N,h3,cM.ext G (fun m z=>by rw[PT]at z;cases z) h4⟩;rw[t];rcases A with⟨y,hy,A⟩|⟨n,hn,A|A⟩
   ·obtain⟨O,P,k3⟩:=hT y hy
    obtain⟨f',_,_,k4,_⟩:=O.under zo zo P k3;rw[A];exact⟨_,_,k4⟩
   ·rw[A];exact⟨_,_,(pd _ n).1⟩
   ·rw[A];exact⟨_,_,(pd _ n).2⟩
 have hle:=s.le;refine⟨V,⟨.some (Xa c 0),a.length⟩,F,_,_,_,aL l,cI a,rfl,(fD l).symm,i.up,i.gr.trans (K.mono zl) zl,PN,H.trans G,tj rfl PH PR fun j v C=>M j v C,lX PQ fun j v C=> ?_,s,by rw[fD];exact PI⟩;rw[Nat.zero_add];exact PO j v C
def iu(es:List aC)(x:U):U:=match x.un with
 | []=>cW (es.map aC.un) x
 |_=>x
def je(es:List aC)(x:U):Xo:=⟨fun y=>aJ (under x) y,fun y=>aJ x y,eQ true x,fun want=>hasB (fW es x) want⟩
theorem xh{NS:List (List UInt8)}(K:NS.length≤1048576){q:Pm}{D E:Dl}{ec:Nat}{es:List aC}(hE:D.len≤E.len)(hD:ca q E es){x:U}{u:Option Addr}{cx:Nat}(hu:ai q E x u cx){f:Nat}(s:Pl E.len x 0 f)(w:f≤2)(i:f≠0)(hV:aM x)(hN:Names NS x)(L:aM (under x))
 (hm:∀m∈fW es x,Vt E.len m∧Names NS m)(M:(fW es x).length≤1048576):jM q E ec x u cx (je es x) (fW es x) (PV D NS) (fun l=> ∀m∈l,PV D NS m):=by
 have b:=s.form.aD;have N:=k_ E ec NS K;obtain⟨f',O,PG,z,_,_⟩:=s.under w i b.1 b.2;have A:=z.form.aD;have t:∀y,PV D NS y→∃j,j≤2∧Pl E.len y 0 j∧aM y∧Names NS y∧y.k≠12∧y.k≠13:=fun y ⟨t,P⟩=>by
  obtain⟨j,h1,B⟩:=t.pl;exact⟨j,h1,B.more hE,t.val,P,B.form.aD.1,B.form.aD.2⟩
 refine⟨fun h y a c W o p r d=> ?_,fun h y a c W o p r d=> ?_,fun W d=>FQ q E ec x 0 f u cx W s w i b.1 b.2 hu d,fun h W o d=>FC h E ec es (hD.sub o) x 0 f u cx W s w b.1 b.2 (ai.sub o _ hu) d,fun h W a n c a' n' c' want o d hL Q R S hM T=> ?_⟩
 ·obtain⟨j,C,F,G,H,I,J⟩:=t y p
  refine(f_ h E ec x 0 f u cx W s w i b.1 b.2 (ai.sub o _ hu) d).mono ?_;rintro e w' ⟨q2,a2,c2,rfl,V,hk,X,hb⟩;exact⟨_,rfl,hb,fun W' Y=>N (under x) y _ _ _ _ z O A.1 A.2 F C I J L G hN.under H q2 _ _ _ _ W' X (ai.sub V.le _ r) (hk.grown Y)⟩
 ·obtain⟨j,C,F,G,H,I,J⟩:=t y p
  exact N x y _ _ _ _ s w b.1 b.2 F C I J hV G hN H h _ _ _ _ W (ai.sub o _ hu) r d
 ·refine qk h E ec (fW es x) want a n c a' n' c' W Q S M T hL R d fun g V m Z=> ?_
  obtain⟨h1,B⟩:=hm g V;obtain⟨fg,g1,g2⟩:=h1.pl;obtain⟨j,C,F,G,H,I,J⟩:=t m (hM m Z);exact N g m _ _ _ _ g2 g1 g2.form.aD.1 g2.form.aD.2 F C I J h1.val G B H h
end Go.Proofs.YtkochlhejabdcaaGreatDoor
namespace Go.Proofs.YtkochlhejabdcaaGreatDoor
open Go.RowKit TS Proofs.Tryz
theorem FU(D:Dl)(dc:Nat)(x v t:U)(e:Option Addr)(cx:Nat)(a:Option Addr)(c:Nat)(a':Option Addr)(c':Nat)(bv j:Bool)(p:Pm)(w:World)(hw:KW p w)(f:∀W,KW p W→Xk 24 #[Xd D dc,Xt x e cx,Xt v a c] W (RB bv W))(g:∀W,KW p W→Xk 24 #[Xd D dc,Xt x e cx,Xt t a' c'] W (RB j W))
 (m r n:Nat)(h1:Xc w m 0 (Xd D dc))(z:(Xl w r v a c))(A:(Xl w n t a' c')):
 Xk 55 #[Xt x e cx,Xp m,Xp r,Xp n] w (RB (bv&& !j) w):=by
 obtain⟨s,B,C,E,F,G,H⟩:=z;obtain⟨u,I,J,K,L,M,N⟩:=A;have b1:=zb h1;have k:=zb s;have b3:=zb u;simp only at b1 k b3;have ae:=zh ((Up.refl hw).alloc (Xt x e cx));have f:=zh (f _ ae.out.kw);have g:=zh g;clear hw;go_enter func55,ntmps55;go_wp2_with fail
 refine f.out.mono ?_;rintro O o ⟨b,rfl,l,aa⟩;have d:=zh (ae.out.step aa);cases b with
 |false=>
  have hF:Hid (false=(bv&& !j)):=by unfold Hid;rw[←l.out];rfl
  clear l aa f g;go_wp2_with fail
  go_ret;exact⟨_,rfl,hF,d.out.up⟩
 |true=>
  obtain⟨z0,P,z2,z3,z4,z5,Q⟩:TS.L7 o n t a' c':=by
   repeat' apply And.intro
   all_goals exact TS.cell_kept aa (by simp[go_sem, *];done)
  obtain⟨R,S,T,V,X,Y,Z⟩:=(dE w x e cx 25).below aa;have d0:Xc o m 0 (Xd D dc):=TS.cell_kept aa (by simp[go_sem, *];done);have y:=zh (g.out o d.out.kw);clear aa f g s B C E F G H u I J K L M N h1 b1 k b3;go_wp2_with fail
  refine y.out.mono ?_;rintro e2 w2 ⟨k,rfl,h,i⟩;have hF:Hid ((!k)=(bv&& !j)):=by unfold Hid;rw[←l.out,h.out];rfl
  have q:=zh (d.out.step i);clear l h i y;go_wp2_with fail
  go_ret;exact⟨_,rfl,hF,q.out.up⟩
theorem FV{NS:List (List UInt8)}(PQ:NS.length≤1048576)(p:Pm)(D:Dl)(dc:Nat)(ds:List aC)(hD:ca p D ds)(hn:D.len≤1000000)(j:∀d∈ds,(∃pos f,Pl D.len d.un pos f)∧∀m∈d.ms,∃pos f,Pl D.len m.sig pos f)(v t:U)(pv T pt V:Nat)(G:Pl D.len v pv T)(H:T≤2)(l:T≠0)(v12:v.k≠12)(I:v.k≠13)
 (J:Pl D.len t pt V)(K:V≤2)(n:V≠0)(t12:t.k≠12)(t13:t.k≠13)(hr:an v= [])(hN:Names NS v)(hl:(a7 v).length+(a7 t).length≤1000)(hT:∀x∈a7 v++a7 t,Pl D.len x 0 2∧x.k≠12∧x.k≠13)
 (X:List aC→U→Xo)(P:U→Prop)(M:List U→Prop)(Y:∀q E ec L es oa W Z,rN p D ds (a7 v++a7 t) W Z q E L es oa→∀x∈L,∀N cx,ai q E x N cx→∃ml,jM q E ec x N cx (X es x) ml P M)(r:eP P M v)(s:eP P M t)
 (a:Option Addr)(c:Nat)(a':Option Addr)(c':Nat)(w:World)(hu:ai p D v a c)(g:ai p D t a' c')(hw:KW p w):
 Xk 23 #[Xd D dc,Xt v a c,Xt t a' c'] w fun e w'=> ∃b,e= .returned (.bool b)∧Hid (∃L es,fV D.len ds [] (a7 v++a7 t) L es∧b= !(L.any fun x=>bQ (X es x) v&& !bQ (X es x) t))∧Below w w w':=by
 have hlen:=hD.len;have ae:Up p w (((w.alloc (.cells #[Xd D dc] 22)).alloc (Xt v a c)).alloc (Xt t a' c')):=(((Up.refl hw).alloc _).alloc _).alloc _;have hS:=zh (FB PQ p D dc ds hD hn v t pv T pt V G H l v12 I J K n t12 t13 hr hN hl hT a c a' c' _ hu g ae.kw);have PW:∀(fn:Fn)(first cap:Array Value)(w:World),(Instr.makeFunc fn first cap).run Tryz.prog w= .ok (.func fn first cap) w:=fun _ _ _ _=>rfl;have eg:=zh (show ∀args w,(callFunc 55 args).run Tryz.prog w= .ok (.enter 55 args) w from dG func55 zk rfl);have A:=zh (And.intro hlen (And.intro j (And.intro hT (And.intro Y (And.intro r s)))));have B:=zh (And.intro G (And.intro J (And.intro hu (And.intro g ae))));have hk:=zh (And.intro (And.intro H l) (And.intro K n));have PR:=zh hw;have y:=zh (And.intro (And.intro v12 I) (And.intro t12 t13));clear hlen j hT Y r s G J hu g ae H l K n v12 I t12 t13 hr hN hD hw hn hl;go_enter func23,ntmps23;go_wp2_with fail
 refine hS.out.mono ?_;rintro e1 S hR;obtain⟨hlen,j,hT,Y,r,s⟩:=A.out;obtain⟨q,E,ec,oa,on,oc,L,es,rfl,O,hM⟩:=hR.done j hT;obtain⟨G,J,hu,g,ae⟩:=B.out;have PG:=ae.up.trans (hM.up.mono ae.up.size);have Q:D.len≤E.len:=hM.dx.len;have PH:=ai.ext hM.dx v (.inr ⟨_,_,G⟩) hu;have C:=ai.ext hM.dx t (.inr ⟨_,_,J⟩) g;have hIn:=zh fun x (hx:x∈L) N cx q' (hs:TS.Sub q q') (PS:ai q E x N cx) W (hW:KW q' W)=>by
  obtain⟨ml,PI⟩:=Y q E ec L es oa _ _ hM x hx N cx PS
  exact And.intro (xd E ec x N cx _ P M v q' ml pv T a c W (PI.sub hs) r (G.more Q) hk.out.1.1 hk.out.1.2 (fun h=>h.elim (fun h=>absurd h y.out.1.1) fun h=>absurd h y.out.1.2) (ai.sub hs _ PH) hW)
   (xd E ec x N cx _ P M t q' ml pt V a' c' W (PI.sub hs) s (J.more Q) hk.out.2.1 hk.out.2.2 (fun h=>h.elim (fun h=>absurd h y.out.2.1) fun h=>absurd h y.out.2.2) (ai.sub hs _ C) hW)
 have PJ:=hM.kw;have PK:=zh hM.iV;have PL:=zh hM.nh;have PM:=zh (show Up q w S from⟨PJ,PG⟩);obtain⟨l0,l1,l2,l3,l4,l5,l6⟩:TS.L7 S (w.heap.size+2) t a' c':=by
  repeat' apply And.intro
  all_goals exact TS.cell_kept hM.up (by simp[go_sem];done)
 obtain⟨k0,k1,k2,k3,k4,k5,k6⟩:TS.L7 S (w.heap.size+1) v a c:=by
  repeat' apply And.intro
  all_goals exact TS.cell_kept hM.up (by simp[go_sem];done)
 have d0:Xc S w 0 (Xd D dc):=TS.cell_kept hM.up (by simp[go_sem];done);have PX:S.frozen? (Xa w 0)=false:=TS.frozen_kept hM.up zp (by simp[go_sem]);have hz:=zb l0;simp only at hz;have PY:on≤1048576:=by rw[O];exact hM.ln
 have PT:=zh (hM.gr.aF (b:=w.heap.size) zp fun o=>PR.out.aF zl o);have F:=zh O;clear hR A B hlen j hT Y r s G J hu g ae PG Q PH C hM PJ hS O;go_wp2_with fail
 have u:Hid (Up q w (S.setCell (Xa w 0) (Xd E ec))):=⟨PM.out.kw.setCell PT.out _,PM.out.up.setCell zs _⟩
 refine(fZ on q E L F.out oa oc 55 _ (fun x=>bQ (X es x) v&& !bQ (X es x) t) _ u.out.kw PK.out (by have:=F.out;omega) eg.out ?_).mono ?_
 ·intro i hi W a1 c1 z PN
  have hx:=zm hi;have hW:=u.out.kw.grown z;refine FU E ec _ v t a1 c1 a c a' c' _ _ q W hW (fun Z R=>(hIn.out _ hx a1 c1 q (.refl _) PN Z R).1) (fun Z R=>(hIn.out _ hx a1 c1 q (.refl _) PN Z R).2) _ _ _ (TS.cell_kept z (by simp[go_sem,d0];done)) ?_ ?_
  ·repeat' apply And.intro
   all_goals exact TS.cell_kept z (by simp[go_sem,k0,k1,k2,k3,k4,k5,k6];done)
  ·repeat' apply And.intro
   all_goals exact TS.cell_kept z (by simp[go_sem,l0,l1,l2,l3,l4,l5,l6];done)
 rintro e9 w9 ⟨b,rfl,hb,PO⟩;have PU:=zh (u.out.step PO).up;clear PO;go_wp2_with fail
 go_ret;exact⟨_,rfl,⟨L,es,PL.out,by rw[hb.out]⟩,PU.out⟩
end Go.Proofs.YtkochlhejabdcaaGreatDoor
namespace TS
open Go Go.RowKit Go.Proofs.YtkochlhejabdcaaGreatDoor Go.Proofs.Tryz
def pm(W:World):Pm:=fun b o=>W.cell? (Xa b o)
theorem Hw(W:World):KW (pm W) W:=fun _ _ _ h=>h
def fY(u:U):Prop:=u.un= []∧∀e,∀_:e∈u.es,fY e
termination_by u.sz
decreasing_by exact U.ar ‹_›
def gG(u:U):List (List UInt8):=u.es.attach.flatMap fun e=>e.1.nm.toList::gG e.1
termination_by u.sz
decreasing_by exact U.ar e.2
theorem rX(u:U):gG u=u.es.flatMap fun e=>e.nm.toList::gG e:=by
 rw[gG];conv=>rhs;rw[←List.attach_map_subtype_val u.es,List.flatMap_map]
theorem rY:∀u:U,(gG u).length+1=cn u:=by
 intro u;induction u using U.bc with
 |_ u ih=>
  rw[rX,dW,List.length_flatMap];have:(u.es.map fun e=>(e.nm.toList::gG e).length)=u.es.map cn:=List.map_congr_left fun e he=>by
   have:=ih e (U.ar he);simp only[List.length_cons];exact this
  rw[this];unfold aZ;omega
theorem rZ{NS:List (List UInt8)}:∀u:U,fY u→(∀x∈gG u,x∈NS)→Names NS u:=by
 intro u;induction u using U.bc with
 |_ u ih=>
  intro a h;rw[fY]at a;rw[Names];refine⟨fun e he=>⟨h _ ?_,ih e (U.ar he) (a.2 e he) fun x b=>h x ?_⟩,fun e he=>by rw[a.1]at he;cases he⟩
  ·rw[rX];exact List.mem_flatMap.2 ⟨e,he,by simp⟩
  ·rw[rX];exact List.mem_flatMap.2 ⟨e,he,by simp[b]⟩
theorem xQ{e:U}:∀{l:List U},e∈l→cn e≤aZ l
 |a::r,h=>by
  have b:aZ (a::r)=cn a+aZ r:=by simp[aZ]
  rcases List.mem_cons.1 h with rfl|h
  ·omega
  ·have:=xQ h;omega
theorem r_:∀u:U,fY u→u.dep≤cn u:=by
 intro u;induction u using U.bc with
 |_ u ih=>
  intro a;rw[fY]at a;rw[dW];refine Nat.le_trans (mV (n:=aZ u.es) (fun e he=> ?_) (fun e he=>by rw[a.1]at he;cases he)) zo;have h1:=ih e (U.ar he) (a.2 e he);have b:cn e≤aZ u.es:=by
   exact xQ he
  omega
theorem xR{p:Pm}{D:Dl}:∀{l:List U}{b o:Nat},(∀i(h:i<l.length),∃a c,c_ p b (o+i*7) l[i] a c∧ai p D l[i] a c)→aq p D l (Xa b o)
 | [],_,_,_=>aq.nil
 |e::r,b,o,h=>by
  simp only[aq];obtain⟨a,c,h7,hu⟩:=h 0 zs;refine⟨b,o,rfl,⟨a,c,by simpa using h7,by simpa using hu⟩,xR fun i hi=> ?_⟩;obtain⟨a',c',d,f⟩:=h (i+1) (by simpa using hi);rw[show o+(i+1)*7=o+7+i*7 by omega]at d;exact⟨a',c',by simpa using d,by simpa using f⟩
end TS
namespace Go.Proofs.YtkochlhejabdcaaGreatDoor
open Go.RowKit TS Proofs.Tryz
theorem Hx:Tryz.prog.cellsOf 4=1:=zk
theorem xS:Tryz.prog.cellsOf 9=1:=zk
theorem pj:Tryz.prog.cellsOf 25=7:=zk
theorem Hy{H:Type}(d:DataW H):1≤Rows.uptoBulk d:=by
 cases d with
 |lit l=>cases l<;>simp[Rows.uptoBulk]
 |nil=>simp[Rows.uptoBulk]
 |ptr d=>simp[Rows.uptoBulk]
 |slice elems spare=>simp[Rows.uptoBulk]
 |agg parts=>simp[Rows.uptoBulk]
 |iface t d=>simp[Rows.uptoBulk]
 |map entries=>simp[Rows.uptoBulk]
 |held h=>simp[Rows.uptoBulk]
theorem pn{H:Type}(l:List (DataW H)):l.length≤Rows.uptoBulkAll l:=by
 induction l with
 |nil=>simp[Rows.uptoBulkAll]
 |cons x r ih=>have:=Hy x;simp only[Rows.uptoBulkAll,List.length_cons];omega
theorem xU{H:Type}{d:DataW H}{l:List (DataW H)}(h:d∈l):Rows.uptoBulk d≤Rows.uptoBulkAll l:=by
 induction l with
 |nil=>cases h
 |cons x r ih=>
  simp only[Rows.uptoBulkAll];cases List.mem_cons.1 h with
  |inl e=>subst e;omega
  |inr e=>have:=ih e;omega
theorem xV{H:Type}:∀{l:List U}{r:List (DataW H)},l.length=r.length→(∀i(h:i<l.length)(g:i<r.length),4*cn l[i]≤Rows.uptoBulk r[i])→4*aZ l≤Rows.uptoBulkAll r
 | [],[],_,_=>by simp[aZ,Rows.uptoBulkAll]
 |e::l,[],h,_=>by simp at h
 | [],e::r,h,_=>by simp at h
 |e::l,d::r,c,h=>by
  have f:=h 0 zs zs;have h1:=xV (l:=l) (r:=r) (by simpa using c) fun i hi a=>by
   have b:=h (i+1) (by simpa using hi) (by simpa using a);simp only[List.getElem_cons_succ]at b;exact b
  simp only[aZ,List.map_cons,List.sum_cons,Rows.uptoBulkAll,List.getElem_cons_zero]at f h1⊢;omega
theorem xW{α:Type}(f:α→Nat)(l:List α):(l.map fun r=>4*f r).sum=4*(l.map f).sum:=by
 induction l with
 |nil=>rfl
 |cons x r ih=>simp only[List.map_cons,List.sum_cons]at ih⊢;omega
theorem HV{α:Type}(l:List α):(l.map fun _=>6).sum=6*l.length:=by
 induction l with
 |nil=>rfl
 |cons x r ih=>simp only[List.map_cons,List.sum_cons,List.length_cons]at ih⊢;omega
def Hz(W:World)(cs:List Value)(N:Nat):Prop:=
 ∃(u:U)(a:Option Addr)(c:Nat),cs= [.int .i64 u.k,.int .i64 u.n,.int .i64 u.m,.bool u.v,.string u.nm,.string u.tg,.slice a u.es.length c]∧fY u∧4*cn u+2≤N∧(∀D:Dl,(0<D.len→∃b d,D.a= .some (Xa b d))→ai (pm W) D u a c)
theorem sc{k:Int}(h:(Lit.int .i64 k).wf=true):k.natAbs≤9223372036854775808:=by
 simp only[Lit.wf,Bool.and_eq_true,decide_eq_true_eq]at h;have h1:IntKind.min .i64= -9223372036854775808:=zd;have a:IntKind.max .i64=9223372036854775807:=zd;omega
theorem sd{H:Type}{enc:TypeId×Value→H}(W:World):∀(n:Nat)(cs:List Value)(x:DataW H×List MemPlace),DataW.trod enc Tryz.prog W 0 (fun _=>true) true n 25 cs=some x→Rows.uptoBulk x.1≤1048576→Hz W cs (Rows.uptoBulk x.1):=by
 intro n;induction n using Nat.strongRecOn with
 |_ n ih=>
  intro cs x h hb;obtain⟨xs,n',rfl,rfl,hl,O,w⟩:=DataW.trod_struct underlying25 h;rw[pj]at hl;obtain⟨c0,c1,c2,c3,c4,c5,P,rfl⟩:∃c0 c1 c2 c3 c4 c5 P,cs= [c0,c1,c2,c3,c4,c5,P]:=by
   match cs,hl with
   | [c0,c1,c2,c3,c4,c5,P],_=>exact⟨_,_,_,_,_,_,_,rfl⟩
  obtain⟨Q,R,S,T,V,X,Y,rfl⟩:∃Q R S T V X Y,xs= [Q,R,S,T,V,X,Y]:=by
   match xs,O with
   | [Q,R,S,T,V,X,Y],_=>exact⟨_,_,_,_,_,_,_,rfl⟩
  have B:=w 0 _ rfl;have h1:=w 1 _ rfl;have y:=w 2 _ rfl;have h3:=w 3 _ rfl;have h4:=w 4 _ rfl;have h5:=w 5 _ rfl;have h6:=w 6 _ rfl;have Z:=B;clear w;simp only[xS,List.getElem?_cons_zero,List.getElem?_cons_succ]at B h1 y h3 h4 h5 h6;clear Z;obtain⟨k,Z,rfl,w0⟩:=DataW.trod_int underlying3 B;obtain⟨nn,e1,rfl,w1⟩:=DataW.trod_int underlying3 h1;obtain⟨m,e2,rfl,w2⟩:=DataW.trod_int underlying3 y;obtain⟨v,e3,rfl⟩:=DataW.trod_bool underlying4 h3;obtain⟨nm,e4,rfl,_⟩:=DataW.trod_string underlying9 h4;obtain⟨tg,e5,rfl,_⟩:=DataW.trod_string underlying9 h5;cases Z;cases e1;cases e2;cases e3;cases e4;cases e5;simp only[List.map_cons,List.map_nil,Rows.uptoBulk,Rows.uptoBulkAll]at hb⊢;have C:nm.size≤1048576:=by have:nm.data.toList.length=nm.size:=Array.length_toList;omega
  have E:tg.size≤1048576:=by have:tg.data.toList.length=tg.size:=Array.length_toList;omega
  have a0:=sc w0;have a1:=sc w1;have a2:=sc w2;rcases DataW.trod_slice underlying23 h6 with⟨e6,rfl⟩|⟨a,len,cap,elems,rest,n2,rfl,e6,rfl,_,PG,PN,PH,z,PI,_⟩
  ·cases e6
   refine⟨.mk k nn m v nm tg [] [],none,0,rfl,?_,?_,fun D M=> ?_⟩
   ·rw[fY];exact⟨rfl,fun e he=>by cases he⟩
   ·rw[dW];show 4*(1+aZ [])+2≤_;simp only[aZ,List.map_nil,List.sum_nil];omega
   ·simp only[ai,List.length_nil]
    exact⟨⟨Nat.le_refl _,by omega,C,E,a0,a1,a2⟩,aq.nil,fun _ _ h=>by
     obtain⟨F,d,e⟩:=M zo;exact⟨F,d,e,by simp only[ey]⟩⟩
  ·cases e6
   obtain⟨PO,_⟩:=PI rfl;rw[pj]at z;simp only[Rows.uptoBulk]at hb⊢;have PJ:=pn (elems.map (·.1));have PK:=pn (rest.map (·.1));simp only[List.length_map]at PJ PK;have G:∀i:Fin len,∃t:U×Option Addr×Nat,(∃c,W.cells? 0 (a.add (i.1*7)) 7=some c∧c= [.int .i64 t.1.k,.int .i64 t.1.n,.int .i64 t.1.m,.bool t.1.v,.string t.1.nm,.string t.1.tg,.slice t.2.1 t.1.es.length t.2.2])∧fY t.1∧4*cn t.1+2≤Rows.uptoBulk (elems[i.1]'(by have:=i.2;omega)).1∧(∀D:Dl,(0<D.len→∃F d,D.a= .some (Xa F d))→ai (pm W) D t.1 t.2.1 t.2.2):=fun i=>by
    have hi:=i.2;have N:=z i.1 hi;rw[List.getElem?_eq_getElem (show i.1<elems.length by omega)]at N;obtain⟨c,hc,ht⟩:=Option.bind_eq_some_iff.1 N;have PQ:=xU (d:=(elems[i.1]'zo).1) (l:=elems.map (·.1)) (List.mem_map_of_mem (zm _));obtain⟨u,a',c',q1,q2,q3,q4⟩:=ih n2 zo c _ ht zo;exact⟨(u,a',c'),⟨c,hc,q1⟩,q2,q3,q4⟩
   obtain⟨f,p⟩:=Classical.axiomOfChoice G;have PR:(List.ofFn fun i=>(f i).1).length=len:=List.length_ofFn;refine⟨.mk k nn m v nm tg (List.ofFn fun i=>(f i).1) [],some a,cap,by simp[U.k,U.n,U.m,U.v,U.nm,U.tg,U.es],?_,?_,fun D M=> ?_⟩
   ·rw[fY]
    refine⟨rfl,fun e he=> ?_⟩;obtain⟨i,rfl⟩:=(List.mem_ofFn).1 he;exact(p i).2.1
   ·rw[dW]
    have:=xV (l:=List.ofFn fun i=>(f i).1) (r:=elems.map (·.1)) (by simp[PH]) fun i hi g=>by
     simp only[List.length_ofFn]at hi;have y:=(p ⟨i,hi⟩).2.2.1;simp only[List.getElem_ofFn,List.getElem_map];exact Nat.le_trans (Nat.le_add_right _ 2) y
    show 4*(1+aZ (List.ofFn fun i=>(f i).1))+2≤_;omega
   ·simp only[ai,List.length_ofFn]
    refine⟨⟨PG,by omega,C,E,a0,a1,a2⟩,?_,fun _ _ h=> ?_⟩
    ·rcases Nat.eq_zero_or_pos len with B|B
     ·subst B;exact aq.nil
     ·obtain⟨⟨c,hc,I⟩,_⟩:=p ⟨0,B⟩
      have J:=(World.cells?_some hc).2.2 0 zo;have A:a.spot=none:=by
       rw[I]at J;have h1:=World.cell?_spot J;simpa [Addr.add]using h1
      obtain⟨b,o,s⟩:=a;simp only at A;subst A;refine xR fun i hi=> ?_;have g:i<len:=by simpa using hi
      obtain⟨⟨PS,PL,K⟩,_,_,hU⟩:=p ⟨i,g⟩;have L:=(World.cells?_some PL).2.2;have PM:∀j,(((Xa b o):Addr).add (i*7)).add j=(Xa b (o+i*7+j)):=fun j=>by
       unfold Addr.add;split
       ·rename_i h1;subst h1;split
        ·rename_i y;simp[y]
        ·simp
       ·split
        ·rename_i y;simp[y]
        ·simp
      have N:(List.ofFn fun i=>(f i).1)[i]=(f ⟨i,g⟩).1:=zs;rw[N];refine⟨(f ⟨i,g⟩).2.1,(f ⟨i,g⟩).2.2,?_,hU D M⟩;subst K;have q:∀j(hj:j<7),W.cell? (Xa b (o+i*7+j))=_:=fun j hj=>(congrArg W.cell? (PM j)).symm.trans (L j hj);exact⟨q 0 zo,q 1 zo,q 2 zo,q 3 zo,q 4 zo,q 5 zo,q 6 zo⟩
    ·obtain⟨F,d,e⟩:=M zo
     exact⟨F,d,e,by simp only[ey]⟩
theorem ns(b o i j:Nat):(((Xa b o):Addr).add i).add j=(Xa b (o+i+j)):=by
 unfold Addr.add;split
 ·rename_i h1;subst h1;split
  ·rename_i a;simp[a]
  ·simp
 ·split
  ·rename_i a;simp[a]
  ·simp
theorem xX{H:Type}{enc:TypeId×Value→H}{α:Type}(W:World)(t e:TypeId)(k:Nat)(L:Tryz.prog.underlying t=some (.slice e))(M:Tryz.prog.cellsOf e=k)(hk:0<k)
 (R:List Value→α→Nat→Prop)(O:∀(n:Nat)(cs:List Value)(x:DataW H×List MemPlace),DataW.trod enc Tryz.prog W 0 (fun _=>true) true n e cs=some x→Rows.uptoBulk x.1≤1048576→∃r,R cs r (Rows.uptoBulk x.1))
 (n:Nat)(cs:List Value)(x:DataW H×List MemPlace)(h:DataW.trod enc Tryz.prog W 0 (fun _=>true) true n t cs=some x)(P:Rows.uptoBulk x.1≤1048576):
 ∃(l:List α)(a:Option Addr)(c:Nat),cs= [.slice a l.length c]∧l.length≤c∧c≤1048576∧
  (∀f:α→Nat,(∀cs r N,R cs r N→f r≤N)→(l.map f).sum+1≤Rows.uptoBulk x.1)∧
  ∀i(hi:i<l.length),∃b o m N,a= .some (Xa b o)∧R m l[i] N∧∀j,j<k→W.cell? (Xa b (o+i*k+j))=m[j]?:=by
 rcases DataW.trod_slice L h with⟨rfl,rfl⟩|⟨a,len,cap,elems,rest,Q,rfl,rfl,rfl,_,A,S,B,p,C,_⟩
 ·exact⟨[],none,0,rfl,Nat.le_refl _,by omega,fun _ _=>by simp[Rows.uptoBulk],fun i hi=>by simp at hi⟩
 ·obtain⟨T,_⟩:=C rfl
  rw[M]at p;simp only[Rows.uptoBulk]at P⊢;have D:=pn (elems.map (·.1));have E:=pn (rest.map (·.1));simp only[List.length_map]at D E;have w:∀i:Fin len,∃r:α,∃m,W.cells? 0 (a.add (i.1*k)) k=some m∧R m r (Rows.uptoBulk (elems[i.1]'(by have:=i.2;omega)).1):=fun i=>by
   have hi:=i.2;have z:=p i.1 hi;rw[List.getElem?_eq_getElem (show i.1<elems.length by omega)]at z;obtain⟨m,h1,q⟩:=Option.bind_eq_some_iff.1 z;have U:=xU (d:=(elems[i.1]'zo).1) (l:=elems.map (·.1)) (List.mem_map_of_mem (zm _));obtain⟨r,hr⟩:=O Q m _ q zo;exact⟨r,m,h1,hr⟩
  obtain⟨f,u⟩:=Classical.axiomOfChoice w;refine⟨List.ofFn f,some a,cap,by rw[List.length_ofFn],by rw[List.length_ofFn];exact A,by omega,fun g z=> ?_,fun i hi=> ?_⟩
  ·have key:∀(l:List α)(r:List (DataW H)),l.length=r.length→(∀i(h:i<l.length)(h':i<r.length),g l[i]≤Rows.uptoBulk r[i])→(l.map g).sum≤Rows.uptoBulkAll r:=by
    intro l;induction l with
    |nil=>intro r _ _;simp
    |cons e l ih=>
     intro r F h;cases r with
     |nil=>simp at F
     |cons d r=>
      have V:=h 0 zs zs;have h1:=ih r (by simpa using F) fun i hi y=>by
       have q:=h (i+1) (by simpa using hi) (by simpa using y);simp only[List.getElem_cons_succ]at q;exact q
      simp only[List.map_cons,List.sum_cons,Rows.uptoBulkAll,List.getElem_cons_zero]at V h1⊢;omega
   have:=key (List.ofFn f) (elems.map (·.1)) (by simp[B]) fun i hi y=>by
    simp only[List.length_ofFn]at hi;obtain⟨m,_,q⟩:=u ⟨i,hi⟩;simp only[List.getElem_ofFn,List.getElem_map];exact z _ _ _ q
   omega
  ·simp only[List.length_ofFn]at hi
   obtain⟨m,h1,q⟩:=u ⟨i,hi⟩;have G:=(World.cells?_some h1).2.2;obtain⟨b,o,s⟩:=a;obtain rfl:s=none:=by
    obtain⟨I,K,_⟩:=u ⟨0,by omega⟩;have F:=(World.cells?_some K).2.1;have X:=(World.cells?_some K).2.2 0 hk;have J:∃v,I[0]?=some v:=by
     rw[List.getElem?_eq_getElem zo];exact⟨_,rfl⟩
    obtain⟨v,J⟩:=J;have Y:=World.cell?_spot (X.trans J);simpa [Addr.add]using Y
   exact⟨b,o,m,Rows.uptoBulk (elems[i]'zo).1,rfl,by simpa using q,fun j Z=>(congrArg W.cell? (ns b o (i*k) j)).symm.trans (G j Z)⟩
def pq(D:Dl):Prop:=0<D.len→∃b d,D.a= .some (Xa b d)
def MR(W:World)(cs:List Value)(r:br×Option Addr×Nat)(N:Nat):Prop:=
 cs= [.string r.1.nm,.bool r.1.ptr,.int .i64 r.1.sig.k,.int .i64 r.1.sig.n,.int .i64 r.1.sig.m,.bool r.1.sig.v,.string r.1.sig.nm,.string r.1.sig.tg,.slice r.2.1 r.1.sig.es.length r.2.2]∧r.1.nm.size≤1048576∧fY r.1.sig∧4*cn r.1.sig+2≤N∧∀D:Dl,pq D→ai (pm W) D r.1.sig r.2.1 r.2.2
theorem xY:Tryz.prog.cellsOf 75=9:=zk
theorem xZ:Tryz.prog.cellsOf 36=8:=zk
theorem HA:Tryz.prog.cellsOf 34=1:=zk
theorem HB{H:Type}{enc:TypeId×Value→H}(W:World)(n:Nat)(cs:List Value)(x:DataW H×List MemPlace)(h:DataW.trod enc Tryz.prog W 0 (fun _=>true) true n 75 cs=some x)(q:Rows.uptoBulk x.1≤1048576):∃r,MR W cs r (Rows.uptoBulk x.1):=by
 obtain⟨xs,s,rfl,rfl,m,e,b⟩:=DataW.trod_struct underlying75 h;rw[xY]at m;obtain⟨c0,c1,c2,c3,c4,c5,f,g,i,rfl⟩:∃c0 c1 c2 c3 c4 c5 f g i,cs= [c0,c1,c2,c3,c4,c5,f,g,i]:=by
  match cs,m with
  | [c0,c1,c2,c3,c4,c5,f,g,i],_=>exact⟨_,_,_,_,_,_,_,_,_,rfl⟩
 obtain⟨j,k,d,rfl⟩:∃j k d,xs= [j,k,d]:=by
  match xs,e with
  | [j,k,d],_=>exact⟨_,_,_,rfl⟩
 have o:=b 0 _ rfl;have h1:=b 1 _ rfl;have p:=b 2 _ rfl;clear b;simp only[xS,Hx,pj,List.getElem?_cons_zero,List.getElem?_cons_succ]at o h1 p;obtain⟨nm,t,rfl,_⟩:=DataW.trod_string underlying9 o;obtain⟨v,w,rfl⟩:=DataW.trod_bool underlying4 h1;simp only[List.map_cons,List.map_nil,Rows.uptoBulk,Rows.uptoBulkAll]at q⊢;obtain⟨u,a,c,y,z,A,hu⟩:=sd W s _ d p zo;have l:nm.size≤1048576:=by have:nm.data.toList.length=nm.size:=Array.length_toList;omega
 cases t;cases w;cases y;exact⟨(⟨nm,v,u⟩,a,c),rfl,l,z,by show 4*cn u+2≤_;omega,hu⟩
def DR(W:World)(cs:List Value)(r:aC×(Option Addr×Nat)×(Option Addr×Nat))(N:Nat):Prop:=
 cs= [.int .i64 r.1.un.k,.int .i64 r.1.un.n,.int .i64 r.1.un.m,.bool r.1.un.v,.string r.1.un.nm,.string r.1.un.tg,.slice r.2.1.1 r.1.un.es.length r.2.1.2,.slice r.2.2.1 r.1.ms.length r.2.2.2]∧fY r.1.un∧(∀m∈r.1.ms,fY m.sig)∧4*(cn r.1.un+cG r.1.ms)+2≤N∧
  r.1.ms.length≤r.2.2.2∧r.2.2.2≤1048576∧∀D:Dl,pq D→ai (pm W) D r.1.un r.2.1.1 r.2.1.2∧cM (pm W) D r.1.ms r.2.2.1
theorem HC{H:Type}{enc:TypeId×Value→H}(W:World)(n:Nat)(cs:List Value)(x:DataW H×List MemPlace)(h:DataW.trod enc Tryz.prog W 0 (fun _=>true) true n 36 cs=some x)(E:Rows.uptoBulk x.1≤1048576):∃r,DR W cs r (Rows.uptoBulk x.1):=by
 obtain⟨xs,z,rfl,rfl,A,k,p⟩:=DataW.trod_struct underlying36 h;rw[xZ]at A;obtain⟨c0,c1,c2,c3,c4,c5,q,s,rfl⟩:∃c0 c1 c2 c3 c4 c5 q s,cs= [c0,c1,c2,c3,c4,c5,q,s]:=by
  match cs,A with
  | [c0,c1,c2,c3,c4,c5,q,s],_=>exact⟨_,_,_,_,_,_,_,_,rfl⟩
 obtain⟨g,j,rfl⟩:∃g j,xs= [g,j]:=by
  match xs,k with
  | [g,j],_=>exact⟨_,_,rfl⟩
 have B:=p 0 _ rfl;have h1:=p 1 _ rfl;clear p;simp only[pj,HA,List.getElem?_cons_zero,List.getElem?_cons_succ]at B h1;simp only[List.map_cons,List.map_nil,Rows.uptoBulk,Rows.uptoBulkAll]at E⊢;obtain⟨u,a,c,F,G,hc,hu⟩:=sd W z _ g B zo;obtain⟨l,I,J,K,t,v,hw,f⟩:=xX W 34 75 9 underlying34 xY zd (MR W) (HB W) z _ j h1 zo;have L:=hw (fun r=>4*cn r.1.sig) fun cs r N hr=>by have:=hr.2.2.2.1;omega
 rw[xW (fun r:br×Option Addr×Nat=>cn r.1.sig)]at L;have M:cG (l.map (·.1))=(l.map fun r=>cn r.1.sig).sum:=by unfold cG;rw[List.map_map];rfl
 cases F;cases K;refine⟨(⟨u,l.map (·.1)⟩,(a,c),(I,J)),by simp,G,fun m hm=> ?_,?_,by simpa using t,v,fun D C=>⟨hu D C,⟨fun i hi=> ?_⟩⟩⟩
 ·obtain⟨r,hr,rfl⟩:=List.mem_map.1 hm
  obtain⟨i,hi,rfl⟩:=List.mem_iff_getElem.1 hr;obtain⟨_,_,_,_,_,O,_⟩:=f i hi;exact O.2.2.1
 ·show 4*(cn u+cG (l.map (·.1)))+2≤_
  omega
 ·have w:i<l.length:=by simpa using hi
  obtain⟨b,o,P,N,Q,⟨e,y,_,_,R⟩,d⟩:=f i w;subst e;simp only[List.getElem_map];have S:=d 0 zd;have T:=d 1 zd;have U:=d 2 zd;have V:=d 3 zd;have X:=d 4 zd;have Y:=d 5 zd;have Z:=d 6 zd;have q7:=d 7 zd;have q8:=d 8 zd;exact⟨b,o,Q,S,T,y,_,_,⟨U,V,X,Y,Z,q7,q8⟩,R D C⟩
theorem HD{H:Type}{enc:TypeId×Value→H}(W:World)(Z n2:Nat)(y E:List Value)(J K:DataW H×List MemPlace)(h1:DataW.trod enc Tryz.prog W 0 (fun _=>true) true Z 22 y=some J)(F:DataW.trod enc Tryz.prog W 0 (fun _=>true) true n2 25 E=some K)
 (z:List (List UInt8))(L:z.length≤700000)(hb:Rows.uptoBulk J.1+Rows.uptoBulk K.1≤1048576)(M:∀a l c,y= [.slice (some a) l c]→a.spot=none):
 ∃(D:Dl)(ds:List aC)(dc:Nat)(u:U)(a:Option Addr)(c:Nat)(NS:List (List UInt8)),y=([Xd D dc]:List Value)∧E= [.int .i64 u.k,.int .i64 u.n,.int .i64 u.m,.bool u.v,.string u.nm,.string u.tg,.slice a u.es.length c]∧
  Raw NS ds∧ds.length=D.len∧ca (pm W) D ds∧aZ (ds.map aC.un)+dn ds≤1099511627776∧(Names NS u∧u.nm.toList∈NS)∧u.dep≤1048574∧cn u≤1048576∧ai (pm W) D u a c∧pq D∧(∀x∈z,x∈NS)∧6*D.len≤1048576:=by
 obtain⟨l,O,dc,G,A,PG,hw,j⟩:=xX W 22 36 8 underlying22 xZ zd (DR W) (HC W) Z _ J h1 zo;obtain⟨u,a,c,e2,L,hc,hu⟩:=sd W n2 _ K F zo;have C:pq ⟨O,l.length⟩:=fun h=>by
  obtain⟨b,o,_,_,e,_⟩:=j 0 h;exact⟨b,o,e⟩
 have I:=hw (fun r=>4*(cn r.1.un+cG r.1.ms)) fun cs r N hr=>by have:=hr.2.2.2.1;omega
 rw[xW (fun r:aC×(Option Addr×Nat)×(Option Addr×Nat)=>cn r.1.un+cG r.1.ms)]at I;have t:=hw (fun _=>6) fun cs r N hr=>by have:=hr.2.2.2.1;have:=dW r.1.un;omega
 rw[HV]at t;have B:∀d∈l.map (·.1),fY d.un∧(∀m∈d.ms,fY m.sig):=fun d g=>by
  obtain⟨r,hr,rfl⟩:=List.mem_map.1 g;obtain⟨i,hi,rfl⟩:=List.mem_iff_getElem.1 hr;obtain⟨_,_,_,_,_,F,_⟩:=j i hi;exact⟨F.2.1,F.2.2.1⟩
 have p:aZ ((l.map (·.1)).map aC.un)+dn (l.map (·.1))=(l.map fun r=>cn r.1.un+cG r.1.ms).sum:=by
  unfold aZ dn;clear I t B C j hw G A;induction l with
  |nil=>rfl
  |cons x r ih=>simp only[List.map_cons,List.sum_cons]at ih⊢;omega
 have q:∀d∈l.map (·.1),cn d.un+cG d.ms≤aZ ((l.map (·.1)).map aC.un)+dn (l.map (·.1)):=fun d g=>by
  rw[p];obtain⟨r,hr,rfl⟩:=List.mem_map.1 g;clear I t B C j hw G A p g;induction l with
  |nil=>cases hr
  |cons x s ih=>
   simp only[List.map_cons,List.sum_cons];rcases List.mem_cons.1 hr with rfl|h
   ·omega
   ·have:=ih h;omega
 have P:∀(ms:List br),∀m∈ms,cn m.sig≤cG ms:=fun ms m hm=>by
  induction ms with
  |nil=>cases hm
  |cons x s ih=>
   have hc:cG (x::s)=cn x.sig+cG s:=by simp[cG]
   rcases List.mem_cons.1 hm with rfl|h
   ·omega
   ·have:=ih h;omega
 let NS:List (List UInt8):=errorName.toList::ByteArray.empty.toList::(z++((u.nm.toList::gG u)++(l.map (·.1)).flatMap fun d=>gG d.un++d.ms.flatMap fun m=>gG m.sig))
 have Q:NS.length≤1048576:=by
  have h1:=rY u;have F:((l.map (·.1)).flatMap fun d=>gG d.un++d.ms.flatMap fun m=>gG m.sig).length≤aZ ((l.map (·.1)).map aC.un)+dn (l.map (·.1)):=by
   generalize l.map (·.1)=ds;clear I t B C j hw G A p q;unfold aZ dn;induction ds with
   |nil=>simp
   |cons d r ih=>
    have h3:=rY d.un;have h4:(d.ms.flatMap fun m=>gG m.sig).length≤cG d.ms:=by
     generalize d.ms=ms;induction ms with
     |nil=>simp
     |cons m s ih=>
      have hc:cG (m::s)=cn m.sig+cG s:=by simp[cG]
      have h5:=rY m.sig;simp only[List.flatMap_cons,List.length_append];omega
    simp only[List.flatMap_cons,List.length_append,List.map_cons,List.sum_cons];omega
  simp only[NS,List.length_cons,List.length_append];omega
 have hlen:(l.map (·.1)).length=l.length:=List.length_map _;cases G;cases e2;refine⟨⟨O,l.length⟩,l.map (·.1),dc,u,a,c,NS,rfl,rfl,⟨by simp[NS],by simp[NS],Q,fun d g=>⟨?_,?_⟩,fun d g m hm=>⟨?_,?_⟩,by rw[hlen];omega⟩,hlen,⟨fun x w=> ?_,hlen,by show l.length≤_;omega,fun i hi=> ?_⟩,by omega,⟨?_,by simp[NS]⟩,?_,by omega,hu _ C,C,fun x w=> ?_,by show 6*l.length≤_;omega⟩
 ·refine rZ d.un (B d g).1 fun x w=> ?_
  simp only[NS,List.mem_cons,List.mem_append,List.mem_flatMap];exact .inr (.inr (.inr (.inr ⟨d,g,.inl w⟩)))
 ·have:=r_ d.un (B d g).1
  have:=q d g;omega
 ·refine rZ m.sig ((B d g).2 m hm) fun x w=> ?_
  simp only[NS,List.mem_cons,List.mem_append,List.mem_flatMap];exact .inr (.inr (.inr (.inr ⟨d,g,.inr ⟨m,hm,w⟩⟩)))
 ·have:=r_ m.sig ((B d g).2 m hm)
  have:=q d g;have:=P d.ms m hm;omega
 ·have R:O=some x:=w
  subst R;exact M _ _ _ rfl
 ·have S:i<l.length:=by simpa using hi
  obtain⟨b,o,PH,N,ea,⟨e,_,_,_,T,V,hU⟩,f⟩:=j i S;obtain⟨X,Y⟩:=hU _ C;subst e;simp only[List.getElem_map];have q0:=f 0 zd;have q1:=f 1 zd;have q2:=f 2 zd;have q3:=f 3 zd;have q4:=f 4 zd;have q5:=f 5 zd;have q6:=f 6 zd;have q7:=f 7 zd;exact⟨b,o,ea,_,_,_,_,⟨q0,q1,q2,q3,q4,q5,q6⟩,q7,X,T,V,Y⟩
 ·refine rZ u L fun x w=> ?_
  simp only[NS,List.mem_cons,List.mem_append];exact .inr (.inr (.inr (.inl (.inr w))))
 ·have:=r_ u L
  omega
 ·simp only[NS,List.mem_cons,List.mem_append]
  exact .inr (.inr (.inl w))
theorem HE{H:Type}{enc:TypeId×Value→H}(W:World)(i j:Nat)(b d:List Value)(e f:DataW H×List MemPlace)(h1:DataW.trod enc Tryz.prog W 0 (fun _=>true) true i 22 b=some e)(o:DataW.trod enc Tryz.prog W 0 (fun _=>true) true j 25 d=some f)
 (p:Rows.uptoBulk e.1+Rows.uptoBulk f.1≤1048576)(g:∀a l c,b= [.slice (some a) l c]→a.spot=none):
 ∃(D:Dl)(ds:List aC)(dc:Nat)(u:U)(a:Option Addr)(c:Nat)(NS:List (List UInt8)),b=([Xd D dc]:List Value)∧d= [.int .i64 u.k,.int .i64 u.n,.int .i64 u.m,.bool u.v,.string u.nm,.string u.tg,.slice a u.es.length c]∧
  Raw NS ds∧ds.length=D.len∧ca (pm W) D ds∧aZ (ds.map aC.un)+dn ds≤1099511627776∧(Names NS u∧u.nm.toList∈NS)∧u.dep≤1048574∧cn u≤1048576∧ai (pm W) D u a c∧(⟨#[63]⟩:ByteArray).toList∈NS∧D.len≤1000000:=by
 obtain⟨D,ds,dc,u,a,c,NS,q,r,s,t,w,x,y,z,A,h,_,B,C⟩:=HD W i j b d e f h1 o [(⟨#[63]⟩:ByteArray).toList] zs p g;exact⟨D,ds,dc,u,a,c,NS,q,r,s,t,w,x,y,z,A,h,B _ zs,by omega⟩
end Go.Proofs.YtkochlhejabdcaaGreatDoor
