import Derived.Test.YtkochlhejabdcaaGreatDoorYbg
import Derived.Test.YtkochlhejabdcaaGreatDoorYbh
set_option maxRecDepth 100000
set_option maxHeartbeats 8000000
set_option linter.all false
namespace Go.Proofs.YtkochlhejabdcaaGreatDoor
open Go.RowKit TS
theorem jH{p:Pm}{g:Ge}{u:U}{rt c:Nat}(h:TS.Node p g u (ah rt c))(d:u.k≠2)(a:u.k≠14):rt=bu u.k:=by
 obtain⟨⟨b,e⟩,_⟩:=h.tag d a;injection e
theorem Dy{p:Pm}{g:Ge}{u:U}{t b:Nat}(h:TS.Node p g u (ah t b)):cf t:=by
 by_cases d:u.k=2
 ·cases h with
  |alias _ ha _=>obtain⟨c,e,_⟩:=ha.start;injection e with e;rw[e];exact Ck
  |_=>omega
 ·by_cases a:u.k=14
  ·cases h with
   |any _ f=>rw[jH f zd zd];exact qU _
   |_=>omega
  ·rw[jH h d a];exact qU _
theorem Dz{p:Pm}{g:Ge}{u:U}{t b:Nat}{w:World}(a:aA p g w)(h:TS.Node p g u (ah t b)):Plain w b:=by
 cases h with
 |alias _ ha _=>
  cases ha with
  |last _ d _=>exact a.pl _ _ _ d
  |next h1 _ _ _=>exact a.pl _ _ _ h1
 |any _ f=>
  obtain⟨c,e,h⟩:=f.iY rfl;cases e;exact a.pl _ _ _ (a.done _ _ h).1
 |basic _ h=>exact a.pl _ _ _ h
 |array _ _ h _ _=>exact a.pl _ _ _ h
 |slice _ _ h _=>exact a.pl _ _ _ h
 |struct _ h=>exact a.pl _ _ _ h
 |pointer _ _ h _=>exact a.pl _ _ _ h
 |func _ _ h=>exact a.pl _ _ _ h
 |map _ _ h _ _ _=>exact a.pl _ _ _ h
 |chan _ _ h _ _=>exact a.pl _ _ _ h
 |iface _ h=>exact a.pl _ _ _ (a.done _ _ h).1
 |iC _ _ _ _ h=>exact a.pl _ _ _ h
 |named _ _ _ _ h=>exact a.pl _ _ _ h
 |union _ h=>exact a.pl _ _ _ h
 |err _ _ h=>exact a.pl _ _ _ h
 |comp _ h=>exact a.pl _ _ _ h
theorem vN{len:Nat}{u:U}{pos f:Nat}(h:TS.Form len u pos f)(hk:u.k=1):0≤u.n∧u.n<18:=by
 cases h with
 |basic _ a b _=>exact⟨a,b⟩
 |pre a _=>omega
 |one a _ _=>omega
 |ptr a _ _ _=>omega
 |_=>omega
theorem vO{len:Nat}{p:Pm}{g:Ge}{u:U}{x:Value}(hu:ek len u)(H:TS.Node p g u x):∃t b rt d,t≠142∧(x=ah t b∨AC p x (ah t b))∧(t=60→p b 6=some (ah rt d))∧(t≠60→ah rt d=ah t b)∧TS.Node p g (under u) (ah rt d):=by
 cases hu with
 |mk F I J P K v L w r=>
 obtain⟨b,c,f,A⟩:=F.strip H;obtain⟨aa,B,l,_⟩:=F.bare;have M:=aa.aD;by_cases h:(bare u).k=11
 ·obtain⟨y,C,_⟩:=J h
  obtain⟨e,_,_,_,i⟩:=c.jy h;rcases i with G|⟨Q,z,m,D,o⟩
  ·rw[C]at G;cases G
  ·rw[C]at m;cases m
   obtain⟨rt,d,rfl⟩:=o.val;have a:ah (bu (bare u).k) b=ah 60 (g.nb (bare u).n.toNat):=e;have E:b=g.nb (bare u).n.toNat:=by injection a with _ a;injection a with a;injection a with a;injection a
   exact⟨_,b,rt,d,f,A,fun _=>by rw[E];exact D.2.1,fun j=>absurd (by rw[h];rfl) j,by rw[jj h C];exact o⟩
 ·by_cases s:(bare u).k=15
  ·obtain⟨e,i,_,z,D,o⟩:=c.lk s
   obtain⟨rt,d,rfl⟩:=o.val;have a:ah (bu (bare u).k) b=ah 60 g.eb:=e;have E:b=g.eb:=by injection a with _ a;injection a with a;injection a with a;injection a
   exact⟨_,b,rt,d,f,A,fun _=>by rw[E];exact D.2.1,fun j=>absurd (by rw[s];rfl) j,by rw[jk s i];exact o⟩
  ·have q:=iz h s
   have N:=(c.tag B l).2;refine⟨_,b,_,b,f,A,fun e=> ?_,fun _=>rfl,by rw[q];exact c⟩;exfalso;have O:bu (bare u).k=bu 11:=e;rw[q]at w v;exact h (eN O zo zd)
theorem vP{len:Nat}{p:Pm}{g:Ge}{u:U}(hu:ek len u):∀{v:U}{x:Value},ek len v→TS.Node p g u x→TS.Node p g v x→(∀d,bN d u=bN d v)∧cR u=cR v:=by
 induction hu with
 | @mk u hv H hf X w I J K z ih=>
   intro v x kv hn kn;obtain⟨t,b,rt,rb,ht,Y,PG,PH,hr⟩:=vO (.mk hv H hf X w I J K z) hn;obtain⟨t',b',PI,PJ,PK,L,M,N,n⟩:=vO kv kn;have e:ah t b=ah t' b':=by
    rcases Y with rfl|Y
    ·rcases L with e|kx
     ·exact e
     ·obtain⟨_,e,_⟩:=kx.start;injection e with D;exact absurd D ht
    ·rcases L with rfl|kx
     ·obtain⟨_,e,_⟩:=Y.start;injection e with D;exact absurd D PK
     ·exact Y.unique kx
   obtain rfl:t=t':=by injection e
   obtain rfl:b=b':=by injection e with _ e;injection e with e;injection e with e;injection e
   have er:ah rt rb=ah PI PJ:=by
    by_cases Z:t=60
    ·have:=PG Z;rw[M Z]at this;exact(Option.some.inj this).symm
    ·rw[PH Z,N Z]
   rw[←er]at n;cases kv with
   |mk kv PQ kf k2 E PR PS PT j=>
   have C:=H.aD;have O:=(hr.tag X w).2;have P:=(n.tag k2 E).2;have PL:(under u).k=(under v).k:=eN ((jH hr X w).symm.trans (jH n k2 E)) ⟨X,w,O.1,O.2,I,C.1,C.2,J,K⟩ ⟨k2,E,P.1,P.2⟩;by_cases h3:(under u).k=3
   ·have Q:(under v).k=3:=zo
    obtain⟨c,e,y,D,F,_,hc,hy⟩:=hr.ko h3;obtain⟨c',e',y',R,o,_,m,PM⟩:=n.ko zo;rw[D]at R;cases R;rw[hc]at m;cases m;obtain⟨i1,i2⟩:=ih e (by rw[F];simp) (.inl h3) (j e' (by rw[o];simp) (.inl zo)) hy PM;exact⟨fun d=>by rw[mn (.inl h3),mn (.inl Q),F,o];simp[i1 d],by rw[mq (.inl h3),mq (.inl Q),F,o];simp[i2]⟩
   ·by_cases h5:(under u).k=5
    ·have S:(under v).k=5:=zo
     obtain⟨c,a,a',cc,PU,f,xs,D,hc,_,_,_,T,_,A,B⟩:=hr.kp h5;obtain⟨c2,b1,PW,dd,PX,f',PY,R,m,_,_,_,G,_,q,r⟩:=n.kp zo;rw[D]at R;cases R;rw[hc]at m;have hl:(under u).es.length=(under v).es.length:=by injection m with k1;injection k1
     have ha:a=b1:=by injection m with k1;injection k1
     subst ha;have hi:∀i(h:i<(under u).es.length)(s:i<(under v).es.length),(∀d,bN d (under u).es[i]=bN d (under v).es[i])∧cR (under u).es[i]=cR (under v).es[i]:=fun i h s=>by
      have PN:f i=f' i:=qM (cd.unique T (by rw[hl];exact G) h);have g1:=(A i h).2.2.1;have g2:=(q i s).2.2.1;rw[←PN,g1]at g2;exact ih _ (zm h) (.inr h5) (j _ (zm s) (.inr zo)) (B i h) (by rw[Option.some.inj g2];exact r i s)
     have hm:∀d,(under u).es.map (bN d)=(under v).es.map (bN d):=fun d=>List.ext_getElem (by simp[hl]) fun i h s=>by simp only[List.length_map]at h s;simp[(hi i h s).1 d]
     have PO:(under u).es.map cR=(under v).es.map cR:=List.ext_getElem (by simp[hl]) fun i h s=>by simp only[List.length_map]at h s;simp[(hi i h s).2]
     refine⟨fun d=> ?_,by rw[mq (.inr h5),mq (.inr S),PO]⟩;rw[mn (.inr h5),mn (.inr S)];have:=congrArg (fun l=>l.all id) (hm d);simpa [List.all_map,Function.comp_def]using this
    ·have V:¬((under u).k=3∨(under u).k=5):=zo
     have W:¬((under v).k=3∨(under v).k=5):=zo;exact⟨fun d=>by rw[qx V,qx W,PL],by rw[tU V,tU W]⟩
def mP(len:Nat)(p:Pm)(g:Ge)(d:Bool)(y:Value):Prop:=∀v,ek len v→TS.Node p g v y→bN d v=true
theorem DA(len:Nat)(p:Pm)(g:Ge)(d:Bool){u:U}(hu:ek len u):∀(x:Value),TS.Node p g u x→
 (∀P:Value→Prop,(∀y,P y→∀v,ek len v→TS.Node p g v y→bN d v=true∨cR u<cR v)→gy p g d (mP len p g d) P (bN d u) x)∧∀w:World,aA p g w→Xk 124 #[x,.bool d,.map none] w (i_ (mP len p g d) (bN d u) (fun _=>none) none w):=by
 induction hu with
 | @mk u hv C S h2 D PQ PR X E ih=>
   intro x J;have hu:ek len u:= .mk hv C S h2 D PQ PR X E;have Y:=hv.bare.1.aD;have z:bN d u=true→mP len p g d x:=fun h v G H=>by rw[←(vP hu G J H).1 d];exact h
   have m:∀P:Value→Prop,(∀y,P y→∀v,ek len v→TS.Node p g v y→bN d v=true∨cR u<cR v)→P x∨mP len p g d x→bN d u=true:=fun P q h=>h.elim (fun h=>(q x h u hu J).resolve_right (Nat.lt_irrefl _)) fun h=>h u hu J;have hQ:∀P:Value→Prop,(∀y,P y→∀v,ek len v→TS.Node p g v y→bN d v=true∨cR u<cR v)→∀e,cR e<cR u→∀y,P y∨y=x→∀v,ek len v→TS.Node p g v y→bN d v=true∨cR e<cR v:=fun P q e he y T v G H=>by
    rcases T with T|rfl
    ·exact(q y T v G H).imp id fun h=>Nat.lt_trans he h
    ·right;rw[←(vP hu G J H).2];exact he
   have Z:∀y:Value,False→∀v,ek len v→TS.Node p g v y→bN d v=true∨cR u<cR v:=fun _ h=>h.elim;obtain⟨t,b,rt,s,rfl,o,hr⟩:=jE J (jz hv) S Y.1 Y.2;rcases hr with⟨_,hr⟩|⟨h,_⟩
   rotate_left
   ·exact absurd h X
   have k:=Dy J;have l:∀w,aA p g w→Plain w b:=fun w r=>Dz r J;have K:=C.aD;have PG:=jH hr h2 D;have hk:=(hr.tag h2 D).2;have PS:=mJ hk.1 hk.2 h2 K.1 K.2 D;have A:= @qx d u;have Q:= @mn d u;have R:= @Ap u;generalize under u=v at*;subst PG;rcases PS with h|h|h|h|h|h|h|h|h|h
   ·obtain⟨c,e,L⟩:=hr.kl h
    cases dK e;obtain⟨_,hF⟩:=C.form;have hb:=vN hF h;have PH:((v.n+1)==25)=false:=zp;have j:bN d u=true:=by rw[A zo,h];rfl
    rw[h]at o;exact⟨fun P q=>Dj p g d _ P _ t b s k l (m P q) z (v.n+1) L PH j o,fun w r=>Dk p g d _ (fun _=>False) _ t b s w r k l z (v.n+1) L PH j o⟩
   ·obtain⟨c,e,y,e1,PI,_,L,T⟩:=hr.ko h
    cases dK e1;obtain⟨et,eb,rfl⟩:=T.val;have he:e∈v.es:=by rw[PI];simp
    have V:=(ih e he (.inl h) _ T).1;have PT:bN d e=bN d u:=by rw[Q (.inl h),PI];simp
    rw[PT]at V;rw[h]at o;exact⟨fun P q=>Du p g d _ P _ t b s k l (m P q) z et eb L (V _ (hQ P q e (R (.inl h) he))) o,fun w r=>Dv p g d _ (fun _=>False) _ t b s w r k l z et eb L (V _ (hQ _ Z e (R (.inl h) he))) o⟩
   ·rw[h]at o
    have j:bN d u=false:=by rw[A zo,h];rfl
    exact⟨fun P q=>qY p g d _ P _ t b s k l (m P q) z _ zd zd zd zd zd zd j o,fun w r=>qZ p g d _ (fun _=>False) _ t b s w r k l z _ zd zd zd zd zd zd j o⟩
   ·obtain⟨c,a,a',cc,PW,f,xs,e1,L,_,_,M,N,_,I,B⟩:=hr.kp h
    cases dK e1;obtain⟨ft,fb,PJ⟩:=mK fun i hi=>(B i hi).val;have V:∀P:Value→Prop,(∀y,P y→∀v,ek len v→TS.Node p g v y→bN d v=true∨cR u<cR v)→∀i,i<v.es.length→gy p g d (mP len p g d) (fun y=>P y∨y=ah t b) (bN d (v.es.getD i default)) (.iface (ft i) (Xp (fb i))):=fun P q i hi=>by
     have hm:=zm hi;have:=(ih v.es[i] hm (.inr h) _ (B i hi)).1 _ (hQ P q _ (R (.inr h) hm));rw[PJ i hi]at this;rw[List.getD_eq_getElem?_getD,List.getElem?_eq_getElem hi];exact this
    have PK:∀i,i<v.es.length→p (f i) 3=some (.iface (ft i) (Xp (fb i))):=fun i hi=>by
     have:=(I i hi).2.2.1;rw[PJ i hi]at this;exact this
    have PL:(∀i,i<v.es.length→bN d (v.es.getD i default)=true)→bN d u=true:=fun PM=>by
     rw[Q (.inr h),List.all_eq_true];intro e he;obtain⟨i,hi,rfl⟩:=List.getElem_of_mem he;have:=PM i hi;rwa [List.getD_eq_getElem?_getD,List.getElem?_eq_getElem hi]at this
    have PN:∀i,i<v.es.length→bN d (v.es.getD i default)=false→bN d u=false:=fun i hi S=>by
     rw[Q (.inr h),List.all_eq_false];refine⟨v.es[i],zm hi,?_⟩;rw[List.getD_eq_getElem?_getD,List.getElem?_eq_getElem hi]at S;simp only[Option.getD_some]at S;rw[S];decide
    rw[h]at o;exact⟨fun P q=>Ds p g d _ P _ t b s k l (m P q) z _ _ _ f ft fb _ M L N PK (V P q) PL PN o,fun w r=>Dt p g d _ (fun _=>False) _ t b s w r k l z _ _ _ f ft fb _ M L N PK (V _ Z) PL PN o⟩
   ·rw[h]at o
    have j:bN d u=true:=by rw[A zo,h];rfl
    exact⟨fun P q=>Dm p g d _ P _ t b s k l (m P q) z j o,fun w r=>Dp p g d _ (fun _=>False) _ t b s w r k l z j o⟩
   ·rw[h]at o
    have j:bN d u=false:=by rw[A zo,h];rfl
    exact⟨fun P q=>qY p g d _ P _ t b s k l (m P q) z _ zd zd zd zd zd zd j o,fun w r=>qZ p g d _ (fun _=>False) _ t b s w r k l z _ zd zd zd zd zd zd j o⟩
   ·rw[h]at o
    have j:bN d u=false:=by rw[A zo,h];rfl
    exact⟨fun P q=>qY p g d _ P _ t b s k l (m P q) z _ zd zd zd zd zd zd j o,fun w r=>qZ p g d _ (fun _=>False) _ t b s w r k l z _ zd zd zd zd zd zd j o⟩
   ·rw[h]at o
    have j:bN d u=true:=by rw[A zo,h];rfl
    exact⟨fun P q=>Dq p g d _ P _ t b s k l (m P q) z j o,fun w r=>Dr p g d _ (fun _=>False) _ t b s w r k l z j o⟩
   ·obtain⟨c,e1,PU⟩:=hr.iY h
    cases dK e1;have j:bN d u=d:=by rw[A zo,h];cases d<;>rfl
    have PO:=fun W hW=>Di _ W hW hv J;have key:∀W,aA p g W→∃(tb tc:Nat)(ta:Option Addr)(O:Nat→Nat),p s 0=some (.pointer none)∧p s 6=some (ptr tb)∧p tb 2=some (.slice ta 1 tc)∧p tb 3=some (.bool false)∧cd p ta 1 (fun i=>ptr (O i))∧p (O 0) 1=some .nilIface:=fun W r=>by
     obtain⟨ck,tb,ma,mc,f,ta,tc,ts,cmp,q6,q0,q1,qn,qm,qr,qf,q2,PX,PY,⟨O,tr,tt⟩,q3,tok,_⟩:=r.done _ _ PU;obtain⟨rfl,rfl⟩:=tok.gen C.val.gen;exact⟨tb,tc,ta,O,ck,q6,q2,q3,tr,tt 0 zs⟩
    rw[h]at o;refine⟨fun P q mb w F r=> ?_,fun w r=> ?_⟩
    ·obtain⟨tb,tc,ta,O,k0,k6,k2,k3,kr,kt⟩:=key w r
     exact Dw p g d _ P _ t b s k l (m P q) z tb tc ta O k0 k6 k2 k3 kr kt PO j o mb w F r
    ·obtain⟨tb,tc,ta,O,k0,k6,k2,k3,kr,kt⟩:=key w r
     exact Dx p g d _ (fun _=>False) _ t b s w r k l z tb tc ta O k0 k6 k2 k3 kr kt PO j o
   ·omega
end Go.Proofs.YtkochlhejabdcaaGreatDoor
namespace TS
open Go Go.RowKit Go.Proofs.YtkochlhejabdcaaGreatDoor Go.Proofs.Tryz
theorem DC{w:World}{B:Nat}{e:TypeId}{g n cap:Nat}{xs:List Value}(h:w.ownsRow B e 1 (.slice (Xa g 0) n cap) n xs){i:Nat}(hi:i≤n):w.ownsRow B e 1 (.slice (Xa g 0) i cap) i (xs.take i):=by
 have m:=h.1;rcases h.2 with⟨b,_⟩|⟨o,f,cur,b,j,k,l,c,d,a⟩
 ·cases b
 ·cases b
  refine⟨by simp;omega,.inr ⟨g,cap,cur,rfl,j,k,by omega,c,d,?_⟩⟩;rw[←a,List.take_take];congr 1;omega
theorem Kept.toBelow{w a:World}(h:Kept (fun k=>(none:Option Nat)=some k) w a):Below w w a:=⟨h.os,h.tape,h.output,h.size,fun k hk=>h.block k hk fun e=>by cases e⟩
structure ij(q:Pm)(g:Ge)(B n:Nat)(a:Option Addr)(b:Nat)(rs:List Nat)(M:List Tm)(wr:World)(k i:Nat)(L:List Nat)(S:List Tm):Prop where
 own:wr.ownsRow B 164 1 (.slice a n b) n (L.map pv)
 le:i≤k
 drop:L.drop k=rs.drop k
 len:S.length=i
 mQ:S=(M.take k).filter iE
 cJ:∀j(h:j<S.length),bh q g S[j] (L.getD j 0)
theorem ij.skip{q:Pm}{g:Ge}{B n:Nat}{a:Option Addr}{b:Nat}{rs:List Nat}{M:List Tm}{wr:World}{k i:Nat}{L:List Nat}{S:List Tm}(h:ij q g B n a b rs M wr k i L S)(hM:k<M.length)(c:iE M[k]=false):ij q g B n a b rs M wr (k+1) i L S where
 own:=h.own
 le:=by have:=h.le;omega
 drop:=by rw[←List.drop_drop,h.drop,List.drop_drop]
 len:=h.len
 mQ:=by
  have e:M.take (k+1)=M.take k++ [M[k]]:=by rw[List.take_add_one,List.getElem?_eq_getElem hM];rfl
  rw[e,List.filter_append,←h.mQ];simp[c]
 cJ:=h.cJ
theorem ij.below{q:Pm}{g:Ge}{B n:Nat}{a:Option Addr}{b:Nat}{rs:List Nat}{M:List Tm}{wr c:World}{k i:Nat}{L:List Nat}{S:List Tm}(h:ij q g B n a b rs M wr k i L S)(d:Below wr wr c):ij q g B n a b rs M c k i L S:=
 {h with own:=bw h.own d}
theorem ij.take{q:Pm}{g:Ge}{B n b:Nat}{c:Nat}{rs:List Nat}{M:List Tm}{wr:World}{k i:Nat}{L:List Nat}{S:List Tm}(h:ij q g B n (Xa b 0) c rs M wr k i L S)(hk:k<n)(p:L.length=n)(hM:k<M.length){z:Nat}(d:bh q g M[k] z)(f:iE M[k]=true):
 ij q g B n (Xa b 0) c rs M (wr.setCell (Xa b i) (pv z)) (k+1) (i+1) (L.set i z) (S++ [M[k]]) where
 own:=by
  have:=(World.ownsRow.stored h.own i (pv z)).1;rwa [←List.map_set]at this
 le:=by have:=h.le;omega
 drop:=by
  have:=h.le;rw[List.drop_set_of_lt zo,←List.drop_drop,h.drop,List.drop_drop]
 len:=by simp[h.len]
 mQ:=by
  have e:M.take (k+1)=M.take k++ [M[k]]:=by rw[List.take_add_one,List.getElem?_eq_getElem hM];rfl
  rw[e,List.filter_append,←h.mQ];simp[f]
 cJ:=fun j l=>by
  have m:=h.len;have hle:=h.le;simp only[List.length_append,List.length_cons,List.length_nil]at l;by_cases a:j<S.length
  ·rw[List.getElem_append_left a]
   have:=h.cJ j a;rw[List.getD_eq_getElem?_getD,List.getElem?_set_ne zo,←List.getD_eq_getElem?_getD];exact this
  ·have o:j=S.length:=zo
   subst o;rw[List.getElem_append_right zl];simp only[Nat.sub_self,List.getElem_cons_zero];rw[m,List.getD_eq_getElem?_getD,List.getElem?_set_self zo];exact d
end TS
namespace Go.Proofs.YtkochlhejabdcaaGreatDoor
open Go.RowKit TS Tryz
def mR(p:Pm)(g:Ge)(R:List Tm×Bool)(w:World)(e:Ending)(a:World):Prop:=
 ∃q v rs,e= .returned (.tuple #[v,.bool R.2])∧aN p q w∧aA q g a∧cB q g w.heap.size a v rs R.1∧Below w w a∧∀b,v.ownBlock=some b→∀o,q b o=none
theorem DD(len:Nat)(p:Pm)(g:Ge)(a a':Option Addr)(n n' c c':Nat)(f f':Nat→Nat)(xs I:List Tm)(C J:Bool)(w:World)(hn:n=xs.length)(P4:n'=I.length)(hl:n≤1048576)(Qo:n'≤1048576)(hE:aA p g w)(hp:bJ w a n f)(P5:bJ w a' n' f')
 (ht:∀i(h:i<xs.length),bh p g xs[i] (f i))(P6:∀i(h:i<I.length),bh p g I[i] (f' i))(ok:∀t∈xs,dS len t)(P7:∀t∈I,dS len t)
 (PK:b8 xs I= [none]∨(none ∉ b8 xs I∧(b8 xs I).length≤1048576))(PL:∀d e,some (d,e)∈b8 xs I→ek len e):
 Xk 150 #[.slice a n c,.bool C,.slice a' n' c',.bool J] w (mR p g (dP (xs,C) (I,J)) w):=by
 have hM:=zh (Dg len p g a a' n n' c c' f f' xs I w hn P4 hl Qo hE hp P5 ht P6 ok P7);have Qp:Hid (5<w.heap.size):=zb (hE.cap 65 zd zd);have PT:=zh PK;have PU:=zh PL;clear hE hp P5 ht P6 ok P7 PK PL hn P4;have hR:dP (xs,C) (I,J)=if(C||J)&& !dh (b8 xs I)then((b8 xs I).filter iE,false)else(b8 xs I,C||J):=rfl
 rw[hR];clear hR;generalize b8 xs I=M at*;by_cases D:M= [none]
 ·
  have hA:Hid (M= [none]):=D;have U:dh M=true:=by rw[D];rfl
  rw[U];clear D U;cases hc:(C||J)
  ·have hx:C=false:=by cases C;rfl;cases hc
   have hy:J=false:=by cases J;rfl;rw[hx]at hc;cases hc
   subst hx;subst hy;go_enter func150,ntmps150;go_wp2_with fail
   refine hM.out.mono ?_;rintro e w1 ⟨q,v,rs,rfl,V,m,hT,Y,Q⟩;have s:Hid (mR p g (M,false) w (.returned (.tuple #[v,.bool false])) w1):=⟨q,v,rs,rfl,V,m,hT,Y,Q⟩
   clear V m hT Y Q hM;go_wp2_with fail
   refine(iI _).mono ?_;rintro e R ⟨rfl,rfl⟩;go_wp2_with fail
   go_ret2;exact s.out
  ·go_enter func150,ntmps150
   go_wp2_with fail
   refine hM.out.mono ?_;rintro e w1 ⟨q,v,rs,rfl,V,m,hT,Y,Q⟩;obtain⟨A,y,rfl⟩:=a_ hT.own;obtain⟨q1,a1,c1,e1,PG,K,E,PH,N⟩:=mO m hT Q;have T:=hT.len;rw[hA.out]at T;have P:Hid (∀W,aB w1 W→Xk 121 #[.slice A rs.length y] W fun e w'=>e= .returned (.bool true)∧W=w'):=fun W hW=>by
    obtain⟨rfl,rfl⟩:A=a1∧y=c1:=by cases e1;exact⟨rfl,rfl⟩
    refine qR A rs.length y _ W (E.dD hW) (by simp at T;omega) ?_;have:=N 0 (by rw[hA.out];simp);simp only[hA.out,List.getElem_cons_zero]at this;exact hW.cell (K.kw _ _ _ this)
   have s:Hid (mR p g (M,true) w (.returned (.tuple #[.slice A rs.length y,.bool true])) w1):=⟨q,_,rs,rfl,V,m,hT,Y,Q⟩
   clear V m hT Y Q hM e1 PG K E PH N T;have PW:C=true∨(C=false∧J=true):=by cases C<;>cases J<;>simp_all
   rcases PW with rfl|⟨rfl,rfl⟩
   all_goals
    go_wp2_with fail
    refine(P.out _ (aB.refl _)).mono ?_;rintro e R ⟨rfl,rfl⟩;go_wp2_with fail
    refine(P.out _ (aB.refl _)).mono ?_;rintro e R ⟨rfl,rfl⟩;go_wp2_with fail
    refine(iI _).mono ?_;rintro e R ⟨rfl,rfl⟩;go_wp2_with fail
    go_ret2;exact s.out
 ·have PI:none ∉ M∧M.length≤1048576:=PT.out.resolve_left D
  have U:dh M=false:=by
   unfold dh;rw[List.any_eq_false];intro t ht;cases t with
   |none=>exact absurd ht PI.1
   |some _=>exact Bool.false_ne_true
  rw[U];clear D U;cases hc:(C||J)
  ·have hx:C=false:=by cases C;rfl;cases hc
   have hy:J=false:=by cases J;rfl;rw[hx]at hc;cases hc
   subst hx;subst hy;go_enter func150,ntmps150;go_wp2_with fail
   refine hM.out.mono ?_;rintro e w1 ⟨q,v,rs,rfl,V,m,hT,Y,Q⟩;have s:Hid (mR p g (M,false) w (.returned (.tuple #[v,.bool false])) w1):=⟨q,v,rs,rfl,V,m,hT,Y,Q⟩
   clear V m hT Y Q hM;go_wp2_with fail
   refine(iI _).mono ?_;rintro e R ⟨rfl,rfl⟩;go_wp2_with fail
   go_ret2;exact s.out
  ·go_enter func150,ntmps150
   go_wp2_with fail
   refine hM.out.mono ?_;rintro e w1 ⟨q,v,rs,rfl,V,m,hT,Y,Q⟩;obtain⟨A,y,rfl⟩:=a_ hT.own;have Qq:Hid (∀b,(Value.slice A rs.length y).ownBlock=some b→b≠5):=fun b hb e=>by
    have h1:=(hT.own.lt b hb).1;have:=Qp.out;omega
   obtain⟨q1,a1,c1,e1,PG,K,E,PH,N⟩:=mO m hT Q;have T:=hT.len;have P:Hid (Xk 121 #[.slice A rs.length y] w1 fun e w'=>e= .returned (.bool false)∧w1=w'):=by
    obtain⟨rfl,rfl⟩:A=a1∧y=c1:=by cases e1;exact⟨rfl,rfl⟩
    refine qS A rs.length y _ w1 zo E fun i hi=> ?_;have:=N i zo;cases F:M[i]'zo with
    |none=>
     have hm:M[i]'zo∈M:=zm zo;rw[F]at hm;exact absurd hm PI.1
    |some t=>
     rw[F]at this;obtain⟨_,x,h2,h3⟩:=this;obtain⟨t',b',rfl⟩:=h3.val;exact⟨_,_,K.kw _ _ _ h2⟩
   have P8:=zh hT;have P9:=zh m;have Qr:=zh Y;have P_:=zh Q;have Qs:=zh V;have PM:=zh PI;have PN:=zh T;have Qy:rs.length≤1048576:=zo;clear T;clear V m hT Y Q hM e1 PG K E PH N PI;have PW:C=true∨(C=false∧J=true):=by cases C<;>cases J<;>simp_all
   rcases PW with rfl|⟨rfl,rfl⟩
   all_goals
    go_wp2_with fail
    refine P.out.mono ?_;rintro e R ⟨rfl,rfl⟩;go_wp2_with fail
    go_loopw [30,12] (fun vk vi wr=> ∃(k i:Nat)(L:List Nat)(S:List Tm),k≤rs.length∧vk= .int .i64 k∧vi= .int .i64 i∧L.length=rs.length∧ij q g w.heap.size rs.length A y rs M wr k i L S∧Below w w wr∧aA q g wr) (fun vk _ _=>rs.length- (intOf vk).toNat)
    case atStart=>exact⟨0,0,rs,[],Nat.zero_le _,rfl,rfl,rfl,⟨P8.out.own,Nat.le_refl _,rfl,rfl,rfl,fun j h=>absurd h (Nat.not_lt_zero _)⟩,Qr.out,P9.out⟩
    case round=>
     obtain⟨k,i,L,S,hk,rfl,rfl,hL,hF,Qa,Qb⟩:=hrel;have r:=zh hF;have G:=zh Qa;have z:=zh Qb;have Qz:=hF.le;clear hF Qa Qb;by_cases u:k<rs.length
     ·have Qw:(k:Int)<rs.length:=zo
      obtain⟨B,cap,e0,_,PX,Qx,_⟩:=gZ r.out.own zo;cases e0;have Z:k<M.length:=by have:=PN.out;omega
      have Qc:L.getD k 0=rs[k]:=by
       have:=congrArg (fun l=>l[0]?) r.out.drop;simp only[List.getElem?_drop,Nat.add_zero]at this;rw[List.getD_eq_getElem?_getD,this];simp[u]
      have O:∀j,j<rs.length→Xc wr B j (pv (L.getD j 0)):=fun j hj=>by
       rw[r.out.own.cellAt j zo];simp[hL,hj]
      obtain⟨zk,PY,c1⟩:∃zk,bh q g M[k] zk∧Xc wr B k (Xp zk):=⟨rs[k],P8.out.cJ k Z u,by rw[←Qc];exact O k u⟩
      obtain⟨zi,c2⟩:∃zi,Xc wr B i (Xp zi):=⟨_,O i zo⟩
      have c3:=r.out.own.frozenAt i;cases F:M[k]with
      |none=>
       have hm:M[k]∈M:=zm Z;rw[F]at hm;exact absurd hm PM.out.1
      |some t=>
       obtain⟨d,ev⟩:=t;have PO:=PY;rw[F]at PO;obtain⟨_,x,h2,h3⟩:=PO;obtain⟨xt,xb,rfl⟩:=h3.val;have c4:=z.out.kw _ _ _ h2;have PZ:=zh ((DA len q g false (PU.out d ev (by rw[←F];exact zm Z)) _ h3).2 wr z.out);have Qd:=zh PY;have Qe:iE M[k]=bN false ev:=by rw[F];rfl
       have PQ:=zh Qe;clear O PY h2 h3 F Qc Qe;have P0:=zh hL;clear hL;go_wp2_with fail
       refine(iI _).mono ?_;rintro e R ⟨rfl,rfl⟩;go_wp2_with fail
       refine PZ.out.mono ?_;rintro e R ⟨⟨o,rfl,Qf⟩,Qg,_⟩;have PR:=zh Qf;clear Qf;have H:=zh Qg.toBelow;have d2:=az H.out c2;have d3:R.frozen? (Xa B i)=false:=TS.frozen_kept H.out PX c3;clear Qg;cases o with
       |none=>
        have Qh:=r.out.below H.out;have Qt:Hid (ij q g w.heap.size rs.length (Xa B 0) y rs M (R.setCell (Xa B i) (pv zk)) (k+1) (i+1) (L.set i zk) (S++ [M[k]])):=Qh.take u P0.out Z Qd.out (by rw[PQ.out,PR.out];rfl);have Qi:Hid (w.heap.size≤B):=(r.out.own.lt B rfl).1;have Qu:Hid (aA q g (R.setCell (Xa B i) (pv zk))):=(z.out.below H.out).own (X:=fun b=>b=B) ((Kept.refl (fun b=>b=B) R).setCell (a:=(Xa B i)) (fun _=>rfl) _) (fun b e=>by subst e;exact P_.out _ rfl) fun e=>Qq.out B rfl e.symm;clear Qh;go_wp2_with fail
        refine⟨⟨k+1,i+1,L.set i zk,S++ [M[k]],by omega,by go_num,by go_num,by simp[P0.out],Qt.out,(G.out.trans (H.out.mono G.out.size)).setCell Qi.out _,Qu.out⟩,?_⟩;first|omega|(simp[intOf];omega)
       |some o=>
        go_wp2_with fail
        refine⟨⟨k+1,i,L,S,by omega,by go_num,rfl,P0.out,(r.out.below H.out).skip Z (by rw[PQ.out,PR.out];rfl),G.out.trans (H.out.mono G.out.size),z.out.below H.out⟩,?_⟩;first|omega|(simp[intOf];omega)
     ·have QA:¬(k:Int)<rs.length:=zo
      have Qj:i≤rs.length:=zo;have PS:(∃B,A= .some (Xa B 0)∧rs.length≤y∧B<wr.heap.size)∨(A=none∧y=0∧i=0):=by
       rcases r.out.own.2 with⟨e,h0⟩|⟨B,cap,cur,e,_,PX,Qv,_⟩
       ·injection e with e1 e2 e3
        exact .inr ⟨e1,e3,by omega⟩
       ·cases e;exact .inl ⟨B,rfl,Qv,(Array.getElem?_eq_some_iff.1 PX).1⟩
      have QB:i≤y:=by rcases PS with⟨_,_,h,_⟩|⟨_,_,h⟩<;>omega
      have QC:(i:Int)≤y:=zo;have PJ:cB q g w.heap.size wr (.slice A i y) (L.take i) S:=by
       have u:(L.take i).length=i:=by rw[List.length_take];omega
       refine⟨?_,by rw[u,r.out.len],fun j hj Qk=> ?_⟩
       ·rw[u]
        rcases PS with⟨B,rfl,_⟩|⟨rfl,rfl,rfl⟩
        ·have:=DC r.out.own Qj
         rwa [←List.map_take]at this
        ·simpa using World.ownsRow_nil wr w.heap.size 164 1
       ·have:=r.out.cJ j hj
        rw[u]at Qk;have e:(L.take i)[j]'(by rw[u];exact Qk)=L.getD j 0:=by simp[show j<L.length by omega]
        rw[e];exact this
      have P1:S=M.filter iE:=by
       have:=PN.out;rw[r.out.mQ,List.take_of_length_le zo]
      have Ql:S.Sublist M:=by rw[P1];exact List.filter_sublist
      have P2:∀b,(Value.slice A i y).ownBlock=some b→∀o,q b o=none:=fun b hb=>P_.out b (by cases A<;>simpa [Value.ownBlock]using hb);have s:Hid (mR p g (M.filter iE,false) w (.returned (.tuple #[.slice A i y,.bool false])) wr):=
       ⟨q,_,L.take i,rfl,Qs.out,z.out,by rw[P1]at PJ;exact PJ,G.out,P2⟩
      have P3:Hid (Xk 121 #[.slice A i y] wr fun e w'=>e= .returned (.bool false)∧wr=w'):=by
       obtain⟨q1,a1,c1,e1,PG,K,E,PH,N⟩:=mO z.out PJ P2;have u:(L.take i).length=i:=by rw[List.length_take];omega
       rw[u]at e1 E;obtain⟨rfl,rfl⟩:A=a1∧y=c1:=by cases e1;exact⟨rfl,rfl⟩
       refine qS A i y _ wr zo E fun j hj=> ?_;have Qm:j<S.length:=by rw[r.out.len];exact hj
       have:=N j Qm;cases Qn:S[j]with
       |none=>
        have hm:S[j]∈M:=Ql.subset (zm Qm);rw[Qn]at hm;exact absurd hm PM.out.1
       |some t=>
        rw[Qn]at this;obtain⟨_,x,h2,h3⟩:=this;obtain⟨t',b',rfl⟩:=h3.val;exact⟨_,_,K.kw _ _ _ h2⟩
      clear PJ Ql P2 hL P1;go_wp2_with fail
      refine P3.out.mono ?_;rintro e R ⟨rfl,rfl⟩;go_wp2_with fail
      refine(iI _).mono ?_;rintro e R ⟨rfl,rfl⟩;go_wp2_with fail
      go_ret2;exact s.out
end Go.Proofs.YtkochlhejabdcaaGreatDoor
namespace TS
open Go Go.RowKit Go.Proofs.Tryz
theorem KeyLaw.mono{P:Program}{kt:TypeId}{K b:World→Value→Prop}(L:KeyLaw P kt K)(h:∀w v,b w v→K w v):KeyLaw P kt b:=
 ⟨fun w em _ a=>L.check w em (h _ _ a),fun w _ c es he=>L.find w (h _ _ c) es fun e m=>h _ _ (he e m),fun w _ a=>L.stays w (h _ _ a)⟩
def dV(B:Nat)(w:World)(v:Value):Prop:=∃b,v=Xp b∧b<B∧Plain w b
theorem vU{B:Nat}{w:World}{v:Value}(h:dV B w v):qN w v:=let⟨b,e,_,a⟩:=h;⟨b,e,a⟩
theorem vV(B:Nat):mE (dV B):=fun _ _ _ _ _ a hk _ ⟨x,e,b,h⟩=>⟨x,e,b,uP a hk h⟩
theorem cr.kA{B b:Nat}{w a:World}{F:Value→Option Value}(h:cr (dV B) w b F){X:Nat→Prop}(k:Kept X w a)(g:¬X b)(i:∀c,c<B→¬X c):cr (dV B) a b F:=
 h.of (k.block b h.lt g) fun v j=>by
  obtain⟨c,e,d,cs,T,f⟩:=j;exact⟨c,e,d,cs,T,by rw[k.block c (Array.getElem?_eq_some_iff.1 f).1 (i c d)];exact f⟩
end TS
namespace Go.Proofs.YtkochlhejabdcaaGreatDoor
open Go.RowKit TS Tryz
theorem DK(t b:Nat)(a:t≠105)(w:World):Xk 181 #[Xi t b] w fun e c=>e= .returned (.bool false)∧w=c:=by
 have h1:=ak bG t b a;clear a;go_enter func181,ntmps181;go_wp2_with fail
 go_ret;exact⟨rfl,rfl⟩
theorem DL(b:Nat)(k:Int)(hk:(k==0)=false)(w:World)(c:Xc w b 0 (.int .i64 k)):Xk 181 #[Xi 105 b] w fun e a=>e= .returned (.bool false)∧w=a:=by
 have h1:=bk bG b;go_enter func181,ntmps181;go_wp2_with fail
 go_ret;exact⟨rfl,rfl⟩
theorem vW{p:Pm}{g:Ge}{u:U}{len:Nat}(t b:Nat)(w:World)(hw:KW p w)(hu:Vt len u)(h:TS.Node p g u (ah t b))(j:u.k≠2)(d:u.k≠14):Xk 126 #[Xi t b] w fun e i=>e= .returned (.bool true)∧w=i:=by
 have a:=jH h j d;have f:=h.od j d;rw[←a]at f;have l:=zh (fF t (Xp b) f w);have m:Hid (Xk 181 #[Xi t b] w fun e i=>e= .returned (.bool false)∧w=i):=by
  by_cases hk:u.k=1
  ·obtain⟨c,e,o⟩:=h.kl hk
   obtain⟨_,hF⟩:=hu.form;have:=vN hF hk;cases e;exact DL b (u.n+1) zp w (hw _ _ _ o)
  ·refine DK t b (fun e=>hk ?_) w
   rw[a]at e;have q:=(h.tag j d).2;have r:=hu.aD;have:105=bu 1:=rfl;rw[this]at e;exact(eN e.symm zd zo).symm
 clear a f h hu hw;go_enter func126,ntmps126;go_wp2_with fail
 refine l.out.mono ?_;rintro e i ⟨rfl,rfl⟩;go_wp2_with fail
 refine m.out.mono ?_;rintro e i ⟨rfl,rfl⟩;go_wp2_with fail
 go_ret;exact⟨rfl,rfl⟩
end Go.Proofs.YtkochlhejabdcaaGreatDoor
namespace TS
open Go Go.RowKit Go.Proofs.YtkochlhejabdcaaGreatDoor Go.Proofs.Tryz
structure lA(len:Nat)(e:U):Prop where
 pl:∃f,f≤2∧Pl len e 0 f
 fl:(bare e).k=11→∃y,(bare e).un= [y]∧y.k≠16
theorem lA.bare{len:Nat}{e:U}(h:lA len e):(∃f,f≤2∧Pl len (TS.bare e) 0 f)∧(TS.bare e).k≠2∧(TS.bare e).k≠14∧TS.bare (TS.bare e)=TS.bare e∧(TS.bare e).k≠12∧(TS.bare e).k≠13:=by
 obtain⟨f,b,a⟩:=h.pl;obtain⟨h1,c,d,g⟩:=a.bare b a.form.aD.1 a.form.aD.2;exact⟨⟨f,b,h1⟩,c,d,bR c d,h1.form.aD.1,h1.form.aD.2⟩
def q_(len:Nat)(W:List (Bool×U))(d:Bool)(e:U):Prop:=
 (Tok len e∧(d=true→aJ e (under e)=true)∧(d,e)∈W∧(under e).k≠2∧(under e).k≠14)∨(isIface e=true∧lA len e∧∀x∈bM (under e),x∈W)
theorem re{len:Nat}{W:List (Bool×U)}(h:∀x∈W,Tok len x.2):RW W:=fun x a=>by
 have:=h x a;unfold gm;cases x.1
 ·simp[this.vt.refl]
 ·simp[this.vu.refl]
theorem oH{len:Nat}{W:List (Bool×U)}(h:∀x∈W,Tok len x.2){l:List Tm}(a:bB W l):∀t∈l,dS len t:=fun t b=>by
 rcases a.any t b with rfl|⟨x,c,rfl⟩
 ·trivial
 ·exact h x c
end TS
namespace Go.Proofs.YtkochlhejabdcaaGreatDoor
open Go.RowKit TS Tryz
theorem vX{p:Pm}{g:Ge}{u:U}{len:Nat}(x:Value)(w:World)(hw:KW p w)(hu:lA len u)(o:TS.Node p g u x):Xk 149 #[x] w fun e q=>e= .returned (.bool false)∧w=q:=by
 obtain⟨f,s,n⟩:=hu.pl;obtain⟨b,d,i,r⟩:=o.strip n s n.form.aD.1 n.form.aD.2;obtain⟨y,z,rfl⟩:=o.val;have v:=zh (ov _ b _ p i r w hw);obtain⟨_,j,a,_,l⟩:=hu.bare;have c:=(d.tag j a).2;have m:bu (bare u).k≠220:=by
  rcases mJ c.1 c.2 j l.1 l.2 a with h|h|h|h|h|h|h|h|h|h
  all_goals first|(rw[h];decide)|(rcases h with h|h|h<;>rw[h]<;>decide)
 generalize bu (bare u).k=t at*;have h1:=ak qD t b m;clear d i r o hw c m n;go_enter func149,ntmps149;go_wp2_with fail
 refine v.out.mono ?_;rintro e q ⟨rfl,rfl⟩;go_wp2_with fail
 go_ret;exact⟨rfl,rfl⟩
theorem oI(B:Nat):KeyLaw Tryz.prog 202 (dV B):=by
 obtain⟨e,i,j,a,hi,b,c,d⟩:=uX;exact(uN a c d).mono fun _ _=>vU
theorem rh(w:World):(zeroValue 78).run Tryz.prog w= .ok (.pointer none) w:=zk
structure DM(q:Pm)(g:Ge)(B tb c:Nat)(a:World)(v:Value)(rs:List Nat)(S:List Tm)(ds W:List (Bool×U)):Prop where
 id:aA q g a
 row:cB q g B a v rs S
 aF:∀b,v.ownBlock=some b→∀o,q b o=none
 wi:bB W S
 na:none∈S→∃x∈ds,isIface x.2=true
 fd:S=ds.foldl fN []
 c0:Xc a tb 0 (.bool false)
 c1:Xc a tb 1 (.slice none 0 0)
 c3:Xc a tb 3 (.bool false)
def vY(p:Pm)(g:Ge)(B d b:Nat)(F:Value→Option Value)(ds W:List (Bool×U))(w:World)(e:Ending)(a:World):Prop:=
 ∃q tb v rs S c,e= .returned (Xp tb)∧aN p q w∧DM q g w.heap.size tb b a v rs S ds W∧Xc a tb 2 v∧w.heap.size≤tb∧(∀o,q tb o=none)∧cr (dV B) a b c∧(∀y,y≠(Xp d:Value)→c y=F y)∧Kept (fun k=>k=b) w a
theorem iJ:under dB=dB:=by
 have a:bare dB=dB:=bR zd zd;rw[iz]<;>rw[a]<;>decide
structure mS(p:Pm)(g:Ge)(a:Nat)(c:World)(ds W:List (Bool×U))(wr:World)(v:Value)(q:Pm)(rs:List Nat)(R:List Tm):Prop where
 id:aA q g wr
 row:cB q g a wr v rs R
 aF:∀b,v.ownBlock=some b→∀o,q b o=none
 gr:aN p q a
 gz:Below a c wr
 wi:bB W R
 na:none∈R→∃x∈ds,isIface x.2=true
theorem DN{X:Nat→Prop}{B:Nat}{w a c:World}(h:Below B w a)(f:B≤a.heap.size)(k:Kept X a c)(d:∀b,X b→B≤b):Below B w c:=
 h.trans ⟨k.os,k.tape,k.output,k.size,fun b g=>k.block b zo fun e=>by have:=d b e;omega⟩
theorem mS.join{len:Nat}{p q:Pm}{g:Ge}{m:Nat}{t wr r:World}{ds W:List (Bool×U)}{v:Value}{rs:List Nat}{R:List Tm}(h:mS p g m t ds W wr v q rs R)(s:Below wr wr r)(D:m≤t.heap.size)(E:5<m)(u:∀x∈W,Tok len x.2)(j:W.length≤50)
 (a:Option Addr)(n c:Nat)(f:Nat→Nat)(k:List Tm)(F:n=k.length)(ha:a=none→c=0)(G:∀x,a=some x→x.spot=none)(H:bJ r a n f)(I:∀i(h:i<k.length),bh q g k[i] (f i))(l:bB W k)(w:none∈k→∃x∈ds,isIface x.2=true):
 Xk 184 #[v,.slice a n c] r fun e A=> ∃a' c' y d B,e= .returned (.slice a' d.length c')∧mS p g m t ds W A (.slice a' d.length c') y d B∧d.length≤50∧B=gN R k:=by
 have N:rs.length≤50:=by rw[h.row.len];exact h.wi.len j zd
 have O:=l.len j zd;have h1:=s.size;have P:=h.gz.size;refine(DB len q g m v rs R a n c f k r (h.id.below s) (h.row.below s) h.aF zo E F zo zo ha G H I (oH u h.wi) (oH u l)).mono ?_;rintro e A ⟨y,Q,d,rfl,z,J,hT,K,L⟩;obtain⟨a',c',rfl⟩:=a_ hT.own;have o:=bB.join (re u) h.wi l;exact⟨a',c',y,d,_,rfl,⟨J,⟨jr hT.own zo,hT.len,hT.cJ⟩,L,h.gr.trans z zl,DN (h.gz.trans (s.mono zo)) zo K fun b M=>(h.row.own.lt b M).1,o,fun hm=>Classical.byContradiction fun C=>DJ (fun h1=>C (h.na h1)) (fun h1=>C (w h1)) hm⟩,by rw[hT.len];exact o.len j zd,rfl⟩
theorem DO(len:Nat)(p:Pm)(g:Ge)(B r s n c:Nat)(q0:Option Addr)(pos:Int)(a:Option Addr)(f:Nat→Nat)(ds:List (Bool×U))(F:Value→Option Value)(W:List (Bool×U))(w:World)(S:aA p g w)(hM:cr (dV B) w s F)(hF:F (Xp r)=none)
 (P0:r<B)(Q3:B≤s)(Q4:5<B)(P:p r 0=some (.slice a n c))(hn:n=ds.length)(Q5:n≤1048576)(hr:cd p a n fun i=>ptr (f i))(P7:∀o,p s o=none)
 (ht:∀i(h:i<ds.length),bh p g (some ds[i]) (f i))(hu:∀i(h:i<ds.length),q_ len W ds[i].1 ds[i].2)(hW:∀x∈W,Tok len x.2)(QA:W.length≤50):
 Xk 131 #[.pointer q0,.map (some s),.int .i64 pos,Xp r] w (vY p g B r s F ds W w):=by
 have P8:=zh S;have P9:=zh hM;have P_:=zh hF;have C:Hid (dV B w (Xp r)):=⟨r,rfl,P0,S.pl _ _ _ P⟩
 have u:Hid (dV B (w.alloc (.cells #[.bool false,.slice none 0 0,.slice none 0 0,.bool false] 139)) (Xp r)):=⟨r,rfl,P0,(S.pl _ _ _ P).below (zB.alloc zl _)⟩
 have Qa:Hid (cr (dV B) (w.alloc (.cells #[.bool false,.slice none 0 0,.slice none 0 0,.bool false] 139)) s F):=hM.kA (X:=fun _=>False) ((Kept.refl _ _).alloc _) id fun _ _=>id;have QB:=hM.lt;have h0:=S.kw _ _ _ P;have QC:=zh hr;have QD:=zh ht;have QE:=zh hu;have Qb:=zh hn;have QY:=zh P7;have Qc:=zh P;have Qd:Hid (¬Plain w s):=fun⟨cs,T,h⟩=>by obtain⟨es,cl,hb,_⟩:=hM;rw[hb]at h;cases h
 have QF:Hid (∀A,(w.alloc (.cells #[.bool false,.slice none 0 0,.slice none 0 0,.bool false] 139)).grownBy A (some s)→Xc A r 0 (.slice a n c)):=fun A L=>by
  have PL:Kept (fun k=>k=s) w A:=((Kept.refl _ _).alloc _).grown L fun k hk _=>by cases hk;rfl
  exact(S.kept PL (fun b e=>by subst e;exact Qd.out) zo).kw _ _ _ P
 clear S hM hF hr ht hu hn P7 P;go_enter func131,ntmps131;go_wp2_with (first|(at_lookup;refine DF _ rfl _ _ 204 rfl (oI B) 78 underlying204 (.pointer none) rh s F rfl P9.out (Xp r) rfl C.out (.pointer none) false (by rw[P_.out];rfl) (by rw[P_.out];rfl) ?_)|(at_mapUpdate;refine eF _ rfl _ _ _ 204 rfl (oI B) (vV B) 78 underlying204 s F rfl Qa.out (Xp r) (Xp w) rfl rfl u.out ?_;intro A Qe L;have c0:=QF.out A L)|fail)
 have PL:Hid (Kept (fun k=>k=s) w A):=((Kept.refl _ _).alloc _).grown L fun k hk _=>by cases hk;rfl
 have QG:Hid (aA p g A):=P8.out.kept PL.out (fun b e=>by subst e;exact Qd.out) zo;have QH:Hid (cr (dV B) A s (bH F (Xp r) (Xp w))):=Qe _ (fun y hy=>bj F hy) (b_ _ _ _);have Qf:A.heap[w.heap.size]?=some (.cells #[.bool false,.slice none 0 0,.slice none 0 0,.bool false] 139 (0,0)):=by
  rw[L.block w.heap.size zs fun e=>by have:=Option.some.inj e;omega];exact(MapKept.heap_alloc w _).1
 have PR:w.heap.size<A.heap.size:=by have:=L.size;simp at this;omega
 have Qg:=zh Qf;have QI:=zh P8.out;clear Qe L Qa P9 C u Qf h0;go_wp2_with fail
 go_loopw [35,11] (fun vk vv wr=> ∃(k:Nat)(q:Pm)(rs:List Nat)(R:List Tm),k≤n∧vk= .int .i64 k∧mS p g A.heap.size A ds W wr vv q rs R∧R=(ds.take k).foldl fN []) (fun vk _ _=>n- (intOf vk).toNat)
 case atStart=>exact⟨0,p,[],[],Nat.zero_le _,rfl,⟨QG.out,⟨World.ownsRow_nil _ _ _ _,rfl,fun i h=>absurd h (Nat.not_lt_zero _)⟩,(fun b hb=>by cases hb),aN.refl _ _,Below.refl _ _,vQ W,fun h=>(by cases h)⟩,rfl⟩
 case round=>
  obtain⟨k,q,rs,R,hk,rfl,j,Qh⟩:=hrel;have PS:=zh Qh;clear Qh;have Qi:=zh j;obtain⟨va,vc,rfl⟩:=a_ j.row.own;by_cases QJ:k<n
  ·have QZ:(k:Int)<n:=zo
   obtain⟨ab,ao,rfl,Qj⟩:=(QC.out.sub j.gr.le) k QJ;have c1:=j.id.kw _ _ _ Qj;have PM:k<ds.length:=by have:=Qb.out;omega
   have Qk:=(QD.out k PM).sub j.gr.le (aK.refl g);have QK:=QE.out k PM;have V:Hid (bh q g (some ds[k]) (f k)):=Qk;have Ql:Hid (ds[k]∈ds):=zm PM;have P1:Hid ((ds.take (k+1)).foldl fN []=fN R ds[k]):=by rw[PS.out];exact nS fN [] PM
   generalize ds[k]=de at*;obtain⟨d,e⟩:=de;obtain⟨Qm,x,Qn,D⟩:=Qk;have c2:=j.id.kw _ _ _ Qm;have c3:=j.id.kw _ _ _ Qn;have v:=zh j.id.kw
   have z:Hid (∀(wx:World)(a':Option Addr)(n' c':Nat)(f':Nat→Nat)(ys:List Tm),Below wr wr wx→n'=ys.length→(a'=none→c'=0)→(∀x,a'=some x→x.spot=none)→bJ wx a' n' f'→(∀i(h:i<ys.length),bh q g ys[i] (f' i))→bB W ys→(none∈ys→∃x∈ds,isIface x.2=true)→
    Xk 184 #[.slice va rs.length vc,.slice a' n' c'] wx fun e w'=> ∃Qo Qp q' PN R',e= .returned (.slice Qo PN.length Qp)∧mS p g A.heap.size A ds W w' (.slice Qo PN.length Qp) q' PN R'∧PN.length≤50∧R'=gN R ys):=fun wx a' n' c' f' ys hx h1 h2 h3 h4 h5 h6 h7=>
    j.join hx zl zo hW QA a' n' c' f' ys h1 h2 h3 h4 h5 h6 h7
   have S:=zh j.id;clear j Qi Qj Qm Qn QB;rcases QK with⟨hT,Qq,hm,PO,N⟩|⟨hi,hP,P2⟩
   ·
    have Q:=hT.ni;unfold isIface at Q;simp only[Bool.or_eq_false_iff,beq_eq_false_iff_ne,ne_eq]at Q;simp only at hT Qq hm PO N D Q;obtain⟨aa,PQ,O,_⟩:=hT.vt.bare;have Z:bare (bare e)=bare e:=bR PQ O;have PG:=hT.vu.aD;obtain⟨xt,xb,rt,rb,rfl,PH,hr⟩:=jE D Z hT.fl aa.aD.1 aa.aD.2;obtain⟨QL,PI⟩:(under e).k≠16∧TS.Node q g (under e) (ah rt rb):=hr.resolve_right fun h=>Q.2 h.1;have PT:=jH PI PO N;have Qr:rt≠37:=by
     rw[PT];have Q6:=(PI.tag PO N).2;intro e1;have:37=bu 10:=rfl;rw[this]at e1;exact Q.1 (eN e1.symm zd zo).symm
    have Qs:=zh (vW rt rb wr S.out.kw hT.vu PI PO N);have QM:=zh (mL len q g e (under e) _ _ wr S.out hT.vt hT.vu D PI);obtain⟨K,fn,QN,P3,M,P4,QO,QP,m⟩:=eG PH v.out;have QQ:=fun args w=>Go.MuLone.run_callFunc_enter P3 M P4 args w;have l:=zh m;have lB:=ak ei rt rb Qr;have Qt:=zh (vR hm);have hj:Hid (fN R (d,e)=gN R [some (d,e)]):=zh (by unfold fN;rw[if_neg (by rw[hT.ni];decide)]);clear m Qr PT PI hr PH D Q aa PQ O Z hT hm QL PG;cases d with
    |false=>
     go_wp2_with fail
     refine(l.out _ v.out).mono ?_;rintro _ _ ⟨rfl,rfl⟩;go_wp2_with fail
     refine Qs.out.mono ?_;rintro _ _ ⟨rfl,rfl⟩;go_wp2_with fail
     refine(z.out (World.alloc wr (.cells #[Xp (f k)] 164)) (Xa (World.heap wr|>.size) 0) 1 1 (fun _=>f k) [some (false,e)] (zB.alloc zl _) rfl (fun h=>by cases h) (fun x h=>by cases h;rfl) (fun i hi=>⟨_,0,rfl,by obtain rfl:i=0:=zo;simpa using TS.eD wr _ _ 0 _ rfl⟩) (fun i hi=>by obtain rfl:i=0:=(by simp at hi;omega);exact V.out) Qt.out zs).mono ?_;rintro _ w3 ⟨a3,c3,q3,E,R3,rfl,G,PJ,H⟩;have I:=zh G;have J:=zh H;clear H;have PU:¬(E.length:Int) >100:=zo;clear G PJ;go_wp2_with fail
     refine⟨⟨k+1,q3,E,R3,by omega,by go_num,I.out,by rw[J.out,P1.out,hj.out]⟩,?_⟩;first|omega|(simp[intOf];omega)
    |true=>
     have QR:=zh (Qq rfl);go_wp2_with fail
     refine(l.out _ v.out).mono ?_;rintro _ _ ⟨rfl,rfl⟩;go_wp2_with fail
     refine Qs.out.mono ?_;rintro _ _ ⟨rfl,rfl⟩;go_wp2_with fail
     refine QM.out.mono ?_;rintro _ w2 ⟨rfl,hG⟩;rw[QR.out];have Qu:=zh hG.below;clear hG;go_wp2_with fail
     refine(z.out (World.alloc w2 (.cells #[Xp (f k)] 164)) (Xa (World.heap w2|>.size) 0) 1 1 (fun _=>f k) [some (true,e)] ((Qu.out).alloc Qu.out.size _) rfl (fun h=>by cases h) (fun x h=>by cases h;rfl) (fun i hi=>⟨_,0,rfl,by obtain rfl:i=0:=zo;simpa using TS.eD w2 _ _ 0 _ rfl⟩) (fun i hi=>by obtain rfl:i=0:=(by simp at hi;omega);exact V.out) Qt.out zs).mono ?_;rintro _ w3 ⟨a3,c3,q3,E,R3,rfl,G,PJ,H⟩;have I:=zh G;have J:=zh H;clear H;have PU:¬(E.length:Int) >100:=zo;clear G PJ;go_wp2_with fail
     refine⟨⟨k+1,q3,E,R3,by omega,by go_num,I.out,by rw[J.out,P1.out,hj.out]⟩,?_⟩;first|omega|(simp[intOf];omega)
   ·
    simp only at hi hP P2 D;obtain⟨_,PQ,O,Z,PG⟩:=hP.bare;obtain⟨xt,xb,rt,rb,rfl,PH,hr⟩:=jE D Z hP.fl PG.1 PG.2;have QS:rt=37∧∃u',q rb 0=some (.pointer none)∧cS q g rb u'∧(∀x∈bM u',x∈W)∧dr u'=dr e:=by
     rcases hr with⟨P5,hn⟩|⟨P5,e1,hG⟩
     ·have Qv:(under e).k=10:=by
       unfold isIface at hi;simp only[Bool.or_eq_true,beq_iff_eq]at hi;exact hi.resolve_right P5
      obtain⟨b,e1,hG⟩:=hn.iY Qv;cases e1;have:=S.out.done _ _ hG;exact⟨rfl,_,this.1,this.2,P2,qy Qv⟩
     ·have:=S.out.done _ _ hG
      exact⟨e1,_,this.1,this.2,fun x hx=>(by rw[kd (by rw[iJ];decide)]at hx;cases hx),by rw[ke (by rw[iJ];decide),ke zo,iJ,P5];rfl⟩
    obtain⟨rfl,u',c4,QT,PW,PX⟩:=QS;obtain⟨tb,ma,mc,f',ta,tc,ts,cmp,t1,t2,t3,t4,t5,t6,t7,t8,t9,t10,⟨f2,t11,PY⟩,t12,t13,t14,t15⟩:=QT;have QU:=zh (vX _ wr v.out hP D);have d1:=v.out _ _ _ t1;have d2:=v.out _ _ _ t8;have QV:=zh (qQ rb tb q0 pos wr d1);have hj:Hid (fN R (d,e)=gN R ts):=zh (by unfold fN;rw[if_pos hi,←PX,t13.eq]);have Qw:bB W ts:=t13.cP.imp id fun⟨x1,x2,x3⟩=>⟨x1,x2,fun t ht=>let⟨x,hx,e⟩:=x3 t ht;⟨x,PW x hx,e⟩⟩
    have hJ:=zh (z.out wr ta ts.length tc f2 ts zB rfl t14 t15 (fun i hi=>let⟨b,o,e,hc⟩:=t11 i hi;⟨b,o,e,v.out _ _ _ hc⟩) PY Qw fun _=>⟨(d,e),Ql.out,hi⟩);obtain⟨K,fn,QN,P3,M,P4,QO,QP,m⟩:=eG PH v.out;have QQ:=fun args w=>Go.MuLone.run_callFunc_enter P3 M P4 args w;have l:=zh m;have lB:=bk ei rb;clear m hr PH D hP hi P2 PW PX t1 t2 t3 t4 t5 t6 t7 t8 t9 t10 t11 PY t12 t13 t14 t15 Qw z PQ O Z PG d1;go_wp2_with fail
    refine(l.out _ v.out).mono ?_;rintro _ _ ⟨rfl,rfl⟩;go_wp2_with fail
    refine QU.out.mono ?_;rintro _ _ ⟨rfl,rfl⟩;go_wp2_with fail
    refine(iI _).mono ?_;rintro _ _ ⟨rfl,rfl⟩;go_wp2_with fail
    refine QV.out.mono ?_;rintro _ _ ⟨rfl,rfl⟩;go_wp2_with fail
    refine hJ.out.mono ?_;rintro _ w3 ⟨a3,c3,q3,E,R3,rfl,G,PJ,H⟩;have I:=zh G;have J:=zh H;clear H;have PU:¬(E.length:Int) >100:=zo;clear G PJ;go_wp2_with fail
    refine⟨⟨k+1,q3,E,R3,by omega,by go_num,I.out,by rw[J.out,P1.out,hj.out]⟩,?_⟩;first|omega|(simp[intOf];omega)
  ·have Q7:¬(k:Int)<n:=zo
   have QW:=zh j.id;have Qx:Hid (cr (dV B) wr s (bH F (Xp r) (Xp w))):=QH.out.kA (X:=fun b=>A.heap.size≤b) ⟨j.gz.os,j.gz.tape,j.gz.output,j.gz.size,fun b _ hb=>j.gz.block b zo⟩ zo fun c hc=>by omega
   have PK:wr.heap[w.heap.size]?=some (.cells #[.bool false,.slice none 0 0,.slice none 0 0,.bool false] 139 (0,0)):=(j.gz.block _ PR).trans Qg.out;have c4:Xc wr w 2 (.slice none 0 0):=by simp[World.cell?,PK]
   have c5:wr.frozen? (Xa w 2)=false:=by simp[World.frozen?,PK]
   have C:Hid (dV B wr (Xp r)):=⟨r,rfl,P0,j.id.pl _ _ _ (j.gr.le _ _ _ Qc.out)⟩
   have u:Hid (dV B (wr.setCell (Xa w 2) (.slice va rs.length vc)) (Xp r)):=by
    obtain⟨b,e,hl,cs,T,hc⟩:=C.out;exact⟨b,e,hl,cs,T,by rw[Below.heap_setCell _ _ _ _ (by simp only;omega)];exact hc⟩
   have PZ:Hid (cr (dV B) (wr.setCell (Xa w 2) (.slice va rs.length vc)) s (bH F (Xp r) (Xp w))):=
    Qx.out.kA (X:=fun b=>b=w.heap.size) ((Kept.refl (fun b=>b=w.heap.size) wr).setCell (a:=(Xa w 2)) (fun _=>rfl) _) zo fun c hc=>by omega
   clear QW;clear j;have Qy:Hid (vY p g B r s F ds W w (.returned (Xp w)) (wr.setCell (Xa w 2) (.slice va rs.length vc))):=by
    have j:=Qi.out;have V:∀o,q w.heap.size o=none:=j.gr.aF PR fun o=>QI.out.kw.aF zl o;have Qz:Kept (fun b=>b=w.heap.size) wr (wr.setCell (Xa w 2) (.slice va rs.length vc)):=(Kept.refl (fun b=>b=w.heap.size) wr).setCell (a:=(Xa w 2)) (fun _=>rfl) _;have QX:∀b,(Value.slice va rs.length vc).ownBlock=some b→A.heap.size≤b:=fun b hb=>(j.row.own.lt b hb).1;have P6:∀o,o≠2→(wr.setCell (Xa w 2) (.slice va rs.length vc)).cell? (Xa w o)=wr.cell? (Xa w o):=fun o ho=>World.cell?_setCell_other _ _ _ _ (by simp[Ne.symm ho]);refine⟨q,w.heap.size,_,rs,R,_,rfl,j.gr.mono zo,⟨?_,?_,j.aF,j.wi,j.na,by rw[PS.out,List.take_of_length_le (by have:=Qb.out;omega)],?_,?_,?_⟩,?_,Nat.le_refl _,V,PZ.out,fun y hy=>bj F hy,?_⟩
    ·exact j.id.own Qz (fun b e=>by subst e;exact V) zo
    ·exact⟨jr (dY j.row.own Qz fun b hb e=>by have:=QX b hb;omega) zo,j.row.len,j.row.cJ⟩
    ·rw[P6 0 zd];simp[World.cell?,PK]
    ·rw[P6 1 zd];simp[World.cell?,PK]
    ·rw[P6 3 zd];simp[World.cell?,PK]
    ·exact World.cell?_setCell_same _ _ _ c4
    ·have:Kept (fun k=>k=s) w wr:=PL.out.trans (Y:=fun b=>A.heap.size≤b) ⟨j.gz.os,j.gz.tape,j.gz.output,j.gz.size,fun b _ hb=>j.gz.block b zo⟩ fun b hb e=>by omega
     exact this.setCell (fun h=>absurd h zs) _
   go_wp2_with (first|(at_lookup;refine eE _ rfl _ _ 204 rfl (oI B) 78 underlying204 (.pointer none) rh s _ rfl Qx.out (Xp r) rfl C.out (Xp w) (by rw[b_];rfl) ?_)|(at_lookup;refine eE _ rfl _ _ 204 rfl (oI B) 78 underlying204 (.pointer none) rh s _ rfl PZ.out (Xp r) rfl u.out (Xp w) (by rw[b_];rfl) ?_)|fail)
   go_ret;exact Qy.out
end Go.Proofs.YtkochlhejabdcaaGreatDoor
