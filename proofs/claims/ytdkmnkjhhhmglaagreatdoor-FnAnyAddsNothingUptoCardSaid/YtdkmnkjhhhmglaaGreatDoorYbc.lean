import Derived.Test.YtdkmnkjhhhmglaaGreatDoorYba
import Derived.Test.YtdkmnkjhhhmglaaGreatDoorYbb
set_option maxRecDepth 100000
set_option maxHeartbeats 8000000
set_option linter.all false
namespace Go.Proofs.YtdkmnkjhhhmglaaGreatDoor
open Go.RowKit TS
theorem jH{p:Pm}{g:Ge}{u:U}{rt c:Nat}(h:TS.Node p g u (ae rt c))(h2:u.k≠2)(a:u.k≠14):rt=bq u.k:=by
 obtain⟨⟨b,e⟩,_⟩:=h.tag h2 a;injection e
theorem DH{p:Pm}{g:Ge}{u:U}{t b:Nat}(h:TS.Node p g u (ae t b)):bV t:=by
 by_cases h2:u.k=2
 ·cases h with
  |alias _ ha _=>obtain⟨c,e,_⟩:=ha.start;injection e with e;rw[e];exact Cy
  |_=>omega
 ·by_cases a:u.k=14
  ·cases h with
   |any _ d=>rw[jH d (by decide) (by decide)];exact mV _
   |_=>omega
  ·rw[jH h h2 a];exact mV _
theorem DI{p:Pm}{g:Ge}{u:U}{t b:Nat}{w:World}(a:aw p g w)(h:TS.Node p g u (ae t b)):Plain w b:=by
 cases h with
 |alias _ ha _=>
  cases ha with
  |last _ h2 _=>exact a.pl _ _ _ h2
  |next h1 _ _ _=>exact a.pl _ _ _ h1
 |any _ d=>
  obtain⟨c,e,h⟩:=d.gT rfl;cases e;exact a.pl _ _ _ (a.done _ _ h).1
 |basic _ h=>exact a.pl _ _ _ h
 |array _ _ h _ _=>exact a.pl _ _ _ h
 |slice _ _ h _=>exact a.pl _ _ _ h
 |struct _ h=>exact a.pl _ _ _ h
 |pointer _ _ h _=>exact a.pl _ _ _ h
 |func _ _ h=>exact a.pl _ _ _ h
 |map _ _ h _ _ _=>exact a.pl _ _ _ h
 |chan _ _ h _ _=>exact a.pl _ _ _ h
 |iface _ h=>exact a.pl _ _ _ (a.done _ _ h).1
 |iD _ _ _ _ h=>exact a.pl _ _ _ h
 |named _ _ _ _ h=>exact a.pl _ _ _ h
 |union _ h=>exact a.pl _ _ _ h
 |err _ _ h=>exact a.pl _ _ _ h
 |comp _ h=>exact a.pl _ _ _ h
theorem wg{len:Nat}{u:U}{pos f:Nat}(h:TS.Form len u pos f)(hk:u.k=1):0≤u.n∧u.n<18:=by
 cases h with
 |basic _ a b _=>exact⟨a,b⟩
 |pre a _=>omega
 |one a _ _=>omega
 |ptr a _ _ _=>omega
 |_=>omega
theorem wh{len:Nat}{p:Pm}{g:Ge}{u:U}{x:Value}(hu:eh len u)(H:TS.Node p g u x):∃t b rt d,t≠136∧(x=ae t b∨AC p x (ae t b))∧(t=58→p b 6=some (ae rt d))∧(t≠58→ae rt d=ae t b)∧TS.Node p g (under u) (ae rt d):=by
 cases hu with
 |mk F I J h2 K v L w r=>
 obtain⟨b,c,f,A⟩:=F.strip H;obtain⟨aa,B,l,_⟩:=F.bare;have M:=aa.aE;by_cases h:(bare u).k=11
 ·obtain⟨y,C,_⟩:=J h
  obtain⟨e,_,_,_,i⟩:=c.jy h;rcases i with G|⟨P,z,m,D,o⟩
  ·rw[C]at G;cases G
  ·rw[C]at m;cases m
   obtain⟨rt,d,rfl⟩:=o.val;have a:ae (bq (bare u).k) b=ae 58 (g.nb (bare u).n.toNat):=e;have E:b=g.nb (bare u).n.toNat:=by injection a with _ a;injection a with a;injection a with a;injection a
   exact⟨_,b,rt,d,f,A,fun _=>by rw[E];exact D.2.1,fun j=>absurd (by rw[h];rfl) j,by rw[jn h C];exact o⟩
 ·by_cases s:(bare u).k=15
  ·obtain⟨e,i,_,z,D,o⟩:=c.lu s
   obtain⟨rt,d,rfl⟩:=o.val;have a:ae (bq (bare u).k) b=ae 58 g.eb:=e;have E:b=g.eb:=by injection a with _ a;injection a with a;injection a with a;injection a
   exact⟨_,b,rt,d,f,A,fun _=>by rw[E];exact D.2.1,fun j=>absurd (by rw[s];rfl) j,by rw[jo s i];exact o⟩
  ·have q:=ik h s
   have N:=(c.tag B l).2;refine⟨_,b,_,b,f,A,fun e=> ?_,fun _=>rfl,by rw[q];exact c⟩;exfalso;have O:bq (bare u).k=bq 11:=e;rw[q]at w v;exact h (eO O (by omega) (by decide))
theorem wj{len:Nat}{p:Pm}{g:Ge}{u:U}(hu:eh len u):∀{v:U}{x:Value},eh len v→TS.Node p g u x→TS.Node p g v x→(∀d,bu d u=bu d v)∧cR u=cR v:=by
 induction hu with
 | @mk u hv H hf h2 w I J K z ih=>
   intro v x kv hn kn;obtain⟨t,b,rt,rb,ht,X,PM,PN,hr⟩:=wh (.mk hv H hf h2 w I J K z) hn;obtain⟨t',b',PO,PQ,PR,L,M,N,n⟩:=wh kv kn;have e:ae t b=ae t' b':=by
    rcases X with rfl|X
    ·rcases L with e|kx
     ·exact e
     ·obtain⟨_,e,_⟩:=kx.start;injection e with D;exact absurd D ht
    ·rcases L with rfl|kx
     ·obtain⟨_,e,_⟩:=X.start;injection e with D;exact absurd D PR
     ·exact X.unique kx
   obtain rfl:t=t':=by injection e
   obtain rfl:b=b':=by injection e with _ e;injection e with e;injection e with e;injection e
   have er:ae rt rb=ae PO PQ:=by
    by_cases Y:t=58
    ·have:=PM Y;rw[M Y]at this;exact(Option.some.inj this).symm
    ·rw[PN Y,N Y]
   rw[←er]at n;cases kv with
   |mk kv PW kf k2 E PX PY PZ j=>
   have C:=H.aE;have O:=(hr.tag h2 w).2;have P:=(n.tag k2 E).2;have PS:(under u).k=(under v).k:=eO ((jH hr h2 w).symm.trans (jH n k2 E)) ⟨h2,w,O.1,O.2,I,C.1,C.2,J,K⟩ ⟨k2,E,P.1,P.2⟩;by_cases h3:(under u).k=3
   ·have Q:(under v).k=3:=by omega
    obtain⟨c,e,y,D,F,_,hc,hy⟩:=hr.kq h3;obtain⟨c',e',y',R,o,_,m,PT⟩:=n.kq (by omega);rw[D]at R;cases R;rw[hc]at m;cases m;obtain⟨i1,i2⟩:=ih e (by rw[F];simp) (.inl h3) (j e' (by rw[o];simp) (.inl (by omega))) hy PT;exact⟨fun d=>by rw[iX (.inl h3),iX (.inl Q),F,o];simp[i1 d],by rw[mI (.inl h3),mI (.inl Q),F,o];simp[i2]⟩
   ·by_cases Z:(under u).k=5
    ·have S:(under v).k=5:=by omega
     obtain⟨c,a,a',cc,P0,f,xs,D,hc,_,_,_,T,_,A,B⟩:=hr.ks Z;obtain⟨c2,b1,P1,dd,P2,f',P3,R,m,_,_,_,G,_,q,r⟩:=n.ks (by omega);rw[D]at R;cases R;rw[hc]at m;have hl:(under u).es.length=(under v).es.length:=by injection m with k1;injection k1
     have ha:a=b1:=by injection m with k1;injection k1
     subst ha;have hi:∀i(h:i<(under u).es.length)(s:i<(under v).es.length),(∀d,bu d (under u).es[i]=bu d (under v).es[i])∧cR (under u).es[i]=cR (under v).es[i]:=fun i h s=>by
      have PU:f i=f' i:=qI (b9.unique T (by rw[hl];exact G) h);have g1:=(A i h).2.2.1;have g2:=(q i s).2.2.1;rw[←PU,g1]at g2;exact ih _ (List.getElem_mem h) (.inr Z) (j _ (List.getElem_mem s) (.inr (by omega))) (B i h) (by rw[Option.some.inj g2];exact r i s)
     have hm:∀d,(under u).es.map (bu d)=(under v).es.map (bu d):=fun d=>List.ext_getElem (by simp[hl]) fun i h s=>by simp only[List.length_map]at h s;simp[(hi i h s).1 d]
     have PV:(under u).es.map cR=(under v).es.map cR:=List.ext_getElem (by simp[hl]) fun i h s=>by simp only[List.length_map]at h s;simp[(hi i h s).2]
     refine⟨fun d=> ?_,by rw[mI (.inr Z),mI (.inr S),PV]⟩;rw[iX (.inr Z),iX (.inr S)];have:=congrArg (fun l=>l.all id) (hm d);simpa [List.all_map,Function.comp_def]using this
    ·have V:¬((under u).k=3∨(under u).k=5):=by omega
     have W:¬((under v).k=3∨(under v).k=5):=by omega
     exact⟨fun d=>by rw[iY V,iY W,PS],by rw[uD V,uD W]⟩
def ng(len:Nat)(p:Pm)(g:Ge)(d:Bool)(y:Value):Prop:=∀v,eh len v→TS.Node p g v y→bu d v=true
theorem DJ(len:Nat)(p:Pm)(g:Ge)(d:Bool){u:U}(hu:eh len u):∀(x:Value),TS.Node p g u x→
 (∀P:Value→Prop,(∀y,P y→∀v,eh len v→TS.Node p g v y→bu d v=true∨cR u<cR v)→f_ p g d (ng len p g d) P (bu d u) x)∧∀w:World,aw p g w→Calls Tryz.prog 166 #[x,.bool d,.map none] w (i_ (ng len p g d) (bu d u) (fun _=>none) none w):=by
 induction hu with
 | @mk u hv C S h2 D PW PX X E ih=>
   intro x J;have hu:eh len u:= .mk hv C S h2 D PW PX X E;have Y:=hv.bare.1.aE;have z:bu d u=true→ng len p g d x:=fun h v G H=>by rw[←(wj hu G J H).1 d];exact h
   have m:∀P:Value→Prop,(∀y,P y→∀v,eh len v→TS.Node p g v y→bu d v=true∨cR u<cR v)→P x∨ng len p g d x→bu d u=true:=fun P q h=>h.elim (fun h=>(q x h u hu J).resolve_right (Nat.lt_irrefl _)) fun h=>h u hu J;have hQ:∀P:Value→Prop,(∀y,P y→∀v,eh len v→TS.Node p g v y→bu d v=true∨cR u<cR v)→∀e,cR e<cR u→∀y,P y∨y=x→∀v,eh len v→TS.Node p g v y→bu d v=true∨cR e<cR v:=fun P q e he y T v G H=>by
    rcases T with T|rfl
    ·exact(q y T v G H).imp id fun h=>Nat.lt_trans he h
    ·right;rw[←(wj hu G J H).2];exact he
   have Z:∀y:Value,False→∀v,eh len v→TS.Node p g v y→bu d v=true∨cR u<cR v:=fun _ h=>h.elim;obtain⟨t,b,rt,s,rfl,o,hr⟩:=kD J (jz hv) S Y.1 Y.2;rcases hr with⟨_,hr⟩|⟨h,_⟩
   rotate_left
   ·exact absurd h X
   have k:=DH J;have l:∀w,aw p g w→Plain w b:=fun w r=>DI r J;have K:=C.aE;have PM:=jH hr h2 D;have hk:=(hr.tag h2 D).2;have PY:=mW hk.1 hk.2 h2 K.1 K.2 D;have A:= @iY d u;have Q:= @iX d u;have R:= @AL u;generalize under u=v at*;subst PM;rcases PY with h|h|h|h|h|h|h|h|h|h
   ·obtain⟨c,e,L⟩:=hr.kp h
    cases dK e;obtain⟨_,hF⟩:=C.form;have hb:=wg hF h;have PN:((v.n+1)==25)=false:=by simp;omega
    have j:bu d u=true:=by rw[A (by omega),h];rfl
    rw[h]at o;exact⟨fun P q=>Dv p g d _ P _ t b s k l (m P q) z (v.n+1) L PN j o,fun w r=>Dw p g d _ (fun _=>False) _ t b s w r k l z (v.n+1) L PN j o⟩
   ·obtain⟨c,e,y,e1,PO,_,L,T⟩:=hr.kq h
    cases dK e1;obtain⟨et,eb,rfl⟩:=T.val;have he:e∈v.es:=by rw[PO];simp
    have V:=(ih e he (.inl h) _ T).1;have PZ:bu d e=bu d u:=by rw[Q (.inl h),PO];simp
    rw[PZ]at V;rw[h]at o;exact⟨fun P q=>DD p g d _ P _ t b s k l (m P q) z et eb L (V _ (hQ P q e (R (.inl h) he))) o,fun w r=>DE p g d _ (fun _=>False) _ t b s w r k l z et eb L (V _ (hQ _ Z e (R (.inl h) he))) o⟩
   ·rw[h]at o
    have j:bu d u=false:=by rw[A (by omega),h];rfl
    exact⟨fun P q=>re p g d _ P _ t b s k l (m P q) z _ (by decide) (by decide) (by decide) (by decide) (by decide) (by decide) j o,fun w r=>rh p g d _ (fun _=>False) _ t b s w r k l z _ (by decide) (by decide) (by decide) (by decide) (by decide) (by decide) j o⟩
   ·obtain⟨c,a,a',cc,P1,f,xs,e1,L,_,_,M,N,_,I,B⟩:=hr.ks h
    cases dK e1;obtain⟨ft,fb,PQ⟩:=mX fun i hi=>(B i hi).val;have V:∀P:Value→Prop,(∀y,P y→∀v,eh len v→TS.Node p g v y→bu d v=true∨cR u<cR v)→∀i,i<v.es.length→f_ p g d (ng len p g d) (fun y=>P y∨y=ae t b) (bu d (v.es.getD i default)) (.iface (ft i) (.pointer (some ⟨fb i,0,none⟩))):=fun P q i hi=>by
     have hm:=List.getElem_mem hi;have:=(ih v.es[i] hm (.inr h) _ (B i hi)).1 _ (hQ P q _ (R (.inr h) hm));rw[PQ i hi]at this;rw[List.getD_eq_getElem?_getD,List.getElem?_eq_getElem hi];exact this
    have PR:∀i,i<v.es.length→p (f i) 3=some (.iface (ft i) (.pointer (some ⟨fb i,0,none⟩))):=fun i hi=>by
     have:=(I i hi).2.2.1;rw[PQ i hi]at this;exact this
    have PS:(∀i,i<v.es.length→bu d (v.es.getD i default)=true)→bu d u=true:=fun PT=>by
     rw[Q (.inr h),List.all_eq_true];intro e he;obtain⟨i,hi,rfl⟩:=List.getElem_of_mem he;have:=PT i hi;rwa [List.getD_eq_getElem?_getD,List.getElem?_eq_getElem hi]at this
    have PU:∀i,i<v.es.length→bu d (v.es.getD i default)=false→bu d u=false:=fun i hi S=>by
     rw[Q (.inr h),List.all_eq_false];refine⟨v.es[i],List.getElem_mem hi,?_⟩;rw[List.getD_eq_getElem?_getD,List.getElem?_eq_getElem hi]at S;simp only[Option.getD_some]at S;rw[S];decide
    rw[h]at o;exact⟨fun P q=>DB p g d _ P _ t b s k l (m P q) z _ _ _ f ft fb _ M L N PR (V P q) PS PU o,fun w r=>DC p g d _ (fun _=>False) _ t b s w r k l z _ _ _ f ft fb _ M L N PR (V _ Z) PS PU o⟩
   ·rw[h]at o
    have j:bu d u=true:=by rw[A (by omega),h];rfl
    exact⟨fun P q=>Dx p g d _ P _ t b s k l (m P q) z j o,fun w r=>Dy p g d _ (fun _=>False) _ t b s w r k l z j o⟩
   ·rw[h]at o
    have j:bu d u=false:=by rw[A (by omega),h];rfl
    exact⟨fun P q=>re p g d _ P _ t b s k l (m P q) z _ (by decide) (by decide) (by decide) (by decide) (by decide) (by decide) j o,fun w r=>rh p g d _ (fun _=>False) _ t b s w r k l z _ (by decide) (by decide) (by decide) (by decide) (by decide) (by decide) j o⟩
   ·rw[h]at o
    have j:bu d u=false:=by rw[A (by omega),h];rfl
    exact⟨fun P q=>re p g d _ P _ t b s k l (m P q) z _ (by decide) (by decide) (by decide) (by decide) (by decide) (by decide) j o,fun w r=>rh p g d _ (fun _=>False) _ t b s w r k l z _ (by decide) (by decide) (by decide) (by decide) (by decide) (by decide) j o⟩
   ·rw[h]at o
    have j:bu d u=true:=by rw[A (by omega),h];rfl
    exact⟨fun P q=>Dz p g d _ P _ t b s k l (m P q) z j o,fun w r=>DA p g d _ (fun _=>False) _ t b s w r k l z j o⟩
   ·obtain⟨c,e1,P0⟩:=hr.gT h
    cases dK e1;have j:bu d u=d:=by rw[A (by omega),h];cases d<;>rfl
    have PV:=fun W hW=>Du _ W hW hv J;have key:∀W,aw p g W→∃(tb tc:Nat)(ta:Option Addr)(O:Nat→Nat),p s 0=some (.pointer none)∧p s 6=some (ptr tb)∧p tb 2=some (.slice ta 1 tc)∧p tb 3=some (.bool false)∧b9 p ta 1 (fun i=>ptr (O i))∧p (O 0) 1=some .nilIface:=fun W r=>by
     obtain⟨ck,tb,ma,mc,f,ta,tc,ts,cmp,q6,q0,q1,qn,qm,qr,qf,q2,P2,P3,⟨O,tr,tt⟩,q3,tok,_⟩:=r.done _ _ P0;obtain⟨rfl,rfl⟩:=tok.gen C.val.gen;exact⟨tb,tc,ta,O,ck,q6,q2,q3,tr,tt 0 (by simp)⟩
    rw[h]at o;refine⟨fun P q mb w F r=> ?_,fun w r=> ?_⟩
    ·obtain⟨tb,tc,ta,O,k0,k6,k2,k3,kr,kt⟩:=key w r
     exact DF p g d _ P _ t b s k l (m P q) z tb tc ta O k0 k6 k2 k3 kr kt PV j o mb w F r
    ·obtain⟨tb,tc,ta,O,k0,k6,k2,k3,kr,kt⟩:=key w r
     exact DG p g d _ (fun _=>False) _ t b s w r k l z tb tc ta O k0 k6 k2 k3 kr kt PV j o
   ·omega
end Go.Proofs.YtdkmnkjhhhmglaaGreatDoor
namespace TS
open Go Go.RowKit Go.Proofs.YtdkmnkjhhhmglaaGreatDoor
theorem DL{w:World}{B:Nat}{e:TypeId}{g n cap:Nat}{xs:List Value}(h:w.ownsRow B e 1 (.slice (some ⟨g,0,none⟩) n cap) n xs){i:Nat}(hi:i≤n):w.ownsRow B e 1 (.slice (some ⟨g,0,none⟩) i cap) i (xs.take i):=by
 have m:=h.1;rcases h.2 with⟨b,_⟩|⟨o,f,cur,b,j,k,l,c,d,a⟩
 ·cases b
 ·cases b
  refine⟨by simp;omega,.inr ⟨g,cap,cur,rfl,j,k,by omega,c,d,?_⟩⟩;rw[←a,List.take_take];congr 1;omega
theorem Kept.toBelow{w a:World}(h:Kept (fun k=>(none:Option Nat)=some k) w a):Below w.heap.size w a:=⟨h.os,h.tape,h.output,h.size,fun k hk=>h.block k hk fun e=>by cases e⟩
structure gV(q:Pm)(g:Ge)(B n:Nat)(a:Option Addr)(b:Nat)(rs:List Nat)(M:List Tm)(wr:World)(k i:Nat)(L:List Nat)(S:List Tm):Prop where
 own:wr.ownsRow B 218 1 (.slice a n b) n (L.map pv)
 le:i≤k
 drop:L.drop k=rs.drop k
 len:S.length=i
 nh:S=(M.take k).filter gF
 cM:∀j(h:j<S.length),aY q g S[j] (L.getD j 0)
theorem gV.skip{q:Pm}{g:Ge}{B n:Nat}{a:Option Addr}{b:Nat}{rs:List Nat}{M:List Tm}{wr:World}{k i:Nat}{L:List Nat}{S:List Tm}(h:gV q g B n a b rs M wr k i L S)(hM:k<M.length)(c:gF M[k]=false):gV q g B n a b rs M wr (k+1) i L S where
 own:=h.own
 le:=by have:=h.le;omega
 drop:=by rw[←List.drop_drop,h.drop,List.drop_drop]
 len:=h.len
 nh:=by
  have e:M.take (k+1)=M.take k++ [M[k]]:=by rw[List.take_add_one,List.getElem?_eq_getElem hM];rfl
  rw[e,List.filter_append,←h.nh];simp[c]
 cM:=h.cM
theorem gV.below{q:Pm}{g:Ge}{B n:Nat}{a:Option Addr}{b:Nat}{rs:List Nat}{M:List Tm}{wr c:World}{k i:Nat}{L:List Nat}{S:List Tm}(h:gV q g B n a b rs M wr k i L S)(d:Below wr.heap.size wr c):gV q g B n a b rs M c k i L S:=
 {h with own:=bO h.own d}
theorem gV.take{q:Pm}{g:Ge}{B n b:Nat}{c:Nat}{rs:List Nat}{M:List Tm}{wr:World}{k i:Nat}{L:List Nat}{S:List Tm}(h:gV q g B n (some ⟨b,0,none⟩) c rs M wr k i L S)(hk:k<n)(p:L.length=n)(hM:k<M.length){z:Nat}(d:aY q g M[k] z)(f:gF M[k]=true):
 gV q g B n (some ⟨b,0,none⟩) c rs M (wr.setCell ⟨b,i,none⟩ (pv z)) (k+1) (i+1) (L.set i z) (S++ [M[k]]) where
 own:=by
  have:=(World.ownsRow.stored h.own i (pv z)).1;rwa [←List.map_set]at this
 le:=by have:=h.le;omega
 drop:=by
  have:=h.le;rw[List.drop_set_of_lt (by omega),←List.drop_drop,h.drop,List.drop_drop]
 len:=by simp[h.len]
 nh:=by
  have e:M.take (k+1)=M.take k++ [M[k]]:=by rw[List.take_add_one,List.getElem?_eq_getElem hM];rfl
  rw[e,List.filter_append,←h.nh];simp[f]
 cM:=fun j l=>by
  have m:=h.len;have hle:=h.le;simp only[List.length_append,List.length_cons,List.length_nil]at l;by_cases a:j<S.length
  ·rw[List.getElem_append_left a]
   have:=h.cM j a;rw[List.getD_eq_getElem?_getD,List.getElem?_set_ne (by omega),←List.getD_eq_getElem?_getD];exact this
  ·have o:j=S.length:=by omega
   subst o;rw[List.getElem_append_right (Nat.le_refl _)];simp only[Nat.sub_self,List.getElem_cons_zero];rw[m,List.getD_eq_getElem?_getD,List.getElem?_set_self (by omega)];exact d
end TS
namespace Go.Proofs.YtdkmnkjhhhmglaaGreatDoor
open Go.RowKit TS
def nj(p:Pm)(g:Ge)(R:List Tm×Bool)(w:World)(e:Ending)(a:World):Prop:=
 ∃q v rs,e= .returned (.tuple #[v,.bool R.2])∧aP p q w.heap.size∧aw q g a∧cD q g w.heap.size a v rs R.1∧Below w.heap.size w a∧∀b,v.ownBlock=some b→∀o,q b o=none
theorem DM(len:Nat)(p:Pm)(g:Ge)(a a':Option Addr)(n n' c c':Nat)(f f':Nat→Nat)(xs I:List Tm)(C J:Bool)(w:World)(hn:n=xs.length)(P9:n'=I.length)(hl:n≤1048576)(Qt:n'≤1048576)(hE:aw p g w)(hp:bw w a n f)(P_:bw w a' n' f')
 (ht:∀i(h:i<xs.length),aY p g xs[i] (f i))(Qa:∀i(h:i<I.length),aY p g I[i] (f' i))(ok:∀t∈xs,cJ len t)(Qb:∀t∈I,cJ len t)
 (PR:bc xs I= [none]∨(none ∉ bc xs I∧(bc xs I).length≤1048576))(PS:∀d e,some (d,e)∈bc xs I→eh len e):
 Calls Tryz.prog 127 #[.slice a n c,.bool C,.slice a' n' c',.bool J] w (nj p g (dp (xs,C) (I,J)) w):=by
 have hM:=Lib.hid (Ds len p g a a' n n' c c' f f' xs I w hn P9 hl Qt hE hp P_ ht Qa ok Qb);have Qu:Hid (5<w.heap.size):=World.block_lt_of_cell? _ _ (hE.cap 65 (by decide) (by decide));have PZ:=Lib.hid PR;have P0:=Lib.hid PS;clear hE hp P_ ht Qa ok Qb PR PS hn P9;have hR:dp (xs,C) (I,J)=if(C||J)&& !fv (bc xs I)then((bc xs I).filter gF,false)else(bc xs I,C||J):=rfl
 rw[hR];clear hR;generalize bc xs I=M at*;by_cases D:M= [none]
 ·
  have hA:Hid (M= [none]):=D;have U:fv M=true:=by rw[D];rfl
  rw[U];clear D U;cases hc:(C||J)
  ·have hx:C=false:=by cases C;rfl;cases hc
   have hy:J=false:=by cases J;rfl;rw[hx]at hc;cases hc
   subst hx;subst hy;go_enter Tryz.func127,Tryz.ntmps127;go_wp2_with fail
   refine hM.out.mono ?_;rintro e w1 ⟨q,v,rs,rfl,V,m,hT,Y,Q⟩;have s:Hid (nj p g (M,false) w (.returned (.tuple #[v,.bool false])) w1):=⟨q,v,rs,rfl,V,m,hT,Y,Q⟩
   clear V m hT Y Q hM;go_wp2_with fail
   refine(iI _).mono ?_;rintro e R ⟨rfl,rfl⟩;go_wp2_with fail
   go_ret2;exact s.out
  ·go_enter Tryz.func127,Tryz.ntmps127
   go_wp2_with fail
   refine hM.out.mono ?_;rintro e w1 ⟨q,v,rs,rfl,V,m,hT,Y,Q⟩;obtain⟨A,y,rfl⟩:=bn hT.own;obtain⟨q1,a1,c1,e1,PM,K,E,PN,N⟩:=nf m hT Q;have T:=hT.len;rw[hA.out]at T;have P:Hid (∀W,au w1 W→Calls Tryz.prog 151 #[.slice A rs.length y] W fun e w'=>e= .returned (.bool true)∧W=w'):=fun W hW=>by
    obtain⟨rfl,rfl⟩:A=a1∧y=c1:=by cases e1;exact⟨rfl,rfl⟩
    refine vE A rs.length y _ W (E.b_ hW) (by simp at T;omega) ?_;have:=N 0 (by rw[hA.out];simp);simp only[hA.out,List.getElem_cons_zero]at this;exact hW.cell (K.kw _ _ _ this)
   have s:Hid (nj p g (M,true) w (.returned (.tuple #[.slice A rs.length y,.bool true])) w1):=⟨q,_,rs,rfl,V,m,hT,Y,Q⟩
   clear V m hT Y Q hM e1 PM K E PN N T;have P1:C=true∨(C=false∧J=true):=by cases C<;>cases J<;>simp_all
   rcases P1 with rfl|⟨rfl,rfl⟩
   all_goals
    go_wp2_with fail
    refine(P.out _ (au.refl _)).mono ?_;rintro e R ⟨rfl,rfl⟩;go_wp2_with fail
    refine(P.out _ (au.refl _)).mono ?_;rintro e R ⟨rfl,rfl⟩;go_wp2_with fail
    refine(iI _).mono ?_;rintro e R ⟨rfl,rfl⟩;go_wp2_with fail
    go_ret2;exact s.out
 ·have PO:none ∉ M∧M.length≤1048576:=PZ.out.resolve_left D
  have U:fv M=false:=by
   unfold fv;rw[List.any_eq_false];intro t ht;cases t with
   |none=>exact absurd ht PO.1
   |some _=>exact Bool.false_ne_true
  rw[U];clear D U;cases hc:(C||J)
  ·have hx:C=false:=by cases C;rfl;cases hc
   have hy:J=false:=by cases J;rfl;rw[hx]at hc;cases hc
   subst hx;subst hy;go_enter Tryz.func127,Tryz.ntmps127;go_wp2_with fail
   refine hM.out.mono ?_;rintro e w1 ⟨q,v,rs,rfl,V,m,hT,Y,Q⟩;have s:Hid (nj p g (M,false) w (.returned (.tuple #[v,.bool false])) w1):=⟨q,v,rs,rfl,V,m,hT,Y,Q⟩
   clear V m hT Y Q hM;go_wp2_with fail
   refine(iI _).mono ?_;rintro e R ⟨rfl,rfl⟩;go_wp2_with fail
   go_ret2;exact s.out
  ·go_enter Tryz.func127,Tryz.ntmps127
   go_wp2_with fail
   refine hM.out.mono ?_;rintro e w1 ⟨q,v,rs,rfl,V,m,hT,Y,Q⟩;obtain⟨A,y,rfl⟩:=bn hT.own;have Qv:Hid (∀b,(Value.slice A rs.length y).ownBlock=some b→b≠5):=fun b hb e=>by
    have h1:=(hT.own.lt b hb).1;have:=Qu.out;omega
   obtain⟨q1,a1,c1,e1,PM,K,E,PN,N⟩:=nf m hT Q;have T:=hT.len;have P:Hid (Calls Tryz.prog 151 #[.slice A rs.length y] w1 fun e w'=>e= .returned (.bool false)∧w1=w'):=by
    obtain⟨rfl,rfl⟩:A=a1∧y=c1:=by cases e1;exact⟨rfl,rfl⟩
    refine vF A rs.length y _ w1 (by omega) E fun i hi=> ?_;have:=N i (by omega);cases F:M[i]'(by omega)with
    |none=>
     have hm:M[i]'(by omega)∈M:=List.getElem_mem (by omega);rw[F]at hm;exact absurd hm PO.1
    |some t=>
     rw[F]at this;obtain⟨_,x,h2,h3⟩:=this;obtain⟨t',b',rfl⟩:=h3.val;exact⟨_,_,K.kw _ _ _ h2⟩
   have Qc:=Lib.hid hT;have Qd:=Lib.hid m;have Qw:=Lib.hid Y;have Qe:=Lib.hid Q;have Qx:=Lib.hid V;have PT:=Lib.hid PO;have PU:=Lib.hid T;have QD:rs.length≤1048576:=by omega
   clear T;clear V m hT Y Q hM e1 PM K E PN N PO;have P1:C=true∨(C=false∧J=true):=by cases C<;>cases J<;>simp_all
   rcases P1 with rfl|⟨rfl,rfl⟩
   all_goals
    go_wp2_with fail
    refine P.out.mono ?_;rintro e R ⟨rfl,rfl⟩;go_wp2_with fail
    go_loopw [30,12] (fun vk vi wr=> ∃(k i:Nat)(L:List Nat)(S:List Tm),k≤rs.length∧vk= .int .i64 k∧vi= .int .i64 i∧L.length=rs.length∧gV q g w.heap.size rs.length A y rs M wr k i L S∧Below w.heap.size w wr∧aw q g wr) (fun vk _ _=>rs.length- (intOf vk).toNat)
    case atStart=>exact⟨0,0,rs,[],Nat.zero_le _,rfl,rfl,rfl,⟨Qc.out.own,Nat.le_refl _,rfl,rfl,rfl,fun j h=>absurd h (Nat.not_lt_zero _)⟩,Qw.out,Qd.out⟩
    case round=>
     obtain⟨k,i,L,S,hk,rfl,rfl,hL,hF,Qf,Qg⟩:=hrel;have r:=Lib.hid hF;have G:=Lib.hid Qf;have z:=Lib.hid Qg;have QE:=hF.le;clear hF Qf Qg;by_cases u:k<rs.length
     ·have QB:(k:Int)<rs.length:=by omega
      obtain⟨B,cap,e0,_,P2,QC,_⟩:=k_ r.out.own (by omega);cases e0;have Z:k<M.length:=by have:=PU.out;omega
      have Qh:L.getD k 0=rs[k]:=by
       have:=congrArg (fun l=>l[0]?) r.out.drop;simp only[List.getElem?_drop,Nat.add_zero]at this;rw[List.getD_eq_getElem?_getD,this];simp[u]
      have O:∀j,j<rs.length→wr.cell? ⟨B,j,none⟩=some (pv (L.getD j 0)):=fun j hj=>by
       rw[r.out.own.cellAt j (by omega)];simp[hL,hj]
      obtain⟨zk,P3,c1⟩:∃zk,aY q g M[k] zk∧wr.cell? ⟨B,k,none⟩=some (.pointer (some ⟨zk,0,none⟩)):=⟨rs[k],Qc.out.cM k Z u,by rw[←Qh];exact O k u⟩
      obtain⟨zi,c2⟩:∃zi,wr.cell? ⟨B,i,none⟩=some (.pointer (some ⟨zi,0,none⟩)):=⟨_,O i (by omega)⟩
      have c3:=r.out.own.frozenAt i;cases F:M[k]with
      |none=>
       have hm:M[k]∈M:=List.getElem_mem Z;rw[F]at hm;exact absurd hm PT.out.1
      |some t=>
       obtain⟨d,ev⟩:=t;have PV:=P3;rw[F]at PV;obtain⟨_,x,h2,h3⟩:=PV;obtain⟨xt,xb,rfl⟩:=h3.val;have c4:=z.out.kw _ _ _ h2;have P4:=Lib.hid ((DJ len q g false (P0.out d ev (by rw[←F];exact List.getElem_mem Z)) _ h3).2 wr z.out);have Qi:=Lib.hid P3;have Qj:gF M[k]=bu false ev:=by rw[F];rfl
       have PW:=Lib.hid Qj;clear O P3 h2 h3 F Qh Qj;have P5:=Lib.hid hL;clear hL;go_wp2_with fail
       refine(iI _).mono ?_;rintro e R ⟨rfl,rfl⟩;go_wp2_with fail
       refine P4.out.mono ?_;rintro e R ⟨⟨o,rfl,Qk⟩,Ql,_⟩;have PX:=Lib.hid Qk;clear Qk;have H:=Lib.hid Ql.toBelow;have d2:=ar H.out c2;have d3:R.frozen? ⟨B,i,none⟩=false:=TS.frozen_kept H.out P2 c3;clear Ql;cases o with
       |none=>
        have Qm:=r.out.below H.out;have Qy:Hid (gV q g w.heap.size rs.length (some ⟨B,0,none⟩) y rs M (R.setCell ⟨B,i,none⟩ (pv zk)) (k+1) (i+1) (L.set i zk) (S++ [M[k]])):=Qm.take u P5.out Z Qi.out (by rw[PW.out,PX.out];rfl);have Qn:Hid (w.heap.size≤B):=(r.out.own.lt B rfl).1;have Qz:Hid (aw q g (R.setCell ⟨B,i,none⟩ (pv zk))):=(z.out.below H.out).own (X:=fun b=>b=B) ((Kept.refl (fun b=>b=B) R).setCell (a:=⟨B,i,none⟩) (fun _=>rfl) _) (fun b e=>by subst e;exact Qe.out _ rfl) fun e=>Qv.out B rfl e.symm;clear Qm;go_wp2_with fail
        refine⟨⟨k+1,i+1,L.set i zk,S++ [M[k]],by omega,by go_num,by go_num,by simp[P5.out],Qy.out,(G.out.trans (H.out.mono G.out.size)).setCell Qn.out _,Qz.out⟩,?_⟩;first|omega|(simp[intOf];omega)
       |some o=>
        go_wp2_with fail
        refine⟨⟨k+1,i,L,S,by omega,by go_num,rfl,P5.out,(r.out.below H.out).skip Z (by rw[PW.out,PX.out];rfl),G.out.trans (H.out.mono G.out.size),z.out.below H.out⟩,?_⟩;first|omega|(simp[intOf];omega)
     ·have QF:¬(k:Int)<rs.length:=by omega
      have Qo:i≤rs.length:=by omega
      have PY:(∃B,A=some ⟨B,0,none⟩∧rs.length≤y∧B<wr.heap.size)∨(A=none∧y=0∧i=0):=by
       rcases r.out.own.2 with⟨e,h0⟩|⟨B,cap,cur,e,_,P2,QA,_⟩
       ·injection e with e1 e2 e3
        exact .inr ⟨e1,e3,by omega⟩
       ·cases e;exact .inl ⟨B,rfl,QA,(Array.getElem?_eq_some_iff.1 P2).1⟩
      have QG:i≤y:=by rcases PY with⟨_,_,h,_⟩|⟨_,_,h⟩<;>omega
      have QH:(i:Int)≤y:=by omega
      have PQ:cD q g w.heap.size wr (.slice A i y) (L.take i) S:=by
       have u:(L.take i).length=i:=by rw[List.length_take];omega
       refine⟨?_,by rw[u,r.out.len],fun j hj Qp=> ?_⟩
       ·rw[u]
        rcases PY with⟨B,rfl,_⟩|⟨rfl,rfl,rfl⟩
        ·have:=DL r.out.own Qo
         rwa [←List.map_take]at this
        ·simpa using World.ownsRow_nil wr w.heap.size 218 1
       ·have:=r.out.cM j hj
        rw[u]at Qp;have e:(L.take i)[j]'(by rw[u];exact Qp)=L.getD j 0:=by simp[show j<L.length by omega]
        rw[e];exact this
      have P6:S=M.filter gF:=by
       have:=PU.out;rw[r.out.nh,List.take_of_length_le (by omega)]
      have Qq:S.Sublist M:=by rw[P6];exact List.filter_sublist
      have P7:∀b,(Value.slice A i y).ownBlock=some b→∀o,q b o=none:=fun b hb=>Qe.out b (by cases A<;>simpa [Value.ownBlock]using hb);have s:Hid (nj p g (M.filter gF,false) w (.returned (.tuple #[.slice A i y,.bool false])) wr):=
       ⟨q,_,L.take i,rfl,Qx.out,z.out,by rw[P6]at PQ;exact PQ,G.out,P7⟩
      have P8:Hid (Calls Tryz.prog 151 #[.slice A i y] wr fun e w'=>e= .returned (.bool false)∧wr=w'):=by
       obtain⟨q1,a1,c1,e1,PM,K,E,PN,N⟩:=nf z.out PQ P7;have u:(L.take i).length=i:=by rw[List.length_take];omega
       rw[u]at e1 E;obtain⟨rfl,rfl⟩:A=a1∧y=c1:=by cases e1;exact⟨rfl,rfl⟩
       refine vF A i y _ wr (by omega) E fun j hj=> ?_;have Qr:j<S.length:=by rw[r.out.len];exact hj
       have:=N j Qr;cases Qs:S[j]with
       |none=>
        have hm:S[j]∈M:=Qq.subset (List.getElem_mem Qr);rw[Qs]at hm;exact absurd hm PT.out.1
       |some t=>
        rw[Qs]at this;obtain⟨_,x,h2,h3⟩:=this;obtain⟨t',b',rfl⟩:=h3.val;exact⟨_,_,K.kw _ _ _ h2⟩
      clear PQ Qq P7 hL P6;go_wp2_with fail
      refine P8.out.mono ?_;rintro e R ⟨rfl,rfl⟩;go_wp2_with fail
      refine(iI _).mono ?_;rintro e R ⟨rfl,rfl⟩;go_wp2_with fail
      go_ret2;exact s.out
end Go.Proofs.YtdkmnkjhhhmglaaGreatDoor
namespace TS
open Go Go.RowKit
theorem KeyLaw.mono{P:Program}{kt:TypeId}{K b:World→Value→Prop}(L:KeyLaw P kt K)(h:∀w v,b w v→K w v):KeyLaw P kt b:=
 ⟨fun w em _ a=>L.check w em (h _ _ a),fun w _ c es he=>L.find w (h _ _ c) es fun e m=>h _ _ (he e m),fun w _ a=>L.stays w (h _ _ a)⟩
def dQ(B:Nat)(w:World)(v:Value):Prop:=∃b,v= .pointer (some ⟨b,0,none⟩)∧b<B∧Plain w b
theorem wv{B:Nat}{w:World}{v:Value}(h:dQ B w v):qS w v:=let⟨b,e,_,a⟩:=h;⟨b,e,a⟩
theorem wC(B:Nat):mP (dQ B):=fun _ _ _ _ _ a hk _ ⟨x,e,b,h⟩=>⟨x,e,b,vl a hk h⟩
theorem cq.kH{B b:Nat}{w a:World}{F:Value→Option Value}(h:cq (dQ B) w b F){X:Nat→Prop}(k:Kept X w a)(g:¬X b)(i:∀c,c<B→¬X c):cq (dQ B) a b F:=
 h.of (k.block b h.lt g) fun v j=>by
  obtain⟨c,e,d,cs,T,f⟩:=j;exact⟨c,e,d,cs,T,by rw[k.block c (Array.getElem?_eq_some_iff.1 f).1 (i c d)];exact f⟩
end TS
namespace Go.Proofs.YtdkmnkjhhhmglaaGreatDoor
open Go.RowKit TS
theorem DU(t b:Nat)(a:t≠99)(w:World):Calls Tryz.prog 145 #[.iface t (.pointer (some ⟨b,0,none⟩))] w fun e c=>e= .returned (.bool false)∧w=c:=by
 have h1:=an bE t b a;clear a;go_enter Tryz.func145,Tryz.ntmps145;go_wp2_with fail
 go_ret;exact⟨rfl,rfl⟩
theorem DV(b:Nat)(k:Int)(hk:(k==0)=false)(w:World)(c:w.cell? ⟨b,0,none⟩=some (.int .i64 k)):Calls Tryz.prog 145 #[.iface 99 (.pointer (some ⟨b,0,none⟩))] w fun e a=>e= .returned (.bool false)∧w=a:=by
 have h1:=bd bE b;go_enter Tryz.func145,Tryz.ntmps145;go_wp2_with fail
 go_ret;exact⟨rfl,rfl⟩
theorem wD{p:Pm}{g:Ge}{u:U}{len:Nat}(t b:Nat)(w:World)(hw:KW p w)(hu:Vt len u)(h:TS.Node p g u (ae t b))(h2:u.k≠2)(d:u.k≠14):Calls Tryz.prog 95 #[.iface t (.pointer (some ⟨b,0,none⟩))] w fun e i=>e= .returned (.bool true)∧w=i:=by
 have a:=jH h h2 d;have f:=h.oB h2 d;rw[←a]at f;have j:=Lib.hid (d_ t (.pointer (some ⟨b,0,none⟩)) f w);have l:Hid (Calls Tryz.prog 145 #[.iface t (.pointer (some ⟨b,0,none⟩))] w fun e i=>e= .returned (.bool false)∧w=i):=by
  by_cases hk:u.k=1
  ·obtain⟨c,e,m⟩:=h.kp hk
   obtain⟨_,hF⟩:=hu.form;have:=wg hF hk;cases e;exact DV b (u.n+1) (by simp;omega) w (hw _ _ _ m)
  ·refine DU t b (fun e=>hk ?_) w
   rw[a]at e;have o:=(h.tag h2 d).2;have q:=hu.aE;have:99=bq 1:=rfl;rw[this]at e;exact(eO e.symm (by decide) (by omega)).symm
 clear a f h hu hw;go_enter Tryz.func95,Tryz.ntmps95;go_wp2_with fail
 refine j.out.mono ?_;rintro e i ⟨rfl,rfl⟩;go_wp2_with fail
 refine l.out.mono ?_;rintro e i ⟨rfl,rfl⟩;go_wp2_with fail
 go_ret;exact⟨rfl,rfl⟩
end Go.Proofs.YtdkmnkjhhhmglaaGreatDoor
