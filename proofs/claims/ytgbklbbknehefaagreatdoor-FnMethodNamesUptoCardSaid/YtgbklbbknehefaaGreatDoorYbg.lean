import Derived.Test.YtgbklbbknehefaaGreatDoorYbe
import Derived.Test.YtgbklbbknehefaaGreatDoorYbf
set_option maxRecDepth 100000
set_option maxHeartbeats 8000000
set_option linter.all false
namespace Go.Proofs.YtgbklbbknehefaaGreatDoor
open Go.RowKit TS
theorem iD{p:Pm}{g:Ge}{u:U}{rt c:Nat}(h:TS.Node p g u (ae rt c))(h2:u.k≠2)(a:u.k≠14):rt=ba u.k:=by
 obtain⟨⟨b,e⟩,_⟩:=h.tag h2 a;injection e
theorem A3{p:Pm}{g:Ge}{u:U}{t b:Nat}(h:TS.Node p g u (ae t b)):bM t:=by
 by_cases h2:u.k=2
 ·cases h with
  |alias _ ha _=>obtain⟨c,e,_⟩:=ha.start;injection e with e;rw[e];exact zK
  |_=>omega
 ·by_cases a:u.k=14
  ·cases h with
   |any _ d=>rw[iD d (by decide) (by decide)];exact oG _
   |_=>omega
  ·rw[iD h h2 a];exact oG _
theorem A4{p:Pm}{g:Ge}{u:U}{t b:Nat}{w:World}(a:an p g w)(h:TS.Node p g u (ae t b)):Plain w b:=by
 cases h with
 |alias _ ha _=>
  cases ha with
  |last _ h2 _=>exact a.pl _ _ _ h2
  |next h1 _ _ _=>exact a.pl _ _ _ h1
 |any _ d=>
  obtain⟨c,e,h⟩:=d.gN rfl;cases e;exact a.pl _ _ _ (a.done _ _ h).1
 |basic _ h=>exact a.pl _ _ _ h
 |array _ _ h _ _=>exact a.pl _ _ _ h
 |slice _ _ h _=>exact a.pl _ _ _ h
 |struct _ h=>exact a.pl _ _ _ h
 |pointer _ _ h _=>exact a.pl _ _ _ h
 |func _ _ h=>exact a.pl _ _ _ h
 |map _ _ h _ _ _=>exact a.pl _ _ _ h
 |chan _ _ h _ _=>exact a.pl _ _ _ h
 |iface _ h=>exact a.pl _ _ _ (a.done _ _ h).1
 |gm _ _ _ _ h=>exact a.pl _ _ _ h
 |named _ _ _ _ h=>exact a.pl _ _ _ h
 |union _ h=>exact a.pl _ _ _ h
 |err _ _ h=>exact a.pl _ _ _ h
 |comp _ h=>exact a.pl _ _ _ h
theorem sM{len:Nat}{u:U}{pos f:Nat}(h:TS.Form len u pos f)(hk:u.k=1):0≤u.n∧u.n<18:=by
 cases h with
 |basic _ a b _=>exact⟨a,b⟩
 |pre a _=>omega
 |one a _ _=>omega
 |ptr a _ _ _=>omega
 |_=>omega
theorem sN{len:Nat}{p:Pm}{g:Ge}{u:U}{x:Value}(hu:dE len u)(H:TS.Node p g u x):∃t b rt d,t≠139∧(x=ae t b∨AC p x (ae t b))∧(t=66→p b 6=some (ae rt d))∧(t≠66→ae rt d=ae t b)∧TS.Node p g (under u) (ae rt d):=by
 cases hu with
 |mk F I J h2 K v L w r=>
 obtain⟨b,c,f,A⟩:=F.strip H;obtain⟨aa,B,l,_⟩:=F.bare;have M:=aa.aA;by_cases h:(bare u).k=11
 ·obtain⟨y,C,_⟩:=J h
  obtain⟨e,_,_,_,i⟩:=c.iu h;rcases i with G|⟨P,z,m,D,o⟩
  ·rw[C]at G;cases G
  ·rw[C]at m;cases m
   obtain⟨rt,d,rfl⟩:=o.val;have a:ae (ba (bare u).k) b=ae 66 (g.nb (bare u).n.toNat):=e;have E:b=g.nb (bare u).n.toNat:=by injection a with _ a;injection a with a;injection a with a;injection a
   exact⟨_,b,rt,d,f,A,fun _=>by rw[E];exact D.2.1,fun j=>absurd (by rw[h];rfl) j,by rw[gY h C];exact o⟩
 ·by_cases s:(bare u).k=15
  ·obtain⟨e,i,_,z,D,o⟩:=c.jK s
   obtain⟨rt,d,rfl⟩:=o.val;have a:ae (ba (bare u).k) b=ae 66 g.eb:=e;have E:b=g.eb:=by injection a with _ a;injection a with a;injection a with a;injection a
   exact⟨_,b,rt,d,f,A,fun _=>by rw[E];exact D.2.1,fun j=>absurd (by rw[s];rfl) j,by rw[gZ s i];exact o⟩
  ·have q:=gh h s
   have N:=(c.tag B l).2;refine⟨_,b,_,b,f,A,fun e=> ?_,fun _=>rfl,by rw[q];exact c⟩;exfalso;have O:ba (bare u).k=ba 11:=e;rw[q]at w v;exact h (dT O (by omega) (by decide))
theorem sP{len:Nat}{p:Pm}{g:Ge}{u:U}(hu:dE len u):∀{v:U}{x:Value},dE len v→TS.Node p g u x→TS.Node p g v x→(∀d,bz d u=bz d v)∧cu u=cu v:=by
 induction hu with
 | @mk u hv H hf h2 w I J K z ih=>
   intro v x kv hn kn;obtain⟨t,b,rt,rb,ht,X,P4,P5,hr⟩:=sN (.mk hv H hf h2 w I J K z) hn;obtain⟨t',b',P6,P7,P8,L,M,N,n⟩:=sN kv kn;have e:ae t b=ae t' b':=by
    rcases X with rfl|X
    ·rcases L with e|kx
     ·exact e
     ·obtain⟨_,e,_⟩:=kx.start;injection e with D;exact absurd D ht
    ·rcases L with rfl|kx
     ·obtain⟨_,e,_⟩:=X.start;injection e with D;exact absurd D P8
     ·exact X.unique kx
   obtain rfl:t=t':=by injection e
   obtain rfl:b=b':=by injection e with _ e;injection e with e;injection e with e;injection e
   have er:ae rt rb=ae P6 P7:=by
    by_cases Y:t=66
    ·have:=P4 Y;rw[M Y]at this;exact(Option.some.inj this).symm
    ·rw[P5 Y,N Y]
   rw[←er]at n;cases kv with
   |mk kv Qc kf k2 E Qd Qe Qf j=>
   have C:=H.aA;have O:=(hr.tag h2 w).2;have P:=(n.tag k2 E).2;have P9:(under u).k=(under v).k:=dT ((iD hr h2 w).symm.trans (iD n k2 E)) ⟨h2,w,O.1,O.2,I,C.1,C.2,J,K⟩ ⟨k2,E,P.1,P.2⟩;by_cases h3:(under u).k=3
   ·have Q:(under v).k=3:=by omega
    obtain⟨c,e,y,D,F,_,hc,hy⟩:=hr.jg h3;obtain⟨c',e',y',R,o,_,m,P_⟩:=n.jg (by omega);rw[D]at R;cases R;rw[hc]at m;cases m;obtain⟨i1,i2⟩:=ih e (by rw[F];simp) (.inl h3) (j e' (by rw[o];simp) (.inl (by omega))) hy P_;exact⟨fun d=>by rw[kB (.inl h3),kB (.inl Q),F,o];simp[i1 d],by rw[kC (.inl h3),kC (.inl Q),F,o];simp[i2]⟩
   ·by_cases Z:(under u).k=5
    ·have S:(under v).k=5:=by omega
     obtain⟨c,a,a',cc,Qg,f,xs,D,hc,_,_,_,T,_,A,B⟩:=hr.jh Z;obtain⟨c2,b1,Qh,dd,Qi,f',Qj,R,m,_,_,_,G,_,q,r⟩:=n.jh (by omega);rw[D]at R;cases R;rw[hc]at m;have hl:(under u).es.length=(under v).es.length:=by injection m with k1;injection k1
     have ha:a=b1:=by injection m with k1;injection k1
     subst ha;have hi:∀i(h:i<(under u).es.length)(s:i<(under v).es.length),(∀d,bz d (under u).es[i]=bz d (under v).es[i])∧cu (under u).es[i]=cu (under v).es[i]:=fun i h s=>by
      have Qa:f i=f' i:=oh (bK.unique T (by rw[hl];exact G) h);have g1:=(A i h).2.2.1;have g2:=(q i s).2.2.1;rw[←Qa,g1]at g2;exact ih _ (List.getElem_mem h) (.inr Z) (j _ (List.getElem_mem s) (.inr (by omega))) (B i h) (by rw[Option.some.inj g2];exact r i s)
     have hm:∀d,(under u).es.map (bz d)=(under v).es.map (bz d):=fun d=>List.ext_getElem (by simp[hl]) fun i h s=>by simp only[List.length_map]at h s;simp[(hi i h s).1 d]
     have Qb:(under u).es.map cu=(under v).es.map cu:=List.ext_getElem (by simp[hl]) fun i h s=>by simp only[List.length_map]at h s;simp[(hi i h s).2]
     refine⟨fun d=> ?_,by rw[kC (.inr Z),kC (.inr S),Qb]⟩;rw[kB (.inr Z),kB (.inr S)];have:=congrArg (fun l=>l.all id) (hm d);simpa [List.all_map,Function.comp_def]using this
    ·have V:¬((under u).k=3∨(under u).k=5):=by omega
     have W:¬((under v).k=3∨(under v).k=5):=by omega
     exact⟨fun d=>by rw[od V,od W,P9],by rw[rk V,rk W]⟩
def kW(len:Nat)(p:Pm)(g:Ge)(d:Bool)(y:Value):Prop:=∀v,dE len v→TS.Node p g v y→bz d v=true
theorem A5(len:Nat)(p:Pm)(g:Ge)(d:Bool){u:U}(hu:dE len u):∀(x:Value),TS.Node p g u x→
 (∀P:Value→Prop,(∀y,P y→∀v,dE len v→TS.Node p g v y→bz d v=true∨cu u<cu v)→e_ p g d (kW len p g d) P (bz d u) x)∧∀w:World,an p g w→Calls Tryz.prog 149 #[x,.bool d,.map none] w (gQ (kW len p g d) (bz d u) (fun _=>none) none w):=by
 induction hu with
 | @mk u hv C S h2 D Qc Qd X E ih=>
   intro x J;have hu:dE len u:= .mk hv C S h2 D Qc Qd X E;have Y:=hv.bare.1.aA;have z:bz d u=true→kW len p g d x:=fun h v G H=>by rw[←(sP hu G J H).1 d];exact h
   have m:∀P:Value→Prop,(∀y,P y→∀v,dE len v→TS.Node p g v y→bz d v=true∨cu u<cu v)→P x∨kW len p g d x→bz d u=true:=fun P q h=>h.elim (fun h=>(q x h u hu J).resolve_right (Nat.lt_irrefl _)) fun h=>h u hu J;have hQ:∀P:Value→Prop,(∀y,P y→∀v,dE len v→TS.Node p g v y→bz d v=true∨cu u<cu v)→∀e,cu e<cu u→∀y,P y∨y=x→∀v,dE len v→TS.Node p g v y→bz d v=true∨cu e<cu v:=fun P q e he y T v G H=>by
    rcases T with T|rfl
    ·exact(q y T v G H).imp id fun h=>Nat.lt_trans he h
    ·right;rw[←(sP hu G J H).2];exact he
   have Z:∀y:Value,False→∀v,dE len v→TS.Node p g v y→bz d v=true∨cu u<cu v:=fun _ h=>h.elim;obtain⟨t,b,rt,s,rfl,o,hr⟩:=iA J (iv hv) S Y.1 Y.2;rcases hr with⟨_,hr⟩|⟨h,_⟩
   rotate_left
   ·exact absurd h X
   have k:=A3 J;have l:∀w,an p g w→Plain w b:=fun w r=>A4 r J;have K:=C.aA;have P4:=iD hr h2 D;have hk:=(hr.tag h2 D).2;have Qe:=kQ hk.1 hk.2 h2 K.1 K.2 D;have A:= @od d u;have Q:= @kB d u;have R:= @xq u;generalize under u=v at*;subst P4;rcases Qe with h|h|h|h|h|h|h|h|h|h
   ·obtain⟨c,e,L⟩:=hr.jf h
    cases c_ e;obtain⟨_,hF⟩:=C.form;have hb:=sM hF h;have P5:((v.n+1)==25)=false:=by simp;omega
    have j:bz d u=true:=by rw[A (by omega),h];rfl
    rw[h]at o;exact⟨fun P q=>AR p g d _ P _ t b s k l (m P q) z (v.n+1) L P5 j o,fun w r=>AS p g d _ (fun _=>False) _ t b s w r k l z (v.n+1) L P5 j o⟩
   ·obtain⟨c,e,y,e1,P6,_,L,T⟩:=hr.jg h
    cases c_ e1;obtain⟨et,eb,rfl⟩:=T.val;have he:e∈v.es:=by rw[P6];simp
    have V:=(ih e he (.inl h) _ T).1;have Qf:bz d e=bz d u:=by rw[Q (.inl h),P6];simp
    rw[Qf]at V;rw[h]at o;exact⟨fun P q=>AZ p g d _ P _ t b s k l (m P q) z et eb L (V _ (hQ P q e (R (.inl h) he))) o,fun w r=>A0 p g d _ (fun _=>False) _ t b s w r k l z et eb L (V _ (hQ _ Z e (R (.inl h) he))) o⟩
   ·rw[h]at o
    have j:bz d u=false:=by rw[A (by omega),h];rfl
    exact⟨fun P q=>oM p g d _ P _ t b s k l (m P q) z _ (by decide) (by decide) (by decide) (by decide) (by decide) (by decide) j o,fun w r=>oN p g d _ (fun _=>False) _ t b s w r k l z _ (by decide) (by decide) (by decide) (by decide) (by decide) (by decide) j o⟩
   ·obtain⟨c,a,a',cc,Qh,f,xs,e1,L,_,_,M,N,_,I,B⟩:=hr.jh h
    cases c_ e1;obtain⟨ft,fb,P7⟩:=kR fun i hi=>(B i hi).val;have V:∀P:Value→Prop,(∀y,P y→∀v,dE len v→TS.Node p g v y→bz d v=true∨cu u<cu v)→∀i,i<v.es.length→e_ p g d (kW len p g d) (fun y=>P y∨y=ae t b) (bz d (v.es.getD i default)) (.iface (ft i) (.pointer (some ⟨fb i,0,none⟩))):=fun P q i hi=>by
     have hm:=List.getElem_mem hi;have:=(ih v.es[i] hm (.inr h) _ (B i hi)).1 _ (hQ P q _ (R (.inr h) hm));rw[P7 i hi]at this;rw[List.getD_eq_getElem?_getD,List.getElem?_eq_getElem hi];exact this
    have P8:∀i,i<v.es.length→p (f i) 3=some (.iface (ft i) (.pointer (some ⟨fb i,0,none⟩))):=fun i hi=>by
     have:=(I i hi).2.2.1;rw[P7 i hi]at this;exact this
    have P9:(∀i,i<v.es.length→bz d (v.es.getD i default)=true)→bz d u=true:=fun P_=>by
     rw[Q (.inr h),List.all_eq_true];intro e he;obtain⟨i,hi,rfl⟩:=List.getElem_of_mem he;have:=P_ i hi;rwa [List.getD_eq_getElem?_getD,List.getElem?_eq_getElem hi]at this
    have Qa:∀i,i<v.es.length→bz d (v.es.getD i default)=false→bz d u=false:=fun i hi S=>by
     rw[Q (.inr h),List.all_eq_false];refine⟨v.es[i],List.getElem_mem hi,?_⟩;rw[List.getD_eq_getElem?_getD,List.getElem?_eq_getElem hi]at S;simp only[Option.getD_some]at S;rw[S];decide
    rw[h]at o;exact⟨fun P q=>AX p g d _ P _ t b s k l (m P q) z _ _ _ f ft fb _ M L N P8 (V P q) P9 Qa o,fun w r=>AY p g d _ (fun _=>False) _ t b s w r k l z _ _ _ f ft fb _ M L N P8 (V _ Z) P9 Qa o⟩
   ·rw[h]at o
    have j:bz d u=true:=by rw[A (by omega),h];rfl
    exact⟨fun P q=>AT p g d _ P _ t b s k l (m P q) z j o,fun w r=>AU p g d _ (fun _=>False) _ t b s w r k l z j o⟩
   ·rw[h]at o
    have j:bz d u=false:=by rw[A (by omega),h];rfl
    exact⟨fun P q=>oM p g d _ P _ t b s k l (m P q) z _ (by decide) (by decide) (by decide) (by decide) (by decide) (by decide) j o,fun w r=>oN p g d _ (fun _=>False) _ t b s w r k l z _ (by decide) (by decide) (by decide) (by decide) (by decide) (by decide) j o⟩
   ·rw[h]at o
    have j:bz d u=false:=by rw[A (by omega),h];rfl
    exact⟨fun P q=>oM p g d _ P _ t b s k l (m P q) z _ (by decide) (by decide) (by decide) (by decide) (by decide) (by decide) j o,fun w r=>oN p g d _ (fun _=>False) _ t b s w r k l z _ (by decide) (by decide) (by decide) (by decide) (by decide) (by decide) j o⟩
   ·rw[h]at o
    have j:bz d u=true:=by rw[A (by omega),h];rfl
    exact⟨fun P q=>AV p g d _ P _ t b s k l (m P q) z j o,fun w r=>AW p g d _ (fun _=>False) _ t b s w r k l z j o⟩
   ·obtain⟨c,e1,Qg⟩:=hr.gN h
    cases c_ e1;have j:bz d u=d:=by rw[A (by omega),h];cases d<;>rfl
    have Qb:=fun W hW=>AQ _ W hW hv J;have key:∀W,an p g W→∃(tb tc:Nat)(ta:Option Addr)(O:Nat→Nat),p s 0=some (.pointer none)∧p s 6=some (ptr tb)∧p tb 2=some (.slice ta 1 tc)∧p tb 3=some (.bool false)∧bK p ta 1 (fun i=>ptr (O i))∧p (O 0) 1=some .nilIface:=fun W r=>by
     obtain⟨ck,tb,ma,mc,f,ta,tc,ts,cmp,q6,q0,q1,qn,qm,qr,qf,q2,Qi,Qj,⟨O,tr,tt⟩,q3,tok,_⟩:=r.done _ _ Qg;obtain⟨rfl,rfl⟩:=tok.gen C.val.gen;exact⟨tb,tc,ta,O,ck,q6,q2,q3,tr,tt 0 (by simp)⟩
    rw[h]at o;refine⟨fun P q mb w F r=> ?_,fun w r=> ?_⟩
    ·obtain⟨tb,tc,ta,O,k0,k6,k2,k3,kr,kt⟩:=key w r
     exact A1 p g d _ P _ t b s k l (m P q) z tb tc ta O k0 k6 k2 k3 kr kt Qb j o mb w F r
    ·obtain⟨tb,tc,ta,O,k0,k6,k2,k3,kr,kt⟩:=key w r
     exact A2 p g d _ (fun _=>False) _ t b s w r k l z tb tc ta O k0 k6 k2 k3 kr kt Qb j o
   ·omega
end Go.Proofs.YtgbklbbknehefaaGreatDoor
namespace TS
open Go Go.RowKit Go.Proofs.YtgbklbbknehefaaGreatDoor
theorem A7{w:World}{B:Nat}{e:TypeId}{g n cap:Nat}{xs:List Value}(h:w.ownsRow B e 1 (.slice (some ⟨g,0,none⟩) n cap) n xs){i:Nat}(hi:i≤n):w.ownsRow B e 1 (.slice (some ⟨g,0,none⟩) i cap) i (xs.take i):=by
 have m:=h.1;rcases h.2 with⟨b,_⟩|⟨o,f,cur,b,j,k,l,c,d,a⟩
 ·cases b
 ·cases b
  refine⟨by simp;omega,.inr ⟨g,cap,cur,rfl,j,k,by omega,c,d,?_⟩⟩;rw[←a,List.take_take];congr 1;omega
theorem Kept.toBelow{w a:World}(h:Kept (fun k=>(none:Option Nat)=some k) w a):Below w.heap.size w a:=⟨h.os,h.tape,h.output,h.size,fun k hk=>h.block k hk fun e=>by cases e⟩
structure fX(q:Pm)(g:Ge)(B n:Nat)(a:Option Addr)(b:Nat)(rs:List Nat)(M:List Tm)(wr:World)(k i:Nat)(L:List Nat)(S:List Tm):Prop where
 own:wr.ownsRow B 191 1 (.slice a n b) n (L.map pv)
 le:i≤k
 drop:L.drop k=rs.drop k
 len:S.length=i
 kX:S=(M.take k).filter gw
 cd:∀j(h:j<S.length),aY q g S[j] (L.getD j 0)
theorem fX.skip{q:Pm}{g:Ge}{B n:Nat}{a:Option Addr}{b:Nat}{rs:List Nat}{M:List Tm}{wr:World}{k i:Nat}{L:List Nat}{S:List Tm}(h:fX q g B n a b rs M wr k i L S)(hM:k<M.length)(c:gw M[k]=false):fX q g B n a b rs M wr (k+1) i L S where
 own:=h.own
 le:=by have:=h.le;omega
 drop:=by rw[←List.drop_drop,h.drop,List.drop_drop]
 len:=h.len
 kX:=by
  have e:M.take (k+1)=M.take k++ [M[k]]:=by rw[List.take_add_one,List.getElem?_eq_getElem hM];rfl
  rw[e,List.filter_append,←h.kX];simp[c]
 cd:=h.cd
theorem fX.below{q:Pm}{g:Ge}{B n:Nat}{a:Option Addr}{b:Nat}{rs:List Nat}{M:List Tm}{wr c:World}{k i:Nat}{L:List Nat}{S:List Tm}(h:fX q g B n a b rs M wr k i L S)(d:Below wr.heap.size wr c):fX q g B n a b rs M c k i L S:=
 {h with own:=bq h.own d}
theorem fX.take{q:Pm}{g:Ge}{B n b:Nat}{c:Nat}{rs:List Nat}{M:List Tm}{wr:World}{k i:Nat}{L:List Nat}{S:List Tm}(h:fX q g B n (some ⟨b,0,none⟩) c rs M wr k i L S)(hk:k<n)(p:L.length=n)(hM:k<M.length){z:Nat}(d:aY q g M[k] z)(f:gw M[k]=true):
 fX q g B n (some ⟨b,0,none⟩) c rs M (wr.setCell ⟨b,i,none⟩ (pv z)) (k+1) (i+1) (L.set i z) (S++ [M[k]]) where
 own:=by
  have:=(World.ownsRow.stored h.own i (pv z)).1;rwa [←List.map_set]at this
 le:=by have:=h.le;omega
 drop:=by
  have:=h.le;rw[List.drop_set_of_lt (by omega),←List.drop_drop,h.drop,List.drop_drop]
 len:=by simp[h.len]
 kX:=by
  have e:M.take (k+1)=M.take k++ [M[k]]:=by rw[List.take_add_one,List.getElem?_eq_getElem hM];rfl
  rw[e,List.filter_append,←h.kX];simp[f]
 cd:=fun j l=>by
  have m:=h.len;have hle:=h.le;simp only[List.length_append,List.length_cons,List.length_nil]at l;by_cases a:j<S.length
  ·rw[List.getElem_append_left a]
   have:=h.cd j a;rw[List.getD_eq_getElem?_getD,List.getElem?_set_ne (by omega),←List.getD_eq_getElem?_getD];exact this
  ·have o:j=S.length:=by omega
   subst o;rw[List.getElem_append_right (Nat.le_refl _)];simp only[Nat.sub_self,List.getElem_cons_zero];rw[m,List.getD_eq_getElem?_getD,List.getElem?_set_self (by omega)];exact d
end TS
namespace Go.Proofs.YtgbklbbknehefaaGreatDoor
open Go.RowKit TS
def kY(p:Pm)(g:Ge)(R:List Tm×Bool)(w:World)(e:Ending)(a:World):Prop:=
 ∃q v rs,e= .returned (.tuple #[v,.bool R.2])∧aK p q w.heap.size∧an q g a∧bZ q g w.heap.size a v rs R.1∧Below w.heap.size w a∧∀b,v.ownBlock=some b→∀o,q b o=none
theorem A8(len:Nat)(p:Pm)(g:Ge)(a a':Option Addr)(n n' c c':Nat)(f f':Nat→Nat)(xs I:List Tm)(C J:Bool)(w:World)(hn:n=xs.length)(Qp:n'=I.length)(hl:n≤1048576)(QK:n'≤1048576)(hE:an p g w)(hp:bj w a n f)(Qq:bj w a' n' f')
 (ht:∀i(h:i<xs.length),aY p g xs[i] (f i))(Qr:∀i(h:i<I.length),aY p g I[i] (f' i))(ok:∀t∈xs,dt len t)(Qs:∀t∈I,dt len t)
 (P8:bS xs I= [none]∨(none ∉ bS xs I∧(bS xs I).length≤1048576))(P9:∀d e,some (d,e)∈bS xs I→dE len e):
 Calls Tryz.prog 112 #[.slice a n c,.bool C,.slice a' n' c',.bool J] w (kY p g (eX (xs,C) (I,J)) w):=by
 have hM:=Lib.hid (AO len p g a a' n n' c c' f f' xs I w hn Qp hl QK hE hp Qq ht Qr ok Qs);have QL:Hid (5<w.heap.size):=World.block_lt_of_cell? _ _ (hE.cap 65 (by decide) (by decide));have Qf:=Lib.hid P8;have Qg:=Lib.hid P9;clear hE hp Qq ht Qr ok Qs P8 P9 hn Qp;have hR:eX (xs,C) (I,J)=if(C||J)&& !gq (bS xs I)then((bS xs I).filter gw,false)else(bS xs I,C||J):=rfl
 rw[hR];clear hR;generalize bS xs I=M at*;by_cases D:M= [none]
 ·
  have hA:Hid (M= [none]):=D;have U:gq M=true:=by rw[D];rfl
  rw[U];clear D U;cases hc:(C||J)
  ·have hx:C=false:=by cases C;rfl;cases hc
   have hy:J=false:=by cases J;rfl;rw[hx]at hc;cases hc
   subst hx;subst hy;go_enter Tryz.func112,Tryz.ntmps112;go_wp2_with fail
   refine hM.out.mono ?_;rintro e w1 ⟨q,v,rs,rfl,V,m,hT,Y,Q⟩;have s:Hid (kY p g (M,false) w (.returned (.tuple #[v,.bool false])) w1):=⟨q,v,rs,rfl,V,m,hT,Y,Q⟩
   clear V m hT Y Q hM;go_wp2_with fail
   refine(gA _).mono ?_;rintro e R ⟨rfl,rfl⟩;go_wp2_with fail
   go_ret2;exact s.out
  ·go_enter Tryz.func112,Tryz.ntmps112
   go_wp2_with fail
   refine hM.out.mono ?_;rintro e w1 ⟨q,v,rs,rfl,V,m,hT,Y,Q⟩;obtain⟨A,y,rfl⟩:=aZ hT.own;obtain⟨q1,a1,c1,e1,P4,K,E,P5,N⟩:=kV m hT Q;have T:=hT.len;rw[hA.out]at T;have P:Hid (∀W,aq w1 W→Calls Tryz.prog 148 #[.slice A rs.length y] W fun e w'=>e= .returned (.bool true)∧W=w'):=fun W hW=>by
    obtain⟨rfl,rfl⟩:A=a1∧y=c1:=by cases e1;exact⟨rfl,rfl⟩
    refine sf A rs.length y _ W (E.cC hW) (by simp at T;omega) ?_;have:=N 0 (by rw[hA.out];simp);simp only[hA.out,List.getElem_cons_zero]at this;exact hW.cell (K.kw _ _ _ this)
   have s:Hid (kY p g (M,true) w (.returned (.tuple #[.slice A rs.length y,.bool true])) w1):=⟨q,_,rs,rfl,V,m,hT,Y,Q⟩
   clear V m hT Y Q hM e1 P4 K E P5 N T;have Qh:C=true∨(C=false∧J=true):=by cases C<;>cases J<;>simp_all
   rcases Qh with rfl|⟨rfl,rfl⟩
   all_goals
    go_wp2_with fail
    refine(P.out _ (aq.refl _)).mono ?_;rintro e R ⟨rfl,rfl⟩;go_wp2_with fail
    refine(P.out _ (aq.refl _)).mono ?_;rintro e R ⟨rfl,rfl⟩;go_wp2_with fail
    refine(gA _).mono ?_;rintro e R ⟨rfl,rfl⟩;go_wp2_with fail
    go_ret2;exact s.out
 ·have P6:none ∉ M∧M.length≤1048576:=Qf.out.resolve_left D
  have U:gq M=false:=by
   unfold gq;rw[List.any_eq_false];intro t ht;cases t with
   |none=>exact absurd ht P6.1
   |some _=>exact Bool.false_ne_true
  rw[U];clear D U;cases hc:(C||J)
  ·have hx:C=false:=by cases C;rfl;cases hc
   have hy:J=false:=by cases J;rfl;rw[hx]at hc;cases hc
   subst hx;subst hy;go_enter Tryz.func112,Tryz.ntmps112;go_wp2_with fail
   refine hM.out.mono ?_;rintro e w1 ⟨q,v,rs,rfl,V,m,hT,Y,Q⟩;have s:Hid (kY p g (M,false) w (.returned (.tuple #[v,.bool false])) w1):=⟨q,v,rs,rfl,V,m,hT,Y,Q⟩
   clear V m hT Y Q hM;go_wp2_with fail
   refine(gA _).mono ?_;rintro e R ⟨rfl,rfl⟩;go_wp2_with fail
   go_ret2;exact s.out
  ·go_enter Tryz.func112,Tryz.ntmps112
   go_wp2_with fail
   refine hM.out.mono ?_;rintro e w1 ⟨q,v,rs,rfl,V,m,hT,Y,Q⟩;obtain⟨A,y,rfl⟩:=aZ hT.own;have QM:Hid (∀b,(Value.slice A rs.length y).ownBlock=some b→b≠5):=fun b hb e=>by
    have h1:=(hT.own.lt b hb).1;have:=QL.out;omega
   obtain⟨q1,a1,c1,e1,P4,K,E,P5,N⟩:=kV m hT Q;have T:=hT.len;have P:Hid (Calls Tryz.prog 148 #[.slice A rs.length y] w1 fun e w'=>e= .returned (.bool false)∧w1=w'):=by
    obtain⟨rfl,rfl⟩:A=a1∧y=c1:=by cases e1;exact⟨rfl,rfl⟩
    refine sh A rs.length y _ w1 (by omega) E fun i hi=> ?_;have:=N i (by omega);cases F:M[i]'(by omega)with
    |none=>
     have hm:M[i]'(by omega)∈M:=List.getElem_mem (by omega);rw[F]at hm;exact absurd hm P6.1
    |some t=>
     rw[F]at this;obtain⟨_,x,h2,h3⟩:=this;obtain⟨t',b',rfl⟩:=h3.val;exact⟨_,_,K.kw _ _ _ h2⟩
   have Qt:=Lib.hid hT;have Qu:=Lib.hid m;have QN:=Lib.hid Y;have Qv:=Lib.hid Q;have QO:=Lib.hid V;have P_:=Lib.hid P6;have Qa:=Lib.hid T;have QU:rs.length≤1048576:=by omega
   clear T;clear V m hT Y Q hM e1 P4 K E P5 N P6;have Qh:C=true∨(C=false∧J=true):=by cases C<;>cases J<;>simp_all
   rcases Qh with rfl|⟨rfl,rfl⟩
   all_goals
    go_wp2_with fail
    refine P.out.mono ?_;rintro e R ⟨rfl,rfl⟩;go_wp2_with fail
    go_loopw [30,12] (fun vk vi wr=> ∃(k i:Nat)(L:List Nat)(S:List Tm),k≤rs.length∧vk= .int .i64 k∧vi= .int .i64 i∧L.length=rs.length∧fX q g w.heap.size rs.length A y rs M wr k i L S∧Below w.heap.size w wr∧an q g wr) (fun vk _ _=>rs.length- (intOf vk).toNat)
    case atStart=>exact⟨0,0,rs,[],Nat.zero_le _,rfl,rfl,rfl,⟨Qt.out.own,Nat.le_refl _,rfl,rfl,rfl,fun j h=>absurd h (Nat.not_lt_zero _)⟩,QN.out,Qu.out⟩
    case round=>
     obtain⟨k,i,L,S,hk,rfl,rfl,hL,hF,Qw,Qx⟩:=hrel;have r:=Lib.hid hF;have G:=Lib.hid Qw;have z:=Lib.hid Qx;have QV:=hF.le;clear hF Qw Qx;by_cases u:k<rs.length
     ·have QS:(k:Int)<rs.length:=by omega
      obtain⟨B,cap,e0,_,Qi,QT,_⟩:=iY r.out.own (by omega);cases e0;have Z:k<M.length:=by have:=Qa.out;omega
      have Qy:L.getD k 0=rs[k]:=by
       have:=congrArg (fun l=>l[0]?) r.out.drop;simp only[List.getElem?_drop,Nat.add_zero]at this;rw[List.getD_eq_getElem?_getD,this];simp[u]
      have O:∀j,j<rs.length→wr.cell? ⟨B,j,none⟩=some (pv (L.getD j 0)):=fun j hj=>by
       rw[r.out.own.cellAt j (by omega)];simp[hL,hj]
      obtain⟨zk,Qj,c1⟩:∃zk,aY q g M[k] zk∧wr.cell? ⟨B,k,none⟩=some (.pointer (some ⟨zk,0,none⟩)):=⟨rs[k],Qt.out.cd k Z u,by rw[←Qy];exact O k u⟩
      obtain⟨zi,c2⟩:∃zi,wr.cell? ⟨B,i,none⟩=some (.pointer (some ⟨zi,0,none⟩)):=⟨_,O i (by omega)⟩
      have c3:=r.out.own.frozenAt i;cases F:M[k]with
      |none=>
       have hm:M[k]∈M:=List.getElem_mem Z;rw[F]at hm;exact absurd hm P_.out.1
      |some t=>
       obtain⟨d,ev⟩:=t;have Qb:=Qj;rw[F]at Qb;obtain⟨_,x,h2,h3⟩:=Qb;obtain⟨xt,xb,rfl⟩:=h3.val;have c4:=z.out.kw _ _ _ h2;have Qk:=Lib.hid ((A5 len q g false (Qg.out d ev (by rw[←F];exact List.getElem_mem Z)) _ h3).2 wr z.out);have Qz:=Lib.hid Qj;have QA:gw M[k]=bz false ev:=by rw[F];rfl
       have Qc:=Lib.hid QA;clear O Qj h2 h3 F Qy QA;have Ql:=Lib.hid hL;clear hL;go_wp2_with fail
       refine(gA _).mono ?_;rintro e R ⟨rfl,rfl⟩;go_wp2_with fail
       refine Qk.out.mono ?_;rintro e R ⟨⟨o,rfl,QB⟩,QC,_⟩;have Qd:=Lib.hid QB;clear QB;have H:=Lib.hid QC.toBelow;have d2:=ak H.out c2;have d3:R.frozen? ⟨B,i,none⟩=false:=TS.frozen_kept H.out Qi c3;clear QC;cases o with
       |none=>
        have QD:=r.out.below H.out;have QP:Hid (fX q g w.heap.size rs.length (some ⟨B,0,none⟩) y rs M (R.setCell ⟨B,i,none⟩ (pv zk)) (k+1) (i+1) (L.set i zk) (S++ [M[k]])):=QD.take u Ql.out Z Qz.out (by rw[Qc.out,Qd.out];rfl);have QE:Hid (w.heap.size≤B):=(r.out.own.lt B rfl).1;have QQ:Hid (an q g (R.setCell ⟨B,i,none⟩ (pv zk))):=(z.out.below H.out).own (X:=fun b=>b=B) ((Kept.refl (fun b=>b=B) R).setCell (a:=⟨B,i,none⟩) (fun _=>rfl) _) (fun b e=>by subst e;exact Qv.out _ rfl) fun e=>QM.out B rfl e.symm;clear QD;go_wp2_with fail
        refine⟨⟨k+1,i+1,L.set i zk,S++ [M[k]],by omega,by go_num,by go_num,by simp[Ql.out],QP.out,(G.out.trans (H.out.mono G.out.size)).setCell QE.out _,QQ.out⟩,?_⟩;first|omega|(simp[intOf];omega)
       |some o=>
        go_wp2_with fail
        refine⟨⟨k+1,i,L,S,by omega,by go_num,rfl,Ql.out,(r.out.below H.out).skip Z (by rw[Qc.out,Qd.out];rfl),G.out.trans (H.out.mono G.out.size),z.out.below H.out⟩,?_⟩;first|omega|(simp[intOf];omega)
     ·have QW:¬(k:Int)<rs.length:=by omega
      have QF:i≤rs.length:=by omega
      have Qe:(∃B,A=some ⟨B,0,none⟩∧rs.length≤y∧B<wr.heap.size)∨(A=none∧y=0∧i=0):=by
       rcases r.out.own.2 with⟨e,h0⟩|⟨B,cap,cur,e,_,Qi,QR,_⟩
       ·injection e with e1 e2 e3
        exact .inr ⟨e1,e3,by omega⟩
       ·cases e;exact .inl ⟨B,rfl,QR,(Array.getElem?_eq_some_iff.1 Qi).1⟩
      have QX:i≤y:=by rcases Qe with⟨_,_,h,_⟩|⟨_,_,h⟩<;>omega
      have QY:(i:Int)≤y:=by omega
      have P7:bZ q g w.heap.size wr (.slice A i y) (L.take i) S:=by
       have u:(L.take i).length=i:=by rw[List.length_take];omega
       refine⟨?_,by rw[u,r.out.len],fun j hj QG=> ?_⟩
       ·rw[u]
        rcases Qe with⟨B,rfl,_⟩|⟨rfl,rfl,rfl⟩
        ·have:=A7 r.out.own QF
         rwa [←List.map_take]at this
        ·simpa using World.ownsRow_nil wr w.heap.size 191 1
       ·have:=r.out.cd j hj
        rw[u]at QG;have e:(L.take i)[j]'(by rw[u];exact QG)=L.getD j 0:=by simp[show j<L.length by omega]
        rw[e];exact this
      have Qm:S=M.filter gw:=by
       have:=Qa.out;rw[r.out.kX,List.take_of_length_le (by omega)]
      have QH:S.Sublist M:=by rw[Qm];exact List.filter_sublist
      have Qn:∀b,(Value.slice A i y).ownBlock=some b→∀o,q b o=none:=fun b hb=>Qv.out b (by cases A<;>simpa [Value.ownBlock]using hb);have s:Hid (kY p g (M.filter gw,false) w (.returned (.tuple #[.slice A i y,.bool false])) wr):=
       ⟨q,_,L.take i,rfl,QO.out,z.out,by rw[Qm]at P7;exact P7,G.out,Qn⟩
      have Qo:Hid (Calls Tryz.prog 148 #[.slice A i y] wr fun e w'=>e= .returned (.bool false)∧wr=w'):=by
       obtain⟨q1,a1,c1,e1,P4,K,E,P5,N⟩:=kV z.out P7 Qn;have u:(L.take i).length=i:=by rw[List.length_take];omega
       rw[u]at e1 E;obtain⟨rfl,rfl⟩:A=a1∧y=c1:=by cases e1;exact⟨rfl,rfl⟩
       refine sh A i y _ wr (by omega) E fun j hj=> ?_;have QI:j<S.length:=by rw[r.out.len];exact hj
       have:=N j QI;cases QJ:S[j]with
       |none=>
        have hm:S[j]∈M:=QH.subset (List.getElem_mem QI);rw[QJ]at hm;exact absurd hm P_.out.1
       |some t=>
        rw[QJ]at this;obtain⟨_,x,h2,h3⟩:=this;obtain⟨t',b',rfl⟩:=h3.val;exact⟨_,_,K.kw _ _ _ h2⟩
      clear P7 QH Qn hL Qm;go_wp2_with fail
      refine Qo.out.mono ?_;rintro e R ⟨rfl,rfl⟩;go_wp2_with fail
      refine(gA _).mono ?_;rintro e R ⟨rfl,rfl⟩;go_wp2_with fail
      go_ret2;exact s.out
end Go.Proofs.YtgbklbbknehefaaGreatDoor
namespace TS
open Go Go.RowKit
theorem KeyLaw.mono{P:Program}{kt:TypeId}{K b:World→Value→Prop}(L:KeyLaw P kt K)(h:∀w v,b w v→K w v):KeyLaw P kt b:=
 ⟨fun w em _ a=>L.check w em (h _ _ a),fun w _ c es he=>L.find w (h _ _ c) es fun e m=>h _ _ (he e m),fun w _ a=>L.stays w (h _ _ a)⟩
def dm(B:Nat)(w:World)(v:Value):Prop:=∃b,v= .pointer (some ⟨b,0,none⟩)∧b<B∧Plain w b
theorem sV{B:Nat}{w:World}{v:Value}(h:dm B w v):oA w v:=let⟨b,e,_,a⟩:=h;⟨b,e,a⟩
theorem sW(B:Nat):kL (dm B):=fun _ _ _ _ _ a hk _ ⟨x,e,b,h⟩=>⟨x,e,b,rW a hk h⟩
theorem bT.jn{B b:Nat}{w a:World}{F:Value→Option Value}(h:bT (dm B) w b F){X:Nat→Prop}(k:Kept X w a)(g:¬X b)(i:∀c,c<B→¬X c):bT (dm B) a b F:=
 h.of (k.block b h.lt g) fun v j=>by
  obtain⟨c,e,d,cs,T,f⟩:=j;exact⟨c,e,d,cs,T,by rw[k.block c (Array.getElem?_eq_some_iff.1 f).1 (i c d)];exact f⟩
end TS
namespace Go.Proofs.YtgbklbbknehefaaGreatDoor
open Go.RowKit TS
theorem Be(t b:Nat)(a:t≠105)(w:World):Calls Tryz.prog 146 #[.iface t (.pointer (some ⟨b,0,none⟩))] w fun e c=>e= .returned (.bool false)∧w=c:=by
 have h1:∀W,(Instr.typeAssert (.iface t (.pointer (some ⟨b,0,none⟩))) 44 105 true).run Tryz.prog W= .ok (.tuple #[.pointer none,.bool false]) W:=fun W=>by rw[bn,if_neg a]
 clear a;go_enter Tryz.func146,Tryz.ntmps146;go_wp2_with fail
 go_ret;exact⟨rfl,rfl⟩
theorem Bf(b:Nat)(k:Int)(hk:(k==0)=false)(w:World)(c:w.cell? ⟨b,0,none⟩=some (.int .i64 k)):Calls Tryz.prog 146 #[.iface 105 (.pointer (some ⟨b,0,none⟩))] w fun e a=>e= .returned (.bool false)∧w=a:=by
 have h1:∀W,(Instr.typeAssert (.iface 105 (.pointer (some ⟨b,0,none⟩))) 44 105 true).run Tryz.prog W= .ok (.tuple #[.pointer (some ⟨b,0,none⟩),.bool true]) W:=fun W=>by rw[bn,if_pos rfl]
 go_enter Tryz.func146,Tryz.ntmps146;go_wp2_with fail
 go_ret;exact⟨rfl,rfl⟩
theorem sX{p:Pm}{g:Ge}{u:U}{len:Nat}(t b:Nat)(w:World)(hw:KW p w)(hu:Vt len u)(h:TS.Node p g u (ae t b))(h2:u.k≠2)(d:u.k≠14):Calls Tryz.prog 111 #[.iface t (.pointer (some ⟨b,0,none⟩))] w fun e i=>e= .returned (.bool true)∧w=i:=by
 have a:=iD h h2 d;have f:=h.lX h2 d;rw[←a]at f;have j:=Lib.hid (ep t (.pointer (some ⟨b,0,none⟩)) f w);have l:Hid (Calls Tryz.prog 146 #[.iface t (.pointer (some ⟨b,0,none⟩))] w fun e i=>e= .returned (.bool false)∧w=i):=by
  by_cases hk:u.k=1
  ·obtain⟨c,e,m⟩:=h.jf hk
   obtain⟨_,hF⟩:=hu.form;have:=sM hF hk;cases e;exact Bf b (u.n+1) (by simp;omega) w (hw _ _ _ m)
  ·refine Be t b (fun e=>hk ?_) w
   rw[a]at e;have o:=(h.tag h2 d).2;have q:=hu.aA;have:105=ba 1:=rfl;rw[this]at e;exact(dT e.symm (by decide) (by omega)).symm
 clear a f h hu hw;go_enter Tryz.func111,Tryz.ntmps111;go_wp2_with fail
 refine j.out.mono ?_;rintro e i ⟨rfl,rfl⟩;go_wp2_with fail
 refine l.out.mono ?_;rintro e i ⟨rfl,rfl⟩;go_wp2_with fail
 go_ret;exact⟨rfl,rfl⟩
end Go.Proofs.YtgbklbbknehefaaGreatDoor
namespace TS
open Go Go.RowKit Go.Proofs.YtgbklbbknehefaaGreatDoor
structure jS(len:Nat)(e:U):Prop where
 pl:∃f,f≤2∧Pl len e 0 f
 fl:(bare e).k=11→∃y,(bare e).un= [y]∧y.k≠16
theorem jS.bare{len:Nat}{e:U}(h:jS len e):(∃f,f≤2∧Pl len (TS.bare e) 0 f)∧(TS.bare e).k≠2∧(TS.bare e).k≠14∧TS.bare (TS.bare e)=TS.bare e∧(TS.bare e).k≠12∧(TS.bare e).k≠13:=by
 obtain⟨f,b,a⟩:=h.pl;obtain⟨h1,h2,h3,c⟩:=a.bare b a.form.aA.1 a.form.aA.2;exact⟨⟨f,b,h1⟩,h2,h3,ca h2 h3,h1.form.aA.1,h1.form.aA.2⟩
def oO(len:Nat)(W:List (Bool×U))(d:Bool)(e:U):Prop:=
 (Tok len e∧(d=true→aE e (under e)=true)∧(d,e)∈W∧(under e).k≠2∧(under e).k≠14)∨(isIface e=true∧jS len e∧∀x∈bw (under e),x∈W)
theorem oP{len:Nat}{W:List (Bool×U)}(h:∀x∈W,Tok len x.2):RW W:=fun x a=>by
 have:=h x a;unfold eW;cases x.1
 ·simp[this.vt.refl]
 ·simp[this.vu.refl]
theorem mF{len:Nat}{W:List (Bool×U)}(h:∀x∈W,Tok len x.2){l:List Tm}(a:bd W l):∀t∈l,dt len t:=fun t b=>by
 rcases a.any t b with rfl|⟨x,c,rfl⟩
 ·trivial
 ·exact h x c
end TS
namespace Go.Proofs.YtgbklbbknehefaaGreatDoor
open Go.RowKit TS
theorem sY{p:Pm}{g:Ge}{u:U}{len:Nat}(x:Value)(w:World)(hw:KW p w)(hu:jS len u)(o:TS.Node p g u x):Calls Tryz.prog 109 #[x] w fun e q=>e= .returned (.bool false)∧w=q:=by
 obtain⟨f,s,n⟩:=hu.pl;obtain⟨b,d,i,r⟩:=o.strip n s n.form.aA.1 n.form.aA.2;obtain⟨y,z,rfl⟩:=o.val;have v:=Lib.hid (mw _ b _ p i r w hw);obtain⟨_,j,a,_,l⟩:=hu.bare;have c:=(d.tag j a).2;have m:ba (bare u).k≠232:=by
  rcases kQ c.1 c.2 j l.1 l.2 a with h|h|h|h|h|h|h|h|h|h
  all_goals first|(rw[h];decide)|(rcases h with h|h|h<;>rw[h]<;>decide)
 generalize ba (bare u).k=t at*;have h1:∀W,(Instr.typeAssert (.iface t (.pointer (some ⟨b,0,none⟩))) 44 232 true).run Tryz.prog W= .ok (.tuple #[.pointer none,.bool false]) W:=fun W=>by rw[oj,if_neg m]
 clear d i r o hw c m n;go_enter Tryz.func109,Tryz.ntmps109;go_wp2_with fail
 refine v.out.mono ?_;rintro e q ⟨rfl,rfl⟩;go_wp2_with fail
 go_ret;exact⟨rfl,rfl⟩
theorem mG(B:Nat):KeyLaw Tryz.prog 189 (dm B):=by
 obtain⟨e,i,j,a,hi,b,c,d⟩:=sc;exact(rU a c d).mono fun _ _=>sV
theorem oQ(w:World):(zeroValue 84).run Tryz.prog w= .ok (.pointer none) w:=by kernel_rfl
structure Bg(q:Pm)(g:Ge)(B tb c:Nat)(a:World)(v:Value)(rs:List Nat)(S:List Tm)(ds W:List (Bool×U)):Prop where
 id:an q g a
 row:bZ q g B a v rs S
 aG:∀b,v.ownBlock=some b→∀o,q b o=none
 wi:bd W S
 na:none∈S→∃x∈ds,isIface x.2=true
 fd:S=ds.foldl fG []
 c0:a.cell? ⟨tb,0,none⟩=some (.bool false)
 c1:a.cell? ⟨tb,1,none⟩=some (.slice none 0 0)
 c3:a.cell? ⟨tb,3,none⟩=some (.bool false)
def sZ(p:Pm)(g:Ge)(B d b:Nat)(F:Value→Option Value)(ds W:List (Bool×U))(w:World)(e:Ending)(a:World):Prop:=
 ∃q tb v rs S c,e= .returned (.pointer (some ⟨tb,0,none⟩))∧aK p q w.heap.size∧Bg q g w.heap.size tb b a v rs S ds W∧a.cell? ⟨tb,2,none⟩=some v∧w.heap.size≤tb∧(∀o,q tb o=none)∧bT (dm B) a b c∧(∀y,y≠ .pointer (some ⟨d,0,none⟩)→c y=F y)∧Kept (fun k=>k=b) w a
theorem gB:under cV=cV:=by
 have a:bare cV=cV:=ca (by decide) (by decide);rw[gh]<;>rw[a]<;>decide
structure kZ(p:Pm)(g:Ge)(a:Nat)(c:World)(ds W:List (Bool×U))(wr:World)(v:Value)(q:Pm)(rs:List Nat)(R:List Tm):Prop where
 id:an q g wr
 row:bZ q g a wr v rs R
 aG:∀b,v.ownBlock=some b→∀o,q b o=none
 gr:aK p q a
 fi:Below a c wr
 wi:bd W R
 na:none∈R→∃x∈ds,isIface x.2=true
theorem Bh{X:Nat→Prop}{B:Nat}{w a c:World}(h:Below B w a)(f:B≤a.heap.size)(k:Kept X a c)(d:∀b,X b→B≤b):Below B w c:=
 h.trans ⟨k.os,k.tape,k.output,k.size,fun b g=>k.block b (by omega) fun e=>by have:=d b e;omega⟩
theorem kZ.join{len:Nat}{p q:Pm}{g:Ge}{m:Nat}{t wr r:World}{ds W:List (Bool×U)}{v:Value}{rs:List Nat}{R:List Tm}(h:kZ p g m t ds W wr v q rs R)(s:Below wr.heap.size wr r)(D:m≤t.heap.size)(E:5<m)(u:∀x∈W,Tok len x.2)(j:W.length≤50)
 (a:Option Addr)(n c:Nat)(f:Nat→Nat)(k:List Tm)(F:n=k.length)(ha:a=none→c=0)(G:∀x,a=some x→x.spot=none)(H:bj r a n f)(I:∀i(h:i<k.length),aY q g k[i] (f i))(l:bd W k)(w:none∈k→∃x∈ds,isIface x.2=true):
 Calls Tryz.prog 145 #[v,.slice a n c] r fun e A=> ∃a' c' y d B,e= .returned (.slice a' d.length c')∧kZ p g m t ds W A (.slice a' d.length c') y d B∧d.length≤50∧B=fF R k:=by
 have N:rs.length≤50:=by rw[h.row.len];exact h.wi.len j (by decide)
 have O:=l.len j (by decide);have h1:=s.size;have h2:=h.fi.size;refine(A6 len q g m v rs R a n c f k r (h.id.below s) (h.row.below s) h.aG (by omega) E F (by omega) (by omega) ha G H I (mF u h.wi) (mF u l)).mono ?_;rintro e A ⟨y,P,d,rfl,z,J,hT,K,L⟩;obtain⟨a',c',rfl⟩:=aZ hT.own;have o:=bd.join (oP u) h.wi l;exact⟨a',c',y,d,_,rfl,⟨J,⟨ie hT.own (by omega),hT.len,hT.cd⟩,L,h.gr.trans z (Nat.le_refl _),Bh (h.fi.trans (s.mono (by omega))) (by omega) K fun b M=>(h.row.own.lt b M).1,o,fun hm=>Classical.byContradiction fun C=>Bd (fun h1=>C (h.na h1)) (fun h1=>C (w h1)) hm⟩,by rw[hT.len];exact o.len j (by decide),rfl⟩
theorem Bi(len:Nat)(p:Pm)(g:Ge)(B r s n c:Nat)(q0:Option Addr)(pos:Int)(a:Option Addr)(f:Nat→Nat)(ds:List (Bool×U))(F:Value→Option Value)(W:List (Bool×U))(w:World)(S:an p g w)(hM:bT (dm B) w s F)(hF:F (.pointer (some ⟨r,0,none⟩))=none)
 (Ql:r<B)(Rq:B≤s)(Rr:5<B)(P:p r 0=some (.slice a n c))(hn:n=ds.length)(Rs:n≤1048576)(hr:bK p a n fun i=>ptr (f i))(Qs:∀o,p s o=none)
 (ht:∀i(h:i<ds.length),aY p g (some ds[i]) (f i))(hu:∀i(h:i<ds.length),oO len W ds[i].1 ds[i].2)(hW:∀x∈W,Tok len x.2)(QW:W.length≤50):
 Calls Tryz.prog 110 #[.pointer q0,.map (some s),.int .i64 pos,.pointer (some ⟨r,0,none⟩)] w (sZ p g B r s F ds W w):=by
 have Qt:=Lib.hid S;have Qu:=Lib.hid hM;have Qv:=Lib.hid hF;have C:Hid (dm B w (.pointer (some ⟨r,0,none⟩))):=⟨r,rfl,Ql,S.pl _ _ _ P⟩
 have u:Hid (dm B (w.alloc (.cells #[.bool false,.slice none 0 0,.slice none 0 0,.bool false] 136)) (.pointer (some ⟨r,0,none⟩))):=⟨r,rfl,Ql,(S.pl _ _ _ P).below ((Below.refl _ _).alloc (Nat.le_refl _) _)⟩
 have Qw:Hid (bT (dm B) (w.alloc (.cells #[.bool false,.slice none 0 0,.slice none 0 0,.bool false] 136)) s F):=hM.jn (X:=fun _=>False) ((Kept.refl _ _).alloc _) id fun _ _=>id;have QX:=hM.lt;have h0:=S.kw _ _ _ P;have QY:=Lib.hid hr;have QZ:=Lib.hid ht;have Q3:=Lib.hid hu;have Qx:=Lib.hid hn;have Ro:=Lib.hid Qs;have Qy:=Lib.hid P;have Qz:Hid (¬Plain w s):=fun⟨cs,T,h⟩=>by obtain⟨es,cl,hb,_⟩:=hM;rw[hb]at h;cases h
 have Q4:Hid (∀A,(w.alloc (.cells #[.bool false,.slice none 0 0,.slice none 0 0,.bool false] 136)).grownBy A (some s)→A.cell? ⟨r,0,none⟩=some (.slice a n c)):=fun A L=>by
  have P9:Kept (fun k=>k=s) w A:=((Kept.refl _ _).alloc _).grown L fun k hk _=>by cases hk;rfl
  exact(S.kept P9 (fun b e=>by subst e;exact Qz.out) (by omega)).kw _ _ _ P
 clear S hM hF hr ht hu hn Qs P;go_enter Tryz.func110,Tryz.ntmps110;go_wp2_with (first|(at_lookup;refine A_ _ rfl _ _ 178 rfl (mG B) 84 Tryz.underlying178 (.pointer none) oQ s F rfl Qu.out (.pointer (some ⟨r,0,none⟩)) rfl C.out (.pointer none) false (by rw[Qv.out];rfl) (by rw[Qv.out];rfl) ?_)|(at_mapUpdate;refine dN _ rfl _ _ _ 178 rfl (mG B) (sW B) 84 Tryz.underlying178 s F rfl Qw.out (.pointer (some ⟨r,0,none⟩)) (.pointer (some ⟨w.heap.size,0,none⟩)) rfl rfl u.out ?_;intro A QA L;have c0:=Q4.out A L)|fail)
 have P9:Hid (Kept (fun k=>k=s) w A):=((Kept.refl _ _).alloc _).grown L fun k hk _=>by cases hk;rfl
 have Q5:Hid (an p g A):=Qt.out.kept P9.out (fun b e=>by subst e;exact Qz.out) (by omega);have Q6:Hid (bT (dm B) A s (bp F (.pointer (some ⟨r,0,none⟩)) (.pointer (some ⟨w.heap.size,0,none⟩)))):=QA _ (fun y hy=>a7 F hy) (bG _ _ _);have QB:A.heap[w.heap.size]?=some (.cells #[.bool false,.slice none 0 0,.slice none 0 0,.bool false] 136 (0,0)):=by
  rw[L.block w.heap.size (by simp) fun e=>by have:=Option.some.inj e;omega];exact(MapKept.heap_alloc w _).1
 have Qd:w.heap.size<A.heap.size:=by have:=L.size;simp at this;omega
 have QC:=Lib.hid QB;have Q7:=Lib.hid Qt.out;clear QA L Qw Qu C u QB h0;go_wp2_with fail
 go_loopw [35,11] (fun vk vv wr=> ∃(k:Nat)(q:Pm)(rs:List Nat)(R:List Tm),k≤n∧vk= .int .i64 k∧kZ p g A.heap.size A ds W wr vv q rs R∧R=(ds.take k).foldl fG []) (fun vk _ _=>n- (intOf vk).toNat)
 case atStart=>exact⟨0,p,[],[],Nat.zero_le _,rfl,⟨Q5.out,⟨World.ownsRow_nil _ _ _ _,rfl,fun i h=>absurd h (Nat.not_lt_zero _)⟩,(fun b hb=>by cases hb),aK.refl _ _,Below.refl _ _,sQ W,fun h=>(by cases h)⟩,rfl⟩
 case round=>
  obtain⟨k,q,rs,R,hk,rfl,j,QD⟩:=hrel;have Qe:=Lib.hid QD;clear QD;have QE:=Lib.hid j;obtain⟨va,vc,rfl⟩:=aZ j.row.own;by_cases Q8:k<n
  ·have Rp:(k:Int)<n:=by omega
   obtain⟨ab,ao,rfl,QF⟩:=(QY.out.sub j.gr.le) k Q8;have c1:=j.id.kw _ _ _ QF;have P_:k<ds.length:=by have:=Qx.out;omega
   have QG:=(QZ.out k P_).sub j.gr.le (aD.refl g);have Q9:=Q3.out k P_;have V:Hid (aY q g (some ds[k]) (f k)):=QG;have QH:Hid (ds[k]∈ds):=List.getElem_mem P_;have Qm:Hid ((ds.take (k+1)).foldl fG []=fG R ds[k]):=by rw[Qe.out];exact lV fG [] P_
   generalize ds[k]=de at*;obtain⟨d,e⟩:=de;obtain⟨QI,x,QJ,D⟩:=QG;have c2:=j.id.kw _ _ _ QI;have c3:=j.id.kw _ _ _ QJ;have v:=Lib.hid j.id.kw
   have z:Hid (∀(wx:World)(a':Option Addr)(n' c':Nat)(f':Nat→Nat)(ys:List Tm),Below wr.heap.size wr wx→n'=ys.length→(a'=none→c'=0)→(∀x,a'=some x→x.spot=none)→bj wx a' n' f'→(∀i(h:i<ys.length),aY q g ys[i] (f' i))→bd W ys→(none∈ys→∃x∈ds,isIface x.2=true)→
    Calls Tryz.prog 145 #[.slice va rs.length vc,.slice a' n' c'] wx fun e w'=> ∃QK QL q' Qa R',e= .returned (.slice QK Qa.length QL)∧kZ p g A.heap.size A ds W w' (.slice QK Qa.length QL) q' Qa R'∧Qa.length≤50∧R'=fF R ys):=fun wx a' n' c' f' ys hx h1 h2 h3 h4 h5 h6 h7=>
    j.join hx (Nat.le_refl _) (by omega) hW QW a' n' c' f' ys h1 h2 h3 h4 h5 h6 h7
   have S:=Lib.hid j.id;clear j QE QF QI QJ QX;rcases Q9 with⟨hT,QM,hm,Qb,N⟩|⟨hi,hP,Qn⟩
   ·
    have Q:=hT.ni;unfold isIface at Q;simp only[Bool.or_eq_false_iff,beq_eq_false_iff_ne,ne_eq]at Q;simp only at hT QM hm Qb N D Q;obtain⟨aa,Qc,O,_⟩:=hT.vt.bare;have Z:bare (bare e)=bare e:=ca Qc O;have P4:=hT.vu.aA;obtain⟨xt,xb,rt,rb,rfl,P5,hr⟩:=iA D Z hT.fl aa.aA.1 aa.aA.2;obtain⟨Q_,P6⟩:(under e).k≠16∧TS.Node q g (under e) (ae rt rb):=hr.resolve_right fun h=>Q.2 h.1;have Qf:=iD P6 Qb N;have QN:rt≠33:=by
     rw[Qf];have Rt:=(P6.tag Qb N).2;intro e1;have:33=ba 10:=rfl;rw[this]at e1;exact Q.1 (dT e1.symm (by decide) (by omega)).symm
    have QO:=Lib.hid (sX rt rb wr S.out.kw hT.vu P6 Qb N);have Ra:=Lib.hid (kS len q g e (under e) _ _ wr S.out hT.vt hT.vu D P6);obtain⟨K,fn,Rb,Qo,M,Qp,Rc,Re,m⟩:=dO P5 v.out;have Rg:=fun args w=>Go.MuLone.run_callFunc_enter Qo M Qp args w;have l:=Lib.hid m;have jT:∀W,(Instr.typeAssert (.iface rt (.pointer (some ⟨rb,0,none⟩))) 44 33 true).run Tryz.prog W= .ok (.tuple #[.pointer none,.bool false]) W:=fun W=>by rw[dB,if_neg QN]
    have QP:=Lib.hid (sR hm);have hj:Hid (fG R (d,e)=fF R [some (d,e)]):=Lib.hid (by unfold fG;rw[if_neg (by rw[hT.ni];decide)]);clear m QN Qf P6 hr P5 D Q aa Qc O Z hT hm Q_ P4;cases d with
    |false=>
     go_wp2_with fail
     refine(l.out _ v.out).mono ?_;rintro _ _ ⟨rfl,rfl⟩;go_wp2_with fail
     refine QO.out.mono ?_;rintro _ _ ⟨rfl,rfl⟩;go_wp2_with fail
     refine(z.out (World.alloc wr (.cells #[.pointer (some ⟨f k,0,none⟩)] 191)) (some ⟨World.heap wr|>.size,0,none⟩) 1 1 (fun _=>f k) [some (false,e)] ((Below.refl _ _).alloc (Nat.le_refl _) _) rfl (fun h=>by cases h) (fun x h=>by cases h;rfl) (fun i hi=>⟨_,0,rfl,by obtain rfl:i=0:=(by omega);simpa using TS.dC wr _ _ 0 _ rfl⟩) (fun i hi=>by obtain rfl:i=0:=(by simp at hi;omega);exact V.out) QP.out (by simp)).mono ?_;rintro _ w3 ⟨a3,c3,q3,E,R3,rfl,G,P7,H⟩;have I:=Lib.hid G;have J:=Lib.hid H;clear H;have Qg:¬(E.length:Int) >100:=by omega
     clear G P7;go_wp2_with fail
     refine⟨⟨k+1,q3,E,R3,by omega,by go_num,I.out,by rw[J.out,Qm.out,hj.out]⟩,?_⟩;first|omega|(simp[intOf];omega)
    |true=>
     have Rh:=Lib.hid (QM rfl);go_wp2_with fail
     refine(l.out _ v.out).mono ?_;rintro _ _ ⟨rfl,rfl⟩;go_wp2_with fail
     refine QO.out.mono ?_;rintro _ _ ⟨rfl,rfl⟩;go_wp2_with fail
     refine Ra.out.mono ?_;rintro _ w2 ⟨rfl,hG⟩;rw[Rh.out];have QQ:=Lib.hid hG.below;clear hG;go_wp2_with fail
     refine(z.out (World.alloc w2 (.cells #[.pointer (some ⟨f k,0,none⟩)] 191)) (some ⟨World.heap w2|>.size,0,none⟩) 1 1 (fun _=>f k) [some (true,e)] ((QQ.out).alloc QQ.out.size _) rfl (fun h=>by cases h) (fun x h=>by cases h;rfl) (fun i hi=>⟨_,0,rfl,by obtain rfl:i=0:=(by omega);simpa using TS.dC w2 _ _ 0 _ rfl⟩) (fun i hi=>by obtain rfl:i=0:=(by simp at hi;omega);exact V.out) QP.out (by simp)).mono ?_;rintro _ w3 ⟨a3,c3,q3,E,R3,rfl,G,P7,H⟩;have I:=Lib.hid G;have J:=Lib.hid H;clear H;have Qg:¬(E.length:Int) >100:=by omega
     clear G P7;go_wp2_with fail
     refine⟨⟨k+1,q3,E,R3,by omega,by go_num,I.out,by rw[J.out,Qm.out,hj.out]⟩,?_⟩;first|omega|(simp[intOf];omega)
   ·
    simp only at hi hP Qn D;obtain⟨_,Qc,O,Z,P4⟩:=hP.bare;obtain⟨xt,xb,rt,rb,rfl,P5,hr⟩:=iA D Z hP.fl P4.1 P4.2;have Ri:rt=33∧∃u',q rb 0=some (.pointer none)∧cv q g rb u'∧(∀x∈bw u',x∈W)∧dr u'=dr e:=by
     rcases hr with⟨Qq,hn⟩|⟨Qq,e1,hG⟩
     ·have QR:(under e).k=10:=by
       unfold isIface at hi;simp only[Bool.or_eq_true,beq_iff_eq]at hi;exact hi.resolve_right Qq
      obtain⟨b,e1,hG⟩:=hn.gN QR;cases e1;have:=S.out.done _ _ hG;exact⟨rfl,_,this.1,this.2,Qn,rp QR⟩
     ·have:=S.out.done _ _ hG
      exact⟨e1,_,this.1,this.2,fun x hx=>(by rw[kA (by rw[gB];decide)]at hx;cases hx),by rw[lW (by rw[gB];decide),lW (by omega),gB,Qq];rfl⟩
    obtain⟨rfl,u',c4,Rj,Qh,Qi⟩:=Ri;obtain⟨tb,ma,mc,f',ta,tc,ts,cmp,t1,t2,t3,t4,t5,t6,t7,t8,t9,t10,⟨f2,t11,Qj⟩,t12,t13,t14,t15⟩:=Rj;have Rk:=Lib.hid (sY _ wr v.out hP D);have d1:=v.out _ _ _ t1;have d2:=v.out _ _ _ t8;have Rl:=Lib.hid (oD rb tb q0 pos wr d1);have hj:Hid (fG R (d,e)=fF R ts):=Lib.hid (by unfold fG;rw[if_pos hi,←Qi,t13.eq]);have QS:bd W ts:=t13.cI.imp id fun⟨x1,x2,x3⟩=>⟨x1,x2,fun t ht=>let⟨x,hx,e⟩:=x3 t ht;⟨x,Qh x hx,e⟩⟩
    have hJ:=Lib.hid (z.out wr ta ts.length tc f2 ts (Below.refl _ _) rfl t14 t15 (fun i hi=>let⟨b,o,e,hc⟩:=t11 i hi;⟨b,o,e,v.out _ _ _ hc⟩) Qj QS fun _=>⟨(d,e),QH.out,hi⟩);obtain⟨K,fn,Rb,Qo,M,Qp,Rc,Re,m⟩:=dO P5 v.out;have Rg:=fun args w=>Go.MuLone.run_callFunc_enter Qo M Qp args w;have l:=Lib.hid m;have jT:∀W,(Instr.typeAssert (.iface 33 (.pointer (some ⟨rb,0,none⟩))) 44 33 true).run Tryz.prog W= .ok (.tuple #[.pointer (some ⟨rb,0,none⟩),.bool true]) W:=fun W=>by rw[dB,if_pos rfl]
    clear m hr P5 D hP hi Qn Qh Qi t1 t2 t3 t4 t5 t6 t7 t8 t9 t10 t11 Qj t12 t13 t14 t15 QS z Qc O Z P4 d1;go_wp2_with fail
    refine(l.out _ v.out).mono ?_;rintro _ _ ⟨rfl,rfl⟩;go_wp2_with fail
    refine Rk.out.mono ?_;rintro _ _ ⟨rfl,rfl⟩;go_wp2_with fail
    refine(gA _).mono ?_;rintro _ _ ⟨rfl,rfl⟩;go_wp2_with fail
    refine Rl.out.mono ?_;rintro _ _ ⟨rfl,rfl⟩;go_wp2_with fail
    refine hJ.out.mono ?_;rintro _ w3 ⟨a3,c3,q3,E,R3,rfl,G,P7,H⟩;have I:=Lib.hid G;have J:=Lib.hid H;clear H;have Qg:¬(E.length:Int) >100:=by omega
    clear G P7;go_wp2_with fail
    refine⟨⟨k+1,q3,E,R3,by omega,by go_num,I.out,by rw[J.out,Qm.out,hj.out]⟩,?_⟩;first|omega|(simp[intOf];omega)
  ·have Ru:¬(k:Int)<n:=by omega
   have Rm:=Lib.hid j.id;have QT:Hid (bT (dm B) wr s (bp F (.pointer (some ⟨r,0,none⟩)) (.pointer (some ⟨w.heap.size,0,none⟩)))):=Q6.out.jn (X:=fun b=>A.heap.size≤b) ⟨j.fi.os,j.fi.tape,j.fi.output,j.fi.size,fun b _ hb=>j.fi.block b (by omega)⟩ (by omega) fun c hc=>by omega
   have P8:wr.heap[w.heap.size]?=some (.cells #[.bool false,.slice none 0 0,.slice none 0 0,.bool false] 136 (0,0)):=(j.fi.block _ Qd).trans QC.out;have c4:wr.cell? ⟨w.heap.size,2,none⟩=some (.slice none 0 0):=by simp[World.cell?,P8]
   have c5:wr.frozen? ⟨w.heap.size,2,none⟩=false:=by simp[World.frozen?,P8]
   have C:Hid (dm B wr (.pointer (some ⟨r,0,none⟩))):=⟨r,rfl,Ql,j.id.pl _ _ _ (j.gr.le _ _ _ Qy.out)⟩
   have u:Hid (dm B (wr.setCell ⟨w.heap.size,2,none⟩ (.slice va rs.length vc)) (.pointer (some ⟨r,0,none⟩))):=by
    obtain⟨b,e,hl,cs,T,hc⟩:=C.out;exact⟨b,e,hl,cs,T,by rw[Below.heap_setCell _ _ _ _ (by simp only;omega)];exact hc⟩
   have Qk:Hid (bT (dm B) (wr.setCell ⟨w.heap.size,2,none⟩ (.slice va rs.length vc)) s (bp F (.pointer (some ⟨r,0,none⟩)) (.pointer (some ⟨w.heap.size,0,none⟩)))):=
    QT.out.jn (X:=fun b=>b=w.heap.size) ((Kept.refl (fun b=>b=w.heap.size) wr).setCell (a:=⟨w.heap.size,2,none⟩) (fun _=>rfl) _) (by omega) fun c hc=>by omega
   clear Rm;clear j;have QU:Hid (sZ p g B r s F ds W w (.returned (.pointer (some ⟨w.heap.size,0,none⟩))) (wr.setCell ⟨w.heap.size,2,none⟩ (.slice va rs.length vc))):=by
    have j:=QE.out;have V:∀o,q w.heap.size o=none:=j.gr.aG Qd fun o=>Q7.out.kw.aG (Nat.le_refl _) o;have QV:Kept (fun b=>b=w.heap.size) wr (wr.setCell ⟨w.heap.size,2,none⟩ (.slice va rs.length vc)):=(Kept.refl (fun b=>b=w.heap.size) wr).setCell (a:=⟨w.heap.size,2,none⟩) (fun _=>rfl) _;have Rn:∀b,(Value.slice va rs.length vc).ownBlock=some b→A.heap.size≤b:=fun b hb=>(j.row.own.lt b hb).1;have Qr:∀o,o≠2→(wr.setCell ⟨w.heap.size,2,none⟩ (.slice va rs.length vc)).cell? ⟨w.heap.size,o,none⟩=wr.cell? ⟨w.heap.size,o,none⟩:=fun o ho=>World.cell?_setCell_other _ _ _ _ (by simp[Ne.symm ho]);refine⟨q,w.heap.size,_,rs,R,_,rfl,j.gr.mono (by omega),⟨?_,?_,j.aG,j.wi,j.na,by rw[Qe.out,List.take_of_length_le (by have:=Qx.out;omega)],?_,?_,?_⟩,?_,Nat.le_refl _,V,Qk.out,fun y hy=>a7 F hy,?_⟩
    ·exact j.id.own QV (fun b e=>by subst e;exact V) (by omega)
    ·exact⟨ie (dL j.row.own QV fun b hb e=>by have:=Rn b hb;omega) (by omega),j.row.len,j.row.cd⟩
    ·rw[Qr 0 (by decide)];simp[World.cell?,P8]
    ·rw[Qr 1 (by decide)];simp[World.cell?,P8]
    ·rw[Qr 3 (by decide)];simp[World.cell?,P8]
    ·exact World.cell?_setCell_same _ _ _ c4
    ·have:Kept (fun k=>k=s) w wr:=P9.out.trans (Y:=fun b=>A.heap.size≤b) ⟨j.fi.os,j.fi.tape,j.fi.output,j.fi.size,fun b _ hb=>j.fi.block b (by omega)⟩ fun b hb e=>by omega
     exact this.setCell (fun h=>absurd h (by simp)) _
   go_wp2_with (first|(at_lookup;refine dM _ rfl _ _ 178 rfl (mG B) 84 Tryz.underlying178 (.pointer none) oQ s _ rfl QT.out (.pointer (some ⟨r,0,none⟩)) rfl C.out (.pointer (some ⟨w.heap.size,0,none⟩)) (by rw[bG];rfl) ?_)|(at_lookup;refine dM _ rfl _ _ 178 rfl (mG B) 84 Tryz.underlying178 (.pointer none) oQ s _ rfl Qk.out (.pointer (some ⟨r,0,none⟩)) rfl u.out (.pointer (some ⟨w.heap.size,0,none⟩)) (by rw[bG];rfl) ?_)|fail)
   go_ret;exact QU.out
end Go.Proofs.YtgbklbbknehefaaGreatDoor
