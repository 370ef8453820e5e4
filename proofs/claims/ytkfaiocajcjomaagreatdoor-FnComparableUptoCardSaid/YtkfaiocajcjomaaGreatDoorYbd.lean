import Derived.Test.YtkfaiocajcjomaaGreatDoorYbb
import Derived.Test.YtkfaiocajcjomaaGreatDoorYbc
set_option maxRecDepth 100000
set_option maxHeartbeats 8000000
set_option linter.all false
namespace Go.Proofs.YtkfaiocajcjomaaGreatDoor
open Go.RowKit TS
theorem iH{p:Pm}{g:Ge}{u:U}{rt c:Nat}(h:TS.Node p g u (ae rt c))(h2:u.k≠2)(a:u.k≠14):rt=bf u.k:=by
 obtain⟨⟨b,e⟩,_⟩:=h.tag h2 a;injection e
theorem Bv{p:Pm}{g:Ge}{u:U}{t b:Nat}(h:TS.Node p g u (ae t b)):bP t:=by
 by_cases h2:u.k=2
 ·cases h with
  |alias _ ha _=>obtain⟨c,e,_⟩:=ha.start;injection e with e;rw[e];exact Al
  |_=>omega
 ·by_cases a:u.k=14
  ·cases h with
   |any _ d=>rw[iH d (by decide) (by decide)];exact o7 _
   |_=>omega
  ·rw[iH h h2 a];exact o7 _
theorem Bw{p:Pm}{g:Ge}{u:U}{t b:Nat}{w:World}(a:aq p g w)(h:TS.Node p g u (ae t b)):Plain w b:=by
 cases h with
 |alias _ ha _=>
  cases ha with
  |last _ h2 _=>exact a.pl _ _ _ h2
  |next h1 _ _ _=>exact a.pl _ _ _ h1
 |any _ d=>
  obtain⟨c,e,h⟩:=d.gV rfl;cases e;exact a.pl _ _ _ (a.done _ _ h).1
 |basic _ h=>exact a.pl _ _ _ h
 |array _ _ h _ _=>exact a.pl _ _ _ h
 |slice _ _ h _=>exact a.pl _ _ _ h
 |struct _ h=>exact a.pl _ _ _ h
 |pointer _ _ h _=>exact a.pl _ _ _ h
 |func _ _ h=>exact a.pl _ _ _ h
 |map _ _ h _ _ _=>exact a.pl _ _ _ h
 |chan _ _ h _ _=>exact a.pl _ _ _ h
 |iface _ h=>exact a.pl _ _ _ (a.done _ _ h).1
 |gB _ _ _ _ h=>exact a.pl _ _ _ h
 |named _ _ _ _ h=>exact a.pl _ _ _ h
 |union _ h=>exact a.pl _ _ _ h
 |err _ _ h=>exact a.pl _ _ _ h
 |comp _ h=>exact a.pl _ _ _ h
theorem tD{len:Nat}{u:U}{pos f:Nat}(h:TS.Form len u pos f)(hk:u.k=1):0≤u.n∧u.n<18:=by
 cases h with
 |basic _ a b _=>exact⟨a,b⟩
 |pre a _=>omega
 |one a _ _=>omega
 |ptr a _ _ _=>omega
 |_=>omega
theorem tE{len:Nat}{p:Pm}{g:Ge}{u:U}{x:Value}(hu:dh len u)(H:TS.Node p g u x):∃t b rt d,t≠128∧(x=ae t b∨AC p x (ae t b))∧(t=56→p b 6=some (ae rt d))∧(t≠56→ae rt d=ae t b)∧TS.Node p g (under u) (ae rt d):=by
 cases hu with
 |mk F I J h2 K v L w r=>
 obtain⟨b,c,f,A⟩:=F.strip H;obtain⟨aa,B,l,_⟩:=F.bare;have M:=aa.aB;by_cases h:(bare u).k=11
 ·obtain⟨y,C,_⟩:=J h
  obtain⟨e,_,_,_,i⟩:=c.ix h;rcases i with G|⟨P,z,m,D,o⟩
  ·rw[C]at G;cases G
  ·rw[C]at m;cases m
   obtain⟨rt,d,rfl⟩:=o.val;have a:ae (bf (bare u).k) b=ae 56 (g.nb (bare u).n.toNat):=e;have E:b=g.nb (bare u).n.toNat:=by injection a with _ a;injection a with a;injection a with a;injection a
   exact⟨_,b,rt,d,f,A,fun _=>by rw[E];exact D.2.1,fun j=>absurd (by rw[h];rfl) j,by rw[ik h C];exact o⟩
 ·by_cases s:(bare u).k=15
  ·obtain⟨e,i,_,z,D,o⟩:=c.jW s
   obtain⟨rt,d,rfl⟩:=o.val;have a:ae (bf (bare u).k) b=ae 56 g.eb:=e;have E:b=g.eb:=by injection a with _ a;injection a with a;injection a with a;injection a
   exact⟨_,b,rt,d,f,A,fun _=>by rw[E];exact D.2.1,fun j=>absurd (by rw[s];rfl) j,by rw[im s i];exact o⟩
  ·have q:=gx h s
   have N:=(c.tag B l).2;refine⟨_,b,_,b,f,A,fun e=> ?_,fun _=>rfl,by rw[q];exact c⟩;exfalso;have O:bf (bare u).k=bf 11:=e;rw[q]at w v;exact h (dY O (by omega) (by decide))
theorem tF{len:Nat}{p:Pm}{g:Ge}{u:U}(hu:dh len u):∀{v:U}{x:Value},dh len v→TS.Node p g u x→TS.Node p g v x→(∀d,bj d u=bj d v)∧cw u=cw v:=by
 induction hu with
 | @mk u hv H hf h2 w I J K z ih=>
   intro v x kv hn kn;obtain⟨t,b,rt,rb,ht,X,P3,P4,hr⟩:=tE (.mk hv H hf h2 w I J K z) hn;obtain⟨t',b',P5,P6,P7,L,M,N,n⟩:=tE kv kn;have e:ae t b=ae t' b':=by
    rcases X with rfl|X
    ·rcases L with e|kx
     ·exact e
     ·obtain⟨_,e,_⟩:=kx.start;injection e with D;exact absurd D ht
    ·rcases L with rfl|kx
     ·obtain⟨_,e,_⟩:=X.start;injection e with D;exact absurd D P7
     ·exact X.unique kx
   obtain rfl:t=t':=by injection e
   obtain rfl:b=b':=by injection e with _ e;injection e with e;injection e with e;injection e
   have er:ae rt rb=ae P5 P6:=by
    by_cases Y:t=56
    ·have:=P3 Y;rw[M Y]at this;exact(Option.some.inj this).symm
    ·rw[P4 Y,N Y]
   rw[←er]at n;cases kv with
   |mk kv Qb kf k2 E Qc Qd Qe j=>
   have C:=H.aB;have O:=(hr.tag h2 w).2;have P:=(n.tag k2 E).2;have P8:(under u).k=(under v).k:=dY ((iH hr h2 w).symm.trans (iH n k2 E)) ⟨h2,w,O.1,O.2,I,C.1,C.2,J,K⟩ ⟨k2,E,P.1,P.2⟩;by_cases h3:(under u).k=3
   ·have Q:(under v).k=3:=by omega
    obtain⟨c,e,y,D,F,_,hc,hy⟩:=hr.jl h3;obtain⟨c',e',y',R,o,_,m,P9⟩:=n.jl (by omega);rw[D]at R;cases R;rw[hc]at m;cases m;obtain⟨i1,i2⟩:=ih e (by rw[F];simp) (.inl h3) (j e' (by rw[o];simp) (.inl (by omega))) hy P9;exact⟨fun d=>by rw[jU (.inl h3),jU (.inl Q),F,o];simp[i1 d],by rw[kO (.inl h3),kO (.inl Q),F,o];simp[i2]⟩
   ·by_cases Z:(under u).k=5
    ·have S:(under v).k=5:=by omega
     obtain⟨c,a,a',cc,Qf,f,xs,D,hc,_,_,_,T,_,A,B⟩:=hr.jm Z;obtain⟨c2,b1,Qg,dd,Qh,f',Qi,R,m,_,_,_,G,_,q,r⟩:=n.jm (by omega);rw[D]at R;cases R;rw[hc]at m;have hl:(under u).es.length=(under v).es.length:=by injection m with k1;injection k1
     have ha:a=b1:=by injection m with k1;injection k1
     subst ha;have hi:∀i(h:i<(under u).es.length)(s:i<(under v).es.length),(∀d,bj d (under u).es[i]=bj d (under v).es[i])∧cw (under u).es[i]=cw (under v).es[i]:=fun i h s=>by
      have P_:f i=f' i:=oJ (bN.unique T (by rw[hl];exact G) h);have g1:=(A i h).2.2.1;have g2:=(q i s).2.2.1;rw[←P_,g1]at g2;exact ih _ (List.getElem_mem h) (.inr Z) (j _ (List.getElem_mem s) (.inr (by omega))) (B i h) (by rw[Option.some.inj g2];exact r i s)
     have hm:∀d,(under u).es.map (bj d)=(under v).es.map (bj d):=fun d=>List.ext_getElem (by simp[hl]) fun i h s=>by simp only[List.length_map]at h s;simp[(hi i h s).1 d]
     have Qa:(under u).es.map cw=(under v).es.map cw:=List.ext_getElem (by simp[hl]) fun i h s=>by simp only[List.length_map]at h s;simp[(hi i h s).2]
     refine⟨fun d=> ?_,by rw[kO (.inr Z),kO (.inr S),Qa]⟩;rw[jU (.inr Z),jU (.inr S)];have:=congrArg (fun l=>l.all id) (hm d);simpa [List.all_map,Function.comp_def]using this
    ·have V:¬((under u).k=3∨(under u).k=5):=by omega
     have W:¬((under v).k=3∨(under v).k=5):=by omega
     exact⟨fun d=>by rw[mr V,mr W,P8],by rw[rS V,rS W]⟩
def ll(len:Nat)(p:Pm)(g:Ge)(d:Bool)(y:Value):Prop:=∀v,dh len v→TS.Node p g v y→bj d v=true
theorem tG(len:Nat)(p:Pm)(g:Ge)(d:Bool){u:U}(hu:dh len u):∀(x:Value),TS.Node p g u x→
 (∀P:Value→Prop,(∀y,P y→∀v,dh len v→TS.Node p g v y→bj d v=true∨cw u<cw v)→fw p g d (ll len p g d) P (bj d u) x)∧∀w:World,aq p g w→Calls Tryz.prog 51 #[x,.bool d,.map none] w (gJ (ll len p g d) (bj d u) (fun _=>none) none w):=by
 induction hu with
 | @mk u hv C S h2 D Qb Qc X E ih=>
   intro x J;have hu:dh len u:= .mk hv C S h2 D Qb Qc X E;have Y:=hv.bare.1.aB;have z:bj d u=true→ll len p g d x:=fun h v G H=>by rw[←(tF hu G J H).1 d];exact h
   have m:∀P:Value→Prop,(∀y,P y→∀v,dh len v→TS.Node p g v y→bj d v=true∨cw u<cw v)→P x∨ll len p g d x→bj d u=true:=fun P q h=>h.elim (fun h=>(q x h u hu J).resolve_right (Nat.lt_irrefl _)) fun h=>h u hu J;have hQ:∀P:Value→Prop,(∀y,P y→∀v,dh len v→TS.Node p g v y→bj d v=true∨cw u<cw v)→∀e,cw e<cw u→∀y,P y∨y=x→∀v,dh len v→TS.Node p g v y→bj d v=true∨cw e<cw v:=fun P q e he y T v G H=>by
    rcases T with T|rfl
    ·exact(q y T v G H).imp id fun h=>Nat.lt_trans he h
    ·right;rw[←(tF hu G J H).2];exact he
   have Z:∀y:Value,False→∀v,dh len v→TS.Node p g v y→bj d v=true∨cw u<cw v:=fun _ h=>h.elim;obtain⟨t,b,rt,s,rfl,o,hr⟩:=iE J (iy hv) S Y.1 Y.2;rcases hr with⟨_,hr⟩|⟨h,_⟩
   rotate_left
   ·exact absurd h X
   have k:=Bv J;have l:∀w,aq p g w→Plain w b:=fun w r=>Bw r J;have K:=C.aB;have P3:=iH hr h2 D;have hk:=(hr.tag h2 D).2;have Qd:=k_ hk.1 hk.2 h2 K.1 K.2 D;have A:= @mr d u;have Q:= @jU d u;have R:= @xY u;generalize under u=v at*;subst P3;rcases Qd with h|h|h|h|h|h|h|h|h|h
   ·obtain⟨c,e,L⟩:=hr.jk h
    cases dg e;obtain⟨_,hF⟩:=C.form;have hb:=tD hF h;have P4:((v.n+1)==25)=false:=by simp;omega
    have j:bj d u=true:=by rw[A (by omega),h];rfl
    rw[h]at o;exact⟨fun P q=>Bj p g d _ P _ t b s k l (m P q) z (v.n+1) L P4 j o,fun w r=>Bk p g d _ (fun _=>False) _ t b s w r k l z (v.n+1) L P4 j o⟩
   ·obtain⟨c,e,y,e1,P5,_,L,T⟩:=hr.jl h
    cases dg e1;obtain⟨et,eb,rfl⟩:=T.val;have he:e∈v.es:=by rw[P5];simp
    have V:=(ih e he (.inl h) _ T).1;have Qe:bj d e=bj d u:=by rw[Q (.inl h),P5];simp
    rw[Qe]at V;rw[h]at o;exact⟨fun P q=>Br p g d _ P _ t b s k l (m P q) z et eb L (V _ (hQ P q e (R (.inl h) he))) o,fun w r=>Bs p g d _ (fun _=>False) _ t b s w r k l z et eb L (V _ (hQ _ Z e (R (.inl h) he))) o⟩
   ·rw[h]at o
    have j:bj d u=false:=by rw[A (by omega),h];rfl
    exact⟨fun P q=>pc p g d _ P _ t b s k l (m P q) z _ (by decide) (by decide) (by decide) (by decide) (by decide) (by decide) j o,fun w r=>pd p g d _ (fun _=>False) _ t b s w r k l z _ (by decide) (by decide) (by decide) (by decide) (by decide) (by decide) j o⟩
   ·obtain⟨c,a,a',cc,Qg,f,xs,e1,L,_,_,M,N,_,I,B⟩:=hr.jm h
    cases dg e1;obtain⟨ft,fb,P6⟩:=lf fun i hi=>(B i hi).val;have V:∀P:Value→Prop,(∀y,P y→∀v,dh len v→TS.Node p g v y→bj d v=true∨cw u<cw v)→∀i,i<v.es.length→fw p g d (ll len p g d) (fun y=>P y∨y=ae t b) (bj d (v.es.getD i default)) (.iface (ft i) (.pointer (some ⟨fb i,0,none⟩))):=fun P q i hi=>by
     have hm:=List.getElem_mem hi;have:=(ih v.es[i] hm (.inr h) _ (B i hi)).1 _ (hQ P q _ (R (.inr h) hm));rw[P6 i hi]at this;rw[List.getD_eq_getElem?_getD,List.getElem?_eq_getElem hi];exact this
    have P7:∀i,i<v.es.length→p (f i) 3=some (.iface (ft i) (.pointer (some ⟨fb i,0,none⟩))):=fun i hi=>by
     have:=(I i hi).2.2.1;rw[P6 i hi]at this;exact this
    have P8:(∀i,i<v.es.length→bj d (v.es.getD i default)=true)→bj d u=true:=fun P9=>by
     rw[Q (.inr h),List.all_eq_true];intro e he;obtain⟨i,hi,rfl⟩:=List.getElem_of_mem he;have:=P9 i hi;rwa [List.getD_eq_getElem?_getD,List.getElem?_eq_getElem hi]at this
    have P_:∀i,i<v.es.length→bj d (v.es.getD i default)=false→bj d u=false:=fun i hi S=>by
     rw[Q (.inr h),List.all_eq_false];refine⟨v.es[i],List.getElem_mem hi,?_⟩;rw[List.getD_eq_getElem?_getD,List.getElem?_eq_getElem hi]at S;simp only[Option.getD_some]at S;rw[S];decide
    rw[h]at o;exact⟨fun P q=>Bp p g d _ P _ t b s k l (m P q) z _ _ _ f ft fb _ M L N P7 (V P q) P8 P_ o,fun w r=>Bq p g d _ (fun _=>False) _ t b s w r k l z _ _ _ f ft fb _ M L N P7 (V _ Z) P8 P_ o⟩
   ·rw[h]at o
    have j:bj d u=true:=by rw[A (by omega),h];rfl
    exact⟨fun P q=>Bl p g d _ P _ t b s k l (m P q) z j o,fun w r=>Bm p g d _ (fun _=>False) _ t b s w r k l z j o⟩
   ·rw[h]at o
    have j:bj d u=false:=by rw[A (by omega),h];rfl
    exact⟨fun P q=>pc p g d _ P _ t b s k l (m P q) z _ (by decide) (by decide) (by decide) (by decide) (by decide) (by decide) j o,fun w r=>pd p g d _ (fun _=>False) _ t b s w r k l z _ (by decide) (by decide) (by decide) (by decide) (by decide) (by decide) j o⟩
   ·rw[h]at o
    have j:bj d u=false:=by rw[A (by omega),h];rfl
    exact⟨fun P q=>pc p g d _ P _ t b s k l (m P q) z _ (by decide) (by decide) (by decide) (by decide) (by decide) (by decide) j o,fun w r=>pd p g d _ (fun _=>False) _ t b s w r k l z _ (by decide) (by decide) (by decide) (by decide) (by decide) (by decide) j o⟩
   ·rw[h]at o
    have j:bj d u=true:=by rw[A (by omega),h];rfl
    exact⟨fun P q=>Bn p g d _ P _ t b s k l (m P q) z j o,fun w r=>Bo p g d _ (fun _=>False) _ t b s w r k l z j o⟩
   ·obtain⟨c,e1,Qf⟩:=hr.gV h
    cases dg e1;have j:bj d u=d:=by rw[A (by omega),h];cases d<;>rfl
    have Qa:=fun W hW=>Bi _ W hW hv J;have key:∀W,aq p g W→∃(tb tc:Nat)(ta:Option Addr)(O:Nat→Nat),p s 0=some (.pointer none)∧p s 6=some (ptr tb)∧p tb 2=some (.slice ta 1 tc)∧p tb 3=some (.bool false)∧bN p ta 1 (fun i=>ptr (O i))∧p (O 0) 1=some .nilIface:=fun W r=>by
     obtain⟨ck,tb,ma,mc,f,ta,tc,ts,cmp,q6,q0,q1,qn,qm,qr,qf,q2,Qh,Qi,⟨O,tr,tt⟩,q3,tok,_⟩:=r.done _ _ Qf;obtain⟨rfl,rfl⟩:=tok.gen C.val.gen;exact⟨tb,tc,ta,O,ck,q6,q2,q3,tr,tt 0 (by simp)⟩
    rw[h]at o;refine⟨fun P q mb w F r=> ?_,fun w r=> ?_⟩
    ·obtain⟨tb,tc,ta,O,k0,k6,k2,k3,kr,kt⟩:=key w r
     exact Bt p g d _ P _ t b s k l (m P q) z tb tc ta O k0 k6 k2 k3 kr kt Qa j o mb w F r
    ·obtain⟨tb,tc,ta,O,k0,k6,k2,k3,kr,kt⟩:=key w r
     exact Bu p g d _ (fun _=>False) _ t b s w r k l z tb tc ta O k0 k6 k2 k3 kr kt Qa j o
   ·omega
end Go.Proofs.YtkfaiocajcjomaaGreatDoor
namespace TS
open Go Go.RowKit Go.Proofs.YtkfaiocajcjomaaGreatDoor
theorem By{w:World}{B:Nat}{e:TypeId}{g n cap:Nat}{xs:List Value}(h:w.ownsRow B e 1 (.slice (some ⟨g,0,none⟩) n cap) n xs){i:Nat}(hi:i≤n):w.ownsRow B e 1 (.slice (some ⟨g,0,none⟩) i cap) i (xs.take i):=by
 have m:=h.1;rcases h.2 with⟨b,_⟩|⟨o,f,cur,b,j,k,l,c,d,a⟩
 ·cases b
 ·cases b
  refine⟨by simp;omega,.inr ⟨g,cap,cur,rfl,j,k,by omega,c,d,?_⟩⟩;rw[←a,List.take_take];congr 1;omega
theorem Kept.toBelow{w a:World}(h:Kept (fun k=>(none:Option Nat)=some k) w a):Below w.heap.size w a:=⟨h.os,h.tape,h.output,h.size,fun k hk=>h.block k hk fun e=>by cases e⟩
structure gh(q:Pm)(g:Ge)(B n:Nat)(a:Option Addr)(b:Nat)(rs:List Nat)(M:List Tm)(wr:World)(k i:Nat)(L:List Nat)(S:List Tm):Prop where
 own:wr.ownsRow B 179 1 (.slice a n b) n (L.map pv)
 le:i≤k
 drop:L.drop k=rs.drop k
 len:S.length=i
 ln:S=(M.take k).filter gC
 cg:∀j(h:j<S.length),a7 q g S[j] (L.getD j 0)
theorem gh.skip{q:Pm}{g:Ge}{B n:Nat}{a:Option Addr}{b:Nat}{rs:List Nat}{M:List Tm}{wr:World}{k i:Nat}{L:List Nat}{S:List Tm}(h:gh q g B n a b rs M wr k i L S)(hM:k<M.length)(c:gC M[k]=false):gh q g B n a b rs M wr (k+1) i L S where
 own:=h.own
 le:=by have:=h.le;omega
 drop:=by rw[←List.drop_drop,h.drop,List.drop_drop]
 len:=h.len
 ln:=by
  have e:M.take (k+1)=M.take k++ [M[k]]:=by rw[List.take_add_one,List.getElem?_eq_getElem hM];rfl
  rw[e,List.filter_append,←h.ln];simp[c]
 cg:=h.cg
theorem gh.below{q:Pm}{g:Ge}{B n:Nat}{a:Option Addr}{b:Nat}{rs:List Nat}{M:List Tm}{wr c:World}{k i:Nat}{L:List Nat}{S:List Tm}(h:gh q g B n a b rs M wr k i L S)(d:Below wr.heap.size wr c):gh q g B n a b rs M c k i L S:=
 {h with own:=bD h.own d}
theorem gh.take{q:Pm}{g:Ge}{B n b:Nat}{c:Nat}{rs:List Nat}{M:List Tm}{wr:World}{k i:Nat}{L:List Nat}{S:List Tm}(h:gh q g B n (some ⟨b,0,none⟩) c rs M wr k i L S)(hk:k<n)(p:L.length=n)(hM:k<M.length){z:Nat}(d:a7 q g M[k] z)(f:gC M[k]=true):
 gh q g B n (some ⟨b,0,none⟩) c rs M (wr.setCell ⟨b,i,none⟩ (pv z)) (k+1) (i+1) (L.set i z) (S++ [M[k]]) where
 own:=by
  have:=(World.ownsRow.stored h.own i (pv z)).1;rwa [←List.map_set]at this
 le:=by have:=h.le;omega
 drop:=by
  have:=h.le;rw[List.drop_set_of_lt (by omega),←List.drop_drop,h.drop,List.drop_drop]
 len:=by simp[h.len]
 ln:=by
  have e:M.take (k+1)=M.take k++ [M[k]]:=by rw[List.take_add_one,List.getElem?_eq_getElem hM];rfl
  rw[e,List.filter_append,←h.ln];simp[f]
 cg:=fun j l=>by
  have m:=h.len;have hle:=h.le;simp only[List.length_append,List.length_cons,List.length_nil]at l;by_cases a:j<S.length
  ·rw[List.getElem_append_left a]
   have:=h.cg j a;rw[List.getD_eq_getElem?_getD,List.getElem?_set_ne (by omega),←List.getD_eq_getElem?_getD];exact this
  ·have o:j=S.length:=by omega
   subst o;rw[List.getElem_append_right (Nat.le_refl _)];simp only[Nat.sub_self,List.getElem_cons_zero];rw[m,List.getD_eq_getElem?_getD,List.getElem?_set_self (by omega)];exact d
end TS
namespace Go.Proofs.YtkfaiocajcjomaaGreatDoor
open Go.RowKit TS
def lq(p:Pm)(g:Ge)(R:List Tm×Bool)(w:World)(e:Ending)(a:World):Prop:=
 ∃q v rs,e= .returned (.tuple #[v,.bool R.2])∧aL p q w.heap.size∧aq q g a∧b7 q g w.heap.size a v rs R.1∧Below w.heap.size w a∧∀b,v.ownBlock=some b→∀o,q b o=none
theorem Bz(len:Nat)(p:Pm)(g:Ge)(a a':Option Addr)(n n' c c':Nat)(f f':Nat→Nat)(xs I:List Tm)(C J:Bool)(w:World)(hn:n=xs.length)(Qo:n'=I.length)(hl:n≤1048576)(QJ:n'≤1048576)(hE:aq p g w)(hp:bA w a n f)(Qp:bA w a' n' f')
 (ht:∀i(h:i<xs.length),a7 p g xs[i] (f i))(Qq:∀i(h:i<I.length),a7 p g I[i] (f' i))(ok:∀t∈xs,dA len t)(Qr:∀t∈I,dA len t)
 (P7:bU xs I= [none]∨(none ∉ bU xs I∧(bU xs I).length≤1048576))(P8:∀d e,some (d,e)∈bU xs I→dh len e):
 Calls Tryz.prog 108 #[.slice a n c,.bool C,.slice a' n' c',.bool J] w (lq p g (fo (xs,C) (I,J)) w):=by
 have hM:=Lib.hid (Bg len p g a a' n n' c c' f f' xs I w hn Qo hl QJ hE hp Qp ht Qq ok Qr);have QK:Hid (5<w.heap.size):=World.block_lt_of_cell? _ _ (hE.cap 65 (by decide) (by decide));have Qe:=Lib.hid P7;have Qf:=Lib.hid P8;clear hE hp Qp ht Qq ok Qr P7 P8 hn Qo;have hR:fo (xs,C) (I,J)=if(C||J)&& !dp (bU xs I)then((bU xs I).filter gC,false)else(bU xs I,C||J):=rfl
 rw[hR];clear hR;generalize bU xs I=M at*;by_cases D:M= [none]
 ·
  have hA:Hid (M= [none]):=D;have U:dp M=true:=by rw[D];rfl
  rw[U];clear D U;cases hc:(C||J)
  ·have hx:C=false:=by cases C;rfl;cases hc
   have hy:J=false:=by cases J;rfl;rw[hx]at hc;cases hc
   subst hx;subst hy;go_enter Tryz.func108,Tryz.ntmps108;go_wp2_with fail
   refine hM.out.mono ?_;rintro e w1 ⟨q,v,rs,rfl,V,m,hT,Y,Q⟩;have s:Hid (lq p g (M,false) w (.returned (.tuple #[v,.bool false])) w1):=⟨q,v,rs,rfl,V,m,hT,Y,Q⟩
   clear V m hT Y Q hM;go_wp2_with fail
   refine(gI _).mono ?_;rintro e R ⟨rfl,rfl⟩;go_wp2_with fail
   go_ret2;exact s.out
  ·go_enter Tryz.func108,Tryz.ntmps108
   go_wp2_with fail
   refine hM.out.mono ?_;rintro e w1 ⟨q,v,rs,rfl,V,m,hT,Y,Q⟩;obtain⟨A,y,rfl⟩:=bd hT.own;obtain⟨q1,a1,c1,e1,P3,K,E,P4,N⟩:=lk m hT Q;have T:=hT.len;rw[hA.out]at T;have P:Hid (∀W,ar w1 W→Calls Tryz.prog 89 #[.slice A rs.length y] W fun e w'=>e= .returned (.bool true)∧W=w'):=fun W hW=>by
    obtain⟨rfl,rfl⟩:A=a1∧y=c1:=by cases e1;exact⟨rfl,rfl⟩
    refine o4 A rs.length y _ W (E.cV hW) (by simp at T;omega) ?_;have:=N 0 (by rw[hA.out];simp);simp only[hA.out,List.getElem_cons_zero]at this;exact hW.cell (K.kw _ _ _ this)
   have s:Hid (lq p g (M,true) w (.returned (.tuple #[.slice A rs.length y,.bool true])) w1):=⟨q,_,rs,rfl,V,m,hT,Y,Q⟩
   clear V m hT Y Q hM e1 P3 K E P4 N T;have Qg:C=true∨(C=false∧J=true):=by cases C<;>cases J<;>simp_all
   rcases Qg with rfl|⟨rfl,rfl⟩
   all_goals
    go_wp2_with fail
    refine(P.out _ (ar.refl _)).mono ?_;rintro e R ⟨rfl,rfl⟩;go_wp2_with fail
    refine(P.out _ (ar.refl _)).mono ?_;rintro e R ⟨rfl,rfl⟩;go_wp2_with fail
    refine(gI _).mono ?_;rintro e R ⟨rfl,rfl⟩;go_wp2_with fail
    go_ret2;exact s.out
 ·have P5:none ∉ M∧M.length≤1048576:=Qe.out.resolve_left D
  have U:dp M=false:=by
   unfold dp;rw[List.any_eq_false];intro t ht;cases t with
   |none=>exact absurd ht P5.1
   |some _=>exact Bool.false_ne_true
  rw[U];clear D U;cases hc:(C||J)
  ·have hx:C=false:=by cases C;rfl;cases hc
   have hy:J=false:=by cases J;rfl;rw[hx]at hc;cases hc
   subst hx;subst hy;go_enter Tryz.func108,Tryz.ntmps108;go_wp2_with fail
   refine hM.out.mono ?_;rintro e w1 ⟨q,v,rs,rfl,V,m,hT,Y,Q⟩;have s:Hid (lq p g (M,false) w (.returned (.tuple #[v,.bool false])) w1):=⟨q,v,rs,rfl,V,m,hT,Y,Q⟩
   clear V m hT Y Q hM;go_wp2_with fail
   refine(gI _).mono ?_;rintro e R ⟨rfl,rfl⟩;go_wp2_with fail
   go_ret2;exact s.out
  ·go_enter Tryz.func108,Tryz.ntmps108
   go_wp2_with fail
   refine hM.out.mono ?_;rintro e w1 ⟨q,v,rs,rfl,V,m,hT,Y,Q⟩;obtain⟨A,y,rfl⟩:=bd hT.own;have QL:Hid (∀b,(Value.slice A rs.length y).ownBlock=some b→b≠5):=fun b hb e=>by
    have h1:=(hT.own.lt b hb).1;have:=QK.out;omega
   obtain⟨q1,a1,c1,e1,P3,K,E,P4,N⟩:=lk m hT Q;have T:=hT.len;have P:Hid (Calls Tryz.prog 89 #[.slice A rs.length y] w1 fun e w'=>e= .returned (.bool false)∧w1=w'):=by
    obtain⟨rfl,rfl⟩:A=a1∧y=c1:=by cases e1;exact⟨rfl,rfl⟩
    refine o5 A rs.length y _ w1 (by omega) E fun i hi=> ?_;have:=N i (by omega);cases F:M[i]'(by omega)with
    |none=>
     have hm:M[i]'(by omega)∈M:=List.getElem_mem (by omega);rw[F]at hm;exact absurd hm P5.1
    |some t=>
     rw[F]at this;obtain⟨_,x,h2,h3⟩:=this;obtain⟨t',b',rfl⟩:=h3.val;exact⟨_,_,K.kw _ _ _ h2⟩
   have Qs:=Lib.hid hT;have Qt:=Lib.hid m;have QM:=Lib.hid Y;have Qu:=Lib.hid Q;have QN:=Lib.hid V;have P9:=Lib.hid P5;have P_:=Lib.hid T;have QT:rs.length≤1048576:=by omega
   clear T;clear V m hT Y Q hM e1 P3 K E P4 N P5;have Qg:C=true∨(C=false∧J=true):=by cases C<;>cases J<;>simp_all
   rcases Qg with rfl|⟨rfl,rfl⟩
   all_goals
    go_wp2_with fail
    refine P.out.mono ?_;rintro e R ⟨rfl,rfl⟩;go_wp2_with fail
    go_loopw [30,12] (fun vk vi wr=> ∃(k i:Nat)(L:List Nat)(S:List Tm),k≤rs.length∧vk= .int .i64 k∧vi= .int .i64 i∧L.length=rs.length∧gh q g w.heap.size rs.length A y rs M wr k i L S∧Below w.heap.size w wr∧aq q g wr) (fun vk _ _=>rs.length- (intOf vk).toNat)
    case atStart=>exact⟨0,0,rs,[],Nat.zero_le _,rfl,rfl,rfl,⟨Qs.out.own,Nat.le_refl _,rfl,rfl,rfl,fun j h=>absurd h (Nat.not_lt_zero _)⟩,QM.out,Qt.out⟩
    case round=>
     obtain⟨k,i,L,S,hk,rfl,rfl,hL,hF,Qv,Qw⟩:=hrel;have r:=Lib.hid hF;have G:=Lib.hid Qv;have z:=Lib.hid Qw;have QU:=hF.le;clear hF Qv Qw;by_cases u:k<rs.length
     ·have QR:(k:Int)<rs.length:=by omega
      obtain⟨B,cap,e0,_,Qh,QS,_⟩:=jO r.out.own (by omega);cases e0;have Z:k<M.length:=by have:=P_.out;omega
      have Qx:L.getD k 0=rs[k]:=by
       have:=congrArg (fun l=>l[0]?) r.out.drop;simp only[List.getElem?_drop,Nat.add_zero]at this;rw[List.getD_eq_getElem?_getD,this];simp[u]
      have O:∀j,j<rs.length→wr.cell? ⟨B,j,none⟩=some (pv (L.getD j 0)):=fun j hj=>by
       rw[r.out.own.cellAt j (by omega)];simp[hL,hj]
      obtain⟨zk,Qi,c1⟩:∃zk,a7 q g M[k] zk∧wr.cell? ⟨B,k,none⟩=some (.pointer (some ⟨zk,0,none⟩)):=⟨rs[k],Qs.out.cg k Z u,by rw[←Qx];exact O k u⟩
      obtain⟨zi,c2⟩:∃zi,wr.cell? ⟨B,i,none⟩=some (.pointer (some ⟨zi,0,none⟩)):=⟨_,O i (by omega)⟩
      have c3:=r.out.own.frozenAt i;cases F:M[k]with
      |none=>
       have hm:M[k]∈M:=List.getElem_mem Z;rw[F]at hm;exact absurd hm P9.out.1
      |some t=>
       obtain⟨d,ev⟩:=t;have Qa:=Qi;rw[F]at Qa;obtain⟨_,x,h2,h3⟩:=Qa;obtain⟨xt,xb,rfl⟩:=h3.val;have c4:=z.out.kw _ _ _ h2;have Qj:=Lib.hid ((tG len q g false (Qf.out d ev (by rw[←F];exact List.getElem_mem Z)) _ h3).2 wr z.out);have Qy:=Lib.hid Qi;have Qz:gC M[k]=bj false ev:=by rw[F];rfl
       have Qb:=Lib.hid Qz;clear O Qi h2 h3 F Qx Qz;have Qk:=Lib.hid hL;clear hL;go_wp2_with fail
       refine(gI _).mono ?_;rintro e R ⟨rfl,rfl⟩;go_wp2_with fail
       refine Qj.out.mono ?_;rintro e R ⟨⟨o,rfl,QA⟩,QB,_⟩;have Qc:=Lib.hid QA;clear QA;have H:=Lib.hid QB.toBelow;have d2:=ak H.out c2;have d3:R.frozen? ⟨B,i,none⟩=false:=TS.frozen_kept H.out Qh c3;clear QB;cases o with
       |none=>
        have QC:=r.out.below H.out;have QO:Hid (gh q g w.heap.size rs.length (some ⟨B,0,none⟩) y rs M (R.setCell ⟨B,i,none⟩ (pv zk)) (k+1) (i+1) (L.set i zk) (S++ [M[k]])):=QC.take u Qk.out Z Qy.out (by rw[Qb.out,Qc.out];rfl);have QD:Hid (w.heap.size≤B):=(r.out.own.lt B rfl).1;have QP:Hid (aq q g (R.setCell ⟨B,i,none⟩ (pv zk))):=(z.out.below H.out).own (X:=fun b=>b=B) ((Kept.refl (fun b=>b=B) R).setCell (a:=⟨B,i,none⟩) (fun _=>rfl) _) (fun b e=>by subst e;exact Qu.out _ rfl) fun e=>QL.out B rfl e.symm;clear QC;go_wp2_with fail
        refine⟨⟨k+1,i+1,L.set i zk,S++ [M[k]],by omega,by go_num,by go_num,by simp[Qk.out],QO.out,(G.out.trans (H.out.mono G.out.size)).setCell QD.out _,QP.out⟩,?_⟩;first|omega|(simp[intOf];omega)
       |some o=>
        go_wp2_with fail
        refine⟨⟨k+1,i,L,S,by omega,by go_num,rfl,Qk.out,(r.out.below H.out).skip Z (by rw[Qb.out,Qc.out];rfl),G.out.trans (H.out.mono G.out.size),z.out.below H.out⟩,?_⟩;first|omega|(simp[intOf];omega)
     ·have QV:¬(k:Int)<rs.length:=by omega
      have QE:i≤rs.length:=by omega
      have Qd:(∃B,A=some ⟨B,0,none⟩∧rs.length≤y∧B<wr.heap.size)∨(A=none∧y=0∧i=0):=by
       rcases r.out.own.2 with⟨e,h0⟩|⟨B,cap,cur,e,_,Qh,QQ,_⟩
       ·injection e with e1 e2 e3
        exact .inr ⟨e1,e3,by omega⟩
       ·cases e;exact .inl ⟨B,rfl,QQ,(Array.getElem?_eq_some_iff.1 Qh).1⟩
      have QW:i≤y:=by rcases Qd with⟨_,_,h,_⟩|⟨_,_,h⟩<;>omega
      have QX:(i:Int)≤y:=by omega
      have P6:b7 q g w.heap.size wr (.slice A i y) (L.take i) S:=by
       have u:(L.take i).length=i:=by rw[List.length_take];omega
       refine⟨?_,by rw[u,r.out.len],fun j hj QF=> ?_⟩
       ·rw[u]
        rcases Qd with⟨B,rfl,_⟩|⟨rfl,rfl,rfl⟩
        ·have:=By r.out.own QE
         rwa [←List.map_take]at this
        ·simpa using World.ownsRow_nil wr w.heap.size 179 1
       ·have:=r.out.cg j hj
        rw[u]at QF;have e:(L.take i)[j]'(by rw[u];exact QF)=L.getD j 0:=by simp[show j<L.length by omega]
        rw[e];exact this
      have Ql:S=M.filter gC:=by
       have:=P_.out;rw[r.out.ln,List.take_of_length_le (by omega)]
      have QG:S.Sublist M:=by rw[Ql];exact List.filter_sublist
      have Qm:∀b,(Value.slice A i y).ownBlock=some b→∀o,q b o=none:=fun b hb=>Qu.out b (by cases A<;>simpa [Value.ownBlock]using hb);have s:Hid (lq p g (M.filter gC,false) w (.returned (.tuple #[.slice A i y,.bool false])) wr):=
       ⟨q,_,L.take i,rfl,QN.out,z.out,by rw[Ql]at P6;exact P6,G.out,Qm⟩
      have Qn:Hid (Calls Tryz.prog 89 #[.slice A i y] wr fun e w'=>e= .returned (.bool false)∧wr=w'):=by
       obtain⟨q1,a1,c1,e1,P3,K,E,P4,N⟩:=lk z.out P6 Qm;have u:(L.take i).length=i:=by rw[List.length_take];omega
       rw[u]at e1 E;obtain⟨rfl,rfl⟩:A=a1∧y=c1:=by cases e1;exact⟨rfl,rfl⟩
       refine o5 A i y _ wr (by omega) E fun j hj=> ?_;have QH:j<S.length:=by rw[r.out.len];exact hj
       have:=N j QH;cases QI:S[j]with
       |none=>
        have hm:S[j]∈M:=QG.subset (List.getElem_mem QH);rw[QI]at hm;exact absurd hm P9.out.1
       |some t=>
        rw[QI]at this;obtain⟨_,x,h2,h3⟩:=this;obtain⟨t',b',rfl⟩:=h3.val;exact⟨_,_,K.kw _ _ _ h2⟩
      clear P6 QG Qm hL Ql;go_wp2_with fail
      refine Qn.out.mono ?_;rintro e R ⟨rfl,rfl⟩;go_wp2_with fail
      refine(gI _).mono ?_;rintro e R ⟨rfl,rfl⟩;go_wp2_with fail
      go_ret2;exact s.out
end Go.Proofs.YtkfaiocajcjomaaGreatDoor
namespace TS
open Go Go.RowKit
theorem KeyLaw.mono{P:Program}{kt:TypeId}{K b:World→Value→Prop}(L:KeyLaw P kt K)(h:∀w v,b w v→K w v):KeyLaw P kt b:=
 ⟨fun w em _ a=>L.check w em (h _ _ a),fun w _ c es he=>L.find w (h _ _ c) es fun e m=>h _ _ (he e m),fun w _ a=>L.stays w (h _ _ a)⟩
def du(B:Nat)(w:World)(v:Value):Prop:=∃b,v= .pointer (some ⟨b,0,none⟩)∧b<B∧Plain w b
theorem tL{B:Nat}{w:World}{v:Value}(h:du B w v):oW w v:=let⟨b,e,_,a⟩:=h;⟨b,e,a⟩
theorem tM(B:Nat):kW (du B):=fun _ _ _ _ _ a hk _ ⟨x,e,b,h⟩=>⟨x,e,b,sy a hk h⟩
theorem bV.ju{B b:Nat}{w a:World}{F:Value→Option Value}(h:bV (du B) w b F){X:Nat→Prop}(k:Kept X w a)(g:¬X b)(i:∀c,c<B→¬X c):bV (du B) a b F:=
 h.of (k.block b h.lt g) fun v j=>by
  obtain⟨c,e,d,cs,T,f⟩:=j;exact⟨c,e,d,cs,T,by rw[k.block c (Array.getElem?_eq_some_iff.1 f).1 (i c d)];exact f⟩
end TS
namespace Go.Proofs.YtkfaiocajcjomaaGreatDoor
open Go.RowKit TS
theorem BH(t b:Nat)(a:t≠91)(w:World):Calls Tryz.prog 141 #[.iface t (.pointer (some ⟨b,0,none⟩))] w fun e c=>e= .returned (.bool false)∧w=c:=by
 have h1:=ai br t b a;clear a;go_enter Tryz.func141,Tryz.ntmps141;go_wp2_with fail
 go_ret;exact⟨rfl,rfl⟩
theorem BI(b:Nat)(k:Int)(hk:(k==0)=false)(w:World)(c:w.cell? ⟨b,0,none⟩=some (.int .i64 k)):Calls Tryz.prog 141 #[.iface 91 (.pointer (some ⟨b,0,none⟩))] w fun e a=>e= .returned (.bool false)∧w=a:=by
 have h1:=ba br b;go_enter Tryz.func141,Tryz.ntmps141;go_wp2_with fail
 go_ret;exact⟨rfl,rfl⟩
theorem tN{p:Pm}{g:Ge}{u:U}{len:Nat}(t b:Nat)(w:World)(hw:KW p w)(hu:Vt len u)(h:TS.Node p g u (ae t b))(h2:u.k≠2)(d:u.k≠14):Calls Tryz.prog 107 #[.iface t (.pointer (some ⟨b,0,none⟩))] w fun e i=>e= .returned (.bool true)∧w=i:=by
 have a:=iH h h2 d;have f:=h.my h2 d;rw[←a]at f;have j:=Lib.hid (eC t (.pointer (some ⟨b,0,none⟩)) f w);have l:Hid (Calls Tryz.prog 141 #[.iface t (.pointer (some ⟨b,0,none⟩))] w fun e i=>e= .returned (.bool false)∧w=i):=by
  by_cases hk:u.k=1
  ·obtain⟨c,e,m⟩:=h.jk hk
   obtain⟨_,hF⟩:=hu.form;have:=tD hF hk;cases e;exact BI b (u.n+1) (by simp;omega) w (hw _ _ _ m)
  ·refine BH t b (fun e=>hk ?_) w
   rw[a]at e;have o:=(h.tag h2 d).2;have q:=hu.aB;have:91=bf 1:=rfl;rw[this]at e;exact(dY e.symm (by decide) (by omega)).symm
 clear a f h hu hw;go_enter Tryz.func107,Tryz.ntmps107;go_wp2_with fail
 refine j.out.mono ?_;rintro e i ⟨rfl,rfl⟩;go_wp2_with fail
 refine l.out.mono ?_;rintro e i ⟨rfl,rfl⟩;go_wp2_with fail
 go_ret;exact⟨rfl,rfl⟩
end Go.Proofs.YtkfaiocajcjomaaGreatDoor
