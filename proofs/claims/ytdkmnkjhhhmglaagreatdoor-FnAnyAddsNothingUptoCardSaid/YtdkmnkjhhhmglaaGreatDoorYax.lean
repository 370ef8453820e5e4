import Derived.Test.YtdkmnkjhhhmglaaGreatDoorYav
set_option maxRecDepth 100000
set_option maxHeartbeats 8000000
set_option linter.all false
namespace Go.Proofs.YtdkmnkjhhhmglaaGreatDoor
open Go.RowKit TS Go.Sort
def C8(len:Nat)(p:Pm)(g:Ge)(c:Nat)(u:U):Prop:=
 ∀(v:U)(x y st:Value)(w:World),iJ p g c w→Vt len u→Vt len v→TS.Node p g u x→TS.Node p g v y→fY g w u.sz v.sz st→
  Calls Tryz.prog 43 #[.pointer (some ⟨c,0,none⟩),x,y,st] w fun e a=>e= .returned (.bool (aB u v))∧au w a
theorem C9{p:Pm}{g:Ge}{c:Nat}{w:World}{u v:U}{b j:Nat}{st:Value}(d:iJ p g c w)(k:g.G b=some u)(f:g.G j=some v)(h:fY g w u.sz v.sz st):gU w b j st:=by
 induction h with
 |nil=>exact .nil
 |cons h1 h2 h3 a i n h7 l _ ih=>
  refine .cons h1 h2 h3 (d.pl _ _ _ (d.done _ _ a).1) (d.pl _ _ _ (d.done _ _ i).1) (fun e=> ?_) (fun e m=> ?_) l ih
  ·subst e;rw[k]at a;cases a;omega
  ·subst e;subst m;rw[f]at a;rw[k]at i;cases a;cases i;omega
theorem qX{p:Pm}{w:World}{v:Value}{n:Nat}{f:Nat→Nat}(h:eN p v n f)(hw:KW p w):(n=0∧v= .pointer none)∨(0<n∧∃tb a c,v= .pointer (some ⟨tb,0,none⟩)∧p tb 0=some (.slice a n c)∧w.cell? ⟨tb,0,none⟩=some (.slice a n c)∧bw w a n f):=by
 rcases h with h|⟨h1,tb,a,c,h2,h3,_,d⟩
 ·exact .inl h
 ·refine .inr ⟨h1,tb,a,c,h2,h3,hw _ _ _ h3,fun i hi=> ?_⟩
  obtain⟨b,o,e,g⟩:=d i hi;exact⟨b,o,e,hw _ _ _ g⟩
theorem eX{p:Pm}{w:World}{a:Option Addr}{n:Nat}{f:Nat→Nat}(h:b9 p a n fun i=>ptr (f i))(hw:KW p w):bw w a n f:=fun i hi=>let⟨b,o,e,c⟩:=h i hi;⟨b,o,e,hw _ _ _ c⟩
theorem vO(p:Pm)(c n j:Nat)(v C st:Value)(f D E F G H:Nat→Nat)(rs:Nat→Bool)(w:World)(h:KW p w)(k:∀b o v,p b o=some v→Plain w b)(h1:w.cell? ⟨c,1,none⟩=some (.bool false))(m:st= .pointer none∨∃s,st= .pointer (some ⟨s,0,none⟩))(L:n≤1099511627776)
 (M:eN p v n f)(x:eN p C j D)(N:∀i,i<n→p (f i) 3=some (.iface (E i) (.pointer (some ⟨F i,0,none⟩))))(O:∀i,i<j→p (D i) 3=some (.iface (G i) (.pointer (some ⟨H i,0,none⟩))))
 (P:n=j→∀i,i<n→ee c (.iface (E i) (.pointer (some ⟨F i,0,none⟩))) (.iface (G i) (.pointer (some ⟨H i,0,none⟩))) st (rs i) w)(q:v=C→n=j→∀i,i<n→rs i=true):
 Calls Tryz.prog 43 #[.pointer (some ⟨c,0,none⟩),.iface 103 v,.iface 103 C,st] w fun e y=>e= .returned (.bool (decide (n=j)&&bJ n rs))∧au w y:=by
 rcases qX M h with⟨rfl,rfl⟩|⟨Q,tb,a,J,rfl,l,K,R⟩
 ·rcases qX x h with⟨rfl,rfl⟩|⟨z,g,a',r,rfl,d,u,A⟩
  ·refine(id_eq c _ _ st 103 0 (.pointer none) w (d_ _ _ (by decide) w) (d_ _ _ (by decide) w) (vI w none)).mono ?_
   rintro e y ⟨rfl,rfl⟩;exact⟨by simp[bJ],au.refl _⟩
  ·refine(C0 c g j r a' st w m h1 z u).mono ?_
   rintro e y ⟨rfl,rfl⟩;have:decide (0=j)=false:=by simp;omega
   exact⟨by rw[this];rfl,au.refl _⟩
 ·rcases qX x h with⟨rfl,rfl⟩|⟨z,g,a',r,rfl,d,u,A⟩
  ·refine(C1 c tb n J a st w m h1 Q K).mono ?_
   rintro e y ⟨rfl,rfl⟩;have:decide (n=0)=false:=by simp;omega
   exact⟨by rw[this];rfl,au.refl _⟩
  ·by_cases B:tb=g
   ·subst B
    have I:n=j:=by rw[l]at d;cases d;rfl
    subst I;have he:=mT (t:=103) (t':=103) oQ w tb tb (k _ _ _ l) (k _ _ _ l);refine(id_eq c _ _ st 103 0 (.pointer (some ⟨tb,0,none⟩)) w (d_ _ _ (by decide) w) (d_ _ _ (by decide) w) (by simpa using he)).mono ?_;rintro e y ⟨rfl,rfl⟩;have:=kC (q rfl rfl);exact⟨by rw[this];simp,au.refl _⟩
   ·have he:=mT (t:=103) (t':=103) oQ w tb g (k _ _ _ l) (k _ _ _ d)
    have S:decide (103=103∧tb=g)=false:=by simp[B]
    rw[S]at he;exact CY c tb g n j J r a a' f D E F G H rs st w m h1 he L K u R A (fun i hi=>h _ _ _ (N i hi)) (fun i hi=>h _ _ _ (O i hi)) P
theorem mW{k:Int}(h1:1≤k)(h2:k≤16)(h3:k≠2)(a:k≠12)(b:k≠13)(c:k≠14):k=1∨k=3∨k=4∨k=5∨k=6∨k=7∨k=8∨k=9∨k=10∨(k=11∨k=15∨k=16):=by omega
theorem fZ{e:Ending}{w a:World}{r b:Bool}(h:e= .returned (.bool r)∧w=a)(hr:r=b):e= .returned (.bool b)∧au w a:=⟨by rw[←hr];exact h.1,by rw[h.2];exact au.refl _⟩
theorem oW{u v e f:U}(h2:u.k≠2)(b:u.k≠14)(c:v.k≠2)(a:v.k≠14)(d:u.k≠10)(hk:v.k=u.k)(he:u.es= [e])(g:v.es= [f]):aB u v=(aU u v&&aB e f):=by
 rw[ku h2 b c a d,hk,he,g];simp
theorem vP{u v:U}(h2:u.k≠2)(b:u.k≠14)(c:v.k≠2)(a:v.k≠14)(d:u.k≠10)(he:u.es= [])(e:v.es= []):aB u v=(u.k==v.k&&aU u v):=by
 rw[ku h2 b c a d,he,e];simp
theorem qY{l r:List U}(b:l.length=r.length)(F:U→U→Bool):((l.zip r).all fun(e,f)=>F e f)=bJ l.length fun i=>F (l.getD i default) (r.getD i default):=by
 rw[Bool.eq_iff_iff,iC];constructor
 ·intro h
  exact kC fun i hi=>by
   have:=h i hi (by omega);simpa [hi,show i<r.length by omega]using this
 ·intro h i hi a
  unfold bJ at h;rw[List.all_eq_true]at h;have:=h i (List.mem_range.2 hi);simpa [hi,a]using this
theorem vQ{n:Nat}{r b:Nat→Bool}(h:∀i,i<n→r i=b i):bJ n r=bJ n b:=by
 unfold bJ;rw[Bool.eq_iff_iff,List.all_eq_true,List.all_eq_true];exact⟨fun a i hi=>by rw[←h i (List.mem_range.1 hi)];exact a i hi,fun a i hi=>by rw[h i (List.mem_range.1 hi)];exact a i hi⟩
theorem C_{n m:Nat}(hm:m≤n)(r:Nat→Bool):bJ n r=(bJ m r&&bJ (n- m) fun i=>r (m+i)):=by
 rw[Bool.eq_iff_iff,Bool.and_eq_true];unfold bJ;simp only[List.all_eq_true,List.mem_range];constructor
 ·exact fun h=>⟨fun i hi=>h i (by omega),fun i hi=>h (m+i) (by omega)⟩
 ·intro⟨h1,h2⟩ i hi
  by_cases a:i<m
  ·exact h1 i a
  ·have:=h2 (i- m) (by omega)
   rwa [show m+(i- m)=i by omega]at this
theorem Db{n:Nat}(r s:Nat→Bool):bJ n (fun i=>r i&&s i)=(bJ n r&&bJ n s):=by
 rw[Bool.eq_iff_iff,Bool.and_eq_true];unfold bJ;simp only[List.all_eq_true,List.mem_range,Bool.and_eq_true];exact⟨fun h=>⟨fun i hi=>(h i hi).1,fun i hi=>(h i hi).2⟩,fun⟨h1,h2⟩ i hi=>⟨h1 i hi,h2 i hi⟩⟩
theorem Dc{u v:U}(hk:u.k=7)(b:v.k=7)(hm:0≤u.m∧u.m.toNat≤u.es.length)(e:0≤v.m∧v.m.toNat≤v.es.length)(rs:Nat→Bool)(c:∀i,i<u.es.length→i<v.es.length→rs i=aB (u.es.getD i default) (v.es.getD i default)):
 aB u v=((u.v==v.v)&&((decide (u.m.toNat=v.m.toNat)&&bJ u.m.toNat rs)&&(decide (u.es.length- u.m.toNat=v.es.length- v.m.toNat)&&bJ (u.es.length- u.m.toNat) fun i=>aB (u.es.getD (u.m.toNat+i) default) (v.es.getD (v.m.toNat+i) default)))):=by
 rw[ku (by omega) (by omega) (by omega) (by omega) (by omega),hk,b];have f:aU u v=(u.m==v.m&&u.v==v.v):=by unfold aU;rw[if_neg (by omega),if_pos hk]
 rw[f];by_cases a:u.m=v.m
 ·by_cases d:u.es.length=v.es.length
  ·rw[qY d,C_ (n:=u.es.length) hm.2,a,d]
   have g:bJ v.m.toNat (fun i=>aB (u.es.getD i default) (v.es.getD i default))=bJ v.m.toNat rs:=vQ fun i hi=>(c i (by omega) (by omega)).symm;rw[g];simp
  ·have h1:decide (u.es.length=v.es.length)=false:=by simp[d]
   have h2:decide (u.es.length- u.m.toNat=v.es.length- v.m.toNat)=false:=by simp;omega
   rw[h1,h2];simp
 ·have h1:(u.m==v.m)=false:=by simp[a]
  have h2:decide (u.m.toNat=v.m.toNat)=false:=by simp;omega
  rw[h1,h2];simp
theorem Dd{u v:U}(hk:u.k=5)(a:v.k=5)(rs:Nat→Bool)(b:∀i,i<u.es.length→i<v.es.length→rs i=aB (u.es.getD i default) (v.es.getD i default)):
 aB u v=(decide (u.es.length=v.es.length)&&bJ u.es.length (gI (fun i=>(u.es.getD i default).tg) (fun i=>(v.es.getD i default).tg) (fun i=>(u.es.getD i default).nm) (fun i=>(v.es.getD i default).nm) rs)):=by
 rw[ku (by omega) (by omega) (by omega) (by omega) (by omega),hk,a];by_cases c:u.es.length=v.es.length
 ·have d:aU u v=bJ u.es.length fun i=>decide ((u.es.getD i default).nm.toList=(v.es.getD i default).nm.toList)&&decide ((u.es.getD i default).tg.toList=(v.es.getD i default).tg.toList):=by
   unfold aU;rw[if_neg (by omega),if_neg (by omega),if_pos hk];exact qY c fun e f=>decide (e.nm.toList=f.nm.toList)&&decide (e.tg.toList=f.tg.toList)
  rw[d,qY c,←Db];simp only[beq_self_eq_true,Bool.true_and];congr 1;refine vQ fun i hi=> ?_;unfold gI;rw[b i hi (by omega)];have b1:((u.es.getD i default).tg.toList==(v.es.getD i default).tg.toList)=decide ((u.es.getD i default).tg.toList=(v.es.getD i default).tg.toList):=by rw[Bool.eq_iff_iff];simp
  have g:((u.es.getD i default).nm.toList==(v.es.getD i default).nm.toList)=decide ((u.es.getD i default).nm.toList=(v.es.getD i default).nm.toList):=by rw[Bool.eq_iff_iff];simp
  rw[b1,g];cases decide ((u.es.getD i default).tg.toList=(v.es.getD i default).tg.toList)<;>cases decide ((u.es.getD i default).nm.toList=(v.es.getD i default).nm.toList)<;>rfl
 ·have h1:decide (u.es.length=v.es.length)=false:=by simp[c]
  rw[h1];simp
theorem mX{n:Nat}{xs:Nat→Value}(h:∀i,i<n→∃t b,xs i=ae t b):∃(c d:Nat→Nat),∀i,i<n→xs i=ae (c i) (d i):=
 ⟨fun i=>match xs i with| .iface t _=>t|_=>0,fun i=>match xs i with| .iface _ (.pointer (some a))=>a.block|_=>0,fun i hi=>by obtain⟨t,b,e⟩:=h i hi;simp[e]⟩
theorem _root_.TS.eN.shape{p:Pm}{v:Value}{n:Nat}{f:Nat→Nat}(h:eN p v n f):∃a,v= .pointer a:=by
 rcases h with⟨_,rfl⟩|⟨_,tb,_,_,rfl,_⟩<;>exact⟨_,rfl⟩
theorem _root_.TS.Form.vR{len:Nat}{u:U}{pos f:Nat}(h:TS.Form len u pos f)(hk:u.k=3):0≤u.n:=by
 cases h with
 |one _ h _=>exact h
 |pre a _=>omega
 |ptr a _ _ _=>omega
 |_=>omega
theorem _root_.TS.Form.De{len:Nat}{u:U}{pos f:Nat}(h:TS.Form len u pos f)(hk:u.k=5):∀e∈u.es,aM e.nm=true:=by
 cases h with
 |struct _ h _=>exact h
 |pre a _=>omega
 |one a _ _=>omega
 |ptr a _ _ _=>omega
 |_=>omega
theorem oX{p:Pm}{g:Ge}{l:List U}{f:Nat→Nat}(h:∀i(h:i<l.length),dn p g l[i] (f i)):
 ∃(a:Nat→Nat)(b:Nat→Option Addr),∀i(hi:i<l.length),p (f i) 1=some (.pointer (b i))∧p (f i) 2=some (.string l[i].nm)∧p (f i) 3=some (ae 102 (a i))∧TS.Node p g l[i] (ae 102 (a i)):=
 ⟨fun i=>if hi:i<l.length then(h i hi).choose else 0,fun i=>if hi:i<l.length then(h i hi).choose_spec.1.choose else none,fun i hi=>by
  simp only[hi,dite_true];exact⟨(h i hi).choose_spec.1.choose_spec,(h i hi).choose_spec.2⟩⟩
theorem vS{p:Pm}{g:Ge}{c:Nat}{w:World}{u:U}{t b:Nat}(d:iJ p g c w)(h:TS.Node p g u (ae t b))(hk:u.k=11∨u.k=15∨u.k=16):
 ∃o,p b 1=some (ptr o)∧Plain w o∧(u.k=11→o=g.ob u.n.toNat∧u.n.toNat<g.len∧0≤u.n)∧(u.k=15→o=g.eo)∧(u.k=16→o=g.co):=by
 rcases hk with h1|h1|h1
 ·obtain⟨e,j,i,f,_⟩:=h.jy h1
  cases e;obtain⟨_,_,a⟩:=d.po _ i;exact⟨_,f,d.pl _ _ _ a,fun _=>⟨rfl,i,j⟩,fun h=>by omega,fun h=>by omega⟩
 ·obtain⟨e,_,f,_⟩:=h.lu h1
  cases e;obtain⟨_,_,a⟩:=d.cH;exact⟨_,f,d.pl _ _ _ a,fun h=>by omega,fun _=>rfl,fun h=>by omega⟩
 ·obtain⟨e,f,_⟩:=h.mL h1
  cases e;obtain⟨_,_,a⟩:=d.cI;exact⟨_,f,d.pl _ _ _ a,fun h=>by omega,fun h=>by omega,fun _=>rfl⟩
theorem dK{t t' a b:Nat}(h:ae t a=ae t' b):a=b:=by cases h;rfl
theorem vT(len:Nat)(p:Pm)(g:Ge)(c:Nat):∀u,C8 len p g c u:=by
 intro u;induction u using U.bg with
 |_ u ih=>
  intro v x y st w l hu hv P6 P7 hS;obtain⟨b,hn,ht,hx⟩:=hu.strip P6;obtain⟨K,kn,kt,hy⟩:=hv.strip P7;have B:=oT _ b x p ht hx w l.kw;have C:=oT _ K y p kt hy w l.kw;have E:=hS.shape;rw[←qJ (jz hu) (jz hv)];obtain⟨G,u2,u14,hs⟩:=hu.bare;obtain⟨I,v2,O,Qh⟩:=hv.bare;have P0:=hS.mono hs Qh;have P8:=hn.plain l u2 u14;have P9:=kn.plain l v2 O;have he:=mT (t:=bq (bare u).k) (t':=bq (bare v).k) (mV _) w b K P8 P9;have Qi:bq (bare u).k=bq (bare v).k→b=K→aB (bare u) (bare v)=true:=fun P Q=>uI l.inj G I hn (by rw[P,Q];exact kn);have T:∀e f,e.sz<u.sz→f.sz≤v.sz→Vt len e→Vt len f→∀xe yf,TS.Node p g e xe→TS.Node p g f yf→ee c xe yf st (aB e f) w:=fun e f h1 h2 h3 S xe yf h5 h6 n os=>
   ih e h1 f xe yf st _ (l.b_ (au.of w n os)) h3 S h5 h6 ((hS.mono (by omega) h2).b_ (au.of w n os))
  have P_:=(hn.tag u2 u14).2;have QK:=(kn.tag v2 O).2;have PX:=G.aE;have QG:=I.aE;have P1:=jz hu;have PY:=jz hv;clear P6 P7 hx hy hS hu hv;generalize bare u=D at*;generalize bare v=q at*;by_cases L:bq D.k=bq q.k∧b=K
  ·have hd:decide (bq D.k=bq q.k∧b=K)=true:=by simp[L]
   rw[hd]at he;rw[←L.1,←L.2]at he C;refine(id_eq c x y st _ 0 _ w B C he).mono ?_;intro e w' h;exact fZ h (Qi L.1 L.2).symm
  ·have hd:decide (bq D.k=bq q.k∧b=K)=false:=by simp only[decide_eq_false_iff_not];exact L
   rw[hd]at he;have Qa:=mW P_.1 P_.2 u2 PX.1 PX.2 u14;by_cases J:bq D.k=bq q.k
   ·rcases Qa with h|h|h|h|h|h|h|h|h|h
    ·have A:q.k=1:=by rw[←h];exact(eO J (by omega) (by omega)).symm
     obtain⟨b1,P,h1⟩:=hn.kp h;obtain⟨b2,Q,h2⟩:=kn.kp A;cases dK P;cases dK Q;obtain⟨_,hf⟩:=G.form;obtain⟨_,R⟩:=I.form;have hr:((D.n+1)==(q.n+1))=aB D q:=by
      rw[vP u2 u14 v2 O (by omega) (hf.lens (by omega)) (R.lens (by omega)),h,A];unfold aU;rw[if_pos (by omega)];rw[Bool.eq_iff_iff];simp
     rw[h]at B he;rw[A]at C he;rw[←hr];exact CT c b K x y st w (D.n+1) (q.n+1) E l.c1 l.c0 B C he (l.kw _ _ _ h1) (l.kw _ _ _ h2)
    ·have A:q.k=3:=by rw[←h];exact(eO J (by omega) (by omega)).symm
     obtain⟨b1,e,z,P,M,h1,h3,n1⟩:=hn.kq h;obtain⟨b2,f,z',Q,N,h2,S,n2⟩:=kn.kq A;cases dK P;cases dK Q;obtain⟨_,hf⟩:=G.form;obtain⟨_,R⟩:=I.form;obtain⟨V,X,rfl⟩:=n1.val;obtain⟨Y,Z,rfl⟩:=n2.val;have s1:=U.az (u:=D) (e:=e) (by rw[M];simp);have s2:=U.az (u:=q) (e:=f) (by rw[N];simp);rw[oW u2 u14 v2 O (by omega) (by omega) M N,show aU D q=(D.n==q.n) by unfold aU;rw[if_pos (by omega)]];rw[h]at B he;rw[A]at C he;exact CU c b K x y st w D.n q.n (hf.vR h) (R.vR A) V X Y Z _ E l.c1 l.c0 B C he (l.kw _ _ _ h1) (l.kw _ _ _ h2) (l.kw _ _ _ h3) (l.kw _ _ _ S) (T e f (by omega) (by omega) (G.one (by omega) M) (I.one (by omega) N) _ _ n1 n2)
    ·have A:q.k=4:=by rw[←h];exact(eO J (by omega) (by omega)).symm
     obtain⟨b1,e,z,P,M,h3,n1⟩:=hn.mK h;obtain⟨b2,f,z',Q,N,S,n2⟩:=kn.mK A;cases dK P;cases dK Q;obtain⟨V,X,rfl⟩:=n1.val;obtain⟨Y,Z,rfl⟩:=n2.val;have s1:=U.az (u:=D) (e:=e) (by rw[M];simp);have s2:=U.az (u:=q) (e:=f) (by rw[N];simp);rw[oW u2 u14 v2 O (by omega) (by omega) M N,show aU D q=true by unfold aU;rw[if_neg (by omega),if_neg (by omega),if_neg (by omega)],Bool.true_and];rw[h]at B he;rw[A]at C he;exact CQ c b K x y st w V X Y Z _ E l.c1 l.c0 B C he (l.kw _ _ _ h3) (l.kw _ _ _ S) (T e f (by omega) (by omega) (G.one (by omega) M) (I.one (by omega) N) _ _ n1 n2)
    ·have A:q.k=5:=by rw[←h];exact(eO J (by omega) (by omega)).symm
     obtain⟨b1,a,a',d,d',f,xs,P,h1,h2,q1,q2,h3,S,h5,h6⟩:=hn.ks h;obtain⟨b2,a2,Qj,r,r',f',ys,Q,k1,k2,QL,QM,k3,k4,k5,k6⟩:=kn.ks A;cases dK P;cases dK Q;have Qk:∀i,i<D.es.length→∃t b,xs i=ae t b:=fun i hi=>(h6 i hi).val;have Ql:∀i,i<q.es.length→∃t b,ys i=ae t b:=fun i hi=>(k6 i hi).val;obtain⟨V,X,PO⟩:=mX Qk;obtain⟨Y,Z,PQ⟩:=mX Ql;obtain⟨_,hf⟩:=G.form;have PW:=hf.De h;rw[Dd h A (fun i=>aB (D.es.getD i default) (q.es.getD i default)) (fun _ _ _=>rfl)];rw[h]at B he;rw[A]at C he;refine C4 c b K x y st w D.es.length q.es.length d r d' r' a a2 a' Qj f f' V X Y Z _ _ _ _ (fun _=>some ⟨g.pk,0,none⟩) _ E l.c1 l.c0 B C he q2 l.cap (l.kw _ _ _ h1) (l.kw _ _ _ k1) (eX h3 l.kw) (eX k3 l.kw) (l.kw _ _ _ h2) (l.kw _ _ _ k2) ?_ ?_ ?_ ?_ ?_
     ·intro i hi
      obtain⟨b0,o,e,hc⟩:=S i hi;exact⟨b0,o,e,by simpa [hi]using l.kw _ _ _ hc⟩
     ·intro i hi
      obtain⟨b0,o,e,hc⟩:=k4 i hi;exact⟨b0,o,e,by simpa [hi]using l.kw _ _ _ hc⟩
     ·intro i hi
      obtain⟨p1,p2,p3,p5⟩:=h5 i hi;refine⟨by simpa [hi]using l.kw _ _ _ p2,by simpa [hi]using PW _ (List.getElem_mem hi),l.kw _ _ _ p5,by have:=l.kw _ _ _ p3;rw[PO i hi]at this;exact this⟩
     ·intro i hi
      obtain⟨p1,p2,p3,p5⟩:=k5 i hi;refine⟨by simpa [hi]using l.kw _ _ _ p2,l.kw _ _ _ p1,l.kw _ _ _ p5,by have:=l.kw _ _ _ p3;rw[PQ i hi]at this;exact this⟩
     ·intro PR i hi
      have F:i<q.es.length:=by omega
      have s1:=U.az (List.getElem_mem hi);have s2:=U.az (List.getElem_mem F);have:=T D.es[i] q.es[i] (by omega) (by omega) (G.part (by omega) hi) (I.part (by omega) F) _ _ (h6 i hi) (k6 i F);rw[PO i hi,PQ i F]at this;simpa [hi,F]using this
    ·have A:q.k=6:=by rw[←h];exact(eO J (by omega) (by omega)).symm
     obtain⟨b1,e,z,P,M,h3,n1⟩:=hn.oC h;obtain⟨b2,f,z',Q,N,S,n2⟩:=kn.oC A;cases dK P;cases dK Q;obtain⟨V,X,rfl⟩:=n1.val;obtain⟨Y,Z,rfl⟩:=n2.val;have s1:=U.az (u:=D) (e:=e) (by rw[M];simp);have s2:=U.az (u:=q) (e:=f) (by rw[N];simp);rw[oW u2 u14 v2 O (by omega) (by omega) M N,show aU D q=true by unfold aU;rw[if_neg (by omega),if_neg (by omega),if_neg (by omega)],Bool.true_and];rw[h]at B he;rw[A]at C he;exact CR c b K x y st w V X Y Z _ E l.c1 l.c0 B C he (l.kw _ _ _ h3) (l.kw _ _ _ S) (T e f (by omega) (by omega) (G.one (by omega) M) (I.one (by omega) N) _ _ n1 n2)
    ·have A:q.k=7:=by rw[←h];exact(eO J (by omega) (by omega)).symm
     obtain⟨b1,pv,rv,f,xs,P,⟨hm,QH⟩,h1,h2,h3,S,h5,h6,h7⟩:=hn.lr h;obtain⟨b2,QN,QO,f',ys,Q,⟨km,QI⟩,k1,k2,k3,k4,k5,k6,k7⟩:=kn.lr A;cases dK P;cases dK Q;obtain⟨V,X,PO⟩:=mX fun i hi=>(h7 i hi).val;obtain⟨Y,Z,PQ⟩:=mX fun i hi=>(k7 i hi).val;obtain⟨_,hf⟩:=G.form;obtain⟨_,R⟩:=I.form;obtain⟨pa,rfl⟩:=S.shape;obtain⟨Qm,rfl⟩:=k4.shape;obtain⟨ra,rfl⟩:=h5.shape;obtain⟨Qn,rfl⟩:=k5.shape;have PS:∀i j,i<D.es.length→j<q.es.length→ee c (.iface (V i) (.pointer (some ⟨X i,0,none⟩))) (.iface (Y j) (.pointer (some ⟨Z j,0,none⟩))) st (aB (D.es.getD i default) (q.es.getD j default)) w:=fun i j hi F=>by
      have s1:=U.az (List.getElem_mem hi);have s2:=U.az (List.getElem_mem F);have:=T D.es[i] q.es[j] (by omega) (by omega) (G.part (by omega) hi) (I.part (by omega) F) _ _ (h7 i hi) (k7 j F);rw[PO i hi,PQ j F]at this;simpa [hi,F]using this
     have PN:∀i j,i<D.es.length→j<q.es.length→f i=f' j→aB (D.es.getD i default) (q.es.getD j default)=true:=fun i j hi F e=>by
      have g1:=h6 i hi;have g2:=k6 j F;rw[←e,g1]at g2;have:=uI l.inj (G.part (by omega) hi) (I.part (by omega) F) (h7 i hi) (by rw[Option.some.inj g2];exact k7 j F);simpa [hi,F]using this
     rw[Dc h A (hf.oG h) (R.oG A) (fun i=>aB (D.es.getD i default) (q.es.getD i default)) (fun _ _ _=>rfl)];rw[h]at B he;rw[A]at C he;refine C2 c b K x y st w pa Qm ra Qn _ _ _ _ E l.c1 l.c0 B C he (l.kw _ _ _ h3) (l.kw _ _ _ k3) (l.kw _ _ _ h1) (l.kw _ _ _ k1) (l.kw _ _ _ h2) (l.kw _ _ _ k2) ?_ ?_
     ·intro n os
      have hk:=au.of w n os;have PM:=l.b_ hk
      exact vO p c D.m.toNat q.m.toNat _ _ st f f' V X Y Z _ _ PM.kw PM.pl PM.c1 E (by omega) S k4 (fun i hi=>by have:=h6 i (by omega);rw[PO i (by omega)]at this;exact this) (fun i hi=>by have:=k6 i (by omega);rw[PQ i (by omega)]at this;exact this)
       (fun PR i hi=>(PS i i (by omega) (by omega)).b_ hk) fun hv PR i hi=>PN i i (by omega) (by omega) (by rw[hv]at S;exact(S.unique k4).2 i hi)
     ·intro n os
      have hk:=au.of w n os;have PM:=l.b_ hk
      refine vO p c (D.es.length- D.m.toNat) (q.es.length- q.m.toNat) _ _ st (fun i=>f (D.m.toNat+i)) (fun i=>f' (q.m.toNat+i)) (fun i=>V (D.m.toNat+i)) (fun i=>X (D.m.toNat+i)) (fun i=>Y (q.m.toNat+i)) (fun i=>Z (q.m.toNat+i)) _ _ PM.kw PM.pl PM.c1 E (by omega) h5 k5
       (fun i hi=>by have:=h6 (D.m.toNat+i) (by omega);rw[PO _ (by omega)]at this;exact this) (fun i hi=>by have:=k6 (q.m.toNat+i) (by omega);rw[PQ _ (by omega)]at this;exact this) (fun PR i hi=> ?_) fun hv PR i hi=> ?_
      ·exact(PS _ _ (by omega) (by omega)).b_ hk
      ·rw[hv]at h5
       exact PN _ _ (by omega) (by omega) ((h5.unique k5).2 i hi)
    ·have A:q.k=8:=by rw[←h];exact(eO J (by omega) (by omega)).symm
     obtain⟨b1,d,e,y1,z1,P,M,h1,h3,n1,n2⟩:=hn.oD h;obtain⟨b2,d',e',QP,QQ,Q,N,h2,S,n3,n4⟩:=kn.oD A;cases dK P;cases dK Q;obtain⟨V,X,rfl⟩:=n1.val;obtain⟨Qo,Qp,rfl⟩:=n2.val;obtain⟨Y,Z,rfl⟩:=n3.val;obtain⟨Qq,Qr,rfl⟩:=n4.val;have s1:=U.az (u:=D) (e:=d) (by rw[M];simp);have s2:=U.az (u:=q) (e:=d') (by rw[N];simp);have s3:=U.az (u:=D) (e:=e) (by rw[M];simp);have s4:=U.az (u:=q) (e:=e') (by rw[N];simp);have w1:=G.part (i:=0) (by omega) (by rw[M];simp);have w2:=G.part (i:=1) (by omega) (by rw[M];simp);have w3:=I.part (i:=0) (by omega) (by rw[N];simp);have w4:=I.part (i:=1) (by omega) (by rw[N];simp);simp only[M,N,List.getElem_cons_zero,List.getElem_cons_succ]at w1 w2 w3 w4;have hr:aB D q=(aB d d'&&aB e e'):=by
      rw[ku u2 u14 v2 O (by omega),h,A,M,N,show aU D q=true by unfold aU;rw[if_neg (by omega),if_neg (by omega),if_neg (by omega)]];simp
     rw[hr];rw[h]at B he;rw[A]at C he;exact CW c b K x y st w V X Y Z Qo Qp Qq Qr _ _ E l.c1 l.c0 B C he (l.kw _ _ _ h1) (l.kw _ _ _ h2) (l.kw _ _ _ h3) (l.kw _ _ _ S) (T d d' (by omega) (by omega) w1 w3 _ _ n1 n3) (T e e' (by omega) (by omega) w2 w4 _ _ n2 n4)
    ·have A:q.k=9:=by rw[←h];exact(eO J (by omega) (by omega)).symm
     obtain⟨b1,e,z,P,M,h1,h3,n1⟩:=hn.oE h;obtain⟨b2,f,z',Q,N,h2,S,n2⟩:=kn.oE A;cases dK P;cases dK Q;obtain⟨_,hf⟩:=G.form;obtain⟨_,R⟩:=I.form;obtain⟨V,X,rfl⟩:=n1.val;obtain⟨Y,Z,rfl⟩:=n2.val;have s1:=U.az (u:=D) (e:=e) (by rw[M];simp);have s2:=U.az (u:=q) (e:=f) (by rw[N];simp);have Qs:(D.n==q.n)=(fW D.n==fW q.n):=by
      rw[Bool.eq_iff_iff];simp only[beq_iff_eq];exact⟨fun e=>by rw[e],fun e=>uH (hf.oH h) (R.oH A) e⟩
     rw[oW u2 u14 v2 O (by omega) (by omega) M N,show aU D q=(D.n==q.n) by unfold aU;rw[if_pos (by omega)],Qs];rw[h]at B he;rw[A]at C he;exact CV c b K x y st w (fW D.n) (fW q.n) V X Y Z _ E l.c1 l.c0 B C he (l.kw _ _ _ h1) (l.kw _ _ _ h2) (l.kw _ _ _ h3) (l.kw _ _ _ S) (T e f (by omega) (by omega) (G.one (by omega) M) (I.one (by omega) N) _ _ n1 n2)
    ·have A:q.k=10:=by rw[←h];exact(eO J (by omega) (by omega)).symm
     obtain⟨b1,P,hG⟩:=hn.gT h;obtain⟨b2,Q,kG⟩:=kn.gT A;cases dK P;cases dK Q;obtain⟨ck,tb,ma,mc,f,ta,tc,ts,cmp,q6,q0,q1,qn,qm,qr,qf,q2,QR,QS,⟨tf,tr,tt⟩,q3,tok,_⟩:=l.done _ _ hG;obtain⟨Qt,Qu,Qv,Qw,f',Qb,Qc,QT,QJ,r6,r0,r1,rn,rm,rr,rf,r2,QU,QV,⟨Qx,Qy,Qz⟩,r3,Qd,_⟩:=l.done _ _ kG;obtain⟨rfl,rfl⟩:=tok.gen G.val.gen;obtain⟨rfl,rfl⟩:=Qd.gen I.val.gen;obtain⟨sb,qs,Qe⟩:=oX qf;obtain⟨QA,QB,PZ⟩:=oX rf;have hr:aB D q=(decide ((ai D).length=(ai q).length)&&bJ (ai D).length (fK (fun i=>((ai D).getD i default).nm) (fun i=>((ai q).getD i default).nm) (fun i=>aB ((ai D).getD i default) ((ai q).getD i default)))):=by
      rw[kc (by rw[P1];exact h),P1,PY,G.val.gen,I.val.gen,A];by_cases hl:(ai D).length=(ai q).length
      ·rw[C5 (G.oV h) (I.oV A) hl (rs:=fun i=>aB ((ai D).getD i default) ((ai q).getD i default)) (fun i hi F=>by simp[hi,F]) (fun i hi=>by simp[hi]) (fun i hi=>by simp[hi])]
       simp
      ·have:decide ((ai D).length=(ai q).length)=false:=by simp[hl]
       rw[this];simp
     rw[hr];rw[h]at B he;rw[A]at C he
     refine vM c b K x y st w tb Qu (ai D).length (ai q).length mc Qw tc Qc 1 1 false ma Qv ta Qb f f' (fun _=>102) sb (fun _=>102) QA _ _ qs QB _ E l.c1 l.c0 B C he (by omega) l.cap (C9 l hG kG P0) P8 P9
      (l.kw _ _ _ ck) (l.kw _ _ _ Qt) (l.kw _ _ _ q6) (l.kw _ _ _ r6) (l.kw _ _ _ q3) (l.kw _ _ _ r3) (l.kw _ _ _ q2) (l.kw _ _ _ r2) (fun W hW=>(CE ta Qb 1 1 tc Qc tf Qx W (by decide) (by decide) ((eX tr l.kw).b_ hW) ((eX Qy l.kw).b_ hW) Nat.one_pos Nat.one_pos (hW.cell (l.kw _ _ _ (tt 0 (by simp)))) (hW.cell (l.kw _ _ _ (Qz 0 (by simp))))).mono fun _ _ ⟨P,Q⟩=>⟨P,Q▸au.refl _⟩)
      (l.kw _ _ _ q1) (l.kw _ _ _ r1) (eX qr l.kw) (eX rr l.kw) ?_ ?_ ?_
     ·intro i hi
      obtain⟨p1,p2,p3,_⟩:=Qe i hi;exact⟨by simpa [hi]using l.kw _ _ _ p2,by simpa [hi]using G.oU h (List.getElem_mem hi),l.kw _ _ _ p1,l.kw _ _ _ p3⟩
     ·intro i hi
      obtain⟨p1,p2,p3,_⟩:=PZ i hi;exact⟨by simpa [hi]using l.kw _ _ _ p2,by simpa [hi]using I.oU A (List.getElem_mem hi),l.kw _ _ _ p1,l.kw _ _ _ p3⟩
     ·intro PR W s hW k0 k1 k2 QW i hi n os
      have F:i<(ai q).length:=by omega
      have z1:=iv (List.getElem_mem hi);have z2:=iv (List.getElem_mem F);have hk:=hW.trans (au.of W n os);have P2:=au.of W n os;have QC:kA st<s+1:=by
       rcases E with rfl|⟨s0,rfl⟩
       ·simp
       ·cases P0 with
        |cons c0=>have:=World.block_lt_of_cell? _ _ c0;simp at this⊢;omega
      have:=ih (ai D)[i] (by omega) (ai q)[i] _ _ (.pointer (some ⟨s,0,none⟩)) _ (l.b_ hk) (G.cv h (List.getElem_mem hi)).1 (I.cv A (List.getElem_mem F)).1 (Qe i hi).2.2.2 (PZ i F).2.2.2
       (.cons (P2.cell k0) (P2.cell k1) (P2.cell k2) hG kG z1 z2 QC ((P0.mono (by omega) (by omega)).b_ hk))
      simpa [hi,F]using this
    ·have Qf:q.k=11∨q.k=15∨q.k=16:=by
      by_cases Qg:q.k=11∨q.k=15∨q.k=16
      ·exact Qg
      ·have:=eO J.symm ⟨v2,O,by omega,by omega,by omega,by omega,by omega,by omega,by omega⟩ ⟨u2,u14,by omega,by omega⟩
       omega
     have hT:bq D.k=58:=by rcases h with e|e|e<;>rw[e]<;>rfl
     have QD:bq q.k=58:=by rw[←J];exact hT
     obtain⟨o,ho,po,P3,P4,P5⟩:=vS l hn h;obtain⟨o',QE,QF,PT,PU,PV⟩:=vS l kn Qf;obtain⟨_,hf⟩:=G.form;obtain⟨_,R⟩:=I.form;have hr:decide (o=o')=aB D q:=by
      rw[vP u2 u14 v2 O (by omega) (hf.lens (by omega)) (R.lens (by omega)),Bool.eq_iff_iff];simp only[decide_eq_true_eq,Bool.and_eq_true,beq_iff_eq];rcases h with h1|h1|h1<;>rcases Qf with h2|h2|h2
      ·obtain⟨x1,x2,x3⟩:=P3 h1
       obtain⟨y1,y2,y3⟩:=PT h2;rw[show aU D q=(D.n==q.n) by unfold aU;rw[if_pos (by omega)]];constructor
       ·intro e
        have:=l.inj.ob _ _ x2 y2 (by rw[←x1,←y1];exact e);exact⟨by rw[h1,h2],by simp;omega⟩
       ·intro⟨_,e⟩
        rw[x1,y1,show D.n=q.n by simpa using e]
      ·obtain⟨x1,x2,_⟩:=P3 h1
       exact⟨fun e=>absurd (by rw[←x1,e];exact PU h2) (l.inj.oe _ x2),fun⟨e,_⟩=>by omega⟩
      ·obtain⟨x1,x2,_⟩:=P3 h1
       exact⟨fun e=>absurd (by rw[←x1,e];exact PV h2) (l.inj.oc _ x2),fun⟨e,_⟩=>by omega⟩
      ·obtain⟨x1,x2,_⟩:=PT h2
       exact⟨fun e=>absurd (by rw[←x1,←e];exact P4 h1) (l.inj.oe _ x2),fun⟨e,_⟩=>by omega⟩
      ·rw[P4 h1,PU h2,h1,h2];simp[aU,h1]
      ·exact⟨fun e=>absurd (by rw[←P4 h1,e];exact PV h2) l.inj.ac,fun⟨e,_⟩=>by omega⟩
      ·obtain⟨x1,x2,_⟩:=PT h2
       exact⟨fun e=>absurd (by rw[←x1,←e];exact P5 h1) (l.inj.oc _ x2),fun⟨e,_⟩=>by omega⟩
      ·exact⟨fun e=>absurd (by rw[←PU h2,←e];exact P5 h1) l.inj.ac,fun⟨e,_⟩=>by omega⟩
      ·rw[P5 h1,PV h2,h1,h2];simp[aU,h1]
     rw[←hr];rw[hT]at B he;rw[QD]at C he;exact CX c b K x y st w o o' E l.c1 l.c0 B C he (l.kw _ _ _ ho) (l.kw _ _ _ QE) po QF
   ·have hr:aB D q=false:=C6 (by rw[P1,PY];intro e;rw[e]at J;exact J rfl)
    rw[hr];have H:bq q.k≠bq D.k:=fun e=>J e.symm;rcases Qa with h|h|h|h|h|h|h|h|h|h
    all_goals
     first
      |(rw[h]at B he H)
      |(rcases h with h|h|h<;>rw[h]at B he H)
    ·exact(CH c b K _ x y st w E kt H l.c1 B C he).mono fun e w' h=>fZ h rfl
    ·exact(CI c b K _ x y st w E kt H l.c1 B C he).mono fun e w' h=>fZ h rfl
    ·exact(CJ c b K _ x y st w E kt H l.c1 B C he).mono fun e w' h=>fZ h rfl
    ·exact(CK c b K _ x y st w E kt H l.c1 B C he).mono fun e w' h=>fZ h rfl
    ·exact(CL c b K _ x y st w E kt H l.c1 B C he).mono fun e w' h=>fZ h rfl
    ·exact(CM c b K _ x y st w E kt H l.c1 B C he).mono fun e w' h=>fZ h rfl
    ·exact(CO c b K _ x y st w E kt H l.c1 B C he).mono fun e w' h=>fZ h rfl
    ·exact(CP c b K _ x y st w E kt H l.c1 B C he).mono fun e w' h=>fZ h rfl
    ·exact(CN c b K _ x y st w E kt H l.c1 B C he).mono fun e w' h=>fZ h rfl
    ·exact(qV c b K _ x y st w E kt H l.c1 B C he).mono fun e w' h=>fZ h rfl
    ·exact(qV c b K _ x y st w E kt H l.c1 B C he).mono fun e w' h=>fZ h rfl
    ·exact(qV c b K _ x y st w E kt H l.c1 B C he).mono fun e w' h=>fZ h rfl
end Go.Proofs.YtdkmnkjhhhmglaaGreatDoor
namespace TS
open Go Go.RowKit Go.Sort Go.Proofs.YtdkmnkjhhhmglaaGreatDoor
structure aw(p:Pm)(g:Ge)(w:World):Prop where
 kw:KW p w
 pl:∀b o v,p b o=some v→Plain w b
 inj:mM g
 cap:br w
 done:∀b u,g.G b=some u→p b 0=some (.pointer none)∧cY p g b u
 po:∀i,i<g.len→∃o v,p (g.ob i) o=some v
 cH:∃o v,p g.eo o=some v
 cI:∃o v,p g.co o=some v
theorem aw.b_{p:Pm}{g:Ge}{w a:World}(h:aw p g w)(k:au w a):aw p g a:=
 ⟨k.kw h.kw,fun b o v c=>k.plain (h.pl b o v c),h.inj,k.cap h.cap,h.done,h.po,h.cH,h.cI⟩
structure Tok(len:Nat)(e:U):Prop where
 vt:Vt len e
 vu:Vt len (under e)
 fl:(bare e).k=11→∃y,(bare e).un= [y]∧y.k≠16
 ni:isIface e=false
end TS
namespace Go.Proofs.YtdkmnkjhhhmglaaGreatDoor
open Go.RowKit TS Go.Sort
theorem mY(len:Nat)(p:Pm)(g:Ge)(u v:U)(x y:Value)(w:World)(f:aw p g w)(hu:Vt len u)(h:Vt len v)(b:TS.Node p g u x)(c:TS.Node p g v y):
 Calls Tryz.prog 17 #[x,y] w fun e i=>e= .returned (.bool (aB u v))∧au w i:=by
 obtain⟨l,m,rfl⟩:=b.val;obtain⟨n,o,rfl⟩:=c.val;have hk:=au.alloc w (.cells #[.bool false,.bool false] 76);have a:=f.b_ hk;have j:=Lib.hid (vT len p g w.heap.size u v _ _ (.pointer none) _ ⟨a.kw,a.pl,a.inj,a.cap,by simp[go_sem],by simp[go_sem],a.done,a.po,a.cH,a.cI⟩ hu h b c .nil);have d:=Lib.hid hk;clear f hu h b c hk a;go_enter Tryz.func17,Tryz.ntmps17;go_wp2_with fail
 refine j.out.mono ?_;rintro e i ⟨rfl,k⟩;go_wp2_with fail
 go_ret;exact⟨rfl,d.out.trans k⟩
theorem kD{p:Pm}{g:Ge}{u:U}{x:Value}(h:TS.Node p g u x):(bare (bare u)=bare u)→((bare u).k=11→∃y,(bare u).un= [y]∧y.k≠16)→(bare u).k≠12→(bare u).k≠13→∃t b rt s,x=ae t b∧(∀w:World,KW p w→cG w t b (ae rt s))∧
 (((under u).k≠16∧TS.Node p g (under u) (ae rt s))∨((under u).k=16∧rt=44∧g.G s=some dN)):=by
 induction h with
 | @alias u x y h2 ha v ih=>
   intro i r n o;obtain⟨t,b,rt,s,e,A,hr⟩:=ih (by rw[i];exact i) (by rw[i];exact r) (by rw[i];exact n) (by rw[i];exact o);have hu:under (bare u)=under u:=by unfold under;rw[i]
   rw[hu]at hr;subst e;obtain⟨c,rfl,h3⟩:=ha.start;exact⟨_,_,rt,s,rfl,fun w hw=>B8 c b t _ w (hw _ _ _ h3) (A w hw),hr⟩
 | @any u x B v ih=>
   intro i r n o;have j:bare u=bt:=gq B;have l:bare bt=bt:=cu (by decide) (by decide);obtain⟨t,b,rt,s,e,A,hr⟩:=ih (by rw[l];exact l) (by rw[l];intro h;cases h) (by rw[l];decide) (by rw[l];decide);have hu:under bt=under u:=by unfold under;rw[j,l]
   rw[hu]at hr;exact⟨t,b,rt,s,e,A,hr⟩
 | @basic u b hk h=>
   intro _ _ _ _;have hu:under u=u:=cQ (by omega) (by omega) (by omega) (by omega);exact⟨_,_,_,_,rfl,fun w _=>BV b w,.inl ⟨by rw[hu];omega,by rw[hu];exact .basic hk h⟩⟩
 | @array u e b x hk h1 h2 h3 m _=>
   intro _ _ _ _;have hu:under u=u:=cQ (by omega) (by omega) (by omega) (by omega);exact⟨_,_,_,_,rfl,fun w _=>BX b w,.inl ⟨by rw[hu];omega,by rw[hu];exact .array hk h1 h2 h3 m⟩⟩
 | @slice u e b x hk h1 h2 h3 _=>
   intro _ _ _ _;have hu:under u=u:=cQ (by omega) (by omega) (by omega) (by omega);exact⟨_,_,_,_,rfl,fun w _=>oN b w,.inl ⟨by rw[hu];omega,by rw[hu];exact .slice hk h1 h2 h3⟩⟩
 | @struct u b a a' c c' f xs hk h1 h2 h3 m q C h7 D _=>
   intro _ _ _ _;have hu:under u=u:=cQ (by omega) (by omega) (by omega) (by omega);exact⟨_,_,_,_,rfl,fun w _=>B4 b w,.inl ⟨by rw[hu];omega,by rw[hu];exact .struct hk h1 h2 h3 m q C h7 D⟩⟩
 | @pointer u e b x hk h1 h2 h3 _=>
   intro _ _ _ _;have hu:under u=u:=cQ (by omega) (by omega) (by omega) (by omega);exact⟨_,_,_,_,rfl,fun w _=>BY b w,.inl ⟨by rw[hu];omega,by rw[hu];exact .pointer hk h1 h2 h3⟩⟩
 | @func u b pv rv f xs hk h1 h2 h3 m q C h7 D _=>
   intro _ _ _ _;have hu:under u=u:=cQ (by omega) (by omega) (by omega) (by omega);exact⟨_,_,_,_,rfl,fun w _=>BW b w,.inl ⟨by rw[hu];omega,by rw[hu];exact .func hk h1 h2 h3 m q C h7 D⟩⟩
 | @map u d e b x y hk h1 h2 h3 m q _ _=>
   intro _ _ _ _;have hu:under u=u:=cQ (by omega) (by omega) (by omega) (by omega);exact⟨_,_,_,_,rfl,fun w _=>BZ b w,.inl ⟨by rw[hu];omega,by rw[hu];exact .map hk h1 h2 h3 m q⟩⟩
 | @chan u e b x hk h1 h2 h3 m _=>
   intro _ _ _ _;have hu:under u=u:=cQ (by omega) (by omega) (by omega) (by omega);exact⟨_,_,_,_,rfl,fun w _=>B3 b w,.inl ⟨by rw[hu];omega,by rw[hu];exact .chan hk h1 h2 h3 m⟩⟩
 | @iface u b hk h1=>
   intro _ _ _ _;have hu:under u=u:=cQ (by omega) (by omega) (by omega) (by omega);exact⟨_,_,_,_,rfl,fun w _=>B6 b w,.inl ⟨by rw[hu];omega,by rw[hu];exact .iface hk h1⟩⟩
 | @iD u hk h1 h2 h3 m=>
   intro _ r _ _;have j:bare u=u:=cu (by omega) (by omega);rw[j]at r;obtain⟨y,z,_⟩:=r hk;rw[h3]at z;cases z
 | @named u y x hk h1 h2 h3 m q v ih=>
   intro _ r _ _;have j:bare u=u:=cu (by omega) (by omega);have hu:under u=y:=jn (by rw[j];exact hk) (by rw[j];exact h3);obtain⟨t,b,rfl⟩:=v.val;refine⟨_,_,_,_,rfl,fun w hw=>qQ _ t _ w (hw _ _ _ q.1) (hw _ _ _ q.2.1) (hw _ _ _ q.2.2),?_⟩;rw[hu];rw[j]at r;obtain⟨F,z,E⟩:=r hk;rw[h3]at z;cases z;exact .inl ⟨E,v⟩
 | @union u b a c f xs hk h1 h2 h3 m q _=>
   intro _ _ n o;exfalso;have j:bare u=u:=cu (by rcases hk with e|e<;>rw[e]<;>decide) (by rcases hk with e|e<;>rw[e]<;>decide);rw[j]at n o;rcases hk with e|e
   ·exact n e
   ·exact o e
 | @err u x hk h1 h2 h3 v ih=>
   intro _ _ _ _;have j:bare u=u:=cu (by omega) (by omega);have hu:under u=aI:=jo (by rw[j];exact hk) (by rw[j];exact h1);obtain⟨t,b,rfl⟩:=v.val;exact⟨_,_,_,_,rfl,fun w hw=>qQ _ t _ w (hw _ _ _ h3.1) (hw _ _ _ h3.2.1) (hw _ _ _ h3.2.2),.inl ⟨by rw[hu];decide,by rw[hu];exact v⟩⟩
 | @comp u b hk h1 h2 h3=>
   intro _ _ _ _;have j:bare u=u:=cu (by omega) (by omega);have hu:under u=u:=by rw[ik]<;>rw[j]<;>omega
   exact⟨_,_,_,_,rfl,fun w hw=>qQ _ _ _ w (hw _ _ _ h2.1) (hw _ _ _ h2.2.1) (hw _ _ _ h2.2.2),.inr ⟨by rw[hu];exact hk,rfl,h3⟩⟩
end Go.Proofs.YtdkmnkjhhhmglaaGreatDoor
namespace TS
open Go Go.RowKit Go.Sort Go.Proofs.YtdkmnkjhhhmglaaGreatDoor
def cJ(len:Nat):Tm→Prop
 |none=>True
 |some (_,e)=>Tok len e
theorem Tok.eB{len:Nat}{e:U}(h:Tok len e){p:Pm}{g:Ge}{x:Value}(d:TS.Node p g e x){w:World}(hw:KW p w):∃t b rt c,x=ae t b∧cG w t b (ae rt c)∧TS.Node p g (under e) (ae rt c):=by
 have a:=h.vt.bare.1.aE;obtain⟨t,b,rt,c,h1,h2,h3⟩:=kD d (jz h.vt) h.fl a.1 a.2;refine⟨t,b,rt,c,h1,h2 w hw,?_⟩;rcases h3 with⟨_,h3⟩|⟨h3,_⟩
 ·exact h3
 ·have:=h.ni
  unfold isIface at this;rw[h3]at this;simp at this
end TS
namespace Go.Proofs.YtdkmnkjhhhmglaaGreatDoor
open Go.RowKit TS Go.Sort
theorem qZ(len:Nat)(p:Pm)(g:Ge)(x y:Nat)(d d':Bool)(e f:U)(w:World)(i:aw p g w)(L:aY p g (some (d,e)) x)(M:aY p g (some (d',f)) y)(he:Tok len e)(r:Tok len f):
 Calls Tryz.prog 226 #[.pointer (some ⟨x,0,none⟩),.pointer (some ⟨y,0,none⟩)] w fun N O=>N= .returned (.bool (cj (d,e) (d',f)))∧au w O:=by
 obtain⟨l,Y,m,c⟩:=L;obtain⟨n,Z,o,h⟩:=M;obtain⟨t,b,rt,rb,rfl,P,k⟩:=he.eB c i.kw;obtain⟨t',b',Q,R,rfl,G,a⟩:=r.eB h i.kw;have c0:=i.kw _ _ _ l;have c1:=i.kw _ _ _ m;have k0:=i.kw _ _ _ n;have k1:=i.kw _ _ _ o;obtain⟨K,fn,cc,C,q,H,hm,hn,I⟩:=P;have S:=fun args w=>Go.MuLone.run_callFunc_enter C q H args w;obtain⟨K',T,V,s,j,D,W,X,E⟩:=G;have J:=fun args w=>Go.MuLone.run_callFunc_enter s j D args w;have F:=Lib.hid I;have u:=Lib.hid E;clear C q H s j D I E;cases d
 ·cases d'
  ·have v:=Lib.hid (mY len p g e f _ _ w i he.vt r.vt c h)
   have hr:Hid ((!aB e f)=cj (false,e) (false,f)):=rfl;clear i c h k a he r l m n o;go_enter Tryz.func226,Tryz.ntmps226;go_wp2_with fail
   refine v.out.mono ?_;rintro z A ⟨rfl,B⟩;go_wp2_with fail
   go_ret;exact⟨by rw[←hr.out];rfl,B⟩
  ·have v:=Lib.hid (mY len p g (under e) f _ _ w i he.vu r.vt k h)
   have hr:Hid ((!aB (under e) f)=cj (false,e) (true,f)):=rfl;clear i c h k a he r l m n o;go_enter Tryz.func226,Tryz.ntmps226;go_wp2_with fail
   refine F.out.mono ?_;rintro z A ⟨rfl,rfl⟩;go_wp2_with fail
   refine v.out.mono ?_;rintro z A ⟨rfl,B⟩;go_wp2_with fail
   go_ret;exact⟨by rw[←hr.out];rfl,B⟩
 ·cases d'
  ·have v:=Lib.hid (mY len p g e (under f) _ _ w i he.vt r.vu c a)
   have hr:Hid ((!aB e (under f))=cj (true,e) (false,f)):=rfl;clear i c h k a he r l m n o;go_enter Tryz.func226,Tryz.ntmps226;go_wp2_with fail
   refine u.out.mono ?_;rintro z A ⟨rfl,rfl⟩;go_wp2_with fail
   refine v.out.mono ?_;rintro z A ⟨rfl,B⟩;go_wp2_with fail
   go_ret;exact⟨by rw[←hr.out];rfl,B⟩
  ·have v:=Lib.hid (mY len p g (under e) (under f) _ _ w i he.vu r.vu k a)
   have hr:Hid ((!aB (under e) (under f))=cj (true,e) (true,f)):=rfl;clear i c h k a he r l m n o;go_enter Tryz.func226,Tryz.ntmps226;go_wp2_with fail
   refine F.out.mono ?_;rintro z A ⟨rfl,rfl⟩;go_wp2_with fail
   refine u.out.mono ?_;rintro z A ⟨rfl,rfl⟩;go_wp2_with fail
   refine v.out.mono ?_;rintro z A ⟨rfl,B⟩;go_wp2_with fail
   go_ret;exact⟨by rw[←hr.out];rfl,B⟩
def mZ(p:Pm)(g:Ge)(x y:Nat)(a ty:Tm)(w:World)(e:Ending)(b:World):Prop:=
 au w b∧match cz a ty with
  |none=>e= .returned (.tuple #[.pointer (some ⟨x,0,none⟩),.pointer (some ⟨y,0,none⟩)])
  |some c=> ∃z,aY p g c z∧e= .returned (.tuple #[.pointer (some ⟨z,0,none⟩),.pointer none])
def m_(p:Pm)(g:Ge)(a ty:Tm)(w:World)(e:Ending)(b:World):Prop:=
 au w b∧match bP a ty with
  |none=>e= .returned (.pointer none)
  |some c=> ∃z,aY p g c z∧e= .returned (.pointer (some ⟨z,0,none⟩))
theorem Df(len:Nat)(p:Pm)(g:Ge)(x y:Nat)(t ty:Tm)(w:World)(j:aw p g w)(q:aY p g t x)(o:aY p g ty y)(u:cJ len t)(v:cJ len ty):
 Calls Tryz.prog 214 #[.pointer (some ⟨x,0,none⟩),.pointer (some ⟨y,0,none⟩)] w (mZ p g x y t ty w):=by
 match t,q,u with
 |none,q,_=>
  have c1:=j.kw _ _ _ q;have z:Hid (mZ p g x y none ty w (.returned (.tuple #[.pointer (some ⟨x,0,none⟩),.pointer none])) w):=⟨au.refl _,x,q,rfl⟩
  clear j q o;go_enter Tryz.func214,Tryz.ntmps214;go_wp2_with fail
  go_ret2;exact z.out
 |some (d,e),q,u=>
  obtain⟨c,G,h,i⟩:=q;obtain⟨H,I,rfl⟩:=i.val;have c0:=j.kw _ _ _ c;have c1:=j.kw _ _ _ h;match ty,o,v with
  |none,o,_=>
   have E:=j.kw _ _ _ o;have z:Hid (mZ p g x y (some (d,e)) none w (.returned (.tuple #[.pointer (some ⟨y,0,none⟩),.pointer none])) w):=⟨au.refl _,y,o,rfl⟩
   clear j c h i o;go_enter Tryz.func214,Tryz.ntmps214;go_wp2_with fail
   go_ret2;exact z.out
  |some (d',f),o,v=>
   obtain⟨l,J,m,n⟩:=o;obtain⟨K,L,rfl⟩:=n.val;have A:=j.kw _ _ _ l;have E:=j.kw _ _ _ m;have s:=Lib.hid (qZ len p g x y d d' e f w j ⟨c,_,h,i⟩ ⟨l,_,m,n⟩ u v);have D:Hid (aY p g (some (d,e)) x):=⟨c,_,h,i⟩
   have F:Hid (aY p g (some (d',f)) y):=⟨l,_,m,n⟩
   clear j c h i l m n u v;cases k:cj (d,e) (d',f)
   ·rw[k]at s
    cases d
    ·cases d'
     ·have r:Hid (cz (some (false,e)) (some (false,f))=some (some (false,e))):=by simp[Hid,cz,k]
      clear k;go_enter Tryz.func214,Tryz.ntmps214;go_wp2_with fail
      refine s.out.mono ?_;rintro B C ⟨rfl,a⟩;have f0:=a.cell c0;have f1:=a.cell A;have b:=Lib.hid a;clear a;go_wp2_with fail
      go_ret2;exact⟨b.out,by rw[r.out];exact⟨x,D.out,rfl⟩⟩
     ·have r:Hid (cz (some (false,e)) (some (true,f))=some (some (true,f))):=by simp[Hid,cz,k]
      clear k;go_enter Tryz.func214,Tryz.ntmps214;go_wp2_with fail
      refine s.out.mono ?_;rintro B C ⟨rfl,a⟩;have f0:=a.cell c0;have f1:=a.cell A;have b:=Lib.hid a;clear a;go_wp2_with fail
      go_ret2;exact⟨b.out,by rw[r.out];exact⟨y,F.out,rfl⟩⟩
    ·have r:Hid (cz (some (true,e)) (some (d',f))=some (some (true,e))):=by simp[Hid,cz,k]
     clear k;go_enter Tryz.func214,Tryz.ntmps214;go_wp2_with fail
     refine s.out.mono ?_;rintro B C ⟨rfl,a⟩;have f0:=a.cell c0;have f1:=a.cell A;have b:=Lib.hid a;clear a;go_wp2_with fail
     go_ret2;exact⟨b.out,by rw[r.out];exact⟨x,D.out,rfl⟩⟩
   ·rw[k]at s
    have r:Hid (cz (some (d,e)) (some (d',f))=none):=by simp[Hid,cz,k]
    clear k;go_enter Tryz.func214,Tryz.ntmps214;go_wp2_with fail
    refine s.out.mono ?_;rintro B C ⟨rfl,a⟩;have b:=Lib.hid a;clear a;go_wp2_with fail
    go_ret2;exact⟨b.out,by rw[r.out];exact rfl⟩
theorem Dg(len:Nat)(p:Pm)(g:Ge)(x y:Nat)(t ty:Tm)(w:World)(j:aw p g w)(r:aY p g t x)(o:aY p g ty y)(u:cJ len t)(v:cJ len ty):
 Calls Tryz.prog 193 #[.pointer (some ⟨x,0,none⟩),.pointer (some ⟨y,0,none⟩)] w (m_ p g t ty w):=by
 match t,r,u with
 |none,r,_=>
  have c1:=j.kw _ _ _ r;have z:Hid (m_ p g none ty w (.returned (.pointer (some ⟨y,0,none⟩))) w):=⟨au.refl _,y,o,rfl⟩
  clear j r o;go_enter Tryz.func193,Tryz.ntmps193;go_wp2_with fail
  go_ret;exact z.out
 |some (d,e),r,u=>
  obtain⟨c,G,h,i⟩:=r;obtain⟨H,I,rfl⟩:=i.val;have c0:=j.kw _ _ _ c;have c1:=j.kw _ _ _ h;match ty,o,v with
  |none,o,_=>
   have E:=j.kw _ _ _ o;have z:Hid (m_ p g (some (d,e)) none w (.returned (.pointer (some ⟨x,0,none⟩))) w):=⟨au.refl _,x,⟨c,_,h,i⟩,rfl⟩
   clear j c h i o;go_enter Tryz.func193,Tryz.ntmps193;go_wp2_with fail
   go_ret;exact z.out
  |some (d',f),o,v=>
   obtain⟨l,J,m,n⟩:=o;obtain⟨K,L,rfl⟩:=n.val;have A:=j.kw _ _ _ l;have E:=j.kw _ _ _ m;have s:=Lib.hid (qZ len p g x y d d' e f w j ⟨c,_,h,i⟩ ⟨l,_,m,n⟩ u v);have D:Hid (aY p g (some (d,e)) x):=⟨c,_,h,i⟩
   have F:Hid (aY p g (some (d',f)) y):=⟨l,_,m,n⟩
   clear j c h i l m n u v;cases k:cj (d,e) (d',f)
   ·rw[k]at s
    cases d
    ·have q:Hid (bP (some (false,e)) (some (d',f))=some (some (false,e))):=by simp[Hid,bP,k]
     clear k;go_enter Tryz.func193,Tryz.ntmps193;go_wp2_with fail
     refine s.out.mono ?_;rintro B C ⟨rfl,a⟩;have f0:=a.cell c0;have f1:=a.cell A;have b:=Lib.hid a;clear a;go_wp2_with fail
     go_ret;exact⟨b.out,by rw[q.out];exact⟨x,D.out,rfl⟩⟩
    ·cases d'
     ·have q:Hid (bP (some (true,e)) (some (false,f))=some (some (false,f))):=by simp[Hid,bP,k]
      clear k;go_enter Tryz.func193,Tryz.ntmps193;go_wp2_with fail
      refine s.out.mono ?_;rintro B C ⟨rfl,a⟩;have f0:=a.cell c0;have f1:=a.cell A;have b:=Lib.hid a;clear a;go_wp2_with fail
      go_ret;exact⟨b.out,by rw[q.out];exact⟨y,F.out,rfl⟩⟩
     ·have q:Hid (bP (some (true,e)) (some (true,f))=some (some (true,e))):=by simp[Hid,bP,k]
      clear k;go_enter Tryz.func193,Tryz.ntmps193;go_wp2_with fail
      refine s.out.mono ?_;rintro B C ⟨rfl,a⟩;have f0:=a.cell c0;have f1:=a.cell A;have b:=Lib.hid a;clear a;go_wp2_with fail
      go_ret;exact⟨b.out,by rw[q.out];exact⟨x,D.out,rfl⟩⟩
   ·rw[k]at s
    have q:Hid (bP (some (d,e)) (some (d',f))=none):=by simp[Hid,bP,k]
    clear k;go_enter Tryz.func193,Tryz.ntmps193;go_wp2_with fail
    refine s.out.mono ?_;rintro B C ⟨rfl,a⟩;have b:=Lib.hid a;clear a;go_wp2_with fail
    go_ret;exact⟨b.out,by rw[q.out];exact rfl⟩
end Go.Proofs.YtdkmnkjhhhmglaaGreatDoor
