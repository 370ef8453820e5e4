import Derived.Test.YtkochlhejabdcaaGreatDoorYbb
set_option maxRecDepth 100000
set_option maxHeartbeats 8000000
set_option linter.all false
namespace Go.Proofs.YtkochlhejabdcaaGreatDoor
open Go.RowKit TS Go.Sort
def CX(len:Nat)(p:Pm)(g:Ge)(c:Nat)(u:U):Prop:=
 ∀(v:U)(x y st:Value)(w:World),ks p g c w→Vt len u→Vt len v→TS.Node p g u x→TS.Node p g v y→gq g w u.sz v.sz st→
  Xk 75 #[Xp c,x,y,st] w fun e a=>e= .returned (.bool (aJ u v))∧aB w a
theorem CY{p:Pm}{g:Ge}{c:Nat}{w:World}{u v:U}{b j:Nat}{st:Value}(d:ks p g c w)(k:g.G b=some u)(f:g.G j=some v)(h:gq g w u.sz v.sz st):ig w b j st:=by
 induction h with
 |nil=>exact .nil
 |cons h1 l m a i q h7 n _ ih=>
  refine .cons h1 l m (d.pl _ _ _ (d.done _ _ a).1) (d.pl _ _ _ (d.done _ _ i).1) (fun e=> ?_) (fun e o=> ?_) n ih
  ·subst e;rw[k]at a;cases a;omega
  ·subst e;subst o;rw[f]at a;rw[k]at i;cases a;cases i;omega
theorem qV{p:Pm}{w:World}{v:Value}{n:Nat}{f:Nat→Nat}(h:eM p v n f)(hw:KW p w):(n=0∧v= .pointer none)∨(0<n∧∃tb a c,v=Xp tb∧p tb 0=some (.slice a n c)∧Xc w tb 0 (.slice a n c)∧bJ w a n f):=by
 rcases h with h|⟨h1,tb,a,c,g,d,_,j⟩
 ·exact .inl h
 ·refine .inr ⟨h1,tb,a,c,g,d,hw _ _ _ d,fun i hi=> ?_⟩
  obtain⟨b,o,e,k⟩:=j i hi;exact⟨b,o,e,hw _ _ _ k⟩
theorem gT{p:Pm}{w:World}{a:Option Addr}{n:Nat}{f:Nat→Nat}(h:cd p a n fun i=>ptr (f i))(hw:KW p w):bJ w a n f:=fun i hi=>let⟨b,o,e,c⟩:=h i hi;⟨b,o,e,hw _ _ _ c⟩
theorem vp(p:Pm)(c n j:Nat)(v C st:Value)(f D E F G H:Nat→Nat)(rs:Nat→Bool)(w:World)(h:KW p w)(k:∀b o v,p b o=some v→Plain w b)(h1:Xc w c 1 (.bool false))(m:st= .pointer none∨∃s,st=Xp s)(L:n≤1099511627776)
 (M:eM p v n f)(x:eM p C j D)(N:∀i,i<n→p (f i) 3=some (.iface (E i) (Xp (F i))))(O:∀i,i<j→p (D i) 3=some (.iface (G i) (Xp (H i))))
 (P:n=j→∀i,i<n→ej c (.iface (E i) (Xp (F i))) (.iface (G i) (Xp (H i))) st (rs i) w)(q:v=C→n=j→∀i,i<n→rs i=true):
 Xk 75 #[Xp c,.iface 109 v,.iface 109 C,st] w fun e y=>e= .returned (.bool (decide (n=j)&&bK n rs))∧aB w y:=by
 rcases qV M h with⟨rfl,rfl⟩|⟨Q,tb,a,J,rfl,l,K,R⟩
 ·rcases qV x h with⟨rfl,rfl⟩|⟨z,g,a',r,rfl,d,u,A⟩
  ·refine(id_eq c _ _ st 109 0 (.pointer none) w (fF _ _ zd w) (fF _ _ zd w) (vb w none)).mono ?_
   rintro e y ⟨rfl,rfl⟩;exact⟨by simp[bK],aB.refl _⟩
  ·refine(CO c g j r a' st w m h1 z u).mono ?_
   rintro e y ⟨rfl,rfl⟩;have:decide (0=j)=false:=zp;exact⟨by rw[this];rfl,aB.refl _⟩
 ·rcases qV x h with⟨rfl,rfl⟩|⟨z,g,a',r,rfl,d,u,A⟩
  ·refine(CP c tb n J a st w m h1 Q K).mono ?_
   rintro e y ⟨rfl,rfl⟩;have:decide (n=0)=false:=zp;exact⟨by rw[this];rfl,aB.refl _⟩
  ·by_cases B:tb=g
   ·subst B
    have I:n=j:=by rw[l]at d;cases d;rfl
    subst I;have he:=qP (t:=109) (t':=109) ot w tb tb (k _ _ _ l) (k _ _ _ l);refine(id_eq c _ _ st 109 0 (Xp tb) w (fF _ _ zd w) (fF _ _ zd w) (by simpa using he)).mono ?_;rintro e y ⟨rfl,rfl⟩;have:=lr (q rfl rfl);exact⟨by rw[this];simp,aB.refl _⟩
   ·have he:=qP (t:=109) (t':=109) ot w tb g (k _ _ _ l) (k _ _ _ d)
    have S:decide (109=109∧tb=g)=false:=by simp[B]
    rw[S]at he;exact CM c tb g n j J r a a' f D E F G H rs st w m h1 he L K u R A (fun i hi=>h _ _ _ (N i hi)) (fun i hi=>h _ _ _ (O i hi)) P
theorem mJ{k:Int}(h1:1≤k)(a:k≤16)(b:k≠2)(c:k≠12)(d:k≠13)(e:k≠14):k=1∨k=3∨k=4∨k=5∨k=6∨k=7∨k=8∨k=9∨k=10∨(k=11∨k=15∨k=16):=zo
theorem gx{e:Ending}{w a:World}{r b:Bool}(h:e= .returned (.bool r)∧w=a)(hr:r=b):e= .returned (.bool b)∧aB w a:=⟨by rw[←hr];exact h.1,by rw[h.2];exact aB.refl _⟩
theorem oB{u v e f:U}(g:u.k≠2)(b:u.k≠14)(c:v.k≠2)(a:v.k≠14)(d:u.k≠10)(hk:v.k=u.k)(he:u.es= [e])(h:v.es= [f]):aJ u v=(bf u v&&aJ e f):=by
 rw[kq g b c a d,hk,he,h];simp
theorem vq{u v:U}(e:u.k≠2)(b:u.k≠14)(c:v.k≠2)(a:v.k≠14)(d:u.k≠10)(he:u.es= [])(f:v.es= []):aJ u v=(u.k==v.k&&bf u v):=by
 rw[kq e b c a d,he,f];simp
theorem qW{l r:List U}(b:l.length=r.length)(F:U→U→Bool):((l.zip r).all fun(e,f)=>F e f)=bK l.length fun i=>F (l.getD i default) (r.getD i default):=by
 rw[Bool.eq_iff_iff,kc];constructor
 ·intro h
  exact lr fun i hi=>by
   have:=h i hi zo;simpa [hi,show i<r.length by omega]using this
 ·intro h i hi a
  unfold bK at h;rw[List.all_eq_true]at h;have:=h i (List.mem_range.2 hi);simpa [hi,a]using this
theorem vy{n:Nat}{r b:Nat→Bool}(h:∀i,i<n→r i=b i):bK n r=bK n b:=by
 unfold bK;rw[Bool.eq_iff_iff,List.all_eq_true,List.all_eq_true];exact⟨fun a i hi=>by rw[←h i (List.mem_range.1 hi)];exact a i hi,fun a i hi=>by rw[h i (List.mem_range.1 hi)];exact a i hi⟩
theorem CZ{n m:Nat}(hm:m≤n)(r:Nat→Bool):bK n r=(bK m r&&bK (n- m) fun i=>r (m+i)):=by
 rw[Bool.eq_iff_iff,Bool.and_eq_true];unfold bK;simp only[List.all_eq_true,List.mem_range];constructor
 ·exact fun h=>⟨fun i hi=>h i zo,fun i hi=>h (m+i) zo⟩
 ·intro⟨h1,b⟩ i hi
  by_cases a:i<m
  ·exact h1 i a
  ·have:=b (i- m) zo
   rwa [show m+(i- m)=i by omega]at this
theorem C0{n:Nat}(r s:Nat→Bool):bK n (fun i=>r i&&s i)=(bK n r&&bK n s):=by
 rw[Bool.eq_iff_iff,Bool.and_eq_true];unfold bK;simp only[List.all_eq_true,List.mem_range,Bool.and_eq_true];exact⟨fun h=>⟨fun i hi=>(h i hi).1,fun i hi=>(h i hi).2⟩,fun⟨h1,a⟩ i hi=>⟨h1 i hi,a i hi⟩⟩
theorem C1{u v:U}(hk:u.k=7)(b:v.k=7)(hm:0≤u.m∧u.m.toNat≤u.es.length)(f:0≤v.m∧v.m.toNat≤v.es.length)(rs:Nat→Bool)(c:∀i,i<u.es.length→i<v.es.length→rs i=aJ (u.es.getD i default) (v.es.getD i default)):
 aJ u v=((u.v==v.v)&&((decide (u.m.toNat=v.m.toNat)&&bK u.m.toNat rs)&&(decide (u.es.length- u.m.toNat=v.es.length- v.m.toNat)&&bK (u.es.length- u.m.toNat) fun i=>aJ (u.es.getD (u.m.toNat+i) default) (v.es.getD (v.m.toNat+i) default)))):=by
 rw[kq zo zo zo zo zo,hk,b];have g:bf u v=(u.m==v.m&&u.v==v.v):=by unfold bf;rw[if_neg zo,if_pos hk]
 rw[g];by_cases a:u.m=v.m
 ·by_cases d:u.es.length=v.es.length
  ·rw[qW d,CZ (n:=u.es.length) hm.2,a,d]
   have h:bK v.m.toNat (fun i=>aJ (u.es.getD i default) (v.es.getD i default))=bK v.m.toNat rs:=vy fun i hi=>(c i zo zo).symm;rw[h];simp
  ·have h1:decide (u.es.length=v.es.length)=false:=by simp[d]
   have e:decide (u.es.length- u.m.toNat=v.es.length- v.m.toNat)=false:=zp;rw[h1,e];simp
 ·have h1:(u.m==v.m)=false:=by simp[a]
  have e:decide (u.m.toNat=v.m.toNat)=false:=zp;rw[h1,e];simp
theorem C2{u v:U}(hk:u.k=5)(a:v.k=5)(rs:Nat→Bool)(b:∀i,i<u.es.length→i<v.es.length→rs i=aJ (u.es.getD i default) (v.es.getD i default)):
 aJ u v=(decide (u.es.length=v.es.length)&&bK u.es.length (gR (fun i=>(u.es.getD i default).tg) (fun i=>(v.es.getD i default).tg) (fun i=>(u.es.getD i default).nm) (fun i=>(v.es.getD i default).nm) rs)):=by
 rw[kq zo zo zo zo zo,hk,a];by_cases c:u.es.length=v.es.length
 ·have d:bf u v=bK u.es.length fun i=>decide ((u.es.getD i default).nm.toList=(v.es.getD i default).nm.toList)&&decide ((u.es.getD i default).tg.toList=(v.es.getD i default).tg.toList):=by
   unfold bf;rw[if_neg zo,if_neg zo,if_pos hk];exact qW c fun e f=>decide (e.nm.toList=f.nm.toList)&&decide (e.tg.toList=f.tg.toList)
  rw[d,qW c,←C0];simp only[beq_self_eq_true,Bool.true_and];congr 1;refine vy fun i hi=> ?_;unfold gR;rw[b i hi zo];have b1:((u.es.getD i default).tg.toList==(v.es.getD i default).tg.toList)=decide ((u.es.getD i default).tg.toList=(v.es.getD i default).tg.toList):=by rw[Bool.eq_iff_iff];simp
  have g:((u.es.getD i default).nm.toList==(v.es.getD i default).nm.toList)=decide ((u.es.getD i default).nm.toList=(v.es.getD i default).nm.toList):=by rw[Bool.eq_iff_iff];simp
  rw[b1,g];cases decide ((u.es.getD i default).tg.toList=(v.es.getD i default).tg.toList)<;>cases decide ((u.es.getD i default).nm.toList=(v.es.getD i default).nm.toList)<;>rfl
 ·have h1:decide (u.es.length=v.es.length)=false:=by simp[c]
  rw[h1];simp
theorem mK{n:Nat}{xs:Nat→Value}(h:∀i,i<n→∃t b,xs i=ah t b):∃(c d:Nat→Nat),∀i,i<n→xs i=ah (c i) (d i):=
 ⟨fun i=>match xs i with| .iface t _=>t|_=>0,fun i=>match xs i with| .iface _ (.pointer (some a))=>a.block|_=>0,fun i hi=>by obtain⟨t,b,e⟩:=h i hi;simp[e]⟩
theorem _root_.TS.eM.shape{p:Pm}{v:Value}{n:Nat}{f:Nat→Nat}(h:eM p v n f):∃a,v= .pointer a:=by
 rcases h with⟨_,rfl⟩|⟨_,tb,_,_,rfl,_⟩<;>exact⟨_,rfl⟩
theorem _root_.TS.Form.vz{len:Nat}{u:U}{pos f:Nat}(h:TS.Form len u pos f)(hk:u.k=3):0≤u.n:=by
 cases h with
 |one _ h _=>exact h
 |pre a _=>omega
 |ptr a _ _ _=>omega
 |_=>omega
theorem _root_.TS.Node.C3{p:Pm}{g:Ge}{u:U}{x:Value}(h:TS.Node p g u x)(hk:u.k=5):∀e∈u.es,aR e.nm=true:=by
 cases h with
 |struct h=>exact h.2
 |_=>omega
theorem vA{p:Pm}{g:Ge}{l:List U}{f:Nat→Nat}(h:∀i(h:i<l.length),dq p g l[i] (f i)):
 ∃(a:Nat→Nat)(b:Nat→Option Addr),∀i(hi:i<l.length),p (f i) 1=some (.pointer (b i))∧p (f i) 2=some (.string l[i].nm)∧p (f i) 3=some (ah 108 (a i))∧TS.Node p g l[i] (ah 108 (a i)):=
 ⟨fun i=>if hi:i<l.length then(h i hi).choose else 0,fun i=>if hi:i<l.length then(h i hi).choose_spec.1.choose else none,fun i hi=>by
  simp only[hi,dite_true];exact⟨(h i hi).choose_spec.1.choose_spec,(h i hi).choose_spec.2⟩⟩
theorem vC{p:Pm}{g:Ge}{c:Nat}{w:World}{u:U}{t b:Nat}(d:ks p g c w)(h:TS.Node p g u (ah t b))(hk:u.k=11∨u.k=15∨u.k=16):
 ∃o,p b 1=some (ptr o)∧Plain w o∧(u.k=11→o=g.ob u.n.toNat∧u.n.toNat<g.len∧0≤u.n)∧(u.k=15→o=g.eo)∧(u.k=16→o=g.co):=by
 rcases hk with h1|h1|h1
 ·obtain⟨e,j,i,f,_⟩:=h.jy h1
  cases e;obtain⟨_,_,a⟩:=d.po _ i;exact⟨_,f,d.pl _ _ _ a,fun _=>⟨rfl,i,j⟩,fun h=>by omega,fun h=>by omega⟩
 ·obtain⟨e,_,f,_⟩:=h.lk h1
  cases e;obtain⟨_,_,a⟩:=d.cY;exact⟨_,f,d.pl _ _ _ a,fun h=>by omega,fun _=>rfl,fun h=>by omega⟩
 ·obtain⟨e,f,_⟩:=h.mC h1
  cases e;obtain⟨_,_,a⟩:=d.cZ;exact⟨_,f,d.pl _ _ _ a,fun h=>by omega,fun h=>by omega,fun _=>rfl⟩
theorem dK{t t' a b:Nat}(h:ah t a=ah t' b):a=b:=by cases h;rfl
theorem C4(len:Nat)(p:Pm)(g:Ge)(c:Nat):∀u,CX len p g c u:=by
 intro u;induction u using U.bc with
 |_ u ih=>
  intro v x y st w l hu hv P1 P2 hS;obtain⟨b,hn,ht,hx⟩:=hu.strip P1;obtain⟨K,kn,kt,hy⟩:=hv.strip P2;have B:=ov _ b x p ht hx w l.kw;have C:=ov _ K y p kt hy w l.kw;have E:=hS.shape;rw[←uJ (jz hu) (jz hv)];obtain⟨G,u2,u14,hs⟩:=hu.bare;obtain⟨I,v2,P,Qc⟩:=hv.bare;have PU:=hS.mono hs Qc;have P3:=hn.plain l u2 u14;have P4:=kn.plain l v2 P;have he:=qP (t:=bu (bare u).k) (t':=bu (bare v).k) (qU _) w b K P3 P4;have Qd:bu (bare u).k=bu (bare v).k→b=K→aJ (bare u) (bare v)=true:=fun Q R=>uL l.inj G I hn (by rw[Q,R];exact kn);have V:∀e f,e.sz<u.sz→f.sz≤v.sz→Vt len e→Vt len f→∀xe yf,TS.Node p g e xe→TS.Node p g f yf→ej c xe yf st (aJ e f) w:=fun e f h1 L X T xe yf h5 h6 n os=>
   ih e h1 f xe yf st _ (l.dD (aB.of w n os)) X T h5 h6 ((hS.mono zo L).dD (aB.of w n os))
  have P5:=(hn.tag u2 u14).2;have QF:=(kn.tag v2 P).2;have PR:=G.aD;have QB:=I.aD;have PW:=jz hu;have PS:=jz hv;clear P1 P2 hx hy hS hu hv;generalize bare u=D at*;generalize bare v=q at*;by_cases M:bu D.k=bu q.k∧b=K
  ·have hd:decide (bu D.k=bu q.k∧b=K)=true:=by simp[M]
   rw[hd]at he;rw[←M.1,←M.2]at he C;refine(id_eq c x y st _ 0 _ w B C he).mono ?_;intro e w' h;exact gx h (Qd M.1 M.2).symm
  ·have hd:decide (bu D.k=bu q.k∧b=K)=false:=by simp only[decide_eq_false_iff_not];exact M
   rw[hd]at he;have P6:=mJ P5.1 P5.2 u2 PR.1 PR.2 u14;by_cases J:bu D.k=bu q.k
   ·rcases P6 with h|h|h|h|h|h|h|h|h|h
    ·have A:q.k=1:=by rw[←h];exact(eN J zo zo).symm
     obtain⟨b1,Q,h1⟩:=hn.kl h;obtain⟨b2,R,L⟩:=kn.kl A;cases dK Q;cases dK R;obtain⟨_,hf⟩:=G.form;obtain⟨_,S⟩:=I.form;have hr:((D.n+1)==(q.n+1))=aJ D q:=by
      rw[vq u2 u14 v2 P zo (hf.lens zo) (S.lens zo),h,A];unfold bf;rw[if_pos zo];rw[Bool.eq_iff_iff];simp
     rw[h]at B he;rw[A]at C he;rw[←hr];exact CH c b K x y st w (D.n+1) (q.n+1) E l.c1 l.c0 B C he (l.kw _ _ _ h1) (l.kw _ _ _ L)
    ·have A:q.k=3:=by rw[←h];exact(eN J zo zo).symm
     obtain⟨b1,e,z,Q,N,h1,X,n1⟩:=hn.ko h;obtain⟨b2,f,z',R,O,L,T,n2⟩:=kn.ko A;cases dK Q;cases dK R;obtain⟨_,hf⟩:=G.form;obtain⟨_,S⟩:=I.form;obtain⟨Y,Z,rfl⟩:=n1.val;obtain⟨yt,yb,rfl⟩:=n2.val;have s1:=U.ar (u:=D) (e:=e) (by rw[N];simp);have s2:=U.ar (u:=q) (e:=f) (by rw[O];simp);rw[oB u2 u14 v2 P zo zo N O,show bf D q=(D.n==q.n) by unfold bf;rw[if_pos zo]];rw[h]at B he;rw[A]at C he;exact CI c b K x y st w D.n q.n (hf.vz h) (S.vz A) Y Z yt yb _ E l.c1 l.c0 B C he (l.kw _ _ _ h1) (l.kw _ _ _ L) (l.kw _ _ _ X) (l.kw _ _ _ T) (V e f zo zo (G.one zo N) (I.one zo O) _ _ n1 n2)
    ·have A:q.k=4:=by rw[←h];exact(eN J zo zo).symm
     obtain⟨b1,e,z,Q,N,X,n1⟩:=hn.mA h;obtain⟨b2,f,z',R,O,T,n2⟩:=kn.mA A;cases dK Q;cases dK R;obtain⟨Y,Z,rfl⟩:=n1.val;obtain⟨yt,yb,rfl⟩:=n2.val;have s1:=U.ar (u:=D) (e:=e) (by rw[N];simp);have s2:=U.ar (u:=q) (e:=f) (by rw[O];simp);rw[oB u2 u14 v2 P zo zo N O,show bf D q=true by unfold bf;rw[if_neg zo,if_neg zo,if_neg zo],Bool.true_and];rw[h]at B he;rw[A]at C he;exact CE c b K x y st w Y Z yt yb _ E l.c1 l.c0 B C he (l.kw _ _ _ X) (l.kw _ _ _ T) (V e f zo zo (G.one zo N) (I.one zo O) _ _ n1 n2)
    ·have A:q.k=5:=by rw[←h];exact(eN J zo zo).symm
     obtain⟨b1,a,a',d,d',f,xs,Q,h1,L,q1,q2,X,T,h5,h6⟩:=hn.kp h;obtain⟨b2,a2,Qe,r,r',f',ys,R,k1,k2,QG,QH,k3,k4,k5,k6⟩:=kn.kp A;cases dK Q;cases dK R;have Qf:∀i,i<D.es.length→∃t b,xs i=ah t b:=fun i hi=>(h6 i hi).val;have Qg:∀i,i<q.es.length→∃t b,ys i=ah t b:=fun i hi=>(k6 i hi).val;obtain⟨Y,Z,PI⟩:=mK Qf;obtain⟨yt,yb,PJ⟩:=mK Qg;obtain⟨_,hf⟩:=G.form;have PQ:=hn.C3 h;rw[C2 h A (fun i=>aJ (D.es.getD i default) (q.es.getD i default)) (fun _ _ _=>rfl)];rw[h]at B he;rw[A]at C he;refine CS c b K x y st w D.es.length q.es.length d r d' r' a a2 a' Qe f f' Y Z yt yb _ _ _ _ (fun _=> .some (Xa g.pk 0)) _ E l.c1 l.c0 B C he q2 l.cap (l.kw _ _ _ h1) (l.kw _ _ _ k1) (gT X l.kw) (gT k3 l.kw) (l.kw _ _ _ L) (l.kw _ _ _ k2) ?_ ?_ ?_ ?_ ?_
     ·intro i hi
      obtain⟨b0,o,e,hc⟩:=T i hi;exact⟨b0,o,e,by simpa [hi]using l.kw _ _ _ hc⟩
     ·intro i hi
      obtain⟨b0,o,e,hc⟩:=k4 i hi;exact⟨b0,o,e,by simpa [hi]using l.kw _ _ _ hc⟩
     ·intro i hi
      obtain⟨p1,p2,p3,p5⟩:=h5 i hi;refine⟨by simpa [hi]using l.kw _ _ _ p2,by simpa [hi]using PQ _ (zm hi),l.kw _ _ _ p5,by have:=l.kw _ _ _ p3;rw[PI i hi]at this;exact this⟩
     ·intro i hi
      obtain⟨p1,p2,p3,p5⟩:=k5 i hi;refine⟨by simpa [hi]using l.kw _ _ _ p2,l.kw _ _ _ p1,l.kw _ _ _ p5,by have:=l.kw _ _ _ p3;rw[PJ i hi]at this;exact this⟩
     ·intro PK i hi
      have F:i<q.es.length:=zo;have s1:=U.ar (zm hi);have s2:=U.ar (zm F);have:=V D.es[i] q.es[i] zo zo (G.part zo hi) (I.part zo F) _ _ (h6 i hi) (k6 i F);rw[PI i hi,PJ i F]at this;simpa [hi,F]using this
    ·have A:q.k=6:=by rw[←h];exact(eN J zo zo).symm
     obtain⟨b1,e,z,Q,N,X,n1⟩:=hn.og h;obtain⟨b2,f,z',R,O,T,n2⟩:=kn.og A;cases dK Q;cases dK R;obtain⟨Y,Z,rfl⟩:=n1.val;obtain⟨yt,yb,rfl⟩:=n2.val;have s1:=U.ar (u:=D) (e:=e) (by rw[N];simp);have s2:=U.ar (u:=q) (e:=f) (by rw[O];simp);rw[oB u2 u14 v2 P zo zo N O,show bf D q=true by unfold bf;rw[if_neg zo,if_neg zo,if_neg zo],Bool.true_and];rw[h]at B he;rw[A]at C he;exact CF c b K x y st w Y Z yt yb _ E l.c1 l.c0 B C he (l.kw _ _ _ X) (l.kw _ _ _ T) (V e f zo zo (G.one zo N) (I.one zo O) _ _ n1 n2)
    ·have A:q.k=7:=by rw[←h];exact(eN J zo zo).symm
     obtain⟨b1,pv,rv,f,xs,Q,⟨hm,QC⟩,h1,L,X,T,h5,h6,h7⟩:=hn.lj h;obtain⟨b2,QI,QJ,f',ys,R,⟨km,QD⟩,k1,k2,k3,k4,k5,k6,k7⟩:=kn.lj A;cases dK Q;cases dK R;obtain⟨Y,Z,PI⟩:=mK fun i hi=>(h7 i hi).val;obtain⟨yt,yb,PJ⟩:=mK fun i hi=>(k7 i hi).val;obtain⟨_,hf⟩:=G.form;obtain⟨_,S⟩:=I.form;obtain⟨pa,rfl⟩:=T.shape;obtain⟨Qh,rfl⟩:=k4.shape;obtain⟨ra,rfl⟩:=h5.shape;obtain⟨Qi,rfl⟩:=k5.shape;have PL:∀i j,i<D.es.length→j<q.es.length→ej c (.iface (Y i) (Xp (Z i))) (.iface (yt j) (Xp (yb j))) st (aJ (D.es.getD i default) (q.es.getD j default)) w:=fun i j hi F=>by
      have s1:=U.ar (zm hi);have s2:=U.ar (zm F);have:=V D.es[i] q.es[j] zo zo (G.part zo hi) (I.part zo F) _ _ (h7 i hi) (k7 j F);rw[PI i hi,PJ j F]at this;simpa [hi,F]using this
     have PH:∀i j,i<D.es.length→j<q.es.length→f i=f' j→aJ (D.es.getD i default) (q.es.getD j default)=true:=fun i j hi F e=>by
      have g1:=h6 i hi;have g2:=k6 j F;rw[←e,g1]at g2;have:=uL l.inj (G.part zo hi) (I.part zo F) (h7 i hi) (by rw[Option.some.inj g2];exact k7 j F);simpa [hi,F]using this
     rw[C1 h A (hf.oj h) (S.oj A) (fun i=>aJ (D.es.getD i default) (q.es.getD i default)) (fun _ _ _=>rfl)];rw[h]at B he;rw[A]at C he;refine CQ c b K x y st w pa Qh ra Qi _ _ _ _ E l.c1 l.c0 B C he (l.kw _ _ _ X) (l.kw _ _ _ k3) (l.kw _ _ _ h1) (l.kw _ _ _ k1) (l.kw _ _ _ L) (l.kw _ _ _ k2) ?_ ?_
     ·intro n os
      have hk:=aB.of w n os;have PG:=l.dD hk
      exact vp p c D.m.toNat q.m.toNat _ _ st f f' Y Z yt yb _ _ PG.kw PG.pl PG.c1 E zo T k4 (fun i hi=>by have:=h6 i zo;rw[PI i zo]at this;exact this) (fun i hi=>by have:=k6 i zo;rw[PJ i zo]at this;exact this)
       (fun PK i hi=>(PL i i zo zo).dD hk) fun hv PK i hi=>PH i i zo zo (by rw[hv]at T;exact(T.unique k4).2 i hi)
     ·intro n os
      have hk:=aB.of w n os;have PG:=l.dD hk
      refine vp p c (D.es.length- D.m.toNat) (q.es.length- q.m.toNat) _ _ st (fun i=>f (D.m.toNat+i)) (fun i=>f' (q.m.toNat+i)) (fun i=>Y (D.m.toNat+i)) (fun i=>Z (D.m.toNat+i)) (fun i=>yt (q.m.toNat+i)) (fun i=>yb (q.m.toNat+i)) _ _ PG.kw PG.pl PG.c1 E zo h5 k5
       (fun i hi=>by have:=h6 (D.m.toNat+i) zo;rw[PI _ zo]at this;exact this) (fun i hi=>by have:=k6 (q.m.toNat+i) zo;rw[PJ _ zo]at this;exact this) (fun PK i hi=> ?_) fun hv PK i hi=> ?_
      ·exact(PL _ _ zo zo).dD hk
      ·rw[hv]at h5
       exact PH _ _ zo zo ((h5.unique k5).2 i hi)
    ·have A:q.k=8:=by rw[←h];exact(eN J zo zo).symm
     obtain⟨b1,d,e,y1,z1,Q,N,h1,X,n1,n2⟩:=hn.oh h;obtain⟨b2,d',e',QK,QL,R,O,L,T,n3,n4⟩:=kn.oh A;cases dK Q;cases dK R;obtain⟨Y,Z,rfl⟩:=n1.val;obtain⟨Qj,Qk,rfl⟩:=n2.val;obtain⟨yt,yb,rfl⟩:=n3.val;obtain⟨Ql,Qm,rfl⟩:=n4.val;have s1:=U.ar (u:=D) (e:=d) (by rw[N];simp);have s2:=U.ar (u:=q) (e:=d') (by rw[O];simp);have s3:=U.ar (u:=D) (e:=e) (by rw[N];simp);have s4:=U.ar (u:=q) (e:=e') (by rw[O];simp);have w1:=G.part (i:=0) zo (by rw[N];simp);have w2:=G.part (i:=1) zo (by rw[N];simp);have w3:=I.part (i:=0) zo (by rw[O];simp);have w4:=I.part (i:=1) zo (by rw[O];simp);simp only[N,O,List.getElem_cons_zero,List.getElem_cons_succ]at w1 w2 w3 w4;have hr:aJ D q=(aJ d d'&&aJ e e'):=by
      rw[kq u2 u14 v2 P zo,h,A,N,O,show bf D q=true by unfold bf;rw[if_neg zo,if_neg zo,if_neg zo]];simp
     rw[hr];rw[h]at B he;rw[A]at C he;exact CK c b K x y st w Y Z yt yb Qj Qk Ql Qm _ _ E l.c1 l.c0 B C he (l.kw _ _ _ h1) (l.kw _ _ _ L) (l.kw _ _ _ X) (l.kw _ _ _ T) (V d d' zo zo w1 w3 _ _ n1 n3) (V e e' zo zo w2 w4 _ _ n2 n4)
    ·have A:q.k=9:=by rw[←h];exact(eN J zo zo).symm
     obtain⟨b1,e,z,Q,N,h1,X,n1⟩:=hn.oi h;obtain⟨b2,f,z',R,O,L,T,n2⟩:=kn.oi A;cases dK Q;cases dK R;obtain⟨_,hf⟩:=G.form;obtain⟨_,S⟩:=I.form;obtain⟨Y,Z,rfl⟩:=n1.val;obtain⟨yt,yb,rfl⟩:=n2.val;have s1:=U.ar (u:=D) (e:=e) (by rw[N];simp);have s2:=U.ar (u:=q) (e:=f) (by rw[O];simp);have Qn:(D.n==q.n)=(gi D.n==gi q.n):=by
      rw[Bool.eq_iff_iff];simp only[beq_iff_eq];exact⟨fun e=>by rw[e],fun e=>uK (hf.oq h) (S.oq A) e⟩
     rw[oB u2 u14 v2 P zo zo N O,show bf D q=(D.n==q.n) by unfold bf;rw[if_pos zo],Qn];rw[h]at B he;rw[A]at C he;exact CJ c b K x y st w (gi D.n) (gi q.n) Y Z yt yb _ E l.c1 l.c0 B C he (l.kw _ _ _ h1) (l.kw _ _ _ L) (l.kw _ _ _ X) (l.kw _ _ _ T) (V e f zo zo (G.one zo N) (I.one zo O) _ _ n1 n2)
    ·have A:q.k=10:=by rw[←h];exact(eN J zo zo).symm
     obtain⟨b1,Q,hG⟩:=hn.iY h;obtain⟨b2,R,kG⟩:=kn.iY A;cases dK Q;cases dK R;obtain⟨ck,tb,ma,mc,f,ta,tc,ts,cmp,q6,q0,q1,qn,qm,qr,qf,q2,QM,QN,⟨tf,tr,tt⟩,q3,tok,_⟩:=l.done _ _ hG;obtain⟨Qo,Qp,Qq,Qr,f',P7,P8,QO,QE,r6,r0,r1,rn,rm,rr,rf,r2,QP,QQ,⟨Qs,Qt,Qu⟩,r3,P9,_⟩:=l.done _ _ kG;obtain⟨rfl,rfl⟩:=tok.gen G.val.gen;obtain⟨rfl,rfl⟩:=P9.gen I.val.gen;obtain⟨sb,qs,P_⟩:=vA qf;obtain⟨Qv,Qw,PT⟩:=vA rf;have hr:aJ D q=(decide ((an D).length=(an q).length)&&bK (an D).length (gS (fun i=>((an D).getD i default).nm) (fun i=>((an q).getD i default).nm) (fun i=>aJ ((an D).getD i default) ((an q).getD i default)))):=by
      rw[kQ (by rw[PW];exact h),PW,PS,G.val.gen,I.val.gen,A];by_cases hl:(an D).length=(an q).length
      ·rw[CV (G.vn h) (I.vn A) hl (rs:=fun i=>aJ ((an D).getD i default) ((an q).getD i default)) (fun i hi F=>by simp[hi,F]) (fun i hi=>by simp[hi]) (fun i hi=>by simp[hi])]
       simp
      ·have:decide ((an D).length=(an q).length)=false:=by simp[hl]
       rw[this];simp
     rw[hr];rw[h]at B he;rw[A]at C he
     refine CT c b K x y st w tb Qp (an D).length (an q).length mc Qr tc P8 1 1 false ma Qq ta P7 f f' (fun _=>108) sb (fun _=>108) Qv _ _ qs Qw _ E l.c1 l.c0 B C he zo l.cap (CY l hG kG PU) P3 P4
      (l.kw _ _ _ ck) (l.kw _ _ _ Qo) (l.kw _ _ _ q6) (l.kw _ _ _ r6) (l.kw _ _ _ q3) (l.kw _ _ _ r3) (l.kw _ _ _ q2) (l.kw _ _ _ r2) (fun W hW=>(Cr ta P7 1 1 tc P8 tf Qs W zd zd ((gT tr l.kw).dD hW) ((gT Qt l.kw).dD hW) Nat.one_pos Nat.one_pos (hW.cell (l.kw _ _ _ (tt 0 zs))) (hW.cell (l.kw _ _ _ (Qu 0 zs)))).mono fun _ _ ⟨Q,R⟩=>⟨Q,R▸aB.refl _⟩)
      (l.kw _ _ _ q1) (l.kw _ _ _ r1) (gT qr l.kw) (gT rr l.kw) ?_ ?_ ?_
     ·intro i hi
      obtain⟨p1,p2,p3,_⟩:=P_ i hi;exact⟨by simpa [hi]using l.kw _ _ _ p2,by simpa [hi]using G.oA h (zm hi),l.kw _ _ _ p1,l.kw _ _ _ p3⟩
     ·intro i hi
      obtain⟨p1,p2,p3,_⟩:=PT i hi;exact⟨by simpa [hi]using l.kw _ _ _ p2,by simpa [hi]using I.oA A (zm hi),l.kw _ _ _ p1,l.kw _ _ _ p3⟩
     ·intro PK W s hW k0 k1 k2 QR i hi n os
      have F:i<(an q).length:=zo;have z1:=kP (zm hi);have z2:=kP (zm F);have hk:=hW.trans (aB.of W n os);have PX:=aB.of W n os;have Qx:kk st<s+1:=by
       rcases E with rfl|⟨s0,rfl⟩
       ·simp
       ·cases PU with
        |cons c0=>have:=zb c0;simp at this⊢;omega
      have:=ih (an D)[i] zo (an q)[i] _ _ (Xp s) _ (l.dD hk) (G.cy h (zm hi)).1 (I.cy A (zm F)).1 (P_ i hi).2.2.2 (PT i F).2.2.2
       (.cons (PX.cell k0) (PX.cell k1) (PX.cell k2) hG kG z1 z2 Qx ((PU.mono zo zo).dD hk))
      simpa [hi,F]using this
    ·have Qa:q.k=11∨q.k=15∨q.k=16:=by
      by_cases Qb:q.k=11∨q.k=15∨q.k=16
      ·exact Qb
      ·have:=eN J.symm ⟨v2,P,by omega,by omega,by omega,by omega,by omega,by omega,by omega⟩ ⟨u2,u14,by omega,by omega⟩
       omega
     have hT:bu D.k=60:=by rcases h with e|e|e<;>rw[e]<;>rfl
     have Qy:bu q.k=60:=by rw[←J];exact hT
     obtain⟨o,ho,po,PY,PZ,P0⟩:=vC l hn h;obtain⟨o',Qz,QA,PM,PN,PO⟩:=vC l kn Qa;obtain⟨_,hf⟩:=G.form;obtain⟨_,S⟩:=I.form;have hr:decide (o=o')=aJ D q:=by
      rw[vq u2 u14 v2 P zo (hf.lens zo) (S.lens zo),Bool.eq_iff_iff];simp only[decide_eq_true_eq,Bool.and_eq_true,beq_iff_eq];rcases h with h1|h1|h1<;>rcases Qa with L|L|L
      ·obtain⟨x1,x2,x3⟩:=PY h1
       obtain⟨y1,y2,y3⟩:=PM L;rw[show bf D q=(D.n==q.n) by unfold bf;rw[if_pos zo]];constructor
       ·intro e
        have:=l.inj.ob _ _ x2 y2 (by rw[←x1,←y1];exact e);exact⟨by rw[h1,L],by simp;omega⟩
       ·intro⟨_,e⟩
        rw[x1,y1,show D.n=q.n by simpa using e]
      ·obtain⟨x1,x2,_⟩:=PY h1
       exact⟨fun e=>absurd (by rw[←x1,e];exact PN L) (l.inj.oe _ x2),fun⟨e,_⟩=>by omega⟩
      ·obtain⟨x1,x2,_⟩:=PY h1
       exact⟨fun e=>absurd (by rw[←x1,e];exact PO L) (l.inj.oc _ x2),fun⟨e,_⟩=>by omega⟩
      ·obtain⟨x1,x2,_⟩:=PM L
       exact⟨fun e=>absurd (by rw[←x1,←e];exact PZ h1) (l.inj.oe _ x2),fun⟨e,_⟩=>by omega⟩
      ·rw[PZ h1,PN L,h1,L];simp[bf,h1]
      ·exact⟨fun e=>absurd (by rw[←PZ h1,e];exact PO L) l.inj.ac,fun⟨e,_⟩=>by omega⟩
      ·obtain⟨x1,x2,_⟩:=PM L
       exact⟨fun e=>absurd (by rw[←x1,←e];exact P0 h1) (l.inj.oc _ x2),fun⟨e,_⟩=>by omega⟩
      ·exact⟨fun e=>absurd (by rw[←PN L,←e];exact P0 h1) l.inj.ac,fun⟨e,_⟩=>by omega⟩
      ·rw[P0 h1,PO L,h1,L];simp[bf,h1]
     rw[←hr];rw[hT]at B he;rw[Qy]at C he;exact CL c b K x y st w o o' E l.c1 l.c0 B C he (l.kw _ _ _ ho) (l.kw _ _ _ Qz) po QA
   ·have hr:aJ D q=false:=CW (by rw[PW,PS];intro e;rw[e]at J;exact J rfl)
    rw[hr];have H:bu q.k≠bu D.k:=fun e=>J e.symm;rcases P6 with h|h|h|h|h|h|h|h|h|h
    all_goals
     first
      |(rw[h]at B he H)
      |(rcases h with h|h|h<;>rw[h]at B he H)
    ·exact(Cu c b K _ x y st w E kt H l.c1 B C he).mono fun e w' h=>gx h rfl
    ·exact(Cv c b K _ x y st w E kt H l.c1 B C he).mono fun e w' h=>gx h rfl
    ·exact(Cw c b K _ x y st w E kt H l.c1 B C he).mono fun e w' h=>gx h rfl
    ·exact(Cy c b K _ x y st w E kt H l.c1 B C he).mono fun e w' h=>gx h rfl
    ·exact(Cz c b K _ x y st w E kt H l.c1 B C he).mono fun e w' h=>gx h rfl
    ·exact(CA c b K _ x y st w E kt H l.c1 B C he).mono fun e w' h=>gx h rfl
    ·exact(CC c b K _ x y st w E kt H l.c1 B C he).mono fun e w' h=>gx h rfl
    ·exact(CD c b K _ x y st w E kt H l.c1 B C he).mono fun e w' h=>gx h rfl
    ·exact(CB c b K _ x y st w E kt H l.c1 B C he).mono fun e w' h=>gx h rfl
    ·exact(qT c b K _ x y st w E kt H l.c1 B C he).mono fun e w' h=>gx h rfl
    ·exact(qT c b K _ x y st w E kt H l.c1 B C he).mono fun e w' h=>gx h rfl
    ·exact(qT c b K _ x y st w E kt H l.c1 B C he).mono fun e w' h=>gx h rfl
end Go.Proofs.YtkochlhejabdcaaGreatDoor
namespace TS
open Go Go.RowKit Go.Sort Go.Proofs.YtkochlhejabdcaaGreatDoor Go.Proofs.Tryz
structure aA(p:Pm)(g:Ge)(w:World):Prop where
 kw:KW p w
 pl:∀b o v,p b o=some v→Plain w b
 inj:mD g
 cap:bU w
 done:∀b u,g.G b=some u→p b 0=some (.pointer none)∧cS p g b u
 po:∀i,i<g.len→∃o v,p (g.ob i) o=some v
 cY:∃o v,p g.eo o=some v
 cZ:∃o v,p g.co o=some v
theorem aA.dD{p:Pm}{g:Ge}{w a:World}(h:aA p g w)(k:aB w a):aA p g a:=
 ⟨k.kw h.kw,fun b o v c=>k.plain (h.pl b o v c),h.inj,k.cap h.cap,h.done,h.po,h.cY,h.cZ⟩
structure Tok(len:Nat)(e:U):Prop where
 vt:Vt len e
 vu:Vt len (under e)
 fl:(bare e).k=11→∃y,(bare e).un= [y]∧y.k≠16
 ni:isIface e=false
end TS
namespace Go.Proofs.YtkochlhejabdcaaGreatDoor
open Go.RowKit TS Go.Sort Tryz
theorem mL(len:Nat)(p:Pm)(g:Ge)(u v:U)(x y:Value)(w:World)(f:aA p g w)(hu:Vt len u)(h:Vt len v)(b:TS.Node p g u x)(c:TS.Node p g v y):
 Xk 33 #[x,y] w fun e i=>e= .returned (.bool (aJ u v))∧aB w i:=by
 obtain⟨l,m,rfl⟩:=b.val;obtain⟨n,o,rfl⟩:=c.val;have hk:=aB.alloc w (.cells #[.bool false,.bool false] 90);have a:=f.dD hk;have j:=zh (C4 len p g w.heap.size u v _ _ (.pointer none) _ ⟨a.kw,a.pl,a.inj,a.cap,by simp[go_sem],by simp[go_sem],a.done,a.po,a.cY,a.cZ⟩ hu h b c .nil);have d:=zh hk;clear f hu h b c hk a;go_enter func33,ntmps33;go_wp2_with fail
 refine j.out.mono ?_;rintro e i ⟨rfl,k⟩;go_wp2_with fail
 go_ret;exact⟨rfl,d.out.trans k⟩
theorem jE{p:Pm}{g:Ge}{u:U}{x:Value}(h:TS.Node p g u x):(bare (bare u)=bare u)→((bare u).k=11→∃y,(bare u).un= [y]∧y.k≠16)→(bare u).k≠12→(bare u).k≠13→∃t b rt z,x=ah t b∧(∀w:World,KW p w→cE w t b (ah rt z))∧
 (((under u).k≠16∧TS.Node p g (under u) (ah rt z))∨((under u).k=16∧rt=37∧g.G z=some dB)):=by
 induction h with
 | @alias u x y j ha A ih=>
   intro l v q r;obtain⟨t,b,rt,z,e,C,hr⟩:=ih (by rw[l];exact l) (by rw[l];exact v) (by rw[l];exact q) (by rw[l];exact r);have hu:under (bare u)=under u:=by unfold under;rw[l]
   rw[hu]at hr;subst e;obtain⟨c,rfl,i⟩:=ha.start;exact⟨_,_,rt,z,rfl,fun w hw=>BO c b t _ w (hw _ _ _ i) (C w hw),hr⟩
 | @any u x D A ih=>
   intro l v q r;have m:bare u=bL:=gI D;have n:bare bL=bL:=bR zd zd;obtain⟨t,b,rt,z,e,C,hr⟩:=ih (by rw[n];exact n) (by rw[n];intro h;cases h) (by rw[n];decide) (by rw[n];decide);have hu:under bL=under u:=by unfold under;rw[m,n]
   rw[hu]at hr;exact⟨t,b,rt,z,e,C,hr⟩
 | @basic u b hk h=>
   intro _ _ _ _;have hu:under u=u:=cp zo zo zo zo;exact⟨_,_,_,_,rfl,fun w _=>BE b w,.inl ⟨by rw[hu];omega,by rw[hu];exact .basic hk h⟩⟩
 | @array u e b x hk h1 j i o _=>
   intro _ _ _ _;have hu:under u=u:=cp zo zo zo zo;exact⟨_,_,_,_,rfl,fun w _=>BG b w,.inl ⟨by rw[hu];omega,by rw[hu];exact .array hk h1 j i o⟩⟩
 | @slice u e b x hk h1 j i _=>
   intro _ _ _ _;have hu:under u=u:=cp zo zo zo zo;exact⟨_,_,_,_,rfl,fun w _=>nY b w,.inl ⟨by rw[hu];omega,by rw[hu];exact .slice hk h1 j i⟩⟩
 | @struct u b a a' c c' f xs hk h1 j i o s E h7 F _=>
   intro _ _ _ _;have hu:under u=u:=cp zo zo zo zo;exact⟨_,_,_,_,rfl,fun w _=>BK b w,.inl ⟨by rw[hu];have:=hk.1;omega,by rw[hu];exact .struct hk h1 j i o s E h7 F⟩⟩
 | @pointer u e b x hk h1 j i _=>
   intro _ _ _ _;have hu:under u=u:=cp zo zo zo zo;exact⟨_,_,_,_,rfl,fun w _=>BH b w,.inl ⟨by rw[hu];omega,by rw[hu];exact .pointer hk h1 j i⟩⟩
 | @func u b pv rv f xs hk h1 j i o s E h7 F _=>
   intro _ _ _ _;have hu:under u=u:=cp zo zo zo zo;exact⟨_,_,_,_,rfl,fun w _=>BF b w,.inl ⟨by rw[hu];omega,by rw[hu];exact .func hk h1 j i o s E h7 F⟩⟩
 | @map u d e b x y hk h1 j i o s _ _=>
   intro _ _ _ _;have hu:under u=u:=cp zo zo zo zo;exact⟨_,_,_,_,rfl,fun w _=>BI b w,.inl ⟨by rw[hu];omega,by rw[hu];exact .map hk h1 j i o s⟩⟩
 | @chan u e b x hk h1 j i o _=>
   intro _ _ _ _;have hu:under u=u:=cp zo zo zo zo;exact⟨_,_,_,_,rfl,fun w _=>BJ b w,.inl ⟨by rw[hu];omega,by rw[hu];exact .chan hk h1 j i o⟩⟩
 | @iface u b hk h1=>
   intro _ _ _ _;have hu:under u=u:=cp zo zo zo zo;exact⟨_,_,_,_,rfl,fun w _=>BM b w,.inl ⟨by rw[hu];omega,by rw[hu];exact .iface hk h1⟩⟩
 | @iC u hk h1 j i o=>
   intro _ v _ _;have m:bare u=u:=bR zo zo;rw[m]at v;obtain⟨y,B,_⟩:=v hk;rw[i]at B;cases B
 | @named u y x hk h1 j i o s A ih=>
   intro _ v _ _;have m:bare u=u:=bR zo zo;have hu:under u=y:=jj (by rw[m];exact hk) (by rw[m];exact i);obtain⟨t,b,rfl⟩:=A.val;refine⟨_,_,_,_,rfl,fun w hw=>qI _ t _ w (hw _ _ _ s.1) (hw _ _ _ s.2.1) (hw _ _ _ s.2.2),?_⟩;rw[hu];rw[m]at v;obtain⟨I,B,H⟩:=v hk;rw[i]at B;cases B;exact .inl ⟨H,A⟩
 | @union u b a c f xs hk h1 j i o s _=>
   intro _ _ q r;exfalso;have m:bare u=u:=bR (by rcases hk with e|e<;>rw[e]<;>decide) (by rcases hk with e|e<;>rw[e]<;>decide);rw[m]at q r;rcases hk with e|e
   ·exact q e
   ·exact r e
 | @err u x hk h1 j i A ih=>
   intro _ _ _ _;have m:bare u=u:=bR zo zo;have hu:under u=aP:=jk (by rw[m];exact hk) (by rw[m];exact h1);obtain⟨t,b,rfl⟩:=A.val;exact⟨_,_,_,_,rfl,fun w hw=>qI _ t _ w (hw _ _ _ i.1) (hw _ _ _ i.2.1) (hw _ _ _ i.2.2),.inl ⟨by rw[hu];decide,by rw[hu];exact A⟩⟩
 | @comp u b hk h1 j i=>
   intro _ _ _ _;have m:bare u=u:=bR zo zo;have hu:under u=u:=by rw[iz]<;>rw[m]<;>omega
   exact⟨_,_,_,_,rfl,fun w hw=>qI _ _ _ w (hw _ _ _ j.1) (hw _ _ _ j.2.1) (hw _ _ _ j.2.2),.inr ⟨by rw[hu];exact hk,rfl,i⟩⟩
end Go.Proofs.YtkochlhejabdcaaGreatDoor
namespace TS
open Go Go.RowKit Go.Sort Go.Proofs.YtkochlhejabdcaaGreatDoor Go.Proofs.Tryz
def dS(len:Nat):Tm→Prop
 |none=>True
 |some (_,e)=>Tok len e
theorem Tok.eW{len:Nat}{e:U}(h:Tok len e){p:Pm}{g:Ge}{x:Value}(f:TS.Node p g e x){w:World}(hw:KW p w):∃t b rt d,x=ah t b∧cE w t b (ah rt d)∧TS.Node p g (under e) (ah rt d):=by
 have a:=h.vt.bare.1.aD;obtain⟨t,b,rt,d,h1,i,c⟩:=jE f (jz h.vt) h.fl a.1 a.2;refine⟨t,b,rt,d,h1,i w hw,?_⟩;rcases c with⟨_,c⟩|⟨c,_⟩
 ·exact c
 ·have:=h.ni
  unfold isIface at this;rw[c]at this;simp at this
end TS
namespace Go.Proofs.YtkochlhejabdcaaGreatDoor
open Go.RowKit TS Go.Sort Tryz
theorem vD(len:Nat)(p:Pm)(g:Ge)(x y:Nat)(d d':Bool)(e f:U)(w:World)(i:aA p g w)(L:bh p g (some (d,e)) x)(M:bh p g (some (d',f)) y)(he:Tok len e)(r:Tok len f):
 Xk 246 #[Xp x,Xp y] w fun N O=>N= .returned (.bool (gm (d,e) (d',f)))∧aB w O:=by
 obtain⟨l,Y,m,c⟩:=L;obtain⟨n,Z,o,h⟩:=M;obtain⟨t,b,rt,rb,rfl,P,k⟩:=he.eW c i.kw;obtain⟨t',b',Q,R,rfl,G,a⟩:=r.eW h i.kw;have c0:=i.kw _ _ _ l;have c1:=i.kw _ _ _ m;have k0:=i.kw _ _ _ n;have k1:=i.kw _ _ _ o;obtain⟨K,fn,cc,C,q,H,hm,hn,I⟩:=P;have S:=fun args w=>Go.MuLone.run_callFunc_enter C q H args w;obtain⟨K',T,V,s,j,D,W,X,E⟩:=G;have J:=fun args w=>Go.MuLone.run_callFunc_enter s j D args w;have F:=zh I;have u:=zh E;clear C q H s j D I E;cases d
 ·cases d'
  ·have v:=zh (mL len p g e f _ _ w i he.vt r.vt c h)
   have hr:Hid ((!aJ e f)=gm (false,e) (false,f)):=rfl;clear i c h k a he r l m n o;go_enter func246,ntmps246;go_wp2_with fail
   refine v.out.mono ?_;rintro z A ⟨rfl,B⟩;go_wp2_with fail
   go_ret;exact⟨by rw[←hr.out];rfl,B⟩
  ·have v:=zh (mL len p g (under e) f _ _ w i he.vu r.vt k h)
   have hr:Hid ((!aJ (under e) f)=gm (false,e) (true,f)):=rfl;clear i c h k a he r l m n o;go_enter func246,ntmps246;go_wp2_with fail
   refine F.out.mono ?_;rintro z A ⟨rfl,rfl⟩;go_wp2_with fail
   refine v.out.mono ?_;rintro z A ⟨rfl,B⟩;go_wp2_with fail
   go_ret;exact⟨by rw[←hr.out];rfl,B⟩
 ·cases d'
  ·have v:=zh (mL len p g e (under f) _ _ w i he.vt r.vu c a)
   have hr:Hid ((!aJ e (under f))=gm (true,e) (false,f)):=rfl;clear i c h k a he r l m n o;go_enter func246,ntmps246;go_wp2_with fail
   refine u.out.mono ?_;rintro z A ⟨rfl,rfl⟩;go_wp2_with fail
   refine v.out.mono ?_;rintro z A ⟨rfl,B⟩;go_wp2_with fail
   go_ret;exact⟨by rw[←hr.out];rfl,B⟩
  ·have v:=zh (mL len p g (under e) (under f) _ _ w i he.vu r.vu k a)
   have hr:Hid ((!aJ (under e) (under f))=gm (true,e) (true,f)):=rfl;clear i c h k a he r l m n o;go_enter func246,ntmps246;go_wp2_with fail
   refine F.out.mono ?_;rintro z A ⟨rfl,rfl⟩;go_wp2_with fail
   refine u.out.mono ?_;rintro z A ⟨rfl,rfl⟩;go_wp2_with fail
   refine v.out.mono ?_;rintro z A ⟨rfl,B⟩;go_wp2_with fail
   go_ret;exact⟨by rw[←hr.out];rfl,B⟩
def mM(p:Pm)(g:Ge)(x y:Nat)(a ty:Tm)(w:World)(e:Ending)(b:World):Prop:=
 aB w b∧match cQ a ty with
  |none=>e= .returned (.tuple #[Xp x,Xp y])
  |some c=> ∃z,bh p g c z∧e= .returned (.tuple #[Xp z,.pointer none])
def mN(p:Pm)(g:Ge)(a ty:Tm)(w:World)(e:Ending)(b:World):Prop:=
 aB w b∧match cq a ty with
  |none=>e= .returned (.pointer none)
  |some c=> ∃z,bh p g c z∧e= .returned (Xp z)
theorem C5(len:Nat)(p:Pm)(g:Ge)(x y:Nat)(t ty:Tm)(w:World)(j:aA p g w)(q:bh p g t x)(o:bh p g ty y)(u:dS len t)(v:dS len ty):
 Xk 244 #[Xp x,Xp y] w (mM p g x y t ty w):=by
 match t,q,u with
 |none,q,_=>
  have c1:=j.kw _ _ _ q;have z:Hid (mM p g x y none ty w (.returned (.tuple #[Xp x,.pointer none])) w):=⟨aB.refl _,x,q,rfl⟩
  clear j q o;go_enter func244,ntmps244;go_wp2_with fail
  go_ret2;exact z.out
 |some (d,e),q,u=>
  obtain⟨c,G,h,i⟩:=q;obtain⟨H,I,rfl⟩:=i.val;have c0:=j.kw _ _ _ c;have c1:=j.kw _ _ _ h;match ty,o,v with
  |none,o,_=>
   have E:=j.kw _ _ _ o;have z:Hid (mM p g x y (some (d,e)) none w (.returned (.tuple #[Xp y,.pointer none])) w):=⟨aB.refl _,y,o,rfl⟩
   clear j c h i o;go_enter func244,ntmps244;go_wp2_with fail
   go_ret2;exact z.out
  |some (d',f),o,v=>
   obtain⟨l,J,m,n⟩:=o;obtain⟨K,L,rfl⟩:=n.val;have A:=j.kw _ _ _ l;have E:=j.kw _ _ _ m;have s:=zh (vD len p g x y d d' e f w j ⟨c,_,h,i⟩ ⟨l,_,m,n⟩ u v);have D:Hid (bh p g (some (d,e)) x):=⟨c,_,h,i⟩
   have F:Hid (bh p g (some (d',f)) y):=⟨l,_,m,n⟩
   clear j c h i l m n u v;cases k:gm (d,e) (d',f)
   ·rw[k]at s
    cases d
    ·cases d'
     ·have r:Hid (cQ (some (false,e)) (some (false,f))=some (some (false,e))):=by simp[Hid,cQ,k]
      clear k;go_enter func244,ntmps244;go_wp2_with fail
      refine s.out.mono ?_;rintro B C ⟨rfl,a⟩;have f0:=a.cell c0;have f1:=a.cell A;have b:=zh a;clear a;go_wp2_with fail
      go_ret2;exact⟨b.out,by rw[r.out];exact⟨x,D.out,rfl⟩⟩
     ·have r:Hid (cQ (some (false,e)) (some (true,f))=some (some (true,f))):=by simp[Hid,cQ,k]
      clear k;go_enter func244,ntmps244;go_wp2_with fail
      refine s.out.mono ?_;rintro B C ⟨rfl,a⟩;have f0:=a.cell c0;have f1:=a.cell A;have b:=zh a;clear a;go_wp2_with fail
      go_ret2;exact⟨b.out,by rw[r.out];exact⟨y,F.out,rfl⟩⟩
    ·have r:Hid (cQ (some (true,e)) (some (d',f))=some (some (true,e))):=by simp[Hid,cQ,k]
     clear k;go_enter func244,ntmps244;go_wp2_with fail
     refine s.out.mono ?_;rintro B C ⟨rfl,a⟩;have f0:=a.cell c0;have f1:=a.cell A;have b:=zh a;clear a;go_wp2_with fail
     go_ret2;exact⟨b.out,by rw[r.out];exact⟨x,D.out,rfl⟩⟩
   ·rw[k]at s
    have r:Hid (cQ (some (d,e)) (some (d',f))=none):=by simp[Hid,cQ,k]
    clear k;go_enter func244,ntmps244;go_wp2_with fail
    refine s.out.mono ?_;rintro B C ⟨rfl,a⟩;have b:=zh a;clear a;go_wp2_with fail
    go_ret2;exact⟨b.out,by rw[r.out];exact rfl⟩
theorem C6(len:Nat)(p:Pm)(g:Ge)(x y:Nat)(t ty:Tm)(w:World)(j:aA p g w)(r:bh p g t x)(o:bh p g ty y)(u:dS len t)(v:dS len ty):
 Xk 225 #[Xp x,Xp y] w (mN p g t ty w):=by
 match t,r,u with
 |none,r,_=>
  have c1:=j.kw _ _ _ r;have z:Hid (mN p g none ty w (.returned (Xp y)) w):=⟨aB.refl _,y,o,rfl⟩
  clear j r o;go_enter func225,ntmps225;go_wp2_with fail
  go_ret;exact z.out
 |some (d,e),r,u=>
  obtain⟨c,G,h,i⟩:=r;obtain⟨H,I,rfl⟩:=i.val;have c0:=j.kw _ _ _ c;have c1:=j.kw _ _ _ h;match ty,o,v with
  |none,o,_=>
   have E:=j.kw _ _ _ o;have z:Hid (mN p g (some (d,e)) none w (.returned (Xp x)) w):=⟨aB.refl _,x,⟨c,_,h,i⟩,rfl⟩
   clear j c h i o;go_enter func225,ntmps225;go_wp2_with fail
   go_ret;exact z.out
  |some (d',f),o,v=>
   obtain⟨l,J,m,n⟩:=o;obtain⟨K,L,rfl⟩:=n.val;have A:=j.kw _ _ _ l;have E:=j.kw _ _ _ m;have s:=zh (vD len p g x y d d' e f w j ⟨c,_,h,i⟩ ⟨l,_,m,n⟩ u v);have D:Hid (bh p g (some (d,e)) x):=⟨c,_,h,i⟩
   have F:Hid (bh p g (some (d',f)) y):=⟨l,_,m,n⟩
   clear j c h i l m n u v;cases k:gm (d,e) (d',f)
   ·rw[k]at s
    cases d
    ·have q:Hid (cq (some (false,e)) (some (d',f))=some (some (false,e))):=by simp[Hid,cq,k]
     clear k;go_enter func225,ntmps225;go_wp2_with fail
     refine s.out.mono ?_;rintro B C ⟨rfl,a⟩;have f0:=a.cell c0;have f1:=a.cell A;have b:=zh a;clear a;go_wp2_with fail
     go_ret;exact⟨b.out,by rw[q.out];exact⟨x,D.out,rfl⟩⟩
    ·cases d'
     ·have q:Hid (cq (some (true,e)) (some (false,f))=some (some (false,f))):=by simp[Hid,cq,k]
      clear k;go_enter func225,ntmps225;go_wp2_with fail
      refine s.out.mono ?_;rintro B C ⟨rfl,a⟩;have f0:=a.cell c0;have f1:=a.cell A;have b:=zh a;clear a;go_wp2_with fail
      go_ret;exact⟨b.out,by rw[q.out];exact⟨y,F.out,rfl⟩⟩
     ·have q:Hid (cq (some (true,e)) (some (true,f))=some (some (true,e))):=by simp[Hid,cq,k]
      clear k;go_enter func225,ntmps225;go_wp2_with fail
      refine s.out.mono ?_;rintro B C ⟨rfl,a⟩;have f0:=a.cell c0;have f1:=a.cell A;have b:=zh a;clear a;go_wp2_with fail
      go_ret;exact⟨b.out,by rw[q.out];exact⟨x,D.out,rfl⟩⟩
   ·rw[k]at s
    have q:Hid (cq (some (d,e)) (some (d',f))=none):=by simp[Hid,cq,k]
    clear k;go_enter func225,ntmps225;go_wp2_with fail
    refine s.out.mono ?_;rintro B C ⟨rfl,a⟩;have b:=zh a;clear a;go_wp2_with fail
    go_ret;exact⟨b.out,by rw[q.out];exact rfl⟩
end Go.Proofs.YtkochlhejabdcaaGreatDoor
