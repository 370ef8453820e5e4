import Derived.Test.YtdkmnkjhhhmglaaGreatDoorYbo
set_option maxRecDepth 100000
set_option maxHeartbeats 8000000
set_option linter.all false
namespace TS
open Go Go.RowKit Go.Proofs.YtdkmnkjhhhmglaaGreatDoor
def jg(l r:List U):Prop:=r.length=l.length∧∀j(h:j<l.length)(a:j<r.length),l[j].nm.toList=r[j].nm.toList∧aB l[j] r[j]=true
theorem GJ{len:Nat}{l:List U}(h:∀m∈l,Vt len m):jg l l:=⟨rfl,fun _ a _=>⟨rfl,(h _ (List.getElem_mem a)).refl⟩⟩
def jZ(len:Nat)(u v:U):Prop:=∀c cmp a b,iE u c cmp→iE v a b→b=cmp∧cr c a=true∧cr a c=true∧(∀t∈c,cJ len t)∧∀t∈a,cJ len t
end TS
namespace Go.Proofs.YtdkmnkjhhhmglaaGreatDoor
open Go.RowKit TS Go.Sort
theorem GK(c t b:Nat)(x y st:Value)(w:World)(d:Calls Tryz.prog 94 #[x] w fun e a=>e= .returned (.iface t (.pointer (some ⟨b,0,none⟩)))∧w=a)(f:Calls Tryz.prog 94 #[y] w fun e a=>e= .returned (.iface t (.pointer (some ⟨b,0,none⟩)))∧w=a)
 (he:(binOp .eql 38 (.iface t (.pointer (some ⟨b,0,none⟩))) (.iface t (.pointer (some ⟨b,0,none⟩)))).run Tryz.prog w= .ok (.bool true) w):
 Calls Tryz.prog 43 #[.pointer (some ⟨c,0,none⟩),x,y,st] w fun e a=>e= .returned (.bool true)∧w=a:=by
 go_enter Tryz.func43,Tryz.ntmps43;go_wp2_with fail
 refine d.mono ?_;rintro e a ⟨rfl,rfl⟩;go_wp2_with fail
 refine f.mono ?_;rintro e a ⟨rfl,rfl⟩;go_wp2_with fail
 go_ret;exact⟨rfl,rfl⟩
theorem GL(p:Pm)(g:Ge)(c b:Nat)(u:U)(w:World)(d:iJ p g c w)(f:g.G b=some u):
 Calls Tryz.prog 43 #[.pointer (some ⟨c,0,none⟩),ae 44 b,ae 44 b,.pointer none] w fun e h=>e= .returned (.bool true)∧w=h:=by
 have a:=d.pl _ _ _ (d.done _ _ f).1;have he:=mT (t:=44) (t':=44) (show bV 44 from mV 10) w b b a a;rw[show decide (44=44∧b=b)=true by simp]at he;exact GK c _ b _ _ _ w (d_ _ _ (by decide) w) (d_ _ _ (by decide) w) he
theorem GM(len:Nat)(p:Pm)(g:Ge)(c b q:Nat)(u k:U)(w:World)(a:iJ p g c w)(hG:g.G b=some u)(kG:g.G q=some k)(I:b≠q)(hM:∀m∈ai u,Vt len m∧aM m.nm=true)(r:∀m∈ai k,Vt len m∧aM m.nm=true)(hr:jg (ai u) (ai k))
 (hT:jZ len u k):
 Calls Tryz.prog 43 #[.pointer (some ⟨c,0,none⟩),ae 44 b,ae 44 q,.pointer none] w fun e w'=>e= .returned (.bool true)∧au w w':=by
 obtain⟨ck,tb,ma,mc,f,ta,tc,ts,cmp,q6,q0,q1,qn,qm,qr,qf,q2,PN,J,⟨tf,tr,tt⟩,q3,tok,_⟩:=a.done _ _ hG;obtain⟨v,K,L,M,f',x,y,z,PM,r6,r0,r1,rn,rm,rr,rf,r2,PO,N,⟨O,P,Q⟩,r3,A,_⟩:=a.done _ _ kG;obtain⟨rfl,B,R,o1,o2⟩:=hT _ _ _ _ tok A;obtain⟨S,C⟩:=hr;obtain⟨sb,qs,D⟩:=oX qf;obtain⟨T,V,l⟩:=oX rf;have E:=a.pl _ _ _ ck;have F:=a.pl _ _ _ v;have he:=mT (t:=44) (t':=44) (show bV 44 from mV 10) w b q E F;rw[show decide (44=44∧b=q)=false by simp[I]]at he;have H:true=(decide ((ai u).length=(ai k).length)&&bJ (ai u).length (fK (fun i=>((ai u).getD i default).nm) (fun i=>((ai k).getD i default).nm) fun _=>true)):=by
  rw[kC fun i hi=>by
   have j:i<(ai k).length:=by omega
   unfold fK;have:=(C i hi j).1;simp[hi,j,this]]
  simp[S]
 rw[H]
 refine vM c b q _ _ (.pointer none) w tb K (ai u).length (ai k).length mc M tc y ts.length z.length _ ma L ta x f f' (fun _=>102) sb (fun _=>102) T _ _ qs V _ (.inl rfl) a.c1 a.c0 (d_ _ _ (by decide) w) (d_ _ _ (by decide) w) he (by omega) a.cap .nil E F
  (a.kw _ _ _ ck) (a.kw _ _ _ v) (a.kw _ _ _ q6) (a.kw _ _ _ r6) (a.kw _ _ _ q3) (a.kw _ _ _ r3) (a.kw _ _ _ q2) (a.kw _ _ _ r2) (fun W X=> ?_)
  (a.kw _ _ _ q1) (a.kw _ _ _ r1) (eX qr a.kw) (eX rr a.kw) ?_ ?_ ?_
 ·have d:=a.b_ X
  have h:=GI len p g ta x tc y tf O ts z W ⟨d.kw,d.pl,d.inj,d.cap,d.done,d.po,d.cH,d.cI⟩ (eX tr d.kw) (eX P d.kw) tt Q o1 o2 J N;rw[B,R]at h;exact h
 ·intro i hi
  obtain⟨Y,Z,p3,_⟩:=D i hi;exact⟨by simpa [hi]using a.kw _ _ _ Z,by simpa [hi]using (hM _ (List.getElem_mem hi)).2,a.kw _ _ _ Y,a.kw _ _ _ p3⟩
 ·intro i hi
  obtain⟨Y,Z,p3,_⟩:=l i hi;exact⟨by simpa [hi]using a.kw _ _ _ Z,by simpa [hi]using (r _ (List.getElem_mem hi)).2,a.kw _ _ _ Y,a.kw _ _ _ p3⟩
 ·intro _ W s X k0 k1 k2 B i hi n os
  have j:i<(ai k).length:=by omega
  have z1:=iv (List.getElem_mem hi);have z2:=iv (List.getElem_mem j);have hk:=X.trans (au.of W n os);have o:=au.of W n os
  have:=vT len p g c (ai u)[i] (ai k)[i] _ _ (.pointer (some ⟨s,0,none⟩)) _ (a.b_ hk) (hM _ (List.getElem_mem hi)).1 (r _ (List.getElem_mem j)).1 (D i hi).2.2.2 (l i j).2.2.2
   (.cons (o.cell k0) (o.cell k1) (o.cell k2) hG kG z1 z2 (by simp) .nil)
  rw[(C i hi j).2]at this;exact this
theorem GN(len:Nat)(p:Pm)(g:Ge)(b d:Nat)(u f:U)(w:World)(o:aw p g w)(i:g.G b=some u)(q:g.G d=some f)(hM:∀m∈ai u,Vt len m∧aM m.nm=true)(l:∀m∈ai f,Vt len m∧aM m.nm=true)(hr:jg (ai u) (ai f))
 (hT:jZ len u f):
 Calls Tryz.prog 17 #[ae 44 b,ae 44 d] w fun e j=>e= .returned (.bool true)∧au w j:=by
 have hk:=au.alloc w (.cells #[.bool false,.bool false] 76);have a:=o.b_ hk;have c:iJ p g w.heap.size (w.alloc (.cells #[.bool false,.bool false] 76)):=⟨a.kw,a.pl,a.inj,a.cap,by simp[go_sem],by simp[go_sem],a.done,a.po,a.cH,a.cI⟩
 have r:Hid (Calls Tryz.prog 43 #[.pointer (some ⟨w.heap.size,0,none⟩),ae 44 b,ae 44 d,.pointer none] (w.alloc (.cells #[.bool false,.bool false] 76)) fun e j=>e= .returned (.bool true)∧au (w.alloc (.cells #[.bool false,.bool false] 76)) j):=by
  by_cases k:b=d
  ·subst k
   exact(GL p g w.heap.size b u _ c i).mono fun e j h=>⟨h.1,by rw[←h.2];exact au.refl _⟩
  ·exact GM len p g w.heap.size b d u f _ c i q k hM l hr hT
 have n:=Lib.hid hk;clear o i q hk a c;go_enter Tryz.func17,Tryz.ntmps17;go_wp2_with fail
 refine r.out.mono ?_;rintro e j ⟨rfl,i⟩;go_wp2_with fail
 go_ret;exact⟨rfl,n.out.trans i⟩
end Go.Proofs.YtdkmnkjhhhmglaaGreatDoor
namespace TS
open Go Go.RowKit Go.Proofs.YtdkmnkjhhhmglaaGreatDoor
theorem gN{l m:List Tm}:cr l m=true↔∀x∈l,∃y∈m,bB x y=true:=by
 unfold cr;split
 ·rename_i h
  obtain rfl:m= []:=List.isEmpty_iff.1 h;cases l with
  |nil=>exact⟨fun _ x b=>(by cases b),fun _=>rfl⟩
  |cons a r=>exact⟨fun h=>(by cases h),fun h=>by obtain⟨y,c,_⟩:=h a List.mem_cons_self;cases c⟩
 ·rw[List.all_eq_true]
  exact⟨fun h x b=>List.any_eq_true.1 (h x b),fun h x b=>List.any_eq_true.2 (h x b)⟩
theorem rS{l:List Tm}{t:Tm}(h:t∈bk l):t=none∨t∈l:=by
 unfold bk at h;cases hO:cp l with
 |none=>rw[hO]at h;exact .inl (by simpa using h)
 |some m=>rw[hO]at h;exact .inr (ov hO t h)
theorem xU{l m:List Tm}{t:Tm}:t∈(l.flatMap fun x=>m.filterMap fun y=>bP x y)↔∃x∈l,∃y∈m,bP x y=some t:=by
 simp only[List.mem_flatMap,List.mem_filterMap]
theorem GW{l m:List Tm}{t:Tm}(h:t∈bc l m):t=none∨t∈l∨t∈m:=by
 unfold bc at h;split at h
 ·cases h
 ·exact(rS h).imp id ln
theorem xV{l:List Tm}{x:Tm}(h:x∈l):l.isEmpty=false:=by
 cases l with
 |nil=>cases h
 |cons _ _=>rfl
theorem rT{l:List Tm}:fv l=true↔none∈l:=by
 unfold fv;rw[List.any_eq_true];constructor
 ·rintro⟨t,a,b⟩
  cases t with
  |none=>exact a
  |some _=>cases b
 ·exact fun h=>⟨none,h,rfl⟩
theorem xW{l m:List Tm}(h:cr l m=true)(a:none∈l):none∈m:=by
 obtain⟨y,b,c⟩:=gN.1 h none a;cases y with
 |none=>exact b
 |some _=>exact absurd c (by simp[bB])
theorem xX(X:List Tm×Bool)(h:X.2=true→X.1= [none]):dp ([none],false) X=(bk X.1,X.2):=by
 have hm:bc [none] X.1=bk X.1:=by
  unfold bc;cases c:X.1 with
  |nil=>simp[uA]
  |cons a r=>
   simp only[List.isEmpty_cons,Bool.or_self,Bool.false_eq_true,if_false];congr 1;rw[List.flatMap_cons,List.flatMap_nil,List.append_nil];show List.filterMap some (a::r)=a::r;exact List.filterMap_some
 unfold dp;rw[hm];cases b:X.2 with
 |false=>simp
 |true=>
  have e:=h b;rw[e,qG];rfl
section
variable {len:Nat} {T:List U}
theorem xY{l:List Tm}(b:∀t∈l,bK len T t):cr l l=true:=gN.2 fun x a=>⟨x,a,iO (b x a)⟩
theorem lN{l m n:List Tm}(f:∀t∈l,bK len T t)(hm:∀t∈m,bK len T t)(g:∀t∈n,bK len T t)(h1:cr l m=true)(h2:cr m n=true):cr l n=true:=by
 rw[gN]at*;intro x c;obtain⟨y,d,a⟩:=h1 x c;obtain⟨z,e,b⟩:=h2 y d;exact⟨z,e,kS (f x c) (hm y d) (g z e) a b⟩
theorem xZ{l l' m d:List Tm}(h1:cr l l'=true)(h2:cr m d=true):cr (l++m) (l'++d)=true:=by
 rw[gN]at*;intro x b;rcases List.mem_append.1 b with b|b
 ·obtain⟨y,c,a⟩:=h1 x b
  exact⟨y,List.mem_append_left _ c,a⟩
 ·obtain⟨y,c,a⟩:=h2 x b
  exact⟨y,List.mem_append_right _ c,a⟩
theorem nJ{l m:List Tm}(a:∀t∈l,bK len T t)(hm:∀t∈m,bK len T t):∀t∈l++m,bK len T t:=fun t b=>(List.mem_append.1 b).elim (a t) (hm t)
theorem GX{l m:List Tm}(b:∀t∈l,bK len T t)(hm:∀t∈m,bK len T t):cr (l++m) (m++l)=true:=
 gN.2 fun x a=>⟨x,List.mem_append.2 (List.mem_append.1 a).symm,iO (nJ b hm x a)⟩
theorem iP{l:List Tm}(a:∀t∈l,bK len T t):∀t∈bk l,bK len T t:=fun t b=>by
 rcases rS b with rfl|h
 ·trivial
 ·exact a t h
theorem x_{l:List Tm}(a:∀t∈l,bK len T t):RT l:=fun⟨d,e⟩ b=>xR (x:=(d,e)) (a _ b).1
theorem GY{l m:List Tm}(a:∀t∈l,bK len T t)(hm:∀t∈m,bK len T t)(h:none∈bc l m):bc l m= [none]:=by
 rcases uB (x_ a) (x_ hm)with e|⟨_,b,_⟩
 ·exact e
 ·exact absurd h b
theorem GZ{x y z:Tm}(a:bK len T x)(b:bK len T y)(h:bP x y=some z):bB z x=true∧bB z y=true:=by
 match x,y,a,b,h with
 |none,y,_,b,h=>simp[bP]at h;subst h;exact⟨nH _,iO b⟩
 |some x,none,a,_,h=>simp[bP]at h;subst h;exact⟨iO a,rfl⟩
 |some x,some y,a,b,h=>
  simp only[bP]at h;split at h
  ·cases h
  ·rename_i f
   have c:cj x y=false:=by simpa using f
   split at h
   ·rename_i d
    cases h;refine⟨iO a,?_⟩;show(!cj x y&&(!x.1||y.1))=true;rw[c];simpa using d
   ·rename_i d
    cases h;refine⟨?_,iO b⟩;show(!cj y x&&(!y.1||x.1))=true;have e:x.1=true∧y.1=false:=by simpa using d
    rw[xQ a.1 b.1 c,e.2];rfl
theorem G0{x y t:Tm}(h:bK len T x)(j:bK len T y)(k:bK len T t)(h1:bB t x=true)(h2:bB t y=true):∃z,bP x y=some z∧bB t z=true:=by
 match x,y,t,h,j,k,h1,h2 with
 |none,y,t,_,_,_,_,h2=>exact⟨y,rfl,h2⟩
 |some x,none,t,_,_,_,h1,_=>exact⟨some x,rfl,h1⟩
 |some x,some y,none,_,_,_,h1,_=>exact absurd h1 (by simp[bB])
 |some (b,ex),some (a,c),some (o,p),h,j,k,h1,h2=>
  have e:=h1;have f:=h2;simp only[bB,cj,Bool.not_not,Bool.and_eq_true,Bool.or_eq_true,Bool.not_eq_true']at e f;obtain⟨g,b1⟩:=e;obtain⟨a2,q⟩:=f;have d:Wf len T ex:=h.1;have l:Wf len T c:=j.1;have wt:Wf len T p:=k.1;have m:cj (b,ex) (a,c)=false:=by
   unfold cj;rw[Bool.not_eq_false'];cases o
   ·cases b
    ·cases a
     ·exact fP (gM wt.vt d.vt g) a2
     ·exact fP (gM wt.vu d.vu (nI wt d g)) a2
    ·cases a
     ·exact fP (gM wt.vu d.vt g) (nI wt l a2)
     ·exact nI d l (fP (gM wt.vu d.vt g) a2)
   ·obtain rfl:b=true:=by simpa using b1
    obtain rfl:a=true:=by simpa using q
    exact fP (gM wt.vu d.vu g) a2
  by_cases n:(!b||a)=true
  ·refine⟨some (b,ex),?_,h1⟩
   show(if cj (b,ex) (a,c)=true then none else if(!b||a)=true then some (some (b,ex))else some (some (a,c)))=_;rw[if_neg (by rw[m];exact Bool.false_ne_true),if_pos n]
  ·refine⟨some (a,c),?_,h2⟩
   show(if cj (b,ex) (a,c)=true then none else if(!b||a)=true then some (some (b,ex))else some (some (a,c)))=_;rw[if_neg (by rw[m];exact Bool.false_ne_true),if_neg n]
theorem yd{A B:List Tm}(d:∀t∈A,bK len T t)(e:∀t∈B,bK len T t):cr (bc (bk A) B) (bc (bk B) A)=true:=by
 rw[gN];intro z f;have l:=iP d;have m:=iP e;have u:=gN.1 (g_ d).1;have v:=gN.1 (g_ e).2;unfold bc at f;split at f
 ·cases f
 ·have hM:∀t∈((bk A).flatMap fun x=>B.filterMap fun y=>bP x y),bK len T t:=fun t n=>(ln n).elim (l t) (e t)
  have c:∀t∈((bk B).flatMap fun x=>A.filterMap fun y=>bP x y),bK len T t:=fun t n=>(ln n).elim (m t) (d t);obtain⟨C,g,s1⟩:=gN.1 (g_ hM).1 z f;obtain⟨x,o,y,p,he⟩:=xU.1 g;obtain⟨E,F⟩:=GZ (l x o) (e y p) he;obtain⟨q,a,G⟩:=u x o;obtain⟨r,b,ty⟩:=v y p;have h:=hM C g;obtain⟨z2,H,s2⟩:=G0 (m r b) (d q a) h (kS h (e y p) (m r b) F ty) (kS h (l x o) (d q a) E G);have j:=xU.2 ⟨r,b,q,a,H⟩;obtain⟨z3,k,I⟩:=gN.1 (g_ c).2 z2 j;have w:=iP hM z f;have J:=c z2 j;have s:=iP c z3 k;refine⟨z3,?_,kS w h s s1 (kS h J s s2 I)⟩;unfold bc;rw[if_neg (by rw[xV b,xV a];decide)];exact k
end
theorem all_congr{l m:List U}{P:U→Bool}(a:l.length=m.length)(h:∀j(c:j<l.length)(b:j<m.length),P l[j]=P m[j]):l.all P=m.all P:=by
 have e:l.map P=m.map P:=List.ext_getElem (by simp[a]) fun j h1 h2=>by simpa using h j (by simpa using h1) (by simpa using h2)
 have k:∀l:List U,l.all P=(l.map P).all id:=fun l=>by rw[List.all_map];rfl
 rw[k l,k m,e]
section
variable {D:Dl} {T:List U} {NS:List (List UInt8)} {i:Nat}
theorem nK(E:Env D T NS i){x:U}{f:Nat}(h:Mo D.len T NS i x 0 f)(f0:f≠0)(v:aR x):Wf D.len T x:=by
 have n:=h.pl.form.aE;obtain⟨⟨g,_,hu⟩,_⟩:=h.eB E f0 n.1 n.2;exact⟨h.vt v,hu.vt (h.kI E f0 n.1 n.2 v),i,0,f,f0,h.f2,h.pl,h.bp⟩
theorem pD(E:Env D T NS i):∀(x y:U){f s:Nat},Mo D.len T NS i x 0 f→f≠0→aR x→Mo D.len T NS i y 0 s→s≠0→aR y→aB x y=true→bu false x=bu false y:=by
 intro x;induction x using U.bg with
 |_ x ih=>
  intro y f s m f0 w n b z h;have o:=m.pl.form.aE;have p:=n.pl.form.aE;obtain⟨⟨g,J,A⟩,B,_⟩:=m.eB E f0 o.1 o.2;obtain⟨⟨M,t,C⟩,F,_⟩:=n.eB E b p.1 p.2;have u:=m.kI E f0 o.1 o.2 w;have v:=n.kI E b p.1 p.2 z;have hu:=nI (nK E m f0 w) (nK E n b z) h;have e:bare (under x)=under x:=cu B.1 B.2.2.1;have q:bare (under y)=under y:=cu F.1 F.2.2.1;have K:=dE x;by_cases c:(under x).k=10
  ·have a:=((kR (by rw[e];exact c)).1 hu).1
   rw[q]at a;rw[iY (by omega),iY (by omega),c,a]
  ·obtain⟨hk,G,_,L⟩:=(jY (by rw[e];exact c)).1 hu
   rw[e,q]at hk G;by_cases l:(under x).k=3∨(under x).k=5
   ·rw[iX l,iX (by omega)]
    refine all_congr G fun j r d=> ?_;have H:=A.part j r;rw[ij A.f2 (by omega),show aV (under x) j=0 by unfold aV;rw[if_neg (by omega),if_neg (by omega)]]at H;have I:=C.part j d;rw[ij C.f2 (by omega),show aV (under y) j=0 by unfold aV;rw[if_neg (by omega),if_neg (by omega)]]at I;have h1:=U.az (List.getElem_mem r);refine ih _ (by omega) _ H J (u.es (List.getElem_mem r)) I t (v.es (List.getElem_mem d)) ?_;have:=L j (by rw[e];exact r) (by rw[q];exact d);simpa only[e,q]using this
   ·rw[iY l,iY (by omega),hk]
theorem ye{d:Bool}{x:U}(h:under (under x)=under x):bu d (under x)=bu d x:=by
 by_cases a:(under x).k=3∨(under x).k=5
 ·rw[iX (by rw[h];exact a),iX a,h]
 ·rw[iY (by rw[h];exact a),iY a,h]
def dV(D:Dl)(T:List U)(NS:List (List UInt8))(i:Nat):Tm→Prop
 |none=>True
 |some (d,e)=>(∃f,f≠0∧Mo D.len T NS i e 0 f)∧aR e∧isIface e=false∧(d=true→aB e (under e)=true)
theorem dV.w(E:Env D T NS i){t:Tm}(h:dV D T NS i t):bK D.len T t:=by
 match t,h with
 |none,_=>trivial
 |some (d,e),h=>
  obtain⟨⟨f,f0,hM⟩,v,_,a⟩:=h;exact⟨nK E hM f0 v,a⟩
theorem dV.ok(E:Env D T NS i){t:Tm}(h:dV D T NS i t):cJ D.len t:=by
 match t,h with
 |none,_=>trivial
 |some (d,e),h=>
  obtain⟨⟨f,f0,hM⟩,v,hi,_⟩:=h;exact kJ E hM f0 v hi
theorem G1(E:Env D T NS i){x y:Tm}(q:dV D T NS i x)(r:dV D T NS i y)(h:bB x y=true)(s:gF x=true):gF y=true:=by
 match x,y,q,r,h,s with
 |_,none,_,_,_,_=>rfl
 |none,some _,_,_,h,_=>exact absurd h (by simp[bB])
 |some (A,ex),some (B,e),q,r,h,s=>
  obtain⟨⟨f,f0,hM⟩,v,_,_⟩:=q;obtain⟨⟨C,b,a⟩,t,_,_⟩:=r;simp only[bB,cj,Bool.not_not,Bool.and_eq_true]at h;have n:=hM.pl.form.aE;have o:=a.pl.form.aE;obtain⟨⟨g,u,hu⟩,k,_⟩:=hM.eB E f0 n.1 n.2;obtain⟨⟨F,j,l⟩,p,_⟩:=a.eB E b o.1 o.2;have vu:=hM.kI E f0 n.1 n.2 v;have m:=a.kI E b o.1 o.2 t;have w:=ye (d:=false) (x:=ex) (cQ k.1 k.2.1 k.2.2.1 k.2.2.2);have z:=ye (d:=false) (x:=e) (cQ p.1 p.2.1 p.2.2.1 p.2.2.2);have c:bu false ex=true:=s;show bu false e=true;have h1:=h.1;cases A<;>cases B
  ·rw[←pD E ex e hM f0 v a b t h1];exact c
  ·rw[←pD E (under ex) e hu u vu a b t h1,w];exact c
  ·rw[←z,←pD E ex (under e) hM f0 v l j m h1];exact c
  ·rw[←z,←pD E (under ex) (under e) hu u vu l j m h1,w];exact c
def fC(D:Dl)(T:List U)(NS:List (List UInt8))(i:Nat)(X:List Tm×Bool):Prop:=(∀t∈X.1,dV D T NS i t)∧(X.2=true→X.1= [none])
theorem rU{l m:List Tm}(a:∀t∈l,dV D T NS i t)(hm:∀t∈m,dV D T NS i t):∀t∈bc l m,dV D T NS i t:=fun t b=>by
 rcases GW b with rfl|h|h
 ·trivial
 ·exact a t h
 ·exact hm t h
theorem rV{l:List Tm}(a:∀t∈l,dV D T NS i t):∀t∈bk l,dV D T NS i t:=fun t b=>by
 rcases rS b with rfl|h
 ·trivial
 ·exact a t h
theorem G2(E:Env D T NS i){X Y:List Tm×Bool}(b:fC D T NS i X)(c:fC D T NS i Y):fC D T NS i (dp X Y):=by
 have hm:=rU b.1 c.1;unfold dp;split
 ·exact⟨fun t a=>hm t (List.mem_filter.1 a).1,fun h=>by cases h⟩
 ·rename_i d
  refine⟨hm,fun h=>GY (fun t a=>(b.1 t a).w E) (fun t a=>(c.1 t a).w E) (rT.1 ?_)⟩;have e:(X.2||Y.2)=true:=h;cases ha:fv (bc X.1 Y.1)with
  |true=>rfl
  |false=>exact absurd (by rw[e,ha];rfl) d
theorem G3:fC D T NS i ([none],false):=⟨fun t a=>by obtain rfl:t=none:=by simpa using a
                                                    trivial,fun h=>by cases h⟩
def hZ(t:Bool×U):List Tm:=if isIface t.2 then(bQ t.2).1 else [some t]
theorem yg(r:List Tm)(t:Bool×U):dI r t=bk (r++hZ t):=rfl
theorem rW(E:Env D T NS i){e:U}(h:Mo D.len T NS i e 2 2){g:Bool}(hm:mt T .elem e g=true)
 (ih:∀y:U,y.sz≤e.sz→∀{pos f:Nat}{g:Bool},Mo D.len T NS i y pos f→f≠0→y.k≠12→y.k≠13→mt T .type y g=true→fC D T NS i (bQ y)):
 fC D T NS i (dw e)∧((e.k=12∨e.k=13)→∀t∈bj e,∀z∈hZ t,dV D T NS i z):=by
 have m:∀y∈(if e.k=12 then e.es else [e]),y.sz≤e.sz→∀z∈hZ (y.k==13,aC y),dV D T NS i z:=fun y m q z b=>by
  obtain⟨pos',h3,p,j⟩:=jV h hm m;have d:=h3.aC p;unfold hZ at b;cases hi:isIface (aC y)with
  |true=>
   simp only[hi,if_true]at b;by_cases a:y.k=13
   ·rw[(jW h3.pl a j).1]at hi;cases hi
   ·rw[dY a]at b
    rw[fF a]at j;exact(ih y q h3 (by omega) p a j).1 z b
  |false=>
   simp only[hi,Bool.false_eq_true,if_false,List.mem_singleton]at b;subst b;exact⟨⟨2,by omega,d⟩,h3.je E p j hi,hi,fun w=>(jW h3.pl (by simpa using w) j).2⟩
 have n:(e.k=12∨e.k=13)→∀t∈bj e,∀z∈hZ t,dV D T NS i z:=fun hk t d z b=>by
  unfold bj at d;by_cases c:e.k=12
  ·rw[if_pos c]at d m
   obtain⟨y,o,rfl⟩:=List.mem_map.1 d;exact m y o (Nat.le_of_lt (U.az o)) z b
  ·rw[if_neg c]at d m
   have a:e.k=13:=by omega
   obtain rfl:t=(true,aC e):=by simpa using d
   refine m e (by simp) (Nat.le_refl _) z ?_;rw[show(e.k==13)=true by simp[a]];exact b
 refine⟨?_,n⟩;unfold dw;by_cases hk:e.k=12∨e.k=13
 ·rw[if_pos hk]
  refine⟨?_,fun h=>by cases h⟩;have key:∀(l:List (Bool×U))(r:List Tm),(∀t∈l,∀z∈hZ t,dV D T NS i z)→(∀z∈r,dV D T NS i z)→∀z∈l.foldl dI r,dV D T NS i z:=by
   intro l;induction l with
   |nil=>exact fun r _ hr=>hr
   |cons t s u=>
    intro r v hr;refine u _ (fun t d=>v t (List.mem_cons_of_mem _ d)) ?_;rw[yg];exact rV fun z b=>(List.mem_append.1 b).elim (hr z) (v t List.mem_cons_self z)
  exact key _ [] (n hk) fun z b=>by cases b
 ·rw[if_neg hk]
  have c:e.k≠12:=fun h=>hk (.inl h);have a:e.k≠13:=fun h=>hk (.inr h);cases hi:isIface e with
  |true=>
   rw[if_pos rfl];obtain⟨pos',h3,p,j⟩:=jV h hm (y:=e) (by rw[if_neg c];simp);rw[fF a]at j;exact ih e (Nat.le_refl _) h3 (by omega) c a j
  |false=>
   rw[if_neg (by simp)];refine⟨fun z b=> ?_,fun h=>by cases h⟩;refine m e (by rw[if_neg c];simp) (Nat.le_refl _) z ?_;unfold hZ;rw[dY a,hi,if_neg (by simp),show(e.k==13)=false by simp[a]];exact b
theorem rX(E:Env D T NS i):∀(u:U){pos f:Nat}{g:Bool},Mo D.len T NS i u pos f→f≠0→u.k≠12→u.k≠13→mt T .type u g=true→fC D T NS i (bQ u):=by
 intro u;induction u using U.bg with
 |_ u ih=>
  intro pos f g h d j n hm;by_cases b:(under u).k=10
  ·rw[kl b]
   have c:=pz E u h d j n hm b;have hle:=dE u;have key:∀(l:List U)(a:List Tm×Bool),(∀e∈l,e∈(under u).es.drop (under u).m.toNat)→fC D T NS i a→fC D T NS i (l.foldl (fun a e=>dp a (dw e)) a):=by
    intro l;induction l with
    |nil=>exact fun a _ ha=>ha
    |cons e r o=>
     intro a p ha;obtain⟨h1,v,h2⟩:=c e (p e List.mem_cons_self);have q:=U.az (List.mem_of_mem_drop (p e List.mem_cons_self));exact o _ (fun e he=>p e (List.mem_cons_of_mem _ he)) (G2 E ha (rW E h1 h2 fun y w=>ih y (by omega)).1)
   exact key _ _ (fun e he=>he) G3
  ·rw[mJ b]
   exact⟨fun t s=>by obtain rfl:t=none:=by simpa using s
                     trivial,fun _=>rfl⟩
theorem yh(E:Env D T NS i){A B:List Tm×Bool}(d:fC D T NS i A)(e:fC D T NS i B):
 (dp (bk A.1,A.2) B).2=(dp (bk B.1,B.2) A).2∧cr (dp (bk A.1,A.2) B).1 (dp (bk B.1,B.2) A).1=true:=by
 have h:∀t∈A.1,bK D.len T t:=fun t f=>(d.1 t f).w E;have j:∀t∈B.1,bK D.len T t:=fun t f=>(e.1 t f).w E;have h1:=yd h j;have h2:=yd j h;have a:fv (bc (bk A.1) B.1)=fv (bc (bk B.1) A.1):=by
  rw[Bool.eq_iff_iff,rT,rT];exact⟨xW h1,xW h2⟩
 have m:=rU (rV d.1) e.1;have mB:=rU (rV e.1) d.1;unfold dp;simp only;rw[a,Bool.or_comm B.2 A.2];split
 ·refine⟨rfl,gN.2 fun z c=> ?_⟩
  obtain⟨c,g⟩:=List.mem_filter.1 c;obtain⟨k,b,l⟩:=gN.1 h1 z c;exact⟨k,List.mem_filter.2 ⟨b,G1 E (m z c) (mB k b) l g⟩,l⟩
 ·exact⟨rfl,h1⟩
theorem join_comm(E:Env D T NS i){a b:Bool×U}(ha:∀z∈hZ a,dV D T NS i z)(h:∀z∈hZ b,dV D T NS i z):
 cr (bk (dI (dI [] a) b)) (bk (dI (dI [] b) a))=true:=by
 have c:∀t∈hZ a,bK D.len T t:=fun t f=>(ha t f).w E;have wb:∀t∈hZ b,bK D.len T t:=fun t f=>(h t f).w E;simp only[yg,List.nil_append];have na:=iP c;have nb:=iP wb;have e:=nJ na wb;have g:=nJ c wb;have j:=nJ wb c;have d:=nJ nb c;have s1:=xZ (g_ c).1 (xY wb);have s2:=GX c wb;have k:=xZ (g_ wb).2 (xY c);have s:=lN e g d s1 (lN g j d s2 k);have v1:=iP e;have v4:=iP d;have u1:=iP v1;have u4:=iP v4;exact lN u1 v1 u4 (g_ v1).1 (lN v1 e u4 (g_ e).1 (lN e d u4 s (lN d v4 u4 (g_ d).2 (g_ v4).2)))
end
def aq(l:List U):U:= .mk 10 0 0 false ByteArray.empty ByteArray.empty l []
def bS:U:= .mk 14 0 0 false ByteArray.empty ByteArray.empty [] []
theorem eJ(l:List U):under (aq l)=aq l:=cQ (by show(10:Int)≠2;decide) (by show(10:Int)≠11;decide) (by show(10:Int)≠14;decide) (by show(10:Int)≠15;decide)
theorem e_(l:List U):(aq l).k=10:=rfl
theorem eS(l:List U):(aq l).es.drop (aq l).m.toNat=l:=rfl
theorem jh(l:List U):(aq l).es.take (aq l).m.toNat= []:=rfl
theorem G4:bare bS=bt:=gq rfl
theorem nL:under bS=bt:=by unfold under;rw[G4];rfl
theorem yi:isIface bS=true:=by unfold isIface;rw[nL];rfl
theorem rY(l:List U):isIface (aq l)=true:=by unfold isIface;rw[eJ];rfl
theorem yj:ai bS= []:=by
 rw[iq (by rw[nL];rfl),nL];have:dW bt= []:=rfl;rw[this];simp[b7]
theorem G5:bT bS=0:=by
 rw[jr (by rw[nL];rfl),nL];rfl
theorem yl(A:U):ai (aq [A,bS])=ai (aq [A]):=by
 rw[iq (by rw[eJ];rfl),iq (by rw[eJ];rfl),eJ,eJ];unfold dW;rw[eS,eS,jh,jh];simp only[List.foldl_cons,List.foldl_nil];congr 1;have:∀out:List U,bH out bS=out:=fun out=>by
  unfold bH;rw[yj];simp
 rw[this]
theorem G6(A:U):bT (aq [A,bS])=bT (aq [A]):=by
 rw[jr (by rw[eJ];rfl),jr (by rw[eJ];rfl),eJ,eJ];have e:dH (aq [A,bS])=dH (aq [A])++ [bS]:=by
  unfold dH;rw[eS,eS];simp only[List.flatMap_cons,List.flatMap_nil,List.append_nil];congr 1
 rw[e,List.foldl_append,List.foldl_cons,List.foldl_nil];have:∀n:Int,bD n bS=n:=fun n=>by
  unfold bD;rw[yi,G5];split
  ·rfl
  ·rw[if_neg (by decide)];omega
 exact this _
theorem G7(T:List U):mt T .elem bS true=true:=by
 rw[js (by decide),fF (by decide),yi,l9 (by decide) (by decide)];simp[bS,U.es]
theorem G8{T:List U}{A:U}(h:mt T .type (aq [A]) true=true):mt T .type (aq [A,bS]) true=true:=by
 rw[iw (e_ _)]at h⊢;rw[eS,jh]at*;simp only[List.all_cons,List.all_nil,Bool.and_true,Bool.true_and,Bool.and_eq_true,decide_eq_true_eq]at h⊢;obtain⟨h1,h2,h3⟩:=h;refine⟨⟨h1,G7 T⟩,?_,by rw[G6];exact h3⟩;unfold eU at*;rw[eS]at*;simp only[List.all_cons,List.all_nil,Bool.and_true]at*;rw[yl,h2,yj];simp[hasB]
theorem G9{len:Nat}{q:Pc}{a:U}(h:ah len (aq [a]) q .type=true):ah len (aq [a,bS]) q .type=true:=by
 rw[mi (e_ _)]at h⊢;unfold eL at*;rw[eS,jh]at*;simp only[List.all_cons,List.all_nil,Bool.and_true,Bool.and_eq_true]at h⊢;refine⟨⟨⟨by simp[b4,aq,U.m,U.es],by simp[aq,U.m,U.es]⟩,rfl⟩,h.2,?_⟩;rw[ah.eq_def];simp only;rw[if_neg (by decide),if_neg (by decide),lg (by decide)];rfl
theorem pE(ds:List aF)(a:U):bM ds (aq [a])=aq [aL (aS ds) 2 a]:=by
 unfold bM aq;simp[aL,fo,cm]
theorem pF(ds:List aF)(a:U):bM ds (aq [a,bS])=aq [aL (aS ds) 2 a,bS]:=by
 unfold bM aq bS;simp[aL,fo,cm]
theorem G_{D:Dl}{ds:List aF}{a:U}(h:di D ds (aq [a])=true):di D ds (aq [a,bS])=true:=by
 unfold di at*;rw[pE]at h;rw[pF];simp only[Bool.and_eq_true]at h⊢;exact⟨⟨G9 h.1.1,rY _⟩,G8 h.2⟩
def aT(l:List U):U:= .mk 12 0 0 false ByteArray.empty ByteArray.empty l []
theorem lO(l:List U):(aT l).k=12:=rfl
theorem rZ(l:List U):(aT l).es=l:=rfl
theorem lP(ds:List aF)(a b:U):bM ds (aq [a,b])=aq [aL (aS ds) 2 a,aL (aS ds) 2 b]:=by
 unfold bM aq;simp[aL,fo,cm]
theorem lQ(ds:List aF)(a b:U):bM ds (aq [aT [a,b]])=aq [aT [aL (aS ds) 2 a,aL (aS ds) 2 b]]:=by
 unfold bM aq aT;simp[aL,fo,cm]
theorem Ha{out:List U}{m x:U}(h:x∈out):x∈bG out m:=by
 unfold bG;split
 ·exact h
 ·exact List.mem_append_left _ h
theorem Hb(out:List U)(m:U):∃f∈bG out m,cL f m=true:=by
 unfold bG;split
 ·rename_i h
  exact List.any_eq_true.1 h
 ·exact⟨m,by simp,uw m⟩
theorem ym{l:List U}:∀{out:List U}{x:U},x∈out→x∈l.foldl bG out:=by
 induction l with
 |nil=>intro _ _ h;exact h
 |cons m r ih=>intro _ _ h;exact ih (Ha h)
theorem Hc{l:List U}:∀{out:List U}{m:U},m∈l→∃f∈l.foldl bG out,cL f m=true:=by
 induction l with
 |nil=>intro _ _ h;cases h
 |cons a r ih=>
  intro out m h;rcases List.mem_cons.1 h with rfl|h
  ·obtain⟨f,b,e⟩:=Hb out m
   exact⟨f,ym (l:=r) b,e⟩
  ·exact ih h
theorem Hd{out:List U}{e x:U}(h:x∈out):x∈bH out e:=by
 unfold bH;split
 ·exact ym h
 ·exact h
theorem He{l:List U}:∀{out:List U}{x:U},x∈out→x∈l.foldl bH out:=by
 induction l with
 |nil=>intro _ _ h;exact h
 |cons m r ih=>intro _ _ h;exact ih (Hd h)
theorem Hf{l:List U}:∀{out:List U}{e m:U},e∈l→aQ e=true→m∈ai e→∃f∈l.foldl bH out,cL f m=true:=by
 induction l with
 |nil=>intro _ _ _ h;cases h
 |cons a r ih=>
  intro out e m h he hm;rcases List.mem_cons.1 h with rfl|h
  ·obtain⟨f,b,c⟩:=Hc (out:=out) hm
   refine⟨f,He (l:=r) ?_,c⟩;unfold bH;rw[if_pos he];exact b
  ·exact ih h he hm
theorem r_(l:List U):ai (aq l)=b7 (l.foldl bH []):=by
 rw[jI (e_ _)];unfold dW;rw[eS,jh]
theorem pG{l:List U}{m:U}(h:m∈ai (aq l)):∃e∈l,aQ e=true∧m∈ai e:=by
 have h2:=(iu h).2;rw[eJ,jh,eS]at h2;rcases h2 with h2|h2
 ·cases h2
 ·exact h2
theorem yo{l:List U}{e m:U}(he:e∈l)(a:aQ e=true)(hm:m∈ai e):∃f∈ai (aq l),f.nm.toList=m.nm.toList:=by
 obtain⟨f,b,h⟩:=Hf (out:= []) he a hm;exact⟨f,by rw[r_,pU];exact b,fE.1 h⟩
theorem sc(l:List U):dF (ai (aq l)):=by
 rw[r_];exact pW (nQ List.Pairwise.nil)
theorem yp{l:List U}(h:dF l){f b:U}(g:f∈l)(c:b∈l)(e:f.nm.toList=b.nm.toList):f=b:=by
 obtain⟨j,d,rfl⟩:=List.getElem_of_mem g;obtain⟨k,hk,rfl⟩:=List.getElem_of_mem c;by_cases a:j=k
 ·subst a;rfl
 ·exfalso
  rcases Nat.lt_or_gt_of_ne a with h1|h1
  ·have:=List.pairwise_iff_getElem.1 h j k d hk h1
   rw[jE e,gA]at this;cases this
  ·have:=List.pairwise_iff_getElem.1 h k j hk d h1
   rw[jE e.symm,gA]at this;cases this
theorem Hg{l r:List U}(ol:dF l)(or:dF r)(h1:∀m∈r,∃f∈l,f.nm.toList=m.nm.toList∧aB f m=true)(h2:∀m∈l,∃f∈r,f.nm.toList=m.nm.toList):jg l r:=by
 have a:=iT (NS:=r.map fun m=>m.nm.toList) ol.noTwo fun m hm=>let⟨f,c,e⟩:=h2 m hm;List.mem_map.2 ⟨f,c,e⟩;have b:=iT (NS:=l.map fun m=>m.nm.toList) or.noTwo fun m hm=>let⟨f,c,e,_⟩:=h1 m hm;List.mem_map.2 ⟨f,c,e⟩;rw[List.length_map]at a b;have g:=qW ol or (by omega) fun m hm=>let⟨f,c,e,_⟩:=h1 m hm;⟨f,c,e⟩;refine⟨by omega,fun j h d=>⟨g j h d,?_⟩⟩;obtain⟨f,c,e,hid⟩:=h1 _ (List.getElem_mem d);rw[←yp ol c (List.getElem_mem h) (by rw[e,g j h d])];exact hid
theorem sd{l:List U}:eU (aq l)=true↔∀e∈l,aQ e=true→∀m∈ai e,∃f∈ai (aq l),f.nm.toList=m.nm.toList∧aB f m=true:=by
 unfold eU;rw[eS,List.all_eq_true];have key:∀e,(!aQ e||hasB (ai (aq l)) (ai e))=true↔(aQ e=true→∀m∈ai e,∃f∈ai (aq l),f.nm.toList=m.nm.toList∧aB f m=true):=fun e=>by
  have a:hasB (ai (aq l)) (ai e)=true↔∀m∈ai e,∃f∈ai (aq l),f.nm.toList=m.nm.toList∧aB f m=true:=by
   unfold hasB;simp only[List.all_eq_true,List.any_eq_true,Bool.and_eq_true,fE]
  rw[←a];cases aQ e<;>simp
 exact⟨fun h e he=>(key e).1 (h e he),fun h e he=>(key e).2 (h e he)⟩
def nM(x:U):Int:=if x.k==13|| !isIface x then 1 else bT x
def gl:List U→Int
 | []=>0
 |x::r=>nM x+gl r
theorem yq(x:U):0≤nM x:=by
 unfold nM;split
 ·decide
 ·exact oz x
theorem yu:∀l:List U,0≤gl l
 | []=>Int.le_refl _
 |x::r=>by have:=yq x;have:=yu r;unfold gl;omega
theorem yw:∀l m:List U,gl (l++m)=gl l+gl m
 | [],m=>by simp[gl]
 |x::r,m=>by have:=yw r m;simp only[List.cons_append,gl];omega
theorem Hh:∀(l:List U)(n:Int),l.foldl bD n≤50↔n+gl l≤50:=by
 intro l;induction l with
 |nil=>intro n;simp[gl]
 |cons x r ih=>
  intro n;rw[List.foldl_cons,ih];have a:=yu r;have b:=yq x;have e:bD n x=if 50<n then n else n+nM x:=by
   unfold bD nM;split
   ·rfl
   ·split<;>rfl
  rw[e,gl];split<;>omega
theorem yx(l:List U):bT (aq l)≤50↔gl (dH (aq l))≤50:=by
 rw[jr (by rw[eJ];rfl),eJ,Hh,Int.zero_add]
theorem Hi(l:List U):dH (aq [aT l])=l:=by
 unfold dH;rw[eS,List.flatMap_cons,List.flatMap_nil,List.append_nil];exact if_pos rfl
theorem Hj{a b:U}(h:bT (aq [a,b])≤50):bT (aq [b,a])≤50:=by
 rw[yx]at h⊢;unfold dH at h⊢;rw[eS,List.flatMap_cons,List.flatMap_cons,List.flatMap_nil,List.append_nil,yw]at h⊢;omega
theorem Hk{a b:U}(h:bT (aq [aT [a,b]])≤50):bT (aq [aT [b,a]])≤50:=by
 rw[yx,Hi]at h⊢;simp only[gl]at h⊢;omega
theorem yy(l:List U):aQ (aT l)=false:=by simp[aQ,aT,U.k]
theorem yz(l:List U):ai (aq [aT l])= []:=by
 rw[r_,List.foldl_cons,List.foldl_nil];unfold bH;rw[yy,if_neg (by simp)];simp[b7]
theorem lR(a b:U):bQ (aq [aT [a,b]])=(bk (dI (dI [] (a.k==13,aC a)) (b.k==13,aC b)),false):=by
 rw[pc (e_ _),eS,List.foldl_cons,List.foldl_nil];have e:dw (aT [a,b])=(dI (dI [] (a.k==13,aC a)) (b.k==13,aC b),false):=by
  unfold dw bj;rw[if_pos (.inl (lO _)),if_pos (lO _)];rfl
 rw[e,xX _ (fun h=>by cases h)]
theorem lS(a b:U)(h:(dw a).2=true→(dw a).1= [none]):bQ (aq [a,b])=dp (bk (dw a).1,(dw a).2) (dw b):=by
 rw[pc (e_ _),eS,List.foldl_cons,List.foldl_cons,List.foldl_nil,xX _ h]
theorem pH{p q:Bool}(f:p=true→q=true)(h:(!q)=true):(!p)=true:=by
 cases p with
 |false=>rfl
 |true=>rw[f rfl]at h;cases h
section
variable {D:Dl} {T:List U} {NS:List (List UInt8)} {i:Nat}
theorem pI(E:Env D T NS i){u:U}{pos f:Nat}{g:Bool}(h:Mo D.len T NS i u pos f)(d:f≠0)(a:u.k≠12)(b:u.k≠13)(hm:mt T .type u g=true):∀m∈ai u,Vt D.len m∧aM m.nm=true:=fun m c=>by
 obtain⟨_,l,e,j⟩:=h.pl.cv h.f2 d a b m c;exact⟨⟨(ki E.ok E.bp E.mt u pos f g i (Nat.le_refl _) h.bp h.pl h.f2 a b hm).1 m c,l,e,j⟩,xJ E u h d a b m c⟩
theorem Hl(E:Env D T NS i){e:U}(h:Mo D.len T NS i e 2 2){g:Bool}(hm:mt T .elem e g=true)(a:aQ e=true):∀m∈ai e,Vt D.len m:=fun m b=>by
 unfold aQ at a;simp only[Bool.and_eq_true,bne_iff_ne,ne_eq]at a;obtain⟨pos',h3,d,c⟩:=jV h hm (y:=e) (by rw[if_neg a.1.1];simp);rw[fF a.1.2]at c;exact(pI E h3 (by omega) d a.1.2 c m b).1
theorem Hm{l l':List U}(d:∀e,e∈l↔e∈l')(r:∀e∈l,aQ e=true→∀m∈ai e,Vt D.len m)(ha:eU (aq l)=true):jg (ai (aq l)) (ai (aq l'))∧eU (aq l')=true:=by
 rw[sd]at ha;have h1:∀m∈ai (aq l'),∃f∈ai (aq l),f.nm.toList=m.nm.toList∧aB f m=true:=fun m hm=>by
  obtain⟨e,he,c,a⟩:=pG hm;exact ha e ((d e).2 he) c m a
 have h2:∀m∈ai (aq l),∃f∈ai (aq l'),f.nm.toList=m.nm.toList:=fun m hm=>by
  obtain⟨e,he,c,a⟩:=pG hm;exact yo ((d e).1 he) c a
 refine⟨Hg (sc l) (sc l') h1 h2,sd.2 fun e he c m hm=> ?_⟩;obtain⟨g,b,s⟩:=yo he c hm;obtain⟨f,t,v,i1⟩:=h1 g b;obtain⟨f2,h,w,i2⟩:=ha e ((d e).2 he) c m hm;have x:=yp (sc l) t h (by rw[v,s,w]);rw[←x]at i2;obtain⟨y,j,k,n⟩:=pG t;obtain⟨u,o,p,q⟩:=pG b;exact⟨g,b,s,fP (gM (r y j k f n) (r u ((d u).2 o) p g q) i1) i2⟩
theorem pJ(E:Env D T NS i){l:List U}{g:Bool}(h:Mo D.len T NS i (aq l) 0 1)(hm:mt T .type (aq l) g=true):∀e∈l,Mo D.len T NS i e 2 2∧∃a,mt T .elem e a=true:=fun e he=>
 pz E (aq l) h (by omega) (by rw[e_];decide) (by rw[e_];decide) hm (by rw[eJ];rfl) e (by rw[eJ];exact he)
theorem Hn(E:Env D T NS i){a b:U}{pos pos':Nat}(ha:Mo D.len T NS i a pos 2)(a12:a.k≠12)(n:mt T .term a false=true)(m:Mo D.len T NS i b pos' 2)(f:b.k≠12)(o:mt T .term b false=true)(h:eu a b=true):eu b a=true:=by
 unfold eu at*;cases g:isIface (aC a)with
 |true=>rw[Bool.or_true,if_pos rfl]
 |false=>
  cases j:isIface (aC b)with
  |true=>rw[Bool.true_or,if_pos rfl]
  |false=>
   rw[g,j]at h;simp only[Bool.or_self,Bool.false_eq_true,if_false]at h⊢;have l:=nK E (ha.aC a12) (by omega) (ha.je E a12 n g);have wb:=nK E (m.aC f) (by omega) (m.je E f o j);by_cases d:a.k=13
   ·have ta:=(jW ha.pl d n).2
    rw[if_pos d]at h;by_cases c:b.k=13
    ·have tb:=(jW m.pl c o).2
     rw[if_pos c];exact pH (fun e=>fP (fP ta (gM wb.vt l.vu e)) tb) h
    ·rw[if_neg c,if_pos d]
     exact pH (fun e=>gM wb.vu l.vt e) h
   ·rw[if_neg d]at h⊢
    by_cases c:b.k=13
    ·rw[if_pos c]at h⊢
     exact pH (fun e=>gM wb.vt l.vu e) h
    ·rw[if_neg c]at h⊢
     exact pH (fun e=>gM wb.vt l.vt e) h
theorem yA(E:Env D T NS i){a b:U}(h:Mo D.len T NS i (aq [a,b]) 0 1)(hm:mt T .type (aq [a,b]) true=true):mt T .type (aq [b,a]) true=true∧jg (ai (aq [a,b])) (ai (aq [b,a])):=by
 have c:=pJ E h hm;rw[iw (e_ _)]at hm⊢;rw[eS,jh]at*;simp only[List.all_cons,List.all_nil,Bool.and_true,Bool.true_and,Bool.and_eq_true,decide_eq_true_eq]at hm⊢;obtain⟨h1,h2,h3⟩:=hm;have d:=Hm (D:=D) (l:= [a,b]) (l':= [b,a]) (fun e=>by simp only[List.mem_cons,List.not_mem_nil,or_false];exact or_comm) (fun e he f=>let⟨h3,j,g⟩:=c e he;Hl E h3 g f) h2;exact⟨⟨⟨h1.2,h1.1⟩,d.2,Hj h3⟩,d.1⟩
theorem Ho(E:Env D T NS i){a b:U}(h:Mo D.len T NS i (aq [aT [a,b]]) 0 1)(hm:mt T .type (aq [aT [a,b]]) true=true):mt T .type (aq [aT [b,a]]) true=true:=by
 obtain⟨hu,n,g⟩:=pJ E h hm (aT [a,b]) (by simp);have f:∀y∈ [a,b],∃pos,Mo D.len T NS i y pos 2∧y.k≠12∧mt T .term y false=true:=fun y j=>jV hu g (by rw[if_pos (lO _),rZ];exact j);obtain⟨pa,ha,a12,l⟩:=f a (by simp);obtain⟨pb,c,d,m⟩:=f b (by simp);rw[iw (e_ _)]at hm⊢;rw[eS,jh]at*;simp only[List.all_cons,List.all_nil,Bool.and_true,Bool.true_and,Bool.and_eq_true,decide_eq_true_eq]at hm⊢;obtain⟨h1,h2,h3⟩:=hm;refine⟨?_,sd.2 fun e he c=> ?_,Hk h3⟩
 ·rw[lY (lO _),rZ]at h1⊢
  simp only[List.all_cons,List.all_nil,Bool.and_true,Bool.and_eq_true,decide_eq_true_eq,List.pairwise_cons,List.mem_singleton,forall_eq,List.not_mem_nil,false_imp_iff,implies_true,List.Pairwise.nil,and_true]at h1⊢;exact⟨⟨h1.1.2,h1.1.1⟩,Hn E c d m ha a12 l h1.2⟩
 ·obtain rfl:e=aT [b,a]:=by simpa using he
  rw[yy]at c;cases c
end
theorem yC{len:Nat}{q:Pc}{l l':List U}(a:l'.length=l.length)(b:(∀e∈l,ah len e q.inside .elem=true)→∀e∈l',ah len e q.inside .elem=true)(h:ah len (aq l) q .type=true):ah len (aq l') q .type=true:=by
 rw[mi (e_ _)]at h⊢;unfold eL at*;rw[eS,jh]at*;simp only[Bool.and_eq_true,List.all_eq_true]at h⊢;have he:(aq l').es.length=(aq l).es.length:=a;refine⟨⟨⟨⟨?_,?_⟩,rfl⟩,fun e he=>by cases he⟩,b h.2⟩
 ·rw[he];exact h.1.1.1.1
 ·rw[he];exact h.1.1.1.2
theorem Hp{len:Nat}{q:Pc}{a b:U}(h:ah len (aq [a,b]) q .type=true):ah len (aq [b,a]) q .type=true:=
 yC (l:= [a,b]) (l':= [b,a]) rfl (fun h e he=>h e (by simp only[List.mem_cons,List.not_mem_nil,or_false]at he⊢;exact he.symm)) h
theorem Hq{len:Nat}{q:Pc}{a b:U}(h:ah len (aq [aT [a,b]]) q .type=true):ah len (aq [aT [b,a]]) q .type=true:=
 yC (l:= [aT [a,b]]) (l':= [aT [b,a]]) rfl (fun h e he=>by
  obtain rfl:e=aT [b,a]:=by simpa using he
  have h1:=h (aT [a,b]) (by simp);rw[nZ (lO _),rZ]at h1⊢;simp only[List.all_cons,List.all_nil,Bool.and_true,Bool.and_eq_true]at h1⊢;exact⟨h1.1,h1.2.2,h1.2.1⟩) h
section
variable {D:Dl} {ds:List aF} {NS:List (List UInt8)}
theorem Hr(E:Env D (aS ds) NS ds.length){a b:U}(hM:Mo D.len (aS ds) NS ds.length (bM ds (aq [a,b])) 0 1)(h:di D ds (aq [a,b])=true):di D ds (aq [b,a])=true:=by
 unfold di at*;rw[lP]at*;simp only[Bool.and_eq_true]at h⊢;exact⟨⟨Hp h.1.1,rY _⟩,(yA E hM h.2).1⟩
theorem Hs(E:Env D (aS ds) NS ds.length){a b:U}(hM:Mo D.len (aS ds) NS ds.length (bM ds (aq [aT [a,b]])) 0 1)(h:di D ds (aq [aT [a,b]])=true):di D ds (aq [aT [b,a]])=true:=by
 unfold di at*;rw[lQ]at*;simp only[Bool.and_eq_true]at h⊢;exact⟨⟨Hq h.1.1,rY _⟩,Ho E hM h.2⟩
end
section
variable {D:Dl} {T:List U} {NS:List (List UInt8)} {i:Nat}
theorem yD(E:Env D T NS i){u v:U}(hu:fC D T NS i (bQ u))(c:fC D T NS i (bQ v))(d:(bQ v).2=(bQ u).2)(h1:cr (bQ u).1 (bQ v).1=true)(h2:cr (bQ v).1 (bQ u).1=true):jZ D.len u v:=fun g cmp f e hk a=>by
 rw[hk.eq,a.eq]at d h1 h2;rw[hk.eq]at hu;rw[a.eq]at c;exact⟨d,h1,h2,fun t b=>(hu.1 t b).ok E,fun t b=>(c.1 t b).ok E⟩
theorem lT(E:Env D T NS i){l:List U}{g:Bool}(h:Mo D.len T NS i (aq l) 0 1)(hm:mt T .type (aq l) g=true):fC D T NS i (bQ (aq l)):=rX E _ h (by omega) (by rw[e_];decide) (by rw[e_];decide) hm
theorem Ht(E:Env D T NS i){a b:U}(h:Mo D.len T NS i (aq [a,b]) 0 1)(hm:mt T .type (aq [a,b]) true=true)(f:Mo D.len T NS i (aq [b,a]) 0 1)(c:mt T .type (aq [b,a]) true=true):jZ D.len (aq [a,b]) (aq [b,a]):=by
 have d:=pJ E h hm;have ok:∀e∈ [a,b],fC D T NS i (dw e):=fun e he=>let⟨h1,j,h2⟩:=d e he;(rW E h1 h2 fun y _ _ _ _ g=>rX E y g).1;have oa:=ok a (by simp);have ob:=ok b (by simp);have c1:=yh E oa ob;have c2:=yh E ob oa;refine yD E (lT E h hm) (lT E f c) ?_ ?_ ?_
 ·rw[lS a b oa.2,lS b a ob.2];exact c2.1
 ·rw[lS a b oa.2,lS b a ob.2];exact c1.2
 ·rw[lS a b oa.2,lS b a ob.2];exact c2.2
theorem Hu(E:Env D T NS i){a b:U}(h:Mo D.len T NS i (aq [aT [a,b]]) 0 1)(hm:mt T .type (aq [aT [a,b]]) true=true)(e:Mo D.len T NS i (aq [aT [b,a]]) 0 1)(c:mt T .type (aq [aT [b,a]]) true=true):jZ D.len (aq [aT [a,b]]) (aq [aT [b,a]]):=by
 obtain⟨h1,g,h2⟩:=pJ E h hm (aT [a,b]) (by simp);have ok:=(rW E h1 h2 fun y _ _ _ _ f=>rX E y f).2 (.inl rfl);have d:bj (aT [a,b])= [(a.k==13,aC a),(b.k==13,aC b)]:=by
  unfold bj;rw[if_pos (lO _)];rfl
 rw[d]at ok;have oa:=ok _ (List.mem_cons_self ..);have ob:=ok (b.k==13,aC b) (by simp);refine yD E (lT E h hm) (lT E e c) ?_ ?_ ?_
 ·rw[lR,lR]
 ·rw[lR,lR];exact join_comm E oa ob
 ·rw[lR,lR];exact join_comm E ob oa
end
end TS
namespace TS
open Go Go.RowKit
theorem aj.iQ{p:Pm}{D:Dl}{w:World}(hw:KW p w){u:U}{a:Option Addr}{c:Nat}(hu:ak p D u a c):∃q,Sub p q∧KW q (w.alloc (.cells #[.int .i64 u.k,.int .i64 u.n,.int .i64 u.m,.bool u.v,.string u.nm,.string u.tg,.slice a u.es.length c] 25))∧aj q D [u] (some ⟨w.heap.size,0,none⟩):=by
 have d:∀o,p w.heap.size o=none:=fun o=>hw.aJ (Nat.le_refl _) o;have b:=Pm.dj (cs:=#[.int .i64 u.k,.int .i64 u.n,.int .i64 u.m,.bool u.v,.string u.nm,.string u.tg,.slice a u.es.length c]) d;refine⟨_,b,hw.pS _ _,?_⟩;simp only[aj];refine⟨w.heap.size,0,rfl,⟨a,c,?_,ak.sub b _ hu⟩,trivial⟩;refine⟨?_,?_,?_,?_,?_,?_,?_⟩<;>(rw[Pm.aX];rfl)
theorem aj.yE{p:Pm}{D:Dl}{w:World}(hw:KW p w){u v:U}{a a':Option Addr}{c c':Nat}(hu:ak p D u a c)(e:ak p D v a' c'):∃q,aP p q w.heap.size∧KW q (w.alloc (.cells #[.int .i64 u.k,.int .i64 u.n,.int .i64 u.m,.bool u.v,.string u.nm,.string u.tg,.slice a u.es.length c,.int .i64 v.k,.int .i64 v.n,.int .i64 v.m,.bool v.v,.string v.nm,.string v.tg,.slice a' v.es.length c'] 25))∧aj q D [u,v] (some ⟨w.heap.size,0,none⟩):=by
 have d:∀o,p w.heap.size o=none:=fun o=>hw.aJ (Nat.le_refl _) o;have b:=Pm.dj (cs:=#[.int .i64 u.k,.int .i64 u.n,.int .i64 u.m,.bool u.v,.string u.nm,.string u.tg,.slice a u.es.length c,.int .i64 v.k,.int .i64 v.n,.int .i64 v.m,.bool v.v,.string v.nm,.string v.tg,.slice a' v.es.length c']) d;refine⟨_,Pm.dC d (Nat.le_refl _),hw.pS _ _,?_⟩;simp only[aj];refine⟨w.heap.size,0,rfl,⟨a,c,?_,ak.sub b _ hu⟩,w.heap.size,7,rfl,⟨a',c',?_,ak.sub b _ e⟩,trivial⟩;all_goals refine⟨?_,?_,?_,?_,?_,?_,?_⟩<;>(rw[Pm.aX];rfl)
theorem aj.j7{p:Pm}{D:Dl}{w:World}(hw:KW p w){u v:U}{a a':Option Addr}{c c':Nat}(hu:ak p D u a c)(b:ak p D v a' c'):∃q,Sub p q∧KW q (w.alloc (.cells #[.int .i64 u.k,.int .i64 u.n,.int .i64 u.m,.bool u.v,.string u.nm,.string u.tg,.slice a u.es.length c,.int .i64 v.k,.int .i64 v.n,.int .i64 v.m,.bool v.v,.string v.nm,.string v.tg,.slice a' v.es.length c'] 25))∧aj q D [u,v] (some ⟨w.heap.size,0,none⟩):=let⟨q,h1,h2,h3⟩:=aj.yE hw hu b;⟨q,h1.le,h2,h3⟩
theorem ji{p:Pm}{D:Dl}{l:List U}{a:Option Addr}{c:Nat}(b:l.length≤c)(h2:c≤2)(h:aj p D l a):ak p D (aq l) a c:=by
 unfold aq;simp only[ak];exact⟨⟨b,by omega,by decide,by decide,by decide,by decide,by decide⟩,h,fun h=>absurd h (by decide)⟩
end TS
