import Derived.Ground.SlsfProg
import Derived.Shelf.Lay
import Derived.Shelf.SlSortCmp.NoneTotal
import Derived.Shelf.SlSortCmp.QuietGrown
import Derived.Test.YtkochlhejabdcaaGreatDoorYam
set_option maxRecDepth 100000
set_option maxHeartbeats 8000000
set_option linter.all false
namespace TS
open Go Go.RowKit
def bn(T:List U)(i f:Nat)(u:U):Prop:=
 (u.k=11→if f=0 then u.un= []else ∃h:u.n.toNat<T.length,u.n.toNat<i∧u.un= [T[u.n.toNat]])∧((u.k=15→u.un= [aP])∧(u.k=5→u.un= []))∧∀j(h:j<u.es.length),bn T i (aO u j f) u.es[j]
termination_by u.sz
decreasing_by exact U.ar (zm h)
theorem bn.named{T:List U}{i f:Nat}{u:U}(h:bn T i f u)(hk:u.k=11):if f=0 then u.un= []else ∃h:u.n.toNat<T.length,u.n.toNat<i∧u.un= [T[u.n.toNat]]:=by rw[bn]at h;exact h.1 hk
theorem bn.err{T:List U}{i f:Nat}{u:U}(h:bn T i f u)(hk:u.k=15):u.un= [aP]:=by rw[bn]at h;exact h.2.1.1 hk
theorem bn.st{T:List U}{i f:Nat}{u:U}(h:bn T i f u)(hk:u.k=5):u.un= []:=by rw[bn]at h;exact h.2.1.2 hk
theorem bn.part{T:List U}{i f:Nat}{u:U}(h:bn T i f u)(j:Nat)(a:j<u.es.length):bn T i (aO u j f) u.es[j]:=by rw[bn]at h;exact h.2.2 j a
theorem tA{T:List U}{i f:Nat}{u:U}(he:u.es= [])(a:u.k≠11)(b:u.k=15→u.un= [aP])(d:u.k=5→u.un= []:=by first|exact fun _=>rfl|exact fun h=>absurd h zo):bn T i f u:=by
 rw[bn];exact⟨fun h=>absurd h a,⟨b,d⟩,fun j c=>by rw[he]at c;simp at c⟩
theorem bn.mono{T:List U}{i b:Nat}(hi:i≤b):∀{u:U}{f:Nat},bn T i f u→bn T b f u:=by
 intro u;induction u using U.bc with
 |_ u ih=>
  intro f h;rw[bn];refine⟨fun hk=> ?_,⟨h.err,h.st⟩,fun j c=>ih _ (U.ar (zm c)) (h.part j c)⟩;have:=h.named hk;split at this
  ·rename_i a;rw[if_pos a];exact this
  ·rename_i a;rw[if_neg a];obtain⟨h1,e,d⟩:=this;exact⟨h1,by omega,d⟩
theorem nI{T:List U}{u:U}(h:u.k≠11):cW T u=u:=by unfold cW;rw[if_neg h]
theorem zJ(u:U):pX u u.un=u:=by cases u;rfl
theorem zK{T:List U}{i f:Nat}{u:U}(h:bn T i f u)(a:f≠0):cW T u=u:=by
 by_cases hk:u.k=11
 ·have:=h.named hk
  rw[if_neg a]at this;obtain⟨h1,_,b⟩:=this;unfold cW;rw[if_pos hk,List.getElem?_eq_getElem h1,Option.toList_some,←b,zJ]
 ·exact nI hk
theorem qg{u v:U}(h:under u=under v):bd u=bd v:=by
 by_cases hk:(under v).k=10
 ·rw[iR hk,iR (by rw[h];exact hk),h]
 ·rw[fA hk,fA (by rw[h];exact hk),h]
theorem lZ{u v:U}(h:under u=under v):an u=an v:=by
 by_cases hk:(under v).k=10
 ·rw[gJ hk,gJ (by rw[h];exact hk),h]
 ·rw[fB hk,fB (by rw[h];exact hk)]
theorem l8{u e:U}(a:u.k=2)(he:u.es= [e]):under u=under e:=by
 have:=jU a he;unfold under;rw[this]
theorem cp{u:U}(b:u.k≠2)(c:u.k≠11)(a:u.k≠14)(d:u.k≠15):under u=u:=by
 rw[iz]<;>rw[bR b a]<;>assumption
theorem qh{u:U}(a:u.k=11)(b:u.un= []):under u=u:=by
 have c:bare u=u:=bR zo zo;unfold under;rw[c,b];simp
theorem nJ{u x:U}(a:u.k=11)(c:u.un= [x]):under u=x:=by
 have b:bare u=u:=bR zo zo;exact jj (by rw[b];exact a) (by rw[b];exact c)
theorem qi{u:U}(a:u.k=15)(c:u.un= [aP]):under u=aP:=by
 have b:bare u=u:=bR zo zo;exact jk (by rw[b];exact a) (by rw[b];exact c)
theorem nK:under aP=aP:=cp zd zd zd zd
theorem zL:aM dA:=by
 have hu:under dA=dA:=cp zd zd zd zd;rw[aM];exact⟨by rw[fA (by rw[hu];decide),hu];rfl,fun e he=>by simp[dA,U.es]at he,fun e he=>by rw[fB (by rw[hu];decide)]at he;cases he⟩
theorem tB:aM (.mk 7 0 0 false errorName ByteArray.empty [dA] []):=by
 have hu:under (.mk 7 0 0 false errorName ByteArray.empty [dA] [])= .mk 7 0 0 false errorName ByteArray.empty [dA] []:=cp zd zd zd zd;rw[aM];refine⟨by rw[fA (by rw[hu];decide),hu];rfl,fun e he=> ?_,fun e he=>by rw[fB (by rw[hu];decide)]at he;cases he⟩;simp only[U.es,List.mem_singleton]at he;subst he;exact zL
theorem tC{m:U}(h:m∈an aP):aM m:=by
 rcases(iS h).2 with h|⟨e,he,_⟩
 ·rw[nK]at h
  simp only[aP,U.es,U.m]at h;have:m= .mk 7 0 0 false errorName ByteArray.empty [dA] []:=by simpa using h
  rw[this];exact tB
 ·rw[nK]at he
  simp[aP,U.es,U.m]at he
theorem Pl.jt{len:Nat}{u:U}{pos f:Nat}(h:Pl len u pos f)(b:u.k≠10)(a:u.k≠12)(j:Nat)(c:j<u.es.length):Pl len u.es[j] 0 (aO u j f):=by
 have:=h.part j c;rwa [show aS u j=0 by unfold aS;rw[if_neg a,if_neg zo]]at this
theorem qj{α:Type}{l:List α}{n:Nat}{e:α}(h:e∈l.drop n):∃i,∃hi:i<l.length,n≤i∧l[i]=e:=by
 obtain⟨i,hi,rfl⟩:=List.getElem_of_mem h;rw[List.length_drop]at hi;exact⟨n+i,by omega,by omega,by rw[List.getElem_drop]⟩
theorem tD{α:Type}{l:List α}{n:Nat}{e:α}(h:e∈l.take n):∃i,∃hi:i<l.length,i<n∧l[i]=e:=by
 obtain⟨i,hi,rfl⟩:=List.getElem_of_mem h;rw[List.length_take]at hi;exact⟨i,by omega,by omega,by rw[List.getElem_take]⟩
theorem l9{len:Nat}{T:List U}{i:Nat}:∀(u:U)(pos f:Nat),bn T i f u→Pl len u pos f→f≤2→u.k≠12→u.k≠13→mt T .type u false=true→bd u=false:=by
 intro u;induction u using U.bc with
 |_ u ih=>
  intro pos f l o s m q hm;by_cases j:u.k=2
  ·obtain⟨e,he⟩:=cL (o.form.fL j)
   have p:0<u.es.length:=by rw[he];simp
   have r:u.es[0]=e:=by simp[he]
   have c:=o.jt zo m 0 p;have h:=l.part 0 p;rw[r]at c h;rw[kS j,he]at hm;have n:mt T .type e false=true:=by simpa using hm
   rw[qg (l8 j he)];exact ih e (U.ar (by rw[he];simp)) _ _ h c fj c.form.aD.1 c.form.aD.2 n
  ·by_cases d:u.k=10
   ·have hu:under u=u:=cp zo zo zo zo
    rw[iR (by rw[hu];exact d),hu,List.any_eq_false];intro e he;rw[iT d]at hm;simp only[Bool.and_eq_true,List.all_eq_true]at hm;have a:=hm.1 e he;by_cases g:e.k=12
    ·rw[lU g]at a;simp at a
    ·rw[j0 g]at a
     simp only[Bool.false_or,Bool.and_eq_true,Bool.not_eq_true',aW,bne_iff_ne,ne_eq]at a;obtain⟨_,⟨⟨_,a2⟩,a3⟩,a4⟩:=a;simp[g,a2,a3,a4]
   ·rw[nB j d]at hm
    simp only[Bool.false_or,Bool.and_eq_true,Bool.not_eq_true']at hm;by_cases b:u.k=11
    ·by_cases f0:f=0
     ·have:=l.named b
      rw[if_pos f0]at this;rw[fA (by rw[qh b this];omega),qh b this];simp[b]
     ·rw[zK l f0]at hm;exact hm.1
    ·rw[nI b]at hm;exact hm.1
theorem j8{len:Nat}{T:List U}{i:Nat}(hT:∀t∈T,lW len t)(N:∀j(h:j<T.length),bn T j 1 T[j])(O:∀j(h:j<T.length),j<i→mt T .type T[j] true=true):
 ∀(u:U)(pos f:Nat)(g:Bool)(y:Nat),y≤i→bn T y f u→Pl len u pos f→f≤2→u.k≠12→u.k≠13→mt T .type u g=true→(∀m∈an u,aM m)∧(bd u=false→aM u):=by
 intro u;induction u using U.bc with
 |_ u ih=>
  intro pos f g y hi w D hf z Y hm;have mk:(∀m∈an u,aM m)→(bd u=false→∀e∈u.es,aM e)→(∀m∈an u,aM m)∧(bd u=false→aM u):=fun h1 x=>⟨h1,fun K=>by rw[aM];exact⟨K,x K,h1⟩⟩
  by_cases x:u.k=2
  ·obtain⟨e,he⟩:=cL (D.form.fL x)
   have W:0<u.es.length:=by rw[he];simp
   have K:u.es[0]=e:=by simp[he]
   have q:=D.jt zo z 0 W;have E:=w.part 0 W;rw[K]at q E;rw[kS x,he]at hm;have P:mt T .type e g=true:=by simpa using hm
   have:=ih e (U.ar (by rw[he];simp)) _ _ g y hi E q fj q.form.aD.1 q.form.aD.2 P;refine mk (by rw[lZ (l8 x he)];exact this.1) fun r e' A=> ?_;rw[he]at A;simp at A;subst A;exact this.2 (by rw[←qg (l8 x he)];exact r)
  ·by_cases p:u.k=10
   ·have hu:under u=u:=cp zo zo zo zo
    rw[iT p]at hm;simp only[Bool.and_eq_true,List.all_eq_true]at hm;obtain⟨Q,⟨F,_⟩,_⟩:=hm;have jn:∀m∈u.es.take u.m.toNat,aM m:=fun m B=>by
     obtain⟨j,o,R,rfl⟩:=tD B;have c:=D.part j o;rw[show aS u j=0 by unfold aS;rw[if_neg z,if_neg zo]]at c;have:=ih _ (U.ar (zm o)) _ _ false y hi (w.part j o) c fj c.form.aD.1 c.form.aD.2 (F _ B);exact this.2 (l9 _ _ _ (w.part j o) c fj c.form.aD.1 c.form.aD.2 (F _ B))
    have elem:∀e∈u.es.drop u.m.toNat,e.k≠12→e.k≠13→(∀m∈an e,aM m)∧(bd e=false→aM e):=fun e he G H=>by
     have l:=Q e he;rw[j0 G]at l;simp only[Bool.and_eq_true]at l;have I:=l.1;rw[gK H]at I;obtain⟨j,o,R,rfl⟩:=qj he;have b:=D.part j o;exact ih _ (U.ar (zm o)) _ _ _ y hi (w.part j o) b fj G H I
    refine mk (fun m a=> ?_) fun r e he=> ?_
    ·rcases(iS a).2 with h|⟨e,he,L,h⟩
     ·rw[hu]at h;exact jn m h
     ·rw[hu]at he
      unfold aW at L;simp only[Bool.and_eq_true,bne_iff_ne,ne_eq]at L;exact(elem e he L.1.1 L.1.2).1 m h
    ·rw[←List.take_append_drop u.m.toNat u.es,List.mem_append]at he
     rcases he with he|he
     ·exact jn e he
     ·rw[iR (by rw[hu];exact p),hu,List.any_eq_false]at r
      have:=r e he;simp only[Bool.or_eq_true,beq_iff_eq,Bool.not_eq_true',not_or,Bool.not_eq_true]at this;exact(elem e he this.1.1.1 this.1.1.2).2 this.2
   ·rw[nB x p]at hm
    simp only[Bool.and_eq_true,List.all_eq_true]at hm;refine mk (fun m a=> ?_) fun _ e he=> ?_
    ·by_cases s:u.k=11
     ·have M:=w.named s
      by_cases f0:f=0
      ·rw[if_pos f0]at M
       rw[fB (by rw[qh s M];omega)]at a;cases a
      ·rw[if_neg f0]at M
       obtain⟨h1,Z,X⟩:=M;have d:=hT _ (zm h1);have S:under T[u.n.toNat]=T[u.n.toNat]:=cp d.kU (by have:=d.hi;omega) (by have:=d.hi;omega) (by have:=d.hi;omega);have V:under u=under T[u.n.toNat]:=by rw[nJ s X,S]
       rw[lZ V]at a;have hs:=U.iN (u:=u) (e:=T[u.n.toNat]) (by rw[X];simp);exact(ih _ hs 0 1 true _ zo (N _ h1) d.pl zo (by have:=d.hi;omega) (by have:=d.hi;omega) (O _ h1 zo)).1 m a
     ·by_cases C:u.k=15
      ·rw[lZ (v:=aP) (by rw[qi C (w.err C),nK])]at a
       exact tC a
      ·by_cases J:u.k=14
       ·have:under u=under bL:=by
         have e1:bare u=bL:=gI J;have e2:bare bL=bL:=bR zd zd;unfold under;rw[e1,e2]
        rw[lZ this]at a;exact sR.cy a
       ·rw[fB (by rw[cp x s J C];exact p)]at a;cases a
    ·obtain⟨j,o,rfl⟩:=List.getElem_of_mem he
     have b:=D.jt p z j o;have l:=hm.2 _ he;exact(ih _ (U.ar he) _ _ false y hi (w.part j o) b fj b.form.aD.1 b.form.aD.2 l).2 (l9 _ _ _ (w.part j o) b fj b.form.aD.1 b.form.aD.2 l)
end TS
namespace Go.Proofs
open Go.Shelf Tryz TS
def Tryz.tF:Go.Shelf.Ren:=⟨fun|6=>66|15=>120|14=>119|28=>175|29=>176|20=>167|21=>168|22=>169|23=>170|24=>171|25=>172|26=>173|27=>174|46=>213|47=>214|48=>215|49=>216|50=>217|57=>239|n=>n,fun|22=>23|24=>25|25=>84|3=>3|39=>161|0=>0|53=>124|55=>260|4=>4|46=>252|45=>251|50=>256|5=>5|9=>9|66=>292|70=>296|76=>314|77=>315|n=>n,fun|n=>n⟩
theorem Tryz.nM:Go.Proofs.SlLaysF0.n6 Tryz.prog Tryz.tF:={
 mixed:=zk,
 f6:=⟨Tryz.f66.name,by decide,func66.trans (congrArg some zk)⟩,
 f14:=⟨Tryz.f119.name,by decide,func119.trans (congrArg some zk)⟩,
 f15:=func120.trans (congrArg some zk),
 f20:=⟨Tryz.f167.name,by decide,func167.trans (congrArg some zk)⟩,
 f21:=⟨Tryz.f168.name,by decide,func168.trans (congrArg some zk)⟩,
 f22:=⟨Tryz.f169.name,by decide,func169.trans (congrArg some zk)⟩,
 f23:=⟨Tryz.f170.name,by decide,func170.trans (congrArg some zk)⟩,
 f24:=⟨Tryz.f171.name,by decide,func171.trans (congrArg some zk)⟩,
 f25:=⟨Tryz.f172.name,by decide,func172.trans (congrArg some zk)⟩,
 f26:=⟨Tryz.f173.name,by decide,func173.trans (congrArg some zk)⟩,
 f27:=⟨Tryz.f174.name,by decide,func174.trans (congrArg some zk)⟩,
 f28:=func175.trans (congrArg some zk),
 f29:=func176.trans (congrArg some zk),
 f46:=⟨Tryz.f213.name,by decide,func213.trans (congrArg some zk)⟩,
 f47:=func214.trans (congrArg some zk),
 f48:=func215.trans (congrArg some zk),
 f49:=⟨Tryz.f216.name,by decide,func216.trans (congrArg some zk)⟩,
 f50:=⟨Tryz.f217.name,by decide,func217.trans (congrArg some zk)⟩,
 f57:=⟨Tryz.f239.name,by decide,func239.trans (congrArg some zk)⟩,
 t0:=underlying0,
 a0:=isAgg0,
 z0:=sizeOf0,
 v0:=zeroValue0,
 t3:=underlying3,
 a3:=isAgg3,
 z3:=sizeOf3,
 v3:=zeroValue3,
 t4:=underlying4,
 a4:=isAgg4,
 z4:=sizeOf4,
 v4:=zeroValue4,
 t5:=underlying5,
 a5:=isAgg5,
 z5:=sizeOf5,
 v5:=zeroValue5,
 t9:=underlying9,
 a9:=isAgg9,
 z9:=sizeOf9,
 v9:=zeroValue9,
 t22:=underlying23,
 a22:=isAgg23,
 z22:=sizeOf23,
 v22:=zeroValue23,
 t25:=underlying84,
 a25:=isAgg84,
 z25:=sizeOf84,
 v25:=zeroValue84,
 t39:=underlying161,
 a39:=isAgg161,
 z39:=sizeOf161,
 v39:=zeroValue161,
 t45:=underlying251,
 a45:=isAgg251,
 z45:=sizeOf251,
 v45:=zeroValue251,
 t46:=underlying252,
 a46:=isAgg252,
 z46:=sizeOf252,
 v46:=zeroValue252,
 t50:=underlying256,
 a50:=isAgg256,
 z50:=sizeOf256,
 v50:=zeroValue256,
 t53:=underlying124,
 a53:=isAgg124,
 z53:=sizeOf124,
 v53:=zeroValue124,
 t55:=underlying260,
 a55:=isAgg260,
 z55:=sizeOf260,
 v55:=zeroValue260,
 t66:=underlying292,
 a66:=isAgg292,
 z66:=sizeOf292,
 v66:=zeroValue292,
 t70:=underlying296,
 a70:=isAgg296,
 z70:=sizeOf296,
 v70:=zeroValue296,
 t76:=underlying314,
 a76:=isAgg314,
 z76:=sizeOf314,
 v76:=zeroValue314,
 t77:=underlying315,
 a77:=isAgg315,
 z77:=sizeOf315,
 v77:=zeroValue315}
def Tryz.tG:Go.Shelf.Ren:=⟨fun|6=>196|15=>120|14=>226|28=>175|29=>176|20=>247|21=>248|22=>249|23=>250|24=>251|25=>252|26=>253|27=>254|46=>258|47=>214|48=>215|49=>259|50=>260|57=>264|n=>n,fun|22=>115|24=>113|25=>275|3=>3|39=>161|0=>0|53=>124|55=>260|4=>4|46=>252|45=>251|50=>256|5=>5|9=>9|66=>292|70=>296|76=>314|77=>315|n=>n,fun|n=>n⟩
theorem Tryz.tH:Go.Proofs.SlLaysF.n6 Tryz.prog Tryz.tG:={
 mixed:=zk,
 f6:=⟨Tryz.f196.name,by decide,func196.trans (congrArg some zk)⟩,
 f14:=⟨Tryz.f226.name,by decide,func226.trans (congrArg some zk)⟩,
 f15:=func120.trans (congrArg some zk),
 f20:=⟨Tryz.f247.name,by decide,func247.trans (congrArg some zk)⟩,
 f21:=⟨Tryz.f248.name,by decide,func248.trans (congrArg some zk)⟩,
 f22:=⟨Tryz.f249.name,by decide,func249.trans (congrArg some zk)⟩,
 f23:=⟨Tryz.f250.name,by decide,func250.trans (congrArg some zk)⟩,
 f24:=⟨Tryz.f251.name,by decide,func251.trans (congrArg some zk)⟩,
 f25:=⟨Tryz.f252.name,by decide,func252.trans (congrArg some zk)⟩,
 f26:=⟨Tryz.f253.name,by decide,func253.trans (congrArg some zk)⟩,
 f27:=⟨Tryz.f254.name,by decide,func254.trans (congrArg some zk)⟩,
 f28:=func175.trans (congrArg some zk),
 f29:=func176.trans (congrArg some zk),
 f46:=⟨Tryz.f258.name,by decide,func258.trans (congrArg some zk)⟩,
 f47:=func214.trans (congrArg some zk),
 f48:=func215.trans (congrArg some zk),
 f49:=⟨Tryz.f259.name,by decide,func259.trans (congrArg some zk)⟩,
 f50:=⟨Tryz.f260.name,by decide,func260.trans (congrArg some zk)⟩,
 f57:=⟨Tryz.f264.name,by decide,func264.trans (congrArg some zk)⟩,
 t0:=underlying0,
 a0:=isAgg0,
 z0:=sizeOf0,
 v0:=zeroValue0,
 t3:=underlying3,
 a3:=isAgg3,
 z3:=sizeOf3,
 v3:=zeroValue3,
 t4:=underlying4,
 a4:=isAgg4,
 z4:=sizeOf4,
 v4:=zeroValue4,
 t5:=underlying5,
 a5:=isAgg5,
 z5:=sizeOf5,
 v5:=zeroValue5,
 t9:=underlying9,
 a9:=isAgg9,
 z9:=sizeOf9,
 v9:=zeroValue9,
 t22:=underlying115,
 a22:=isAgg115,
 z22:=sizeOf115,
 v22:=zeroValue115,
 a24:=isAgg113,
 z24:=sizeOf113,
 t25:=underlying275,
 a25:=isAgg275,
 z25:=sizeOf275,
 v25:=zeroValue275,
 t39:=underlying161,
 a39:=isAgg161,
 z39:=sizeOf161,
 v39:=zeroValue161,
 t45:=underlying251,
 a45:=isAgg251,
 z45:=sizeOf251,
 v45:=zeroValue251,
 t46:=underlying252,
 a46:=isAgg252,
 z46:=sizeOf252,
 v46:=zeroValue252,
 t50:=underlying256,
 a50:=isAgg256,
 z50:=sizeOf256,
 v50:=zeroValue256,
 t53:=underlying124,
 a53:=isAgg124,
 z53:=sizeOf124,
 v53:=zeroValue124,
 t55:=underlying260,
 a55:=isAgg260,
 z55:=sizeOf260,
 v55:=zeroValue260,
 t66:=underlying292,
 a66:=isAgg292,
 z66:=sizeOf292,
 v66:=zeroValue292,
 t70:=underlying296,
 a70:=isAgg296,
 z70:=sizeOf296,
 v70:=zeroValue296,
 t76:=underlying314,
 a76:=isAgg314,
 z76:=sizeOf314,
 v76:=zeroValue314,
 t77:=underlying315,
 a77:=isAgg315,
 z77:=sizeOf315,
 v77:=zeroValue315}
end Go.Proofs
namespace TS
open Go Go.RowKit Go.Proofs.Tryz
def uV(aI:Nat→ByteArray)(i:Nat)(F:Value→Option Value):Prop:=∀s:ByteArray,F (.string s)≠none→∃j,j<i∧aI j=s
end TS
namespace Go.Proofs.YtkochlhejabdcaaGreatDoor
open Go.RowKit TS Go.ChangeMaps Tryz
theorem uW{w:World}{a:Addr}{v:Value}{b:Nat}(h:∃cs T,w.heap[b]?=some (.cells cs T (0,0))):∃cs T,(w.setCell a v).heap[b]?=some (.cells cs T (0,0)):=by
 obtain⟨cs,T,h⟩:=h;by_cases e:b=a.block
 ·subst e
  refine⟨if a.spot.isSome then cs else cs.setIfInBounds a.off v,T,?_⟩;unfold World.setCell;simp only[Array.getElem?_modify,if_pos rfl,h];rfl
 ·exact⟨cs,T,by rw[Below.heap_setCell _ _ _ _ e];exact h⟩
theorem Ca(a a':Option Addr)(n c c':Nat)(f:Nat→Nat)(aI:Nat→ByteArray)(qs:Nat→Option Addr)(w:World)(hn:n≤1099511627776)(hT:bU w)(ha:∀x,a=some x→x.spot=none)(hp:bJ w a n f)
 (h1:∀i,i<n→Xc w (f i) 1 (.pointer (qs i)))(h2:∀i,i<n→Xc w (f i) 2 (.string (aI i)))(hB:∀i,i<n→aR (aI i)=true)(hd:∀i j,i<j→j<n→aI i≠aI j):
 Xk 158 #[.slice a n c,.slice a' n c'] w fun e R=> ∃b a2,e= .returned (Xp b)∧w.heap.size≤b∧Xc R b 0 (.slice a2 n (if a=none then 0 else c))∧(a=none∨a2=a)∧Xc R b 1 (.slice a' n c')∧Below w w R∧∃cs T,R.heap[b]?=some (.cells cs T (0,0)):=by
 have J:=zh hp;have S:=zh h1;have U:=zh h2;have G:=zh hB;have V:=zh hd;have W:=zh hT;have PL:=zh ha;clear hp h1 h2 hB hd hT ha;go_enter func158,ntmps158;go_wp2_with fail
 go_loopw [11] (fun i wr=> ∃(k:Nat)(m:Option Nat)(F:Value→Option Value),k≤n∧i= .int .i64 k∧gQ wr w.heap.size m F∧uV aI k F∧(∀t,m=some t→w.heap.size<t)∧Below w w wr∧w.heap.size<wr.heap.size) (fun i _=>n- (intOf i).toNat)
 case atStart=>
  refine⟨0,none,fun _=>none,Nat.zero_le _,rfl,⟨by simp[go_sem],by simp[go_sem],fun _=>rfl,fun t h=>(by cases h)⟩,fun s h=>absurd rfl h,fun t h=>(by cases h),zB.alloc zl _,by simp⟩
 case round=>
  obtain⟨k,m,F,hk,rfl,hO,hN,hm,K,PM⟩:=hrel;have l:=zh hO;have L:=zh hN;have C:=zh hm;have g:=zh K;clear hO hN hm K;by_cases o:k<n
  ·have PK:(k:Int)<n:=zo
   obtain⟨ab,ao,rfl,H⟩:=J.out k o;have hc:=(g.out.cell (p:=(Xa ab (ao+k))) (zb H)).trans H;have u:=U.out k o;have M:=(g.out.cell (p:=(Xa (f k) 2)) (zb u)).trans u;have y:=S.out k o;have N:=zh ((g.out.cell (p:=(Xa (f k) 1)) (zb y)).trans y);have PN:((aI k).toList== [95])=false:=by
    obtain⟨x,r,hx,O,D⟩:=uF (G.out k o);rw[Lib.toList_data,hx];cases X:(x::r== [95])
    ·rfl
    ·have:=(List.cons.inj (eq_of_beq X)).1
     rw[this]at D;exact absurd D zd
   have P:Hid (bU wr):=fun c O D=>by
    have:=W.out c O D;rw[g.out.cell (p:=(Xa 5 c)) (zb this)];exact this
   clear H u y;have E:∀(I:World)(t:Nat)(Y:Value→Option Value),Y=bH F (.string (aI k)) (Xi 102 (f k))→uV aI (k+1) Y:=fun I t Y e s Z=>by
    rw[e]at Z;by_cases Q:s=aI k
    ·exact⟨k,by omega,Q.symm⟩
    ·rw[bj F (fun h=>Q (by cases h;rfl))]at Z
     obtain⟨j,hj,e⟩:=L.out s Z;exact⟨j,by omega,e⟩
   have z:=zh E;clear E;match m,l,C with
   |none,l,C=>
    go_wp2_with fail
    refine(uU 102 uR w.heap.size (f k) _ (aI k) (G.out k o) F _ P.out l.out N.out M).mono ?_;rintro e I ⟨rfl,t,A,PG,q⟩;have B:=zh A;have d:=zh q;have PH:=q.size;clear A q l;go_wp2_with fail
    go_roundw
    case rel=>
     refine⟨k+1,some t,_,by omega,by go_num,B.out,z.out I t _ rfl,fun b e=> ?_,?_,by omega⟩
     ·cases e;omega
     ·exact g.out.trans ⟨d.out.os,d.out.tape,d.out.output,d.out.size,fun b hb=>d.out.block b zo zo⟩
    case measure=>simp[intOf];omega
   |some t,l,C=>
    have PG:=C.out t rfl;have PI:F (.string (aI k))=none:=by
     cases X:F (.string (aI k))with
     |none=>rfl
     |some v=>
      obtain⟨j,hj,e⟩:=L.out (aI k) (by rw[X];simp);exact absurd e (V.out j k hj o)
    go_wp2_with fail
    refine(uT 102 uR w.heap.size t (f k) _ (aI k) (G.out k o) F _ P.out l.out zo N.out M PI).mono ?_;rintro e I ⟨rfl,A,q⟩;have B:=zh A;have d:=zh q;have PH:=q.size;clear A q l;go_wp2_with fail
    go_roundw
    case rel=>
     refine⟨k+1,some t,_,by omega,by go_num,B.out,z.out I t _ rfl,fun b e=> ?_,?_,by omega⟩
     ·cases e;omega
     ·exact g.out.trans ⟨d.out.os,d.out.tape,d.out.output,d.out.size,fun b hb=>d.out.block b zo zo⟩
    case measure=>simp[intOf];omega
  ·have PO:¬(k:Int)<n:=zo
   go_wp2_with fail
   cases a with
   |none=>
    refine(B_ wr.heap.size n c _ (by simp[go_sem]) (by simp[go_sem])).mono ?_;rintro e I ⟨rfl,rfl⟩;go_wp2_with fail
    go_ret;have PJ:n=0:=by
     rcases Nat.eq_zero_or_pos n with h|h
     ·exact h
     ·obtain⟨_,_,e,_⟩:=J.out 0 h;cases e
    subst PJ;refine⟨wr.heap.size,rfl,zo,⟨.some (Xa (wr+1) 0),(by simp[go_sem])⟩,(by simp[go_sem]),?_,?_⟩
    ·have:=g.out
     (repeat(first|with_reducible exact this|with_reducible refine Below.setCell ?_ ?_ _|with_reducible refine Below.alloc ?_ ?_ _|with_reducible refine Below.drew ?_));all_goals (first|omega|(simp;done)|(simp;omega))
    ·repeat(first|exact qG (by first|omega|(simp only[World.size_alloc];done)|(simp only[World.size_alloc];omega))|refine qH ?_|refine uW ?_)
   |some x=>
    refine(B8 wr.heap.size x n c _ (by simp[go_sem])).mono ?_;rintro e I ⟨rfl,rfl⟩;go_wp2_with fail
    go_ret;refine⟨wr.heap.size,rfl,zo,some x,(by simp[go_sem]),rfl,(by simp[go_sem]),?_,?_⟩
    ·have:=g.out
     (repeat(first|with_reducible exact this|with_reducible refine Below.setCell ?_ ?_ _|with_reducible refine Below.alloc ?_ ?_ _|with_reducible refine Below.drew ?_));all_goals (first|omega|(simp;done)|(simp;omega))
    ·repeat(first|exact qG (by first|omega|(simp only[World.size_alloc];done)|(simp only[World.size_alloc];omega))|refine qH ?_|refine uW ?_)
end Go.Proofs.YtkochlhejabdcaaGreatDoor
namespace Go.Proofs.YtkochlhejabdcaaGreatDoor
open Go.RowKit TS Tryz
def cf(t:TypeId):Prop:=∃a i j,Tryz.prog.underlying t=some (.pointer a)∧Tryz.prog.info? t=some i∧i.comparable=true∧Tryz.prog.info? a=some j∧j.size≠0
theorem eX{t a:TypeId}(h:Tryz.prog.underlying t=some (.pointer a))(h1:(Tryz.prog.info? t).map (·.comparable)=some true)(b:(Tryz.prog.info? a).map (fun j=>j.size !=0)=some true):cf t:=by
 obtain⟨i,hi,c⟩:=Option.map_eq_some_iff.1 h1;obtain⟨j,d,e⟩:=Option.map_eq_some_iff.1 b;exact⟨a,i,j,h,hi,c,d,by simpa using e⟩
theorem Cb:cf 105:=eX underlying105 zk zk
theorem Cc:cf 144:=eX underlying144 zk zk
theorem Cd:cf 146:=eX underlying146 zk zk
theorem Ce:cf 184:=eX underlying184 zk zk
theorem Cf:cf 148:=eX underlying148 zk zk
theorem Cg:cf 108:=eX underlying108 zk zk
theorem Ch:cf 150:=eX underlying150 zk zk
theorem Ci:cf 152:=eX underlying152 zk zk
theorem mH:cf 37:=eX underlying37 zk zk
theorem Cj:cf 60:=eX underlying60 zk zk
theorem uX:cf 202:=eX underlying202 zk zk
theorem ot:cf 109:=eX underlying109 zk zk
theorem Ck:cf 142:=eX underlying142 zk zk
theorem Cl:cf 67:=eX underlying67 zk zk
theorem lq{t:TypeId}(h:cf t)(w:World)(b c:Nat)(a:Plain w b)(d:Plain w c):(binOp .eql t (Xp b) (Xp c)).run Tryz.prog w= .ok (.bool (decide (b=c))) w:=by
 obtain⟨n,i,j,f,hi,k,g,l⟩:=h;by_cases e:b=c
 ·subst e;rw[run_eql_ptr_same w _ f g];simp
 ·obtain⟨cs,T,a⟩:=a
  obtain⟨m,T',d⟩:=d;rw[run_eql_ptr_other w f g l (fun h=>e (by cases h;rfl)) a d];simp[e]
theorem qP{t t':TypeId}(h:cf t)(w:World)(b c:Nat)(f:Plain w b)(g:Plain w c):
 (binOp .eql 49 (Xi t b) (Xi t' c)).run Tryz.prog w= .ok (.bool (decide (t=t'∧b=c))) w:=by
 obtain⟨q,i,j,l,hi,a,m,n⟩:=h;by_cases k:t=t'
 ·subst k
  by_cases e:b=c
  ·subst e;rw[run_eql_iface_ptr_same w _ underlying49 l hi a m];simp
  ·obtain⟨cs,T,f⟩:=f
   obtain⟨o,T',g⟩:=g;rw[run_eql_iface_ptr_other w underlying49 l hi a m n (fun h=>e (by cases h;rfl)) f g];simp[e]
 ·have p:∀d,(Op.equalIn (d+1) 49 (Xi t b) (Xi t' c)).run Tryz.prog w= .ok false w:=fun d=>by simp[Op.equalIn,run_underlying underlying49,k]
  simp only[binOp];simp[Op.equal,Op.maxDepth,p 9999,k]
theorem uY(b n c:Nat)(a:Option Addr)(w:World)(f:Xc w b 0 (.slice a n c)):Xk 127 #[Xp b] w fun e d=>e= .returned (.int .i64 n)∧w=d:=by
 go_enter func127,ntmps127;go_wp2_with fail
 go_ret;exact⟨rfl,rfl⟩
theorem Cm(b n c i:Nat)(a d:Nat)(s:ByteArray)(w:World)(h1:Xc w b 1 (.slice (Xa a d) n c))(hi:i<n)(h:Xc w a (d+i) (.string s)):
 Xk 128 #[Xp b,.int .i64 i] w fun e f=>e= .returned (.string s)∧w=f:=by
 have g:(i:Int)<n:=zo;go_enter func128,ntmps128;go_wp2_with fail
 go_ret;exact⟨rfl,rfl⟩
theorem Cn(b:Nat)(s:ByteArray)(a:aR s=true)(w:World)(hT:bU w)(f:Xc w b 2 (.string s)):Xk 183 #[Xp b] w fun e c=>e= .returned (.bool true)∧w=c:=by
 have d:=zh (nZ s a w hT);clear a hT;go_enter func183,ntmps183;go_wp2_with fail
 refine d.out.mono ?_;rintro e c ⟨rfl,rfl⟩;go_wp2_with fail
 go_ret;exact⟨rfl,rfl⟩
theorem Co(b:Nat)(q:Option Addr)(s t:ByteArray)(a:aR s=true)(w:World)(hT:bU w)(d:Xc w b 2 (.string s)):
 Xk 129 #[Xp b,.pointer q,.string t,.bool false] w fun e c=>e= .returned (.bool (s.toList==t.toList))∧w=c:=by
 have f:=zh (Cn b s a w hT d);clear a hT;cases g:(s.toList==t.toList)
 ·go_enter func129,ntmps129
  go_wp2_with fail
  go_ret;exact⟨rfl,rfl⟩
 ·go_enter func129,ntmps129
  go_wp2_with fail
  refine f.out.mono ?_;rintro e c ⟨rfl,rfl⟩;go_wp2_with fail
  go_ret;exact⟨rfl,rfl⟩
theorem mI(tb n c:Nat)(a:Option Addr)(w:World)(d:Xc w tb 0 (.slice a n c)):Xk 130 #[Xp tb] w fun e b=>e= .returned (.int .i64 n)∧w=b:=by
 go_enter func130,ntmps130;go_wp2_with fail
 go_ret;exact⟨rfl,rfl⟩
theorem uZ(w:World):Xk 130 #[.pointer none] w fun e a=>e= .returned (.int .i64 0)∧w=a:=by
 go_enter func130,ntmps130;go_wp2_with fail
 go_ret;exact⟨rfl,rfl⟩
theorem qQ(b tb:Nat)(q:Option Addr)(pos:Int)(w:World)(c:Xc w b 6 (Xp tb)):
 Xk 94 #[.pointer q,.int .i64 pos,Xp b] w fun e a=>e= .returned (Xp tb)∧w=a:=by
 go_enter func94,ntmps94;go_wp2_with fail
 go_ret;exact⟨rfl,rfl⟩
theorem jD(b tb:Nat)(w:World)(d:Xc w b 0 (.pointer none))(c:Xc w b 6 (Xp tb)):
 Xk 53 #[Xp b] w fun e a=>e= .returned (Xp tb)∧w=a:=by
 go_enter func53,ntmps53;go_wp2_with fail
 refine(qQ b tb none 0 _ c).mono ?_;rintro e a ⟨rfl,rfl⟩;go_wp2_with fail
 go_ret;exact⟨rfl,rfl⟩
end Go.Proofs.YtkochlhejabdcaaGreatDoor
namespace TS
open Go Go.RowKit Go.Proofs.Tryz
theorem Plain.drewN{w:World}{b:Nat}(h:Plain w b)(n:Nat):Plain (w.drewN n) b:=h
end TS
namespace Go.Proofs.YtkochlhejabdcaaGreatDoor
open Go.RowKit TS Tryz
theorem ou(a:Option Addr)(n c:Nat)(f:Nat→Nat)(w:World)(d:bJ w a n f):Xk 218 #[.slice a n c] w fun e j=>e= .returned (.bool (decide (n=0)))∧w=j:=by
 by_cases b:n=0
 ·subst b
  go_enter func218,ntmps218;go_wp2_with fail
  go_loopw [7] (fun i wr=>i= .int .i64 0∧wr=w) (fun _ _=>0)
  case atStart=>exact⟨rfl,rfl⟩
  case round=>
   obtain⟨rfl,rfl⟩:=hrel;go_wp2_with fail
   go_ret;exact⟨rfl,rfl⟩
 ·obtain⟨l,m,rfl,k⟩:=d 0 zo
  simp only[Nat.add_zero]at k;have g:(0:Int)<n:=zo;have h:decide (n=0)=false:=by simp[b]
  rw[h];clear d b h;go_enter func218,ntmps218;go_wp2_with fail
  go_loopw [7] (fun i wr=>i= .int .i64 0∧wr=w) (fun _ _=>0)
  case atStart=>exact⟨rfl,rfl⟩
  case round=>
   obtain⟨rfl,rfl⟩:=hrel;go_wp2_with fail
   go_ret;exact⟨rfl,rfl⟩
theorem qR(a:Option Addr)(n c:Nat)(f:Nat→Nat)(w:World)(b:bJ w a n f)(g:0<n)(h1:Xc w (f 0) 1 .nilIface):Xk 121 #[.slice a n c] w fun e h=>e= .returned (.bool true)∧w=h:=by
 obtain⟨k,l,rfl,j⟩:=b 0 g;simp only[Nat.add_zero]at j;have d:(0:Int)<n:=zo;clear b;go_enter func121,ntmps121;go_wp2_with fail
 go_loopw [7] (fun i wr=>i= .int .i64 0∧wr=w) (fun _ _=>0)
 case atStart=>exact⟨rfl,rfl⟩
 case round=>
  obtain⟨rfl,rfl⟩:=hrel;go_wp2_with fail
  go_ret;exact⟨rfl,rfl⟩
theorem qS(a:Option Addr)(n c:Nat)(f:Nat→Nat)(w:World)(o:n≤1099511627776)(h:bJ w a n f)(h1:∀i,i<n→∃t x,Xc w (f i) 1 (.iface t x)):Xk 121 #[.slice a n c] w fun e l=>e= .returned (.bool false)∧w=l:=by
 have d:=zh h;have g:=zh h1;clear h h1;go_enter func121,ntmps121;go_wp2_with fail
 go_loopw [7] (fun i wr=> ∃k:Nat,k≤n∧i= .int .i64 k∧wr=w) (fun i _=>n- (intOf i).toNat)
 case atStart=>exact⟨0,Nat.zero_le _,rfl,rfl⟩
 case round=>
  obtain⟨k,hk,rfl,rfl⟩:=hrel;by_cases b:k<n
  ·have j:(k:Int)<n:=zo
   obtain⟨p,q,rfl,r⟩:=d.out k b;obtain⟨t,x,s⟩:=g.out k b;go_wp2_with fail
   refine⟨⟨k+1,by omega,by go_num,trivial⟩,?_⟩;first|omega|(simp[intOf];omega)
  ·have m:¬(k:Int)<n:=zo
   go_wp2_with fail
   go_ret;exact⟨rfl,rfl⟩
theorem Cp(x y:Nat)(w:World)(b:Xc w y 1 .nilIface):Xk 245 #[Xp x,Xp y] w fun e a=>e= .returned (.bool true)∧w=a:=by
 go_enter func245,ntmps245;go_wp2_with fail
 go_ret;exact⟨rfl,rfl⟩
theorem Cq(a:Option Addr)(n c x:Nat)(f:Nat→Nat)(w:World)(b:bJ w a n f)(h:0<n)(h1:Xc w (f 0) 1 .nilIface):
 Xk 223 #[.slice a n c,Xp x] w fun e d=>e= .returned (.bool true)∧w=d:=by
 obtain⟨k,l,rfl,j⟩:=b 0 h;simp only[Nat.add_zero]at j;have g:(0:Int)<n:=zo;clear b;go_enter func223,ntmps223;go_wp2_with fail
 go_loopw [9] (fun i wr=>i= .int .i64 0∧wr=w) (fun _ _=>0)
 case atStart=>exact⟨rfl,rfl⟩
 case round=>
  obtain⟨rfl,rfl⟩:=hrel;go_wp2_with fail
  refine(Cp _ _ _ h1).mono ?_;rintro e d ⟨rfl,rfl⟩;go_wp2_with fail
  go_ret;exact⟨rfl,rfl⟩
theorem u_(a a':Option Addr)(n d c c':Nat)(f g:Nat→Nat)(w:World)(u:n≤1099511627776)(m:bJ w a n f)(b:bJ w a' d g)(h:0<d)(h1:Xc w (g 0) 1 .nilIface):
 Xk 185 #[.slice a n c,.slice a' d c'] w fun e j=>e= .returned (.bool true)∧w=j:=by
 have o:=zh (ou a' d c' g w b);have p:decide (d=0)=false:=zp;rw[p]at o;have r:=zh fun x=>Cq a' d c' x g w b h h1;have s:=zh m;clear m b h1 p;go_enter func185,ntmps185;go_wp2_with fail
 refine o.out.mono ?_;rintro e j ⟨rfl,rfl⟩;go_wp2_with fail
 go_loopw [13] (fun i wr=> ∃k:Nat,k≤n∧i= .int .i64 k∧wr=w) (fun i _=>n- (intOf i).toNat)
 case atStart=>exact⟨0,Nat.zero_le _,rfl,rfl⟩
 case round=>
  obtain⟨k,hk,rfl,rfl⟩:=hrel;by_cases l:k<n
  ·have q:(k:Int)<n:=zo
   obtain⟨v,y,rfl,z⟩:=s.out k l;go_wp2_with fail
   refine(r.out _).mono ?_;rintro e j ⟨rfl,rfl⟩;go_wp2_with fail
   refine⟨⟨k+1,by omega,by go_num,trivial⟩,?_⟩;first|omega|(simp[intOf];omega)
  ·have t:¬(k:Int)<n:=zo
   go_wp2_with fail
   go_ret;exact⟨rfl,rfl⟩
theorem Cr(a a':Option Addr)(n d c c':Nat)(f h:Nat→Nat)(w:World)(o:n≤1099511627776)(i:d≤1099511627776)(j:bJ w a n f)(b:bJ w a' d h)(p:0<n)(k:0<d)(h1:Xc w (f 0) 1 .nilIface)(g:Xc w (h 0) 1 .nilIface):
 Xk 132 #[.slice a n c,.slice a' d c'] w fun e l=>e= .returned (.bool true)∧w=l:=by
 have q:=zh (u_ a a' n d c c' f h w o j b k g);have m:=zh (u_ a' a d n c' c h f w i b j p h1);clear j b h1 g;go_enter func132,ntmps132;go_wp2_with fail
 refine q.out.mono ?_;rintro e l ⟨rfl,rfl⟩;go_wp2_with fail
 refine m.out.mono ?_;rintro e l ⟨rfl,rfl⟩;go_wp2_with fail
 go_ret;exact⟨rfl,rfl⟩
theorem Cs(b c ob oc:Nat)(w:World)(h1:Xc w b 1 (Xp ob))(g:Xc w c 1 (Xp oc))(a:Plain w ob)(d:Plain w oc):
 Xk 135 #[Xp b,Xp c] w fun e f=>e= .returned (.bool (decide (ob=oc)))∧∃n,f=w.drewN n:=by
 have he:=fun n=>lq Cl (w.drewN n) ob oc (a.drewN n) (d.drewN n);clear a d;go_enter func135,ntmps135;go_wp2_with fail
 go_quiet (fail)
 go_wp2_with fail
 go_ret;exact⟨rfl,_,rfl⟩
theorem Ct(s q x y b c:Nat)(w:World)(t:Xc w s 0 (Xp x))(h1:Xc w s 1 (Xp y))(u:Xc w q 0 (Xp b))(v:Xc w q 1 (Xp c))
 (h:Plain w x)(l:Plain w y)(j:Plain w b)(k:Plain w c)(m:x≠b)(d:x=c→y≠b):
 Xk 133 #[Xp s,Xp q] w fun e r=>e= .returned (.bool false)∧∃n,r=w.drewN n:=by
 have o:=fun n=>lq mH (w.drewN n) x b (h.drewN n) (j.drewN n);have f:decide (x=b)=false:=by simp[m]
 rw[f]at o;by_cases e:x=c
 ·have g:=fun n=>lq mH (w.drewN n) x c (h.drewN n) (k.drewN n)
  have p:=fun n=>lq mH (w.drewN n) y b (l.drewN n) (j.drewN n);have a:decide (x=c)=true:=by simp[e]
  have i:decide (y=b)=false:=by simp[d e]
  rw[a]at g;rw[i]at p;clear h l j k m d e f a i;go_enter func133,ntmps133;go_wp2_with fail
  go_quiet (fail)
  go_wp2_with fail
  go_ret;exact⟨rfl,_,rfl⟩
 ·have g:=fun n=>lq mH (w.drewN n) x c (h.drewN n) (k.drewN n)
  have a:decide (x=c)=false:=by simp[e]
  rw[a]at g;clear h l j k m d e f a;go_enter func133,ntmps133;go_wp2_with fail
  go_quiet (fail)
  go_wp2_with fail
  go_ret;exact⟨rfl,_,rfl⟩
end Go.Proofs.YtkochlhejabdcaaGreatDoor
namespace TS
open Go Go.RowKit Go.Sort
def aB(w a:World):Prop:=∃(n:Nat)(os:Array Obj),a=grow (w.drewN n) os
theorem aB.refl(w:World):aB w w:=⟨0,#[],by simp[World.drewN]⟩
theorem aB.drewN(w:World)(n:Nat):aB w (w.drewN n):=⟨n,#[],by simp⟩
theorem aB.of(w:World)(n:Nat)(os:Array Obj):aB w (grow (w.drewN n) os):=⟨n,os,rfl⟩
theorem aB.alloc(w:World)(o:Obj):aB w (w.alloc o):=⟨0,#[o],by rw[alloc_eq_grow];rfl⟩
theorem aB.trans{a b c:World}(h:aB a b)(k:aB b c):aB a c:=by
 obtain⟨n,os,rfl⟩:=h;obtain⟨m,d,rfl⟩:=k;exact⟨n+m,os++d,by show grow (grow ((a.drewN n).drewN m) os) d=_;rw[grow_grow,World.drewN_drewN]⟩
theorem aB.block{w a:World}(h:aB w a){b:Nat}(c:b<w.heap.size):a.heap[b]?=w.heap[b]?:=by
 obtain⟨n,os,rfl⟩:=h;exact heap_grow_old (w.drewN n) os c
theorem aB.size{w a:World}(h:aB w a):w.heap.size≤a.heap.size:=by
 obtain⟨n,os,rfl⟩:=h;rw[size_grow];exact Nat.le_add_right _ _
theorem aB.below{w a:World}(h:aB w a):Below w w a:=by
 have b:=h.size;have c:=fun k (hk:k<w.heap.size)=>h.block hk;obtain⟨n,os,rfl⟩:=h;exact⟨rfl,rfl,rfl,b,c⟩
theorem aB.cell{w b:World}(h:aB w b){a:Addr}{v:Value}(c:w.cell? a=some v):b.cell? a=some v:=by
 rw[World.cell?_of_block (w:=w) (h.block (zb c))];exact c
theorem aB.plain{w a:World}(h:aB w a){b:Nat}(d:Plain w b):Plain a b:=by
 obtain⟨cs,T,c⟩:=d;exact⟨cs,T,by rw[h.block (Array.getElem?_eq_some_iff.1 c).1];exact c⟩
theorem aB.kw{w a:World}(h:aB w a){p:Pm}(b:KW p w):KW p a:=b.grown h.below
theorem aB.cap{w a:World}(h:aB w a)(b:bU w):bU a:=fun c h1 d=>h.cell (b c h1 d)
end TS
namespace Go.Proofs.YtkochlhejabdcaaGreatDoor
open Go.RowKit TS Tryz
theorem Cu(c b g t':Nat)(x y st:Value)(w:World)(j:st= .pointer none∨∃s,st=Xp s)(k:t'≠142)(d:t'≠105)(h1:Xc w c 1 (.bool false))
 (h:Xk 125 #[x] w fun e a=>e= .returned (Xi 105 b)∧w=a)(i:Xk 125 #[y] w fun e a=>e= .returned (Xi t' g)∧w=a)
 (he:(binOp .eql 49 (Xi 105 b) (Xi t' g)).run Tryz.prog w= .ok (.bool false) w):
 Xk 75 #[Xp c,x,y,st] w fun e a=>e= .returned (.bool false)∧w=a:=by
 have f:=bk bG b;have l:=ak bG t' g d;clear d k;go_enter func75,ntmps75;go_wp2_with fail
 refine h.mono ?_;rintro e a ⟨rfl,rfl⟩;go_wp2_with fail
 refine i.mono ?_;rintro e a ⟨rfl,rfl⟩;go_wp2_with fail
 go_ret;exact⟨rfl,rfl⟩
theorem Cv(c b h t':Nat)(x y st:Value)(w:World)(k:st= .pointer none∨∃s,st=Xp s)(l:t'≠142)(d:t'≠144)(h1:Xc w c 1 (.bool false))
 (i:Xk 125 #[x] w fun e a=>e= .returned (Xi 144 b)∧w=a)(j:Xk 125 #[y] w fun e a=>e= .returned (Xi t' h)∧w=a)
 (he:(binOp .eql 49 (Xi 144 b) (Xi t' h)).run Tryz.prog w= .ok (.bool false) w):
 Xk 75 #[Xp c,x,y,st] w fun e a=>e= .returned (.bool false)∧w=a:=by
 have f:=ak bG 144 b zd;have g:=bk cT b;have m:=ak cT t' h d;clear d l;go_enter func75,ntmps75;go_wp2_with fail
 refine i.mono ?_;rintro e a ⟨rfl,rfl⟩;go_wp2_with fail
 refine j.mono ?_;rintro e a ⟨rfl,rfl⟩;go_wp2_with fail
 go_ret;exact⟨rfl,rfl⟩
theorem Cw(c b i t':Nat)(x y st:Value)(w:World)(l:st= .pointer none∨∃s,st=Xp s)(m:t'≠142)(d:t'≠146)(h1:Xc w c 1 (.bool false))
 (j:Xk 125 #[x] w fun e a=>e= .returned (Xi 146 b)∧w=a)(k:Xk 125 #[y] w fun e a=>e= .returned (Xi t' i)∧w=a)
 (he:(binOp .eql 49 (Xi 146 b) (Xi t' i)).run Tryz.prog w= .ok (.bool false) w):
 Xk 75 #[Xp c,x,y,st] w fun e a=>e= .returned (.bool false)∧w=a:=by
 have f:=ak bG 146 b zd;have g:=ak cT 146 b zd;have h:=bk asSlice b;have n:=ak asSlice t' i d;clear d m;go_enter func75,ntmps75;go_wp2_with fail
 refine j.mono ?_;rintro e a ⟨rfl,rfl⟩;go_wp2_with fail
 refine k.mono ?_;rintro e a ⟨rfl,rfl⟩;go_wp2_with fail
 go_ret;exact⟨rfl,rfl⟩
theorem Cy(c b j t':Nat)(x y st:Value)(w:World)(m:st= .pointer none∨∃s,st=Xp s)(n:t'≠142)(f:t'≠184)(h1:Xc w c 1 (.bool false))
 (k:Xk 125 #[x] w fun e a=>e= .returned (Xi 184 b)∧w=a)(l:Xk 125 #[y] w fun e a=>e= .returned (Xi t' j)∧w=a)
 (he:(binOp .eql 49 (Xi 184 b) (Xi t' j)).run Tryz.prog w= .ok (.bool false) w):
 Xk 75 #[Xp c,x,y,st] w fun e a=>e= .returned (.bool false)∧w=a:=by
 have g:=ak bG 184 b zd;have h:=ak cT 184 b zd;have i:=ak asSlice 184 b zd;have d:=bk di b;have o:=ak di t' j f;clear f n;go_enter func75,ntmps75;go_wp2_with fail
 refine k.mono ?_;rintro e a ⟨rfl,rfl⟩;go_wp2_with fail
 refine l.mono ?_;rintro e a ⟨rfl,rfl⟩;go_wp2_with fail
 go_ret;exact⟨rfl,rfl⟩
theorem Cz(c b k t':Nat)(x y st:Value)(w:World)(n:st= .pointer none∨∃s,st=Xp s)(o:t'≠142)(g:t'≠148)(h1:Xc w c 1 (.bool false))
 (l:Xk 125 #[x] w fun e a=>e= .returned (Xi 148 b)∧w=a)(m:Xk 125 #[y] w fun e a=>e= .returned (Xi t' k)∧w=a)
 (he:(binOp .eql 49 (Xi 148 b) (Xi t' k)).run Tryz.prog w= .ok (.bool false) w):
 Xk 75 #[Xp c,x,y,st] w fun e a=>e= .returned (.bool false)∧w=a:=by
 have h:=ak bG 148 b zd;have i:=ak cT 148 b zd;have j:=ak asSlice 148 b zd;have f:=ak di 148 b zd;have d:=bk cU b;have p:=ak cU t' k g;clear g o;go_enter func75,ntmps75;go_wp2_with fail
 refine l.mono ?_;rintro e a ⟨rfl,rfl⟩;go_wp2_with fail
 refine m.mono ?_;rintro e a ⟨rfl,rfl⟩;go_wp2_with fail
 go_ret;exact⟨rfl,rfl⟩
theorem CA(c b m t':Nat)(x y st:Value)(w:World)(p:st= .pointer none∨∃s,st=Xp s)(q:t'≠142)(h:t'≠108)(h1:Xc w c 1 (.bool false))
 (n:Xk 125 #[x] w fun e d=>e= .returned (Xi 108 b)∧w=d)(o:Xk 125 #[y] w fun e d=>e= .returned (Xi t' m)∧w=d)
 (he:(binOp .eql 49 (Xi 108 b) (Xi t' m)).run Tryz.prog w= .ok (.bool false) w):
 Xk 75 #[Xp c,x,y,st] w fun e d=>e= .returned (.bool false)∧w=d:=by
 have i:=ak bG 108 b zd;have j:=ak cT 108 b zd;have k:=ak asSlice 108 b zd;have g:=ak di 108 b zd;have f:=ak cU 108 b zd;have l:=ak asTuple 108 b zd;have a:=bk gP b;have r:=ak gP t' m h;clear h q;go_enter func75,ntmps75;go_wp2_with fail
 refine n.mono ?_;rintro e d ⟨rfl,rfl⟩;go_wp2_with fail
 refine o.mono ?_;rintro e d ⟨rfl,rfl⟩;go_wp2_with fail
 go_ret;exact⟨rfl,rfl⟩
theorem CB(c b o t':Nat)(x y st:Value)(w:World)(r:st= .pointer none∨∃s,st=Xp s)(t:t'≠142)(i:t'≠37)(h1:Xc w c 1 (.bool false))
 (p:Xk 125 #[x] w fun e f=>e= .returned (Xi 37 b)∧w=f)(q:Xk 125 #[y] w fun e f=>e= .returned (Xi t' o)∧w=f)
 (he:(binOp .eql 49 (Xi 37 b) (Xi t' o)).run Tryz.prog w= .ok (.bool false) w):
 Xk 75 #[Xp c,x,y,st] w fun e f=>e= .returned (.bool false)∧w=f:=by
 have j:=ak bG 37 b zd;have k:=ak cT 37 b zd;have l:=ak asSlice 37 b zd;have h:=ak di 37 b zd;have g:=ak cU 37 b zd;have m:=ak asTuple 37 b zd;have a:=ak gP 37 b zd;have n:=ak iF 37 b zd;have d:=bk ei b;have u:=ak ei t' o i;clear i t;go_enter func75,ntmps75;go_wp2_with fail
 refine p.mono ?_;rintro e f ⟨rfl,rfl⟩;go_wp2_with fail
 refine q.mono ?_;rintro e f ⟨rfl,rfl⟩;go_wp2_with fail
 go_ret;exact⟨rfl,rfl⟩
theorem CC(c b o t':Nat)(x y st:Value)(w:World)(t:st= .pointer none∨∃s,st=Xp s)(u:t'≠142)(i:t'≠150)(h1:Xc w c 1 (.bool false))
 (p:Xk 125 #[x] w fun e f=>e= .returned (Xi 150 b)∧w=f)(q:Xk 125 #[y] w fun e f=>e= .returned (Xi t' o)∧w=f)
 (he:(binOp .eql 49 (Xi 150 b) (Xi t' o)).run Tryz.prog w= .ok (.bool false) w):
 Xk 75 #[Xp c,x,y,st] w fun e f=>e= .returned (.bool false)∧w=f:=by
 have j:=ak bG 150 b zd;have k:=ak cT 150 b zd;have l:=ak asSlice 150 b zd;have h:=ak di 150 b zd;have g:=ak cU 150 b zd;have m:=ak asTuple 150 b zd;have a:=ak gP 150 b zd;have n:=ak iF 150 b zd;have d:=ak ei 150 b zd;have r:=bk jx b;have v:=ak jx t' o i;clear i u;go_enter func75,ntmps75;go_wp2_with fail
 refine p.mono ?_;rintro e f ⟨rfl,rfl⟩;go_wp2_with fail
 refine q.mono ?_;rintro e f ⟨rfl,rfl⟩;go_wp2_with fail
 go_ret;exact⟨rfl,rfl⟩
theorem CD(c b p t':Nat)(x y st:Value)(w:World)(u:st= .pointer none∨∃s,st=Xp s)(v:t'≠142)(i:t'≠152)(h1:Xc w c 1 (.bool false))
 (q:Xk 125 #[x] w fun e f=>e= .returned (Xi 152 b)∧w=f)(r:Xk 125 #[y] w fun e f=>e= .returned (Xi t' p)∧w=f)
 (he:(binOp .eql 49 (Xi 152 b) (Xi t' p)).run Tryz.prog w= .ok (.bool false) w):
 Xk 75 #[Xp c,x,y,st] w fun e f=>e= .returned (.bool false)∧w=f:=by
 have j:=ak bG 152 b zd;have k:=ak cT 152 b zd;have l:=ak asSlice 152 b zd;have h:=ak di 152 b zd;have g:=ak cU 152 b zd;have m:=ak asTuple 152 b zd;have a:=ak gP 152 b zd;have n:=ak iF 152 b zd;have d:=ak ei 152 b zd;have t:=ak jx 152 b zd;have o:=bk eB b;have z:=ak eB t' p i;clear i v;go_enter func75,ntmps75;go_wp2_with fail
 refine q.mono ?_;rintro e f ⟨rfl,rfl⟩;go_wp2_with fail
 refine r.mono ?_;rintro e f ⟨rfl,rfl⟩;go_wp2_with fail
 go_ret;exact⟨rfl,rfl⟩
theorem qT(c b q t':Nat)(x y st:Value)(w:World)(z:st= .pointer none∨∃s,st=Xp s)(v:t'≠142)(i:t'≠60)(h1:Xc w c 1 (.bool false))
 (r:Xk 125 #[x] w fun e f=>e= .returned (Xi 60 b)∧w=f)(t:Xk 125 #[y] w fun e f=>e= .returned (Xi t' q)∧w=f)
 (he:(binOp .eql 49 (Xi 60 b) (Xi t' q)).run Tryz.prog w= .ok (.bool false) w):
 Xk 75 #[Xp c,x,y,st] w fun e f=>e= .returned (.bool false)∧w=f:=by
 have j:=ak bG 60 b zd;have k:=ak cT 60 b zd;have l:=ak asSlice 60 b zd;have h:=ak di 60 b zd;have g:=ak cU 60 b zd;have m:=ak asTuple 60 b zd;have a:=ak gP 60 b zd;have n:=ak iF 60 b zd;have d:=ak ei 60 b zd;have u:=ak jx 60 b zd;have p:=ak eB 60 b zd;have o:=bk asNamed b;have A:=zh (qE t' (Xa q 0) v i w);clear i v;go_enter func75,ntmps75;go_wp2_with fail
 refine r.mono ?_;rintro e f ⟨rfl,rfl⟩;go_wp2_with fail
 refine t.mono ?_;rintro e f ⟨rfl,rfl⟩;go_wp2_with fail
 refine A.out.mono ?_;rintro e f ⟨rfl,rfl⟩;go_wp2_with fail
 go_ret;exact⟨rfl,rfl⟩
end Go.Proofs.YtkochlhejabdcaaGreatDoor
