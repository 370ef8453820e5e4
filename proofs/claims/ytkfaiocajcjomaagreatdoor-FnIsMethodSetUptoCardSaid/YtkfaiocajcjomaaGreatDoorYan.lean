import Derived.Ground.SlsfProg
import Derived.Shelf.Lay
import Derived.Shelf.SlSortCmp.NoneTotal
import Derived.Shelf.SlSortCmp.QuietGrown
import Derived.Test.YtkfaiocajcjomaaGreatDoorYal
set_option maxRecDepth 100000
set_option maxHeartbeats 8000000
set_option linter.all false
namespace TS
open Go Go.RowKit
def bh(T:List U)(i f:Nat)(u:U):Prop:=
 (u.k=11→if f=0 then u.un= []else ∃h:u.n.toNat<T.length,u.n.toNat<i∧u.un= [T[u.n.toNat]])∧(u.k=15→u.un= [aG])∧∀j(h:j<u.es.length),bh T i (aJ u j f) u.es[j]
termination_by u.sz
decreasing_by exact U.az (List.getElem_mem h)
theorem bh.named{T:List U}{i f:Nat}{u:U}(h:bh T i f u)(hk:u.k=11):if f=0 then u.un= []else ∃h:u.n.toNat<T.length,u.n.toNat<i∧u.un= [T[u.n.toNat]]:=by rw[bh]at h;exact h.1 hk
theorem bh.err{T:List U}{i f:Nat}{u:U}(h:bh T i f u)(hk:u.k=15):u.un= [aG]:=by rw[bh]at h;exact h.2.1 hk
theorem bh.part{T:List U}{i f:Nat}{u:U}(h:bh T i f u)(j:Nat)(a:j<u.es.length):bh T i (aJ u j f) u.es[j]:=by rw[bh]at h;exact h.2.2 j a
theorem qP{T:List U}{i f:Nat}{u:U}(he:u.es= [])(a:u.k≠11)(b:u.k=15→u.un= [aG]):bh T i f u:=by
 rw[bh];exact⟨fun h=>absurd h a,b,fun j c=>by rw[he]at c;simp at c⟩
theorem bh.mono{T:List U}{i b:Nat}(hi:i≤b):∀{u:U}{f:Nat},bh T i f u→bh T b f u:=by
 intro u;induction u using U.bg with
 |_ u ih=>
  intro f h;rw[bh];refine⟨fun hk=> ?_,h.err,fun j c=>ih _ (U.az (List.getElem_mem c)) (h.part j c)⟩;have:=h.named hk;split at this
  ·rename_i a;rw[if_pos a];exact this
  ·rename_i a;rw[if_neg a];obtain⟨h1,h2,h3⟩:=this;exact⟨h1,by omega,h3⟩
theorem nS{T:List U}{u:U}(h:u.k≠11):cR T u=u:=by unfold cR;rw[if_neg h]
theorem vW(u:U):nN u u.un=u:=by cases u;rfl
theorem vX{T:List U}{i f:Nat}{u:U}(h:bh T i f u)(a:f≠0):cR T u=u:=by
 by_cases hk:u.k=11
 ·have:=h.named hk
  rw[if_neg a]at this;obtain⟨h1,_,h3⟩:=this;unfold cR;rw[if_pos hk,List.getElem?_eq_getElem h1,Option.toList_some,←h3,vW]
 ·exact nS hk
theorem lR{u v:U}(h:under u=under v):aU u=aU v:=by
 by_cases hk:(under v).k=10
 ·rw[gP hk,gP (by rw[h];exact hk),h]
 ·rw[eH hk,eH (by rw[h];exact hk),h]
theorem lS{u v:U}(h:under u=under v):an u=an v:=by
 by_cases hk:(under v).k=10
 ·rw[iX hk,iX (by rw[h];exact hk),h]
 ·rw[fK hk,fK (by rw[h];exact hk)]
theorem lT{u e:U}(h2:u.k=2)(he:u.es= [e]):under u=under e:=by
 have:=iW h2 he;unfold under;rw[this]
theorem cr{u:U}(h2:u.k≠2)(b:u.k≠11)(a:u.k≠14)(c:u.k≠15):under u=u:=by
 rw[gx]<;>rw[cd h2 a]<;>assumption
theorem nT{u:U}(a:u.k=11)(b:u.un= []):under u=u:=by
 have c:bare u=u:=cd (by omega) (by omega);unfold under;rw[c,b];simp
theorem qQ{u x:U}(a:u.k=11)(c:u.un= [x]):under u=x:=by
 have b:bare u=u:=cd (by omega) (by omega);exact ik (by rw[b];exact a) (by rw[b];exact c)
theorem qR{u:U}(a:u.k=15)(c:u.un= [aG]):under u=aG:=by
 have b:bare u=u:=cd (by omega) (by omega);exact im (by rw[b];exact a) (by rw[b];exact c)
theorem lU:under aG=aG:=cr (by decide) (by decide) (by decide) (by decide)
theorem vY:aP cT:=by
 have hu:under cT=cT:=cr (by decide) (by decide) (by decide) (by decide);rw[aP];exact⟨by rw[eH (by rw[hu];decide),hu];rfl,fun e he=>by simp[cT,U.es]at he,fun e he=>by rw[fK (by rw[hu];decide)]at he;cases he⟩
theorem qS:aP (.mk 7 0 0 false errorName ByteArray.empty [cT] []):=by
 have hu:under (.mk 7 0 0 false errorName ByteArray.empty [cT] [])= .mk 7 0 0 false errorName ByteArray.empty [cT] []:=cr (by decide) (by decide) (by decide) (by decide);rw[aP];refine⟨by rw[eH (by rw[hu];decide),hu];rfl,fun e he=> ?_,fun e he=>by rw[fK (by rw[hu];decide)]at he;cases he⟩;simp only[U.es,List.mem_singleton]at he;subst he;exact vY
theorem qT{m:U}(h:m∈an aG):aP m:=by
 rcases(gQ h).2 with h|⟨e,he,_⟩
 ·rw[lU]at h
  simp only[aG,U.es,U.m]at h;have:m= .mk 7 0 0 false errorName ByteArray.empty [cT] []:=by simpa using h
  rw[this];exact qS
 ·rw[lU]at he
  simp[aG,U.es,U.m]at he
theorem Pl.iu{len:Nat}{u:U}{pos f:Nat}(h:Pl len u pos f)(b:u.k≠10)(a:u.k≠12)(j:Nat)(c:j<u.es.length):Pl len u.es[j] 0 (aJ u j f):=by
 have:=h.part j c;rwa [show aS u j=0 by unfold aS;rw[if_neg a,if_neg (by omega)]]at this
theorem nU{α:Type}{l:List α}{n:Nat}{e:α}(h:e∈l.drop n):∃i,∃hi:i<l.length,n≤i∧l[i]=e:=by
 obtain⟨i,hi,rfl⟩:=List.getElem_of_mem h;rw[List.length_drop]at hi;exact⟨n+i,by omega,by omega,by rw[List.getElem_drop]⟩
theorem qU{α:Type}{l:List α}{n:Nat}{e:α}(h:e∈l.take n):∃i,∃hi:i<l.length,i<n∧l[i]=e:=by
 obtain⟨i,hi,rfl⟩:=List.getElem_of_mem h;rw[List.length_take]at hi;exact⟨i,by omega,by omega,by rw[List.getElem_take]⟩
theorem kz{len:Nat}{T:List U}{i:Nat}:∀(u:U)(pos f:Nat),bh T i f u→Pl len u pos f→f≤2→u.k≠12→u.k≠13→mt T .type u false=true→aU u=false:=by
 intro u;induction u using U.bg with
 |_ u ih=>
  intro pos f j n r l p hm;by_cases h2:u.k=2
  ·obtain⟨e,he⟩:=cU (n.form.eW h2)
   have o:0<u.es.length:=by rw[he];simp
   have q:u.es[0]=e:=by simp[he]
   have c:=n.iu (by omega) l 0 o;have h:=j.part 0 o;rw[q]at c h;rw[ks h2,he]at hm;have m:mt T .type e false=true:=by simpa using hm
   rw[lR (lT h2 he)];exact ih e (U.az (by rw[he];simp)) _ _ h c eG c.form.aB.1 c.form.aB.2 m
  ·by_cases d:u.k=10
   ·have hu:under u=u:=cr (by omega) (by omega) (by omega) (by omega)
    rw[gP (by rw[hu];exact d),hu,List.any_eq_false];intro e he;rw[i_ d]at hm;simp only[Bool.and_eq_true,List.all_eq_true]at hm;have a:=hm.1 e he;by_cases g:e.k=12
    ·rw[lM g]at a;simp at a
    ·rw[iZ g]at a
     simp only[Bool.false_or,Bool.and_eq_true,Bool.not_eq_true',aW,bne_iff_ne,ne_eq]at a;obtain⟨_,⟨⟨_,a2⟩,a3⟩,a4⟩:=a;simp[g,a2,a3,a4]
   ·rw[lN h2 d]at hm
    simp only[Bool.false_or,Bool.and_eq_true,Bool.not_eq_true']at hm;by_cases b:u.k=11
    ·by_cases f0:f=0
     ·have:=j.named b
      rw[if_pos f0]at this;rw[eH (by rw[nT b this];omega),nT b this];simp[b]
     ·rw[vX j f0]at hm;exact hm.1
    ·rw[nS b]at hm;exact hm.1
theorem jP{len:Nat}{T:List U}{i:Nat}(hT:∀t∈T,ku len t)(M:∀j(h:j<T.length),bh T j 1 T[j])(N:∀j(h:j<T.length),j<i→mt T .type T[j] true=true):
 ∀(u:U)(pos f:Nat)(g:Bool)(x:Nat),x≤i→bh T x f u→Pl len u pos f→f≤2→u.k≠12→u.k≠13→mt T .type u g=true→(∀m∈an u,aP m)∧(aU u=false→aP u):=by
 intro u;induction u using U.bg with
 |_ u ih=>
  intro pos f g x hi w C hf y W hm;have mk:(∀m∈an u,aP m)→(aU u=false→∀e∈u.es,aP e)→(∀m∈an u,aP m)∧(aU u=false→aP u):=fun h1 h2=>⟨h1,fun J=>by rw[aP];exact⟨J,h2 J,h1⟩⟩
  by_cases h2:u.k=2
  ·obtain⟨e,he⟩:=cU (C.form.eW h2)
   have V:0<u.es.length:=by rw[he];simp
   have J:u.es[0]=e:=by simp[he]
   have q:=C.iu (by omega) y 0 V;have D:=w.part 0 V;rw[J]at q D;rw[ks h2,he]at hm;have O:mt T .type e g=true:=by simpa using hm
   have:=ih e (U.az (by rw[he];simp)) _ _ g x hi D q eG q.form.aB.1 q.form.aB.2 O;refine mk (by rw[lS (lT h2 he)];exact this.1) fun r e' z=> ?_;rw[he]at z;simp at z;subst z;exact this.2 (by rw[←lR (lT h2 he)];exact r)
  ·by_cases p:u.k=10
   ·have hu:under u=u:=cr (by omega) (by omega) (by omega) (by omega)
    rw[i_ p]at hm;simp only[Bool.and_eq_true,List.all_eq_true]at hm;obtain⟨P,⟨E,_⟩,_⟩:=hm;have iv:∀m∈u.es.take u.m.toNat,aP m:=fun m A=>by
     obtain⟨j,o,Q,rfl⟩:=qU A;have c:=C.part j o;rw[show aS u j=0 by unfold aS;rw[if_neg y,if_neg (by omega)]]at c;have:=ih _ (U.az (List.getElem_mem o)) _ _ false x hi (w.part j o) c eG c.form.aB.1 c.form.aB.2 (E _ A);exact this.2 (kz _ _ _ (w.part j o) c eG c.form.aB.1 c.form.aB.2 (E _ A))
    have elem:∀e∈u.es.drop u.m.toNat,e.k≠12→e.k≠13→(∀m∈an e,aP m)∧(aU e=false→aP e):=fun e he F G=>by
     have l:=P e he;rw[iZ F]at l;simp only[Bool.and_eq_true]at l;have H:=l.1;rw[gR G]at H;obtain⟨j,o,Q,rfl⟩:=nU he;have b:=C.part j o;exact ih _ (U.az (List.getElem_mem o)) _ _ _ x hi (w.part j o) b eG F G H
    refine mk (fun m a=> ?_) fun r e he=> ?_
    ·rcases(gQ a).2 with h|⟨e,he,K,h⟩
     ·rw[hu]at h;exact iv m h
     ·rw[hu]at he
      unfold aW at K;simp only[Bool.and_eq_true,bne_iff_ne,ne_eq]at K;exact(elem e he K.1.1 K.1.2).1 m h
    ·rw[←List.take_append_drop u.m.toNat u.es,List.mem_append]at he
     rcases he with he|he
     ·exact iv e he
     ·rw[gP (by rw[hu];exact p),hu,List.any_eq_false]at r
      have:=r e he;simp only[Bool.or_eq_true,beq_iff_eq,Bool.not_eq_true',not_or,Bool.not_eq_true]at this;exact(elem e he this.1.1.1 this.1.1.2).2 this.2
   ·rw[lN h2 p]at hm
    simp only[Bool.and_eq_true,List.all_eq_true]at hm;refine mk (fun m a=> ?_) fun _ e he=> ?_
    ·by_cases s:u.k=11
     ·have L:=w.named s
      by_cases f0:f=0
      ·rw[if_pos f0]at L
       rw[fK (by rw[nT s L];omega)]at a;cases a
      ·rw[if_neg f0]at L
       obtain⟨h1,X,h3⟩:=L;have d:=hT _ (List.getElem_mem h1);have R:under T[u.n.toNat]=T[u.n.toNat]:=cr d.jM (by have:=d.hi;omega) (by have:=d.hi;omega) (by have:=d.hi;omega);have S:under u=under T[u.n.toNat]:=by rw[qQ s h3,R]
       rw[lS S]at a;have Y:=U.iU (u:=u) (e:=T[u.n.toNat]) (by rw[h3];simp);exact(ih _ Y 0 1 true _ (by omega) (M _ h1) d.pl (by omega) (by have:=d.hi;omega) (by have:=d.hi;omega) (N _ h1 (by omega))).1 m a
     ·by_cases B:u.k=15
      ·rw[lS (v:=aG) (by rw[qR B (w.err B),lU])]at a
       exact qT a
      ·by_cases I:u.k=14
       ·have:under u=under bw:=by
         have Z:bare u=bw:=gq I;have e2:bare bw=bw:=cd (by decide) (by decide);unfold under;rw[Z,e2]
        rw[lS this]at a;exact qE.cf a
       ·rw[fK (by rw[cr h2 s I B];exact p)]at a;cases a
    ·obtain⟨j,o,rfl⟩:=List.getElem_of_mem he
     have b:=C.iu p y j o;have l:=hm.2 _ he;exact(ih _ (U.az he) _ _ false x hi (w.part j o) b eG b.form.aB.1 b.form.aB.2 l).2 (kz _ _ _ (w.part j o) b eG b.form.aB.1 b.form.aB.2 l)
end TS
namespace Go.Proofs
open Go.Shelf
def Tryz.rC:Go.Shelf.Ren:=⟨fun|6=>167|15=>175|14=>191|28=>209|29=>210|20=>218|21=>219|22=>220|23=>221|24=>222|25=>223|26=>224|27=>225|46=>239|47=>230|48=>231|49=>240|50=>241|57=>253|n=>n,fun|22=>23|24=>25|25=>251|3=>3|39=>259|0=>0|53=>110|55=>303|4=>4|46=>295|45=>294|50=>299|5=>5|9=>9|66=>321|70=>325|76=>340|77=>341|n=>n,fun|n=>n⟩
theorem Tryz.mg:Go.Proofs.SlLaysF0.n6 Tryz.prog Tryz.rC:={
 mixed:=by kernel_rfl,
 f6:=⟨Tryz.f167.name,by decide,Tryz.func167.trans (congrArg some (by kernel_rfl))⟩,
 f14:=⟨Tryz.f191.name,by decide,Tryz.func191.trans (congrArg some (by kernel_rfl))⟩,
 f15:=Tryz.func175.trans (congrArg some (by kernel_rfl)),
 f20:=⟨Tryz.f218.name,by decide,Tryz.func218.trans (congrArg some (by kernel_rfl))⟩,
 f21:=⟨Tryz.f219.name,by decide,Tryz.func219.trans (congrArg some (by kernel_rfl))⟩,
 f22:=⟨Tryz.f220.name,by decide,Tryz.func220.trans (congrArg some (by kernel_rfl))⟩,
 f23:=⟨Tryz.f221.name,by decide,Tryz.func221.trans (congrArg some (by kernel_rfl))⟩,
 f24:=⟨Tryz.f222.name,by decide,Tryz.func222.trans (congrArg some (by kernel_rfl))⟩,
 f25:=⟨Tryz.f223.name,by decide,Tryz.func223.trans (congrArg some (by kernel_rfl))⟩,
 f26:=⟨Tryz.f224.name,by decide,Tryz.func224.trans (congrArg some (by kernel_rfl))⟩,
 f27:=⟨Tryz.f225.name,by decide,Tryz.func225.trans (congrArg some (by kernel_rfl))⟩,
 f28:=Tryz.func209.trans (congrArg some (by kernel_rfl)),
 f29:=Tryz.func210.trans (congrArg some (by kernel_rfl)),
 f46:=⟨Tryz.f239.name,by decide,Tryz.func239.trans (congrArg some (by kernel_rfl))⟩,
 f47:=Tryz.func230.trans (congrArg some (by kernel_rfl)),
 f48:=Tryz.func231.trans (congrArg some (by kernel_rfl)),
 f49:=⟨Tryz.f240.name,by decide,Tryz.func240.trans (congrArg some (by kernel_rfl))⟩,
 f50:=⟨Tryz.f241.name,by decide,Tryz.func241.trans (congrArg some (by kernel_rfl))⟩,
 f57:=⟨Tryz.f253.name,by decide,Tryz.func253.trans (congrArg some (by kernel_rfl))⟩,
 t0:=Tryz.underlying0,
 a0:=Tryz.isAgg0,
 z0:=Tryz.sizeOf0,
 v0:=Tryz.zeroValue0,
 t3:=Tryz.underlying3,
 a3:=Tryz.isAgg3,
 z3:=Tryz.sizeOf3,
 v3:=Tryz.zeroValue3,
 t4:=Tryz.underlying4,
 a4:=Tryz.isAgg4,
 z4:=Tryz.sizeOf4,
 v4:=Tryz.zeroValue4,
 t5:=Tryz.underlying5,
 a5:=Tryz.isAgg5,
 z5:=Tryz.sizeOf5,
 v5:=Tryz.zeroValue5,
 t9:=Tryz.underlying9,
 a9:=Tryz.isAgg9,
 z9:=Tryz.sizeOf9,
 v9:=Tryz.zeroValue9,
 t22:=Tryz.underlying23,
 a22:=Tryz.isAgg23,
 z22:=Tryz.sizeOf23,
 v22:=Tryz.zeroValue23,
 t25:=Tryz.underlying251,
 a25:=Tryz.isAgg251,
 z25:=Tryz.sizeOf251,
 v25:=Tryz.zeroValue251,
 t39:=Tryz.underlying259,
 a39:=Tryz.isAgg259,
 z39:=Tryz.sizeOf259,
 v39:=Tryz.zeroValue259,
 t45:=Tryz.underlying294,
 a45:=Tryz.isAgg294,
 z45:=Tryz.sizeOf294,
 v45:=Tryz.zeroValue294,
 t46:=Tryz.underlying295,
 a46:=Tryz.isAgg295,
 z46:=Tryz.sizeOf295,
 v46:=Tryz.zeroValue295,
 t50:=Tryz.underlying299,
 a50:=Tryz.isAgg299,
 z50:=Tryz.sizeOf299,
 v50:=Tryz.zeroValue299,
 t53:=Tryz.underlying110,
 a53:=Tryz.isAgg110,
 z53:=Tryz.sizeOf110,
 v53:=Tryz.zeroValue110,
 t55:=Tryz.underlying303,
 a55:=Tryz.isAgg303,
 z55:=Tryz.sizeOf303,
 v55:=Tryz.zeroValue303,
 t66:=Tryz.underlying321,
 a66:=Tryz.isAgg321,
 z66:=Tryz.sizeOf321,
 v66:=Tryz.zeroValue321,
 t70:=Tryz.underlying325,
 a70:=Tryz.isAgg325,
 z70:=Tryz.sizeOf325,
 v70:=Tryz.zeroValue325,
 t76:=Tryz.underlying340,
 a76:=Tryz.isAgg340,
 z76:=Tryz.sizeOf340,
 v76:=Tryz.zeroValue340,
 t77:=Tryz.underlying341,
 a77:=Tryz.isAgg341,
 z77:=Tryz.sizeOf341,
 v77:=Tryz.zeroValue341}
def Tryz.rD:Go.Shelf.Ren:=⟨fun|6=>143|15=>175|14=>174|28=>209|29=>210|20=>201|21=>202|22=>203|23=>204|24=>205|25=>206|26=>207|27=>208|46=>229|47=>230|48=>231|49=>232|50=>233|57=>243|n=>n,fun|22=>101|24=>99|25=>227|3=>3|39=>259|0=>0|53=>110|55=>303|4=>4|46=>295|45=>294|50=>299|5=>5|9=>9|66=>321|70=>325|76=>340|77=>341|n=>n,fun|n=>n⟩
theorem Tryz.rE:Go.Proofs.SlLaysF.n6 Tryz.prog Tryz.rD:={
 mixed:=by kernel_rfl,
 f6:=⟨Tryz.f143.name,by decide,Tryz.func143.trans (congrArg some (by kernel_rfl))⟩,
 f14:=⟨Tryz.f174.name,by decide,Tryz.func174.trans (congrArg some (by kernel_rfl))⟩,
 f15:=Tryz.func175.trans (congrArg some (by kernel_rfl)),
 f20:=⟨Tryz.f201.name,by decide,Tryz.func201.trans (congrArg some (by kernel_rfl))⟩,
 f21:=⟨Tryz.f202.name,by decide,Tryz.func202.trans (congrArg some (by kernel_rfl))⟩,
 f22:=⟨Tryz.f203.name,by decide,Tryz.func203.trans (congrArg some (by kernel_rfl))⟩,
 f23:=⟨Tryz.f204.name,by decide,Tryz.func204.trans (congrArg some (by kernel_rfl))⟩,
 f24:=⟨Tryz.f205.name,by decide,Tryz.func205.trans (congrArg some (by kernel_rfl))⟩,
 f25:=⟨Tryz.f206.name,by decide,Tryz.func206.trans (congrArg some (by kernel_rfl))⟩,
 f26:=⟨Tryz.f207.name,by decide,Tryz.func207.trans (congrArg some (by kernel_rfl))⟩,
 f27:=⟨Tryz.f208.name,by decide,Tryz.func208.trans (congrArg some (by kernel_rfl))⟩,
 f28:=Tryz.func209.trans (congrArg some (by kernel_rfl)),
 f29:=Tryz.func210.trans (congrArg some (by kernel_rfl)),
 f46:=⟨Tryz.f229.name,by decide,Tryz.func229.trans (congrArg some (by kernel_rfl))⟩,
 f47:=Tryz.func230.trans (congrArg some (by kernel_rfl)),
 f48:=Tryz.func231.trans (congrArg some (by kernel_rfl)),
 f49:=⟨Tryz.f232.name,by decide,Tryz.func232.trans (congrArg some (by kernel_rfl))⟩,
 f50:=⟨Tryz.f233.name,by decide,Tryz.func233.trans (congrArg some (by kernel_rfl))⟩,
 f57:=⟨Tryz.f243.name,by decide,Tryz.func243.trans (congrArg some (by kernel_rfl))⟩,
 t0:=Tryz.underlying0,
 a0:=Tryz.isAgg0,
 z0:=Tryz.sizeOf0,
 v0:=Tryz.zeroValue0,
 t3:=Tryz.underlying3,
 a3:=Tryz.isAgg3,
 z3:=Tryz.sizeOf3,
 v3:=Tryz.zeroValue3,
 t4:=Tryz.underlying4,
 a4:=Tryz.isAgg4,
 z4:=Tryz.sizeOf4,
 v4:=Tryz.zeroValue4,
 t5:=Tryz.underlying5,
 a5:=Tryz.isAgg5,
 z5:=Tryz.sizeOf5,
 v5:=Tryz.zeroValue5,
 t9:=Tryz.underlying9,
 a9:=Tryz.isAgg9,
 z9:=Tryz.sizeOf9,
 v9:=Tryz.zeroValue9,
 t22:=Tryz.underlying101,
 a22:=Tryz.isAgg101,
 z22:=Tryz.sizeOf101,
 v22:=Tryz.zeroValue101,
 a24:=Tryz.isAgg99,
 z24:=Tryz.sizeOf99,
 t25:=Tryz.underlying227,
 a25:=Tryz.isAgg227,
 z25:=Tryz.sizeOf227,
 v25:=Tryz.zeroValue227,
 t39:=Tryz.underlying259,
 a39:=Tryz.isAgg259,
 z39:=Tryz.sizeOf259,
 v39:=Tryz.zeroValue259,
 t45:=Tryz.underlying294,
 a45:=Tryz.isAgg294,
 z45:=Tryz.sizeOf294,
 v45:=Tryz.zeroValue294,
 t46:=Tryz.underlying295,
 a46:=Tryz.isAgg295,
 z46:=Tryz.sizeOf295,
 v46:=Tryz.zeroValue295,
 t50:=Tryz.underlying299,
 a50:=Tryz.isAgg299,
 z50:=Tryz.sizeOf299,
 v50:=Tryz.zeroValue299,
 t53:=Tryz.underlying110,
 a53:=Tryz.isAgg110,
 z53:=Tryz.sizeOf110,
 v53:=Tryz.zeroValue110,
 t55:=Tryz.underlying303,
 a55:=Tryz.isAgg303,
 z55:=Tryz.sizeOf303,
 v55:=Tryz.zeroValue303,
 t66:=Tryz.underlying321,
 a66:=Tryz.isAgg321,
 z66:=Tryz.sizeOf321,
 v66:=Tryz.zeroValue321,
 t70:=Tryz.underlying325,
 a70:=Tryz.isAgg325,
 z70:=Tryz.sizeOf325,
 v70:=Tryz.zeroValue325,
 t76:=Tryz.underlying340,
 a76:=Tryz.isAgg340,
 z76:=Tryz.sizeOf340,
 v76:=Tryz.zeroValue340,
 t77:=Tryz.underlying341,
 a77:=Tryz.isAgg341,
 z77:=Tryz.sizeOf341,
 v77:=Tryz.zeroValue341}
end Go.Proofs
namespace TS
open Go Go.RowKit
def sF(aC:Nat→ByteArray)(i:Nat)(F:Value→Option Value):Prop:=∀s:ByteArray,F (.string s)≠none→∃j,j<i∧aC j=s
end TS
namespace Go.Proofs.YtkfaiocajcjomaaGreatDoor
open Go.RowKit TS Go.ChangeMaps
theorem sH{w:World}{a:Addr}{v:Value}{b:Nat}(h:∃cs T,w.heap[b]?=some (.cells cs T (0,0))):∃cs T,(w.setCell a v).heap[b]?=some (.cells cs T (0,0)):=by
 obtain⟨cs,T,h⟩:=h;by_cases e:b=a.block
 ·subst e
  refine⟨if a.spot.isSome then cs else cs.setIfInBounds a.off v,T,?_⟩;unfold World.setCell;simp only[Array.getElem?_modify,if_pos rfl,h];rfl
 ·exact⟨cs,T,by rw[Below.heap_setCell _ _ _ _ e];exact h⟩
theorem Ab(a a':Option Addr)(n c c':Nat)(f:Nat→Nat)(aC:Nat→ByteArray)(qs:Nat→Option Addr)(w:World)(hn:n≤1099511627776)(hT:bu w)(ha:∀x,a=some x→x.spot=none)(hp:bA w a n f)
 (h1:∀i,i<n→w.cell? ⟨f i,1,none⟩=some (.pointer (qs i)))(h2:∀i,i<n→w.cell? ⟨f i,2,none⟩=some (.string (aC i)))(hB:∀i,i<n→aO (aC i)=true)(hd:∀i j,i<j→j<n→aC i≠aC j):
 Calls Tryz.prog 117 #[.slice a n c,.slice a' n c'] w fun e R=> ∃b a2,e= .returned (.pointer (some ⟨b,0,none⟩))∧w.heap.size≤b∧R.cell? ⟨b,0,none⟩=some (.slice a2 n (if a=none then 0 else c))∧(a=none∨a2=a)∧R.cell? ⟨b,1,none⟩=some (.slice a' n c')∧Below w.heap.size w R∧∃cs T,R.heap[b]?=some (.cells cs T (0,0)):=by
 have J:=Lib.hid hp;have S:=Lib.hid h1;have U:=Lib.hid h2;have G:=Lib.hid hB;have V:=Lib.hid hd;have W:=Lib.hid hT;have P8:=Lib.hid ha;clear hp h1 h2 hB hd hT ha;go_enter Tryz.func117,Tryz.ntmps117;go_wp2_with fail
 go_loopw [11] (fun i wr=> ∃(k:Nat)(m:Option Nat)(F:Value→Option Value),k≤n∧i= .int .i64 k∧fQ wr w.heap.size m F∧sF aC k F∧(∀t,m=some t→w.heap.size<t)∧Below w.heap.size w wr∧w.heap.size<wr.heap.size) (fun i _=>n- (intOf i).toNat)
 case atStart=>
  refine⟨0,none,fun _=>none,Nat.zero_le _,rfl,⟨by simp[go_sem],by simp[go_sem],fun _=>rfl,fun t h=>(by cases h)⟩,fun s h=>absurd rfl h,fun t h=>(by cases h),(Below.refl _ _).alloc (Nat.le_refl _) _,by simp⟩
 case round=>
  obtain⟨k,m,F,hk,rfl,hO,hN,hm,K,P9⟩:=hrel;have l:=Lib.hid hO;have L:=Lib.hid hN;have C:=Lib.hid hm;have g:=Lib.hid K;clear hO hN hm K;by_cases o:k<n
  ·have P7:(k:Int)<n:=by omega
   obtain⟨ab,ao,rfl,H⟩:=J.out k o;have hc:=(g.out.cell (p:=⟨ab,ao+k,none⟩) (World.block_lt_of_cell? _ _ H)).trans H;have u:=U.out k o;have M:=(g.out.cell (p:=⟨f k,2,none⟩) (World.block_lt_of_cell? _ _ u)).trans u;have y:=S.out k o;have N:=Lib.hid ((g.out.cell (p:=⟨f k,1,none⟩) (World.block_lt_of_cell? _ _ y)).trans y);have P_:((aC k).toList== [95])=false:=by
    obtain⟨x,r,hx,O,D⟩:=sq (G.out k o);rw[Lib.toList_data,hx];cases X:(x::r== [95])
    ·rfl
    ·have:=(List.cons.inj (eq_of_beq X)).1
     rw[this]at D;exact absurd D (by decide)
   have P:Hid (bu wr):=fun c O D=>by
    have:=W.out c O D;rw[g.out.cell (p:=⟨5,c,none⟩) (World.block_lt_of_cell? _ _ this)];exact this
   clear H u y;have E:∀(I:World)(t:Nat)(Y:Value→Option Value),Y=bt F (.string (aC k)) (.iface 88 (.pointer (some ⟨f k,0,none⟩)))→sF aC (k+1) Y:=fun I t Y e s Z=>by
    rw[e]at Z;by_cases Q:s=aC k
    ·exact⟨k,by omega,Q.symm⟩
    ·rw[a_ F (fun h=>Q (by cases h;rfl))]at Z
     obtain⟨j,hj,e⟩:=L.out s Z;exact⟨j,by omega,e⟩
   have z:=Lib.hid E;clear E;match m,l,C with
   |none,l,C=>
    go_wp2_with fail
    refine(sE 88 sB w.heap.size (f k) _ (aC k) (G.out k o) F _ P.out l.out N.out M).mono ?_;rintro e I ⟨rfl,t,A,P3,q⟩;have B:=Lib.hid A;have d:=Lib.hid q;have P4:=q.size;clear A q l;go_wp2_with fail
    go_roundw
    case rel=>
     refine⟨k+1,some t,_,by omega,by go_num,B.out,z.out I t _ rfl,fun b e=> ?_,?_,by omega⟩
     ·cases e;omega
     ·exact g.out.trans ⟨d.out.os,d.out.tape,d.out.output,d.out.size,fun b hb=>d.out.block b (by omega) (by omega)⟩
    case measure=>simp[intOf];omega
   |some t,l,C=>
    have P3:=C.out t rfl;have P5:F (.string (aC k))=none:=by
     cases X:F (.string (aC k))with
     |none=>rfl
     |some v=>
      obtain⟨j,hj,e⟩:=L.out (aC k) (by rw[X];simp);exact absurd e (V.out j k hj o)
    go_wp2_with fail
    refine(sD 88 sB w.heap.size t (f k) _ (aC k) (G.out k o) F _ P.out l.out (by omega) N.out M P5).mono ?_;rintro e I ⟨rfl,A,q⟩;have B:=Lib.hid A;have d:=Lib.hid q;have P4:=q.size;clear A q l;go_wp2_with fail
    go_roundw
    case rel=>
     refine⟨k+1,some t,_,by omega,by go_num,B.out,z.out I t _ rfl,fun b e=> ?_,?_,by omega⟩
     ·cases e;omega
     ·exact g.out.trans ⟨d.out.os,d.out.tape,d.out.output,d.out.size,fun b hb=>d.out.block b (by omega) (by omega)⟩
    case measure=>simp[intOf];omega
  ·have Qa:¬(k:Int)<n:=by omega
   go_wp2_with fail
   cases a with
   |none=>
    refine(Aa wr.heap.size n c _ (by simp[go_sem]) (by simp[go_sem])).mono ?_;rintro e I ⟨rfl,rfl⟩;go_wp2_with fail
    go_ret;have P6:n=0:=by
     rcases Nat.eq_zero_or_pos n with h|h
     ·exact h
     ·obtain⟨_,_,e,_⟩:=J.out 0 h;cases e
    subst P6;refine⟨wr.heap.size,rfl,(by omega),⟨some ⟨wr.heap.size+1,0,none⟩,(by simp[go_sem])⟩,(by simp[go_sem]),?_,?_⟩
    ·have:=g.out
     (repeat(first|with_reducible exact this|with_reducible refine Below.setCell ?_ ?_ _|with_reducible refine Below.alloc ?_ ?_ _|with_reducible refine Below.drew ?_));all_goals (first|omega|(simp;done)|(simp;omega))
    ·repeat(first|exact oQ (by first|omega|(simp only[World.size_alloc];done)|(simp only[World.size_alloc];omega))|refine oT ?_|refine sH ?_)
   |some x=>
    refine(z8 wr.heap.size x n c _ (by simp[go_sem])).mono ?_;rintro e I ⟨rfl,rfl⟩;go_wp2_with fail
    go_ret;refine⟨wr.heap.size,rfl,(by omega),some x,(by simp[go_sem]),rfl,(by simp[go_sem]),?_,?_⟩
    ·have:=g.out
     (repeat(first|with_reducible exact this|with_reducible refine Below.setCell ?_ ?_ _|with_reducible refine Below.alloc ?_ ?_ _|with_reducible refine Below.drew ?_));all_goals (first|omega|(simp;done)|(simp;omega))
    ·repeat(first|exact oQ (by first|omega|(simp only[World.size_alloc];done)|(simp only[World.size_alloc];omega))|refine oT ?_|refine sH ?_)
end Go.Proofs.YtkfaiocajcjomaaGreatDoor
namespace Go.Proofs.YtkfaiocajcjomaaGreatDoor
open Go.RowKit TS
def bP(t:TypeId):Prop:=∃a i j,Tryz.prog.underlying t=some (.pointer a)∧Tryz.prog.info? t=some i∧i.comparable=true∧Tryz.prog.info? a=some j∧j.size≠0
theorem ej{t a:TypeId}(h:Tryz.prog.underlying t=some (.pointer a))(h1:(Tryz.prog.info? t).map (·.comparable)=some true)(h2:(Tryz.prog.info? a).map (fun j=>j.size !=0)=some true):bP t:=by
 obtain⟨i,hi,b⟩:=Option.map_eq_some_iff.1 h1;obtain⟨j,c,d⟩:=Option.map_eq_some_iff.1 h2;exact⟨a,i,j,h,hi,b,c,by simpa using d⟩
theorem Ac:bP 91:=ej Tryz.underlying91 (by kernel_rfl) (by kernel_rfl)
theorem Ad:bP 130:=ej Tryz.underlying130 (by kernel_rfl) (by kernel_rfl)
theorem Ae:bP 132:=ej Tryz.underlying132 (by kernel_rfl) (by kernel_rfl)
theorem Af:bP 150:=ej Tryz.underlying150 (by kernel_rfl) (by kernel_rfl)
theorem Ag:bP 134:=ej Tryz.underlying134 (by kernel_rfl) (by kernel_rfl)
theorem Ah:bP 94:=ej Tryz.underlying94 (by kernel_rfl) (by kernel_rfl)
theorem Ai:bP 136:=ej Tryz.underlying136 (by kernel_rfl) (by kernel_rfl)
theorem Aj:bP 138:=ej Tryz.underlying138 (by kernel_rfl) (by kernel_rfl)
theorem kZ:bP 32:=ej Tryz.underlying32 (by kernel_rfl) (by kernel_rfl)
theorem Ak:bP 56:=ej Tryz.underlying56 (by kernel_rfl) (by kernel_rfl)
theorem sI:bP 177:=ej Tryz.underlying177 (by kernel_rfl) (by kernel_rfl)
theorem mL:bP 95:=ej Tryz.underlying95 (by kernel_rfl) (by kernel_rfl)
theorem Al:bP 128:=ej Tryz.underlying128 (by kernel_rfl) (by kernel_rfl)
theorem Am:bP 63:=ej Tryz.underlying63 (by kernel_rfl) (by kernel_rfl)
theorem jZ{t:TypeId}(h:bP t)(w:World)(b c:Nat)(a:Plain w b)(d:Plain w c):(binOp .eql t (.pointer (some ⟨b,0,none⟩)) (.pointer (some ⟨c,0,none⟩))).run Tryz.prog w= .ok (.bool (decide (b=c))) w:=by
 obtain⟨n,i,j,f,hi,k,g,l⟩:=h;by_cases e:b=c
 ·subst e;rw[run_eql_ptr_same w _ f g];simp
 ·obtain⟨cs,T,a⟩:=a
  obtain⟨m,T',d⟩:=d;rw[run_eql_ptr_other w f g l (fun h=>e (by cases h;rfl)) a d];simp[e]
theorem oY{t t':TypeId}(h:bP t)(w:World)(b c:Nat)(f:Plain w b)(g:Plain w c):
 (binOp .eql 39 (.iface t (.pointer (some ⟨b,0,none⟩))) (.iface t' (.pointer (some ⟨c,0,none⟩)))).run Tryz.prog w= .ok (.bool (decide (t=t'∧b=c))) w:=by
 obtain⟨q,i,j,l,hi,a,m,n⟩:=h;by_cases k:t=t'
 ·subst k
  by_cases e:b=c
  ·subst e;rw[run_eql_iface_ptr_same w _ Tryz.underlying39 l hi a m];simp
  ·obtain⟨cs,T,f⟩:=f
   obtain⟨o,T',g⟩:=g;rw[run_eql_iface_ptr_other w Tryz.underlying39 l hi a m n (fun h=>e (by cases h;rfl)) f g];simp[e]
 ·have p:∀d,(Op.equalIn (d+1) 39 (.iface t (.pointer (some ⟨b,0,none⟩))) (.iface t' (.pointer (some ⟨c,0,none⟩)))).run Tryz.prog w= .ok false w:=fun d=>by simp[Op.equalIn,run_underlying Tryz.underlying39,k]
  simp only[binOp];simp[Op.equal,Op.maxDepth,p 9999,k]
theorem sJ(b n c:Nat)(a:Option Addr)(w:World)(f:w.cell? ⟨b,0,none⟩=some (.slice a n c)):Calls Tryz.prog 192 #[.pointer (some ⟨b,0,none⟩)] w fun e d=>e= .returned (.int .i64 n)∧w=d:=by
 go_enter Tryz.func192,Tryz.ntmps192;go_wp2_with fail
 go_ret;exact⟨rfl,rfl⟩
theorem An(b n c i:Nat)(a d:Nat)(s:ByteArray)(w:World)(h1:w.cell? ⟨b,1,none⟩=some (.slice (some ⟨a,d,none⟩) n c))(hi:i<n)(h:w.cell? ⟨a,d+i,none⟩=some (.string s)):
 Calls Tryz.prog 193 #[.pointer (some ⟨b,0,none⟩),.int .i64 i] w fun e f=>e= .returned (.string s)∧w=f:=by
 have g:(i:Int)<n:=by omega
 go_enter Tryz.func193,Tryz.ntmps193;go_wp2_with fail
 go_ret;exact⟨rfl,rfl⟩
theorem Ao(b:Nat)(s:ByteArray)(a:aO s=true)(w:World)(hT:bu w)(h2:w.cell? ⟨b,2,none⟩=some (.string s)):Calls Tryz.prog 226 #[.pointer (some ⟨b,0,none⟩)] w fun e c=>e= .returned (.bool true)∧w=c:=by
 have d:=Lib.hid (mJ s a w hT);clear a hT;go_enter Tryz.func226,Tryz.ntmps226;go_wp2_with fail
 refine d.out.mono ?_;rintro e c ⟨rfl,rfl⟩;go_wp2_with fail
 go_ret;exact⟨rfl,rfl⟩
theorem Ap(b:Nat)(q:Option Addr)(s t:ByteArray)(a:aO s=true)(w:World)(hT:bu w)(h2:w.cell? ⟨b,2,none⟩=some (.string s)):
 Calls Tryz.prog 194 #[.pointer (some ⟨b,0,none⟩),.pointer q,.string t,.bool false] w fun e c=>e= .returned (.bool (s.toList==t.toList))∧w=c:=by
 have d:=Lib.hid (Ao b s a w hT h2);clear a hT;cases f:(s.toList==t.toList)
 ·go_enter Tryz.func194,Tryz.ntmps194
  go_wp2_with fail
  go_ret;exact⟨rfl,rfl⟩
 ·go_enter Tryz.func194,Tryz.ntmps194
  go_wp2_with fail
  refine d.out.mono ?_;rintro e c ⟨rfl,rfl⟩;go_wp2_with fail
  go_ret;exact⟨rfl,rfl⟩
theorem k9(tb n c:Nat)(a:Option Addr)(w:World)(d:w.cell? ⟨tb,0,none⟩=some (.slice a n c)):Calls Tryz.prog 155 #[.pointer (some ⟨tb,0,none⟩)] w fun e b=>e= .returned (.int .i64 n)∧w=b:=by
 go_enter Tryz.func155,Tryz.ntmps155;go_wp2_with fail
 go_ret;exact⟨rfl,rfl⟩
theorem sK(w:World):Calls Tryz.prog 155 #[.pointer none] w fun e a=>e= .returned (.int .i64 0)∧w=a:=by
 go_enter Tryz.func155,Tryz.ntmps155;go_wp2_with fail
 go_ret;exact⟨rfl,rfl⟩
theorem oZ(b tb:Nat)(q:Option Addr)(pos:Int)(w:World)(c:w.cell? ⟨b,6,none⟩=some (.pointer (some ⟨tb,0,none⟩))):
 Calls Tryz.prog 69 #[.pointer q,.int .i64 pos,.pointer (some ⟨b,0,none⟩)] w fun e a=>e= .returned (.pointer (some ⟨tb,0,none⟩))∧w=a:=by
 go_enter Tryz.func69,Tryz.ntmps69;go_wp2_with fail
 go_ret;exact⟨rfl,rfl⟩
theorem iD(b tb:Nat)(w:World)(d:w.cell? ⟨b,0,none⟩=some (.pointer none))(c:w.cell? ⟨b,6,none⟩=some (.pointer (some ⟨tb,0,none⟩))):
 Calls Tryz.prog 47 #[.pointer (some ⟨b,0,none⟩)] w fun e a=>e= .returned (.pointer (some ⟨tb,0,none⟩))∧w=a:=by
 go_enter Tryz.func47,Tryz.ntmps47;go_wp2_with fail
 refine(oZ b tb none 0 _ c).mono ?_;rintro e a ⟨rfl,rfl⟩;go_wp2_with fail
 go_ret;exact⟨rfl,rfl⟩
end Go.Proofs.YtkfaiocajcjomaaGreatDoor
namespace TS
open Go Go.RowKit
theorem Plain.drewN{w:World}{b:Nat}(h:Plain w b)(n:Nat):Plain (w.drewN n) b:=h
end TS
namespace Go.Proofs.YtkfaiocajcjomaaGreatDoor
open Go.RowKit TS
theorem mM(a:Option Addr)(n c:Nat)(f:Nat→Nat)(w:World)(d:bA w a n f):Calls Tryz.prog 128 #[.slice a n c] w fun e j=>e= .returned (.bool (decide (n=0)))∧w=j:=by
 by_cases b:n=0
 ·subst b
  go_enter Tryz.func128,Tryz.ntmps128;go_wp2_with fail
  go_loopw [7] (fun i wr=>i= .int .i64 0∧wr=w) (fun _ _=>0)
  case atStart=>exact⟨rfl,rfl⟩
  case round=>
   obtain⟨rfl,rfl⟩:=hrel;go_wp2_with fail
   go_ret;exact⟨rfl,rfl⟩
 ·obtain⟨l,m,rfl,k⟩:=d 0 (by omega)
  simp only[Nat.add_zero]at k;have g:(0:Int)<n:=by omega
  have h:decide (n=0)=false:=by simp[b]
  rw[h];clear d b h;go_enter Tryz.func128,Tryz.ntmps128;go_wp2_with fail
  go_loopw [7] (fun i wr=>i= .int .i64 0∧wr=w) (fun _ _=>0)
  case atStart=>exact⟨rfl,rfl⟩
  case round=>
   obtain⟨rfl,rfl⟩:=hrel;go_wp2_with fail
   go_ret;exact⟨rfl,rfl⟩
theorem o4(a:Option Addr)(n c:Nat)(f:Nat→Nat)(w:World)(b:bA w a n f)(g:0<n)(h1:w.cell? ⟨f 0,1,none⟩=some .nilIface):Calls Tryz.prog 89 #[.slice a n c] w fun e h=>e= .returned (.bool true)∧w=h:=by
 obtain⟨k,l,rfl,j⟩:=b 0 g;simp only[Nat.add_zero]at j;have d:(0:Int)<n:=by omega
 clear b;go_enter Tryz.func89,Tryz.ntmps89;go_wp2_with fail
 go_loopw [7] (fun i wr=>i= .int .i64 0∧wr=w) (fun _ _=>0)
 case atStart=>exact⟨rfl,rfl⟩
 case round=>
  obtain⟨rfl,rfl⟩:=hrel;go_wp2_with fail
  go_ret;exact⟨rfl,rfl⟩
theorem o5(a:Option Addr)(n c:Nat)(f:Nat→Nat)(w:World)(o:n≤1099511627776)(h:bA w a n f)(h1:∀i,i<n→∃t x,w.cell? ⟨f i,1,none⟩=some (.iface t x)):Calls Tryz.prog 89 #[.slice a n c] w fun e l=>e= .returned (.bool false)∧w=l:=by
 have d:=Lib.hid h;have g:=Lib.hid h1;clear h h1;go_enter Tryz.func89,Tryz.ntmps89;go_wp2_with fail
 go_loopw [7] (fun i wr=> ∃k:Nat,k≤n∧i= .int .i64 k∧wr=w) (fun i _=>n- (intOf i).toNat)
 case atStart=>exact⟨0,Nat.zero_le _,rfl,rfl⟩
 case round=>
  obtain⟨k,hk,rfl,rfl⟩:=hrel;by_cases b:k<n
  ·have j:(k:Int)<n:=by omega
   obtain⟨p,q,rfl,r⟩:=d.out k b;obtain⟨t,x,s⟩:=g.out k b;go_wp2_with fail
   refine⟨⟨k+1,by omega,by go_num,trivial⟩,?_⟩;first|omega|(simp[intOf];omega)
  ·have m:¬(k:Int)<n:=by omega
   go_wp2_with fail
   go_ret;exact⟨rfl,rfl⟩
theorem Aq(x y:Nat)(w:World)(b:w.cell? ⟨y,1,none⟩=some .nilIface):Calls Tryz.prog 254 #[.pointer (some ⟨x,0,none⟩),.pointer (some ⟨y,0,none⟩)] w fun e a=>e= .returned (.bool true)∧w=a:=by
 go_enter Tryz.func254,Tryz.ntmps254;go_wp2_with fail
 go_ret;exact⟨rfl,rfl⟩
theorem Ar(a:Option Addr)(n c x:Nat)(f:Nat→Nat)(w:World)(b:bA w a n f)(h:0<n)(h1:w.cell? ⟨f 0,1,none⟩=some .nilIface):
 Calls Tryz.prog 242 #[.slice a n c,.pointer (some ⟨x,0,none⟩)] w fun e d=>e= .returned (.bool true)∧w=d:=by
 obtain⟨k,l,rfl,j⟩:=b 0 h;simp only[Nat.add_zero]at j;have g:(0:Int)<n:=by omega
 clear b;go_enter Tryz.func242,Tryz.ntmps242;go_wp2_with fail
 go_loopw [9] (fun i wr=>i= .int .i64 0∧wr=w) (fun _ _=>0)
 case atStart=>exact⟨rfl,rfl⟩
 case round=>
  obtain⟨rfl,rfl⟩:=hrel;go_wp2_with fail
  refine(Aq _ _ _ h1).mono ?_;rintro e d ⟨rfl,rfl⟩;go_wp2_with fail
  go_ret;exact⟨rfl,rfl⟩
theorem sL(a a':Option Addr)(n d c c':Nat)(f g:Nat→Nat)(w:World)(u:n≤1099511627776)(m:bA w a n f)(b:bA w a' d g)(h:0<d)(h1:w.cell? ⟨g 0,1,none⟩=some .nilIface):
 Calls Tryz.prog 227 #[.slice a n c,.slice a' d c'] w fun e j=>e= .returned (.bool true)∧w=j:=by
 have o:=Lib.hid (mM a' d c' g w b);have p:decide (d=0)=false:=by simp;omega
 rw[p]at o;have r:=Lib.hid fun x=>Ar a' d c' x g w b h h1;have s:=Lib.hid m;clear m b h1 p;go_enter Tryz.func227,Tryz.ntmps227;go_wp2_with fail
 refine o.out.mono ?_;rintro e j ⟨rfl,rfl⟩;go_wp2_with fail
 go_loopw [13] (fun i wr=> ∃k:Nat,k≤n∧i= .int .i64 k∧wr=w) (fun i _=>n- (intOf i).toNat)
 case atStart=>exact⟨0,Nat.zero_le _,rfl,rfl⟩
 case round=>
  obtain⟨k,hk,rfl,rfl⟩:=hrel;by_cases l:k<n
  ·have q:(k:Int)<n:=by omega
   obtain⟨v,y,rfl,z⟩:=s.out k l;go_wp2_with fail
   refine(r.out _).mono ?_;rintro e j ⟨rfl,rfl⟩;go_wp2_with fail
   refine⟨⟨k+1,by omega,by go_num,trivial⟩,?_⟩;first|omega|(simp[intOf];omega)
  ·have t:¬(k:Int)<n:=by omega
   go_wp2_with fail
   go_ret;exact⟨rfl,rfl⟩
theorem As(a a':Option Addr)(n d c c':Nat)(f h:Nat→Nat)(w:World)(o:n≤1099511627776)(i:d≤1099511627776)(j:bA w a n f)(b:bA w a' d h)(p:0<n)(k:0<d)(h1:w.cell? ⟨f 0,1,none⟩=some .nilIface)(g:w.cell? ⟨h 0,1,none⟩=some .nilIface):
 Calls Tryz.prog 195 #[.slice a n c,.slice a' d c'] w fun e l=>e= .returned (.bool true)∧w=l:=by
 have q:=Lib.hid (sL a a' n d c c' f h w o j b k g);have m:=Lib.hid (sL a' a d n c' c h f w i b j p h1);clear j b h1 g;go_enter Tryz.func195,Tryz.ntmps195;go_wp2_with fail
 refine q.out.mono ?_;rintro e l ⟨rfl,rfl⟩;go_wp2_with fail
 refine m.out.mono ?_;rintro e l ⟨rfl,rfl⟩;go_wp2_with fail
 go_ret;exact⟨rfl,rfl⟩
theorem Au(b c ob oc:Nat)(w:World)(h1:w.cell? ⟨b,1,none⟩=some (.pointer (some ⟨ob,0,none⟩)))(h2:w.cell? ⟨c,1,none⟩=some (.pointer (some ⟨oc,0,none⟩)))(a:Plain w ob)(d:Plain w oc):
 Calls Tryz.prog 198 #[.pointer (some ⟨b,0,none⟩),.pointer (some ⟨c,0,none⟩)] w fun e f=>e= .returned (.bool (decide (ob=oc)))∧∃n,f=w.drewN n:=by
 have he:=fun n=>jZ Am (w.drewN n) ob oc (a.drewN n) (d.drewN n);clear a d;go_enter Tryz.func198,Tryz.ntmps198;go_wp2_with fail
 go_quiet (fail)
 go_wp2_with fail
 go_ret;exact⟨rfl,_,rfl⟩
theorem Av(s q x y b c:Nat)(w:World)(t:w.cell? ⟨s,0,none⟩=some (.pointer (some ⟨x,0,none⟩)))(h1:w.cell? ⟨s,1,none⟩=some (.pointer (some ⟨y,0,none⟩)))(h2:w.cell? ⟨q,0,none⟩=some (.pointer (some ⟨b,0,none⟩)))(h3:w.cell? ⟨q,1,none⟩=some (.pointer (some ⟨c,0,none⟩)))
 (h:Plain w x)(l:Plain w y)(j:Plain w b)(k:Plain w c)(m:x≠b)(d:x=c→y≠b):
 Calls Tryz.prog 196 #[.pointer (some ⟨s,0,none⟩),.pointer (some ⟨q,0,none⟩)] w fun e r=>e= .returned (.bool false)∧∃n,r=w.drewN n:=by
 have o:=fun n=>jZ kZ (w.drewN n) x b (h.drewN n) (j.drewN n);have f:decide (x=b)=false:=by simp[m]
 rw[f]at o;by_cases e:x=c
 ·have g:=fun n=>jZ kZ (w.drewN n) x c (h.drewN n) (k.drewN n)
  have p:=fun n=>jZ kZ (w.drewN n) y b (l.drewN n) (j.drewN n);have a:decide (x=c)=true:=by simp[e]
  have i:decide (y=b)=false:=by simp[d e]
  rw[a]at g;rw[i]at p;clear h l j k m d e f a i;go_enter Tryz.func196,Tryz.ntmps196;go_wp2_with fail
  go_quiet (fail)
  go_wp2_with fail
  go_ret;exact⟨rfl,_,rfl⟩
 ·have g:=fun n=>jZ kZ (w.drewN n) x c (h.drewN n) (k.drewN n)
  have a:decide (x=c)=false:=by simp[e]
  rw[a]at g;clear h l j k m d e f a;go_enter Tryz.func196,Tryz.ntmps196;go_wp2_with fail
  go_quiet (fail)
  go_wp2_with fail
  go_ret;exact⟨rfl,_,rfl⟩
end Go.Proofs.YtkfaiocajcjomaaGreatDoor
namespace TS
open Go Go.RowKit Go.Sort
def ar(w a:World):Prop:=∃(n:Nat)(os:Array Obj),a=grow (w.drewN n) os
theorem ar.refl(w:World):ar w w:=⟨0,#[],by simp[World.drewN]⟩
theorem ar.drewN(w:World)(n:Nat):ar w (w.drewN n):=⟨n,#[],by simp⟩
theorem ar.of(w:World)(n:Nat)(os:Array Obj):ar w (grow (w.drewN n) os):=⟨n,os,rfl⟩
theorem ar.alloc(w:World)(o:Obj):ar w (w.alloc o):=⟨0,#[o],by rw[alloc_eq_grow];rfl⟩
theorem ar.trans{a b c:World}(h:ar a b)(k:ar b c):ar a c:=by
 obtain⟨n,os,rfl⟩:=h;obtain⟨m,d,rfl⟩:=k;exact⟨n+m,os++d,by show grow (grow ((a.drewN n).drewN m) os) d=_;rw[grow_grow,World.drewN_drewN]⟩
theorem ar.block{w a:World}(h:ar w a){b:Nat}(c:b<w.heap.size):a.heap[b]?=w.heap[b]?:=by
 obtain⟨n,os,rfl⟩:=h;exact heap_grow_old (w.drewN n) os c
theorem ar.size{w a:World}(h:ar w a):w.heap.size≤a.heap.size:=by
 obtain⟨n,os,rfl⟩:=h;rw[size_grow];exact Nat.le_add_right _ _
theorem ar.below{w a:World}(h:ar w a):Below w.heap.size w a:=by
 have b:=h.size;have c:=fun k (hk:k<w.heap.size)=>h.block hk;obtain⟨n,os,rfl⟩:=h;exact⟨rfl,rfl,rfl,b,c⟩
theorem ar.cell{w b:World}(h:ar w b){a:Addr}{v:Value}(c:w.cell? a=some v):b.cell? a=some v:=by
 rw[World.cell?_of_block (w:=w) (h.block (World.block_lt_of_cell? _ _ c))];exact c
theorem ar.plain{w a:World}(h:ar w a){b:Nat}(d:Plain w b):Plain a b:=by
 obtain⟨cs,T,c⟩:=d;exact⟨cs,T,by rw[h.block (Array.getElem?_eq_some_iff.1 c).1];exact c⟩
theorem ar.kw{w a:World}(h:ar w a){p:Pm}(b:KW p w):KW p a:=b.grown h.below
theorem ar.cap{w a:World}(h:ar w a)(b:bu w):bu a:=fun c h1 h2=>h.cell (b c h1 h2)
end TS
namespace Go.Proofs.YtkfaiocajcjomaaGreatDoor
open Go.RowKit TS
theorem Aw(c b g t':Nat)(x y st:Value)(w:World)(j:st= .pointer none∨∃s,st= .pointer (some ⟨s,0,none⟩))(k:t'≠128)(d:t'≠91)(h1:w.cell? ⟨c,1,none⟩=some (.bool false))
 (h:Calls Tryz.prog 110 #[x] w fun e a=>e= .returned (.iface 91 (.pointer (some ⟨b,0,none⟩)))∧w=a)(i:Calls Tryz.prog 110 #[y] w fun e a=>e= .returned (.iface t' (.pointer (some ⟨g,0,none⟩)))∧w=a)
 (he:(binOp .eql 39 (.iface 91 (.pointer (some ⟨b,0,none⟩))) (.iface t' (.pointer (some ⟨g,0,none⟩)))).run Tryz.prog w= .ok (.bool false) w):
 Calls Tryz.prog 171 #[.pointer (some ⟨c,0,none⟩),x,y,st] w fun e a=>e= .returned (.bool false)∧w=a:=by
 have f:=ba br b;have l:=ai br t' g d;clear d k;go_enter Tryz.func171,Tryz.ntmps171;go_wp2_with fail
 refine h.mono ?_;rintro e a ⟨rfl,rfl⟩;go_wp2_with fail
 refine i.mono ?_;rintro e a ⟨rfl,rfl⟩;go_wp2_with fail
 go_ret;exact⟨rfl,rfl⟩
theorem Ax(c b h t':Nat)(x y st:Value)(w:World)(k:st= .pointer none∨∃s,st= .pointer (some ⟨s,0,none⟩))(l:t'≠128)(d:t'≠130)(h1:w.cell? ⟨c,1,none⟩=some (.bool false))
 (i:Calls Tryz.prog 110 #[x] w fun e a=>e= .returned (.iface 130 (.pointer (some ⟨b,0,none⟩)))∧w=a)(j:Calls Tryz.prog 110 #[y] w fun e a=>e= .returned (.iface t' (.pointer (some ⟨h,0,none⟩)))∧w=a)
 (he:(binOp .eql 39 (.iface 130 (.pointer (some ⟨b,0,none⟩))) (.iface t' (.pointer (some ⟨h,0,none⟩)))).run Tryz.prog w= .ok (.bool false) w):
 Calls Tryz.prog 171 #[.pointer (some ⟨c,0,none⟩),x,y,st] w fun e a=>e= .returned (.bool false)∧w=a:=by
 have f:=ai br 130 b (by decide);have g:=ba cz b;have m:=ai cz t' h d;clear d l;go_enter Tryz.func171,Tryz.ntmps171;go_wp2_with fail
 refine i.mono ?_;rintro e a ⟨rfl,rfl⟩;go_wp2_with fail
 refine j.mono ?_;rintro e a ⟨rfl,rfl⟩;go_wp2_with fail
 go_ret;exact⟨rfl,rfl⟩
theorem Ay(c b i t':Nat)(x y st:Value)(w:World)(l:st= .pointer none∨∃s,st= .pointer (some ⟨s,0,none⟩))(m:t'≠128)(d:t'≠132)(h1:w.cell? ⟨c,1,none⟩=some (.bool false))
 (j:Calls Tryz.prog 110 #[x] w fun e a=>e= .returned (.iface 132 (.pointer (some ⟨b,0,none⟩)))∧w=a)(k:Calls Tryz.prog 110 #[y] w fun e a=>e= .returned (.iface t' (.pointer (some ⟨i,0,none⟩)))∧w=a)
 (he:(binOp .eql 39 (.iface 132 (.pointer (some ⟨b,0,none⟩))) (.iface t' (.pointer (some ⟨i,0,none⟩)))).run Tryz.prog w= .ok (.bool false) w):
 Calls Tryz.prog 171 #[.pointer (some ⟨c,0,none⟩),x,y,st] w fun e a=>e= .returned (.bool false)∧w=a:=by
 have f:=ai br 132 b (by decide);have g:=ai cz 132 b (by decide);have h:=ba asSlice b;have n:=ai asSlice t' i d;clear d m;go_enter Tryz.func171,Tryz.ntmps171;go_wp2_with fail
 refine j.mono ?_;rintro e a ⟨rfl,rfl⟩;go_wp2_with fail
 refine k.mono ?_;rintro e a ⟨rfl,rfl⟩;go_wp2_with fail
 go_ret;exact⟨rfl,rfl⟩
theorem Az(c b j t':Nat)(x y st:Value)(w:World)(m:st= .pointer none∨∃s,st= .pointer (some ⟨s,0,none⟩))(n:t'≠128)(f:t'≠150)(h1:w.cell? ⟨c,1,none⟩=some (.bool false))
 (k:Calls Tryz.prog 110 #[x] w fun e a=>e= .returned (.iface 150 (.pointer (some ⟨b,0,none⟩)))∧w=a)(l:Calls Tryz.prog 110 #[y] w fun e a=>e= .returned (.iface t' (.pointer (some ⟨j,0,none⟩)))∧w=a)
 (he:(binOp .eql 39 (.iface 150 (.pointer (some ⟨b,0,none⟩))) (.iface t' (.pointer (some ⟨j,0,none⟩)))).run Tryz.prog w= .ok (.bool false) w):
 Calls Tryz.prog 171 #[.pointer (some ⟨c,0,none⟩),x,y,st] w fun e a=>e= .returned (.bool false)∧w=a:=by
 have g:=ai br 150 b (by decide);have h:=ai cz 150 b (by decide);have i:=ai asSlice 150 b (by decide);have d:=ba cK b;have o:=ai cK t' j f;clear f n;go_enter Tryz.func171,Tryz.ntmps171;go_wp2_with fail
 refine k.mono ?_;rintro e a ⟨rfl,rfl⟩;go_wp2_with fail
 refine l.mono ?_;rintro e a ⟨rfl,rfl⟩;go_wp2_with fail
 go_ret;exact⟨rfl,rfl⟩
theorem AA(c b k t':Nat)(x y st:Value)(w:World)(n:st= .pointer none∨∃s,st= .pointer (some ⟨s,0,none⟩))(o:t'≠128)(g:t'≠134)(h1:w.cell? ⟨c,1,none⟩=some (.bool false))
 (l:Calls Tryz.prog 110 #[x] w fun e a=>e= .returned (.iface 134 (.pointer (some ⟨b,0,none⟩)))∧w=a)(m:Calls Tryz.prog 110 #[y] w fun e a=>e= .returned (.iface t' (.pointer (some ⟨k,0,none⟩)))∧w=a)
 (he:(binOp .eql 39 (.iface 134 (.pointer (some ⟨b,0,none⟩))) (.iface t' (.pointer (some ⟨k,0,none⟩)))).run Tryz.prog w= .ok (.bool false) w):
 Calls Tryz.prog 171 #[.pointer (some ⟨c,0,none⟩),x,y,st] w fun e a=>e= .returned (.bool false)∧w=a:=by
 have h:=ai br 134 b (by decide);have i:=ai cz 134 b (by decide);have j:=ai asSlice 134 b (by decide);have f:=ai cK 134 b (by decide);have d:=ba cA b;have p:=ai cA t' k g;clear g o;go_enter Tryz.func171,Tryz.ntmps171;go_wp2_with fail
 refine l.mono ?_;rintro e a ⟨rfl,rfl⟩;go_wp2_with fail
 refine m.mono ?_;rintro e a ⟨rfl,rfl⟩;go_wp2_with fail
 go_ret;exact⟨rfl,rfl⟩
theorem AB(c b m t':Nat)(x y st:Value)(w:World)(p:st= .pointer none∨∃s,st= .pointer (some ⟨s,0,none⟩))(q:t'≠128)(h:t'≠94)(h1:w.cell? ⟨c,1,none⟩=some (.bool false))
 (n:Calls Tryz.prog 110 #[x] w fun e d=>e= .returned (.iface 94 (.pointer (some ⟨b,0,none⟩)))∧w=d)(o:Calls Tryz.prog 110 #[y] w fun e d=>e= .returned (.iface t' (.pointer (some ⟨m,0,none⟩)))∧w=d)
 (he:(binOp .eql 39 (.iface 94 (.pointer (some ⟨b,0,none⟩))) (.iface t' (.pointer (some ⟨m,0,none⟩)))).run Tryz.prog w= .ok (.bool false) w):
 Calls Tryz.prog 171 #[.pointer (some ⟨c,0,none⟩),x,y,st] w fun e d=>e= .returned (.bool false)∧w=d:=by
 have i:=ai br 94 b (by decide);have j:=ai cz 94 b (by decide);have k:=ai asSlice 94 b (by decide);have g:=ai cK 94 b (by decide);have f:=ai cA 94 b (by decide);have l:=ai asTuple 94 b (by decide);have a:=ba fP b;have r:=ai fP t' m h;clear h q;go_enter Tryz.func171,Tryz.ntmps171;go_wp2_with fail
 refine n.mono ?_;rintro e d ⟨rfl,rfl⟩;go_wp2_with fail
 refine o.mono ?_;rintro e d ⟨rfl,rfl⟩;go_wp2_with fail
 go_ret;exact⟨rfl,rfl⟩
theorem AD(c b o t':Nat)(x y st:Value)(w:World)(r:st= .pointer none∨∃s,st= .pointer (some ⟨s,0,none⟩))(t:t'≠128)(i:t'≠32)(h1:w.cell? ⟨c,1,none⟩=some (.bool false))
 (p:Calls Tryz.prog 110 #[x] w fun e f=>e= .returned (.iface 32 (.pointer (some ⟨b,0,none⟩)))∧w=f)(q:Calls Tryz.prog 110 #[y] w fun e f=>e= .returned (.iface t' (.pointer (some ⟨o,0,none⟩)))∧w=f)
 (he:(binOp .eql 39 (.iface 32 (.pointer (some ⟨b,0,none⟩))) (.iface t' (.pointer (some ⟨o,0,none⟩)))).run Tryz.prog w= .ok (.bool false) w):
 Calls Tryz.prog 171 #[.pointer (some ⟨c,0,none⟩),x,y,st] w fun e f=>e= .returned (.bool false)∧w=f:=by
 have j:=ai br 32 b (by decide);have k:=ai cz 32 b (by decide);have l:=ai asSlice 32 b (by decide);have h:=ai cK 32 b (by decide);have g:=ai cA 32 b (by decide);have m:=ai asTuple 32 b (by decide);have a:=ai fP 32 b (by decide);have n:=ai gF 32 b (by decide);have d:=ba dG b;have u:=ai dG t' o i;clear i t;go_enter Tryz.func171,Tryz.ntmps171;go_wp2_with fail
 refine p.mono ?_;rintro e f ⟨rfl,rfl⟩;go_wp2_with fail
 refine q.mono ?_;rintro e f ⟨rfl,rfl⟩;go_wp2_with fail
 go_ret;exact⟨rfl,rfl⟩
theorem AE(c b o t':Nat)(x y st:Value)(w:World)(t:st= .pointer none∨∃s,st= .pointer (some ⟨s,0,none⟩))(u:t'≠128)(i:t'≠136)(h1:w.cell? ⟨c,1,none⟩=some (.bool false))
 (p:Calls Tryz.prog 110 #[x] w fun e f=>e= .returned (.iface 136 (.pointer (some ⟨b,0,none⟩)))∧w=f)(q:Calls Tryz.prog 110 #[y] w fun e f=>e= .returned (.iface t' (.pointer (some ⟨o,0,none⟩)))∧w=f)
 (he:(binOp .eql 39 (.iface 136 (.pointer (some ⟨b,0,none⟩))) (.iface t' (.pointer (some ⟨o,0,none⟩)))).run Tryz.prog w= .ok (.bool false) w):
 Calls Tryz.prog 171 #[.pointer (some ⟨c,0,none⟩),x,y,st] w fun e f=>e= .returned (.bool false)∧w=f:=by
 have j:=ai br 136 b (by decide);have k:=ai cz 136 b (by decide);have l:=ai asSlice 136 b (by decide);have h:=ai cK 136 b (by decide);have g:=ai cA 136 b (by decide);have m:=ai asTuple 136 b (by decide);have a:=ai fP 136 b (by decide);have n:=ai gF 136 b (by decide);have d:=ai dG 136 b (by decide);have r:=ba iz b;have v:=ai iz t' o i;clear i u;go_enter Tryz.func171,Tryz.ntmps171;go_wp2_with fail
 refine p.mono ?_;rintro e f ⟨rfl,rfl⟩;go_wp2_with fail
 refine q.mono ?_;rintro e f ⟨rfl,rfl⟩;go_wp2_with fail
 go_ret;exact⟨rfl,rfl⟩
theorem AF(c b p t':Nat)(x y st:Value)(w:World)(u:st= .pointer none∨∃s,st= .pointer (some ⟨s,0,none⟩))(v:t'≠128)(i:t'≠138)(h1:w.cell? ⟨c,1,none⟩=some (.bool false))
 (q:Calls Tryz.prog 110 #[x] w fun e f=>e= .returned (.iface 138 (.pointer (some ⟨b,0,none⟩)))∧w=f)(r:Calls Tryz.prog 110 #[y] w fun e f=>e= .returned (.iface t' (.pointer (some ⟨p,0,none⟩)))∧w=f)
 (he:(binOp .eql 39 (.iface 138 (.pointer (some ⟨b,0,none⟩))) (.iface t' (.pointer (some ⟨p,0,none⟩)))).run Tryz.prog w= .ok (.bool false) w):
 Calls Tryz.prog 171 #[.pointer (some ⟨c,0,none⟩),x,y,st] w fun e f=>e= .returned (.bool false)∧w=f:=by
 have j:=ai br 138 b (by decide);have k:=ai cz 138 b (by decide);have l:=ai asSlice 138 b (by decide);have h:=ai cK 138 b (by decide);have g:=ai cA 138 b (by decide);have m:=ai asTuple 138 b (by decide);have a:=ai fP 138 b (by decide);have n:=ai gF 138 b (by decide);have d:=ai dG 138 b (by decide);have t:=ai iz 138 b (by decide);have o:=ba dN b;have z:=ai dN t' p i;clear i v;go_enter Tryz.func171,Tryz.ntmps171;go_wp2_with fail
 refine q.mono ?_;rintro e f ⟨rfl,rfl⟩;go_wp2_with fail
 refine r.mono ?_;rintro e f ⟨rfl,rfl⟩;go_wp2_with fail
 go_ret;exact⟨rfl,rfl⟩
theorem o6(c b q t':Nat)(x y st:Value)(w:World)(z:st= .pointer none∨∃s,st= .pointer (some ⟨s,0,none⟩))(v:t'≠128)(i:t'≠56)(h1:w.cell? ⟨c,1,none⟩=some (.bool false))
 (r:Calls Tryz.prog 110 #[x] w fun e f=>e= .returned (.iface 56 (.pointer (some ⟨b,0,none⟩)))∧w=f)(t:Calls Tryz.prog 110 #[y] w fun e f=>e= .returned (.iface t' (.pointer (some ⟨q,0,none⟩)))∧w=f)
 (he:(binOp .eql 39 (.iface 56 (.pointer (some ⟨b,0,none⟩))) (.iface t' (.pointer (some ⟨q,0,none⟩)))).run Tryz.prog w= .ok (.bool false) w):
 Calls Tryz.prog 171 #[.pointer (some ⟨c,0,none⟩),x,y,st] w fun e f=>e= .returned (.bool false)∧w=f:=by
 have j:=ai br 56 b (by decide);have k:=ai cz 56 b (by decide);have l:=ai asSlice 56 b (by decide);have h:=ai cK 56 b (by decide);have g:=ai cA 56 b (by decide);have m:=ai asTuple 56 b (by decide);have a:=ai fP 56 b (by decide);have n:=ai gF 56 b (by decide);have d:=ai dG 56 b (by decide);have u:=ai iz 56 b (by decide);have p:=ai dN 56 b (by decide);have o:=ba asNamed b;have A:=Lib.hid (oO t' (some ⟨q,0,none⟩) v i w);clear i v;go_enter Tryz.func171,Tryz.ntmps171;go_wp2_with fail
 refine r.mono ?_;rintro e f ⟨rfl,rfl⟩;go_wp2_with fail
 refine t.mono ?_;rintro e f ⟨rfl,rfl⟩;go_wp2_with fail
 refine A.out.mono ?_;rintro e f ⟨rfl,rfl⟩;go_wp2_with fail
 go_ret;exact⟨rfl,rfl⟩
end Go.Proofs.YtkfaiocajcjomaaGreatDoor
