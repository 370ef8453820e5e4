import Derived.Ground.SlsfProg
import Derived.Shelf.Lay
import Derived.Shelf.SlSortCmp.NoneTotal
import Derived.Shelf.SlSortCmp.QuietGrown
import Derived.Test.YtdkmnkjhhhmglaaGreatDoorYal
set_option maxRecDepth 100000
set_option maxHeartbeats 8000000
set_option linter.all false
namespace TS
open Go Go.RowKit
def bh(T:List U)(i f:Nat)(u:U):Prop:=
 (u.k=11→if f=0 then u.un= []else ∃h:u.n.toNat<T.length,u.n.toNat<i∧u.un= [T[u.n.toNat]])∧(u.k=15→u.un= [aI])∧∀j(h:j<u.es.length),bh T i (aN u j f) u.es[j]
termination_by u.sz
decreasing_by exact U.az (List.getElem_mem h)
theorem bh.named{T:List U}{i f:Nat}{u:U}(h:bh T i f u)(hk:u.k=11):if f=0 then u.un= []else ∃h:u.n.toNat<T.length,u.n.toNat<i∧u.un= [T[u.n.toNat]]:=by rw[bh]at h;exact h.1 hk
theorem bh.err{T:List U}{i f:Nat}{u:U}(h:bh T i f u)(hk:u.k=15):u.un= [aI]:=by rw[bh]at h;exact h.2.1 hk
theorem bh.part{T:List U}{i f:Nat}{u:U}(h:bh T i f u)(j:Nat)(a:j<u.es.length):bh T i (aN u j f) u.es[j]:=by rw[bh]at h;exact h.2.2 j a
theorem tC{T:List U}{i f:Nat}{u:U}(he:u.es= [])(a:u.k≠11)(b:u.k=15→u.un= [aI]):bh T i f u:=by
 rw[bh];exact⟨fun h=>absurd h a,b,fun j c=>by rw[he]at c;simp at c⟩
theorem bh.mono{T:List U}{i b:Nat}(hi:i≤b):∀{u:U}{f:Nat},bh T i f u→bh T b f u:=by
 intro u;induction u using U.bg with
 |_ u ih=>
  intro f h;rw[bh];refine⟨fun hk=> ?_,h.err,fun j c=>ih _ (U.az (List.getElem_mem c)) (h.part j c)⟩;have:=h.named hk;split at this
  ·rename_i a;rw[if_pos a];exact this
  ·rename_i a;rw[if_neg a];obtain⟨h1,h2,h3⟩:=this;exact⟨h1,by omega,h3⟩
theorem qb{T:List U}{u:U}(h:u.k≠11):du T u=u:=by unfold du;rw[if_neg h]
theorem zf(u:U):pZ u u.un=u:=by cases u;rfl
theorem zg{T:List U}{i f:Nat}{u:U}(h:bh T i f u)(a:f≠0):du T u=u:=by
 by_cases hk:u.k=11
 ·have:=h.named hk
  rw[if_neg a]at this;obtain⟨h1,_,h3⟩:=this;unfold du;rw[if_pos hk,List.getElem?_eq_getElem h1,Option.toList_some,←h3,zf]
 ·exact qb hk
theorem qc{u v:U}(h:under u=under v):aZ u=aZ v:=by
 by_cases hk:(under v).k=10
 ·rw[iS hk,iS (by rw[h];exact hk),h]
 ·rw[gw hk,gw (by rw[h];exact hk),h]
theorem nU{u v:U}(h:under u=under v):ai u=ai v:=by
 by_cases hk:(under v).k=10
 ·rw[iq hk,iq (by rw[h];exact hk),h]
 ·rw[gB hk,gB (by rw[h];exact hk)]
theorem nV{u e:U}(h2:u.k=2)(he:u.es= [e]):under u=under e:=by
 have:=kb h2 he;unfold under;rw[this]
theorem cQ{u:U}(h2:u.k≠2)(b:u.k≠11)(a:u.k≠14)(c:u.k≠15):under u=u:=by
 rw[ik]<;>rw[cu h2 a]<;>assumption
theorem qe{u:U}(a:u.k=11)(b:u.un= []):under u=u:=by
 have c:bare u=u:=cu (by omega) (by omega);unfold under;rw[c,b];simp
theorem tD{u x:U}(a:u.k=11)(c:u.un= [x]):under u=x:=by
 have b:bare u=u:=cu (by omega) (by omega);exact jn (by rw[b];exact a) (by rw[b];exact c)
theorem tE{u:U}(a:u.k=15)(c:u.un= [aI]):under u=aI:=by
 have b:bare u=u:=cu (by omega) (by omega);exact jo (by rw[b];exact a) (by rw[b];exact c)
theorem nW:under aI=aI:=cQ (by decide) (by decide) (by decide) (by decide)
theorem zh:aR dB:=by
 have hu:under dB=dB:=cQ (by decide) (by decide) (by decide) (by decide);rw[aR];exact⟨by rw[gw (by rw[hu];decide),hu];rfl,fun e he=>by simp[dB,U.es]at he,fun e he=>by rw[gB (by rw[hu];decide)]at he;cases he⟩
theorem tF:aR (.mk 7 0 0 false errorName ByteArray.empty [dB] []):=by
 have hu:under (.mk 7 0 0 false errorName ByteArray.empty [dB] [])= .mk 7 0 0 false errorName ByteArray.empty [dB] []:=cQ (by decide) (by decide) (by decide) (by decide);rw[aR];refine⟨by rw[gw (by rw[hu];decide),hu];rfl,fun e he=> ?_,fun e he=>by rw[gB (by rw[hu];decide)]at he;cases he⟩;simp only[U.es,List.mem_singleton]at he;subst he;exact zh
theorem tG{m:U}(h:m∈ai aI):aR m:=by
 rcases(iu h).2 with h|⟨e,he,_⟩
 ·rw[nW]at h
  simp only[aI,U.es,U.m]at h;have:m= .mk 7 0 0 false errorName ByteArray.empty [dB] []:=by simpa using h
  rw[this];exact tF
 ·rw[nW]at he
  simp[aI,U.es,U.m]at he
theorem Pl.jt{len:Nat}{u:U}{pos f:Nat}(h:Pl len u pos f)(b:u.k≠10)(a:u.k≠12)(j:Nat)(c:j<u.es.length):Pl len u.es[j] 0 (aN u j f):=by
 have:=h.part j c;rwa [show aV u j=0 by unfold aV;rw[if_neg a,if_neg (by omega)]]at this
theorem qg{α:Type}{l:List α}{n:Nat}{e:α}(h:e∈l.drop n):∃i,∃hi:i<l.length,n≤i∧l[i]=e:=by
 obtain⟨i,hi,rfl⟩:=List.getElem_of_mem h;rw[List.length_drop]at hi;exact⟨n+i,by omega,by omega,by rw[List.getElem_drop]⟩
theorem tH{α:Type}{l:List α}{n:Nat}{e:α}(h:e∈l.take n):∃i,∃hi:i<l.length,i<n∧l[i]=e:=by
 obtain⟨i,hi,rfl⟩:=List.getElem_of_mem h;rw[List.length_take]at hi;exact⟨i,by omega,by omega,by rw[List.getElem_take]⟩
theorem me{len:Nat}{T:List U}{i:Nat}:∀(u:U)(pos f:Nat),bh T i f u→Pl len u pos f→f≤2→u.k≠12→u.k≠13→mt T .type u false=true→aZ u=false:=by
 intro u;induction u using U.bg with
 |_ u ih=>
  intro pos f j n r l p hm;by_cases h2:u.k=2
  ·obtain⟨e,he⟩:=dD (n.form.fS h2)
   have o:0<u.es.length:=by rw[he];simp
   have q:u.es[0]=e:=by simp[he]
   have c:=n.jt (by omega) l 0 o;have h:=j.part 0 o;rw[q]at c h;rw[l8 h2,he]at hm;have m:mt T .type e false=true:=by simpa using hm
   rw[qc (nV h2 he)];exact ih e (U.az (by rw[he];simp)) _ _ h c fD c.form.aE.1 c.form.aE.2 m
  ·by_cases d:u.k=10
   ·have hu:under u=u:=cQ (by omega) (by omega) (by omega) (by omega)
    rw[iS (by rw[hu];exact d),hu,List.any_eq_false];intro e he;rw[iw d]at hm;simp only[Bool.and_eq_true,List.all_eq_true]at hm;have a:=hm.1 e he;by_cases g:e.k=12
    ·rw[lY g]at a;simp at a
    ·rw[js g]at a
     simp only[Bool.false_or,Bool.and_eq_true,Bool.not_eq_true',aQ,bne_iff_ne,ne_eq]at a;obtain⟨_,⟨⟨_,a2⟩,a3⟩,a4⟩:=a;simp[g,a2,a3,a4]
   ·rw[l9 h2 d]at hm
    simp only[Bool.false_or,Bool.and_eq_true,Bool.not_eq_true']at hm;by_cases b:u.k=11
    ·by_cases f0:f=0
     ·have:=j.named b
      rw[if_pos f0]at this;rw[gw (by rw[qe b this];omega),qe b this];simp[b]
     ·rw[zg j f0]at hm;exact hm.1
    ·rw[qb b]at hm;exact hm.1
theorem ki{len:Nat}{T:List U}{i:Nat}(hT:∀t∈T,l_ len t)(M:∀j(h:j<T.length),bh T j 1 T[j])(N:∀j(h:j<T.length),j<i→mt T .type T[j] true=true):
 ∀(u:U)(pos f:Nat)(g:Bool)(x:Nat),x≤i→bh T x f u→Pl len u pos f→f≤2→u.k≠12→u.k≠13→mt T .type u g=true→(∀m∈ai u,aR m)∧(aZ u=false→aR u):=by
 intro u;induction u using U.bg with
 |_ u ih=>
  intro pos f g x hi w C hf y W hm;have mk:(∀m∈ai u,aR m)→(aZ u=false→∀e∈u.es,aR e)→(∀m∈ai u,aR m)∧(aZ u=false→aR u):=fun h1 h2=>⟨h1,fun J=>by rw[aR];exact⟨J,h2 J,h1⟩⟩
  by_cases h2:u.k=2
  ·obtain⟨e,he⟩:=dD (C.form.fS h2)
   have V:0<u.es.length:=by rw[he];simp
   have J:u.es[0]=e:=by simp[he]
   have q:=C.jt (by omega) y 0 V;have D:=w.part 0 V;rw[J]at q D;rw[l8 h2,he]at hm;have O:mt T .type e g=true:=by simpa using hm
   have:=ih e (U.az (by rw[he];simp)) _ _ g x hi D q fD q.form.aE.1 q.form.aE.2 O;refine mk (by rw[nU (nV h2 he)];exact this.1) fun r e' z=> ?_;rw[he]at z;simp at z;subst z;exact this.2 (by rw[←qc (nV h2 he)];exact r)
  ·by_cases p:u.k=10
   ·have hu:under u=u:=cQ (by omega) (by omega) (by omega) (by omega)
    rw[iw p]at hm;simp only[Bool.and_eq_true,List.all_eq_true]at hm;obtain⟨P,⟨E,_⟩,_⟩:=hm;have ju:∀m∈u.es.take u.m.toNat,aR m:=fun m A=>by
     obtain⟨j,o,Q,rfl⟩:=tH A;have c:=C.part j o;rw[show aV u j=0 by unfold aV;rw[if_neg y,if_neg (by omega)]]at c;have:=ih _ (U.az (List.getElem_mem o)) _ _ false x hi (w.part j o) c fD c.form.aE.1 c.form.aE.2 (E _ A);exact this.2 (me _ _ _ (w.part j o) c fD c.form.aE.1 c.form.aE.2 (E _ A))
    have elem:∀e∈u.es.drop u.m.toNat,e.k≠12→e.k≠13→(∀m∈ai e,aR m)∧(aZ e=false→aR e):=fun e he F G=>by
     have l:=P e he;rw[js F]at l;simp only[Bool.and_eq_true]at l;have H:=l.1;rw[fF G]at H;obtain⟨j,o,Q,rfl⟩:=qg he;have b:=C.part j o;exact ih _ (U.az (List.getElem_mem o)) _ _ _ x hi (w.part j o) b fD F G H
    refine mk (fun m a=> ?_) fun r e he=> ?_
    ·rcases(iu a).2 with h|⟨e,he,K,h⟩
     ·rw[hu]at h;exact ju m h
     ·rw[hu]at he
      unfold aQ at K;simp only[Bool.and_eq_true,bne_iff_ne,ne_eq]at K;exact(elem e he K.1.1 K.1.2).1 m h
    ·rw[←List.take_append_drop u.m.toNat u.es,List.mem_append]at he
     rcases he with he|he
     ·exact ju e he
     ·rw[iS (by rw[hu];exact p),hu,List.any_eq_false]at r
      have:=r e he;simp only[Bool.or_eq_true,beq_iff_eq,Bool.not_eq_true',not_or,Bool.not_eq_true]at this;exact(elem e he this.1.1.1 this.1.1.2).2 this.2
   ·rw[l9 h2 p]at hm
    simp only[Bool.and_eq_true,List.all_eq_true]at hm;refine mk (fun m a=> ?_) fun _ e he=> ?_
    ·by_cases s:u.k=11
     ·have L:=w.named s
      by_cases f0:f=0
      ·rw[if_pos f0]at L
       rw[gB (by rw[qe s L];omega)]at a;cases a
      ·rw[if_neg f0]at L
       obtain⟨h1,X,h3⟩:=L;have d:=hT _ (List.getElem_mem h1);have R:under T[u.n.toNat]=T[u.n.toNat]:=cQ d.kZ (by have:=d.hi;omega) (by have:=d.hi;omega) (by have:=d.hi;omega);have S:under u=under T[u.n.toNat]:=by rw[tD s h3,R]
       rw[nU S]at a;have Y:=U.j8 (u:=u) (e:=T[u.n.toNat]) (by rw[h3];simp);exact(ih _ Y 0 1 true _ (by omega) (M _ h1) d.pl (by omega) (by have:=d.hi;omega) (by have:=d.hi;omega) (N _ h1 (by omega))).1 m a
     ·by_cases B:u.k=15
      ·rw[nU (v:=aI) (by rw[tE B (w.err B),nW])]at a
       exact tG a
      ·by_cases I:u.k=14
       ·have:under u=under bt:=by
         have Z:bare u=bt:=gq I;have e2:bare bt=bt:=cu (by decide) (by decide);unfold under;rw[Z,e2]
        rw[nU this]at a;exact s_.cv a
       ·rw[gB (by rw[cQ h2 s I B];exact p)]at a;cases a
    ·obtain⟨j,o,rfl⟩:=List.getElem_of_mem he
     have b:=C.jt p y j o;have l:=hm.2 _ he;exact(ih _ (U.az he) _ _ false x hi (w.part j o) b fD b.form.aE.1 b.form.aE.2 l).2 (me _ _ _ (w.part j o) b fD b.form.aE.1 b.form.aE.2 l)
end TS
namespace Go.Proofs
open Go.Shelf
def Tryz.ud:Go.Shelf.Ren:=⟨fun|6=>154|15=>191|14=>190|28=>224|29=>225|20=>216|21=>217|22=>218|23=>219|24=>220|25=>221|26=>222|27=>223|46=>240|47=>241|48=>242|49=>243|50=>244|57=>252|n=>n,fun|22=>23|24=>25|25=>250|3=>3|39=>279|0=>0|53=>118|55=>316|4=>4|46=>308|45=>307|50=>312|5=>5|9=>9|66=>338|70=>342|76=>356|77=>357|n=>n,fun|n=>n⟩
theorem Tryz.oj:Go.Proofs.SlLaysF0.n6 Tryz.prog Tryz.ud:={
 mixed:=by kernel_rfl,
 f6:=⟨Tryz.f154.name,by decide,Tryz.func154.trans (congrArg some (by kernel_rfl))⟩,
 f14:=⟨Tryz.f190.name,by decide,Tryz.func190.trans (congrArg some (by kernel_rfl))⟩,
 f15:=Tryz.func191.trans (congrArg some (by kernel_rfl)),
 f20:=⟨Tryz.f216.name,by decide,Tryz.func216.trans (congrArg some (by kernel_rfl))⟩,
 f21:=⟨Tryz.f217.name,by decide,Tryz.func217.trans (congrArg some (by kernel_rfl))⟩,
 f22:=⟨Tryz.f218.name,by decide,Tryz.func218.trans (congrArg some (by kernel_rfl))⟩,
 f23:=⟨Tryz.f219.name,by decide,Tryz.func219.trans (congrArg some (by kernel_rfl))⟩,
 f24:=⟨Tryz.f220.name,by decide,Tryz.func220.trans (congrArg some (by kernel_rfl))⟩,
 f25:=⟨Tryz.f221.name,by decide,Tryz.func221.trans (congrArg some (by kernel_rfl))⟩,
 f26:=⟨Tryz.f222.name,by decide,Tryz.func222.trans (congrArg some (by kernel_rfl))⟩,
 f27:=⟨Tryz.f223.name,by decide,Tryz.func223.trans (congrArg some (by kernel_rfl))⟩,
 f28:=Tryz.func224.trans (congrArg some (by kernel_rfl)),
 f29:=Tryz.func225.trans (congrArg some (by kernel_rfl)),
 f46:=⟨Tryz.f240.name,by decide,Tryz.func240.trans (congrArg some (by kernel_rfl))⟩,
 f47:=Tryz.func241.trans (congrArg some (by kernel_rfl)),
 f48:=Tryz.func242.trans (congrArg some (by kernel_rfl)),
 f49:=⟨Tryz.f243.name,by decide,Tryz.func243.trans (congrArg some (by kernel_rfl))⟩,
 f50:=⟨Tryz.f244.name,by decide,Tryz.func244.trans (congrArg some (by kernel_rfl))⟩,
 f57:=⟨Tryz.f252.name,by decide,Tryz.func252.trans (congrArg some (by kernel_rfl))⟩,
 t0:=Tryz.underlying0,
 a0:=Tryz.isAgg0,
 z0:=Tryz.sizeOf0,
 v0:=Tryz.zeroValue0,
 t3:=Tryz.underlying3,
 a3:=Tryz.isAgg3,
 z3:=Tryz.sizeOf3,
 v3:=Tryz.zeroValue3,
 t4:=Tryz.underlying4,
 a4:=Tryz.isAgg4,
 z4:=Tryz.sizeOf4,
 v4:=Tryz.zeroValue4,
 t5:=Tryz.underlying5,
 a5:=Tryz.isAgg5,
 z5:=Tryz.sizeOf5,
 v5:=Tryz.zeroValue5,
 t9:=Tryz.underlying9,
 a9:=Tryz.isAgg9,
 z9:=Tryz.sizeOf9,
 v9:=Tryz.zeroValue9,
 t22:=Tryz.underlying23,
 a22:=Tryz.isAgg23,
 z22:=Tryz.sizeOf23,
 v22:=Tryz.zeroValue23,
 t25:=Tryz.underlying250,
 a25:=Tryz.isAgg250,
 z25:=Tryz.sizeOf250,
 v25:=Tryz.zeroValue250,
 t39:=Tryz.underlying279,
 a39:=Tryz.isAgg279,
 z39:=Tryz.sizeOf279,
 v39:=Tryz.zeroValue279,
 t45:=Tryz.underlying307,
 a45:=Tryz.isAgg307,
 z45:=Tryz.sizeOf307,
 v45:=Tryz.zeroValue307,
 t46:=Tryz.underlying308,
 a46:=Tryz.isAgg308,
 z46:=Tryz.sizeOf308,
 v46:=Tryz.zeroValue308,
 t50:=Tryz.underlying312,
 a50:=Tryz.isAgg312,
 z50:=Tryz.sizeOf312,
 v50:=Tryz.zeroValue312,
 t53:=Tryz.underlying118,
 a53:=Tryz.isAgg118,
 z53:=Tryz.sizeOf118,
 v53:=Tryz.zeroValue118,
 t55:=Tryz.underlying316,
 a55:=Tryz.isAgg316,
 z55:=Tryz.sizeOf316,
 v55:=Tryz.zeroValue316,
 t66:=Tryz.underlying338,
 a66:=Tryz.isAgg338,
 z66:=Tryz.sizeOf338,
 v66:=Tryz.zeroValue338,
 t70:=Tryz.underlying342,
 a70:=Tryz.isAgg342,
 z70:=Tryz.sizeOf342,
 v70:=Tryz.zeroValue342,
 t76:=Tryz.underlying356,
 a76:=Tryz.isAgg356,
 z76:=Tryz.sizeOf356,
 v76:=Tryz.zeroValue356,
 t77:=Tryz.underlying357,
 a77:=Tryz.isAgg357,
 z77:=Tryz.sizeOf357,
 v77:=Tryz.zeroValue357}
def Tryz.ue:Go.Shelf.Ren:=⟨fun|6=>167|15=>191|14=>197|28=>224|29=>225|20=>229|21=>230|22=>231|23=>232|24=>233|25=>234|26=>235|27=>236|46=>246|47=>241|48=>242|49=>247|50=>248|57=>253|n=>n,fun|22=>109|24=>107|25=>256|3=>3|39=>279|0=>0|53=>118|55=>316|4=>4|46=>308|45=>307|50=>312|5=>5|9=>9|66=>338|70=>342|76=>356|77=>357|n=>n,fun|n=>n⟩
theorem Tryz.ug:Go.Proofs.SlLaysF.n6 Tryz.prog Tryz.ue:={
 mixed:=by kernel_rfl,
 f6:=⟨Tryz.f167.name,by decide,Tryz.func167.trans (congrArg some (by kernel_rfl))⟩,
 f14:=⟨Tryz.f197.name,by decide,Tryz.func197.trans (congrArg some (by kernel_rfl))⟩,
 f15:=Tryz.func191.trans (congrArg some (by kernel_rfl)),
 f20:=⟨Tryz.f229.name,by decide,Tryz.func229.trans (congrArg some (by kernel_rfl))⟩,
 f21:=⟨Tryz.f230.name,by decide,Tryz.func230.trans (congrArg some (by kernel_rfl))⟩,
 f22:=⟨Tryz.f231.name,by decide,Tryz.func231.trans (congrArg some (by kernel_rfl))⟩,
 f23:=⟨Tryz.f232.name,by decide,Tryz.func232.trans (congrArg some (by kernel_rfl))⟩,
 f24:=⟨Tryz.f233.name,by decide,Tryz.func233.trans (congrArg some (by kernel_rfl))⟩,
 f25:=⟨Tryz.f234.name,by decide,Tryz.func234.trans (congrArg some (by kernel_rfl))⟩,
 f26:=⟨Tryz.f235.name,by decide,Tryz.func235.trans (congrArg some (by kernel_rfl))⟩,
 f27:=⟨Tryz.f236.name,by decide,Tryz.func236.trans (congrArg some (by kernel_rfl))⟩,
 f28:=Tryz.func224.trans (congrArg some (by kernel_rfl)),
 f29:=Tryz.func225.trans (congrArg some (by kernel_rfl)),
 f46:=⟨Tryz.f246.name,by decide,Tryz.func246.trans (congrArg some (by kernel_rfl))⟩,
 f47:=Tryz.func241.trans (congrArg some (by kernel_rfl)),
 f48:=Tryz.func242.trans (congrArg some (by kernel_rfl)),
 f49:=⟨Tryz.f247.name,by decide,Tryz.func247.trans (congrArg some (by kernel_rfl))⟩,
 f50:=⟨Tryz.f248.name,by decide,Tryz.func248.trans (congrArg some (by kernel_rfl))⟩,
 f57:=⟨Tryz.f253.name,by decide,Tryz.func253.trans (congrArg some (by kernel_rfl))⟩,
 t0:=Tryz.underlying0,
 a0:=Tryz.isAgg0,
 z0:=Tryz.sizeOf0,
 v0:=Tryz.zeroValue0,
 t3:=Tryz.underlying3,
 a3:=Tryz.isAgg3,
 z3:=Tryz.sizeOf3,
 v3:=Tryz.zeroValue3,
 t4:=Tryz.underlying4,
 a4:=Tryz.isAgg4,
 z4:=Tryz.sizeOf4,
 v4:=Tryz.zeroValue4,
 t5:=Tryz.underlying5,
 a5:=Tryz.isAgg5,
 z5:=Tryz.sizeOf5,
 v5:=Tryz.zeroValue5,
 t9:=Tryz.underlying9,
 a9:=Tryz.isAgg9,
 z9:=Tryz.sizeOf9,
 v9:=Tryz.zeroValue9,
 t22:=Tryz.underlying109,
 a22:=Tryz.isAgg109,
 z22:=Tryz.sizeOf109,
 v22:=Tryz.zeroValue109,
 a24:=Tryz.isAgg107,
 z24:=Tryz.sizeOf107,
 t25:=Tryz.underlying256,
 a25:=Tryz.isAgg256,
 z25:=Tryz.sizeOf256,
 v25:=Tryz.zeroValue256,
 t39:=Tryz.underlying279,
 a39:=Tryz.isAgg279,
 z39:=Tryz.sizeOf279,
 v39:=Tryz.zeroValue279,
 t45:=Tryz.underlying307,
 a45:=Tryz.isAgg307,
 z45:=Tryz.sizeOf307,
 v45:=Tryz.zeroValue307,
 t46:=Tryz.underlying308,
 a46:=Tryz.isAgg308,
 z46:=Tryz.sizeOf308,
 v46:=Tryz.zeroValue308,
 t50:=Tryz.underlying312,
 a50:=Tryz.isAgg312,
 z50:=Tryz.sizeOf312,
 v50:=Tryz.zeroValue312,
 t53:=Tryz.underlying118,
 a53:=Tryz.isAgg118,
 z53:=Tryz.sizeOf118,
 v53:=Tryz.zeroValue118,
 t55:=Tryz.underlying316,
 a55:=Tryz.isAgg316,
 z55:=Tryz.sizeOf316,
 v55:=Tryz.zeroValue316,
 t66:=Tryz.underlying338,
 a66:=Tryz.isAgg338,
 z66:=Tryz.sizeOf338,
 v66:=Tryz.zeroValue338,
 t70:=Tryz.underlying342,
 a70:=Tryz.isAgg342,
 z70:=Tryz.sizeOf342,
 v70:=Tryz.zeroValue342,
 t76:=Tryz.underlying356,
 a76:=Tryz.isAgg356,
 z76:=Tryz.sizeOf356,
 v76:=Tryz.zeroValue356,
 t77:=Tryz.underlying357,
 a77:=Tryz.isAgg357,
 z77:=Tryz.sizeOf357,
 v77:=Tryz.zeroValue357}
end Go.Proofs
namespace TS
open Go Go.RowKit
def vw(aG:Nat→ByteArray)(i:Nat)(F:Value→Option Value):Prop:=∀s:ByteArray,F (.string s)≠none→∃j,j<i∧aG j=s
end TS
namespace Go.Proofs.YtdkmnkjhhhmglaaGreatDoor
open Go.RowKit TS Go.ChangeMaps
theorem vz{w:World}{a:Addr}{v:Value}{b:Nat}(h:∃cs T,w.heap[b]?=some (.cells cs T (0,0))):∃cs T,(w.setCell a v).heap[b]?=some (.cells cs T (0,0)):=by
 obtain⟨cs,T,h⟩:=h;by_cases e:b=a.block
 ·subst e
  refine⟨if a.spot.isSome then cs else cs.setIfInBounds a.off v,T,?_⟩;unfold World.setCell;simp only[Array.getElem?_modify,if_pos rfl,h];rfl
 ·exact⟨cs,T,by rw[Below.heap_setCell _ _ _ _ e];exact h⟩
theorem Cn(a a':Option Addr)(n c c':Nat)(f:Nat→Nat)(aG:Nat→ByteArray)(qs:Nat→Option Addr)(w:World)(hn:n≤1099511627776)(hT:br w)(ha:∀x,a=some x→x.spot=none)(hp:bw w a n f)
 (h1:∀i,i<n→w.cell? ⟨f i,1,none⟩=some (.pointer (qs i)))(h2:∀i,i<n→w.cell? ⟨f i,2,none⟩=some (.string (aG i)))(hB:∀i,i<n→aM (aG i)=true)(hd:∀i j,i<j→j<n→aG i≠aG j):
 Calls Tryz.prog 135 #[.slice a n c,.slice a' n c'] w fun e R=> ∃b a2,e= .returned (.pointer (some ⟨b,0,none⟩))∧w.heap.size≤b∧R.cell? ⟨b,0,none⟩=some (.slice a2 n (if a=none then 0 else c))∧(a=none∨a2=a)∧R.cell? ⟨b,1,none⟩=some (.slice a' n c')∧Below w.heap.size w R∧∃cs T,R.heap[b]?=some (.cells cs T (0,0)):=by
 have J:=Lib.hid hp;have S:=Lib.hid h1;have U:=Lib.hid h2;have G:=Lib.hid hB;have V:=Lib.hid hd;have W:=Lib.hid hT;have PS:=Lib.hid ha;clear hp h1 h2 hB hd hT ha;go_enter Tryz.func135,Tryz.ntmps135;go_wp2_with fail
 go_loopw [11] (fun i wr=> ∃(k:Nat)(m:Option Nat)(F:Value→Option Value),k≤n∧i= .int .i64 k∧gH wr w.heap.size m F∧vw aG k F∧(∀t,m=some t→w.heap.size<t)∧Below w.heap.size w wr∧w.heap.size<wr.heap.size) (fun i _=>n- (intOf i).toNat)
 case atStart=>
  refine⟨0,none,fun _=>none,Nat.zero_le _,rfl,⟨by simp[go_sem],by simp[go_sem],fun _=>rfl,fun t h=>(by cases h)⟩,fun s h=>absurd rfl h,fun t h=>(by cases h),(Below.refl _ _).alloc (Nat.le_refl _) _,by simp⟩
 case round=>
  obtain⟨k,m,F,hk,rfl,hO,hN,hm,K,PT⟩:=hrel;have l:=Lib.hid hO;have L:=Lib.hid hN;have C:=Lib.hid hm;have g:=Lib.hid K;clear hO hN hm K;by_cases o:k<n
  ·have PR:(k:Int)<n:=by omega
   obtain⟨ab,ao,rfl,H⟩:=J.out k o;have hc:=(g.out.cell (p:=⟨ab,ao+k,none⟩) (World.block_lt_of_cell? _ _ H)).trans H;have u:=U.out k o;have M:=(g.out.cell (p:=⟨f k,2,none⟩) (World.block_lt_of_cell? _ _ u)).trans u;have y:=S.out k o;have N:=Lib.hid ((g.out.cell (p:=⟨f k,1,none⟩) (World.block_lt_of_cell? _ _ y)).trans y);have PU:((aG k).toList== [95])=false:=by
    obtain⟨x,r,hx,O,D⟩:=uZ (G.out k o);rw[Lib.toList_data,hx];cases X:(x::r== [95])
    ·rfl
    ·have:=(List.cons.inj (eq_of_beq X)).1
     rw[this]at D;exact absurd D (by decide)
   have P:Hid (br wr):=fun c O D=>by
    have:=W.out c O D;rw[g.out.cell (p:=⟨5,c,none⟩) (World.block_lt_of_cell? _ _ this)];exact this
   clear H u y;have E:∀(I:World)(t:Nat)(Y:Value→Option Value),Y=bF F (.string (aG k)) (.iface 96 (.pointer (some ⟨f k,0,none⟩)))→vw aG (k+1) Y:=fun I t Y e s Z=>by
    rw[e]at Z;by_cases Q:s=aG k
    ·exact⟨k,by omega,Q.symm⟩
    ·rw[ba F (fun h=>Q (by cases h;rfl))]at Z
     obtain⟨j,hj,e⟩:=L.out s Z;exact⟨j,by omega,e⟩
   have z:=Lib.hid E;clear E;match m,l,C with
   |none,l,C=>
    go_wp2_with fail
    refine(vs 96 vn w.heap.size (f k) _ (aG k) (G.out k o) F _ P.out l.out N.out M).mono ?_;rintro e I ⟨rfl,t,A,PM,q⟩;have B:=Lib.hid A;have d:=Lib.hid q;have PN:=q.size;clear A q l;go_wp2_with fail
    go_roundw
    case rel=>
     refine⟨k+1,some t,_,by omega,by go_num,B.out,z.out I t _ rfl,fun b e=> ?_,?_,by omega⟩
     ·cases e;omega
     ·exact g.out.trans ⟨d.out.os,d.out.tape,d.out.output,d.out.size,fun b hb=>d.out.block b (by omega) (by omega)⟩
    case measure=>simp[intOf];omega
   |some t,l,C=>
    have PM:=C.out t rfl;have PO:F (.string (aG k))=none:=by
     cases X:F (.string (aG k))with
     |none=>rfl
     |some v=>
      obtain⟨j,hj,e⟩:=L.out (aG k) (by rw[X];simp);exact absurd e (V.out j k hj o)
    go_wp2_with fail
    refine(vq 96 vn w.heap.size t (f k) _ (aG k) (G.out k o) F _ P.out l.out (by omega) N.out M PO).mono ?_;rintro e I ⟨rfl,A,q⟩;have B:=Lib.hid A;have d:=Lib.hid q;have PN:=q.size;clear A q l;go_wp2_with fail
    go_roundw
    case rel=>
     refine⟨k+1,some t,_,by omega,by go_num,B.out,z.out I t _ rfl,fun b e=> ?_,?_,by omega⟩
     ·cases e;omega
     ·exact g.out.trans ⟨d.out.os,d.out.tape,d.out.output,d.out.size,fun b hb=>d.out.block b (by omega) (by omega)⟩
    case measure=>simp[intOf];omega
  ·have PV:¬(k:Int)<n:=by omega
   go_wp2_with fail
   cases a with
   |none=>
    refine(Cm wr.heap.size n c _ (by simp[go_sem]) (by simp[go_sem])).mono ?_;rintro e I ⟨rfl,rfl⟩;go_wp2_with fail
    go_ret;have PQ:n=0:=by
     rcases Nat.eq_zero_or_pos n with h|h
     ·exact h
     ·obtain⟨_,_,e,_⟩:=J.out 0 h;cases e
    subst PQ;refine⟨wr.heap.size,rfl,(by omega),⟨some ⟨wr.heap.size+1,0,none⟩,(by simp[go_sem])⟩,(by simp[go_sem]),?_,?_⟩
    ·have:=g.out
     (repeat(first|with_reducible exact this|with_reducible refine Below.setCell ?_ ?_ _|with_reducible refine Below.alloc ?_ ?_ _|with_reducible refine Below.drew ?_));all_goals (first|omega|(simp;done)|(simp;omega))
    ·repeat(first|exact qO (by first|omega|(simp only[World.size_alloc];done)|(simp only[World.size_alloc];omega))|refine qP ?_|refine vz ?_)
   |some x=>
    refine(Ck wr.heap.size x n c _ (by simp[go_sem])).mono ?_;rintro e I ⟨rfl,rfl⟩;go_wp2_with fail
    go_ret;refine⟨wr.heap.size,rfl,(by omega),some x,(by simp[go_sem]),rfl,(by simp[go_sem]),?_,?_⟩
    ·have:=g.out
     (repeat(first|with_reducible exact this|with_reducible refine Below.setCell ?_ ?_ _|with_reducible refine Below.alloc ?_ ?_ _|with_reducible refine Below.drew ?_));all_goals (first|omega|(simp;done)|(simp;omega))
    ·repeat(first|exact qO (by first|omega|(simp only[World.size_alloc];done)|(simp only[World.size_alloc];omega))|refine qP ?_|refine vz ?_)
end Go.Proofs.YtdkmnkjhhhmglaaGreatDoor
namespace Go.Proofs.YtdkmnkjhhhmglaaGreatDoor
open Go.RowKit TS
def bV(t:TypeId):Prop:=∃a i j,Tryz.prog.underlying t=some (.pointer a)∧Tryz.prog.info? t=some i∧i.comparable=true∧Tryz.prog.info? a=some j∧j.size≠0
theorem eW{t a:TypeId}(h:Tryz.prog.underlying t=some (.pointer a))(h1:(Tryz.prog.info? t).map (·.comparable)=some true)(h2:(Tryz.prog.info? a).map (fun j=>j.size !=0)=some true):bV t:=by
 obtain⟨i,hi,b⟩:=Option.map_eq_some_iff.1 h1;obtain⟨j,c,d⟩:=Option.map_eq_some_iff.1 h2;exact⟨a,i,j,h,hi,b,c,by simpa using d⟩
theorem Co:bV 99:=eW Tryz.underlying99 (by kernel_rfl) (by kernel_rfl)
theorem Cp:bV 138:=eW Tryz.underlying138 (by kernel_rfl) (by kernel_rfl)
theorem Cq:bV 140:=eW Tryz.underlying140 (by kernel_rfl) (by kernel_rfl)
theorem Cr:bV 167:=eW Tryz.underlying167 (by kernel_rfl) (by kernel_rfl)
theorem Cs:bV 142:=eW Tryz.underlying142 (by kernel_rfl) (by kernel_rfl)
theorem Ct:bV 102:=eW Tryz.underlying102 (by kernel_rfl) (by kernel_rfl)
theorem Cu:bV 144:=eW Tryz.underlying144 (by kernel_rfl) (by kernel_rfl)
theorem Cv:bV 146:=eW Tryz.underlying146 (by kernel_rfl) (by kernel_rfl)
theorem mS:bV 44:=eW Tryz.underlying44 (by kernel_rfl) (by kernel_rfl)
theorem Cw:bV 58:=eW Tryz.underlying58 (by kernel_rfl) (by kernel_rfl)
theorem vA:bV 185:=eW Tryz.underlying185 (by kernel_rfl) (by kernel_rfl)
theorem oQ:bV 103:=eW Tryz.underlying103 (by kernel_rfl) (by kernel_rfl)
theorem Cy:bV 136:=eW Tryz.underlying136 (by kernel_rfl) (by kernel_rfl)
theorem Cz:bV 65:=eW Tryz.underlying65 (by kernel_rfl) (by kernel_rfl)
theorem lA{t:TypeId}(h:bV t)(w:World)(b c:Nat)(a:Plain w b)(d:Plain w c):(binOp .eql t (.pointer (some ⟨b,0,none⟩)) (.pointer (some ⟨c,0,none⟩))).run Tryz.prog w= .ok (.bool (decide (b=c))) w:=by
 obtain⟨n,i,j,f,hi,k,g,l⟩:=h;by_cases e:b=c
 ·subst e;rw[run_eql_ptr_same w _ f g];simp
 ·obtain⟨cs,T,a⟩:=a
  obtain⟨m,T',d⟩:=d;rw[run_eql_ptr_other w f g l (fun h=>e (by cases h;rfl)) a d];simp[e]
theorem mT{t t':TypeId}(h:bV t)(w:World)(b c:Nat)(f:Plain w b)(g:Plain w c):
 (binOp .eql 38 (.iface t (.pointer (some ⟨b,0,none⟩))) (.iface t' (.pointer (some ⟨c,0,none⟩)))).run Tryz.prog w= .ok (.bool (decide (t=t'∧b=c))) w:=by
 obtain⟨q,i,j,l,hi,a,m,n⟩:=h;by_cases k:t=t'
 ·subst k
  by_cases e:b=c
  ·subst e;rw[run_eql_iface_ptr_same w _ Tryz.underlying38 l hi a m];simp
  ·obtain⟨cs,T,f⟩:=f
   obtain⟨o,T',g⟩:=g;rw[run_eql_iface_ptr_other w Tryz.underlying38 l hi a m n (fun h=>e (by cases h;rfl)) f g];simp[e]
 ·have p:∀d,(Op.equalIn (d+1) 38 (.iface t (.pointer (some ⟨b,0,none⟩))) (.iface t' (.pointer (some ⟨c,0,none⟩)))).run Tryz.prog w= .ok false w:=fun d=>by simp[Op.equalIn,run_underlying Tryz.underlying38,k]
  simp only[binOp];simp[Op.equal,Op.maxDepth,p 9999,k]
theorem vC(b n c:Nat)(a:Option Addr)(w:World)(f:w.cell? ⟨b,0,none⟩=some (.slice a n c)):Calls Tryz.prog 96 #[.pointer (some ⟨b,0,none⟩)] w fun e d=>e= .returned (.int .i64 n)∧w=d:=by
 go_enter Tryz.func96,Tryz.ntmps96;go_wp2_with fail
 go_ret;exact⟨rfl,rfl⟩
theorem CA(b n c i:Nat)(a d:Nat)(s:ByteArray)(w:World)(h1:w.cell? ⟨b,1,none⟩=some (.slice (some ⟨a,d,none⟩) n c))(hi:i<n)(h:w.cell? ⟨a,d+i,none⟩=some (.string s)):
 Calls Tryz.prog 97 #[.pointer (some ⟨b,0,none⟩),.int .i64 i] w fun e f=>e= .returned (.string s)∧w=f:=by
 have g:(i:Int)<n:=by omega
 go_enter Tryz.func97,Tryz.ntmps97;go_wp2_with fail
 go_ret;exact⟨rfl,rfl⟩
theorem CB(b:Nat)(s:ByteArray)(a:aM s=true)(w:World)(hT:br w)(h2:w.cell? ⟨b,2,none⟩=some (.string s)):Calls Tryz.prog 147 #[.pointer (some ⟨b,0,none⟩)] w fun e c=>e= .returned (.bool true)∧w=c:=by
 have d:=Lib.hid (oO s a w hT);clear a hT;go_enter Tryz.func147,Tryz.ntmps147;go_wp2_with fail
 refine d.out.mono ?_;rintro e c ⟨rfl,rfl⟩;go_wp2_with fail
 go_ret;exact⟨rfl,rfl⟩
theorem CC(b:Nat)(q:Option Addr)(s t:ByteArray)(a:aM s=true)(w:World)(hT:br w)(h2:w.cell? ⟨b,2,none⟩=some (.string s)):
 Calls Tryz.prog 98 #[.pointer (some ⟨b,0,none⟩),.pointer q,.string t,.bool false] w fun e c=>e= .returned (.bool (s.toList==t.toList))∧w=c:=by
 have d:=Lib.hid (CB b s a w hT h2);clear a hT;cases f:(s.toList==t.toList)
 ·go_enter Tryz.func98,Tryz.ntmps98
  go_wp2_with fail
  go_ret;exact⟨rfl,rfl⟩
 ·go_enter Tryz.func98,Tryz.ntmps98
  go_wp2_with fail
  refine d.out.mono ?_;rintro e c ⟨rfl,rfl⟩;go_wp2_with fail
  go_ret;exact⟨rfl,rfl⟩
theorem mU(tb n c:Nat)(a:Option Addr)(w:World)(d:w.cell? ⟨tb,0,none⟩=some (.slice a n c)):Calls Tryz.prog 99 #[.pointer (some ⟨tb,0,none⟩)] w fun e b=>e= .returned (.int .i64 n)∧w=b:=by
 go_enter Tryz.func99,Tryz.ntmps99;go_wp2_with fail
 go_ret;exact⟨rfl,rfl⟩
theorem vD(w:World):Calls Tryz.prog 99 #[.pointer none] w fun e a=>e= .returned (.int .i64 0)∧w=a:=by
 go_enter Tryz.func99,Tryz.ntmps99;go_wp2_with fail
 go_ret;exact⟨rfl,rfl⟩
theorem qU(b tb:Nat)(q:Option Addr)(pos:Int)(w:World)(c:w.cell? ⟨b,6,none⟩=some (.pointer (some ⟨tb,0,none⟩))):
 Calls Tryz.prog 74 #[.pointer q,.int .i64 pos,.pointer (some ⟨b,0,none⟩)] w fun e a=>e= .returned (.pointer (some ⟨tb,0,none⟩))∧w=a:=by
 go_enter Tryz.func74,Tryz.ntmps74;go_wp2_with fail
 go_ret;exact⟨rfl,rfl⟩
theorem kB(b tb:Nat)(w:World)(d:w.cell? ⟨b,0,none⟩=some (.pointer none))(c:w.cell? ⟨b,6,none⟩=some (.pointer (some ⟨tb,0,none⟩))):
 Calls Tryz.prog 44 #[.pointer (some ⟨b,0,none⟩)] w fun e a=>e= .returned (.pointer (some ⟨tb,0,none⟩))∧w=a:=by
 go_enter Tryz.func44,Tryz.ntmps44;go_wp2_with fail
 refine(qU b tb none 0 _ c).mono ?_;rintro e a ⟨rfl,rfl⟩;go_wp2_with fail
 go_ret;exact⟨rfl,rfl⟩
end Go.Proofs.YtdkmnkjhhhmglaaGreatDoor
namespace TS
open Go Go.RowKit
theorem Plain.drewN{w:World}{b:Nat}(h:Plain w b)(n:Nat):Plain (w.drewN n) b:=h
end TS
namespace Go.Proofs.YtdkmnkjhhhmglaaGreatDoor
open Go.RowKit TS
theorem lB(a:Option Addr)(n c:Nat)(f:Nat→Nat)(w:World)(d:bw w a n f):Calls Tryz.prog 188 #[.slice a n c] w fun e j=>e= .returned (.bool (decide (n=0)))∧w=j:=by
 by_cases b:n=0
 ·subst b
  go_enter Tryz.func188,Tryz.ntmps188;go_wp2_with fail
  go_loopw [7] (fun i wr=>i= .int .i64 0∧wr=w) (fun _ _=>0)
  case atStart=>exact⟨rfl,rfl⟩
  case round=>
   obtain⟨rfl,rfl⟩:=hrel;go_wp2_with fail
   go_ret;exact⟨rfl,rfl⟩
 ·obtain⟨l,m,rfl,k⟩:=d 0 (by omega)
  simp only[Nat.add_zero]at k;have g:(0:Int)<n:=by omega
  have h:decide (n=0)=false:=by simp[b]
  rw[h];clear d b h;go_enter Tryz.func188,Tryz.ntmps188;go_wp2_with fail
  go_loopw [7] (fun i wr=>i= .int .i64 0∧wr=w) (fun _ _=>0)
  case atStart=>exact⟨rfl,rfl⟩
  case round=>
   obtain⟨rfl,rfl⟩:=hrel;go_wp2_with fail
   go_ret;exact⟨rfl,rfl⟩
theorem vE(a:Option Addr)(n c:Nat)(f:Nat→Nat)(w:World)(b:bw w a n f)(g:0<n)(h1:w.cell? ⟨f 0,1,none⟩=some .nilIface):Calls Tryz.prog 151 #[.slice a n c] w fun e h=>e= .returned (.bool true)∧w=h:=by
 obtain⟨k,l,rfl,j⟩:=b 0 g;simp only[Nat.add_zero]at j;have d:(0:Int)<n:=by omega
 clear b;go_enter Tryz.func151,Tryz.ntmps151;go_wp2_with fail
 go_loopw [7] (fun i wr=>i= .int .i64 0∧wr=w) (fun _ _=>0)
 case atStart=>exact⟨rfl,rfl⟩
 case round=>
  obtain⟨rfl,rfl⟩:=hrel;go_wp2_with fail
  go_ret;exact⟨rfl,rfl⟩
theorem vF(a:Option Addr)(n c:Nat)(f:Nat→Nat)(w:World)(o:n≤1099511627776)(h:bw w a n f)(h1:∀i,i<n→∃t x,w.cell? ⟨f i,1,none⟩=some (.iface t x)):Calls Tryz.prog 151 #[.slice a n c] w fun e l=>e= .returned (.bool false)∧w=l:=by
 have d:=Lib.hid h;have g:=Lib.hid h1;clear h h1;go_enter Tryz.func151,Tryz.ntmps151;go_wp2_with fail
 go_loopw [7] (fun i wr=> ∃k:Nat,k≤n∧i= .int .i64 k∧wr=w) (fun i _=>n- (intOf i).toNat)
 case atStart=>exact⟨0,Nat.zero_le _,rfl,rfl⟩
 case round=>
  obtain⟨k,hk,rfl,rfl⟩:=hrel;by_cases b:k<n
  ·have j:(k:Int)<n:=by omega
   obtain⟨p,q,rfl,r⟩:=d.out k b;obtain⟨t,x,s⟩:=g.out k b;go_wp2_with fail
   refine⟨⟨k+1,by omega,by go_num,trivial⟩,?_⟩;first|omega|(simp[intOf];omega)
  ·have m:¬(k:Int)<n:=by omega
   go_wp2_with fail
   go_ret;exact⟨rfl,rfl⟩
theorem vG(x y:Nat)(w:World)(b:w.cell? ⟨y,1,none⟩=some .nilIface):Calls Tryz.prog 215 #[.pointer (some ⟨x,0,none⟩),.pointer (some ⟨y,0,none⟩)] w fun e a=>e= .returned (.bool true)∧w=a:=by
 go_enter Tryz.func215,Tryz.ntmps215;go_wp2_with fail
 go_ret;exact⟨rfl,rfl⟩
theorem CD(a:Option Addr)(n c x:Nat)(f:Nat→Nat)(w:World)(b:bw w a n f)(h:0<n)(h1:w.cell? ⟨f 0,1,none⟩=some .nilIface):
 Calls Tryz.prog 189 #[.slice a n c,.pointer (some ⟨x,0,none⟩)] w fun e d=>e= .returned (.bool true)∧w=d:=by
 obtain⟨k,l,rfl,j⟩:=b 0 h;simp only[Nat.add_zero]at j;have g:(0:Int)<n:=by omega
 clear b;go_enter Tryz.func189,Tryz.ntmps189;go_wp2_with fail
 go_loopw [9] (fun i wr=>i= .int .i64 0∧wr=w) (fun _ _=>0)
 case atStart=>exact⟨rfl,rfl⟩
 case round=>
  obtain⟨rfl,rfl⟩:=hrel;go_wp2_with fail
  refine(vG _ _ _ h1).mono ?_;rintro e d ⟨rfl,rfl⟩;go_wp2_with fail
  go_ret;exact⟨rfl,rfl⟩
theorem vH(a a':Option Addr)(n d c c':Nat)(f g:Nat→Nat)(w:World)(u:n≤1099511627776)(m:bw w a n f)(b:bw w a' d g)(h:0<d)(h1:w.cell? ⟨g 0,1,none⟩=some .nilIface):
 Calls Tryz.prog 149 #[.slice a n c,.slice a' d c'] w fun e j=>e= .returned (.bool true)∧w=j:=by
 have o:=Lib.hid (lB a' d c' g w b);have p:decide (d=0)=false:=by simp;omega
 rw[p]at o;have r:=Lib.hid fun x=>CD a' d c' x g w b h h1;have s:=Lib.hid m;clear m b h1 p;go_enter Tryz.func149,Tryz.ntmps149;go_wp2_with fail
 refine o.out.mono ?_;rintro e j ⟨rfl,rfl⟩;go_wp2_with fail
 go_loopw [13] (fun i wr=> ∃k:Nat,k≤n∧i= .int .i64 k∧wr=w) (fun i _=>n- (intOf i).toNat)
 case atStart=>exact⟨0,Nat.zero_le _,rfl,rfl⟩
 case round=>
  obtain⟨k,hk,rfl,rfl⟩:=hrel;by_cases l:k<n
  ·have q:(k:Int)<n:=by omega
   obtain⟨v,y,rfl,z⟩:=s.out k l;go_wp2_with fail
   refine(r.out _).mono ?_;rintro e j ⟨rfl,rfl⟩;go_wp2_with fail
   refine⟨⟨k+1,by omega,by go_num,trivial⟩,?_⟩;first|omega|(simp[intOf];omega)
  ·have t:¬(k:Int)<n:=by omega
   go_wp2_with fail
   go_ret;exact⟨rfl,rfl⟩
theorem CE(a a':Option Addr)(n d c c':Nat)(f h:Nat→Nat)(w:World)(o:n≤1099511627776)(i:d≤1099511627776)(j:bw w a n f)(b:bw w a' d h)(p:0<n)(k:0<d)(h1:w.cell? ⟨f 0,1,none⟩=some .nilIface)(g:w.cell? ⟨h 0,1,none⟩=some .nilIface):
 Calls Tryz.prog 101 #[.slice a n c,.slice a' d c'] w fun e l=>e= .returned (.bool true)∧w=l:=by
 have q:=Lib.hid (vH a a' n d c c' f h w o j b k g);have m:=Lib.hid (vH a' a d n c' c h f w i b j p h1);clear j b h1 g;go_enter Tryz.func101,Tryz.ntmps101;go_wp2_with fail
 refine q.out.mono ?_;rintro e l ⟨rfl,rfl⟩;go_wp2_with fail
 refine m.out.mono ?_;rintro e l ⟨rfl,rfl⟩;go_wp2_with fail
 go_ret;exact⟨rfl,rfl⟩
theorem CF(b c ob oc:Nat)(w:World)(h1:w.cell? ⟨b,1,none⟩=some (.pointer (some ⟨ob,0,none⟩)))(h2:w.cell? ⟨c,1,none⟩=some (.pointer (some ⟨oc,0,none⟩)))(a:Plain w ob)(d:Plain w oc):
 Calls Tryz.prog 104 #[.pointer (some ⟨b,0,none⟩),.pointer (some ⟨c,0,none⟩)] w fun e f=>e= .returned (.bool (decide (ob=oc)))∧∃n,f=w.drewN n:=by
 have he:=fun n=>lA Cz (w.drewN n) ob oc (a.drewN n) (d.drewN n);clear a d;go_enter Tryz.func104,Tryz.ntmps104;go_wp2_with fail
 go_quiet (fail)
 go_wp2_with fail
 go_ret;exact⟨rfl,_,rfl⟩
theorem CG(s q x y b c:Nat)(w:World)(t:w.cell? ⟨s,0,none⟩=some (.pointer (some ⟨x,0,none⟩)))(h1:w.cell? ⟨s,1,none⟩=some (.pointer (some ⟨y,0,none⟩)))(h2:w.cell? ⟨q,0,none⟩=some (.pointer (some ⟨b,0,none⟩)))(h3:w.cell? ⟨q,1,none⟩=some (.pointer (some ⟨c,0,none⟩)))
 (h:Plain w x)(l:Plain w y)(j:Plain w b)(k:Plain w c)(m:x≠b)(d:x=c→y≠b):
 Calls Tryz.prog 102 #[.pointer (some ⟨s,0,none⟩),.pointer (some ⟨q,0,none⟩)] w fun e r=>e= .returned (.bool false)∧∃n,r=w.drewN n:=by
 have o:=fun n=>lA mS (w.drewN n) x b (h.drewN n) (j.drewN n);have f:decide (x=b)=false:=by simp[m]
 rw[f]at o;by_cases e:x=c
 ·have g:=fun n=>lA mS (w.drewN n) x c (h.drewN n) (k.drewN n)
  have p:=fun n=>lA mS (w.drewN n) y b (l.drewN n) (j.drewN n);have a:decide (x=c)=true:=by simp[e]
  have i:decide (y=b)=false:=by simp[d e]
  rw[a]at g;rw[i]at p;clear h l j k m d e f a i;go_enter Tryz.func102,Tryz.ntmps102;go_wp2_with fail
  go_quiet (fail)
  go_wp2_with fail
  go_ret;exact⟨rfl,_,rfl⟩
 ·have g:=fun n=>lA mS (w.drewN n) x c (h.drewN n) (k.drewN n)
  have a:decide (x=c)=false:=by simp[e]
  rw[a]at g;clear h l j k m d e f a;go_enter Tryz.func102,Tryz.ntmps102;go_wp2_with fail
  go_quiet (fail)
  go_wp2_with fail
  go_ret;exact⟨rfl,_,rfl⟩
end Go.Proofs.YtdkmnkjhhhmglaaGreatDoor
namespace TS
open Go Go.RowKit Go.Sort
def au(w a:World):Prop:=∃(n:Nat)(os:Array Obj),a=grow (w.drewN n) os
theorem au.refl(w:World):au w w:=⟨0,#[],by simp[World.drewN]⟩
theorem au.drewN(w:World)(n:Nat):au w (w.drewN n):=⟨n,#[],by simp⟩
theorem au.of(w:World)(n:Nat)(os:Array Obj):au w (grow (w.drewN n) os):=⟨n,os,rfl⟩
theorem au.alloc(w:World)(o:Obj):au w (w.alloc o):=⟨0,#[o],by rw[alloc_eq_grow];rfl⟩
theorem au.trans{a b c:World}(h:au a b)(k:au b c):au a c:=by
 obtain⟨n,os,rfl⟩:=h;obtain⟨m,d,rfl⟩:=k;exact⟨n+m,os++d,by show grow (grow ((a.drewN n).drewN m) os) d=_;rw[grow_grow,World.drewN_drewN]⟩
theorem au.block{w a:World}(h:au w a){b:Nat}(c:b<w.heap.size):a.heap[b]?=w.heap[b]?:=by
 obtain⟨n,os,rfl⟩:=h;exact heap_grow_old (w.drewN n) os c
theorem au.size{w a:World}(h:au w a):w.heap.size≤a.heap.size:=by
 obtain⟨n,os,rfl⟩:=h;rw[size_grow];exact Nat.le_add_right _ _
theorem au.below{w a:World}(h:au w a):Below w.heap.size w a:=by
 have b:=h.size;have c:=fun k (hk:k<w.heap.size)=>h.block hk;obtain⟨n,os,rfl⟩:=h;exact⟨rfl,rfl,rfl,b,c⟩
theorem au.cell{w b:World}(h:au w b){a:Addr}{v:Value}(c:w.cell? a=some v):b.cell? a=some v:=by
 rw[World.cell?_of_block (w:=w) (h.block (World.block_lt_of_cell? _ _ c))];exact c
theorem au.plain{w a:World}(h:au w a){b:Nat}(d:Plain w b):Plain a b:=by
 obtain⟨cs,T,c⟩:=d;exact⟨cs,T,by rw[h.block (Array.getElem?_eq_some_iff.1 c).1];exact c⟩
theorem au.kw{w a:World}(h:au w a){p:Pm}(b:KW p w):KW p a:=b.grown h.below
theorem au.cap{w a:World}(h:au w a)(b:br w):br a:=fun c h1 h2=>h.cell (b c h1 h2)
end TS
namespace Go.Proofs.YtdkmnkjhhhmglaaGreatDoor
open Go.RowKit TS
theorem CH(c b g t':Nat)(x y st:Value)(w:World)(j:st= .pointer none∨∃s,st= .pointer (some ⟨s,0,none⟩))(k:t'≠136)(d:t'≠99)(h1:w.cell? ⟨c,1,none⟩=some (.bool false))
 (h:Calls Tryz.prog 94 #[x] w fun e a=>e= .returned (.iface 99 (.pointer (some ⟨b,0,none⟩)))∧w=a)(i:Calls Tryz.prog 94 #[y] w fun e a=>e= .returned (.iface t' (.pointer (some ⟨g,0,none⟩)))∧w=a)
 (he:(binOp .eql 38 (.iface 99 (.pointer (some ⟨b,0,none⟩))) (.iface t' (.pointer (some ⟨g,0,none⟩)))).run Tryz.prog w= .ok (.bool false) w):
 Calls Tryz.prog 43 #[.pointer (some ⟨c,0,none⟩),x,y,st] w fun e a=>e= .returned (.bool false)∧w=a:=by
 have f:=bd bE b;have l:=an bE t' g d;clear d k;go_enter Tryz.func43,Tryz.ntmps43;go_wp2_with fail
 refine h.mono ?_;rintro e a ⟨rfl,rfl⟩;go_wp2_with fail
 refine i.mono ?_;rintro e a ⟨rfl,rfl⟩;go_wp2_with fail
 go_ret;exact⟨rfl,rfl⟩
theorem CI(c b h t':Nat)(x y st:Value)(w:World)(k:st= .pointer none∨∃s,st= .pointer (some ⟨s,0,none⟩))(l:t'≠136)(d:t'≠138)(h1:w.cell? ⟨c,1,none⟩=some (.bool false))
 (i:Calls Tryz.prog 94 #[x] w fun e a=>e= .returned (.iface 138 (.pointer (some ⟨b,0,none⟩)))∧w=a)(j:Calls Tryz.prog 94 #[y] w fun e a=>e= .returned (.iface t' (.pointer (some ⟨h,0,none⟩)))∧w=a)
 (he:(binOp .eql 38 (.iface 138 (.pointer (some ⟨b,0,none⟩))) (.iface t' (.pointer (some ⟨h,0,none⟩)))).run Tryz.prog w= .ok (.bool false) w):
 Calls Tryz.prog 43 #[.pointer (some ⟨c,0,none⟩),x,y,st] w fun e a=>e= .returned (.bool false)∧w=a:=by
 have f:=an bE 138 b (by decide);have g:=bd cS b;have m:=an cS t' h d;clear d l;go_enter Tryz.func43,Tryz.ntmps43;go_wp2_with fail
 refine i.mono ?_;rintro e a ⟨rfl,rfl⟩;go_wp2_with fail
 refine j.mono ?_;rintro e a ⟨rfl,rfl⟩;go_wp2_with fail
 go_ret;exact⟨rfl,rfl⟩
theorem CJ(c b i t':Nat)(x y st:Value)(w:World)(l:st= .pointer none∨∃s,st= .pointer (some ⟨s,0,none⟩))(m:t'≠136)(d:t'≠140)(h1:w.cell? ⟨c,1,none⟩=some (.bool false))
 (j:Calls Tryz.prog 94 #[x] w fun e a=>e= .returned (.iface 140 (.pointer (some ⟨b,0,none⟩)))∧w=a)(k:Calls Tryz.prog 94 #[y] w fun e a=>e= .returned (.iface t' (.pointer (some ⟨i,0,none⟩)))∧w=a)
 (he:(binOp .eql 38 (.iface 140 (.pointer (some ⟨b,0,none⟩))) (.iface t' (.pointer (some ⟨i,0,none⟩)))).run Tryz.prog w= .ok (.bool false) w):
 Calls Tryz.prog 43 #[.pointer (some ⟨c,0,none⟩),x,y,st] w fun e a=>e= .returned (.bool false)∧w=a:=by
 have f:=an bE 140 b (by decide);have g:=an cS 140 b (by decide);have h:=bd asSlice b;have n:=an asSlice t' i d;clear d m;go_enter Tryz.func43,Tryz.ntmps43;go_wp2_with fail
 refine j.mono ?_;rintro e a ⟨rfl,rfl⟩;go_wp2_with fail
 refine k.mono ?_;rintro e a ⟨rfl,rfl⟩;go_wp2_with fail
 go_ret;exact⟨rfl,rfl⟩
theorem CK(c b j t':Nat)(x y st:Value)(w:World)(m:st= .pointer none∨∃s,st= .pointer (some ⟨s,0,none⟩))(n:t'≠136)(f:t'≠167)(h1:w.cell? ⟨c,1,none⟩=some (.bool false))
 (k:Calls Tryz.prog 94 #[x] w fun e a=>e= .returned (.iface 167 (.pointer (some ⟨b,0,none⟩)))∧w=a)(l:Calls Tryz.prog 94 #[y] w fun e a=>e= .returned (.iface t' (.pointer (some ⟨j,0,none⟩)))∧w=a)
 (he:(binOp .eql 38 (.iface 167 (.pointer (some ⟨b,0,none⟩))) (.iface t' (.pointer (some ⟨j,0,none⟩)))).run Tryz.prog w= .ok (.bool false) w):
 Calls Tryz.prog 43 #[.pointer (some ⟨c,0,none⟩),x,y,st] w fun e a=>e= .returned (.bool false)∧w=a:=by
 have g:=an bE 167 b (by decide);have h:=an cS 167 b (by decide);have i:=an asSlice 167 b (by decide);have d:=bd dg b;have o:=an dg t' j f;clear f n;go_enter Tryz.func43,Tryz.ntmps43;go_wp2_with fail
 refine k.mono ?_;rintro e a ⟨rfl,rfl⟩;go_wp2_with fail
 refine l.mono ?_;rintro e a ⟨rfl,rfl⟩;go_wp2_with fail
 go_ret;exact⟨rfl,rfl⟩
theorem CL(c b k t':Nat)(x y st:Value)(w:World)(n:st= .pointer none∨∃s,st= .pointer (some ⟨s,0,none⟩))(o:t'≠136)(g:t'≠142)(h1:w.cell? ⟨c,1,none⟩=some (.bool false))
 (l:Calls Tryz.prog 94 #[x] w fun e a=>e= .returned (.iface 142 (.pointer (some ⟨b,0,none⟩)))∧w=a)(m:Calls Tryz.prog 94 #[y] w fun e a=>e= .returned (.iface t' (.pointer (some ⟨k,0,none⟩)))∧w=a)
 (he:(binOp .eql 38 (.iface 142 (.pointer (some ⟨b,0,none⟩))) (.iface t' (.pointer (some ⟨k,0,none⟩)))).run Tryz.prog w= .ok (.bool false) w):
 Calls Tryz.prog 43 #[.pointer (some ⟨c,0,none⟩),x,y,st] w fun e a=>e= .returned (.bool false)∧w=a:=by
 have h:=an bE 142 b (by decide);have i:=an cS 142 b (by decide);have j:=an asSlice 142 b (by decide);have f:=an dg 142 b (by decide);have d:=bd cT b;have p:=an cT t' k g;clear g o;go_enter Tryz.func43,Tryz.ntmps43;go_wp2_with fail
 refine l.mono ?_;rintro e a ⟨rfl,rfl⟩;go_wp2_with fail
 refine m.mono ?_;rintro e a ⟨rfl,rfl⟩;go_wp2_with fail
 go_ret;exact⟨rfl,rfl⟩
theorem CM(c b m t':Nat)(x y st:Value)(w:World)(p:st= .pointer none∨∃s,st= .pointer (some ⟨s,0,none⟩))(q:t'≠136)(h:t'≠102)(h1:w.cell? ⟨c,1,none⟩=some (.bool false))
 (n:Calls Tryz.prog 94 #[x] w fun e d=>e= .returned (.iface 102 (.pointer (some ⟨b,0,none⟩)))∧w=d)(o:Calls Tryz.prog 94 #[y] w fun e d=>e= .returned (.iface t' (.pointer (some ⟨m,0,none⟩)))∧w=d)
 (he:(binOp .eql 38 (.iface 102 (.pointer (some ⟨b,0,none⟩))) (.iface t' (.pointer (some ⟨m,0,none⟩)))).run Tryz.prog w= .ok (.bool false) w):
 Calls Tryz.prog 43 #[.pointer (some ⟨c,0,none⟩),x,y,st] w fun e d=>e= .returned (.bool false)∧w=d:=by
 have i:=an bE 102 b (by decide);have j:=an cS 102 b (by decide);have k:=an asSlice 102 b (by decide);have g:=an dg 102 b (by decide);have f:=an cT 102 b (by decide);have l:=an asTuple 102 b (by decide);have a:=bd gG b;have r:=an gG t' m h;clear h q;go_enter Tryz.func43,Tryz.ntmps43;go_wp2_with fail
 refine n.mono ?_;rintro e d ⟨rfl,rfl⟩;go_wp2_with fail
 refine o.mono ?_;rintro e d ⟨rfl,rfl⟩;go_wp2_with fail
 go_ret;exact⟨rfl,rfl⟩
theorem CN(c b o t':Nat)(x y st:Value)(w:World)(r:st= .pointer none∨∃s,st= .pointer (some ⟨s,0,none⟩))(t:t'≠136)(i:t'≠44)(h1:w.cell? ⟨c,1,none⟩=some (.bool false))
 (p:Calls Tryz.prog 94 #[x] w fun e f=>e= .returned (.iface 44 (.pointer (some ⟨b,0,none⟩)))∧w=f)(q:Calls Tryz.prog 94 #[y] w fun e f=>e= .returned (.iface t' (.pointer (some ⟨o,0,none⟩)))∧w=f)
 (he:(binOp .eql 38 (.iface 44 (.pointer (some ⟨b,0,none⟩))) (.iface t' (.pointer (some ⟨o,0,none⟩)))).run Tryz.prog w= .ok (.bool false) w):
 Calls Tryz.prog 43 #[.pointer (some ⟨c,0,none⟩),x,y,st] w fun e f=>e= .returned (.bool false)∧w=f:=by
 have j:=an bE 44 b (by decide);have k:=an cS 44 b (by decide);have l:=an asSlice 44 b (by decide);have h:=an dg 44 b (by decide);have g:=an cT 44 b (by decide);have m:=an asTuple 44 b (by decide);have a:=an gG 44 b (by decide);have n:=an iF 44 b (by decide);have d:=bd dZ b;have u:=an dZ t' o i;clear i t;go_enter Tryz.func43,Tryz.ntmps43;go_wp2_with fail
 refine p.mono ?_;rintro e f ⟨rfl,rfl⟩;go_wp2_with fail
 refine q.mono ?_;rintro e f ⟨rfl,rfl⟩;go_wp2_with fail
 go_ret;exact⟨rfl,rfl⟩
theorem CO(c b o t':Nat)(x y st:Value)(w:World)(t:st= .pointer none∨∃s,st= .pointer (some ⟨s,0,none⟩))(u:t'≠136)(i:t'≠144)(h1:w.cell? ⟨c,1,none⟩=some (.bool false))
 (p:Calls Tryz.prog 94 #[x] w fun e f=>e= .returned (.iface 144 (.pointer (some ⟨b,0,none⟩)))∧w=f)(q:Calls Tryz.prog 94 #[y] w fun e f=>e= .returned (.iface t' (.pointer (some ⟨o,0,none⟩)))∧w=f)
 (he:(binOp .eql 38 (.iface 144 (.pointer (some ⟨b,0,none⟩))) (.iface t' (.pointer (some ⟨o,0,none⟩)))).run Tryz.prog w= .ok (.bool false) w):
 Calls Tryz.prog 43 #[.pointer (some ⟨c,0,none⟩),x,y,st] w fun e f=>e= .returned (.bool false)∧w=f:=by
 have j:=an bE 144 b (by decide);have k:=an cS 144 b (by decide);have l:=an asSlice 144 b (by decide);have h:=an dg 144 b (by decide);have g:=an cT 144 b (by decide);have m:=an asTuple 144 b (by decide);have a:=an gG 144 b (by decide);have n:=an iF 144 b (by decide);have d:=an dZ 144 b (by decide);have r:=bd jA b;have v:=an jA t' o i;clear i u;go_enter Tryz.func43,Tryz.ntmps43;go_wp2_with fail
 refine p.mono ?_;rintro e f ⟨rfl,rfl⟩;go_wp2_with fail
 refine q.mono ?_;rintro e f ⟨rfl,rfl⟩;go_wp2_with fail
 go_ret;exact⟨rfl,rfl⟩
theorem CP(c b p t':Nat)(x y st:Value)(w:World)(u:st= .pointer none∨∃s,st= .pointer (some ⟨s,0,none⟩))(v:t'≠136)(i:t'≠146)(h1:w.cell? ⟨c,1,none⟩=some (.bool false))
 (q:Calls Tryz.prog 94 #[x] w fun e f=>e= .returned (.iface 146 (.pointer (some ⟨b,0,none⟩)))∧w=f)(r:Calls Tryz.prog 94 #[y] w fun e f=>e= .returned (.iface t' (.pointer (some ⟨p,0,none⟩)))∧w=f)
 (he:(binOp .eql 38 (.iface 146 (.pointer (some ⟨b,0,none⟩))) (.iface t' (.pointer (some ⟨p,0,none⟩)))).run Tryz.prog w= .ok (.bool false) w):
 Calls Tryz.prog 43 #[.pointer (some ⟨c,0,none⟩),x,y,st] w fun e f=>e= .returned (.bool false)∧w=f:=by
 have j:=an bE 146 b (by decide);have k:=an cS 146 b (by decide);have l:=an asSlice 146 b (by decide);have h:=an dg 146 b (by decide);have g:=an cT 146 b (by decide);have m:=an asTuple 146 b (by decide);have a:=an gG 146 b (by decide);have n:=an iF 146 b (by decide);have d:=an dZ 146 b (by decide);have t:=an jA 146 b (by decide);have o:=bd eA b;have z:=an eA t' p i;clear i v;go_enter Tryz.func43,Tryz.ntmps43;go_wp2_with fail
 refine q.mono ?_;rintro e f ⟨rfl,rfl⟩;go_wp2_with fail
 refine r.mono ?_;rintro e f ⟨rfl,rfl⟩;go_wp2_with fail
 go_ret;exact⟨rfl,rfl⟩
theorem qV(c b q t':Nat)(x y st:Value)(w:World)(z:st= .pointer none∨∃s,st= .pointer (some ⟨s,0,none⟩))(v:t'≠136)(i:t'≠58)(h1:w.cell? ⟨c,1,none⟩=some (.bool false))
 (r:Calls Tryz.prog 94 #[x] w fun e f=>e= .returned (.iface 58 (.pointer (some ⟨b,0,none⟩)))∧w=f)(t:Calls Tryz.prog 94 #[y] w fun e f=>e= .returned (.iface t' (.pointer (some ⟨q,0,none⟩)))∧w=f)
 (he:(binOp .eql 38 (.iface 58 (.pointer (some ⟨b,0,none⟩))) (.iface t' (.pointer (some ⟨q,0,none⟩)))).run Tryz.prog w= .ok (.bool false) w):
 Calls Tryz.prog 43 #[.pointer (some ⟨c,0,none⟩),x,y,st] w fun e f=>e= .returned (.bool false)∧w=f:=by
 have j:=an bE 58 b (by decide);have k:=an cS 58 b (by decide);have l:=an asSlice 58 b (by decide);have h:=an dg 58 b (by decide);have g:=an cT 58 b (by decide);have m:=an asTuple 58 b (by decide);have a:=an gG 58 b (by decide);have n:=an iF 58 b (by decide);have d:=an dZ 58 b (by decide);have u:=an jA 58 b (by decide);have p:=an eA 58 b (by decide);have o:=bd asNamed b;have A:=Lib.hid (qM t' (some ⟨q,0,none⟩) v i w);clear i v;go_enter Tryz.func43,Tryz.ntmps43;go_wp2_with fail
 refine r.mono ?_;rintro e f ⟨rfl,rfl⟩;go_wp2_with fail
 refine t.mono ?_;rintro e f ⟨rfl,rfl⟩;go_wp2_with fail
 refine A.out.mono ?_;rintro e f ⟨rfl,rfl⟩;go_wp2_with fail
 go_ret;exact⟨rfl,rfl⟩
end Go.Proofs.YtdkmnkjhhhmglaaGreatDoor
