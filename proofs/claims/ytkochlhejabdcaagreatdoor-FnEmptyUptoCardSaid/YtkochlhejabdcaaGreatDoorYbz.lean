import Derived.Test.YtkochlhejabdcaaGreatDoorYbw
import Derived.Test.YtkochlhejabdcaaGreatDoorYbx
set_option maxRecDepth 100000
set_option maxHeartbeats 8000000
set_option linter.all false
namespace TS
open Go Go.RowKit Go.Proofs.YtkochlhejabdcaaGreatDoor
theorem Hg{u:U}(hk:u.k=7)(h:∀e∈u.es,aM e):aM u:=by
 have hu:under u=u:=cp zo zo zo zo;rw[aM];refine⟨by rw[fA (by rw[hu];omega),hu];simp[hk],h,fun m hm=> ?_⟩;rw[fB (by rw[hu];omega)]at hm;cases hm
theorem Hh{D:Dl}{NS:List (List UInt8)}{u:U}(hk:u.k=7)(h:PV D NS u)(nm:ByteArray):PV D NS (d_ u nm):=by
 obtain⟨⟨o,f,p,j⟩,l⟩:=h;obtain⟨k,n,m,v,g,tg,es,un⟩:=u;refine⟨⟨Hg hk fun e he=>o.es (u:= .mk k n m v g tg es un) he,f,p,?_⟩,?_⟩
 ·have h1:=j.form
  have q:=j.part;unfold d_;rw[Pl];refine⟨?_,fun i hi=>q i hi,fun h=>absurd (h.symm.trans hk) zd⟩;cases h1 with
  |func _ b c d=>exact .func hk b c d
  |pre a _=>omega
  |one a _ _=>omega
  |ptr a _ _ _=>omega
  |_=>omega
 ·unfold d_
  rw[Names];exact⟨fun e he=>l.es (u:= .mk k n m v g tg es un) he,fun e he=>l.un (u:= .mk k n m v g tg es un) he⟩
theorem Hi{b:Bool}{ms:List br}{x:U}(h:x∈fJ b ms):∃m∈ms,x=d_ m.sig m.nm:=by
 unfold fJ at h;obtain⟨m,hm,rfl⟩:=List.mem_map.1 h;exact⟨m,(List.mem_filter.1 hm).1,rfl⟩
section
variable {D:Dl} {ds:List aC} {NS:List (List UInt8)}
theorem rW(R:Raw NS ds)(hlen:ds.length=D.len)(V:fI D ds):∀d∈bV ds,(∃pos f,Pl D.len d.un pos f)∧∀m∈d.ms,m.sig.k=7∧PV D NS m.sig:=fun d l=>by
 obtain⟨i,hi,rfl⟩:=List.getElem_of_mem l;have b:i<ds.length:=by rw[fH]at hi;exact hi
 have E:=ph R hlen V i;have hk:=(ry R E b).mo;have hm:=V.mt _ l;have e:=V.pl i b;unfold dM fw at e;simp only[Bool.and_eq_true,List.all_eq_true,decide_eq_true_eq]at e;rw[im ds i b]at hm⊢;unfold fS at hm;simp only[Bool.and_eq_true,List.all_eq_true]at hm;refine⟨⟨0,1,hk.pl⟩,fun m a=> ?_⟩;have j:=hm.2 m a;simp only[List.mem_map]at a;obtain⟨m0,h,rfl⟩:=a;have c:=e.1.2.1 m0 h;unfold ga at c;simp only[Bool.and_eq_true,beq_iff_eq]at c;have n:=R.ms _ (zm b) m0 h;have g:Mo D.len (aY ds) NS i (aV ((aY ds).take i) 0 m0.sig) 0 0:=(oP E (by rw[dF];omega) R.err R.emp (fun t o=>(lH R o).2) (u:=m0.sig) (q:=⟨i,false,false⟩) zs c.1.2 n.1 n.2).mo;have h7:(aV ((aY ds).take i) 0 m0.sig).k=7:=by rw[cN];exact c.1.1.2
 exact⟨h7,g.vt (g.oZ E zo zo j),g.aI⟩
end
theorem xL(n:Nat):aM (ep n)∧aM (jd (ep n)):=by
 have b:∀(u:U),u.k≠2→u.k≠10→u.k≠11→u.k≠14→u.k≠15→u.k≠16→(∀e∈u.es,aM e)→aM u:=fun u j a c d f g h=>by
  have hu:under u=u:=cp j c d f;rw[aM];refine⟨by rw[fA (by rw[hu];exact a),hu];simp[g],h,fun m hm=> ?_⟩;rw[fB (by rw[hu];exact a)]at hm;cases hm
 have l:aM (.mk 1 0 0 false ⟨#[]⟩ ⟨#[]⟩ [] []):=b _ zd zd zd zd zd zd fun e he=>by cases he
 have ha:aM (.mk 3 n 0 false ⟨#[63]⟩ ⟨#[]⟩ [.mk 1 0 0 false ⟨#[]⟩ ⟨#[]⟩ [] []] []):=b _ (show(3:Int)≠2 by decide) (show(3:Int)≠10 by decide) (show(3:Int)≠11 by decide) (show(3:Int)≠14 by decide) (show(3:Int)≠15 by decide) (show(3:Int)≠16 by decide) fun e he=>by
  obtain rfl:e=_:=List.mem_singleton.1 he;exact l
 have i:aM (ep n):=b _ (show(5:Int)≠2 by decide) (show(5:Int)≠10 by decide) (show(5:Int)≠11 by decide) (show(5:Int)≠14 by decide) (show(5:Int)≠15 by decide) (show(5:Int)≠16 by decide) fun e he=>by
  obtain rfl:e=_:=List.mem_singleton.1 he;exact ha
 exact⟨i,b _ (show(4:Int)≠2 by decide) (show(4:Int)≠10 by decide) (show(4:Int)≠11 by decide) (show(4:Int)≠14 by decide) (show(4:Int)≠15 by decide) (show(4:Int)≠16 by decide) fun e he=>by
  obtain rfl:e=_:=List.mem_singleton.1 he;exact i⟩
theorem xM{NS:List (List UInt8)}(a:ByteArray.empty.toList∈NS)(h1:(⟨#[63]⟩:ByteArray).toList∈NS)(n:Nat):Names NS (ep n)∧Names NS (jd (ep n)):=by
 have b:∀u:U,u.es= []→u.un= []→Names NS u:=fun u=>nE;have c:Names NS (ep n):=by
  unfold ep;rw[Names];refine⟨fun e he=> ?_,fun e he=> ?_⟩
  ·obtain rfl:e=_:=List.mem_singleton.1 he
   refine⟨h1,?_⟩;rw[Names];refine⟨fun e he=> ?_,fun e he=>(by cases he)⟩;obtain rfl:e=_:=List.mem_singleton.1 he;exact⟨a,b _ rfl rfl⟩
  ·obtain rfl:e=_:=List.mem_singleton.1 he
   exact b _ rfl rfl
 refine⟨c,?_⟩;unfold jd;rw[Names];refine⟨fun e he=> ?_,fun e he=>(by cases he)⟩;obtain rfl:e=_:=List.mem_singleton.1 he;exact⟨a,c⟩
end TS
namespace Go.Proofs.YtkochlhejabdcaaGreatDoor
open Go.RowKit TS
theorem Hj{D:Dl}{ds:List aC}{NS:List (List UInt8)}(R:Raw NS ds)(hlen:ds.length=D.len)(V:fI D ds)(hq:(⟨#[63]⟩:ByteArray).toList∈NS){p q:Pm}{E:Dl}{ec:Nat}{T L:List U}{es:List aC}{oa:Option Addr}{w W:World}(hT:∀x∈T,Gd D (aY ds) NS ds.length x)(hM:rN p D (bV ds) T w W q E L es oa)
 (x:U)(hx:x∈L)(Y:Option Addr)(cx:Nat)(hu:ai q E x Y cx):∃ml,jM q E ec x Y cx (je es (iu es x)) ml (PV D NS) (fun l=> ∀m∈l,PV D NS m):=by
 have Z:=nf R hlen V;have t:D.len≤E.len:=hM.dx.len;have PT:=hM.jL.len;have hold:=hM.nh.iX;have PG:∀j(P:j<es.length),∀m∈es[j].ms,m.sig.k=7∧PV D NS m.sig:=fun j P m hm=>by
  by_cases PU:j<D.len
  ·have Q:es[j]∈bV ds:=by
    rw[←hold];exact List.mem_take_iff_getElem.2 ⟨j,by omega,rfl⟩
   exact(rW R hlen V _ Q).2 m hm
  ·have:=(hM.nh.de j P zo).1
   rw[this]at hm;split at hm<;>cases hm
 have z:∀y:U,(∀m∈fW es y,Vt E.len m∧Names NS m)∧(fW es y).length≤1048576:=fun y=>by
  unfold fW;split
  ·by_cases P:(iL y).2.n.toNat<es.length
   ·have F:es.getD (iL y).2.n.toNat ⟨TS.cC,[]⟩=es[(iL y).2.n.toNat]:=by simp[List.getD,List.getElem?_eq_getElem P]
    rw[F];refine⟨fun m hm=> ?_,?_⟩
    ·obtain⟨m0,h0,rfl⟩:=Hi hm
     obtain⟨h7,hp⟩:=PG _ P m0 h0;obtain⟨⟨hv,f,hf,G⟩,hn⟩:=Hh h7 hp m0.nm;exact⟨⟨hv,f,hf,G.more t⟩,hn⟩
    ·obtain⟨_,_,_,_,_,ma,mc,_,_,_,h1,h2,_⟩:=hM.jL.at' _ P
     have:=rJ (iL y).1 es[(iL y).2.n.toNat].ms;omega
   ·have F:es.getD (iL y).2.n.toNat ⟨TS.cC,[]⟩=⟨TS.cC,[]⟩:=by simp[List.getD,List.getElem?_eq_none (show es.length≤(iL y).2.n.toNat by omega)]
    rw[F];exact⟨fun m hm=>(by cases hm),by simp[fJ]⟩
  ·exact⟨fun m hm=>(by cases hm),by simp⟩
 rcases hM.nh.ty x hx with PH|⟨j,PI,H,rfl⟩
 ·have r:=hT x PH
  have g:=r.mo.pl.form.aD;have I:iu es x=x:=by
   unfold iu;by_cases A:x.k=11
   ·have:=r.mo.bA.named A
    rw[if_neg zo]at this;obtain⟨_,_,e⟩:=this;rw[e]
   ·split
    ·exact nI A
    ·rfl
  rw[I];exact⟨_,xh R.cP t hM.jL hu (r.mo.pl.more t) zo zo r.val r.mo.aI (r.mo.mW Z zo g.1 g.2 r.val) (z x).1 (z x).2⟩
 ·obtain⟨e1,C⟩:=hM.nh.de j H PI
  obtain⟨d,hd⟩:∃d,d=es[j]:=⟨_,rfl⟩
  have I:iu es (dJ j)= .mk 11 j 0 false ⟨#[]⟩ ⟨#[]⟩ [] [d.un]:=by
   have h1:(es.map aC.un)[(j:Int).toNat]?=some d.un:=by simp[List.getElem?_eq_getElem H,hd]
   show cW (es.map aC.un) (dJ j)=_;unfold cW dJ;simp only[U.k,U.n,h1];rfl
  rw[←hd]at C;have J:(1≤d.un.k∧d.un.k≤10∧d.un.k≠2)∧Pl D.len d.un 0 1∧aM d.un∧Names NS d.un∧isIface d.un=false∧under d.un=d.un:=by
   have v:∀u:U,u.k≠2→u.k≠10→u.k≠11→u.k≠14→u.k≠15→u.k≠16→isIface u=false∧under u=u:=fun u h2 PJ A PK PL PM=>by
    have hu:=cp h2 A PK PL;exact⟨by unfold isIface;rw[hu];simp[PJ,PM],hu⟩
   rcases C with⟨y,hy,C⟩|⟨n,hn,C|C⟩
   ·have r:=hT y hy
    have g:=r.mo.pl.form.aD;obtain⟨⟨f',PN,s⟩,⟨u2,u11,u14,u15⟩,_⟩:=r.mo.eW Z zo g.1 g.2;have B:=r.no;unfold isIface at B;simp only[Bool.or_eq_false_iff,beq_eq_false_iff_ne]at B;have PW:=s.pl.form.kinds;have PX:=s.pl.form.aD;rw[C];refine⟨⟨by omega,by omega,u2⟩,?_,r.mo.mW Z zo g.1 g.2 r.val,s.aI,v _ u2 B.1 u11 u14 u15 B.2⟩;have PO:f'=1∨f'=2:=by
     have h3:=s.f2;match f',PN,h3 with
     |1,_,_=>exact .inl rfl
     |2,_,_=>exact .inr rfl
    rcases PO with rfl|rfl
    ·exact s.pl
    ·exact s.pl.Fy 1
   ·have K:(ep n).k=5:=rfl
    rw[C];exact⟨by rw[K];decide,(pd _ n).1,(xL n).1,(xM R.emp hq n).1,v _ (by rw[K];decide) (by rw[K];decide) (by rw[K];decide) (by rw[K];decide) (by rw[K];decide) (by rw[K];decide)⟩
   ·have M:(jd (ep n)).k=4:=rfl
    rw[C];exact⟨by rw[M];decide,(pd _ n).2,(xL n).2,(xM R.emp hq n).2,v _ (by rw[M];decide) (by rw[M];decide) (by rw[M];decide) (by rw[M];decide) (by rw[M];decide) (by rw[M];decide)⟩
  obtain⟨hk,G,hv,PQ,N,PR⟩:=J;have PS:ai q E (.mk 11 j 0 false ⟨#[]⟩ ⟨#[]⟩ [] [d.un]) Y cx:=by
   simp only[dJ,ai]at hu⊢;refine⟨hu.1,aq.nil,fun _ _ _=> ?_⟩;obtain⟨b,o,e,a,c,ma,mc,h7,_,S,_⟩:=hM.jL.at' j H;rw[←hd]at h7 S;exact⟨b,o,e,by simp only[ey];exact⟨a,c,by simpa using h7,S⟩⟩
  have hP:Pl E.len (.mk 11 j 0 false ⟨#[]⟩ ⟨#[]⟩ [] [d.un]) 0 1:=by
   rw[Pl];refine⟨.named rfl (Int.natCast_nonneg _) (by show(j:Int)<_;omega) rfl (by simp[U.un]) (fun _=>by simp[U.un]),fun i hi=>by simp[U.es]at hi,fun _ e he=> ?_⟩;obtain rfl:e=d.un:=by simpa [U.un]using he
   exact⟨hk,G.more t⟩
  have h:under (.mk 11 j 0 false ⟨#[]⟩ ⟨#[]⟩ [] [d.un])=d.un:=nJ rfl rfl;have O:d.un.k≠10∧d.un.k≠16:=by
   unfold isIface at N;rw[PR]at N;simpa using N
  have hV:aM (.mk 11 j 0 false ⟨#[]⟩ ⟨#[]⟩ [] [d.un]):=by
   rw[aM];refine⟨by rw[fA (by rw[h];exact O.1),h];simp[O.2],fun e he=>(by cases he),fun m hm=> ?_⟩;rw[fB (by rw[h];exact O.1)]at hm;cases hm
  have hN:Names NS (.mk 11 j 0 false ⟨#[]⟩ ⟨#[]⟩ [] [d.un]):=by
   rw[Names];refine⟨fun e he=>(by cases he),fun e he=> ?_⟩;obtain rfl:e=d.un:=by simpa [U.un]using he
   exact PQ
  rw[I];have X:=xh (ec:=ec) R.cP t hM.jL PS hP zo zo hV hN (by rw[h];exact hv) (z _).1 (z _).2;exact⟨_,X.rK,X.rL,X.str,X.rM,X.all⟩
end Go.Proofs.YtkochlhejabdcaaGreatDoor
