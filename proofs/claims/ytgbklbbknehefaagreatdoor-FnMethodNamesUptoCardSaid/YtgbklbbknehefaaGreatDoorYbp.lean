import Derived.Test.YtgbklbbknehefaaGreatDoorYbm
set_option maxRecDepth 100000
set_option maxHeartbeats 8000000
set_option linter.all false
namespace TS
open Go Go.RowKit Go.Proofs.YtgbklbbknehefaaGreatDoor
section
variable {C:BC} {p q r:Pm} {g g1 g2:Ge} {mv mv1:Value} {ms ms1 ms2:List Nat} {w w1 w2:World}
theorem C8(g:Ge){c b:Nat}(h:c≤b):aD (g.below c) (g.below b):=
 ⟨rfl,rfl,rfl,rfl,rfl,rfl,rfl,rfl,fun x u k=>by
  simp only[Ge.below]at k⊢;split at k
  ·rw[if_pos (by omega)];exact k
  ·cases k⟩
theorem C9{g:Ge}{b c:Nat}{u:U}(h:(g.below b).G c=some u):c<b∧g.G c=some u:=by
 simp only[Ge.below]at h;split at h
 ·exact⟨‹_›,h⟩
 ·cases h
theorem BS.C_(h:BS C p g mv ms w)(b:Nat)(e:∀c u,g.G c=some u→c<b→cv p (g.below c) c u):an p (g.below b) w:=
 ⟨h.wb.kw,h.wb.pl,⟨h.inj.nb,h.inj.ob,h.inj.ne,h.inj.nc,h.inj.ec,h.inj.oe,h.inj.oc,h.inj.ac⟩,h.wb.cap,fun c u k=>
  let⟨a,d⟩:=C9 k
  ⟨(h.ifs c u d).2.1,(e c u d a).sub (Sub.refl p) (C8 g (Nat.le_of_lt a))⟩,h.po,h.cD,h.cE⟩
def ga(p q:Pm)(w:World)(X:Nat→Prop):Prop:=Sub p q∧∀c o v,q c o=some v→p c o=some v∨w.heap.size≤c∨(X c∧o=6)
theorem ga.refl(p:Pm)(w:World)(X:Nat→Prop):ga p p w X:=⟨Sub.refl p,fun _ _ _ h=> .inl h⟩
theorem ga.trans{X:Nat→Prop}(h:ga p q w X)(k:ga q r w1 X)(a:w.heap.size≤w1.heap.size):ga p r w X:=
 ⟨h.1.trans k.1,fun c o v e=>by
  rcases k.2 c o v e with e|e|e
  ·exact h.2 c o v e
  ·exact .inr (.inl (by omega))
  ·exact .inr (.inr e)⟩
theorem BS.Db(h:BS C p g mv ms w){b:Nat}{u:U}(B:g.G b=some u)(d:Sub p q)(t:∀c o v,q c o=some v→p c o=some v∨w.heap.size≤c∨(c=b∧o=6))(z:an q (g.below b) w1)(hT:cv q (g.below b) b u)(j:Kept (fun c=>c=b) w w1):BS C q g mv ms w1:=by
 have hi:=h.ifs b u B;have D:=h.lp _ _ _ hi.2.1;have l:=World.block_lt_of_cell? _ _ h.c0;simp only at l;have m:C.bb≠b:=fun e=>by have:=h.pb 0;rw[e,hi.2.1]at this;cases this
 have s:mv.ownBlock≠some b:=fun e=>by have:=(h.rd _ e).2 0;rw[hi.2.1]at this;cases this
 have a:∀o,w1.cell? ⟨C.bb,o,none⟩=w.cell? ⟨C.bb,o,none⟩:=fun o=>j.cell l m;have f:∀c o,c<w.heap.size→¬(c=b∧o=6)→p c o=none→q c o=none:=fun c o h1 h2 h3=>by
  cases E:q c o with
  |none=>rfl
  |some v=>
   rcases t _ _ _ E with e|e|e
   ·rw[h3]at e;cases e
   ·omega
   ·exact absurd e h2
 refine⟨h.ka.kept j fun c o v e J=>by have:=h.la _ _ _ e;omega,h.la,⟨z.kw,z.pl,z.cap⟩,fun c o v e=> ?_,h.inj,h.gv,h.bl,fun o=>f _ _ l (by omega) (h.pb o),by rw[a];exact h.c0,?_,by rw[a];exact h.c2,by rw[a];exact h.c3,by rw[a];exact h.c4,?_,dL h.row j fun c e F=>s (by rw[e];exact congrArg some F),fun c e=>⟨(h.rd c e).1,fun o=>f _ _ (h.row.lt _ e).2 (fun k=>s (k.1▸e)) ((h.rd c e).2 o)⟩,h.ord,fun c e=>⟨Nat.lt_of_lt_of_le (h.mlt c e).1 j.size,(h.mlt c e).2⟩,fun c H e=> ?_,h.len,fun i hi=>d _ _ _ (h.nm i hi),fun i hi=>let⟨o,v,e⟩:=h.po i hi;⟨o,v,d _ _ _ e⟩,let⟨o,v,e⟩:=h.cD;⟨o,v,d _ _ _ e⟩,let⟨o,v,e⟩:=h.cE;⟨o,v,d _ _ _ e⟩,?_,?_,?_⟩
 ·rcases t _ _ _ e with e|e|e
  ·exact h.lp _ _ _ e
  ·have:=h.bl;omega
  ·omega
 ·obtain⟨h1,h2⟩:=h.c1
  exact⟨by rw[a];exact h1,h2.sub d⟩
 ·rw[j.frozen l m];exact h.f4
 ·by_cases A:c=b
  ·subst A
   rw[B]at e;cases e;exact⟨Nat.lt_of_lt_of_le hi.1 j.size,d _ _ _ hi.2.1,d _ _ _ hi.2.2.1,.inl hT⟩
  ·have y:=h.ifs c H e
   exact y.mono d (aD.refl g) (fun _ h=>h) j.size (j.cell y.1 A) (j.frozen y.1 A) fun I=>f _ _ y.1 (by omega) I
 ·obtain⟨h1,x,h2,h3⟩:=h.err
  exact⟨d _ _ _ h1,x,h2.sub d,h3.sub d (aD.refl g)⟩
 ·obtain⟨h1,x,h2,h3⟩:=h.cmp
  exact⟨d _ _ _ h1,x,h2.sub d,h3⟩
 ·intro n t hi
  obtain⟨x,h1,h2⟩:=h.tn n t hi;exact⟨x,h1.sub d,h2.sub d (aD.refl g)⟩
def ln(C:BC)(p:Pm)(g:Ge)(mv:Value)(ms:List Nat)(w:World)(q:Pm)(a:World):Prop:=
 BS C q g mv ms a∧ga p q w (fun c=>c∈ms)∧Kept (fun c=>c∈ms) w a
end
end TS
namespace Go.Proofs.YtgbklbbknehefaaGreatDoor
open Go.RowKit TS
theorem Dc(C:BC)(p:Pm)(g:Ge)(mv:Value)(ms:List Nat)(w:World)(b:Nat)(u:U)(a:BS C p g mv ms w)(f:g.G b=some u)(hm:b∈ms)(h:∀c u,g.G c=some u→c<b→cv p (g.below c) c u):
 Calls Tryz.prog 85 #[.pointer (some ⟨b,0,none⟩)] w fun e E=>e= .returned (.pointer (some ⟨b,0,none⟩))∧∃q,ln C p g mv ms w q E∧cv q (g.below b) b u:=by
 have hi:=a.ifs b u f;have z0:=a.wb.kw _ _ _ hi.2.1;have z5:=a.wb.kw _ _ _ hi.2.2.1;obtain⟨F,H,J,hT|⟨_,A,hF,i,j,f6⟩⟩:=hi
 ·obtain⟨tb,k⟩:∃tb,p b 6=some (ptr tb):=by obtain⟨tb,_,_,_,_,_,_,_,k,_⟩:=hT;exact⟨tb,k⟩
  have j:=a.wb.kw _ _ _ k;have d:Hid (ln C p g mv ms w p w∧cv p (g.below b) b u):=⟨⟨a,ga.refl _ _ _,Kept.refl _ _⟩,hT⟩
  have l:=Lib.hid (gO b tb w z0 j);clear a hT h;go_enter Tryz.func85,Tryz.ntmps85;go_wp2_with fail
  refine l.out.mono ?_;rintro e w1 ⟨rfl,rfl⟩;go_wp2_with fail
  go_ret;exact⟨rfl,p,d.out⟩
 ·have m:5<b:=by have:=a.gv;have:=a.lp _ _ _ H;omega
  have I:Hid (∀n pos,Calls Tryz.prog 66 #[.pointer n,.int .i64 pos,.pointer (some ⟨b,0,none⟩)] w (iF p (g.below b) b u w)):=fun n pos=>tF C.D.len p (g.below b) b u n pos w (a.C_ b h) A hF j f6 i m;have s:=Lib.hid a;have t:=Lib.hid f;clear a A hF h f;go_enter Tryz.func85,Tryz.ntmps85;go_wp2_with fail
  go_enter Tryz.func40,Tryz.ntmps40;go_wp2_with fail
  refine(I.out _ _).mono ?_;rintro e w1 ⟨q,tb,rfl,x,y,B,hT,z⟩;have d:Hid (∃q,ln C p g mv ms w q w1∧cv q (g.below b) b u):=⟨q,⟨s.out.Db t.out x y B hT z,⟨x,fun c o v e=>(y c o v e).imp id fun e=>Or.imp id (fun(e:c=b∧o=6)=>⟨by rw[e.1];exact hm,e.2⟩) e⟩,z.mono fun c _ e=>e▸hm⟩,hT⟩
  clear B hT z x y;go_wp2_with fail
  go_ret;go_wp2_with fail
  exact d.out
theorem _root_.TS.BS.Dd{C:BC}{q:Pm}{g:Ge}{mv:Value}{ms:List Nat}{w:World}(h:BS C q g mv ms w)(f:∀b u,g.G b=some u→cv q (g.below b) b u):BS C q g (.slice none 0 0) [] (w.setCell ⟨C.bb,4,none⟩ (.slice none 0 0)):=by
 have d:Kept (fun c=>c=C.bb) w (w.setCell ⟨C.bb,4,none⟩ (.slice none 0 0)):=Kept.setCell (X:=fun c=>c=C.bb) (Kept.refl _ _) (fun _=>rfl) _;have a:∀o,o≠4→(w.setCell ⟨C.bb,4,none⟩ (.slice none 0 0)).cell? ⟨C.bb,o,none⟩=w.cell? ⟨C.bb,o,none⟩:=fun o i=>World.cell?_setCell_other _ _ _ _ (fun e=>i (congrArg Addr.off e).symm);refine⟨h.ka.kept d fun c o v e j=>by have:=h.la _ _ _ e;have:=h.bl;omega,h.la,h.wb.setCell _ (h.pb 4) (by have:=h.gv;have:=h.bl;omega),h.lp,h.inj,h.gv,h.bl,h.pb,by rw[a 0 (by decide)];exact h.c0,?_,by rw[a 2 (by decide)];exact h.c2,by rw[a 3 (by decide)];exact h.c3,World.cell?_setCell_same _ _ _ h.c4,by rw[World.frozen?_setCell];exact h.f4,World.ownsRow_nil _ _ _ _,fun b e=>(by cases e),List.Pairwise.nil,fun b e=>(by cases e),fun b u e=> ?_,h.len,h.nm,h.po,h.cD,h.cE,h.err,h.cmp,h.tn⟩
 ·obtain⟨h1,h2⟩:=h.c1
  exact⟨by rw[a 1 (by decide)];exact h1,h2⟩
 ·obtain⟨h1,h2,h3,_⟩:=h.ifs b u e
  exact⟨Nat.lt_of_lt_of_le h1 d.size,h2,h3,.inl (f b u e)⟩
theorem uu(C:BC)(p:Pm)(g:Ge)(mv:Value)(ms:List Nat)(w:World)(v:BS C p g mv ms w)(Q:ms.length≤1099511627776):
 Calls Tryz.prog 38 #[.pointer (some ⟨C.bb,0,none⟩)] w fun e H=>e= .returned (.tuple #[])∧∃q,BS C q g (.slice none 0 0) [] H∧ga p q w (fun c=>c∈ms)∧Kept (fun c=>c=C.bb∨c∈ms) w H:=by
 obtain⟨R,I,rfl⟩:=aZ v.row;have z4:=v.c4;have x:=Lib.hid v;clear v;go_enter Tryz.func38,Tryz.ntmps38;go_wp2_with fail
 go_loopw [9] (fun y wr=> ∃(k:Nat)(q:Pm),k≤ms.length∧y= .int .i64 k∧ln C p g (.slice R ms.length I) ms w q wr∧∀i,i<k→∀b u,ms[i]?=some b→g.G b=some u→cv q (g.below b) b u) (fun y _=>ms.length- (intOf y).toNat)
 case atStart=>exact⟨0,p,Nat.zero_le _,rfl,⟨x.out,ga.refl _ _ _,Kept.refl _ _⟩,fun i hi=>absurd hi (Nat.not_lt_zero _)⟩
 case round=>
  obtain⟨k,q,hk,rfl,z,J⟩:=hrel;have a:=Lib.hid z;have l:=Lib.hid J;have K:=z.1.c4;clear z J;by_cases s:k<ms.length
  ·have L:(k:Int)<ms.length:=by omega
   obtain⟨M,cap,S,_,T,N,_⟩:=iY a.out.1.row (by omega);cases S;obtain⟨b,d⟩:∃b,ms[k]?=some b:=⟨_,List.getElem?_eq_getElem s⟩
   have A:wr.cell? ⟨M,k,none⟩=some (.pointer (some ⟨b,0,none⟩)):=by rw[a.out.1.row.cellAt k (by omega)];simp[d]
   have B:=(List.getElem?_eq_some_iff.1 d).2;obtain⟨_,u,hu⟩:=a.out.1.mlt b (List.mem_of_getElem? d);have U:=Lib.hid (Dc C q g _ ms wr b u a.out.1 hu (List.mem_of_getElem? d) fun c O o V=>by
    rcases(a.out.1.ifs c O o).2.2.2 with h|⟨hm,_⟩
    ·exact h
    ·obtain⟨i,hi,rfl⟩:=List.getElem_of_mem hm
     have D:i<k:=by
      rcases Nat.lt_trichotomy i k with h|h|h
      ·exact h
      ·subst h;omega
      ·have:=List.pairwise_iff_getElem.1 a.out.1.ord k i s hi h;omega
     exact l.out i D _ O (List.getElem?_eq_getElem hi) o)
   have E:=Lib.hid hu;have m:=Lib.hid d;clear hu B;go_wp2_with fail
   rw[(List.getElem?_eq_some_iff.1 m.out).2];refine U.out.mono ?_;rintro e w1 ⟨rfl,F,f,t⟩;have j:Hid (ln C p g (.slice (some ⟨M,0,none⟩) ms.length I) ms w F w1∧∀i,i<k+1→∀b u,ms[i]?=some b→g.G b=some u→cv F (g.below b) b u):=by
    refine⟨⟨f.1,a.out.2.1.trans f.2.1 a.out.2.2.size,a.out.2.2.trans f.2.2 fun _ _ h=>h⟩,fun i hi c u2 o n=> ?_⟩;by_cases e:i=k
    ·subst e
     rw[m.out]at o;cases o;rw[E.out]at n;cases n;exact t
    ·exact(l.out i (by omega) c u2 o n).sub f.2.1.1 (aD.refl _)
   clear f t;go_wp2_with fail
   exact⟨⟨k+1,F,by omega,by go_num,j.out⟩,by first|omega|(simp[intOf];omega)⟩
  ·have W:¬(k:Int)<ms.length:=by omega
   have j:Hid (∃q,BS C q g (.slice none 0 0) [] (wr.setCell ⟨C.bb,4,none⟩ (.slice none 0 0))∧ga p q w (fun c=>c∈ms)∧Kept (fun c=>c=C.bb∨c∈ms) w (wr.setCell ⟨C.bb,4,none⟩ (.slice none 0 0))):=by
    refine⟨q,a.out.1.Dd fun b u P=> ?_,a.out.2.1,(a.out.2.2.mono fun c _ e=> .inr e).setCell (fun _=> .inl rfl) _⟩;rcases(a.out.1.ifs b u P).2.2.2 with h|⟨hm,_⟩
    ·exact h
    ·obtain⟨i,hi,rfl⟩:=List.getElem_of_mem hm
     exact l.out i (by omega) _ u (List.getElem?_eq_getElem hi) P
   have f4:=a.out.1.f4;clear a l;go_wp2_with fail
   go_end0
   exact⟨rfl,j.out⟩
end Go.Proofs.YtgbklbbknehefaaGreatDoor
namespace TS
open Go Go.RowKit Go.Proofs.YtgbklbbknehefaaGreatDoor
def uv(C:BC)(u:U)(p:Pm)(g:Ge)(w:World)(x:Value)(q:Pm)(a:Ge)(b:World):Prop:=
 Node q a u x∧BS C q a (.slice none 0 0) [] b∧Sub p q∧aD g a∧Kept (fun c=>C.B0≤c) w b
end TS
namespace Go.Proofs.YtgbklbbknehefaaGreatDoor
open Go.RowKit TS
theorem De(C:BC)(u:U)(hT:bF C u)(p:Pm)(g:Ge)(mv:Value)(ms:List Nat)(a:Option Addr)(c:Nat)(w:World)(B:BS C p g mv ms w)(E:ms.length+cn u≤1099511627776)(hu:ai C.pa C.D u a c):
 Calls Tryz.prog 39 #[.pointer (some ⟨C.bb,0,none⟩),.agg #[.int .i64 u.k,.int .i64 u.n,.int .i64 u.m,.bool u.v,.string u.nm,.string u.tg,.slice a u.es.length c]] w fun e N=> ∃x q A,e= .returned x∧uv C u p g w x q A N:=by
 have h:Below w.heap.size w (w.alloc (.cells #[.int .i64 u.k,.int .i64 u.n,.int .i64 u.m,.bool u.v,.string u.nm,.string u.tg,.slice a u.es.length c] 25)):=(Below.refl _ _).alloc (Nat.le_refl _) _;have L:=Lib.hid (hT p g mv ms a c _ (B.below h) E hu);have l:=Lib.hid h;have i:=Lib.hid B;clear hu B h hT;go_enter Tryz.func39,Tryz.ntmps39;go_wp2_with fail
 refine L.out.mono ?_;rintro V O ⟨x,q,A,F,o,rfl,G,d,s,H,P,Q⟩;have M:=Lib.hid (uu C q A F o O d (by omega));obtain⟨R,S,rfl⟩:=G.val;have I:Hid (∀b,b∈o→C.B0≤b):=fun b J=>by
  obtain⟨_,u,hu⟩:=d.mlt b J;exact d.lp _ _ _ (d.ifs b u hu).2.1
 have K:=Lib.hid G;have f:=Lib.hid s;clear G s H P L d;go_wp2_with fail
 refine M.out.mono ?_;rintro W T ⟨rfl,r,t,j,y⟩;have z:Hid (uv C u p g w (ae R S) r A T):=by
  refine⟨K.out.sub j.1 (aD.refl _),t,f.out.gr.le.trans j.1,f.out.gs,?_⟩;refine(((Kept.of (X:=fun c=>C.B0≤c) l.out).trans f.out.kept fun b J e=> ?_).trans y fun b J e=> ?_)
  ·rcases e with e|e
   ·have:=i.out.bl;omega
   ·exact(i.out.ib (.inr e)).1
  ·rcases e with e|e
   ·have:=i.out.bl;omega
   ·exact I.out b e
 clear t j y M;go_wp2_with fail
 go_ret;exact⟨_,_,_,rfl,z.out⟩
def fu(u:U):U:=if(under u).k=16 then cV else under u
theorem jT(b:Nat)(W:World):(Instr.typeAssert (.iface 33 (.pointer (some ⟨b,0,none⟩))) 44 33 true).run Tryz.prog W= .ok (.tuple #[.pointer (some ⟨b,0,none⟩),.bool true]) W:=by kernel_rfl
theorem Df(C:BC)(u:U)(hT:bF C u)(hi:isIface u=true)(F:bare (bare u)=bare u)(W:(bare u).k=11→∃y,(bare u).un= [y]∧y.k≠16)(H:(bare u).k≠12)(I:(bare u).k≠13)(X:(under u).k=10→under (under u)=under u)(p:Pm)(g:Ge)(mv:Value)(ms:List Nat)(a:Option Addr)(c:Nat)(w:World)(P:BS C p g mv ms w)(J:ms.length+cn u≤1099511627776)(hu:ai C.pa C.D u a c):
 Calls Tryz.prog 11 #[.pointer (some ⟨C.bb,0,none⟩),.agg #[.int .i64 u.k,.int .i64 u.n,.int .i64 u.m,.bool u.v,.string u.nm,.string u.tg,.slice a u.es.length c]] w fun e L=> ∃b q f,e= .returned (.pointer (some ⟨b,0,none⟩))∧f.G b=some (fu u)∧BS C q f (.slice none 0 0) [] L∧Sub p q∧aD g f∧Kept (fun c=>C.B0≤c) w L:=by
 have j:Below w.heap.size w (w.alloc (.cells #[.int .i64 u.k,.int .i64 u.n,.int .i64 u.m,.bool u.v,.string u.nm,.string u.tg,.slice a u.es.length c] 25)):=(Below.refl _ _).alloc (Nat.le_refl _) _;have Q:=Lib.hid (De C u hT p g mv ms a c _ (P.below j) J hu);have o:=Lib.hid j;clear hu P j hT;go_enter Tryz.func11,Tryz.ntmps11;go_wp2_with fail
 refine Q.out.mono ?_;rintro e1 M ⟨x,q,f,rfl,R,l,r,s,z⟩;obtain⟨t,b,rt,E,rfl,S,hr⟩:=iA R F W H I;obtain⟨N,T⟩:rt=33∧f.G E=some (fu u):=by
  unfold isIface at hi;simp only[Bool.or_eq_true,beq_iff_eq]at hi;rcases hr with⟨i,O⟩|⟨i,h1,h2⟩
  ·have Y:(under u).k=10:=hi.resolve_right i
   cases O with
   |iface _ h=>exact⟨rfl,by rw[fu,if_neg i];exact h⟩
   |_=>omega
  ·exact⟨h1,by rw[fu,if_pos i];exact h2⟩
 subst N;obtain⟨K,fn,c',A,d,V,hm,Z,hc⟩:=S M l.wb.kw;have P4:=fun args w=>Go.MuLone.run_callFunc_enter A d V args w;have B:Hid (f.G E=some (fu u)∧BS C q f (.slice none 0 0) [] M∧Sub p q∧aD g f∧Kept (fun c=>C.B0≤c) w M):=⟨T,l,r,s,(Kept.of o.out).trans z fun _ _ h=>h⟩
 have P5:=jT E;clear A d V R l r s z S hr T Q;go_wp2_with fail
 refine hc.mono ?_;rintro e L ⟨rfl,rfl⟩;go_wp2_with fail
 go_ret;exact⟨E,q,f,rfl,B.out⟩
end Go.Proofs.YtgbklbbknehefaaGreatDoor
namespace TS
open Go Go.RowKit Go.Proofs.YtgbklbbknehefaaGreatDoor
theorem Dp:(br.es.drop br.m.toNat)= []:=rfl
theorem Dq:(aF.es.drop aF.m.toNat)= []:=rfl
section
variable {D:Dl} {T:List U} {NS:List (List UInt8)} {i:Nat}
theorem Dr(E:Env D T NS i):∀(u:U){pos f:Nat}{g:Bool},Mo D.len T NS i u pos f→f≠0→u.k≠12→u.k≠13→mt T .type u g=true→(under u).k=10→
 ∀e∈(under u).es.drop (under u).m.toNat,Mo D.len T NS i e 2 2∧∃y,mt T .elem e y=true:=by
 intro u;induction u using U.bg with
 |_ u ih=>
  intro pos f g h c q r hm a e he;obtain⟨⟨F,z,hu⟩,_,_⟩:=h.eG E c q r;refine⟨hu.elem a he,?_⟩;by_cases h2:u.k=2
  ·obtain⟨x,n⟩:=cT (h.pl.form.eQ h2)
   have A:0<u.es.length:=by rw[n];simp
   have B:u.es[0]=x:=by simp[n]
   have p:=h.part 0 A;rw[B,gX h.f2 (.inl h2),show aS u 0=0 by unfold aS;rw[if_neg (by omega),if_neg (by omega)]]at p;rw[kd h2,n]at hm;have s:mt T .type x g=true:=by simpa using hm
   have t:=lF h2 n;rw[t]at he a;exact(ih x (U.au (by rw[n];simp)) p c p.pl.form.aA.1 p.pl.form.aA.2 s a e he).2
  ·by_cases b:u.k=10
   ·rw[fM b]at he
    rw[iV b]at hm;simp only[Bool.and_eq_true,List.all_eq_true]at hm;exact⟨g,hm.1 e he⟩
   ·by_cases d:u.k=11
    ·have w:=h.bB.named d
     rw[if_neg c]at w;obtain⟨h1,v,h3⟩:=w;rw[ql d h3]at he a;have j:=E.mt _ h1 v;rw[iV a]at j;simp only[Bool.and_eq_true,List.all_eq_true]at j;exact⟨true,j.1 e he⟩
    ·by_cases l:u.k=15
     ·rw[qo l (h.bB.err l)]at he
      rw[Dq]at he;cases he
     ·by_cases o:u.k=14
      ·have:under u=br:=by
        have C:bare u=br:=gd o;unfold under;rw[C];rfl
       rw[this,Dp]at he;cases he
      ·rw[cB h2 d o l]at a;omega
theorem pq{e:U}{g:Bool}(h:Mo D.len T NS i e 2 2)(hm:mt T .elem e g=true){y:U}(b:y∈(if e.k=12 then e.es else [e])):
 ∃pos,Mo D.len T NS i y pos 2∧y.k≠12∧mt T .term y false=true:=by
 by_cases a:e.k=12
 ·rw[if_pos a]at b
  rw[lz a]at hm;simp only[Bool.and_eq_true,List.all_eq_true]at hm;have hu:=h.union a b;refine⟨1,hu,fun hk=> ?_,(hm.1.1 y b).1⟩;cases hu.pl.form<;>omega
 ·rw[if_neg a]at b
  obtain rfl:y=e:=by simpa using b
  rw[iU a]at hm;simp only[Bool.and_eq_true]at hm;exact⟨2,h,a,hm.1⟩
theorem Mo.aC{y:U}{pos:Nat}(h:Mo D.len T NS i y pos 2)(b:y.k≠12):Mo D.len T NS i (TS.aC y) 0 2:=by
 by_cases a:y.k=13
 ·have h1:=h.pl.form.gM a
  obtain⟨e,he⟩:=cT h1;have c:=h.part 0 (by omega);have d:y.es[0]'(by omega)=e:=by simp[he]
  rw[d,show aI y 0 2=2 by unfold aI;rw[if_pos rfl],show aS y 0=0 by unfold aS;rw[if_neg b,if_neg (by omega)]]at c;rw[gL a he];exact c
 ·rw[eD a];exact h.gg b a
theorem Mo.ux(E:Env D T NS i){u:U}{pos f:Nat}(h:Mo D.len T NS i u pos f)(a:u.k≠12)(b:u.k≠13)(hm:mt T .type u false=true):aM u:=
 (jE E.ok E.bB E.mt u pos f false i (Nat.le_refl _) h.bB h.pl h.f2 a b hm).2 (kg u pos f h.bB h.pl h.f2 a b hm)
theorem Mo.mV(E:Env D T NS i){y:U}{pos:Nat}(h:Mo D.len T NS i y pos 2)(c:y.k≠12)(hm:mt T .term y false=true)(hi:isIface (TS.aC y)=false):aM (TS.aC y):=by
 have b:=h.aC c;by_cases a:y.k=13
 ·obtain⟨e,he⟩:=cT (h.pl.form.gM a)
  rw[kc a,he]at hm;have d:(mt T .type e false=true∧isIface e=false)∧aE e (under e)=true:=by simpa using hm
  rw[gL a he]at b⊢;exact b.ux E b.pl.form.aA.1 b.pl.form.aA.2 d.1.1
 ·rw[eD a]at hi b⊢
  rw[gJ a,hi]at hm;exact b.ux E c a hm
theorem pr{y:U}{pos f:Nat}(c:Pl D.len y pos f)(a:y.k=13)(hm:mt T .term y false=true):isIface (aC y)=false∧aE (aC y) (under (aC y))=true:=by
 obtain⟨e,he⟩:=cT (c.form.gM a);rw[kc a,he]at hm;have b:(mt T .type e false=true∧isIface e=false)∧aE e (under e)=true:=by simpa using hm
 rw[gL a he];exact⟨b.1.2,b.2⟩
theorem Ds(E:Env D T NS i):∀(u:U){pos f:Nat}{g:Bool},Mo D.len T NS i u pos f→f≠0→u.k≠12→u.k≠13→mt T .type u g=true→∀x∈bw u,Tok D.len x.2∧dE D.len x.2:=by
 intro u;induction u using U.bg with
 |_ u ih=>
  intro pos f g h o p q hm x b;by_cases c:(under u).k=10
  ·rw[lU c]at b
   obtain⟨y,m,b⟩:=List.mem_flatMap.1 b;have s:=iT m;obtain⟨e,he,m⟩:=List.mem_flatMap.1 m;obtain⟨h1,t,h2⟩:=Dr E u h o p q hm c e he;obtain⟨pos',h3,n,j⟩:=pq h1 h2 m;have l:=h3.aC n;unfold eE at b;by_cases a:y.k=13
   ·rw[if_pos a]at b
    obtain rfl:x=(true,aC y):=by simpa using b
    have r:=(pr h3.pl a j).1;have d:=h3.mV E n j r;exact⟨mP E l (by omega) d r,mO E _ l (by omega) d⟩
   ·rw[if_neg a]at b
    cases hi:isIface y with
    |true=>
     rw[hi,if_pos rfl]at b;rw[gJ a]at j;have hu:=dp u;exact ih y (by omega) h3 (by omega) n a j x b
    |false=>
     rw[hi,if_neg (by simp)]at b;obtain rfl:x=(false,y):=by simpa using b
     rw[eD a]at l;have d:=h3.mV E n j (by rw[eD a];exact hi);rw[eD a]at d;exact⟨mP E l (by omega) d hi,mO E _ l (by omega) d⟩
  ·rw[kA c]at b;cases b
theorem Dt(E:Env D T NS i):∀(u:U){pos f:Nat},Mo D.len T NS i u pos f→f≠0→u.k≠12→u.k≠13→∀m∈aj u,aL m.nm=true:=by
 intro u;induction u using U.bg with
 |_ u ih=>
  intro pos f h b c d m hm;obtain⟨⟨o,l,hu⟩,_,_⟩:=h.eG E b c d;have n:=dp u;obtain⟨g,hm⟩:=gI hm;rcases hm with hm|⟨e,he,a,hm⟩
  ·have:=hu.pl.form
   cases this with
   |iface _ _ _ _ j _=>exact(j m hm).2
   |_=>omega
  ·have h1:=hu.elem g he
   unfold aT at a;simp only[Bool.and_eq_true,bne_iff_ne,ne_eq]at a;have h2:=U.au (List.mem_of_mem_drop he);exact ih e (by omega) h1 (by omega) a.1.1 a.1.2 m hm
theorem Du(E:Env D T NS i){u:U}{pos f:Nat}{g:Bool}(h:Mo D.len T NS i u pos f)(l:u.k=10)(hm:mt T .type u g=true)(R:u.es.length≤1048576):fj D.len u:=by
 have hu:=fM l;have F:(∀e∈u.es.take u.m.toNat,e.k=7∧aL e.nm=true):=by
  cases h.pl.form with
  |iface _ _ _ _ N _=>exact N
  |_=>omega
 rw[iV l]at hm;simp only[Bool.and_eq_true,List.all_eq_true,decide_eq_true_eq]at hm;obtain⟨O,⟨_,_⟩,P⟩:=hm;have p:∀e∈u.es.drop u.m.toNat,Mo D.len T NS i e 2 2∧mt T .elem e g=true:=fun e he=>⟨h.elem l he,O e he⟩
 have hw:∀y∈ek u,∀x∈eE y,x∈bw u:=fun y n x d=>by rw[mJ l];exact List.mem_flatMap.2 ⟨y,n,d⟩
 have s:∀e∈u.es.drop u.m.toNat,∀y∈(if e.k=12 then e.es else [e]),y∈ek u:=fun e he y n=>List.mem_flatMap.2 ⟨e,he,n⟩;have v:∀x∈bw u,Tok D.len x.2∧dE D.len x.2:=fun x d=>by
  rw[mJ l]at d;obtain⟨y,n,d⟩:=List.mem_flatMap.1 d;obtain⟨e,he,n⟩:=List.mem_flatMap.1 n;obtain⟨h1,h2⟩:=p e he;obtain⟨pos',h3,B,G⟩:=pq h1 h2 n;have o:=h3.aC B;unfold eE at d;by_cases b:y.k=13
  ·rw[if_pos b]at d
   obtain rfl:x=(true,aC y):=by simpa using d
   have M:=(pr h3.pl b G).1;have I:=h3.mV E B G M;exact⟨mP E o (by omega) I M,mO E _ o (by omega) I⟩
  ·rw[if_neg b]at d
   cases hi:isIface y with
   |true=>
    rw[hi,if_pos rfl]at d;rw[gJ b]at G;exact Ds E y h3 (by omega) B b G x d
   |false=>
    rw[hi,if_neg (by simp)]at d;obtain rfl:x=(false,y):=by simpa using d
    rw[eD b]at o;have I:=h3.mV E B G (by rw[eD b];exact hi);rw[eD b]at I;exact⟨mP E o (by omega) I hi,mO E _ o (by omega) I⟩
 have w:∀{y:U}{pos:Nat},Mo D.len T NS i y pos 2→y.k≠12→y.k≠13→(under y).k≠2∧(under y).k≠14:=fun n a c=>by
  have:=(n.eG E (by omega) a c).2.1;exact⟨this.1,this.2.2.1⟩
 have C:∀{y:U}{pos:Nat},Mo D.len T NS i y pos 2→y.k≠12→y.k≠13→jS D.len y:=fun n a c=>⟨⟨2,by omega,(n.gg a c).pl⟩,n.fl E (by omega) a c⟩
 have J:∀{y:U}{pos:Nat},Mo D.len T NS i y pos 2→y.k≠12→y.k≠13→∀x∈bw (under y),x∈bw y:=fun{y} {pos} n a c x d=>by
  by_cases hk:(under y).k=10
  ·rwa [Bz hk]at d
  ·have h1:=(n.eG E (by omega) a c).2.1
   rw[kA (by rw[cB h1.1 h1.2.1 h1.2.2.1 h1.2.2.2];exact hk)]at d;cases d
 have H:∀e∈u.es.drop u.m.toNat,∀y∈(if e.k=12 then e.es else [e]),(y.k=13→isIface (aC y)=false)∧oO D.len (bw u) (y.k==13) (aC y):=fun e he y n=>by
  obtain⟨h1,h2⟩:=p e he;obtain⟨pos',h3,B,G⟩:=pq h1 h2 n;have o:=h3.aC B;have z:=o.pl.form.aA;have q:=s e he y n;by_cases b:y.k=13
  ·obtain⟨M,hid⟩:=pr h3.pl b G
   refine⟨fun _=>M,.inl ?_⟩;have d:(true,aC y)∈bw u:=hw y q _ (by unfold eE;rw[if_pos b];simp);rw[show(y.k==13)=true by simp[b]];exact⟨(v _ d).1,fun _=>hid,d,w o z.1 z.2⟩
  ·refine⟨fun h=>absurd h b,?_⟩
   rw[eD b]at o z⊢;rw[show(y.k==13)=false by simp[b]];cases hi:isIface y with
   |true=>exact .inr ⟨hi,C h3 B b,fun x d=>hw y q x (by unfold eE;rw[if_neg b,hi,if_pos rfl];exact J h3 B b x d)⟩
   |false=>
    have d:(false,y)∈bw u:=hw y q _ (by unfold eE;rw[if_neg b,hi,if_neg (by simp)];simp);exact .inl ⟨(v _ d).1,fun h=>(by cases h),d,w o z.1 z.2⟩
 refine⟨l,fun x d=>(v x d).1,?_,fun x d=>(v x d).2,fun e he=> ?_,fun m hm=>(F m hm).2,(kp h.pl.form l).noTwo,?_,R⟩
 ·have:=xn u P;omega
 ·obtain⟨h1,h2⟩:=p e he
  by_cases a:e.k=12
  ·refine .inl ⟨.inl a,?_,?_,?_⟩
   ·intro j K
    rw[bk,if_pos a]at K;rw[show(bk e)[j]=(e.es[j]'(by simpa using K)|> fun x=>(x.k==13,aC x)) by simp[bk,a]];exact(H e he _ (by rw[if_pos a];exact List.getElem_mem _)).2
   ·rw[bk,if_pos a,List.length_map]
    cases h1.pl.form<;>omega
   ·intro t o L
    rw[bk,if_pos a]at o;obtain⟨x,d,rfl⟩:=List.mem_map.1 o;exact(H e he x (by rw[if_pos a];exact d)).1 (by simpa using L)
  ·have A:=H e he e (by rw[if_neg a];simp)
   by_cases c:e.k=13
   ·refine .inl ⟨.inr c,?_,?_,?_⟩
    ·intro j K
     rw[bk,if_neg a]at K;obtain rfl:j=0:=by simp at K;omega
     have:=A.2;rw[show(e.k==13)=true by simp[c]]at this;simpa [bk,a]using this
    ·rw[bk,if_neg a];simp
    ·intro t o L
     rw[bk,if_neg a]at o;obtain rfl:t=(true,aC e):=by simpa using o
     exact A.1 c
   ·have o:=h1.gg a c
    have q:=s e he e (by rw[if_neg a];simp);cases hi:isIface e with
    |true=>exact .inr (.inl ⟨⟨a,c⟩,hi,C h1 a c,fun x d=>hw e q x (by unfold eE;rw[if_neg c,hi,if_pos rfl];exact J h1 a c x d),Dt E e h1 (by omega) a c⟩)
    |false=>
     have d:(false,e)∈bw u:=hw e q _ (by unfold eE;rw[if_neg c,hi,if_neg (by simp)];simp);exact .inr (.inr ⟨⟨a,c⟩,(v _ d).1,d,w h1 a c⟩)
 ·have Q:=nh (r:=u.es.drop u.m.toNat) (kp h.pl.form l).noTwo
  have hle:=hZ (NS:=NS) Q fun m hm=>by
   have:m∈aj u:=by rw[jo l,pX];exact hm
   exact(h.aB.b4 m this).1
  have:=E.cI;unfold dW;omega
theorem pw(E:Env D T NS i){p:Pm}:∀(u:U){s:Pt}{pos f:Nat}{g:Bool}{a:Option Addr}{c:Nat},Mo D.len T NS i u pos f→mt T s u g=true→(s= .type→u.k≠12∧u.k≠13)→(s= .term→u.k≠12)→ai p D u a c→FF D.len u:=by
 intro u;induction u using U.bg with
 |_ u ih=>
  intro s pos f g a c h hm w B hu;have H:=hu.cap;have x:∀j(l:j<u.es.length),∃a' c',ai p D u.es[j] a' c':=fun j l=>by
   obtain⟨eb,eo,rfl⟩:=hu.list.bt (by omega);obtain⟨a',c',_,h2⟩:=hu.list.get j l;exact⟨a',c',h2⟩
  have go:∀j(l:j<u.es.length)(z:Pt)(r:Bool),mt T z u.es[j] r=true→(z= .type→u.es[j].k≠12∧u.es[j].k≠13)→(z= .term→u.es[j].k≠12)→FF D.len u.es[j]:=fun j l z r h1 h2 h3=>by
   obtain⟨a',c',I⟩:=x j l;exact ih _ (U.au (List.getElem_mem l)) (h.part j l) h1 h2 h3 I
  have v:u.k≠10→u.k≠12→∀j(l:j<u.es.length)(r:Bool),mt T .type u.es[j] r=true→FF D.len u.es[j]:=fun n b j l r C=>by
   have A:=h.pl.ig n b j l;exact go j l .type r C (fun _=>A.form.aA) fun e=>(by cases e)
  have y:u.k≠12→u.k≠13→∃r,mt T .type u r=true:=fun b o=>by
   cases s with
   |type=>exact⟨_,hm⟩
   |term=>rw[gJ o]at hm;exact⟨_,hm⟩
   |elem=>
    rw[iU b]at hm;simp only[Bool.and_eq_true]at hm;have:=hm.1;rw[gJ o]at this;exact⟨_,this⟩
  rw[FF];refine⟨fun n=> ?_,fun e he=> ?_⟩
  ·obtain⟨r,d⟩:=y (by omega) (by omega)
   exact⟨Du E h n d (by omega),by omega⟩
  ·obtain⟨j,l,rfl⟩:=List.getElem_of_mem he
   by_cases b:u.k=12
   ·have t:mt T .elem u g=true:=by
     cases s with
     |type=>exact absurd b (w rfl).1
     |term=>exact absurd b (B rfl)
     |elem=>exact hm
    rw[lz b]at t;simp only[Bool.and_eq_true,List.all_eq_true]at t;have A:=h.pl.part j l;rw[show aS u j=1 by unfold aS;rw[if_pos b]]at A;exact go j l .term false (t.1.1 _ he).1 (fun e=>by cases e) fun _ hk=>by cases A.form<;>omega
   ·by_cases o:u.k=13
    ·have q:mt T .term u g=true∨mt T .term u false=true:=by
      cases s with
      |type=>exact absurd o (w rfl).2
      |term=>exact .inl hm
      |elem=>
       rw[iU b]at hm;simp only[Bool.and_eq_true]at hm;exact .inr hm.1
     have t:∀e∈u.es,mt T .type e false=true:=fun e he=>by
      rcases q with q|q
      all_goals
       rw[kc o]at q;simp only[Bool.and_eq_true,List.all_eq_true]at q;exact(q e he).1.1
     exact v (by omega) b j l false (t _ he)
    ·obtain⟨r,d⟩:=y b o
     by_cases h2:u.k=2
     ·rw[kd h2,List.all_eq_true]at d
      exact v (by omega) b j l r (d _ he)
     ·by_cases n:u.k=10
      ·rw[iV n]at d
       simp only[Bool.and_eq_true,List.all_eq_true]at d;have F:u.es[j]∈u.es.take u.m.toNat∨u.es[j]∈u.es.drop u.m.toNat:=by
        rw[←List.mem_append,List.take_append_drop];exact he
       rcases F with he|he
       ·have J:∀e∈u.es.take u.m.toNat,e.k=7∧aL e.nm=true:=by
         cases h.pl.form with
         |iface _ _ _ _ G _=>exact G
         |_=>omega
        have h7:=(J _ he).1;exact go j l .type false (d.2.1.1 _ he) (fun _=>by omega) fun e=>(by cases e)
       ·exact go j l .elem r (d.1 _ he) (fun e=>by cases e) fun e=>by cases e
      ·rw[lA h2 n]at d
       simp only[Bool.and_eq_true,List.all_eq_true]at d;exact v n b j l false (d.2 _ he)
end
end TS
namespace Go.Proofs.YtgbklbbknehefaaGreatDoor
open Go.RowKit TS
theorem uz{D:Dl}{T:List U}{NS:List (List UInt8)}{i:Nat}(E:Env D T NS i)(p:Pm)(dc:Nat){x:U}{pos:Nat}(h:b7 D T NS i x pos 2)(F:x.k≠12)(hM:gU D dc T NS i x)(G:∀e∈x.es,gU D dc T NS i e)
 (hT:dX p D T)(a:Option Addr)(c:Nat)(w:World)(hu:ai p D x a c)(hw:KW p w):
 Calls Tryz.prog 137 #[.slice D.a D.len dc,.agg #[.int .i64 x.k,.int .i64 x.n,.int .i64 x.m,.bool x.v,.string x.nm,.string x.tg,.slice a x.es.length c]] w (RB (mt T .term x false) w):=by
 by_cases j:x.k=13
 ·have t13:(x.k==13)=true:=by simp[j]
  have h1:=h.pl.form.gM j;obtain⟨e,he⟩:=cT h1;have s:=h.lQ (by omega) F 0 (by omega);have H:x.es[0]'(by omega)=e:=by simp[he]
  rw[H,show aI x 0 2=2 by unfold aI;rw[if_pos rfl]]at s;have hk:=s.pl.form.aA;obtain⟨b,o,rfl⟩:=hu.list.bt (by omega);obtain⟨a',c',h7,t⟩:=hu.list.get 0 (by omega);simp only[H,Nat.zero_mul,Nat.add_zero]at h7 t;have L:Hid (mt T .term x false=(mt T .type e false&& !isIface e&&aE e (under e))):=by unfold Hid;rw[kc j,he];simp
  have hl:0<x.es.length:=by omega
  have P9:(0:Int)<x.es.length:=by omega
  have u:=fun W l=>G e (by rw[he];simp) false p 0 2 a' c' W s hk.1 hk.2 hT t l;have A:=fun W l=>gl p D dc e 0 2 a' c' W s.pl (by omega) (by omega) hk.1 hk.2 t l;have ag:Up p w ((w.alloc (.cells #[.int .i64 x.k,.int .i64 x.n,.int .i64 x.m,.bool x.v,.string x.nm,.string x.tg,.slice (some ⟨b,o,none⟩) x.es.length c] 25)).alloc (.cells #[.int .i64 e.k,.int .i64 e.n,.int .i64 e.m,.bool e.v,.string e.nm,.string e.tg,.slice a' e.es.length c'] 25)):=((Up.refl hw).alloc _).alloc _;obtain⟨z0,z1,z2,z3,z4,z5,z6⟩:(w.cell? ⟨b,o,none⟩=some (.int .i64 e.k)∧w.cell? ⟨b,o+1,none⟩=some (.int .i64 e.n)∧w.cell? ⟨b,o+2,none⟩=some (.int .i64 e.m)∧w.cell? ⟨b,o+3,none⟩=some (.bool e.v)∧w.cell? ⟨b,o+4,none⟩=some (.string e.nm)∧w.cell? ⟨b,o+5,none⟩=some (.string e.tg)∧w.cell? ⟨b,o+6,none⟩=some (.slice a' e.es.length c')):=h7.world hw;have hb:=hw.lt h7.1;have P_:=Lib.hid he;clear he h7 H h1 j hM G;cases hm:mt T .type e false
  ·have r:=fun W l=>aP (u W l) hm
   have hF:Hid (false=mt T .term x false):=by unfold Hid;rw[L.out,hm];rfl
   clear u hm A L s h hk;go_enter Tryz.func137,Tryz.ntmps137;go_wp2_with fail
   refine oR (fun W=>(W.cell? ⟨w.heap.size+1,0,none⟩=some (.int .i64 e.k)∧W.cell? ⟨w.heap.size+1,1,none⟩=some (.int .i64 e.n)∧W.cell? ⟨w.heap.size+1,2,none⟩=some (.int .i64 e.m)∧W.cell? ⟨w.heap.size+1,3,none⟩=some (.bool e.v)∧W.cell? ⟨w.heap.size+1,4,none⟩=some (.string e.nm)∧W.cell? ⟨w.heap.size+1,5,none⟩=some (.string e.tg)∧W.cell? ⟨w.heap.size+1,6,none⟩=some (.slice a' e.es.length c'))∧Up p w W) [(0,true),(1,true),(2,false),(3,true),(4,true),(5,true),(6,false),(7,true),(8,true),(9,true),(10,true),(11,true),(12,true),(13,true),(14,false),(15,false),(16,true),(17,true)] oK (fun d=> ?_);repeat(first|(refine oS ?_;try simp only[Act.put,oa,ob,oc])|(refine oF d ?_;try simp only[Act.put,oa,ob,oc])|(refine oL fun K f=> ?_;go_simp;(go_at_call 28;(with_reducible refine(r _ (Up.kw (by first|assumption|exact ag.drew))).mono ?_);rintro B V ⟨rfl,aa⟩;(try simp only[]);refine f _ _ oK fun d=> ?_;clear f K;try simp only[Act.put,oa,ob,oc])))
   refine bR ?_;have I:=d.2.up;clear aa d;go_wp2_with fail
   go_ret;exact⟨_,rfl,hF.out,I⟩
  have r:=fun W l=>aP (u W l) hm;cases hi:isIface e
  case true=>
   have y:=fun W l=>aP (A W l) hi;have hF:Hid (false=mt T .term x false):=by unfold Hid;rw[L.out,hm,hi];rfl
   clear u hm A L s h hk hi;go_enter Tryz.func137,Tryz.ntmps137;go_wp2_with fail
   refine oR (fun W=>(W.cell? ⟨w.heap.size+1,0,none⟩=some (.int .i64 e.k)∧W.cell? ⟨w.heap.size+1,1,none⟩=some (.int .i64 e.n)∧W.cell? ⟨w.heap.size+1,2,none⟩=some (.int .i64 e.m)∧W.cell? ⟨w.heap.size+1,3,none⟩=some (.bool e.v)∧W.cell? ⟨w.heap.size+1,4,none⟩=some (.string e.nm)∧W.cell? ⟨w.heap.size+1,5,none⟩=some (.string e.tg)∧W.cell? ⟨w.heap.size+1,6,none⟩=some (.slice a' e.es.length c'))∧Up p w W) [(0,true),(1,true),(2,false),(3,true),(4,true),(5,true),(6,false),(7,true),(8,true),(9,true),(10,true),(11,true),(12,true),(13,true),(14,false),(15,false),(16,true),(17,true)] oK (fun d=> ?_);repeat(first|(refine oS ?_;try simp only[Act.put,oa,ob,oc])|(refine oF d ?_;try simp only[Act.put,oa,ob,oc])|(refine oL fun K f=> ?_;go_simp;first|(go_at_call 28;(with_reducible refine(r _ (Up.kw (by first|assumption|exact ag.drew))).mono ?_);rintro B V ⟨rfl,aa⟩;(try simp only[]);refine f _ _ oK fun d=> ?_;clear f K;try simp only[Act.put,oa,ob,oc])|(go_at_call 17;obtain⟨⟨O,s1,s2,P,Q,R,S⟩,C⟩:=d;(with_reducible refine(y _ C.kw).mono ?_);rintro B w2 ⟨rfl,aa⟩;(try simp only[]);refine f _ _ oK fun d=> ?_;clear f K;try simp only[Act.put,oa,ob,oc])))
   refine bR ?_;have I:=d.2.up;clear aa d;go_wp2_with fail
   go_ret;exact⟨_,rfl,hF.out,I⟩
  have y:=fun W l=>aP (A W l) hi;have hF:Hid (aE e (under e)=mt T .term x false):=by unfold Hid;rw[L.out,hm,hi];rfl
  obtain⟨M,N⟩:=nW E s (by omega) hk.1 hk.2 hm hi;obtain⟨fu,X,P8,z,Y,_⟩:=s.pl.under (by omega) (by omega) hk.1 hk.2;have Z:=fun W l=>ik p D dc e 0 2 a' c' W s.pl (by omega) (by omega) hk.1 hk.2 t l;have hC:=Lib.hid (kq D dc NS E.cI e (under e) _ _ _ _ s.pl (by omega) hk.1 hk.2 z X z.form.aA.1 z.form.aA.2 M N s.aB s.aB.under);clear u hm A L s h hk hi M N z Y;go_enter Tryz.func137,Tryz.ntmps137;go_wp2_with fail
  refine oR (fun W=>(W.cell? ⟨w.heap.size+1,0,none⟩=some (.int .i64 e.k)∧W.cell? ⟨w.heap.size+1,1,none⟩=some (.int .i64 e.n)∧W.cell? ⟨w.heap.size+1,2,none⟩=some (.int .i64 e.m)∧W.cell? ⟨w.heap.size+1,3,none⟩=some (.bool e.v)∧W.cell? ⟨w.heap.size+1,4,none⟩=some (.string e.nm)∧W.cell? ⟨w.heap.size+1,5,none⟩=some (.string e.tg)∧W.cell? ⟨w.heap.size+1,6,none⟩=some (.slice a' e.es.length c'))∧Up p w W) [(0,true),(1,true),(2,false),(3,true),(4,true),(5,true),(6,false),(7,true),(8,true),(9,true),(10,true),(11,true),(12,true),(13,true),(14,false),(15,false),(16,true),(17,true)] oK (fun d=> ?_);repeat(first|(refine oS ?_;try simp only[Act.put,oa,ob,oc])|(refine oF d ?_;try simp only[Act.put,oa,ob,oc])|(refine oL fun K f=> ?_;go_simp;first|(go_at_call 28;(with_reducible refine(r _ (Up.kw (by first|assumption|exact ag.drew))).mono ?_);rintro B V ⟨rfl,aa⟩;(try simp only[]);refine f _ _ oK fun d=> ?_;clear f K;try simp only[Act.put,oa,ob,oc])|(go_at_call 17;obtain⟨⟨O,s1,s2,P,Q,R,S⟩,C⟩:=d;(with_reducible refine(y _ C.kw).mono ?_);rintro B w2 ⟨rfl,aa⟩;(try simp only[]);refine f _ _ oK fun d=> ?_;clear f K;try simp only[Act.put,oa,ob,oc])|(go_at_call 15;obtain⟨⟨O,s1,s2,P,Q,R,S⟩,C⟩:=d;(with_reducible refine(Z _ C.kw).mono ?_);rintro B w3 ⟨q,a6,c6,rfl,P4,P5,P6,aa⟩;(try simp only[]);refine f _ _ oK fun d=> ?_;clear f K;try simp only[Act.put,oa,ob,oc])|(go_at_call 171;obtain⟨⟨O,s1,s2,P,Q,R,S⟩,C⟩:=d;(refine(hC.out q a' c' a6 c6 _ (ai.sub P4.le _ t) P6 P5).mono ?_);rintro B w4 ⟨b,rfl,J,aa⟩;(try simp only[]);refine f _ _ oK fun d=> ?_;clear f K;try simp only[Act.put,oa,ob,oc])))
  refine bR ?_;have I:=d.2.up;clear aa d;go_wp2_with fail
  go_ret;exact⟨_,rfl,J.out.trans hF.out,I⟩
 ·have t13:(x.k==13)=false:=by simp[j]
  have A:=fun W l=>gl p D dc x pos 2 a c W h.pl (by omega) (by omega) F j hu l;have hF:Hid (mt T .term x false=mt T .type x (isIface x)):=gJ j;obtain⟨g,H⟩:∃g,g=isIface x:=⟨_,rfl⟩
  have y:=fun W l=>aP (A W l) H.symm;rw[←H]at hF;have P7:=fun W l=>hM g p pos 2 a c W h F j hT hu l;have ag:Up p w (w.alloc (.cells #[.int .i64 x.k,.int .i64 x.n,.int .i64 x.m,.bool x.v,.string x.nm,.string x.tg,.slice a x.es.length c] 25)):=(Up.refl hw).alloc _;rw[hF.out];clear hM G h A H j hF;go_enter Tryz.func137,Tryz.ntmps137;go_wp2_with fail
  refine oR (fun W=>(W.cell? ⟨w.heap.size,0,none⟩=some (.int .i64 x.k)∧W.cell? ⟨w.heap.size,1,none⟩=some (.int .i64 x.n)∧W.cell? ⟨w.heap.size,2,none⟩=some (.int .i64 x.m)∧W.cell? ⟨w.heap.size,3,none⟩=some (.bool x.v)∧W.cell? ⟨w.heap.size,4,none⟩=some (.string x.nm)∧W.cell? ⟨w.heap.size,5,none⟩=some (.string x.tg)∧W.cell? ⟨w.heap.size,6,none⟩=some (.slice a x.es.length c))∧Up p w W) [(0,true),(1,true),(2,true),(3,true),(4,false),(5,false),(6,true)] oK (fun d=> ?_);repeat(first|(refine oS ?_;try simp only[Act.put,oa,ob,oc])|(refine oF d ?_;try simp only[Act.put,oa,ob,oc])|(refine oL fun K f=> ?_;go_simp;first|(go_at_call 17;(with_reducible refine(y _ (Up.kw (by first|assumption|exact ag.drew))).mono ?_);rintro B w2 ⟨rfl,aa⟩;(try simp only[]);refine f _ _ oK fun d=> ?_;clear f K;try simp only[Act.put,oa,ob,oc])|(go_at_call 28;obtain⟨⟨O,s1,s2,P,Q,R,S⟩,C⟩:=d;(with_reducible refine(P7 _ C.kw).mono ?_);rintro B V ⟨b,rfl,J,aa⟩;(try simp only[]);refine f _ _ oK fun d=> ?_;clear f K;try simp only[Act.put,oa,ob,oc])))
  refine bR ?_;have I:=d.2.up;clear aa d;go_wp2_with fail
  go_ret;exact⟨_,rfl,J.out,I⟩
theorem uA(p:Pm)(D:Dl)(dc:Nat)(x y:U)(a:Option Addr)(c:Nat)(a':Option Addr)(c':Nat)(w:World)(f:∀W,KW p W→Calls Tryz.prog 141 #[.slice D.a D.len dc,.agg #[.int .i64 x.k,.int .i64 x.n,.int .i64 x.m,.bool x.v,.string x.nm,.string x.tg,.slice a x.es.length c],.agg #[.int .i64 y.k,.int .i64 y.n,.int .i64 y.m,.bool y.v,.string y.nm,.string y.tg,.slice a' y.es.length c']] W (RB (ej x y) W))(hw:KW p w)(g d:Nat)
 (h1:w.cell? ⟨g,0,none⟩=some (.slice D.a D.len dc))(h7:(w.cell? ⟨d,0,none⟩=some (.int .i64 x.k)∧w.cell? ⟨d,1,none⟩=some (.int .i64 x.n)∧w.cell? ⟨d,2,none⟩=some (.int .i64 x.m)∧w.cell? ⟨d,3,none⟩=some (.bool x.v)∧w.cell? ⟨d,4,none⟩=some (.string x.nm)∧w.cell? ⟨d,5,none⟩=some (.string x.tg)∧w.cell? ⟨d,6,none⟩=some (.slice a x.es.length c))):
 Calls Tryz.prog 140 #[.agg #[.int .i64 y.k,.int .i64 y.n,.int .i64 y.m,.bool y.v,.string y.nm,.string y.tg,.slice a' y.es.length c'],.pointer (some ⟨g,0,none⟩),.pointer (some ⟨d,0,none⟩)] w (RB (!ej x y) w):=by
 obtain⟨i,l,o,q,s,t,u⟩:=h7;have b1:=World.block_lt_of_cell? _ _ h1;have j:=World.block_lt_of_cell? _ _ i;simp only at b1 j;have ag:Up p w (w.alloc (.cells #[.int .i64 y.k,.int .i64 y.n,.int .i64 y.m,.bool y.v,.string y.nm,.string y.tg,.slice a' y.es.length c'] 25)):=(Up.refl hw).alloc _;generalize ej x y=r at*;go_enter Tryz.func140,Tryz.ntmps140;go_wp2_with fail
 refine(f _ ag.kw).mono ?_;rintro z A ⟨b,rfl,h,aa⟩;have e:=(ag.step aa).up;have hF:Hid ((!b)= !r):=by unfold Hid;rw[h.out]
 clear h aa f;go_wp2_with fail
 go_ret;exact⟨_,rfl,hF,e⟩
def ee(T:List U)(x:U):Bool:=mt T .term x false&& !(aT x&&(decide (0<(aj x).length)||eh x))
theorem uB{T:List U}{u:U}{g:Bool}(h:u.k=12):mt T .elem u g=(u.es.all (ee T)&&decide (u.es.Pairwise fun y x=>ej x y=true)&&g):=lz h
theorem DC{T:List U}{u:U}{g:Bool}(h:u.k=12){k:Nat}(hk:k<u.es.length)(a:ee T u.es[k]=false∨((u.es.take k).any fun y=> !ej u.es[k] y)=true):mt T .elem u g=false:=by
 rw[uB h];rcases a with a|a
 ·rw[show u.es.all (ee T)=false by rw[List.all_eq_false];exact⟨_,List.getElem_mem hk,by rw[a];simp⟩];rfl
 ·rw[decide_eq_false ?_]
  ·simp
  ·intro c
   obtain⟨y,d,b⟩:=List.any_eq_true.1 a;have:=c.sublist (List.take_sublist (k+1) _);rw[List.take_succ_eq_append_getElem hk,List.pairwise_append]at this;have h3:=this.2.2 y d u.es[k] (by simp);rw[h3]at b;cases b
theorem DD{D:Dl}{T:List U}{NS:List (List UInt8)}{i:Nat}(E:Env D T NS i)(p:Pm)(dc:Nat){e:U}(h:b7 D T NS i e 2 2)(hM:gU D dc T NS i e)(Qf:∀x∈e.es,gU D dc T NS i x∧∀y∈x.es,gU D dc T NS i y)
 (hT:dX p D T)(g:Bool)(a:Option Addr)(c:Nat)(w:World)(hu:ai p D e a c)(hw:KW p w):
 Calls Tryz.prog 100 #[.slice D.a D.len dc,.agg #[.int .i64 e.k,.int .i64 e.n,.int .i64 e.m,.bool e.v,.string e.nm,.string e.tg,.slice a e.es.length c],.bool g] w (RB (mt T .elem e g) w):=by
 obtain⟨r,hr⟩:∃r,r=mt T .elem e g:=⟨_,rfl⟩
 rw[←hr];have ag:Up p w ((w.alloc (.cells #[.slice D.a D.len dc] 22)).alloc (.cells #[.int .i64 e.k,.int .i64 e.n,.int .i64 e.m,.bool e.v,.string e.nm,.string e.tg,.slice a e.es.length c] 25)):=((Up.refl hw).alloc _).alloc _;by_cases I:e.k=12
 ·have t12:(e.k !=12)=false:=by simp[I]
  have QL:=hu.cap;have QM:(e.es.length:Int)≤1048576:=by omega
  have Qm:=Lib.hid fun(k:Nat) (hk:k<e.es.length) hb=>hr.trans (DC (T:=T) (g:=g) I hk hb);have Qr:Hid ((∀y∈e.es,ee T y=true)→(e.es.Pairwise fun y x=>ej x y=true)→r=g):=fun h1 h2=>by
   rw[hr,uB I,decide_eq_true h2,show e.es.all (ee T)=true from List.all_eq_true.2 h1];simp
  have hX:=Lib.hid fun x (hx:x∈e.es)=>(⟨h.union I hx,Qf x hx⟩:(∃f',b7 D T NS i x 1 f'∧(2=2→f'=2))∧gU D dc T NS i x∧∀y∈x.es,gU D dc T NS i y)
  have P_:Hid (∀x∈e.es,x.k≠12):=fun x hx hk=>by
   obtain⟨f',hm,_⟩:=h.union I hx;have hf:=hm.pl.form;cases hf<;>first|omega|(rename_i hp _ _;omega)
  have eg:=Lib.hid (show ∀args w,(callFunc 140 args).run Tryz.prog w= .ok (.enter 140 args) w from dI Tryz.func140 (by kernel_rfl) rfl);have QO:∀(fn:Fn)(first cap:Array Value)(w:World),(Instr.makeFunc fn first cap).run Tryz.prog w= .ok (.func fn first cap) w:=fun _ _ _ _=>rfl;clear hr h hM Qf I;go_enter Tryz.func100,Tryz.ntmps100;go_wp2_with fail
  go_loopw [32] (fun i wr=> ∃k:Nat,k≤e.es.length∧i= .int .i64 k∧(∀y∈e.es.take k,ee T y=true)∧((e.es.take k).Pairwise fun y x=>ej x y=true)∧wr.cell? ⟨w.heap.size,0,none⟩=some (.slice D.a D.len dc)∧wr.cell? ⟨w.heap.size+1,6,none⟩=some (.slice a e.es.length c)∧Up p w wr) (fun i _=>e.es.length- (intOf i).toNat)
  case atStart=>exact⟨0,Nat.zero_le _,rfl,(fun y hy=>by simp at hy),(by simp),by simp[go_sem],by simp[go_sem],ag⟩
  case round=>
   clear ag;obtain⟨k,hk,rfl,Qn,Qy,c0,c6,hU⟩:=hrel;have b0:=World.block_lt_of_cell? _ _ c0;have b6:=World.block_lt_of_cell? _ _ c6;simp only at b0 b6;have Z:=Lib.hid Qn;have Qo:=Lib.hid Qy;clear Qn Qy;by_cases Qa:k<e.es.length
   ·have QN:(k:Int)<e.es.length:=by omega
    obtain⟨b,o,rfl⟩:=hu.list.bt (by omega);obtain⟨a5,c5,h7,Q⟩:=hu.list.get k Qa;have Qs:=List.getElem_mem Qa;obtain⟨⟨f',F,QH⟩,Qg,P6⟩:=hX.out _ Qs;obtain rfl:=QH (by simp);have J:=P_.out _ Qs;have u:=Lib.hid fun hb=>Qm.out k Qa (.inl hb);have l:=Lib.hid fun hb=>Qm.out k Qa (.inr hb);have q:Hid (ee T e.es[k]=true→((e.es.take k).any fun y=> !ej e.es[k] y)=false→(∀y∈e.es.take (k+1),ee T y=true)∧((e.es.take (k+1)).Pairwise fun y x=>ej x y=true)):=fun h1 h2=>by
     rw[List.take_succ_eq_append_getElem Qa];refine⟨fun y hy=> ?_,?_⟩
     ·rcases List.mem_append.1 hy with hy|hy
      ·exact Z.out y hy
      ·simp at hy;subst hy;exact h1
     ·rw[List.pairwise_append]
      refine⟨Qo.out,List.pairwise_singleton _ _,fun y hy z hz=> ?_⟩;simp at hz;subst hz;have:=List.any_eq_false.1 h2 y hy;simpa using this
    have Qz:Hid (∀j(hj:j<(e.es.take k).length) x,x=e.es[k]→mt T .term x false=true→∀a' c' a5 c5 W,ai p D (e.es.take k)[j] a' c'→ai p D x a5 c5→KW p W→Calls Tryz.prog 141 #[.slice D.a D.len dc,.agg #[.int .i64 x.k,.int .i64 x.n,.int .i64 x.m,.bool x.v,.string x.nm,.string x.tg,.slice a5 x.es.length c5],.agg #[.int .i64 ((e.es.take k)[j]).k,.int .i64 ((e.es.take k)[j]).n,.int .i64 ((e.es.take k)[j]).m,.bool ((e.es.take k)[j]).v,.string ((e.es.take k)[j]).nm,.string ((e.es.take k)[j]).tg,.slice a' ((e.es.take k)[j]).es.length c']] W (RB (ej x (e.es.take k)[j]) W)):=by
     intro j hj x hx f a' c' a5 c5 W Qb Q s;have QA:=List.getElem_mem hj;have Qt:=List.mem_of_mem_take QA;have hyp:=Z.out _ QA;unfold ee at hyp;simp only[Bool.and_eq_true]at hyp;obtain⟨⟨QP,Qu,QB⟩,_⟩:=hX.out _ Qt;obtain rfl:=QB (by simp);subst hx;exact wL p D dc NS E.cI _ _ 1 1 a5 c5 a' c' W F.pl Qu.pl J (P_.out _ Qt) F.aB Qu.aB (fun hi=>qX E F J f hi) (fun hi=>qX E Qu (P_.out _ Qt) hyp.1 hi) Q Qb s
    obtain⟨x,hx⟩:∃x,x=e.es[k]:=⟨_,rfl⟩
    rw[←hx]at h7 Q F Qg P6 J u l q;have Qc:=Lib.hid fun j hj f a' c' W Qb s=>Qz.out j hj x hx f a' c' a5 c5 W Qb Q s;clear hx Qz Qs;obtain⟨g0,g1,g2,g3,g4,g5,g6⟩:(wr.cell? ⟨b,o+k*7,none⟩=some (.int .i64 x.k)∧wr.cell? ⟨b,o+k*7+1,none⟩=some (.int .i64 x.n)∧wr.cell? ⟨b,o+k*7+2,none⟩=some (.int .i64 x.m)∧wr.cell? ⟨b,o+k*7+3,none⟩=some (.bool x.v)∧wr.cell? ⟨b,o+k*7+4,none⟩=some (.string x.nm)∧wr.cell? ⟨b,o+k*7+5,none⟩=some (.string x.tg)∧wr.cell? ⟨b,o+k*7+6,none⟩=some (.slice a5 x.es.length c5)):=h7.world hU.kw;clear h7;have B:=hU.alloc (.cells #[.int .i64 x.k,.int .i64 x.n,.int .i64 x.m,.bool x.v,.string x.nm,.string x.tg,.slice a5 x.es.length c5] 25);have K:=fun W s=>uz E p dc F J Qg P6 hT a5 c5 W Q s;cases f:mt T .term x false
    ·have d:=fun W s=>aP (K W s) f
     have hF:Hid (false=r):=(u.out (by unfold ee;rw[f];rfl)).symm;clear K f Qg P6 q u l Qc F;go_wp2_with fail
     refine(d _ B.kw).mono ?_;rintro Y t ⟨rfl,aa⟩;have N:=Lib.hid (B.step aa).up;clear aa d;go_wp2_with fail
     go_ret;exact⟨_,rfl,hF.out,N.out⟩
    have d:=fun W s=>aP (K W s) f;have hE:=fun W s=>lL p D dc x 1 2 a5 c5 W F.pl (by omega) (by omega) Q s;have Qh:=Lib.hid fun W (s:KW p W) lb H=>gK k p D (e.es.take k) (by simp;omega) (some ⟨b,o,none⟩) c 140 lb (fun y=> !ej x y) W s (hu.list.take k) (by simp;omega) eg.out H;have Qp:=Lib.hid fun j hj a' c' W Qb s=>Qc.out j hj f a' c' W Qb s;clear Qc;have P7:=Lib.hid f;clear K f Qg P6;cases he:aT x
    ·have L:=fun W s=>aP (hE W s) he
     have P4:Hid (ee T x=true):=by unfold Hid ee;rw[P7.out,he];rfl
     clear hE he u F P7;go_wp2_with fail
     refine(d _ B.kw).mono ?_;rintro Y t ⟨rfl,aa⟩;have M:=B.step aa;obtain⟨x0,x1,x2,x3,x4,x5,x6⟩:(t.cell? ⟨wr.heap.size,0,none⟩=some (.int .i64 x.k)∧t.cell? ⟨wr.heap.size,1,none⟩=some (.int .i64 x.n)∧t.cell? ⟨wr.heap.size,2,none⟩=some (.int .i64 x.m)∧t.cell? ⟨wr.heap.size,3,none⟩=some (.bool x.v)∧t.cell? ⟨wr.heap.size,4,none⟩=some (.string x.nm)∧t.cell? ⟨wr.heap.size,5,none⟩=some (.string x.tg)∧t.cell? ⟨wr.heap.size,6,none⟩=some (.slice a5 x.es.length c5)):=by
      repeat' apply And.intro
      all_goals exact TS.cell_kept aa (by first|(simp[go_sem];done)|(go_keep;done))
     have d0:t.cell? ⟨w.heap.size,0,none⟩=some (.slice D.a D.len dc):=TS.cell_kept aa (by rw[World.cell?_alloc_lt _ _ _ b0];exact c0);have d6:t.cell? ⟨w.heap.size+1,6,none⟩=some (.slice (some ⟨b,o,none⟩) e.es.length c):=TS.cell_kept aa (by rw[World.cell?_alloc_lt _ _ _ b6];exact c6);clear aa d B c0 c6;go_wp2_with fail
     refine(L _ M.kw).mono ?_;rintro Y G ⟨rfl,A⟩;have R:=M.step A;obtain⟨y0,y1,y2,y3,y4,y5,y6⟩:(G.cell? ⟨wr.heap.size,0,none⟩=some (.int .i64 x.k)∧G.cell? ⟨wr.heap.size,1,none⟩=some (.int .i64 x.n)∧G.cell? ⟨wr.heap.size,2,none⟩=some (.int .i64 x.m)∧G.cell? ⟨wr.heap.size,3,none⟩=some (.bool x.v)∧G.cell? ⟨wr.heap.size,4,none⟩=some (.string x.nm)∧G.cell? ⟨wr.heap.size,5,none⟩=some (.string x.tg)∧G.cell? ⟨wr.heap.size,6,none⟩=some (.slice a5 x.es.length c5)):=by
      repeat' apply And.intro
      all_goals exact TS.cell_kept A (by assumption)
     have e0:=TS.cell_kept A d0;have e6:=TS.cell_kept A d6;clear A L M d0 d6 x0 x1 x2 x3 x4 x5 x6;go_wp2_with fail
     refine(Qh.out _ R.kw _ ?_).mono ?_
     ·intro j hj S a' c' P5 Qv
      have Qw:(S.cell? ⟨wr.heap.size,0,none⟩=some (.int .i64 x.k)∧S.cell? ⟨wr.heap.size,1,none⟩=some (.int .i64 x.n)∧S.cell? ⟨wr.heap.size,2,none⟩=some (.int .i64 x.m)∧S.cell? ⟨wr.heap.size,3,none⟩=some (.bool x.v)∧S.cell? ⟨wr.heap.size,4,none⟩=some (.string x.nm)∧S.cell? ⟨wr.heap.size,5,none⟩=some (.string x.tg)∧S.cell? ⟨wr.heap.size,6,none⟩=some (.slice a5 x.es.length c5)):=by
       repeat' apply And.intro
       all_goals exact TS.cell_kept P5 (by assumption)
      exact uA p D dc x _ a5 c5 a' c' S (fun Qx Qd=>Qp.out j hj a' c' Qx Qv Qd) (R.kw.grown P5) w.heap.size wr.heap.size (TS.cell_kept P5 e0) Qw
     rintro Y w3 ⟨bb,rfl,O,C⟩;have P:=Lib.hid (R.step C);have f0:=TS.cell_kept C e0;have f6:=TS.cell_kept C e6;clear C Qh R e0 e6 y0 y1 y2 y3 y4 y5 y6;cases bb
     ·have hN:=Lib.hid (q.out P4.out O.out.symm)
      clear O q l P4;go_wp2_with fail
      go_roundw
      case rel=>exact⟨k+1,by omega,by go_num,hN.out.1,hN.out.2,f0,f6,P.out⟩
      case measure=>simp[intOf];omega
     ·have hF:Hid (false=r):=(l.out O.out.symm).symm
      have N:=Lib.hid P.out.up;clear O q l P4;go_wp2_with fail
      go_ret;exact⟨_,rfl,hF.out,N.out⟩
    ·have L:=fun W s=>aP (hE W s) he
     obtain⟨_,Qe,QC⟩:=jH.1 he;have QD:=fun W (s:KW p W)=>jI D dc NS E.cI x p 1 2 a5 c5 W F.pl (by omega) (by omega) J Qe F.aB Q s;have Qi:=fun W s=>wm D dc x p 1 2 a5 c5 W F.pl (by omega) (by omega) J Qe QC Q s;have Qj:Hid (ee T x= !(decide (0<(aj x).length)||eh x)):=by unfold Hid ee;rw[P7.out,he];simp
     generalize aj x=lx at*;generalize eh x=sx at*;clear hE he F P7 J Qe QC;go_wp2_with fail
     refine(d _ B.kw).mono ?_;rintro Y t ⟨rfl,aa⟩;have M:=B.step aa;obtain⟨x0,x1,x2,x3,x4,x5,x6⟩:(t.cell? ⟨wr.heap.size,0,none⟩=some (.int .i64 x.k)∧t.cell? ⟨wr.heap.size,1,none⟩=some (.int .i64 x.n)∧t.cell? ⟨wr.heap.size,2,none⟩=some (.int .i64 x.m)∧t.cell? ⟨wr.heap.size,3,none⟩=some (.bool x.v)∧t.cell? ⟨wr.heap.size,4,none⟩=some (.string x.nm)∧t.cell? ⟨wr.heap.size,5,none⟩=some (.string x.tg)∧t.cell? ⟨wr.heap.size,6,none⟩=some (.slice a5 x.es.length c5)):=by
      repeat' apply And.intro
      all_goals exact TS.cell_kept aa (by first|(simp[go_sem];done)|(go_keep;done))
     have d0:t.cell? ⟨w.heap.size,0,none⟩=some (.slice D.a D.len dc):=TS.cell_kept aa (by rw[World.cell?_alloc_lt _ _ _ b0];exact c0);have d6:t.cell? ⟨w.heap.size+1,6,none⟩=some (.slice (some ⟨b,o,none⟩) e.es.length c):=TS.cell_kept aa (by rw[World.cell?_alloc_lt _ _ _ b6];exact c6);clear aa d B c0 c6;go_wp2_with fail
     refine(L _ M.kw).mono ?_;rintro Y G ⟨rfl,A⟩;have R:=M.step A;obtain⟨y0,y1,y2,y3,y4,y5,y6⟩:(G.cell? ⟨wr.heap.size,0,none⟩=some (.int .i64 x.k)∧G.cell? ⟨wr.heap.size,1,none⟩=some (.int .i64 x.n)∧G.cell? ⟨wr.heap.size,2,none⟩=some (.int .i64 x.m)∧G.cell? ⟨wr.heap.size,3,none⟩=some (.bool x.v)∧G.cell? ⟨wr.heap.size,4,none⟩=some (.string x.nm)∧G.cell? ⟨wr.heap.size,5,none⟩=some (.string x.tg)∧G.cell? ⟨wr.heap.size,6,none⟩=some (.slice a5 x.es.length c5)):=by
      repeat' apply And.intro
      all_goals exact TS.cell_kept A (by assumption)
     have e0:=TS.cell_kept A d0;have e6:=TS.cell_kept A d6;clear A L M d0 d6 x0 x1 x2 x3 x4 x5 x6;go_wp2_with fail
     refine(QD _ R.kw).mono ?_;rintro Y w3 ⟨q3,a3,n3,c3,rfl,QE,QQ,QR,QI,C⟩;have P:=R.step C;obtain⟨z0,z1,z2,z3,z4,z5,z6⟩:(w3.cell? ⟨wr.heap.size,0,none⟩=some (.int .i64 x.k)∧w3.cell? ⟨wr.heap.size,1,none⟩=some (.int .i64 x.n)∧w3.cell? ⟨wr.heap.size,2,none⟩=some (.int .i64 x.m)∧w3.cell? ⟨wr.heap.size,3,none⟩=some (.bool x.v)∧w3.cell? ⟨wr.heap.size,4,none⟩=some (.string x.nm)∧w3.cell? ⟨wr.heap.size,5,none⟩=some (.string x.tg)∧w3.cell? ⟨wr.heap.size,6,none⟩=some (.slice a5 x.es.length c5)):=by
      repeat' apply And.intro
      all_goals exact TS.cell_kept C (by assumption)
     have f0:=TS.cell_kept C e0;have f6:=TS.cell_kept C e6;have Qq:=QE.out;clear C QD R e0 e6 y0 y1 y2 y3 y4 y5 y6 QE QI;by_cases P8:0<lx.length
     ·have tp:(0:Int)<n3:=by omega
      have tq:0<n3:=by omega
      have hF:Hid (false=r):=(u.out (by rw[Qj.out,decide_eq_true P8];rfl)).symm;have N:=Lib.hid P.up;clear Qj u l q P8 Qq;go_wp2_with fail
      go_ret;exact⟨_,rfl,hF.out,N.out⟩
     have QJ:n3=0:=by omega
     subst QJ;have P9:Hid (ee T x= !sx):=by unfold Hid;rw[Qj.out,decide_eq_false P8];rfl
     clear Qj P8 Qq;cases sx
     case true=>
      have V:=fun W s=>aP (Qi W s) rfl;have hF:Hid (false=r):=(u.out P9.out).symm;clear Qi P9 u l q;go_wp2_with fail
      refine(V _ P.kw).mono ?_;rintro Y w4 ⟨rfl,X⟩;have N:=Lib.hid (P.step X).up;clear X V;go_wp2_with fail
      go_ret;exact⟨_,rfl,hF.out,N.out⟩
     have V:=fun W s=>aP (Qi W s) rfl;have P4:Hid (ee T x=true):=P9.out;clear Qi P9 u;go_wp2_with fail
     refine(V _ P.kw).mono ?_;rintro Y w4 ⟨rfl,X⟩;have Qk:=P.step X;obtain⟨y0,y1,y2,y3,y4,y5,y6⟩:(w4.cell? ⟨wr.heap.size,0,none⟩=some (.int .i64 x.k)∧w4.cell? ⟨wr.heap.size,1,none⟩=some (.int .i64 x.n)∧w4.cell? ⟨wr.heap.size,2,none⟩=some (.int .i64 x.m)∧w4.cell? ⟨wr.heap.size,3,none⟩=some (.bool x.v)∧w4.cell? ⟨wr.heap.size,4,none⟩=some (.string x.nm)∧w4.cell? ⟨wr.heap.size,5,none⟩=some (.string x.tg)∧w4.cell? ⟨wr.heap.size,6,none⟩=some (.slice a5 x.es.length c5)):=by
      repeat' apply And.intro
      all_goals exact TS.cell_kept X (by assumption)
     have e0:=TS.cell_kept X f0;have e6:=TS.cell_kept X f6;clear X V P f0 f6 z0 z1 z2 z3 z4 z5 z6;go_wp2_with fail
     refine(Qh.out _ Qk.kw _ ?_).mono ?_
     ·intro j hj S a' c' P5 Qv
      have Qw:(S.cell? ⟨wr.heap.size,0,none⟩=some (.int .i64 x.k)∧S.cell? ⟨wr.heap.size,1,none⟩=some (.int .i64 x.n)∧S.cell? ⟨wr.heap.size,2,none⟩=some (.int .i64 x.m)∧S.cell? ⟨wr.heap.size,3,none⟩=some (.bool x.v)∧S.cell? ⟨wr.heap.size,4,none⟩=some (.string x.nm)∧S.cell? ⟨wr.heap.size,5,none⟩=some (.string x.tg)∧S.cell? ⟨wr.heap.size,6,none⟩=some (.slice a5 x.es.length c5)):=by
       repeat' apply And.intro
       all_goals exact TS.cell_kept P5 (by assumption)
      exact uA p D dc x _ a5 c5 a' c' S (fun Qx Qd=>Qp.out j hj a' c' Qx Qv Qd) (Qk.kw.grown P5) w.heap.size wr.heap.size (TS.cell_kept P5 e0) Qw
     rintro Y w5 ⟨bb,rfl,O,Ql⟩;have QF:=Lib.hid (Qk.step Ql);have f0:=TS.cell_kept Ql e0;have f6:=TS.cell_kept Ql e6;clear Ql Qh Qk e0 e6 y0 y1 y2 y3 y4 y5 y6;cases bb
     ·have hN:=Lib.hid (q.out P4.out O.out.symm)
      clear O q l P4;go_wp2_with fail
      go_roundw
      case rel=>exact⟨k+1,by omega,by go_num,hN.out.1,hN.out.2,f0,f6,QF.out⟩
      case measure=>simp[intOf];omega
     ·have hF:Hid (false=r):=(l.out O.out.symm).symm
      have N:=Lib.hid QF.out.up;clear O q l P4;go_wp2_with fail
      go_ret;exact⟨_,rfl,hF.out,N.out⟩
   ·have hF:Hid (g=r):=by
     refine(Qr.out (fun y hy=>Z.out y ?_) ?_).symm
     ·rw[List.take_of_length_le (by omega)];exact hy
     ·have:=Qo.out;rwa [List.take_of_length_le (by omega)]at this
    have N:=hU.up;go_wp2_with fail
    go_ret;exact⟨_,rfl,hF.out,N⟩
 ·have t12:(e.k !=12)=true:=by simp[I]
  have hR:Hid (r=(mt T .term e false&&(g||aT e&& !aW e))):=by unfold Hid;rw[hr];exact iU I
  have K:=fun W s=>uz E p dc h I hM (fun x hx=>(Qf x hx).1) hT a c W hu s;have hE:=fun W s=>lL p D dc e 2 2 a c W h.pl (by omega) (by omega) hu s;have hG:=fun(hk:e.k≠13) W s=>kl D dc e p 2 2 a c W h.pl (by omega) (by omega) I hk hu s;clear hr hM Qf h I;cases f:mt T .term e false
  ·have d:=fun W s=>aP (K W s) f
   have hF:Hid (false=r):=by unfold Hid;rw[hR.out,f];rfl
   clear K f hE hG;go_enter Tryz.func100,Tryz.ntmps100;go_wp2_with fail
   refine(d _ ag.kw).mono ?_;rintro Y t ⟨rfl,aa⟩;have N:=Lib.hid (ag.step aa).up;clear aa d;go_wp2_with fail
   go_ret;exact⟨_,rfl,hF.out,N.out⟩
  have d:=fun W s=>aP (K W s) f;cases g
  case true=>
   have hF:Hid (true=r):=by unfold Hid;rw[hR.out,f];rfl
   clear K f hE hG;go_enter Tryz.func100,Tryz.ntmps100;go_wp2_with fail
   refine(d _ ag.kw).mono ?_;rintro Y t ⟨rfl,aa⟩;have N:=Lib.hid (ag.step aa).up;clear aa d;go_wp2_with fail
   go_ret;exact⟨_,rfl,hF.out,N.out⟩
  cases he:aT e
  ·have L:=fun W s=>aP (hE W s) he
   have hF:Hid (false=r):=by unfold Hid;rw[hR.out,f,he];rfl
   clear K f hE hG he;go_enter Tryz.func100,Tryz.ntmps100;go_wp2_with fail
   refine(d _ ag.kw).mono ?_;rintro Y t ⟨rfl,aa⟩;have B:=ag.step aa;have d0:t.cell? ⟨w.heap.size,0,none⟩=some (.slice D.a D.len dc):=TS.cell_kept aa (by simp[go_sem]);obtain⟨x0,x1,x2,x3,x4,x5,x6⟩:(t.cell? ⟨w.heap.size+1,0,none⟩=some (.int .i64 e.k)∧t.cell? ⟨w.heap.size+1,1,none⟩=some (.int .i64 e.n)∧t.cell? ⟨w.heap.size+1,2,none⟩=some (.int .i64 e.m)∧t.cell? ⟨w.heap.size+1,3,none⟩=some (.bool e.v)∧t.cell? ⟨w.heap.size+1,4,none⟩=some (.string e.nm)∧t.cell? ⟨w.heap.size+1,5,none⟩=some (.string e.tg)∧t.cell? ⟨w.heap.size+1,6,none⟩=some (.slice a e.es.length c)):=by
    repeat' apply And.intro
    all_goals exact TS.cell_kept aa (by first|(simp[go_sem];done)|(go_keep;done))
   clear aa d;go_wp2_with fail
   refine(L _ B.kw).mono ?_;rintro Y G ⟨rfl,A⟩;have N:=Lib.hid (B.step A).up;clear A L;go_wp2_with fail
   go_ret;exact⟨_,rfl,hF.out,N.out⟩
  ·have L:=fun W s=>aP (hE W s) he
   have QG:=hG (jH.1 he).2.1;have hF:Hid ((!aW e)=r):=by unfold Hid;rw[hR.out,f,he];rfl
   generalize aW e=ge at*;clear K f hE hG he;go_enter Tryz.func100,Tryz.ntmps100;go_wp2_with fail
   refine(d _ ag.kw).mono ?_;rintro Y t ⟨rfl,aa⟩;have B:=ag.step aa;have d0:t.cell? ⟨w.heap.size,0,none⟩=some (.slice D.a D.len dc):=TS.cell_kept aa (by simp[go_sem]);obtain⟨x0,x1,x2,x3,x4,x5,x6⟩:(t.cell? ⟨w.heap.size+1,0,none⟩=some (.int .i64 e.k)∧t.cell? ⟨w.heap.size+1,1,none⟩=some (.int .i64 e.n)∧t.cell? ⟨w.heap.size+1,2,none⟩=some (.int .i64 e.m)∧t.cell? ⟨w.heap.size+1,3,none⟩=some (.bool e.v)∧t.cell? ⟨w.heap.size+1,4,none⟩=some (.string e.nm)∧t.cell? ⟨w.heap.size+1,5,none⟩=some (.string e.tg)∧t.cell? ⟨w.heap.size+1,6,none⟩=some (.slice a e.es.length c)):=by
    repeat' apply And.intro
    all_goals exact TS.cell_kept aa (by first|(simp[go_sem];done)|(go_keep;done))
   clear aa d;go_wp2_with fail
   refine(L _ B.kw).mono ?_;rintro Y G ⟨rfl,A⟩;have M:=B.step A;have e0:=TS.cell_kept A d0;obtain⟨y0,y1,y2,y3,y4,y5,y6⟩:(G.cell? ⟨w.heap.size+1,0,none⟩=some (.int .i64 e.k)∧G.cell? ⟨w.heap.size+1,1,none⟩=some (.int .i64 e.n)∧G.cell? ⟨w.heap.size+1,2,none⟩=some (.int .i64 e.m)∧G.cell? ⟨w.heap.size+1,3,none⟩=some (.bool e.v)∧G.cell? ⟨w.heap.size+1,4,none⟩=some (.string e.nm)∧G.cell? ⟨w.heap.size+1,5,none⟩=some (.string e.tg)∧G.cell? ⟨w.heap.size+1,6,none⟩=some (.slice a e.es.length c)):=by
    repeat' apply And.intro
    all_goals exact TS.cell_kept A (by assumption)
   clear A L B d0 x0 x1 x2 x3 x4 x5 x6;go_wp2_with fail
   refine(QG _ M.kw).mono ?_;rintro Y w3 ⟨b,rfl,hb,C⟩;have N:=Lib.hid (M.step C).up;have QK:Hid ((!b)=r):=by unfold Hid;rw[hb.out];exact hF.out
   clear hb C QG;go_wp2_with fail
   go_ret;exact⟨_,rfl,QK.out,N.out⟩
end Go.Proofs.YtgbklbbknehefaaGreatDoor
