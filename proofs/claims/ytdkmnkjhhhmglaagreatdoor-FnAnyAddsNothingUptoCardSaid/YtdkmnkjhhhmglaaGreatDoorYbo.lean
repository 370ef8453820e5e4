import Derived.Test.YtdkmnkjhhhmglaaGreatDoorYbk
import Derived.Test.YtdkmnkjhhhmglaaGreatDoorYbn
set_option maxRecDepth 100000
set_option maxHeartbeats 8000000
set_option linter.all false
namespace TS
open Go Go.RowKit Go.Proofs.YtdkmnkjhhhmglaaGreatDoor
section
variable {C:BC} {p q r:Pm} {g g1 g2:Ge} {mv mv1:Value} {ms ms1 ms2:List Nat} {w w1 w2:World}
theorem FQ(g:Ge){c b:Nat}(h:c≤b):aH (g.below c) (g.below b):=
 ⟨rfl,rfl,rfl,rfl,rfl,rfl,rfl,rfl,fun x u k=>by
  simp only[Ge.below]at k⊢;split at k
  ·rw[if_pos (by omega)];exact k
  ·cases k⟩
theorem FR{g:Ge}{b c:Nat}{u:U}(h:(g.below b).G c=some u):c<b∧g.G c=some u:=by
 simp only[Ge.below]at h;split at h
 ·exact⟨‹_›,h⟩
 ·cases h
theorem BS.FT(h:BS C p g mv ms w)(b:Nat)(e:∀c u,g.G c=some u→c<b→cY p (g.below c) c u):aw p (g.below b) w:=
 ⟨h.wb.kw,h.wb.pl,⟨h.inj.nb,h.inj.ob,h.inj.ne,h.inj.nc,h.inj.ec,h.inj.oe,h.inj.oc,h.inj.ac⟩,h.wb.cap,fun c u k=>
  let⟨a,d⟩:=FR k
  ⟨(h.ifs c u d).2.1,(e c u d a).sub (Sub.refl p) (FQ g (Nat.le_of_lt a))⟩,h.po,h.cH,h.cI⟩
def gZ(p q:Pm)(w:World)(X:Nat→Prop):Prop:=Sub p q∧∀c o v,q c o=some v→p c o=some v∨w.heap.size≤c∨(X c∧o=6)
theorem gZ.refl(p:Pm)(w:World)(X:Nat→Prop):gZ p p w X:=⟨Sub.refl p,fun _ _ _ h=> .inl h⟩
theorem gZ.trans{X:Nat→Prop}(h:gZ p q w X)(k:gZ q r w1 X)(a:w.heap.size≤w1.heap.size):gZ p r w X:=
 ⟨h.1.trans k.1,fun c o v e=>by
  rcases k.2 c o v e with e|e|e
  ·exact h.2 c o v e
  ·exact .inr (.inl (by omega))
  ·exact .inr (.inr e)⟩
theorem BS.FU(h:BS C p g mv ms w){b:Nat}{u:U}(B:g.G b=some u)(d:Sub p q)(t:∀c o v,q c o=some v→p c o=some v∨w.heap.size≤c∨(c=b∧o=6))(z:aw q (g.below b) w1)(hT:cY q (g.below b) b u)(j:Kept (fun c=>c=b) w w1):BS C q g mv ms w1:=by
 have hi:=h.ifs b u B;have D:=h.lp _ _ _ hi.2.1;have l:=World.block_lt_of_cell? _ _ h.c0;simp only at l;have m:C.bb≠b:=fun e=>by have:=h.pb 0;rw[e,hi.2.1]at this;cases this
 have s:mv.ownBlock≠some b:=fun e=>by have:=(h.rd _ e).2 0;rw[hi.2.1]at this;cases this
 have a:∀o,w1.cell? ⟨C.bb,o,none⟩=w.cell? ⟨C.bb,o,none⟩:=fun o=>j.cell l m;have f:∀c o,c<w.heap.size→¬(c=b∧o=6)→p c o=none→q c o=none:=fun c o h1 h2 h3=>by
  cases E:q c o with
  |none=>rfl
  |some v=>
   rcases t _ _ _ E with e|e|e
   ·rw[h3]at e;cases e
   ·omega
   ·exact absurd e h2
 refine⟨h.ka.kept j fun c o v e J=>by have:=h.la _ _ _ e;omega,h.la,⟨z.kw,z.pl,z.cap⟩,fun c o v e=> ?_,h.inj,h.gv,h.bl,fun o=>f _ _ l (by omega) (h.pb o),by rw[a];exact h.c0,?_,by rw[a];exact h.c2,by rw[a];exact h.c3,by rw[a];exact h.c4,?_,eC h.row j fun c e F=>s (by rw[e];exact congrArg some F),fun c e=>⟨(h.rd c e).1,fun o=>f _ _ (h.row.lt _ e).2 (fun k=>s (k.1▸e)) ((h.rd c e).2 o)⟩,h.ord,fun c e=>⟨Nat.lt_of_lt_of_le (h.mlt c e).1 j.size,(h.mlt c e).2⟩,fun c H e=> ?_,h.len,fun i hi=>d _ _ _ (h.nm i hi),fun i hi=>let⟨o,v,e⟩:=h.po i hi;⟨o,v,d _ _ _ e⟩,let⟨o,v,e⟩:=h.cH;⟨o,v,d _ _ _ e⟩,let⟨o,v,e⟩:=h.cI;⟨o,v,d _ _ _ e⟩,?_,?_,?_⟩
 ·rcases t _ _ _ e with e|e|e
  ·exact h.lp _ _ _ e
  ·have:=h.bl;omega
  ·omega
 ·obtain⟨h1,h2⟩:=h.c1
  exact⟨by rw[a];exact h1,h2.sub d⟩
 ·rw[j.frozen l m];exact h.f4
 ·by_cases A:c=b
  ·subst A
   rw[B]at e;cases e;exact⟨Nat.lt_of_lt_of_le hi.1 j.size,d _ _ _ hi.2.1,d _ _ _ hi.2.2.1,.inl hT⟩
  ·have y:=h.ifs c H e
   exact y.mono d (aH.refl g) (fun _ h=>h) j.size (j.cell y.1 A) (j.frozen y.1 A) fun I=>f _ _ y.1 (by omega) I
 ·obtain⟨h1,x,h2,h3⟩:=h.err
  exact⟨d _ _ _ h1,x,h2.sub d,h3.sub d (aH.refl g)⟩
 ·obtain⟨h1,x,h2,h3⟩:=h.cmp
  exact⟨d _ _ _ h1,x,h2.sub d,h3⟩
 ·intro n t hi
  obtain⟨x,h1,h2⟩:=h.tn n t hi;exact⟨x,h1.sub d,h2.sub d (aH.refl g)⟩
def nE(C:BC)(p:Pm)(g:Ge)(mv:Value)(ms:List Nat)(w:World)(q:Pm)(a:World):Prop:=
 BS C q g mv ms a∧gZ p q w (fun c=>c∈ms)∧Kept (fun c=>c∈ms) w a
end
end TS
namespace Go.Proofs.YtdkmnkjhhhmglaaGreatDoor
open Go.RowKit TS
theorem FV(C:BC)(p:Pm)(g:Ge)(mv:Value)(ms:List Nat)(w:World)(b:Nat)(u:U)(a:BS C p g mv ms w)(f:g.G b=some u)(hm:b∈ms)(h:∀c u,g.G c=some u→c<b→cY p (g.below c) c u):
 Calls Tryz.prog 93 #[.pointer (some ⟨b,0,none⟩)] w fun e E=>e= .returned (.pointer (some ⟨b,0,none⟩))∧∃q,nE C p g mv ms w q E∧cY q (g.below b) b u:=by
 have hi:=a.ifs b u f;have z0:=a.wb.kw _ _ _ hi.2.1;have z5:=a.wb.kw _ _ _ hi.2.2.1;obtain⟨F,H,J,hT|⟨_,A,hF,i,j,f6⟩⟩:=hi
 ·obtain⟨tb,k⟩:∃tb,p b 6=some (ptr tb):=by obtain⟨tb,_,_,_,_,_,_,_,k,_⟩:=hT;exact⟨tb,k⟩
  have j:=a.wb.kw _ _ _ k;have d:Hid (nE C p g mv ms w p w∧cY p (g.below b) b u):=⟨⟨a,gZ.refl _ _ _,Kept.refl _ _⟩,hT⟩
  have l:=Lib.hid (kB b tb w z0 j);clear a hT h;go_enter Tryz.func93,Tryz.ntmps93;go_wp2_with fail
  refine l.out.mono ?_;rintro e w1 ⟨rfl,rfl⟩;go_wp2_with fail
  go_ret;exact⟨rfl,p,d.out⟩
 ·have m:5<b:=by have:=a.gv;have:=a.lp _ _ _ H;omega
  have I:Hid (∀n pos,Calls Tryz.prog 74 #[.pointer n,.int .i64 pos,.pointer (some ⟨b,0,none⟩)] w (jK p (g.below b) b u w)):=fun n pos=>wT C.D.len p (g.below b) b u n pos w (a.FT b h) A hF j f6 i m;have s:=Lib.hid a;have t:=Lib.hid f;clear a A hF h f;go_enter Tryz.func93,Tryz.ntmps93;go_wp2_with fail
  go_enter Tryz.func44,Tryz.ntmps44;go_wp2_with fail
  refine(I.out _ _).mono ?_;rintro e w1 ⟨q,tb,rfl,x,y,B,hT,z⟩;have d:Hid (∃q,nE C p g mv ms w q w1∧cY q (g.below b) b u):=⟨q,⟨s.out.FU t.out x y B hT z,⟨x,fun c o v e=>(y c o v e).imp id fun e=>Or.imp id (fun(e:c=b∧o=6)=>⟨by rw[e.1];exact hm,e.2⟩) e⟩,z.mono fun c _ e=>e▸hm⟩,hT⟩
  clear B hT z x y;go_wp2_with fail
  go_ret;go_wp2_with fail
  exact d.out
theorem _root_.TS.BS.FW{C:BC}{q:Pm}{g:Ge}{mv:Value}{ms:List Nat}{w:World}(h:BS C q g mv ms w)(f:∀b u,g.G b=some u→cY q (g.below b) b u):BS C q g (.slice none 0 0) [] (w.setCell ⟨C.bb,4,none⟩ (.slice none 0 0)):=by
 have d:Kept (fun c=>c=C.bb) w (w.setCell ⟨C.bb,4,none⟩ (.slice none 0 0)):=Kept.setCell (X:=fun c=>c=C.bb) (Kept.refl _ _) (fun _=>rfl) _;have a:∀o,o≠4→(w.setCell ⟨C.bb,4,none⟩ (.slice none 0 0)).cell? ⟨C.bb,o,none⟩=w.cell? ⟨C.bb,o,none⟩:=fun o i=>World.cell?_setCell_other _ _ _ _ (fun e=>i (congrArg Addr.off e).symm);refine⟨h.ka.kept d fun c o v e j=>by have:=h.la _ _ _ e;have:=h.bl;omega,h.la,h.wb.setCell _ (h.pb 4) (by have:=h.gv;have:=h.bl;omega),h.lp,h.inj,h.gv,h.bl,h.pb,by rw[a 0 (by decide)];exact h.c0,?_,by rw[a 2 (by decide)];exact h.c2,by rw[a 3 (by decide)];exact h.c3,World.cell?_setCell_same _ _ _ h.c4,by rw[World.frozen?_setCell];exact h.f4,World.ownsRow_nil _ _ _ _,fun b e=>(by cases e),List.Pairwise.nil,fun b e=>(by cases e),fun b u e=> ?_,h.len,h.nm,h.po,h.cH,h.cI,h.err,h.cmp,h.tn⟩
 ·obtain⟨h1,h2⟩:=h.c1
  exact⟨by rw[a 1 (by decide)];exact h1,h2⟩
 ·obtain⟨h1,h2,h3,_⟩:=h.ifs b u e
  exact⟨Nat.lt_of_lt_of_le h1 d.size,h2,h3,.inl (f b u e)⟩
theorem xE(C:BC)(p:Pm)(g:Ge)(mv:Value)(ms:List Nat)(w:World)(v:BS C p g mv ms w)(Q:ms.length≤1099511627776):
 Calls Tryz.prog 42 #[.pointer (some ⟨C.bb,0,none⟩)] w fun e H=>e= .returned (.tuple #[])∧∃q,BS C q g (.slice none 0 0) [] H∧gZ p q w (fun c=>c∈ms)∧Kept (fun c=>c=C.bb∨c∈ms) w H:=by
 obtain⟨R,I,rfl⟩:=bn v.row;have z4:=v.c4;have x:=Lib.hid v;clear v;go_enter Tryz.func42,Tryz.ntmps42;go_wp2_with fail
 go_loopw [9] (fun y wr=> ∃(k:Nat)(q:Pm),k≤ms.length∧y= .int .i64 k∧nE C p g (.slice R ms.length I) ms w q wr∧∀i,i<k→∀b u,ms[i]?=some b→g.G b=some u→cY q (g.below b) b u) (fun y _=>ms.length- (intOf y).toNat)
 case atStart=>exact⟨0,p,Nat.zero_le _,rfl,⟨x.out,gZ.refl _ _ _,Kept.refl _ _⟩,fun i hi=>absurd hi (Nat.not_lt_zero _)⟩
 case round=>
  obtain⟨k,q,hk,rfl,z,J⟩:=hrel;have a:=Lib.hid z;have l:=Lib.hid J;have K:=z.1.c4;clear z J;by_cases s:k<ms.length
  ·have L:(k:Int)<ms.length:=by omega
   obtain⟨M,cap,S,_,T,N,_⟩:=k_ a.out.1.row (by omega);cases S;obtain⟨b,d⟩:∃b,ms[k]?=some b:=⟨_,List.getElem?_eq_getElem s⟩
   have A:wr.cell? ⟨M,k,none⟩=some (.pointer (some ⟨b,0,none⟩)):=by rw[a.out.1.row.cellAt k (by omega)];simp[d]
   have B:=(List.getElem?_eq_some_iff.1 d).2;obtain⟨_,u,hu⟩:=a.out.1.mlt b (List.mem_of_getElem? d);have U:=Lib.hid (FV C q g _ ms wr b u a.out.1 hu (List.mem_of_getElem? d) fun c O o V=>by
    rcases(a.out.1.ifs c O o).2.2.2 with h|⟨hm,_⟩
    ·exact h
    ·obtain⟨i,hi,rfl⟩:=List.getElem_of_mem hm
     have D:i<k:=by
      rcases Nat.lt_trichotomy i k with h|h|h
      ·exact h
      ·subst h;omega
      ·have:=List.pairwise_iff_getElem.1 a.out.1.ord k i s hi h;omega
     exact l.out i D _ O (List.getElem?_eq_getElem hi) o)
   have E:=Lib.hid hu;have m:=Lib.hid d;clear hu B;go_wp2_with fail
   rw[(List.getElem?_eq_some_iff.1 m.out).2];refine U.out.mono ?_;rintro e w1 ⟨rfl,F,f,t⟩;have j:Hid (nE C p g (.slice (some ⟨M,0,none⟩) ms.length I) ms w F w1∧∀i,i<k+1→∀b u,ms[i]?=some b→g.G b=some u→cY F (g.below b) b u):=by
    refine⟨⟨f.1,a.out.2.1.trans f.2.1 a.out.2.2.size,a.out.2.2.trans f.2.2 fun _ _ h=>h⟩,fun i hi c u2 o n=> ?_⟩;by_cases e:i=k
    ·subst e
     rw[m.out]at o;cases o;rw[E.out]at n;cases n;exact t
    ·exact(l.out i (by omega) c u2 o n).sub f.2.1.1 (aH.refl _)
   clear f t;go_wp2_with fail
   exact⟨⟨k+1,F,by omega,by go_num,j.out⟩,by first|omega|(simp[intOf];omega)⟩
  ·have W:¬(k:Int)<ms.length:=by omega
   have j:Hid (∃q,BS C q g (.slice none 0 0) [] (wr.setCell ⟨C.bb,4,none⟩ (.slice none 0 0))∧gZ p q w (fun c=>c∈ms)∧Kept (fun c=>c=C.bb∨c∈ms) w (wr.setCell ⟨C.bb,4,none⟩ (.slice none 0 0))):=by
    refine⟨q,a.out.1.FW fun b u P=> ?_,a.out.2.1,(a.out.2.2.mono fun c _ e=> .inr e).setCell (fun _=> .inl rfl) _⟩;rcases(a.out.1.ifs b u P).2.2.2 with h|⟨hm,_⟩
    ·exact h
    ·obtain⟨i,hi,rfl⟩:=List.getElem_of_mem hm
     exact l.out i (by omega) _ u (List.getElem?_eq_getElem hi) P
   have f4:=a.out.1.f4;clear a l;go_wp2_with fail
   go_end0
   exact⟨rfl,j.out⟩
end Go.Proofs.YtdkmnkjhhhmglaaGreatDoor
namespace TS
open Go Go.RowKit Go.Proofs.YtdkmnkjhhhmglaaGreatDoor
def xF(C:BC)(u:U)(p:Pm)(g:Ge)(w:World)(x:Value)(q:Pm)(a:Ge)(b:World):Prop:=
 Node q a u x∧BS C q a (.slice none 0 0) [] b∧Sub p q∧aH g a∧Kept (fun c=>C.B0≤c) w b
end TS
namespace Go.Proofs.YtdkmnkjhhhmglaaGreatDoor
open Go.RowKit TS
theorem xG(C:BC)(u:U)(hT:bZ C u)(p:Pm)(g:Ge)(mv:Value)(ms:List Nat)(a:Option Addr)(c:Nat)(w:World)(B:BS C p g mv ms w)(E:ms.length+cn u≤1099511627776)(hu:ak C.pa C.D u a c):
 Calls Tryz.prog 18 #[.pointer (some ⟨C.bb,0,none⟩),.agg #[.int .i64 u.k,.int .i64 u.n,.int .i64 u.m,.bool u.v,.string u.nm,.string u.tg,.slice a u.es.length c]] w fun e N=> ∃x q A,e= .returned x∧xF C u p g w x q A N:=by
 have h:Below w.heap.size w (w.alloc (.cells #[.int .i64 u.k,.int .i64 u.n,.int .i64 u.m,.bool u.v,.string u.nm,.string u.tg,.slice a u.es.length c] 25)):=(Below.refl _ _).alloc (Nat.le_refl _) _;have L:=Lib.hid (hT p g mv ms a c _ (B.below h) E hu);have l:=Lib.hid h;have i:=Lib.hid B;clear hu B h hT;go_enter Tryz.func18,Tryz.ntmps18;go_wp2_with fail
 refine L.out.mono ?_;rintro V O ⟨x,q,A,F,o,rfl,G,d,s,H,P,Q⟩;have M:=Lib.hid (xE C q A F o O d (by omega));obtain⟨R,S,rfl⟩:=G.val;have I:Hid (∀b,b∈o→C.B0≤b):=fun b J=>by
  obtain⟨_,u,hu⟩:=d.mlt b J;exact d.lp _ _ _ (d.ifs b u hu).2.1
 have K:=Lib.hid G;have f:=Lib.hid s;clear G s H P L d;go_wp2_with fail
 refine M.out.mono ?_;rintro W T ⟨rfl,r,t,j,y⟩;have z:Hid (xF C u p g w (ae R S) r A T):=by
  refine⟨K.out.sub j.1 (aH.refl _),t,f.out.gr.le.trans j.1,f.out.gs,?_⟩;refine(((Kept.of (X:=fun c=>C.B0≤c) l.out).trans f.out.kept fun b J e=> ?_).trans y fun b J e=> ?_)
  ·rcases e with e|e
   ·have:=i.out.bl;omega
   ·exact(i.out.ib (.inr e)).1
  ·rcases e with e|e
   ·have:=i.out.bl;omega
   ·exact I.out b e
 clear t j y M;go_wp2_with fail
 go_ret;exact⟨_,_,_,rfl,z.out⟩
def fu(u:U):U:=if(under u).k=16 then dN else under u
theorem np(b:Nat)(W:World):(Instr.typeAssert (.iface 44 (.pointer (some ⟨b,0,none⟩))) 38 44 true).run Tryz.prog W= .ok (.tuple #[.pointer (some ⟨b,0,none⟩),.bool true]) W:=by kernel_rfl
end Go.Proofs.YtdkmnkjhhhmglaaGreatDoor
namespace TS
open Go Go.RowKit Go.Proofs.YtdkmnkjhhhmglaaGreatDoor
theorem FZ:(bt.es.drop bt.m.toNat)= []:=rfl
theorem F3:(aI.es.drop aI.m.toNat)= []:=rfl
section
variable {D:Dl} {T:List U} {NS:List (List UInt8)} {i:Nat}
theorem pz(E:Env D T NS i):∀(u:U){pos f:Nat}{g:Bool},Mo D.len T NS i u pos f→f≠0→u.k≠12→u.k≠13→mt T .type u g=true→(under u).k=10→
 ∀e∈(under u).es.drop (under u).m.toNat,Mo D.len T NS i e 2 2∧∃y,mt T .elem e y=true:=by
 intro u;induction u using U.bg with
 |_ u ih=>
  intro pos f g h c q r hm a e he;obtain⟨⟨F,z,hu⟩,_,_⟩:=h.eB E c q r;refine⟨hu.elem a he,?_⟩;by_cases h2:u.k=2
  ·obtain⟨x,n⟩:=dD (h.pl.form.fS h2)
   have A:0<u.es.length:=by rw[n];simp
   have B:u.es[0]=x:=by simp[n]
   have p:=h.part 0 A;rw[B,ij h.f2 (.inl h2),show aV u 0=0 by unfold aV;rw[if_neg (by omega),if_neg (by omega)]]at p;rw[l8 h2,n]at hm;have s:mt T .type x g=true:=by simpa using hm
   have t:=nV h2 n;rw[t]at he a;exact(ih x (U.az (by rw[n];simp)) p c p.pl.form.aE.1 p.pl.form.aE.2 s a e he).2
  ·by_cases b:u.k=10
   ·rw[gJ b]at he
    rw[iw b]at hm;simp only[Bool.and_eq_true,List.all_eq_true]at hm;exact⟨g,hm.1 e he⟩
   ·by_cases d:u.k=11
    ·have w:=h.bp.named d
     rw[if_neg c]at w;obtain⟨h1,v,h3⟩:=w;rw[tD d h3]at he a;have j:=E.mt _ h1 v;rw[iw a]at j;simp only[Bool.and_eq_true,List.all_eq_true]at j;exact⟨true,j.1 e he⟩
    ·by_cases l:u.k=15
     ·rw[tE l (h.bp.err l)]at he
      rw[F3]at he;cases he
     ·by_cases o:u.k=14
      ·have:under u=bt:=by
        have C:bare u=bt:=gq o;unfold under;rw[C];rfl
       rw[this,FZ]at he;cases he
      ·rw[cQ h2 d o l]at a;omega
theorem jV{e:U}{g:Bool}(h:Mo D.len T NS i e 2 2)(hm:mt T .elem e g=true){y:U}(b:y∈(if e.k=12 then e.es else [e])):
 ∃pos,Mo D.len T NS i y pos 2∧y.k≠12∧mt T .term y false=true:=by
 by_cases a:e.k=12
 ·rw[if_pos a]at b
  rw[lY a]at hm;simp only[Bool.and_eq_true,List.all_eq_true]at hm;have hu:=h.union a b;refine⟨1,hu,fun hk=> ?_,(hm.1.1 y b).1⟩;cases hu.pl.form<;>omega
 ·rw[if_neg a]at b
  obtain rfl:y=e:=by simpa using b
  rw[js a]at hm;simp only[Bool.and_eq_true]at hm;exact⟨2,h,a,hm.1⟩
theorem Mo.aC{y:U}{pos:Nat}(h:Mo D.len T NS i y pos 2)(b:y.k≠12):Mo D.len T NS i (TS.aC y) 0 2:=by
 by_cases a:y.k=13
 ·have h1:=h.pl.form.iW a
  obtain⟨e,he⟩:=dD h1;have c:=h.part 0 (by omega);have d:y.es[0]'(by omega)=e:=by simp[he]
  rw[d,show aN y 0 2=2 by unfold aN;rw[if_pos rfl],show aV y 0=0 by unfold aV;rw[if_neg b,if_neg (by omega)]]at c;rw[iV a he];exact c
 ·rw[dY a];exact h.ig b a
theorem Mo.xI(E:Env D T NS i){u:U}{pos f:Nat}(h:Mo D.len T NS i u pos f)(a:u.k≠12)(b:u.k≠13)(hm:mt T .type u false=true):aR u:=
 (ki E.ok E.bp E.mt u pos f false i (Nat.le_refl _) h.bp h.pl h.f2 a b hm).2 (me u pos f h.bp h.pl h.f2 a b hm)
theorem Mo.je(E:Env D T NS i){y:U}{pos:Nat}(h:Mo D.len T NS i y pos 2)(c:y.k≠12)(hm:mt T .term y false=true)(hi:isIface (TS.aC y)=false):aR (TS.aC y):=by
 have b:=h.aC c;by_cases a:y.k=13
 ·obtain⟨e,he⟩:=dD (h.pl.form.iW a)
  rw[lZ a,he]at hm;have d:(mt T .type e false=true∧isIface e=false)∧aB e (under e)=true:=by simpa using hm
  rw[iV a he]at b⊢;exact b.xI E b.pl.form.aE.1 b.pl.form.aE.2 d.1.1
 ·rw[dY a]at hi b⊢
  rw[fF a,hi]at hm;exact b.xI E c a hm
theorem jW{y:U}{pos f:Nat}(c:Pl D.len y pos f)(a:y.k=13)(hm:mt T .term y false=true):isIface (aC y)=false∧aB (aC y) (under (aC y))=true:=by
 obtain⟨e,he⟩:=dD (c.form.iW a);rw[lZ a,he]at hm;have b:(mt T .type e false=true∧isIface e=false)∧aB e (under e)=true:=by simpa using hm
 rw[iV a he];exact⟨b.1.2,b.2⟩
theorem F5(E:Env D T NS i):∀(u:U){pos f:Nat}{g:Bool},Mo D.len T NS i u pos f→f≠0→u.k≠12→u.k≠13→mt T .type u g=true→∀x∈bL u,Tok D.len x.2∧eh D.len x.2:=by
 intro u;induction u using U.bg with
 |_ u ih=>
  intro pos f g h o p q hm x b;by_cases c:(under u).k=10
  ·rw[mH c]at b
   obtain⟨y,m,b⟩:=List.mem_flatMap.1 b;have s:=jq m;obtain⟨e,he,m⟩:=List.mem_flatMap.1 m;obtain⟨h1,t,h2⟩:=pz E u h o p q hm c e he;obtain⟨pos',h3,n,j⟩:=jV h1 h2 m;have l:=h3.aC n;unfold fw at b;by_cases a:y.k=13
   ·rw[if_pos a]at b
    obtain rfl:x=(true,aC y):=by simpa using b
    have r:=(jW h3.pl a j).1;have d:=h3.je E n j r;exact⟨kJ E l (by omega) d r,ph E _ l (by omega) d⟩
   ·rw[if_neg a]at b
    cases hi:isIface y with
    |true=>
     rw[hi,if_pos rfl]at b;rw[fF a]at j;have hu:=dE u;exact ih y (by omega) h3 (by omega) n a j x b
    |false=>
     rw[hi,if_neg (by simp)]at b;obtain rfl:x=(false,y):=by simpa using b
     rw[dY a]at l;have d:=h3.je E n j (by rw[dY a];exact hi);rw[dY a]at d;exact⟨kJ E l (by omega) d hi,ph E _ l (by omega) d⟩
  ·rw[lq c]at b;cases b
theorem xJ(E:Env D T NS i):∀(u:U){pos f:Nat},Mo D.len T NS i u pos f→f≠0→u.k≠12→u.k≠13→∀m∈ai u,aM m.nm=true:=by
 intro u;induction u using U.bg with
 |_ u ih=>
  intro pos f h b c d m hm;obtain⟨⟨o,l,hu⟩,_,_⟩:=h.eB E b c d;have n:=dE u;obtain⟨g,hm⟩:=iu hm;rcases hm with hm|⟨e,he,a,hm⟩
  ·have:=hu.pl.form
   cases this with
   |iface _ _ _ _ j _=>exact(j m hm).2
   |_=>omega
  ·have h1:=hu.elem g he
   unfold aQ at a;simp only[Bool.and_eq_true,bne_iff_ne,ne_eq]at a;have h2:=U.az (List.mem_of_mem_drop he);exact ih e (by omega) h1 (by omega) a.1.1 a.1.2 m hm
theorem F6(E:Env D T NS i){u:U}{pos f:Nat}{g:Bool}(h:Mo D.len T NS i u pos f)(l:u.k=10)(hm:mt T .type u g=true)(R:u.es.length≤1048576):gd D.len u:=by
 have hu:=gJ l;have F:(∀e∈u.es.take u.m.toNat,e.k=7∧aM e.nm=true):=by
  cases h.pl.form with
  |iface _ _ _ _ N _=>exact N
  |_=>omega
 rw[iw l]at hm;simp only[Bool.and_eq_true,List.all_eq_true,decide_eq_true_eq]at hm;obtain⟨O,⟨_,_⟩,P⟩:=hm;have p:∀e∈u.es.drop u.m.toNat,Mo D.len T NS i e 2 2∧mt T .elem e g=true:=fun e he=>⟨h.elem l he,O e he⟩
 have hw:∀y∈dH u,∀x∈fw y,x∈bL u:=fun y n x d=>by rw[o_ l];exact List.mem_flatMap.2 ⟨y,n,d⟩
 have s:∀e∈u.es.drop u.m.toNat,∀y∈(if e.k=12 then e.es else [e]),y∈dH u:=fun e he y n=>List.mem_flatMap.2 ⟨e,he,n⟩;have v:∀x∈bL u,Tok D.len x.2∧eh D.len x.2:=fun x d=>by
  rw[o_ l]at d;obtain⟨y,n,d⟩:=List.mem_flatMap.1 d;obtain⟨e,he,n⟩:=List.mem_flatMap.1 n;obtain⟨h1,h2⟩:=p e he;obtain⟨pos',h3,B,G⟩:=jV h1 h2 n;have o:=h3.aC B;unfold fw at d;by_cases b:y.k=13
  ·rw[if_pos b]at d
   obtain rfl:x=(true,aC y):=by simpa using d
   have M:=(jW h3.pl b G).1;have I:=h3.je E B G M;exact⟨kJ E o (by omega) I M,ph E _ o (by omega) I⟩
  ·rw[if_neg b]at d
   cases hi:isIface y with
   |true=>
    rw[hi,if_pos rfl]at d;rw[fF b]at G;exact F5 E y h3 (by omega) B b G x d
   |false=>
    rw[hi,if_neg (by simp)]at d;obtain rfl:x=(false,y):=by simpa using d
    rw[dY b]at o;have I:=h3.je E B G (by rw[dY b];exact hi);rw[dY b]at I;exact⟨kJ E o (by omega) I hi,ph E _ o (by omega) I⟩
 have w:∀{y:U}{pos:Nat},Mo D.len T NS i y pos 2→y.k≠12→y.k≠13→(under y).k≠2∧(under y).k≠14:=fun n a c=>by
  have:=(n.eB E (by omega) a c).2.1;exact⟨this.1,this.2.2.1⟩
 have C:∀{y:U}{pos:Nat},Mo D.len T NS i y pos 2→y.k≠12→y.k≠13→lF D.len y:=fun n a c=>⟨⟨2,by omega,(n.ig a c).pl⟩,n.fl E (by omega) a c⟩
 have J:∀{y:U}{pos:Nat},Mo D.len T NS i y pos 2→y.k≠12→y.k≠13→∀x∈bL (under y),x∈bL y:=fun{y} {pos} n a c x d=>by
  by_cases hk:(under y).k=10
  ·rwa [Ef hk]at d
  ·have h1:=(n.eB E (by omega) a c).2.1
   rw[lq (by rw[cQ h1.1 h1.2.1 h1.2.2.1 h1.2.2.2];exact hk)]at d;cases d
 have H:∀e∈u.es.drop u.m.toNat,∀y∈(if e.k=12 then e.es else [e]),(y.k=13→isIface (aC y)=false)∧rk D.len (bL u) (y.k==13) (aC y):=fun e he y n=>by
  obtain⟨h1,h2⟩:=p e he;obtain⟨pos',h3,B,G⟩:=jV h1 h2 n;have o:=h3.aC B;have z:=o.pl.form.aE;have q:=s e he y n;by_cases b:y.k=13
  ·obtain⟨M,hid⟩:=jW h3.pl b G
   refine⟨fun _=>M,.inl ?_⟩;have d:(true,aC y)∈bL u:=hw y q _ (by unfold fw;rw[if_pos b];simp);rw[show(y.k==13)=true by simp[b]];exact⟨(v _ d).1,fun _=>hid,d,w o z.1 z.2⟩
  ·refine⟨fun h=>absurd h b,?_⟩
   rw[dY b]at o z⊢;rw[show(y.k==13)=false by simp[b]];cases hi:isIface y with
   |true=>exact .inr ⟨hi,C h3 B b,fun x d=>hw y q x (by unfold fw;rw[if_neg b,hi,if_pos rfl];exact J h3 B b x d)⟩
   |false=>
    have d:(false,y)∈bL u:=hw y q _ (by unfold fw;rw[if_neg b,hi,if_neg (by simp)];simp);exact .inl ⟨(v _ d).1,fun h=>(by cases h),d,w o z.1 z.2⟩
 refine⟨l,fun x d=>(v x d).1,?_,fun x d=>(v x d).2,fun e he=> ?_,fun m hm=>(F m hm).2,(mr h.pl.form l).noTwo,?_,R⟩
 ·have:=AJ u P;omega
 ·obtain⟨h1,h2⟩:=p e he
  by_cases a:e.k=12
  ·refine .inl ⟨.inl a,?_,?_,?_⟩
   ·intro j K
    rw[bj,if_pos a]at K;rw[show(bj e)[j]=(e.es[j]'(by simpa using K)|> fun x=>(x.k==13,aC x)) by simp[bj,a]];exact(H e he _ (by rw[if_pos a];exact List.getElem_mem _)).2
   ·rw[bj,if_pos a,List.length_map]
    cases h1.pl.form<;>omega
   ·intro t o L
    rw[bj,if_pos a]at o;obtain⟨x,d,rfl⟩:=List.mem_map.1 o;exact(H e he x (by rw[if_pos a];exact d)).1 (by simpa using L)
  ·have A:=H e he e (by rw[if_neg a];simp)
   by_cases c:e.k=13
   ·refine .inl ⟨.inr c,?_,?_,?_⟩
    ·intro j K
     rw[bj,if_neg a]at K;obtain rfl:j=0:=by simp at K;omega
     have:=A.2;rw[show(e.k==13)=true by simp[c]]at this;simpa [bj,a]using this
    ·rw[bj,if_neg a];simp
    ·intro t o L
     rw[bj,if_neg a]at o;obtain rfl:t=(true,aC e):=by simpa using o
     exact A.1 c
   ·have o:=h1.ig a c
    have q:=s e he e (by rw[if_neg a];simp);cases hi:isIface e with
    |true=>exact .inr (.inl ⟨⟨a,c⟩,hi,C h1 a c,fun x d=>hw e q x (by unfold fw;rw[if_neg c,hi,if_pos rfl];exact J h1 a c x d),xJ E e h1 (by omega) a c⟩)
    |false=>
     have d:(false,e)∈bL u:=hw e q _ (by unfold fw;rw[if_neg c,hi,if_neg (by simp)];simp);exact .inr (.inr ⟨⟨a,c⟩,(v _ d).1,d,w h1 a c⟩)
 ·have Q:=nQ (r:=u.es.drop u.m.toNat) (mr h.pl.form l).noTwo
  have hle:=iT (NS:=NS) Q fun m hm=>by
   have:m∈ai u:=by rw[jI l,pU];exact hm
   exact(h.aG.cv m this).1
  have:=E.dm;unfold dW;omega
theorem rP(E:Env D T NS i){p:Pm}:∀(u:U){s:Pt}{pos f:Nat}{g:Bool}{a:Option Addr}{c:Nat},Mo D.len T NS i u pos f→mt T s u g=true→(s= .type→u.k≠12∧u.k≠13)→(s= .term→u.k≠12)→ak p D u a c→FF D.len u:=by
 intro u;induction u using U.bg with
 |_ u ih=>
  intro s pos f g a c h hm w B hu;have H:=hu.cap;have x:∀j(l:j<u.es.length),∃a' c',ak p D u.es[j] a' c':=fun j l=>by
   obtain⟨eb,eo,rfl⟩:=hu.list.bN (by omega);obtain⟨a',c',_,h2⟩:=hu.list.get j l;exact⟨a',c',h2⟩
  have go:∀j(l:j<u.es.length)(z:Pt)(r:Bool),mt T z u.es[j] r=true→(z= .type→u.es[j].k≠12∧u.es[j].k≠13)→(z= .term→u.es[j].k≠12)→FF D.len u.es[j]:=fun j l z r h1 h2 h3=>by
   obtain⟨a',c',I⟩:=x j l;exact ih _ (U.az (List.getElem_mem l)) (h.part j l) h1 h2 h3 I
  have v:u.k≠10→u.k≠12→∀j(l:j<u.es.length)(r:Bool),mt T .type u.es[j] r=true→FF D.len u.es[j]:=fun n b j l r C=>by
   have A:=h.pl.jt n b j l;exact go j l .type r C (fun _=>A.form.aE) fun e=>(by cases e)
  have y:u.k≠12→u.k≠13→∃r,mt T .type u r=true:=fun b o=>by
   cases s with
   |type=>exact⟨_,hm⟩
   |term=>rw[fF o]at hm;exact⟨_,hm⟩
   |elem=>
    rw[js b]at hm;simp only[Bool.and_eq_true]at hm;have:=hm.1;rw[fF o]at this;exact⟨_,this⟩
  rw[FF];refine⟨fun n=> ?_,fun e he=> ?_⟩
  ·obtain⟨r,d⟩:=y (by omega) (by omega)
   exact⟨F6 E h n d (by omega),by omega⟩
  ·obtain⟨j,l,rfl⟩:=List.getElem_of_mem he
   by_cases b:u.k=12
   ·have t:mt T .elem u g=true:=by
     cases s with
     |type=>exact absurd b (w rfl).1
     |term=>exact absurd b (B rfl)
     |elem=>exact hm
    rw[lY b]at t;simp only[Bool.and_eq_true,List.all_eq_true]at t;have A:=h.pl.part j l;rw[show aV u j=1 by unfold aV;rw[if_pos b]]at A;exact go j l .term false (t.1.1 _ he).1 (fun e=>by cases e) fun _ hk=>by cases A.form<;>omega
   ·by_cases o:u.k=13
    ·have q:mt T .term u g=true∨mt T .term u false=true:=by
      cases s with
      |type=>exact absurd o (w rfl).2
      |term=>exact .inl hm
      |elem=>
       rw[js b]at hm;simp only[Bool.and_eq_true]at hm;exact .inr hm.1
     have t:∀e∈u.es,mt T .type e false=true:=fun e he=>by
      rcases q with q|q
      all_goals
       rw[lZ o]at q;simp only[Bool.and_eq_true,List.all_eq_true]at q;exact(q e he).1.1
     exact v (by omega) b j l false (t _ he)
    ·obtain⟨r,d⟩:=y b o
     by_cases h2:u.k=2
     ·rw[l8 h2,List.all_eq_true]at d
      exact v (by omega) b j l r (d _ he)
     ·by_cases n:u.k=10
      ·rw[iw n]at d
       simp only[Bool.and_eq_true,List.all_eq_true]at d;have F:u.es[j]∈u.es.take u.m.toNat∨u.es[j]∈u.es.drop u.m.toNat:=by
        rw[←List.mem_append,List.take_append_drop];exact he
       rcases F with he|he
       ·have J:∀e∈u.es.take u.m.toNat,e.k=7∧aM e.nm=true:=by
         cases h.pl.form with
         |iface _ _ _ _ G _=>exact G
         |_=>omega
        have h7:=(J _ he).1;exact go j l .type false (d.2.1.1 _ he) (fun _=>by omega) fun e=>(by cases e)
       ·exact go j l .elem r (d.1 _ he) (fun e=>by cases e) fun e=>by cases e
      ·rw[l9 h2 n]at d
       simp only[Bool.and_eq_true,List.all_eq_true]at d;exact v n b j l false (d.2 _ he)
end
theorem BS.whole{C:BC}{p:Pm}{g:Ge}{mv:Value}{w:World}(h:BS C p g mv [] w):aw p g w:=
 ⟨h.wb.kw,h.wb.pl,h.inj,h.wb.cap,fun b u k=>⟨(h.ifs b u k).2.1,by
  rcases(h.ifs b u k).2.2.2 with h1|⟨h1,_⟩
  ·exact h1.sub (Sub.refl p) (g.Aw b)
  ·cases h1⟩,h.po,h.cH,h.cI⟩
theorem jY{x y:U}(h:(bare x).k≠10):aB x y=true↔(bare x).k=(bare y).k∧(bare x).es.length=(bare y).es.length∧aU (bare x) (bare y)=true∧∀i(h:i<(bare x).es.length)(a:i<(bare y).es.length),aB (bare x).es[i] (bare y).es[i]=true:=by
 rw[kd h];simp only[Bool.and_eq_true,beq_iff_eq,decide_eq_true_eq,and_assoc];rw[iC]
theorem kR{x y:U}(h:(bare x).k=10):aB x y=true↔(bare y).k=10∧aZ (bare x)=false∧aZ (bare y)=false∧(ai (bare x)).length=(ai (bare y)).length∧∀m∈ai (bare y),∃f∈ai (bare x),f.nm.toList=m.nm.toList∧aB f m=true:=by
 rw[kc h];simp only[Bool.and_eq_true,beq_iff_eq,decide_eq_true_eq,Bool.not_eq_true',and_assoc,hasB,List.all_eq_true,List.any_eq_true,fE]
theorem Gv{x y z:U}(hk:x.k=y.k)(h1:aU x y=true)(h2:aU y z=true)(e:x.es.length=y.es.length):aU x z=true:=by
 unfold aU at*;rw[←hk]at h2;by_cases c1:x.k=1∨x.k=3∨x.k=9∨x.k=11
 ·rw[if_pos c1]at*
  simp only[beq_iff_eq]at*;exact h1.trans h2
 rw[if_neg c1]at*;by_cases d:x.k=7
 ·rw[if_pos d]at*
  simp only[Bool.and_eq_true,beq_iff_eq]at*;exact⟨h1.1.trans h2.1,h1.2.trans h2.2⟩
 rw[if_neg d]at*;by_cases c5:x.k=5
 ·rw[if_pos c5]at*
  rw[iC]at*;intro i hi c;have a:=h1 i hi (by omega);have b:=h2 i (by omega) c;simp only[Bool.and_eq_true,decide_eq_true_eq]at*;exact⟨a.1.trans b.1,a.2.trans b.2⟩
 rw[if_neg c5]
theorem Gw{x y:U}(hk:x.k=y.k)(h1:aU x y=true):aU y x=true:=by
 unfold aU at*;rw[←hk];by_cases c1:x.k=1∨x.k=3∨x.k=9∨x.k=11
 ·rw[if_pos c1]at*
  simp only[beq_iff_eq]at*;exact h1.symm
 rw[if_neg c1]at*;by_cases c:x.k=7
 ·rw[if_pos c]at*
  simp only[Bool.and_eq_true,beq_iff_eq]at*;exact⟨h1.1.symm,h1.2.symm⟩
 rw[if_neg c]at*;by_cases c5:x.k=5
 ·rw[if_pos c5]at*
  rw[iC]at*;intro i hi b;have a:=h1 i b hi;simp only[Bool.and_eq_true,decide_eq_true_eq]at*;exact⟨a.1.symm,a.2.symm⟩
 rw[if_neg c5]
theorem fP:∀{x y z:U},aB x y=true→aB y z=true→aB x z=true:=by
 intro x;induction x using U.bg with
 |_ x ih=>
  intro y z h1 h2;have C:=lX x;by_cases a:(bare x).k=10
  ·obtain⟨e,r,D,d,hm⟩:=(kR a).1 h1
   obtain⟨g,_,s,b,h⟩:=(kR e).1 h2;refine(kR a).2 ⟨g,r,s,d.trans b,fun m j=> ?_⟩;obtain⟨f,t,u,i1⟩:=h m j;obtain⟨q,c,v,i2⟩:=hm f t;have w:=iv c;exact⟨q,c,v.trans u,ih q (by omega) i2 i1⟩
  ·obtain⟨hk,d,A,B⟩:=(jY a).1 h1
   obtain⟨l,b,n,o⟩:=(jY (by omega)).1 h2;refine(jY a).2 ⟨hk.trans l,d.trans b,Gv hk A n d,fun i hi p=> ?_⟩;have w:=U.az (List.getElem_mem hi);exact ih _ (by omega) (B i hi (by omega)) (o i (by omega) p)
theorem gM{len:Nat}:∀{x y:U},Vt len x→Vt len y→aB x y=true→aB y x=true:=by
 intro x;induction x using U.bg with
 |_ x ih=>
  intro y v w h1;have H:=lX x;have c:=v.bare.1;have d:=w.bare.1;by_cases b:(bare x).k=10
  ·obtain⟨g,z,A,p,hm⟩:=(kR b).1 h1
   have B:=c.oV b;have q:=d.oV g;have t:=qW B q p fun m r=>let⟨f,s,e,_⟩:=hm m r;⟨f,s,e⟩;refine(kR g).2 ⟨b,A,z,p.symm,fun m l=> ?_⟩;obtain⟨i,hi,rfl⟩:=List.getElem_of_mem l;have a:i<(ai (bare y)).length:=by omega
   refine⟨(ai (bare y))[i],List.getElem_mem a,(t i hi a).symm,?_⟩;obtain⟨f,s,e,hid⟩:=hm _ (List.getElem_mem a);have C:=iv l;have D:f=(ai (bare x))[i]:=by
    obtain⟨j,E,rfl⟩:=List.getElem_of_mem s;have n:j<(ai (bare y)).length:=by omega
    have u:(ai (bare y))[j].nm.toList=(ai (bare y))[i].nm.toList:=(t j E n).symm.trans e;by_cases o:j=i
    ·subst o;rfl
    ·exfalso
     rcases Nat.lt_or_gt_of_ne o with h|h
     ·have:=List.pairwise_iff_getElem.1 q j i n a h
      rw[jE u,gA]at this;cases this
     ·have:=List.pairwise_iff_getElem.1 q i j a n h
      rw[jE u.symm,gA]at this;cases this
   rw[D]at hid;exact ih _ (by omega) (c.cv b l).1 (d.cv g (List.getElem_mem a)).1 hid
  ·obtain⟨hk,p,F,G⟩:=(jY b).1 h1
   refine(jY (by omega)).2 ⟨hk.symm,p.symm,Gw hk F,fun i hi a=> ?_⟩;have C:=U.az (List.getElem_mem a);exact ih _ (by omega) (c.part b a) (d.part (by omega) hi) (G i a hi)
def bB:Tm→Tm→Bool
 |_,none=>true
 |none,some _=>false
 |some x,some y=> !cj x y&&(!x.1||y.1)
def cr(l m:List Tm):Bool:=if m.isEmpty then l.isEmpty else l.all fun x=>m.any (bB x)
theorem nH(x:Tm):bB x none=true:=by cases x<;>rfl
structure Wf(len:Nat)(T:List U)(e:U):Prop where
 vt:Vt len e
 vu:Vt len (under e)
 bp:∃i pos f,f≠0∧f≤2∧Pl len e pos f∧bh T i f e
def bK(len:Nat)(T:List U):Tm→Prop
 |none=>True
 |some (d,e)=>Wf len T e∧(d=true→aB e (under e)=true)
section
variable {len:Nat} {T:List U}
theorem nI{x y:U}(b:Wf len T x)(j:Wf len T y)(h:aB x y=true):aB (under x) (under y)=true:=by
 obtain⟨i,pos,f,f0,f2,t,cx⟩:=b.bp;obtain⟨z,pos',A,l,m,u,v⟩:=j.bp;have p:=b.vt.bare;have q:=j.vt.bare;have c:=bh.bare t f2 b.vt.aE.1 b.vt.aE.2 cx;have d:=bh.bare u m j.vt.aE.1 j.vt.aE.2 v;have hk:(bare x).k=(bare y).k:=by
  by_cases a:(bare x).k=10
  ·rw[a,((kR a).1 h).1]
  ·exact((jY a).1 h).1
 by_cases e:(bare x).k=11
 ·have o:=((jY (by omega)).1 h).2.2.1
  have w:(bare x).n=(bare y).n:=by
   unfold aU at o;rw[if_pos (by omega)]at o;simpa using o
  have r:=c.named e;have s:=d.named (by omega);rw[if_neg f0]at r;rw[if_neg l]at s;obtain⟨B,_,u1⟩:=r;obtain⟨C,_,u2⟩:=s;have hu:under x=under y:=by
   unfold under;rw[if_pos (.inl e),if_pos (.inl (by omega)),u1,u2];simp only[List.headD_cons,w]
  rw[←hu];exact b.vu.refl
 by_cases g:(bare x).k=15
 ·have hu:under x=under y:=by
   unfold under;rw[if_pos (.inr g),if_pos (.inr (by omega)),c.err g,d.err (by omega)];rfl
  rw[←hu];exact b.vu.refl
 ·have u1:under x=bare x:=by unfold under;rw[if_neg (by omega)]
  have u2:under y=bare y:=by unfold under;rw[if_neg (by omega)]
  rw[u1,u2,qJ (cu p.2.1 p.2.2.1) (cu q.2.1 q.2.2.1)];exact h
theorem xQ{x y:Bool×U}(a:Wf len T x.2)(b:Wf len T y.2)(h:cj x y=false):cj y x=false:=by
 unfold cj at*;simp only[Bool.not_eq_false']at*;have c:Vt len (if y.1 then under x.2 else x.2):=by split;exact a.vu;exact a.vt
 have d:Vt len (if x.1 then under y.2 else y.2):=by split;exact b.vu;exact b.vt
 exact gM c d h
theorem xR{x:Bool×U}(a:Wf len T x.2):cj x x=false:=by
 unfold cj;simp only[Bool.not_eq_false'];split
 ·exact a.vu.refl
 ·exact a.vt.refl
theorem iO{t:Tm}(h:bK len T t):bB t t=true:=by
 match t,h with
 |none,_=>rfl
 |some (d,e),h=>
  show(!cj (d,e) (d,e)&&(!d||d))=true;rw[xR (x:=(d,e)) h.1];cases d<;>rfl
theorem kS{x y z:Tm}(i:bK len T x)(c:bK len T y)(b:bK len T z)(h1:bB x y=true)(h2:bB y z=true):bB x z=true:=by
 match x,y,z,i,c,b,h1,h2 with
 |_,_,none,_,_,_,_,_=>exact nH _
 |some _,none,some _,_,_,_,_,h2=>simp[bB]at h2
 |none,some _,some _,_,_,_,h1,_=>exact h1
 |none,none,some _,_,_,_,_,h2=>exact h2
 |some (d,e),some (d',f),some (a,g),i,c,b,h1,h2=>
  simp only[bB,cj,Bool.not_not,Bool.and_eq_true,Bool.or_eq_true,Bool.not_eq_true']at h1 h2⊢;obtain⟨h,b1⟩:=h1;obtain⟨a2,j⟩:=h2;cases d
  ·cases d'
   ·cases a
    ·exact⟨fP h a2,.inl rfl⟩
    ·exact⟨fP (nI i.1 c.1 h) a2,.inl rfl⟩
   ·obtain rfl:a=true:=by simpa using j
    have i1:=c.2 rfl;have i2:=gM b.1.vt b.1.vu (b.2 rfl);exact⟨fP (fP (fP h i1) a2) i2,.inl rfl⟩
  ·obtain rfl:d'=true:=by simpa using b1
   obtain rfl:a=true:=by simpa using j
   exact⟨fP h a2,.inr rfl⟩
theorem Gx{x y z:Tm}(b:bK len T x)(c:bK len T y)(h:cz x y=some z):bB x z=true∧bB y z=true:=by
 match x,y,b,c,h with
 |none,y,_,_,h=>simp[cz]at h;subst h;exact⟨rfl,nH _⟩
 |some x,none,_,_,h=>simp[cz]at h;subst h;exact⟨rfl,rfl⟩
 |some x,some y,b,c,h=>
  simp only[cz]at h;split at h
  ·cases h
  ·rename_i e
   have a:cj x y=false:=by simpa using e
   split at h
   ·rename_i d
    cases h;refine⟨iO b,?_⟩;show(!cj y x&&(!y.1||x.1))=true;rw[xQ b.1 c.1 a,Bool.or_comm];simpa using d
   ·rename_i d
    cases h;refine⟨?_,iO c⟩;show(!cj x y&&(!x.1||y.1))=true;rw[a];simp only[Bool.or_eq_true,not_or]at d;simp[d.1]
theorem Gy:∀{l:List Tm}{x z:Tm}{l':List Tm},bK len T x→(∀t∈l,bK len T t)→bI x l=some (z,l')→bB x z=true∧∀t∈l,t∈l'∨bB t z=true:=by
 intro l;induction l with
 |nil=>
  intro x z l' d _ h;simp[bI]at h;obtain⟨rfl,rfl⟩:=h;exact⟨iO d,fun t c=>(by cases c)⟩
 |cons y r ih=>
  intro x z l' d g h;have i:=g y List.mem_cons_self;have hr:=fun t c=>g t (List.mem_cons_of_mem _ c);have k:=(mG h).1;rw[bI]at h;split at h
  ·simp only[Option.map_eq_some_iff,Prod.mk.injEq]at h
   obtain⟨⟨o,p⟩,h1,rfl,rfl⟩:=h;obtain⟨a,b⟩:=ih d hr h1;refine⟨a,fun t c=> ?_⟩;rcases List.mem_cons.1 c with rfl|c
   ·exact .inl List.mem_cons_self
   ·exact(b t c).imp (List.mem_cons_of_mem _) id
  ·rename_i z0 j
   split at h
   ·cases h
   ·obtain⟨m,n⟩:=Gx d i j
    have e:bK len T z0:=by
     rcases mF j with rfl|rfl
     ·exact d
     ·exact i
    obtain⟨a,b⟩:=ih e hr h;have f:bK len T z:=by
     rcases k with rfl|hm
     ·exact d
     ·exact g _ hm
    refine⟨kS d e f m a,fun t c=> ?_⟩;rcases List.mem_cons.1 c with rfl|c
    ·exact .inr (kS i e f n a)
    ·exact b t c
theorem Gz:∀(n:Nat){l m:List Tm},l.length≤n→(∀t∈l,bK len T t)→cp l=some m→(∀t∈l,∃z∈m,bB t z=true)∧∀z∈m,z∈l:=by
 intro n;induction n with
 |zero=>
  intro l m i _ h;obtain rfl:l= []:=List.eq_nil_of_length_eq_zero (by omega);simp[cp]at h;subst h;exact⟨fun t f=>(by cases f),fun t f=>(by cases f)⟩
 |succ n ih=>
  intro l m i j h;match l,j,h,i with
  | [],_,h,_=>
    simp[cp]at h;subst h;exact⟨fun t f=>(by cases f),fun t f=>(by cases f)⟩
  |x::r,j,h,i=>
   rw[cp]at h;split at h
   ·cases h
   ·rename_i z l' k
    simp only[Option.map_eq_some_iff]at h;obtain⟨s,o,rfl⟩:=h;have u:=j x List.mem_cons_self;have hr:=fun t f=>j t (List.mem_cons_of_mem _ f);obtain⟨a,b⟩:=Gy u hr k;obtain⟨c,d⟩:=mG k;have hlen:=ll k;simp only[List.length_cons]at i;obtain⟨e,g⟩:=ih (l:=l') (m:=s) (by omega) (fun t f=>hr t (d t f)) o;refine⟨fun t f=> ?_,fun t f=> ?_⟩
    ·rcases List.mem_cons.1 f with rfl|f
     ·exact⟨z,List.mem_cons_self,a⟩
     ·rcases b t f with h1|h1
      ·obtain⟨v,p,q⟩:=e t h1
       exact⟨v,List.mem_cons_of_mem _ p,q⟩
      ·exact⟨z,List.mem_cons_self,h1⟩
    ·rcases List.mem_cons.1 f with rfl|f
     ·rcases c with rfl|c
      ·exact List.mem_cons_self
      ·exact List.mem_cons_of_mem _ c
     ·exact List.mem_cons_of_mem _ (d _ (g t f))
theorem GA:∀{l:List Tm}{x:Tm},bI x l=none→x=none∨none∈l:=by
 intro l;induction l with
 |nil=>intro x h;simp[bI]at h
 |cons y r ih=>
  intro x h;rw[bI]at h;split at h
  ·rcases ih (by simpa using h)with h1|h1
   ·exact .inl h1
   ·exact .inr (List.mem_cons_of_mem _ h1)
  ·rename_i z a
   split at h
   ·rename_i b
    subst b;rcases mF a with h1|h1
    ·exact .inl h1.symm
    ·exact .inr (h1▸List.mem_cons_self)
   ·rcases ih h with h1|h1
    ·subst h1
     rcases mF a with h2|h2
     ·exact .inl h2.symm
     ·exact .inr (h2▸List.mem_cons_self)
    ·exact .inr (List.mem_cons_of_mem _ h1)
theorem GB:∀(n:Nat){l:List Tm},l.length≤n→cp l=none→none∈l:=by
 intro n;induction n with
 |zero=>
  intro l a h;obtain rfl:l= []:=List.eq_nil_of_length_eq_zero (by omega);simp[cp]at h
 |succ n ih=>
  intro l a h;match l,h,a with
  | [],h,_=>simp[cp]at h
  |x::r,h,a=>
   rw[cp]at h;split at h
   ·rename_i b
    rcases GA b with rfl|h1
    ·exact List.mem_cons_self
    ·exact List.mem_cons_of_mem _ h1
   ·rename_i z l' b
    have hlen:=ll b;simp only[List.length_cons]at a;have:=ih (l:=l') (by omega) (by simpa using h);exact List.mem_cons_of_mem _ ((mG b).2 _ this)
theorem g_{l:List Tm}(f:∀t∈l,bK len T t):cr (bk l) l=true∧cr l (bk l)=true:=by
 cases hO:cp l with
 |none=>
  have g:=GB _ (Nat.le_refl _) hO;have e:bk l= [none]:=by unfold bk;rw[hO];rfl
  rw[e];have d:l.isEmpty=false:=by cases l with|nil=>cases g|cons a r=>rfl
  refine⟨?_,?_⟩
  ·unfold cr
   rw[d];simp only[Bool.false_eq_true,if_false,List.all_cons,List.all_nil,Bool.and_true];exact List.any_eq_true.2 ⟨none,g,rfl⟩
  ·unfold cr
   simp[nH]
 |some m=>
  have e:bk l=m:=by unfold bk;rw[hO];rfl
  obtain⟨a,b⟩:=Gz _ (Nat.le_refl _) f hO;rw[e];cases l with
  |nil=>
   have:m= []:=by cases m with|nil=>rfl|cons z r=>exact absurd (b z List.mem_cons_self) (by simp)
   subst this;exact⟨rfl,rfl⟩
  |cons x r=>
   have hm:m.isEmpty=false:=by
    obtain⟨z,c,_⟩:=a x List.mem_cons_self;cases m with
    |nil=>cases c
    |cons _ _=>rfl
   refine⟨?_,?_⟩
   ·unfold cr
    simp only[List.isEmpty_cons,Bool.false_eq_true,if_false,List.all_eq_true];exact fun z c=>List.any_eq_true.2 ⟨z,b z c,iO (f z (b z c))⟩
   ·unfold cr
    rw[hm];simp only[Bool.false_eq_true,if_false,List.all_eq_true];exact fun t i=>let⟨z,c,h⟩:=a t i;List.any_eq_true.2 ⟨z,c,h⟩
end
end TS
namespace TS
open Go Go.RowKit
theorem GC{α:Type}{l:List α}{P:α→Bool}{k:Nat}(hk:k<l.length)(h:P l[k]=true):l.any P=true:=List.any_eq_true.2 ⟨_,List.getElem_mem hk,h⟩
theorem any_none{α:Type}{l:List α}{P:α→Bool}(h:∀j(a:j<l.length),P l[j]=false):l.any P=false:=by
 rw[List.any_eq_false];intro x b;obtain⟨j,a,rfl⟩:=List.getElem_of_mem b;simp[h j a]
theorem GD{α:Type}{l:List α}{P:α→Bool}{k:Nat}(hk:k<l.length)(h:P l[k]=false):l.all P=false:=by
 rw[List.all_eq_false];exact⟨_,List.getElem_mem hk,by simp[h]⟩
theorem GF{α:Type}{l:List α}{P:α→Bool}(h:∀j(a:j<l.length),P l[j]=true):l.all P=true:=by
 rw[List.all_eq_true];intro x b;obtain⟨j,a,rfl⟩:=List.getElem_of_mem b;exact h j a
end TS
namespace Go.Proofs.YtdkmnkjhhhmglaaGreatDoor
open Go.RowKit TS Go.Sort
theorem GG(len:Nat)(p:Pm)(g:Ge)(x y:Nat)(t ty:Tm)(w:World)(c:aw p g w)(o:aY p g t x)(q:aY p g ty y)(u:cJ len t)(v:cJ len ty):
 Calls Tryz.prog 215 #[.pointer (some ⟨x,0,none⟩),.pointer (some ⟨y,0,none⟩)] w fun e z=>e= .returned (.bool (bB t ty))∧au w z:=by
 match ty,q,v with
 |none,q,_=>
  rw[nH];exact(vG x y w (c.kw _ _ _ q)).mono fun e z ⟨h1,h2⟩=>⟨h1,h2▸au.refl _⟩
 |some (d',f),q,v=>
  obtain⟨h,D,i,j⟩:=q;obtain⟨E,F,rfl⟩:=j.val;have A:=c.kw _ _ _ h;have G:=c.kw _ _ _ i;match t,o,u with
  |none,o,_=>
   have c1:=c.kw _ _ _ o;clear c o h i j;go_enter Tryz.func215,Tryz.ntmps215;go_wp2_with fail
   go_ret;exact⟨rfl,au.refl _⟩
  |some (d,e),o,u=>
   obtain⟨l,H,m,n⟩:=o;obtain⟨I,J,rfl⟩:=n.val;have c0:=c.kw _ _ _ l;have c1:=c.kw _ _ _ m;have r:=Lib.hid (qZ len p g x y d d' e f w c ⟨l,_,m,n⟩ ⟨h,_,i,j⟩ u v);clear c l m n h i j u v;cases k:cj (d,e) (d',f)
   ·rw[k]at r
    cases d
    ·have s:Hid (bB (some (false,e)) (some (d',f))=true):=by simp[Hid,bB,k]
     clear k;go_enter Tryz.func215,Tryz.ntmps215;go_wp2_with fail
     refine r.out.mono ?_;rintro B C ⟨rfl,a⟩;have f0:=a.cell c0;have f1:=a.cell A;have b:=Lib.hid a;clear a;go_wp2_with fail
     go_ret;exact⟨by rw[s.out];first|done|rfl,b.out⟩
    ·have s:Hid (bB (some (true,e)) (some (d',f))=d'):=by simp[Hid,bB,k]
     clear k;go_enter Tryz.func215,Tryz.ntmps215;go_wp2_with fail
     refine r.out.mono ?_;rintro B C ⟨rfl,a⟩;have f0:=a.cell c0;have f1:=a.cell A;have b:=Lib.hid a;clear a;go_wp2_with fail
     go_ret;exact⟨by rw[s.out];first|done|rfl,b.out⟩
   ·rw[k]at r
    have s:Hid (bB (some (d,e)) (some (d',f))=false):=by simp[Hid,bB,k]
    clear k;go_enter Tryz.func215,Tryz.ntmps215;go_wp2_with fail
    refine r.out.mono ?_;rintro B C ⟨rfl,a⟩;have b:=Lib.hid a;clear a;go_wp2_with fail
    go_ret;exact⟨by rw[s.out];first|done|rfl,b.out⟩
theorem GH(len:Nat)(p:Pm)(g:Ge)(a:Option Addr)(c x:Nat)(f:Nat→Nat)(b:List Tm)(m:Tm)(w:World)(A:aw p g w)(B:bw w a b.length f)(C:∀i(h:i<b.length),aY p g b[i] (f i))(D:aY p g m x)(ok:∀t∈b,cJ len t)(o:cJ len m)(L:b.length≤1099511627776):
 Calls Tryz.prog 189 #[.slice a b.length c,.pointer (some ⟨x,0,none⟩)] w fun e G=>e= .returned (.bool (b.any (bB m)))∧au w G:=by
 have H:=Lib.hid fun i (h:i<b.length) W (I:au w W)=>GG len p g x (f i) m b[i] W (A.b_ I) D (C i h) o (ok _ (List.getElem_mem h));have J:=Lib.hid B;clear A B C D ok o;go_enter Tryz.func189,Tryz.ntmps189;go_wp2_with fail
 go_loopw [9] (fun i wr=> ∃k:Nat,k≤b.length∧i= .int .i64 k∧Hid (∀j(q:j<b.length),j<k→bB m b[j]=false)∧au w wr) (fun i _=>b.length- (intOf i).toNat)
 case atStart=>exact⟨0,Nat.zero_le _,rfl,Lib.hid fun j _ h=>absurd h (by omega),au.refl _⟩
 case round=>
  obtain⟨k,hk,rfl,d,r⟩:=hrel;have s:=Lib.hid r;by_cases n:k<b.length
  ·have E:(k:Int)<b.length:=by omega
   obtain⟨M,N,rfl,O⟩:=(J.out.b_ r) k n;have F:=Lib.hid (H.out k n wr r);clear r;go_wp2_with fail
   refine F.out.mono ?_;rintro e Q ⟨rfl,u⟩;have v:=Lib.hid (s.out.trans u);clear u F;cases z:bB m b[k]
   ·have y:Hid (∀j(q:j<b.length),j<k+1→bB m b[j]=false):=fun j q h=>by
     by_cases e:j=k
     ·subst e;exact z
     ·exact d.out j q (by omega)
    clear d z;go_wp2_with fail
    exact⟨⟨k+1,by omega,by go_num,y,v.out⟩,by first|omega|(simp[intOf];omega)⟩
   ·have l:=Lib.hid (GC (P:=bB m) n z)
    clear d z;go_wp2_with fail
    go_ret;exact⟨by rw[l.out];first|done|rfl,v.out⟩
  ·have K:¬(k:Int)<b.length:=by omega
   have l:=Lib.hid (any_none (P:=bB m) fun j q=>d.out j q (by omega));clear r d;go_wp2_with fail
   go_ret;exact⟨by rw[l.out];first|done|rfl,s.out⟩
theorem xS(len:Nat)(p:Pm)(g:Ge)(a a':Option Addr)(c c':Nat)(f G:Nat→Nat)(xs b:List Tm)(w:World)(L:aw p g w)(M:bw w a xs.length f)(n:bw w a' b.length G)(N:∀i(h:i<xs.length),aY p g xs[i] (f i))(u:∀i(h:i<b.length),aY p g b[i] (G i))(ok:∀t∈xs,cJ len t)(v:∀t∈b,cJ len t)(V:xs.length≤1099511627776)(J:b.length≤1099511627776):
 Calls Tryz.prog 149 #[.slice a xs.length c,.slice a' b.length c'] w fun e T=>e= .returned (.bool (cr xs b))∧au w T:=by
 have m:=Lib.hid (lB a' b.length c' G w n);have o:=Lib.hid fun W (H:bw W a xs.length f)=>lB a xs.length c f W H;have O:=Lib.hid fun i (h:i<xs.length) W (H:au w W)=>GH len p g a' c' (f i) G b xs[i] W (L.b_ H) (n.b_ H) u (N i h) v (ok _ (List.getElem_mem h)) J;have Q:=Lib.hid M;clear L M n N u ok v;by_cases s:b.length=0
 ·have y:Hid (cr xs b=decide (xs.length=0)):=by
   have e:b= []:=List.eq_nil_of_length_eq_zero s;subst e;cases xs<;>rfl
  have A:decide (b.length=0)=true:=by simp[s]
  rw[A]at m;clear A O s;rw[y.out];clear y;generalize decide (xs.length=0)=z at o⊢;go_enter Tryz.func149,Tryz.ntmps149;go_wp2_with fail
  refine m.out.mono ?_;rintro e K ⟨rfl,rfl⟩;go_wp2_with fail
  refine(o.out _ Q.out).mono ?_;rintro e K ⟨rfl,rfl⟩;go_wp2_with fail
  go_ret;exact⟨rfl,au.refl _⟩
 have y:Hid (cr xs b=xs.all fun x=>b.any (bB x)):=by
  unfold Hid cr;rw[if_neg];intro h;exact s (by rw[List.isEmpty_iff.1 h];rfl)
 have A:decide (b.length=0)=false:=by simp[s]
 rw[A]at m;clear A s o;go_enter Tryz.func149,Tryz.ntmps149;go_wp2_with fail
 refine m.out.mono ?_;rintro e K ⟨rfl,rfl⟩;go_wp2_with fail
 go_loopw [13] (fun i wr=> ∃k:Nat,k≤xs.length∧i= .int .i64 k∧Hid (∀j(B:j<xs.length),j<k→(b.any (bB xs[j]))=true)∧au w wr) (fun i _=>xs.length- (intOf i).toNat)
 case atStart=>exact⟨0,Nat.zero_le _,rfl,Lib.hid fun j _ h=>absurd h (by omega),au.refl _⟩
 case round=>
  obtain⟨k,hk,rfl,d,C⟩:=hrel;have D:=Lib.hid C;by_cases q:k<xs.length
  ·have R:(k:Int)<xs.length:=by omega
   obtain⟨X,Y,rfl,Z⟩:=(Q.out.b_ C) k q;have S:=Lib.hid (O.out k q wr C);clear C;go_wp2_with fail
   refine S.out.mono ?_;rintro e K ⟨rfl,E⟩;have F:=Lib.hid (D.out.trans E);clear E S;cases I:b.any (bB xs[k])
   ·have l:=Lib.hid (GD (P:=fun x=>b.any (bB x)) q I)
    clear d I;go_wp2_with fail
    go_ret;exact⟨by rw[y.out,l.out];first|done|rfl,F.out⟩
   ·have r:Hid (∀j(B:j<xs.length),j<k+1→(b.any (bB xs[j]))=true):=fun j B h=>by
     by_cases e:j=k
     ·subst e;exact I
     ·exact d.out j B (by omega)
    clear d I;go_wp2_with fail
    exact⟨⟨k+1,by omega,by go_num,r,F.out⟩,by first|omega|(simp[intOf];omega)⟩
  ·have U:¬(k:Int)<xs.length:=by omega
   have l:=Lib.hid (GF (P:=fun x=>b.any (bB x)) fun j B=>d.out j B (by omega));clear C d;go_wp2_with fail
   go_ret;exact⟨by rw[y.out,l.out];first|done|rfl,D.out⟩
theorem GI(len:Nat)(p:Pm)(g:Ge)(a a':Option Addr)(c c':Nat)(f o:Nat→Nat)(xs b:List Tm)(w:World)(q:aw p g w)(r:bw w a xs.length f)(d:bw w a' b.length o)(s:∀i(h:i<xs.length),aY p g xs[i] (f i))(j:∀i(h:i<b.length),aY p g b[i] (o i))(ok:∀t∈xs,cJ len t)(k:∀t∈b,cJ len t)(y:xs.length≤1099511627776)(l:b.length≤1099511627776):
 Calls Tryz.prog 101 #[.slice a xs.length c,.slice a' b.length c'] w fun e A=>e= .returned (.bool (cr xs b&&cr b xs))∧au w A:=by
 have h1:=Lib.hid (xS len p g a a' c c' f o xs b w q r d s j ok k y l);have h2:=Lib.hid fun W (u:au w W)=>xS len p g a' a c' c o f b xs W (q.b_ u) (d.b_ u) (r.b_ u) j s k ok l y;clear q r d s j ok k;generalize cr xs b=z at*;generalize cr b xs=D at*;cases z
 all_goals
  go_enter Tryz.func101,Tryz.ntmps101;go_wp2_with fail
  refine h1.out.mono ?_;rintro e B ⟨rfl,v⟩;have C:=Lib.hid (h2.out B v);have m:=Lib.hid v;clear v h1 h2
 ·go_wp2_with fail
  go_ret;exact⟨rfl,m.out⟩
 ·go_wp2_with fail
  refine C.out.mono ?_;rintro e E ⟨rfl,n⟩;have x:=Lib.hid (m.out.trans n);clear n;go_wp2_with fail
  go_ret;exact⟨rfl,x.out⟩
end Go.Proofs.YtdkmnkjhhhmglaaGreatDoor
namespace TS
open Go Go.RowKit Go.Proofs.YtdkmnkjhhhmglaaGreatDoor
section
variable {D:Dl} {T:List U} {NS:List (List UInt8)} {i:Nat}
theorem GP(E:Env D T NS i):∀(u:U){pos f:Nat}{g:Bool},Mo D.len T NS i u pos f→f≠0→u.k≠12→u.k≠13→mt T .type u g=true→∀x∈bL u,Wf D.len T x.2∧(x.1=true→aB x.2 (under x.2)=true):=by
 intro u;induction u using U.bg with
 |_ u ih=>
  intro pos f g h n o p hm x b;by_cases c:(under u).k=10
  ·rw[mH c]at b
   obtain⟨y,l,b⟩:=List.mem_flatMap.1 b;have s:=jq l;obtain⟨e,he,l⟩:=List.mem_flatMap.1 l;obtain⟨h1,t,h2⟩:=pz E u h n o p hm c e he;obtain⟨pos',h3,m,j⟩:=jV h1 h2 l;have d:=h3.aC m;unfold fw at b;by_cases a:y.k=13
   ·rw[if_pos a]at b
    obtain rfl:x=(true,aC y):=by simpa using b
    have q:=jW h3.pl a j;have hk:=kJ E d (by omega) (h3.je E m j q.1) q.1;exact⟨⟨hk.vt,hk.vu,i,0,2,by omega,by omega,d.pl,d.bp⟩,fun _=>q.2⟩
   ·rw[if_neg a]at b
    cases hi:isIface y with
    |true=>
     rw[hi,if_pos rfl]at b;rw[fF a]at j;have hu:=dE u;exact ih y (by omega) h3 (by omega) m a j x b
    |false=>
     rw[hi,if_neg (by simp)]at b;obtain rfl:x=(false,y):=by simpa using b
     rw[dY a]at d;have r:=h3.je E m j (by rw[dY a];exact hi);rw[dY a]at r;have hk:=kJ E d (by omega) r hi;exact⟨⟨hk.vt,hk.vu,i,0,2,by omega,by omega,d.pl,d.bp⟩,fun h=>by cases h⟩
  ·rw[lq c]at b;cases b
theorem GQ(E:Env D T NS i){u:U}{pos f:Nat}{g:Bool}(h:Mo D.len T NS i u pos f)(a:f≠0)(b:u.k≠12)(c:u.k≠13)(hm:mt T .type u g=true){d:List Tm}{cmp:Bool}(hk:iE u d cmp):∀t∈d,bK D.len T t:=fun t e=>by
 rcases hk.dm with rfl|⟨_,_,hw⟩
 ·obtain rfl:t=none:=by simpa using e
  trivial
 ·obtain⟨x,j,rfl⟩:=hw t e
  exact GP E u h a b c hm x j
theorem GR(X:List Tm×Bool)(h:X.2=true→X.1= [none]):dp X ([none],false)=(bk X.1,X.2):=by
 have hm:bc X.1 [none]=bk X.1:=by
  unfold bc;cases d:X.1 with
  |nil=>simp[uA]
  |cons a r=>
   simp only[List.isEmpty_cons,Bool.or_self,Bool.false_eq_true,if_false];congr 1;have:∀l:List Tm,(l.flatMap fun x=> [none].filterMap fun y=>bP x y)=l:=fun l=>by
    induction l with
    |nil=>rfl
    |cons b s ih=>rw[List.flatMap_cons,ih];cases b<;>rfl
   exact this _
 unfold dp;rw[hm];cases c:X.2 with
 |false=>simp
 |true=>
  have e:=h c;rw[e,qG];rfl
theorem GS{u u2 a:U}(c:(under u).k=10)(b:(under u2).k=10)(he:(under u2).es.drop (under u2).m.toNat=(under u).es.drop (under u).m.toNat++ [a])(ha:dw a=([none],false))(hinv:(bQ u).2=true→(bQ u).1= [none]):bQ u2=(bk (bQ u).1,(bQ u).2):=by
 rw[kl b,he,List.foldl_append,←kl c,List.foldl_cons,List.foldl_nil,ha];exact GR _ hinv
theorem GU{a:U}(h:a.k=14):dw a=([none],false):=by
 have b:bare a=bt:=gq h;have hu:under a=bt:=by unfold under;rw[b];rfl
 unfold dw;rw[if_neg (by omega),if_pos (by unfold isIface;rw[hu];rfl),kl (by rw[hu];rfl),hu];rfl
theorem GV(E:Env D T NS i){u u2 a:U}{pos f:Nat}{g:Bool}(h:Mo D.len T NS i u pos f)(e:f≠0)(j:u.k≠12)(l:u.k≠13)(hm:mt T .type u g=true)(n:(under u).k=10)(d:(under u2).k=10)
 (he:(under u2).es.drop (under u2).m.toNat=(under u).es.drop (under u).m.toNat++ [a])(ha:a.k=14){o c:List Tm}{cmp b:Bool}(hk:iE u o cmp)(p:iE u2 c b):b=cmp∧cr c o=true∧cr o c=true:=by
 have h1:=hk.eq;have h2:=GS n d he (GU ha) (by rw[h1];exact hk.inv);rw[p.eq,h1]at h2;obtain⟨rfl,rfl⟩:=Prod.mk.inj h2;obtain⟨q,a2⟩:=g_ (GQ E h e j l hm hk);exact⟨rfl,q,a2⟩
end
end TS
