import Derived.Lib.Bytealg
import Derived.Test.YtkfaiocajcjomaaGreatDoorYbd
set_option maxRecDepth 100000
set_option maxHeartbeats 8000000
set_option linter.all false
namespace TS
open Go Go.RowKit Go.Proofs.YtkfaiocajcjomaaGreatDoor
structure j_(len:Nat)(e:U):Prop where
 pl:∃f,f≤2∧Pl len e 0 f
 fl:(bare e).k=11→∃y,(bare e).un= [y]∧y.k≠16
theorem j_.bare{len:Nat}{e:U}(h:j_ len e):(∃f,f≤2∧Pl len (TS.bare e) 0 f)∧(TS.bare e).k≠2∧(TS.bare e).k≠14∧TS.bare (TS.bare e)=TS.bare e∧(TS.bare e).k≠12∧(TS.bare e).k≠13:=by
 obtain⟨f,b,a⟩:=h.pl;obtain⟨h1,h2,h3,c⟩:=a.bare b a.form.aB.1 a.form.aB.2;exact⟨⟨f,b,h1⟩,h2,h3,cd h2 h3,h1.form.aB.1,h1.form.aB.2⟩
def pf(len:Nat)(W:List (Bool×U))(d:Bool)(e:U):Prop:=
 (Tok len e∧(d=true→aF e (under e)=true)∧(d,e)∈W∧(under e).k≠2∧(under e).k≠14)∨(isIface e=true∧j_ len e∧∀x∈bF (under e),x∈W)
theorem pg{len:Nat}{W:List (Bool×U)}(h:∀x∈W,Tok len x.2):RW W:=fun x a=>by
 have:=h x a;unfold fm;cases x.1
 ·simp[this.vt.refl]
 ·simp[this.vu.refl]
theorem mV{len:Nat}{W:List (Bool×U)}(h:∀x∈W,Tok len x.2){l:List Tm}(a:bk W l):∀t∈l,dA len t:=fun t b=>by
 rcases a.any t b with rfl|⟨x,c,rfl⟩
 ·trivial
 ·exact h x c
end TS
namespace Go.Proofs.YtkfaiocajcjomaaGreatDoor
open Go.RowKit TS
theorem tO{p:Pm}{g:Ge}{u:U}{len:Nat}(x:Value)(w:World)(hw:KW p w)(hu:j_ len u)(o:TS.Node p g u x):Calls Tryz.prog 93 #[x] w fun e q=>e= .returned (.bool false)∧w=q:=by
 obtain⟨f,s,n⟩:=hu.pl;obtain⟨b,d,i,r⟩:=o.strip n s n.form.aB.1 n.form.aB.2;obtain⟨y,z,rfl⟩:=o.val;have v:=Lib.hid (mN _ b _ p i r w hw);obtain⟨_,j,a,_,l⟩:=hu.bare;have c:=(d.tag j a).2;have m:bf (bare u).k≠211:=by
  rcases k_ c.1 c.2 j l.1 l.2 a with h|h|h|h|h|h|h|h|h|h
  all_goals first|(rw[h];decide)|(rcases h with h|h|h<;>rw[h]<;>decide)
 generalize bf (bare u).k=t at*;have h1:=ai oN t b m;clear d i r o hw c m n;go_enter Tryz.func93,Tryz.ntmps93;go_wp2_with fail
 refine v.out.mono ?_;rintro e q ⟨rfl,rfl⟩;go_wp2_with fail
 go_ret;exact⟨rfl,rfl⟩
theorem mW(B:Nat):KeyLaw Tryz.prog 177 (du B):=by
 obtain⟨e,i,j,a,hi,b,c,d⟩:=sI;exact(sv a c d).mono fun _ _=>tL
theorem ph(w:World):(zeroValue 74).run Tryz.prog w= .ok (.pointer none) w:=by kernel_rfl
structure BJ(q:Pm)(g:Ge)(B tb c:Nat)(a:World)(v:Value)(rs:List Nat)(S:List Tm)(ds W:List (Bool×U)):Prop where
 id:aq q g a
 row:b7 q g B a v rs S
 aI:∀b,v.ownBlock=some b→∀o,q b o=none
 wi:bk W S
 na:none∈S→∃x∈ds,isIface x.2=true
 fd:S=ds.foldl fO []
 c0:a.cell? ⟨tb,0,none⟩=some (.bool false)
 c1:a.cell? ⟨tb,1,none⟩=some (.slice none 0 0)
 c3:a.cell? ⟨tb,3,none⟩=some (.bool false)
def tP(p:Pm)(g:Ge)(B d b:Nat)(F:Value→Option Value)(ds W:List (Bool×U))(w:World)(e:Ending)(a:World):Prop:=
 ∃q tb v rs S c,e= .returned (.pointer (some ⟨tb,0,none⟩))∧aL p q w.heap.size∧BJ q g w.heap.size tb b a v rs S ds W∧a.cell? ⟨tb,2,none⟩=some v∧w.heap.size≤tb∧(∀o,q tb o=none)∧bV (du B) a b c∧(∀y,y≠ .pointer (some ⟨d,0,none⟩)→c y=F y)∧Kept (fun k=>k=b) w a
theorem gK:under cX=cX:=by
 have a:bare cX=cX:=cd (by decide) (by decide);rw[gx]<;>rw[a]<;>decide
structure lr(p:Pm)(g:Ge)(a:Nat)(c:World)(ds W:List (Bool×U))(wr:World)(v:Value)(q:Pm)(rs:List Nat)(R:List Tm):Prop where
 id:aq q g wr
 row:b7 q g a wr v rs R
 aI:∀b,v.ownBlock=some b→∀o,q b o=none
 gr:aL p q a
 fA:Below a c wr
 wi:bk W R
 na:none∈R→∃x∈ds,isIface x.2=true
theorem BK{X:Nat→Prop}{B:Nat}{w a c:World}(h:Below B w a)(f:B≤a.heap.size)(k:Kept X a c)(d:∀b,X b→B≤b):Below B w c:=
 h.trans ⟨k.os,k.tape,k.output,k.size,fun b g=>k.block b (by omega) fun e=>by have:=d b e;omega⟩
theorem lr.join{len:Nat}{p q:Pm}{g:Ge}{m:Nat}{t wr r:World}{ds W:List (Bool×U)}{v:Value}{rs:List Nat}{R:List Tm}(h:lr p g m t ds W wr v q rs R)(s:Below wr.heap.size wr r)(D:m≤t.heap.size)(E:5<m)(u:∀x∈W,Tok len x.2)(j:W.length≤50)
 (a:Option Addr)(n c:Nat)(f:Nat→Nat)(k:List Tm)(F:n=k.length)(ha:a=none→c=0)(G:∀x,a=some x→x.spot=none)(H:bA r a n f)(I:∀i(h:i<k.length),a7 q g k[i] (f i))(l:bk W k)(w:none∈k→∃x∈ds,isIface x.2=true):
 Calls Tryz.prog 140 #[v,.slice a n c] r fun e A=> ∃a' c' y d B,e= .returned (.slice a' d.length c')∧lr p g m t ds W A (.slice a' d.length c') y d B∧d.length≤50∧B=fN R k:=by
 have N:rs.length≤50:=by rw[h.row.len];exact h.wi.len j (by decide)
 have O:=l.len j (by decide);have h1:=s.size;have h2:=h.fA.size;refine(Bx len q g m v rs R a n c f k r (h.id.below s) (h.row.below s) h.aI (by omega) E F (by omega) (by omega) ha G H I (mV u h.wi) (mV u l)).mono ?_;rintro e A ⟨y,P,d,rfl,z,J,hT,K,L⟩;obtain⟨a',c',rfl⟩:=bd hT.own;have o:=bk.join (pg u) h.wi l;exact⟨a',c',y,d,_,rfl,⟨J,⟨je hT.own (by omega),hT.len,hT.cg⟩,L,h.gr.trans z (Nat.le_refl _),BK (h.fA.trans (s.mono (by omega))) (by omega) K fun b M=>(h.row.own.lt b M).1,o,fun hm=>Classical.byContradiction fun C=>BG (fun h1=>C (h.na h1)) (fun h1=>C (w h1)) hm⟩,by rw[hT.len];exact o.len j (by decide),rfl⟩
theorem BL(len:Nat)(p:Pm)(g:Ge)(B r s n c:Nat)(q0:Option Addr)(pos:Int)(a:Option Addr)(f:Nat→Nat)(ds:List (Bool×U))(F:Value→Option Value)(W:List (Bool×U))(w:World)(S:aq p g w)(hM:bV (du B) w s F)(hF:F (.pointer (some ⟨r,0,none⟩))=none)
 (Qk:r<B)(Rp:B≤s)(Rq:5<B)(P:p r 0=some (.slice a n c))(hn:n=ds.length)(Rr:n≤1048576)(hr:bN p a n fun i=>ptr (f i))(Qr:∀o,p s o=none)
 (ht:∀i(h:i<ds.length),a7 p g (some ds[i]) (f i))(hu:∀i(h:i<ds.length),pf len W ds[i].1 ds[i].2)(hW:∀x∈W,Tok len x.2)(QV:W.length≤50):
 Calls Tryz.prog 106 #[.pointer q0,.map (some s),.int .i64 pos,.pointer (some ⟨r,0,none⟩)] w (tP p g B r s F ds W w):=by
 have Qs:=Lib.hid S;have Qt:=Lib.hid hM;have Qu:=Lib.hid hF;have C:Hid (du B w (.pointer (some ⟨r,0,none⟩))):=⟨r,rfl,Qk,S.pl _ _ _ P⟩
 have u:Hid (du B (w.alloc (.cells #[.bool false,.slice none 0 0,.slice none 0 0,.bool false] 125)) (.pointer (some ⟨r,0,none⟩))):=⟨r,rfl,Qk,(S.pl _ _ _ P).below ((Below.refl _ _).alloc (Nat.le_refl _) _)⟩
 have Qv:Hid (bV (du B) (w.alloc (.cells #[.bool false,.slice none 0 0,.slice none 0 0,.bool false] 125)) s F):=hM.ju (X:=fun _=>False) ((Kept.refl _ _).alloc _) id fun _ _=>id;have QW:=hM.lt;have h0:=S.kw _ _ _ P;have QX:=Lib.hid hr;have QY:=Lib.hid ht;have QZ:=Lib.hid hu;have Qw:=Lib.hid hn;have Rn:=Lib.hid Qr;have Qx:=Lib.hid P;have Qy:Hid (¬Plain w s):=fun⟨cs,T,h⟩=>by obtain⟨es,cl,hb,_⟩:=hM;rw[hb]at h;cases h
 have Q3:Hid (∀A,(w.alloc (.cells #[.bool false,.slice none 0 0,.slice none 0 0,.bool false] 125)).grownBy A (some s)→A.cell? ⟨r,0,none⟩=some (.slice a n c)):=fun A L=>by
  have P8:Kept (fun k=>k=s) w A:=((Kept.refl _ _).alloc _).grown L fun k hk _=>by cases hk;rfl
  exact(S.kept P8 (fun b e=>by subst e;exact Qy.out) (by omega)).kw _ _ _ P
 clear S hM hF hr ht hu hn Qr P;go_enter Tryz.func106,Tryz.ntmps106;go_wp2_with (first|(at_lookup;refine BB _ rfl _ _ 167 rfl (mW B) 74 Tryz.underlying167 (.pointer none) ph s F rfl Qt.out (.pointer (some ⟨r,0,none⟩)) rfl C.out (.pointer none) false (by rw[Qu.out];rfl) (by rw[Qu.out];rfl) ?_)|(at_mapUpdate;refine dR _ rfl _ _ _ 167 rfl (mW B) (tM B) 74 Tryz.underlying167 s F rfl Qv.out (.pointer (some ⟨r,0,none⟩)) (.pointer (some ⟨w.heap.size,0,none⟩)) rfl rfl u.out ?_;intro A Qz L;have c0:=Q3.out A L)|fail)
 have P8:Hid (Kept (fun k=>k=s) w A):=((Kept.refl _ _).alloc _).grown L fun k hk _=>by cases hk;rfl
 have Q4:Hid (aq p g A):=Qs.out.kept P8.out (fun b e=>by subst e;exact Qy.out) (by omega);have Q5:Hid (bV (du B) A s (bt F (.pointer (some ⟨r,0,none⟩)) (.pointer (some ⟨w.heap.size,0,none⟩)))):=Qz _ (fun y hy=>a_ F hy) (bJ _ _ _);have QA:A.heap[w.heap.size]?=some (.cells #[.bool false,.slice none 0 0,.slice none 0 0,.bool false] 125 (0,0)):=by
  rw[L.block w.heap.size (by simp) fun e=>by have:=Option.some.inj e;omega];exact(MapKept.heap_alloc w _).1
 have Qc:w.heap.size<A.heap.size:=by have:=L.size;simp at this;omega
 have QB:=Lib.hid QA;have Q6:=Lib.hid Qs.out;clear Qz L Qv Qt C u QA h0;go_wp2_with fail
 go_loopw [35,11] (fun vk vv wr=> ∃(k:Nat)(q:Pm)(rs:List Nat)(R:List Tm),k≤n∧vk= .int .i64 k∧lr p g A.heap.size A ds W wr vv q rs R∧R=(ds.take k).foldl fO []) (fun vk _ _=>n- (intOf vk).toNat)
 case atStart=>exact⟨0,p,[],[],Nat.zero_le _,rfl,⟨Q4.out,⟨World.ownsRow_nil _ _ _ _,rfl,fun i h=>absurd h (Nat.not_lt_zero _)⟩,(fun b hb=>by cases hb),aL.refl _ _,Below.refl _ _,tH W,fun h=>(by cases h)⟩,rfl⟩
 case round=>
  obtain⟨k,q,rs,R,hk,rfl,j,QC⟩:=hrel;have Qd:=Lib.hid QC;clear QC;have QD:=Lib.hid j;obtain⟨va,vc,rfl⟩:=bd j.row.own;by_cases Q7:k<n
  ·have Ro:(k:Int)<n:=by omega
   obtain⟨ab,ao,rfl,QE⟩:=(QX.out.sub j.gr.le) k Q7;have c1:=j.id.kw _ _ _ QE;have P9:k<ds.length:=by have:=Qw.out;omega
   have QF:=(QY.out k P9).sub j.gr.le (aE.refl g);have Q8:=QZ.out k P9;have V:Hid (a7 q g (some ds[k]) (f k)):=QF;have QG:Hid (ds[k]∈ds):=List.getElem_mem P9;have Ql:Hid ((ds.take (k+1)).foldl fO []=fO R ds[k]):=by rw[Qd.out];exact mw fO [] P9
   generalize ds[k]=de at*;obtain⟨d,e⟩:=de;obtain⟨QH,x,QI,D⟩:=QF;have c2:=j.id.kw _ _ _ QH;have c3:=j.id.kw _ _ _ QI;have v:=Lib.hid j.id.kw
   have z:Hid (∀(wx:World)(a':Option Addr)(n' c':Nat)(f':Nat→Nat)(ys:List Tm),Below wr.heap.size wr wx→n'=ys.length→(a'=none→c'=0)→(∀x,a'=some x→x.spot=none)→bA wx a' n' f'→(∀i(h:i<ys.length),a7 q g ys[i] (f' i))→bk W ys→(none∈ys→∃x∈ds,isIface x.2=true)→
    Calls Tryz.prog 140 #[.slice va rs.length vc,.slice a' n' c'] wx fun e w'=> ∃QJ QK q' P_ R',e= .returned (.slice QJ P_.length QK)∧lr p g A.heap.size A ds W w' (.slice QJ P_.length QK) q' P_ R'∧P_.length≤50∧R'=fN R ys):=fun wx a' n' c' f' ys hx h1 h2 h3 h4 h5 h6 h7=>
    j.join hx (Nat.le_refl _) (by omega) hW QV a' n' c' f' ys h1 h2 h3 h4 h5 h6 h7
   have S:=Lib.hid j.id;clear j QD QE QH QI QW;rcases Q8 with⟨hT,QL,hm,Qa,N⟩|⟨hi,hP,Qm⟩
   ·
    have Q:=hT.ni;unfold isIface at Q;simp only[Bool.or_eq_false_iff,beq_eq_false_iff_ne,ne_eq]at Q;simp only at hT QL hm Qa N D Q;obtain⟨aa,Qb,O,_⟩:=hT.vt.bare;have Z:bare (bare e)=bare e:=cd Qb O;have P3:=hT.vu.aB;obtain⟨xt,xb,rt,rb,rfl,P4,hr⟩:=iE D Z hT.fl aa.aB.1 aa.aB.2;obtain⟨Q9,P5⟩:(under e).k≠16∧TS.Node q g (under e) (ae rt rb):=hr.resolve_right fun h=>Q.2 h.1;have Qe:=iH P5 Qa N;have QM:rt≠32:=by
     rw[Qe];have Rs:=(P5.tag Qa N).2;intro e1;have:32=bf 10:=rfl;rw[this]at e1;exact Q.1 (dY e1.symm (by decide) (by omega)).symm
    have QN:=Lib.hid (tN rt rb wr S.out.kw hT.vu P5 Qa N);have Q_:=Lib.hid (lg len q g e (under e) _ _ wr S.out hT.vt hT.vu D P5);obtain⟨K,fn,Ra,Qn,M,Qo,Rb,Rc,m⟩:=dS P4 v.out;have Re:=fun args w=>Go.MuLone.run_callFunc_enter Qn M Qo args w;have l:=Lib.hid m;have kb:=ai dG rt rb QM;have QO:=Lib.hid (tI hm);have hj:Hid (fO R (d,e)=fN R [some (d,e)]):=Lib.hid (by unfold fO;rw[if_neg (by rw[hT.ni];decide)]);clear m QM Qe P5 hr P4 D Q aa Qb O Z hT hm Q9 P3;cases d with
    |false=>
     go_wp2_with fail
     refine(l.out _ v.out).mono ?_;rintro _ _ ⟨rfl,rfl⟩;go_wp2_with fail
     refine QN.out.mono ?_;rintro _ _ ⟨rfl,rfl⟩;go_wp2_with fail
     refine(z.out (World.alloc wr (.cells #[.pointer (some ⟨f k,0,none⟩)] 179)) (some ⟨World.heap wr|>.size,0,none⟩) 1 1 (fun _=>f k) [some (false,e)] ((Below.refl _ _).alloc (Nat.le_refl _) _) rfl (fun h=>by cases h) (fun x h=>by cases h;rfl) (fun i hi=>⟨_,0,rfl,by obtain rfl:i=0:=(by omega);simpa using TS.dP wr _ _ 0 _ rfl⟩) (fun i hi=>by obtain rfl:i=0:=(by simp at hi;omega);exact V.out) QO.out (by simp)).mono ?_;rintro _ w3 ⟨a3,c3,q3,E,R3,rfl,G,P6,H⟩;have I:=Lib.hid G;have J:=Lib.hid H;clear H;have Qf:¬(E.length:Int) >100:=by omega
     clear G P6;go_wp2_with fail
     refine⟨⟨k+1,q3,E,R3,by omega,by go_num,I.out,by rw[J.out,Ql.out,hj.out]⟩,?_⟩;first|omega|(simp[intOf];omega)
    |true=>
     have Rg:=Lib.hid (QL rfl);go_wp2_with fail
     refine(l.out _ v.out).mono ?_;rintro _ _ ⟨rfl,rfl⟩;go_wp2_with fail
     refine QN.out.mono ?_;rintro _ _ ⟨rfl,rfl⟩;go_wp2_with fail
     refine Q_.out.mono ?_;rintro _ w2 ⟨rfl,hG⟩;rw[Rg.out];have QP:=Lib.hid hG.below;clear hG;go_wp2_with fail
     refine(z.out (World.alloc w2 (.cells #[.pointer (some ⟨f k,0,none⟩)] 179)) (some ⟨World.heap w2|>.size,0,none⟩) 1 1 (fun _=>f k) [some (true,e)] ((QP.out).alloc QP.out.size _) rfl (fun h=>by cases h) (fun x h=>by cases h;rfl) (fun i hi=>⟨_,0,rfl,by obtain rfl:i=0:=(by omega);simpa using TS.dP w2 _ _ 0 _ rfl⟩) (fun i hi=>by obtain rfl:i=0:=(by simp at hi;omega);exact V.out) QO.out (by simp)).mono ?_;rintro _ w3 ⟨a3,c3,q3,E,R3,rfl,G,P6,H⟩;have I:=Lib.hid G;have J:=Lib.hid H;clear H;have Qf:¬(E.length:Int) >100:=by omega
     clear G P6;go_wp2_with fail
     refine⟨⟨k+1,q3,E,R3,by omega,by go_num,I.out,by rw[J.out,Ql.out,hj.out]⟩,?_⟩;first|omega|(simp[intOf];omega)
   ·
    simp only at hi hP Qm D;obtain⟨_,Qb,O,Z,P3⟩:=hP.bare;obtain⟨xt,xb,rt,rb,rfl,P4,hr⟩:=iE D Z hP.fl P3.1 P3.2;have Rh:rt=32∧∃u',q rb 0=some (.pointer none)∧cy q g rb u'∧(∀x∈bF u',x∈W)∧dy u'=dy e:=by
     rcases hr with⟨Qp,hn⟩|⟨Qp,e1,hG⟩
     ·have QQ:(under e).k=10:=by
       unfold isIface at hi;simp only[Bool.or_eq_true,beq_iff_eq]at hi;exact hi.resolve_right Qp
      obtain⟨b,e1,hG⟩:=hn.gV QQ;cases e1;have:=S.out.done _ _ hG;exact⟨rfl,_,this.1,this.2,Qm,rU QQ⟩
     ·have:=S.out.done _ _ hG
      exact⟨e1,_,this.1,this.2,fun x hx=>(by rw[kN (by rw[gK];decide)]at hx;cases hx),by rw[mx (by rw[gK];decide),mx (by omega),gK,Qp];rfl⟩
    obtain⟨rfl,u',c4,Ri,Qg,Qh⟩:=Rh;obtain⟨tb,ma,mc,f',ta,tc,ts,cmp,t1,t2,t3,t4,t5,t6,t7,t8,t9,t10,⟨f2,t11,Qi⟩,t12,t13,t14,t15⟩:=Ri;have Rj:=Lib.hid (tO _ wr v.out hP D);have d1:=v.out _ _ _ t1;have d2:=v.out _ _ _ t8;have Rk:=Lib.hid (oZ rb tb q0 pos wr d1);have hj:Hid (fO R (d,e)=fN R ts):=Lib.hid (by unfold fO;rw[if_pos hi,←Qh,t13.eq]);have QR:bk W ts:=t13.cJ.imp id fun⟨x1,x2,x3⟩=>⟨x1,x2,fun t ht=>let⟨x,hx,e⟩:=x3 t ht;⟨x,Qg x hx,e⟩⟩
    have hJ:=Lib.hid (z.out wr ta ts.length tc f2 ts (Below.refl _ _) rfl t14 t15 (fun i hi=>let⟨b,o,e,hc⟩:=t11 i hi;⟨b,o,e,v.out _ _ _ hc⟩) Qi QR fun _=>⟨(d,e),QG.out,hi⟩);obtain⟨K,fn,Ra,Qn,M,Qo,Rb,Rc,m⟩:=dS P4 v.out;have Re:=fun args w=>Go.MuLone.run_callFunc_enter Qn M Qo args w;have l:=Lib.hid m;have kb:=ba dG rb;clear m hr P4 D hP hi Qm Qg Qh t1 t2 t3 t4 t5 t6 t7 t8 t9 t10 t11 Qi t12 t13 t14 t15 QR z Qb O Z P3 d1;go_wp2_with fail
    refine(l.out _ v.out).mono ?_;rintro _ _ ⟨rfl,rfl⟩;go_wp2_with fail
    refine Rj.out.mono ?_;rintro _ _ ⟨rfl,rfl⟩;go_wp2_with fail
    refine(gI _).mono ?_;rintro _ _ ⟨rfl,rfl⟩;go_wp2_with fail
    refine Rk.out.mono ?_;rintro _ _ ⟨rfl,rfl⟩;go_wp2_with fail
    refine hJ.out.mono ?_;rintro _ w3 ⟨a3,c3,q3,E,R3,rfl,G,P6,H⟩;have I:=Lib.hid G;have J:=Lib.hid H;clear H;have Qf:¬(E.length:Int) >100:=by omega
    clear G P6;go_wp2_with fail
    refine⟨⟨k+1,q3,E,R3,by omega,by go_num,I.out,by rw[J.out,Ql.out,hj.out]⟩,?_⟩;first|omega|(simp[intOf];omega)
  ·have Rt:¬(k:Int)<n:=by omega
   have Rl:=Lib.hid j.id;have QS:Hid (bV (du B) wr s (bt F (.pointer (some ⟨r,0,none⟩)) (.pointer (some ⟨w.heap.size,0,none⟩)))):=Q5.out.ju (X:=fun b=>A.heap.size≤b) ⟨j.fA.os,j.fA.tape,j.fA.output,j.fA.size,fun b _ hb=>j.fA.block b (by omega)⟩ (by omega) fun c hc=>by omega
   have P7:wr.heap[w.heap.size]?=some (.cells #[.bool false,.slice none 0 0,.slice none 0 0,.bool false] 125 (0,0)):=(j.fA.block _ Qc).trans QB.out;have c4:wr.cell? ⟨w.heap.size,2,none⟩=some (.slice none 0 0):=by simp[World.cell?,P7]
   have c5:wr.frozen? ⟨w.heap.size,2,none⟩=false:=by simp[World.frozen?,P7]
   have C:Hid (du B wr (.pointer (some ⟨r,0,none⟩))):=⟨r,rfl,Qk,j.id.pl _ _ _ (j.gr.le _ _ _ Qx.out)⟩
   have u:Hid (du B (wr.setCell ⟨w.heap.size,2,none⟩ (.slice va rs.length vc)) (.pointer (some ⟨r,0,none⟩))):=by
    obtain⟨b,e,hl,cs,T,hc⟩:=C.out;exact⟨b,e,hl,cs,T,by rw[Below.heap_setCell _ _ _ _ (by simp only;omega)];exact hc⟩
   have Qj:Hid (bV (du B) (wr.setCell ⟨w.heap.size,2,none⟩ (.slice va rs.length vc)) s (bt F (.pointer (some ⟨r,0,none⟩)) (.pointer (some ⟨w.heap.size,0,none⟩)))):=
    QS.out.ju (X:=fun b=>b=w.heap.size) ((Kept.refl (fun b=>b=w.heap.size) wr).setCell (a:=⟨w.heap.size,2,none⟩) (fun _=>rfl) _) (by omega) fun c hc=>by omega
   clear Rl;clear j;have QT:Hid (tP p g B r s F ds W w (.returned (.pointer (some ⟨w.heap.size,0,none⟩))) (wr.setCell ⟨w.heap.size,2,none⟩ (.slice va rs.length vc))):=by
    have j:=QD.out;have V:∀o,q w.heap.size o=none:=j.gr.aI Qc fun o=>Q6.out.kw.aI (Nat.le_refl _) o;have QU:Kept (fun b=>b=w.heap.size) wr (wr.setCell ⟨w.heap.size,2,none⟩ (.slice va rs.length vc)):=(Kept.refl (fun b=>b=w.heap.size) wr).setCell (a:=⟨w.heap.size,2,none⟩) (fun _=>rfl) _;have Rm:∀b,(Value.slice va rs.length vc).ownBlock=some b→A.heap.size≤b:=fun b hb=>(j.row.own.lt b hb).1;have Qq:∀o,o≠2→(wr.setCell ⟨w.heap.size,2,none⟩ (.slice va rs.length vc)).cell? ⟨w.heap.size,o,none⟩=wr.cell? ⟨w.heap.size,o,none⟩:=fun o ho=>World.cell?_setCell_other _ _ _ _ (by simp[Ne.symm ho]);refine⟨q,w.heap.size,_,rs,R,_,rfl,j.gr.mono (by omega),⟨?_,?_,j.aI,j.wi,j.na,by rw[Qd.out,List.take_of_length_le (by have:=Qw.out;omega)],?_,?_,?_⟩,?_,Nat.le_refl _,V,Qj.out,fun y hy=>a_ F hy,?_⟩
    ·exact j.id.own QU (fun b e=>by subst e;exact V) (by omega)
    ·exact⟨je (dO j.row.own QU fun b hb e=>by have:=Rm b hb;omega) (by omega),j.row.len,j.row.cg⟩
    ·rw[Qq 0 (by decide)];simp[World.cell?,P7]
    ·rw[Qq 1 (by decide)];simp[World.cell?,P7]
    ·rw[Qq 3 (by decide)];simp[World.cell?,P7]
    ·exact World.cell?_setCell_same _ _ _ c4
    ·have:Kept (fun k=>k=s) w wr:=P8.out.trans (Y:=fun b=>A.heap.size≤b) ⟨j.fA.os,j.fA.tape,j.fA.output,j.fA.size,fun b _ hb=>j.fA.block b (by omega)⟩ fun b hb e=>by omega
     exact this.setCell (fun h=>absurd h (by simp)) _
   go_wp2_with (first|(at_lookup;refine dQ _ rfl _ _ 167 rfl (mW B) 74 Tryz.underlying167 (.pointer none) ph s _ rfl QS.out (.pointer (some ⟨r,0,none⟩)) rfl C.out (.pointer (some ⟨w.heap.size,0,none⟩)) (by rw[bJ];rfl) ?_)|(at_lookup;refine dQ _ rfl _ _ 167 rfl (mW B) 74 Tryz.underlying167 (.pointer none) ph s _ rfl Qj.out (.pointer (some ⟨r,0,none⟩)) rfl u.out (.pointer (some ⟨w.heap.size,0,none⟩)) (by rw[bJ];rfl) ?_)|fail)
   go_ret;exact QT.out
end Go.Proofs.YtkfaiocajcjomaaGreatDoor
namespace TS
open Go Go.RowKit Go.Proofs.YtkfaiocajcjomaaGreatDoor
structure mX(B e a c pm d:Nat):Prop where
 b:B≤a
 sa:a<c
 ap:c<pm
 pm:pm<d
 m2:d<e
def Cx(a c pm:Nat)(m:Option Nat)(v:Value)(b:Nat):Prop:=b=a∨b=c∨b=pm∨m=some b∨v.ownBlock=some b
structure dI(p:Pm)(g:Ge)(B c:Nat)(d a pm e:Nat)(w:World)(m:Option Nat)(v:Value)(M:List U)(fs:List Nat):Prop where
 os:∃F,fQ w d m F∧(∀s:ByteArray,F (.string s)=none↔∀x∈M,x.nm≠s)∧∀k x,F k=some x→∃t y,x= .iface t y
 mB:∀b,m=some b→c≤b∧b<w.heap.size
 ac:w.cell? ⟨a,0,none⟩=some v
 af:w.frozen? ⟨a,0,none⟩=false
 row:w.ownsRow c 99 1 v fs.length (fs.map pv)
 mp:w.cell? ⟨e,0,none⟩=some (.map (some pm))
 mf:∃F,bV (du B) w pm F
 len:fs.length=M.length
 cg:∀i(h:i<M.length)(f:i<fs.length),cP p g M[i] fs[i]
 dk:∀b,Cx d a pm m v b→∀o,p b o=none
theorem bytes_inj{a b:ByteArray}(h:a.toList=b.toList):a=b:=by
 rw[Lib.toList_data,Lib.toList_data]at h;exact ByteArray.ext (Array.ext' h)
theorem dI.lt{p:Pm}{g:Ge}{B d a c pm f:Nat}{w:World}{m:Option Nat}{v:Value}{M:List U}{fs:List Nat}(h:dI p g B d a c pm f w m v M fs)(b:Nat)(i:Cx a c pm m v b):b<w.heap.size:=by
 rcases i with rfl|rfl|rfl|e|e
 ·obtain⟨F,hO,_⟩:=h.os
  exact World.block_lt_of_cell? _ _ hO.1
 ·exact World.block_lt_of_cell? _ _ h.ac
 ·obtain⟨F,hF⟩:=h.mf;exact hF.lt
 ·exact(h.mB _ e).2
 ·exact(h.row.lt _ e).2
theorem dI.of{p q:Pm}{g A:Ge}{B C r j pm f:Nat}{w s:World}{m:Option Nat}{v:Value}{M:List U}{fs:List Nat}(h:dI p g B C r j pm f w m v M fs){Y:Nat→Prop}(k:Kept Y w s)(l:∀b,Y b→¬Cx r j pm m v b∧b≠f∧B≤b)(D:aL p q w.heap.size)(u:aE g A):
 dI q A B C r j pm f s m v M fs:=by
 have t:∀b,Cx r j pm m v b→s.heap[b]?=w.heap[b]?:=fun b n=>k.block b (h.lt b n) fun d=>(l b d).1 n;have x:s.heap[f]?=w.heap[f]?:=k.block f (World.block_lt_of_cell? _ _ h.mp) fun d=>(l f d).2.1 rfl;refine⟨?_,fun b e=>⟨(h.mB b e).1,Nat.lt_of_lt_of_le (h.mB b e).2 k.size⟩,?_,?_,?_,?_,?_,h.len,fun i hi y=>(h.cg i hi y).sub D.le u,fun b n o=>D.aI (h.lt b n) (h.dk b n) o⟩
 ·obtain⟨F,hO,hF,z⟩:=h.os
  exact⟨F,hO.of (t _ (.inl rfl)) fun b e=>t _ (.inr (.inr (.inr (.inl e)))),hF,z⟩
 ·exact(World.cell?_of_block (w:=w) (a:=⟨j,0,none⟩) (t _ (.inr (.inl rfl)))).trans h.ac
 ·exact(World.frozen?_of_block (w:=w) (a:=⟨j,0,none⟩) (t _ (.inr (.inl rfl)))).trans h.af
 ·exact dO h.row k fun b e d=>(l b d).1 (.inr (.inr (.inr (.inr e))))
 ·exact(World.cell?_of_block (w:=w) (a:=⟨f,0,none⟩) x).trans h.mp
 ·obtain⟨F,hF⟩:=h.mf
  exact⟨F,hF.ju k (fun d=>(l pm d).1 (.inr (.inr (.inl rfl)))) fun c E d=>by have:=(l c d).2.2;omega⟩
end TS
namespace Go.Proofs.YtkfaiocajcjomaaGreatDoor
open Go.RowKit TS Go.ChangeMaps
theorem BM(B:Nat):KeyLaw Tryz.prog 99 (du B):=by
 obtain⟨e,i,j,a,hi,b,c,d⟩:=ej (t:=99) Tryz.underlying99 (by kernel_rfl) (by kernel_rfl);exact(sv a c d).mono fun _ _=>tL
theorem BN(t:TypeId)(v:Value)(w:World):(binOp .eql 172 (.iface t v) .nilIface).run Tryz.prog w= .ok (.bool false) w:=by kernel_rfl
theorem BO(w:World):(binOp .eql 172 .nilIface .nilIface).run Tryz.prog w= .ok (.bool true) w:=by kernel_rfl
theorem BP(p:Pm)(g:Ge)(B r h i pm j f:Nat)(m:Option Nat)(v:Value)(M:List U)(fs:List Nat)(x:U)(pos:Int)(ex:Bool)(w:World)(d:aq p g w)(l:dI p g B r h i pm j w m v M fs)(s:cP p g x f)(o:aO x.nm=true)(hM:M.any (fun y=>cG y x)=true):
 Calls Tryz.prog 103 #[.int .i64 pos,.pointer (some ⟨f,0,none⟩),.bool ex,.pointer (some ⟨h,0,none⟩),.pointer (some ⟨i,0,none⟩),.pointer (some ⟨j,0,none⟩)] w fun e q=>
  e= .returned (.tuple #[])∧∃n,q=w.drewN n:=by
 obtain⟨F,hO,hF,a⟩:=l.os;obtain⟨D,⟨E,f1⟩,f2,f3,f4⟩:=s;have b:F (.string x.nm)≠none:=fun e=>by
  obtain⟨y,u,A⟩:=List.any_eq_true.1 hM;exact(hF x.nm).1 e y u (bytes_inj (fV.1 A))
 obtain⟨z,c⟩:=Option.ne_none_iff_exists'.1 b;obtain⟨t,y,rfl⟩:=a _ _ c;have hm:∃k,m=some k:=by
  cases m with
  |none=>have:=hO.2.2.1 rfl;rw[this]at c;cases c
  |some k=>exact⟨k,rfl⟩
 obtain⟨k,rfl⟩:=hm;have C:=Lib.hid (zZ 99 sC h k f _ x.nm o F t y w d.cap hO (d.kw _ _ _ f1) (d.kw _ _ _ f2) c);have G:=BN t y;clear hO d l hF a f1 f2 f3 f4 o hM b c;cases ex
 all_goals
  go_enter Tryz.func103,Tryz.ntmps103;go_wp2_with fail
  refine C.out.mono ?_;rintro e q ⟨rfl,n,rfl⟩;go_wp2_with fail
  go_end0
  exact⟨rfl,_,rfl⟩
theorem BQ(T:TypeId)(n:jY T)(d f:Nat)(m:Option Nat)(q:Option Addr)(s:ByteArray)(o:aO s=true)(F:Value→Option Value)(w:World)(hT:bu w)(hO:fQ w d m F)(j:∀b,m=some b→b≠d)
 (h1:w.cell? ⟨f,1,none⟩=some (.pointer q))(h2:w.cell? ⟨f,2,none⟩=some (.string s))(hF:F (.string s)=none):
 Calls Tryz.prog 104 #[.pointer (some ⟨d,0,none⟩),.iface T (.pointer (some ⟨f,0,none⟩))] w fun e g=>e= .returned .nilIface∧
  ∃i,fQ g d i (bt F (.string s) (.iface T (.pointer (some ⟨f,0,none⟩))))∧(i=m∨∃b,i=some b∧w.heap.size≤b)∧(∀b,i=some b→b<g.heap.size)∧Kept (fun k=>k=d∨m=some k) w g:=by
 cases m with
 |none=>
  refine(sE T n d f q s o F w hT hO h1 h2).mono ?_;rintro e g ⟨rfl,b,a,p,l⟩;exact⟨rfl,some b,a,.inr ⟨b,rfl,p⟩,fun c e=>by cases e;exact(a.2.2.2 _ rfl).lt,l.mono fun k _ h=> .inl h⟩
 |some b=>
  refine(sD T n d b f q s o F w hT hO (j b rfl) h1 h2 hF).mono ?_;rintro e g ⟨rfl,a,l⟩;exact⟨rfl,some b,a,.inl rfl,fun c e=>by cases e;exact(a.2.2.2 _ rfl).lt,l.mono fun k _ h=> .inr (by rw[h])⟩
def BR(p:Pm)(g:Ge)(B d b c pm h:Nat)(m:Option Nat)(v:Value)(M:List U)(fs:List Nat)(f:Nat)(x:U)(w:World)(e:Ending)(a:World):Prop:=
 e= .returned (.tuple #[])∧∃i j,dI p g B d b c pm h a i j (M++ [x]) (fs++ [f])∧aq p g a∧Kept (Cx b c pm m v) w a
theorem BT(p:Pm)(g:Ge)(B O G j pm n f:Nat)(m:Option Nat)(v:Value)(M:List U)(fs:List Nat)(x:U)(pos:Int)(ex:Bool)(w:World)(hG:mX B O G j pm n)(QC:O≤w.heap.size)(QD:5<B)(hE:aq p g w)(hC:dI p g B O G j pm n w m v M fs)(hf:cP p g x f)(Ql:f<B)(hn:aO x.nm=true)(hM:M.any (fun y=>cG y x)=false)(hl:fs.length≤1048576):
 Calls Tryz.prog 103 #[.int .i64 pos,.pointer (some ⟨f,0,none⟩),.bool ex,.pointer (some ⟨G,0,none⟩),.pointer (some ⟨j,0,none⟩),.pointer (some ⟨n,0,none⟩)] w (BR p g B O G j pm n m v M fs f x w):=by
 obtain⟨F,hO,hF,P6⟩:=hC.os;obtain⟨g1,g2,g3,g4,g5⟩:=hG;have Qm:=Lib.hid hf;obtain⟨fb,⟨fq,f1⟩,f2,f3,f4⟩:=hf;have P7:F (.string x.nm)=none:=(hF x.nm).2 fun y H e=>by
  rw[List.any_eq_false]at hM;exact hM y H (fV.2 (by rw[e]))
 have hI:=Lib.hid (BQ 99 sC G f m _ x.nm hn F w hE.cap hO (fun b e=>by have:=(hC.mB b e).1;omega) (hE.kw _ _ _ f1) (hE.kw _ _ _ f2) P7);obtain⟨Fm,N⟩:=hC.mf;have d:=Lib.hid hC;have Y:=Lib.hid hE;have Qn:=Lib.hid hF;have P8:=Lib.hid P6;have Qo:Hid (Plain w f):=hE.pl _ _ _ f1;obtain⟨i1,hj,Qp,Qq,Qr⟩:=info_parts sr;obtain⟨A,C,rfl⟩:=bd hC.row;clear hO hE hC hF P6 f1 f2 f3 f4 hn hM P7 N;have hq:=BO;go_enter Tryz.func103,Tryz.ntmps103;go_wp2_with fail
 refine hI.out.mono ?_;rintro e r ⟨rfl,m',P9,P_,P,D⟩;have I:∀k,(k=G∨m=some k)→B≤k∧k≠j∧k≠pm∧k≠n∧(Value.slice A fs.length C).ownBlock≠some k:=fun k hk=>by
  rcases hk with rfl|e
  ·exact⟨g1,by omega,by omega,by omega,fun e=>by have:=(d.out.row.lt _ e).1;omega⟩
  ·have h1:=(d.out.mB _ e).1
   refine⟨by omega,by omega,by omega,by omega,fun e2=> ?_⟩;obtain⟨F0,Qs,_⟩:=d.out.os;obtain⟨es,cl,L,_⟩:=Qs.2.2.2 _ e;rcases d.out.row.2 with⟨e3,_⟩|⟨gb,cap,cur,e3,_,Qa,_⟩
   ·rw[e3]at e2;cases e2
   ·rw[e3]at e2;cases e2;rw[L]at Qa;cases Qa
 have Z:=Lib.hid (dO d.out.row D fun b e hx=>(I b hx).2.2.2.2 e);have c1:r.cell? ⟨j,0,none⟩=some (.slice A fs.length C):=by rw[D.cell (World.block_lt_of_cell? _ _ d.out.ac) fun h=>(I j h).2.1 rfl];exact d.out.ac
 have c2:r.frozen? ⟨j,0,none⟩=false:=by rw[D.frozen (World.block_lt_of_cell? _ _ d.out.ac) fun h=>(I j h).2.1 rfl];exact d.out.af
 have Qt:=D.size;have P3:=Lib.hid (Z.out.alloc (.cells #[.pointer (some ⟨f,0,none⟩)] 99));have Q:=Lib.hid P9;have Qb:=Lib.hid P_;have P4:=Lib.hid P;have J:=Lib.hid D;have q:=Lib.hid I;clear P9 P_ D I hI P;go_wp2_with (first|(at_builtin;refine wpList_append_own_at _ rfl _ _ 101 rfl O 99 i1 (.pointer none) 1 8 Tryz.underlying101 hj Qp Qq Qr rfl (by decide) _ _ _ rfl P3.out ⟨r.heap.size,0,none⟩ 1 1 [.pointer (some ⟨f,0,none⟩)] rfl rfl (TS.dP r _ _) (TS.one_one rfl) ?c3 ?c4 ?c5 ?_)|fail)
 case c3=>unfold maxLen;omega
 case c4=>omega
 case c5=>(try simp);omega
 intro v' z t E _ Qu;obtain⟨a3,c3,rfl⟩:=bd t;have R:=Lib.hid E;have Qc:Hid (Kept (Cx G j pm m (.slice A fs.length C)) w z):=by
  have h1:Kept (Cx G j pm m (.slice A fs.length C)) w r:=J.out.mono fun b _ h=>h.elim .inl fun h=> .inr (.inr (.inr (.inl h)));exact(h1.alloc _).grown E fun k hk _=> .inr (.inr (.inr (.inr hk)))
 have Qv:j<r.heap.size:=World.block_lt_of_cell? _ _ c1;have l:∀b,(Value.slice A fs.length C).ownBlock=some b→O≤b:=fun b e=>(d.out.row.lt b e).1;have P5:z.heap[j]?=r.heap[j]?:=(E.block j (by simp;omega) fun e=>by have:=l j e.symm;omega).trans (Below.heap_alloc _ _ _ Qv);have d1:z.cell? ⟨j,0,none⟩=some (.slice A fs.length C):=(World.cell?_of_block (w:=r) (a:=⟨j,0,none⟩) P5).trans c1;have d2:z.frozen? ⟨j,0,none⟩=false:=(World.frozen?_of_block (w:=r) (a:=⟨j,0,none⟩) P5).trans c2;have S:r.heap[n]?=w.heap[n]?:=J.out.block n (World.block_lt_of_cell? _ _ d.out.mp) fun h=>(q.out n h).2.2.2.1 rfl;have Qd:n<r.heap.size:=Nat.lt_of_lt_of_le (World.block_lt_of_cell? _ _ d.out.mp) Qt;have V:z.heap[n]?=r.heap[n]?:=(E.block n (by simp;omega) fun e=>by have:=l n e.symm;omega).trans (Below.heap_alloc _ _ _ Qd);have d3:z.cell? ⟨n,0,none⟩=some (.map (some pm)):=(World.cell?_of_block (w:=w) (a:=⟨n,0,none⟩) (V.trans S)).trans d.out.mp;obtain⟨Fm,N⟩:=d.out.mf;have Qe:¬(Value.slice A fs.length C).ownBlock=some pm:=fun e=>by
  have:=l pm e;omega
 have Qw:Hid (bV (du B) (z.setCell ⟨j,0,none⟩ (.slice a3 (fs.length+1) c3)) pm Fm):=by
  have k1:Kept (fun k=>(k=G∨m=some k)∨(Value.slice A fs.length C).ownBlock=some k) w z:=((J.out.mono fun b _ h=> .inl h).alloc _).grown E fun k hk _=> .inr hk;have k2:Kept (fun k=>((k=G∨m=some k)∨(Value.slice A fs.length C).ownBlock=some k)∨k=j) w (z.setCell ⟨j,0,none⟩ (.slice a3 (fs.length+1) c3)):=(k1.mono fun b _ h=> .inl h).setCell (fun _=> .inr rfl) _;refine N.ju k2 (fun h=> ?_) fun c hc h=> ?_
  ·rcases h with(h|h)|h
   ·exact(q.out pm h).2.2.1 rfl
   ·exact Qe h
   ·omega
  ·rcases h with(h|h)|h
   ·have:=(q.out c h).1;omega
   ·have:=l c h;omega
   ·omega
 have Qf:Hid (du B (z.setCell ⟨j,0,none⟩ (.slice a3 (fs.length+1) c3)) (.pointer (some ⟨f,0,none⟩))):=by
  refine⟨f,rfl,Ql,?_⟩;obtain⟨cs,T,L⟩:=Qo.out;have Qx:=(Array.getElem?_eq_some_iff.1 L).1;refine⟨cs,T,?_⟩;rw[Below.heap_setCell _ _ _ _ (by simp only;omega),Qc.out.block f Qx fun h=> ?_]
  ·exact L
  ·rcases h with h|h|h|h|h
   ·omega
   ·omega
   ·omega
   ·have:=(q.out f (.inr h)).1;omega
   ·have:=l f h;omega
 clear N P5 S V E c1 c2;go_wp2_with (first|(at_mapUpdate;refine dR _ rfl _ _ _ 170 rfl (BM B) (tM B) 65 Tryz.underlying170 pm Fm rfl Qw.out (.pointer (some ⟨f,0,none⟩)) (.int .i64 pos) rfl rfl Qf.out ?_;intro w4 Qy u)|fail)
 go_end0
 have Qg:Kept (Cx G j pm m (.slice A fs.length C)) w w4:=(Qc.out.setCell (fun _=> .inr (.inl rfl)) _).grown u fun k hk _=>by cases hk;exact .inr (.inr (.inl rfl))
 have K:=R.out.size;have Qz:=u.size;simp only[World.setCell,Array.size_modify]at Qz;have hblk:∀b,b<r.heap.size→b≠j→b≠pm→(Value.slice A fs.length C).ownBlock≠some b→w4.heap[b]?=r.heap[b]?:=fun b L h1 h2 h3=>by
  rw[u.block b (by simp[World.setCell];simp at K;omega) fun e=>h2 (Option.some.inj e),Below.heap_setCell _ _ _ _ (by simp only;exact h1),
   R.out.block b (by simp;omega) fun e=>h3 e.symm,Below.heap_alloc _ _ _ L]
 have W:∀b,m'=some b→b<r.heap.size∧O≤b∧b≠j∧b≠pm∧(Value.slice A fs.length C).ownBlock≠some b:=fun b e=>by
  have h0:=P4.out b e;rcases Qb.out with rfl|⟨b',e',Qh⟩
  ·have:=q.out b (.inr e)
   exact⟨h0,(d.out.mB b e).1,this.2.1,this.2.2.1,this.2.2.2.2⟩
  ·rw[e']at e;cases e
   exact⟨h0,by omega,by omega,by omega,fun e=>by have:=(d.out.row.lt _ e).2;omega⟩
 have Qi:∀b,(Value.slice a3 (fs.length+1) c3).ownBlock=some b→((Value.slice A fs.length C).ownBlock=some b∨w.heap.size≤b):=fun b e=>by
  rcases Qu with h|h
  ·exact .inl (h▸e)
  ·rw[h]at e;have:=Option.some.inj e;exact .inr (by first|omega|(simp at this;omega))
 have QA:aq p g w4:=Y.out.own Qg (fun b L=>d.out.dk b L) fun h=>by
  rcases h with h|h|h|h|h
  ·omega
  ·omega
  ·omega
  ·have:=(d.out.mB _ h).1;omega
  ·have:=l _ h;omega
 refine⟨rfl,m',.slice a3 (fs.length+1) c3,⟨⟨_,Q.out.of (hblk G ?_ (by omega) (by omega) fun e=> ?_) fun b e=> ?_,fun s=> ?_,fun k y hk=> ?_⟩,fun b e=> ?_,?_,?_,?_,?_,?_,?_,?_,?_⟩,QA,Qg⟩
 ·exact World.block_lt_of_cell? _ _ Q.out.1
 ·have:=l _ e;omega
 ·obtain⟨h1,h2,h3,h4,h5⟩:=W b e
  exact hblk b h1 h3 h4 h5
 ·by_cases hs:s=x.nm
  ·subst hs
   rw[bJ];simp
  ·rw[a_ F (fun h=>hs (by cases h;rfl)),Qn.out s]
   refine⟨fun h y H=> ?_,fun h y H=>h y (List.mem_append_left _ H)⟩;rcases List.mem_append.1 H with H|H
   ·exact h y H
   ·rw[List.mem_singleton.1 H];exact fun e=>hs e.symm
 ·by_cases Qj:k= .string x.nm
  ·subst Qj;rw[bJ]at hk;cases hk;exact⟨_,_,rfl⟩
  ·rw[a_ F Qj]at hk;exact P8.out k y hk
 ·obtain⟨h1,h2,_⟩:=W b e
  have:r.heap.size≤w4.heap.size:=by simp at K;omega
  exact⟨h2,by omega⟩
 ·have h1:w4.heap[j]?=(z.setCell ⟨j,0,none⟩ (.slice a3 (fs.length+1) c3)).heap[j]?:=u.block j (by simp[World.setCell];simp at K;omega) fun e=>by have:=Option.some.inj e;omega
  rw[World.cell?_of_block (a:=⟨j,0,none⟩) h1];exact World.cell?_setCell_same _ _ _ d1
 ·have h1:w4.heap[j]?=(z.setCell ⟨j,0,none⟩ (.slice a3 (fs.length+1) c3)).heap[j]?:=u.block j (by simp[World.setCell];simp at K;omega) fun e=>by have:=Option.some.inj e;omega
  rw[World.frozen?_of_block (a:=⟨j,0,none⟩) h1,World.frozen?_setCell];exact d2
 ·have h1:z.ownsRow O 99 1 (.slice a3 (fs.length+1) c3) (fs++ [f]).length ((fs++ [f]).map pv):=by simpa using t
  refine dO (X:=fun k=>k=j∨k=pm) h1 (((Kept.refl _ _).setCell (fun _=> .inl rfl) _).grown u fun k hk _=> .inr (by cases hk;rfl)) fun b e h=> ?_;have:=(t.lt b e).1;omega
 ·have h1:w4.heap[n]?=(z.setCell ⟨j,0,none⟩ (.slice a3 (fs.length+1) c3)).heap[n]?:=u.block n (by simp[World.setCell];simp at K;omega) fun e=>by have:=Option.some.inj e;omega
  rw[World.cell?_of_block (a:=⟨n,0,none⟩) h1,World.cell?_setCell_other _ _ _ _ (fun e=>by have:=congrArg Addr.block e;simp only at this;omega)];exact d3
 ·exact⟨_,Qy _ (fun y H=>a_ Fm H) (bJ _ _ _)⟩
 ·simp[d.out.len]
 ·intro i hi QB
  have hl:=d.out.len;simp only[List.length_append,List.length_cons,List.length_nil]at hi QB;by_cases Qk:i<M.length
  ·rw[List.getElem_append_left Qk,List.getElem_append_left (by omega)];exact d.out.cg i Qk (by omega)
  ·have e1:i=M.length:=by omega
   subst e1;simp[←hl];simpa [hl]using Qm.out
 ·intro b L o
  rcases L with h|h|h|h|h
  ·exact d.out.dk b (.inl h) o
  ·exact d.out.dk b (.inr (.inl h)) o
  ·exact d.out.dk b (.inr (.inr (.inl h))) o
  ·rcases Qb.out with e|⟨b',e',Qh⟩
   ·exact d.out.dk b (.inr (.inr (.inr (.inl (e▸h))))) o
   ·rw[e']at h;cases h;exact Y.out.kw.aI Qh o
  ·rcases Qi b h with h|h
   ·exact d.out.dk b (.inr (.inr (.inr (.inr h)))) o
   ·exact Y.out.kw.aI h o
theorem tQ(p:Pm)(g:Ge)(B d a c pm i f:Nat)(m:Option Nat)(v:Value)(M:List U)(fs:List Nat)(x:U)(pos:Int)(ex:Bool)(w:World)(G:mX B d a c pm i)(o:d≤w.heap.size)(q:5<B)(r:aq p g w)(s:dI p g B d a c pm i w m v M fs)(E:cP p g x f)(t:f<B)(F:aO x.nm=true)(H:fs.length≤1048576):
 Calls Tryz.prog 103 #[.int .i64 pos,.pointer (some ⟨f,0,none⟩),.bool ex,.pointer (some ⟨a,0,none⟩),.pointer (some ⟨c,0,none⟩),.pointer (some ⟨i,0,none⟩)] w fun e j=>
  e= .returned (.tuple #[])∧∃u z k,dI p g B d a c pm i j u z (bK M x) k∧(∀y∈k,y∈fs∨y=f)∧aq p g j∧Kept (Cx a c pm m v) w j:=by
 unfold bK;cases hM:M.any fun y=>cG y x
 ·refine(BT p g B d a c pm i f m v M fs x pos ex w G o q r s E t F hM H).mono ?_
  rintro e j ⟨rfl,u,z,A,C,l⟩;exact⟨rfl,u,z,_,A,fun y D=>by simpa using D,C,l⟩
 ·refine(BP p g B d a c pm i f m v M fs x pos ex w r s E F hM).mono ?_
  rintro e j ⟨rfl,n,rfl⟩;have l:Kept (fun _=>False) w (w.drewN n):=⟨rfl,rfl,rfl,Nat.le_refl _,fun _ _ _=>rfl⟩
  exact⟨rfl,m,v,fs,s.of l (fun b h=>h.elim) (aL.refl _ _) (aE.refl g),fun y D=> .inl D,r.cV (ar.drewN w n),l.mono fun b _ h=>h.elim⟩
end Go.Proofs.YtkfaiocajcjomaaGreatDoor
namespace Go.Proofs.YtkfaiocajcjomaaGreatDoor
open Go.RowKit TS
theorem BU(a b:ByteArray)(w:World):Calls Tryz.prog 235 #[.string a,.string b] w fun e c=>e= .returned (.int .i64 (Lib.compareBytes a.data.toList b.data.toList))∧c=w:=by
 go_enter Tryz.func235,Tryz.ntmps235;go_wp2
 rw[run_callFunc_extern Tryz.func245 (by kernel_rfl) (by kernel_rfl) (by kernel_rfl) (e:=Extern.BytealgCompare.compare) (by kernel_rfl),Lib.run_compareString];simp only[Result.andThen];rw[Oper.upon_value];go_wp2
 go_ret;exact⟨rfl,rfl⟩
theorem BV(a b:ByteArray)(w:World):Calls Tryz.prog 212 #[.string a,.string b] w fun e c=>e= .returned (.int .i64 (Lib.compareBytes a.data.toList b.data.toList))∧w=c:=by
 go_enter Tryz.func212,Tryz.ntmps212;go_wp2_with fail
 refine(BU a b _).mono ?_;rintro e c ⟨rfl,rfl⟩;go_wp2_with fail
 go_ret;exact⟨rfl,rfl⟩
theorem pj:∀l:List UInt8,Lib.compareBytes l l=0
 | []=>rfl
 |a::r=>by simp[Lib.compareBytes,UInt8.lt_irrefl,pj r]
theorem tR:∀a b:List UInt8,decide (Lib.compareBytes a b<0)=Go.Op.bytesLess a b
 | [],[]=>rfl
 | [],_::_=>rfl
 |_::_,[]=>rfl
 |a::x,b::y=>by
  have ih:=tR x y;unfold Lib.compareBytes Go.Op.bytesLess;by_cases h:a<b
  ·simp[h]
  ·by_cases h2:b<a
   ·have c:a≠b:=fun e=>by subst e;exact h h2
    simp[h,h2,c]
   ·have e:a=b:=UInt8.le_antisymm (UInt8.not_lt.1 h2) (UInt8.not_lt.1 h)
    subst e;simp[h,ih]
theorem BW:bP 261:=ej Tryz.underlying261 (by kernel_rfl) (by kernel_rfl)
theorem BX(f c:Nat)(s a:ByteArray)(w:World)(hT:bu w)(j:aO s=true)(b:aO a=true)(l:Plain w f)(d:Plain w c)(h:w.cell? ⟨f,2,none⟩=some (.string s))(m:w.cell? ⟨c,2,none⟩=some (.string a)):
 Calls Tryz.prog 176 #[.pointer (some ⟨f,0,none⟩),.pointer (some ⟨c,0,none⟩)] w fun e g=>e= .returned (.int .i64 (Lib.compareBytes s.data.toList a.data.toList))∧∃n,g=w.drewN n:=by
 have k:=jZ BW w f c l d;by_cases e:f=c
 ·subst e
  rw[h]at m;cases m;simp only[decide_true]at k;rw[pj];clear h j b hT;go_enter Tryz.func176,Tryz.ntmps176;go_wp2_with fail
  go_ret;exact⟨rfl,0,rfl⟩
 ·have p:(binOp .eql 261 (.pointer (some ⟨f,0,none⟩)) (.pointer (some ⟨c,0,none⟩))).run Tryz.prog w= .ok (.bool false) w:=by rw[k];simp[e]
  have o:=Lib.hid (mJ s j w hT);have i:=Lib.hid (mJ a b w hT);clear k j b hT e l d;cases q:(s.toList==a.toList)
  ·have r:=Lib.hid fun W=>BV s a W
   go_enter Tryz.func176,Tryz.ntmps176;go_wp2_with fail
   refine o.out.mono ?_;rintro e g ⟨rfl,rfl⟩;go_wp2_with fail
   refine i.out.mono ?_;rintro e g ⟨rfl,rfl⟩;go_wp2_with fail
   go_quiet (fail)
   go_wp2_with fail
   go_quiet (first|(go_at_call 212;exact(r.out _).mono fun e t h=>⟨h.1,_,h.2.symm⟩))
   go_wp2_with fail
   go_ret;exact⟨rfl,_,World.drewN_drewN ..⟩
  ·have e:s=a:=bytes_inj (eq_of_beq q)
   subst e;rw[pj];go_enter Tryz.func176,Tryz.ntmps176;go_wp2_with fail
   refine o.out.mono ?_;rintro e g ⟨rfl,rfl⟩;go_wp2_with fail
   refine i.out.mono ?_;rintro e g ⟨rfl,rfl⟩;go_wp2_with fail
   go_quiet (fail)
   go_wp2_with fail
   go_ret;exact⟨rfl,_,rfl⟩
theorem BY(f c:Nat)(s d:ByteArray)(w:World)(hT:bu w)(g:aO s=true)(a:aO d=true)(i:Plain w f)(b:Plain w c)(h:w.cell? ⟨f,2,none⟩=some (.string s))(j:w.cell? ⟨c,2,none⟩=some (.string d)):
 Calls Tryz.prog 144 #[.pointer (some ⟨f,0,none⟩),.pointer (some ⟨c,0,none⟩)] w fun e k=>e= .returned (.int .i64 (Lib.compareBytes s.data.toList d.data.toList))∧∃n,k=w.drewN n:=by
 have l:=Lib.hid fun n=>BX f c s d (w.drewN n) (hT.drewN n) g a i b (by simpa using h) (by simpa using j);clear hT g a i b;go_enter Tryz.func144,Tryz.ntmps144;go_wp2_with fail
 go_quiet (first|(go_at_call 176;exact Calls.quiet_of (l.out _)))
 go_wp2_with fail
 go_ret;exact⟨rfl,_,rfl⟩
end Go.Proofs.YtkfaiocajcjomaaGreatDoor
namespace TS
open Go Go.RowKit Go.Proofs.YtkfaiocajcjomaaGreatDoor
structure WB(p:Pm)(w:World):Prop where
 kw:KW p w
 pl:∀b o v,p b o=some v→Plain w b
 cap:bu w
theorem aq.wb{p:Pm}{g:Ge}{w:World}(h:aq p g w):WB p w:=⟨h.kw,h.pl,h.cap⟩
theorem WB.own{p:Pm}{w e:World}{X:Nat→Prop}(h:WB p w)(k:Kept X w e)(f:∀b,X b→∀o,p b o=none)(i:¬X 5):WB p e where
 kw:=h.kw.kept k fun b o v a d=>by rw[f b d o]at a;cases a
 pl:=fun b o v a=>by
  obtain⟨cs,T,g⟩:=h.pl b o v a;exact⟨cs,T,by rw[k.block b (Array.getElem?_eq_some_iff.1 g).1 fun d=>by rw[f b d o]at a;cases a];exact g⟩
 cap:=fun c h1 h2=>by
  have:=h.cap c h1 h2;rw[k.cell (World.block_lt_of_cell? _ _ this) i];exact this
theorem WB.below{p:Pm}{w a:World}(h:WB p w)(k:Below w.heap.size w a):WB p a:=⟨h.kw.grown k,fun b o v c=>(h.pl b o v c).below k,h.cap.below k⟩
structure kc(p:Pm)(g:Ge) where
 m:U
 f:Nat
 fa:cP p g m f
 nb:aO m.nm=true
def gi{p:Pm}{g:Ge}(x:kc p g):Value:=ptr x.f
def lu{p:Pm}{g:Ge}(x y:kc p g):Int:=Lib.compareBytes x.m.nm.data.toList y.m.nm.data.toList
theorem tS{p:Pm}{g:Ge}:∀{M:List U}{fs:List Nat},fs.length=M.length→(∀i(h:i<M.length)(e:i<fs.length),cP p g M[i] fs[i])→(∀x∈M,aO x.nm=true)→∃L:List (kc p g),L.map (fun x=>x.m)=M∧L.map (fun x=>x.f)=fs
 | [],[],_,_,_=>⟨[],rfl,rfl⟩
 | [],_::_,h,_,_=>by simp at h
 |_::_,[],h,_,_=>by simp at h
 |m::M,f::fs,h,a,b=>by
  obtain⟨L,h1,h2⟩:=tS (M:=M) (fs:=fs) (by simpa using h) (fun i hi c=>by have:=a (i+1) (by simp;omega) (by simp;omega);simpa using this) fun x d=>b x (List.mem_cons_of_mem _ d);exact⟨⟨m,f,by have:=a 0 (by simp) (by simp);simpa using this,b m List.mem_cons_self⟩::L,by simp[h1],by simp[h2]⟩
theorem mY{p:Pm}{g:Ge}(x y:kc p g):Go.Proofs.ltOf lu x y=bp x.m y.m:=by
 unfold Go.Proofs.ltOf lu bp;rw[tR,←Lib.toList_data,←Lib.toList_data]
theorem BZ{p:Pm}{g:Ge}:Go.Sort.SWO (Go.Proofs.ltOf (lu (p:=p) (g:=g))) where
 irrefl x:=by rw[mY];exact iq _
 trans x y z h k:=by rw[mY]at*;exact gy h k
 ntrans x y z h k:=by
  rw[mY]at*;cases a:bp x.m z.m
  ·rfl
  ·cases b:bp y.m x.m
   ·have e:=fV.1 (jH h b)
    unfold bp at*;rw[e,k]at a;cases a
   ·have:=gy b a;rw[this]at k;cases k
theorem tT{α:Type} [Inhabited α]{enc:α→Value}{k n:Nat}{d:Array α}{os:Array Obj}{w:World}:Kept (fun b=>b=k) w (Go.Proofs.sortWorld enc w k 0 n d os):=by
 refine⟨rfl,rfl,rfl,?_,fun b a c=> ?_⟩
 ·unfold Go.Proofs.sortWorld
  rw[Go.Sort.size_grow];unfold Go.Sort.putRow Go.Sort.mapBlock Go.Sort.ahead;simp
 ·unfold Go.Proofs.sortWorld
  rw[Go.Sort.heap_grow_old _ _ (by unfold Go.Sort.putRow Go.Sort.mapBlock Go.Sort.ahead;simpa using a)];unfold Go.Sort.putRow Go.Sort.mapBlock Go.Sort.ahead;rw[Array.getElem?_modify,if_neg (by omega)]
theorem B3{α:Type} [Inhabited α]{enc:α→Value}{g n c:Nat}{d d':Array α}{os:Array Obj}{w:World}{B:Nat}{e:TypeId}(h:w.ownsRow B e 1 (.slice (some ⟨g,0,none⟩) d.size c) d.size (d.toList.map enc))(b:d'.size=d.size)(m:0<d.size):
 (Go.Proofs.sortWorld enc w g 0 n d' os).ownsRow B e 1 (.slice (some ⟨g,0,none⟩) d.size c) d.size (d'.toList.map enc):=by
 refine⟨by simp[b],.inr ?_⟩;rcases h.2 with⟨h1,_⟩|⟨o,cap,cur,h1,h2,h3,f,j,k,h7⟩
 ·cases h1
 ·cases h1
  have l:g<w.heap.size:=(Array.getElem?_eq_some_iff.1 h3).1;refine⟨g,c,Go.Sort.putCells enc 0 d' cur,rfl,h2,?_,f,j,?_,?_⟩
  ·unfold Go.Proofs.sortWorld
   rw[Go.Sort.heap_grow_old _ _ (by unfold Go.Sort.putRow Go.Sort.mapBlock Go.Sort.ahead;simpa using l)];unfold Go.Sort.putRow Go.Sort.mapBlock Go.Sort.ahead;rw[Array.getElem?_modify,if_pos rfl,h3];rfl
  ·simpa [Go.Sort.putCells]using k
  ·refine List.ext_getElem? fun i=> ?_
   rw[List.getElem?_take];split
   ·rename_i hi
    simp only[Go.Sort.putCells,Array.getElem?_toList,Array.getElem?_mapIdx];have a:i<cur.size:=by omega
    have hid:i<d'.size:=by omega
    simp[a,hid]
   ·rename_i hi
    rw[List.getElem?_eq_none (by simp;omega)]
end TS
namespace Go.Proofs.YtkfaiocajcjomaaGreatDoor
open Go.RowKit TS
def tU(p:Pm)(g:Ge)(B:Nat)(v:Value)(M:List U)(fs:List Nat)(w:World)(e:Ending)(b:World):Prop:=
 e= .returned (.tuple #[])∧∃a:List Nat,b.ownsRow B 99 1 v a.length (a.map pv)∧a.length=(bZ M).length∧(∀i(h:i<(bZ M).length)(c:i<a.length),cP p g (bZ M)[i] a[i])∧Kept (fun k=>v.ownBlock=some k) w b∧a.Perm fs
theorem B4(p:Pm)(g:Ge)(B:Nat)(M:List U)(fs:List Nat)(v:Value)(w:World)(hE:WB p w)(N:w.ownsRow B 99 1 v fs.length (fs.map pv))(hl:fs.length=M.length)(Z:∀i(h:i<M.length)(h':i<fs.length),cP p g M[i] fs[i])(hn:∀x∈M,aO x.nm=true)(h2:cZ M)(hd:∀b,v.ownBlock=some b→∀o,p b o=none)(hG:5<B)(hm:fs.length≤1048576):
 Calls Tryz.prog 143 #[v,.func (.func 144) #[] #[]] w (tU p g B v M fs w):=by
 have Q:(bZ M).length=M.length:=by unfold bZ;rw[List.length_mergeSort]
 rcases Nat.eq_zero_or_pos fs.length with O|O
 ·have D:fs= []:=List.length_eq_zero_iff.1 O
  obtain⟨a,c,rfl⟩:=bd N;rw[O];refine(AnyF.slices_SortFunc_none (P:=Tryz.prog) (ρ:=Tryz.rD) {Tryz.rE with} a c _ w).mono ?_;rintro e w' ⟨rfl,rfl⟩;refine⟨rfl,[],by subst D;simpa using N,by simp[Q];omega,fun i hi u=>absurd u (Nat.not_lt_zero _),Kept.refl _ _,by rw[D]⟩
 ·have hP:∀i(h:i<M.length),cP p g M[i] (fs[i]'(by omega))∧aO M[i].nm=true:=fun i h=>⟨Z i h (by omega),hn _ (List.getElem_mem h)⟩
  obtain⟨L,E,F⟩:=tS hl Z hn;have P3:L.length=M.length:=by rw[←E];simp
  have R:0<L.length:=by omega
  letI:Inhabited (kc p g):=⟨L[0]⟩
  obtain⟨r,cap,rfl,hB,S,P4,P5,z,T⟩:=jO N O;have V:=hd r rfl;have s:L.length=fs.length:=by omega
  have t:(L.toArray.toList.map gi)=fs.map pv:=by rw[←F];simp[gi,Function.comp_def]
  have hH:Sort.Holds gi w r 0 L.toArray:=fun j G=>by
   simp only[List.size_toArray]at G;rw[Nat.zero_add];refine⟨z j _ ?_,T j (by simp;omega)⟩;rw[←t];simp[G]
  have eg:∀args w,(callFunc 144 args).run Tryz.prog w= .ok (.enter 144 args) w:=dm Tryz.func144 (by kernel_rfl) rfl;have H:CmpLays1 Tryz.prog 144 #[] (gi (p:=p) (g:=g)) lu r 0 L.toArray.size w:=fun m os dk _ x y=>by
   have l:WB p (sortWorld gi w r 0 m dk os):=hE.own (tT (k:=r)) (fun b e=>by rw[e];exact V) (by omega);obtain⟨sb,⟨_,x1⟩,x2,_,_⟩:=x.fa;obtain⟨P6,⟨_,y1⟩,y2,_,_⟩:=y.fa;refine(BY x.f y.f x.m.nm y.m.nm (sortWorld gi w r 0 m dk os) l.cap x.nb y.nb (l.pl _ _ _ x1) (l.pl _ _ _ y1) (l.kw _ _ _ x2) (l.kw _ _ _ y2)).mono ?_;rintro e w' ⟨rfl,n,rfl⟩;exact⟨rfl,n,#[],by rw[Sort.grow_empty]⟩
  have hS:=Any.slices_SortFunc Tryz.rE gi (fun _=>rfl) lu BZ 144 #[] r 0 cap L.toArray w eg H hH S (by simp;omega);simp only[List.size_toArray,s]at hS;refine hS.mono ?_;rintro e w' ⟨rfl,d',n,os,hp,hs,rfl⟩;obtain⟨d,rfl⟩:∃d:List (kc p g),d'=d.toArray:=⟨d'.toList,by simp⟩
  have A:d.length=L.length:=by have:=hp.1;simpa using this
  have q:d.Perm L:=by
   have:=hp.2.2;have e:List.take fs.length d=d:=List.take_of_length_le (by omega);have e2:List.take fs.length L=L:=List.take_of_length_le (by omega);simpa [A,s,List.extract_eq_take_drop,e,e2]using this
  have I:M.Perm (d.map fun x=>x.m):=by rw[←E];exact(q.map _).symm
  have J:cZ (d.map fun x=>x.m):=I.pairwise h2 fun{a b} C=>by rw[nJ];exact C
  have K:dE (d.map fun x=>x.m):=by
   have W:(d.map fun x=>x.m).Pairwise fun a b=>bp b a=false:=by
    rw[List.pairwise_iff_getElem];intro i j hi G X;simp only[List.length_map]at hi G;have:=hs i j (Nat.zero_le _) X (by omega);rw[mY]at this;simpa [getElem!_pos,hi,G]using this
   exact(W.and J).imp fun{a b} ⟨h1,h2⟩=>by
    cases C:bp a b
    ·have:=jH C h1;rw[this]at h2;cases h2
    ·rfl
  have heq:(d.map fun x=>x.m)=bZ M:=nL h2 I K;have hK:Kept (fun b=>b=r) w (sortWorld gi w r 0 n d.toArray os):=tT;refine⟨rfl,d.map fun x=>x.f,?_,by rw[←heq];simp,fun i hi u=> ?_,hK.mono fun b _ e=>(by rw[e];rfl),by rw[←F];exact q.map _⟩
  ·have Y:w.ownsRow B 99 1 (.slice (some ⟨r,0,none⟩) L.toArray.size cap) L.toArray.size (L.toArray.toList.map gi):=by
    rw[t];simpa [s]using N
   have:=B3 (n:=n) (os:=os) (d':=d.toArray) Y (by simp[A]) (by simpa using R);have e3:(d.map fun x=>x.f).map pv=d.map gi:=by simp[gi,Function.comp_def]
   rw[e3];simpa [s,A]using this
  ·simp only[←heq,List.getElem_map]
   exact(d[i]'(by simpa using u)).fa
theorem tV(p:Pm)(g:Ge)(B:Nat)(M:List U)(fs:List Nat)(v:Value)(w:World)(f:WB p w)(d:w.ownsRow B 99 1 v fs.length (fs.map pv))(j:fs.length=M.length)(k:∀i(h:i<M.length)(l:i<fs.length),cP p g M[i] fs[i])(m:∀x∈M,aO x.nm=true)(h2:cZ M)(n:∀b,v.ownBlock=some b→∀o,p b o=none)(q:5<B)(hm:fs.length≤1048576):
 Calls Tryz.prog 109 #[v] w (tU p g B v M fs w):=by
 have r:=Lib.hid (B4 p g B M fs v w f d j k m h2 n q hm);obtain⟨a,c,rfl⟩:=bd d;clear f d j k m h2 n hm;go_enter Tryz.func109,Tryz.ntmps109;go_wp2_with fail
 refine r.out.mono ?_;rintro e s ⟨rfl,h⟩;have l:=Lib.hid h;clear h;go_wp2_with fail
 go_end0
 exact⟨rfl,l.out⟩
end Go.Proofs.YtkfaiocajcjomaaGreatDoor
