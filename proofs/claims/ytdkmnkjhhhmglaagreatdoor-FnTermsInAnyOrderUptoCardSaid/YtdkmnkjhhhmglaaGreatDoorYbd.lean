import Derived.Lib.Bytealg
import Derived.Test.YtdkmnkjhhhmglaaGreatDoorYbc
set_option maxRecDepth 100000
set_option maxHeartbeats 8000000
set_option linter.all false
namespace TS
open Go Go.RowKit Go.Proofs.YtdkmnkjhhhmglaaGreatDoor
structure lF(len:Nat)(e:U):Prop where
 pl:∃f,f≤2∧Pl len e 0 f
 fl:(bare e).k=11→∃y,(bare e).un= [y]∧y.k≠16
theorem lF.bare{len:Nat}{e:U}(h:lF len e):(∃f,f≤2∧Pl len (TS.bare e) 0 f)∧(TS.bare e).k≠2∧(TS.bare e).k≠14∧TS.bare (TS.bare e)=TS.bare e∧(TS.bare e).k≠12∧(TS.bare e).k≠13:=by
 obtain⟨f,b,a⟩:=h.pl;obtain⟨h1,h2,h3,c⟩:=a.bare b a.form.aE.1 a.form.aE.2;exact⟨⟨f,b,h1⟩,h2,h3,cu h2 h3,h1.form.aE.1,h1.form.aE.2⟩
def rk(len:Nat)(W:List (Bool×U))(d:Bool)(e:U):Prop:=
 (Tok len e∧(d=true→aB e (under e)=true)∧(d,e)∈W∧(under e).k≠2∧(under e).k≠14)∨(isIface e=true∧lF len e∧∀x∈bL (under e),x∈W)
theorem rl{len:Nat}{W:List (Bool×U)}(h:∀x∈W,Tok len x.2):RW W:=fun x a=>by
 have:=h x a;unfold cj;cases x.1
 ·simp[this.vt.refl]
 ·simp[this.vu.refl]
theorem o6{len:Nat}{W:List (Bool×U)}(h:∀x∈W,Tok len x.2){l:List Tm}(a:bz W l):∀t∈l,cJ len t:=fun t b=>by
 rcases a.any t b with rfl|⟨x,c,rfl⟩
 ·trivial
 ·exact h x c
end TS
namespace Go.Proofs.YtdkmnkjhhhmglaaGreatDoor
open Go.RowKit TS
theorem wE{p:Pm}{g:Ge}{u:U}{len:Nat}(x:Value)(w:World)(hw:KW p w)(hu:lF len u)(o:TS.Node p g u x):Calls Tryz.prog 126 #[x] w fun e q=>e= .returned (.bool false)∧w=q:=by
 obtain⟨f,s,n⟩:=hu.pl;obtain⟨b,d,i,r⟩:=o.strip n s n.form.aE.1 n.form.aE.2;obtain⟨y,z,rfl⟩:=o.val;have v:=Lib.hid (oT _ b _ p i r w hw);obtain⟨_,j,a,_,l⟩:=hu.bare;have c:=(d.tag j a).2;have m:bq (bare u).k≠203:=by
  rcases mW c.1 c.2 j l.1 l.2 a with h|h|h|h|h|h|h|h|h|h
  all_goals first|(rw[h];decide)|(rcases h with h|h|h<;>rw[h]<;>decide)
 generalize bq (bare u).k=t at*;have h1:=an qL t b m;clear d i r o hw c m n;go_enter Tryz.func126,Tryz.ntmps126;go_wp2_with fail
 refine v.out.mono ?_;rintro e q ⟨rfl,rfl⟩;go_wp2_with fail
 go_ret;exact⟨rfl,rfl⟩
theorem o7(B:Nat):KeyLaw Tryz.prog 185 (dQ B):=by
 obtain⟨e,i,j,a,hi,b,c,d⟩:=vA;exact(vg a c d).mono fun _ _=>wv
theorem rp(w:World):(zeroValue 79).run Tryz.prog w= .ok (.pointer none) w:=by kernel_rfl
structure DW(q:Pm)(g:Ge)(B tb c:Nat)(a:World)(v:Value)(rs:List Nat)(S:List Tm)(ds W:List (Bool×U)):Prop where
 id:aw q g a
 row:cD q g B a v rs S
 aJ:∀b,v.ownBlock=some b→∀o,q b o=none
 wi:bz W S
 na:none∈S→∃x∈ds,isIface x.2=true
 fd:S=ds.foldl dI []
 c0:a.cell? ⟨tb,0,none⟩=some (.bool false)
 c1:a.cell? ⟨tb,1,none⟩=some (.slice none 0 0)
 c3:a.cell? ⟨tb,3,none⟩=some (.bool false)
def wF(p:Pm)(g:Ge)(B d b:Nat)(F:Value→Option Value)(ds W:List (Bool×U))(w:World)(e:Ending)(a:World):Prop:=
 ∃q tb v rs S c,e= .returned (.pointer (some ⟨tb,0,none⟩))∧aP p q w.heap.size∧DW q g w.heap.size tb b a v rs S ds W∧a.cell? ⟨tb,2,none⟩=some v∧w.heap.size≤tb∧(∀o,q tb o=none)∧cq (dQ B) a b c∧(∀y,y≠ .pointer (some ⟨d,0,none⟩)→c y=F y)∧Kept (fun k=>k=b) w a
theorem iK:under dN=dN:=by
 have a:bare dN=dN:=cu (by decide) (by decide);rw[ik]<;>rw[a]<;>decide
structure nk(p:Pm)(g:Ge)(a:Nat)(c:World)(ds W:List (Bool×U))(wr:World)(v:Value)(q:Pm)(rs:List Nat)(R:List Tm):Prop where
 id:aw q g wr
 row:cD q g a wr v rs R
 aJ:∀b,v.ownBlock=some b→∀o,q b o=none
 gr:aP p q a
 ga:Below a c wr
 wi:bz W R
 na:none∈R→∃x∈ds,isIface x.2=true
theorem DX{X:Nat→Prop}{B:Nat}{w a c:World}(h:Below B w a)(f:B≤a.heap.size)(k:Kept X a c)(d:∀b,X b→B≤b):Below B w c:=
 h.trans ⟨k.os,k.tape,k.output,k.size,fun b g=>k.block b (by omega) fun e=>by have:=d b e;omega⟩
theorem nk.join{len:Nat}{p q:Pm}{g:Ge}{m:Nat}{t wr r:World}{ds W:List (Bool×U)}{v:Value}{rs:List Nat}{R:List Tm}(h:nk p g m t ds W wr v q rs R)(s:Below wr.heap.size wr r)(D:m≤t.heap.size)(E:5<m)(u:∀x∈W,Tok len x.2)(j:W.length≤50)
 (a:Option Addr)(n c:Nat)(f:Nat→Nat)(k:List Tm)(F:n=k.length)(ha:a=none→c=0)(G:∀x,a=some x→x.spot=none)(H:bw r a n f)(I:∀i(h:i<k.length),aY q g k[i] (f i))(l:bz W k)(w:none∈k→∃x∈ds,isIface x.2=true):
 Calls Tryz.prog 148 #[v,.slice a n c] r fun e A=> ∃a' c' y d B,e= .returned (.slice a' d.length c')∧nk p g m t ds W A (.slice a' d.length c') y d B∧d.length≤50∧B=gD R k:=by
 have N:rs.length≤50:=by rw[h.row.len];exact h.wi.len j (by decide)
 have O:=l.len j (by decide);have h1:=s.size;have h2:=h.ga.size;refine(DK len q g m v rs R a n c f k r (h.id.below s) (h.row.below s) h.aJ (by omega) E F (by omega) (by omega) ha G H I (o6 u h.wi) (o6 u l)).mono ?_;rintro e A ⟨y,P,d,rfl,z,J,hT,K,L⟩;obtain⟨a',c',rfl⟩:=bn hT.own;have o:=bz.join (rl u) h.wi l;exact⟨a',c',y,d,_,rfl,⟨J,⟨kh hT.own (by omega),hT.len,hT.cM⟩,L,h.gr.trans z (Nat.le_refl _),DX (h.ga.trans (s.mono (by omega))) (by omega) K fun b M=>(h.row.own.lt b M).1,o,fun hm=>Classical.byContradiction fun C=>DT (fun h1=>C (h.na h1)) (fun h1=>C (w h1)) hm⟩,by rw[hT.len];exact o.len j (by decide),rfl⟩
theorem DY(len:Nat)(p:Pm)(g:Ge)(B r s n c:Nat)(q0:Option Addr)(pos:Int)(a:Option Addr)(f:Nat→Nat)(ds:List (Bool×U))(F:Value→Option Value)(W:List (Bool×U))(w:World)(S:aw p g w)(hM:cq (dQ B) w s F)(hF:F (.pointer (some ⟨r,0,none⟩))=none)
 (P5:r<B)(Q8:B≤s)(Q9:5<B)(P:p r 0=some (.slice a n c))(hn:n=ds.length)(Q_:n≤1048576)(hr:b9 p a n fun i=>ptr (f i))(Qb:∀o,p s o=none)
 (ht:∀i(h:i<ds.length),aY p g (some ds[i]) (f i))(hu:∀i(h:i<ds.length),rk len W ds[i].1 ds[i].2)(hW:∀x∈W,Tok len x.2)(QF:W.length≤50):
 Calls Tryz.prog 100 #[.pointer q0,.map (some s),.int .i64 pos,.pointer (some ⟨r,0,none⟩)] w (wF p g B r s F ds W w):=by
 have Qc:=Lib.hid S;have Qd:=Lib.hid hM;have Qe:=Lib.hid hF;have C:Hid (dQ B w (.pointer (some ⟨r,0,none⟩))):=⟨r,rfl,P5,S.pl _ _ _ P⟩
 have u:Hid (dQ B (w.alloc (.cells #[.bool false,.slice none 0 0,.slice none 0 0,.bool false] 133)) (.pointer (some ⟨r,0,none⟩))):=⟨r,rfl,P5,(S.pl _ _ _ P).below ((Below.refl _ _).alloc (Nat.le_refl _) _)⟩
 have Qf:Hid (cq (dQ B) (w.alloc (.cells #[.bool false,.slice none 0 0,.slice none 0 0,.bool false] 133)) s F):=hM.kH (X:=fun _=>False) ((Kept.refl _ _).alloc _) id fun _ _=>id;have QG:=hM.lt;have h0:=S.kw _ _ _ P;have QH:=Lib.hid hr;have QI:=Lib.hid ht;have QJ:=Lib.hid hu;have Qg:=Lib.hid hn;have Q6:=Lib.hid Qb;have Qh:=Lib.hid P;have Qi:Hid (¬Plain w s):=fun⟨cs,T,h⟩=>by obtain⟨es,cl,hb,_⟩:=hM;rw[hb]at h;cases h
 have QK:Hid (∀A,(w.alloc (.cells #[.bool false,.slice none 0 0,.slice none 0 0,.bool false] 133)).grownBy A (some s)→A.cell? ⟨r,0,none⟩=some (.slice a n c)):=fun A L=>by
  have PS:Kept (fun k=>k=s) w A:=((Kept.refl _ _).alloc _).grown L fun k hk _=>by cases hk;rfl
  exact(S.kept PS (fun b e=>by subst e;exact Qi.out) (by omega)).kw _ _ _ P
 clear S hM hF hr ht hu hn Qb P;go_enter Tryz.func100,Tryz.ntmps100;go_wp2_with (first|(at_lookup;refine DO _ rfl _ _ 187 rfl (o7 B) 79 Tryz.underlying187 (.pointer none) rp s F rfl Qd.out (.pointer (some ⟨r,0,none⟩)) rfl C.out (.pointer none) false (by rw[Qe.out];rfl) (by rw[Qe.out];rfl) ?_)|(at_mapUpdate;refine eF _ rfl _ _ _ 187 rfl (o7 B) (wC B) 79 Tryz.underlying187 s F rfl Qf.out (.pointer (some ⟨r,0,none⟩)) (.pointer (some ⟨w.heap.size,0,none⟩)) rfl rfl u.out ?_;intro A Qj L;have c0:=QK.out A L)|fail)
 have PS:Hid (Kept (fun k=>k=s) w A):=((Kept.refl _ _).alloc _).grown L fun k hk _=>by cases hk;rfl
 have QL:Hid (aw p g A):=Qc.out.kept PS.out (fun b e=>by subst e;exact Qi.out) (by omega);have QM:Hid (cq (dQ B) A s (bF F (.pointer (some ⟨r,0,none⟩)) (.pointer (some ⟨w.heap.size,0,none⟩)))):=Qj _ (fun y hy=>ba F hy) (bX _ _ _);have Qk:A.heap[w.heap.size]?=some (.cells #[.bool false,.slice none 0 0,.slice none 0 0,.bool false] 133 (0,0)):=by
  rw[L.block w.heap.size (by simp) fun e=>by have:=Option.some.inj e;omega];exact(MapKept.heap_alloc w _).1
 have PX:w.heap.size<A.heap.size:=by have:=L.size;simp at this;omega
 have Ql:=Lib.hid Qk;have QN:=Lib.hid Qc.out;clear Qj L Qf Qd C u Qk h0;go_wp2_with fail
 go_loopw [35,11] (fun vk vv wr=> ∃(k:Nat)(q:Pm)(rs:List Nat)(R:List Tm),k≤n∧vk= .int .i64 k∧nk p g A.heap.size A ds W wr vv q rs R∧R=(ds.take k).foldl dI []) (fun vk _ _=>n- (intOf vk).toNat)
 case atStart=>exact⟨0,p,[],[],Nat.zero_le _,rfl,⟨QL.out,⟨World.ownsRow_nil _ _ _ _,rfl,fun i h=>absurd h (Nat.not_lt_zero _)⟩,(fun b hb=>by cases hb),aP.refl _ _,Below.refl _ _,wk W,fun h=>(by cases h)⟩,rfl⟩
 case round=>
  obtain⟨k,q,rs,R,hk,rfl,j,Qm⟩:=hrel;have PY:=Lib.hid Qm;clear Qm;have Qn:=Lib.hid j;obtain⟨va,vc,rfl⟩:=bn j.row.own;by_cases QO:k<n
  ·have Q7:(k:Int)<n:=by omega
   obtain⟨ab,ao,rfl,Qo⟩:=(QH.out.sub j.gr.le) k QO;have c1:=j.id.kw _ _ _ Qo;have PT:k<ds.length:=by have:=Qg.out;omega
   have Qp:=(QI.out k PT).sub j.gr.le (aH.refl g);have QP:=QJ.out k PT;have V:Hid (aY q g (some ds[k]) (f k)):=Qp;have Qq:Hid (ds[k]∈ds):=List.getElem_mem PT;have P6:Hid ((ds.take (k+1)).foldl dI []=dI R ds[k]):=by rw[PY.out];exact oA dI [] PT
   generalize ds[k]=de at*;obtain⟨d,e⟩:=de;obtain⟨Qr,x,Qs,D⟩:=Qp;have c2:=j.id.kw _ _ _ Qr;have c3:=j.id.kw _ _ _ Qs;have v:=Lib.hid j.id.kw
   have z:Hid (∀(wx:World)(a':Option Addr)(n' c':Nat)(f':Nat→Nat)(ys:List Tm),Below wr.heap.size wr wx→n'=ys.length→(a'=none→c'=0)→(∀x,a'=some x→x.spot=none)→bw wx a' n' f'→(∀i(h:i<ys.length),aY q g ys[i] (f' i))→bz W ys→(none∈ys→∃x∈ds,isIface x.2=true)→
    Calls Tryz.prog 148 #[.slice va rs.length vc,.slice a' n' c'] wx fun e w'=> ∃Qt Qu q' PU R',e= .returned (.slice Qt PU.length Qu)∧nk p g A.heap.size A ds W w' (.slice Qt PU.length Qu) q' PU R'∧PU.length≤50∧R'=gD R ys):=fun wx a' n' c' f' ys hx h1 h2 h3 h4 h5 h6 h7=>
    j.join hx (Nat.le_refl _) (by omega) hW QF a' n' c' f' ys h1 h2 h3 h4 h5 h6 h7
   have S:=Lib.hid j.id;clear j Qn Qo Qr Qs QG;rcases QP with⟨hT,Qv,hm,PV,N⟩|⟨hi,hP,P7⟩
   ·
    have Q:=hT.ni;unfold isIface at Q;simp only[Bool.or_eq_false_iff,beq_eq_false_iff_ne,ne_eq]at Q;simp only at hT Qv hm PV N D Q;obtain⟨aa,PW,O,_⟩:=hT.vt.bare;have Z:bare (bare e)=bare e:=cu PW O;have PM:=hT.vu.aE;obtain⟨xt,xb,rt,rb,rfl,PN,hr⟩:=kD D Z hT.fl aa.aE.1 aa.aE.2;obtain⟨QQ,PO⟩:(under e).k≠16∧TS.Node q g (under e) (ae rt rb):=hr.resolve_right fun h=>Q.2 h.1;have PZ:=jH PO PV N;have Qw:rt≠44:=by
     rw[PZ];have Ra:=(PO.tag PV N).2;intro e1;have:44=bq 10:=rfl;rw[this]at e1;exact Q.1 (eO e1.symm (by decide) (by omega)).symm
    have Qx:=Lib.hid (wD rt rb wr S.out.kw hT.vu PO PV N);have QR:=Lib.hid (mY len q g e (under e) _ _ wr S.out hT.vt hT.vu D PO);obtain⟨K,fn,QS,P8,M,P9,QT,QU,m⟩:=eG PN v.out;have QV:=fun args w=>Go.MuLone.run_callFunc_enter P8 M P9 args w;have l:=Lib.hid m;have np:=an dZ rt rb Qw;have Qy:=Lib.hid (wm hm);have hj:Hid (dI R (d,e)=gD R [some (d,e)]):=Lib.hid (by unfold dI;rw[if_neg (by rw[hT.ni];decide)]);clear m Qw PZ PO hr PN D Q aa PW O Z hT hm QQ PM;cases d with
    |false=>
     go_wp2_with fail
     refine(l.out _ v.out).mono ?_;rintro _ _ ⟨rfl,rfl⟩;go_wp2_with fail
     refine Qx.out.mono ?_;rintro _ _ ⟨rfl,rfl⟩;go_wp2_with fail
     refine(z.out (World.alloc wr (.cells #[.pointer (some ⟨f k,0,none⟩)] 218)) (some ⟨World.heap wr|>.size,0,none⟩) 1 1 (fun _=>f k) [some (false,e)] ((Below.refl _ _).alloc (Nat.le_refl _) _) rfl (fun h=>by cases h) (fun x h=>by cases h;rfl) (fun i hi=>⟨_,0,rfl,by obtain rfl:i=0:=(by omega);simpa using TS.eD wr _ _ 0 _ rfl⟩) (fun i hi=>by obtain rfl:i=0:=(by simp at hi;omega);exact V.out) Qy.out (by simp)).mono ?_;rintro _ w3 ⟨a3,c3,q3,E,R3,rfl,G,PQ,H⟩;have I:=Lib.hid G;have J:=Lib.hid H;clear H;have P0:¬(E.length:Int) >100:=by omega
     clear G PQ;go_wp2_with fail
     refine⟨⟨k+1,q3,E,R3,by omega,by go_num,I.out,by rw[J.out,P6.out,hj.out]⟩,?_⟩;first|omega|(simp[intOf];omega)
    |true=>
     have QW:=Lib.hid (Qv rfl);go_wp2_with fail
     refine(l.out _ v.out).mono ?_;rintro _ _ ⟨rfl,rfl⟩;go_wp2_with fail
     refine Qx.out.mono ?_;rintro _ _ ⟨rfl,rfl⟩;go_wp2_with fail
     refine QR.out.mono ?_;rintro _ w2 ⟨rfl,hG⟩;rw[QW.out];have Qz:=Lib.hid hG.below;clear hG;go_wp2_with fail
     refine(z.out (World.alloc w2 (.cells #[.pointer (some ⟨f k,0,none⟩)] 218)) (some ⟨World.heap w2|>.size,0,none⟩) 1 1 (fun _=>f k) [some (true,e)] ((Qz.out).alloc Qz.out.size _) rfl (fun h=>by cases h) (fun x h=>by cases h;rfl) (fun i hi=>⟨_,0,rfl,by obtain rfl:i=0:=(by omega);simpa using TS.eD w2 _ _ 0 _ rfl⟩) (fun i hi=>by obtain rfl:i=0:=(by simp at hi;omega);exact V.out) Qy.out (by simp)).mono ?_;rintro _ w3 ⟨a3,c3,q3,E,R3,rfl,G,PQ,H⟩;have I:=Lib.hid G;have J:=Lib.hid H;clear H;have P0:¬(E.length:Int) >100:=by omega
     clear G PQ;go_wp2_with fail
     refine⟨⟨k+1,q3,E,R3,by omega,by go_num,I.out,by rw[J.out,P6.out,hj.out]⟩,?_⟩;first|omega|(simp[intOf];omega)
   ·
    simp only at hi hP P7 D;obtain⟨_,PW,O,Z,PM⟩:=hP.bare;obtain⟨xt,xb,rt,rb,rfl,PN,hr⟩:=kD D Z hP.fl PM.1 PM.2;have QX:rt=44∧∃u',q rb 0=some (.pointer none)∧cY q g rb u'∧(∀x∈bL u',x∈W)∧bQ u'=bQ e:=by
     rcases hr with⟨P_,hn⟩|⟨P_,e1,hG⟩
     ·have QA:(under e).k=10:=by
       unfold isIface at hi;simp only[Bool.or_eq_true,beq_iff_eq]at hi;exact hi.resolve_right P_
      obtain⟨b,e1,hG⟩:=hn.gT QA;cases e1;have:=S.out.done _ _ hG;exact⟨rfl,_,this.1,this.2,P7,uF QA⟩
     ·have:=S.out.done _ _ hG
      exact⟨e1,_,this.1,this.2,fun x hx=>(by rw[lq (by rw[iK];decide)]at hx;cases hx),by rw[mJ (by rw[iK];decide),mJ (by omega),iK,P_];rfl⟩
    obtain⟨rfl,u',c4,QY,P1,P2⟩:=QX;obtain⟨tb,ma,mc,f',ta,tc,ts,cmp,t1,t2,t3,t4,t5,t6,t7,t8,t9,t10,⟨f2,t11,P3⟩,t12,t13,t14,t15⟩:=QY;have QZ:=Lib.hid (wE _ wr v.out hP D);have d1:=v.out _ _ _ t1;have d2:=v.out _ _ _ t8;have Q3:=Lib.hid (qU rb tb q0 pos wr d1);have hj:Hid (dI R (d,e)=gD R ts):=Lib.hid (by unfold dI;rw[if_pos hi,←P2,t13.eq]);have QB:bz W ts:=t13.dm.imp id fun⟨x1,x2,x3⟩=>⟨x1,x2,fun t ht=>let⟨x,hx,e⟩:=x3 t ht;⟨x,P1 x hx,e⟩⟩
    have hJ:=Lib.hid (z.out wr ta ts.length tc f2 ts (Below.refl _ _) rfl t14 t15 (fun i hi=>let⟨b,o,e,hc⟩:=t11 i hi;⟨b,o,e,v.out _ _ _ hc⟩) P3 QB fun _=>⟨(d,e),Qq.out,hi⟩);obtain⟨K,fn,QS,P8,M,P9,QT,QU,m⟩:=eG PN v.out;have QV:=fun args w=>Go.MuLone.run_callFunc_enter P8 M P9 args w;have l:=Lib.hid m;have np:=bd dZ rb;clear m hr PN D hP hi P7 P1 P2 t1 t2 t3 t4 t5 t6 t7 t8 t9 t10 t11 P3 t12 t13 t14 t15 QB z PW O Z PM d1;go_wp2_with fail
    refine(l.out _ v.out).mono ?_;rintro _ _ ⟨rfl,rfl⟩;go_wp2_with fail
    refine QZ.out.mono ?_;rintro _ _ ⟨rfl,rfl⟩;go_wp2_with fail
    refine(iI _).mono ?_;rintro _ _ ⟨rfl,rfl⟩;go_wp2_with fail
    refine Q3.out.mono ?_;rintro _ _ ⟨rfl,rfl⟩;go_wp2_with fail
    refine hJ.out.mono ?_;rintro _ w3 ⟨a3,c3,q3,E,R3,rfl,G,PQ,H⟩;have I:=Lib.hid G;have J:=Lib.hid H;clear H;have P0:¬(E.length:Int) >100:=by omega
    clear G PQ;go_wp2_with fail
    refine⟨⟨k+1,q3,E,R3,by omega,by go_num,I.out,by rw[J.out,P6.out,hj.out]⟩,?_⟩;first|omega|(simp[intOf];omega)
  ·have Rb:¬(k:Int)<n:=by omega
   have Q4:=Lib.hid j.id;have QC:Hid (cq (dQ B) wr s (bF F (.pointer (some ⟨r,0,none⟩)) (.pointer (some ⟨w.heap.size,0,none⟩)))):=QM.out.kH (X:=fun b=>A.heap.size≤b) ⟨j.ga.os,j.ga.tape,j.ga.output,j.ga.size,fun b _ hb=>j.ga.block b (by omega)⟩ (by omega) fun c hc=>by omega
   have PR:wr.heap[w.heap.size]?=some (.cells #[.bool false,.slice none 0 0,.slice none 0 0,.bool false] 133 (0,0)):=(j.ga.block _ PX).trans Ql.out;have c4:wr.cell? ⟨w.heap.size,2,none⟩=some (.slice none 0 0):=by simp[World.cell?,PR]
   have c5:wr.frozen? ⟨w.heap.size,2,none⟩=false:=by simp[World.frozen?,PR]
   have C:Hid (dQ B wr (.pointer (some ⟨r,0,none⟩))):=⟨r,rfl,P5,j.id.pl _ _ _ (j.gr.le _ _ _ Qh.out)⟩
   have u:Hid (dQ B (wr.setCell ⟨w.heap.size,2,none⟩ (.slice va rs.length vc)) (.pointer (some ⟨r,0,none⟩))):=by
    obtain⟨b,e,hl,cs,T,hc⟩:=C.out;exact⟨b,e,hl,cs,T,by rw[Below.heap_setCell _ _ _ _ (by simp only;omega)];exact hc⟩
   have P4:Hid (cq (dQ B) (wr.setCell ⟨w.heap.size,2,none⟩ (.slice va rs.length vc)) s (bF F (.pointer (some ⟨r,0,none⟩)) (.pointer (some ⟨w.heap.size,0,none⟩)))):=
    QC.out.kH (X:=fun b=>b=w.heap.size) ((Kept.refl (fun b=>b=w.heap.size) wr).setCell (a:=⟨w.heap.size,2,none⟩) (fun _=>rfl) _) (by omega) fun c hc=>by omega
   clear Q4;clear j;have QD:Hid (wF p g B r s F ds W w (.returned (.pointer (some ⟨w.heap.size,0,none⟩))) (wr.setCell ⟨w.heap.size,2,none⟩ (.slice va rs.length vc))):=by
    have j:=Qn.out;have V:∀o,q w.heap.size o=none:=j.gr.aJ PX fun o=>QN.out.kw.aJ (Nat.le_refl _) o;have QE:Kept (fun b=>b=w.heap.size) wr (wr.setCell ⟨w.heap.size,2,none⟩ (.slice va rs.length vc)):=(Kept.refl (fun b=>b=w.heap.size) wr).setCell (a:=⟨w.heap.size,2,none⟩) (fun _=>rfl) _;have Q5:∀b,(Value.slice va rs.length vc).ownBlock=some b→A.heap.size≤b:=fun b hb=>(j.row.own.lt b hb).1;have Qa:∀o,o≠2→(wr.setCell ⟨w.heap.size,2,none⟩ (.slice va rs.length vc)).cell? ⟨w.heap.size,o,none⟩=wr.cell? ⟨w.heap.size,o,none⟩:=fun o ho=>World.cell?_setCell_other _ _ _ _ (by simp[Ne.symm ho]);refine⟨q,w.heap.size,_,rs,R,_,rfl,j.gr.mono (by omega),⟨?_,?_,j.aJ,j.wi,j.na,by rw[PY.out,List.take_of_length_le (by have:=Qg.out;omega)],?_,?_,?_⟩,?_,Nat.le_refl _,V,P4.out,fun y hy=>ba F hy,?_⟩
    ·exact j.id.own QE (fun b e=>by subst e;exact V) (by omega)
    ·exact⟨kh (eC j.row.own QE fun b hb e=>by have:=Q5 b hb;omega) (by omega),j.row.len,j.row.cM⟩
    ·rw[Qa 0 (by decide)];simp[World.cell?,PR]
    ·rw[Qa 1 (by decide)];simp[World.cell?,PR]
    ·rw[Qa 3 (by decide)];simp[World.cell?,PR]
    ·exact World.cell?_setCell_same _ _ _ c4
    ·have:Kept (fun k=>k=s) w wr:=PS.out.trans (Y:=fun b=>A.heap.size≤b) ⟨j.ga.os,j.ga.tape,j.ga.output,j.ga.size,fun b _ hb=>j.ga.block b (by omega)⟩ fun b hb e=>by omega
     exact this.setCell (fun h=>absurd h (by simp)) _
   go_wp2_with (first|(at_lookup;refine eE _ rfl _ _ 187 rfl (o7 B) 79 Tryz.underlying187 (.pointer none) rp s _ rfl QC.out (.pointer (some ⟨r,0,none⟩)) rfl C.out (.pointer (some ⟨w.heap.size,0,none⟩)) (by rw[bX];rfl) ?_)|(at_lookup;refine eE _ rfl _ _ 187 rfl (o7 B) 79 Tryz.underlying187 (.pointer none) rp s _ rfl P4.out (.pointer (some ⟨r,0,none⟩)) rfl u.out (.pointer (some ⟨w.heap.size,0,none⟩)) (by rw[bX];rfl) ?_)|fail)
   go_ret;exact QD.out
end Go.Proofs.YtdkmnkjhhhmglaaGreatDoor
namespace TS
open Go Go.RowKit Go.Proofs.YtdkmnkjhhhmglaaGreatDoor
structure o8(B e a c pm d:Nat):Prop where
 b:B≤a
 sa:a<c
 ap:c<pm
 pm:pm<d
 m2:d<e
def Cx(a c pm:Nat)(m:Option Nat)(v:Value)(b:Nat):Prop:=b=a∨b=c∨b=pm∨m=some b∨v.ownBlock=some b
structure ei(p:Pm)(g:Ge)(B c:Nat)(d a pm e:Nat)(w:World)(m:Option Nat)(v:Value)(M:List U)(fs:List Nat):Prop where
 os:∃F,gH w d m F∧(∀s:ByteArray,F (.string s)=none↔∀x∈M,x.nm≠s)∧∀k x,F k=some x→∃t y,x= .iface t y
 mB:∀b,m=some b→c≤b∧b<w.heap.size
 ac:w.cell? ⟨a,0,none⟩=some v
 af:w.frozen? ⟨a,0,none⟩=false
 row:w.ownsRow c 107 1 v fs.length (fs.map pv)
 mp:w.cell? ⟨e,0,none⟩=some (.map (some pm))
 mf:∃F,cq (dQ B) w pm F
 len:fs.length=M.length
 cM:∀i(h:i<M.length)(f:i<fs.length),dn p g M[i] fs[i]
 dk:∀b,Cx d a pm m v b→∀o,p b o=none
theorem bytes_inj{a b:ByteArray}(h:a.toList=b.toList):a=b:=by
 rw[Lib.toList_data,Lib.toList_data]at h;exact ByteArray.ext (Array.ext' h)
theorem ei.lt{p:Pm}{g:Ge}{B d a c pm f:Nat}{w:World}{m:Option Nat}{v:Value}{M:List U}{fs:List Nat}(h:ei p g B d a c pm f w m v M fs)(b:Nat)(i:Cx a c pm m v b):b<w.heap.size:=by
 rcases i with rfl|rfl|rfl|e|e
 ·obtain⟨F,hO,_⟩:=h.os
  exact World.block_lt_of_cell? _ _ hO.1
 ·exact World.block_lt_of_cell? _ _ h.ac
 ·obtain⟨F,hF⟩:=h.mf;exact hF.lt
 ·exact(h.mB _ e).2
 ·exact(h.row.lt _ e).2
theorem ei.of{p q:Pm}{g A:Ge}{B C r j pm f:Nat}{w s:World}{m:Option Nat}{v:Value}{M:List U}{fs:List Nat}(h:ei p g B C r j pm f w m v M fs){Y:Nat→Prop}(k:Kept Y w s)(l:∀b,Y b→¬Cx r j pm m v b∧b≠f∧B≤b)(D:aP p q w.heap.size)(u:aH g A):
 ei q A B C r j pm f s m v M fs:=by
 have t:∀b,Cx r j pm m v b→s.heap[b]?=w.heap[b]?:=fun b n=>k.block b (h.lt b n) fun d=>(l b d).1 n;have x:s.heap[f]?=w.heap[f]?:=k.block f (World.block_lt_of_cell? _ _ h.mp) fun d=>(l f d).2.1 rfl;refine⟨?_,fun b e=>⟨(h.mB b e).1,Nat.lt_of_lt_of_le (h.mB b e).2 k.size⟩,?_,?_,?_,?_,?_,h.len,fun i hi y=>(h.cM i hi y).sub D.le u,fun b n o=>D.aJ (h.lt b n) (h.dk b n) o⟩
 ·obtain⟨F,hO,hF,z⟩:=h.os
  exact⟨F,hO.of (t _ (.inl rfl)) fun b e=>t _ (.inr (.inr (.inr (.inl e)))),hF,z⟩
 ·exact(World.cell?_of_block (w:=w) (a:=⟨j,0,none⟩) (t _ (.inr (.inl rfl)))).trans h.ac
 ·exact(World.frozen?_of_block (w:=w) (a:=⟨j,0,none⟩) (t _ (.inr (.inl rfl)))).trans h.af
 ·exact eC h.row k fun b e d=>(l b d).1 (.inr (.inr (.inr (.inr e))))
 ·exact(World.cell?_of_block (w:=w) (a:=⟨f,0,none⟩) x).trans h.mp
 ·obtain⟨F,hF⟩:=h.mf
  exact⟨F,hF.kH k (fun d=>(l pm d).1 (.inr (.inr (.inl rfl)))) fun c E d=>by have:=(l c d).2.2;omega⟩
end TS
namespace Go.Proofs.YtdkmnkjhhhmglaaGreatDoor
open Go.RowKit TS Go.ChangeMaps
theorem DZ(B:Nat):KeyLaw Tryz.prog 107 (dQ B):=by
 obtain⟨e,i,j,a,hi,b,c,d⟩:=eW (t:=107) Tryz.underlying107 (by kernel_rfl) (by kernel_rfl);exact(vg a c d).mono fun _ _=>wv
theorem D0(t:TypeId)(v:Value)(w:World):(binOp .eql 213 (.iface t v) .nilIface).run Tryz.prog w= .ok (.bool false) w:=by kernel_rfl
theorem D1(w:World):(binOp .eql 213 .nilIface .nilIface).run Tryz.prog w= .ok (.bool true) w:=by kernel_rfl
theorem D2(p:Pm)(g:Ge)(B r h i pm j f:Nat)(m:Option Nat)(v:Value)(M:List U)(fs:List Nat)(x:U)(pos:Int)(ex:Bool)(w:World)(d:aw p g w)(l:ei p g B r h i pm j w m v M fs)(s:dn p g x f)(o:aM x.nm=true)(hM:M.any (fun y=>cL y x)=true):
 Calls Tryz.prog 123 #[.int .i64 pos,.pointer (some ⟨f,0,none⟩),.bool ex,.pointer (some ⟨h,0,none⟩),.pointer (some ⟨i,0,none⟩),.pointer (some ⟨j,0,none⟩)] w fun e q=>
  e= .returned (.tuple #[])∧∃n,q=w.drewN n:=by
 obtain⟨F,hO,hF,a⟩:=l.os;obtain⟨D,⟨E,f1⟩,f2,f3,f4⟩:=s;have b:F (.string x.nm)≠none:=fun e=>by
  obtain⟨y,u,A⟩:=List.any_eq_true.1 hM;exact(hF x.nm).1 e y u (bytes_inj (fE.1 A))
 obtain⟨z,c⟩:=Option.ne_none_iff_exists'.1 b;obtain⟨t,y,rfl⟩:=a _ _ c;have hm:∃k,m=some k:=by
  cases m with
  |none=>have:=hO.2.2.1 rfl;rw[this]at c;cases c
  |some k=>exact⟨k,rfl⟩
 obtain⟨k,rfl⟩:=hm;have C:=Lib.hid (Cj 107 vp h k f _ x.nm o F t y w d.cap hO (d.kw _ _ _ f1) (d.kw _ _ _ f2) c);have G:=D0 t y;clear hO d l hF a f1 f2 f3 f4 o hM b c;cases ex
 all_goals
  go_enter Tryz.func123,Tryz.ntmps123;go_wp2_with fail
  refine C.out.mono ?_;rintro e q ⟨rfl,n,rfl⟩;go_wp2_with fail
  go_end0
  exact⟨rfl,_,rfl⟩
theorem D3(T:TypeId)(n:lz T)(d f:Nat)(m:Option Nat)(q:Option Addr)(s:ByteArray)(o:aM s=true)(F:Value→Option Value)(w:World)(hT:br w)(hO:gH w d m F)(j:∀b,m=some b→b≠d)
 (h1:w.cell? ⟨f,1,none⟩=some (.pointer q))(h2:w.cell? ⟨f,2,none⟩=some (.string s))(hF:F (.string s)=none):
 Calls Tryz.prog 124 #[.pointer (some ⟨d,0,none⟩),.iface T (.pointer (some ⟨f,0,none⟩))] w fun e g=>e= .returned .nilIface∧
  ∃i,gH g d i (bF F (.string s) (.iface T (.pointer (some ⟨f,0,none⟩))))∧(i=m∨∃b,i=some b∧w.heap.size≤b)∧(∀b,i=some b→b<g.heap.size)∧Kept (fun k=>k=d∨m=some k) w g:=by
 cases m with
 |none=>
  refine(vs T n d f q s o F w hT hO h1 h2).mono ?_;rintro e g ⟨rfl,b,a,p,l⟩;exact⟨rfl,some b,a,.inr ⟨b,rfl,p⟩,fun c e=>by cases e;exact(a.2.2.2 _ rfl).lt,l.mono fun k _ h=> .inl h⟩
 |some b=>
  refine(vq T n d b f q s o F w hT hO (j b rfl) h1 h2 hF).mono ?_;rintro e g ⟨rfl,a,l⟩;exact⟨rfl,some b,a,.inl rfl,fun c e=>by cases e;exact(a.2.2.2 _ rfl).lt,l.mono fun k _ h=> .inr (by rw[h])⟩
def D4(p:Pm)(g:Ge)(B d b c pm h:Nat)(m:Option Nat)(v:Value)(M:List U)(fs:List Nat)(f:Nat)(x:U)(w:World)(e:Ending)(a:World):Prop:=
 e= .returned (.tuple #[])∧∃i j,ei p g B d b c pm h a i j (M++ [x]) (fs++ [f])∧aw p g a∧Kept (Cx b c pm m v) w a
theorem D5(p:Pm)(g:Ge)(B O G j pm n f:Nat)(m:Option Nat)(v:Value)(M:List U)(fs:List Nat)(x:U)(pos:Int)(ex:Bool)(w:World)(hG:o8 B O G j pm n)(Qm:O≤w.heap.size)(Qn:5<B)(hE:aw p g w)(hC:ei p g B O G j pm n w m v M fs)(hf:dn p g x f)(P6:f<B)(hn:aM x.nm=true)(hM:M.any (fun y=>cL y x)=false)(hl:fs.length≤1048576):
 Calls Tryz.prog 123 #[.int .i64 pos,.pointer (some ⟨f,0,none⟩),.bool ex,.pointer (some ⟨G,0,none⟩),.pointer (some ⟨j,0,none⟩),.pointer (some ⟨n,0,none⟩)] w (D4 p g B O G j pm n m v M fs f x w):=by
 obtain⟨F,hO,hF,PQ⟩:=hC.os;obtain⟨g1,g2,g3,g4,g5⟩:=hG;have P7:=Lib.hid hf;obtain⟨fb,⟨fq,f1⟩,f2,f3,f4⟩:=hf;have PR:F (.string x.nm)=none:=(hF x.nm).2 fun y H e=>by
  rw[List.any_eq_false]at hM;exact hM y H (fE.2 (by rw[e]))
 have hI:=Lib.hid (D3 107 vp G f m _ x.nm hn F w hE.cap hO (fun b e=>by have:=(hC.mB b e).1;omega) (hE.kw _ _ _ f1) (hE.kw _ _ _ f2) PR);obtain⟨Fm,N⟩:=hC.mf;have d:=Lib.hid hC;have Y:=Lib.hid hE;have P8:=Lib.hid hF;have PS:=Lib.hid PQ;have P9:Hid (Plain w f):=hE.pl _ _ _ f1;obtain⟨i1,hj,P_,Qa,Qb⟩:=info_parts u_;obtain⟨A,C,rfl⟩:=bn hC.row;clear hO hE hC hF PQ f1 f2 f3 f4 hn hM PR N;have hq:=D1;go_enter Tryz.func123,Tryz.ntmps123;go_wp2_with fail
 refine hI.out.mono ?_;rintro e r ⟨rfl,m',PT,PU,P,D⟩;have I:∀k,(k=G∨m=some k)→B≤k∧k≠j∧k≠pm∧k≠n∧(Value.slice A fs.length C).ownBlock≠some k:=fun k hk=>by
  rcases hk with rfl|e
  ·exact⟨g1,by omega,by omega,by omega,fun e=>by have:=(d.out.row.lt _ e).1;omega⟩
  ·have h1:=(d.out.mB _ e).1
   refine⟨by omega,by omega,by omega,by omega,fun e2=> ?_⟩;obtain⟨F0,Qc,_⟩:=d.out.os;obtain⟨es,cl,L,_⟩:=Qc.2.2.2 _ e;rcases d.out.row.2 with⟨e3,_⟩|⟨gb,cap,cur,e3,_,PV,_⟩
   ·rw[e3]at e2;cases e2
   ·rw[e3]at e2;cases e2;rw[L]at PV;cases PV
 have Z:=Lib.hid (eC d.out.row D fun b e hx=>(I b hx).2.2.2.2 e);have c1:r.cell? ⟨j,0,none⟩=some (.slice A fs.length C):=by rw[D.cell (World.block_lt_of_cell? _ _ d.out.ac) fun h=>(I j h).2.1 rfl];exact d.out.ac
 have c2:r.frozen? ⟨j,0,none⟩=false:=by rw[D.frozen (World.block_lt_of_cell? _ _ d.out.ac) fun h=>(I j h).2.1 rfl];exact d.out.af
 have Qd:=D.size;have PM:=Lib.hid (Z.out.alloc (.cells #[.pointer (some ⟨f,0,none⟩)] 107));have Q:=Lib.hid PT;have PW:=Lib.hid PU;have PN:=Lib.hid P;have J:=Lib.hid D;have q:=Lib.hid I;clear PT PU D I hI P;go_wp2_with (first|(at_builtin;refine wpList_append_own_at _ rfl _ _ 109 rfl O 107 i1 (.pointer none) 1 8 Tryz.underlying109 hj P_ Qa Qb rfl (by decide) _ _ _ rfl PM.out ⟨r.heap.size,0,none⟩ 1 1 [.pointer (some ⟨f,0,none⟩)] rfl rfl (TS.eD r _ _) (TS.one_one rfl) ?c3 ?c4 ?c5 ?_)|fail)
 case c3=>unfold maxLen;omega
 case c4=>omega
 case c5=>(try simp);omega
 intro v' z t E _ Qe;obtain⟨a3,c3,rfl⟩:=bn t;have R:=Lib.hid E;have PX:Hid (Kept (Cx G j pm m (.slice A fs.length C)) w z):=by
  have h1:Kept (Cx G j pm m (.slice A fs.length C)) w r:=J.out.mono fun b _ h=>h.elim .inl fun h=> .inr (.inr (.inr (.inl h)));exact(h1.alloc _).grown E fun k hk _=> .inr (.inr (.inr (.inr hk)))
 have Qf:j<r.heap.size:=World.block_lt_of_cell? _ _ c1;have l:∀b,(Value.slice A fs.length C).ownBlock=some b→O≤b:=fun b e=>(d.out.row.lt b e).1;have PO:z.heap[j]?=r.heap[j]?:=(E.block j (by simp;omega) fun e=>by have:=l j e.symm;omega).trans (Below.heap_alloc _ _ _ Qf);have d1:z.cell? ⟨j,0,none⟩=some (.slice A fs.length C):=(World.cell?_of_block (w:=r) (a:=⟨j,0,none⟩) PO).trans c1;have d2:z.frozen? ⟨j,0,none⟩=false:=(World.frozen?_of_block (w:=r) (a:=⟨j,0,none⟩) PO).trans c2;have S:r.heap[n]?=w.heap[n]?:=J.out.block n (World.block_lt_of_cell? _ _ d.out.mp) fun h=>(q.out n h).2.2.2.1 rfl;have PY:n<r.heap.size:=Nat.lt_of_lt_of_le (World.block_lt_of_cell? _ _ d.out.mp) Qd;have V:z.heap[n]?=r.heap[n]?:=(E.block n (by simp;omega) fun e=>by have:=l n e.symm;omega).trans (Below.heap_alloc _ _ _ PY);have d3:z.cell? ⟨n,0,none⟩=some (.map (some pm)):=(World.cell?_of_block (w:=w) (a:=⟨n,0,none⟩) (V.trans S)).trans d.out.mp;obtain⟨Fm,N⟩:=d.out.mf;have PZ:¬(Value.slice A fs.length C).ownBlock=some pm:=fun e=>by
  have:=l pm e;omega
 have Qg:Hid (cq (dQ B) (z.setCell ⟨j,0,none⟩ (.slice a3 (fs.length+1) c3)) pm Fm):=by
  have k1:Kept (fun k=>(k=G∨m=some k)∨(Value.slice A fs.length C).ownBlock=some k) w z:=((J.out.mono fun b _ h=> .inl h).alloc _).grown E fun k hk _=> .inr hk;have k2:Kept (fun k=>((k=G∨m=some k)∨(Value.slice A fs.length C).ownBlock=some k)∨k=j) w (z.setCell ⟨j,0,none⟩ (.slice a3 (fs.length+1) c3)):=(k1.mono fun b _ h=> .inl h).setCell (fun _=> .inr rfl) _;refine N.kH k2 (fun h=> ?_) fun c hc h=> ?_
  ·rcases h with(h|h)|h
   ·exact(q.out pm h).2.2.1 rfl
   ·exact PZ h
   ·omega
  ·rcases h with(h|h)|h
   ·have:=(q.out c h).1;omega
   ·have:=l c h;omega
   ·omega
 have P0:Hid (dQ B (z.setCell ⟨j,0,none⟩ (.slice a3 (fs.length+1) c3)) (.pointer (some ⟨f,0,none⟩))):=by
  refine⟨f,rfl,P6,?_⟩;obtain⟨cs,T,L⟩:=P9.out;have Qh:=(Array.getElem?_eq_some_iff.1 L).1;refine⟨cs,T,?_⟩;rw[Below.heap_setCell _ _ _ _ (by simp only;omega),PX.out.block f Qh fun h=> ?_]
  ·exact L
  ·rcases h with h|h|h|h|h
   ·omega
   ·omega
   ·omega
   ·have:=(q.out f (.inr h)).1;omega
   ·have:=l f h;omega
 clear N PO S V E c1 c2;go_wp2_with (first|(at_mapUpdate;refine eF _ rfl _ _ _ 211 rfl (DZ B) (wC B) 67 Tryz.underlying211 pm Fm rfl Qg.out (.pointer (some ⟨f,0,none⟩)) (.int .i64 pos) rfl rfl P0.out ?_;intro w4 Qi u)|fail)
 go_end0
 have P1:Kept (Cx G j pm m (.slice A fs.length C)) w w4:=(PX.out.setCell (fun _=> .inr (.inl rfl)) _).grown u fun k hk _=>by cases hk;exact .inr (.inr (.inl rfl))
 have K:=R.out.size;have Qj:=u.size;simp only[World.setCell,Array.size_modify]at Qj;have hblk:∀b,b<r.heap.size→b≠j→b≠pm→(Value.slice A fs.length C).ownBlock≠some b→w4.heap[b]?=r.heap[b]?:=fun b L h1 h2 h3=>by
  rw[u.block b (by simp[World.setCell];simp at K;omega) fun e=>h2 (Option.some.inj e),Below.heap_setCell _ _ _ _ (by simp only;exact h1),
   R.out.block b (by simp;omega) fun e=>h3 e.symm,Below.heap_alloc _ _ _ L]
 have W:∀b,m'=some b→b<r.heap.size∧O≤b∧b≠j∧b≠pm∧(Value.slice A fs.length C).ownBlock≠some b:=fun b e=>by
  have h0:=PN.out b e;rcases PW.out with rfl|⟨b',e',P2⟩
  ·have:=q.out b (.inr e)
   exact⟨h0,(d.out.mB b e).1,this.2.1,this.2.2.1,this.2.2.2.2⟩
  ·rw[e']at e;cases e
   exact⟨h0,by omega,by omega,by omega,fun e=>by have:=(d.out.row.lt _ e).2;omega⟩
 have P3:∀b,(Value.slice a3 (fs.length+1) c3).ownBlock=some b→((Value.slice A fs.length C).ownBlock=some b∨w.heap.size≤b):=fun b e=>by
  rcases Qe with h|h
  ·exact .inl (h▸e)
  ·rw[h]at e;have:=Option.some.inj e;exact .inr (by first|omega|(simp at this;omega))
 have Qk:aw p g w4:=Y.out.own P1 (fun b L=>d.out.dk b L) fun h=>by
  rcases h with h|h|h|h|h
  ·omega
  ·omega
  ·omega
  ·have:=(d.out.mB _ h).1;omega
  ·have:=l _ h;omega
 refine⟨rfl,m',.slice a3 (fs.length+1) c3,⟨⟨_,Q.out.of (hblk G ?_ (by omega) (by omega) fun e=> ?_) fun b e=> ?_,fun s=> ?_,fun k y hk=> ?_⟩,fun b e=> ?_,?_,?_,?_,?_,?_,?_,?_,?_⟩,Qk,P1⟩
 ·exact World.block_lt_of_cell? _ _ Q.out.1
 ·have:=l _ e;omega
 ·obtain⟨h1,h2,h3,h4,h5⟩:=W b e
  exact hblk b h1 h3 h4 h5
 ·by_cases hs:s=x.nm
  ·subst hs
   rw[bX];simp
  ·rw[ba F (fun h=>hs (by cases h;rfl)),P8.out s]
   refine⟨fun h y H=> ?_,fun h y H=>h y (List.mem_append_left _ H)⟩;rcases List.mem_append.1 H with H|H
   ·exact h y H
   ·rw[List.mem_singleton.1 H];exact fun e=>hs e.symm
 ·by_cases P4:k= .string x.nm
  ·subst P4;rw[bX]at hk;cases hk;exact⟨_,_,rfl⟩
  ·rw[ba F P4]at hk;exact PS.out k y hk
 ·obtain⟨h1,h2,_⟩:=W b e
  have:r.heap.size≤w4.heap.size:=by simp at K;omega
  exact⟨h2,by omega⟩
 ·have h1:w4.heap[j]?=(z.setCell ⟨j,0,none⟩ (.slice a3 (fs.length+1) c3)).heap[j]?:=u.block j (by simp[World.setCell];simp at K;omega) fun e=>by have:=Option.some.inj e;omega
  rw[World.cell?_of_block (a:=⟨j,0,none⟩) h1];exact World.cell?_setCell_same _ _ _ d1
 ·have h1:w4.heap[j]?=(z.setCell ⟨j,0,none⟩ (.slice a3 (fs.length+1) c3)).heap[j]?:=u.block j (by simp[World.setCell];simp at K;omega) fun e=>by have:=Option.some.inj e;omega
  rw[World.frozen?_of_block (a:=⟨j,0,none⟩) h1,World.frozen?_setCell];exact d2
 ·have h1:z.ownsRow O 107 1 (.slice a3 (fs.length+1) c3) (fs++ [f]).length ((fs++ [f]).map pv):=by simpa using t
  refine eC (X:=fun k=>k=j∨k=pm) h1 (((Kept.refl _ _).setCell (fun _=> .inl rfl) _).grown u fun k hk _=> .inr (by cases hk;rfl)) fun b e h=> ?_;have:=(t.lt b e).1;omega
 ·have h1:w4.heap[n]?=(z.setCell ⟨j,0,none⟩ (.slice a3 (fs.length+1) c3)).heap[n]?:=u.block n (by simp[World.setCell];simp at K;omega) fun e=>by have:=Option.some.inj e;omega
  rw[World.cell?_of_block (a:=⟨n,0,none⟩) h1,World.cell?_setCell_other _ _ _ _ (fun e=>by have:=congrArg Addr.block e;simp only at this;omega)];exact d3
 ·exact⟨_,Qi _ (fun y H=>ba Fm H) (bX _ _ _)⟩
 ·simp[d.out.len]
 ·intro i hi Ql
  have hl:=d.out.len;simp only[List.length_append,List.length_cons,List.length_nil]at hi Ql;by_cases P5:i<M.length
  ·rw[List.getElem_append_left P5,List.getElem_append_left (by omega)];exact d.out.cM i P5 (by omega)
  ·have e1:i=M.length:=by omega
   subst e1;simp[←hl];simpa [hl]using P7.out
 ·intro b L o
  rcases L with h|h|h|h|h
  ·exact d.out.dk b (.inl h) o
  ·exact d.out.dk b (.inr (.inl h)) o
  ·exact d.out.dk b (.inr (.inr (.inl h))) o
  ·rcases PW.out with e|⟨b',e',P2⟩
   ·exact d.out.dk b (.inr (.inr (.inr (.inl (e▸h))))) o
   ·rw[e']at h;cases h;exact Y.out.kw.aJ P2 o
  ·rcases P3 b h with h|h
   ·exact d.out.dk b (.inr (.inr (.inr (.inr h)))) o
   ·exact Y.out.kw.aJ h o
theorem wG(p:Pm)(g:Ge)(B d a c pm i f:Nat)(m:Option Nat)(v:Value)(M:List U)(fs:List Nat)(x:U)(pos:Int)(ex:Bool)(w:World)(G:o8 B d a c pm i)(o:d≤w.heap.size)(q:5<B)(r:aw p g w)(s:ei p g B d a c pm i w m v M fs)(E:dn p g x f)(t:f<B)(F:aM x.nm=true)(H:fs.length≤1048576):
 Calls Tryz.prog 123 #[.int .i64 pos,.pointer (some ⟨f,0,none⟩),.bool ex,.pointer (some ⟨a,0,none⟩),.pointer (some ⟨c,0,none⟩),.pointer (some ⟨i,0,none⟩)] w fun e j=>
  e= .returned (.tuple #[])∧∃u z k,ei p g B d a c pm i j u z (bG M x) k∧(∀y∈k,y∈fs∨y=f)∧aw p g j∧Kept (Cx a c pm m v) w j:=by
 unfold bG;cases hM:M.any fun y=>cL y x
 ·refine(D5 p g B d a c pm i f m v M fs x pos ex w G o q r s E t F hM H).mono ?_
  rintro e j ⟨rfl,u,z,A,C,l⟩;exact⟨rfl,u,z,_,A,fun y D=>by simpa using D,C,l⟩
 ·refine(D2 p g B d a c pm i f m v M fs x pos ex w r s E F hM).mono ?_
  rintro e j ⟨rfl,n,rfl⟩;have l:Kept (fun _=>False) w (w.drewN n):=⟨rfl,rfl,rfl,Nat.le_refl _,fun _ _ _=>rfl⟩
  exact⟨rfl,m,v,fs,s.of l (fun b h=>h.elim) (aP.refl _ _) (aH.refl g),fun y D=> .inl D,r.b_ (au.drewN w n),l.mono fun b _ h=>h.elim⟩
end Go.Proofs.YtdkmnkjhhhmglaaGreatDoor
namespace Go.Proofs.YtdkmnkjhhhmglaaGreatDoor
open Go.RowKit TS
theorem D6(a b:ByteArray)(w:World):Calls Tryz.prog 249 #[.string a,.string b] w fun e c=>e= .returned (.int .i64 (Lib.compareBytes a.data.toList b.data.toList))∧c=w:=by
 go_enter Tryz.func249,Tryz.ntmps249;go_wp2
 rw[run_callFunc_extern Tryz.func254 (by kernel_rfl) (by kernel_rfl) (by kernel_rfl) (e:=Extern.BytealgCompare.compare) (by kernel_rfl),Lib.run_compareString];simp only[Result.andThen];rw[Oper.upon_value];go_wp2
 go_ret;exact⟨rfl,rfl⟩
theorem D7(a b:ByteArray)(w:World):Calls Tryz.prog 237 #[.string a,.string b] w fun e c=>e= .returned (.int .i64 (Lib.compareBytes a.data.toList b.data.toList))∧w=c:=by
 go_enter Tryz.func237,Tryz.ntmps237;go_wp2_with fail
 refine(D6 a b _).mono ?_;rintro e c ⟨rfl,rfl⟩;go_wp2_with fail
 go_ret;exact⟨rfl,rfl⟩
theorem rq:∀l:List UInt8,Lib.compareBytes l l=0
 | []=>rfl
 |a::r=>by simp[Lib.compareBytes,UInt8.lt_irrefl,rq r]
theorem wH:∀a b:List UInt8,decide (Lib.compareBytes a b<0)=Go.Op.bytesLess a b
 | [],[]=>rfl
 | [],_::_=>rfl
 |_::_,[]=>rfl
 |a::x,b::y=>by
  have ih:=wH x y;unfold Lib.compareBytes Go.Op.bytesLess;by_cases h:a<b
  ·simp[h]
  ·by_cases h2:b<a
   ·have c:a≠b:=fun e=>by subst e;exact h h2
    simp[h,h2,c]
   ·have e:a=b:=UInt8.le_antisymm (UInt8.not_lt.1 h2) (UInt8.not_lt.1 h)
    subst e;simp[h,ih]
theorem D8:bV 240:=eW Tryz.underlying240 (by kernel_rfl) (by kernel_rfl)
theorem D9(f c:Nat)(s a:ByteArray)(w:World)(hT:br w)(j:aM s=true)(b:aM a=true)(l:Plain w f)(d:Plain w c)(h:w.cell? ⟨f,2,none⟩=some (.string s))(m:w.cell? ⟨c,2,none⟩=some (.string a)):
 Calls Tryz.prog 198 #[.pointer (some ⟨f,0,none⟩),.pointer (some ⟨c,0,none⟩)] w fun e g=>e= .returned (.int .i64 (Lib.compareBytes s.data.toList a.data.toList))∧∃n,g=w.drewN n:=by
 have k:=lA D8 w f c l d;by_cases e:f=c
 ·subst e
  rw[h]at m;cases m;simp only[decide_true]at k;rw[rq];clear h j b hT;go_enter Tryz.func198,Tryz.ntmps198;go_wp2_with fail
  go_ret;exact⟨rfl,0,rfl⟩
 ·have p:(binOp .eql 240 (.pointer (some ⟨f,0,none⟩)) (.pointer (some ⟨c,0,none⟩))).run Tryz.prog w= .ok (.bool false) w:=by rw[k];simp[e]
  have o:=Lib.hid (oO s j w hT);have i:=Lib.hid (oO a b w hT);clear k j b hT e l d;cases q:(s.toList==a.toList)
  ·have r:=Lib.hid fun W=>D7 s a W
   go_enter Tryz.func198,Tryz.ntmps198;go_wp2_with fail
   refine o.out.mono ?_;rintro e g ⟨rfl,rfl⟩;go_wp2_with fail
   refine i.out.mono ?_;rintro e g ⟨rfl,rfl⟩;go_wp2_with fail
   go_quiet (fail)
   go_wp2_with fail
   go_quiet (first|(go_at_call 237;exact(r.out _).mono fun e t h=>⟨h.1,_,h.2.symm⟩))
   go_wp2_with fail
   go_ret;exact⟨rfl,_,World.drewN_drewN ..⟩
  ·have e:s=a:=bytes_inj (eq_of_beq q)
   subst e;rw[rq];go_enter Tryz.func198,Tryz.ntmps198;go_wp2_with fail
   refine o.out.mono ?_;rintro e g ⟨rfl,rfl⟩;go_wp2_with fail
   refine i.out.mono ?_;rintro e g ⟨rfl,rfl⟩;go_wp2_with fail
   go_quiet (fail)
   go_wp2_with fail
   go_ret;exact⟨rfl,_,rfl⟩
theorem D_(f c:Nat)(s d:ByteArray)(w:World)(hT:br w)(g:aM s=true)(a:aM d=true)(i:Plain w f)(b:Plain w c)(h:w.cell? ⟨f,2,none⟩=some (.string s))(j:w.cell? ⟨c,2,none⟩=some (.string d)):
 Calls Tryz.prog 168 #[.pointer (some ⟨f,0,none⟩),.pointer (some ⟨c,0,none⟩)] w fun e k=>e= .returned (.int .i64 (Lib.compareBytes s.data.toList d.data.toList))∧∃n,k=w.drewN n:=by
 have l:=Lib.hid fun n=>D9 f c s d (w.drewN n) (hT.drewN n) g a i b (by simpa using h) (by simpa using j);clear hT g a i b;go_enter Tryz.func168,Tryz.ntmps168;go_wp2_with fail
 go_quiet (first|(go_at_call 198;exact Calls.quiet_of (l.out _)))
 go_wp2_with fail
 go_ret;exact⟨rfl,_,rfl⟩
end Go.Proofs.YtdkmnkjhhhmglaaGreatDoor
namespace TS
open Go Go.RowKit Go.Proofs.YtdkmnkjhhhmglaaGreatDoor
structure WB(p:Pm)(w:World):Prop where
 kw:KW p w
 pl:∀b o v,p b o=some v→Plain w b
 cap:br w
theorem aw.wb{p:Pm}{g:Ge}{w:World}(h:aw p g w):WB p w:=⟨h.kw,h.pl,h.cap⟩
theorem WB.own{p:Pm}{w e:World}{X:Nat→Prop}(h:WB p w)(k:Kept X w e)(f:∀b,X b→∀o,p b o=none)(i:¬X 5):WB p e where
 kw:=h.kw.kept k fun b o v a d=>by rw[f b d o]at a;cases a
 pl:=fun b o v a=>by
  obtain⟨cs,T,g⟩:=h.pl b o v a;exact⟨cs,T,by rw[k.block b (Array.getElem?_eq_some_iff.1 g).1 fun d=>by rw[f b d o]at a;cases a];exact g⟩
 cap:=fun c h1 h2=>by
  have:=h.cap c h1 h2;rw[k.cell (World.block_lt_of_cell? _ _ this) i];exact this
theorem WB.below{p:Pm}{w a:World}(h:WB p w)(k:Below w.heap.size w a):WB p a:=⟨h.kw.grown k,fun b o v c=>(h.pl b o v c).below k,h.cap.below k⟩
structure lG(p:Pm)(g:Ge) where
 m:U
 f:Nat
 fa:dn p g m f
 nb:aM m.nm=true
def gW{p:Pm}{g:Ge}(x:lG p g):Value:=ptr x.f
def nr{p:Pm}{g:Ge}(x y:lG p g):Int:=Lib.compareBytes x.m.nm.data.toList y.m.nm.data.toList
theorem wI{p:Pm}{g:Ge}:∀{M:List U}{fs:List Nat},fs.length=M.length→(∀i(h:i<M.length)(e:i<fs.length),dn p g M[i] fs[i])→(∀x∈M,aM x.nm=true)→∃L:List (lG p g),L.map (fun x=>x.m)=M∧L.map (fun x=>x.f)=fs
 | [],[],_,_,_=>⟨[],rfl,rfl⟩
 | [],_::_,h,_,_=>by simp at h
 |_::_,[],h,_,_=>by simp at h
 |m::M,f::fs,h,a,b=>by
  obtain⟨L,h1,h2⟩:=wI (M:=M) (fs:=fs) (by simpa using h) (fun i hi c=>by have:=a (i+1) (by simp;omega) (by simp;omega);simpa using this) fun x d=>b x (List.mem_cons_of_mem _ d);exact⟨⟨m,f,by have:=a 0 (by simp) (by simp);simpa using this,b m List.mem_cons_self⟩::L,by simp[h1],by simp[h2]⟩
theorem o9{p:Pm}{g:Ge}(x y:lG p g):Go.Proofs.ltOf nr x y=bC x.m y.m:=by
 unfold Go.Proofs.ltOf nr bC;rw[wH,←Lib.toList_data,←Lib.toList_data]
theorem Ea{p:Pm}{g:Ge}:Go.Sort.SWO (Go.Proofs.ltOf (nr (p:=p) (g:=g))) where
 irrefl x:=by rw[o9];exact gA _
 trans x y z h k:=by rw[o9]at*;exact im h k
 ntrans x y z h k:=by
  rw[o9]at*;cases a:bC x.m z.m
  ·rfl
  ·cases b:bC y.m x.m
   ·have e:=fE.1 (kX h b)
    unfold bC at*;rw[e,k]at a;cases a
   ·have:=im b a;rw[this]at k;cases k
theorem wJ{α:Type} [Inhabited α]{enc:α→Value}{k n:Nat}{d:Array α}{os:Array Obj}{w:World}:Kept (fun b=>b=k) w (Go.Proofs.sortWorld enc w k 0 n d os):=by
 refine⟨rfl,rfl,rfl,?_,fun b a c=> ?_⟩
 ·unfold Go.Proofs.sortWorld
  rw[Go.Sort.size_grow];unfold Go.Sort.putRow Go.Sort.mapBlock Go.Sort.ahead;simp
 ·unfold Go.Proofs.sortWorld
  rw[Go.Sort.heap_grow_old _ _ (by unfold Go.Sort.putRow Go.Sort.mapBlock Go.Sort.ahead;simpa using a)];unfold Go.Sort.putRow Go.Sort.mapBlock Go.Sort.ahead;rw[Array.getElem?_modify,if_neg (by omega)]
theorem Eb{α:Type} [Inhabited α]{enc:α→Value}{g n c:Nat}{d d':Array α}{os:Array Obj}{w:World}{B:Nat}{e:TypeId}(h:w.ownsRow B e 1 (.slice (some ⟨g,0,none⟩) d.size c) d.size (d.toList.map enc))(b:d'.size=d.size)(m:0<d.size):
 (Go.Proofs.sortWorld enc w g 0 n d' os).ownsRow B e 1 (.slice (some ⟨g,0,none⟩) d.size c) d.size (d'.toList.map enc):=by
 refine⟨by simp[b],.inr ?_⟩;rcases h.2 with⟨h1,_⟩|⟨o,cap,cur,h1,h2,h3,f,j,k,h7⟩
 ·cases h1
 ·cases h1
  have l:g<w.heap.size:=(Array.getElem?_eq_some_iff.1 h3).1;refine⟨g,c,Go.Sort.putCells enc 0 d' cur,rfl,h2,?_,f,j,?_,?_⟩
  ·unfold Go.Proofs.sortWorld
   rw[Go.Sort.heap_grow_old _ _ (by unfold Go.Sort.putRow Go.Sort.mapBlock Go.Sort.ahead;simpa using l)];unfold Go.Sort.putRow Go.Sort.mapBlock Go.Sort.ahead;rw[Array.getElem?_modify,if_pos rfl,h3];rfl
  ·simpa [Go.Sort.putCells]using k
  ·refine List.ext_getElem? fun i=> ?_
   rw[List.getElem?_take];split
   ·rename_i hi
    simp only[Go.Sort.putCells,Array.getElem?_toList,Array.getElem?_mapIdx];have a:i<cur.size:=by omega
    have hid:i<d'.size:=by omega
    simp[a,hid]
   ·rename_i hi
    rw[List.getElem?_eq_none (by simp;omega)]
end TS
namespace Go.Proofs.YtdkmnkjhhhmglaaGreatDoor
open Go.RowKit TS
def wK(p:Pm)(g:Ge)(B:Nat)(v:Value)(M:List U)(fs:List Nat)(w:World)(e:Ending)(b:World):Prop:=
 e= .returned (.tuple #[])∧∃a:List Nat,b.ownsRow B 107 1 v a.length (a.map pv)∧a.length=(b7 M).length∧(∀i(h:i<(b7 M).length)(c:i<a.length),dn p g (b7 M)[i] a[i])∧Kept (fun k=>v.ownBlock=some k) w b∧a.Perm fs
theorem Ec(p:Pm)(g:Ge)(B:Nat)(M:List U)(fs:List Nat)(v:Value)(w:World)(hE:WB p w)(N:w.ownsRow B 107 1 v fs.length (fs.map pv))(hl:fs.length=M.length)(Z:∀i(h:i<M.length)(h':i<fs.length),dn p g M[i] fs[i])(hn:∀x∈M,aM x.nm=true)(h2:dG M)(hd:∀b,v.ownBlock=some b→∀o,p b o=none)(hG:5<B)(hm:fs.length≤1048576):
 Calls Tryz.prog 167 #[v,.func (.func 168) #[] #[]] w (wK p g B v M fs w):=by
 have Q:(b7 M).length=M.length:=by unfold b7;rw[List.length_mergeSort]
 rcases Nat.eq_zero_or_pos fs.length with O|O
 ·have D:fs= []:=List.length_eq_zero_iff.1 O
  obtain⟨a,c,rfl⟩:=bn N;rw[O];refine(AnyF.slices_SortFunc_none (P:=Tryz.prog) (ρ:=Tryz.ue) {Tryz.ug with} a c _ w).mono ?_;rintro e w' ⟨rfl,rfl⟩;refine⟨rfl,[],by subst D;simpa using N,by simp[Q];omega,fun i hi u=>absurd u (Nat.not_lt_zero _),Kept.refl _ _,by rw[D]⟩
 ·have hP:∀i(h:i<M.length),dn p g M[i] (fs[i]'(by omega))∧aM M[i].nm=true:=fun i h=>⟨Z i h (by omega),hn _ (List.getElem_mem h)⟩
  obtain⟨L,E,F⟩:=wI hl Z hn;have PM:L.length=M.length:=by rw[←E];simp
  have R:0<L.length:=by omega
  letI:Inhabited (lG p g):=⟨L[0]⟩
  obtain⟨r,cap,rfl,hB,S,PN,PO,z,T⟩:=k_ N O;have V:=hd r rfl;have s:L.length=fs.length:=by omega
  have t:(L.toArray.toList.map gW)=fs.map pv:=by rw[←F];simp[gW,Function.comp_def]
  have hH:Sort.Holds gW w r 0 L.toArray:=fun j G=>by
   simp only[List.size_toArray]at G;rw[Nat.zero_add];refine⟨z j _ ?_,T j (by simp;omega)⟩;rw[←t];simp[G]
  have eg:∀args w,(callFunc 168 args).run Tryz.prog w= .ok (.enter 168 args) w:=ep Tryz.func168 (by kernel_rfl) rfl;have H:CmpLays1 Tryz.prog 168 #[] (gW (p:=p) (g:=g)) nr r 0 L.toArray.size w:=fun m os dk _ x y=>by
   have l:WB p (sortWorld gW w r 0 m dk os):=hE.own (wJ (k:=r)) (fun b e=>by rw[e];exact V) (by omega);obtain⟨sb,⟨_,x1⟩,x2,_,_⟩:=x.fa;obtain⟨PQ,⟨_,y1⟩,y2,_,_⟩:=y.fa;refine(D_ x.f y.f x.m.nm y.m.nm (sortWorld gW w r 0 m dk os) l.cap x.nb y.nb (l.pl _ _ _ x1) (l.pl _ _ _ y1) (l.kw _ _ _ x2) (l.kw _ _ _ y2)).mono ?_;rintro e w' ⟨rfl,n,rfl⟩;exact⟨rfl,n,#[],by rw[Sort.grow_empty]⟩
  have hS:=Any.slices_SortFunc Tryz.ug gW (fun _=>rfl) nr Ea 168 #[] r 0 cap L.toArray w eg H hH S (by simp;omega);simp only[List.size_toArray,s]at hS;refine hS.mono ?_;rintro e w' ⟨rfl,d',n,os,hp,hs,rfl⟩;obtain⟨d,rfl⟩:∃d:List (lG p g),d'=d.toArray:=⟨d'.toList,by simp⟩
  have A:d.length=L.length:=by have:=hp.1;simpa using this
  have q:d.Perm L:=by
   have:=hp.2.2;have e:List.take fs.length d=d:=List.take_of_length_le (by omega);have e2:List.take fs.length L=L:=List.take_of_length_le (by omega);simpa [A,s,List.extract_eq_take_drop,e,e2]using this
  have I:M.Perm (d.map fun x=>x.m):=by rw[←E];exact(q.map _).symm
  have J:dG (d.map fun x=>x.m):=I.pairwise h2 fun{a b} C=>by rw[pV];exact C
  have K:dF (d.map fun x=>x.m):=by
   have W:(d.map fun x=>x.m).Pairwise fun a b=>bC b a=false:=by
    rw[List.pairwise_iff_getElem];intro i j hi G X;simp only[List.length_map]at hi G;have:=hs i j (Nat.zero_le _) X (by omega);rw[o9]at this;simpa [getElem!_pos,hi,G]using this
   exact(W.and J).imp fun{a b} ⟨h1,h2⟩=>by
    cases C:bC a b
    ·have:=kX C h1;rw[this]at h2;cases h2
    ·rfl
  have heq:(d.map fun x=>x.m)=b7 M:=pX h2 I K;have hK:Kept (fun b=>b=r) w (sortWorld gW w r 0 n d.toArray os):=wJ;refine⟨rfl,d.map fun x=>x.f,?_,by rw[←heq];simp,fun i hi u=> ?_,hK.mono fun b _ e=>(by rw[e];rfl),by rw[←F];exact q.map _⟩
  ·have Y:w.ownsRow B 107 1 (.slice (some ⟨r,0,none⟩) L.toArray.size cap) L.toArray.size (L.toArray.toList.map gW):=by
    rw[t];simpa [s]using N
   have:=Eb (n:=n) (os:=os) (d':=d.toArray) Y (by simp[A]) (by simpa using R);have e3:(d.map fun x=>x.f).map pv=d.map gW:=by simp[gW,Function.comp_def]
   rw[e3];simpa [s,A]using this
  ·simp only[←heq,List.getElem_map]
   exact(d[i]'(by simpa using u)).fa
theorem wL(p:Pm)(g:Ge)(B:Nat)(M:List U)(fs:List Nat)(v:Value)(w:World)(f:WB p w)(d:w.ownsRow B 107 1 v fs.length (fs.map pv))(j:fs.length=M.length)(k:∀i(h:i<M.length)(l:i<fs.length),dn p g M[i] fs[i])(m:∀x∈M,aM x.nm=true)(h2:dG M)(n:∀b,v.ownBlock=some b→∀o,p b o=none)(q:5<B)(hm:fs.length≤1048576):
 Calls Tryz.prog 128 #[v] w (wK p g B v M fs w):=by
 have r:=Lib.hid (Ec p g B M fs v w f d j k m h2 n q hm);obtain⟨a,c,rfl⟩:=bn d;clear f d j k m h2 n hm;go_enter Tryz.func128,Tryz.ntmps128;go_wp2_with fail
 refine r.out.mono ?_;rintro e s ⟨rfl,h⟩;have l:=Lib.hid h;clear h;go_wp2_with fail
 go_end0
 exact⟨rfl,l.out⟩
end Go.Proofs.YtdkmnkjhhhmglaaGreatDoor
