import Derived.Test.YtgbklbbknehefaaGreatDoorYad
import Derived.Test.YtgbklbbknehefaaGreatDoorYbp
import Derived.Test.YtgbklbbknehefaaGreatDoorYbq
set_option maxRecDepth 100000
set_option maxHeartbeats 8000000
set_option linter.all false
namespace TS
open Go Go.RowKit Go.Proofs.YtgbklbbknehefaaGreatDoor
structure pn(D:Dl)(T:List U)(fds:List aH):Prop where
 len:fds.length=D.len
 tl:T.length=D.len
 un:∀i(h:i<fds.length)(c:i<T.length),fds[i].un=T[i]
 ty:∀(C:BC)(h:C.i<T.length),C.D=D→C.T=T→fZ C T[C.i]
 lo:∀t∈T,1≤t.k∧t.k≤10∧t.k≠2
 ms:∀i(h:i<fds.length),fds[i].ms.length≤1048576∧(fds[i].ms.Pairwise fun a b=>(a.nm.toList==b.nm.toList)=false)∧∀m∈fds[i].ms,m.sig.k=7∧(0≤m.sig.m∧m.sig.m.toNat≤m.sig.es.length)∧(m.sig.v=true→0<m.sig.m.toNat∧∃e,m.sig.es[m.sig.m.toNat- 1]?=some e∧e.k=4)∧(m.nm.toList== [95])=false∧
  ∀C:BC,C.D=D→C.T=T→C.i=D.len→∀e∈m.sig.es,fZ C e
 ct:aO T+cN fds≤1099511627776
def uw(pa:Pm)(D:Dl)(T:List U)(w:World)(e:Ending)(a:World):Prop:=
 ∃(C:BC)(q:Pm)(g:Ge),e= .returned (.pointer (some ⟨C.bb,0,none⟩))∧C.D=D∧C.T=T∧C.i=D.len∧C.pa=pa∧C.B0=w.heap.size∧BS C q g (.slice none 0 0) [] a∧Below w.heap.size w a
end TS
namespace Go.Proofs.YtgbklbbknehefaaGreatDoor
open Go.RowKit TS
theorem Dh:(Tryz.prog.info? 66).map (fun i=>(i.zero,i.size,i.bytes))=some (some (.pointer none),1,8):=by kernel_rfl
theorem Di(pa:Pm)(D:Dl)(dc:Nat)(T:List U)(fds:List aH)(hO:pn D T fds)(hD:cU pa D fds)(w:World)(hw:KW pa w)(Qe:bD w):
 Calls Tryz.prog 10 #[.slice D.a D.len dc] w (uw pa D T w):=by
 have hG:=World.block_lt_of_cell? _ _ (Qe 65 (by decide) (by decide));simp only at hG;have SV:5<(w.alloc (.cells #[.string ⟨#[112]⟩,.string ⟨#[112]⟩] 100)).heap.size:=by simp;omega
 have aa:Below w.heap.size w (w.alloc (.cells #[.string ⟨#[112]⟩,.string ⟨#[112]⟩] 100)):=(Below.refl _ _).alloc (Nat.le_refl _) _;have Qu:bD (w.alloc (.cells #[.string ⟨#[112]⟩,.string ⟨#[112]⟩] 100)):=fun c h1 h2=>ak aa (Qe c h1 h2);have hE:=Lib.hid (Cr _ Qu SV);have SX:=Lib.hid hw;have SY:=Lib.hid Qe;have F:=Lib.hid hO;have RV:=Lib.hid hD;have SZ:=hD.kb;obtain⟨i0,QR,Qf,Qg,Qh⟩:=info_parts Dh;clear hw Qe hO hD Qu;go_enter Tryz.func10,Tryz.ntmps10;go_wp2_with fail
 refine(xD _ _ _).mono ?_;rintro e1 w1 ⟨rfl,rfl⟩;go_wp2_with fail
 refine hE.out.mono ?_;rintro e2 f ⟨q2,eb,eo,ib,rfl,QY,Qi,QZ,RX,RY,RZ,R0,R1,S0,S1,R2⟩;have Qv:Below w.heap.size w f:=aa.trans (Qi.mono (by simp));have Q3:f.heap[w.heap.size]?=some (.cells #[.string ⟨#[112]⟩,.string ⟨#[112]⟩] 100 (0,0)):=(Qi.block _ (by simp)).trans (cf rfl);obtain⟨q,Q4⟩:=C2 SX.out Q3 QY Qv (fun b o v e=>by have:=QZ b o v e;simpa using this) hG S0 S1 ⟨RX,RY,RZ,R0,R1,R2⟩;have P7:=Lib.hid Q4;have Rr:=Lib.hid Qv;have Tr:w.heap.size+1≤f.heap.size:=by have:=Qi.size;simp at this;omega
 clear QY Qi QZ RX RY RZ R0 R1 R2 hE aa Qv Q3 Q4;go_wp2_with fail
 refine(oi _ _ _ _).mono ?_;rintro e3 w3 ⟨rfl,rfl⟩;go_wp2_with fail
 refine(yo _).mono ?_;rintro e4 w4 ⟨rfl,R4⟩;have Qj:w4=iN (dH f w.heap.size eb):=R4;have S2:w4.heap.size≤f.heap.size+6∧f.heap.size+6≤w4.heap.size:=by rw[Qj];simp[iN,dH]
 have QS:Below (dH f w.heap.size eb).heap.size (dH f w.heap.size eb) w4:=by rw[Qj];exact((((Below.refl _ _).alloc (Nat.le_refl _) _).alloc (by simp) _).alloc (by simp<;>omega) _).alloc (by simp<;>omega) _
 have hA1:(dH f w.heap.size eb).heap[f.heap.size+1]?=some (.cells #[.int .i64 0,.pointer none,.string ⟨#[99,111,109,112,97,114,97,98,108,101]⟩,.nilIface] 131 (0,0)):=cf (by simp);have hA0:(dH f w.heap.size eb).heap[f.heap.size]?=some (.cells #[.pointer (some ⟨w.heap.size,0,none⟩),.slice none 0 0,ae 66 eb,.nilIface,.slice none 0 0] 71 (0,0)):=by unfold dH;rw[dw (by simp)];exact cf rfl
 have Rs:=(QS.block _ (by simp[dH])).trans hA1;have Rt:=(QS.block _ (by simp[dH];omega)).trans hA0;have Q5:w4.cell? ⟨f.heap.size+1,3,none⟩=some .nilIface:=by simp[World.cell?,Rs]
 have Q6:w4.frozen? ⟨f.heap.size+1,3,none⟩=false:=by simp[World.frozen?,Rs]
 have Q7:w4.cell? ⟨f.heap.size,3,none⟩=some .nilIface:=by simp[World.cell?,Rt]
 have Q8:w4.frozen? ⟨f.heap.size,3,none⟩=false:=by simp[World.frozen?,Rt]
 have Ru:=yd (f.heap.size+1) 33 (some ⟨f.heap.size+5,0,none⟩) (by decide) (by decide) w4 (by omega) Q5 Q6;rw[show w4.heap.size=f.heap.size+6 by omega]at Ru;have hN:=Lib.hid Ru;rw[←Qj]at P7;have R5:=Lib.hid (show Below f.heap.size f w4 from(((Below.refl _ _).alloc (Nat.le_refl _) _).alloc (by simp) _).trans (QS.mono (by simp[dH];omega)));clear R4 Qj QS hA1 hA0 Rs Rt Q5 Q6 Ru;go_wp2_with fail
 refine hN.out.mono ?_;rintro e5 w5 ⟨rfl,P8⟩;have h1:w5.cell? ⟨f.heap.size,3,none⟩=some .nilIface:=by rw[P8,World.cell?_alloc_lt _ _ _ (by simp;omega),World.cell?_setCell_other _ _ _ _ (fun e=>absurd (congrArg Addr.block e) (by simp))];exact Q7
 have h2:w5.frozen? ⟨f.heap.size,3,none⟩=false:=by rw[P8,World.frozen?_alloc_old _ _ _ (by simp;omega),World.frozen?_setCell];exact Q8
 have h3:f.heap.size<w5.heap.size:=by rw[P8];simp;omega
 have Qw:Hid (eN pa w.heap.size f.heap.size eb eo ib (f.heap.size+6) (f.heap.size+1) (f.heap.size+5) w.heap.size [] [] q (.slice none 0 0) (w5.setCell ⟨f.heap.size,3,none⟩ (.iface 66 (.pointer (some ⟨f.heap.size+6,0,none⟩))))):=by rw[P8];exact P7.out
 have R6:Hid (Below w.heap.size w (w5.setCell ⟨f.heap.size,3,none⟩ (.iface 66 (.pointer (some ⟨f.heap.size+6,0,none⟩))))):=by
  rw[P8];exact Rr.out.trans ((((R5.out.setCell (by simp) _).alloc (by simp;omega) _).setCell (Nat.le_refl _) _).mono (by omega))
 have TE:f.heap.size+7≤w5.heap.size:=by rw[P8];simp;omega
 clear hN P8 P7 S2 Q7 Q8;go_wp2_with fail
 go_loopw [25] (fun vk wr=> ∃(k:Nat)(l Qx:List Nat)(q:Pm)(B:Value),k≤D.len∧vk= .int .i64 k∧l.length=k∧eN pa w.heap.size f.heap.size eb eo ib (f.heap.size+6) (f.heap.size+1) (f.heap.size+5) w.heap.size l Qx q B wr∧Below w.heap.size w wr∧f.heap.size+7≤wr.heap.size) (fun vk _=>D.len- (intOf vk).toNat)
 case atStart=>exact⟨0,[],[],q,_,Nat.zero_le _,rfl,rfl,Qw.out,R6.out,by simp;omega⟩
 case round=>
  obtain⟨k,l,Qx,q1,TF,TG,rfl,R7,Rv,Q9,R8⟩:=hrel;have P:=Lib.hid Rv;have Qy:=Lib.hid Q9;have V:=Lib.hid R7;obtain⟨da,B,rfl⟩:=aZ Rv.row;clear Rv Q9 R7;by_cases TH:k<D.len
  ·have Ts:(k:Int)<D.len:=by omega
   go_wp2_with fail
   refine Dg (fun _=>True) (.one 0 true (.one 1 true (.one 2 true (.one 3 true (.one 5 true (.two 4 6 (.one 6 false (.one 7 false (.one 8 false (.one 9 false (.one 10 true (.one 11 true (.one 12 false .done))))))) (.two 4 7 (.one 7 false (.one 8 false (.one 9 false (.one 10 true (.one 11 true (.one 12 false .done)))))) (.two 4 8 (.one 8 false (.one 9 false (.one 10 true (.one 11 true (.one 12 false .done))))) (.one 4 false (.one 9 false (.one 10 true (.one 11 true (.one 12 false .done))))))))))))) (by kernel_rfl) (by kernel_rfl) (by kernel_rfl) (by decide) trivial (fun _=> ?_);have P9:=P.out.below (Below.refl _ _).drew;have Tt:f.heap.size+7≤wr.drew.heap.size:=R8;have S3:Below w.heap.size w wr.drew:=Qy.out.drew;generalize wr.drew=t at*;have y0:=P9.c0;have y1:=P9.c1;have S4:=P9.f1;have Q_:=World.block_lt_of_cell? _ _ y0;simp only at Q_;have X:=Lib.hid (show l.length≤1048576 by have:=V.out;omega);have Qz:=Lib.hid (rO f.heap.size (some ⟨w.heap.size,0,none⟩) ⟨#[84]⟩ t y0);have C:=x_ t.heap.size (t.alloc (.cells #[.int .i64 0,.pointer (some ⟨w.heap.size,0,none⟩),.string ⟨#[84]⟩,.nilIface] 131)) (by simp) (jj t _ rfl) (kI t _ rfl);rw[show(t.alloc (.cells #[.int .i64 0,.pointer (some ⟨w.heap.size,0,none⟩),.string ⟨#[84]⟩,.nilIface] 131)).heap.size=t.heap.size+1 by simp]at C;obtain⟨M,QT⟩:∃M,Hid (M=(((t.alloc (.cells #[.int .i64 0,.pointer (some ⟨w.heap.size,0,none⟩),.string ⟨#[84]⟩,.nilIface] 131)).setCell ⟨t.heap.size,3,none⟩ (.iface 66 (.pointer (some ⟨t.heap.size+1,0,none⟩)))).alloc (.cells (fp t.heap.size) 129))):=⟨_,rfl⟩
   have Tu:M.heap.size≤t.heap.size+2∧t.heap.size+2≤M.heap.size:=by rw[QT.out];simp
   have QA:Below t.heap.size t M:=by rw[QT.out];exact(((Below.refl _ _).alloc (Nat.le_refl _) _).setCell (Nat.le_refl _) _).alloc (by simp) _
   have QU:Below t.heap.size t (M.alloc (.cells #[.pointer (some ⟨t.heap.size+1,0,none⟩)] 66)):=QA.alloc (by omega) _;rw[←QT.out]at C;have S:=Lib.hid C;have TI:M.cell? ⟨f.heap.size,1,none⟩=some (.slice da l.length B):=ak QA y1;have Tv:f.heap.size<M.heap.size:=by omega
   have Qk:=Lib.hid (bq P9.row QU);have Ql:=Lib.hid (show ∀j u,[Value.pointer (some ⟨t.heap.size+1,0,none⟩)][j]?=some u→(M.alloc (.cells #[.pointer (some ⟨t.heap.size+1,0,none⟩)] 66)).cell? ((⟨M.heap.size,0,none⟩:Addr).add j)=some u from TS.dC M (.pointer (some ⟨t.heap.size+1,0,none⟩)) 66);clear C QA
   have Qm:Hid (∀a6 E G,G.ownsRow (f.heap.size+1) 66 1 (.slice a6 (l.length+1) E) (l.length+1) (l.map pv++ [pv (t.heap.size+1)])→(M.alloc (.cells #[.pointer (some ⟨t.heap.size+1,0,none⟩)] 66)).grownBy G (Value.slice da l.length B).ownBlock→((Value.slice a6 (l.length+1) E).ownBlock=(Value.slice da l.length B).ownBlock∨(Value.slice a6 (l.length+1) E).ownBlock=some (M.alloc (.cells #[.pointer (some ⟨t.heap.size+1,0,none⟩)] 66)).heap.size)→
    G.cell? ⟨f.heap.size,1,none⟩=some (.slice da l.length B)∧G.frozen? ⟨f.heap.size,1,none⟩=false∧∃q6,Hid ((l++ [t.heap.size+1]).length=k+1∧eN pa w.heap.size f.heap.size eb eo ib (f.heap.size+6) (f.heap.size+1) (f.heap.size+5) w.heap.size (l++ [t.heap.size+1]) (Qx++ [t.heap.size]) q6 (.slice a6 (l.length+1) E) (G.setCell ⟨f.heap.size,1,none⟩ (.slice a6 (l.length+1) E))∧Below w.heap.size w (G.setCell ⟨f.heap.size,1,none⟩ (.slice a6 (l.length+1) E))∧f.heap.size+7≤(G.setCell ⟨f.heap.size,1,none⟩ (.slice a6 (l.length+1) E)).heap.size)):=fun a6 E G hr hg hv=>by
    have Y:Kept (fun c=>(Value.slice da l.length B).ownBlock=some c) (M.alloc (.cells #[.pointer (some ⟨t.heap.size+1,0,none⟩)] 66)) G:=(Kept.refl _ _).grown hg fun k hk _=>hk;have Ra:(Value.slice da l.length B).ownBlock≠some f.heap.size:=fun e=>by have:=(P9.row.lt _ e).1;omega
    have Rb:f.heap.size<(M.alloc (.cells #[.pointer (some ⟨t.heap.size+1,0,none⟩)] 66)).heap.size:=by simp only[World.size_alloc];omega
    have S5:Below w.heap.size w (G.setCell ⟨f.heap.size,1,none⟩ (.slice a6 (l.length+1) E)):=((S3.trans (QU.mono (by omega))).grown hg (by omega) fun k hk=>by have:=(P9.row.lt _ hk).1;omega).setCell (by simp;omega) _;have TJ:(G.setCell ⟨f.heap.size,1,none⟩ (.slice a6 (l.length+1) E)).heap.size=G.heap.size:=by simp
    have Z:=Y.size;have TK:f.heap.size+7≤(M.alloc (.cells #[.pointer (some ⟨t.heap.size+1,0,none⟩)] 66)).heap.size:=by simp only[World.size_alloc];omega
    refine⟨by rw[Y.cell Rb Ra];exact ak QU y1,by rw[Y.frozen Rb Ra];exact TS.frozen_kept QU Q_ S4,?_⟩;rw[show(M.alloc (.cells #[.pointer (some ⟨t.heap.size+1,0,none⟩)] 66)).heap.size=t.heap.size+3 by simp only[World.size_alloc];omega]at hv;rw[QT.out]at hg;obtain⟨q6,h6⟩:=P9.step ⟨by omega,by omega,by omega,by omega⟩ hg hr hv;exact⟨q6,by have:=V.out;simp;omega,h6,S5,by omega⟩
   (refine fv rfl (by rfl) (by intro W hW;go_simp<;>with_reducible rfl) ?_;try simp only[Act.put,oa,ob,oc])
   (refine fv rfl (by rfl) (by intro W hW;go_simp<;>with_reducible rfl) ?_;try simp only[Act.put,oa,ob,oc])
   (refine fv rfl (by rfl) (by intro W hW;go_simp<;>with_reducible rfl) ?_;try simp only[Act.put,oa,ob,oc])
   (refine fv rfl (by rfl) (by intro W hW;go_simp<;>with_reducible rfl) ?_;try simp only[Act.put,oa,ob,oc])
   (refine fv rfl (by rfl) (by intro W hW;go_simp<;>with_reducible rfl) ?_;try simp only[Act.put,oa,ob,oc])
   refine pj rfl rfl (by rfl) (by rfl) (fun K p=> ?_) (fun K p=> ?_)
   ·
    go_simp
    ((try simp only[]);refine p _ _ trivial (fun _=> ?_);clear p K;try simp only[Act.put,oa,ob,oc])
    refine ey rfl (by rfl) (fun K p=> ?_);go_simp
    go_at_call 34
    refine Qz.out.mono ?_;rintro e1 w1 ⟨rfl,rfl⟩;((try simp only[]);refine p _ _ trivial (fun _=> ?_);clear p K;try simp only[Act.put,oa,ob,oc])
    refine ey rfl (by rfl) (fun K p=> ?_);go_simp
    go_at_call 31
    refine S.out.mono ?_;rintro e1 w1 ⟨rfl,R9⟩;subst w1;((try simp only[]);refine p _ _ trivial (fun _=> ?_);clear p K;try simp only[Act.put,oa,ob,oc])
    refine ey rfl (by rfl) (fun K p=> ?_);go_simp
    ((try simp only[]);refine p _ _ trivial (fun _=> ?_);clear p K;try simp only[Act.put,oa,ob,oc])
    refine ey rfl (by rfl) (fun K p=> ?_);refine TS.jZ _ _ 68 rfl (f.heap.size+1) 66 i0 (.pointer none) 1 8 Tryz.underlying68 QR Qf Qg Qh rfl (by decide) (.slice da l.length B) l.length (l.map pv) rfl Qk.out ⟨M.heap.size,0,none⟩ 1 1 [.pointer (some ⟨t.heap.size+1,0,none⟩)] rfl rfl Ql.out (TS.one_one rfl) ?_ ?_ ?_ ?_
    ·have:=X.out;unfold maxLen;omega
    ·have:=X.out;omega
    ·simp only[World.size_alloc];omega
    intro v6 G r H _ I;obtain⟨a6,E,rfl⟩:=aZ r;((try simp only[]);refine p _ _ trivial (fun _=> ?_);clear p K;try simp only[Act.put,oa,ob,oc])
    (refine fv rfl (by rfl) (by intro W hW;go_simp<;>with_reducible rfl) ?_;try simp only[Act.put,oa,ob,oc])
    (refine fv rfl (by rfl) (by intro W hW;go_simp<;>with_reducible rfl) ?_;try simp only[Act.put,oa,ob,oc])
    obtain⟨x6,Rw,q6,A⟩:=Qm.out _ _ _ r H I;clear r H I;refine ey rfl (by rfl) (fun K p=> ?_);go_simp
    ((try simp only[]);refine p _ _ trivial (fun _=> ?_);clear p K;try simp only[Act.put,oa,ob,oc])
    refine mU ?_;go_wp2_with fail
    exact⟨⟨k+1,_,_,_,_,by omega,by go_num,A.out⟩,by first|omega|(simp[intOf];omega)⟩
   ·
    go_simp
    go_at_call 34
    refine Qz.out.mono ?_;rintro e1 w1 ⟨rfl,rfl⟩;((try simp only[]);refine p _ _ trivial (fun _=> ?_);clear p K;try simp only[Act.put,oa,ob,oc])
    refine pj rfl rfl (by rfl) (by rfl) (fun K p=> ?_) (fun K p=> ?_)
    ·skip
     go_simp
     ((try simp only[]);refine p _ _ trivial (fun _=> ?_);clear p K;try simp only[Act.put,oa,ob,oc])
     refine ey rfl (by rfl) (fun K p=> ?_);go_simp
     go_at_call 31
     refine S.out.mono ?_;rintro e1 w1 ⟨rfl,R9⟩;subst w1;((try simp only[]);refine p _ _ trivial (fun _=> ?_);clear p K;try simp only[Act.put,oa,ob,oc])
     refine ey rfl (by rfl) (fun K p=> ?_);go_simp
     ((try simp only[]);refine p _ _ trivial (fun _=> ?_);clear p K;try simp only[Act.put,oa,ob,oc])
     refine ey rfl (by rfl) (fun K p=> ?_);refine TS.jZ _ _ 68 rfl (f.heap.size+1) 66 i0 (.pointer none) 1 8 Tryz.underlying68 QR Qf Qg Qh rfl (by decide) (.slice da l.length B) l.length (l.map pv) rfl Qk.out ⟨M.heap.size,0,none⟩ 1 1 [.pointer (some ⟨t.heap.size+1,0,none⟩)] rfl rfl Ql.out (TS.one_one rfl) ?_ ?_ ?_ ?_
     ·have:=X.out;unfold maxLen;omega
     ·have:=X.out;omega
     ·simp only[World.size_alloc];omega
     intro v6 G r H _ I;obtain⟨a6,E,rfl⟩:=aZ r;((try simp only[]);refine p _ _ trivial (fun _=> ?_);clear p K;try simp only[Act.put,oa,ob,oc])
     (refine fv rfl (by rfl) (by intro W hW;go_simp<;>with_reducible rfl) ?_;try simp only[Act.put,oa,ob,oc])
     (refine fv rfl (by rfl) (by intro W hW;go_simp<;>with_reducible rfl) ?_;try simp only[Act.put,oa,ob,oc])
     obtain⟨x6,Rw,q6,A⟩:=Qm.out _ _ _ r H I;clear r H I;refine ey rfl (by rfl) (fun K p=> ?_);go_simp
     ((try simp only[]);refine p _ _ trivial (fun _=> ?_);clear p K;try simp only[Act.put,oa,ob,oc])
     refine mU ?_;go_wp2_with fail
     exact⟨⟨k+1,_,_,_,_,by omega,by go_num,A.out⟩,by first|omega|(simp[intOf];omega)⟩
    ·skip
     go_simp
     go_at_call 31
     refine S.out.mono ?_;rintro e1 w1 ⟨rfl,R9⟩;subst w1;((try simp only[]);refine p _ _ trivial (fun _=> ?_);clear p K;try simp only[Act.put,oa,ob,oc])
     refine pj rfl rfl (by rfl) (by rfl) (fun K p=> ?_) (fun K p=> ?_)
     ·skip
      go_simp
      ((try simp only[]);refine p _ _ trivial (fun _=> ?_);clear p K;try simp only[Act.put,oa,ob,oc])
      refine ey rfl (by rfl) (fun K p=> ?_);go_simp
      ((try simp only[]);refine p _ _ trivial (fun _=> ?_);clear p K;try simp only[Act.put,oa,ob,oc])
      refine ey rfl (by rfl) (fun K p=> ?_);refine TS.jZ _ _ 68 rfl (f.heap.size+1) 66 i0 (.pointer none) 1 8 Tryz.underlying68 QR Qf Qg Qh rfl (by decide) (.slice da l.length B) l.length (l.map pv) rfl Qk.out ⟨M.heap.size,0,none⟩ 1 1 [.pointer (some ⟨t.heap.size+1,0,none⟩)] rfl rfl Ql.out (TS.one_one rfl) ?_ ?_ ?_ ?_
      ·have:=X.out;unfold maxLen;omega
      ·have:=X.out;omega
      ·simp only[World.size_alloc];omega
      intro v6 G r H _ I;obtain⟨a6,E,rfl⟩:=aZ r;((try simp only[]);refine p _ _ trivial (fun _=> ?_);clear p K;try simp only[Act.put,oa,ob,oc])
      (refine fv rfl (by rfl) (by intro W hW;go_simp<;>with_reducible rfl) ?_;try simp only[Act.put,oa,ob,oc])
      (refine fv rfl (by rfl) (by intro W hW;go_simp<;>with_reducible rfl) ?_;try simp only[Act.put,oa,ob,oc])
      obtain⟨x6,Rw,q6,A⟩:=Qm.out _ _ _ r H I;clear r H I;refine ey rfl (by rfl) (fun K p=> ?_);go_simp
      ((try simp only[]);refine p _ _ trivial (fun _=> ?_);clear p K;try simp only[Act.put,oa,ob,oc])
      refine mU ?_;go_wp2_with fail
      exact⟨⟨k+1,_,_,_,_,by omega,by go_num,A.out⟩,by first|omega|(simp[intOf];omega)⟩
     ·skip
      go_simp
      ((try simp only[]);refine p _ _ trivial (fun _=> ?_);clear p K;try simp only[Act.put,oa,ob,oc])
      refine ey rfl (by rfl) (fun K p=> ?_);go_simp
      ((try simp only[]);refine p _ _ trivial (fun _=> ?_);clear p K;try simp only[Act.put,oa,ob,oc])
      refine ey rfl (by rfl) (fun K p=> ?_);refine TS.jZ _ _ 68 rfl (f.heap.size+1) 66 i0 (.pointer none) 1 8 Tryz.underlying68 QR Qf Qg Qh rfl (by decide) (.slice da l.length B) l.length (l.map pv) rfl Qk.out ⟨M.heap.size,0,none⟩ 1 1 [.pointer (some ⟨t.heap.size+1,0,none⟩)] rfl rfl Ql.out (TS.one_one rfl) ?_ ?_ ?_ ?_
      ·have:=X.out;unfold maxLen;omega
      ·have:=X.out;omega
      ·simp only[World.size_alloc];omega
      intro v6 G r H _ I;obtain⟨a6,E,rfl⟩:=aZ r;((try simp only[]);refine p _ _ trivial (fun _=> ?_);clear p K;try simp only[Act.put,oa,ob,oc])
      (refine fv rfl (by rfl) (by intro W hW;go_simp<;>with_reducible rfl) ?_;try simp only[Act.put,oa,ob,oc])
      (refine fv rfl (by rfl) (by intro W hW;go_simp<;>with_reducible rfl) ?_;try simp only[Act.put,oa,ob,oc])
      obtain⟨x6,Rw,q6,A⟩:=Qm.out _ _ _ r H I;clear r H I;refine ey rfl (by rfl) (fun K p=> ?_);go_simp
      ((try simp only[]);refine p _ _ trivial (fun _=> ?_);clear p K;try simp only[Act.put,oa,ob,oc])
      refine mU ?_;go_wp2_with fail
      exact⟨⟨k+1,_,_,_,_,by omega,by go_num,A.out⟩,by first|omega|(simp[intOf];omega)⟩
  ·have TL:¬(k:Int)<D.len:=by omega
   obtain rfl:k=D.len:=by omega
   have hO:=F.out;obtain⟨q3,TM,TN,S6,QB,P_,Rc⟩:=P.out.done D T (by have:=V.out;omega);injection S6 with R_ _ Sa
   subst R_;subst Sa;obtain⟨g,hg⟩:∃g,Hid (g=iK eb eo ib (f.heap.size+6) (f.heap.size+1) (f.heap.size+5) w.heap.size l Qx):=⟨_,rfl⟩
   have QC:Hid (∀j,j<D.len→gF q3 g wr j∧q3 (g.ob j) 1=some (ptr g.pk)):=fun j hj=>by
    have O:j<l.length:=by have:=V.out;omega
    have Rx:j<Qx.length:=by have:=P.out.ol;omega
    obtain⟨k1,k2,k3,k4⟩:=P.out.nm j O Rx;rw[hg.out];refine⟨⟨?_,?_⟩,?_⟩
    ·rw[iL O,iM Rx];exact k3
    ·rw[iL O];exact Rc j O
    ·rw[iM Rx];exact P_ _ _ _ k4
   have Sb:Hid (∃s,q3 g.pk 0=some (.string s)):=by
    obtain⟨s,h⟩:=P.out.ph;rw[hg.out];exact⟨s,P_ _ _ _ h⟩
   rw[←hg.out]at QB;have Ry:=Lib.hid QB;have QV:=Qy;clear QB P Rc P_ V hg Qw R6;go_wp2_with fail
   go_loopw [42] (fun vk wr=> ∃(i:Nat)(q:Pm)(g:Ge)(mv:Value)(ms:List Nat),i≤D.len∧vk= .int .i64 i∧L2 ⟨D,T,i,pa,w.heap.size,f.heap.size,da,B⟩ w q g mv ms wr) (fun vk _=>D.len- (intOf vk).toNat)
   case atStart=>exact⟨0,q3,g,_,[],Nat.zero_le _,rfl,Ry.out,fun j _ hj=>(QC.out j hj).1,fun j hj=>absurd hj (Nat.not_lt_zero _),fun j hj=>(QC.out j hj).2,Sb.out,Nat.zero_le _,QV.out,Nat.le_refl _⟩
   case round=>
    obtain⟨i,q4,g4,Sc,Rz,TO,rfl,Sd⟩:=hrel;have z:=Lib.hid Sd;clear Sd;by_cases QD:i<D.len
    ·have S7:(i:Int)<D.len:=by omega
     have Qa:i<fds.length:=by have:=F.out.len;omega
     have QW:i<T.length:=by have:=F.out.tl;omega
     obtain⟨wb,J,RA,ua,uc,ma,mc,h7,Z,Qr,_,_,_⟩:=RV.out.at' i Qa;have QE:=F.out.un i Qa QW;have Q:=(F.out.ms i Qa).1;generalize fds[i]=d at h7 Z Qr QE Q;have Se:=pd ⟨D,T,i,pa,w.heap.size,f.heap.size,da,B⟩ d.un (by rw[QE];exact F.out.ty ⟨D,T,i,pa,w.heap.size,f.heap.size,da,B⟩ QW rfl rfl);have RC:=F.out.lo _ (List.getElem_mem QW);rw[←QE]at RC;have RD:T[i]?=some d.un:=by rw[List.getElem?_eq_getElem QW,QE]
     obtain⟨z0,z1,z2,z3,z4,z5,z6⟩:(wr.cell? ⟨wb,J+i*8,none⟩=some (.int .i64 d.un.k)∧wr.cell? ⟨wb,J+i*8+1,none⟩=some (.int .i64 d.un.n)∧wr.cell? ⟨wb,J+i*8+2,none⟩=some (.int .i64 d.un.m)∧wr.cell? ⟨wb,J+i*8+3,none⟩=some (.bool d.un.v)∧wr.cell? ⟨wb,J+i*8+4,none⟩=some (.string d.un.nm)∧wr.cell? ⟨wb,J+i*8+5,none⟩=some (.string d.un.tg)∧wr.cell? ⟨wb,J+i*8+6,none⟩=some (.slice ua d.un.es.length uc)):=h7.world z.out.bs.ka;have z7:wr.cell? ⟨wb,J+i*8+7,none⟩=some (.slice ma d.ms.length mc):=z.out.bs.ka _ _ _ Z;have QF:=World.block_lt_of_cell? _ _ z0;simp only at QF;have RE:Below wr.heap.size wr ((wr.alloc (.cells #[.int .i64 d.un.k,.int .i64 d.un.n,.int .i64 d.un.m,.bool d.un.v,.string d.un.nm,.string d.un.tg,.slice ua d.un.es.length uc,.slice ma d.ms.length mc] 56)).drew):=((Below.refl _ _).alloc (Nat.le_refl _) _).drew;have S8:=fo RD;have S9:=iG T (i+1);have Sf:=Lib.hid (Se q4 g4 Sc Rz ua uc _ (z.out.bs.below RE) (by have h1:=z.out.ct;have h2:=F.out.ct;have h3:Rz.length≤aO (T.take i):=h1;omega) Qr);have Sg:g4.len=D.len:=z.out.bs.len;obtain⟨rb,ro,rfl,RF⟩:=z.out.bs.c1.2 i (by omega);have y1:wr.cell? ⟨f.heap.size,1,none⟩=some (.slice (some ⟨rb,ro,none⟩) D.len B):=by have h1:=z.out.bs.c1.1;rwa [Sg]at h1
     have yr:=z.out.bs.wb.kw _ _ _ RF;have Sh:=World.block_lt_of_cell? _ _ y1;have Si:=World.block_lt_of_cell? _ _ yr;simp only at Sh Si;have Re:=Lib.hid RF;have QG:=Lib.hid RE;have Sj:=Lib.hid RD;have Sk:=Lib.hid RC;rw[RA];clear h7 Z Qr QE Se RC RD RE S8 S9 Sg RF;go_wp2_with fail
     refine oR (fun W=>(W.cell? ⟨f.heap.size,1,none⟩=some (.slice (some ⟨rb,ro,none⟩) D.len B)∧W.cell? ⟨rb,ro+i,none⟩=some (ptr (g4.nb i)))∧(W.cell? ⟨wr.heap.size,0,none⟩=some (.int .i64 d.un.k)∧W.cell? ⟨wr.heap.size,1,none⟩=some (.int .i64 d.un.n)∧W.cell? ⟨wr.heap.size,2,none⟩=some (.int .i64 d.un.m)∧W.cell? ⟨wr.heap.size,3,none⟩=some (.bool d.un.v)∧W.cell? ⟨wr.heap.size,4,none⟩=some (.string d.un.nm)∧W.cell? ⟨wr.heap.size,5,none⟩=some (.string d.un.tg)∧W.cell? ⟨wr.heap.size,6,none⟩=some (.slice ua d.un.es.length uc))) [(0,true),(1,true),(2,true),(3,true),(4,true),(5,true),(6,true),(7,true),(8,true),(9,true),(10,false),(11,false),(12,false)] (by(repeat' apply And.intro)<;>first|(simp[go_sem];done)|(go_keep;done)) (fun P4=> ?_);iterate 10 ((first|refine oS ?_|refine oF P4 ?_);try simp only[Act.put,oa,ob,oc])
     refine oL fun K p=> ?_;go_simp;go_at_call 36
     refine Sf.out.mono ?_;rintro e1 G ⟨x,q5,g5,S_,Ta,rfl,Sl,Qb,P5,Td,_,Sm⟩;have QH:=Sk.out;have L:bare d.un=d.un:=ca QH.2.2 (by omega);have Rg:under d.un=d.un:=C3 QH;obtain⟨t5,b5,rt,QX,rfl,hU,hr⟩:=iA Sl (by rw[L,L]) (by rw[L];intro h;omega) (by rw[L];omega) (by rw[L];omega);have RG:TS.Node q5 g5 d.un (ae rt QX):=by
      rcases hr with⟨_,h⟩|⟨h,_⟩
      ·rwa [Rg]at h
      ·rw[Rg]at h;omega
     have Sn:=C4 RG QH.1 QH.2.1 QH.2.2;obtain⟨K5,TP,c5,Sp,QI,Rh,RH,TQ,Sq⟩:=hU G Qb.wb.kw;have Tw:=fun args w=>Go.MuLone.run_callFunc_enter Sp QI Rh args w;have QJ:g5.nb=g4.nb:=P5.gs.nb;have RI:=z.out.wait QD QG.out P5;obtain⟨q6,Qs,QK,Y⟩:=z.out.step QD Sj.out QG.out Qb P5 Sm RG;have Sr:∀o v,((wr.alloc (.cells #[.int .i64 d.un.k,.int .i64 d.un.n,.int .i64 d.un.m,.bool d.un.v,.string d.un.nm,.string d.un.tg,.slice ua d.un.es.length uc,.slice ma d.ms.length mc] 56)).drew).cell? ⟨wr.heap.size,o,none⟩=some v→G.cell? ⟨wr.heap.size,o,none⟩=some v:=fun o v h=>(gS z.out.bs QG.out.size P5).2 _ _ _ (Nat.le_refl _) h;have Ss:G.cell? ⟨f.heap.size,1,none⟩=some (.slice (some ⟨rb,ro,none⟩) D.len B):=by
      have h1:=Qb.c1.1;have h2:g5.len=D.len:=Qb.len;rwa [h2]at h1
     have St:G.cell? ⟨rb,ro+i,none⟩=some (ptr (g4.nb i)):=Qb.wb.kw _ _ _ (P5.gr.le _ _ _ Re.out);obtain⟨_,s0,s1,s2,s3,s4,s5,s6⟩:=P4;(try simp only[]);refine p _ _ (by(repeat' apply And.intro)<;>first|exact Ss|exact St|exact Sr _ _ (by assumption)) fun P4=> ?_;clear p K;try simp only[Act.put,oa,ob,oc]
     clear s0 s1 s2 s3 s4 s5 s6;rw[show(⟨D,T,i,pa,w.heap.size,f.heap.size,some ⟨rb,ro,none⟩,B⟩:BC).i=i from rfl,QJ]at Qs Y;have Qt:∀o v,(fp (g5.ob i))[o]?=some v→G.cell? ⟨g4.nb i,o,none⟩=some v:=fun o v e=>by have h1:=RI.1;rw[show(⟨D,T,i,pa,w.heap.size,f.heap.size,some ⟨rb,ro,none⟩,B⟩:BC).i=i from rfl,QJ]at h1;simp only[World.cell?,h1];exact e
     have R:∀o,G.frozen? ⟨g4.nb i,o,none⟩=false:=fun o=>by have h1:=RI.1;rw[show(⟨D,T,i,pa,w.heap.size,f.heap.size,some ⟨rb,ro,none⟩,B⟩:BC).i=i from rfl,QJ]at h1;simp[World.frozen?,h1]
     obtain⟨W7,Su⟩:∃W7,W7=(((((((G.setCell ⟨g4.nb i,3,none⟩ (.int .i32 1)).setCell ⟨g4.nb i,6,none⟩ (ae rt QX)).setCell ⟨g4.nb i,2,none⟩ (.bool false)).setCell ⟨g4.nb i,5,none⟩ (.int .u32 7)).setCell ⟨g4.nb i,7,none⟩ (ae rt QX)).setCell ⟨g4.nb i,5,none⟩ (.int .u32 15)).setCell ⟨g4.nb i,3,none⟩ (.int .i32 0)):=⟨_,rfl⟩
     have Qc:=(ot (g4.nb i) rt (some ⟨QX,0,none⟩) Sn.1 Sn.2 G ⟨_,Qt 2 _ rfl⟩ (Qt 3 _ rfl) (Qt 5 _ rfl) ⟨_,Qt 6 _ rfl⟩ ⟨_,Qt 7 _ rfl⟩ (R 2) (R 3) (R 5) (R 6) (R 7))
     rw[←Su]at Qc Qs Y;have Ri:=Lib.hid Qc;have Sv:=Lib.hid Qs;have Sw:=Lib.hid Y;have Tx:g4.nb i<wr.heap.size:=z.out.bs.wb.kw.lt (z.out.bs.nm i (by rw[z.out.bs.len];exact QD));have Sx:wr.heap.size<G.heap.size:=by have:=P5.size;simp at this;omega
     have Sy:=Qs.bs.wb.kw _ _ _ (QK _ _ _ (P5.gr.le _ _ _ Re.out));have Sz:W7.cell? ⟨f.heap.size,1,none⟩=some (.slice (some ⟨rb,ro,none⟩) D.len B):=by
      have h1:W7.cell? ⟨f.heap.size,1,none⟩=some (.slice (some ⟨rb,ro,none⟩) g5.len B):=Qs.bs.c1.1;have h2:g5.len=D.len:=Qb.len;rwa [h2]at h1
     clear Sp QI Rh Sl Qb P5 Td hU hr RG RI Qs Y Sr Ss St Qt R QK Sf Su Qc;refine oL fun K p=> ?_;go_simp;refine Sq.mono ?_;rintro e2 w7 ⟨rfl,rfl⟩;(try simp only[]);refine p _ _ (P4) fun P4=> ?_;clear p K;try simp only[Act.put,oa,ob,oc]
     refine oL fun K p=> ?_;go_simp;go_at_call 35
     refine Ri.out.mono ?_;rintro e3 w7 ⟨rfl,TR⟩;subst w7;obtain⟨_,s0,s1,s2,s3,s4,s5,s6⟩:=P4;(try simp only[]);refine p _ _ (by(repeat' apply And.intro)<;>first|exact Sz|exact Sy|(rw[Sw.out.cell Sx (by omega)];assumption)) fun P4=> ?_;clear p K;try simp only[Act.put,oa,ob,oc]
     refine bR ?_;clear P4 s0 s1 s2 s3 s4 s5 s6 Sz Sy Ri Sq;go_wp2_with fail
     exact⟨⟨i+1,q6,g5,S_,Ta,by omega,by go_num,Sv.out⟩,by first|omega|(simp[intOf];omega)⟩
    ·have Ty:¬(i:Int)<D.len:=by omega
     obtain rfl:i=D.len:=by omega
     have Te:=F.out.tl;have Tf:=Lib.hid (z.out.done rfl (N:=aO T) (iG T _));clear z;go_wp2_with fail
     go_loopw [63] (fun vk wr=> ∃(i:Nat)(q:Pm)(g:Ge)(mv:Value)(ms:List Nat),i≤D.len∧vk= .int .i64 i∧L3 ⟨D,T,D.len,pa,w.heap.size,f.heap.size,da,B⟩ w i q g mv ms (aO T+cN (fds.take i)) wr) (fun vk _=>D.len- (intOf vk).toNat)
     case atStart=>exact⟨0,q4,g4,Sc,Rz,Nat.zero_le _,rfl,Tf.out.mT (Nat.le_refl _) (by omega)⟩
     case round=>
      obtain⟨i,q7,g7,SA,SB,Tz,rfl,SC⟩:=hrel;have y:=Lib.hid SC;clear SC;obtain⟨J,rfl⟩:∃J:World,J=wr:=⟨_,rfl⟩
      by_cases Qn:i<D.len
      ·have Tg:(i:Int)<D.len:=by omega
       have Qa:i<fds.length:=by have:=F.out.len;omega
       obtain⟨wb,xo,RA,ua,uc,ma,mc,h7,Z,Qr,SD,TT,RJ⟩:=RV.out.at' i Qa;have RK:=List.getElem?_eq_getElem Qa;have Q:=F.out.ms i Qa;generalize fds[i]=d at h7 Z Qr Q SD RJ RK;have Th:=C6 RK;have SE:=ur fds (i+1);obtain⟨z0,z1,z2,z3,z4,z5,z6⟩:(J.cell? ⟨wb,xo+i*8,none⟩=some (.int .i64 d.un.k)∧J.cell? ⟨wb,xo+i*8+1,none⟩=some (.int .i64 d.un.n)∧J.cell? ⟨wb,xo+i*8+2,none⟩=some (.int .i64 d.un.m)∧J.cell? ⟨wb,xo+i*8+3,none⟩=some (.bool d.un.v)∧J.cell? ⟨wb,xo+i*8+4,none⟩=some (.string d.un.nm)∧J.cell? ⟨wb,xo+i*8+5,none⟩=some (.string d.un.tg)∧J.cell? ⟨wb,xo+i*8+6,none⟩=some (.slice ua d.un.es.length uc)):=h7.world y.out.bs.ka;have z7:J.cell? ⟨wb,xo+i*8+7,none⟩=some (.slice ma d.ms.length mc):=y.out.bs.ka _ _ _ Z;have QF:=World.block_lt_of_cell? _ _ z0;simp only at QF;have SF:=Lib.hid RJ;have RM:=Lib.hid Q;have Rj:=Lib.hid (show aO T+cN (fds.take i)+cg d.ms≤1099511627776∧cN (fds.take (i+1))=cN (fds.take i)+cg d.ms by have:=F.out.ct;omega);obtain⟨ml,Qo⟩:∃ml,Hid (d.ms.length=ml):=⟨_,rfl⟩
       have Rk:ml≤1048576:=by have h1:=Q.1;have h2:=Qo.out;omega
       have TA:ml≤mc:=by have h2:=Qo.out;omega
       rw[Qo.out]at z7;rw[RA];clear h7 Z Qr RJ Q Th SE RK SD;go_wp2_with fail
       go_loopw [71] (fun vj wr=> ∃(j:Nat)(q:Pm)(g:Ge)(mv:Value)(ms:List Nat)(v:Value)(fs:List Nat),j≤ml∧vj= .int .i64 j∧L3 ⟨D,T,D.len,pa,w.heap.size,f.heap.size,da,B⟩ w (i+1) q g mv ms (aO T+cN (fds.take i)+cg (d.ms.take j)) wr∧dh ⟨D,T,D.len,pa,w.heap.size,f.heap.size,da,B⟩ q g wr i j (j5 d.ms) v fs) (fun vj _=>ml- (intOf vj).toNat)
       case atStart=>
        have SG:Below J.heap.size J (J.alloc (.cells #[.int .i64 d.un.k,.int .i64 d.un.n,.int .i64 d.un.m,.bool d.un.v,.string d.un.nm,.string d.un.tg,.slice ua d.un.es.length uc,.slice ma ml mc] 56)):=(Below.refl _ _).alloc (Nat.le_refl _) _;exact⟨0,q7,g7,SA,SB,_,[],Nat.zero_le _,rfl,(y.out.mT (Nat.le_succ _) (by omega)).below SG,((y.out.mt i (Nat.le_refl _) Qn).below SG).zero⟩
       case round=>
        obtain⟨j,q8,g8,SH,SI,v8,Ti,TU,rfl,SJ,SK⟩:=hrel;have Qp:=Lib.hid SJ;have Rl:=Lib.hid SK;clear SJ SK;by_cases TB:j<ml
        ·have Tj:(j:Int)<ml:=by omega
         have O:j<d.ms.length:=by have:=Qo.out;omega
         obtain⟨mb,mo,Tk,k0,k1,_,a8,c8,k2,RN⟩:=SF.out.at' j O;have RP:=List.getElem?_eq_getElem O;obtain⟨Rk,SL,RH⟩:=RM.out;have Qd:=RH d.ms[j] (List.getElem_mem O);have QL:∀k,k<j→((j5 d.ms k).toList==d.ms[j].nm.toList)=false:=fun k hk=>by
          have:=List.pairwise_iff_getElem.1 SL k j (by omega) O hk;simpa [j5,show k<d.ms.length by omega]using this
         have QM:j5 d.ms j=d.ms[j].nm:=by simp[j5,O]
         generalize d.ms[j]=m at k0 k1 k2 RN Qd QL QM RP;subst Tk;have ka:=Qp.out.bs.ka;have x0:=ka _ _ _ k0;have x1:=ka _ _ _ k1;obtain⟨x2,x3,x4,x5,x6,x7,x8⟩:(wr.cell? ⟨mb,mo+j*9+2,none⟩=some (.int .i64 m.sig.k)∧wr.cell? ⟨mb,mo+j*9+3,none⟩=some (.int .i64 m.sig.n)∧wr.cell? ⟨mb,mo+j*9+4,none⟩=some (.int .i64 m.sig.m)∧wr.cell? ⟨mb,mo+j*9+5,none⟩=some (.bool m.sig.v)∧wr.cell? ⟨mb,mo+j*9+6,none⟩=some (.string m.sig.nm)∧wr.cell? ⟨mb,mo+j*9+7,none⟩=some (.string m.sig.tg)∧wr.cell? ⟨mb,mo+j*9+8,none⟩=some (.slice a8 m.sig.es.length c8)):=k2.world ka;have SM:=World.block_lt_of_cell? _ _ x0;simp only at SM;have RR:Below wr.heap.size wr (wr.alloc (.cells #[.string m.nm,.bool m.ptr,.int .i64 m.sig.k,.int .i64 m.sig.n,.int .i64 m.sig.m,.bool m.sig.v,.string m.sig.nm,.string m.sig.tg,.slice a8 m.sig.es.length c8] 81)):=(Below.refl _ _).alloc (Nat.le_refl _) _;have P6:=Qp.out.below RR;have QN:=Rl.out.below RR;obtain⟨sp,SN⟩:=P6.pk;have RS:g8.len=D.len:=P6.bs.len;obtain⟨x9,SO,SP⟩:=P6.bs.tn i (by have:T.length=D.len:=Te;show i<T.length;omega) Qn;have SQ:=C5 RP;have Tl:=uq d.ms (j+1);have QO:=Lib.hid (C0 ⟨D,T,D.len,pa,w.heap.size,f.heap.size,da,B⟩ i j m a8 c8 sp (j5 d.ms) v8 Ti q8 g8 SH SI _ (by omega) P6.bs QN SO.1 (P6.ob i Qn) SN Qd.1 Qd.2.1 Qd.2.2.1 (fun e he=>pd _ e (Qd.2.2.2.2 ⟨D,T,D.len,pa,w.heap.size,f.heap.size,da,B⟩ rfl rfl rfl e he)) RN (by have:=P6.ct;have:=Rj.out.1;omega) (by omega) QM QL Qd.2.2.2.1);have SR:=Lib.hid P6;have SS:=Lib.hid QN;have SU:=Lib.hid SQ;clear k0 k1 k2 RN Qd QL QM RP SL RH Rk ka RR P6 QN SN SP RS SO SQ Tl Qp Rl;go_wp2_with fail
         refine QO.out.mono ?_;rintro e8 w8 ⟨rfl,q9,g9,Tn,To,v9,Tp,QP,Rm,Rn,Ro,QQ,_,_,Rp⟩;have Qq:=Lib.hid (And.intro (SR.out.step Qn SS.out QP Rn Ro QQ Rp) Rm);clear QP Rm Rn Ro QQ Rp QO;go_wp2_with fail
         exact⟨⟨j+1,q9,g9,Tn,To,v9,Tp,by omega,by go_num,Qq.out.1.mT (Nat.le_refl _) (by have:=SU.out;omega),Qq.out.2⟩,by first|omega|(simp[intOf];omega)⟩
        ·have TC:¬(j:Int)<ml:=by omega
         obtain rfl:j=ml:=by omega
         go_wp2_with fail
         exact⟨⟨i+1,q8,g8,SH,SI,by omega,by go_num,Qp.out.mT (Nat.le_refl _) (by have:=Rj.out.2;have:=uq d.ms j;omega)⟩,by first|omega|(simp[intOf];omega)⟩
      ·have TD:¬(i:Int)<D.len:=by omega
       have SE:=ur fds i;have Rq:=Lib.hid (uu ⟨D,T,D.len,pa,w.heap.size,f.heap.size,da,B⟩ q7 g7 SA SB J y.out.bs (by have:=y.out.ct;have:=F.out.ct;omega));go_wp2_with fail
       refine Rq.out.mono ?_;rintro e9 w9 ⟨rfl,q9,QP,QN,QQ⟩;have Qq:Hid (uw pa D T w (.returned (.pointer (some ⟨f.heap.size,0,none⟩))) w9):=by
        have Tq:=y.out.bl.size;refine⟨⟨D,T,D.len,pa,w.heap.size,f.heap.size,da,B⟩,q9,g7,rfl,rfl,rfl,rfl,rfl,rfl,QP,Below.own y.out.bl QQ Tq fun b e=> ?_⟩;rcases e with e|e
        ·have e':b=f.heap.size:=e
         omega
        ·obtain⟨_,u,hu⟩:=y.out.bs.mlt b e
         exact y.out.bs.lp _ _ _ (y.out.bs.ifs b u hu).2.1
       clear QP QN QQ Rq;go_wp2_with fail
       go_ret;exact Qq.out
end Go.Proofs.YtgbklbbknehefaaGreatDoor
