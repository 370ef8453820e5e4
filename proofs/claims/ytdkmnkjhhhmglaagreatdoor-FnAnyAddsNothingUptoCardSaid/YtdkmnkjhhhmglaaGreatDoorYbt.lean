import Derived.Test.YtdkmnkjhhhmglaaGreatDoorYbq
import Derived.Test.YtdkmnkjhhhmglaaGreatDoorYbr
set_option maxRecDepth 100000
set_option maxHeartbeats 8000000
set_option linter.all false
namespace TS
open Go Go.RowKit Go.Proofs.YtdkmnkjhhhmglaaGreatDoor
structure rO(D:Dl)(T:List U)(fds:List aF):Prop where
 len:fds.length=D.len
 tl:T.length=D.len
 un:∀i(h:i<fds.length)(c:i<T.length),fds[i].un=T[i]
 ty:∀(C:BC)(h:C.i<T.length),C.D=D→C.T=T→gK C T[C.i]
 lo:∀t∈T,1≤t.k∧t.k≤10∧t.k≠2
 ms:∀i(h:i<fds.length),fds[i].ms.length≤1048576∧(fds[i].ms.Pairwise fun a b=>(a.nm.toList==b.nm.toList)=false)∧∀m∈fds[i].ms,m.sig.k=7∧(0≤m.sig.m∧m.sig.m.toNat≤m.sig.es.length)∧(m.sig.v=true→0<m.sig.m.toNat∧∃e,m.sig.es[m.sig.m.toNat- 1]?=some e∧e.k=4)∧(m.nm.toList== [95])=false∧
  ∀C:BC,C.D=D→C.T=T→C.i=D.len→∀e∈m.sig.es,gK C e
 ct:aK T+cB fds≤1099511627776
def xH(pa:Pm)(D:Dl)(T:List U)(w:World)(e:Ending)(a:World):Prop:=
 ∃(C:BC)(q:Pm)(g:Ge),e= .returned (.pointer (some ⟨C.bb,0,none⟩))∧C.D=D∧C.T=T∧C.i=D.len∧C.pa=pa∧C.B0=w.heap.size∧BS C q g (.slice none 0 0) [] a∧Below w.heap.size w a
end TS
namespace Go.Proofs.YtdkmnkjhhhmglaaGreatDoor
open Go.RowKit TS
theorem FX:(Tryz.prog.info? 58).map (fun i=>(i.zero,i.size,i.bytes))=some (some (.pointer none),1,8):=by kernel_rfl
theorem FY(pa:Pm)(D:Dl)(dc:Nat)(T:List U)(fds:List aF)(hO:rO D T fds)(hD:cE pa D fds)(w:World)(hw:KW pa w)(PX:br w):
 Calls Tryz.prog 16 #[.slice D.a D.len dc] w (xH pa D T w):=by
 have hG:=World.block_lt_of_cell? _ _ (PX 65 (by decide) (by decide));simp only at hG;have SE:5<(w.alloc (.cells #[.string ⟨#[112]⟩,.string ⟨#[112]⟩] 94)).heap.size:=by simp;omega
 have aa:Below w.heap.size w (w.alloc (.cells #[.string ⟨#[112]⟩,.string ⟨#[112]⟩] 94)):=(Below.refl _ _).alloc (Nat.le_refl _) _;have Qc:br (w.alloc (.cells #[.string ⟨#[112]⟩,.string ⟨#[112]⟩] 94)):=fun c h1 h2=>ar aa (PX c h1 h2);have hE:=Lib.hid (E6 _ Qc SE);have SF:=Lib.hid hw;have SG:=Lib.hid PX;have F:=Lib.hid hO;have Rx:=Lib.hid hD;have SH:=hD.kW;obtain⟨i0,Qz,PY,PZ,P0⟩:=info_parts FX;clear hw PX hO hD Qc;go_enter Tryz.func16,Tryz.ntmps16;go_wp2_with fail
 refine(AV _ _ _).mono ?_;rintro e1 w1 ⟨rfl,rfl⟩;go_wp2_with fail
 refine hE.out.mono ?_;rintro e2 f ⟨q2,eb,eo,ib,rfl,QG,P1,QH,Ry,Rz,RA,RC,RD,SI,SJ,RE⟩;have Qd:Below w.heap.size w f:=aa.trans (P1.mono (by simp));have QI:f.heap[w.heap.size]?=some (.cells #[.string ⟨#[112]⟩,.string ⟨#[112]⟩] 94 (0,0)):=(P1.block _ (by simp)).trans (cV rfl);obtain⟨q,QJ⟩:=FL SF.out QI QG Qd (fun b o v e=>by have:=QH b o v e;simpa using this) hG SI SJ ⟨Ry,Rz,RA,RC,RD,RE⟩;have PO:=Lib.hid QJ;have Q8:=Lib.hid Qd;have S9:w.heap.size+1≤f.heap.size:=by have:=P1.size;simp at this;omega
 clear QG P1 QH Ry Rz RA RC RD RE hE aa Qd QI QJ;go_wp2_with fail
 refine(qK _ _ _ _).mono ?_;rintro e3 w3 ⟨rfl,rfl⟩;go_wp2_with fail
 refine(Bp _).mono ?_;rintro e4 w4 ⟨rfl,RF⟩;have P2:w4=jT (ek f w.heap.size eb):=RF;have SK:w4.heap.size≤f.heap.size+6∧f.heap.size+6≤w4.heap.size:=by rw[P2];simp[jT,ek]
 have QA:Below (ek f w.heap.size eb).heap.size (ek f w.heap.size eb) w4:=by rw[P2];exact((((Below.refl _ _).alloc (Nat.le_refl _) _).alloc (by simp) _).alloc (by simp<;>omega) _).alloc (by simp<;>omega) _
 have hA1:(ek f w.heap.size eb).heap[f.heap.size+1]?=some (.cells #[.int .i64 0,.pointer none,.string ⟨#[99,111,109,112,97,114,97,98,108,101]⟩,.nilIface] 128 (0,0)):=cV (by simp);have hA0:(ek f w.heap.size eb).heap[f.heap.size]?=some (.cells #[.pointer (some ⟨w.heap.size,0,none⟩),.slice none 0 0,ae 58 eb,.nilIface,.slice none 0 0] 63 (0,0)):=by unfold ek;rw[dU (by simp)];exact cV rfl
 have Q9:=(QA.block _ (by simp[ek])).trans hA1;have Q_:=(QA.block _ (by simp[ek];omega)).trans hA0;have QK:w4.cell? ⟨f.heap.size+1,3,none⟩=some .nilIface:=by simp[World.cell?,Q9]
 have QL:w4.frozen? ⟨f.heap.size+1,3,none⟩=false:=by simp[World.frozen?,Q9]
 have QM:w4.cell? ⟨f.heap.size,3,none⟩=some .nilIface:=by simp[World.cell?,Q_]
 have QN:w4.frozen? ⟨f.heap.size,3,none⟩=false:=by simp[World.frozen?,Q_]
 have Ra:=Bh (f.heap.size+1) 44 (some ⟨f.heap.size+5,0,none⟩) (by decide) (by decide) w4 (by omega) QK QL;rw[show w4.heap.size=f.heap.size+6 by omega]at Ra;have hN:=Lib.hid Ra;rw[←P2]at PO;have RG:=Lib.hid (show Below f.heap.size f w4 from(((Below.refl _ _).alloc (Nat.le_refl _) _).alloc (by simp) _).trans (QA.mono (by simp[ek];omega)));clear RF P2 QA hA1 hA0 Q9 Q_ QK QL Ra;go_wp2_with fail
 refine hN.out.mono ?_;rintro e5 w5 ⟨rfl,PQ⟩;have h1:w5.cell? ⟨f.heap.size,3,none⟩=some .nilIface:=by rw[PQ,World.cell?_alloc_lt _ _ _ (by simp;omega),World.cell?_setCell_other _ _ _ _ (fun e=>absurd (congrArg Addr.block e) (by simp))];exact QM
 have h2:w5.frozen? ⟨f.heap.size,3,none⟩=false:=by rw[PQ,World.frozen?_alloc_old _ _ _ (by simp;omega),World.frozen?_setCell];exact QN
 have h3:f.heap.size<w5.heap.size:=by rw[PQ];simp;omega
 have Qe:Hid (fO pa w.heap.size f.heap.size eb eo ib (f.heap.size+6) (f.heap.size+1) (f.heap.size+5) w.heap.size [] [] q (.slice none 0 0) (w5.setCell ⟨f.heap.size,3,none⟩ (.iface 58 (.pointer (some ⟨f.heap.size+6,0,none⟩))))):=by rw[PQ];exact PO.out
 have RH:Hid (Below w.heap.size w (w5.setCell ⟨f.heap.size,3,none⟩ (.iface 58 (.pointer (some ⟨f.heap.size+6,0,none⟩))))):=by
  rw[PQ];exact Q8.out.trans ((((RG.out.setCell (by simp) _).alloc (by simp;omega) _).setCell (Nat.le_refl _) _).mono (by omega))
 have To:f.heap.size+7≤w5.heap.size:=by rw[PQ];simp;omega
 clear hN PQ PO SK QM QN;go_wp2_with fail
 go_loopw [25] (fun vk wr=> ∃(k:Nat)(l Qf:List Nat)(q:Pm)(B:Value),k≤D.len∧vk= .int .i64 k∧l.length=k∧fO pa w.heap.size f.heap.size eb eo ib (f.heap.size+6) (f.heap.size+1) (f.heap.size+5) w.heap.size l Qf q B wr∧Below w.heap.size w wr∧f.heap.size+7≤wr.heap.size) (fun vk _=>D.len- (intOf vk).toNat)
 case atStart=>exact⟨0,[],[],q,_,Nat.zero_le _,rfl,rfl,Qe.out,RH.out,by simp;omega⟩
 case round=>
  obtain⟨k,l,Qf,q1,Tp,Tq,rfl,RI,Rb,QO,RJ⟩:=hrel;have O:=Lib.hid Rb;have Qg:=Lib.hid QO;have S:=Lib.hid RI;obtain⟨da,B,rfl⟩:=bn Rb.row;clear Rb QO RI;by_cases Tr:k<D.len
  ·have S_:(k:Int)<D.len:=by omega
   go_wp2_with fail
   refine rN (fun _=>True) (.one 0 true (.one 1 true (.one 2 true (.one 3 true (.one 5 true (.two 4 6 (.one 6 false (.one 7 false (.one 8 false (.one 9 false (.one 10 true (.one 11 true (.one 12 false .done))))))) (.two 4 7 (.one 7 false (.one 8 false (.one 9 false (.one 10 true (.one 11 true (.one 12 false .done)))))) (.two 4 8 (.one 8 false (.one 9 false (.one 10 true (.one 11 true (.one 12 false .done))))) (.one 4 false (.one 9 false (.one 10 true (.one 11 true (.one 12 false .done))))))))))))) (by kernel_rfl) (by kernel_rfl) (by kernel_rfl) (by decide) trivial (fun _=> ?_);have PR:=O.out.below (Below.refl _ _).drew;have Ta:f.heap.size+7≤wr.drew.heap.size:=RJ;have SL:Below w.heap.size w wr.drew:=Qg.out.drew;generalize wr.drew=t at*;have y0:=PR.c0;have y1:=PR.c1;have SM:=PR.f1;have QP:=World.block_lt_of_cell? _ _ y0;simp only at QP;have V:=Lib.hid (show l.length≤1048576 by have:=S.out;omega);have Qh:=Lib.hid (uX f.heap.size (some ⟨w.heap.size,0,none⟩) ⟨#[84]⟩ t y0);have C:=Bg t.heap.size (t.alloc (.cells #[.int .i64 0,.pointer (some ⟨w.heap.size,0,none⟩),.string ⟨#[84]⟩,.nilIface] 128)) (by simp) (kz t _ rfl) (mN t _ rfl);rw[show(t.alloc (.cells #[.int .i64 0,.pointer (some ⟨w.heap.size,0,none⟩),.string ⟨#[84]⟩,.nilIface] 128)).heap.size=t.heap.size+1 by simp]at C;obtain⟨L,QB⟩:∃L,Hid (L=(((t.alloc (.cells #[.int .i64 0,.pointer (some ⟨w.heap.size,0,none⟩),.string ⟨#[84]⟩,.nilIface] 128)).setCell ⟨t.heap.size,3,none⟩ (.iface 58 (.pointer (some ⟨t.heap.size+1,0,none⟩)))).alloc (.cells (gj t.heap.size) 124))):=⟨_,rfl⟩
   have Td:L.heap.size≤t.heap.size+2∧t.heap.size+2≤L.heap.size:=by rw[QB.out];simp
   have Qi:Below t.heap.size t L:=by rw[QB.out];exact(((Below.refl _ _).alloc (Nat.le_refl _) _).setCell (Nat.le_refl _) _).alloc (by simp) _
   have QC:Below t.heap.size t (L.alloc (.cells #[.pointer (some ⟨t.heap.size+1,0,none⟩)] 58)):=Qi.alloc (by omega) _;rw[←QB.out]at C;have R:=Lib.hid C;have Ts:L.cell? ⟨f.heap.size,1,none⟩=some (.slice da l.length B):=ar Qi y1;have Te:f.heap.size<L.heap.size:=by omega
   have P3:=Lib.hid (bO PR.row QC);have P4:=Lib.hid (show ∀j u,[Value.pointer (some ⟨t.heap.size+1,0,none⟩)][j]?=some u→(L.alloc (.cells #[.pointer (some ⟨t.heap.size+1,0,none⟩)] 58)).cell? ((⟨L.heap.size,0,none⟩:Addr).add j)=some u from TS.eD L (.pointer (some ⟨t.heap.size+1,0,none⟩)) 58);clear C Qi
   have P5:Hid (∀a6 E G,G.ownsRow (f.heap.size+1) 58 1 (.slice a6 (l.length+1) E) (l.length+1) (l.map pv++ [pv (t.heap.size+1)])→(L.alloc (.cells #[.pointer (some ⟨t.heap.size+1,0,none⟩)] 58)).grownBy G (Value.slice da l.length B).ownBlock→((Value.slice a6 (l.length+1) E).ownBlock=(Value.slice da l.length B).ownBlock∨(Value.slice a6 (l.length+1) E).ownBlock=some (L.alloc (.cells #[.pointer (some ⟨t.heap.size+1,0,none⟩)] 58)).heap.size)→
    G.cell? ⟨f.heap.size,1,none⟩=some (.slice da l.length B)∧G.frozen? ⟨f.heap.size,1,none⟩=false∧∃q6,Hid ((l++ [t.heap.size+1]).length=k+1∧fO pa w.heap.size f.heap.size eb eo ib (f.heap.size+6) (f.heap.size+1) (f.heap.size+5) w.heap.size (l++ [t.heap.size+1]) (Qf++ [t.heap.size]) q6 (.slice a6 (l.length+1) E) (G.setCell ⟨f.heap.size,1,none⟩ (.slice a6 (l.length+1) E))∧Below w.heap.size w (G.setCell ⟨f.heap.size,1,none⟩ (.slice a6 (l.length+1) E))∧f.heap.size+7≤(G.setCell ⟨f.heap.size,1,none⟩ (.slice a6 (l.length+1) E)).heap.size)):=fun a6 E G hr hg hv=>by
    have X:Kept (fun c=>(Value.slice da l.length B).ownBlock=some c) (L.alloc (.cells #[.pointer (some ⟨t.heap.size+1,0,none⟩)] 58)) G:=(Kept.refl _ _).grown hg fun k hk _=>hk;have QQ:(Value.slice da l.length B).ownBlock≠some f.heap.size:=fun e=>by have:=(PR.row.lt _ e).1;omega
    have QR:f.heap.size<(L.alloc (.cells #[.pointer (some ⟨t.heap.size+1,0,none⟩)] 58)).heap.size:=by simp only[World.size_alloc];omega
    have SN:Below w.heap.size w (G.setCell ⟨f.heap.size,1,none⟩ (.slice a6 (l.length+1) E)):=((SL.trans (QC.mono (by omega))).grown hg (by omega) fun k hk=>by have:=(PR.row.lt _ hk).1;omega).setCell (by simp;omega) _;have Tt:(G.setCell ⟨f.heap.size,1,none⟩ (.slice a6 (l.length+1) E)).heap.size=G.heap.size:=by simp
    have Y:=X.size;have Tu:f.heap.size+7≤(L.alloc (.cells #[.pointer (some ⟨t.heap.size+1,0,none⟩)] 58)).heap.size:=by simp only[World.size_alloc];omega
    refine⟨by rw[X.cell QR QQ];exact ar QC y1,by rw[X.frozen QR QQ];exact TS.frozen_kept QC QP SM,?_⟩;rw[show(L.alloc (.cells #[.pointer (some ⟨t.heap.size+1,0,none⟩)] 58)).heap.size=t.heap.size+3 by simp only[World.size_alloc];omega]at hv;rw[QB.out]at hg;obtain⟨q6,h6⟩:=PR.step ⟨by omega,by omega,by omega,by omega⟩ hg hr hv;exact⟨q6,by have:=S.out;simp;omega,h6,SN,by omega⟩
   (refine cC rfl (by rfl) (by intro W hW;go_simp<;>with_reducible rfl) ?_;try simp only[Act.put,oa,ob,oc])
   (refine cC rfl (by rfl) (by intro W hW;go_simp<;>with_reducible rfl) ?_;try simp only[Act.put,oa,ob,oc])
   (refine cC rfl (by rfl) (by intro W hW;go_simp<;>with_reducible rfl) ?_;try simp only[Act.put,oa,ob,oc])
   (refine cC rfl (by rfl) (by intro W hW;go_simp<;>with_reducible rfl) ?_;try simp only[Act.put,oa,ob,oc])
   (refine cC rfl (by rfl) (by intro W hW;go_simp<;>with_reducible rfl) ?_;try simp only[Act.put,oa,ob,oc])
   refine kP rfl rfl (by rfl) (by rfl) (fun K p=> ?_) (fun K p=> ?_)
   ·
    go_simp
    ((try simp only[]);refine p _ _ trivial (fun _=> ?_);clear p K;try simp only[Act.put,oa,ob,oc])
    refine bR rfl (by rfl) (fun K p=> ?_);go_simp
    go_at_call 38
    refine Qh.out.mono ?_;rintro e1 w1 ⟨rfl,rfl⟩;((try simp only[]);refine p _ _ trivial (fun _=> ?_);clear p K;try simp only[Act.put,oa,ob,oc])
    refine bR rfl (by rfl) (fun K p=> ?_);go_simp
    go_at_call 35
    refine R.out.mono ?_;rintro e1 w1 ⟨rfl,RK⟩;subst w1;((try simp only[]);refine p _ _ trivial (fun _=> ?_);clear p K;try simp only[Act.put,oa,ob,oc])
    refine bR rfl (by rfl) (fun K p=> ?_);go_simp
    ((try simp only[]);refine p _ _ trivial (fun _=> ?_);clear p K;try simp only[Act.put,oa,ob,oc])
    refine bR rfl (by rfl) (fun K p=> ?_);refine TS.lK _ _ 60 rfl (f.heap.size+1) 58 i0 (.pointer none) 1 8 Tryz.underlying60 Qz PY PZ P0 rfl (by decide) (.slice da l.length B) l.length (l.map pv) rfl P3.out ⟨L.heap.size,0,none⟩ 1 1 [.pointer (some ⟨t.heap.size+1,0,none⟩)] rfl rfl P4.out (TS.one_one rfl) ?_ ?_ ?_ ?_
    ·have:=V.out;unfold maxLen;omega
    ·have:=V.out;omega
    ·simp only[World.size_alloc];omega
    intro v6 G r H _ I;obtain⟨a6,E,rfl⟩:=bn r;((try simp only[]);refine p _ _ trivial (fun _=> ?_);clear p K;try simp only[Act.put,oa,ob,oc])
    (refine cC rfl (by rfl) (by intro W hW;go_simp<;>with_reducible rfl) ?_;try simp only[Act.put,oa,ob,oc])
    (refine cC rfl (by rfl) (by intro W hW;go_simp<;>with_reducible rfl) ?_;try simp only[Act.put,oa,ob,oc])
    obtain⟨x6,Rc,q6,A⟩:=P5.out _ _ _ r H I;clear r H I;refine bR rfl (by rfl) (fun K p=> ?_);go_simp
    ((try simp only[]);refine p _ _ trivial (fun _=> ?_);clear p K;try simp only[Act.put,oa,ob,oc])
    refine gL ?_;go_wp2_with fail
    exact⟨⟨k+1,_,_,_,_,by omega,by go_num,A.out⟩,by first|omega|(simp[intOf];omega)⟩
   ·
    go_simp
    go_at_call 38
    refine Qh.out.mono ?_;rintro e1 w1 ⟨rfl,rfl⟩;((try simp only[]);refine p _ _ trivial (fun _=> ?_);clear p K;try simp only[Act.put,oa,ob,oc])
    refine kP rfl rfl (by rfl) (by rfl) (fun K p=> ?_) (fun K p=> ?_)
    ·skip
     go_simp
     ((try simp only[]);refine p _ _ trivial (fun _=> ?_);clear p K;try simp only[Act.put,oa,ob,oc])
     refine bR rfl (by rfl) (fun K p=> ?_);go_simp
     go_at_call 35
     refine R.out.mono ?_;rintro e1 w1 ⟨rfl,RK⟩;subst w1;((try simp only[]);refine p _ _ trivial (fun _=> ?_);clear p K;try simp only[Act.put,oa,ob,oc])
     refine bR rfl (by rfl) (fun K p=> ?_);go_simp
     ((try simp only[]);refine p _ _ trivial (fun _=> ?_);clear p K;try simp only[Act.put,oa,ob,oc])
     refine bR rfl (by rfl) (fun K p=> ?_);refine TS.lK _ _ 60 rfl (f.heap.size+1) 58 i0 (.pointer none) 1 8 Tryz.underlying60 Qz PY PZ P0 rfl (by decide) (.slice da l.length B) l.length (l.map pv) rfl P3.out ⟨L.heap.size,0,none⟩ 1 1 [.pointer (some ⟨t.heap.size+1,0,none⟩)] rfl rfl P4.out (TS.one_one rfl) ?_ ?_ ?_ ?_
     ·have:=V.out;unfold maxLen;omega
     ·have:=V.out;omega
     ·simp only[World.size_alloc];omega
     intro v6 G r H _ I;obtain⟨a6,E,rfl⟩:=bn r;((try simp only[]);refine p _ _ trivial (fun _=> ?_);clear p K;try simp only[Act.put,oa,ob,oc])
     (refine cC rfl (by rfl) (by intro W hW;go_simp<;>with_reducible rfl) ?_;try simp only[Act.put,oa,ob,oc])
     (refine cC rfl (by rfl) (by intro W hW;go_simp<;>with_reducible rfl) ?_;try simp only[Act.put,oa,ob,oc])
     obtain⟨x6,Rc,q6,A⟩:=P5.out _ _ _ r H I;clear r H I;refine bR rfl (by rfl) (fun K p=> ?_);go_simp
     ((try simp only[]);refine p _ _ trivial (fun _=> ?_);clear p K;try simp only[Act.put,oa,ob,oc])
     refine gL ?_;go_wp2_with fail
     exact⟨⟨k+1,_,_,_,_,by omega,by go_num,A.out⟩,by first|omega|(simp[intOf];omega)⟩
    ·skip
     go_simp
     go_at_call 35
     refine R.out.mono ?_;rintro e1 w1 ⟨rfl,RK⟩;subst w1;((try simp only[]);refine p _ _ trivial (fun _=> ?_);clear p K;try simp only[Act.put,oa,ob,oc])
     refine kP rfl rfl (by rfl) (by rfl) (fun K p=> ?_) (fun K p=> ?_)
     ·skip
      go_simp
      ((try simp only[]);refine p _ _ trivial (fun _=> ?_);clear p K;try simp only[Act.put,oa,ob,oc])
      refine bR rfl (by rfl) (fun K p=> ?_);go_simp
      ((try simp only[]);refine p _ _ trivial (fun _=> ?_);clear p K;try simp only[Act.put,oa,ob,oc])
      refine bR rfl (by rfl) (fun K p=> ?_);refine TS.lK _ _ 60 rfl (f.heap.size+1) 58 i0 (.pointer none) 1 8 Tryz.underlying60 Qz PY PZ P0 rfl (by decide) (.slice da l.length B) l.length (l.map pv) rfl P3.out ⟨L.heap.size,0,none⟩ 1 1 [.pointer (some ⟨t.heap.size+1,0,none⟩)] rfl rfl P4.out (TS.one_one rfl) ?_ ?_ ?_ ?_
      ·have:=V.out;unfold maxLen;omega
      ·have:=V.out;omega
      ·simp only[World.size_alloc];omega
      intro v6 G r H _ I;obtain⟨a6,E,rfl⟩:=bn r;((try simp only[]);refine p _ _ trivial (fun _=> ?_);clear p K;try simp only[Act.put,oa,ob,oc])
      (refine cC rfl (by rfl) (by intro W hW;go_simp<;>with_reducible rfl) ?_;try simp only[Act.put,oa,ob,oc])
      (refine cC rfl (by rfl) (by intro W hW;go_simp<;>with_reducible rfl) ?_;try simp only[Act.put,oa,ob,oc])
      obtain⟨x6,Rc,q6,A⟩:=P5.out _ _ _ r H I;clear r H I;refine bR rfl (by rfl) (fun K p=> ?_);go_simp
      ((try simp only[]);refine p _ _ trivial (fun _=> ?_);clear p K;try simp only[Act.put,oa,ob,oc])
      refine gL ?_;go_wp2_with fail
      exact⟨⟨k+1,_,_,_,_,by omega,by go_num,A.out⟩,by first|omega|(simp[intOf];omega)⟩
     ·skip
      go_simp
      ((try simp only[]);refine p _ _ trivial (fun _=> ?_);clear p K;try simp only[Act.put,oa,ob,oc])
      refine bR rfl (by rfl) (fun K p=> ?_);go_simp
      ((try simp only[]);refine p _ _ trivial (fun _=> ?_);clear p K;try simp only[Act.put,oa,ob,oc])
      refine bR rfl (by rfl) (fun K p=> ?_);refine TS.lK _ _ 60 rfl (f.heap.size+1) 58 i0 (.pointer none) 1 8 Tryz.underlying60 Qz PY PZ P0 rfl (by decide) (.slice da l.length B) l.length (l.map pv) rfl P3.out ⟨L.heap.size,0,none⟩ 1 1 [.pointer (some ⟨t.heap.size+1,0,none⟩)] rfl rfl P4.out (TS.one_one rfl) ?_ ?_ ?_ ?_
      ·have:=V.out;unfold maxLen;omega
      ·have:=V.out;omega
      ·simp only[World.size_alloc];omega
      intro v6 G r H _ I;obtain⟨a6,E,rfl⟩:=bn r;((try simp only[]);refine p _ _ trivial (fun _=> ?_);clear p K;try simp only[Act.put,oa,ob,oc])
      (refine cC rfl (by rfl) (by intro W hW;go_simp<;>with_reducible rfl) ?_;try simp only[Act.put,oa,ob,oc])
      (refine cC rfl (by rfl) (by intro W hW;go_simp<;>with_reducible rfl) ?_;try simp only[Act.put,oa,ob,oc])
      obtain⟨x6,Rc,q6,A⟩:=P5.out _ _ _ r H I;clear r H I;refine bR rfl (by rfl) (fun K p=> ?_);go_simp
      ((try simp only[]);refine p _ _ trivial (fun _=> ?_);clear p K;try simp only[Act.put,oa,ob,oc])
      refine gL ?_;go_wp2_with fail
      exact⟨⟨k+1,_,_,_,_,by omega,by go_num,A.out⟩,by first|omega|(simp[intOf];omega)⟩
  ·have Tv:¬(k:Int)<D.len:=by omega
   obtain rfl:k=D.len:=by omega
   have hO:=F.out;obtain⟨q3,Tw,Tx,SO,Qj,PS,QS⟩:=O.out.done D T (by have:=S.out;omega);injection SO with RM _ RN
   subst RM;subst RN;obtain⟨g,hg⟩:∃g,Hid (g=jQ eb eo ib (f.heap.size+6) (f.heap.size+1) (f.heap.size+5) w.heap.size l Qf):=⟨_,rfl⟩
   have Qk:Hid (∀j,j<D.len→iN q3 g wr j∧q3 (g.ob j) 1=some (ptr g.pk)):=fun j hj=>by
    have M:j<l.length:=by have:=S.out;omega
    have Re:j<Qf.length:=by have:=O.out.ol;omega
    obtain⟨k1,k2,k3,k4⟩:=O.out.nm j M Re;rw[hg.out];refine⟨⟨?_,?_⟩,?_⟩
    ·rw[jR M,jS Re];exact k3
    ·rw[jR M];exact QS j M
    ·rw[jS Re];exact PS _ _ _ k4
   have RP:Hid (∃s,q3 g.pk 0=some (.string s)):=by
    obtain⟨s,h⟩:=O.out.rM;rw[hg.out];exact⟨s,PS _ _ _ h⟩
   rw[←hg.out]at Qj;have Rg:=Lib.hid Qj;have QD:=Qg;clear Qj O QS PS S hg Qe RH;go_wp2_with fail
   go_loopw [42] (fun vk wr=> ∃(i:Nat)(q:Pm)(g:Ge)(mv:Value)(ms:List Nat),i≤D.len∧vk= .int .i64 i∧L2 ⟨D,T,i,pa,w.heap.size,f.heap.size,da,B⟩ w q g mv ms wr) (fun vk _=>D.len- (intOf vk).toNat)
   case atStart=>exact⟨0,q3,g,_,[],Nat.zero_le _,rfl,Rg.out,fun j _ hj=>(Qk.out j hj).1,fun j hj=>absurd hj (Nat.not_lt_zero _),fun j hj=>(Qk.out j hj).2,RP.out,Nat.zero_le _,QD.out,Nat.le_refl _⟩
   case round=>
    obtain⟨i,q4,g4,RR,Rh,Ty,rfl,RS⟩:=hrel;have z:=Lib.hid RS;clear RS;by_cases Ql:i<D.len
    ·have SP:(i:Int)<D.len:=by omega
     have PT:i<fds.length:=by have:=F.out.len;omega
     have QE:i<T.length:=by have:=F.out.tl;omega
     obtain⟨wb,wo,Ri,ua,uc,ma,mc,h7,Y,P_,_,_,_⟩:=Rx.out.at' i PT;have Qm:=F.out.un i PT QE;have P:=(F.out.ms i PT).1;generalize fds[i]=d at h7 Y P_ Qm P;have RV:=pr ⟨D,T,i,pa,w.heap.size,f.heap.size,da,B⟩ d.un (by rw[Qm];exact F.out.ty ⟨D,T,i,pa,w.heap.size,f.heap.size,da,B⟩ QE rfl rfl);have Rj:=F.out.lo _ (List.getElem_mem QE);rw[←Qm]at Rj;have Rk:T[i]?=some d.un:=by rw[List.getElem?_eq_getElem QE,Qm]
     obtain⟨z0,z1,z2,z3,z4,z5,z6⟩:TS.C7 wr wb (wo+i*8) d.un ua uc:=h7.world z.out.bs.ka;have z7:wr.cell? ⟨wb,wo+i*8+7,none⟩=some (.slice ma d.ms.length mc):=z.out.bs.ka _ _ _ Y;have Qn:=World.block_lt_of_cell? _ _ z0;simp only at Qn;have Rl:Below wr.heap.size wr ((wr.alloc (.cells #[.int .i64 d.un.k,.int .i64 d.un.n,.int .i64 d.un.m,.bool d.un.v,.string d.un.nm,.string d.un.tg,.slice ua d.un.es.length uc,.slice ma d.ms.length mc] 43)).drew):=((Below.refl _ _).alloc (Nat.le_refl _) _).drew;have SQ:=gi Rk;have SR:=jM T (i+1);have RX:=Lib.hid (RV q4 g4 RR Rh ua uc _ (z.out.bs.below Rl) (by have h1:=z.out.ct;have h2:=F.out.ct;have h3:Rh.length≤aK (T.take i):=h1;omega) P_);have RY:g4.len=D.len:=z.out.bs.len;obtain⟨rb,ro,rfl,Rm⟩:=z.out.bs.c1.2 i (by omega);have y1:wr.cell? ⟨f.heap.size,1,none⟩=some (.slice (some ⟨rb,ro,none⟩) D.len B):=by have h1:=z.out.bs.c1.1;rwa [RY]at h1
     have yr:=z.out.bs.wb.kw _ _ _ Rm;have RZ:=World.block_lt_of_cell? _ _ y1;have R0:=World.block_lt_of_cell? _ _ yr;simp only at RZ R0;have QT:=Lib.hid Rm;have Qo:=Lib.hid Rl;have R1:=Lib.hid Rk;have R2:=Lib.hid Rj;rw[Ri];clear h7 Y P_ Qm RV Rj Rk Rl SQ SR RY Rm;go_wp2_with fail
     refine oR (fun W=>(W.cell? ⟨f.heap.size,1,none⟩=some (.slice (some ⟨rb,ro,none⟩) D.len B)∧W.cell? ⟨rb,ro+i,none⟩=some (ptr (g4.nb i)))∧(W.cell? ⟨wr.heap.size,0,none⟩=some (.int .i64 d.un.k)∧W.cell? ⟨wr.heap.size,1,none⟩=some (.int .i64 d.un.n)∧W.cell? ⟨wr.heap.size,2,none⟩=some (.int .i64 d.un.m)∧W.cell? ⟨wr.heap.size,3,none⟩=some (.bool d.un.v)∧W.cell? ⟨wr.heap.size,4,none⟩=some (.string d.un.nm)∧W.cell? ⟨wr.heap.size,5,none⟩=some (.string d.un.tg)∧W.cell? ⟨wr.heap.size,6,none⟩=some (.slice ua d.un.es.length uc))) [(0,true),(1,true),(2,true),(3,true),(4,true),(5,true),(6,true),(7,true),(8,true),(9,true),(10,false),(11,false),(12,false)] (by(repeat' apply And.intro)<;>first|(simp[go_sem];done)|(go_keep;done)) (fun Z=> ?_);iterate 10 ((first|refine oS ?_|refine oF Z ?_);try simp only[Act.put,oa,ob,oc])
     refine oL fun K p=> ?_;go_simp;go_at_call 40
     refine RX.out.mono ?_;rintro e1 G ⟨x,q5,g5,SS,SU,rfl,R4,PU,PM,SV,_,R5⟩;have Qp:=R2.out;have J:bare d.un=d.un:=cu Qp.2.2 (by omega);have QU:under d.un=d.un:=FM Qp;obtain⟨t5,b5,rt,QF,rfl,hU,hr⟩:=kD R4 (by rw[J,J]) (by rw[J];intro h;omega) (by rw[J];omega) (by rw[J];omega);have Rn:TS.Node q5 g5 d.un (ae rt QF):=by
      rcases hr with⟨_,h⟩|⟨h,_⟩
      ·rwa [QU]at h
      ·rw[QU]at h;omega
     have R6:=FN Rn Qp.1 Qp.2.1 Qp.2.2;obtain⟨K5,Tz,c5,R7,Qq,QV,Ro,TA,R8⟩:=hU G PU.wb.kw;have Tf:=fun args w=>Go.MuLone.run_callFunc_enter R7 Qq QV args w;have Qr:g5.nb=g4.nb:=PM.gs.nb;have Rp:=z.out.wait Ql Qo.out PM;obtain⟨q6,Qa,Qs,X⟩:=z.out.step Ql R1.out Qo.out PU PM R5 Rn;have R9:∀o v,((wr.alloc (.cells #[.int .i64 d.un.k,.int .i64 d.un.n,.int .i64 d.un.m,.bool d.un.v,.string d.un.nm,.string d.un.tg,.slice ua d.un.es.length uc,.slice ma d.ms.length mc] 43)).drew).cell? ⟨wr.heap.size,o,none⟩=some v→G.cell? ⟨wr.heap.size,o,none⟩=some v:=fun o v h=>(jc z.out.bs Qo.out.size PM).2 _ _ _ (Nat.le_refl _) h;have R_:G.cell? ⟨f.heap.size,1,none⟩=some (.slice (some ⟨rb,ro,none⟩) D.len B):=by
      have h1:=PU.c1.1;have h2:g5.len=D.len:=PU.len;rwa [h2]at h1
     have Sa:G.cell? ⟨rb,ro+i,none⟩=some (ptr (g4.nb i)):=PU.wb.kw _ _ _ (PM.gr.le _ _ _ QT.out);obtain⟨_,s0,s1,s2,s3,s4,s5,s6⟩:=Z;(try simp only[]);refine p _ _ (by(repeat' apply And.intro)<;>first|exact R_|exact Sa|exact R9 _ _ (by assumption)) fun Z=> ?_;clear p K;try simp only[Act.put,oa,ob,oc]
     clear s0 s1 s2 s3 s4 s5 s6;rw[show(⟨D,T,i,pa,w.heap.size,f.heap.size,some ⟨rb,ro,none⟩,B⟩:BC).i=i from rfl,Qr]at Qa X;have Qb:∀o v,(gj (g5.ob i))[o]?=some v→G.cell? ⟨g4.nb i,o,none⟩=some v:=fun o v e=>by have h1:=Rp.1;rw[show(⟨D,T,i,pa,w.heap.size,f.heap.size,some ⟨rb,ro,none⟩,B⟩:BC).i=i from rfl,Qr]at h1;simp only[World.cell?,h1];exact e
     have Q:∀o,G.frozen? ⟨g4.nb i,o,none⟩=false:=fun o=>by have h1:=Rp.1;rw[show(⟨D,T,i,pa,w.heap.size,f.heap.size,some ⟨rb,ro,none⟩,B⟩:BC).i=i from rfl,Qr]at h1;simp[World.frozen?,h1]
     obtain⟨W7,Sb⟩:∃W7,W7=(((((((G.setCell ⟨g4.nb i,3,none⟩ (.int .i32 1)).setCell ⟨g4.nb i,6,none⟩ (ae rt QF)).setCell ⟨g4.nb i,2,none⟩ (.bool false)).setCell ⟨g4.nb i,5,none⟩ (.int .u32 7)).setCell ⟨g4.nb i,7,none⟩ (ae rt QF)).setCell ⟨g4.nb i,5,none⟩ (.int .u32 15)).setCell ⟨g4.nb i,3,none⟩ (.int .i32 0)):=⟨_,rfl⟩
     have PV:=(qN (g4.nb i) rt (some ⟨QF,0,none⟩) R6.1 R6.2 G ⟨_,Qb 2 _ rfl⟩ (Qb 3 _ rfl) (Qb 5 _ rfl) ⟨_,Qb 6 _ rfl⟩ ⟨_,Qb 7 _ rfl⟩ (Q 2) (Q 3) (Q 5) (Q 6) (Q 7))
     rw[←Sb]at PV Qa X;have QW:=Lib.hid PV;have Sc:=Lib.hid Qa;have Sd:=Lib.hid X;have Tg:g4.nb i<wr.heap.size:=z.out.bs.wb.kw.lt (z.out.bs.nm i (by rw[z.out.bs.len];exact Ql));have Se:wr.heap.size<G.heap.size:=by have:=PM.size;simp at this;omega
     have Sf:=Qa.bs.wb.kw _ _ _ (Qs _ _ _ (PM.gr.le _ _ _ QT.out));have Sg:W7.cell? ⟨f.heap.size,1,none⟩=some (.slice (some ⟨rb,ro,none⟩) D.len B):=by
      have h1:W7.cell? ⟨f.heap.size,1,none⟩=some (.slice (some ⟨rb,ro,none⟩) g5.len B):=Qa.bs.c1.1;have h2:g5.len=D.len:=PU.len;rwa [h2]at h1
     clear R7 Qq QV R4 PU PM SV hU hr Rn Rp Qa X R9 R_ Sa Qb Q Qs RX Sb PV;refine oL fun K p=> ?_;go_simp;refine R8.mono ?_;rintro e2 w7 ⟨rfl,rfl⟩;(try simp only[]);refine p _ _ (Z) fun Z=> ?_;clear p K;try simp only[Act.put,oa,ob,oc]
     refine oL fun K p=> ?_;go_simp;go_at_call 39
     refine QW.out.mono ?_;rintro e3 w7 ⟨rfl,TB⟩;subst w7;obtain⟨_,s0,s1,s2,s3,s4,s5,s6⟩:=Z;(try simp only[]);refine p _ _ (by(repeat' apply And.intro)<;>first|exact Sg|exact Sf|(rw[Sd.out.cell Se (by omega)];assumption)) fun Z=> ?_;clear p K;try simp only[Act.put,oa,ob,oc]
     refine ch ?_;clear Z s0 s1 s2 s3 s4 s5 s6 Sg Sf QW R8;go_wp2_with fail
     exact⟨⟨i+1,q6,g5,SS,SU,by omega,by go_num,Sc.out⟩,by first|omega|(simp[intOf];omega)⟩
    ·have Th:¬(i:Int)<D.len:=by omega
     obtain rfl:i=D.len:=by omega
     have SX:=F.out.tl;have SY:=Lib.hid (z.out.done rfl (N:=aK T) (jM T _));clear z;go_wp2_with fail
     go_loopw [63] (fun vk wr=> ∃(i:Nat)(q:Pm)(g:Ge)(mv:Value)(ms:List Nat),i≤D.len∧vk= .int .i64 i∧L3 ⟨D,T,D.len,pa,w.heap.size,f.heap.size,da,B⟩ w i q g mv ms (aK T+cB (fds.take i)) wr) (fun vk _=>D.len- (intOf vk).toNat)
     case atStart=>exact⟨0,q4,g4,RR,Rh,Nat.zero_le _,rfl,SY.out.pw (Nat.le_refl _) (by omega)⟩
     case round=>
      obtain⟨i,q7,g7,Sh,Si,Ti,rfl,Sj⟩:=hrel;have y:=Lib.hid Sj;clear Sj;obtain⟨wo,rfl⟩:∃wo:World,wo=wr:=⟨_,rfl⟩
      by_cases P6:i<D.len
      ·have SZ:(i:Int)<D.len:=by omega
       have PT:i<fds.length:=by have:=F.out.len;omega
       obtain⟨wb,xo,Ri,ua,uc,ma,mc,h7,Y,P_,Sk,TC,Rq⟩:=Rx.out.at' i PT;have Rr:=List.getElem?_eq_getElem PT;have P:=F.out.ms i PT;generalize fds[i]=d at h7 Y P_ P Sk Rq Rr;have S0:=FP Rr;have Sl:=xD fds (i+1);obtain⟨z0,z1,z2,z3,z4,z5,z6⟩:TS.C7 wo wb (xo+i*8) d.un ua uc:=h7.world y.out.bs.ka;have z7:wo.cell? ⟨wb,xo+i*8+7,none⟩=some (.slice ma d.ms.length mc):=y.out.bs.ka _ _ _ Y;have Qn:=World.block_lt_of_cell? _ _ z0;simp only at Qn;have Sm:=Lib.hid Rq;have Rs:=Lib.hid P;have QX:=Lib.hid (show aK T+cB (fds.take i)+cN d.ms≤1099511627776∧cB (fds.take (i+1))=cB (fds.take i)+cN d.ms by have:=F.out.ct;omega);obtain⟨ml,P7⟩:∃ml,Hid (d.ms.length=ml):=⟨_,rfl⟩
       have QY:ml≤1048576:=by have h1:=P.1;have h2:=P7.out;omega
       have Tj:ml≤mc:=by have h2:=P7.out;omega
       rw[P7.out]at z7;rw[Ri];clear h7 Y P_ Rq P S0 Sl Rr Sk;go_wp2_with fail
       go_loopw [71] (fun vj wr=> ∃(j:Nat)(q:Pm)(g:Ge)(mv:Value)(ms:List Nat)(v:Value)(fs:List Nat),j≤ml∧vj= .int .i64 j∧L3 ⟨D,T,D.len,pa,w.heap.size,f.heap.size,da,B⟩ w (i+1) q g mv ms (aK T+cB (fds.take i)+cN (d.ms.take j)) wr∧dM ⟨D,T,D.len,pa,w.heap.size,f.heap.size,da,B⟩ q g wr i j (lM d.ms) v fs) (fun vj _=>ml- (intOf vj).toNat)
       case atStart=>
        have Sn:Below wo.heap.size wo (wo.alloc (.cells #[.int .i64 d.un.k,.int .i64 d.un.n,.int .i64 d.un.m,.bool d.un.v,.string d.un.nm,.string d.un.tg,.slice ua d.un.es.length uc,.slice ma ml mc] 43)):=(Below.refl _ _).alloc (Nat.le_refl _) _;exact⟨0,q7,g7,Sh,Si,_,[],Nat.zero_le _,rfl,(y.out.pw (Nat.le_succ _) (by omega)).below Sn,((y.out.mt i (Nat.le_refl _) P6).below Sn).zero⟩
       case round=>
        obtain⟨j,q8,g8,Sp,Sq,v8,S1,TD,rfl,Sr,Ss⟩:=hrel;have P8:=Lib.hid Sr;have QZ:=Lib.hid Ss;clear Sr Ss;by_cases Tk:j<ml
        ·have S2:(j:Int)<ml:=by omega
         have M:j<d.ms.length:=by have:=P7.out;omega
         obtain⟨mb,mo,S3,k0,k1,_,a8,c8,k2,Rt⟩:=Sm.out.at' j M;have Ru:=List.getElem?_eq_getElem M;obtain⟨QY,Su,Ro⟩:=Rs.out;have PW:=Ro d.ms[j] (List.getElem_mem M);have Qt:∀k,k<j→((lM d.ms k).toList==d.ms[j].nm.toList)=false:=fun k hk=>by
          have:=List.pairwise_iff_getElem.1 Su k j (by omega) M hk;simpa [lM,show k<d.ms.length by omega]using this
         have Qu:lM d.ms j=d.ms[j].nm:=by simp[lM,M]
         generalize d.ms[j]=m at k0 k1 k2 Rt PW Qt Qu Ru;subst S3;have ka:=P8.out.bs.ka;have x0:=ka _ _ _ k0;have x1:=ka _ _ _ k1;obtain⟨x2,x3,x4,x5,x6,x7,x8⟩:(wr.cell? ⟨mb,mo+j*9+2,none⟩=some (.int .i64 m.sig.k)∧wr.cell? ⟨mb,mo+j*9+3,none⟩=some (.int .i64 m.sig.n)∧wr.cell? ⟨mb,mo+j*9+4,none⟩=some (.int .i64 m.sig.m)∧wr.cell? ⟨mb,mo+j*9+5,none⟩=some (.bool m.sig.v)∧wr.cell? ⟨mb,mo+j*9+6,none⟩=some (.string m.sig.nm)∧wr.cell? ⟨mb,mo+j*9+7,none⟩=some (.string m.sig.tg)∧wr.cell? ⟨mb,mo+j*9+8,none⟩=some (.slice a8 m.sig.es.length c8)):=k2.world ka;have Sv:=World.block_lt_of_cell? _ _ x0;simp only at Sv;have Rv:Below wr.heap.size wr (wr.alloc (.cells #[.string m.nm,.bool m.ptr,.int .i64 m.sig.k,.int .i64 m.sig.n,.int .i64 m.sig.m,.bool m.sig.v,.string m.sig.nm,.string m.sig.tg,.slice a8 m.sig.es.length c8] 73)):=(Below.refl _ _).alloc (Nat.le_refl _) _;have PN:=P8.out.below Rv;have Qv:=QZ.out.below Rv;obtain⟨sp,Sw⟩:=PN.pk;have Rw:g8.len=D.len:=PN.bs.len;obtain⟨x9,Sx,Sy⟩:=PN.bs.tn i (by have:T.length=D.len:=SX;show i<T.length;omega) P6;have Sz:=FO Ru;have S4:=xC d.ms (j+1);have Qw:=Lib.hid (FJ ⟨D,T,D.len,pa,w.heap.size,f.heap.size,da,B⟩ i j m a8 c8 sp (lM d.ms) v8 S1 q8 g8 Sp Sq _ (by omega) PN.bs Qv Sx.1 (PN.ob i P6) Sw PW.1 PW.2.1 PW.2.2.1 (fun e he=>pr _ e (PW.2.2.2.2 ⟨D,T,D.len,pa,w.heap.size,f.heap.size,da,B⟩ rfl rfl rfl e he)) Rt (by have:=PN.ct;have:=QX.out.1;omega) (by omega) Qu Qt PW.2.2.2.1);have SA:=Lib.hid PN;have SC:=Lib.hid Qv;have SD:=Lib.hid Sz;clear k0 k1 k2 Rt PW Qt Qu Ru Su Ro QY ka Rv PN Qv Sw Sy Rw Sx Sz S4 P8 QZ;go_wp2_with fail
         refine Qw.out.mono ?_;rintro e8 w8 ⟨rfl,q9,g9,S5,S6,v9,S7,Qx,Q3,Q4,Q5,Qy,_,_,Q6⟩;have P9:=Lib.hid (And.intro (SA.out.step P6 SC.out Qx Q4 Q5 Qy Q6) Q3);clear Qx Q3 Q4 Q5 Qy Q6 Qw;go_wp2_with fail
         exact⟨⟨j+1,q9,g9,S5,S6,v9,S7,by omega,by go_num,P9.out.1.pw (Nat.le_refl _) (by have:=SD.out;omega),P9.out.2⟩,by first|omega|(simp[intOf];omega)⟩
        ·have Tl:¬(j:Int)<ml:=by omega
         obtain rfl:j=ml:=by omega
         go_wp2_with fail
         exact⟨⟨i+1,q8,g8,Sp,Sq,by omega,by go_num,P8.out.pw (Nat.le_refl _) (by have:=QX.out.2;have:=xC d.ms j;omega)⟩,by first|omega|(simp[intOf];omega)⟩
      ·have Tn:¬(i:Int)<D.len:=by omega
       have Sl:=xD fds i;have Q7:=Lib.hid (xE ⟨D,T,D.len,pa,w.heap.size,f.heap.size,da,B⟩ q7 g7 Sh Si wo y.out.bs (by have:=y.out.ct;have:=F.out.ct;omega));go_wp2_with fail
       refine Q7.out.mono ?_;rintro e9 w9 ⟨rfl,q9,Qx,Qv,Qy⟩;have P9:Hid (xH pa D T w (.returned (.pointer (some ⟨f.heap.size,0,none⟩))) w9):=by
        have S8:=y.out.bl.size;refine⟨⟨D,T,D.len,pa,w.heap.size,f.heap.size,da,B⟩,q9,g7,rfl,rfl,rfl,rfl,rfl,rfl,Qx,Below.own y.out.bl Qy S8 fun b e=> ?_⟩;rcases e with e|e
        ·have e':b=f.heap.size:=e
         omega
        ·obtain⟨_,u,hu⟩:=y.out.bs.mlt b e
         exact y.out.bs.lp _ _ _ (y.out.bs.ifs b u hu).2.1
       clear Qx Qv Qy Q7;go_wp2_with fail
       go_ret;exact P9.out
end Go.Proofs.YtdkmnkjhhhmglaaGreatDoor
namespace TS
open Go Go.RowKit Go.Proofs.YtdkmnkjhhhmglaaGreatDoor
theorem Gt{s:ByteArray}(h:aM s=true):(s.toList== [95])=false:=by
 rw[beq_eq_false_iff_ne];intro e;have h1:kU s.toList=true:=by
  unfold aM at h;rwa [show s.data.toList=s.toList by simp[ByteArray.toList_eq]]at h
 rw[e]at h1;exact absurd h1 (by decide)
section
variable {D:Dl} {ds:List aF} {NS:List (List UInt8)} {p:Pm}
theorem rR(R:Raw NS ds)(hlen:ds.length=D.len)(V:eR D ds)(i:Nat):Env D (aS ds) NS i:=
 rG R hlen V.pl i fun j a _=>by
  rw[dL]at a;have b:j<(cA ds).length:=by rw[fN];exact a
  have:=V.mt _ (List.getElem_mem b);rw[iM ds j a]at this;unfold gh at this;simp only[Bool.and_eq_true]at this;exact this.1
theorem pC(T:List U):∀(u:U)(f:Nat),cn (aL T f u)=cn u:=by
 intro u;induction u using U.bg with
 |_ u ih=>
  intro f;rw[cW,cW];congr 1;unfold aK;congr 1;refine List.ext_getElem (by simp[cO]) fun j h1 h2=> ?_;simp only[List.length_map]at h1 h2;rw[List.getElem_map,List.getElem_map,iz];exact ih _ (U.az (List.getElem_mem h2)) _
theorem bh.upto{T:List U}{i a f:Nat}{u:U}(h:bh T i f u)(hi:i≤a):bh T a f u:=h.mono hi
theorem Gu(R:Raw NS ds)(hlen:ds.length=D.len)(V:eR D ds)(L:cE p D ds)(M:aK (ds.map aF.un)+cB ds≤1099511627776):rO D (aS ds) (cA ds):=by
 have hF:=rF L;refine⟨by rw[fN];exact hlen,by rw[dL];exact hlen,fun i h T=> ?_,fun C h f w=> ?_,fun t B=> ?_,fun i h=> ?_,?_⟩
 ·rw[fN]at h
  rw[iM ds i h]
 ·have hi:C.i<ds.length:=by rw[dL]at h;exact h
  have E:=rR R hlen V C.i;have hk:=(w_ R E hi).mo;have hm:=V.mt _ (List.getElem_mem (show C.i<(cA ds).length by rw[fN];exact hi));rw[iM ds C.i hi]at hm;unfold gh at hm;simp only[Bool.and_eq_true]at hm;obtain⟨b,o,e,a,c,N,O,_,_,hu,_⟩:=hF.at' C.i (by rw[fN];exact hi);rw[iM ds C.i hi]at hu;have x:=rP E _ hk hm.1 (fun _=>hk.pl.form.aE) (fun e=>by cases e) hu;exact⟨⟨0,1,by omega,by rw[f];exact hk.pl,by rw[w];exact hk.bp⟩,by rw[f];exact x⟩
 ·have:=(rR R hlen V 0).ok t B
  exact⟨this.lo,this.hi,this.kZ⟩
 ·have hi:i<ds.length:=by rw[fN]at h;exact h
  obtain⟨b,o,e,a,c,N,O,_,_,hu,h1,h2,hM⟩:=hF.at' i h;have E:=rR R hlen V i;have n:=V.pl i hi;unfold dS fG at n;simp only[Bool.and_eq_true,List.all_eq_true,decide_eq_true_eq]at n;have hm:=V.mt _ (List.getElem_mem h);rw[iM ds i hi]at hm hM h1⊢;unfold gh at hm;simp only[Bool.and_eq_true,List.all_eq_true]at hm;refine⟨by omega,?_,fun m d=> ?_⟩
  ·have hnd:=n.1.2.2
   simp only;rw[List.pairwise_map];refine(List.pairwise_map.1 hnd).imp fun{a b} F=> ?_;simpa using F
  ·obtain⟨k,hk,G⟩:=List.getElem_of_mem d
   obtain⟨U,W,X,m1,m2,m3,a',c',m4,y⟩:=hM.at' k hk;rw[G]at y;have H:=hm.2 m d;simp only[List.mem_map]at d;obtain⟨m0,z,rfl⟩:=d;have g:=n.1.2.1 m0 z;unfold gC at g;simp only[Bool.and_eq_true,beq_iff_eq]at g;have K:=R.ms _ (List.getElem_mem hi) m0 z;have r:Mo D.len (aS ds) NS i (aL ((aS ds).take i) 0 m0.sig) 0 0:=(rH E (by rw[dL];omega) R.err R.emp (fun t B=>(nu R B).2) (u:=m0.sig) (q:=⟨i,false,false⟩) (by simp) g.1.2 K.1 K.2).mo;have h7:(aL ((aS ds).take i) 0 m0.sig).k=7:=by rw[cZ];exact g.1.1.2
   have x:=rP E _ r H (fun _=>r.pl.form.aE) (fun e=>by cases e) y;have l:(0≤(aL ((aS ds).take i) 0 m0.sig).m∧(aL ((aS ds).take i) 0 m0.sig).m.toNat≤(aL ((aS ds).take i) 0 m0.sig).es.length)∧((aL ((aS ds).take i) 0 m0.sig).v=true→0<(aL ((aS ds).take i) 0 m0.sig).m.toNat∧∃e,(aL ((aS ds).take i) 0 m0.sig).es[(aL ((aS ds).take i) 0 m0.sig).m.toNat- 1]?=some e∧e.k=4):=by
    have P:=r.pl.form;cases P with
    |func _ Q h1 A=>exact⟨⟨Q,h1⟩,fun s=>⟨(A s).1,_,List.getElem?_eq_getElem (by have:=(A s).1;omega),(A s).2 (by have:=(A s).1;omega)⟩⟩
    |_=>omega
   refine⟨h7,l.1,l.2,Gt g.1.1.1,fun C f w I e he=> ?_⟩;obtain⟨j,S,rfl⟩:=List.getElem_of_mem he;have J:=r.part j S;exact⟨⟨_,_,J.f2,by rw[f];exact J.pl,by rw[w,I];exact J.bp.mono (by omega)⟩,by rw[f];exact x.es he⟩
 ·have h1:aK (aS ds)=aK (ds.map aF.un):=by
   unfold aK;congr 1;refine List.ext_getElem (by simp[dL]) fun j h1 h2=> ?_;simp only[List.length_map]at h1 h2;rw[List.getElem_map,List.getElem_map,List.getElem_map,lJ ds j h2,pC]
  have h2:cB (cA ds)=cB ds:=by
   unfold cB;congr 1;refine List.ext_getElem (by simp[fN]) fun j h1 h2=> ?_;simp only[List.length_map]at h1 h2;rw[List.getElem_map,List.getElem_map,iM ds j h2];unfold cN;simp only[List.map_map];congr 1;exact List.map_congr_left fun m _=>pC _ _ _
  omega
theorem jX(R:Raw NS ds)(hlen:ds.length=D.len)(V:eR D ds){u:U}(b:di D ds u=true)(k:Names NS u)(d:u.dep≤1048576){a:Option Addr}{c:Nat}(hu:ak p D (bM ds u) a c):
 Mo D.len (aS ds) NS ds.length (bM ds u) 0 1∧isIface (bM ds u)=true∧mt (aS ds) .type (bM ds u) true=true∧∀C:BC,C.D=D→C.T=aS ds→C.i=D.len→gK C (bM ds u):=by
 unfold di at b;simp only[Bool.and_eq_true]at b;have hk:=(xP R hlen V b.1.1 k d).mo;have g:=rP (kQ R hlen V) _ hk b.2 (fun _=>hk.pl.form.aE) (fun e=>by cases e) hu;exact⟨hk,b.1.2,b.2,fun C f h j=>⟨⟨0,1,by omega,by rw[f];exact hk.pl,by rw[h,j,←hlen];exact hk.bp⟩,by rw[f];exact g⟩⟩
end
end TS
namespace Go.Proofs.YtdkmnkjhhhmglaaGreatDoor
open Go.RowKit TS
theorem GO(pa:Pm)(D:Dl)(dc:Nat)(T:List U)(fds:List aF)(hO:rO D T fds)(hD:cE pa D fds)(u v:U)(a a2:Option Addr)(c c2:Nat)(w:World)(hw:KW pa w)(B:br w)(hu:ak pa D u a c)(hv:ak pa D v a2 c2)
 (PO:∀C:BC,C.D=D→C.T=T→C.i=D.len→gK C u)(E:∀C:BC,C.D=D→C.T=T→C.i=D.len→gK C v)(PQ:cn u≤1099511627776)(F:cn v≤1099511627776)(H:u.k=10)(I:v.k=10)
 (hM:∀m∈ai u,Vt D.len m∧aM m.nm=true)(PR:∀m∈ai v,Vt D.len m∧aM m.nm=true)(hr:jg (ai u) (ai v))(hT:jZ D.len u v):
 Calls Tryz.prog 9 #[.slice D.a D.len dc,.agg #[.int .i64 u.k,.int .i64 u.n,.int .i64 u.m,.bool u.v,.string u.nm,.string u.tg,.slice a u.es.length c],.agg #[.int .i64 v.k,.int .i64 v.n,.int .i64 v.m,.bool v.v,.string v.nm,.string v.tg,.slice a2 v.es.length c2]] w fun e w'=>e= .returned (.bool true)∧Below w.heap.size w w':=by
 have t:Below w.heap.size w ((w.alloc (.cells #[.int .i64 u.k,.int .i64 u.n,.int .i64 u.m,.bool u.v,.string u.nm,.string u.tg,.slice a u.es.length c] 25)).alloc (.cells #[.int .i64 v.k,.int .i64 v.n,.int .i64 v.m,.bool v.v,.string v.nm,.string v.tg,.slice a2 v.es.length c2] 25)):=((Below.refl _ _).alloc (Nat.le_refl _) _).alloc (by simp) _;have p:br ((w.alloc (.cells #[.int .i64 u.k,.int .i64 u.n,.int .i64 u.m,.bool u.v,.string u.nm,.string u.tg,.slice a u.es.length c] 25)).alloc (.cells #[.int .i64 v.k,.int .i64 v.n,.int .i64 v.m,.bool v.v,.string v.nm,.string v.tg,.slice a2 v.es.length c2] 25)):=fun k h1 h2=>ar t (B k h1 h2);have PS:=Lib.hid (FY pa D dc T fds hO hD _ (hw.grown t) p);have J:=Lib.hid t;have PT:=Lib.hid PO;have V:=Lib.hid E;have Qb:=Lib.hid hu;have Qc:=Lib.hid hv;have PU:=Lib.hid PQ;have X:=Lib.hid F;have d:=Lib.hid (And.intro H (And.intro I (And.intro hM (And.intro PR (And.intro hr hT)))));clear hO hD hw B hu hv PO E PQ F t p H I hM PR hr hT;go_enter Tryz.func9,Tryz.ntmps9;go_wp2_with fail
 refine PS.out.mono ?_;rintro e1 Y ⟨C,q,g,rfl,l,Z,PM,r,PV,PW,j⟩;have Qh:w.heap.size+1<Y.drew.heap.size:=by have:=j.size;simp at this⊢;omega
 have L:=Lib.hid (J.out.trans (j.drew.mono J.out.size));have M:=PW.below ((Below.refl Y.heap.size Y).drew);have PX:=Lib.hid (xG C u (pr C u (PT.out C l Z PM)) q g _ [] a c Y.drew M (by simpa using PU.out) (by rw[r,l];exact Qb.out));have PY:=Lib.hid fun q g w1 (hB:BS C q g (.slice none 0 0) [] w1)=>xG C v (pr C v (V.out C l Z PM)) q g _ [] a2 c2 w1 hB (by simpa using X.out) (by rw[r,l];exact Qc.out);have Qi:=Lib.hid l;have PZ:=Lib.hid PV;obtain⟨k0,k1,k2,k3,k4,k5,k6⟩:TS.L7 Y w.heap.size u a c:=by(repeat' apply And.intro)<;>exact ar j (by first|(simp[go_sem];done)|(go_keep;done))
 obtain⟨j0,j1,j2,j3,j4,j5,j6⟩:TS.L7 Y (w.heap.size+1) v a2 c2:=by(repeat' apply And.intro)<;>exact ar j (by first|(simp[go_sem];done)|(go_keep;done))
 clear PW M l Z PM r PS j PV;go_wp2_with fail
 refine oR (fun W=>(W.cell? ⟨w.heap.size,0,none⟩=some (.int .i64 u.k)∧W.cell? ⟨w.heap.size,1,none⟩=some (.int .i64 u.n)∧W.cell? ⟨w.heap.size,2,none⟩=some (.int .i64 u.m)∧W.cell? ⟨w.heap.size,3,none⟩=some (.bool u.v)∧W.cell? ⟨w.heap.size,4,none⟩=some (.string u.nm)∧W.cell? ⟨w.heap.size,5,none⟩=some (.string u.tg)∧W.cell? ⟨w.heap.size,6,none⟩=some (.slice a u.es.length c))∧(W.cell? ⟨w.heap.size+1,0,none⟩=some (.int .i64 v.k)∧W.cell? ⟨w.heap.size+1,1,none⟩=some (.int .i64 v.n)∧W.cell? ⟨w.heap.size+1,2,none⟩=some (.int .i64 v.m)∧W.cell? ⟨w.heap.size+1,3,none⟩=some (.bool v.v)∧W.cell? ⟨w.heap.size+1,4,none⟩=some (.string v.nm)∧W.cell? ⟨w.heap.size+1,5,none⟩=some (.string v.tg)∧W.cell? ⟨w.heap.size+1,6,none⟩=some (.slice a2 v.es.length c2))) [(0,true),(1,true),(3,true),(4,true),(2,false),(5,false),(6,false),(7,true)] (by(repeat' apply And.intro)<;>assumption) (fun f=> ?_);clear k0 k1 k2 k3 k4 k5 k6 j0 j1 j2 j3 j4 j5 j6;generalize Y.drew=w1 at*;repeat((first|refine oS ?_|refine oF f ?_);try simp only[Act.put,oa,ob,oc])
 refine oL fun K N=> ?_;go_simp;go_at_call 18
 refine PX.out.mono ?_;rintro e2 w2 ⟨x,q2,g2,rfl,P0,P1,Qd,P2,z⟩;have Qe:=z.size;have Qj:w.heap.size+1<C.B0:=by rw[PZ.out];simp
 have O:=Lib.hid (Below.own L.out (z.mono fun c _ h=>h) L.out.size fun c (h:C.B0≤c)=>by omega);have P:∀b o v,b≤w.heap.size+1→w1.cell? ⟨b,o,none⟩=some v→w2.cell? ⟨b,o,none⟩=some v:=fun b o v hb h=>by
  rw[z.cell (World.block_lt_of_cell? _ _ h) (fun h:C.B0≤b=>by omega)];exact h
 obtain⟨b,rfl,P3⟩:=P0.gT d.out.1;have P4:=Lib.hid P3;have P5:=Lib.hid (PY.out q2 g2 w2 P1);obtain⟨⟨s0,s1,s,s3,s4,s5,s6⟩,t0,t1,t2,t3,t4,t5,t6⟩:=f;(try simp only[]);refine N _ _ (by(repeat' apply And.intro)<;>exact P _ _ _ (by omega) (by assumption)) fun f=> ?_;clear N K;try simp only[Act.put,oa,ob,oc]
 clear s0 s1 s s3 s4 s5 s6 t0 t1 t2 t3 t4 t5 t6 P P1 P0 Qd P2 z PX P3;repeat((first|refine oS ?_|refine oF f ?_);try simp only[Act.put,oa,ob,oc])
 refine oL fun K N=> ?_;go_simp;go_at_call 18
 refine P5.out.mono ?_;rintro e3 w3 ⟨y,q3,g3,rfl,P6,P7,Qf,Q,A⟩;have Qg:=A.size;have R:=Lib.hid (Below.own O.out (A.mono fun c _ h=>h) O.out.size fun c (h:C.B0≤c)=>by omega);have S:∀b o v,b≤w.heap.size+1→w2.cell? ⟨b,o,none⟩=some v→w3.cell? ⟨b,o,none⟩=some v:=fun b o v hb h=>by
  rw[A.cell (World.block_lt_of_cell? _ _ h) (fun h:C.B0≤b=>by omega)];exact h
 obtain⟨b',rfl,P8⟩:=P6.gT d.out.2.1;have P9:=Q.G _ _ P4.out;have hI:=Lib.hid (GN D.len q3 g3 b b' u v w3 P7.whole P9 P8 d.out.2.2.1 d.out.2.2.2.1 d.out.2.2.2.2.1 d.out.2.2.2.2.2);obtain⟨⟨s0,s1,s,s3,s4,s5,s6⟩,t0,t1,t2,t3,t4,t5,t6⟩:=f;(try simp only[]);refine N _ _ (by(repeat' apply And.intro)<;>exact S _ _ _ (by omega) (by assumption)) fun f=> ?_;clear N K;try simp only[Act.put,oa,ob,oc]
 clear s0 s1 s s3 s4 s5 s6 t0 t1 t2 t3 t4 t5 t6 S P7 P6 Qf Q A P5 P8 P9;repeat((first|refine oS ?_|refine oF f ?_);try simp only[Act.put,oa,ob,oc])
 refine oL fun K N=> ?_;go_simp;go_at_call 17
 refine hI.out.mono ?_;rintro e4 w4 ⟨rfl,P_⟩;have PN:=P_.below;have Qa:=Lib.hid (R.out.trans (PN.mono R.out.size));obtain⟨⟨s0,s1,s,s3,s4,s5,s6⟩,t0,t1,t2,t3,t4,t5,t6⟩:=f;(try simp only[]);refine N _ _ (by(repeat' apply And.intro)<;>exact ar PN (by assumption)) fun f=> ?_;clear N K;try simp only[Act.put,oa,ob,oc]
 clear s0 s1 s s3 s4 s5 s6 t0 t1 t2 t3 t4 t5 t6 P_ PN hI;repeat((first|refine oS ?_|refine oF f ?_);try simp only[Act.put,oa,ob,oc])
 refine ch ?_;clear f;go_wp2_with fail
 go_ret;exact⟨rfl,Qa.out⟩
end Go.Proofs.YtdkmnkjhhhmglaaGreatDoor
namespace TS
open Go Go.RowKit Go.Proofs.YtdkmnkjhhhmglaaGreatDoor
theorem jj{NS:List (List UInt8)}{l:List U}(h:∀e∈l,e.nm.toList∈NS∧Names NS e):Names NS (aq l):=by
 rw[Names];exact⟨h,fun e he=>by cases he⟩
theorem sh{NS:List (List UInt8)}{l:List U}(h:∀e∈l,e.nm.toList∈NS∧Names NS e):Names NS (aT l):=by
 rw[Names];exact⟨h,fun e he=>by cases he⟩
theorem Hv(NS:List (List UInt8)):Names NS bS:=qa rfl rfl
theorem jk{l:List U}{n:Nat}(h:∀e∈l,e.dep≤n):(aq l).dep≤n+1:=jL h fun e he=>by cases he
theorem si{l:List U}{n:Nat}(h:∀e∈l,e.dep≤n):(aT l).dep≤n+1:=jL h fun e he=>by cases he
theorem Hw:bS.dep≤1:=jL (n:=0) (fun e he=>by cases he) fun e he=>by cases he
end TS
namespace Go.Proofs.YtdkmnkjhhhmglaaGreatDoor
open Go.RowKit TS
theorem sj{D:Dl}{ds:List aF}{NS:List (List UInt8)}(R:Raw NS ds)(hlen:ds.length=D.len)(V:eR D ds)(dc:Nat){q:Pm}(g:cE q D ds)(i:aK (ds.map aF.un)+cB ds≤1099511627776){x y:U}(s:di D ds x=true)(t:di D ds y=true)(u:Names NS x)(w:Names NS y)(z:x.dep≤1048576)(A:y.dep≤1048576)
 (cx:cn x≤1099511627776)(B:cn y≤1099511627776)(j:x.k=10)(l:y.k=10)(hr:jg (ai (bM ds x)) (ai (bM ds y)))(hT:jZ D.len (bM ds x) (bM ds y)){a a':Option Addr}{c c':Nat}(C:ak q D x a c)(F:ak q D y a' c'){W:World}(G:KW q W)(b:br W):
 Calls Tryz.prog 9 #[.slice D.a D.len dc,.agg #[.int .i64 x.k,.int .i64 x.n,.int .i64 x.m,.bool x.v,.string x.nm,.string x.tg,.slice a x.es.length c],.agg #[.int .i64 y.k,.int .i64 y.n,.int .i64 y.m,.bool y.v,.string y.nm,.string y.tg,.slice a' y.es.length c']] W fun e H=>e= .returned (.bool true)∧Below W.heap.size W H:=by
 have o:=gg (gX g) x 1 C;have ty:=gg (gX g) y 1 F;obtain⟨p,M,I,J⟩:=jX R hlen V s u z o;obtain⟨r,N,K,L⟩:=jX R hlen V t w A ty;have E:=kQ R hlen V;have d:=p.pl.form.aE;have f:=r.pl.form.aE
 have h:=GO q D dc (aS ds) (cA ds) (Gu R hlen V g i) (rF g) (bM ds x) (bM ds y) a a' c c' W G b o ty J L (by unfold bM;rw[pC];exact cx) (by unfold bM;rw[pC];exact B) ((nG ds x).1.trans j) ((nG ds y).1.trans l)
  (pI E p (by omega) d.1 d.2 I) (pI E r (by omega) f.1 f.2 K) hr hT
 simp only[nG ds x,nG ds y]at h;exact h
theorem eT(a:Option Addr)(n c:Nat)(w:World):Calls Tryz.prog 8 #[.slice a n c] w fun e b=>e= .returned (.agg #[.int .i64 10,.int .i64 0,.int .i64 0,.bool false,.string ⟨#[]⟩,.string ⟨#[]⟩,.slice a n c])∧Below w.heap.size w b:=by
 have d:=Lib.hid ((Below.refl w.heap.size w).alloc (Nat.le_refl _) (.cells #[.int .i64 10,.int .i64 0,.int .i64 0,.bool false,.string ⟨#[]⟩,.string ⟨#[]⟩,.slice a n c] 25));go_enter Tryz.func8,Tryz.ntmps8;go_wp2_with fail
 refine bodyPost_ret (v:= .agg #[.int .i64 10,.int .i64 0,.int .i64 0,.bool false,.string ⟨#[]⟩,.string ⟨#[]⟩,.slice a n c]) (by simp[results,Tryz.results8,go_sem]) rfl ?_;exact⟨rfl,d.out⟩
theorem yF(p:Pm)(D:Dl):ak p D bS none 0:=by
 simp only[bS,ak];exact⟨⟨by simp,by simp,by decide,by decide,by decide,by decide,by decide⟩,aj.nil,fun h=>absurd h (by decide)⟩
end Go.Proofs.YtdkmnkjhhhmglaaGreatDoor
