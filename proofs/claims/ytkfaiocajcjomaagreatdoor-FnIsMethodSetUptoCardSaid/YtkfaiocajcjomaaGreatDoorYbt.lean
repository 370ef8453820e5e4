import Derived.Test.YtkfaiocajcjomaaGreatDoorYbr
set_option maxRecDepth 100000
set_option maxHeartbeats 8000000
set_option linter.all false
namespace TS
open Go Go.RowKit Go.Proofs.YtkfaiocajcjomaaGreatDoor
structure nw(D:Dl)(T:List U)(fds:List aH):Prop where
 len:fds.length=D.len
 tl:T.length=D.len
 un:∀i(h:i<fds.length)(c:i<T.length),fds[i].un=T[i]
 ty:∀(C:BC)(h:C.i<T.length),C.D=D→C.T=T→fD C T[C.i]
 lo:∀t∈T,1≤t.k∧t.k≤10∧t.k≠2
 ms:∀i(h:i<fds.length),fds[i].ms.length≤1048576∧(fds[i].ms.Pairwise fun a b=>(a.nm.toList==b.nm.toList)=false)∧∀m∈fds[i].ms,m.sig.k=7∧(0≤m.sig.m∧m.sig.m.toNat≤m.sig.es.length)∧(m.sig.v=true→0<m.sig.m.toNat∧∃e,m.sig.es[m.sig.m.toNat- 1]?=some e∧e.k=4)∧(m.nm.toList== [95])=false∧
  ∀C:BC,C.D=D→C.T=T→C.i=D.len→∀e∈m.sig.es,fD C e
 ct:aR T+cM fds≤1099511627776
def uT(pa:Pm)(D:Dl)(T:List U)(w:World)(e:Ending)(a:World):Prop:=
 ∃(C:BC)(q:Pm)(g:Ge),e= .returned (.pointer (some ⟨C.bb,0,none⟩))∧C.D=D∧C.T=T∧C.i=D.len∧C.pa=pa∧C.B0=w.heap.size∧BS C q g (.slice none 0 0) [] a∧Below w.heap.size w a
end TS
namespace Go.Proofs.YtkfaiocajcjomaaGreatDoor
open Go.RowKit TS
theorem DN:(Tryz.prog.info? 56).map (fun i=>(i.zero,i.size,i.bytes))=some (some (.pointer none),1,8):=by kernel_rfl
theorem uU(pa:Pm)(D:Dl)(dc:Nat)(T:List U)(fds:List aH)(hO:nw D T fds)(hD:cF pa D fds)(w:World)(hw:KW pa w)(Qd:bu w):
 Calls Tryz.prog 20 #[.slice D.a D.len dc] w (uT pa D T w):=by
 have hG:=World.block_lt_of_cell? _ _ (Qd 65 (by decide) (by decide));simp only at hG;have SU:5<(w.alloc (.cells #[.string ⟨#[112]⟩,.string ⟨#[112]⟩] 86)).heap.size:=by simp;omega
 have aa:Below w.heap.size w (w.alloc (.cells #[.string ⟨#[112]⟩,.string ⟨#[112]⟩] 86)):=(Below.refl _ _).alloc (Nat.le_refl _) _;have Qt:bu (w.alloc (.cells #[.string ⟨#[112]⟩,.string ⟨#[112]⟩] 86)):=fun c h1 h2=>ak aa (Qd c h1 h2);have hE:=Lib.hid (CV _ Qt SU);have SV:=Lib.hid hw;have SX:=Lib.hid Qd;have F:=Lib.hid hO;have RS:=Lib.hid hD;have SY:=hD.jG;obtain⟨i0,QQ,Qe,Qf,Qg⟩:=info_parts DN;clear hw Qd hO hD Qt;go_enter Tryz.func20,Tryz.ntmps20;go_wp2_with fail
 refine(yl _ _ _).mono ?_;rintro e1 w1 ⟨rfl,rfl⟩;go_wp2_with fail
 refine hE.out.mono ?_;rintro e2 f ⟨q2,eb,eo,ib,rfl,QX,Qh,QY,RV,RX,RY,RZ,R0,SZ,S0,R1⟩;have Qu:Below w.heap.size w f:=aa.trans (Qh.mono (by simp));have QZ:f.heap[w.heap.size]?=some (.cells #[.string ⟨#[112]⟩,.string ⟨#[112]⟩] 86 (0,0)):=(Qh.block _ (by simp)).trans (b8 rfl);obtain⟨q,Q3⟩:=DA SV.out QZ QX Qu (fun b o v e=>by have:=QY b o v e;simpa using this) hG SZ S0 ⟨RV,RX,RY,RZ,R0,R1⟩;have P6:=Lib.hid Q3;have Rq:=Lib.hid Qu;have Tq:w.heap.size+1≤f.heap.size:=by have:=Qh.size;simp at this;omega
 clear QX Qh QY RV RX RY RZ R0 R1 hE aa Qu QZ Q3;go_wp2_with fail
 refine(oM _ _ _ _).mono ?_;rintro e3 w3 ⟨rfl,rfl⟩;go_wp2_with fail
 refine(yW _).mono ?_;rintro e4 w4 ⟨rfl,R2⟩;have Qi:w4=iS (dK f w.heap.size eb):=R2;have S1:w4.heap.size≤f.heap.size+6∧f.heap.size+6≤w4.heap.size:=by rw[Qi];simp[iS,dK]
 have QR:Below (dK f w.heap.size eb).heap.size (dK f w.heap.size eb) w4:=by rw[Qi];exact((((Below.refl _ _).alloc (Nat.le_refl _) _).alloc (by simp) _).alloc (by simp<;>omega) _).alloc (by simp<;>omega) _
 have hA1:(dK f w.heap.size eb).heap[f.heap.size+1]?=some (.cells #[.int .i64 0,.pointer none,.string ⟨#[99,111,109,112,97,114,97,98,108,101]⟩,.nilIface] 120 (0,0)):=b8 (by simp);have hA0:(dK f w.heap.size eb).heap[f.heap.size]?=some (.cells #[.pointer (some ⟨w.heap.size,0,none⟩),.slice none 0 0,ae 56 eb,.nilIface,.slice none 0 0] 61 (0,0)):=by unfold dK;rw[dC (by simp)];exact b8 rfl
 have Rr:=(QR.block _ (by simp[dK])).trans hA1;have Rs:=(QR.block _ (by simp[dK];omega)).trans hA0;have Q4:w4.cell? ⟨f.heap.size+1,3,none⟩=some .nilIface:=by simp[World.cell?,Rr]
 have Q5:w4.frozen? ⟨f.heap.size+1,3,none⟩=false:=by simp[World.frozen?,Rr]
 have Q6:w4.cell? ⟨f.heap.size,3,none⟩=some .nilIface:=by simp[World.cell?,Rs]
 have Q7:w4.frozen? ⟨f.heap.size,3,none⟩=false:=by simp[World.frozen?,Rs]
 have Rt:=yO (f.heap.size+1) 32 (some ⟨f.heap.size+5,0,none⟩) (by decide) (by decide) w4 (by omega) Q4 Q5;rw[show w4.heap.size=f.heap.size+6 by omega]at Rt;have hN:=Lib.hid Rt;rw[←Qi]at P6;have R4:=Lib.hid (show Below f.heap.size f w4 from(((Below.refl _ _).alloc (Nat.le_refl _) _).alloc (by simp) _).trans (QR.mono (by simp[dK];omega)));clear R2 Qi QR hA1 hA0 Rr Rs Q4 Q5 Rt;go_wp2_with fail
 refine hN.out.mono ?_;rintro e5 w5 ⟨rfl,P7⟩;have h1:w5.cell? ⟨f.heap.size,3,none⟩=some .nilIface:=by rw[P7,World.cell?_alloc_lt _ _ _ (by simp;omega),World.cell?_setCell_other _ _ _ _ (fun e=>absurd (congrArg Addr.block e) (by simp))];exact Q6
 have h2:w5.frozen? ⟨f.heap.size,3,none⟩=false:=by rw[P7,World.frozen?_alloc_old _ _ _ (by simp;omega),World.frozen?_setCell];exact Q7
 have h3:f.heap.size<w5.heap.size:=by rw[P7];simp;omega
 have Qv:Hid (eT pa w.heap.size f.heap.size eb eo ib (f.heap.size+6) (f.heap.size+1) (f.heap.size+5) w.heap.size [] [] q (.slice none 0 0) (w5.setCell ⟨f.heap.size,3,none⟩ (.iface 56 (.pointer (some ⟨f.heap.size+6,0,none⟩))))):=by rw[P7];exact P6.out
 have R5:Hid (Below w.heap.size w (w5.setCell ⟨f.heap.size,3,none⟩ (.iface 56 (.pointer (some ⟨f.heap.size+6,0,none⟩))))):=by
  rw[P7];exact Rq.out.trans ((((R4.out.setCell (by simp) _).alloc (by simp;omega) _).setCell (Nat.le_refl _) _).mono (by omega))
 have TD:f.heap.size+7≤w5.heap.size:=by rw[P7];simp;omega
 clear hN P7 P6 S1 Q6 Q7;go_wp2_with fail
 go_loopw [25] (fun vk wr=> ∃(k:Nat)(l Qw:List Nat)(q:Pm)(B:Value),k≤D.len∧vk= .int .i64 k∧l.length=k∧eT pa w.heap.size f.heap.size eb eo ib (f.heap.size+6) (f.heap.size+1) (f.heap.size+5) w.heap.size l Qw q B wr∧Below w.heap.size w wr∧f.heap.size+7≤wr.heap.size) (fun vk _=>D.len- (intOf vk).toNat)
 case atStart=>exact⟨0,[],[],q,_,Nat.zero_le _,rfl,rfl,Qv.out,R5.out,by simp;omega⟩
 case round=>
  obtain⟨k,l,Qw,q1,TE,TF,rfl,R6,Ru,Q8,R7⟩:=hrel;have P:=Lib.hid Ru;have Qx:=Lib.hid Q8;have V:=Lib.hid R6;obtain⟨da,B,rfl⟩:=bd Ru.row;clear Ru Q8 R6;by_cases TG:k<D.len
  ·have Tr:(k:Int)<D.len:=by omega
   go_wp2_with fail
   refine DM (fun _=>True) (.one 0 true (.one 1 true (.one 2 true (.one 3 true (.one 5 true (.two 4 6 (.one 6 false (.one 7 false (.one 8 false (.one 9 false (.one 10 true (.one 11 true (.one 12 false .done))))))) (.two 4 7 (.one 7 false (.one 8 false (.one 9 false (.one 10 true (.one 11 true (.one 12 false .done)))))) (.two 4 8 (.one 8 false (.one 9 false (.one 10 true (.one 11 true (.one 12 false .done))))) (.one 4 false (.one 9 false (.one 10 true (.one 11 true (.one 12 false .done))))))))))))) (by kernel_rfl) (by kernel_rfl) (by kernel_rfl) (by decide) trivial (fun _=> ?_);have P8:=P.out.below (Below.refl _ _).drew;have Ts:f.heap.size+7≤wr.drew.heap.size:=R7;have S2:Below w.heap.size w wr.drew:=Qx.out.drew;generalize wr.drew=t at*;have y0:=P8.c0;have y1:=P8.c1;have S3:=P8.f1;have Q9:=World.block_lt_of_cell? _ _ y0;simp only at Q9;have X:=Lib.hid (show l.length≤1048576 by have:=V.out;omega);have Qy:=Lib.hid (sm f.heap.size (some ⟨w.heap.size,0,none⟩) ⟨#[84]⟩ t y0);have C:=yN t.heap.size (t.alloc (.cells #[.int .i64 0,.pointer (some ⟨w.heap.size,0,none⟩),.string ⟨#[84]⟩,.nilIface] 120)) (by simp) (jo t _ rfl) (kU t _ rfl);rw[show(t.alloc (.cells #[.int .i64 0,.pointer (some ⟨w.heap.size,0,none⟩),.string ⟨#[84]⟩,.nilIface] 120)).heap.size=t.heap.size+1 by simp]at C;obtain⟨M,QS⟩:∃M,Hid (M=(((t.alloc (.cells #[.int .i64 0,.pointer (some ⟨w.heap.size,0,none⟩),.string ⟨#[84]⟩,.nilIface] 120)).setCell ⟨t.heap.size,3,none⟩ (.iface 56 (.pointer (some ⟨t.heap.size+1,0,none⟩)))).alloc (.cells (fF t.heap.size) 116))):=⟨_,rfl⟩
   have Tt:M.heap.size≤t.heap.size+2∧t.heap.size+2≤M.heap.size:=by rw[QS.out];simp
   have Qz:Below t.heap.size t M:=by rw[QS.out];exact(((Below.refl _ _).alloc (Nat.le_refl _) _).setCell (Nat.le_refl _) _).alloc (by simp) _
   have QT:Below t.heap.size t (M.alloc (.cells #[.pointer (some ⟨t.heap.size+1,0,none⟩)] 56)):=Qz.alloc (by omega) _;rw[←QS.out]at C;have S:=Lib.hid C;have TH:M.cell? ⟨f.heap.size,1,none⟩=some (.slice da l.length B):=ak Qz y1;have Tu:f.heap.size<M.heap.size:=by omega
   have Qj:=Lib.hid (bD P8.row QT);have Qk:=Lib.hid (show ∀j u,[Value.pointer (some ⟨t.heap.size+1,0,none⟩)][j]?=some u→(M.alloc (.cells #[.pointer (some ⟨t.heap.size+1,0,none⟩)] 56)).cell? ((⟨M.heap.size,0,none⟩:Addr).add j)=some u from TS.dP M (.pointer (some ⟨t.heap.size+1,0,none⟩)) 56);clear C Qz
   have Ql:Hid (∀a6 E G,G.ownsRow (f.heap.size+1) 56 1 (.slice a6 (l.length+1) E) (l.length+1) (l.map pv++ [pv (t.heap.size+1)])→(M.alloc (.cells #[.pointer (some ⟨t.heap.size+1,0,none⟩)] 56)).grownBy G (Value.slice da l.length B).ownBlock→((Value.slice a6 (l.length+1) E).ownBlock=(Value.slice da l.length B).ownBlock∨(Value.slice a6 (l.length+1) E).ownBlock=some (M.alloc (.cells #[.pointer (some ⟨t.heap.size+1,0,none⟩)] 56)).heap.size)→
    G.cell? ⟨f.heap.size,1,none⟩=some (.slice da l.length B)∧G.frozen? ⟨f.heap.size,1,none⟩=false∧∃q6,Hid ((l++ [t.heap.size+1]).length=k+1∧eT pa w.heap.size f.heap.size eb eo ib (f.heap.size+6) (f.heap.size+1) (f.heap.size+5) w.heap.size (l++ [t.heap.size+1]) (Qw++ [t.heap.size]) q6 (.slice a6 (l.length+1) E) (G.setCell ⟨f.heap.size,1,none⟩ (.slice a6 (l.length+1) E))∧Below w.heap.size w (G.setCell ⟨f.heap.size,1,none⟩ (.slice a6 (l.length+1) E))∧f.heap.size+7≤(G.setCell ⟨f.heap.size,1,none⟩ (.slice a6 (l.length+1) E)).heap.size)):=fun a6 E G hr hg hv=>by
    have Y:Kept (fun c=>(Value.slice da l.length B).ownBlock=some c) (M.alloc (.cells #[.pointer (some ⟨t.heap.size+1,0,none⟩)] 56)) G:=(Kept.refl _ _).grown hg fun k hk _=>hk;have Q_:(Value.slice da l.length B).ownBlock≠some f.heap.size:=fun e=>by have:=(P8.row.lt _ e).1;omega
    have Ra:f.heap.size<(M.alloc (.cells #[.pointer (some ⟨t.heap.size+1,0,none⟩)] 56)).heap.size:=by simp only[World.size_alloc];omega
    have S4:Below w.heap.size w (G.setCell ⟨f.heap.size,1,none⟩ (.slice a6 (l.length+1) E)):=((S2.trans (QT.mono (by omega))).grown hg (by omega) fun k hk=>by have:=(P8.row.lt _ hk).1;omega).setCell (by simp;omega) _;have TI:(G.setCell ⟨f.heap.size,1,none⟩ (.slice a6 (l.length+1) E)).heap.size=G.heap.size:=by simp
    have Z:=Y.size;have TJ:f.heap.size+7≤(M.alloc (.cells #[.pointer (some ⟨t.heap.size+1,0,none⟩)] 56)).heap.size:=by simp only[World.size_alloc];omega
    refine⟨by rw[Y.cell Ra Q_];exact ak QT y1,by rw[Y.frozen Ra Q_];exact TS.frozen_kept QT Q9 S3,?_⟩;rw[show(M.alloc (.cells #[.pointer (some ⟨t.heap.size+1,0,none⟩)] 56)).heap.size=t.heap.size+3 by simp only[World.size_alloc];omega]at hv;rw[QS.out]at hg;obtain⟨q6,h6⟩:=P8.step ⟨by omega,by omega,by omega,by omega⟩ hg hr hv;exact⟨q6,by have:=V.out;simp;omega,h6,S4,by omega⟩
   (refine fG rfl (by rfl) (by intro W hW;go_simp<;>with_reducible rfl) ?_;try simp only[Act.put,oa,ob,oc])
   (refine fG rfl (by rfl) (by intro W hW;go_simp<;>with_reducible rfl) ?_;try simp only[Act.put,oa,ob,oc])
   (refine fG rfl (by rfl) (by intro W hW;go_simp<;>with_reducible rfl) ?_;try simp only[Act.put,oa,ob,oc])
   (refine fG rfl (by rfl) (by intro W hW;go_simp<;>with_reducible rfl) ?_;try simp only[Act.put,oa,ob,oc])
   (refine fG rfl (by rfl) (by intro W hW;go_simp<;>with_reducible rfl) ?_;try simp only[Act.put,oa,ob,oc])
   refine pM rfl rfl (by rfl) (by rfl) (fun K p=> ?_) (fun K p=> ?_)
   ·
    go_simp
    ((try simp only[]);refine p _ _ trivial (fun _=> ?_);clear p K;try simp only[Act.put,oa,ob,oc])
    refine eF rfl (by rfl) (fun K p=> ?_);go_simp
    go_at_call 42
    refine Qy.out.mono ?_;rintro e1 w1 ⟨rfl,rfl⟩;((try simp only[]);refine p _ _ trivial (fun _=> ?_);clear p K;try simp only[Act.put,oa,ob,oc])
    refine eF rfl (by rfl) (fun K p=> ?_);go_simp
    go_at_call 39
    refine S.out.mono ?_;rintro e1 w1 ⟨rfl,R8⟩;subst w1;((try simp only[]);refine p _ _ trivial (fun _=> ?_);clear p K;try simp only[Act.put,oa,ob,oc])
    refine eF rfl (by rfl) (fun K p=> ?_);go_simp
    ((try simp only[]);refine p _ _ trivial (fun _=> ?_);clear p K;try simp only[Act.put,oa,ob,oc])
    refine eF rfl (by rfl) (fun K p=> ?_);refine TS.ki _ _ 58 rfl (f.heap.size+1) 56 i0 (.pointer none) 1 8 Tryz.underlying58 QQ Qe Qf Qg rfl (by decide) (.slice da l.length B) l.length (l.map pv) rfl Qj.out ⟨M.heap.size,0,none⟩ 1 1 [.pointer (some ⟨t.heap.size+1,0,none⟩)] rfl rfl Qk.out (TS.one_one rfl) ?_ ?_ ?_ ?_
    ·have:=X.out;unfold maxLen;omega
    ·have:=X.out;omega
    ·simp only[World.size_alloc];omega
    intro v6 G r H _ I;obtain⟨a6,E,rfl⟩:=bd r;((try simp only[]);refine p _ _ trivial (fun _=> ?_);clear p K;try simp only[Act.put,oa,ob,oc])
    (refine fG rfl (by rfl) (by intro W hW;go_simp<;>with_reducible rfl) ?_;try simp only[Act.put,oa,ob,oc])
    (refine fG rfl (by rfl) (by intro W hW;go_simp<;>with_reducible rfl) ?_;try simp only[Act.put,oa,ob,oc])
    obtain⟨x6,Rv,q6,A⟩:=Ql.out _ _ _ r H I;clear r H I;refine eF rfl (by rfl) (fun K p=> ?_);go_simp
    ((try simp only[]);refine p _ _ trivial (fun _=> ?_);clear p K;try simp only[Act.put,oa,ob,oc])
    refine nv ?_;go_wp2_with fail
    exact⟨⟨k+1,_,_,_,_,by omega,by go_num,A.out⟩,by first|omega|(simp[intOf];omega)⟩
   ·
    go_simp
    go_at_call 42
    refine Qy.out.mono ?_;rintro e1 w1 ⟨rfl,rfl⟩;((try simp only[]);refine p _ _ trivial (fun _=> ?_);clear p K;try simp only[Act.put,oa,ob,oc])
    refine pM rfl rfl (by rfl) (by rfl) (fun K p=> ?_) (fun K p=> ?_)
    ·skip
     go_simp
     ((try simp only[]);refine p _ _ trivial (fun _=> ?_);clear p K;try simp only[Act.put,oa,ob,oc])
     refine eF rfl (by rfl) (fun K p=> ?_);go_simp
     go_at_call 39
     refine S.out.mono ?_;rintro e1 w1 ⟨rfl,R8⟩;subst w1;((try simp only[]);refine p _ _ trivial (fun _=> ?_);clear p K;try simp only[Act.put,oa,ob,oc])
     refine eF rfl (by rfl) (fun K p=> ?_);go_simp
     ((try simp only[]);refine p _ _ trivial (fun _=> ?_);clear p K;try simp only[Act.put,oa,ob,oc])
     refine eF rfl (by rfl) (fun K p=> ?_);refine TS.ki _ _ 58 rfl (f.heap.size+1) 56 i0 (.pointer none) 1 8 Tryz.underlying58 QQ Qe Qf Qg rfl (by decide) (.slice da l.length B) l.length (l.map pv) rfl Qj.out ⟨M.heap.size,0,none⟩ 1 1 [.pointer (some ⟨t.heap.size+1,0,none⟩)] rfl rfl Qk.out (TS.one_one rfl) ?_ ?_ ?_ ?_
     ·have:=X.out;unfold maxLen;omega
     ·have:=X.out;omega
     ·simp only[World.size_alloc];omega
     intro v6 G r H _ I;obtain⟨a6,E,rfl⟩:=bd r;((try simp only[]);refine p _ _ trivial (fun _=> ?_);clear p K;try simp only[Act.put,oa,ob,oc])
     (refine fG rfl (by rfl) (by intro W hW;go_simp<;>with_reducible rfl) ?_;try simp only[Act.put,oa,ob,oc])
     (refine fG rfl (by rfl) (by intro W hW;go_simp<;>with_reducible rfl) ?_;try simp only[Act.put,oa,ob,oc])
     obtain⟨x6,Rv,q6,A⟩:=Ql.out _ _ _ r H I;clear r H I;refine eF rfl (by rfl) (fun K p=> ?_);go_simp
     ((try simp only[]);refine p _ _ trivial (fun _=> ?_);clear p K;try simp only[Act.put,oa,ob,oc])
     refine nv ?_;go_wp2_with fail
     exact⟨⟨k+1,_,_,_,_,by omega,by go_num,A.out⟩,by first|omega|(simp[intOf];omega)⟩
    ·skip
     go_simp
     go_at_call 39
     refine S.out.mono ?_;rintro e1 w1 ⟨rfl,R8⟩;subst w1;((try simp only[]);refine p _ _ trivial (fun _=> ?_);clear p K;try simp only[Act.put,oa,ob,oc])
     refine pM rfl rfl (by rfl) (by rfl) (fun K p=> ?_) (fun K p=> ?_)
     ·skip
      go_simp
      ((try simp only[]);refine p _ _ trivial (fun _=> ?_);clear p K;try simp only[Act.put,oa,ob,oc])
      refine eF rfl (by rfl) (fun K p=> ?_);go_simp
      ((try simp only[]);refine p _ _ trivial (fun _=> ?_);clear p K;try simp only[Act.put,oa,ob,oc])
      refine eF rfl (by rfl) (fun K p=> ?_);refine TS.ki _ _ 58 rfl (f.heap.size+1) 56 i0 (.pointer none) 1 8 Tryz.underlying58 QQ Qe Qf Qg rfl (by decide) (.slice da l.length B) l.length (l.map pv) rfl Qj.out ⟨M.heap.size,0,none⟩ 1 1 [.pointer (some ⟨t.heap.size+1,0,none⟩)] rfl rfl Qk.out (TS.one_one rfl) ?_ ?_ ?_ ?_
      ·have:=X.out;unfold maxLen;omega
      ·have:=X.out;omega
      ·simp only[World.size_alloc];omega
      intro v6 G r H _ I;obtain⟨a6,E,rfl⟩:=bd r;((try simp only[]);refine p _ _ trivial (fun _=> ?_);clear p K;try simp only[Act.put,oa,ob,oc])
      (refine fG rfl (by rfl) (by intro W hW;go_simp<;>with_reducible rfl) ?_;try simp only[Act.put,oa,ob,oc])
      (refine fG rfl (by rfl) (by intro W hW;go_simp<;>with_reducible rfl) ?_;try simp only[Act.put,oa,ob,oc])
      obtain⟨x6,Rv,q6,A⟩:=Ql.out _ _ _ r H I;clear r H I;refine eF rfl (by rfl) (fun K p=> ?_);go_simp
      ((try simp only[]);refine p _ _ trivial (fun _=> ?_);clear p K;try simp only[Act.put,oa,ob,oc])
      refine nv ?_;go_wp2_with fail
      exact⟨⟨k+1,_,_,_,_,by omega,by go_num,A.out⟩,by first|omega|(simp[intOf];omega)⟩
     ·skip
      go_simp
      ((try simp only[]);refine p _ _ trivial (fun _=> ?_);clear p K;try simp only[Act.put,oa,ob,oc])
      refine eF rfl (by rfl) (fun K p=> ?_);go_simp
      ((try simp only[]);refine p _ _ trivial (fun _=> ?_);clear p K;try simp only[Act.put,oa,ob,oc])
      refine eF rfl (by rfl) (fun K p=> ?_);refine TS.ki _ _ 58 rfl (f.heap.size+1) 56 i0 (.pointer none) 1 8 Tryz.underlying58 QQ Qe Qf Qg rfl (by decide) (.slice da l.length B) l.length (l.map pv) rfl Qj.out ⟨M.heap.size,0,none⟩ 1 1 [.pointer (some ⟨t.heap.size+1,0,none⟩)] rfl rfl Qk.out (TS.one_one rfl) ?_ ?_ ?_ ?_
      ·have:=X.out;unfold maxLen;omega
      ·have:=X.out;omega
      ·simp only[World.size_alloc];omega
      intro v6 G r H _ I;obtain⟨a6,E,rfl⟩:=bd r;((try simp only[]);refine p _ _ trivial (fun _=> ?_);clear p K;try simp only[Act.put,oa,ob,oc])
      (refine fG rfl (by rfl) (by intro W hW;go_simp<;>with_reducible rfl) ?_;try simp only[Act.put,oa,ob,oc])
      (refine fG rfl (by rfl) (by intro W hW;go_simp<;>with_reducible rfl) ?_;try simp only[Act.put,oa,ob,oc])
      obtain⟨x6,Rv,q6,A⟩:=Ql.out _ _ _ r H I;clear r H I;refine eF rfl (by rfl) (fun K p=> ?_);go_simp
      ((try simp only[]);refine p _ _ trivial (fun _=> ?_);clear p K;try simp only[Act.put,oa,ob,oc])
      refine nv ?_;go_wp2_with fail
      exact⟨⟨k+1,_,_,_,_,by omega,by go_num,A.out⟩,by first|omega|(simp[intOf];omega)⟩
  ·have TK:¬(k:Int)<D.len:=by omega
   obtain rfl:k=D.len:=by omega
   have hO:=F.out;obtain⟨q3,TL,TM,S5,QA,P9,Rb⟩:=P.out.done D T (by have:=V.out;omega);injection S5 with R9 _ R_
   subst R9;subst R_;obtain⟨g,hg⟩:∃g,Hid (g=iP eb eo ib (f.heap.size+6) (f.heap.size+1) (f.heap.size+5) w.heap.size l Qw):=⟨_,rfl⟩
   have QB:Hid (∀j,j<D.len→gN q3 g wr j∧q3 (g.ob j) 1=some (ptr g.pk)):=fun j hj=>by
    have O:j<l.length:=by have:=V.out;omega
    have Rw:j<Qw.length:=by have:=P.out.ol;omega
    obtain⟨k1,k2,k3,k4⟩:=P.out.nm j O Rw;rw[hg.out];refine⟨⟨?_,?_⟩,?_⟩
    ·rw[iQ O,iR Rw];exact k3
    ·rw[iQ O];exact Rb j O
    ·rw[iR Rw];exact P9 _ _ _ k4
   have Sa:Hid (∃s,q3 g.pk 0=some (.string s)):=by
    obtain⟨s,h⟩:=P.out.pL;rw[hg.out];exact⟨s,P9 _ _ _ h⟩
   rw[←hg.out]at QA;have Rx:=Lib.hid QA;have QU:=Qx;clear QA P Rb P9 V hg Qv R5;go_wp2_with fail
   go_loopw [42] (fun vk wr=> ∃(i:Nat)(q:Pm)(g:Ge)(mv:Value)(ms:List Nat),i≤D.len∧vk= .int .i64 i∧L2 ⟨D,T,i,pa,w.heap.size,f.heap.size,da,B⟩ w q g mv ms wr) (fun vk _=>D.len- (intOf vk).toNat)
   case atStart=>exact⟨0,q3,g,_,[],Nat.zero_le _,rfl,Rx.out,fun j _ hj=>(QB.out j hj).1,fun j hj=>absurd hj (Nat.not_lt_zero _),fun j hj=>(QB.out j hj).2,Sa.out,Nat.zero_le _,QU.out,Nat.le_refl _⟩
   case round=>
    obtain⟨i,q4,g4,Sb,Ry,TN,rfl,Sc⟩:=hrel;have z:=Lib.hid Sc;clear Sc;by_cases QC:i<D.len
    ·have S6:(i:Int)<D.len:=by omega
     have P_:i<fds.length:=by have:=F.out.len;omega
     have QV:i<T.length:=by have:=F.out.tl;omega
     obtain⟨wb,J,Rz,ua,uc,ma,mc,h7,Z,Qq,_,_,_⟩:=RS.out.at' i P_;have QD:=F.out.un i P_ QV;have Q:=(F.out.ms i P_).1;generalize fds[i]=d at h7 Z Qq QD Q;have Sd:=ns ⟨D,T,i,pa,w.heap.size,f.heap.size,da,B⟩ d.un (by rw[QD];exact F.out.ty ⟨D,T,i,pa,w.heap.size,f.heap.size,da,B⟩ QV rfl rfl);have RA:=F.out.lo _ (List.getElem_mem QV);rw[←QD]at RA;have RC:T[i]?=some d.un:=by rw[List.getElem?_eq_getElem QV,QD]
     obtain⟨z0,z1,z2,z3,z4,z5,z6⟩:(wr.cell? ⟨wb,J+i*8,none⟩=some (.int .i64 d.un.k)∧wr.cell? ⟨wb,J+i*8+1,none⟩=some (.int .i64 d.un.n)∧wr.cell? ⟨wb,J+i*8+2,none⟩=some (.int .i64 d.un.m)∧wr.cell? ⟨wb,J+i*8+3,none⟩=some (.bool d.un.v)∧wr.cell? ⟨wb,J+i*8+4,none⟩=some (.string d.un.nm)∧wr.cell? ⟨wb,J+i*8+5,none⟩=some (.string d.un.tg)∧wr.cell? ⟨wb,J+i*8+6,none⟩=some (.slice ua d.un.es.length uc)):=h7.world z.out.bs.ka;have z7:wr.cell? ⟨wb,J+i*8+7,none⟩=some (.slice ma d.ms.length mc):=z.out.bs.ka _ _ _ Z;have QE:=World.block_lt_of_cell? _ _ z0;simp only at QE;have RD:Below wr.heap.size wr ((wr.alloc (.cells #[.int .i64 d.un.k,.int .i64 d.un.n,.int .i64 d.un.m,.bool d.un.v,.string d.un.nm,.string d.un.tg,.slice ua d.un.es.length uc,.slice ma d.ms.length mc] 44)).drew):=((Below.refl _ _).alloc (Nat.le_refl _) _).drew;have S7:=fE RC;have S8:=iL T (i+1);have Se:=Lib.hid (Sd q4 g4 Sb Ry ua uc _ (z.out.bs.below RD) (by have h1:=z.out.ct;have h2:=F.out.ct;have h3:Ry.length≤aR (T.take i):=h1;omega) Qq);have Sf:g4.len=D.len:=z.out.bs.len;obtain⟨rb,ro,rfl,RE⟩:=z.out.bs.c1.2 i (by omega);have y1:wr.cell? ⟨f.heap.size,1,none⟩=some (.slice (some ⟨rb,ro,none⟩) D.len B):=by have h1:=z.out.bs.c1.1;rwa [Sf]at h1
     have yr:=z.out.bs.wb.kw _ _ _ RE;have Sg:=World.block_lt_of_cell? _ _ y1;have Sh:=World.block_lt_of_cell? _ _ yr;simp only at Sg Sh;have Rc:=Lib.hid RE;have QF:=Lib.hid RD;have Si:=Lib.hid RC;have Sj:=Lib.hid RA;rw[Rz];clear h7 Z Qq QD Sd RA RC RD S7 S8 Sf RE;go_wp2_with fail
     refine oR (fun W=>(W.cell? ⟨f.heap.size,1,none⟩=some (.slice (some ⟨rb,ro,none⟩) D.len B)∧W.cell? ⟨rb,ro+i,none⟩=some (ptr (g4.nb i)))∧(W.cell? ⟨wr.heap.size,0,none⟩=some (.int .i64 d.un.k)∧W.cell? ⟨wr.heap.size,1,none⟩=some (.int .i64 d.un.n)∧W.cell? ⟨wr.heap.size,2,none⟩=some (.int .i64 d.un.m)∧W.cell? ⟨wr.heap.size,3,none⟩=some (.bool d.un.v)∧W.cell? ⟨wr.heap.size,4,none⟩=some (.string d.un.nm)∧W.cell? ⟨wr.heap.size,5,none⟩=some (.string d.un.tg)∧W.cell? ⟨wr.heap.size,6,none⟩=some (.slice ua d.un.es.length uc))) [(0,true),(1,true),(2,true),(3,true),(4,true),(5,true),(6,true),(7,true),(8,true),(9,true),(10,false),(11,false),(12,false)] (by(repeat' apply And.intro)<;>first|(simp[go_sem];done)|(go_keep;done)) (fun P3=> ?_);iterate 10 ((first|refine oS ?_|refine oF P3 ?_);try simp only[Act.put,oa,ob,oc])
     refine oL fun K p=> ?_;go_simp;go_at_call 44
     refine Se.out.mono ?_;rintro e1 G ⟨x,q5,g5,S9,S_,rfl,Sk,Qa,P4,Ta,_,Sl⟩;have QG:=Sj.out;have L:bare d.un=d.un:=cd QG.2.2 (by omega);have Re:under d.un=d.un:=DB QG;obtain⟨t5,b5,rt,QW,rfl,hU,hr⟩:=iE Sk (by rw[L,L]) (by rw[L];intro h;omega) (by rw[L];omega) (by rw[L];omega);have RF:TS.Node q5 g5 d.un (ae rt QW):=by
      rcases hr with⟨_,h⟩|⟨h,_⟩
      ·rwa [Re]at h
      ·rw[Re]at h;omega
     have Sm:=DC RF QG.1 QG.2.1 QG.2.2;obtain⟨K5,TO,c5,Sn,QH,Rg,RG,TP,Sp⟩:=hU G Qa.wb.kw;have Tv:=fun args w=>Go.MuLone.run_callFunc_enter Sn QH Rg args w;have QI:g5.nb=g4.nb:=P4.gs.nb;have RH:=z.out.wait QC QF.out P4;obtain⟨q6,Qr,QJ,Y⟩:=z.out.step QC Si.out QF.out Qa P4 Sl RF;have Sq:∀o v,((wr.alloc (.cells #[.int .i64 d.un.k,.int .i64 d.un.n,.int .i64 d.un.m,.bool d.un.v,.string d.un.nm,.string d.un.tg,.slice ua d.un.es.length uc,.slice ma d.ms.length mc] 44)).drew).cell? ⟨wr.heap.size,o,none⟩=some v→G.cell? ⟨wr.heap.size,o,none⟩=some v:=fun o v h=>(gY z.out.bs QF.out.size P4).2 _ _ _ (Nat.le_refl _) h;have Sr:G.cell? ⟨f.heap.size,1,none⟩=some (.slice (some ⟨rb,ro,none⟩) D.len B):=by
      have h1:=Qa.c1.1;have h2:g5.len=D.len:=Qa.len;rwa [h2]at h1
     have Ss:G.cell? ⟨rb,ro+i,none⟩=some (ptr (g4.nb i)):=Qa.wb.kw _ _ _ (P4.gr.le _ _ _ Rc.out);obtain⟨_,s0,s1,s2,s3,s4,s5,s6⟩:=P3;(try simp only[]);refine p _ _ (by(repeat' apply And.intro)<;>first|exact Sr|exact Ss|exact Sq _ _ (by assumption)) fun P3=> ?_;clear p K;try simp only[Act.put,oa,ob,oc]
     clear s0 s1 s2 s3 s4 s5 s6;rw[show(⟨D,T,i,pa,w.heap.size,f.heap.size,some ⟨rb,ro,none⟩,B⟩:BC).i=i from rfl,QI]at Qr Y;have Qs:∀o v,(fF (g5.ob i))[o]?=some v→G.cell? ⟨g4.nb i,o,none⟩=some v:=fun o v e=>by have h1:=RH.1;rw[show(⟨D,T,i,pa,w.heap.size,f.heap.size,some ⟨rb,ro,none⟩,B⟩:BC).i=i from rfl,QI]at h1;simp only[World.cell?,h1];exact e
     have R:∀o,G.frozen? ⟨g4.nb i,o,none⟩=false:=fun o=>by have h1:=RH.1;rw[show(⟨D,T,i,pa,w.heap.size,f.heap.size,some ⟨rb,ro,none⟩,B⟩:BC).i=i from rfl,QI]at h1;simp[World.frozen?,h1]
     obtain⟨W7,St⟩:∃W7,W7=(((((((G.setCell ⟨g4.nb i,3,none⟩ (.int .i32 1)).setCell ⟨g4.nb i,6,none⟩ (ae rt QW)).setCell ⟨g4.nb i,2,none⟩ (.bool false)).setCell ⟨g4.nb i,5,none⟩ (.int .u32 7)).setCell ⟨g4.nb i,7,none⟩ (ae rt QW)).setCell ⟨g4.nb i,5,none⟩ (.int .u32 15)).setCell ⟨g4.nb i,3,none⟩ (.int .i32 0)):=⟨_,rfl⟩
     have Qb:=(oP (g4.nb i) rt (some ⟨QW,0,none⟩) Sm.1 Sm.2 G ⟨_,Qs 2 _ rfl⟩ (Qs 3 _ rfl) (Qs 5 _ rfl) ⟨_,Qs 6 _ rfl⟩ ⟨_,Qs 7 _ rfl⟩ (R 2) (R 3) (R 5) (R 6) (R 7))
     rw[←St]at Qb Qr Y;have Rh:=Lib.hid Qb;have Su:=Lib.hid Qr;have Sv:=Lib.hid Y;have Tw:g4.nb i<wr.heap.size:=z.out.bs.wb.kw.lt (z.out.bs.nm i (by rw[z.out.bs.len];exact QC));have Sw:wr.heap.size<G.heap.size:=by have:=P4.size;simp at this;omega
     have Sx:=Qr.bs.wb.kw _ _ _ (QJ _ _ _ (P4.gr.le _ _ _ Rc.out));have Sy:W7.cell? ⟨f.heap.size,1,none⟩=some (.slice (some ⟨rb,ro,none⟩) D.len B):=by
      have h1:W7.cell? ⟨f.heap.size,1,none⟩=some (.slice (some ⟨rb,ro,none⟩) g5.len B):=Qr.bs.c1.1;have h2:g5.len=D.len:=Qa.len;rwa [h2]at h1
     clear Sn QH Rg Sk Qa P4 Ta hU hr RF RH Qr Y Sq Sr Ss Qs R QJ Se St Qb;refine oL fun K p=> ?_;go_simp;refine Sp.mono ?_;rintro e2 w7 ⟨rfl,rfl⟩;(try simp only[]);refine p _ _ (P3) fun P3=> ?_;clear p K;try simp only[Act.put,oa,ob,oc]
     refine oL fun K p=> ?_;go_simp;go_at_call 43
     refine Rh.out.mono ?_;rintro e3 w7 ⟨rfl,TQ⟩;subst w7;obtain⟨_,s0,s1,s2,s3,s4,s5,s6⟩:=P3;(try simp only[]);refine p _ _ (by(repeat' apply And.intro)<;>first|exact Sy|exact Sx|(rw[Sv.out.cell Sw (by omega)];assumption)) fun P3=> ?_;clear p K;try simp only[Act.put,oa,ob,oc]
     refine bM ?_;clear P3 s0 s1 s2 s3 s4 s5 s6 Sy Sx Rh Sp;go_wp2_with fail
     exact⟨⟨i+1,q6,g5,S9,S_,by omega,by go_num,Su.out⟩,by first|omega|(simp[intOf];omega)⟩
    ·have Tx:¬(i:Int)<D.len:=by omega
     obtain rfl:i=D.len:=by omega
     have Td:=F.out.tl;have Te:=Lib.hid (z.out.done rfl (N:=aR T) (iL T _));clear z;go_wp2_with fail
     go_loopw [63] (fun vk wr=> ∃(i:Nat)(q:Pm)(g:Ge)(mv:Value)(ms:List Nat),i≤D.len∧vk= .int .i64 i∧L3 ⟨D,T,D.len,pa,w.heap.size,f.heap.size,da,B⟩ w i q g mv ms (aR T+cM (fds.take i)) wr) (fun vk _=>D.len- (intOf vk).toNat)
     case atStart=>exact⟨0,q4,g4,Sb,Ry,Nat.zero_le _,rfl,Te.out.nu (Nat.le_refl _) (by omega)⟩
     case round=>
      obtain⟨i,q7,g7,Sz,SA,Ty,rfl,SB⟩:=hrel;have y:=Lib.hid SB;clear SB;obtain⟨J,rfl⟩:∃J:World,J=wr:=⟨_,rfl⟩
      by_cases Qm:i<D.len
      ·have Tf:(i:Int)<D.len:=by omega
       have P_:i<fds.length:=by have:=F.out.len;omega
       obtain⟨wb,xo,Rz,ua,uc,ma,mc,h7,Z,Qq,SC,TR,RI⟩:=RS.out.at' i P_;have RJ:=List.getElem?_eq_getElem P_;have Q:=F.out.ms i P_;generalize fds[i]=d at h7 Z Qq Q SC RI RJ;have Tg:=DE RJ;have SD:=uP fds (i+1);obtain⟨z0,z1,z2,z3,z4,z5,z6⟩:(J.cell? ⟨wb,xo+i*8,none⟩=some (.int .i64 d.un.k)∧J.cell? ⟨wb,xo+i*8+1,none⟩=some (.int .i64 d.un.n)∧J.cell? ⟨wb,xo+i*8+2,none⟩=some (.int .i64 d.un.m)∧J.cell? ⟨wb,xo+i*8+3,none⟩=some (.bool d.un.v)∧J.cell? ⟨wb,xo+i*8+4,none⟩=some (.string d.un.nm)∧J.cell? ⟨wb,xo+i*8+5,none⟩=some (.string d.un.tg)∧J.cell? ⟨wb,xo+i*8+6,none⟩=some (.slice ua d.un.es.length uc)):=h7.world y.out.bs.ka;have z7:J.cell? ⟨wb,xo+i*8+7,none⟩=some (.slice ma d.ms.length mc):=y.out.bs.ka _ _ _ Z;have QE:=World.block_lt_of_cell? _ _ z0;simp only at QE;have SE:=Lib.hid RI;have RK:=Lib.hid Q;have Ri:=Lib.hid (show aR T+cM (fds.take i)+ch d.ms≤1099511627776∧cM (fds.take (i+1))=cM (fds.take i)+ch d.ms by have:=F.out.ct;omega);obtain⟨ml,Qn⟩:∃ml,Hid (d.ms.length=ml):=⟨_,rfl⟩
       have Rj:ml≤1048576:=by have h1:=Q.1;have h2:=Qn.out;omega
       have Tz:ml≤mc:=by have h2:=Qn.out;omega
       rw[Qn.out]at z7;rw[Rz];clear h7 Z Qq RI Q Tg SD RJ SC;go_wp2_with fail
       go_loopw [71] (fun vj wr=> ∃(j:Nat)(q:Pm)(g:Ge)(mv:Value)(ms:List Nat)(v:Value)(fs:List Nat),j≤ml∧vj= .int .i64 j∧L3 ⟨D,T,D.len,pa,w.heap.size,f.heap.size,da,B⟩ w (i+1) q g mv ms (aR T+cM (fds.take i)+ch (d.ms.take j)) wr∧dj ⟨D,T,D.len,pa,w.heap.size,f.heap.size,da,B⟩ q g wr i j (kk d.ms) v fs) (fun vj _=>ml- (intOf vj).toNat)
       case atStart=>
        have SF:Below J.heap.size J (J.alloc (.cells #[.int .i64 d.un.k,.int .i64 d.un.n,.int .i64 d.un.m,.bool d.un.v,.string d.un.nm,.string d.un.tg,.slice ua d.un.es.length uc,.slice ma ml mc] 44)):=(Below.refl _ _).alloc (Nat.le_refl _) _;exact⟨0,q7,g7,Sz,SA,_,[],Nat.zero_le _,rfl,(y.out.nu (Nat.le_succ _) (by omega)).below SF,((y.out.mt i (Nat.le_refl _) Qm).below SF).zero⟩
       case round=>
        obtain⟨j,q8,g8,SG,SH,v8,Th,TT,rfl,SI,SJ⟩:=hrel;have Qo:=Lib.hid SI;have Rk:=Lib.hid SJ;clear SI SJ;by_cases TA:j<ml
        ·have Ti:(j:Int)<ml:=by omega
         have O:j<d.ms.length:=by have:=Qn.out;omega
         obtain⟨mb,mo,Tj,k0,k1,_,a8,c8,k2,RM⟩:=SE.out.at' j O;have RN:=List.getElem?_eq_getElem O;obtain⟨Rj,SK,RG⟩:=RK.out;have Qc:=RG d.ms[j] (List.getElem_mem O);have QK:∀k,k<j→((kk d.ms k).toList==d.ms[j].nm.toList)=false:=fun k hk=>by
          have:=List.pairwise_iff_getElem.1 SK k j (by omega) O hk;simpa [kk,show k<d.ms.length by omega]using this
         have QL:kk d.ms j=d.ms[j].nm:=by simp[kk,O]
         generalize d.ms[j]=m at k0 k1 k2 RM Qc QK QL RN;subst Tj;have ka:=Qo.out.bs.ka;have x0:=ka _ _ _ k0;have x1:=ka _ _ _ k1;obtain⟨x2,x3,x4,x5,x6,x7,x8⟩:(wr.cell? ⟨mb,mo+j*9+2,none⟩=some (.int .i64 m.sig.k)∧wr.cell? ⟨mb,mo+j*9+3,none⟩=some (.int .i64 m.sig.n)∧wr.cell? ⟨mb,mo+j*9+4,none⟩=some (.int .i64 m.sig.m)∧wr.cell? ⟨mb,mo+j*9+5,none⟩=some (.bool m.sig.v)∧wr.cell? ⟨mb,mo+j*9+6,none⟩=some (.string m.sig.nm)∧wr.cell? ⟨mb,mo+j*9+7,none⟩=some (.string m.sig.tg)∧wr.cell? ⟨mb,mo+j*9+8,none⟩=some (.slice a8 m.sig.es.length c8)):=k2.world ka;have SL:=World.block_lt_of_cell? _ _ x0;simp only at SL;have RP:Below wr.heap.size wr (wr.alloc (.cells #[.string m.nm,.bool m.ptr,.int .i64 m.sig.k,.int .i64 m.sig.n,.int .i64 m.sig.m,.bool m.sig.v,.string m.sig.nm,.string m.sig.tg,.slice a8 m.sig.es.length c8] 71)):=(Below.refl _ _).alloc (Nat.le_refl _) _;have P5:=Qo.out.below RP;have QM:=Rk.out.below RP;obtain⟨sp,SM⟩:=P5.pk;have RR:g8.len=D.len:=P5.bs.len;obtain⟨x9,SN,SO⟩:=P5.bs.tn i (by have:T.length=D.len:=Td;show i<T.length;omega) Qm;have SP:=DD RN;have Tk:=uO d.ms (j+1);have QN:=Lib.hid (Dy ⟨D,T,D.len,pa,w.heap.size,f.heap.size,da,B⟩ i j m a8 c8 sp (kk d.ms) v8 Th q8 g8 SG SH _ (by omega) P5.bs QM SN.1 (P5.ob i Qm) SM Qc.1 Qc.2.1 Qc.2.2.1 (fun e he=>ns _ e (Qc.2.2.2.2 ⟨D,T,D.len,pa,w.heap.size,f.heap.size,da,B⟩ rfl rfl rfl e he)) RM (by have:=P5.ct;have:=Ri.out.1;omega) (by omega) QL QK Qc.2.2.2.1);have SQ:=Lib.hid P5;have SR:=Lib.hid QM;have SS:=Lib.hid SP;clear k0 k1 k2 RM Qc QK QL RN SK RG Rj ka RP P5 QM SM SO RR SN SP Tk Qo Rk;go_wp2_with fail
         refine QN.out.mono ?_;rintro e8 w8 ⟨rfl,q9,g9,Tl,Tn,v9,To,QO,Rl,Rm,Rn,QP,_,_,Ro⟩;have Qp:=Lib.hid (And.intro (SQ.out.step Qm SR.out QO Rm Rn QP Ro) Rl);clear QO Rl Rm Rn QP Ro QN;go_wp2_with fail
         exact⟨⟨j+1,q9,g9,Tl,Tn,v9,To,by omega,by go_num,Qp.out.1.nu (Nat.le_refl _) (by have:=SS.out;omega),Qp.out.2⟩,by first|omega|(simp[intOf];omega)⟩
        ·have TB:¬(j:Int)<ml:=by omega
         obtain rfl:j=ml:=by omega
         go_wp2_with fail
         exact⟨⟨i+1,q8,g8,SG,SH,by omega,by go_num,Qo.out.nu (Nat.le_refl _) (by have:=Ri.out.2;have:=uO d.ms j;omega)⟩,by first|omega|(simp[intOf];omega)⟩
      ·have TC:¬(i:Int)<D.len:=by omega
       have SD:=uP fds i;have Rp:=Lib.hid (uQ ⟨D,T,D.len,pa,w.heap.size,f.heap.size,da,B⟩ q7 g7 Sz SA J y.out.bs (by have:=y.out.ct;have:=F.out.ct;omega));go_wp2_with fail
       refine Rp.out.mono ?_;rintro e9 w9 ⟨rfl,q9,QO,QM,QP⟩;have Qp:Hid (uT pa D T w (.returned (.pointer (some ⟨f.heap.size,0,none⟩))) w9):=by
        have Tp:=y.out.bl.size;refine⟨⟨D,T,D.len,pa,w.heap.size,f.heap.size,da,B⟩,q9,g7,rfl,rfl,rfl,rfl,rfl,rfl,QO,Below.own y.out.bl QP Tp fun b e=> ?_⟩;rcases e with e|e
        ·have e':b=f.heap.size:=e
         omega
        ·obtain⟨_,u,hu⟩:=y.out.bs.mlt b e
         exact y.out.bs.lp _ _ _ (y.out.bs.ifs b u hu).2.1
       clear QO QM QP Rp;go_wp2_with fail
       go_ret;exact Qp.out
end Go.Proofs.YtkfaiocajcjomaaGreatDoor
namespace TS
open Go Go.RowKit Go.Proofs.YtkfaiocajcjomaaGreatDoor
theorem Ee{s:ByteArray}(h:aO s=true):(s.toList== [95])=false:=by
 rw[beq_eq_false_iff_ne];intro e;have h1:jD s.toList=true:=by
  unfold aO at h;rwa [show s.data.toList=s.toList by simp[ByteArray.toList_eq]]at h
 rw[e]at h1;exact absurd h1 (by decide)
section
variable {D:Dl} {ds:List aH} {NS:List (List UInt8)} {p:Pm}
theorem pR(R:Raw NS ds)(hlen:ds.length=D.len)(V:dL D ds)(i:Nat):Env D (aN ds) NS i:=
 pF R hlen V.pl i fun j a _=>by
  rw[di]at a;have b:j<(bW ds).length:=by rw[eS];exact a
  have:=V.mt _ (List.getElem_mem b);rw[gM ds j a]at this;unfold fC at this;simp only[Bool.and_eq_true]at this;exact this.1
theorem nD(T:List U):∀(u:U)(f:Nat),cn (aQ T f u)=cn u:=by
 intro u;induction u using U.bg with
 |_ u ih=>
  intro f;rw[dD,dD];congr 1;unfold aR;congr 1;refine List.ext_getElem (by simp[cp]) fun j h1 h2=> ?_;simp only[List.length_map]at h1 h2;rw[List.getElem_map,List.getElem_map,gz];exact ih _ (U.az (List.getElem_mem h2)) _
theorem bh.upto{T:List U}{i a f:Nat}{u:U}(h:bh T i f u)(hi:i≤a):bh T a f u:=h.mono hi
theorem u_(R:Raw NS ds)(hlen:ds.length=D.len)(V:dL D ds)(L:cF p D ds)(M:aR (ds.map aH.un)+cM ds≤1099511627776):nw D (aN ds) (bW ds):=by
 have hF:=nh L;refine⟨by rw[eS];exact hlen,by rw[di];exact hlen,fun i h T=> ?_,fun C h f w=> ?_,fun t B=> ?_,fun i h=> ?_,?_⟩
 ·rw[eS]at h
  rw[gM ds i h]
 ·have hi:C.i<ds.length:=by rw[di]at h;exact h
  have E:=pR R hlen V C.i;have hk:=(uu R E hi).mo;have hm:=V.mt _ (List.getElem_mem (show C.i<(bW ds).length by rw[eS];exact hi));rw[gM ds C.i hi]at hm;unfold fC at hm;simp only[Bool.and_eq_true]at hm;obtain⟨b,o,e,a,c,N,O,_,_,hu,_⟩:=hF.at' C.i (by rw[eS];exact hi);rw[gM ds C.i hi]at hu;have x:=nA E _ hk hm.1 (fun _=>hk.pl.form.aB) (fun e=>by cases e) hu;exact⟨⟨0,1,by omega,by rw[f];exact hk.pl,by rw[w];exact hk.bE⟩,by rw[f];exact x⟩
 ·have:=(pR R hlen V 0).ok t B
  exact⟨this.lo,this.hi,this.jM⟩
 ·have hi:i<ds.length:=by rw[eS]at h;exact h
  obtain⟨b,o,e,a,c,N,O,_,_,hu,h1,h2,hM⟩:=hF.at' i h;have E:=pR R hlen V i;have n:=V.pl i hi;unfold dx eJ at n;simp only[Bool.and_eq_true,List.all_eq_true,decide_eq_true_eq]at n;have hm:=V.mt _ (List.getElem_mem h);rw[gM ds i hi]at hm hM h1⊢;unfold fC at hm;simp only[Bool.and_eq_true,List.all_eq_true]at hm;refine⟨by omega,?_,fun m d=> ?_⟩
  ·have hnd:=n.1.2.2
   simp only;rw[List.pairwise_map];refine(List.pairwise_map.1 hnd).imp fun{a b} F=> ?_;simpa using F
  ·obtain⟨k,hk,G⟩:=List.getElem_of_mem d
   obtain⟨U,W,X,m1,m2,m3,a',c',m4,y⟩:=hM.at' k hk;rw[G]at y;have H:=hm.2 m d;simp only[List.mem_map]at d;obtain⟨m0,z,rfl⟩:=d;have g:=n.1.2.1 m0 z;unfold fM at g;simp only[Bool.and_eq_true,beq_iff_eq]at g;have K:=R.ms _ (List.getElem_mem hi) m0 z;have r:Mo D.len (aN ds) NS i (aQ ((aN ds).take i) 0 m0.sig) 0 0:=(pG E (by rw[di];omega) R.err R.emp (fun t B=>(lA R B).2) (u:=m0.sig) (q:=⟨i,false,false⟩) (by simp) g.1.2 K.1 K.2).mo;have h7:(aQ ((aN ds).take i) 0 m0.sig).k=7:=by rw[cH];exact g.1.1.2
   have x:=nA E _ r H (fun _=>r.pl.form.aB) (fun e=>by cases e) y;have l:(0≤(aQ ((aN ds).take i) 0 m0.sig).m∧(aQ ((aN ds).take i) 0 m0.sig).m.toNat≤(aQ ((aN ds).take i) 0 m0.sig).es.length)∧((aQ ((aN ds).take i) 0 m0.sig).v=true→0<(aQ ((aN ds).take i) 0 m0.sig).m.toNat∧∃e,(aQ ((aN ds).take i) 0 m0.sig).es[(aQ ((aN ds).take i) 0 m0.sig).m.toNat- 1]?=some e∧e.k=4):=by
    have P:=r.pl.form;cases P with
    |func _ Q h1 A=>exact⟨⟨Q,h1⟩,fun s=>⟨(A s).1,_,List.getElem?_eq_getElem (by have:=(A s).1;omega),(A s).2 (by have:=(A s).1;omega)⟩⟩
    |_=>omega
   refine⟨h7,l.1,l.2,Ee g.1.1.1,fun C f w I e he=> ?_⟩;obtain⟨j,S,rfl⟩:=List.getElem_of_mem he;have J:=r.part j S;exact⟨⟨_,_,J.f2,by rw[f];exact J.pl,by rw[w,I];exact J.bE.mono (by omega)⟩,by rw[f];exact x.es he⟩
 ·have h1:aR (aN ds)=aR (ds.map aH.un):=by
   unfold aR;congr 1;refine List.ext_getElem (by simp[di]) fun j h1 h2=> ?_;simp only[List.length_map]at h1 h2;rw[List.getElem_map,List.getElem_map,List.getElem_map,kg ds j h2,nD]
  have h2:cM (bW ds)=cM ds:=by
   unfold cM;congr 1;refine List.ext_getElem (by simp[eS]) fun j h1 h2=> ?_;simp only[List.length_map]at h1 h2;rw[List.getElem_map,List.getElem_map,gM ds j h2];unfold ch;simp only[List.map_map];congr 1;exact List.map_congr_left fun m _=>nD _ _ _
  omega
theorem Ef(R:Raw NS ds)(hlen:ds.length=D.len)(V:dL D ds){u:U}(b:fH D ds u=true)(k:Names NS u)(d:u.dep≤1048576){a:Option Addr}{c:Nat}(hu:aj p D (aV ds u) a c):
 Mo D.len (aN ds) NS ds.length (aV ds u) 0 1∧isIface (aV ds u)=true∧mt (aN ds) .type (aV ds u) true=true∧∀C:BC,C.D=D→C.T=aN ds→C.i=D.len→fD C (aV ds u):=by
 unfold fH at b;simp only[Bool.and_eq_true]at b;have hk:=(nC R hlen V b.1.1 k d).mo;have g:=nA (kl R hlen V) _ hk b.2 (fun _=>hk.pl.form.aB) (fun e=>by cases e) hu;exact⟨hk,b.1.2,b.2,fun C f h j=>⟨⟨0,1,by omega,by rw[f];exact hk.pl,by rw[h,j,←hlen];exact hk.bE⟩,by rw[f];exact g⟩⟩
end
end TS
