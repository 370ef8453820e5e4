import Derived.Test.YtgbklbbknehefaaGreatDoorYbm
set_option maxRecDepth 100000
set_option maxHeartbeats 8000000
set_option linter.all false
namespace Go.Proofs.YtgbklbbknehefaaGreatDoor
open Go.RowKit TS
theorem CQ:(Tryz.prog.info? 38).map (fun i=>(i.zero,i.size,i.bytes))=some (some (.pointer none),1,8):=by kernel_rfl
theorem CR:(Tryz.prog.info? 33).map (fun i=>(i.zero,i.size,i.bytes))=some (some (.pointer none),1,8):=by kernel_rfl
theorem CS:(Tryz.prog.info? 44).map (fun i=>(i.zero,i.size,i.bytes))=some (some .nilIface,1,16):=by kernel_rfl
theorem ug(C:BC)(u v:U)(RI:v.m=u.m)(QP:v.es=u.es)(hm:0≤u.m∧u.m.toNat≤u.es.length)(hS:∀k e,u.es[k]?=some e→k<u.m.toNat→e.k=7∧aL e.nm=true∧(0≤e.m∧e.m.toNat≤e.es.length)∧(e.v=true→0<e.m.toNat∧∃x,e.es[e.m.toNat- 1]?=some x∧x.k=4)∧∀x∈e.es,bF C x)(hI:∀k e,u.es[k]?=some e→u.m.toNat≤k→bF C e)(QQ:v.k=10)(Q4:0<u.es.length→fj C.D.len v)(hO:dy (u.es.take u.m.toNat))(p:Pm)(g:Ge)(mv:Value)(ms:List Nat)(a:Option Addr)(c:Nat)(w:World)(hB:BS C p g mv ms w)(Sb:ms.length+cn u≤1099511627776)(hu:ai C.pa C.D u a c):
 Calls Tryz.prog 82 #[.pointer (some ⟨C.bb,0,none⟩),.agg #[.int .i64 u.k,.int .i64 u.n,.int .i64 u.m,.bool u.v,.string u.nm,.string u.tg,.slice a u.es.length c]] w (bf C v p g mv ms w):=by
 have Q5:=hu.cap;have Sc:=Q5.1;have Q6:Hid (∀k e,u.es[k]?=some e→∃eb eo a' c',a=some ⟨eb,eo,none⟩∧cO C.pa eb (eo+k*7) e a' c'∧ai C.pa C.D e a' c'):=fun k e he=>by
  obtain⟨hk,rfl⟩:=List.getElem?_eq_some_iff.1 he;obtain⟨eb,eo,rfl⟩:=hu.list.bt (by omega);obtain⟨a',c',h7,P⟩:=hu.list.get k hk;exact⟨eb,eo,a',c',rfl,h7,P⟩
 have R7:=(hB.ib (b:=C.bb) (.inl rfl)).2.1;have Qt:Below w.heap.size w (w.alloc (.cells #[.int .i64 u.k,.int .i64 u.n,.int .i64 u.m,.bool u.v,.string u.nm,.string u.tg,.slice a u.es.length c] 25)):=(Below.refl _ _).alloc (Nat.le_refl _) _;have Q7:=Lib.hid (hB.below Qt);have RJ:=Lib.hid hB;have Sd:u.es.length≤1048576:=by omega
 have Se:=Lib.hid hm;have RK:=Lib.hid hI;have Q8:=Lib.hid hS;have Q9:0≤u.m:=hm.1;have RM:u.m≤(c:Int):=by omega
 have RN:u.m≤(u.es.length:Int):=by omega
 obtain⟨i0,RP,Q_,Ra,Rb⟩:=info_parts CQ;have hh:(w.alloc (.cells #[.int .i64 u.k,.int .i64 u.n,.int .i64 u.m,.bool u.v,.string u.nm,.string u.tg,.slice a u.es.length c] 25)).heap[w.heap.size]?=some (.cells #[.int .i64 u.k,.int .i64 u.n,.int .i64 u.m,.bool u.v,.string u.nm,.string u.tg,.slice a u.es.length c] 25):=cf rfl;have Q:Hid ((w.alloc (.cells #[.int .i64 u.k,.int .i64 u.n,.int .i64 u.m,.bool u.v,.string u.nm,.string u.tg,.slice a u.es.length c] 25)).cell? ⟨w.heap.size,2,none⟩=some (.int .i64 u.m)∧(w.alloc (.cells #[.int .i64 u.k,.int .i64 u.n,.int .i64 u.m,.bool u.v,.string u.nm,.string u.tg,.slice a u.es.length c] 25)).cell? ⟨w.heap.size,6,none⟩=some (.slice a u.es.length c)):=by(repeat' apply And.intro)<;>(simp only[World.cell?,hh];rfl)
 obtain⟨V,hW⟩:∃V,Hid (V=w.alloc (.cells #[.int .i64 u.k,.int .i64 u.n,.int .i64 u.m,.bool u.v,.string u.nm,.string u.tg,.slice a u.es.length c] 25)):=⟨_,rfl⟩
 have Sf:V.heap.size≤w.heap.size+1∧w.heap.size+1≤V.heap.size:=by rw[hW.out];simp
 rw[←hW.out]at Q7 Qt Q;have Qc:C.bb<V.heap.size:=by omega
 have Qz:=Lib.hid Qt;clear hu hB Qt hm hI hh hS;generalize hn:u.es.length=n at*;have Qu:=Lib.hid hn;clear hn;generalize hz:u.m=z at RM RN Q9⊢hW Q;obtain⟨m,rfl⟩:=Int.eq_ofNat_of_zero_le Q9;have Qd:=Lib.hid (show u.m.toNat=m by rw[hz];rfl);clear hz;have Sg:max (m:Int) 0=m:=by omega
 have Sh:m≤n:=by omega
 go_enter Tryz.func82,Tryz.ntmps82;go_wp2_with fail
 go_loopw [18,5] (fun vk vf wr=> ∃(k:Nat)(q:Pm)(g':Ge)(Qv:Value)(Qe fs:List Nat)(sb:Nat→Nat),k≤m∧vk= .int .i64 k∧ew C u p g mv ms V k q g' Qv Qe fs sb vf wr∧wr.cell? ⟨w.heap.size,2,none⟩=some (.int .i64 m)∧wr.cell? ⟨w.heap.size,6,none⟩=some (.slice a n c)∧Qe.length≤ms.length+aO (u.es.take k)) (fun vk _ _=>m- (intOf vk).toNat)
 case atStart=>
  obtain rfl:=hW.out;exact⟨0,p,g,mv,ms,[],fun _=>0,Nat.zero_le _,rfl,⟨Q7.out,az.refl _ _ _ _ _ _,fun b e=> .inl e,rfl,by simpa using World.ownsRow_nil _ _ _ _,fun b e=>(by cases e),fun i _ hi=>absurd hi (Nat.not_lt_zero _),fun i hi=>absurd hi (Nat.not_lt_zero _)⟩,Q.out.1,Q.out.2,Nat.le_add_right _ _⟩
 case round=>
  obtain⟨k,q,g',Qv,Qe,fs,sb,Si,rfl,hM,t2,t6,Qw⟩:=hrel;have RR:=World.block_lt_of_cell? _ _ t2;simp only at RR;have l:=Lib.hid hM;obtain⟨fa,fc,rfl⟩:=aZ hM.fr;clear hM;by_cases RS:k<m
  ·have Rc:(k:Int)<m:=by omega
   obtain⟨e,I⟩:∃e,u.es[k]?=some e:=⟨_,List.getElem?_eq_getElem (by have:=Qu.out;omega)⟩
   obtain⟨eb,eo,a',c',rfl,h7,P⟩:=Q6.out k e I;obtain⟨e7,_,em,ev,eI⟩:=Q8.out k e I (by have:=Qd.out;omega);obtain⟨z0,z1,z2,z3,z4,z5,z6⟩:(wr.cell? ⟨eb,eo+k*7,none⟩=some (.int .i64 e.k)∧wr.cell? ⟨eb,eo+k*7+1,none⟩=some (.int .i64 e.n)∧wr.cell? ⟨eb,eo+k*7+2,none⟩=some (.int .i64 e.m)∧wr.cell? ⟨eb,eo+k*7+3,none⟩=some (.bool e.v)∧wr.cell? ⟨eb,eo+k*7+4,none⟩=some (.string e.nm)∧wr.cell? ⟨eb,eo+k*7+5,none⟩=some (.string e.tg)∧wr.cell? ⟨eb,eo+k*7+6,none⟩=some (.slice a' e.es.length c')):=h7.world l.out.bs.ka;have Re:eb<wr.heap.size:=l.out.bs.ka.lt h7.1;have X:Below wr.heap.size wr ((wr.alloc (.cells #[.int .i64 e.k,.int .i64 e.n,.int .i64 e.m,.bool e.v,.string e.nm,.string e.tg,.slice a' e.es.length c'] 25)).drew):=((Below.refl _ _).alloc (Nat.le_refl _) _).drew;have hT:=Lib.hid (mS C e none e7 em ev eI q g' Qv Qe a' c' _ (l.out.bs.below X) (by have:=mR I;omega) P);have R:=Lib.hid I;have Rg:=Lib.hid e7;have E:=Lib.hid X;have QA:=l.out.bs.c0;have QB:g'.pk=g.pk:=l.out.st.gs.pk;rw[QB]at QA;have Rh:=World.block_lt_of_cell? _ _ QA;simp only at Rh;clear h7 P I X e7 em ev eI;go_wp2_with fail
   refine oR (fun W=>(W.cell? ⟨C.bb,0,none⟩=some (ptr g.pk)∧W.cell? ⟨w.heap.size,2,none⟩=some (.int .i64 m)∧W.cell? ⟨w.heap.size,6,none⟩=some (.slice (some ⟨eb,eo,none⟩) n c))∧(W.cell? ⟨wr.heap.size,0,none⟩=some (.int .i64 e.k)∧W.cell? ⟨wr.heap.size,1,none⟩=some (.int .i64 e.n)∧W.cell? ⟨wr.heap.size,2,none⟩=some (.int .i64 e.m)∧W.cell? ⟨wr.heap.size,3,none⟩=some (.bool e.v)∧W.cell? ⟨wr.heap.size,4,none⟩=some (.string e.nm)∧W.cell? ⟨wr.heap.size,5,none⟩=some (.string e.tg)∧W.cell? ⟨wr.heap.size,6,none⟩=some (.slice a' e.es.length c'))) [(0,true),(1,true),(2,true),(3,true),(4,true),(5,true),(6,true),(7,true),(8,true),(9,false),(10,false),(11,false),(12,false),(13,true)] (by(repeat' apply And.intro)<;>first|(simp[go_sem];done)|(go_keep;done)) (fun F=> ?_);repeat((first|refine oS ?_|refine oF F ?_);try simp only[Act.put,oa,ob,oc])
   refine oL fun K hK=> ?_;go_simp;go_at_call 80
   refine hT.out.mono ?_;rintro e1 J ⟨s,q1,g1,Ri,Rj,rfl,Qa,Y,H,Qf,hs,Rk,Rl,Qg,RV⟩;have QC:J.cell? ⟨C.bb,0,none⟩=some (ptr g.pk):=by
    have h1:=Y.c0;rwa [H.gs.pk,QB]at h1
   have QD:=(gS l.out.bs E.out.size H).2;have Rm:∀o v,((wr.alloc (.cells #[.int .i64 e.k,.int .i64 e.n,.int .i64 e.m,.bool e.v,.string e.nm,.string e.tg,.slice a' e.es.length c'] 25)).drew).cell? ⟨w.heap.size,o,none⟩=some v→J.cell? ⟨w.heap.size,o,none⟩=some v:=fun o v h=>by
    rw[H.kept.cell (World.block_lt_of_cell? _ _ h) fun e=> ?_]
    ·exact h
    ·rcases e with(e:w.heap.size=C.bb)|e
     ·omega
     ·rcases l.out.om _ e with e|e
      ·have:=(RJ.out.ib (b:=w.heap.size) (.inr e)).2.1;omega
      ·have e':V.heap.size≤w.heap.size:=e
       omega
   obtain⟨⟨_,p2,p6⟩,s0,s1,s2,s3,s4,s5,s6⟩:=F;(try simp only[]);refine hK _ _ (by(repeat' apply And.intro)<;>first|exact QC|exact QD _ _ _ (Nat.le_refl _) (by assumption)|exact Rm _ _ (by assumption)) fun F=> ?_;clear hK K;try simp only[Act.put,oa,ob,oc]
   clear s0 s1 s2 s3 s4 s5 s6 p2 p6 Rm;have Sj:wr.heap.size<J.heap.size:=by
    have:=H.size;simp at this;omega
   have R8:=(Y.ib (b:=C.bb) (.inl rfl)).2.1;have RX:V.heap.size<J.heap.size:=by have:=l.out.st.size;omega
   have QR:(Value.slice fa fs.length fc).ownBlock≠some C.bb∧(Value.slice fa fs.length fc).ownBlock≠some wr.heap.size∧(Value.slice fa fs.length fc).ownBlock≠some w.heap.size:=⟨fun e=>by have:=(l.out.fr.lt _ e).1;omega,fun e=>by have:=(l.out.fr.lt _ e).2;omega,fun e=>by have:=(l.out.fr.lt _ e).1;omega⟩
   have Qh:=Lib.hid (show fs.length=k from l.out.fl);have P9:=Lib.hid (show ∀j u,[Value.pointer (some ⟨J.heap.size,0,none⟩)][j]?=some u→((J.alloc (.cells #[.int .i64 0,.pointer (some ⟨g.pk,0,none⟩),.string e.nm,ae 108 s,.bool false,.bool false] 48)).alloc (.cells #[.pointer (some ⟨J.heap.size,0,none⟩)] 38)).cell? ((⟨J.heap.size+1,0,none⟩:Addr).add j)=some u from fun j u h=>by
    have h1:=TS.dC (J.alloc (.cells #[.int .i64 0,.pointer (some ⟨g.pk,0,none⟩),.string e.nm,ae 108 s,.bool false,.bool false] 48)) (.pointer (some ⟨J.heap.size,0,none⟩)) 38 j u h;rwa [show(J.alloc (.cells #[.int .i64 0,.pointer (some ⟨g.pk,0,none⟩),.string e.nm,ae 108 s,.bool false,.bool false] 48)).heap.size=J.heap.size+1 by simp]at h1)
   have P_:=Lib.hid ((((az.row (l.out.bs.below E.out) H (by decide) (bq l.out.fr E.out) Qc l.out.fd).1).alloc (.cells #[.int .i64 0,.pointer (some ⟨g.pk,0,none⟩),.string e.nm,ae 108 s,.bool false,.bool false] 48)).alloc (.cells #[.pointer (some ⟨J.heap.size,0,none⟩)] 38));have Qi:=Lib.hid Y;have Qj:=Lib.hid H;have Qk:=Lib.hid Qa;have Ql:=Lib.hid Qf;have Qx:=Lib.hid (And.intro hs (And.intro Rk (And.intro Rl Qg)));clear Y H Qa Qf QC QD hT hs Rk Rl Qg;repeat((first|refine oS ?_|refine oF F ?_);try simp only[Act.put,oa,ob,oc])
   refine oL fun K hK=> ?_;go_simp;go_at_call 65
   refine(mg _ _ _ _ _).mono ?_;rintro e2 w2 ⟨rfl,rfl⟩;obtain⟨⟨_,p2,p6⟩,s0,s1,s2,s3,s4,s5,s6⟩:=F;(try simp only[]);refine hK _ _ (by(repeat' apply And.intro)<;>exact ak ((Below.refl _ _).alloc (Nat.le_refl _) _) (by assumption)) fun F=> ?_;clear hK K;try simp only[Act.put,oa,ob,oc]
   clear s0 s1 s2 s3 s4 s5 s6 p2 p6;repeat((first|refine oS ?_|refine oF F ?_);try simp only[Act.put,oa,ob,oc])
   refine oL fun K hK=> ?_;go_simp;obtain⟨⟨_,p2,p6⟩,s0,s1,s2,s3,s4,s5,s6⟩:=F;(try simp only[]);refine hK _ _ (by(repeat' apply And.intro)<;>exact ak ((Below.refl _ _).alloc (Nat.le_refl _) _) (by assumption)) fun F=> ?_;clear hK K;try simp only[Act.put,oa,ob,oc]
   repeat((first|refine oS ?_|refine oF F ?_);try simp only[Act.put,oa,ob,oc])
   refine nD rfl (by rfl) (fun K hK=> ?_);refine jZ _ _ 114 rfl V.heap.size 38 i0 (.pointer none) 1 8 Tryz.underlying114 RP Q_ Ra Rb rfl (by decide) (.slice fa fs.length fc) fs.length (fs.map pv) rfl P_.out ⟨J.heap.size+1,0,none⟩ 1 1 [.pointer (some ⟨J.heap.size,0,none⟩)] rfl rfl P9.out (TS.one_one rfl) ?c3 ?c4 ?c5 ?_
   case c3=>have:=Qh.out;unfold maxLen;omega
   case c4=>have:=Qh.out;omega
   case c5=>(try simp);omega
   intro Sk w3 A Qb _ Qm;have Qy:∀b o v,(Value.slice fa fs.length fc).ownBlock≠some b→((J.alloc (.cells #[.int .i64 0,.pointer (some ⟨g.pk,0,none⟩),.string e.nm,ae 108 s,.bool false,.bool false] 48)).alloc (.cells #[.pointer (some ⟨J.heap.size,0,none⟩)] 38)).cell? ⟨b,o,none⟩=some v→w3.cell? ⟨b,o,none⟩=some v:=fun b o v hb h=>by
    rw[((Kept.refl (fun b=>(Value.slice fa fs.length fc).ownBlock=some b) _).grown Qb fun k hk _=>hk).cell (World.block_lt_of_cell? _ _ h) hb];exact h
   obtain⟨⟨_,p2,p6⟩,s0,s1,s2,s3,s4,s5,s6⟩:=F;(try simp only[]);refine hK _ _ (by(repeat' apply And.intro)<;>first|exact Qy _ _ _ QR.1 (by assumption)|exact Qy _ _ _ QR.2.1 (by assumption)|exact Qy _ _ _ QR.2.2 (by assumption)) fun F=> ?_;clear hK K;try simp only[Act.put,oa,ob,oc]
   clear s0 s1 s2 s3 s4 s5 s6 p2 p6 Qy;repeat((first|refine oS ?_|refine oF F ?_);try simp only[Act.put,oa,ob,oc])
   refine bR ?_;obtain⟨⟨_,p2,p6⟩,_⟩:=F;obtain⟨a3,c3,rfl⟩:=aZ A;have L:=Lib.hid (ew.step (pk:=some ⟨g.pk,0,none⟩) l.out Qc R.out Rg.out E.out Qk.out Qi.out Qj.out Ql.out Qx.out.1 Qx.out.2.1 Qx.out.2.2.1 Qx.out.2.2.2 A Qb (Qm.imp id fun h=>h.trans (by simp)));clear Qb A Qm;go_wp2_with fail
   exact⟨⟨k+1,_,g1,Ri,Rj,_,_,by omega,by go_num,L.out,p2,p6,by have:=fo R.out;omega⟩,by first|omega|(simp[intOf];omega)⟩
  ·have RY:¬(k:Int)<m:=by omega
   obtain rfl:k=m:=by omega
   have Sl:k≤c:=by omega
   go_upto_region 8 with fail
   go_cut [40,41,42] (fun v40 v41 RZ wx=>wx=wr∧∃sl cc,v40= .slice sl (n- k) cc∧v41= .int .i64 ((n- k:Nat):Int)∧RZ= .int .i64 0∧∀j e,u.es[k+j]?=some e→∃eb eo a' c',sl=some ⟨eb,eo,none⟩∧cO C.pa eb (eo+j*7) e a' c'∧ai C.pa C.D e a' c')
   case first=>
    rcases Qw:(decide (k<c))with _|_
    ·have Rn:¬k<c:=by simp at Qw;omega
     have QE:¬(k:Int)<(c:Int):=by omega
     go_wp2_with fail
     go_meet
     exact⟨rfl,_,_,rfl,rfl,rfl,fun j e he=>absurd (List.getElem?_eq_some_iff.1 he).1 (by have:=Qu.out;omega)⟩
    ·have Rn:k<c:=by simpa using Qw
     have QE:(k:Int)<(c:Int):=by omega
     go_wp2_with fail
     go_meet
     refine⟨rfl,_,_,rfl,rfl,rfl,fun j e he=> ?_⟩;obtain⟨eb,eo,a',c',rfl,h7,P⟩:=Q6.out _ _ he;exact⟨eb,eo+k*7,a',c',by simp[Addr.add],by rw[show eo+k*7+j*7=eo+(k+j)*7 by omega];exact h7,P⟩
   case rest=>
    obtain⟨rfl,sl,cc,rfl,rfl,rfl,QF⟩:=hcut;have QS:=Lib.hid l.out;obtain⟨i1,R0,R1,R2,R4⟩:=info_parts CS;have QT:=Lib.hid QF;clear QF l;go_wp2_with fail
    go_loopw [42,8] (fun vj ve wz=> ∃(j:Nat)(q2:Pm)(g2:Ge)(QU:Value)(d:List Nat)(xs:List Value),j≤n- k∧vj= .int .i64 j∧ju C u p g mv ms V j q2 g2 QU d fs sb (.slice fa fs.length fc) xs ve wz∧d.length≤ms.length+aO (u.es.take (k+j))) (fun vj _ _=>n- k- (intOf vj).toNat)
    case atStart=>
     exact⟨0,q,g',Qv,Qe,[],Nat.zero_le _,rfl,⟨by have h:=QS.out;rw[←Qd.out]at h;exact h,rfl,World.ownsRow_nil _ _ _ _,fun b e=>(by cases e),fun i _ hi=>absurd hi (Nat.not_lt_zero _),fun i j _ hi=>absurd hi (Nat.not_lt_zero _)⟩,Qw⟩
    case round=>
     obtain⟨j,q2,g2,QU,d,xs,Sm,rfl,hE,QE⟩:=hrel;have f:=Lib.hid hE;obtain⟨ea,ec,rfl⟩:=aZ hE.er;clear hE;by_cases RS:j<n- k
     ·have Rc:(j:Int)<((n- k:Nat):Int):=by omega
      obtain⟨e,I⟩:∃e,u.es[k+j]?=some e:=⟨_,List.getElem?_eq_getElem (by have:=Qu.out;omega)⟩
      obtain⟨eb,eo,a',c',rfl,h7,P⟩:=QT.out j e I;have QG:=RK.out _ e I (by have:=Qd.out;omega);obtain⟨z0,z1,z2,z3,z4,z5,z6⟩:(wr.cell? ⟨eb,eo+j*7,none⟩=some (.int .i64 e.k)∧wr.cell? ⟨eb,eo+j*7+1,none⟩=some (.int .i64 e.n)∧wr.cell? ⟨eb,eo+j*7+2,none⟩=some (.int .i64 e.m)∧wr.cell? ⟨eb,eo+j*7+3,none⟩=some (.bool e.v)∧wr.cell? ⟨eb,eo+j*7+4,none⟩=some (.string e.nm)∧wr.cell? ⟨eb,eo+j*7+5,none⟩=some (.string e.tg)∧wr.cell? ⟨eb,eo+j*7+6,none⟩=some (.slice a' e.es.length c')):=h7.world f.out.mm.bs.ka;have Re:eb<wr.heap.size:=f.out.mm.bs.ka.lt h7.1;have X:Below wr.heap.size wr (wr.alloc (.cells #[.int .i64 e.k,.int .i64 e.n,.int .i64 e.m,.bool e.v,.string e.nm,.string e.tg,.slice a' e.es.length c'] 25)):=(Below.refl _ _).alloc (Nat.le_refl _) _;have Ro:=Lib.hid (QG q2 g2 QU d a' c' _ (f.out.mm.bs.below X) (by have:=mR I;omega) P);have R:=Lib.hid I;have E:=Lib.hid X;clear h7 P I X QG;go_wp2_with fail
      refine Ro.out.mono ?_;rintro e1 J ⟨x,q1,g1,Ri,Rj,rfl,Qa,Y,H,Qf,Rp,RV⟩;obtain⟨xt,xb,rfl⟩:=Qa.val;have RX:V.heap.size≤J.heap.size:=by have:=E.out.size;have:=H.size;have:=f.out.mm.st.size;omega
      have P_:=Lib.hid (((az.row (f.out.mm.bs.below E.out) H (by decide) (bq f.out.er E.out) Qc f.out.ed).1).alloc (.cells #[ae xt xb] 44));have P9:=Lib.hid (show ∀j u,[ae xt xb][j]?=some u→(J.alloc (.cells #[ae xt xb] 44)).cell? ((⟨J.heap.size,0,none⟩:Addr).add j)=some u from TS.dC J (ae xt xb) 44);have Qn:=Lib.hid (show xs.length=j from f.out.xl);have Qi:=Lib.hid Y;have Qj:=Lib.hid H;have Qk:=Lib.hid Qa;have Ql:=Lib.hid Qf;have Rq:=Lib.hid Rp;clear Y H Qa Qf Ro Rp;go_wp2_with (first|(at_builtin;refine wpList_append_own_at _ rfl _ _ 115 rfl V.heap.size 44 i1 .nilIface 1 16 Tryz.underlying115 R0 R1 R2 R4 rfl (by decide) (.slice ea xs.length ec) xs.length xs rfl P_.out ⟨J.heap.size,0,none⟩ 1 1 [ae xt xb] rfl rfl P9.out (TS.one_one rfl) ?c3 ?c4 ?c5 ?_)|fail)
      case c3=>have:=Qn.out;unfold maxLen;omega
      case c4=>have:=Qn.out;omega
      case c5=>(try simp);omega
      intro Sn w3 A Qb _ Qm;obtain⟨a3,c3,rfl⟩:=aZ A;have L:=Lib.hid (ju.step (e:=e) f.out Qc (by rw[Qd.out];exact R.out) E.out Qk.out Qi.out Qj.out Ql.out Rq.out A Qb (Qm.imp id fun h=>h.trans (by simp)));clear A Qb Qm P_ P9;go_wp2_with fail
      exact⟨⟨j+1,_,_,_,_,_,by omega,by go_num,L.out,by have h:=fo R.out;rw[Nat.add_assoc]at h;omega⟩,by first|omega|(simp[intOf];omega)⟩
     ·have RY:¬(j:Int)<((n- k:Nat):Int):=by omega
      obtain rfl:j=n- k:=by omega
      have QV:u.m.toNat=k:=Qd.out;have hlen:=Qu.out;have t:=f.out.mm.bs;obtain⟨ma,mc,rfl⟩:=aZ t.row;have Rr:cn v=1+aO u.es:=by rw[dx,QP]
      have QW:d.length+1≤ms.length+cn v:=by
       have:=iG u.es (k+(n- k));omega
      have QX:d.length≤1099511627776:=by have:=dx u;omega
      have M:=Lib.hid (And.intro QW QX);obtain⟨i2,Rs,Rt,Ru,Rv⟩:=info_parts CR;have Qh:fs.length=k:=by have:=f.out.mm.fl;omega
      have Qn:xs.length=n- k:=f.out.xl;have QY:=Lib.hid (show ju C u p g mv ms V (u.es.length- u.m.toNat) q2 g2 (.slice ma d.length mc) d fs sb (.slice fa fs.length fc) xs (.slice ea xs.length ec) wr by rw[QV,hlen];exact f.out);have R9:V.heap.size≤wr.heap.size:=f.out.mm.st.size;have QH:=Lib.hid (show ∀c∈d,c<wr.heap.size from fun c e=>(t.mlt c e).1);have QI:=Lib.hid (show ∀c u,g2.G c=some u→c<wr.heap.size from fun c u e=>(t.ifs c u e).1);have QJ:=Lib.hid (show ∀b,wr.heap.size≤b→(Value.slice ma d.length mc).ownBlock≠some b from fun b hb e=>by have:=(t.row.lt _ e).2;omega);have QK:=Lib.hid f.out.mm.om;have Sp:=t.gv;have R_:=t.bl;rcases Nat.eq_zero_or_pos (fs.length+xs.length)with hz|Rw
      ·have Qg:fs.length=0:=by omega
       have QL:xs.length=0:=by omega
       have Rx:v.es= []:=by rw[QP];exact List.eq_nil_of_length_eq_zero (by omega)
       obtain⟨q4,Ry,r,Qo,Rz,RA⟩:=CP QQ Rx t;have N:=f.out.mm.st.grow (((((Below.refl _ _).alloc (Nat.le_refl _) (.cells #[.bool false,.nilIface] 193)).alloc (by simp) (.cells #[.pointer (some ⟨wr.heap.size,0,none⟩)] 191)).alloc (by simp;omega) (.cells #[.bool false,.slice none 0 0,.slice (some ⟨wr.heap.size+1,0,none⟩) 1 1,.bool false] 136)).alloc (by simp;omega) (.cells (cZ (.slice none 0 0) (.slice none 0 0) true (.pointer (some ⟨wr.heap.size+2,0,none⟩))) 118)) Ry;have Qp:=Lib.hid (yq fa ea fc ec wr);have QM:((((wr.alloc (.cells #[.bool false,.nilIface] 193)).alloc (.cells #[.pointer (some ⟨wr.heap.size,0,none⟩)] 191)).alloc (.cells #[.bool false,.slice none 0 0,.slice (some ⟨wr.heap.size+1,0,none⟩) 1 1,.bool false] 136)).alloc (.cells (cZ (.slice none 0 0) (.slice none 0 0) true (.pointer (some ⟨wr.heap.size+2,0,none⟩))) 118)).heap.size=wr.heap.size+4:=by simp
       have y:=Lib.hid (And.intro Qo (And.intro Rz RA));rw[Qg,QL];clear QY f QS Qo Rz RA t Qg QL Rr QW Qh Qn QV hlen;go_wp2_with fail
       refine Qp.out.mono ?_;rintro e5 O ⟨rfl,RC⟩;rw[←RC]at r N QM;have R5:wr.heap.size+4≤O.heap.size:=by omega
       clear RC QM Qp;have Z:=Lib.hid (r.row.alloc (.cells #[.pointer (some ⟨wr.heap.size+3,0,none⟩)] 33));have P4:=Lib.hid (show ∀j u,[Value.pointer (some ⟨wr.heap.size+3,0,none⟩)][j]?=some u→(O.alloc (.cells #[.pointer (some ⟨wr.heap.size+3,0,none⟩)] 33)).cell? ((⟨O.heap.size,0,none⟩:Addr).add j)=some u from TS.dC O (.pointer (some ⟨wr.heap.size+3,0,none⟩)) 33);have y4:=r.c4;have Qq:=r.f4;have S:=World.block_lt_of_cell? _ _ y4;simp only at S;have QZ:C.B0≤O.heap.size:=by have:=r.bl;omega
       have T:(Value.slice ma d.length mc).ownBlock≠some C.bb:=fun e=>(r.rd _ e).1 rfl;have Qr:=Lib.hid r;have P5:=Lib.hid N;clear r N;go_wp2_with (first|(at_builtin;refine wpList_append_own_at _ rfl _ _ 69 rfl C.B0 33 i2 (.pointer none) 1 8 Tryz.underlying69 Rs Rt Ru Rv rfl (by decide) (.slice ma d.length mc) d.length (d.map pv) rfl Z.out ⟨O.heap.size,0,none⟩ 1 1 [.pointer (some ⟨wr.heap.size+3,0,none⟩)] rfl rfl P4.out (TS.one_one rfl) ?c3 ?c4 ?c5 ?_)|fail)
       case c3=>have:=M.out.2;unfold maxLen;omega
       case c4=>have:=M.out.2;omega
       case c5=>(try simp);omega
       intro v6 w6 B P6 _ Qs;obtain⟨a6,Q3,rfl⟩:=aZ B;have P7:Kept (fun c=>(Value.slice ma d.length mc).ownBlock=some c) (O.alloc (.cells #[.pointer (some ⟨wr.heap.size+3,0,none⟩)] 33)) w6:=(Kept.refl _ _).grown P6 fun k hk _=>hk;have P8:Below O.heap.size O (O.alloc (.cells #[.pointer (some ⟨wr.heap.size+3,0,none⟩)] 33)):=(Below.refl _ _).alloc (Nat.le_refl _) _;have x4:w6.cell? ⟨C.bb,4,none⟩=some (.slice ma d.length mc):=by rw[P7.cell (by simp;omega) T];exact ak P8 y4
       have R6:w6.frozen? ⟨C.bb,4,none⟩=false:=by rw[P7.frozen (by simp;omega) T];exact TS.frozen_kept P8 S Qq
       have L:Hid (bf C v p g mv ms w (.returned (ae 33 (wr.heap.size+3))) (w6.setCell ⟨C.bb,4,none⟩ (.slice a6 (d.length+1) Q3))):=bf.ahead Qz.out (ue QQ P5.out Qr.out QK.out (fun c u e=>Nat.lt_of_lt_of_le (QI.out c u e) (by omega)) (by omega) (fun c e=>Nat.lt_of_lt_of_le (QH.out c e) (by omega)) (by omega) (by omega) (QJ.out _ (by omega)) y.out.1 y.out.2.1 (.inl y.out.2.2) M.out.1 P6 B (Qs.imp id fun h=>h.trans (by simp)));clear B P6 Qs P7 P8 y4 Qq;go_wp2_with fail
       go_ret;exact L.out
      ·have RD:=Lib.hid (BU q2 g2 V.heap.size (u.es.take u.m.toNat) fs sb (.slice fa fs.length fc) ea xs.length ec wr t.wb f.out.mm.fr (by rw[List.length_take];omega) (fun i h h'=>by
        have hi:i<u.es.length:=by rw[List.length_take]at h;omega
        obtain⟨h1,h2⟩:=f.out.mm.fa i hi (by omega);rw[show fs.getD i 0=fs[i] by simp[List.getD,h']]at h1 h2;rw[List.getElem_take];exact⟨h1,h2⟩) (fun i h=>by
        obtain⟨h1,h2,h3,h4,h5,x,h6⟩:=f.out.mm.sg i (by omega);rw[show fs.getD i 0=fs[i] by simp[List.getD,h]]at h1;exact⟨h1,⟨none,h2⟩,h3,h4,by omega,fun e=>by rw[f.out.mm.fd _ e 2]at h6;cases h6⟩) (fun x hx=>by
        obtain⟨j,hj,rfl⟩:=List.getElem_of_mem hx;rw[List.length_take]at hj;rw[List.getElem_take];exact(Q8.out j _ (List.getElem?_eq_getElem (by omega)) (by omega)).2.1) hO f.out.mm.fd (by omega) (by omega) Rw)
       have RE:=Lib.hid (Q4 (by omega));have QN:=Lib.hid (show u.m.toNat≤u.es.length∧u.es.length≤1048576 by omega);clear f QS t Rr QW Qh Qn QV hlen Q4;go_wp2_with fail
       refine RD.out.mono ?_;rintro e5 O hR;obtain⟨b,q5,rfl,Sq,Sa,r,N,Qo,QO,RF,RG,RH⟩:=CO RI QP QN.out.1 QN.out.2 QY.out Qc hR;have y:=Lib.hid (And.intro Qo (And.intro QO (And.intro RF (And.intro RG RH))));clear hR Qo QO RF RG RH RD QY;have Z:=Lib.hid (r.row.alloc (.cells #[.pointer (some ⟨b,0,none⟩)] 33));have P4:=Lib.hid (show ∀j u,[Value.pointer (some ⟨b,0,none⟩)][j]?=some u→(O.alloc (.cells #[.pointer (some ⟨b,0,none⟩)] 33)).cell? ((⟨O.heap.size,0,none⟩:Addr).add j)=some u from TS.dC O (.pointer (some ⟨b,0,none⟩)) 33);have y4:=r.c4;have Qq:=r.f4;have S:=World.block_lt_of_cell? _ _ y4;simp only at S;have QZ:C.B0≤O.heap.size:=by have:=r.bl;omega
       have T:(Value.slice ma d.length mc).ownBlock≠some C.bb:=fun e=>(r.rd _ e).1 rfl;have Qr:=Lib.hid r;have P5:=Lib.hid N;clear r N;go_wp2_with (first|(at_builtin;refine wpList_append_own_at _ rfl _ _ 69 rfl C.B0 33 i2 (.pointer none) 1 8 Tryz.underlying69 Rs Rt Ru Rv rfl (by decide) (.slice ma d.length mc) d.length (d.map pv) rfl Z.out ⟨O.heap.size,0,none⟩ 1 1 [.pointer (some ⟨b,0,none⟩)] rfl rfl P4.out (TS.one_one rfl) ?c3 ?c4 ?c5 ?_)|fail)
       case c3=>have:=M.out.2;unfold maxLen;omega
       case c4=>have:=M.out.2;omega
       case c5=>(try simp);omega
       intro v6 w6 B P6 _ Qs;obtain⟨a6,Q3,rfl⟩:=aZ B;have P7:Kept (fun c=>(Value.slice ma d.length mc).ownBlock=some c) (O.alloc (.cells #[.pointer (some ⟨b,0,none⟩)] 33)) w6:=(Kept.refl _ _).grown P6 fun k hk _=>hk;have P8:Below O.heap.size O (O.alloc (.cells #[.pointer (some ⟨b,0,none⟩)] 33)):=(Below.refl _ _).alloc (Nat.le_refl _) _;have x4:w6.cell? ⟨C.bb,4,none⟩=some (.slice ma d.length mc):=by rw[P7.cell (by simp;omega) T];exact ak P8 y4
       have R6:w6.frozen? ⟨C.bb,4,none⟩=false:=by rw[P7.frozen (by simp;omega) T];exact TS.frozen_kept P8 S Qq
       have L:Hid (bf C v p g mv ms w (.returned (ae 33 b)) (w6.setCell ⟨C.bb,4,none⟩ (.slice a6 (d.length+1) Q3))):=bf.ahead Qz.out (ue QQ P5.out Qr.out QK.out (fun c u e=>Nat.lt_of_lt_of_le (QI.out c u e) (by omega)) (by omega) (fun c e=>Nat.lt_of_lt_of_le (QH.out c e) (by omega)) (by omega) (by omega) (QJ.out _ (by omega)) y.out.1 y.out.2.1.cm (.inr ⟨y.out.2.1,RE.out,y.out.2.2.1,y.out.2.2.2.1,y.out.2.2.2.2⟩) M.out.1 P6 B (Qs.imp id fun h=>h.trans (by simp)));clear B P6 Qs P7 P8 y4 Qq;go_wp2_with fail
       go_ret;exact L.out
theorem CT(C:BC)(u:U)(hk:u.k=5)(d:∀e∈u.es,aL e.nm=true)(hnd:(u.es.map U.nm).Nodup)(z:∀e∈u.es,bF C e):bF C u:=by
 intro p g mv ms a c w A o hu;have b:Below w.heap.size w (w.alloc (.cells #[.int .i64 u.k,.int .i64 u.n,.int .i64 u.m,.bool u.v,.string u.nm,.string u.tg,.slice a u.es.length c] 25)):=(Below.refl _ _).alloc (Nat.le_refl _) _;have B:=Lib.hid (Cs C u hk d hnd z p g mv ms a c _ (A.below b) o hu);have f:=Lib.hid b;have E:=kf 1 hk;have F:=kf 2 hk;have G:=kf 3 hk;have H:=kf 4 hk;have I:=kf 6 hk;have J:=kf 8 hk;have K:=kf 9 hk;have L:=kt hk;clear hk hu A b d hnd z;go_enter Tryz.func36,Tryz.ntmps36;go_wp2_with fail
 refine B.out.mono ?_;rintro Q M ⟨x,q,N,r,s,rfl,t,h,i,j,D,y⟩;obtain⟨O,P,rfl⟩:=t.val;have l:Hid (bf C u p g mv ms w (.returned (ae O P)) M):=bf.ahead f.out ⟨_,q,N,r,s,rfl,t,h,i,j,D,y⟩;clear t h i j D B;go_wp2_with fail
 go_ret;exact l.out
theorem CU(C:BC)(u:U)(hk:u.k=7)(hm:0≤u.m∧u.m.toNat≤u.es.length)(z:u.v=true→0<u.m.toNat∧∃e,u.es[u.m.toNat- 1]?=some e∧e.k=4)(A:∀e∈u.es,bF C e):bF C u:=by
 intro p g mv ms a c w B o hu;have b:Below w.heap.size w (w.alloc (.cells #[.int .i64 u.k,.int .i64 u.n,.int .i64 u.m,.bool u.v,.string u.nm,.string u.tg,.slice a u.es.length c] 25)):=(Below.refl _ _).alloc (Nat.le_refl _) _;have D:=Lib.hid (mS C u none hk hm z A p g mv ms a c _ (B.below b) o hu);have d:=Lib.hid b;have r:=Lib.hid hk;have F:=kf 1 hk;have G:=kf 2 hk;have H:=kf 3 hk;have I:=kf 4 hk;have J:=kf 6 hk;have K:=kf 8 hk;have L:=kf 9 hk;have M:=kf 5 hk;have N:=kt hk;clear hk hu B b hm z A;go_enter Tryz.func36,Tryz.ntmps36;go_wp2_with fail
 refine D.out.mono ?_;rintro Q O ⟨s,q,P,t,x,rfl,E,f,i,j,_,_,_,_,y⟩;have l:Hid (bf C u p g mv ms w (.returned (ae 108 s)) O):=bf.ahead d.out ⟨_,q,P,t,x,rfl,E,f,i,j,fun h=>(by have:=r.out;omega),y⟩;clear E f i j D;go_wp2_with fail
 go_ret;exact l.out
theorem uh(C:BC)(u:U)(hk:u.k=12∨u.k=13)(j:∀p g mv ms a c w,BS C p g mv ms w→ms.length+cn u≤1099511627776→ai C.pa C.D u a c→Calls Tryz.prog 81 #[.pointer (some ⟨C.bb,0,none⟩),.agg #[.int .i64 u.k,.int .i64 u.n,.int .i64 u.m,.bool u.v,.string u.nm,.string u.tg,.slice a u.es.length c]] w (bf C u p g mv ms w)):bF C u:=by
 intro p g mv ms a c w B E hu;have h:Below w.heap.size w (w.alloc (.cells #[.int .i64 u.k,.int .i64 u.n,.int .i64 u.m,.bool u.v,.string u.nm,.string u.tg,.slice a u.es.length c] 25)):=(Below.refl _ _).alloc (Nat.le_refl _) _;have A:=Lib.hid (j p g mv ms a c _ (B.below h) E hu);have i:=Lib.hid h;rcases hk with hk|hk
 ·have F:=kf 1 hk;have G:=kf 2 hk;have H:=kf 3 hk;have I:=kf 4 hk;have J:=kf 6 hk;have K:=kf 8 hk;have L:=kf 9 hk;have M:=kf 5 hk;have N:=kf 7 hk;have t:=kf 11 hk;have y:=kt hk
  clear hk hu B h j;go_enter Tryz.func36,Tryz.ntmps36;go_wp2_with fail
  refine A.out.mono ?_;rintro T O ⟨x,q,P,l,o,rfl,r,b,d,e,z,s⟩;obtain⟨Q,R,rfl⟩:=r.val;have f:Hid (bf C u p g mv ms w (.returned (ae Q R)) O):=bf.ahead i.out ⟨_,q,P,l,o,rfl,r,b,d,e,z,s⟩;clear r b d e z A;go_wp2_with fail
  go_ret;exact f.out
 ·have F:=kf 1 hk;have G:=kf 2 hk;have H:=kf 3 hk;have I:=kf 4 hk;have J:=kf 6 hk;have K:=kf 8 hk;have L:=kf 9 hk;have M:=kf 5 hk;have N:=kf 7 hk;have t:=kf 11 hk;have y:=kf 12 hk;have S:=kt hk
  clear hk hu B h j;go_enter Tryz.func36,Tryz.ntmps36;go_wp2_with fail
  refine A.out.mono ?_;rintro T O ⟨x,q,P,l,o,rfl,r,b,d,e,z,s⟩;obtain⟨Q,R,rfl⟩:=r.val;have f:Hid (bf C u p g mv ms w (.returned (ae Q R)) O):=bf.ahead i.out ⟨_,q,P,l,o,rfl,r,b,d,e,z,s⟩;clear r b d e z A;go_wp2_with fail
  go_ret;exact f.out
theorem CV(C:BC)(u:U)(hk:u.k=10)(d:∀p g mv ms a c w,BS C p g mv ms w→ms.length+cn u≤1099511627776→ai C.pa C.D u a c→Calls Tryz.prog 82 #[.pointer (some ⟨C.bb,0,none⟩),.agg #[.int .i64 u.k,.int .i64 u.n,.int .i64 u.m,.bool u.v,.string u.nm,.string u.tg,.slice a u.es.length c]] w (bf C u p g mv ms w)):bF C u:=by
 intro p g mv ms a c w y l hu;have b:Below w.heap.size w (w.alloc (.cells #[.int .i64 u.k,.int .i64 u.n,.int .i64 u.m,.bool u.v,.string u.nm,.string u.tg,.slice a u.es.length c] 25)):=(Below.refl _ _).alloc (Nat.le_refl _) _;have z:=Lib.hid (d p g mv ms a c _ (y.below b) l hu);have e:=Lib.hid b;have J:=kf 1 hk;have K:=kf 2 hk;have L:=kf 3 hk;have M:=kf 4 hk;have N:=kf 6 hk;have O:=kf 8 hk;have P:=kf 9 hk;have Q:=kf 5 hk;have R:=kf 7 hk;have A:=kf 11 hk;have B:=kf 12 hk;have E:=kf 13 hk;have F:=kf 15 hk;have G:=kf 16 hk;have H:=kt hk;clear hk hu y b d;go_enter Tryz.func36,Tryz.ntmps36;go_wp2_with fail
 refine z.out.mono ?_;rintro X S ⟨x,q,T,o,r,rfl,s,f,h,i,I,t⟩;obtain⟨V,W,rfl⟩:=s.val;have j:Hid (bf C u p g mv ms w (.returned (ae V W)) S):=bf.ahead e.out ⟨_,q,T,o,r,rfl,s,f,h,i,I,t⟩;clear s f h i I z;go_wp2_with fail
 go_ret;exact j.out
def bP:U:= .mk 0 0 0 false ByteArray.empty ByteArray.empty [] []
theorem CW(p:Pm)(D:Dl):ai p D bP none 0:=by
 simp only[bP,ai];exact⟨⟨by simp,by simp,by decide,by decide,by decide,by decide,by decide⟩,aw.gG (fun x a=>by cases a),fun h=>absurd h (by decide)⟩
theorem CX(C:BC)(u:U)(hk:u.k=14):bF C u:=by
 intro p g mv ms a c w y H hu;have b:Below w.heap.size w (w.alloc (.cells #[.int .i64 u.k,.int .i64 u.n,.int .i64 u.m,.bool u.v,.string u.nm,.string u.tg,.slice a u.es.length c] 25)):=(Below.refl _ _).alloc (Nat.le_refl _) _;have z:=Lib.hid (ug C bP br rfl rfl ⟨by decide,by decide⟩ (fun k e h=>by cases h) (fun k e h=>by cases h) rfl (fun h=>by cases h) List.Pairwise.nil p g mv ms none 0 _ (y.below b) (by rw[show cn bP=1 from by rw[dx];rfl];have:=dx u;omega) (CW _ _));have d:=Lib.hid b;have f:=Lib.hid hk;have I:=kf 1 hk;have J:=kf 2 hk;have K:=kf 3 hk;have L:=kf 4 hk;have M:=kf 6 hk;have N:=kf 8 hk;have O:=kf 9 hk;have P:=kf 5 hk;have Q:=kf 7 hk;have A:=kf 11 hk;have B:=kf 12 hk;have D:=kf 13 hk;have E:=kf 15 hk;have F:=kf 16 hk;have G:=kf 10 hk;clear hk hu y b;go_enter Tryz.func36,Tryz.ntmps36;go_wp2_with fail
 refine z.out.mono ?_;rintro Y R ⟨x,q,S,r,s,rfl,t,i,j,l,T,V⟩;obtain⟨W,X,rfl⟩:=t.val;have o:Hid (bf C u p g mv ms w (.returned (ae W X)) R):=bf.ahead d.out ⟨_,q,S,r,s,rfl,.any f.out t,i,j,l,fun h=>(by have:=f.out;omega),by have h1:cn br=1:=(by rw[dx];rfl);have:=dx u;omega⟩;clear t i j l T z;go_wp2_with fail
 go_ret;exact o.out
theorem pd(C:BC):∀u:U,fZ C u→bF C u:=by
 intro u;induction u using U.bg with
 |_ u ih=>
  intro hT;have b:∀e∈u.es,bF C e:=fun e he=>ih e (U.au he) (hT.part he);have t:∀e∈u.es,u.k≠10→u.k≠12→e.k≠12∧e.k≠13:=fun e he F G=>by
   obtain⟨pos,f,M,D,N⟩:=hT.pl;obtain⟨j,P,rfl⟩:=List.getElem_of_mem he;exact(D.ig F G j P).form.aA
  have s:∀e∈u.es,e.k=13→∃y,e.es= [y]:=fun e he l=>by
   obtain⟨pos,f,M,D,N⟩:=(hT.part he).pl;exact cT (D.form.gM l)
  obtain⟨pos,f,M,D,N⟩:=hT.pl;cases D.form with
  |basic hk q h1 he=>exact Ck C u hk ⟨q,h1⟩
  |pre hk he=>
   rcases hk with hk|hk
   ·exact CX C u hk
   ·exact Cg C u hk
  |err hk he hu=>exact Cf C u hk hT
  |named hk q h1 he W hu=>exact Ce C u hk hT
  |one hk q he=>
   obtain⟨e,he⟩:=cT he;have hm:e∈u.es:=by rw[he];simp
   rcases hk with hk|hk
   ·exact Cj C u e hk he (hT.part hm) (t e hm (by omega) (by omega)) (b e hm)
   ·exact B_ C u e hk he (b e hm)
  |struct hk Q R=>exact CT C u hk Q R b
  |iface hk q h1 X hm Y=>
   have z:=hT.ff.B6 hk;refine CV C u hk fun p g mv ms a c w E n hu=>ug C u u rfl rfl ⟨q,h1⟩ (fun k e he H=> ?_) (fun k e he H=>b e (List.mem_of_getElem? he)) hk (fun _=>z) (kp D.form hk) p g mv ms a c w E n hu;have A:e∈u.es:=List.mem_of_getElem? he;have I:e∈u.es.take u.m.toNat:=by
    obtain⟨S,rfl⟩:=List.getElem?_eq_some_iff.1 he;exact List.mem_take_iff_getElem.2 ⟨k,by omega,rfl⟩
   obtain⟨h7,J⟩:=hm e I;obtain⟨pos',Z,T,K,V⟩:=(hT.part A).pl;have o:(0≤e.m∧e.m.toNat≤e.es.length)∧(e.v=true→0<e.m.toNat∧∃x,e.es[e.m.toNat- 1]?=some x∧x.k=4):=by
    cases K.form with
    |func hk q h1 r=>exact⟨⟨q,h1⟩,fun h=>⟨(r h).1,_,List.getElem?_eq_getElem (by have:=(r h).1;omega),(r h).2 (by have:=(r h).1;omega)⟩⟩
    |_=>omega
   exact⟨h7,J,o.1,o.2,fun x O=>ih x (by have:=U.au O;have:=U.au A;omega) ((hT.part A).part O)⟩
  |ptr hk q h1 he=>
   obtain⟨e,he⟩:=cT he;have hm:e∈u.es:=by rw[he];simp
   rcases hk with hk|hk|hk
   ·exact B8 C u e hk he (b e hm)
   ·exact B9 C u e hk he (b e hm)
   ·exact Cb C u e hk he (b e hm)
  |map hk he=>
   obtain⟨d,e,he⟩:∃d e,u.es= [d,e]:=by
    match B:u.es with
    | []=>rw[B]at he;cases he
    | [_]=>rw[B]at he;cases he
    | [d,e]=>exact⟨d,e,rfl⟩
    |_::_::_::_=>rw[B]at he;simp at he
   exact Cd C u d e hk he (b d (by rw[he];simp)) (b e (by rw[he];simp))
  |func hk q h1 r=>exact CU C u hk ⟨q,h1⟩ (fun h=>⟨(r h).1,_,List.getElem?_eq_getElem (by have:=(r h).1;omega),(r h).2 (by have:=(r h).1;omega)⟩) b
  |union hk L h2 h8=>
   refine uh C u (.inl hk) fun p g mv ms a c w E n hu=>CK C u hk (by omega) s (fun e he=> ?_) p g mv ms a c w E n hu;by_cases l:e.k=13
   ·obtain⟨y,i⟩:=s e he l
    rw[gL l i];have hm:y∈e.es:=by rw[i];simp
    exact ih y (by have:=U.au hm;have:=U.au he;omega) ((hT.part he).part hm)
   ·rw[eD l];exact b e he
  |j8 hk L he=>
   obtain⟨y,i⟩:=cT he;refine uh C u (.inr hk) fun p g mv ms a c w E n hu=>CL C u hk (by simp) (fun e he _=> ?_) (fun e he=> ?_) p g mv ms a c w E n hu
   ·obtain rfl:e=u:=by simpa using he
    exact⟨y,i⟩
   ·obtain rfl:e=u:=by simpa using he
    rw[gL hk i];exact b y (by rw[i];simp)
end Go.Proofs.YtgbklbbknehefaaGreatDoor
