import Derived.Test.YtgbklbbknehefaaGreatDoorYbl
set_option maxRecDepth 100000
set_option maxHeartbeats 8000000
set_option linter.all false
namespace TS
open Go Go.RowKit Go.Proofs.YtgbklbbknehefaaGreatDoor
def d_(u:U):List U:=if u.k=12 then u.es else [u]
theorem tW(u:U)(h:u.k=12∨u.k=13):bk u=(d_ u).map fun e=>(e.k==13,aC e):=by
 unfold bk d_;rcases h with h|h
 ·rw[if_pos h,if_pos h]
 ·rw[if_neg (by omega),if_neg (by omega)];simp[h]
structure dV(C:BC)(l:List U)(p:Pm)(g:Ge)(mv:Value)(ms:List Nat)(w:World)(k:Nat)(q:Pm)(d:Ge)(c:Value)(a fs:List Nat)(xs:Nat→Value)(vt:Value)(wr:World):Prop where
 bs:BS C q d c a wr
 st:az C p g mv ms w q d a wr
 om:∀b,c.ownBlock=some b→mv.ownBlock=some b∨w.heap.size≤b
 fl:fs.length=k
 tr:wr.ownsRow w.heap.size 217 1 vt fs.length (fs.map pv)
 td:∀b,vt.ownBlock=some b→∀o,q b o=none
 cl:∀i(h:i<l.length),i<k→q (fs.getD i 0) 0=some (.bool (l[i].k==13))∧q (fs.getD i 0) 1=some (xs i)
 nd:∀i(h:i<l.length),i<k→Node q d (aC l[i]) (xs i)
 ct:a.length≤ms.length+aO (l.take k)
theorem dV.step{C:BC}{l:List U}{e:U}{p q E:Pm}{g Z g1:Ge}{mv v y:Value}{ms z f fs:List Nat}{w L wr a M:World}{k:Nat}{xs:Nat→Value}{vt j x:Value}
 (hT:dV C l p g mv ms w k q Z v z fs xs vt wr)(F:C.bb<w.heap.size)(G:l[k]?=some e)(m:Below wr.heap.size wr L)
 (N:Node E g1 (aC e) x)(A:BS C E g1 y f a)(n:az C q Z v z L E g1 f a)(O:∀b,y.ownBlock=some b→v.ownBlock=some b∨L.heap.size≤b)(P4:f.length≤z.length+cn (aC e))
 {bs:Array Value}{Tb:TypeId}(P:M.ownsRow w.heap.size 217 1 j (fs.length+1) (fs.map pv++ [pv a.heap.size]))
 (Q:((a.alloc (.cells #[.bool (e.k==13),x] 237)).alloc (.cells bs Tb)).grownBy M vt.ownBlock)
 (R:j.ownBlock=vt.ownBlock∨j.ownBlock=some ((a.alloc (.cells #[.bool (e.k==13),x] 237)).alloc (.cells bs Tb)).heap.size):
 dV C l p g mv ms w (k+1) (E.add a.heap.size #[.bool (e.k==13),x]) g1 y f (fs++ [a.heap.size]) (fun i=>if i=k then x else xs i) j M:=by
 obtain⟨hk,r⟩:=List.getElem?_eq_some_iff.1 G;have B:=az.row (hT.bs.below m) n (by decide) (bq hT.tr m) F hT.td;have S:=A.box #[.bool (e.k==13),x] 237;have T:=(hT.st.trans (az.ahead m n) hT.om).box A #[.bool (e.k==13),x] 237;have hd:∀o,E a.heap.size o=none:=fun o=>A.wb.kw.aG (Nat.le_refl _) o;have s:=Pm.cP (cs:=#[.bool (e.k==13),x]) hd;generalize V:#[Value.bool (e.k==13),x]=d at*;have H:Below a.heap.size a ((a.alloc (.cells d 237)).alloc (.cells bs Tb)):=((Below.refl _ _).alloc (Nat.le_refl _) _).alloc (by simp) _;have I:Below (a.alloc (.cells d 237)).heap.size (a.alloc (.cells d 237)) ((a.alloc (.cells d 237)).alloc (.cells bs Tb)):=(Below.refl _ _).alloc (Nat.le_refl _) _;have t:=S.below I;have J:∀b,vt.ownBlock=some b→∀o,E.add a.heap.size d b o=none:=fun b c o=>by
  rw[Pm.aJ _ _ _ fun e2=>by have:=(B.1.lt b c).2;omega];exact B.2 b c o
 have u:=bq B.1 H;obtain⟨W,X⟩:=t.appended (by decide) u J F Q;have Y:=(T.below I).own X fun b c=>(u.lt b c).1;have K:=hT.fl;have D:=n.gr.le.trans s;refine⟨W,Y,fun b c=> ?_,by simp[K],by simpa using P,js t.wb J R,fun i h hi=> ?_,fun i h hi=> ?_,by have:=hT.ct;have:=fo G;have:=lj e;omega⟩
 ·rcases O b c with c|c
  ·exact hT.om b c
  ·have:=m.size;have:=hT.st.size;exact .inr (by omega)
 ·by_cases c:i=k
  ·subst c
   rw[r,if_pos rfl,show(fs++ [a.heap.size]).getD i 0=a.heap.size by simp[List.getD,←K]];simp only[Pm.aQ,←V];exact⟨rfl,rfl⟩
  ·rw[if_neg c,show(fs++ [a.heap.size]).getD i 0=fs.getD i 0 by simp[List.getD,List.getElem?_append_left (show i<fs.length by omega)]]
   obtain⟨h1,h2⟩:=hT.cl i h (by omega);exact⟨D _ _ _ h1,D _ _ _ h2⟩
 ·by_cases c:i=k
  ·subst c
   rw[r,if_pos rfl];exact N.sub s (aD.refl _)
  ·rw[if_neg c];exact(hT.nd i h (by omega)).sub D n.gs
theorem CJ(u:U):aO (d_ u)≤cn u:=by
 unfold d_;split
 ·have:=dx u;omega
 ·simp[aO]
theorem dV.done{C:BC}{u:U}{p q:Pm}{g B:Ge}{mv l:Value}{ms m fs:List Nat}{w wr:World}{xs:Nat→Value}{ta:Option Addr}{tc:Nat}(hu:u.k=12∨u.k=13)
 (hT:dV C (d_ u) p g mv ms w (d_ u).length q B l m fs xs (.slice ta (d_ u).length tc) wr)(r:C.bb<w.heap.size):
 bf C u p g mv ms w (.returned (ae 189 wr.heap.size)) (wr.alloc (.cells #[.slice ta (d_ u).length tc] 236)):=by
 have s:=hT.fl;obtain⟨F,N,c1,G,n,j,t,H,x,_,_⟩:=hT.bs.iJ (e:=217) (v:= .slice ta (d_ u).length tc) (xs:=fs.map pv) (by decide) (by simpa using hT.tr) hT.td r;injection G with y I z
 subst y;subst z;have J:∀o,F wr.heap.size o=none:=fun o=>j.wb.kw.aG (Nat.le_refl _) o;have d:=Pm.cP (cs:=#[.slice ta (d_ u).length tc]) J;have A:=n.le.trans d;have D:(bk u).length=(d_ u).length:=by rw[tW u hu,List.length_map]
 have E:∀i(h:i<(bk u).length)(K:i<(d_ u).length),(bk u)[i]=((d_ u)[i].k==13,aC (d_ u)[i]):=fun i h K=>by simp[tW u hu]
 refine⟨_,_,B,l,m,rfl,.union (f:=fun i=>fs.getD i 0) (xs:=xs) (a:=ta) (c:=tc) hu (by rw[Pm.aQ,D];rfl) (by rw[D];simpa [s]using x) (fun i hi=> ?_) (fun i hi=> ?_) (fun i hi=> ?_),j.box _ _,(hT.st.iI n).box j _ _,hT.om,fun _=>⟨_,rfl,hT.st.size⟩,by have h1:=hT.ct;rw[List.take_length]at h1;have:=CJ u;omega⟩
 ·obtain⟨b,o,L,M⟩:=t i (by simp;omega)
  refine⟨b,o,L,d _ _ _ ?_⟩;rw[M];simp[List.getD,List.getElem?_eq_getElem (show i<fs.length by omega),pv]
 ·obtain⟨h1,h2⟩:=hT.cl i (by omega) (by omega)
  rw[E i hi (by omega)];exact⟨A _ _ _ h1,A _ _ _ h2⟩
 ·rw[E i hi (by omega)]
  exact(hT.nd i (by omega) (by omega)).sub A (aD.refl _)
def EL(C:BC)(l:List U)(a:Option Addr)(lo hi:Nat)(w:World):Prop:=
 ∀k e,l[k]?=some e→∃eb eo a' c',a=some ⟨eb,eo,none⟩∧(w.cell? ⟨eb,eo+k*7,none⟩=some (.int .i64 e.k)∧w.cell? ⟨eb,eo+k*7+1,none⟩=some (.int .i64 e.n)∧w.cell? ⟨eb,eo+k*7+2,none⟩=some (.int .i64 e.m)∧w.cell? ⟨eb,eo+k*7+3,none⟩=some (.bool e.v)∧w.cell? ⟨eb,eo+k*7+4,none⟩=some (.string e.nm)∧w.cell? ⟨eb,eo+k*7+5,none⟩=some (.string e.tg)∧w.cell? ⟨eb,eo+k*7+6,none⟩=some (.slice a' e.es.length c'))∧ai C.pa C.D e a' c'∧(eb<C.B0∨(lo≤eb∧eb<hi))
theorem EL.kept{C:BC}{l:List U}{c:Option Addr}{lo hi:Nat}{w d:World}(h:EL C l c lo hi w)(hk:∀b o v,(b<C.B0∨(lo≤b∧b<hi))→w.cell? ⟨b,o,none⟩=some v→d.cell? ⟨b,o,none⟩=some v):EL C l c lo hi d:=fun k e he=>by
 obtain⟨eb,eo,a',c',h1,⟨z0,f,z2,z3,z4,z5,g⟩,h3,a⟩:=h k e he;exact⟨eb,eo,a',c',h1,⟨hk _ _ _ a z0,hk _ _ _ a f,hk _ _ _ a z2,hk _ _ _ a z3,hk _ _ _ a z4,hk _ _ _ a z5,hk _ _ _ a g⟩,h3,a⟩
end TS
namespace TS
open Go Go.RowKit Go.Proofs.YtgbklbbknehefaaGreatDoor
theorem bf.ahead{C:BC}{u:U}{p:Pm}{g:Ge}{mv:Value}{ms:List Nat}{w f i:World}{e:Ending}(a:Below w.heap.size w f)(h:bf C u p g mv ms f e i):bf C u p g mv ms w e i:=by
 obtain⟨x,q,j,c,d,h1,h2,h3,k,m,n,h7⟩:=h;exact⟨x,q,j,c,d,h1,h2,h3,az.ahead a k,fun b e=>(m b e).imp id fun h=>Nat.le_trans a.size h,fun h=>let⟨b,e,l⟩:=n h;⟨b,e,Nat.le_trans a.size l⟩,h7⟩
end TS
namespace Go.Proofs.YtgbklbbknehefaaGreatDoor
open Go.RowKit TS
theorem tZ:(Tryz.prog.info? 217).map (fun i=>(i.zero,i.size,i.bytes))=some (some (.pointer none),1,8):=by kernel_rfl
theorem CK(C:BC)(u:U)(hk:u.k=12)(Qp:0<(u.es).length)(Qh:∀e∈u.es,e.k=13→∃e',e.es= [e'])(hI:∀e∈u.es,bF C (aC e))(p:Pm)(g:Ge)(mv:Value)(ms:List Nat)(a:Option Addr)(c:Nat)(w:World)(hB:BS C p g mv ms w)(QI:ms.length+cn u≤1099511627776)(hu:ai C.pa C.D u a c):
 Calls Tryz.prog 81 #[.pointer (some ⟨C.bb,0,none⟩),.agg #[.int .i64 u.k,.int .i64 u.n,.int .i64 u.m,.bool u.v,.string u.nm,.string u.tg,.slice a u.es.length c]] w (bf C u p g mv ms w):=by
 have Qq:=hu.cap;have QF:=(hB.ib (b:=C.bb) (.inl rfl)).2.1;have Q:Below w.heap.size w (w.alloc (.cells #[.int .i64 u.k,.int .i64 u.n,.int .i64 u.m,.bool u.v,.string u.nm,.string u.tg,.slice a u.es.length c] 25)):=(Below.refl _ _).alloc (Nat.le_refl _) _;have Qr:=Lib.hid (hB.below Q);have Qi:Hid (EL C (u.es) a w.heap.size (w.alloc (.cells #[.int .i64 u.k,.int .i64 u.n,.int .i64 u.m,.bool u.v,.string u.nm,.string u.tg,.slice a u.es.length c] 25)).heap.size (w.alloc (.cells #[.int .i64 u.k,.int .i64 u.n,.int .i64 u.m,.bool u.v,.string u.nm,.string u.tg,.slice a u.es.length c] 25))):=fun k e he=>by
  obtain⟨hk,rfl⟩:=List.getElem?_eq_some_iff.1 he;obtain⟨eb,eo,rfl⟩:=hu.list.bt (by omega);obtain⟨a',c',h7,N⟩:=hu.list.get k hk;exact⟨eb,eo,a',c',rfl,h7.world (hB.below Q).ka,N,.inl (hB.la _ _ _ h7.1)⟩
 have F:=Lib.hid hB;have QJ:(u.es).length≤1048576:=by omega
 have QA:Hid (u.k=12∨u.k=13):=by exact .inl hk
 have Qs:Hid (d_ u=u.es):=by exact if_pos hk
 have Qd:=Lib.hid Qh;have Qj:=Lib.hid hI;have QK:(u.k==13)=false:=by simp[hk]
 obtain⟨i0,Qt,Qe,Qf,Qg⟩:=info_parts tZ;obtain⟨y,hW⟩:∃y,Hid (y=(w.alloc (.cells #[.int .i64 u.k,.int .i64 u.n,.int .i64 u.m,.bool u.v,.string u.nm,.string u.tg,.slice a u.es.length c] 25))):=⟨_,rfl⟩
 have QL:y.heap.size≤w.heap.size+1∧w.heap.size+1≤y.heap.size:=by rw[hW.out];simp
 rw[←hW.out]at Qr Q Qi;have R:C.bb<y.heap.size:=by omega
 have Qu:=Lib.hid Q;obtain⟨l,hl⟩:∃l,Hid (u.es=l):=⟨_,rfl⟩
 have Qv:=Lib.hid (Qs.out.trans hl.out);have Qw:=Lib.hid (hl.out▸Qp);have Qd:=Lib.hid (hl.out▸Qh);have Qj:=Lib.hid (hl.out▸hI);have S:Hid (ms.length+aO l≤1099511627776):=by show _≤_;rw[←hl.out];have:=dx u;omega
 rw[hl.out]at Qi;clear hu hB Q Qq hk Qh hI Qs Qp;generalize hn:u.es.length=n at*;have Qx:=Lib.hid (show l.length=n by rw[←hl.out];exact hn);clear hn;go_enter Tryz.func81,Tryz.ntmps81;go_wp2_with fail
 go_loopw [18,6] (fun vk vt wr=> ∃(k:Nat)(q:Pm)(g':Ge)(Qa:Value)(Qb fs:List Nat)(xs:Nat→Value),k≤n∧vk= .int .i64 k∧dV C l p g mv ms y k q g' Qa Qb fs xs vt wr∧EL C l a w.heap.size y.heap.size wr) (fun vk _ _=>n- (intOf vk).toNat)
 case atStart=>
  obtain rfl:=hW.out;exact⟨0,p,g,mv,ms,[],fun _=>undef,Nat.zero_le _,rfl,⟨Qr.out,az.refl _ _ _ _ _ _,fun b e=> .inl e,rfl,by simpa using World.ownsRow_nil _ _ _ _,fun b e=>(by cases e),fun i _ hi=>absurd hi (Nat.not_lt_zero _),fun i _ hi=>absurd hi (Nat.not_lt_zero _),Nat.le_add_right _ _⟩,Qi.out⟩
 case round=>
  obtain⟨k,q,g',Qa,Qb,fs,xs,QM,rfl,hT,hE⟩:=hrel;have d:=Lib.hid hT;have Qk:=Lib.hid hE;obtain⟨ta,tc,rfl⟩:=aZ hT.tr;clear hT hE;by_cases QN:k<n
  ·have QG:(k:Int)<n:=by omega
   obtain⟨e,A⟩:∃e,l[k]?=some e:=⟨_,List.getElem?_eq_getElem (by have:=Qx.out;omega)⟩
   obtain⟨eb,eo,a',c',QB,⟨z0,z1,z2,z3,z4,z5,z6⟩,N,_⟩:=Qk.out k e A;have Qy:=World.block_lt_of_cell? _ _ z0;simp only at Qy;have O:Below wr.heap.size wr (wr.alloc (.cells #[.int .i64 e.k,.int .i64 e.n,.int .i64 e.m,.bool e.v,.string e.nm,.string e.tg,.slice a' e.es.length c'] 25)):=(Below.refl _ _).alloc (Nat.le_refl _) _;subst QB;rcases hd:(e.k==13)with _|_
   ·have B:Hid (aC e=e):=if_neg (by simpa using hd)
    have P:=Lib.hid (Qj.out e (List.mem_of_getElem? A) q g' Qa Qb a' c' _ (d.out.bs.below O) (by have:=d.out.ct;have:=fo A;have:=iG l (k+1);have:=lj e;have:=S.out;omega) (B.out.symm▸N));rw[B.out]at P;have T:=Lib.hid A;have f:=Lib.hid O;have Ql:=Lib.hid hd;clear A O N;go_wp2_with fail
    refine P.out.mono ?_;rintro e1 r ⟨x,q1,g1,V,W,rfl,J,X,z,Y,_,Qm⟩;obtain⟨Z,xb,rfl⟩:=J.val;have QC:=z.size;have aa:=d.out.st.size;have QD:y.heap.size≤r.heap.size:=by have:=f.out.size;omega
    have G:=Lib.hid ((((az.row (d.out.bs.below f.out) z (by decide) (bq d.out.tr f.out) R d.out.td).1).alloc (.cells #[.bool false,ae Z xb] 237)).alloc (.cells #[.pointer (some ⟨r.heap.size,0,none⟩)] 217));have H:=Lib.hid (show ∀j u,[Value.pointer (some ⟨r.heap.size,0,none⟩)][j]?=some u→((r.alloc (.cells #[.bool false,ae Z xb] 237)).alloc (.cells #[.pointer (some ⟨r.heap.size,0,none⟩)] 217)).cell? ((⟨r.heap.size+1,0,none⟩:Addr).add j)=some u from fun j u h=>by
     have h1:=TS.dC (r.alloc (.cells #[.bool false,ae Z xb] 237)) (.pointer (some ⟨r.heap.size,0,none⟩)) 217 j u h;rwa [show(r.alloc (.cells #[.bool false,ae Z xb] 237)).heap.size=r.heap.size+1 by simp]at h1)
    have Qn:Hid (EL C l (some ⟨eb,eo,none⟩) w.heap.size y.heap.size r):=Qk.out.kept fun b o v hb h=>by
     have h2:=ak f.out h;rw[z.kept.cell (World.block_lt_of_cell? _ _ h2) fun e=> ?_]
     ·exact h2
     ·have QE:=F.out.bl
      rcases e with e|e
      ·have e':b=C.bb:=e
       omega
      ·rcases d.out.om _ e with I|I
       ·have e3:C.B0≤b∧b<w.heap.size:=⟨(F.out.ib (b:=b) (.inr I)).1,(F.out.ib (b:=b) (.inr I)).2.1⟩
        omega
       ·have e3:y.heap.size≤b:=I
        omega
    have K:=Lib.hid (show fs.length=k from d.out.fl);have P4:∀b,(Value.slice ta fs.length tc).ownBlock=some b→y.heap.size≤b:=fun b e=>(d.out.tr.lt _ e).1;have P5:=Lib.hid P4;have P6:=Lib.hid X;have P7:=Lib.hid z;have P8:=Lib.hid J;have P9:=Lib.hid Y;clear X z J Y P P4;go_wp2_with fail
    refine(me _ _ _ _).mono ?_;rintro I w2 ⟨rfl,rfl⟩;go_wp2_with (first|(at_builtin;refine wpList_append_own_at _ rfl _ _ 216 rfl y.heap.size 217 i0 (.pointer none) 1 8 Tryz.underlying216 Qt Qe Qf Qg rfl (by decide) (.slice ta fs.length tc) fs.length (fs.map pv) rfl G.out ⟨r.heap.size+1,0,none⟩ 1 1 [.pointer (some ⟨r.heap.size,0,none⟩)] rfl rfl H.out (TS.one_one rfl) ?c3 ?c4 ?c5 ?_)|fail)
    case c3=>have:=K.out;unfold maxLen;omega
    case c4=>have:=K.out;omega
    case c5=>(try simp);omega
    intro v' w3 t L _ P_;obtain⟨a3,c3,rfl⟩:=aZ t;have Qo:Hid (EL C l (some ⟨eb,eo,none⟩) w.heap.size y.heap.size w3):=Qn.out.kept fun b o v hb h=>by
     have h2:=ak (((Below.refl _ _).alloc (Nat.le_refl _) (.cells #[.bool false,ae Z xb] 237)).alloc (by simp) (.cells #[.pointer (some ⟨r.heap.size,0,none⟩)] 217)) h;rw[((Kept.refl (fun b=>(Value.slice ta fs.length tc).ownBlock=some b) _).grown L fun k hk _=>hk).cell (World.block_lt_of_cell? _ _ h2) fun e=> ?_]
     ·exact h2
     ·have h3:y.heap.size≤b:=P5.out b e
      have h4:=F.out.bl;omega
    have s:Hid (∃(q2:Pm)(E:List Nat)(M:Nat→Value),E.length=k+1∧dV C l p g mv ms y (k+1) q2 g1 V W E M (.slice a3 (fs.length+1) c3) w3):=
     ⟨_,_,_,by simp[K.out],dV.step (e:=e) (bs:=#[.pointer (some ⟨r.heap.size,0,none⟩)]) (Tb:=217) d.out R T.out f.out (B.out.symm▸P8.out) P6.out P7.out P9.out (B.out.symm▸Qm) t (by rw[Ql.out];exact L) (P_.imp id fun h=>h.trans (by simp))⟩
    clear t L P_ G H;go_wp2_with fail
    obtain⟨q2,E,M,_,s⟩:=s.out;exact⟨⟨k+1,q2,g1,V,W,E,M,by omega,by go_num,s,Qo.out⟩,by first|omega|(simp[intOf];omega)⟩
   ·obtain⟨I,Qc⟩:=Qd.out _ (List.mem_of_getElem? A) (by simpa using hd)
    obtain⟨QO,QP,a2,c2,rfl,hle,Qz,⟨y0,y1,y2,y3,y4,y5,y6⟩,QH⟩:=jq N d.out.bs.ka Qc;have B:Hid (aC e=I):=by rw[aC,if_pos (by simpa using hd),Qc];rfl
    have P:=Lib.hid (B.out▸Qj.out e (List.mem_of_getElem? A) q g' Qa Qb a2 c2 _ (d.out.bs.below O) (by have:=d.out.ct;have:=fo A;have:=iG l (k+1);have:=lj e;have:=S.out;omega) (B.out.symm▸Qz));have QQ:=Lib.hid Qc;clear Qc;have T:=Lib.hid A;have f:=Lib.hid O;have Ql:=Lib.hid hd;clear A O N;go_wp2_with fail
    refine P.out.mono ?_;rintro e1 r ⟨x,q1,g1,V,W,rfl,J,X,z,Y,_,Qm⟩;obtain⟨Z,xb,rfl⟩:=J.val;have QC:=z.size;have aa:=d.out.st.size;have QD:y.heap.size≤r.heap.size:=by have:=f.out.size;omega
    have G:=Lib.hid ((((az.row (d.out.bs.below f.out) z (by decide) (bq d.out.tr f.out) R d.out.td).1).alloc (.cells #[.bool true,ae Z xb] 237)).alloc (.cells #[.pointer (some ⟨r.heap.size,0,none⟩)] 217));have H:=Lib.hid (show ∀j u,[Value.pointer (some ⟨r.heap.size,0,none⟩)][j]?=some u→((r.alloc (.cells #[.bool true,ae Z xb] 237)).alloc (.cells #[.pointer (some ⟨r.heap.size,0,none⟩)] 217)).cell? ((⟨r.heap.size+1,0,none⟩:Addr).add j)=some u from fun j u h=>by
     have h1:=TS.dC (r.alloc (.cells #[.bool true,ae Z xb] 237)) (.pointer (some ⟨r.heap.size,0,none⟩)) 217 j u h;rwa [show(r.alloc (.cells #[.bool true,ae Z xb] 237)).heap.size=r.heap.size+1 by simp]at h1)
    have Qn:Hid (EL C l (some ⟨eb,eo,none⟩) w.heap.size y.heap.size r):=Qk.out.kept fun b o v hb h=>by
     have h2:=ak f.out h;rw[z.kept.cell (World.block_lt_of_cell? _ _ h2) fun e=> ?_]
     ·exact h2
     ·have QE:=F.out.bl
      rcases e with e|e
      ·have e':b=C.bb:=e
       omega
      ·rcases d.out.om _ e with I|I
       ·have e3:C.B0≤b∧b<w.heap.size:=⟨(F.out.ib (b:=b) (.inr I)).1,(F.out.ib (b:=b) (.inr I)).2.1⟩
        omega
       ·have e3:y.heap.size≤b:=I
        omega
    have K:=Lib.hid (show fs.length=k from d.out.fl);have P4:∀b,(Value.slice ta fs.length tc).ownBlock=some b→y.heap.size≤b:=fun b e=>(d.out.tr.lt _ e).1;have P5:=Lib.hid P4;have P6:=Lib.hid X;have P7:=Lib.hid z;have P8:=Lib.hid J;have P9:=Lib.hid Y;clear X z J Y P P4;go_wp2_with fail
    refine(me _ _ _ _).mono ?_;rintro I w2 ⟨rfl,rfl⟩;go_wp2_with (first|(at_builtin;refine wpList_append_own_at _ rfl _ _ 216 rfl y.heap.size 217 i0 (.pointer none) 1 8 Tryz.underlying216 Qt Qe Qf Qg rfl (by decide) (.slice ta fs.length tc) fs.length (fs.map pv) rfl G.out ⟨r.heap.size+1,0,none⟩ 1 1 [.pointer (some ⟨r.heap.size,0,none⟩)] rfl rfl H.out (TS.one_one rfl) ?c3 ?c4 ?c5 ?_)|fail)
    case c3=>have:=K.out;unfold maxLen;omega
    case c4=>have:=K.out;omega
    case c5=>(try simp);omega
    intro v' w3 t L _ P_;obtain⟨a3,c3,rfl⟩:=aZ t;have Qo:Hid (EL C l (some ⟨eb,eo,none⟩) w.heap.size y.heap.size w3):=Qn.out.kept fun b o v hb h=>by
     have h2:=ak (((Below.refl _ _).alloc (Nat.le_refl _) (.cells #[.bool true,ae Z xb] 237)).alloc (by simp) (.cells #[.pointer (some ⟨r.heap.size,0,none⟩)] 217)) h;rw[((Kept.refl (fun b=>(Value.slice ta fs.length tc).ownBlock=some b) _).grown L fun k hk _=>hk).cell (World.block_lt_of_cell? _ _ h2) fun e=> ?_]
     ·exact h2
     ·have h3:y.heap.size≤b:=P5.out b e
      have h4:=F.out.bl;omega
    have s:Hid (∃(q2:Pm)(E:List Nat)(M:Nat→Value),E.length=k+1∧dV C l p g mv ms y (k+1) q2 g1 V W E M (.slice a3 (fs.length+1) c3) w3):=
     ⟨_,_,_,by simp[K.out],dV.step (e:=e) (bs:=#[.pointer (some ⟨r.heap.size,0,none⟩)]) (Tb:=217) d.out R T.out f.out (B.out.symm▸P8.out) P6.out P7.out P9.out (B.out.symm▸Qm) t (by rw[Ql.out];exact L) (P_.imp id fun h=>h.trans (by simp))⟩
    clear t L P_ G H;go_wp2_with fail
    obtain⟨q2,E,M,_,s⟩:=s.out;exact⟨⟨k+1,q2,g1,V,W,E,M,by omega,by go_num,s,Qo.out⟩,by first|omega|(simp[intOf];omega)⟩
  ·have QR:¬(k:Int)<n:=by omega
   have s:Hid (0<fs.length∧bf C u p g mv ms w (.returned (.iface 189 (.pointer (some ⟨wr.heap.size,0,none⟩)))) (wr.alloc (.cells #[.slice ta fs.length tc] 236))):=by
    have e1:=Qv.out;have I:l.length=k:=by have:=Qx.out;omega
    have e3:=d.out.fl;have h1:=d.out;have h2:=Qw.out;refine⟨by omega,?_⟩;rw[e3]at h1⊢;have h:=dV.done (u:=u) (ta:=ta) (tc:=tc) QA.out (by rw[e1,I];exact h1) R;rw[e1,I]at h;exact bf.ahead Qu.out h
   go_wp2_with fail
   refine(rC ta fs.length tc s.out.1 _).mono ?_;rintro e1 r ⟨rfl,rfl⟩;go_wp2_with fail
   go_ret;exact s.out.2
theorem CL(C:BC)(u:U)(hk:u.k=13)(Qs:0<([u]).length)(Qi:∀e∈ [u],e.k=13→∃e',e.es= [e'])(hI:∀e∈ [u],bF C (aC e))(p:Pm)(g:Ge)(mv:Value)(ms:List Nat)(a:Option Addr)(c:Nat)(w:World)(hB:BS C p g mv ms w)(QK:ms.length+cn u≤1099511627776)(hu:ai C.pa C.D u a c):
 Calls Tryz.prog 81 #[.pointer (some ⟨C.bb,0,none⟩),.agg #[.int .i64 u.k,.int .i64 u.n,.int .i64 u.m,.bool u.v,.string u.nm,.string u.tg,.slice a u.es.length c]] w (bf C u p g mv ms w):=by
 have Qt:=hu.cap;have QH:=(hB.ib (b:=C.bb) (.inl rfl)).2.1;have P_:Below w.heap.size w ((w.alloc (.cells #[.int .i64 u.k,.int .i64 u.n,.int .i64 u.m,.bool u.v,.string u.nm,.string u.tg,.slice a u.es.length c] 25)).alloc (.cells #[.int .i64 u.k,.int .i64 u.n,.int .i64 u.m,.bool u.v,.string u.nm,.string u.tg,.slice a u.es.length c] 25)):=((Below.refl _ _).alloc (Nat.le_refl _) _).alloc (by simp) _;have Qu:=Lib.hid (hB.below P_);have Qj:Hid (EL C ([u]) (some ⟨w.heap.size+1,0,none⟩) w.heap.size ((w.alloc (.cells #[.int .i64 u.k,.int .i64 u.n,.int .i64 u.m,.bool u.v,.string u.nm,.string u.tg,.slice a u.es.length c] 25)).alloc (.cells #[.int .i64 u.k,.int .i64 u.n,.int .i64 u.m,.bool u.v,.string u.nm,.string u.tg,.slice a u.es.length c] 25)).heap.size ((w.alloc (.cells #[.int .i64 u.k,.int .i64 u.n,.int .i64 u.m,.bool u.v,.string u.nm,.string u.tg,.slice a u.es.length c] 25)).alloc (.cells #[.int .i64 u.k,.int .i64 u.n,.int .i64 u.m,.bool u.v,.string u.nm,.string u.tg,.slice a u.es.length c] 25))):=fun k e he=>by
  obtain⟨rfl,rfl⟩:k=0∧u=e:=by
   cases k with
   |zero=>simpa using he
   |succ k=>simp at he
  have hh:((w.alloc (.cells #[.int .i64 u.k,.int .i64 u.n,.int .i64 u.m,.bool u.v,.string u.nm,.string u.tg,.slice a u.es.length c] 25)).alloc (.cells #[.int .i64 u.k,.int .i64 u.n,.int .i64 u.m,.bool u.v,.string u.nm,.string u.tg,.slice a u.es.length c] 25)).heap[w.heap.size+1]?=some (.cells #[.int .i64 u.k,.int .i64 u.n,.int .i64 u.m,.bool u.v,.string u.nm,.string u.tg,.slice a u.es.length c] 25):=cf (by simp);exact⟨_,0,a,c,rfl,by(repeat' apply And.intro)<;>(simp only[World.cell?,hh];rfl),hu,.inr ⟨by omega,by simp⟩⟩
 have F:=Lib.hid hB;have QL:([u]).length≤1048576:=by simp
 have QD:Hid (u.k=12∨u.k=13):=by exact .inr hk
 have Qv:Hid (d_ u= [u]):=by exact if_neg (by omega)
 have Qe:=Lib.hid Qi;have Qk:=Lib.hid hI;have QM:(u.k==13)=true:=by simp[hk]
 obtain⟨i0,Qw,Qf,Qg,Qh⟩:=info_parts tZ;obtain⟨y,hW⟩:∃y,Hid (y=((w.alloc (.cells #[.int .i64 u.k,.int .i64 u.n,.int .i64 u.m,.bool u.v,.string u.nm,.string u.tg,.slice a u.es.length c] 25)).alloc (.cells #[.int .i64 u.k,.int .i64 u.n,.int .i64 u.m,.bool u.v,.string u.nm,.string u.tg,.slice a u.es.length c] 25))):=⟨_,rfl⟩
 have QN:y.heap.size≤w.heap.size+2∧w.heap.size+2≤y.heap.size:=by rw[hW.out];simp
 rw[←hW.out]at Qu P_ Qj;have P:C.bb<y.heap.size:=by omega
 have Qx:=Lib.hid P_;obtain⟨l,hl⟩:∃l,Hid ([u]=l):=⟨_,rfl⟩
 have Qy:=Lib.hid (Qv.out.trans hl.out);have Qz:=Lib.hid (hl.out▸Qs);have Qe:=Lib.hid (hl.out▸Qi);have Qk:=Lib.hid (hl.out▸hI);have Q:Hid (ms.length+aO l≤1099511627776):=by show _≤_;rw[←hl.out];simp[aO];omega
 rw[hl.out]at Qj;clear hu hB P_ Qt hk Qi hI Qv Qs;have QA:Hid (l.length=1):=by rw[←hl.out];rfl
 go_enter Tryz.func81,Tryz.ntmps81;go_wp2_with fail
 go_loopw [18,6] (fun vk vt wr=> ∃(k:Nat)(q:Pm)(g':Ge)(Qa:Value)(Qb fs:List Nat)(xs:Nat→Value),k≤1∧vk= .int .i64 k∧dV C l p g mv ms y k q g' Qa Qb fs xs vt wr∧EL C l (some ⟨w.heap.size+1,0,none⟩) w.heap.size y.heap.size wr) (fun vk _ _=>1- (intOf vk).toNat)
 case atStart=>
  obtain rfl:=hW.out;exact⟨0,p,g,mv,ms,[],fun _=>undef,Nat.zero_le _,rfl,⟨Qu.out,az.refl _ _ _ _ _ _,fun b e=> .inl e,rfl,by simpa using World.ownsRow_nil _ _ _ _,fun b e=>(by cases e),fun i _ hi=>absurd hi (Nat.not_lt_zero _),fun i _ hi=>absurd hi (Nat.not_lt_zero _),Nat.le_add_right _ _⟩,Qj.out⟩
 case round=>
  obtain⟨k,q,g',Qa,Qb,fs,xs,QO,rfl,hT,hE⟩:=hrel;have d:=Lib.hid hT;have Ql:=Lib.hid hE;obtain⟨ta,tc,rfl⟩:=aZ hT.tr;clear hT hE;by_cases QP:k<1
  ·have QI:(k:Int)<1:=by omega
   obtain⟨e,A⟩:∃e,l[k]?=some e:=⟨_,List.getElem?_eq_getElem (by have:=QA.out;omega)⟩
   obtain⟨eb,eo,a',c',Qm,⟨z0,z1,z2,z3,z4,z5,z6⟩,Qc,_⟩:=Ql.out k e A;have QB:=World.block_lt_of_cell? _ _ z0;simp only at QB;have N:Below wr.heap.size wr (wr.alloc (.cells #[.int .i64 e.k,.int .i64 e.n,.int .i64 e.m,.bool e.v,.string e.nm,.string e.tg,.slice a' e.es.length c'] 25)):=(Below.refl _ _).alloc (Nat.le_refl _) _;injection Qm with Qm;injection Qm with Qn QE;subst Qn;subst QE;simp only[Nat.zero_add]at z0 z1 z2 z3 z4 z5 z6
   rcases hd:(e.k==13)with _|_
   ·have B:Hid (aC e=e):=if_neg (by simpa using hd)
    have O:=Lib.hid (Qk.out e (List.mem_of_getElem? A) q g' Qa Qb a' c' _ (d.out.bs.below N) (by have:=d.out.ct;have:=fo A;have:=iG l (k+1);have:=lj e;have:=Q.out;omega) (B.out.symm▸Qc));rw[B.out]at O;have R:=Lib.hid A;have f:=Lib.hid N;have Qo:=Lib.hid hd;clear A N Qc;go_wp2_with fail
    refine O.out.mono ?_;rintro e1 r ⟨x,q1,g1,S,T,rfl,J,V,z,W,_,Qp⟩;obtain⟨X,Y,rfl⟩:=J.val;have Qn:=z.size;have aa:=d.out.st.size;have QF:y.heap.size≤r.heap.size:=by have:=f.out.size;omega
    have G:=Lib.hid ((((az.row (d.out.bs.below f.out) z (by decide) (bq d.out.tr f.out) P d.out.td).1).alloc (.cells #[.bool false,ae X Y] 237)).alloc (.cells #[.pointer (some ⟨r.heap.size,0,none⟩)] 217));have H:=Lib.hid (show ∀j u,[Value.pointer (some ⟨r.heap.size,0,none⟩)][j]?=some u→((r.alloc (.cells #[.bool false,ae X Y] 237)).alloc (.cells #[.pointer (some ⟨r.heap.size,0,none⟩)] 217)).cell? ((⟨r.heap.size+1,0,none⟩:Addr).add j)=some u from fun j u h=>by
     have h1:=TS.dC (r.alloc (.cells #[.bool false,ae X Y] 237)) (.pointer (some ⟨r.heap.size,0,none⟩)) 217 j u h;rwa [show(r.alloc (.cells #[.bool false,ae X Y] 237)).heap.size=r.heap.size+1 by simp]at h1)
    have Qq:Hid (EL C l (some ⟨w.heap.size+1,0,none⟩) w.heap.size y.heap.size r):=Ql.out.kept fun b o v hb h=>by
     have h2:=ak f.out h;rw[z.kept.cell (World.block_lt_of_cell? _ _ h2) fun e=> ?_]
     ·exact h2
     ·have QG:=F.out.bl
      rcases e with e|e
      ·have e':b=C.bb:=e
       omega
      ·rcases d.out.om _ e with I|I
       ·have e3:C.B0≤b∧b<w.heap.size:=⟨(F.out.ib (b:=b) (.inr I)).1,(F.out.ib (b:=b) (.inr I)).2.1⟩
        omega
       ·have e3:y.heap.size≤b:=I
        omega
    have K:=Lib.hid (show fs.length=k from d.out.fl);have Z:∀b,(Value.slice ta fs.length tc).ownBlock=some b→y.heap.size≤b:=fun b e=>(d.out.tr.lt _ e).1;have P4:=Lib.hid Z;have P5:=Lib.hid V;have P6:=Lib.hid z;have P7:=Lib.hid J;have P8:=Lib.hid W;clear V z J W O Z;go_wp2_with fail
    refine(me _ _ _ _).mono ?_;rintro I w2 ⟨rfl,rfl⟩;go_wp2_with (first|(at_builtin;refine wpList_append_own_at _ rfl _ _ 216 rfl y.heap.size 217 i0 (.pointer none) 1 8 Tryz.underlying216 Qw Qf Qg Qh rfl (by decide) (.slice ta fs.length tc) fs.length (fs.map pv) rfl G.out ⟨r.heap.size+1,0,none⟩ 1 1 [.pointer (some ⟨r.heap.size,0,none⟩)] rfl rfl H.out (TS.one_one rfl) ?c3 ?c4 ?c5 ?_)|fail)
    case c3=>have:=K.out;unfold maxLen;omega
    case c4=>have:=K.out;omega
    case c5=>(try simp);omega
    intro v' w3 t L _ P9;obtain⟨a3,c3,rfl⟩:=aZ t;have Qr:Hid (EL C l (some ⟨w.heap.size+1,0,none⟩) w.heap.size y.heap.size w3):=Qq.out.kept fun b o v hb h=>by
     have h2:=ak (((Below.refl _ _).alloc (Nat.le_refl _) (.cells #[.bool false,ae X Y] 237)).alloc (by simp) (.cells #[.pointer (some ⟨r.heap.size,0,none⟩)] 217)) h;rw[((Kept.refl (fun b=>(Value.slice ta fs.length tc).ownBlock=some b) _).grown L fun k hk _=>hk).cell (World.block_lt_of_cell? _ _ h2) fun e=> ?_]
     ·exact h2
     ·have h3:y.heap.size≤b:=P4.out b e
      have h4:=F.out.bl;omega
    have s:Hid (∃(q2:Pm)(E:List Nat)(M:Nat→Value),E.length=k+1∧dV C l p g mv ms y (k+1) q2 g1 S T E M (.slice a3 (fs.length+1) c3) w3):=
     ⟨_,_,_,by simp[K.out],dV.step (e:=e) (bs:=#[.pointer (some ⟨r.heap.size,0,none⟩)]) (Tb:=217) d.out P R.out f.out (B.out.symm▸P7.out) P5.out P6.out P8.out (B.out.symm▸Qp) t (by rw[Qo.out];exact L) (P9.imp id fun h=>h.trans (by simp))⟩
    clear t L P9 G H;go_wp2_with fail
    obtain⟨q2,E,M,_,s⟩:=s.out;exact⟨⟨k+1,q2,g1,S,T,E,M,by omega,by go_num,s,Qr.out⟩,by first|omega|(simp[intOf];omega)⟩
   ·obtain⟨I,Qd⟩:=Qe.out _ (List.mem_of_getElem? A) (by simpa using hd)
    obtain⟨QQ,QR,a2,c2,rfl,hle,QC,⟨y0,y1,y2,y3,y4,y5,y6⟩,QJ⟩:=jq Qc d.out.bs.ka Qd;have B:Hid (aC e=I):=by rw[aC,if_pos (by simpa using hd),Qd];rfl
    have O:=Lib.hid (B.out▸Qk.out e (List.mem_of_getElem? A) q g' Qa Qb a2 c2 _ (d.out.bs.below N) (by have:=d.out.ct;have:=fo A;have:=iG l (k+1);have:=lj e;have:=Q.out;omega) (B.out.symm▸QC));have QS:=Lib.hid Qd;clear Qd;have R:=Lib.hid A;have f:=Lib.hid N;have Qo:=Lib.hid hd;clear A N Qc;go_wp2_with fail
    refine O.out.mono ?_;rintro e1 r ⟨x,q1,g1,S,T,rfl,J,V,z,W,_,Qp⟩;obtain⟨X,Y,rfl⟩:=J.val;have Qn:=z.size;have aa:=d.out.st.size;have QF:y.heap.size≤r.heap.size:=by have:=f.out.size;omega
    have G:=Lib.hid ((((az.row (d.out.bs.below f.out) z (by decide) (bq d.out.tr f.out) P d.out.td).1).alloc (.cells #[.bool true,ae X Y] 237)).alloc (.cells #[.pointer (some ⟨r.heap.size,0,none⟩)] 217));have H:=Lib.hid (show ∀j u,[Value.pointer (some ⟨r.heap.size,0,none⟩)][j]?=some u→((r.alloc (.cells #[.bool true,ae X Y] 237)).alloc (.cells #[.pointer (some ⟨r.heap.size,0,none⟩)] 217)).cell? ((⟨r.heap.size+1,0,none⟩:Addr).add j)=some u from fun j u h=>by
     have h1:=TS.dC (r.alloc (.cells #[.bool true,ae X Y] 237)) (.pointer (some ⟨r.heap.size,0,none⟩)) 217 j u h;rwa [show(r.alloc (.cells #[.bool true,ae X Y] 237)).heap.size=r.heap.size+1 by simp]at h1)
    have Qq:Hid (EL C l (some ⟨w.heap.size+1,0,none⟩) w.heap.size y.heap.size r):=Ql.out.kept fun b o v hb h=>by
     have h2:=ak f.out h;rw[z.kept.cell (World.block_lt_of_cell? _ _ h2) fun e=> ?_]
     ·exact h2
     ·have QG:=F.out.bl
      rcases e with e|e
      ·have e':b=C.bb:=e
       omega
      ·rcases d.out.om _ e with I|I
       ·have e3:C.B0≤b∧b<w.heap.size:=⟨(F.out.ib (b:=b) (.inr I)).1,(F.out.ib (b:=b) (.inr I)).2.1⟩
        omega
       ·have e3:y.heap.size≤b:=I
        omega
    have K:=Lib.hid (show fs.length=k from d.out.fl);have Z:∀b,(Value.slice ta fs.length tc).ownBlock=some b→y.heap.size≤b:=fun b e=>(d.out.tr.lt _ e).1;have P4:=Lib.hid Z;have P5:=Lib.hid V;have P6:=Lib.hid z;have P7:=Lib.hid J;have P8:=Lib.hid W;clear V z J W O Z;go_wp2_with fail
    refine(me _ _ _ _).mono ?_;rintro I w2 ⟨rfl,rfl⟩;go_wp2_with (first|(at_builtin;refine wpList_append_own_at _ rfl _ _ 216 rfl y.heap.size 217 i0 (.pointer none) 1 8 Tryz.underlying216 Qw Qf Qg Qh rfl (by decide) (.slice ta fs.length tc) fs.length (fs.map pv) rfl G.out ⟨r.heap.size+1,0,none⟩ 1 1 [.pointer (some ⟨r.heap.size,0,none⟩)] rfl rfl H.out (TS.one_one rfl) ?c3 ?c4 ?c5 ?_)|fail)
    case c3=>have:=K.out;unfold maxLen;omega
    case c4=>have:=K.out;omega
    case c5=>(try simp);omega
    intro v' w3 t L _ P9;obtain⟨a3,c3,rfl⟩:=aZ t;have Qr:Hid (EL C l (some ⟨w.heap.size+1,0,none⟩) w.heap.size y.heap.size w3):=Qq.out.kept fun b o v hb h=>by
     have h2:=ak (((Below.refl _ _).alloc (Nat.le_refl _) (.cells #[.bool true,ae X Y] 237)).alloc (by simp) (.cells #[.pointer (some ⟨r.heap.size,0,none⟩)] 217)) h;rw[((Kept.refl (fun b=>(Value.slice ta fs.length tc).ownBlock=some b) _).grown L fun k hk _=>hk).cell (World.block_lt_of_cell? _ _ h2) fun e=> ?_]
     ·exact h2
     ·have h3:y.heap.size≤b:=P4.out b e
      have h4:=F.out.bl;omega
    have s:Hid (∃(q2:Pm)(E:List Nat)(M:Nat→Value),E.length=k+1∧dV C l p g mv ms y (k+1) q2 g1 S T E M (.slice a3 (fs.length+1) c3) w3):=
     ⟨_,_,_,by simp[K.out],dV.step (e:=e) (bs:=#[.pointer (some ⟨r.heap.size,0,none⟩)]) (Tb:=217) d.out P R.out f.out (B.out.symm▸P7.out) P5.out P6.out P8.out (B.out.symm▸Qp) t (by rw[Qo.out];exact L) (P9.imp id fun h=>h.trans (by simp))⟩
    clear t L P9 G H;go_wp2_with fail
    obtain⟨q2,E,M,_,s⟩:=s.out;exact⟨⟨k+1,q2,g1,S,T,E,M,by omega,by go_num,s,Qr.out⟩,by first|omega|(simp[intOf];omega)⟩
  ·have QT:¬(k:Int)<1:=by omega
   have s:Hid (0<fs.length∧bf C u p g mv ms w (.returned (.iface 189 (.pointer (some ⟨wr.heap.size,0,none⟩)))) (wr.alloc (.cells #[.slice ta fs.length tc] 236))):=by
    have e1:=Qy.out;have I:l.length=k:=by have:=QA.out;omega
    have e3:=d.out.fl;have h1:=d.out;have h2:=Qz.out;refine⟨by omega,?_⟩;rw[e3]at h1⊢;have h:=dV.done (u:=u) (ta:=ta) (tc:=tc) QD.out (by rw[e1,I];exact h1) P;rw[e1,I]at h;exact bf.ahead Qx.out h
   go_wp2_with fail
   refine(rC ta fs.length tc s.out.1 _).mono ?_;rintro e1 r ⟨rfl,rfl⟩;go_wp2_with fail
   go_ret;exact s.out.2
end Go.Proofs.YtgbklbbknehefaaGreatDoor
namespace TS
open Go Go.RowKit Go.Proofs.YtgbklbbknehefaaGreatDoor
structure ew(C:BC)(u:U)(p:Pm)(g:Ge)(mv:Value)(ms:List Nat)(w:World)(k:Nat)(q:Pm)(e:Ge)(c:Value)(d fs:List Nat)(a:Nat→Nat)(f:Value)(wr:World):Prop where
 bs:BS C q e c d wr
 st:az C p g mv ms w q e d wr
 om:∀b,c.ownBlock=some b→mv.ownBlock=some b∨w.heap.size≤b
 fl:fs.length=k
 fr:wr.ownsRow w.heap.size 38 1 f fs.length (fs.map pv)
 fd:∀b,f.ownBlock=some b→∀o,q b o=none
 fa:∀i(h:i<u.es.length),i<k→cL q e u.es[i] (fs.getD i 0)∧q (fs.getD i 0) 0=some (.int .i64 0)
 sg:∀i,i<k→q (fs.getD i 0) 3=some (ae 108 (a i))∧wr.cell? ⟨a i,0,none⟩=some (.pointer none)∧wr.frozen? ⟨a i,0,none⟩=false∧q (a i) 0=none∧w.heap.size≤a i∧∃v,q (a i) 2=some v
theorem t_{C:BC}{p q:Pm}{g g1:Ge}{mv:Value}{ms b:List Nat}{w c:World}(j:BS C p g mv ms w)(a:az C p g mv ms w q g1 b c){s:Nat}(n:C.bb<s)(f:w.cell? ⟨s,0,none⟩=some (.pointer none))(k:w.frozen? ⟨s,0,none⟩=false)(l:p s 0=none)(h2:∃v,p s 2=some v):
 c.cell? ⟨s,0,none⟩=some (.pointer none)∧c.frozen? ⟨s,0,none⟩=false∧q s 0=none∧∃v,q s 2=some v:=by
 have d:=World.block_lt_of_cell? _ _ f;have i:¬(s=C.bb∨mv.ownBlock=some s):=fun e=>by
  rcases e with e|e
  ·omega
  ·obtain⟨v,h2⟩:=h2;rw[(j.rd s e).2 2]at h2;cases h2
 refine⟨by rw[a.kept.cell d i];exact f,by rw[a.kept.frozen d i];exact k,?_,let⟨v,h⟩:=h2;⟨v,a.gr.le _ _ _ h⟩⟩;cases m:q s 0 with
 |none=>rfl
 |some v=>
  rcases a.gr.new _ _ _ m with h|h
  ·rw[l]at h;cases h
  ·simp only at d;omega
theorem ew.step{C:BC}{u e:U}{p q l:Pm}{g g' g1:Ge}{mv B D:Value}{ms L E fs:List Nat}{w V wr a M:World}{k s:Nat}{sb:Nat→Nat}{N x:Value}{pk:Option Addr}
 (hM:ew C u p g mv ms w k q g' B L fs sb N wr)(O:C.bb<w.heap.size)(W:u.es[k]?=some e)(X:e.k=7)(d:Below wr.heap.size wr V)
 (P:Node l g1 e (ae 108 s))(F:BS C l g1 D E a)(m:az C q g' B L V l g1 E a)(Y:∀b,D.ownBlock=some b→B.ownBlock=some b∨V.heap.size≤b)
 (hs:V.heap.size≤s)(Z:l s 0=none)(P4:a.cell? ⟨s,0,none⟩=some (.pointer none))(P5:a.frozen? ⟨s,0,none⟩=false)
 {bs:Array Value}{Tb:TypeId}(P6:M.ownsRow w.heap.size 38 1 x (fs.length+1) (fs.map pv++ [pv a.heap.size]))
 (P7:((a.alloc (.cells #[.int .i64 0,.pointer pk,.string e.nm,ae 108 s,.bool false,.bool false] 48)).alloc (.cells bs Tb)).grownBy M N.ownBlock)
 (P8:x.ownBlock=N.ownBlock∨x.ownBlock=some ((a.alloc (.cells #[.int .i64 0,.pointer pk,.string e.nm,ae 108 s,.bool false,.bool false] 48)).alloc (.cells bs Tb)).heap.size):
 ew C u p g mv ms w (k+1) (l.add a.heap.size #[.int .i64 0,.pointer pk,.string e.nm,ae 108 s,.bool false,.bool false]) g1 D E (fs++ [a.heap.size]) (fun i=>if i=k then s else sb i) x M:=by
 obtain⟨hk,Q⟩:=List.getElem?_eq_some_iff.1 W;have y:=az.row (hM.bs.below d) m (by decide) (bq hM.fr d) O hM.fd;have P9:=F.box #[.int .i64 0,.pointer pk,.string e.nm,ae 108 s,.bool false,.bool false] 48;have P_:=(hM.st.trans (az.ahead d m) hM.om).box F #[.int .i64 0,.pointer pk,.string e.nm,ae 108 s,.bool false,.bool false] 48;have hd:∀o,l a.heap.size o=none:=fun o=>F.wb.kw.aG (Nat.le_refl _) o;have n:=Pm.cP (cs:=#[.int .i64 0,.pointer pk,.string e.nm,ae 108 s,.bool false,.bool false]) hd;generalize G:#[Value.int .i64 0,.pointer pk,.string e.nm,ae 108 s,.bool false,.bool false]=f at*;have j:Below a.heap.size a ((a.alloc (.cells f 48)).alloc (.cells bs Tb)):=((Below.refl _ _).alloc (Nat.le_refl _) _).alloc (by simp) _;have R:Below (a.alloc (.cells f 48)).heap.size (a.alloc (.cells f 48)) ((a.alloc (.cells f 48)).alloc (.cells bs Tb)):=(Below.refl _ _).alloc (Nat.le_refl _) _;have z:=P9.below R;have S:∀b,N.ownBlock=some b→∀o,l.add a.heap.size f b o=none:=fun b c o=>by
  rw[Pm.aJ _ _ _ fun e2=>by have:=(y.1.lt b c).2;omega];exact y.2 b c o
 have A:=bq y.1 j;obtain⟨Qa,H⟩:=z.appended (by decide) A S O P7;have Qb:=(P_.below R).own H fun b c=>(A.lt b c).1;have I:=hM.fl;have J:=m.gr.le.trans n;have Qg:=hM.st.size;have Qh:=d.size;have r:∀t,a.cell? ⟨t,0,none⟩=some (.pointer none)→a.frozen? ⟨t,0,none⟩=false→l t 0=none→(∃v,l t 2=some v)→M.cell? ⟨t,0,none⟩=some (.pointer none)∧M.frozen? ⟨t,0,none⟩=false∧l.add a.heap.size f t 0=none∧∃v,l.add a.heap.size f t 2=some v:=fun t h1 h2 h3 ⟨v,K⟩=>by
  have T:=World.block_lt_of_cell? _ _ h1;simp only at T;have hx:¬N.ownBlock=some t:=fun c=>by rw[y.2 t c 2]at K;cases K
  have Qi:=j.size;refine⟨by rw[H.cell (by omega) hx];exact ak j h1,by rw[H.frozen (by omega) hx];exact TS.frozen_kept j T h2,by rw[Pm.aJ _ _ _ (by omega)];exact h3,v,n _ _ _ K⟩
 refine⟨Qa,Qb,fun b c=> ?_,by simp[I],by simpa using P6,js z.wb S P8,fun i h hi=> ?_,fun i hi=> ?_⟩
 ·rcases Y b c with c|c
  ·exact hM.om b c
  ·exact .inr (by omega)
 ·by_cases c:i=k
  ·subst c
   rw[Q,show(fs++ [a.heap.size]).getD i 0=a.heap.size by simp[List.getD,←I]];simp only[cL,Pm.aQ,←G];refine⟨⟨s,⟨pk,rfl⟩,rfl,rfl,?_⟩,rfl⟩;rw[G];exact P.sub n (aD.refl _)
  ·rw[show(fs++ [a.heap.size]).getD i 0=fs.getD i 0 by simp[List.getD,List.getElem?_append_left (show i<fs.length by omega)]]
   obtain⟨h1,h2⟩:=hM.fa i h (by omega);exact⟨h1.sub J m.gs,J _ _ _ h2⟩
 ·by_cases c:i=k
  ·subst c
   rw[if_pos rfl,show(fs++ [a.heap.size]).getD i 0=a.heap.size by simp[List.getD,←I]];obtain⟨b,Qj,Qk,f',Ql,ex,_,k2,_⟩:=P.jJ X;cases ex;obtain⟨h1,h2,h3,K⟩:=r _ P4 P5 Z ⟨_,k2⟩;exact⟨by rw[Pm.aQ,←G];rfl,h1,h2,h3,by omega,K⟩
  ·rw[if_neg c,show(fs++ [a.heap.size]).getD i 0=fs.getD i 0 by simp[List.getD,List.getElem?_append_left (show i<fs.length by omega)]]
   obtain⟨h1,h2,h3,K,h5,h6⟩:=hM.sg i (by omega);have T:=World.block_lt_of_cell? _ _ h2;simp only at T;obtain⟨j1,j2,j3,j4⟩:=t_ (hM.bs.below d) m (by omega) (ak d h2) (TS.frozen_kept d T h3) K h6;obtain⟨Qc,Qd,Qe,Qf⟩:=r _ j1 j2 j3 j4;exact⟨J _ _ _ h1,Qc,Qd,Qe,h5,Qf⟩
theorem ew.after{C:BC}{u:U}{p q n:Pm}{g x g1:Ge}{mv d e:Value}{ms j f fs:List Nat}{w o wr r:World}{k:Nat}{y:Nat→Nat}{z:Value}
 (hM:ew C u p g mv ms w k q x d j fs y z wr)(s:C.bb<w.heap.size)(a:Below wr.heap.size wr o)
 (t:BS C n g1 e f r)(c:az C q x d j o n g1 f r)(v:∀b,e.ownBlock=some b→d.ownBlock=some b∨o.heap.size≤b):
 ew C u p g mv ms w k n g1 e f fs y z r:=by
 have l:=az.row (hM.bs.below a) c (by decide) (bq hM.fr a) s hM.fd;refine⟨t,hM.st.trans (az.ahead a c) hM.om,fun b m=> ?_,hM.fl,l.1,l.2,fun i h hi=>⟨(hM.fa i h hi).1.sub c.gr.le c.gs,c.gr.le _ _ _ (hM.fa i h hi).2⟩,fun i hi=> ?_⟩
 ·rcases v b m with m|m
  ·exact hM.om b m
  ·have:=a.size;have:=hM.st.size;exact .inr (by omega)
 ·obtain⟨h1,h2,h3,B,D,E⟩:=hM.sg i hi
  have A:=World.block_lt_of_cell? _ _ h2;simp only at A;obtain⟨F,G,H,I⟩:=t_ (hM.bs.below a) c (by omega) (ak a h2) (TS.frozen_kept a A h3) B E;exact⟨c.gr.le _ _ _ h1,F,G,H,D,I⟩
theorem ew.below{C:BC}{u:U}{p q:Pm}{g d:Ge}{mv a:Value}{ms b fs:List Nat}{w wr e:World}{k:Nat}{f:Nat→Nat}{h:Value}
 (hM:ew C u p g mv ms w k q d a b fs f h wr)(c:Below wr.heap.size wr e):ew C u p g mv ms w k q d a b fs f h e:=
 ⟨hM.bs.below c,hM.st.below c,hM.om,hM.fl,bq hM.fr c,hM.fd,hM.fa,fun i hi=>
  let⟨h1,h2,h3,j,l,m⟩:=hM.sg i hi
  ⟨h1,ak c h2,TS.frozen_kept c (World.block_lt_of_cell? _ _ h2) h3,j,l,m⟩⟩
theorem ew.appended{C:BC}{u:U}{p q:Pm}{g t:Ge}{mv c:Value}{ms d fs:List Nat}{w wr x:World}{k:Nat}{h:Nat→Nat}{y:Value}
 (hM:ew C u p g mv ms w k q t c d fs h y wr)(j:C.bb<w.heap.size){e:TypeId}(he:e≠33)(l:38≠e){v:Value}{n:Nat}{xs:List Value}(m:wr.ownsRow w.heap.size e 1 v n xs)(z:∀b,v.ownBlock=some b→∀o,q b o=none)(D:wr.grownBy x v.ownBlock):
 ew C u p g mv ms w k q t c d fs h y x:=by
 obtain⟨r,a⟩:=hM.bs.appended he m z j D;refine⟨r,hM.st.own a fun b f=>(m.lt b f).1,hM.om,hM.fl,dL hM.fr a fun b f=>jr l hM.fr m f,hM.fd,hM.fa,fun i hi=> ?_⟩;obtain⟨h1,h2,h3,E,F,v2,s⟩:=hM.sg i hi;have A:=World.block_lt_of_cell? _ _ h2;have B:¬v.ownBlock=some (h i):=fun f=>by rw[z _ f 2]at s;cases s
 exact⟨h1,by rw[a.cell A B];exact h2,by rw[a.frozen A B];exact h3,E,F,v2,s⟩
theorem BS.CM{C:BC}{q:Pm}{g:Ge}{mv:Value}{ms:List Nat}{w:World}(d:BS C q g mv ms w){u:U}{t c:Nat}(h:Node q g u (ae t c)):c<w.heap.size:=by
 have hk:∀{b o v},q b o=some v→b<w.heap.size:=fun h=>d.wb.kw.lt h;generalize a:ae t c=x at h;induction h generalizing t c with
 |basic _ h=>cases a;exact hk h
 |alias _ h _ _=>subst a;obtain⟨b,_,_,e,_,_,f⟩:=h.world d.wb.kw;cases e;cases f<;>exact World.block_lt_of_cell? _ _ ‹_›
 |any _ _ ih=>exact ih a
 |array _ _ h|slice _ _ h|pointer _ _ h|map _ _ h|chan _ _ h=>cases a;exact hk h
 |struct _ h=>cases a;exact hk h
 |func _ _ h=>cases a;exact hk h
 |iface _ h=>cases a;exact(d.ifs _ _ h).1
 |gm _ _ _ _ h=>cases a;exact hk h
 |named _ _ _ _ h=>cases a;exact hk h
 |union _ h=>cases a;exact hk h
 |err _ _ h=>cases a;exact hk h
 |comp _ h=>cases a;exact hk h
structure ju(C:BC)(u:U)(p:Pm)(g:Ge)(mv:Value)(ms:List Nat)(w:World)(k:Nat)(q:Pm)(d:Ge)(a:Value)(c fs:List Nat)(f:Nat→Nat)(l:Value)(xs:List Value)(e:Value)(wr:World):Prop where
 mm:ew C u p g mv ms w u.m.toNat q d a c fs f l wr
 xl:xs.length=k
 er:wr.ownsRow w.heap.size 44 1 e xs.length xs
 ed:∀b,e.ownBlock=some b→∀o,q b o=none
 nd:∀i(h:u.m.toNat+i<u.es.length),i<k→Node q d u.es[u.m.toNat+i] (xs.getD i undef)
 df:∀i j,i<j→j<k→u.m.toNat+j<u.es.length→((u.es.getD (u.m.toNat+j) default).k=12∨(u.es.getD (u.m.toNat+j) default).k=13)→xs.getD i undef≠xs.getD j undef
theorem ju.step{C:BC}{u e:U}{p q J:Pm}{g X g1:Ge}{mv o r:Value}{ms A s fs:List Nat}{w K wr t L:World}{k:Nat}{Y:Nat→Nat}{Z M c x:Value}{xs:List Value}
 (d:ju C u p g mv ms w k q X o A fs Y Z xs M wr)(v:C.bb<w.heap.size)(B:u.es[u.m.toNat+k]?=some e)(f:Below wr.heap.size wr K)
 (N:Node J g1 e x)(D:BS C J g1 r s t)(l:az C q X o A K J g1 s t)(O:∀b,r.ownBlock=some b→o.ownBlock=some b∨K.heap.size≤b)
 (P:e.k=12∨e.k=13→∃b,x=ae 189 b∧K.heap.size≤b)
 {bs:Array Value}{Tb:TypeId}(Q:L.ownsRow w.heap.size 44 1 c (xs.length+1) (xs++ [x]))
 (R:(t.alloc (.cells bs Tb)).grownBy L M.ownBlock)(S:c.ownBlock=M.ownBlock∨c.ownBlock=some (t.alloc (.cells bs Tb)).heap.size):
 ju C u p g mv ms w (k+1) J g1 r s fs Y Z (xs++ [x]) c L:=by
 obtain⟨hk,E⟩:=List.getElem?_eq_some_iff.1 B;have F:=d.xl;have y:=az.row (d.mm.bs.below f) l (by decide) (bq d.er f) v d.ed;have a:Below t.heap.size t (t.alloc (.cells bs Tb)):=(Below.refl _ _).alloc (Nat.le_refl _) _;have G:=bq y.1 a;have T:=(d.mm.after v f D l O).below a;have n:∀i,i<k→(xs++ [x]).getD i undef=xs.getD i undef:=fun i hi=>by simp[List.getD,List.getElem?_append_left (show i<xs.length by omega)]
 have H:(xs++ [x]).getD k undef=x:=by simp[List.getD,←F]
 refine⟨T.appended v (by decide) (by decide) G y.2 R,by simp[F],by simpa using Q,js (D.below a).wb y.2 S,fun i h hi=> ?_,fun i j z hj hl I=> ?_⟩
 ·by_cases V:i=k
  ·subst V;rw[E,H];exact N
  ·rw[n i (by omega)];exact(d.nd i h (by omega)).sub l.gr.le l.gs
 ·by_cases V:j=k
  ·subst V
   rw[H,n i z];have W:e.k=12∨e.k=13:=by simpa [List.getD,B]using I
   obtain⟨b,rfl,hb⟩:=P W;intro hx;have hn:=d.nd i (by omega) z;rw[hx]at hn;have:=d.mm.bs.CM hn;have:=f.size;omega
  ·rw[n i (by omega),n j (by omega)]
   exact d.df i j z (by omega) hl I
theorem eV.congr{p:Pm}{g:Ge}{b:Nat}{u v:U}(h:eV p g b u)(hm:v.m=u.m)(he:v.es=u.es):eV p g b v:=by
 obtain⟨k,n,m,o,nm,tg,es,un⟩:=u;obtain⟨s,t,e,f,i,j,a,l⟩:=v;have c:e=m:=hm;have d:a=es:=he;subst c;subst d;exact⟨h.ck,h.ms,h.el,h.ps,h.cm⟩
section
variable {C:BC} {p q r:Pm} {g g1 g2:Ge} {mv mv1:Value} {ms ms1 ms2:List Nat} {w w1 w2:World}
theorem BS.pc(h:BS C p g mv ms w){X:Nat→Prop}(k:Kept X w w1)(d:WB p w1)(c:∀b,X b→C.B0≤b∧p b 0=none∧b≠C.bb∧mv.ownBlock≠some b):BS C p g mv ms w1 where
 ka:=h.ka.kept k fun b o v e a=>by have:=h.la _ _ _ e;have:=(c b a).1;omega
 la:=h.la
 wb:=d
 lp:=h.lp
 inj:=h.inj
 gv:=h.gv
 bl:=h.bl
 pb:=h.pb
 c0:=by rw[k.cell (World.block_lt_of_cell? _ _ h.c0) fun a=>(c _ a).2.2.1 rfl];exact h.c0
 c1:=let⟨h1,h2⟩:=h.c1;⟨by rw[k.cell (World.block_lt_of_cell? _ _ h.c0) fun a=>(c _ a).2.2.1 rfl];exact h1,h2⟩
 c2:=by rw[k.cell (World.block_lt_of_cell? _ _ h.c0) fun a=>(c _ a).2.2.1 rfl];exact h.c2
 c3:=by rw[k.cell (World.block_lt_of_cell? _ _ h.c0) fun a=>(c _ a).2.2.1 rfl];exact h.c3
 c4:=by rw[k.cell (World.block_lt_of_cell? _ _ h.c0) fun a=>(c _ a).2.2.1 rfl];exact h.c4
 f4:=by rw[k.frozen (World.block_lt_of_cell? _ _ h.c0) fun a=>(c _ a).2.2.1 rfl];exact h.f4
 row:=dL h.row k fun b e a=>(c b a).2.2.2 e
 rd:=h.rd
 ord:=h.ord
 mlt:=fun b e=>⟨Nat.lt_of_lt_of_le (h.mlt b e).1 k.size,(h.mlt b e).2⟩
 ifs:=fun b u e=>by
  have hi:=h.ifs b u e;have a:¬X b:=fun a=>by have:=(c b a).2.1;rw[hi.2.1]at this;cases this
  exact hi.mono (Sub.refl p) (aD.refl g) (fun _ h=>h) k.size (k.cell hi.1 a) (k.frozen hi.1 a) fun h=>h
 len:=h.len
 nm:=h.nm
 po:=h.po
 cD:=h.cD
 cE:=h.cE
 err:=h.err
 cmp:=h.cmp
 tn:=h.tn
theorem BS.put(h:BS C p g mv ms w){b o:Nat}{v:Value}(i:w.cell? ⟨b,o,none⟩=some v)(j:Plain w b)(l:p b o=none)(s:C.bb<b)(c:mv.ownBlock≠some b)(m:o≠6∨g.G b=none):BS C (p.put b o v) g mv ms w:=by
 have n:=h.bl;refine h.iI (Pm.eL v l) (h.wb.put i j) (fun d a x f=> ?_) (fun a=>by rw[Pm.aV _ _ (by omega)];exact h.pb a) (fun d e a=> ?_) (fun d u hu e=>by rw[Pm.aV _ _ fun k=>m.elim (fun h=>h k.2.symm) fun h=>by rw[k.1,h]at hu;cases hu];exact e)
 ·by_cases e:d=b∧a=o
  ·omega
  ·rw[Pm.aV _ _ e]at f;exact h.lp _ _ _ f
 ·rw[Pm.aV _ _ fun k=>c (by rw[←k.1];exact e)];exact(h.rd _ e).2 a
def Ge.more(g:Ge)(b:Nat)(v:U):Ge:={g with G:=fun c=>if c=b then some v else g.G c}
theorem Ge.ud{g:Ge}{b:Nat}(a:∀c u,g.G c=some u→c<b)(v:U):aD g (g.more b v):=
 ⟨rfl,rfl,rfl,rfl,rfl,rfl,rfl,rfl,fun c u h=>by have:=a c u h;show(if c=b then _ else _)=_;rw[if_neg (by omega)];exact h⟩
theorem Ge.CN{g:Ge}{b:Nat}(a:∀c u,g.G c=some u→c<b)(v:U):aD g ((g.more b v).below b):=
 ⟨rfl,rfl,rfl,rfl,rfl,rfl,rfl,rfl,fun c u h=>by
  have:=a c u h;show(if c<b then(if c=b then _ else _)else _)=_;rw[if_pos this,if_neg (by omega)];exact h⟩
theorem BS.made(h:BS C q g mv ms w){b:Nat}{v:U}(hm:∀c∈ms,c<b)(O:∀c u,g.G c=some u→c<b)(P:C.bb<b)(m:b<w.heap.size)(I:mv.ownBlock≠some b)(J:q b 0=some (.pointer none))(K:q b 5=some (.bool true))
 (hi:cv q g b v∨(eV q g b v∧fj C.D.len v∧q b 6=none∧w.cell? ⟨b,6,none⟩=some (.pointer none)∧w.frozen? ⟨b,6,none⟩=false))
 {d:Value}(Q:w.grownBy w1 mv.ownBlock)(E:w1.ownsRow C.B0 33 1 d (ms.length+1) (ms.map pv++ [pv b]))(R:d.ownBlock=mv.ownBlock∨d.ownBlock=some w.heap.size):
 BS C q (g.more b v) d (ms++ [b]) (w1.setCell ⟨C.bb,4,none⟩ d)∧Kept (fun c=>c=C.bb∨mv.ownBlock=some c) w (w1.setCell ⟨C.bb,4,none⟩ d):=by
 have s:Kept (fun c=>mv.ownBlock=some c) w w1:=(Kept.refl _ _).grown Q fun k hk _=>hk;have j:Kept (fun c=>c=C.bb∨mv.ownBlock=some c) w (w1.setCell ⟨C.bb,4,none⟩ d):=(s.mono fun c _ e=> .inr e).setCell (fun _=> .inl rfl) _;have t:=World.block_lt_of_cell? _ _ h.c0;simp only at t;have A:mv.ownBlock≠some C.bb:=fun e=>(h.rd _ e).1 rfl;have l:=Ge.ud O v;have F:=Ge.CN O v;have f:∀o,o≠4→(w1.setCell ⟨C.bb,4,none⟩ d).cell? ⟨C.bb,o,none⟩=w.cell? ⟨C.bb,o,none⟩:=fun o S=>by
  rw[World.cell?_setCell_other _ _ _ _ (fun e=>S (congrArg Addr.off e).symm)];exact s.cell t A
 have L:w1.cell? ⟨C.bb,4,none⟩=some mv:=by rw[s.cell t A];exact h.c4
 have z:∀c,d.ownBlock=some c→c≠C.bb∧∀o,q c o=none:=fun c e=>by
  rcases R with M|M
  ·rw[M]at e;exact h.rd c e
  ·rw[M]at e;cases e
   exact⟨by omega,fun o=>h.wb.kw.aG (Nat.le_refl _) o⟩
 have H:∀c,c=C.bb∨mv.ownBlock=some c→C.B0≤c∧c<w.heap.size∧∀o,q c o=none:=fun c B=>h.ib (B.imp Eq.symm id);refine⟨⟨h.ka.kept j fun c o x e i=> ?_,h.la,h.wb.own j (fun c i=>(H c i).2.2) fun i=> ?_,h.lp,⟨h.inj.nb,h.inj.ob,h.inj.ne,h.inj.nc,h.inj.ec,h.inj.oe,h.inj.oc,h.inj.ac⟩,h.gv,h.bl,h.pb,?_,?_,?_,?_,World.cell?_setCell_same _ _ _ L,?_,?_,z,?_,fun c B=> ?_,fun c u B=> ?_,h.len,h.nm,h.po,h.cD,h.cE,?_,?_,?_⟩,j⟩
 ·have:=h.la _ _ _ e;have:=(H c i).1;omega
 ·have:=(H _ i).1;have:=h.gv;omega
 ·rw[f 0 (by decide)];exact h.c0
 ·obtain⟨h1,h2⟩:=h.c1
  exact⟨by rw[f 1 (by decide)];exact h1,h2⟩
 ·rw[f 2 (by decide)];exact h.c2
 ·rw[f 3 (by decide)];exact h.c3
 ·rw[World.frozen?_setCell,s.frozen t A];exact h.f4
 ·have h1:=eH (a:=⟨C.bb,4,none⟩) E (fun e=>(z _ e).1 rfl) d
  simpa using h1
 ·refine List.pairwise_append.2 ⟨h.ord,by simp,fun x i y T=> ?_⟩
  have:y=b:=by simpa using T
  subst this;exact hm x i
 ·rcases List.mem_append.1 B with e|e
  ·obtain⟨h1,u,h2⟩:=h.mlt c e
   exact⟨Nat.lt_of_lt_of_le h1 j.size,u,l.G _ _ h2⟩
  ·have:c=b:=by simpa using e
   subst this;exact⟨Nat.lt_of_lt_of_le m j.size,v,if_pos rfl⟩
 ·by_cases e:c=b
  ·subst e
   have hu:u=v:=by
    have:(some v:Option U)=some u:=by rw[←B];exact(if_pos rfl).symm
    injection this with this;exact this.symm
   subst hu;have i:¬(c=C.bb∨mv.ownBlock=some c):=fun e=>e.elim (by omega) I;exact⟨Nat.lt_of_lt_of_le m j.size,J,K,hi.imp (fun k=>k.sub (Sub.refl q) F) fun⟨V,W,X,Y,Z⟩=>⟨by simp,V.sub (Sub.refl q) F,W,X,by rw[j.cell m i];exact Y,by rw[j.frozen m i];exact Z⟩⟩
  ·have N:g.G c=some u:=by
    have:(if c=b then some v else g.G c)=some u:=B;rwa [if_neg e]at this
   have hi:=h.ifs c u N;have i:¬(c=C.bb∨mv.ownBlock=some c):=fun e=>by have:=(H c e).2.2 0;rw[hi.2.1]at this;cases this
   exact hi.mono (Sub.refl q) l (fun b hb=>List.mem_append_left _ hb) j.size (j.cell hi.1 i) (j.frozen hi.1 i) fun e=>e
 ·obtain⟨h1,x,h2,h3⟩:=h.err
  exact⟨h1,x,h2,h3.sub (Sub.refl q) l⟩
 ·obtain⟨h1,x,h2,h3⟩:=h.cmp
  exact⟨h1,x,h2,l.G _ _ h3⟩
 ·intro n hn hi
  obtain⟨x,h1,h2⟩:=h.tn n hn hi;exact⟨x,h1,h2.sub (Sub.refl q) l⟩
theorem ue{i:World}{v:U}(hk:v.k=10)(d:az C p g mv ms i q g1 ms1 w)(H:BS C q g1 mv1 ms1 w)(j:∀b,mv1.ownBlock=some b→mv.ownBlock=some b∨i.heap.size≤b)
 {b:Nat}(E:∀c u,g1.G c=some u→c<b)(I:i.heap.size≤b)(hm:∀c∈ms1,c<b)(s:C.bb<b)(m:b<w.heap.size)(t:mv1.ownBlock≠some b)(x:q b 0=some (.pointer none))(y:q b 5=some (.bool true))
 (hi:cv q g1 b v∨(eV q g1 b v∧fj C.D.len v∧q b 6=none∧w.cell? ⟨b,6,none⟩=some (.pointer none)∧w.frozen? ⟨b,6,none⟩=false))(z:ms1.length+1≤ms.length+cn v)
 {o:Obj}{a:Value}(J:(w.alloc o).grownBy w1 mv1.ownBlock)(n:w1.ownsRow C.B0 33 1 a (ms1.length+1) (ms1.map pv++ [pv b]))(F:a.ownBlock=mv1.ownBlock∨a.ownBlock=some (w.heap.size+1)):
 bf C v p g mv ms i (.returned (ae 33 b)) (w1.setCell ⟨C.bb,4,none⟩ a):=by
 have aa:Below w.heap.size w (w.alloc o):=(Below.refl _ _).alloc (Nat.le_refl _) _;have K:=d.size;obtain⟨A,B⟩:=(H.below aa).made (v:=v) hm E s (Nat.lt_of_lt_of_le m aa.size) t x y (hi.imp id fun⟨L,M,N,O,P⟩=>⟨L,M,N,ak aa O,TS.frozen_kept aa m P⟩) J n (F.imp id fun e=>by rw[e];simp);have Q:Kept (fun c=>c=C.bb∨mv.ownBlock=some c) i (w1.setCell ⟨C.bb,4,none⟩ a):=d.kept.trans ((Kept.of (X:=fun c=>c=C.bb∨mv1.ownBlock=some c) aa).trans B fun _ _ h=>h) fun c R e=>by
  rcases e with e|e
  ·exact .inl e
  ·rcases j c e with e|e
   ·exact .inr e
   ·omega
 refine⟨_,q,g1.more b v,a,ms1++ [b],rfl,.iface hk (if_pos rfl),A,⟨d.gr,d.gs.trans (Ge.ud E v),fun c u e=> ?_,Q,?_⟩,fun c e=> ?_,fun h=>(by omega),by simpa using z⟩
 ·by_cases f:c=b
  ·subst f;exact .inr I
  ·exact d.gn c u (by have:(if c=b then some v else g1.G c)=some u:=e;rwa [if_neg f]at this)
 ·obtain⟨l,e⟩:=d.mm
  exact⟨l++ [b],by rw[e,List.append_assoc]⟩
 ·rcases F with f|f
  ·rw[f]at e;exact j c e
  ·rw[f]at e;cases e;exact .inr (by omega)
end
end TS
namespace TS
open Go Go.RowKit Go.Proofs.YtgbklbbknehefaaGreatDoor
theorem CO{C:BC}{u v:U}{p q:Pm}{g I:Ge}{mv F:Value}{ms J fs:List Nat}{H Z D:World}{sb:Nat→Nat}{t y:Value}{xs:List Value}{e:Ending}(P4:v.m=u.m)(P5:v.es=u.es)(P6:u.m.toNat≤u.es.length)(Qr:u.es.length≤1048576)
 (f:ju C u p g mv ms H (u.es.length- u.m.toNat) q I F J fs sb t xs y Z)(K:C.bb<H.heap.size)(hR:oY q I H.heap.size (u.es.take u.m.toNat) t y (fun c=> ∃i,i<fs.length∧c=sb i) Z e D):
 ∃b P,e= .returned (.pointer (some ⟨b,0,none⟩))∧Z.heap.size≤b∧b<D.heap.size∧BS C P I F J D∧az C p g mv ms H P I J D∧P b 0=some (.pointer none)∧eV P I b v∧P b 6=none∧D.cell? ⟨b,6,none⟩=some (.pointer none)∧D.frozen? ⟨b,6,none⟩=false:=by
 obtain⟨b,a,rfl,hb,l,Q,hlen,R,P7,hK⟩:=hR;have Qs:=f.mm.fl;have n:=f.mm.bs;have Qq:=n.bl;have Qt:=f.mm.st.size;have S:a.length=u.m.toNat:=by rw[hlen,List.length_take];omega
 have T:∀c,(∃i,i<fs.length∧c=sb i)∨t.ownBlock=some c→C.B0≤c∧q c 0=none∧c≠C.bb∧F.ownBlock≠some c∧H.heap.size≤c:=fun c E=>by
  rcases E with⟨i,hi,rfl⟩|e
  ·obtain⟨_,_,_,h4,h5,x,V⟩:=f.mm.sg i (by omega)
   exact⟨by omega,h4,by omega,fun e=>(by rw[(n.rd _ e).2 2]at V;cases V),h5⟩
  ·have h1:=(f.mm.fr.lt c e).1
   have h2:=n.apart (by decide) f.mm.fr K e;exact⟨by omega,f.mm.fd c e 0,h2.1,h2.2,h1⟩
 have P8:=n.pc hK P7 fun c E=>⟨(T c E).1,(T c E).2.1,(T c E).2.2.1,(T c E).2.2.2.1⟩
 have P9:=f.mm.st.own hK fun c E=>(T c E).2.2.2.2;have L:D.ownsRow H.heap.size 38 1 t (a.map pv).length (a.map pv):=by simpa using Q
 obtain⟨q1,a1,c1,P_,Qa,Qb,Qc,W,Qd,_,_⟩:=P8.iJ (e:=38) (v:=t) (xs:=a.map pv) (by decide) L f.mm.fd K;have Qe:D.ownsRow H.heap.size 44 1 y xs.length xs:=dL f.er hK fun c e E=>by
  rcases E with⟨i,hi,rfl⟩|M
  ·obtain⟨_,_,_,_,_,x,V⟩:=f.mm.sg i (by omega)
   rw[f.ed _ e 2]at V;cases V
  ·exact jr (by decide) f.er f.mm.fr e M
 have X:∀c,y.ownBlock=some c→∀o,q1 c o=none:=fun c e o=>by
  rw[W c fun M=>jr (by decide) f.er f.mm.fr e M];exact f.ed c e o
 obtain⟨O,a2,c2,Qf,Y,Qg,Qh,Qi,Qu,_,_⟩:=Qb.iJ (e:=44) (v:=y) (xs:=xs) (by decide) Qe X K;have k:F.ownBlock≠some b:=fun e=>by have:=(n.row.lt _ e).2;omega
 have d:∀o,O b o=none:=fun o=>by
  rw[Qi b fun e=>by have:=(f.er.lt _ e).2;omega,W b fun e=>by have:=(f.mm.fr.lt _ e).2;omega];exact n.wb.kw.aG hb o
 have z:Plain D b:=⟨_,_,l⟩
 have A:C.bb<b:=by omega
 have s:∀o x,(cZ t y true (.pointer none))[o]?=some x→D.cell? ⟨b,o,none⟩=some x:=fun o x h=>by simp[World.cell?,l,h]
 have Qj:=Qg.put (s 0 (.pointer none) rfl) z (d 0) A k (.inl (by decide));have Qk:=Qj.put (s 1 t rfl) z (by simp[Pm.put,d]) A k (.inl (by decide));have Ql:=Qk.put (s 2 y rfl) z (by simp[Pm.put,d]) A k (.inl (by decide));have Qm:=Ql.put (s 3 (.pointer none) rfl) z (by simp[Pm.put,d]) A k (.inl (by decide));have Qn:=Qm.put (s 5 (.bool true) rfl) z (by simp[Pm.put,d]) A k (.inl (by decide));have B:H.heap.size≤b:=by omega
 have k0:=Pm.dP (p:=O) (o:=0) (v:= .pointer none) (d 0) B;have k1:=Pm.dP (p:=O.put b 0 (.pointer none)) (o:=1) (v:=t) (by simp[Pm.put,d]) B;have k2:=Pm.dP (p:=(O.put b 0 (.pointer none)).put b 1 t) (o:=2) (v:=y) (by simp[Pm.put,d]) B;have k3:=Pm.dP (p:=((O.put b 0 (.pointer none)).put b 1 t).put b 2 y) (o:=3) (v:= .pointer none) (by simp[Pm.put,d]) B;have k5:=Pm.dP (p:=(((O.put b 0 (.pointer none)).put b 1 t).put b 2 y).put b 3 (.pointer none)) (o:=5) (v:= .bool true) (by simp[Pm.put,d]) B;have N:=(((k0.trans k1 (Nat.le_refl _)).trans k2 (Nat.le_refl _)).trans k3 (Nat.le_refl _)).trans k5 (Nat.le_refl _);have G:=(Qa.trans Y (Nat.le_refl _)).trans N (Nat.le_refl _);have Qo:=f.xl;refine⟨b,_,rfl,hb,(Array.getElem?_eq_some_iff.1 l).1,Qn,P9.iI G,by simp[Pm.put],eV.congr (u:=u) ⟨by simp[Pm.put],⟨P6,a1,c1,fun i=>a.getD i 0,?_,?_,by omega,fun i hi=> ?_,fun i hi Qv=> ?_⟩,⟨a2,c2,fun i=>xs.getD i undef,?_,by omega,by omega,?_,fun i hi=> ?_,fun i j Qp hj hk=>f.df i j Qp (by omega) hj hk⟩,by simp[Pm.put],by simp[Pm.put]⟩ P4 P5,by simp[Pm.put,d],s 6 _ rfl,by simp[World.frozen?,l]⟩
 ·rw[show Value.slice a1 u.m.toNat c1=t from(P_.trans (by simp[S])).symm];simp[Pm.put]
 ·rw[←S];simpa using Qd
 ·obtain⟨b',o',e1,M⟩:=Qc i (by simp;omega)
  refine⟨b',o',e1,N.le _ _ _ (Y.le _ _ _ ?_)⟩;rw[M];simp[List.getD,show i<a.length by omega]
 ·have h1:=R i (by rw[List.length_take];omega) (by omega)
  have h2:a.getD i 0=a[i]'(by omega):=by simp[List.getD,show i<a.length by omega]
  show cL _ _ _ (a.getD i 0)∧Pm.put _ _ _ _ (a.getD i 0) 0=_;rw[h2];refine⟨?_,G.le _ _ _ h1.2⟩;have:=h1.1.sub G.le (aD.refl I);simpa using this
 ·rw[show Value.slice a2 (u.es.length- u.m.toNat) c2=y from(Qf.trans (by rw[Qo])).symm];simp[Pm.put]
 ·intro i hi
  obtain⟨b',o',e1,M⟩:=Qh i (by omega);exact⟨b',o',e1,N.le _ _ _ M⟩
 ·exact(f.nd i hi (by omega)).sub G.le (aD.refl I)
theorem CP{C:BC}{v:U}{q:Pm}{s:Ge}{e:Value}{f:List Nat}{a:World}(hk:v.k=10)(d:v.es= [])(u:BS C q s e f a):
 ∃j,aK q j a.heap.size∧BS C j s e f ((((a.alloc (.cells #[.bool false,.nilIface] 193)).alloc (.cells #[.pointer (some ⟨a.heap.size,0,none⟩)] 191)).alloc (.cells #[.bool false,.slice none 0 0,.slice (some ⟨a.heap.size+1,0,none⟩) 1 1,.bool false] 136)).alloc
  (.cells (cZ (.slice none 0 0) (.slice none 0 0) true (.pointer (some ⟨a.heap.size+2,0,none⟩))) 118))∧j (a.heap.size+3) 0=some (.pointer none)∧j (a.heap.size+3) 5=some (.bool true)∧cv j s (a.heap.size+3) v:=by
 have h1:=u.box #[.bool false,.nilIface] 193;have h2:=h1.box #[.pointer (some ⟨a.heap.size,0,none⟩)] 191;have h3:=h2.box #[.bool false,.slice none 0 0,.slice (some ⟨a.heap.size+1,0,none⟩) 1 1,.bool false] 136;have y:=h3.box (cZ (.slice none 0 0) (.slice none 0 0) true (.pointer (some ⟨a.heap.size+2,0,none⟩))) 118;simp only[World.size_alloc]at h2 h3 y;have m:∀o k,q (a.heap.size+k) o=none:=fun o k=>u.wb.kw.aG (by omega) o
 have t:=((((Pm.cW (p:=q) (b:=a.heap.size) (n:=a.heap.size) (cs:=#[.bool false,.nilIface]) (fun o=>m o 0) (Nat.le_refl _)).trans
  (Pm.cW (b:=a.heap.size+1) (n:=a.heap.size) (cs:=#[.pointer (some ⟨a.heap.size,0,none⟩)]) (fun o=>by rw[Pm.aJ _ _ _ (by omega)];exact m o 1) (by omega)) (Nat.le_refl _)).trans
  (Pm.cW (b:=a.heap.size+2) (n:=a.heap.size) (cs:=#[.bool false,.slice none 0 0,.slice (some ⟨a.heap.size+1,0,none⟩) 1 1,.bool false]) (fun o=>by rw[Pm.aJ _ _ _ (by omega),Pm.aJ _ _ _ (by omega)];exact m o 2) (by omega)) (Nat.le_refl _))).trans
  (Pm.cW (b:=a.heap.size+3) (n:=a.heap.size) (cs:=cZ (.slice none 0 0) (.slice none 0 0) true (.pointer (some ⟨a.heap.size+2,0,none⟩))) (fun o=>by rw[Pm.aJ _ _ _ (by omega),Pm.aJ _ _ _ (by omega),Pm.aJ _ _ _ (by omega)];exact m o 3) (by omega)) (Nat.le_refl _)
 have c:aj v= []:=by rw[jo hk];simp[dW,d,bW]
 have l:aW v=false:=by rw[k_ hk];simp[d]
 refine⟨_,t,y,by rw[Pm.aQ];rfl,by rw[Pm.aQ];rfl,a.heap.size+2,none,0,fun _=>0,some ⟨a.heap.size+1,0,none⟩,1,[none],false,by rw[Pm.aQ];rfl,?_,?_,?_,?_,?_,?_,?_,by simp,by simp,⟨fun _=>a.heap.size,fun i hi=> ?_,fun i hi=> ?_⟩,?_,⟨.inl rfl,fun _=>⟨rfl,rfl⟩,fun h=> ?_,fun h=> ?_,?_⟩,fun h=> ?_,fun x h=> ?_⟩
 ·rw[Pm.aJ _ _ _ (by omega),Pm.aQ];rfl
 ·rw[Pm.aJ _ _ _ (by omega),Pm.aQ,c];rfl
 ·rw[c];exact Nat.le_refl _
 ·rw[c];simp
 ·rw[c];intro i hi;simp at hi
 ·rw[c];intro i hi;simp at hi
 ·rw[Pm.aJ _ _ _ (by omega),Pm.aQ];rfl
 ·have:i=0:=by simpa using hi
  subst this;exact⟨_,0,rfl,by rw[Pm.aJ _ _ _ (by omega),Pm.aJ _ _ _ (by omega),Pm.aQ];rfl⟩
 ·have:i=0:=by simpa using hi
  subst this;show aY _ _ none a.heap.size;unfold aY;rw[Pm.aJ _ _ _ (by omega),Pm.aJ _ _ _ (by omega),Pm.aJ _ _ _ (by omega),Pm.aQ];rfl
 ·rw[Pm.aJ _ _ _ (by omega),Pm.aQ];rfl
 ·rw[l]at h;cases h
 ·cases h
 ·rw[tw hk];simp[d]
 ·cases h
 ·cases h;rfl
end TS
