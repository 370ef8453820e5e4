import Derived.Test.YtkfaiocajcjomaaGreatDoorYbk
set_option maxRecDepth 100000
set_option maxHeartbeats 8000000
set_option linter.all false
namespace TS
open Go Go.RowKit Go.Proofs.YtkfaiocajcjomaaGreatDoor
def ek(u:U):List U:=if u.k=12 then u.es else [u]
theorem uD(u:U)(h:u.k=12∨u.k=13):bq u=(ek u).map fun e=>(e.k==13,aD e):=by
 unfold bq ek;rcases h with h|h
 ·rw[if_pos h,if_pos h]
 ·rw[if_neg (by omega),if_neg (by omega)];simp[h]
structure d_(C:BC)(l:List U)(p:Pm)(g:Ge)(mv:Value)(ms:List Nat)(w:World)(k:Nat)(q:Pm)(d:Ge)(c:Value)(a fs:List Nat)(xs:Nat→Value)(vt:Value)(wr:World):Prop where
 bs:BS C q d c a wr
 st:aA C p g mv ms w q d a wr
 om:∀b,c.ownBlock=some b→mv.ownBlock=some b∨w.heap.size≤b
 fl:fs.length=k
 tr:wr.ownsRow w.heap.size 202 1 vt fs.length (fs.map pv)
 td:∀b,vt.ownBlock=some b→∀o,q b o=none
 cl:∀i(h:i<l.length),i<k→q (fs.getD i 0) 0=some (.bool (l[i].k==13))∧q (fs.getD i 0) 1=some (xs i)
 nd:∀i(h:i<l.length),i<k→Node q d (aD l[i]) (xs i)
 ct:a.length≤ms.length+aR (l.take k)
theorem d_.step{C:BC}{l:List U}{e:U}{p q E:Pm}{g Z g1:Ge}{mv v y:Value}{ms z f fs:List Nat}{w L wr a M:World}{k:Nat}{xs:Nat→Value}{vt j x:Value}
 (hT:d_ C l p g mv ms w k q Z v z fs xs vt wr)(F:C.bb<w.heap.size)(G:l[k]?=some e)(m:Below wr.heap.size wr L)
 (N:Node E g1 (aD e) x)(A:BS C E g1 y f a)(n:aA C q Z v z L E g1 f a)(O:∀b,y.ownBlock=some b→v.ownBlock=some b∨L.heap.size≤b)(P3:f.length≤z.length+cn (aD e))
 {bs:Array Value}{Tb:TypeId}(P:M.ownsRow w.heap.size 202 1 j (fs.length+1) (fs.map pv++ [pv a.heap.size]))
 (Q:((a.alloc (.cells #[.bool (e.k==13),x] 223)).alloc (.cells bs Tb)).grownBy M vt.ownBlock)
 (R:j.ownBlock=vt.ownBlock∨j.ownBlock=some ((a.alloc (.cells #[.bool (e.k==13),x] 223)).alloc (.cells bs Tb)).heap.size):
 d_ C l p g mv ms w (k+1) (E.add a.heap.size #[.bool (e.k==13),x]) g1 y f (fs++ [a.heap.size]) (fun i=>if i=k then x else xs i) j M:=by
 obtain⟨hk,r⟩:=List.getElem?_eq_some_iff.1 G;have B:=aA.row (hT.bs.below m) n (by decide) (bD hT.tr m) F hT.td;have S:=A.box #[.bool (e.k==13),x] 223;have T:=(hT.st.trans (aA.ahead m n) hT.om).box A #[.bool (e.k==13),x] 223;have hd:∀o,E a.heap.size o=none:=fun o=>A.wb.kw.aI (Nat.le_refl _) o;have s:=Pm.cO (cs:=#[.bool (e.k==13),x]) hd;generalize V:#[Value.bool (e.k==13),x]=d at*;have H:Below a.heap.size a ((a.alloc (.cells d 223)).alloc (.cells bs Tb)):=((Below.refl _ _).alloc (Nat.le_refl _) _).alloc (by simp) _;have I:Below (a.alloc (.cells d 223)).heap.size (a.alloc (.cells d 223)) ((a.alloc (.cells d 223)).alloc (.cells bs Tb)):=(Below.refl _ _).alloc (Nat.le_refl _) _;have t:=S.below I;have J:∀b,vt.ownBlock=some b→∀o,E.add a.heap.size d b o=none:=fun b c o=>by
  rw[Pm.aK _ _ _ fun e2=>by have:=(B.1.lt b c).2;omega];exact B.2 b c o
 have u:=bD B.1 H;obtain⟨W,X⟩:=t.appended (by decide) u J F Q;have Y:=(T.below I).own X fun b c=>(u.lt b c).1;have K:=hT.fl;have D:=n.gr.le.trans s;refine⟨W,Y,fun b c=> ?_,by simp[K],by simpa using P,jy t.wb J R,fun i h hi=> ?_,fun i h hi=> ?_,by have:=hT.ct;have:=fE G;have:=lD e;omega⟩
 ·rcases O b c with c|c
  ·exact hT.om b c
  ·have:=m.size;have:=hT.st.size;exact .inr (by omega)
 ·by_cases c:i=k
  ·subst c
   rw[r,if_pos rfl,show(fs++ [a.heap.size]).getD i 0=a.heap.size by simp[List.getD,←K]];simp only[Pm.aT,←V];exact⟨rfl,rfl⟩
  ·rw[if_neg c,show(fs++ [a.heap.size]).getD i 0=fs.getD i 0 by simp[List.getD,List.getElem?_append_left (show i<fs.length by omega)]]
   obtain⟨h1,h2⟩:=hT.cl i h (by omega);exact⟨D _ _ _ h1,D _ _ _ h2⟩
 ·by_cases c:i=k
  ·subst c
   rw[r,if_pos rfl];exact N.sub s (aE.refl _)
  ·rw[if_neg c];exact(hT.nd i h (by omega)).sub D n.gs
theorem De(u:U):aR (ek u)≤cn u:=by
 unfold ek;split
 ·have:=dD u;omega
 ·simp[aR]
theorem d_.done{C:BC}{u:U}{p q:Pm}{g B:Ge}{mv l:Value}{ms m fs:List Nat}{w wr:World}{xs:Nat→Value}{ta:Option Addr}{tc:Nat}(hu:u.k=12∨u.k=13)
 (hT:d_ C (ek u) p g mv ms w (ek u).length q B l m fs xs (.slice ta (ek u).length tc) wr)(r:C.bb<w.heap.size):
 bn C u p g mv ms w (.returned (ae 177 wr.heap.size)) (wr.alloc (.cells #[.slice ta (ek u).length tc] 222)):=by
 have s:=hT.fl;obtain⟨F,N,c1,G,n,j,t,H,x,_,_⟩:=hT.bs.iO (e:=202) (v:= .slice ta (ek u).length tc) (xs:=fs.map pv) (by decide) (by simpa using hT.tr) hT.td r;injection G with y I z
 subst y;subst z;have J:∀o,F wr.heap.size o=none:=fun o=>j.wb.kw.aI (Nat.le_refl _) o;have d:=Pm.cO (cs:=#[.slice ta (ek u).length tc]) J;have A:=n.le.trans d;have D:(bq u).length=(ek u).length:=by rw[uD u hu,List.length_map]
 have E:∀i(h:i<(bq u).length)(K:i<(ek u).length),(bq u)[i]=((ek u)[i].k==13,aD (ek u)[i]):=fun i h K=>by simp[uD u hu]
 refine⟨_,_,B,l,m,rfl,.union (f:=fun i=>fs.getD i 0) (xs:=xs) (a:=ta) (c:=tc) hu (by rw[Pm.aT,D];rfl) (by rw[D];simpa [s]using x) (fun i hi=> ?_) (fun i hi=> ?_) (fun i hi=> ?_),j.box _ _,(hT.st.iN n).box j _ _,hT.om,fun _=>⟨_,rfl,hT.st.size⟩,by have h1:=hT.ct;rw[List.take_length]at h1;have:=De u;omega⟩
 ·obtain⟨b,o,L,M⟩:=t i (by simp;omega)
  refine⟨b,o,L,d _ _ _ ?_⟩;rw[M];simp[List.getD,List.getElem?_eq_getElem (show i<fs.length by omega),pv]
 ·obtain⟨h1,h2⟩:=hT.cl i (by omega) (by omega)
  rw[E i hi (by omega)];exact⟨A _ _ _ h1,A _ _ _ h2⟩
 ·rw[E i hi (by omega)]
  exact(hT.nd i (by omega) (by omega)).sub A (aE.refl _)
def EL(C:BC)(l:List U)(a:Option Addr)(lo hi:Nat)(w:World):Prop:=
 ∀k e,l[k]?=some e→∃eb eo a' c',a=some ⟨eb,eo,none⟩∧(w.cell? ⟨eb,eo+k*7,none⟩=some (.int .i64 e.k)∧w.cell? ⟨eb,eo+k*7+1,none⟩=some (.int .i64 e.n)∧w.cell? ⟨eb,eo+k*7+2,none⟩=some (.int .i64 e.m)∧w.cell? ⟨eb,eo+k*7+3,none⟩=some (.bool e.v)∧w.cell? ⟨eb,eo+k*7+4,none⟩=some (.string e.nm)∧w.cell? ⟨eb,eo+k*7+5,none⟩=some (.string e.tg)∧w.cell? ⟨eb,eo+k*7+6,none⟩=some (.slice a' e.es.length c'))∧aj C.pa C.D e a' c'∧(eb<C.B0∨(lo≤eb∧eb<hi))
theorem EL.kept{C:BC}{l:List U}{c:Option Addr}{lo hi:Nat}{w d:World}(h:EL C l c lo hi w)(hk:∀b o v,(b<C.B0∨(lo≤b∧b<hi))→w.cell? ⟨b,o,none⟩=some v→d.cell? ⟨b,o,none⟩=some v):EL C l c lo hi d:=fun k e he=>by
 obtain⟨eb,eo,a',c',h1,⟨z0,f,z2,z3,z4,z5,g⟩,h3,a⟩:=h k e he;exact⟨eb,eo,a',c',h1,⟨hk _ _ _ a z0,hk _ _ _ a f,hk _ _ _ a z2,hk _ _ _ a z3,hk _ _ _ a z4,hk _ _ _ a z5,hk _ _ _ a g⟩,h3,a⟩
end TS
namespace TS
open Go Go.RowKit Go.Proofs.YtkfaiocajcjomaaGreatDoor
theorem bn.ahead{C:BC}{u:U}{p:Pm}{g:Ge}{mv:Value}{ms:List Nat}{w f i:World}{e:Ending}(a:Below w.heap.size w f)(h:bn C u p g mv ms f e i):bn C u p g mv ms w e i:=by
 obtain⟨x,q,j,c,d,h1,h2,h3,k,m,n,h7⟩:=h;exact⟨x,q,j,c,d,h1,h2,h3,aA.ahead a k,fun b e=>(m b e).imp id fun h=>Nat.le_trans a.size h,fun h=>let⟨b,e,l⟩:=n h;⟨b,e,Nat.le_trans a.size l⟩,h7⟩
end TS
namespace Go.Proofs.YtkfaiocajcjomaaGreatDoor
open Go.RowKit TS
theorem uE:(Tryz.prog.info? 202).map (fun i=>(i.zero,i.size,i.bytes))=some (some (.pointer none),1,8):=by kernel_rfl
theorem Df(C:BC)(u:U)(hk:u.k=12)(Qo:0<(u.es).length)(Qg:∀e∈u.es,e.k=13→∃e',e.es= [e'])(hI:∀e∈u.es,bI C (aD e))(p:Pm)(g:Ge)(mv:Value)(ms:List Nat)(a:Option Addr)(c:Nat)(w:World)(hB:BS C p g mv ms w)(QH:ms.length+cn u≤1099511627776)(hu:aj C.pa C.D u a c):
 Calls Tryz.prog 84 #[.pointer (some ⟨C.bb,0,none⟩),.agg #[.int .i64 u.k,.int .i64 u.n,.int .i64 u.m,.bool u.v,.string u.nm,.string u.tg,.slice a u.es.length c]] w (bn C u p g mv ms w):=by
 have Qp:=hu.cap;have QE:=(hB.ib (b:=C.bb) (.inl rfl)).2.1;have Q:Below w.heap.size w (w.alloc (.cells #[.int .i64 u.k,.int .i64 u.n,.int .i64 u.m,.bool u.v,.string u.nm,.string u.tg,.slice a u.es.length c] 25)):=(Below.refl _ _).alloc (Nat.le_refl _) _;have Qq:=Lib.hid (hB.below Q);have Qh:Hid (EL C (u.es) a w.heap.size (w.alloc (.cells #[.int .i64 u.k,.int .i64 u.n,.int .i64 u.m,.bool u.v,.string u.nm,.string u.tg,.slice a u.es.length c] 25)).heap.size (w.alloc (.cells #[.int .i64 u.k,.int .i64 u.n,.int .i64 u.m,.bool u.v,.string u.nm,.string u.tg,.slice a u.es.length c] 25))):=fun k e he=>by
  obtain⟨hk,rfl⟩:=List.getElem?_eq_some_iff.1 he;obtain⟨eb,eo,rfl⟩:=hu.list.bC (by omega);obtain⟨a',c',h7,N⟩:=hu.list.get k hk;exact⟨eb,eo,a',c',rfl,h7.world (hB.below Q).ka,N,.inl (hB.la _ _ _ h7.1)⟩
 have F:=Lib.hid hB;have QI:(u.es).length≤1048576:=by omega
 have Qz:Hid (u.k=12∨u.k=13):=by exact .inl hk
 have Qr:Hid (ek u=u.es):=by exact if_pos hk
 have Qc:=Lib.hid Qg;have Qi:=Lib.hid hI;have QJ:(u.k==13)=false:=by simp[hk]
 obtain⟨i0,Qs,Qd,Qe,Qf⟩:=info_parts uE;obtain⟨y,hW⟩:∃y,Hid (y=(w.alloc (.cells #[.int .i64 u.k,.int .i64 u.n,.int .i64 u.m,.bool u.v,.string u.nm,.string u.tg,.slice a u.es.length c] 25))):=⟨_,rfl⟩
 have QK:y.heap.size≤w.heap.size+1∧w.heap.size+1≤y.heap.size:=by rw[hW.out];simp
 rw[←hW.out]at Qq Q Qh;have R:C.bb<y.heap.size:=by omega
 have Qt:=Lib.hid Q;obtain⟨l,hl⟩:∃l,Hid (u.es=l):=⟨_,rfl⟩
 have Qu:=Lib.hid (Qr.out.trans hl.out);have Qv:=Lib.hid (hl.out▸Qo);have Qc:=Lib.hid (hl.out▸Qg);have Qi:=Lib.hid (hl.out▸hI);have S:Hid (ms.length+aR l≤1099511627776):=by show _≤_;rw[←hl.out];have:=dD u;omega
 rw[hl.out]at Qh;clear hu hB Q Qp hk Qg hI Qr Qo;generalize hn:u.es.length=n at*;have Qw:=Lib.hid (show l.length=n by rw[←hl.out];exact hn);clear hn;go_enter Tryz.func84,Tryz.ntmps84;go_wp2_with fail
 go_loopw [18,6] (fun vk vt wr=> ∃(k:Nat)(q:Pm)(g':Ge)(P_:Value)(Qa fs:List Nat)(xs:Nat→Value),k≤n∧vk= .int .i64 k∧d_ C l p g mv ms y k q g' P_ Qa fs xs vt wr∧EL C l a w.heap.size y.heap.size wr) (fun vk _ _=>n- (intOf vk).toNat)
 case atStart=>
  obtain rfl:=hW.out;exact⟨0,p,g,mv,ms,[],fun _=>undef,Nat.zero_le _,rfl,⟨Qq.out,aA.refl _ _ _ _ _ _,fun b e=> .inl e,rfl,by simpa using World.ownsRow_nil _ _ _ _,fun b e=>(by cases e),fun i _ hi=>absurd hi (Nat.not_lt_zero _),fun i _ hi=>absurd hi (Nat.not_lt_zero _),Nat.le_add_right _ _⟩,Qh.out⟩
 case round=>
  obtain⟨k,q,g',P_,Qa,fs,xs,QL,rfl,hT,hE⟩:=hrel;have d:=Lib.hid hT;have Qj:=Lib.hid hE;obtain⟨ta,tc,rfl⟩:=bd hT.tr;clear hT hE;by_cases QM:k<n
  ·have QF:(k:Int)<n:=by omega
   obtain⟨e,A⟩:∃e,l[k]?=some e:=⟨_,List.getElem?_eq_getElem (by have:=Qw.out;omega)⟩
   obtain⟨eb,eo,a',c',QA,⟨z0,z1,z2,z3,z4,z5,z6⟩,N,_⟩:=Qj.out k e A;have Qx:=World.block_lt_of_cell? _ _ z0;simp only at Qx;have O:Below wr.heap.size wr (wr.alloc (.cells #[.int .i64 e.k,.int .i64 e.n,.int .i64 e.m,.bool e.v,.string e.nm,.string e.tg,.slice a' e.es.length c'] 25)):=(Below.refl _ _).alloc (Nat.le_refl _) _;subst QA;rcases hd:(e.k==13)with _|_
   ·have B:Hid (aD e=e):=if_neg (by simpa using hd)
    have P:=Lib.hid (Qi.out e (List.mem_of_getElem? A) q g' P_ Qa a' c' _ (d.out.bs.below O) (by have:=d.out.ct;have:=fE A;have:=iL l (k+1);have:=lD e;have:=S.out;omega) (B.out.symm▸N));rw[B.out]at P;have T:=Lib.hid A;have f:=Lib.hid O;have Qk:=Lib.hid hd;clear A O N;go_wp2_with fail
    refine P.out.mono ?_;rintro e1 r ⟨x,q1,g1,V,W,rfl,J,X,z,Y,_,Ql⟩;obtain⟨Z,xb,rfl⟩:=J.val;have QB:=z.size;have aa:=d.out.st.size;have QC:y.heap.size≤r.heap.size:=by have:=f.out.size;omega
    have G:=Lib.hid ((((aA.row (d.out.bs.below f.out) z (by decide) (bD d.out.tr f.out) R d.out.td).1).alloc (.cells #[.bool false,ae Z xb] 223)).alloc (.cells #[.pointer (some ⟨r.heap.size,0,none⟩)] 202));have H:=Lib.hid (show ∀j u,[Value.pointer (some ⟨r.heap.size,0,none⟩)][j]?=some u→((r.alloc (.cells #[.bool false,ae Z xb] 223)).alloc (.cells #[.pointer (some ⟨r.heap.size,0,none⟩)] 202)).cell? ((⟨r.heap.size+1,0,none⟩:Addr).add j)=some u from fun j u h=>by
     have h1:=TS.dP (r.alloc (.cells #[.bool false,ae Z xb] 223)) (.pointer (some ⟨r.heap.size,0,none⟩)) 202 j u h;rwa [show(r.alloc (.cells #[.bool false,ae Z xb] 223)).heap.size=r.heap.size+1 by simp]at h1)
    have Qm:Hid (EL C l (some ⟨eb,eo,none⟩) w.heap.size y.heap.size r):=Qj.out.kept fun b o v hb h=>by
     have h2:=ak f.out h;rw[z.kept.cell (World.block_lt_of_cell? _ _ h2) fun e=> ?_]
     ·exact h2
     ·have QD:=F.out.bl
      rcases e with e|e
      ·have e':b=C.bb:=e
       omega
      ·rcases d.out.om _ e with I|I
       ·have e3:C.B0≤b∧b<w.heap.size:=⟨(F.out.ib (b:=b) (.inr I)).1,(F.out.ib (b:=b) (.inr I)).2.1⟩
        omega
       ·have e3:y.heap.size≤b:=I
        omega
    have K:=Lib.hid (show fs.length=k from d.out.fl);have P3:∀b,(Value.slice ta fs.length tc).ownBlock=some b→y.heap.size≤b:=fun b e=>(d.out.tr.lt _ e).1;have P4:=Lib.hid P3;have P5:=Lib.hid X;have P6:=Lib.hid z;have P7:=Lib.hid J;have P8:=Lib.hid Y;clear X z J Y P P3;go_wp2_with fail
    refine(mF _ _ _ _).mono ?_;rintro I w2 ⟨rfl,rfl⟩;go_wp2_with (first|(at_builtin;refine wpList_append_own_at _ rfl _ _ 201 rfl y.heap.size 202 i0 (.pointer none) 1 8 Tryz.underlying201 Qs Qd Qe Qf rfl (by decide) (.slice ta fs.length tc) fs.length (fs.map pv) rfl G.out ⟨r.heap.size+1,0,none⟩ 1 1 [.pointer (some ⟨r.heap.size,0,none⟩)] rfl rfl H.out (TS.one_one rfl) ?c3 ?c4 ?c5 ?_)|fail)
    case c3=>have:=K.out;unfold maxLen;omega
    case c4=>have:=K.out;omega
    case c5=>(try simp);omega
    intro v' w3 t L _ P9;obtain⟨a3,c3,rfl⟩:=bd t;have Qn:Hid (EL C l (some ⟨eb,eo,none⟩) w.heap.size y.heap.size w3):=Qm.out.kept fun b o v hb h=>by
     have h2:=ak (((Below.refl _ _).alloc (Nat.le_refl _) (.cells #[.bool false,ae Z xb] 223)).alloc (by simp) (.cells #[.pointer (some ⟨r.heap.size,0,none⟩)] 202)) h;rw[((Kept.refl (fun b=>(Value.slice ta fs.length tc).ownBlock=some b) _).grown L fun k hk _=>hk).cell (World.block_lt_of_cell? _ _ h2) fun e=> ?_]
     ·exact h2
     ·have h3:y.heap.size≤b:=P4.out b e
      have h4:=F.out.bl;omega
    have s:Hid (∃(q2:Pm)(E:List Nat)(M:Nat→Value),E.length=k+1∧d_ C l p g mv ms y (k+1) q2 g1 V W E M (.slice a3 (fs.length+1) c3) w3):=
     ⟨_,_,_,by simp[K.out],d_.step (e:=e) (bs:=#[.pointer (some ⟨r.heap.size,0,none⟩)]) (Tb:=202) d.out R T.out f.out (B.out.symm▸P7.out) P5.out P6.out P8.out (B.out.symm▸Ql) t (by rw[Qk.out];exact L) (P9.imp id fun h=>h.trans (by simp))⟩
    clear t L P9 G H;go_wp2_with fail
    obtain⟨q2,E,M,_,s⟩:=s.out;exact⟨⟨k+1,q2,g1,V,W,E,M,by omega,by go_num,s,Qn.out⟩,by first|omega|(simp[intOf];omega)⟩
   ·obtain⟨I,Qb⟩:=Qc.out _ (List.mem_of_getElem? A) (by simpa using hd)
    obtain⟨QN,QO,a2,c2,rfl,hle,Qy,⟨y0,y1,y2,y3,y4,y5,y6⟩,QG⟩:=jw N d.out.bs.ka Qb;have B:Hid (aD e=I):=by rw[aD,if_pos (by simpa using hd),Qb];rfl
    have P:=Lib.hid (B.out▸Qi.out e (List.mem_of_getElem? A) q g' P_ Qa a2 c2 _ (d.out.bs.below O) (by have:=d.out.ct;have:=fE A;have:=iL l (k+1);have:=lD e;have:=S.out;omega) (B.out.symm▸Qy));have QP:=Lib.hid Qb;clear Qb;have T:=Lib.hid A;have f:=Lib.hid O;have Qk:=Lib.hid hd;clear A O N;go_wp2_with fail
    refine P.out.mono ?_;rintro e1 r ⟨x,q1,g1,V,W,rfl,J,X,z,Y,_,Ql⟩;obtain⟨Z,xb,rfl⟩:=J.val;have QB:=z.size;have aa:=d.out.st.size;have QC:y.heap.size≤r.heap.size:=by have:=f.out.size;omega
    have G:=Lib.hid ((((aA.row (d.out.bs.below f.out) z (by decide) (bD d.out.tr f.out) R d.out.td).1).alloc (.cells #[.bool true,ae Z xb] 223)).alloc (.cells #[.pointer (some ⟨r.heap.size,0,none⟩)] 202));have H:=Lib.hid (show ∀j u,[Value.pointer (some ⟨r.heap.size,0,none⟩)][j]?=some u→((r.alloc (.cells #[.bool true,ae Z xb] 223)).alloc (.cells #[.pointer (some ⟨r.heap.size,0,none⟩)] 202)).cell? ((⟨r.heap.size+1,0,none⟩:Addr).add j)=some u from fun j u h=>by
     have h1:=TS.dP (r.alloc (.cells #[.bool true,ae Z xb] 223)) (.pointer (some ⟨r.heap.size,0,none⟩)) 202 j u h;rwa [show(r.alloc (.cells #[.bool true,ae Z xb] 223)).heap.size=r.heap.size+1 by simp]at h1)
    have Qm:Hid (EL C l (some ⟨eb,eo,none⟩) w.heap.size y.heap.size r):=Qj.out.kept fun b o v hb h=>by
     have h2:=ak f.out h;rw[z.kept.cell (World.block_lt_of_cell? _ _ h2) fun e=> ?_]
     ·exact h2
     ·have QD:=F.out.bl
      rcases e with e|e
      ·have e':b=C.bb:=e
       omega
      ·rcases d.out.om _ e with I|I
       ·have e3:C.B0≤b∧b<w.heap.size:=⟨(F.out.ib (b:=b) (.inr I)).1,(F.out.ib (b:=b) (.inr I)).2.1⟩
        omega
       ·have e3:y.heap.size≤b:=I
        omega
    have K:=Lib.hid (show fs.length=k from d.out.fl);have P3:∀b,(Value.slice ta fs.length tc).ownBlock=some b→y.heap.size≤b:=fun b e=>(d.out.tr.lt _ e).1;have P4:=Lib.hid P3;have P5:=Lib.hid X;have P6:=Lib.hid z;have P7:=Lib.hid J;have P8:=Lib.hid Y;clear X z J Y P P3;go_wp2_with fail
    refine(mF _ _ _ _).mono ?_;rintro I w2 ⟨rfl,rfl⟩;go_wp2_with (first|(at_builtin;refine wpList_append_own_at _ rfl _ _ 201 rfl y.heap.size 202 i0 (.pointer none) 1 8 Tryz.underlying201 Qs Qd Qe Qf rfl (by decide) (.slice ta fs.length tc) fs.length (fs.map pv) rfl G.out ⟨r.heap.size+1,0,none⟩ 1 1 [.pointer (some ⟨r.heap.size,0,none⟩)] rfl rfl H.out (TS.one_one rfl) ?c3 ?c4 ?c5 ?_)|fail)
    case c3=>have:=K.out;unfold maxLen;omega
    case c4=>have:=K.out;omega
    case c5=>(try simp);omega
    intro v' w3 t L _ P9;obtain⟨a3,c3,rfl⟩:=bd t;have Qn:Hid (EL C l (some ⟨eb,eo,none⟩) w.heap.size y.heap.size w3):=Qm.out.kept fun b o v hb h=>by
     have h2:=ak (((Below.refl _ _).alloc (Nat.le_refl _) (.cells #[.bool true,ae Z xb] 223)).alloc (by simp) (.cells #[.pointer (some ⟨r.heap.size,0,none⟩)] 202)) h;rw[((Kept.refl (fun b=>(Value.slice ta fs.length tc).ownBlock=some b) _).grown L fun k hk _=>hk).cell (World.block_lt_of_cell? _ _ h2) fun e=> ?_]
     ·exact h2
     ·have h3:y.heap.size≤b:=P4.out b e
      have h4:=F.out.bl;omega
    have s:Hid (∃(q2:Pm)(E:List Nat)(M:Nat→Value),E.length=k+1∧d_ C l p g mv ms y (k+1) q2 g1 V W E M (.slice a3 (fs.length+1) c3) w3):=
     ⟨_,_,_,by simp[K.out],d_.step (e:=e) (bs:=#[.pointer (some ⟨r.heap.size,0,none⟩)]) (Tb:=202) d.out R T.out f.out (B.out.symm▸P7.out) P5.out P6.out P8.out (B.out.symm▸Ql) t (by rw[Qk.out];exact L) (P9.imp id fun h=>h.trans (by simp))⟩
    clear t L P9 G H;go_wp2_with fail
    obtain⟨q2,E,M,_,s⟩:=s.out;exact⟨⟨k+1,q2,g1,V,W,E,M,by omega,by go_num,s,Qn.out⟩,by first|omega|(simp[intOf];omega)⟩
  ·have QQ:¬(k:Int)<n:=by omega
   have s:Hid (0<fs.length∧bn C u p g mv ms w (.returned (.iface 177 (.pointer (some ⟨wr.heap.size,0,none⟩)))) (wr.alloc (.cells #[.slice ta fs.length tc] 222))):=by
    have e1:=Qu.out;have I:l.length=k:=by have:=Qw.out;omega
    have e3:=d.out.fl;have h1:=d.out;have h2:=Qv.out;refine⟨by omega,?_⟩;rw[e3]at h1⊢;have h:=d_.done (u:=u) (ta:=ta) (tc:=tc) Qz.out (by rw[e1,I];exact h1) R;rw[e1,I]at h;exact bn.ahead Qt.out h
   go_wp2_with fail
   refine(r7 ta fs.length tc s.out.1 _).mono ?_;rintro e1 r ⟨rfl,rfl⟩;go_wp2_with fail
   go_ret;exact s.out.2
theorem Dg(C:BC)(u:U)(hk:u.k=13)(Qr:0<([u]).length)(Qh:∀e∈ [u],e.k=13→∃e',e.es= [e'])(hI:∀e∈ [u],bI C (aD e))(p:Pm)(g:Ge)(mv:Value)(ms:List Nat)(a:Option Addr)(c:Nat)(w:World)(hB:BS C p g mv ms w)(QJ:ms.length+cn u≤1099511627776)(hu:aj C.pa C.D u a c):
 Calls Tryz.prog 84 #[.pointer (some ⟨C.bb,0,none⟩),.agg #[.int .i64 u.k,.int .i64 u.n,.int .i64 u.m,.bool u.v,.string u.nm,.string u.tg,.slice a u.es.length c]] w (bn C u p g mv ms w):=by
 have Qs:=hu.cap;have QG:=(hB.ib (b:=C.bb) (.inl rfl)).2.1;have P9:Below w.heap.size w ((w.alloc (.cells #[.int .i64 u.k,.int .i64 u.n,.int .i64 u.m,.bool u.v,.string u.nm,.string u.tg,.slice a u.es.length c] 25)).alloc (.cells #[.int .i64 u.k,.int .i64 u.n,.int .i64 u.m,.bool u.v,.string u.nm,.string u.tg,.slice a u.es.length c] 25)):=((Below.refl _ _).alloc (Nat.le_refl _) _).alloc (by simp) _;have Qt:=Lib.hid (hB.below P9);have Qi:Hid (EL C ([u]) (some ⟨w.heap.size+1,0,none⟩) w.heap.size ((w.alloc (.cells #[.int .i64 u.k,.int .i64 u.n,.int .i64 u.m,.bool u.v,.string u.nm,.string u.tg,.slice a u.es.length c] 25)).alloc (.cells #[.int .i64 u.k,.int .i64 u.n,.int .i64 u.m,.bool u.v,.string u.nm,.string u.tg,.slice a u.es.length c] 25)).heap.size ((w.alloc (.cells #[.int .i64 u.k,.int .i64 u.n,.int .i64 u.m,.bool u.v,.string u.nm,.string u.tg,.slice a u.es.length c] 25)).alloc (.cells #[.int .i64 u.k,.int .i64 u.n,.int .i64 u.m,.bool u.v,.string u.nm,.string u.tg,.slice a u.es.length c] 25))):=fun k e he=>by
  obtain⟨rfl,rfl⟩:k=0∧u=e:=by
   cases k with
   |zero=>simpa using he
   |succ k=>simp at he
  have hh:((w.alloc (.cells #[.int .i64 u.k,.int .i64 u.n,.int .i64 u.m,.bool u.v,.string u.nm,.string u.tg,.slice a u.es.length c] 25)).alloc (.cells #[.int .i64 u.k,.int .i64 u.n,.int .i64 u.m,.bool u.v,.string u.nm,.string u.tg,.slice a u.es.length c] 25)).heap[w.heap.size+1]?=some (.cells #[.int .i64 u.k,.int .i64 u.n,.int .i64 u.m,.bool u.v,.string u.nm,.string u.tg,.slice a u.es.length c] 25):=b8 (by simp);exact⟨_,0,a,c,rfl,by(repeat' apply And.intro)<;>(simp only[World.cell?,hh];rfl),hu,.inr ⟨by omega,by simp⟩⟩
 have F:=Lib.hid hB;have QK:([u]).length≤1048576:=by simp
 have QC:Hid (u.k=12∨u.k=13):=by exact .inr hk
 have Qu:Hid (ek u= [u]):=by exact if_neg (by omega)
 have Qd:=Lib.hid Qh;have Qj:=Lib.hid hI;have QL:(u.k==13)=true:=by simp[hk]
 obtain⟨i0,Qv,Qe,Qf,Qg⟩:=info_parts uE;obtain⟨y,hW⟩:∃y,Hid (y=((w.alloc (.cells #[.int .i64 u.k,.int .i64 u.n,.int .i64 u.m,.bool u.v,.string u.nm,.string u.tg,.slice a u.es.length c] 25)).alloc (.cells #[.int .i64 u.k,.int .i64 u.n,.int .i64 u.m,.bool u.v,.string u.nm,.string u.tg,.slice a u.es.length c] 25))):=⟨_,rfl⟩
 have QM:y.heap.size≤w.heap.size+2∧w.heap.size+2≤y.heap.size:=by rw[hW.out];simp
 rw[←hW.out]at Qt P9 Qi;have P:C.bb<y.heap.size:=by omega
 have Qw:=Lib.hid P9;obtain⟨l,hl⟩:∃l,Hid ([u]=l):=⟨_,rfl⟩
 have Qx:=Lib.hid (Qu.out.trans hl.out);have Qy:=Lib.hid (hl.out▸Qr);have Qd:=Lib.hid (hl.out▸Qh);have Qj:=Lib.hid (hl.out▸hI);have Q:Hid (ms.length+aR l≤1099511627776):=by show _≤_;rw[←hl.out];simp[aR];omega
 rw[hl.out]at Qi;clear hu hB P9 Qs hk Qh hI Qu Qr;have Qz:Hid (l.length=1):=by rw[←hl.out];rfl
 go_enter Tryz.func84,Tryz.ntmps84;go_wp2_with fail
 go_loopw [18,6] (fun vk vt wr=> ∃(k:Nat)(q:Pm)(g':Ge)(P_:Value)(Qa fs:List Nat)(xs:Nat→Value),k≤1∧vk= .int .i64 k∧d_ C l p g mv ms y k q g' P_ Qa fs xs vt wr∧EL C l (some ⟨w.heap.size+1,0,none⟩) w.heap.size y.heap.size wr) (fun vk _ _=>1- (intOf vk).toNat)
 case atStart=>
  obtain rfl:=hW.out;exact⟨0,p,g,mv,ms,[],fun _=>undef,Nat.zero_le _,rfl,⟨Qt.out,aA.refl _ _ _ _ _ _,fun b e=> .inl e,rfl,by simpa using World.ownsRow_nil _ _ _ _,fun b e=>(by cases e),fun i _ hi=>absurd hi (Nat.not_lt_zero _),fun i _ hi=>absurd hi (Nat.not_lt_zero _),Nat.le_add_right _ _⟩,Qi.out⟩
 case round=>
  obtain⟨k,q,g',P_,Qa,fs,xs,QN,rfl,hT,hE⟩:=hrel;have d:=Lib.hid hT;have Qk:=Lib.hid hE;obtain⟨ta,tc,rfl⟩:=bd hT.tr;clear hT hE;by_cases QO:k<1
  ·have QH:(k:Int)<1:=by omega
   obtain⟨e,A⟩:∃e,l[k]?=some e:=⟨_,List.getElem?_eq_getElem (by have:=Qz.out;omega)⟩
   obtain⟨eb,eo,a',c',Ql,⟨z0,z1,z2,z3,z4,z5,z6⟩,Qb,_⟩:=Qk.out k e A;have QA:=World.block_lt_of_cell? _ _ z0;simp only at QA;have N:Below wr.heap.size wr (wr.alloc (.cells #[.int .i64 e.k,.int .i64 e.n,.int .i64 e.m,.bool e.v,.string e.nm,.string e.tg,.slice a' e.es.length c'] 25)):=(Below.refl _ _).alloc (Nat.le_refl _) _;injection Ql with Ql;injection Ql with Qm QD;subst Qm;subst QD;simp only[Nat.zero_add]at z0 z1 z2 z3 z4 z5 z6
   rcases hd:(e.k==13)with _|_
   ·have B:Hid (aD e=e):=if_neg (by simpa using hd)
    have O:=Lib.hid (Qj.out e (List.mem_of_getElem? A) q g' P_ Qa a' c' _ (d.out.bs.below N) (by have:=d.out.ct;have:=fE A;have:=iL l (k+1);have:=lD e;have:=Q.out;omega) (B.out.symm▸Qb));rw[B.out]at O;have R:=Lib.hid A;have f:=Lib.hid N;have Qn:=Lib.hid hd;clear A N Qb;go_wp2_with fail
    refine O.out.mono ?_;rintro e1 r ⟨x,q1,g1,S,T,rfl,J,V,z,W,_,Qo⟩;obtain⟨X,Y,rfl⟩:=J.val;have Qm:=z.size;have aa:=d.out.st.size;have QE:y.heap.size≤r.heap.size:=by have:=f.out.size;omega
    have G:=Lib.hid ((((aA.row (d.out.bs.below f.out) z (by decide) (bD d.out.tr f.out) P d.out.td).1).alloc (.cells #[.bool false,ae X Y] 223)).alloc (.cells #[.pointer (some ⟨r.heap.size,0,none⟩)] 202));have H:=Lib.hid (show ∀j u,[Value.pointer (some ⟨r.heap.size,0,none⟩)][j]?=some u→((r.alloc (.cells #[.bool false,ae X Y] 223)).alloc (.cells #[.pointer (some ⟨r.heap.size,0,none⟩)] 202)).cell? ((⟨r.heap.size+1,0,none⟩:Addr).add j)=some u from fun j u h=>by
     have h1:=TS.dP (r.alloc (.cells #[.bool false,ae X Y] 223)) (.pointer (some ⟨r.heap.size,0,none⟩)) 202 j u h;rwa [show(r.alloc (.cells #[.bool false,ae X Y] 223)).heap.size=r.heap.size+1 by simp]at h1)
    have Qp:Hid (EL C l (some ⟨w.heap.size+1,0,none⟩) w.heap.size y.heap.size r):=Qk.out.kept fun b o v hb h=>by
     have h2:=ak f.out h;rw[z.kept.cell (World.block_lt_of_cell? _ _ h2) fun e=> ?_]
     ·exact h2
     ·have QF:=F.out.bl
      rcases e with e|e
      ·have e':b=C.bb:=e
       omega
      ·rcases d.out.om _ e with I|I
       ·have e3:C.B0≤b∧b<w.heap.size:=⟨(F.out.ib (b:=b) (.inr I)).1,(F.out.ib (b:=b) (.inr I)).2.1⟩
        omega
       ·have e3:y.heap.size≤b:=I
        omega
    have K:=Lib.hid (show fs.length=k from d.out.fl);have Z:∀b,(Value.slice ta fs.length tc).ownBlock=some b→y.heap.size≤b:=fun b e=>(d.out.tr.lt _ e).1;have P3:=Lib.hid Z;have P4:=Lib.hid V;have P5:=Lib.hid z;have P6:=Lib.hid J;have P7:=Lib.hid W;clear V z J W O Z;go_wp2_with fail
    refine(mF _ _ _ _).mono ?_;rintro I w2 ⟨rfl,rfl⟩;go_wp2_with (first|(at_builtin;refine wpList_append_own_at _ rfl _ _ 201 rfl y.heap.size 202 i0 (.pointer none) 1 8 Tryz.underlying201 Qv Qe Qf Qg rfl (by decide) (.slice ta fs.length tc) fs.length (fs.map pv) rfl G.out ⟨r.heap.size+1,0,none⟩ 1 1 [.pointer (some ⟨r.heap.size,0,none⟩)] rfl rfl H.out (TS.one_one rfl) ?c3 ?c4 ?c5 ?_)|fail)
    case c3=>have:=K.out;unfold maxLen;omega
    case c4=>have:=K.out;omega
    case c5=>(try simp);omega
    intro v' w3 t L _ P8;obtain⟨a3,c3,rfl⟩:=bd t;have Qq:Hid (EL C l (some ⟨w.heap.size+1,0,none⟩) w.heap.size y.heap.size w3):=Qp.out.kept fun b o v hb h=>by
     have h2:=ak (((Below.refl _ _).alloc (Nat.le_refl _) (.cells #[.bool false,ae X Y] 223)).alloc (by simp) (.cells #[.pointer (some ⟨r.heap.size,0,none⟩)] 202)) h;rw[((Kept.refl (fun b=>(Value.slice ta fs.length tc).ownBlock=some b) _).grown L fun k hk _=>hk).cell (World.block_lt_of_cell? _ _ h2) fun e=> ?_]
     ·exact h2
     ·have h3:y.heap.size≤b:=P3.out b e
      have h4:=F.out.bl;omega
    have s:Hid (∃(q2:Pm)(E:List Nat)(M:Nat→Value),E.length=k+1∧d_ C l p g mv ms y (k+1) q2 g1 S T E M (.slice a3 (fs.length+1) c3) w3):=
     ⟨_,_,_,by simp[K.out],d_.step (e:=e) (bs:=#[.pointer (some ⟨r.heap.size,0,none⟩)]) (Tb:=202) d.out P R.out f.out (B.out.symm▸P6.out) P4.out P5.out P7.out (B.out.symm▸Qo) t (by rw[Qn.out];exact L) (P8.imp id fun h=>h.trans (by simp))⟩
    clear t L P8 G H;go_wp2_with fail
    obtain⟨q2,E,M,_,s⟩:=s.out;exact⟨⟨k+1,q2,g1,S,T,E,M,by omega,by go_num,s,Qq.out⟩,by first|omega|(simp[intOf];omega)⟩
   ·obtain⟨I,Qc⟩:=Qd.out _ (List.mem_of_getElem? A) (by simpa using hd)
    obtain⟨QP,QQ,a2,c2,rfl,hle,QB,⟨y0,y1,y2,y3,y4,y5,y6⟩,QI⟩:=jw Qb d.out.bs.ka Qc;have B:Hid (aD e=I):=by rw[aD,if_pos (by simpa using hd),Qc];rfl
    have O:=Lib.hid (B.out▸Qj.out e (List.mem_of_getElem? A) q g' P_ Qa a2 c2 _ (d.out.bs.below N) (by have:=d.out.ct;have:=fE A;have:=iL l (k+1);have:=lD e;have:=Q.out;omega) (B.out.symm▸QB));have QR:=Lib.hid Qc;clear Qc;have R:=Lib.hid A;have f:=Lib.hid N;have Qn:=Lib.hid hd;clear A N Qb;go_wp2_with fail
    refine O.out.mono ?_;rintro e1 r ⟨x,q1,g1,S,T,rfl,J,V,z,W,_,Qo⟩;obtain⟨X,Y,rfl⟩:=J.val;have Qm:=z.size;have aa:=d.out.st.size;have QE:y.heap.size≤r.heap.size:=by have:=f.out.size;omega
    have G:=Lib.hid ((((aA.row (d.out.bs.below f.out) z (by decide) (bD d.out.tr f.out) P d.out.td).1).alloc (.cells #[.bool true,ae X Y] 223)).alloc (.cells #[.pointer (some ⟨r.heap.size,0,none⟩)] 202));have H:=Lib.hid (show ∀j u,[Value.pointer (some ⟨r.heap.size,0,none⟩)][j]?=some u→((r.alloc (.cells #[.bool true,ae X Y] 223)).alloc (.cells #[.pointer (some ⟨r.heap.size,0,none⟩)] 202)).cell? ((⟨r.heap.size+1,0,none⟩:Addr).add j)=some u from fun j u h=>by
     have h1:=TS.dP (r.alloc (.cells #[.bool true,ae X Y] 223)) (.pointer (some ⟨r.heap.size,0,none⟩)) 202 j u h;rwa [show(r.alloc (.cells #[.bool true,ae X Y] 223)).heap.size=r.heap.size+1 by simp]at h1)
    have Qp:Hid (EL C l (some ⟨w.heap.size+1,0,none⟩) w.heap.size y.heap.size r):=Qk.out.kept fun b o v hb h=>by
     have h2:=ak f.out h;rw[z.kept.cell (World.block_lt_of_cell? _ _ h2) fun e=> ?_]
     ·exact h2
     ·have QF:=F.out.bl
      rcases e with e|e
      ·have e':b=C.bb:=e
       omega
      ·rcases d.out.om _ e with I|I
       ·have e3:C.B0≤b∧b<w.heap.size:=⟨(F.out.ib (b:=b) (.inr I)).1,(F.out.ib (b:=b) (.inr I)).2.1⟩
        omega
       ·have e3:y.heap.size≤b:=I
        omega
    have K:=Lib.hid (show fs.length=k from d.out.fl);have Z:∀b,(Value.slice ta fs.length tc).ownBlock=some b→y.heap.size≤b:=fun b e=>(d.out.tr.lt _ e).1;have P3:=Lib.hid Z;have P4:=Lib.hid V;have P5:=Lib.hid z;have P6:=Lib.hid J;have P7:=Lib.hid W;clear V z J W O Z;go_wp2_with fail
    refine(mF _ _ _ _).mono ?_;rintro I w2 ⟨rfl,rfl⟩;go_wp2_with (first|(at_builtin;refine wpList_append_own_at _ rfl _ _ 201 rfl y.heap.size 202 i0 (.pointer none) 1 8 Tryz.underlying201 Qv Qe Qf Qg rfl (by decide) (.slice ta fs.length tc) fs.length (fs.map pv) rfl G.out ⟨r.heap.size+1,0,none⟩ 1 1 [.pointer (some ⟨r.heap.size,0,none⟩)] rfl rfl H.out (TS.one_one rfl) ?c3 ?c4 ?c5 ?_)|fail)
    case c3=>have:=K.out;unfold maxLen;omega
    case c4=>have:=K.out;omega
    case c5=>(try simp);omega
    intro v' w3 t L _ P8;obtain⟨a3,c3,rfl⟩:=bd t;have Qq:Hid (EL C l (some ⟨w.heap.size+1,0,none⟩) w.heap.size y.heap.size w3):=Qp.out.kept fun b o v hb h=>by
     have h2:=ak (((Below.refl _ _).alloc (Nat.le_refl _) (.cells #[.bool true,ae X Y] 223)).alloc (by simp) (.cells #[.pointer (some ⟨r.heap.size,0,none⟩)] 202)) h;rw[((Kept.refl (fun b=>(Value.slice ta fs.length tc).ownBlock=some b) _).grown L fun k hk _=>hk).cell (World.block_lt_of_cell? _ _ h2) fun e=> ?_]
     ·exact h2
     ·have h3:y.heap.size≤b:=P3.out b e
      have h4:=F.out.bl;omega
    have s:Hid (∃(q2:Pm)(E:List Nat)(M:Nat→Value),E.length=k+1∧d_ C l p g mv ms y (k+1) q2 g1 S T E M (.slice a3 (fs.length+1) c3) w3):=
     ⟨_,_,_,by simp[K.out],d_.step (e:=e) (bs:=#[.pointer (some ⟨r.heap.size,0,none⟩)]) (Tb:=202) d.out P R.out f.out (B.out.symm▸P6.out) P4.out P5.out P7.out (B.out.symm▸Qo) t (by rw[Qn.out];exact L) (P8.imp id fun h=>h.trans (by simp))⟩
    clear t L P8 G H;go_wp2_with fail
    obtain⟨q2,E,M,_,s⟩:=s.out;exact⟨⟨k+1,q2,g1,S,T,E,M,by omega,by go_num,s,Qq.out⟩,by first|omega|(simp[intOf];omega)⟩
  ·have QS:¬(k:Int)<1:=by omega
   have s:Hid (0<fs.length∧bn C u p g mv ms w (.returned (.iface 177 (.pointer (some ⟨wr.heap.size,0,none⟩)))) (wr.alloc (.cells #[.slice ta fs.length tc] 222))):=by
    have e1:=Qx.out;have I:l.length=k:=by have:=Qz.out;omega
    have e3:=d.out.fl;have h1:=d.out;have h2:=Qy.out;refine⟨by omega,?_⟩;rw[e3]at h1⊢;have h:=d_.done (u:=u) (ta:=ta) (tc:=tc) QC.out (by rw[e1,I];exact h1) P;rw[e1,I]at h;exact bn.ahead Qw.out h
   go_wp2_with fail
   refine(r7 ta fs.length tc s.out.1 _).mono ?_;rintro e1 r ⟨rfl,rfl⟩;go_wp2_with fail
   go_ret;exact s.out.2
end Go.Proofs.YtkfaiocajcjomaaGreatDoor
