import Derived.Test.YtdkmnkjhhhmglaaGreatDoorYbj
set_option maxRecDepth 100000
set_option maxHeartbeats 8000000
set_option linter.all false
namespace TS
open Go Go.RowKit Go.Proofs.YtdkmnkjhhhmglaaGreatDoor
def eY(u:U):List U:=if u.k=12 then u.es else [u]
theorem xn(u:U)(h:u.k=12∨u.k=13):bj u=(eY u).map fun e=>(e.k==13,aC e):=by
 unfold bj eY;rcases h with h|h
 ·rw[if_pos h,if_pos h]
 ·rw[if_neg (by omega),if_neg (by omega)];simp[h]
structure eQ(C:BC)(l:List U)(p:Pm)(g:Ge)(mv:Value)(ms:List Nat)(w:World)(k:Nat)(q:Pm)(d:Ge)(c:Value)(a fs:List Nat)(xs:Nat→Value)(vt:Value)(wr:World):Prop where
 bs:BS C q d c a wr
 st:aD C p g mv ms w q d a wr
 om:∀b,c.ownBlock=some b→mv.ownBlock=some b∨w.heap.size≤b
 fl:fs.length=k
 tr:wr.ownsRow w.heap.size 232 1 vt fs.length (fs.map pv)
 td:∀b,vt.ownBlock=some b→∀o,q b o=none
 cl:∀i(h:i<l.length),i<k→q (fs.getD i 0) 0=some (.bool (l[i].k==13))∧q (fs.getD i 0) 1=some (xs i)
 nd:∀i(h:i<l.length),i<k→Node q d (aC l[i]) (xs i)
 ct:a.length≤ms.length+aK (l.take k)
theorem eQ.step{C:BC}{l:List U}{e:U}{p q E:Pm}{g Z g1:Ge}{mv v y:Value}{ms z f fs:List Nat}{w L wr a M:World}{k:Nat}{xs:Nat→Value}{vt j x:Value}
 (hT:eQ C l p g mv ms w k q Z v z fs xs vt wr)(F:C.bb<w.heap.size)(G:l[k]?=some e)(m:Below wr.heap.size wr L)
 (N:Node E g1 (aC e) x)(A:BS C E g1 y f a)(n:aD C q Z v z L E g1 f a)(O:∀b,y.ownBlock=some b→v.ownBlock=some b∨L.heap.size≤b)(PM:f.length≤z.length+cn (aC e))
 {bs:Array Value}{Tb:TypeId}(P:M.ownsRow w.heap.size 232 1 j (fs.length+1) (fs.map pv++ [pv a.heap.size]))
 (Q:((a.alloc (.cells #[.bool (e.k==13),x] 245)).alloc (.cells bs Tb)).grownBy M vt.ownBlock)
 (R:j.ownBlock=vt.ownBlock∨j.ownBlock=some ((a.alloc (.cells #[.bool (e.k==13),x] 245)).alloc (.cells bs Tb)).heap.size):
 eQ C l p g mv ms w (k+1) (E.add a.heap.size #[.bool (e.k==13),x]) g1 y f (fs++ [a.heap.size]) (fun i=>if i=k then x else xs i) j M:=by
 obtain⟨hk,r⟩:=List.getElem?_eq_some_iff.1 G;have B:=aD.row (hT.bs.below m) n (by decide) (bO hT.tr m) F hT.td;have S:=A.box #[.bool (e.k==13),x] 245;have T:=(hT.st.trans (aD.ahead m n) hT.om).box A #[.bool (e.k==13),x] 245;have hd:∀o,E a.heap.size o=none:=fun o=>A.wb.kw.aJ (Nat.le_refl _) o;have s:=Pm.dj (cs:=#[.bool (e.k==13),x]) hd;generalize V:#[Value.bool (e.k==13),x]=d at*;have H:Below a.heap.size a ((a.alloc (.cells d 245)).alloc (.cells bs Tb)):=((Below.refl _ _).alloc (Nat.le_refl _) _).alloc (by simp) _;have I:Below (a.alloc (.cells d 245)).heap.size (a.alloc (.cells d 245)) ((a.alloc (.cells d 245)).alloc (.cells bs Tb)):=(Below.refl _ _).alloc (Nat.le_refl _) _;have t:=S.below I;have J:∀b,vt.ownBlock=some b→∀o,E.add a.heap.size d b o=none:=fun b c o=>by
  rw[Pm.aO _ _ _ fun e2=>by have:=(B.1.lt b c).2;omega];exact B.2 b c o
 have u:=bO B.1 H;obtain⟨W,X⟩:=t.appended (by decide) u J F Q;have Y:=(T.below I).own X fun b c=>(u.lt b c).1;have K:=hT.fl;have D:=n.gr.le.trans s;refine⟨W,Y,fun b c=> ?_,by simp[K],by simpa using P,kM t.wb J R,fun i h hi=> ?_,fun i h hi=> ?_,by have:=hT.ct;have:=gi G;have:=nw e;omega⟩
 ·rcases O b c with c|c
  ·exact hT.om b c
  ·have:=m.size;have:=hT.st.size;exact .inr (by omega)
 ·by_cases c:i=k
  ·subst c
   rw[r,if_pos rfl,show(fs++ [a.heap.size]).getD i 0=a.heap.size by simp[List.getD,←K]];simp only[Pm.aX,←V];exact⟨rfl,rfl⟩
  ·rw[if_neg c,show(fs++ [a.heap.size]).getD i 0=fs.getD i 0 by simp[List.getD,List.getElem?_append_left (show i<fs.length by omega)]]
   obtain⟨h1,h2⟩:=hT.cl i h (by omega);exact⟨D _ _ _ h1,D _ _ _ h2⟩
 ·by_cases c:i=k
  ·subst c
   rw[r,if_pos rfl];exact N.sub s (aH.refl _)
  ·rw[if_neg c];exact(hT.nd i h (by omega)).sub D n.gs
theorem Fq(u:U):aK (eY u)≤cn u:=by
 unfold eY;split
 ·have:=cW u;omega
 ·simp[aK]
theorem eQ.done{C:BC}{u:U}{p q:Pm}{g B:Ge}{mv l:Value}{ms m fs:List Nat}{w wr:World}{xs:Nat→Value}{ta:Option Addr}{tc:Nat}(hu:u.k=12∨u.k=13)
 (hT:eQ C (eY u) p g mv ms w (eY u).length q B l m fs xs (.slice ta (eY u).length tc) wr)(r:C.bb<w.heap.size):
 bA C u p g mv ms w (.returned (ae 185 wr.heap.size)) (wr.alloc (.cells #[.slice ta (eY u).length tc] 244)):=by
 have s:=hT.fl;obtain⟨F,N,c1,G,n,j,t,H,x,_,_⟩:=hT.bs.jP (e:=232) (v:= .slice ta (eY u).length tc) (xs:=fs.map pv) (by decide) (by simpa using hT.tr) hT.td r;injection G with y I z
 subst y;subst z;have J:∀o,F wr.heap.size o=none:=fun o=>j.wb.kw.aJ (Nat.le_refl _) o;have d:=Pm.dj (cs:=#[.slice ta (eY u).length tc]) J;have A:=n.le.trans d;have D:(bj u).length=(eY u).length:=by rw[xn u hu,List.length_map]
 have E:∀i(h:i<(bj u).length)(K:i<(eY u).length),(bj u)[i]=((eY u)[i].k==13,aC (eY u)[i]):=fun i h K=>by simp[xn u hu]
 refine⟨_,_,B,l,m,rfl,.union (f:=fun i=>fs.getD i 0) (xs:=xs) (a:=ta) (c:=tc) hu (by rw[Pm.aX,D];rfl) (by rw[D];simpa [s]using x) (fun i hi=> ?_) (fun i hi=> ?_) (fun i hi=> ?_),j.box _ _,(hT.st.jO n).box j _ _,hT.om,fun _=>⟨_,rfl,hT.st.size⟩,by have h1:=hT.ct;rw[List.take_length]at h1;have:=Fq u;omega⟩
 ·obtain⟨b,o,L,M⟩:=t i (by simp;omega)
  refine⟨b,o,L,d _ _ _ ?_⟩;rw[M];simp[List.getD,List.getElem?_eq_getElem (show i<fs.length by omega),pv]
 ·obtain⟨h1,h2⟩:=hT.cl i (by omega) (by omega)
  rw[E i hi (by omega)];exact⟨A _ _ _ h1,A _ _ _ h2⟩
 ·rw[E i hi (by omega)]
  exact(hT.nd i (by omega) (by omega)).sub A (aH.refl _)
def EL(C:BC)(l:List U)(a:Option Addr)(lo hi:Nat)(w:World):Prop:=
 ∀k e,l[k]?=some e→∃eb eo a' c',a=some ⟨eb,eo,none⟩∧(w.cell? ⟨eb,eo+k*7,none⟩=some (.int .i64 e.k)∧w.cell? ⟨eb,eo+k*7+1,none⟩=some (.int .i64 e.n)∧w.cell? ⟨eb,eo+k*7+2,none⟩=some (.int .i64 e.m)∧w.cell? ⟨eb,eo+k*7+3,none⟩=some (.bool e.v)∧w.cell? ⟨eb,eo+k*7+4,none⟩=some (.string e.nm)∧w.cell? ⟨eb,eo+k*7+5,none⟩=some (.string e.tg)∧w.cell? ⟨eb,eo+k*7+6,none⟩=some (.slice a' e.es.length c'))∧ak C.pa C.D e a' c'∧(eb<C.B0∨(lo≤eb∧eb<hi))
theorem EL.kept{C:BC}{l:List U}{c:Option Addr}{lo hi:Nat}{w d:World}(h:EL C l c lo hi w)(hk:∀b o v,(b<C.B0∨(lo≤b∧b<hi))→w.cell? ⟨b,o,none⟩=some v→d.cell? ⟨b,o,none⟩=some v):EL C l c lo hi d:=fun k e he=>by
 obtain⟨eb,eo,a',c',h1,⟨z0,f,z2,z3,z4,z5,g⟩,h3,a⟩:=h k e he;exact⟨eb,eo,a',c',h1,⟨hk _ _ _ a z0,hk _ _ _ a f,hk _ _ _ a z2,hk _ _ _ a z3,hk _ _ _ a z4,hk _ _ _ a z5,hk _ _ _ a g⟩,h3,a⟩
end TS
namespace TS
open Go Go.RowKit Go.Proofs.YtdkmnkjhhhmglaaGreatDoor
theorem bA.ahead{C:BC}{u:U}{p:Pm}{g:Ge}{mv:Value}{ms:List Nat}{w f i:World}{e:Ending}(a:Below w.heap.size w f)(h:bA C u p g mv ms f e i):bA C u p g mv ms w e i:=by
 obtain⟨x,q,j,c,d,h1,h2,h3,k,m,n,h7⟩:=h;exact⟨x,q,j,c,d,h1,h2,h3,aD.ahead a k,fun b e=>(m b e).imp id fun h=>Nat.le_trans a.size h,fun h=>let⟨b,e,l⟩:=n h;⟨b,e,Nat.le_trans a.size l⟩,h7⟩
end TS
namespace Go.Proofs.YtdkmnkjhhhmglaaGreatDoor
open Go.RowKit TS
theorem xp:(Tryz.prog.info? 232).map (fun i=>(i.zero,i.size,i.bytes))=some (some (.pointer none),1,8):=by kernel_rfl
theorem Fs(C:BC)(u:U)(hk:u.k=12)(P9:0<(u.es).length)(P1:∀e∈u.es,e.k=13→∃e',e.es= [e'])(hI:∀e∈u.es,bZ C (aC e))(p:Pm)(g:Ge)(mv:Value)(ms:List Nat)(a:Option Addr)(c:Nat)(w:World)(hB:BS C p g mv ms w)(Qr:ms.length+cn u≤1099511627776)(hu:ak C.pa C.D u a c):
 Calls Tryz.prog 89 #[.pointer (some ⟨C.bb,0,none⟩),.agg #[.int .i64 u.k,.int .i64 u.n,.int .i64 u.m,.bool u.v,.string u.nm,.string u.tg,.slice a u.es.length c]] w (bA C u p g mv ms w):=by
 have P_:=hu.cap;have Qo:=(hB.ib (b:=C.bb) (.inl rfl)).2.1;have Q:Below w.heap.size w (w.alloc (.cells #[.int .i64 u.k,.int .i64 u.n,.int .i64 u.m,.bool u.v,.string u.nm,.string u.tg,.slice a u.es.length c] 25)):=(Below.refl _ _).alloc (Nat.le_refl _) _;have Qa:=Lib.hid (hB.below Q);have P2:Hid (EL C (u.es) a w.heap.size (w.alloc (.cells #[.int .i64 u.k,.int .i64 u.n,.int .i64 u.m,.bool u.v,.string u.nm,.string u.tg,.slice a u.es.length c] 25)).heap.size (w.alloc (.cells #[.int .i64 u.k,.int .i64 u.n,.int .i64 u.m,.bool u.v,.string u.nm,.string u.tg,.slice a u.es.length c] 25))):=fun k e he=>by
  obtain⟨hk,rfl⟩:=List.getElem?_eq_some_iff.1 he;obtain⟨eb,eo,rfl⟩:=hu.list.bN (by omega);obtain⟨a',c',h7,N⟩:=hu.list.get k hk;exact⟨eb,eo,a',c',rfl,h7.world (hB.below Q).ka,N,.inl (hB.la _ _ _ h7.1)⟩
 have F:=Lib.hid hB;have Qs:(u.es).length≤1048576:=by omega
 have Qj:Hid (u.k=12∨u.k=13):=by exact .inl hk
 have Qb:Hid (eY u=u.es):=by exact if_pos hk
 have PX:=Lib.hid P1;have P3:=Lib.hid hI;have Qt:(u.k==13)=false:=by simp[hk]
 obtain⟨i0,Qc,PY,PZ,P0⟩:=info_parts xp;obtain⟨y,hW⟩:∃y,Hid (y=(w.alloc (.cells #[.int .i64 u.k,.int .i64 u.n,.int .i64 u.m,.bool u.v,.string u.nm,.string u.tg,.slice a u.es.length c] 25))):=⟨_,rfl⟩
 have Qu:y.heap.size≤w.heap.size+1∧w.heap.size+1≤y.heap.size:=by rw[hW.out];simp
 rw[←hW.out]at Qa Q P2;have R:C.bb<y.heap.size:=by omega
 have Qd:=Lib.hid Q;obtain⟨l,hl⟩:∃l,Hid (u.es=l):=⟨_,rfl⟩
 have Qe:=Lib.hid (Qb.out.trans hl.out);have Qf:=Lib.hid (hl.out▸P9);have PX:=Lib.hid (hl.out▸P1);have P3:=Lib.hid (hl.out▸hI);have S:Hid (ms.length+aK l≤1099511627776):=by show _≤_;rw[←hl.out];have:=cW u;omega
 rw[hl.out]at P2;clear hu hB Q P_ hk P1 hI Qb P9;generalize hn:u.es.length=n at*;have Qg:=Lib.hid (show l.length=n by rw[←hl.out];exact hn);clear hn;go_enter Tryz.func89,Tryz.ntmps89;go_wp2_with fail
 go_loopw [18,6] (fun vk vt wr=> ∃(k:Nat)(q:Pm)(g':Ge)(PU:Value)(PV fs:List Nat)(xs:Nat→Value),k≤n∧vk= .int .i64 k∧eQ C l p g mv ms y k q g' PU PV fs xs vt wr∧EL C l a w.heap.size y.heap.size wr) (fun vk _ _=>n- (intOf vk).toNat)
 case atStart=>
  obtain rfl:=hW.out;exact⟨0,p,g,mv,ms,[],fun _=>undef,Nat.zero_le _,rfl,⟨Qa.out,aD.refl _ _ _ _ _ _,fun b e=> .inl e,rfl,by simpa using World.ownsRow_nil _ _ _ _,fun b e=>(by cases e),fun i _ hi=>absurd hi (Nat.not_lt_zero _),fun i _ hi=>absurd hi (Nat.not_lt_zero _),Nat.le_add_right _ _⟩,P2.out⟩
 case round=>
  obtain⟨k,q,g',PU,PV,fs,xs,Qv,rfl,hT,hE⟩:=hrel;have d:=Lib.hid hT;have P4:=Lib.hid hE;obtain⟨ta,tc,rfl⟩:=bn hT.tr;clear hT hE;by_cases Qw:k<n
  ·have Qp:(k:Int)<n:=by omega
   obtain⟨e,A⟩:∃e,l[k]?=some e:=⟨_,List.getElem?_eq_getElem (by have:=Qg.out;omega)⟩
   obtain⟨eb,eo,a',c',Qk,⟨z0,z1,z2,z3,z4,z5,z6⟩,N,_⟩:=P4.out k e A;have Qh:=World.block_lt_of_cell? _ _ z0;simp only at Qh;have O:Below wr.heap.size wr (wr.alloc (.cells #[.int .i64 e.k,.int .i64 e.n,.int .i64 e.m,.bool e.v,.string e.nm,.string e.tg,.slice a' e.es.length c'] 25)):=(Below.refl _ _).alloc (Nat.le_refl _) _;subst Qk;rcases hd:(e.k==13)with _|_
   ·have B:Hid (aC e=e):=if_neg (by simpa using hd)
    have P:=Lib.hid (P3.out e (List.mem_of_getElem? A) q g' PU PV a' c' _ (d.out.bs.below O) (by have:=d.out.ct;have:=gi A;have:=jM l (k+1);have:=nw e;have:=S.out;omega) (B.out.symm▸N));rw[B.out]at P;have T:=Lib.hid A;have f:=Lib.hid O;have P5:=Lib.hid hd;clear A O N;go_wp2_with fail
    refine P.out.mono ?_;rintro e1 r ⟨x,q1,g1,V,W,rfl,J,X,z,Y,_,P6⟩;obtain⟨Z,xb,rfl⟩:=J.val;have Ql:=z.size;have aa:=d.out.st.size;have Qm:y.heap.size≤r.heap.size:=by have:=f.out.size;omega
    have G:=Lib.hid ((((aD.row (d.out.bs.below f.out) z (by decide) (bO d.out.tr f.out) R d.out.td).1).alloc (.cells #[.bool false,ae Z xb] 245)).alloc (.cells #[.pointer (some ⟨r.heap.size,0,none⟩)] 232));have H:=Lib.hid (show ∀j u,[Value.pointer (some ⟨r.heap.size,0,none⟩)][j]?=some u→((r.alloc (.cells #[.bool false,ae Z xb] 245)).alloc (.cells #[.pointer (some ⟨r.heap.size,0,none⟩)] 232)).cell? ((⟨r.heap.size+1,0,none⟩:Addr).add j)=some u from fun j u h=>by
     have h1:=TS.eD (r.alloc (.cells #[.bool false,ae Z xb] 245)) (.pointer (some ⟨r.heap.size,0,none⟩)) 232 j u h;rwa [show(r.alloc (.cells #[.bool false,ae Z xb] 245)).heap.size=r.heap.size+1 by simp]at h1)
    have P7:Hid (EL C l (some ⟨eb,eo,none⟩) w.heap.size y.heap.size r):=P4.out.kept fun b o v hb h=>by
     have h2:=ar f.out h;rw[z.kept.cell (World.block_lt_of_cell? _ _ h2) fun e=> ?_]
     ·exact h2
     ·have Qn:=F.out.bl
      rcases e with e|e
      ·have e':b=C.bb:=e
       omega
      ·rcases d.out.om _ e with I|I
       ·have e3:C.B0≤b∧b<w.heap.size:=⟨(F.out.ib (b:=b) (.inr I)).1,(F.out.ib (b:=b) (.inr I)).2.1⟩
        omega
       ·have e3:y.heap.size≤b:=I
        omega
    have K:=Lib.hid (show fs.length=k from d.out.fl);have PM:∀b,(Value.slice ta fs.length tc).ownBlock=some b→y.heap.size≤b:=fun b e=>(d.out.tr.lt _ e).1;have PN:=Lib.hid PM;have PO:=Lib.hid X;have PQ:=Lib.hid z;have PR:=Lib.hid J;have PS:=Lib.hid Y;clear X z J Y P PM;go_wp2_with fail
    refine(oI _ _ _ _).mono ?_;rintro I w2 ⟨rfl,rfl⟩;go_wp2_with (first|(at_builtin;refine wpList_append_own_at _ rfl _ _ 231 rfl y.heap.size 232 i0 (.pointer none) 1 8 Tryz.underlying231 Qc PY PZ P0 rfl (by decide) (.slice ta fs.length tc) fs.length (fs.map pv) rfl G.out ⟨r.heap.size+1,0,none⟩ 1 1 [.pointer (some ⟨r.heap.size,0,none⟩)] rfl rfl H.out (TS.one_one rfl) ?c3 ?c4 ?c5 ?_)|fail)
    case c3=>have:=K.out;unfold maxLen;omega
    case c4=>have:=K.out;omega
    case c5=>(try simp);omega
    intro v' w3 t L _ PT;obtain⟨a3,c3,rfl⟩:=bn t;have P8:Hid (EL C l (some ⟨eb,eo,none⟩) w.heap.size y.heap.size w3):=P7.out.kept fun b o v hb h=>by
     have h2:=ar (((Below.refl _ _).alloc (Nat.le_refl _) (.cells #[.bool false,ae Z xb] 245)).alloc (by simp) (.cells #[.pointer (some ⟨r.heap.size,0,none⟩)] 232)) h;rw[((Kept.refl (fun b=>(Value.slice ta fs.length tc).ownBlock=some b) _).grown L fun k hk _=>hk).cell (World.block_lt_of_cell? _ _ h2) fun e=> ?_]
     ·exact h2
     ·have h3:y.heap.size≤b:=PN.out b e
      have h4:=F.out.bl;omega
    have s:Hid (∃(q2:Pm)(E:List Nat)(M:Nat→Value),E.length=k+1∧eQ C l p g mv ms y (k+1) q2 g1 V W E M (.slice a3 (fs.length+1) c3) w3):=
     ⟨_,_,_,by simp[K.out],eQ.step (e:=e) (bs:=#[.pointer (some ⟨r.heap.size,0,none⟩)]) (Tb:=232) d.out R T.out f.out (B.out.symm▸PR.out) PO.out PQ.out PS.out (B.out.symm▸P6) t (by rw[P5.out];exact L) (PT.imp id fun h=>h.trans (by simp))⟩
    clear t L PT G H;go_wp2_with fail
    obtain⟨q2,E,M,_,s⟩:=s.out;exact⟨⟨k+1,q2,g1,V,W,E,M,by omega,by go_num,s,P8.out⟩,by first|omega|(simp[intOf];omega)⟩
   ·obtain⟨I,PW⟩:=PX.out _ (List.mem_of_getElem? A) (by simpa using hd)
    obtain⟨Qx,Qy,a2,c2,rfl,hle,Qi,⟨y0,y1,y2,y3,y4,y5,y6⟩,Qq⟩:=kK N d.out.bs.ka PW;have B:Hid (aC e=I):=by rw[aC,if_pos (by simpa using hd),PW];rfl
    have P:=Lib.hid (B.out▸P3.out e (List.mem_of_getElem? A) q g' PU PV a2 c2 _ (d.out.bs.below O) (by have:=d.out.ct;have:=gi A;have:=jM l (k+1);have:=nw e;have:=S.out;omega) (B.out.symm▸Qi));have Qz:=Lib.hid PW;clear PW;have T:=Lib.hid A;have f:=Lib.hid O;have P5:=Lib.hid hd;clear A O N;go_wp2_with fail
    refine P.out.mono ?_;rintro e1 r ⟨x,q1,g1,V,W,rfl,J,X,z,Y,_,P6⟩;obtain⟨Z,xb,rfl⟩:=J.val;have Ql:=z.size;have aa:=d.out.st.size;have Qm:y.heap.size≤r.heap.size:=by have:=f.out.size;omega
    have G:=Lib.hid ((((aD.row (d.out.bs.below f.out) z (by decide) (bO d.out.tr f.out) R d.out.td).1).alloc (.cells #[.bool true,ae Z xb] 245)).alloc (.cells #[.pointer (some ⟨r.heap.size,0,none⟩)] 232));have H:=Lib.hid (show ∀j u,[Value.pointer (some ⟨r.heap.size,0,none⟩)][j]?=some u→((r.alloc (.cells #[.bool true,ae Z xb] 245)).alloc (.cells #[.pointer (some ⟨r.heap.size,0,none⟩)] 232)).cell? ((⟨r.heap.size+1,0,none⟩:Addr).add j)=some u from fun j u h=>by
     have h1:=TS.eD (r.alloc (.cells #[.bool true,ae Z xb] 245)) (.pointer (some ⟨r.heap.size,0,none⟩)) 232 j u h;rwa [show(r.alloc (.cells #[.bool true,ae Z xb] 245)).heap.size=r.heap.size+1 by simp]at h1)
    have P7:Hid (EL C l (some ⟨eb,eo,none⟩) w.heap.size y.heap.size r):=P4.out.kept fun b o v hb h=>by
     have h2:=ar f.out h;rw[z.kept.cell (World.block_lt_of_cell? _ _ h2) fun e=> ?_]
     ·exact h2
     ·have Qn:=F.out.bl
      rcases e with e|e
      ·have e':b=C.bb:=e
       omega
      ·rcases d.out.om _ e with I|I
       ·have e3:C.B0≤b∧b<w.heap.size:=⟨(F.out.ib (b:=b) (.inr I)).1,(F.out.ib (b:=b) (.inr I)).2.1⟩
        omega
       ·have e3:y.heap.size≤b:=I
        omega
    have K:=Lib.hid (show fs.length=k from d.out.fl);have PM:∀b,(Value.slice ta fs.length tc).ownBlock=some b→y.heap.size≤b:=fun b e=>(d.out.tr.lt _ e).1;have PN:=Lib.hid PM;have PO:=Lib.hid X;have PQ:=Lib.hid z;have PR:=Lib.hid J;have PS:=Lib.hid Y;clear X z J Y P PM;go_wp2_with fail
    refine(oI _ _ _ _).mono ?_;rintro I w2 ⟨rfl,rfl⟩;go_wp2_with (first|(at_builtin;refine wpList_append_own_at _ rfl _ _ 231 rfl y.heap.size 232 i0 (.pointer none) 1 8 Tryz.underlying231 Qc PY PZ P0 rfl (by decide) (.slice ta fs.length tc) fs.length (fs.map pv) rfl G.out ⟨r.heap.size+1,0,none⟩ 1 1 [.pointer (some ⟨r.heap.size,0,none⟩)] rfl rfl H.out (TS.one_one rfl) ?c3 ?c4 ?c5 ?_)|fail)
    case c3=>have:=K.out;unfold maxLen;omega
    case c4=>have:=K.out;omega
    case c5=>(try simp);omega
    intro v' w3 t L _ PT;obtain⟨a3,c3,rfl⟩:=bn t;have P8:Hid (EL C l (some ⟨eb,eo,none⟩) w.heap.size y.heap.size w3):=P7.out.kept fun b o v hb h=>by
     have h2:=ar (((Below.refl _ _).alloc (Nat.le_refl _) (.cells #[.bool true,ae Z xb] 245)).alloc (by simp) (.cells #[.pointer (some ⟨r.heap.size,0,none⟩)] 232)) h;rw[((Kept.refl (fun b=>(Value.slice ta fs.length tc).ownBlock=some b) _).grown L fun k hk _=>hk).cell (World.block_lt_of_cell? _ _ h2) fun e=> ?_]
     ·exact h2
     ·have h3:y.heap.size≤b:=PN.out b e
      have h4:=F.out.bl;omega
    have s:Hid (∃(q2:Pm)(E:List Nat)(M:Nat→Value),E.length=k+1∧eQ C l p g mv ms y (k+1) q2 g1 V W E M (.slice a3 (fs.length+1) c3) w3):=
     ⟨_,_,_,by simp[K.out],eQ.step (e:=e) (bs:=#[.pointer (some ⟨r.heap.size,0,none⟩)]) (Tb:=232) d.out R T.out f.out (B.out.symm▸PR.out) PO.out PQ.out PS.out (B.out.symm▸P6) t (by rw[P5.out];exact L) (PT.imp id fun h=>h.trans (by simp))⟩
    clear t L PT G H;go_wp2_with fail
    obtain⟨q2,E,M,_,s⟩:=s.out;exact⟨⟨k+1,q2,g1,V,W,E,M,by omega,by go_num,s,P8.out⟩,by first|omega|(simp[intOf];omega)⟩
  ·have QA:¬(k:Int)<n:=by omega
   have s:Hid (0<fs.length∧bA C u p g mv ms w (.returned (.iface 185 (.pointer (some ⟨wr.heap.size,0,none⟩)))) (wr.alloc (.cells #[.slice ta fs.length tc] 244))):=by
    have e1:=Qe.out;have I:l.length=k:=by have:=Qg.out;omega
    have e3:=d.out.fl;have h1:=d.out;have h2:=Qf.out;refine⟨by omega,?_⟩;rw[e3]at h1⊢;have h:=eQ.done (u:=u) (ta:=ta) (tc:=tc) Qj.out (by rw[e1,I];exact h1) R;rw[e1,I]at h;exact bA.ahead Qd.out h
   go_wp2_with fail
   refine(uL ta fs.length tc s.out.1 _).mono ?_;rintro e1 r ⟨rfl,rfl⟩;go_wp2_with fail
   go_ret;exact s.out.2
theorem Ft(C:BC)(u:U)(hk:u.k=13)(Qb:0<([u]).length)(P2:∀e∈ [u],e.k=13→∃e',e.es= [e'])(hI:∀e∈ [u],bZ C (aC e))(p:Pm)(g:Ge)(mv:Value)(ms:List Nat)(a:Option Addr)(c:Nat)(w:World)(hB:BS C p g mv ms w)(Qt:ms.length+cn u≤1099511627776)(hu:ak C.pa C.D u a c):
 Calls Tryz.prog 89 #[.pointer (some ⟨C.bb,0,none⟩),.agg #[.int .i64 u.k,.int .i64 u.n,.int .i64 u.m,.bool u.v,.string u.nm,.string u.tg,.slice a u.es.length c]] w (bA C u p g mv ms w):=by
 have Qc:=hu.cap;have Qq:=(hB.ib (b:=C.bb) (.inl rfl)).2.1;have PT:Below w.heap.size w ((w.alloc (.cells #[.int .i64 u.k,.int .i64 u.n,.int .i64 u.m,.bool u.v,.string u.nm,.string u.tg,.slice a u.es.length c] 25)).alloc (.cells #[.int .i64 u.k,.int .i64 u.n,.int .i64 u.m,.bool u.v,.string u.nm,.string u.tg,.slice a u.es.length c] 25)):=((Below.refl _ _).alloc (Nat.le_refl _) _).alloc (by simp) _;have Qd:=Lib.hid (hB.below PT);have P3:Hid (EL C ([u]) (some ⟨w.heap.size+1,0,none⟩) w.heap.size ((w.alloc (.cells #[.int .i64 u.k,.int .i64 u.n,.int .i64 u.m,.bool u.v,.string u.nm,.string u.tg,.slice a u.es.length c] 25)).alloc (.cells #[.int .i64 u.k,.int .i64 u.n,.int .i64 u.m,.bool u.v,.string u.nm,.string u.tg,.slice a u.es.length c] 25)).heap.size ((w.alloc (.cells #[.int .i64 u.k,.int .i64 u.n,.int .i64 u.m,.bool u.v,.string u.nm,.string u.tg,.slice a u.es.length c] 25)).alloc (.cells #[.int .i64 u.k,.int .i64 u.n,.int .i64 u.m,.bool u.v,.string u.nm,.string u.tg,.slice a u.es.length c] 25))):=fun k e he=>by
  obtain⟨rfl,rfl⟩:k=0∧u=e:=by
   cases k with
   |zero=>simpa using he
   |succ k=>simp at he
  have hh:((w.alloc (.cells #[.int .i64 u.k,.int .i64 u.n,.int .i64 u.m,.bool u.v,.string u.nm,.string u.tg,.slice a u.es.length c] 25)).alloc (.cells #[.int .i64 u.k,.int .i64 u.n,.int .i64 u.m,.bool u.v,.string u.nm,.string u.tg,.slice a u.es.length c] 25)).heap[w.heap.size+1]?=some (.cells #[.int .i64 u.k,.int .i64 u.n,.int .i64 u.m,.bool u.v,.string u.nm,.string u.tg,.slice a u.es.length c] 25):=cV (by simp);exact⟨_,0,a,c,rfl,by(repeat' apply And.intro)<;>(simp only[World.cell?,hh];rfl),hu,.inr ⟨by omega,by simp⟩⟩
 have F:=Lib.hid hB;have Qu:([u]).length≤1048576:=by simp
 have Qm:Hid (u.k=12∨u.k=13):=by exact .inr hk
 have Qe:Hid (eY u= [u]):=by exact if_neg (by omega)
 have PY:=Lib.hid P2;have P4:=Lib.hid hI;have Qv:(u.k==13)=true:=by simp[hk]
 obtain⟨i0,Qf,PZ,P0,P1⟩:=info_parts xp;obtain⟨y,hW⟩:∃y,Hid (y=((w.alloc (.cells #[.int .i64 u.k,.int .i64 u.n,.int .i64 u.m,.bool u.v,.string u.nm,.string u.tg,.slice a u.es.length c] 25)).alloc (.cells #[.int .i64 u.k,.int .i64 u.n,.int .i64 u.m,.bool u.v,.string u.nm,.string u.tg,.slice a u.es.length c] 25))):=⟨_,rfl⟩
 have Qw:y.heap.size≤w.heap.size+2∧w.heap.size+2≤y.heap.size:=by rw[hW.out];simp
 rw[←hW.out]at Qd PT P3;have P:C.bb<y.heap.size:=by omega
 have Qg:=Lib.hid PT;obtain⟨l,hl⟩:∃l,Hid ([u]=l):=⟨_,rfl⟩
 have Qh:=Lib.hid (Qe.out.trans hl.out);have Qi:=Lib.hid (hl.out▸Qb);have PY:=Lib.hid (hl.out▸P2);have P4:=Lib.hid (hl.out▸hI);have Q:Hid (ms.length+aK l≤1099511627776):=by show _≤_;rw[←hl.out];simp[aK];omega
 rw[hl.out]at P3;clear hu hB PT Qc hk P2 hI Qe Qb;have Qj:Hid (l.length=1):=by rw[←hl.out];rfl
 go_enter Tryz.func89,Tryz.ntmps89;go_wp2_with fail
 go_loopw [18,6] (fun vk vt wr=> ∃(k:Nat)(q:Pm)(g':Ge)(PU:Value)(PV fs:List Nat)(xs:Nat→Value),k≤1∧vk= .int .i64 k∧eQ C l p g mv ms y k q g' PU PV fs xs vt wr∧EL C l (some ⟨w.heap.size+1,0,none⟩) w.heap.size y.heap.size wr) (fun vk _ _=>1- (intOf vk).toNat)
 case atStart=>
  obtain rfl:=hW.out;exact⟨0,p,g,mv,ms,[],fun _=>undef,Nat.zero_le _,rfl,⟨Qd.out,aD.refl _ _ _ _ _ _,fun b e=> .inl e,rfl,by simpa using World.ownsRow_nil _ _ _ _,fun b e=>(by cases e),fun i _ hi=>absurd hi (Nat.not_lt_zero _),fun i _ hi=>absurd hi (Nat.not_lt_zero _),Nat.le_add_right _ _⟩,P3.out⟩
 case round=>
  obtain⟨k,q,g',PU,PV,fs,xs,Qx,rfl,hT,hE⟩:=hrel;have d:=Lib.hid hT;have P5:=Lib.hid hE;obtain⟨ta,tc,rfl⟩:=bn hT.tr;clear hT hE;by_cases Qy:k<1
  ·have Qr:(k:Int)<1:=by omega
   obtain⟨e,A⟩:∃e,l[k]?=some e:=⟨_,List.getElem?_eq_getElem (by have:=Qj.out;omega)⟩
   obtain⟨eb,eo,a',c',P6,⟨z0,z1,z2,z3,z4,z5,z6⟩,PW,_⟩:=P5.out k e A;have Qk:=World.block_lt_of_cell? _ _ z0;simp only at Qk;have N:Below wr.heap.size wr (wr.alloc (.cells #[.int .i64 e.k,.int .i64 e.n,.int .i64 e.m,.bool e.v,.string e.nm,.string e.tg,.slice a' e.es.length c'] 25)):=(Below.refl _ _).alloc (Nat.le_refl _) _;injection P6 with P6;injection P6 with P7 Qn;subst P7;subst Qn;simp only[Nat.zero_add]at z0 z1 z2 z3 z4 z5 z6
   rcases hd:(e.k==13)with _|_
   ·have B:Hid (aC e=e):=if_neg (by simpa using hd)
    have O:=Lib.hid (P4.out e (List.mem_of_getElem? A) q g' PU PV a' c' _ (d.out.bs.below N) (by have:=d.out.ct;have:=gi A;have:=jM l (k+1);have:=nw e;have:=Q.out;omega) (B.out.symm▸PW));rw[B.out]at O;have R:=Lib.hid A;have f:=Lib.hid N;have P8:=Lib.hid hd;clear A N PW;go_wp2_with fail
    refine O.out.mono ?_;rintro e1 r ⟨x,q1,g1,S,T,rfl,J,V,z,W,_,P9⟩;obtain⟨X,Y,rfl⟩:=J.val;have P7:=z.size;have aa:=d.out.st.size;have Qo:y.heap.size≤r.heap.size:=by have:=f.out.size;omega
    have G:=Lib.hid ((((aD.row (d.out.bs.below f.out) z (by decide) (bO d.out.tr f.out) P d.out.td).1).alloc (.cells #[.bool false,ae X Y] 245)).alloc (.cells #[.pointer (some ⟨r.heap.size,0,none⟩)] 232));have H:=Lib.hid (show ∀j u,[Value.pointer (some ⟨r.heap.size,0,none⟩)][j]?=some u→((r.alloc (.cells #[.bool false,ae X Y] 245)).alloc (.cells #[.pointer (some ⟨r.heap.size,0,none⟩)] 232)).cell? ((⟨r.heap.size+1,0,none⟩:Addr).add j)=some u from fun j u h=>by
     have h1:=TS.eD (r.alloc (.cells #[.bool false,ae X Y] 245)) (.pointer (some ⟨r.heap.size,0,none⟩)) 232 j u h;rwa [show(r.alloc (.cells #[.bool false,ae X Y] 245)).heap.size=r.heap.size+1 by simp]at h1)
    have P_:Hid (EL C l (some ⟨w.heap.size+1,0,none⟩) w.heap.size y.heap.size r):=P5.out.kept fun b o v hb h=>by
     have h2:=ar f.out h;rw[z.kept.cell (World.block_lt_of_cell? _ _ h2) fun e=> ?_]
     ·exact h2
     ·have Qp:=F.out.bl
      rcases e with e|e
      ·have e':b=C.bb:=e
       omega
      ·rcases d.out.om _ e with I|I
       ·have e3:C.B0≤b∧b<w.heap.size:=⟨(F.out.ib (b:=b) (.inr I)).1,(F.out.ib (b:=b) (.inr I)).2.1⟩
        omega
       ·have e3:y.heap.size≤b:=I
        omega
    have K:=Lib.hid (show fs.length=k from d.out.fl);have Z:∀b,(Value.slice ta fs.length tc).ownBlock=some b→y.heap.size≤b:=fun b e=>(d.out.tr.lt _ e).1;have PM:=Lib.hid Z;have PN:=Lib.hid V;have PO:=Lib.hid z;have PQ:=Lib.hid J;have PR:=Lib.hid W;clear V z J W O Z;go_wp2_with fail
    refine(oI _ _ _ _).mono ?_;rintro I w2 ⟨rfl,rfl⟩;go_wp2_with (first|(at_builtin;refine wpList_append_own_at _ rfl _ _ 231 rfl y.heap.size 232 i0 (.pointer none) 1 8 Tryz.underlying231 Qf PZ P0 P1 rfl (by decide) (.slice ta fs.length tc) fs.length (fs.map pv) rfl G.out ⟨r.heap.size+1,0,none⟩ 1 1 [.pointer (some ⟨r.heap.size,0,none⟩)] rfl rfl H.out (TS.one_one rfl) ?c3 ?c4 ?c5 ?_)|fail)
    case c3=>have:=K.out;unfold maxLen;omega
    case c4=>have:=K.out;omega
    case c5=>(try simp);omega
    intro v' w3 t L _ PS;obtain⟨a3,c3,rfl⟩:=bn t;have Qa:Hid (EL C l (some ⟨w.heap.size+1,0,none⟩) w.heap.size y.heap.size w3):=P_.out.kept fun b o v hb h=>by
     have h2:=ar (((Below.refl _ _).alloc (Nat.le_refl _) (.cells #[.bool false,ae X Y] 245)).alloc (by simp) (.cells #[.pointer (some ⟨r.heap.size,0,none⟩)] 232)) h;rw[((Kept.refl (fun b=>(Value.slice ta fs.length tc).ownBlock=some b) _).grown L fun k hk _=>hk).cell (World.block_lt_of_cell? _ _ h2) fun e=> ?_]
     ·exact h2
     ·have h3:y.heap.size≤b:=PM.out b e
      have h4:=F.out.bl;omega
    have s:Hid (∃(q2:Pm)(E:List Nat)(M:Nat→Value),E.length=k+1∧eQ C l p g mv ms y (k+1) q2 g1 S T E M (.slice a3 (fs.length+1) c3) w3):=
     ⟨_,_,_,by simp[K.out],eQ.step (e:=e) (bs:=#[.pointer (some ⟨r.heap.size,0,none⟩)]) (Tb:=232) d.out P R.out f.out (B.out.symm▸PQ.out) PN.out PO.out PR.out (B.out.symm▸P9) t (by rw[P8.out];exact L) (PS.imp id fun h=>h.trans (by simp))⟩
    clear t L PS G H;go_wp2_with fail
    obtain⟨q2,E,M,_,s⟩:=s.out;exact⟨⟨k+1,q2,g1,S,T,E,M,by omega,by go_num,s,Qa.out⟩,by first|omega|(simp[intOf];omega)⟩
   ·obtain⟨I,PX⟩:=PY.out _ (List.mem_of_getElem? A) (by simpa using hd)
    obtain⟨Qz,QA,a2,c2,rfl,hle,Ql,⟨y0,y1,y2,y3,y4,y5,y6⟩,Qs⟩:=kK PW d.out.bs.ka PX;have B:Hid (aC e=I):=by rw[aC,if_pos (by simpa using hd),PX];rfl
    have O:=Lib.hid (B.out▸P4.out e (List.mem_of_getElem? A) q g' PU PV a2 c2 _ (d.out.bs.below N) (by have:=d.out.ct;have:=gi A;have:=jM l (k+1);have:=nw e;have:=Q.out;omega) (B.out.symm▸Ql));have QB:=Lib.hid PX;clear PX;have R:=Lib.hid A;have f:=Lib.hid N;have P8:=Lib.hid hd;clear A N PW;go_wp2_with fail
    refine O.out.mono ?_;rintro e1 r ⟨x,q1,g1,S,T,rfl,J,V,z,W,_,P9⟩;obtain⟨X,Y,rfl⟩:=J.val;have P7:=z.size;have aa:=d.out.st.size;have Qo:y.heap.size≤r.heap.size:=by have:=f.out.size;omega
    have G:=Lib.hid ((((aD.row (d.out.bs.below f.out) z (by decide) (bO d.out.tr f.out) P d.out.td).1).alloc (.cells #[.bool true,ae X Y] 245)).alloc (.cells #[.pointer (some ⟨r.heap.size,0,none⟩)] 232));have H:=Lib.hid (show ∀j u,[Value.pointer (some ⟨r.heap.size,0,none⟩)][j]?=some u→((r.alloc (.cells #[.bool true,ae X Y] 245)).alloc (.cells #[.pointer (some ⟨r.heap.size,0,none⟩)] 232)).cell? ((⟨r.heap.size+1,0,none⟩:Addr).add j)=some u from fun j u h=>by
     have h1:=TS.eD (r.alloc (.cells #[.bool true,ae X Y] 245)) (.pointer (some ⟨r.heap.size,0,none⟩)) 232 j u h;rwa [show(r.alloc (.cells #[.bool true,ae X Y] 245)).heap.size=r.heap.size+1 by simp]at h1)
    have P_:Hid (EL C l (some ⟨w.heap.size+1,0,none⟩) w.heap.size y.heap.size r):=P5.out.kept fun b o v hb h=>by
     have h2:=ar f.out h;rw[z.kept.cell (World.block_lt_of_cell? _ _ h2) fun e=> ?_]
     ·exact h2
     ·have Qp:=F.out.bl
      rcases e with e|e
      ·have e':b=C.bb:=e
       omega
      ·rcases d.out.om _ e with I|I
       ·have e3:C.B0≤b∧b<w.heap.size:=⟨(F.out.ib (b:=b) (.inr I)).1,(F.out.ib (b:=b) (.inr I)).2.1⟩
        omega
       ·have e3:y.heap.size≤b:=I
        omega
    have K:=Lib.hid (show fs.length=k from d.out.fl);have Z:∀b,(Value.slice ta fs.length tc).ownBlock=some b→y.heap.size≤b:=fun b e=>(d.out.tr.lt _ e).1;have PM:=Lib.hid Z;have PN:=Lib.hid V;have PO:=Lib.hid z;have PQ:=Lib.hid J;have PR:=Lib.hid W;clear V z J W O Z;go_wp2_with fail
    refine(oI _ _ _ _).mono ?_;rintro I w2 ⟨rfl,rfl⟩;go_wp2_with (first|(at_builtin;refine wpList_append_own_at _ rfl _ _ 231 rfl y.heap.size 232 i0 (.pointer none) 1 8 Tryz.underlying231 Qf PZ P0 P1 rfl (by decide) (.slice ta fs.length tc) fs.length (fs.map pv) rfl G.out ⟨r.heap.size+1,0,none⟩ 1 1 [.pointer (some ⟨r.heap.size,0,none⟩)] rfl rfl H.out (TS.one_one rfl) ?c3 ?c4 ?c5 ?_)|fail)
    case c3=>have:=K.out;unfold maxLen;omega
    case c4=>have:=K.out;omega
    case c5=>(try simp);omega
    intro v' w3 t L _ PS;obtain⟨a3,c3,rfl⟩:=bn t;have Qa:Hid (EL C l (some ⟨w.heap.size+1,0,none⟩) w.heap.size y.heap.size w3):=P_.out.kept fun b o v hb h=>by
     have h2:=ar (((Below.refl _ _).alloc (Nat.le_refl _) (.cells #[.bool true,ae X Y] 245)).alloc (by simp) (.cells #[.pointer (some ⟨r.heap.size,0,none⟩)] 232)) h;rw[((Kept.refl (fun b=>(Value.slice ta fs.length tc).ownBlock=some b) _).grown L fun k hk _=>hk).cell (World.block_lt_of_cell? _ _ h2) fun e=> ?_]
     ·exact h2
     ·have h3:y.heap.size≤b:=PM.out b e
      have h4:=F.out.bl;omega
    have s:Hid (∃(q2:Pm)(E:List Nat)(M:Nat→Value),E.length=k+1∧eQ C l p g mv ms y (k+1) q2 g1 S T E M (.slice a3 (fs.length+1) c3) w3):=
     ⟨_,_,_,by simp[K.out],eQ.step (e:=e) (bs:=#[.pointer (some ⟨r.heap.size,0,none⟩)]) (Tb:=232) d.out P R.out f.out (B.out.symm▸PQ.out) PN.out PO.out PR.out (B.out.symm▸P9) t (by rw[P8.out];exact L) (PS.imp id fun h=>h.trans (by simp))⟩
    clear t L PS G H;go_wp2_with fail
    obtain⟨q2,E,M,_,s⟩:=s.out;exact⟨⟨k+1,q2,g1,S,T,E,M,by omega,by go_num,s,Qa.out⟩,by first|omega|(simp[intOf];omega)⟩
  ·have QC:¬(k:Int)<1:=by omega
   have s:Hid (0<fs.length∧bA C u p g mv ms w (.returned (.iface 185 (.pointer (some ⟨wr.heap.size,0,none⟩)))) (wr.alloc (.cells #[.slice ta fs.length tc] 244))):=by
    have e1:=Qh.out;have I:l.length=k:=by have:=Qj.out;omega
    have e3:=d.out.fl;have h1:=d.out;have h2:=Qi.out;refine⟨by omega,?_⟩;rw[e3]at h1⊢;have h:=eQ.done (u:=u) (ta:=ta) (tc:=tc) Qm.out (by rw[e1,I];exact h1) P;rw[e1,I]at h;exact bA.ahead Qg.out h
   go_wp2_with fail
   refine(uL ta fs.length tc s.out.1 _).mono ?_;rintro e1 r ⟨rfl,rfl⟩;go_wp2_with fail
   go_ret;exact s.out.2
end Go.Proofs.YtdkmnkjhhhmglaaGreatDoor
