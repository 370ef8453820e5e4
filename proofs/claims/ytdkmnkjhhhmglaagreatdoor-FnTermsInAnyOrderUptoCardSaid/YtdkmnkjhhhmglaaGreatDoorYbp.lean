import Derived.Test.YtdkmnkjhhhmglaaGreatDoorYbn
set_option maxRecDepth 100000
set_option maxHeartbeats 8000000
set_option linter.all false
namespace Go.Proofs.YtdkmnkjhhhmglaaGreatDoor
open Go.RowKit TS
theorem FB(C:BC)(u:U)(hk:u.k=5)(d:∀e∈u.es,aM e.nm=true)(hnd:(u.es.map U.nm).Nodup)(z:∀e∈u.es,bZ C e):bZ C u:=by
 intro p g mv ms a c w A o hu;have b:Below w.heap.size w (w.alloc (.cells #[.int .i64 u.k,.int .i64 u.n,.int .i64 u.m,.bool u.v,.string u.nm,.string u.tg,.slice a u.es.length c] 25)):=(Below.refl _ _).alloc (Nat.le_refl _) _;have B:=Lib.hid (E8 C u hk d hnd z p g mv ms a c _ (A.below b) o hu);have f:=Lib.hid b;have E:=kf 1 hk;have F:=kf 2 hk;have G:=kf 3 hk;have H:=kf 4 hk;have I:=kf 6 hk;have J:=kf 8 hk;have K:=kf 9 hk;have L:=kt hk;clear hk hu A b d hnd z;go_enter Tryz.func40,Tryz.ntmps40;go_wp2_with fail
 refine B.out.mono ?_;rintro Q M ⟨x,q,N,r,s,rfl,t,h,i,j,D,y⟩;obtain⟨O,P,rfl⟩:=t.val;have l:Hid (bA C u p g mv ms w (.returned (ae O P)) M):=bA.ahead f.out ⟨_,q,N,r,s,rfl,t,h,i,j,D,y⟩;clear t h i j D B;go_wp2_with fail
 go_ret;exact l.out
theorem FC(C:BC)(u:U)(hk:u.k=7)(hm:0≤u.m∧u.m.toNat≤u.es.length)(z:u.v=true→0<u.m.toNat∧∃e,u.es[u.m.toNat- 1]?=some e∧e.k=4)(A:∀e∈u.es,bZ C e):bZ C u:=by
 intro p g mv ms a c w B o hu;have b:Below w.heap.size w (w.alloc (.cells #[.int .i64 u.k,.int .i64 u.n,.int .i64 u.m,.bool u.v,.string u.nm,.string u.tg,.slice a u.es.length c] 25)):=(Below.refl _ _).alloc (Nat.le_refl _) _;have D:=Lib.hid (pq C u none hk hm z A p g mv ms a c _ (B.below b) o hu);have d:=Lib.hid b;have r:=Lib.hid hk;have F:=kf 1 hk;have G:=kf 2 hk;have H:=kf 3 hk;have I:=kf 4 hk;have J:=kf 6 hk;have K:=kf 8 hk;have L:=kf 9 hk;have M:=kf 5 hk;have N:=kt hk;clear hk hu B b hm z A;go_enter Tryz.func40,Tryz.ntmps40;go_wp2_with fail
 refine D.out.mono ?_;rintro Q O ⟨s,q,P,t,x,rfl,E,f,i,j,_,_,_,_,y⟩;have l:Hid (bA C u p g mv ms w (.returned (ae 102 s)) O):=bA.ahead d.out ⟨_,q,P,t,x,rfl,E,f,i,j,fun h=>(by have:=r.out;omega),y⟩;clear E f i j D;go_wp2_with fail
 go_ret;exact l.out
theorem xx(C:BC)(u:U)(hk:u.k=12∨u.k=13)(j:∀p g mv ms a c w,BS C p g mv ms w→ms.length+cn u≤1099511627776→ak C.pa C.D u a c→Calls Tryz.prog 89 #[.pointer (some ⟨C.bb,0,none⟩),.agg #[.int .i64 u.k,.int .i64 u.n,.int .i64 u.m,.bool u.v,.string u.nm,.string u.tg,.slice a u.es.length c]] w (bA C u p g mv ms w)):bZ C u:=by
 intro p g mv ms a c w B E hu;have h:Below w.heap.size w (w.alloc (.cells #[.int .i64 u.k,.int .i64 u.n,.int .i64 u.m,.bool u.v,.string u.nm,.string u.tg,.slice a u.es.length c] 25)):=(Below.refl _ _).alloc (Nat.le_refl _) _;have A:=Lib.hid (j p g mv ms a c _ (B.below h) E hu);have i:=Lib.hid h;rcases hk with hk|hk
 ·have F:=kf 1 hk;have G:=kf 2 hk;have H:=kf 3 hk;have I:=kf 4 hk;have J:=kf 6 hk;have K:=kf 8 hk;have L:=kf 9 hk;have M:=kf 5 hk;have N:=kf 7 hk;have t:=kf 11 hk;have y:=kt hk
  clear hk hu B h j;go_enter Tryz.func40,Tryz.ntmps40;go_wp2_with fail
  refine A.out.mono ?_;rintro T O ⟨x,q,P,l,o,rfl,r,b,d,e,z,s⟩;obtain⟨Q,R,rfl⟩:=r.val;have f:Hid (bA C u p g mv ms w (.returned (ae Q R)) O):=bA.ahead i.out ⟨_,q,P,l,o,rfl,r,b,d,e,z,s⟩;clear r b d e z A;go_wp2_with fail
  go_ret;exact f.out
 ·have F:=kf 1 hk;have G:=kf 2 hk;have H:=kf 3 hk;have I:=kf 4 hk;have J:=kf 6 hk;have K:=kf 8 hk;have L:=kf 9 hk;have M:=kf 5 hk;have N:=kf 7 hk;have t:=kf 11 hk;have y:=kf 12 hk;have S:=kt hk
  clear hk hu B h j;go_enter Tryz.func40,Tryz.ntmps40;go_wp2_with fail
  refine A.out.mono ?_;rintro T O ⟨x,q,P,l,o,rfl,r,b,d,e,z,s⟩;obtain⟨Q,R,rfl⟩:=r.val;have f:Hid (bA C u p g mv ms w (.returned (ae Q R)) O):=bA.ahead i.out ⟨_,q,P,l,o,rfl,r,b,d,e,z,s⟩;clear r b d e z A;go_wp2_with fail
  go_ret;exact f.out
theorem FD(C:BC)(u:U)(hk:u.k=10)(d:∀p g mv ms a c w,BS C p g mv ms w→ms.length+cn u≤1099511627776→ak C.pa C.D u a c→Calls Tryz.prog 90 #[.pointer (some ⟨C.bb,0,none⟩),.agg #[.int .i64 u.k,.int .i64 u.n,.int .i64 u.m,.bool u.v,.string u.nm,.string u.tg,.slice a u.es.length c]] w (bA C u p g mv ms w)):bZ C u:=by
 intro p g mv ms a c w y l hu;have b:Below w.heap.size w (w.alloc (.cells #[.int .i64 u.k,.int .i64 u.n,.int .i64 u.m,.bool u.v,.string u.nm,.string u.tg,.slice a u.es.length c] 25)):=(Below.refl _ _).alloc (Nat.le_refl _) _;have z:=Lib.hid (d p g mv ms a c _ (y.below b) l hu);have e:=Lib.hid b;have J:=kf 1 hk;have K:=kf 2 hk;have L:=kf 3 hk;have M:=kf 4 hk;have N:=kf 6 hk;have O:=kf 8 hk;have P:=kf 9 hk;have Q:=kf 5 hk;have R:=kf 7 hk;have A:=kf 11 hk;have B:=kf 12 hk;have E:=kf 13 hk;have F:=kf 15 hk;have G:=kf 16 hk;have H:=kt hk;clear hk hu y b d;go_enter Tryz.func40,Tryz.ntmps40;go_wp2_with fail
 refine z.out.mono ?_;rintro X S ⟨x,q,T,o,r,rfl,s,f,h,i,I,t⟩;obtain⟨V,W,rfl⟩:=s.val;have j:Hid (bA C u p g mv ms w (.returned (ae V W)) S):=bA.ahead e.out ⟨_,q,T,o,r,rfl,s,f,h,i,I,t⟩;clear s f h i I z;go_wp2_with fail
 go_ret;exact j.out
def cg:U:= .mk 0 0 0 false ByteArray.empty ByteArray.empty [] []
theorem FE(p:Pm)(D:Dl):ak p D cg none 0:=by
 simp only[cg,ak];exact⟨⟨by simp,by simp,by decide,by decide,by decide,by decide,by decide⟩,aj.iR (fun x a=>by cases a),fun h=>absurd h (by decide)⟩
theorem FG(C:BC)(u:U)(hk:u.k=14):bZ C u:=by
 intro p g mv ms a c w y H hu;have b:Below w.heap.size w (w.alloc (.cells #[.int .i64 u.k,.int .i64 u.n,.int .i64 u.m,.bool u.v,.string u.nm,.string u.tg,.slice a u.es.length c] 25)):=(Below.refl _ _).alloc (Nat.le_refl _) _;have z:=Lib.hid (xw C cg bt rfl rfl ⟨by decide,by decide⟩ (fun k e h=>by cases h) (fun k e h=>by cases h) rfl (fun h=>by cases h) List.Pairwise.nil p g mv ms none 0 _ (y.below b) (by rw[show cn cg=1 from by rw[cW];rfl];have:=cW u;omega) (FE _ _));have d:=Lib.hid b;have f:=Lib.hid hk;have I:=kf 1 hk;have J:=kf 2 hk;have K:=kf 3 hk;have L:=kf 4 hk;have M:=kf 6 hk;have N:=kf 8 hk;have O:=kf 9 hk;have P:=kf 5 hk;have Q:=kf 7 hk;have A:=kf 11 hk;have B:=kf 12 hk;have D:=kf 13 hk;have E:=kf 15 hk;have F:=kf 16 hk;have G:=kf 10 hk;clear hk hu y b;go_enter Tryz.func40,Tryz.ntmps40;go_wp2_with fail
 refine z.out.mono ?_;rintro Y R ⟨x,q,S,r,s,rfl,t,i,j,l,T,V⟩;obtain⟨W,X,rfl⟩:=t.val;have o:Hid (bA C u p g mv ms w (.returned (ae W X)) R):=bA.ahead d.out ⟨_,q,S,r,s,rfl,.any f.out t,i,j,l,fun h=>(by have:=f.out;omega),by have h1:cn bt=1:=(by rw[cW];rfl);have:=cW u;omega⟩;clear t i j l T z;go_wp2_with fail
 go_ret;exact o.out
theorem pr(C:BC):∀u:U,gK C u→bZ C u:=by
 intro u;induction u using U.bg with
 |_ u ih=>
  intro hT;have b:∀e∈u.es,bZ C e:=fun e he=>ih e (U.az he) (hT.part he);have t:∀e∈u.es,u.k≠10→u.k≠12→e.k≠12∧e.k≠13:=fun e he F G=>by
   obtain⟨pos,f,M,D,N⟩:=hT.pl;obtain⟨j,P,rfl⟩:=List.getElem_of_mem he;exact(D.jt F G j P).form.aE
  have s:∀e∈u.es,e.k=13→∃y,e.es= [y]:=fun e he l=>by
   obtain⟨pos,f,M,D,N⟩:=(hT.part he).pl;exact dD (D.form.iW l)
  obtain⟨pos,f,M,D,N⟩:=hT.pl;cases D.form with
  |basic hk q h1 he=>exact EZ C u hk ⟨q,h1⟩
  |pre hk he=>
   rcases hk with hk|hk
   ·exact FG C u hk
   ·exact EV C u hk
  |err hk he hu=>exact EU C u hk hT
  |named hk q h1 he W hu=>exact ET C u hk hT
  |one hk q he=>
   obtain⟨e,he⟩:=dD he;have hm:e∈u.es:=by rw[he];simp
   rcases hk with hk|hk
   ·exact EY C u e hk he (hT.part hm) (t e hm (by omega) (by omega)) (b e hm)
   ·exact EN C u e hk he (b e hm)
  |struct hk Q R=>exact FB C u hk Q R b
  |iface hk q h1 X hm Y=>
   have z:=hT.ff.EI hk;refine FD C u hk fun p g mv ms a c w E n hu=>xw C u u rfl rfl ⟨q,h1⟩ (fun k e he H=> ?_) (fun k e he H=>b e (List.mem_of_getElem? he)) hk (fun _=>z) (mr D.form hk) p g mv ms a c w E n hu;have A:e∈u.es:=List.mem_of_getElem? he;have I:e∈u.es.take u.m.toNat:=by
    obtain⟨S,rfl⟩:=List.getElem?_eq_some_iff.1 he;exact List.mem_take_iff_getElem.2 ⟨k,by omega,rfl⟩
   obtain⟨h7,J⟩:=hm e I;obtain⟨pos',Z,T,K,V⟩:=(hT.part A).pl;have o:(0≤e.m∧e.m.toNat≤e.es.length)∧(e.v=true→0<e.m.toNat∧∃x,e.es[e.m.toNat- 1]?=some x∧x.k=4):=by
    cases K.form with
    |func hk q h1 r=>exact⟨⟨q,h1⟩,fun h=>⟨(r h).1,_,List.getElem?_eq_getElem (by have:=(r h).1;omega),(r h).2 (by have:=(r h).1;omega)⟩⟩
    |_=>omega
   exact⟨h7,J,o.1,o.2,fun x O=>ih x (by have:=U.az O;have:=U.az A;omega) ((hT.part A).part O)⟩
  |ptr hk q h1 he=>
   obtain⟨e,he⟩:=dD he;have hm:e∈u.es:=by rw[he];simp
   rcases hk with hk|hk|hk
   ·exact EK C u e hk he (b e hm)
   ·exact EM C u e hk he (b e hm)
   ·exact EP C u e hk he (b e hm)
  |map hk he=>
   obtain⟨d,e,he⟩:∃d e,u.es= [d,e]:=by
    match B:u.es with
    | []=>rw[B]at he;cases he
    | [_]=>rw[B]at he;cases he
    | [d,e]=>exact⟨d,e,rfl⟩
    |_::_::_::_=>rw[B]at he;simp at he
   exact ES C u d e hk he (b d (by rw[he];simp)) (b e (by rw[he];simp))
  |func hk q h1 r=>exact FC C u hk ⟨q,h1⟩ (fun h=>⟨(r h).1,_,List.getElem?_eq_getElem (by have:=(r h).1;omega),(r h).2 (by have:=(r h).1;omega)⟩) b
  |union hk L h2 h8=>
   refine xx C u (.inl hk) fun p g mv ms a c w E n hu=>Fs C u hk (by omega) s (fun e he=> ?_) p g mv ms a c w E n hu;by_cases l:e.k=13
   ·obtain⟨y,i⟩:=s e he l
    rw[iV l i];have hm:y∈e.es:=by rw[i];simp
    exact ih y (by have:=U.az hm;have:=U.az he;omega) ((hT.part he).part hm)
   ·rw[dY l];exact b e he
  |lV hk L he=>
   obtain⟨y,i⟩:=dD he;refine xx C u (.inr hk) fun p g mv ms a c w E n hu=>Ft C u hk (by simp) (fun e he _=> ?_) (fun e he=> ?_) p g mv ms a c w E n hu
   ·obtain rfl:e=u:=by simpa using he
    exact⟨y,i⟩
   ·obtain rfl:e=u:=by simpa using he
    rw[iV hk i];exact b y (by rw[i];simp)
end Go.Proofs.YtdkmnkjhhhmglaaGreatDoor
namespace TS
open Go Go.RowKit Go.Proofs.YtdkmnkjhhhmglaaGreatDoor
structure dM(C:BC)(p:Pm)(g:Ge)(w:World)(i k:Nat)(aG:Nat→ByteArray)(v:Value)(fs:List Nat):Prop where
 fl:fs.length=k
 c9:w.cell? ⟨g.nb i,9,none⟩=some v
 f9:w.frozen? ⟨g.nb i,9,none⟩=false
 d9:p (g.nb i) 9=none
 d0:p (g.nb i) 0=none
 row:w.ownsRow (C.bb+1) 107 1 v fs.length (fs.map pv)
 rd:∀b,v.ownBlock=some b→∀o,p b o=none
 nm:∀j,j<k→p (fs.getD j 0) 2=some (.string (aG j))
section
variable {C:BC} {p q r:Pm} {g g1 g2:Ge} {mv mv1:Value} {ms ms1 ms2:List Nat} {w w1 w2:World} {i k:Nat} {aG:Nat→ByteArray} {v:Value} {fs:List Nat}
theorem dM.below(h:dM C p g w i k aG v fs)(a:Below w.heap.size w w1):dM C p g w1 i k aG v fs:=
 ⟨h.fl,ar a h.c9,TS.frozen_kept a (World.block_lt_of_cell? _ _ h.c9) h.f9,h.d9,h.d0,bO h.row a,h.rd,h.nm⟩
theorem dM.grow(h:dM C p g w i k aG v fs)(f:Below w.heap.size w w1)(c:aP p q w.heap.size):dM C q g w1 i k aG v fs:=by
 have l:=World.block_lt_of_cell? _ _ h.c9;simp only at l;have d:∀o,p (g.nb i) o=none→q (g.nb i) o=none:=fun o e=>by
  cases m:q (g.nb i) o with
  |none=>rfl
  |some x=>
   rcases c.new _ _ _ m with a|a
   ·rw[e]at a;cases a
   ·omega
 have a:=h.below f;exact⟨h.fl,a.c9,a.f9,d 9 h.d9,d 0 h.d0,a.row,fun b e o=>c.aJ (h.row.lt _ e).2 (h.rd b e) o,fun j n=>c.le _ _ _ (h.nm j n)⟩
theorem dM.step(h:dM C p g w i k aG v fs)(f:BS C p g mv ms w)(hi:i<g.len)(c:aD C p g mv ms w q g1 ms1 w1):dM C q g1 w1 i k aG v fs:=by
 have l:=World.block_lt_of_cell? _ _ h.c9;simp only at l;have n:¬(g.nb i=C.bb∨mv.ownBlock=some (g.nb i)):=fun e=>by
  have:=(f.ib (b:=g.nb i) (e.imp Eq.symm id)).2.2 1;rw[f.nm i hi]at this;cases this
 have s:∀o,p (g.nb i) o=none→q (g.nb i) o=none:=fun o e=>by
  cases t:q (g.nb i) o with
  |none=>rfl
  |some x=>
   rcases c.gr.new _ _ _ t with m|m
   ·rw[e]at m;cases m
   ·omega
 have a:=aD.row f c (by decide) h.row (by omega) h.rd;have d:=c.gs.nb;refine⟨h.fl,?_,?_,?_,?_,a.1,a.2,fun j u=>c.gr.le _ _ _ (h.nm j u)⟩
 ·rw[d,c.kept.cell l n];exact h.c9
 ·rw[d,c.kept.frozen l n];exact h.f9
 ·rw[d];exact s 9 h.d9
 ·rw[d];exact s 0 h.d0
end
def lL(C:BC)(p:Pm)(g:Ge)(mv:Value)(ms:List Nat)(N:Nat)(i k:Nat)(aG:Nat→ByteArray)(v:Value)(w:World)(e:Ending)(f:World):Prop:=
 e= .returned (.tuple #[])∧∃q h a d l j,BS C q h a d f∧dM C q h f i (k+1) aG l j∧aP p q w.heap.size∧aH g h∧Kept (fun c=>c=C.bb∨mv.ownBlock=some c∨c=g.nb i∨v.ownBlock=some c) w f∧(∀b,a.ownBlock=some b→mv.ownBlock=some b∨w.heap.size≤b)∧(∀b,l.ownBlock=some b→v.ownBlock=some b∨w.heap.size≤b)∧d.length≤ms.length+N
theorem xy{C:BC}{p q:Pm}{g g1:Ge}{mv mv1:Value}{ms ms1:List Nat}{i k:Nat}{aG:Nat→ByteArray}{v A:Value}{fs:List Nat}{w F w1 m:World}{nm:ByteArray}{pk:Option Addr}{s:Nat}(hi:i<g.len)(hB:BS C p g mv ms w)(B:Below w.heap.size w F)(G:aP p q F.heap.size)(t:aH g g1)(W:Kept (fun c=>c=C.bb∨mv.ownBlock=some c) F w1)(u:BS C q g1 mv1 ms1 w1)(H:∀b,mv1.ownBlock=some b→mv.ownBlock=some b∨w.heap.size≤b)(hM:dM C q g1 w1 i k aG v fs)(I:aG k=nm)
 (D:m.cell? ⟨g1.nb i,9,none⟩=some A)(hf:m.frozen? ⟨g1.nb i,9,none⟩=false)(Y:A.ownBlock=v.ownBlock∨∃k,A.ownBlock=some k∧w1.heap.size+1≤k)(hr:m.ownsRow (C.bb+1) 107 1 A (fs++ [w1.heap.size]).length ((fs++ [w1.heap.size]).map pv))
 (E:Kept (fun c=>c=g1.nb i∨v.ownBlock=some c) (w1.alloc (.cells #[.int .i64 0,.pointer pk,.string nm,ae 102 s,.bool false,.bool false] 195)) m)(y:∀o,o≠9→m.cell? ⟨g1.nb i,o,none⟩=(w1.alloc (.cells #[.int .i64 0,.pointer pk,.string nm,ae 102 s,.bool false,.bool false] 195)).cell? ⟨g1.nb i,o,none⟩)(J:Plain (w1.alloc (.cells #[.int .i64 0,.pointer pk,.string nm,ae 102 s,.bool false,.bool false] 195)) (g1.nb i)→Plain m (g1.nb i)){N:Nat}(K:ms1.length≤ms.length+N):
 lL C p g mv ms N i k aG v w (.returned (.tuple #[])) m:=by
 have a:=u.box #[.int .i64 0,.pointer pk,.string nm,ae 102 s,.bool false,.bool false] 195;have hd:∀o,q w1.heap.size o=none:=fun o=>u.wb.kw.aJ (Nat.le_refl _) o;have n:=Pm.dC (cs:=#[.int .i64 0,.pointer pk,.string nm,ae 102 s,.bool false,.bool false]) hd (Nat.le_refl _);have z:Below w1.heap.size w1 (w1.alloc (.cells #[.int .i64 0,.pointer pk,.string nm,ae 102 s,.bool false,.bool false] 195)):=(Below.refl _ _).alloc (Nat.le_refl _) _;have d:=hM.grow z n;have L:(q.add w1.heap.size #[.int .i64 0,.pointer pk,.string nm,ae 102 s,.bool false,.bool false]) w1.heap.size 2=some (.string nm):=by rw[Pm.aX];rfl
 have Z:w1.heap.size<(w1.alloc (.cells #[.int .i64 0,.pointer pk,.string nm,ae 102 s,.bool false,.bool false] 195)).heap.size:=by simp
 generalize PQ:#[Value.int .i64 0,.pointer pk,.string nm,ae 102 s,.bool false,.bool false]=cs at*;generalize PR:q.add w1.heap.size cs=M at*;generalize O:w1.alloc (.cells cs 195)=w2 at*;have P:i<g1.len:=by rw[t.len];exact hi
 have h:=a.nm i P;have PS:=a.bl;have PM:=World.block_lt_of_cell? _ _ u.c0;have hX:∀c,c=g1.nb i∨v.ownBlock=some c→C.B0≤c∧M c 0=none∧c≠C.bb∧mv1.ownBlock≠some c:=fun c D=>by
  rcases D with rfl|e
  ·exact⟨a.lp _ _ _ h,d.d0,fun e=>(by have:=a.pb 1;rw[←e,h]at this;cases this),fun e=>(by have:=(a.rd _ e).2 1;rw[h]at this;cases this)⟩
  ·have h1:=(d.row.lt c e).1
   have h2:=a.apart (by decide) d.row (by omega) e;exact⟨by omega,d.rd c e 0,h2.1,h2.2⟩
 have PT:v.ownBlock≠some (g1.nb i):=fun e=>by have:=d.rd _ e 1;rw[h]at this;cases this
 have Q:∀c,c=g1.nb i∨v.ownBlock=some c→c≠5:=fun c D=>by have:=(hX c D).1;have:=a.gv;omega
 have R:WB M m:=by
  refine⟨fun b o x e=> ?_,fun b o x e=> ?_,fun c h1 h2=> ?_⟩
  ·by_cases f:b=g1.nb i
   ·subst f
    rw[y o fun e9=>by rw[e9,d.d9]at e;cases e];exact a.wb.kw _ _ _ e
   ·rw[E.cell (a.wb.kw.lt e) fun l=>l.elim f fun l=>by rw[d.rd b l o]at e;cases e]
    exact a.wb.kw _ _ _ e
  ·by_cases f:b=g1.nb i
   ·subst f;exact J (a.wb.pl _ _ _ e)
   ·obtain⟨S,T',hb⟩:=a.wb.pl _ _ _ e
    exact⟨S,T',(E.block b (a.wb.kw.lt e) fun l=>l.elim f fun l=>by rw[d.rd b l o]at e;cases e).trans hb⟩
  ·have:=a.wb.cap c h1 h2
   rw[E.cell (World.block_lt_of_cell? _ _ this) fun l=>Q _ l rfl];exact this
 have T:=a.rJ E R hX;have U:=B.size;have PN:=W.size;have PO:=z.size;refine⟨rfl,M,g1,mv1,ms1,A,fs++ [w1.heap.size],T,⟨by simp[hM.fl],D,hf,d.d9,d.d0,hr,fun b e o=> ?_,fun j hj=> ?_⟩,(G.mono U).trans (n.mono (by omega)) (Nat.le_refl _),t,?_,fun b e=>H b e,fun b e=> ?_,K⟩
 ·rcases Y with f|⟨k',f,V⟩
  ·rw[f]at e;exact d.rd b e o
  ·rw[f]at e;cases e
   refine a.wb.kw.aJ ?_ o;rw[←O];simp;omega
 ·by_cases e:j=k
  ·subst e
   rw[show(fs++ [w1.heap.size]).getD j 0=w1.heap.size by simp[List.getD,←hM.fl],I];exact L
  ·rw[show(fs++ [w1.heap.size]).getD j 0=fs.getD j 0 by have:=hM.fl;simp[List.getD,List.getElem?_append_left (show j<fs.length by omega)]]
   exact d.nm j (by omega)
 ·refine(((Kept.of (X:=fun c=>c=C.bb∨mv.ownBlock=some c∨c=g.nb i∨v.ownBlock=some c) B).trans W fun c _ e=>e.elim .inl fun e=> .inr (.inl e)).below z).trans E fun c _ e=> ?_
  rcases e with e|e
  ·exact .inr (.inr (.inl (by rw[e,t.nb])))
  ·exact .inr (.inr (.inr e))
 ·rcases Y with f|⟨k',f,V⟩
  ·rw[f]at e;exact .inl e
  ·rw[f]at e;cases e;exact .inr (by omega)
end TS
namespace TS
open Go Go.RowKit Go.Proofs.YtdkmnkjhhhmglaaGreatDoor
theorem BS.xz{C:BC}{p:Pm}{g:Ge}{mv:Value}{ms:List Nat}{w:World}(h:BS C p g mv ms w){i:Nat}(hi:i<g.len):¬(g.nb i=C.bb∨mv.ownBlock=some (g.nb i)):=fun e=>by
 have:=(h.ib (b:=g.nb i) (e.imp Eq.symm id)).2.2 1;rw[h.nm i hi]at this;cases this
end TS
namespace Go.Proofs.YtdkmnkjhhhmglaaGreatDoor
open Go.RowKit TS
theorem FH(C:BC)(i k:Nat)(nm:ByteArray)(sg:U)(a:Option Addr)(c:Nat)(s:ByteArray)(aG:Nat→ByteArray)(v:Value)(fs:List Nat)(p:Pm)(g:Ge)(mv:Value)(ms:List Nat)(w:World)(hi:i<g.len)(hB:BS C p g mv ms w)(hM:dM C p g w i k aG v fs)(hx:p (g.nb i) 5=some (.int .u32 15))(P2:p (g.ob i) 1=some (ptr g.pk))(P3:p g.pk 0=some (.string s))
 (hk:sg.k=7)(hm:0≤sg.m∧sg.m.toNat≤sg.es.length)(hv:sg.v=true→0<sg.m.toNat∧∃e,sg.es[sg.m.toNat- 1]?=some e∧e.k=4)(hI:∀e∈sg.es,bZ C e)(hu:ak C.pa C.D sg a c)(Qp:ms.length+cn sg≤1099511627776)(QC:k≤1048576)(P4:aG k=nm)(P5:∀j,j<k→((aG j).toList==nm.toList)=false)(h_:(nm.toList== [95])=false):
 Calls Tryz.prog 41 #[.pointer (some ⟨C.bb,0,none⟩),.int .i64 i,.agg #[.string nm,.bool false,.int .i64 sg.k,.int .i64 sg.n,.int .i64 sg.m,.bool sg.v,.string sg.nm,.string sg.tg,.slice a sg.es.length c]] w (lL C p g mv ms (cn sg) i k aG v w):=by
 have y:=Lib.hid hB;have O:=Lib.hid hM;have P6:Hid (∀r W,Below w.heap.size w W→Calls Tryz.prog 88 #[.pointer (some ⟨C.bb,0,none⟩),.pointer r,.agg #[.int .i64 sg.k,.int .i64 sg.n,.int .i64 sg.m,.bool sg.v,.string sg.nm,.string sg.tg,.slice a sg.es.length c]] W (nC C sg p g mv ms r W)):=fun r W hW=>pq C sg r hk hm hv hI p g mv ms a c W (hB.below hW) Qp hu;have z0:=hB.c0;obtain⟨z1,S⟩:=hB.c1;obtain⟨T,z,PS,PT⟩:=S i hi;rw[PS]at z1;have P7:=Lib.hid PS;have zr:=hB.wb.kw _ _ _ PT;have Qq:=World.block_lt_of_cell? _ _ zr;have Qr:=World.block_lt_of_cell? _ _ z0;simp only at Qq Qr;have I:=Lib.hid PT;have QD:(i:Int)<(g.len:Int):=by omega
 have Qs:=Lib.hid hx;have P8:=Lib.hid P2;have P9:=Lib.hid P3;have P_:(w.alloc (.cells #[.string nm,.bool false,.int .i64 sg.k,.int .i64 sg.n,.int .i64 sg.m,.bool sg.v,.string sg.nm,.string sg.tg,.slice a sg.es.length c] 73)).heap[w.heap.size]?=some (.cells #[.string nm,.bool false,.int .i64 sg.k,.int .i64 sg.n,.int .i64 sg.m,.bool sg.v,.string sg.nm,.string sg.tg,.slice a sg.es.length c] 73):=cV rfl;have V:(w.alloc (.cells #[.string nm,.bool false,.int .i64 sg.k,.int .i64 sg.n,.int .i64 sg.m,.bool sg.v,.string sg.nm,.string sg.tg,.slice a sg.es.length c] 73)).cell? ⟨w.heap.size,0,none⟩=some (.string nm)∧((w.alloc (.cells #[.string nm,.bool false,.int .i64 sg.k,.int .i64 sg.n,.int .i64 sg.m,.bool sg.v,.string sg.nm,.string sg.tg,.slice a sg.es.length c] 73)).cell? ⟨w.heap.size,2,none⟩=some (.int .i64 sg.k)∧(w.alloc (.cells #[.string nm,.bool false,.int .i64 sg.k,.int .i64 sg.n,.int .i64 sg.m,.bool sg.v,.string sg.nm,.string sg.tg,.slice a sg.es.length c] 73)).cell? ⟨w.heap.size,2+1,none⟩=some (.int .i64 sg.n)∧(w.alloc (.cells #[.string nm,.bool false,.int .i64 sg.k,.int .i64 sg.n,.int .i64 sg.m,.bool sg.v,.string sg.nm,.string sg.tg,.slice a sg.es.length c] 73)).cell? ⟨w.heap.size,2+2,none⟩=some (.int .i64 sg.m)∧(w.alloc (.cells #[.string nm,.bool false,.int .i64 sg.k,.int .i64 sg.n,.int .i64 sg.m,.bool sg.v,.string sg.nm,.string sg.tg,.slice a sg.es.length c] 73)).cell? ⟨w.heap.size,2+3,none⟩=some (.bool sg.v)∧(w.alloc (.cells #[.string nm,.bool false,.int .i64 sg.k,.int .i64 sg.n,.int .i64 sg.m,.bool sg.v,.string sg.nm,.string sg.tg,.slice a sg.es.length c] 73)).cell? ⟨w.heap.size,2+4,none⟩=some (.string sg.nm)∧(w.alloc (.cells #[.string nm,.bool false,.int .i64 sg.k,.int .i64 sg.n,.int .i64 sg.m,.bool sg.v,.string sg.nm,.string sg.tg,.slice a sg.es.length c] 73)).cell? ⟨w.heap.size,2+5,none⟩=some (.string sg.tg)∧(w.alloc (.cells #[.string nm,.bool false,.int .i64 sg.k,.int .i64 sg.n,.int .i64 sg.m,.bool sg.v,.string sg.nm,.string sg.tg,.slice a sg.es.length c] 73)).cell? ⟨w.heap.size,2+6,none⟩=some (.slice a sg.es.length c)):=by(repeat' apply And.intro)<;>(simp only[World.cell?,P_];rfl)
 have J:Below w.heap.size w (w.alloc (.cells #[.string nm,.bool false,.int .i64 sg.k,.int .i64 sg.n,.int .i64 sg.m,.bool sg.v,.string sg.nm,.string sg.tg,.slice a sg.es.length c] 73)):=(Below.refl _ _).alloc (Nat.le_refl _) _;have PU:Below w.heap.size w (((w.alloc (.cells #[.string nm,.bool false,.int .i64 sg.k,.int .i64 sg.n,.int .i64 sg.m,.bool sg.v,.string sg.nm,.string sg.tg,.slice a sg.es.length c] 73)).alloc (.cells #[.int .i64 0,.pointer (some ⟨g.pk,0,none⟩),.string ⟨#[]⟩,ae 58 (g.nb i),.int .u8 1,.bool false] 175)).drew):=(J.alloc (by simp<;>omega) _).drew;have Qa:(((w.alloc (.cells #[.string nm,.bool false,.int .i64 sg.k,.int .i64 sg.n,.int .i64 sg.m,.bool sg.v,.string sg.nm,.string sg.tg,.slice a sg.es.length c] 73)).alloc (.cells #[.int .i64 0,.pointer (some ⟨g.pk,0,none⟩),.string ⟨#[]⟩,ae 58 (g.nb i),.int .u8 1,.bool false] 175)).cell? ⟨w.heap.size,2,none⟩=some (.int .i64 sg.k)∧((w.alloc (.cells #[.string nm,.bool false,.int .i64 sg.k,.int .i64 sg.n,.int .i64 sg.m,.bool sg.v,.string sg.nm,.string sg.tg,.slice a sg.es.length c] 73)).alloc (.cells #[.int .i64 0,.pointer (some ⟨g.pk,0,none⟩),.string ⟨#[]⟩,ae 58 (g.nb i),.int .u8 1,.bool false] 175)).cell? ⟨w.heap.size,2+1,none⟩=some (.int .i64 sg.n)∧((w.alloc (.cells #[.string nm,.bool false,.int .i64 sg.k,.int .i64 sg.n,.int .i64 sg.m,.bool sg.v,.string sg.nm,.string sg.tg,.slice a sg.es.length c] 73)).alloc (.cells #[.int .i64 0,.pointer (some ⟨g.pk,0,none⟩),.string ⟨#[]⟩,ae 58 (g.nb i),.int .u8 1,.bool false] 175)).cell? ⟨w.heap.size,2+2,none⟩=some (.int .i64 sg.m)∧((w.alloc (.cells #[.string nm,.bool false,.int .i64 sg.k,.int .i64 sg.n,.int .i64 sg.m,.bool sg.v,.string sg.nm,.string sg.tg,.slice a sg.es.length c] 73)).alloc (.cells #[.int .i64 0,.pointer (some ⟨g.pk,0,none⟩),.string ⟨#[]⟩,ae 58 (g.nb i),.int .u8 1,.bool false] 175)).cell? ⟨w.heap.size,2+3,none⟩=some (.bool sg.v)∧((w.alloc (.cells #[.string nm,.bool false,.int .i64 sg.k,.int .i64 sg.n,.int .i64 sg.m,.bool sg.v,.string sg.nm,.string sg.tg,.slice a sg.es.length c] 73)).alloc (.cells #[.int .i64 0,.pointer (some ⟨g.pk,0,none⟩),.string ⟨#[]⟩,ae 58 (g.nb i),.int .u8 1,.bool false] 175)).cell? ⟨w.heap.size,2+4,none⟩=some (.string sg.nm)∧((w.alloc (.cells #[.string nm,.bool false,.int .i64 sg.k,.int .i64 sg.n,.int .i64 sg.m,.bool sg.v,.string sg.nm,.string sg.tg,.slice a sg.es.length c] 73)).alloc (.cells #[.int .i64 0,.pointer (some ⟨g.pk,0,none⟩),.string ⟨#[]⟩,ae 58 (g.nb i),.int .u8 1,.bool false] 175)).cell? ⟨w.heap.size,2+5,none⟩=some (.string sg.tg)∧((w.alloc (.cells #[.string nm,.bool false,.int .i64 sg.k,.int .i64 sg.n,.int .i64 sg.m,.bool sg.v,.string sg.nm,.string sg.tg,.slice a sg.es.length c] 73)).alloc (.cells #[.int .i64 0,.pointer (some ⟨g.pk,0,none⟩),.string ⟨#[]⟩,ae 58 (g.nb i),.int .u8 1,.bool false] 175)).cell? ⟨w.heap.size,2+6,none⟩=some (.slice a sg.es.length c))∧((w.alloc (.cells #[.string nm,.bool false,.int .i64 sg.k,.int .i64 sg.n,.int .i64 sg.m,.bool sg.v,.string sg.nm,.string sg.tg,.slice a sg.es.length c] 73)).alloc (.cells #[.int .i64 0,.pointer (some ⟨g.pk,0,none⟩),.string ⟨#[]⟩,ae 58 (g.nb i),.int .u8 1,.bool false] 175)).cell? ⟨w.heap.size,0,none⟩=some (.string nm):=by
  have l:Below (w.alloc (.cells #[.string nm,.bool false,.int .i64 sg.k,.int .i64 sg.n,.int .i64 sg.m,.bool sg.v,.string sg.nm,.string sg.tg,.slice a sg.es.length c] 73)).heap.size (w.alloc (.cells #[.string nm,.bool false,.int .i64 sg.k,.int .i64 sg.n,.int .i64 sg.m,.bool sg.v,.string sg.nm,.string sg.tg,.slice a sg.es.length c] 73)) ((w.alloc (.cells #[.string nm,.bool false,.int .i64 sg.k,.int .i64 sg.n,.int .i64 sg.m,.bool sg.v,.string sg.nm,.string sg.tg,.slice a sg.es.length c] 73)).alloc (.cells #[.int .i64 0,.pointer (some ⟨g.pk,0,none⟩),.string ⟨#[]⟩,ae 58 (g.nb i),.int .u8 1,.bool false] 175)):=(Below.refl _ _).alloc (Nat.le_refl _) _;obtain⟨k0,k1,k2,k3,k4,k5,k6,k7⟩:=V;exact⟨⟨ar l k1,ar l k2,ar l k3,ar l k4,ar l k5,ar l k6,ar l k7⟩,ar l k0⟩
 have PV:((w.alloc (.cells #[.string nm,.bool false,.int .i64 sg.k,.int .i64 sg.n,.int .i64 sg.m,.bool sg.v,.string sg.nm,.string sg.tg,.slice a sg.es.length c] 73)).alloc (.cells #[.int .i64 0,.pointer (some ⟨g.pk,0,none⟩),.string ⟨#[]⟩,ae 58 (g.nb i),.int .u8 1,.bool false] 175)).cell? ⟨C.bb,0,none⟩=some (ptr g.pk):=ar (J.alloc (by simp<;>omega) _) z0;have PW:((w.alloc (.cells #[.string nm,.bool false,.int .i64 sg.k,.int .i64 sg.n,.int .i64 sg.m,.bool sg.v,.string sg.nm,.string sg.tg,.slice a sg.es.length c] 73)).alloc (.cells #[.int .i64 0,.pointer (some ⟨g.pk,0,none⟩),.string ⟨#[]⟩,ae 58 (g.nb i),.int .u8 1,.bool false] 175)).cell? ⟨C.bb,1,none⟩=some (.slice (some ⟨T,z,none⟩) g.len C.dc):=ar (J.alloc (by simp<;>omega) _) z1;have PX:((w.alloc (.cells #[.string nm,.bool false,.int .i64 sg.k,.int .i64 sg.n,.int .i64 sg.m,.bool sg.v,.string sg.nm,.string sg.tg,.slice a sg.es.length c] 73)).alloc (.cells #[.int .i64 0,.pointer (some ⟨g.pk,0,none⟩),.string ⟨#[]⟩,ae 58 (g.nb i),.int .u8 1,.bool false] 175)).cell? ⟨T,z+i,none⟩=some (ptr (g.nb i)):=ar (J.alloc (by simp<;>omega) _) zr;have X:=Lib.hid (P6.out (some ⟨w.heap.size+1,0,none⟩) _ PU);have L:=Lib.hid PU;have Qb:=Lib.hid Qa;have Qt:=Lib.hid (And.intro PV (And.intro PW PX));have Qc:=Lib.hid P4;have Qd:=Lib.hid P5;have QE:=Lib.hid hk;clear hB hM hk hm hv hI hu S PT hx P2 P3 P_ V P4 P5 PS J PU Qa PV PW PX P6;go_enter Tryz.func41,Tryz.ntmps41;go_wp2_with fail
 refine(uJ _ _ _ _ _ _).mono ?_;rintro e1 w1 ⟨rfl,rfl⟩;obtain⟨⟨k1,k2,k3,k4,k5,k6,k7⟩,k0⟩:=Qb.out;obtain⟨PV,PW,PX⟩:=Qt.out;go_wp2_with fail
 have Qy:w.heap.size<((w.alloc (.cells #[.string nm,.bool false,.int .i64 sg.k,.int .i64 sg.n,.int .i64 sg.m,.bool sg.v,.string sg.nm,.string sg.tg,.slice a sg.es.length c] 73)).alloc (.cells #[.int .i64 0,.pointer (some ⟨g.pk,0,none⟩),.string ⟨#[]⟩,ae 58 (g.nb i),.int .u8 1,.bool false] 175)).heap.size:=by simp<;>omega
 generalize ((w.alloc (.cells #[.string nm,.bool false,.int .i64 sg.k,.int .i64 sg.n,.int .i64 sg.m,.bool sg.v,.string sg.nm,.string sg.tg,.slice a sg.es.length c] 73)).alloc (.cells #[.int .i64 0,.pointer (some ⟨g.pk,0,none⟩),.string ⟨#[]⟩,ae 58 (g.nb i),.int .u8 1,.bool false] 175))=W1 at*;refine oR (fun W=>(W.cell? ⟨C.bb,0,none⟩=some (ptr g.pk)∧W.cell? ⟨C.bb,1,none⟩=some (.slice (some ⟨T,z,none⟩) g.len C.dc)∧W.cell? ⟨T,z+i,none⟩=some (ptr (g.nb i))∧W.cell? ⟨w.heap.size,0,none⟩=some (.string nm))∧(W.cell? ⟨w.heap.size,2,none⟩=some (.int .i64 sg.k)∧W.cell? ⟨w.heap.size,2+1,none⟩=some (.int .i64 sg.n)∧W.cell? ⟨w.heap.size,2+2,none⟩=some (.int .i64 sg.m)∧W.cell? ⟨w.heap.size,2+3,none⟩=some (.bool sg.v)∧W.cell? ⟨w.heap.size,2+4,none⟩=some (.string sg.nm)∧W.cell? ⟨w.heap.size,2+5,none⟩=some (.string sg.tg)∧W.cell? ⟨w.heap.size,2+6,none⟩=some (.slice a sg.es.length c))) [(0,true),(1,true),(2,true),(3,true),(4,true),(5,true),(6,true),(7,true),(8,true),(9,true),(10,true),(11,true),(12,true),(13,true),(14,true),(15,true),(16,true),(17,false),(18,false),(19,false)] (by(repeat' apply And.intro)<;>assumption) (fun t=> ?_);iterate 17 ((first|refine oS ?_|refine oF t ?_);try simp only[Act.put,oa,ob,oc])
 refine oL fun K Y=> ?_;go_simp;go_at_call 88
 refine X.out.mono ?_;rintro e2 w1 ⟨s1,q,g1,mv1,ms1,rfl,Qu,A,d,Qe,QF,Qz,QG,QH,Qv⟩;have Qw:=Lib.hid (aD.ahead L.out d);have u:=O.out.step y.out hi Qw.out;have Z:w1.cell? ⟨C.bb,0,none⟩=some (ptr g.pk):=by
  have h1:=A.c0;rwa [d.gs.pk]at h1
 have PM:w1.cell? ⟨C.bb,1,none⟩=some (.slice (some ⟨T,z,none⟩) g.len C.dc):=by
  have h1:=A.c1.1;rwa [d.gs.len,P7.out]at h1
 have Qf:w1.cell? ⟨T,z+i,none⟩=some (ptr (g.nb i)):=A.wb.kw _ _ _ (d.gr.le _ _ _ I.out);have Qg:∀o v,(W1.drew).cell? ⟨w.heap.size,o,none⟩=some v→w1.cell? ⟨w.heap.size,o,none⟩=some v:=fun o v h=>by
  rw[d.kept.cell (World.block_lt_of_cell? _ _ h) fun e=> ?_]
  ·exact h
  ·rcases e with(e:w.heap.size=C.bb)|e
   ·omega
   ·have:=(y.out.ib (b:=w.heap.size) (.inr e)).2.1;omega
 obtain⟨⟨_,_,_,p0⟩,s0,M,s2,s3,s4,s5,s6⟩:=t;(try simp only[]);refine Y _ _ (by(repeat' apply And.intro)<;>first|exact Z|exact PM|exact Qf|exact Qg _ _ (by assumption)) fun t=> ?_;clear Y K;try simp only[Act.put,oa,ob,oc]
 have e1:g1.nb=g.nb:=d.gs.nb;have PY:Below w1.heap.size w1 (w1.alloc (.cells #[.int .i64 0,.pointer (some ⟨g.pk,0,none⟩),.string nm,ae 102 s1,.bool false,.bool false] 195)):=(Below.refl _ _).alloc (Nat.le_refl _) _;have P:=u.below PY;have PZ:(w1.alloc (.cells #[.int .i64 0,.pointer (some ⟨g.pk,0,none⟩),.string nm,ae 102 s1,.bool false,.bool false] 195)).heap[w1.heap.size]?=some (.cells #[.int .i64 0,.pointer (some ⟨g.pk,0,none⟩),.string nm,ae 102 s1,.bool false,.bool false] 195):=cV rfl;have H:∀b o v,q b o=some v→(w1.alloc (.cells #[.int .i64 0,.pointer (some ⟨g.pk,0,none⟩),.string nm,ae 102 s1,.bool false,.bool false] 195)).cell? ⟨b,o,none⟩=some v:=fun b o v e=>ar PY (A.wb.kw _ _ _ e);have F:=d.gr.le _ _ _ (y.out.nm i hi);have B:=P.c9;have E:=P.f9;rw[e1]at B E;have Qh:=World.block_lt_of_cell? _ _ A.c0;simp only at Qh;have hAdd:=Lib.hid (vm (C.bb+1) (g.nb i) (g.ob i) w1.heap.size g.pk s nm fs aG v (w1.alloc (.cells #[.int .i64 0,.pointer (some ⟨g.pk,0,none⟩),.string nm,ae 102 s1,.bool false,.bool false] 195)) (by have:=u.fl;omega) (H _ _ _ F) (H _ _ _ (d.gr.le _ _ _ Qs.out)) B E (fun e=>by rw[u.rd _ e 1]at F;cases F) P.row (by simp;omega) (H _ _ _ (d.gr.le _ _ _ P8.out)) (by simp only[World.cell?,PZ];rfl) (by simp only[World.cell?,PZ];rfl) (H _ _ _ (d.gr.le _ _ _ P9.out)) (fun j hj=>by
  have:=u.nm j (by have:=u.fl;omega);rw[show fs.getD j 0=fs[j] by simp[List.getD,hj]]at this;exact H _ _ _ this) (fun j hj=>Qd.out j (by have:=u.fl;omega)) h_)
 have Qi:=Lib.hid u;have Qj:=Lib.hid A;have G:=Lib.hid d;have Qk:=Lib.hid (show ∀b,mv1.ownBlock=some b→mv.ownBlock=some b∨w.heap.size≤b from fun b e=>(Qe b e).imp id fun h=>Nat.le_trans L.out.size h);have Qx:=Lib.hid e1;clear Qu A d Qe Z PM Qf Qg u P B E PZ H F X s0 M s2 s3 s4 s5 s6 p0 e1 PY;refine oL fun K Y=> ?_;go_simp;go_at_call 73
 refine(oJ _ _ _ _ _).mono ?_;rintro e3 w3 ⟨rfl,rfl⟩;obtain⟨⟨p1,p2,p3,p0⟩,s0,M,s2,s3,s4,s5,s6⟩:=t;(try simp only[]);refine Y _ _ (by(repeat' apply And.intro)<;>exact ar ((Below.refl _ _).alloc (Nat.le_refl _) _) (by assumption)) fun t=> ?_;clear Y K;try simp only[Act.put,oa,ob,oc]
 clear s0 M s2 s3 s4 s5 s6 p0 p1 p2 p3;refine oL fun K Y=> ?_;go_simp;go_at_call 92
 refine hAdd.out.mono ?_;rintro e4 w4 ⟨rfl,v',P0,P1,Ql,Qm,Q,f,N⟩;have QA:g.nb i<w.heap.size:=y.out.wb.kw.lt (y.out.nm i hi);have PN:∀b,v.ownBlock=some b→C.bb<b∧b<w.heap.size:=fun b e=>by have:=O.out.row.lt b e;omega
 have QB:w.heap.size<w1.heap.size:=by have:=G.out.size;simp only[World.size_drew]at this;omega
 obtain⟨⟨p1,p2,p3,p0⟩,s0,M,s2,s3,s4,s5,s6⟩:=t;have R:∀b o x,b≠g.nb i→v.ownBlock≠some b→(w1.alloc (.cells #[.int .i64 0,.pointer (some ⟨g.pk,0,none⟩),.string nm,ae 102 s1,.bool false,.bool false] 195)).cell? ⟨b,o,none⟩=some x→w4.cell? ⟨b,o,none⟩=some x:=fun b o x h1 h2 h=>by
  rw[Q.cell (World.block_lt_of_cell? _ _ h) fun e=>e.elim h1 h2];exact h
 have Qn:C.bb≠g.nb i:=fun e=>y.out.xz hi (.inl e.symm);have PO:w4.cell? ⟨T,z+i,none⟩=some (ptr (g.nb i)):=by
  by_cases e:T=g.nb i
  ·rw[e]at p3⊢
   rw[f _ fun e9=>by have:=I.out;rw[e,e9,O.out.d9]at this;cases this];exact p3
  ·exact R _ _ _ e (fun e2=>by have:=I.out;rw[O.out.rd _ e2]at this;cases this) p3
 have PQ:∀o x,(w1.alloc (.cells #[.int .i64 0,.pointer (some ⟨g.pk,0,none⟩),.string nm,ae 102 s1,.bool false,.bool false] 195)).cell? ⟨w.heap.size,o,none⟩=some x→w4.cell? ⟨w.heap.size,o,none⟩=some x:=fun o x h=>R _ _ _ (by omega) (fun e=>by have:=PN _ e;omega) h;have PR:∀o x,(w1.alloc (.cells #[.int .i64 0,.pointer (some ⟨g.pk,0,none⟩),.string nm,ae 102 s1,.bool false,.bool false] 195)).cell? ⟨C.bb,o,none⟩=some x→w4.cell? ⟨C.bb,o,none⟩=some x:=fun o x h=>R _ _ _ Qn (fun e=>by have:=PN _ e;omega) h;(try simp only[]);refine Y _ _ (by(repeat' apply And.intro)<;>first|exact PO|exact PR _ _ (by assumption)|exact PQ _ _ (by assumption)) fun t=> ?_;clear Y K;try simp only[Act.put,oa,ob,oc]
 have Qo:Hid (lL C p g mv ms (cn sg) i k aG v w (.returned (.tuple #[])) w4):=by
  rw[←Qx.out]at P0 P1 Q f N;exact xy hi y.out L.out G.out.gr G.out.gs G.out.kept Qj.out Qk.out Qi.out Qc.out P0 P1 (Ql.imp id fun⟨k,h1,h2⟩=>⟨k,h1,by simpa using h2⟩) Qm Q f N Qv
 refine ch ?_;clear t P0 P1 Ql Qm Q f N R PO PQ PR p1 p2 p3 p0 s0 M s2 s3 s4 s5 s6;go_wp2_with fail
 go_end0
 exact Qo.out
theorem FI(C:BC)(i k:Nat)(nm:ByteArray)(sg:U)(a:Option Addr)(c:Nat)(s:ByteArray)(aG:Nat→ByteArray)(v:Value)(fs:List Nat)(p:Pm)(g:Ge)(mv:Value)(ms:List Nat)(w:World)(hi:i<g.len)(hB:BS C p g mv ms w)(hM:dM C p g w i k aG v fs)(hx:p (g.nb i) 5=some (.int .u32 15))(P2:p (g.ob i) 1=some (ptr g.pk))(P3:p g.pk 0=some (.string s))
 (hk:sg.k=7)(hm:0≤sg.m∧sg.m.toNat≤sg.es.length)(hv:sg.v=true→0<sg.m.toNat∧∃e,sg.es[sg.m.toNat- 1]?=some e∧e.k=4)(hI:∀e∈sg.es,bZ C e)(hu:ak C.pa C.D sg a c)(Qp:ms.length+cn sg≤1099511627776)(QC:k≤1048576)(P4:aG k=nm)(P5:∀j,j<k→((aG j).toList==nm.toList)=false)(h_:(nm.toList== [95])=false):
 Calls Tryz.prog 41 #[.pointer (some ⟨C.bb,0,none⟩),.int .i64 i,.agg #[.string nm,.bool true,.int .i64 sg.k,.int .i64 sg.n,.int .i64 sg.m,.bool sg.v,.string sg.nm,.string sg.tg,.slice a sg.es.length c]] w (lL C p g mv ms (cn sg) i k aG v w):=by
 have y:=Lib.hid hB;have O:=Lib.hid hM;have P6:Hid (∀r W,Below w.heap.size w W→Calls Tryz.prog 88 #[.pointer (some ⟨C.bb,0,none⟩),.pointer r,.agg #[.int .i64 sg.k,.int .i64 sg.n,.int .i64 sg.m,.bool sg.v,.string sg.nm,.string sg.tg,.slice a sg.es.length c]] W (nC C sg p g mv ms r W)):=fun r W hW=>pq C sg r hk hm hv hI p g mv ms a c W (hB.below hW) Qp hu;have z0:=hB.c0;obtain⟨z1,S⟩:=hB.c1;obtain⟨T,z,PS,PT⟩:=S i hi;rw[PS]at z1;have P7:=Lib.hid PS;have zr:=hB.wb.kw _ _ _ PT;have Qq:=World.block_lt_of_cell? _ _ zr;have Qr:=World.block_lt_of_cell? _ _ z0;simp only at Qq Qr;have I:=Lib.hid PT;have QD:(i:Int)<(g.len:Int):=by omega
 have Qs:=Lib.hid hx;have P8:=Lib.hid P2;have P9:=Lib.hid P3;have P_:(w.alloc (.cells #[.string nm,.bool true,.int .i64 sg.k,.int .i64 sg.n,.int .i64 sg.m,.bool sg.v,.string sg.nm,.string sg.tg,.slice a sg.es.length c] 73)).heap[w.heap.size]?=some (.cells #[.string nm,.bool true,.int .i64 sg.k,.int .i64 sg.n,.int .i64 sg.m,.bool sg.v,.string sg.nm,.string sg.tg,.slice a sg.es.length c] 73):=cV rfl;have V:(w.alloc (.cells #[.string nm,.bool true,.int .i64 sg.k,.int .i64 sg.n,.int .i64 sg.m,.bool sg.v,.string sg.nm,.string sg.tg,.slice a sg.es.length c] 73)).cell? ⟨w.heap.size,0,none⟩=some (.string nm)∧((w.alloc (.cells #[.string nm,.bool true,.int .i64 sg.k,.int .i64 sg.n,.int .i64 sg.m,.bool sg.v,.string sg.nm,.string sg.tg,.slice a sg.es.length c] 73)).cell? ⟨w.heap.size,2,none⟩=some (.int .i64 sg.k)∧(w.alloc (.cells #[.string nm,.bool true,.int .i64 sg.k,.int .i64 sg.n,.int .i64 sg.m,.bool sg.v,.string sg.nm,.string sg.tg,.slice a sg.es.length c] 73)).cell? ⟨w.heap.size,2+1,none⟩=some (.int .i64 sg.n)∧(w.alloc (.cells #[.string nm,.bool true,.int .i64 sg.k,.int .i64 sg.n,.int .i64 sg.m,.bool sg.v,.string sg.nm,.string sg.tg,.slice a sg.es.length c] 73)).cell? ⟨w.heap.size,2+2,none⟩=some (.int .i64 sg.m)∧(w.alloc (.cells #[.string nm,.bool true,.int .i64 sg.k,.int .i64 sg.n,.int .i64 sg.m,.bool sg.v,.string sg.nm,.string sg.tg,.slice a sg.es.length c] 73)).cell? ⟨w.heap.size,2+3,none⟩=some (.bool sg.v)∧(w.alloc (.cells #[.string nm,.bool true,.int .i64 sg.k,.int .i64 sg.n,.int .i64 sg.m,.bool sg.v,.string sg.nm,.string sg.tg,.slice a sg.es.length c] 73)).cell? ⟨w.heap.size,2+4,none⟩=some (.string sg.nm)∧(w.alloc (.cells #[.string nm,.bool true,.int .i64 sg.k,.int .i64 sg.n,.int .i64 sg.m,.bool sg.v,.string sg.nm,.string sg.tg,.slice a sg.es.length c] 73)).cell? ⟨w.heap.size,2+5,none⟩=some (.string sg.tg)∧(w.alloc (.cells #[.string nm,.bool true,.int .i64 sg.k,.int .i64 sg.n,.int .i64 sg.m,.bool sg.v,.string sg.nm,.string sg.tg,.slice a sg.es.length c] 73)).cell? ⟨w.heap.size,2+6,none⟩=some (.slice a sg.es.length c)):=by(repeat' apply And.intro)<;>(simp only[World.cell?,P_];rfl)
 have J:Below w.heap.size w ((w.alloc (.cells #[.string nm,.bool true,.int .i64 sg.k,.int .i64 sg.n,.int .i64 sg.m,.bool sg.v,.string sg.nm,.string sg.tg,.slice a sg.es.length c] 73)).alloc (.cells #[ae 58 (g.nb i)] 180)):=((Below.refl _ _).alloc (Nat.le_refl _) _).alloc (by simp) _;have PU:Below w.heap.size w ((((w.alloc (.cells #[.string nm,.bool true,.int .i64 sg.k,.int .i64 sg.n,.int .i64 sg.m,.bool sg.v,.string sg.nm,.string sg.tg,.slice a sg.es.length c] 73)).alloc (.cells #[ae 58 (g.nb i)] 180)).alloc (.cells #[.int .i64 0,.pointer (some ⟨g.pk,0,none⟩),.string ⟨#[]⟩,ae 142 (w.heap.size+1),.int .u8 1,.bool false] 175)).drew):=(J.alloc (by simp<;>omega) _).drew;have Qa:((((w.alloc (.cells #[.string nm,.bool true,.int .i64 sg.k,.int .i64 sg.n,.int .i64 sg.m,.bool sg.v,.string sg.nm,.string sg.tg,.slice a sg.es.length c] 73)).alloc (.cells #[ae 58 (g.nb i)] 180)).alloc (.cells #[.int .i64 0,.pointer (some ⟨g.pk,0,none⟩),.string ⟨#[]⟩,ae 142 (w.heap.size+1),.int .u8 1,.bool false] 175)).cell? ⟨w.heap.size,2,none⟩=some (.int .i64 sg.k)∧(((w.alloc (.cells #[.string nm,.bool true,.int .i64 sg.k,.int .i64 sg.n,.int .i64 sg.m,.bool sg.v,.string sg.nm,.string sg.tg,.slice a sg.es.length c] 73)).alloc (.cells #[ae 58 (g.nb i)] 180)).alloc (.cells #[.int .i64 0,.pointer (some ⟨g.pk,0,none⟩),.string ⟨#[]⟩,ae 142 (w.heap.size+1),.int .u8 1,.bool false] 175)).cell? ⟨w.heap.size,2+1,none⟩=some (.int .i64 sg.n)∧(((w.alloc (.cells #[.string nm,.bool true,.int .i64 sg.k,.int .i64 sg.n,.int .i64 sg.m,.bool sg.v,.string sg.nm,.string sg.tg,.slice a sg.es.length c] 73)).alloc (.cells #[ae 58 (g.nb i)] 180)).alloc (.cells #[.int .i64 0,.pointer (some ⟨g.pk,0,none⟩),.string ⟨#[]⟩,ae 142 (w.heap.size+1),.int .u8 1,.bool false] 175)).cell? ⟨w.heap.size,2+2,none⟩=some (.int .i64 sg.m)∧(((w.alloc (.cells #[.string nm,.bool true,.int .i64 sg.k,.int .i64 sg.n,.int .i64 sg.m,.bool sg.v,.string sg.nm,.string sg.tg,.slice a sg.es.length c] 73)).alloc (.cells #[ae 58 (g.nb i)] 180)).alloc (.cells #[.int .i64 0,.pointer (some ⟨g.pk,0,none⟩),.string ⟨#[]⟩,ae 142 (w.heap.size+1),.int .u8 1,.bool false] 175)).cell? ⟨w.heap.size,2+3,none⟩=some (.bool sg.v)∧(((w.alloc (.cells #[.string nm,.bool true,.int .i64 sg.k,.int .i64 sg.n,.int .i64 sg.m,.bool sg.v,.string sg.nm,.string sg.tg,.slice a sg.es.length c] 73)).alloc (.cells #[ae 58 (g.nb i)] 180)).alloc (.cells #[.int .i64 0,.pointer (some ⟨g.pk,0,none⟩),.string ⟨#[]⟩,ae 142 (w.heap.size+1),.int .u8 1,.bool false] 175)).cell? ⟨w.heap.size,2+4,none⟩=some (.string sg.nm)∧(((w.alloc (.cells #[.string nm,.bool true,.int .i64 sg.k,.int .i64 sg.n,.int .i64 sg.m,.bool sg.v,.string sg.nm,.string sg.tg,.slice a sg.es.length c] 73)).alloc (.cells #[ae 58 (g.nb i)] 180)).alloc (.cells #[.int .i64 0,.pointer (some ⟨g.pk,0,none⟩),.string ⟨#[]⟩,ae 142 (w.heap.size+1),.int .u8 1,.bool false] 175)).cell? ⟨w.heap.size,2+5,none⟩=some (.string sg.tg)∧(((w.alloc (.cells #[.string nm,.bool true,.int .i64 sg.k,.int .i64 sg.n,.int .i64 sg.m,.bool sg.v,.string sg.nm,.string sg.tg,.slice a sg.es.length c] 73)).alloc (.cells #[ae 58 (g.nb i)] 180)).alloc (.cells #[.int .i64 0,.pointer (some ⟨g.pk,0,none⟩),.string ⟨#[]⟩,ae 142 (w.heap.size+1),.int .u8 1,.bool false] 175)).cell? ⟨w.heap.size,2+6,none⟩=some (.slice a sg.es.length c))∧(((w.alloc (.cells #[.string nm,.bool true,.int .i64 sg.k,.int .i64 sg.n,.int .i64 sg.m,.bool sg.v,.string sg.nm,.string sg.tg,.slice a sg.es.length c] 73)).alloc (.cells #[ae 58 (g.nb i)] 180)).alloc (.cells #[.int .i64 0,.pointer (some ⟨g.pk,0,none⟩),.string ⟨#[]⟩,ae 142 (w.heap.size+1),.int .u8 1,.bool false] 175)).cell? ⟨w.heap.size,0,none⟩=some (.string nm):=by
  have l:Below (w.alloc (.cells #[.string nm,.bool true,.int .i64 sg.k,.int .i64 sg.n,.int .i64 sg.m,.bool sg.v,.string sg.nm,.string sg.tg,.slice a sg.es.length c] 73)).heap.size (w.alloc (.cells #[.string nm,.bool true,.int .i64 sg.k,.int .i64 sg.n,.int .i64 sg.m,.bool sg.v,.string sg.nm,.string sg.tg,.slice a sg.es.length c] 73)) (((w.alloc (.cells #[.string nm,.bool true,.int .i64 sg.k,.int .i64 sg.n,.int .i64 sg.m,.bool sg.v,.string sg.nm,.string sg.tg,.slice a sg.es.length c] 73)).alloc (.cells #[ae 58 (g.nb i)] 180)).alloc (.cells #[.int .i64 0,.pointer (some ⟨g.pk,0,none⟩),.string ⟨#[]⟩,ae 142 (w.heap.size+1),.int .u8 1,.bool false] 175)):=((Below.refl _ _).alloc (Nat.le_refl _) _).alloc (by simp) _;obtain⟨k0,k1,k2,k3,k4,k5,k6,k7⟩:=V;exact⟨⟨ar l k1,ar l k2,ar l k3,ar l k4,ar l k5,ar l k6,ar l k7⟩,ar l k0⟩
 have PV:(((w.alloc (.cells #[.string nm,.bool true,.int .i64 sg.k,.int .i64 sg.n,.int .i64 sg.m,.bool sg.v,.string sg.nm,.string sg.tg,.slice a sg.es.length c] 73)).alloc (.cells #[ae 58 (g.nb i)] 180)).alloc (.cells #[.int .i64 0,.pointer (some ⟨g.pk,0,none⟩),.string ⟨#[]⟩,ae 142 (w.heap.size+1),.int .u8 1,.bool false] 175)).cell? ⟨C.bb,0,none⟩=some (ptr g.pk):=ar (J.alloc (by simp<;>omega) _) z0;have PW:(((w.alloc (.cells #[.string nm,.bool true,.int .i64 sg.k,.int .i64 sg.n,.int .i64 sg.m,.bool sg.v,.string sg.nm,.string sg.tg,.slice a sg.es.length c] 73)).alloc (.cells #[ae 58 (g.nb i)] 180)).alloc (.cells #[.int .i64 0,.pointer (some ⟨g.pk,0,none⟩),.string ⟨#[]⟩,ae 142 (w.heap.size+1),.int .u8 1,.bool false] 175)).cell? ⟨C.bb,1,none⟩=some (.slice (some ⟨T,z,none⟩) g.len C.dc):=ar (J.alloc (by simp<;>omega) _) z1;have PX:(((w.alloc (.cells #[.string nm,.bool true,.int .i64 sg.k,.int .i64 sg.n,.int .i64 sg.m,.bool sg.v,.string sg.nm,.string sg.tg,.slice a sg.es.length c] 73)).alloc (.cells #[ae 58 (g.nb i)] 180)).alloc (.cells #[.int .i64 0,.pointer (some ⟨g.pk,0,none⟩),.string ⟨#[]⟩,ae 142 (w.heap.size+1),.int .u8 1,.bool false] 175)).cell? ⟨T,z+i,none⟩=some (ptr (g.nb i)):=ar (J.alloc (by simp<;>omega) _) zr;have X:=Lib.hid (P6.out (some ⟨w.heap.size+2,0,none⟩) _ PU);have L:=Lib.hid PU;have Qb:=Lib.hid Qa;have Qt:=Lib.hid (And.intro PV (And.intro PW PX));have Qc:=Lib.hid P4;have Qd:=Lib.hid P5;have QE:=Lib.hid hk;clear hB hM hk hm hv hI hu S PT hx P2 P3 P_ V P4 P5 PS J PU Qa PV PW PX P6;go_enter Tryz.func41,Tryz.ntmps41;go_wp2_with fail
 refine(uK _ _ _).mono ?_;rintro e0 w0 ⟨rfl,rfl⟩;go_wp2_with fail
 refine(uJ _ _ _ _ _ _).mono ?_;rintro e1 w1 ⟨rfl,rfl⟩;obtain⟨⟨k1,k2,k3,k4,k5,k6,k7⟩,k0⟩:=Qb.out;obtain⟨PV,PW,PX⟩:=Qt.out;go_wp2_with fail
 have Qy:w.heap.size<(((w.alloc (.cells #[.string nm,.bool true,.int .i64 sg.k,.int .i64 sg.n,.int .i64 sg.m,.bool sg.v,.string sg.nm,.string sg.tg,.slice a sg.es.length c] 73)).alloc (.cells #[ae 58 (g.nb i)] 180)).alloc (.cells #[.int .i64 0,.pointer (some ⟨g.pk,0,none⟩),.string ⟨#[]⟩,ae 142 (w.heap.size+1),.int .u8 1,.bool false] 175)).heap.size:=by simp<;>omega
 generalize (((w.alloc (.cells #[.string nm,.bool true,.int .i64 sg.k,.int .i64 sg.n,.int .i64 sg.m,.bool sg.v,.string sg.nm,.string sg.tg,.slice a sg.es.length c] 73)).alloc (.cells #[ae 58 (g.nb i)] 180)).alloc (.cells #[.int .i64 0,.pointer (some ⟨g.pk,0,none⟩),.string ⟨#[]⟩,ae 142 (w.heap.size+1),.int .u8 1,.bool false] 175))=W1 at*;refine oR (fun W=>(W.cell? ⟨C.bb,0,none⟩=some (ptr g.pk)∧W.cell? ⟨C.bb,1,none⟩=some (.slice (some ⟨T,z,none⟩) g.len C.dc)∧W.cell? ⟨T,z+i,none⟩=some (ptr (g.nb i))∧W.cell? ⟨w.heap.size,0,none⟩=some (.string nm))∧(W.cell? ⟨w.heap.size,2,none⟩=some (.int .i64 sg.k)∧W.cell? ⟨w.heap.size,2+1,none⟩=some (.int .i64 sg.n)∧W.cell? ⟨w.heap.size,2+2,none⟩=some (.int .i64 sg.m)∧W.cell? ⟨w.heap.size,2+3,none⟩=some (.bool sg.v)∧W.cell? ⟨w.heap.size,2+4,none⟩=some (.string sg.nm)∧W.cell? ⟨w.heap.size,2+5,none⟩=some (.string sg.tg)∧W.cell? ⟨w.heap.size,2+6,none⟩=some (.slice a sg.es.length c))) [(0,true),(1,true),(2,true),(3,true),(4,true),(5,true),(6,true),(7,true),(8,true),(9,true),(10,true),(11,true),(12,true),(13,true),(14,true),(15,true),(16,true),(17,false),(18,false),(19,false)] (by(repeat' apply And.intro)<;>assumption) (fun t=> ?_);iterate 17 ((first|refine oS ?_|refine oF t ?_);try simp only[Act.put,oa,ob,oc])
 refine oL fun K Y=> ?_;go_simp;go_at_call 88
 refine X.out.mono ?_;rintro e2 w1 ⟨s1,q,g1,mv1,ms1,rfl,Qu,A,d,Qe,QF,Qz,QG,QH,Qv⟩;have Qw:=Lib.hid (aD.ahead L.out d);have u:=O.out.step y.out hi Qw.out;have Z:w1.cell? ⟨C.bb,0,none⟩=some (ptr g.pk):=by
  have h1:=A.c0;rwa [d.gs.pk]at h1
 have PM:w1.cell? ⟨C.bb,1,none⟩=some (.slice (some ⟨T,z,none⟩) g.len C.dc):=by
  have h1:=A.c1.1;rwa [d.gs.len,P7.out]at h1
 have Qf:w1.cell? ⟨T,z+i,none⟩=some (ptr (g.nb i)):=A.wb.kw _ _ _ (d.gr.le _ _ _ I.out);have Qg:∀o v,(W1.drew).cell? ⟨w.heap.size,o,none⟩=some v→w1.cell? ⟨w.heap.size,o,none⟩=some v:=fun o v h=>by
  rw[d.kept.cell (World.block_lt_of_cell? _ _ h) fun e=> ?_]
  ·exact h
  ·rcases e with(e:w.heap.size=C.bb)|e
   ·omega
   ·have:=(y.out.ib (b:=w.heap.size) (.inr e)).2.1;omega
 obtain⟨⟨_,_,_,p0⟩,s0,M,s2,s3,s4,s5,s6⟩:=t;(try simp only[]);refine Y _ _ (by(repeat' apply And.intro)<;>first|exact Z|exact PM|exact Qf|exact Qg _ _ (by assumption)) fun t=> ?_;clear Y K;try simp only[Act.put,oa,ob,oc]
 have e1:g1.nb=g.nb:=d.gs.nb;have PY:Below w1.heap.size w1 (w1.alloc (.cells #[.int .i64 0,.pointer (some ⟨g.pk,0,none⟩),.string nm,ae 102 s1,.bool false,.bool false] 195)):=(Below.refl _ _).alloc (Nat.le_refl _) _;have P:=u.below PY;have PZ:(w1.alloc (.cells #[.int .i64 0,.pointer (some ⟨g.pk,0,none⟩),.string nm,ae 102 s1,.bool false,.bool false] 195)).heap[w1.heap.size]?=some (.cells #[.int .i64 0,.pointer (some ⟨g.pk,0,none⟩),.string nm,ae 102 s1,.bool false,.bool false] 195):=cV rfl;have H:∀b o v,q b o=some v→(w1.alloc (.cells #[.int .i64 0,.pointer (some ⟨g.pk,0,none⟩),.string nm,ae 102 s1,.bool false,.bool false] 195)).cell? ⟨b,o,none⟩=some v:=fun b o v e=>ar PY (A.wb.kw _ _ _ e);have F:=d.gr.le _ _ _ (y.out.nm i hi);have B:=P.c9;have E:=P.f9;rw[e1]at B E;have Qh:=World.block_lt_of_cell? _ _ A.c0;simp only at Qh;have hAdd:=Lib.hid (vm (C.bb+1) (g.nb i) (g.ob i) w1.heap.size g.pk s nm fs aG v (w1.alloc (.cells #[.int .i64 0,.pointer (some ⟨g.pk,0,none⟩),.string nm,ae 102 s1,.bool false,.bool false] 195)) (by have:=u.fl;omega) (H _ _ _ F) (H _ _ _ (d.gr.le _ _ _ Qs.out)) B E (fun e=>by rw[u.rd _ e 1]at F;cases F) P.row (by simp;omega) (H _ _ _ (d.gr.le _ _ _ P8.out)) (by simp only[World.cell?,PZ];rfl) (by simp only[World.cell?,PZ];rfl) (H _ _ _ (d.gr.le _ _ _ P9.out)) (fun j hj=>by
  have:=u.nm j (by have:=u.fl;omega);rw[show fs.getD j 0=fs[j] by simp[List.getD,hj]]at this;exact H _ _ _ this) (fun j hj=>Qd.out j (by have:=u.fl;omega)) h_)
 have Qi:=Lib.hid u;have Qj:=Lib.hid A;have G:=Lib.hid d;have Qk:=Lib.hid (show ∀b,mv1.ownBlock=some b→mv.ownBlock=some b∨w.heap.size≤b from fun b e=>(Qe b e).imp id fun h=>Nat.le_trans L.out.size h);have Qx:=Lib.hid e1;clear Qu A d Qe Z PM Qf Qg u P B E PZ H F X s0 M s2 s3 s4 s5 s6 p0 e1 PY;refine oL fun K Y=> ?_;go_simp;go_at_call 73
 refine(oJ _ _ _ _ _).mono ?_;rintro e3 w3 ⟨rfl,rfl⟩;obtain⟨⟨p1,p2,p3,p0⟩,s0,M,s2,s3,s4,s5,s6⟩:=t;(try simp only[]);refine Y _ _ (by(repeat' apply And.intro)<;>exact ar ((Below.refl _ _).alloc (Nat.le_refl _) _) (by assumption)) fun t=> ?_;clear Y K;try simp only[Act.put,oa,ob,oc]
 clear s0 M s2 s3 s4 s5 s6 p0 p1 p2 p3;refine oL fun K Y=> ?_;go_simp;go_at_call 92
 refine hAdd.out.mono ?_;rintro e4 w4 ⟨rfl,v',P0,P1,Ql,Qm,Q,f,N⟩;have QA:g.nb i<w.heap.size:=y.out.wb.kw.lt (y.out.nm i hi);have PN:∀b,v.ownBlock=some b→C.bb<b∧b<w.heap.size:=fun b e=>by have:=O.out.row.lt b e;omega
 have QB:w.heap.size<w1.heap.size:=by have:=G.out.size;simp only[World.size_drew]at this;omega
 obtain⟨⟨p1,p2,p3,p0⟩,s0,M,s2,s3,s4,s5,s6⟩:=t;have R:∀b o x,b≠g.nb i→v.ownBlock≠some b→(w1.alloc (.cells #[.int .i64 0,.pointer (some ⟨g.pk,0,none⟩),.string nm,ae 102 s1,.bool false,.bool false] 195)).cell? ⟨b,o,none⟩=some x→w4.cell? ⟨b,o,none⟩=some x:=fun b o x h1 h2 h=>by
  rw[Q.cell (World.block_lt_of_cell? _ _ h) fun e=>e.elim h1 h2];exact h
 have Qn:C.bb≠g.nb i:=fun e=>y.out.xz hi (.inl e.symm);have PO:w4.cell? ⟨T,z+i,none⟩=some (ptr (g.nb i)):=by
  by_cases e:T=g.nb i
  ·rw[e]at p3⊢
   rw[f _ fun e9=>by have:=I.out;rw[e,e9,O.out.d9]at this;cases this];exact p3
  ·exact R _ _ _ e (fun e2=>by have:=I.out;rw[O.out.rd _ e2]at this;cases this) p3
 have PQ:∀o x,(w1.alloc (.cells #[.int .i64 0,.pointer (some ⟨g.pk,0,none⟩),.string nm,ae 102 s1,.bool false,.bool false] 195)).cell? ⟨w.heap.size,o,none⟩=some x→w4.cell? ⟨w.heap.size,o,none⟩=some x:=fun o x h=>R _ _ _ (by omega) (fun e=>by have:=PN _ e;omega) h;have PR:∀o x,(w1.alloc (.cells #[.int .i64 0,.pointer (some ⟨g.pk,0,none⟩),.string nm,ae 102 s1,.bool false,.bool false] 195)).cell? ⟨C.bb,o,none⟩=some x→w4.cell? ⟨C.bb,o,none⟩=some x:=fun o x h=>R _ _ _ Qn (fun e=>by have:=PN _ e;omega) h;(try simp only[]);refine Y _ _ (by(repeat' apply And.intro)<;>first|exact PO|exact PR _ _ (by assumption)|exact PQ _ _ (by assumption)) fun t=> ?_;clear Y K;try simp only[Act.put,oa,ob,oc]
 have Qo:Hid (lL C p g mv ms (cn sg) i k aG v w (.returned (.tuple #[])) w4):=by
  rw[←Qx.out]at P0 P1 Q f N;exact xy hi y.out L.out G.out.gr G.out.gs G.out.kept Qj.out Qk.out Qi.out Qc.out P0 P1 (Ql.imp id fun⟨k,h1,h2⟩=>⟨k,h1,by simpa using h2⟩) Qm Q f N Qv
 refine ch ?_;clear t P0 P1 Ql Qm Q f N R PO PQ PR p1 p2 p3 p0 s0 M s2 s3 s4 s5 s6;go_wp2_with fail
 go_end0
 exact Qo.out
theorem FJ(C:BC)(i k:Nat)(m:cX)(a:Option Addr)(c:Nat)(s:ByteArray)(aG:Nat→ByteArray)(v:Value)(fs:List Nat)(p:Pm)(g:Ge)(mv:Value)(ms:List Nat)(w:World)(hi:i<g.len)(t:BS C p g mv ms w)(hM:dM C p g w i k aG v fs)(u:p (g.nb i) 5=some (.int .u32 15))(b:p (g.ob i) 1=some (ptr g.pk))(d:p g.pk 0=some (.string s))
 (hk:m.sig.k=7)(hm:0≤m.sig.m∧m.sig.m.toNat≤m.sig.es.length)(x:m.sig.v=true→0<m.sig.m.toNat∧∃e,m.sig.es[m.sig.m.toNat- 1]?=some e∧e.k=4)(y:∀e∈m.sig.es,bZ C e)(hu:ak C.pa C.D m.sig a c)(f:ms.length+cn m.sig≤1099511627776)(h:k≤1048576)(l:aG k=m.nm)(o:∀j,j<k→((aG j).toList==m.nm.toList)=false)(z:(m.nm.toList== [95])=false):
 Calls Tryz.prog 41 #[.pointer (some ⟨C.bb,0,none⟩),.int .i64 i,.agg #[.string m.nm,.bool m.ptr,.int .i64 m.sig.k,.int .i64 m.sig.n,.int .i64 m.sig.m,.bool m.sig.v,.string m.sig.nm,.string m.sig.tg,.slice a m.sig.es.length c]] w (lL C p g mv ms (cn m.sig) i k aG v w):=by
 obtain⟨nm,A,sg⟩:=m;cases A
 ·exact FH C i k nm sg a c s aG v fs p g mv ms w hi t hM u b d hk hm x y hu f h l o z
 ·exact FI C i k nm sg a c s aG v fs p g mv ms w hi t hM u b d hk hm x y hu f h l o z
end Go.Proofs.YtdkmnkjhhhmglaaGreatDoor
