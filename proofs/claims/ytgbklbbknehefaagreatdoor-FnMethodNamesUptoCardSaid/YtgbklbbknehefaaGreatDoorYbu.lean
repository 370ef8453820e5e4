import Derived.Test.YtgbklbbknehefaaGreatDoorYay
import Derived.Test.YtgbklbbknehefaaGreatDoorYbr
import Derived.Test.YtgbklbbknehefaaGreatDoorYbt
set_option maxRecDepth 100000
set_option maxHeartbeats 8000000
set_option linter.all false
namespace TS
open Go Go.RowKit Go.Proofs.YtgbklbbknehefaaGreatDoor
theorem DQ{s:ByteArray}(h:aL s=true):(s.toList== [95])=false:=by
 rw[beq_eq_false_iff_ne];intro e;have h1:jv s.toList=true:=by
  unfold aL at h;rwa [show s.data.toList=s.toList by simp[ByteArray.toList_eq]]at h
 rw[e]at h1;exact absurd h1 (by decide)
section
variable {D:Dl} {ds:List aH} {NS:List (List UInt8)} {p:Pm}
theorem pD(R:Raw NS ds)(hlen:ds.length=D.len)(V:fw D ds)(i:Nat):Env D (aR ds) NS i:=
 o7 R hlen V.pl i fun j a _=>by
  rw[dg]at a;have b:j<(bV ds).length:=by rw[eM];exact a
  have:=V.mt _ (List.getElem_mem b);rw[gD ds j a]at this;unfold fm at this;simp only[Bool.and_eq_true]at this;exact this.1
theorem pE(T:List U):∀(u:U)(f:Nat),cn (aN T f u)=cn u:=by
 intro u;induction u using U.bg with
 |_ u ih=>
  intro f;rw[dx,dx];congr 1;unfold aO;congr 1;refine List.ext_getElem (by simp[cj]) fun j h1 h2=> ?_;simp only[List.length_map]at h1 h2;rw[List.getElem_map,List.getElem_map,gj];exact ih _ (U.au (List.getElem_mem h2)) _
theorem bc.upto{T:List U}{i a f:Nat}{u:U}(h:bc T i f u)(hi:i≤a):bc T a f u:=h.mono hi
theorem DS(R:Raw NS ds)(hlen:ds.length=D.len)(V:fw D ds)(L:cU p D ds)(M:aO (ds.map aH.un)+cN ds≤1099511627776):pn D (aR ds) (bV ds):=by
 have hF:=o6 L;refine⟨by rw[eM];exact hlen,by rw[dg];exact hlen,fun i h T=> ?_,fun C h f w=> ?_,fun t B=> ?_,fun i h=> ?_,?_⟩
 ·rw[eM]at h
  rw[gD ds i h]
 ·have hi:C.i<ds.length:=by rw[dg]at h;exact h
  have E:=pD R hlen V C.i;have hk:=(tM R E hi).mo;have hm:=V.mt _ (List.getElem_mem (show C.i<(bV ds).length by rw[eM];exact hi));rw[gD ds C.i hi]at hm;unfold fm at hm;simp only[Bool.and_eq_true]at hm;obtain⟨b,o,e,a,c,N,O,_,_,hu,_⟩:=hF.at' C.i (by rw[eM];exact hi);rw[gD ds C.i hi]at hu;have x:=pw E _ hk hm.1 (fun _=>hk.pl.form.aA) (fun e=>by cases e) hu;exact⟨⟨0,1,by omega,by rw[f];exact hk.pl,by rw[w];exact hk.bB⟩,by rw[f];exact x⟩
 ·have:=(pD R hlen V 0).ok t B
  exact⟨this.lo,this.hi,this.jC⟩
 ·have hi:i<ds.length:=by rw[eM]at h;exact h
  obtain⟨b,o,e,a,c,N,O,_,_,hu,h1,h2,hM⟩:=hF.at' i h;have E:=pD R hlen V i;have n:=V.pl i hi;unfold dq eC at n;simp only[Bool.and_eq_true,List.all_eq_true,decide_eq_true_eq]at n;have hm:=V.mt _ (List.getElem_mem h);rw[gD ds i hi]at hm hM h1⊢;unfold fm at hm;simp only[Bool.and_eq_true,List.all_eq_true]at hm;refine⟨by omega,?_,fun m d=> ?_⟩
  ·have hnd:=n.1.2.2
   simp only;rw[List.pairwise_map];refine(List.pairwise_map.1 hnd).imp fun{a b} F=> ?_;simpa using F
  ·obtain⟨k,hk,G⟩:=List.getElem_of_mem d
   obtain⟨U,W,X,m1,m2,m3,a',c',m4,y⟩:=hM.at' k hk;rw[G]at y;have H:=hm.2 m d;simp only[List.mem_map]at d;obtain⟨m0,z,rfl⟩:=d;have g:=n.1.2.1 m0 z;unfold fE at g;simp only[Bool.and_eq_true,beq_iff_eq]at g;have K:=R.ms _ (List.getElem_mem hi) m0 z;have r:Mo D.len (aR ds) NS i (aN ((aR ds).take i) 0 m0.sig) 0 0:=(o8 E (by rw[dg];omega) R.err R.emp (fun t B=>(lg R B).2) (u:=m0.sig) (q:=⟨i,false,false⟩) (by simp) g.1.2 K.1 K.2).mo;have h7:(aN ((aR ds).take i) 0 m0.sig).k=7:=by rw[cG];exact g.1.1.2
   have x:=pw E _ r H (fun _=>r.pl.form.aA) (fun e=>by cases e) y;have l:(0≤(aN ((aR ds).take i) 0 m0.sig).m∧(aN ((aR ds).take i) 0 m0.sig).m.toNat≤(aN ((aR ds).take i) 0 m0.sig).es.length)∧((aN ((aR ds).take i) 0 m0.sig).v=true→0<(aN ((aR ds).take i) 0 m0.sig).m.toNat∧∃e,(aN ((aR ds).take i) 0 m0.sig).es[(aN ((aR ds).take i) 0 m0.sig).m.toNat- 1]?=some e∧e.k=4):=by
    have P:=r.pl.form;cases P with
    |func _ Q h1 A=>exact⟨⟨Q,h1⟩,fun s=>⟨(A s).1,_,List.getElem?_eq_getElem (by have:=(A s).1;omega),(A s).2 (by have:=(A s).1;omega)⟩⟩
    |_=>omega
   refine⟨h7,l.1,l.2,DQ g.1.1.1,fun C f w I e he=> ?_⟩;obtain⟨j,S,rfl⟩:=List.getElem_of_mem he;have J:=r.part j S;exact⟨⟨_,_,J.f2,by rw[f];exact J.pl,by rw[w,I];exact J.bB.mono (by omega)⟩,by rw[f];exact x.es he⟩
 ·have h1:aO (aR ds)=aO (ds.map aH.un):=by
   unfold aO;congr 1;refine List.ext_getElem (by simp[dg]) fun j h1 h2=> ?_;simp only[List.length_map]at h1 h2;rw[List.getElem_map,List.getElem_map,List.getElem_map,jY ds j h2,pE]
  have h2:cN (bV ds)=cN ds:=by
   unfold cN;congr 1;refine List.ext_getElem (by simp[eM]) fun j h1 h2=> ?_;simp only[List.length_map]at h1 h2;rw[List.getElem_map,List.getElem_map,gD ds j h2];unfold cg;simp only[List.map_map];congr 1;exact List.map_congr_left fun m _=>pE _ _ _
  omega
theorem DT(R:Raw NS ds)(hlen:ds.length=D.len)(V:fw D ds){u:U}(b:fA D ds u=true)(k:Names NS u)(d:u.dep≤1048576){a:Option Addr}{c:Nat}(hu:ai p D (bH ds u) a c):
 Mo D.len (aR ds) NS ds.length (bH ds u) 0 1∧isIface (bH ds u)=true∧mt (aR ds) .type (bH ds u) true=true∧∀C:BC,C.D=D→C.T=aR ds→C.i=D.len→fZ C (bH ds u):=by
 unfold fA at b;simp only[Bool.and_eq_true]at b;have hk:=(uD R hlen V b.1.1 k d).mo;have g:=pw (mW R hlen V) _ hk b.2 (fun _=>hk.pl.form.aA) (fun e=>by cases e) hu;exact⟨hk,b.1.2,b.2,fun C f h j=>⟨⟨0,1,by omega,by rw[f];exact hk.pl,by rw[h,j,←hlen];exact hk.bB⟩,by rw[f];exact g⟩⟩
end
end TS
namespace Go.Proofs.YtgbklbbknehefaaGreatDoor
open Go.RowKit TS
theorem pF{u:U}(hi:isIface u=true):aj (fu u)=aj u:=by
 unfold fu;unfold isIface at hi;simp only[Bool.or_eq_true,beq_iff_eq]at hi;by_cases h:(under u).k=16
 ·rw[if_pos h,eB (u:=u) (by omega),eB (u:=cV) (by rw[show under cV=cV from cB (by decide) (by decide) (by decide) (by decide)];decide)]
 ·rw[if_neg h,tB (hi.resolve_right h)]
theorem DU(pa:Pm)(D:Dl)(dc:Nat)(T:List U)(fds:List aH)(hO:pn D T fds)(hD:cU pa D fds)(u:U)(a:Option Addr)(c:Nat)(w:World)(hw:KW pa w)(M:bD w)(hu:ai pa D u a c)(P4:∀C:BC,C.D=D→C.T=T→C.i=D.len→fZ C u)(hi:isIface u=true)(P5:cn u≤1099511627776)
 (P6:bare (bare u)=bare u)(hf:(bare u).k=11→∃y,(bare u).un= [y]∧y.k≠16)(P7:(bare u).k≠12)(P8:(bare u).k≠13)(P9:(under u).k=10→under (under u)=under u):
 Calls Tryz.prog 6 #[.slice D.a D.len dc,.agg #[.int .i64 u.k,.int .i64 u.n,.int .i64 u.m,.bool u.v,.string u.nm,.string u.tg,.slice a u.es.length c]] w fun e w'=> ∃v,e= .returned v∧w'.ownsRow w.heap.size 9 1 v (aj u).length ((aj u).map fun m=>Value.string m.nm)∧Below w.heap.size w w':=by
 have G:Below w.heap.size w ((w.alloc (.cells #[.int .i64 u.k,.int .i64 u.n,.int .i64 u.m,.bool u.v,.string u.nm,.string u.tg,.slice a u.es.length c] 25)).drew):=((Below.refl _ _).alloc (Nat.le_refl _) _).drew;have z:bD ((w.alloc (.cells #[.int .i64 u.k,.int .i64 u.n,.int .i64 u.m,.bool u.v,.string u.nm,.string u.tg,.slice a u.es.length c] 25)).drew):=fun k h1 h2=>ak G (M k h1 h2);have P_:=Lib.hid (Di pa D dc T fds hO hD _ (hw.grown G) z);have N:=Lib.hid G;have Qa:=Lib.hid P4;have Qv:=Lib.hid hu;have Qb:=Lib.hid P5;have H:=Lib.hid hi;have d:=Lib.hid (And.intro P6 (And.intro hf (And.intro P7 (And.intro P8 P9))));obtain⟨i0,Qw,Qc,Qd,Qe⟩:=info_parts tS;clear hO hD hw M hu P4 hi P5 P6 hf P7 P8 P9 G z;go_enter Tryz.func6,Tryz.ntmps6;go_wp2_with fail
 refine oR (fun W=>(W.cell? ⟨w.heap.size,0,none⟩=some (.int .i64 u.k)∧W.cell? ⟨w.heap.size,1,none⟩=some (.int .i64 u.n)∧W.cell? ⟨w.heap.size,2,none⟩=some (.int .i64 u.m)∧W.cell? ⟨w.heap.size,3,none⟩=some (.bool u.v)∧W.cell? ⟨w.heap.size,4,none⟩=some (.string u.nm)∧W.cell? ⟨w.heap.size,5,none⟩=some (.string u.tg)∧W.cell? ⟨w.heap.size,6,none⟩=some (.slice a u.es.length c))) [(0,true),(2,true),(1,false),(3,false),(4,true)] (by(repeat' apply And.intro)<;>first|(simp[go_sem];done)|(go_keep;done)) (fun r=> ?_);iterate 2 ((first|refine oS ?_|refine oF r ?_);try simp only[Act.put,oa,ob,oc])
 refine oL fun K hK=> ?_;go_simp;go_at_call 10
 refine P_.out.mono ?_;rintro e1 w1 ⟨C,q,g,rfl,S,Qf,Qg,O,Qh,Qi,t⟩;have QH:w.heap.size<w1.heap.size:=by have:=t.size;simp at this;omega
 have P:=Lib.hid (N.out.trans (t.mono N.out.size));have Qj:=Lib.hid (Df C u (pd C u (Qa.out C S Qf Qg)) H.out d.out.1 d.out.2.1 d.out.2.2.1 d.out.2.2.2.1 d.out.2.2.2.2 q g _ [] a c w1 Qi (by simpa using Qb.out) (by rw[O,S];exact Qv.out));have Qk:=Lib.hid Qh;obtain⟨s0,s1,s2,s3,s4,s5,s6⟩:=r;(try simp only[]);refine hK _ _ (by(repeat' apply And.intro)<;>exact ak t (by assumption)) fun r=> ?_;clear hK K;try simp only[Act.put,oa,ob,oc]
 clear s0 s1 s2 s3 s4 s5 s6 Qi S Qf Qg O P_ t Qh;refine oL fun K hK=> ?_;go_simp;go_at_call 11
 refine Qj.out.mono ?_;rintro e2 A ⟨b,q2,g2,rfl,Ql,V,Qx,Qm,I⟩;have Qy:=I.size;have QI:w.heap.size<C.B0:=by rw[Qk.out];simp
 have Qn:=Lib.hid (Below.own P.out (I.mono fun c _ h=>h) P.out.size fun c (h:C.B0≤c)=>by omega);have Q:∀o v,w1.cell? ⟨w.heap.size,o,none⟩=some v→A.cell? ⟨w.heap.size,o,none⟩=some v:=fun o v h=>by
  rw[I.cell (World.block_lt_of_cell? _ _ h) (fun h:C.B0≤w.heap.size=>by omega)];exact h
 obtain⟨s0,s1,Qz,s3,s4,s5,s6⟩:=r;(try simp only[]);refine hK _ _ (by(repeat' apply And.intro)<;>exact Q _ _ (by assumption)) fun r=> ?_;clear hK K;try simp only[Act.put,oa,ob,oc]
 clear s0 s1 Qz s3 s4 s5 s6 Q;have X:=V.ifs b _ Ql;have QA:cv q2 (g2.below b) b (fu u):=by
  rcases X.2.2.2 with h|⟨h,_⟩
  ·exact h
  ·cases h
 have Qo:=X.2.1;obtain⟨tb,ma,mc,f,ta,tc,ts,cmp,t6,t0,t1,t2,t3,t4,t5,_⟩:=QA;rw[pF H.out]at t1 t2 t3 t4;have Qp:Hid (∀i(h:i<(aj u).length),q2 (f i) 2=some (.string (aj u)[i].nm)):=fun i h=>by
  have h':i<(aj (fu u)).length:=by rw[pF H.out];exact h
  obtain⟨sb,_,h2,_⟩:=t5 i h';have e:(aj (fu u))[i]=(aj u)[i]:=by simp[pF H.out]
  rwa [e]at h2
 have J:=Lib.hid V.wb.kw;have Y:=Lib.hid (And.intro Qo (And.intro t6 (And.intro t1 t4)));clear t5 X V Ql Qx Qm I Qj t0;generalize hL:(aj u)=L at*;have QB:L.length≤1099511627776:=t3;((first|refine oS ?_|refine oF r ?_);try simp only[Act.put,oa,ob,oc])
 refine bR ?_;clear r;have n0:=J.out _ _ _ Y.out.1;have n6:=J.out _ _ _ Y.out.2.1;have n1:=J.out _ _ _ Y.out.2.2.1;have Qq:=Lib.hid (Dj b tb L.length mc ma A n0 n6 n1);go_wp2_with fail
 refine Qq.out.mono ?_;rintro e3 w3 ⟨rfl,rfl⟩;have QJ:w.heap.size<A.heap.size:=by omega
 go_wp2_with fail
 go_loopw [16,6] (fun vk vo wr=> ∃k:Nat,k≤L.length∧vk= .int .i64 k∧wr.ownsRow A.heap.size 9 1 vo k ((L.take k).map fun m=>Value.string m.nm)∧Below A.heap.size A wr) (fun vk _ _=>L.length- (intOf vk).toNat)
 case atStart=>exact⟨0,Nat.zero_le _,rfl,World.ownsRow_nil _ _ _ _,Below.refl _ _⟩
 case round=>
  obtain⟨k,QL,rfl,B,Z⟩:=hrel;obtain⟨oa,oc,rfl⟩:=aZ B;have l:=Lib.hid B;have x:=Lib.hid Z;have j:=Lib.hid (J.out.grown Z);clear B Z;by_cases E:k<L.length
  ·have QK:(k:Int)<L.length:=by omega
   obtain⟨rb,ro,Qr,p⟩:=Y.out.2.2.2 k E;have hM:=Lib.hid (Dk b tb L.length mc k rb ro (f k) wr (j.out _ _ _ Y.out.1) (j.out _ _ _ Y.out.2.1) (by rw[←Qr];exact j.out _ _ _ Y.out.2.2.1) E QB (j.out _ _ _ p));have Qs:=Lib.hid (Dm (f k) L[k].nm wr (j.out _ _ _ (Qp.out k E)));obtain⟨m,hm⟩:∃m,Hid (L[k]=m):=⟨L[k],Lib.hid rfl⟩
   rw[hm.out]at Qs;have QC:=Lib.hid (show L[k]?=some m by rw[List.getElem?_eq_getElem E,hm.out]);have Qt:=World.block_lt_of_cell? _ _ (j.out _ _ _ (Qp.out k E));simp only at Qt;have QD:A.heap.size≤wr.heap.size:=x.out.size;clear Qr p;go_wp2_with fail
   refine hM.out.mono ?_;rintro e4 w4 ⟨rfl,rfl⟩;go_wp2_with fail
   refine Qs.out.mono ?_;rintro e5 w5 ⟨rfl,rfl⟩;have p:=Lib.hid (l.out.alloc (.cells #[.string m.nm] 9));have R:=Lib.hid (TS.dC wr (.string m.nm) 9);go_wp2_with (first|(at_builtin;refine wpList_append_own_at _ rfl _ _ 28 rfl A.heap.size 9 i0 (.string ByteArray.empty) 1 16 Tryz.underlying28 Qw Qc Qd Qe rfl (by decide) (.slice oa k oc) k ((L.take k).map fun m=>Value.string m.nm) rfl p.out ⟨wr.heap.size,0,none⟩ 1 1 [.string m.nm] rfl rfl R.out (TS.one_one rfl) ?c3 ?c4 ?c5 ?_)|fail)
   case c3=>unfold maxLen;omega
   case c4=>omega
   case c5=>(try simp);omega
   intro v6 w6 s Qu _ QE;obtain⟨a6,QF,rfl⟩:=aZ s;have F:Hid (w6.ownsRow A.heap.size 9 1 (.slice a6 (k+1) QF) (k+1) ((L.take (k+1)).map fun m=>Value.string m.nm)∧Below A.heap.size A w6):=by
    refine⟨?_,(x.out.alloc QD _).grown Qu (by simp;omega) fun c hc=>(l.out.lt c hc).1⟩;rw[List.take_add_one,QC.out];simpa using s
   clear s Qu QE p R;go_wp2_with fail
   exact⟨⟨k+1,by omega,by go_num,F.out⟩,by first|omega|(simp[intOf];omega)⟩
  ·have QM:¬(k:Int)<L.length:=by omega
   obtain rfl:k=L.length:=by omega
   have F:=Lib.hid (show wr.ownsRow w.heap.size 9 1 (.slice oa L.length oc) L.length (L.map fun m=>Value.string m.nm)from by have h:=l.out;rw[List.take_length]at h;exact ie h (by omega));have QG:=Lib.hid (show Below w.heap.size w wr from Qn.out.trans (x.out.mono (by omega)));clear l x j;go_wp2_with fail
   go_ret;exact⟨_,rfl,F.out,QG.out⟩
theorem DX{D:Dl}{ds:List aH}{NS:List (List UInt8)}(R:Raw NS ds)(hlen:ds.length=D.len)(p:Pm)(dc:Nat)(hD:cU p D ds)(Qi:aO (ds.map aH.un)+cN ds≤1099511627776)(u:U)(hn:Names NS u)(C:u.dep≤1048576)(Qj:cn u≤1099511627776)(a:Option Addr)(c:Nat)(w:World)(hu:ai p D u a c)(hw:KW p w)(O:bD w):
 Calls Tryz.prog 3 #[.slice D.a D.len dc,.agg #[.int .i64 u.k,.int .i64 u.n,.int .i64 u.m,.bool u.v,.string u.nm,.string u.tg,.slice a u.es.length c]] w fun e w'=>e= .returned (.bool true)∧Below w.heap.size w w':=by
 have QE:=hD.kb;have h1:¬(2147483647:Int)<(D.len:Int):=by omega
 have P6:Below w.heap.size w (w.alloc (.cells #[.int .i64 u.k,.int .i64 u.n,.int .i64 u.m,.bool u.v,.string u.nm,.string u.tg,.slice a u.es.length c] 25)):=(Below.refl _ _).alloc (Nat.le_refl _) _;have hF:=Lib.hid (DV u a c (w.alloc (.cells #[.int .i64 u.k,.int .i64 u.n,.int .i64 u.m,.bool u.v,.string u.nm,.string u.tg,.slice a u.es.length c] 25)) hu);have Qk:(w.alloc (.cells #[.int .i64 u.k,.int .i64 u.n,.int .i64 u.m,.bool u.v,.string u.nm,.string u.tg,.slice a u.es.length c] 25)).heap[w.heap.size]?=some (.cells #[.int .i64 u.k,.int .i64 u.n,.int .i64 u.m,.bool u.v,.string u.nm,.string u.tg,.slice a u.es.length c] 25):=cf rfl;have P:((w.alloc (.cells #[.int .i64 u.k,.int .i64 u.n,.int .i64 u.m,.bool u.v,.string u.nm,.string u.tg,.slice a u.es.length c] 25)).cell? ⟨w.heap.size,0,none⟩=some (.int .i64 u.k)∧(w.alloc (.cells #[.int .i64 u.k,.int .i64 u.n,.int .i64 u.m,.bool u.v,.string u.nm,.string u.tg,.slice a u.es.length c] 25)).cell? ⟨w.heap.size,1,none⟩=some (.int .i64 u.n)∧(w.alloc (.cells #[.int .i64 u.k,.int .i64 u.n,.int .i64 u.m,.bool u.v,.string u.nm,.string u.tg,.slice a u.es.length c] 25)).cell? ⟨w.heap.size,2,none⟩=some (.int .i64 u.m)∧(w.alloc (.cells #[.int .i64 u.k,.int .i64 u.n,.int .i64 u.m,.bool u.v,.string u.nm,.string u.tg,.slice a u.es.length c] 25)).cell? ⟨w.heap.size,3,none⟩=some (.bool u.v)∧(w.alloc (.cells #[.int .i64 u.k,.int .i64 u.n,.int .i64 u.m,.bool u.v,.string u.nm,.string u.tg,.slice a u.es.length c] 25)).cell? ⟨w.heap.size,4,none⟩=some (.string u.nm)∧(w.alloc (.cells #[.int .i64 u.k,.int .i64 u.n,.int .i64 u.m,.bool u.v,.string u.nm,.string u.tg,.slice a u.es.length c] 25)).cell? ⟨w.heap.size,5,none⟩=some (.string u.tg)∧(w.alloc (.cells #[.int .i64 u.k,.int .i64 u.n,.int .i64 u.m,.bool u.v,.string u.nm,.string u.tg,.slice a u.es.length c] 25)).cell? ⟨w.heap.size,6,none⟩=some (.slice a u.es.length c)):=by(repeat' apply And.intro)<;>(simp only[World.cell?,Qk];rfl)
 have P7:=Lib.hid P;have Q:=Lib.hid P6;have hS:Hid (∀W,Below (w.alloc (.cells #[.int .i64 u.k,.int .i64 u.n,.int .i64 u.m,.bool u.v,.string u.nm,.string u.tg,.slice a u.es.length c] 25)).heap.size (w.alloc (.cells #[.int .i64 u.k,.int .i64 u.n,.int .i64 u.m,.bool u.v,.string u.nm,.string u.tg,.slice a u.es.length c] 25)) W→Calls Tryz.prog 5 #[.slice D.a D.len dc,.slice (some ⟨W.heap.size,0,none⟩) 1 1] (W.alloc (.cells #[.int .i64 u.k,.int .i64 u.n,.int .i64 u.m,.bool u.v,.string u.nm,.string u.tg,.slice a u.es.length c] 25)) fun e w'=>(∃b,e= .returned (.bool b)∧Hid (b=true→fw D ds∧fA D ds u=true))∧Below (W.alloc (.cells #[.int .i64 u.k,.int .i64 u.n,.int .i64 u.m,.bool u.v,.string u.nm,.string u.tg,.slice a u.es.length c] 25)).heap.size (W.alloc (.cells #[.int .i64 u.k,.int .i64 u.n,.int .i64 u.m,.bool u.v,.string u.nm,.string u.tg,.slice a u.es.length c] 25)) w'):=fun W hW=>by
  have Ql:=(hw.grown P6).grown hW;have hd:∀o,p W.heap.size o=none:=fun o=>Ql.aG (Nat.le_refl _) o;have S:=Pm.cP (cs:=#[.int .i64 u.k,.int .i64 u.n,.int .i64 u.m,.bool u.v,.string u.nm,.string u.tg,.slice a u.es.length c]) hd;have QF:KW (p.add W.heap.size #[.int .i64 u.k,.int .i64 u.n,.int .i64 u.m,.bool u.v,.string u.nm,.string u.tg,.slice a u.es.length c]) (W.alloc (.cells #[.int .i64 u.k,.int .i64 u.n,.int .i64 u.m,.bool u.v,.string u.nm,.string u.tg,.slice a u.es.length c] 25)):=(Ql.alloc _).add fun o v h=>by
   have hh:(W.alloc (.cells #[.int .i64 u.k,.int .i64 u.n,.int .i64 u.m,.bool u.v,.string u.nm,.string u.tg,.slice a u.es.length c] 25)).heap[W.heap.size]?=some (.cells #[.int .i64 u.k,.int .i64 u.n,.int .i64 u.m,.bool u.v,.string u.nm,.string u.tg,.slice a u.es.length c] 25):=cf rfl;simp only[World.cell?,hh];exact h
  refine DW R hlen _ dc (hD.sub S) u ⟨hn,C⟩ _ _ ?_ QF;simp only[aw];refine⟨W.heap.size,0,rfl,⟨a,c,?_,ai.sub S _ hu⟩,trivial⟩;refine⟨?_,?_,?_,?_,?_,?_,?_⟩<;>(rw[Pm.aQ];rfl)
 have P8:=Lib.hid (jI D dc NS R.cI);have P9:=Lib.hid hD;have QG:=Lib.hid hu;have Qm:=Lib.hid hw;have P_:=Lib.hid O;have Qn:=Lib.hid Qi;have Qo:=Lib.hid Qj;have t:=Lib.hid hlen;have QH:=Lib.hid hn;have Qa:=Lib.hid C;clear hD hu hw O Qi Qj hlen hn C P Qk P6;go_enter Tryz.func3,Tryz.ntmps3;go_wp2_with fail
 refine hF.out.mono ?_;rintro e1 F ⟨rfl,d⟩;have Qp:=Lib.hid (hS.out F d);have Qb:=Lib.hid d;have z:=P7.out;obtain⟨z0,z1,z2,z3,z4,z5,z6⟩:(F.cell? ⟨w.heap.size,0,none⟩=some (.int .i64 u.k)∧F.cell? ⟨w.heap.size,1,none⟩=some (.int .i64 u.n)∧F.cell? ⟨w.heap.size,2,none⟩=some (.int .i64 u.m)∧F.cell? ⟨w.heap.size,3,none⟩=some (.bool u.v)∧F.cell? ⟨w.heap.size,4,none⟩=some (.string u.nm)∧F.cell? ⟨w.heap.size,5,none⟩=some (.string u.tg)∧F.cell? ⟨w.heap.size,6,none⟩=some (.slice a u.es.length c)):=⟨ak d z.1,ak d z.2.1,ak d z.2.2.1,ak d z.2.2.2.1,ak d z.2.2.2.2.1,ak d z.2.2.2.2.2.1,ak d z.2.2.2.2.2.2⟩
 have QR:w.heap.size<F.heap.size:=by have:=d.size;simp at this;omega
 clear d hF hS z;go_wp2_with fail
 refine Qp.out.mono ?_;rintro e2 M ⟨⟨b,rfl,hb⟩,G⟩;have x:=Lib.hid (show Below w.heap.size w M from(Q.out.trans (Qb.out.mono Q.out.size)).trans (((((Below.refl _ _).alloc (Nat.le_refl _) _).trans (G.mono (by simp)))).mono (by omega)));have f:=Lib.hid (show Below F.heap.size F M from((Below.refl _ _).alloc (Nat.le_refl _) _).trans (G.mono (by simp)));clear G Qp;cases b with
 |false=>
  go_wp2_with fail
  go_ret;exact⟨rfl,x.out⟩
 |true=>
  obtain⟨V,T⟩:=hb.out rfl;have Qq:=o6 P9.out;have N:ai p D (bH ds u) a c:=jX (mN P9.out) _ _ QG.out;obtain⟨g,Qr,QI,Qs⟩:=DT R t.out V T QH.out Qa.out N;have E:=mW R t.out V;have Qt:=DS R t.out V P9.out Qn.out;have i:=g.pl.form.aA;have j:=g.pl.bare g.f2 i.1 i.2;have r:=g.eG E (by omega) i.1 i.2;obtain⟨Qu,X,Y⟩:bare (bare (bH ds u))=bare (bH ds u)∧(bare (bH ds u)).k≠12∧(bare (bH ds u)).k≠13:=⟨ca j.2.1 j.2.2.1,j.1.form.aA.1,j.1.form.aA.2⟩
  have Z:cn (bH ds u)≤1099511627776:=by unfold bH;rw[pE];exact Qo.out
  have Qc:Hid (∀W,Below w.heap.size w W→Calls Tryz.prog 6 #[.slice D.a D.len dc,.agg #[.int .i64 u.k,.int .i64 u.n,.int .i64 u.m,.bool u.v,.string u.nm,.string u.tg,.slice a u.es.length c]] W fun e w'=> ∃v,e= .returned v∧w'.ownsRow W.heap.size 9 1 v (aj (bH ds u)).length ((aj (bH ds u)).map fun m=>Value.string m.nm)∧Below W.heap.size W w'):=fun W hW=>by
   have h:=DU p D dc (aR ds) (bV ds) Qt Qq (bH ds u) a c W (Qm.out.grown hW) (fun k h1 h2=>ak hW (P_.out k h1 h2)) N Qs Qr Z Qu (g.fl E (by omega) i.1 i.2) X Y (fun _=>cB r.2.1.1 r.2.1.2.1 r.2.1.2.2.1 r.2.1.2.2.2);simp only[pC ds u]at h;exact h
  have Qd:Hid (∀W,Below w.heap.size w W→Calls Tryz.prog 7 #[.slice D.a D.len dc,.agg #[.int .i64 u.k,.int .i64 u.n,.int .i64 u.m,.bool u.v,.string u.nm,.string u.tg,.slice a u.es.length c]] W (RL p D (aj (bH ds u)) W)):=fun W hW=>by
   have h:=P8.out (bH ds u) p 0 1 a c W g.pl (by omega) (by omega) i.1 i.2 g.aB N (Qm.out.grown hW);simp only[pC ds u]at h;exact h
  have y:=(ja g.pl g.f2 (by omega) i.1 i.2).noTwo;have H:∀m∈aj (bH ds u),m.nm.toList∈NS:=fun m hm=>(g.aB.b4 m hm).1;clear Qq N g Qr QI Qs E Qt Qu X Y Z j r i T;obtain⟨L,hL⟩:∃L,Hid (aj (bH ds u)=L):=⟨_,Lib.hid rfl⟩
  rw[hL.out]at Qc Qd;have QJ:Hid (L.length≤1048576):=by
   rw[←hL.out];exact Nat.le_trans (hZ y H) R.cI
  have QO:=QJ.out;have QS:w.heap.size<M.heap.size:=by have:=f.out.size;omega
  obtain⟨y0,y1,y2,y3,y4,y5,y6⟩:(M.cell? ⟨w.heap.size,0,none⟩=some (.int .i64 u.k)∧M.cell? ⟨w.heap.size,1,none⟩=some (.int .i64 u.n)∧M.cell? ⟨w.heap.size,2,none⟩=some (.int .i64 u.m)∧M.cell? ⟨w.heap.size,3,none⟩=some (.bool u.v)∧M.cell? ⟨w.heap.size,4,none⟩=some (.string u.nm)∧M.cell? ⟨w.heap.size,5,none⟩=some (.string u.tg)∧M.cell? ⟨w.heap.size,6,none⟩=some (.slice a u.es.length c)):=⟨ak f.out z0,ak f.out z1,ak f.out z2,ak f.out z3,ak f.out z4,ak f.out z5,ak f.out z6⟩
  clear z0 z1 z2 z3 z4 z5 z6 hb y H;go_wp2_with fail
  refine oR (fun W=>(W.cell? ⟨w.heap.size,0,none⟩=some (.int .i64 u.k)∧W.cell? ⟨w.heap.size,1,none⟩=some (.int .i64 u.n)∧W.cell? ⟨w.heap.size,2,none⟩=some (.int .i64 u.m)∧W.cell? ⟨w.heap.size,3,none⟩=some (.bool u.v)∧W.cell? ⟨w.heap.size,4,none⟩=some (.string u.nm)∧W.cell? ⟨w.heap.size,5,none⟩=some (.string u.tg)∧W.cell? ⟨w.heap.size,6,none⟩=some (.slice a u.es.length c))) [(0,true),(1,true),(3,true),(4,true),(2,false),(5,false),(6,true),(7,true)] (by(repeat' apply And.intro)<;>assumption) (fun l=> ?_);iterate 4 ((first|refine oS ?_|refine oF l ?_);try simp only[Act.put,oa,ob,oc])
  refine oL fun K hK=> ?_;go_simp;go_at_call 6
  refine(Qc.out _ x.out.drew).mono ?_;rintro e3 w3 ⟨v,rfl,I,A⟩;obtain⟨va,vc,rfl⟩:=aZ I;have Qe:=Lib.hid I;have J:=Lib.hid (x.out.drew.trans (A.mono x.out.size));obtain⟨s0,s1,s2,s3,s4,s5,s6⟩:=l;(try simp only[]);refine hK _ _ (by(repeat' apply And.intro)<;>exact ak A (by assumption)) fun l=> ?_;clear hK K;try simp only[Act.put,oa,ob,oc]
  clear s0 s1 s2 s3 s4 s5 s6 I Qc;have QT:w.heap.size<w3.heap.size:=by have:=A.size;simp at this;omega
  clear A;refine oL fun K hK=> ?_;go_simp;go_at_call 7
  refine(Qd.out _ J.out).mono ?_;rintro e4 w4 ⟨q,ra,rn,rc,rfl,Qv,QK,Qw,Qx,s⟩;obtain rfl:=Qv.out;have Qf:=Lib.hid (bq Qe.out s);have P4:=Lib.hid (J.out.trans (s.mono J.out.size));obtain⟨s0,s1,s2,s3,s4,s5,s6⟩:=l;(try simp only[]);refine hK _ _ (by(repeat' apply And.intro)<;>exact ak s (by assumption)) fun l=> ?_;clear hK K;try simp only[Act.put,oa,ob,oc]
  clear s0 s1 s2 s3 s4 s5 s6 Qd Qv QK;have QU:w.heap.size<w4.heap.size:=by have:=s.size;omega
  clear s;have Qy:=Lib.hid Qw;have P5:=Lib.hid Qx;clear Qw Qx;iterate 2 ((first|refine oS ?_|refine oF l ?_);try simp only[Act.put,oa,ob,oc])
  refine bR ?_;clear l y0 y1 y2 y3 y4 y5 y6;have QP:((L.length:Int) !=(L.length:Int))=false:=by simp
  go_wp2_with fail
  go_loopw [35] (fun vk wr=> ∃k:Nat,k≤L.length∧vk= .int .i64 k∧Below w4.heap.size w4 wr) (fun vk _=>L.length- (intOf vk).toNat)
  case atStart=>exact⟨0,Nat.zero_le _,rfl,Below.refl _ _⟩
  case round=>
   obtain⟨k,QV,rfl,j⟩:=hrel;have B:=Lib.hid j;have Qg:=Lib.hid (bq Qf.out j);have Qz:=Lib.hid (Qy.out.grown j);clear j;by_cases QA:k<L.length
   ·have QQ:(k:Int)<L.length:=by omega
    obtain⟨b9,o9,rfl⟩:=P5.out.bt (by omega);obtain⟨a9,c9,h7,_⟩:=P5.out.get k QA;obtain⟨gb,cap,e0,_,QW,QL,QM,QB,_⟩:=iY Qg.out (by omega);cases e0;have Qh:wr.cell? ⟨gb,k,none⟩=some (.string L[k].nm):=QB k _ (by simp[QA]);generalize L[k]=m at h7 Qh;obtain⟨z0,z1,z2,z3,z4,z5,z6⟩:(wr.cell? ⟨b9,o9+k*7,none⟩=some (.int .i64 m.k)∧wr.cell? ⟨b9,o9+k*7+1,none⟩=some (.int .i64 m.n)∧wr.cell? ⟨b9,o9+k*7+2,none⟩=some (.int .i64 m.m)∧wr.cell? ⟨b9,o9+k*7+3,none⟩=some (.bool m.v)∧wr.cell? ⟨b9,o9+k*7+4,none⟩=some (.string m.nm)∧wr.cell? ⟨b9,o9+k*7+5,none⟩=some (.string m.tg)∧wr.cell? ⟨b9,o9+k*7+6,none⟩=some (.slice a9 m.es.length c9)):=h7.world Qz.out;have QC:=World.block_lt_of_cell? _ _ z0;simp only at QC;have QX:(m.nm.toList==m.nm.toList)=true:=by simp
    have QY:w.heap.size<wr.heap.size:=by have:=B.out.size;omega
    have QN:=Lib.hid (show Below w4.heap.size w4 ((wr.alloc (.cells #[.int .i64 m.k,.int .i64 m.n,.int .i64 m.m,.bool m.v,.string m.nm,.string m.tg,.slice a9 m.es.length c9] 25)).drew)from(B.out.alloc B.out.size _).drew);clear h7 QB;go_wp2_with fail
    refine oR (fun W=>W.cell? ⟨gb,k,none⟩=some (.string m.nm)∧(W.cell? ⟨wr.heap.size,0,none⟩=some (.int .i64 m.k)∧W.cell? ⟨wr.heap.size,1,none⟩=some (.int .i64 m.n)∧W.cell? ⟨wr.heap.size,2,none⟩=some (.int .i64 m.m)∧W.cell? ⟨wr.heap.size,3,none⟩=some (.bool m.v)∧W.cell? ⟨wr.heap.size,4,none⟩=some (.string m.nm)∧W.cell? ⟨wr.heap.size,5,none⟩=some (.string m.tg)∧W.cell? ⟨wr.heap.size,6,none⟩=some (.slice a9 m.es.length c9))) [(0,true),(1,true),(2,true),(3,true),(4,true),(5,true),(6,true)] (by(repeat' apply And.intro)<;>first|(simp[go_sem];done)|(go_keep;done)) (fun l=> ?_);iterate 7 ((first|refine oS ?_|refine oF l ?_);try simp only[Act.put,oa,ob,oc])
    refine bR ?_;clear l;go_wp2_with fail
    exact⟨⟨k+1,by omega,by go_num,QN.out⟩,by first|omega|(simp[intOf];omega)⟩
   ·have QZ:¬(k:Int)<L.length:=by omega
    have QD:=Lib.hid (P4.out.trans (B.out.mono P4.out.size));go_wp2_with fail
    go_ret;exact⟨rfl,QD.out⟩
end Go.Proofs.YtgbklbbknehefaaGreatDoor
