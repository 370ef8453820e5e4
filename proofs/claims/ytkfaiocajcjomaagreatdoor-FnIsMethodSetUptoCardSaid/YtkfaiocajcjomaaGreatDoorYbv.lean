import Derived.Test.YtkfaiocajcjomaaGreatDoorYax
import Derived.Test.YtkfaiocajcjomaaGreatDoorYbt
set_option maxRecDepth 100000
set_option maxHeartbeats 8000000
set_option linter.all false
namespace Go.Proofs.YtkfaiocajcjomaaGreatDoor
open Go.RowKit TS
theorem Eg{p:Pm}{g:Ge}{w:World}(hw:KW p w)(a:Option Addr)(c:Nat)(d:List Tm)(q:d.length≤1099511627776)(hT:kM p g a d)(k:d= [none]∨none ∉ d):
 Calls Tryz.prog 89 #[.slice a d.length c] w fun e r=>e= .returned (.bool (dp d))∧w=r:=by
 obtain⟨f,hr,m⟩:=hT;have n:bA w a d.length f:=fun i hi=>by
  obtain⟨b,o,e,h⟩:=hr i hi;exact⟨b,o,e,hw _ _ _ h⟩
 rcases k with rfl|k
 ·have h1:=m 0 (by simp)
  simp only[List.getElem_cons_zero]at h1;exact o4 a _ c f w n (by simp) (hw _ _ _ h1)
 ·have s:dp d=false:=by
   unfold dp;rw[List.any_eq_false];intro t l u;cases t with
   |none=>exact k l
   |some _=>cases u
  rw[s];refine o5 a _ c f w q n fun i hi=> ?_;have h1:=m i hi;have hm:d[i]∈d:=List.getElem_mem hi;cases j:d[i]with
  |none=>rw[j]at hm;exact absurd hm k
  |some t=>
   rw[j]at h1;obtain⟨_,x,h2,h3⟩:=h1;obtain⟨t',v,rfl⟩:=h3.val;exact⟨_,_,hw _ _ _ h2⟩
theorem Eh(b tb n c:Nat)(a:Option Addr)(cmp all:Bool)(w:World)(h:w.cell? ⟨b,0,none⟩=some (.pointer none))(i:w.cell? ⟨b,6,none⟩=some (.pointer (some ⟨tb,0,none⟩)))(h2:w.cell? ⟨tb,2,none⟩=some (.slice a n c))(h3:w.cell? ⟨tb,3,none⟩=some (.bool cmp))
 (g:Calls Tryz.prog 89 #[.slice a n c] w fun e d=>e= .returned (.bool all)∧w=d):
 Calls Tryz.prog 22 #[.pointer (some ⟨b,0,none⟩)] w fun e d=>e= .returned (.bool (!cmp&&all))∧w=d:=by
 have hT:=Lib.hid (iD b tb w h i);have f:=Lib.hid g;clear g;cases cmp
 all_goals
  go_enter Tryz.func22,Tryz.ntmps22;go_wp2_with fail
  refine hT.out.mono ?_;rintro e d ⟨rfl,rfl⟩;go_wp2_with fail
  go_enter Tryz.func48,Tryz.ntmps48;go_wp2_with fail
 ·refine f.out.mono ?_
  rintro e d ⟨rfl,rfl⟩;go_wp2_with fail
  go_ret;go_wp2_with fail
 ·go_ret
  go_wp2_with fail
theorem Ei(pa:Pm)(D:Dl)(dc:Nat)(T:List U)(fds:List aH)(hO:nw D T fds)(hD:cF pa D fds)(u:U)(a:Option Addr)(c:Nat)(w:World)(hw:KW pa w)(x:bu w)(hu:aj pa D u a c)(L:∀C:BC,C.D=D→C.T=T→C.i=D.len→fD C u)(hi:isIface u=true)(M:cn u≤1099511627776)
 (N:bare (bare u)=bare u)(hf:(bare u).k=11→∃y,(bare u).un= [y]∧y.k≠16)(O:(bare u).k≠12)(P:(bare u).k≠13)(Q:(under u).k=10→under (under u)=under u):
 Calls Tryz.prog 8 #[.slice D.a D.len dc,.agg #[.int .i64 u.k,.int .i64 u.n,.int .i64 u.m,.bool u.v,.string u.nm,.string u.tg,.slice a u.es.length c]] w fun e w'=>(∃G cmp,Hid (gD (fu u) G cmp)∧e= .returned (.bool (!cmp&&dp G)))∧Below w.heap.size w w':=by
 have s:Below w.heap.size w ((w.alloc (.cells #[.int .i64 u.k,.int .i64 u.n,.int .i64 u.m,.bool u.v,.string u.nm,.string u.tg,.slice a u.es.length c] 25)).drew):=((Below.refl _ _).alloc (Nat.le_refl _) _).drew;have r:bu ((w.alloc (.cells #[.int .i64 u.k,.int .i64 u.n,.int .i64 u.m,.bool u.v,.string u.nm,.string u.tg,.slice a u.es.length c] 25)).drew):=fun k h1 h2=>ak s (x k h1 h2);have R:=Lib.hid (uU pa D dc T fds hO hD _ (hw.grown s) r);have z:=Lib.hid s;have S:=Lib.hid L;have Qa:=Lib.hid hu;have V:=Lib.hid M;have Qb:=Lib.hid hi;have d:=Lib.hid (And.intro N (And.intro hf (And.intro O (And.intro P Q))));clear hO hD hw x hu L hi M N hf O P Q s r;go_enter Tryz.func8,Tryz.ntmps8;go_wp2_with fail
 refine oR (fun W=>(W.cell? ⟨w.heap.size,0,none⟩=some (.int .i64 u.k)∧W.cell? ⟨w.heap.size,1,none⟩=some (.int .i64 u.n)∧W.cell? ⟨w.heap.size,2,none⟩=some (.int .i64 u.m)∧W.cell? ⟨w.heap.size,3,none⟩=some (.bool u.v)∧W.cell? ⟨w.heap.size,4,none⟩=some (.string u.nm)∧W.cell? ⟨w.heap.size,5,none⟩=some (.string u.tg)∧W.cell? ⟨w.heap.size,6,none⟩=some (.slice a u.es.length c))) [(0,true),(2,true),(1,false),(3,false),(4,true)] (by(repeat' apply And.intro)<;>first|(simp[go_sem];done)|(go_keep;done)) (fun j=> ?_);repeat((first|refine oS ?_|refine oF j ?_);try simp only[Act.put,oa,ob,oc])
 refine oL fun K X=> ?_;go_simp;go_at_call 20
 refine R.out.mono ?_;rintro e1 w1 ⟨C,q,g,rfl,H,Y,Z,A,P3,P4,l⟩;have Qh:w.heap.size<w1.heap.size:=by have:=l.size;simp at this;omega
 have B:=Lib.hid (z.out.trans (l.mono z.out.size));have P5:=Lib.hid (DL C u (ns C u (S.out C H Y Z)) Qb.out d.out.1 d.out.2.1 d.out.2.2.1 d.out.2.2.2.1 d.out.2.2.2.2 q g _ [] a c w1 P4 (by simpa using V.out) (by rw[A,H];exact Qa.out));have P6:=Lib.hid P3;obtain⟨s0,s1,s2,s3,s4,s5,s6⟩:=j;(try simp only[]);refine X _ _ (by(repeat' apply And.intro)<;>exact ak l (by assumption)) fun j=> ?_;clear X K;try simp only[Act.put,oa,ob,oc]
 clear s0 s1 s2 s3 s4 s5 s6 P4 H Y Z A R l P3;repeat((first|refine oS ?_|refine oF j ?_);try simp only[Act.put,oa,ob,oc])
 refine oL fun K X=> ?_;go_simp;go_at_call 21
 refine P5.out.mono ?_;rintro e2 w2 ⟨b,q2,g2,rfl,P7,I,Qc,P8,t⟩;have Qd:=t.size;have Qi:w.heap.size<C.B0:=by rw[P6.out];simp
 have P9:=Lib.hid (Below.own B.out (t.mono fun c _ h=>h) B.out.size fun c (h:C.B0≤c)=>by omega);have E:∀o v,w1.cell? ⟨w.heap.size,o,none⟩=some v→w2.cell? ⟨w.heap.size,o,none⟩=some v:=fun o v h=>by
  rw[t.cell (World.block_lt_of_cell? _ _ h) (fun h:C.B0≤w.heap.size=>by omega)];exact h
 obtain⟨s0,s1,Qe,s3,s4,s5,s6⟩:=j;(try simp only[]);refine X _ _ (by(repeat' apply And.intro)<;>exact E _ _ (by assumption)) fun j=> ?_;clear X K;try simp only[Act.put,oa,ob,oc]
 clear s0 s1 Qe s3 s4 s5 s6 E;have J:=I.ifs b _ P7;have Qf:cy q2 (g2.below b) b (fu u):=by
  rcases J.2.2.2 with h|⟨h,_⟩
  ·exact h
  ·cases h
 have F:=J.2.1;obtain⟨tb,ma,mc,f,ta,tc,G,cmp,t6,_,_,_,_,_,_,t2,_,tl,tm,t3,tok,_⟩:=Qf;have p:=I.wb.kw;have n0:=p _ _ _ F;have n6:=p _ _ _ t6;have n2:=p _ _ _ t2;have n3:=p _ _ _ t3;have Qg:=Lib.hid (Eh b tb G.length tc ta cmp (dp G) w2 n0 n6 n2 n3 (Eg p ta tc G tl tm (tok.cJ.imp id fun h=>h.2.1)));have P_:=Lib.hid tok;clear tok tm tl t2 t3 t6 n0 n6 n2 n3 p J I P7 Qc P8 t P5 F;repeat((first|refine oS ?_|refine oF j ?_);try simp only[Act.put,oa,ob,oc])
 refine bM ?_;clear j;go_wp2_with fail
 refine Qg.out.mono ?_;rintro e3 w3 ⟨rfl,rfl⟩;go_wp2_with fail
 go_ret;exact⟨⟨G,cmp,P_,rfl⟩,P9.out⟩
theorem En{u v:U}(h:under u=under v):dq u=dq v:=by
 by_cases hk:(under u).k=10
 ·rw[kP hk,kP (by rw[←h];exact hk),h]
 ·rw[kQ hk,kQ (by rw[←h];exact hk)]
theorem Eo{l:List Tm}{u:U}{cmp:Bool}(h:gD u l cmp)(b:l≠ [none]):dp l=false:=by
 unfold dp;rw[List.any_eq_false];intro t c a;cases t with
 |none=>exact(h.cJ.resolve_left b).2.1 c
 |some _=>cases a
theorem Ep{u:U}{e:List Tm}{cmp:Bool}(h:gD (fu u) e cmp)(hi:isIface u=true)(b:(under u).k=10→under (under u)=under u)(g:dq u=false):(!cmp&&dp e)= !aU u:=by
 have key:aU (fu u)=aU u∧dq (fu u)=false:=by
  unfold fu;unfold isIface at hi;simp only[Bool.or_eq_true,beq_iff_eq]at hi;by_cases a:(under u).k=16
  ·rw[if_pos a,eH (u:=u) (by omega),a]
   have d:under cX=cX:=cr (by decide) (by decide) (by decide) (by decide);exact⟨by rw[eH (by rw[d];decide),d];rfl,kQ (by rw[d];decide)⟩
  ·rw[if_neg a]
   have c:=hi.resolve_right a;exact⟨lR (b c),by rw[En (b c)];exact g⟩
 cases f:aU u
 ·obtain⟨rfl,rfl⟩:=h.gen (key.1.trans f)
  rfl
 ·rcases h.mix (key.1.trans f) key.2 with i|rfl
  ·rw[Eo h i];simp
  ·simp
theorem pS{D:Dl}{ds:List aH}{NS:List (List UInt8)}(R:Raw NS ds)(hlen:ds.length=D.len)(p:Pm)(dc:Nat)(hD:cF p D ds)(Qd:aR (ds.map aH.un)+cM ds≤1099511627776)(u:U)(hn:Names NS u)(B:u.dep≤1048576)(Qe:cn u≤1099511627776)(a:Option Addr)(c:Nat)(w:World)(hu:aj p D u a c)(hw:KW p w)(M:bu w):
 Calls Tryz.prog 3 #[.slice D.a D.len dc,.agg #[.int .i64 u.k,.int .i64 u.n,.int .i64 u.m,.bool u.v,.string u.nm,.string u.tg,.slice a u.es.length c]] w fun e w'=>e= .returned (.bool true)∧Below w.heap.size w w':=by
 have Qs:=hD.jG;have h1:¬(2147483647:Int)<(D.len:Int):=by omega
 have P3:Below w.heap.size w (w.alloc (.cells #[.int .i64 u.k,.int .i64 u.n,.int .i64 u.m,.bool u.v,.string u.nm,.string u.tg,.slice a u.es.length c] 25)):=(Below.refl _ _).alloc (Nat.le_refl _) _;have hF:=Lib.hid (vd u a c (w.alloc (.cells #[.int .i64 u.k,.int .i64 u.n,.int .i64 u.m,.bool u.v,.string u.nm,.string u.tg,.slice a u.es.length c] 25)) hu);have Qf:(w.alloc (.cells #[.int .i64 u.k,.int .i64 u.n,.int .i64 u.m,.bool u.v,.string u.nm,.string u.tg,.slice a u.es.length c] 25)).heap[w.heap.size]?=some (.cells #[.int .i64 u.k,.int .i64 u.n,.int .i64 u.m,.bool u.v,.string u.nm,.string u.tg,.slice a u.es.length c] 25):=b8 rfl;have N:((w.alloc (.cells #[.int .i64 u.k,.int .i64 u.n,.int .i64 u.m,.bool u.v,.string u.nm,.string u.tg,.slice a u.es.length c] 25)).cell? ⟨w.heap.size,0,none⟩=some (.int .i64 u.k)∧(w.alloc (.cells #[.int .i64 u.k,.int .i64 u.n,.int .i64 u.m,.bool u.v,.string u.nm,.string u.tg,.slice a u.es.length c] 25)).cell? ⟨w.heap.size,1,none⟩=some (.int .i64 u.n)∧(w.alloc (.cells #[.int .i64 u.k,.int .i64 u.n,.int .i64 u.m,.bool u.v,.string u.nm,.string u.tg,.slice a u.es.length c] 25)).cell? ⟨w.heap.size,2,none⟩=some (.int .i64 u.m)∧(w.alloc (.cells #[.int .i64 u.k,.int .i64 u.n,.int .i64 u.m,.bool u.v,.string u.nm,.string u.tg,.slice a u.es.length c] 25)).cell? ⟨w.heap.size,3,none⟩=some (.bool u.v)∧(w.alloc (.cells #[.int .i64 u.k,.int .i64 u.n,.int .i64 u.m,.bool u.v,.string u.nm,.string u.tg,.slice a u.es.length c] 25)).cell? ⟨w.heap.size,4,none⟩=some (.string u.nm)∧(w.alloc (.cells #[.int .i64 u.k,.int .i64 u.n,.int .i64 u.m,.bool u.v,.string u.nm,.string u.tg,.slice a u.es.length c] 25)).cell? ⟨w.heap.size,5,none⟩=some (.string u.tg)∧(w.alloc (.cells #[.int .i64 u.k,.int .i64 u.n,.int .i64 u.m,.bool u.v,.string u.nm,.string u.tg,.slice a u.es.length c] 25)).cell? ⟨w.heap.size,6,none⟩=some (.slice a u.es.length c)):=by(repeat' apply And.intro)<;>(simp only[World.cell?,Qf];rfl)
 have P4:=Lib.hid N;have O:=Lib.hid P3;have hS:Hid (∀W,Below (w.alloc (.cells #[.int .i64 u.k,.int .i64 u.n,.int .i64 u.m,.bool u.v,.string u.nm,.string u.tg,.slice a u.es.length c] 25)).heap.size (w.alloc (.cells #[.int .i64 u.k,.int .i64 u.n,.int .i64 u.m,.bool u.v,.string u.nm,.string u.tg,.slice a u.es.length c] 25)) W→Calls Tryz.prog 6 #[.slice D.a D.len dc,.slice (some ⟨W.heap.size,0,none⟩) 1 1] (W.alloc (.cells #[.int .i64 u.k,.int .i64 u.n,.int .i64 u.m,.bool u.v,.string u.nm,.string u.tg,.slice a u.es.length c] 25)) fun e w'=>(∃b,e= .returned (.bool b)∧Hid (b=true→dL D ds∧fH D ds u=true))∧Below (W.alloc (.cells #[.int .i64 u.k,.int .i64 u.n,.int .i64 u.m,.bool u.v,.string u.nm,.string u.tg,.slice a u.es.length c] 25)).heap.size (W.alloc (.cells #[.int .i64 u.k,.int .i64 u.n,.int .i64 u.m,.bool u.v,.string u.nm,.string u.tg,.slice a u.es.length c] 25)) w'):=fun W P=>by
  have Qg:=(hw.grown P3).grown P;have hd:∀o,p W.heap.size o=none:=fun o=>Qg.aI (Nat.le_refl _) o;have Q:=Pm.cO (cs:=#[.int .i64 u.k,.int .i64 u.n,.int .i64 u.m,.bool u.v,.string u.nm,.string u.tg,.slice a u.es.length c]) hd;have Qt:KW (p.add W.heap.size #[.int .i64 u.k,.int .i64 u.n,.int .i64 u.m,.bool u.v,.string u.nm,.string u.tg,.slice a u.es.length c]) (W.alloc (.cells #[.int .i64 u.k,.int .i64 u.n,.int .i64 u.m,.bool u.v,.string u.nm,.string u.tg,.slice a u.es.length c] 25)):=(Qg.alloc _).add fun o v h=>by
   have hh:(W.alloc (.cells #[.int .i64 u.k,.int .i64 u.n,.int .i64 u.m,.bool u.v,.string u.nm,.string u.tg,.slice a u.es.length c] 25)).heap[W.heap.size]?=some (.cells #[.int .i64 u.k,.int .i64 u.n,.int .i64 u.m,.bool u.v,.string u.nm,.string u.tg,.slice a u.es.length c] 25):=b8 rfl;simp only[World.cell?,hh];exact h
  refine Em R hlen _ dc (hD.sub Q) u ⟨hn,B⟩ _ _ ?_ Qt;simp only[au];refine⟨W.heap.size,0,rfl,⟨a,c,?_,aj.sub Q _ hu⟩,trivial⟩;refine⟨?_,?_,?_,?_,?_,?_,?_⟩<;>(rw[Pm.aT];rfl)
 have P5:=Lib.hid hD;have Qu:=Lib.hid hu;have P6:=Lib.hid hw;have P7:=Lib.hid M;have Qh:=Lib.hid Qd;have Qi:=Lib.hid Qe;have r:=Lib.hid hlen;have Qv:=Lib.hid hn;have P8:=Lib.hid B;clear hD hu hw M Qd Qe hlen hn B N Qf P3;go_enter Tryz.func3,Tryz.ntmps3;go_wp2_with fail
 refine hF.out.mono ?_;rintro e1 C ⟨rfl,d⟩;have Qj:=Lib.hid (hS.out C d);have P9:=Lib.hid d;have z:=P4.out;obtain⟨z0,z1,z2,z3,z4,z5,z6⟩:(C.cell? ⟨w.heap.size,0,none⟩=some (.int .i64 u.k)∧C.cell? ⟨w.heap.size,1,none⟩=some (.int .i64 u.n)∧C.cell? ⟨w.heap.size,2,none⟩=some (.int .i64 u.m)∧C.cell? ⟨w.heap.size,3,none⟩=some (.bool u.v)∧C.cell? ⟨w.heap.size,4,none⟩=some (.string u.nm)∧C.cell? ⟨w.heap.size,5,none⟩=some (.string u.tg)∧C.cell? ⟨w.heap.size,6,none⟩=some (.slice a u.es.length c)):=⟨ak d z.1,ak d z.2.1,ak d z.2.2.1,ak d z.2.2.2.1,ak d z.2.2.2.2.1,ak d z.2.2.2.2.2.1,ak d z.2.2.2.2.2.2⟩
 have Qy:w.heap.size<C.heap.size:=by have:=d.size;simp at this;omega
 clear d hF hS z;go_wp2_with fail
 refine Qj.out.mono ?_;rintro e2 J ⟨⟨b,rfl,hb⟩,F⟩;have s:=Lib.hid (show Below w.heap.size w J from(O.out.trans (P9.out.mono O.out.size)).trans (((((Below.refl _ _).alloc (Nat.le_refl _) _).trans (F.mono (by simp)))).mono (by omega)));have i:=Lib.hid (show Below C.heap.size C J from((Below.refl _ _).alloc (Nat.le_refl _) _).trans (F.mono (by simp)));clear F Qj;cases b with
 |false=>
  go_wp2_with fail
  go_ret;exact⟨rfl,s.out⟩
 |true=>
  obtain⟨V,S⟩:=hb.out rfl;have Qk:=nh P5.out;have G:aj p D (aV ds u) a c:=iK (kh P5.out) _ _ Qu.out;obtain⟨l,P_,Qw,Ql⟩:=Ef R r.out V S Qv.out P8.out G;have E:=kl R r.out V;have Qm:=u_ R r.out V P5.out Qh.out;have j:=l.pl.form.aB;have H:=l.pl.bare l.f2 j.1 j.2;have g:=l.eN E (by omega) j.1 j.2;obtain⟨Qn,T,X⟩:bare (bare (aV ds u))=bare (aV ds u)∧(bare (aV ds u)).k≠12∧(bare (aV ds u)).k≠13:=⟨cd H.2.1 H.2.2.1,H.1.form.aB.1,H.1.form.aB.2⟩
  have Y:cn (aV ds u)≤1099511627776:=by unfold aV;rw[nD];exact Qi.out
  have Qa:Hid (∀W,Below w.heap.size w W→Calls Tryz.prog 8 #[.slice D.a D.len dc,.agg #[.int .i64 u.k,.int .i64 u.n,.int .i64 u.m,.bool u.v,.string u.nm,.string u.tg,.slice a u.es.length c]] W fun e w'=>(∃L cmp,Hid (gD (fu (aV ds u)) L cmp)∧e= .returned (.bool (!cmp&&dp L)))∧Below W.heap.size W w'):=fun W P=>by
   have h:=Ei p D dc (aN ds) (bW ds) Qm Qk (aV ds u) a c W (P6.out.grown P) (fun k h1 h2=>ak P (P7.out k h1 h2)) G Ql P_ Y Qn (l.fl E (by omega) j.1 j.2) T X (fun _=>cr g.2.1.1 g.2.1.2.1 g.2.1.2.2.1 g.2.1.2.2.2);simp only[jB ds u]at h;exact h
  have Qb:Hid (∀W,Below w.heap.size w W→Calls Tryz.prog 7 #[.slice D.a D.len dc,.agg #[.int .i64 u.k,.int .i64 u.n,.int .i64 u.m,.bool u.v,.string u.nm,.string u.tg,.slice a u.es.length c]] W (RB (dq (aV ds u)) W)):=fun W P=>by
   have h:=El D dc (aV ds u) p 0 1 a c W l.pl (by omega) (by omega) j.1 j.2 G (P6.out.grown P);simp only[jB ds u]at h;exact h
  have Qc:Hid (∀W,Below w.heap.size w W→Calls Tryz.prog 9 #[.slice D.a D.len dc,.agg #[.int .i64 u.k,.int .i64 u.n,.int .i64 u.m,.bool u.v,.string u.nm,.string u.tg,.slice a u.es.length c]] W (RB (aU (aV ds u)) W)):=fun W P=>by
   have h:=jR D dc (aV ds u) p 0 1 a c W l.pl (by omega) (by omega) j.1 j.2 G (P6.out.grown P);simp only[jB ds u]at h;exact h
  have Z:Hid (∀L cmp,gD (fu (aV ds u)) L cmp→dq (aV ds u)=false→(!cmp&&dp L)= !aU (aV ds u)):=fun L cmp h h'=>Ep h P_ (fun _=>cr g.2.1.1 g.2.1.2.1 g.2.1.2.2.1 g.2.1.2.2.2) h';clear Qk G l P_ Qw Ql E Qm Qn T X Y H g j S;generalize aV ds u=v at Qa Qb Qc Z;have Qz:w.heap.size<J.heap.size:=by have:=i.out.size;omega
  obtain⟨y0,y1,y2,y3,y4,y5,y6⟩:(J.cell? ⟨w.heap.size,0,none⟩=some (.int .i64 u.k)∧J.cell? ⟨w.heap.size,1,none⟩=some (.int .i64 u.n)∧J.cell? ⟨w.heap.size,2,none⟩=some (.int .i64 u.m)∧J.cell? ⟨w.heap.size,3,none⟩=some (.bool u.v)∧J.cell? ⟨w.heap.size,4,none⟩=some (.string u.nm)∧J.cell? ⟨w.heap.size,5,none⟩=some (.string u.tg)∧J.cell? ⟨w.heap.size,6,none⟩=some (.slice a u.es.length c)):=⟨ak i.out z0,ak i.out z1,ak i.out z2,ak i.out z3,ak i.out z4,ak i.out z5,ak i.out z6⟩
  clear z0 z1 z2 z3 z4 z5 z6 hb;go_wp2_with fail
  refine(Qb.out _ s.out).mono ?_;rintro e3 w3 ⟨b3,rfl,Qo,f⟩;have t:=Lib.hid (s.out.trans (f.mono s.out.size));have QA:w.heap.size<w3.heap.size:=by have:=f.size;omega
  obtain⟨x0,x1,x2,x3,x4,x5,x6⟩:(w3.cell? ⟨w.heap.size,0,none⟩=some (.int .i64 u.k)∧w3.cell? ⟨w.heap.size,1,none⟩=some (.int .i64 u.n)∧w3.cell? ⟨w.heap.size,2,none⟩=some (.int .i64 u.m)∧w3.cell? ⟨w.heap.size,3,none⟩=some (.bool u.v)∧w3.cell? ⟨w.heap.size,4,none⟩=some (.string u.nm)∧w3.cell? ⟨w.heap.size,5,none⟩=some (.string u.tg)∧w3.cell? ⟨w.heap.size,6,none⟩=some (.slice a u.es.length c)):=⟨ak f y0,ak f y1,ak f y2,ak f y3,ak f y4,ak f y5,ak f y6⟩
  clear y0 y1 y2 y3 y4 y5 y6 f Qb;cases b3 with
  |true=>
   go_wp2_with fail
   go_ret;exact⟨rfl,t.out⟩
  |false=>
   have Qx:=Lib.hid Qo.out.symm;clear Qo;go_wp2_with fail
   refine oR (fun W=>(W.cell? ⟨w.heap.size,0,none⟩=some (.int .i64 u.k)∧W.cell? ⟨w.heap.size,1,none⟩=some (.int .i64 u.n)∧W.cell? ⟨w.heap.size,2,none⟩=some (.int .i64 u.m)∧W.cell? ⟨w.heap.size,3,none⟩=some (.bool u.v)∧W.cell? ⟨w.heap.size,4,none⟩=some (.string u.nm)∧W.cell? ⟨w.heap.size,5,none⟩=some (.string u.tg)∧W.cell? ⟨w.heap.size,6,none⟩=some (.slice a u.es.length c))) [(0,true),(1,true),(3,true),(4,true),(2,false),(5,false),(6,true),(7,true),(8,true)] (by(repeat' apply And.intro)<;>assumption) (fun q=> ?_);repeat((first|refine oS ?_|refine oF q ?_);try simp only[Act.put,oa,ob,oc])
   refine oL fun K hK=> ?_;go_simp;go_at_call 8
   refine(Qa.out _ t.out.drew).mono ?_;rintro e4 w4 ⟨⟨L,cmp,Qp,rfl⟩,y⟩;have I:=Lib.hid (t.out.drew.trans (y.mono t.out.size));obtain⟨s0,s1,s2,s3,s4,s5,s6⟩:=q;(try simp only[]);refine hK _ _ (by(repeat' apply And.intro)<;>exact ak y (by assumption)) fun q=> ?_;clear hK K;try simp only[Act.put,oa,ob,oc]
   clear s0 s1 s2 s3 s4 s5 s6 Qa;have QB:w.heap.size<w4.heap.size:=by have:=y.size;simp at this;omega
   clear y;have hl:=Lib.hid (Z.out L cmp Qp.out Qx.out);generalize (!cmp&&dp L)=x at*;repeat((first|refine oS ?_|refine oF q ?_);try simp only[Act.put,oa,ob,oc])
   refine oL fun K hK=> ?_;go_simp;go_at_call 9
   refine(Qc.out _ I.out).mono ?_;rintro e5 w5 ⟨b5,rfl,Qq,A⟩;have Qr:=Lib.hid (I.out.trans (A.mono I.out.size));obtain⟨s0,s1,s2,s3,s4,s5,s6⟩:=q;(try simp only[]);refine hK _ _ (by(repeat' apply And.intro)<;>exact ak A (by assumption)) fun q=> ?_;clear hK K;try simp only[Act.put,oa,ob,oc]
   clear s0 s1 s2 s3 s4 s5 s6 Qc;have QC:w.heap.size<w5.heap.size:=by have:=A.size;omega
   obtain rfl:x= !b5:=by rw[hl.out,Qq.out]
   clear A hl Qq;repeat((first|refine oS ?_|refine oF q ?_);try simp only[Act.put,oa,ob,oc])
   refine bM ?_;clear q;cases b5
   all_goals
    go_wp2_with fail
    go_ret;exact⟨rfl,Qr.out⟩
end Go.Proofs.YtkfaiocajcjomaaGreatDoor
