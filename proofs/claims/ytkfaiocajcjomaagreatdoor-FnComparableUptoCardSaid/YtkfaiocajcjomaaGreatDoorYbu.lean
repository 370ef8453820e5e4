import Derived.Test.YtkfaiocajcjomaaGreatDoorYbq
import Derived.Test.YtkfaiocajcjomaaGreatDoorYbt
set_option maxRecDepth 100000
set_option maxHeartbeats 8000000
set_option linter.all false
namespace Go.Proofs.YtkfaiocajcjomaaGreatDoor
open Go.RowKit TS
theorem Ex{G:Value→Prop}{F:Value→Option Value}(x:Value)(r:Bool)(w:World)(h:Calls Tryz.prog 51 #[x,.bool true,.map none] w (gJ G r F none w)):
 Calls Tryz.prog 25 #[x] w fun e d=>e= .returned (.bool r)∧Below w.heap.size w d:=by
 have a:=Lib.hid h;clear h;go_enter Tryz.func25,Tryz.ntmps25;go_wp2_with fail
 refine a.out.mono ?_;rintro e f ⟨⟨o,rfl,rfl⟩,hk,_⟩;have b:=Lib.hid (Below.own (Below.refl w.heap.size w) hk (Nat.le_refl _) fun c (h:none=some c)=>by cases h);clear hk a;cases o with
 |none=>
  go_wp2_with fail
  go_ret;exact⟨rfl,b.out⟩
 |some o=>
  go_wp2_with fail
  go_ret;exact⟨rfl,b.out⟩
theorem Ey(pa:Pm)(D:Dl)(dc:Nat)(T:List U)(fds:List aH)(hO:nw D T fds)(hD:cF pa D fds)(u:U)(a:Option Addr)(c:Nat)(w:World)(hw:KW pa w)(r:bu w)(hu:aj pa D u a c)(G:∀C:BC,C.D=D→C.T=T→C.i=D.len→fD C u)(H:cn u≤1099511627776)(hC:dh D.len u):
 Calls Tryz.prog 11 #[.slice D.a D.len dc,.agg #[.int .i64 u.k,.int .i64 u.n,.int .i64 u.m,.bool u.v,.string u.nm,.string u.tg,.slice a u.es.length c]] w fun e w'=>e= .returned (.bool (bj true u))∧Below w.heap.size w w':=by
 have j:Below w.heap.size w ((w.alloc (.cells #[.int .i64 u.k,.int .i64 u.n,.int .i64 u.m,.bool u.v,.string u.nm,.string u.tg,.slice a u.es.length c] 25)).drew):=((Below.refl _ _).alloc (Nat.le_refl _) _).drew;have f:bu ((w.alloc (.cells #[.int .i64 u.k,.int .i64 u.n,.int .i64 u.m,.bool u.v,.string u.nm,.string u.tg,.slice a u.es.length c] 25)).drew):=fun k h1 h2=>ak j (r k h1 h2);have I:=Lib.hid (uU pa D dc T fds hO hD _ (hw.grown j) f);have s:=Lib.hid j;have J:=Lib.hid G;have P8:=Lib.hid hu;have L:=Lib.hid H;have P9:=Lib.hid hC;clear hO hD hw r hu G H hC j f;go_enter Tryz.func11,Tryz.ntmps11;go_wp2_with fail
 refine oR (fun W=>(W.cell? ⟨w.heap.size,0,none⟩=some (.int .i64 u.k)∧W.cell? ⟨w.heap.size,1,none⟩=some (.int .i64 u.n)∧W.cell? ⟨w.heap.size,2,none⟩=some (.int .i64 u.m)∧W.cell? ⟨w.heap.size,3,none⟩=some (.bool u.v)∧W.cell? ⟨w.heap.size,4,none⟩=some (.string u.nm)∧W.cell? ⟨w.heap.size,5,none⟩=some (.string u.tg)∧W.cell? ⟨w.heap.size,6,none⟩=some (.slice a u.es.length c))) [(0,true),(2,true),(1,false),(3,false),(4,false),(5,true)] (by(repeat' apply And.intro)<;>first|(simp[go_sem];done)|(go_keep;done)) (fun b=> ?_);repeat((first|refine oS ?_|refine oF b ?_);try simp only[Act.put,oa,ob,oc])
 refine oL fun K t=> ?_;go_simp;go_at_call 20
 refine I.out.mono ?_;rintro e1 w1 ⟨C,q,g,rfl,l,M,N,y,O,P,d⟩;have Qb:w.heap.size<w1.heap.size:=by have:=d.size;simp at this;omega
 have z:=Lib.hid (s.out.trans (d.mono s.out.size));have Q:=Lib.hid (uS C u (ns C u (J.out C l M N)) q g _ [] a c w1 P (by simpa using L.out) (by rw[y,l];exact P8.out));have Qc:=Lib.hid l;have R:=Lib.hid O;obtain⟨S,s1,s2,V,X,Y,Z⟩:=b;(try simp only[]);refine t _ _ (by(repeat' apply And.intro)<;>exact ak d (by assumption)) fun b=> ?_;clear t K;try simp only[Act.put,oa,ob,oc]
 clear S s1 s2 V X Y Z P l M N y I d O;repeat((first|refine oS ?_|refine oF b ?_);try simp only[Act.put,oa,ob,oc])
 refine oL fun K t=> ?_;go_simp;go_at_call 26
 refine Q.out.mono ?_;rintro e2 w2 ⟨x,q2,g2,rfl,P3,P4,P_,P5,p⟩;have Qa:=p.size;have Qd:w.heap.size<C.B0:=by rw[R.out];simp
 have A:=Lib.hid (Below.own z.out (p.mono fun c _ h=>h) z.out.size fun c (h:C.B0≤c)=>by omega);have B:∀o v,w1.cell? ⟨w.heap.size,o,none⟩=some v→w2.cell? ⟨w.heap.size,o,none⟩=some v:=fun o v h=>by
  rw[p.cell (World.block_lt_of_cell? _ _ h) (fun h:C.B0≤w.heap.size=>by omega)];exact h
 have P6:=Lib.hid (Ex x (bj true u) w2 ((tG D.len q2 g2 true P9.out x P3).2 w2 P4.whole));obtain⟨S,s1,E,V,X,Y,Z⟩:=b;(try simp only[]);refine t _ _ (by(repeat' apply And.intro)<;>exact B _ _ (by assumption)) fun b=> ?_;clear t K;try simp only[Act.put,oa,ob,oc]
 clear S s1 E V X Y Z B P4 P3 P_ P5 p Q;repeat((first|refine oS ?_|refine oF b ?_);try simp only[Act.put,oa,ob,oc])
 refine oL fun K t=> ?_;go_simp;go_at_call 25
 refine P6.out.mono ?_;rintro e3 w3 ⟨rfl,F⟩;have P7:=Lib.hid (A.out.trans (F.mono A.out.size));obtain⟨S,s1,E,V,X,Y,Z⟩:=b;(try simp only[]);refine t _ _ (by(repeat' apply And.intro)<;>exact ak F (by assumption)) fun b=> ?_;clear t K;try simp only[Act.put,oa,ob,oc]
 clear S s1 E V X Y Z F P6;repeat((first|refine oS ?_|refine oF b ?_);try simp only[Act.put,oa,ob,oc])
 refine bM ?_;clear b;go_wp2_with fail
 go_ret;exact⟨rfl,P7.out⟩
end Go.Proofs.YtkfaiocajcjomaaGreatDoor
namespace TS
open Go Go.RowKit Go.Proofs.YtkfaiocajcjomaaGreatDoor
theorem EF{D:Dl}{ds:List aH}{NS:List (List UInt8)}{p:Pm}(R:Raw NS ds)(hlen:ds.length=D.len)(V:dL D ds){u:U}(d:Go.Proofs.YtkfaiocajcjomaaGreatDoor.hZ D ds u=true)(l:Names NS u)(f:u.dep≤1048576){a:Option Addr}{c:Nat}(hu:aj p D (aV ds u) a c):
 Mo D.len (aN ds) NS ds.length (aV ds u) 0 1∧dh D.len (aV ds u)∧∀C:BC,C.D=D→C.T=aN ds→C.i=D.len→fD C (aV ds u):=by
 unfold Go.Proofs.YtkfaiocajcjomaaGreatDoor.hZ at d;simp only[Bool.and_eq_true]at d;have E:=Go.Proofs.YtkfaiocajcjomaaGreatDoor.kl R hlen V;have hk:=(Go.Proofs.YtkfaiocajcjomaaGreatDoor.nC R hlen V d.1 l f).mo;have b:=hk.pl.form.aB;have h:=nA E _ hk d.2 (fun _=>b) (fun e=>by cases e) hu;have m:aP (aV ds u):=hk.pO E b.1 b.2 d.2;exact⟨hk,lB E _ hk (by omega) m,fun C g j k=>⟨⟨0,1,by omega,by rw[g];exact hk.pl,by rw[j,k,←hlen];exact hk.bE⟩,by rw[g];exact h⟩⟩
end TS
namespace Go.Proofs.YtkfaiocajcjomaaGreatDoor
open Go.RowKit TS
theorem EG{D:Dl}{ds:List aH}{NS:List (List UInt8)}(R:Raw NS ds)(hlen:ds.length=D.len)(p:Pm)(dc:Nat)(k:cF p D ds)(u:U)(l:Names NS u∧u.dep≤1048576)(a:Option Addr)(w:World)(q:au p D [u] a)(hw:KW p w):
 Calls Tryz.prog 10 #[.slice D.a D.len dc,.slice a 1 1] w fun e t=>(∃b,e= .returned (.bool b)∧Hid (b=true→dL D ds∧hZ D ds u=true))∧Below w.heap.size w t:=by
 have v:=Lib.hid (uZ p D dc ds NS R k w hw);have r:=Lib.hid (fun(V:dL D ds) W (x:KW p W)=>EE R hlen V p dc k u l.1 l.2 a W q x);have m:=Lib.hid hw;clear R hlen k l q hw;go_enter Tryz.func10,Tryz.ntmps10;go_wp2_with fail
 refine v.out.mono ?_;rintro A y ⟨⟨b,rfl,s⟩,c⟩;cases b with
 |false=>
  go_wp2_with fail
  go_ret;exact⟨⟨_,rfl,Lib.hid fun h=>by cases h⟩,c⟩
 |true=>
  have g:=Lib.hid (s.out rfl);have n:=Lib.hid (r.out g.out y (m.out.grown c));have d:=Lib.hid c;clear s c r;go_wp2_with fail
  refine n.out.mono ?_;rintro B C ⟨z,rfl,i,f⟩;have j:Hid (z=true→dL D ds∧hZ D ds u=true):=fun h=>⟨g.out,i.out.symm.trans h⟩
  have o:=Lib.hid (d.out.trans (f.mono d.out.size));clear i f;go_wp2_with fail
  go_ret;exact⟨⟨_,rfl,j⟩,o.out⟩
theorem pS{D:Dl}{ds:List aH}{NS:List (List UInt8)}(R:Raw NS ds)(hlen:ds.length=D.len)(p:Pm)(dc:Nat)(hD:cF p D ds)(Y:aR (ds.map aH.un)+cM ds≤1099511627776)(u:U)(hn:Names NS u)(q:u.dep≤1048576)(Z:cn u≤1099511627776)(a:Option Addr)(c:Nat)(w:World)(hu:aj p D u a c)(hw:KW p w)(C:bu w):
 Calls Tryz.prog 4 #[.slice D.a D.len dc,.agg #[.int .i64 u.k,.int .i64 u.n,.int .i64 u.m,.bool u.v,.string u.nm,.string u.tg,.slice a u.es.length c]] w fun e w'=>e= .returned (.bool true)∧Below w.heap.size w w':=by
 have Qe:=hD.jG;have h1:¬(2147483647:Int)<(D.len:Int):=by omega
 have J:Below w.heap.size w (w.alloc (.cells #[.int .i64 u.k,.int .i64 u.n,.int .i64 u.m,.bool u.v,.string u.nm,.string u.tg,.slice a u.es.length c] 25)):=(Below.refl _ _).alloc (Nat.le_refl _) _;have hF:=Lib.hid (vd u a c (w.alloc (.cells #[.int .i64 u.k,.int .i64 u.n,.int .i64 u.m,.bool u.v,.string u.nm,.string u.tg,.slice a u.es.length c] 25)) hu);have P3:(w.alloc (.cells #[.int .i64 u.k,.int .i64 u.n,.int .i64 u.m,.bool u.v,.string u.nm,.string u.tg,.slice a u.es.length c] 25)).heap[w.heap.size]?=some (.cells #[.int .i64 u.k,.int .i64 u.n,.int .i64 u.m,.bool u.v,.string u.nm,.string u.tg,.slice a u.es.length c] 25):=b8 rfl;have E:((w.alloc (.cells #[.int .i64 u.k,.int .i64 u.n,.int .i64 u.m,.bool u.v,.string u.nm,.string u.tg,.slice a u.es.length c] 25)).cell? ⟨w.heap.size,0,none⟩=some (.int .i64 u.k)∧(w.alloc (.cells #[.int .i64 u.k,.int .i64 u.n,.int .i64 u.m,.bool u.v,.string u.nm,.string u.tg,.slice a u.es.length c] 25)).cell? ⟨w.heap.size,1,none⟩=some (.int .i64 u.n)∧(w.alloc (.cells #[.int .i64 u.k,.int .i64 u.n,.int .i64 u.m,.bool u.v,.string u.nm,.string u.tg,.slice a u.es.length c] 25)).cell? ⟨w.heap.size,2,none⟩=some (.int .i64 u.m)∧(w.alloc (.cells #[.int .i64 u.k,.int .i64 u.n,.int .i64 u.m,.bool u.v,.string u.nm,.string u.tg,.slice a u.es.length c] 25)).cell? ⟨w.heap.size,3,none⟩=some (.bool u.v)∧(w.alloc (.cells #[.int .i64 u.k,.int .i64 u.n,.int .i64 u.m,.bool u.v,.string u.nm,.string u.tg,.slice a u.es.length c] 25)).cell? ⟨w.heap.size,4,none⟩=some (.string u.nm)∧(w.alloc (.cells #[.int .i64 u.k,.int .i64 u.n,.int .i64 u.m,.bool u.v,.string u.nm,.string u.tg,.slice a u.es.length c] 25)).cell? ⟨w.heap.size,5,none⟩=some (.string u.tg)∧(w.alloc (.cells #[.int .i64 u.k,.int .i64 u.n,.int .i64 u.m,.bool u.v,.string u.nm,.string u.tg,.slice a u.es.length c] 25)).cell? ⟨w.heap.size,6,none⟩=some (.slice a u.es.length c)):=by(repeat' apply And.intro)<;>(simp only[World.cell?,P3];rfl)
 have L:=Lib.hid E;have F:=Lib.hid J;have hS:Hid (∀W,Below (w.alloc (.cells #[.int .i64 u.k,.int .i64 u.n,.int .i64 u.m,.bool u.v,.string u.nm,.string u.tg,.slice a u.es.length c] 25)).heap.size (w.alloc (.cells #[.int .i64 u.k,.int .i64 u.n,.int .i64 u.m,.bool u.v,.string u.nm,.string u.tg,.slice a u.es.length c] 25)) W→Calls Tryz.prog 10 #[.slice D.a D.len dc,.slice (some ⟨W.heap.size,0,none⟩) 1 1] (W.alloc (.cells #[.int .i64 u.k,.int .i64 u.n,.int .i64 u.m,.bool u.v,.string u.nm,.string u.tg,.slice a u.es.length c] 25)) fun e w'=>(∃b,e= .returned (.bool b)∧Hid (b=true→dL D ds∧hZ D ds u=true))∧Below (W.alloc (.cells #[.int .i64 u.k,.int .i64 u.n,.int .i64 u.m,.bool u.v,.string u.nm,.string u.tg,.slice a u.es.length c] 25)).heap.size (W.alloc (.cells #[.int .i64 u.k,.int .i64 u.n,.int .i64 u.m,.bool u.v,.string u.nm,.string u.tg,.slice a u.es.length c] 25)) w'):=fun W X=>by
  have P4:=(hw.grown J).grown X;have hd:∀o,p W.heap.size o=none:=fun o=>P4.aI (Nat.le_refl _) o;have G:=Pm.cO (cs:=#[.int .i64 u.k,.int .i64 u.n,.int .i64 u.m,.bool u.v,.string u.nm,.string u.tg,.slice a u.es.length c]) hd;have Qf:KW (p.add W.heap.size #[.int .i64 u.k,.int .i64 u.n,.int .i64 u.m,.bool u.v,.string u.nm,.string u.tg,.slice a u.es.length c]) (W.alloc (.cells #[.int .i64 u.k,.int .i64 u.n,.int .i64 u.m,.bool u.v,.string u.nm,.string u.tg,.slice a u.es.length c] 25)):=(P4.alloc _).add fun o v h=>by
   have hh:(W.alloc (.cells #[.int .i64 u.k,.int .i64 u.n,.int .i64 u.m,.bool u.v,.string u.nm,.string u.tg,.slice a u.es.length c] 25)).heap[W.heap.size]?=some (.cells #[.int .i64 u.k,.int .i64 u.n,.int .i64 u.m,.bool u.v,.string u.nm,.string u.tg,.slice a u.es.length c] 25):=b8 rfl;simp only[World.cell?,hh];exact h
  refine EG R hlen _ dc (hD.sub G) u ⟨hn,q⟩ _ _ ?_ Qf;simp only[au];refine⟨W.heap.size,0,rfl,⟨a,c,?_,aj.sub G _ hu⟩,trivial⟩;refine⟨?_,?_,?_,?_,?_,?_,?_⟩<;>(rw[Pm.aT];rfl)
 have M:=Lib.hid hD;have Qg:=Lib.hid hu;have P5:=Lib.hid hw;have N:=Lib.hid C;have P6:=Lib.hid Y;have P7:=Lib.hid Z;have r:=Lib.hid hlen;have Qh:=Lib.hid hn;have O:=Lib.hid q;clear hD hu hw C Y Z hlen hn q E P3 J;go_enter Tryz.func4,Tryz.ntmps4;go_wp2_with fail
 refine hF.out.mono ?_;rintro e1 s ⟨rfl,d⟩;have P8:=Lib.hid (hS.out s d);have P:=Lib.hid d;have z:=L.out;obtain⟨z0,z1,z2,z3,z4,z5,z6⟩:(s.cell? ⟨w.heap.size,0,none⟩=some (.int .i64 u.k)∧s.cell? ⟨w.heap.size,1,none⟩=some (.int .i64 u.n)∧s.cell? ⟨w.heap.size,2,none⟩=some (.int .i64 u.m)∧s.cell? ⟨w.heap.size,3,none⟩=some (.bool u.v)∧s.cell? ⟨w.heap.size,4,none⟩=some (.string u.nm)∧s.cell? ⟨w.heap.size,5,none⟩=some (.string u.tg)∧s.cell? ⟨w.heap.size,6,none⟩=some (.slice a u.es.length c)):=⟨ak d z.1,ak d z.2.1,ak d z.2.2.1,ak d z.2.2.2.1,ak d z.2.2.2.2.1,ak d z.2.2.2.2.2.1,ak d z.2.2.2.2.2.2⟩
 have Qi:w.heap.size<s.heap.size:=by have:=d.size;simp at this;omega
 clear d hF hS z;go_wp2_with fail
 refine P8.out.mono ?_;rintro e2 A ⟨⟨b,rfl,hb⟩,t⟩;have i:=Lib.hid (show Below w.heap.size w A from(F.out.trans (P.out.mono F.out.size)).trans (((((Below.refl _ _).alloc (Nat.le_refl _) _).trans (t.mono (by simp)))).mono (by omega)));have f:=Lib.hid (show Below s.heap.size s A from((Below.refl _ _).alloc (Nat.le_refl _) _).trans (t.mono (by simp)));clear t P8;cases b with
 |false=>
  go_wp2_with fail
  go_ret;exact⟨rfl,i.out⟩
 |true=>
  obtain⟨V,H⟩:=hb.out rfl;have P9:=nh M.out;have B:aj p D (aV ds u) a c:=iK (kh M.out) _ _ Qg.out;obtain⟨P_,Q,Qa⟩:=EF R r.out V H Qh.out O.out B;have Qb:=u_ R r.out V M.out P6.out;have I:cn (aV ds u)≤1099511627776:=by unfold aV;rw[nD];exact P7.out
  have S:Hid (∀W,Below w.heap.size w W→Calls Tryz.prog 11 #[.slice D.a D.len dc,.agg #[.int .i64 u.k,.int .i64 u.n,.int .i64 u.m,.bool u.v,.string u.nm,.string u.tg,.slice a u.es.length c]] W fun e w'=>e= .returned (.bool (bj true (aV ds u)))∧Below W.heap.size W w'):=fun W X=>by
   have h:=Ey p D dc (aN ds) (bW ds) Qb P9 (aV ds u) a c W (P5.out.grown X) (fun k h1 h2=>ak X (N.out k h1 h2)) B Qa I Q;simp only[jB ds u]at h;exact h
  have T:Hid (∀W,Below w.heap.size w W→Calls Tryz.prog 12 #[.slice D.a D.len dc,.agg #[.int .i64 u.k,.int .i64 u.n,.int .i64 u.m,.bool u.v,.string u.nm,.string u.tg,.slice a u.es.length c]] W (RB (bj true (aV ds u)) W)):=fun W X=>by
   have h:=EC p D dc (aV ds u) 1 a c W P_.pl (by omega) (by omega) B (P5.out.grown X);rw[Ez Q]at h;simp only[jB ds u]at h;exact h
  clear P9 B P_ Qa Qb I H Q;generalize bj true (aV ds u)=x at S T;have Qj:w.heap.size<A.heap.size:=by have:=f.out.size;omega
  obtain⟨y0,y1,y2,y3,y4,y5,y6⟩:(A.cell? ⟨w.heap.size,0,none⟩=some (.int .i64 u.k)∧A.cell? ⟨w.heap.size,1,none⟩=some (.int .i64 u.n)∧A.cell? ⟨w.heap.size,2,none⟩=some (.int .i64 u.m)∧A.cell? ⟨w.heap.size,3,none⟩=some (.bool u.v)∧A.cell? ⟨w.heap.size,4,none⟩=some (.string u.nm)∧A.cell? ⟨w.heap.size,5,none⟩=some (.string u.tg)∧A.cell? ⟨w.heap.size,6,none⟩=some (.slice a u.es.length c)):=⟨ak f.out z0,ak f.out z1,ak f.out z2,ak f.out z3,ak f.out z4,ak f.out z5,ak f.out z6⟩
  clear z0 z1 z2 z3 z4 z5 z6 hb;go_wp2_with fail
  refine oR (fun W=>(W.cell? ⟨w.heap.size,0,none⟩=some (.int .i64 u.k)∧W.cell? ⟨w.heap.size,1,none⟩=some (.int .i64 u.n)∧W.cell? ⟨w.heap.size,2,none⟩=some (.int .i64 u.m)∧W.cell? ⟨w.heap.size,3,none⟩=some (.bool u.v)∧W.cell? ⟨w.heap.size,4,none⟩=some (.string u.nm)∧W.cell? ⟨w.heap.size,5,none⟩=some (.string u.tg)∧W.cell? ⟨w.heap.size,6,none⟩=some (.slice a u.es.length c))) [(0,true),(1,true),(3,true),(4,true),(2,false),(5,false),(6,true),(7,true)] (by(repeat' apply And.intro)<;>assumption) (fun g=> ?_);repeat((first|refine oS ?_|refine oF g ?_);try simp only[Act.put,oa,ob,oc])
  refine oL fun K hK=> ?_;go_simp;go_at_call 11
  refine(S.out _ i.out.drew).mono ?_;rintro e4 w4 ⟨rfl,j⟩;have y:=Lib.hid (i.out.drew.trans (j.mono i.out.size));obtain⟨s0,s1,s2,s3,s4,s5,s6⟩:=g;(try simp only[]);refine hK _ _ (by(repeat' apply And.intro)<;>exact ak j (by assumption)) fun g=> ?_;clear hK K;try simp only[Act.put,oa,ob,oc]
  clear s0 s1 s2 s3 s4 s5 s6 S;have Qk:w.heap.size<w4.heap.size:=by have:=j.size;simp at this;omega
  clear j;repeat((first|refine oS ?_|refine oF g ?_);try simp only[Act.put,oa,ob,oc])
  refine oL fun K hK=> ?_;go_simp;go_at_call 12
  refine(T.out _ y.out).mono ?_;rintro e5 w5 ⟨b5,rfl,Qc,l⟩;have Qd:=Lib.hid (y.out.trans (l.mono y.out.size));obtain⟨s0,s1,s2,s3,s4,s5,s6⟩:=g;(try simp only[]);refine hK _ _ (by(repeat' apply And.intro)<;>exact ak l (by assumption)) fun g=> ?_;clear hK K;try simp only[Act.put,oa,ob,oc]
  clear s0 s1 s2 s3 s4 s5 s6 T;have Ql:w.heap.size<w5.heap.size:=by have:=l.size;omega
  obtain rfl:b5=x:=Qc.out;clear l Qc;repeat((first|refine oS ?_|refine oF g ?_);try simp only[Act.put,oa,ob,oc])
  refine bM ?_;clear g;cases b5
  all_goals
   go_wp2_with fail
   go_ret;exact⟨rfl,Qd.out⟩
end Go.Proofs.YtkfaiocajcjomaaGreatDoor
