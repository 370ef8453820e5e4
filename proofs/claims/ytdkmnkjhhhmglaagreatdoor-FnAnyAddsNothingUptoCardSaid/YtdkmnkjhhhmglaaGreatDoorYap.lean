import Derived.OwnWalk
import Derived.Sort.Grow
import Derived.Test.YtdkmnkjhhhmglaaGreatDoorYal
import Derived.Test.YtdkmnkjhhhmglaaGreatDoorYan
set_option maxRecDepth 100000
set_option maxHeartbeats 8000000
set_option linter.all false
namespace Go.Proofs.YtdkmnkjhhhmglaaGreatDoor
open Go.RowKit TS
theorem zL(p:Pm)(D:Dl)(dc:Nat)(u:U)(q:Pc)(a:Option Addr)(c:Nat)(w:World)(h:u.k=7)(I:∀e∈u.es,c_ p D dc e)(hu:ak p D u a c)(hw:KW p w):
 Calls Tryz.prog 31 #[.slice D.a D.len dc,.agg #[.int .i64 u.k,.int .i64 u.n,.int .i64 u.m,.bool u.v,.string u.nm,.string u.tg,.slice a u.es.length c],.agg #[.int .i64 q.d,.bool q.v,.bool q.t]] w (RB (ah D.len u q .type) w):=by
 have t1:(u.k==1)=false:=aA (by omega);have t14:(u.k==14)=false:=aA (by omega);have t15:(u.k==15)=false:=aA (by omega);have t16:(u.k==16)=false:=aA (by omega);have t11:(u.k==11)=false:=aA (by omega);have t2:(u.k==2)=false:=aA (by omega);have t3:(u.k==3)=false:=aA (by omega);have t5:(u.k==5)=false:=aA (by omega);have t10:(u.k==10)=false:=aA (by omega);have t4:(u.k==4)=false:=aA (by omega);have t6:(u.k==6)=false:=aA (by omega);have t9:(u.k==9)=false:=aA (by omega);have t8:(u.k==8)=false:=aA (by omega);have t7:(u.k==7)=true:=dX h;have J:=hu.cap;have hints:=hu.ints;have ag:Up p w ((w.alloc (.cells #[.int .i64 u.k,.int .i64 u.n,.int .i64 u.m,.bool u.v,.string u.nm,.string u.tg,.slice a u.es.length c] 25)).alloc (.cells #[.int .i64 q.d,.bool false,.bool q.t] 54)):=((Up.refl hw).alloc _).alloc _;have hT:=Lib.hid (qx (len:=D.len) (q:=q) (u:=u) (by omega));clear h;obtain⟨x,f⟩:∃x,x=b4 u.m (u.es.length+1):=⟨_,rfl⟩
 have g:=fun W=>gm (kj u.m (u.es.length+1) W) f.symm;have i:∀W,KW p W→Calls Tryz.prog 63 #[.slice D.a D.len dc,.slice a u.es.length c,.agg #[.int .i64 q.d,.bool false,.bool q.t]] W (RB (u.es.all fun e=>ah D.len e q.behind .type) W):=fun W K=>jw p D dc u.es q.behind a c W I hu.list (by omega) K;clear I;cases x
 ·have hF:Hid (false=ah D.len u q .type):=by rw[hT.out,←f];simp[Hid]
  clear hT i f;go_enter Tryz.func31,Tryz.ntmps31;go_wp2_with fail
  refine(g _).mono ?_;rintro s y ⟨rfl,rfl⟩;clear g;go_wp2_with fail
  go_ret;exact⟨_,rfl,hF,ag.up⟩
 have F:=f;simp[b4]at F;cases z:u.v
 ·simp only[z]at ag
  have hF:Hid ((u.es.all fun e=>ah D.len e q.behind .type)=ah D.len u q .type):=by rw[hT.out];simp[Hid,z,←f]
  rw[←hF.out];clear hT hF f;go_enter Tryz.func31,Tryz.ntmps31;go_wp2_with fail
  refine(g _).mono ?_;rintro s y ⟨rfl,rfl⟩;clear g;go_wp2_with fail
  refine(i _ ag.kw).mono ?_;rintro s y ⟨b,rfl,G,aa⟩;have j:=ag.up.trans (aa.mono ag.up.size);clear i;go_wp2_with fail
  go_ret;exact⟨_,rfl,G,j⟩
 simp only[z]at ag;by_cases hm:0<u.m
 ·have m1:decide ((0:Int)<u.m)=true:=by simp[hm]
  have C:(u.m.toNat- 1)<u.es.length:=by omega
  obtain⟨b,o,rfl⟩:=hu.list.bN (by omega);obtain⟨a2,c2,l,H⟩:=hu.list.get (u.m.toNat- 1) C;obtain⟨E,r⟩:∃E,E=u.es[(u.m.toNat- 1)]'C:=⟨_,rfl⟩
  rw[←r]at l;have B:u.es.getD (u.m.toNat- 1) cg=E:=by rw[r,List.getD,List.getElem?_eq_getElem C];rfl
  rw[B]at hT;have g0:=(l.world hw).1;have L:=World.block_lt_of_cell? _ _ g0;simp only at L;have i1:(0:Int)≤u.m- 1:=by omega
  have i2:u.m- 1<u.es.length:=by omega
  clear B r H l C;by_cases A:E.k=4
  ·have M:=dX A
   have hF:Hid ((u.es.all fun e=>ah D.len e q.behind .type)=ah D.len u q .type):=by rw[hT.out];simp[Hid,z,hm,←f,A]
   rw[←hF.out];clear hT hF f A;go_enter Tryz.func31,Tryz.ntmps31;go_wp2_with fail
   refine(g _).mono ?_;rintro s y ⟨rfl,rfl⟩;clear g;go_wp2_with fail
   refine(i _ ag.kw).mono ?_;rintro s y ⟨b,rfl,G,aa⟩;have j:=ag.up.trans (aa.mono ag.up.size);clear i;go_wp2_with fail
   go_ret;exact⟨_,rfl,G,j⟩
  ·have M:=aA A
   have hF:Hid (false=ah D.len u q .type):=by rw[hT.out];simp[Hid,z,A]
   clear hT f A i;go_enter Tryz.func31,Tryz.ntmps31;go_wp2_with fail
   refine(g _).mono ?_;rintro s y ⟨rfl,rfl⟩;clear g;go_wp2_with fail
   go_ret;exact⟨_,rfl,hF,ag.up⟩
 ·have m1:decide ((0:Int)<u.m)=false:=by simp;omega
  have hF:Hid (false=ah D.len u q .type):=by rw[hT.out];simp[Hid,z,hm]
  clear hT f i;go_enter Tryz.func31,Tryz.ntmps31;go_wp2_with fail
  refine(g _).mono ?_;rintro s y ⟨rfl,rfl⟩;clear g;go_wp2_with fail
  go_ret;exact⟨_,rfl,hF,ag.up⟩
theorem qz(l:List U):fm l=true↔(∀e∈l,aM e.nm=true)∧(l.map fun e=>e.nm.toList).Nodup:=by
 unfold fm;rw[Bool.and_eq_true,decide_eq_true_iff,decide_eq_true_iff]
theorem od{l:List U}{k:Nat}(hk:k<l.length):l.take (k+1)=l.take k++ [l[k]]:=by
 rw[List.take_succ_eq_append_getElem hk]
theorem tP{l:List U}(k:Nat)(h:fm l=true):fm (l.take k)=true:=by
 rw[qz]at*;refine⟨fun e he=>h.1 e (List.mem_of_mem_take he),?_⟩;rw[List.map_take];exact h.2.sublist (List.take_sublist _ _)
theorem zM{l:List U}{k:Nat}(hk:k<l.length):fm (l.take (k+1))=true↔fm (l.take k)=true∧aM l[k].nm=true∧(l.take k).any (fun x=>decide (x.nm.toList=l[k].nm.toList))=false:=by
 rw[qz,qz,od hk,List.map_append,List.nodup_append];simp only[List.mem_append,List.mem_singleton,List.map_cons,List.map_nil,List.any_eq_false,decide_eq_true_eq,List.mem_map];constructor
 ·rintro⟨h1,h2,_,h3⟩
  refine⟨⟨fun e he=>h1 e (.inl he),h2⟩,h1 _ (.inr rfl),fun x a he=>h3 _ ⟨x,a,rfl⟩ _ rfl he⟩
 ·rintro⟨⟨h1,h2⟩,h3,b⟩
  refine⟨?_,h2,List.nodup_cons.2 ⟨by simp,List.nodup_nil⟩,?_⟩
  ·rintro e (he|rfl)
   ·exact h1 e he
   ·exact h3
  ·rintro _ ⟨x,a,rfl⟩ _ rfl
   exact b x a
theorem zN(p:Pm)(D:Dl)(dc:Nat)(u:U)(q:Pc)(a:Option Addr)(c:Nat)(w:World)(h:u.k=5)(P:∀e∈u.es,c_ p D dc e)(hu:ak p D u a c)(hw:KW p w):
 Calls Tryz.prog 31 #[.slice D.a D.len dc,.agg #[.int .i64 u.k,.int .i64 u.n,.int .i64 u.m,.bool u.v,.string u.nm,.string u.tg,.slice a u.es.length c],.agg #[.int .i64 q.d,.bool q.v,.bool q.t]] w (RB (ah D.len u q .type) w):=by
 have t1:(u.k==1)=false:=aA (by omega);have t14:(u.k==14)=false:=aA (by omega);have t15:(u.k==15)=false:=aA (by omega);have t16:(u.k==16)=false:=aA (by omega);have t11:(u.k==11)=false:=aA (by omega);have t2:(u.k==2)=false:=aA (by omega);have t3:(u.k==3)=false:=aA (by omega);have t5:(u.k==5)=true:=dX h;have Q:=hu.cap;have ag:Up p w ((w.alloc (.cells #[.int .i64 u.k,.int .i64 u.n,.int .i64 u.m,.bool u.v,.string u.nm,.string u.tg,.slice a u.es.length c] 25)).alloc (.cells #[.int .i64 q.d,.bool q.v,.bool q.t] 54)):=((Up.refl hw).alloc _).alloc _;obtain⟨r,hr⟩:∃r,r=ah D.len u q .type:=⟨_,rfl⟩
 have hT:=Lib.hid (hr.trans (qu (len:=D.len) (q:=q) h));rw[←hr];clear h hr;have R:=Lib.hid fun W (G:KW p W)=>jw p D dc u.es q a c W P hu.list (by omega) G;clear P;have X:∀(fn:Fn)(first cap:Array Value)(w:World),(Instr.makeFunc fn first cap).run Tryz.prog w= .ok (.func fn first cap) w:=fun _ _ _ _=>rfl;have Y:=Lib.hid (show ∀args w,(callFunc 64 args).run Tryz.prog w= .ok (.enter 64 args) w from ep Tryz.func64 (by kernel_rfl) rfl);go_enter Tryz.func31,Tryz.ntmps31;go_wp2_with fail
 go_loopw [80] (fun i wr=> ∃k:Nat,k≤u.es.length∧i= .int .i64 k∧fm (u.es.take k)=true∧Up p w wr∧
  (wr.cell? ⟨w.heap.size,0,none⟩=some (.int .i64 u.k)∧wr.cell? ⟨w.heap.size,1,none⟩=some (.int .i64 u.n)∧wr.cell? ⟨w.heap.size,2,none⟩=some (.int .i64 u.m)∧wr.cell? ⟨w.heap.size,3,none⟩=some (.bool u.v)∧wr.cell? ⟨w.heap.size,4,none⟩=some (.string u.nm)∧wr.cell? ⟨w.heap.size,5,none⟩=some (.string u.tg)∧wr.cell? ⟨w.heap.size,6,none⟩=some (.slice a u.es.length c))∧(wr.cell? ⟨w.heap.size+1,0,none⟩=some (.int .i64 q.d)∧wr.cell? ⟨w.heap.size+1,1,none⟩=some (.bool q.v)∧wr.cell? ⟨w.heap.size+1,2,none⟩=some (.bool q.t))) (fun i _=>u.es.length- (intOf i).toNat)
 case atStart=>
  refine⟨0,Nat.zero_le _,rfl,rfl,ag,?_⟩;repeat' apply And.intro
  all_goals simp[go_sem]
 case round=>
  obtain⟨k,hk,rfl,S,y,⟨Z,l1,l2,l3,l4,l5,l6⟩,⟨q0,q1,q2⟩⟩:=hrel;have I:=World.block_lt_of_cell? _ _ q0;simp only at I;have J:=World.block_lt_of_cell? _ _ Z;simp only at J;have A:=Lib.hid S;clear S;by_cases B:k<u.es.length
  ·have C:(k:Int)<u.es.length:=by omega
   obtain⟨b,o,rfl⟩:=hu.list.bN (by omega);obtain⟨a',c',h7,g⟩:=hu.list.get k B;obtain⟨e,he⟩:∃e,e=u.es[k]:=⟨_,rfl⟩
   have F:=Lib.hid (zM B);rw[←he]at h7 g F;obtain⟨g0,g1,g2,g3,g4,g5,g6⟩:=h7.world y.kw;have T:=y.kw.lt h7.1;clear he;have f:=y.alloc (.cells #[.int .i64 e.k,.int .i64 e.n,.int .i64 e.m,.bool e.v,.string e.nm,.string e.tg,.slice a' e.es.length c'] 25);have K:=Lib.hid fun W (G:KW p W) lb H=>iU k p D (u.es.take k) (by simp;omega) (some ⟨b,o,none⟩) c 64 lb (fun x=>decide (x.nm.toList=e.nm.toList)) W G (hu.list.take k) (by simp;omega) Y.out H;cases z:aM e.nm
   ·have E:=fun W=>gm (mh e.nm W (by have:=g.names;omega)) z
    have hF:Hid (false=r):=by
     have h1:fm u.es≠true:=fun h=>by
      have:=(F.out.1 (tP (k+1) h)).2.1;rw[z]at this;cases this
     simp only[Bool.not_eq_true]at h1;rw[hT.out,h1];simp[Hid]
    clear z K;go_wp2_with fail
    refine(E _).mono ?_;rintro L M ⟨rfl,rfl⟩;clear E;go_wp2_with fail
    go_ret;exact⟨_,rfl,hF,f.up⟩
   ·have E:=fun W=>gm (mh e.nm W (by have:=g.names;omega)) z
    have N:=Lib.hid z;clear z;go_wp2_with fail
    refine(E _).mono ?_;rintro L M ⟨rfl,rfl⟩;clear E;go_wp2_with fail
    refine(K.out _ f.kw _ ?_).mono ?_
    ·intro i hi W a' c' O PM
     exact zw _ e.nm a' c' W wr.heap.size (cell_kept O (by simp[go_sem]))
    rintro L M ⟨bb,rfl,j,aa⟩;clear K;cases bb
    ·have hH:Hid (fm (u.es.take (k+1))=true):=F.out.2 ⟨A.out,N.out,j.out.symm⟩
     go_wp2_with fail
     go_roundw
     case rel=>
      refine⟨k+1,by omega,by go_num,hH.out,f.step aa,?_⟩;repeat' apply And.intro
      all_goals exact cell_kept aa (by first|(simp[go_sem];done)|(go_keep;done))
     case measure=>simp[intOf];omega
    ·have hF:Hid (false=r):=by
      have h1:fm u.es≠true:=fun h=>by
       have:=(F.out.1 (tP (k+1) h)).2.2;rw[←j.out]at this;cases this
      simp only[Bool.not_eq_true]at h1;rw[hT.out,h1];simp[Hid]
     have l:=(f.step aa).up;clear j aa;go_wp2_with fail
     go_ret;exact⟨_,rfl,hF,l⟩
  ·have s:k=u.es.length:=by omega
   have C:¬(k:Int)<u.es.length:=by omega
   have hR:Hid ((u.es.all fun e=>ah D.len e q .type)=r):=by
    have:=A.out;rw[s,List.take_length]at this;rw[hT.out,this];simp[Hid]
   have V:=Lib.hid s;clear s;go_wp2_with fail
   refine(R.out _ y.kw).mono ?_;rintro L M ⟨b,rfl,T,aa⟩;have l:=y.up.trans (aa.mono y.up.size);clear R;go_wp2_with fail
   go_ret;exact⟨_,rfl,T.out.trans hR.out,l⟩
theorem qA(p:Pm)(D:Dl)(dc:Nat):∀u,c_ p D dc u:=fun u=>by
 induction u using U.bg with
 |_ u ih=>
  intro q a c w hu hw;have b:∀e∈u.es,c_ p D dc e:=fun e he=>ih e (U.az he);by_cases h:u.k=1∨(u.k=14∨u.k=15∨u.k=16)∨u.k=11∨(u.k=2∨u.k=3)∨u.k=5∨u.k=10∨(u.k=4∨u.k=6∨u.k=9)∨u.k=8∨u.k=7
  ·rcases h with h|(h|h|h)|h|(h|h)|h|h|(h|h|h)|h|h
   ·exact zx p D dc u q a c w h hw
   ·exact zy p D dc u q a c w h hw
   ·exact zA p D dc u q a c w h hw
   ·exact zB p D dc u q a c w h hw
   ·exact zE p D dc u q a c w h hw
   ·exact zF p D dc u q a c w h b hu hw
   ·exact zG p D dc u q a c w h b hu hw
   ·exact zN p D dc u q a c w h b hu hw
   ·exact zC p D dc u q a c w h ih hu hw
   ·exact zH p D dc u q a c w h b hu hw
   ·exact zI p D dc u q a c w h b hu hw
   ·exact zJ p D dc u q a c w h b hu hw
   ·exact zK p D dc u q a c w h b hu hw
   ·exact zL p D dc u q a c w h b hu hw
  ·exact zD p D dc u q a c w h hw
theorem zO(p:Pm)(D:Dl)(es:List cX)(a:Option Addr)(c g:Nat)(lb:Array Value)(P:cX→Bool)(w:World)(hw:KW p w)(s:dR p D es a)(I:(es.length:Int)≤1048576)
 (J:∀args w,(callFunc g args).run Tryz.prog w= .ok (.enter g args) w)
 (H:∀i(h:i<es.length) W a' c',Below w.heap.size w W→ak p D es[i].sig a' c'→Calls Tryz.prog g (#[.agg #[.string es[i].nm,.bool es[i].ptr,.int .i64 es[i].sig.k,.int .i64 es[i].sig.n,.int .i64 es[i].sig.m,.bool es[i].sig.v,.string es[i].sig.nm,.string es[i].sig.tg,.slice a' es[i].sig.es.length c']]++lb) W (RB (P es[i]) W)):
 Calls Tryz.prog 113 #[.slice a es.length c,.func (.func g) #[] lb] w fun e r=>(∃k:Nat,e= .returned (.int .i64 k)∧∃h:k<es.length,P es[k]=true)∧Below w.heap.size w r∨(e= .returned (.int .i64 (-1))∧∀x∈es,P x=false)∧Below w.heap.size w r:=by
 have E:=Lib.hid H;clear H;go_enter Tryz.func113,Tryz.ntmps113;go_wp2_with fail
 go_loopw [8] (fun t wr=> ∃k:Nat,k≤es.length∧t= .int .i64 k∧(∀x∈es.take k,P x=false)∧Below w.heap.size w wr) (fun t _=>es.length- (intOf t).toNat)
 case atStart=>exact⟨0,Nat.zero_le _,rfl,by simp,Below.refl _ _⟩
 case round=>
  obtain⟨k,hk,rfl,j,d⟩:=hrel;by_cases f:k<es.length
  ·obtain⟨b,o,rfl⟩:=s.bN (by omega)
   obtain⟨u,z,F,a',c',h7,hu⟩:=s.get k f;have G:=E.out k f wr a' c' d hu;have l:=hw.grown d;generalize A:es[k]=x at*;obtain⟨g0,g1,g2,g3,g4,g5,g6⟩:(wr.cell? ⟨b,o+k*9+2,none⟩=some (.int .i64 x.sig.k)∧wr.cell? ⟨b,o+k*9+3,none⟩=some (.int .i64 x.sig.n)∧wr.cell? ⟨b,o+k*9+4,none⟩=some (.int .i64 x.sig.m)∧wr.cell? ⟨b,o+k*9+5,none⟩=some (.bool x.sig.v)∧wr.cell? ⟨b,o+k*9+6,none⟩=some (.string x.sig.nm)∧wr.cell? ⟨b,o+k*9+7,none⟩=some (.string x.sig.tg)∧wr.cell? ⟨b,o+k*9+8,none⟩=some (.slice a' x.sig.es.length c')):=h7.world l;have gn:=l _ _ _ u;have K:=l _ _ _ z;clear h7 u z;go_wp2_with fail
   refine G.mono ?_;rintro e r ⟨bb,rfl,B,C⟩;cases bb<;>go_wp2_with fail
   ·go_roundw
    case rel=>
     refine⟨k+1,by omega,by go_num,?_,d.trans (C.mono d.size)⟩;intro y q;rw[List.take_succ_eq_append_getElem f,List.mem_append,List.mem_singleton,A]at q;rcases q with q|rfl
     ·exact j y q
     ·exact B.out.symm
    case measure=>simp[intOf];omega
   ·go_ret
    exact .inl ⟨⟨k,rfl,f,by rw[A];exact B.out.symm⟩,d.trans (C.mono d.size)⟩
  ·go_wp2_with fail
   go_ret;rw[List.take_of_length_le (by omega)]at j;exact .inr ⟨⟨rfl,j⟩,d⟩
theorem tQ(n:Nat)(p:Pm)(D:Dl)(es:List cX)(j:n=es.length)(a:Option Addr)(c g:Nat)(lb:Array Value)(P:cX→Bool)(w:World)(hw:KW p w)(l:dR p D es a)(o:(es.length:Int)≤1048576)
 (q:∀args w,(callFunc g args).run Tryz.prog w= .ok (.enter g args) w)
 (H:∀i(h:i<es.length) W a' c',Below w.heap.size w W→ak p D es[i].sig a' c'→Calls Tryz.prog g (#[.agg #[.string es[i].nm,.bool es[i].ptr,.int .i64 es[i].sig.k,.int .i64 es[i].sig.n,.int .i64 es[i].sig.m,.bool es[i].sig.v,.string es[i].sig.nm,.string es[i].sig.tg,.slice a' es[i].sig.es.length c']]++lb) W (RB (P es[i]) W)):
 Calls Tryz.prog 57 #[.slice a n c,.func (.func g) #[] lb] w (RB (es.any P) w):=by
 subst j;have r:=Lib.hid (zO p D es a c g lb P w hw l o q H);clear H;go_enter Tryz.func57,Tryz.ntmps57;go_wp2_with fail
 refine r.out.mono ?_;rintro e t (⟨⟨k,rfl,hk,b⟩,d⟩|⟨⟨rfl,b⟩,d⟩)
 ·have f:Hid (true=es.any P):=(List.any_eq_true.2 ⟨_,List.getElem_mem hk,b⟩).symm
  clear b;go_wp2_with fail
  go_ret;exact⟨_,rfl,f,d⟩
 ·have f:Hid (false=es.any P):=(List.any_eq_false.2 fun x s=>by simp[b x s]).symm
  clear b;go_wp2_with fail
  go_ret;exact⟨_,rfl,f,d⟩
def gQ(u:U):Bool:=u.k !=6&&(u.k !=1||u.n !=17)
theorem zP(u:U)(a:Option Addr)(c:Nat)(w:World):
 Calls Tryz.prog 58 #[.agg #[.int .i64 u.k,.int .i64 u.n,.int .i64 u.m,.bool u.v,.string u.nm,.string u.tg,.slice a u.es.length c]] w (RB (gQ u) w):=by
 have d:=(Below.refl w.heap.size w).alloc (Nat.le_refl _) (.cells #[.int .i64 u.k,.int .i64 u.n,.int .i64 u.m,.bool u.v,.string u.nm,.string u.tg,.slice a u.es.length c] 25);by_cases b:u.k=6
 ·have e:(u.k !=6)=false:=by simp[b]
  have hF:Hid (false=gQ u):=by simp[Hid,gQ,b]
  clear b;go_enter Tryz.func58,Tryz.ntmps58;go_wp2_with fail
  go_ret;exact⟨_,rfl,hF,d⟩
 ·have e:(u.k !=6)=true:=by simp[b]
  by_cases h1:u.k=1
  ·have f:(u.k !=1)=false:=by simp[h1]
   have hF:Hid ((u.n !=17)=gQ u):=by simp[Hid,gQ,b,h1]
   clear b h1;go_enter Tryz.func58,Tryz.ntmps58;go_wp2_with fail
   go_ret;exact⟨_,rfl,hF,d⟩
  ·have f:(u.k !=1)=true:=by simp[h1]
   have hF:Hid (true=gQ u):=by simp[Hid,gQ,b,h1]
   clear b h1;go_enter Tryz.func58,Tryz.ntmps58;go_wp2_with fail
   go_ret;exact⟨_,rfl,hF,d⟩
theorem zQ(m:cX)(s:ByteArray)(a:Option Addr)(c:Nat)(w:World)(B:Nat)(b:w.cell? ⟨B,0,none⟩=some (.string s)):
 Calls Tryz.prog 54 #[.agg #[.string m.nm,.bool m.ptr,.int .i64 m.sig.k,.int .i64 m.sig.n,.int .i64 m.sig.m,.bool m.sig.v,.string m.sig.nm,.string m.sig.tg,.slice a m.sig.es.length c],.pointer (some ⟨B,0,none⟩)] w (RB (decide (m.nm.toList=s.toList)) w):=by
 have b1:=World.block_lt_of_cell? _ _ b;simp only at b1;have d:Hid ((m.nm.toList==s.toList)=decide (m.nm.toList=s.toList)):=by simp only[Hid];rw[Bool.eq_iff_iff];simp
 go_enter Tryz.func54,Tryz.ntmps54;go_wp2_with fail
 go_ret;exact⟨_,rfl,d,(Below.refl w.heap.size w).alloc (Nat.le_refl _) _⟩
theorem zR(u:U)(k:Int)(s:ByteArray)(a:Option Addr)(c:Nat)(w:World)(B d:Nat)(h1:w.cell? ⟨B,0,none⟩=some (.int .i64 k))(e:w.cell? ⟨d,0,none⟩=some (.string s)):
 Calls Tryz.prog 55 #[.agg #[.int .i64 u.k,.int .i64 u.n,.int .i64 u.m,.bool u.v,.string u.nm,.string u.tg,.slice a u.es.length c],.pointer (some ⟨B,0,none⟩),.pointer (some ⟨d,0,none⟩)] w (RB (k==5&&decide (u.nm.toList=s.toList)) w):=by
 have b1:=World.block_lt_of_cell? _ _ e;simp only at b1;have f:=World.block_lt_of_cell? _ _ h1;simp only at f;cases g:k==5
 ·have b:Hid (false=(false&&decide (u.nm.toList=s.toList))):=by simp[Hid]
  go_enter Tryz.func55,Tryz.ntmps55;go_wp2_with fail
  go_ret;exact⟨_,rfl,b,(Below.refl w.heap.size w).alloc (Nat.le_refl _) _⟩
 ·have b:Hid ((u.nm.toList==s.toList)=(true&&decide (u.nm.toList=s.toList))):=by simp only[Hid];rw[Bool.eq_iff_iff];simp
  go_enter Tryz.func55,Tryz.ntmps55;go_wp2_with fail
  go_ret;exact⟨_,rfl,b,(Below.refl w.heap.size w).alloc (Nat.le_refl _) _⟩
def gC(len:Nat)(n:Int)(un:U)(m:cX):Bool:=
 aM m.nm&&m.sig.k==7&&ah len m.sig ⟨n,false,false⟩ .type&& !(un.es.any fun f=>un.k==5&&decide (f.nm.toList=m.nm.toList))
def fG(len:Nat)(n:Int)(un:U)(l:List cX):Bool:=l.all (gC len n un)&&decide ((l.map fun m=>m.nm.toList).Nodup)
def dS(len:Nat)(n:Int)(d:aF):Bool:=
 !(decide (d.un.k<1)||d.un.k==2||decide (10<d.un.k))&&ah len d.un ⟨n,true,false⟩ .type&&fG len n d.un d.ms&&(decide (d.ms.length=0)||d.un.k !=10&&gQ d.un)
theorem qB{len:Nat}{n:Int}{un:U}(l:List cX):fG len n un l=true↔(∀m∈l,gC len n un m=true)∧(l.map fun m=>m.nm.toList).Nodup:=by
 unfold fG;rw[Bool.and_eq_true,decide_eq_true_iff,List.all_eq_true]
theorem zS{len:Nat}{n:Int}{un:U}{l:List cX}(k:Nat)(h:fG len n un l=true):fG len n un (l.take k)=true:=by
 rw[qB]at*;refine⟨fun e he=>h.1 e (List.mem_of_mem_take he),?_⟩;rw[List.map_take];exact h.2.sublist (List.take_sublist _ _)
theorem tR{len:Nat}{n:Int}{un:U}{l:List cX}{k:Nat}(hk:k<l.length):fG len n un (l.take (k+1))=true↔
 fG len n un (l.take k)=true∧gC len n un l[k]=true∧(l.take k).any (fun x=>decide (x.nm.toList=l[k].nm.toList))=false:=by
 rw[qB,qB,List.take_succ_eq_append_getElem hk,List.map_append,List.nodup_append];simp only[List.mem_append,List.mem_singleton,List.map_cons,List.map_nil,List.any_eq_false,decide_eq_true_eq,List.mem_map];constructor
 ·rintro⟨h1,h2,_,h3⟩
  refine⟨⟨fun e he=>h1 e (.inl he),h2⟩,h1 _ (.inr rfl),fun x a he=>h3 _ ⟨x,a,rfl⟩ _ rfl he⟩
 ·rintro⟨⟨h1,h2⟩,h3,b⟩
  refine⟨?_,h2,List.nodup_cons.2 ⟨by simp,List.nodup_nil⟩,?_⟩
  ·rintro e (he|rfl)
   ·exact h1 e he
   ·exact h3
  ·rintro _ ⟨x,a,rfl⟩ _ rfl
   exact b x a
theorem zT{len:Nat}{n:Int}{un:U}{l:List cX}{k:Nat}(hk:k<l.length)(h:gC len n un l[k]=false∨(l.take k).any (fun x=>decide (x.nm.toList=l[k].nm.toList))=true):fG len n un l=false:=by
 rw[Bool.eq_false_iff];intro a;have:=(tR hk).1 (zS (k+1) a);rcases h with h|h
 ·rw[h]at this;simp at this
 ·rw[h]at this;simp at this
theorem zU(p:Pm)(D:Dl)(dc:Nat)(d:aF)(n:Int)(a:Option Addr)(c:Nat)(Y:Option Addr)(I:Nat)(w:World)(hu:ak p D d.un a c)(hm:dR p D d.ms Y)(PZ:d.ms.length≤I∧I≤1048576)(hw:KW p w):
 Calls Tryz.prog 25 #[.slice D.a D.len dc,.agg #[.int .i64 d.un.k,.int .i64 d.un.n,.int .i64 d.un.m,.bool d.un.v,.string d.un.nm,.string d.un.tg,.slice a d.un.es.length c,.slice Y d.ms.length I],.int .i64 n] w (RB (dS D.len n d) w):=by
 have PX:=hu.cap;have ag:Up p w ((((w.alloc (.cells #[.int .i64 d.un.k,.int .i64 d.un.n,.int .i64 d.un.m,.bool d.un.v,.string d.un.nm,.string d.un.tg,.slice a d.un.es.length c,.slice Y d.ms.length I] 43)).alloc (.cells #[.int .i64 d.un.k] 3)).alloc (.cells #[.int .i64 n,.bool false,.bool false] 54)).alloc (.cells #[.int .i64 n,.bool true,.bool false] 54)):=((((Up.refl hw).alloc _).alloc _).alloc _).alloc _;obtain⟨r,hr⟩:∃r,r=dS D.len n d:=⟨_,rfl⟩
 rw[←hr];have C:=Lib.hid hr;clear hr;by_cases Z:d.un.k<1
 ·have t1:decide (d.un.k<1)=true:=by simp[Z]
  have hF:Hid (false=r):=by rw[C.out];simp[Hid,dS,t1]
  clear Z;go_enter Tryz.func25,Tryz.ntmps25;go_wp2_with fail
  go_ret;exact⟨_,rfl,hF,ag.up⟩
 have t1:decide (d.un.k<1)=false:=by simpa using Z
 cases t2:d.un.k==2;rotate_left
 ·have hF:Hid (false=r):=by rw[C.out];simp[Hid,dS,t2]
  go_enter Tryz.func25,Tryz.ntmps25;go_wp2_with fail
  go_ret;exact⟨_,rfl,hF,ag.up⟩
 by_cases k3:10<d.un.k
 ·have t3:decide (10<d.un.k)=true:=by simp[k3]
  have hF:Hid (false=r):=by rw[C.out];simp[Hid,dS,k3]
  clear Z;go_enter Tryz.func25,Tryz.ntmps25;go_wp2_with fail
  go_ret;exact⟨_,rfl,hF,ag.up⟩
 have t3:decide (10<d.un.k)=false:=by simpa using k3
 have G:=fun W t=>qA p D dc d.un ⟨n,true,false⟩ a c W hu t;cases j:ah D.len d.un ⟨n,true,false⟩ .type
 ·have hF:Hid (false=r):=by rw[C.out];simp[Hid,dS,j]
  have l:=fun W t=>aW (G W t) j;clear G j;go_enter Tryz.func25,Tryz.ntmps25;go_wp2_with fail
  refine(l _ ag.kw).mono ?_;rintro J g ⟨rfl,aa⟩;have q:=(ag.step aa).up;clear aa l;go_wp2_with fail
  go_ret;exact⟨_,rfl,hF,q⟩
 have l:=fun W t=>aW (G W t) j;have hR:Hid (r=(fG D.len n d.un d.ms&&(decide (d.ms.length=0)||d.un.k !=10&&gQ d.un))):=by rw[C.out];simp[Hid,dS,t1,t2,t3,j]
 clear G j C Z k3;go_enter Tryz.func25,Tryz.ntmps25;go_wp2_with fail
 refine(l _ ag.kw).mono ?_;rintro J g ⟨rfl,aa⟩;have PM:=ag.step aa;obtain⟨l0,l1,l2,l3,l4,l5,l6,l7⟩:(g.cell? ⟨w.heap.size,0,none⟩=some (.int .i64 d.un.k)∧g.cell? ⟨w.heap.size,1,none⟩=some (.int .i64 d.un.n)∧g.cell? ⟨w.heap.size,2,none⟩=some (.int .i64 d.un.m)∧g.cell? ⟨w.heap.size,3,none⟩=some (.bool d.un.v)∧g.cell? ⟨w.heap.size,4,none⟩=some (.string d.un.nm)∧g.cell? ⟨w.heap.size,5,none⟩=some (.string d.un.tg)∧g.cell? ⟨w.heap.size,6,none⟩=some (.slice a d.un.es.length c)∧g.cell? ⟨w.heap.size,7,none⟩=some (.slice Y d.ms.length I)):=by
  repeat' apply And.intro
  all_goals exact cell_kept aa (by first|(simp[go_sem];done)|(go_keep;done))
 have i0:g.cell? ⟨w.heap.size+1,0,none⟩=some (.int .i64 d.un.k):=cell_kept aa (by first|(simp[go_sem];done)|(go_keep;done));obtain⟨Q,q1,q2⟩:(g.cell? ⟨w.heap.size+1+1,0,none⟩=some (.int .i64 n)∧g.cell? ⟨w.heap.size+1+1,1,none⟩=some (.bool false)∧g.cell? ⟨w.heap.size+1+1,2,none⟩=some (.bool false)):=by
  repeat' apply And.intro
  all_goals exact cell_kept aa (by first|(simp[go_sem];done)|(go_keep;done))
 have hq:=World.block_lt_of_cell? _ _ Q;simp only at hq;clear l aa ag;have hC:=Lib.hid fun(m:cX) a c W (hm:ak p D m.sig a c) t=>qA p D dc m.sig ⟨n,false,false⟩ a c W hm t;have P0:∀(fn:Fn)(first cap:Array Value)(w:World),(Instr.makeFunc fn first cap).run Tryz.prog w= .ok (.func fn first cap) w:=fun _ _ _ _=>rfl;have PR:=Lib.hid (show ∀args w,(callFunc 54 args).run Tryz.prog w= .ok (.enter 54 args) w from ep Tryz.func54 (by kernel_rfl) rfl);have PS:=Lib.hid (show ∀args w,(callFunc 55 args).run Tryz.prog w= .ok (.enter 55 args) w from ep Tryz.func55 (by kernel_rfl) rfl);go_wp2_with fail
 go_loopw [42] (fun i wr=> ∃k:Nat,k≤d.ms.length∧i= .int .i64 k∧fG D.len n d.un (d.ms.take k)=true∧Up p w wr∧
  (wr.cell? ⟨w.heap.size,0,none⟩=some (.int .i64 d.un.k)∧wr.cell? ⟨w.heap.size,1,none⟩=some (.int .i64 d.un.n)∧wr.cell? ⟨w.heap.size,2,none⟩=some (.int .i64 d.un.m)∧wr.cell? ⟨w.heap.size,3,none⟩=some (.bool d.un.v)∧wr.cell? ⟨w.heap.size,4,none⟩=some (.string d.un.nm)∧wr.cell? ⟨w.heap.size,5,none⟩=some (.string d.un.tg)∧wr.cell? ⟨w.heap.size,6,none⟩=some (.slice a d.un.es.length c)∧wr.cell? ⟨w.heap.size,7,none⟩=some (.slice Y d.ms.length I))∧wr.cell? ⟨w.heap.size+1,0,none⟩=some (.int .i64 d.un.k)∧(wr.cell? ⟨w.heap.size+1+1,0,none⟩=some (.int .i64 n)∧wr.cell? ⟨w.heap.size+1+1,1,none⟩=some (.bool false)∧wr.cell? ⟨w.heap.size+1+1,2,none⟩=some (.bool false))) (fun i _=>d.ms.length- (intOf i).toNat)
 case atStart=>exact⟨0,Nat.zero_le _,rfl,by simp[fG],PM,⟨l0,l1,l2,l3,l4,l5,l6,l7⟩,i0,Q,q1,q2⟩
 case round=>
  clear l0 l1 l2 l3 l4 l5 l6 l7 i0 Q q1 q2 hq PM;obtain⟨k,hk,rfl,hh,R,⟨l0,l1,l2,l3,l4,l5,l6,l7⟩,i0,Q,q1,q2⟩:=hrel;have hq:=World.block_lt_of_cell? _ _ Q;simp only at hq;have PN:=Lib.hid hh;clear hh;by_cases S:k<d.ms.length
  ·have PO:(k:Int)<d.ms.length:=by omega
   obtain⟨b,o,rfl⟩:=hm.bN (by omega);obtain⟨hn,hp,PT,a',c',h7,PQ⟩:=hm.get k S;have e:Hid (gC D.len n d.un d.ms[k]=false∨(d.ms.take k).any (fun x=>decide (x.nm.toList=d.ms[k].nm.toList))=true→false=r):=fun h=>by rw[hR.out,zT S h];rfl
   have O:=Lib.hid (tR (len:=D.len) (n:=n) (un:=d.un) S).2;obtain⟨x,hx⟩:∃x,x=d.ms[k]:=⟨_,rfl⟩
   rw[←hx]at hn hp PT h7 PQ e O;clear hx;obtain⟨g0,g1,g2,g3,g4,g5,g6⟩:(wr.cell? ⟨b,o+k*9+2,none⟩=some (.int .i64 x.sig.k)∧wr.cell? ⟨b,o+k*9+3,none⟩=some (.int .i64 x.sig.n)∧wr.cell? ⟨b,o+k*9+4,none⟩=some (.int .i64 x.sig.m)∧wr.cell? ⟨b,o+k*9+5,none⟩=some (.bool x.sig.v)∧wr.cell? ⟨b,o+k*9+6,none⟩=some (.string x.sig.nm)∧wr.cell? ⟨b,o+k*9+7,none⟩=some (.string x.sig.tg)∧wr.cell? ⟨b,o+k*9+8,none⟩=some (.slice a' x.sig.es.length c')):=h7.world R.kw;have gn:=R.kw _ _ _ hn;have gp:=R.kw _ _ _ hp;have gb:=World.block_lt_of_cell? _ _ gn;simp only at gb;clear h7 hn hp;have A:=R.alloc (.cells #[.string x.nm,.bool x.ptr,.int .i64 x.sig.k,.int .i64 x.sig.n,.int .i64 x.sig.m,.bool x.sig.v,.string x.sig.nm,.string x.sig.tg,.slice a' x.sig.es.length c'] 73);have hN:=fun W=>mh x.nm W (by omega);have hX:=Lib.hid fun W (t:KW p W) lb H=>tQ k p D (d.ms.take k) (by simp;omega) (some ⟨b,o,none⟩) I 54 lb (fun y=>decide (y.nm.toList=x.nm.toList)) W t (hm.take k) (by simp;omega) PR.out H;have X:=Lib.hid fun W (t:KW p W) lb H=>mg p D d.un.es a c 55 lb (fun y=>d.un.k==5&&decide (y.nm.toList=x.nm.toList)) W t hu.list (by omega) PS.out H;have G:=fun W t=>hC.out x a' c' W PQ t;cases u:aM x.nm
   ·have hF:Hid (false=r):=e.out (.inl (by simp[gC,u]))
    have s:=fun W=>gm (hN W) u;clear u hN G hX X O e;go_wp2_with fail
    refine(s _).mono ?_;rintro J g ⟨rfl,rfl⟩;clear s;go_wp2_with fail
    go_ret;exact⟨_,rfl,hF,A.up⟩
   have s:=fun W=>gm (hN W) u;clear hN;by_cases h7:x.sig.k=7
   rotate_left
   ·have k7:(x.sig.k !=7)=true:=by simp[h7]
    have hF:Hid (false=r):=e.out (.inl (by simp[gC,h7]));clear u G hX X O e h7;go_wp2_with fail
    refine(s _).mono ?_;rintro J g ⟨rfl,rfl⟩;clear s;go_wp2_with fail
    go_ret;exact⟨_,rfl,hF,A.up⟩
   have k7:(x.sig.k !=7)=false:=by simp[h7]
   cases j:ah D.len x.sig ⟨n,false,false⟩ .type
   ·have hF:Hid (false=r):=e.out (.inl (by simp[gC,j]))
    have l:=fun W t=>aW (G W t) j;clear u G hX X O e h7 j;go_wp2_with fail
    refine(s _).mono ?_;rintro J g ⟨rfl,rfl⟩;clear s;go_wp2_with fail
    refine(l _ A.kw).mono ?_;rintro J g ⟨rfl,aa⟩;have q:=(A.step aa).up;clear aa l;go_wp2_with fail
    go_ret;exact⟨_,rfl,hF,q⟩
   have l:=fun W t=>aW (G W t) j;have hO:Hid (gC D.len n d.un x= !(d.un.es.any fun f=>d.un.k==5&&decide (f.nm.toList=x.nm.toList))):=by simp[Hid,gC,u,h7,j]
   clear u h7 j G;go_wp2_with fail
   refine(s _).mono ?_;rintro J g ⟨rfl,rfl⟩;clear s;go_wp2_with fail
   refine(l _ A.kw).mono ?_;rintro J g ⟨rfl,aa⟩;have K:=A.step aa;obtain⟨L0,L1,L2,L3,L4,L5,L6,L7⟩:(g.cell? ⟨w.heap.size,0,none⟩=some (.int .i64 d.un.k)∧g.cell? ⟨w.heap.size,1,none⟩=some (.int .i64 d.un.n)∧g.cell? ⟨w.heap.size,2,none⟩=some (.int .i64 d.un.m)∧g.cell? ⟨w.heap.size,3,none⟩=some (.bool d.un.v)∧g.cell? ⟨w.heap.size,4,none⟩=some (.string d.un.nm)∧g.cell? ⟨w.heap.size,5,none⟩=some (.string d.un.tg)∧g.cell? ⟨w.heap.size,6,none⟩=some (.slice a d.un.es.length c)∧g.cell? ⟨w.heap.size,7,none⟩=some (.slice (some ⟨b,o,none⟩) d.ms.length I)):=by
    repeat' apply And.intro
    all_goals exact cell_kept aa (by first|(simp[go_sem];done)|(go_keep;done))
   have I0:g.cell? ⟨w.heap.size+1,0,none⟩=some (.int .i64 d.un.k):=cell_kept aa (by first|(simp[go_sem];done)|(go_keep;done));obtain⟨Q0,Q1,Q2⟩:(g.cell? ⟨w.heap.size+1+1,0,none⟩=some (.int .i64 n)∧g.cell? ⟨w.heap.size+1+1,1,none⟩=some (.bool false)∧g.cell? ⟨w.heap.size+1+1,2,none⟩=some (.bool false)):=by
    repeat' apply And.intro
    all_goals exact cell_kept aa (by first|(simp[go_sem];done)|(go_keep;done))
   have M0:g.cell? ⟨wr.heap.size,0,none⟩=some (.string x.nm):=cell_kept aa (by first|(simp[go_sem];done)|(go_keep;done));have PU:=World.block_lt_of_cell? _ _ M0;simp only at PU;clear aa l A gn gp gb g0 g1 g2 g3 g4 g5 g6 l0 l1 l2 l3 l4 l5 l6 l7 i0 Q q1 q2;have P1:max (k:Int) 0=k:=by omega
   have P2:k≤I:=by omega
   go_wp2_with fail
   refine(hX.out _ K.kw _ ?_).mono ?_
   ·intro i hi W a2 c2 L PV
    exact zQ _ x.nm a2 c2 W wr.heap.size (cell_kept L M0)
   rintro J E ⟨bb,rfl,M,z⟩;clear hX;cases bb;rotate_left
   ·have hF:Hid (false=r):=e.out (.inr M.out.symm)
    have q:=(K.step z).up;clear M z X O e;go_wp2_with fail
    go_ret;exact⟨_,rfl,hF,q⟩
   have T:=K.step z;obtain⟨l0,l1,l2,l3,l4,l5,l6,l7⟩:(E.cell? ⟨w.heap.size,0,none⟩=some (.int .i64 d.un.k)∧E.cell? ⟨w.heap.size,1,none⟩=some (.int .i64 d.un.n)∧E.cell? ⟨w.heap.size,2,none⟩=some (.int .i64 d.un.m)∧E.cell? ⟨w.heap.size,3,none⟩=some (.bool d.un.v)∧E.cell? ⟨w.heap.size,4,none⟩=some (.string d.un.nm)∧E.cell? ⟨w.heap.size,5,none⟩=some (.string d.un.tg)∧E.cell? ⟨w.heap.size,6,none⟩=some (.slice a d.un.es.length c)∧E.cell? ⟨w.heap.size,7,none⟩=some (.slice (some ⟨b,o,none⟩) d.ms.length I)):=by
    repeat' apply And.intro
    all_goals exact cell_kept z (by first|(simp[go_sem];done)|(go_keep;done))
   have i0:E.cell? ⟨w.heap.size+1,0,none⟩=some (.int .i64 d.un.k):=cell_kept z (by first|(simp[go_sem];done)|(go_keep;done));obtain⟨Q,q1,q2⟩:(E.cell? ⟨w.heap.size+1+1,0,none⟩=some (.int .i64 n)∧E.cell? ⟨w.heap.size+1+1,1,none⟩=some (.bool false)∧E.cell? ⟨w.heap.size+1+1,2,none⟩=some (.bool false)):=by
    repeat' apply And.intro
    all_goals exact cell_kept z (by first|(simp[go_sem];done)|(go_keep;done))
   have m0:E.cell? ⟨wr.heap.size,0,none⟩=some (.string x.nm):=cell_kept z (by first|(simp[go_sem];done)|(go_keep;done));have PW:=World.block_lt_of_cell? _ _ m0;simp only at PW;clear z K L0 L1 L2 L3 L4 L5 L6 L7 I0 Q0 Q1 Q2 M0;go_wp2_with fail
   refine(X.out _ T.kw _ ?_).mono ?_
   ·intro i hi W a2 c2 L PV
    exact zR _ d.un.k x.nm a2 c2 W (w.heap.size+1) wr.heap.size (cell_kept L i0) (cell_kept L m0)
   rintro J w3 ⟨b2,rfl,B,N⟩;clear X;cases b2;rotate_left
   ·have hF:Hid (false=r):=e.out (.inl (by rw[hO.out,←B.out];rfl))
    have q:=(T.step N).up;clear B N O e;go_wp2_with fail
    go_ret;exact⟨_,rfl,hF,q⟩
   have hH:Hid (fG D.len n d.un (d.ms.take (k+1))=true):=O.out ⟨PN.out,by rw[hO.out,←B.out];rfl,M.out.symm⟩;clear O e B M;go_wp2_with fail
   go_roundw
   case rel=>
    refine⟨k+1,by omega,by go_num,hH.out,T.step N,?_⟩;repeat' apply And.intro
    all_goals exact cell_kept N (by assumption)
   case measure=>simp[intOf];omega
  ·have U:k=d.ms.length:=by omega
   have PO:¬(k:Int)<d.ms.length:=by omega
   have V:Hid ((decide (d.ms.length=0)||d.un.k !=10&&gQ d.un)=r):=by
    have:=PN.out;rw[U,List.take_length]at this;rw[hR.out,this];simp[Hid]
   have PY:=Lib.hid U;clear U;by_cases P:d.ms.length=0
   ·have k0:((d.ms.length:Int)==0)=true:=by simp[P]
    have hF:Hid (true=r):=by rw[←V.out];simp[Hid,P]
    clear P;go_wp2_with fail
    go_ret;exact⟨_,rfl,hF,R.up⟩
   have k0:((d.ms.length:Int)==0)=false:=by simpa using P
   by_cases F:d.un.k=10
   ·have t10:(d.un.k !=10)=false:=by simp[F]
    have hF:Hid (false=r):=by rw[←V.out];simp[Hid,P,F]
    clear P F;go_wp2_with fail
    go_ret;exact⟨_,rfl,hF,R.up⟩
   have t10:(d.un.k !=10)=true:=by simp[F]
   have hF:Hid (gQ d.un=r):=by rw[←V.out];simp[Hid,P,F]
   clear P F;go_wp2_with fail
   refine(zP d.un a c _).mono ?_;rintro J g ⟨b,rfl,hb,aa⟩;have q:=(R.step aa).up;have hI:=Lib.hid (hb.out.trans hF.out);clear hb aa;go_wp2_with fail
   go_ret;exact⟨_,rfl,hI,q⟩
end Go.Proofs.YtdkmnkjhhhmglaaGreatDoor
namespace TS
open Go Go.RowKit
theorem Form.lh{len:Nat}{u:U}{pos f:Nat}(h:Form len u pos f)(hk:u.k=10):0≤u.m∧u.m.toNat≤u.es.length∧u.es.length- u.m.toNat≤4:=by
 cases h with
 |iface _ a b c _ _=>exact⟨a,b,c⟩
 |pre a _=>omega
 |one a _ _=>omega
 |ptr a _ _ _=>omega
 |_=>omega
theorem zV{α:Type}{l:List α}{n:Nat}{e:α}(h:e∈l.drop n):∃i,∃hi:i<l.length,n≤i∧l[i]=e:=by
 obtain⟨i,hi,rfl⟩:=List.getElem_of_mem h;rw[List.length_drop]at hi;exact⟨n+i,by omega,by omega,by rw[List.getElem_drop]⟩
theorem zW{α:Type}{l:List α}{n:Nat}{e:α}(h:e∈l.take n):∃i,∃hi:i<l.length,i<n∧l[i]=e:=by
 obtain⟨i,hi,rfl⟩:=List.getElem_of_mem h;rw[List.length_take]at hi;exact⟨i,by omega,by omega,by rw[List.getElem_take]⟩
theorem aj.zX{p:Pm}{D:Dl}{l:List U}{a:Option Addr}(h:aj p D l a){i c:Nat}(b:¬i<c)(d:l.length≤c):aj p D (l.drop i) a:=by
 rw[List.drop_eq_nil_of_le (by omega)];exact aj.nil
theorem aj.qC{p:Pm}{D:Dl}{l:List U}{a:Option Addr}(h:aj p D l a){i c:Nat}(hi:i≤l.length)(b:l.length≤c):aj p D (l.drop i) (if i<c then Option.map (fun x=>x.add (i*7)) a else a):=by
 split
 ·exact h.cut i hi
 ·exact h.zX ‹_› b
theorem Pl.elem{len:Nat}{u:U}{pos f:Nat}(h:Pl len u pos f)(hk:u.k=10){e:U}(he:e∈u.es.drop u.m.toNat):Pl len e 2 2:=by
 obtain⟨i,hi,a,rfl⟩:=zV he;have:=h.part i hi;rw[show aV u i=2 by unfold aV;rw[if_neg (by omega),if_pos ⟨hk,a⟩]]at this;rwa [show aN u i f=2 by unfold aN;split;rfl;rw[if_pos ⟨hk,a⟩]]at this
theorem Pl.ju{len:Nat}{u:U}{pos f:Nat}(h:Pl len u pos f)(hk:u.k=10){e:U}(he:e∈u.es.take u.m.toNat):e.k=7∧aM e.nm=true∧Pl len e 0 (if f=2 then 2 else 0):=by
 have b:e.k=7∧aM e.nm=true:=by
  have c:=h.form;cases c with
  |iface _ _ _ _ hm _=>exact hm e he
  |pre a _=>omega
  |one a _ _=>omega
  |ptr a _ _ _=>omega
  |_=>omega
 refine⟨b.1,b.2,?_⟩;obtain⟨i,hi,d,rfl⟩:=zW he;have:=h.part i hi;rw[show aV u i=0 by unfold aV;rw[if_neg (by omega),if_neg (by omega)]]at this;rwa [show aN u i f=(if f=2 then 2 else 0) by unfold aN;split;rfl;rw[if_neg (by omega),if_neg (by omega)]]at this
end TS
namespace Go.Proofs.YtdkmnkjhhhmglaaGreatDoor
open Go.RowKit TS
def tS(D:Dl)(dc:Nat)(u:U):Prop:=
 ∀(p:Pm)(pos f:Nat)(a:Option Addr)(c:Nat)(w:World),Pl D.len u pos f→f≤2→f≠0→u.k≠12→u.k≠13→ak p D u a c→KW p w→
  Calls Tryz.prog 67 #[.slice D.a D.len dc,.agg #[.int .i64 u.k,.int .i64 u.n,.int .i64 u.m,.bool u.v,.string u.nm,.string u.tg,.slice a u.es.length c]] w (RB (aZ u) w)
theorem zY(p:Pm)(D:Dl)(dc:Nat)(u:U)(f:Nat)(a:Option Addr)(c:Nat)(w:World)(z:tS D dc u)(x:Pl D.len u 2 f)(C:f≤2)(q:f≠0)(hu:ak p D u a c)(hw:KW p w)(B:Nat)
 (h1:w.cell? ⟨B,0,none⟩=some (.slice D.a D.len dc)):
 Calls Tryz.prog 120 #[.agg #[.int .i64 u.k,.int .i64 u.n,.int .i64 u.m,.bool u.v,.string u.nm,.string u.tg,.slice a u.es.length c],.pointer (some ⟨B,0,none⟩)] w (RB (u.k==12||u.k==13|| !isIface u||aZ u) w):=by
 have b1:=World.block_lt_of_cell? _ _ h1;simp only at b1;have ag:Up p w (w.alloc (.cells #[.int .i64 u.k,.int .i64 u.n,.int .i64 u.m,.bool u.v,.string u.nm,.string u.tg,.slice a u.es.length c] 25)):=(Up.refl hw).alloc _;obtain⟨r,hr⟩:∃r,r=(u.k==12||u.k==13|| !isIface u||aZ u):=⟨_,rfl⟩
 rw[←hr];cases d:u.k==12
 case true=>
  have hF:Hid (true=r):=by rw[hr,d];rfl
  clear hr;go_enter Tryz.func120,Tryz.ntmps120;go_wp2_with fail
  go_ret;exact⟨_,rfl,hF,ag.up⟩
 have e:u.k≠12:=by simpa using d
 cases h:u.k==13
 case true=>
  have hF:Hid (true=r):=by rw[hr,d,h];rfl
  clear hr e;go_enter Tryz.func120,Tryz.ntmps120;go_wp2_with fail
  go_ret;exact⟨_,rfl,hF,ag.up⟩
 have i:u.k≠13:=by simpa using h
 have y:=fun W j=>iA p D dc u 2 f a c W x C q e i hu j;have l:=fun W j=>z p 2 f a c W x C q e i hu j;cases hi:isIface u
 ·have g:=fun W j=>aW (y W j) hi
  have hF:Hid (true=r):=by rw[hr,d,h,hi];rfl
  clear hr hi y l e i z x;go_enter Tryz.func120,Tryz.ntmps120;go_wp2_with fail
  refine(g _ ag.kw).mono ?_;rintro E A ⟨rfl,aa⟩;have o:=(ag.step aa).up;clear aa g;go_wp2_with fail
  go_ret;exact⟨_,rfl,hF,o⟩
 have g:=fun W j=>aW (y W j) hi;have hF:Hid (aZ u=r):=by rw[hr,d,h,hi];rfl
 clear hr hi y e i z x;go_enter Tryz.func120,Tryz.ntmps120;go_wp2_with fail
 refine(g _ ag.kw).mono ?_;rintro E A ⟨rfl,aa⟩;have s:=ag.step aa;have c1:A.cell? ⟨B,0,none⟩=some (.slice D.a D.len dc):=cell_kept aa (by rw[World.cell?_alloc_lt _ _ _ b1];exact h1);obtain⟨G,H,I,J,K,L,M⟩:TS.L7 A w.heap.size u a c:=by
  repeat' apply And.intro
  all_goals exact cell_kept aa (by first|(simp[go_sem];done)|(go_keep;done))
 clear aa g ag;go_wp2_with fail
 refine(l _ s.kw).mono ?_;rintro E N ⟨b,rfl,F,t⟩;have o:=(s.step t).up;clear t l;go_wp2_with fail
 go_ret;exact⟨_,rfl,F.out.trans hF.out,o⟩
theorem mn(D:Dl)(dc:Nat):∀u,tS D dc u:=by
 intro u;induction u using U.bg with
 |_ u ih=>
  intro p pos f a c w I T x y z hu hw;obtain⟨f',PM,V,d,hk,j⟩:=I.under T x y z;have J:=fun W K=>jv p D dc u pos f a c W I T x y z hu K;have ag:Up p w ((w.alloc (.cells #[.slice D.a D.len dc] 22)).alloc (.cells #[.int .i64 u.k,.int .i64 u.n,.int .i64 u.m,.bool u.v,.string u.nm,.string u.tg,.slice a u.es.length c] 25)):=((Up.refl hw).alloc _).alloc _;have l:= @iS u;have o:= @gw u;generalize aZ u=r at*;generalize under u=v at*;cases bU:v.k==10
  ·have hF:Hid ((v.k==16)=r):=(o (by simpa using bU)).symm
   clear l o ih I d hk j;go_enter Tryz.func67,Tryz.ntmps67;go_wp2_with fail
   refine(J _ ag.kw).mono ?_;rintro X Y ⟨q,L,c1,rfl,hg,A,s,aa⟩;have B:=(ag.step aa).up;clear J aa;go_wp2_with fail
   go_ret;exact⟨_,rfl,hF,B.alloc B.size _⟩
  ·have g:v.k=10:=by simpa using bU
   have hF:=Lib.hid (l g);obtain⟨PN,M,h4⟩:=d.form.lh g;have hE:=Lib.hid fun e he=>d.elem g (e:=e) he;have hS:=Lib.hid fun e (he:e∈v.es.drop v.m.toNat)=>ih e (Nat.lt_of_lt_of_le (U.az (List.mem_of_mem_drop he)) j);clear l o ih I d hk j g;have PO:max v.m 0=v.m:=by omega
   have Z:v.m≤v.es.length:=by omega
   have PQ:∀(fn:Fn)(first cap:Array Value)(w:World),(Instr.makeFunc fn first cap).run Tryz.prog w= .ok (.func fn first cap) w:=fun _ _ _ _=>rfl;have eg:=Lib.hid (show ∀args w,(callFunc 120 args).run Tryz.prog w= .ok (.enter 120 args) w from ep Tryz.func120 (by kernel_rfl) rfl);go_enter Tryz.func67,Tryz.ntmps67;go_wp2_with fail
   refine(J _ ag.kw).mono ?_;rintro X Y ⟨q,L,c1,rfl,hg,A,s,aa⟩;have N:=ag.step aa;have h:=s.cap;have c0:Y.cell? ⟨w.heap.size,0,none⟩=some (.slice D.a D.len dc):=cell_kept aa (by simp[go_sem]);have O:=Lib.hid fun W (K:KW q W) n (hn:n=(v.es.drop v.m.toNat).length) a2 c2 (C:aj q D (v.es.drop v.m.toNat) a2) lb H=>iU n q D (v.es.drop v.m.toNat) hn a2 c2 120 lb (fun u=>u.k==12||u.k==13|| !isIface u||aZ u) W K C (by simp;omega) eg.out H;have P:=N.alloc (.cells #[.int .i64 v.k,.int .i64 v.n,.int .i64 v.m,.bool v.v,.string v.nm,.string v.tg,.slice L v.es.length c1] 25);have E:=A.alloc (.cells #[.int .i64 v.k,.int .i64 v.n,.int .i64 v.m,.bool v.v,.string v.nm,.string v.tg,.slice L v.es.length c1] 25);have Q:=h.1;clear J aa h;have t:v.m.toNat<c1∨c1=v.m.toNat:=by omega
   rcases t with t|rfl
   all_goals
    go_wp2_with fail
    have C:=s.list.qC M Q;first|rw[if_pos t]at C|rw[if_neg (Nat.lt_irrefl _)]at C
    refine(O.out _ E _ (by simp;try omega) _ _ C _ ?_).mono ?_
    ·intro i hi W a' c' F R
     have he:=List.getElem_mem hi;exact zY q D dc _ 2 a' c' W (hS.out _ he) (hE.out _ he) (by omega) (by omega) R (E.grown F) _ (cell_kept F (by rw[World.cell?_alloc_lt _ _ _ (World.block_lt_of_cell? _ _ c0)];exact c0))
    rintro X w2 ⟨b,rfl,hb,G⟩;have S:=(P.step G).up;clear G;go_wp2_with fail
    go_ret;exact⟨_,rfl,by rw[hF.out];exact hb.out,S⟩
end Go.Proofs.YtdkmnkjhhhmglaaGreatDoor
namespace Go.Proofs.YtdkmnkjhhhmglaaGreatDoor
open Go.RowKit TS
theorem og(p:Pm)(D:Dl)(dc:Nat)(u:U)(pos f:Nat)(a:Option Addr)(c:Nat)(w:World)(l:Pl D.len u pos f)(q:f≤2)(i:f≠0)(hu:ak p D u a c)(hw:KW p w):
 Calls Tryz.prog 160 #[.slice D.a D.len dc,.agg #[.int .i64 u.k,.int .i64 u.n,.int .i64 u.m,.bool u.v,.string u.nm,.string u.tg,.slice a u.es.length c]] w (RB (aQ u) w):=by
 have ag:Up p w (w.alloc (.cells #[.int .i64 u.k,.int .i64 u.n,.int .i64 u.m,.bool u.v,.string u.nm,.string u.tg,.slice a u.es.length c] 25)):=(Up.refl hw).alloc _;obtain⟨r,hr⟩:∃r,r=aQ u:=⟨_,rfl⟩
 rw[←hr];unfold aQ at hr;cases g:u.k==12
 case true=>
  have n12:(u.k !=12)=false:=by simp[bne,g]
  have hF:Hid (false=r):=by rw[hr,n12];rfl
  clear hr;go_enter Tryz.func160,Tryz.ntmps160;go_wp2_with fail
  go_ret;exact⟨_,rfl,hF,ag.up⟩
 have d:u.k≠12:=by simpa using g
 have n12:(u.k !=12)=true:=by simp[d]
 cases h:u.k==13
 case true=>
  have n13:(u.k !=13)=false:=by simp[bne,h]
  have hF:Hid (false=r):=by rw[hr,n12,n13];rfl
  clear hr d;go_enter Tryz.func160,Tryz.ntmps160;go_wp2_with fail
  go_ret;exact⟨_,rfl,hF,ag.up⟩
 have e:u.k≠13:=by simpa using h
 have n13:(u.k !=13)=true:=by simp[e]
 have o:=fun W s=>iA p D dc u pos f a c W l q i d e hu s;have hF:Hid (isIface u=r):=by rw[hr,n12,n13];rfl
 clear hr d e l;go_enter Tryz.func160,Tryz.ntmps160;go_wp2_with fail
 refine(o _ ag.kw).mono ?_;rintro x y ⟨b,rfl,t,aa⟩;have j:=(ag.step aa).up;clear aa o;go_wp2_with fail
 go_ret;exact⟨_,rfl,t.out.trans hF.out,j⟩
def tT(D:Dl)(dc:Nat)(u:U):Prop:=
 ∀(p:Pm)(pos f:Nat)(a:Option Addr)(c:Nat)(w:World),Pl D.len u pos f→f≤2→f≠0→u.k≠12→u.k≠13→isIface u=true→ak p D u a c→KW p w→
  Calls Tryz.prog 161 #[.slice D.a D.len dc,.agg #[.int .i64 u.k,.int .i64 u.n,.int .i64 u.m,.bool u.v,.string u.nm,.string u.tg,.slice a u.es.length c]] w (RB (fj u) w)
theorem lj{u:U}:aQ u=true↔u.k≠12∧u.k≠13∧isIface u=true:=by unfold aQ;simp[and_assoc]
theorem zZ(p:Pm)(D:Dl)(dc:Nat)(u:U)(f:Nat)(a:Option Addr)(c:Nat)(w:World)(t:tT D dc u)(r:Pl D.len u 2 f)(y:f≤2)(h:f≠0)(hu:ak p D u a c)(hw:KW p w)(B:Nat)
 (h1:w.cell? ⟨B,0,none⟩=some (.slice D.a D.len dc)):
 Calls Tryz.prog 192 #[.agg #[.int .i64 u.k,.int .i64 u.n,.int .i64 u.m,.bool u.v,.string u.nm,.string u.tg,.slice a u.es.length c],.pointer (some ⟨B,0,none⟩)] w (RB (aQ u&&fj u) w):=by
 have b1:=World.block_lt_of_cell? _ _ h1;simp only at b1;have ag:Up p w (w.alloc (.cells #[.int .i64 u.k,.int .i64 u.n,.int .i64 u.m,.bool u.v,.string u.nm,.string u.tg,.slice a u.es.length c] 25)):=(Up.refl hw).alloc _;have s:=fun W e=>og p D dc u 2 f a c W r y h hu e;cases he:aQ u
 ·have d:=fun W e=>aW (s W e) he
  clear t s he r;go_enter Tryz.func192,Tryz.ntmps192;go_wp2_with fail
  refine(d _ ag.kw).mono ?_;rintro z x ⟨rfl,aa⟩;have g:=(ag.step aa).up;clear aa d;go_wp2_with fail
  go_ret;exact⟨_,rfl,rfl,g⟩
 have d:=fun W e=>aW (s W e) he;obtain⟨i,j,hi⟩:=lj.1 he;have l:=fun W e=>t p 2 f a c W r y h i j hi hu e;clear t s he r hi i j;go_enter Tryz.func192,Tryz.ntmps192;go_wp2_with fail
 refine(d _ ag.kw).mono ?_;rintro z x ⟨rfl,aa⟩;have o:=ag.step aa;have c1:x.cell? ⟨B,0,none⟩=some (.slice D.a D.len dc):=cell_kept aa (by rw[World.cell?_alloc_lt _ _ _ b1];exact h1);obtain⟨C,E,F,G,H,I,J⟩:TS.L7 x w.heap.size u a c:=by
  repeat' apply And.intro
  all_goals exact cell_kept aa (by first|(simp[go_sem];done)|(go_keep;done))
 clear aa d ag;go_wp2_with fail
 refine(l _ o.kw).mono ?_;rintro z K ⟨b,rfl,A,q⟩;have g:=(o.step q).up;clear q l;go_wp2_with fail
 go_ret;exact⟨_,rfl,A,g⟩
theorem z8(D:Dl)(dc:Nat):∀u,tT D dc u:=by
 intro u;induction u using U.bg with
 |_ u ih=>
  intro p pos f a c w I T x y z hi hu hw;obtain⟨f',PM,V,d,hk,h⟩:=I.under T x y z;have J:=fun W K=>jv p D dc u pos f a c W I T x y z hu K;have ag:Up p w ((w.alloc (.cells #[.slice D.a D.len dc] 22)).alloc (.cells #[.int .i64 u.k,.int .i64 u.n,.int .i64 u.m,.bool u.v,.string u.nm,.string u.tg,.slice a u.es.length c] 25)):=((Up.refl hw).alloc _).alloc _;have t:=yW u;unfold isIface at hi;generalize fj u=r at*;generalize under u=v at*;cases j:v.k==16
  ·have l:v.k=10:=by simpa [j]using hi
   have hF:Hid (r=(v.es.drop v.m.toNat).any fun e=>aQ e&&fj e):=by rw[t,j];rfl
   obtain⟨PN,L,h4⟩:=d.form.lh l;have hE:=Lib.hid fun e he=>d.elem l (e:=e) he;have hS:=Lib.hid fun e (he:e∈v.es.drop v.m.toNat)=>ih e (Nat.lt_of_lt_of_le (U.az (List.mem_of_mem_drop he)) h);clear t ih I d hk h l hi;have PO:max v.m 0=v.m:=by omega
   have X:v.m≤v.es.length:=by omega
   have PQ:∀(fn:Fn)(first cap:Array Value)(w:World),(Instr.makeFunc fn first cap).run Tryz.prog w= .ok (.func fn first cap) w:=fun _ _ _ _=>rfl;have eg:=Lib.hid (show ∀args w,(callFunc 192 args).run Tryz.prog w= .ok (.enter 192 args) w from ep Tryz.func192 (by kernel_rfl) rfl);go_enter Tryz.func161,Tryz.ntmps161;go_wp2_with fail
   refine(J _ ag.kw).mono ?_;rintro Y Z ⟨q,M,c1,rfl,t,A,o,aa⟩;have N:=ag.step aa;have g:=o.cap;have c0:Z.cell? ⟨w.heap.size,0,none⟩=some (.slice D.a D.len dc):=cell_kept aa (by simp[go_sem]);have O:=Lib.hid fun W (K:KW q W) n (hn:n=(v.es.drop v.m.toNat).length) a2 c2 (B:aj q D (v.es.drop v.m.toNat) a2) lb H=>iU n q D (v.es.drop v.m.toNat) hn a2 c2 192 lb (fun u=>aQ u&&fj u) W K B (by simp;omega) eg.out H;have P:=N.alloc (.cells #[.int .i64 v.k,.int .i64 v.n,.int .i64 v.m,.bool v.v,.string v.nm,.string v.tg,.slice M v.es.length c1] 25);have C:=A.alloc (.cells #[.int .i64 v.k,.int .i64 v.n,.int .i64 v.m,.bool v.v,.string v.nm,.string v.tg,.slice M v.es.length c1] 25);have Q:=g.1;clear J aa g;have s:v.m.toNat<c1∨c1=v.m.toNat:=by omega
   rcases s with s|rfl
   all_goals
    go_wp2_with fail
    have B:=o.list.qC L Q;first|rw[if_pos s]at B|rw[if_neg (Nat.lt_irrefl _)]at B
    refine(O.out _ C _ (by simp;try omega) _ _ B _ ?_).mono ?_
    ·intro i hi W a' c' E R
     have he:=List.getElem_mem hi;exact zZ q D dc _ 2 a' c' W (hS.out _ he) (hE.out _ he) (by omega) (by omega) R (C.grown E) _ (cell_kept E (by rw[World.cell?_alloc_lt _ _ _ (World.block_lt_of_cell? _ _ c0)];exact c0))
    rintro Y w2 ⟨b,rfl,hb,F⟩;have S:=(P.step F).up;clear F;go_wp2_with fail
    go_ret;exact⟨_,rfl,by rw[hF.out];exact hb.out,S⟩
  ·have hF:Hid (true=r):=by rw[t,j];rfl
   clear t ih I d hk h hi;go_enter Tryz.func161,Tryz.ntmps161;go_wp2_with fail
   refine(J _ ag.kw).mono ?_;rintro Y Z ⟨q,M,c1,rfl,t,A,o,aa⟩;have G:=(ag.step aa).up;clear J aa;go_wp2_with fail
   go_ret;exact⟨_,rfl,hF,G.alloc G.size _⟩
theorem tU:(Tryz.prog.info? 25).map (fun i=>(i.zero,i.size,i.bytes))=some (some (.agg #[.int .i64 cg.k,.int .i64 cg.n,.int .i64 cg.m,.bool cg.v,.string cg.nm,.string cg.tg,.slice none cg.es.length 0]),7,88):=by kernel_rfl
theorem tV{k:IntKind}{a b:Int}(h:a=b):Ending.returned (.int k a)= .returned (.int k b):=by rw[h]
def RO(p:Pm)(D:Dl)(l:List U)(w:World)(e:Ending)(a:World):Prop:=
 ∃v L,e= .returned v∧Hid (a7 L=l)∧fV p D L∧a.ownsRow w.heap.size 25 7 v L.length (cP L)∧Below w.heap.size w a
theorem z_(p:Pm)(D:Dl)(l:List U)(a:Option Addr)(n c:Nat)(w:World)(E:n=l.length)(S:l.length≤1048576)(y:aj p D l a)(hw:KW p w):
 Calls Tryz.prog 152 #[.slice a n c] w (RO p D l w):=by
 cases a with
 |none=>
  cases l with
  |cons e r=>obtain⟨b,o,h⟩:=y.bN (by simp);cases h
  |nil=>
   simp only[List.length_nil]at E;subst E;have hr:RO p D [] w (.returned (.slice none 0 0)) w:=⟨_,[],rfl,rfl,(fun x H=>by cases H),World.ownsRow_nil _ _ _ _,Below.refl _ _⟩
   have I:=Lib.hid hr;clear hr y;have z:=fun(w:World)=>Lib.run_eql_slice_nil (P:=Tryz.prog) w 23 25 none 0 c 0 0 Tryz.underlying23;go_enter Tryz.func152,Tryz.ntmps152;go_wp2_with fail
   go_ret;exact I.out
 |some x=>
  obtain⟨L,f,F,G⟩:∃L,a7 L=l∧fV p D L∧∀j u,(cP L)[j]?=some u→w.cell? (x.add j)=some u∧(x.add j).block<w.heap.size:=by
   cases l with
   |nil=>exact⟨[],rfl,(fun x H=>by cases H),fun j u h=>by simp[cP]at h⟩
   |cons e r=>
    obtain⟨b,o,ha⟩:=y.bN (by simp);cases ha;obtain⟨L,f,F,G⟩:=tB y;refine⟨L,f,F,fun j u hu=> ?_⟩;have:=hw _ _ _ (G j u hu);rw[show(⟨b,o,none⟩:Addr).add j=⟨b,o+j,none⟩ by unfold Addr.add;split<;>simp_all];exact⟨this,World.block_lt_of_cell? _ _ this⟩
  have s:L.length=n:=by rw[E,←f];simp[a7]
  have J:Hid (∀j u,(cP L)[j]?=some u→(w.alloc (.cells #[] 25)).cell? (x.add j)=some u):=fun j u hu=>by
   have:=G j u hu;rw[World.cell?_alloc_lt _ _ _ this.2];exact this.1
  have K:=Lib.hid F;have A:=Lib.hid f;have h1:=Lib.hid (tw L);have hlen:=Lib.hid (show(cP L).length=n*7 by rw[nS,s]);have q:(w.alloc (.cells #[] 25)).ownsRow w.heap.size 25 7 (.slice (some ⟨w.heap.size,0,none⟩) 0 0) 0 []:=World.ownsRow_made w #[] 0 (Nat.le_refl _) (by unfold maxLen;omega) (by simp);have t:=Lib.hid q;have aa:n≤1048576:=by omega
  have B:=Lib.hid s;clear F f G y E S q s;obtain⟨i0,hi,M,N,O⟩:=info_parts tU;have z:=fun(w:World)=>Lib.run_eql_slice_nil (P:=Tryz.prog) w 23 25 (some x) n c 0 0 Tryz.underlying23;go_enter Tryz.func152,Tryz.ntmps152;go_wp2_with (at_builtin;refine wpList_append_own _ rfl _ _ 23 rfl w.heap.size 25 i0 (.agg #[.int .i64 cg.k,.int .i64 cg.n,.int .i64 cg.m,.bool cg.v,.string cg.nm,.string cg.tg,.slice none cg.es.length 0]) 7 88 Tryz.underlying23 hi M N O rfl (by decide) _ _ _ rfl t.out x n c (cP L) rfl hlen.out J.out h1.out ?c3 ?c4 ?c5 ?_)
  case c3=>unfold maxLen;omega
  case c4=>omega
  case c5=>simp
  intro T R g C _;have d:R.ownsRow w.heap.size 25 7 T L.length (cP L):=by rw[B.out];simpa only[Nat.zero_add,List.nil_append]using g
  have i:=Lib.hid d;clear d;have Q:Below w.heap.size w R:=((Below.refl w.heap.size w).alloc (Nat.le_refl _) _).grown C (by simp) fun k hk=>by simp[Value.ownBlock]at hk;omega
  clear g C;go_wp2_with fail
  go_ret;exact⟨_,L,rfl,A.out,K.out,i.out,Q⟩
theorem Aa(u:U)(s:ByteArray)(a:Option Addr)(c:Nat)(w:World)(B:Nat)(b:w.cell? ⟨B,4,none⟩=some (.string s)):
 Calls Tryz.prog 153 #[.agg #[.int .i64 u.k,.int .i64 u.n,.int .i64 u.m,.bool u.v,.string u.nm,.string u.tg,.slice a u.es.length c],.pointer (some ⟨B,0,none⟩)] w (RB (decide (u.nm.toList=s.toList)) w):=by
 have b1:=World.block_lt_of_cell? _ _ b;simp only at b1;have d:Hid ((u.nm.toList==s.toList)=decide (u.nm.toList=s.toList)):=by simp only[Hid];rw[Bool.eq_iff_iff];simp
 go_enter Tryz.func153,Tryz.ntmps153;go_wp2_with fail
 go_ret;exact⟨_,rfl,d,(Below.refl w.heap.size w).alloc (Nat.le_refl _) _⟩
def gR(x y:R3):Int:=if bC x.1 y.1 then-1 else 1
theorem Ab(u v:U)(a a':Option Addr)(c c':Nat)(w:World):
 Calls Tryz.prog 155 #[.agg #[.int .i64 u.k,.int .i64 u.n,.int .i64 u.m,.bool u.v,.string u.nm,.string u.tg,.slice a u.es.length c],.agg #[.int .i64 v.k,.int .i64 v.n,.int .i64 v.m,.bool v.v,.string v.nm,.string v.tg,.slice a' v.es.length c']] w fun e g=>e= .returned (.int .i64 (gR (u,a,c) (v,a',c')))∧∃q d,g=Sort.grow (w.drewN q) d:=by
 cases b:bC u v
 ·have hF:Hid ((1:Int)=gR (u,a,c) (v,a',c')):=by simp[Hid,gR,b]
  have f:Go.Op.bytesLess u.nm.toList v.nm.toList=false:=b;clear b;go_enter Tryz.func155,Tryz.ntmps155;go_wp2_with fail
  go_ret;exact⟨tV hF.out,0,_,by rw[Sort.alloc_eq_grow,Sort.alloc_eq_grow,Sort.grow_grow];rfl⟩
 ·have hF:Hid ((-1:Int)=gR (u,a,c) (v,a',c')):=by simp[Hid,gR,b]
  have f:Go.Op.bytesLess u.nm.toList v.nm.toList=true:=b;clear b;go_enter Tryz.func155,Tryz.ntmps155;go_wp2_with fail
  go_ret;exact⟨tV hF.out,0,_,by rw[Sort.alloc_eq_grow,Sort.alloc_eq_grow,Sort.grow_grow];rfl⟩
end Go.Proofs.YtdkmnkjhhhmglaaGreatDoor
