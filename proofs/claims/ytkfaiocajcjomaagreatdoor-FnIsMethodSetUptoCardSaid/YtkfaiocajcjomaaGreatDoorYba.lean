import Derived.LoopIn
import Derived.LoopNIn
import Derived.OwnWalkIn
import Derived.RangeFuncBound
import Derived.RangeFuncCalls
import Derived.RangeFuncFrom
import Derived.RangeFuncLeaves
import Derived.RangeFuncMany
import Derived.RangeFuncNested
import Derived.Shelf.Abstract
import Derived.TacticsInMore
import Derived.Test.YtkfaiocajcjomaaGreatDoorYaw
set_option maxRecDepth 100000
set_option maxHeartbeats 8000000
set_option linter.all false
namespace Go.Proofs.YtkfaiocajcjomaaGreatDoor
open Go.RowKit TS Go.Shelf
attribute [local go_sem] Oper.semAt_some
theorem CY(tb n c i f:Nat)(a:Option Addr)(w:World)(j:i<n)(hi:n≤1099511627776)(k:w.cell? ⟨tb,0,none⟩=some (.slice a n c))(d:∃b o,a=some ⟨b,o,none⟩∧w.cell? ⟨b,o+i,none⟩=some (.pointer (some ⟨f,0,none⟩))):
 Calls Tryz.prog 156 #[.pointer (some ⟨tb,0,none⟩),.int .i64 i] w fun e g=>e= .returned (.pointer (some ⟨f,0,none⟩))∧w=g:=by
 obtain⟨b,o,rfl,l⟩:=d;have h:(i:Int)<n:=by omega
 go_enter Tryz.func156,Tryz.ntmps156;go_wp2_with fail
 go_ret;exact⟨rfl,rfl⟩
theorem CZ(b:Nat)(k:Int)(w:World):Calls Tryz.prog 186 #[.iface 132 (.pointer (some ⟨b,0,none⟩)),.int .i64 k] w fun e h=>e= .returned (.bool false)∧w=h:=by
 obtain⟨K,fn,i,f,a,g,j,l,c⟩:=mI b w;have m:=fun args w=>Go.MuLone.run_callFunc_enter f a g args w;have d:=Lib.hid c;have n:∀W,(Instr.typeAssert (.iface 132 (.pointer (some ⟨b,0,none⟩))) 39 91 true).run Tryz.prog W= .ok (.tuple #[.pointer none,.bool false]) W:=fun W=>by rw[br,if_neg (by decide)]
 clear c f a g;go_enter Tryz.func186,Tryz.ntmps186;go_wp2_with fail
 refine d.out.mono ?_;rintro _ _ ⟨rfl,rfl⟩;go_wp2_with fail
 go_ret;exact⟨rfl,rfl⟩
theorem C0(b:Nat)(w:World):Calls Tryz.prog 158 #[.iface 132 (.pointer (some ⟨b,0,none⟩))] w fun e a=>e= .returned (.bool false)∧w=a:=by
 go_enter Tryz.func158,Tryz.ntmps158;go_wp2_with fail
 refine(CZ b 32 _).mono ?_;rintro _ _ ⟨rfl,rfl⟩;go_wp2_with fail
 go_ret;exact⟨rfl,rfl⟩
theorem C1(b:Nat)(w:World):Calls Tryz.prog 157 #[.iface 132 (.pointer (some ⟨b,0,none⟩))] w fun e a=>e= .returned (.func (.func 184) #[] #[.pointer (some ⟨w.heap.size,0,none⟩)])∧a=w.alloc (.cells #[.iface 132 (.pointer (some ⟨b,0,none⟩))] 39):=by
 have c:∀(fn:Fn)(first cap:Array Value)(w:World),(Instr.makeFunc fn first cap).run Tryz.prog w= .ok (.func fn first cap) w:=fun _ _ _ _=>rfl;go_enter Tryz.func157,Tryz.ntmps157;go_wp2_with fail
 go_ret;exact⟨rfl,rfl⟩
abbrev bL(b:Nat)(_:Unit):Array Value:=#[.iface 132 (.pointer (some ⟨b,0,none⟩)),.iface 132 (.pointer (some ⟨b,0,none⟩))]
theorem C2{F:Fence}(a:F.depth=none)(k:Nat):F.room k:=fun d h=>by rw[a]at h;cases h
theorem C3{F:Fence}(b:F.depth=none){m:Nat}(d:Nat){P:Program}{l:Nat}{args:Array Value}{W:World}{R:Ending→World→Prop}(h:YieldAt F m P l args W R):YieldAt F d P l args W R:=by
 obtain⟨fn,tmps,assign,body,e,a⟩:=h;exact⟨fn,tmps,assign,body,e,a.1,fun c cs _=>a.2 c cs (C2 b _)⟩
theorem C4(n l b:Nat)(W:World)(R:Ending→World→Prop)(j:YieldAt Fence.wide (n- 1) Tryz.prog l (bL b ()) W fun e k=> ∃x,e= .returned (.bool x)∧R (.returned (.bool x)) k):
 CallsIn Fence.wide n Tryz.prog 185 #[.iface 132 (.pointer (some ⟨b,0,none⟩)),.func (.yield l) #[] #[]] W R:=by
 obtain⟨fn,tmps,assign,body,m,o⟩:=j;dsimp only[bL]at m;obtain⟨K,p,q,d,a,f,r,s,c⟩:=mI b W;have t:=fun args w=>Go.MuLone.run_callFunc_enter d a f args w;have z:∀W,(Instr.typeAssert (.iface 132 (.pointer (some ⟨b,0,none⟩))) 39 211 true).run Tryz.prog W= .ok (.tuple #[.pointer none,.bool false]) W:=fun W=>by rw[oN,if_neg (by decide)]
 have u:∀n,CallsIn Fence.wide n Tryz.prog 110 #[.iface 132 (.pointer (some ⟨b,0,none⟩))] W fun e g=>e= .returned (.iface 132 (.pointer (some ⟨b,0,none⟩)))∧W=g:=fun n=>callsIn_wide.2 (eC _ _ (by decide) W);have v:∀n,CallsIn Fence.wide n Tryz.prog K #[.pointer (some ⟨b,0,none⟩)] W fun e g=>e= .returned (.iface 132 (.pointer (some ⟨b,0,none⟩)))∧W=g:=fun n=>callsIn_wide.2 c;clear d a f c;refine callsIn_of_wp Tryz.func185 rfl trivial ?_ rfl;simp only[Tryz.ntmps185,List.size_toArray,List.length_cons,List.length_nil,Nat.reduceAdd,Nat.reduceSub,Array.replicate_succ,Array.replicate_zero,List.push_toArray,List.append_toArray,List.nil_append,List.cons_append]
 gi_wp2_with (first
  |(refine⟨trivial,(fun h=>by cases h),?_⟩;gi_at_call 110;refine(u _).mono ?_;rintro e i ⟨rfl,rfl⟩)
  |(refine⟨trivial,(fun h=>by cases h),?_⟩;refine(v _).mono ?_;rintro e i ⟨rfl,rfl⟩)
  |(refine⟨(fun h=>by cases h),?_⟩;refine o.mono ?_;rintro e i ⟨x,rfl,y⟩))
 exact y
theorem C5(n g b B:Nat)(w:World)(a:B<w.heap.size)(i:w.cell? ⟨B,0,none⟩=some (.iface 132 (.pointer (some ⟨b,0,none⟩)))):
 SeqStopsK Fence.wide n Tryz.prog 184 #[.pointer (some ⟨B,0,none⟩)] (bL b) (Below g) (fun xs=>xs= [()]) (fun pre=>pre= [()]) 1 w:=fun l J j W k s o d q=>by
 have t:W.cell? ⟨B,0,none⟩=some (.iface 132 (.pointer (some ⟨b,0,none⟩))):=(k.cell (p:=⟨B,0,none⟩) a).trans i;have f:=d [] () W q (by decide);have r:∀m,CallsIn Fence.wide m Tryz.prog 185 #[.iface 132 (.pointer (some ⟨b,0,none⟩)),.func (.yield l) #[] #[]] W fun e c=>(∃v,e= .returned v)∧((∃xs,xs= [()]∧J xs c)∨∃pre,pre= [()]∧j pre c):=fun m=>
  C4 m l b W _ (YieldAt.mono (C3 rfl (m- 1) f) fun e c h=>by
   rcases h with⟨rfl,h,_⟩|⟨rfl,h⟩
   ·exact⟨true,rfl,⟨_,rfl⟩,.inl ⟨_,rfl,h⟩⟩
   ·exact⟨false,rfl,⟨_,rfl⟩,.inr ⟨_,rfl,h⟩⟩)
 clear f d;refine callsIn_of_wp Tryz.func184 rfl trivial ?_ rfl;simp only[Tryz.ntmps184,List.size_toArray,List.length_cons,List.length_nil,Nat.reduceAdd,Nat.reduceSub,Array.replicate_succ,Array.replicate_zero,List.push_toArray,List.append_toArray,List.nil_append,List.cons_append];gi_wp2_with (refine⟨trivial,(fun h=>by cases h),?_⟩;gi_at_call 185;refine(r _).mono ?_;rintro e u ⟨⟨x,rfl⟩,h⟩)
 go_end0
 exact⟨⟨_,rfl⟩,h⟩
theorem C6(r q:Option Addr)(pb n c fl d:Nat)(a:Option Addr)(w:World)(hn:0<n)(j:n≤1099511627776)(F:w.cell? ⟨pb,0,none⟩=some (.slice a n c))(H:∃b o,a=some ⟨b,o,none⟩∧w.cell? ⟨b,o+(n- 1),none⟩=some (.pointer (some ⟨fl,0,none⟩)))
 (h3:w.cell? ⟨fl,3,none⟩=some (.iface 132 (.pointer (some ⟨d,0,none⟩)))):
 Calls Tryz.prog 119 #[.pointer r,.slice none 0 0,.slice none 0 0,.pointer (some ⟨pb,0,none⟩),.pointer q,.bool true] w fun e f=> ∃b,e= .returned (.pointer (some ⟨b,0,none⟩))∧w.heap.size≤b∧
  f.heap[b]?=some (.cells #[.pointer r,.pointer none,.pointer (some ⟨pb,0,none⟩),.pointer q,.bool true] 98 (0,0))∧Below w.heap.size w f:=by
 have N:∀m,CallsIn Fence.wide m Tryz.prog 155 #[.pointer (some ⟨pb,0,none⟩)] w fun e f=>e= .returned (.int .i64 n)∧w=f:=fun m=>callsIn_wide.2 (k9 pb n c a w F);have O:∀m,CallsIn Fence.wide m Tryz.prog 156 #[.pointer (some ⟨pb,0,none⟩),.int .i64 ((n:Int)- 1)] w fun e f=>e= .returned (.pointer (some ⟨fl,0,none⟩))∧w=f:=fun m=>callsIn_wide.2 (by
  have:=CY pb n c (n- 1) fl a w (by omega) j F H;rwa [show((n- 1:Nat):Int)=(n:Int)- 1 by omega]at this)
 have hT:∀m W,CallsIn Fence.wide m Tryz.prog 157 #[.iface 132 (.pointer (some ⟨d,0,none⟩))] W fun e f=>e= .returned (.func (.func 184) #[] #[.pointer (some ⟨W.heap.size,0,none⟩)])∧f=W.alloc (.cells #[.iface 132 (.pointer (some ⟨d,0,none⟩))] 39):=fun m W=>callsIn_wide.2 (C1 d W);have P:¬(n:Int)=0:=by omega
 have Q:(n:Int)≤1099511627776:=by omega
 clear F H;refine(callsIn_wide (n:=9)).1 ?_;refine callsIn_of_wp_marks Tryz.func119 rfl trivial ?_ rfl;simp only[Tryz.ntmps119,List.size_toArray,List.length_cons,List.length_nil,Nat.reduceAdd,Nat.reduceSub,Array.replicate_succ,Array.replicate_zero,List.push_toArray,List.append_toArray,List.nil_append,List.cons_append]
 gi_wp2_with (first
  |(refine⟨trivial,?_⟩;gi_at_call 155;refine(N _).mono ?_;rintro e C ⟨rfl,rfl⟩)
  |(refine⟨trivial,?_⟩;gi_at_call 156;refine(O _).mono ?_;rintro e C ⟨rfl,rfl⟩)
  |(refine⟨trivial,?_⟩;gi_at_call 157;refine(hT _ _).mono ?_;rintro e C ⟨rfl,rfl⟩))
 refine' wpIn_rangeFunc_ownF rfl (by decide) (gf:=184) (lb:=#[.pointer (some ⟨w.heap.size+1,0,none⟩)]) rfl trivial (enters_of Tryz.func184 (by kernel_rfl) rfl) (C5 _ w.heap.size d (w.heap.size+1) _ (by simp) (by simp[go_sem])) belowK_t (belowK_b (by simp;omega)) (Below.refl _ _) (fun _=>rfl)
  (fun pre W=>(W.cell? ⟨w.heap.size,0,none⟩=some (if pre= []then .pointer none else .pointer (some ⟨d,0,none⟩))∧W.frozen? ⟨w.heap.size,0,none⟩=false)∧Below w.heap.size w W) (fun _ _ _=>False)
  (OwnFrom.and (Own.from (fun s A B row k I hr=>⟨Go.cell_kept k.1 I hr,(Go.frozen_kept k.1 I hr).trans k.2⟩) _) (ownFrom_below (Nat.le_refl _) (by simp;omega))) (fun _ _ _ _ _ k _ _=>k)
  ⟨⟨by simp[go_sem],by simp[go_sem]⟩,((Below.refl _ _).alloc (Nat.le_refl _) _).alloc (by simp) _⟩ _ ?assign ?body ?done ?stop
 case assign=>
  intro l x W K E;gi_wp2
  exact E
 case body=>
  rintro l pre x W ⟨⟨t,J⟩,u⟩ hl;obtain rfl:pre= []:=List.length_eq_zero_iff.1 (by omega);simp only[if_true]at t;obtain⟨K,R,S,v,g,y,T,L,i⟩:=mI d W;have U:=fun args w=>Go.MuLone.run_callFunc_enter v g y args w;have V:∀m,CallsIn (Fence.wide.inRound l) m Tryz.prog K #[.pointer (some ⟨d,0,none⟩)] W fun e f=>e= .returned (.iface 132 (.pointer (some ⟨d,0,none⟩)))∧W=f:=fun m=>CallsIn.inRound l (callsIn_wide.2 i);have X:∀m,CallsIn (Fence.wide.inRound l) m Tryz.prog 158 #[.iface 132 (.pointer (some ⟨d,0,none⟩))] W fun e f=>e= .returned (.bool false)∧W=f:=fun m=>CallsIn.inRound l (callsIn_wide.2 (C0 d W));have ax:∀W,(Instr.typeAssert (.iface 132 (.pointer (some ⟨d,0,none⟩))) 39 132 true).run Tryz.prog W= .ok (.tuple #[.pointer (some ⟨d,0,none⟩),.bool true]) W:=fun W=>by rw[asSlice,if_pos rfl]
  have Y:∀W:World,(binOp .eql 39 (.iface 132 (.pointer (some ⟨d,0,none⟩))) .nilIface).run Tryz.prog W= .ok (.bool false) W:=fun W=>by kernel_rfl
  clear v g y i
  gi_wp2_with (first
   |(refine⟨trivial,?_⟩;gi_at_call 158;refine(X _).mono ?_;rintro e C ⟨rfl,rfl⟩)
   |(refine⟨trivial,?_⟩;refine(V _).mono ?_;rintro e C ⟨rfl,rfl⟩))
  exact⟨KeepsOthers.setCell _ _ _,(Below.refl w.heap.size W).setCell (p:=⟨w.heap.size,0,none⟩) (Nat.le_refl _) _,⟨World.cell?_setCell_same' _ _ _ (by rw[t];rfl),by rw[World.frozen?_setCell];exact J⟩,u.setCell (p:=⟨w.heap.size,0,none⟩) (Nat.le_refl _) _⟩
 case done=>
  rintro D ys W M rfl ⟨⟨t,J⟩,u⟩ E;have Z:W.cell? ⟨w.heap.size,0,none⟩=some (.pointer (some ⟨d,0,none⟩)):=t;clear t;have G:D<W.heap.size:=(Array.getElem?_eq_some_iff.1 E).1;gi_wp2
  have z:=(Below.heap_alloc W (.cells #[.pointer r,.pointer none,.pointer (some ⟨pb,0,none⟩),.pointer q,.bool true] 98) D G).trans E;refine⟨by simp,.inl ⟨_,_,rfl,run_takeDeferred z,?_⟩⟩;refine⟨_,results_tmp rfl _ _ _,W.heap.size,rfl,u.size,?_,?_⟩
  ·rw[World.putObj_heap_other (by omega)];exact(MapKept.heap_alloc W _).1
  ·exact(u.alloc u.size _).trans (belowK_b (w:=w) (Nat.le_refl _) _ D _ _ (by simp at M;omega) z rfl rfl)
 case stop=>
  rintro D c pre W M _ h _;exact h.elim
end Go.Proofs.YtkfaiocajcjomaaGreatDoor
namespace Go.Proofs.YtkfaiocajcjomaaGreatDoor
open Go.RowKit TS
theorem uV{D:Dl}{T:List U}{NS:List (List UInt8)}{i:Nat}(E:Env D T NS i)(p:Pm)(dc:Nat){x:U}{pos:Nat}(h:b9 D T NS i x pos 2)(F:x.k≠12)(hM:g_ D dc T NS i x)(G:∀e∈x.es,g_ D dc T NS i e)
 (hT:dV p D T)(a:Option Addr)(c:Nat)(w:World)(hu:aj p D x a c)(hw:KW p w):
 Calls Tryz.prog 131 #[.slice D.a D.len dc,.agg #[.int .i64 x.k,.int .i64 x.n,.int .i64 x.m,.bool x.v,.string x.nm,.string x.tg,.slice a x.es.length c]] w (RB (mt T .term x false) w):=by
 by_cases j:x.k=13
 ·have t13:(x.k==13)=true:=by simp[j]
  have h1:=h.pl.form.gU j;obtain⟨e,he⟩:=cU h1;have s:=h.mi (by omega) F 0 (by omega);have H:x.es[0]'(by omega)=e:=by simp[he]
  rw[H,show aJ x 0 2=2 by unfold aJ;rw[if_pos rfl]]at s;have hk:=s.pl.form.aB;obtain⟨b,o,rfl⟩:=hu.list.bC (by omega);obtain⟨a',c',h7,t⟩:=hu.list.get 0 (by omega);simp only[H,Nat.zero_mul,Nat.add_zero]at h7 t;have L:Hid (mt T .term x false=(mt T .type e false&& !isIface e&&aF e (under e))):=by unfold Hid;rw[kq j,he];simp
  have hl:0<x.es.length:=by omega
  have P8:(0:Int)<x.es.length:=by omega
  have u:=fun W l=>G e (by rw[he];simp) false p 0 2 a' c' W s hk.1 hk.2 hT t l;have A:=fun W l=>e_ p D dc e 0 2 a' c' W s.pl (by omega) (by omega) hk.1 hk.2 t l;have ag:Up p w ((w.alloc (.cells #[.int .i64 x.k,.int .i64 x.n,.int .i64 x.m,.bool x.v,.string x.nm,.string x.tg,.slice (some ⟨b,o,none⟩) x.es.length c] 25)).alloc (.cells #[.int .i64 e.k,.int .i64 e.n,.int .i64 e.m,.bool e.v,.string e.nm,.string e.tg,.slice a' e.es.length c'] 25)):=((Up.refl hw).alloc _).alloc _;obtain⟨z0,z1,z2,z3,z4,z5,z6⟩:(w.cell? ⟨b,o,none⟩=some (.int .i64 e.k)∧w.cell? ⟨b,o+1,none⟩=some (.int .i64 e.n)∧w.cell? ⟨b,o+2,none⟩=some (.int .i64 e.m)∧w.cell? ⟨b,o+3,none⟩=some (.bool e.v)∧w.cell? ⟨b,o+4,none⟩=some (.string e.nm)∧w.cell? ⟨b,o+5,none⟩=some (.string e.tg)∧w.cell? ⟨b,o+6,none⟩=some (.slice a' e.es.length c')):=h7.world hw;have hb:=hw.lt h7.1;have P9:=Lib.hid he;clear he h7 H h1 j hM G;cases hm:mt T .type e false
  ·have r:=fun W l=>aM (u W l) hm
   have hF:Hid (false=mt T .term x false):=by unfold Hid;rw[L.out,hm];rfl
   clear u hm A L s h hk;go_enter Tryz.func131,Tryz.ntmps131;go_wp2_with fail
   refine oR (fun W=>(W.cell? ⟨w.heap.size+1,0,none⟩=some (.int .i64 e.k)∧W.cell? ⟨w.heap.size+1,1,none⟩=some (.int .i64 e.n)∧W.cell? ⟨w.heap.size+1,2,none⟩=some (.int .i64 e.m)∧W.cell? ⟨w.heap.size+1,3,none⟩=some (.bool e.v)∧W.cell? ⟨w.heap.size+1,4,none⟩=some (.string e.nm)∧W.cell? ⟨w.heap.size+1,5,none⟩=some (.string e.tg)∧W.cell? ⟨w.heap.size+1,6,none⟩=some (.slice a' e.es.length c'))∧Up p w W) [(0,true),(1,true),(2,false),(3,true),(4,true),(5,true),(6,false),(7,true),(8,true),(9,true),(10,true),(11,true),(12,true),(13,true),(14,false),(15,false),(16,true),(17,true)] oK (fun d=> ?_);repeat(first|(refine oS ?_;try simp only[Act.put,oa,ob,oc])|(refine oF d ?_;try simp only[Act.put,oa,ob,oc])|(refine oL fun K f=> ?_;go_simp;(go_at_call 34;(with_reducible refine(r _ (Up.kw (by first|assumption|exact ag.drew))).mono ?_);rintro B V ⟨rfl,aa⟩;(try simp only[]);refine f _ _ oK fun d=> ?_;clear f K;try simp only[Act.put,oa,ob,oc])))
   refine bM ?_;have I:=d.2.up;clear aa d;go_wp2_with fail
   go_ret;exact⟨_,rfl,hF.out,I⟩
  have r:=fun W l=>aM (u W l) hm;cases hi:isIface e
  case true=>
   have y:=fun W l=>aM (A W l) hi;have hF:Hid (false=mt T .term x false):=by unfold Hid;rw[L.out,hm,hi];rfl
   clear u hm A L s h hk hi;go_enter Tryz.func131,Tryz.ntmps131;go_wp2_with fail
   refine oR (fun W=>(W.cell? ⟨w.heap.size+1,0,none⟩=some (.int .i64 e.k)∧W.cell? ⟨w.heap.size+1,1,none⟩=some (.int .i64 e.n)∧W.cell? ⟨w.heap.size+1,2,none⟩=some (.int .i64 e.m)∧W.cell? ⟨w.heap.size+1,3,none⟩=some (.bool e.v)∧W.cell? ⟨w.heap.size+1,4,none⟩=some (.string e.nm)∧W.cell? ⟨w.heap.size+1,5,none⟩=some (.string e.tg)∧W.cell? ⟨w.heap.size+1,6,none⟩=some (.slice a' e.es.length c'))∧Up p w W) [(0,true),(1,true),(2,false),(3,true),(4,true),(5,true),(6,false),(7,true),(8,true),(9,true),(10,true),(11,true),(12,true),(13,true),(14,false),(15,false),(16,true),(17,true)] oK (fun d=> ?_);repeat(first|(refine oS ?_;try simp only[Act.put,oa,ob,oc])|(refine oF d ?_;try simp only[Act.put,oa,ob,oc])|(refine oL fun K f=> ?_;go_simp;first|(go_at_call 34;(with_reducible refine(r _ (Up.kw (by first|assumption|exact ag.drew))).mono ?_);rintro B V ⟨rfl,aa⟩;(try simp only[]);refine f _ _ oK fun d=> ?_;clear f K;try simp only[Act.put,oa,ob,oc])|(go_at_call 19;obtain⟨⟨O,s1,s2,P,Q,R,S⟩,C⟩:=d;(with_reducible refine(y _ C.kw).mono ?_);rintro B w2 ⟨rfl,aa⟩;(try simp only[]);refine f _ _ oK fun d=> ?_;clear f K;try simp only[Act.put,oa,ob,oc])))
   refine bM ?_;have I:=d.2.up;clear aa d;go_wp2_with fail
   go_ret;exact⟨_,rfl,hF.out,I⟩
  have y:=fun W l=>aM (A W l) hi;have hF:Hid (aF e (under e)=mt T .term x false):=by unfold Hid;rw[L.out,hm,hi];rfl
  obtain⟨M,N⟩:=oC E s (by omega) hk.1 hk.2 hm hi;obtain⟨fu,X,P7,z,Y,_⟩:=s.pl.under (by omega) (by omega) hk.1 hk.2;have Z:=fun W l=>gA p D dc e 0 2 a' c' W s.pl (by omega) (by omega) hk.1 hk.2 t l;have hC:=Lib.hid (kI D dc NS E.cJ e (under e) _ _ _ _ s.pl (by omega) hk.1 hk.2 z X z.form.aB.1 z.form.aB.2 M N s.aC s.aC.under);clear u hm A L s h hk hi M N z Y;go_enter Tryz.func131,Tryz.ntmps131;go_wp2_with fail
  refine oR (fun W=>(W.cell? ⟨w.heap.size+1,0,none⟩=some (.int .i64 e.k)∧W.cell? ⟨w.heap.size+1,1,none⟩=some (.int .i64 e.n)∧W.cell? ⟨w.heap.size+1,2,none⟩=some (.int .i64 e.m)∧W.cell? ⟨w.heap.size+1,3,none⟩=some (.bool e.v)∧W.cell? ⟨w.heap.size+1,4,none⟩=some (.string e.nm)∧W.cell? ⟨w.heap.size+1,5,none⟩=some (.string e.tg)∧W.cell? ⟨w.heap.size+1,6,none⟩=some (.slice a' e.es.length c'))∧Up p w W) [(0,true),(1,true),(2,false),(3,true),(4,true),(5,true),(6,false),(7,true),(8,true),(9,true),(10,true),(11,true),(12,true),(13,true),(14,false),(15,false),(16,true),(17,true)] oK (fun d=> ?_);repeat(first|(refine oS ?_;try simp only[Act.put,oa,ob,oc])|(refine oF d ?_;try simp only[Act.put,oa,ob,oc])|(refine oL fun K f=> ?_;go_simp;first|(go_at_call 34;(with_reducible refine(r _ (Up.kw (by first|assumption|exact ag.drew))).mono ?_);rintro B V ⟨rfl,aa⟩;(try simp only[]);refine f _ _ oK fun d=> ?_;clear f K;try simp only[Act.put,oa,ob,oc])|(go_at_call 19;obtain⟨⟨O,s1,s2,P,Q,R,S⟩,C⟩:=d;(with_reducible refine(y _ C.kw).mono ?_);rintro B w2 ⟨rfl,aa⟩;(try simp only[]);refine f _ _ oK fun d=> ?_;clear f K;try simp only[Act.put,oa,ob,oc])|(go_at_call 15;obtain⟨⟨O,s1,s2,P,Q,R,S⟩,C⟩:=d;(with_reducible refine(Z _ C.kw).mono ?_);rintro B w3 ⟨q,a6,c6,rfl,P3,P4,P5,aa⟩;(try simp only[]);refine f _ _ oK fun d=> ?_;clear f K;try simp only[Act.put,oa,ob,oc])|(go_at_call 164;obtain⟨⟨O,s1,s2,P,Q,R,S⟩,C⟩:=d;(refine(hC.out q a' c' a6 c6 _ (aj.sub P3.le _ t) P5 P4).mono ?_);rintro B w4 ⟨b,rfl,J,aa⟩;(try simp only[]);refine f _ _ oK fun d=> ?_;clear f K;try simp only[Act.put,oa,ob,oc])))
  refine bM ?_;have I:=d.2.up;clear aa d;go_wp2_with fail
  go_ret;exact⟨_,rfl,J.out.trans hF.out,I⟩
 ·have t13:(x.k==13)=false:=by simp[j]
  have A:=fun W l=>e_ p D dc x pos 2 a c W h.pl (by omega) (by omega) F j hu l;have hF:Hid (mt T .term x false=mt T .type x (isIface x)):=gR j;obtain⟨g,H⟩:∃g,g=isIface x:=⟨_,rfl⟩
  have y:=fun W l=>aM (A W l) H.symm;rw[←H]at hF;have P6:=fun W l=>hM g p pos 2 a c W h F j hT hu l;have ag:Up p w (w.alloc (.cells #[.int .i64 x.k,.int .i64 x.n,.int .i64 x.m,.bool x.v,.string x.nm,.string x.tg,.slice a x.es.length c] 25)):=(Up.refl hw).alloc _;rw[hF.out];clear hM G h A H j hF;go_enter Tryz.func131,Tryz.ntmps131;go_wp2_with fail
  refine oR (fun W=>(W.cell? ⟨w.heap.size,0,none⟩=some (.int .i64 x.k)∧W.cell? ⟨w.heap.size,1,none⟩=some (.int .i64 x.n)∧W.cell? ⟨w.heap.size,2,none⟩=some (.int .i64 x.m)∧W.cell? ⟨w.heap.size,3,none⟩=some (.bool x.v)∧W.cell? ⟨w.heap.size,4,none⟩=some (.string x.nm)∧W.cell? ⟨w.heap.size,5,none⟩=some (.string x.tg)∧W.cell? ⟨w.heap.size,6,none⟩=some (.slice a x.es.length c))∧Up p w W) [(0,true),(1,true),(2,true),(3,true),(4,false),(5,false),(6,true)] oK (fun d=> ?_);repeat(first|(refine oS ?_;try simp only[Act.put,oa,ob,oc])|(refine oF d ?_;try simp only[Act.put,oa,ob,oc])|(refine oL fun K f=> ?_;go_simp;first|(go_at_call 19;(with_reducible refine(y _ (Up.kw (by first|assumption|exact ag.drew))).mono ?_);rintro B w2 ⟨rfl,aa⟩;(try simp only[]);refine f _ _ oK fun d=> ?_;clear f K;try simp only[Act.put,oa,ob,oc])|(go_at_call 34;obtain⟨⟨O,s1,s2,P,Q,R,S⟩,C⟩:=d;(with_reducible refine(P6 _ C.kw).mono ?_);rintro B V ⟨b,rfl,J,aa⟩;(try simp only[]);refine f _ _ oK fun d=> ?_;clear f K;try simp only[Act.put,oa,ob,oc])))
  refine bM ?_;have I:=d.2.up;clear aa d;go_wp2_with fail
  go_ret;exact⟨_,rfl,J.out,I⟩
theorem uW(p:Pm)(D:Dl)(dc:Nat)(x y:U)(a:Option Addr)(c:Nat)(a':Option Addr)(c':Nat)(w:World)(f:∀W,KW p W→Calls Tryz.prog 136 #[.slice D.a D.len dc,.agg #[.int .i64 x.k,.int .i64 x.n,.int .i64 x.m,.bool x.v,.string x.nm,.string x.tg,.slice a x.es.length c],.agg #[.int .i64 y.k,.int .i64 y.n,.int .i64 y.m,.bool y.v,.string y.nm,.string y.tg,.slice a' y.es.length c']] W (RB (ey x y) W))(hw:KW p w)(g d:Nat)
 (h1:w.cell? ⟨g,0,none⟩=some (.slice D.a D.len dc))(h7:(w.cell? ⟨d,0,none⟩=some (.int .i64 x.k)∧w.cell? ⟨d,1,none⟩=some (.int .i64 x.n)∧w.cell? ⟨d,2,none⟩=some (.int .i64 x.m)∧w.cell? ⟨d,3,none⟩=some (.bool x.v)∧w.cell? ⟨d,4,none⟩=some (.string x.nm)∧w.cell? ⟨d,5,none⟩=some (.string x.tg)∧w.cell? ⟨d,6,none⟩=some (.slice a x.es.length c))):
 Calls Tryz.prog 135 #[.agg #[.int .i64 y.k,.int .i64 y.n,.int .i64 y.m,.bool y.v,.string y.nm,.string y.tg,.slice a' y.es.length c'],.pointer (some ⟨g,0,none⟩),.pointer (some ⟨d,0,none⟩)] w (RB (!ey x y) w):=by
 obtain⟨i,l,o,q,s,t,u⟩:=h7;have b1:=World.block_lt_of_cell? _ _ h1;have j:=World.block_lt_of_cell? _ _ i;simp only at b1 j;have ag:Up p w (w.alloc (.cells #[.int .i64 y.k,.int .i64 y.n,.int .i64 y.m,.bool y.v,.string y.nm,.string y.tg,.slice a' y.es.length c'] 25)):=(Up.refl hw).alloc _;generalize ey x y=r at*;go_enter Tryz.func135,Tryz.ntmps135;go_wp2_with fail
 refine(f _ ag.kw).mono ?_;rintro z A ⟨b,rfl,h,aa⟩;have e:=(ag.step aa).up;have hF:Hid ((!b)= !r):=by unfold Hid;rw[h.out]
 clear h aa f;go_wp2_with fail
 go_ret;exact⟨_,rfl,hF,e⟩
def en(T:List U)(x:U):Bool:=mt T .term x false&& !(aW x&&(decide (0<(an x).length)||eu x))
theorem uX{T:List U}{u:U}{g:Bool}(h:u.k=12):mt T .elem u g=(u.es.all (en T)&&decide (u.es.Pairwise fun y x=>ey x y=true)&&g):=lM h
theorem D2{T:List U}{u:U}{g:Bool}(h:u.k=12){k:Nat}(hk:k<u.es.length)(a:en T u.es[k]=false∨((u.es.take k).any fun y=> !ey u.es[k] y)=true):mt T .elem u g=false:=by
 rw[uX h];rcases a with a|a
 ·rw[show u.es.all (en T)=false by rw[List.all_eq_false];exact⟨_,List.getElem_mem hk,by rw[a];simp⟩];rfl
 ·rw[decide_eq_false ?_]
  ·simp
  ·intro c
   obtain⟨y,d,b⟩:=List.any_eq_true.1 a;have:=c.sublist (List.take_sublist (k+1) _);rw[List.take_succ_eq_append_getElem hk,List.pairwise_append]at this;have h3:=this.2.2 y d u.es[k] (by simp);rw[h3]at b;cases b
theorem D3{D:Dl}{T:List U}{NS:List (List UInt8)}{i:Nat}(E:Env D T NS i)(p:Pm)(dc:Nat){e:U}(h:b9 D T NS i e 2 2)(hM:g_ D dc T NS i e)(Qe:∀x∈e.es,g_ D dc T NS i x∧∀y∈x.es,g_ D dc T NS i y)
 (hT:dV p D T)(g:Bool)(a:Option Addr)(c:Nat)(w:World)(hu:aj p D e a c)(hw:KW p w):
 Calls Tryz.prog 99 #[.slice D.a D.len dc,.agg #[.int .i64 e.k,.int .i64 e.n,.int .i64 e.m,.bool e.v,.string e.nm,.string e.tg,.slice a e.es.length c],.bool g] w (RB (mt T .elem e g) w):=by
 obtain⟨r,hr⟩:∃r,r=mt T .elem e g:=⟨_,rfl⟩
 rw[←hr];have ag:Up p w ((w.alloc (.cells #[.slice D.a D.len dc] 22)).alloc (.cells #[.int .i64 e.k,.int .i64 e.n,.int .i64 e.m,.bool e.v,.string e.nm,.string e.tg,.slice a e.es.length c] 25)):=((Up.refl hw).alloc _).alloc _;by_cases I:e.k=12
 ·have t12:(e.k !=12)=false:=by simp[I]
  have QK:=hu.cap;have QL:(e.es.length:Int)≤1048576:=by omega
  have Ql:=Lib.hid fun(k:Nat) (hk:k<e.es.length) hb=>hr.trans (D2 (T:=T) (g:=g) I hk hb);have Qq:Hid ((∀y∈e.es,en T y=true)→(e.es.Pairwise fun y x=>ey x y=true)→r=g):=fun h1 h2=>by
   rw[hr,uX I,decide_eq_true h2,show e.es.all (en T)=true from List.all_eq_true.2 h1];simp
  have hX:=Lib.hid fun x (hx:x∈e.es)=>(⟨h.union I hx,Qe x hx⟩:(∃f',b9 D T NS i x 1 f'∧(2=2→f'=2))∧g_ D dc T NS i x∧∀y∈x.es,g_ D dc T NS i y)
  have P9:Hid (∀x∈e.es,x.k≠12):=fun x hx hk=>by
   obtain⟨f',hm,_⟩:=h.union I hx;have hf:=hm.pl.form;cases hf<;>first|omega|(rename_i hp _ _;omega)
  have eg:=Lib.hid (show ∀args w,(callFunc 135 args).run Tryz.prog w= .ok (.enter 135 args) w from dm Tryz.func135 (by kernel_rfl) rfl);have QN:∀(fn:Fn)(first cap:Array Value)(w:World),(Instr.makeFunc fn first cap).run Tryz.prog w= .ok (.func fn first cap) w:=fun _ _ _ _=>rfl;clear hr h hM Qe I;go_enter Tryz.func99,Tryz.ntmps99;go_wp2_with fail
  go_loopw [32] (fun i wr=> ∃k:Nat,k≤e.es.length∧i= .int .i64 k∧(∀y∈e.es.take k,en T y=true)∧((e.es.take k).Pairwise fun y x=>ey x y=true)∧wr.cell? ⟨w.heap.size,0,none⟩=some (.slice D.a D.len dc)∧wr.cell? ⟨w.heap.size+1,6,none⟩=some (.slice a e.es.length c)∧Up p w wr) (fun i _=>e.es.length- (intOf i).toNat)
  case atStart=>exact⟨0,Nat.zero_le _,rfl,(fun y hy=>by simp at hy),(by simp),by simp[go_sem],by simp[go_sem],ag⟩
  case round=>
   clear ag;obtain⟨k,hk,rfl,Qm,Qx,c0,c6,hU⟩:=hrel;have b0:=World.block_lt_of_cell? _ _ c0;have b6:=World.block_lt_of_cell? _ _ c6;simp only at b0 b6;have Z:=Lib.hid Qm;have Qn:=Lib.hid Qx;clear Qm Qx;by_cases P_:k<e.es.length
   ·have QM:(k:Int)<e.es.length:=by omega
    obtain⟨b,o,rfl⟩:=hu.list.bC (by omega);obtain⟨a5,c5,h7,Q⟩:=hu.list.get k P_;have Qr:=List.getElem_mem P_;obtain⟨⟨f',F,QG⟩,Qf,P5⟩:=hX.out _ Qr;obtain rfl:=QG (by simp);have J:=P9.out _ Qr;have u:=Lib.hid fun hb=>Ql.out k P_ (.inl hb);have l:=Lib.hid fun hb=>Ql.out k P_ (.inr hb);have q:Hid (en T e.es[k]=true→((e.es.take k).any fun y=> !ey e.es[k] y)=false→(∀y∈e.es.take (k+1),en T y=true)∧((e.es.take (k+1)).Pairwise fun y x=>ey x y=true)):=fun h1 h2=>by
     rw[List.take_succ_eq_append_getElem P_];refine⟨fun y hy=> ?_,?_⟩
     ·rcases List.mem_append.1 hy with hy|hy
      ·exact Z.out y hy
      ·simp at hy;subst hy;exact h1
     ·rw[List.pairwise_append]
      refine⟨Qn.out,List.pairwise_singleton _ _,fun y hy z hz=> ?_⟩;simp at hz;subst hz;have:=List.any_eq_false.1 h2 y hy;simpa using this
    have Qy:Hid (∀j(hj:j<(e.es.take k).length) x,x=e.es[k]→mt T .term x false=true→∀a' c' a5 c5 W,aj p D (e.es.take k)[j] a' c'→aj p D x a5 c5→KW p W→Calls Tryz.prog 136 #[.slice D.a D.len dc,.agg #[.int .i64 x.k,.int .i64 x.n,.int .i64 x.m,.bool x.v,.string x.nm,.string x.tg,.slice a5 x.es.length c5],.agg #[.int .i64 ((e.es.take k)[j]).k,.int .i64 ((e.es.take k)[j]).n,.int .i64 ((e.es.take k)[j]).m,.bool ((e.es.take k)[j]).v,.string ((e.es.take k)[j]).nm,.string ((e.es.take k)[j]).tg,.slice a' ((e.es.take k)[j]).es.length c']] W (RB (ey x (e.es.take k)[j]) W)):=by
     intro j hj x hx f a' c' a5 c5 W Qa Q s;have Qz:=List.getElem_mem hj;have Qs:=List.mem_of_mem_take Qz;have hyp:=Z.out _ Qz;unfold en at hyp;simp only[Bool.and_eq_true]at hyp;obtain⟨⟨QO,Qt,QA⟩,_⟩:=hX.out _ Qs;obtain rfl:=QA (by simp);subst hx;exact xz p D dc NS E.cJ _ _ 1 1 a5 c5 a' c' W F.pl Qt.pl J (P9.out _ Qs) F.aC Qt.aC (fun hi=>rM E F J f hi) (fun hi=>rM E Qt (P9.out _ Qs) hyp.1 hi) Q Qa s
    obtain⟨x,hx⟩:∃x,x=e.es[k]:=⟨_,rfl⟩
    rw[←hx]at h7 Q F Qf P5 J u l q;have Qb:=Lib.hid fun j hj f a' c' W Qa s=>Qy.out j hj x hx f a' c' a5 c5 W Qa Q s;clear hx Qy Qr;obtain⟨g0,g1,g2,g3,g4,g5,g6⟩:(wr.cell? ⟨b,o+k*7,none⟩=some (.int .i64 x.k)∧wr.cell? ⟨b,o+k*7+1,none⟩=some (.int .i64 x.n)∧wr.cell? ⟨b,o+k*7+2,none⟩=some (.int .i64 x.m)∧wr.cell? ⟨b,o+k*7+3,none⟩=some (.bool x.v)∧wr.cell? ⟨b,o+k*7+4,none⟩=some (.string x.nm)∧wr.cell? ⟨b,o+k*7+5,none⟩=some (.string x.tg)∧wr.cell? ⟨b,o+k*7+6,none⟩=some (.slice a5 x.es.length c5)):=h7.world hU.kw;clear h7;have B:=hU.alloc (.cells #[.int .i64 x.k,.int .i64 x.n,.int .i64 x.m,.bool x.v,.string x.nm,.string x.tg,.slice a5 x.es.length c5] 25);have K:=fun W s=>uV E p dc F J Qf P5 hT a5 c5 W Q s;cases f:mt T .term x false
    ·have d:=fun W s=>aM (K W s) f
     have hF:Hid (false=r):=(u.out (by unfold en;rw[f];rfl)).symm;clear K f Qf P5 q u l Qb F;go_wp2_with fail
     refine(d _ B.kw).mono ?_;rintro Y t ⟨rfl,aa⟩;have N:=Lib.hid (B.step aa).up;clear aa d;go_wp2_with fail
     go_ret;exact⟨_,rfl,hF.out,N.out⟩
    have d:=fun W s=>aM (K W s) f;have hE:=fun W s=>l9 p D dc x 1 2 a5 c5 W F.pl (by omega) (by omega) Q s;have Qg:=Lib.hid fun W (s:KW p W) lb H=>fL k p D (e.es.take k) (by simp;omega) (some ⟨b,o,none⟩) c 135 lb (fun y=> !ey x y) W s (hu.list.take k) (by simp;omega) eg.out H;have Qo:=Lib.hid fun j hj a' c' W Qa s=>Qb.out j hj f a' c' W Qa s;clear Qb;have P6:=Lib.hid f;clear K f Qf P5;cases he:aW x
    ·have L:=fun W s=>aM (hE W s) he
     have P3:Hid (en T x=true):=by unfold Hid en;rw[P6.out,he];rfl
     clear hE he u F P6;go_wp2_with fail
     refine(d _ B.kw).mono ?_;rintro Y t ⟨rfl,aa⟩;have M:=B.step aa;obtain⟨x0,x1,x2,x3,x4,x5,x6⟩:(t.cell? ⟨wr.heap.size,0,none⟩=some (.int .i64 x.k)∧t.cell? ⟨wr.heap.size,1,none⟩=some (.int .i64 x.n)∧t.cell? ⟨wr.heap.size,2,none⟩=some (.int .i64 x.m)∧t.cell? ⟨wr.heap.size,3,none⟩=some (.bool x.v)∧t.cell? ⟨wr.heap.size,4,none⟩=some (.string x.nm)∧t.cell? ⟨wr.heap.size,5,none⟩=some (.string x.tg)∧t.cell? ⟨wr.heap.size,6,none⟩=some (.slice a5 x.es.length c5)):=by
      repeat' apply And.intro
      all_goals exact TS.cell_kept aa (by first|(simp[go_sem];done)|(go_keep;done))
     have d0:t.cell? ⟨w.heap.size,0,none⟩=some (.slice D.a D.len dc):=TS.cell_kept aa (by rw[World.cell?_alloc_lt _ _ _ b0];exact c0);have d6:t.cell? ⟨w.heap.size+1,6,none⟩=some (.slice (some ⟨b,o,none⟩) e.es.length c):=TS.cell_kept aa (by rw[World.cell?_alloc_lt _ _ _ b6];exact c6);clear aa d B c0 c6;go_wp2_with fail
     refine(L _ M.kw).mono ?_;rintro Y G ⟨rfl,A⟩;have R:=M.step A;obtain⟨y0,y1,y2,y3,y4,y5,y6⟩:(G.cell? ⟨wr.heap.size,0,none⟩=some (.int .i64 x.k)∧G.cell? ⟨wr.heap.size,1,none⟩=some (.int .i64 x.n)∧G.cell? ⟨wr.heap.size,2,none⟩=some (.int .i64 x.m)∧G.cell? ⟨wr.heap.size,3,none⟩=some (.bool x.v)∧G.cell? ⟨wr.heap.size,4,none⟩=some (.string x.nm)∧G.cell? ⟨wr.heap.size,5,none⟩=some (.string x.tg)∧G.cell? ⟨wr.heap.size,6,none⟩=some (.slice a5 x.es.length c5)):=by
      repeat' apply And.intro
      all_goals exact TS.cell_kept A (by assumption)
     have e0:=TS.cell_kept A d0;have e6:=TS.cell_kept A d6;clear A L M d0 d6 x0 x1 x2 x3 x4 x5 x6;go_wp2_with fail
     refine(Qg.out _ R.kw _ ?_).mono ?_
     ·intro j hj S a' c' P4 Qu
      have Qv:(S.cell? ⟨wr.heap.size,0,none⟩=some (.int .i64 x.k)∧S.cell? ⟨wr.heap.size,1,none⟩=some (.int .i64 x.n)∧S.cell? ⟨wr.heap.size,2,none⟩=some (.int .i64 x.m)∧S.cell? ⟨wr.heap.size,3,none⟩=some (.bool x.v)∧S.cell? ⟨wr.heap.size,4,none⟩=some (.string x.nm)∧S.cell? ⟨wr.heap.size,5,none⟩=some (.string x.tg)∧S.cell? ⟨wr.heap.size,6,none⟩=some (.slice a5 x.es.length c5)):=by
       repeat' apply And.intro
       all_goals exact TS.cell_kept P4 (by assumption)
      exact uW p D dc x _ a5 c5 a' c' S (fun Qw Qc=>Qo.out j hj a' c' Qw Qu Qc) (R.kw.grown P4) w.heap.size wr.heap.size (TS.cell_kept P4 e0) Qv
     rintro Y w3 ⟨bb,rfl,O,C⟩;have P:=Lib.hid (R.step C);have f0:=TS.cell_kept C e0;have f6:=TS.cell_kept C e6;clear C Qg R e0 e6 y0 y1 y2 y3 y4 y5 y6;cases bb
     ·have hN:=Lib.hid (q.out P3.out O.out.symm)
      clear O q l P3;go_wp2_with fail
      go_roundw
      case rel=>exact⟨k+1,by omega,by go_num,hN.out.1,hN.out.2,f0,f6,P.out⟩
      case measure=>simp[intOf];omega
     ·have hF:Hid (false=r):=(l.out O.out.symm).symm
      have N:=Lib.hid P.out.up;clear O q l P3;go_wp2_with fail
      go_ret;exact⟨_,rfl,hF.out,N.out⟩
    ·have L:=fun W s=>aM (hE W s) he
     obtain⟨_,Qd,QB⟩:=jS.1 he;have QC:=fun W (s:KW p W)=>kH D dc NS E.cJ x p 1 2 a5 c5 W F.pl (by omega) (by omega) J Qd F.aC Q s;have Qh:=fun W s=>w_ D dc x p 1 2 a5 c5 W F.pl (by omega) (by omega) J Qd QB Q s;have Qi:Hid (en T x= !(decide (0<(an x).length)||eu x)):=by unfold Hid en;rw[P6.out,he];simp
     generalize an x=lx at*;generalize eu x=sx at*;clear hE he F P6 J Qd QB;go_wp2_with fail
     refine(d _ B.kw).mono ?_;rintro Y t ⟨rfl,aa⟩;have M:=B.step aa;obtain⟨x0,x1,x2,x3,x4,x5,x6⟩:(t.cell? ⟨wr.heap.size,0,none⟩=some (.int .i64 x.k)∧t.cell? ⟨wr.heap.size,1,none⟩=some (.int .i64 x.n)∧t.cell? ⟨wr.heap.size,2,none⟩=some (.int .i64 x.m)∧t.cell? ⟨wr.heap.size,3,none⟩=some (.bool x.v)∧t.cell? ⟨wr.heap.size,4,none⟩=some (.string x.nm)∧t.cell? ⟨wr.heap.size,5,none⟩=some (.string x.tg)∧t.cell? ⟨wr.heap.size,6,none⟩=some (.slice a5 x.es.length c5)):=by
      repeat' apply And.intro
      all_goals exact TS.cell_kept aa (by first|(simp[go_sem];done)|(go_keep;done))
     have d0:t.cell? ⟨w.heap.size,0,none⟩=some (.slice D.a D.len dc):=TS.cell_kept aa (by rw[World.cell?_alloc_lt _ _ _ b0];exact c0);have d6:t.cell? ⟨w.heap.size+1,6,none⟩=some (.slice (some ⟨b,o,none⟩) e.es.length c):=TS.cell_kept aa (by rw[World.cell?_alloc_lt _ _ _ b6];exact c6);clear aa d B c0 c6;go_wp2_with fail
     refine(L _ M.kw).mono ?_;rintro Y G ⟨rfl,A⟩;have R:=M.step A;obtain⟨y0,y1,y2,y3,y4,y5,y6⟩:(G.cell? ⟨wr.heap.size,0,none⟩=some (.int .i64 x.k)∧G.cell? ⟨wr.heap.size,1,none⟩=some (.int .i64 x.n)∧G.cell? ⟨wr.heap.size,2,none⟩=some (.int .i64 x.m)∧G.cell? ⟨wr.heap.size,3,none⟩=some (.bool x.v)∧G.cell? ⟨wr.heap.size,4,none⟩=some (.string x.nm)∧G.cell? ⟨wr.heap.size,5,none⟩=some (.string x.tg)∧G.cell? ⟨wr.heap.size,6,none⟩=some (.slice a5 x.es.length c5)):=by
      repeat' apply And.intro
      all_goals exact TS.cell_kept A (by assumption)
     have e0:=TS.cell_kept A d0;have e6:=TS.cell_kept A d6;clear A L M d0 d6 x0 x1 x2 x3 x4 x5 x6;go_wp2_with fail
     refine(QC _ R.kw).mono ?_;rintro Y w3 ⟨q3,a3,n3,c3,rfl,QD,QP,QQ,QH,C⟩;have P:=R.step C;obtain⟨z0,z1,z2,z3,z4,z5,z6⟩:(w3.cell? ⟨wr.heap.size,0,none⟩=some (.int .i64 x.k)∧w3.cell? ⟨wr.heap.size,1,none⟩=some (.int .i64 x.n)∧w3.cell? ⟨wr.heap.size,2,none⟩=some (.int .i64 x.m)∧w3.cell? ⟨wr.heap.size,3,none⟩=some (.bool x.v)∧w3.cell? ⟨wr.heap.size,4,none⟩=some (.string x.nm)∧w3.cell? ⟨wr.heap.size,5,none⟩=some (.string x.tg)∧w3.cell? ⟨wr.heap.size,6,none⟩=some (.slice a5 x.es.length c5)):=by
      repeat' apply And.intro
      all_goals exact TS.cell_kept C (by assumption)
     have f0:=TS.cell_kept C e0;have f6:=TS.cell_kept C e6;have Qp:=QD.out;clear C QC R e0 e6 y0 y1 y2 y3 y4 y5 y6 QD QH;by_cases P7:0<lx.length
     ·have tp:(0:Int)<n3:=by omega
      have tq:0<n3:=by omega
      have hF:Hid (false=r):=(u.out (by rw[Qi.out,decide_eq_true P7];rfl)).symm;have N:=Lib.hid P.up;clear Qi u l q P7 Qp;go_wp2_with fail
      go_ret;exact⟨_,rfl,hF.out,N.out⟩
     have QI:n3=0:=by omega
     subst QI;have P8:Hid (en T x= !sx):=by unfold Hid;rw[Qi.out,decide_eq_false P7];rfl
     clear Qi P7 Qp;cases sx
     case true=>
      have V:=fun W s=>aM (Qh W s) rfl;have hF:Hid (false=r):=(u.out P8.out).symm;clear Qh P8 u l q;go_wp2_with fail
      refine(V _ P.kw).mono ?_;rintro Y w4 ⟨rfl,X⟩;have N:=Lib.hid (P.step X).up;clear X V;go_wp2_with fail
      go_ret;exact⟨_,rfl,hF.out,N.out⟩
     have V:=fun W s=>aM (Qh W s) rfl;have P3:Hid (en T x=true):=P8.out;clear Qh P8 u;go_wp2_with fail
     refine(V _ P.kw).mono ?_;rintro Y w4 ⟨rfl,X⟩;have Qj:=P.step X;obtain⟨y0,y1,y2,y3,y4,y5,y6⟩:(w4.cell? ⟨wr.heap.size,0,none⟩=some (.int .i64 x.k)∧w4.cell? ⟨wr.heap.size,1,none⟩=some (.int .i64 x.n)∧w4.cell? ⟨wr.heap.size,2,none⟩=some (.int .i64 x.m)∧w4.cell? ⟨wr.heap.size,3,none⟩=some (.bool x.v)∧w4.cell? ⟨wr.heap.size,4,none⟩=some (.string x.nm)∧w4.cell? ⟨wr.heap.size,5,none⟩=some (.string x.tg)∧w4.cell? ⟨wr.heap.size,6,none⟩=some (.slice a5 x.es.length c5)):=by
      repeat' apply And.intro
      all_goals exact TS.cell_kept X (by assumption)
     have e0:=TS.cell_kept X f0;have e6:=TS.cell_kept X f6;clear X V P f0 f6 z0 z1 z2 z3 z4 z5 z6;go_wp2_with fail
     refine(Qg.out _ Qj.kw _ ?_).mono ?_
     ·intro j hj S a' c' P4 Qu
      have Qv:(S.cell? ⟨wr.heap.size,0,none⟩=some (.int .i64 x.k)∧S.cell? ⟨wr.heap.size,1,none⟩=some (.int .i64 x.n)∧S.cell? ⟨wr.heap.size,2,none⟩=some (.int .i64 x.m)∧S.cell? ⟨wr.heap.size,3,none⟩=some (.bool x.v)∧S.cell? ⟨wr.heap.size,4,none⟩=some (.string x.nm)∧S.cell? ⟨wr.heap.size,5,none⟩=some (.string x.tg)∧S.cell? ⟨wr.heap.size,6,none⟩=some (.slice a5 x.es.length c5)):=by
       repeat' apply And.intro
       all_goals exact TS.cell_kept P4 (by assumption)
      exact uW p D dc x _ a5 c5 a' c' S (fun Qw Qc=>Qo.out j hj a' c' Qw Qu Qc) (Qj.kw.grown P4) w.heap.size wr.heap.size (TS.cell_kept P4 e0) Qv
     rintro Y w5 ⟨bb,rfl,O,Qk⟩;have QE:=Lib.hid (Qj.step Qk);have f0:=TS.cell_kept Qk e0;have f6:=TS.cell_kept Qk e6;clear Qk Qg Qj e0 e6 y0 y1 y2 y3 y4 y5 y6;cases bb
     ·have hN:=Lib.hid (q.out P3.out O.out.symm)
      clear O q l P3;go_wp2_with fail
      go_roundw
      case rel=>exact⟨k+1,by omega,by go_num,hN.out.1,hN.out.2,f0,f6,QE.out⟩
      case measure=>simp[intOf];omega
     ·have hF:Hid (false=r):=(l.out O.out.symm).symm
      have N:=Lib.hid QE.out.up;clear O q l P3;go_wp2_with fail
      go_ret;exact⟨_,rfl,hF.out,N.out⟩
   ·have hF:Hid (g=r):=by
     refine(Qq.out (fun y hy=>Z.out y ?_) ?_).symm
     ·rw[List.take_of_length_le (by omega)];exact hy
     ·have:=Qn.out;rwa [List.take_of_length_le (by omega)]at this
    have N:=hU.up;go_wp2_with fail
    go_ret;exact⟨_,rfl,hF.out,N⟩
 ·have t12:(e.k !=12)=true:=by simp[I]
  have hR:Hid (r=(mt T .term e false&&(g||aW e&& !aU e))):=by unfold Hid;rw[hr];exact iZ I
  have K:=fun W s=>uV E p dc h I hM (fun x hx=>(Qe x hx).1) hT a c W hu s;have hE:=fun W s=>l9 p D dc e 2 2 a c W h.pl (by omega) (by omega) hu s;have hG:=fun(hk:e.k≠13) W s=>jR D dc e p 2 2 a c W h.pl (by omega) (by omega) I hk hu s;clear hr hM Qe h I;cases f:mt T .term e false
  ·have d:=fun W s=>aM (K W s) f
   have hF:Hid (false=r):=by unfold Hid;rw[hR.out,f];rfl
   clear K f hE hG;go_enter Tryz.func99,Tryz.ntmps99;go_wp2_with fail
   refine(d _ ag.kw).mono ?_;rintro Y t ⟨rfl,aa⟩;have N:=Lib.hid (ag.step aa).up;clear aa d;go_wp2_with fail
   go_ret;exact⟨_,rfl,hF.out,N.out⟩
  have d:=fun W s=>aM (K W s) f;cases g
  case true=>
   have hF:Hid (true=r):=by unfold Hid;rw[hR.out,f];rfl
   clear K f hE hG;go_enter Tryz.func99,Tryz.ntmps99;go_wp2_with fail
   refine(d _ ag.kw).mono ?_;rintro Y t ⟨rfl,aa⟩;have N:=Lib.hid (ag.step aa).up;clear aa d;go_wp2_with fail
   go_ret;exact⟨_,rfl,hF.out,N.out⟩
  cases he:aW e
  ·have L:=fun W s=>aM (hE W s) he
   have hF:Hid (false=r):=by unfold Hid;rw[hR.out,f,he];rfl
   clear K f hE hG he;go_enter Tryz.func99,Tryz.ntmps99;go_wp2_with fail
   refine(d _ ag.kw).mono ?_;rintro Y t ⟨rfl,aa⟩;have B:=ag.step aa;have d0:t.cell? ⟨w.heap.size,0,none⟩=some (.slice D.a D.len dc):=TS.cell_kept aa (by simp[go_sem]);obtain⟨x0,x1,x2,x3,x4,x5,x6⟩:(t.cell? ⟨w.heap.size+1,0,none⟩=some (.int .i64 e.k)∧t.cell? ⟨w.heap.size+1,1,none⟩=some (.int .i64 e.n)∧t.cell? ⟨w.heap.size+1,2,none⟩=some (.int .i64 e.m)∧t.cell? ⟨w.heap.size+1,3,none⟩=some (.bool e.v)∧t.cell? ⟨w.heap.size+1,4,none⟩=some (.string e.nm)∧t.cell? ⟨w.heap.size+1,5,none⟩=some (.string e.tg)∧t.cell? ⟨w.heap.size+1,6,none⟩=some (.slice a e.es.length c)):=by
    repeat' apply And.intro
    all_goals exact TS.cell_kept aa (by first|(simp[go_sem];done)|(go_keep;done))
   clear aa d;go_wp2_with fail
   refine(L _ B.kw).mono ?_;rintro Y G ⟨rfl,A⟩;have N:=Lib.hid (B.step A).up;clear A L;go_wp2_with fail
   go_ret;exact⟨_,rfl,hF.out,N.out⟩
  ·have L:=fun W s=>aM (hE W s) he
   have QF:=hG (jS.1 he).2.1;have hF:Hid ((!aU e)=r):=by unfold Hid;rw[hR.out,f,he];rfl
   generalize aU e=ge at*;clear K f hE hG he;go_enter Tryz.func99,Tryz.ntmps99;go_wp2_with fail
   refine(d _ ag.kw).mono ?_;rintro Y t ⟨rfl,aa⟩;have B:=ag.step aa;have d0:t.cell? ⟨w.heap.size,0,none⟩=some (.slice D.a D.len dc):=TS.cell_kept aa (by simp[go_sem]);obtain⟨x0,x1,x2,x3,x4,x5,x6⟩:(t.cell? ⟨w.heap.size+1,0,none⟩=some (.int .i64 e.k)∧t.cell? ⟨w.heap.size+1,1,none⟩=some (.int .i64 e.n)∧t.cell? ⟨w.heap.size+1,2,none⟩=some (.int .i64 e.m)∧t.cell? ⟨w.heap.size+1,3,none⟩=some (.bool e.v)∧t.cell? ⟨w.heap.size+1,4,none⟩=some (.string e.nm)∧t.cell? ⟨w.heap.size+1,5,none⟩=some (.string e.tg)∧t.cell? ⟨w.heap.size+1,6,none⟩=some (.slice a e.es.length c)):=by
    repeat' apply And.intro
    all_goals exact TS.cell_kept aa (by first|(simp[go_sem];done)|(go_keep;done))
   clear aa d;go_wp2_with fail
   refine(L _ B.kw).mono ?_;rintro Y G ⟨rfl,A⟩;have M:=B.step A;have e0:=TS.cell_kept A d0;obtain⟨y0,y1,y2,y3,y4,y5,y6⟩:(G.cell? ⟨w.heap.size+1,0,none⟩=some (.int .i64 e.k)∧G.cell? ⟨w.heap.size+1,1,none⟩=some (.int .i64 e.n)∧G.cell? ⟨w.heap.size+1,2,none⟩=some (.int .i64 e.m)∧G.cell? ⟨w.heap.size+1,3,none⟩=some (.bool e.v)∧G.cell? ⟨w.heap.size+1,4,none⟩=some (.string e.nm)∧G.cell? ⟨w.heap.size+1,5,none⟩=some (.string e.tg)∧G.cell? ⟨w.heap.size+1,6,none⟩=some (.slice a e.es.length c)):=by
    repeat' apply And.intro
    all_goals exact TS.cell_kept A (by assumption)
   clear A L B d0 x0 x1 x2 x3 x4 x5 x6;go_wp2_with fail
   refine(QF _ M.kw).mono ?_;rintro Y w3 ⟨b,rfl,hb,C⟩;have N:=Lib.hid (M.step C).up;have QJ:Hid ((!b)=r):=by unfold Hid;rw[hb.out];exact hF.out
   clear hb C QF;go_wp2_with fail
   go_ret;exact⟨_,rfl,QJ.out,N.out⟩
end Go.Proofs.YtkfaiocajcjomaaGreatDoor
namespace TS
theorem uY{D:Dl}{T:List U}{NS:List (List UInt8)}{i:Nat}(E:Env D T NS i){t:U}{pos f:Nat}{g:Bool}(h:b9 D T NS i t pos f)(c:t.k=10)
 (o:∀e∈t.es.drop t.m.toNat,mt T .elem e g=true)(hM:∀m∈t.es.take t.m.toNat,mt T .type m false=true):
 (∀m∈an t,aP m)∧∀e∈t.es.drop t.m.toNat,aW e=true→∀m∈an e,aP m:=by
 have hu:under t=t:=cr (by omega) (by omega) (by omega) (by omega);have d:∀e∈t.es.drop t.m.toNat,aW e=true→∀m∈an e,aP m:=fun e he a=>by
  unfold aW at a;simp only[Bool.and_eq_true,bne_iff_ne,ne_eq]at a;have b:=o e he;rw[iZ a.1.1]at b;simp only[Bool.and_eq_true]at b;have j:=b.1;rw[gR a.1.2]at j;have hk:=h.elem c he;exact(jP E.ok E.bE E.mt e 2 2 _ i (Nat.le_refl _) hk.bE hk.pl (by omega) a.1.1 a.1.2 j).1
 refine⟨fun m hm=> ?_,d⟩;rcases(gQ hm).2 with hm|⟨e,he,a,hm⟩
 ·rw[hu]at hm
  obtain⟨n,hk⟩:=h.iv c hm;have l:=hk.pl.form.aB;exact(jP E.ok E.bE E.mt m 0 n false i (Nat.le_refl _) hk.bE hk.pl hk.f2 l.1 l.2 (hM m hm)).2 (kz m 0 n hk.bE hk.pl hk.f2 l.1 l.2 (hM m hm))
 ·rw[hu]at he
  exact d e he a m hm
end TS
namespace Go.Proofs.YtkfaiocajcjomaaGreatDoor
open Go.RowKit TS
theorem D4{D:Dl}{T:List U}{NS:List (List UInt8)}{i:Nat}(E:Env D T NS i)(p:Pm)(dc:Nat){t:U}{pos f:Nat}(h:b9 D T NS i t pos f)(I:t.k=10)(hM:∀x,x.sz<t.sz→g_ D dc T NS i x)
 (hT:dV p D T)(g:Bool)(a:Option Addr)(c:Nat)(w:World)(hu:aj p D t a c)(hw:KW p w):
 Calls Tryz.prog 63 #[.slice D.a D.len dc,.agg #[.int .i64 t.k,.int .i64 t.n,.int .i64 t.m,.bool t.v,.string t.nm,.string t.tg,.slice a t.es.length c],.bool g] w (RB (mt T .type t g) w):=by
 obtain⟨r,hr⟩:∃r,r=mt T .type t g:=⟨_,rfl⟩
 rw[←hr];have hR:Hid (r=(((t.es.drop t.m.toNat).all fun e=>mt T .elem e g)&&(((t.es.take t.m.toNat).all fun e=>mt T .type e false)&&fW t&&decide (cj t≤50)))):=by unfold Hid;rw[hr];exact i_ I
 clear hr;obtain⟨QA,Qq,h4⟩:=h.pl.form.jh I;have ag:Up p w (w.alloc (.cells #[.int .i64 t.k,.int .i64 t.n,.int .i64 t.m,.bool t.v,.string t.nm,.string t.tg,.slice a t.es.length c] 25)):=(Up.refl hw).alloc _;have Z:=hu.cap
 have Qg:=Lib.hid fun e (he:e∈t.es.drop t.m.toNat) W (z:KW p W) a' c' (S:aj p D e a' c')=>D3 E p dc (h.elem I he) (hM e (U.az (List.mem_of_mem_drop he)))
  (fun x hx=>⟨hM x (by have:=U.az hx;have:=U.az (List.mem_of_mem_drop he);omega),fun y hy=>hM y (by have:=U.az hy;have:=U.az hx;have:=U.az (List.mem_of_mem_drop he);omega)⟩) hT g a' c' W S z
 have Qh:=Lib.hid fun e (he:e∈t.es.take t.m.toNat) a c W (S:aj p D e a c) (z:KW p W)=>show Calls Tryz.prog 34 #[.slice D.a D.len dc,.agg #[.int .i64 e.k,.int .i64 e.n,.int .i64 e.m,.bool e.v,.string e.nm,.string e.tg,.slice a e.es.length c],.bool false] W (RB (mt T .type e false) W)from
  let⟨f',hk⟩:=h.iv I he;hM e (U.az (List.mem_of_mem_take he)) false p 0 f' a c W hk hk.pl.form.aB.1 hk.pl.form.aB.2 hT S z
 have A:=fun W z n hn=>pQ p D dc T (t.es.take t.m.toNat) a n c W hn Qh.out (hu.list.take _) (by simp;omega) z;obtain⟨f1,Qi,Qa,Qj⟩:=h.pl.iw h.f2 I;have M:=fun W z=>xE D dc t p 0 f1 a c W Qj Qi Qa (by omega) (by omega) h.dep hu z;have Qr:=Lib.hid fun(Qk:∀e∈t.es.drop t.m.toNat,mt T .elem e g=true) (Qd:∀m∈t.es.take t.m.toNat,mt T .type m false=true) W (z:KW p W)=>
  DX p D dc NS E.cJ t pos f a c W h.pl h.f2 I h.aC (uY E h I Qk Qd).1 (uY E h I Qk Qd).2 hu z
 have QB:max t.m 0=t.m:=by omega
 have Qu:t.m≤t.es.length:=by omega
 have Qv:¬t.m<0:=by omega
 have QC:=Z.1;have QD:=Z.2;have QE:t.m.toNat≤c:=by omega
 have Qw:t.m≤c:=by omega
 have Ql:t.m.toNat<c∨c=t.m.toNat:=by omega
 have Qx:((t.es.drop t.m.toNat).length:Int)≤4:=by simp;omega
 have R:=Lib.hid ag;clear hM h Qj Qi Qa Qh Z ag hT;have fin:∀(N:World),Up p w N→(N.cell? ⟨w.heap.size,0,none⟩=some (.int .i64 t.k)∧N.cell? ⟨w.heap.size,1,none⟩=some (.int .i64 t.n)∧N.cell? ⟨w.heap.size,2,none⟩=some (.int .i64 t.m)∧N.cell? ⟨w.heap.size,3,none⟩=some (.bool t.v)∧N.cell? ⟨w.heap.size,4,none⟩=some (.string t.nm)∧N.cell? ⟨w.heap.size,5,none⟩=some (.string t.tg)∧N.cell? ⟨w.heap.size,6,none⟩=some (.slice a t.es.length c))→(∀e∈t.es.drop t.m.toNat,mt T .elem e g=true)→Hid (Up p w N∧(N.cell? ⟨w.heap.size,0,none⟩=some (.int .i64 t.k)∧N.cell? ⟨w.heap.size,1,none⟩=some (.int .i64 t.n)∧N.cell? ⟨w.heap.size,2,none⟩=some (.int .i64 t.m)∧N.cell? ⟨w.heap.size,3,none⟩=some (.bool t.v)∧N.cell? ⟨w.heap.size,4,none⟩=some (.string t.nm)∧N.cell? ⟨w.heap.size,5,none⟩=some (.string t.tg)∧N.cell? ⟨w.heap.size,6,none⟩=some (.slice a t.es.length c))∧r=(((t.es.take t.m.toNat).all fun e=>mt T .type e false)&&fW t&&decide (cj t≤50))∧∀(Qd:∀m∈t.es.take t.m.toNat,mt T .type m false=true) W(z:KW p W),Calls Tryz.prog 100 #[.slice D.a D.len dc,.agg #[.int .i64 t.k,.int .i64 t.n,.int .i64 t.m,.bool t.v,.string t.nm,.string t.tg,.slice a t.es.length c]] W (RB (fW t) W)):=fun N h1 h2 h3=>
  ⟨h1,h2,by rw[hR.out,show((t.es.drop t.m.toNat).all fun e=>mt T .elem e g)=true from List.all_eq_true.2 h3,Bool.true_and],Qr.out h3⟩
 have Qm:=hR;clear hR I;rcases Ql with Ql|rfl
 ·go_enter Tryz.func63,Tryz.ntmps63
  go_wp2_with fail
  have hL:=hu.list.cut _ Qq;have hlen:(t.es.drop t.m.toNat).length=t.es.length- t.m.toNat:=by simp
  have Qn:((w.alloc (.cells #[.int .i64 t.k,.int .i64 t.n,.int .i64 t.m,.bool t.v,.string t.nm,.string t.tg,.slice a t.es.length c] 25)).cell? ⟨w.heap.size,0,none⟩=some (.int .i64 t.k)∧(w.alloc (.cells #[.int .i64 t.k,.int .i64 t.n,.int .i64 t.m,.bool t.v,.string t.nm,.string t.tg,.slice a t.es.length c] 25)).cell? ⟨w.heap.size,1,none⟩=some (.int .i64 t.n)∧(w.alloc (.cells #[.int .i64 t.k,.int .i64 t.n,.int .i64 t.m,.bool t.v,.string t.nm,.string t.tg,.slice a t.es.length c] 25)).cell? ⟨w.heap.size,2,none⟩=some (.int .i64 t.m)∧(w.alloc (.cells #[.int .i64 t.k,.int .i64 t.n,.int .i64 t.m,.bool t.v,.string t.nm,.string t.tg,.slice a t.es.length c] 25)).cell? ⟨w.heap.size,3,none⟩=some (.bool t.v)∧(w.alloc (.cells #[.int .i64 t.k,.int .i64 t.n,.int .i64 t.m,.bool t.v,.string t.nm,.string t.tg,.slice a t.es.length c] 25)).cell? ⟨w.heap.size,4,none⟩=some (.string t.nm)∧(w.alloc (.cells #[.int .i64 t.k,.int .i64 t.n,.int .i64 t.m,.bool t.v,.string t.nm,.string t.tg,.slice a t.es.length c] 25)).cell? ⟨w.heap.size,5,none⟩=some (.string t.tg)∧(w.alloc (.cells #[.int .i64 t.k,.int .i64 t.n,.int .i64 t.m,.bool t.v,.string t.nm,.string t.tg,.slice a t.es.length c] 25)).cell? ⟨w.heap.size,6,none⟩=some (.slice a t.es.length c)):=by
   repeat' apply And.intro
   all_goals simp[go_sem]
  have Qb:=Lib.hid Qn;clear Qn;generalize t.es.drop t.m.toNat=ds at*;generalize Qo:t.es.length- t.m.toNat=n2 at*;have Qy:=Lib.hid Qo;clear Qo;subst hlen;go_loopw [15] (fun i wr=> ∃k:Nat,k≤ds.length∧i= .int .i64 k∧(∀e∈ds.take k,mt T .elem e g=true)∧(wr.cell? ⟨w.heap.size,0,none⟩=some (.int .i64 t.k)∧wr.cell? ⟨w.heap.size,1,none⟩=some (.int .i64 t.n)∧wr.cell? ⟨w.heap.size,2,none⟩=some (.int .i64 t.m)∧wr.cell? ⟨w.heap.size,3,none⟩=some (.bool t.v)∧wr.cell? ⟨w.heap.size,4,none⟩=some (.string t.nm)∧wr.cell? ⟨w.heap.size,5,none⟩=some (.string t.tg)∧wr.cell? ⟨w.heap.size,6,none⟩=some (.slice a t.es.length c))∧Up p w wr) (fun i _=>ds.length- (intOf i).toNat)
  case atStart=>exact⟨0,Nat.zero_le _,rfl,(fun e he=>by simp at he),Qb.out,R.out⟩
  case round=>
   clear Qb R;obtain⟨k,hk,rfl,Qc,⟨x0,x1,x2,x3,x4,x5,x6⟩,hU⟩:=hrel;have Q:=Lib.hid Qc;clear Qc;have b0:=World.block_lt_of_cell? _ _ x0;simp only at b0;by_cases P9:k<ds.length
   ·obtain⟨b,o,Qe⟩:=hL.bC (by omega)
    rw[Qe]at hL;obtain⟨a5,c5,h7,S⟩:=hL.get k P9;have P3:=fun W z=>Qg.out ds[k] (List.getElem_mem P9) W z a5 c5 S;have J:Hid (mt T .elem ds[k] g=true→∀e∈ds.take (k+1),mt T .elem e g=true):=fun h1 e he=>by
     rw[List.take_succ_eq_append_getElem P9]at he;rcases List.mem_append.1 he with he|he
     ·exact Q.out e he
     ·simp at he;subst he;exact h1
    have K:Hid (mt T .elem ds[k] g=false→false=r):=fun h1=>by
     rw[Qm.out,show(ds.all fun e=>mt T .elem e g)=false from by rw[List.all_eq_false];exact⟨_,List.getElem_mem P9,by rw[h1];simp⟩];rfl
    obtain⟨e,he⟩:∃e,e=ds[k]:=⟨_,rfl⟩
    rw[←he]at h7 S P3 J K;clear he;obtain⟨g0,g1,g2,g3,g4,g5,g6⟩:(wr.cell? ⟨b,o+k*7,none⟩=some (.int .i64 e.k)∧wr.cell? ⟨b,o+k*7+1,none⟩=some (.int .i64 e.n)∧wr.cell? ⟨b,o+k*7+2,none⟩=some (.int .i64 e.m)∧wr.cell? ⟨b,o+k*7+3,none⟩=some (.bool e.v)∧wr.cell? ⟨b,o+k*7+4,none⟩=some (.string e.nm)∧wr.cell? ⟨b,o+k*7+5,none⟩=some (.string e.tg)∧wr.cell? ⟨b,o+k*7+6,none⟩=some (.slice a5 e.es.length c5)):=h7.world hU.kw;clear h7;have Qz:(k:Int)<ds.length:=by omega
    have P_:=hU.alloc (.cells #[.int .i64 e.k,.int .i64 e.n,.int .i64 e.m,.bool e.v,.string e.nm,.string e.tg,.slice a5 e.es.length c5] 25);have s7:((wr.alloc (.cells #[.int .i64 e.k,.int .i64 e.n,.int .i64 e.m,.bool e.v,.string e.nm,.string e.tg,.slice a5 e.es.length c5] 25)).cell? ⟨w.heap.size,0,none⟩=some (.int .i64 t.k)∧(wr.alloc (.cells #[.int .i64 e.k,.int .i64 e.n,.int .i64 e.m,.bool e.v,.string e.nm,.string e.tg,.slice a5 e.es.length c5] 25)).cell? ⟨w.heap.size,1,none⟩=some (.int .i64 t.n)∧(wr.alloc (.cells #[.int .i64 e.k,.int .i64 e.n,.int .i64 e.m,.bool e.v,.string e.nm,.string e.tg,.slice a5 e.es.length c5] 25)).cell? ⟨w.heap.size,2,none⟩=some (.int .i64 t.m)∧(wr.alloc (.cells #[.int .i64 e.k,.int .i64 e.n,.int .i64 e.m,.bool e.v,.string e.nm,.string e.tg,.slice a5 e.es.length c5] 25)).cell? ⟨w.heap.size,3,none⟩=some (.bool t.v)∧(wr.alloc (.cells #[.int .i64 e.k,.int .i64 e.n,.int .i64 e.m,.bool e.v,.string e.nm,.string e.tg,.slice a5 e.es.length c5] 25)).cell? ⟨w.heap.size,4,none⟩=some (.string t.nm)∧(wr.alloc (.cells #[.int .i64 e.k,.int .i64 e.n,.int .i64 e.m,.bool e.v,.string e.nm,.string e.tg,.slice a5 e.es.length c5] 25)).cell? ⟨w.heap.size,5,none⟩=some (.string t.tg)∧(wr.alloc (.cells #[.int .i64 e.k,.int .i64 e.n,.int .i64 e.m,.bool e.v,.string e.nm,.string e.tg,.slice a5 e.es.length c5] 25)).cell? ⟨w.heap.size,6,none⟩=some (.slice a t.es.length c)):=L7.alloc (w:=wr) (b:=w.heap.size) (u:=t) ⟨x0,x1,x2,x3,x4,x5,x6⟩ _;have Qs:=Lib.hid s7;clear s7;cases hm:mt T .elem e g
    ·have P4:=fun W z=>aM (P3 W z) hm
     have hF:=Lib.hid (K.out hm);clear P3 hm J K;simp only[Qe]at*;go_wp2_with fail
     refine(P4 _ P_.kw).mono ?_;rintro V l ⟨rfl,j⟩;have X:=Lib.hid (P_.step j).up;clear j P4;go_wp2_with fail
     go_ret;exact⟨_,rfl,hF.out,X.out⟩
    ·have P4:=fun W z=>aM (P3 W z) hm
     have hN:=Lib.hid (J.out hm);clear P3 hm J K;simp only[Qe]at*;go_wp2_with fail
     refine(P4 _ P_.kw).mono ?_;rintro V l ⟨rfl,j⟩;have B:=Lib.hid (P_.step j);have s8:(l.cell? ⟨w.heap.size,0,none⟩=some (.int .i64 t.k)∧l.cell? ⟨w.heap.size,1,none⟩=some (.int .i64 t.n)∧l.cell? ⟨w.heap.size,2,none⟩=some (.int .i64 t.m)∧l.cell? ⟨w.heap.size,3,none⟩=some (.bool t.v)∧l.cell? ⟨w.heap.size,4,none⟩=some (.string t.nm)∧l.cell? ⟨w.heap.size,5,none⟩=some (.string t.tg)∧l.cell? ⟨w.heap.size,6,none⟩=some (.slice a t.es.length c)):=L7.below (w:=wr.alloc (.cells #[.int .i64 e.k,.int .i64 e.n,.int .i64 e.m,.bool e.v,.string e.nm,.string e.tg,.slice a5 e.es.length c5] 25)) (b:=w.heap.size) (u:=t) Qs.out j;have Qt:=Lib.hid s8;clear j P4 s8;go_wp2_with fail
     go_roundw
     case rel=>exact⟨k+1,by omega,by go_num,hN.out,Qt.out,B.out⟩
     case measure=>simp only[intOf];omega
   ·have hX:=fin _ hU ⟨x0,x1,x2,x3,x4,x5,x6⟩ (fun e he=>Q.out e (by rw[List.take_of_length_le (by omega)];exact he))
    clear x0 x1 x2 x3 x4 x5 x6 hU Q fin;obtain⟨q,⟨x0,x1,x2,x3,x4,x5,x6⟩,P5,O⟩:=hX.out;have G:=Lib.hid P5;have H:=Lib.hid O;clear P5 O hX;cases L:(t.es.take t.m.toNat).all fun e=>mt T .type e false
    ·have d:=fun W z n hn=>aM (A W z n hn) L
     have hF:Hid (false=r):=by unfold Hid;rw[G.out,L];rfl
     clear A L M H;go_wp2_with fail
     refine(d _ q.kw _ (by simp;try omega)).mono ?_;rintro V l ⟨rfl,j⟩;have X:=Lib.hid (q.step j).up;clear j d;go_wp2_with fail
     go_ret;exact⟨_,rfl,hF.out,X.out⟩
    have d:=fun W z n hn=>aM (A W z n hn) L;have C:=H.out (List.all_eq_true.1 L);clear H;cases Y:fW t
    ·have s:=fun W z=>aM (C W z) Y
     have hF:Hid (false=r):=by unfold Hid;rw[G.out,L,Y];rfl
     clear A L M C Y;go_wp2_with fail
     refine(d _ q.kw _ (by simp;try omega)).mono ?_;rintro V l ⟨rfl,j⟩;have B:=q.step j;obtain⟨y0,y1,y2,y3,y4,y5,y6⟩:(l.cell? ⟨w.heap.size,0,none⟩=some (.int .i64 t.k)∧l.cell? ⟨w.heap.size,1,none⟩=some (.int .i64 t.n)∧l.cell? ⟨w.heap.size,2,none⟩=some (.int .i64 t.m)∧l.cell? ⟨w.heap.size,3,none⟩=some (.bool t.v)∧l.cell? ⟨w.heap.size,4,none⟩=some (.string t.nm)∧l.cell? ⟨w.heap.size,5,none⟩=some (.string t.tg)∧l.cell? ⟨w.heap.size,6,none⟩=some (.slice a t.es.length c)):=by
      repeat' apply And.intro
      all_goals exact TS.cell_kept j (by assumption)
     clear j d q;go_wp2_with fail
     refine(s _ B.kw).mono ?_;rintro V P ⟨rfl,F⟩;have X:=Lib.hid (B.step F).up;clear F s;go_wp2_with fail
     go_ret;exact⟨_,rfl,hF.out,X.out⟩
    have s:=fun W z=>aM (C W z) Y;have hF:Hid (decide (cj t≤50)=r):=by unfold Hid;rw[G.out,L,Y];rfl
    generalize cj t=wt at*;clear A L C Y;go_wp2_with fail
    refine(d _ q.kw _ (by simp;try omega)).mono ?_;rintro V l ⟨rfl,j⟩;have B:=q.step j;obtain⟨y0,y1,y2,y3,y4,y5,y6⟩:(l.cell? ⟨w.heap.size,0,none⟩=some (.int .i64 t.k)∧l.cell? ⟨w.heap.size,1,none⟩=some (.int .i64 t.n)∧l.cell? ⟨w.heap.size,2,none⟩=some (.int .i64 t.m)∧l.cell? ⟨w.heap.size,3,none⟩=some (.bool t.v)∧l.cell? ⟨w.heap.size,4,none⟩=some (.string t.nm)∧l.cell? ⟨w.heap.size,5,none⟩=some (.string t.tg)∧l.cell? ⟨w.heap.size,6,none⟩=some (.slice a t.es.length c)):=by
     repeat' apply And.intro
     all_goals exact TS.cell_kept j (by assumption)
    clear j d q x0 x1 x2 x3 x4 x5 x6;go_wp2_with fail
    refine(s _ B.kw).mono ?_;rintro V P ⟨rfl,F⟩;have P6:=B.step F;obtain⟨x0,x1,x2,x3,x4,x5,x6⟩:(P.cell? ⟨w.heap.size,0,none⟩=some (.int .i64 t.k)∧P.cell? ⟨w.heap.size,1,none⟩=some (.int .i64 t.n)∧P.cell? ⟨w.heap.size,2,none⟩=some (.int .i64 t.m)∧P.cell? ⟨w.heap.size,3,none⟩=some (.bool t.v)∧P.cell? ⟨w.heap.size,4,none⟩=some (.string t.nm)∧P.cell? ⟨w.heap.size,5,none⟩=some (.string t.tg)∧P.cell? ⟨w.heap.size,6,none⟩=some (.slice a t.es.length c)):=by
     repeat' apply And.intro
     all_goals exact TS.cell_kept F (by assumption)
    clear F s B y0 y1 y2 y3 y4 y5 y6;go_wp2_with fail
    refine(M _ P6.kw).mono ?_;rintro V w5 ⟨⟨nx,rfl,Qf⟩,P7⟩;have P8:=Qf.out;subst P8;have X:=Lib.hid (P6.step P7).up;clear P7 M;go_wp2_with fail
    go_ret;exact⟨_,rfl,hF.out,X.out⟩
 ·have Qp:t.es.drop t.m.toNat= []:=List.drop_eq_nil_of_le (by omega)
  have hX:=fin _ R.out (by repeat' apply And.intro
                           all_goals simp[go_sem]) (fun e he=>by rw[Qp]at he;cases he)
  clear Qp fin R Qm Qg;obtain⟨q,⟨x0,x1,x2,x3,x4,x5,x6⟩,P5,O⟩:=hX.out;have G:=Lib.hid P5;have H:=Lib.hid O;clear P5 O hX;cases L:(t.es.take t.m.toNat).all fun e=>mt T .type e false
  ·have d:=fun W z n hn=>aM (A W z n hn) L
   have hF:Hid (false=r):=by unfold Hid;rw[G.out,L];rfl
   clear A L M H;go_enter Tryz.func63,Tryz.ntmps63;go_wp2_with fail
   refine wp_loop_rounds 1 ?_;rw[rounds_succ];go_wp2_with fail
   refine(d _ q.kw _ (by simp;try omega)).mono ?_;rintro V l ⟨rfl,j⟩;have X:=Lib.hid (q.step j).up;clear j d;go_wp2_with fail
   go_ret;exact⟨_,rfl,hF.out,X.out⟩
  have d:=fun W z n hn=>aM (A W z n hn) L;have C:=H.out (List.all_eq_true.1 L);clear H;cases Y:fW t
  ·have s:=fun W z=>aM (C W z) Y
   have hF:Hid (false=r):=by unfold Hid;rw[G.out,L,Y];rfl
   clear A L M C Y;go_enter Tryz.func63,Tryz.ntmps63;go_wp2_with fail
   refine wp_loop_rounds 1 ?_;rw[rounds_succ];go_wp2_with fail
   refine(d _ q.kw _ (by simp;try omega)).mono ?_;rintro V l ⟨rfl,j⟩;have B:=q.step j;obtain⟨y0,y1,y2,y3,y4,y5,y6⟩:(l.cell? ⟨w.heap.size,0,none⟩=some (.int .i64 t.k)∧l.cell? ⟨w.heap.size,1,none⟩=some (.int .i64 t.n)∧l.cell? ⟨w.heap.size,2,none⟩=some (.int .i64 t.m)∧l.cell? ⟨w.heap.size,3,none⟩=some (.bool t.v)∧l.cell? ⟨w.heap.size,4,none⟩=some (.string t.nm)∧l.cell? ⟨w.heap.size,5,none⟩=some (.string t.tg)∧l.cell? ⟨w.heap.size,6,none⟩=some (.slice a t.es.length t.m.toNat)):=by
    repeat' apply And.intro
    all_goals exact TS.cell_kept j (by assumption)
   clear j d q;go_wp2_with fail
   refine(s _ B.kw).mono ?_;rintro V P ⟨rfl,F⟩;have X:=Lib.hid (B.step F).up;clear F s;go_wp2_with fail
   go_ret;exact⟨_,rfl,hF.out,X.out⟩
  have s:=fun W z=>aM (C W z) Y;have hF:Hid (decide (cj t≤50)=r):=by unfold Hid;rw[G.out,L,Y];rfl
  generalize cj t=wt at*;clear A L C Y;go_enter Tryz.func63,Tryz.ntmps63;go_wp2_with fail
  refine wp_loop_rounds 1 ?_;rw[rounds_succ];go_wp2_with fail
  refine(d _ q.kw _ (by simp;try omega)).mono ?_;rintro V l ⟨rfl,j⟩;have B:=q.step j;obtain⟨y0,y1,y2,y3,y4,y5,y6⟩:(l.cell? ⟨w.heap.size,0,none⟩=some (.int .i64 t.k)∧l.cell? ⟨w.heap.size,1,none⟩=some (.int .i64 t.n)∧l.cell? ⟨w.heap.size,2,none⟩=some (.int .i64 t.m)∧l.cell? ⟨w.heap.size,3,none⟩=some (.bool t.v)∧l.cell? ⟨w.heap.size,4,none⟩=some (.string t.nm)∧l.cell? ⟨w.heap.size,5,none⟩=some (.string t.tg)∧l.cell? ⟨w.heap.size,6,none⟩=some (.slice a t.es.length t.m.toNat)):=by
   repeat' apply And.intro
   all_goals exact TS.cell_kept j (by assumption)
  clear j d q x0 x1 x2 x3 x4 x5 x6;go_wp2_with fail
  refine(s _ B.kw).mono ?_;rintro V P ⟨rfl,F⟩;have P6:=B.step F;obtain⟨x0,x1,x2,x3,x4,x5,x6⟩:(P.cell? ⟨w.heap.size,0,none⟩=some (.int .i64 t.k)∧P.cell? ⟨w.heap.size,1,none⟩=some (.int .i64 t.n)∧P.cell? ⟨w.heap.size,2,none⟩=some (.int .i64 t.m)∧P.cell? ⟨w.heap.size,3,none⟩=some (.bool t.v)∧P.cell? ⟨w.heap.size,4,none⟩=some (.string t.nm)∧P.cell? ⟨w.heap.size,5,none⟩=some (.string t.tg)∧P.cell? ⟨w.heap.size,6,none⟩=some (.slice a t.es.length t.m.toNat)):=by
   repeat' apply And.intro
   all_goals exact TS.cell_kept F (by assumption)
  clear F s B y0 y1 y2 y3 y4 y5 y6;go_wp2_with fail
  refine(M _ P6.kw).mono ?_;rintro V w5 ⟨⟨nx,rfl,Qf⟩,P7⟩;have P8:=Qf.out;subst P8;have X:=Lib.hid (P6.step P7).up;clear P7 M;go_wp2_with fail
  go_ret;exact⟨_,rfl,hF.out,X.out⟩
end Go.Proofs.YtkfaiocajcjomaaGreatDoor
