import Derived.LoopIn
import Derived.LoopNIn
import Derived.OwnWalkIn
import Derived.RangeFuncBound
import Derived.RangeFuncCalls
import Derived.RangeFuncFrom
import Derived.RangeFuncLeaves
import Derived.RangeFuncMany
import Derived.RangeFuncNested
import Derived.Shelf.Abstract
import Derived.TacticsInMore
import Derived.Test.YtdkmnkjhhhmglaaGreatDoorYaw
set_option maxRecDepth 100000
set_option maxHeartbeats 8000000
set_option linter.all false
namespace Go.Proofs.YtdkmnkjhhhmglaaGreatDoor
open Go.RowKit TS Go.Shelf
attribute [local go_sem] Oper.semAt_some
theorem E9(tb n c i f:Nat)(a:Option Addr)(w:World)(j:i<n)(hi:n≤1099511627776)(k:w.cell? ⟨tb,0,none⟩=some (.slice a n c))(d:∃b o,a=some ⟨b,o,none⟩∧w.cell? ⟨b,o+i,none⟩=some (.pointer (some ⟨f,0,none⟩))):
 Calls Tryz.prog 178 #[.pointer (some ⟨tb,0,none⟩),.int .i64 i] w fun e g=>e= .returned (.pointer (some ⟨f,0,none⟩))∧w=g:=by
 obtain⟨b,o,rfl,l⟩:=d;have h:(i:Int)<n:=by omega
 go_enter Tryz.func178,Tryz.ntmps178;go_wp2_with fail
 go_ret;exact⟨rfl,rfl⟩
theorem E_(b:Nat)(k:Int)(w:World):Calls Tryz.prog 208 #[.iface 140 (.pointer (some ⟨b,0,none⟩)),.int .i64 k] w fun e h=>e= .returned (.bool false)∧w=h:=by
 obtain⟨K,fn,i,f,a,g,j,l,c⟩:=oN b w;have m:=fun args w=>Go.MuLone.run_callFunc_enter f a g args w;have d:=Lib.hid c;have n:∀W,(Instr.typeAssert (.iface 140 (.pointer (some ⟨b,0,none⟩))) 38 99 true).run Tryz.prog W= .ok (.tuple #[.pointer none,.bool false]) W:=fun W=>by rw[bE,if_neg (by decide)]
 clear c f a g;go_enter Tryz.func208,Tryz.ntmps208;go_wp2_with fail
 refine d.out.mono ?_;rintro _ _ ⟨rfl,rfl⟩;go_wp2_with fail
 go_ret;exact⟨rfl,rfl⟩
theorem Fa(b:Nat)(w:World):Calls Tryz.prog 180 #[.iface 140 (.pointer (some ⟨b,0,none⟩))] w fun e a=>e= .returned (.bool false)∧w=a:=by
 go_enter Tryz.func180,Tryz.ntmps180;go_wp2_with fail
 refine(E_ b 32 _).mono ?_;rintro _ _ ⟨rfl,rfl⟩;go_wp2_with fail
 go_ret;exact⟨rfl,rfl⟩
theorem Fb(b:Nat)(w:World):Calls Tryz.prog 179 #[.iface 140 (.pointer (some ⟨b,0,none⟩))] w fun e a=>e= .returned (.func (.func 206) #[] #[.pointer (some ⟨w.heap.size,0,none⟩)])∧a=w.alloc (.cells #[.iface 140 (.pointer (some ⟨b,0,none⟩))] 38):=by
 have c:∀(fn:Fn)(first cap:Array Value)(w:World),(Instr.makeFunc fn first cap).run Tryz.prog w= .ok (.func fn first cap) w:=fun _ _ _ _=>rfl;go_enter Tryz.func179,Tryz.ntmps179;go_wp2_with fail
 go_ret;exact⟨rfl,rfl⟩
abbrev b8(b:Nat)(_:Unit):Array Value:=#[.iface 140 (.pointer (some ⟨b,0,none⟩)),.iface 140 (.pointer (some ⟨b,0,none⟩))]
theorem Fc{F:Fence}(a:F.depth=none)(k:Nat):F.room k:=fun d h=>by rw[a]at h;cases h
theorem Fe{F:Fence}(b:F.depth=none){m:Nat}(d:Nat){P:Program}{l:Nat}{args:Array Value}{W:World}{R:Ending→World→Prop}(h:YieldAt F m P l args W R):YieldAt F d P l args W R:=by
 obtain⟨fn,tmps,assign,body,e,a⟩:=h;exact⟨fn,tmps,assign,body,e,a.1,fun c cs _=>a.2 c cs (Fc b _)⟩
theorem Ff(n l b:Nat)(W:World)(R:Ending→World→Prop)(j:YieldAt Fence.wide (n- 1) Tryz.prog l (b8 b ()) W fun e k=> ∃x,e= .returned (.bool x)∧R (.returned (.bool x)) k):
 CallsIn Fence.wide n Tryz.prog 207 #[.iface 140 (.pointer (some ⟨b,0,none⟩)),.func (.yield l) #[] #[]] W R:=by
 obtain⟨fn,tmps,assign,body,m,o⟩:=j;dsimp only[b8]at m;obtain⟨K,p,q,d,a,f,r,s,c⟩:=oN b W;have t:=fun args w=>Go.MuLone.run_callFunc_enter d a f args w;have z:∀W,(Instr.typeAssert (.iface 140 (.pointer (some ⟨b,0,none⟩))) 38 203 true).run Tryz.prog W= .ok (.tuple #[.pointer none,.bool false]) W:=fun W=>by rw[qL,if_neg (by decide)]
 have u:∀n,CallsIn Fence.wide n Tryz.prog 94 #[.iface 140 (.pointer (some ⟨b,0,none⟩))] W fun e g=>e= .returned (.iface 140 (.pointer (some ⟨b,0,none⟩)))∧W=g:=fun n=>callsIn_wide.2 (d_ _ _ (by decide) W);have v:∀n,CallsIn Fence.wide n Tryz.prog K #[.pointer (some ⟨b,0,none⟩)] W fun e g=>e= .returned (.iface 140 (.pointer (some ⟨b,0,none⟩)))∧W=g:=fun n=>callsIn_wide.2 c;clear d a f c;refine callsIn_of_wp Tryz.func207 rfl trivial ?_ rfl;simp only[Tryz.ntmps207,List.size_toArray,List.length_cons,List.length_nil,Nat.reduceAdd,Nat.reduceSub,Array.replicate_succ,Array.replicate_zero,List.push_toArray,List.append_toArray,List.nil_append,List.cons_append]
 gi_wp2_with (first
  |(refine⟨trivial,(fun h=>by cases h),?_⟩;gi_at_call 94;refine(u _).mono ?_;rintro e i ⟨rfl,rfl⟩)
  |(refine⟨trivial,(fun h=>by cases h),?_⟩;refine(v _).mono ?_;rintro e i ⟨rfl,rfl⟩)
  |(refine⟨(fun h=>by cases h),?_⟩;refine o.mono ?_;rintro e i ⟨x,rfl,y⟩))
 exact y
theorem Fg(n g b B:Nat)(w:World)(a:B<w.heap.size)(i:w.cell? ⟨B,0,none⟩=some (.iface 140 (.pointer (some ⟨b,0,none⟩)))):
 SeqStopsK Fence.wide n Tryz.prog 206 #[.pointer (some ⟨B,0,none⟩)] (b8 b) (Below g) (fun xs=>xs= [()]) (fun pre=>pre= [()]) 1 w:=fun l J j W k s o d q=>by
 have t:W.cell? ⟨B,0,none⟩=some (.iface 140 (.pointer (some ⟨b,0,none⟩))):=(k.cell (p:=⟨B,0,none⟩) a).trans i;have f:=d [] () W q (by decide);have r:∀m,CallsIn Fence.wide m Tryz.prog 207 #[.iface 140 (.pointer (some ⟨b,0,none⟩)),.func (.yield l) #[] #[]] W fun e c=>(∃v,e= .returned v)∧((∃xs,xs= [()]∧J xs c)∨∃pre,pre= [()]∧j pre c):=fun m=>
  Ff m l b W _ (YieldAt.mono (Fe rfl (m- 1) f) fun e c h=>by
   rcases h with⟨rfl,h,_⟩|⟨rfl,h⟩
   ·exact⟨true,rfl,⟨_,rfl⟩,.inl ⟨_,rfl,h⟩⟩
   ·exact⟨false,rfl,⟨_,rfl⟩,.inr ⟨_,rfl,h⟩⟩)
 clear f d;refine callsIn_of_wp Tryz.func206 rfl trivial ?_ rfl;simp only[Tryz.ntmps206,List.size_toArray,List.length_cons,List.length_nil,Nat.reduceAdd,Nat.reduceSub,Array.replicate_succ,Array.replicate_zero,List.push_toArray,List.append_toArray,List.nil_append,List.cons_append];gi_wp2_with (refine⟨trivial,(fun h=>by cases h),?_⟩;gi_at_call 207;refine(r _).mono ?_;rintro e u ⟨⟨x,rfl⟩,h⟩)
 go_end0
 exact⟨⟨_,rfl⟩,h⟩
theorem Fh(r q:Option Addr)(pb n c fl d:Nat)(a:Option Addr)(w:World)(hn:0<n)(j:n≤1099511627776)(F:w.cell? ⟨pb,0,none⟩=some (.slice a n c))(H:∃b o,a=some ⟨b,o,none⟩∧w.cell? ⟨b,o+(n- 1),none⟩=some (.pointer (some ⟨fl,0,none⟩)))
 (h3:w.cell? ⟨fl,3,none⟩=some (.iface 140 (.pointer (some ⟨d,0,none⟩)))):
 Calls Tryz.prog 137 #[.pointer r,.slice none 0 0,.slice none 0 0,.pointer (some ⟨pb,0,none⟩),.pointer q,.bool true] w fun e f=> ∃b,e= .returned (.pointer (some ⟨b,0,none⟩))∧w.heap.size≤b∧
  f.heap[b]?=some (.cells #[.pointer r,.pointer none,.pointer (some ⟨pb,0,none⟩),.pointer q,.bool true] 106 (0,0))∧Below w.heap.size w f:=by
 have N:∀m,CallsIn Fence.wide m Tryz.prog 99 #[.pointer (some ⟨pb,0,none⟩)] w fun e f=>e= .returned (.int .i64 n)∧w=f:=fun m=>callsIn_wide.2 (mU pb n c a w F);have O:∀m,CallsIn Fence.wide m Tryz.prog 178 #[.pointer (some ⟨pb,0,none⟩),.int .i64 ((n:Int)- 1)] w fun e f=>e= .returned (.pointer (some ⟨fl,0,none⟩))∧w=f:=fun m=>callsIn_wide.2 (by
  have:=E9 pb n c (n- 1) fl a w (by omega) j F H;rwa [show((n- 1:Nat):Int)=(n:Int)- 1 by omega]at this)
 have hT:∀m W,CallsIn Fence.wide m Tryz.prog 179 #[.iface 140 (.pointer (some ⟨d,0,none⟩))] W fun e f=>e= .returned (.func (.func 206) #[] #[.pointer (some ⟨W.heap.size,0,none⟩)])∧f=W.alloc (.cells #[.iface 140 (.pointer (some ⟨d,0,none⟩))] 38):=fun m W=>callsIn_wide.2 (Fb d W);have P:¬(n:Int)=0:=by omega
 have Q:(n:Int)≤1099511627776:=by omega
 clear F H;refine(callsIn_wide (n:=9)).1 ?_;refine callsIn_of_wp_marks Tryz.func137 rfl trivial ?_ rfl;simp only[Tryz.ntmps137,List.size_toArray,List.length_cons,List.length_nil,Nat.reduceAdd,Nat.reduceSub,Array.replicate_succ,Array.replicate_zero,List.push_toArray,List.append_toArray,List.nil_append,List.cons_append]
 gi_wp2_with (first
  |(refine⟨trivial,?_⟩;gi_at_call 99;refine(N _).mono ?_;rintro e C ⟨rfl,rfl⟩)
  |(refine⟨trivial,?_⟩;gi_at_call 178;refine(O _).mono ?_;rintro e C ⟨rfl,rfl⟩)
  |(refine⟨trivial,?_⟩;gi_at_call 179;refine(hT _ _).mono ?_;rintro e C ⟨rfl,rfl⟩))
 refine' wpIn_rangeFunc_ownF rfl (by decide) (gf:=206) (lb:=#[.pointer (some ⟨w.heap.size+1,0,none⟩)]) rfl trivial (enters_of Tryz.func206 (by kernel_rfl) rfl) (Fg _ w.heap.size d (w.heap.size+1) _ (by simp) (by simp[go_sem])) belowK_t (belowK_b (by simp;omega)) (Below.refl _ _) (fun _=>rfl)
  (fun pre W=>(W.cell? ⟨w.heap.size,0,none⟩=some (if pre= []then .pointer none else .pointer (some ⟨d,0,none⟩))∧W.frozen? ⟨w.heap.size,0,none⟩=false)∧Below w.heap.size w W) (fun _ _ _=>False)
  (OwnFrom.and (Own.from (fun s A B row k I hr=>⟨Go.cell_kept k.1 I hr,(Go.frozen_kept k.1 I hr).trans k.2⟩) _) (ownFrom_below (Nat.le_refl _) (by simp;omega))) (fun _ _ _ _ _ k _ _=>k)
  ⟨⟨by simp[go_sem],by simp[go_sem]⟩,((Below.refl _ _).alloc (Nat.le_refl _) _).alloc (by simp) _⟩ _ ?assign ?body ?done ?stop
 case assign=>
  intro l x W K E;gi_wp2
  exact E
 case body=>
  rintro l pre x W ⟨⟨t,J⟩,u⟩ hl;obtain rfl:pre= []:=List.length_eq_zero_iff.1 (by omega);simp only[if_true]at t;obtain⟨K,R,S,v,g,y,T,L,i⟩:=oN d W;have U:=fun args w=>Go.MuLone.run_callFunc_enter v g y args w;have V:∀m,CallsIn (Fence.wide.inRound l) m Tryz.prog K #[.pointer (some ⟨d,0,none⟩)] W fun e f=>e= .returned (.iface 140 (.pointer (some ⟨d,0,none⟩)))∧W=f:=fun m=>CallsIn.inRound l (callsIn_wide.2 i);have X:∀m,CallsIn (Fence.wide.inRound l) m Tryz.prog 180 #[.iface 140 (.pointer (some ⟨d,0,none⟩))] W fun e f=>e= .returned (.bool false)∧W=f:=fun m=>CallsIn.inRound l (callsIn_wide.2 (Fa d W));have ax:∀W,(Instr.typeAssert (.iface 140 (.pointer (some ⟨d,0,none⟩))) 38 140 true).run Tryz.prog W= .ok (.tuple #[.pointer (some ⟨d,0,none⟩),.bool true]) W:=fun W=>by rw[asSlice,if_pos rfl]
  have Y:∀W:World,(binOp .eql 38 (.iface 140 (.pointer (some ⟨d,0,none⟩))) .nilIface).run Tryz.prog W= .ok (.bool false) W:=fun W=>by kernel_rfl
  clear v g y i
  gi_wp2_with (first
   |(refine⟨trivial,?_⟩;gi_at_call 180;refine(X _).mono ?_;rintro e C ⟨rfl,rfl⟩)
   |(refine⟨trivial,?_⟩;refine(V _).mono ?_;rintro e C ⟨rfl,rfl⟩))
  exact⟨KeepsOthers.setCell _ _ _,(Below.refl w.heap.size W).setCell (p:=⟨w.heap.size,0,none⟩) (Nat.le_refl _) _,⟨World.cell?_setCell_same' _ _ _ (by rw[t];rfl),by rw[World.frozen?_setCell];exact J⟩,u.setCell (p:=⟨w.heap.size,0,none⟩) (Nat.le_refl _) _⟩
 case done=>
  rintro D ys W M rfl ⟨⟨t,J⟩,u⟩ E;have Z:W.cell? ⟨w.heap.size,0,none⟩=some (.pointer (some ⟨d,0,none⟩)):=t;clear t;have G:D<W.heap.size:=(Array.getElem?_eq_some_iff.1 E).1;gi_wp2
  have z:=(Below.heap_alloc W (.cells #[.pointer r,.pointer none,.pointer (some ⟨pb,0,none⟩),.pointer q,.bool true] 106) D G).trans E;refine⟨by simp,.inl ⟨_,_,rfl,run_takeDeferred z,?_⟩⟩;refine⟨_,results_tmp rfl _ _ _,W.heap.size,rfl,u.size,?_,?_⟩
  ·rw[World.putObj_heap_other (by omega)];exact(MapKept.heap_alloc W _).1
  ·exact(u.alloc u.size _).trans (belowK_b (w:=w) (Nat.le_refl _) _ D _ _ (by simp at M;omega) z rfl rfl)
 case stop=>
  rintro D c pre W M _ h _;exact h.elim
end Go.Proofs.YtdkmnkjhhhmglaaGreatDoor
namespace Go.Proofs.YtdkmnkjhhhmglaaGreatDoor
open Go.RowKit TS
theorem xL{D:Dl}{T:List U}{NS:List (List UInt8)}{i:Nat}(E:Env D T NS i)(p:Pm)(dc:Nat){x:U}{pos:Nat}(h:cF D T NS i x pos 2)(F:x.k≠12)(hM:jf D dc T NS i x)(G:∀e∈x.es,jf D dc T NS i e)
 (hT:eV p D T)(a:Option Addr)(c:Nat)(w:World)(hu:ak p D x a c)(hw:KW p w):
 Calls Tryz.prog 159 #[.slice D.a D.len dc,.agg #[.int .i64 x.k,.int .i64 x.n,.int .i64 x.m,.bool x.v,.string x.nm,.string x.tg,.slice a x.es.length c]] w (RB (mt T .term x false) w):=by
 by_cases j:x.k=13
 ·have t13:(x.k==13)=true:=by simp[j]
  have h1:=h.pl.form.iW j;obtain⟨e,he⟩:=dD h1;have s:=h.ot (by omega) F 0 (by omega);have H:x.es[0]'(by omega)=e:=by simp[he]
  rw[H,show aN x 0 2=2 by unfold aN;rw[if_pos rfl]]at s;have hk:=s.pl.form.aE;obtain⟨b,o,rfl⟩:=hu.list.bN (by omega);obtain⟨a',c',h7,t⟩:=hu.list.get 0 (by omega);simp only[H,Nat.zero_mul,Nat.add_zero]at h7 t;have L:Hid (mt T .term x false=(mt T .type e false&& !isIface e&&aB e (under e))):=by unfold Hid;rw[lZ j,he];simp
  have hl:0<x.es.length:=by omega
  have PS:(0:Int)<x.es.length:=by omega
  have u:=fun W l=>G e (by rw[he];simp) false p 0 2 a' c' W s hk.1 hk.2 hT t l;have A:=fun W l=>iA p D dc e 0 2 a' c' W s.pl (by omega) (by omega) hk.1 hk.2 t l;have ag:Up p w ((w.alloc (.cells #[.int .i64 x.k,.int .i64 x.n,.int .i64 x.m,.bool x.v,.string x.nm,.string x.tg,.slice (some ⟨b,o,none⟩) x.es.length c] 25)).alloc (.cells #[.int .i64 e.k,.int .i64 e.n,.int .i64 e.m,.bool e.v,.string e.nm,.string e.tg,.slice a' e.es.length c'] 25)):=((Up.refl hw).alloc _).alloc _;obtain⟨z0,z1,z2,z3,z4,z5,z6⟩:TS.C7 w b o e a' c':=h7.world hw;have hb:=hw.lt h7.1;have PT:=Lib.hid he;clear he h7 H h1 j hM G;cases hm:mt T .type e false
  ·have r:=fun W l=>aW (u W l) hm
   have hF:Hid (false=mt T .term x false):=by unfold Hid;rw[L.out,hm];rfl
   clear u hm A L s h hk;go_enter Tryz.func159,Tryz.ntmps159;go_wp2_with fail
   refine oR (fun W=>(W.cell? ⟨w.heap.size+1,0,none⟩=some (.int .i64 e.k)∧W.cell? ⟨w.heap.size+1,1,none⟩=some (.int .i64 e.n)∧W.cell? ⟨w.heap.size+1,2,none⟩=some (.int .i64 e.m)∧W.cell? ⟨w.heap.size+1,3,none⟩=some (.bool e.v)∧W.cell? ⟨w.heap.size+1,4,none⟩=some (.string e.nm)∧W.cell? ⟨w.heap.size+1,5,none⟩=some (.string e.tg)∧W.cell? ⟨w.heap.size+1,6,none⟩=some (.slice a' e.es.length c'))∧Up p w W) [(0,true),(1,true),(2,false),(3,true),(4,true),(5,true),(6,false),(7,true),(8,true),(9,true),(10,true),(11,true),(12,true),(13,true),(14,false),(15,false),(16,true),(17,true)] oK (fun d=> ?_);repeat(first|(refine oS ?_;try simp only[Act.put,oa,ob,oc])|(refine oF d ?_;try simp only[Act.put,oa,ob,oc])|(refine oL fun K f=> ?_;go_simp;(go_at_call 32;(with_reducible refine(r _ (Up.kw (by first|assumption|exact ag.drew))).mono ?_);rintro B V ⟨rfl,aa⟩;(try simp only[]);refine f _ _ oK fun d=> ?_;clear f K;try simp only[Act.put,oa,ob,oc])))
   refine ch ?_;have I:=d.2.up;clear aa d;go_wp2_with fail
   go_ret;exact⟨_,rfl,hF.out,I⟩
  have r:=fun W l=>aW (u W l) hm;cases hi:isIface e
  case true=>
   have y:=fun W l=>aW (A W l) hi;have hF:Hid (false=mt T .term x false):=by unfold Hid;rw[L.out,hm,hi];rfl
   clear u hm A L s h hk hi;go_enter Tryz.func159,Tryz.ntmps159;go_wp2_with fail
   refine oR (fun W=>(W.cell? ⟨w.heap.size+1,0,none⟩=some (.int .i64 e.k)∧W.cell? ⟨w.heap.size+1,1,none⟩=some (.int .i64 e.n)∧W.cell? ⟨w.heap.size+1,2,none⟩=some (.int .i64 e.m)∧W.cell? ⟨w.heap.size+1,3,none⟩=some (.bool e.v)∧W.cell? ⟨w.heap.size+1,4,none⟩=some (.string e.nm)∧W.cell? ⟨w.heap.size+1,5,none⟩=some (.string e.tg)∧W.cell? ⟨w.heap.size+1,6,none⟩=some (.slice a' e.es.length c'))∧Up p w W) [(0,true),(1,true),(2,false),(3,true),(4,true),(5,true),(6,false),(7,true),(8,true),(9,true),(10,true),(11,true),(12,true),(13,true),(14,false),(15,false),(16,true),(17,true)] oK (fun d=> ?_);repeat(first|(refine oS ?_;try simp only[Act.put,oa,ob,oc])|(refine oF d ?_;try simp only[Act.put,oa,ob,oc])|(refine oL fun K f=> ?_;go_simp;first|(go_at_call 32;(with_reducible refine(r _ (Up.kw (by first|assumption|exact ag.drew))).mono ?_);rintro B V ⟨rfl,aa⟩;(try simp only[]);refine f _ _ oK fun d=> ?_;clear f K;try simp only[Act.put,oa,ob,oc])|(go_at_call 22;obtain⟨⟨O,s1,s2,P,Q,R,S⟩,C⟩:=d;(with_reducible refine(y _ C.kw).mono ?_);rintro B w2 ⟨rfl,aa⟩;(try simp only[]);refine f _ _ oK fun d=> ?_;clear f K;try simp only[Act.put,oa,ob,oc])))
   refine ch ?_;have I:=d.2.up;clear aa d;go_wp2_with fail
   go_ret;exact⟨_,rfl,hF.out,I⟩
  have y:=fun W l=>aW (A W l) hi;have hF:Hid (aB e (under e)=mt T .term x false):=by unfold Hid;rw[L.out,hm,hi];rfl
  obtain⟨M,N⟩:=qF E s (by omega) hk.1 hk.2 hm hi;obtain⟨fu,X,PR,z,Y,_⟩:=s.pl.under (by omega) (by omega) hk.1 hk.2;have Z:=fun W l=>jv p D dc e 0 2 a' c' W s.pl (by omega) (by omega) hk.1 hk.2 t l;have hC:=Lib.hid (mz D dc NS E.dm e (under e) _ _ _ _ s.pl (by omega) hk.1 hk.2 z X z.form.aE.1 z.form.aE.2 M N s.aG s.aG.under);clear u hm A L s h hk hi M N z Y;go_enter Tryz.func159,Tryz.ntmps159;go_wp2_with fail
  refine oR (fun W=>(W.cell? ⟨w.heap.size+1,0,none⟩=some (.int .i64 e.k)∧W.cell? ⟨w.heap.size+1,1,none⟩=some (.int .i64 e.n)∧W.cell? ⟨w.heap.size+1,2,none⟩=some (.int .i64 e.m)∧W.cell? ⟨w.heap.size+1,3,none⟩=some (.bool e.v)∧W.cell? ⟨w.heap.size+1,4,none⟩=some (.string e.nm)∧W.cell? ⟨w.heap.size+1,5,none⟩=some (.string e.tg)∧W.cell? ⟨w.heap.size+1,6,none⟩=some (.slice a' e.es.length c'))∧Up p w W) [(0,true),(1,true),(2,false),(3,true),(4,true),(5,true),(6,false),(7,true),(8,true),(9,true),(10,true),(11,true),(12,true),(13,true),(14,false),(15,false),(16,true),(17,true)] oK (fun d=> ?_);repeat(first|(refine oS ?_;try simp only[Act.put,oa,ob,oc])|(refine oF d ?_;try simp only[Act.put,oa,ob,oc])|(refine oL fun K f=> ?_;go_simp;first|(go_at_call 32;(with_reducible refine(r _ (Up.kw (by first|assumption|exact ag.drew))).mono ?_);rintro B V ⟨rfl,aa⟩;(try simp only[]);refine f _ _ oK fun d=> ?_;clear f K;try simp only[Act.put,oa,ob,oc])|(go_at_call 22;obtain⟨⟨O,s1,s2,P,Q,R,S⟩,C⟩:=d;(with_reducible refine(y _ C.kw).mono ?_);rintro B w2 ⟨rfl,aa⟩;(try simp only[]);refine f _ _ oK fun d=> ?_;clear f K;try simp only[Act.put,oa,ob,oc])|(go_at_call 11;obtain⟨⟨O,s1,s2,P,Q,R,S⟩,C⟩:=d;(with_reducible refine(Z _ C.kw).mono ?_);rintro B w3 ⟨q,a6,c6,rfl,PM,PN,PO,aa⟩;(try simp only[]);refine f _ _ oK fun d=> ?_;clear f K;try simp only[Act.put,oa,ob,oc])|(go_at_call 49;obtain⟨⟨O,s1,s2,P,Q,R,S⟩,C⟩:=d;(refine(hC.out q a' c' a6 c6 _ (ak.sub PM.le _ t) PO PN).mono ?_);rintro B w4 ⟨b,rfl,J,aa⟩;(try simp only[]);refine f _ _ oK fun d=> ?_;clear f K;try simp only[Act.put,oa,ob,oc])))
  refine ch ?_;have I:=d.2.up;clear aa d;go_wp2_with fail
  go_ret;exact⟨_,rfl,J.out.trans hF.out,I⟩
 ·have t13:(x.k==13)=false:=by simp[j]
  have A:=fun W l=>iA p D dc x pos 2 a c W h.pl (by omega) (by omega) F j hu l;have hF:Hid (mt T .term x false=mt T .type x (isIface x)):=fF j;obtain⟨g,H⟩:∃g,g=isIface x:=⟨_,rfl⟩
  have y:=fun W l=>aW (A W l) H.symm;rw[←H]at hF;have PQ:=fun W l=>hM g p pos 2 a c W h F j hT hu l;have ag:Up p w (w.alloc (.cells #[.int .i64 x.k,.int .i64 x.n,.int .i64 x.m,.bool x.v,.string x.nm,.string x.tg,.slice a x.es.length c] 25)):=(Up.refl hw).alloc _;rw[hF.out];clear hM G h A H j hF;go_enter Tryz.func159,Tryz.ntmps159;go_wp2_with fail
  refine oR (fun W=>(W.cell? ⟨w.heap.size,0,none⟩=some (.int .i64 x.k)∧W.cell? ⟨w.heap.size,1,none⟩=some (.int .i64 x.n)∧W.cell? ⟨w.heap.size,2,none⟩=some (.int .i64 x.m)∧W.cell? ⟨w.heap.size,3,none⟩=some (.bool x.v)∧W.cell? ⟨w.heap.size,4,none⟩=some (.string x.nm)∧W.cell? ⟨w.heap.size,5,none⟩=some (.string x.tg)∧W.cell? ⟨w.heap.size,6,none⟩=some (.slice a x.es.length c))∧Up p w W) [(0,true),(1,true),(2,true),(3,true),(4,false),(5,false),(6,true)] oK (fun d=> ?_);repeat(first|(refine oS ?_;try simp only[Act.put,oa,ob,oc])|(refine oF d ?_;try simp only[Act.put,oa,ob,oc])|(refine oL fun K f=> ?_;go_simp;first|(go_at_call 22;(with_reducible refine(y _ (Up.kw (by first|assumption|exact ag.drew))).mono ?_);rintro B w2 ⟨rfl,aa⟩;(try simp only[]);refine f _ _ oK fun d=> ?_;clear f K;try simp only[Act.put,oa,ob,oc])|(go_at_call 32;obtain⟨⟨O,s1,s2,P,Q,R,S⟩,C⟩:=d;(with_reducible refine(PQ _ C.kw).mono ?_);rintro B V ⟨b,rfl,J,aa⟩;(try simp only[]);refine f _ _ oK fun d=> ?_;clear f K;try simp only[Act.put,oa,ob,oc])))
  refine ch ?_;have I:=d.2.up;clear aa d;go_wp2_with fail
  go_ret;exact⟨_,rfl,J.out,I⟩
theorem xM(p:Pm)(D:Dl)(dc:Nat)(x y:U)(a:Option Addr)(c:Nat)(a':Option Addr)(c':Nat)(w:World)(f:∀W,KW p W→Calls Tryz.prog 163 #[.slice D.a D.len dc,.agg #[.int .i64 x.k,.int .i64 x.n,.int .i64 x.m,.bool x.v,.string x.nm,.string x.tg,.slice a x.es.length c],.agg #[.int .i64 y.k,.int .i64 y.n,.int .i64 y.m,.bool y.v,.string y.nm,.string y.tg,.slice a' y.es.length c']] W (RB (eu x y) W))(hw:KW p w)(g d:Nat)
 (h1:w.cell? ⟨g,0,none⟩=some (.slice D.a D.len dc))(h7:(w.cell? ⟨d,0,none⟩=some (.int .i64 x.k)∧w.cell? ⟨d,1,none⟩=some (.int .i64 x.n)∧w.cell? ⟨d,2,none⟩=some (.int .i64 x.m)∧w.cell? ⟨d,3,none⟩=some (.bool x.v)∧w.cell? ⟨d,4,none⟩=some (.string x.nm)∧w.cell? ⟨d,5,none⟩=some (.string x.tg)∧w.cell? ⟨d,6,none⟩=some (.slice a x.es.length c))):
 Calls Tryz.prog 162 #[.agg #[.int .i64 y.k,.int .i64 y.n,.int .i64 y.m,.bool y.v,.string y.nm,.string y.tg,.slice a' y.es.length c'],.pointer (some ⟨g,0,none⟩),.pointer (some ⟨d,0,none⟩)] w (RB (!eu x y) w):=by
 obtain⟨i,l,o,q,s,t,u⟩:=h7;have b1:=World.block_lt_of_cell? _ _ h1;have j:=World.block_lt_of_cell? _ _ i;simp only at b1 j;have ag:Up p w (w.alloc (.cells #[.int .i64 y.k,.int .i64 y.n,.int .i64 y.m,.bool y.v,.string y.nm,.string y.tg,.slice a' y.es.length c'] 25)):=(Up.refl hw).alloc _;generalize eu x y=r at*;go_enter Tryz.func162,Tryz.ntmps162;go_wp2_with fail
 refine(f _ ag.kw).mono ?_;rintro z A ⟨b,rfl,h,aa⟩;have e:=(ag.step aa).up;have hF:Hid ((!b)= !r):=by unfold Hid;rw[h.out]
 clear h aa f;go_wp2_with fail
 go_ret;exact⟨_,rfl,hF,e⟩
def eZ(T:List U)(x:U):Bool:=mt T .term x false&& !(aQ x&&(decide (0<(ai x).length)||fj x))
theorem xN{T:List U}{u:U}{g:Bool}(h:u.k=12):mt T .elem u g=(u.es.all (eZ T)&&decide (u.es.Pairwise fun y x=>eu x y=true)&&g):=lY h
theorem Gd{T:List U}{u:U}{g:Bool}(h:u.k=12){k:Nat}(hk:k<u.es.length)(a:eZ T u.es[k]=false∨((u.es.take k).any fun y=> !eu u.es[k] y)=true):mt T .elem u g=false:=by
 rw[xN h];rcases a with a|a
 ·rw[show u.es.all (eZ T)=false by rw[List.all_eq_false];exact⟨_,List.getElem_mem hk,by rw[a];simp⟩];rfl
 ·rw[decide_eq_false ?_]
  ·simp
  ·intro c
   obtain⟨y,d,b⟩:=List.any_eq_true.1 a;have:=c.sublist (List.take_sublist (k+1) _);rw[List.take_succ_eq_append_getElem hk,List.pairwise_append]at this;have h3:=this.2.2 y d u.es[k] (by simp);rw[h3]at b;cases b
theorem Gf{D:Dl}{T:List U}{NS:List (List UInt8)}{i:Nat}(E:Env D T NS i)(p:Pm)(dc:Nat){e:U}(h:cF D T NS i e 2 2)(hM:jf D dc T NS i e)(PX:∀x∈e.es,jf D dc T NS i x∧∀y∈x.es,jf D dc T NS i y)
 (hT:eV p D T)(g:Bool)(a:Option Addr)(c:Nat)(w:World)(hu:ak p D e a c)(hw:KW p w):
 Calls Tryz.prog 117 #[.slice D.a D.len dc,.agg #[.int .i64 e.k,.int .i64 e.n,.int .i64 e.m,.bool e.v,.string e.nm,.string e.tg,.slice a e.es.length c],.bool g] w (RB (mt T .elem e g) w):=by
 obtain⟨r,hr⟩:∃r,r=mt T .elem e g:=⟨_,rfl⟩
 rw[←hr];have ag:Up p w ((w.alloc (.cells #[.slice D.a D.len dc] 22)).alloc (.cells #[.int .i64 e.k,.int .i64 e.n,.int .i64 e.m,.bool e.v,.string e.nm,.string e.tg,.slice a e.es.length c] 25)):=((Up.refl hw).alloc _).alloc _;by_cases F:e.k=12
 ·have t12:(e.k !=12)=false:=by simp[F]
  have Qs:=hu.cap;have Qt:(e.es.length:Int)≤1048576:=by omega
  have P4:=Lib.hid fun(k:Nat) (hk:k<e.es.length) hb=>hr.trans (Gd (T:=T) (g:=g) F hk hb);have P9:Hid ((∀y∈e.es,eZ T y=true)→(e.es.Pairwise fun y x=>eu x y=true)→r=g):=fun h1 h2=>by
   rw[hr,xN F,decide_eq_true h2,show e.es.all (eZ T)=true from List.all_eq_true.2 h1];simp
  have hX:=Lib.hid fun x (hx:x∈e.es)=>(⟨h.union F hx,PX x hx⟩:(∃f',cF D T NS i x 1 f'∧(2=2→f'=2))∧jf D dc T NS i x∧∀y∈x.es,jf D dc T NS i y)
  have PR:Hid (∀x∈e.es,x.k≠12):=fun x hx hk=>by
   obtain⟨f',hm,_⟩:=h.union F hx;have hf:=hm.pl.form;cases hf<;>first|omega|(rename_i hp _ _;omega)
  have eg:=Lib.hid (show ∀args w,(callFunc 162 args).run Tryz.prog w= .ok (.enter 162 args) w from ep Tryz.func162 (by kernel_rfl) rfl);have Qv:∀(fn:Fn)(first cap:Array Value)(w:World),(Instr.makeFunc fn first cap).run Tryz.prog w= .ok (.func fn first cap) w:=fun _ _ _ _=>rfl;clear hr h hM PX F;go_enter Tryz.func117,Tryz.ntmps117;go_wp2_with fail
  go_loopw [32] (fun i wr=> ∃k:Nat,k≤e.es.length∧i= .int .i64 k∧(∀y∈e.es.take k,eZ T y=true)∧((e.es.take k).Pairwise fun y x=>eu x y=true)∧wr.cell? ⟨w.heap.size,0,none⟩=some (.slice D.a D.len dc)∧wr.cell? ⟨w.heap.size+1,6,none⟩=some (.slice a e.es.length c)∧Up p w wr) (fun i _=>e.es.length- (intOf i).toNat)
  case atStart=>exact⟨0,Nat.zero_le _,rfl,(fun y hy=>by simp at hy),(by simp),by simp[go_sem],by simp[go_sem],ag⟩
  case round=>
   clear ag;obtain⟨k,hk,rfl,P5,Qf,c0,c6,hU⟩:=hrel;have b0:=World.block_lt_of_cell? _ _ c0;have b6:=World.block_lt_of_cell? _ _ c6;simp only at b0 b6;have X:=Lib.hid P5;have P6:=Lib.hid Qf;clear P5 Qf;by_cases PS:k<e.es.length
   ·have Qu:(k:Int)<e.es.length:=by omega
    obtain⟨b,o,rfl⟩:=hu.list.bN (by omega);obtain⟨a5,c5,h7,O⟩:=hu.list.get k PS;have P_:=List.getElem_mem PS;obtain⟨⟨f',C,Qo⟩,PY,PM⟩:=hX.out _ P_;obtain rfl:=Qo (by simp);have G:=PR.out _ P_;have t:=Lib.hid fun hb=>P4.out k PS (.inl hb);have l:=Lib.hid fun hb=>P4.out k PS (.inr hb);have q:Hid (eZ T e.es[k]=true→((e.es.take k).any fun y=> !eu e.es[k] y)=false→(∀y∈e.es.take (k+1),eZ T y=true)∧((e.es.take (k+1)).Pairwise fun y x=>eu x y=true)):=fun h1 h2=>by
     rw[List.take_succ_eq_append_getElem PS];refine⟨fun y hy=> ?_,?_⟩
     ·rcases List.mem_append.1 hy with hy|hy
      ·exact X.out y hy
      ·simp at hy;subst hy;exact h1
     ·rw[List.pairwise_append]
      refine⟨P6.out,List.pairwise_singleton _ _,fun y hy z hz=> ?_⟩;simp at hz;subst hz;have:=List.any_eq_false.1 h2 y hy;simpa using this
    have Qg:Hid (∀j(hj:j<(e.es.take k).length) x,x=e.es[k]→mt T .term x false=true→∀a' c' a5 c5 W,ak p D (e.es.take k)[j] a' c'→ak p D x a5 c5→KW p W→Calls Tryz.prog 163 #[.slice D.a D.len dc,.agg #[.int .i64 x.k,.int .i64 x.n,.int .i64 x.m,.bool x.v,.string x.nm,.string x.tg,.slice a5 x.es.length c5],.agg #[.int .i64 ((e.es.take k)[j]).k,.int .i64 ((e.es.take k)[j]).n,.int .i64 ((e.es.take k)[j]).m,.bool ((e.es.take k)[j]).v,.string ((e.es.take k)[j]).nm,.string ((e.es.take k)[j]).tg,.slice a' ((e.es.take k)[j]).es.length c']] W (RB (eu x (e.es.take k)[j]) W)):=by
     intro j hj x hx f a' c' a5 c5 W PT O s;have Qh:=List.getElem_mem hj;have Qa:=List.mem_of_mem_take Qh;have hyp:=X.out _ Qh;unfold eZ at hyp;simp only[Bool.and_eq_true]at hyp;obtain⟨⟨Qw,Qb,Qi⟩,_⟩:=hX.out _ Qa;obtain rfl:=Qi (by simp);subst hx;exact Ao p D dc NS E.dm _ _ 1 1 a5 c5 a' c' W C.pl Qb.pl G (PR.out _ Qa) C.aG Qb.aG (fun hi=>uu E C G f hi) (fun hi=>uu E Qb (PR.out _ Qa) hyp.1 hi) O PT s
    obtain⟨x,hx⟩:∃x,x=e.es[k]:=⟨_,rfl⟩
    rw[←hx]at h7 O C PY PM G t l q;have PU:=Lib.hid fun j hj f a' c' W PT s=>Qg.out j hj x hx f a' c' a5 c5 W PT O s;clear hx Qg P_;obtain⟨g0,g1,g2,g3,g4,g5,g6⟩:TS.C7 wr b (o+k*7) x a5 c5:=h7.world hU.kw;clear h7;have A:=hU.alloc (.cells #[.int .i64 x.k,.int .i64 x.n,.int .i64 x.m,.bool x.v,.string x.nm,.string x.tg,.slice a5 x.es.length c5] 25);have I:=fun W s=>xL E p dc C G PY PM hT a5 c5 W O s;cases f:mt T .term x false
    ·have d:=fun W s=>aW (I W s) f
     have hF:Hid (false=r):=(t.out (by unfold eZ;rw[f];rfl)).symm;clear I f PY PM q t l PU C;go_wp2_with fail
     refine(d _ A.kw).mono ?_;rintro S V ⟨rfl,aa⟩;have L:=Lib.hid (A.step aa).up;clear aa d;go_wp2_with fail
     go_ret;exact⟨_,rfl,hF.out,L.out⟩
    have d:=fun W s=>aW (I W s) f;have hE:=fun W s=>og p D dc x 1 2 a5 c5 W C.pl (by omega) (by omega) O s;have PZ:=Lib.hid fun W (s:KW p W) lb H=>iU k p D (e.es.take k) (by simp;omega) (some ⟨b,o,none⟩) c 162 lb (fun y=> !eu x y) W s (hu.list.take k) (by simp;omega) eg.out H;have P7:=Lib.hid fun j hj a' c' W PT s=>PU.out j hj f a' c' W PT s;clear PU;have PN:=Lib.hid f;clear I f PY PM;cases he:aQ x
    ·have J:=fun W s=>aW (hE W s) he
     have Y:Hid (eZ T x=true):=by unfold Hid eZ;rw[PN.out,he];rfl
     clear hE he t C PN;go_wp2_with fail
     refine(d _ A.kw).mono ?_;rintro S V ⟨rfl,aa⟩;have K:=A.step aa;obtain⟨x0,x1,x2,x3,x4,x5,x6⟩:TS.L7 V wr.heap.size x a5 c5:=by
      repeat' apply And.intro
      all_goals exact TS.cell_kept aa (by first|(simp[go_sem];done)|(go_keep;done))
     have d0:V.cell? ⟨w.heap.size,0,none⟩=some (.slice D.a D.len dc):=TS.cell_kept aa (by rw[World.cell?_alloc_lt _ _ _ b0];exact c0);have d6:V.cell? ⟨w.heap.size+1,6,none⟩=some (.slice (some ⟨b,o,none⟩) e.es.length c):=TS.cell_kept aa (by rw[World.cell?_alloc_lt _ _ _ b6];exact c6);clear aa d A c0 c6;go_wp2_with fail
     refine(J _ K.kw).mono ?_;rintro S w2 ⟨rfl,u⟩;have P:=K.step u;obtain⟨y0,y1,y2,y3,y4,y5,y6⟩:TS.L7 w2 wr.heap.size x a5 c5:=by
      repeat' apply And.intro
      all_goals exact TS.cell_kept u (by assumption)
     have e0:=TS.cell_kept u d0;have e6:=TS.cell_kept u d6;clear u J K d0 d6 x0 x1 x2 x3 x4 x5 x6;go_wp2_with fail
     refine(PZ.out _ P.kw _ ?_).mono ?_
     ·intro j hj W' a' c' Z Qc
      have Qd:TS.L7 W' wr.heap.size x a5 c5:=by
       repeat' apply And.intro
       all_goals exact TS.cell_kept Z (by assumption)
      exact xM p D dc x _ a5 c5 a' c' W' (fun Qe PV=>P7.out j hj a' c' Qe Qc PV) (P.kw.grown Z) w.heap.size wr.heap.size (TS.cell_kept Z e0) Qd
     rintro S w3 ⟨bb,rfl,M,B⟩;have N:=Lib.hid (P.step B);have f0:=TS.cell_kept B e0;have f6:=TS.cell_kept B e6;clear B PZ P e0 e6 y0 y1 y2 y3 y4 y5 y6;cases bb
     ·have hN:=Lib.hid (q.out Y.out M.out.symm)
      clear M q l Y;go_wp2_with fail
      go_roundw
      case rel=>exact⟨k+1,by omega,by go_num,hN.out.1,hN.out.2,f0,f6,N.out⟩
      case measure=>simp[intOf];omega
     ·have hF:Hid (false=r):=(l.out M.out.symm).symm
      have L:=Lib.hid N.out.up;clear M q l Y;go_wp2_with fail
      go_ret;exact⟨_,rfl,hF.out,L.out⟩
    ·have J:=fun W s=>aW (hE W s) he
     obtain⟨_,PW,Qj⟩:=lj.1 he;have Qk:=fun W (s:KW p W)=>mw D dc NS E.dm x p 1 2 a5 c5 W C.pl (by omega) (by omega) G PW C.aG O s;have P0:=fun W s=>z8 D dc x p 1 2 a5 c5 W C.pl (by omega) (by omega) G PW Qj O s;have P1:Hid (eZ T x= !(decide (0<(ai x).length)||fj x)):=by unfold Hid eZ;rw[PN.out,he];simp
     generalize ai x=lx at*;generalize fj x=sx at*;clear hE he C PN G PW Qj;go_wp2_with fail
     refine(d _ A.kw).mono ?_;rintro S V ⟨rfl,aa⟩;have K:=A.step aa;obtain⟨x0,x1,x2,x3,x4,x5,x6⟩:TS.L7 V wr.heap.size x a5 c5:=by
      repeat' apply And.intro
      all_goals exact TS.cell_kept aa (by first|(simp[go_sem];done)|(go_keep;done))
     have d0:V.cell? ⟨w.heap.size,0,none⟩=some (.slice D.a D.len dc):=TS.cell_kept aa (by rw[World.cell?_alloc_lt _ _ _ b0];exact c0);have d6:V.cell? ⟨w.heap.size+1,6,none⟩=some (.slice (some ⟨b,o,none⟩) e.es.length c):=TS.cell_kept aa (by rw[World.cell?_alloc_lt _ _ _ b6];exact c6);clear aa d A c0 c6;go_wp2_with fail
     refine(J _ K.kw).mono ?_;rintro S w2 ⟨rfl,u⟩;have P:=K.step u;obtain⟨y0,y1,y2,y3,y4,y5,y6⟩:TS.L7 w2 wr.heap.size x a5 c5:=by
      repeat' apply And.intro
      all_goals exact TS.cell_kept u (by assumption)
     have e0:=TS.cell_kept u d0;have e6:=TS.cell_kept u d6;clear u J K d0 d6 x0 x1 x2 x3 x4 x5 x6;go_wp2_with fail
     refine(Qk _ P.kw).mono ?_;rintro S w3 ⟨q3,a3,n3,c3,rfl,Ql,Qx,Qy,Qp,B⟩;have N:=P.step B;obtain⟨z0,z1,z2,z3,z4,z5,z6⟩:TS.L7 w3 wr.heap.size x a5 c5:=by
      repeat' apply And.intro
      all_goals exact TS.cell_kept B (by assumption)
     have f0:=TS.cell_kept B e0;have f6:=TS.cell_kept B e6;have P8:=Ql.out;clear B Qk P e0 e6 y0 y1 y2 y3 y4 y5 y6 Ql Qp;by_cases PO:0<lx.length
     ·have tp:(0:Int)<n3:=by omega
      have tq:0<n3:=by omega
      have hF:Hid (false=r):=(t.out (by rw[P1.out,decide_eq_true PO];rfl)).symm;have L:=Lib.hid N.up;clear P1 t l q PO P8;go_wp2_with fail
      go_ret;exact⟨_,rfl,hF.out,L.out⟩
     have Qq:n3=0:=by omega
     subst Qq;have PQ:Hid (eZ T x= !sx):=by unfold Hid;rw[P1.out,decide_eq_false PO];rfl
     clear P1 PO P8;cases sx
     case true=>
      have Q:=fun W s=>aW (P0 W s) rfl;have hF:Hid (false=r):=(t.out PQ.out).symm;clear P0 PQ t l q;go_wp2_with fail
      refine(Q _ N.kw).mono ?_;rintro S w4 ⟨rfl,R⟩;have L:=Lib.hid (N.step R).up;clear R Q;go_wp2_with fail
      go_ret;exact⟨_,rfl,hF.out,L.out⟩
     have Q:=fun W s=>aW (P0 W s) rfl;have Y:Hid (eZ T x=true):=PQ.out;clear P0 PQ t;go_wp2_with fail
     refine(Q _ N.kw).mono ?_;rintro S w4 ⟨rfl,R⟩;have P2:=N.step R;obtain⟨y0,y1,y2,y3,y4,y5,y6⟩:TS.L7 w4 wr.heap.size x a5 c5:=by
      repeat' apply And.intro
      all_goals exact TS.cell_kept R (by assumption)
     have e0:=TS.cell_kept R f0;have e6:=TS.cell_kept R f6;clear R Q N f0 f6 z0 z1 z2 z3 z4 z5 z6;go_wp2_with fail
     refine(PZ.out _ P2.kw _ ?_).mono ?_
     ·intro j hj W' a' c' Z Qc
      have Qd:TS.L7 W' wr.heap.size x a5 c5:=by
       repeat' apply And.intro
       all_goals exact TS.cell_kept Z (by assumption)
      exact xM p D dc x _ a5 c5 a' c' W' (fun Qe PV=>P7.out j hj a' c' Qe Qc PV) (P2.kw.grown Z) w.heap.size wr.heap.size (TS.cell_kept Z e0) Qd
     rintro S w5 ⟨bb,rfl,M,P3⟩;have Qm:=Lib.hid (P2.step P3);have f0:=TS.cell_kept P3 e0;have f6:=TS.cell_kept P3 e6;clear P3 PZ P2 e0 e6 y0 y1 y2 y3 y4 y5 y6;cases bb
     ·have hN:=Lib.hid (q.out Y.out M.out.symm)
      clear M q l Y;go_wp2_with fail
      go_roundw
      case rel=>exact⟨k+1,by omega,by go_num,hN.out.1,hN.out.2,f0,f6,Qm.out⟩
      case measure=>simp[intOf];omega
     ·have hF:Hid (false=r):=(l.out M.out.symm).symm
      have L:=Lib.hid Qm.out.up;clear M q l Y;go_wp2_with fail
      go_ret;exact⟨_,rfl,hF.out,L.out⟩
   ·have hF:Hid (g=r):=by
     refine(P9.out (fun y hy=>X.out y ?_) ?_).symm
     ·rw[List.take_of_length_le (by omega)];exact hy
     ·have:=P6.out;rwa [List.take_of_length_le (by omega)]at this
    have L:=hU.up;go_wp2_with fail
    go_ret;exact⟨_,rfl,hF.out,L⟩
 ·have t12:(e.k !=12)=true:=by simp[F]
  have hR:Hid (r=(mt T .term e false&&(g||aQ e&& !aZ e))):=by unfold Hid;rw[hr];exact js F
  have I:=fun W s=>xL E p dc h F hM (fun x hx=>(PX x hx).1) hT a c W hu s;have hE:=fun W s=>og p D dc e 2 2 a c W h.pl (by omega) (by omega) hu s;have hG:=fun(hk:e.k≠13) W s=>mn D dc e p 2 2 a c W h.pl (by omega) (by omega) F hk hu s;clear hr hM PX h F;cases f:mt T .term e false
  ·have d:=fun W s=>aW (I W s) f
   have hF:Hid (false=r):=by unfold Hid;rw[hR.out,f];rfl
   clear I f hE hG;go_enter Tryz.func117,Tryz.ntmps117;go_wp2_with fail
   refine(d _ ag.kw).mono ?_;rintro S V ⟨rfl,aa⟩;have L:=Lib.hid (ag.step aa).up;clear aa d;go_wp2_with fail
   go_ret;exact⟨_,rfl,hF.out,L.out⟩
  have d:=fun W s=>aW (I W s) f;cases g
  case true=>
   have hF:Hid (true=r):=by unfold Hid;rw[hR.out,f];rfl
   clear I f hE hG;go_enter Tryz.func117,Tryz.ntmps117;go_wp2_with fail
   refine(d _ ag.kw).mono ?_;rintro S V ⟨rfl,aa⟩;have L:=Lib.hid (ag.step aa).up;clear aa d;go_wp2_with fail
   go_ret;exact⟨_,rfl,hF.out,L.out⟩
  cases he:aQ e
  ·have J:=fun W s=>aW (hE W s) he
   have hF:Hid (false=r):=by unfold Hid;rw[hR.out,f,he];rfl
   clear I f hE hG he;go_enter Tryz.func117,Tryz.ntmps117;go_wp2_with fail
   refine(d _ ag.kw).mono ?_;rintro S V ⟨rfl,aa⟩;have A:=ag.step aa;have d0:V.cell? ⟨w.heap.size,0,none⟩=some (.slice D.a D.len dc):=TS.cell_kept aa (by simp[go_sem]);obtain⟨x0,x1,x2,x3,x4,x5,x6⟩:TS.L7 V (w.heap.size+1) e a c:=by
    repeat' apply And.intro
    all_goals exact TS.cell_kept aa (by first|(simp[go_sem];done)|(go_keep;done))
   clear aa d;go_wp2_with fail
   refine(J _ A.kw).mono ?_;rintro S w2 ⟨rfl,u⟩;have L:=Lib.hid (A.step u).up;clear u J;go_wp2_with fail
   go_ret;exact⟨_,rfl,hF.out,L.out⟩
  ·have J:=fun W s=>aW (hE W s) he
   have Qn:=hG (lj.1 he).2.1;have hF:Hid ((!aZ e)=r):=by unfold Hid;rw[hR.out,f,he];rfl
   generalize aZ e=ge at*;clear I f hE hG he;go_enter Tryz.func117,Tryz.ntmps117;go_wp2_with fail
   refine(d _ ag.kw).mono ?_;rintro S V ⟨rfl,aa⟩;have A:=ag.step aa;have d0:V.cell? ⟨w.heap.size,0,none⟩=some (.slice D.a D.len dc):=TS.cell_kept aa (by simp[go_sem]);obtain⟨x0,x1,x2,x3,x4,x5,x6⟩:TS.L7 V (w.heap.size+1) e a c:=by
    repeat' apply And.intro
    all_goals exact TS.cell_kept aa (by first|(simp[go_sem];done)|(go_keep;done))
   clear aa d;go_wp2_with fail
   refine(J _ A.kw).mono ?_;rintro S w2 ⟨rfl,u⟩;have K:=A.step u;have e0:=TS.cell_kept u d0;obtain⟨y0,y1,y2,y3,y4,y5,y6⟩:TS.L7 w2 (w.heap.size+1) e a c:=by
    repeat' apply And.intro
    all_goals exact TS.cell_kept u (by assumption)
   clear u J A d0 x0 x1 x2 x3 x4 x5 x6;go_wp2_with fail
   refine(Qn _ K.kw).mono ?_;rintro S w3 ⟨b,rfl,hb,B⟩;have L:=Lib.hid (K.step B).up;have Qr:Hid ((!b)=r):=by unfold Hid;rw[hb.out];exact hF.out
   clear hb B Qn;go_wp2_with fail
   go_ret;exact⟨_,rfl,Qr.out,L.out⟩
end Go.Proofs.YtdkmnkjhhhmglaaGreatDoor
namespace TS
theorem xO{D:Dl}{T:List U}{NS:List (List UInt8)}{i:Nat}(E:Env D T NS i){t:U}{pos f:Nat}{g:Bool}(h:cF D T NS i t pos f)(c:t.k=10)
 (o:∀e∈t.es.drop t.m.toNat,mt T .elem e g=true)(hM:∀m∈t.es.take t.m.toNat,mt T .type m false=true):
 (∀m∈ai t,aR m)∧∀e∈t.es.drop t.m.toNat,aQ e=true→∀m∈ai e,aR m:=by
 have hu:under t=t:=cQ (by omega) (by omega) (by omega) (by omega);have d:∀e∈t.es.drop t.m.toNat,aQ e=true→∀m∈ai e,aR m:=fun e he a=>by
  unfold aQ at a;simp only[Bool.and_eq_true,bne_iff_ne,ne_eq]at a;have b:=o e he;rw[js a.1.1]at b;simp only[Bool.and_eq_true]at b;have j:=b.1;rw[fF a.1.2]at j;have hk:=h.elem c he;exact(ki E.ok E.bp E.mt e 2 2 _ i (Nat.le_refl _) hk.bp hk.pl (by omega) a.1.1 a.1.2 j).1
 refine⟨fun m hm=> ?_,d⟩;rcases(iu hm).2 with hm|⟨e,he,a,hm⟩
 ·rw[hu]at hm
  obtain⟨n,hk⟩:=h.ju c hm;have l:=hk.pl.form.aE;exact(ki E.ok E.bp E.mt m 0 n false i (Nat.le_refl _) hk.bp hk.pl hk.f2 l.1 l.2 (hM m hm)).2 (me m 0 n hk.bp hk.pl hk.f2 l.1 l.2 (hM m hm))
 ·rw[hu]at he
  exact d e he a m hm
end TS
namespace Go.Proofs.YtdkmnkjhhhmglaaGreatDoor
open Go.RowKit TS
theorem Gg{D:Dl}{T:List U}{NS:List (List UInt8)}{i:Nat}(E:Env D T NS i)(p:Pm)(dc:Nat){t:U}{pos f:Nat}(h:cF D T NS i t pos f)(H:t.k=10)(hM:∀x,x.sz<t.sz→jf D dc T NS i x)
 (hT:eV p D T)(g:Bool)(a:Option Addr)(c:Nat)(w:World)(hu:ak p D t a c)(hw:KW p w):
 Calls Tryz.prog 66 #[.slice D.a D.len dc,.agg #[.int .i64 t.k,.int .i64 t.n,.int .i64 t.m,.bool t.v,.string t.nm,.string t.tg,.slice a t.es.length c],.bool g] w (RB (mt T .type t g) w):=by
 obtain⟨r,hr⟩:∃r,r=mt T .type t g:=⟨_,rfl⟩
 rw[←hr];have hR:Hid (r=(((t.es.drop t.m.toNat).all fun e=>mt T .elem e g)&&(((t.es.take t.m.toNat).all fun e=>mt T .type e false)&&eU t&&decide (bT t≤50)))):=by unfold Hid;rw[hr];exact iw H
 clear hr;obtain⟨Qj,P_,h4⟩:=h.pl.form.lh H;have ag:Up p w (w.alloc (.cells #[.int .i64 t.k,.int .i64 t.n,.int .i64 t.m,.bool t.v,.string t.nm,.string t.tg,.slice a t.es.length c] 25)):=(Up.refl hw).alloc _;have Y:=hu.cap
 have P0:=Lib.hid fun e (he:e∈t.es.drop t.m.toNat) W (s:KW p W) a' c' (R:ak p D e a' c')=>Gf E p dc (h.elem H he) (hM e (U.az (List.mem_of_mem_drop he)))
  (fun x hx=>⟨hM x (by have:=U.az hx;have:=U.az (List.mem_of_mem_drop he);omega),fun y hy=>hM y (by have:=U.az hy;have:=U.az hx;have:=U.az (List.mem_of_mem_drop he);omega)⟩) hT g a' c' W R s
 have P1:=Lib.hid fun e (he:e∈t.es.take t.m.toNat) a c W (R:ak p D e a c) (s:KW p W)=>show Calls Tryz.prog 32 #[.slice D.a D.len dc,.agg #[.int .i64 e.k,.int .i64 e.n,.int .i64 e.m,.bool e.v,.string e.nm,.string e.tg,.slice a e.es.length c],.bool false] W (RB (mt T .type e false) W)from
  let⟨f',hk⟩:=h.ju H he;hM e (U.az (List.mem_of_mem_take he)) false p 0 f' a c W hk hk.pl.form.aE.1 hk.pl.form.aE.2 hT R s
 have z:=fun W s n hn=>xK p D dc T (t.es.take t.m.toNat) a n c W hn P1.out (hu.list.take _) (by simp;omega) s;obtain⟨f1,P2,PU,P3⟩:=h.pl.jx h.f2 H;have M:=fun W s=>Au D dc t p 0 f1 a c W P3 P2 PU (by omega) (by omega) h.dep hu s;have Qa:=Lib.hid fun(P4:∀e∈t.es.drop t.m.toNat,mt T .elem e g=true) (PX:∀m∈t.es.take t.m.toNat,mt T .type m false=true) W (s:KW p W)=>
  F9 p D dc NS E.dm t pos f a c W h.pl h.f2 H h.aG (xO E h H P4 PX).1 (xO E h H P4 PX).2 hu s
 have Qk:max t.m 0=t.m:=by omega
 have Qd:t.m≤t.es.length:=by omega
 have Qe:¬t.m<0:=by omega
 have Ql:=Y.1;have Qm:=Y.2;have Qn:t.m.toNat≤c:=by omega
 have Qf:t.m≤c:=by omega
 have P5:t.m.toNat<c∨c=t.m.toNat:=by omega
 have Qg:((t.es.drop t.m.toNat).length:Int)≤4:=by simp;omega
 have Q:=Lib.hid ag;clear hM h P3 P2 PU P1 Y ag hT;have fin:∀(N:World),Up p w N→(N.cell? ⟨w.heap.size,0,none⟩=some (.int .i64 t.k)∧N.cell? ⟨w.heap.size,1,none⟩=some (.int .i64 t.n)∧N.cell? ⟨w.heap.size,2,none⟩=some (.int .i64 t.m)∧N.cell? ⟨w.heap.size,3,none⟩=some (.bool t.v)∧N.cell? ⟨w.heap.size,4,none⟩=some (.string t.nm)∧N.cell? ⟨w.heap.size,5,none⟩=some (.string t.tg)∧N.cell? ⟨w.heap.size,6,none⟩=some (.slice a t.es.length c))→(∀e∈t.es.drop t.m.toNat,mt T .elem e g=true)→Hid (Up p w N∧(N.cell? ⟨w.heap.size,0,none⟩=some (.int .i64 t.k)∧N.cell? ⟨w.heap.size,1,none⟩=some (.int .i64 t.n)∧N.cell? ⟨w.heap.size,2,none⟩=some (.int .i64 t.m)∧N.cell? ⟨w.heap.size,3,none⟩=some (.bool t.v)∧N.cell? ⟨w.heap.size,4,none⟩=some (.string t.nm)∧N.cell? ⟨w.heap.size,5,none⟩=some (.string t.tg)∧N.cell? ⟨w.heap.size,6,none⟩=some (.slice a t.es.length c))∧r=(((t.es.take t.m.toNat).all fun e=>mt T .type e false)&&eU t&&decide (bT t≤50))∧∀(PX:∀m∈t.es.take t.m.toNat,mt T .type m false=true) W(s:KW p W),Calls Tryz.prog 118 #[.slice D.a D.len dc,.agg #[.int .i64 t.k,.int .i64 t.n,.int .i64 t.m,.bool t.v,.string t.nm,.string t.tg,.slice a t.es.length c]] W (RB (eU t) W)):=fun N h1 h2 h3=>
  ⟨h1,h2,by rw[hR.out,show((t.es.drop t.m.toNat).all fun e=>mt T .elem e g)=true from List.all_eq_true.2 h3,Bool.true_and],Qa.out h3⟩
 have P6:=hR;clear hR H;rcases P5 with P5|rfl
 ·go_enter Tryz.func66,Tryz.ntmps66
  go_wp2_with fail
  have hL:=hu.list.cut _ P_;have hlen:(t.es.drop t.m.toNat).length=t.es.length- t.m.toNat:=by simp
  have P7:TS.L7 (w.alloc (.cells #[.int .i64 t.k,.int .i64 t.n,.int .i64 t.m,.bool t.v,.string t.nm,.string t.tg,.slice a t.es.length c] 25)) w.heap.size t a c:=by
   repeat' apply And.intro
   all_goals simp[go_sem]
  have PV:=Lib.hid P7;clear P7;generalize t.es.drop t.m.toNat=ds at*;generalize P8:t.es.length- t.m.toNat=n2 at*;have Qh:=Lib.hid P8;clear P8;subst hlen;go_loopw [15] (fun i wr=> ∃k:Nat,k≤ds.length∧i= .int .i64 k∧(∀e∈ds.take k,mt T .elem e g=true)∧(wr.cell? ⟨w.heap.size,0,none⟩=some (.int .i64 t.k)∧wr.cell? ⟨w.heap.size,1,none⟩=some (.int .i64 t.n)∧wr.cell? ⟨w.heap.size,2,none⟩=some (.int .i64 t.m)∧wr.cell? ⟨w.heap.size,3,none⟩=some (.bool t.v)∧wr.cell? ⟨w.heap.size,4,none⟩=some (.string t.nm)∧wr.cell? ⟨w.heap.size,5,none⟩=some (.string t.tg)∧wr.cell? ⟨w.heap.size,6,none⟩=some (.slice a t.es.length c))∧Up p w wr) (fun i _=>ds.length- (intOf i).toNat)
  case atStart=>exact⟨0,Nat.zero_le _,rfl,(fun e he=>by simp at he),PV.out,Q.out⟩
  case round=>
   clear PV Q;obtain⟨k,hk,rfl,PW,⟨x0,x1,x2,x3,x4,x5,x6⟩,hU⟩:=hrel;have P:=Lib.hid PW;clear PW;have b0:=World.block_lt_of_cell? _ _ x0;simp only at b0;by_cases PS:k<ds.length
   ·obtain⟨b,o,PY⟩:=hL.bN (by omega)
    rw[PY]at hL;obtain⟨a5,c5,h7,R⟩:=hL.get k PS;have Z:=fun W s=>P0.out ds[k] (List.getElem_mem PS) W s a5 c5 R;have I:Hid (mt T .elem ds[k] g=true→∀e∈ds.take (k+1),mt T .elem e g=true):=fun h1 e he=>by
     rw[List.take_succ_eq_append_getElem PS]at he;rcases List.mem_append.1 he with he|he
     ·exact P.out e he
     ·simp at he;subst he;exact h1
    have J:Hid (mt T .elem ds[k] g=false→false=r):=fun h1=>by
     rw[P6.out,show(ds.all fun e=>mt T .elem e g)=false from by rw[List.all_eq_false];exact⟨_,List.getElem_mem PS,by rw[h1];simp⟩];rfl
    obtain⟨e,he⟩:∃e,e=ds[k]:=⟨_,rfl⟩
    rw[←he]at h7 R Z I J;clear he;obtain⟨g0,g1,g2,g3,g4,g5,g6⟩:TS.C7 wr b (o+k*7) e a5 c5:=h7.world hU.kw;clear h7;have Qi:(k:Int)<ds.length:=by omega
    have PT:=hU.alloc (.cells #[.int .i64 e.k,.int .i64 e.n,.int .i64 e.m,.bool e.v,.string e.nm,.string e.tg,.slice a5 e.es.length c5] 25);have s7:((wr.alloc (.cells #[.int .i64 e.k,.int .i64 e.n,.int .i64 e.m,.bool e.v,.string e.nm,.string e.tg,.slice a5 e.es.length c5] 25)).cell? ⟨w.heap.size,0,none⟩=some (.int .i64 t.k)∧(wr.alloc (.cells #[.int .i64 e.k,.int .i64 e.n,.int .i64 e.m,.bool e.v,.string e.nm,.string e.tg,.slice a5 e.es.length c5] 25)).cell? ⟨w.heap.size,1,none⟩=some (.int .i64 t.n)∧(wr.alloc (.cells #[.int .i64 e.k,.int .i64 e.n,.int .i64 e.m,.bool e.v,.string e.nm,.string e.tg,.slice a5 e.es.length c5] 25)).cell? ⟨w.heap.size,2,none⟩=some (.int .i64 t.m)∧(wr.alloc (.cells #[.int .i64 e.k,.int .i64 e.n,.int .i64 e.m,.bool e.v,.string e.nm,.string e.tg,.slice a5 e.es.length c5] 25)).cell? ⟨w.heap.size,3,none⟩=some (.bool t.v)∧(wr.alloc (.cells #[.int .i64 e.k,.int .i64 e.n,.int .i64 e.m,.bool e.v,.string e.nm,.string e.tg,.slice a5 e.es.length c5] 25)).cell? ⟨w.heap.size,4,none⟩=some (.string t.nm)∧(wr.alloc (.cells #[.int .i64 e.k,.int .i64 e.n,.int .i64 e.m,.bool e.v,.string e.nm,.string e.tg,.slice a5 e.es.length c5] 25)).cell? ⟨w.heap.size,5,none⟩=some (.string t.tg)∧(wr.alloc (.cells #[.int .i64 e.k,.int .i64 e.n,.int .i64 e.m,.bool e.v,.string e.nm,.string e.tg,.slice a5 e.es.length c5] 25)).cell? ⟨w.heap.size,6,none⟩=some (.slice a t.es.length c)):=L7.alloc (w:=wr) (b:=w.heap.size) (u:=t) ⟨x0,x1,x2,x3,x4,x5,x6⟩ _;have Qb:=Lib.hid s7;clear s7;cases hm:mt T .elem e g
    ·have PM:=fun W s=>aW (Z W s) hm
     have hF:=Lib.hid (J.out hm);clear Z hm I J;simp only[PY]at*;go_wp2_with fail
     refine(PM _ PT.kw).mono ?_;rintro S L ⟨rfl,j⟩;have V:=Lib.hid (PT.step j).up;clear j PM;go_wp2_with fail
     go_ret;exact⟨_,rfl,hF.out,V.out⟩
    ·have PM:=fun W s=>aW (Z W s) hm
     have hN:=Lib.hid (I.out hm);clear Z hm I J;simp only[PY]at*;go_wp2_with fail
     refine(PM _ PT.kw).mono ?_;rintro S L ⟨rfl,j⟩;have A:=Lib.hid (PT.step j);have s8:(L.cell? ⟨w.heap.size,0,none⟩=some (.int .i64 t.k)∧L.cell? ⟨w.heap.size,1,none⟩=some (.int .i64 t.n)∧L.cell? ⟨w.heap.size,2,none⟩=some (.int .i64 t.m)∧L.cell? ⟨w.heap.size,3,none⟩=some (.bool t.v)∧L.cell? ⟨w.heap.size,4,none⟩=some (.string t.nm)∧L.cell? ⟨w.heap.size,5,none⟩=some (.string t.tg)∧L.cell? ⟨w.heap.size,6,none⟩=some (.slice a t.es.length c)):=L7.below (w:=wr.alloc (.cells #[.int .i64 e.k,.int .i64 e.n,.int .i64 e.m,.bool e.v,.string e.nm,.string e.tg,.slice a5 e.es.length c5] 25)) (b:=w.heap.size) (u:=t) Qb.out j;have Qc:=Lib.hid s8;clear j PM s8;go_wp2_with fail
     go_roundw
     case rel=>exact⟨k+1,by omega,by go_num,hN.out,Qc.out,A.out⟩
     case measure=>simp only[intOf];omega
   ·have hX:=fin _ hU ⟨x0,x1,x2,x3,x4,x5,x6⟩ (fun e he=>P.out e (by rw[List.take_of_length_le (by omega)];exact he))
    clear x0 x1 x2 x3 x4 x5 x6 hU P fin;obtain⟨l,⟨x0,x1,x2,x3,x4,x5,x6⟩,PN,O⟩:=hX.out;have F:=Lib.hid PN;have G:=Lib.hid O;clear PN O hX;cases K:(t.es.take t.m.toNat).all fun e=>mt T .type e false
    ·have d:=fun W s n hn=>aW (z W s n hn) K
     have hF:Hid (false=r):=by unfold Hid;rw[F.out,K];rfl
     clear z K M G;go_wp2_with fail
     refine(d _ l.kw _ (by simp;try omega)).mono ?_;rintro S L ⟨rfl,j⟩;have V:=Lib.hid (l.step j).up;clear j d;go_wp2_with fail
     go_ret;exact⟨_,rfl,hF.out,V.out⟩
    have d:=fun W s n hn=>aW (z W s n hn) K;have B:=G.out (List.all_eq_true.1 K);clear G;cases X:eU t
    ·have q:=fun W s=>aW (B W s) X
     have hF:Hid (false=r):=by unfold Hid;rw[F.out,K,X];rfl
     clear z K M B X;go_wp2_with fail
     refine(d _ l.kw _ (by simp;try omega)).mono ?_;rintro S L ⟨rfl,j⟩;have A:=l.step j;obtain⟨y0,y1,y2,y3,y4,y5,y6⟩:TS.L7 L w.heap.size t a c:=by
      repeat' apply And.intro
      all_goals exact TS.cell_kept j (by assumption)
     clear j d l;go_wp2_with fail
     refine(q _ A.kw).mono ?_;rintro S w4 ⟨rfl,C⟩;have V:=Lib.hid (A.step C).up;clear C q;go_wp2_with fail
     go_ret;exact⟨_,rfl,hF.out,V.out⟩
    have q:=fun W s=>aW (B W s) X;have hF:Hid (decide (bT t≤50)=r):=by unfold Hid;rw[F.out,K,X];rfl
    generalize bT t=wt at*;clear z K B X;go_wp2_with fail
    refine(d _ l.kw _ (by simp;try omega)).mono ?_;rintro S L ⟨rfl,j⟩;have A:=l.step j;obtain⟨y0,y1,y2,y3,y4,y5,y6⟩:TS.L7 L w.heap.size t a c:=by
     repeat' apply And.intro
     all_goals exact TS.cell_kept j (by assumption)
    clear j d l x0 x1 x2 x3 x4 x5 x6;go_wp2_with fail
    refine(q _ A.kw).mono ?_;rintro S w4 ⟨rfl,C⟩;have PO:=A.step C;obtain⟨x0,x1,x2,x3,x4,x5,x6⟩:TS.L7 w4 w.heap.size t a c:=by
     repeat' apply And.intro
     all_goals exact TS.cell_kept C (by assumption)
    clear C q A y0 y1 y2 y3 y4 y5 y6;go_wp2_with fail
    refine(M _ PO.kw).mono ?_;rintro S w5 ⟨⟨nx,rfl,PZ⟩,PQ⟩;have PR:=PZ.out;subst PR;have V:=Lib.hid (PO.step PQ).up;clear PQ M;go_wp2_with fail
    go_ret;exact⟨_,rfl,hF.out,V.out⟩
 ·have P9:t.es.drop t.m.toNat= []:=List.drop_eq_nil_of_le (by omega)
  have hX:=fin _ Q.out (by repeat' apply And.intro
                           all_goals simp[go_sem]) (fun e he=>by rw[P9]at he;cases he)
  clear P9 fin Q P6 P0;obtain⟨l,⟨x0,x1,x2,x3,x4,x5,x6⟩,PN,O⟩:=hX.out;have F:=Lib.hid PN;have G:=Lib.hid O;clear PN O hX;cases K:(t.es.take t.m.toNat).all fun e=>mt T .type e false
  ·have d:=fun W s n hn=>aW (z W s n hn) K
   have hF:Hid (false=r):=by unfold Hid;rw[F.out,K];rfl
   clear z K M G;go_enter Tryz.func66,Tryz.ntmps66;go_wp2_with fail
   refine wp_loop_rounds 1 ?_;rw[rounds_succ];go_wp2_with fail
   refine(d _ l.kw _ (by simp;try omega)).mono ?_;rintro S L ⟨rfl,j⟩;have V:=Lib.hid (l.step j).up;clear j d;go_wp2_with fail
   go_ret;exact⟨_,rfl,hF.out,V.out⟩
  have d:=fun W s n hn=>aW (z W s n hn) K;have B:=G.out (List.all_eq_true.1 K);clear G;cases X:eU t
  ·have q:=fun W s=>aW (B W s) X
   have hF:Hid (false=r):=by unfold Hid;rw[F.out,K,X];rfl
   clear z K M B X;go_enter Tryz.func66,Tryz.ntmps66;go_wp2_with fail
   refine wp_loop_rounds 1 ?_;rw[rounds_succ];go_wp2_with fail
   refine(d _ l.kw _ (by simp;try omega)).mono ?_;rintro S L ⟨rfl,j⟩;have A:=l.step j;obtain⟨y0,y1,y2,y3,y4,y5,y6⟩:TS.L7 L w.heap.size t a t.m.toNat:=by
    repeat' apply And.intro
    all_goals exact TS.cell_kept j (by assumption)
   clear j d l;go_wp2_with fail
   refine(q _ A.kw).mono ?_;rintro S w4 ⟨rfl,C⟩;have V:=Lib.hid (A.step C).up;clear C q;go_wp2_with fail
   go_ret;exact⟨_,rfl,hF.out,V.out⟩
  have q:=fun W s=>aW (B W s) X;have hF:Hid (decide (bT t≤50)=r):=by unfold Hid;rw[F.out,K,X];rfl
  generalize bT t=wt at*;clear z K B X;go_enter Tryz.func66,Tryz.ntmps66;go_wp2_with fail
  refine wp_loop_rounds 1 ?_;rw[rounds_succ];go_wp2_with fail
  refine(d _ l.kw _ (by simp;try omega)).mono ?_;rintro S L ⟨rfl,j⟩;have A:=l.step j;obtain⟨y0,y1,y2,y3,y4,y5,y6⟩:TS.L7 L w.heap.size t a t.m.toNat:=by
   repeat' apply And.intro
   all_goals exact TS.cell_kept j (by assumption)
  clear j d l x0 x1 x2 x3 x4 x5 x6;go_wp2_with fail
  refine(q _ A.kw).mono ?_;rintro S w4 ⟨rfl,C⟩;have PO:=A.step C;obtain⟨x0,x1,x2,x3,x4,x5,x6⟩:TS.L7 w4 w.heap.size t a t.m.toNat:=by
   repeat' apply And.intro
   all_goals exact TS.cell_kept C (by assumption)
  clear C q A y0 y1 y2 y3 y4 y5 y6;go_wp2_with fail
  refine(M _ PO.kw).mono ?_;rintro S w5 ⟨⟨nx,rfl,PZ⟩,PQ⟩;have PR:=PZ.out;subst PR;have V:=Lib.hid (PO.step PQ).up;clear PQ M;go_wp2_with fail
  go_ret;exact⟨_,rfl,hF.out,V.out⟩
end Go.Proofs.YtdkmnkjhhhmglaaGreatDoor
