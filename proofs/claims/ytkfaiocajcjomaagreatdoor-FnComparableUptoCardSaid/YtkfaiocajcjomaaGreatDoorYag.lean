import Derived.Conc.MuData
import Derived.Conc.MuLone
import Derived.Deep.RegionHeld3
import Derived.Laws.LoneSync
import Derived.OrdersHeld
import Derived.Test.YtkfaiocajcjomaaGreatDoorYae
import Derived.Test.YtkfaiocajcjomaaGreatDoorYaf
set_option maxRecDepth 100000
set_option maxHeartbeats 8000000
set_option linter.all false
namespace TS
open Go Go.RowKit
structure Pc where
 d:Int
 v:Bool
 t:Bool
def Pc.behind(q:Pc):Pc:={q with v:=false}
def Pc.inside(q:Pc):Pc:={q with v:=true,t:=true}
def bT(n m:Int):Bool:=decide (0≤n)&&decide (n<m)
def ew(l:List U):Bool:=decide (∀e∈l,aO e.nm=true)&&decide ((l.map fun e=>e.nm.toList).Nodup)
def dU:List U→Bool
 | []=>true
 |e::r=>e.k==7&&aO e.nm&&(match r with| []=>true|e'::_=>Go.Op.bytesLess e.nm.toList e'.nm.toList)&&dU r
inductive Pt|type|term|elem
def ah(len:Nat)(u:U)(q:Pc)(s:Pt):Bool:=
 match s with
 | .elem=>if u.k=12 then decide (2≤u.es.length)&&decide (u.es.length≤8)&&u.es.attach.all fun⟨e,_⟩=>ah len e q .term else
  if u.k=13 then decide (u.es.length=1)&&u.es.attach.all fun⟨e,_⟩=>ah len e q .type else ah len u q .type
 | .term=>if u.k=13 then decide (u.es.length=1)&&u.es.attach.all fun⟨e,_⟩=>ah len e q .type else ah len u q .type
 | .type=>
   if u.k=1 then bT u.n 18&&decide (u.es.length=0)
   else if u.k=14∨u.k=15∨u.k=16 then decide (u.es.length=0)
   else if u.k=11 then bT u.n len&&(!q.v&& !q.t||decide (u.n<q.d))&&decide (u.es.length=0)
   else if u.k=2∨u.k=3 then decide (0≤u.n)&&decide (u.es.length=1)&&u.es.attach.all fun⟨e,_⟩=>ah len e q .type
   else if u.k=5 then ew u.es&&u.es.attach.all fun⟨e,_⟩=>ah len e q .type
   else if u.k=10 then bT u.m (u.es.length+1)&&decide (u.es.length- u.m≤4)&&dU (u.es.take u.m.toNat)&&
    ((u.es.take u.m.toNat).attach.all fun⟨e,_⟩=>ah len e q.behind .type)&&((u.es.drop u.m.toNat).attach.all fun⟨e,_⟩=>ah len e q.inside .elem)
   else if u.k=4∨u.k=6∨u.k=9 then bT u.n 3&&decide (u.es.length=1)&&u.es.attach.all fun⟨e,_⟩=>ah len e q.behind .type
   else if u.k=8 then decide (u.es.length=2)&&u.es.attach.all fun⟨e,_⟩=>ah len e q.behind .type
   else if u.k=7 then bT u.m (u.es.length+1)&&(!u.v||decide (0<u.m)&&((u.es.getD (u.m.toNat- 1) bS).k==4))&&u.es.attach.all fun⟨e,_⟩=>ah len e q.behind .type
   else false
termination_by (u.sz,match s with| .type=>0| .term=>1| .elem=>2)
decreasing_by
 all_goals first
  |exact Prod.Lex.right _ (by decide)
  |exact Prod.Lex.left _ _ (U.az ‹_›)
  |exact Prod.Lex.left _ _ (U.az (List.mem_of_mem_take ‹_›))
  |exact Prod.Lex.left _ _ (U.az (List.mem_of_mem_drop ‹_›))
end TS
namespace TS
open Go
def jQ(ops:Array Oper):List (Nat×Bool)→Array Bool→Bool
 | [],listed=>(Region.ready .any ops listed).isEmpty
 |(i,s)::r,listed=>(if s then Region.free .any ops listed i&&(Region.ready .any ops listed).contains i else Region.ready .any ops listed== [i])&&jQ ops r (listed.setIfInBounds i true)
def dM(P:Program)(ops:Array Oper)(Q:Exit→Act→World→Prop)(S:World→Prop):List (Nat×Bool)→Act→World→Prop
 | [],a,w=>Q .normal a w
 |(i,s)::r,a,w=> ∃o,ops[i]?=some o∧
  if s then ∃v,YieldsIf P ops S o v a∧dM P ops Q S r (a.put o.dst v) w
  else wpOp P ops Q i (fun a' b=>S b∧dM P ops Q S r a' b) a w
section
variable {P:Program} {ops:Array Oper} {Q:Exit→Act→World→Prop} {S:World→Prop}
theorem nW(b:Region.noSelect ops=true)(f:∀c(a:Act) d v w,Q (.panic c) (a.put d v) w→Q (.panic c) a w):
 ∀(l:List (Nat×Bool))(listed:Array Bool)(a:Act)(w:World)(fuel:Nat),l.length≤fuel→jQ ops l listed=true→S w→dM P ops Q S l a w→wpAnyH P .any ops Q S fuel listed a w
 | [],listed,a,w,fuel,_,e,_,h=>wpAnyH_done (by simpa [jQ]using e) h fuel
 |(i,s)::r,listed,a,w,fuel,k,e,m,h=>by
  obtain⟨o,p,h⟩:=h;obtain⟨fuel,rfl⟩:∃n,fuel=n+1:=⟨fuel- 1,by simp at k;omega⟩
  simp only[jQ,Bool.and_eq_true]at e;simp only[List.length_cons]at k;cases s with
  |true=>
   simp only[if_true,Bool.and_eq_true]at e h;obtain⟨v,q,h⟩:=h;exact wpAnyH_take p b e.1.1 e.1.2 (fun c a w=>f c a _ _ w) q m (nW b f r _ _ _ fuel (by omega) e.2 m h)
  |false=>
   simp only[Bool.false_eq_true,if_false,beq_iff_eq]at e h;refine wpAnyH_all (rs:= [i]) e.1 (by simp) ?_;intro j t;have:j=i:=by simpa using t
   subst this;exact wpOp_mono (fun a' u g=>⟨g.1,nW b f r _ _ _ fuel (by omega) e.2 g.1 g.2⟩) h
def nth{α:Type}:List α→Nat→Option α
 | [],_=>none
 |x::_,0=>some x
 |_::r,n+1=>nth r n
theorem qW{α:Type}:∀(l:List α)(n:Nat),nth l n=l[n]?
 | [],_=>by simp[nth]
 |_::_,0=>rfl
 |_::r,n+1=>by simp[nth,qW r n]
theorem jg{ops:Array Oper}{i:Nat}{o:Oper}(h:nth ops.toList i=some o):ops[i]?=some o:=by rw[qW]at h;simpa using h
theorem v_{id:Nat}{a:Act}{w:World}(S:World→Prop)(l:List (Nat×Bool))(hm:P.follows .mixedOrders=true)(b:Region.noSelect ops=true)(d:jQ ops l (Array.replicate ops.size false)=true)(e:l.length≤ops.size)
 (c:S w.drew)(h:S w.drew→dM P ops (NoPanic Q) S l a w.drew):(Code.region id ops true).wp P Q a w:=
 wp_region_noPanic (wp_region_held (S:=S) hm (nW b (fun _ _ _ _ _ h=>h) l _ a w.drew _ e d c (h c)))
theorem bM{a:Act}{w:World}(h:Q .normal a w):dM P ops (NoPanic Q) S [] a w:=h
theorem wa{i:Nat}{r:List (Nat×Bool)}{o:Oper}{v:Value}{a:Act}{w:World}(b:nth ops.toList i=some o)(hw:Region.wanted o (yielded ops a.tmps)=true)(c:∀W,S W→(execOp a.eval o).run P W= .ok (.value v) W)
 (h:dM P ops Q S r (a.put o.dst v) w):dM P ops Q S ((i,true)::r) a w:=⟨o,jg b,by rw[if_pos rfl];exact⟨v,.inl ⟨hw,c⟩,h⟩⟩
theorem we{i:Nat}{s:Bool}{r:List (Nat×Bool)}{o:Oper}{a:Act}{w:World}(b:nth ops.toList i=some o)(hw:Region.wanted o (yielded ops a.tmps)=false)(d:S w)
 (h:dM P ops Q S r (a.put o.dst undef) w):dM P ops Q S ((i,s)::r) a w:=by
 have c:=jg b;refine⟨o,c,?_⟩;cases s with
 |true=>rw[if_pos rfl];exact⟨undef,.inr ⟨hw,rfl⟩,h⟩
 |false=>rw[if_neg (by simp)];simp only[wpOp,c,hw];exact⟨d,h⟩
theorem nX{i:Nat}{r:List (Nat×Bool)}{o:Oper}{a:Act}{w:World}(b:nth ops.toList i=some o)(hw:Region.wanted o (yielded ops a.tmps)=true)
 (h:∀K:Act→World→Prop,(∀a w,S w→(S w→dM P ops Q S r a w)→K a w)→o.wp P a w K Q):dM P ops Q S ((i,false)::r) a w:=by
 have c:=jg b;refine⟨o,c,?_⟩;rw[if_neg (by simp)];simp only[wpOp,c,hw,if_true];exact .inl (h _ fun a w d h=>⟨d,h d⟩)
end
end TS
namespace Go.Proofs.YtkfaiocajcjomaaGreatDoor
open Go.RowKit
theorem eM{T e:TypeId}(a u:TypeId)(v:Value)(W:World)(hT:Tryz.prog.underlying T=some (.pointer e))(b:(zeroValue T).run Tryz.prog W= .ok (.pointer none) W):
 (Instr.typeAssert (.iface u v) a T true).run Tryz.prog W= .ok (if u=T then .tuple #[v,.bool true]else .tuple #[.pointer none,.bool false]) W:=by
 simp only[Instr.typeAssert,Sem.run_bind,run_underlying hT,Result.andThen_ok];by_cases h:u=T
 ·simp[h]
 ·simp[h,b]
theorem mH(a u:TypeId)(v:Value)(W:World):(Instr.typeAssert (.iface u v) a 128 true).run Tryz.prog W= .ok (if u=128 then .tuple #[v,.bool true]else .tuple #[.pointer none,.bool false]) W:=eM a u v W Tryz.underlying128 (by kernel_rfl)
theorem asNamed(a u:TypeId)(v:Value)(W:World):(Instr.typeAssert (.iface u v) a 56 true).run Tryz.prog W= .ok (if u=56 then .tuple #[v,.bool true]else .tuple #[.pointer none,.bool false]) W:=eM a u v W Tryz.underlying56 (by kernel_rfl)
theorem oN(a u:TypeId)(v:Value)(W:World):(Instr.typeAssert (.iface u v) a 211 true).run Tryz.prog W= .ok (if u=211 then .tuple #[v,.bool true]else .tuple #[.pointer none,.bool false]) W:=eM a u v W Tryz.underlying211 (by kernel_rfl)
theorem dG(a u:TypeId)(v:Value)(W:World):(Instr.typeAssert (.iface u v) a 32 true).run Tryz.prog W= .ok (if u=32 then .tuple #[v,.bool true]else .tuple #[.pointer none,.bool false]) W:=eM a u v W Tryz.underlying32 (by kernel_rfl)
theorem br(a u:TypeId)(v:Value)(W:World):(Instr.typeAssert (.iface u v) a 91 true).run Tryz.prog W= .ok (if u=91 then .tuple #[v,.bool true]else .tuple #[.pointer none,.bool false]) W:=eM a u v W Tryz.underlying91 (by kernel_rfl)
theorem fP(a u:TypeId)(v:Value)(W:World):(Instr.typeAssert (.iface u v) a 94 true).run Tryz.prog W= .ok (if u=94 then .tuple #[v,.bool true]else .tuple #[.pointer none,.bool false]) W:=eM a u v W Tryz.underlying94 (by kernel_rfl)
theorem asTuple(a u:TypeId)(v:Value)(W:World):(Instr.typeAssert (.iface u v) a 95 true).run Tryz.prog W= .ok (if u=95 then .tuple #[v,.bool true]else .tuple #[.pointer none,.bool false]) W:=eM a u v W Tryz.underlying95 (by kernel_rfl)
theorem cz(a u:TypeId)(v:Value)(W:World):(Instr.typeAssert (.iface u v) a 130 true).run Tryz.prog W= .ok (if u=130 then .tuple #[v,.bool true]else .tuple #[.pointer none,.bool false]) W:=eM a u v W Tryz.underlying130 (by kernel_rfl)
theorem asSlice(a u:TypeId)(v:Value)(W:World):(Instr.typeAssert (.iface u v) a 132 true).run Tryz.prog W= .ok (if u=132 then .tuple #[v,.bool true]else .tuple #[.pointer none,.bool false]) W:=eM a u v W Tryz.underlying132 (by kernel_rfl)
theorem cA(a u:TypeId)(v:Value)(W:World):(Instr.typeAssert (.iface u v) a 134 true).run Tryz.prog W= .ok (if u=134 then .tuple #[v,.bool true]else .tuple #[.pointer none,.bool false]) W:=eM a u v W Tryz.underlying134 (by kernel_rfl)
theorem iz(a u:TypeId)(v:Value)(W:World):(Instr.typeAssert (.iface u v) a 136 true).run Tryz.prog W= .ok (if u=136 then .tuple #[v,.bool true]else .tuple #[.pointer none,.bool false]) W:=eM a u v W Tryz.underlying136 (by kernel_rfl)
theorem dN(a u:TypeId)(v:Value)(W:World):(Instr.typeAssert (.iface u v) a 138 true).run Tryz.prog W= .ok (if u=138 then .tuple #[v,.bool true]else .tuple #[.pointer none,.bool false]) W:=eM a u v W Tryz.underlying138 (by kernel_rfl)
theorem cK(a u:TypeId)(v:Value)(W:World):(Instr.typeAssert (.iface u v) a 150 true).run Tryz.prog W= .ok (if u=150 then .tuple #[v,.bool true]else .tuple #[.pointer none,.bool false]) W:=eM a u v W Tryz.underlying150 (by kernel_rfl)
theorem gF(a u:TypeId)(v:Value)(W:World):(Instr.typeAssert (.iface u v) a 177 true).run Tryz.prog W= .ok (if u=177 then .tuple #[v,.bool true]else .tuple #[.pointer none,.bool false]) W:=eM a u v W Tryz.underlying177 (by kernel_rfl)
theorem ai{K:TypeId}(f:∀(a u:TypeId)(v:Value)(W:World),(Instr.typeAssert (.iface u v) a K true).run Tryz.prog W= .ok (if u=K then .tuple #[v,.bool true]else .tuple #[.pointer none,.bool false]) W)(u:TypeId)(b:Nat)(h:u≠K)(W:World):(Instr.typeAssert (.iface u (.pointer (some ⟨b,0,none⟩))) 39 K true).run Tryz.prog W= .ok (.tuple #[.pointer none,.bool false]) W:=by rw[f,if_neg h]
theorem ba{K:TypeId}(f:∀(a u:TypeId)(v:Value)(W:World),(Instr.typeAssert (.iface u v) a K true).run Tryz.prog W= .ok (if u=K then .tuple #[v,.bool true]else .tuple #[.pointer none,.bool false]) W)(b:Nat)(W:World):(Instr.typeAssert (.iface K (.pointer (some ⟨b,0,none⟩))) 39 K true).run Tryz.prog W= .ok (.tuple #[.pointer (some ⟨b,0,none⟩),.bool true]) W:=by rw[f,if_pos rfl]
theorem yo(a:Addr)(w:World):Calls Tryz.prog 273 #[.pointer (some a)] w fun e b=>e= .returned (.iface 32 (.pointer (some a)))∧w=b:=by
 go_enter Tryz.func273,Tryz.ntmps273;go_wp2_with fail
 go_ret;exact⟨rfl,rfl⟩
theorem yp(a:Addr)(w:World):Calls Tryz.prog 282 #[.pointer (some a)] w fun e b=>e= .returned (.iface 91 (.pointer (some a)))∧w=b:=by
 go_enter Tryz.func282,Tryz.ntmps282;go_wp2_with fail
 go_ret;exact⟨rfl,rfl⟩
theorem yq(a:Addr)(w:World):Calls Tryz.prog 283 #[.pointer (some a)] w fun e b=>e= .returned (.iface 94 (.pointer (some a)))∧w=b:=by
 go_enter Tryz.func283,Tryz.ntmps283;go_wp2_with fail
 go_ret;exact⟨rfl,rfl⟩
theorem yu(a:Addr)(w:World):Calls Tryz.prog 288 #[.pointer (some a)] w fun e b=>e= .returned (.iface 130 (.pointer (some a)))∧w=b:=by
 go_enter Tryz.func288,Tryz.ntmps288;go_wp2_with fail
 go_ret;exact⟨rfl,rfl⟩
theorem yw(a:Addr)(w:World):Calls Tryz.prog 290 #[.pointer (some a)] w fun e b=>e= .returned (.iface 132 (.pointer (some a)))∧w=b:=by
 go_enter Tryz.func290,Tryz.ntmps290;go_wp2_with fail
 go_ret;exact⟨rfl,rfl⟩
theorem yx(a:Addr)(w:World):Calls Tryz.prog 292 #[.pointer (some a)] w fun e b=>e= .returned (.iface 134 (.pointer (some a)))∧w=b:=by
 go_enter Tryz.func292,Tryz.ntmps292;go_wp2_with fail
 go_ret;exact⟨rfl,rfl⟩
theorem yy(a:Addr)(w:World):Calls Tryz.prog 294 #[.pointer (some a)] w fun e b=>e= .returned (.iface 136 (.pointer (some a)))∧w=b:=by
 go_enter Tryz.func294,Tryz.ntmps294;go_wp2_with fail
 go_ret;exact⟨rfl,rfl⟩
theorem yz(a:Addr)(w:World):Calls Tryz.prog 296 #[.pointer (some a)] w fun e b=>e= .returned (.iface 138 (.pointer (some a)))∧w=b:=by
 go_enter Tryz.func296,Tryz.ntmps296;go_wp2_with fail
 go_ret;exact⟨rfl,rfl⟩
theorem yA(a:Addr)(w:World):Calls Tryz.prog 297 #[.pointer (some a)] w fun e b=>e= .returned (.iface 150 (.pointer (some a)))∧w=b:=by
 go_enter Tryz.func297,Tryz.ntmps297;go_wp2_with fail
 go_ret;exact⟨rfl,rfl⟩
theorem yC(a:Addr)(w:World):Calls Tryz.prog 299 #[.pointer (some a)] w fun e b=>e= .returned (.iface 177 (.pointer (some a)))∧w=b:=by
 go_enter Tryz.func299,Tryz.ntmps299;go_wp2_with fail
 go_ret;exact⟨rfl,rfl⟩
theorem eC(t:TypeId)(v:Value)(a:t≠128)(w:World):Calls Tryz.prog 110 #[.iface t v] w fun e b=>e= .returned (.iface t v)∧w=b:=by
 have h1:∀W,(Instr.typeAssert (.iface t v) 39 128 true).run Tryz.prog W= .ok (.tuple #[.pointer none,.bool false]) W:=fun W=>by rw[mH,if_neg a]
 clear a;go_enter Tryz.func110,Tryz.ntmps110;go_wp2_with fail
 go_ret;exact⟨rfl,rfl⟩
theorem r9(b:Nat)(t:TypeId)(v:Value)(w:World)(h:w.cell? ⟨b,3,none⟩=some (.iface t v)):Calls Tryz.prog 145 #[.pointer (some ⟨b,0,none⟩)] w fun e a=>e= .returned (.iface t v)∧w=a:=by
 go_enter Tryz.func145,Tryz.ntmps145;go_wp2_with fail
 go_ret;exact⟨rfl,rfl⟩
theorem yD(b:Nat)(t:TypeId)(v:Value)(w:World)(h:w.cell? ⟨b,3,none⟩=some (.iface t v)):Calls Tryz.prog 110 #[.iface 128 (.pointer (some ⟨b,0,none⟩))] w fun e a=>e= .returned (.iface t v)∧w=a:=by
 have h1:∀W,(Instr.typeAssert (.iface 128 (.pointer (some ⟨b,0,none⟩))) 39 128 true).run Tryz.prog W= .ok (.tuple #[.pointer (some ⟨b,0,none⟩),.bool true]) W:=fun W=>by rw[mH,if_pos rfl]
 go_enter Tryz.func110,Tryz.ntmps110;go_wp2_with fail
 refine(r9 b t v _ h).mono ?_;rintro e a ⟨rfl,rfl⟩;go_wp2_with fail
 go_ret;exact⟨rfl,rfl⟩
abbrev yE:Go.Conc.Locks.MuLink:={lock:=72,unlock:=73,ilock:=111,iunlock:=112,lockSlow:=150,unlockSlow:=153,disable:=146,enable:=148,acquire:=149,relMerge:=151,cas32:=147,add32:=152,tMutex:=114,tIMutex:=112,tPMutex:=187,tPIMutex:=230,tPI32:=232,tUP:=234,tNoCopy:=109,tU32:=110}
theorem r_:Go.Conc.Locks.MuLib Tryz.prog yE:=
 ⟨Tryz.func72,Tryz.func73,Tryz.func111,Tryz.func112,Tryz.func146,Tryz.func148,Tryz.func149,Tryz.func151,Tryz.func147,Tryz.func152,Tryz.underlying112,Tryz.runUnderlying112,Tryz.sizeOf112,Tryz.isAgg112,Tryz.zeroValue112,Tryz.underlying114,Tryz.runUnderlying114,Tryz.sizeOf114,Tryz.isAgg114,Tryz.zeroValue114,Tryz.underlying187,Tryz.runUnderlying187,Tryz.sizeOf187,Tryz.isAgg187,Tryz.zeroValue187,Tryz.underlying230,Tryz.runUnderlying230,Tryz.sizeOf230,Tryz.isAgg230,Tryz.zeroValue230,Tryz.underlying232,Tryz.runUnderlying232,Tryz.sizeOf232,Tryz.isAgg232,Tryz.zeroValue232,Tryz.underlying234,Tryz.runUnderlying234,Tryz.sizeOf234,Tryz.isAgg234,Tryz.zeroValue234,Tryz.underlying109,Tryz.runUnderlying109,Tryz.sizeOf109,Tryz.isAgg109,Tryz.zeroValue109,Tryz.underlying21,Tryz.runUnderlying21,Tryz.sizeOf21,Tryz.isAgg21,Tryz.zeroValue21,(by kernel_rfl)⟩
theorem sc{P:Program}{f:FuncId}{fn:Func}(d:P.funcs[f]?=some fn)(b:(fn.name== "runtime.NumGoroutine")=false)(e:fn.body.isNone=true)(g:Extern.findNext fn=none)(k:IntKind)
 (he:Extern.find fn=some (Extern.Atomic.update (Op.intBits .or) k false)){a:Addr}{x y s:Int}{w:World}(h:w.cell? a=some (.int k x))(i:w.frozen? a=false)
 (j:(Op.intBits .or k x y).run P w= .ok (.int k s) w):
 (callFunc f #[.pointer (some a),.int k y]).run P w= .ok (.value (.int k x)) (w.setCell a (.int k s)):=by
 rw[run_callFunc_extern d b e g he]
 change (Sem.run P (do
  let a'←asAddr (.pointer (some a))
  let c←Extern.Atomic.read (.int k) a'
  let new←Op.intBits .or k (←asInt c) (←asInt (.int k y))
  store a' new .atomic
  pure (if false=true then new else c)) w).andThen _=_
 simp[Extern.Atomic.read,asAddr,asInt,asIntOf,h,i,j,run_store P w a (.int k s) .atomic rfl,Result.andThen]
theorem yF(b o:Nat)(w:World)(a:w.cell? ⟨b,o+5,none⟩=some (.int .u32 0))(c:w.frozen? ⟨b,o+5,none⟩=false):
 Calls Tryz.prog 74 #[.pointer (some ⟨b,o,none⟩),.int .u32 7] w fun e d=>e= .returned (.tuple #[])∧d=w.setCell ⟨b,o+5,none⟩ (.int .u32 7):=by
 have f:=sc (P:=Tryz.prog) Tryz.func113 (by kernel_rfl) (by kernel_rfl) (by kernel_rfl) .u32 (by kernel_rfl) (x:=0) (y:=7) (s:=7) a c rfl;go_enter Tryz.func74,Tryz.ntmps74;go_wp2
 go_end0
 exact⟨rfl,rfl⟩
theorem yG(b o:Nat)(w:World)(a:w.cell? ⟨b,o+5,none⟩=some (.int .u32 7))(c:w.frozen? ⟨b,o+5,none⟩=false):
 Calls Tryz.prog 74 #[.pointer (some ⟨b,o,none⟩),.int .u32 8] w fun e d=>e= .returned (.tuple #[])∧d=w.setCell ⟨b,o+5,none⟩ (.int .u32 15):=by
 have f:=sc (P:=Tryz.prog) Tryz.func113 (by kernel_rfl) (by kernel_rfl) (by kernel_rfl) .u32 (by kernel_rfl) (x:=7) (y:=8) (s:=15) a c rfl;go_enter Tryz.func74,Tryz.ntmps74;go_wp2
 go_end0
 exact⟨rfl,rfl⟩
theorem sd(b o:Nat)(m:Int)(hm:m=3∨m=8)(w:World)(a:w.cell? ⟨b,o+5,none⟩=some (.int .u32 15)):
 Calls Tryz.prog 161 #[.pointer (some ⟨b,o,none⟩),.int .u32 m] w fun e c=>e= .returned (.bool true)∧w=c:=by
 have d:=run_call_load (P:=Tryz.prog) Tryz.func187 (by kernel_rfl) (by kernel_rfl) (by kernel_rfl) .u32 (by kernel_rfl) a;rcases hm with rfl|rfl<;>(go_enter Tryz.func161,Tryz.ntmps161;go_wp2;go_ret;exact⟨rfl,rfl⟩)
theorem yH(b:Nat)(v:Value)(w:World)(c:w.cell? ⟨b,6,none⟩=some v):
 Calls Tryz.prog 277 #[.pointer (some ⟨b,0,none⟩)] w fun e a=>e= .returned v∧w=a:=by
 go_enter Tryz.func277,Tryz.ntmps277;go_wp2
 go_ret;exact⟨rfl,rfl⟩
theorem se(b:Nat)(w:World)(a:w.cell? ⟨b,5,none⟩=some (.int .u32 15)):
 Calls Tryz.prog 124 #[.pointer (some ⟨b,0,none⟩)] w fun e c=>e= .returned (.pointer (some ⟨b,0,none⟩))∧w=c:=by
 go_enter Tryz.func124,Tryz.ntmps124;go_wp2_with fail
 refine(sd b 0 3 (Or.inl rfl) _ (by simpa using a)).mono ?_;rintro d f ⟨rfl,rfl⟩;go_wp2_with fail
 go_ret;exact⟨rfl,rfl⟩
end Go.Proofs.YtkfaiocajcjomaaGreatDoor
