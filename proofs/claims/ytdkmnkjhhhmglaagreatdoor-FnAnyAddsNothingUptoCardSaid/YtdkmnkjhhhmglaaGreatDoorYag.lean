import Derived.Conc.MuData
import Derived.Conc.MuLone
import Derived.Deep.RegionHeld3
import Derived.Laws.LoneSync
import Derived.OrdersHeld
import Derived.Test.YtdkmnkjhhhmglaaGreatDoorYae
import Derived.Test.YtdkmnkjhhhmglaaGreatDoorYaf
set_option maxRecDepth 100000
set_option maxHeartbeats 8000000
set_option linter.all false
namespace TS
open Go Go.RowKit
structure Pc where
 d:Int
 v:Bool
 t:Bool
def Pc.behind(q:Pc):Pc:={q with v:=false}
def Pc.inside(q:Pc):Pc:={q with v:=true,t:=true}
def b4(n m:Int):Bool:=decide (0≤n)&&decide (n<m)
def fm(l:List U):Bool:=decide (∀e∈l,aM e.nm=true)&&decide ((l.map fun e=>e.nm.toList).Nodup)
def eK:List U→Bool
 | []=>true
 |e::r=>e.k==7&&aM e.nm&&(match r with| []=>true|e'::_=>Go.Op.bytesLess e.nm.toList e'.nm.toList)&&eK r
inductive Pt|type|term|elem
def ah(len:Nat)(u:U)(q:Pc)(s:Pt):Bool:=
 match s with
 | .elem=>if u.k=12 then decide (2≤u.es.length)&&decide (u.es.length≤8)&&u.es.attach.all fun⟨e,_⟩=>ah len e q .term else
  if u.k=13 then decide (u.es.length=1)&&u.es.attach.all fun⟨e,_⟩=>ah len e q .type else ah len u q .type
 | .term=>if u.k=13 then decide (u.es.length=1)&&u.es.attach.all fun⟨e,_⟩=>ah len e q .type else ah len u q .type
 | .type=>
   if u.k=1 then b4 u.n 18&&decide (u.es.length=0)
   else if u.k=14∨u.k=15∨u.k=16 then decide (u.es.length=0)
   else if u.k=11 then b4 u.n len&&(!q.v&& !q.t||decide (u.n<q.d))&&decide (u.es.length=0)
   else if u.k=2∨u.k=3 then decide (0≤u.n)&&decide (u.es.length=1)&&u.es.attach.all fun⟨e,_⟩=>ah len e q .type
   else if u.k=5 then fm u.es&&u.es.attach.all fun⟨e,_⟩=>ah len e q .type
   else if u.k=10 then b4 u.m (u.es.length+1)&&decide (u.es.length- u.m≤4)&&eK (u.es.take u.m.toNat)&&
    ((u.es.take u.m.toNat).attach.all fun⟨e,_⟩=>ah len e q.behind .type)&&((u.es.drop u.m.toNat).attach.all fun⟨e,_⟩=>ah len e q.inside .elem)
   else if u.k=4∨u.k=6∨u.k=9 then b4 u.n 3&&decide (u.es.length=1)&&u.es.attach.all fun⟨e,_⟩=>ah len e q.behind .type
   else if u.k=8 then decide (u.es.length=2)&&u.es.attach.all fun⟨e,_⟩=>ah len e q.behind .type
   else if u.k=7 then b4 u.m (u.es.length+1)&&(!u.v||decide (0<u.m)&&((u.es.getD (u.m.toNat- 1) cg).k==4))&&u.es.attach.all fun⟨e,_⟩=>ah len e q.behind .type
   else false
termination_by (u.sz,match s with| .type=>0| .term=>1| .elem=>2)
decreasing_by
 all_goals first
  |exact Prod.Lex.right _ (by decide)
  |exact Prod.Lex.left _ _ (U.az ‹_›)
  |exact Prod.Lex.left _ _ (U.az (List.mem_of_mem_take ‹_›))
  |exact Prod.Lex.left _ _ (U.az (List.mem_of_mem_drop ‹_›))
end TS
namespace TS
open Go
def lf(ops:Array Oper):List (Nat×Bool)→Array Bool→Bool
 | [],listed=>(Region.ready .any ops listed).isEmpty
 |(i,s)::r,listed=>(if s then Region.free .any ops listed i&&(Region.ready .any ops listed).contains i else Region.ready .any ops listed== [i])&&lf ops r (listed.setIfInBounds i true)
def ew(P:Program)(ops:Array Oper)(Q:Exit→Act→World→Prop)(S:World→Prop):List (Nat×Bool)→Act→World→Prop
 | [],a,w=>Q .normal a w
 |(i,s)::r,a,w=> ∃o,ops[i]?=some o∧
  if s then ∃v,YieldsIf P ops S o v a∧ew P ops Q S r (a.put o.dst v) w
  else wpOp P ops Q i (fun a' b=>S b∧ew P ops Q S r a' b) a w
section
variable {P:Program} {ops:Array Oper} {Q:Exit→Act→World→Prop} {S:World→Prop}
theorem qi(b:Region.noSelect ops=true)(f:∀c(a:Act) d v w,Q (.panic c) (a.put d v) w→Q (.panic c) a w):
 ∀(l:List (Nat×Bool))(listed:Array Bool)(a:Act)(w:World)(fuel:Nat),l.length≤fuel→lf ops l listed=true→S w→ew P ops Q S l a w→wpAnyH P .any ops Q S fuel listed a w
 | [],listed,a,w,fuel,_,e,_,h=>wpAnyH_done (by simpa [lf]using e) h fuel
 |(i,s)::r,listed,a,w,fuel,k,e,m,h=>by
  obtain⟨o,p,h⟩:=h;obtain⟨fuel,rfl⟩:∃n,fuel=n+1:=⟨fuel- 1,by simp at k;omega⟩
  simp only[lf,Bool.and_eq_true]at e;simp only[List.length_cons]at k;cases s with
  |true=>
   simp only[if_true,Bool.and_eq_true]at e h;obtain⟨v,q,h⟩:=h;exact wpAnyH_take p b e.1.1 e.1.2 (fun c a w=>f c a _ _ w) q m (qi b f r _ _ _ fuel (by omega) e.2 m h)
  |false=>
   simp only[Bool.false_eq_true,if_false,beq_iff_eq]at e h;refine wpAnyH_all (rs:= [i]) e.1 (by simp) ?_;intro j t;have:j=i:=by simpa using t
   subst this;exact wpOp_mono (fun a' u g=>⟨g.1,qi b f r _ _ _ fuel (by omega) e.2 g.1 g.2⟩) h
def nth{α:Type}:List α→Nat→Option α
 | [],_=>none
 |x::_,0=>some x
 |_::r,n+1=>nth r n
theorem tJ{α:Type}:∀(l:List α)(n:Nat),nth l n=l[n]?
 | [],_=>by simp[nth]
 |_::_,0=>rfl
 |_::r,n+1=>by simp[nth,tJ r n]
theorem iB{ops:Array Oper}{i:Nat}{o:Oper}(h:nth ops.toList i=some o):ops[i]?=some o:=by rw[tJ]at h;simpa using h
theorem zm{id:Nat}{a:Act}{w:World}(S:World→Prop)(l:List (Nat×Bool))(hm:P.follows .mixedOrders=true)(b:Region.noSelect ops=true)(d:lf ops l (Array.replicate ops.size false)=true)(e:l.length≤ops.size)
 (c:S w.drew)(h:S w.drew→ew P ops (NoPanic Q) S l a w.drew):(Code.region id ops true).wp P Q a w:=
 wp_region_noPanic (wp_region_held (S:=S) hm (qi b (fun _ _ _ _ _ h=>h) l _ a w.drew _ e d c (h c)))
theorem ch{a:Act}{w:World}(h:Q .normal a w):ew P ops (NoPanic Q) S [] a w:=h
theorem zn{i:Nat}{r:List (Nat×Bool)}{o:Oper}{v:Value}{a:Act}{w:World}(b:nth ops.toList i=some o)(hw:Region.wanted o (yielded ops a.tmps)=true)(c:∀W,S W→(execOp a.eval o).run P W= .ok (.value v) W)
 (h:ew P ops Q S r (a.put o.dst v) w):ew P ops Q S ((i,true)::r) a w:=⟨o,iB b,by rw[if_pos rfl];exact⟨v,.inl ⟨hw,c⟩,h⟩⟩
theorem zo{i:Nat}{s:Bool}{r:List (Nat×Bool)}{o:Oper}{a:Act}{w:World}(b:nth ops.toList i=some o)(hw:Region.wanted o (yielded ops a.tmps)=false)(d:S w)
 (h:ew P ops Q S r (a.put o.dst undef) w):ew P ops Q S ((i,s)::r) a w:=by
 have c:=iB b;refine⟨o,c,?_⟩;cases s with
 |true=>rw[if_pos rfl];exact⟨undef,.inr ⟨hw,rfl⟩,h⟩
 |false=>rw[if_neg (by simp)];simp only[wpOp,c,hw];exact⟨d,h⟩
theorem fp{i:Nat}{r:List (Nat×Bool)}{o:Oper}{a:Act}{w:World}(b:nth ops.toList i=some o)(hw:Region.wanted o (yielded ops a.tmps)=true)
 (h:∀K:Act→World→Prop,(∀a w,S w→(S w→ew P ops Q S r a w)→K a w)→o.wp P a w K Q):ew P ops Q S ((i,false)::r) a w:=by
 have c:=iB b;refine⟨o,c,?_⟩;rw[if_neg (by simp)];simp only[wpOp,c,hw,if_true];exact .inl (h _ fun a w d h=>⟨d,h d⟩)
end
end TS
namespace Go.Proofs.YtdkmnkjhhhmglaaGreatDoor
open Go.RowKit
theorem fH{T e:TypeId}(a u:TypeId)(v:Value)(W:World)(hT:Tryz.prog.underlying T=some (.pointer e))(b:(zeroValue T).run Tryz.prog W= .ok (.pointer none) W):
 (Instr.typeAssert (.iface u v) a T true).run Tryz.prog W= .ok (if u=T then .tuple #[v,.bool true]else .tuple #[.pointer none,.bool false]) W:=by
 simp only[Instr.typeAssert,Sem.run_bind,run_underlying hT,Result.andThen_ok];by_cases h:u=T
 ·simp[h]
 ·simp[h,b]
theorem oM(a u:TypeId)(v:Value)(W:World):(Instr.typeAssert (.iface u v) a 136 true).run Tryz.prog W= .ok (if u=136 then .tuple #[v,.bool true]else .tuple #[.pointer none,.bool false]) W:=fH a u v W Tryz.underlying136 (by kernel_rfl)
theorem asNamed(a u:TypeId)(v:Value)(W:World):(Instr.typeAssert (.iface u v) a 58 true).run Tryz.prog W= .ok (if u=58 then .tuple #[v,.bool true]else .tuple #[.pointer none,.bool false]) W:=fH a u v W Tryz.underlying58 (by kernel_rfl)
theorem qL(a u:TypeId)(v:Value)(W:World):(Instr.typeAssert (.iface u v) a 203 true).run Tryz.prog W= .ok (if u=203 then .tuple #[v,.bool true]else .tuple #[.pointer none,.bool false]) W:=fH a u v W Tryz.underlying203 (by kernel_rfl)
theorem dZ(a u:TypeId)(v:Value)(W:World):(Instr.typeAssert (.iface u v) a 44 true).run Tryz.prog W= .ok (if u=44 then .tuple #[v,.bool true]else .tuple #[.pointer none,.bool false]) W:=fH a u v W Tryz.underlying44 (by kernel_rfl)
theorem bE(a u:TypeId)(v:Value)(W:World):(Instr.typeAssert (.iface u v) a 99 true).run Tryz.prog W= .ok (if u=99 then .tuple #[v,.bool true]else .tuple #[.pointer none,.bool false]) W:=fH a u v W Tryz.underlying99 (by kernel_rfl)
theorem gG(a u:TypeId)(v:Value)(W:World):(Instr.typeAssert (.iface u v) a 102 true).run Tryz.prog W= .ok (if u=102 then .tuple #[v,.bool true]else .tuple #[.pointer none,.bool false]) W:=fH a u v W Tryz.underlying102 (by kernel_rfl)
theorem asTuple(a u:TypeId)(v:Value)(W:World):(Instr.typeAssert (.iface u v) a 103 true).run Tryz.prog W= .ok (if u=103 then .tuple #[v,.bool true]else .tuple #[.pointer none,.bool false]) W:=fH a u v W Tryz.underlying103 (by kernel_rfl)
theorem cS(a u:TypeId)(v:Value)(W:World):(Instr.typeAssert (.iface u v) a 138 true).run Tryz.prog W= .ok (if u=138 then .tuple #[v,.bool true]else .tuple #[.pointer none,.bool false]) W:=fH a u v W Tryz.underlying138 (by kernel_rfl)
theorem asSlice(a u:TypeId)(v:Value)(W:World):(Instr.typeAssert (.iface u v) a 140 true).run Tryz.prog W= .ok (if u=140 then .tuple #[v,.bool true]else .tuple #[.pointer none,.bool false]) W:=fH a u v W Tryz.underlying140 (by kernel_rfl)
theorem cT(a u:TypeId)(v:Value)(W:World):(Instr.typeAssert (.iface u v) a 142 true).run Tryz.prog W= .ok (if u=142 then .tuple #[v,.bool true]else .tuple #[.pointer none,.bool false]) W:=fH a u v W Tryz.underlying142 (by kernel_rfl)
theorem jA(a u:TypeId)(v:Value)(W:World):(Instr.typeAssert (.iface u v) a 144 true).run Tryz.prog W= .ok (if u=144 then .tuple #[v,.bool true]else .tuple #[.pointer none,.bool false]) W:=fH a u v W Tryz.underlying144 (by kernel_rfl)
theorem eA(a u:TypeId)(v:Value)(W:World):(Instr.typeAssert (.iface u v) a 146 true).run Tryz.prog W= .ok (if u=146 then .tuple #[v,.bool true]else .tuple #[.pointer none,.bool false]) W:=fH a u v W Tryz.underlying146 (by kernel_rfl)
theorem dg(a u:TypeId)(v:Value)(W:World):(Instr.typeAssert (.iface u v) a 167 true).run Tryz.prog W= .ok (if u=167 then .tuple #[v,.bool true]else .tuple #[.pointer none,.bool false]) W:=fH a u v W Tryz.underlying167 (by kernel_rfl)
theorem iF(a u:TypeId)(v:Value)(W:World):(Instr.typeAssert (.iface u v) a 185 true).run Tryz.prog W= .ok (if u=185 then .tuple #[v,.bool true]else .tuple #[.pointer none,.bool false]) W:=fH a u v W Tryz.underlying185 (by kernel_rfl)
theorem an{K:TypeId}(f:∀(a u:TypeId)(v:Value)(W:World),(Instr.typeAssert (.iface u v) a K true).run Tryz.prog W= .ok (if u=K then .tuple #[v,.bool true]else .tuple #[.pointer none,.bool false]) W)(u:TypeId)(b:Nat)(h:u≠K)(W:World):(Instr.typeAssert (.iface u (.pointer (some ⟨b,0,none⟩))) 38 K true).run Tryz.prog W= .ok (.tuple #[.pointer none,.bool false]) W:=by rw[f,if_neg h]
theorem bd{K:TypeId}(f:∀(a u:TypeId)(v:Value)(W:World),(Instr.typeAssert (.iface u v) a K true).run Tryz.prog W= .ok (if u=K then .tuple #[v,.bool true]else .tuple #[.pointer none,.bool false]) W)(b:Nat)(W:World):(Instr.typeAssert (.iface K (.pointer (some ⟨b,0,none⟩))) 38 K true).run Tryz.prog W= .ok (.tuple #[.pointer (some ⟨b,0,none⟩),.bool true]) W:=by rw[f,if_pos rfl]
theorem AX(a:Addr)(w:World):Calls Tryz.prog 271 #[.pointer (some a)] w fun e b=>e= .returned (.iface 44 (.pointer (some a)))∧w=b:=by
 go_enter Tryz.func271,Tryz.ntmps271;go_wp2_with fail
 go_ret;exact⟨rfl,rfl⟩
theorem AY(a:Addr)(w:World):Calls Tryz.prog 279 #[.pointer (some a)] w fun e b=>e= .returned (.iface 99 (.pointer (some a)))∧w=b:=by
 go_enter Tryz.func279,Tryz.ntmps279;go_wp2_with fail
 go_ret;exact⟨rfl,rfl⟩
theorem AZ(a:Addr)(w:World):Calls Tryz.prog 280 #[.pointer (some a)] w fun e b=>e= .returned (.iface 102 (.pointer (some a)))∧w=b:=by
 go_enter Tryz.func280,Tryz.ntmps280;go_wp2_with fail
 go_ret;exact⟨rfl,rfl⟩
theorem A0(a:Addr)(w:World):Calls Tryz.prog 285 #[.pointer (some a)] w fun e b=>e= .returned (.iface 138 (.pointer (some a)))∧w=b:=by
 go_enter Tryz.func285,Tryz.ntmps285;go_wp2_with fail
 go_ret;exact⟨rfl,rfl⟩
theorem A1(a:Addr)(w:World):Calls Tryz.prog 287 #[.pointer (some a)] w fun e b=>e= .returned (.iface 140 (.pointer (some a)))∧w=b:=by
 go_enter Tryz.func287,Tryz.ntmps287;go_wp2_with fail
 go_ret;exact⟨rfl,rfl⟩
theorem A2(a:Addr)(w:World):Calls Tryz.prog 289 #[.pointer (some a)] w fun e b=>e= .returned (.iface 142 (.pointer (some a)))∧w=b:=by
 go_enter Tryz.func289,Tryz.ntmps289;go_wp2_with fail
 go_ret;exact⟨rfl,rfl⟩
theorem A3(a:Addr)(w:World):Calls Tryz.prog 291 #[.pointer (some a)] w fun e b=>e= .returned (.iface 144 (.pointer (some a)))∧w=b:=by
 go_enter Tryz.func291,Tryz.ntmps291;go_wp2_with fail
 go_ret;exact⟨rfl,rfl⟩
theorem A4(a:Addr)(w:World):Calls Tryz.prog 293 #[.pointer (some a)] w fun e b=>e= .returned (.iface 146 (.pointer (some a)))∧w=b:=by
 go_enter Tryz.func293,Tryz.ntmps293;go_wp2_with fail
 go_ret;exact⟨rfl,rfl⟩
theorem A5(a:Addr)(w:World):Calls Tryz.prog 294 #[.pointer (some a)] w fun e b=>e= .returned (.iface 167 (.pointer (some a)))∧w=b:=by
 go_enter Tryz.func294,Tryz.ntmps294;go_wp2_with fail
 go_ret;exact⟨rfl,rfl⟩
theorem A6(a:Addr)(w:World):Calls Tryz.prog 296 #[.pointer (some a)] w fun e b=>e= .returned (.iface 185 (.pointer (some a)))∧w=b:=by
 go_enter Tryz.func296,Tryz.ntmps296;go_wp2_with fail
 go_ret;exact⟨rfl,rfl⟩
theorem d_(t:TypeId)(v:Value)(a:t≠136)(w:World):Calls Tryz.prog 94 #[.iface t v] w fun e b=>e= .returned (.iface t v)∧w=b:=by
 have h1:∀W,(Instr.typeAssert (.iface t v) 38 136 true).run Tryz.prog W= .ok (.tuple #[.pointer none,.bool false]) W:=fun W=>by rw[oM,if_neg a]
 clear a;go_enter Tryz.func94,Tryz.ntmps94;go_wp2_with fail
 go_ret;exact⟨rfl,rfl⟩
theorem uN(b:Nat)(t:TypeId)(v:Value)(w:World)(h:w.cell? ⟨b,3,none⟩=some (.iface t v)):Calls Tryz.prog 144 #[.pointer (some ⟨b,0,none⟩)] w fun e a=>e= .returned (.iface t v)∧w=a:=by
 go_enter Tryz.func144,Tryz.ntmps144;go_wp2_with fail
 go_ret;exact⟨rfl,rfl⟩
theorem A7(b:Nat)(t:TypeId)(v:Value)(w:World)(h:w.cell? ⟨b,3,none⟩=some (.iface t v)):Calls Tryz.prog 94 #[.iface 136 (.pointer (some ⟨b,0,none⟩))] w fun e a=>e= .returned (.iface t v)∧w=a:=by
 have h1:∀W,(Instr.typeAssert (.iface 136 (.pointer (some ⟨b,0,none⟩))) 38 136 true).run Tryz.prog W= .ok (.tuple #[.pointer (some ⟨b,0,none⟩),.bool true]) W:=fun W=>by rw[oM,if_pos rfl]
 go_enter Tryz.func94,Tryz.ntmps94;go_wp2_with fail
 refine(uN b t v _ h).mono ?_;rintro e a ⟨rfl,rfl⟩;go_wp2_with fail
 go_ret;exact⟨rfl,rfl⟩
abbrev A8:Go.Conc.Locks.MuLink:={lock:=77,unlock:=78,ilock:=129,iunlock:=130,lockSlow:=173,unlockSlow:=176,disable:=169,enable:=171,acquire:=172,relMerge:=174,cas32:=170,add32:=175,tMutex:=122,tIMutex:=120,tPMutex:=225,tPIMutex:=257,tPI32:=259,tUP:=261,tNoCopy:=117,tU32:=118}
theorem uO:Go.Conc.Locks.MuLib Tryz.prog A8:=
 ⟨Tryz.func77,Tryz.func78,Tryz.func129,Tryz.func130,Tryz.func169,Tryz.func171,Tryz.func172,Tryz.func174,Tryz.func170,Tryz.func175,Tryz.underlying120,Tryz.runUnderlying120,Tryz.sizeOf120,Tryz.isAgg120,Tryz.zeroValue120,Tryz.underlying122,Tryz.runUnderlying122,Tryz.sizeOf122,Tryz.isAgg122,Tryz.zeroValue122,Tryz.underlying225,Tryz.runUnderlying225,Tryz.sizeOf225,Tryz.isAgg225,Tryz.zeroValue225,Tryz.underlying257,Tryz.runUnderlying257,Tryz.sizeOf257,Tryz.isAgg257,Tryz.zeroValue257,Tryz.underlying259,Tryz.runUnderlying259,Tryz.sizeOf259,Tryz.isAgg259,Tryz.zeroValue259,Tryz.underlying261,Tryz.runUnderlying261,Tryz.sizeOf261,Tryz.isAgg261,Tryz.zeroValue261,Tryz.underlying117,Tryz.runUnderlying117,Tryz.sizeOf117,Tryz.isAgg117,Tryz.zeroValue117,Tryz.underlying21,Tryz.runUnderlying21,Tryz.sizeOf21,Tryz.isAgg21,Tryz.zeroValue21,(by kernel_rfl)⟩
theorem uP{P:Program}{f:FuncId}{fn:Func}(d:P.funcs[f]?=some fn)(b:(fn.name== "runtime.NumGoroutine")=false)(e:fn.body.isNone=true)(g:Extern.findNext fn=none)(k:IntKind)
 (he:Extern.find fn=some (Extern.Atomic.update (Op.intBits .or) k false)){a:Addr}{x y s:Int}{w:World}(h:w.cell? a=some (.int k x))(i:w.frozen? a=false)
 (j:(Op.intBits .or k x y).run P w= .ok (.int k s) w):
 (callFunc f #[.pointer (some a),.int k y]).run P w= .ok (.value (.int k x)) (w.setCell a (.int k s)):=by
 rw[run_callFunc_extern d b e g he]
 change (Sem.run P (do
  let a'←asAddr (.pointer (some a))
  let c←Extern.Atomic.read (.int k) a'
  let new←Op.intBits .or k (←asInt c) (←asInt (.int k y))
  store a' new .atomic
  pure (if false=true then new else c)) w).andThen _=_
 simp[Extern.Atomic.read,asAddr,asInt,asIntOf,h,i,j,run_store P w a (.int k s) .atomic rfl,Result.andThen]
theorem A9(b o:Nat)(w:World)(a:w.cell? ⟨b,o+5,none⟩=some (.int .u32 0))(c:w.frozen? ⟨b,o+5,none⟩=false):
 Calls Tryz.prog 79 #[.pointer (some ⟨b,o,none⟩),.int .u32 7] w fun e d=>e= .returned (.tuple #[])∧d=w.setCell ⟨b,o+5,none⟩ (.int .u32 7):=by
 have f:=uP (P:=Tryz.prog) Tryz.func131 (by kernel_rfl) (by kernel_rfl) (by kernel_rfl) .u32 (by kernel_rfl) (x:=0) (y:=7) (s:=7) a c rfl;go_enter Tryz.func79,Tryz.ntmps79;go_wp2
 go_end0
 exact⟨rfl,rfl⟩
theorem A_(b o:Nat)(w:World)(a:w.cell? ⟨b,o+5,none⟩=some (.int .u32 7))(c:w.frozen? ⟨b,o+5,none⟩=false):
 Calls Tryz.prog 79 #[.pointer (some ⟨b,o,none⟩),.int .u32 8] w fun e d=>e= .returned (.tuple #[])∧d=w.setCell ⟨b,o+5,none⟩ (.int .u32 15):=by
 have f:=uP (P:=Tryz.prog) Tryz.func131 (by kernel_rfl) (by kernel_rfl) (by kernel_rfl) .u32 (by kernel_rfl) (x:=7) (y:=8) (s:=15) a c rfl;go_enter Tryz.func79,Tryz.ntmps79;go_wp2
 go_end0
 exact⟨rfl,rfl⟩
theorem uQ(b o:Nat)(m:Int)(hm:m=3∨m=8)(w:World)(a:w.cell? ⟨b,o+5,none⟩=some (.int .u32 15)):
 Calls Tryz.prog 183 #[.pointer (some ⟨b,o,none⟩),.int .u32 m] w fun e c=>e= .returned (.bool true)∧w=c:=by
 have d:=run_call_load (P:=Tryz.prog) Tryz.func209 (by kernel_rfl) (by kernel_rfl) (by kernel_rfl) .u32 (by kernel_rfl) a;rcases hm with rfl|rfl<;>(go_enter Tryz.func183,Tryz.ntmps183;go_wp2;go_ret;exact⟨rfl,rfl⟩)
theorem Ba(b:Nat)(v:Value)(w:World)(c:w.cell? ⟨b,6,none⟩=some v):
 Calls Tryz.prog 275 #[.pointer (some ⟨b,0,none⟩)] w fun e a=>e= .returned v∧w=a:=by
 go_enter Tryz.func275,Tryz.ntmps275;go_wp2
 go_ret;exact⟨rfl,rfl⟩
theorem uR(b:Nat)(w:World)(a:w.cell? ⟨b,5,none⟩=some (.int .u32 15)):
 Calls Tryz.prog 142 #[.pointer (some ⟨b,0,none⟩)] w fun e c=>e= .returned (.pointer (some ⟨b,0,none⟩))∧w=c:=by
 go_enter Tryz.func142,Tryz.ntmps142;go_wp2_with fail
 refine(uQ b 0 3 (Or.inl rfl) _ (by simpa using a)).mono ?_;rintro d f ⟨rfl,rfl⟩;go_wp2_with fail
 go_ret;exact⟨rfl,rfl⟩
end Go.Proofs.YtdkmnkjhhhmglaaGreatDoor
