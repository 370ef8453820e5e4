import Derived.Test.YtkfaiocajcjomaaGreatDoorYag
set_option maxRecDepth 100000
set_option maxHeartbeats 8000000
set_option linter.all false
namespace TS
open Go Go.RowKit
structure cE where
 nm:ByteArray
 ptr:Bool
 sig:U
structure aH where
 un:U
 ms:List cE
structure dw(p:Pm)(D:Dl)(ms:List cE)(a:Option Addr):Prop where
 at':∀i(h:i<ms.length),∃b o,a=some ⟨b,o,none⟩∧p b (o+i*9)=some (.string ms[i].nm)∧p b (o+i*9+1)=some (.bool ms[i].ptr)∧
  ms[i].nm.size≤1048576∧∃a' c',cN p b (o+i*9+2) ms[i].sig a' c'∧aj p D ms[i].sig a' c'
theorem dw.get{p:Pm}{D:Dl}{ms:List cE}{b o:Nat}(h:dw p D ms (some ⟨b,o,none⟩))(i:Nat)(hi:i<ms.length):
 p b (o+i*9)=some (.string ms[i].nm)∧p b (o+i*9+1)=some (.bool ms[i].ptr)∧
 ms[i].nm.size≤1048576∧∃a' c',cN p b (o+i*9+2) ms[i].sig a' c'∧aj p D ms[i].sig a' c':=by
 obtain⟨a,c,e,h1⟩:=h.at' i hi;simp only[Option.some.injEq,Addr.mk.injEq]at e;obtain⟨rfl,rfl,_⟩:=e;exact h1
theorem dw.bC{p:Pm}{D:Dl}{ms:List cE}{a:Option Addr}(h:dw p D ms a)(c:0<ms.length):∃b o,a=some ⟨b,o,none⟩:=by
 obtain⟨d,f,e,_⟩:=h.at' 0 c;exact⟨d,f,e⟩
theorem dw.take{p:Pm}{D:Dl}{ms:List cE}{a:Option Addr}(h:dw p D ms a)(k:Nat):dw p D (ms.take k) a:=by
 refine⟨fun i hi=> ?_⟩;rw[List.length_take]at hi;rw[List.getElem_take];exact h.at' i (by omega)
theorem dw.sub{p q:Pm}{D:Dl}{ms:List cE}{a:Option Addr}(h:dw p D ms a)(hk:Sub p q):dw q D ms a:=
 ⟨fun i hi=>let⟨b,o,e,h1,h2,h3,a',c',h7,hu⟩:=h.at' i hi;⟨b,o,e,hk _ _ _ h1,hk _ _ _ h2,h3,a',c',h7.sub hk,aj.sub hk _ hu⟩⟩
structure cF(p:Pm)(D:Dl)(ds:List aH):Prop where
 spot:∀x,D.a=some x→x.spot=none
 len:ds.length=D.len
 jG:D.len≤1048576
 at':∀i(h:i<ds.length),∃b o,D.a=some ⟨b,o,none⟩∧∃a c e d,cN p b (o+i*8) ds[i].un a c∧p b (o+i*8+7)=some (.slice e ds[i].ms.length d)∧
  aj p D ds[i].un a c∧ds[i].ms.length≤d∧d≤1048576∧dw p D ds[i].ms e
theorem cF.bC{p:Pm}{D:Dl}{ds:List aH}(h:cF p D ds)(c:0<ds.length):∃b o,D.a=some ⟨b,o,none⟩:=by
 obtain⟨d,f,e,_⟩:=h.at' 0 c;exact⟨d,f,e⟩
theorem cF.get{p:Pm}{D:Dl}{ds:List aH}{b o:Nat}(h:cF p D ds)(g:D.a=some ⟨b,o,none⟩)(i:Nat)(hi:i<ds.length):
 ∃a c f d,cN p b (o+i*8) ds[i].un a c∧p b (o+i*8+7)=some (.slice f ds[i].ms.length d)∧
 aj p D ds[i].un a c∧ds[i].ms.length≤d∧d≤1048576∧dw p D ds[i].ms f:=by
 obtain⟨j,k,e,h1⟩:=h.at' i hi;rw[g]at e;simp only[Option.some.injEq,Addr.mk.injEq]at e;obtain⟨rfl,rfl,_⟩:=e;exact h1
theorem cF.sub{p q:Pm}{D:Dl}{ds:List aH}(h:cF p D ds)(hk:Sub p q):cF q D ds:=
 ⟨h.spot,h.len,h.jG,fun i hi=>let⟨b,o,e,a,c,d,f,h7,g,hu,h1,h2,hm⟩:=h.at' i hi;⟨b,o,e,a,c,d,f,h7.sub hk,hk _ _ _ g,aj.sub hk _ hu,h1,h2,hm.sub hk⟩⟩
theorem nH:∀u:U,(bare u).sz≤u.sz:=by
 intro u;induction u using U.bg with
 |_ u ih=>
  rw[bare];split
  ·split
   ·rename_i e r he
    have h1:e.sz<u.sz:=U.az (by rw[he];simp);have:=ih e h1;omega
   ·exact Nat.le_refl _
  ·split
   ·have:bw.sz=1:=by simp[bw,U.sz,ie]
    have:=u.qk;omega
   ·exact Nat.le_refl _
theorem dn(u:U):(under u).sz≤u.sz:=by
 have a:=nH u;rw[under];split
 ·cases b:(bare u).un with
  |nil=>exact a
  |cons x r=>have:=U.iU (u:=bare u) (e:=x) (by rw[b];simp);simp;omega
 ·exact a
def aU(u:U):Bool:=
 if(under u).k=10 then(((under u).es.drop (under u).m.toNat).attach.any fun⟨e,_⟩=>e.k==12||e.k==13|| !isIface e||aU e)else(under u).k==16
termination_by u.sz
decreasing_by
 have h1:=U.az (List.mem_of_mem_drop ‹_›)
 have h2:=dn u
 omega
def aW(e:U):Bool:=e.k !=12&&e.k !=13&&isIface e
def eu(u:U):Bool:=
 (under u).k==16||((under u).es.drop (under u).m.toNat).attach.any fun⟨e,_⟩=>aW e&&eu e
termination_by u.sz
decreasing_by
 have h1:=U.az (List.mem_of_mem_drop ‹_›)
 have h2:=dn u
 omega
theorem gP{u:U}(h:(under u).k=10):aU u=((under u).es.drop (under u).m.toNat).any fun e=>e.k==12||e.k==13|| !isIface e||aU e:=by
 rw[aU];simp[h]
theorem eH{u:U}(h:(under u).k≠10):aU u=((under u).k==16):=by
 rw[aU];simp[h]
theorem vK(u:U):eu u=((under u).k==16||((under u).es.drop (under u).m.toNat).any fun e=>aW e&&eu e):=by
 rw[eu];simp
section
variable {P:Program} {ops:Array Oper} {Q:Exit→Act→World→Prop} {S:World→Prop}
theorem oS{i:Nat}{r:List (Nat×Bool)}{o:Oper}{v:Value}{a:Act}{w:World}(h:dM P ops Q S r (a.put o.dst v) w)(b:nth ops.toList i=some o:=by exact rfl)(hw:Region.wanted o (yielded ops a.tmps)=true:=by rfl)
 (c:∀W,S W→(execOp a.eval o).run P W= .ok (.value v) W:=by intro W d;(try dsimp only at d);go_simp<;>with_reducible rfl):dM P ops Q S ((i,true)::r) a w:=wa b hw c h
theorem oF{i:Nat}{s:Bool}{r:List (Nat×Bool)}{o:Oper}{a:Act}{w:World}(c:S w)(h:dM P ops Q S r (a.put o.dst undef) w)(b:nth ops.toList i=some o:=by exact rfl)(hw:Region.wanted o (yielded ops a.tmps)=false:=by rfl):dM P ops Q S ((i,s)::r) a w:=we b hw c h
theorem oL{i:Nat}{r:List (Nat×Bool)}{o:Oper}{a:Act}{w:World}(h:∀K:Act→World→Prop,(∀a w,S w→(S w→dM P ops Q S r a w)→K a w)→o.wp P a w K Q)(b:nth ops.toList i=some o:=by exact rfl)(hw:Region.wanted o (yielded ops a.tmps)=true:=by rfl):dM P ops Q S ((i,false)::r) a w:=nX b hw h
theorem oR{id:Nat}{a:Act}{w:World}(S:World→Prop)(l:List (Nat×Bool))(c:S w.drew)(h:S w.drew→dM P ops (NoPanic Q) S l a w.drew)
 (hm:P.follows .mixedOrders=true:=by kernel_rfl)(b:Region.noSelect ops=true:=by kernel_rfl)(d:jQ ops l (Array.replicate ops.size false)=true:=by kernel_rfl)(e:l.length≤ops.size:=by decide):(Code.region id ops true).wp P Q a w:=v_ S l hm b d e c h
end
theorem oa{α:Type}(l:List α)(i:Nat)(x:α):l.toArray.setIfInBounds i x=(l.set i x).toArray:=by simp
theorem ob{α:Type}(x:α)(l:List α)(y:α):(x::l).set 0 y=y::l:=rfl
theorem oc{α:Type}(x:α)(l:List α)(n:Nat)(y:α):(x::l).set (n+1) y=x::l.set n y:=rfl
theorem oK{A:Prop}(h:A:=by((repeat' apply And.intro)<;>first|assumption|exact TS.cell_kept aa (by first|assumption|(go_keep;done))|exact Up.step (by first|assumption|exact ag.drew) aa|exact ag.drew|exact Up.drew ‹_› |(simp;done)|(simp[go_sem];done)|(go_keep;done))):A:=h
theorem kf(j:Int){a b:Int}(h:a=b)(c:(b==j)=false:=by rfl):(a==j)=false:=by rw[h,c]
theorem kt{j a:Int}(h:a=j):(a==j)=true:=by simp[h]
end TS
namespace Go.Proofs.YtkfaiocajcjomaaGreatDoor
open Go.RowKit
theorem sf{T e:TypeId}(a:TypeId)(W:World)(hT:Tryz.prog.underlying T=some (.pointer e))(b:(zeroValue T).run Tryz.prog W= .ok (.pointer none) W):
 (Instr.typeAssert .nilIface a T true).run Tryz.prog W= .ok (.tuple #[.pointer none,.bool false]) W:=by
 simp only[Instr.typeAssert,Sem.run_bind,run_underlying hT,Result.andThen_ok];simp[b]
theorem yI(a:TypeId)(W:World):(Instr.typeAssert .nilIface a 128 true).run Tryz.prog W= .ok (.tuple #[.pointer none,.bool false]) W:=sf a W Tryz.underlying128 (by kernel_rfl)
theorem yJ(a:TypeId)(W:World):(Instr.typeAssert .nilIface a 56 true).run Tryz.prog W= .ok (.tuple #[.pointer none,.bool false]) W:=sf a W Tryz.underlying56 (by kernel_rfl)
theorem yK(w:World):Calls Tryz.prog 110 #[.nilIface] w fun e a=>e= .returned .nilIface∧w=a:=by
 have h1:=yI 39;go_enter Tryz.func110,Tryz.ntmps110;go_wp2_with fail
 go_ret;exact⟨rfl,rfl⟩
theorem yL(w:World):Calls Tryz.prog 70 #[.nilIface] w fun e a=>e= .returned (.pointer none)∧w=a:=by
 have h1:=yJ 39;go_enter Tryz.func70,Tryz.ntmps70;go_wp2_with fail
 refine(yK _).mono ?_;rintro e a ⟨rfl,rfl⟩;go_wp2_with fail
 go_ret;exact⟨rfl,rfl⟩
theorem oO(u:TypeId)(p:Option Addr)(b:u≠128)(c:u≠56)(w:World):Calls Tryz.prog 70 #[.iface u (.pointer p)] w fun e a=>e= .returned (.pointer none)∧w=a:=by
 have h1:∀W,(Instr.typeAssert (.iface u (.pointer p)) 39 56 true).run Tryz.prog W= .ok (.tuple #[.pointer none,.bool false]) W:=fun W=>by rw[asNamed,if_neg c]
 go_enter Tryz.func70,Tryz.ntmps70;go_wp2_with fail
 refine(eC u (.pointer p) b _).mono ?_;rintro e a ⟨rfl,rfl⟩;go_wp2_with fail
 go_ret;exact⟨rfl,rfl⟩
theorem jo(W:World)(cs:Array Value){T:TypeId}{B i:Nat}(h:W.heap.size=B):(W.alloc (.cells cs T)).cell? ⟨B,i,none⟩=cs[i]?:=by subst h;simp
theorem kU(W:World)(cs:Array Value){T:TypeId}{B i:Nat}(h:W.heap.size=B):(W.alloc (.cells cs T)).frozen? ⟨B,i,none⟩=false:=by subst h;simp
abbrev cQ(obj:Addr)(nil:Bool)(a st:Int)(rhs eN:Value)(ms:Value):Array Value:=#[.pointer none,.pointer (some obj),.bool nil,.int .i32 a,.int .u32 0,.int .u32 st,rhs,eN,.bool false,ms]
theorem sh(a:Nat)(w:World)(c:a<w.heap.size)(d:w.cell? ⟨a,3,none⟩=some .nilIface)(f:w.frozen? ⟨a,3,none⟩=false):
 Calls Tryz.prog 64 #[.pointer none,.pointer (some ⟨a,0,none⟩),.nilIface,.slice none 0 0] w fun e b=>e= .returned (.pointer (some ⟨w.heap.size,0,none⟩))∧
  b=(w.setCell ⟨a,3,none⟩ (.iface 56 (.pointer (some ⟨w.heap.size,0,none⟩)))).alloc (.cells (cQ ⟨a,0,none⟩ false 0 0 .nilIface .nilIface (.slice none 0 0)) 116):=by
 go_enter Tryz.func64,Tryz.ntmps64;go_wp2_with fail
 go_ret;exact⟨rfl,rfl⟩
theorem yM(b:Nat)(u:TypeId)(a:Option Addr)(w:World)(d:b<w.heap.size)(f:w.cell? ⟨b,3,none⟩=some .nilIface)(g:w.frozen? ⟨b,3,none⟩=false):
 Calls Tryz.prog 64 #[.pointer none,.pointer (some ⟨b,0,none⟩),.iface u (.pointer a),.slice none 0 0] w fun e c=>e= .returned (.pointer (some ⟨w.heap.size,0,none⟩))∧
  c=(w.setCell ⟨b,3,none⟩ (.iface 56 (.pointer (some ⟨w.heap.size,0,none⟩)))).alloc (.cells (cQ ⟨b,0,none⟩ false 0 0 (.iface u (.pointer a)) .nilIface (.slice none 0 0)) 116):=by
 go_enter Tryz.func64,Tryz.ntmps64;go_wp2_with fail
 go_ret;exact⟨rfl,rfl⟩
theorem yN(a:Nat)(w:World)(c:a<w.heap.size)(d:w.cell? ⟨a,3,none⟩=some .nilIface)(f:w.frozen? ⟨a,3,none⟩=false):
 Calls Tryz.prog 39 #[.pointer (some ⟨a,0,none⟩),.nilIface,.slice none 0 0] w fun e b=>e= .returned (.pointer (some ⟨w.heap.size,0,none⟩))∧
  b=(w.setCell ⟨a,3,none⟩ (.iface 56 (.pointer (some ⟨w.heap.size,0,none⟩)))).alloc (.cells (cQ ⟨a,0,none⟩ true 0 0 .nilIface .nilIface (.slice none 0 0)) 116):=by
 go_enter Tryz.func39,Tryz.ntmps39;go_wp2_with fail
 refine(yL _).mono ?_;rintro e b ⟨rfl,rfl⟩;go_wp2_with fail
 refine(sh a _ c d f).mono ?_;rintro e b ⟨rfl,rfl⟩;go_wp2_with fail
 go_ret;exact⟨rfl,rfl⟩
theorem oP(b:Nat)(u:TypeId)(a:Option Addr)(i:u≠128)(j:u≠56)(w:World)
 (h2:∃c,w.cell? ⟨b,2,none⟩=some (.bool c))(h3:w.cell? ⟨b,3,none⟩=some (.int .i32 0))(g:w.cell? ⟨b,5,none⟩=some (.int .u32 0))(h:∃c,w.cell? ⟨b,6,none⟩=some c)(h7:∃c,w.cell? ⟨b,7,none⟩=some c)
 (f2:w.frozen? ⟨b,2,none⟩=false)(f3:w.frozen? ⟨b,3,none⟩=false)(f5:w.frozen? ⟨b,5,none⟩=false)(f6:w.frozen? ⟨b,6,none⟩=false)(f7:w.frozen? ⟨b,7,none⟩=false):
 Calls Tryz.prog 43 #[.pointer (some ⟨b,0,none⟩),.iface u (.pointer a)] w fun e d=>e= .returned (.tuple #[])∧
  d=((((((w.setCell ⟨b,3,none⟩ (.int .i32 1)).setCell ⟨b,6,none⟩ (.iface u (.pointer a))).setCell ⟨b,2,none⟩ (.bool false)).setCell ⟨b,5,none⟩ (.int .u32 7)).setCell ⟨b,7,none⟩ (.iface u (.pointer a))).setCell ⟨b,5,none⟩ (.int .u32 15)).setCell ⟨b,3,none⟩ (.int .i32 0):=by
 obtain⟨c2,h2⟩:=h2;obtain⟨l,h⟩:=h;obtain⟨m,h7⟩:=h7;go_enter_defers Tryz.func43,Tryz.ntmps43
 go_wp2_with fail
 refine(oO u a i j _).mono ?_;rintro e d ⟨rfl,rfl⟩;go_wp2_with fail
 refine(Go.MuLone.lock_free r_ ⟨b,3,none⟩ _ h3 f3).mono ?_;rintro e d ⟨rfl,rfl⟩;go_wp2_with fail
 refine(yF b 0 _ ?_ ?_).mono ?_
 ·simp[go_sem,g]
 ·simp[f5]
 rintro e d ⟨rfl,rfl⟩;go_wp2_with fail
 refine(yG b 0 _ ?_ ?_).mono ?_
 ·simp[go_sem,g]
 ·simp[f5]
 rintro e d ⟨rfl,rfl⟩;go_wp2_with fail
 refine leaves_cons (f:=73) (args:=#[.pointer (some ⟨b,3,none⟩)]) (by simp) (by simp[go_sem]) ?_;refine(Go.MuLone.unlock_deferred r_ ⟨b,3,none⟩ .returning _ ?_ ?_).mono ?_
 ·simp[go_sem,h3]
 ·simp[f3]
 rintro e n k ⟨rfl,rfl,rfl⟩;exact⟨_,results_none rfl _ _ _,rfl,rfl⟩
theorem yO(b:Nat)(u:TypeId)(a:Option Addr)(f:u≠128)(g:u≠56)(w:World)(h:b<w.heap.size)(i:w.cell? ⟨b,3,none⟩=some .nilIface)(j:w.frozen? ⟨b,3,none⟩=false):
 Calls Tryz.prog 39 #[.pointer (some ⟨b,0,none⟩),.iface u (.pointer a),.slice none 0 0] w fun e c=>e= .returned (.pointer (some ⟨w.heap.size,0,none⟩))∧
  c=(w.setCell ⟨b,3,none⟩ (.iface 56 (.pointer (some ⟨w.heap.size,0,none⟩)))).alloc (.cells (cQ ⟨b,0,none⟩ false 0 15 (.iface u (.pointer a)) (.iface u (.pointer a)) (.slice none 0 0)) 116):=by
 go_enter Tryz.func39,Tryz.ntmps39;go_wp2_with fail
 refine(oO u a f g _).mono ?_;rintro e c ⟨rfl,rfl⟩;go_wp2_with fail
 refine(yM b u a _ h i j).mono ?_;rintro e c ⟨rfl,rfl⟩;go_wp2_with fail
 have d:(w.setCell ⟨b,3,none⟩ (.iface 56 (.pointer (some ⟨w.heap.size,0,none⟩)))).heap.size=w.heap.size:=by simp
 refine(oP w.heap.size u a f g _ ⟨false,?_⟩ ?_ ?_ ⟨.iface u (.pointer a),?_⟩ ⟨.nilIface,?_⟩ ?_ ?_ ?_ ?_ ?_).mono ?_;iterate 5 (rw[jo _ _ d];rfl)
 iterate 5 (rw[kU _ _ d])
 clear d;rintro e c ⟨rfl,rfl⟩;go_wp2_with fail
 go_ret;exact⟨rfl,rfl⟩
theorem yP(b:Nat)(u:Value)(t:TypeId)(a:Option Addr)(w:World)(d:w.cell? ⟨b,5,none⟩=some (.int .u32 15))(f:w.cell? ⟨b,6,none⟩=some (.iface t (.pointer a)))(h7:w.cell? ⟨b,7,none⟩=some (.iface t (.pointer a))):
 Calls Tryz.prog 275 #[.pointer (some ⟨b,0,none⟩)] w fun e c=>e= .returned (.iface t (.pointer a))∧w=c:=by
 go_enter Tryz.func275,Tryz.ntmps275;go_wp2_with fail
 refine(se b _ d).mono ?_;rintro e c ⟨rfl,rfl⟩;go_wp2_with fail
 refine(yH b _ _ f).mono ?_;rintro e c ⟨rfl,rfl⟩;go_wp2_with fail
 refine(sd b 0 8 (Or.inr rfl) _ d).mono ?_;rintro e c ⟨rfl,rfl⟩;go_wp2_with fail
 go_ret;exact⟨rfl,rfl⟩
end Go.Proofs.YtkfaiocajcjomaaGreatDoor
namespace TS
open Go
inductive gG (w:World) (A t:TypeId) (p:Option Addr):Nat→Prop
 |last {b:Nat}:w.cell? ⟨b,2,none⟩=some (.iface t (.pointer p))→gG w A t p b
 |next {b c:Nat}:w.cell? ⟨b,2,none⟩=some (.iface A (.pointer (some ⟨c,0,none⟩)))→c<b→gG w A t p c→gG w A t p b
def jq:Value→Nat
 | .pointer (some a)=>a.block+1
 |_=>0
@[simp] theorem EH (a:Addr):jq (.pointer (some a))=a.block+1:=rfl
@[simp] theorem EI:jq (.pointer none)=0:=rfl
end TS
namespace Go.Proofs.YtkfaiocajcjomaaGreatDoor
open Go.RowKit TS
theorem yQ(b:Nat)(t:TypeId)(p:Option Addr)(w:World)(d:t≠128)(h3:w.cell? ⟨b,3,none⟩=some .nilIface)(f3:w.frozen? ⟨b,3,none⟩=false)(h:gG w 128 t p b):
 Calls Tryz.prog 145 #[.pointer (some ⟨b,0,none⟩)] w fun e f=>e= .returned (.iface t (.pointer p))∧f=w.setCell ⟨b,3,none⟩ (.iface t (.pointer p)):=by
 have h1:∀W,(Instr.typeAssert (.iface t (.pointer p)) 39 128 true).run Tryz.prog W= .ok (.tuple #[.pointer none,.bool false]) W:=fun W=>by rw[mH,if_neg d]
 have h2:∀(c:Nat) W,(Instr.typeAssert (.iface 128 (.pointer (some ⟨c,0,none⟩))) 39 128 true).run Tryz.prog W= .ok (.tuple #[.pointer (some ⟨c,0,none⟩),.bool true]) W:=fun c W=>by rw[mH,if_pos rfl]
 clear d;go_enter Tryz.func145,Tryz.ntmps145;go_wp2_with fail
 go_loopw [3,4] (fun vt a wr=>wr=w∧((∃c,a= .pointer (some ⟨c,0,none⟩)∧gG w 128 t p c)∨(a= .pointer none∧vt= .iface t (.pointer p)))) (fun _ a _=>jq a)
 case atStart=>exact⟨rfl,Or.inl ⟨b,rfl,h⟩⟩
 case round=>
  obtain⟨rfl,⟨c,rfl,g⟩|⟨rfl,rfl⟩⟩:=hrel
  ·cases g with
   |last i=>
    go_wp2_with fail
    refine⟨⟨trivial,Or.inr ⟨rfl,rfl⟩⟩,?_⟩;simp
   |next i j k=>
    rename_i c';go_wp2_with fail
    refine⟨⟨trivial,Or.inl ⟨c',rfl,k⟩⟩,?_⟩;simp;omega
  ·go_wp2_with fail
   go_ret;exact⟨rfl,rfl⟩
theorem si(b:Nat)(t:TypeId)(p:Option Addr)(w:World)(c:t≠128)(h3:w.cell? ⟨b,3,none⟩=some .nilIface)(f3:w.frozen? ⟨b,3,none⟩=false)(h:gG w 128 t p b):
 Calls Tryz.prog 115 #[.pointer (some ⟨b,0,none⟩)] w fun e a=>e= .returned (.tuple #[])∧a=w.setCell ⟨b,3,none⟩ (.iface t (.pointer p)):=by
 go_enter Tryz.func115,Tryz.ntmps115;go_wp2_with fail
 refine(yQ b t p _ c h3 f3 h).mono ?_;rintro e a ⟨rfl,rfl⟩;go_wp2_with fail
 go_end0
 exact⟨rfl,rfl⟩
abbrev gH(obj self:Addr)(rhs act:Value):Array Value:=#[.pointer (some obj),.pointer (some self),rhs,act]
theorem sj(b:Nat)(u:TypeId)(a:Option Addr)(w:World)(d:b<w.heap.size)(f:w.cell? ⟨b,3,none⟩=some .nilIface)(g:w.frozen? ⟨b,3,none⟩=false):
 Calls Tryz.prog 114 #[.pointer none,.pointer (some ⟨b,0,none⟩),.iface u (.pointer a)] w fun e c=>e= .returned (.pointer (some ⟨w.heap.size,0,none⟩))∧
  c=(w.setCell ⟨b,3,none⟩ (.iface 128 (.pointer (some ⟨w.heap.size,0,none⟩)))).alloc (.cells (gH ⟨b,0,none⟩ ⟨w.heap.size,0,none⟩ (.iface u (.pointer a)) .nilIface) 238):=by
 go_enter Tryz.func114,Tryz.ntmps114;go_wp2_with fail
 go_ret;exact⟨rfl,rfl⟩
theorem yR{w d:World}{A t:TypeId}{p:Option Addr}{b n:Nat}(h:gG w A t p b)(e:b<n)(hk:∀c,c<n→∀v,w.cell? ⟨c,2,none⟩=some v→d.cell? ⟨c,2,none⟩=some v):gG d A t p b:=by
 induction h with
 |last h=>exact .last (hk _ e _ h)
 |next h a _ ih=>exact .next (hk _ e _ h) a (ih (by omega))
theorem yS(b:Nat)(u:TypeId)(a:Option Addr)(g:u≠128)(w:World)(i:b<w.heap.size)(j:w.cell? ⟨b,3,none⟩=some .nilIface)(k:w.frozen? ⟨b,3,none⟩=false):
 Calls Tryz.prog 75 #[.pointer (some ⟨b,0,none⟩),.iface u (.pointer a)] w fun e d=>e= .returned (.pointer (some ⟨w.heap.size,0,none⟩))∧
  d=(w.setCell ⟨b,3,none⟩ (.iface 128 (.pointer (some ⟨w.heap.size,0,none⟩)))).alloc (.cells (gH ⟨b,0,none⟩ ⟨w.heap.size,0,none⟩ (.iface u (.pointer a)) (.iface u (.pointer a))) 238):=by
 have h:(w.setCell ⟨b,3,none⟩ (.iface 128 (.pointer (some ⟨w.heap.size,0,none⟩)))).heap.size=w.heap.size:=by simp
 have c:=Lib.hid h;clear h;have f:=Lib.hid g;clear g;go_enter Tryz.func75,Tryz.ntmps75;go_wp2_with fail
 refine(sj b u a _ i j k).mono ?_;rintro e d ⟨rfl,rfl⟩;go_wp2_with fail
 refine(si w.heap.size u a _ f.out ?_ ?_ (.last ?_)).mono ?_
 ·rw[jo _ _ c.out];rfl
 ·rw[kU _ _ c.out]
 ·rw[jo _ _ c.out];rfl
 rintro e d ⟨rfl,rfl⟩;go_wp2_with fail
 go_ret;exact⟨rfl,rfl⟩
theorem yT(b c:Nat)(t:TypeId)(p:Option Addr)(j:t≠128)(w:World)(l:b<w.heap.size)(m:w.cell? ⟨b,3,none⟩=some .nilIface)(n:w.frozen? ⟨b,3,none⟩=false)
 (f:c<w.heap.size)(h:gG w 128 t p c):
 Calls Tryz.prog 75 #[.pointer (some ⟨b,0,none⟩),.iface 128 (.pointer (some ⟨c,0,none⟩))] w fun e g=>e= .returned (.pointer (some ⟨w.heap.size,0,none⟩))∧
  g=(w.setCell ⟨b,3,none⟩ (.iface 128 (.pointer (some ⟨w.heap.size,0,none⟩)))).alloc (.cells (gH ⟨b,0,none⟩ ⟨w.heap.size,0,none⟩ (.iface 128 (.pointer (some ⟨c,0,none⟩))) (.iface t (.pointer p))) 238):=by
 have k:(w.setCell ⟨b,3,none⟩ (.iface 128 (.pointer (some ⟨w.heap.size,0,none⟩)))).heap.size=w.heap.size:=by simp
 have a:=Lib.hid k;clear k;have i:=Lib.hid j;clear j;go_enter Tryz.func75,Tryz.ntmps75;go_wp2_with fail
 refine(sj b _ _ _ l m n).mono ?_;rintro e g ⟨rfl,rfl⟩;go_wp2_with fail
 refine(si w.heap.size t p _ i.out ?_ ?_ (.next (c:=c) ?_ f (yR h f ?_))).mono ?_
 ·rw[jo _ _ a.out];rfl
 ·rw[kU _ _ a.out]
 ·rw[jo _ _ a.out];rfl
 ·intro d o v q
  rw[World.cell?_alloc_lt _ _ _ (by rw[a.out];exact o),World.cell?_setCell_other _ _ _ _ (by simp)];exact q
 rintro e g ⟨rfl,rfl⟩;go_wp2_with fail
 go_ret;exact⟨rfl,rfl⟩
end Go.Proofs.YtkfaiocajcjomaaGreatDoor
