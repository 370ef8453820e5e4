import Derived.Test.YtdkmnkjhhhmglaaGreatDoorYag
set_option maxRecDepth 100000
set_option maxHeartbeats 8000000
set_option linter.all false
namespace TS
open Go Go.RowKit
structure cX where
 nm:ByteArray
 ptr:Bool
 sig:U
structure aF where
 un:U
 ms:List cX
structure dR(p:Pm)(D:Dl)(ms:List cX)(a:Option Addr):Prop where
 at':∀i(h:i<ms.length),∃b o,a=some ⟨b,o,none⟩∧p b (o+i*9)=some (.string ms[i].nm)∧p b (o+i*9+1)=some (.bool ms[i].ptr)∧
  ms[i].nm.size≤1048576∧∃a' c',dr p b (o+i*9+2) ms[i].sig a' c'∧ak p D ms[i].sig a' c'
theorem dR.get{p:Pm}{D:Dl}{ms:List cX}{b o:Nat}(h:dR p D ms (some ⟨b,o,none⟩))(i:Nat)(hi:i<ms.length):
 p b (o+i*9)=some (.string ms[i].nm)∧p b (o+i*9+1)=some (.bool ms[i].ptr)∧
 ms[i].nm.size≤1048576∧∃a' c',dr p b (o+i*9+2) ms[i].sig a' c'∧ak p D ms[i].sig a' c':=by
 obtain⟨a,c,e,h1⟩:=h.at' i hi;simp only[Option.some.injEq,Addr.mk.injEq]at e;obtain⟨rfl,rfl,_⟩:=e;exact h1
theorem dR.bN{p:Pm}{D:Dl}{ms:List cX}{a:Option Addr}(h:dR p D ms a)(c:0<ms.length):∃b o,a=some ⟨b,o,none⟩:=by
 obtain⟨d,f,e,_⟩:=h.at' 0 c;exact⟨d,f,e⟩
theorem dR.take{p:Pm}{D:Dl}{ms:List cX}{a:Option Addr}(h:dR p D ms a)(k:Nat):dR p D (ms.take k) a:=by
 refine⟨fun i hi=> ?_⟩;rw[List.length_take]at hi;rw[List.getElem_take];exact h.at' i (by omega)
theorem dR.sub{p q:Pm}{D:Dl}{ms:List cX}{a:Option Addr}(h:dR p D ms a)(hk:Sub p q):dR q D ms a:=
 ⟨fun i hi=>let⟨b,o,e,h1,h2,h3,a',c',h7,hu⟩:=h.at' i hi;⟨b,o,e,hk _ _ _ h1,hk _ _ _ h2,h3,a',c',h7.sub hk,ak.sub hk _ hu⟩⟩
structure cE(p:Pm)(D:Dl)(ds:List aF):Prop where
 spot:∀x,D.a=some x→x.spot=none
 len:ds.length=D.len
 kW:D.len≤1048576
 at':∀i(h:i<ds.length),∃b o,D.a=some ⟨b,o,none⟩∧∃a c e d,dr p b (o+i*8) ds[i].un a c∧p b (o+i*8+7)=some (.slice e ds[i].ms.length d)∧
  ak p D ds[i].un a c∧ds[i].ms.length≤d∧d≤1048576∧dR p D ds[i].ms e
theorem cE.bN{p:Pm}{D:Dl}{ds:List aF}(h:cE p D ds)(c:0<ds.length):∃b o,D.a=some ⟨b,o,none⟩:=by
 obtain⟨d,f,e,_⟩:=h.at' 0 c;exact⟨d,f,e⟩
theorem cE.get{p:Pm}{D:Dl}{ds:List aF}{b o:Nat}(h:cE p D ds)(g:D.a=some ⟨b,o,none⟩)(i:Nat)(hi:i<ds.length):
 ∃a c f d,dr p b (o+i*8) ds[i].un a c∧p b (o+i*8+7)=some (.slice f ds[i].ms.length d)∧
 ak p D ds[i].un a c∧ds[i].ms.length≤d∧d≤1048576∧dR p D ds[i].ms f:=by
 obtain⟨j,k,e,h1⟩:=h.at' i hi;rw[g]at e;simp only[Option.some.injEq,Addr.mk.injEq]at e;obtain⟨rfl,rfl,_⟩:=e;exact h1
theorem cE.sub{p q:Pm}{D:Dl}{ds:List aF}(h:cE p D ds)(hk:Sub p q):cE q D ds:=
 ⟨h.spot,h.len,h.kW,fun i hi=>let⟨b,o,e,a,c,d,f,h7,g,hu,h1,h2,hm⟩:=h.at' i hi;⟨b,o,e,a,c,d,f,h7.sub hk,hk _ _ _ g,ak.sub hk _ hu,h1,h2,hm.sub hk⟩⟩
theorem lX:∀u:U,(bare u).sz≤u.sz:=by
 intro u;induction u using U.bg with
 |_ u ih=>
  rw[bare];split
  ·split
   ·rename_i e r he
    have h1:e.sz<u.sz:=U.az (by rw[he];simp);have:=ih e h1;omega
   ·exact Nat.le_refl _
  ·split
   ·have:bt.sz=1:=by simp[bt,U.sz,jl]
    have:=u.sM;omega
   ·exact Nat.le_refl _
theorem dE(u:U):(under u).sz≤u.sz:=by
 have a:=lX u;rw[under];split
 ·cases b:(bare u).un with
  |nil=>exact a
  |cons x r=>have:=U.j8 (u:=bare u) (e:=x) (by rw[b];simp);simp;omega
 ·exact a
def aZ(u:U):Bool:=
 if(under u).k=10 then(((under u).es.drop (under u).m.toNat).attach.any fun⟨e,_⟩=>e.k==12||e.k==13|| !isIface e||aZ e)else(under u).k==16
termination_by u.sz
decreasing_by
 have h1:=U.az (List.mem_of_mem_drop ‹_›)
 have h2:=dE u
 omega
def aQ(e:U):Bool:=e.k !=12&&e.k !=13&&isIface e
def fj(u:U):Bool:=
 (under u).k==16||((under u).es.drop (under u).m.toNat).attach.any fun⟨e,_⟩=>aQ e&&fj e
termination_by u.sz
decreasing_by
 have h1:=U.az (List.mem_of_mem_drop ‹_›)
 have h2:=dE u
 omega
theorem iS{u:U}(h:(under u).k=10):aZ u=((under u).es.drop (under u).m.toNat).any fun e=>e.k==12||e.k==13|| !isIface e||aZ e:=by
 rw[aZ];simp[h]
theorem gw{u:U}(h:(under u).k≠10):aZ u=((under u).k==16):=by
 rw[aZ];simp[h]
theorem yW(u:U):fj u=((under u).k==16||((under u).es.drop (under u).m.toNat).any fun e=>aQ e&&fj e):=by
 rw[fj];simp
section
variable {P:Program} {ops:Array Oper} {Q:Exit→Act→World→Prop} {S:World→Prop}
theorem oS{i:Nat}{r:List (Nat×Bool)}{o:Oper}{v:Value}{a:Act}{w:World}(h:ew P ops Q S r (a.put o.dst v) w)(b:nth ops.toList i=some o:=by exact rfl)(hw:Region.wanted o (yielded ops a.tmps)=true:=by rfl)
 (c:∀W,S W→(execOp a.eval o).run P W= .ok (.value v) W:=by intro W d;(try dsimp only at d);go_simp<;>with_reducible rfl):ew P ops Q S ((i,true)::r) a w:=zn b hw c h
theorem oF{i:Nat}{s:Bool}{r:List (Nat×Bool)}{o:Oper}{a:Act}{w:World}(c:S w)(h:ew P ops Q S r (a.put o.dst undef) w)(b:nth ops.toList i=some o:=by exact rfl)(hw:Region.wanted o (yielded ops a.tmps)=false:=by rfl):ew P ops Q S ((i,s)::r) a w:=zo b hw c h
theorem oL{i:Nat}{r:List (Nat×Bool)}{o:Oper}{a:Act}{w:World}(h:∀K:Act→World→Prop,(∀a w,S w→(S w→ew P ops Q S r a w)→K a w)→o.wp P a w K Q)(b:nth ops.toList i=some o:=by exact rfl)(hw:Region.wanted o (yielded ops a.tmps)=true:=by rfl):ew P ops Q S ((i,false)::r) a w:=fp b hw h
theorem oR{id:Nat}{a:Act}{w:World}(S:World→Prop)(l:List (Nat×Bool))(c:S w.drew)(h:S w.drew→ew P ops (NoPanic Q) S l a w.drew)
 (hm:P.follows .mixedOrders=true:=by kernel_rfl)(b:Region.noSelect ops=true:=by kernel_rfl)(d:lf ops l (Array.replicate ops.size false)=true:=by kernel_rfl)(e:l.length≤ops.size:=by decide):(Code.region id ops true).wp P Q a w:=zm S l hm b d e c h
end
theorem oa{α:Type}(l:List α)(i:Nat)(x:α):l.toArray.setIfInBounds i x=(l.set i x).toArray:=by simp
theorem ob{α:Type}(x:α)(l:List α)(y:α):(x::l).set 0 y=y::l:=rfl
theorem oc{α:Type}(x:α)(l:List α)(n:Nat)(y:α):(x::l).set (n+1) y=x::l.set n y:=rfl
theorem oK{A:Prop}(h:A:=by((repeat' apply And.intro)<;>first|assumption|exact TS.cell_kept aa (by first|assumption|(go_keep;done))|exact Up.step (by first|assumption|exact ag.drew) aa|exact ag.drew|exact Up.drew ‹_› |(simp;done)|(simp[go_sem];done)|(go_keep;done))):A:=h
theorem kf(j:Int){a b:Int}(h:a=b)(c:(b==j)=false:=by rfl):(a==j)=false:=by rw[h,c]
theorem kt{j a:Int}(h:a=j):(a==j)=true:=by simp[h]
end TS
namespace Go.Proofs.YtdkmnkjhhhmglaaGreatDoor
open Go.RowKit
theorem uS{T e:TypeId}(a:TypeId)(W:World)(hT:Tryz.prog.underlying T=some (.pointer e))(b:(zeroValue T).run Tryz.prog W= .ok (.pointer none) W):
 (Instr.typeAssert .nilIface a T true).run Tryz.prog W= .ok (.tuple #[.pointer none,.bool false]) W:=by
 simp only[Instr.typeAssert,Sem.run_bind,run_underlying hT,Result.andThen_ok];simp[b]
theorem Bb(a:TypeId)(W:World):(Instr.typeAssert .nilIface a 136 true).run Tryz.prog W= .ok (.tuple #[.pointer none,.bool false]) W:=uS a W Tryz.underlying136 (by kernel_rfl)
theorem Bc(a:TypeId)(W:World):(Instr.typeAssert .nilIface a 58 true).run Tryz.prog W= .ok (.tuple #[.pointer none,.bool false]) W:=uS a W Tryz.underlying58 (by kernel_rfl)
theorem Bd(w:World):Calls Tryz.prog 94 #[.nilIface] w fun e a=>e= .returned .nilIface∧w=a:=by
 have h1:=Bb 38;go_enter Tryz.func94,Tryz.ntmps94;go_wp2_with fail
 go_ret;exact⟨rfl,rfl⟩
theorem Be(w:World):Calls Tryz.prog 75 #[.nilIface] w fun e a=>e= .returned (.pointer none)∧w=a:=by
 have h1:=Bc 38;go_enter Tryz.func75,Tryz.ntmps75;go_wp2_with fail
 refine(Bd _).mono ?_;rintro e a ⟨rfl,rfl⟩;go_wp2_with fail
 go_ret;exact⟨rfl,rfl⟩
theorem qM(u:TypeId)(p:Option Addr)(b:u≠136)(c:u≠58)(w:World):Calls Tryz.prog 75 #[.iface u (.pointer p)] w fun e a=>e= .returned (.pointer none)∧w=a:=by
 have h1:∀W,(Instr.typeAssert (.iface u (.pointer p)) 38 58 true).run Tryz.prog W= .ok (.tuple #[.pointer none,.bool false]) W:=fun W=>by rw[asNamed,if_neg c]
 go_enter Tryz.func75,Tryz.ntmps75;go_wp2_with fail
 refine(d_ u (.pointer p) b _).mono ?_;rintro e a ⟨rfl,rfl⟩;go_wp2_with fail
 go_ret;exact⟨rfl,rfl⟩
theorem kz(W:World)(cs:Array Value){T:TypeId}{B i:Nat}(h:W.heap.size=B):(W.alloc (.cells cs T)).cell? ⟨B,i,none⟩=cs[i]?:=by subst h;simp
theorem mN(W:World)(cs:Array Value){T:TypeId}{B i:Nat}(h:W.heap.size=B):(W.alloc (.cells cs T)).frozen? ⟨B,i,none⟩=false:=by subst h;simp
abbrev dq(obj:Addr)(nil:Bool)(a st:Int)(rhs eB:Value)(ms:Value):Array Value:=#[.pointer none,.pointer (some obj),.bool nil,.int .i32 a,.int .u32 0,.int .u32 st,rhs,eB,.bool false,ms]
theorem uT(a:Nat)(w:World)(c:a<w.heap.size)(d:w.cell? ⟨a,3,none⟩=some .nilIface)(f:w.frozen? ⟨a,3,none⟩=false):
 Calls Tryz.prog 69 #[.pointer none,.pointer (some ⟨a,0,none⟩),.nilIface,.slice none 0 0] w fun e b=>e= .returned (.pointer (some ⟨w.heap.size,0,none⟩))∧
  b=(w.setCell ⟨a,3,none⟩ (.iface 58 (.pointer (some ⟨w.heap.size,0,none⟩)))).alloc (.cells (dq ⟨a,0,none⟩ false 0 0 .nilIface .nilIface (.slice none 0 0)) 124):=by
 go_enter Tryz.func69,Tryz.ntmps69;go_wp2_with fail
 go_ret;exact⟨rfl,rfl⟩
theorem Bf(b:Nat)(u:TypeId)(a:Option Addr)(w:World)(d:b<w.heap.size)(f:w.cell? ⟨b,3,none⟩=some .nilIface)(g:w.frozen? ⟨b,3,none⟩=false):
 Calls Tryz.prog 69 #[.pointer none,.pointer (some ⟨b,0,none⟩),.iface u (.pointer a),.slice none 0 0] w fun e c=>e= .returned (.pointer (some ⟨w.heap.size,0,none⟩))∧
  c=(w.setCell ⟨b,3,none⟩ (.iface 58 (.pointer (some ⟨w.heap.size,0,none⟩)))).alloc (.cells (dq ⟨b,0,none⟩ false 0 0 (.iface u (.pointer a)) .nilIface (.slice none 0 0)) 124):=by
 go_enter Tryz.func69,Tryz.ntmps69;go_wp2_with fail
 go_ret;exact⟨rfl,rfl⟩
theorem Bg(a:Nat)(w:World)(c:a<w.heap.size)(d:w.cell? ⟨a,3,none⟩=some .nilIface)(f:w.frozen? ⟨a,3,none⟩=false):
 Calls Tryz.prog 35 #[.pointer (some ⟨a,0,none⟩),.nilIface,.slice none 0 0] w fun e b=>e= .returned (.pointer (some ⟨w.heap.size,0,none⟩))∧
  b=(w.setCell ⟨a,3,none⟩ (.iface 58 (.pointer (some ⟨w.heap.size,0,none⟩)))).alloc (.cells (dq ⟨a,0,none⟩ true 0 0 .nilIface .nilIface (.slice none 0 0)) 124):=by
 go_enter Tryz.func35,Tryz.ntmps35;go_wp2_with fail
 refine(Be _).mono ?_;rintro e b ⟨rfl,rfl⟩;go_wp2_with fail
 refine(uT a _ c d f).mono ?_;rintro e b ⟨rfl,rfl⟩;go_wp2_with fail
 go_ret;exact⟨rfl,rfl⟩
theorem qN(b:Nat)(u:TypeId)(a:Option Addr)(i:u≠136)(j:u≠58)(w:World)
 (h2:∃c,w.cell? ⟨b,2,none⟩=some (.bool c))(h3:w.cell? ⟨b,3,none⟩=some (.int .i32 0))(g:w.cell? ⟨b,5,none⟩=some (.int .u32 0))(h:∃c,w.cell? ⟨b,6,none⟩=some c)(h7:∃c,w.cell? ⟨b,7,none⟩=some c)
 (f2:w.frozen? ⟨b,2,none⟩=false)(f3:w.frozen? ⟨b,3,none⟩=false)(f5:w.frozen? ⟨b,5,none⟩=false)(f6:w.frozen? ⟨b,6,none⟩=false)(f7:w.frozen? ⟨b,7,none⟩=false):
 Calls Tryz.prog 39 #[.pointer (some ⟨b,0,none⟩),.iface u (.pointer a)] w fun e d=>e= .returned (.tuple #[])∧
  d=((((((w.setCell ⟨b,3,none⟩ (.int .i32 1)).setCell ⟨b,6,none⟩ (.iface u (.pointer a))).setCell ⟨b,2,none⟩ (.bool false)).setCell ⟨b,5,none⟩ (.int .u32 7)).setCell ⟨b,7,none⟩ (.iface u (.pointer a))).setCell ⟨b,5,none⟩ (.int .u32 15)).setCell ⟨b,3,none⟩ (.int .i32 0):=by
 obtain⟨c2,h2⟩:=h2;obtain⟨l,h⟩:=h;obtain⟨m,h7⟩:=h7;go_enter_defers Tryz.func39,Tryz.ntmps39
 go_wp2_with fail
 refine(qM u a i j _).mono ?_;rintro e d ⟨rfl,rfl⟩;go_wp2_with fail
 refine(Go.MuLone.lock_free uO ⟨b,3,none⟩ _ h3 f3).mono ?_;rintro e d ⟨rfl,rfl⟩;go_wp2_with fail
 refine(A9 b 0 _ ?_ ?_).mono ?_
 ·simp[go_sem,g]
 ·simp[f5]
 rintro e d ⟨rfl,rfl⟩;go_wp2_with fail
 refine(A_ b 0 _ ?_ ?_).mono ?_
 ·simp[go_sem,g]
 ·simp[f5]
 rintro e d ⟨rfl,rfl⟩;go_wp2_with fail
 refine leaves_cons (f:=78) (args:=#[.pointer (some ⟨b,3,none⟩)]) (by simp) (by simp[go_sem]) ?_;refine(Go.MuLone.unlock_deferred uO ⟨b,3,none⟩ .returning _ ?_ ?_).mono ?_
 ·simp[go_sem,h3]
 ·simp[f3]
 rintro e n k ⟨rfl,rfl,rfl⟩;exact⟨_,results_none rfl _ _ _,rfl,rfl⟩
theorem Bh(b:Nat)(u:TypeId)(a:Option Addr)(f:u≠136)(g:u≠58)(w:World)(h:b<w.heap.size)(i:w.cell? ⟨b,3,none⟩=some .nilIface)(j:w.frozen? ⟨b,3,none⟩=false):
 Calls Tryz.prog 35 #[.pointer (some ⟨b,0,none⟩),.iface u (.pointer a),.slice none 0 0] w fun e c=>e= .returned (.pointer (some ⟨w.heap.size,0,none⟩))∧
  c=(w.setCell ⟨b,3,none⟩ (.iface 58 (.pointer (some ⟨w.heap.size,0,none⟩)))).alloc (.cells (dq ⟨b,0,none⟩ false 0 15 (.iface u (.pointer a)) (.iface u (.pointer a)) (.slice none 0 0)) 124):=by
 go_enter Tryz.func35,Tryz.ntmps35;go_wp2_with fail
 refine(qM u a f g _).mono ?_;rintro e c ⟨rfl,rfl⟩;go_wp2_with fail
 refine(Bf b u a _ h i j).mono ?_;rintro e c ⟨rfl,rfl⟩;go_wp2_with fail
 have d:(w.setCell ⟨b,3,none⟩ (.iface 58 (.pointer (some ⟨w.heap.size,0,none⟩)))).heap.size=w.heap.size:=by simp
 refine(qN w.heap.size u a f g _ ⟨false,?_⟩ ?_ ?_ ⟨.iface u (.pointer a),?_⟩ ⟨.nilIface,?_⟩ ?_ ?_ ?_ ?_ ?_).mono ?_;iterate 5 (rw[kz _ _ d];rfl)
 iterate 5 (rw[mN _ _ d])
 clear d;rintro e c ⟨rfl,rfl⟩;go_wp2_with fail
 go_ret;exact⟨rfl,rfl⟩
theorem Bi(b:Nat)(u:Value)(t:TypeId)(a:Option Addr)(w:World)(d:w.cell? ⟨b,5,none⟩=some (.int .u32 15))(f:w.cell? ⟨b,6,none⟩=some (.iface t (.pointer a)))(h7:w.cell? ⟨b,7,none⟩=some (.iface t (.pointer a))):
 Calls Tryz.prog 273 #[.pointer (some ⟨b,0,none⟩)] w fun e c=>e= .returned (.iface t (.pointer a))∧w=c:=by
 go_enter Tryz.func273,Tryz.ntmps273;go_wp2_with fail
 refine(uR b _ d).mono ?_;rintro e c ⟨rfl,rfl⟩;go_wp2_with fail
 refine(Ba b _ _ f).mono ?_;rintro e c ⟨rfl,rfl⟩;go_wp2_with fail
 refine(uQ b 0 8 (Or.inr rfl) _ d).mono ?_;rintro e c ⟨rfl,rfl⟩;go_wp2_with fail
 go_ret;exact⟨rfl,rfl⟩
end Go.Proofs.YtdkmnkjhhhmglaaGreatDoor
namespace TS
open Go
inductive iG (w:World) (A t:TypeId) (p:Option Addr):Nat→Prop
 |last {b:Nat}:w.cell? ⟨b,2,none⟩=some (.iface t (.pointer p))→iG w A t p b
 |next {b c:Nat}:w.cell? ⟨b,2,none⟩=some (.iface A (.pointer (some ⟨c,0,none⟩)))→c<b→iG w A t p c→iG w A t p b
def kA:Value→Nat
 | .pointer (some a)=>a.block+1
 |_=>0
@[simp] theorem HK (a:Addr):kA (.pointer (some a))=a.block+1:=rfl
@[simp] theorem HL:kA (.pointer none)=0:=rfl
end TS
namespace Go.Proofs.YtdkmnkjhhhmglaaGreatDoor
open Go.RowKit TS
theorem Bj(b:Nat)(t:TypeId)(p:Option Addr)(w:World)(d:t≠136)(h3:w.cell? ⟨b,3,none⟩=some .nilIface)(f3:w.frozen? ⟨b,3,none⟩=false)(h:iG w 136 t p b):
 Calls Tryz.prog 144 #[.pointer (some ⟨b,0,none⟩)] w fun e f=>e= .returned (.iface t (.pointer p))∧f=w.setCell ⟨b,3,none⟩ (.iface t (.pointer p)):=by
 have h1:∀W,(Instr.typeAssert (.iface t (.pointer p)) 38 136 true).run Tryz.prog W= .ok (.tuple #[.pointer none,.bool false]) W:=fun W=>by rw[oM,if_neg d]
 have h2:∀(c:Nat) W,(Instr.typeAssert (.iface 136 (.pointer (some ⟨c,0,none⟩))) 38 136 true).run Tryz.prog W= .ok (.tuple #[.pointer (some ⟨c,0,none⟩),.bool true]) W:=fun c W=>by rw[oM,if_pos rfl]
 clear d;go_enter Tryz.func144,Tryz.ntmps144;go_wp2_with fail
 go_loopw [3,4] (fun vt a wr=>wr=w∧((∃c,a= .pointer (some ⟨c,0,none⟩)∧iG w 136 t p c)∨(a= .pointer none∧vt= .iface t (.pointer p)))) (fun _ a _=>kA a)
 case atStart=>exact⟨rfl,Or.inl ⟨b,rfl,h⟩⟩
 case round=>
  obtain⟨rfl,⟨c,rfl,g⟩|⟨rfl,rfl⟩⟩:=hrel
  ·cases g with
   |last i=>
    go_wp2_with fail
    refine⟨⟨trivial,Or.inr ⟨rfl,rfl⟩⟩,?_⟩;simp
   |next i j k=>
    rename_i c';go_wp2_with fail
    refine⟨⟨trivial,Or.inl ⟨c',rfl,k⟩⟩,?_⟩;simp;omega
  ·go_wp2_with fail
   go_ret;exact⟨rfl,rfl⟩
theorem uU(b:Nat)(t:TypeId)(p:Option Addr)(w:World)(c:t≠136)(h3:w.cell? ⟨b,3,none⟩=some .nilIface)(f3:w.frozen? ⟨b,3,none⟩=false)(h:iG w 136 t p b):
 Calls Tryz.prog 133 #[.pointer (some ⟨b,0,none⟩)] w fun e a=>e= .returned (.tuple #[])∧a=w.setCell ⟨b,3,none⟩ (.iface t (.pointer p)):=by
 go_enter Tryz.func133,Tryz.ntmps133;go_wp2_with fail
 refine(Bj b t p _ c h3 f3 h).mono ?_;rintro e a ⟨rfl,rfl⟩;go_wp2_with fail
 go_end0
 exact⟨rfl,rfl⟩
abbrev iH(obj self:Addr)(rhs act:Value):Array Value:=#[.pointer (some obj),.pointer (some self),rhs,act]
theorem uV(b:Nat)(u:TypeId)(a:Option Addr)(w:World)(d:b<w.heap.size)(f:w.cell? ⟨b,3,none⟩=some .nilIface)(g:w.frozen? ⟨b,3,none⟩=false):
 Calls Tryz.prog 132 #[.pointer none,.pointer (some ⟨b,0,none⟩),.iface u (.pointer a)] w fun e c=>e= .returned (.pointer (some ⟨w.heap.size,0,none⟩))∧
  c=(w.setCell ⟨b,3,none⟩ (.iface 136 (.pointer (some ⟨w.heap.size,0,none⟩)))).alloc (.cells (iH ⟨b,0,none⟩ ⟨w.heap.size,0,none⟩ (.iface u (.pointer a)) .nilIface) 265):=by
 go_enter Tryz.func132,Tryz.ntmps132;go_wp2_with fail
 go_ret;exact⟨rfl,rfl⟩
theorem Bk{w d:World}{A t:TypeId}{p:Option Addr}{b n:Nat}(h:iG w A t p b)(e:b<n)(hk:∀c,c<n→∀v,w.cell? ⟨c,2,none⟩=some v→d.cell? ⟨c,2,none⟩=some v):iG d A t p b:=by
 induction h with
 |last h=>exact .last (hk _ e _ h)
 |next h a _ ih=>exact .next (hk _ e _ h) a (ih (by omega))
theorem Bl(b:Nat)(u:TypeId)(a:Option Addr)(g:u≠136)(w:World)(i:b<w.heap.size)(j:w.cell? ⟨b,3,none⟩=some .nilIface)(k:w.frozen? ⟨b,3,none⟩=false):
 Calls Tryz.prog 80 #[.pointer (some ⟨b,0,none⟩),.iface u (.pointer a)] w fun e d=>e= .returned (.pointer (some ⟨w.heap.size,0,none⟩))∧
  d=(w.setCell ⟨b,3,none⟩ (.iface 136 (.pointer (some ⟨w.heap.size,0,none⟩)))).alloc (.cells (iH ⟨b,0,none⟩ ⟨w.heap.size,0,none⟩ (.iface u (.pointer a)) (.iface u (.pointer a))) 265):=by
 have h:(w.setCell ⟨b,3,none⟩ (.iface 136 (.pointer (some ⟨w.heap.size,0,none⟩)))).heap.size=w.heap.size:=by simp
 have c:=Lib.hid h;clear h;have f:=Lib.hid g;clear g;go_enter Tryz.func80,Tryz.ntmps80;go_wp2_with fail
 refine(uV b u a _ i j k).mono ?_;rintro e d ⟨rfl,rfl⟩;go_wp2_with fail
 refine(uU w.heap.size u a _ f.out ?_ ?_ (.last ?_)).mono ?_
 ·rw[kz _ _ c.out];rfl
 ·rw[mN _ _ c.out]
 ·rw[kz _ _ c.out];rfl
 rintro e d ⟨rfl,rfl⟩;go_wp2_with fail
 go_ret;exact⟨rfl,rfl⟩
theorem Bm(b c:Nat)(t:TypeId)(p:Option Addr)(j:t≠136)(w:World)(l:b<w.heap.size)(m:w.cell? ⟨b,3,none⟩=some .nilIface)(n:w.frozen? ⟨b,3,none⟩=false)
 (f:c<w.heap.size)(h:iG w 136 t p c):
 Calls Tryz.prog 80 #[.pointer (some ⟨b,0,none⟩),.iface 136 (.pointer (some ⟨c,0,none⟩))] w fun e g=>e= .returned (.pointer (some ⟨w.heap.size,0,none⟩))∧
  g=(w.setCell ⟨b,3,none⟩ (.iface 136 (.pointer (some ⟨w.heap.size,0,none⟩)))).alloc (.cells (iH ⟨b,0,none⟩ ⟨w.heap.size,0,none⟩ (.iface 136 (.pointer (some ⟨c,0,none⟩))) (.iface t (.pointer p))) 265):=by
 have k:(w.setCell ⟨b,3,none⟩ (.iface 136 (.pointer (some ⟨w.heap.size,0,none⟩)))).heap.size=w.heap.size:=by simp
 have a:=Lib.hid k;clear k;have i:=Lib.hid j;clear j;go_enter Tryz.func80,Tryz.ntmps80;go_wp2_with fail
 refine(uV b _ _ _ l m n).mono ?_;rintro e g ⟨rfl,rfl⟩;go_wp2_with fail
 refine(uU w.heap.size t p _ i.out ?_ ?_ (.next (c:=c) ?_ f (Bk h f ?_))).mono ?_
 ·rw[kz _ _ a.out];rfl
 ·rw[mN _ _ a.out]
 ·rw[kz _ _ a.out];rfl
 ·intro d o v q
  rw[World.cell?_alloc_lt _ _ _ (by rw[a.out];exact o),World.cell?_setCell_other _ _ _ _ (by simp)];exact q
 rintro e g ⟨rfl,rfl⟩;go_wp2_with fail
 go_ret;exact⟨rfl,rfl⟩
end Go.Proofs.YtdkmnkjhhhmglaaGreatDoor
