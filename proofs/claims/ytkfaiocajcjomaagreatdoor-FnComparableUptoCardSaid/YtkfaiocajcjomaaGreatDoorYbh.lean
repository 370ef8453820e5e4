import Derived.Test.YtkfaiocajcjomaaGreatDoorYbf
set_option maxRecDepth 100000
set_option maxHeartbeats 8000000
set_option linter.all false
namespace Go.Proofs.YtkfaiocajcjomaaGreatDoor
open Go.RowKit TS
theorem _root_.TS.WB.setCell{p:Pm}{w:World}(h:WB p w){b o:Nat}(v:Value)(d:p b o=none)(f:b≠5):WB p (w.setCell ⟨b,o,none⟩ v) where
 kw:=fun g i x a=>by
  rw[World.cell?_setCell_other]
  ·exact h.kw _ _ _ a
  ·intro e;cases e;rw[d]at a;cases a
 pl:=fun g i x a=>iA (h.pl _ _ _ a) _ _
 cap:=fun c h1 h2=>by
  rw[World.cell?_setCell_other]
  ·exact h.cap c h1 h2
  ·intro e;cases e;exact f rfl
def pz(p:Pm)(g:Ge)(B:Nat)(M:List U)(v:Value)(el:Value)(X:Nat→Prop)(w:World)(e:Ending)(a:World):Prop:=
 ∃(b:Nat)(fs:List Nat),e= .returned (.pointer (some ⟨b,0,none⟩))∧w.heap.size≤b∧a.heap[b]?=some (.cells (c_ v el true (.pointer none)) 105 (0,0))∧a.ownsRow B 99 1 v fs.length (fs.map pv)∧fs.length=M.length∧
  (∀i(h:i<M.length)(d:i<fs.length),cP p g M[i] fs[i]∧p fs[i] 0=some (.int .i64 0))∧WB p a∧Kept (fun c=>X c∨v.ownBlock=some c) w a
theorem pC{M:List U}(h:dE M):bZ M=M:=(nL h.noTwo (List.Perm.refl M) h).symm
theorem Cp(p:Pm)(g:Ge)(B:Nat)(M:List U)(fs:List Nat)(a:Nat→Nat)(v:Value)(a2:Option Addr)(N c2:Nat)(w:World)(hE:WB p w)(ho:w.ownsRow B 99 1 v fs.length (fs.map pv))(hl:fs.length=M.length)(hf:∀i(h:i<M.length)(h':i<fs.length),cP p g M[i] fs[i]∧p fs[i] 0=some (.int .i64 0))
 (hs:∀i(h:i<fs.length),p fs[i] 3=some (ae 94 (a i))∧(∃o,w.cell? ⟨a i,0,none⟩=some (.pointer o))∧w.frozen? ⟨a i,0,none⟩=false∧p (a i) 0=none∧5<a i∧v.ownBlock≠some (a i))(hn:∀x∈M,aO x.nm=true)(hO:dE M)(hd:∀b,v.ownBlock=some b→∀o,p b o=none)(hG:5<B)(hm:fs.length≤1048576)(h0:0<fs.length+N):
 Calls Tryz.prog 122 #[v,.slice a2 N c2] w (pz p g B M v (.slice a2 N c2) (fun c=> ∃i,i<fs.length∧c=a i) w):=by
 obtain⟨E,F,rfl⟩:=bd ho;have O:=Lib.hid hE;have P:=Lib.hid ho;have Q:=Lib.hid hf;have R:=Lib.hid hs;have Qo:fs.length≤1099511627776:=by omega
 clear hE ho hf hs;have G:(((fs.length:Int)==0)=true∧((N:Int)==0)=false)∨((fs.length:Int)==0)=false:=by
  rcases Nat.eq_zero_or_pos fs.length with h|h
  ·exact .inl ⟨by rw[h];rfl,by simp;omega⟩
  ·exact .inr (beq_false_of_ne (by omega))
 have S:=Lib.hid hl;clear h0 hl;have Qr:∀(a:Nat) W,(Instr.typeAssert (.iface 94 (.pointer (some ⟨a,0,none⟩))) 39 94 false).run Tryz.prog W= .ok (.pointer (some ⟨a,0,none⟩)) W:=fun a W=>by kernel_rfl
 rcases G with⟨hz,Qs⟩|hz
 all_goals
  go_enter Tryz.func122,Tryz.ntmps122;go_wp2_with fail
  refine(yX _).mono ?_;rintro e w1 ⟨rfl,T⟩;have P5:Below w.heap.size w w1:=by rw[T];exact(Below.refl _ _).alloc (Nat.le_refl _) _
  have aa:w1.heap[w.heap.size]?=some (.cells (c_ (.slice none 0 0) (.slice none 0 0) false (.pointer none)) 105 (0,0)):=by rw[T];exact(MapKept.heap_alloc w _).1
  have m:=Lib.hid P5;have P6:=Lib.hid aa;clear T P5 aa;go_wp2_with fail
  go_loopw [23] (fun vi wr=> ∃k:Nat,k≤fs.length∧vi= .int .i64 k∧WB p wr∧Kept (fun c=> ∃i,i<fs.length∧c=a i) w wr∧wr.ownsRow B 99 1 (.slice E fs.length F) fs.length (fs.map pv)∧wr.heap[w.heap.size]?=some (.cells (c_ (.slice none 0 0) (.slice none 0 0) false (.pointer none)) 105 (0,0))∧
   ∀i,i<fs.length→(∃o,wr.cell? ⟨a i,0,none⟩=some (.pointer o))∧wr.frozen? ⟨a i,0,none⟩=false) (fun vi _=>fs.length- (intOf vi).toNat)
  case atStart=>
   refine⟨0,Nat.zero_le _,rfl,O.out.below m.out,Kept.of m.out,bD P.out m.out,P6.out,fun i hi=> ?_⟩;obtain⟨_,⟨o,h1⟩,h2,_⟩:=R.out i hi;exact⟨⟨o,ak m.out h1⟩,TS.frozen_kept m.out (World.block_lt_of_cell? _ _ h1) h2⟩
  case round=>
   obtain⟨k,hk,rfl,P7,P8,P9,P_,Qa⟩:=hrel;have d:=Lib.hid P7;have r:=Lib.hid P8;have f:=Lib.hid P9;have l:=Lib.hid P_;have s:=Lib.hid Qa;clear P7 P8 P9 P_ Qa;by_cases t:k<fs.length
   ·have Qp:(k:Int)<fs.length:=by omega
    have Qk:k<M.length:=by have:=S.out;omega
    obtain⟨⟨Qt,⟨fq,f1⟩,f2,f3,f4⟩,f0⟩:=Q.out k Qk t;obtain⟨s3,_,_,sp,sG,sO⟩:=R.out k t;rw[s3]at f3;cases f3;obtain⟨⟨o,so⟩,sz⟩:=s.out k t;obtain⟨gb,cap,e0,_,Qu,Qq,_⟩:=jO f.out (by omega);cases e0;have V:wr.cell? ⟨gb,k,none⟩=some (.pointer (some ⟨fs[k],0,none⟩)):=by rw[f.out.cellAt k (by omega)];simp[t]
    generalize Qv:fs[k]=fk at*;have g0:=d.out.kw _ _ _ f0;have g1:=d.out.kw _ _ _ f1;have g3:=d.out.kw _ _ _ s3;have H:fk≠a k:=fun e=>by rw[e]at f0;rw[sp]at f0;cases f0
    cases o with
    |some o=>
     go_wp2_with fail
     refine⟨⟨k+1,by omega,by go_num,d.out,r.out,f.out,l.out,s.out⟩,?_⟩;first|omega|(simp[intOf];omega)
    |none=>
     have y:=World.block_lt_of_cell? _ _ g0;have Ql:=World.block_lt_of_cell? _ _ so;simp only at y Ql;go_wp2_with fail
     refine oR (fun W=>W.cell? ⟨fk,0,none⟩=some (.int .i64 0)∧W.cell? ⟨fk,1,none⟩=some (.pointer fq)) [(0,true),(1,true),(2,true),(3,true),(4,true),(5,true),(6,true),(7,true),(8,true),(9,true),(10,true),(11,true),(12,true),(13,false),(14,true),(15,true),(16,false)] (by exact⟨g0,g1⟩) (fun z=> ?_);repeat((first|refine oS ?_|refine oF z ?_);try simp only[Act.put,oa,ob,oc])
     refine oL fun K hK=> ?_;go_simp;go_at_call 65
     refine(jX _ _ _ _ _ _ _).mono ?_;rintro e1 w2 ⟨rfl,rfl⟩;(try simp only[]);refine hK _ _ (⟨by rw[World.cell?_alloc_lt _ _ _ y];exact g0,by rw[World.cell?_alloc_lt _ _ _ y];exact g1⟩) fun z=> ?_;clear hK K;try simp only[Act.put,oa,ob,oc]
     repeat((first|refine oS ?_|refine oF z ?_);try simp only[Act.put,oa,ob,oc])
     refine oL fun K hK=> ?_;go_simp;(try simp only[]);refine hK _ _ (⟨by simp[go_sem,H.symm,y,H,g0],by simp[go_sem,H.symm,y,H,g1]⟩) fun z=> ?_;clear hK K;try simp only[Act.put,oa,ob,oc]
     refine bM ?_;clear z;have Qm:Hid (WB p (wr.setCell ⟨a k,0,none⟩ (.pointer (some ⟨wr.heap.size,0,none⟩)))):=d.out.setCell _ sp (by omega);have Y:Hid (Kept (fun c=>c=a k) wr (wr.setCell ⟨a k,0,none⟩ (.pointer (some ⟨wr.heap.size,0,none⟩)))):=Kept.setCell (X:=fun c=>c=a k) (Kept.refl _ _) (fun _=>rfl) _;have Z:w.heap.size<wr.heap.size:=(Array.getElem?_eq_some_iff.1 l.out).1;have Qb:w.heap.size<(wr.setCell ⟨a k,0,none⟩ (.pointer (some ⟨wr.heap.size,0,none⟩))).heap.size:=by simp;omega
     have u:Hid (∀o,Below (wr.setCell ⟨a k,0,none⟩ (.pointer (some ⟨wr.heap.size,0,none⟩))).heap.size (wr.setCell ⟨a k,0,none⟩ (.pointer (some ⟨wr.heap.size,0,none⟩))) ((wr.setCell ⟨a k,0,none⟩ (.pointer (some ⟨wr.heap.size,0,none⟩))).alloc o).drew):=fun o=>((Below.refl _ _).alloc (Nat.le_refl _) o).drew;have Qn:Hid (∀i,i<fs.length→(∃o,(wr.setCell ⟨a k,0,none⟩ (.pointer (some ⟨wr.heap.size,0,none⟩))).cell? ⟨a i,0,none⟩=some (.pointer o))∧(wr.setCell ⟨a k,0,none⟩ (.pointer (some ⟨wr.heap.size,0,none⟩))).frozen? ⟨a i,0,none⟩=false):=fun i hi=>by
      obtain⟨⟨o,h1⟩,h2⟩:=s.out i hi;refine⟨?_,by rw[World.frozen?_setCell];exact h2⟩;by_cases e:a i=a k
      ·rw[e]at h1⊢
       exact⟨_,World.cell?_setCell_same _ _ _ h1⟩
      ·refine⟨o,?_⟩
       rw[World.cell?_setCell_other _ _ _ _ (fun x=>e (congrArg Addr.block x).symm)];exact h1
     have Qc:a k≠w.heap.size:=fun e=>by
      obtain⟨_,⟨o,h1⟩,_⟩:=R.out k t;have:=World.block_lt_of_cell? _ _ h1;simp only at this;omega
     clear V;go_wp2_with fail
     refine⟨⟨k+1,by omega,by go_num,Qm.out.below (u.out _),(r.out.trans Y.out fun c _ e=>⟨k,t,e⟩).below (u.out _),bD (dO f.out Y.out fun c e e'=>sO (by rw[e];exact congrArg some e')) (u.out _),((u.out _).block _ Qb).trans ((Y.out.block _ Z (fun e=>Qc e.symm)).trans l.out),fun i hi=> ?_⟩,?_⟩
     ·obtain⟨⟨o,h1⟩,h2⟩:=Qn.out i hi
      exact⟨⟨o,ak (u.out _) h1⟩,TS.frozen_kept (u.out _) (World.block_lt_of_cell? _ _ h1) h2⟩
     first|omega|(simp[intOf];omega)
   ·have Qw:¬(k:Int)<fs.length:=by omega
    have hS:=Lib.hid (tV p g B M fs (.slice E fs.length F) wr d.out f.out S.out (fun i hi I=>(Q.out i hi I).1) hn hO.noTwo hd hG hm);have Z:w.heap.size<wr.heap.size:=(Array.getElem?_eq_some_iff.1 l.out).1;go_wp2_with fail
    refine hS.out.mono ?_;rintro e D ⟨rfl,Qd,A,q,C,J,Qe⟩;have L:(Value.slice E fs.length F).ownBlock≠some w.heap.size:=fun e=>by have:=(P.out.lt _ e).2;omega
    have n:=(J.block w.heap.size Z L).trans l.out;have i1:D.cell? ⟨w.heap.size,1,none⟩=some (.slice none 0 0):=by simp[World.cell?,n]
    have i2:D.cell? ⟨w.heap.size,2,none⟩=some (.slice none 0 0):=by simp[World.cell?,n]
    have i5:D.cell? ⟨w.heap.size,5,none⟩=some (.bool false):=by simp[World.cell?,n]
    have f1:D.frozen? ⟨w.heap.size,1,none⟩=false:=by simp[World.frozen?,n]
    have f2:D.frozen? ⟨w.heap.size,2,none⟩=false:=by simp[World.frozen?,n]
    have f5:D.frozen? ⟨w.heap.size,5,none⟩=false:=by simp[World.frozen?,n]
    have P3:∀o,p w.heap.size o=none:=fun o=>O.out.kw.aI (Nat.le_refl _) o;have P4:w.heap.size≠5:=fun e=>by
     have:=World.block_lt_of_cell? _ _ (O.out.cap 65 (by decide) (by decide));simp only at this;omega
    have Qf:WB p D:=d.out.own J hd fun e=>by have:=(P.out.lt _ e).1;omega
    have Qg:=((Qf.setCell (.slice E fs.length F) (P3 1) P4).setCell (.slice a2 N c2) (P3 2) P4).setCell (.bool true) (P3 5) P4;have Qh:Kept (fun c=>(∃i,i<fs.length∧c=a i)∨(Value.slice E fs.length F).ownBlock=some c) w (((D.setCell ⟨w.heap.size,1,none⟩ (.slice E fs.length F)).setCell ⟨w.heap.size,2,none⟩ (.slice a2 N c2)).setCell ⟨w.heap.size,5,none⟩ (.bool true)):=by
     have h1:Kept (fun c=>(∃i,i<fs.length∧c=a i)∨(Value.slice E fs.length F).ownBlock=some c) w D:=(r.out.mono fun c _ h=> .inl h).trans J fun c _ e=> .inr e;exact((h1.setCell (fun h=>absurd h (by simp)) _).setCell (fun h=>absurd h (by simp)) _).setCell (fun h=>absurd h (by simp)) _
    have Qi:Hid (pz p g B M (.slice E fs.length F) (.slice a2 N c2) (fun c=> ∃i,i<fs.length∧c=a i) w (.returned (.pointer (some ⟨w.heap.size,0,none⟩))) (((D.setCell ⟨w.heap.size,1,none⟩ (.slice E fs.length F)).setCell ⟨w.heap.size,2,none⟩ (.slice a2 N c2)).setCell ⟨w.heap.size,5,none⟩ (.bool true))):=by
     rw[pC hO]at q;refine⟨w.heap.size,Qd,rfl,Nat.le_refl _,heap_set (heap_set (heap_set n)),eO (eO (eO A L _) L _) L _,q,fun i hi I=> ?_,Qg,Qh⟩;have Qj:Qd[i]∈fs:=Qe.subset (List.getElem_mem I);obtain⟨j,hj,e⟩:=List.getElem_of_mem Qj;refine⟨?_,by rw[←e];exact(Q.out j (by have:=S.out;omega) hj).2⟩;have h1:=C i (by rw[pC hO];exact hi) I;simpa [pC hO]using h1
    clear A q C J Qf Qg Qh n hS d r f l s;go_wp2_with fail
    go_ret;exact Qi.out
end Go.Proofs.YtkfaiocajcjomaaGreatDoor
