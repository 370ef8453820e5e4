import Derived.Test.YtdkmnkjhhhmglaaGreatDoorYbe
set_option maxRecDepth 100000
set_option maxHeartbeats 8000000
set_option linter.all false
namespace Go.Proofs.YtdkmnkjhhhmglaaGreatDoor
open Go.RowKit TS
theorem _root_.TS.WB.setCell{p:Pm}{w:World}(h:WB p w){b o:Nat}(v:Value)(d:p b o=none)(f:b≠5):WB p (w.setCell ⟨b,o,none⟩ v) where
 kw:=fun g i x a=>by
  rw[World.cell?_setCell_other]
  ·exact h.kw _ _ _ a
  ·intro e;cases e;rw[d]at a;cases a
 pl:=fun g i x a=>jB (h.pl _ _ _ a) _ _
 cap:=fun c h1 h2=>by
  rw[World.cell?_setCell_other]
  ·exact h.cap c h1 h2
  ·intro e;cases e;exact f rfl
def rB(p:Pm)(g:Ge)(B:Nat)(M:List U)(v:Value)(el:Value)(X:Nat→Prop)(w:World)(e:Ending)(a:World):Prop:=
 ∃(b:Nat)(fs:List Nat),e= .returned (.pointer (some ⟨b,0,none⟩))∧w.heap.size≤b∧a.heap[b]?=some (.cells (dJ v el true (.pointer none)) 113 (0,0))∧a.ownsRow B 107 1 v fs.length (fs.map pv)∧fs.length=M.length∧
  (∀i(h:i<M.length)(d:i<fs.length),dn p g M[i] fs[i]∧p fs[i] 0=some (.int .i64 0))∧WB p a∧Kept (fun c=>X c∨v.ownBlock=some c) w a
theorem rC{M:List U}(h:dF M):b7 M=M:=(pX h.noTwo (List.Perm.refl M) h).symm
theorem Ez(p:Pm)(g:Ge)(B:Nat)(M:List U)(fs:List Nat)(a:Nat→Nat)(v:Value)(a2:Option Addr)(N c2:Nat)(w:World)(hE:WB p w)(ho:w.ownsRow B 107 1 v fs.length (fs.map pv))(hl:fs.length=M.length)(hf:∀i(h:i<M.length)(h':i<fs.length),dn p g M[i] fs[i]∧p fs[i] 0=some (.int .i64 0))
 (hs:∀i(h:i<fs.length),p fs[i] 3=some (ae 102 (a i))∧(∃o,w.cell? ⟨a i,0,none⟩=some (.pointer o))∧w.frozen? ⟨a i,0,none⟩=false∧p (a i) 0=none∧5<a i∧v.ownBlock≠some (a i))(hn:∀x∈M,aM x.nm=true)(hO:dF M)(hd:∀b,v.ownBlock=some b→∀o,p b o=none)(hG:5<B)(hm:fs.length≤1048576)(h0:0<fs.length+N):
 Calls Tryz.prog 140 #[v,.slice a2 N c2] w (rB p g B M v (.slice a2 N c2) (fun c=> ∃i,i<fs.length∧c=a i) w):=by
 obtain⟨E,F,rfl⟩:=bn ho;have O:=Lib.hid hE;have P:=Lib.hid ho;have Q:=Lib.hid hf;have R:=Lib.hid hs;have P9:fs.length≤1099511627776:=by omega
 clear hE ho hf hs;have G:(((fs.length:Int)==0)=true∧((N:Int)==0)=false)∨((fs.length:Int)==0)=false:=by
  rcases Nat.eq_zero_or_pos fs.length with h|h
  ·exact .inl ⟨by rw[h];rfl,by simp;omega⟩
  ·exact .inr (beq_false_of_ne (by omega))
 have S:=Lib.hid hl;clear h0 hl;have Qb:∀(a:Nat) W,(Instr.typeAssert (.iface 102 (.pointer (some ⟨a,0,none⟩))) 38 102 false).run Tryz.prog W= .ok (.pointer (some ⟨a,0,none⟩)) W:=fun a W=>by kernel_rfl
 rcases G with⟨hz,Qc⟩|hz
 all_goals
  go_enter Tryz.func140,Tryz.ntmps140;go_wp2_with fail
  refine(Bq _).mono ?_;rintro e w1 ⟨rfl,T⟩;have PO:Below w.heap.size w w1:=by rw[T];exact(Below.refl _ _).alloc (Nat.le_refl _) _
  have aa:w1.heap[w.heap.size]?=some (.cells (dJ (.slice none 0 0) (.slice none 0 0) false (.pointer none)) 113 (0,0)):=by rw[T];exact(MapKept.heap_alloc w _).1
  have m:=Lib.hid PO;have PQ:=Lib.hid aa;clear T PO aa;go_wp2_with fail
  go_loopw [23] (fun vi wr=> ∃k:Nat,k≤fs.length∧vi= .int .i64 k∧WB p wr∧Kept (fun c=> ∃i,i<fs.length∧c=a i) w wr∧wr.ownsRow B 107 1 (.slice E fs.length F) fs.length (fs.map pv)∧wr.heap[w.heap.size]?=some (.cells (dJ (.slice none 0 0) (.slice none 0 0) false (.pointer none)) 113 (0,0))∧
   ∀i,i<fs.length→(∃o,wr.cell? ⟨a i,0,none⟩=some (.pointer o))∧wr.frozen? ⟨a i,0,none⟩=false) (fun vi _=>fs.length- (intOf vi).toNat)
  case atStart=>
   refine⟨0,Nat.zero_le _,rfl,O.out.below m.out,Kept.of m.out,bO P.out m.out,PQ.out,fun i hi=> ?_⟩;obtain⟨_,⟨o,h1⟩,h2,_⟩:=R.out i hi;exact⟨⟨o,ar m.out h1⟩,TS.frozen_kept m.out (World.block_lt_of_cell? _ _ h1) h2⟩
  case round=>
   obtain⟨k,hk,rfl,PR,PS,PT,PU,PV⟩:=hrel;have d:=Lib.hid PR;have r:=Lib.hid PS;have f:=Lib.hid PT;have l:=Lib.hid PU;have s:=Lib.hid PV;clear PR PS PT PU PV;by_cases t:k<fs.length
   ·have P_:(k:Int)<fs.length:=by omega
    have P5:k<M.length:=by have:=S.out;omega
    obtain⟨⟨Qd,⟨fq,f1⟩,f2,f3,f4⟩,f0⟩:=Q.out k P5 t;obtain⟨s3,_,_,sp,sG,sO⟩:=R.out k t;rw[s3]at f3;cases f3;obtain⟨⟨o,so⟩,sz⟩:=s.out k t;obtain⟨gb,cap,e0,_,Qe,Qa,_⟩:=k_ f.out (by omega);cases e0;have V:wr.cell? ⟨gb,k,none⟩=some (.pointer (some ⟨fs[k],0,none⟩)):=by rw[f.out.cellAt k (by omega)];simp[t]
    generalize Qf:fs[k]=fk at*;have g0:=d.out.kw _ _ _ f0;have g1:=d.out.kw _ _ _ f1;have g3:=d.out.kw _ _ _ s3;have H:fk≠a k:=fun e=>by rw[e]at f0;rw[sp]at f0;cases f0
    cases o with
    |some o=>
     go_wp2_with fail
     refine⟨⟨k+1,by omega,by go_num,d.out,r.out,f.out,l.out,s.out⟩,?_⟩;first|omega|(simp[intOf];omega)
    |none=>
     have y:=World.block_lt_of_cell? _ _ g0;have P6:=World.block_lt_of_cell? _ _ so;simp only at y P6;go_wp2_with fail
     refine oR (fun W=>W.cell? ⟨fk,0,none⟩=some (.int .i64 0)∧W.cell? ⟨fk,1,none⟩=some (.pointer fq)) [(0,true),(1,true),(2,true),(3,true),(4,true),(5,true),(6,true),(7,true),(8,true),(9,true),(10,true),(11,true),(12,true),(13,false),(14,true),(15,true),(16,false)] (by exact⟨g0,g1⟩) (fun z=> ?_);repeat((first|refine oS ?_|refine oF z ?_);try simp only[Act.put,oa,ob,oc])
     refine oL fun K hK=> ?_;go_simp;go_at_call 70
     refine(lv _ _ _ _ _ _ _).mono ?_;rintro e1 w2 ⟨rfl,rfl⟩;(try simp only[]);refine hK _ _ (⟨by rw[World.cell?_alloc_lt _ _ _ y];exact g0,by rw[World.cell?_alloc_lt _ _ _ y];exact g1⟩) fun z=> ?_;clear hK K;try simp only[Act.put,oa,ob,oc]
     repeat((first|refine oS ?_|refine oF z ?_);try simp only[Act.put,oa,ob,oc])
     refine oL fun K hK=> ?_;go_simp;(try simp only[]);refine hK _ _ (⟨by simp[go_sem,H.symm,y,H,g0],by simp[go_sem,H.symm,y,H,g1]⟩) fun z=> ?_;clear hK K;try simp only[Act.put,oa,ob,oc]
     refine ch ?_;clear z;have P7:Hid (WB p (wr.setCell ⟨a k,0,none⟩ (.pointer (some ⟨wr.heap.size,0,none⟩)))):=d.out.setCell _ sp (by omega);have Y:Hid (Kept (fun c=>c=a k) wr (wr.setCell ⟨a k,0,none⟩ (.pointer (some ⟨wr.heap.size,0,none⟩)))):=Kept.setCell (X:=fun c=>c=a k) (Kept.refl _ _) (fun _=>rfl) _;have Z:w.heap.size<wr.heap.size:=(Array.getElem?_eq_some_iff.1 l.out).1;have PW:w.heap.size<(wr.setCell ⟨a k,0,none⟩ (.pointer (some ⟨wr.heap.size,0,none⟩))).heap.size:=by simp;omega
     have u:Hid (∀o,Below (wr.setCell ⟨a k,0,none⟩ (.pointer (some ⟨wr.heap.size,0,none⟩))).heap.size (wr.setCell ⟨a k,0,none⟩ (.pointer (some ⟨wr.heap.size,0,none⟩))) ((wr.setCell ⟨a k,0,none⟩ (.pointer (some ⟨wr.heap.size,0,none⟩))).alloc o).drew):=fun o=>((Below.refl _ _).alloc (Nat.le_refl _) o).drew;have P8:Hid (∀i,i<fs.length→(∃o,(wr.setCell ⟨a k,0,none⟩ (.pointer (some ⟨wr.heap.size,0,none⟩))).cell? ⟨a i,0,none⟩=some (.pointer o))∧(wr.setCell ⟨a k,0,none⟩ (.pointer (some ⟨wr.heap.size,0,none⟩))).frozen? ⟨a i,0,none⟩=false):=fun i hi=>by
      obtain⟨⟨o,h1⟩,h2⟩:=s.out i hi;refine⟨?_,by rw[World.frozen?_setCell];exact h2⟩;by_cases e:a i=a k
      ·rw[e]at h1⊢
       exact⟨_,World.cell?_setCell_same _ _ _ h1⟩
      ·refine⟨o,?_⟩
       rw[World.cell?_setCell_other _ _ _ _ (fun x=>e (congrArg Addr.block x).symm)];exact h1
     have PX:a k≠w.heap.size:=fun e=>by
      obtain⟨_,⟨o,h1⟩,_⟩:=R.out k t;have:=World.block_lt_of_cell? _ _ h1;simp only at this;omega
     clear V;go_wp2_with fail
     refine⟨⟨k+1,by omega,by go_num,P7.out.below (u.out _),(r.out.trans Y.out fun c _ e=>⟨k,t,e⟩).below (u.out _),bO (eC f.out Y.out fun c e e'=>sO (by rw[e];exact congrArg some e')) (u.out _),((u.out _).block _ PW).trans ((Y.out.block _ Z (fun e=>PX e.symm)).trans l.out),fun i hi=> ?_⟩,?_⟩
     ·obtain⟨⟨o,h1⟩,h2⟩:=P8.out i hi
      exact⟨⟨o,ar (u.out _) h1⟩,TS.frozen_kept (u.out _) (World.block_lt_of_cell? _ _ h1) h2⟩
     first|omega|(simp[intOf];omega)
   ·have Qg:¬(k:Int)<fs.length:=by omega
    have hS:=Lib.hid (wL p g B M fs (.slice E fs.length F) wr d.out f.out S.out (fun i hi I=>(Q.out i hi I).1) hn hO.noTwo hd hG hm);have Z:w.heap.size<wr.heap.size:=(Array.getElem?_eq_some_iff.1 l.out).1;go_wp2_with fail
    refine hS.out.mono ?_;rintro e D ⟨rfl,PY,A,q,C,J,PZ⟩;have L:(Value.slice E fs.length F).ownBlock≠some w.heap.size:=fun e=>by have:=(P.out.lt _ e).2;omega
    have n:=(J.block w.heap.size Z L).trans l.out;have i1:D.cell? ⟨w.heap.size,1,none⟩=some (.slice none 0 0):=by simp[World.cell?,n]
    have i2:D.cell? ⟨w.heap.size,2,none⟩=some (.slice none 0 0):=by simp[World.cell?,n]
    have i5:D.cell? ⟨w.heap.size,5,none⟩=some (.bool false):=by simp[World.cell?,n]
    have f1:D.frozen? ⟨w.heap.size,1,none⟩=false:=by simp[World.frozen?,n]
    have f2:D.frozen? ⟨w.heap.size,2,none⟩=false:=by simp[World.frozen?,n]
    have f5:D.frozen? ⟨w.heap.size,5,none⟩=false:=by simp[World.frozen?,n]
    have PM:∀o,p w.heap.size o=none:=fun o=>O.out.kw.aJ (Nat.le_refl _) o;have PN:w.heap.size≠5:=fun e=>by
     have:=World.block_lt_of_cell? _ _ (O.out.cap 65 (by decide) (by decide));simp only at this;omega
    have P0:WB p D:=d.out.own J hd fun e=>by have:=(P.out.lt _ e).1;omega
    have P1:=((P0.setCell (.slice E fs.length F) (PM 1) PN).setCell (.slice a2 N c2) (PM 2) PN).setCell (.bool true) (PM 5) PN;have P2:Kept (fun c=>(∃i,i<fs.length∧c=a i)∨(Value.slice E fs.length F).ownBlock=some c) w (((D.setCell ⟨w.heap.size,1,none⟩ (.slice E fs.length F)).setCell ⟨w.heap.size,2,none⟩ (.slice a2 N c2)).setCell ⟨w.heap.size,5,none⟩ (.bool true)):=by
     have h1:Kept (fun c=>(∃i,i<fs.length∧c=a i)∨(Value.slice E fs.length F).ownBlock=some c) w D:=(r.out.mono fun c _ h=> .inl h).trans J fun c _ e=> .inr e;exact((h1.setCell (fun h=>absurd h (by simp)) _).setCell (fun h=>absurd h (by simp)) _).setCell (fun h=>absurd h (by simp)) _
    have P3:Hid (rB p g B M (.slice E fs.length F) (.slice a2 N c2) (fun c=> ∃i,i<fs.length∧c=a i) w (.returned (.pointer (some ⟨w.heap.size,0,none⟩))) (((D.setCell ⟨w.heap.size,1,none⟩ (.slice E fs.length F)).setCell ⟨w.heap.size,2,none⟩ (.slice a2 N c2)).setCell ⟨w.heap.size,5,none⟩ (.bool true))):=by
     rw[rC hO]at q;refine⟨w.heap.size,PY,rfl,Nat.le_refl _,heap_set (heap_set (heap_set n)),fI (fI (fI A L _) L _) L _,q,fun i hi I=> ?_,P1,P2⟩;have P4:PY[i]∈fs:=PZ.subset (List.getElem_mem I);obtain⟨j,hj,e⟩:=List.getElem_of_mem P4;refine⟨?_,by rw[←e];exact(Q.out j (by have:=S.out;omega) hj).2⟩;have h1:=C i (by rw[rC hO];exact hi) I;simpa [rC hO]using h1
    clear A q C J P0 P1 P2 n hS d r f l s;go_wp2_with fail
    go_ret;exact P3.out
end Go.Proofs.YtdkmnkjhhhmglaaGreatDoor
