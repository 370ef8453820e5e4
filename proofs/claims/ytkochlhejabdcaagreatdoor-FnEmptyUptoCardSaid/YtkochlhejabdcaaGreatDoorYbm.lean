import Derived.Test.YtkochlhejabdcaaGreatDoorYbk
set_option maxRecDepth 100000
set_option maxHeartbeats 8000000
set_option linter.all false
namespace Go.Proofs.YtkochlhejabdcaaGreatDoor
open Go.RowKit TS Tryz
theorem _root_.TS.WB.setCell{p:Pm}{w:World}(h:WB p w){b o:Nat}(v:Value)(d:p b o=none)(f:b≠5):WB p (w.setCell (Xa b o) v) where
 kw:=fun g i x a=>by
  rw[World.cell?_setCell_other]
  ·exact h.kw _ _ _ a
  ·intro e;cases e;rw[d]at a;cases a
 pl:=fun g i x a=>jA (h.pl _ _ _ a) _ _
 cap:=fun c h1 j=>by
  rw[World.cell?_setCell_other]
  ·exact h.cap c h1 j
  ·intro e;cases e;exact f rfl
def rD(p:Pm)(g:Ge)(B:Nat)(M:List U)(v:Value)(el:Value)(X:Nat→Prop)(w:World)(e:Ending)(a:World):Prop:=
 ∃(b:Nat)(fs:List Nat),e= .returned (Xp b)∧w.heap.size≤b∧a.heap[b]?=some (.cells (dI v el true (.pointer none)) 119 (0,0))∧a.ownsRow B 113 1 v fs.length (fs.map pv)∧fs.length=M.length∧
  (∀i(h:i<M.length)(d:i<fs.length),dq p g M[i] fs[i]∧p fs[i] 0=some (.int .i64 0))∧WB p a∧Kept (fun c=>X c∨v.ownBlock=some c) w a
theorem rE{M:List U}(h:ef M):b7 M=M:=(pV h.noTwo (List.Perm.refl M) h).symm
theorem ED(p:Pm)(g:Ge)(B:Nat)(M:List U)(fs:List Nat)(a:Nat→Nat)(v:Value)(a2:Option Addr)(N c2:Nat)(w:World)(hE:WB p w)(ho:w.ownsRow B 113 1 v fs.length (fs.map pv))(hl:fs.length=M.length)(hf:∀i(h:i<M.length)(h':i<fs.length),dq p g M[i] fs[i]∧p fs[i] 0=some (.int .i64 0))
 (hs:∀i(h:i<fs.length),p fs[i] 3=some (ah 108 (a i))∧(∃o,Xc w (a i) 0 (.pointer o))∧w.frozen? (Xa (a i) 0)=false∧p (a i) 0=none∧5<a i∧v.ownBlock≠some (a i))(hn:∀x∈M,aR x.nm=true)(hO:ef M)(hd:∀b,v.ownBlock=some b→∀o,p b o=none)(hG:5<B)(hm:fs.length≤1048576)(h0:0<fs.length+N):
 Xk 163 #[v,.slice a2 N c2] w (rD p g B M v (.slice a2 N c2) (fun c=> ∃i,i<fs.length∧c=a i) w):=by
 obtain⟨E,F,rfl⟩:=a_ ho;have O:=zh hE;have P:=zh ho;have Q:=zh hf;have R:=zh hs;have P4:fs.length≤1099511627776:=zo;clear hE ho hf hs;have G:(((fs.length:Int)==0)=true∧((N:Int)==0)=false)∨((fs.length:Int)==0)=false:=by
  rcases Nat.eq_zero_or_pos fs.length with h|h
  ·exact .inl ⟨by rw[h];rfl,by simp;omega⟩
  ·exact .inr (beq_false_of_ne zo)
 have S:=zh hl;clear h0 hl;have P7:∀(a:Nat) W,(Instr.typeAssert (Xi 108 a) 49 108 false).run Tryz.prog W= .ok (Xp a) W:=fun a W=>by kernel_rfl
 rcases G with⟨hz,P8⟩|hz
 all_goals
  go_enter func163,ntmps163;go_wp2_with fail
  refine(Ba _).mono ?_;rintro e w1 ⟨rfl,T⟩;have PI:Below w w w1:=by rw[T];exact zB.alloc zl _
  have aa:w1.heap[w.heap.size]?=some (.cells (dI (.slice none 0 0) (.slice none 0 0) false (.pointer none)) 119 (0,0)):=by rw[T];exact(MapKept.heap_alloc w _).1
  have m:=zh PI;have PJ:=zh aa;clear T PI aa;go_wp2_with fail
  go_loopw [23] (fun vi wr=> ∃k:Nat,k≤fs.length∧vi= .int .i64 k∧WB p wr∧Kept (fun c=> ∃i,i<fs.length∧c=a i) w wr∧wr.ownsRow B 113 1 (.slice E fs.length F) fs.length (fs.map pv)∧wr.heap[w.heap.size]?=some (.cells (dI (.slice none 0 0) (.slice none 0 0) false (.pointer none)) 119 (0,0))∧
   ∀i,i<fs.length→(∃o,Xc wr (a i) 0 (.pointer o))∧wr.frozen? (Xa (a i) 0)=false) (fun vi _=>fs.length- (intOf vi).toNat)
  case atStart=>
   refine⟨0,Nat.zero_le _,rfl,O.out.below m.out,Kept.of m.out,bw P.out m.out,PJ.out,fun i hi=> ?_⟩;obtain⟨_,⟨o,h1⟩,h2,_⟩:=R.out i hi;exact⟨⟨o,az m.out h1⟩,TS.frozen_kept m.out (zb h1) h2⟩
  case round=>
   obtain⟨k,hk,rfl,PK,PL,PM,PN,PO⟩:=hrel;have d:=zh PK;have r:=zh PL;have f:=zh PM;have l:=zh PN;have s:=zh PO;clear PK PL PM PN PO;by_cases t:k<fs.length
   ·have P5:(k:Int)<fs.length:=zo
    have P0:k<M.length:=by have:=S.out;omega
    obtain⟨⟨P9,⟨fq,f1⟩,f2,f3,f4⟩,f0⟩:=Q.out k P0 t;obtain⟨s3,_,_,sp,sG,sO⟩:=R.out k t;rw[s3]at f3;cases f3;obtain⟨⟨o,so⟩,sz⟩:=s.out k t;obtain⟨gb,cap,e0,_,P_,P6,_⟩:=gZ f.out zo;cases e0;have V:Xc wr gb k (Xp fs[k]):=by rw[f.out.cellAt k zo];simp[t]
    generalize Qa:fs[k]=fk at*;have g0:=d.out.kw _ _ _ f0;have g1:=d.out.kw _ _ _ f1;have g3:=d.out.kw _ _ _ s3;have H:fk≠a k:=fun e=>by rw[e]at f0;rw[sp]at f0;cases f0
    cases o with
    |some o=>
     go_wp2_with fail
     refine⟨⟨k+1,by omega,by go_num,d.out,r.out,f.out,l.out,s.out⟩,?_⟩;first|omega|(simp[intOf];omega)
    |none=>
     have y:=zb g0;have P1:=zb so;simp only at y P1;go_wp2_with fail
     refine oR (fun W=>Xc W fk 0 (.int .i64 0)∧Xc W fk 1 (.pointer fq)) [(0,true),(1,true),(2,true),(3,true),(4,true),(5,true),(6,true),(7,true),(8,true),(9,true),(10,true),(11,true),(12,true),(13,false),(14,true),(15,true),(16,false)] (by exact⟨g0,g1⟩) (fun z=> ?_);repeat((first|refine oS ?_|refine oF z ?_);try simp only[Act.put,oa,ob,oc])
     refine oL fun K hK=> ?_;go_simp;go_at_call 90
     refine(lh _ _ _ _ _ _ _).mono ?_;rintro e1 w2 ⟨rfl,rfl⟩;(try simp only[]);refine hK _ _ (⟨by rw[World.cell?_alloc_lt _ _ _ y];exact g0,by rw[World.cell?_alloc_lt _ _ _ y];exact g1⟩) fun z=> ?_;clear hK K;try simp only[Act.put,oa,ob,oc]
     repeat((first|refine oS ?_|refine oF z ?_);try simp only[Act.put,oa,ob,oc])
     refine oL fun K hK=> ?_;go_simp;(try simp only[]);refine hK _ _ (⟨by simp[go_sem,H.symm,y,H,g0],by simp[go_sem,H.symm,y,H,g1]⟩) fun z=> ?_;clear hK K;try simp only[Act.put,oa,ob,oc]
     refine bZ ?_;clear z;have P2:Hid (WB p (wr.setCell (Xa (a k) 0) (Xp wr))):=d.out.setCell _ sp zo;have Y:Hid (Kept (fun c=>c=a k) wr (wr.setCell (Xa (a k) 0) (Xp wr))):=Kept.setCell (X:=fun c=>c=a k) (Kept.refl _ _) (fun _=>rfl) _;have Z:w.heap.size<wr.heap.size:=(Array.getElem?_eq_some_iff.1 l.out).1;have PQ:w.heap.size<(wr.setCell (Xa (a k) 0) (Xp wr)).heap.size:=zp;have u:Hid (∀o,Below (wr.setCell (Xa (a k) 0) (Xp wr)).heap.size (wr.setCell (Xa (a k) 0) (Xp wr)) ((wr.setCell (Xa (a k) 0) (Xp wr)).alloc o).drew):=fun o=>(zB.alloc zl o).drew;have P3:Hid (∀i,i<fs.length→(∃o,Xc (wr.setCell (Xa (a k) 0) (Xp wr)) (a i) 0 (.pointer o))∧(wr.setCell (Xa (a k) 0) (Xp wr)).frozen? (Xa (a i) 0)=false):=fun i hi=>by
      obtain⟨⟨o,h1⟩,h2⟩:=s.out i hi;refine⟨?_,by rw[World.frozen?_setCell];exact h2⟩;by_cases e:a i=a k
      ·rw[e]at h1⊢
       exact⟨_,World.cell?_setCell_same _ _ _ h1⟩
      ·refine⟨o,?_⟩
       rw[World.cell?_setCell_other _ _ _ _ (fun x=>e (congrArg Addr.block x).symm)];exact h1
     have PR:a k≠w.heap.size:=fun e=>by
      obtain⟨_,⟨o,h1⟩,_⟩:=R.out k t;have:=zb h1;simp only at this;omega
     clear V;go_wp2_with fail
     refine⟨⟨k+1,by omega,by go_num,P2.out.below (u.out _),(r.out.trans Y.out fun c _ e=>⟨k,t,e⟩).below (u.out _),bw (dY f.out Y.out fun c e e'=>sO (by rw[e];exact congrArg some e')) (u.out _),((u.out _).block _ PQ).trans ((Y.out.block _ Z (fun e=>PR e.symm)).trans l.out),fun i hi=> ?_⟩,?_⟩
     ·obtain⟨⟨o,h1⟩,h2⟩:=P3.out i hi
      exact⟨⟨o,az (u.out _) h1⟩,TS.frozen_kept (u.out _) (zb h1) h2⟩
     first|omega|(simp[intOf];omega)
   ·have Qb:¬(k:Int)<fs.length:=zo
    have hS:=zh (wh p g B M fs (.slice E fs.length F) wr d.out f.out S.out (fun i hi I=>(Q.out i hi I).1) hn hO.noTwo hd hG hm);have Z:w.heap.size<wr.heap.size:=(Array.getElem?_eq_some_iff.1 l.out).1;go_wp2_with fail
    refine hS.out.mono ?_;rintro e D ⟨rfl,PS,A,q,C,J,PT⟩;have L:(Value.slice E fs.length F).ownBlock≠some w.heap.size:=fun e=>by have:=(P.out.lt _ e).2;omega
    have n:=(J.block w.heap.size Z L).trans l.out;have i1:Xc D w 1 (.slice none 0 0):=by simp[World.cell?,n]
    have i2:Xc D w 2 (.slice none 0 0):=by simp[World.cell?,n]
    have i5:Xc D w 5 (.bool false):=by simp[World.cell?,n]
    have f1:D.frozen? (Xa w 1)=false:=by simp[World.frozen?,n]
    have f2:D.frozen? (Xa w 2)=false:=by simp[World.frozen?,n]
    have f5:D.frozen? (Xa w 5)=false:=by simp[World.frozen?,n]
    have PG:∀o,p w.heap.size o=none:=fun o=>O.out.kw.aF zl o;have PH:w.heap.size≠5:=fun e=>by
     have:=zb (O.out.cap 65 zd zd);simp only at this;omega
    have PU:WB p D:=d.out.own J hd fun e=>by have:=(P.out.lt _ e).1;omega
    have PW:=((PU.setCell (.slice E fs.length F) (PG 1) PH).setCell (.slice a2 N c2) (PG 2) PH).setCell (.bool true) (PG 5) PH;have PX:Kept (fun c=>(∃i,i<fs.length∧c=a i)∨(Value.slice E fs.length F).ownBlock=some c) w (((D.setCell (Xa w 1) (.slice E fs.length F)).setCell (Xa w 2) (.slice a2 N c2)).setCell (Xa w 5) (.bool true)):=by
     have h1:Kept (fun c=>(∃i,i<fs.length∧c=a i)∨(Value.slice E fs.length F).ownBlock=some c) w D:=(r.out.mono fun c _ h=> .inl h).trans J fun c _ e=> .inr e;exact((h1.setCell (fun h=>absurd h zs) _).setCell (fun h=>absurd h zs) _).setCell (fun h=>absurd h zs) _
    have PY:Hid (rD p g B M (.slice E fs.length F) (.slice a2 N c2) (fun c=> ∃i,i<fs.length∧c=a i) w (.returned (Xp w)) (((D.setCell (Xa w 1) (.slice E fs.length F)).setCell (Xa w 2) (.slice a2 N c2)).setCell (Xa w 5) (.bool true))):=by
     rw[rE hO]at q;refine⟨w.heap.size,PS,rfl,Nat.le_refl _,heap_set (heap_set (heap_set n)),eC (eC (eC A L _) L _) L _,q,fun i hi I=> ?_,PW,PX⟩;have PZ:PS[i]∈fs:=PT.subset (zm I);obtain⟨j,hj,e⟩:=List.getElem_of_mem PZ;refine⟨?_,by rw[←e];exact(Q.out j (by have:=S.out;omega) hj).2⟩;have h1:=C i (by rw[rE hO];exact hi) I;simpa [rE hO]using h1
    clear A q C J PU PW PX n hS d r f l s;go_wp2_with fail
    go_ret;exact PY.out
end Go.Proofs.YtkochlhejabdcaaGreatDoor
