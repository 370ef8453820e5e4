import Derived.Test.YtgbklbbknehefaaGreatDoorYbh
set_option maxRecDepth 100000
set_option maxHeartbeats 8000000
set_option linter.all false
namespace Go.Proofs.YtgbklbbknehefaaGreatDoor
open Go.RowKit TS
theorem _root_.TS.WB.setCell{p:Pm}{w:World}(h:WB p w){b o:Nat}(v:Value)(d:p b o=none)(f:b≠5):WB p (w.setCell ⟨b,o,none⟩ v) where
 kw:=fun g i x a=>by
  rw[World.cell?_setCell_other]
  ·exact h.kw _ _ _ a
  ·intro e;cases e;rw[d]at a;cases a
 pl:=fun g i x a=>ix (h.pl _ _ _ a) _ _
 cap:=fun c h1 h2=>by
  rw[World.cell?_setCell_other]
  ·exact h.cap c h1 h2
  ·intro e;cases e;exact f rfl
def oY(p:Pm)(g:Ge)(B:Nat)(M:List U)(v:Value)(el:Value)(X:Nat→Prop)(w:World)(e:Ending)(a:World):Prop:=
 ∃(b:Nat)(fs:List Nat),e= .returned (.pointer (some ⟨b,0,none⟩))∧w.heap.size≤b∧a.heap[b]?=some (.cells (cZ v el true (.pointer none)) 118 (0,0))∧a.ownsRow B 38 1 v fs.length (fs.map pv)∧fs.length=M.length∧
  (∀i(h:i<M.length)(d:i<fs.length),cL p g M[i] fs[i]∧p fs[i] 0=some (.int .i64 0))∧WB p a∧Kept (fun c=>X c∨v.ownBlock=some c) w a
theorem oZ{M:List U}(h:dy M):bW M=M:=(nj h.noTwo (List.Perm.refl M) h).symm
theorem BU(p:Pm)(g:Ge)(B:Nat)(M:List U)(fs:List Nat)(a:Nat→Nat)(v:Value)(a2:Option Addr)(N c2:Nat)(w:World)(hE:WB p w)(ho:w.ownsRow B 38 1 v fs.length (fs.map pv))(hl:fs.length=M.length)(hf:∀i(h:i<M.length)(h':i<fs.length),cL p g M[i] fs[i]∧p fs[i] 0=some (.int .i64 0))
 (hs:∀i(h:i<fs.length),p fs[i] 3=some (ae 108 (a i))∧(∃o,w.cell? ⟨a i,0,none⟩=some (.pointer o))∧w.frozen? ⟨a i,0,none⟩=false∧p (a i) 0=none∧5<a i∧v.ownBlock≠some (a i))(hn:∀x∈M,aL x.nm=true)(hO:dy M)(hd:∀b,v.ownBlock=some b→∀o,p b o=none)(hG:5<B)(hm:fs.length≤1048576)(h0:0<fs.length+N):
 Calls Tryz.prog 126 #[v,.slice a2 N c2] w (oY p g B M v (.slice a2 N c2) (fun c=> ∃i,i<fs.length∧c=a i) w):=by
 obtain⟨E,F,rfl⟩:=aZ ho;have O:=Lib.hid hE;have P:=Lib.hid ho;have Q:=Lib.hid hf;have R:=Lib.hid hs;have Qp:fs.length≤1099511627776:=by omega
 clear hE ho hf hs;have G:(((fs.length:Int)==0)=true∧((N:Int)==0)=false)∨((fs.length:Int)==0)=false:=by
  rcases Nat.eq_zero_or_pos fs.length with h|h
  ·exact .inl ⟨by rw[h];rfl,by simp;omega⟩
  ·exact .inr (beq_false_of_ne (by omega))
 have S:=Lib.hid hl;clear h0 hl;have Qs:∀(a:Nat) W,(Instr.typeAssert (.iface 108 (.pointer (some ⟨a,0,none⟩))) 44 108 false).run Tryz.prog W= .ok (.pointer (some ⟨a,0,none⟩)) W:=fun a W=>by kernel_rfl
 rcases G with⟨hz,Qt⟩|hz
 all_goals
  go_enter Tryz.func126,Tryz.ntmps126;go_wp2_with fail
  refine(yp _).mono ?_;rintro e w1 ⟨rfl,T⟩;have P6:Below w.heap.size w w1:=by rw[T];exact(Below.refl _ _).alloc (Nat.le_refl _) _
  have aa:w1.heap[w.heap.size]?=some (.cells (cZ (.slice none 0 0) (.slice none 0 0) false (.pointer none)) 118 (0,0)):=by rw[T];exact(MapKept.heap_alloc w _).1
  have m:=Lib.hid P6;have P7:=Lib.hid aa;clear T P6 aa;go_wp2_with fail
  go_loopw [23] (fun vi wr=> ∃k:Nat,k≤fs.length∧vi= .int .i64 k∧WB p wr∧Kept (fun c=> ∃i,i<fs.length∧c=a i) w wr∧wr.ownsRow B 38 1 (.slice E fs.length F) fs.length (fs.map pv)∧wr.heap[w.heap.size]?=some (.cells (cZ (.slice none 0 0) (.slice none 0 0) false (.pointer none)) 118 (0,0))∧
   ∀i,i<fs.length→(∃o,wr.cell? ⟨a i,0,none⟩=some (.pointer o))∧wr.frozen? ⟨a i,0,none⟩=false) (fun vi _=>fs.length- (intOf vi).toNat)
  case atStart=>
   refine⟨0,Nat.zero_le _,rfl,O.out.below m.out,Kept.of m.out,bq P.out m.out,P7.out,fun i hi=> ?_⟩;obtain⟨_,⟨o,h1⟩,h2,_⟩:=R.out i hi;exact⟨⟨o,ak m.out h1⟩,TS.frozen_kept m.out (World.block_lt_of_cell? _ _ h1) h2⟩
  case round=>
   obtain⟨k,hk,rfl,P8,P9,P_,Qa,Qb⟩:=hrel;have d:=Lib.hid P8;have r:=Lib.hid P9;have f:=Lib.hid P_;have l:=Lib.hid Qa;have s:=Lib.hid Qb;clear P8 P9 P_ Qa Qb;by_cases t:k<fs.length
   ·have Qq:(k:Int)<fs.length:=by omega
    have Ql:k<M.length:=by have:=S.out;omega
    obtain⟨⟨Qu,⟨fq,f1⟩,f2,f3,f4⟩,f0⟩:=Q.out k Ql t;obtain⟨s3,_,_,sp,sG,sO⟩:=R.out k t;rw[s3]at f3;cases f3;obtain⟨⟨o,so⟩,sz⟩:=s.out k t;obtain⟨gb,cap,e0,_,Qv,Qr,_⟩:=iY f.out (by omega);cases e0;have V:wr.cell? ⟨gb,k,none⟩=some (.pointer (some ⟨fs[k],0,none⟩)):=by rw[f.out.cellAt k (by omega)];simp[t]
    generalize Qw:fs[k]=fk at*;have g0:=d.out.kw _ _ _ f0;have g1:=d.out.kw _ _ _ f1;have g3:=d.out.kw _ _ _ s3;have H:fk≠a k:=fun e=>by rw[e]at f0;rw[sp]at f0;cases f0
    cases o with
    |some o=>
     go_wp2_with fail
     refine⟨⟨k+1,by omega,by go_num,d.out,r.out,f.out,l.out,s.out⟩,?_⟩;first|omega|(simp[intOf];omega)
    |none=>
     have y:=World.block_lt_of_cell? _ _ g0;have Qm:=World.block_lt_of_cell? _ _ so;simp only at y Qm;go_wp2_with fail
     refine oR (fun W=>W.cell? ⟨fk,0,none⟩=some (.int .i64 0)∧W.cell? ⟨fk,1,none⟩=some (.pointer fq)) [(0,true),(1,true),(2,true),(3,true),(4,true),(5,true),(6,true),(7,true),(8,true),(9,true),(10,true),(11,true),(12,true),(13,false),(14,true),(15,true),(16,false)] (by exact⟨g0,g1⟩) (fun z=> ?_);repeat((first|refine oS ?_|refine oF z ?_);try simp only[Act.put,oa,ob,oc])
     refine oL fun K hK=> ?_;go_simp;go_at_call 62
     refine(jL _ _ _ _ _ _ _).mono ?_;rintro e1 w2 ⟨rfl,rfl⟩;(try simp only[]);refine hK _ _ (⟨by rw[World.cell?_alloc_lt _ _ _ y];exact g0,by rw[World.cell?_alloc_lt _ _ _ y];exact g1⟩) fun z=> ?_;clear hK K;try simp only[Act.put,oa,ob,oc]
     repeat((first|refine oS ?_|refine oF z ?_);try simp only[Act.put,oa,ob,oc])
     refine oL fun K hK=> ?_;go_simp;(try simp only[]);refine hK _ _ (⟨by simp[go_sem,H.symm,y,H,g0],by simp[go_sem,H.symm,y,H,g1]⟩) fun z=> ?_;clear hK K;try simp only[Act.put,oa,ob,oc]
     refine bR ?_;clear z;have Qn:Hid (WB p (wr.setCell ⟨a k,0,none⟩ (.pointer (some ⟨wr.heap.size,0,none⟩)))):=d.out.setCell _ sp (by omega);have Y:Hid (Kept (fun c=>c=a k) wr (wr.setCell ⟨a k,0,none⟩ (.pointer (some ⟨wr.heap.size,0,none⟩)))):=Kept.setCell (X:=fun c=>c=a k) (Kept.refl _ _) (fun _=>rfl) _;have Z:w.heap.size<wr.heap.size:=(Array.getElem?_eq_some_iff.1 l.out).1;have Qc:w.heap.size<(wr.setCell ⟨a k,0,none⟩ (.pointer (some ⟨wr.heap.size,0,none⟩))).heap.size:=by simp;omega
     have u:Hid (∀o,Below (wr.setCell ⟨a k,0,none⟩ (.pointer (some ⟨wr.heap.size,0,none⟩))).heap.size (wr.setCell ⟨a k,0,none⟩ (.pointer (some ⟨wr.heap.size,0,none⟩))) ((wr.setCell ⟨a k,0,none⟩ (.pointer (some ⟨wr.heap.size,0,none⟩))).alloc o).drew):=fun o=>((Below.refl _ _).alloc (Nat.le_refl _) o).drew;have Qo:Hid (∀i,i<fs.length→(∃o,(wr.setCell ⟨a k,0,none⟩ (.pointer (some ⟨wr.heap.size,0,none⟩))).cell? ⟨a i,0,none⟩=some (.pointer o))∧(wr.setCell ⟨a k,0,none⟩ (.pointer (some ⟨wr.heap.size,0,none⟩))).frozen? ⟨a i,0,none⟩=false):=fun i hi=>by
      obtain⟨⟨o,h1⟩,h2⟩:=s.out i hi;refine⟨?_,by rw[World.frozen?_setCell];exact h2⟩;by_cases e:a i=a k
      ·rw[e]at h1⊢
       exact⟨_,World.cell?_setCell_same _ _ _ h1⟩
      ·refine⟨o,?_⟩
       rw[World.cell?_setCell_other _ _ _ _ (fun x=>e (congrArg Addr.block x).symm)];exact h1
     have Qd:a k≠w.heap.size:=fun e=>by
      obtain⟨_,⟨o,h1⟩,_⟩:=R.out k t;have:=World.block_lt_of_cell? _ _ h1;simp only at this;omega
     clear V;go_wp2_with fail
     refine⟨⟨k+1,by omega,by go_num,Qn.out.below (u.out _),(r.out.trans Y.out fun c _ e=>⟨k,t,e⟩).below (u.out _),bq (dL f.out Y.out fun c e e'=>sO (by rw[e];exact congrArg some e')) (u.out _),((u.out _).block _ Qc).trans ((Y.out.block _ Z (fun e=>Qd e.symm)).trans l.out),fun i hi=> ?_⟩,?_⟩
     ·obtain⟨⟨o,h1⟩,h2⟩:=Qo.out i hi
      exact⟨⟨o,ak (u.out _) h1⟩,TS.frozen_kept (u.out _) (World.block_lt_of_cell? _ _ h1) h2⟩
     first|omega|(simp[intOf];omega)
   ·have Qx:¬(k:Int)<fs.length:=by omega
    have hS:=Lib.hid (tm p g B M fs (.slice E fs.length F) wr d.out f.out S.out (fun i hi I=>(Q.out i hi I).1) hn hO.noTwo hd hG hm);have Z:w.heap.size<wr.heap.size:=(Array.getElem?_eq_some_iff.1 l.out).1;go_wp2_with fail
    refine hS.out.mono ?_;rintro e D ⟨rfl,Qe,A,q,C,J,Qf⟩;have L:(Value.slice E fs.length F).ownBlock≠some w.heap.size:=fun e=>by have:=(P.out.lt _ e).2;omega
    have n:=(J.block w.heap.size Z L).trans l.out;have i1:D.cell? ⟨w.heap.size,1,none⟩=some (.slice none 0 0):=by simp[World.cell?,n]
    have i2:D.cell? ⟨w.heap.size,2,none⟩=some (.slice none 0 0):=by simp[World.cell?,n]
    have i5:D.cell? ⟨w.heap.size,5,none⟩=some (.bool false):=by simp[World.cell?,n]
    have f1:D.frozen? ⟨w.heap.size,1,none⟩=false:=by simp[World.frozen?,n]
    have f2:D.frozen? ⟨w.heap.size,2,none⟩=false:=by simp[World.frozen?,n]
    have f5:D.frozen? ⟨w.heap.size,5,none⟩=false:=by simp[World.frozen?,n]
    have P4:∀o,p w.heap.size o=none:=fun o=>O.out.kw.aG (Nat.le_refl _) o;have P5:w.heap.size≠5:=fun e=>by
     have:=World.block_lt_of_cell? _ _ (O.out.cap 65 (by decide) (by decide));simp only at this;omega
    have Qg:WB p D:=d.out.own J hd fun e=>by have:=(P.out.lt _ e).1;omega
    have Qh:=((Qg.setCell (.slice E fs.length F) (P4 1) P5).setCell (.slice a2 N c2) (P4 2) P5).setCell (.bool true) (P4 5) P5;have Qi:Kept (fun c=>(∃i,i<fs.length∧c=a i)∨(Value.slice E fs.length F).ownBlock=some c) w (((D.setCell ⟨w.heap.size,1,none⟩ (.slice E fs.length F)).setCell ⟨w.heap.size,2,none⟩ (.slice a2 N c2)).setCell ⟨w.heap.size,5,none⟩ (.bool true)):=by
     have h1:Kept (fun c=>(∃i,i<fs.length∧c=a i)∨(Value.slice E fs.length F).ownBlock=some c) w D:=(r.out.mono fun c _ h=> .inl h).trans J fun c _ e=> .inr e;exact((h1.setCell (fun h=>absurd h (by simp)) _).setCell (fun h=>absurd h (by simp)) _).setCell (fun h=>absurd h (by simp)) _
    have Qj:Hid (oY p g B M (.slice E fs.length F) (.slice a2 N c2) (fun c=> ∃i,i<fs.length∧c=a i) w (.returned (.pointer (some ⟨w.heap.size,0,none⟩))) (((D.setCell ⟨w.heap.size,1,none⟩ (.slice E fs.length F)).setCell ⟨w.heap.size,2,none⟩ (.slice a2 N c2)).setCell ⟨w.heap.size,5,none⟩ (.bool true))):=by
     rw[oZ hO]at q;refine⟨w.heap.size,Qe,rfl,Nat.le_refl _,heap_set (heap_set (heap_set n)),eH (eH (eH A L _) L _) L _,q,fun i hi I=> ?_,Qh,Qi⟩;have Qk:Qe[i]∈fs:=Qf.subset (List.getElem_mem I);obtain⟨j,hj,e⟩:=List.getElem_of_mem Qk;refine⟨?_,by rw[←e];exact(Q.out j (by have:=S.out;omega) hj).2⟩;have h1:=C i (by rw[oZ hO];exact hi) I;simpa [oZ hO]using h1
    clear A q C J Qg Qh Qi n hS d r f l s;go_wp2_with fail
    go_ret;exact Qj.out
end Go.Proofs.YtgbklbbknehefaaGreatDoor
namespace TS
open Go Go.RowKit Go.Proofs.YtgbklbbknehefaaGreatDoor
theorem B4(T:List U)(i f:Nat):bc T i f aF:=by
 rw[bc];refine⟨fun h=>absurd h (by decide),fun h=>absurd h (by decide),fun j a=> ?_⟩;obtain rfl:j=0:=by simp[aF,U.es]at a;omega
 show bc T i _ (.mk 7 0 0 false errorName ByteArray.empty [cS] []);rw[bc];refine⟨fun h=>absurd h (by decide),fun h=>absurd h (by decide),fun j a=> ?_⟩;obtain rfl:j=0:=by simp[U.es]at a;omega
 show bc T i _ cS;exact qk rfl (by decide) fun h=>absurd h (by decide)
theorem B5:aM aF:=by
 have hu:=lG;rw[aM];refine⟨?_,fun e he=> ?_,fun m hm=>qq hm⟩
 ·rw[gH (by rw[hu];rfl),hu];rfl
 ·simp only[aF,U.es,List.mem_singleton]at he
  subst he;exact qp
structure Mo(len:Nat)(T:List U)(NS:List (List UInt8))(i:Nat)(u:U)(pos f:Nat):Prop where
 pl:Pl len u pos f
 f2:f≤2
 bB:bc T i f u
 aB:Names NS u
section
variable {D:Dl} {T:List U} {NS:List (List UInt8)} {i:Nat} {u:U} {pos f:Nat}
theorem b7.mo(h:b7 D T NS i u pos f):Mo D.len T NS i u pos f:=⟨h.pl,h.f2,h.bB,h.aB⟩
theorem Mo.part(h:Mo D.len T NS i u pos f)(j:Nat)(a:j<u.es.length):Mo D.len T NS i u.es[j] (aS u j) (aI u j f):=
 ⟨h.pl.part j a,eA,h.bB.part j a,(h.aB.es (List.getElem_mem a)).2⟩
theorem Mo.elem(h:Mo D.len T NS i u pos f)(a:u.k=10){e:U}(he:e∈u.es.drop u.m.toNat):Mo D.len T NS i e 2 2:=by
 obtain⟨j,c,b,rfl⟩:=nA he;have:=h.part j c;rw[show aS u j=2 by unfold aS;rw[if_neg (by omega),if_pos ⟨a,b⟩]]at this;rwa [show aI u j f=2 by unfold aI;split;rfl;rw[if_pos ⟨a,b⟩]]at this
theorem Mo.union(h:Mo D.len T NS i u pos 2)(a:u.k=12){e:U}(he:e∈u.es):Mo D.len T NS i e 1 2:=by
 obtain⟨j,b,rfl⟩:=List.getElem_of_mem he;have:=h.part j b;rw[show aS u j=1 by unfold aS;rw[if_pos a]]at this;rwa [show aI u j 2=2 by unfold aI;rw[if_pos rfl]]at this
theorem Mo.bare(h:Mo D.len T NS i u pos f)(a:u.k≠12)(b:u.k≠13):Mo D.len T NS i (TS.bare u) 0 f:=
 ⟨(h.pl.bare h.f2 a b).1,h.f2,h.bB.bare h.pl h.f2 a b,h.aB.bare⟩
theorem Mo.gg(h:Mo D.len T NS i u pos f)(a:u.k≠12)(b:u.k≠13):Mo D.len T NS i u 0 f:=⟨h.pl.gg a b 0,h.f2,h.bB,h.aB⟩
theorem Mo.eG(E:Env D T NS i)(h:Mo D.len T NS i u pos f)(b:f≠0)(g:u.k≠12)(j:u.k≠13):
 (∃m,m≠0∧Mo D.len T NS i (under u) 0 m)∧((under u).k≠2∧(under u).k≠11∧(under u).k≠14∧(under u).k≠15)∧((TS.bare u).k=11→∃(o:(TS.bare u).n.toNat<T.length),(TS.bare u).n.toNat<i∧(TS.bare u).un= [T[(TS.bare u).n.toNat]]∧under u=T[(TS.bare u).n.toNat]∧T[(TS.bare u).n.toNat].k≤10):=by
 obtain⟨_,_,_,_,hk,_⟩:=h.pl.under h.f2 b g j;have d:=h.bare g j;refine⟨?_,hk,fun a=> ?_⟩
 ·by_cases a:(TS.bare u).k=11
  ·have l:=d.bB.named a
   rw[if_neg b]at l;obtain⟨h1,h2,h3⟩:=l;rw[gY a h3];exact⟨1,by omega,(E.ok _ (List.getElem_mem h1)).pl,by omega,(E.bB _ h1).mono (by omega),E.aB _ (List.getElem_mem h1)⟩
  ·by_cases c:(TS.bare u).k=15
   ·rw[gZ c (d.bB.err c)]
    refine⟨1,by omega,pP _,by omega,B4 _ _ _,?_⟩;have:=d.aB.un (e:=aF) (by rw[d.bB.err c];simp);exact this
   ·rw[gh a c];exact⟨f,b,d⟩
 ·have l:=d.bB.named a
  rw[if_neg b]at l;obtain⟨h1,h2,h3⟩:=l;exact⟨h1,h2,h3,gY a h3,(E.ok _ (List.getElem_mem h1)).hi⟩
theorem Mo.tN(E:Env D T NS i)(h:Mo D.len T NS i u pos f)(g:f≠0)(c:u.k≠12)(d:u.k≠13)(l:aM u):aM (under u):=by
 obtain⟨_,hk,o⟩:=h.eG E g c d;by_cases e:(TS.bare u).k=11
 ·obtain⟨h1,h2,h3,m,p⟩:=o e
  have a:=E.ok _ (List.getElem_mem h1);have j:under T[(TS.bare u).n.toNat]=T[(TS.bare u).n.toNat]:=cB a.jC (by have:=a.hi;omega) (by have:=a.hi;omega) (by have:=a.hi;omega);rw[m];refine(jE E.ok E.bB E.mt _ 0 1 true i (Nat.le_refl _) ((E.bB _ h1).mono (by omega)) a.pl (by omega) (by have:=a.hi;omega) (by have:=a.hi;omega) (E.mt _ h1 h2)).2 ?_;rw[nw (u:=T[(TS.bare u).n.toNat]) (v:=u) (by rw[j,m])];exact l.gen
 ·by_cases b:(TS.bare u).k=15
  ·rw[gZ b ((h.bare c d).bB.err b)];exact B5
  ·rw[gh e b];exact l.bare h.pl
theorem Mo.vt(h:Mo D.len T NS i u 0 f)(a:aM u):Vt D.len u:=⟨a,f,h.f2,h.pl⟩
theorem Mo.fl(E:Env D T NS i)(h:Mo D.len T NS i u pos f)(a:f≠0)(b:u.k≠12)(c:u.k≠13):(TS.bare u).k=11→∃y,(TS.bare u).un= [y]∧y.k≠16:=fun d=>by
 obtain⟨h1,_,h3,_,e⟩:=(h.eG E a b c).2.2 d;exact⟨_,h3,by omega⟩
end
theorem mO{D:Dl}{T:List U}{NS:List (List UInt8)}{i:Nat}(E:Env D T NS i):∀(u:U){f:Nat},Mo D.len T NS i u 0 f→f≠0→aM u→dE D.len u:=by
 intro u;induction u using U.bg with
 |_ u ih=>
  intro f h b g;have a:=h.pl.form.aA;obtain⟨⟨q,l,hu⟩,hk,_⟩:=h.eG E b a.1 a.2;have c:=h.tN E b a.1 a.2 g;have d:(under u).k≠16:=fun m=>by
   have:=g.gen;rw[fD (by omega),m]at this;cases this
  refine .mk (h.vt g) (hu.vt c) (h.fl E b a.1 a.2) hk.1 hk.2.2.1 hk.2.1 hk.2.2.2 d fun e he p=> ?_;obtain⟨j,n,rfl⟩:=List.getElem_of_mem he;have o:=hu.part j n;rw[gX hu.f2 (by omega),show aS (under u) j=0 by unfold aS;rw[if_neg (by omega),if_neg (by omega)]]at o;have h1:=U.au (List.getElem_mem n);have h2:=dp u;exact ih _ (by omega) o l (c.es (List.getElem_mem n))
theorem mP{D:Dl}{T:List U}{NS:List (List UInt8)}{i:Nat}(E:Env D T NS i){u:U}{f:Nat}(h:Mo D.len T NS i u 0 f)(b:f≠0)(c:aM u)(hi:isIface u=false):Tok D.len u:=by
 have a:=h.pl.form.aA;obtain⟨⟨e,d,hu⟩,_⟩:=h.eG E b a.1 a.2;exact⟨h.vt c,hu.vt (h.tN E b a.1 a.2 c),h.fl E b a.1 a.2,hi⟩
structure BC where
 D:Dl
 T:List U
 i:Nat
 pa:Pm
 B0:Nat
 bb:Nat
 da:Option Addr
 dc:Nat
def mQ(len:Nat)(p:Pm)(g:Ge)(w:World)(ms:List Nat)(b:Nat)(u:U):Prop:=
 b<w.heap.size∧p b 0=some (.pointer none)∧p b 5=some (.bool true)∧(cv p (g.below b) b u∨(b∈ms∧eV p (g.below b) b u∧fj len u∧p b 6=none∧w.cell? ⟨b,6,none⟩=some (.pointer none)∧w.frozen? ⟨b,6,none⟩=false))
structure BS(C:BC)(p:Pm)(g:Ge)(mv:Value)(ms:List Nat)(w:World):Prop where
 ka:KW C.pa w
 la:∀b o v,C.pa b o=some v→b<C.B0
 wb:WB p w
 lp:∀b o v,p b o=some v→C.B0≤b
 inj:kH g
 gv:5<C.B0
 bl:C.B0≤C.bb
 pb:∀o,p C.bb o=none
 c0:w.cell? ⟨C.bb,0,none⟩=some (ptr g.pk)
 c1:w.cell? ⟨C.bb,1,none⟩=some (.slice C.da g.len C.dc)∧bK p C.da g.len fun i=>ptr (g.nb i)
 c2:w.cell? ⟨C.bb,2,none⟩=some (ae 66 g.eb)
 c3:w.cell? ⟨C.bb,3,none⟩=some (ae 66 g.cb)
 c4:w.cell? ⟨C.bb,4,none⟩=some mv
 f4:w.frozen? ⟨C.bb,4,none⟩=false
 row:w.ownsRow C.B0 33 1 mv ms.length (ms.map pv)
 rd:∀b,mv.ownBlock=some b→b≠C.bb∧∀o,p b o=none
 ord:ms.Pairwise (· < ·)
 mlt:∀b∈ms,b<w.heap.size∧∃u,g.G b=some u
 ifs:∀b u,g.G b=some u→mQ C.D.len p g w ms b u
 len:g.len=C.D.len
 nm:∀i,i<g.len→p (g.nb i) 1=some (ptr (g.ob i))
 po:∀i,i<g.len→∃o v,p (g.ob i) o=some v
 cD:∃o v,p g.eo o=some v
 cE:∃o v,p g.co o=some v
 err:p g.eb 1=some (ptr g.eo)∧∃x,dR p g.eb x∧Node p g aF x
 cmp:p g.cb 1=some (ptr g.co)∧∃b,dR p g.cb (ae 33 b)∧g.G b=some cV
 tn:∀n(h:n<C.T.length),n<C.i→∃x,dR p (g.nb n) x∧Node p g C.T[n] x
structure az(C:BC)(p:Pm)(g:Ge)(mv:Value)(ms:List Nat)(w:World)(q:Pm)(d:Ge)(a:List Nat)(e:World):Prop where
 gr:aK p q w.heap.size
 gs:aD g d
 gn:∀b u,d.G b=some u→g.G b=some u∨w.heap.size≤b
 kept:Kept (fun c=>c=C.bb∨mv.ownBlock=some c) w e
 mm:∃l,a=ms++l
theorem tO{g a:Ge}(h:aD g a)(b:Nat):aD (g.below b) (a.below b):=
 ⟨h.nb,h.ob,h.len,h.eb,h.eo,h.cb,h.co,h.pk,fun c u k=>by
  simp only[Ge.below]at k⊢;split at k
  ·rw[if_pos ‹_›];exact h.G _ _ k
  ·cases k⟩
section
variable {C:BC} {p q r:Pm} {g g1 g2:Ge} {mv mv1:Value} {ms ms1 ms2:List Nat} {w w1 w2:World}
theorem BS.ib(h:BS C p g mv ms w){b:Nat}(a:C.bb=b∨mv.ownBlock=some b):C.B0≤b∧b<w.heap.size∧∀o,p b o=none:=by
 rcases a with rfl|e
 ·exact⟨h.bl,World.block_lt_of_cell? _ _ h.c0,h.pb⟩
 ·exact⟨(h.row.lt _ e).1,(h.row.lt _ e).2,(h.rd _ e).2⟩
theorem az.refl(C:BC)(p:Pm)(g:Ge)(mv:Value)(ms:List Nat)(w:World):az C p g mv ms w p g ms w:=⟨aK.refl _ _,aD.refl g,fun _ _ h=> .inl h,Kept.refl _ _,[],by simp⟩
theorem az.size(h:az C p g mv ms w q g1 ms1 w1):w.heap.size≤w1.heap.size:=h.kept.size
theorem az.trans(h:az C p g mv ms w q g1 ms1 w1)(k:az C q g1 mv1 ms1 w1 r g2 ms2 w2)(hm:∀b,mv1.ownBlock=some b→mv.ownBlock=some b∨w.heap.size≤b):az C p g mv ms w r g2 ms2 w2 where
 gr:=h.gr.trans k.gr h.size
 gs:=h.gs.trans k.gs
 gn:=fun b u e=>by
  rcases k.gn b u e with e|e
  ·exact h.gn b u e
  ·exact .inr (Nat.le_trans h.size e)
 kept:=h.kept.trans k.kept fun b d e=>by
  rcases e with e|e
  ·exact .inl e
  ·rcases hm b e with e|e
   ·exact .inr e
   ·omega
 mm:=let⟨l,e⟩:=h.mm;let⟨a,c⟩:=k.mm;⟨l++a,by rw[c,e,List.append_assoc]⟩
theorem mQ.mono{len:Nat}{b:Nat}{u:U}(h:mQ len p g w ms b u)(hk:Sub p q)(a:aD g g1)(hm:∀b∈ms,b∈ms1)(c:w.heap.size≤w1.heap.size)(d:w1.cell? ⟨b,6,none⟩=w.cell? ⟨b,6,none⟩)(e:w1.frozen? ⟨b,6,none⟩=w.frozen? ⟨b,6,none⟩)(f:p b 6=none→q b 6=none):mQ len q g1 w1 ms1 b u:=
 let⟨h1,h2,i,h3⟩:=h
 ⟨Nat.lt_of_lt_of_le h1 c,hk _ _ _ h2,hk _ _ _ i,h3.imp (fun h=>h.sub hk (tO a b)) fun⟨j,k,l,m,n,o⟩=>⟨hm b j,k.sub hk (tO a b),l,f m,by rw[d];exact n,by rw[e];exact o⟩⟩
theorem BS.grow(h:BS C p g mv ms w)(d:Below w.heap.size w w1)(c:aK p q w.heap.size)(j:WB q w1):BS C q g mv ms w1 where
 ka:=h.ka.grown d
 la:=h.la
 wb:=j
 lp:=fun b o v e=>(c.new b o v e).elim (h.lp b o v) fun e=>by
  have h1:=h.bl;have:=World.block_lt_of_cell? _ _ h.c0;simp only at this;omega
 inj:=h.inj
 gv:=h.gv
 bl:=h.bl
 pb:=fun o=>c.aG (World.block_lt_of_cell? _ _ h.c0) h.pb o
 c0:=ak d h.c0
 c1:=let⟨h1,h2⟩:=h.c1;⟨ak d h1,h2.sub c.le⟩
 c2:=ak d h.c2
 c3:=ak d h.c3
 c4:=ak d h.c4
 f4:=TS.frozen_kept d (World.block_lt_of_cell? _ _ h.c4) h.f4
 row:=bq h.row d
 rd:=fun b e=>⟨(h.rd b e).1,fun o=>c.aG (h.row.lt _ e).2 (h.rd b e).2 o⟩
 ord:=h.ord
 mlt:=fun b e=>⟨Nat.lt_of_lt_of_le (h.mlt b e).1 d.size,(h.mlt b e).2⟩
 ifs:=fun b u e=>by
  have hi:=h.ifs b u e;have f:=hi.1;refine hi.mono c.le (aD.refl g) (fun _ h=>h) d.size (d.cell (p:=⟨b,6,none⟩) f) (World.frozen?_of_block (a:=⟨b,6,none⟩) (d.block b f)) fun e=> ?_;cases k:q b 6 with
  |none=>rfl
  |some v=>
   rcases c.new _ _ _ k with h|h
   ·rw[e]at h;cases h
   ·omega
 len:=h.len
 nm:=fun i hi=>c.le _ _ _ (h.nm i hi)
 po:=fun i hi=>let⟨o,v,e⟩:=h.po i hi;⟨o,v,c.le _ _ _ e⟩
 cD:=let⟨o,v,e⟩:=h.cD;⟨o,v,c.le _ _ _ e⟩
 cE:=let⟨o,v,e⟩:=h.cE;⟨o,v,c.le _ _ _ e⟩
 err:=let⟨h1,x,h2,h3⟩:=h.err;⟨c.le _ _ _ h1,x,h2.sub c.le,h3.sub c.le (aD.refl g)⟩
 cmp:=let⟨h1,b,h2,h3⟩:=h.cmp;⟨c.le _ _ _ h1,b,h2.sub c.le,h3⟩
 tn:=fun n l hi=>let⟨x,h1,h2⟩:=h.tn n l hi;⟨x,h1.sub c.le,h2.sub c.le (aD.refl g)⟩
theorem BS.below(h:BS C p g mv ms w)(a:Below w.heap.size w w1):BS C p g mv ms w1:=h.grow a (aK.refl _ _) (h.wb.below a)
theorem az.below(h:az C p g mv ms w q g1 ms1 w1)(a:Below w1.heap.size w1 w2):az C p g mv ms w q g1 ms1 w2:=⟨h.gr,h.gs,h.gn,h.kept.below a,h.mm⟩
theorem az.ahead(a:Below w.heap.size w w1)(h:az C p g mv ms w1 q g1 ms1 w2):az C p g mv ms w q g1 ms1 w2:=
 ⟨h.gr.mono a.size,h.gs,fun b u e=>(h.gn b u e).imp id fun h=>Nat.le_trans a.size h,(Kept.of a).trans h.kept fun _ _ h=>h,h.mm⟩
theorem az.grow(h:az C p g mv ms w q g1 ms1 w1)(a:Below w1.heap.size w1 w2)(b:aK q r w1.heap.size):az C p g mv ms w r g1 ms1 w2:=
 ⟨h.gr.trans b h.size,h.gs,h.gn,h.kept.below a,h.mm⟩
end
theorem WB.add{p:Pm}{w:World}{b:Nat}{cs:Array Value}{T:TypeId}(h:WB p w)(_hp:∀o,p b o=none)(a:w.heap[b]?=some (.cells cs T (0,0))):WB (p.add b cs) w where
 kw:=h.kw.add fun o u hu=>by simp[World.cell?,a,hu]
 pl:=fun d o v c=>by
  by_cases e:d=b
  ·subst e;exact⟨cs,T,a⟩
  ·rw[Pm.aJ _ _ _ e]at c;exact h.pl _ _ _ c
 cap:=h.cap
section
variable {C:BC} {p q r:Pm} {g g1 g2:Ge} {mv mv1:Value} {ms ms1 ms2:List Nat} {w w1 w2:World}
theorem BS.box(h:BS C p g mv ms w)(cs:Array Value)(T:TypeId):BS C (p.add w.heap.size cs) g mv ms (w.alloc (.cells cs T)):=
 have a:Below w.heap.size w (w.alloc (.cells cs T)):=(Below.refl _ _).alloc (Nat.le_refl _) _;have b:∀o,p w.heap.size o=none:=fun o=>h.wb.kw.aG (Nat.le_refl _) o;h.grow a (Pm.cW b (Nat.le_refl _)) ((h.wb.below a).add (T:=T) b (cf rfl))
theorem az.box(h:az C p g mv ms w q g1 ms1 w1)(a:BS C q g1 mv1 ms1 w1)(cs:Array Value)(T:TypeId):az C p g mv ms w (q.add w1.heap.size cs) g1 ms1 (w1.alloc (.cells cs T)):=
 h.grow ((Below.refl _ _).alloc (Nat.le_refl _) _) (Pm.cW (fun o=>a.wb.kw.aG (Nat.le_refl _) o) (Nat.le_refl _))
end
theorem BS.own{C:BC}{p:Pm}{g:Ge}{mv:Value}{ms:List Nat}{w w1:World}(h:BS C p g mv ms w){X:Nat→Prop}(k:Kept X w w1)(c:∀b,X b→C.B0≤b∧(∀o,p b o=none)∧b≠C.bb∧mv.ownBlock≠some b):BS C p g mv ms w1 where
 ka:=h.ka.kept k fun b o v e a=>by have:=h.la _ _ _ e;have:=(c b a).1;omega
 la:=h.la
 wb:=h.wb.own k (fun b a=>(c b a).2.1) fun a=>by have:=(c _ a).1;have:=h.gv;omega
 lp:=h.lp
 inj:=h.inj
 gv:=h.gv
 bl:=h.bl
 pb:=h.pb
 c0:=by rw[k.cell (World.block_lt_of_cell? _ _ h.c0) fun a=>(c _ a).2.2.1 rfl];exact h.c0
 c1:=let⟨h1,h2⟩:=h.c1;⟨by rw[k.cell (World.block_lt_of_cell? _ _ h.c0) fun a=>(c _ a).2.2.1 rfl];exact h1,h2⟩
 c2:=by rw[k.cell (World.block_lt_of_cell? _ _ h.c0) fun a=>(c _ a).2.2.1 rfl];exact h.c2
 c3:=by rw[k.cell (World.block_lt_of_cell? _ _ h.c0) fun a=>(c _ a).2.2.1 rfl];exact h.c3
 c4:=by rw[k.cell (World.block_lt_of_cell? _ _ h.c0) fun a=>(c _ a).2.2.1 rfl];exact h.c4
 f4:=by rw[k.frozen (World.block_lt_of_cell? _ _ h.c0) fun a=>(c _ a).2.2.1 rfl];exact h.f4
 row:=dL h.row k fun b e a=>(c b a).2.2.2 e
 rd:=h.rd
 ord:=h.ord
 mlt:=fun b e=>⟨Nat.lt_of_lt_of_le (h.mlt b e).1 k.size,(h.mlt b e).2⟩
 ifs:=fun b u e=>by
  have hi:=h.ifs b u e;have a:¬X b:=fun a=>by have:=(c b a).2.1 0;rw[hi.2.1]at this;cases this
  exact hi.mono (Sub.refl p) (aD.refl g) (fun _ h=>h) k.size (k.cell hi.1 a) (k.frozen hi.1 a) fun h=>h
 len:=h.len
 nm:=h.nm
 po:=h.po
 cD:=h.cD
 cE:=h.cE
 err:=h.err
 cmp:=h.cmp
 tn:=h.tn
theorem az.own{C:BC}{p q:Pm}{g g1:Ge}{mv:Value}{ms ms1:List Nat}{w w1 w2:World}(h:az C p g mv ms w q g1 ms1 w1){X:Nat→Prop}(k:Kept X w1 w2)(a:∀b,X b→w.heap.size≤b):az C p g mv ms w q g1 ms1 w2:=
 ⟨h.gr,h.gs,h.gn,h.kept.trans k fun b d c=>by have:=a b c;omega,h.mm⟩
def FF(len:Nat)(u:U):Prop:=(u.k=10→fj len u∧u.es.length≤1048576)∧∀e,∀_:e∈u.es,FF len e
termination_by u.sz
decreasing_by exact U.au ‹_›
theorem FF.B6{len:Nat}{u:U}(h:FF len u)(hk:u.k=10):fj len u:=by rw[FF]at h;exact(h.1 hk).1
theorem FF.es{len:Nat}{u e:U}(h:FF len u)(he:e∈u.es):FF len e:=by rw[FF]at h;exact h.2 e he
structure fZ(C:BC)(u:U):Prop where
 pl:∃pos f,f≤2∧Pl C.D.len u pos f∧bc C.T C.i f u
 ff:FF C.D.len u
theorem fZ.part{C:BC}{u e:U}(h:fZ C u)(he:e∈u.es):fZ C e:=by
 obtain⟨pos,f,d,b,c⟩:=h.pl;obtain⟨j,a,rfl⟩:=List.getElem_of_mem he;exact⟨⟨_,_,eA,b.part j a,c.part j a⟩,h.ff.es he⟩
def cn(u:U):Nat:=1+(u.es.attach.map fun e=>cn e.1).sum
termination_by u.sz
decreasing_by exact U.au e.2
def aO(l:List U):Nat:=(l.map cn).sum
theorem dx(u:U):cn u=1+aO u.es:=by
 rw[cn,aO];congr 2;conv=>rhs;rw[←List.attach_map_subtype_val u.es,List.map_map]
 rfl
theorem fo{l:List U}{k:Nat}{e:U}(h:l[k]?=some e):aO (l.take (k+1))=aO (l.take k)+cn e:=by
 unfold aO;rw[List.take_add_one,h];simp
theorem iG(l:List U)(k:Nat):aO (l.take k)≤aO l:=by
 have h:aO (l.take k++l.drop k)=aO (l.take k)+aO (l.drop k):=by unfold aO;rw[List.map_append,List.sum_append]
 rw[List.take_append_drop]at h;omega
theorem mR{u e:U}{k:Nat}(h:u.es[k]?=some e):aO (u.es.take k)+cn e+1≤cn u:=by
 have h1:=fo h;have h2:=iG u.es (k+1);have h3:=dx u;omega
theorem lh{u e:U}(h:u.es= [e]):cn u=1+cn e:=by rw[dx,h];simp[aO]
theorem B7{u d e:U}(h:u.es= [d,e]):cn u=1+cn d+cn e:=by rw[dx,h];simp[aO];omega
theorem lj(u:U):cn (aC u)≤cn u:=by
 unfold aC;split
 ·cases h:u.es with
  |nil=>simp
  |cons e r=>rw[dx u,h];simp[aO];omega
 ·exact Nat.le_refl _
def bf(C:BC)(u:U)(p:Pm)(g:Ge)(mv:Value)(ms:List Nat)(w:World)(e:Ending)(f:World):Prop:=
 ∃x q d c a,e= .returned x∧Node q d u x∧BS C q d c a f∧az C p g mv ms w q d a f∧(∀b,c.ownBlock=some b→mv.ownBlock=some b∨w.heap.size≤b)∧(u.k=12∨u.k=13→∃b,x=ae 189 b∧w.heap.size≤b)∧a.length≤ms.length+cn u
end TS
namespace Go.Proofs.YtgbklbbknehefaaGreatDoor
open Go.RowKit TS
def bF(C:BC)(u:U):Prop:=∀p g mv ms a c w,BS C p g mv ms w→ms.length+cn u≤1099511627776→ai C.pa C.D u a c→Calls Tryz.prog 36 #[.pointer (some ⟨C.bb,0,none⟩),.agg #[.int .i64 u.k,.int .i64 u.n,.int .i64 u.m,.bool u.v,.string u.nm,.string u.tg,.slice a u.es.length c]] w (bf C u p g mv ms w)
end Go.Proofs.YtgbklbbknehefaaGreatDoor
namespace Go.Proofs.YtgbklbbknehefaaGreatDoor
open Go.RowKit TS
theorem jq{C:BC}{u e:U}{a:Option Addr}{c:Nat}{w:World}(hu:ai C.pa C.D u a c)(hw:KW C.pa w)(he:u.es= [e]):∃eb eo a' c',a=some ⟨eb,eo,none⟩∧0<u.es.length∧ai C.pa C.D e a' c'∧(w.cell? ⟨eb,eo,none⟩=some (.int .i64 e.k)∧w.cell? ⟨eb,eo+1,none⟩=some (.int .i64 e.n)∧w.cell? ⟨eb,eo+2,none⟩=some (.int .i64 e.m)∧w.cell? ⟨eb,eo+3,none⟩=some (.bool e.v)∧w.cell? ⟨eb,eo+4,none⟩=some (.string e.nm)∧w.cell? ⟨eb,eo+5,none⟩=some (.string e.tg)∧w.cell? ⟨eb,eo+6,none⟩=some (.slice a' e.es.length c'))∧eb<w.heap.size:=by
 have d:0<u.es.length:=by rw[he];simp
 obtain⟨eb,eo,rfl⟩:=hu.list.bt d;obtain⟨a',c',h7,b⟩:=hu.list.get 0 d;have f:u.es[0]=e:=by simp[he]
 rw[f]at h7 b;rw[Nat.zero_mul,Nat.add_zero]at h7;exact⟨eb,eo,a',c',rfl,d,b,h7.world hw,hw.lt h7.1⟩
theorem B8(C:BC)(u e:U)(hk:u.k=4)(he:u.es= [e])(O:bF C e):bF C u:=by
 intro p g mv ms a c w G P hu;have j:=Lib.hid (lh he);obtain⟨eb,eo,a',c',rfl,X,l,⟨z0,Y,z2,z3,z4,z5,Z⟩,Q⟩:=jq hu G.ka he;have R:=kf 1 hk;have S:=kf 2 hk;have T:=kf 3 hk;have V:=kt hk;have i:Below w.heap.size w (w.alloc (.cells #[.int .i64 u.k,.int .i64 u.n,.int .i64 u.m,.bool u.v,.string u.nm,.string u.tg,.slice (some ⟨eb,eo,none⟩) u.es.length c] 25)):=(Below.refl _ _).alloc (Nat.le_refl _) _;have r:=Lib.hid (O p g mv ms a' c' _ (G.below i) (by have:=j.out;omega) l);have s:=Lib.hid hk;have f:=Lib.hid i;have H:=Lib.hid he;clear hk hu l G i he;go_enter Tryz.func36,Tryz.ntmps36;go_wp2_with fail
 refine r.out.mono ?_;rintro e1 I ⟨x,q,M,J,K,rfl,L,d,t,y,_,W⟩;obtain⟨E,F,rfl⟩:=L.val;have z:=d.box #[.iface E (.pointer (some ⟨F,0,none⟩))] 205;have A:=t.box d #[.iface E (.pointer (some ⟨F,0,none⟩))] 205;have N:∀o,q I.heap.size o=none:=fun o=>d.wb.kw.aG (Nat.le_refl _) o;have B:=L.sub (Pm.cP (cs:=#[.iface E (.pointer (some ⟨F,0,none⟩))]) N) (aD.refl M);have D:Hid (bf C u p g mv ms w (.returned (.iface 143 (.pointer (some ⟨I.heap.size,0,none⟩)))) (I.alloc (.cells #[.iface E (.pointer (some ⟨F,0,none⟩))] 205))):=
  ⟨_,_,M,J,K,rfl,.slice s.out H.out (by rw[Pm.aQ];rfl) B,z,az.ahead f.out A,fun b e=>(y b e).imp (fun h=>h) fun h=>Nat.le_trans f.out.size h,fun h=>(by have:=s.out;omega),by have:=j.out;omega⟩
 clear L d t y z A N B r;go_wp2_with fail
 refine(xy _ _ _).mono ?_;rintro e2 w2 ⟨rfl,rfl⟩;go_wp2_with fail
 go_ret;exact D.out
theorem B9(C:BC)(u e:U)(hk:u.k=6)(he:u.es= [e])(O:bF C e):bF C u:=by
 intro p g mv ms a c w G P hu;have j:=Lib.hid (lh he);obtain⟨eb,eo,a',c',rfl,Y,l,⟨z0,Z,z2,z3,z4,z5,z6⟩,Q⟩:=jq hu G.ka he;have R:=kf 1 hk;have S:=kf 2 hk;have T:=kf 3 hk;have V:=kf 4 hk;have W:=kt hk;have i:Below w.heap.size w (w.alloc (.cells #[.int .i64 u.k,.int .i64 u.n,.int .i64 u.m,.bool u.v,.string u.nm,.string u.tg,.slice (some ⟨eb,eo,none⟩) u.es.length c] 25)):=(Below.refl _ _).alloc (Nat.le_refl _) _;have r:=Lib.hid (O p g mv ms a' c' _ (G.below i) (by have:=j.out;omega) l);have s:=Lib.hid hk;have f:=Lib.hid i;have H:=Lib.hid he;clear hk hu l G i he;go_enter Tryz.func36,Tryz.ntmps36;go_wp2_with fail
 refine r.out.mono ?_;rintro e1 I ⟨x,q,M,J,K,rfl,L,d,t,y,_,X⟩;obtain⟨E,F,rfl⟩:=L.val;have z:=d.box #[.iface E (.pointer (some ⟨F,0,none⟩))] 207;have A:=t.box d #[.iface E (.pointer (some ⟨F,0,none⟩))] 207;have N:∀o,q I.heap.size o=none:=fun o=>d.wb.kw.aG (Nat.le_refl _) o;have B:=L.sub (Pm.cP (cs:=#[.iface E (.pointer (some ⟨F,0,none⟩))]) N) (aD.refl M);have D:Hid (bf C u p g mv ms w (.returned (.iface 145 (.pointer (some ⟨I.heap.size,0,none⟩)))) (I.alloc (.cells #[.iface E (.pointer (some ⟨F,0,none⟩))] 207))):=
  ⟨_,_,M,J,K,rfl,.pointer s.out H.out (by rw[Pm.aQ];rfl) B,z,az.ahead f.out A,fun b e=>(y b e).imp (fun h=>h) fun h=>Nat.le_trans f.out.size h,fun h=>(by have:=s.out;omega),by have:=j.out;omega⟩
 clear L d t y z A N B r;go_wp2_with fail
 refine(rB _ _ _).mono ?_;rintro e2 w2 ⟨rfl,rfl⟩;go_wp2_with fail
 go_ret;exact D.out
theorem gS{C:BC}{p q:Pm}{g i:Ge}{mv:Value}{ms a:List Nat}{w W c:World}(d:BS C p g mv ms w)(k:w.heap.size≤W.heap.size)(f:az C p g mv ms W q i a c):(∀b o v,b<C.B0→W.cell? ⟨b,o,none⟩=some v→c.cell? ⟨b,o,none⟩=some v)∧∀b o v,w.heap.size≤b→W.cell? ⟨b,o,none⟩=some v→c.cell? ⟨b,o,none⟩=some v:=by
 refine⟨fun b o v j h=> ?_,fun b o v j h=> ?_⟩
 ·rw[f.kept.cell (World.block_lt_of_cell? _ _ h) fun e=>by have:=(d.ib (b:=b) (e.imp Eq.symm fun h=>h)).1;omega];exact h
 ·rw[f.kept.cell (World.block_lt_of_cell? _ _ h) fun e=>by have:=(d.ib (b:=b) (e.imp Eq.symm fun h=>h)).2.1;omega];exact h
theorem B_(C:BC)(u e:U)(hk:u.k=3)(he:u.es= [e])(hI:bF C e):bF C u:=by
 intro p g mv ms a c w r P4 hu;have s:=Lib.hid (lh he);obtain⟨eb,eo,a',c',rfl,hl,t,⟨z0,z1,z2,z3,z4,z5,z6⟩,P5⟩:=jq hu r.ka he;have P6:=kf 1 hk;have P7:=kf 2 hk;have P8:=kt hk;have j:Below w.heap.size w ((w.alloc (.cells #[.int .i64 u.k,.int .i64 u.n,.int .i64 u.m,.bool u.v,.string u.nm,.string u.tg,.slice (some ⟨eb,eo,none⟩) u.es.length c] 25)).drew):=((Below.refl _ _).alloc (Nat.le_refl _) _).drew;have y:=Lib.hid (hI p g mv ms a' c' _ (r.below j) (by have:=s.out;omega) t);have M:eb<C.B0:=by
  obtain⟨a2,c2,h7,_⟩:=hu.list.get 0 hl;exact r.la _ _ _ h7.1
 have z:=Lib.hid hk;have f:=Lib.hid j;have N:=Lib.hid he;have O:=Lib.hid r;clear hk hu t r j he;go_enter Tryz.func36,Tryz.ntmps36;go_wp2_with fail
 refine oR (fun W=>(W.cell? ⟨w.heap.size,0,none⟩=some (.int .i64 u.k)∧W.cell? ⟨w.heap.size,1,none⟩=some (.int .i64 u.n)∧W.cell? ⟨w.heap.size,2,none⟩=some (.int .i64 u.m)∧W.cell? ⟨w.heap.size,3,none⟩=some (.bool u.v)∧W.cell? ⟨w.heap.size,4,none⟩=some (.string u.nm)∧W.cell? ⟨w.heap.size,5,none⟩=some (.string u.tg)∧W.cell? ⟨w.heap.size,6,none⟩=some (.slice (some ⟨eb,eo,none⟩) u.es.length c))∧(W.cell? ⟨eb,eo,none⟩=some (.int .i64 e.k)∧W.cell? ⟨eb,eo+1,none⟩=some (.int .i64 e.n)∧W.cell? ⟨eb,eo+2,none⟩=some (.int .i64 e.m)∧W.cell? ⟨eb,eo+3,none⟩=some (.bool e.v)∧W.cell? ⟨eb,eo+4,none⟩=some (.string e.nm)∧W.cell? ⟨eb,eo+5,none⟩=some (.string e.tg)∧W.cell? ⟨eb,eo+6,none⟩=some (.slice a' e.es.length c'))) [(0,true),(1,true),(2,true),(3,true),(4,true),(6,true),(7,true),(5,false),(8,false),(9,true),(10,true)] (by(repeat' apply And.intro)<;>first|(simp[go_sem];done)|(go_keep;done)) (fun d=> ?_);repeat((first|refine oS ?_|refine oF d ?_);try simp only[Act.put,oa,ob,oc])
 refine oL fun K A=> ?_;go_simp;go_at_call 36
 refine y.out.mono ?_;rintro e1 P ⟨x,q,T,Q,R,rfl,S,i,l,B,_,P9⟩;obtain⟨J,L,rfl⟩:=S.val;obtain⟨D,E⟩:=gS O.out f.out.size l;obtain⟨⟨V,s1,s2,X,Y,Z,s6⟩,r0,r1,r2,r3,r4,r5,r6⟩:=d;(try simp only[]);refine A _ _ (by(repeat' apply And.intro)<;>first|exact E _ _ _ (Nat.le_refl _) (by assumption)|exact D _ _ _ M (by assumption)) fun d=> ?_;clear A K;try simp only[Act.put,oa,ob,oc]
 have F:=i.box #[.int .i64 u.n,.iface J (.pointer (some ⟨L,0,none⟩))] 203;have G:=l.box i #[.int .i64 u.n,.iface J (.pointer (some ⟨L,0,none⟩))] 203;have hd:∀o,q P.heap.size o=none:=fun o=>i.wb.kw.aG (Nat.le_refl _) o;have H:=S.sub (Pm.cP (cs:=#[.int .i64 u.n,.iface J (.pointer (some ⟨L,0,none⟩))]) hd) (aD.refl T);have I:Hid (bf C u p g mv ms w (.returned (.iface 141 (.pointer (some ⟨P.heap.size,0,none⟩)))) (P.alloc (.cells #[.int .i64 u.n,.iface J (.pointer (some ⟨L,0,none⟩))] 203))):=
  ⟨_,_,T,Q,R,rfl,.array z.out N.out (by rw[Pm.aQ];rfl) (by rw[Pm.aQ];rfl) H,F,az.ahead f.out G,fun b e=>(B b e).imp (fun h=>h) fun h=>Nat.le_trans f.out.size h,fun h=>(by have:=z.out;omega),by have:=s.out;omega⟩
 clear S i l B F G hd H y V s1 s2 X Y Z s6 r0 r1 r2 r3 r4 r5 r6;repeat((first|refine oS ?_|refine oF d ?_);try simp only[Act.put,oa,ob,oc])
 refine oL fun K A=> ?_;go_simp;go_at_call 73
 refine(xz _ _ _ _).mono ?_;rintro e2 w2 ⟨rfl,rfl⟩;obtain⟨⟨V,s1,s2,X,Y,Z,s6⟩,r0,r1,r2,r3,r4,r5,r6⟩:=d;(try simp only[]);refine A _ _ (by(repeat' apply And.intro)<;>exact ak ((Below.refl _ _).alloc (Nat.le_refl _) _) (by assumption)) fun d=> ?_;clear A K;try simp only[Act.put,oa,ob,oc]
 repeat((first|refine oS ?_|refine oF d ?_);try simp only[Act.put,oa,ob,oc])
 refine bR ?_;clear d;go_wp2_with fail
 go_ret;exact I.out
theorem Ca(n:Int)(w:World):Calls Tryz.prog 78 #[.int .i64 n] w fun e a=>e= .returned (.int .i64 (eU n))∧w=a:=xE n w
theorem Cb(C:BC)(u e:U)(hk:u.k=9)(he:u.es= [e])(hI:bF C e):bF C u:=by
 intro p g mv ms a c w s P4 hu;have t:=Lib.hid (lh he);obtain⟨eb,eo,a',c',rfl,hl,y,⟨z0,z1,z2,z3,z4,z5,z6⟩,P5⟩:=jq hu s.ka he;have P6:=kf 1 hk;have P7:=kf 2 hk;have P8:=kf 3 hk;have P9:=kf 4 hk;have P_:=kf 6 hk;have Qa:=kf 8 hk;have Qb:=kt hk;have l:Below w.heap.size w ((w.alloc (.cells #[.int .i64 u.k,.int .i64 u.n,.int .i64 u.m,.bool u.v,.string u.nm,.string u.tg,.slice (some ⟨eb,eo,none⟩) u.es.length c] 25)).drew):=((Below.refl _ _).alloc (Nat.le_refl _) _).drew;have z:=Lib.hid (hI p g mv ms a' c' _ (s.below l) (by have:=t.out;omega) y);have M:eb<C.B0:=by
  obtain⟨a2,c2,h7,_⟩:=hu.list.get 0 hl;exact s.la _ _ _ h7.1
 have A:=Lib.hid hk;have f:=Lib.hid l;have N:=Lib.hid he;have O:=Lib.hid s;clear hk hu y s l he;go_enter Tryz.func36,Tryz.ntmps36;go_wp2_with fail
 refine oR (fun W=>(W.cell? ⟨w.heap.size,0,none⟩=some (.int .i64 u.k)∧W.cell? ⟨w.heap.size,1,none⟩=some (.int .i64 u.n)∧W.cell? ⟨w.heap.size,2,none⟩=some (.int .i64 u.m)∧W.cell? ⟨w.heap.size,3,none⟩=some (.bool u.v)∧W.cell? ⟨w.heap.size,4,none⟩=some (.string u.nm)∧W.cell? ⟨w.heap.size,5,none⟩=some (.string u.tg)∧W.cell? ⟨w.heap.size,6,none⟩=some (.slice (some ⟨eb,eo,none⟩) u.es.length c))∧(W.cell? ⟨eb,eo,none⟩=some (.int .i64 e.k)∧W.cell? ⟨eb,eo+1,none⟩=some (.int .i64 e.n)∧W.cell? ⟨eb,eo+2,none⟩=some (.int .i64 e.m)∧W.cell? ⟨eb,eo+3,none⟩=some (.bool e.v)∧W.cell? ⟨eb,eo+4,none⟩=some (.string e.nm)∧W.cell? ⟨eb,eo+5,none⟩=some (.string e.tg)∧W.cell? ⟨eb,eo+6,none⟩=some (.slice a' e.es.length c'))) [(0,true),(1,true),(3,true),(4,true),(5,true),(6,true),(7,true),(2,false),(8,false),(9,false),(10,true),(11,true)] (by(repeat' apply And.intro)<;>first|(simp[go_sem];done)|(go_keep;done)) (fun d=> ?_);repeat((first|refine oS ?_|refine oF d ?_);try simp only[Act.put,oa,ob,oc])
 refine oL fun K j=> ?_;go_simp;go_at_call 78
 refine(Ca u.n _).mono ?_;rintro e0 w0 ⟨rfl,rfl⟩;(try simp only[]);refine j _ _ (d) fun d=> ?_;clear j K;try simp only[Act.put,oa,ob,oc]
 repeat((first|refine oS ?_|refine oF d ?_);try simp only[Act.put,oa,ob,oc])
 refine oL fun K j=> ?_;go_simp;go_at_call 36
 refine z.out.mono ?_;rintro e1 P ⟨x,q,T,Q,R,rfl,S,i,r,B,_,Qc⟩;obtain⟨J,L,rfl⟩:=S.val;obtain⟨D,E⟩:=gS O.out f.out.size r;obtain⟨⟨V,s1,s2,X,Y,Z,s6⟩,r0,r1,r2,r3,r4,r5,r6⟩:=d;(try simp only[]);refine j _ _ (by(repeat' apply And.intro)<;>first|exact E _ _ _ (Nat.le_refl _) (by assumption)|exact D _ _ _ M (by assumption)) fun d=> ?_;clear j K;try simp only[Act.put,oa,ob,oc]
 have F:=i.box #[.int .i64 (eU u.n),.iface J (.pointer (some ⟨L,0,none⟩))] 211;have G:=r.box i #[.int .i64 (eU u.n),.iface J (.pointer (some ⟨L,0,none⟩))] 211;have hd:∀o,q P.heap.size o=none:=fun o=>i.wb.kw.aG (Nat.le_refl _) o;have H:=S.sub (Pm.cP (cs:=#[.int .i64 (eU u.n),.iface J (.pointer (some ⟨L,0,none⟩))]) hd) (aD.refl T);have I:Hid (bf C u p g mv ms w (.returned (.iface 149 (.pointer (some ⟨P.heap.size,0,none⟩)))) (P.alloc (.cells #[.int .i64 (eU u.n),.iface J (.pointer (some ⟨L,0,none⟩))] 211))):=
  ⟨_,_,T,Q,R,rfl,.chan A.out N.out (by rw[Pm.aQ];rfl) (by rw[Pm.aQ];rfl) H,F,az.ahead f.out G,fun b e=>(B b e).imp (fun h=>h) fun h=>Nat.le_trans f.out.size h,fun h=>(by have:=A.out;omega),by have:=t.out;omega⟩
 clear S i r B F G hd H z V s1 s2 X Y Z s6 r0 r1 r2 r3 r4 r5 r6;repeat((first|refine oS ?_|refine oF d ?_);try simp only[Act.put,oa,ob,oc])
 refine oL fun K j=> ?_;go_simp;go_at_call 77
 refine(xB _ _ _ _).mono ?_;rintro e2 w2 ⟨rfl,rfl⟩;obtain⟨⟨V,s1,s2,X,Y,Z,s6⟩,r0,r1,r2,r3,r4,r5,r6⟩:=d;(try simp only[]);refine j _ _ (by(repeat' apply And.intro)<;>exact ak ((Below.refl _ _).alloc (Nat.le_refl _) _) (by assumption)) fun d=> ?_;clear j K;try simp only[Act.put,oa,ob,oc]
 repeat((first|refine oS ?_|refine oF d ?_);try simp only[Act.put,oa,ob,oc])
 refine bR ?_;clear d;go_wp2_with fail
 go_ret;exact I.out
theorem Cc{C:BC}{u d e:U}{a:Option Addr}{c:Nat}{w:World}(hu:ai C.pa C.D u a c)(hw:KW C.pa w)(he:u.es= [d,e]):∃eb eo a' c' a2 c2,a=some ⟨eb,eo,none⟩∧1<u.es.length∧ai C.pa C.D d a' c'∧ai C.pa C.D e a2 c2∧(w.cell? ⟨eb,eo,none⟩=some (.int .i64 d.k)∧w.cell? ⟨eb,eo+1,none⟩=some (.int .i64 d.n)∧w.cell? ⟨eb,eo+2,none⟩=some (.int .i64 d.m)∧w.cell? ⟨eb,eo+3,none⟩=some (.bool d.v)∧w.cell? ⟨eb,eo+4,none⟩=some (.string d.nm)∧w.cell? ⟨eb,eo+5,none⟩=some (.string d.tg)∧w.cell? ⟨eb,eo+6,none⟩=some (.slice a' d.es.length c'))∧(w.cell? ⟨eb,eo+7,none⟩=some (.int .i64 e.k)∧w.cell? ⟨eb,eo+8,none⟩=some (.int .i64 e.n)∧w.cell? ⟨eb,eo+9,none⟩=some (.int .i64 e.m)∧w.cell? ⟨eb,eo+10,none⟩=some (.bool e.v)∧w.cell? ⟨eb,eo+11,none⟩=some (.string e.nm)∧w.cell? ⟨eb,eo+12,none⟩=some (.string e.tg)∧w.cell? ⟨eb,eo+13,none⟩=some (.slice a2 e.es.length c2))∧eb<w.heap.size∧∃v,C.pa eb eo=some v:=by
 have i:1<u.es.length:=by rw[he];simp
 obtain⟨eb,eo,rfl⟩:=hu.list.bt (by omega);obtain⟨a',c',h7,b⟩:=hu.list.get 0 (by omega);obtain⟨a2,c2,g,f⟩:=hu.list.get 1 i;have j:u.es[0]=d:=by simp[he]
 have h:u.es[1]=e:=by simp[he]
 rw[j]at h7 b;rw[h]at g f;rw[Nat.zero_mul,Nat.add_zero]at h7;rw[Nat.one_mul]at g;exact⟨eb,eo,a',c',a2,c2,rfl,i,b,f,h7.world hw,g.world hw,hw.lt h7.1,_,h7.1⟩
theorem Cd(C:BC)(u d e:U)(hk:u.k=8)(he:u.es= [d,e])(hI:bF C d)(hJ:bF C e):bF C u:=by
 intro p g mv ms a c w J Qc hu;have D:=Lib.hid (B7 he);obtain⟨eb,eo,a',c',a2,c2,rfl,hl,L,M,⟨z0,z1,z2,z3,z4,z5,z6⟩,⟨y0,y1,y2,y3,y4,y5,y6⟩,Qd,_,hv⟩:=Cc hu J.ka he;have Qe:=kf 1 hk;have Qf:=kf 2 hk;have Qg:=kf 3 hk;have Qh:=kf 4 hk;have Qi:=kf 6 hk;have Qj:=kt hk;have Qk:0<u.es.length:=by omega
 have Ql:(1:Int)<(u.es.length:Int):=by omega
 have E:Below w.heap.size w ((w.alloc (.cells #[.int .i64 u.k,.int .i64 u.n,.int .i64 u.m,.bool u.v,.string u.nm,.string u.tg,.slice (some ⟨eb,eo,none⟩) u.es.length c] 25)).drew):=((Below.refl _ _).alloc (Nat.le_refl _) _).drew;have N:=Lib.hid (hI p g mv ms a' c' _ (J.below E) (by have:=D.out;omega) L);have O:eb<C.B0:=J.la _ _ _ hv;have P:=Lib.hid hk;have s:=Lib.hid E;have P5:=Lib.hid he;have F:=Lib.hid J;have P6:=Lib.hid hJ;have Q:=Lib.hid M;clear hk hu L J E he hI hJ M hv;go_enter Tryz.func36,Tryz.ntmps36;go_wp2_with fail
 refine oR (fun W=>(W.cell? ⟨w.heap.size,0,none⟩=some (.int .i64 u.k)∧W.cell? ⟨w.heap.size,1,none⟩=some (.int .i64 u.n)∧W.cell? ⟨w.heap.size,2,none⟩=some (.int .i64 u.m)∧W.cell? ⟨w.heap.size,3,none⟩=some (.bool u.v)∧W.cell? ⟨w.heap.size,4,none⟩=some (.string u.nm)∧W.cell? ⟨w.heap.size,5,none⟩=some (.string u.tg)∧W.cell? ⟨w.heap.size,6,none⟩=some (.slice (some ⟨eb,eo,none⟩) u.es.length c))∧(W.cell? ⟨eb,eo,none⟩=some (.int .i64 d.k)∧W.cell? ⟨eb,eo+1,none⟩=some (.int .i64 d.n)∧W.cell? ⟨eb,eo+2,none⟩=some (.int .i64 d.m)∧W.cell? ⟨eb,eo+3,none⟩=some (.bool d.v)∧W.cell? ⟨eb,eo+4,none⟩=some (.string d.nm)∧W.cell? ⟨eb,eo+5,none⟩=some (.string d.tg)∧W.cell? ⟨eb,eo+6,none⟩=some (.slice a' d.es.length c'))∧(W.cell? ⟨eb,eo+7,none⟩=some (.int .i64 e.k)∧W.cell? ⟨eb,eo+8,none⟩=some (.int .i64 e.n)∧W.cell? ⟨eb,eo+9,none⟩=some (.int .i64 e.m)∧W.cell? ⟨eb,eo+10,none⟩=some (.bool e.v)∧W.cell? ⟨eb,eo+11,none⟩=some (.string e.nm)∧W.cell? ⟨eb,eo+12,none⟩=some (.string e.tg)∧W.cell? ⟨eb,eo+13,none⟩=some (.slice a2 e.es.length c2))) [(0,true),(1,true),(2,true),(3,true),(4,true),(6,true),(7,true),(8,true),(9,true),(10,true),(5,false),(11,false),(12,false),(13,true),(14,true)] (by(repeat' apply And.intro)<;>first|(simp[go_sem];done)|(go_keep;done)) (fun f=> ?_);repeat((first|refine oS ?_|refine oF f ?_);try simp only[Act.put,oa,ob,oc])
 refine oL fun K B=> ?_;go_simp;go_at_call 36
 refine N.out.mono ?_;rintro e1 w1 ⟨x,q,g',P7,P8,rfl,hn,G,z,R,_,Qm⟩;obtain⟨xt,xb,rfl⟩:=hn.val;obtain⟨i,j⟩:=gS F.out s.out.size z;obtain⟨⟨s0,s1,s2,s3,s4,s5,s6⟩,⟨r0,r1,r2,r3,r4,r5,r6⟩,q0,q1,q2,q3,q4,q5,q6⟩:=f;(try simp only[]);refine B _ _ (by(repeat' apply And.intro)<;>first|exact j _ _ _ (Nat.le_refl _) (by assumption)|exact i _ _ _ O (by assumption)) fun f=> ?_;clear B K;try simp only[Act.put,oa,ob,oc]
 have S:=Lib.hid (P6.out q g' P7 P8 a2 c2 w1 G (by have:=D.out;omega) Q.out);have Qn:=z.size;have P9:=Lib.hid hn;have T:=Lib.hid G;have V:=Lib.hid z;have t:=Lib.hid R;clear hn G z R N i j s0 s1 s2 s3 s4 s5 s6 r0 r1 r2 r3 r4 r5 r6 q0 q1 q2 q3 q4 q5 q6;repeat((first|refine oS ?_|refine oF f ?_);try simp only[Act.put,oa,ob,oc])
 refine oL fun K B=> ?_;go_simp;go_at_call 36
 refine S.out.mono ?_;rintro e2 w2 ⟨y,r,g2,P_,Qa,rfl,H,A,l,X,_,Qo⟩;obtain⟨yt,yb,rfl⟩:=H.val;have Qb:=s.out.size;obtain⟨i,_⟩:=gS T.out (Nat.le_refl _) l;have j:∀o v,w1.cell? ⟨w.heap.size,o,none⟩=some v→w2.cell? ⟨w.heap.size,o,none⟩=some v:=fun o v h=>by
  rw[l.kept.cell (World.block_lt_of_cell? _ _ h) fun e=> ?_]
  ·exact h
  ·have h1:=(F.out.ib (b:=C.bb) (.inl rfl)).2.1
   rcases e with(e:w.heap.size=C.bb)|e
   ·omega
   ·rcases t.out _ e with e|e
    ·have:=(F.out.ib (b:=w.heap.size) (.inr e)).2.1;omega
    ·have:w.heap.size+1≤w.heap.size:=by simpa using e
     omega
 obtain⟨⟨s0,s1,s2,s3,s4,s5,s6⟩,⟨r0,r1,r2,r3,r4,r5,r6⟩,q0,q1,q2,q3,q4,q5,q6⟩:=f;(try simp only[]);refine B _ _ (by(repeat' apply And.intro)<;>first|exact j _ _ (by assumption)|exact i _ _ _ O (by assumption)) fun f=> ?_;clear B K;try simp only[Act.put,oa,ob,oc]
 have hT:=V.out.trans l t.out;have Y:=A.box #[.iface xt (.pointer (some ⟨xb,0,none⟩)),.iface yt (.pointer (some ⟨yb,0,none⟩))] 209;have Z:=hT.box A #[.iface xt (.pointer (some ⟨xb,0,none⟩)),.iface yt (.pointer (some ⟨yb,0,none⟩))] 209;have hd:∀o,r w2.heap.size o=none:=fun o=>A.wb.kw.aG (Nat.le_refl _) o;have I:=Pm.cP (cs:=#[.iface xt (.pointer (some ⟨xb,0,none⟩)),.iface yt (.pointer (some ⟨yb,0,none⟩))]) hd;have P4:Hid (bf C u p g mv ms w (.returned (.iface 147 (.pointer (some ⟨w2.heap.size,0,none⟩)))) (w2.alloc (.cells #[.iface xt (.pointer (some ⟨xb,0,none⟩)),.iface yt (.pointer (some ⟨yb,0,none⟩))] 209))):=
  ⟨_,_,g2,P_,Qa,rfl,.map P.out P5.out (by rw[Pm.aQ];rfl) (by rw[Pm.aQ];rfl) ((P9.out.sub l.gr.le l.gs).sub I (aD.refl _)) (H.sub I (aD.refl _)),Y,az.ahead s.out Z,fun b e=>by
   rcases X b e with e|e
   ·exact(t.out b e).imp (fun h=>h) fun h=>Nat.le_trans Qb h
   ·exact .inr (by omega),fun h=>(by have:=P.out;omega),by have:=D.out;omega⟩
 clear H A l X hT Y Z hd I S i j s0 s1 s2 s3 s4 s5 s6 r0 r1 r2 r3 r4 r5 r6 q0 q1 q2 q3 q4 q5 q6;repeat((first|refine oS ?_|refine oF f ?_);try simp only[Act.put,oa,ob,oc])
 refine oL fun K B=> ?_;go_simp;go_at_call 76
 refine(xA _ _ _ _ _).mono ?_;rintro e2 w3 ⟨rfl,rfl⟩;obtain⟨⟨s0,s1,s2,s3,s4,s5,s6⟩,⟨r0,r1,r2,r3,r4,r5,r6⟩,q0,q1,q2,q3,q4,q5,q6⟩:=f;(try simp only[]);refine B _ _ (by(repeat' apply And.intro)<;>exact ak ((Below.refl _ _).alloc (Nat.le_refl _) _) (by assumption)) fun f=> ?_;clear B K;try simp only[Act.put,oa,ob,oc]
 repeat((first|refine oS ?_|refine oF f ?_);try simp only[Act.put,oa,ob,oc])
 refine bR ?_;clear f;go_wp2_with fail
 go_ret;exact P4.out
theorem Ce(C:BC)(u:U)(hk:u.k=11)(hT:fZ C u):bF C u:=by
 intro p g mv ms a c w j J hu;have K:=kf 1 hk;have L:=kf 2 hk;have M:=kf 3 hk;have N:=kf 4 hk;have O:=kf 6 hk;have P:=kf 8 hk;have Q:=kf 9 hk;have R:=kf 5 hk;have S:=kf 7 hk;have G:=kt hk;obtain⟨pos,f,W,y,H⟩:=hT.pl;have o:=(y.form.jw hk).1.1;have T:=(y.form.jw hk).1.2;have i:=H.named hk;have l:∀m,Below w.heap.size w ((w.alloc (.cells #[.int .i64 u.k,.int .i64 u.n,.int .i64 u.m,.bool u.v,.string u.nm,.string u.tg,.slice a u.es.length c] 25)).drewN m):=fun m=>pQ ((Below.refl _ _).alloc (Nat.le_refl _) _) m;obtain⟨h1,hr⟩:=j.c1;have hlen:=j.len;have d:u.n.toNat<g.len:=by omega
 obtain⟨X,V,q,r⟩:=hr u.n.toNat d;rw[q]at h1;clear q;have d1:=j.wb.kw _ _ _ r;have z:=World.block_lt_of_cell? _ _ h1;have A:=World.block_lt_of_cell? _ _ d1;simp only at z A;have I:u.n<(g.len:Int):=by omega
 have s:TS.Node p g u (ae 66 (g.nb u.n.toNat)):=by
  split at i
  ·exact .gm hk o d i (j.nm _ d)
  ·obtain⟨B,hi,D⟩:=i
   obtain⟨x,E,F⟩:=j.tn _ B hi;exact .named hk o d D (j.nm _ d) E F
 have t:Hid (∀m,bf C u p g mv ms w (.returned (.iface 66 (.pointer (some ⟨g.nb u.n.toNat,0,none⟩)))) ((w.alloc (.cells #[.int .i64 u.k,.int .i64 u.n,.int .i64 u.m,.bool u.v,.string u.nm,.string u.tg,.slice a u.es.length c] 25)).drewN m)):=fun m=>
  ⟨_,p,g,mv,ms,rfl,s,j.below (l m),az.ahead (l m) (az.refl _ _ _ _ _ _),fun b e=> .inl e,fun h=>(by omega),by omega⟩
 clear s i H y hT hu j l hr r hk hlen;go_enter Tryz.func36,Tryz.ntmps36;go_wp2_with fail
 go_quiet (fail)
 go_wp2_with fail
 go_ret;exact t.out _
theorem Cf(C:BC)(u:U)(hk:u.k=15)(hT:fZ C u):bF C u:=by
 intro p g mv ms a c w q B hu;have D:=kf 1 hk;have E:=kf 2 hk;have F:=kf 3 hk;have G:=kf 4 hk;have H:=kf 6 hk;have I:=kf 8 hk;have J:=kf 9 hk;have K:=kf 5 hk;have L:=kf 7 hk;have s:=kf 11 hk;have t:=kf 12 hk;have y:=kf 13 hk;have z:=kt hk;obtain⟨pos,f,N,M,A⟩:=hT.pl;have i:=A.err hk;have d:Below w.heap.size w (w.alloc (.cells #[.int .i64 u.k,.int .i64 u.n,.int .i64 u.m,.bool u.v,.string u.nm,.string u.tg,.slice a u.es.length c] 25)):=(Below.refl _ _).alloc (Nat.le_refl _) _;have j:=q.below d;have h2:=q.c2;have r:=World.block_lt_of_cell? _ _ h2;simp only at r;have l:TS.Node p g u (ae 66 g.eb):=let⟨h1,x,h2,h3⟩:=q.err; .err hk i h1 h2 h3;have o:Hid (bf C u p g mv ms w (.returned (.iface 66 (.pointer (some ⟨g.eb,0,none⟩)))) (w.alloc (.cells #[.int .i64 u.k,.int .i64 u.n,.int .i64 u.m,.bool u.v,.string u.nm,.string u.tg,.slice a u.es.length c] 25))):=
  ⟨_,p,g,mv,ms,rfl,l,j,az.ahead d (az.refl _ _ _ _ _ _),fun b e=> .inl e,fun h=>(by omega),by omega⟩
 clear l j A M hT hu q d hk i;go_enter Tryz.func36,Tryz.ntmps36;go_wp2_with fail
 go_ret;exact o.out
theorem Cg(C:BC)(u:U)(hk:u.k=16):bF C u:=by
 intro p g mv ms a c w l y hu;have z:=kf 1 hk;have A:=kf 2 hk;have B:=kf 3 hk;have D:=kf 4 hk;have E:=kf 6 hk;have F:=kf 8 hk;have G:=kf 9 hk;have H:=kf 5 hk;have I:=kf 7 hk;have q:=kf 11 hk;have r:=kf 12 hk;have s:=kf 13 hk;have t:=kf 15 hk;have x:=kt hk;have d:Below w.heap.size w (w.alloc (.cells #[.int .i64 u.k,.int .i64 u.n,.int .i64 u.m,.bool u.v,.string u.nm,.string u.tg,.slice a u.es.length c] 25)):=(Below.refl _ _).alloc (Nat.le_refl _) _;have f:=l.below d;have h2:=l.c3;have o:=World.block_lt_of_cell? _ _ h2;simp only at o;have i:TS.Node p g u (ae 66 g.cb):=let⟨h1,b,h2,h3⟩:=l.cmp; .comp hk h1 h2 h3;have j:Hid (bf C u p g mv ms w (.returned (.iface 66 (.pointer (some ⟨g.cb,0,none⟩)))) (w.alloc (.cells #[.int .i64 u.k,.int .i64 u.n,.int .i64 u.m,.bool u.v,.string u.nm,.string u.tg,.slice a u.es.length c] 25))):=
  ⟨_,p,g,mv,ms,rfl,i,f,az.ahead d (az.refl _ _ _ _ _ _),fun b e=> .inl e,fun h=>(by omega),by omega⟩
 clear i f hu l d hk;go_enter Tryz.func36,Tryz.ntmps36;go_wp2_with fail
 go_ret;exact j.out
end Go.Proofs.YtgbklbbknehefaaGreatDoor
