import Derived.LaidEqlPtr
import Derived.Maps.AppendAt
import Derived.Maps.Own
import Derived.Test.YtgbklbbknehefaaGreatDoorYas
import Derived.Test.YtgbklbbknehefaaGreatDoorYau
set_option maxRecDepth 100000
set_option maxHeartbeats 8000000
set_option linter.all false
namespace Go.Proofs.YtgbklbbknehefaaGreatDoor
open Go.RowKit TS
def jc(p:Pm)(D:Dl)(dc:Nat)(x y:U):Prop:=
 ∀(a:Option Addr)(c:Nat)(a':Option Addr)(c':Nat)(w:World),ai p D x a c→ai p D y a' c'→KW p w→
  Calls Tryz.prog 171 #[.slice D.a D.len dc,.agg #[.int .i64 x.k,.int .i64 x.n,.int .i64 x.m,.bool x.v,.string x.nm,.string x.tg,.slice a x.es.length c],.agg #[.int .i64 y.k,.int .i64 y.n,.int .i64 y.m,.bool y.v,.string y.nm,.string y.tg,.slice a' y.es.length c']] w (RB (aE x y) w)
theorem wI(p:Pm)(D:Dl)(dc:Nat)(f m:U)(a:Option Addr)(c:Nat)(a':Option Addr)(c':Nat)(w:World)(g:jc p D dc f m)(l:ai p D f a c)(hm:ai p D m a' c')(hw:KW p w)(d j:Nat)
 (h1:w.cell? ⟨j,0,none⟩=some (.slice D.a D.len dc))(h7:(w.cell? ⟨d,0,none⟩=some (.int .i64 m.k)∧w.cell? ⟨d,1,none⟩=some (.int .i64 m.n)∧w.cell? ⟨d,2,none⟩=some (.int .i64 m.m)∧w.cell? ⟨d,3,none⟩=some (.bool m.v)∧w.cell? ⟨d,4,none⟩=some (.string m.nm)∧w.cell? ⟨d,5,none⟩=some (.string m.tg)∧w.cell? ⟨d,6,none⟩=some (.slice a' m.es.length c'))):
 Calls Tryz.prog 173 #[.agg #[.int .i64 f.k,.int .i64 f.n,.int .i64 f.m,.bool f.v,.string f.nm,.string f.tg,.slice a f.es.length c],.pointer (some ⟨d,0,none⟩),.pointer (some ⟨j,0,none⟩)] w (RB (cF f m&&aE f m) w):=by
 obtain⟨o,u,x,y,z,A,B⟩:=h7;have b1:=World.block_lt_of_cell? _ _ h1;have q:=World.block_lt_of_cell? _ _ o;simp only at b1 q;have ag:Up p w (w.alloc (.cells #[.int .i64 f.k,.int .i64 f.n,.int .i64 f.m,.bool f.v,.string f.nm,.string f.tg,.slice a f.es.length c] 25)):=(Up.refl hw).alloc _;have h:=fun W r=>g a c a' c' W l hm r;cases e:cF f m
 ·have t:(f.nm.toList==m.nm.toList)=false:=by have:=fN (a:=f) (b:=m);rw[e]at this;simpa using this
  clear g h e;go_enter Tryz.func173,Tryz.ntmps173;go_wp2_with fail
  go_ret;exact⟨_,rfl,rfl,ag.up⟩
 ·have t:(f.nm.toList==m.nm.toList)=true:=by simpa using fN.1 e
  clear g e;go_enter Tryz.func173,Tryz.ntmps173;go_wp2_with fail
  refine(h _ ag.kw).mono ?_;rintro C E ⟨b,rfl,s,aa⟩;have i:=(ag.step aa).up;clear aa h;go_wp2_with fail
  go_ret;exact⟨_,rfl,s,i⟩
theorem qQ(p:Pm)(D:Dl)(dc:Nat)(l want:List U)(a:Option Addr)(n c:Nat)(a':Option Addr)(K c':Nat)(w:World)(P:n=l.length)(C:K=want.length)(hl:l.length≤1048576)(Q:want.length≤1048576)
 (R:aw p D l a)(u:aw p D want a')(hw:KW p w)(L:∀f∈l,∀m∈want,jc p D dc f m):
 Calls Tryz.prog 143 #[.slice D.a D.len dc,.slice a n c,.slice a' K c'] w (RB (hasB l want) w):=by
 subst P C;have E:(l.length:Int)≤1048576:=by omega
 have S:(want.length:Int)≤1048576:=by omega
 have T:=Lib.hid (show ∀args w,(callFunc 173 args).run Tryz.prog w= .ok (.enter 173 args) w from dI Tryz.func173 (by kernel_rfl) rfl);have V:∀(fn:Fn)(first cap:Array Value)(w:World),(Instr.makeFunc fn first cap).run Tryz.prog w= .ok (.func fn first cap) w:=fun _ _ _ _=>rfl;have ag:Up p w (w.alloc (.cells #[.slice D.a D.len dc] 22)):=(Up.refl hw).alloc _;obtain⟨r,hr⟩:∃r,r=hasB l want:=⟨_,rfl⟩
 rw[←hr];have x:=Lib.hid hr;have F:=Lib.hid L;clear hr L;go_enter Tryz.func143,Tryz.ntmps143;go_wp2_with fail
 go_loopw [11] (fun i wr=> ∃k:Nat,k≤want.length∧i= .int .i64 k∧hasB l (want.take k)=true∧Up p w wr∧wr.cell? ⟨w.heap.size,0,none⟩=some (.slice D.a D.len dc)) (fun i _=>want.length- (intOf i).toNat)
 case atStart=>exact⟨0,Nat.zero_le _,rfl,by simp[hasB],ag,by simp⟩
 case round=>
  clear ag;obtain⟨k,hk,rfl,M,G,c0⟩:=hrel;have y:=Lib.hid M;clear M;have H:=World.block_lt_of_cell? _ _ c0;simp only at H;by_cases e:k<want.length
  ·have N:(k:Int)<want.length:=by omega
   obtain⟨b,o,rfl⟩:=u.bt (by omega);obtain⟨a5,c5,h7,z⟩:=u.get k e;have g:Hid (hasB l (want.take (k+1))=l.any fun f=>cF f want[k]&&aE f want[k]):=by
    unfold Hid;rw[List.take_succ_eq_append_getElem e];have:=y.out;unfold hasB at*;rw[List.all_append,this];simp
   have d:Hid ((l.any fun f=>cF f want[k]&&aE f want[k])=false→false=r):=fun I=>by
    rw[x.out,hasB];symm;rw[List.all_eq_false];exact⟨_,List.getElem_mem e,by rw[I];simp⟩
   have q:=Lib.hid fun f (I:f∈l)=>F.out f I want[k] (List.getElem_mem e);obtain⟨m,hm⟩:∃m,m=want[k]:=⟨_,rfl⟩
   rw[←hm]at h7 z g d q;clear hm;obtain⟨g0,g1,g2,g3,g4,g5,g6⟩:(wr.cell? ⟨b,o+k*7,none⟩=some (.int .i64 m.k)∧wr.cell? ⟨b,o+k*7+1,none⟩=some (.int .i64 m.n)∧wr.cell? ⟨b,o+k*7+2,none⟩=some (.int .i64 m.m)∧wr.cell? ⟨b,o+k*7+3,none⟩=some (.bool m.v)∧wr.cell? ⟨b,o+k*7+4,none⟩=some (.string m.nm)∧wr.cell? ⟨b,o+k*7+5,none⟩=some (.string m.tg)∧wr.cell? ⟨b,o+k*7+6,none⟩=some (.slice a5 m.es.length c5)):=h7.world G.kw;clear h7;have h:=G.alloc (.cells #[.int .i64 m.k,.int .i64 m.n,.int .i64 m.m,.bool m.v,.string m.nm,.string m.tg,.slice a5 m.es.length c5] 25)
   have O:=Lib.hid (kh p D l a c 173 #[.pointer (some ⟨wr.heap.size,0,none⟩),.pointer (some ⟨w.heap.size,0,none⟩)] (fun f=>cF f m&&aE f m) _ h.kw R E T.out
    (fun i hi W X c1 s J=>wI p D dc l[i] m X c1 a5 c5 W (q.out _ (List.getElem_mem hi)) J z (h.kw.grown s) wr.heap.size w.heap.size
     (cell_kept s (by rw[World.cell?_alloc_lt _ _ _ H];exact c0)) (by repeat' apply And.intro
                                                                      all_goals exact cell_kept s (by simp[go_sem]))))
   have A:=Lib.hid h;clear h q;go_wp2_with fail
   refine O.out.mono ?_;rintro e1 Y ⟨bb,rfl,j,t⟩;have B:=A.out.step t;have c2:Y.cell? ⟨w.heap.size,0,none⟩=some (.slice D.a D.len dc):=cell_kept t (by rw[World.cell?_alloc_lt _ _ _ H];exact c0);clear t O;cases bb
   ·have hF:=Lib.hid (d.out j.out.symm)
    clear j g d;go_wp2_with fail
    go_ret;exact⟨_,rfl,hF.out,B.up⟩
   ·have Z:=Lib.hid (g.out.trans j.out.symm)
    clear j g d;go_wp2_with fail
    go_roundw
    case rel=>exact⟨k+1,by omega,by go_num,Z.out,B,c2⟩
    case measure=>simp[intOf];omega
  ·have hF:Hid (true=r):=by unfold Hid;rw[x.out,←y.out,List.take_of_length_le (by omega)]
   have hB:=G.up;go_wp2_with fail
   go_ret;exact⟨_,rfl,hF,hB⟩
end Go.Proofs.YtgbklbbknehefaaGreatDoor
namespace TS
open Go Go.RowKit
structure Kept(X:Nat→Prop)(w a:World):Prop where
 os:a.os=w.os
 tape:a.tape=w.tape
 output:a.output=w.output
 size:w.heap.size≤a.heap.size
 block:∀k,k<w.heap.size→¬X k→a.heap[k]?=w.heap[k]?
section
variable {X Y:Nat→Prop} {w w1 w2:World}
theorem Kept.refl(X:Nat→Prop)(w:World):Kept X w w:=⟨rfl,rfl,rfl,Nat.le_refl _,fun _ _ _=>rfl⟩
theorem Kept.of(h:Below w.heap.size w w1):Kept X w w1:=⟨h.os,h.tape,h.output,h.size,fun k hk _=>h.block k hk⟩
theorem Kept.trans(h:Kept X w w1)(k:Kept Y w1 w2)(a:∀b,b<w.heap.size→Y b→X b):Kept X w w2:=
 ⟨k.os.trans h.os,k.tape.trans h.tape,k.output.trans h.output,Nat.le_trans h.size k.size,fun b c d=>(k.block b (Nat.lt_of_lt_of_le c h.size) fun e=>d (a b c e)).trans (h.block b c d)⟩
theorem Kept.mono(h:Kept X w w1)(a:∀b,b<w.heap.size→X b→Y b):Kept Y w w1:=⟨h.os,h.tape,h.output,h.size,fun b c d=>h.block b c fun e=>d (a b c e)⟩
theorem Kept.below(h:Kept X w w1)(k:Below w1.heap.size w1 w2):Kept X w w2:=h.trans (Kept.of (X:=fun _=>False) k) fun _ _ h=>h.elim
theorem Kept.grown{row:Option Nat}(h:Kept X w w1)(a:w1.grownBy w2 row)(hr:∀k,row=some k→k<w.heap.size→X k):Kept X w w2:=
 h.trans (Y:=fun k=>row=some k) ⟨a.os,a.tape,a.output,a.size,fun k hk c=>a.block k hk fun e=>c e.symm⟩ fun b d e=>hr b e d
theorem Kept.setCell(h:Kept X w w1){a:Addr}(ha:a.block<w.heap.size→X a.block)(v:Value):Kept X w (w1.setCell a v):=
 h.trans (Y:=fun k=>k=a.block) ⟨rfl,rfl,rfl,by simp[World.setCell],fun k _ c=>Below.heap_setCell _ _ _ _ c⟩ fun b d e=>e▸ha (e▸d)
theorem Kept.alloc(h:Kept X w w1)(o:Obj):Kept X w (w1.alloc o):=h.below ((Below.refl _ _).alloc (Nat.le_refl _) o)
theorem Kept.cell(h:Kept X w w1){b o:Nat}(a:b<w.heap.size)(c:¬X b):w1.cell? ⟨b,o,none⟩=w.cell? ⟨b,o,none⟩:=World.cell?_of_block (w:=w) (h.block b a c)
theorem Kept.frozen(h:Kept X w w1){b o:Nat}(a:b<w.heap.size)(c:¬X b):w1.frozen? ⟨b,o,none⟩=w.frozen? ⟨b,o,none⟩:=World.frozen?_of_block (w:=w) (h.block b a c)
theorem KW.kept{p:Pm}(h:KW p w)(k:Kept X w w1)(c:∀b o v,p b o=some v→¬X b):KW p w1:=fun b o v a=>by rw[k.cell (h.lt a) (c b o v a)];exact h b o v a
theorem dL{B:Nat}{e:TypeId}{size:Nat}{v:Value}{n:Nat}{xs:List Value}(h:w.ownsRow B e size v n xs)(k:Kept X w w1)(a:∀g,v.ownBlock=some g→¬X g):w1.ownsRow B e size v n xs:=
 ⟨h.1,h.2.imp id fun⟨g,cap,cur,h1,h2,h3,b⟩=>⟨g,cap,cur,h1,h2,by rw[k.block g (Array.getElem?_eq_some_iff.1 h3).1 (a g (by rw[h1];rfl))];exact h3,b⟩⟩
theorem eH{B:Nat}{e:TypeId}{size:Nat}{v:Value}{n:Nat}{xs:List Value}(h:w.ownsRow B e size v n xs){a:Addr}(ha:v.ownBlock≠some a.block)(u:Value):(w.setCell a u).ownsRow B e size v n xs:=
 dL (X:=fun k=>k=a.block) h ((Kept.refl (fun k=>k=a.block) w).setCell (a:=a) (fun _=>rfl) u) fun g b e=>ha (e▸b)
end
theorem aZ{w:World}{B:Nat}{e:TypeId}{size:Nat}{v:Value}{n:Nat}{xs:List Value}(h:w.ownsRow B e size v n xs):∃a c,v= .slice a n c:=by
 rcases h.2 with⟨rfl,rfl⟩|⟨g,cap,cur,rfl,_⟩
 ·exact⟨_,_,rfl⟩
 ·exact⟨_,_,rfl⟩
theorem dC(w:World)(x:Value)(T:TypeId):∀j u,[x][j]?=some u→(w.alloc (.cells #[x] T)).cell? ((⟨w.heap.size,0,none⟩:Addr).add j)=some u:=by
 intro j u a;rw[show(⟨w.heap.size,0,none⟩:Addr).add j=⟨w.heap.size,j,none⟩ by unfold Addr.add;split<;>simp_all,World.cell?_alloc_new];simpa using a
theorem one_one{x:Value}(h:x.oneCell'=true):∀v∈ [x],v.oneCell'=true:=by intro v a;simp at a;subst a;exact h
end TS
namespace Go.Proofs.YtgbklbbknehefaaGreatDoor
open Go.RowKit TS
theorem rR:(Tryz.prog.info? 38).map (fun i=>(i.zero,i.size,i.bytes))=some (some (.pointer none),1,8):=by kernel_rfl
theorem rS:(Tryz.prog.info? 102).map (fun i=>(i.zero,i.size,i.bytes))=some (some (.pointer none),1,8):=by kernel_rfl
theorem oz:(Tryz.prog.info? 191).map (fun i=>(i.zero,i.size,i.bytes))=some (some (.pointer none),1,8):=by kernel_rfl
end Go.Proofs.YtgbklbbknehefaaGreatDoor
namespace TS
open Go Go.RowKit Go.ChangeMaps
def Plain(w:World)(b:Nat):Prop:=∃cs T,w.heap[b]?=some (.cells cs T (0,0))
theorem ix{w:World}{b:Nat}(h:Plain w b)(a:Addr)(v:Value):Plain (w.setCell a v) b:=by
 obtain⟨cs,T,c⟩:=h;by_cases e:b=a.block
 ·subst e
  refine⟨if a.spot.isSome then cs else cs.setIfInBounds a.off v,T,?_⟩;unfold World.setCell;simp only[Array.getElem?_modify,if_pos rfl,c];rfl
 ·exact⟨cs,T,by rw[Below.heap_setCell _ _ _ _ e];exact c⟩
structure KeyLaw(P:Program)(kt:TypeId)(K:World→Value→Prop):Prop where
 check:∀(w:World)(em:Bool){v:Value},K w v→(Instr.checkKey em 10000 kt v).run P w= .ok () w
 find:∀(w:World){x:Value},K w x→∀es:List MapEntry,(∀e∈es,K w e.key)→
  ((Instr.findKey kt x es).run P w= .ok none w∧∀e∈es,e.key≠x)∨∃j e,(Instr.findKey kt x es).run P w= .ok (some (j,e.val)) w∧es[j]?=some e∧e.key=x
 stays:∀(w:World){v:Value},K w v→(Instr.keyThatStays v v).run P w= .ok v w
def bT(K:World→Value→Prop)(w:World)(b:Nat)(F:Value→Option Value):Prop:=
 ∃es clock,w.heap[b]?=some (.map es clock)∧(∀e∈es.toList,K w e.key∧F e.key=some e.val)∧(∀x v,F x=some v→∃e∈es.toList,e.key=x)∧es.toList.Pairwise fun x y=>x.key≠y.key
section
variable {P:Program} {kt:TypeId} {K:World→Value→Prop} {w w':World} {b:Nat} {F:Value→Option Value}
theorem iy(K:World→Value→Prop)(w:World):bT K (w.alloc (.map #[] 0)) w.heap.size fun _=>none:=
 ⟨#[],0,(MapKept.heap_alloc w _).1,by simp,by simp,by simp⟩
theorem bT.lt(h:bT K w b F):b<w.heap.size:=by obtain⟨es,clock,a,_⟩:=h;exact(Array.getElem?_eq_some_iff.1 a).1
theorem bT.of(h:bT K w b F)(a:w'.heap[b]?=w.heap[b]?)(c:∀v,K w v→K w' v):bT K w' b F:=by
 obtain⟨es,clock,d,h1,h2,h3⟩:=h;exact⟨es,clock,a.trans d,fun e he=>⟨c _ (h1 e he).1,(h1 e he).2⟩,h2,h3⟩
theorem bT.look(h:bT K w b F)(L:KeyLaw P kt K){t e:TypeId}(f:P.underlying t=some (.map kt e)){z:Value}(i:(zeroValue e).run P w= .ok z w){x:Value}(a:K w x):
 (Instr.lookup t (.map (some b)) x false).run P w= .ok ((F x).getD z) w:=by
 obtain⟨es,clock,g,h1,h2,_⟩:=h;rcases L.find w a es.toList (fun e he=>(h1 e he).1)with⟨c,k⟩|⟨j,d,c,l,hk⟩
 ·have hF:F x=none:=by
   cases hF:F x with
   |none=>rfl
   |some v=>obtain⟨d,he,hk⟩:=h2 x v hF;exact absurd hk (k d he)
  simp[Instr.lookup,run_underlying f,MapKept.run_getObj_map g,L.check w _ a,c,i,hF,Result.andThen]
 ·have:=(h1 d (List.mem_of_getElem? l)).2
  rw[hk]at this;simp[Instr.lookup,run_underlying f,MapKept.run_getObj_map g,L.check w _ a,c,this,Result.andThen]
def kL(K:World→Value→Prop):Prop:=∀(w W:World)(b:Nat)(es:Array MapEntry)(c:Nat),w.heap[b]?=some (.map es c)→(∀k,k≠b→W.heap[k]?=w.heap[k]?)→∀y,K w y→K W y
theorem bT.store(h:bT K w b F)(L:KeyLaw P kt K)(U:kL K){t e:TypeId}(R:P.underlying t=some (.map kt e)){x:Value}(v:Value)(B:K w x):
 ∃w',(Instr.mapUpdate t (.map (some b)) x v).run P w= .ok () w'∧(∀C:Value→Option Value,(∀y,y≠x→C y=F y)→C x=some v→bT K w' b C)∧w.grownBy w' (some b):=by
 obtain⟨es,clock,p,h1,h2,h3⟩:=h;have D:∀o,w.grownBy (ChangeMaps.setBlock w b o) (some b):=fun o=>⟨rfl,rfl,rfl,by simp[ChangeMaps.setBlock],fun i _ hi=>heap_setBlock_other p _ (fun e=>hi (by rw[e]))⟩
 have q:∀o y,K w y→K (ChangeMaps.setBlock w b o) y:=fun o y r=>U w _ b es clock p (fun k hk=>heap_setBlock_other p _ hk) y r;rcases L.find w B es.toList (fun e he=>(h1 e he).1)with⟨J,S⟩|⟨j,M,J,H,hk⟩
 ·refine⟨ChangeMaps.setBlock w b (.map (es.push ⟨x,v,clock⟩) (clock+1)),?_,fun C l s=>⟨_,_,heap_setBlock_same p _,fun e he=> ?_,fun y u r=> ?_,?_⟩,D _⟩
  ·simp[Instr.mapUpdate,run_underlying R,MapKept.run_getObj_map p,L.check w false B,J,MapKept.run_setObj_map _ p,Result.andThen,ChangeMaps.setBlock]
  ·simp only[Array.toList_push,List.mem_append,List.mem_singleton]at he
   rcases he with he|rfl
   ·exact⟨q _ _ (h1 e he).1,by rw[l _ (S e he)];exact(h1 e he).2⟩
   ·exact⟨q _ _ B,s⟩
  ·by_cases g:y=x
   ·exact⟨⟨x,v,clock⟩,by simp,g.symm⟩
   ·rw[l y g]at r
    obtain⟨e,he,hk⟩:=h2 y u r;exact⟨e,by simp[Array.mem_toList_iff.1 he],hk⟩
  ·simp only[Array.toList_push]
   rw[List.pairwise_append];exact⟨h3,List.pairwise_singleton _ _,fun a ha c T=>by simp at T;subst T;exact S a ha⟩
 ·have m:=(List.getElem?_eq_some_iff.1 H).1
  have z:=(List.getElem?_eq_some_iff.1 H).2;have N:es[j]?=some M:=by rw[←Array.getElem?_toList];exact H
  have n:(es.modify j fun e=> {e with key:=x,val:=v}).toList=es.toList.set j {M with key:=x,val:=v}:=by
   rw[Array.toList_modify];exact modify_eq_set _ _ _ _ H
  have d:∀i(hi:i<es.toList.length),i≠j→(es.toList[i]).key≠x:=fun i hi V=>by
   have I:=List.pairwise_iff_getElem.1 h3;intro E;rcases Nat.lt_or_ge i j with O|W
   ·exact I i j hi m O (by rw[E,z,hk])
   ·exact I j i m hi (by omega) (by rw[E,z,hk])
  refine⟨ChangeMaps.setBlock w b (.map (es.modify j fun e=> {e with key:=x,val:=v}) clock),?_,fun C l s=>⟨_,_,heap_setBlock_same p _,fun e he=> ?_,fun y u r=> ?_,?_⟩,D _⟩
  ·simp[Instr.mapUpdate,run_underlying R,MapKept.run_getObj_map p,L.check w false B,J,N,hk,L.stays w B,MapKept.run_setObj_map _ p,Result.andThen,ChangeMaps.setBlock]
  ·rw[n]at he
   obtain⟨i,hi,rfl⟩:=List.getElem_of_mem he;simp only[List.length_set]at hi;rw[List.getElem_set];split
   ·exact⟨q _ _ B,s⟩
   ·rename_i f
    have:=h1 _ (List.getElem_mem hi);exact⟨q _ _ this.1,by rw[l _ (d i hi fun e=>f e.symm)];exact this.2⟩
  ·rw[n]
   by_cases g:y=x
   ·exact⟨{M with key:=x,val:=v},by rw[List.mem_iff_getElem];exact⟨j,by simpa using m,by simp⟩,g.symm⟩
   ·rw[l y g]at r
    obtain⟨e,he,G⟩:=h2 y u r;obtain⟨i,hi,rfl⟩:=List.getElem_of_mem he;have f:j≠i:=fun e=>g (by subst e;rw[←G,z,hk]);exact⟨es.toList[i],by rw[List.mem_iff_getElem];exact⟨i,by simpa using hi,by rw[List.getElem_set_ne f]⟩,G⟩
  ·rw[n]
   rw[List.pairwise_iff_getElem];intro i k hi A Q;simp only[List.length_set]at hi A;have I:=List.pairwise_iff_getElem.1 h3 i k hi A Q;rw[List.getElem_set,List.getElem_set];split
   ·split
    ·omega
    ·rename_i f;exact fun e=>d k A (fun e=>f e.symm) e.symm
   ·split
    ·rename_i f _;exact d i hi fun e=>f e.symm
    ·exact I
end
theorem zj{P:Program}{kt:TypeId}(h:P.underlying kt=some .string):KeyLaw P kt fun _ v=> ∃s,v= .string s where
 check w em _ a:=by obtain⟨s,rfl⟩:=a;exact MapKept.run_checkKey h (d:= .string) (k:= .string s) trivial em 9999
 find w _ i es c:=by
  obtain⟨s,rfl⟩:=i;have f:∀x∈es,MapKept.IsKey .string x.key:=fun x g=>by obtain⟨m,e⟩:=c x g;rw[e];trivial
  rcases MapKept.findNow_spec (d:= .string) (k:= .string s) trivial es 0 f with⟨h1,h2⟩|⟨j,l,h1,h2,h3⟩
  ·exact Or.inl ⟨MapKept.run_findKey h h1,h2⟩
  ·exact Or.inr ⟨j,l,by simpa using MapKept.run_findKey h h1,h2,h3⟩
 stays w _ a:=by obtain⟨s,rfl⟩:=a;exact MapKept.run_keyThatStays (d:= .string) (k:= .string s) trivial
theorem rT{P:Program}{kt:TypeId}{K:World→Value→Prop}{w:World}{x:Value}(f:∀y,K w y→(y=x∧(Op.equal kt x y).run P w= .ok true w)∨(y≠x∧(Op.equal kt x y).run P w= .ok false w)):∀(es:List MapEntry)(i:Nat),(∀e∈es,K w e.key)→
 ((Instr.findAsking kt x es i).run P w= .ok none w∧∀e∈es,e.key≠x)∨∃j e,(Instr.findAsking kt x es i).run P w= .ok (some (i+j,e.val)) w∧es[j]?=some e∧e.key=x:=by
 intro es;induction es with
 |nil=>exact fun i _=> .inl ⟨rfl,by simp⟩
 |cons e r ih=>
  intro i h;rcases f e.key (h e List.mem_cons_self)with⟨h1,h2⟩|⟨h1,h2⟩
  ·exact .inr ⟨0,e,by simp[Instr.findAsking,h2,Result.andThen],rfl,h1⟩
  ·rcases ih (i+1) (fun y a=>h y (List.mem_cons_of_mem _ a))with⟨c,d⟩|⟨j,g,c,d,k⟩
   ·exact .inl ⟨by simp[Instr.findAsking,h2,c,Result.andThen],fun y a=>by
     rcases List.mem_cons.1 a with rfl|a
     ·exact h1
     ·exact d y a⟩
   ·exact .inr ⟨j+1,g,by simp[Instr.findAsking,h2,c,Result.andThen];omega,by simpa using d,k⟩
def oA(w:World)(v:Value):Prop:=∃b,v= .pointer (some ⟨b,0,none⟩)∧Plain w b
theorem rU{P:Program}{kt m:TypeId}{j:TypeInfo}(g:P.underlying kt=some (.pointer m))(i:P.info? m=some j)(o:j.size≠0):KeyLaw P kt oA where
 check w em _ p:=by
  obtain⟨b,rfl,_⟩:=p;have h:∀n,(Instr.checkKey em (n+1) kt (.pointer (some ⟨b,0,none⟩))).run P w= .ok () w:=fun n=>by simp[Instr.checkKey,run_underlying g,Result.andThen]
  exact h 9999
 find w x t es f:=by
  obtain⟨b,rfl,cs,T,u⟩:=t;have v:∀y,oA w y→(y=(.pointer (some ⟨b,0,none⟩))∧(Op.equal kt (.pointer (some ⟨b,0,none⟩)) y).run P w= .ok true w)∨(y≠(.pointer (some ⟨b,0,none⟩))∧(Op.equal kt (.pointer (some ⟨b,0,none⟩)) y).run P w= .ok false w):=by
   rintro y ⟨c,rfl,z,T',A⟩;by_cases h:c=b
   ·subst h
    have h:∀d,(Op.equalIn (d+1) kt (.pointer (some ⟨c,0,none⟩)) (.pointer (some ⟨c,0,none⟩))).run P w= .ok true w:=fun d=>by simp[Op.equalIn,run_underlying g,Go.sizeOf,typeInfo,i,run_sameAddr_same]
    exact .inl ⟨rfl,h 9999⟩
   ·have l:∀d,(Op.equalIn (d+1) kt (.pointer (some ⟨b,0,none⟩)) (.pointer (some ⟨c,0,none⟩))).run P w= .ok false w:=fun d=>by
     simp[Op.equalIn,run_underlying g,Go.sizeOf,typeInfo,i,o,run_sameAddr_other w (a:=⟨b,0,none⟩) (b:=⟨c,0,none⟩) (fun e=>h (by cases e;rfl)) u A]
    exact .inr ⟨fun e=>h (by cases e;rfl),l 9999⟩
  match es,f with
  | [],_=>exact .inl ⟨by simp[Instr.findKey,run_underlying g,Instr.findNow,Result.andThen],by simp⟩
  |e::r,f=>
   have k:Instr.findNow (.pointer m) (.pointer (some ⟨b,0,none⟩)) (e::r) 0=none:=by simp[Instr.findNow,Instr.sameNow]
   rcases rT v (e::r) 0 f with⟨q,s⟩|⟨j,B,q,s,C⟩
   ·exact .inl ⟨by simp[Instr.findKey,run_underlying g,k,q,Result.andThen],s⟩
   ·exact .inr ⟨j,B,by simp[Instr.findKey,run_underlying g,k,q,Result.andThen],s,C⟩
 stays w _ p:=by
  obtain⟨b,rfl,_⟩:=p;have h:∀n,Instr.sameBits (n+1) (.pointer (some ⟨b,0,none⟩)) (.pointer (some ⟨b,0,none⟩))=true:=fun n=>by simp[Instr.sameBits]
  have l:=h 9999;simp only[Nat.reduceAdd]at l;simp[Instr.keyThatStays,l]
def eu(P:Program)(w:World)(v:Value):Prop:=∃t a b i j,v= .iface t (.pointer (some ⟨b,0,none⟩))∧P.underlying t=some (.pointer a)∧P.info? t=some i∧i.comparable=true∧P.info? a=some j∧j.size≠0∧Plain w b
theorem zl{P:Program}{kt:TypeId}{ms:Array (String×TypeId)}(hi:P.underlying kt=some (.interface ms)):KeyLaw P kt (eu P) where
 check w em _ s:=by
  obtain⟨t,B,b,i,j,rfl,m,a,o,f,k,_⟩:=s;have h:∀n,(Instr.checkKey em (n+2) kt (.iface t (.pointer (some ⟨b,0,none⟩)))).run P w= .ok () w:=fun n=>by simp[Instr.checkKey,run_underlying hi,run_underlying m,typeInfo,a,o,Result.andThen]
  exact h 9998
 find w x E es g:=by
  obtain⟨t,B,b,i,j,rfl,m,a,o,f,k,cs,T,G⟩:=E;have H:∀y,eu P w y→(y=(.iface t (.pointer (some ⟨b,0,none⟩)))∧(Op.equal kt (.iface t (.pointer (some ⟨b,0,none⟩))) y).run P w= .ok true w)∨(y≠(.iface t (.pointer (some ⟨b,0,none⟩)))∧(Op.equal kt (.iface t (.pointer (some ⟨b,0,none⟩))) y).run P w= .ok false w):=by
   rintro y ⟨t',I,c,Q,R,rfl,J,p,L,C,D,M,T',u⟩;by_cases v:t=t'
   ·subst v
    by_cases h:c=b
    ·subst h
     exact .inl ⟨rfl,run_equalIn_iface_ptr_same w 9998 _ hi m a o f⟩
    ·exact .inr ⟨fun e=>h (by cases e;rfl),run_equalIn_iface_ptr_other w 9998 hi m a o f k (fun e=>h (by cases e;rfl)) G u⟩
   ·have q:∀d,(Op.equalIn (d+1) kt (.iface t (.pointer (some ⟨b,0,none⟩))) (.iface t' (.pointer (some ⟨c,0,none⟩)))).run P w= .ok false w:=fun d=>by simp[Op.equalIn,run_underlying hi,v]
    exact .inr ⟨fun e=>v (by cases e;rfl),q 9999⟩
  match es,g with
  | [],_=>exact .inl ⟨by simp[Instr.findKey,run_underlying hi,Instr.findNow,Result.andThen],by simp⟩
  |e::r,g=>
   have l:Instr.findNow (.interface ms) (.iface t (.pointer (some ⟨b,0,none⟩))) (e::r) 0=none:=by simp[Instr.findNow,Instr.sameNow]
   rcases rT H (e::r) 0 g with⟨z,A⟩|⟨j,N,z,A,O⟩
   ·exact .inl ⟨by simp[Instr.findKey,run_underlying hi,l,z,Result.andThen],A⟩
   ·exact .inr ⟨j,N,by simp[Instr.findKey,run_underlying hi,l,z,Result.andThen],A,O⟩
 stays w _ s:=by
  obtain⟨t,B,b,i,j,rfl,_⟩:=s;have h:∀n,Instr.sameBits (n+2) (.iface t (.pointer (some ⟨b,0,none⟩))) (.iface t (.pointer (some ⟨b,0,none⟩)))=true:=fun n=>by simp[Instr.sameBits]
  have q:=h 9998;simp only[Nat.reduceAdd]at q;simp[Instr.keyThatStays,q]
theorem rV:kL fun _ v=> ∃s,v= .string s:=fun _ _ _ _ _ _ _ _ h=>h
theorem rW{w W:World}{b:Nat}{es:Array MapEntry}{c:Nat}(d:w.heap[b]?=some (.map es c))(hk:∀k,k≠b→W.heap[k]?=w.heap[k]?){x:Nat}(h:Plain w x):Plain W x:=by
 obtain⟨cs,T,a⟩:=h;exact⟨cs,T,by rw[hk x fun e=>by rw[e,d]at a;cases a];exact a⟩
theorem eJ(P:Program):kL (eu P):=fun _ _ _ _ _ a hk _ ⟨t,c,b,i,j,e,h1,h2,h3,d,f,h⟩=>⟨t,c,b,i,j,e,h1,h2,h3,d,f,rW a hk h⟩
section
variable {P:Program} {kt:TypeId} {K:World→Value→Prop}
theorem dM(w:World){ops:Array Oper}{rest:List Oper}{o:Oper}{a:Act}{Q:Exit→Act→World→Prop}(i:o.guard=none)(m x:Operand)(t:TypeId)(f:o.op=Op.lookup t m x false)
 (L:KeyLaw P kt K)(e:TypeId)(j:P.underlying t=some (.map kt e))(z:Value)(k:∀w,(zeroValue e).run P w= .ok z w)(b:Nat)(F:Value→Option Value)(hm:a.eval m= .map (some b))(h:bT K w b F)
 (key:Value)(l:a.eval x=key)(hk:K w key)(val:Value)(d:(F key).getD z=val)(n:wpList P ops Q rest (a.put o.dst val) w):wpList P ops Q (o::rest) a w:=by
 refine wpList_plain i fun p g=> ?_;have c:=h.look L j (k w) hk;rw[d]at c;unfold Oper.wp;simp[execOp,f,hm,l,c,Result.andThen];exact g _ _ n
theorem iz(w:World){ops:Array Oper}{rest:List Oper}{o:Oper}{a:Act}{Q:Exit→Act→World→Prop}(g:o.guard=none)(m x:Operand)(t:TypeId)(d:o.op=Op.lookup t m x false)
 (L:KeyLaw P kt K)(e:TypeId)(h:P.underlying t=some (.map kt e))(z:Value)(i:∀w,(zeroValue e).run P w= .ok z w)(hm:a.eval m= .map none)
 (key:Value)(k:a.eval x=key)(hk:K w key)(l:wpList P ops Q rest (a.put o.dst z) w):wpList P ops Q (o::rest) a w:=by
 refine wpList_plain g fun q f=> ?_;have c:(Instr.lookup t (.map none) key false).run P w= .ok z w:=by
  rcases L.find w hk [] (by simp)with⟨n,_⟩|⟨j,r,_,p,_⟩
  ·simp[Instr.lookup,run_underlying h,L.check w true hk,n,i,Result.andThen]
  ·simp at p
 unfold Oper.wp;simp[execOp,d,hm,k,c,Result.andThen];exact f _ _ l
theorem dN(w:World){ops:Array Oper}{rest:List Oper}{o:Oper}{a:Act}{Q:Exit→Act→World→Prop}(j:o.guard=none)(m x v:Operand)(t:TypeId)(d:o.op=Op.mapUpdate t m x v)
 (L:KeyLaw P kt K)(f:kL K)(e:TypeId)(k:P.underlying t=some (.map kt e))(b:Nat)(F:Value→Option Value)(hm:a.eval m= .map (some b))(h:bT K w b F)(key val:Value)(l:a.eval x=key)(n:a.eval v=val)(hk:K w key)
 (p:∀w',(∀g:Value→Option Value,(∀y,y≠key→g y=F y)→g key=some val→bT K w' b g)→w.grownBy w' (some b)→wpList P ops Q rest (a.put o.dst undef) w'):wpList P ops Q (o::rest) a w:=by
 refine wpList_plain j fun s i=> ?_;obtain⟨w',c,q,r⟩:=h.store L f k val hk;unfold Oper.wp;simp[execOp,d,hm,l,n,c,Result.andThen];exact i _ _ (p w' q r)
end
end TS
namespace Go.Proofs.YtgbklbbknehefaaGreatDoor
open Go.RowKit TS
theorem rX(B b bo r pb:Nat)(s nm:ByteArray)(fs:List Nat)(aB:Nat→ByteArray)(v:Value)(w:World)(hn:fs.length≤1099511627776)
 (h1:w.cell? ⟨b,1,none⟩=some (.pointer (some ⟨bo,0,none⟩)))(h5:w.cell? ⟨b,5,none⟩=some (.int .u32 15))(Z:w.cell? ⟨b,9,none⟩=some v)(f9:w.frozen? ⟨b,9,none⟩=false)(F:v.ownBlock≠some b)
 (f:w.ownsRow B 38 1 v fs.length (fs.map fun b=> .pointer (some ⟨b,0,none⟩)))(hB:B≤w.heap.size)
 (ho:w.cell? ⟨bo,1,none⟩=some (.pointer (some ⟨pb,0,none⟩)))(hm:w.cell? ⟨r,1,none⟩=some (.pointer (some ⟨pb,0,none⟩)))(P4:w.cell? ⟨r,2,none⟩=some (.string nm))(hp:w.cell? ⟨pb,0,none⟩=some (.string s))
 (hs:∀(i:Nat)(h:i<fs.length),w.cell? ⟨fs[i],2,none⟩=some (.string (aB i)))(G:∀i,i<fs.length→((aB i).toList==nm.toList)=false)(h_:(nm.toList== [95])=false):
 Calls Tryz.prog 84 #[.pointer (some ⟨b,0,none⟩),.pointer (some ⟨r,0,none⟩)] w fun e q=>e= .returned (.tuple #[])∧
  ∃H,q.cell? ⟨b,9,none⟩=some H∧q.frozen? ⟨b,9,none⟩=false∧(H.ownBlock=v.ownBlock∨∃k,H.ownBlock=some k∧w.heap.size≤k)∧q.ownsRow B 38 1 H (fs++ [r]).length ((fs++ [r]).map fun b=> .pointer (some ⟨b,0,none⟩))∧
   Kept (fun k=>k=b∨v.ownBlock=some k) w q∧(∀o,o≠9→q.cell? ⟨b,o,none⟩=w.cell? ⟨b,o,none⟩)∧(Plain w b→Plain q b):=by
 obtain⟨a,c,rfl⟩:=aZ f;have I:Hid (bj w a fs.length (fun i=>fs.getD i 0)):=fun i hi=>by
  rcases f.2 with⟨_,h0⟩|⟨g,cap,cur,e,_⟩
  ·omega
  ·cases e
   have:=f.cells (g:=g) rfl i (.pointer (some ⟨fs[i],0,none⟩)) (by simp[hi]);rw[show(⟨g,0,none⟩:Addr).add i=⟨g,i,none⟩ by unfold Addr.add;split<;>simp_all]at this;exact⟨g,0,rfl,by simpa [hi]using this⟩
 have J:Hid (∀i,i<fs.length→w.cell? ⟨fs.getD i 0,2,none⟩=some (.string (aB i))):=fun i hi=>by simpa [hi]using hs i hi
 have u:=Lib.hid G;have l:=Lib.hid f;have d:=Lib.hid F;have K:=Lib.hid hB;have L:=World.block_lt_of_cell? _ _ Z;simp only at L;obtain⟨i0,hi,P5,P6,P7⟩:=info_parts rR;clear hs G f F hB;have M:(s.toList==s.toList)=true:=by simp
 go_enter Tryz.func84,Tryz.ntmps84;go_wp2_with fail
 go_quiet (first|(go_at_call 127;exact Calls.quiet_of ((yl pb pb s s _ (by simpa using hp) (by simpa using hp)).mono (by rintro e q ⟨he,hw⟩;rw[M]at he;exact⟨he,hw⟩)))|(go_at_call 108;exact Calls.quiet_of_same ((gA _).mono (by rintro e q ⟨he,hw⟩;exact⟨he,hw.symm⟩))))
 go_wp2_with fail
 refine(rI b _ (by simpa using h5)).mono ?_;rintro e q ⟨rfl,rfl⟩;go_wp2_with fail
 refine(yw b a fs.length c (fun i=>fs.getD i 0) aB nm _ hn (by simpa using Z) (fun i hi=>by obtain⟨b',o,rfl,h⟩:=I.out i hi;exact⟨b',o,rfl,by simpa using h⟩) (fun i hi=>by simpa using J.out i hi) u.out h_).mono ?_;rintro e q ⟨rfl,rfl⟩;generalize x:w.drewN nq=W at*;have y:∀a,W.cell? a=w.cell? a:=fun a=>by rw[←x];simp
 have N:∀a,W.frozen? a=w.frozen? a:=fun a=>by rw[←x];simp
 have m:Hid (W.ownsRow B 38 1 (.slice a fs.length c) fs.length (fs.map fun b=> .pointer (some ⟨b,0,none⟩))):=by rw[←x];exact l.out
 have O:Hid (Plain w b→Plain W b):=by rw[←x];exact fun h=>h
 have hK:Hid (Kept (fun k=>k=b∨(Value.slice a fs.length c).ownBlock=some k) w W):=by rw[←x];exact⟨rfl,rfl,rfl,Nat.le_refl _,fun _ _ _=>rfl⟩
 have z:Hid (B≤W.heap.size∧W.heap.size=w.heap.size):=by rw[←x];exact⟨K.out,rfl⟩
 have P:W.cell? ⟨b,9,none⟩=some (.slice a fs.length c):=by rw[y];exact Z
 have Q:W.frozen? ⟨b,9,none⟩=false:=by rw[N];exact f9
 have A:b<W.heap.size:=by rw[z.out.2];exact L
 have R:=Lib.hid y;clear I J u l K x y N Z f9 h1 h5 ho hm P4 hp M h_;have n:=Lib.hid (m.out.alloc (.cells #[.pointer (some ⟨r,0,none⟩)] 38));go_wp2_with (at_builtin;refine wpList_append_own_at _ rfl _ _ 114 rfl B 38 i0 (.pointer none) 1 8 Tryz.underlying114 hi P5 P6 P7 rfl (by decide) _ _ _ rfl n.out ⟨W.heap.size,0,none⟩ 1 1 [.pointer (some ⟨r,0,none⟩)] rfl rfl (dC W _ _) (one_one rfl) ?c3 ?c4 ?c5 ?_)
 case c3=>unfold maxLen;omega
 case c4=>omega
 case c5=>simp;have:=z.out.1;omega
 intro H C j p _ D;obtain⟨a',c',rfl⟩:=aZ j;have S:Hid ((Value.slice a' (fs.length+1) c').ownBlock=a.map (·.block)∨∃k,(Value.slice a' (fs.length+1) c').ownBlock=some k∧w.heap.size≤k):=by
  rcases D with e|e
  ·left;rw[e];cases a<;>rfl
  ·right;refine⟨_,e,?_⟩;have:=z.out.2;omega
 have U:Hid ((Value.slice a' (fs.length+1) c').ownBlock≠some b):=by
  rcases D with e|e
  ·rw[e];exact d.out
  ·rw[e];intro h;injection h with h;omega
 have P8:Hid (Kept (fun k=>k=b∨(Value.slice a fs.length c).ownBlock=some k) w C):=(hK.out.alloc _).grown p fun k hk _=> .inr hk;have V:Hid (Plain w b→Plain C b):=fun h=>by
  obtain⟨cs,T,h⟩:=O.out h;refine⟨cs,T,?_⟩;rw[p.block b (by simp;omega) fun e=>d.out e.symm];exact(Below.heap_alloc _ _ _ A).trans h
 have X:Hid (∀o,C.cell? ⟨b,o,none⟩=W.cell? ⟨b,o,none⟩):=fun o=>by
  have e1:C.cell? ⟨b,o,none⟩=(W.alloc (.cells #[.pointer (some ⟨r,0,none⟩)] 38)).cell? ⟨b,o,none⟩:=World.cell?_of_block (p.block b (by simp;omega) fun e=>d.out e.symm);rw[e1,World.cell?_alloc_lt _ _ _ A]
 have Y:C.frozen? ⟨b,9,none⟩=false:=by
  have e1:C.frozen? ⟨b,9,none⟩=(W.alloc (.cells #[.pointer (some ⟨r,0,none⟩)] 38)).frozen? ⟨b,9,none⟩:=World.frozen?_of_block (p.block b (by simp;omega) fun e=>d.out e.symm);rw[e1,World.frozen?_alloc_old _ _ _ (Nat.ne_of_lt A)];exact Q
 have E:C.cell? ⟨b,9,none⟩=some (.slice a fs.length c):=by rw[X.out];exact P
 have t:=Lib.hid j;have P9:=d.out;have aa:=World.block_lt_of_cell? _ _ E;simp only at aa;clear j p D d hK m n P Q;go_wp2_with fail
 go_end0
 refine⟨rfl,.slice a' (fs.length+1) c',by simp[go_sem,E,Y],by simp[go_sem,E,Y],?_,?_,?_,fun o ho=> ?_,fun h=>ix (V.out h) _ _⟩
 ·rcases S.out with e|e
  ·left;rw[e];cases a<;>rfl
  ·exact .inr e
 ·refine eH ?_ U.out _
  simpa using t.out
 ·exact P8.out.setCell (fun _=> .inl rfl) _
 ·rw[World.cell?_setCell_other _ _ _ _ (by first|(simp;done)|(simp;omega)),X.out,R.out]
end Go.Proofs.YtgbklbbknehefaaGreatDoor
